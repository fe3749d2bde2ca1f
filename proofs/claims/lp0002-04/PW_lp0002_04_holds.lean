import PyProof.Rows.All
import Wide.All
import OpenK.AllK
import Wide.FinOn
import PySem.Challenge.RW_lp0002_04
open PySem PySem.W PyProof.Rows
set_option Elab.async false
set_option maxRecDepth 100000
set_option maxHeartbeats 8000000
set_option linter.unusedVariables false
set_option linter.unusedSimpArgs false
namespace Mine
noncomputable def rwS (i : Nat) (l : List Stmt) : Stmt := l.getD i (.Pass ⟨0, 0, 0, 0⟩)
noncomputable def rwF (s : Stmt) (h : s.ctorIdx = 0) (k : Str → Arguments → FuncBody → Scope → FuncData) : FuncData := @Stmt.FunctionDef.elim (fun _ => FuncData) s h (fun n a b _ _ _ c _ _ _ => k n a (.stmts b) c)
noncomputable def rwC (s : Stmt) (h : s.ctorIdx = 2) : List Stmt := @Stmt.ClassDef.elim (fun _ => List Stmt) s h (fun _ _ _ b _ _ _ _ _ _ _ => b)
noncomputable def rwT (i : Nat) (h : (rwS i Challenge.pw_lp0002_04.main.body).ctorIdx = 0) := rwF _ h
noncomputable def rwM (i j : Nat) (h : (rwS i Challenge.pw_lp0002_04.main.body).ctorIdx = 2) (g : (rwS j (rwC _ h)).ctorIdx = 0) := rwF _ g
abbrev RwWay (v : FuncData) := (x : FuncData) → x = v → FuncData
noncomputable def K4 (P : Params) : Frag := (
  (nat_lit 2, Obj.mk Value.none Option.none (Data.dict #[]) #[]) ::
  (nat_lit 3, Obj.mk (Value.type "dict") Option.none (Data.dict #[DictEntry.mk (PyData.keyHash P (Str.ofString "__name__")) (Value.str (Str.ofString "__name__") 165) (Value.str (Str.ofString "law_lp0002_04") 798), DictEntry.mk (PyData.keyHash P (Str.ofString "__doc__")) (Value.str (Str.ofString "__doc__") 166) Value.none, DictEntry.mk (PyData.keyHash P (Str.ofString "__package__")) (Value.str (Str.ofString "__package__") 167) Value.none, DictEntry.mk (PyData.keyHash P (Str.ofString "__loader__")) (Value.str (Str.ofString "__loader__") 168) (Value.builtin "__main__.__loader__#opaque"), DictEntry.mk (PyData.keyHash P (Str.ofString "__spec__")) (Value.str (Str.ofString "__spec__") 169) Value.none, DictEntry.mk (PyData.keyHash P (Str.ofString "__annotations__")) (Value.str (Str.ofString "__annotations__") 170) (Value.ref 6), DictEntry.mk (PyData.keyHash P (Str.ofString "__builtins__")) (Value.str (Str.ofString "__builtins__") 171) (Value.ref 4), DictEntry.mk (PyData.keyHash P (Str.ofString "__file__")) (Value.str (Str.ofString "__file__") 173) (Value.str (Str.ofString "/claim/cut.py") 172), DictEntry.mk (PyData.keyHash P (Str.ofString "__cached__")) (Value.str (Str.ofString "__cached__") 174) Value.none, DictEntry.mk (PyData.keyHash P (Str.ofString "_wall")) (Value.str (Str.ofString "_wall") 193) (Value.ref 21), DictEntry.mk (PyData.keyHash P (Str.ofString "CellId")) (Value.str (Str.ofString "CellId") 797) (Value.ref 425), DictEntry.mk (PyData.keyHash P (Str.ofString "_law_number")) (Value.str (Str.ofString "_law_number") 807) (Value.ref 436), DictEntry.mk (PyData.keyHash P (Str.ofString "_law_id")) (Value.str (Str.ofString "_law_id") 815) (Value.ref 443), DictEntry.mk (PyData.keyHash P (Str.ofString "law")) (Value.str (Str.ofString "law") 841) (Value.ref 450)] 14) #[]) ::
  (nat_lit 15, Obj.mk (Value.type "tuple") Option.none (Data.seq #[]) #[]) ::
  (nat_lit 17, Obj.mk (Value.type "tuple") Option.none (Data.seq #[Value.str (Str.ofString "k") 190]) #[]) ::
  (nat_lit 18, Obj.mk (Value.type "tuple") Option.none (Data.seq #[]) #[]) ::
  (nat_lit 20, Obj.mk (Value.type "code") Option.none (Data.fields #[Value.str (Str.ofString "_wall") 187, Value.str (Str.ofString "_wall") 188, Value.str (Str.ofString "/claim/cut.py") 189, Value.int 1 0, Value.int 1 0, Value.int 0 0, Value.int 0 0, Value.int 3 0, Value.ref 15, Value.bool Bool.true, Value.int 181 0, Value.ref 16, Value.none, Value.ref 17, Value.ref 18, Value.ref 19, Value.int 191 0, Value.int 1 0, Value.str (Str.ofString "/claim/cut.py") 192]) #[]) ::
  (nat_lit 21, Obj.mk (Value.type "function") Option.none (Data.func (by (refine' (_ : RwWay (rwT 0 rfl fun n a b c => FuncData.mk n n a b c 3 [] Value.none Value.none Value.none (Value.str (Str.ofString "__main__") 164) Option.none (Value.ref 20) Value.none 0)) _ _; exact fun x _ => x; rotate_left; conv => (rhs; whnf)))) #[]) ::
  (nat_lit 22, Obj.mk (Value.type "tuple") Option.none (Data.seq #[Value.type "object"]) #[]) ::
  (nat_lit 29, Obj.mk (Value.type "tuple") Option.none (Data.seq #[Value.int 0 231]) #[]) ::
  (nat_lit 30, Obj.mk (Value.type "tuple") Option.none (Data.seq #[]) #[]) ::
  (nat_lit 32, Obj.mk (Value.type "tuple") Option.none (Data.seq #[Value.str (Str.ofString "self") 235, Value.str (Str.ofString "id_") 236]) #[]) ::
  (nat_lit 33, Obj.mk (Value.type "tuple") Option.none (Data.seq #[]) #[]) ::
  (nat_lit 35, Obj.mk (Value.type "code") Option.none (Data.fields #[Value.str (Str.ofString "__init__") 232, Value.str (Str.ofString "CellId.__init__") 233, Value.str (Str.ofString "/claim/cut.py") 234, Value.int 17 0, Value.int 2 0, Value.int 0 0, Value.int 0 0, Value.int 3 0, Value.ref 30, Value.bool Bool.true, Value.int 181 0, Value.ref 31, Value.none, Value.ref 32, Value.ref 33, Value.ref 34, Value.int 237 0, Value.int 17 0, Value.str (Str.ofString "/claim/cut.py") 238]) #[]) ::
  (nat_lit 36, Obj.mk (Value.type "function") Option.none (Data.func (by (refine' (_ : RwWay (rwM 2 10 rfl rfl fun n a b c => FuncData.mk n (Str.ofString "CellId.__init__") a b c 3 [] (Value.ref 29) Value.none Value.none (Value.str (Str.ofString "s2sphere.sphere") 194) Option.none (Value.ref 35) Value.none 0)) _ _; exact fun x _ => x; rotate_left; conv => (rhs; whnf)))) #[]) ::
  (nat_lit 37, Obj.mk (Value.type "tuple") Option.none (Data.seq #[]) #[]) ::
  (nat_lit 39, Obj.mk (Value.type "tuple") Option.none (Data.seq #[Value.str (Str.ofString "self") 243]) #[]) ::
  (nat_lit 40, Obj.mk (Value.type "tuple") Option.none (Data.seq #[]) #[]) ::
  (nat_lit 42, Obj.mk (Value.type "code") Option.none (Data.fields #[Value.str (Str.ofString "__repr__") 240, Value.str (Str.ofString "CellId.__repr__") 241, Value.str (Str.ofString "/claim/cut.py") 242, Value.int 20 0, Value.int 1 0, Value.int 0 0, Value.int 0 0, Value.int 3 0, Value.ref 37, Value.bool Bool.true, Value.int 181 0, Value.ref 38, Value.none, Value.ref 39, Value.ref 40, Value.ref 41, Value.int 244 0, Value.int 20 0, Value.str (Str.ofString "/claim/cut.py") 245]) #[]) ::
  (nat_lit 43, Obj.mk (Value.type "function") Option.none (Data.func (by (refine' (_ : RwWay (rwM 2 11 rfl rfl fun n a b c => FuncData.mk n (Str.ofString "CellId.__repr__") a b c 3 [] Value.none Value.none Value.none (Value.str (Str.ofString "s2sphere.sphere") 194) Option.none (Value.ref 42) Value.none 0)) _ _; exact fun x _ => x; rotate_left; conv => (rhs; whnf)))) #[]) ::
  (nat_lit 44, Obj.mk (Value.type "tuple") Option.none (Data.seq #[]) #[]) ::
  (nat_lit 46, Obj.mk (Value.type "tuple") Option.none (Data.seq #[Value.str (Str.ofString "self") 250]) #[]) ::
  (nat_lit 47, Obj.mk (Value.type "tuple") Option.none (Data.seq #[]) #[]) ::
  (nat_lit 49, Obj.mk (Value.type "code") Option.none (Data.fields #[Value.str (Str.ofString "__hash__") 247, Value.str (Str.ofString "CellId.__hash__") 248, Value.str (Str.ofString "/claim/cut.py") 249, Value.int 23 0, Value.int 1 0, Value.int 0 0, Value.int 0 0, Value.int 3 0, Value.ref 44, Value.bool Bool.true, Value.int 181 0, Value.ref 45, Value.none, Value.ref 46, Value.ref 47, Value.ref 48, Value.int 251 0, Value.int 23 0, Value.str (Str.ofString "/claim/cut.py") 252]) #[]) ::
  (nat_lit 50, Obj.mk (Value.type "function") Option.none (Data.func (by (refine' (_ : RwWay (rwM 2 12 rfl rfl fun n a b c => FuncData.mk n (Str.ofString "CellId.__hash__") a b c 3 [] Value.none Value.none Value.none (Value.str (Str.ofString "s2sphere.sphere") 194) Option.none (Value.ref 49) Value.none 0)) _ _; exact fun x _ => x; rotate_left; conv => (rhs; whnf)))) #[]) ::
  (nat_lit 51, Obj.mk (Value.type "tuple") Option.none (Data.seq #[]) #[]) ::
  (nat_lit 53, Obj.mk (Value.type "tuple") Option.none (Data.seq #[Value.str (Str.ofString "self") 257, Value.str (Str.ofString "other") 258]) #[]) ::
  (nat_lit 54, Obj.mk (Value.type "tuple") Option.none (Data.seq #[]) #[]) ::
  (nat_lit 56, Obj.mk (Value.type "code") Option.none (Data.fields #[Value.str (Str.ofString "__eq__") 254, Value.str (Str.ofString "CellId.__eq__") 255, Value.str (Str.ofString "/claim/cut.py") 256, Value.int 26 0, Value.int 2 0, Value.int 0 0, Value.int 0 0, Value.int 3 0, Value.ref 51, Value.bool Bool.true, Value.int 181 0, Value.ref 52, Value.none, Value.ref 53, Value.ref 54, Value.ref 55, Value.int 259 0, Value.int 26 0, Value.str (Str.ofString "/claim/cut.py") 260]) #[]) ::
  (nat_lit 57, Obj.mk (Value.type "function") Option.none (Data.func (by (refine' (_ : RwWay (rwM 2 13 rfl rfl fun n a b c => FuncData.mk n (Str.ofString "CellId.__eq__") a b c 3 [] Value.none Value.none Value.none (Value.str (Str.ofString "s2sphere.sphere") 194) Option.none (Value.ref 56) Value.none 0)) _ _; exact fun x _ => x; rotate_left; conv => (rhs; whnf)))) #[]) ::
  (nat_lit 58, Obj.mk (Value.type "tuple") Option.none (Data.seq #[]) #[]) ::
  (nat_lit 60, Obj.mk (Value.type "tuple") Option.none (Data.seq #[Value.str (Str.ofString "self") 265, Value.str (Str.ofString "other") 266]) #[]) ::
  (nat_lit 61, Obj.mk (Value.type "tuple") Option.none (Data.seq #[]) #[]) ::
  (nat_lit 63, Obj.mk (Value.type "code") Option.none (Data.fields #[Value.str (Str.ofString "__ne__") 262, Value.str (Str.ofString "CellId.__ne__") 263, Value.str (Str.ofString "/claim/cut.py") 264, Value.int 29 0, Value.int 2 0, Value.int 0 0, Value.int 0 0, Value.int 3 0, Value.ref 58, Value.bool Bool.true, Value.int 181 0, Value.ref 59, Value.none, Value.ref 60, Value.ref 61, Value.ref 62, Value.int 267 0, Value.int 29 0, Value.str (Str.ofString "/claim/cut.py") 268]) #[]) ::
  (nat_lit 64, Obj.mk (Value.type "function") Option.none (Data.func (by (refine' (_ : RwWay (rwM 2 14 rfl rfl fun n a b c => FuncData.mk n (Str.ofString "CellId.__ne__") a b c 3 [] Value.none Value.none Value.none (Value.str (Str.ofString "s2sphere.sphere") 194) Option.none (Value.ref 63) Value.none 0)) _ _; exact fun x _ => x; rotate_left; conv => (rhs; whnf)))) #[]) ::
  (nat_lit 65, Obj.mk (Value.type "tuple") Option.none (Data.seq #[]) #[]) ::
  (nat_lit 67, Obj.mk (Value.type "tuple") Option.none (Data.seq #[Value.str (Str.ofString "self") 273, Value.str (Str.ofString "other") 274]) #[]) ::
  (nat_lit 68, Obj.mk (Value.type "tuple") Option.none (Data.seq #[]) #[]) ::
  (nat_lit 70, Obj.mk (Value.type "code") Option.none (Data.fields #[Value.str (Str.ofString "__lt__") 270, Value.str (Str.ofString "CellId.__lt__") 271, Value.str (Str.ofString "/claim/cut.py") 272, Value.int 32 0, Value.int 2 0, Value.int 0 0, Value.int 0 0, Value.int 3 0, Value.ref 65, Value.bool Bool.true, Value.int 181 0, Value.ref 66, Value.none, Value.ref 67, Value.ref 68, Value.ref 69, Value.int 275 0, Value.int 32 0, Value.str (Str.ofString "/claim/cut.py") 276]) #[]) ::
  (nat_lit 71, Obj.mk (Value.type "function") Option.none (Data.func (by (refine' (_ : RwWay (rwM 2 15 rfl rfl fun n a b c => FuncData.mk n (Str.ofString "CellId.__lt__") a b c 3 [] Value.none Value.none Value.none (Value.str (Str.ofString "s2sphere.sphere") 194) Option.none (Value.ref 70) Value.none 0)) _ _; exact fun x _ => x; rotate_left; conv => (rhs; whnf)))) #[]) ::
  (nat_lit 72, Obj.mk (Value.type "tuple") Option.none (Data.seq #[]) #[]) ::
  (nat_lit 74, Obj.mk (Value.type "tuple") Option.none (Data.seq #[Value.str (Str.ofString "self") 281, Value.str (Str.ofString "other") 282]) #[]) ::
  (nat_lit 75, Obj.mk (Value.type "tuple") Option.none (Data.seq #[]) #[]) ::
  (nat_lit 77, Obj.mk (Value.type "code") Option.none (Data.fields #[Value.str (Str.ofString "__le__") 278, Value.str (Str.ofString "CellId.__le__") 279, Value.str (Str.ofString "/claim/cut.py") 280, Value.int 35 0, Value.int 2 0, Value.int 0 0, Value.int 0 0, Value.int 3 0, Value.ref 72, Value.bool Bool.true, Value.int 181 0, Value.ref 73, Value.none, Value.ref 74, Value.ref 75, Value.ref 76, Value.int 283 0, Value.int 35 0, Value.str (Str.ofString "/claim/cut.py") 284]) #[]) ::
  (nat_lit 78, Obj.mk (Value.type "function") Option.none (Data.func (by (refine' (_ : RwWay (rwM 2 16 rfl rfl fun n a b c => FuncData.mk n (Str.ofString "CellId.__le__") a b c 3 [] Value.none Value.none Value.none (Value.str (Str.ofString "s2sphere.sphere") 194) Option.none (Value.ref 77) Value.none 0)) _ _; exact fun x _ => x; rotate_left; conv => (rhs; whnf)))) #[]) ::
  (nat_lit 79, Obj.mk (Value.type "tuple") Option.none (Data.seq #[]) #[]) ::
  (nat_lit 81, Obj.mk (Value.type "tuple") Option.none (Data.seq #[Value.str (Str.ofString "self") 289, Value.str (Str.ofString "other") 290]) #[]) ::
  (nat_lit 82, Obj.mk (Value.type "tuple") Option.none (Data.seq #[]) #[]) ::
  (nat_lit 84, Obj.mk (Value.type "code") Option.none (Data.fields #[Value.str (Str.ofString "__gt__") 286, Value.str (Str.ofString "CellId.__gt__") 287, Value.str (Str.ofString "/claim/cut.py") 288, Value.int 38 0, Value.int 2 0, Value.int 0 0, Value.int 0 0, Value.int 3 0, Value.ref 79, Value.bool Bool.true, Value.int 181 0, Value.ref 80, Value.none, Value.ref 81, Value.ref 82, Value.ref 83, Value.int 291 0, Value.int 38 0, Value.str (Str.ofString "/claim/cut.py") 292]) #[]) ::
  (nat_lit 85, Obj.mk (Value.type "function") Option.none (Data.func (by (refine' (_ : RwWay (rwM 2 17 rfl rfl fun n a b c => FuncData.mk n (Str.ofString "CellId.__gt__") a b c 3 [] Value.none Value.none Value.none (Value.str (Str.ofString "s2sphere.sphere") 194) Option.none (Value.ref 84) Value.none 0)) _ _; exact fun x _ => x; rotate_left; conv => (rhs; whnf)))) #[]) ::
  (nat_lit 86, Obj.mk (Value.type "tuple") Option.none (Data.seq #[]) #[]) ::
  (nat_lit 88, Obj.mk (Value.type "tuple") Option.none (Data.seq #[Value.str (Str.ofString "self") 297, Value.str (Str.ofString "other") 298]) #[]) ::
  (nat_lit 89, Obj.mk (Value.type "tuple") Option.none (Data.seq #[]) #[]) ::
  (nat_lit 91, Obj.mk (Value.type "code") Option.none (Data.fields #[Value.str (Str.ofString "__ge__") 294, Value.str (Str.ofString "CellId.__ge__") 295, Value.str (Str.ofString "/claim/cut.py") 296, Value.int 41 0, Value.int 2 0, Value.int 0 0, Value.int 0 0, Value.int 3 0, Value.ref 86, Value.bool Bool.true, Value.int 181 0, Value.ref 87, Value.none, Value.ref 88, Value.ref 89, Value.ref 90, Value.int 299 0, Value.int 41 0, Value.str (Str.ofString "/claim/cut.py") 300]) #[]) ::
  (nat_lit 92, Obj.mk (Value.type "function") Option.none (Data.func (by (refine' (_ : RwWay (rwM 2 18 rfl rfl fun n a b c => FuncData.mk n (Str.ofString "CellId.__ge__") a b c 3 [] Value.none Value.none Value.none (Value.str (Str.ofString "s2sphere.sphere") 194) Option.none (Value.ref 91) Value.none 0)) _ _; exact fun x _ => x; rotate_left; conv => (rhs; whnf)))) #[]) ::
  (nat_lit 93, Obj.mk (Value.type "tuple") Option.none (Data.seq #[]) #[]) ::
  (nat_lit 95, Obj.mk (Value.type "tuple") Option.none (Data.seq #[Value.str (Str.ofString "cls") 305, Value.str (Str.ofString "face") 306, Value.str (Str.ofString "pos") 307, Value.str (Str.ofString "level") 308]) #[]) ::
  (nat_lit 96, Obj.mk (Value.type "tuple") Option.none (Data.seq #[]) #[]) ::
  (nat_lit 98, Obj.mk (Value.type "code") Option.none (Data.fields #[Value.str (Str.ofString "from_face_pos_level") 302, Value.str (Str.ofString "CellId.from_face_pos_level") 303, Value.str (Str.ofString "/claim/cut.py") 304, Value.int 44 0, Value.int 4 0, Value.int 0 0, Value.int 0 0, Value.int 3 0, Value.ref 93, Value.bool Bool.true, Value.int 181 0, Value.ref 94, Value.none, Value.ref 95, Value.ref 96, Value.ref 97, Value.int 309 0, Value.int 44 0, Value.str (Str.ofString "/claim/cut.py") 310]) #[]) ::
  (nat_lit 99, Obj.mk (Value.type "function") Option.none (Data.func (by (refine' (_ : RwWay (rwM 2 19 rfl rfl fun n a b c => FuncData.mk n (Str.ofString "CellId.from_face_pos_level") a b c 3 [] Value.none Value.none Value.none (Value.str (Str.ofString "s2sphere.sphere") 194) (Option.some 102) (Value.ref 98) Value.none 0)) _ _; exact fun x _ => x; rotate_left; conv => (rhs; whnf)))) #[]) ::
  (nat_lit 100, Obj.mk (Value.type "dict") Option.none (Data.dict #[DictEntry.mk (PyData.keyHash P (Str.ofString "__module__")) (Value.str (Str.ofString "__module__") 312) (Value.str (Str.ofString "s2sphere.sphere") 194), DictEntry.mk (PyData.keyHash P (Str.ofString "__name__")) (Value.str (Str.ofString "__name__") 315) (Value.str (Str.ofString "from_face_pos_level") 314), DictEntry.mk (PyData.keyHash P (Str.ofString "__qualname__")) (Value.str (Str.ofString "__qualname__") 318) (Value.str (Str.ofString "CellId.from_face_pos_level") 317), DictEntry.mk (PyData.keyHash P (Str.ofString "__doc__")) (Value.str (Str.ofString "__doc__") 320) Value.none, DictEntry.mk (PyData.keyHash P (Str.ofString "__annotations__")) (Value.str (Str.ofString "__annotations__") 322) (Value.ref 102)] 5) #[]) ::
  (nat_lit 101, Obj.mk (Value.type "classmethod") (Option.some 100) (Data.fields #[Value.ref 99, Value.bool Bool.false]) #[]) ::
  (nat_lit 102, Obj.mk (Value.type "dict") Option.none (Data.dict #[]) #[]) ::
  (nat_lit 103, Obj.mk (Value.type "tuple") Option.none (Data.seq #[]) #[]) ::
  (nat_lit 105, Obj.mk (Value.type "tuple") Option.none (Data.seq #[Value.str (Str.ofString "cls") 327, Value.str (Str.ofString "face") 328, Value.str (Str.ofString "i") 329, Value.str (Str.ofString "j") 330]) #[]) ::
  (nat_lit 106, Obj.mk (Value.type "tuple") Option.none (Data.seq #[]) #[]) ::
  (nat_lit 108, Obj.mk (Value.type "code") Option.none (Data.fields #[Value.str (Str.ofString "from_face_ij") 324, Value.str (Str.ofString "CellId.from_face_ij") 325, Value.str (Str.ofString "/claim/cut.py") 326, Value.int 48 0, Value.int 4 0, Value.int 0 0, Value.int 0 0, Value.int 3 0, Value.ref 103, Value.bool Bool.true, Value.int 181 0, Value.ref 104, Value.none, Value.ref 105, Value.ref 106, Value.ref 107, Value.int 331 0, Value.int 48 0, Value.str (Str.ofString "/claim/cut.py") 332]) #[]) ::
  (nat_lit 109, Obj.mk (Value.type "function") Option.none (Data.func (by (refine' (_ : RwWay (rwM 2 20 rfl rfl fun n a b c => FuncData.mk n (Str.ofString "CellId.from_face_ij") a b c 3 [] Value.none Value.none Value.none (Value.str (Str.ofString "s2sphere.sphere") 194) (Option.some 112) (Value.ref 108) Value.none 0)) _ _; exact fun x _ => x; rotate_left; conv => (rhs; whnf)))) #[]) ::
  (nat_lit 110, Obj.mk (Value.type "dict") Option.none (Data.dict #[DictEntry.mk (PyData.keyHash P (Str.ofString "__module__")) (Value.str (Str.ofString "__module__") 334) (Value.str (Str.ofString "s2sphere.sphere") 194), DictEntry.mk (PyData.keyHash P (Str.ofString "__name__")) (Value.str (Str.ofString "__name__") 337) (Value.str (Str.ofString "from_face_ij") 336), DictEntry.mk (PyData.keyHash P (Str.ofString "__qualname__")) (Value.str (Str.ofString "__qualname__") 340) (Value.str (Str.ofString "CellId.from_face_ij") 339), DictEntry.mk (PyData.keyHash P (Str.ofString "__doc__")) (Value.str (Str.ofString "__doc__") 342) Value.none, DictEntry.mk (PyData.keyHash P (Str.ofString "__annotations__")) (Value.str (Str.ofString "__annotations__") 344) (Value.ref 112)] 5) #[]) ::
  (nat_lit 111, Obj.mk (Value.type "classmethod") (Option.some 110) (Data.fields #[Value.ref 109, Value.bool Bool.false]) #[]) ::
  (nat_lit 112, Obj.mk (Value.type "dict") Option.none (Data.dict #[]) #[]) ::
  (nat_lit 113, Obj.mk (Value.type "tuple") Option.none (Data.seq #[]) #[]) ::
  (nat_lit 115, Obj.mk (Value.type "tuple") Option.none (Data.seq #[Value.str (Str.ofString "cls") 349, Value.str (Str.ofString "face") 350, Value.str (Str.ofString "i") 351, Value.str (Str.ofString "j") 352]) #[]) ::
  (nat_lit 116, Obj.mk (Value.type "tuple") Option.none (Data.seq #[]) #[]) ::
  (nat_lit 118, Obj.mk (Value.type "code") Option.none (Data.fields #[Value.str (Str.ofString "from_face_ij_wrap") 346, Value.str (Str.ofString "CellId.from_face_ij_wrap") 347, Value.str (Str.ofString "/claim/cut.py") 348, Value.int 52 0, Value.int 4 0, Value.int 0 0, Value.int 0 0, Value.int 3 0, Value.ref 113, Value.bool Bool.true, Value.int 181 0, Value.ref 114, Value.none, Value.ref 115, Value.ref 116, Value.ref 117, Value.int 353 0, Value.int 52 0, Value.str (Str.ofString "/claim/cut.py") 354]) #[]) ::
  (nat_lit 119, Obj.mk (Value.type "function") Option.none (Data.func (by (refine' (_ : RwWay (rwM 2 21 rfl rfl fun n a b c => FuncData.mk n (Str.ofString "CellId.from_face_ij_wrap") a b c 3 [] Value.none Value.none Value.none (Value.str (Str.ofString "s2sphere.sphere") 194) (Option.some 122) (Value.ref 118) Value.none 0)) _ _; exact fun x _ => x; rotate_left; conv => (rhs; whnf)))) #[]) ::
  (nat_lit 120, Obj.mk (Value.type "dict") Option.none (Data.dict #[DictEntry.mk (PyData.keyHash P (Str.ofString "__module__")) (Value.str (Str.ofString "__module__") 356) (Value.str (Str.ofString "s2sphere.sphere") 194), DictEntry.mk (PyData.keyHash P (Str.ofString "__name__")) (Value.str (Str.ofString "__name__") 359) (Value.str (Str.ofString "from_face_ij_wrap") 358), DictEntry.mk (PyData.keyHash P (Str.ofString "__qualname__")) (Value.str (Str.ofString "__qualname__") 362) (Value.str (Str.ofString "CellId.from_face_ij_wrap") 361), DictEntry.mk (PyData.keyHash P (Str.ofString "__doc__")) (Value.str (Str.ofString "__doc__") 364) Value.none, DictEntry.mk (PyData.keyHash P (Str.ofString "__annotations__")) (Value.str (Str.ofString "__annotations__") 366) (Value.ref 122)] 5) #[]) ::
  (nat_lit 121, Obj.mk (Value.type "classmethod") (Option.some 120) (Data.fields #[Value.ref 119, Value.bool Bool.false]) #[]) ::
  (nat_lit 122, Obj.mk (Value.type "dict") Option.none (Data.dict #[]) #[]) ::
  (nat_lit 123, Obj.mk (Value.type "tuple") Option.none (Data.seq #[]) #[]) ::
  (nat_lit 125, Obj.mk (Value.type "tuple") Option.none (Data.seq #[Value.str (Str.ofString "cls") 371, Value.str (Str.ofString "face") 372, Value.str (Str.ofString "i") 373, Value.str (Str.ofString "j") 374, Value.str (Str.ofString "same_face") 375]) #[]) ::
  (nat_lit 126, Obj.mk (Value.type "tuple") Option.none (Data.seq #[]) #[]) ::
  (nat_lit 128, Obj.mk (Value.type "code") Option.none (Data.fields #[Value.str (Str.ofString "from_face_ij_same") 368, Value.str (Str.ofString "CellId.from_face_ij_same") 369, Value.str (Str.ofString "/claim/cut.py") 370, Value.int 56 0, Value.int 5 0, Value.int 0 0, Value.int 0 0, Value.int 3 0, Value.ref 123, Value.bool Bool.true, Value.int 181 0, Value.ref 124, Value.none, Value.ref 125, Value.ref 126, Value.ref 127, Value.int 376 0, Value.int 56 0, Value.str (Str.ofString "/claim/cut.py") 377]) #[]) ::
  (nat_lit 129, Obj.mk (Value.type "function") Option.none (Data.func (by (refine' (_ : RwWay (rwM 2 22 rfl rfl fun n a b c => FuncData.mk n (Str.ofString "CellId.from_face_ij_same") a b c 3 [] Value.none Value.none Value.none (Value.str (Str.ofString "s2sphere.sphere") 194) (Option.some 132) (Value.ref 128) Value.none 0)) _ _; exact fun x _ => x; rotate_left; conv => (rhs; whnf)))) #[]) ::
  (nat_lit 130, Obj.mk (Value.type "dict") Option.none (Data.dict #[DictEntry.mk (PyData.keyHash P (Str.ofString "__module__")) (Value.str (Str.ofString "__module__") 379) (Value.str (Str.ofString "s2sphere.sphere") 194), DictEntry.mk (PyData.keyHash P (Str.ofString "__name__")) (Value.str (Str.ofString "__name__") 382) (Value.str (Str.ofString "from_face_ij_same") 381), DictEntry.mk (PyData.keyHash P (Str.ofString "__qualname__")) (Value.str (Str.ofString "__qualname__") 385) (Value.str (Str.ofString "CellId.from_face_ij_same") 384), DictEntry.mk (PyData.keyHash P (Str.ofString "__doc__")) (Value.str (Str.ofString "__doc__") 387) Value.none, DictEntry.mk (PyData.keyHash P (Str.ofString "__annotations__")) (Value.str (Str.ofString "__annotations__") 389) (Value.ref 132)] 5) #[]) ::
  (nat_lit 131, Obj.mk (Value.type "classmethod") (Option.some 130) (Data.fields #[Value.ref 129, Value.bool Bool.false]) #[]) ::
  (nat_lit 132, Obj.mk (Value.type "dict") Option.none (Data.dict #[]) #[]) ::
  (nat_lit 133, Obj.mk (Value.type "tuple") Option.none (Data.seq #[]) #[]) ::
  (nat_lit 135, Obj.mk (Value.type "tuple") Option.none (Data.seq #[Value.str (Str.ofString "cls") 394, Value.str (Str.ofString "s") 395]) #[]) ::
  (nat_lit 136, Obj.mk (Value.type "tuple") Option.none (Data.seq #[]) #[]) ::
  (nat_lit 138, Obj.mk (Value.type "code") Option.none (Data.fields #[Value.str (Str.ofString "st_to_ij") 391, Value.str (Str.ofString "CellId.st_to_ij") 392, Value.str (Str.ofString "/claim/cut.py") 393, Value.int 60 0, Value.int 2 0, Value.int 0 0, Value.int 0 0, Value.int 3 0, Value.ref 133, Value.bool Bool.true, Value.int 181 0, Value.ref 134, Value.none, Value.ref 135, Value.ref 136, Value.ref 137, Value.int 396 0, Value.int 60 0, Value.str (Str.ofString "/claim/cut.py") 397]) #[]) ::
  (nat_lit 139, Obj.mk (Value.type "function") Option.none (Data.func (by (refine' (_ : RwWay (rwM 2 23 rfl rfl fun n a b c => FuncData.mk n (Str.ofString "CellId.st_to_ij") a b c 3 [] Value.none Value.none Value.none (Value.str (Str.ofString "s2sphere.sphere") 194) (Option.some 142) (Value.ref 138) Value.none 0)) _ _; exact fun x _ => x; rotate_left; conv => (rhs; whnf)))) #[]) ::
  (nat_lit 140, Obj.mk (Value.type "dict") Option.none (Data.dict #[DictEntry.mk (PyData.keyHash P (Str.ofString "__module__")) (Value.str (Str.ofString "__module__") 399) (Value.str (Str.ofString "s2sphere.sphere") 194), DictEntry.mk (PyData.keyHash P (Str.ofString "__name__")) (Value.str (Str.ofString "__name__") 402) (Value.str (Str.ofString "st_to_ij") 401), DictEntry.mk (PyData.keyHash P (Str.ofString "__qualname__")) (Value.str (Str.ofString "__qualname__") 405) (Value.str (Str.ofString "CellId.st_to_ij") 404), DictEntry.mk (PyData.keyHash P (Str.ofString "__doc__")) (Value.str (Str.ofString "__doc__") 407) Value.none, DictEntry.mk (PyData.keyHash P (Str.ofString "__annotations__")) (Value.str (Str.ofString "__annotations__") 409) (Value.ref 142)] 5) #[]) ::
  (nat_lit 141, Obj.mk (Value.type "classmethod") (Option.some 140) (Data.fields #[Value.ref 139, Value.bool Bool.false]) #[]) ::
  (nat_lit 142, Obj.mk (Value.type "dict") Option.none (Data.dict #[]) #[]) ::
  (nat_lit 143, Obj.mk (Value.type "tuple") Option.none (Data.seq #[]) #[]) ::
  (nat_lit 145, Obj.mk (Value.type "tuple") Option.none (Data.seq #[Value.str (Str.ofString "cls") 414, Value.str (Str.ofString "level") 415]) #[]) ::
  (nat_lit 146, Obj.mk (Value.type "tuple") Option.none (Data.seq #[]) #[]) ::
  (nat_lit 148, Obj.mk (Value.type "code") Option.none (Data.fields #[Value.str (Str.ofString "lsb_for_level") 411, Value.str (Str.ofString "CellId.lsb_for_level") 412, Value.str (Str.ofString "/claim/cut.py") 413, Value.int 64 0, Value.int 2 0, Value.int 0 0, Value.int 0 0, Value.int 3 0, Value.ref 143, Value.bool Bool.true, Value.int 181 0, Value.ref 144, Value.none, Value.ref 145, Value.ref 146, Value.ref 147, Value.int 416 0, Value.int 64 0, Value.str (Str.ofString "/claim/cut.py") 417]) #[]) ::
  (nat_lit 149, Obj.mk (Value.type "function") Option.none (Data.func (by (refine' (_ : RwWay (rwM 2 24 rfl rfl fun n a b c => FuncData.mk n (Str.ofString "CellId.lsb_for_level") a b c 3 [] Value.none Value.none Value.none (Value.str (Str.ofString "s2sphere.sphere") 194) (Option.some 152) (Value.ref 148) Value.none 0)) _ _; exact fun x _ => x; rotate_left; conv => (rhs; whnf)))) #[]) ::
  (nat_lit 150, Obj.mk (Value.type "dict") Option.none (Data.dict #[DictEntry.mk (PyData.keyHash P (Str.ofString "__module__")) (Value.str (Str.ofString "__module__") 419) (Value.str (Str.ofString "s2sphere.sphere") 194), DictEntry.mk (PyData.keyHash P (Str.ofString "__name__")) (Value.str (Str.ofString "__name__") 422) (Value.str (Str.ofString "lsb_for_level") 421), DictEntry.mk (PyData.keyHash P (Str.ofString "__qualname__")) (Value.str (Str.ofString "__qualname__") 425) (Value.str (Str.ofString "CellId.lsb_for_level") 424), DictEntry.mk (PyData.keyHash P (Str.ofString "__doc__")) (Value.str (Str.ofString "__doc__") 427) Value.none, DictEntry.mk (PyData.keyHash P (Str.ofString "__annotations__")) (Value.str (Str.ofString "__annotations__") 429) (Value.ref 152)] 5) #[]) ::
  (nat_lit 151, Obj.mk (Value.type "classmethod") (Option.some 150) (Data.fields #[Value.ref 149, Value.bool Bool.false]) #[]) ::
  (nat_lit 152, Obj.mk (Value.type "dict") Option.none (Data.dict #[]) #[]) ::
  (nat_lit 153, Obj.mk (Value.type "tuple") Option.none (Data.seq #[]) #[]) ::
  (nat_lit 155, Obj.mk (Value.type "tuple") Option.none (Data.seq #[Value.str (Str.ofString "self") 434, Value.str (Str.ofString "args") 435, Value.str (Str.ofString "new_lsb") 436, Value.str (Str.ofString "level") 437]) #[]) ::
  (nat_lit 156, Obj.mk (Value.type "tuple") Option.none (Data.seq #[]) #[]) ::
  (nat_lit 158, Obj.mk (Value.type "code") Option.none (Data.fields #[Value.str (Str.ofString "parent") 431, Value.str (Str.ofString "CellId.parent") 432, Value.str (Str.ofString "/claim/cut.py") 433, Value.int 68 0, Value.int 1 0, Value.int 0 0, Value.int 0 0, Value.int 7 0, Value.ref 153, Value.bool Bool.true, Value.int 181 0, Value.ref 154, Value.none, Value.ref 155, Value.ref 156, Value.ref 157, Value.int 438 0, Value.int 68 0, Value.str (Str.ofString "/claim/cut.py") 439]) #[]) ::
  (nat_lit 159, Obj.mk (Value.type "function") Option.none (Data.func (by (refine' (_ : RwWay (rwM 2 25 rfl rfl fun n a b c => FuncData.mk n (Str.ofString "CellId.parent") a b c 3 [] Value.none Value.none Value.none (Value.str (Str.ofString "s2sphere.sphere") 194) Option.none (Value.ref 158) Value.none 0)) _ _; exact fun x _ => x; rotate_left; conv => (rhs; whnf)))) #[]) ::
  (nat_lit 160, Obj.mk (Value.type "tuple") Option.none (Data.seq #[]) #[]) ::
  (nat_lit 162, Obj.mk (Value.type "tuple") Option.none (Data.seq #[Value.str (Str.ofString "self") 444, Value.str (Str.ofString "pos") 445]) #[]) ::
  (nat_lit 163, Obj.mk (Value.type "tuple") Option.none (Data.seq #[]) #[]) ::
  (nat_lit 165, Obj.mk (Value.type "code") Option.none (Data.fields #[Value.str (Str.ofString "child") 441, Value.str (Str.ofString "CellId.child") 442, Value.str (Str.ofString "/claim/cut.py") 443, Value.int 81 0, Value.int 2 0, Value.int 0 0, Value.int 0 0, Value.int 3 0, Value.ref 160, Value.bool Bool.true, Value.int 181 0, Value.ref 161, Value.none, Value.ref 162, Value.ref 163, Value.ref 164, Value.int 446 0, Value.int 81 0, Value.str (Str.ofString "/claim/cut.py") 447]) #[]) ::
  (nat_lit 166, Obj.mk (Value.type "function") Option.none (Data.func (by (refine' (_ : RwWay (rwM 2 26 rfl rfl fun n a b c => FuncData.mk n (Str.ofString "CellId.child") a b c 3 [] Value.none Value.none Value.none (Value.str (Str.ofString "s2sphere.sphere") 194) Option.none (Value.ref 165) Value.none 0)) _ _; exact fun x _ => x; rotate_left; conv => (rhs; whnf)))) #[]) ::
  (nat_lit 167, Obj.mk (Value.type "tuple") Option.none (Data.seq #[]) #[]) ::
  (nat_lit 169, Obj.mk (Value.type "tuple") Option.none (Data.seq #[Value.str (Str.ofString "self") 452, Value.str (Str.ofString "other") 453]) #[]) ::
  (nat_lit 170, Obj.mk (Value.type "tuple") Option.none (Data.seq #[]) #[]) ::
  (nat_lit 172, Obj.mk (Value.type "code") Option.none (Data.fields #[Value.str (Str.ofString "contains") 449, Value.str (Str.ofString "CellId.contains") 450, Value.str (Str.ofString "/claim/cut.py") 451, Value.int 84 0, Value.int 2 0, Value.int 0 0, Value.int 0 0, Value.int 3 0, Value.ref 167, Value.bool Bool.true, Value.int 181 0, Value.ref 168, Value.none, Value.ref 169, Value.ref 170, Value.ref 171, Value.int 454 0, Value.int 84 0, Value.str (Str.ofString "/claim/cut.py") 455]) #[]) ::
  (nat_lit 173, Obj.mk (Value.type "function") Option.none (Data.func (by (refine' (_ : RwWay (rwM 2 27 rfl rfl fun n a b c => FuncData.mk n (Str.ofString "CellId.contains") a b c 3 [] Value.none Value.none Value.none (Value.str (Str.ofString "s2sphere.sphere") 194) Option.none (Value.ref 172) Value.none 0)) _ _; exact fun x _ => x; rotate_left; conv => (rhs; whnf)))) #[]) ::
  (nat_lit 174, Obj.mk (Value.type "tuple") Option.none (Data.seq #[]) #[]) ::
  (nat_lit 176, Obj.mk (Value.type "tuple") Option.none (Data.seq #[Value.str (Str.ofString "self") 460, Value.str (Str.ofString "other") 461]) #[]) ::
  (nat_lit 177, Obj.mk (Value.type "tuple") Option.none (Data.seq #[]) #[]) ::
  (nat_lit 179, Obj.mk (Value.type "code") Option.none (Data.fields #[Value.str (Str.ofString "intersects") 457, Value.str (Str.ofString "CellId.intersects") 458, Value.str (Str.ofString "/claim/cut.py") 459, Value.int 87 0, Value.int 2 0, Value.int 0 0, Value.int 0 0, Value.int 3 0, Value.ref 174, Value.bool Bool.true, Value.int 181 0, Value.ref 175, Value.none, Value.ref 176, Value.ref 177, Value.ref 178, Value.int 462 0, Value.int 87 0, Value.str (Str.ofString "/claim/cut.py") 463]) #[]) ::
  (nat_lit 180, Obj.mk (Value.type "function") Option.none (Data.func (by (refine' (_ : RwWay (rwM 2 28 rfl rfl fun n a b c => FuncData.mk n (Str.ofString "CellId.intersects") a b c 3 [] Value.none Value.none Value.none (Value.str (Str.ofString "s2sphere.sphere") 194) Option.none (Value.ref 179) Value.none 0)) _ _; exact fun x _ => x; rotate_left; conv => (rhs; whnf)))) #[]) ::
  (nat_lit 181, Obj.mk (Value.type "tuple") Option.none (Data.seq #[]) #[]) ::
  (nat_lit 183, Obj.mk (Value.type "tuple") Option.none (Data.seq #[Value.str (Str.ofString "self") 468]) #[]) ::
  (nat_lit 184, Obj.mk (Value.type "tuple") Option.none (Data.seq #[]) #[]) ::
  (nat_lit 186, Obj.mk (Value.type "code") Option.none (Data.fields #[Value.str (Str.ofString "is_face") 465, Value.str (Str.ofString "CellId.is_face") 466, Value.str (Str.ofString "/claim/cut.py") 467, Value.int 90 0, Value.int 1 0, Value.int 0 0, Value.int 0 0, Value.int 3 0, Value.ref 181, Value.bool Bool.true, Value.int 181 0, Value.ref 182, Value.none, Value.ref 183, Value.ref 184, Value.ref 185, Value.int 469 0, Value.int 90 0, Value.str (Str.ofString "/claim/cut.py") 470]) #[]) ::
  (nat_lit 187, Obj.mk (Value.type "function") Option.none (Data.func (by (refine' (_ : RwWay (rwM 2 29 rfl rfl fun n a b c => FuncData.mk n (Str.ofString "CellId.is_face") a b c 3 [] Value.none Value.none Value.none (Value.str (Str.ofString "s2sphere.sphere") 194) Option.none (Value.ref 186) Value.none 0)) _ _; exact fun x _ => x; rotate_left; conv => (rhs; whnf)))) #[]) ::
  (nat_lit 188, Obj.mk (Value.type "tuple") Option.none (Data.seq #[]) #[]) ::
  (nat_lit 190, Obj.mk (Value.type "tuple") Option.none (Data.seq #[Value.str (Str.ofString "self") 475]) #[]) ::
  (nat_lit 191, Obj.mk (Value.type "tuple") Option.none (Data.seq #[]) #[]) ::
  (nat_lit 193, Obj.mk (Value.type "code") Option.none (Data.fields #[Value.str (Str.ofString "id") 472, Value.str (Str.ofString "CellId.id") 473, Value.str (Str.ofString "/claim/cut.py") 474, Value.int 93 0, Value.int 1 0, Value.int 0 0, Value.int 0 0, Value.int 3 0, Value.ref 188, Value.bool Bool.true, Value.int 181 0, Value.ref 189, Value.none, Value.ref 190, Value.ref 191, Value.ref 192, Value.int 476 0, Value.int 93 0, Value.str (Str.ofString "/claim/cut.py") 477]) #[]) ::
  (nat_lit 194, Obj.mk (Value.type "function") Option.none (Data.func (by (refine' (_ : RwWay (rwM 2 30 rfl rfl fun n a b c => FuncData.mk n (Str.ofString "CellId.id") a b c 3 [] Value.none Value.none Value.none (Value.str (Str.ofString "s2sphere.sphere") 194) Option.none (Value.ref 193) Value.none 0)) _ _; exact fun x _ => x; rotate_left; conv => (rhs; whnf)))) #[]) ::
  (nat_lit 195, Obj.mk (Value.type "tuple") Option.none (Data.seq #[]) #[]) ::
  (nat_lit 197, Obj.mk (Value.type "tuple") Option.none (Data.seq #[Value.str (Str.ofString "self") 482]) #[]) ::
  (nat_lit 198, Obj.mk (Value.type "tuple") Option.none (Data.seq #[]) #[]) ::
  (nat_lit 200, Obj.mk (Value.type "code") Option.none (Data.fields #[Value.str (Str.ofString "is_valid") 479, Value.str (Str.ofString "CellId.is_valid") 480, Value.str (Str.ofString "/claim/cut.py") 481, Value.int 96 0, Value.int 1 0, Value.int 0 0, Value.int 0 0, Value.int 3 0, Value.ref 195, Value.bool Bool.true, Value.int 181 0, Value.ref 196, Value.none, Value.ref 197, Value.ref 198, Value.ref 199, Value.int 483 0, Value.int 96 0, Value.str (Str.ofString "/claim/cut.py") 484]) #[]) ::
  (nat_lit 201, Obj.mk (Value.type "function") Option.none (Data.func (by (refine' (_ : RwWay (rwM 2 31 rfl rfl fun n a b c => FuncData.mk n (Str.ofString "CellId.is_valid") a b c 3 [] Value.none Value.none Value.none (Value.str (Str.ofString "s2sphere.sphere") 194) Option.none (Value.ref 200) Value.none 0)) _ _; exact fun x _ => x; rotate_left; conv => (rhs; whnf)))) #[]) ::
  (nat_lit 202, Obj.mk (Value.type "tuple") Option.none (Data.seq #[]) #[]) ::
  (nat_lit 204, Obj.mk (Value.type "tuple") Option.none (Data.seq #[Value.str (Str.ofString "self") 489]) #[]) ::
  (nat_lit 205, Obj.mk (Value.type "tuple") Option.none (Data.seq #[]) #[]) ::
  (nat_lit 207, Obj.mk (Value.type "code") Option.none (Data.fields #[Value.str (Str.ofString "lsb") 486, Value.str (Str.ofString "CellId.lsb") 487, Value.str (Str.ofString "/claim/cut.py") 488, Value.int 99 0, Value.int 1 0, Value.int 0 0, Value.int 0 0, Value.int 3 0, Value.ref 202, Value.bool Bool.true, Value.int 181 0, Value.ref 203, Value.none, Value.ref 204, Value.ref 205, Value.ref 206, Value.int 490 0, Value.int 99 0, Value.str (Str.ofString "/claim/cut.py") 491]) #[]) ::
  (nat_lit 208, Obj.mk (Value.type "function") Option.none (Data.func (by (refine' (_ : RwWay (rwM 2 32 rfl rfl fun n a b c => FuncData.mk n (Str.ofString "CellId.lsb") a b c 3 [] Value.none Value.none Value.none (Value.str (Str.ofString "s2sphere.sphere") 194) Option.none (Value.ref 207) Value.none 0)) _ _; exact fun x _ => x; rotate_left; conv => (rhs; whnf)))) #[]) ::
  (nat_lit 209, Obj.mk (Value.type "tuple") Option.none (Data.seq #[]) #[]) ::
  (nat_lit 211, Obj.mk (Value.type "tuple") Option.none (Data.seq #[Value.str (Str.ofString "self") 496]) #[]) ::
  (nat_lit 212, Obj.mk (Value.type "tuple") Option.none (Data.seq #[]) #[]) ::
  (nat_lit 214, Obj.mk (Value.type "code") Option.none (Data.fields #[Value.str (Str.ofString "face") 493, Value.str (Str.ofString "CellId.face") 494, Value.str (Str.ofString "/claim/cut.py") 495, Value.int 102 0, Value.int 1 0, Value.int 0 0, Value.int 0 0, Value.int 3 0, Value.ref 209, Value.bool Bool.true, Value.int 181 0, Value.ref 210, Value.none, Value.ref 211, Value.ref 212, Value.ref 213, Value.int 497 0, Value.int 102 0, Value.str (Str.ofString "/claim/cut.py") 498]) #[]) ::
  (nat_lit 215, Obj.mk (Value.type "function") Option.none (Data.func (by (refine' (_ : RwWay (rwM 2 33 rfl rfl fun n a b c => FuncData.mk n (Str.ofString "CellId.face") a b c 3 [] Value.none Value.none Value.none (Value.str (Str.ofString "s2sphere.sphere") 194) Option.none (Value.ref 214) Value.none 0)) _ _; exact fun x _ => x; rotate_left; conv => (rhs; whnf)))) #[]) ::
  (nat_lit 216, Obj.mk (Value.type "tuple") Option.none (Data.seq #[]) #[]) ::
  (nat_lit 218, Obj.mk (Value.type "tuple") Option.none (Data.seq #[Value.str (Str.ofString "self") 503]) #[]) ::
  (nat_lit 219, Obj.mk (Value.type "tuple") Option.none (Data.seq #[]) #[]) ::
  (nat_lit 221, Obj.mk (Value.type "code") Option.none (Data.fields #[Value.str (Str.ofString "pos") 500, Value.str (Str.ofString "CellId.pos") 501, Value.str (Str.ofString "/claim/cut.py") 502, Value.int 105 0, Value.int 1 0, Value.int 0 0, Value.int 0 0, Value.int 3 0, Value.ref 216, Value.bool Bool.true, Value.int 181 0, Value.ref 217, Value.none, Value.ref 218, Value.ref 219, Value.ref 220, Value.int 504 0, Value.int 105 0, Value.str (Str.ofString "/claim/cut.py") 505]) #[]) ::
  (nat_lit 222, Obj.mk (Value.type "function") Option.none (Data.func (by (refine' (_ : RwWay (rwM 2 34 rfl rfl fun n a b c => FuncData.mk n (Str.ofString "CellId.pos") a b c 3 [] Value.none Value.none Value.none (Value.str (Str.ofString "s2sphere.sphere") 194) Option.none (Value.ref 221) Value.none 0)) _ _; exact fun x _ => x; rotate_left; conv => (rhs; whnf)))) #[]) ::
  (nat_lit 223, Obj.mk (Value.type "tuple") Option.none (Data.seq #[]) #[]) ::
  (nat_lit 225, Obj.mk (Value.type "tuple") Option.none (Data.seq #[Value.str (Str.ofString "self") 510]) #[]) ::
  (nat_lit 226, Obj.mk (Value.type "tuple") Option.none (Data.seq #[]) #[]) ::
  (nat_lit 228, Obj.mk (Value.type "code") Option.none (Data.fields #[Value.str (Str.ofString "is_leaf") 507, Value.str (Str.ofString "CellId.is_leaf") 508, Value.str (Str.ofString "/claim/cut.py") 509, Value.int 108 0, Value.int 1 0, Value.int 0 0, Value.int 0 0, Value.int 3 0, Value.ref 223, Value.bool Bool.true, Value.int 181 0, Value.ref 224, Value.none, Value.ref 225, Value.ref 226, Value.ref 227, Value.int 511 0, Value.int 108 0, Value.str (Str.ofString "/claim/cut.py") 512]) #[]) ::
  (nat_lit 229, Obj.mk (Value.type "function") Option.none (Data.func (by (refine' (_ : RwWay (rwM 2 35 rfl rfl fun n a b c => FuncData.mk n (Str.ofString "CellId.is_leaf") a b c 3 [] Value.none Value.none Value.none (Value.str (Str.ofString "s2sphere.sphere") 194) Option.none (Value.ref 228) Value.none 0)) _ _; exact fun x _ => x; rotate_left; conv => (rhs; whnf)))) #[]) ::
  (nat_lit 230, Obj.mk (Value.type "tuple") Option.none (Data.seq #[]) #[]) ::
  (nat_lit 232, Obj.mk (Value.type "tuple") Option.none (Data.seq #[Value.str (Str.ofString "self") 517, Value.str (Str.ofString "x") 518, Value.str (Str.ofString "level") 519]) #[]) ::
  (nat_lit 233, Obj.mk (Value.type "tuple") Option.none (Data.seq #[]) #[]) ::
  (nat_lit 235, Obj.mk (Value.type "code") Option.none (Data.fields #[Value.str (Str.ofString "level") 514, Value.str (Str.ofString "CellId.level") 515, Value.str (Str.ofString "/claim/cut.py") 516, Value.int 111 0, Value.int 1 0, Value.int 0 0, Value.int 0 0, Value.int 3 0, Value.ref 230, Value.bool Bool.true, Value.int 181 0, Value.ref 231, Value.none, Value.ref 232, Value.ref 233, Value.ref 234, Value.int 520 0, Value.int 111 0, Value.str (Str.ofString "/claim/cut.py") 521]) #[]) ::
  (nat_lit 236, Obj.mk (Value.type "function") Option.none (Data.func (by (refine' (_ : RwWay (rwM 2 36 rfl rfl fun n a b c => FuncData.mk n (Str.ofString "CellId.level") a b c 3 [] Value.none Value.none Value.none (Value.str (Str.ofString "s2sphere.sphere") 194) Option.none (Value.ref 235) Value.none 0)) _ _; exact fun x _ => x; rotate_left; conv => (rhs; whnf)))) #[]) ::
  (nat_lit 237, Obj.mk (Value.type "tuple") Option.none (Data.seq #[]) #[]) ::
  (nat_lit 239, Obj.mk (Value.type "tuple") Option.none (Data.seq #[Value.str (Str.ofString "self") 526, Value.str (Str.ofString "args") 527, Value.str (Str.ofString "old_lsb") 528, Value.str (Str.ofString "level") 529]) #[]) ::
  (nat_lit 240, Obj.mk (Value.type "tuple") Option.none (Data.seq #[]) #[]) ::
  (nat_lit 242, Obj.mk (Value.type "code") Option.none (Data.fields #[Value.str (Str.ofString "child_begin") 523, Value.str (Str.ofString "CellId.child_begin") 524, Value.str (Str.ofString "/claim/cut.py") 525, Value.int 133 0, Value.int 1 0, Value.int 0 0, Value.int 0 0, Value.int 7 0, Value.ref 237, Value.bool Bool.true, Value.int 181 0, Value.ref 238, Value.none, Value.ref 239, Value.ref 240, Value.ref 241, Value.int 530 0, Value.int 133 0, Value.str (Str.ofString "/claim/cut.py") 531]) #[]) ::
  (nat_lit 243, Obj.mk (Value.type "function") Option.none (Data.func (by (refine' (_ : RwWay (rwM 2 37 rfl rfl fun n a b c => FuncData.mk n (Str.ofString "CellId.child_begin") a b c 3 [] Value.none Value.none Value.none (Value.str (Str.ofString "s2sphere.sphere") 194) Option.none (Value.ref 242) Value.none 0)) _ _; exact fun x _ => x; rotate_left; conv => (rhs; whnf)))) #[]) ::
  (nat_lit 244, Obj.mk (Value.type "tuple") Option.none (Data.seq #[]) #[]) ::
  (nat_lit 246, Obj.mk (Value.type "tuple") Option.none (Data.seq #[Value.str (Str.ofString "self") 536, Value.str (Str.ofString "args") 537, Value.str (Str.ofString "old_lsb") 538, Value.str (Str.ofString "level") 539]) #[]) ::
  (nat_lit 247, Obj.mk (Value.type "tuple") Option.none (Data.seq #[]) #[]) ::
  (nat_lit 249, Obj.mk (Value.type "code") Option.none (Data.fields #[Value.str (Str.ofString "child_end") 533, Value.str (Str.ofString "CellId.child_end") 534, Value.str (Str.ofString "/claim/cut.py") 535, Value.int 147 0, Value.int 1 0, Value.int 0 0, Value.int 0 0, Value.int 7 0, Value.ref 244, Value.bool Bool.true, Value.int 181 0, Value.ref 245, Value.none, Value.ref 246, Value.ref 247, Value.ref 248, Value.int 540 0, Value.int 147 0, Value.str (Str.ofString "/claim/cut.py") 541]) #[]) ::
  (nat_lit 250, Obj.mk (Value.type "function") Option.none (Data.func (by (refine' (_ : RwWay (rwM 2 38 rfl rfl fun n a b c => FuncData.mk n (Str.ofString "CellId.child_end") a b c 3 [] Value.none Value.none Value.none (Value.str (Str.ofString "s2sphere.sphere") 194) Option.none (Value.ref 249) Value.none 0)) _ _; exact fun x _ => x; rotate_left; conv => (rhs; whnf)))) #[]) ::
  (nat_lit 251, Obj.mk (Value.type "tuple") Option.none (Data.seq #[]) #[]) ::
  (nat_lit 253, Obj.mk (Value.type "tuple") Option.none (Data.seq #[Value.str (Str.ofString "self") 546]) #[]) ::
  (nat_lit 254, Obj.mk (Value.type "tuple") Option.none (Data.seq #[]) #[]) ::
  (nat_lit 256, Obj.mk (Value.type "code") Option.none (Data.fields #[Value.str (Str.ofString "prev") 543, Value.str (Str.ofString "CellId.prev") 544, Value.str (Str.ofString "/claim/cut.py") 545, Value.int 161 0, Value.int 1 0, Value.int 0 0, Value.int 0 0, Value.int 3 0, Value.ref 251, Value.bool Bool.true, Value.int 181 0, Value.ref 252, Value.none, Value.ref 253, Value.ref 254, Value.ref 255, Value.int 547 0, Value.int 161 0, Value.str (Str.ofString "/claim/cut.py") 548]) #[]) ::
  (nat_lit 257, Obj.mk (Value.type "function") Option.none (Data.func (by (refine' (_ : RwWay (rwM 2 39 rfl rfl fun n a b c => FuncData.mk n (Str.ofString "CellId.prev") a b c 3 [] Value.none Value.none Value.none (Value.str (Str.ofString "s2sphere.sphere") 194) Option.none (Value.ref 256) Value.none 0)) _ _; exact fun x _ => x; rotate_left; conv => (rhs; whnf)))) #[]) ::
  (nat_lit 258, Obj.mk (Value.type "tuple") Option.none (Data.seq #[]) #[]) ::
  (nat_lit 260, Obj.mk (Value.type "tuple") Option.none (Data.seq #[Value.str (Str.ofString "self") 553]) #[]) ::
  (nat_lit 261, Obj.mk (Value.type "tuple") Option.none (Data.seq #[]) #[]) ::
  (nat_lit 263, Obj.mk (Value.type "code") Option.none (Data.fields #[Value.str (Str.ofString "next") 550, Value.str (Str.ofString "CellId.next") 551, Value.str (Str.ofString "/claim/cut.py") 552, Value.int 164 0, Value.int 1 0, Value.int 0 0, Value.int 0 0, Value.int 3 0, Value.ref 258, Value.bool Bool.true, Value.int 181 0, Value.ref 259, Value.none, Value.ref 260, Value.ref 261, Value.ref 262, Value.int 554 0, Value.int 164 0, Value.str (Str.ofString "/claim/cut.py") 555]) #[]) ::
  (nat_lit 264, Obj.mk (Value.type "function") Option.none (Data.func (by (refine' (_ : RwWay (rwM 2 40 rfl rfl fun n a b c => FuncData.mk n (Str.ofString "CellId.next") a b c 3 [] Value.none Value.none Value.none (Value.str (Str.ofString "s2sphere.sphere") 194) Option.none (Value.ref 263) Value.none 0)) _ _; exact fun x _ => x; rotate_left; conv => (rhs; whnf)))) #[]) ::
  (nat_lit 265, Obj.mk (Value.type "tuple") Option.none (Data.seq #[]) #[]) ::
  (nat_lit 267, Obj.mk (Value.type "tuple") Option.none (Data.seq #[Value.str (Str.ofString "self") 560, Value.str (Str.ofString "args") 561]) #[]) ::
  (nat_lit 268, Obj.mk (Value.type "tuple") Option.none (Data.seq #[]) #[]) ::
  (nat_lit 270, Obj.mk (Value.type "code") Option.none (Data.fields #[Value.str (Str.ofString "children") 557, Value.str (Str.ofString "CellId.children") 558, Value.str (Str.ofString "/claim/cut.py") 559, Value.int 167 0, Value.int 1 0, Value.int 0 0, Value.int 0 0, Value.int 7 0, Value.ref 265, Value.bool Bool.true, Value.int 181 0, Value.ref 266, Value.none, Value.ref 267, Value.ref 268, Value.ref 269, Value.int 562 0, Value.int 167 0, Value.str (Str.ofString "/claim/cut.py") 563]) #[]) ::
  (nat_lit 271, Obj.mk (Value.type "function") Option.none (Data.func (by (refine' (_ : RwWay (rwM 2 41 rfl rfl fun n a b c => FuncData.mk n (Str.ofString "CellId.children") a b c 3 [] Value.none Value.none Value.none (Value.str (Str.ofString "s2sphere.sphere") 194) Option.none (Value.ref 270) Value.none 0)) _ _; exact fun x _ => x; rotate_left; conv => (rhs; whnf)))) #[]) ::
  (nat_lit 272, Obj.mk (Value.type "tuple") Option.none (Data.seq #[]) #[]) ::
  (nat_lit 274, Obj.mk (Value.type "tuple") Option.none (Data.seq #[Value.str (Str.ofString "self") 568]) #[]) ::
  (nat_lit 275, Obj.mk (Value.type "tuple") Option.none (Data.seq #[]) #[]) ::
  (nat_lit 277, Obj.mk (Value.type "code") Option.none (Data.fields #[Value.str (Str.ofString "range_min") 565, Value.str (Str.ofString "CellId.range_min") 566, Value.str (Str.ofString "/claim/cut.py") 567, Value.int 170 0, Value.int 1 0, Value.int 0 0, Value.int 0 0, Value.int 3 0, Value.ref 272, Value.bool Bool.true, Value.int 181 0, Value.ref 273, Value.none, Value.ref 274, Value.ref 275, Value.ref 276, Value.int 569 0, Value.int 170 0, Value.str (Str.ofString "/claim/cut.py") 570]) #[]) ::
  (nat_lit 278, Obj.mk (Value.type "function") Option.none (Data.func (by (refine' (_ : RwWay (rwM 2 42 rfl rfl fun n a b c => FuncData.mk n (Str.ofString "CellId.range_min") a b c 3 [] Value.none Value.none Value.none (Value.str (Str.ofString "s2sphere.sphere") 194) Option.none (Value.ref 277) Value.none 0)) _ _; exact fun x _ => x; rotate_left; conv => (rhs; whnf)))) #[]) ::
  (nat_lit 279, Obj.mk (Value.type "tuple") Option.none (Data.seq #[]) #[]) ::
  (nat_lit 281, Obj.mk (Value.type "tuple") Option.none (Data.seq #[Value.str (Str.ofString "self") 575]) #[]) ::
  (nat_lit 282, Obj.mk (Value.type "tuple") Option.none (Data.seq #[]) #[]) ::
  (nat_lit 284, Obj.mk (Value.type "code") Option.none (Data.fields #[Value.str (Str.ofString "range_max") 572, Value.str (Str.ofString "CellId.range_max") 573, Value.str (Str.ofString "/claim/cut.py") 574, Value.int 173 0, Value.int 1 0, Value.int 0 0, Value.int 0 0, Value.int 3 0, Value.ref 279, Value.bool Bool.true, Value.int 181 0, Value.ref 280, Value.none, Value.ref 281, Value.ref 282, Value.ref 283, Value.int 576 0, Value.int 173 0, Value.str (Str.ofString "/claim/cut.py") 577]) #[]) ::
  (nat_lit 285, Obj.mk (Value.type "function") Option.none (Data.func (by (refine' (_ : RwWay (rwM 2 43 rfl rfl fun n a b c => FuncData.mk n (Str.ofString "CellId.range_max") a b c 3 [] Value.none Value.none Value.none (Value.str (Str.ofString "s2sphere.sphere") 194) Option.none (Value.ref 284) Value.none 0)) _ _; exact fun x _ => x; rotate_left; conv => (rhs; whnf)))) #[]) ::
  (nat_lit 286, Obj.mk (Value.type "tuple") Option.none (Data.seq #[]) #[]) ::
  (nat_lit 288, Obj.mk (Value.type "tuple") Option.none (Data.seq #[Value.str (Str.ofString "cls") 582, Value.str (Str.ofString "level") 583]) #[]) ::
  (nat_lit 289, Obj.mk (Value.type "tuple") Option.none (Data.seq #[]) #[]) ::
  (nat_lit 291, Obj.mk (Value.type "code") Option.none (Data.fields #[Value.str (Str.ofString "begin") 579, Value.str (Str.ofString "CellId.begin") 580, Value.str (Str.ofString "/claim/cut.py") 581, Value.int 176 0, Value.int 2 0, Value.int 0 0, Value.int 0 0, Value.int 3 0, Value.ref 286, Value.bool Bool.true, Value.int 181 0, Value.ref 287, Value.none, Value.ref 288, Value.ref 289, Value.ref 290, Value.int 584 0, Value.int 176 0, Value.str (Str.ofString "/claim/cut.py") 585]) #[]) ::
  (nat_lit 292, Obj.mk (Value.type "function") Option.none (Data.func (by (refine' (_ : RwWay (rwM 2 44 rfl rfl fun n a b c => FuncData.mk n (Str.ofString "CellId.begin") a b c 3 [] Value.none Value.none Value.none (Value.str (Str.ofString "s2sphere.sphere") 194) (Option.some 295) (Value.ref 291) Value.none 0)) _ _; exact fun x _ => x; rotate_left; conv => (rhs; whnf)))) #[]) ::
  (nat_lit 293, Obj.mk (Value.type "dict") Option.none (Data.dict #[DictEntry.mk (PyData.keyHash P (Str.ofString "__module__")) (Value.str (Str.ofString "__module__") 587) (Value.str (Str.ofString "s2sphere.sphere") 194), DictEntry.mk (PyData.keyHash P (Str.ofString "__name__")) (Value.str (Str.ofString "__name__") 590) (Value.str (Str.ofString "begin") 589), DictEntry.mk (PyData.keyHash P (Str.ofString "__qualname__")) (Value.str (Str.ofString "__qualname__") 593) (Value.str (Str.ofString "CellId.begin") 592), DictEntry.mk (PyData.keyHash P (Str.ofString "__doc__")) (Value.str (Str.ofString "__doc__") 595) Value.none, DictEntry.mk (PyData.keyHash P (Str.ofString "__annotations__")) (Value.str (Str.ofString "__annotations__") 597) (Value.ref 295)] 5) #[]) ::
  (nat_lit 294, Obj.mk (Value.type "classmethod") (Option.some 293) (Data.fields #[Value.ref 292, Value.bool Bool.false]) #[]) ::
  (nat_lit 295, Obj.mk (Value.type "dict") Option.none (Data.dict #[]) #[]) ::
  (nat_lit 296, Obj.mk (Value.type "tuple") Option.none (Data.seq #[]) #[]) ::
  (nat_lit 298, Obj.mk (Value.type "tuple") Option.none (Data.seq #[Value.str (Str.ofString "cls") 602, Value.str (Str.ofString "level") 603]) #[]) ::
  (nat_lit 299, Obj.mk (Value.type "tuple") Option.none (Data.seq #[]) #[]) ::
  (nat_lit 301, Obj.mk (Value.type "code") Option.none (Data.fields #[Value.str (Str.ofString "end") 599, Value.str (Str.ofString "CellId.end") 600, Value.str (Str.ofString "/claim/cut.py") 601, Value.int 180 0, Value.int 2 0, Value.int 0 0, Value.int 0 0, Value.int 3 0, Value.ref 296, Value.bool Bool.true, Value.int 181 0, Value.ref 297, Value.none, Value.ref 298, Value.ref 299, Value.ref 300, Value.int 604 0, Value.int 180 0, Value.str (Str.ofString "/claim/cut.py") 605]) #[]) ::
  (nat_lit 302, Obj.mk (Value.type "function") Option.none (Data.func (by (refine' (_ : RwWay (rwM 2 45 rfl rfl fun n a b c => FuncData.mk n (Str.ofString "CellId.end") a b c 3 [] Value.none Value.none Value.none (Value.str (Str.ofString "s2sphere.sphere") 194) (Option.some 305) (Value.ref 301) Value.none 0)) _ _; exact fun x _ => x; rotate_left; conv => (rhs; whnf)))) #[]) ::
  (nat_lit 303, Obj.mk (Value.type "dict") Option.none (Data.dict #[DictEntry.mk (PyData.keyHash P (Str.ofString "__module__")) (Value.str (Str.ofString "__module__") 607) (Value.str (Str.ofString "s2sphere.sphere") 194), DictEntry.mk (PyData.keyHash P (Str.ofString "__name__")) (Value.str (Str.ofString "__name__") 610) (Value.str (Str.ofString "end") 609), DictEntry.mk (PyData.keyHash P (Str.ofString "__qualname__")) (Value.str (Str.ofString "__qualname__") 613) (Value.str (Str.ofString "CellId.end") 612), DictEntry.mk (PyData.keyHash P (Str.ofString "__doc__")) (Value.str (Str.ofString "__doc__") 615) Value.none, DictEntry.mk (PyData.keyHash P (Str.ofString "__annotations__")) (Value.str (Str.ofString "__annotations__") 617) (Value.ref 305)] 5) #[]) ::
  (nat_lit 304, Obj.mk (Value.type "classmethod") (Option.some 303) (Data.fields #[Value.ref 302, Value.bool Bool.false]) #[]) ::
  (nat_lit 305, Obj.mk (Value.type "dict") Option.none (Data.dict #[]) #[]) ::
  (nat_lit 306, Obj.mk (Value.type "tuple") Option.none (Data.seq #[]) #[]) ::
  (nat_lit 308, Obj.mk (Value.type "tuple") Option.none (Data.seq #[Value.str (Str.ofString "cls") 622, Value.str (Str.ofString "level") 623]) #[]) ::
  (nat_lit 309, Obj.mk (Value.type "tuple") Option.none (Data.seq #[]) #[]) ::
  (nat_lit 311, Obj.mk (Value.type "code") Option.none (Data.fields #[Value.str (Str.ofString "walk") 619, Value.str (Str.ofString "CellId.walk") 620, Value.str (Str.ofString "/claim/cut.py") 621, Value.int 184 0, Value.int 2 0, Value.int 0 0, Value.int 0 0, Value.int 3 0, Value.ref 306, Value.bool Bool.true, Value.int 181 0, Value.ref 307, Value.none, Value.ref 308, Value.ref 309, Value.ref 310, Value.int 624 0, Value.int 184 0, Value.str (Str.ofString "/claim/cut.py") 625]) #[]) ::
  (nat_lit 312, Obj.mk (Value.type "function") Option.none (Data.func (by (refine' (_ : RwWay (rwM 2 46 rfl rfl fun n a b c => FuncData.mk n (Str.ofString "CellId.walk") a b c 3 [] Value.none Value.none Value.none (Value.str (Str.ofString "s2sphere.sphere") 194) (Option.some 315) (Value.ref 311) Value.none 0)) _ _; exact fun x _ => x; rotate_left; conv => (rhs; whnf)))) #[]) ::
  (nat_lit 313, Obj.mk (Value.type "dict") Option.none (Data.dict #[DictEntry.mk (PyData.keyHash P (Str.ofString "__module__")) (Value.str (Str.ofString "__module__") 627) (Value.str (Str.ofString "s2sphere.sphere") 194), DictEntry.mk (PyData.keyHash P (Str.ofString "__name__")) (Value.str (Str.ofString "__name__") 630) (Value.str (Str.ofString "walk") 629), DictEntry.mk (PyData.keyHash P (Str.ofString "__qualname__")) (Value.str (Str.ofString "__qualname__") 633) (Value.str (Str.ofString "CellId.walk") 632), DictEntry.mk (PyData.keyHash P (Str.ofString "__doc__")) (Value.str (Str.ofString "__doc__") 635) Value.none, DictEntry.mk (PyData.keyHash P (Str.ofString "__annotations__")) (Value.str (Str.ofString "__annotations__") 637) (Value.ref 315)] 5) #[]) ::
  (nat_lit 314, Obj.mk (Value.type "classmethod") (Option.some 313) (Data.fields #[Value.ref 312, Value.bool Bool.false]) #[]) ::
  (nat_lit 315, Obj.mk (Value.type "dict") Option.none (Data.dict #[]) #[]) ::
  (nat_lit 316, Obj.mk (Value.type "tuple") Option.none (Data.seq #[]) #[]) ::
  (nat_lit 318, Obj.mk (Value.type "tuple") Option.none (Data.seq #[Value.str (Str.ofString "cls") 642, Value.str (Str.ofString "level") 643]) #[]) ::
  (nat_lit 319, Obj.mk (Value.type "tuple") Option.none (Data.seq #[]) #[]) ::
  (nat_lit 321, Obj.mk (Value.type "code") Option.none (Data.fields #[Value.str (Str.ofString "walk_fast") 639, Value.str (Str.ofString "CellId.walk_fast") 640, Value.str (Str.ofString "/claim/cut.py") 641, Value.int 188 0, Value.int 2 0, Value.int 0 0, Value.int 0 0, Value.int 3 0, Value.ref 316, Value.bool Bool.true, Value.int 181 0, Value.ref 317, Value.none, Value.ref 318, Value.ref 319, Value.ref 320, Value.int 644 0, Value.int 188 0, Value.str (Str.ofString "/claim/cut.py") 645]) #[]) ::
  (nat_lit 322, Obj.mk (Value.type "function") Option.none (Data.func (by (refine' (_ : RwWay (rwM 2 47 rfl rfl fun n a b c => FuncData.mk n (Str.ofString "CellId.walk_fast") a b c 3 [] Value.none Value.none Value.none (Value.str (Str.ofString "s2sphere.sphere") 194) (Option.some 325) (Value.ref 321) Value.none 0)) _ _; exact fun x _ => x; rotate_left; conv => (rhs; whnf)))) #[]) ::
  (nat_lit 323, Obj.mk (Value.type "dict") Option.none (Data.dict #[DictEntry.mk (PyData.keyHash P (Str.ofString "__module__")) (Value.str (Str.ofString "__module__") 647) (Value.str (Str.ofString "s2sphere.sphere") 194), DictEntry.mk (PyData.keyHash P (Str.ofString "__name__")) (Value.str (Str.ofString "__name__") 650) (Value.str (Str.ofString "walk_fast") 649), DictEntry.mk (PyData.keyHash P (Str.ofString "__qualname__")) (Value.str (Str.ofString "__qualname__") 653) (Value.str (Str.ofString "CellId.walk_fast") 652), DictEntry.mk (PyData.keyHash P (Str.ofString "__doc__")) (Value.str (Str.ofString "__doc__") 655) Value.none, DictEntry.mk (PyData.keyHash P (Str.ofString "__annotations__")) (Value.str (Str.ofString "__annotations__") 657) (Value.ref 325)] 5) #[]) ::
  (nat_lit 324, Obj.mk (Value.type "classmethod") (Option.some 323) (Data.fields #[Value.ref 322, Value.bool Bool.false]) #[]) ::
  (nat_lit 325, Obj.mk (Value.type "dict") Option.none (Data.dict #[]) #[]) ::
  (nat_lit 326, Obj.mk (Value.type "tuple") Option.none (Data.seq #[]) #[]) ::
  (nat_lit 328, Obj.mk (Value.type "tuple") Option.none (Data.seq #[Value.str (Str.ofString "cls") 662]) #[]) ::
  (nat_lit 329, Obj.mk (Value.type "tuple") Option.none (Data.seq #[]) #[]) ::
  (nat_lit 331, Obj.mk (Value.type "code") Option.none (Data.fields #[Value.str (Str.ofString "none") 659, Value.str (Str.ofString "CellId.none") 660, Value.str (Str.ofString "/claim/cut.py") 661, Value.int 192 0, Value.int 1 0, Value.int 0 0, Value.int 0 0, Value.int 3 0, Value.ref 326, Value.bool Bool.true, Value.int 181 0, Value.ref 327, Value.none, Value.ref 328, Value.ref 329, Value.ref 330, Value.int 663 0, Value.int 192 0, Value.str (Str.ofString "/claim/cut.py") 664]) #[]) ::
  (nat_lit 332, Obj.mk (Value.type "function") Option.none (Data.func (by (refine' (_ : RwWay (rwM 2 48 rfl rfl fun n a b c => FuncData.mk n (Str.ofString "CellId.none") a b c 3 [] Value.none Value.none Value.none (Value.str (Str.ofString "s2sphere.sphere") 194) (Option.some 335) (Value.ref 331) Value.none 0)) _ _; exact fun x _ => x; rotate_left; conv => (rhs; whnf)))) #[]) ::
  (nat_lit 333, Obj.mk (Value.type "dict") Option.none (Data.dict #[DictEntry.mk (PyData.keyHash P (Str.ofString "__module__")) (Value.str (Str.ofString "__module__") 666) (Value.str (Str.ofString "s2sphere.sphere") 194), DictEntry.mk (PyData.keyHash P (Str.ofString "__name__")) (Value.str (Str.ofString "__name__") 669) (Value.str (Str.ofString "none") 668), DictEntry.mk (PyData.keyHash P (Str.ofString "__qualname__")) (Value.str (Str.ofString "__qualname__") 672) (Value.str (Str.ofString "CellId.none") 671), DictEntry.mk (PyData.keyHash P (Str.ofString "__doc__")) (Value.str (Str.ofString "__doc__") 674) Value.none, DictEntry.mk (PyData.keyHash P (Str.ofString "__annotations__")) (Value.str (Str.ofString "__annotations__") 676) (Value.ref 335)] 5) #[]) ::
  (nat_lit 334, Obj.mk (Value.type "classmethod") (Option.some 333) (Data.fields #[Value.ref 332, Value.bool Bool.false]) #[]) ::
  (nat_lit 335, Obj.mk (Value.type "dict") Option.none (Data.dict #[]) #[]) ::
  (nat_lit 336, Obj.mk (Value.type "tuple") Option.none (Data.seq #[]) #[]) ::
  (nat_lit 338, Obj.mk (Value.type "tuple") Option.none (Data.seq #[Value.str (Str.ofString "self") 681, Value.str (Str.ofString "p") 682]) #[]) ::
  (nat_lit 339, Obj.mk (Value.type "tuple") Option.none (Data.seq #[]) #[]) ::
  (nat_lit 341, Obj.mk (Value.type "code") Option.none (Data.fields #[Value.str (Str.ofString "prev_wrap") 678, Value.str (Str.ofString "CellId.prev_wrap") 679, Value.str (Str.ofString "/claim/cut.py") 680, Value.int 196 0, Value.int 1 0, Value.int 0 0, Value.int 0 0, Value.int 3 0, Value.ref 336, Value.bool Bool.true, Value.int 181 0, Value.ref 337, Value.none, Value.ref 338, Value.ref 339, Value.ref 340, Value.int 683 0, Value.int 196 0, Value.str (Str.ofString "/claim/cut.py") 684]) #[]) ::
  (nat_lit 342, Obj.mk (Value.type "function") Option.none (Data.func (by (refine' (_ : RwWay (rwM 2 49 rfl rfl fun n a b c => FuncData.mk n (Str.ofString "CellId.prev_wrap") a b c 3 [] Value.none Value.none Value.none (Value.str (Str.ofString "s2sphere.sphere") 194) Option.none (Value.ref 341) Value.none 0)) _ _; exact fun x _ => x; rotate_left; conv => (rhs; whnf)))) #[]) ::
  (nat_lit 343, Obj.mk (Value.type "tuple") Option.none (Data.seq #[]) #[]) ::
  (nat_lit 345, Obj.mk (Value.type "tuple") Option.none (Data.seq #[Value.str (Str.ofString "self") 689, Value.str (Str.ofString "n") 690]) #[]) ::
  (nat_lit 346, Obj.mk (Value.type "tuple") Option.none (Data.seq #[]) #[]) ::
  (nat_lit 348, Obj.mk (Value.type "code") Option.none (Data.fields #[Value.str (Str.ofString "next_wrap") 686, Value.str (Str.ofString "CellId.next_wrap") 687, Value.str (Str.ofString "/claim/cut.py") 688, Value.int 204 0, Value.int 1 0, Value.int 0 0, Value.int 0 0, Value.int 3 0, Value.ref 343, Value.bool Bool.true, Value.int 181 0, Value.ref 344, Value.none, Value.ref 345, Value.ref 346, Value.ref 347, Value.int 691 0, Value.int 204 0, Value.str (Str.ofString "/claim/cut.py") 692]) #[]) ::
  (nat_lit 349, Obj.mk (Value.type "function") Option.none (Data.func (by (refine' (_ : RwWay (rwM 2 50 rfl rfl fun n a b c => FuncData.mk n (Str.ofString "CellId.next_wrap") a b c 3 [] Value.none Value.none Value.none (Value.str (Str.ofString "s2sphere.sphere") 194) Option.none (Value.ref 348) Value.none 0)) _ _; exact fun x _ => x; rotate_left; conv => (rhs; whnf)))) #[]) ::
  (nat_lit 350, Obj.mk (Value.type "tuple") Option.none (Data.seq #[]) #[]) ::
  (nat_lit 352, Obj.mk (Value.type "tuple") Option.none (Data.seq #[Value.str (Str.ofString "self") 697, Value.str (Str.ofString "steps") 698, Value.str (Str.ofString "step_shift") 699, Value.str (Str.ofString "min_steps") 700, Value.str (Str.ofString "step_wrap") 701, Value.str (Str.ofString "max_steps") 702]) #[]) ::
  (nat_lit 353, Obj.mk (Value.type "tuple") Option.none (Data.seq #[]) #[]) ::
  (nat_lit 355, Obj.mk (Value.type "code") Option.none (Data.fields #[Value.str (Str.ofString "advance_wrap") 694, Value.str (Str.ofString "CellId.advance_wrap") 695, Value.str (Str.ofString "/claim/cut.py") 696, Value.int 212 0, Value.int 2 0, Value.int 0 0, Value.int 0 0, Value.int 3 0, Value.ref 350, Value.bool Bool.true, Value.int 181 0, Value.ref 351, Value.none, Value.ref 352, Value.ref 353, Value.ref 354, Value.int 703 0, Value.int 212 0, Value.str (Str.ofString "/claim/cut.py") 704]) #[]) ::
  (nat_lit 356, Obj.mk (Value.type "function") Option.none (Data.func (by (refine' (_ : RwWay (rwM 2 51 rfl rfl fun n a b c => FuncData.mk n (Str.ofString "CellId.advance_wrap") a b c 3 [] Value.none Value.none Value.none (Value.str (Str.ofString "s2sphere.sphere") 194) Option.none (Value.ref 355) Value.none 0)) _ _; exact fun x _ => x; rotate_left; conv => (rhs; whnf)))) #[]) ::
  (nat_lit 357, Obj.mk (Value.type "tuple") Option.none (Data.seq #[]) #[]) ::
  (nat_lit 359, Obj.mk (Value.type "tuple") Option.none (Data.seq #[Value.str (Str.ofString "self") 709, Value.str (Str.ofString "steps") 710, Value.str (Str.ofString "step_shift") 711, Value.str (Str.ofString "min_steps") 712, Value.str (Str.ofString "max_steps") 713]) #[]) ::
  (nat_lit 360, Obj.mk (Value.type "tuple") Option.none (Data.seq #[]) #[]) ::
  (nat_lit 362, Obj.mk (Value.type "code") Option.none (Data.fields #[Value.str (Str.ofString "advance") 706, Value.str (Str.ofString "CellId.advance") 707, Value.str (Str.ofString "/claim/cut.py") 708, Value.int 233 0, Value.int 2 0, Value.int 0 0, Value.int 0 0, Value.int 3 0, Value.ref 357, Value.bool Bool.true, Value.int 181 0, Value.ref 358, Value.none, Value.ref 359, Value.ref 360, Value.ref 361, Value.int 714 0, Value.int 233 0, Value.str (Str.ofString "/claim/cut.py") 715]) #[]) ::
  (nat_lit 363, Obj.mk (Value.type "function") Option.none (Data.func (by (refine' (_ : RwWay (rwM 2 52 rfl rfl fun n a b c => FuncData.mk n (Str.ofString "CellId.advance") a b c 3 [] Value.none Value.none Value.none (Value.str (Str.ofString "s2sphere.sphere") 194) Option.none (Value.ref 362) Value.none 0)) _ _; exact fun x _ => x; rotate_left; conv => (rhs; whnf)))) #[]) ::
  (nat_lit 364, Obj.mk (Value.type "tuple") Option.none (Data.seq #[]) #[]) ::
  (nat_lit 366, Obj.mk (Value.type "tuple") Option.none (Data.seq #[Value.str (Str.ofString "self") 720]) #[]) ::
  (nat_lit 367, Obj.mk (Value.type "tuple") Option.none (Data.seq #[]) #[]) ::
  (nat_lit 369, Obj.mk (Value.type "code") Option.none (Data.fields #[Value.str (Str.ofString "get_center_si_ti") 717, Value.str (Str.ofString "CellId.get_center_si_ti") 718, Value.str (Str.ofString "/claim/cut.py") 719, Value.int 247 0, Value.int 1 0, Value.int 0 0, Value.int 0 0, Value.int 3 0, Value.ref 364, Value.bool Bool.true, Value.int 181 0, Value.ref 365, Value.none, Value.ref 366, Value.ref 367, Value.ref 368, Value.int 721 0, Value.int 247 0, Value.str (Str.ofString "/claim/cut.py") 722]) #[]) ::
  (nat_lit 370, Obj.mk (Value.type "function") Option.none (Data.func (by (refine' (_ : RwWay (rwM 2 53 rfl rfl fun n a b c => FuncData.mk n (Str.ofString "CellId.get_center_si_ti") a b c 3 [] Value.none Value.none Value.none (Value.str (Str.ofString "s2sphere.sphere") 194) Option.none (Value.ref 369) Value.none 0)) _ _; exact fun x _ => x; rotate_left; conv => (rhs; whnf)))) #[]) ::
  (nat_lit 371, Obj.mk (Value.type "tuple") Option.none (Data.seq #[]) #[]) ::
  (nat_lit 373, Obj.mk (Value.type "tuple") Option.none (Data.seq #[Value.str (Str.ofString "self") 727]) #[]) ::
  (nat_lit 374, Obj.mk (Value.type "tuple") Option.none (Data.seq #[]) #[]) ::
  (nat_lit 376, Obj.mk (Value.type "code") Option.none (Data.fields #[Value.str (Str.ofString "to_face_ij_orientation") 724, Value.str (Str.ofString "CellId.to_face_ij_orientation") 725, Value.str (Str.ofString "/claim/cut.py") 726, Value.int 250 0, Value.int 1 0, Value.int 0 0, Value.int 0 0, Value.int 3 0, Value.ref 371, Value.bool Bool.true, Value.int 181 0, Value.ref 372, Value.none, Value.ref 373, Value.ref 374, Value.ref 375, Value.int 728 0, Value.int 250 0, Value.str (Str.ofString "/claim/cut.py") 729]) #[]) ::
  (nat_lit 377, Obj.mk (Value.type "function") Option.none (Data.func (by (refine' (_ : RwWay (rwM 2 54 rfl rfl fun n a b c => FuncData.mk n (Str.ofString "CellId.to_face_ij_orientation") a b c 3 [] Value.none Value.none Value.none (Value.str (Str.ofString "s2sphere.sphere") 194) Option.none (Value.ref 376) Value.none 0)) _ _; exact fun x _ => x; rotate_left; conv => (rhs; whnf)))) #[]) ::
  (nat_lit 378, Obj.mk (Value.type "tuple") Option.none (Data.seq #[]) #[]) ::
  (nat_lit 380, Obj.mk (Value.type "tuple") Option.none (Data.seq #[Value.str (Str.ofString "self") 734]) #[]) ::
  (nat_lit 381, Obj.mk (Value.type "tuple") Option.none (Data.seq #[]) #[]) ::
  (nat_lit 383, Obj.mk (Value.type "code") Option.none (Data.fields #[Value.str (Str.ofString "get_edge_neighbors") 731, Value.str (Str.ofString "CellId.get_edge_neighbors") 732, Value.str (Str.ofString "/claim/cut.py") 733, Value.int 253 0, Value.int 1 0, Value.int 0 0, Value.int 0 0, Value.int 3 0, Value.ref 378, Value.bool Bool.true, Value.int 181 0, Value.ref 379, Value.none, Value.ref 380, Value.ref 381, Value.ref 382, Value.int 735 0, Value.int 253 0, Value.str (Str.ofString "/claim/cut.py") 736]) #[]) ::
  (nat_lit 384, Obj.mk (Value.type "function") Option.none (Data.func (by (refine' (_ : RwWay (rwM 2 55 rfl rfl fun n a b c => FuncData.mk n (Str.ofString "CellId.get_edge_neighbors") a b c 3 [] Value.none Value.none Value.none (Value.str (Str.ofString "s2sphere.sphere") 194) Option.none (Value.ref 383) Value.none 0)) _ _; exact fun x _ => x; rotate_left; conv => (rhs; whnf)))) #[]) ::
  (nat_lit 385, Obj.mk (Value.type "tuple") Option.none (Data.seq #[]) #[]) ::
  (nat_lit 387, Obj.mk (Value.type "tuple") Option.none (Data.seq #[Value.str (Str.ofString "self") 741, Value.str (Str.ofString "level") 742]) #[]) ::
  (nat_lit 388, Obj.mk (Value.type "tuple") Option.none (Data.seq #[]) #[]) ::
  (nat_lit 390, Obj.mk (Value.type "code") Option.none (Data.fields #[Value.str (Str.ofString "get_vertex_neighbors") 738, Value.str (Str.ofString "CellId.get_vertex_neighbors") 739, Value.str (Str.ofString "/claim/cut.py") 740, Value.int 256 0, Value.int 2 0, Value.int 0 0, Value.int 0 0, Value.int 3 0, Value.ref 385, Value.bool Bool.true, Value.int 181 0, Value.ref 386, Value.none, Value.ref 387, Value.ref 388, Value.ref 389, Value.int 743 0, Value.int 256 0, Value.str (Str.ofString "/claim/cut.py") 744]) #[]) ::
  (nat_lit 391, Obj.mk (Value.type "function") Option.none (Data.func (by (refine' (_ : RwWay (rwM 2 56 rfl rfl fun n a b c => FuncData.mk n (Str.ofString "CellId.get_vertex_neighbors") a b c 3 [] Value.none Value.none Value.none (Value.str (Str.ofString "s2sphere.sphere") 194) Option.none (Value.ref 390) Value.none 0)) _ _; exact fun x _ => x; rotate_left; conv => (rhs; whnf)))) #[]) ::
  (nat_lit 392, Obj.mk (Value.type "tuple") Option.none (Data.seq #[]) #[]) ::
  (nat_lit 394, Obj.mk (Value.type "tuple") Option.none (Data.seq #[Value.str (Str.ofString "self") 749, Value.str (Str.ofString "nbr_level") 750]) #[]) ::
  (nat_lit 395, Obj.mk (Value.type "tuple") Option.none (Data.seq #[]) #[]) ::
  (nat_lit 397, Obj.mk (Value.type "code") Option.none (Data.fields #[Value.str (Str.ofString "get_all_neighbors") 746, Value.str (Str.ofString "CellId.get_all_neighbors") 747, Value.str (Str.ofString "/claim/cut.py") 748, Value.int 259 0, Value.int 2 0, Value.int 0 0, Value.int 0 0, Value.int 3 0, Value.ref 392, Value.bool Bool.true, Value.int 181 0, Value.ref 393, Value.none, Value.ref 394, Value.ref 395, Value.ref 396, Value.int 751 0, Value.int 259 0, Value.str (Str.ofString "/claim/cut.py") 752]) #[]) ::
  (nat_lit 398, Obj.mk (Value.type "function") Option.none (Data.func (by (refine' (_ : RwWay (rwM 2 57 rfl rfl fun n a b c => FuncData.mk n (Str.ofString "CellId.get_all_neighbors") a b c 3 [] Value.none Value.none Value.none (Value.str (Str.ofString "s2sphere.sphere") 194) Option.none (Value.ref 397) Value.none 0)) _ _; exact fun x _ => x; rotate_left; conv => (rhs; whnf)))) #[]) ::
  (nat_lit 399, Obj.mk (Value.type "tuple") Option.none (Data.seq #[]) #[]) ::
  (nat_lit 401, Obj.mk (Value.type "tuple") Option.none (Data.seq #[Value.str (Str.ofString "self") 757, Value.str (Str.ofString "args") 758]) #[]) ::
  (nat_lit 402, Obj.mk (Value.type "tuple") Option.none (Data.seq #[]) #[]) ::
  (nat_lit 404, Obj.mk (Value.type "code") Option.none (Data.fields #[Value.str (Str.ofString "get_size_ij") 754, Value.str (Str.ofString "CellId.get_size_ij") 755, Value.str (Str.ofString "/claim/cut.py") 756, Value.int 262 0, Value.int 1 0, Value.int 0 0, Value.int 0 0, Value.int 7 0, Value.ref 399, Value.bool Bool.true, Value.int 181 0, Value.ref 400, Value.none, Value.ref 401, Value.ref 402, Value.ref 403, Value.int 759 0, Value.int 262 0, Value.str (Str.ofString "/claim/cut.py") 760]) #[]) ::
  (nat_lit 405, Obj.mk (Value.type "function") Option.none (Data.func (by (refine' (_ : RwWay (rwM 2 58 rfl rfl fun n a b c => FuncData.mk n (Str.ofString "CellId.get_size_ij") a b c 3 [] Value.none Value.none Value.none (Value.str (Str.ofString "s2sphere.sphere") 194) Option.none (Value.ref 404) Value.none 0)) _ _; exact fun x _ => x; rotate_left; conv => (rhs; whnf)))) #[]) ::
  (nat_lit 406, Obj.mk (Value.type "tuple") Option.none (Data.seq #[]) #[]) ::
  (nat_lit 408, Obj.mk (Value.type "tuple") Option.none (Data.seq #[Value.str (Str.ofString "self") 765]) #[]) ::
  (nat_lit 409, Obj.mk (Value.type "tuple") Option.none (Data.seq #[]) #[]) ::
  (nat_lit 411, Obj.mk (Value.type "code") Option.none (Data.fields #[Value.str (Str.ofString "to_token") 762, Value.str (Str.ofString "CellId.to_token") 763, Value.str (Str.ofString "/claim/cut.py") 764, Value.int 265 0, Value.int 1 0, Value.int 0 0, Value.int 0 0, Value.int 3 0, Value.ref 406, Value.bool Bool.true, Value.int 181 0, Value.ref 407, Value.none, Value.ref 408, Value.ref 409, Value.ref 410, Value.int 766 0, Value.int 265 0, Value.str (Str.ofString "/claim/cut.py") 767]) #[]) ::
  (nat_lit 412, Obj.mk (Value.type "function") Option.none (Data.func (by (refine' (_ : RwWay (rwM 2 59 rfl rfl fun n a b c => FuncData.mk n (Str.ofString "CellId.to_token") a b c 3 [] Value.none Value.none Value.none (Value.str (Str.ofString "s2sphere.sphere") 194) Option.none (Value.ref 411) Value.none 0)) _ _; exact fun x _ => x; rotate_left; conv => (rhs; whnf)))) #[]) ::
  (nat_lit 413, Obj.mk (Value.type "tuple") Option.none (Data.seq #[]) #[]) ::
  (nat_lit 415, Obj.mk (Value.type "tuple") Option.none (Data.seq #[Value.str (Str.ofString "cls") 772, Value.str (Str.ofString "token") 773]) #[]) ::
  (nat_lit 416, Obj.mk (Value.type "tuple") Option.none (Data.seq #[]) #[]) ::
  (nat_lit 418, Obj.mk (Value.type "code") Option.none (Data.fields #[Value.str (Str.ofString "from_token") 769, Value.str (Str.ofString "CellId.from_token") 770, Value.str (Str.ofString "/claim/cut.py") 771, Value.int 268 0, Value.int 2 0, Value.int 0 0, Value.int 0 0, Value.int 3 0, Value.ref 413, Value.bool Bool.true, Value.int 181 0, Value.ref 414, Value.none, Value.ref 415, Value.ref 416, Value.ref 417, Value.int 774 0, Value.int 268 0, Value.str (Str.ofString "/claim/cut.py") 775]) #[]) ::
  (nat_lit 419, Obj.mk (Value.type "function") Option.none (Data.func (by (refine' (_ : RwWay (rwM 2 60 rfl rfl fun n a b c => FuncData.mk n (Str.ofString "CellId.from_token") a b c 3 [] Value.none Value.none Value.none (Value.str (Str.ofString "s2sphere.sphere") 194) (Option.some 422) (Value.ref 418) Value.none 0)) _ _; exact fun x _ => x; rotate_left; conv => (rhs; whnf)))) #[]) ::
  (nat_lit 420, Obj.mk (Value.type "dict") Option.none (Data.dict #[DictEntry.mk (PyData.keyHash P (Str.ofString "__module__")) (Value.str (Str.ofString "__module__") 777) (Value.str (Str.ofString "s2sphere.sphere") 194), DictEntry.mk (PyData.keyHash P (Str.ofString "__name__")) (Value.str (Str.ofString "__name__") 780) (Value.str (Str.ofString "from_token") 779), DictEntry.mk (PyData.keyHash P (Str.ofString "__qualname__")) (Value.str (Str.ofString "__qualname__") 783) (Value.str (Str.ofString "CellId.from_token") 782), DictEntry.mk (PyData.keyHash P (Str.ofString "__doc__")) (Value.str (Str.ofString "__doc__") 785) Value.none, DictEntry.mk (PyData.keyHash P (Str.ofString "__annotations__")) (Value.str (Str.ofString "__annotations__") 787) (Value.ref 422)] 5) #[]) ::
  (nat_lit 421, Obj.mk (Value.type "classmethod") (Option.some 420) (Data.fields #[Value.ref 419, Value.bool Bool.false]) #[]) ::
  (nat_lit 422, Obj.mk (Value.type "dict") Option.none (Data.dict #[]) #[]) ::
  (nat_lit 423, Obj.mk (Value.type "tuple") Option.none (Data.seq #[Value.str (Str.ofString "__id") 789]) #[]) ::
  (nat_lit 424, Obj.mk (Value.type "dict") Option.none (Data.dict (List.toArray (DictEntry.mk (PyData.keyHash P (Str.ofString "__module__")) (Value.str (Str.ofString "__module__") 203) (Value.str (Str.ofString "s2sphere.sphere") 194) :: DictEntry.mk (PyData.keyHash P (Str.ofString "__firstlineno__")) (Value.str (Str.ofString "__firstlineno__") 207) (Value.int 5 206) :: DictEntry.mk (PyData.keyHash P (Str.ofString "LINEAR_PROJECTION")) (Value.str (Str.ofString "LINEAR_PROJECTION") 209) (Value.int 0 208) :: DictEntry.mk (PyData.keyHash P (Str.ofString "TAN_PROJECTION")) (Value.str (Str.ofString "TAN_PROJECTION") 211) (Value.int 1 210) :: DictEntry.mk (PyData.keyHash P (Str.ofString "QUADRATIC_PROJECTION")) (Value.str (Str.ofString "QUADRATIC_PROJECTION") 213) (Value.int 2 212) :: DictEntry.mk (PyData.keyHash P (Str.ofString "PROJECTION")) (Value.str (Str.ofString "PROJECTION") 214) (Value.int 2 212) :: DictEntry.mk (PyData.keyHash P (Str.ofString "FACE_BITS")) (Value.str (Str.ofString "FACE_BITS") 216) (Value.int 3 215) :: DictEntry.mk (PyData.keyHash P (Str.ofString "NUM_FACES")) (Value.str (Str.ofString "NUM_FACES") 218) (Value.int 6 217) :: DictEntry.mk (PyData.keyHash P (Str.ofString "MAX_LEVEL")) (Value.str (Str.ofString "MAX_LEVEL") 220) (Value.int 30 219) :: DictEntry.mk (PyData.keyHash P (Str.ofString "POS_BITS")) (Value.str (Str.ofString "POS_BITS") 225) (Value.int 61 224) :: DictEntry.mk (PyData.keyHash P (Str.ofString "MAX_SIZE")) (Value.str (Str.ofString "MAX_SIZE") 228) (Value.int 1073741824 227) :: DictEntry.mk (PyData.keyHash P (Str.ofString "WRAP_OFFSET")) (Value.str (Str.ofString "WRAP_OFFSET") 230) (Value.int 13835058055282163712 229) :: DictEntry.mk (PyData.keyHash P (Str.ofString "__init__")) (Value.str (Str.ofString "__init__") 239) (Value.ref 36) :: DictEntry.mk (PyData.keyHash P (Str.ofString "__repr__")) (Value.str (Str.ofString "__repr__") 246) (Value.ref 43) :: DictEntry.mk (PyData.keyHash P (Str.ofString "__hash__")) (Value.str (Str.ofString "__hash__") 253) (Value.ref 50) :: DictEntry.mk (PyData.keyHash P (Str.ofString "__eq__")) (Value.str (Str.ofString "__eq__") 261) (Value.ref 57) :: DictEntry.mk (PyData.keyHash P (Str.ofString "__ne__")) (Value.str (Str.ofString "__ne__") 269) (Value.ref 64) :: DictEntry.mk (PyData.keyHash P (Str.ofString "__lt__")) (Value.str (Str.ofString "__lt__") 277) (Value.ref 71) :: DictEntry.mk (PyData.keyHash P (Str.ofString "__le__")) (Value.str (Str.ofString "__le__") 285) (Value.ref 78) :: DictEntry.mk (PyData.keyHash P (Str.ofString "__gt__")) (Value.str (Str.ofString "__gt__") 293) (Value.ref 85) :: DictEntry.mk (PyData.keyHash P (Str.ofString "__ge__")) (Value.str (Str.ofString "__ge__") 301) (Value.ref 92) :: DictEntry.mk (PyData.keyHash P (Str.ofString "from_face_pos_level")) (Value.str (Str.ofString "from_face_pos_level") 323) (Value.ref 101) :: DictEntry.mk (PyData.keyHash P (Str.ofString "from_face_ij")) (Value.str (Str.ofString "from_face_ij") 345) (Value.ref 111) :: DictEntry.mk (PyData.keyHash P (Str.ofString "from_face_ij_wrap")) (Value.str (Str.ofString "from_face_ij_wrap") 367) (Value.ref 121) :: DictEntry.mk (PyData.keyHash P (Str.ofString "from_face_ij_same")) (Value.str (Str.ofString "from_face_ij_same") 390) (Value.ref 131) :: DictEntry.mk (PyData.keyHash P (Str.ofString "st_to_ij")) (Value.str (Str.ofString "st_to_ij") 410) (Value.ref 141) :: DictEntry.mk (PyData.keyHash P (Str.ofString "lsb_for_level")) (Value.str (Str.ofString "lsb_for_level") 430) (Value.ref 151) :: DictEntry.mk (PyData.keyHash P (Str.ofString "parent")) (Value.str (Str.ofString "parent") 440) (Value.ref 159) :: DictEntry.mk (PyData.keyHash P (Str.ofString "child")) (Value.str (Str.ofString "child") 448) (Value.ref 166) :: DictEntry.mk (PyData.keyHash P (Str.ofString "contains")) (Value.str (Str.ofString "contains") 456) (Value.ref 173) :: DictEntry.mk (PyData.keyHash P (Str.ofString "intersects")) (Value.str (Str.ofString "intersects") 464) (Value.ref 180) :: DictEntry.mk (PyData.keyHash P (Str.ofString "is_face")) (Value.str (Str.ofString "is_face") 471) (Value.ref 187) :: DictEntry.mk (PyData.keyHash P (Str.ofString "id")) (Value.str (Str.ofString "id") 478) (Value.ref 194) :: DictEntry.mk (PyData.keyHash P (Str.ofString "is_valid")) (Value.str (Str.ofString "is_valid") 485) (Value.ref 201) :: DictEntry.mk (PyData.keyHash P (Str.ofString "lsb")) (Value.str (Str.ofString "lsb") 492) (Value.ref 208) :: DictEntry.mk (PyData.keyHash P (Str.ofString "face")) (Value.str (Str.ofString "face") 499) (Value.ref 215) :: DictEntry.mk (PyData.keyHash P (Str.ofString "pos")) (Value.str (Str.ofString "pos") 506) (Value.ref 222) :: DictEntry.mk (PyData.keyHash P (Str.ofString "is_leaf")) (Value.str (Str.ofString "is_leaf") 513) (Value.ref 229) :: DictEntry.mk (PyData.keyHash P (Str.ofString "level")) (Value.str (Str.ofString "level") 522) (Value.ref 236) :: DictEntry.mk (PyData.keyHash P (Str.ofString "child_begin")) (Value.str (Str.ofString "child_begin") 532) (Value.ref 243) :: DictEntry.mk (PyData.keyHash P (Str.ofString "child_end")) (Value.str (Str.ofString "child_end") 542) (Value.ref 250) :: DictEntry.mk (PyData.keyHash P (Str.ofString "prev")) (Value.str (Str.ofString "prev") 549) (Value.ref 257) :: DictEntry.mk (PyData.keyHash P (Str.ofString "next")) (Value.str (Str.ofString "next") 556) (Value.ref 264) :: DictEntry.mk (PyData.keyHash P (Str.ofString "children")) (Value.str (Str.ofString "children") 564) (Value.ref 271) :: DictEntry.mk (PyData.keyHash P (Str.ofString "range_min")) (Value.str (Str.ofString "range_min") 571) (Value.ref 278) :: DictEntry.mk (PyData.keyHash P (Str.ofString "range_max")) (Value.str (Str.ofString "range_max") 578) (Value.ref 285) :: DictEntry.mk (PyData.keyHash P (Str.ofString "begin")) (Value.str (Str.ofString "begin") 598) (Value.ref 294) :: DictEntry.mk (PyData.keyHash P (Str.ofString "end")) (Value.str (Str.ofString "end") 618) (Value.ref 304) :: DictEntry.mk (PyData.keyHash P (Str.ofString "walk")) (Value.str (Str.ofString "walk") 638) (Value.ref 314) :: DictEntry.mk (PyData.keyHash P (Str.ofString "walk_fast")) (Value.str (Str.ofString "walk_fast") 658) (Value.ref 324) :: DictEntry.mk (PyData.keyHash P (Str.ofString "none")) (Value.str (Str.ofString "none") 677) (Value.ref 334) :: DictEntry.mk (PyData.keyHash P (Str.ofString "prev_wrap")) (Value.str (Str.ofString "prev_wrap") 685) (Value.ref 342) :: DictEntry.mk (PyData.keyHash P (Str.ofString "next_wrap")) (Value.str (Str.ofString "next_wrap") 693) (Value.ref 349) :: DictEntry.mk (PyData.keyHash P (Str.ofString "advance_wrap")) (Value.str (Str.ofString "advance_wrap") 705) (Value.ref 356) :: DictEntry.mk (PyData.keyHash P (Str.ofString "advance")) (Value.str (Str.ofString "advance") 716) (Value.ref 363) :: DictEntry.mk (PyData.keyHash P (Str.ofString "get_center_si_ti")) (Value.str (Str.ofString "get_center_si_ti") 723) (Value.ref 370) :: DictEntry.mk (PyData.keyHash P (Str.ofString "to_face_ij_orientation")) (Value.str (Str.ofString "to_face_ij_orientation") 730) (Value.ref 377) :: DictEntry.mk (PyData.keyHash P (Str.ofString "get_edge_neighbors")) (Value.str (Str.ofString "get_edge_neighbors") 737) (Value.ref 384) :: DictEntry.mk (PyData.keyHash P (Str.ofString "get_vertex_neighbors")) (Value.str (Str.ofString "get_vertex_neighbors") 745) (Value.ref 391) :: DictEntry.mk (PyData.keyHash P (Str.ofString "get_all_neighbors")) (Value.str (Str.ofString "get_all_neighbors") 753) (Value.ref 398) :: DictEntry.mk (PyData.keyHash P (Str.ofString "get_size_ij")) (Value.str (Str.ofString "get_size_ij") 761) (Value.ref 405) :: DictEntry.mk (PyData.keyHash P (Str.ofString "to_token")) (Value.str (Str.ofString "to_token") 768) (Value.ref 412) :: DictEntry.mk (PyData.keyHash P (Str.ofString "from_token")) (Value.str (Str.ofString "from_token") 788) (Value.ref 421) :: DictEntry.mk (PyData.keyHash P (Str.ofString "__static_attributes__")) (Value.str (Str.ofString "__static_attributes__") 790) (Value.ref 423) :: DictEntry.mk (PyData.keyHash P (Str.ofString "__dict__")) (Value.str (Str.ofString "__dict__") 792) (Value.ref 426) :: DictEntry.mk (PyData.keyHash P (Str.ofString "__weakref__")) (Value.str (Str.ofString "__weakref__") 794) (Value.ref 427) :: DictEntry.mk (PyData.keyHash P (Str.ofString "__doc__")) (Value.str (Str.ofString "__doc__") 795) Value.none :: [])) 4) #[]) ::
  (nat_lit 425, Obj.mk (Value.type "type") Option.none (Data.cls (ClassData.mk (Str.ofString "CellId") [Value.type "object"] [Value.ref 425, Value.type "object"] 424 (Str.ofString "CellId") Bool.true [] [] Bool.false Option.none Bool.false)) #[Option.some (Value.ref 22), Option.none, Option.some (Value.str (Str.ofString "CellId") 196), Option.some (Value.str (Str.ofString "CellId") 204), Option.some (Value.builtin "object.__new__"), Option.some (Value.bool Bool.true)]) ::
  (nat_lit 426, Obj.mk (Value.type "getset_descriptor") Option.none (Data.fields #[Value.str (Str.ofString "__dict__") 791, Value.ref 425, Value.builtin "function.__dict__", Value.builtin "function.__dict__#set"]) #[]) ::
  (nat_lit 427, Obj.mk (Value.type "getset_descriptor") Option.none (Data.fields #[Value.str (Str.ofString "__weakref__") 793, Value.ref 425, Value.builtin "ExceptionGroup.__weakref__", Value.none]) #[]) ::
  (nat_lit 430, Obj.mk (Value.type "tuple") Option.none (Data.seq #[]) #[]) ::
  (nat_lit 432, Obj.mk (Value.type "tuple") Option.none (Data.seq #[Value.str (Str.ofString "script") 803, Value.str (Str.ofString "at") 804]) #[]) ::
  (nat_lit 433, Obj.mk (Value.type "tuple") Option.none (Data.seq #[]) #[]) ::
  (nat_lit 435, Obj.mk (Value.type "code") Option.none (Data.fields #[Value.str (Str.ofString "_law_number") 800, Value.str (Str.ofString "_law_number") 801, Value.str (Str.ofString "/claim/cut.py") 802, Value.int 272 0, Value.int 2 0, Value.int 0 0, Value.int 0 0, Value.int 3 0, Value.ref 430, Value.bool Bool.true, Value.int 181 0, Value.ref 431, Value.none, Value.ref 432, Value.ref 433, Value.ref 434, Value.int 805 0, Value.int 272 0, Value.str (Str.ofString "/claim/cut.py") 806]) #[]) ::
  (nat_lit 436, Obj.mk (Value.type "function") Option.none (Data.func (by (refine' (_ : RwWay (rwT 4 rfl fun n a b c => FuncData.mk n n a b c 3 [] Value.none Value.none Value.none (Value.str (Str.ofString "law_lp0002_04") 798) Option.none (Value.ref 435) Value.none 0)) _ _; exact fun x _ => x; rotate_left; conv => (rhs; whnf)))) #[]) ::
  (nat_lit 437, Obj.mk (Value.type "tuple") Option.none (Data.seq #[]) #[]) ::
  (nat_lit 439, Obj.mk (Value.type "tuple") Option.none (Data.seq #[Value.str (Str.ofString "index") 811, Value.str (Str.ofString "level") 812]) #[]) ::
  (nat_lit 440, Obj.mk (Value.type "tuple") Option.none (Data.seq #[]) #[]) ::
  (nat_lit 442, Obj.mk (Value.type "code") Option.none (Data.fields #[Value.str (Str.ofString "_law_id") 808, Value.str (Str.ofString "_law_id") 809, Value.str (Str.ofString "/claim/cut.py") 810, Value.int 274 0, Value.int 2 0, Value.int 0 0, Value.int 0 0, Value.int 3 0, Value.ref 437, Value.bool Bool.true, Value.int 181 0, Value.ref 438, Value.none, Value.ref 439, Value.ref 440, Value.ref 441, Value.int 813 0, Value.int 274 0, Value.str (Str.ofString "/claim/cut.py") 814]) #[]) ::
  (nat_lit 443, Obj.mk (Value.type "function") Option.none (Data.func (by (refine' (_ : RwWay (rwT 5 rfl fun n a b c => FuncData.mk n n a b c 3 [] Value.none Value.none Value.none (Value.str (Str.ofString "law_lp0002_04") 798) Option.none (Value.ref 442) Value.none 0)) _ _; exact fun x _ => x; rotate_left; conv => (rhs; whnf)))) #[]) ::
  (nat_lit 444, Obj.mk (Value.type "tuple") Option.none (Data.seq #[]) #[]) ::
  (nat_lit 446, Obj.mk (Value.type "tuple") Option.none (Data.seq #[Value.str (Str.ofString "script") 819, Value.str (Str.ofString "level") 820, Value.str (Str.ofString "first") 821, Value.str (Str.ofString "total") 822, Value.str (Str.ofString "part") 823, Value.str (Str.ofString "index") 824, Value.str (Str.ofString "cell") 825, Value.str (Str.ofString "begin") 826, Value.str (Str.ofString "end") 827, Value.str (Str.ofString "round_cell") 828, Value.str (Str.ofString "round_index") 829, Value.str (Str.ofString "at") 830, Value.str (Str.ofString "number") 831, Value.str (Str.ofString "steps") 832, Value.str (Str.ofString "due") 833, Value.str (Str.ofString "told") 834, Value.str (Str.ofString "after") 835, Value.str (Str.ofString "ahead") 836, Value.str (Str.ofString "low") 837, Value.str (Str.ofString "many") 838]) #[]) ::
  (nat_lit 447, Obj.mk (Value.type "tuple") Option.none (Data.seq #[]) #[]) ::
  (nat_lit 449, Obj.mk (Value.type "code") Option.none (Data.fields #[Value.str (Str.ofString "law") 816, Value.str (Str.ofString "law") 817, Value.str (Str.ofString "/claim/cut.py") 818, Value.int 276 0, Value.int 1 0, Value.int 0 0, Value.int 0 0, Value.int 3 0, Value.ref 444, Value.bool Bool.true, Value.int 181 0, Value.ref 445, Value.none, Value.ref 446, Value.ref 447, Value.ref 448, Value.int 839 0, Value.int 276 0, Value.str (Str.ofString "/claim/cut.py") 840]) #[]) ::
  (nat_lit 450, Obj.mk (Value.type "function") Option.none (Data.func (by (refine' (_ : RwWay (rwT 6 rfl fun n a b c => FuncData.mk n n a b c 3 [] Value.none Value.none Value.none (Value.str (Str.ofString "law_lp0002_04") 798) Option.none (Value.ref 449) Value.none 0)) _ _; exact fun x _ => x; rotate_left; conv => (rhs; whnf)))) #[]) ::
  [] : List (Nat × Obj))
noncomputable def X4 (P : Params) : Frag := (
  (nat_lit 11, Obj.mk (Value.type "tuple") Option.none (Data.seq #[]) #[]) ::
  (nat_lit 12, Obj.mk Value.none Option.none (Data.fields #[Value.int 1 0, Value.int 0 0, Value.ref 20, Value.int 5 0, Value.int 0 0, Value.ref 27, Value.int 272 0, Value.int 0 0, Value.ref 435, Value.int 274 0, Value.int 0 0, Value.ref 442, Value.int 276 0, Value.int 0 0, Value.ref 449]) #[]) ::
  (nat_lit 13, Obj.mk (Value.type "code") Option.none (Data.fields #[Value.str (Str.ofString "<module>") 182, Value.str (Str.ofString "<module>") 183, Value.str (Str.ofString "/claim/cut.py") 184, Value.int 1 0, Value.int 0 0, Value.int 0 0, Value.int 0 0, Value.int 0 0, Value.ref 11, Value.bool Bool.false, Value.int 181 0, Value.ref 12, Value.none, Value.none, Value.none, Value.none, Value.int 185 0, Value.int 1 0, Value.str (Str.ofString "/claim/cut.py") 186]) #[]) ::
  (nat_lit 14, Obj.mk (Value.type "frame") Option.none Data.plain #[Option.some (Value.ref 13), Option.some (Value.ref 3), Option.some (Value.ref 3), Option.none, Option.some (Value.str (Str.ofString "__main__") 164), Option.none, Option.some (Value.ref 0)]) ::
  (nat_lit 16, Obj.mk Value.none Option.none (Data.fields #[]) #[]) ::
  (nat_lit 19, Obj.mk Value.none Option.none (Data.func (by (refine' (_ : RwWay (rwT 0 rfl fun n a b c => FuncData.mk n n a b c 0 [] Value.none Value.none Value.none Value.none Option.none Value.none Value.none 0)) _ _; exact fun x _ => x; rotate_left; conv => (rhs; whnf)))) #[]) ::
  (nat_lit 23, Obj.mk (Value.type "builtin_function_or_method") Option.none (Data.fields #[Value.builtin "type.__prepare__", Value.type "type"]) #[]) ::
  (nat_lit 24, Obj.mk (Value.type "dict") Option.none (Data.dict (List.toArray (DictEntry.mk (PyData.keyHash P (Str.ofString "__module__")) (Value.str (Str.ofString "__module__") 203) (Value.str (Str.ofString "s2sphere.sphere") 194) :: DictEntry.mk (PyData.keyHash P (Str.ofString "__qualname__")) (Value.str (Str.ofString "__qualname__") 205) (Value.str (Str.ofString "CellId") 204) :: DictEntry.mk (PyData.keyHash P (Str.ofString "__firstlineno__")) (Value.str (Str.ofString "__firstlineno__") 207) (Value.int 5 206) :: DictEntry.mk (PyData.keyHash P (Str.ofString "LINEAR_PROJECTION")) (Value.str (Str.ofString "LINEAR_PROJECTION") 209) (Value.int 0 208) :: DictEntry.mk (PyData.keyHash P (Str.ofString "TAN_PROJECTION")) (Value.str (Str.ofString "TAN_PROJECTION") 211) (Value.int 1 210) :: DictEntry.mk (PyData.keyHash P (Str.ofString "QUADRATIC_PROJECTION")) (Value.str (Str.ofString "QUADRATIC_PROJECTION") 213) (Value.int 2 212) :: DictEntry.mk (PyData.keyHash P (Str.ofString "PROJECTION")) (Value.str (Str.ofString "PROJECTION") 214) (Value.int 2 212) :: DictEntry.mk (PyData.keyHash P (Str.ofString "FACE_BITS")) (Value.str (Str.ofString "FACE_BITS") 216) (Value.int 3 215) :: DictEntry.mk (PyData.keyHash P (Str.ofString "NUM_FACES")) (Value.str (Str.ofString "NUM_FACES") 218) (Value.int 6 217) :: DictEntry.mk (PyData.keyHash P (Str.ofString "MAX_LEVEL")) (Value.str (Str.ofString "MAX_LEVEL") 220) (Value.int 30 219) :: DictEntry.mk (PyData.keyHash P (Str.ofString "POS_BITS")) (Value.str (Str.ofString "POS_BITS") 225) (Value.int 61 224) :: DictEntry.mk (PyData.keyHash P (Str.ofString "MAX_SIZE")) (Value.str (Str.ofString "MAX_SIZE") 228) (Value.int 1073741824 227) :: DictEntry.mk (PyData.keyHash P (Str.ofString "WRAP_OFFSET")) (Value.str (Str.ofString "WRAP_OFFSET") 230) (Value.int 13835058055282163712 229) :: DictEntry.mk (PyData.keyHash P (Str.ofString "__init__")) (Value.str (Str.ofString "__init__") 239) (Value.ref 36) :: DictEntry.mk (PyData.keyHash P (Str.ofString "__repr__")) (Value.str (Str.ofString "__repr__") 246) (Value.ref 43) :: DictEntry.mk (PyData.keyHash P (Str.ofString "__hash__")) (Value.str (Str.ofString "__hash__") 253) (Value.ref 50) :: DictEntry.mk (PyData.keyHash P (Str.ofString "__eq__")) (Value.str (Str.ofString "__eq__") 261) (Value.ref 57) :: DictEntry.mk (PyData.keyHash P (Str.ofString "__ne__")) (Value.str (Str.ofString "__ne__") 269) (Value.ref 64) :: DictEntry.mk (PyData.keyHash P (Str.ofString "__lt__")) (Value.str (Str.ofString "__lt__") 277) (Value.ref 71) :: DictEntry.mk (PyData.keyHash P (Str.ofString "__le__")) (Value.str (Str.ofString "__le__") 285) (Value.ref 78) :: DictEntry.mk (PyData.keyHash P (Str.ofString "__gt__")) (Value.str (Str.ofString "__gt__") 293) (Value.ref 85) :: DictEntry.mk (PyData.keyHash P (Str.ofString "__ge__")) (Value.str (Str.ofString "__ge__") 301) (Value.ref 92) :: DictEntry.mk (PyData.keyHash P (Str.ofString "from_face_pos_level")) (Value.str (Str.ofString "from_face_pos_level") 323) (Value.ref 101) :: DictEntry.mk (PyData.keyHash P (Str.ofString "from_face_ij")) (Value.str (Str.ofString "from_face_ij") 345) (Value.ref 111) :: DictEntry.mk (PyData.keyHash P (Str.ofString "from_face_ij_wrap")) (Value.str (Str.ofString "from_face_ij_wrap") 367) (Value.ref 121) :: DictEntry.mk (PyData.keyHash P (Str.ofString "from_face_ij_same")) (Value.str (Str.ofString "from_face_ij_same") 390) (Value.ref 131) :: DictEntry.mk (PyData.keyHash P (Str.ofString "st_to_ij")) (Value.str (Str.ofString "st_to_ij") 410) (Value.ref 141) :: DictEntry.mk (PyData.keyHash P (Str.ofString "lsb_for_level")) (Value.str (Str.ofString "lsb_for_level") 430) (Value.ref 151) :: DictEntry.mk (PyData.keyHash P (Str.ofString "parent")) (Value.str (Str.ofString "parent") 440) (Value.ref 159) :: DictEntry.mk (PyData.keyHash P (Str.ofString "child")) (Value.str (Str.ofString "child") 448) (Value.ref 166) :: DictEntry.mk (PyData.keyHash P (Str.ofString "contains")) (Value.str (Str.ofString "contains") 456) (Value.ref 173) :: DictEntry.mk (PyData.keyHash P (Str.ofString "intersects")) (Value.str (Str.ofString "intersects") 464) (Value.ref 180) :: DictEntry.mk (PyData.keyHash P (Str.ofString "is_face")) (Value.str (Str.ofString "is_face") 471) (Value.ref 187) :: DictEntry.mk (PyData.keyHash P (Str.ofString "id")) (Value.str (Str.ofString "id") 478) (Value.ref 194) :: DictEntry.mk (PyData.keyHash P (Str.ofString "is_valid")) (Value.str (Str.ofString "is_valid") 485) (Value.ref 201) :: DictEntry.mk (PyData.keyHash P (Str.ofString "lsb")) (Value.str (Str.ofString "lsb") 492) (Value.ref 208) :: DictEntry.mk (PyData.keyHash P (Str.ofString "face")) (Value.str (Str.ofString "face") 499) (Value.ref 215) :: DictEntry.mk (PyData.keyHash P (Str.ofString "pos")) (Value.str (Str.ofString "pos") 506) (Value.ref 222) :: DictEntry.mk (PyData.keyHash P (Str.ofString "is_leaf")) (Value.str (Str.ofString "is_leaf") 513) (Value.ref 229) :: DictEntry.mk (PyData.keyHash P (Str.ofString "level")) (Value.str (Str.ofString "level") 522) (Value.ref 236) :: DictEntry.mk (PyData.keyHash P (Str.ofString "child_begin")) (Value.str (Str.ofString "child_begin") 532) (Value.ref 243) :: DictEntry.mk (PyData.keyHash P (Str.ofString "child_end")) (Value.str (Str.ofString "child_end") 542) (Value.ref 250) :: DictEntry.mk (PyData.keyHash P (Str.ofString "prev")) (Value.str (Str.ofString "prev") 549) (Value.ref 257) :: DictEntry.mk (PyData.keyHash P (Str.ofString "next")) (Value.str (Str.ofString "next") 556) (Value.ref 264) :: DictEntry.mk (PyData.keyHash P (Str.ofString "children")) (Value.str (Str.ofString "children") 564) (Value.ref 271) :: DictEntry.mk (PyData.keyHash P (Str.ofString "range_min")) (Value.str (Str.ofString "range_min") 571) (Value.ref 278) :: DictEntry.mk (PyData.keyHash P (Str.ofString "range_max")) (Value.str (Str.ofString "range_max") 578) (Value.ref 285) :: DictEntry.mk (PyData.keyHash P (Str.ofString "begin")) (Value.str (Str.ofString "begin") 598) (Value.ref 294) :: DictEntry.mk (PyData.keyHash P (Str.ofString "end")) (Value.str (Str.ofString "end") 618) (Value.ref 304) :: DictEntry.mk (PyData.keyHash P (Str.ofString "walk")) (Value.str (Str.ofString "walk") 638) (Value.ref 314) :: DictEntry.mk (PyData.keyHash P (Str.ofString "walk_fast")) (Value.str (Str.ofString "walk_fast") 658) (Value.ref 324) :: DictEntry.mk (PyData.keyHash P (Str.ofString "none")) (Value.str (Str.ofString "none") 677) (Value.ref 334) :: DictEntry.mk (PyData.keyHash P (Str.ofString "prev_wrap")) (Value.str (Str.ofString "prev_wrap") 685) (Value.ref 342) :: DictEntry.mk (PyData.keyHash P (Str.ofString "next_wrap")) (Value.str (Str.ofString "next_wrap") 693) (Value.ref 349) :: DictEntry.mk (PyData.keyHash P (Str.ofString "advance_wrap")) (Value.str (Str.ofString "advance_wrap") 705) (Value.ref 356) :: DictEntry.mk (PyData.keyHash P (Str.ofString "advance")) (Value.str (Str.ofString "advance") 716) (Value.ref 363) :: DictEntry.mk (PyData.keyHash P (Str.ofString "get_center_si_ti")) (Value.str (Str.ofString "get_center_si_ti") 723) (Value.ref 370) :: DictEntry.mk (PyData.keyHash P (Str.ofString "to_face_ij_orientation")) (Value.str (Str.ofString "to_face_ij_orientation") 730) (Value.ref 377) :: DictEntry.mk (PyData.keyHash P (Str.ofString "get_edge_neighbors")) (Value.str (Str.ofString "get_edge_neighbors") 737) (Value.ref 384) :: DictEntry.mk (PyData.keyHash P (Str.ofString "get_vertex_neighbors")) (Value.str (Str.ofString "get_vertex_neighbors") 745) (Value.ref 391) :: DictEntry.mk (PyData.keyHash P (Str.ofString "get_all_neighbors")) (Value.str (Str.ofString "get_all_neighbors") 753) (Value.ref 398) :: DictEntry.mk (PyData.keyHash P (Str.ofString "get_size_ij")) (Value.str (Str.ofString "get_size_ij") 761) (Value.ref 405) :: DictEntry.mk (PyData.keyHash P (Str.ofString "to_token")) (Value.str (Str.ofString "to_token") 768) (Value.ref 412) :: DictEntry.mk (PyData.keyHash P (Str.ofString "from_token")) (Value.str (Str.ofString "from_token") 788) (Value.ref 421) :: DictEntry.mk (PyData.keyHash P (Str.ofString "__static_attributes__")) (Value.str (Str.ofString "__static_attributes__") 790) (Value.ref 423) :: [])) 65) #[]) ::
  (nat_lit 25, Obj.mk (Value.type "tuple") Option.none (Data.seq #[]) #[]) ::
  (nat_lit 26, Obj.mk Value.none Option.none (Data.fields (List.toArray (Value.int 17 0 :: Value.int 4 0 :: Value.ref 35 :: Value.int 20 0 :: Value.int 4 0 :: Value.ref 42 :: Value.int 23 0 :: Value.int 4 0 :: Value.ref 49 :: Value.int 26 0 :: Value.int 4 0 :: Value.ref 56 :: Value.int 29 0 :: Value.int 4 0 :: Value.ref 63 :: Value.int 32 0 :: Value.int 4 0 :: Value.ref 70 :: Value.int 35 0 :: Value.int 4 0 :: Value.ref 77 :: Value.int 38 0 :: Value.int 4 0 :: Value.ref 84 :: Value.int 41 0 :: Value.int 4 0 :: Value.ref 91 :: Value.int 45 0 :: Value.int 4 0 :: Value.ref 98 :: Value.int 49 0 :: Value.int 4 0 :: Value.ref 108 :: Value.int 53 0 :: Value.int 4 0 :: Value.ref 118 :: Value.int 57 0 :: Value.int 4 0 :: Value.ref 128 :: Value.int 61 0 :: Value.int 4 0 :: Value.ref 138 :: Value.int 65 0 :: Value.int 4 0 :: Value.ref 148 :: Value.int 68 0 :: Value.int 4 0 :: Value.ref 158 :: Value.int 81 0 :: Value.int 4 0 :: Value.ref 165 :: Value.int 84 0 :: Value.int 4 0 :: Value.ref 172 :: Value.int 87 0 :: Value.int 4 0 :: Value.ref 179 :: Value.int 90 0 :: Value.int 4 0 :: Value.ref 186 :: Value.int 93 0 :: Value.int 4 0 :: Value.ref 193 :: Value.int 96 0 :: Value.int 4 0 :: Value.ref 200 :: Value.int 99 0 :: Value.int 4 0 :: Value.ref 207 :: Value.int 102 0 :: Value.int 4 0 :: Value.ref 214 :: Value.int 105 0 :: Value.int 4 0 :: Value.ref 221 :: Value.int 108 0 :: Value.int 4 0 :: Value.ref 228 :: Value.int 111 0 :: Value.int 4 0 :: Value.ref 235 :: Value.int 133 0 :: Value.int 4 0 :: Value.ref 242 :: Value.int 147 0 :: Value.int 4 0 :: Value.ref 249 :: Value.int 161 0 :: Value.int 4 0 :: Value.ref 256 :: Value.int 164 0 :: Value.int 4 0 :: Value.ref 263 :: Value.int 167 0 :: Value.int 4 0 :: Value.ref 270 :: Value.int 170 0 :: Value.int 4 0 :: Value.ref 277 :: Value.int 173 0 :: Value.int 4 0 :: Value.ref 284 :: Value.int 177 0 :: Value.int 4 0 :: Value.ref 291 :: Value.int 181 0 :: Value.int 4 0 :: Value.ref 301 :: Value.int 185 0 :: Value.int 4 0 :: Value.ref 311 :: Value.int 189 0 :: Value.int 4 0 :: Value.ref 321 :: Value.int 193 0 :: Value.int 4 0 :: Value.ref 331 :: Value.int 196 0 :: Value.int 4 0 :: Value.ref 341 :: Value.int 204 0 :: Value.int 4 0 :: Value.ref 348 :: Value.int 212 0 :: Value.int 4 0 :: Value.ref 355 :: Value.int 233 0 :: Value.int 4 0 :: Value.ref 362 :: Value.int 247 0 :: Value.int 4 0 :: Value.ref 369 :: Value.int 250 0 :: Value.int 4 0 :: Value.ref 376 :: Value.int 253 0 :: Value.int 4 0 :: Value.ref 383 :: Value.int 256 0 :: Value.int 4 0 :: Value.ref 390 :: Value.int 259 0 :: Value.int 4 0 :: Value.ref 397 :: Value.int 262 0 :: Value.int 4 0 :: Value.ref 404 :: Value.int 265 0 :: Value.int 4 0 :: Value.ref 411 :: Value.int 269 0 :: Value.int 4 0 :: Value.ref 418 :: []))) #[]) ::
  (nat_lit 27, Obj.mk (Value.type "code") Option.none (Data.fields #[Value.str (Str.ofString "CellId") 198, Value.str (Str.ofString "CellId") 199, Value.str (Str.ofString "/claim/cut.py") 200, Value.int 5 0, Value.int 0 0, Value.int 0 0, Value.int 0 0, Value.int 0 0, Value.ref 25, Value.bool Bool.false, Value.int 181 0, Value.ref 26, Value.none, Value.none, Value.none, Value.none, Value.int 201 0, Value.int 5 0, Value.str (Str.ofString "/claim/cut.py") 202]) #[]) ::
  (nat_lit 28, Obj.mk (Value.type "frame") Option.none Data.plain #[Option.some (Value.ref 27), Option.some (Value.ref 3), Option.some (Value.ref 24), Option.none, Option.some (Value.str (Str.ofString "s2sphere.sphere") 194), Option.none, Option.some (Value.ref 0)]) ::
  (nat_lit 31, Obj.mk Value.none Option.none (Data.fields #[]) #[]) ::
  (nat_lit 34, Obj.mk Value.none Option.none (Data.func (by (refine' (_ : RwWay (rwM 2 10 rfl rfl fun n a b c => FuncData.mk n (Str.ofString "CellId.__init__") a b c 0 [] Value.none Value.none Value.none Value.none Option.none Value.none Value.none 0)) _ _; exact fun x _ => x; rotate_left; conv => (rhs; whnf)))) #[]) ::
  (nat_lit 38, Obj.mk Value.none Option.none (Data.fields #[]) #[]) ::
  (nat_lit 41, Obj.mk Value.none Option.none (Data.func (by (refine' (_ : RwWay (rwM 2 11 rfl rfl fun n a b c => FuncData.mk n (Str.ofString "CellId.__repr__") a b c 0 [] Value.none Value.none Value.none Value.none Option.none Value.none Value.none 0)) _ _; exact fun x _ => x; rotate_left; conv => (rhs; whnf)))) #[]) ::
  (nat_lit 45, Obj.mk Value.none Option.none (Data.fields #[]) #[]) ::
  (nat_lit 48, Obj.mk Value.none Option.none (Data.func (by (refine' (_ : RwWay (rwM 2 12 rfl rfl fun n a b c => FuncData.mk n (Str.ofString "CellId.__hash__") a b c 0 [] Value.none Value.none Value.none Value.none Option.none Value.none Value.none 0)) _ _; exact fun x _ => x; rotate_left; conv => (rhs; whnf)))) #[]) ::
  (nat_lit 52, Obj.mk Value.none Option.none (Data.fields #[]) #[]) ::
  (nat_lit 55, Obj.mk Value.none Option.none (Data.func (by (refine' (_ : RwWay (rwM 2 13 rfl rfl fun n a b c => FuncData.mk n (Str.ofString "CellId.__eq__") a b c 0 [] Value.none Value.none Value.none Value.none Option.none Value.none Value.none 0)) _ _; exact fun x _ => x; rotate_left; conv => (rhs; whnf)))) #[]) ::
  (nat_lit 59, Obj.mk Value.none Option.none (Data.fields #[]) #[]) ::
  (nat_lit 62, Obj.mk Value.none Option.none (Data.func (by (refine' (_ : RwWay (rwM 2 14 rfl rfl fun n a b c => FuncData.mk n (Str.ofString "CellId.__ne__") a b c 0 [] Value.none Value.none Value.none Value.none Option.none Value.none Value.none 0)) _ _; exact fun x _ => x; rotate_left; conv => (rhs; whnf)))) #[]) ::
  (nat_lit 66, Obj.mk Value.none Option.none (Data.fields #[]) #[]) ::
  (nat_lit 69, Obj.mk Value.none Option.none (Data.func (by (refine' (_ : RwWay (rwM 2 15 rfl rfl fun n a b c => FuncData.mk n (Str.ofString "CellId.__lt__") a b c 0 [] Value.none Value.none Value.none Value.none Option.none Value.none Value.none 0)) _ _; exact fun x _ => x; rotate_left; conv => (rhs; whnf)))) #[]) ::
  (nat_lit 73, Obj.mk Value.none Option.none (Data.fields #[]) #[]) ::
  (nat_lit 76, Obj.mk Value.none Option.none (Data.func (by (refine' (_ : RwWay (rwM 2 16 rfl rfl fun n a b c => FuncData.mk n (Str.ofString "CellId.__le__") a b c 0 [] Value.none Value.none Value.none Value.none Option.none Value.none Value.none 0)) _ _; exact fun x _ => x; rotate_left; conv => (rhs; whnf)))) #[]) ::
  (nat_lit 80, Obj.mk Value.none Option.none (Data.fields #[]) #[]) ::
  (nat_lit 83, Obj.mk Value.none Option.none (Data.func (by (refine' (_ : RwWay (rwM 2 17 rfl rfl fun n a b c => FuncData.mk n (Str.ofString "CellId.__gt__") a b c 0 [] Value.none Value.none Value.none Value.none Option.none Value.none Value.none 0)) _ _; exact fun x _ => x; rotate_left; conv => (rhs; whnf)))) #[]) ::
  (nat_lit 87, Obj.mk Value.none Option.none (Data.fields #[]) #[]) ::
  (nat_lit 90, Obj.mk Value.none Option.none (Data.func (by (refine' (_ : RwWay (rwM 2 18 rfl rfl fun n a b c => FuncData.mk n (Str.ofString "CellId.__ge__") a b c 0 [] Value.none Value.none Value.none Value.none Option.none Value.none Value.none 0)) _ _; exact fun x _ => x; rotate_left; conv => (rhs; whnf)))) #[]) ::
  (nat_lit 94, Obj.mk Value.none Option.none (Data.fields #[]) #[]) ::
  (nat_lit 97, Obj.mk Value.none Option.none (Data.func (by (refine' (_ : RwWay (rwM 2 19 rfl rfl fun n a b c => FuncData.mk n (Str.ofString "CellId.from_face_pos_level") a b c 0 [] Value.none Value.none Value.none Value.none Option.none Value.none Value.none 0)) _ _; exact fun x _ => x; rotate_left; conv => (rhs; whnf)))) #[]) ::
  (nat_lit 104, Obj.mk Value.none Option.none (Data.fields #[]) #[]) ::
  (nat_lit 107, Obj.mk Value.none Option.none (Data.func (by (refine' (_ : RwWay (rwM 2 20 rfl rfl fun n a b c => FuncData.mk n (Str.ofString "CellId.from_face_ij") a b c 0 [] Value.none Value.none Value.none Value.none Option.none Value.none Value.none 0)) _ _; exact fun x _ => x; rotate_left; conv => (rhs; whnf)))) #[]) ::
  (nat_lit 114, Obj.mk Value.none Option.none (Data.fields #[]) #[]) ::
  (nat_lit 117, Obj.mk Value.none Option.none (Data.func (by (refine' (_ : RwWay (rwM 2 21 rfl rfl fun n a b c => FuncData.mk n (Str.ofString "CellId.from_face_ij_wrap") a b c 0 [] Value.none Value.none Value.none Value.none Option.none Value.none Value.none 0)) _ _; exact fun x _ => x; rotate_left; conv => (rhs; whnf)))) #[]) ::
  (nat_lit 124, Obj.mk Value.none Option.none (Data.fields #[]) #[]) ::
  (nat_lit 127, Obj.mk Value.none Option.none (Data.func (by (refine' (_ : RwWay (rwM 2 22 rfl rfl fun n a b c => FuncData.mk n (Str.ofString "CellId.from_face_ij_same") a b c 0 [] Value.none Value.none Value.none Value.none Option.none Value.none Value.none 0)) _ _; exact fun x _ => x; rotate_left; conv => (rhs; whnf)))) #[]) ::
  (nat_lit 134, Obj.mk Value.none Option.none (Data.fields #[]) #[]) ::
  (nat_lit 137, Obj.mk Value.none Option.none (Data.func (by (refine' (_ : RwWay (rwM 2 23 rfl rfl fun n a b c => FuncData.mk n (Str.ofString "CellId.st_to_ij") a b c 0 [] Value.none Value.none Value.none Value.none Option.none Value.none Value.none 0)) _ _; exact fun x _ => x; rotate_left; conv => (rhs; whnf)))) #[]) ::
  (nat_lit 144, Obj.mk Value.none Option.none (Data.fields #[]) #[]) ::
  (nat_lit 147, Obj.mk Value.none Option.none (Data.func (by (refine' (_ : RwWay (rwM 2 24 rfl rfl fun n a b c => FuncData.mk n (Str.ofString "CellId.lsb_for_level") a b c 0 [] Value.none Value.none Value.none Value.none Option.none Value.none Value.none 0)) _ _; exact fun x _ => x; rotate_left; conv => (rhs; whnf)))) #[]) ::
  (nat_lit 154, Obj.mk Value.none Option.none (Data.fields #[]) #[]) ::
  (nat_lit 157, Obj.mk Value.none Option.none (Data.func (by (refine' (_ : RwWay (rwM 2 25 rfl rfl fun n a b c => FuncData.mk n (Str.ofString "CellId.parent") a b c 0 [] Value.none Value.none Value.none Value.none Option.none Value.none Value.none 0)) _ _; exact fun x _ => x; rotate_left; conv => (rhs; whnf)))) #[]) ::
  (nat_lit 161, Obj.mk Value.none Option.none (Data.fields #[]) #[]) ::
  (nat_lit 164, Obj.mk Value.none Option.none (Data.func (by (refine' (_ : RwWay (rwM 2 26 rfl rfl fun n a b c => FuncData.mk n (Str.ofString "CellId.child") a b c 0 [] Value.none Value.none Value.none Value.none Option.none Value.none Value.none 0)) _ _; exact fun x _ => x; rotate_left; conv => (rhs; whnf)))) #[]) ::
  (nat_lit 168, Obj.mk Value.none Option.none (Data.fields #[]) #[]) ::
  (nat_lit 171, Obj.mk Value.none Option.none (Data.func (by (refine' (_ : RwWay (rwM 2 27 rfl rfl fun n a b c => FuncData.mk n (Str.ofString "CellId.contains") a b c 0 [] Value.none Value.none Value.none Value.none Option.none Value.none Value.none 0)) _ _; exact fun x _ => x; rotate_left; conv => (rhs; whnf)))) #[]) ::
  (nat_lit 175, Obj.mk Value.none Option.none (Data.fields #[]) #[]) ::
  (nat_lit 178, Obj.mk Value.none Option.none (Data.func (by (refine' (_ : RwWay (rwM 2 28 rfl rfl fun n a b c => FuncData.mk n (Str.ofString "CellId.intersects") a b c 0 [] Value.none Value.none Value.none Value.none Option.none Value.none Value.none 0)) _ _; exact fun x _ => x; rotate_left; conv => (rhs; whnf)))) #[]) ::
  (nat_lit 182, Obj.mk Value.none Option.none (Data.fields #[]) #[]) ::
  (nat_lit 185, Obj.mk Value.none Option.none (Data.func (by (refine' (_ : RwWay (rwM 2 29 rfl rfl fun n a b c => FuncData.mk n (Str.ofString "CellId.is_face") a b c 0 [] Value.none Value.none Value.none Value.none Option.none Value.none Value.none 0)) _ _; exact fun x _ => x; rotate_left; conv => (rhs; whnf)))) #[]) ::
  (nat_lit 189, Obj.mk Value.none Option.none (Data.fields #[]) #[]) ::
  (nat_lit 192, Obj.mk Value.none Option.none (Data.func (by (refine' (_ : RwWay (rwM 2 30 rfl rfl fun n a b c => FuncData.mk n (Str.ofString "CellId.id") a b c 0 [] Value.none Value.none Value.none Value.none Option.none Value.none Value.none 0)) _ _; exact fun x _ => x; rotate_left; conv => (rhs; whnf)))) #[]) ::
  (nat_lit 196, Obj.mk Value.none Option.none (Data.fields #[]) #[]) ::
  (nat_lit 199, Obj.mk Value.none Option.none (Data.func (by (refine' (_ : RwWay (rwM 2 31 rfl rfl fun n a b c => FuncData.mk n (Str.ofString "CellId.is_valid") a b c 0 [] Value.none Value.none Value.none Value.none Option.none Value.none Value.none 0)) _ _; exact fun x _ => x; rotate_left; conv => (rhs; whnf)))) #[]) ::
  (nat_lit 203, Obj.mk Value.none Option.none (Data.fields #[]) #[]) ::
  (nat_lit 206, Obj.mk Value.none Option.none (Data.func (by (refine' (_ : RwWay (rwM 2 32 rfl rfl fun n a b c => FuncData.mk n (Str.ofString "CellId.lsb") a b c 0 [] Value.none Value.none Value.none Value.none Option.none Value.none Value.none 0)) _ _; exact fun x _ => x; rotate_left; conv => (rhs; whnf)))) #[]) ::
  (nat_lit 210, Obj.mk Value.none Option.none (Data.fields #[]) #[]) ::
  (nat_lit 213, Obj.mk Value.none Option.none (Data.func (by (refine' (_ : RwWay (rwM 2 33 rfl rfl fun n a b c => FuncData.mk n (Str.ofString "CellId.face") a b c 0 [] Value.none Value.none Value.none Value.none Option.none Value.none Value.none 0)) _ _; exact fun x _ => x; rotate_left; conv => (rhs; whnf)))) #[]) ::
  (nat_lit 217, Obj.mk Value.none Option.none (Data.fields #[]) #[]) ::
  (nat_lit 220, Obj.mk Value.none Option.none (Data.func (by (refine' (_ : RwWay (rwM 2 34 rfl rfl fun n a b c => FuncData.mk n (Str.ofString "CellId.pos") a b c 0 [] Value.none Value.none Value.none Value.none Option.none Value.none Value.none 0)) _ _; exact fun x _ => x; rotate_left; conv => (rhs; whnf)))) #[]) ::
  (nat_lit 224, Obj.mk Value.none Option.none (Data.fields #[]) #[]) ::
  (nat_lit 227, Obj.mk Value.none Option.none (Data.func (by (refine' (_ : RwWay (rwM 2 35 rfl rfl fun n a b c => FuncData.mk n (Str.ofString "CellId.is_leaf") a b c 0 [] Value.none Value.none Value.none Value.none Option.none Value.none Value.none 0)) _ _; exact fun x _ => x; rotate_left; conv => (rhs; whnf)))) #[]) ::
  (nat_lit 231, Obj.mk Value.none Option.none (Data.fields #[]) #[]) ::
  (nat_lit 234, Obj.mk Value.none Option.none (Data.func (by (refine' (_ : RwWay (rwM 2 36 rfl rfl fun n a b c => FuncData.mk n (Str.ofString "CellId.level") a b c 0 [] Value.none Value.none Value.none Value.none Option.none Value.none Value.none 0)) _ _; exact fun x _ => x; rotate_left; conv => (rhs; whnf)))) #[]) ::
  (nat_lit 238, Obj.mk Value.none Option.none (Data.fields #[]) #[]) ::
  (nat_lit 241, Obj.mk Value.none Option.none (Data.func (by (refine' (_ : RwWay (rwM 2 37 rfl rfl fun n a b c => FuncData.mk n (Str.ofString "CellId.child_begin") a b c 0 [] Value.none Value.none Value.none Value.none Option.none Value.none Value.none 0)) _ _; exact fun x _ => x; rotate_left; conv => (rhs; whnf)))) #[]) ::
  (nat_lit 245, Obj.mk Value.none Option.none (Data.fields #[]) #[]) ::
  (nat_lit 248, Obj.mk Value.none Option.none (Data.func (by (refine' (_ : RwWay (rwM 2 38 rfl rfl fun n a b c => FuncData.mk n (Str.ofString "CellId.child_end") a b c 0 [] Value.none Value.none Value.none Value.none Option.none Value.none Value.none 0)) _ _; exact fun x _ => x; rotate_left; conv => (rhs; whnf)))) #[]) ::
  (nat_lit 252, Obj.mk Value.none Option.none (Data.fields #[]) #[]) ::
  (nat_lit 255, Obj.mk Value.none Option.none (Data.func (by (refine' (_ : RwWay (rwM 2 39 rfl rfl fun n a b c => FuncData.mk n (Str.ofString "CellId.prev") a b c 0 [] Value.none Value.none Value.none Value.none Option.none Value.none Value.none 0)) _ _; exact fun x _ => x; rotate_left; conv => (rhs; whnf)))) #[]) ::
  (nat_lit 259, Obj.mk Value.none Option.none (Data.fields #[]) #[]) ::
  (nat_lit 262, Obj.mk Value.none Option.none (Data.func (by (refine' (_ : RwWay (rwM 2 40 rfl rfl fun n a b c => FuncData.mk n (Str.ofString "CellId.next") a b c 0 [] Value.none Value.none Value.none Value.none Option.none Value.none Value.none 0)) _ _; exact fun x _ => x; rotate_left; conv => (rhs; whnf)))) #[]) ::
  (nat_lit 266, Obj.mk Value.none Option.none (Data.fields #[]) #[]) ::
  (nat_lit 269, Obj.mk Value.none Option.none (Data.func (by (refine' (_ : RwWay (rwM 2 41 rfl rfl fun n a b c => FuncData.mk n (Str.ofString "CellId.children") a b c 0 [] Value.none Value.none Value.none Value.none Option.none Value.none Value.none 0)) _ _; exact fun x _ => x; rotate_left; conv => (rhs; whnf)))) #[]) ::
  (nat_lit 273, Obj.mk Value.none Option.none (Data.fields #[]) #[]) ::
  (nat_lit 276, Obj.mk Value.none Option.none (Data.func (by (refine' (_ : RwWay (rwM 2 42 rfl rfl fun n a b c => FuncData.mk n (Str.ofString "CellId.range_min") a b c 0 [] Value.none Value.none Value.none Value.none Option.none Value.none Value.none 0)) _ _; exact fun x _ => x; rotate_left; conv => (rhs; whnf)))) #[]) ::
  (nat_lit 280, Obj.mk Value.none Option.none (Data.fields #[]) #[]) ::
  (nat_lit 283, Obj.mk Value.none Option.none (Data.func (by (refine' (_ : RwWay (rwM 2 43 rfl rfl fun n a b c => FuncData.mk n (Str.ofString "CellId.range_max") a b c 0 [] Value.none Value.none Value.none Value.none Option.none Value.none Value.none 0)) _ _; exact fun x _ => x; rotate_left; conv => (rhs; whnf)))) #[]) ::
  (nat_lit 287, Obj.mk Value.none Option.none (Data.fields #[]) #[]) ::
  (nat_lit 290, Obj.mk Value.none Option.none (Data.func (by (refine' (_ : RwWay (rwM 2 44 rfl rfl fun n a b c => FuncData.mk n (Str.ofString "CellId.begin") a b c 0 [] Value.none Value.none Value.none Value.none Option.none Value.none Value.none 0)) _ _; exact fun x _ => x; rotate_left; conv => (rhs; whnf)))) #[]) ::
  (nat_lit 297, Obj.mk Value.none Option.none (Data.fields #[]) #[]) ::
  (nat_lit 300, Obj.mk Value.none Option.none (Data.func (by (refine' (_ : RwWay (rwM 2 45 rfl rfl fun n a b c => FuncData.mk n (Str.ofString "CellId.end") a b c 0 [] Value.none Value.none Value.none Value.none Option.none Value.none Value.none 0)) _ _; exact fun x _ => x; rotate_left; conv => (rhs; whnf)))) #[]) ::
  (nat_lit 307, Obj.mk Value.none Option.none (Data.fields #[]) #[]) ::
  (nat_lit 310, Obj.mk Value.none Option.none (Data.func (by (refine' (_ : RwWay (rwM 2 46 rfl rfl fun n a b c => FuncData.mk n (Str.ofString "CellId.walk") a b c 0 [] Value.none Value.none Value.none Value.none Option.none Value.none Value.none 0)) _ _; exact fun x _ => x; rotate_left; conv => (rhs; whnf)))) #[]) ::
  (nat_lit 317, Obj.mk Value.none Option.none (Data.fields #[]) #[]) ::
  (nat_lit 320, Obj.mk Value.none Option.none (Data.func (by (refine' (_ : RwWay (rwM 2 47 rfl rfl fun n a b c => FuncData.mk n (Str.ofString "CellId.walk_fast") a b c 0 [] Value.none Value.none Value.none Value.none Option.none Value.none Value.none 0)) _ _; exact fun x _ => x; rotate_left; conv => (rhs; whnf)))) #[]) ::
  (nat_lit 327, Obj.mk Value.none Option.none (Data.fields #[]) #[]) ::
  (nat_lit 330, Obj.mk Value.none Option.none (Data.func (by (refine' (_ : RwWay (rwM 2 48 rfl rfl fun n a b c => FuncData.mk n (Str.ofString "CellId.none") a b c 0 [] Value.none Value.none Value.none Value.none Option.none Value.none Value.none 0)) _ _; exact fun x _ => x; rotate_left; conv => (rhs; whnf)))) #[]) ::
  (nat_lit 337, Obj.mk Value.none Option.none (Data.fields #[]) #[]) ::
  (nat_lit 340, Obj.mk Value.none Option.none (Data.func (by (refine' (_ : RwWay (rwM 2 49 rfl rfl fun n a b c => FuncData.mk n (Str.ofString "CellId.prev_wrap") a b c 0 [] Value.none Value.none Value.none Value.none Option.none Value.none Value.none 0)) _ _; exact fun x _ => x; rotate_left; conv => (rhs; whnf)))) #[]) ::
  (nat_lit 344, Obj.mk Value.none Option.none (Data.fields #[]) #[]) ::
  (nat_lit 347, Obj.mk Value.none Option.none (Data.func (by (refine' (_ : RwWay (rwM 2 50 rfl rfl fun n a b c => FuncData.mk n (Str.ofString "CellId.next_wrap") a b c 0 [] Value.none Value.none Value.none Value.none Option.none Value.none Value.none 0)) _ _; exact fun x _ => x; rotate_left; conv => (rhs; whnf)))) #[]) ::
  (nat_lit 351, Obj.mk Value.none Option.none (Data.fields #[]) #[]) ::
  (nat_lit 354, Obj.mk Value.none Option.none (Data.func (by (refine' (_ : RwWay (rwM 2 51 rfl rfl fun n a b c => FuncData.mk n (Str.ofString "CellId.advance_wrap") a b c 0 [] Value.none Value.none Value.none Value.none Option.none Value.none Value.none 0)) _ _; exact fun x _ => x; rotate_left; conv => (rhs; whnf)))) #[]) ::
  (nat_lit 358, Obj.mk Value.none Option.none (Data.fields #[]) #[]) ::
  (nat_lit 361, Obj.mk Value.none Option.none (Data.func (by (refine' (_ : RwWay (rwM 2 52 rfl rfl fun n a b c => FuncData.mk n (Str.ofString "CellId.advance") a b c 0 [] Value.none Value.none Value.none Value.none Option.none Value.none Value.none 0)) _ _; exact fun x _ => x; rotate_left; conv => (rhs; whnf)))) #[]) ::
  (nat_lit 365, Obj.mk Value.none Option.none (Data.fields #[]) #[]) ::
  (nat_lit 368, Obj.mk Value.none Option.none (Data.func (by (refine' (_ : RwWay (rwM 2 53 rfl rfl fun n a b c => FuncData.mk n (Str.ofString "CellId.get_center_si_ti") a b c 0 [] Value.none Value.none Value.none Value.none Option.none Value.none Value.none 0)) _ _; exact fun x _ => x; rotate_left; conv => (rhs; whnf)))) #[]) ::
  (nat_lit 372, Obj.mk Value.none Option.none (Data.fields #[]) #[]) ::
  (nat_lit 375, Obj.mk Value.none Option.none (Data.func (by (refine' (_ : RwWay (rwM 2 54 rfl rfl fun n a b c => FuncData.mk n (Str.ofString "CellId.to_face_ij_orientation") a b c 0 [] Value.none Value.none Value.none Value.none Option.none Value.none Value.none 0)) _ _; exact fun x _ => x; rotate_left; conv => (rhs; whnf)))) #[]) ::
  (nat_lit 379, Obj.mk Value.none Option.none (Data.fields #[]) #[]) ::
  (nat_lit 382, Obj.mk Value.none Option.none (Data.func (by (refine' (_ : RwWay (rwM 2 55 rfl rfl fun n a b c => FuncData.mk n (Str.ofString "CellId.get_edge_neighbors") a b c 0 [] Value.none Value.none Value.none Value.none Option.none Value.none Value.none 0)) _ _; exact fun x _ => x; rotate_left; conv => (rhs; whnf)))) #[]) ::
  (nat_lit 386, Obj.mk Value.none Option.none (Data.fields #[]) #[]) ::
  (nat_lit 389, Obj.mk Value.none Option.none (Data.func (by (refine' (_ : RwWay (rwM 2 56 rfl rfl fun n a b c => FuncData.mk n (Str.ofString "CellId.get_vertex_neighbors") a b c 0 [] Value.none Value.none Value.none Value.none Option.none Value.none Value.none 0)) _ _; exact fun x _ => x; rotate_left; conv => (rhs; whnf)))) #[]) ::
  (nat_lit 393, Obj.mk Value.none Option.none (Data.fields #[]) #[]) ::
  (nat_lit 396, Obj.mk Value.none Option.none (Data.func (by (refine' (_ : RwWay (rwM 2 57 rfl rfl fun n a b c => FuncData.mk n (Str.ofString "CellId.get_all_neighbors") a b c 0 [] Value.none Value.none Value.none Value.none Option.none Value.none Value.none 0)) _ _; exact fun x _ => x; rotate_left; conv => (rhs; whnf)))) #[]) ::
  (nat_lit 400, Obj.mk Value.none Option.none (Data.fields #[]) #[]) ::
  (nat_lit 403, Obj.mk Value.none Option.none (Data.func (by (refine' (_ : RwWay (rwM 2 58 rfl rfl fun n a b c => FuncData.mk n (Str.ofString "CellId.get_size_ij") a b c 0 [] Value.none Value.none Value.none Value.none Option.none Value.none Value.none 0)) _ _; exact fun x _ => x; rotate_left; conv => (rhs; whnf)))) #[]) ::
  (nat_lit 407, Obj.mk Value.none Option.none (Data.fields #[]) #[]) ::
  (nat_lit 410, Obj.mk Value.none Option.none (Data.func (by (refine' (_ : RwWay (rwM 2 59 rfl rfl fun n a b c => FuncData.mk n (Str.ofString "CellId.to_token") a b c 0 [] Value.none Value.none Value.none Value.none Option.none Value.none Value.none 0)) _ _; exact fun x _ => x; rotate_left; conv => (rhs; whnf)))) #[]) ::
  (nat_lit 414, Obj.mk Value.none Option.none (Data.fields #[]) #[]) ::
  (nat_lit 417, Obj.mk Value.none Option.none (Data.func (by (refine' (_ : RwWay (rwM 2 60 rfl rfl fun n a b c => FuncData.mk n (Str.ofString "CellId.from_token") a b c 0 [] Value.none Value.none Value.none Value.none Option.none Value.none Value.none 0)) _ _; exact fun x _ => x; rotate_left; conv => (rhs; whnf)))) #[]) ::
  (nat_lit 428, Obj.mk (Value.type "super") Option.none (Data.fields #[Value.ref 425, Value.ref 425, Value.ref 425]) #[]) ::
  (nat_lit 429, Obj.mk (Value.type "builtin_function_or_method") Option.none (Data.fields #[Value.builtin "object.__init_subclass__", Value.ref 425]) #[]) ::
  (nat_lit 431, Obj.mk Value.none Option.none (Data.fields #[]) #[]) ::
  (nat_lit 434, Obj.mk Value.none Option.none (Data.func (by (refine' (_ : RwWay (rwT 4 rfl fun n a b c => FuncData.mk n n a b c 0 [] Value.none Value.none Value.none Value.none Option.none Value.none Value.none 0)) _ _; exact fun x _ => x; rotate_left; conv => (rhs; whnf)))) #[]) ::
  (nat_lit 438, Obj.mk Value.none Option.none (Data.fields #[]) #[]) ::
  (nat_lit 441, Obj.mk Value.none Option.none (Data.func (by (refine' (_ : RwWay (rwT 5 rfl fun n a b c => FuncData.mk n n a b c 0 [] Value.none Value.none Value.none Value.none Option.none Value.none Value.none 0)) _ _; exact fun x _ => x; rotate_left; conv => (rhs; whnf)))) #[]) ::
  (nat_lit 445, Obj.mk Value.none Option.none (Data.fields #[]) #[]) ::
  (nat_lit 448, Obj.mk Value.none Option.none (Data.func (by (refine' (_ : RwWay (rwT 6 rfl fun n a b c => FuncData.mk n n a b c 0 [] Value.none Value.none Value.none Value.none Option.none Value.none Value.none 0)) _ _; exact fun x _ => x; rotate_left; conv => (rhs; whnf)))) #[]) ::
  [] : List (Nat × Obj))
noncomputable def lk (a : Nat) (d : Obj) : List (Nat × Obj) → Obj
  | [] => d
  | p :: l => match Nat.beq p.1 a with
    | true => p.2
    | false => lk a d l
noncomputable def ob4 (P : Params) (a : Nat) : Obj := lk a (lk a default (X4 P)) (K4 P)
noncomputable def ht4 (P : Params) : Heap := Heap.mk (Array.mk (boot_o_0 P :: boot_o_1 P :: boot_o_2 P :: ob4 P (nat_lit 3) :: boot_o_4 P :: boot_o_5 P :: boot_o_6 P :: boot_o_7 P :: boot_o_8 P :: boot_o_9 P :: boot_o_10 P :: ob4 P (nat_lit 11) :: ob4 P (nat_lit 12) :: ob4 P (nat_lit 13) :: ob4 P (nat_lit 14) :: ob4 P (nat_lit 15) :: ob4 P (nat_lit 16) :: ob4 P (nat_lit 17) :: ob4 P (nat_lit 18) :: ob4 P (nat_lit 19) :: ob4 P (nat_lit 20) :: ob4 P (nat_lit 21) :: ob4 P (nat_lit 22) :: ob4 P (nat_lit 23) :: ob4 P (nat_lit 24) :: ob4 P (nat_lit 25) :: ob4 P (nat_lit 26) :: ob4 P (nat_lit 27) :: ob4 P (nat_lit 28) :: ob4 P (nat_lit 29) :: ob4 P (nat_lit 30) :: ob4 P (nat_lit 31) :: ob4 P (nat_lit 32) :: ob4 P (nat_lit 33) :: ob4 P (nat_lit 34) :: ob4 P (nat_lit 35) :: ob4 P (nat_lit 36) :: ob4 P (nat_lit 37) :: ob4 P (nat_lit 38) :: ob4 P (nat_lit 39) :: ob4 P (nat_lit 40) :: ob4 P (nat_lit 41) :: ob4 P (nat_lit 42) :: ob4 P (nat_lit 43) :: ob4 P (nat_lit 44) :: ob4 P (nat_lit 45) :: ob4 P (nat_lit 46) :: ob4 P (nat_lit 47) :: ob4 P (nat_lit 48) :: ob4 P (nat_lit 49) :: ob4 P (nat_lit 50) :: ob4 P (nat_lit 51) :: ob4 P (nat_lit 52) :: ob4 P (nat_lit 53) :: ob4 P (nat_lit 54) :: ob4 P (nat_lit 55) :: ob4 P (nat_lit 56) :: ob4 P (nat_lit 57) :: ob4 P (nat_lit 58) :: ob4 P (nat_lit 59) :: ob4 P (nat_lit 60) :: ob4 P (nat_lit 61) :: ob4 P (nat_lit 62) :: ob4 P (nat_lit 63) :: ob4 P (nat_lit 64) :: ob4 P (nat_lit 65) :: ob4 P (nat_lit 66) :: ob4 P (nat_lit 67) :: ob4 P (nat_lit 68) :: ob4 P (nat_lit 69) :: ob4 P (nat_lit 70) :: ob4 P (nat_lit 71) :: ob4 P (nat_lit 72) :: ob4 P (nat_lit 73) :: ob4 P (nat_lit 74) :: ob4 P (nat_lit 75) :: ob4 P (nat_lit 76) :: ob4 P (nat_lit 77) :: ob4 P (nat_lit 78) :: ob4 P (nat_lit 79) :: ob4 P (nat_lit 80) :: ob4 P (nat_lit 81) :: ob4 P (nat_lit 82) :: ob4 P (nat_lit 83) :: ob4 P (nat_lit 84) :: ob4 P (nat_lit 85) :: ob4 P (nat_lit 86) :: ob4 P (nat_lit 87) :: ob4 P (nat_lit 88) :: ob4 P (nat_lit 89) :: ob4 P (nat_lit 90) :: ob4 P (nat_lit 91) :: ob4 P (nat_lit 92) :: ob4 P (nat_lit 93) :: ob4 P (nat_lit 94) :: ob4 P (nat_lit 95) :: ob4 P (nat_lit 96) :: ob4 P (nat_lit 97) :: ob4 P (nat_lit 98) :: ob4 P (nat_lit 99) :: ob4 P (nat_lit 100) :: ob4 P (nat_lit 101) :: ob4 P (nat_lit 102) :: ob4 P (nat_lit 103) :: ob4 P (nat_lit 104) :: ob4 P (nat_lit 105) :: ob4 P (nat_lit 106) :: ob4 P (nat_lit 107) :: ob4 P (nat_lit 108) :: ob4 P (nat_lit 109) :: ob4 P (nat_lit 110) :: ob4 P (nat_lit 111) :: ob4 P (nat_lit 112) :: ob4 P (nat_lit 113) :: ob4 P (nat_lit 114) :: ob4 P (nat_lit 115) :: ob4 P (nat_lit 116) :: ob4 P (nat_lit 117) :: ob4 P (nat_lit 118) :: ob4 P (nat_lit 119) :: ob4 P (nat_lit 120) :: ob4 P (nat_lit 121) :: ob4 P (nat_lit 122) :: ob4 P (nat_lit 123) :: ob4 P (nat_lit 124) :: ob4 P (nat_lit 125) :: ob4 P (nat_lit 126) :: ob4 P (nat_lit 127) :: ob4 P (nat_lit 128) :: ob4 P (nat_lit 129) :: ob4 P (nat_lit 130) :: ob4 P (nat_lit 131) :: ob4 P (nat_lit 132) :: ob4 P (nat_lit 133) :: ob4 P (nat_lit 134) :: ob4 P (nat_lit 135) :: ob4 P (nat_lit 136) :: ob4 P (nat_lit 137) :: ob4 P (nat_lit 138) :: ob4 P (nat_lit 139) :: ob4 P (nat_lit 140) :: ob4 P (nat_lit 141) :: ob4 P (nat_lit 142) :: ob4 P (nat_lit 143) :: ob4 P (nat_lit 144) :: ob4 P (nat_lit 145) :: ob4 P (nat_lit 146) :: ob4 P (nat_lit 147) :: ob4 P (nat_lit 148) :: ob4 P (nat_lit 149) :: ob4 P (nat_lit 150) :: ob4 P (nat_lit 151) :: ob4 P (nat_lit 152) :: ob4 P (nat_lit 153) :: ob4 P (nat_lit 154) :: ob4 P (nat_lit 155) :: ob4 P (nat_lit 156) :: ob4 P (nat_lit 157) :: ob4 P (nat_lit 158) :: ob4 P (nat_lit 159) :: ob4 P (nat_lit 160) :: ob4 P (nat_lit 161) :: ob4 P (nat_lit 162) :: ob4 P (nat_lit 163) :: ob4 P (nat_lit 164) :: ob4 P (nat_lit 165) :: ob4 P (nat_lit 166) :: ob4 P (nat_lit 167) :: ob4 P (nat_lit 168) :: ob4 P (nat_lit 169) :: ob4 P (nat_lit 170) :: ob4 P (nat_lit 171) :: ob4 P (nat_lit 172) :: ob4 P (nat_lit 173) :: ob4 P (nat_lit 174) :: ob4 P (nat_lit 175) :: ob4 P (nat_lit 176) :: ob4 P (nat_lit 177) :: ob4 P (nat_lit 178) :: ob4 P (nat_lit 179) :: ob4 P (nat_lit 180) :: ob4 P (nat_lit 181) :: ob4 P (nat_lit 182) :: ob4 P (nat_lit 183) :: ob4 P (nat_lit 184) :: ob4 P (nat_lit 185) :: ob4 P (nat_lit 186) :: ob4 P (nat_lit 187) :: ob4 P (nat_lit 188) :: ob4 P (nat_lit 189) :: ob4 P (nat_lit 190) :: ob4 P (nat_lit 191) :: ob4 P (nat_lit 192) :: ob4 P (nat_lit 193) :: ob4 P (nat_lit 194) :: ob4 P (nat_lit 195) :: ob4 P (nat_lit 196) :: ob4 P (nat_lit 197) :: ob4 P (nat_lit 198) :: ob4 P (nat_lit 199) :: ob4 P (nat_lit 200) :: ob4 P (nat_lit 201) :: ob4 P (nat_lit 202) :: ob4 P (nat_lit 203) :: ob4 P (nat_lit 204) :: ob4 P (nat_lit 205) :: ob4 P (nat_lit 206) :: ob4 P (nat_lit 207) :: ob4 P (nat_lit 208) :: ob4 P (nat_lit 209) :: ob4 P (nat_lit 210) :: ob4 P (nat_lit 211) :: ob4 P (nat_lit 212) :: ob4 P (nat_lit 213) :: ob4 P (nat_lit 214) :: ob4 P (nat_lit 215) :: ob4 P (nat_lit 216) :: ob4 P (nat_lit 217) :: ob4 P (nat_lit 218) :: ob4 P (nat_lit 219) :: ob4 P (nat_lit 220) :: ob4 P (nat_lit 221) :: ob4 P (nat_lit 222) :: ob4 P (nat_lit 223) :: ob4 P (nat_lit 224) :: ob4 P (nat_lit 225) :: ob4 P (nat_lit 226) :: ob4 P (nat_lit 227) :: ob4 P (nat_lit 228) :: ob4 P (nat_lit 229) :: ob4 P (nat_lit 230) :: ob4 P (nat_lit 231) :: ob4 P (nat_lit 232) :: ob4 P (nat_lit 233) :: ob4 P (nat_lit 234) :: ob4 P (nat_lit 235) :: ob4 P (nat_lit 236) :: ob4 P (nat_lit 237) :: ob4 P (nat_lit 238) :: ob4 P (nat_lit 239) :: ob4 P (nat_lit 240) :: ob4 P (nat_lit 241) :: ob4 P (nat_lit 242) :: ob4 P (nat_lit 243) :: ob4 P (nat_lit 244) :: ob4 P (nat_lit 245) :: ob4 P (nat_lit 246) :: ob4 P (nat_lit 247) :: ob4 P (nat_lit 248) :: ob4 P (nat_lit 249) :: ob4 P (nat_lit 250) :: ob4 P (nat_lit 251) :: ob4 P (nat_lit 252) :: ob4 P (nat_lit 253) :: ob4 P (nat_lit 254) :: ob4 P (nat_lit 255) :: ob4 P (nat_lit 256) :: ob4 P (nat_lit 257) :: ob4 P (nat_lit 258) :: ob4 P (nat_lit 259) :: ob4 P (nat_lit 260) :: ob4 P (nat_lit 261) :: ob4 P (nat_lit 262) :: ob4 P (nat_lit 263) :: ob4 P (nat_lit 264) :: ob4 P (nat_lit 265) :: ob4 P (nat_lit 266) :: ob4 P (nat_lit 267) :: ob4 P (nat_lit 268) :: ob4 P (nat_lit 269) :: ob4 P (nat_lit 270) :: ob4 P (nat_lit 271) :: ob4 P (nat_lit 272) :: ob4 P (nat_lit 273) :: ob4 P (nat_lit 274) :: ob4 P (nat_lit 275) :: ob4 P (nat_lit 276) :: ob4 P (nat_lit 277) :: ob4 P (nat_lit 278) :: ob4 P (nat_lit 279) :: ob4 P (nat_lit 280) :: ob4 P (nat_lit 281) :: ob4 P (nat_lit 282) :: ob4 P (nat_lit 283) :: ob4 P (nat_lit 284) :: ob4 P (nat_lit 285) :: ob4 P (nat_lit 286) :: ob4 P (nat_lit 287) :: ob4 P (nat_lit 288) :: ob4 P (nat_lit 289) :: ob4 P (nat_lit 290) :: ob4 P (nat_lit 291) :: ob4 P (nat_lit 292) :: ob4 P (nat_lit 293) :: ob4 P (nat_lit 294) :: ob4 P (nat_lit 295) :: ob4 P (nat_lit 296) :: ob4 P (nat_lit 297) :: ob4 P (nat_lit 298) :: ob4 P (nat_lit 299) :: ob4 P (nat_lit 300) :: ob4 P (nat_lit 301) :: ob4 P (nat_lit 302) :: ob4 P (nat_lit 303) :: ob4 P (nat_lit 304) :: ob4 P (nat_lit 305) :: ob4 P (nat_lit 306) :: ob4 P (nat_lit 307) :: ob4 P (nat_lit 308) :: ob4 P (nat_lit 309) :: ob4 P (nat_lit 310) :: ob4 P (nat_lit 311) :: ob4 P (nat_lit 312) :: ob4 P (nat_lit 313) :: ob4 P (nat_lit 314) :: ob4 P (nat_lit 315) :: ob4 P (nat_lit 316) :: ob4 P (nat_lit 317) :: ob4 P (nat_lit 318) :: ob4 P (nat_lit 319) :: ob4 P (nat_lit 320) :: ob4 P (nat_lit 321) :: ob4 P (nat_lit 322) :: ob4 P (nat_lit 323) :: ob4 P (nat_lit 324) :: ob4 P (nat_lit 325) :: ob4 P (nat_lit 326) :: ob4 P (nat_lit 327) :: ob4 P (nat_lit 328) :: ob4 P (nat_lit 329) :: ob4 P (nat_lit 330) :: ob4 P (nat_lit 331) :: ob4 P (nat_lit 332) :: ob4 P (nat_lit 333) :: ob4 P (nat_lit 334) :: ob4 P (nat_lit 335) :: ob4 P (nat_lit 336) :: ob4 P (nat_lit 337) :: ob4 P (nat_lit 338) :: ob4 P (nat_lit 339) :: ob4 P (nat_lit 340) :: ob4 P (nat_lit 341) :: ob4 P (nat_lit 342) :: ob4 P (nat_lit 343) :: ob4 P (nat_lit 344) :: ob4 P (nat_lit 345) :: ob4 P (nat_lit 346) :: ob4 P (nat_lit 347) :: ob4 P (nat_lit 348) :: ob4 P (nat_lit 349) :: ob4 P (nat_lit 350) :: ob4 P (nat_lit 351) :: ob4 P (nat_lit 352) :: ob4 P (nat_lit 353) :: ob4 P (nat_lit 354) :: ob4 P (nat_lit 355) :: ob4 P (nat_lit 356) :: ob4 P (nat_lit 357) :: ob4 P (nat_lit 358) :: ob4 P (nat_lit 359) :: ob4 P (nat_lit 360) :: ob4 P (nat_lit 361) :: ob4 P (nat_lit 362) :: ob4 P (nat_lit 363) :: ob4 P (nat_lit 364) :: ob4 P (nat_lit 365) :: ob4 P (nat_lit 366) :: ob4 P (nat_lit 367) :: ob4 P (nat_lit 368) :: ob4 P (nat_lit 369) :: ob4 P (nat_lit 370) :: ob4 P (nat_lit 371) :: ob4 P (nat_lit 372) :: ob4 P (nat_lit 373) :: ob4 P (nat_lit 374) :: ob4 P (nat_lit 375) :: ob4 P (nat_lit 376) :: ob4 P (nat_lit 377) :: ob4 P (nat_lit 378) :: ob4 P (nat_lit 379) :: ob4 P (nat_lit 380) :: ob4 P (nat_lit 381) :: ob4 P (nat_lit 382) :: ob4 P (nat_lit 383) :: ob4 P (nat_lit 384) :: ob4 P (nat_lit 385) :: ob4 P (nat_lit 386) :: ob4 P (nat_lit 387) :: ob4 P (nat_lit 388) :: ob4 P (nat_lit 389) :: ob4 P (nat_lit 390) :: ob4 P (nat_lit 391) :: ob4 P (nat_lit 392) :: ob4 P (nat_lit 393) :: ob4 P (nat_lit 394) :: ob4 P (nat_lit 395) :: ob4 P (nat_lit 396) :: ob4 P (nat_lit 397) :: ob4 P (nat_lit 398) :: ob4 P (nat_lit 399) :: ob4 P (nat_lit 400) :: ob4 P (nat_lit 401) :: ob4 P (nat_lit 402) :: ob4 P (nat_lit 403) :: ob4 P (nat_lit 404) :: ob4 P (nat_lit 405) :: ob4 P (nat_lit 406) :: ob4 P (nat_lit 407) :: ob4 P (nat_lit 408) :: ob4 P (nat_lit 409) :: ob4 P (nat_lit 410) :: ob4 P (nat_lit 411) :: ob4 P (nat_lit 412) :: ob4 P (nat_lit 413) :: ob4 P (nat_lit 414) :: ob4 P (nat_lit 415) :: ob4 P (nat_lit 416) :: ob4 P (nat_lit 417) :: ob4 P (nat_lit 418) :: ob4 P (nat_lit 419) :: ob4 P (nat_lit 420) :: ob4 P (nat_lit 421) :: ob4 P (nat_lit 422) :: ob4 P (nat_lit 423) :: ob4 P (nat_lit 424) :: ob4 P (nat_lit 425) :: ob4 P (nat_lit 426) :: ob4 P (nat_lit 427) :: ob4 P (nat_lit 428) :: ob4 P (nat_lit 429) :: ob4 P (nat_lit 430) :: ob4 P (nat_lit 431) :: ob4 P (nat_lit 432) :: ob4 P (nat_lit 433) :: ob4 P (nat_lit 434) :: ob4 P (nat_lit 435) :: ob4 P (nat_lit 436) :: ob4 P (nat_lit 437) :: ob4 P (nat_lit 438) :: ob4 P (nat_lit 439) :: ob4 P (nat_lit 440) :: ob4 P (nat_lit 441) :: ob4 P (nat_lit 442) :: ob4 P (nat_lit 443) :: ob4 P (nat_lit 444) :: ob4 P (nat_lit 445) :: ob4 P (nat_lit 446) :: ob4 P (nat_lit 447) :: ob4 P (nat_lit 448) :: ob4 P (nat_lit 449) :: ob4 P (nat_lit 450) :: [])) (Life.mk [] [] [] 0 [] [] Bool.false #[] [] 0 Bool.false Bool.false Bool.false 0 [2000, 10, 10] Bool.false 0 Bool.true [] [] 0 Bool.false)
noncomputable def tr4 (P : Params) : BT := .node (boot_o_0 P) (.node (boot_o_1 P) (.node (ob4 P (nat_lit 3)) (.node (boot_o_7 P) (.node (ob4 P (nat_lit 15)) (.node (ob4 P (nat_lit 31)) (.node (ob4 P (nat_lit 63)) (.node (ob4 P (nat_lit 127)) (.node (ob4 P (nat_lit 255)) .nil .nil) (.node (ob4 P (nat_lit 383)) .nil .nil)) (.node (ob4 P (nat_lit 191)) (.node (ob4 P (nat_lit 319)) .nil .nil) (.node (ob4 P (nat_lit 447)) .nil .nil))) (.node (ob4 P (nat_lit 95)) (.node (ob4 P (nat_lit 159)) (.node (ob4 P (nat_lit 287)) .nil .nil) (.node (ob4 P (nat_lit 415)) .nil .nil)) (.node (ob4 P (nat_lit 223)) (.node (ob4 P (nat_lit 351)) .nil .nil) .nil))) (.node (ob4 P (nat_lit 47)) (.node (ob4 P (nat_lit 79)) (.node (ob4 P (nat_lit 143)) (.node (ob4 P (nat_lit 271)) .nil .nil) (.node (ob4 P (nat_lit 399)) .nil .nil)) (.node (ob4 P (nat_lit 207)) (.node (ob4 P (nat_lit 335)) .nil .nil) .nil)) (.node (ob4 P (nat_lit 111)) (.node (ob4 P (nat_lit 175)) (.node (ob4 P (nat_lit 303)) .nil .nil) (.node (ob4 P (nat_lit 431)) .nil .nil)) (.node (ob4 P (nat_lit 239)) (.node (ob4 P (nat_lit 367)) .nil .nil) .nil)))) (.node (ob4 P (nat_lit 23)) (.node (ob4 P (nat_lit 39)) (.node (ob4 P (nat_lit 71)) (.node (ob4 P (nat_lit 135)) (.node (ob4 P (nat_lit 263)) .nil .nil) (.node (ob4 P (nat_lit 391)) .nil .nil)) (.node (ob4 P (nat_lit 199)) (.node (ob4 P (nat_lit 327)) .nil .nil) .nil)) (.node (ob4 P (nat_lit 103)) (.node (ob4 P (nat_lit 167)) (.node (ob4 P (nat_lit 295)) .nil .nil) (.node (ob4 P (nat_lit 423)) .nil .nil)) (.node (ob4 P (nat_lit 231)) (.node (ob4 P (nat_lit 359)) .nil .nil) .nil))) (.node (ob4 P (nat_lit 55)) (.node (ob4 P (nat_lit 87)) (.node (ob4 P (nat_lit 151)) (.node (ob4 P (nat_lit 279)) .nil .nil) (.node (ob4 P (nat_lit 407)) .nil .nil)) (.node (ob4 P (nat_lit 215)) (.node (ob4 P (nat_lit 343)) .nil .nil) .nil)) (.node (ob4 P (nat_lit 119)) (.node (ob4 P (nat_lit 183)) (.node (ob4 P (nat_lit 311)) .nil .nil) (.node (ob4 P (nat_lit 439)) .nil .nil)) (.node (ob4 P (nat_lit 247)) (.node (ob4 P (nat_lit 375)) .nil .nil) .nil))))) (.node (ob4 P (nat_lit 11)) (.node (ob4 P (nat_lit 19)) (.node (ob4 P (nat_lit 35)) (.node (ob4 P (nat_lit 67)) (.node (ob4 P (nat_lit 131)) (.node (ob4 P (nat_lit 259)) .nil .nil) (.node (ob4 P (nat_lit 387)) .nil .nil)) (.node (ob4 P (nat_lit 195)) (.node (ob4 P (nat_lit 323)) .nil .nil) .nil)) (.node (ob4 P (nat_lit 99)) (.node (ob4 P (nat_lit 163)) (.node (ob4 P (nat_lit 291)) .nil .nil) (.node (ob4 P (nat_lit 419)) .nil .nil)) (.node (ob4 P (nat_lit 227)) (.node (ob4 P (nat_lit 355)) .nil .nil) .nil))) (.node (ob4 P (nat_lit 51)) (.node (ob4 P (nat_lit 83)) (.node (ob4 P (nat_lit 147)) (.node (ob4 P (nat_lit 275)) .nil .nil) (.node (ob4 P (nat_lit 403)) .nil .nil)) (.node (ob4 P (nat_lit 211)) (.node (ob4 P (nat_lit 339)) .nil .nil) .nil)) (.node (ob4 P (nat_lit 115)) (.node (ob4 P (nat_lit 179)) (.node (ob4 P (nat_lit 307)) .nil .nil) (.node (ob4 P (nat_lit 435)) .nil .nil)) (.node (ob4 P (nat_lit 243)) (.node (ob4 P (nat_lit 371)) .nil .nil) .nil)))) (.node (ob4 P (nat_lit 27)) (.node (ob4 P (nat_lit 43)) (.node (ob4 P (nat_lit 75)) (.node (ob4 P (nat_lit 139)) (.node (ob4 P (nat_lit 267)) .nil .nil) (.node (ob4 P (nat_lit 395)) .nil .nil)) (.node (ob4 P (nat_lit 203)) (.node (ob4 P (nat_lit 331)) .nil .nil) .nil)) (.node (ob4 P (nat_lit 107)) (.node (ob4 P (nat_lit 171)) (.node (ob4 P (nat_lit 299)) .nil .nil) (.node (ob4 P (nat_lit 427)) .nil .nil)) (.node (ob4 P (nat_lit 235)) (.node (ob4 P (nat_lit 363)) .nil .nil) .nil))) (.node (ob4 P (nat_lit 59)) (.node (ob4 P (nat_lit 91)) (.node (ob4 P (nat_lit 155)) (.node (ob4 P (nat_lit 283)) .nil .nil) (.node (ob4 P (nat_lit 411)) .nil .nil)) (.node (ob4 P (nat_lit 219)) (.node (ob4 P (nat_lit 347)) .nil .nil) .nil)) (.node (ob4 P (nat_lit 123)) (.node (ob4 P (nat_lit 187)) (.node (ob4 P (nat_lit 315)) .nil .nil) (.node (ob4 P (nat_lit 443)) .nil .nil)) (.node (ob4 P (nat_lit 251)) (.node (ob4 P (nat_lit 379)) .nil .nil) .nil)))))) (.node (boot_o_5 P) (.node (boot_o_9 P) (.node (ob4 P (nat_lit 17)) (.node (ob4 P (nat_lit 33)) (.node (ob4 P (nat_lit 65)) (.node (ob4 P (nat_lit 129)) (.node (ob4 P (nat_lit 257)) .nil .nil) (.node (ob4 P (nat_lit 385)) .nil .nil)) (.node (ob4 P (nat_lit 193)) (.node (ob4 P (nat_lit 321)) .nil .nil) (.node (ob4 P (nat_lit 449)) .nil .nil))) (.node (ob4 P (nat_lit 97)) (.node (ob4 P (nat_lit 161)) (.node (ob4 P (nat_lit 289)) .nil .nil) (.node (ob4 P (nat_lit 417)) .nil .nil)) (.node (ob4 P (nat_lit 225)) (.node (ob4 P (nat_lit 353)) .nil .nil) .nil))) (.node (ob4 P (nat_lit 49)) (.node (ob4 P (nat_lit 81)) (.node (ob4 P (nat_lit 145)) (.node (ob4 P (nat_lit 273)) .nil .nil) (.node (ob4 P (nat_lit 401)) .nil .nil)) (.node (ob4 P (nat_lit 209)) (.node (ob4 P (nat_lit 337)) .nil .nil) .nil)) (.node (ob4 P (nat_lit 113)) (.node (ob4 P (nat_lit 177)) (.node (ob4 P (nat_lit 305)) .nil .nil) (.node (ob4 P (nat_lit 433)) .nil .nil)) (.node (ob4 P (nat_lit 241)) (.node (ob4 P (nat_lit 369)) .nil .nil) .nil)))) (.node (ob4 P (nat_lit 25)) (.node (ob4 P (nat_lit 41)) (.node (ob4 P (nat_lit 73)) (.node (ob4 P (nat_lit 137)) (.node (ob4 P (nat_lit 265)) .nil .nil) (.node (ob4 P (nat_lit 393)) .nil .nil)) (.node (ob4 P (nat_lit 201)) (.node (ob4 P (nat_lit 329)) .nil .nil) .nil)) (.node (ob4 P (nat_lit 105)) (.node (ob4 P (nat_lit 169)) (.node (ob4 P (nat_lit 297)) .nil .nil) (.node (ob4 P (nat_lit 425)) .nil .nil)) (.node (ob4 P (nat_lit 233)) (.node (ob4 P (nat_lit 361)) .nil .nil) .nil))) (.node (ob4 P (nat_lit 57)) (.node (ob4 P (nat_lit 89)) (.node (ob4 P (nat_lit 153)) (.node (ob4 P (nat_lit 281)) .nil .nil) (.node (ob4 P (nat_lit 409)) .nil .nil)) (.node (ob4 P (nat_lit 217)) (.node (ob4 P (nat_lit 345)) .nil .nil) .nil)) (.node (ob4 P (nat_lit 121)) (.node (ob4 P (nat_lit 185)) (.node (ob4 P (nat_lit 313)) .nil .nil) (.node (ob4 P (nat_lit 441)) .nil .nil)) (.node (ob4 P (nat_lit 249)) (.node (ob4 P (nat_lit 377)) .nil .nil) .nil))))) (.node (ob4 P (nat_lit 13)) (.node (ob4 P (nat_lit 21)) (.node (ob4 P (nat_lit 37)) (.node (ob4 P (nat_lit 69)) (.node (ob4 P (nat_lit 133)) (.node (ob4 P (nat_lit 261)) .nil .nil) (.node (ob4 P (nat_lit 389)) .nil .nil)) (.node (ob4 P (nat_lit 197)) (.node (ob4 P (nat_lit 325)) .nil .nil) .nil)) (.node (ob4 P (nat_lit 101)) (.node (ob4 P (nat_lit 165)) (.node (ob4 P (nat_lit 293)) .nil .nil) (.node (ob4 P (nat_lit 421)) .nil .nil)) (.node (ob4 P (nat_lit 229)) (.node (ob4 P (nat_lit 357)) .nil .nil) .nil))) (.node (ob4 P (nat_lit 53)) (.node (ob4 P (nat_lit 85)) (.node (ob4 P (nat_lit 149)) (.node (ob4 P (nat_lit 277)) .nil .nil) (.node (ob4 P (nat_lit 405)) .nil .nil)) (.node (ob4 P (nat_lit 213)) (.node (ob4 P (nat_lit 341)) .nil .nil) .nil)) (.node (ob4 P (nat_lit 117)) (.node (ob4 P (nat_lit 181)) (.node (ob4 P (nat_lit 309)) .nil .nil) (.node (ob4 P (nat_lit 437)) .nil .nil)) (.node (ob4 P (nat_lit 245)) (.node (ob4 P (nat_lit 373)) .nil .nil) .nil)))) (.node (ob4 P (nat_lit 29)) (.node (ob4 P (nat_lit 45)) (.node (ob4 P (nat_lit 77)) (.node (ob4 P (nat_lit 141)) (.node (ob4 P (nat_lit 269)) .nil .nil) (.node (ob4 P (nat_lit 397)) .nil .nil)) (.node (ob4 P (nat_lit 205)) (.node (ob4 P (nat_lit 333)) .nil .nil) .nil)) (.node (ob4 P (nat_lit 109)) (.node (ob4 P (nat_lit 173)) (.node (ob4 P (nat_lit 301)) .nil .nil) (.node (ob4 P (nat_lit 429)) .nil .nil)) (.node (ob4 P (nat_lit 237)) (.node (ob4 P (nat_lit 365)) .nil .nil) .nil))) (.node (ob4 P (nat_lit 61)) (.node (ob4 P (nat_lit 93)) (.node (ob4 P (nat_lit 157)) (.node (ob4 P (nat_lit 285)) .nil .nil) (.node (ob4 P (nat_lit 413)) .nil .nil)) (.node (ob4 P (nat_lit 221)) (.node (ob4 P (nat_lit 349)) .nil .nil) .nil)) (.node (ob4 P (nat_lit 125)) (.node (ob4 P (nat_lit 189)) (.node (ob4 P (nat_lit 317)) .nil .nil) (.node (ob4 P (nat_lit 445)) .nil .nil)) (.node (ob4 P (nat_lit 253)) (.node (ob4 P (nat_lit 381)) .nil .nil) .nil))))))) (.node (boot_o_2 P) (.node (boot_o_4 P) (.node (boot_o_8 P) (.node (ob4 P (nat_lit 16)) (.node (ob4 P (nat_lit 32)) (.node (ob4 P (nat_lit 64)) (.node (ob4 P (nat_lit 128)) (.node (ob4 P (nat_lit 256)) .nil .nil) (.node (ob4 P (nat_lit 384)) .nil .nil)) (.node (ob4 P (nat_lit 192)) (.node (ob4 P (nat_lit 320)) .nil .nil) (.node (ob4 P (nat_lit 448)) .nil .nil))) (.node (ob4 P (nat_lit 96)) (.node (ob4 P (nat_lit 160)) (.node (ob4 P (nat_lit 288)) .nil .nil) (.node (ob4 P (nat_lit 416)) .nil .nil)) (.node (ob4 P (nat_lit 224)) (.node (ob4 P (nat_lit 352)) .nil .nil) .nil))) (.node (ob4 P (nat_lit 48)) (.node (ob4 P (nat_lit 80)) (.node (ob4 P (nat_lit 144)) (.node (ob4 P (nat_lit 272)) .nil .nil) (.node (ob4 P (nat_lit 400)) .nil .nil)) (.node (ob4 P (nat_lit 208)) (.node (ob4 P (nat_lit 336)) .nil .nil) .nil)) (.node (ob4 P (nat_lit 112)) (.node (ob4 P (nat_lit 176)) (.node (ob4 P (nat_lit 304)) .nil .nil) (.node (ob4 P (nat_lit 432)) .nil .nil)) (.node (ob4 P (nat_lit 240)) (.node (ob4 P (nat_lit 368)) .nil .nil) .nil)))) (.node (ob4 P (nat_lit 24)) (.node (ob4 P (nat_lit 40)) (.node (ob4 P (nat_lit 72)) (.node (ob4 P (nat_lit 136)) (.node (ob4 P (nat_lit 264)) .nil .nil) (.node (ob4 P (nat_lit 392)) .nil .nil)) (.node (ob4 P (nat_lit 200)) (.node (ob4 P (nat_lit 328)) .nil .nil) .nil)) (.node (ob4 P (nat_lit 104)) (.node (ob4 P (nat_lit 168)) (.node (ob4 P (nat_lit 296)) .nil .nil) (.node (ob4 P (nat_lit 424)) .nil .nil)) (.node (ob4 P (nat_lit 232)) (.node (ob4 P (nat_lit 360)) .nil .nil) .nil))) (.node (ob4 P (nat_lit 56)) (.node (ob4 P (nat_lit 88)) (.node (ob4 P (nat_lit 152)) (.node (ob4 P (nat_lit 280)) .nil .nil) (.node (ob4 P (nat_lit 408)) .nil .nil)) (.node (ob4 P (nat_lit 216)) (.node (ob4 P (nat_lit 344)) .nil .nil) .nil)) (.node (ob4 P (nat_lit 120)) (.node (ob4 P (nat_lit 184)) (.node (ob4 P (nat_lit 312)) .nil .nil) (.node (ob4 P (nat_lit 440)) .nil .nil)) (.node (ob4 P (nat_lit 248)) (.node (ob4 P (nat_lit 376)) .nil .nil) .nil))))) (.node (ob4 P (nat_lit 12)) (.node (ob4 P (nat_lit 20)) (.node (ob4 P (nat_lit 36)) (.node (ob4 P (nat_lit 68)) (.node (ob4 P (nat_lit 132)) (.node (ob4 P (nat_lit 260)) .nil .nil) (.node (ob4 P (nat_lit 388)) .nil .nil)) (.node (ob4 P (nat_lit 196)) (.node (ob4 P (nat_lit 324)) .nil .nil) .nil)) (.node (ob4 P (nat_lit 100)) (.node (ob4 P (nat_lit 164)) (.node (ob4 P (nat_lit 292)) .nil .nil) (.node (ob4 P (nat_lit 420)) .nil .nil)) (.node (ob4 P (nat_lit 228)) (.node (ob4 P (nat_lit 356)) .nil .nil) .nil))) (.node (ob4 P (nat_lit 52)) (.node (ob4 P (nat_lit 84)) (.node (ob4 P (nat_lit 148)) (.node (ob4 P (nat_lit 276)) .nil .nil) (.node (ob4 P (nat_lit 404)) .nil .nil)) (.node (ob4 P (nat_lit 212)) (.node (ob4 P (nat_lit 340)) .nil .nil) .nil)) (.node (ob4 P (nat_lit 116)) (.node (ob4 P (nat_lit 180)) (.node (ob4 P (nat_lit 308)) .nil .nil) (.node (ob4 P (nat_lit 436)) .nil .nil)) (.node (ob4 P (nat_lit 244)) (.node (ob4 P (nat_lit 372)) .nil .nil) .nil)))) (.node (ob4 P (nat_lit 28)) (.node (ob4 P (nat_lit 44)) (.node (ob4 P (nat_lit 76)) (.node (ob4 P (nat_lit 140)) (.node (ob4 P (nat_lit 268)) .nil .nil) (.node (ob4 P (nat_lit 396)) .nil .nil)) (.node (ob4 P (nat_lit 204)) (.node (ob4 P (nat_lit 332)) .nil .nil) .nil)) (.node (ob4 P (nat_lit 108)) (.node (ob4 P (nat_lit 172)) (.node (ob4 P (nat_lit 300)) .nil .nil) (.node (ob4 P (nat_lit 428)) .nil .nil)) (.node (ob4 P (nat_lit 236)) (.node (ob4 P (nat_lit 364)) .nil .nil) .nil))) (.node (ob4 P (nat_lit 60)) (.node (ob4 P (nat_lit 92)) (.node (ob4 P (nat_lit 156)) (.node (ob4 P (nat_lit 284)) .nil .nil) (.node (ob4 P (nat_lit 412)) .nil .nil)) (.node (ob4 P (nat_lit 220)) (.node (ob4 P (nat_lit 348)) .nil .nil) .nil)) (.node (ob4 P (nat_lit 124)) (.node (ob4 P (nat_lit 188)) (.node (ob4 P (nat_lit 316)) .nil .nil) (.node (ob4 P (nat_lit 444)) .nil .nil)) (.node (ob4 P (nat_lit 252)) (.node (ob4 P (nat_lit 380)) .nil .nil) .nil)))))) (.node (boot_o_6 P) (.node (boot_o_10 P) (.node (ob4 P (nat_lit 18)) (.node (ob4 P (nat_lit 34)) (.node (ob4 P (nat_lit 66)) (.node (ob4 P (nat_lit 130)) (.node (ob4 P (nat_lit 258)) .nil .nil) (.node (ob4 P (nat_lit 386)) .nil .nil)) (.node (ob4 P (nat_lit 194)) (.node (ob4 P (nat_lit 322)) .nil .nil) (.node (ob4 P (nat_lit 450)) .nil .nil))) (.node (ob4 P (nat_lit 98)) (.node (ob4 P (nat_lit 162)) (.node (ob4 P (nat_lit 290)) .nil .nil) (.node (ob4 P (nat_lit 418)) .nil .nil)) (.node (ob4 P (nat_lit 226)) (.node (ob4 P (nat_lit 354)) .nil .nil) .nil))) (.node (ob4 P (nat_lit 50)) (.node (ob4 P (nat_lit 82)) (.node (ob4 P (nat_lit 146)) (.node (ob4 P (nat_lit 274)) .nil .nil) (.node (ob4 P (nat_lit 402)) .nil .nil)) (.node (ob4 P (nat_lit 210)) (.node (ob4 P (nat_lit 338)) .nil .nil) .nil)) (.node (ob4 P (nat_lit 114)) (.node (ob4 P (nat_lit 178)) (.node (ob4 P (nat_lit 306)) .nil .nil) (.node (ob4 P (nat_lit 434)) .nil .nil)) (.node (ob4 P (nat_lit 242)) (.node (ob4 P (nat_lit 370)) .nil .nil) .nil)))) (.node (ob4 P (nat_lit 26)) (.node (ob4 P (nat_lit 42)) (.node (ob4 P (nat_lit 74)) (.node (ob4 P (nat_lit 138)) (.node (ob4 P (nat_lit 266)) .nil .nil) (.node (ob4 P (nat_lit 394)) .nil .nil)) (.node (ob4 P (nat_lit 202)) (.node (ob4 P (nat_lit 330)) .nil .nil) .nil)) (.node (ob4 P (nat_lit 106)) (.node (ob4 P (nat_lit 170)) (.node (ob4 P (nat_lit 298)) .nil .nil) (.node (ob4 P (nat_lit 426)) .nil .nil)) (.node (ob4 P (nat_lit 234)) (.node (ob4 P (nat_lit 362)) .nil .nil) .nil))) (.node (ob4 P (nat_lit 58)) (.node (ob4 P (nat_lit 90)) (.node (ob4 P (nat_lit 154)) (.node (ob4 P (nat_lit 282)) .nil .nil) (.node (ob4 P (nat_lit 410)) .nil .nil)) (.node (ob4 P (nat_lit 218)) (.node (ob4 P (nat_lit 346)) .nil .nil) .nil)) (.node (ob4 P (nat_lit 122)) (.node (ob4 P (nat_lit 186)) (.node (ob4 P (nat_lit 314)) .nil .nil) (.node (ob4 P (nat_lit 442)) .nil .nil)) (.node (ob4 P (nat_lit 250)) (.node (ob4 P (nat_lit 378)) .nil .nil) .nil))))) (.node (ob4 P (nat_lit 14)) (.node (ob4 P (nat_lit 22)) (.node (ob4 P (nat_lit 38)) (.node (ob4 P (nat_lit 70)) (.node (ob4 P (nat_lit 134)) (.node (ob4 P (nat_lit 262)) .nil .nil) (.node (ob4 P (nat_lit 390)) .nil .nil)) (.node (ob4 P (nat_lit 198)) (.node (ob4 P (nat_lit 326)) .nil .nil) .nil)) (.node (ob4 P (nat_lit 102)) (.node (ob4 P (nat_lit 166)) (.node (ob4 P (nat_lit 294)) .nil .nil) (.node (ob4 P (nat_lit 422)) .nil .nil)) (.node (ob4 P (nat_lit 230)) (.node (ob4 P (nat_lit 358)) .nil .nil) .nil))) (.node (ob4 P (nat_lit 54)) (.node (ob4 P (nat_lit 86)) (.node (ob4 P (nat_lit 150)) (.node (ob4 P (nat_lit 278)) .nil .nil) (.node (ob4 P (nat_lit 406)) .nil .nil)) (.node (ob4 P (nat_lit 214)) (.node (ob4 P (nat_lit 342)) .nil .nil) .nil)) (.node (ob4 P (nat_lit 118)) (.node (ob4 P (nat_lit 182)) (.node (ob4 P (nat_lit 310)) .nil .nil) (.node (ob4 P (nat_lit 438)) .nil .nil)) (.node (ob4 P (nat_lit 246)) (.node (ob4 P (nat_lit 374)) .nil .nil) .nil)))) (.node (ob4 P (nat_lit 30)) (.node (ob4 P (nat_lit 46)) (.node (ob4 P (nat_lit 78)) (.node (ob4 P (nat_lit 142)) (.node (ob4 P (nat_lit 270)) .nil .nil) (.node (ob4 P (nat_lit 398)) .nil .nil)) (.node (ob4 P (nat_lit 206)) (.node (ob4 P (nat_lit 334)) .nil .nil) .nil)) (.node (ob4 P (nat_lit 110)) (.node (ob4 P (nat_lit 174)) (.node (ob4 P (nat_lit 302)) .nil .nil) (.node (ob4 P (nat_lit 430)) .nil .nil)) (.node (ob4 P (nat_lit 238)) (.node (ob4 P (nat_lit 366)) .nil .nil) .nil))) (.node (ob4 P (nat_lit 62)) (.node (ob4 P (nat_lit 94)) (.node (ob4 P (nat_lit 158)) (.node (ob4 P (nat_lit 286)) .nil .nil) (.node (ob4 P (nat_lit 414)) .nil .nil)) (.node (ob4 P (nat_lit 222)) (.node (ob4 P (nat_lit 350)) .nil .nil) .nil)) (.node (ob4 P (nat_lit 126)) (.node (ob4 P (nat_lit 190)) (.node (ob4 P (nat_lit 318)) .nil .nil) (.node (ob4 P (nat_lit 446)) .nil .nil)) (.node (ob4 P (nat_lit 254)) (.node (ob4 P (nat_lit 382)) .nil .nil) .nil)))))))
noncomputable def pa4_11 (P : Params) : Obj := Obj.mk (Value.type "tuple") Option.none (Data.seq #[]) #[]
noncomputable def pa4_12 (P : Params) : Obj := Obj.mk Value.none Option.none (Data.fields #[]) #[]
noncomputable def pa4_13 (P : Params) : Obj := Obj.mk (Value.type "code") Option.none (Data.fields #[Value.str (Str.ofString "<module>") 182, Value.str (Str.ofString "<module>") 183, Value.str (Str.ofString "/claim/cut.py") 184, Value.int 1 0, Value.int 0 0, Value.int 0 0, Value.int 0 0, Value.int 0 0, Value.ref 11, Value.bool Bool.false, Value.int 181 0, Value.ref 12, Value.none, Value.none, Value.none, Value.none, Value.int 185 0, Value.int 1 0, Value.str (Str.ofString "/claim/cut.py") 186]) #[]
noncomputable def pa4_14 (P : Params) : Obj := Obj.mk (Value.type "frame") Option.none Data.plain #[Option.some (Value.ref 13), Option.some (Value.ref 3), Option.some (Value.ref 3), Option.none, Option.some (Value.str (Str.ofString "__main__") 164), Option.none, Option.some (Value.ref 0)]
noncomputable def ha4 (P : Params) : Heap := Heap.mk (Array.mk [boot_o_0 P, boot_o_1 P, boot_o_2 P, boot_o_3 P, boot_o_4 P, boot_o_5 P, boot_o_6 P, boot_o_7 P, boot_o_8 P, boot_o_9 P, boot_o_10 P, pa4_11 P, pa4_12 P, pa4_13 P, pa4_14 P]) (Life.mk [] [] [] 0 [] [] Bool.false #[] [] 0 Bool.false Bool.false Bool.false 0 [2000, 10, 10] Bool.false 0 Bool.true [] [] 0 Bool.false)
noncomputable def ta4 (P : Params) : BT := .node (boot_o_0 P) (.node (boot_o_1 P) (.node (boot_o_3 P) (.node (boot_o_7 P) .nil .nil) (.node (pa4_11 P) .nil .nil)) (.node (boot_o_5 P) (.node (boot_o_9 P) .nil .nil) (.node (pa4_13 P) .nil .nil))) (.node (boot_o_2 P) (.node (boot_o_4 P) (.node (boot_o_8 P) .nil .nil) (.node (pa4_12 P) .nil .nil)) (.node (boot_o_6 P) (.node (boot_o_10 P) .nil .nil) (.node (pa4_14 P) .nil .nil)))
noncomputable def body4 : List Stmt := match Challenge.pw_lp0002_04.main.body with
  | [a0, _, a2, _, a4, a5, a6] => [a0, a2, a4, a5, a6]
  | _ => []
noncomputable def V4 : Program := { Challenge.pw_lp0002_04 with main := { Challenge.pw_lp0002_04.main with body := body4 } }
noncomputable def env4 : Env := { scope := Challenge.pw_lp0002_04.main.scope, locals := mainNs, globals := mainNs, cells := [], code := Value.ref 13, frame := some 14 }
noncomputable def cd4 : Code := .body (behindTheImports Challenge.pw_lp0002_04) env4
noncomputable def loose4 : List Str := [Str.ofString "CellId"]
noncomputable def st4_0 : List Stmt := ((behindTheImports Challenge.pw_lp0002_04).drop 0).take 7
theorem pre4 (w : World) (os : OsState) : topGo treeTable Challenge.pw_lp0002_04 w 11 (some (Value.ref 6)) 12 ⟨boot_heap w.params, (Array.mk []), boot_drawn, boot_toks, os⟩ (topStub Challenge.pw_lp0002_04) =
    some (⟨ha4 w.params, (Array.mk []), (Drawn.mk 0 0 0 0), 187, os⟩, ⟨denote treeTable cd4, cd4, (Pos.mk 0 0 0 0), [topFrame (Pos.mk 0 0 0 0)]⟩) := by kernel_rfl
theorem block4 (w : World) (os : OsState) : segRun treeTable Challenge.pw_lp0002_04 w 11 (some (Value.ref 6)) 1 1 ⟨ha4 w.params, (Array.mk []), (Drawn.mk 0 0 0 0), 187, os⟩ (blockOf (behindTheImports Challenge.pw_lp0002_04) env4 cd4 (Pos.mk 0 0 0 0) [topFrame (Pos.mk 0 0 0 0)]) =
    some (.next, SharedT.abs ⟨ta4 w.params, 15, (Life.mk [] [] [] 0 [] [] Bool.false #[] [] 0 Bool.false Bool.false Bool.false 0 [2000, 10, 10] Bool.false 0 Bool.true [] [] 0 Bool.false), (Array.mk []), (Drawn.mk 0 0 0 0), 187, os⟩, cd4, (Pos.mk 0 0 0 0)) := by kernel_rfl
theorem seg4_0 (w : World) (os : OsState) : segRunT treeTable Challenge.pw_lp0002_04 w 11 (some (Value.ref 6)) 1 3708 (SharedT.mk (ta4 w.params) 15 (Life.mk [] [] [] 0 [] [] Bool.false #[] [] 0 Bool.false Bool.false Bool.false 0 [2000, 10, 10] Bool.false 0 Bool.true [] [] 0 Bool.false) (Array.mk []) (Drawn.mk 0 0 0 0) 187 os) (piecesOf st4_0 env4 cd4 (Pos.mk 0 0 0 0) [topFrame (Pos.mk 0 0 0 0)]) =
    some (.next, SharedT.mk (tr4 w.params) 451 (Life.mk [] [] [] 0 [] [] Bool.false #[] [] 0 Bool.false Bool.false Bool.false 0 [2000, 10, 10] Bool.false 0 Bool.true [] [] 0 Bool.false) (Array.mk []) (Drawn.mk 0 0 0 0) 842 os, cd4, (Pos.mk 276 0 308 132)) := by kernel_rfl
theorem fin4 (w : World) (os : OsState) : topRun treeTable Challenge.pw_lp0002_04 w 11 (some (Value.ref 6)) 2 (SharedT.abs ⟨tr4 w.params, 451, (Life.mk [] [] [] 0 [] [] Bool.false #[] [] 0 Bool.false Bool.false Bool.false 0 [2000, 10, 10] Bool.false 0 Bool.true [] [] 0 Bool.false), (Array.mk []), (Drawn.mk 0 0 0 0), 842, os⟩) ⟨doneF .next, cd4, (Pos.mk 276 0 308 132), [topFrame (Pos.mk 0 0 0 0)]⟩ =
    some ⟨ht4 w.params, (Array.mk []), (Drawn.mk 0 0 0 0), 842, os⟩ := by kernel_rfl
theorem app4 : behindTheImports Challenge.pw_lp0002_04 = (st4_0 ++ []) := by kernel_rfl
theorem run4 (w : World) (os : OsState) : topRun treeTable Challenge.pw_lp0002_04 w 11 (some (Value.ref 6)) (12 + (1 + (3708 + 2))) ⟨boot_heap w.params, (Array.mk []), boot_drawn, boot_toks, os⟩ (topStub Challenge.pw_lp0002_04) =
    some ⟨ht4 w.params, (Array.mk []), (Drawn.mk 0 0 0 0), 842, os⟩ := by
  have k0 := piece_nil (env := env4) (fin4 w os)
  have k1 := piece_app (segRun_of (seg4_0 w os)) k0
  rw [← app4] at k1
  exact go_top (pre4 w os) (piece_block (block4 w os) k1)
theorem size4 (w : World) : ((boot_heap w.params).isNs mainGlobals && (Array.mk [] : Array GenState).size == 0, (boot_heap w.params).objs.size, (boot_heap w.params).nsMap mainGlobals "__annotations__") = (true, 11, some (Value.ref 6)) := by kernel_rfl
theorem open4 : ∀ w : World, (fencedOpening treeTable Challenge.pw_lp0002_04 w 7540).map (fun s => (s.heap, s.gens, s.drawn, s.toks)) = some (boot_heap w.params, Array.mk [], boot_drawn, boot_toks) :=
  boot_open (by kernel_rfl) (by decide) (fun s => by kernel_rfl)
noncomputable abbrev hook4 : Hook := kHook K4 (nat_lit 2 :: nat_lit 3 :: nat_lit 15 :: nat_lit 17 :: nat_lit 18 :: nat_lit 20 :: nat_lit 21 :: nat_lit 22 :: nat_lit 29 :: nat_lit 30 :: nat_lit 32 :: nat_lit 33 :: nat_lit 35 :: nat_lit 36 :: nat_lit 37 :: nat_lit 39 :: nat_lit 40 :: nat_lit 42 :: nat_lit 43 :: nat_lit 44 :: nat_lit 46 :: nat_lit 47 :: nat_lit 49 :: nat_lit 50 :: nat_lit 51 :: nat_lit 53 :: nat_lit 54 :: nat_lit 56 :: nat_lit 57 :: nat_lit 58 :: nat_lit 60 :: nat_lit 61 :: nat_lit 63 :: nat_lit 64 :: nat_lit 65 :: nat_lit 67 :: nat_lit 68 :: nat_lit 70 :: nat_lit 71 :: nat_lit 72 :: nat_lit 74 :: nat_lit 75 :: nat_lit 77 :: nat_lit 78 :: nat_lit 79 :: nat_lit 81 :: nat_lit 82 :: nat_lit 84 :: nat_lit 85 :: nat_lit 86 :: nat_lit 88 :: nat_lit 89 :: nat_lit 91 :: nat_lit 92 :: nat_lit 93 :: nat_lit 95 :: nat_lit 96 :: nat_lit 98 :: nat_lit 99 :: nat_lit 100 :: nat_lit 101 :: nat_lit 102 :: nat_lit 103 :: nat_lit 105 :: nat_lit 106 :: nat_lit 108 :: nat_lit 109 :: nat_lit 110 :: nat_lit 111 :: nat_lit 112 :: nat_lit 113 :: nat_lit 115 :: nat_lit 116 :: nat_lit 118 :: nat_lit 119 :: nat_lit 120 :: nat_lit 121 :: nat_lit 122 :: nat_lit 123 :: nat_lit 125 :: nat_lit 126 :: nat_lit 128 :: nat_lit 129 :: nat_lit 130 :: nat_lit 131 :: nat_lit 132 :: nat_lit 133 :: nat_lit 135 :: nat_lit 136 :: nat_lit 138 :: nat_lit 139 :: nat_lit 140 :: nat_lit 141 :: nat_lit 142 :: nat_lit 143 :: nat_lit 145 :: nat_lit 146 :: nat_lit 148 :: nat_lit 149 :: nat_lit 150 :: nat_lit 151 :: nat_lit 152 :: nat_lit 153 :: nat_lit 155 :: nat_lit 156 :: nat_lit 158 :: nat_lit 159 :: nat_lit 160 :: nat_lit 162 :: nat_lit 163 :: nat_lit 165 :: nat_lit 166 :: nat_lit 167 :: nat_lit 169 :: nat_lit 170 :: nat_lit 172 :: nat_lit 173 :: nat_lit 174 :: nat_lit 176 :: nat_lit 177 :: nat_lit 179 :: nat_lit 180 :: nat_lit 181 :: nat_lit 183 :: nat_lit 184 :: nat_lit 186 :: nat_lit 187 :: nat_lit 188 :: nat_lit 190 :: nat_lit 191 :: nat_lit 193 :: nat_lit 194 :: nat_lit 195 :: nat_lit 197 :: nat_lit 198 :: nat_lit 200 :: nat_lit 201 :: nat_lit 202 :: nat_lit 204 :: nat_lit 205 :: nat_lit 207 :: nat_lit 208 :: nat_lit 209 :: nat_lit 211 :: nat_lit 212 :: nat_lit 214 :: nat_lit 215 :: nat_lit 216 :: nat_lit 218 :: nat_lit 219 :: nat_lit 221 :: nat_lit 222 :: nat_lit 223 :: nat_lit 225 :: nat_lit 226 :: nat_lit 228 :: nat_lit 229 :: nat_lit 230 :: nat_lit 232 :: nat_lit 233 :: nat_lit 235 :: nat_lit 236 :: nat_lit 237 :: nat_lit 239 :: nat_lit 240 :: nat_lit 242 :: nat_lit 243 :: nat_lit 244 :: nat_lit 246 :: nat_lit 247 :: nat_lit 249 :: nat_lit 250 :: nat_lit 251 :: nat_lit 253 :: nat_lit 254 :: nat_lit 256 :: nat_lit 257 :: nat_lit 258 :: nat_lit 260 :: nat_lit 261 :: nat_lit 263 :: nat_lit 264 :: nat_lit 265 :: nat_lit 267 :: nat_lit 268 :: nat_lit 270 :: nat_lit 271 :: nat_lit 272 :: nat_lit 274 :: nat_lit 275 :: nat_lit 277 :: nat_lit 278 :: nat_lit 279 :: nat_lit 281 :: nat_lit 282 :: nat_lit 284 :: nat_lit 285 :: nat_lit 286 :: nat_lit 288 :: nat_lit 289 :: nat_lit 291 :: nat_lit 292 :: nat_lit 293 :: nat_lit 294 :: nat_lit 295 :: nat_lit 296 :: nat_lit 298 :: nat_lit 299 :: nat_lit 301 :: nat_lit 302 :: nat_lit 303 :: nat_lit 304 :: nat_lit 305 :: nat_lit 306 :: nat_lit 308 :: nat_lit 309 :: nat_lit 311 :: nat_lit 312 :: nat_lit 313 :: nat_lit 314 :: nat_lit 315 :: nat_lit 316 :: nat_lit 318 :: nat_lit 319 :: nat_lit 321 :: nat_lit 322 :: nat_lit 323 :: nat_lit 324 :: nat_lit 325 :: nat_lit 326 :: nat_lit 328 :: nat_lit 329 :: nat_lit 331 :: nat_lit 332 :: nat_lit 333 :: nat_lit 334 :: nat_lit 335 :: nat_lit 336 :: nat_lit 338 :: nat_lit 339 :: nat_lit 341 :: nat_lit 342 :: nat_lit 343 :: nat_lit 345 :: nat_lit 346 :: nat_lit 348 :: nat_lit 349 :: nat_lit 350 :: nat_lit 352 :: nat_lit 353 :: nat_lit 355 :: nat_lit 356 :: nat_lit 357 :: nat_lit 359 :: nat_lit 360 :: nat_lit 362 :: nat_lit 363 :: nat_lit 364 :: nat_lit 366 :: nat_lit 367 :: nat_lit 369 :: nat_lit 370 :: nat_lit 371 :: nat_lit 373 :: nat_lit 374 :: nat_lit 376 :: nat_lit 377 :: nat_lit 378 :: nat_lit 380 :: nat_lit 381 :: nat_lit 383 :: nat_lit 384 :: nat_lit 385 :: nat_lit 387 :: nat_lit 388 :: nat_lit 390 :: nat_lit 391 :: nat_lit 392 :: nat_lit 394 :: nat_lit 395 :: nat_lit 397 :: nat_lit 398 :: nat_lit 399 :: nat_lit 401 :: nat_lit 402 :: nat_lit 404 :: nat_lit 405 :: nat_lit 406 :: nat_lit 408 :: nat_lit 409 :: nat_lit 411 :: nat_lit 412 :: nat_lit 413 :: nat_lit 415 :: nat_lit 416 :: nat_lit 418 :: nat_lit 419 :: nat_lit 420 :: nat_lit 421 :: nat_lit 422 :: nat_lit 423 :: nat_lit 424 :: nat_lit 425 :: nat_lit 426 :: nat_lit 427 :: nat_lit 430 :: nat_lit 432 :: nat_lit 433 :: nat_lit 435 :: nat_lit 436 :: nat_lit 437 :: nat_lit 439 :: nat_lit 440 :: nat_lit 442 :: nat_lit 443 :: nat_lit 444 :: nat_lit 446 :: nat_lit 447 :: nat_lit 449 :: nat_lit 450 :: []) (fun _ => by kernel_rfl)
noncomputable abbrev xt4 : Shared → Bool := fun s => xlAt V4 [] s && recOk (RowW.records Challenge.rw_lp0002_04.row.toRowW) s
theorem looksA4 (w : World) (os : OsState) : (staticsOk (importedModules Challenge.pw_lp0002_04.main.body) (boot_heap w.params) (ht4 w.params) && namesBound Challenge.pw_lp0002_04 (ht4 w.params) && gensDone ⟨ht4 w.params, (Array.mk []), (Drawn.mk 0 0 0 0), 842, os⟩ && laidKept (boot_heap w.params) (ht4 w.params)) = true := by kernel_rfl
theorem looksB4 (w : World) (os : OsState) : openSeen V4 loose4 (importedModules Challenge.pw_lp0002_04.main.body) xt4 true ⟨ht4 w.params, (Array.mk []), (Drawn.mk 0 0 0 0), 842, os⟩ = openGood V4 loose4 := by kernel_rfl
theorem looksC4 (w : World) (os : OsState) : hook4.obs ⟨ht4 w.params, (Array.mk []), (Drawn.mk 0 0 0 0), 842, os⟩ = hook4.val w := by kernel_rfl
theorem left4 : LeftO Challenge.pw_lp0002_04 V4 loose4 xt4 hook4.obs hook4.val 7540 true :=
  LeftO.of_pieces open4 size4 run4 (by decide) fun w => funext fun os => looks_pair (looksA4 w os) (looks_pair (looksB4 w os) (looksC4 w os))

theorem pw (k : Nat) : (0 : Int) < 2 ^ k := kbt_pos k
theorem pw_add (a b : Nat) : (2 : Int) ^ (a + b) = 2 ^ a * 2 ^ b := Int.pow_add 2 a b
/-- the id of the p-th cell of level l -/
def cid (p l : Int) : Int := (2 * p + 1) * 2 ^ (60 - 2 * l).toNat
theorem low_at (p : Int) (k : Nat) : Builtin.bitAnd ((2 * p + 1) * 2 ^ k) (-((2 * p + 1) * 2 ^ k)) = 2 ^ k := by
  rw [Int.mul_comm]; exact kbt_low k p
theorem lsb_cid (p l : Int) : Builtin.bitAnd (cid p l) (-cid p l) = 2 ^ (60 - 2 * l).toNat := low_at p _
theorem mask32 (x : Int) : Builtin.bitAnd x 4294967295 = x % 2 ^ 32 := by
  have h := kbt_mask x 32
  rwa [show (2 : Int) ^ 32 - 1 = 4294967295 from by decide] at h
theorem odd_low (p : Int) (k : Nat) (hk : k < 32) : ∃ a : Int, Builtin.bitAnd ((2 * p + 1) * 2 ^ k) 4294967295 = (2 * a + 1) * 2 ^ k := by
  have e : (2 : Int) ^ 32 = 2 ^ k * 2 ^ (32 - k) := by rw [← pw_add]; congr 1; omega
  rw [mask32, e, Int.mul_comm, Int.mul_emod_mul_of_pos _ _ (pw k)]
  have e2 : (2 : Int) ^ (32 - k) = 2 * 2 ^ (31 - k) := by
    rw [show 32 - k = (31 - k) + 1 by omega, Int.pow_succ, Int.mul_comm]
  rw [e2]
  generalize (2 : Int) ^ (31 - k) = q
  refine ⟨((2 * p + 1) % (2 * q)) / 2, ?_⟩
  rw [Int.mul_comm]
  congr 1
  have h : (2 * p + 1) % (2 * q) % 2 = 1 := by
    rw [Int.emod_emod_of_dvd _ (Int.dvd_mul_right 2 q)]; omega
  omega
theorem low_ne (a : Int) (k : Nat) : (2 * a + 1) * (2 : Int) ^ k ≠ 0 := by
  refine Int.mul_ne_zero (by omega) (Int.ne_of_gt (pw k))
/-- the four tests of level() at the lowest bit Y of a word -/
def Tests (Y k : Int) : Prop := ∃ b8 b4 b2 b1 : Int,
  ((Builtin.bitAnd Y 21845 ≠ 0 ∧ b8 = 8) ∨ (Builtin.bitAnd Y 21845 = 0 ∧ b8 = 0)) ∧
  ((Builtin.bitAnd Y 5570645 ≠ 0 ∧ b4 = 4) ∨ (Builtin.bitAnd Y 5570645 = 0 ∧ b4 = 0)) ∧
  ((Builtin.bitAnd Y 84215045 ≠ 0 ∧ b2 = 2) ∨ (Builtin.bitAnd Y 84215045 = 0 ∧ b2 = 0)) ∧
  ((Builtin.bitAnd Y 286331153 ≠ 0 ∧ b1 = 1) ∨ (Builtin.bitAnd Y 286331153 = 0 ∧ b1 = 0)) ∧ k = b8 + b4 + b2 + b1
theorem tests_of (j : Nat) (hj : j < 16) : Tests (2 ^ (2 * j)) (15 - j) := by
  have key : ∀ j : Fin 16, (2 : Int) ^ (2 * j.1) = 2 ^ (2 * j.1) ∧ (15 - (j.1 : Int)) =
      (if Builtin.bitAnd (2 ^ (2 * j.1)) 21845 = 0 then 0 else 8) + (if Builtin.bitAnd (2 ^ (2 * j.1)) 5570645 = 0 then 0 else 4) + (if Builtin.bitAnd (2 ^ (2 * j.1)) 84215045 = 0 then 0 else 2) + (if Builtin.bitAnd (2 ^ (2 * j.1)) 286331153 = 0 then 0 else 1) := by decide +kernel
  have k := (key ⟨j, hj⟩).2
  refine ⟨_, _, _, _, ?_, ?_, ?_, ?_, k⟩ <;> (dsimp only; split <;> simp_all)
theorem level_low {p l : Int} (h0 : 15 ≤ l) (h1 : l ≤ 30) : ∃ X : Int, Builtin.bitAnd (cid p l) 4294967295 = X ∧ X ≠ 0 ∧ Tests (Builtin.bitAnd X (-X)) (l - 15) := by
  obtain ⟨j, hj⟩ : ∃ j : Nat, l = 30 - j := ⟨(30 - l).toNat, by omega⟩
  subst hj
  unfold cid
  rw [show (60 - 2 * (30 - (j : Int))).toNat = 2 * j by omega]
  obtain ⟨a, ha⟩ := odd_low p (2 * j) (by omega)
  refine ⟨_, ha, low_ne _ _, ?_⟩
  rw [low_at]
  have := tests_of j (by omega)
  rwa [show (30 - (j : Int) - 15) = 15 - j by omega]
theorem level_high {p l : Int} (h0 : 0 ≤ l) (h1 : l < 15) : Builtin.bitAnd (cid p l) 4294967295 = 0 ∧ ∃ X : Int, Builtin.bitAnd ((cid p l).fdiv (2 ^ Int.toNat 32)) 4294967295 = X ∧ Tests (Builtin.bitAnd X (-X)) (l + 1) := by
  obtain ⟨j, hj⟩ : ∃ j : Nat, l = 14 - j := ⟨(14 - l).toNat, by omega⟩
  subst hj
  unfold cid
  rw [show (60 - 2 * (14 - (j : Int))).toNat = 2 * j + 32 by omega, pw_add, ← Int.mul_assoc, show Int.toNat 32 = 32 from rfl, kbt_q1]
  refine ⟨by rw [mask32, Int.mul_emod_left], ?_⟩
  obtain ⟨a, ha⟩ := odd_low p (2 * j) (by omega)
  refine ⟨_, ha, ?_⟩
  rw [low_at]
  have := tests_of j (by omega)
  rwa [show (14 - (j : Int) + 1) = 15 - j by omega]
theorem leaf_cid {p l : Int} (h0 : 0 ≤ l) (h1 : l ≤ 30) : Builtin.bitAnd (cid p l) 1 = if l = 30 then 1 else 0 := by
  rw [bitAnd_m1]
  unfold cid
  split
  · subst l; rw [show (60 - 2 * (30 : Int)).toNat = 0 by decide, Int.pow_zero]; omega
  · rw [show (60 - 2 * l).toNat = (59 - 2 * l).toNat + 1 by omega, Int.pow_succ, ← Int.mul_assoc]; omega
theorem valid_bits {k : Nat} (h : k ≤ 30) : Builtin.bitAnd ((2 : Int) ^ (2 * k)) 1537228672809129301 ≠ 0 := by
  have key : ∀ j : Fin 31, Builtin.bitAnd ((2 : Int) ^ (2 * j.1)) 1537228672809129301 ≠ 0 := by decide +kernel
  exact key ⟨k, by omega⟩
theorem valid_cid {p l : Int} (h0 : 0 ≤ l) (h1 : l ≤ 30) : Builtin.bitAnd (Builtin.bitAnd (cid p l) (-cid p l)) 1537228672809129301 ≠ 0 := by
  rw [lsb_cid, show (60 - 2 * l).toNat = 2 * (30 - l).toNat by omega]
  exact valid_bits (by omega)

theorem cid_div {p l : Int} (h0 : 0 ≤ l) (h1 : l ≤ 30) : (cid p l).fdiv (2 ^ (2 * (30 - l) + 1).toNat) = p := by
  unfold cid
  rw [show (2 * (30 - l) + 1).toNat = (60 - 2 * l).toNat + 1 by omega, Int.pow_succ, Int.fdiv_eq_ediv_of_nonneg _ (Int.le_of_lt (by have := pw (60 - 2 * l).toNat; omega)),
    Int.mul_comm (2 * p + 1), Int.mul_ediv_mul_of_pos _ _ (pw _)]
  omega
theorem split60 {l : Int} (h0 : 0 ≤ l) (h1 : l ≤ 30) : (2 : Int) ^ (2 * l).toNat * 2 ^ (60 - 2 * l).toNat = 2 ^ 60 := by
  rw [← pw_add]; congr 1; omega
theorem lsb_le {l : Int} (h0 : 0 ≤ l) : (2 : Int) ^ (60 - 2 * l).toNat ≤ 2 ^ 60 := by
  have h : (2 : Nat) ^ (60 - 2 * l).toNat ≤ 2 ^ 60 := Nat.pow_le_pow_right (by decide) (by omega)
  rw [← kbt_cast]
  exact Int.ofNat_le.mpr h
theorem tot_le {l : Int} (h1 : l ≤ 30) : (2 : Int) ^ (2 * l).toNat ≤ 2 ^ 60 := by
  have h : (2 : Nat) ^ (2 * l).toNat ≤ 2 ^ 60 := Nat.pow_le_pow_right (by decide) (by omega)
  rw [← kbt_cast]
  exact Int.ofNat_le.mpr h
theorem cid_nonneg {p l : Int} (hp : 0 ≤ p) : 0 ≤ cid p l := Int.mul_nonneg (by omega) (Int.le_of_lt (pw _))
theorem cid_le {p l : Int} (h0 : 0 ≤ l) (h1 : l ≤ 30) (hp : p ≤ 6 * 2 ^ (2 * l).toNat) : cid p l ≤ 13 * 2 ^ 60 := by
  unfold cid
  have e := split60 h0 h1
  have b := lsb_le h0
  have z := pw (60 - 2 * l).toNat
  have h2 : (2 * p + 1) * (2 : Int) ^ (60 - 2 * l).toNat ≤ (12 * 2 ^ (2 * l).toNat + 1) * 2 ^ (60 - 2 * l).toNat := Int.mul_le_mul_of_nonneg_right (by omega) (Int.le_of_lt z)
  rw [Int.add_mul (12 * _), Int.mul_assoc, e] at h2
  omega
theorem fmod_small {v : Int} (h0 : 0 ≤ v) (h1 : v < 18446744073709551615) : v.fmod 18446744073709551615 = v := by
  rw [Int.fmod_eq_emod_of_nonneg _ (by decide), Int.emod_eq_of_lt h0 h1]
theorem cid_fmod {p l : Int} (h0 : 0 ≤ l) (h1 : l ≤ 30) (hp0 : 0 ≤ p) (hp : p ≤ 6 * 2 ^ (2 * l).toNat) : (cid p l).fmod 18446744073709551615 = cid p l :=
  fmod_small (cid_nonneg hp0) (by have := cid_le h0 h1 hp; omega)
theorem face_cid {p l : Int} (h0 : 0 ≤ l) (h1 : l ≤ 30) : (cid p l).fdiv (2 ^ Int.toNat 61) = p.fdiv (2 ^ (2 * l).toNat) := by
  unfold cid
  rw [show Int.toNat 61 = (60 - 2 * l).toNat + (1 + (2 * l).toNat) by omega, pw_add (60 - 2 * l).toNat, Int.fdiv_eq_ediv_of_nonneg _ (Int.le_of_lt (Int.mul_pos (pw _) (pw _))),
    Int.mul_comm (2 * p + 1), Int.mul_ediv_mul_of_pos _ _ (pw _), pw_add, Int.pow_one, ← Int.ediv_ediv_of_nonneg (by decide), Int.fdiv_eq_ediv_of_nonneg _ (Int.le_of_lt (pw _))]
  congr 1
  omega
theorem face_lt {p l : Int} (h0 : 0 ≤ l) (h1 : l ≤ 30) (hp : p < 6 * 2 ^ (2 * l).toNat) : (cid p l).fdiv (2 ^ Int.toNat 61) < 6 := by
  rw [face_cid h0 h1, Int.fdiv_eq_ediv_of_nonneg _ (Int.le_of_lt (pw _))]
  exact Int.ediv_lt_of_lt_mul (pw _) hp
theorem lfl_eq (l : Int) : 1 * (2 : Int) ^ (2 * (30 - l)).toNat = 2 ^ (60 - 2 * l).toNat := by
  rw [Int.one_mul]; congr 2; omega
theorem and_neg_pow (x : Int) (k : Nat) : Builtin.bitAnd x (-(2 ^ k)) = x / 2 ^ k * 2 ^ k := by
  have e : -(2 : Int) ^ k = Builtin.bitNot (2 ^ k - 1) := by unfold Builtin.bitNot; omega
  rw [e, bitAnd_not, kbt_mask]
  have := Int.mul_ediv_add_emod x (2 ^ k)
  rw [Int.mul_comm] at this
  omega
theorem or_pow (a : Int) (k : Nat) : Builtin.bitOr (a * 2 ^ k) (2 ^ k) = (2 * (a / 2) + 1) * 2 ^ k := by
  rw [bitOr_and, kbt_bit, Int.mul_ediv_cancel _ (Int.ne_of_gt (pw k))]
  have h : a = 2 * (a / 2) + a % 2 := by omega
  have h2 : a * 2 ^ k = 2 * (a / 2) * 2 ^ k + a % 2 * 2 ^ k := by rw [← Int.add_mul, ← h]
  rw [Int.add_mul, Int.one_mul, h2]; omega
theorem parent_cid {p l q : Int} (h0 : 0 ≤ q) (h1 : q ≤ l) (h2 : l ≤ 30) :
    Builtin.bitOr (Builtin.bitAnd (cid p l) (-(2 ^ (60 - 2 * q).toNat))) (2 ^ (60 - 2 * q).toNat) = cid (p / 2 ^ (2 * (l - q)).toNat) q := by
  rw [and_neg_pow, or_pow]
  unfold cid
  congr 3
  rw [show (60 - 2 * q).toNat = (60 - 2 * l).toNat + (2 * (l - q)).toNat by omega, pw_add, Int.mul_comm (2 * p + 1), Int.mul_ediv_mul_of_pos _ _ (pw _),
    Int.ediv_ediv_of_nonneg (Int.le_of_lt (pw _)), Int.mul_comm _ 2, ← Int.ediv_ediv_of_nonneg (by decide)]
  congr 1
  omega
theorem begin_cid {p l q : Int} (h0 : 0 ≤ l) (h1 : l ≤ q) (h2 : q ≤ 30) : cid p l - 2 ^ (60 - 2 * l).toNat + 2 ^ (60 - 2 * q).toNat = cid (p * 2 ^ (2 * (q - l)).toNat) q := by
  unfold cid
  have e : (2 : Int) ^ (60 - 2 * l).toNat = 2 ^ (2 * (q - l)).toNat * 2 ^ (60 - 2 * q).toNat := by rw [← pw_add]; congr 1; omega
  rw [e]
  generalize (2 : Int) ^ (2 * (q - l)).toNat = u
  generalize (2 : Int) ^ (60 - 2 * q).toNat = v
  rw [Int.add_mul, Int.one_mul, Int.add_mul, Int.one_mul, ← Int.mul_assoc, ← Int.mul_assoc]
  omega
theorem end_cid {p l q : Int} (h0 : 0 ≤ l) (h1 : l ≤ q) (h2 : q ≤ 30) : cid p l + 2 ^ (60 - 2 * l).toNat + 2 ^ (60 - 2 * q).toNat = cid ((p + 1) * 2 ^ (2 * (q - l)).toNat) q := by
  unfold cid
  have e : (2 : Int) ^ (60 - 2 * l).toNat = 2 ^ (2 * (q - l)).toNat * 2 ^ (60 - 2 * q).toNat := by rw [← pw_add]; congr 1; omega
  rw [e]
  generalize (2 : Int) ^ (2 * (q - l)).toNat = u
  generalize (2 : Int) ^ (60 - 2 * q).toNat = v
  simp only [Int.add_mul, Int.mul_add, Int.one_mul, Int.mul_one, Int.mul_assoc]
  omega
theorem move_cid (p l k : Int) (h1 : l ≤ 30) : cid p l + k * 2 ^ (2 * (30 - l) + 1).toNat = cid (p + k) l := by
  unfold cid
  rw [show (2 * (30 - l) + 1).toNat = (60 - 2 * l).toNat + 1 by omega, Int.pow_succ]
  generalize (2 : Int) ^ (60 - 2 * l).toNat = v
  simp only [Int.add_mul, Int.mul_add, Int.one_mul, Int.mul_one, Int.mul_assoc, Int.mul_comm v 2, Int.mul_left_comm k 2]
  omega
theorem prev_cid (p l : Int) : cid p l - 2 ^ (60 - 2 * l).toNat * 2 ^ Int.toNat 1 = cid (p - 1) l := by
  unfold cid
  rw [show (2 : Int) ^ Int.toNat 1 = 2 from rfl]
  generalize (2 : Int) ^ (60 - 2 * l).toNat = v
  simp only [Int.add_mul, Int.sub_mul, Int.mul_add, Int.mul_sub, Int.one_mul, Int.mul_one, Int.mul_assoc, Int.mul_comm v 2]
  omega
theorem next_cid (p l : Int) : cid p l + 2 ^ (60 - 2 * l).toNat * 2 ^ Int.toNat 1 = cid (p + 1) l := by
  unfold cid
  rw [show (2 : Int) ^ Int.toNat 1 = 2 from rfl]
  generalize (2 : Int) ^ (60 - 2 * l).toNat = v
  simp only [Int.add_mul, Int.mul_add, Int.one_mul, Int.mul_one, Int.mul_assoc, Int.mul_comm v 2]
  omega
theorem wrap_eq {l : Int} (h0 : 0 ≤ l) (h1 : l ≤ 30) : (13835058055282163712 : Int) = 6 * 2 ^ (2 * l).toNat * 2 ^ (2 * (30 - l) + 1).toNat := by
  rw [Int.mul_assoc, ← pw_add, show (2 * l).toNat + (2 * (30 - l) + 1).toNat = 61 by omega]
  decide
theorem max_adv {p l : Int} (h0 : 0 ≤ l) (h1 : l ≤ 30) : (13835058055282163712 + 2 ^ (60 - 2 * l).toNat - cid p l).fdiv (2 ^ (2 * (30 - l) + 1).toNat) = 6 * 2 ^ (2 * l).toNat - p := by
  have e := move_cid 0 l p h1
  unfold cid at e
  rw [Int.zero_add, Int.mul_zero, Int.zero_add, Int.one_mul] at e
  have e2 : (13835058055282163712 + 2 ^ (60 - 2 * l).toNat - cid p l) = (6 * 2 ^ (2 * l).toNat - p) * 2 ^ (2 * (30 - l) + 1).toNat := by
    rw [Int.sub_mul, ← wrap_eq h0 h1]; unfold cid; omega
  rw [e2, kbt_q1]
theorem max_wrap {p l : Int} (h0 : 0 ≤ l) (h1 : l ≤ 30) : (13835058055282163712 - cid p l).fdiv (2 ^ (2 * (30 - l) + 1).toNat) = 6 * 2 ^ (2 * l).toNat - p - 1 := by
  have e := move_cid (-1) l (p + 1) h1
  have e2 : (13835058055282163712 - cid p l) = -(cid (-1) l) + (6 * 2 ^ (2 * l).toNat - (p + 1)) * 2 ^ (2 * (30 - l) + 1).toNat := by
    rw [Int.sub_mul, ← wrap_eq h0 h1]
    rw [show -1 + (p + 1) = p by omega] at e
    omega
  have e3 : -(cid (-1) l) = 2 ^ (60 - 2 * l).toNat := by unfold cid; omega
  rw [e2, kbt_qR, e3, show (2 * (30 - l) + 1).toNat = (60 - 2 * l).toNat + 1 by omega, Int.pow_succ]
  have z := pw (60 - 2 * l).toNat
  rw [Int.fdiv_eq_ediv_of_nonneg _ (by omega), Int.ediv_eq_zero_of_lt (by omega) (by omega)]
  omega
theorem wrap_div {l : Int} (h0 : 0 ≤ l) (h1 : l ≤ 30) : (13835058055282163712 : Int).fdiv (2 ^ (2 * (30 - l) + 1).toNat) = 6 * 2 ^ (2 * l).toNat := by
  rw [wrap_eq h0 h1, kbt_q1]
theorem fmod_is {x t r q : Int} (h : x = q * t + r) (h0 : 0 ≤ r) (h1 : r < t) : x.fmod t = r := by
  rw [Int.fmod_eq_emod_of_nonneg _ (by omega), h, Int.add_comm, Int.add_mul_emod_self_right, Int.emod_eq_of_lt h0 h1]
theorem fmod_parts (x : Int) {t : Int} (ht : 0 < t) : ∃ q, x = q * t + x.fmod t ∧ 0 ≤ x.fmod t ∧ x.fmod t < t := by
  rw [Int.fmod_eq_emod_of_nonneg _ (by omega)]
  refine ⟨x / t, ?_, Int.emod_nonneg _ (by omega), Int.emod_lt_of_pos _ ht⟩
  have := Int.mul_ediv_add_emod x t
  rw [Int.mul_comm] at this
  omega
theorem wrap_up {p s t r : Int} (ht : 0 < t) (hr : s.fmod t = r) (h0 : 0 ≤ p + r) (h1 : p + r < t) : (p + s).fmod t = p + r := by
  obtain ⟨q, e, _, _⟩ := fmod_parts s ht
  exact fmod_is (q := q) (by omega) h0 h1
theorem wrap_up2 {p s t r : Int} (ht : 0 < t) (hr : s.fmod t = r) (h0 : 0 ≤ p + r - t) (h1 : p + r - t < t) : (p + s).fmod t = p + r - t := by
  obtain ⟨q, e, _, _⟩ := fmod_parts s ht
  exact fmod_is (q := q + 1) (by rw [Int.add_mul]; omega) h0 h1
theorem wrap_dn {p s t r : Int} (ht : 0 < t) (hr : (-s).fmod t = r) (h0 : 0 ≤ p - r) (h1 : p - r < t) : (p + s).fmod t = p - r := by
  obtain ⟨q, e, _, _⟩ := fmod_parts (-s) ht
  exact fmod_is (q := -q) (by rw [Int.neg_mul]; omega) h0 h1
theorem wrap_dn2 {p s t r : Int} (ht : 0 < t) (hr : (-s).fmod t = r) (h0 : 0 ≤ p - r + t) (h1 : p - r + t < t) : (p + s).fmod t = p - r + t := by
  obtain ⟨q, e, _, _⟩ := fmod_parts (-s) ht
  exact fmod_is (q := -q - 1) (by rw [Int.sub_mul, Int.neg_mul]; omega) h0 h1
theorem wrap_in {p s t : Int} (h0 : 0 ≤ p + s) (h1 : p + s < t) : (p + s).fmod t = p + s := fmod_is (q := 0) (by omega) h0 h1
/-- prev() of the first cell: its id below nought, taken by __init__ -/
theorem prev_first {l : Int} (h0 : 0 ≤ l) (h1 : l ≤ 30) : (cid (-1) l).fmod 18446744073709551615 = 18446744073709551615 - 2 ^ (60 - 2 * l).toNat := by
  have z := pw (60 - 2 * l).toNat
  have b := lsb_le h0
  have e3 : (cid (-1) l) = -2 ^ (60 - 2 * l).toNat := by unfold cid; omega
  rw [e3]
  exact fmod_is (q := -1) (by omega) (by omega) (by omega)

theorem end_at {l : Int} (h0 : 0 ≤ l) (h1 : l ≤ 30) : cid (6 * 2 ^ (2 * l).toNat) l = 13835058055282163712 + 2 ^ (60 - 2 * l).toNat := by
  have e := move_cid 0 l (6 * 2 ^ (2 * l).toNat) h1
  rw [Int.zero_add, ← wrap_eq h0 h1] at e
  rw [← e]
  unfold cid
  omega
theorem last_cid {l : Int} (h0 : 0 ≤ l) (h1 : l ≤ 30) : cid (6 * 2 ^ (2 * l).toNat - 1) l = 13835058055282163712 - 2 ^ (60 - 2 * l).toNat := by
  rw [← prev_cid, end_at h0 h1, show (2 : Int) ^ Int.toNat 1 = 2 from rfl]
  omega
theorem cid_mono {p q l : Int} (h : p ≤ q) : cid p l ≤ cid q l := Int.mul_le_mul_of_nonneg_right (by omega) (Int.le_of_lt (pw _))
theorem cid_lt {p l : Int} (h0 : 0 ≤ l) (h1 : l ≤ 30) (hp : p < 6 * 2 ^ (2 * l).toNat) : cid p l < 13835058055282163712 := by
  have a := cid_mono (l := l) (show p ≤ 6 * 2 ^ (2 * l).toNat - 1 by omega)
  have b := last_cid h0 h1
  have c := pw (60 - 2 * l).toNat
  omega

def TurnPost (h₀ : Heap) (L : Addr) (s : Shared) (news : List (Addr × Obj)) (J : (Str → Option Value) → List (Addr × Obj) → Prop) (Q : Flow → Shared → Prop) (f : Flow) (s₂ : Shared) : Prop :=
  match f with
  | .ret v => Q (.ret v) s₂
  | .brk => Q .next s₂
  | _ => ∃ h' tk' m' news', s₂ = { s with heap := h', toks := tk' } ∧ Fr h₀ L h' m' ∧ News h₀ L h' news' ∧ (∀ p ∈ news, p ∈ news') ∧ J m' news'
section
variable {prog : Program} {w : World} {A : Around} {E : Value → Shared → Prop} {s : Shared} {env : Env} {h₀ : Heap} {x : Str} {body : List Stmt} {Q : Flow → Shared → Prop}
theorem rest_inv {I : Addr} {a : Int} {n : Nat} (J : (Str → Option Value) → List (Addr × Obj) → Prop)
    (mono : ∀ m news news', J m news → (∀ p ∈ news, p.2.cls ≠ .type "range_iterator" → p ∈ news') → J m news')
    (turn : ∀ (k : Nat) (t : Tok) (m₁ : Str → Option Value) (news₁ : List (Addr × Obj)) (h : Heap) (tk : Nat), k < n → J m₁ news₁ → Fr h₀ env.locals h (fun y => if y = x then some (.int (a + (k : Int)) t) else m₁ y) → News h₀ env.locals h news₁ →
      wpAny (model prog w) A (execs body env) (TurnPost h₀ env.locals { s with heap := h, toks := tk } news₁ J Q) E { s with heap := h, toks := tk })
    (done : ∀ m₁ news₁ h tk, J m₁ news₁ → Fr h₀ env.locals h m₁ → News h₀ env.locals h news₁ → Q .next { s with heap := h, toks := tk }) :
    ∀ (k i : Nat) (m : Str → Option Value) (news : List (Addr × Obj)), i + k = n → J m news → RangeRest prog w A E h₀ env x body Q s I a n k i m news := by
  intro k
  induction k with
  | zero => intro i m news _ hJ; exact RangeRest.zero fun h tk F N => done m news h tk hJ F N
  | succ k ih =>
    intro i m news hi hJ
    refine RangeRest.succ fun t h tk F N => ?_
    have hJ1 := mono _ _ ((I, itR (a + ((i + 1 : Nat) : Int)) ((n : Int) - ((i + 1 : Nat) : Int))) :: news) hJ (fun p hp _ => List.mem_cons_of_mem _ hp)
    refine wpAny_mono (turn i t m _ h tk (by omega) hJ1 F N) (fun f s₂ p => ?_) fun _ _ e => e
    have fin : (∃ h' tk' m' news', s₂ = { s with heap := h', toks := tk' } ∧ Fr h₀ env.locals h' m' ∧ News h₀ env.locals h' news' ∧ (∀ p ∈ ((I, itR (a + ((i + 1 : Nat) : Int)) ((n : Int) - ((i + 1 : Nat) : Int))) :: news), p ∈ news') ∧ J m' news') →
        UnrEnd h₀ env.locals { s with heap := h, toks := tk } I (itR (a + ((i + 1 : Nat) : Int)) ((n : Int) - ((i + 1 : Nat) : Int))) (RangeRest prog w A E h₀ env x body Q s I a n k (i + 1)) s₂ := by
      rintro ⟨h', tk', m', news', rfl, F', N', hsub, hJ'⟩
      have hI := N' _ (hsub _ (List.Mem.head _))
      refine ⟨h', tk', m', news'.filter (fun p => decide (p.1 ≠ I)), rfl, F', ?_, ?_, ?_⟩
      · intro p hp
        rcases List.mem_cons.mp hp with rfl | hp
        · exact hI
        · exact N' p (List.mem_filter.mp hp).1
      · intro p hp
        exact of_decide_eq_true (List.mem_filter.mp hp).2
      · refine ih (i + 1) m' _ (by omega) (mono _ _ _ hJ' fun p hp hc => List.mem_filter.mpr ⟨hp, decide_eq_true fun e => ?_⟩)
        have h1 := (N' p hp).1
        rw [e, hI.1] at h1
        exact hc (congrArg Obj.cls (Option.some.inj h1).symm)
    cases f with
    | ret v => exact p
    | brk => exact p
    | next => exact fin p
    | cont => exact fin p
theorem loop_range {r : Addr} {a₀ b₀ : Int} {t₀ u₀ v₀ : Tok} {n : Nat} {m₀ : Str → Option Value} {news : List (Addr × Obj)} (J : (Str → Option Value) → List (Addr × Obj) → Prop)
    (hh : A.handled = none) (hr : IsRange s.heap r a₀ b₀ 1 t₀ u₀ v₀) (hsmall : Builtin.Range.small a₀ b₀ 1 = true) (hn : Builtin.Range.rangeSize a₀ b₀ 1 = (n : Int)) (F : Fr h₀ env.locals s.heap m₀) (N : News h₀ env.locals s.heap news)
    (mono : ∀ m news news', J m news → (∀ p ∈ news, p.2.cls ≠ .type "range_iterator" → p ∈ news') → J m news')
    (start : J m₀ news)
    (turn : ∀ (k : Nat) (t : Tok) (m₁ : Str → Option Value) (news₁ : List (Addr × Obj)) (h : Heap) (tk : Nat), k < n → J m₁ news₁ → Fr h₀ env.locals h (fun y => if y = x then some (.int (a₀ + (k : Int)) t) else m₁ y) → News h₀ env.locals h news₁ →
      wpAny (model prog w) A (execs body env) (TurnPost h₀ env.locals { s with heap := h, toks := tk } news₁ J Q) E { s with heap := h, toks := tk })
    (done : ∀ m₁ news₁ h tk, J m₁ news₁ → Fr h₀ env.locals h m₁ → News h₀ env.locals h news₁ → Q .next { s with heap := h, toks := tk }) :
    wpAny (model prog w) A (pyIter (.ref r)) (fun it s₂ => LoopAtV prog w A h₀ env x body Q E it s₂) E s :=
  iter_rangeUnr hh hr hsmall hn F N fun I _ => rest_inv J mono turn done n 0 m₀ news (by omega) start
end
theorem all_ne_lt {d : Addr} {news : List (Addr × Obj)} (h : ∀ p ∈ news, p.1 < d) : ∀ p ∈ news, p.1 ≠ d := fun p hp => Nat.ne_of_lt (h p hp)
theorem all_ne_lt2 {d x : Addr} {news : List (Addr × Obj)} (h : ∀ p ∈ news, p.1 < d) (h2 : @LT.lt Nat _ d x) : ∀ p ∈ news, p.1 ≠ x := fun p hp => Nat.ne_of_lt (Nat.lt_trans (h p hp) h2)
local macro_rules | `(tactic| k_all) => `(tactic| first | exact all_ne_lt (by assumption) | exact all_ne_lt2 (by assumption) (by assumption))
local macro_rules | `(tactic| walk_at "MEM") => `(tactic| first | exact List.Mem.head _ | assumption | (refine' List.mem_cons_of_mem _ ?_; walk_at "MEM"))
local macro_rules | `(tactic| k_mem) => `(tactic| walk_at "MEM")
local macro_rules | `(tactic| walk_at "ENTER") => `(tactic| (refine' code_def ?k1 ?k2 ?k3 ?k4 ?k5 ?kA ?kF ?kK ?k6 ?k7 ?k8 ?k9 ?kB ?_ ?c2 ?c3 ?c4 ?c5; (case kA => exact rfl); (case kF => exact rfl); (case kK => first | exact rfl | assumption); (case k1 => k_asm); (case k2 => k_asm); (case k3 => k_asm); (case k4 => k_asm); (case k5 => k_asm); (case k6 => k_is); (case k7 => k_is); (case k8 => ktr_room); (case k9 => first | exact BindsTo.of_eq rfl | exact binds_K (by k_in) rfl (by k_is) rfl rfl rfl | fail "ENTER: no rule for these arguments"); (case c5 => decide); (case kB => exact locs rfl); (case c2 => exact rfl); (case c3 => exact rfl); (case c4 => exact rfl); k_whole; intro g' L' h' FG' F' N' B' X' T'; (try dsimp only); (try k_lift B'); (try k_fold)))
theorem meth_class {prog : Program} {w : World} {A : Around} {E : Value → Shared → Prop} {s : Shared} {K : Frag} {x C : Addr} {ox : Obj} {od : Option Obj} {L : Addr} {h₀ : Heap} {m : Str → Option Value} {pl : Sem Bool} {Q : Value × List Value → Shared → Prop}
    (F : Fr h₀ L s.heap m) (X₀ : K.In h₀) (I : InstAt s.heap x ox C od) (hg : plainGet K C "__class__" = true)
    (hf : findIn K (.ref C) "__class__" = some (some (.builtin "object.__class__")))
    (h : wpAny (model prog w) A (getAttr (.ref x) "__class__") (fun v => Q (v, [])) E s) : wpAny (model prog w) A (getMethod (.ref x) "__class__" pl) Q E s := by
  have hcan := PySem.F.canon_object_ga
  have X : K.In s.heap := X₀.keeps F.keep
  obtain ⟨hga, hk⟩ := plainGet_of hg
  have ht : typeOf (.builtin "object.__class__") = pure (.type "getset_descriptor") := by with_unfolding_all rfl
  unfold getMethod specialOf
  refine wpAny_bind (wpAny_bind (I.type.here ((looks_findIn X hga).here ?_)))
  dsimp only
  rw [hcan, if_neg (by decide)]
  refine wpAny_bind (wpAny_bind (I.type.here ((looks_findIn X hk).here ?_)))
  refine wpAny_bind (wpAny_bind (I.type.here ((looks_findIn X hf).here ?_)))
  dsimp only
  rw [ht]
  refine wpAny_bind (wpAny_pure ?_)
  rw [if_pos (by decide +kernel)]
  exact wpAny_bind (wpAny_mono h (fun _ _ z => wpAny_pure z) fun _ _ z => z)
local macro_rules | `(tactic| walk_at "getMethod ref") => `(tactic| (k_here; (with_reducible show wpAny _ _ (getMethod (Value.ref _) (PySem.Str.ofString "__class__") _) _ _ _); k_dflt (refine' meth_class ?k1 ?k2 ?k3 ?k4 ?k5 ?_; (case k1 => k_asm); (case k2 => k_asm); (case k3 => k_inst); (case k4 => k_is); (case k5 => k_is); k_whole)))
local macro_rules | `(tactic| walk_at "ENTER*") => `(tactic| (refine' kp_rest ?k1 ?k2 ?k3 ?k4 ?k5 ?kA ?kF ?kK ?k6 ?k7 ?k8 ?kV ?kP ?kG ?kB ?_ ?c2 ?c3 ?c4 ?c5; (case kA => exact rfl); (case kF => exact rfl); (case kK => first | exact rfl | assumption); (case k1 => k_asm); (case k2 => k_asm); (case k3 => k_asm); (case k4 => k_asm); (case k5 => k_asm); (case k6 => k_is); (case k7 => k_is); (case k8 => ktr_room); (case kV => kl_lit); (case kP => exact rfl); (case kG => exact fun _ => rfl); (case kB => exact fun _ => locs rfl); (case c5 => decide); (case c2 => exact rfl); (case c3 => exact rfl); (case c4 => exact rfl); k_whole; intro D' g' L' h' l1 FG' F' N' B' X' T'; (try k_lt l1); (try dsimp only); (try k_lift B'); (try k_fold)))
theorem fill4 (P : Params) (h : PySem.Challenge.rw_lp0002_04.Holds) : K4 P = K4 P ∧ PySem.Challenge.rw_lp0002_04.Holds := by
  k_fill
  exact ⟨rfl, h⟩
abbrev cellI (d : Addr) : Obj := instObj 425 d
abbrev cellD (w : World) (n : Int) (t tk : Tok) : Obj := dictOf [⟨PyData.keyHash w.params (Str.ofString "_CellId__id"), .str (Str.ofString "_CellId__id") tk, .int n t⟩] 1
abbrev PR : Program := Challenge.rw_lp0002_04.row.prog
theorem cb_retR {R : Result → Shared → Prop} {h₀ h' : Heap} {L : Addr} {m : Str → Option Value} {news : List (Addr × Obj)} {s : Shared} {x y : Int} {t : Tok} {tk' : Nat} (hret : ∀ (t : Tok) (h' : Heap) (tk' : Nat), Fr h₀ L h' m → News h₀ L h' news → R (.ok (.ret (.int x t))) { s with heap := h', toks := tk' }) (e : y = x) (F : Fr h₀ L h' m) (N : News h₀ L h' news) : R (.ok (.ret (.int y t))) { s with heap := h', toks := tk' } := by
  subst e
  exact hret t h' tk' F N
theorem drop_to {h₀ h : Heap} {L : Addr} {news news' : List (Addr × Obj)} (N : News h₀ L h news') (hs : ∀ p ∈ news, p ∈ news') : News h₀ L h news := fun p hp => N p (hs p hp)
theorem cell_drop {h₀ h : Heap} {L : Addr} {news rest : List (Addr × Obj)} {y e : Addr} {o : Obj} (N : News h₀ L h ((y, cellI e) :: (e, o) :: rest)) (hs : ∀ p ∈ news, p ∈ rest) : News h₀ L h ((y, cellI e) :: (e, o) :: news) := by
  intro p hp
  refine N p ?_
  simp only [List.mem_cons] at hp ⊢
  rcases hp with hp | hp | hp
  · exact .inl hp
  · exact .inr (.inl hp)
  · exact .inr (.inr (hs p hp))
theorem self_back {h₀ h : Heap} {L : Addr} {news : List (Addr × Obj)} {a b : Addr × Obj} (N : News h₀ L h news) (ha : a ∈ news) (hb : b ∈ news) : News h₀ L h (a :: b :: news) := by
  intro p hp
  simp only [List.mem_cons] at hp
  rcases hp with hp | hp | hp
  · rw [hp]; exact N a ha
  · rw [hp]; exact N b hb
  · exact N p hp
theorem cell_end {w : World} {h₀ h : Heap} {L : Addr} {news : List (Addr × Obj)} {y e : Addr} {q q' l : Int} {t tk : Tok} (N : News h₀ L h ((y, cellI e) :: (e, cellD w (cid q l) t tk) :: news)) (hq9 : q = q') : News h₀ L h ((y, cellI e) :: (e, cellD w (cid q' l) t tk) :: news) := hq9 ▸ N
/-- the number that the law reads at a place of the script -/
@[irreducible] def num (ns : List Int) (i : Int) : Int := if i < ns.length then ns.getD i.toNat 0 else 40503 * i * i + 9973 * ns.length + 5
section
variable {w : World} {dp un : Nat} {gd : Option (List Code)} {cn : Str} {cs : Scope} {a : Addr} {ccd : Value} {cl : List (Str × Addr)} {outer : List Env} {A₀ : Around} {base h₀ : Heap} {L : Addr} {m : Str → Option Value} {news : List (Addr × Obj)} {s : Shared}
    {mg mb : Str → Option Value} {loose : List Str} {mean : ExcName → Option Value} {Q E : Value → Shared → Prop} {R : Result → Shared → Prop}
theorem mkC {v n : Int} {t : Tok} (B : Below A₀ base outer h₀) (F : Fr h₀ L s.heap m) (X : (K4 w.params).In h₀) (N : News h₀ L s.heap news) (T : Top V4 loose mean mg mb h₀) (hk : cs.kind = .function)
    (hn : v.fmod 18446744073709551615 = n) (hd : dp + 2 < recursionLimit) (hu : un + 16 < cLine)
    (ret : ∀ (y e : Addr) (t tk : Tok) (h' : Heap) (tk' : Nat), Fr h₀ L h' m → News h₀ L h' ((y, cellI e) :: (e, cellD w (n) t tk) :: news) → (∀ p ∈ news, p.1 < e) → @LT.lt Nat _ e y → Q (.ref y) { s with heap := h', toks := tk' }) :
    wpAny (model PR w) (ktrTop dp un gd cn cs L a ccd cl outer) (call (.ref 425) [.int v t]) Q E s := by
  refine' call_cls ?k1 ?k2 ?k3 ?k4 ?k5 ?k6 ?_
  case k1 => k_asm
  case k2 => k_asm
  case k3 => k_asm
  case k4 => k_is
  case k5 => k_is
  case k6 => k_is
  intro x d h' F' N' l1 l2
  replace l2 := ltN l2
  w_top off
  k_dflt (walk_at "ENTER")
  k_steps
  subst hn
  exact ret _ _ _ _ _ _ (by k_asm) (by k_asm) l1 l2
local macro_rules | `(tactic| walk_at "call ref") => `(tactic| ((with_reducible show wpAny _ _ (call (Value.ref 425) _) _ _ _); k_here; k_dflt (refine' mkC ?k1 ?k2 ?k3 ?k4 ?k5 ?kK ?s0 ?kd ?ku ?_; (case k1 => k_asm); (case k2 => k_asm); (case k3 => k_asm); (case k4 => k_asm); (case k5 => k_asm); (case kK => first | exact rfl | assumption); (case s0 => first | assumption | exact rfl); (case kd => ktr_room); (case ku => ktr_units); k_whole; intro y9 e9 t9 tk9 h9 tt9 F9 N9 l1 l2; (try dsimp only); (try k_fold))))
theorem idC0 {x d : Addr} {n : Int} {t tk : Tok} (B : Below A₀ base outer h₀) (F : Fr h₀ L s.heap m) (X : (K4 w.params).In h₀) (N : News h₀ L s.heap news) (T : Top V4 loose mean mg mb h₀) (hk : cs.kind = .function)
    (hx : (x, cellI d) ∈ news) (hdx : (d, cellD w n t tk) ∈ news) (hd : dp + 1 < recursionLimit) (hu : un + 8 < cLine)
    (ret : ∀ (t : Tok) (h' : Heap) (tk' : Nat), Fr h₀ L h' m → News h₀ L h' news → R (.ok (.ret (.int n t))) { s with heap := h', toks := tk' }) :
    codeAny (model PR w) (ktrTop dp un gd cn cs L a ccd cl outer) (.call (.ref 194) ⟨[.ref x], []⟩) R s := by
  w_top off
  k_dflt (walk_at "ENTER")
  k_steps
  exact ret _ _ _ (by k_asm) (by k_asm)
theorem idC {x d : Addr} {n : Int} {t tk : Tok} (B : Below A₀ base outer h₀) (F : Fr h₀ L s.heap m) (X : (K4 w.params).In h₀) (N : News h₀ L s.heap news) (T : Top V4 loose mean mg mb h₀) (hk : cs.kind = .function)
    (hx : (x, cellI d) ∈ news) (hdx : (d, cellD w n t tk) ∈ news) (hd : dp + 1 < recursionLimit) (hu : un + 8 < cLine)
    (ret : ∀ (t : Tok) (h' : Heap) (tk' : Nat), Fr h₀ L h' m → News h₀ L h' news → Q (.int n t) { s with heap := h', toks := tk' }) :
    wpAny (model PR w) (ktrTop dp un gd cn cs L a ccd cl outer) (call (.ref 194) [.ref x]) Q E s := wpAny_call (idC0 B F X N T hk hx hdx hd hu ret)
local macro_rules | `(tactic| walk_at "call ref") => `(tactic| ((with_reducible show wpAny _ _ (call (Value.ref 194) _) _ _ _); k_here; k_dflt (refine' idC ?k1 ?k2 ?k3 ?k4 ?k5 ?kK ?s0 ?s1 ?kd ?ku ?_; (case k1 => k_asm); (case k2 => k_asm); (case k3 => k_asm); (case k4 => k_asm); (case k5 => k_asm); (case kK => first | exact rfl | assumption); (case s0 => k_mem); (case s1 => k_mem); (case kd => ktr_room); (case ku => ktr_units); k_whole; intro t9 h9 tk9 F9 N9; (try dsimp only); (try k_fold))))
theorem lsbC0 {x d : Addr} {n : Int} {t tk : Tok} (B : Below A₀ base outer h₀) (F : Fr h₀ L s.heap m) (X : (K4 w.params).In h₀) (N : News h₀ L s.heap news) (T : Top V4 loose mean mg mb h₀) (hk : cs.kind = .function)
    (hx : (x, cellI d) ∈ news) (hdx : (d, cellD w n t tk) ∈ news) (hd : dp + 2 < recursionLimit) (hu : un + 16 < cLine)
    (ret : ∀ (t : Tok) (h' : Heap) (tk' : Nat), Fr h₀ L h' m → News h₀ L h' news → R (.ok (.ret (.int (Builtin.bitAnd n (-n)) t))) { s with heap := h', toks := tk' }) :
    codeAny (model PR w) (ktrTop dp un gd cn cs L a ccd cl outer) (.call (.ref 208) ⟨[.ref x], []⟩) R s := by
  w_top off
  k_dflt (walk_at "ENTER")
  k_steps
  exact ret _ _ _ (by k_asm) (by k_asm)
theorem lsbC {x d : Addr} {n : Int} {t tk : Tok} (B : Below A₀ base outer h₀) (F : Fr h₀ L s.heap m) (X : (K4 w.params).In h₀) (N : News h₀ L s.heap news) (T : Top V4 loose mean mg mb h₀) (hk : cs.kind = .function)
    (hx : (x, cellI d) ∈ news) (hdx : (d, cellD w n t tk) ∈ news) (hd : dp + 2 < recursionLimit) (hu : un + 16 < cLine)
    (ret : ∀ (t : Tok) (h' : Heap) (tk' : Nat), Fr h₀ L h' m → News h₀ L h' news → Q (.int (Builtin.bitAnd n (-n)) t) { s with heap := h', toks := tk' }) :
    wpAny (model PR w) (ktrTop dp un gd cn cs L a ccd cl outer) (call (.ref 208) [.ref x]) Q E s := wpAny_call (lsbC0 B F X N T hk hx hdx hd hu ret)
local macro_rules | `(tactic| walk_at "call ref") => `(tactic| ((with_reducible show wpAny _ _ (call (Value.ref 208) _) _ _ _); k_here; k_dflt (refine' lsbC ?k1 ?k2 ?k3 ?k4 ?k5 ?kK ?s0 ?s1 ?kd ?ku ?_; (case k1 => k_asm); (case k2 => k_asm); (case k3 => k_asm); (case k4 => k_asm); (case k5 => k_asm); (case kK => first | exact rfl | assumption); (case s0 => k_mem); (case s1 => k_mem); (case kd => ktr_room); (case ku => ktr_units); k_whole; intro t9 h9 tk9 F9 N9; (try dsimp only); (try k_fold))))
theorem faceC0 {x d : Addr} {n : Int} {t tk : Tok} (B : Below A₀ base outer h₀) (F : Fr h₀ L s.heap m) (X : (K4 w.params).In h₀) (N : News h₀ L s.heap news) (T : Top V4 loose mean mg mb h₀) (hk : cs.kind = .function)
    (hx : (x, cellI d) ∈ news) (hdx : (d, cellD w n t tk) ∈ news) (hd : dp + 2 < recursionLimit) (hu : un + 16 < cLine)
    (ret : ∀ (t : Tok) (h' : Heap) (tk' : Nat), Fr h₀ L h' m → News h₀ L h' news → R (.ok (.ret (.int (n.fdiv (2 ^ Int.toNat 61)) t))) { s with heap := h', toks := tk' }) :
    codeAny (model PR w) (ktrTop dp un gd cn cs L a ccd cl outer) (.call (.ref 215) ⟨[.ref x], []⟩) R s := by
  w_top off
  k_dflt (walk_at "ENTER")
  k_steps
  exact ret _ _ _ (by k_asm) (by k_asm)
theorem faceC {x d : Addr} {n : Int} {t tk : Tok} (B : Below A₀ base outer h₀) (F : Fr h₀ L s.heap m) (X : (K4 w.params).In h₀) (N : News h₀ L s.heap news) (T : Top V4 loose mean mg mb h₀) (hk : cs.kind = .function)
    (hx : (x, cellI d) ∈ news) (hdx : (d, cellD w n t tk) ∈ news) (hd : dp + 2 < recursionLimit) (hu : un + 16 < cLine)
    (ret : ∀ (t : Tok) (h' : Heap) (tk' : Nat), Fr h₀ L h' m → News h₀ L h' news → Q (.int (n.fdiv (2 ^ Int.toNat 61)) t) { s with heap := h', toks := tk' }) :
    wpAny (model PR w) (ktrTop dp un gd cn cs L a ccd cl outer) (call (.ref 215) [.ref x]) Q E s := wpAny_call (faceC0 B F X N T hk hx hdx hd hu ret)
local macro_rules | `(tactic| walk_at "call ref") => `(tactic| ((with_reducible show wpAny _ _ (call (Value.ref 215) _) _ _ _); k_here; k_dflt (refine' faceC ?k1 ?k2 ?k3 ?k4 ?k5 ?kK ?s0 ?s1 ?kd ?ku ?_; (case k1 => k_asm); (case k2 => k_asm); (case k3 => k_asm); (case k4 => k_asm); (case k5 => k_asm); (case kK => first | exact rfl | assumption); (case s0 => k_mem); (case s1 => k_mem); (case kd => ktr_room); (case ku => ktr_units); k_whole; intro t9 h9 tk9 F9 N9; (try dsimp only); (try k_fold))))
theorem leafC0 {x d : Addr} {n : Int} {t tk : Tok} {b : Bool} (B : Below A₀ base outer h₀) (F : Fr h₀ L s.heap m) (X : (K4 w.params).In h₀) (N : News h₀ L s.heap news) (T : Top V4 loose mean mg mb h₀) (hk : cs.kind = .function)
    (hx : (x, cellI d) ∈ news) (hdx : (d, cellD w n t tk) ∈ news) (hb : (Builtin.bitAnd n 1 != 0) = b) (hd : dp + 2 < recursionLimit) (hu : un + 16 < cLine)
    (ret : ∀ (h' : Heap) (tk' : Nat), Fr h₀ L h' m → News h₀ L h' news → R (.ok (.ret (.bool b))) { s with heap := h', toks := tk' }) :
    codeAny (model PR w) (ktrTop dp un gd cn cs L a ccd cl outer) (.call (.ref 229) ⟨[.ref x], []⟩) R s := by
  w_top off
  k_dflt (walk_at "ENTER")
  k_steps
  rw [hb]; exact ret _ _ (by k_asm) (by k_asm)
theorem leafC {x d : Addr} {n : Int} {t tk : Tok} {b : Bool} (B : Below A₀ base outer h₀) (F : Fr h₀ L s.heap m) (X : (K4 w.params).In h₀) (N : News h₀ L s.heap news) (T : Top V4 loose mean mg mb h₀) (hk : cs.kind = .function)
    (hx : (x, cellI d) ∈ news) (hdx : (d, cellD w n t tk) ∈ news) (hb : (Builtin.bitAnd n 1 != 0) = b) (hd : dp + 2 < recursionLimit) (hu : un + 16 < cLine)
    (ret : ∀ (h' : Heap) (tk' : Nat), Fr h₀ L h' m → News h₀ L h' news → Q (.bool b) { s with heap := h', toks := tk' }) :
    wpAny (model PR w) (ktrTop dp un gd cn cs L a ccd cl outer) (call (.ref 229) [.ref x]) Q E s := wpAny_call (leafC0 B F X N T hk hx hdx hb hd hu ret)
local macro_rules | `(tactic| walk_at "call ref") => `(tactic| ((with_reducible show wpAny _ _ (call (Value.ref 229) _) _ _ _); k_here; k_dflt (refine' leafC ?k1 ?k2 ?k3 ?k4 ?k5 ?kK ?s0 ?s1 ?s2 ?kd ?ku ?_; (case k1 => k_asm); (case k2 => k_asm); (case k3 => k_asm); (case k4 => k_asm); (case k5 => k_asm); (case kK => first | exact rfl | assumption); (case s0 => k_mem); (case s1 => k_mem); (case s2 => first | assumption | exact rfl); (case kd => ktr_room); (case ku => ktr_units); k_whole; intro h9 tk9 F9 N9; (try dsimp only); (try k_fold))))
theorem validC0 {x d : Addr} {n : Int} {t tk : Tok} (B : Below A₀ base outer h₀) (F : Fr h₀ L s.heap m) (X : (K4 w.params).In h₀) (N : News h₀ L s.heap news) (T : Top V4 loose mean mg mb h₀) (hk : cs.kind = .function)
    (hx : (x, cellI d) ∈ news) (hdx : (d, cellD w n t tk) ∈ news) (hf : n.fdiv (2 ^ Int.toNat 61) < 6) (hb : Builtin.bitAnd (Builtin.bitAnd n (-n)) 1537228672809129301 ≠ 0) (hd : dp + 3 < recursionLimit) (hu : un + 24 < cLine)
    (ret : ∀ (h' : Heap) (tk' : Nat), Fr h₀ L h' m → News h₀ L h' news → R (.ok (.ret (.bool true))) { s with heap := h', toks := tk' }) :
    codeAny (model PR w) (ktrTop dp un gd cn cs L a ccd cl outer) (.call (.ref 201) ⟨[.ref x], []⟩) R s := by
  w_top off
  k_dflt (walk_at "ENTER")
  k_steps
  all_goals first
    | (exfalso; omega)
    | (rw [show (Builtin.bitAnd (Builtin.bitAnd n (-n)) 1537228672809129301 != 0) = true from bne_iff_ne.mpr hb]; exact ret _ _ (by k_asm) (by k_asm))
theorem validC {x d : Addr} {n : Int} {t tk : Tok} (B : Below A₀ base outer h₀) (F : Fr h₀ L s.heap m) (X : (K4 w.params).In h₀) (N : News h₀ L s.heap news) (T : Top V4 loose mean mg mb h₀) (hk : cs.kind = .function)
    (hx : (x, cellI d) ∈ news) (hdx : (d, cellD w n t tk) ∈ news) (hf : n.fdiv (2 ^ Int.toNat 61) < 6) (hb : Builtin.bitAnd (Builtin.bitAnd n (-n)) 1537228672809129301 ≠ 0) (hd : dp + 3 < recursionLimit) (hu : un + 24 < cLine)
    (ret : ∀ (h' : Heap) (tk' : Nat), Fr h₀ L h' m → News h₀ L h' news → Q (.bool true) { s with heap := h', toks := tk' }) :
    wpAny (model PR w) (ktrTop dp un gd cn cs L a ccd cl outer) (call (.ref 201) [.ref x]) Q E s := wpAny_call (validC0 B F X N T hk hx hdx hf hb hd hu ret)
local macro_rules | `(tactic| walk_at "call ref") => `(tactic| ((with_reducible show wpAny _ _ (call (Value.ref 201) _) _ _ _); k_here; k_dflt (refine' validC ?k1 ?k2 ?k3 ?k4 ?k5 ?kK ?s0 ?s1 ?s2 ?s3 ?kd ?ku ?_; (case k1 => k_asm); (case k2 => k_asm); (case k3 => k_asm); (case k4 => k_asm); (case k5 => k_asm); (case kK => first | exact rfl | assumption); (case s0 => k_mem); (case s1 => k_mem); (case s2 => assumption); (case s3 => assumption); (case kd => ktr_room); (case ku => ktr_units); k_whole; intro h9 tk9 F9 N9; (try dsimp only); (try k_fold))))
local macro_rules | `(tactic| walk_at "ite") => `(tactic| (k_here; k_openite; first
  | (refine ite_pos (by (simp only [bne_iff_ne, ne_eq, beq_iff_eq, decide_eq_true_eq, Bool.not_eq_true, bne_eq_false_iff_eq]); omega) ?_; walk_say "DECIDED")
  | (refine ite_neg (by (simp only [bne_iff_ne, ne_eq, beq_iff_eq, decide_eq_true_eq, Bool.not_eq_true, bne_eq_false_iff_eq]); omega) ?_; walk_say "DECIDED")))
section
local macro_rules | `(tactic| walk_at "KJoinB2") => `(tactic| (kj_on; (try ((rename _ ∨ _ => hr9); simp only [bne_eq_false_iff_eq] at hr9))))
local macro_rules | `(tactic| walk_at "exec If") => `(tactic| (k_here; kj_step))
theorem levelC0 {x d : Addr} {p l : Int} {t tk : Tok} (B : Below A₀ base outer h₀) (F : Fr h₀ L s.heap m) (X : (K4 w.params).In h₀) (N : News h₀ L s.heap news) (T : Top V4 loose mean mg mb h₀) (hk : cs.kind = .function)
    (hx : (x, cellI d) ∈ news) (hdx : (d, cellD w (cid p l) t tk) ∈ news) (h0 : 0 ≤ l) (h1 : l ≤ 30) (hd : dp + 3 < recursionLimit) (hu : un + 24 < cLine)
    (ret : ∀ (t : Tok) (h' : Heap) (tk' : Nat), Fr h₀ L h' m → News h₀ L h' news → R (.ok (.ret (.int l t))) { s with heap := h', toks := tk' }) :
    codeAny (model PR w) (ktrTop dp un gd cn cs L a ccd cl outer) (.call (.ref 236) ⟨[.ref x], []⟩) R s := by
  have hleaf := leaf_cid (p := p) h0 h1
  w_top off
  k_dflt (walk_at "ENTER")
  by_cases hl : l = 30
  · rw [if_pos hl] at hleaf
    have hb : (Builtin.bitAnd (cid p l) 1 != 0) = true := by rw [hleaf]; rfl
    subst hl
    generalize cid p 30 = n at *
    k_steps
    all_goals first
      | exact ret _ _ _ (by k_asm) (by k_asm)
      | fail "an end"
  · rw [if_neg hl] at hleaf
    have hb : (Builtin.bitAnd (cid p l) 1 != 0) = false := by rw [hleaf]; rfl
    by_cases h15 : 15 ≤ l
    · obtain ⟨X, hX, hX0, b8, b4, b2, b1, q8, q4, q2, q1, hk⟩ := level_low (p := p) h15 h1
      rw [← hX] at hX0 q8 q4 q2 q1
      clear hX
      generalize cid p l = n at *
      k_steps
      all_goals first
        | (refine cb_retR ret ?e1 ?e2 ?e3; (case e1 => ((try simp only [bne_eq_false_iff_eq] at *); omega)); (case e2 => k_asm); (case e3 => k_asm))
        | fail "an end"
    · obtain ⟨hX0, X, hX, b8, b4, b2, b1, q8, q4, q2, q1, hk⟩ := level_high (p := p) h0 (Int.not_le.mp h15)
      rw [← hX] at q8 q4 q2 q1
      clear hX
      generalize cid p l = n at *
      k_steps
      all_goals first
        | (refine cb_retR ret ?e1 ?e2 ?e3; (case e1 => ((try simp only [bne_eq_false_iff_eq] at *); omega)); (case e2 => k_asm); (case e3 => k_asm))
        | fail "an end"
theorem levelC {x d : Addr} {p l : Int} {t tk : Tok} (B : Below A₀ base outer h₀) (F : Fr h₀ L s.heap m) (X : (K4 w.params).In h₀) (N : News h₀ L s.heap news) (T : Top V4 loose mean mg mb h₀) (hk : cs.kind = .function)
    (hx : (x, cellI d) ∈ news) (hdx : (d, cellD w (cid p l) t tk) ∈ news) (h0 : 0 ≤ l) (h1 : l ≤ 30) (hd : dp + 3 < recursionLimit) (hu : un + 24 < cLine)
    (ret : ∀ (t : Tok) (h' : Heap) (tk' : Nat), Fr h₀ L h' m → News h₀ L h' news → Q (.int l t) { s with heap := h', toks := tk' }) :
    wpAny (model PR w) (ktrTop dp un gd cn cs L a ccd cl outer) (call (.ref 236) [.ref x]) Q E s := wpAny_call (levelC0 B F X N T hk hx hdx h0 h1 hd hu ret)
end
local macro_rules | `(tactic| walk_at "call ref") => `(tactic| ((with_reducible show wpAny _ _ (call (Value.ref 236) _) _ _ _); k_here; k_dflt (refine' levelC ?k1 ?k2 ?k3 ?k4 ?k5 ?kK ?s0 ?s1 ?s2 ?s3 ?kd ?ku ?_; (case k1 => k_asm); (case k2 => k_asm); (case k3 => k_asm); (case k4 => k_asm); (case k5 => k_asm); (case kK => first | exact rfl | assumption); (case s0 => k_mem); (case s1 => k_mem); (case s2 => omega); (case s3 => omega); (case kd => ktr_room); (case ku => ktr_units); k_whole; intro t9 h9 tk9 F9 N9; (try dsimp only); (try k_fold))))
theorem lsbK0 {x d : Addr} {p l : Int} {t tk : Tok} (B : Below A₀ base outer h₀) (F : Fr h₀ L s.heap m) (X : (K4 w.params).In h₀) (N : News h₀ L s.heap news) (T : Top V4 loose mean mg mb h₀) (hk : cs.kind = .function)
    (hx : (x, cellI d) ∈ news) (hdx : (d, cellD w (cid p l) t tk) ∈ news)  (hd : dp + 2 < recursionLimit) (hu : un + 16 < cLine)
    (ret : ∀ (t : Tok) (h' : Heap) (tk' : Nat), Fr h₀ L h' m → News h₀ L h' news → R (.ok (.ret (.int (2 ^ (60 - 2 * l).toNat) t))) { s with heap := h', toks := tk' }) :
    codeAny (model PR w) (ktrTop dp un gd cn cs L a ccd cl outer) (.call (.ref 208) ⟨[.ref x], []⟩) R s := by
  refine lsbC0 B F X N T hk hx hdx hd hu ?_
  rw [lsb_cid]
  exact ret
theorem lsbK {x d : Addr} {p l : Int} {t tk : Tok} (B : Below A₀ base outer h₀) (F : Fr h₀ L s.heap m) (X : (K4 w.params).In h₀) (N : News h₀ L s.heap news) (T : Top V4 loose mean mg mb h₀) (hk : cs.kind = .function)
    (hx : (x, cellI d) ∈ news) (hdx : (d, cellD w (cid p l) t tk) ∈ news)  (hd : dp + 2 < recursionLimit) (hu : un + 16 < cLine)
    (ret : ∀ (t : Tok) (h' : Heap) (tk' : Nat), Fr h₀ L h' m → News h₀ L h' news → Q (.int (2 ^ (60 - 2 * l).toNat) t) { s with heap := h', toks := tk' }) :
    wpAny (model PR w) (ktrTop dp un gd cn cs L a ccd cl outer) (call (.ref 208) [.ref x]) Q E s := wpAny_call (lsbK0 B F X N T hk hx hdx hd hu ret)
local macro_rules | `(tactic| walk_at "call ref") => `(tactic| ((with_reducible show wpAny _ _ (call (Value.ref 208) _) _ _ _); k_here; k_dflt (refine' lsbK ?k1 ?k2 ?k3 ?k4 ?k5 ?kK ?s0 ?s1 ?kd ?ku ?_; (case k1 => k_asm); (case k2 => k_asm); (case k3 => k_asm); (case k4 => k_asm); (case k5 => k_asm); (case kK => first | exact rfl | assumption); (case s0 => k_mem); (case s1 => k_mem); (case kd => ktr_room); (case ku => ktr_units); k_whole; intro t9 h9 tk9 F9 N9; (try dsimp only); (try k_fold))))
theorem validK0 {x d : Addr} {p l : Int} {t tk : Tok} (B : Below A₀ base outer h₀) (F : Fr h₀ L s.heap m) (X : (K4 w.params).In h₀) (N : News h₀ L s.heap news) (T : Top V4 loose mean mg mb h₀) (hk : cs.kind = .function)
    (hx : (x, cellI d) ∈ news) (hdx : (d, cellD w (cid p l) t tk) ∈ news) (h0 : 0 ≤ l) (h1 : l ≤ 30)  (hp : p < 6 * 2 ^ (2 * l).toNat) (hd : dp + 3 < recursionLimit) (hu : un + 24 < cLine)
    (ret : ∀ (h' : Heap) (tk' : Nat), Fr h₀ L h' m → News h₀ L h' news → R (.ok (.ret (.bool true))) { s with heap := h', toks := tk' }) :
    codeAny (model PR w) (ktrTop dp un gd cn cs L a ccd cl outer) (.call (.ref 201) ⟨[.ref x], []⟩) R s := by
  exact validC0 B F X N T hk hx hdx (face_lt h0 h1 hp) (valid_cid h0 h1) hd hu ret
theorem validK {x d : Addr} {p l : Int} {t tk : Tok} (B : Below A₀ base outer h₀) (F : Fr h₀ L s.heap m) (X : (K4 w.params).In h₀) (N : News h₀ L s.heap news) (T : Top V4 loose mean mg mb h₀) (hk : cs.kind = .function)
    (hx : (x, cellI d) ∈ news) (hdx : (d, cellD w (cid p l) t tk) ∈ news) (h0 : 0 ≤ l) (h1 : l ≤ 30)  (hp : p < 6 * 2 ^ (2 * l).toNat) (hd : dp + 3 < recursionLimit) (hu : un + 24 < cLine)
    (ret : ∀ (h' : Heap) (tk' : Nat), Fr h₀ L h' m → News h₀ L h' news → Q (.bool true) { s with heap := h', toks := tk' }) :
    wpAny (model PR w) (ktrTop dp un gd cn cs L a ccd cl outer) (call (.ref 201) [.ref x]) Q E s := wpAny_call (validK0 B F X N T hk hx hdx h0 h1 hp hd hu ret)
local macro_rules | `(tactic| walk_at "call ref") => `(tactic| ((with_reducible show wpAny _ _ (call (Value.ref 201) _) _ _ _); k_here; k_dflt (refine' validK ?k1 ?k2 ?k3 ?k4 ?k5 ?kK ?s0 ?s1 ?s2 ?s3 ?s4 ?kd ?ku ?_; (case k1 => k_asm); (case k2 => k_asm); (case k3 => k_asm); (case k4 => k_asm); (case k5 => k_asm); (case kK => first | exact rfl | assumption); (case s0 => k_mem); (case s1 => k_mem); (case s2 => omega); (case s3 => omega); (case s4 => first | assumption | omega); (case kd => ktr_room); (case ku => ktr_units); k_whole; intro h9 tk9 F9 N9; (try dsimp only); (try k_fold))))
theorem lflC0 {l : Int} {t : Tok} (B : Below A₀ base outer h₀) (F : Fr h₀ L s.heap m) (X : (K4 w.params).In h₀) (N : News h₀ L s.heap news) (T : Top V4 loose mean mg mb h₀) (hk : cs.kind = .function)
    (h0 : 0 ≤ l) (h1 : l ≤ 30) (hd : dp + 2 < recursionLimit) (hu : un + 16 < cLine)
    (ret : ∀ (t : Tok) (h' : Heap) (tk' : Nat), Fr h₀ L h' m → News h₀ L h' news → R (.ok (.ret (.int (2 ^ (60 - 2 * l).toNat) t))) { s with heap := h', toks := tk' }) :
    codeAny (model PR w) (ktrTop dp un gd cn cs L a ccd cl outer) (.call (.ref 149) ⟨[.ref 425, .int l t], []⟩) R s := by
  w_top off
  k_dflt (walk_at "ENTER")
  k_steps
  all_goals first
    | (rw [lfl_eq]; exact ret _ _ _ (by k_asm) (by k_asm))
    | fail "an end"
theorem lflC {l : Int} {t : Tok} (B : Below A₀ base outer h₀) (F : Fr h₀ L s.heap m) (X : (K4 w.params).In h₀) (N : News h₀ L s.heap news) (T : Top V4 loose mean mg mb h₀) (hk : cs.kind = .function)
    (h0 : 0 ≤ l) (h1 : l ≤ 30) (hd : dp + 2 < recursionLimit) (hu : un + 16 < cLine)
    (ret : ∀ (t : Tok) (h' : Heap) (tk' : Nat), Fr h₀ L h' m → News h₀ L h' news → Q (.int (2 ^ (60 - 2 * l).toNat) t) { s with heap := h', toks := tk' }) :
    wpAny (model PR w) (ktrTop dp un gd cn cs L a ccd cl outer) (call (.ref 149) [.ref 425, .int l t]) Q E s := wpAny_call (lflC0 B F X N T hk h0 h1 hd hu ret)
local macro_rules | `(tactic| walk_at "call ref") => `(tactic| ((with_reducible show wpAny _ _ (call (Value.ref 149) _) _ _ _); k_here; k_dflt (refine' lflC ?k1 ?k2 ?k3 ?k4 ?k5 ?kK ?s0 ?s1 ?kd ?ku ?_; (case k1 => k_asm); (case k2 => k_asm); (case k3 => k_asm); (case k4 => k_asm); (case k5 => k_asm); (case kK => first | exact rfl | assumption); (case s0 => omega); (case s1 => omega); (case kd => ktr_room); (case ku => ktr_units); k_whole; intro t9 h9 tk9 F9 N9; (try dsimp only); (try k_fold))))
local macro_rules | `(tactic| walk_at "call ref") => `(tactic| ((fail_if_success (with_reducible show wpAny _ _ (call (Value.ref (OfNat.ofNat _)) _) _ _ _)); k_here; k_dflt (refine' call_meth ?kN ?kq ?_; (case kN => k_asm); (case kq => k_mem); refine' lflC0 ?k1 ?k2 ?k3 ?k4 ?k5 ?kK ?s0 ?s1 ?kd ?ku ?_; (case k1 => k_asm); (case k2 => k_asm); (case k3 => k_asm); (case k4 => k_asm); (case k5 => k_asm); (case kK => first | exact rfl | assumption); (case s0 => omega); (case s1 => omega); (case kd => ktr_room); (case ku => ktr_units); k_whole; intro t9 h9 tk9 F9 N9; (try dsimp only); (try k_fold))))
theorem prevC0 {x d : Addr} {p l : Int} {t tk : Tok} {n : Int} (B : Below A₀ base outer h₀) (F : Fr h₀ L s.heap m) (X : (K4 w.params).In h₀) (N : News h₀ L s.heap news) (T : Top V4 loose mean mg mb h₀) (hk : cs.kind = .function)
    (hx : (x, cellI d) ∈ news) (hdx : (d, cellD w (cid p l) t tk) ∈ news) (h0 : 0 ≤ l) (h1 : l ≤ 30) (hn : (cid (p - 1) l).fmod 18446744073709551615 = n) (hd : dp + 4 < recursionLimit) (hu : un + 32 < cLine)
    (ret : ∀ (y e : Addr) (t tk : Tok) (h' : Heap) (tk' : Nat), Fr h₀ L h' m → News h₀ L h' ((y, cellI e) :: (e, cellD w (n) t tk) :: news) → R (.ok (.ret (.ref y))) { s with heap := h', toks := tk' }) :
    codeAny (model PR w) (ktrTop dp un gd cn cs L a ccd cl outer) (.call (.ref 257) ⟨[.ref x], []⟩) R s := by
  have hb := lsb_le (l := l) h0
  have hz := pw (60 - 2 * l).toNat
  w_top off
  k_dflt (walk_at "ENTER")
  k_steps
  all_goals first
    | ((rename News _ _ _ _ => kN9); rw [prev_cid, hn] at kN9; exact ret _ _ _ _ _ _ (by k_asm) kN9)
    | fail "an end"
theorem prevC {x d : Addr} {p l : Int} {t tk : Tok} {n : Int} (B : Below A₀ base outer h₀) (F : Fr h₀ L s.heap m) (X : (K4 w.params).In h₀) (N : News h₀ L s.heap news) (T : Top V4 loose mean mg mb h₀) (hk : cs.kind = .function)
    (hx : (x, cellI d) ∈ news) (hdx : (d, cellD w (cid p l) t tk) ∈ news) (h0 : 0 ≤ l) (h1 : l ≤ 30) (hn : (cid (p - 1) l).fmod 18446744073709551615 = n) (hd : dp + 4 < recursionLimit) (hu : un + 32 < cLine)
    (ret : ∀ (y e : Addr) (t tk : Tok) (h' : Heap) (tk' : Nat), Fr h₀ L h' m → News h₀ L h' ((y, cellI e) :: (e, cellD w (n) t tk) :: news) → Q (.ref y) { s with heap := h', toks := tk' }) :
    wpAny (model PR w) (ktrTop dp un gd cn cs L a ccd cl outer) (call (.ref 257) [.ref x]) Q E s := wpAny_call (prevC0 B F X N T hk hx hdx h0 h1 hn hd hu ret)
local macro_rules | `(tactic| walk_at "call ref") => `(tactic| ((with_reducible show wpAny _ _ (call (Value.ref 257) _) _ _ _); k_here; k_dflt (refine' prevC ?k1 ?k2 ?k3 ?k4 ?k5 ?kK ?s0 ?s1 ?s2 ?s3 ?s4 ?kd ?ku ?_; (case k1 => k_asm); (case k2 => k_asm); (case k3 => k_asm); (case k4 => k_asm); (case k5 => k_asm); (case kK => first | exact rfl | assumption); (case s0 => k_mem); (case s1 => k_mem); (case s2 => omega); (case s3 => omega); (case s4 => first | assumption | exact rfl); (case kd => ktr_room); (case ku => ktr_units); k_whole; intro y9 e9 t9 tk9 h9 tt9 F9 N9; (try dsimp only); (try k_fold))))
theorem nextC0 {x d : Addr} {p l : Int} {t tk : Tok} {n : Int} (B : Below A₀ base outer h₀) (F : Fr h₀ L s.heap m) (X : (K4 w.params).In h₀) (N : News h₀ L s.heap news) (T : Top V4 loose mean mg mb h₀) (hk : cs.kind = .function)
    (hx : (x, cellI d) ∈ news) (hdx : (d, cellD w (cid p l) t tk) ∈ news) (h0 : 0 ≤ l) (h1 : l ≤ 30) (hn : (cid (p + 1) l).fmod 18446744073709551615 = n) (hd : dp + 4 < recursionLimit) (hu : un + 32 < cLine)
    (ret : ∀ (y e : Addr) (t tk : Tok) (h' : Heap) (tk' : Nat), Fr h₀ L h' m → News h₀ L h' ((y, cellI e) :: (e, cellD w (n) t tk) :: news) → R (.ok (.ret (.ref y))) { s with heap := h', toks := tk' }) :
    codeAny (model PR w) (ktrTop dp un gd cn cs L a ccd cl outer) (.call (.ref 264) ⟨[.ref x], []⟩) R s := by
  have hb := lsb_le (l := l) h0
  have hz := pw (60 - 2 * l).toNat
  w_top off
  k_dflt (walk_at "ENTER")
  k_steps
  all_goals first
    | ((rename News _ _ _ _ => kN9); rw [next_cid, hn] at kN9; exact ret _ _ _ _ _ _ (by k_asm) kN9)
    | fail "an end"
theorem nextC {x d : Addr} {p l : Int} {t tk : Tok} {n : Int} (B : Below A₀ base outer h₀) (F : Fr h₀ L s.heap m) (X : (K4 w.params).In h₀) (N : News h₀ L s.heap news) (T : Top V4 loose mean mg mb h₀) (hk : cs.kind = .function)
    (hx : (x, cellI d) ∈ news) (hdx : (d, cellD w (cid p l) t tk) ∈ news) (h0 : 0 ≤ l) (h1 : l ≤ 30) (hn : (cid (p + 1) l).fmod 18446744073709551615 = n) (hd : dp + 4 < recursionLimit) (hu : un + 32 < cLine)
    (ret : ∀ (y e : Addr) (t tk : Tok) (h' : Heap) (tk' : Nat), Fr h₀ L h' m → News h₀ L h' ((y, cellI e) :: (e, cellD w (n) t tk) :: news) → Q (.ref y) { s with heap := h', toks := tk' }) :
    wpAny (model PR w) (ktrTop dp un gd cn cs L a ccd cl outer) (call (.ref 264) [.ref x]) Q E s := wpAny_call (nextC0 B F X N T hk hx hdx h0 h1 hn hd hu ret)
local macro_rules | `(tactic| walk_at "call ref") => `(tactic| ((with_reducible show wpAny _ _ (call (Value.ref 264) _) _ _ _); k_here; k_dflt (refine' nextC ?k1 ?k2 ?k3 ?k4 ?k5 ?kK ?s0 ?s1 ?s2 ?s3 ?s4 ?kd ?ku ?_; (case k1 => k_asm); (case k2 => k_asm); (case k3 => k_asm); (case k4 => k_asm); (case k5 => k_asm); (case kK => first | exact rfl | assumption); (case s0 => k_mem); (case s1 => k_mem); (case s2 => omega); (case s3 => omega); (case s4 => first | assumption | exact rfl); (case kd => ktr_room); (case ku => ktr_units); k_whole; intro y9 e9 t9 tk9 h9 tt9 F9 N9; (try dsimp only); (try k_fold))))
theorem parentC0 {x d : Addr} {p l : Int} {t tk : Tok} {q : Int} {tq : Tok} (B : Below A₀ base outer h₀) (F : Fr h₀ L s.heap m) (X : (K4 w.params).In h₀) (N : News h₀ L s.heap news) (T : Top V4 loose mean mg mb h₀) (hk : cs.kind = .function)
    (hx : (x, cellI d) ∈ news) (hdx : (d, cellD w (cid p l) t tk) ∈ news) (h0 : 0 ≤ l) (h1 : l ≤ 30) (hp0 : 0 ≤ p) (hp : p < 6 * 2 ^ (2 * l).toNat) (hq0 : 0 ≤ q) (hq : q ≤ l) (hd : dp + 5 < recursionLimit) (hu : un + 40 < cLine)
    (ret : ∀ (y e : Addr) (t tk : Tok) (h' : Heap) (tk' : Nat), Fr h₀ L h' m → News h₀ L h' ((y, cellI e) :: (e, cellD w (cid (p / 2 ^ (2 * (l - q)).toNat) q) t tk) :: news) → R (.ok (.ret (.ref y))) { s with heap := h', toks := tk' }) :
    codeAny (model PR w) (ktrTop dp un gd cn cs L a ccd cl outer) (.call (.ref 159) ⟨[.ref x, .int q tq], []⟩) R s := by
  have hM : (Builtin.bitOr (Builtin.bitAnd (cid p l) (-(2 ^ (60 - 2 * q).toNat))) (2 ^ (60 - 2 * q).toNat)).fmod 18446744073709551615 = cid (p / 2 ^ (2 * (l - q)).toNat) q := by
    rw [parent_cid hq0 hq h1]
    exact cid_fmod hq0 (by omega) (Int.ediv_nonneg hp0 (Int.le_of_lt (pw _))) (by
      have e : (2 : Int) ^ (2 * l).toNat = 2 ^ (2 * (l - q)).toNat * 2 ^ (2 * q).toNat := by rw [← pw_add]; congr 1; omega
      refine Int.le_of_lt (Int.ediv_lt_of_lt_mul (pw _) ?_)
      rw [Int.mul_comm _ (2 ^ (2 * (l - q)).toNat), ← Int.mul_assoc, Int.mul_comm _ 6, Int.mul_assoc, ← e]
      exact hp)
  w_top off
  k_dflt (walk_at "ENTER*")
  k_steps
  all_goals first
    | ((rename News _ _ _ _ => kN9); (try rw [hM] at kN9); exact ret _ _ _ _ _ _ (by k_asm) (cell_drop kN9 (by intro p9 h9; simp only [List.mem_cons, h9, or_true])))
    | fail "an end"
theorem parentC {x d : Addr} {p l : Int} {t tk : Tok} {q : Int} {tq : Tok} (B : Below A₀ base outer h₀) (F : Fr h₀ L s.heap m) (X : (K4 w.params).In h₀) (N : News h₀ L s.heap news) (T : Top V4 loose mean mg mb h₀) (hk : cs.kind = .function)
    (hx : (x, cellI d) ∈ news) (hdx : (d, cellD w (cid p l) t tk) ∈ news) (h0 : 0 ≤ l) (h1 : l ≤ 30) (hp0 : 0 ≤ p) (hp : p < 6 * 2 ^ (2 * l).toNat) (hq0 : 0 ≤ q) (hq : q ≤ l) (hd : dp + 5 < recursionLimit) (hu : un + 40 < cLine)
    (ret : ∀ (y e : Addr) (t tk : Tok) (h' : Heap) (tk' : Nat), Fr h₀ L h' m → News h₀ L h' ((y, cellI e) :: (e, cellD w (cid (p / 2 ^ (2 * (l - q)).toNat) q) t tk) :: news) → Q (.ref y) { s with heap := h', toks := tk' }) :
    wpAny (model PR w) (ktrTop dp un gd cn cs L a ccd cl outer) (call (.ref 159) [.ref x, .int q tq]) Q E s := wpAny_call (parentC0 B F X N T hk hx hdx h0 h1 hp0 hp hq0 hq hd hu ret)
local macro_rules | `(tactic| walk_at "call ref") => `(tactic| ((with_reducible show wpAny _ _ (call (Value.ref 159) _) _ _ _); k_here; k_dflt (refine' parentC ?k1 ?k2 ?k3 ?k4 ?k5 ?kK ?s0 ?s1 ?s2 ?s3 ?s4 ?s5 ?s6 ?s7 ?kd ?ku ?_; (case k1 => k_asm); (case k2 => k_asm); (case k3 => k_asm); (case k4 => k_asm); (case k5 => k_asm); (case kK => first | exact rfl | assumption); (case s0 => k_mem); (case s1 => k_mem); (case s2 => omega); (case s3 => omega); (case s4 => first | assumption | omega); (case s5 => first | assumption | omega); (case s6 => omega); (case s7 => omega); (case kd => ktr_room); (case ku => ktr_units); k_whole; intro y9 e9 t9 tk9 h9 tt9 F9 N9; (try dsimp only); (try k_fold))))
theorem ffplC0 {f : Int} {t1 t2 t3 : Tok} (B : Below A₀ base outer h₀) (F : Fr h₀ L s.heap m) (X : (K4 w.params).In h₀) (N : News h₀ L s.heap news) (T : Top V4 loose mean mg mb h₀) (hk : cs.kind = .function)
    (hf0 : 0 ≤ f) (hf6 : f < 6) (hd : dp + 8 < recursionLimit) (hu : un + 64 < cLine)
    (ret : ∀ (y e : Addr) (t tk : Tok) (h' : Heap) (tk' : Nat), Fr h₀ L h' m → News h₀ L h' ((y, cellI e) :: (e, cellD w (cid f 0) t tk) :: news) → R (.ok (.ret (.ref y))) { s with heap := h', toks := tk' }) :
    codeAny (model PR w) (ktrTop dp un gd cn cs L a ccd cl outer) (.call (.ref 99) ⟨[.ref 425, .int f t1, .int 0 t2, .int 0 t3], []⟩) R s := by
  have hn : (f * 2 ^ Int.toNat 61 + Builtin.bitOr 0 1).fmod 18446744073709551615 = cid (f * 2 ^ 60) 30 := by
    have e1 : cid (f * 2 ^ 60) 30 = f * 2 ^ Int.toNat 61 + Builtin.bitOr 0 1 := by
      unfold cid
      rw [show (2 : Int) ^ (60 - 2 * (30 : Int)).toNat = 1 from by decide, show Builtin.bitOr 0 1 = 1 from by decide, show (2 : Int) ^ Int.toNat 61 = 2305843009213693952 from by decide, show (2 : Int) ^ 60 = 1152921504606846976 from by decide]
      omega
    rw [← e1]
    refine cid_fmod (by decide) (by decide) (by rw [show (2 : Int) ^ 60 = 1152921504606846976 from by decide]; omega) (by rw [show (2 : Int) ^ 60 = 1152921504606846976 from by decide, show (2 : Int) ^ (2 * (30 : Int)).toNat = 1152921504606846976 from by decide]; omega)
  have hp1 : 0 ≤ f * 2 ^ 60 := by rw [show (2 : Int) ^ 60 = 1152921504606846976 from by decide]; omega
  have hp2 : f * 2 ^ 60 < 6 * 2 ^ (2 * (30 : Int)).toNat := by rw [show (2 : Int) ^ 60 = 1152921504606846976 from by decide, show (2 : Int) ^ (2 * (30 : Int)).toNat = 1152921504606846976 from by decide]; omega
  have hM : f * 2 ^ 60 / 2 ^ (2 * (30 - 0 : Int)).toNat = f := by
    rw [show (2 : Int) ^ (2 * (30 - 0 : Int)).toNat = 2 ^ 60 from by decide]
    exact Int.mul_ediv_cancel _ (by decide)
  w_top off
  k_dflt (walk_at "ENTER")
  k_steps
  all_goals first
    | ((rename News _ _ _ _ => kN9); (try rw [hM] at kN9); exact ret _ _ _ _ _ _ (by k_asm) (cell_drop kN9 (by intro p9 h9; simp only [List.mem_cons, h9, or_true])))
    | fail "an end"
theorem ffplC {f : Int} {t1 t2 t3 : Tok} (B : Below A₀ base outer h₀) (F : Fr h₀ L s.heap m) (X : (K4 w.params).In h₀) (N : News h₀ L s.heap news) (T : Top V4 loose mean mg mb h₀) (hk : cs.kind = .function)
    (hf0 : 0 ≤ f) (hf6 : f < 6) (hd : dp + 8 < recursionLimit) (hu : un + 64 < cLine)
    (ret : ∀ (y e : Addr) (t tk : Tok) (h' : Heap) (tk' : Nat), Fr h₀ L h' m → News h₀ L h' ((y, cellI e) :: (e, cellD w (cid f 0) t tk) :: news) → Q (.ref y) { s with heap := h', toks := tk' }) :
    wpAny (model PR w) (ktrTop dp un gd cn cs L a ccd cl outer) (call (.ref 99) [.ref 425, .int f t1, .int 0 t2, .int 0 t3]) Q E s := wpAny_call (ffplC0 B F X N T hk hf0 hf6 hd hu ret)
local macro_rules | `(tactic| walk_at "call ref") => `(tactic| ((with_reducible show wpAny _ _ (call (Value.ref 99) _) _ _ _); k_here; k_dflt (refine' ffplC ?k1 ?k2 ?k3 ?k4 ?k5 ?kK ?s0 ?s1 ?kd ?ku ?_; (case k1 => k_asm); (case k2 => k_asm); (case k3 => k_asm); (case k4 => k_asm); (case k5 => k_asm); (case kK => first | exact rfl | assumption); (case s0 => omega); (case s1 => omega); (case kd => ktr_room); (case ku => ktr_units); k_whole; intro y9 e9 t9 tk9 h9 tt9 F9 N9; (try dsimp only); (try k_fold))))
local macro_rules | `(tactic| walk_at "call ref") => `(tactic| ((fail_if_success (with_reducible show wpAny _ _ (call (Value.ref (OfNat.ofNat _)) _) _ _ _)); k_here; k_dflt (refine' call_meth ?kN ?kq ?_; (case kN => k_asm); (case kq => k_mem); refine' ffplC0 ?k1 ?k2 ?k3 ?k4 ?k5 ?kK ?s0 ?s1 ?kd ?ku ?_; (case k1 => k_asm); (case k2 => k_asm); (case k3 => k_asm); (case k4 => k_asm); (case k5 => k_asm); (case kK => first | exact rfl | assumption); (case s0 => omega); (case s1 => omega); (case kd => ktr_room); (case ku => ktr_units); k_whole; intro y9 e9 t9 tk9 h9 tt9 F9 N9; (try dsimp only); (try k_fold))))
theorem childbC0 {x d : Addr} {p l : Int} {t tk : Tok} {q : Int} {tq : Tok} (B : Below A₀ base outer h₀) (F : Fr h₀ L s.heap m) (X : (K4 w.params).In h₀) (N : News h₀ L s.heap news) (T : Top V4 loose mean mg mb h₀) (hk : cs.kind = .function)
    (hx : (x, cellI d) ∈ news) (hdx : (d, cellD w (cid p l) t tk) ∈ news) (h0 : 0 ≤ l) (h1 : l ≤ 30) (hp0 : 0 ≤ p) (hp : p < 6 * 2 ^ (2 * l).toNat) (hq : l ≤ q) (hq1 : q ≤ 30) (hd : dp + 5 < recursionLimit) (hu : un + 40 < cLine)
    (ret : ∀ (y e : Addr) (t tk : Tok) (h' : Heap) (tk' : Nat), Fr h₀ L h' m → News h₀ L h' ((y, cellI e) :: (e, cellD w (cid (p * 2 ^ (2 * (q - l)).toNat) q) t tk) :: news) → R (.ok (.ret (.ref y))) { s with heap := h', toks := tk' }) :
    codeAny (model PR w) (ktrTop dp un gd cn cs L a ccd cl outer) (.call (.ref 243) ⟨[.ref x, .int q tq], []⟩) R s := by
  have hb := lsb_le (l := l) h0
  have hz := pw (60 - 2 * l).toNat
  have hM : (cid p l - 2 ^ (60 - 2 * l).toNat + 2 ^ (60 - 2 * q).toNat).fmod 18446744073709551615 = cid (p * 2 ^ (2 * (q - l)).toNat) q := by
    rw [begin_cid h0 hq hq1]
    exact cid_fmod (by omega) hq1 (Int.mul_nonneg (by omega) (Int.le_of_lt (pw _))) (by
      have e : (2 : Int) ^ (2 * q).toNat = 2 ^ (2 * l).toNat * 2 ^ (2 * (q - l)).toNat := by rw [← pw_add]; congr 1; omega
      rw [e, ← Int.mul_assoc]
      exact Int.mul_le_mul_of_nonneg_right (by omega) (Int.le_of_lt (pw _)))
  w_top off
  k_dflt (walk_at "ENTER*")
  k_steps
  all_goals first
    | ((rename News _ _ _ _ => kN9); (try rw [hM] at kN9); exact ret _ _ _ _ _ _ (by k_asm) (cell_drop kN9 (by intro p9 h9; simp only [List.mem_cons, h9, or_true])))
    | fail "an end"
theorem childbC {x d : Addr} {p l : Int} {t tk : Tok} {q : Int} {tq : Tok} (B : Below A₀ base outer h₀) (F : Fr h₀ L s.heap m) (X : (K4 w.params).In h₀) (N : News h₀ L s.heap news) (T : Top V4 loose mean mg mb h₀) (hk : cs.kind = .function)
    (hx : (x, cellI d) ∈ news) (hdx : (d, cellD w (cid p l) t tk) ∈ news) (h0 : 0 ≤ l) (h1 : l ≤ 30) (hp0 : 0 ≤ p) (hp : p < 6 * 2 ^ (2 * l).toNat) (hq : l ≤ q) (hq1 : q ≤ 30) (hd : dp + 5 < recursionLimit) (hu : un + 40 < cLine)
    (ret : ∀ (y e : Addr) (t tk : Tok) (h' : Heap) (tk' : Nat), Fr h₀ L h' m → News h₀ L h' ((y, cellI e) :: (e, cellD w (cid (p * 2 ^ (2 * (q - l)).toNat) q) t tk) :: news) → Q (.ref y) { s with heap := h', toks := tk' }) :
    wpAny (model PR w) (ktrTop dp un gd cn cs L a ccd cl outer) (call (.ref 243) [.ref x, .int q tq]) Q E s := wpAny_call (childbC0 B F X N T hk hx hdx h0 h1 hp0 hp hq hq1 hd hu ret)
local macro_rules | `(tactic| walk_at "call ref") => `(tactic| ((with_reducible show wpAny _ _ (call (Value.ref 243) _) _ _ _); k_here; k_dflt (refine' childbC ?k1 ?k2 ?k3 ?k4 ?k5 ?kK ?s0 ?s1 ?s2 ?s3 ?s4 ?s5 ?s6 ?s7 ?kd ?ku ?_; (case k1 => k_asm); (case k2 => k_asm); (case k3 => k_asm); (case k4 => k_asm); (case k5 => k_asm); (case kK => first | exact rfl | assumption); (case s0 => k_mem); (case s1 => k_mem); (case s2 => omega); (case s3 => omega); (case s4 => first | assumption | omega); (case s5 => first | assumption | omega); (case s6 => omega); (case s7 => omega); (case kd => ktr_room); (case ku => ktr_units); k_whole; intro y9 e9 t9 tk9 h9 tt9 F9 N9; (try dsimp only); (try k_fold))))
theorem childeC0 {x d : Addr} {p l : Int} {t tk : Tok} {q : Int} {tq : Tok} (B : Below A₀ base outer h₀) (F : Fr h₀ L s.heap m) (X : (K4 w.params).In h₀) (N : News h₀ L s.heap news) (T : Top V4 loose mean mg mb h₀) (hk : cs.kind = .function)
    (hx : (x, cellI d) ∈ news) (hdx : (d, cellD w (cid p l) t tk) ∈ news) (h0 : 0 ≤ l) (h1 : l ≤ 30) (hp0 : 0 ≤ p) (hp : p < 6 * 2 ^ (2 * l).toNat) (hq : l ≤ q) (hq1 : q ≤ 30) (hd : dp + 5 < recursionLimit) (hu : un + 40 < cLine)
    (ret : ∀ (y e : Addr) (t tk : Tok) (h' : Heap) (tk' : Nat), Fr h₀ L h' m → News h₀ L h' ((y, cellI e) :: (e, cellD w (cid ((p + 1) * 2 ^ (2 * (q - l)).toNat) q) t tk) :: news) → R (.ok (.ret (.ref y))) { s with heap := h', toks := tk' }) :
    codeAny (model PR w) (ktrTop dp un gd cn cs L a ccd cl outer) (.call (.ref 250) ⟨[.ref x, .int q tq], []⟩) R s := by
  have hb := lsb_le (l := l) h0
  have hz := pw (60 - 2 * l).toNat
  have hM : (cid p l + 2 ^ (60 - 2 * l).toNat + 2 ^ (60 - 2 * q).toNat).fmod 18446744073709551615 = cid ((p + 1) * 2 ^ (2 * (q - l)).toNat) q := by
    rw [end_cid h0 hq hq1]
    exact cid_fmod (by omega) hq1 (Int.mul_nonneg (by omega) (Int.le_of_lt (pw _))) (by
      have e : (2 : Int) ^ (2 * q).toNat = 2 ^ (2 * l).toNat * 2 ^ (2 * (q - l)).toNat := by rw [← pw_add]; congr 1; omega
      rw [e, ← Int.mul_assoc]
      exact Int.mul_le_mul_of_nonneg_right (by omega) (Int.le_of_lt (pw _)))
  w_top off
  k_dflt (walk_at "ENTER*")
  k_steps
  all_goals first
    | ((rename News _ _ _ _ => kN9); (try rw [hM] at kN9); exact ret _ _ _ _ _ _ (by k_asm) (cell_drop kN9 (by intro p9 h9; simp only [List.mem_cons, h9, or_true])))
    | fail "an end"
theorem childeC {x d : Addr} {p l : Int} {t tk : Tok} {q : Int} {tq : Tok} (B : Below A₀ base outer h₀) (F : Fr h₀ L s.heap m) (X : (K4 w.params).In h₀) (N : News h₀ L s.heap news) (T : Top V4 loose mean mg mb h₀) (hk : cs.kind = .function)
    (hx : (x, cellI d) ∈ news) (hdx : (d, cellD w (cid p l) t tk) ∈ news) (h0 : 0 ≤ l) (h1 : l ≤ 30) (hp0 : 0 ≤ p) (hp : p < 6 * 2 ^ (2 * l).toNat) (hq : l ≤ q) (hq1 : q ≤ 30) (hd : dp + 5 < recursionLimit) (hu : un + 40 < cLine)
    (ret : ∀ (y e : Addr) (t tk : Tok) (h' : Heap) (tk' : Nat), Fr h₀ L h' m → News h₀ L h' ((y, cellI e) :: (e, cellD w (cid ((p + 1) * 2 ^ (2 * (q - l)).toNat) q) t tk) :: news) → Q (.ref y) { s with heap := h', toks := tk' }) :
    wpAny (model PR w) (ktrTop dp un gd cn cs L a ccd cl outer) (call (.ref 250) [.ref x, .int q tq]) Q E s := wpAny_call (childeC0 B F X N T hk hx hdx h0 h1 hp0 hp hq hq1 hd hu ret)
local macro_rules | `(tactic| walk_at "call ref") => `(tactic| ((with_reducible show wpAny _ _ (call (Value.ref 250) _) _ _ _); k_here; k_dflt (refine' childeC ?k1 ?k2 ?k3 ?k4 ?k5 ?kK ?s0 ?s1 ?s2 ?s3 ?s4 ?s5 ?s6 ?s7 ?kd ?ku ?_; (case k1 => k_asm); (case k2 => k_asm); (case k3 => k_asm); (case k4 => k_asm); (case k5 => k_asm); (case kK => first | exact rfl | assumption); (case s0 => k_mem); (case s1 => k_mem); (case s2 => omega); (case s3 => omega); (case s4 => first | assumption | omega); (case s5 => first | assumption | omega); (case s6 => omega); (case s7 => omega); (case kd => ktr_room); (case ku => ktr_units); k_whole; intro y9 e9 t9 tk9 h9 tt9 F9 N9; (try dsimp only); (try k_fold))))
theorem beginC0 {l : Int} {tl : Tok} (B : Below A₀ base outer h₀) (F : Fr h₀ L s.heap m) (X : (K4 w.params).In h₀) (N : News h₀ L s.heap news) (T : Top V4 loose mean mg mb h₀) (hk : cs.kind = .function)
    (h0 : 0 ≤ l) (h1 : l ≤ 30) (hd : dp + 10 < recursionLimit) (hu : un + 80 < cLine)
    (ret : ∀ (y e : Addr) (t tk : Tok) (h' : Heap) (tk' : Nat), Fr h₀ L h' m → News h₀ L h' ((y, cellI e) :: (e, cellD w (cid 0 l) t tk) :: news) → R (.ok (.ret (.ref y))) { s with heap := h', toks := tk' }) :
    codeAny (model PR w) (ktrTop dp un gd cn cs L a ccd cl outer) (.call (.ref 292) ⟨[.ref 425, .int l tl], []⟩) R s := by
  have z0 : (0 : Int) < 6 * 2 ^ (2 * (0 : Int)).toNat := by decide
  have hM : (0 : Int) * 2 ^ (2 * (l - 0)).toNat = 0 := Int.zero_mul _
  w_top off
  k_dflt (walk_at "ENTER")
  k_steps
  all_goals first
    | ((rename News _ _ _ _ => kN9); (try rw [hM] at kN9); exact ret _ _ _ _ _ _ (by k_asm) (cell_drop kN9 (by intro p9 h9; simp only [List.mem_cons, h9, or_true])))
    | fail "an end"
theorem beginC {l : Int} {tl : Tok} (B : Below A₀ base outer h₀) (F : Fr h₀ L s.heap m) (X : (K4 w.params).In h₀) (N : News h₀ L s.heap news) (T : Top V4 loose mean mg mb h₀) (hk : cs.kind = .function)
    (h0 : 0 ≤ l) (h1 : l ≤ 30) (hd : dp + 10 < recursionLimit) (hu : un + 80 < cLine)
    (ret : ∀ (y e : Addr) (t tk : Tok) (h' : Heap) (tk' : Nat), Fr h₀ L h' m → News h₀ L h' ((y, cellI e) :: (e, cellD w (cid 0 l) t tk) :: news) → Q (.ref y) { s with heap := h', toks := tk' }) :
    wpAny (model PR w) (ktrTop dp un gd cn cs L a ccd cl outer) (call (.ref 292) [.ref 425, .int l tl]) Q E s := wpAny_call (beginC0 B F X N T hk h0 h1 hd hu ret)
local macro_rules | `(tactic| walk_at "call ref") => `(tactic| ((with_reducible show wpAny _ _ (call (Value.ref 292) _) _ _ _); k_here; k_dflt (refine' beginC ?k1 ?k2 ?k3 ?k4 ?k5 ?kK ?s0 ?s1 ?kd ?ku ?_; (case k1 => k_asm); (case k2 => k_asm); (case k3 => k_asm); (case k4 => k_asm); (case k5 => k_asm); (case kK => first | exact rfl | assumption); (case s0 => omega); (case s1 => omega); (case kd => ktr_room); (case ku => ktr_units); k_whole; intro y9 e9 t9 tk9 h9 tt9 F9 N9; (try dsimp only); (try k_fold))))
local macro_rules | `(tactic| walk_at "call ref") => `(tactic| ((fail_if_success (with_reducible show wpAny _ _ (call (Value.ref (OfNat.ofNat _)) _) _ _ _)); k_here; k_dflt (refine' call_meth ?kN ?kq ?_; (case kN => k_asm); (case kq => k_mem); refine' beginC0 ?k1 ?k2 ?k3 ?k4 ?k5 ?kK ?s0 ?s1 ?kd ?ku ?_; (case k1 => k_asm); (case k2 => k_asm); (case k3 => k_asm); (case k4 => k_asm); (case k5 => k_asm); (case kK => first | exact rfl | assumption); (case s0 => omega); (case s1 => omega); (case kd => ktr_room); (case ku => ktr_units); k_whole; intro y9 e9 t9 tk9 h9 tt9 F9 N9; (try dsimp only); (try k_fold))))
theorem endC0 {l : Int} {tl : Tok} (B : Below A₀ base outer h₀) (F : Fr h₀ L s.heap m) (X : (K4 w.params).In h₀) (N : News h₀ L s.heap news) (T : Top V4 loose mean mg mb h₀) (hk : cs.kind = .function)
    (h0 : 0 ≤ l) (h1 : l ≤ 30) (hd : dp + 10 < recursionLimit) (hu : un + 80 < cLine)
    (ret : ∀ (y e : Addr) (t tk : Tok) (h' : Heap) (tk' : Nat), Fr h₀ L h' m → News h₀ L h' ((y, cellI e) :: (e, cellD w (cid (6 * 2 ^ (2 * l).toNat) l) t tk) :: news) → R (.ok (.ret (.ref y))) { s with heap := h', toks := tk' }) :
    codeAny (model PR w) (ktrTop dp un gd cn cs L a ccd cl outer) (.call (.ref 302) ⟨[.ref 425, .int l tl], []⟩) R s := by
  have z0 : (5 : Int) < 6 * 2 ^ (2 * (0 : Int)).toNat := by decide
  have hM : (5 + 1 : Int) * 2 ^ (2 * (l - 0)).toNat = 6 * 2 ^ (2 * l).toNat := by rw [Int.sub_zero]; rfl
  w_top off
  k_dflt (walk_at "ENTER")
  k_steps
  all_goals first
    | ((rename News _ _ _ _ => kN9); (try rw [hM] at kN9); exact ret _ _ _ _ _ _ (by k_asm) (cell_drop kN9 (by intro p9 h9; simp only [List.mem_cons, h9, or_true])))
    | fail "an end"
theorem endC {l : Int} {tl : Tok} (B : Below A₀ base outer h₀) (F : Fr h₀ L s.heap m) (X : (K4 w.params).In h₀) (N : News h₀ L s.heap news) (T : Top V4 loose mean mg mb h₀) (hk : cs.kind = .function)
    (h0 : 0 ≤ l) (h1 : l ≤ 30) (hd : dp + 10 < recursionLimit) (hu : un + 80 < cLine)
    (ret : ∀ (y e : Addr) (t tk : Tok) (h' : Heap) (tk' : Nat), Fr h₀ L h' m → News h₀ L h' ((y, cellI e) :: (e, cellD w (cid (6 * 2 ^ (2 * l).toNat) l) t tk) :: news) → Q (.ref y) { s with heap := h', toks := tk' }) :
    wpAny (model PR w) (ktrTop dp un gd cn cs L a ccd cl outer) (call (.ref 302) [.ref 425, .int l tl]) Q E s := wpAny_call (endC0 B F X N T hk h0 h1 hd hu ret)
local macro_rules | `(tactic| walk_at "call ref") => `(tactic| ((with_reducible show wpAny _ _ (call (Value.ref 302) _) _ _ _); k_here; k_dflt (refine' endC ?k1 ?k2 ?k3 ?k4 ?k5 ?kK ?s0 ?s1 ?kd ?ku ?_; (case k1 => k_asm); (case k2 => k_asm); (case k3 => k_asm); (case k4 => k_asm); (case k5 => k_asm); (case kK => first | exact rfl | assumption); (case s0 => omega); (case s1 => omega); (case kd => ktr_room); (case ku => ktr_units); k_whole; intro y9 e9 t9 tk9 h9 tt9 F9 N9; (try dsimp only); (try k_fold))))
local macro_rules | `(tactic| walk_at "call ref") => `(tactic| ((fail_if_success (with_reducible show wpAny _ _ (call (Value.ref (OfNat.ofNat _)) _) _ _ _)); k_here; k_dflt (refine' call_meth ?kN ?kq ?_; (case kN => k_asm); (case kq => k_mem); refine' endC0 ?k1 ?k2 ?k3 ?k4 ?k5 ?kK ?s0 ?s1 ?kd ?ku ?_; (case k1 => k_asm); (case k2 => k_asm); (case k3 => k_asm); (case k4 => k_asm); (case k5 => k_asm); (case kK => first | exact rfl | assumption); (case s0 => omega); (case s1 => omega); (case kd => ktr_room); (case ku => ktr_units); k_whole; intro y9 e9 t9 tk9 h9 tt9 F9 N9; (try dsimp only); (try k_fold))))
theorem pwrapC0 {x d : Addr} {p l : Int} {t tk : Tok} (B : Below A₀ base outer h₀) (F : Fr h₀ L s.heap m) (X : (K4 w.params).In h₀) (N : News h₀ L s.heap news) (T : Top V4 loose mean mg mb h₀) (hk : cs.kind = .function)
    (hx : (x, cellI d) ∈ news) (hdx : (d, cellD w (cid p l) t tk) ∈ news) (h0 : 0 ≤ l) (h1 : l ≤ 30) (hp0 : 0 ≤ p) (hp : p < 6 * 2 ^ (2 * l).toNat)  (hd : dp + 6 < recursionLimit) (hu : un + 48 < cLine)
    (ret : ∀ (y e : Addr) (t tk : Tok) (h' : Heap) (tk' : Nat), Fr h₀ L h' m → News h₀ L h' ((y, cellI e) :: (e, cellD w (cid ((p - 1).fmod (6 * 2 ^ (2 * l).toNat)) l) t tk) :: news) → R (.ok (.ret (.ref y))) { s with heap := h', toks := tk' }) :
    codeAny (model PR w) (ktrTop dp un gd cn cs L a ccd cl outer) (.call (.ref 342) ⟨[.ref x], []⟩) R s := by
  have hb := lsb_le (l := l) h0
  have hz := pw (60 - 2 * l).toNat
  have hT := tot_le (l := l) h1
  have hT0 := pw (2 * l).toNat
  by_cases h : p = 0
  · have hn : (cid (p - 1) l).fmod 18446744073709551615 = 18446744073709551615 - 2 ^ (60 - 2 * l).toNat := by subst h; exact prev_first h0 h1
    have hq : (p - 1).fmod (6 * 2 ^ (2 * l).toNat) = 6 * 2 ^ (2 * l).toNat - 1 := by subst h; exact fmod_is (q := -1) (by omega) (by omega) (by omega)
    have hM : ((18446744073709551615 : Int) - 2 ^ (60 - 2 * l).toNat + 13835058055282163712).fmod 18446744073709551615 = cid (6 * 2 ^ (2 * l).toNat - 1) l := by
      rw [last_cid h0 h1]; exact fmod_is (q := 1) (by omega) (by omega) (by omega)
    have hlt : ¬ (18446744073709551615 : Int) - 2 ^ (60 - 2 * l).toNat < 13835058055282163712 := by omega
    rw [hq] at ret
    w_top off
    k_dflt (walk_at "ENTER")
    k_steps
    all_goals first
    | ((rename News _ _ _ _ => kN9); exact ret _ _ _ _ _ _ (by k_asm) (cell_drop kN9 (by intro p9 h9; simp only [List.mem_cons, h9, or_true])))
    | fail "an end"
  · have hn : (cid (p - 1) l).fmod 18446744073709551615 = cid (p - 1) l := cid_fmod h0 h1 (by omega) (by omega)
    have hq : (p - 1).fmod (6 * 2 ^ (2 * l).toNat) = p - 1 := fmod_is (q := 0) (by omega) (by omega) (by omega)
    have hlt : cid (p - 1) l < 13835058055282163712 := cid_lt h0 h1 (by omega)
    rw [hq] at ret
    w_top off
    k_dflt (walk_at "ENTER")
    k_steps
    all_goals first
    | ((rename News _ _ _ _ => kN9); exact ret _ _ _ _ _ _ (by k_asm) kN9)
    | fail "an end"
theorem pwrapC {x d : Addr} {p l : Int} {t tk : Tok} (B : Below A₀ base outer h₀) (F : Fr h₀ L s.heap m) (X : (K4 w.params).In h₀) (N : News h₀ L s.heap news) (T : Top V4 loose mean mg mb h₀) (hk : cs.kind = .function)
    (hx : (x, cellI d) ∈ news) (hdx : (d, cellD w (cid p l) t tk) ∈ news) (h0 : 0 ≤ l) (h1 : l ≤ 30) (hp0 : 0 ≤ p) (hp : p < 6 * 2 ^ (2 * l).toNat)  (hd : dp + 6 < recursionLimit) (hu : un + 48 < cLine)
    (ret : ∀ (y e : Addr) (t tk : Tok) (h' : Heap) (tk' : Nat), Fr h₀ L h' m → News h₀ L h' ((y, cellI e) :: (e, cellD w (cid ((p - 1).fmod (6 * 2 ^ (2 * l).toNat)) l) t tk) :: news) → Q (.ref y) { s with heap := h', toks := tk' }) :
    wpAny (model PR w) (ktrTop dp un gd cn cs L a ccd cl outer) (call (.ref 342) [.ref x]) Q E s := wpAny_call (pwrapC0 B F X N T hk hx hdx h0 h1 hp0 hp hd hu ret)
local macro_rules | `(tactic| walk_at "call ref") => `(tactic| ((with_reducible show wpAny _ _ (call (Value.ref 342) _) _ _ _); k_here; k_dflt (refine' pwrapC ?k1 ?k2 ?k3 ?k4 ?k5 ?kK ?s0 ?s1 ?s2 ?s3 ?s4 ?s5 ?kd ?ku ?_; (case k1 => k_asm); (case k2 => k_asm); (case k3 => k_asm); (case k4 => k_asm); (case k5 => k_asm); (case kK => first | exact rfl | assumption); (case s0 => k_mem); (case s1 => k_mem); (case s2 => omega); (case s3 => omega); (case s4 => first | assumption | omega); (case s5 => first | assumption | omega); (case kd => ktr_room); (case ku => ktr_units); k_whole; intro y9 e9 t9 tk9 h9 tt9 F9 N9; (try dsimp only); (try k_fold))))
theorem nwrapC0 {x d : Addr} {p l : Int} {t tk : Tok} (B : Below A₀ base outer h₀) (F : Fr h₀ L s.heap m) (X : (K4 w.params).In h₀) (N : News h₀ L s.heap news) (T : Top V4 loose mean mg mb h₀) (hk : cs.kind = .function)
    (hx : (x, cellI d) ∈ news) (hdx : (d, cellD w (cid p l) t tk) ∈ news) (h0 : 0 ≤ l) (h1 : l ≤ 30) (hp0 : 0 ≤ p) (hp : p < 6 * 2 ^ (2 * l).toNat)  (hd : dp + 6 < recursionLimit) (hu : un + 48 < cLine)
    (ret : ∀ (y e : Addr) (t tk : Tok) (h' : Heap) (tk' : Nat), Fr h₀ L h' m → News h₀ L h' ((y, cellI e) :: (e, cellD w (cid ((p + 1).fmod (6 * 2 ^ (2 * l).toNat)) l) t tk) :: news) → R (.ok (.ret (.ref y))) { s with heap := h', toks := tk' }) :
    codeAny (model PR w) (ktrTop dp un gd cn cs L a ccd cl outer) (.call (.ref 349) ⟨[.ref x], []⟩) R s := by
  have hb := lsb_le (l := l) h0
  have hz := pw (60 - 2 * l).toNat
  have hT := tot_le (l := l) h1
  have hT0 := pw (2 * l).toNat
  have hn : (cid (p + 1) l).fmod 18446744073709551615 = cid (p + 1) l := cid_fmod h0 h1 (by omega) (by omega)
  by_cases h : p + 1 = 6 * 2 ^ (2 * l).toNat
  · have hq : (p + 1).fmod (6 * 2 ^ (2 * l).toNat) = 0 := fmod_is (q := 1) (by omega) (by omega) (by omega)
    have e := end_at h0 h1
    have hM : (cid (p + 1) l - 13835058055282163712).fmod 18446744073709551615 = cid 0 l := by
      rw [h, e, show 13835058055282163712 + (2 : Int) ^ (60 - 2 * l).toNat - 13835058055282163712 = cid 0 l from by unfold cid; omega]
      exact cid_fmod h0 h1 (by omega) (by omega)
    have hlt : ¬ cid (p + 1) l < 13835058055282163712 := by rw [h, e]; omega
    rw [hq] at ret
    w_top off
    k_dflt (walk_at "ENTER")
    k_steps
    all_goals first
    | ((rename News _ _ _ _ => kN9); exact ret _ _ _ _ _ _ (by k_asm) (cell_drop kN9 (by intro p9 h9; simp only [List.mem_cons, h9, or_true])))
    | fail "an end"
  · have hq : (p + 1).fmod (6 * 2 ^ (2 * l).toNat) = p + 1 := fmod_is (q := 0) (by omega) (by omega) (by omega)
    have hlt : cid (p + 1) l < 13835058055282163712 := cid_lt h0 h1 (by omega)
    rw [hq] at ret
    w_top off
    k_dflt (walk_at "ENTER")
    k_steps
    all_goals first
    | ((rename News _ _ _ _ => kN9); exact ret _ _ _ _ _ _ (by k_asm) kN9)
    | fail "an end"
theorem nwrapC {x d : Addr} {p l : Int} {t tk : Tok} (B : Below A₀ base outer h₀) (F : Fr h₀ L s.heap m) (X : (K4 w.params).In h₀) (N : News h₀ L s.heap news) (T : Top V4 loose mean mg mb h₀) (hk : cs.kind = .function)
    (hx : (x, cellI d) ∈ news) (hdx : (d, cellD w (cid p l) t tk) ∈ news) (h0 : 0 ≤ l) (h1 : l ≤ 30) (hp0 : 0 ≤ p) (hp : p < 6 * 2 ^ (2 * l).toNat)  (hd : dp + 6 < recursionLimit) (hu : un + 48 < cLine)
    (ret : ∀ (y e : Addr) (t tk : Tok) (h' : Heap) (tk' : Nat), Fr h₀ L h' m → News h₀ L h' ((y, cellI e) :: (e, cellD w (cid ((p + 1).fmod (6 * 2 ^ (2 * l).toNat)) l) t tk) :: news) → Q (.ref y) { s with heap := h', toks := tk' }) :
    wpAny (model PR w) (ktrTop dp un gd cn cs L a ccd cl outer) (call (.ref 349) [.ref x]) Q E s := wpAny_call (nwrapC0 B F X N T hk hx hdx h0 h1 hp0 hp hd hu ret)
local macro_rules | `(tactic| walk_at "call ref") => `(tactic| ((with_reducible show wpAny _ _ (call (Value.ref 349) _) _ _ _); k_here; k_dflt (refine' nwrapC ?k1 ?k2 ?k3 ?k4 ?k5 ?kK ?s0 ?s1 ?s2 ?s3 ?s4 ?s5 ?kd ?ku ?_; (case k1 => k_asm); (case k2 => k_asm); (case k3 => k_asm); (case k4 => k_asm); (case k5 => k_asm); (case kK => first | exact rfl | assumption); (case s0 => k_mem); (case s1 => k_mem); (case s2 => omega); (case s3 => omega); (case s4 => first | assumption | omega); (case s5 => first | assumption | omega); (case kd => ktr_room); (case ku => ktr_units); k_whole; intro y9 e9 t9 tk9 h9 tt9 F9 N9; (try dsimp only); (try k_fold))))
theorem advC0 {x d : Addr} {p l : Int} {t tk : Tok} {S : Int} {tS : Tok} (B : Below A₀ base outer h₀) (F : Fr h₀ L s.heap m) (X : (K4 w.params).In h₀) (N : News h₀ L s.heap news) (T : Top V4 loose mean mg mb h₀) (hk : cs.kind = .function)
    (hx : (x, cellI d) ∈ news) (hdx : (d, cellD w (cid p l) t tk) ∈ news) (h0 : 0 ≤ l) (h1 : l ≤ 30) (hp0 : 0 ≤ p) (hp : p ≤ 6 * 2 ^ (2 * l).toNat)  (hd : dp + 6 < recursionLimit) (hu : un + 48 < cLine)
    (ret : ∀ (y e : Addr) (t tk : Tok) (h' : Heap) (tk' : Nat), Fr h₀ L h' m → News h₀ L h' ((y, cellI e) :: (e, cellD w (cid (max 0 (min (6 * 2 ^ (2 * l).toNat) (p + S))) l) t tk) :: news) → R (.ok (.ret (.ref y))) { s with heap := h', toks := tk' }) :
    codeAny (model PR w) (ktrTop dp un gd cn cs L a ccd cl outer) (.call (.ref 363) ⟨[.ref x, .int S tS], []⟩) R s := by
  have hb := lsb_le (l := l) h0
  have hz := pw (60 - 2 * l).toNat
  have hA := cid_div (p := p) h0 h1
  have hB := max_adv (p := p) h0 h1
  have hT := tot_le (l := l) h1
  have hT0 := pw (2 * l).toNat
  have hM : ∀ S : Int, 0 ≤ p + S → p + S ≤ 6 * 2 ^ (2 * l).toNat → (cid p l + S * 2 ^ (2 * (30 - l) + 1).toNat).fmod 18446744073709551615 = cid (p + S) l := fun S a b => by
    rw [move_cid p l S h1]; exact cid_fmod h0 h1 a b
  w_top off
  k_dflt (walk_at "ENTER")
  k_steps
  all_goals first
    | ((rename News _ _ _ _ => kN9); exact ret x d t _ _ _ (by k_asm) (cell_end (self_back kN9 hx hdx) (by omega)))
    | ((rename News _ _ _ _ => kN9); rw [hM _ (by omega) (by omega)] at kN9; exact ret _ _ _ _ _ _ (by k_asm) (cell_drop (cell_end kN9 (by omega)) (by intro p9 h9; simp only [List.mem_cons, h9, or_true])))
    | fail "an end"
theorem advC {x d : Addr} {p l : Int} {t tk : Tok} {S : Int} {tS : Tok} (B : Below A₀ base outer h₀) (F : Fr h₀ L s.heap m) (X : (K4 w.params).In h₀) (N : News h₀ L s.heap news) (T : Top V4 loose mean mg mb h₀) (hk : cs.kind = .function)
    (hx : (x, cellI d) ∈ news) (hdx : (d, cellD w (cid p l) t tk) ∈ news) (h0 : 0 ≤ l) (h1 : l ≤ 30) (hp0 : 0 ≤ p) (hp : p ≤ 6 * 2 ^ (2 * l).toNat)  (hd : dp + 6 < recursionLimit) (hu : un + 48 < cLine)
    (ret : ∀ (y e : Addr) (t tk : Tok) (h' : Heap) (tk' : Nat), Fr h₀ L h' m → News h₀ L h' ((y, cellI e) :: (e, cellD w (cid (max 0 (min (6 * 2 ^ (2 * l).toNat) (p + S))) l) t tk) :: news) → Q (.ref y) { s with heap := h', toks := tk' }) :
    wpAny (model PR w) (ktrTop dp un gd cn cs L a ccd cl outer) (call (.ref 363) [.ref x, .int S tS]) Q E s := wpAny_call (advC0 B F X N T hk hx hdx h0 h1 hp0 hp hd hu ret)
local macro_rules | `(tactic| walk_at "call ref") => `(tactic| ((with_reducible show wpAny _ _ (call (Value.ref 363) _) _ _ _); k_here; k_dflt (refine' advC ?k1 ?k2 ?k3 ?k4 ?k5 ?kK ?s0 ?s1 ?s2 ?s3 ?s4 ?s5 ?kd ?ku ?_; (case k1 => k_asm); (case k2 => k_asm); (case k3 => k_asm); (case k4 => k_asm); (case k5 => k_asm); (case kK => first | exact rfl | assumption); (case s0 => k_mem); (case s1 => k_mem); (case s2 => omega); (case s3 => omega); (case s4 => first | assumption | omega); (case s5 => first | assumption | omega); (case kd => ktr_room); (case ku => ktr_units); k_whole; intro y9 e9 t9 tk9 h9 tt9 F9 N9; (try dsimp only); (try k_fold))))
theorem advwC0 {x d : Addr} {p l : Int} {t tk : Tok} {S : Int} {tS : Tok} (B : Below A₀ base outer h₀) (F : Fr h₀ L s.heap m) (X : (K4 w.params).In h₀) (N : News h₀ L s.heap news) (T : Top V4 loose mean mg mb h₀) (hk : cs.kind = .function)
    (hx : (x, cellI d) ∈ news) (hdx : (d, cellD w (cid p l) t tk) ∈ news) (h0 : 0 ≤ l) (h1 : l ≤ 30) (hp0 : 0 ≤ p) (hp : p < 6 * 2 ^ (2 * l).toNat)  (hd : dp + 6 < recursionLimit) (hu : un + 48 < cLine)
    (ret : ∀ (y e : Addr) (t tk : Tok) (h' : Heap) (tk' : Nat), Fr h₀ L h' m → News h₀ L h' ((y, cellI e) :: (e, cellD w (cid ((p + S).fmod (6 * 2 ^ (2 * l).toNat)) l) t tk) :: news) → R (.ok (.ret (.ref y))) { s with heap := h', toks := tk' }) :
    codeAny (model PR w) (ktrTop dp un gd cn cs L a ccd cl outer) (.call (.ref 356) ⟨[.ref x, .int S tS], []⟩) R s := by
  have hb := lsb_le (l := l) h0
  have hz := pw (60 - 2 * l).toNat
  have hA := cid_div (p := p) h0 h1
  have hB := max_wrap (p := p) h0 h1
  have hC := wrap_div h0 h1
  have hT1 : (0 : Int) < 6 * 2 ^ (2 * l).toNat := by omega
  obtain ⟨q1, e1, r10, r11⟩ := fmod_parts S hT1
  obtain ⟨q2, e2, r20, r21⟩ := fmod_parts (-S) hT1
  rw [← hC] at r10 r11 r20 r21
  have hT := tot_le (l := l) h1
  have hT0 := pw (2 * l).toNat
  have hM : ∀ S : Int, 0 ≤ p + S → p + S ≤ 6 * 2 ^ (2 * l).toNat → (cid p l + S * 2 ^ (2 * (30 - l) + 1).toNat).fmod 18446744073709551615 = cid (p + S) l := fun S a b => by
    rw [move_cid p l S h1]; exact cid_fmod h0 h1 a b
  w_top off
  k_dflt (walk_at "ENTER")
  k_steps
  all_goals first
    | ((rename News _ _ _ _ => kN9); exact ret x d t _ _ _ (by k_asm) (cell_end (self_back kN9 hx hdx) (by rw [show p + S = p by omega]; exact (fmod_is (q := 0) (by omega) (by omega) (by omega)).symm)))
    | ((rename News _ _ _ _ => kN9); rw [hM _ (by omega) (by omega)] at kN9; (try rw [hC] at *); exact ret _ _ _ _ _ _ (by k_asm) (cell_drop (cell_end kN9 (by first | exact (wrap_in (by omega) (by omega)).symm | exact (wrap_up hT1 rfl (by omega) (by omega)).symm | exact (wrap_dn hT1 rfl (by omega) (by omega)).symm | (rw [wrap_up2 hT1 rfl (by omega) (by omega)]; omega) | (rw [wrap_dn2 hT1 rfl (by omega) (by omega)]; omega) | (rw [wrap_dn hT1 rfl (by omega) (by omega)]; omega))) (by intro p9 h9; simp only [List.mem_cons, h9, or_true])))
    | fail "an end"
theorem advwC {x d : Addr} {p l : Int} {t tk : Tok} {S : Int} {tS : Tok} (B : Below A₀ base outer h₀) (F : Fr h₀ L s.heap m) (X : (K4 w.params).In h₀) (N : News h₀ L s.heap news) (T : Top V4 loose mean mg mb h₀) (hk : cs.kind = .function)
    (hx : (x, cellI d) ∈ news) (hdx : (d, cellD w (cid p l) t tk) ∈ news) (h0 : 0 ≤ l) (h1 : l ≤ 30) (hp0 : 0 ≤ p) (hp : p < 6 * 2 ^ (2 * l).toNat)  (hd : dp + 6 < recursionLimit) (hu : un + 48 < cLine)
    (ret : ∀ (y e : Addr) (t tk : Tok) (h' : Heap) (tk' : Nat), Fr h₀ L h' m → News h₀ L h' ((y, cellI e) :: (e, cellD w (cid ((p + S).fmod (6 * 2 ^ (2 * l).toNat)) l) t tk) :: news) → Q (.ref y) { s with heap := h', toks := tk' }) :
    wpAny (model PR w) (ktrTop dp un gd cn cs L a ccd cl outer) (call (.ref 356) [.ref x, .int S tS]) Q E s := wpAny_call (advwC0 B F X N T hk hx hdx h0 h1 hp0 hp hd hu ret)
local macro_rules | `(tactic| walk_at "call ref") => `(tactic| ((with_reducible show wpAny _ _ (call (Value.ref 356) _) _ _ _); k_here; k_dflt (refine' advwC ?k1 ?k2 ?k3 ?k4 ?k5 ?kK ?s0 ?s1 ?s2 ?s3 ?s4 ?s5 ?kd ?ku ?_; (case k1 => k_asm); (case k2 => k_asm); (case k3 => k_asm); (case k4 => k_asm); (case k5 => k_asm); (case kK => first | exact rfl | assumption); (case s0 => k_mem); (case s1 => k_mem); (case s2 => omega); (case s3 => omega); (case s4 => first | assumption | omega); (case s5 => first | assumption | omega); (case kd => ktr_room); (case ku => ktr_units); k_whole; intro y9 e9 t9 tk9 h9 tt9 F9 N9; (try dsimp only); (try k_fold))))
theorem lawnumC0 {lp : Addr} {vs : List Value} {ns : List Int} {i : Int} {ti : Tok} (B : Below A₀ base outer h₀) (F : Fr h₀ L s.heap m) (X : (K4 w.params).In h₀) (N : News h₀ L s.heap news) (T : Top V4 loose mean mg mb h₀) (hk : cs.kind = .function)
    (hl : base.IsList lp vs.toArray) (hi : IntsAre vs ns) (hn : ns.length ≤ 63) (hi0 : 0 ≤ i) (hi1 : i < 64) (hd : dp + 2 < recursionLimit) (hu : un + 16 < cLine)
    (ret : ∀ (t : Tok) (h' : Heap) (tk' : Nat), Fr h₀ L h' m → News h₀ L h' news → R (.ok (.ret (.int (num ns i) t))) { s with heap := h', toks := tk' }) :
    codeAny (model PR w) (ktrTop dp un gd cn cs L a ccd cl outer) (.call (.ref 436) ⟨[.ref lp, .int i ti], []⟩) R s := by
  w_top off
  k_dflt (walk_at "ENTER")
  k_steps
  all_goals first
    | (refine cb_retR ret ?e1 ?e2 ?e3; (case e1 => (unfold num; first | rw [if_pos (by omega)] | rw [if_neg (by omega)])); (case e2 => k_asm); (case e3 => k_asm))
    | fail "an end"
theorem lawnumC {lp : Addr} {vs : List Value} {ns : List Int} {i : Int} {ti : Tok} (B : Below A₀ base outer h₀) (F : Fr h₀ L s.heap m) (X : (K4 w.params).In h₀) (N : News h₀ L s.heap news) (T : Top V4 loose mean mg mb h₀) (hk : cs.kind = .function)
    (hl : base.IsList lp vs.toArray) (hi : IntsAre vs ns) (hn : ns.length ≤ 63) (hi0 : 0 ≤ i) (hi1 : i < 64) (hd : dp + 2 < recursionLimit) (hu : un + 16 < cLine)
    (ret : ∀ (t : Tok) (h' : Heap) (tk' : Nat), Fr h₀ L h' m → News h₀ L h' news → Q (.int (num ns i) t) { s with heap := h', toks := tk' }) :
    wpAny (model PR w) (ktrTop dp un gd cn cs L a ccd cl outer) (call (.ref 436) [.ref lp, .int i ti]) Q E s := wpAny_call (lawnumC0 B F X N T hk hl hi hn hi0 hi1 hd hu ret)
local macro_rules | `(tactic| walk_at "call ref") => `(tactic| ((with_reducible show wpAny _ _ (call (Value.ref 436) _) _ _ _); k_here; k_dflt (refine' lawnumC ?k1 ?k2 ?k3 ?k4 ?k5 ?kK ?s0 ?s1 ?s2 ?s3 ?s4 ?kd ?ku ?_; (case k1 => k_asm); (case k2 => k_asm); (case k3 => k_asm); (case k4 => k_asm); (case k5 => k_asm); (case kK => first | exact rfl | assumption); (case s0 => k_asm); (case s1 => l_ints); (case s2 => omega); (case s3 => omega); (case s4 => omega); (case kd => ktr_room); (case ku => ktr_units); k_whole; intro t9 h9 tk9 F9 N9; (try dsimp only); (try k_fold))))
theorem lawidC0 {p l : Int} {t1 t2 : Tok} (B : Below A₀ base outer h₀) (F : Fr h₀ L s.heap m) (X : (K4 w.params).In h₀) (N : News h₀ L s.heap news) (T : Top V4 loose mean mg mb h₀) (hk : cs.kind = .function)
    (h0 : 0 ≤ l) (h1 : l ≤ 30) (hp0 : 0 ≤ p) (hp : p ≤ 6 * 2 ^ (2 * l).toNat) (hd : dp + 2 < recursionLimit) (hu : un + 16 < cLine)
    (ret : ∀ (t : Tok) (h' : Heap) (tk' : Nat), Fr h₀ L h' m → News h₀ L h' news → R (.ok (.ret (.int (cid p l) t))) { s with heap := h', toks := tk' }) :
    codeAny (model PR w) (ktrTop dp un gd cn cs L a ccd cl outer) (.call (.ref 443) ⟨[.int p t1, .int l t2], []⟩) R s := by
  have hq := tot_le (l := l) h1
  w_top off
  k_dflt (walk_at "ENTER")
  k_steps
  all_goals first
    | (exact ret _ _ _ (by k_asm) (by k_asm))
    | fail "an end"
theorem lawidC {p l : Int} {t1 t2 : Tok} (B : Below A₀ base outer h₀) (F : Fr h₀ L s.heap m) (X : (K4 w.params).In h₀) (N : News h₀ L s.heap news) (T : Top V4 loose mean mg mb h₀) (hk : cs.kind = .function)
    (h0 : 0 ≤ l) (h1 : l ≤ 30) (hp0 : 0 ≤ p) (hp : p ≤ 6 * 2 ^ (2 * l).toNat) (hd : dp + 2 < recursionLimit) (hu : un + 16 < cLine)
    (ret : ∀ (t : Tok) (h' : Heap) (tk' : Nat), Fr h₀ L h' m → News h₀ L h' news → Q (.int (cid p l) t) { s with heap := h', toks := tk' }) :
    wpAny (model PR w) (ktrTop dp un gd cn cs L a ccd cl outer) (call (.ref 443) [.int p t1, .int l t2]) Q E s := wpAny_call (lawidC0 B F X N T hk h0 h1 hp0 hp hd hu ret)
local macro_rules | `(tactic| walk_at "call ref") => `(tactic| ((with_reducible show wpAny _ _ (call (Value.ref 443) _) _ _ _); k_here; k_dflt (refine' lawidC ?k1 ?k2 ?k3 ?k4 ?k5 ?kK ?s0 ?s1 ?s2 ?s3 ?kd ?ku ?_; (case k1 => k_asm); (case k2 => k_asm); (case k3 => k_asm); (case k4 => k_asm); (case k5 => k_asm); (case kK => first | exact rfl | assumption); (case s0 => omega); (case s1 => omega); (case s2 => first | omega | (split <;> omega)); (case s3 => first | assumption | omega | (split <;> omega)); (case kd => ktr_room); (case ku => ktr_units); k_whole; intro t9 h9 tk9 F9 N9; (try dsimp only); (try k_fold))))
end
local macro_rules | `(tactic| walk_at "call ref") => `(tactic| ((with_reducible show wpAny _ _ (call (Value.ref 425) _) _ _ _); k_here; k_dflt (refine' mkC ?k1 ?k2 ?k3 ?k4 ?k5 ?kK ?s0 ?kd ?ku ?_; (case k1 => k_asm); (case k2 => k_asm); (case k3 => k_asm); (case k4 => k_asm); (case k5 => k_asm); (case kK => first | exact rfl | assumption); (case s0 => first | assumption | exact rfl); (case kd => ktr_room); (case ku => ktr_units); k_whole; intro y9 e9 t9 tk9 h9 tt9 F9 N9 l1 l2; (try dsimp only); (try k_fold))))
local macro_rules | `(tactic| walk_at "call ref") => `(tactic| ((with_reducible show wpAny _ _ (call (Value.ref 194) _) _ _ _); k_here; k_dflt (refine' idC ?k1 ?k2 ?k3 ?k4 ?k5 ?kK ?s0 ?s1 ?kd ?ku ?_; (case k1 => k_asm); (case k2 => k_asm); (case k3 => k_asm); (case k4 => k_asm); (case k5 => k_asm); (case kK => first | exact rfl | assumption); (case s0 => k_mem); (case s1 => k_mem); (case kd => ktr_room); (case ku => ktr_units); k_whole; intro t9 h9 tk9 F9 N9; (try dsimp only); (try k_fold))))
local macro_rules | `(tactic| walk_at "call ref") => `(tactic| ((with_reducible show wpAny _ _ (call (Value.ref 208) _) _ _ _); k_here; k_dflt (refine' lsbC ?k1 ?k2 ?k3 ?k4 ?k5 ?kK ?s0 ?s1 ?kd ?ku ?_; (case k1 => k_asm); (case k2 => k_asm); (case k3 => k_asm); (case k4 => k_asm); (case k5 => k_asm); (case kK => first | exact rfl | assumption); (case s0 => k_mem); (case s1 => k_mem); (case kd => ktr_room); (case ku => ktr_units); k_whole; intro t9 h9 tk9 F9 N9; (try dsimp only); (try k_fold))))
local macro_rules | `(tactic| walk_at "call ref") => `(tactic| ((with_reducible show wpAny _ _ (call (Value.ref 215) _) _ _ _); k_here; k_dflt (refine' faceC ?k1 ?k2 ?k3 ?k4 ?k5 ?kK ?s0 ?s1 ?kd ?ku ?_; (case k1 => k_asm); (case k2 => k_asm); (case k3 => k_asm); (case k4 => k_asm); (case k5 => k_asm); (case kK => first | exact rfl | assumption); (case s0 => k_mem); (case s1 => k_mem); (case kd => ktr_room); (case ku => ktr_units); k_whole; intro t9 h9 tk9 F9 N9; (try dsimp only); (try k_fold))))
local macro_rules | `(tactic| walk_at "call ref") => `(tactic| ((with_reducible show wpAny _ _ (call (Value.ref 229) _) _ _ _); k_here; k_dflt (refine' leafC ?k1 ?k2 ?k3 ?k4 ?k5 ?kK ?s0 ?s1 ?s2 ?kd ?ku ?_; (case k1 => k_asm); (case k2 => k_asm); (case k3 => k_asm); (case k4 => k_asm); (case k5 => k_asm); (case kK => first | exact rfl | assumption); (case s0 => k_mem); (case s1 => k_mem); (case s2 => first | assumption | exact rfl); (case kd => ktr_room); (case ku => ktr_units); k_whole; intro h9 tk9 F9 N9; (try dsimp only); (try k_fold))))
local macro_rules | `(tactic| walk_at "call ref") => `(tactic| ((with_reducible show wpAny _ _ (call (Value.ref 201) _) _ _ _); k_here; k_dflt (refine' validC ?k1 ?k2 ?k3 ?k4 ?k5 ?kK ?s0 ?s1 ?s2 ?s3 ?kd ?ku ?_; (case k1 => k_asm); (case k2 => k_asm); (case k3 => k_asm); (case k4 => k_asm); (case k5 => k_asm); (case kK => first | exact rfl | assumption); (case s0 => k_mem); (case s1 => k_mem); (case s2 => assumption); (case s3 => assumption); (case kd => ktr_room); (case ku => ktr_units); k_whole; intro h9 tk9 F9 N9; (try dsimp only); (try k_fold))))
local macro_rules | `(tactic| walk_at "call ref") => `(tactic| ((with_reducible show wpAny _ _ (call (Value.ref 236) _) _ _ _); k_here; k_dflt (refine' levelC ?k1 ?k2 ?k3 ?k4 ?k5 ?kK ?s0 ?s1 ?s2 ?s3 ?kd ?ku ?_; (case k1 => k_asm); (case k2 => k_asm); (case k3 => k_asm); (case k4 => k_asm); (case k5 => k_asm); (case kK => first | exact rfl | assumption); (case s0 => k_mem); (case s1 => k_mem); (case s2 => omega); (case s3 => omega); (case kd => ktr_room); (case ku => ktr_units); k_whole; intro t9 h9 tk9 F9 N9; (try dsimp only); (try k_fold))))
local macro_rules | `(tactic| walk_at "call ref") => `(tactic| ((with_reducible show wpAny _ _ (call (Value.ref 208) _) _ _ _); k_here; k_dflt (refine' lsbK ?k1 ?k2 ?k3 ?k4 ?k5 ?kK ?s0 ?s1 ?kd ?ku ?_; (case k1 => k_asm); (case k2 => k_asm); (case k3 => k_asm); (case k4 => k_asm); (case k5 => k_asm); (case kK => first | exact rfl | assumption); (case s0 => k_mem); (case s1 => k_mem); (case kd => ktr_room); (case ku => ktr_units); k_whole; intro t9 h9 tk9 F9 N9; (try dsimp only); (try k_fold))))
local macro_rules | `(tactic| walk_at "call ref") => `(tactic| ((with_reducible show wpAny _ _ (call (Value.ref 201) _) _ _ _); k_here; k_dflt (refine' validK ?k1 ?k2 ?k3 ?k4 ?k5 ?kK ?s0 ?s1 ?s2 ?s3 ?s4 ?kd ?ku ?_; (case k1 => k_asm); (case k2 => k_asm); (case k3 => k_asm); (case k4 => k_asm); (case k5 => k_asm); (case kK => first | exact rfl | assumption); (case s0 => k_mem); (case s1 => k_mem); (case s2 => omega); (case s3 => omega); (case s4 => first | assumption | omega); (case kd => ktr_room); (case ku => ktr_units); k_whole; intro h9 tk9 F9 N9; (try dsimp only); (try k_fold))))
local macro_rules | `(tactic| walk_at "call ref") => `(tactic| ((with_reducible show wpAny _ _ (call (Value.ref 149) _) _ _ _); k_here; k_dflt (refine' lflC ?k1 ?k2 ?k3 ?k4 ?k5 ?kK ?s0 ?s1 ?kd ?ku ?_; (case k1 => k_asm); (case k2 => k_asm); (case k3 => k_asm); (case k4 => k_asm); (case k5 => k_asm); (case kK => first | exact rfl | assumption); (case s0 => omega); (case s1 => omega); (case kd => ktr_room); (case ku => ktr_units); k_whole; intro t9 h9 tk9 F9 N9; (try dsimp only); (try k_fold))))
local macro_rules | `(tactic| walk_at "call ref") => `(tactic| ((fail_if_success (with_reducible show wpAny _ _ (call (Value.ref (OfNat.ofNat _)) _) _ _ _)); k_here; k_dflt (refine' call_meth ?kN ?kq ?_; (case kN => k_asm); (case kq => k_mem); refine' lflC0 ?k1 ?k2 ?k3 ?k4 ?k5 ?kK ?s0 ?s1 ?kd ?ku ?_; (case k1 => k_asm); (case k2 => k_asm); (case k3 => k_asm); (case k4 => k_asm); (case k5 => k_asm); (case kK => first | exact rfl | assumption); (case s0 => omega); (case s1 => omega); (case kd => ktr_room); (case ku => ktr_units); k_whole; intro t9 h9 tk9 F9 N9; (try dsimp only); (try k_fold))))
local macro_rules | `(tactic| walk_at "call ref") => `(tactic| ((with_reducible show wpAny _ _ (call (Value.ref 257) _) _ _ _); k_here; k_dflt (refine' prevC ?k1 ?k2 ?k3 ?k4 ?k5 ?kK ?s0 ?s1 ?s2 ?s3 ?s4 ?kd ?ku ?_; (case k1 => k_asm); (case k2 => k_asm); (case k3 => k_asm); (case k4 => k_asm); (case k5 => k_asm); (case kK => first | exact rfl | assumption); (case s0 => k_mem); (case s1 => k_mem); (case s2 => omega); (case s3 => omega); (case s4 => first | assumption | exact rfl); (case kd => ktr_room); (case ku => ktr_units); k_whole; intro y9 e9 t9 tk9 h9 tt9 F9 N9; (try dsimp only); (try k_fold))))
local macro_rules | `(tactic| walk_at "call ref") => `(tactic| ((with_reducible show wpAny _ _ (call (Value.ref 264) _) _ _ _); k_here; k_dflt (refine' nextC ?k1 ?k2 ?k3 ?k4 ?k5 ?kK ?s0 ?s1 ?s2 ?s3 ?s4 ?kd ?ku ?_; (case k1 => k_asm); (case k2 => k_asm); (case k3 => k_asm); (case k4 => k_asm); (case k5 => k_asm); (case kK => first | exact rfl | assumption); (case s0 => k_mem); (case s1 => k_mem); (case s2 => omega); (case s3 => omega); (case s4 => first | assumption | exact rfl); (case kd => ktr_room); (case ku => ktr_units); k_whole; intro y9 e9 t9 tk9 h9 tt9 F9 N9; (try dsimp only); (try k_fold))))
local macro_rules | `(tactic| walk_at "call ref") => `(tactic| ((with_reducible show wpAny _ _ (call (Value.ref 159) _) _ _ _); k_here; k_dflt (refine' parentC ?k1 ?k2 ?k3 ?k4 ?k5 ?kK ?s0 ?s1 ?s2 ?s3 ?s4 ?s5 ?s6 ?s7 ?kd ?ku ?_; (case k1 => k_asm); (case k2 => k_asm); (case k3 => k_asm); (case k4 => k_asm); (case k5 => k_asm); (case kK => first | exact rfl | assumption); (case s0 => k_mem); (case s1 => k_mem); (case s2 => omega); (case s3 => omega); (case s4 => first | assumption | omega); (case s5 => first | assumption | omega); (case s6 => omega); (case s7 => omega); (case kd => ktr_room); (case ku => ktr_units); k_whole; intro y9 e9 t9 tk9 h9 tt9 F9 N9; (try dsimp only); (try k_fold))))
local macro_rules | `(tactic| walk_at "call ref") => `(tactic| ((with_reducible show wpAny _ _ (call (Value.ref 99) _) _ _ _); k_here; k_dflt (refine' ffplC ?k1 ?k2 ?k3 ?k4 ?k5 ?kK ?s0 ?s1 ?kd ?ku ?_; (case k1 => k_asm); (case k2 => k_asm); (case k3 => k_asm); (case k4 => k_asm); (case k5 => k_asm); (case kK => first | exact rfl | assumption); (case s0 => omega); (case s1 => omega); (case kd => ktr_room); (case ku => ktr_units); k_whole; intro y9 e9 t9 tk9 h9 tt9 F9 N9; (try dsimp only); (try k_fold))))
local macro_rules | `(tactic| walk_at "call ref") => `(tactic| ((fail_if_success (with_reducible show wpAny _ _ (call (Value.ref (OfNat.ofNat _)) _) _ _ _)); k_here; k_dflt (refine' call_meth ?kN ?kq ?_; (case kN => k_asm); (case kq => k_mem); refine' ffplC0 ?k1 ?k2 ?k3 ?k4 ?k5 ?kK ?s0 ?s1 ?kd ?ku ?_; (case k1 => k_asm); (case k2 => k_asm); (case k3 => k_asm); (case k4 => k_asm); (case k5 => k_asm); (case kK => first | exact rfl | assumption); (case s0 => omega); (case s1 => omega); (case kd => ktr_room); (case ku => ktr_units); k_whole; intro y9 e9 t9 tk9 h9 tt9 F9 N9; (try dsimp only); (try k_fold))))
local macro_rules | `(tactic| walk_at "call ref") => `(tactic| ((with_reducible show wpAny _ _ (call (Value.ref 243) _) _ _ _); k_here; k_dflt (refine' childbC ?k1 ?k2 ?k3 ?k4 ?k5 ?kK ?s0 ?s1 ?s2 ?s3 ?s4 ?s5 ?s6 ?s7 ?kd ?ku ?_; (case k1 => k_asm); (case k2 => k_asm); (case k3 => k_asm); (case k4 => k_asm); (case k5 => k_asm); (case kK => first | exact rfl | assumption); (case s0 => k_mem); (case s1 => k_mem); (case s2 => omega); (case s3 => omega); (case s4 => first | assumption | omega); (case s5 => first | assumption | omega); (case s6 => omega); (case s7 => omega); (case kd => ktr_room); (case ku => ktr_units); k_whole; intro y9 e9 t9 tk9 h9 tt9 F9 N9; (try dsimp only); (try k_fold))))
local macro_rules | `(tactic| walk_at "call ref") => `(tactic| ((with_reducible show wpAny _ _ (call (Value.ref 250) _) _ _ _); k_here; k_dflt (refine' childeC ?k1 ?k2 ?k3 ?k4 ?k5 ?kK ?s0 ?s1 ?s2 ?s3 ?s4 ?s5 ?s6 ?s7 ?kd ?ku ?_; (case k1 => k_asm); (case k2 => k_asm); (case k3 => k_asm); (case k4 => k_asm); (case k5 => k_asm); (case kK => first | exact rfl | assumption); (case s0 => k_mem); (case s1 => k_mem); (case s2 => omega); (case s3 => omega); (case s4 => first | assumption | omega); (case s5 => first | assumption | omega); (case s6 => omega); (case s7 => omega); (case kd => ktr_room); (case ku => ktr_units); k_whole; intro y9 e9 t9 tk9 h9 tt9 F9 N9; (try dsimp only); (try k_fold))))
local macro_rules | `(tactic| walk_at "call ref") => `(tactic| ((with_reducible show wpAny _ _ (call (Value.ref 292) _) _ _ _); k_here; k_dflt (refine' beginC ?k1 ?k2 ?k3 ?k4 ?k5 ?kK ?s0 ?s1 ?kd ?ku ?_; (case k1 => k_asm); (case k2 => k_asm); (case k3 => k_asm); (case k4 => k_asm); (case k5 => k_asm); (case kK => first | exact rfl | assumption); (case s0 => omega); (case s1 => omega); (case kd => ktr_room); (case ku => ktr_units); k_whole; intro y9 e9 t9 tk9 h9 tt9 F9 N9; (try dsimp only); (try k_fold))))
local macro_rules | `(tactic| walk_at "call ref") => `(tactic| ((fail_if_success (with_reducible show wpAny _ _ (call (Value.ref (OfNat.ofNat _)) _) _ _ _)); k_here; k_dflt (refine' call_meth ?kN ?kq ?_; (case kN => k_asm); (case kq => k_mem); refine' beginC0 ?k1 ?k2 ?k3 ?k4 ?k5 ?kK ?s0 ?s1 ?kd ?ku ?_; (case k1 => k_asm); (case k2 => k_asm); (case k3 => k_asm); (case k4 => k_asm); (case k5 => k_asm); (case kK => first | exact rfl | assumption); (case s0 => omega); (case s1 => omega); (case kd => ktr_room); (case ku => ktr_units); k_whole; intro y9 e9 t9 tk9 h9 tt9 F9 N9; (try dsimp only); (try k_fold))))
local macro_rules | `(tactic| walk_at "call ref") => `(tactic| ((with_reducible show wpAny _ _ (call (Value.ref 302) _) _ _ _); k_here; k_dflt (refine' endC ?k1 ?k2 ?k3 ?k4 ?k5 ?kK ?s0 ?s1 ?kd ?ku ?_; (case k1 => k_asm); (case k2 => k_asm); (case k3 => k_asm); (case k4 => k_asm); (case k5 => k_asm); (case kK => first | exact rfl | assumption); (case s0 => omega); (case s1 => omega); (case kd => ktr_room); (case ku => ktr_units); k_whole; intro y9 e9 t9 tk9 h9 tt9 F9 N9; (try dsimp only); (try k_fold))))
local macro_rules | `(tactic| walk_at "call ref") => `(tactic| ((fail_if_success (with_reducible show wpAny _ _ (call (Value.ref (OfNat.ofNat _)) _) _ _ _)); k_here; k_dflt (refine' call_meth ?kN ?kq ?_; (case kN => k_asm); (case kq => k_mem); refine' endC0 ?k1 ?k2 ?k3 ?k4 ?k5 ?kK ?s0 ?s1 ?kd ?ku ?_; (case k1 => k_asm); (case k2 => k_asm); (case k3 => k_asm); (case k4 => k_asm); (case k5 => k_asm); (case kK => first | exact rfl | assumption); (case s0 => omega); (case s1 => omega); (case kd => ktr_room); (case ku => ktr_units); k_whole; intro y9 e9 t9 tk9 h9 tt9 F9 N9; (try dsimp only); (try k_fold))))
local macro_rules | `(tactic| walk_at "call ref") => `(tactic| ((with_reducible show wpAny _ _ (call (Value.ref 342) _) _ _ _); k_here; k_dflt (refine' pwrapC ?k1 ?k2 ?k3 ?k4 ?k5 ?kK ?s0 ?s1 ?s2 ?s3 ?s4 ?s5 ?kd ?ku ?_; (case k1 => k_asm); (case k2 => k_asm); (case k3 => k_asm); (case k4 => k_asm); (case k5 => k_asm); (case kK => first | exact rfl | assumption); (case s0 => k_mem); (case s1 => k_mem); (case s2 => omega); (case s3 => omega); (case s4 => first | assumption | omega); (case s5 => first | assumption | omega); (case kd => ktr_room); (case ku => ktr_units); k_whole; intro y9 e9 t9 tk9 h9 tt9 F9 N9; (try dsimp only); (try k_fold))))
local macro_rules | `(tactic| walk_at "call ref") => `(tactic| ((with_reducible show wpAny _ _ (call (Value.ref 349) _) _ _ _); k_here; k_dflt (refine' nwrapC ?k1 ?k2 ?k3 ?k4 ?k5 ?kK ?s0 ?s1 ?s2 ?s3 ?s4 ?s5 ?kd ?ku ?_; (case k1 => k_asm); (case k2 => k_asm); (case k3 => k_asm); (case k4 => k_asm); (case k5 => k_asm); (case kK => first | exact rfl | assumption); (case s0 => k_mem); (case s1 => k_mem); (case s2 => omega); (case s3 => omega); (case s4 => first | assumption | omega); (case s5 => first | assumption | omega); (case kd => ktr_room); (case ku => ktr_units); k_whole; intro y9 e9 t9 tk9 h9 tt9 F9 N9; (try dsimp only); (try k_fold))))
local macro_rules | `(tactic| walk_at "call ref") => `(tactic| ((with_reducible show wpAny _ _ (call (Value.ref 363) _) _ _ _); k_here; k_dflt (refine' advC ?k1 ?k2 ?k3 ?k4 ?k5 ?kK ?s0 ?s1 ?s2 ?s3 ?s4 ?s5 ?kd ?ku ?_; (case k1 => k_asm); (case k2 => k_asm); (case k3 => k_asm); (case k4 => k_asm); (case k5 => k_asm); (case kK => first | exact rfl | assumption); (case s0 => k_mem); (case s1 => k_mem); (case s2 => omega); (case s3 => omega); (case s4 => first | assumption | omega); (case s5 => first | assumption | omega); (case kd => ktr_room); (case ku => ktr_units); k_whole; intro y9 e9 t9 tk9 h9 tt9 F9 N9; (try dsimp only); (try k_fold))))
local macro_rules | `(tactic| walk_at "call ref") => `(tactic| ((with_reducible show wpAny _ _ (call (Value.ref 356) _) _ _ _); k_here; k_dflt (refine' advwC ?k1 ?k2 ?k3 ?k4 ?k5 ?kK ?s0 ?s1 ?s2 ?s3 ?s4 ?s5 ?kd ?ku ?_; (case k1 => k_asm); (case k2 => k_asm); (case k3 => k_asm); (case k4 => k_asm); (case k5 => k_asm); (case kK => first | exact rfl | assumption); (case s0 => k_mem); (case s1 => k_mem); (case s2 => omega); (case s3 => omega); (case s4 => first | assumption | omega); (case s5 => first | assumption | omega); (case kd => ktr_room); (case ku => ktr_units); k_whole; intro y9 e9 t9 tk9 h9 tt9 F9 N9; (try dsimp only); (try k_fold))))
local macro_rules | `(tactic| walk_at "call ref") => `(tactic| ((with_reducible show wpAny _ _ (call (Value.ref 436) _) _ _ _); k_here; k_dflt (refine' lawnumC ?k1 ?k2 ?k3 ?k4 ?k5 ?kK ?s0 ?s1 ?s2 ?s3 ?s4 ?kd ?ku ?_; (case k1 => k_asm); (case k2 => k_asm); (case k3 => k_asm); (case k4 => k_asm); (case k5 => k_asm); (case kK => first | exact rfl | assumption); (case s0 => k_asm); (case s1 => l_ints); (case s2 => omega); (case s3 => omega); (case s4 => omega); (case kd => ktr_room); (case ku => ktr_units); k_whole; intro t9 h9 tk9 F9 N9; (try dsimp only); (try k_fold))))
local macro_rules | `(tactic| walk_at "call ref") => `(tactic| ((with_reducible show wpAny _ _ (call (Value.ref 443) _) _ _ _); k_here; k_dflt (refine' lawidC ?k1 ?k2 ?k3 ?k4 ?k5 ?kK ?s0 ?s1 ?s2 ?s3 ?kd ?ku ?_; (case k1 => k_asm); (case k2 => k_asm); (case k3 => k_asm); (case k4 => k_asm); (case k5 => k_asm); (case kK => first | exact rfl | assumption); (case s0 => omega); (case s1 => omega); (case s2 => first | omega | (split <;> omega)); (case s3 => first | assumption | omega | (split <;> omega)); (case kd => ktr_room); (case ku => ktr_units); k_whole; intro t9 h9 tk9 F9 N9; (try dsimp only); (try k_fold))))
local macro_rules | `(tactic| walk_at "ite") => `(tactic| (k_here; k_openite; first
  | (refine ite_pos (by (simp only [bne_iff_ne, ne_eq, beq_iff_eq, decide_eq_true_eq, Bool.not_eq_true, bne_eq_false_iff_eq]); omega) ?_; walk_say "DECIDED")
  | (refine ite_neg (by (simp only [bne_iff_ne, ne_eq, beq_iff_eq, decide_eq_true_eq, Bool.not_eq_true, bne_eq_false_iff_eq]); omega) ?_; walk_say "DECIDED")))
def lawFD : List Stmt × Scope := match PR.main.body.getLast? with
  | some (.FunctionDef _ _ b _ _ _ sc _ _ _) => (b, sc)
  | _ => ([], default)
abbrev lawScope : Scope := lawFD.2
def forBody : Option Stmt → List Stmt
  | some (.For _ _ b _ _) => b
  | _ => []
theorem cut_rw {M : Model} {A : Around} {a b : List Stmt} {env : Env} {Q : Flow → Shared → Prop} {E : Value → Shared → Prop} {s : Shared} (hb : a = b) (h : wpAny M A (execs b env) Q E s) : wpAny M A (execs a env) Q E s := hb ▸ h
theorem ov {m : Str → Option Value} {x : Str} {v : Value} (h : m x = some v) : m = fun y => if y = x then some v else m y := by
  funext y
  by_cases hy : y = x
  · rw [if_pos hy, hy, h]
  · rw [if_neg hy]
def Inv4 (w : World) (lp : Addr) (l : Int) (m : Str → Option Value) (news : List (Addr × Obj)) : Prop :=
  ∃ (i ri : Int) (x d xr dr xe de : Addr) (t1 t2 t3 t4 u1 u2 u3 u4 u5 u6 : Tok), 0 ≤ i ∧ i < 6 * 2 ^ (2 * l).toNat ∧ 0 ≤ ri ∧ ri < 6 * 2 ^ (2 * l).toNat ∧
    m (Str.ofString "script") = some (.ref lp) ∧ m (Str.ofString "level") = some (.int l t1) ∧ m (Str.ofString "total") = some (.int (6 * 2 ^ (2 * l).toNat) t2) ∧ m (Str.ofString "index") = some (.int i t3) ∧
    m (Str.ofString "cell") = some (.ref x) ∧ m (Str.ofString "end") = some (.ref xe) ∧ m (Str.ofString "round_cell") = some (.ref xr) ∧ m (Str.ofString "round_index") = some (.int ri t4) ∧
    (x, cellI d) ∈ news ∧ (d, cellD w (cid i l) u1 u2) ∈ news ∧ (xr, cellI dr) ∈ news ∧ (dr, cellD w (cid ri l) u3 u4) ∈ news ∧ (xe, cellI de) ∈ news ∧ (de, cellD w (cid (6 * 2 ^ (2 * l).toNat) l) u5 u6) ∈ news
theorem inv4 {w : World} {lp : Addr} {l : Int} {m : Str → Option Value} {news : List (Addr × Obj)} {i ri : Int} {x d xr dr xe de : Addr} {t1 t2 t3 t4 u1 u2 u3 u4 u5 u6 : Tok}
    (m1 : m (Str.ofString "script") = some (.ref lp)) (m2 : m (Str.ofString "level") = some (.int l t1)) (m3 : m (Str.ofString "total") = some (.int (6 * 2 ^ (2 * l).toNat) t2)) (m4 : m (Str.ofString "index") = some (.int i t3))
    (m5 : m (Str.ofString "cell") = some (.ref x)) (m6 : m (Str.ofString "end") = some (.ref xe)) (m7 : m (Str.ofString "round_cell") = some (.ref xr)) (m8 : m (Str.ofString "round_index") = some (.int ri t4))
    (hx : (x, cellI d) ∈ news) (hdx : (d, cellD w (cid i l) u1 u2) ∈ news) (hxr : (xr, cellI dr) ∈ news) (hdr : (dr, cellD w (cid ri l) u3 u4) ∈ news) (hxe : (xe, cellI de) ∈ news) (hde : (de, cellD w (cid (6 * 2 ^ (2 * l).toNat) l) u5 u6) ∈ news)
    (hp0 : 0 ≤ i) (hp : i < 6 * 2 ^ (2 * l).toNat) (hr0 : 0 ≤ ri) (hr : ri < 6 * 2 ^ (2 * l).toNat) : Inv4 w lp l m news :=
  ⟨i, ri, x, d, xr, dr, xe, de, t1, t2, t3, t4, u1, u2, u3, u4, u5, u6, hp0, hp, hr0, hr, m1, m2, m3, m4, m5, m6, m7, m8, hx, hdx, hxr, hdr, hxe, hde⟩
theorem inv4_mono {w : World} {lp : Addr} {l : Int} (m : Str → Option Value) (news news' : List (Addr × Obj)) (J : Inv4 w lp l m news) (h : ∀ p ∈ news, p.2.cls ≠ .type "range_iterator" → p ∈ news') : Inv4 w lp l m news' := by
  obtain ⟨i, ri, x, d, xr, dr, xe, de, t1, t2, t3, t4, u1, u2, u3, u4, u5, u6, hp0, hp, hr0, hr, m1, m2, m3, m4, m5, m6, m7, m8, hx, hdx, hxr, hdr, hxe, hde⟩ := J
  exact inv4 m1 m2 m3 m4 m5 m6 m7 m8 (h _ hx (by simp)) (h _ hdx (by simp)) (h _ hxr (by simp)) (h _ hdr (by simp)) (h _ hxe (by simp)) (h _ hde (by simp)) hp0 hp hr0 hr
theorem inv4_at {w : World} {lp : Addr} {l : Int} {m : Str → Option Value} {news : List (Addr × Obj)} {v : Option Value} (J : Inv4 w lp l m news) : Inv4 w lp l (fun y => if y = Str.ofString "at" then v else m y) news := by
  obtain ⟨i, ri, x, d, xr, dr, xe, de, t1, t2, t3, t4, u1, u2, u3, u4, u5, u6, hp0, hp, hr0, hr, m1, m2, m3, m4, m5, m6, m7, m8, hx, hdx, hxr, hdr, hxe, hde⟩ := J
  exact inv4 m1 m2 m3 m4 m5 m6 m7 m8 hx hdx hxr hdr hxe hde hp0 hp hr0 hr
theorem cid_congr {a b l : Int} (h : a = b) : cid a l = cid b l := h ▸ rfl

theorem gen_store {M : Model} {A : Around} {E : Value → Shared → Prop} {s : Shared} {name : Str} {scope : Scope} {L a : Addr} {cd : Value} {h₀ : Heap} {m : Str → Option Value} {news : List (Addr × Obj)} {x : Str} {e : Int} {t0 : Tok} {Q : Unit → Shared → Prop} (F : Fr h₀ L s.heap m) (N : News h₀ L s.heap news)
    (h : ∀ D t h', D = e → Fr h₀ L h' (fun y => if y = x then some (.int D t) else m y) → News h₀ L h' news → Q () { s with heap := h', toks := s.toks + 1 })
    (hk : scope.kind = .function := by rfl) (hl : (envOf name scope L a cd).kindOf x = some .local := by rfl) :
    wpAny M A (storeName (envOf name scope L a cd) x (.int e t0)) Q E s := stN F N (fun h' F' N' => h e t0 h' rfl F' N') hk hl
theorem end4 {w : World} {h₀ h' : Heap} {L lp : Addr} {s : Shared} {news news' : List (Addr × Obj)} {l : Int} {m' : Str → Option Value} {Q : Flow → Shared → Prop} {tk' : Nat} (F : Fr h₀ L h' m') (N : News h₀ L h' news') (sub : ∀ p ∈ news, p ∈ news') (J : Inv4 w lp l m' news') :
    TurnPost h₀ L s news (Inv4 w lp l) Q .next { s with heap := h', toks := tk' } := ⟨h', tk', m', news', rfl, F, N, sub, J⟩
theorem fm_of {D x t : Int} (h : D = x.fmod t) (ht : 0 < t) : 0 ≤ D ∧ D < t := by
  subst h
  rw [Int.fmod_eq_emod_of_nonneg _ (Int.le_of_lt ht)]
  exact ⟨Int.emod_nonneg _ (Int.ne_of_gt ht), Int.emod_lt_of_pos _ ht⟩
theorem due_is {D x t : Int} (h : D = if (if x < t then x else t) > 0 then (if x < t then x else t) else 0) : D = max 0 (min t x) := by
  subst h
  (repeat' split) <;> omega
local macro_rules | `(tactic| walk_at "storeName") => `(tactic| (k_here; (with_reducible show wpAny _ _ (storeName _ (PySem.Str.ofString "steps") (Value.int _ _)) _ _ _); (rename Fr _ _ _ _ => kF9); (rename News _ _ _ _ => kN9); k_dflt (refine gen_store kF9 kN9 ?_); intro S9 tS9 h9 hS9 F9 N9; (try dsimp only); clear hS9))
local macro_rules | `(tactic| walk_at "storeName") => `(tactic| (k_here; (with_reducible show wpAny _ _ (storeName _ (PySem.Str.ofString "due") (Value.int _ _)) _ _ _); (rename Fr _ _ _ _ => kF9); (rename News _ _ _ _ => kN9); k_dflt (refine gen_store kF9 kN9 ?_); intro S9 tS9 h9 hS9 F9 N9; (try dsimp only); replace hS9 := due_is hS9))
local macro_rules | `(tactic| walk_at "storeName") => `(tactic| (k_here; (with_reducible show wpAny _ _ (storeName _ (PySem.Str.ofString "round_index") (Value.int (Int.fmod _ _) _)) _ _ _); (rename Fr _ _ _ _ => kF9); (rename News _ _ _ _ => kN9); k_dflt (refine gen_store kF9 kN9 ?_); intro S9 tS9 h9 hS9 F9 N9; (try dsimp only); have hR9 := fm_of hS9 (by omega)))
local macro_rules | `(tactic| walk_at "ite") => `(tactic| (k_here; k_openite; (refine ite_neg (by (simp only [bne_iff_ne, ne_eq, Decidable.not_not]); exact cid_congr (by first | omega | (split <;> omega))) ?_); walk_say "SAME CELL"))
local macro_rules | `(tactic| walk_at "ite") => `(tactic| (k_here; k_openite; (refine ite_neg (by (simp only [bne_self_eq_false, Bool.false_eq_true, not_false_eq_true])) ?_); walk_say "SAME"))

theorem turn4 {w : World} {fa L : Addr} {cdv : Value} {h₀ : Heap} {m : Str → Option Value} {news : List (Addr × Obj)} {s : Shared} {mg mb : Str → Option Value} {loose : List Str} {mean : ExcName → Option Value} {Q : Flow → Shared → Prop} {E : Value → Shared → Prop} {base : Heap}
    {lp : Addr} {vs : List Value} {ns : List Int} {l at_ : Int} {t5 : Tok}
    (B : Below (callerA) base [] h₀) (F : Fr h₀ L s.heap m) (X : (K4 w.params).In h₀) (N : News h₀ L s.heap news) (T : Top V4 loose mean mg mb h₀)
    (hl : base.IsList lp vs.toArray) (hi : IntsAre vs ns) (hn : ns.length ≤ 63) (ha0 : 0 ≤ at_) (ha1 : at_ < 64)
    (h0 : 0 ≤ l) (h1 : l ≤ 30) (J : Inv4 w lp l m news) (m9 : m (Str.ofString "at") = some (.int at_ t5)) :
    wpAny (model PR w) (callerA.deeper (envOf (Str.ofString "law") lawScope L fa cdv)) (execs (forBody (lawFD.1[6]?)) (envOf (Str.ofString "law") lawScope L fa cdv)) (TurnPost h₀ L s news (Inv4 w lp l) Q) E s := by
  obtain ⟨i, ri, x, d, xr, dr, xe, de, t1, t2, t3, t4, u1, u2, u3, u4, u5, u6, hp0, hp, hr0, hr, m1, m2, m3, m4, m5, m6, m7, m8, hx, hdx, hxr, hdr, hxe, hde⟩ := J
  rw [ov m9, ov m8, ov m7, ov m6, ov m5, ov m4, ov m3, ov m2, ov m1] at F
  dsimp only at F
  clear m1 m2 m3 m4 m5 m6 m7 m8 m9
  have f3 := fm_of (x := num ns at_) rfl (show (0 : Int) < 3 by decide)
  w_top off
  refine' cut_rw ?hb ?_
  case hb => kp_lit
  k_steps
  all_goals (rename News _ _ _ _ => kN9)
  all_goals (rename Fr _ _ _ _ => kF9)
  all_goals (rename _ = max _ _ => hD9)
  all_goals (rename _ = Int.fmod _ _ => hE9)
  all_goals (simp only [← hD9, ← hE9] at kN9)
  all_goals (refine end4 kF9 kN9 (by intro p9 h9; simp only [List.mem_cons, h9, or_true]) ?_)
  all_goals (refine' inv4 ?m1 ?m2 ?m3 ?m4 ?m5 ?m6 ?m7 ?m8 ?h1 ?h2 ?h3 ?h4 ?h5 ?h6 ?p1 ?p2 ?p3 ?p4; (case m1 => exact rfl); (case m2 => exact rfl); (case m3 => exact rfl); (case m4 => exact rfl); (case m5 => exact rfl); (case m6 => exact rfl); (case m7 => exact rfl); (case m8 => exact rfl); (case h1 => walk_at "MEM"); (case h2 => walk_at "MEM"); (case h3 => walk_at "MEM"); (case h4 => walk_at "MEM"); (case h5 => walk_at "MEM"); (case h6 => walk_at "MEM"); (case p1 => omega); (case p2 => omega); (case p3 => omega); (case p4 => omega))

theorem low_of {D x l : Int} (h : D = l + x.fmod (31 - l)) (h1 : l ≤ 30) : l ≤ D ∧ D ≤ 30 := by
  have := fm_of (x := x) rfl (show 0 < 31 - l by omega)
  omega
theorem many_facts {i l q : Int} (hi : i < 6 * 2 ^ (2 * l).toNat) (hi0 : 0 ≤ i) (h0 : 0 ≤ l) (h : l ≤ q ∧ q ≤ 30) : 0 < (2 : Int) ^ (2 * (q - l)).toNat ∧ (2 : Int) ^ (2 * (q - l)).toNat ≤ 2 ^ 60 ∧
    0 ≤ i * 2 ^ (2 * (q - l)).toNat ∧ i * 2 ^ (2 * (q - l)).toNat ≤ 6 * 2 ^ (2 * q).toNat ∧ 0 ≤ (i + 1) * 2 ^ (2 * (q - l)).toNat ∧ (i + 1) * 2 ^ (2 * (q - l)).toNat ≤ 6 * 2 ^ (2 * q).toNat := by
  have z := pw (2 * (q - l)).toNat
  have e : (2 : Int) ^ (2 * q).toNat = 2 ^ (2 * l).toNat * 2 ^ (2 * (q - l)).toNat := by rw [← pw_add]; congr 1; omega
  have b := tot_le (l := q - l) (by omega)
  rw [e, ← Int.mul_assoc]
  refine ⟨z, b, Int.mul_nonneg hi0 (Int.le_of_lt z), Int.mul_le_mul_of_nonneg_right (by omega) (Int.le_of_lt z), Int.mul_nonneg (by omega) (Int.le_of_lt z), Int.mul_le_mul_of_nonneg_right (by omega) (Int.le_of_lt z)⟩
theorem gen_store_eq {M : Model} {A : Around} {E : Value → Shared → Prop} {s : Shared} {name : Str} {scope : Scope} {L a : Addr} {cd : Value} {h₀ : Heap} {m : Str → Option Value} {news : List (Addr × Obj)} {x : Str} {e e' : Int} {t0 : Tok} {Q : Unit → Shared → Prop} (F : Fr h₀ L s.heap m) (N : News h₀ L s.heap news) (he : e = e')
    (h : ∀ t h', Fr h₀ L h' (fun y => if y = x then some (.int e' t) else m y) → News h₀ L h' news → Q () { s with heap := h', toks := s.toks + 1 })
    (hk : scope.kind = .function := by rfl) (hl : (envOf name scope L a cd).kindOf x = some .local := by rfl) :
    wpAny M A (storeName (envOf name scope L a cd) x (.int e t0)) Q E s := he ▸ stN F N (fun h' F' N' => h t0 h' (he ▸ F') N') hk hl
local macro_rules | `(tactic| walk_at "storeName") => `(tactic| (k_here; (with_reducible show wpAny _ _ (storeName _ (PySem.Str.ofString "low") (Value.int _ _)) _ _ _); (rename Fr _ _ _ _ => kF9); (rename News _ _ _ _ => kN9); k_dflt (refine gen_store kF9 kN9 ?_); intro S9 tS9 h9 hS9 F9 N9; (try dsimp only); have hR9 := low_of hS9 (by omega); have hM9 := many_facts (by assumption) (by assumption) (by assumption) hR9; clear hS9))
local macro_rules | `(tactic| walk_at "storeName") => `(tactic| (k_here; (with_reducible show wpAny _ _ (storeName _ (PySem.Str.ofString "many") (Value.int _ _)) _ _ _); (rename Fr _ _ _ _ => kF9); (rename News _ _ _ _ => kN9); k_dflt (refine gen_store_eq kF9 kN9 (Int.one_mul _) ?_); intro tS9 h9 F9 N9; (try dsimp only)))
local macro_rules | `(tactic| walk_at "ite") => `(tactic| (k_here; k_openite; (refine ite_neg (by (simp only [bne_iff_ne, ne_eq, Decidable.not_not]); first | exact cid_congr (by congr 1; omega) | (rw [cid_fmod (by omega) (by omega) (by omega) (by omega)]; exact cid_congr (by omega))) ?_); walk_say "SAME CELL 2"))
local macro_rules | `(tactic| walk_at "ite") => `(tactic| (k_here; k_openite; (refine ite_pos (by (simp only [beq_self_eq_true])) ?_); walk_say "SAME ="))
theorem rest4 {w : World} {fa L : Addr} {cdv : Value} {h₀ : Heap} {m : Str → Option Value} {news : List (Addr × Obj)} {s : Shared} {mg mb : Str → Option Value} {loose : List Str} {mean : ExcName → Option Value} {Q : Flow → Shared → Prop} {E : Value → Shared → Prop} {base : Heap}
    {lp : Addr} {vs : List Value} {ns : List Int} {l : Int}
    (B : Below (callerA) base [] h₀) (F : Fr h₀ L s.heap m) (X : (K4 w.params).In h₀) (N : News h₀ L s.heap news) (T : Top V4 loose mean mg mb h₀)
    (hl : base.IsList lp vs.toArray) (hi : IntsAre vs ns) (hn : ns.length ≤ 63)
    (h0 : 0 ≤ l) (h1 : l ≤ 30) (J : Inv4 w lp l m news)
    (ret : ∀ h' tk' m' news', Fr h₀ L h' m' → News h₀ L h' news' → Q (.ret (.bool true)) { s with heap := h', toks := tk' }) :
    wpAny (model PR w) (callerA.deeper (envOf (Str.ofString "law") lawScope L fa cdv)) (execs (lawFD.1.drop 7) (envOf (Str.ofString "law") lawScope L fa cdv)) Q E s := by
  obtain ⟨i, ri, x, d, xr, dr, xe, de, t1, t2, t3, t4, u1, u2, u3, u4, u5, u6, hp0, hp, hr0, hr, m1, m2, m3, m4, m5, m6, m7, m8, hx, hdx, hxr, hdr, hxe, hde⟩ := J
  rw [ov m5, ov m4, ov m3, ov m2, ov m1] at F
  dsimp only at F
  clear m1 m2 m3 m4 m5 m6 m7 m8 hxr hdr hxe hde hr0 hr
  have hT0 := pw (2 * l).toNat
  have f1 := fm_of (x := i + 1) rfl (show (0 : Int) < 6 * 2 ^ (2 * l).toNat by omega)
  have f2 := fm_of (x := i - 1) rfl (show (0 : Int) < 6 * 2 ^ (2 * l).toNat by omega)
  have hnx : (cid (i + 1) l).fmod 18446744073709551615 = cid (i + 1) l := cid_fmod h0 h1 (by omega) (by omega)
  w_top off
  refine' cut_rw ?hb ?_
  case hb => kp_lit
  k_steps
  all_goals first
    | (rw [beq_self_eq_true]; exact ret _ _ _ _ (by k_asm) (by k_asm))
    | fail "an end"

theorem loop4 {w : World} {fa L r : Addr} {cdv : Value} {h₀ : Heap} {m : Str → Option Value} {news : List (Addr × Obj)} {s : Shared} {mg mb : Str → Option Value} {loose : List Str} {mean : ExcName → Option Value} {Q : Flow → Shared → Prop} {E : Value → Shared → Prop} {base : Heap}
    {lp : Addr} {vs : List Value} {ns : List Int} {l : Int} {t₀ u₀ v₀ : Tok} (hr : IsRange s.heap r 2 10 1 t₀ u₀ v₀)
    (B : Below (callerA) base [] h₀) (F : Fr h₀ L s.heap m) (X : (K4 w.params).In h₀) (N : News h₀ L s.heap news) (T : Top V4 loose mean mg mb h₀)
    (hl : base.IsList lp vs.toArray) (hi : IntsAre vs ns) (hn : ns.length ≤ 63)
    (h0 : 0 ≤ l) (h1 : l ≤ 30) (J : Inv4 w lp l m news)
    (ret : ∀ m' news' h' tk', Inv4 w lp l m' news' → Fr h₀ L h' m' → News h₀ L h' news' → Q .next { s with heap := h', toks := tk' }) :
    wpAny (model PR w) (callerA.deeper (envOf (Str.ofString "law") lawScope L fa cdv)) (pyIter (.ref r)) (fun it s₂ => LoopAtV PR w (callerA.deeper (envOf (Str.ofString "law") lawScope L fa cdv)) h₀ (envOf (Str.ofString "law") lawScope L fa cdv) (Str.ofString "at") (forBody (lawFD.1[6]?)) Q E it s₂) E s := by
  refine loop_range (n := 8) (Inv4 w lp l) rfl hr (by decide) (by decide) F N inv4_mono J (fun k t m₁ news₁ h tk hk J₁ F₁ N₁ => ?_) ret
  exact turn4 (s := { s with heap := h, toks := tk }) B F₁ X N₁ T hl hi hn (by omega) (by omega) h0 h1 (inv4_at J₁) rfl
def IdxPost (D : Int) (h₀ : Heap) (L : Addr) (m : Str → Option Value) (news : List (Addr × Obj)) (s : Shared) (v : Value) (s₂ : Shared) : Prop :=
  ∃ i t h tk, v = .int i t ∧ s₂ = { s with heap := h, toks := tk } ∧ Fr h₀ L h m ∧ News h₀ L h news ∧ 0 ≤ i ∧ i < 6 * 2 ^ (2 * D).toNat
theorem idx_join {M : Model} {A : Around} {E : Value → Shared → Prop} {Q : Value → Shared → Prop} {s : Shared} {h₀ : Heap} {L : Addr} {m : Str → Option Value} {news : List (Addr × Obj)} {c : Sem Value} {D : Int} (_hD : 0 ≤ D ∧ D < 31)
    (_F : Fr h₀ L s.heap m) (_N : News h₀ L s.heap news) (hc : wpAny M A c (fun v s₂ => IdxPost D h₀ L m news s v s₂) E s)
    (hk : ∀ (i : Int) (t : Tok) (h : Heap) (tk : Nat), 0 ≤ i → i < 6 * 2 ^ (2 * D).toNat → Fr h₀ L h m → News h₀ L h news → Q (.int i t) { s with heap := h, toks := tk }) : wpAny M A c Q E s := by
  refine wpAny_mono hc (fun v s₂ hq => ?_) fun _ _ h => h
  obtain ⟨i, t, h, tk, rfl, rfl, F, N, a, b⟩ := hq
  exact hk i t h tk a b F N
theorem idx_end {D i : Int} {h₀ h' : Heap} {L : Addr} {m : Str → Option Value} {news news' : List (Addr × Obj)} {s : Shared} {t : Tok} {tk' : Nat} (F : Fr h₀ L h' m) (N : News h₀ L h' news') (sub : ∀ p ∈ news, p ∈ news') (h : 0 ≤ i ∧ i < 6 * 2 ^ (2 * D).toNat) :
    IdxPost D h₀ L m news s (.int i t) { s with heap := h', toks := tk' } := ⟨i, t, h', tk', rfl, rfl, F, fun p hp => N p (sub p hp), h⟩
theorem idx_a (f D : Int) : 0 ≤ (f.fdiv 8).fmod 6 * (1 * 2 ^ (2 * D).toNat) ∧ (f.fdiv 8).fmod 6 * (1 * 2 ^ (2 * D).toNat) < 6 * 2 ^ (2 * D).toNat := by
  have z := pw (2 * D).toNat
  have h6 := fm_of (x := f.fdiv 8) rfl (show (0 : Int) < 6 by decide)
  generalize (f.fdiv 8).fmod 6 = r at *
  generalize (2 : Int) ^ (2 * D).toNat = p at *
  have hr : r = 0 ∨ r = 1 ∨ r = 2 ∨ r = 3 ∨ r = 4 ∨ r = 5 := by omega
  rcases hr with rfl | rfl | rfl | rfl | rfl | rfl <;> omega
theorem idx_b (f D : Int) : 0 ≤ (1 + (f.fdiv 8).fmod 6) * (1 * 2 ^ (2 * D).toNat) - 1 ∧ (1 + (f.fdiv 8).fmod 6) * (1 * 2 ^ (2 * D).toNat) - 1 < 6 * 2 ^ (2 * D).toNat := by
  have z := pw (2 * D).toNat
  have h6 := fm_of (x := f.fdiv 8) rfl (show (0 : Int) < 6 by decide)
  generalize (f.fdiv 8).fmod 6 = r at *
  generalize (2 : Int) ^ (2 * D).toNat = p at *
  have hr : r = 0 ∨ r = 1 ∨ r = 2 ∨ r = 3 ∨ r = 4 ∨ r = 5 := by omega
  rcases hr with rfl | rfl | rfl | rfl | rfl | rfl <;> omega
local macro_rules | `(tactic| walk_at "eval IfExp") => `(tactic| (k_here; (fail_if_success (with_reducible show wpAny _ _ _ (fun v s₂ => IdxPost _ _ _ _ _ _ v s₂) _ _)); (rename _ ≤ _ ∧ _ < (31 : Int) => hL9); (rename Fr _ _ _ _ => kF9); (rename News _ _ _ _ => kN9); (refine idx_join hL9 kF9 kN9 ?_ (fun i9 t9 h9 tk9 p9 q9 F9 N9 => ?_)); (all_goals (try dsimp only))))
local macro_rules | `(tactic| walk_at "IdxPost") => `(tactic| (refine idx_end (by k_asm) (by k_asm) (by intro p9 h9; simp only [List.mem_cons, h9, or_true]) ?_; first | exact idx_a _ _ | exact idx_b _ _ | omega | exact fm_of rfl (by omega)))
local macro_rules | `(tactic| walk_at "storeName") => `(tactic| (k_here; (with_reducible show wpAny _ _ (storeName _ (PySem.Str.ofString "level") (Value.int (Int.fmod _ 31) _)) _ _ _); (rename Fr _ _ _ _ => kF9); (rename News _ _ _ _ => kN9); k_dflt (refine gen_store kF9 kN9 ?_); intro S9 tS9 h9 hS9 F9 N9; (try dsimp only); have hR9 := fm_of hS9 (by decide); have hZ9 := tot_le (l := S9) (by omega); have hY9 := pw (2 * S9).toNat; clear hS9))
local macro_rules | `(tactic| walk_at "call ref") => `(tactic| ((with_reducible show wpAny _ _ (call (Value.ref 425) _) _ _ _); k_here; k_dflt (refine' mkC ?k1 ?k2 ?k3 ?k4 ?k5 ?kK ?s0 ?kd ?ku ?_; (case k1 => k_asm); (case k2 => k_asm); (case k3 => k_asm); (case k4 => k_asm); (case k5 => k_asm); (case kK => first | exact rfl | assumption); (case s0 => exact cid_fmod (by omega) (by omega) (by omega) (by omega)); (case kd => ktr_room); (case ku => ktr_units); k_whole; intro y9 e9 t9 tk9 h9 tt9 F9 N9 l1 l2; (try dsimp only); (try k_fold))))
local macro_rules | `(tactic| walk_at "pyIter ref") => `(tactic| (k_here; (with_reducible show wpAny _ _ (pyIter (Value.ref _)) (fun it s₂ => LoopAtV _ _ _ _ _ _ _ _ _ it s₂) _ _); (rename IsRange _ _ _ _ _ _ _ _ => rg9); k_dflt (refine' loop4 rg9 ?k1 ?k2 ?k3 ?k4 ?k5 ?k6 ?k7 ?k8 ?k9 ?ka ?kb ?_; (case k1 => k_asm); (case k2 => k_asm); (case k3 => k_asm); (case k4 => k_asm); (case k5 => k_asm); (case k6 => k_asm); (case k7 => k_asm); (case k8 => omega); (case kb => (refine' inv4 ?m1 ?m2 ?m3 ?m4 ?m5 ?m6 ?m7 ?m8 ?h1 ?h2 ?h3 ?h4 ?h5 ?h6 ?p1 ?p2 ?p3 ?p4; (case m1 => exact rfl); (case m2 => exact rfl); (case m3 => exact rfl); (case m4 => exact rfl); (case m5 => exact rfl); (case m6 => exact rfl); (case m7 => exact rfl); (case m8 => exact rfl); (case h1 => walk_at "MEM"); (case h2 => walk_at "MEM"); (case h3 => walk_at "MEM"); (case h4 => walk_at "MEM"); (case h5 => walk_at "MEM"); (case h6 => walk_at "MEM"); (case p1 => omega); (case p2 => omega); (case p3 => omega); (case p4 => omega))); (case k9 => omega); (case ka => omega); intro m9 news9 h9 tk9 J9 F9 N9; (try dsimp only); (try k_fold))))
local macro_rules | `(tactic| walk_at "execs cons") => `(tactic| (k_here; (rename Inv4 _ _ _ _ _ => J9); k_dflt (refine' rest4 ?k1 ?k2 ?k3 ?k4 ?k5 ?k6 ?k7 ?k8 ?k9 ?ka J9 ?_; (case k1 => k_asm); (case k2 => k_asm); (case k3 => k_asm); (case k4 => k_asm); (case k5 => k_asm); (case k6 => k_asm); (case k7 => k_asm); (case k8 => omega); (case k9 => omega); (case ka => omega); clear J9; intro h9 tk9 m9 news9 F9 N9; (try dsimp only); (try k_fold))))
theorem w4 : PySem.Challenge.rw_lp0002_04.Holds := by
  w_on
  o_law
  refine holds_open (r := Challenge.rw_lp0002_04.row) (q := V4) (loose := loose4) (Xt := xt4) (XP := XL V4 []) (Yf := hook4.obs) (Ya := hook4.val) (YP := hook4.says) (N := 7540) left4 hook4.of hook4.keeps (fun s e => xl_of s (Bool.and_eq_true_iff.mp e).1) XL.keeps (by rfl) (by rfl) (by rfl) (fun s e => recFacts_of (Bool.and_eq_true_iff.mp e).2) (by rfl) (by assumption) (by decide +kernel) ⟨rfl, rfl, rfl, rfl, rfl, by decide +kernel⟩ ?hw ?hc
  case hw => w_witness2
  rename_i said9
  clear said9
  k_go0
  all_goals try k_fold
  k_steps
  all_goals fail "an end"
end Mine
theorem PySem.Challenge.cw_lp0002_04_holds : PySem.Challenge.rw_lp0002_04.Holds := by
  exact Mine.w4
