import PyProof.Rows.All
import KE.KBits
import Wide.All
import OpenK.AllK
import Wide.FinOn
import KE.KStateDown
import PySem.Challenge.RW_lp0002_01
open PySem PySem.W PyProof.Rows
open PySem.Str (ofString)
set_option Elab.async false
set_option maxRecDepth 100000
set_option maxHeartbeats 8000000
set_option linter.unusedVariables false
set_option linter.unusedSimpArgs false
namespace Mine
theorem ok1 : PySem.Challenge.rw_lp0002_01.wellSaid = true := by kernel_rfl
noncomputable def rwS (i : Nat) (l : List Stmt) : Stmt := l.getD i (.Pass ⟨0, 0, 0, 0⟩)
noncomputable def rwF (s : Stmt) (h : s.ctorIdx = 0) (k : Str → Arguments → FuncBody → Scope → FuncData) : FuncData := @Stmt.FunctionDef.elim (fun _ => FuncData) s h (fun n a b _ _ _ c _ _ _ => k n a (.stmts b) c)
noncomputable def rwC (s : Stmt) (h : s.ctorIdx = 2) : List Stmt := @Stmt.ClassDef.elim (fun _ => List Stmt) s h (fun _ _ _ b _ _ _ _ _ _ _ => b)
noncomputable def rwT (i : Nat) (h : (rwS i Challenge.pw_lp0002_01.main.body).ctorIdx = 0) := rwF _ h
noncomputable def rwM (i j : Nat) (h : (rwS i Challenge.pw_lp0002_01.main.body).ctorIdx = 2) (g : (rwS j (rwC _ h)).ctorIdx = 0) := rwF _ g
abbrev RwWay (v : FuncData) := (x : FuncData) → x = v → FuncData
noncomputable def K1 (P : Params) : Frag := (
  (nat_lit 2, .mk .none none (.dict #[]) #[]) ::
  (nat_lit 3, .mk (.type "dict") none (.dict #[.mk (PyData.keyHash P (ofString "__name__")) (.str (ofString "__name__") 165) (.str (ofString "law_lp0002_01") 3052),.mk (PyData.keyHash P (ofString "__doc__")) (.str (ofString "__doc__") 166) .none,.mk (PyData.keyHash P (ofString "__package__")) (.str (ofString "__package__") 167) .none,.mk (PyData.keyHash P (ofString "__loader__")) (.str (ofString "__loader__") 168) (.builtin "__main__.__loader__#opaque"),.mk (PyData.keyHash P (ofString "__spec__")) (.str (ofString "__spec__") 169) .none,.mk (PyData.keyHash P (ofString "__annotations__")) (.str (ofString "__annotations__") 170) (.ref 6),.mk (PyData.keyHash P (ofString "__builtins__")) (.str (ofString "__builtins__") 171) (.ref 4),.mk (PyData.keyHash P (ofString "__file__")) (.str (ofString "__file__") 173) (.str (ofString "/claim/cut.py") 172),.mk (PyData.keyHash P (ofString "__cached__")) (.str (ofString "__cached__") 174) .none,.mk (PyData.keyHash P (ofString "_wall")) (.str (ofString "_wall") 193) (.ref 21),.mk (PyData.keyHash P (ofString "Point")) (.str (ofString "Point") 338) (.ref 134),.mk (PyData.keyHash P (ofString "LOOKUP_BITS")) (.str (ofString "LOOKUP_BITS") 340) (.int 4 339),.mk (PyData.keyHash P (ofString "SWAP_MASK")) (.str (ofString "SWAP_MASK") 342) (.int 1 341),.mk (PyData.keyHash P (ofString "INVERT_MASK")) (.str (ofString "INVERT_MASK") 344) (.int 2 343),.mk (PyData.keyHash P (ofString "POS_TO_ORIENTATION")) (.str (ofString "POS_TO_ORIENTATION") 349) (.ref 139),.mk (PyData.keyHash P (ofString "LOOKUP_POS")) (.str (ofString "LOOKUP_POS") 1374) (.ref 148),.mk (PyData.keyHash P (ofString "LOOKUP_IJ")) (.str (ofString "LOOKUP_IJ") 2399) (.ref 157),.mk (PyData.keyHash P (ofString "CellId")) (.str (ofString "CellId") 3009) (.ref 561),.mk (PyData.keyHash P (ofString "_quotient")) (.str (ofString "_quotient") 3017) (.ref 572),.mk (PyData.keyHash P (ofString "valid_face_xyz_to_uv")) (.str (ofString "valid_face_xyz_to_uv") 3025) (.ref 579),.mk (PyData.keyHash P (ofString "xyz_to_face_uv")) (.str (ofString "xyz_to_face_uv") 3035) (.ref 586),.mk (PyData.keyHash P (ofString "face_uv_to_xyz")) (.str (ofString "face_uv_to_xyz") 3044) (.ref 593),.mk (PyData.keyHash P (ofString "get_norm")) (.str (ofString "get_norm") 3051) (.ref 600),.mk (PyData.keyHash P (ofString "_law_number")) (.str (ofString "_law_number") 3061) (.ref 607),.mk (PyData.keyHash P (ofString "_law_pick")) (.str (ofString "_law_pick") 3070) (.ref 614),.mk (PyData.keyHash P (ofString "_law_place")) (.str (ofString "_law_place") 3085) (.ref 621),.mk (PyData.keyHash P (ofString "_law_id")) (.str (ofString "_law_id") 3095) (.ref 628),.mk (PyData.keyHash P (ofString "_law_point")) (.str (ofString "_law_point") 3105) (.ref 635),.mk (PyData.keyHash P (ofString "_law_corners")) (.str (ofString "_law_corners") 3118) (.ref 642),.mk (PyData.keyHash P (ofString "_law_touching")) (.str (ofString "_law_touching") 3139) (.ref 649),.mk (PyData.keyHash P (ofString "law")) (.str (ofString "law") 3145) (.ref 654)] 31) #[]) ::
  (nat_lit 15, .mk (.type "tuple") none (.seq #[]) #[]) ::
  (nat_lit 17, .mk (.type "tuple") none (.seq #[.str (ofString "k") 190]) #[]) ::
  (nat_lit 18, .mk (.type "tuple") none (.seq #[]) #[]) ::
  (nat_lit 20, .mk (.type "code") none (.fields #[.str (ofString "_wall") 187,.str (ofString "_wall") 188,.str (ofString "/claim/cut.py") 189,.int 1 0,.int 1 0,.int 0 0,.int 0 0,.int 3 0,.ref 15,.bool true,.int 181 0,.ref 16,.none,.ref 17,.ref 18,.ref 19,.int 191 0,.int 1 0,.str (ofString "/claim/cut.py") 192]) #[]) ::
  (nat_lit 21, .mk (.type "function") none (.func (by (refine' (_ : RwWay (rwT 0 rfl fun n a b c => .mk n n a b c 3 [] .none .none .none (.str (ofString "__main__") 164) none (.ref 20) .none 0)) _ _; exact fun x _ => x; rotate_left; conv => (rhs; whnf)))) #[]) ::
  (nat_lit 22, .mk (.type "tuple") none (.seq #[.type "object"]) #[]) ::
  (nat_lit 29, .mk (.type "tuple") none (.seq #[]) #[]) ::
  (nat_lit 31, .mk (.type "tuple") none (.seq #[.str (ofString "self") 211,.str (ofString "x") 212,.str (ofString "y") 213,.str (ofString "z") 214]) #[]) ::
  (nat_lit 32, .mk (.type "tuple") none (.seq #[]) #[]) ::
  (nat_lit 34, .mk (.type "code") none (.fields #[.str (ofString "__init__") 208,.str (ofString "Point.__init__") 209,.str (ofString "/claim/cut.py") 210,.int 7 0,.int 4 0,.int 0 0,.int 0 0,.int 3 0,.ref 29,.bool true,.int 181 0,.ref 30,.none,.ref 31,.ref 32,.ref 33,.int 215 0,.int 7 0,.str (ofString "/claim/cut.py") 216]) #[]) ::
  (nat_lit 35, .mk (.type "function") none (.func (by (refine' (_ : RwWay (rwM 2 0 rfl rfl fun n a b c => .mk n (ofString "Point.__init__") a b c 3 [] .none .none .none (.str (ofString "s2sphere.sphere") 194) none (.ref 34) .none 0)) _ _; exact fun x _ => x; rotate_left; conv => (rhs; whnf)))) #[]) ::
  (nat_lit 36, .mk (.type "tuple") none (.seq #[]) #[]) ::
  (nat_lit 38, .mk (.type "tuple") none (.seq #[.str (ofString "self") 221,.str (ofString "index") 222]) #[]) ::
  (nat_lit 39, .mk (.type "tuple") none (.seq #[]) #[]) ::
  (nat_lit 41, .mk (.type "code") none (.fields #[.str (ofString "__getitem__") 218,.str (ofString "Point.__getitem__") 219,.str (ofString "/claim/cut.py") 220,.int 10 0,.int 2 0,.int 0 0,.int 0 0,.int 3 0,.ref 36,.bool true,.int 181 0,.ref 37,.none,.ref 38,.ref 39,.ref 40,.int 223 0,.int 10 0,.str (ofString "/claim/cut.py") 224]) #[]) ::
  (nat_lit 42, .mk (.type "function") none (.func (by (refine' (_ : RwWay (rwM 2 1 rfl rfl fun n a b c => .mk n (ofString "Point.__getitem__") a b c 3 [] .none .none .none (.str (ofString "s2sphere.sphere") 194) none (.ref 41) .none 0)) _ _; exact fun x _ => x; rotate_left; conv => (rhs; whnf)))) #[]) ::
  (nat_lit 43, .mk (.type "tuple") none (.seq #[]) #[]) ::
  (nat_lit 45, .mk (.type "tuple") none (.seq #[.str (ofString "self") 229]) #[]) ::
  (nat_lit 46, .mk (.type "tuple") none (.seq #[]) #[]) ::
  (nat_lit 48, .mk (.type "code") none (.fields #[.str (ofString "__neg__") 226,.str (ofString "Point.__neg__") 227,.str (ofString "/claim/cut.py") 228,.int 13 0,.int 1 0,.int 0 0,.int 0 0,.int 3 0,.ref 43,.bool true,.int 181 0,.ref 44,.none,.ref 45,.ref 46,.ref 47,.int 230 0,.int 13 0,.str (ofString "/claim/cut.py") 231]) #[]) ::
  (nat_lit 49, .mk (.type "function") none (.func (by (refine' (_ : RwWay (rwM 2 2 rfl rfl fun n a b c => .mk n (ofString "Point.__neg__") a b c 3 [] .none .none .none (.str (ofString "s2sphere.sphere") 194) none (.ref 48) .none 0)) _ _; exact fun x _ => x; rotate_left; conv => (rhs; whnf)))) #[]) ::
  (nat_lit 50, .mk (.type "tuple") none (.seq #[]) #[]) ::
  (nat_lit 52, .mk (.type "tuple") none (.seq #[.str (ofString "self") 236,.str (ofString "other") 237]) #[]) ::
  (nat_lit 53, .mk (.type "tuple") none (.seq #[]) #[]) ::
  (nat_lit 55, .mk (.type "code") none (.fields #[.str (ofString "__eq__") 233,.str (ofString "Point.__eq__") 234,.str (ofString "/claim/cut.py") 235,.int 16 0,.int 2 0,.int 0 0,.int 0 0,.int 3 0,.ref 50,.bool true,.int 181 0,.ref 51,.none,.ref 52,.ref 53,.ref 54,.int 238 0,.int 16 0,.str (ofString "/claim/cut.py") 239]) #[]) ::
  (nat_lit 56, .mk (.type "function") none (.func (by (refine' (_ : RwWay (rwM 2 3 rfl rfl fun n a b c => .mk n (ofString "Point.__eq__") a b c 3 [] .none .none .none (.str (ofString "s2sphere.sphere") 194) none (.ref 55) .none 0)) _ _; exact fun x _ => x; rotate_left; conv => (rhs; whnf)))) #[]) ::
  (nat_lit 57, .mk (.type "tuple") none (.seq #[]) #[]) ::
  (nat_lit 59, .mk (.type "tuple") none (.seq #[.str (ofString "self") 244,.str (ofString "other") 245]) #[]) ::
  (nat_lit 60, .mk (.type "tuple") none (.seq #[]) #[]) ::
  (nat_lit 62, .mk (.type "code") none (.fields #[.str (ofString "__ne__") 241,.str (ofString "Point.__ne__") 242,.str (ofString "/claim/cut.py") 243,.int 19 0,.int 2 0,.int 0 0,.int 0 0,.int 3 0,.ref 57,.bool true,.int 181 0,.ref 58,.none,.ref 59,.ref 60,.ref 61,.int 246 0,.int 19 0,.str (ofString "/claim/cut.py") 247]) #[]) ::
  (nat_lit 63, .mk (.type "function") none (.func (by (refine' (_ : RwWay (rwM 2 4 rfl rfl fun n a b c => .mk n (ofString "Point.__ne__") a b c 3 [] .none .none .none (.str (ofString "s2sphere.sphere") 194) none (.ref 62) .none 0)) _ _; exact fun x _ => x; rotate_left; conv => (rhs; whnf)))) #[]) ::
  (nat_lit 64, .mk (.type "tuple") none (.seq #[]) #[]) ::
  (nat_lit 66, .mk (.type "tuple") none (.seq #[.str (ofString "self") 252]) #[]) ::
  (nat_lit 67, .mk (.type "tuple") none (.seq #[]) #[]) ::
  (nat_lit 69, .mk (.type "code") none (.fields #[.str (ofString "__hash__") 249,.str (ofString "Point.__hash__") 250,.str (ofString "/claim/cut.py") 251,.int 22 0,.int 1 0,.int 0 0,.int 0 0,.int 3 0,.ref 64,.bool true,.int 181 0,.ref 65,.none,.ref 66,.ref 67,.ref 68,.int 253 0,.int 22 0,.str (ofString "/claim/cut.py") 254]) #[]) ::
  (nat_lit 70, .mk (.type "function") none (.func (by (refine' (_ : RwWay (rwM 2 5 rfl rfl fun n a b c => .mk n (ofString "Point.__hash__") a b c 3 [] .none .none .none (.str (ofString "s2sphere.sphere") 194) none (.ref 69) .none 0)) _ _; exact fun x _ => x; rotate_left; conv => (rhs; whnf)))) #[]) ::
  (nat_lit 71, .mk (.type "tuple") none (.seq #[]) #[]) ::
  (nat_lit 73, .mk (.type "tuple") none (.seq #[.str (ofString "self") 259]) #[]) ::
  (nat_lit 74, .mk (.type "tuple") none (.seq #[]) #[]) ::
  (nat_lit 76, .mk (.type "code") none (.fields #[.str (ofString "__repr__") 256,.str (ofString "Point.__repr__") 257,.str (ofString "/claim/cut.py") 258,.int 25 0,.int 1 0,.int 0 0,.int 0 0,.int 3 0,.ref 71,.bool true,.int 181 0,.ref 72,.none,.ref 73,.ref 74,.ref 75,.int 260 0,.int 25 0,.str (ofString "/claim/cut.py") 261]) #[]) ::
  (nat_lit 77, .mk (.type "function") none (.func (by (refine' (_ : RwWay (rwM 2 6 rfl rfl fun n a b c => .mk n (ofString "Point.__repr__") a b c 3 [] .none .none .none (.str (ofString "s2sphere.sphere") 194) none (.ref 76) .none 0)) _ _; exact fun x _ => x; rotate_left; conv => (rhs; whnf)))) #[]) ::
  (nat_lit 78, .mk (.type "tuple") none (.seq #[]) #[]) ::
  (nat_lit 80, .mk (.type "tuple") none (.seq #[.str (ofString "self") 266,.str (ofString "other") 267]) #[]) ::
  (nat_lit 81, .mk (.type "tuple") none (.seq #[]) #[]) ::
  (nat_lit 83, .mk (.type "code") none (.fields #[.str (ofString "__add__") 263,.str (ofString "Point.__add__") 264,.str (ofString "/claim/cut.py") 265,.int 28 0,.int 2 0,.int 0 0,.int 0 0,.int 3 0,.ref 78,.bool true,.int 181 0,.ref 79,.none,.ref 80,.ref 81,.ref 82,.int 268 0,.int 28 0,.str (ofString "/claim/cut.py") 269]) #[]) ::
  (nat_lit 84, .mk (.type "function") none (.func (by (refine' (_ : RwWay (rwM 2 7 rfl rfl fun n a b c => .mk n (ofString "Point.__add__") a b c 3 [] .none .none .none (.str (ofString "s2sphere.sphere") 194) none (.ref 83) .none 0)) _ _; exact fun x _ => x; rotate_left; conv => (rhs; whnf)))) #[]) ::
  (nat_lit 85, .mk (.type "tuple") none (.seq #[]) #[]) ::
  (nat_lit 87, .mk (.type "tuple") none (.seq #[.str (ofString "self") 274,.str (ofString "other") 275]) #[]) ::
  (nat_lit 88, .mk (.type "tuple") none (.seq #[]) #[]) ::
  (nat_lit 90, .mk (.type "code") none (.fields #[.str (ofString "__sub__") 271,.str (ofString "Point.__sub__") 272,.str (ofString "/claim/cut.py") 273,.int 31 0,.int 2 0,.int 0 0,.int 0 0,.int 3 0,.ref 85,.bool true,.int 181 0,.ref 86,.none,.ref 87,.ref 88,.ref 89,.int 276 0,.int 31 0,.str (ofString "/claim/cut.py") 277]) #[]) ::
  (nat_lit 91, .mk (.type "function") none (.func (by (refine' (_ : RwWay (rwM 2 8 rfl rfl fun n a b c => .mk n (ofString "Point.__sub__") a b c 3 [] .none .none .none (.str (ofString "s2sphere.sphere") 194) none (.ref 90) .none 0)) _ _; exact fun x _ => x; rotate_left; conv => (rhs; whnf)))) #[]) ::
  (nat_lit 92, .mk (.type "tuple") none (.seq #[]) #[]) ::
  (nat_lit 94, .mk (.type "tuple") none (.seq #[.str (ofString "self") 282,.str (ofString "other") 283]) #[]) ::
  (nat_lit 95, .mk (.type "tuple") none (.seq #[]) #[]) ::
  (nat_lit 97, .mk (.type "code") none (.fields #[.str (ofString "__mul__") 279,.str (ofString "Point.__mul__") 280,.str (ofString "/claim/cut.py") 281,.int 34 0,.int 2 0,.int 0 0,.int 0 0,.int 3 0,.ref 92,.bool true,.int 181 0,.ref 93,.none,.ref 94,.ref 95,.ref 96,.int 284 0,.int 34 0,.str (ofString "/claim/cut.py") 285]) #[]) ::
  (nat_lit 98, .mk (.type "function") none (.func (by (refine' (_ : RwWay (rwM 2 9 rfl rfl fun n a b c => .mk n (ofString "Point.__mul__") a b c 3 [] .none .none .none (.str (ofString "s2sphere.sphere") 194) none (.ref 97) .none 0)) _ _; exact fun x _ => x; rotate_left; conv => (rhs; whnf)))) #[]) ::
  (nat_lit 99, .mk (.type "tuple") none (.seq #[]) #[]) ::
  (nat_lit 101, .mk (.type "tuple") none (.seq #[.str (ofString "self") 290,.str (ofString "other") 291]) #[]) ::
  (nat_lit 102, .mk (.type "tuple") none (.seq #[]) #[]) ::
  (nat_lit 104, .mk (.type "code") none (.fields #[.str (ofString "__rmul__") 287,.str (ofString "Point.__rmul__") 288,.str (ofString "/claim/cut.py") 289,.int 37 0,.int 2 0,.int 0 0,.int 0 0,.int 3 0,.ref 99,.bool true,.int 181 0,.ref 100,.none,.ref 101,.ref 102,.ref 103,.int 292 0,.int 37 0,.str (ofString "/claim/cut.py") 293]) #[]) ::
  (nat_lit 105, .mk (.type "function") none (.func (by (refine' (_ : RwWay (rwM 2 10 rfl rfl fun n a b c => .mk n (ofString "Point.__rmul__") a b c 3 [] .none .none .none (.str (ofString "s2sphere.sphere") 194) none (.ref 104) .none 0)) _ _; exact fun x _ => x; rotate_left; conv => (rhs; whnf)))) #[]) ::
  (nat_lit 106, .mk (.type "tuple") none (.seq #[]) #[]) ::
  (nat_lit 109, .mk (.type "code") none (.fields #[.str (ofString "largest_abs_component") 295,.str (ofString "Point.largest_abs_component") 296,.str (ofString "/claim/cut.py") 297,.int 40 0,.int 1 0,.int 0 0,.int 0 0,.int 3 0,.ref 106,.bool true,.int 181 0,.ref 107,.none,.none,.none,.ref 108,.int 298 0,.int 40 0,.str (ofString "/claim/cut.py") 299]) #[]) ::
  (nat_lit 110, .mk (.type "function") none (.func (by (refine' (_ : RwWay (rwM 2 11 rfl rfl fun n a b c => .mk n (ofString "Point.largest_abs_component") a b c 3 [] .none .none .none (.str (ofString "s2sphere.sphere") 194) none (.ref 109) .none 0)) _ _; exact fun x _ => x; rotate_left; conv => (rhs; whnf)))) #[]) ::
  (nat_lit 111, .mk (.type "tuple") none (.seq #[]) #[]) ::
  (nat_lit 113, .mk (.type "tuple") none (.seq #[.str (ofString "self") 304,.str (ofString "other") 305]) #[]) ::
  (nat_lit 114, .mk (.type "tuple") none (.seq #[]) #[]) ::
  (nat_lit 116, .mk (.type "code") none (.fields #[.str (ofString "cross_prod") 301,.str (ofString "Point.cross_prod") 302,.str (ofString "/claim/cut.py") 303,.int 52 0,.int 2 0,.int 0 0,.int 0 0,.int 3 0,.ref 111,.bool true,.int 181 0,.ref 112,.none,.ref 113,.ref 114,.ref 115,.int 306 0,.int 52 0,.str (ofString "/claim/cut.py") 307]) #[]) ::
  (nat_lit 117, .mk (.type "function") none (.func (by (refine' (_ : RwWay (rwM 2 12 rfl rfl fun n a b c => .mk n (ofString "Point.cross_prod") a b c 3 [] .none .none .none (.str (ofString "s2sphere.sphere") 194) none (.ref 116) .none 0)) _ _; exact fun x _ => x; rotate_left; conv => (rhs; whnf)))) #[]) ::
  (nat_lit 118, .mk (.type "tuple") none (.seq #[]) #[]) ::
  (nat_lit 120, .mk (.type "tuple") none (.seq #[.str (ofString "self") 312,.str (ofString "other") 313,.str (ofString "x") 314,.str (ofString "y") 315,.str (ofString "z") 316,.str (ofString "ox") 317,.str (ofString "oy") 318,.str (ofString "oz") 319]) #[]) ::
  (nat_lit 121, .mk (.type "tuple") none (.seq #[]) #[]) ::
  (nat_lit 123, .mk (.type "code") none (.fields #[.str (ofString "dot_prod") 309,.str (ofString "Point.dot_prod") 310,.str (ofString "/claim/cut.py") 311,.int 55 0,.int 2 0,.int 0 0,.int 0 0,.int 3 0,.ref 118,.bool true,.int 181 0,.ref 119,.none,.ref 120,.ref 121,.ref 122,.int 320 0,.int 55 0,.str (ofString "/claim/cut.py") 321]) #[]) ::
  (nat_lit 124, .mk (.type "function") none (.func (by (refine' (_ : RwWay (rwM 2 13 rfl rfl fun n a b c => .mk n (ofString "Point.dot_prod") a b c 3 [] .none .none .none (.str (ofString "s2sphere.sphere") 194) none (.ref 123) .none 0)) _ _; exact fun x _ => x; rotate_left; conv => (rhs; whnf)))) #[]) ::
  (nat_lit 125, .mk (.type "tuple") none (.seq #[]) #[]) ::
  (nat_lit 127, .mk (.type "tuple") none (.seq #[.str (ofString "self") 326]) #[]) ::
  (nat_lit 128, .mk (.type "tuple") none (.seq #[]) #[]) ::
  (nat_lit 130, .mk (.type "code") none (.fields #[.str (ofString "norm2") 323,.str (ofString "Point.norm2") 324,.str (ofString "/claim/cut.py") 325,.int 60 0,.int 1 0,.int 0 0,.int 0 0,.int 3 0,.ref 125,.bool true,.int 181 0,.ref 126,.none,.ref 127,.ref 128,.ref 129,.int 327 0,.int 60 0,.str (ofString "/claim/cut.py") 328]) #[]) ::
  (nat_lit 131, .mk (.type "function") none (.func (by (refine' (_ : RwWay (rwM 2 14 rfl rfl fun n a b c => .mk n (ofString "Point.norm2") a b c 3 [] .none .none .none (.str (ofString "s2sphere.sphere") 194) none (.ref 130) .none 0)) _ _; exact fun x _ => x; rotate_left; conv => (rhs; whnf)))) #[]) ::
  (nat_lit 132, .mk (.type "tuple") none (.seq #[.str (ofString "__point") 330]) #[]) ::
  (nat_lit 133, .mk (.type "dict") none (.dict #[.mk (PyData.keyHash P (ofString "__module__")) (.str (ofString "__module__") 203) (.str (ofString "s2sphere.sphere") 194),.mk (PyData.keyHash P (ofString "__firstlineno__")) (.str (ofString "__firstlineno__") 207) (.int 5 206),.mk (PyData.keyHash P (ofString "__init__")) (.str (ofString "__init__") 217) (.ref 35),.mk (PyData.keyHash P (ofString "__getitem__")) (.str (ofString "__getitem__") 225) (.ref 42),.mk (PyData.keyHash P (ofString "__neg__")) (.str (ofString "__neg__") 232) (.ref 49),.mk (PyData.keyHash P (ofString "__eq__")) (.str (ofString "__eq__") 240) (.ref 56),.mk (PyData.keyHash P (ofString "__ne__")) (.str (ofString "__ne__") 248) (.ref 63),.mk (PyData.keyHash P (ofString "__hash__")) (.str (ofString "__hash__") 255) (.ref 70),.mk (PyData.keyHash P (ofString "__repr__")) (.str (ofString "__repr__") 262) (.ref 77),.mk (PyData.keyHash P (ofString "__add__")) (.str (ofString "__add__") 270) (.ref 84),.mk (PyData.keyHash P (ofString "__sub__")) (.str (ofString "__sub__") 278) (.ref 91),.mk (PyData.keyHash P (ofString "__mul__")) (.str (ofString "__mul__") 286) (.ref 98),.mk (PyData.keyHash P (ofString "__rmul__")) (.str (ofString "__rmul__") 294) (.ref 105),.mk (PyData.keyHash P (ofString "largest_abs_component")) (.str (ofString "largest_abs_component") 300) (.ref 110),.mk (PyData.keyHash P (ofString "cross_prod")) (.str (ofString "cross_prod") 308) (.ref 117),.mk (PyData.keyHash P (ofString "dot_prod")) (.str (ofString "dot_prod") 322) (.ref 124),.mk (PyData.keyHash P (ofString "norm2")) (.str (ofString "norm2") 329) (.ref 131),.mk (PyData.keyHash P (ofString "__static_attributes__")) (.str (ofString "__static_attributes__") 331) (.ref 132),.mk (PyData.keyHash P (ofString "__dict__")) (.str (ofString "__dict__") 333) (.ref 135),.mk (PyData.keyHash P (ofString "__weakref__")) (.str (ofString "__weakref__") 335) (.ref 136),.mk (PyData.keyHash P (ofString "__doc__")) (.str (ofString "__doc__") 336) .none] 4) #[]) ::
  (nat_lit 134, .mk (.type "type") none (.cls (.mk (ofString "Point") [.type "object"] [.ref 134,.type "object"] 133 (ofString "Point") true [] [] false none false)) #[some (.ref 22),none,some (.str (ofString "Point") 196),some (.str (ofString "Point") 204),some (.builtin "object.__new__"),some (.bool true)]) ::
  (nat_lit 135, .mk (.type "getset_descriptor") none (.fields #[.str (ofString "__dict__") 332,.ref 134,.builtin "function.__dict__",.builtin "function.__dict__#set"]) #[]) ::
  (nat_lit 136, .mk (.type "getset_descriptor") none (.fields #[.str (ofString "__weakref__") 334,.ref 134,.builtin "ExceptionGroup.__weakref__",.none]) #[]) ::
  (nat_lit 139, .mk (.type "list") none (.seq #[.int 1 345,.int 0 346,.int 0 347,.int 3 348]) #[]) ::
  (nat_lit 140, .mk (.type "list") none (.seq (List.toArray (.int 0 350 :: .int 1 351 :: .int 682 352 :: .int 683 353 :: .int 14 354 :: .int 4 355 :: .int 685 356 :: .int 679 357 :: .int 17 358 :: .int 58 359 :: .int 688 360 :: .int 667 361 :: .int 20 362 :: .int 61 363 :: .int 702 364 :: .int 663 365 :: .int 234 366 :: .int 64 367 :: .int 705 368 :: .int 619 369 :: .int 237 370 :: .int 78 371 :: .int 708 372 :: .int 615 373 :: .int 240 374 :: .int 81 375 :: .int 762 376 :: .int 603 377 :: .int 254 378 :: .int 84 379 :: .int 765 380 :: .int 599 381 :: .int 257 382 :: .int 938 383 :: .int 768 384 :: .int 427 385 :: .int 260 386 :: .int 941 387 :: .int 782 388 :: .int 423 389 :: .int 314 390 :: .int 944 391 :: .int 785 392 :: .int 411 393 :: .int 317 394 :: .int 958 395 :: .int 788 396 :: .int 407 397 :: .int 320 398 :: .int 961 399 :: .int 1002 400 :: .int 363 401 :: .int 334 402 :: .int 964 403 :: .int 1005 404 :: .int 359 405 :: .int 337 406 :: .int 1018 407 :: .int 1008 408 :: .int 347 409 :: .int 340 410 :: .int 1021 411 :: .int 1022 412 :: .int 343 413 :: .int 5 414 :: .int 15 415 :: .int 678 416 :: .int 684 417 :: .int 9 418 :: .int 8 419 :: .int 675 420 :: .int 674 421 :: .int 31 422 :: .int 54 423 :: .int 693 424 :: .int 668 425 :: .int 24 426 :: .int 51 427 :: .int 697 428 :: .int 658 429 :: .int 230 430 :: .int 69 431 :: .int 719 432 :: .int 620 433 :: .int 227 434 :: .int 73 435 :: .int 712 436 :: .int 610 437 :: .int 245 438 :: .int 95 439 :: .int 758 440 :: .int 604 441 :: .int 249 442 :: .int 88 443 :: .int 755 444 :: .int 594 445 :: .int 271 446 :: .int 934 447 :: .int 773 448 :: .int 428 449 :: .int 264 450 :: .int 931 451 :: .int 777 452 :: .int 418 453 :: .int 310 454 :: .int 949 455 :: .int 799 456 :: .int 412 457 :: .int 307 458 :: .int 953 459 :: .int 792 460 :: .int 402 461 :: .int 325 462 :: .int 975 463 :: .int 998 464 :: .int 364 465 :: .int 329 466 :: .int 968 467 :: .int 995 468 :: .int 354 469 :: .int 351 470 :: .int 1014 471 :: .int 1013 472 :: .int 348 473 :: .int 344 474 :: .int 1011 475 :: .int 1017 476 :: .int 338 477 :: []))) #[]) ::
  (nat_lit 141, .mk (.type "list") none (.seq (List.toArray (.int 59 478 :: .int 16 479 :: .int 666 480 :: .int 689 481 :: .int 55 482 :: .int 30 483 :: .int 669 484 :: .int 692 485 :: .int 33 486 :: .int 32 487 :: .int 651 488 :: .int 650 489 :: .int 36 490 :: .int 46 491 :: .int 647 492 :: .int 653 493 :: .int 218 494 :: .int 123 495 :: .int 720 496 :: .int 625 497 :: .int 221 498 :: .int 119 499 :: .int 734 500 :: .int 628 501 :: .int 203 502 :: .int 97 503 :: .int 736 504 :: .int 586 505 :: .int 199 506 :: .int 100 507 :: .int 750 508 :: .int 589 509 :: .int 272 510 :: .int 922 511 :: .int 827 512 :: .int 433 513 :: .int 286 514 :: .int 925 515 :: .int 823 516 :: .int 436 517 :: .int 288 518 :: .int 907 519 :: .int 801 520 :: .int 394 521 :: .int 302 522 :: .int 903 523 :: .int 804 524 :: .int 397 525 :: .int 379 526 :: .int 976 527 :: .int 986 528 :: .int 369 529 :: .int 375 530 :: .int 990 531 :: .int 989 532 :: .int 372 533 :: .int 353 534 :: .int 992 535 :: .int 971 536 :: .int 330 537 :: .int 356 538 :: .int 1006 539 :: .int 967 540 :: .int 333 541 :: .int 60 542 :: .int 21 543 :: .int 662 544 :: .int 703 545 :: .int 50 546 :: .int 25 547 :: .int 659 548 :: .int 696 549 :: .int 47 550 :: .int 37 551 :: .int 652 552 :: .int 646 553 :: .int 40 554 :: .int 41 555 :: .int 642 556 :: .int 643 557 :: .int 214 558 :: .int 124 559 :: .int 725 560 :: .int 639 561 :: .int 211 562 :: .int 114 563 :: .int 729 564 :: .int 632 565 :: .int 204 566 :: .int 111 567 :: .int 741 568 :: .int 582 569 :: .int 194 570 :: .int 104 571 :: .int 745 572 :: .int 579 573 :: .int 277 574 :: .int 918 575 :: .int 828 576 :: .int 447 577 :: .int 281 578 :: .int 915 579 :: .int 818 580 :: .int 440 581 :: .int 293 582 :: .int 908 583 :: .int 815 584 :: .int 390 585 :: .int 297 586 :: .int 898 587 :: .int 808 588 :: .int 387 589 :: .int 380 590 :: .int 981 591 :: .int 982 592 :: .int 383 593 :: .int 370 594 :: .int 985 595 :: .int 979 596 :: .int 376 597 :: .int 367 598 :: .int 997 599 :: .int 972 600 :: .int 326 601 :: .int 360 602 :: .int 1001 603 :: .int 962 604 :: .int 323 605 :: []))) #[]) ::
  (nat_lit 142, .mk (.type "list") none (.seq (List.toArray (.int 65 606 :: .int 235 607 :: .int 618 608 :: .int 704 609 :: .int 68 610 :: .int 231 611 :: .int 621 612 :: .int 718 613 :: .int 122 614 :: .int 219 615 :: .int 624 616 :: .int 721 617 :: .int 125 618 :: .int 215 619 :: .int 638 620 :: .int 724 621 :: .int 129 622 :: .int 128 623 :: .int 555 624 :: .int 554 625 :: .int 132 626 :: .int 142 627 :: .int 551 628 :: .int 557 629 :: .int 186 630 :: .int 145 631 :: .int 539 632 :: .int 560 633 :: .int 189 634 :: .int 148 635 :: .int 535 636 :: .int 574 637 :: .int 491 638 :: .int 874 639 :: .int 833 640 :: .int 448 641 :: .int 487 642 :: .int 877 643 :: .int 836 644 :: .int 462 645 :: .int 475 646 :: .int 880 647 :: .int 890 648 :: .int 465 649 :: .int 471 650 :: .int 894 651 :: .int 893 652 :: .int 468 653 :: .int 384 654 :: .int 811 655 :: .int 897 656 :: .int 298 657 :: .int 398 658 :: .int 807 659 :: .int 900 660 :: .int 301 661 :: .int 401 662 :: .int 795 663 :: .int 954 664 :: .int 304 665 :: .int 404 666 :: .int 791 667 :: .int 957 668 :: .int 318 669 :: .int 79 670 :: .int 236 671 :: .int 614 672 :: .int 709 673 :: .int 72 674 :: .int 226 675 :: .int 611 676 :: .int 713 677 :: .int 118 678 :: .int 220 679 :: .int 629 680 :: .int 735 681 :: .int 115 682 :: .int 210 683 :: .int 633 684 :: .int 728 685 :: .int 143 686 :: .int 133 687 :: .int 556 688 :: .int 550 689 :: .int 136 690 :: .int 137 691 :: .int 546 692 :: .int 547 693 :: .int 182 694 :: .int 159 695 :: .int 540 696 :: .int 565 697 :: .int 179 698 :: .int 152 699 :: .int 530 700 :: .int 569 701 :: .int 492 702 :: .int 870 703 :: .int 847 704 :: .int 453 705 :: .int 482 706 :: .int 867 707 :: .int 840 708 :: .int 457 709 :: .int 476 710 :: .int 885 711 :: .int 886 712 :: .int 479 713 :: .int 466 714 :: .int 889 715 :: .int 883 716 :: .int 472 717 :: .int 389 718 :: .int 812 719 :: .int 911 720 :: .int 294 721 :: .int 393 722 :: .int 802 723 :: .int 904 724 :: .int 291 725 :: .int 415 726 :: .int 796 727 :: .int 950 728 :: .int 309 729 :: .int 408 730 :: .int 786 731 :: .int 947 732 :: .int 313 733 :: []))) #[]) ::
  (nat_lit 143, .mk (.type "list") none (.seq (List.toArray (.int 80 734 :: .int 241 735 :: .int 602 736 :: .int 763 737 :: .int 94 738 :: .int 244 739 :: .int 605 740 :: .int 759 741 :: .int 96 742 :: .int 202 743 :: .int 587 744 :: .int 737 745 :: .int 110 746 :: .int 205 747 :: .int 583 748 :: .int 740 749 :: .int 144 750 :: .int 187 751 :: .int 561 752 :: .int 538 753 :: .int 158 754 :: .int 183 755 :: .int 564 756 :: .int 541 757 :: .int 160 758 :: .int 161 759 :: .int 522 760 :: .int 523 761 :: .int 174 762 :: .int 164 763 :: .int 525 764 :: .int 519 765 :: .int 497 766 :: .int 858 767 :: .int 848 768 :: .int 507 769 :: .int 500 770 :: .int 861 771 :: .int 862 772 :: .int 503 773 :: .int 458 774 :: .int 843 775 :: .int 864 776 :: .int 481 777 :: .int 461 778 :: .int 839 779 :: .int 878 780 :: .int 484 781 :: .int 443 782 :: .int 817 783 :: .int 912 784 :: .int 282 785 :: .int 439 786 :: .int 820 787 :: .int 926 788 :: .int 285 789 :: .int 417 790 :: .int 778 791 :: .int 928 792 :: .int 267 793 :: .int 420 794 :: .int 781 795 :: .int 942 796 :: .int 263 797 :: .int 85 798 :: .int 255 799 :: .int 598 800 :: .int 764 801 :: .int 89 802 :: .int 248 803 :: .int 595 804 :: .int 754 805 :: .int 101 806 :: .int 198 807 :: .int 588 808 :: .int 751 809 :: .int 105 810 :: .int 195 811 :: .int 578 812 :: .int 744 813 :: .int 149 814 :: .int 188 815 :: .int 575 816 :: .int 534 817 :: .int 153 818 :: .int 178 819 :: .int 568 820 :: .int 531 821 :: .int 165 822 :: .int 175 823 :: .int 518 824 :: .int 524 825 :: .int 169 826 :: .int 168 827 :: .int 515 828 :: .int 514 829 :: .int 511 830 :: .int 854 831 :: .int 853 832 :: .int 508 833 :: .int 504 834 :: .int 851 835 :: .int 857 836 :: .int 498 837 :: .int 454 838 :: .int 844 839 :: .int 869 840 :: .int 495 841 :: .int 451 842 :: .int 834 843 :: .int 873 844 :: .int 488 845 :: .int 444 846 :: .int 831 847 :: .int 917 848 :: .int 278 849 :: .int 434 850 :: .int 824 851 :: .int 921 852 :: .int 275 853 :: .int 431 854 :: .int 774 855 :: .int 933 856 :: .int 268 857 :: .int 424 858 :: .int 771 859 :: .int 937 860 :: .int 258 861 :: []))) #[]) ::
  (nat_lit 144, .mk (.type "list") none (.seq (List.toArray (.int 939 862 :: .int 256 863 :: .int 426 864 :: .int 769 865 :: .int 935 866 :: .int 270 867 :: .int 429 868 :: .int 772 869 :: .int 923 870 :: .int 273 871 :: .int 432 872 :: .int 826 873 :: .int 919 874 :: .int 276 875 :: .int 446 876 :: .int 829 877 :: .int 875 878 :: .int 490 879 :: .int 449 880 :: .int 832 881 :: .int 871 882 :: .int 493 883 :: .int 452 884 :: .int 846 885 :: .int 859 886 :: .int 496 887 :: .int 506 888 :: .int 849 889 :: .int 855 890 :: .int 510 891 :: .int 509 892 :: .int 852 893 :: .int 513 894 :: .int 512 895 :: .int 171 896 :: .int 170 897 :: .int 516 898 :: .int 526 899 :: .int 167 900 :: .int 173 901 :: .int 570 902 :: .int 529 903 :: .int 155 904 :: .int 176 905 :: .int 573 906 :: .int 532 907 :: .int 151 908 :: .int 190 909 :: .int 576 910 :: .int 746 911 :: .int 107 912 :: .int 193 913 :: .int 590 914 :: .int 749 915 :: .int 103 916 :: .int 196 917 :: .int 593 918 :: .int 752 919 :: .int 91 920 :: .int 250 921 :: .int 596 922 :: .int 766 923 :: .int 87 924 :: .int 253 925 :: .int 940 926 :: .int 261 927 :: .int 422 928 :: .int 783 929 :: .int 930 930 :: .int 265 931 :: .int 419 932 :: .int 776 933 :: .int 924 934 :: .int 287 935 :: .int 437 936 :: .int 822 937 :: .int 914 938 :: .int 280 939 :: .int 441 940 :: .int 819 941 :: .int 876 942 :: .int 486 943 :: .int 463 944 :: .int 837 945 :: .int 866 946 :: .int 483 947 :: .int 456 948 :: .int 841 949 :: .int 860 950 :: .int 501 951 :: .int 502 952 :: .int 863 953 :: .int 850 954 :: .int 505 955 :: .int 499 956 :: .int 856 957 :: .int 527 958 :: .int 517 959 :: .int 172 960 :: .int 166 961 :: .int 520 962 :: .int 521 963 :: .int 162 964 :: .int 163 965 :: .int 566 966 :: .int 543 967 :: .int 156 968 :: .int 181 969 :: .int 563 970 :: .int 536 971 :: .int 146 972 :: .int 185 973 :: .int 581 974 :: .int 742 975 :: .int 108 976 :: .int 207 977 :: .int 585 978 :: .int 739 979 :: .int 98 980 :: .int 200 981 :: .int 607 982 :: .int 757 983 :: .int 92 984 :: .int 246 985 :: .int 600 986 :: .int 761 987 :: .int 82 988 :: .int 243 989 :: []))) #[]) ::
  (nat_lit 145, .mk (.type "list") none (.seq (List.toArray (.int 945 990 :: .int 315 991 :: .int 410 992 :: .int 784 993 :: .int 948 994 :: .int 311 995 :: .int 413 996 :: .int 798 997 :: .int 906 998 :: .int 289 999 :: .int 395 1000 :: .int 800 1001 :: .int 909 1002 :: .int 292 1003 :: .int 391 1004 :: .int 814 1005 :: .int 881 1006 :: .int 474 1007 :: .int 464 1008 :: .int 891 1009 :: .int 884 1010 :: .int 477 1011 :: .int 478 1012 :: .int 887 1013 :: .int 842 1014 :: .int 459 1015 :: .int 480 1016 :: .int 865 1017 :: .int 845 1018 :: .int 455 1019 :: .int 494 1020 :: .int 868 1021 :: .int 528 1022 :: .int 571 1023 :: .int 177 1024 :: .int 154 1025 :: .int 542 1026 :: .int 567 1027 :: .int 180 1028 :: .int 157 1029 :: .int 544 1030 :: .int 545 1031 :: .int 138 1032 :: .int 139 1033 :: .int 558 1034 :: .int 548 1035 :: .int 141 1036 :: .int 135 1037 :: .int 635 1038 :: .int 730 1039 :: .int 113 1040 :: .int 208 1041 :: .int 631 1042 :: .int 733 1043 :: .int 116 1044 :: .int 222 1045 :: .int 609 1046 :: .int 715 1047 :: .int 74 1048 :: .int 224 1049 :: .int 612 1050 :: .int 711 1051 :: .int 77 1052 :: .int 238 1053 :: .int 959 1054 :: .int 316 1055 :: .int 406 1056 :: .int 789 1057 :: .int 952 1058 :: .int 306 1059 :: .int 403 1060 :: .int 793 1061 :: .int 902 1062 :: .int 303 1063 :: .int 396 1064 :: .int 805 1065 :: .int 899 1066 :: .int 296 1067 :: .int 386 1068 :: .int 809 1069 :: .int 895 1070 :: .int 470 1071 :: .int 469 1072 :: .int 892 1073 :: .int 888 1074 :: .int 467 1075 :: .int 473 1076 :: .int 882 1077 :: .int 838 1078 :: .int 460 1079 :: .int 485 1080 :: .int 879 1081 :: .int 835 1082 :: .int 450 1083 :: .int 489 1084 :: .int 872 1085 :: .int 533 1086 :: .int 572 1087 :: .int 191 1088 :: .int 150 1089 :: .int 537 1090 :: .int 562 1091 :: .int 184 1092 :: .int 147 1093 :: .int 549 1094 :: .int 559 1095 :: .int 134 1096 :: .int 140 1097 :: .int 553 1098 :: .int 552 1099 :: .int 131 1100 :: .int 130 1101 :: .int 636 1102 :: .int 726 1103 :: .int 127 1104 :: .int 213 1105 :: .int 626 1106 :: .int 723 1107 :: .int 120 1108 :: .int 217 1109 :: .int 623 1110 :: .int 716 1111 :: .int 70 1112 :: .int 229 1113 :: .int 616 1114 :: .int 706 1115 :: .int 67 1116 :: .int 233 1117 :: []))) #[]) ::
  (nat_lit 146, .mk (.type "list") none (.seq (List.toArray (.int 960 1118 :: .int 321 1119 :: .int 362 1120 :: .int 1003 1121 :: .int 974 1122 :: .int 324 1123 :: .int 365 1124 :: .int 999 1125 :: .int 977 1126 :: .int 378 1127 :: .int 368 1128 :: .int 987 1129 :: .int 980 1130 :: .int 381 1131 :: .int 382 1132 :: .int 983 1133 :: .int 810 1134 :: .int 385 1135 :: .int 299 1136 :: .int 896 1137 :: .int 813 1138 :: .int 388 1139 :: .int 295 1140 :: .int 910 1141 :: .int 816 1142 :: .int 442 1143 :: .int 283 1144 :: .int 913 1145 :: .int 830 1146 :: .int 445 1147 :: .int 279 1148 :: .int 916 1149 :: .int 747 1150 :: .int 577 1151 :: .int 192 1152 :: .int 106 1153 :: .int 743 1154 :: .int 580 1155 :: .int 206 1156 :: .int 109 1157 :: .int 731 1158 :: .int 634 1159 :: .int 209 1160 :: .int 112 1161 :: .int 727 1162 :: .int 637 1163 :: .int 212 1164 :: .int 126 1165 :: .int 640 1166 :: .int 641 1167 :: .int 42 1168 :: .int 43 1169 :: .int 654 1170 :: .int 644 1171 :: .int 45 1172 :: .int 39 1173 :: .int 657 1174 :: .int 698 1175 :: .int 48 1176 :: .int 27 1177 :: .int 660 1178 :: .int 701 1179 :: .int 62 1180 :: .int 23 1181 :: .int 965 1182 :: .int 335 1183 :: .int 358 1184 :: .int 1004 1185 :: .int 969 1186 :: .int 328 1187 :: .int 355 1188 :: .int 994 1189 :: .int 991 1190 :: .int 374 1191 :: .int 373 1192 :: .int 988 1193 :: .int 984 1194 :: .int 371 1195 :: .int 377 1196 :: .int 978 1197 :: .int 806 1198 :: .int 399 1199 :: .int 300 1200 :: .int 901 1201 :: .int 803 1202 :: .int 392 1203 :: .int 290 1204 :: .int 905 1205 :: .int 821 1206 :: .int 438 1207 :: .int 284 1208 :: .int 927 1209 :: .int 825 1210 :: .int 435 1211 :: .int 274 1212 :: .int 920 1213 :: .int 748 1214 :: .int 591 1215 :: .int 197 1216 :: .int 102 1217 :: .int 738 1218 :: .int 584 1219 :: .int 201 1220 :: .int 99 1221 :: .int 732 1222 :: .int 630 1223 :: .int 223 1224 :: .int 117 1225 :: .int 722 1226 :: .int 627 1227 :: .int 216 1228 :: .int 121 1229 :: .int 645 1230 :: .int 655 1231 :: .int 38 1232 :: .int 44 1233 :: .int 649 1234 :: .int 648 1235 :: .int 35 1236 :: .int 34 1237 :: .int 671 1238 :: .int 694 1239 :: .int 53 1240 :: .int 28 1241 :: .int 664 1242 :: .int 691 1243 :: .int 57 1244 :: .int 18 1245 :: []))) #[]) ::
  (nat_lit 147, .mk (.type "list") none (.seq (List.toArray (.int 1019 1246 :: .int 336 1247 :: .int 346 1248 :: .int 1009 1249 :: .int 1015 1250 :: .int 350 1251 :: .int 349 1252 :: .int 1012 1253 :: .int 993 1254 :: .int 352 1255 :: .int 331 1256 :: .int 970 1257 :: .int 996 1258 :: .int 366 1259 :: .int 327 1260 :: .int 973 1261 :: .int 794 1262 :: .int 400 1263 :: .int 305 1264 :: .int 955 1265 :: .int 797 1266 :: .int 414 1267 :: .int 308 1268 :: .int 951 1269 :: .int 779 1270 :: .int 416 1271 :: .int 266 1272 :: .int 929 1273 :: .int 775 1274 :: .int 430 1275 :: .int 269 1276 :: .int 932 1277 :: .int 753 1278 :: .int 592 1279 :: .int 251 1280 :: .int 90 1281 :: .int 756 1282 :: .int 606 1283 :: .int 247 1284 :: .int 93 1285 :: .int 714 1286 :: .int 608 1287 :: .int 225 1288 :: .int 75 1289 :: .int 717 1290 :: .int 622 1291 :: .int 228 1292 :: .int 71 1293 :: .int 699 1294 :: .int 656 1295 :: .int 26 1296 :: .int 49 1297 :: .int 695 1298 :: .int 670 1299 :: .int 29 1300 :: .int 52 1301 :: .int 673 1302 :: .int 672 1303 :: .int 11 1304 :: .int 10 1305 :: .int 676 1306 :: .int 686 1307 :: .int 7 1308 :: .int 13 1309 :: .int 1020 1310 :: .int 341 1311 :: .int 342 1312 :: .int 1023 1313 :: .int 1010 1314 :: .int 345 1315 :: .int 339 1316 :: .int 1016 1317 :: .int 1007 1318 :: .int 357 1319 :: .int 332 1320 :: .int 966 1321 :: .int 1000 1322 :: .int 361 1323 :: .int 322 1324 :: .int 963 1325 :: .int 790 1326 :: .int 405 1327 :: .int 319 1328 :: .int 956 1329 :: .int 787 1330 :: .int 409 1331 :: .int 312 1332 :: .int 946 1333 :: .int 780 1334 :: .int 421 1335 :: .int 262 1336 :: .int 943 1337 :: .int 770 1338 :: .int 425 1339 :: .int 259 1340 :: .int 936 1341 :: .int 767 1342 :: .int 597 1343 :: .int 252 1344 :: .int 86 1345 :: .int 760 1346 :: .int 601 1347 :: .int 242 1348 :: .int 83 1349 :: .int 710 1350 :: .int 613 1351 :: .int 239 1352 :: .int 76 1353 :: .int 707 1354 :: .int 617 1355 :: .int 232 1356 :: .int 66 1357 :: .int 700 1358 :: .int 661 1359 :: .int 22 1360 :: .int 63 1361 :: .int 690 1362 :: .int 665 1363 :: .int 19 1364 :: .int 56 1365 :: .int 687 1366 :: .int 677 1367 :: .int 12 1368 :: .int 6 1369 :: .int 680 1370 :: .int 681 1371 :: .int 2 1372 :: .int 3 1373 :: []))) #[]) ::
  (nat_lit 148, .mk (.type "list") none (.seq #[.ref 140,.ref 141,.ref 142,.ref 143,.ref 144,.ref 145,.ref 146,.ref 147]) #[]) ::
  (nat_lit 149, .mk (.type "list") none (.seq (List.toArray (.int 0 1375 :: .int 1 1376 :: .int 1022 1377 :: .int 1023 1378 :: .int 65 1379 :: .int 4 1380 :: .int 959 1381 :: .int 1018 1382 :: .int 69 1383 :: .int 68 1384 :: .int 955 1385 :: .int 954 1386 :: .int 6 1387 :: .int 67 1388 :: .int 1016 1389 :: .int 957 1390 :: .int 9 1391 :: .int 128 1392 :: .int 1015 1393 :: .int 894 1394 :: .int 12 1395 :: .int 193 1396 :: .int 1010 1397 :: .int 831 1398 :: .int 76 1399 :: .int 197 1400 :: .int 946 1401 :: .int 827 1402 :: .int 75 1403 :: .int 134 1404 :: .int 949 1405 :: .int 888 1406 :: .int 137 1407 :: .int 136 1408 :: .int 887 1409 :: .int 886 1410 :: .int 140 1411 :: .int 201 1412 :: .int 882 1413 :: .int 823 1414 :: .int 204 1415 :: .int 205 1416 :: .int 818 1417 :: .int 819 1418 :: .int 203 1419 :: .int 142 1420 :: .int 821 1421 :: .int 880 1422 :: .int 198 1423 :: .int 79 1424 :: .int 824 1425 :: .int 945 1426 :: .int 135 1427 :: .int 74 1428 :: .int 889 1429 :: .int 948 1430 :: .int 131 1431 :: .int 10 1432 :: .int 893 1433 :: .int 1012 1434 :: .int 192 1435 :: .int 13 1436 :: .int 830 1437 :: .int 1011 1438 :: .int 257 1439 :: .int 16 1440 :: .int 767 1441 :: .int 1006 1442 :: .int 260 1443 :: .int 81 1444 :: .int 762 1445 :: .int 943 1446 :: .int 324 1447 :: .int 85 1448 :: .int 698 1449 :: .int 939 1450 :: .int 323 1451 :: .int 22 1452 :: .int 701 1453 :: .int 1000 1454 :: .int 384 1455 :: .int 25 1456 :: .int 638 1457 :: .int 999 1458 :: .int 449 1459 :: .int 28 1460 :: .int 575 1461 :: .int 994 1462 :: .int 453 1463 :: .int 92 1464 :: .int 571 1465 :: .int 930 1466 :: .int 390 1467 :: .int 91 1468 :: .int 632 1469 :: .int 933 1470 :: .int 392 1471 :: .int 153 1472 :: .int 630 1473 :: .int 871 1474 :: .int 457 1475 :: .int 156 1476 :: .int 567 1477 :: .int 866 1478 :: .int 461 1479 :: .int 220 1480 :: .int 563 1481 :: .int 802 1482 :: .int 398 1483 :: .int 219 1484 :: .int 624 1485 :: .int 805 1486 :: .int 335 1487 :: .int 214 1488 :: .int 689 1489 :: .int 808 1490 :: .int 330 1491 :: .int 151 1492 :: .int 692 1493 :: .int 873 1494 :: .int 266 1495 :: .int 147 1496 :: .int 756 1497 :: .int 877 1498 :: .int 269 1499 :: .int 208 1500 :: .int 755 1501 :: .int 814 1502 :: []))) #[]) ::
  (nat_lit 150, .mk (.type "list") none (.seq (List.toArray (.int 273 1503 :: .int 272 1504 :: .int 751 1505 :: .int 750 1506 :: .int 276 1507 :: .int 337 1508 :: .int 746 1509 :: .int 687 1510 :: .int 340 1511 :: .int 341 1512 :: .int 682 1513 :: .int 683 1514 :: .int 339 1515 :: .int 278 1516 :: .int 685 1517 :: .int 744 1518 :: .int 400 1519 :: .int 281 1520 :: .int 622 1521 :: .int 743 1522 :: .int 465 1523 :: .int 284 1524 :: .int 559 1525 :: .int 738 1526 :: .int 469 1527 :: .int 348 1528 :: .int 555 1529 :: .int 674 1530 :: .int 406 1531 :: .int 347 1532 :: .int 616 1533 :: .int 677 1534 :: .int 408 1535 :: .int 409 1536 :: .int 614 1537 :: .int 615 1538 :: .int 473 1539 :: .int 412 1540 :: .int 551 1541 :: .int 610 1542 :: .int 477 1543 :: .int 476 1544 :: .int 547 1545 :: .int 546 1546 :: .int 414 1547 :: .int 475 1548 :: .int 608 1549 :: .int 549 1550 :: .int 351 1551 :: .int 470 1552 :: .int 673 1553 :: .int 552 1554 :: .int 346 1555 :: .int 407 1556 :: .int 676 1557 :: .int 617 1558 :: .int 282 1559 :: .int 403 1560 :: .int 740 1561 :: .int 621 1562 :: .int 285 1563 :: .int 464 1564 :: .int 739 1565 :: .int 558 1566 :: .int 222 1567 :: .int 463 1568 :: .int 800 1569 :: .int 561 1570 :: .int 159 1571 :: .int 458 1572 :: .int 865 1573 :: .int 564 1574 :: .int 155 1575 :: .int 394 1576 :: .int 869 1577 :: .int 628 1578 :: .int 216 1579 :: .int 397 1580 :: .int 806 1581 :: .int 627 1582 :: .int 215 1583 :: .int 334 1584 :: .int 809 1585 :: .int 688 1586 :: .int 210 1587 :: .int 271 1588 :: .int 812 1589 :: .int 753 1590 :: .int 146 1591 :: .int 267 1592 :: .int 876 1593 :: .int 757 1594 :: .int 149 1595 :: .int 328 1596 :: .int 875 1597 :: .int 694 1598 :: .int 87 1599 :: .int 326 1600 :: .int 937 1601 :: .int 696 1602 :: .int 82 1603 :: .int 263 1604 :: .int 940 1605 :: .int 761 1606 :: .int 18 1607 :: .int 259 1608 :: .int 1004 1609 :: .int 765 1610 :: .int 21 1611 :: .int 320 1612 :: .int 1003 1613 :: .int 702 1614 :: .int 24 1615 :: .int 385 1616 :: .int 998 1617 :: .int 639 1618 :: .int 89 1619 :: .int 388 1620 :: .int 935 1621 :: .int 634 1622 :: .int 93 1623 :: .int 452 1624 :: .int 931 1625 :: .int 570 1626 :: .int 30 1627 :: .int 451 1628 :: .int 992 1629 :: .int 573 1630 :: []))) #[]) ::
  (nat_lit 151, .mk (.type "list") none (.seq (List.toArray (.int 33 1631 :: .int 512 1632 :: .int 991 1633 :: .int 510 1634 :: .int 36 1635 :: .int 577 1636 :: .int 986 1637 :: .int 447 1638 :: .int 100 1639 :: .int 581 1640 :: .int 922 1641 :: .int 443 1642 :: .int 99 1643 :: .int 518 1644 :: .int 925 1645 :: .int 504 1646 :: .int 160 1647 :: .int 521 1648 :: .int 862 1649 :: .int 503 1650 :: .int 225 1651 :: .int 524 1652 :: .int 799 1653 :: .int 498 1654 :: .int 229 1655 :: .int 588 1656 :: .int 795 1657 :: .int 434 1658 :: .int 166 1659 :: .int 587 1660 :: .int 856 1661 :: .int 437 1662 :: .int 168 1663 :: .int 649 1664 :: .int 854 1665 :: .int 375 1666 :: .int 233 1667 :: .int 652 1668 :: .int 791 1669 :: .int 370 1670 :: .int 237 1671 :: .int 716 1672 :: .int 787 1673 :: .int 306 1674 :: .int 174 1675 :: .int 715 1676 :: .int 848 1677 :: .int 309 1678 :: .int 111 1679 :: .int 710 1680 :: .int 913 1681 :: .int 312 1682 :: .int 106 1683 :: .int 647 1684 :: .int 916 1685 :: .int 377 1686 :: .int 42 1687 :: .int 643 1688 :: .int 980 1689 :: .int 381 1690 :: .int 45 1691 :: .int 704 1692 :: .int 979 1693 :: .int 318 1694 :: .int 48 1695 :: .int 769 1696 :: .int 974 1697 :: .int 255 1698 :: .int 113 1699 :: .int 772 1700 :: .int 911 1701 :: .int 250 1702 :: .int 117 1703 :: .int 836 1704 :: .int 907 1705 :: .int 186 1706 :: .int 54 1707 :: .int 835 1708 :: .int 968 1709 :: .int 189 1710 :: .int 57 1711 :: .int 896 1712 :: .int 967 1713 :: .int 126 1714 :: .int 60 1715 :: .int 961 1716 :: .int 962 1717 :: .int 63 1718 :: .int 124 1719 :: .int 965 1720 :: .int 898 1721 :: .int 59 1722 :: .int 123 1723 :: .int 902 1724 :: .int 901 1725 :: .int 120 1726 :: .int 185 1727 :: .int 904 1728 :: .int 839 1729 :: .int 118 1730 :: .int 188 1731 :: .int 969 1732 :: .int 834 1733 :: .int 55 1734 :: .int 252 1735 :: .int 973 1736 :: .int 770 1737 :: .int 51 1738 :: .int 251 1739 :: .int 910 1740 :: .int 773 1741 :: .int 112 1742 :: .int 246 1743 :: .int 847 1744 :: .int 776 1745 :: .int 177 1746 :: .int 183 1747 :: .int 842 1748 :: .int 841 1749 :: .int 180 1750 :: .int 179 1751 :: .int 778 1752 :: .int 845 1753 :: .int 244 1754 :: .int 240 1755 :: .int 781 1756 :: .int 782 1757 :: .int 243 1758 :: []))) #[]) ::
  (nat_lit 152, .mk (.type "list") none (.seq (List.toArray (.int 304 1759 :: .int 785 1760 :: .int 718 1761 :: .int 239 1762 :: .int 369 1763 :: .int 788 1764 :: .int 655 1765 :: .int 234 1766 :: .int 373 1767 :: .int 852 1768 :: .int 651 1769 :: .int 170 1770 :: .int 310 1771 :: .int 851 1772 :: .int 712 1773 :: .int 173 1774 :: .int 313 1775 :: .int 912 1776 :: .int 711 1777 :: .int 110 1778 :: .int 316 1779 :: .int 977 1780 :: .int 706 1781 :: .int 47 1782 :: .int 380 1783 :: .int 981 1784 :: .int 642 1785 :: .int 43 1786 :: .int 379 1787 :: .int 918 1788 :: .int 645 1789 :: .int 104 1790 :: .int 441 1791 :: .int 920 1792 :: .int 583 1793 :: .int 102 1794 :: .int 444 1795 :: .int 985 1796 :: .int 578 1797 :: .int 39 1798 :: .int 508 1799 :: .int 989 1800 :: .int 514 1801 :: .int 35 1802 :: .int 507 1803 :: .int 926 1804 :: .int 517 1805 :: .int 96 1806 :: .int 502 1807 :: .int 863 1808 :: .int 520 1809 :: .int 161 1810 :: .int 439 1811 :: .int 858 1812 :: .int 585 1813 :: .int 164 1814 :: .int 435 1815 :: .int 794 1816 :: .int 589 1817 :: .int 228 1818 :: .int 496 1819 :: .int 797 1820 :: .int 526 1821 :: .int 227 1822 :: .int 495 1823 :: .int 734 1824 :: .int 529 1825 :: .int 288 1826 :: .int 490 1827 :: .int 671 1828 :: .int 532 1829 :: .int 353 1830 :: .int 426 1831 :: .int 667 1832 :: .int 596 1833 :: .int 357 1834 :: .int 429 1835 :: .int 728 1836 :: .int 595 1837 :: .int 294 1838 :: .int 366 1839 :: .int 727 1840 :: .int 656 1841 :: .int 297 1842 :: .int 303 1843 :: .int 722 1844 :: .int 721 1845 :: .int 300 1846 :: .int 299 1847 :: .int 658 1848 :: .int 725 1849 :: .int 364 1850 :: .int 360 1851 :: .int 661 1852 :: .int 662 1853 :: .int 363 1854 :: .int 358 1855 :: .int 599 1856 :: .int 664 1857 :: .int 425 1858 :: .int 295 1859 :: .int 594 1860 :: .int 729 1861 :: .int 428 1862 :: .int 291 1863 :: .int 530 1864 :: .int 733 1865 :: .int 492 1866 :: .int 352 1867 :: .int 533 1868 :: .int 670 1869 :: .int 491 1870 :: .int 417 1871 :: .int 536 1872 :: .int 607 1873 :: .int 486 1874 :: .int 420 1875 :: .int 601 1876 :: .int 602 1877 :: .int 423 1878 :: .int 484 1879 :: .int 605 1880 :: .int 538 1881 :: .int 419 1882 :: .int 483 1883 :: .int 542 1884 :: .int 541 1885 :: .int 480 1886 :: []))) #[]) ::
  (nat_lit 153, .mk (.type "list") none (.seq (List.toArray (.int 545 1887 :: .int 544 1888 :: .int 479 1889 :: .int 478 1890 :: .int 548 1891 :: .int 609 1892 :: .int 474 1893 :: .int 415 1894 :: .int 612 1895 :: .int 613 1896 :: .int 410 1897 :: .int 411 1898 :: .int 611 1899 :: .int 550 1900 :: .int 413 1901 :: .int 472 1902 :: .int 672 1903 :: .int 553 1904 :: .int 350 1905 :: .int 471 1906 :: .int 737 1907 :: .int 556 1908 :: .int 287 1909 :: .int 466 1910 :: .int 741 1911 :: .int 620 1912 :: .int 283 1913 :: .int 402 1914 :: .int 678 1915 :: .int 619 1916 :: .int 344 1917 :: .int 405 1918 :: .int 680 1919 :: .int 681 1920 :: .int 342 1921 :: .int 343 1922 :: .int 745 1923 :: .int 684 1924 :: .int 279 1925 :: .int 338 1926 :: .int 749 1927 :: .int 748 1928 :: .int 275 1929 :: .int 274 1930 :: .int 686 1931 :: .int 747 1932 :: .int 336 1933 :: .int 277 1934 :: .int 623 1935 :: .int 742 1936 :: .int 401 1937 :: .int 280 1938 :: .int 618 1939 :: .int 679 1940 :: .int 404 1941 :: .int 345 1942 :: .int 554 1943 :: .int 675 1944 :: .int 468 1945 :: .int 349 1946 :: .int 557 1947 :: .int 736 1948 :: .int 467 1949 :: .int 286 1950 :: .int 560 1951 :: .int 801 1952 :: .int 462 1953 :: .int 223 1954 :: .int 625 1955 :: .int 804 1956 :: .int 399 1957 :: .int 218 1958 :: .int 629 1959 :: .int 868 1960 :: .int 395 1961 :: .int 154 1962 :: .int 566 1963 :: .int 867 1964 :: .int 456 1965 :: .int 157 1966 :: .int 569 1967 :: .int 928 1968 :: .int 455 1969 :: .int 94 1970 :: .int 572 1971 :: .int 993 1972 :: .int 450 1973 :: .int 31 1974 :: .int 636 1975 :: .int 997 1976 :: .int 386 1977 :: .int 27 1978 :: .int 635 1979 :: .int 934 1980 :: .int 389 1981 :: .int 88 1982 :: .int 697 1983 :: .int 936 1984 :: .int 327 1985 :: .int 86 1986 :: .int 700 1987 :: .int 1001 1988 :: .int 322 1989 :: .int 23 1990 :: .int 764 1991 :: .int 1005 1992 :: .int 258 1993 :: .int 19 1994 :: .int 763 1995 :: .int 942 1996 :: .int 261 1997 :: .int 80 1998 :: .int 758 1999 :: .int 879 2000 :: .int 264 2001 :: .int 145 2002 :: .int 695 2003 :: .int 874 2004 :: .int 329 2005 :: .int 148 2006 :: .int 691 2007 :: .int 810 2008 :: .int 333 2009 :: .int 212 2010 :: .int 752 2011 :: .int 813 2012 :: .int 270 2013 :: .int 211 2014 :: []))) #[]) ::
  (nat_lit 154, .mk (.type "list") none (.seq (List.toArray (.int 816 2015 :: .int 817 2016 :: .int 206 2017 :: .int 207 2018 :: .int 881 2019 :: .int 820 2020 :: .int 143 2021 :: .int 202 2022 :: .int 885 2023 :: .int 884 2024 :: .int 139 2025 :: .int 138 2026 :: .int 822 2027 :: .int 883 2028 :: .int 200 2029 :: .int 141 2030 :: .int 825 2031 :: .int 944 2032 :: .int 199 2033 :: .int 78 2034 :: .int 828 2035 :: .int 1009 2036 :: .int 194 2037 :: .int 15 2038 :: .int 892 2039 :: .int 1013 2040 :: .int 130 2041 :: .int 11 2042 :: .int 891 2043 :: .int 950 2044 :: .int 133 2045 :: .int 72 2046 :: .int 953 2047 :: .int 952 2048 :: .int 71 2049 :: .int 70 2050 :: .int 956 2051 :: .int 1017 2052 :: .int 66 2053 :: .int 7 2054 :: .int 1020 2055 :: .int 1021 2056 :: .int 2 2057 :: .int 3 2058 :: .int 1019 2059 :: .int 958 2060 :: .int 5 2061 :: .int 64 2062 :: .int 1014 2063 :: .int 895 2064 :: .int 8 2065 :: .int 129 2066 :: .int 951 2067 :: .int 890 2068 :: .int 73 2069 :: .int 132 2070 :: .int 947 2071 :: .int 826 2072 :: .int 77 2073 :: .int 196 2074 :: .int 1008 2075 :: .int 829 2076 :: .int 14 2077 :: .int 195 2078 :: .int 1007 2079 :: .int 766 2080 :: .int 17 2081 :: .int 256 2082 :: .int 1002 2083 :: .int 703 2084 :: .int 20 2085 :: .int 321 2086 :: .int 938 2087 :: .int 699 2088 :: .int 84 2089 :: .int 325 2090 :: .int 941 2091 :: .int 760 2092 :: .int 83 2093 :: .int 262 2094 :: .int 878 2095 :: .int 759 2096 :: .int 144 2097 :: .int 265 2098 :: .int 815 2099 :: .int 754 2100 :: .int 209 2101 :: .int 268 2102 :: .int 811 2103 :: .int 690 2104 :: .int 213 2105 :: .int 332 2106 :: .int 872 2107 :: .int 693 2108 :: .int 150 2109 :: .int 331 2110 :: .int 870 2111 :: .int 631 2112 :: .int 152 2113 :: .int 393 2114 :: .int 807 2115 :: .int 626 2116 :: .int 217 2117 :: .int 396 2118 :: .int 803 2119 :: .int 562 2120 :: .int 221 2121 :: .int 460 2122 :: .int 864 2123 :: .int 565 2124 :: .int 158 2125 :: .int 459 2126 :: .int 929 2127 :: .int 568 2128 :: .int 95 2129 :: .int 454 2130 :: .int 932 2131 :: .int 633 2132 :: .int 90 2133 :: .int 391 2134 :: .int 996 2135 :: .int 637 2136 :: .int 26 2137 :: .int 387 2138 :: .int 995 2139 :: .int 574 2140 :: .int 29 2141 :: .int 448 2142 :: []))) #[]) ::
  (nat_lit 155, .mk (.type "list") none (.seq (List.toArray (.int 990 2143 :: .int 511 2144 :: .int 32 2145 :: .int 513 2146 :: .int 927 2147 :: .int 506 2148 :: .int 97 2149 :: .int 516 2150 :: .int 923 2151 :: .int 442 2152 :: .int 101 2153 :: .int 580 2154 :: .int 984 2155 :: .int 445 2156 :: .int 38 2157 :: .int 579 2158 :: .int 983 2159 :: .int 382 2160 :: .int 41 2161 :: .int 640 2162 :: .int 978 2163 :: .int 319 2164 :: .int 44 2165 :: .int 705 2166 :: .int 914 2167 :: .int 315 2168 :: .int 108 2169 :: .int 709 2170 :: .int 917 2171 :: .int 376 2172 :: .int 107 2173 :: .int 646 2174 :: .int 855 2175 :: .int 374 2176 :: .int 169 2177 :: .int 648 2178 :: .int 850 2179 :: .int 311 2180 :: .int 172 2181 :: .int 713 2182 :: .int 786 2183 :: .int 307 2184 :: .int 236 2185 :: .int 717 2186 :: .int 789 2187 :: .int 368 2188 :: .int 235 2189 :: .int 654 2190 :: .int 792 2191 :: .int 433 2192 :: .int 230 2193 :: .int 591 2194 :: .int 857 2195 :: .int 436 2196 :: .int 167 2197 :: .int 586 2198 :: .int 861 2199 :: .int 500 2200 :: .int 163 2201 :: .int 522 2202 :: .int 798 2203 :: .int 499 2204 :: .int 224 2205 :: .int 525 2206 :: .int 735 2207 :: .int 494 2208 :: .int 289 2209 :: .int 528 2210 :: .int 730 2211 :: .int 431 2212 :: .int 292 2213 :: .int 593 2214 :: .int 666 2215 :: .int 427 2216 :: .int 356 2217 :: .int 597 2218 :: .int 669 2219 :: .int 488 2220 :: .int 355 2221 :: .int 534 2222 :: .int 606 2223 :: .int 487 2224 :: .int 416 2225 :: .int 537 2226 :: .int 543 2227 :: .int 482 2228 :: .int 481 2229 :: .int 540 2230 :: .int 539 2231 :: .int 418 2232 :: .int 485 2233 :: .int 604 2234 :: .int 600 2235 :: .int 421 2236 :: .int 422 2237 :: .int 603 2238 :: .int 598 2239 :: .int 359 2240 :: .int 424 2241 :: .int 665 2242 :: .int 535 2243 :: .int 354 2244 :: .int 489 2245 :: .int 668 2246 :: .int 531 2247 :: .int 290 2248 :: .int 493 2249 :: .int 732 2250 :: .int 592 2251 :: .int 293 2252 :: .int 430 2253 :: .int 731 2254 :: .int 657 2255 :: .int 296 2256 :: .int 367 2257 :: .int 726 2258 :: .int 660 2259 :: .int 361 2260 :: .int 362 2261 :: .int 663 2262 :: .int 724 2263 :: .int 365 2264 :: .int 298 2265 :: .int 659 2266 :: .int 723 2267 :: .int 302 2268 :: .int 301 2269 :: .int 720 2270 :: []))) #[]) ::
  (nat_lit 156, .mk (.type "list") none (.seq (List.toArray (.int 719 2271 :: .int 238 2272 :: .int 305 2273 :: .int 784 2274 :: .int 714 2275 :: .int 175 2276 :: .int 308 2277 :: .int 849 2278 :: .int 650 2279 :: .int 171 2280 :: .int 372 2281 :: .int 853 2282 :: .int 653 2283 :: .int 232 2284 :: .int 371 2285 :: .int 790 2286 :: .int 590 2287 :: .int 231 2288 :: .int 432 2289 :: .int 793 2290 :: .int 527 2291 :: .int 226 2292 :: .int 497 2293 :: .int 796 2294 :: .int 523 2295 :: .int 162 2296 :: .int 501 2297 :: .int 860 2298 :: .int 584 2299 :: .int 165 2300 :: .int 438 2301 :: .int 859 2302 :: .int 582 2303 :: .int 103 2304 :: .int 440 2305 :: .int 921 2306 :: .int 519 2307 :: .int 98 2308 :: .int 505 2309 :: .int 924 2310 :: .int 515 2311 :: .int 34 2312 :: .int 509 2313 :: .int 988 2314 :: .int 576 2315 :: .int 37 2316 :: .int 446 2317 :: .int 987 2318 :: .int 641 2319 :: .int 40 2320 :: .int 383 2321 :: .int 982 2322 :: .int 644 2323 :: .int 105 2324 :: .int 378 2325 :: .int 919 2326 :: .int 708 2327 :: .int 109 2328 :: .int 314 2329 :: .int 915 2330 :: .int 707 2331 :: .int 46 2332 :: .int 317 2333 :: .int 976 2334 :: .int 768 2335 :: .int 49 2336 :: .int 254 2337 :: .int 975 2338 :: .int 833 2339 :: .int 52 2340 :: .int 191 2341 :: .int 970 2342 :: .int 837 2343 :: .int 116 2344 :: .int 187 2345 :: .int 906 2346 :: .int 774 2347 :: .int 115 2348 :: .int 248 2349 :: .int 909 2350 :: .int 777 2351 :: .int 176 2352 :: .int 247 2353 :: .int 846 2354 :: .int 780 2355 :: .int 241 2356 :: .int 242 2357 :: .int 783 2358 :: .int 844 2359 :: .int 245 2360 :: .int 178 2361 :: .int 779 2362 :: .int 843 2363 :: .int 182 2364 :: .int 181 2365 :: .int 840 2366 :: .int 905 2367 :: .int 184 2368 :: .int 119 2369 :: .int 838 2370 :: .int 908 2371 :: .int 249 2372 :: .int 114 2373 :: .int 775 2374 :: .int 972 2375 :: .int 253 2376 :: .int 50 2377 :: .int 771 2378 :: .int 971 2379 :: .int 190 2380 :: .int 53 2381 :: .int 832 2382 :: .int 966 2383 :: .int 127 2384 :: .int 56 2385 :: .int 897 2386 :: .int 903 2387 :: .int 122 2388 :: .int 121 2389 :: .int 900 2390 :: .int 899 2391 :: .int 58 2392 :: .int 125 2393 :: .int 964 2394 :: .int 960 2395 :: .int 61 2396 :: .int 62 2397 :: .int 963 2398 :: []))) #[]) ::
  (nat_lit 157, .mk (.type "list") none (.seq #[.ref 149,.ref 150,.ref 151,.ref 152,.ref 153,.ref 154,.ref 155,.ref 156]) #[]) ::
  (nat_lit 158, .mk (.type "tuple") none (.seq #[.type "object"]) #[]) ::
  (nat_lit 165, .mk (.type "tuple") none (.seq #[.int 0 2435]) #[]) ::
  (nat_lit 166, .mk (.type "tuple") none (.seq #[]) #[]) ::
  (nat_lit 168, .mk (.type "tuple") none (.seq #[.str (ofString "self") 2439,.str (ofString "id_") 2440]) #[]) ::
  (nat_lit 169, .mk (.type "tuple") none (.seq #[]) #[]) ::
  (nat_lit 171, .mk (.type "code") none (.fields #[.str (ofString "__init__") 2436,.str (ofString "CellId.__init__") 2437,.str (ofString "/claim/cut.py") 2438,.int 80 0,.int 2 0,.int 0 0,.int 0 0,.int 3 0,.ref 166,.bool true,.int 181 0,.ref 167,.none,.ref 168,.ref 169,.ref 170,.int 2441 0,.int 80 0,.str (ofString "/claim/cut.py") 2442]) #[]) ::
  (nat_lit 172, .mk (.type "function") none (.func (by (refine' (_ : RwWay (rwM 9 10 rfl rfl fun n a b c => .mk n (ofString "CellId.__init__") a b c 3 [] (.ref 165) .none .none (.str (ofString "s2sphere.sphere") 194) none (.ref 171) .none 0)) _ _; exact fun x _ => x; rotate_left; conv => (rhs; whnf)))) #[]) ::
  (nat_lit 173, .mk (.type "tuple") none (.seq #[]) #[]) ::
  (nat_lit 175, .mk (.type "tuple") none (.seq #[.str (ofString "self") 2447]) #[]) ::
  (nat_lit 176, .mk (.type "tuple") none (.seq #[]) #[]) ::
  (nat_lit 178, .mk (.type "code") none (.fields #[.str (ofString "__repr__") 2444,.str (ofString "CellId.__repr__") 2445,.str (ofString "/claim/cut.py") 2446,.int 83 0,.int 1 0,.int 0 0,.int 0 0,.int 3 0,.ref 173,.bool true,.int 181 0,.ref 174,.none,.ref 175,.ref 176,.ref 177,.int 2448 0,.int 83 0,.str (ofString "/claim/cut.py") 2449]) #[]) ::
  (nat_lit 179, .mk (.type "function") none (.func (by (refine' (_ : RwWay (rwM 9 11 rfl rfl fun n a b c => .mk n (ofString "CellId.__repr__") a b c 3 [] .none .none .none (.str (ofString "s2sphere.sphere") 194) none (.ref 178) .none 0)) _ _; exact fun x _ => x; rotate_left; conv => (rhs; whnf)))) #[]) ::
  (nat_lit 180, .mk (.type "tuple") none (.seq #[]) #[]) ::
  (nat_lit 182, .mk (.type "tuple") none (.seq #[.str (ofString "self") 2454]) #[]) ::
  (nat_lit 183, .mk (.type "tuple") none (.seq #[]) #[]) ::
  (nat_lit 185, .mk (.type "code") none (.fields #[.str (ofString "__hash__") 2451,.str (ofString "CellId.__hash__") 2452,.str (ofString "/claim/cut.py") 2453,.int 86 0,.int 1 0,.int 0 0,.int 0 0,.int 3 0,.ref 180,.bool true,.int 181 0,.ref 181,.none,.ref 182,.ref 183,.ref 184,.int 2455 0,.int 86 0,.str (ofString "/claim/cut.py") 2456]) #[]) ::
  (nat_lit 186, .mk (.type "function") none (.func (by (refine' (_ : RwWay (rwM 9 12 rfl rfl fun n a b c => .mk n (ofString "CellId.__hash__") a b c 3 [] .none .none .none (.str (ofString "s2sphere.sphere") 194) none (.ref 185) .none 0)) _ _; exact fun x _ => x; rotate_left; conv => (rhs; whnf)))) #[]) ::
  (nat_lit 187, .mk (.type "tuple") none (.seq #[]) #[]) ::
  (nat_lit 189, .mk (.type "tuple") none (.seq #[.str (ofString "self") 2461,.str (ofString "other") 2462]) #[]) ::
  (nat_lit 190, .mk (.type "tuple") none (.seq #[]) #[]) ::
  (nat_lit 192, .mk (.type "code") none (.fields #[.str (ofString "__eq__") 2458,.str (ofString "CellId.__eq__") 2459,.str (ofString "/claim/cut.py") 2460,.int 89 0,.int 2 0,.int 0 0,.int 0 0,.int 3 0,.ref 187,.bool true,.int 181 0,.ref 188,.none,.ref 189,.ref 190,.ref 191,.int 2463 0,.int 89 0,.str (ofString "/claim/cut.py") 2464]) #[]) ::
  (nat_lit 193, .mk (.type "function") none (.func (by (refine' (_ : RwWay (rwM 9 13 rfl rfl fun n a b c => .mk n (ofString "CellId.__eq__") a b c 3 [] .none .none .none (.str (ofString "s2sphere.sphere") 194) none (.ref 192) .none 0)) _ _; exact fun x _ => x; rotate_left; conv => (rhs; whnf)))) #[]) ::
  (nat_lit 194, .mk (.type "tuple") none (.seq #[]) #[]) ::
  (nat_lit 196, .mk (.type "tuple") none (.seq #[.str (ofString "self") 2469,.str (ofString "other") 2470]) #[]) ::
  (nat_lit 197, .mk (.type "tuple") none (.seq #[]) #[]) ::
  (nat_lit 199, .mk (.type "code") none (.fields #[.str (ofString "__ne__") 2466,.str (ofString "CellId.__ne__") 2467,.str (ofString "/claim/cut.py") 2468,.int 92 0,.int 2 0,.int 0 0,.int 0 0,.int 3 0,.ref 194,.bool true,.int 181 0,.ref 195,.none,.ref 196,.ref 197,.ref 198,.int 2471 0,.int 92 0,.str (ofString "/claim/cut.py") 2472]) #[]) ::
  (nat_lit 200, .mk (.type "function") none (.func (by (refine' (_ : RwWay (rwM 9 14 rfl rfl fun n a b c => .mk n (ofString "CellId.__ne__") a b c 3 [] .none .none .none (.str (ofString "s2sphere.sphere") 194) none (.ref 199) .none 0)) _ _; exact fun x _ => x; rotate_left; conv => (rhs; whnf)))) #[]) ::
  (nat_lit 201, .mk (.type "tuple") none (.seq #[]) #[]) ::
  (nat_lit 203, .mk (.type "tuple") none (.seq #[.str (ofString "self") 2477,.str (ofString "other") 2478]) #[]) ::
  (nat_lit 204, .mk (.type "tuple") none (.seq #[]) #[]) ::
  (nat_lit 206, .mk (.type "code") none (.fields #[.str (ofString "__lt__") 2474,.str (ofString "CellId.__lt__") 2475,.str (ofString "/claim/cut.py") 2476,.int 95 0,.int 2 0,.int 0 0,.int 0 0,.int 3 0,.ref 201,.bool true,.int 181 0,.ref 202,.none,.ref 203,.ref 204,.ref 205,.int 2479 0,.int 95 0,.str (ofString "/claim/cut.py") 2480]) #[]) ::
  (nat_lit 207, .mk (.type "function") none (.func (by (refine' (_ : RwWay (rwM 9 15 rfl rfl fun n a b c => .mk n (ofString "CellId.__lt__") a b c 3 [] .none .none .none (.str (ofString "s2sphere.sphere") 194) none (.ref 206) .none 0)) _ _; exact fun x _ => x; rotate_left; conv => (rhs; whnf)))) #[]) ::
  (nat_lit 208, .mk (.type "tuple") none (.seq #[]) #[]) ::
  (nat_lit 210, .mk (.type "tuple") none (.seq #[.str (ofString "self") 2485,.str (ofString "other") 2486]) #[]) ::
  (nat_lit 211, .mk (.type "tuple") none (.seq #[]) #[]) ::
  (nat_lit 213, .mk (.type "code") none (.fields #[.str (ofString "__le__") 2482,.str (ofString "CellId.__le__") 2483,.str (ofString "/claim/cut.py") 2484,.int 98 0,.int 2 0,.int 0 0,.int 0 0,.int 3 0,.ref 208,.bool true,.int 181 0,.ref 209,.none,.ref 210,.ref 211,.ref 212,.int 2487 0,.int 98 0,.str (ofString "/claim/cut.py") 2488]) #[]) ::
  (nat_lit 214, .mk (.type "function") none (.func (by (refine' (_ : RwWay (rwM 9 16 rfl rfl fun n a b c => .mk n (ofString "CellId.__le__") a b c 3 [] .none .none .none (.str (ofString "s2sphere.sphere") 194) none (.ref 213) .none 0)) _ _; exact fun x _ => x; rotate_left; conv => (rhs; whnf)))) #[]) ::
  (nat_lit 215, .mk (.type "tuple") none (.seq #[]) #[]) ::
  (nat_lit 217, .mk (.type "tuple") none (.seq #[.str (ofString "self") 2493,.str (ofString "other") 2494]) #[]) ::
  (nat_lit 218, .mk (.type "tuple") none (.seq #[]) #[]) ::
  (nat_lit 220, .mk (.type "code") none (.fields #[.str (ofString "__gt__") 2490,.str (ofString "CellId.__gt__") 2491,.str (ofString "/claim/cut.py") 2492,.int 101 0,.int 2 0,.int 0 0,.int 0 0,.int 3 0,.ref 215,.bool true,.int 181 0,.ref 216,.none,.ref 217,.ref 218,.ref 219,.int 2495 0,.int 101 0,.str (ofString "/claim/cut.py") 2496]) #[]) ::
  (nat_lit 221, .mk (.type "function") none (.func (by (refine' (_ : RwWay (rwM 9 17 rfl rfl fun n a b c => .mk n (ofString "CellId.__gt__") a b c 3 [] .none .none .none (.str (ofString "s2sphere.sphere") 194) none (.ref 220) .none 0)) _ _; exact fun x _ => x; rotate_left; conv => (rhs; whnf)))) #[]) ::
  (nat_lit 222, .mk (.type "tuple") none (.seq #[]) #[]) ::
  (nat_lit 224, .mk (.type "tuple") none (.seq #[.str (ofString "self") 2501,.str (ofString "other") 2502]) #[]) ::
  (nat_lit 225, .mk (.type "tuple") none (.seq #[]) #[]) ::
  (nat_lit 227, .mk (.type "code") none (.fields #[.str (ofString "__ge__") 2498,.str (ofString "CellId.__ge__") 2499,.str (ofString "/claim/cut.py") 2500,.int 104 0,.int 2 0,.int 0 0,.int 0 0,.int 3 0,.ref 222,.bool true,.int 181 0,.ref 223,.none,.ref 224,.ref 225,.ref 226,.int 2503 0,.int 104 0,.str (ofString "/claim/cut.py") 2504]) #[]) ::
  (nat_lit 228, .mk (.type "function") none (.func (by (refine' (_ : RwWay (rwM 9 18 rfl rfl fun n a b c => .mk n (ofString "CellId.__ge__") a b c 3 [] .none .none .none (.str (ofString "s2sphere.sphere") 194) none (.ref 227) .none 0)) _ _; exact fun x _ => x; rotate_left; conv => (rhs; whnf)))) #[]) ::
  (nat_lit 229, .mk (.type "tuple") none (.seq #[]) #[]) ::
  (nat_lit 231, .mk (.type "tuple") none (.seq #[.str (ofString "cls") 2509,.str (ofString "face") 2510,.str (ofString "pos") 2511,.str (ofString "level") 2512]) #[]) ::
  (nat_lit 232, .mk (.type "tuple") none (.seq #[]) #[]) ::
  (nat_lit 234, .mk (.type "code") none (.fields #[.str (ofString "from_face_pos_level") 2506,.str (ofString "CellId.from_face_pos_level") 2507,.str (ofString "/claim/cut.py") 2508,.int 107 0,.int 4 0,.int 0 0,.int 0 0,.int 3 0,.ref 229,.bool true,.int 181 0,.ref 230,.none,.ref 231,.ref 232,.ref 233,.int 2513 0,.int 107 0,.str (ofString "/claim/cut.py") 2514]) #[]) ::
  (nat_lit 235, .mk (.type "function") none (.func (by (refine' (_ : RwWay (rwM 9 19 rfl rfl fun n a b c => .mk n (ofString "CellId.from_face_pos_level") a b c 3 [] .none .none .none (.str (ofString "s2sphere.sphere") 194) (some 238) (.ref 234) .none 0)) _ _; exact fun x _ => x; rotate_left; conv => (rhs; whnf)))) #[]) ::
  (nat_lit 236, .mk (.type "dict") none (.dict #[.mk (PyData.keyHash P (ofString "__module__")) (.str (ofString "__module__") 2516) (.str (ofString "s2sphere.sphere") 194),.mk (PyData.keyHash P (ofString "__name__")) (.str (ofString "__name__") 2519) (.str (ofString "from_face_pos_level") 2518),.mk (PyData.keyHash P (ofString "__qualname__")) (.str (ofString "__qualname__") 2522) (.str (ofString "CellId.from_face_pos_level") 2521),.mk (PyData.keyHash P (ofString "__doc__")) (.str (ofString "__doc__") 2524) .none,.mk (PyData.keyHash P (ofString "__annotations__")) (.str (ofString "__annotations__") 2526) (.ref 238)] 5) #[]) ::
  (nat_lit 237, .mk (.type "classmethod") (some 236) (.fields #[.ref 235,.bool false]) #[]) ::
  (nat_lit 238, .mk (.type "dict") none (.dict #[]) #[]) ::
  (nat_lit 239, .mk (.type "tuple") none (.seq #[]) #[]) ::
  (nat_lit 241, .mk (.type "tuple") none (.seq #[.str (ofString "cls") 2531,.str (ofString "face") 2532,.str (ofString "i") 2533,.str (ofString "j") 2534,.str (ofString "n") 2535,.str (ofString "bits") 2536,.str (ofString "k") 2537,.str (ofString "mask") 2538]) #[]) ::
  (nat_lit 242, .mk (.type "tuple") none (.seq #[]) #[]) ::
  (nat_lit 244, .mk (.type "code") none (.fields #[.str (ofString "from_face_ij") 2528,.str (ofString "CellId.from_face_ij") 2529,.str (ofString "/claim/cut.py") 2530,.int 111 0,.int 4 0,.int 0 0,.int 0 0,.int 3 0,.ref 239,.bool true,.int 181 0,.ref 240,.none,.ref 241,.ref 242,.ref 243,.int 2539 0,.int 111 0,.str (ofString "/claim/cut.py") 2540]) #[]) ::
  (nat_lit 245, .mk (.type "function") none (.func (by (refine' (_ : RwWay (rwM 9 20 rfl rfl fun n a b c => .mk n (ofString "CellId.from_face_ij") a b c 3 [] .none .none .none (.str (ofString "s2sphere.sphere") 194) (some 248) (.ref 244) .none 0)) _ _; exact fun x _ => x; rotate_left; conv => (rhs; whnf)))) #[]) ::
  (nat_lit 246, .mk (.type "dict") none (.dict #[.mk (PyData.keyHash P (ofString "__module__")) (.str (ofString "__module__") 2542) (.str (ofString "s2sphere.sphere") 194),.mk (PyData.keyHash P (ofString "__name__")) (.str (ofString "__name__") 2545) (.str (ofString "from_face_ij") 2544),.mk (PyData.keyHash P (ofString "__qualname__")) (.str (ofString "__qualname__") 2548) (.str (ofString "CellId.from_face_ij") 2547),.mk (PyData.keyHash P (ofString "__doc__")) (.str (ofString "__doc__") 2550) .none,.mk (PyData.keyHash P (ofString "__annotations__")) (.str (ofString "__annotations__") 2552) (.ref 248)] 5) #[]) ::
  (nat_lit 247, .mk (.type "classmethod") (some 246) (.fields #[.ref 245,.bool false]) #[]) ::
  (nat_lit 248, .mk (.type "dict") none (.dict #[]) #[]) ::
  (nat_lit 249, .mk (.type "tuple") none (.seq #[]) #[]) ::
  (nat_lit 251, .mk (.type "tuple") none (.seq #[.str (ofString "cls") 2557,.str (ofString "face") 2558,.str (ofString "i") 2559,.str (ofString "j") 2560,.str (ofString "scale") 2561,.str (ofString "u") 2562,.str (ofString "v") 2563]) #[]) ::
  (nat_lit 252, .mk (.type "tuple") none (.seq #[]) #[]) ::
  (nat_lit 254, .mk (.type "code") none (.fields #[.str (ofString "from_face_ij_wrap") 2554,.str (ofString "CellId.from_face_ij_wrap") 2555,.str (ofString "/claim/cut.py") 2556,.int 124 0,.int 4 0,.int 0 0,.int 0 0,.int 3 0,.ref 249,.bool true,.int 181 0,.ref 250,.none,.ref 251,.ref 252,.ref 253,.int 2564 0,.int 124 0,.str (ofString "/claim/cut.py") 2565]) #[]) ::
  (nat_lit 255, .mk (.type "function") none (.func (by (refine' (_ : RwWay (rwM 9 21 rfl rfl fun n a b c => .mk n (ofString "CellId.from_face_ij_wrap") a b c 3 [] .none .none .none (.str (ofString "s2sphere.sphere") 194) (some 258) (.ref 254) .none 0)) _ _; exact fun x _ => x; rotate_left; conv => (rhs; whnf)))) #[]) ::
  (nat_lit 256, .mk (.type "dict") none (.dict #[.mk (PyData.keyHash P (ofString "__module__")) (.str (ofString "__module__") 2567) (.str (ofString "s2sphere.sphere") 194),.mk (PyData.keyHash P (ofString "__name__")) (.str (ofString "__name__") 2570) (.str (ofString "from_face_ij_wrap") 2569),.mk (PyData.keyHash P (ofString "__qualname__")) (.str (ofString "__qualname__") 2573) (.str (ofString "CellId.from_face_ij_wrap") 2572),.mk (PyData.keyHash P (ofString "__doc__")) (.str (ofString "__doc__") 2575) .none,.mk (PyData.keyHash P (ofString "__annotations__")) (.str (ofString "__annotations__") 2577) (.ref 258)] 5) #[]) ::
  (nat_lit 257, .mk (.type "classmethod") (some 256) (.fields #[.ref 255,.bool false]) #[]) ::
  (nat_lit 258, .mk (.type "dict") none (.dict #[]) #[]) ::
  (nat_lit 259, .mk (.type "tuple") none (.seq #[]) #[]) ::
  (nat_lit 261, .mk (.type "tuple") none (.seq #[.str (ofString "cls") 2582,.str (ofString "face") 2583,.str (ofString "i") 2584,.str (ofString "j") 2585,.str (ofString "same_face") 2586]) #[]) ::
  (nat_lit 262, .mk (.type "tuple") none (.seq #[]) #[]) ::
  (nat_lit 264, .mk (.type "code") none (.fields #[.str (ofString "from_face_ij_same") 2579,.str (ofString "CellId.from_face_ij_same") 2580,.str (ofString "/claim/cut.py") 2581,.int 134 0,.int 5 0,.int 0 0,.int 0 0,.int 3 0,.ref 259,.bool true,.int 181 0,.ref 260,.none,.ref 261,.ref 262,.ref 263,.int 2587 0,.int 134 0,.str (ofString "/claim/cut.py") 2588]) #[]) ::
  (nat_lit 265, .mk (.type "function") none (.func (by (refine' (_ : RwWay (rwM 9 22 rfl rfl fun n a b c => .mk n (ofString "CellId.from_face_ij_same") a b c 3 [] .none .none .none (.str (ofString "s2sphere.sphere") 194) (some 268) (.ref 264) .none 0)) _ _; exact fun x _ => x; rotate_left; conv => (rhs; whnf)))) #[]) ::
  (nat_lit 266, .mk (.type "dict") none (.dict #[.mk (PyData.keyHash P (ofString "__module__")) (.str (ofString "__module__") 2590) (.str (ofString "s2sphere.sphere") 194),.mk (PyData.keyHash P (ofString "__name__")) (.str (ofString "__name__") 2593) (.str (ofString "from_face_ij_same") 2592),.mk (PyData.keyHash P (ofString "__qualname__")) (.str (ofString "__qualname__") 2596) (.str (ofString "CellId.from_face_ij_same") 2595),.mk (PyData.keyHash P (ofString "__doc__")) (.str (ofString "__doc__") 2598) .none,.mk (PyData.keyHash P (ofString "__annotations__")) (.str (ofString "__annotations__") 2600) (.ref 268)] 5) #[]) ::
  (nat_lit 267, .mk (.type "classmethod") (some 266) (.fields #[.ref 265,.bool false]) #[]) ::
  (nat_lit 268, .mk (.type "dict") none (.dict #[]) #[]) ::
  (nat_lit 269, .mk (.type "tuple") none (.seq #[]) #[]) ::
  (nat_lit 271, .mk (.type "tuple") none (.seq #[.str (ofString "cls") 2605,.str (ofString "s") 2606]) #[]) ::
  (nat_lit 272, .mk (.type "tuple") none (.seq #[]) #[]) ::
  (nat_lit 274, .mk (.type "code") none (.fields #[.str (ofString "st_to_ij") 2602,.str (ofString "CellId.st_to_ij") 2603,.str (ofString "/claim/cut.py") 2604,.int 141 0,.int 2 0,.int 0 0,.int 0 0,.int 3 0,.ref 269,.bool true,.int 181 0,.ref 270,.none,.ref 271,.ref 272,.ref 273,.int 2607 0,.int 141 0,.str (ofString "/claim/cut.py") 2608]) #[]) ::
  (nat_lit 275, .mk (.type "function") none (.func (by (refine' (_ : RwWay (rwM 9 23 rfl rfl fun n a b c => .mk n (ofString "CellId.st_to_ij") a b c 3 [] .none .none .none (.str (ofString "s2sphere.sphere") 194) (some 278) (.ref 274) .none 0)) _ _; exact fun x _ => x; rotate_left; conv => (rhs; whnf)))) #[]) ::
  (nat_lit 276, .mk (.type "dict") none (.dict #[.mk (PyData.keyHash P (ofString "__module__")) (.str (ofString "__module__") 2610) (.str (ofString "s2sphere.sphere") 194),.mk (PyData.keyHash P (ofString "__name__")) (.str (ofString "__name__") 2613) (.str (ofString "st_to_ij") 2612),.mk (PyData.keyHash P (ofString "__qualname__")) (.str (ofString "__qualname__") 2616) (.str (ofString "CellId.st_to_ij") 2615),.mk (PyData.keyHash P (ofString "__doc__")) (.str (ofString "__doc__") 2618) .none,.mk (PyData.keyHash P (ofString "__annotations__")) (.str (ofString "__annotations__") 2620) (.ref 278)] 5) #[]) ::
  (nat_lit 277, .mk (.type "classmethod") (some 276) (.fields #[.ref 275,.bool false]) #[]) ::
  (nat_lit 278, .mk (.type "dict") none (.dict #[]) #[]) ::
  (nat_lit 279, .mk (.type "tuple") none (.seq #[]) #[]) ::
  (nat_lit 281, .mk (.type "tuple") none (.seq #[.str (ofString "cls") 2625,.str (ofString "level") 2626]) #[]) ::
  (nat_lit 282, .mk (.type "tuple") none (.seq #[]) #[]) ::
  (nat_lit 284, .mk (.type "code") none (.fields #[.str (ofString "lsb_for_level") 2622,.str (ofString "CellId.lsb_for_level") 2623,.str (ofString "/claim/cut.py") 2624,.int 145 0,.int 2 0,.int 0 0,.int 0 0,.int 3 0,.ref 279,.bool true,.int 181 0,.ref 280,.none,.ref 281,.ref 282,.ref 283,.int 2627 0,.int 145 0,.str (ofString "/claim/cut.py") 2628]) #[]) ::
  (nat_lit 285, .mk (.type "function") none (.func (by (refine' (_ : RwWay (rwM 9 24 rfl rfl fun n a b c => .mk n (ofString "CellId.lsb_for_level") a b c 3 [] .none .none .none (.str (ofString "s2sphere.sphere") 194) (some 288) (.ref 284) .none 0)) _ _; exact fun x _ => x; rotate_left; conv => (rhs; whnf)))) #[]) ::
  (nat_lit 286, .mk (.type "dict") none (.dict #[.mk (PyData.keyHash P (ofString "__module__")) (.str (ofString "__module__") 2630) (.str (ofString "s2sphere.sphere") 194),.mk (PyData.keyHash P (ofString "__name__")) (.str (ofString "__name__") 2633) (.str (ofString "lsb_for_level") 2632),.mk (PyData.keyHash P (ofString "__qualname__")) (.str (ofString "__qualname__") 2636) (.str (ofString "CellId.lsb_for_level") 2635),.mk (PyData.keyHash P (ofString "__doc__")) (.str (ofString "__doc__") 2638) .none,.mk (PyData.keyHash P (ofString "__annotations__")) (.str (ofString "__annotations__") 2640) (.ref 288)] 5) #[]) ::
  (nat_lit 287, .mk (.type "classmethod") (some 286) (.fields #[.ref 285,.bool false]) #[]) ::
  (nat_lit 288, .mk (.type "dict") none (.dict #[]) #[]) ::
  (nat_lit 289, .mk (.type "tuple") none (.seq #[]) #[]) ::
  (nat_lit 291, .mk (.type "tuple") none (.seq #[.str (ofString "self") 2645,.str (ofString "args") 2646,.str (ofString "new_lsb") 2647,.str (ofString "level") 2648]) #[]) ::
  (nat_lit 292, .mk (.type "tuple") none (.seq #[]) #[]) ::
  (nat_lit 294, .mk (.type "code") none (.fields #[.str (ofString "parent") 2642,.str (ofString "CellId.parent") 2643,.str (ofString "/claim/cut.py") 2644,.int 149 0,.int 1 0,.int 0 0,.int 0 0,.int 7 0,.ref 289,.bool true,.int 181 0,.ref 290,.none,.ref 291,.ref 292,.ref 293,.int 2649 0,.int 149 0,.str (ofString "/claim/cut.py") 2650]) #[]) ::
  (nat_lit 295, .mk (.type "function") none (.func (by (refine' (_ : RwWay (rwM 9 25 rfl rfl fun n a b c => .mk n (ofString "CellId.parent") a b c 3 [] .none .none .none (.str (ofString "s2sphere.sphere") 194) none (.ref 294) .none 0)) _ _; exact fun x _ => x; rotate_left; conv => (rhs; whnf)))) #[]) ::
  (nat_lit 296, .mk (.type "tuple") none (.seq #[]) #[]) ::
  (nat_lit 298, .mk (.type "tuple") none (.seq #[.str (ofString "self") 2655,.str (ofString "pos") 2656]) #[]) ::
  (nat_lit 299, .mk (.type "tuple") none (.seq #[]) #[]) ::
  (nat_lit 301, .mk (.type "code") none (.fields #[.str (ofString "child") 2652,.str (ofString "CellId.child") 2653,.str (ofString "/claim/cut.py") 2654,.int 162 0,.int 2 0,.int 0 0,.int 0 0,.int 3 0,.ref 296,.bool true,.int 181 0,.ref 297,.none,.ref 298,.ref 299,.ref 300,.int 2657 0,.int 162 0,.str (ofString "/claim/cut.py") 2658]) #[]) ::
  (nat_lit 302, .mk (.type "function") none (.func (by (refine' (_ : RwWay (rwM 9 26 rfl rfl fun n a b c => .mk n (ofString "CellId.child") a b c 3 [] .none .none .none (.str (ofString "s2sphere.sphere") 194) none (.ref 301) .none 0)) _ _; exact fun x _ => x; rotate_left; conv => (rhs; whnf)))) #[]) ::
  (nat_lit 303, .mk (.type "tuple") none (.seq #[]) #[]) ::
  (nat_lit 305, .mk (.type "tuple") none (.seq #[.str (ofString "self") 2663,.str (ofString "other") 2664]) #[]) ::
  (nat_lit 306, .mk (.type "tuple") none (.seq #[]) #[]) ::
  (nat_lit 308, .mk (.type "code") none (.fields #[.str (ofString "contains") 2660,.str (ofString "CellId.contains") 2661,.str (ofString "/claim/cut.py") 2662,.int 165 0,.int 2 0,.int 0 0,.int 0 0,.int 3 0,.ref 303,.bool true,.int 181 0,.ref 304,.none,.ref 305,.ref 306,.ref 307,.int 2665 0,.int 165 0,.str (ofString "/claim/cut.py") 2666]) #[]) ::
  (nat_lit 309, .mk (.type "function") none (.func (by (refine' (_ : RwWay (rwM 9 27 rfl rfl fun n a b c => .mk n (ofString "CellId.contains") a b c 3 [] .none .none .none (.str (ofString "s2sphere.sphere") 194) none (.ref 308) .none 0)) _ _; exact fun x _ => x; rotate_left; conv => (rhs; whnf)))) #[]) ::
  (nat_lit 310, .mk (.type "tuple") none (.seq #[]) #[]) ::
  (nat_lit 312, .mk (.type "tuple") none (.seq #[.str (ofString "self") 2671,.str (ofString "other") 2672]) #[]) ::
  (nat_lit 313, .mk (.type "tuple") none (.seq #[]) #[]) ::
  (nat_lit 315, .mk (.type "code") none (.fields #[.str (ofString "intersects") 2668,.str (ofString "CellId.intersects") 2669,.str (ofString "/claim/cut.py") 2670,.int 168 0,.int 2 0,.int 0 0,.int 0 0,.int 3 0,.ref 310,.bool true,.int 181 0,.ref 311,.none,.ref 312,.ref 313,.ref 314,.int 2673 0,.int 168 0,.str (ofString "/claim/cut.py") 2674]) #[]) ::
  (nat_lit 316, .mk (.type "function") none (.func (by (refine' (_ : RwWay (rwM 9 28 rfl rfl fun n a b c => .mk n (ofString "CellId.intersects") a b c 3 [] .none .none .none (.str (ofString "s2sphere.sphere") 194) none (.ref 315) .none 0)) _ _; exact fun x _ => x; rotate_left; conv => (rhs; whnf)))) #[]) ::
  (nat_lit 317, .mk (.type "tuple") none (.seq #[]) #[]) ::
  (nat_lit 319, .mk (.type "tuple") none (.seq #[.str (ofString "self") 2679]) #[]) ::
  (nat_lit 320, .mk (.type "tuple") none (.seq #[]) #[]) ::
  (nat_lit 322, .mk (.type "code") none (.fields #[.str (ofString "is_face") 2676,.str (ofString "CellId.is_face") 2677,.str (ofString "/claim/cut.py") 2678,.int 171 0,.int 1 0,.int 0 0,.int 0 0,.int 3 0,.ref 317,.bool true,.int 181 0,.ref 318,.none,.ref 319,.ref 320,.ref 321,.int 2680 0,.int 171 0,.str (ofString "/claim/cut.py") 2681]) #[]) ::
  (nat_lit 323, .mk (.type "function") none (.func (by (refine' (_ : RwWay (rwM 9 29 rfl rfl fun n a b c => .mk n (ofString "CellId.is_face") a b c 3 [] .none .none .none (.str (ofString "s2sphere.sphere") 194) none (.ref 322) .none 0)) _ _; exact fun x _ => x; rotate_left; conv => (rhs; whnf)))) #[]) ::
  (nat_lit 324, .mk (.type "tuple") none (.seq #[]) #[]) ::
  (nat_lit 326, .mk (.type "tuple") none (.seq #[.str (ofString "self") 2686]) #[]) ::
  (nat_lit 327, .mk (.type "tuple") none (.seq #[]) #[]) ::
  (nat_lit 329, .mk (.type "code") none (.fields #[.str (ofString "id") 2683,.str (ofString "CellId.id") 2684,.str (ofString "/claim/cut.py") 2685,.int 174 0,.int 1 0,.int 0 0,.int 0 0,.int 3 0,.ref 324,.bool true,.int 181 0,.ref 325,.none,.ref 326,.ref 327,.ref 328,.int 2687 0,.int 174 0,.str (ofString "/claim/cut.py") 2688]) #[]) ::
  (nat_lit 330, .mk (.type "function") none (.func (by (refine' (_ : RwWay (rwM 9 30 rfl rfl fun n a b c => .mk n (ofString "CellId.id") a b c 3 [] .none .none .none (.str (ofString "s2sphere.sphere") 194) none (.ref 329) .none 0)) _ _; exact fun x _ => x; rotate_left; conv => (rhs; whnf)))) #[]) ::
  (nat_lit 331, .mk (.type "tuple") none (.seq #[]) #[]) ::
  (nat_lit 333, .mk (.type "tuple") none (.seq #[.str (ofString "self") 2693]) #[]) ::
  (nat_lit 334, .mk (.type "tuple") none (.seq #[]) #[]) ::
  (nat_lit 336, .mk (.type "code") none (.fields #[.str (ofString "is_valid") 2690,.str (ofString "CellId.is_valid") 2691,.str (ofString "/claim/cut.py") 2692,.int 177 0,.int 1 0,.int 0 0,.int 0 0,.int 3 0,.ref 331,.bool true,.int 181 0,.ref 332,.none,.ref 333,.ref 334,.ref 335,.int 2694 0,.int 177 0,.str (ofString "/claim/cut.py") 2695]) #[]) ::
  (nat_lit 337, .mk (.type "function") none (.func (by (refine' (_ : RwWay (rwM 9 31 rfl rfl fun n a b c => .mk n (ofString "CellId.is_valid") a b c 3 [] .none .none .none (.str (ofString "s2sphere.sphere") 194) none (.ref 336) .none 0)) _ _; exact fun x _ => x; rotate_left; conv => (rhs; whnf)))) #[]) ::
  (nat_lit 338, .mk (.type "tuple") none (.seq #[]) #[]) ::
  (nat_lit 340, .mk (.type "tuple") none (.seq #[.str (ofString "self") 2700]) #[]) ::
  (nat_lit 341, .mk (.type "tuple") none (.seq #[]) #[]) ::
  (nat_lit 343, .mk (.type "code") none (.fields #[.str (ofString "lsb") 2697,.str (ofString "CellId.lsb") 2698,.str (ofString "/claim/cut.py") 2699,.int 180 0,.int 1 0,.int 0 0,.int 0 0,.int 3 0,.ref 338,.bool true,.int 181 0,.ref 339,.none,.ref 340,.ref 341,.ref 342,.int 2701 0,.int 180 0,.str (ofString "/claim/cut.py") 2702]) #[]) ::
  (nat_lit 344, .mk (.type "function") none (.func (by (refine' (_ : RwWay (rwM 9 32 rfl rfl fun n a b c => .mk n (ofString "CellId.lsb") a b c 3 [] .none .none .none (.str (ofString "s2sphere.sphere") 194) none (.ref 343) .none 0)) _ _; exact fun x _ => x; rotate_left; conv => (rhs; whnf)))) #[]) ::
  (nat_lit 345, .mk (.type "tuple") none (.seq #[]) #[]) ::
  (nat_lit 347, .mk (.type "tuple") none (.seq #[.str (ofString "self") 2707]) #[]) ::
  (nat_lit 348, .mk (.type "tuple") none (.seq #[]) #[]) ::
  (nat_lit 350, .mk (.type "code") none (.fields #[.str (ofString "face") 2704,.str (ofString "CellId.face") 2705,.str (ofString "/claim/cut.py") 2706,.int 183 0,.int 1 0,.int 0 0,.int 0 0,.int 3 0,.ref 345,.bool true,.int 181 0,.ref 346,.none,.ref 347,.ref 348,.ref 349,.int 2708 0,.int 183 0,.str (ofString "/claim/cut.py") 2709]) #[]) ::
  (nat_lit 351, .mk (.type "function") none (.func (by (refine' (_ : RwWay (rwM 9 33 rfl rfl fun n a b c => .mk n (ofString "CellId.face") a b c 3 [] .none .none .none (.str (ofString "s2sphere.sphere") 194) none (.ref 350) .none 0)) _ _; exact fun x _ => x; rotate_left; conv => (rhs; whnf)))) #[]) ::
  (nat_lit 352, .mk (.type "tuple") none (.seq #[]) #[]) ::
  (nat_lit 354, .mk (.type "tuple") none (.seq #[.str (ofString "self") 2714]) #[]) ::
  (nat_lit 355, .mk (.type "tuple") none (.seq #[]) #[]) ::
  (nat_lit 357, .mk (.type "code") none (.fields #[.str (ofString "pos") 2711,.str (ofString "CellId.pos") 2712,.str (ofString "/claim/cut.py") 2713,.int 186 0,.int 1 0,.int 0 0,.int 0 0,.int 3 0,.ref 352,.bool true,.int 181 0,.ref 353,.none,.ref 354,.ref 355,.ref 356,.int 2715 0,.int 186 0,.str (ofString "/claim/cut.py") 2716]) #[]) ::
  (nat_lit 358, .mk (.type "function") none (.func (by (refine' (_ : RwWay (rwM 9 34 rfl rfl fun n a b c => .mk n (ofString "CellId.pos") a b c 3 [] .none .none .none (.str (ofString "s2sphere.sphere") 194) none (.ref 357) .none 0)) _ _; exact fun x _ => x; rotate_left; conv => (rhs; whnf)))) #[]) ::
  (nat_lit 359, .mk (.type "tuple") none (.seq #[]) #[]) ::
  (nat_lit 361, .mk (.type "tuple") none (.seq #[.str (ofString "self") 2721]) #[]) ::
  (nat_lit 362, .mk (.type "tuple") none (.seq #[]) #[]) ::
  (nat_lit 364, .mk (.type "code") none (.fields #[.str (ofString "is_leaf") 2718,.str (ofString "CellId.is_leaf") 2719,.str (ofString "/claim/cut.py") 2720,.int 189 0,.int 1 0,.int 0 0,.int 0 0,.int 3 0,.ref 359,.bool true,.int 181 0,.ref 360,.none,.ref 361,.ref 362,.ref 363,.int 2722 0,.int 189 0,.str (ofString "/claim/cut.py") 2723]) #[]) ::
  (nat_lit 365, .mk (.type "function") none (.func (by (refine' (_ : RwWay (rwM 9 35 rfl rfl fun n a b c => .mk n (ofString "CellId.is_leaf") a b c 3 [] .none .none .none (.str (ofString "s2sphere.sphere") 194) none (.ref 364) .none 0)) _ _; exact fun x _ => x; rotate_left; conv => (rhs; whnf)))) #[]) ::
  (nat_lit 366, .mk (.type "tuple") none (.seq #[]) #[]) ::
  (nat_lit 368, .mk (.type "tuple") none (.seq #[.str (ofString "self") 2728,.str (ofString "x") 2729,.str (ofString "level") 2730]) #[]) ::
  (nat_lit 369, .mk (.type "tuple") none (.seq #[]) #[]) ::
  (nat_lit 371, .mk (.type "code") none (.fields #[.str (ofString "level") 2725,.str (ofString "CellId.level") 2726,.str (ofString "/claim/cut.py") 2727,.int 192 0,.int 1 0,.int 0 0,.int 0 0,.int 3 0,.ref 366,.bool true,.int 181 0,.ref 367,.none,.ref 368,.ref 369,.ref 370,.int 2731 0,.int 192 0,.str (ofString "/claim/cut.py") 2732]) #[]) ::
  (nat_lit 372, .mk (.type "function") none (.func (by (refine' (_ : RwWay (rwM 9 36 rfl rfl fun n a b c => .mk n (ofString "CellId.level") a b c 3 [] .none .none .none (.str (ofString "s2sphere.sphere") 194) none (.ref 371) .none 0)) _ _; exact fun x _ => x; rotate_left; conv => (rhs; whnf)))) #[]) ::
  (nat_lit 373, .mk (.type "tuple") none (.seq #[]) #[]) ::
  (nat_lit 375, .mk (.type "tuple") none (.seq #[.str (ofString "self") 2737,.str (ofString "args") 2738]) #[]) ::
  (nat_lit 376, .mk (.type "tuple") none (.seq #[]) #[]) ::
  (nat_lit 378, .mk (.type "code") none (.fields #[.str (ofString "child_begin") 2734,.str (ofString "CellId.child_begin") 2735,.str (ofString "/claim/cut.py") 2736,.int 214 0,.int 1 0,.int 0 0,.int 0 0,.int 7 0,.ref 373,.bool true,.int 181 0,.ref 374,.none,.ref 375,.ref 376,.ref 377,.int 2739 0,.int 214 0,.str (ofString "/claim/cut.py") 2740]) #[]) ::
  (nat_lit 379, .mk (.type "function") none (.func (by (refine' (_ : RwWay (rwM 9 37 rfl rfl fun n a b c => .mk n (ofString "CellId.child_begin") a b c 3 [] .none .none .none (.str (ofString "s2sphere.sphere") 194) none (.ref 378) .none 0)) _ _; exact fun x _ => x; rotate_left; conv => (rhs; whnf)))) #[]) ::
  (nat_lit 380, .mk (.type "tuple") none (.seq #[]) #[]) ::
  (nat_lit 382, .mk (.type "tuple") none (.seq #[.str (ofString "self") 2745,.str (ofString "args") 2746]) #[]) ::
  (nat_lit 383, .mk (.type "tuple") none (.seq #[]) #[]) ::
  (nat_lit 385, .mk (.type "code") none (.fields #[.str (ofString "child_end") 2742,.str (ofString "CellId.child_end") 2743,.str (ofString "/claim/cut.py") 2744,.int 217 0,.int 1 0,.int 0 0,.int 0 0,.int 7 0,.ref 380,.bool true,.int 181 0,.ref 381,.none,.ref 382,.ref 383,.ref 384,.int 2747 0,.int 217 0,.str (ofString "/claim/cut.py") 2748]) #[]) ::
  (nat_lit 386, .mk (.type "function") none (.func (by (refine' (_ : RwWay (rwM 9 38 rfl rfl fun n a b c => .mk n (ofString "CellId.child_end") a b c 3 [] .none .none .none (.str (ofString "s2sphere.sphere") 194) none (.ref 385) .none 0)) _ _; exact fun x _ => x; rotate_left; conv => (rhs; whnf)))) #[]) ::
  (nat_lit 387, .mk (.type "tuple") none (.seq #[]) #[]) ::
  (nat_lit 389, .mk (.type "tuple") none (.seq #[.str (ofString "self") 2753]) #[]) ::
  (nat_lit 390, .mk (.type "tuple") none (.seq #[]) #[]) ::
  (nat_lit 392, .mk (.type "code") none (.fields #[.str (ofString "prev") 2750,.str (ofString "CellId.prev") 2751,.str (ofString "/claim/cut.py") 2752,.int 220 0,.int 1 0,.int 0 0,.int 0 0,.int 3 0,.ref 387,.bool true,.int 181 0,.ref 388,.none,.ref 389,.ref 390,.ref 391,.int 2754 0,.int 220 0,.str (ofString "/claim/cut.py") 2755]) #[]) ::
  (nat_lit 393, .mk (.type "function") none (.func (by (refine' (_ : RwWay (rwM 9 39 rfl rfl fun n a b c => .mk n (ofString "CellId.prev") a b c 3 [] .none .none .none (.str (ofString "s2sphere.sphere") 194) none (.ref 392) .none 0)) _ _; exact fun x _ => x; rotate_left; conv => (rhs; whnf)))) #[]) ::
  (nat_lit 394, .mk (.type "tuple") none (.seq #[]) #[]) ::
  (nat_lit 396, .mk (.type "tuple") none (.seq #[.str (ofString "self") 2760]) #[]) ::
  (nat_lit 397, .mk (.type "tuple") none (.seq #[]) #[]) ::
  (nat_lit 399, .mk (.type "code") none (.fields #[.str (ofString "next") 2757,.str (ofString "CellId.next") 2758,.str (ofString "/claim/cut.py") 2759,.int 223 0,.int 1 0,.int 0 0,.int 0 0,.int 3 0,.ref 394,.bool true,.int 181 0,.ref 395,.none,.ref 396,.ref 397,.ref 398,.int 2761 0,.int 223 0,.str (ofString "/claim/cut.py") 2762]) #[]) ::
  (nat_lit 400, .mk (.type "function") none (.func (by (refine' (_ : RwWay (rwM 9 40 rfl rfl fun n a b c => .mk n (ofString "CellId.next") a b c 3 [] .none .none .none (.str (ofString "s2sphere.sphere") 194) none (.ref 399) .none 0)) _ _; exact fun x _ => x; rotate_left; conv => (rhs; whnf)))) #[]) ::
  (nat_lit 401, .mk (.type "tuple") none (.seq #[]) #[]) ::
  (nat_lit 403, .mk (.type "tuple") none (.seq #[.str (ofString "self") 2767,.str (ofString "args") 2768]) #[]) ::
  (nat_lit 404, .mk (.type "tuple") none (.seq #[]) #[]) ::
  (nat_lit 406, .mk (.type "code") none (.fields #[.str (ofString "children") 2764,.str (ofString "CellId.children") 2765,.str (ofString "/claim/cut.py") 2766,.int 226 0,.int 1 0,.int 0 0,.int 0 0,.int 7 0,.ref 401,.bool true,.int 181 0,.ref 402,.none,.ref 403,.ref 404,.ref 405,.int 2769 0,.int 226 0,.str (ofString "/claim/cut.py") 2770]) #[]) ::
  (nat_lit 407, .mk (.type "function") none (.func (by (refine' (_ : RwWay (rwM 9 41 rfl rfl fun n a b c => .mk n (ofString "CellId.children") a b c 3 [] .none .none .none (.str (ofString "s2sphere.sphere") 194) none (.ref 406) .none 0)) _ _; exact fun x _ => x; rotate_left; conv => (rhs; whnf)))) #[]) ::
  (nat_lit 408, .mk (.type "tuple") none (.seq #[]) #[]) ::
  (nat_lit 410, .mk (.type "tuple") none (.seq #[.str (ofString "self") 2775]) #[]) ::
  (nat_lit 411, .mk (.type "tuple") none (.seq #[]) #[]) ::
  (nat_lit 413, .mk (.type "code") none (.fields #[.str (ofString "range_min") 2772,.str (ofString "CellId.range_min") 2773,.str (ofString "/claim/cut.py") 2774,.int 229 0,.int 1 0,.int 0 0,.int 0 0,.int 3 0,.ref 408,.bool true,.int 181 0,.ref 409,.none,.ref 410,.ref 411,.ref 412,.int 2776 0,.int 229 0,.str (ofString "/claim/cut.py") 2777]) #[]) ::
  (nat_lit 414, .mk (.type "function") none (.func (by (refine' (_ : RwWay (rwM 9 42 rfl rfl fun n a b c => .mk n (ofString "CellId.range_min") a b c 3 [] .none .none .none (.str (ofString "s2sphere.sphere") 194) none (.ref 413) .none 0)) _ _; exact fun x _ => x; rotate_left; conv => (rhs; whnf)))) #[]) ::
  (nat_lit 415, .mk (.type "tuple") none (.seq #[]) #[]) ::
  (nat_lit 417, .mk (.type "tuple") none (.seq #[.str (ofString "self") 2782]) #[]) ::
  (nat_lit 418, .mk (.type "tuple") none (.seq #[]) #[]) ::
  (nat_lit 420, .mk (.type "code") none (.fields #[.str (ofString "range_max") 2779,.str (ofString "CellId.range_max") 2780,.str (ofString "/claim/cut.py") 2781,.int 232 0,.int 1 0,.int 0 0,.int 0 0,.int 3 0,.ref 415,.bool true,.int 181 0,.ref 416,.none,.ref 417,.ref 418,.ref 419,.int 2783 0,.int 232 0,.str (ofString "/claim/cut.py") 2784]) #[]) ::
  (nat_lit 421, .mk (.type "function") none (.func (by (refine' (_ : RwWay (rwM 9 43 rfl rfl fun n a b c => .mk n (ofString "CellId.range_max") a b c 3 [] .none .none .none (.str (ofString "s2sphere.sphere") 194) none (.ref 420) .none 0)) _ _; exact fun x _ => x; rotate_left; conv => (rhs; whnf)))) #[]) ::
  (nat_lit 422, .mk (.type "tuple") none (.seq #[]) #[]) ::
  (nat_lit 424, .mk (.type "tuple") none (.seq #[.str (ofString "cls") 2789,.str (ofString "level") 2790]) #[]) ::
  (nat_lit 425, .mk (.type "tuple") none (.seq #[]) #[]) ::
  (nat_lit 427, .mk (.type "code") none (.fields #[.str (ofString "begin") 2786,.str (ofString "CellId.begin") 2787,.str (ofString "/claim/cut.py") 2788,.int 235 0,.int 2 0,.int 0 0,.int 0 0,.int 3 0,.ref 422,.bool true,.int 181 0,.ref 423,.none,.ref 424,.ref 425,.ref 426,.int 2791 0,.int 235 0,.str (ofString "/claim/cut.py") 2792]) #[]) ::
  (nat_lit 428, .mk (.type "function") none (.func (by (refine' (_ : RwWay (rwM 9 44 rfl rfl fun n a b c => .mk n (ofString "CellId.begin") a b c 3 [] .none .none .none (.str (ofString "s2sphere.sphere") 194) (some 431) (.ref 427) .none 0)) _ _; exact fun x _ => x; rotate_left; conv => (rhs; whnf)))) #[]) ::
  (nat_lit 429, .mk (.type "dict") none (.dict #[.mk (PyData.keyHash P (ofString "__module__")) (.str (ofString "__module__") 2794) (.str (ofString "s2sphere.sphere") 194),.mk (PyData.keyHash P (ofString "__name__")) (.str (ofString "__name__") 2797) (.str (ofString "begin") 2796),.mk (PyData.keyHash P (ofString "__qualname__")) (.str (ofString "__qualname__") 2800) (.str (ofString "CellId.begin") 2799),.mk (PyData.keyHash P (ofString "__doc__")) (.str (ofString "__doc__") 2802) .none,.mk (PyData.keyHash P (ofString "__annotations__")) (.str (ofString "__annotations__") 2804) (.ref 431)] 5) #[]) ::
  (nat_lit 430, .mk (.type "classmethod") (some 429) (.fields #[.ref 428,.bool false]) #[]) ::
  (nat_lit 431, .mk (.type "dict") none (.dict #[]) #[]) ::
  (nat_lit 432, .mk (.type "tuple") none (.seq #[]) #[]) ::
  (nat_lit 434, .mk (.type "tuple") none (.seq #[.str (ofString "cls") 2809,.str (ofString "level") 2810]) #[]) ::
  (nat_lit 435, .mk (.type "tuple") none (.seq #[]) #[]) ::
  (nat_lit 437, .mk (.type "code") none (.fields #[.str (ofString "end") 2806,.str (ofString "CellId.end") 2807,.str (ofString "/claim/cut.py") 2808,.int 239 0,.int 2 0,.int 0 0,.int 0 0,.int 3 0,.ref 432,.bool true,.int 181 0,.ref 433,.none,.ref 434,.ref 435,.ref 436,.int 2811 0,.int 239 0,.str (ofString "/claim/cut.py") 2812]) #[]) ::
  (nat_lit 438, .mk (.type "function") none (.func (by (refine' (_ : RwWay (rwM 9 45 rfl rfl fun n a b c => .mk n (ofString "CellId.end") a b c 3 [] .none .none .none (.str (ofString "s2sphere.sphere") 194) (some 441) (.ref 437) .none 0)) _ _; exact fun x _ => x; rotate_left; conv => (rhs; whnf)))) #[]) ::
  (nat_lit 439, .mk (.type "dict") none (.dict #[.mk (PyData.keyHash P (ofString "__module__")) (.str (ofString "__module__") 2814) (.str (ofString "s2sphere.sphere") 194),.mk (PyData.keyHash P (ofString "__name__")) (.str (ofString "__name__") 2817) (.str (ofString "end") 2816),.mk (PyData.keyHash P (ofString "__qualname__")) (.str (ofString "__qualname__") 2820) (.str (ofString "CellId.end") 2819),.mk (PyData.keyHash P (ofString "__doc__")) (.str (ofString "__doc__") 2822) .none,.mk (PyData.keyHash P (ofString "__annotations__")) (.str (ofString "__annotations__") 2824) (.ref 441)] 5) #[]) ::
  (nat_lit 440, .mk (.type "classmethod") (some 439) (.fields #[.ref 438,.bool false]) #[]) ::
  (nat_lit 441, .mk (.type "dict") none (.dict #[]) #[]) ::
  (nat_lit 442, .mk (.type "tuple") none (.seq #[]) #[]) ::
  (nat_lit 444, .mk (.type "tuple") none (.seq #[.str (ofString "cls") 2829,.str (ofString "level") 2830]) #[]) ::
  (nat_lit 445, .mk (.type "tuple") none (.seq #[]) #[]) ::
  (nat_lit 447, .mk (.type "code") none (.fields #[.str (ofString "walk") 2826,.str (ofString "CellId.walk") 2827,.str (ofString "/claim/cut.py") 2828,.int 243 0,.int 2 0,.int 0 0,.int 0 0,.int 3 0,.ref 442,.bool true,.int 181 0,.ref 443,.none,.ref 444,.ref 445,.ref 446,.int 2831 0,.int 243 0,.str (ofString "/claim/cut.py") 2832]) #[]) ::
  (nat_lit 448, .mk (.type "function") none (.func (by (refine' (_ : RwWay (rwM 9 46 rfl rfl fun n a b c => .mk n (ofString "CellId.walk") a b c 3 [] .none .none .none (.str (ofString "s2sphere.sphere") 194) (some 451) (.ref 447) .none 0)) _ _; exact fun x _ => x; rotate_left; conv => (rhs; whnf)))) #[]) ::
  (nat_lit 449, .mk (.type "dict") none (.dict #[.mk (PyData.keyHash P (ofString "__module__")) (.str (ofString "__module__") 2834) (.str (ofString "s2sphere.sphere") 194),.mk (PyData.keyHash P (ofString "__name__")) (.str (ofString "__name__") 2837) (.str (ofString "walk") 2836),.mk (PyData.keyHash P (ofString "__qualname__")) (.str (ofString "__qualname__") 2840) (.str (ofString "CellId.walk") 2839),.mk (PyData.keyHash P (ofString "__doc__")) (.str (ofString "__doc__") 2842) .none,.mk (PyData.keyHash P (ofString "__annotations__")) (.str (ofString "__annotations__") 2844) (.ref 451)] 5) #[]) ::
  (nat_lit 450, .mk (.type "classmethod") (some 449) (.fields #[.ref 448,.bool false]) #[]) ::
  (nat_lit 451, .mk (.type "dict") none (.dict #[]) #[]) ::
  (nat_lit 452, .mk (.type "tuple") none (.seq #[]) #[]) ::
  (nat_lit 454, .mk (.type "tuple") none (.seq #[.str (ofString "cls") 2849,.str (ofString "level") 2850]) #[]) ::
  (nat_lit 455, .mk (.type "tuple") none (.seq #[]) #[]) ::
  (nat_lit 457, .mk (.type "code") none (.fields #[.str (ofString "walk_fast") 2846,.str (ofString "CellId.walk_fast") 2847,.str (ofString "/claim/cut.py") 2848,.int 247 0,.int 2 0,.int 0 0,.int 0 0,.int 3 0,.ref 452,.bool true,.int 181 0,.ref 453,.none,.ref 454,.ref 455,.ref 456,.int 2851 0,.int 247 0,.str (ofString "/claim/cut.py") 2852]) #[]) ::
  (nat_lit 458, .mk (.type "function") none (.func (by (refine' (_ : RwWay (rwM 9 47 rfl rfl fun n a b c => .mk n (ofString "CellId.walk_fast") a b c 3 [] .none .none .none (.str (ofString "s2sphere.sphere") 194) (some 461) (.ref 457) .none 0)) _ _; exact fun x _ => x; rotate_left; conv => (rhs; whnf)))) #[]) ::
  (nat_lit 459, .mk (.type "dict") none (.dict #[.mk (PyData.keyHash P (ofString "__module__")) (.str (ofString "__module__") 2854) (.str (ofString "s2sphere.sphere") 194),.mk (PyData.keyHash P (ofString "__name__")) (.str (ofString "__name__") 2857) (.str (ofString "walk_fast") 2856),.mk (PyData.keyHash P (ofString "__qualname__")) (.str (ofString "__qualname__") 2860) (.str (ofString "CellId.walk_fast") 2859),.mk (PyData.keyHash P (ofString "__doc__")) (.str (ofString "__doc__") 2862) .none,.mk (PyData.keyHash P (ofString "__annotations__")) (.str (ofString "__annotations__") 2864) (.ref 461)] 5) #[]) ::
  (nat_lit 460, .mk (.type "classmethod") (some 459) (.fields #[.ref 458,.bool false]) #[]) ::
  (nat_lit 461, .mk (.type "dict") none (.dict #[]) #[]) ::
  (nat_lit 462, .mk (.type "tuple") none (.seq #[]) #[]) ::
  (nat_lit 464, .mk (.type "tuple") none (.seq #[.str (ofString "cls") 2869]) #[]) ::
  (nat_lit 465, .mk (.type "tuple") none (.seq #[]) #[]) ::
  (nat_lit 467, .mk (.type "code") none (.fields #[.str (ofString "none") 2866,.str (ofString "CellId.none") 2867,.str (ofString "/claim/cut.py") 2868,.int 251 0,.int 1 0,.int 0 0,.int 0 0,.int 3 0,.ref 462,.bool true,.int 181 0,.ref 463,.none,.ref 464,.ref 465,.ref 466,.int 2870 0,.int 251 0,.str (ofString "/claim/cut.py") 2871]) #[]) ::
  (nat_lit 468, .mk (.type "function") none (.func (by (refine' (_ : RwWay (rwM 9 48 rfl rfl fun n a b c => .mk n (ofString "CellId.none") a b c 3 [] .none .none .none (.str (ofString "s2sphere.sphere") 194) (some 471) (.ref 467) .none 0)) _ _; exact fun x _ => x; rotate_left; conv => (rhs; whnf)))) #[]) ::
  (nat_lit 469, .mk (.type "dict") none (.dict #[.mk (PyData.keyHash P (ofString "__module__")) (.str (ofString "__module__") 2873) (.str (ofString "s2sphere.sphere") 194),.mk (PyData.keyHash P (ofString "__name__")) (.str (ofString "__name__") 2876) (.str (ofString "none") 2875),.mk (PyData.keyHash P (ofString "__qualname__")) (.str (ofString "__qualname__") 2879) (.str (ofString "CellId.none") 2878),.mk (PyData.keyHash P (ofString "__doc__")) (.str (ofString "__doc__") 2881) .none,.mk (PyData.keyHash P (ofString "__annotations__")) (.str (ofString "__annotations__") 2883) (.ref 471)] 5) #[]) ::
  (nat_lit 470, .mk (.type "classmethod") (some 469) (.fields #[.ref 468,.bool false]) #[]) ::
  (nat_lit 471, .mk (.type "dict") none (.dict #[]) #[]) ::
  (nat_lit 472, .mk (.type "tuple") none (.seq #[]) #[]) ::
  (nat_lit 474, .mk (.type "tuple") none (.seq #[.str (ofString "self") 2888]) #[]) ::
  (nat_lit 475, .mk (.type "tuple") none (.seq #[]) #[]) ::
  (nat_lit 477, .mk (.type "code") none (.fields #[.str (ofString "prev_wrap") 2885,.str (ofString "CellId.prev_wrap") 2886,.str (ofString "/claim/cut.py") 2887,.int 255 0,.int 1 0,.int 0 0,.int 0 0,.int 3 0,.ref 472,.bool true,.int 181 0,.ref 473,.none,.ref 474,.ref 475,.ref 476,.int 2889 0,.int 255 0,.str (ofString "/claim/cut.py") 2890]) #[]) ::
  (nat_lit 478, .mk (.type "function") none (.func (by (refine' (_ : RwWay (rwM 9 49 rfl rfl fun n a b c => .mk n (ofString "CellId.prev_wrap") a b c 3 [] .none .none .none (.str (ofString "s2sphere.sphere") 194) none (.ref 477) .none 0)) _ _; exact fun x _ => x; rotate_left; conv => (rhs; whnf)))) #[]) ::
  (nat_lit 479, .mk (.type "tuple") none (.seq #[]) #[]) ::
  (nat_lit 481, .mk (.type "tuple") none (.seq #[.str (ofString "self") 2895]) #[]) ::
  (nat_lit 482, .mk (.type "tuple") none (.seq #[]) #[]) ::
  (nat_lit 484, .mk (.type "code") none (.fields #[.str (ofString "next_wrap") 2892,.str (ofString "CellId.next_wrap") 2893,.str (ofString "/claim/cut.py") 2894,.int 258 0,.int 1 0,.int 0 0,.int 0 0,.int 3 0,.ref 479,.bool true,.int 181 0,.ref 480,.none,.ref 481,.ref 482,.ref 483,.int 2896 0,.int 258 0,.str (ofString "/claim/cut.py") 2897]) #[]) ::
  (nat_lit 485, .mk (.type "function") none (.func (by (refine' (_ : RwWay (rwM 9 50 rfl rfl fun n a b c => .mk n (ofString "CellId.next_wrap") a b c 3 [] .none .none .none (.str (ofString "s2sphere.sphere") 194) none (.ref 484) .none 0)) _ _; exact fun x _ => x; rotate_left; conv => (rhs; whnf)))) #[]) ::
  (nat_lit 486, .mk (.type "tuple") none (.seq #[]) #[]) ::
  (nat_lit 488, .mk (.type "tuple") none (.seq #[.str (ofString "self") 2902,.str (ofString "steps") 2903]) #[]) ::
  (nat_lit 489, .mk (.type "tuple") none (.seq #[]) #[]) ::
  (nat_lit 491, .mk (.type "code") none (.fields #[.str (ofString "advance_wrap") 2899,.str (ofString "CellId.advance_wrap") 2900,.str (ofString "/claim/cut.py") 2901,.int 261 0,.int 2 0,.int 0 0,.int 0 0,.int 3 0,.ref 486,.bool true,.int 181 0,.ref 487,.none,.ref 488,.ref 489,.ref 490,.int 2904 0,.int 261 0,.str (ofString "/claim/cut.py") 2905]) #[]) ::
  (nat_lit 492, .mk (.type "function") none (.func (by (refine' (_ : RwWay (rwM 9 51 rfl rfl fun n a b c => .mk n (ofString "CellId.advance_wrap") a b c 3 [] .none .none .none (.str (ofString "s2sphere.sphere") 194) none (.ref 491) .none 0)) _ _; exact fun x _ => x; rotate_left; conv => (rhs; whnf)))) #[]) ::
  (nat_lit 493, .mk (.type "tuple") none (.seq #[]) #[]) ::
  (nat_lit 495, .mk (.type "tuple") none (.seq #[.str (ofString "self") 2910,.str (ofString "steps") 2911]) #[]) ::
  (nat_lit 496, .mk (.type "tuple") none (.seq #[]) #[]) ::
  (nat_lit 498, .mk (.type "code") none (.fields #[.str (ofString "advance") 2907,.str (ofString "CellId.advance") 2908,.str (ofString "/claim/cut.py") 2909,.int 264 0,.int 2 0,.int 0 0,.int 0 0,.int 3 0,.ref 493,.bool true,.int 181 0,.ref 494,.none,.ref 495,.ref 496,.ref 497,.int 2912 0,.int 264 0,.str (ofString "/claim/cut.py") 2913]) #[]) ::
  (nat_lit 499, .mk (.type "function") none (.func (by (refine' (_ : RwWay (rwM 9 52 rfl rfl fun n a b c => .mk n (ofString "CellId.advance") a b c 3 [] .none .none .none (.str (ofString "s2sphere.sphere") 194) none (.ref 498) .none 0)) _ _; exact fun x _ => x; rotate_left; conv => (rhs; whnf)))) #[]) ::
  (nat_lit 500, .mk (.type "tuple") none (.seq #[]) #[]) ::
  (nat_lit 502, .mk (.type "tuple") none (.seq #[.str (ofString "self") 2918]) #[]) ::
  (nat_lit 503, .mk (.type "tuple") none (.seq #[]) #[]) ::
  (nat_lit 505, .mk (.type "code") none (.fields #[.str (ofString "get_center_si_ti") 2915,.str (ofString "CellId.get_center_si_ti") 2916,.str (ofString "/claim/cut.py") 2917,.int 267 0,.int 1 0,.int 0 0,.int 0 0,.int 3 0,.ref 500,.bool true,.int 181 0,.ref 501,.none,.ref 502,.ref 503,.ref 504,.int 2919 0,.int 267 0,.str (ofString "/claim/cut.py") 2920]) #[]) ::
  (nat_lit 506, .mk (.type "function") none (.func (by (refine' (_ : RwWay (rwM 9 53 rfl rfl fun n a b c => .mk n (ofString "CellId.get_center_si_ti") a b c 3 [] .none .none .none (.str (ofString "s2sphere.sphere") 194) none (.ref 505) .none 0)) _ _; exact fun x _ => x; rotate_left; conv => (rhs; whnf)))) #[]) ::
  (nat_lit 507, .mk (.type "tuple") none (.seq #[]) #[]) ::
  (nat_lit 509, .mk (.type "tuple") none (.seq #[.str (ofString "self") 2925,.str (ofString "i") 2926,.str (ofString "j") 2927,.str (ofString "face") 2928,.str (ofString "bits") 2929,.str (ofString "k") 2930,.str (ofString "nbits") 2931,.str (ofString "orientation") 2932]) #[]) ::
  (nat_lit 510, .mk (.type "tuple") none (.seq #[]) #[]) ::
  (nat_lit 512, .mk (.type "code") none (.fields #[.str (ofString "to_face_ij_orientation") 2922,.str (ofString "CellId.to_face_ij_orientation") 2923,.str (ofString "/claim/cut.py") 2924,.int 270 0,.int 1 0,.int 0 0,.int 0 0,.int 3 0,.ref 507,.bool true,.int 181 0,.ref 508,.none,.ref 509,.ref 510,.ref 511,.int 2933 0,.int 270 0,.str (ofString "/claim/cut.py") 2934]) #[]) ::
  (nat_lit 513, .mk (.type "function") none (.func (by (refine' (_ : RwWay (rwM 9 54 rfl rfl fun n a b c => .mk n (ofString "CellId.to_face_ij_orientation") a b c 3 [] .none .none .none (.str (ofString "s2sphere.sphere") 194) none (.ref 512) .none 0)) _ _; exact fun x _ => x; rotate_left; conv => (rhs; whnf)))) #[]) ::
  (nat_lit 514, .mk (.type "tuple") none (.seq #[]) #[]) ::
  (nat_lit 516, .mk (.type "tuple") none (.seq #[.str (ofString "self") 2939,.str (ofString "level") 2940,.str (ofString "size") 2941,.str (ofString "face") 2942,.str (ofString "i") 2943,.str (ofString "j") 2944,.str (ofString "orientation") 2945]) #[]) ::
  (nat_lit 517, .mk (.type "tuple") none (.seq #[]) #[]) ::
  (nat_lit 519, .mk (.type "code") none (.fields #[.str (ofString "get_edge_neighbors") 2936,.str (ofString "CellId.get_edge_neighbors") 2937,.str (ofString "/claim/cut.py") 2938,.int 291 0,.int 1 0,.int 0 0,.int 0 0,.int 3 0,.ref 514,.bool true,.int 181 0,.ref 515,.none,.ref 516,.ref 517,.ref 518,.int 2946 0,.int 291 0,.str (ofString "/claim/cut.py") 2947]) #[]) ::
  (nat_lit 520, .mk (.type "function") none (.func (by (refine' (_ : RwWay (rwM 9 55 rfl rfl fun n a b c => .mk n (ofString "CellId.get_edge_neighbors") a b c 3 [] .none .none .none (.str (ofString "s2sphere.sphere") 194) none (.ref 519) .none 0)) _ _; exact fun x _ => x; rotate_left; conv => (rhs; whnf)))) #[]) ::
  (nat_lit 521, .mk (.type "tuple") none (.seq #[]) #[]) ::
  (nat_lit 523, .mk (.type "tuple") none (.seq #[.str (ofString "self") 2952,.str (ofString "level") 2953]) #[]) ::
  (nat_lit 524, .mk (.type "tuple") none (.seq #[]) #[]) ::
  (nat_lit 526, .mk (.type "code") none (.fields #[.str (ofString "get_vertex_neighbors") 2949,.str (ofString "CellId.get_vertex_neighbors") 2950,.str (ofString "/claim/cut.py") 2951,.int 297 0,.int 2 0,.int 0 0,.int 0 0,.int 3 0,.ref 521,.bool true,.int 181 0,.ref 522,.none,.ref 523,.ref 524,.ref 525,.int 2954 0,.int 297 0,.str (ofString "/claim/cut.py") 2955]) #[]) ::
  (nat_lit 527, .mk (.type "function") none (.func (by (refine' (_ : RwWay (rwM 9 56 rfl rfl fun n a b c => .mk n (ofString "CellId.get_vertex_neighbors") a b c 3 [] .none .none .none (.str (ofString "s2sphere.sphere") 194) none (.ref 526) .none 0)) _ _; exact fun x _ => x; rotate_left; conv => (rhs; whnf)))) #[]) ::
  (nat_lit 528, .mk (.type "tuple") none (.seq #[]) #[]) ::
  (nat_lit 530, .mk (.type "tuple") none (.seq #[.str (ofString "self") 2960,.str (ofString "nbr_level") 2961]) #[]) ::
  (nat_lit 531, .mk (.type "tuple") none (.seq #[]) #[]) ::
  (nat_lit 533, .mk (.type "code") none (.fields #[.str (ofString "get_all_neighbors") 2957,.str (ofString "CellId.get_all_neighbors") 2958,.str (ofString "/claim/cut.py") 2959,.int 300 0,.int 2 0,.int 0 0,.int 0 0,.int 3 0,.ref 528,.bool true,.int 181 0,.ref 529,.none,.ref 530,.ref 531,.ref 532,.int 2962 0,.int 300 0,.str (ofString "/claim/cut.py") 2963]) #[]) ::
  (nat_lit 534, .mk (.type "function") none (.func (by (refine' (_ : RwWay (rwM 9 57 rfl rfl fun n a b c => .mk n (ofString "CellId.get_all_neighbors") a b c 3 [] .none .none .none (.str (ofString "s2sphere.sphere") 194) none (.ref 533) .none 0)) _ _; exact fun x _ => x; rotate_left; conv => (rhs; whnf)))) #[]) ::
  (nat_lit 535, .mk (.type "tuple") none (.seq #[]) #[]) ::
  (nat_lit 537, .mk (.type "tuple") none (.seq #[.str (ofString "self") 2968,.str (ofString "args") 2969,.str (ofString "level") 2970]) #[]) ::
  (nat_lit 538, .mk (.type "tuple") none (.seq #[]) #[]) ::
  (nat_lit 540, .mk (.type "code") none (.fields #[.str (ofString "get_size_ij") 2965,.str (ofString "CellId.get_size_ij") 2966,.str (ofString "/claim/cut.py") 2967,.int 303 0,.int 1 0,.int 0 0,.int 0 0,.int 7 0,.ref 535,.bool true,.int 181 0,.ref 536,.none,.ref 537,.ref 538,.ref 539,.int 2971 0,.int 303 0,.str (ofString "/claim/cut.py") 2972]) #[]) ::
  (nat_lit 541, .mk (.type "function") none (.func (by (refine' (_ : RwWay (rwM 9 58 rfl rfl fun n a b c => .mk n (ofString "CellId.get_size_ij") a b c 3 [] .none .none .none (.str (ofString "s2sphere.sphere") 194) none (.ref 540) .none 0)) _ _; exact fun x _ => x; rotate_left; conv => (rhs; whnf)))) #[]) ::
  (nat_lit 542, .mk (.type "tuple") none (.seq #[]) #[]) ::
  (nat_lit 544, .mk (.type "tuple") none (.seq #[.str (ofString "self") 2977]) #[]) ::
  (nat_lit 545, .mk (.type "tuple") none (.seq #[]) #[]) ::
  (nat_lit 547, .mk (.type "code") none (.fields #[.str (ofString "to_token") 2974,.str (ofString "CellId.to_token") 2975,.str (ofString "/claim/cut.py") 2976,.int 310 0,.int 1 0,.int 0 0,.int 0 0,.int 3 0,.ref 542,.bool true,.int 181 0,.ref 543,.none,.ref 544,.ref 545,.ref 546,.int 2978 0,.int 310 0,.str (ofString "/claim/cut.py") 2979]) #[]) ::
  (nat_lit 548, .mk (.type "function") none (.func (by (refine' (_ : RwWay (rwM 9 59 rfl rfl fun n a b c => .mk n (ofString "CellId.to_token") a b c 3 [] .none .none .none (.str (ofString "s2sphere.sphere") 194) none (.ref 547) .none 0)) _ _; exact fun x _ => x; rotate_left; conv => (rhs; whnf)))) #[]) ::
  (nat_lit 549, .mk (.type "tuple") none (.seq #[]) #[]) ::
  (nat_lit 551, .mk (.type "tuple") none (.seq #[.str (ofString "cls") 2984,.str (ofString "token") 2985]) #[]) ::
  (nat_lit 552, .mk (.type "tuple") none (.seq #[]) #[]) ::
  (nat_lit 554, .mk (.type "code") none (.fields #[.str (ofString "from_token") 2981,.str (ofString "CellId.from_token") 2982,.str (ofString "/claim/cut.py") 2983,.int 313 0,.int 2 0,.int 0 0,.int 0 0,.int 3 0,.ref 549,.bool true,.int 181 0,.ref 550,.none,.ref 551,.ref 552,.ref 553,.int 2986 0,.int 313 0,.str (ofString "/claim/cut.py") 2987]) #[]) ::
  (nat_lit 555, .mk (.type "function") none (.func (by (refine' (_ : RwWay (rwM 9 60 rfl rfl fun n a b c => .mk n (ofString "CellId.from_token") a b c 3 [] .none .none .none (.str (ofString "s2sphere.sphere") 194) (some 558) (.ref 554) .none 0)) _ _; exact fun x _ => x; rotate_left; conv => (rhs; whnf)))) #[]) ::
  (nat_lit 556, .mk (.type "dict") none (.dict #[.mk (PyData.keyHash P (ofString "__module__")) (.str (ofString "__module__") 2989) (.str (ofString "s2sphere.sphere") 194),.mk (PyData.keyHash P (ofString "__name__")) (.str (ofString "__name__") 2992) (.str (ofString "from_token") 2991),.mk (PyData.keyHash P (ofString "__qualname__")) (.str (ofString "__qualname__") 2995) (.str (ofString "CellId.from_token") 2994),.mk (PyData.keyHash P (ofString "__doc__")) (.str (ofString "__doc__") 2997) .none,.mk (PyData.keyHash P (ofString "__annotations__")) (.str (ofString "__annotations__") 2999) (.ref 558)] 5) #[]) ::
  (nat_lit 557, .mk (.type "classmethod") (some 556) (.fields #[.ref 555,.bool false]) #[]) ::
  (nat_lit 558, .mk (.type "dict") none (.dict #[]) #[]) ::
  (nat_lit 559, .mk (.type "tuple") none (.seq #[.str (ofString "__id") 3001]) #[]) ::
  (nat_lit 560, .mk (.type "dict") none (.dict (List.toArray (.mk (PyData.keyHash P (ofString "__module__")) (.str (ofString "__module__") 2407) (.str (ofString "s2sphere.sphere") 194) :: .mk (PyData.keyHash P (ofString "__firstlineno__")) (.str (ofString "__firstlineno__") 2411) (.int 68 2410) :: .mk (PyData.keyHash P (ofString "LINEAR_PROJECTION")) (.str (ofString "LINEAR_PROJECTION") 2413) (.int 0 2412) :: .mk (PyData.keyHash P (ofString "TAN_PROJECTION")) (.str (ofString "TAN_PROJECTION") 2415) (.int 1 2414) :: .mk (PyData.keyHash P (ofString "QUADRATIC_PROJECTION")) (.str (ofString "QUADRATIC_PROJECTION") 2417) (.int 2 2416) :: .mk (PyData.keyHash P (ofString "PROJECTION")) (.str (ofString "PROJECTION") 2418) (.int 2 2416) :: .mk (PyData.keyHash P (ofString "FACE_BITS")) (.str (ofString "FACE_BITS") 2420) (.int 3 2419) :: .mk (PyData.keyHash P (ofString "NUM_FACES")) (.str (ofString "NUM_FACES") 2422) (.int 6 2421) :: .mk (PyData.keyHash P (ofString "MAX_LEVEL")) (.str (ofString "MAX_LEVEL") 2424) (.int 30 2423) :: .mk (PyData.keyHash P (ofString "POS_BITS")) (.str (ofString "POS_BITS") 2429) (.int 61 2428) :: .mk (PyData.keyHash P (ofString "MAX_SIZE")) (.str (ofString "MAX_SIZE") 2432) (.int 1073741824 2431) :: .mk (PyData.keyHash P (ofString "WRAP_OFFSET")) (.str (ofString "WRAP_OFFSET") 2434) (.int 13835058055282163712 2433) :: .mk (PyData.keyHash P (ofString "__init__")) (.str (ofString "__init__") 2443) (.ref 172) :: .mk (PyData.keyHash P (ofString "__repr__")) (.str (ofString "__repr__") 2450) (.ref 179) :: .mk (PyData.keyHash P (ofString "__hash__")) (.str (ofString "__hash__") 2457) (.ref 186) :: .mk (PyData.keyHash P (ofString "__eq__")) (.str (ofString "__eq__") 2465) (.ref 193) :: .mk (PyData.keyHash P (ofString "__ne__")) (.str (ofString "__ne__") 2473) (.ref 200) :: .mk (PyData.keyHash P (ofString "__lt__")) (.str (ofString "__lt__") 2481) (.ref 207) :: .mk (PyData.keyHash P (ofString "__le__")) (.str (ofString "__le__") 2489) (.ref 214) :: .mk (PyData.keyHash P (ofString "__gt__")) (.str (ofString "__gt__") 2497) (.ref 221) :: .mk (PyData.keyHash P (ofString "__ge__")) (.str (ofString "__ge__") 2505) (.ref 228) :: .mk (PyData.keyHash P (ofString "from_face_pos_level")) (.str (ofString "from_face_pos_level") 2527) (.ref 237) :: .mk (PyData.keyHash P (ofString "from_face_ij")) (.str (ofString "from_face_ij") 2553) (.ref 247) :: .mk (PyData.keyHash P (ofString "from_face_ij_wrap")) (.str (ofString "from_face_ij_wrap") 2578) (.ref 257) :: .mk (PyData.keyHash P (ofString "from_face_ij_same")) (.str (ofString "from_face_ij_same") 2601) (.ref 267) :: .mk (PyData.keyHash P (ofString "st_to_ij")) (.str (ofString "st_to_ij") 2621) (.ref 277) :: .mk (PyData.keyHash P (ofString "lsb_for_level")) (.str (ofString "lsb_for_level") 2641) (.ref 287) :: .mk (PyData.keyHash P (ofString "parent")) (.str (ofString "parent") 2651) (.ref 295) :: .mk (PyData.keyHash P (ofString "child")) (.str (ofString "child") 2659) (.ref 302) :: .mk (PyData.keyHash P (ofString "contains")) (.str (ofString "contains") 2667) (.ref 309) :: .mk (PyData.keyHash P (ofString "intersects")) (.str (ofString "intersects") 2675) (.ref 316) :: .mk (PyData.keyHash P (ofString "is_face")) (.str (ofString "is_face") 2682) (.ref 323) :: .mk (PyData.keyHash P (ofString "id")) (.str (ofString "id") 2689) (.ref 330) :: .mk (PyData.keyHash P (ofString "is_valid")) (.str (ofString "is_valid") 2696) (.ref 337) :: .mk (PyData.keyHash P (ofString "lsb")) (.str (ofString "lsb") 2703) (.ref 344) :: .mk (PyData.keyHash P (ofString "face")) (.str (ofString "face") 2710) (.ref 351) :: .mk (PyData.keyHash P (ofString "pos")) (.str (ofString "pos") 2717) (.ref 358) :: .mk (PyData.keyHash P (ofString "is_leaf")) (.str (ofString "is_leaf") 2724) (.ref 365) :: .mk (PyData.keyHash P (ofString "level")) (.str (ofString "level") 2733) (.ref 372) :: .mk (PyData.keyHash P (ofString "child_begin")) (.str (ofString "child_begin") 2741) (.ref 379) :: .mk (PyData.keyHash P (ofString "child_end")) (.str (ofString "child_end") 2749) (.ref 386) :: .mk (PyData.keyHash P (ofString "prev")) (.str (ofString "prev") 2756) (.ref 393) :: .mk (PyData.keyHash P (ofString "next")) (.str (ofString "next") 2763) (.ref 400) :: .mk (PyData.keyHash P (ofString "children")) (.str (ofString "children") 2771) (.ref 407) :: .mk (PyData.keyHash P (ofString "range_min")) (.str (ofString "range_min") 2778) (.ref 414) :: .mk (PyData.keyHash P (ofString "range_max")) (.str (ofString "range_max") 2785) (.ref 421) :: .mk (PyData.keyHash P (ofString "begin")) (.str (ofString "begin") 2805) (.ref 430) :: .mk (PyData.keyHash P (ofString "end")) (.str (ofString "end") 2825) (.ref 440) :: .mk (PyData.keyHash P (ofString "walk")) (.str (ofString "walk") 2845) (.ref 450) :: .mk (PyData.keyHash P (ofString "walk_fast")) (.str (ofString "walk_fast") 2865) (.ref 460) :: .mk (PyData.keyHash P (ofString "none")) (.str (ofString "none") 2884) (.ref 470) :: .mk (PyData.keyHash P (ofString "prev_wrap")) (.str (ofString "prev_wrap") 2891) (.ref 478) :: .mk (PyData.keyHash P (ofString "next_wrap")) (.str (ofString "next_wrap") 2898) (.ref 485) :: .mk (PyData.keyHash P (ofString "advance_wrap")) (.str (ofString "advance_wrap") 2906) (.ref 492) :: .mk (PyData.keyHash P (ofString "advance")) (.str (ofString "advance") 2914) (.ref 499) :: .mk (PyData.keyHash P (ofString "get_center_si_ti")) (.str (ofString "get_center_si_ti") 2921) (.ref 506) :: .mk (PyData.keyHash P (ofString "to_face_ij_orientation")) (.str (ofString "to_face_ij_orientation") 2935) (.ref 513) :: .mk (PyData.keyHash P (ofString "get_edge_neighbors")) (.str (ofString "get_edge_neighbors") 2948) (.ref 520) :: .mk (PyData.keyHash P (ofString "get_vertex_neighbors")) (.str (ofString "get_vertex_neighbors") 2956) (.ref 527) :: .mk (PyData.keyHash P (ofString "get_all_neighbors")) (.str (ofString "get_all_neighbors") 2964) (.ref 534) :: .mk (PyData.keyHash P (ofString "get_size_ij")) (.str (ofString "get_size_ij") 2973) (.ref 541) :: .mk (PyData.keyHash P (ofString "to_token")) (.str (ofString "to_token") 2980) (.ref 548) :: .mk (PyData.keyHash P (ofString "from_token")) (.str (ofString "from_token") 3000) (.ref 557) :: .mk (PyData.keyHash P (ofString "__static_attributes__")) (.str (ofString "__static_attributes__") 3002) (.ref 559) :: .mk (PyData.keyHash P (ofString "__dict__")) (.str (ofString "__dict__") 3004) (.ref 562) :: .mk (PyData.keyHash P (ofString "__weakref__")) (.str (ofString "__weakref__") 3006) (.ref 563) :: .mk (PyData.keyHash P (ofString "__doc__")) (.str (ofString "__doc__") 3007) .none :: [])) 4) #[]) ::
  (nat_lit 561, .mk (.type "type") none (.cls (.mk (ofString "CellId") [.type "object"] [.ref 561,.type "object"] 560 (ofString "CellId") true [] [] false none false)) #[some (.ref 158),none,some (.str (ofString "CellId") 2400),some (.str (ofString "CellId") 2408),some (.builtin "object.__new__"),some (.bool true)]) ::
  (nat_lit 562, .mk (.type "getset_descriptor") none (.fields #[.str (ofString "__dict__") 3003,.ref 561,.builtin "function.__dict__",.builtin "function.__dict__#set"]) #[]) ::
  (nat_lit 563, .mk (.type "getset_descriptor") none (.fields #[.str (ofString "__weakref__") 3005,.ref 561,.builtin "ExceptionGroup.__weakref__",.none]) #[]) ::
  (nat_lit 566, .mk (.type "tuple") none (.seq #[]) #[]) ::
  (nat_lit 568, .mk (.type "tuple") none (.seq #[.str (ofString "a") 3013,.str (ofString "b") 3014]) #[]) ::
  (nat_lit 569, .mk (.type "tuple") none (.seq #[]) #[]) ::
  (nat_lit 571, .mk (.type "code") none (.fields #[.str (ofString "_quotient") 3010,.str (ofString "_quotient") 3011,.str (ofString "/claim/cut.py") 3012,.int 316 0,.int 2 0,.int 0 0,.int 0 0,.int 3 0,.ref 566,.bool true,.int 181 0,.ref 567,.none,.ref 568,.ref 569,.ref 570,.int 3015 0,.int 316 0,.str (ofString "/claim/cut.py") 3016]) #[]) ::
  (nat_lit 572, .mk (.type "function") none (.func (by (refine' (_ : RwWay (rwT 10 rfl fun n a b c => .mk n n a b c 3 [] .none .none .none (.str (ofString "s2sphere.sphere") 194) none (.ref 571) .none 0)) _ _; exact fun x _ => x; rotate_left; conv => (rhs; whnf)))) #[]) ::
  (nat_lit 573, .mk (.type "tuple") none (.seq #[]) #[]) ::
  (nat_lit 575, .mk (.type "tuple") none (.seq #[.str (ofString "face") 3021,.str (ofString "p") 3022]) #[]) ::
  (nat_lit 576, .mk (.type "tuple") none (.seq #[]) #[]) ::
  (nat_lit 578, .mk (.type "code") none (.fields #[.str (ofString "valid_face_xyz_to_uv") 3018,.str (ofString "valid_face_xyz_to_uv") 3019,.str (ofString "/claim/cut.py") 3020,.int 318 0,.int 2 0,.int 0 0,.int 0 0,.int 3 0,.ref 573,.bool true,.int 181 0,.ref 574,.none,.ref 575,.ref 576,.ref 577,.int 3023 0,.int 318 0,.str (ofString "/claim/cut.py") 3024]) #[]) ::
  (nat_lit 579, .mk (.type "function") none (.func (by (refine' (_ : RwWay (rwT 11 rfl fun n a b c => .mk n n a b c 3 [] .none .none .none (.str (ofString "s2sphere.sphere") 194) none (.ref 578) .none 0)) _ _; exact fun x _ => x; rotate_left; conv => (rhs; whnf)))) #[]) ::
  (nat_lit 580, .mk (.type "tuple") none (.seq #[]) #[]) ::
  (nat_lit 582, .mk (.type "tuple") none (.seq #[.str (ofString "p") 3029,.str (ofString "face") 3030,.str (ofString "u") 3031,.str (ofString "v") 3032]) #[]) ::
  (nat_lit 583, .mk (.type "tuple") none (.seq #[]) #[]) ::
  (nat_lit 585, .mk (.type "code") none (.fields #[.str (ofString "xyz_to_face_uv") 3026,.str (ofString "xyz_to_face_uv") 3027,.str (ofString "/claim/cut.py") 3028,.int 332 0,.int 1 0,.int 0 0,.int 0 0,.int 3 0,.ref 580,.bool true,.int 181 0,.ref 581,.none,.ref 582,.ref 583,.ref 584,.int 3033 0,.int 332 0,.str (ofString "/claim/cut.py") 3034]) #[]) ::
  (nat_lit 586, .mk (.type "function") none (.func (by (refine' (_ : RwWay (rwT 12 rfl fun n a b c => .mk n n a b c 3 [] .none .none .none (.str (ofString "s2sphere.sphere") 194) none (.ref 585) .none 0)) _ _; exact fun x _ => x; rotate_left; conv => (rhs; whnf)))) #[]) ::
  (nat_lit 587, .mk (.type "tuple") none (.seq #[]) #[]) ::
  (nat_lit 589, .mk (.type "tuple") none (.seq #[.str (ofString "face") 3039,.str (ofString "u") 3040,.str (ofString "v") 3041]) #[]) ::
  (nat_lit 590, .mk (.type "tuple") none (.seq #[]) #[]) ::
  (nat_lit 592, .mk (.type "code") none (.fields #[.str (ofString "face_uv_to_xyz") 3036,.str (ofString "face_uv_to_xyz") 3037,.str (ofString "/claim/cut.py") 3038,.int 338 0,.int 3 0,.int 0 0,.int 0 0,.int 3 0,.ref 587,.bool true,.int 181 0,.ref 588,.none,.ref 589,.ref 590,.ref 591,.int 3042 0,.int 338 0,.str (ofString "/claim/cut.py") 3043]) #[]) ::
  (nat_lit 593, .mk (.type "function") none (.func (by (refine' (_ : RwWay (rwT 13 rfl fun n a b c => .mk n n a b c 3 [] .none .none .none (.str (ofString "s2sphere.sphere") 194) none (.ref 592) .none 0)) _ _; exact fun x _ => x; rotate_left; conv => (rhs; whnf)))) #[]) ::
  (nat_lit 594, .mk (.type "tuple") none (.seq #[]) #[]) ::
  (nat_lit 596, .mk (.type "tuple") none (.seq #[.str (ofString "face") 3048]) #[]) ::
  (nat_lit 597, .mk (.type "tuple") none (.seq #[]) #[]) ::
  (nat_lit 599, .mk (.type "code") none (.fields #[.str (ofString "get_norm") 3045,.str (ofString "get_norm") 3046,.str (ofString "/claim/cut.py") 3047,.int 351 0,.int 1 0,.int 0 0,.int 0 0,.int 3 0,.ref 594,.bool true,.int 181 0,.ref 595,.none,.ref 596,.ref 597,.ref 598,.int 3049 0,.int 351 0,.str (ofString "/claim/cut.py") 3050]) #[]) ::
  (nat_lit 600, .mk (.type "function") none (.func (by (refine' (_ : RwWay (rwT 14 rfl fun n a b c => .mk n n a b c 3 [] .none .none .none (.str (ofString "s2sphere.sphere") 194) none (.ref 599) .none 0)) _ _; exact fun x _ => x; rotate_left; conv => (rhs; whnf)))) #[]) ::
  (nat_lit 601, .mk (.type "tuple") none (.seq #[]) #[]) ::
  (nat_lit 603, .mk (.type "tuple") none (.seq #[.str (ofString "script") 3057,.str (ofString "at") 3058]) #[]) ::
  (nat_lit 604, .mk (.type "tuple") none (.seq #[]) #[]) ::
  (nat_lit 606, .mk (.type "code") none (.fields #[.str (ofString "_law_number") 3054,.str (ofString "_law_number") 3055,.str (ofString "/claim/cut.py") 3056,.int 354 0,.int 2 0,.int 0 0,.int 0 0,.int 3 0,.ref 601,.bool true,.int 181 0,.ref 602,.none,.ref 603,.ref 604,.ref 605,.int 3059 0,.int 354 0,.str (ofString "/claim/cut.py") 3060]) #[]) ::
  (nat_lit 607, .mk (.type "function") none (.func (by (refine' (_ : RwWay (rwT 16 rfl fun n a b c => .mk n n a b c 3 [] .none .none .none (.str (ofString "law_lp0002_01") 3052) none (.ref 606) .none 0)) _ _; exact fun x _ => x; rotate_left; conv => (rhs; whnf)))) #[]) ::
  (nat_lit 608, .mk (.type "tuple") none (.seq #[]) #[]) ::
  (nat_lit 610, .mk (.type "tuple") none (.seq #[.str (ofString "number") 3065,.str (ofString "size") 3066,.str (ofString "way") 3067]) #[]) ::
  (nat_lit 611, .mk (.type "tuple") none (.seq #[]) #[]) ::
  (nat_lit 613, .mk (.type "code") none (.fields #[.str (ofString "_law_pick") 3062,.str (ofString "_law_pick") 3063,.str (ofString "/claim/cut.py") 3064,.int 356 0,.int 2 0,.int 0 0,.int 0 0,.int 3 0,.ref 608,.bool true,.int 181 0,.ref 609,.none,.ref 610,.ref 611,.ref 612,.int 3068 0,.int 356 0,.str (ofString "/claim/cut.py") 3069]) #[]) ::
  (nat_lit 614, .mk (.type "function") none (.func (by (refine' (_ : RwWay (rwT 17 rfl fun n a b c => .mk n n a b c 3 [] .none .none .none (.str (ofString "law_lp0002_01") 3052) none (.ref 613) .none 0)) _ _; exact fun x _ => x; rotate_left; conv => (rhs; whnf)))) #[]) ::
  (nat_lit 615, .mk (.type "tuple") none (.seq #[]) #[]) ::
  (nat_lit 617, .mk (.type "tuple") none (.seq #[.str (ofString "i") 3074,.str (ofString "j") 3075,.str (ofString "turned") 3076,.str (ofString "bits") 3077,.str (ofString "place") 3078,.str (ofString "bit") 3079,.str (ofString "half") 3080,.str (ofString "right") 3081,.str (ofString "up") 3082]) #[]) ::
  (nat_lit 618, .mk (.type "tuple") none (.seq #[]) #[]) ::
  (nat_lit 620, .mk (.type "code") none (.fields #[.str (ofString "_law_place") 3071,.str (ofString "_law_place") 3072,.str (ofString "/claim/cut.py") 3073,.int 363 0,.int 4 0,.int 0 0,.int 0 0,.int 3 0,.ref 615,.bool true,.int 181 0,.ref 616,.none,.ref 617,.ref 618,.ref 619,.int 3083 0,.int 363 0,.str (ofString "/claim/cut.py") 3084]) #[]) ::
  (nat_lit 621, .mk (.type "function") none (.func (by (refine' (_ : RwWay (rwT 18 rfl fun n a b c => .mk n n a b c 3 [] .none .none .none (.str (ofString "law_lp0002_01") 3052) none (.ref 620) .none 0)) _ _; exact fun x _ => x; rotate_left; conv => (rhs; whnf)))) #[]) ::
  (nat_lit 622, .mk (.type "tuple") none (.seq #[]) #[]) ::
  (nat_lit 624, .mk (.type "tuple") none (.seq #[.str (ofString "face") 3089,.str (ofString "i") 3090,.str (ofString "j") 3091,.str (ofString "level") 3092]) #[]) ::
  (nat_lit 625, .mk (.type "tuple") none (.seq #[]) #[]) ::
  (nat_lit 627, .mk (.type "code") none (.fields #[.str (ofString "_law_id") 3086,.str (ofString "_law_id") 3087,.str (ofString "/claim/cut.py") 3088,.int 377 0,.int 4 0,.int 0 0,.int 0 0,.int 3 0,.ref 622,.bool true,.int 181 0,.ref 623,.none,.ref 624,.ref 625,.ref 626,.int 3093 0,.int 377 0,.str (ofString "/claim/cut.py") 3094]) #[]) ::
  (nat_lit 628, .mk (.type "function") none (.func (by (refine' (_ : RwWay (rwT 19 rfl fun n a b c => .mk n n a b c 3 [] .none .none .none (.str (ofString "law_lp0002_01") 3052) none (.ref 627) .none 0)) _ _; exact fun x _ => x; rotate_left; conv => (rhs; whnf)))) #[]) ::
  (nat_lit 629, .mk (.type "tuple") none (.seq #[]) #[]) ::
  (nat_lit 631, .mk (.type "tuple") none (.seq #[.str (ofString "face") 3099,.str (ofString "size") 3100,.str (ofString "u") 3101,.str (ofString "v") 3102]) #[]) ::
  (nat_lit 632, .mk (.type "tuple") none (.seq #[]) #[]) ::
  (nat_lit 634, .mk (.type "code") none (.fields #[.str (ofString "_law_point") 3096,.str (ofString "_law_point") 3097,.str (ofString "/claim/cut.py") 3098,.int 379 0,.int 4 0,.int 0 0,.int 0 0,.int 3 0,.ref 629,.bool true,.int 181 0,.ref 630,.none,.ref 631,.ref 632,.ref 633,.int 3103 0,.int 379 0,.str (ofString "/claim/cut.py") 3104]) #[]) ::
  (nat_lit 635, .mk (.type "function") none (.func (by (refine' (_ : RwWay (rwT 20 rfl fun n a b c => .mk n n a b c 3 [] .none .none .none (.str (ofString "law_lp0002_01") 3052) none (.ref 634) .none 0)) _ _; exact fun x _ => x; rotate_left; conv => (rhs; whnf)))) #[]) ::
  (nat_lit 636, .mk (.type "tuple") none (.seq #[]) #[]) ::
  (nat_lit 638, .mk (.type "tuple") none (.seq #[.str (ofString "face") 3109,.str (ofString "i") 3110,.str (ofString "j") 3111,.str (ofString "size") 3112,.str (ofString "found") 3113,.str (ofString "right") 3114,.str (ofString "up") 3115]) #[]) ::
  (nat_lit 639, .mk (.type "tuple") none (.seq #[]) #[]) ::
  (nat_lit 641, .mk (.type "code") none (.fields #[.str (ofString "_law_corners") 3106,.str (ofString "_law_corners") 3107,.str (ofString "/claim/cut.py") 3108,.int 381 0,.int 4 0,.int 0 0,.int 0 0,.int 3 0,.ref 636,.bool true,.int 181 0,.ref 637,.none,.ref 638,.ref 639,.ref 640,.int 3116 0,.int 381 0,.str (ofString "/claim/cut.py") 3117]) #[]) ::
  (nat_lit 642, .mk (.type "function") none (.func (by (refine' (_ : RwWay (rwT 21 rfl fun n a b c => .mk n n a b c 3 [] .none .none .none (.str (ofString "law_lp0002_01") 3052) none (.ref 641) .none 0)) _ _; exact fun x _ => x; rotate_left; conv => (rhs; whnf)))) #[]) ::
  (nat_lit 643, .mk (.type "tuple") none (.seq #[]) #[]) ::
  (nat_lit 645, .mk (.type "tuple") none (.seq #[.str (ofString "point") 3122,.str (ofString "size") 3123,.str (ofString "x") 3124,.str (ofString "y") 3125,.str (ofString "z") 3126,.str (ofString "sides") 3127,.str (ofString "found") 3128,.str (ofString "face") 3129,.str (ofString "away") 3130,.str (ofString "u") 3131,.str (ofString "v") 3132,.str (ofString "i") 3133,.str (ofString "j") 3134,.str (ofString "a") 3135,.str (ofString "b") 3136]) #[]) ::
  (nat_lit 646, .mk (.type "tuple") none (.seq #[]) #[]) ::
  (nat_lit 648, .mk (.type "code") none (.fields #[.str (ofString "_law_touching") 3119,.str (ofString "_law_touching") 3120,.str (ofString "/claim/cut.py") 3121,.int 386 0,.int 2 0,.int 0 0,.int 0 0,.int 3 0,.ref 643,.bool true,.int 181 0,.ref 644,.none,.ref 645,.ref 646,.ref 647,.int 3137 0,.int 386 0,.str (ofString "/claim/cut.py") 3138]) #[]) ::
  (nat_lit 649, .mk (.type "function") none (.func (by (refine' (_ : RwWay (rwT 22 rfl fun n a b c => .mk n n a b c 3 [] .none .none .none (.str (ofString "law_lp0002_01") 3052) none (.ref 648) .none 0)) _ _; exact fun x _ => x; rotate_left; conv => (rhs; whnf)))) #[]) ::
  (nat_lit 650, .mk (.type "tuple") none (.seq #[]) #[]) ::
  (nat_lit 653, .mk (.type "code") none (.fields #[.str (ofString "law") 3140,.str (ofString "law") 3141,.str (ofString "/claim/cut.py") 3142,.int 399 0,.int 1 0,.int 0 0,.int 0 0,.int 3 0,.ref 650,.bool true,.int 181 0,.ref 651,.none,.none,.none,.ref 652,.int 3143 0,.int 399 0,.str (ofString "/claim/cut.py") 3144]) #[]) ::
  (nat_lit 654, .mk (.type "function") none (.func (by (refine' (_ : RwWay (rwT 23 rfl fun n a b c => .mk n n a b c 3 [] .none .none .none (.str (ofString "law_lp0002_01") 3052) none (.ref 653) .none 0)) _ _; exact fun x _ => x; rotate_left; conv => (rhs; whnf)))) #[]) ::
  [] : List (Nat × Obj))
noncomputable def lk (a : Nat) (d : Obj) : List (Nat × Obj) → Obj
  | [] => d
  | p :: l => match Nat.beq p.1 a with
    | true => p.2
    | false => lk a d l
noncomputable def cdOf : Obj → Obj
  | .mk _ _ (.func (.mk a b c d e _ _ _ _ _ _ _ _ _ _)) _ => .mk .none none (.func (.mk a b c d e 0 [] .none .none .none .none none .none .none 0)) #[]
  | o => o
noncomputable def X1 (P : Params) : Frag := (
  (nat_lit 11, .mk (.type "tuple") none (.seq #[]) #[]) ::
  (nat_lit 12, .mk .none none (.fields #[.int 1 0,.int 0 0,.ref 20,.int 5 0,.int 0 0,.ref 27,.int 68 0,.int 0 0,.ref 163,.int 316 0,.int 0 0,.ref 571,.int 318 0,.int 0 0,.ref 578,.int 332 0,.int 0 0,.ref 585,.int 338 0,.int 0 0,.ref 592,.int 351 0,.int 0 0,.ref 599,.int 354 0,.int 0 0,.ref 606,.int 356 0,.int 0 0,.ref 613,.int 363 0,.int 0 0,.ref 620,.int 377 0,.int 0 0,.ref 627,.int 379 0,.int 0 0,.ref 634,.int 381 0,.int 0 0,.ref 641,.int 386 0,.int 0 0,.ref 648,.int 399 0,.int 0 0,.ref 653]) #[]) ::
  (nat_lit 13, .mk (.type "code") none (.fields #[.str (ofString "<module>") 182,.str (ofString "<module>") 183,.str (ofString "/claim/cut.py") 184,.int 1 0,.int 0 0,.int 0 0,.int 0 0,.int 0 0,.ref 11,.bool false,.int 181 0,.ref 12,.none,.none,.none,.none,.int 185 0,.int 1 0,.str (ofString "/claim/cut.py") 186]) #[]) ::
  (nat_lit 14, .mk (.type "frame") none .plain #[some (.ref 13),some (.ref 3),some (.ref 3),none,some (.str (ofString "__main__") 164),none,some (.ref 0)]) ::
  (nat_lit 16, .mk .none none (.fields #[]) #[]) ::
  (nat_lit 19, cdOf (lk (nat_lit 21) default (K1 P))) ::
  (nat_lit 23, .mk (.type "builtin_function_or_method") none (.fields #[.builtin "type.__prepare__",.type "type"]) #[]) ::
  (nat_lit 24, .mk (.type "dict") none (.dict #[.mk (PyData.keyHash P (ofString "__module__")) (.str (ofString "__module__") 203) (.str (ofString "s2sphere.sphere") 194),.mk (PyData.keyHash P (ofString "__qualname__")) (.str (ofString "__qualname__") 205) (.str (ofString "Point") 204),.mk (PyData.keyHash P (ofString "__firstlineno__")) (.str (ofString "__firstlineno__") 207) (.int 5 206),.mk (PyData.keyHash P (ofString "__init__")) (.str (ofString "__init__") 217) (.ref 35),.mk (PyData.keyHash P (ofString "__getitem__")) (.str (ofString "__getitem__") 225) (.ref 42),.mk (PyData.keyHash P (ofString "__neg__")) (.str (ofString "__neg__") 232) (.ref 49),.mk (PyData.keyHash P (ofString "__eq__")) (.str (ofString "__eq__") 240) (.ref 56),.mk (PyData.keyHash P (ofString "__ne__")) (.str (ofString "__ne__") 248) (.ref 63),.mk (PyData.keyHash P (ofString "__hash__")) (.str (ofString "__hash__") 255) (.ref 70),.mk (PyData.keyHash P (ofString "__repr__")) (.str (ofString "__repr__") 262) (.ref 77),.mk (PyData.keyHash P (ofString "__add__")) (.str (ofString "__add__") 270) (.ref 84),.mk (PyData.keyHash P (ofString "__sub__")) (.str (ofString "__sub__") 278) (.ref 91),.mk (PyData.keyHash P (ofString "__mul__")) (.str (ofString "__mul__") 286) (.ref 98),.mk (PyData.keyHash P (ofString "__rmul__")) (.str (ofString "__rmul__") 294) (.ref 105),.mk (PyData.keyHash P (ofString "largest_abs_component")) (.str (ofString "largest_abs_component") 300) (.ref 110),.mk (PyData.keyHash P (ofString "cross_prod")) (.str (ofString "cross_prod") 308) (.ref 117),.mk (PyData.keyHash P (ofString "dot_prod")) (.str (ofString "dot_prod") 322) (.ref 124),.mk (PyData.keyHash P (ofString "norm2")) (.str (ofString "norm2") 329) (.ref 131),.mk (PyData.keyHash P (ofString "__static_attributes__")) (.str (ofString "__static_attributes__") 331) (.ref 132)] 19) #[]) ::
  (nat_lit 25, .mk (.type "tuple") none (.seq #[]) #[]) ::
  (nat_lit 26, .mk .none none (.fields #[.int 7 0,.int 4 0,.ref 34,.int 10 0,.int 4 0,.ref 41,.int 13 0,.int 4 0,.ref 48,.int 16 0,.int 4 0,.ref 55,.int 19 0,.int 4 0,.ref 62,.int 22 0,.int 4 0,.ref 69,.int 25 0,.int 4 0,.ref 76,.int 28 0,.int 4 0,.ref 83,.int 31 0,.int 4 0,.ref 90,.int 34 0,.int 4 0,.ref 97,.int 37 0,.int 4 0,.ref 104,.int 40 0,.int 4 0,.ref 109,.int 52 0,.int 4 0,.ref 116,.int 55 0,.int 4 0,.ref 123,.int 60 0,.int 4 0,.ref 130]) #[]) ::
  (nat_lit 27, .mk (.type "code") none (.fields #[.str (ofString "Point") 198,.str (ofString "Point") 199,.str (ofString "/claim/cut.py") 200,.int 5 0,.int 0 0,.int 0 0,.int 0 0,.int 0 0,.ref 25,.bool false,.int 181 0,.ref 26,.none,.none,.none,.none,.int 201 0,.int 5 0,.str (ofString "/claim/cut.py") 202]) #[]) ::
  (nat_lit 28, .mk (.type "frame") none .plain #[some (.ref 27),some (.ref 3),some (.ref 24),none,some (.str (ofString "s2sphere.sphere") 194),none,some (.ref 0)]) ::
  (nat_lit 30, .mk .none none (.fields #[]) #[]) ::
  (nat_lit 33, cdOf (lk (nat_lit 35) default (K1 P))) ::
  (nat_lit 37, .mk .none none (.fields #[]) #[]) ::
  (nat_lit 40, cdOf (lk (nat_lit 42) default (K1 P))) ::
  (nat_lit 44, .mk .none none (.fields #[]) #[]) ::
  (nat_lit 47, cdOf (lk (nat_lit 49) default (K1 P))) ::
  (nat_lit 51, .mk .none none (.fields #[]) #[]) ::
  (nat_lit 54, cdOf (lk (nat_lit 56) default (K1 P))) ::
  (nat_lit 58, .mk .none none (.fields #[]) #[]) ::
  (nat_lit 61, cdOf (lk (nat_lit 63) default (K1 P))) ::
  (nat_lit 65, .mk .none none (.fields #[]) #[]) ::
  (nat_lit 68, cdOf (lk (nat_lit 70) default (K1 P))) ::
  (nat_lit 72, .mk .none none (.fields #[]) #[]) ::
  (nat_lit 75, cdOf (lk (nat_lit 77) default (K1 P))) ::
  (nat_lit 79, .mk .none none (.fields #[]) #[]) ::
  (nat_lit 82, cdOf (lk (nat_lit 84) default (K1 P))) ::
  (nat_lit 86, .mk .none none (.fields #[]) #[]) ::
  (nat_lit 89, cdOf (lk (nat_lit 91) default (K1 P))) ::
  (nat_lit 93, .mk .none none (.fields #[]) #[]) ::
  (nat_lit 96, cdOf (lk (nat_lit 98) default (K1 P))) ::
  (nat_lit 100, .mk .none none (.fields #[]) #[]) ::
  (nat_lit 103, cdOf (lk (nat_lit 105) default (K1 P))) ::
  (nat_lit 107, .mk .none none (.fields #[]) #[]) ::
  (nat_lit 108, cdOf (lk (nat_lit 110) default (K1 P))) ::
  (nat_lit 112, .mk .none none (.fields #[]) #[]) ::
  (nat_lit 115, cdOf (lk (nat_lit 117) default (K1 P))) ::
  (nat_lit 119, .mk .none none (.fields #[]) #[]) ::
  (nat_lit 122, cdOf (lk (nat_lit 124) default (K1 P))) ::
  (nat_lit 126, .mk .none none (.fields #[]) #[]) ::
  (nat_lit 129, cdOf (lk (nat_lit 131) default (K1 P))) ::
  (nat_lit 137, .mk (.type "super") none (.fields #[.ref 134,.ref 134,.ref 134]) #[]) ::
  (nat_lit 138, .mk (.type "builtin_function_or_method") none (.fields #[.builtin "object.__init_subclass__",.ref 134]) #[]) ::
  (nat_lit 159, .mk (.type "builtin_function_or_method") none (.fields #[.builtin "type.__prepare__",.type "type"]) #[]) ::
  (nat_lit 160, .mk (.type "dict") none (.dict (List.toArray (.mk (PyData.keyHash P (ofString "__module__")) (.str (ofString "__module__") 2407) (.str (ofString "s2sphere.sphere") 194) :: .mk (PyData.keyHash P (ofString "__qualname__")) (.str (ofString "__qualname__") 2409) (.str (ofString "CellId") 2408) :: .mk (PyData.keyHash P (ofString "__firstlineno__")) (.str (ofString "__firstlineno__") 2411) (.int 68 2410) :: .mk (PyData.keyHash P (ofString "LINEAR_PROJECTION")) (.str (ofString "LINEAR_PROJECTION") 2413) (.int 0 2412) :: .mk (PyData.keyHash P (ofString "TAN_PROJECTION")) (.str (ofString "TAN_PROJECTION") 2415) (.int 1 2414) :: .mk (PyData.keyHash P (ofString "QUADRATIC_PROJECTION")) (.str (ofString "QUADRATIC_PROJECTION") 2417) (.int 2 2416) :: .mk (PyData.keyHash P (ofString "PROJECTION")) (.str (ofString "PROJECTION") 2418) (.int 2 2416) :: .mk (PyData.keyHash P (ofString "FACE_BITS")) (.str (ofString "FACE_BITS") 2420) (.int 3 2419) :: .mk (PyData.keyHash P (ofString "NUM_FACES")) (.str (ofString "NUM_FACES") 2422) (.int 6 2421) :: .mk (PyData.keyHash P (ofString "MAX_LEVEL")) (.str (ofString "MAX_LEVEL") 2424) (.int 30 2423) :: .mk (PyData.keyHash P (ofString "POS_BITS")) (.str (ofString "POS_BITS") 2429) (.int 61 2428) :: .mk (PyData.keyHash P (ofString "MAX_SIZE")) (.str (ofString "MAX_SIZE") 2432) (.int 1073741824 2431) :: .mk (PyData.keyHash P (ofString "WRAP_OFFSET")) (.str (ofString "WRAP_OFFSET") 2434) (.int 13835058055282163712 2433) :: .mk (PyData.keyHash P (ofString "__init__")) (.str (ofString "__init__") 2443) (.ref 172) :: .mk (PyData.keyHash P (ofString "__repr__")) (.str (ofString "__repr__") 2450) (.ref 179) :: .mk (PyData.keyHash P (ofString "__hash__")) (.str (ofString "__hash__") 2457) (.ref 186) :: .mk (PyData.keyHash P (ofString "__eq__")) (.str (ofString "__eq__") 2465) (.ref 193) :: .mk (PyData.keyHash P (ofString "__ne__")) (.str (ofString "__ne__") 2473) (.ref 200) :: .mk (PyData.keyHash P (ofString "__lt__")) (.str (ofString "__lt__") 2481) (.ref 207) :: .mk (PyData.keyHash P (ofString "__le__")) (.str (ofString "__le__") 2489) (.ref 214) :: .mk (PyData.keyHash P (ofString "__gt__")) (.str (ofString "__gt__") 2497) (.ref 221) :: .mk (PyData.keyHash P (ofString "__ge__")) (.str (ofString "__ge__") 2505) (.ref 228) :: .mk (PyData.keyHash P (ofString "from_face_pos_level")) (.str (ofString "from_face_pos_level") 2527) (.ref 237) :: .mk (PyData.keyHash P (ofString "from_face_ij")) (.str (ofString "from_face_ij") 2553) (.ref 247) :: .mk (PyData.keyHash P (ofString "from_face_ij_wrap")) (.str (ofString "from_face_ij_wrap") 2578) (.ref 257) :: .mk (PyData.keyHash P (ofString "from_face_ij_same")) (.str (ofString "from_face_ij_same") 2601) (.ref 267) :: .mk (PyData.keyHash P (ofString "st_to_ij")) (.str (ofString "st_to_ij") 2621) (.ref 277) :: .mk (PyData.keyHash P (ofString "lsb_for_level")) (.str (ofString "lsb_for_level") 2641) (.ref 287) :: .mk (PyData.keyHash P (ofString "parent")) (.str (ofString "parent") 2651) (.ref 295) :: .mk (PyData.keyHash P (ofString "child")) (.str (ofString "child") 2659) (.ref 302) :: .mk (PyData.keyHash P (ofString "contains")) (.str (ofString "contains") 2667) (.ref 309) :: .mk (PyData.keyHash P (ofString "intersects")) (.str (ofString "intersects") 2675) (.ref 316) :: .mk (PyData.keyHash P (ofString "is_face")) (.str (ofString "is_face") 2682) (.ref 323) :: .mk (PyData.keyHash P (ofString "id")) (.str (ofString "id") 2689) (.ref 330) :: .mk (PyData.keyHash P (ofString "is_valid")) (.str (ofString "is_valid") 2696) (.ref 337) :: .mk (PyData.keyHash P (ofString "lsb")) (.str (ofString "lsb") 2703) (.ref 344) :: .mk (PyData.keyHash P (ofString "face")) (.str (ofString "face") 2710) (.ref 351) :: .mk (PyData.keyHash P (ofString "pos")) (.str (ofString "pos") 2717) (.ref 358) :: .mk (PyData.keyHash P (ofString "is_leaf")) (.str (ofString "is_leaf") 2724) (.ref 365) :: .mk (PyData.keyHash P (ofString "level")) (.str (ofString "level") 2733) (.ref 372) :: .mk (PyData.keyHash P (ofString "child_begin")) (.str (ofString "child_begin") 2741) (.ref 379) :: .mk (PyData.keyHash P (ofString "child_end")) (.str (ofString "child_end") 2749) (.ref 386) :: .mk (PyData.keyHash P (ofString "prev")) (.str (ofString "prev") 2756) (.ref 393) :: .mk (PyData.keyHash P (ofString "next")) (.str (ofString "next") 2763) (.ref 400) :: .mk (PyData.keyHash P (ofString "children")) (.str (ofString "children") 2771) (.ref 407) :: .mk (PyData.keyHash P (ofString "range_min")) (.str (ofString "range_min") 2778) (.ref 414) :: .mk (PyData.keyHash P (ofString "range_max")) (.str (ofString "range_max") 2785) (.ref 421) :: .mk (PyData.keyHash P (ofString "begin")) (.str (ofString "begin") 2805) (.ref 430) :: .mk (PyData.keyHash P (ofString "end")) (.str (ofString "end") 2825) (.ref 440) :: .mk (PyData.keyHash P (ofString "walk")) (.str (ofString "walk") 2845) (.ref 450) :: .mk (PyData.keyHash P (ofString "walk_fast")) (.str (ofString "walk_fast") 2865) (.ref 460) :: .mk (PyData.keyHash P (ofString "none")) (.str (ofString "none") 2884) (.ref 470) :: .mk (PyData.keyHash P (ofString "prev_wrap")) (.str (ofString "prev_wrap") 2891) (.ref 478) :: .mk (PyData.keyHash P (ofString "next_wrap")) (.str (ofString "next_wrap") 2898) (.ref 485) :: .mk (PyData.keyHash P (ofString "advance_wrap")) (.str (ofString "advance_wrap") 2906) (.ref 492) :: .mk (PyData.keyHash P (ofString "advance")) (.str (ofString "advance") 2914) (.ref 499) :: .mk (PyData.keyHash P (ofString "get_center_si_ti")) (.str (ofString "get_center_si_ti") 2921) (.ref 506) :: .mk (PyData.keyHash P (ofString "to_face_ij_orientation")) (.str (ofString "to_face_ij_orientation") 2935) (.ref 513) :: .mk (PyData.keyHash P (ofString "get_edge_neighbors")) (.str (ofString "get_edge_neighbors") 2948) (.ref 520) :: .mk (PyData.keyHash P (ofString "get_vertex_neighbors")) (.str (ofString "get_vertex_neighbors") 2956) (.ref 527) :: .mk (PyData.keyHash P (ofString "get_all_neighbors")) (.str (ofString "get_all_neighbors") 2964) (.ref 534) :: .mk (PyData.keyHash P (ofString "get_size_ij")) (.str (ofString "get_size_ij") 2973) (.ref 541) :: .mk (PyData.keyHash P (ofString "to_token")) (.str (ofString "to_token") 2980) (.ref 548) :: .mk (PyData.keyHash P (ofString "from_token")) (.str (ofString "from_token") 3000) (.ref 557) :: .mk (PyData.keyHash P (ofString "__static_attributes__")) (.str (ofString "__static_attributes__") 3002) (.ref 559) :: [])) 65) #[]) ::
  (nat_lit 161, .mk (.type "tuple") none (.seq #[]) #[]) ::
  (nat_lit 162, .mk .none none (.fields (List.toArray (.int 80 0 :: .int 4 0 :: .ref 171 :: .int 83 0 :: .int 4 0 :: .ref 178 :: .int 86 0 :: .int 4 0 :: .ref 185 :: .int 89 0 :: .int 4 0 :: .ref 192 :: .int 92 0 :: .int 4 0 :: .ref 199 :: .int 95 0 :: .int 4 0 :: .ref 206 :: .int 98 0 :: .int 4 0 :: .ref 213 :: .int 101 0 :: .int 4 0 :: .ref 220 :: .int 104 0 :: .int 4 0 :: .ref 227 :: .int 108 0 :: .int 4 0 :: .ref 234 :: .int 112 0 :: .int 4 0 :: .ref 244 :: .int 125 0 :: .int 4 0 :: .ref 254 :: .int 135 0 :: .int 4 0 :: .ref 264 :: .int 142 0 :: .int 4 0 :: .ref 274 :: .int 146 0 :: .int 4 0 :: .ref 284 :: .int 149 0 :: .int 4 0 :: .ref 294 :: .int 162 0 :: .int 4 0 :: .ref 301 :: .int 165 0 :: .int 4 0 :: .ref 308 :: .int 168 0 :: .int 4 0 :: .ref 315 :: .int 171 0 :: .int 4 0 :: .ref 322 :: .int 174 0 :: .int 4 0 :: .ref 329 :: .int 177 0 :: .int 4 0 :: .ref 336 :: .int 180 0 :: .int 4 0 :: .ref 343 :: .int 183 0 :: .int 4 0 :: .ref 350 :: .int 186 0 :: .int 4 0 :: .ref 357 :: .int 189 0 :: .int 4 0 :: .ref 364 :: .int 192 0 :: .int 4 0 :: .ref 371 :: .int 214 0 :: .int 4 0 :: .ref 378 :: .int 217 0 :: .int 4 0 :: .ref 385 :: .int 220 0 :: .int 4 0 :: .ref 392 :: .int 223 0 :: .int 4 0 :: .ref 399 :: .int 226 0 :: .int 4 0 :: .ref 406 :: .int 229 0 :: .int 4 0 :: .ref 413 :: .int 232 0 :: .int 4 0 :: .ref 420 :: .int 236 0 :: .int 4 0 :: .ref 427 :: .int 240 0 :: .int 4 0 :: .ref 437 :: .int 244 0 :: .int 4 0 :: .ref 447 :: .int 248 0 :: .int 4 0 :: .ref 457 :: .int 252 0 :: .int 4 0 :: .ref 467 :: .int 255 0 :: .int 4 0 :: .ref 477 :: .int 258 0 :: .int 4 0 :: .ref 484 :: .int 261 0 :: .int 4 0 :: .ref 491 :: .int 264 0 :: .int 4 0 :: .ref 498 :: .int 267 0 :: .int 4 0 :: .ref 505 :: .int 270 0 :: .int 4 0 :: .ref 512 :: .int 291 0 :: .int 4 0 :: .ref 519 :: .int 297 0 :: .int 4 0 :: .ref 526 :: .int 300 0 :: .int 4 0 :: .ref 533 :: .int 303 0 :: .int 4 0 :: .ref 540 :: .int 310 0 :: .int 4 0 :: .ref 547 :: .int 314 0 :: .int 4 0 :: .ref 554 :: []))) #[]) ::
  (nat_lit 163, .mk (.type "code") none (.fields #[.str (ofString "CellId") 2402,.str (ofString "CellId") 2403,.str (ofString "/claim/cut.py") 2404,.int 68 0,.int 0 0,.int 0 0,.int 0 0,.int 0 0,.ref 161,.bool false,.int 181 0,.ref 162,.none,.none,.none,.none,.int 2405 0,.int 68 0,.str (ofString "/claim/cut.py") 2406]) #[]) ::
  (nat_lit 164, .mk (.type "frame") none .plain #[some (.ref 163),some (.ref 3),some (.ref 160),none,some (.str (ofString "s2sphere.sphere") 194),none,some (.ref 0)]) ::
  (nat_lit 167, .mk .none none (.fields #[]) #[]) ::
  (nat_lit 170, cdOf (lk (nat_lit 172) default (K1 P))) ::
  (nat_lit 174, .mk .none none (.fields #[]) #[]) ::
  (nat_lit 177, cdOf (lk (nat_lit 179) default (K1 P))) ::
  (nat_lit 181, .mk .none none (.fields #[]) #[]) ::
  (nat_lit 184, cdOf (lk (nat_lit 186) default (K1 P))) ::
  (nat_lit 188, .mk .none none (.fields #[]) #[]) ::
  (nat_lit 191, cdOf (lk (nat_lit 193) default (K1 P))) ::
  (nat_lit 195, .mk .none none (.fields #[]) #[]) ::
  (nat_lit 198, cdOf (lk (nat_lit 200) default (K1 P))) ::
  (nat_lit 202, .mk .none none (.fields #[]) #[]) ::
  (nat_lit 205, cdOf (lk (nat_lit 207) default (K1 P))) ::
  (nat_lit 209, .mk .none none (.fields #[]) #[]) ::
  (nat_lit 212, cdOf (lk (nat_lit 214) default (K1 P))) ::
  (nat_lit 216, .mk .none none (.fields #[]) #[]) ::
  (nat_lit 219, cdOf (lk (nat_lit 221) default (K1 P))) ::
  (nat_lit 223, .mk .none none (.fields #[]) #[]) ::
  (nat_lit 226, cdOf (lk (nat_lit 228) default (K1 P))) ::
  (nat_lit 230, .mk .none none (.fields #[]) #[]) ::
  (nat_lit 233, cdOf (lk (nat_lit 235) default (K1 P))) ::
  (nat_lit 240, .mk .none none (.fields #[]) #[]) ::
  (nat_lit 243, cdOf (lk (nat_lit 245) default (K1 P))) ::
  (nat_lit 250, .mk .none none (.fields #[]) #[]) ::
  (nat_lit 253, cdOf (lk (nat_lit 255) default (K1 P))) ::
  (nat_lit 260, .mk .none none (.fields #[]) #[]) ::
  (nat_lit 263, cdOf (lk (nat_lit 265) default (K1 P))) ::
  (nat_lit 270, .mk .none none (.fields #[]) #[]) ::
  (nat_lit 273, cdOf (lk (nat_lit 275) default (K1 P))) ::
  (nat_lit 280, .mk .none none (.fields #[]) #[]) ::
  (nat_lit 283, cdOf (lk (nat_lit 285) default (K1 P))) ::
  (nat_lit 290, .mk .none none (.fields #[]) #[]) ::
  (nat_lit 293, cdOf (lk (nat_lit 295) default (K1 P))) ::
  (nat_lit 297, .mk .none none (.fields #[]) #[]) ::
  (nat_lit 300, cdOf (lk (nat_lit 302) default (K1 P))) ::
  (nat_lit 304, .mk .none none (.fields #[]) #[]) ::
  (nat_lit 307, cdOf (lk (nat_lit 309) default (K1 P))) ::
  (nat_lit 311, .mk .none none (.fields #[]) #[]) ::
  (nat_lit 314, cdOf (lk (nat_lit 316) default (K1 P))) ::
  (nat_lit 318, .mk .none none (.fields #[]) #[]) ::
  (nat_lit 321, cdOf (lk (nat_lit 323) default (K1 P))) ::
  (nat_lit 325, .mk .none none (.fields #[]) #[]) ::
  (nat_lit 328, cdOf (lk (nat_lit 330) default (K1 P))) ::
  (nat_lit 332, .mk .none none (.fields #[]) #[]) ::
  (nat_lit 335, cdOf (lk (nat_lit 337) default (K1 P))) ::
  (nat_lit 339, .mk .none none (.fields #[]) #[]) ::
  (nat_lit 342, cdOf (lk (nat_lit 344) default (K1 P))) ::
  (nat_lit 346, .mk .none none (.fields #[]) #[]) ::
  (nat_lit 349, cdOf (lk (nat_lit 351) default (K1 P))) ::
  (nat_lit 353, .mk .none none (.fields #[]) #[]) ::
  (nat_lit 356, cdOf (lk (nat_lit 358) default (K1 P))) ::
  (nat_lit 360, .mk .none none (.fields #[]) #[]) ::
  (nat_lit 363, cdOf (lk (nat_lit 365) default (K1 P))) ::
  (nat_lit 367, .mk .none none (.fields #[]) #[]) ::
  (nat_lit 370, cdOf (lk (nat_lit 372) default (K1 P))) ::
  (nat_lit 374, .mk .none none (.fields #[]) #[]) ::
  (nat_lit 377, cdOf (lk (nat_lit 379) default (K1 P))) ::
  (nat_lit 381, .mk .none none (.fields #[]) #[]) ::
  (nat_lit 384, cdOf (lk (nat_lit 386) default (K1 P))) ::
  (nat_lit 388, .mk .none none (.fields #[]) #[]) ::
  (nat_lit 391, cdOf (lk (nat_lit 393) default (K1 P))) ::
  (nat_lit 395, .mk .none none (.fields #[]) #[]) ::
  (nat_lit 398, cdOf (lk (nat_lit 400) default (K1 P))) ::
  (nat_lit 402, .mk .none none (.fields #[]) #[]) ::
  (nat_lit 405, cdOf (lk (nat_lit 407) default (K1 P))) ::
  (nat_lit 409, .mk .none none (.fields #[]) #[]) ::
  (nat_lit 412, cdOf (lk (nat_lit 414) default (K1 P))) ::
  (nat_lit 416, .mk .none none (.fields #[]) #[]) ::
  (nat_lit 419, cdOf (lk (nat_lit 421) default (K1 P))) ::
  (nat_lit 423, .mk .none none (.fields #[]) #[]) ::
  (nat_lit 426, cdOf (lk (nat_lit 428) default (K1 P))) ::
  (nat_lit 433, .mk .none none (.fields #[]) #[]) ::
  (nat_lit 436, cdOf (lk (nat_lit 438) default (K1 P))) ::
  (nat_lit 443, .mk .none none (.fields #[]) #[]) ::
  (nat_lit 446, cdOf (lk (nat_lit 448) default (K1 P))) ::
  (nat_lit 453, .mk .none none (.fields #[]) #[]) ::
  (nat_lit 456, cdOf (lk (nat_lit 458) default (K1 P))) ::
  (nat_lit 463, .mk .none none (.fields #[]) #[]) ::
  (nat_lit 466, cdOf (lk (nat_lit 468) default (K1 P))) ::
  (nat_lit 473, .mk .none none (.fields #[]) #[]) ::
  (nat_lit 476, cdOf (lk (nat_lit 478) default (K1 P))) ::
  (nat_lit 480, .mk .none none (.fields #[]) #[]) ::
  (nat_lit 483, cdOf (lk (nat_lit 485) default (K1 P))) ::
  (nat_lit 487, .mk .none none (.fields #[]) #[]) ::
  (nat_lit 490, cdOf (lk (nat_lit 492) default (K1 P))) ::
  (nat_lit 494, .mk .none none (.fields #[]) #[]) ::
  (nat_lit 497, cdOf (lk (nat_lit 499) default (K1 P))) ::
  (nat_lit 501, .mk .none none (.fields #[]) #[]) ::
  (nat_lit 504, cdOf (lk (nat_lit 506) default (K1 P))) ::
  (nat_lit 508, .mk .none none (.fields #[]) #[]) ::
  (nat_lit 511, cdOf (lk (nat_lit 513) default (K1 P))) ::
  (nat_lit 515, .mk .none none (.fields #[]) #[]) ::
  (nat_lit 518, cdOf (lk (nat_lit 520) default (K1 P))) ::
  (nat_lit 522, .mk .none none (.fields #[]) #[]) ::
  (nat_lit 525, cdOf (lk (nat_lit 527) default (K1 P))) ::
  (nat_lit 529, .mk .none none (.fields #[]) #[]) ::
  (nat_lit 532, cdOf (lk (nat_lit 534) default (K1 P))) ::
  (nat_lit 536, .mk .none none (.fields #[]) #[]) ::
  (nat_lit 539, cdOf (lk (nat_lit 541) default (K1 P))) ::
  (nat_lit 543, .mk .none none (.fields #[]) #[]) ::
  (nat_lit 546, cdOf (lk (nat_lit 548) default (K1 P))) ::
  (nat_lit 550, .mk .none none (.fields #[]) #[]) ::
  (nat_lit 553, cdOf (lk (nat_lit 555) default (K1 P))) ::
  (nat_lit 564, .mk (.type "super") none (.fields #[.ref 561,.ref 561,.ref 561]) #[]) ::
  (nat_lit 565, .mk (.type "builtin_function_or_method") none (.fields #[.builtin "object.__init_subclass__",.ref 561]) #[]) ::
  (nat_lit 567, .mk .none none (.fields #[]) #[]) ::
  (nat_lit 570, cdOf (lk (nat_lit 572) default (K1 P))) ::
  (nat_lit 574, .mk .none none (.fields #[]) #[]) ::
  (nat_lit 577, cdOf (lk (nat_lit 579) default (K1 P))) ::
  (nat_lit 581, .mk .none none (.fields #[]) #[]) ::
  (nat_lit 584, cdOf (lk (nat_lit 586) default (K1 P))) ::
  (nat_lit 588, .mk .none none (.fields #[]) #[]) ::
  (nat_lit 591, cdOf (lk (nat_lit 593) default (K1 P))) ::
  (nat_lit 595, .mk .none none (.fields #[]) #[]) ::
  (nat_lit 598, cdOf (lk (nat_lit 600) default (K1 P))) ::
  (nat_lit 602, .mk .none none (.fields #[]) #[]) ::
  (nat_lit 605, cdOf (lk (nat_lit 607) default (K1 P))) ::
  (nat_lit 609, .mk .none none (.fields #[]) #[]) ::
  (nat_lit 612, cdOf (lk (nat_lit 614) default (K1 P))) ::
  (nat_lit 616, .mk .none none (.fields #[]) #[]) ::
  (nat_lit 619, cdOf (lk (nat_lit 621) default (K1 P))) ::
  (nat_lit 623, .mk .none none (.fields #[]) #[]) ::
  (nat_lit 626, cdOf (lk (nat_lit 628) default (K1 P))) ::
  (nat_lit 630, .mk .none none (.fields #[]) #[]) ::
  (nat_lit 633, cdOf (lk (nat_lit 635) default (K1 P))) ::
  (nat_lit 637, .mk .none none (.fields #[]) #[]) ::
  (nat_lit 640, cdOf (lk (nat_lit 642) default (K1 P))) ::
  (nat_lit 644, .mk .none none (.fields #[]) #[]) ::
  (nat_lit 647, cdOf (lk (nat_lit 649) default (K1 P))) ::
  (nat_lit 651, .mk .none none (.fields #[]) #[]) ::
  (nat_lit 652, cdOf (lk (nat_lit 654) default (K1 P))) ::
  [] : List (Nat × Obj))
noncomputable def ob1 (P : Params) (a : Nat) : Obj := lk a (lk a default (X1 P)) (K1 P)
noncomputable def ht1 (P : Params) : Heap := Heap.mk (Array.mk (boot_o_0 P :: boot_o_1 P :: boot_o_2 P :: ob1 P (nat_lit 3) :: boot_o_4 P :: boot_o_5 P :: boot_o_6 P :: boot_o_7 P :: boot_o_8 P :: boot_o_9 P :: boot_o_10 P :: ob1 P (nat_lit 11) :: ob1 P (nat_lit 12) :: ob1 P (nat_lit 13) :: ob1 P (nat_lit 14) :: ob1 P (nat_lit 15) :: ob1 P (nat_lit 16) :: ob1 P (nat_lit 17) :: ob1 P (nat_lit 18) :: ob1 P (nat_lit 19) :: ob1 P (nat_lit 20) :: ob1 P (nat_lit 21) :: ob1 P (nat_lit 22) :: ob1 P (nat_lit 23) :: ob1 P (nat_lit 24) :: ob1 P (nat_lit 25) :: ob1 P (nat_lit 26) :: ob1 P (nat_lit 27) :: ob1 P (nat_lit 28) :: ob1 P (nat_lit 29) :: ob1 P (nat_lit 30) :: ob1 P (nat_lit 31) :: ob1 P (nat_lit 32) :: ob1 P (nat_lit 33) :: ob1 P (nat_lit 34) :: ob1 P (nat_lit 35) :: ob1 P (nat_lit 36) :: ob1 P (nat_lit 37) :: ob1 P (nat_lit 38) :: ob1 P (nat_lit 39) :: ob1 P (nat_lit 40) :: ob1 P (nat_lit 41) :: ob1 P (nat_lit 42) :: ob1 P (nat_lit 43) :: ob1 P (nat_lit 44) :: ob1 P (nat_lit 45) :: ob1 P (nat_lit 46) :: ob1 P (nat_lit 47) :: ob1 P (nat_lit 48) :: ob1 P (nat_lit 49) :: ob1 P (nat_lit 50) :: ob1 P (nat_lit 51) :: ob1 P (nat_lit 52) :: ob1 P (nat_lit 53) :: ob1 P (nat_lit 54) :: ob1 P (nat_lit 55) :: ob1 P (nat_lit 56) :: ob1 P (nat_lit 57) :: ob1 P (nat_lit 58) :: ob1 P (nat_lit 59) :: ob1 P (nat_lit 60) :: ob1 P (nat_lit 61) :: ob1 P (nat_lit 62) :: ob1 P (nat_lit 63) :: ob1 P (nat_lit 64) :: ob1 P (nat_lit 65) :: ob1 P (nat_lit 66) :: ob1 P (nat_lit 67) :: ob1 P (nat_lit 68) :: ob1 P (nat_lit 69) :: ob1 P (nat_lit 70) :: ob1 P (nat_lit 71) :: ob1 P (nat_lit 72) :: ob1 P (nat_lit 73) :: ob1 P (nat_lit 74) :: ob1 P (nat_lit 75) :: ob1 P (nat_lit 76) :: ob1 P (nat_lit 77) :: ob1 P (nat_lit 78) :: ob1 P (nat_lit 79) :: ob1 P (nat_lit 80) :: ob1 P (nat_lit 81) :: ob1 P (nat_lit 82) :: ob1 P (nat_lit 83) :: ob1 P (nat_lit 84) :: ob1 P (nat_lit 85) :: ob1 P (nat_lit 86) :: ob1 P (nat_lit 87) :: ob1 P (nat_lit 88) :: ob1 P (nat_lit 89) :: ob1 P (nat_lit 90) :: ob1 P (nat_lit 91) :: ob1 P (nat_lit 92) :: ob1 P (nat_lit 93) :: ob1 P (nat_lit 94) :: ob1 P (nat_lit 95) :: ob1 P (nat_lit 96) :: ob1 P (nat_lit 97) :: ob1 P (nat_lit 98) :: ob1 P (nat_lit 99) :: ob1 P (nat_lit 100) :: ob1 P (nat_lit 101) :: ob1 P (nat_lit 102) :: ob1 P (nat_lit 103) :: ob1 P (nat_lit 104) :: ob1 P (nat_lit 105) :: ob1 P (nat_lit 106) :: ob1 P (nat_lit 107) :: ob1 P (nat_lit 108) :: ob1 P (nat_lit 109) :: ob1 P (nat_lit 110) :: ob1 P (nat_lit 111) :: ob1 P (nat_lit 112) :: ob1 P (nat_lit 113) :: ob1 P (nat_lit 114) :: ob1 P (nat_lit 115) :: ob1 P (nat_lit 116) :: ob1 P (nat_lit 117) :: ob1 P (nat_lit 118) :: ob1 P (nat_lit 119) :: ob1 P (nat_lit 120) :: ob1 P (nat_lit 121) :: ob1 P (nat_lit 122) :: ob1 P (nat_lit 123) :: ob1 P (nat_lit 124) :: ob1 P (nat_lit 125) :: ob1 P (nat_lit 126) :: ob1 P (nat_lit 127) :: ob1 P (nat_lit 128) :: ob1 P (nat_lit 129) :: ob1 P (nat_lit 130) :: ob1 P (nat_lit 131) :: ob1 P (nat_lit 132) :: ob1 P (nat_lit 133) :: ob1 P (nat_lit 134) :: ob1 P (nat_lit 135) :: ob1 P (nat_lit 136) :: ob1 P (nat_lit 137) :: ob1 P (nat_lit 138) :: ob1 P (nat_lit 139) :: ob1 P (nat_lit 140) :: ob1 P (nat_lit 141) :: ob1 P (nat_lit 142) :: ob1 P (nat_lit 143) :: ob1 P (nat_lit 144) :: ob1 P (nat_lit 145) :: ob1 P (nat_lit 146) :: ob1 P (nat_lit 147) :: ob1 P (nat_lit 148) :: ob1 P (nat_lit 149) :: ob1 P (nat_lit 150) :: ob1 P (nat_lit 151) :: ob1 P (nat_lit 152) :: ob1 P (nat_lit 153) :: ob1 P (nat_lit 154) :: ob1 P (nat_lit 155) :: ob1 P (nat_lit 156) :: ob1 P (nat_lit 157) :: ob1 P (nat_lit 158) :: ob1 P (nat_lit 159) :: ob1 P (nat_lit 160) :: ob1 P (nat_lit 161) :: ob1 P (nat_lit 162) :: ob1 P (nat_lit 163) :: ob1 P (nat_lit 164) :: ob1 P (nat_lit 165) :: ob1 P (nat_lit 166) :: ob1 P (nat_lit 167) :: ob1 P (nat_lit 168) :: ob1 P (nat_lit 169) :: ob1 P (nat_lit 170) :: ob1 P (nat_lit 171) :: ob1 P (nat_lit 172) :: ob1 P (nat_lit 173) :: ob1 P (nat_lit 174) :: ob1 P (nat_lit 175) :: ob1 P (nat_lit 176) :: ob1 P (nat_lit 177) :: ob1 P (nat_lit 178) :: ob1 P (nat_lit 179) :: ob1 P (nat_lit 180) :: ob1 P (nat_lit 181) :: ob1 P (nat_lit 182) :: ob1 P (nat_lit 183) :: ob1 P (nat_lit 184) :: ob1 P (nat_lit 185) :: ob1 P (nat_lit 186) :: ob1 P (nat_lit 187) :: ob1 P (nat_lit 188) :: ob1 P (nat_lit 189) :: ob1 P (nat_lit 190) :: ob1 P (nat_lit 191) :: ob1 P (nat_lit 192) :: ob1 P (nat_lit 193) :: ob1 P (nat_lit 194) :: ob1 P (nat_lit 195) :: ob1 P (nat_lit 196) :: ob1 P (nat_lit 197) :: ob1 P (nat_lit 198) :: ob1 P (nat_lit 199) :: ob1 P (nat_lit 200) :: ob1 P (nat_lit 201) :: ob1 P (nat_lit 202) :: ob1 P (nat_lit 203) :: ob1 P (nat_lit 204) :: ob1 P (nat_lit 205) :: ob1 P (nat_lit 206) :: ob1 P (nat_lit 207) :: ob1 P (nat_lit 208) :: ob1 P (nat_lit 209) :: ob1 P (nat_lit 210) :: ob1 P (nat_lit 211) :: ob1 P (nat_lit 212) :: ob1 P (nat_lit 213) :: ob1 P (nat_lit 214) :: ob1 P (nat_lit 215) :: ob1 P (nat_lit 216) :: ob1 P (nat_lit 217) :: ob1 P (nat_lit 218) :: ob1 P (nat_lit 219) :: ob1 P (nat_lit 220) :: ob1 P (nat_lit 221) :: ob1 P (nat_lit 222) :: ob1 P (nat_lit 223) :: ob1 P (nat_lit 224) :: ob1 P (nat_lit 225) :: ob1 P (nat_lit 226) :: ob1 P (nat_lit 227) :: ob1 P (nat_lit 228) :: ob1 P (nat_lit 229) :: ob1 P (nat_lit 230) :: ob1 P (nat_lit 231) :: ob1 P (nat_lit 232) :: ob1 P (nat_lit 233) :: ob1 P (nat_lit 234) :: ob1 P (nat_lit 235) :: ob1 P (nat_lit 236) :: ob1 P (nat_lit 237) :: ob1 P (nat_lit 238) :: ob1 P (nat_lit 239) :: ob1 P (nat_lit 240) :: ob1 P (nat_lit 241) :: ob1 P (nat_lit 242) :: ob1 P (nat_lit 243) :: ob1 P (nat_lit 244) :: ob1 P (nat_lit 245) :: ob1 P (nat_lit 246) :: ob1 P (nat_lit 247) :: ob1 P (nat_lit 248) :: ob1 P (nat_lit 249) :: ob1 P (nat_lit 250) :: ob1 P (nat_lit 251) :: ob1 P (nat_lit 252) :: ob1 P (nat_lit 253) :: ob1 P (nat_lit 254) :: ob1 P (nat_lit 255) :: ob1 P (nat_lit 256) :: ob1 P (nat_lit 257) :: ob1 P (nat_lit 258) :: ob1 P (nat_lit 259) :: ob1 P (nat_lit 260) :: ob1 P (nat_lit 261) :: ob1 P (nat_lit 262) :: ob1 P (nat_lit 263) :: ob1 P (nat_lit 264) :: ob1 P (nat_lit 265) :: ob1 P (nat_lit 266) :: ob1 P (nat_lit 267) :: ob1 P (nat_lit 268) :: ob1 P (nat_lit 269) :: ob1 P (nat_lit 270) :: ob1 P (nat_lit 271) :: ob1 P (nat_lit 272) :: ob1 P (nat_lit 273) :: ob1 P (nat_lit 274) :: ob1 P (nat_lit 275) :: ob1 P (nat_lit 276) :: ob1 P (nat_lit 277) :: ob1 P (nat_lit 278) :: ob1 P (nat_lit 279) :: ob1 P (nat_lit 280) :: ob1 P (nat_lit 281) :: ob1 P (nat_lit 282) :: ob1 P (nat_lit 283) :: ob1 P (nat_lit 284) :: ob1 P (nat_lit 285) :: ob1 P (nat_lit 286) :: ob1 P (nat_lit 287) :: ob1 P (nat_lit 288) :: ob1 P (nat_lit 289) :: ob1 P (nat_lit 290) :: ob1 P (nat_lit 291) :: ob1 P (nat_lit 292) :: ob1 P (nat_lit 293) :: ob1 P (nat_lit 294) :: ob1 P (nat_lit 295) :: ob1 P (nat_lit 296) :: ob1 P (nat_lit 297) :: ob1 P (nat_lit 298) :: ob1 P (nat_lit 299) :: ob1 P (nat_lit 300) :: ob1 P (nat_lit 301) :: ob1 P (nat_lit 302) :: ob1 P (nat_lit 303) :: ob1 P (nat_lit 304) :: ob1 P (nat_lit 305) :: ob1 P (nat_lit 306) :: ob1 P (nat_lit 307) :: ob1 P (nat_lit 308) :: ob1 P (nat_lit 309) :: ob1 P (nat_lit 310) :: ob1 P (nat_lit 311) :: ob1 P (nat_lit 312) :: ob1 P (nat_lit 313) :: ob1 P (nat_lit 314) :: ob1 P (nat_lit 315) :: ob1 P (nat_lit 316) :: ob1 P (nat_lit 317) :: ob1 P (nat_lit 318) :: ob1 P (nat_lit 319) :: ob1 P (nat_lit 320) :: ob1 P (nat_lit 321) :: ob1 P (nat_lit 322) :: ob1 P (nat_lit 323) :: ob1 P (nat_lit 324) :: ob1 P (nat_lit 325) :: ob1 P (nat_lit 326) :: ob1 P (nat_lit 327) :: ob1 P (nat_lit 328) :: ob1 P (nat_lit 329) :: ob1 P (nat_lit 330) :: ob1 P (nat_lit 331) :: ob1 P (nat_lit 332) :: ob1 P (nat_lit 333) :: ob1 P (nat_lit 334) :: ob1 P (nat_lit 335) :: ob1 P (nat_lit 336) :: ob1 P (nat_lit 337) :: ob1 P (nat_lit 338) :: ob1 P (nat_lit 339) :: ob1 P (nat_lit 340) :: ob1 P (nat_lit 341) :: ob1 P (nat_lit 342) :: ob1 P (nat_lit 343) :: ob1 P (nat_lit 344) :: ob1 P (nat_lit 345) :: ob1 P (nat_lit 346) :: ob1 P (nat_lit 347) :: ob1 P (nat_lit 348) :: ob1 P (nat_lit 349) :: ob1 P (nat_lit 350) :: ob1 P (nat_lit 351) :: ob1 P (nat_lit 352) :: ob1 P (nat_lit 353) :: ob1 P (nat_lit 354) :: ob1 P (nat_lit 355) :: ob1 P (nat_lit 356) :: ob1 P (nat_lit 357) :: ob1 P (nat_lit 358) :: ob1 P (nat_lit 359) :: ob1 P (nat_lit 360) :: ob1 P (nat_lit 361) :: ob1 P (nat_lit 362) :: ob1 P (nat_lit 363) :: ob1 P (nat_lit 364) :: ob1 P (nat_lit 365) :: ob1 P (nat_lit 366) :: ob1 P (nat_lit 367) :: ob1 P (nat_lit 368) :: ob1 P (nat_lit 369) :: ob1 P (nat_lit 370) :: ob1 P (nat_lit 371) :: ob1 P (nat_lit 372) :: ob1 P (nat_lit 373) :: ob1 P (nat_lit 374) :: ob1 P (nat_lit 375) :: ob1 P (nat_lit 376) :: ob1 P (nat_lit 377) :: ob1 P (nat_lit 378) :: ob1 P (nat_lit 379) :: ob1 P (nat_lit 380) :: ob1 P (nat_lit 381) :: ob1 P (nat_lit 382) :: ob1 P (nat_lit 383) :: ob1 P (nat_lit 384) :: ob1 P (nat_lit 385) :: ob1 P (nat_lit 386) :: ob1 P (nat_lit 387) :: ob1 P (nat_lit 388) :: ob1 P (nat_lit 389) :: ob1 P (nat_lit 390) :: ob1 P (nat_lit 391) :: ob1 P (nat_lit 392) :: ob1 P (nat_lit 393) :: ob1 P (nat_lit 394) :: ob1 P (nat_lit 395) :: ob1 P (nat_lit 396) :: ob1 P (nat_lit 397) :: ob1 P (nat_lit 398) :: ob1 P (nat_lit 399) :: ob1 P (nat_lit 400) :: ob1 P (nat_lit 401) :: ob1 P (nat_lit 402) :: ob1 P (nat_lit 403) :: ob1 P (nat_lit 404) :: ob1 P (nat_lit 405) :: ob1 P (nat_lit 406) :: ob1 P (nat_lit 407) :: ob1 P (nat_lit 408) :: ob1 P (nat_lit 409) :: ob1 P (nat_lit 410) :: ob1 P (nat_lit 411) :: ob1 P (nat_lit 412) :: ob1 P (nat_lit 413) :: ob1 P (nat_lit 414) :: ob1 P (nat_lit 415) :: ob1 P (nat_lit 416) :: ob1 P (nat_lit 417) :: ob1 P (nat_lit 418) :: ob1 P (nat_lit 419) :: ob1 P (nat_lit 420) :: ob1 P (nat_lit 421) :: ob1 P (nat_lit 422) :: ob1 P (nat_lit 423) :: ob1 P (nat_lit 424) :: ob1 P (nat_lit 425) :: ob1 P (nat_lit 426) :: ob1 P (nat_lit 427) :: ob1 P (nat_lit 428) :: ob1 P (nat_lit 429) :: ob1 P (nat_lit 430) :: ob1 P (nat_lit 431) :: ob1 P (nat_lit 432) :: ob1 P (nat_lit 433) :: ob1 P (nat_lit 434) :: ob1 P (nat_lit 435) :: ob1 P (nat_lit 436) :: ob1 P (nat_lit 437) :: ob1 P (nat_lit 438) :: ob1 P (nat_lit 439) :: ob1 P (nat_lit 440) :: ob1 P (nat_lit 441) :: ob1 P (nat_lit 442) :: ob1 P (nat_lit 443) :: ob1 P (nat_lit 444) :: ob1 P (nat_lit 445) :: ob1 P (nat_lit 446) :: ob1 P (nat_lit 447) :: ob1 P (nat_lit 448) :: ob1 P (nat_lit 449) :: ob1 P (nat_lit 450) :: ob1 P (nat_lit 451) :: ob1 P (nat_lit 452) :: ob1 P (nat_lit 453) :: ob1 P (nat_lit 454) :: ob1 P (nat_lit 455) :: ob1 P (nat_lit 456) :: ob1 P (nat_lit 457) :: ob1 P (nat_lit 458) :: ob1 P (nat_lit 459) :: ob1 P (nat_lit 460) :: ob1 P (nat_lit 461) :: ob1 P (nat_lit 462) :: ob1 P (nat_lit 463) :: ob1 P (nat_lit 464) :: ob1 P (nat_lit 465) :: ob1 P (nat_lit 466) :: ob1 P (nat_lit 467) :: ob1 P (nat_lit 468) :: ob1 P (nat_lit 469) :: ob1 P (nat_lit 470) :: ob1 P (nat_lit 471) :: ob1 P (nat_lit 472) :: ob1 P (nat_lit 473) :: ob1 P (nat_lit 474) :: ob1 P (nat_lit 475) :: ob1 P (nat_lit 476) :: ob1 P (nat_lit 477) :: ob1 P (nat_lit 478) :: ob1 P (nat_lit 479) :: ob1 P (nat_lit 480) :: ob1 P (nat_lit 481) :: ob1 P (nat_lit 482) :: ob1 P (nat_lit 483) :: ob1 P (nat_lit 484) :: ob1 P (nat_lit 485) :: ob1 P (nat_lit 486) :: ob1 P (nat_lit 487) :: ob1 P (nat_lit 488) :: ob1 P (nat_lit 489) :: ob1 P (nat_lit 490) :: ob1 P (nat_lit 491) :: ob1 P (nat_lit 492) :: ob1 P (nat_lit 493) :: ob1 P (nat_lit 494) :: ob1 P (nat_lit 495) :: ob1 P (nat_lit 496) :: ob1 P (nat_lit 497) :: ob1 P (nat_lit 498) :: ob1 P (nat_lit 499) :: ob1 P (nat_lit 500) :: ob1 P (nat_lit 501) :: ob1 P (nat_lit 502) :: ob1 P (nat_lit 503) :: ob1 P (nat_lit 504) :: ob1 P (nat_lit 505) :: ob1 P (nat_lit 506) :: ob1 P (nat_lit 507) :: ob1 P (nat_lit 508) :: ob1 P (nat_lit 509) :: ob1 P (nat_lit 510) :: ob1 P (nat_lit 511) :: ob1 P (nat_lit 512) :: ob1 P (nat_lit 513) :: ob1 P (nat_lit 514) :: ob1 P (nat_lit 515) :: ob1 P (nat_lit 516) :: ob1 P (nat_lit 517) :: ob1 P (nat_lit 518) :: ob1 P (nat_lit 519) :: ob1 P (nat_lit 520) :: ob1 P (nat_lit 521) :: ob1 P (nat_lit 522) :: ob1 P (nat_lit 523) :: ob1 P (nat_lit 524) :: ob1 P (nat_lit 525) :: ob1 P (nat_lit 526) :: ob1 P (nat_lit 527) :: ob1 P (nat_lit 528) :: ob1 P (nat_lit 529) :: ob1 P (nat_lit 530) :: ob1 P (nat_lit 531) :: ob1 P (nat_lit 532) :: ob1 P (nat_lit 533) :: ob1 P (nat_lit 534) :: ob1 P (nat_lit 535) :: ob1 P (nat_lit 536) :: ob1 P (nat_lit 537) :: ob1 P (nat_lit 538) :: ob1 P (nat_lit 539) :: ob1 P (nat_lit 540) :: ob1 P (nat_lit 541) :: ob1 P (nat_lit 542) :: ob1 P (nat_lit 543) :: ob1 P (nat_lit 544) :: ob1 P (nat_lit 545) :: ob1 P (nat_lit 546) :: ob1 P (nat_lit 547) :: ob1 P (nat_lit 548) :: ob1 P (nat_lit 549) :: ob1 P (nat_lit 550) :: ob1 P (nat_lit 551) :: ob1 P (nat_lit 552) :: ob1 P (nat_lit 553) :: ob1 P (nat_lit 554) :: ob1 P (nat_lit 555) :: ob1 P (nat_lit 556) :: ob1 P (nat_lit 557) :: ob1 P (nat_lit 558) :: ob1 P (nat_lit 559) :: ob1 P (nat_lit 560) :: ob1 P (nat_lit 561) :: ob1 P (nat_lit 562) :: ob1 P (nat_lit 563) :: ob1 P (nat_lit 564) :: ob1 P (nat_lit 565) :: ob1 P (nat_lit 566) :: ob1 P (nat_lit 567) :: ob1 P (nat_lit 568) :: ob1 P (nat_lit 569) :: ob1 P (nat_lit 570) :: ob1 P (nat_lit 571) :: ob1 P (nat_lit 572) :: ob1 P (nat_lit 573) :: ob1 P (nat_lit 574) :: ob1 P (nat_lit 575) :: ob1 P (nat_lit 576) :: ob1 P (nat_lit 577) :: ob1 P (nat_lit 578) :: ob1 P (nat_lit 579) :: ob1 P (nat_lit 580) :: ob1 P (nat_lit 581) :: ob1 P (nat_lit 582) :: ob1 P (nat_lit 583) :: ob1 P (nat_lit 584) :: ob1 P (nat_lit 585) :: ob1 P (nat_lit 586) :: ob1 P (nat_lit 587) :: ob1 P (nat_lit 588) :: ob1 P (nat_lit 589) :: ob1 P (nat_lit 590) :: ob1 P (nat_lit 591) :: ob1 P (nat_lit 592) :: ob1 P (nat_lit 593) :: ob1 P (nat_lit 594) :: ob1 P (nat_lit 595) :: ob1 P (nat_lit 596) :: ob1 P (nat_lit 597) :: ob1 P (nat_lit 598) :: ob1 P (nat_lit 599) :: ob1 P (nat_lit 600) :: ob1 P (nat_lit 601) :: ob1 P (nat_lit 602) :: ob1 P (nat_lit 603) :: ob1 P (nat_lit 604) :: ob1 P (nat_lit 605) :: ob1 P (nat_lit 606) :: ob1 P (nat_lit 607) :: ob1 P (nat_lit 608) :: ob1 P (nat_lit 609) :: ob1 P (nat_lit 610) :: ob1 P (nat_lit 611) :: ob1 P (nat_lit 612) :: ob1 P (nat_lit 613) :: ob1 P (nat_lit 614) :: ob1 P (nat_lit 615) :: ob1 P (nat_lit 616) :: ob1 P (nat_lit 617) :: ob1 P (nat_lit 618) :: ob1 P (nat_lit 619) :: ob1 P (nat_lit 620) :: ob1 P (nat_lit 621) :: ob1 P (nat_lit 622) :: ob1 P (nat_lit 623) :: ob1 P (nat_lit 624) :: ob1 P (nat_lit 625) :: ob1 P (nat_lit 626) :: ob1 P (nat_lit 627) :: ob1 P (nat_lit 628) :: ob1 P (nat_lit 629) :: ob1 P (nat_lit 630) :: ob1 P (nat_lit 631) :: ob1 P (nat_lit 632) :: ob1 P (nat_lit 633) :: ob1 P (nat_lit 634) :: ob1 P (nat_lit 635) :: ob1 P (nat_lit 636) :: ob1 P (nat_lit 637) :: ob1 P (nat_lit 638) :: ob1 P (nat_lit 639) :: ob1 P (nat_lit 640) :: ob1 P (nat_lit 641) :: ob1 P (nat_lit 642) :: ob1 P (nat_lit 643) :: ob1 P (nat_lit 644) :: ob1 P (nat_lit 645) :: ob1 P (nat_lit 646) :: ob1 P (nat_lit 647) :: ob1 P (nat_lit 648) :: ob1 P (nat_lit 649) :: ob1 P (nat_lit 650) :: ob1 P (nat_lit 651) :: ob1 P (nat_lit 652) :: ob1 P (nat_lit 653) :: ob1 P (nat_lit 654) :: [])) (Life.mk [] [] [] 0 [] [] Bool.false #[] [] 0 Bool.false Bool.false Bool.false 0 [2000, 10, 10] Bool.false 0 Bool.true [] [] 0 Bool.false)
noncomputable def tr1 (P : Params) : BT := .node (boot_o_0 P) (.node (boot_o_1 P) (.node (ob1 P (nat_lit 3)) (.node (boot_o_7 P) (.node (ob1 P (nat_lit 15)) (.node (ob1 P (nat_lit 31)) (.node (ob1 P (nat_lit 63)) (.node (ob1 P (nat_lit 127)) (.node (ob1 P (nat_lit 255)) (.node (ob1 P (nat_lit 511)) .nil .nil) .nil) (.node (ob1 P (nat_lit 383)) (.node (ob1 P (nat_lit 639)) .nil .nil) .nil)) (.node (ob1 P (nat_lit 191)) (.node (ob1 P (nat_lit 319)) (.node (ob1 P (nat_lit 575)) .nil .nil) .nil) (.node (ob1 P (nat_lit 447)) .nil .nil))) (.node (ob1 P (nat_lit 95)) (.node (ob1 P (nat_lit 159)) (.node (ob1 P (nat_lit 287)) (.node (ob1 P (nat_lit 543)) .nil .nil) .nil) (.node (ob1 P (nat_lit 415)) .nil .nil)) (.node (ob1 P (nat_lit 223)) (.node (ob1 P (nat_lit 351)) (.node (ob1 P (nat_lit 607)) .nil .nil) .nil) (.node (ob1 P (nat_lit 479)) .nil .nil)))) (.node (ob1 P (nat_lit 47)) (.node (ob1 P (nat_lit 79)) (.node (ob1 P (nat_lit 143)) (.node (ob1 P (nat_lit 271)) (.node (ob1 P (nat_lit 527)) .nil .nil) .nil) (.node (ob1 P (nat_lit 399)) .nil .nil)) (.node (ob1 P (nat_lit 207)) (.node (ob1 P (nat_lit 335)) (.node (ob1 P (nat_lit 591)) .nil .nil) .nil) (.node (ob1 P (nat_lit 463)) .nil .nil))) (.node (ob1 P (nat_lit 111)) (.node (ob1 P (nat_lit 175)) (.node (ob1 P (nat_lit 303)) (.node (ob1 P (nat_lit 559)) .nil .nil) .nil) (.node (ob1 P (nat_lit 431)) .nil .nil)) (.node (ob1 P (nat_lit 239)) (.node (ob1 P (nat_lit 367)) (.node (ob1 P (nat_lit 623)) .nil .nil) .nil) (.node (ob1 P (nat_lit 495)) .nil .nil))))) (.node (ob1 P (nat_lit 23)) (.node (ob1 P (nat_lit 39)) (.node (ob1 P (nat_lit 71)) (.node (ob1 P (nat_lit 135)) (.node (ob1 P (nat_lit 263)) (.node (ob1 P (nat_lit 519)) .nil .nil) .nil) (.node (ob1 P (nat_lit 391)) (.node (ob1 P (nat_lit 647)) .nil .nil) .nil)) (.node (ob1 P (nat_lit 199)) (.node (ob1 P (nat_lit 327)) (.node (ob1 P (nat_lit 583)) .nil .nil) .nil) (.node (ob1 P (nat_lit 455)) .nil .nil))) (.node (ob1 P (nat_lit 103)) (.node (ob1 P (nat_lit 167)) (.node (ob1 P (nat_lit 295)) (.node (ob1 P (nat_lit 551)) .nil .nil) .nil) (.node (ob1 P (nat_lit 423)) .nil .nil)) (.node (ob1 P (nat_lit 231)) (.node (ob1 P (nat_lit 359)) (.node (ob1 P (nat_lit 615)) .nil .nil) .nil) (.node (ob1 P (nat_lit 487)) .nil .nil)))) (.node (ob1 P (nat_lit 55)) (.node (ob1 P (nat_lit 87)) (.node (ob1 P (nat_lit 151)) (.node (ob1 P (nat_lit 279)) (.node (ob1 P (nat_lit 535)) .nil .nil) .nil) (.node (ob1 P (nat_lit 407)) .nil .nil)) (.node (ob1 P (nat_lit 215)) (.node (ob1 P (nat_lit 343)) (.node (ob1 P (nat_lit 599)) .nil .nil) .nil) (.node (ob1 P (nat_lit 471)) .nil .nil))) (.node (ob1 P (nat_lit 119)) (.node (ob1 P (nat_lit 183)) (.node (ob1 P (nat_lit 311)) (.node (ob1 P (nat_lit 567)) .nil .nil) .nil) (.node (ob1 P (nat_lit 439)) .nil .nil)) (.node (ob1 P (nat_lit 247)) (.node (ob1 P (nat_lit 375)) (.node (ob1 P (nat_lit 631)) .nil .nil) .nil) (.node (ob1 P (nat_lit 503)) .nil .nil)))))) (.node (ob1 P (nat_lit 11)) (.node (ob1 P (nat_lit 19)) (.node (ob1 P (nat_lit 35)) (.node (ob1 P (nat_lit 67)) (.node (ob1 P (nat_lit 131)) (.node (ob1 P (nat_lit 259)) (.node (ob1 P (nat_lit 515)) .nil .nil) .nil) (.node (ob1 P (nat_lit 387)) (.node (ob1 P (nat_lit 643)) .nil .nil) .nil)) (.node (ob1 P (nat_lit 195)) (.node (ob1 P (nat_lit 323)) (.node (ob1 P (nat_lit 579)) .nil .nil) .nil) (.node (ob1 P (nat_lit 451)) .nil .nil))) (.node (ob1 P (nat_lit 99)) (.node (ob1 P (nat_lit 163)) (.node (ob1 P (nat_lit 291)) (.node (ob1 P (nat_lit 547)) .nil .nil) .nil) (.node (ob1 P (nat_lit 419)) .nil .nil)) (.node (ob1 P (nat_lit 227)) (.node (ob1 P (nat_lit 355)) (.node (ob1 P (nat_lit 611)) .nil .nil) .nil) (.node (ob1 P (nat_lit 483)) .nil .nil)))) (.node (ob1 P (nat_lit 51)) (.node (ob1 P (nat_lit 83)) (.node (ob1 P (nat_lit 147)) (.node (ob1 P (nat_lit 275)) (.node (ob1 P (nat_lit 531)) .nil .nil) .nil) (.node (ob1 P (nat_lit 403)) .nil .nil)) (.node (ob1 P (nat_lit 211)) (.node (ob1 P (nat_lit 339)) (.node (ob1 P (nat_lit 595)) .nil .nil) .nil) (.node (ob1 P (nat_lit 467)) .nil .nil))) (.node (ob1 P (nat_lit 115)) (.node (ob1 P (nat_lit 179)) (.node (ob1 P (nat_lit 307)) (.node (ob1 P (nat_lit 563)) .nil .nil) .nil) (.node (ob1 P (nat_lit 435)) .nil .nil)) (.node (ob1 P (nat_lit 243)) (.node (ob1 P (nat_lit 371)) (.node (ob1 P (nat_lit 627)) .nil .nil) .nil) (.node (ob1 P (nat_lit 499)) .nil .nil))))) (.node (ob1 P (nat_lit 27)) (.node (ob1 P (nat_lit 43)) (.node (ob1 P (nat_lit 75)) (.node (ob1 P (nat_lit 139)) (.node (ob1 P (nat_lit 267)) (.node (ob1 P (nat_lit 523)) .nil .nil) .nil) (.node (ob1 P (nat_lit 395)) (.node (ob1 P (nat_lit 651)) .nil .nil) .nil)) (.node (ob1 P (nat_lit 203)) (.node (ob1 P (nat_lit 331)) (.node (ob1 P (nat_lit 587)) .nil .nil) .nil) (.node (ob1 P (nat_lit 459)) .nil .nil))) (.node (ob1 P (nat_lit 107)) (.node (ob1 P (nat_lit 171)) (.node (ob1 P (nat_lit 299)) (.node (ob1 P (nat_lit 555)) .nil .nil) .nil) (.node (ob1 P (nat_lit 427)) .nil .nil)) (.node (ob1 P (nat_lit 235)) (.node (ob1 P (nat_lit 363)) (.node (ob1 P (nat_lit 619)) .nil .nil) .nil) (.node (ob1 P (nat_lit 491)) .nil .nil)))) (.node (ob1 P (nat_lit 59)) (.node (ob1 P (nat_lit 91)) (.node (ob1 P (nat_lit 155)) (.node (ob1 P (nat_lit 283)) (.node (ob1 P (nat_lit 539)) .nil .nil) .nil) (.node (ob1 P (nat_lit 411)) .nil .nil)) (.node (ob1 P (nat_lit 219)) (.node (ob1 P (nat_lit 347)) (.node (ob1 P (nat_lit 603)) .nil .nil) .nil) (.node (ob1 P (nat_lit 475)) .nil .nil))) (.node (ob1 P (nat_lit 123)) (.node (ob1 P (nat_lit 187)) (.node (ob1 P (nat_lit 315)) (.node (ob1 P (nat_lit 571)) .nil .nil) .nil) (.node (ob1 P (nat_lit 443)) .nil .nil)) (.node (ob1 P (nat_lit 251)) (.node (ob1 P (nat_lit 379)) (.node (ob1 P (nat_lit 635)) .nil .nil) .nil) (.node (ob1 P (nat_lit 507)) .nil .nil))))))) (.node (boot_o_5 P) (.node (boot_o_9 P) (.node (ob1 P (nat_lit 17)) (.node (ob1 P (nat_lit 33)) (.node (ob1 P (nat_lit 65)) (.node (ob1 P (nat_lit 129)) (.node (ob1 P (nat_lit 257)) (.node (ob1 P (nat_lit 513)) .nil .nil) .nil) (.node (ob1 P (nat_lit 385)) (.node (ob1 P (nat_lit 641)) .nil .nil) .nil)) (.node (ob1 P (nat_lit 193)) (.node (ob1 P (nat_lit 321)) (.node (ob1 P (nat_lit 577)) .nil .nil) .nil) (.node (ob1 P (nat_lit 449)) .nil .nil))) (.node (ob1 P (nat_lit 97)) (.node (ob1 P (nat_lit 161)) (.node (ob1 P (nat_lit 289)) (.node (ob1 P (nat_lit 545)) .nil .nil) .nil) (.node (ob1 P (nat_lit 417)) .nil .nil)) (.node (ob1 P (nat_lit 225)) (.node (ob1 P (nat_lit 353)) (.node (ob1 P (nat_lit 609)) .nil .nil) .nil) (.node (ob1 P (nat_lit 481)) .nil .nil)))) (.node (ob1 P (nat_lit 49)) (.node (ob1 P (nat_lit 81)) (.node (ob1 P (nat_lit 145)) (.node (ob1 P (nat_lit 273)) (.node (ob1 P (nat_lit 529)) .nil .nil) .nil) (.node (ob1 P (nat_lit 401)) .nil .nil)) (.node (ob1 P (nat_lit 209)) (.node (ob1 P (nat_lit 337)) (.node (ob1 P (nat_lit 593)) .nil .nil) .nil) (.node (ob1 P (nat_lit 465)) .nil .nil))) (.node (ob1 P (nat_lit 113)) (.node (ob1 P (nat_lit 177)) (.node (ob1 P (nat_lit 305)) (.node (ob1 P (nat_lit 561)) .nil .nil) .nil) (.node (ob1 P (nat_lit 433)) .nil .nil)) (.node (ob1 P (nat_lit 241)) (.node (ob1 P (nat_lit 369)) (.node (ob1 P (nat_lit 625)) .nil .nil) .nil) (.node (ob1 P (nat_lit 497)) .nil .nil))))) (.node (ob1 P (nat_lit 25)) (.node (ob1 P (nat_lit 41)) (.node (ob1 P (nat_lit 73)) (.node (ob1 P (nat_lit 137)) (.node (ob1 P (nat_lit 265)) (.node (ob1 P (nat_lit 521)) .nil .nil) .nil) (.node (ob1 P (nat_lit 393)) (.node (ob1 P (nat_lit 649)) .nil .nil) .nil)) (.node (ob1 P (nat_lit 201)) (.node (ob1 P (nat_lit 329)) (.node (ob1 P (nat_lit 585)) .nil .nil) .nil) (.node (ob1 P (nat_lit 457)) .nil .nil))) (.node (ob1 P (nat_lit 105)) (.node (ob1 P (nat_lit 169)) (.node (ob1 P (nat_lit 297)) (.node (ob1 P (nat_lit 553)) .nil .nil) .nil) (.node (ob1 P (nat_lit 425)) .nil .nil)) (.node (ob1 P (nat_lit 233)) (.node (ob1 P (nat_lit 361)) (.node (ob1 P (nat_lit 617)) .nil .nil) .nil) (.node (ob1 P (nat_lit 489)) .nil .nil)))) (.node (ob1 P (nat_lit 57)) (.node (ob1 P (nat_lit 89)) (.node (ob1 P (nat_lit 153)) (.node (ob1 P (nat_lit 281)) (.node (ob1 P (nat_lit 537)) .nil .nil) .nil) (.node (ob1 P (nat_lit 409)) .nil .nil)) (.node (ob1 P (nat_lit 217)) (.node (ob1 P (nat_lit 345)) (.node (ob1 P (nat_lit 601)) .nil .nil) .nil) (.node (ob1 P (nat_lit 473)) .nil .nil))) (.node (ob1 P (nat_lit 121)) (.node (ob1 P (nat_lit 185)) (.node (ob1 P (nat_lit 313)) (.node (ob1 P (nat_lit 569)) .nil .nil) .nil) (.node (ob1 P (nat_lit 441)) .nil .nil)) (.node (ob1 P (nat_lit 249)) (.node (ob1 P (nat_lit 377)) (.node (ob1 P (nat_lit 633)) .nil .nil) .nil) (.node (ob1 P (nat_lit 505)) .nil .nil)))))) (.node (ob1 P (nat_lit 13)) (.node (ob1 P (nat_lit 21)) (.node (ob1 P (nat_lit 37)) (.node (ob1 P (nat_lit 69)) (.node (ob1 P (nat_lit 133)) (.node (ob1 P (nat_lit 261)) (.node (ob1 P (nat_lit 517)) .nil .nil) .nil) (.node (ob1 P (nat_lit 389)) (.node (ob1 P (nat_lit 645)) .nil .nil) .nil)) (.node (ob1 P (nat_lit 197)) (.node (ob1 P (nat_lit 325)) (.node (ob1 P (nat_lit 581)) .nil .nil) .nil) (.node (ob1 P (nat_lit 453)) .nil .nil))) (.node (ob1 P (nat_lit 101)) (.node (ob1 P (nat_lit 165)) (.node (ob1 P (nat_lit 293)) (.node (ob1 P (nat_lit 549)) .nil .nil) .nil) (.node (ob1 P (nat_lit 421)) .nil .nil)) (.node (ob1 P (nat_lit 229)) (.node (ob1 P (nat_lit 357)) (.node (ob1 P (nat_lit 613)) .nil .nil) .nil) (.node (ob1 P (nat_lit 485)) .nil .nil)))) (.node (ob1 P (nat_lit 53)) (.node (ob1 P (nat_lit 85)) (.node (ob1 P (nat_lit 149)) (.node (ob1 P (nat_lit 277)) (.node (ob1 P (nat_lit 533)) .nil .nil) .nil) (.node (ob1 P (nat_lit 405)) .nil .nil)) (.node (ob1 P (nat_lit 213)) (.node (ob1 P (nat_lit 341)) (.node (ob1 P (nat_lit 597)) .nil .nil) .nil) (.node (ob1 P (nat_lit 469)) .nil .nil))) (.node (ob1 P (nat_lit 117)) (.node (ob1 P (nat_lit 181)) (.node (ob1 P (nat_lit 309)) (.node (ob1 P (nat_lit 565)) .nil .nil) .nil) (.node (ob1 P (nat_lit 437)) .nil .nil)) (.node (ob1 P (nat_lit 245)) (.node (ob1 P (nat_lit 373)) (.node (ob1 P (nat_lit 629)) .nil .nil) .nil) (.node (ob1 P (nat_lit 501)) .nil .nil))))) (.node (ob1 P (nat_lit 29)) (.node (ob1 P (nat_lit 45)) (.node (ob1 P (nat_lit 77)) (.node (ob1 P (nat_lit 141)) (.node (ob1 P (nat_lit 269)) (.node (ob1 P (nat_lit 525)) .nil .nil) .nil) (.node (ob1 P (nat_lit 397)) (.node (ob1 P (nat_lit 653)) .nil .nil) .nil)) (.node (ob1 P (nat_lit 205)) (.node (ob1 P (nat_lit 333)) (.node (ob1 P (nat_lit 589)) .nil .nil) .nil) (.node (ob1 P (nat_lit 461)) .nil .nil))) (.node (ob1 P (nat_lit 109)) (.node (ob1 P (nat_lit 173)) (.node (ob1 P (nat_lit 301)) (.node (ob1 P (nat_lit 557)) .nil .nil) .nil) (.node (ob1 P (nat_lit 429)) .nil .nil)) (.node (ob1 P (nat_lit 237)) (.node (ob1 P (nat_lit 365)) (.node (ob1 P (nat_lit 621)) .nil .nil) .nil) (.node (ob1 P (nat_lit 493)) .nil .nil)))) (.node (ob1 P (nat_lit 61)) (.node (ob1 P (nat_lit 93)) (.node (ob1 P (nat_lit 157)) (.node (ob1 P (nat_lit 285)) (.node (ob1 P (nat_lit 541)) .nil .nil) .nil) (.node (ob1 P (nat_lit 413)) .nil .nil)) (.node (ob1 P (nat_lit 221)) (.node (ob1 P (nat_lit 349)) (.node (ob1 P (nat_lit 605)) .nil .nil) .nil) (.node (ob1 P (nat_lit 477)) .nil .nil))) (.node (ob1 P (nat_lit 125)) (.node (ob1 P (nat_lit 189)) (.node (ob1 P (nat_lit 317)) (.node (ob1 P (nat_lit 573)) .nil .nil) .nil) (.node (ob1 P (nat_lit 445)) .nil .nil)) (.node (ob1 P (nat_lit 253)) (.node (ob1 P (nat_lit 381)) (.node (ob1 P (nat_lit 637)) .nil .nil) .nil) (.node (ob1 P (nat_lit 509)) .nil .nil)))))))) (.node (boot_o_2 P) (.node (boot_o_4 P) (.node (boot_o_8 P) (.node (ob1 P (nat_lit 16)) (.node (ob1 P (nat_lit 32)) (.node (ob1 P (nat_lit 64)) (.node (ob1 P (nat_lit 128)) (.node (ob1 P (nat_lit 256)) (.node (ob1 P (nat_lit 512)) .nil .nil) .nil) (.node (ob1 P (nat_lit 384)) (.node (ob1 P (nat_lit 640)) .nil .nil) .nil)) (.node (ob1 P (nat_lit 192)) (.node (ob1 P (nat_lit 320)) (.node (ob1 P (nat_lit 576)) .nil .nil) .nil) (.node (ob1 P (nat_lit 448)) .nil .nil))) (.node (ob1 P (nat_lit 96)) (.node (ob1 P (nat_lit 160)) (.node (ob1 P (nat_lit 288)) (.node (ob1 P (nat_lit 544)) .nil .nil) .nil) (.node (ob1 P (nat_lit 416)) .nil .nil)) (.node (ob1 P (nat_lit 224)) (.node (ob1 P (nat_lit 352)) (.node (ob1 P (nat_lit 608)) .nil .nil) .nil) (.node (ob1 P (nat_lit 480)) .nil .nil)))) (.node (ob1 P (nat_lit 48)) (.node (ob1 P (nat_lit 80)) (.node (ob1 P (nat_lit 144)) (.node (ob1 P (nat_lit 272)) (.node (ob1 P (nat_lit 528)) .nil .nil) .nil) (.node (ob1 P (nat_lit 400)) .nil .nil)) (.node (ob1 P (nat_lit 208)) (.node (ob1 P (nat_lit 336)) (.node (ob1 P (nat_lit 592)) .nil .nil) .nil) (.node (ob1 P (nat_lit 464)) .nil .nil))) (.node (ob1 P (nat_lit 112)) (.node (ob1 P (nat_lit 176)) (.node (ob1 P (nat_lit 304)) (.node (ob1 P (nat_lit 560)) .nil .nil) .nil) (.node (ob1 P (nat_lit 432)) .nil .nil)) (.node (ob1 P (nat_lit 240)) (.node (ob1 P (nat_lit 368)) (.node (ob1 P (nat_lit 624)) .nil .nil) .nil) (.node (ob1 P (nat_lit 496)) .nil .nil))))) (.node (ob1 P (nat_lit 24)) (.node (ob1 P (nat_lit 40)) (.node (ob1 P (nat_lit 72)) (.node (ob1 P (nat_lit 136)) (.node (ob1 P (nat_lit 264)) (.node (ob1 P (nat_lit 520)) .nil .nil) .nil) (.node (ob1 P (nat_lit 392)) (.node (ob1 P (nat_lit 648)) .nil .nil) .nil)) (.node (ob1 P (nat_lit 200)) (.node (ob1 P (nat_lit 328)) (.node (ob1 P (nat_lit 584)) .nil .nil) .nil) (.node (ob1 P (nat_lit 456)) .nil .nil))) (.node (ob1 P (nat_lit 104)) (.node (ob1 P (nat_lit 168)) (.node (ob1 P (nat_lit 296)) (.node (ob1 P (nat_lit 552)) .nil .nil) .nil) (.node (ob1 P (nat_lit 424)) .nil .nil)) (.node (ob1 P (nat_lit 232)) (.node (ob1 P (nat_lit 360)) (.node (ob1 P (nat_lit 616)) .nil .nil) .nil) (.node (ob1 P (nat_lit 488)) .nil .nil)))) (.node (ob1 P (nat_lit 56)) (.node (ob1 P (nat_lit 88)) (.node (ob1 P (nat_lit 152)) (.node (ob1 P (nat_lit 280)) (.node (ob1 P (nat_lit 536)) .nil .nil) .nil) (.node (ob1 P (nat_lit 408)) .nil .nil)) (.node (ob1 P (nat_lit 216)) (.node (ob1 P (nat_lit 344)) (.node (ob1 P (nat_lit 600)) .nil .nil) .nil) (.node (ob1 P (nat_lit 472)) .nil .nil))) (.node (ob1 P (nat_lit 120)) (.node (ob1 P (nat_lit 184)) (.node (ob1 P (nat_lit 312)) (.node (ob1 P (nat_lit 568)) .nil .nil) .nil) (.node (ob1 P (nat_lit 440)) .nil .nil)) (.node (ob1 P (nat_lit 248)) (.node (ob1 P (nat_lit 376)) (.node (ob1 P (nat_lit 632)) .nil .nil) .nil) (.node (ob1 P (nat_lit 504)) .nil .nil)))))) (.node (ob1 P (nat_lit 12)) (.node (ob1 P (nat_lit 20)) (.node (ob1 P (nat_lit 36)) (.node (ob1 P (nat_lit 68)) (.node (ob1 P (nat_lit 132)) (.node (ob1 P (nat_lit 260)) (.node (ob1 P (nat_lit 516)) .nil .nil) .nil) (.node (ob1 P (nat_lit 388)) (.node (ob1 P (nat_lit 644)) .nil .nil) .nil)) (.node (ob1 P (nat_lit 196)) (.node (ob1 P (nat_lit 324)) (.node (ob1 P (nat_lit 580)) .nil .nil) .nil) (.node (ob1 P (nat_lit 452)) .nil .nil))) (.node (ob1 P (nat_lit 100)) (.node (ob1 P (nat_lit 164)) (.node (ob1 P (nat_lit 292)) (.node (ob1 P (nat_lit 548)) .nil .nil) .nil) (.node (ob1 P (nat_lit 420)) .nil .nil)) (.node (ob1 P (nat_lit 228)) (.node (ob1 P (nat_lit 356)) (.node (ob1 P (nat_lit 612)) .nil .nil) .nil) (.node (ob1 P (nat_lit 484)) .nil .nil)))) (.node (ob1 P (nat_lit 52)) (.node (ob1 P (nat_lit 84)) (.node (ob1 P (nat_lit 148)) (.node (ob1 P (nat_lit 276)) (.node (ob1 P (nat_lit 532)) .nil .nil) .nil) (.node (ob1 P (nat_lit 404)) .nil .nil)) (.node (ob1 P (nat_lit 212)) (.node (ob1 P (nat_lit 340)) (.node (ob1 P (nat_lit 596)) .nil .nil) .nil) (.node (ob1 P (nat_lit 468)) .nil .nil))) (.node (ob1 P (nat_lit 116)) (.node (ob1 P (nat_lit 180)) (.node (ob1 P (nat_lit 308)) (.node (ob1 P (nat_lit 564)) .nil .nil) .nil) (.node (ob1 P (nat_lit 436)) .nil .nil)) (.node (ob1 P (nat_lit 244)) (.node (ob1 P (nat_lit 372)) (.node (ob1 P (nat_lit 628)) .nil .nil) .nil) (.node (ob1 P (nat_lit 500)) .nil .nil))))) (.node (ob1 P (nat_lit 28)) (.node (ob1 P (nat_lit 44)) (.node (ob1 P (nat_lit 76)) (.node (ob1 P (nat_lit 140)) (.node (ob1 P (nat_lit 268)) (.node (ob1 P (nat_lit 524)) .nil .nil) .nil) (.node (ob1 P (nat_lit 396)) (.node (ob1 P (nat_lit 652)) .nil .nil) .nil)) (.node (ob1 P (nat_lit 204)) (.node (ob1 P (nat_lit 332)) (.node (ob1 P (nat_lit 588)) .nil .nil) .nil) (.node (ob1 P (nat_lit 460)) .nil .nil))) (.node (ob1 P (nat_lit 108)) (.node (ob1 P (nat_lit 172)) (.node (ob1 P (nat_lit 300)) (.node (ob1 P (nat_lit 556)) .nil .nil) .nil) (.node (ob1 P (nat_lit 428)) .nil .nil)) (.node (ob1 P (nat_lit 236)) (.node (ob1 P (nat_lit 364)) (.node (ob1 P (nat_lit 620)) .nil .nil) .nil) (.node (ob1 P (nat_lit 492)) .nil .nil)))) (.node (ob1 P (nat_lit 60)) (.node (ob1 P (nat_lit 92)) (.node (ob1 P (nat_lit 156)) (.node (ob1 P (nat_lit 284)) (.node (ob1 P (nat_lit 540)) .nil .nil) .nil) (.node (ob1 P (nat_lit 412)) .nil .nil)) (.node (ob1 P (nat_lit 220)) (.node (ob1 P (nat_lit 348)) (.node (ob1 P (nat_lit 604)) .nil .nil) .nil) (.node (ob1 P (nat_lit 476)) .nil .nil))) (.node (ob1 P (nat_lit 124)) (.node (ob1 P (nat_lit 188)) (.node (ob1 P (nat_lit 316)) (.node (ob1 P (nat_lit 572)) .nil .nil) .nil) (.node (ob1 P (nat_lit 444)) .nil .nil)) (.node (ob1 P (nat_lit 252)) (.node (ob1 P (nat_lit 380)) (.node (ob1 P (nat_lit 636)) .nil .nil) .nil) (.node (ob1 P (nat_lit 508)) .nil .nil))))))) (.node (boot_o_6 P) (.node (boot_o_10 P) (.node (ob1 P (nat_lit 18)) (.node (ob1 P (nat_lit 34)) (.node (ob1 P (nat_lit 66)) (.node (ob1 P (nat_lit 130)) (.node (ob1 P (nat_lit 258)) (.node (ob1 P (nat_lit 514)) .nil .nil) .nil) (.node (ob1 P (nat_lit 386)) (.node (ob1 P (nat_lit 642)) .nil .nil) .nil)) (.node (ob1 P (nat_lit 194)) (.node (ob1 P (nat_lit 322)) (.node (ob1 P (nat_lit 578)) .nil .nil) .nil) (.node (ob1 P (nat_lit 450)) .nil .nil))) (.node (ob1 P (nat_lit 98)) (.node (ob1 P (nat_lit 162)) (.node (ob1 P (nat_lit 290)) (.node (ob1 P (nat_lit 546)) .nil .nil) .nil) (.node (ob1 P (nat_lit 418)) .nil .nil)) (.node (ob1 P (nat_lit 226)) (.node (ob1 P (nat_lit 354)) (.node (ob1 P (nat_lit 610)) .nil .nil) .nil) (.node (ob1 P (nat_lit 482)) .nil .nil)))) (.node (ob1 P (nat_lit 50)) (.node (ob1 P (nat_lit 82)) (.node (ob1 P (nat_lit 146)) (.node (ob1 P (nat_lit 274)) (.node (ob1 P (nat_lit 530)) .nil .nil) .nil) (.node (ob1 P (nat_lit 402)) .nil .nil)) (.node (ob1 P (nat_lit 210)) (.node (ob1 P (nat_lit 338)) (.node (ob1 P (nat_lit 594)) .nil .nil) .nil) (.node (ob1 P (nat_lit 466)) .nil .nil))) (.node (ob1 P (nat_lit 114)) (.node (ob1 P (nat_lit 178)) (.node (ob1 P (nat_lit 306)) (.node (ob1 P (nat_lit 562)) .nil .nil) .nil) (.node (ob1 P (nat_lit 434)) .nil .nil)) (.node (ob1 P (nat_lit 242)) (.node (ob1 P (nat_lit 370)) (.node (ob1 P (nat_lit 626)) .nil .nil) .nil) (.node (ob1 P (nat_lit 498)) .nil .nil))))) (.node (ob1 P (nat_lit 26)) (.node (ob1 P (nat_lit 42)) (.node (ob1 P (nat_lit 74)) (.node (ob1 P (nat_lit 138)) (.node (ob1 P (nat_lit 266)) (.node (ob1 P (nat_lit 522)) .nil .nil) .nil) (.node (ob1 P (nat_lit 394)) (.node (ob1 P (nat_lit 650)) .nil .nil) .nil)) (.node (ob1 P (nat_lit 202)) (.node (ob1 P (nat_lit 330)) (.node (ob1 P (nat_lit 586)) .nil .nil) .nil) (.node (ob1 P (nat_lit 458)) .nil .nil))) (.node (ob1 P (nat_lit 106)) (.node (ob1 P (nat_lit 170)) (.node (ob1 P (nat_lit 298)) (.node (ob1 P (nat_lit 554)) .nil .nil) .nil) (.node (ob1 P (nat_lit 426)) .nil .nil)) (.node (ob1 P (nat_lit 234)) (.node (ob1 P (nat_lit 362)) (.node (ob1 P (nat_lit 618)) .nil .nil) .nil) (.node (ob1 P (nat_lit 490)) .nil .nil)))) (.node (ob1 P (nat_lit 58)) (.node (ob1 P (nat_lit 90)) (.node (ob1 P (nat_lit 154)) (.node (ob1 P (nat_lit 282)) (.node (ob1 P (nat_lit 538)) .nil .nil) .nil) (.node (ob1 P (nat_lit 410)) .nil .nil)) (.node (ob1 P (nat_lit 218)) (.node (ob1 P (nat_lit 346)) (.node (ob1 P (nat_lit 602)) .nil .nil) .nil) (.node (ob1 P (nat_lit 474)) .nil .nil))) (.node (ob1 P (nat_lit 122)) (.node (ob1 P (nat_lit 186)) (.node (ob1 P (nat_lit 314)) (.node (ob1 P (nat_lit 570)) .nil .nil) .nil) (.node (ob1 P (nat_lit 442)) .nil .nil)) (.node (ob1 P (nat_lit 250)) (.node (ob1 P (nat_lit 378)) (.node (ob1 P (nat_lit 634)) .nil .nil) .nil) (.node (ob1 P (nat_lit 506)) .nil .nil)))))) (.node (ob1 P (nat_lit 14)) (.node (ob1 P (nat_lit 22)) (.node (ob1 P (nat_lit 38)) (.node (ob1 P (nat_lit 70)) (.node (ob1 P (nat_lit 134)) (.node (ob1 P (nat_lit 262)) (.node (ob1 P (nat_lit 518)) .nil .nil) .nil) (.node (ob1 P (nat_lit 390)) (.node (ob1 P (nat_lit 646)) .nil .nil) .nil)) (.node (ob1 P (nat_lit 198)) (.node (ob1 P (nat_lit 326)) (.node (ob1 P (nat_lit 582)) .nil .nil) .nil) (.node (ob1 P (nat_lit 454)) .nil .nil))) (.node (ob1 P (nat_lit 102)) (.node (ob1 P (nat_lit 166)) (.node (ob1 P (nat_lit 294)) (.node (ob1 P (nat_lit 550)) .nil .nil) .nil) (.node (ob1 P (nat_lit 422)) .nil .nil)) (.node (ob1 P (nat_lit 230)) (.node (ob1 P (nat_lit 358)) (.node (ob1 P (nat_lit 614)) .nil .nil) .nil) (.node (ob1 P (nat_lit 486)) .nil .nil)))) (.node (ob1 P (nat_lit 54)) (.node (ob1 P (nat_lit 86)) (.node (ob1 P (nat_lit 150)) (.node (ob1 P (nat_lit 278)) (.node (ob1 P (nat_lit 534)) .nil .nil) .nil) (.node (ob1 P (nat_lit 406)) .nil .nil)) (.node (ob1 P (nat_lit 214)) (.node (ob1 P (nat_lit 342)) (.node (ob1 P (nat_lit 598)) .nil .nil) .nil) (.node (ob1 P (nat_lit 470)) .nil .nil))) (.node (ob1 P (nat_lit 118)) (.node (ob1 P (nat_lit 182)) (.node (ob1 P (nat_lit 310)) (.node (ob1 P (nat_lit 566)) .nil .nil) .nil) (.node (ob1 P (nat_lit 438)) .nil .nil)) (.node (ob1 P (nat_lit 246)) (.node (ob1 P (nat_lit 374)) (.node (ob1 P (nat_lit 630)) .nil .nil) .nil) (.node (ob1 P (nat_lit 502)) .nil .nil))))) (.node (ob1 P (nat_lit 30)) (.node (ob1 P (nat_lit 46)) (.node (ob1 P (nat_lit 78)) (.node (ob1 P (nat_lit 142)) (.node (ob1 P (nat_lit 270)) (.node (ob1 P (nat_lit 526)) .nil .nil) .nil) (.node (ob1 P (nat_lit 398)) (.node (ob1 P (nat_lit 654)) .nil .nil) .nil)) (.node (ob1 P (nat_lit 206)) (.node (ob1 P (nat_lit 334)) (.node (ob1 P (nat_lit 590)) .nil .nil) .nil) (.node (ob1 P (nat_lit 462)) .nil .nil))) (.node (ob1 P (nat_lit 110)) (.node (ob1 P (nat_lit 174)) (.node (ob1 P (nat_lit 302)) (.node (ob1 P (nat_lit 558)) .nil .nil) .nil) (.node (ob1 P (nat_lit 430)) .nil .nil)) (.node (ob1 P (nat_lit 238)) (.node (ob1 P (nat_lit 366)) (.node (ob1 P (nat_lit 622)) .nil .nil) .nil) (.node (ob1 P (nat_lit 494)) .nil .nil)))) (.node (ob1 P (nat_lit 62)) (.node (ob1 P (nat_lit 94)) (.node (ob1 P (nat_lit 158)) (.node (ob1 P (nat_lit 286)) (.node (ob1 P (nat_lit 542)) .nil .nil) .nil) (.node (ob1 P (nat_lit 414)) .nil .nil)) (.node (ob1 P (nat_lit 222)) (.node (ob1 P (nat_lit 350)) (.node (ob1 P (nat_lit 606)) .nil .nil) .nil) (.node (ob1 P (nat_lit 478)) .nil .nil))) (.node (ob1 P (nat_lit 126)) (.node (ob1 P (nat_lit 190)) (.node (ob1 P (nat_lit 318)) (.node (ob1 P (nat_lit 574)) .nil .nil) .nil) (.node (ob1 P (nat_lit 446)) .nil .nil)) (.node (ob1 P (nat_lit 254)) (.node (ob1 P (nat_lit 382)) (.node (ob1 P (nat_lit 638)) .nil .nil) .nil) (.node (ob1 P (nat_lit 510)) .nil .nil))))))))
noncomputable def pa1_11 (P : Params) : Obj := .mk (.type "tuple") none (.seq #[]) #[]
noncomputable def pa1_12 (P : Params) : Obj := .mk .none none (.fields #[]) #[]
noncomputable def pa1_13 (P : Params) : Obj := .mk (.type "code") none (.fields #[.str (ofString "<module>") 182,.str (ofString "<module>") 183,.str (ofString "/claim/cut.py") 184,.int 1 0,.int 0 0,.int 0 0,.int 0 0,.int 0 0,.ref 11,.bool false,.int 181 0,.ref 12,.none,.none,.none,.none,.int 185 0,.int 1 0,.str (ofString "/claim/cut.py") 186]) #[]
noncomputable def pa1_14 (P : Params) : Obj := .mk (.type "frame") none .plain #[some (.ref 13),some (.ref 3),some (.ref 3),none,some (.str (ofString "__main__") 164),none,some (.ref 0)]
noncomputable def ha1 (P : Params) : Heap := Heap.mk (Array.mk [boot_o_0 P, boot_o_1 P, boot_o_2 P, boot_o_3 P, boot_o_4 P, boot_o_5 P, boot_o_6 P, boot_o_7 P, boot_o_8 P, boot_o_9 P, boot_o_10 P, pa1_11 P, pa1_12 P, pa1_13 P, pa1_14 P]) (Life.mk [] [] [] 0 [] [] Bool.false #[] [] 0 Bool.false Bool.false Bool.false 0 [2000, 10, 10] Bool.false 0 Bool.true [] [] 0 Bool.false)
noncomputable def ta1 (P : Params) : BT := .node (boot_o_0 P) (.node (boot_o_1 P) (.node (boot_o_3 P) (.node (boot_o_7 P) .nil .nil) (.node (pa1_11 P) .nil .nil)) (.node (boot_o_5 P) (.node (boot_o_9 P) .nil .nil) (.node (pa1_13 P) .nil .nil))) (.node (boot_o_2 P) (.node (boot_o_4 P) (.node (boot_o_8 P) .nil .nil) (.node (pa1_12 P) .nil .nil)) (.node (boot_o_6 P) (.node (boot_o_10 P) .nil .nil) (.node (pa1_14 P) .nil .nil)))
noncomputable def body1 : List Stmt := match Challenge.pw_lp0002_01.main.body with
  | [a0, _, a2, a3, a4, a5, a6, a7, a8, a9, a10, a11, a12, a13, a14, _, a16, a17, a18, a19, a20, a21, a22, a23] => [a0, a2, a3, a4, a5, a6, a7, a8, a9, a10, a11, a12, a13, a14, a16, a17, a18, a19, a20, a21, a22, a23]
  | _ => []
noncomputable def V1 : Program := { Challenge.pw_lp0002_01 with main := { Challenge.pw_lp0002_01.main with body := body1 } }
noncomputable def env1 : Env := { scope := Challenge.pw_lp0002_01.main.scope, locals := mainNs, globals := mainNs, cells := [], code := Value.ref 13, frame := some 14 }
noncomputable def cd1 : Code := .body (behindTheImports Challenge.pw_lp0002_01) env1
noncomputable def loose1 : List Str := [Str.ofString "POS_TO_ORIENTATION", Str.ofString "LOOKUP_POS", Str.ofString "LOOKUP_IJ", Str.ofString "CellId"]
noncomputable def mo1_7_3 (P : Params) : Obj := .mk (.type "dict") none (.dict #[.mk (PyData.keyHash P (ofString "__name__")) (.str (ofString "__name__") 165) (.str (ofString "s2sphere.sphere") 194),.mk (PyData.keyHash P (ofString "__doc__")) (.str (ofString "__doc__") 166) .none,.mk (PyData.keyHash P (ofString "__package__")) (.str (ofString "__package__") 167) .none,.mk (PyData.keyHash P (ofString "__loader__")) (.str (ofString "__loader__") 168) (.builtin "__main__.__loader__#opaque"),.mk (PyData.keyHash P (ofString "__spec__")) (.str (ofString "__spec__") 169) .none,.mk (PyData.keyHash P (ofString "__annotations__")) (.str (ofString "__annotations__") 170) (.ref 6),.mk (PyData.keyHash P (ofString "__builtins__")) (.str (ofString "__builtins__") 171) (.ref 4),.mk (PyData.keyHash P (ofString "__file__")) (.str (ofString "__file__") 173) (.str (ofString "/claim/cut.py") 172),.mk (PyData.keyHash P (ofString "__cached__")) (.str (ofString "__cached__") 174) .none,.mk (PyData.keyHash P (ofString "_wall")) (.str (ofString "_wall") 193) (.ref 21),.mk (PyData.keyHash P (ofString "Point")) (.str (ofString "Point") 338) (.ref 134),.mk (PyData.keyHash P (ofString "LOOKUP_BITS")) (.str (ofString "LOOKUP_BITS") 340) (.int 4 339),.mk (PyData.keyHash P (ofString "SWAP_MASK")) (.str (ofString "SWAP_MASK") 342) (.int 1 341),.mk (PyData.keyHash P (ofString "INVERT_MASK")) (.str (ofString "INVERT_MASK") 344) (.int 2 343),.mk (PyData.keyHash P (ofString "POS_TO_ORIENTATION")) (.str (ofString "POS_TO_ORIENTATION") 349) (.ref 139)] 15) #[]
noncomputable def mo1_7_12 (P : Params) : Obj := .mk .none none (.fields #[.int 1 0,.int 0 0,.ref 20,.int 5 0,.int 0 0,.ref 27]) #[]
noncomputable def tm1_7 (P : Params) : BT := .node (boot_o_0 P) (.node (boot_o_1 P) (.node (mo1_7_3 P) (.node (boot_o_7 P) (.node (ob1 P (nat_lit 15)) (.node (ob1 P (nat_lit 31)) (.node (ob1 P (nat_lit 63)) (.node (ob1 P (nat_lit 127)) .nil .nil) .nil) (.node (ob1 P (nat_lit 95)) .nil .nil)) (.node (ob1 P (nat_lit 47)) (.node (ob1 P (nat_lit 79)) .nil .nil) (.node (ob1 P (nat_lit 111)) .nil .nil))) (.node (ob1 P (nat_lit 23)) (.node (ob1 P (nat_lit 39)) (.node (ob1 P (nat_lit 71)) (.node (ob1 P (nat_lit 135)) .nil .nil) .nil) (.node (ob1 P (nat_lit 103)) .nil .nil)) (.node (ob1 P (nat_lit 55)) (.node (ob1 P (nat_lit 87)) .nil .nil) (.node (ob1 P (nat_lit 119)) .nil .nil)))) (.node (ob1 P (nat_lit 11)) (.node (ob1 P (nat_lit 19)) (.node (ob1 P (nat_lit 35)) (.node (ob1 P (nat_lit 67)) (.node (ob1 P (nat_lit 131)) .nil .nil) .nil) (.node (ob1 P (nat_lit 99)) .nil .nil)) (.node (ob1 P (nat_lit 51)) (.node (ob1 P (nat_lit 83)) .nil .nil) (.node (ob1 P (nat_lit 115)) .nil .nil))) (.node (ob1 P (nat_lit 27)) (.node (ob1 P (nat_lit 43)) (.node (ob1 P (nat_lit 75)) (.node (ob1 P (nat_lit 139)) .nil .nil) .nil) (.node (ob1 P (nat_lit 107)) .nil .nil)) (.node (ob1 P (nat_lit 59)) (.node (ob1 P (nat_lit 91)) .nil .nil) (.node (ob1 P (nat_lit 123)) .nil .nil))))) (.node (boot_o_5 P) (.node (boot_o_9 P) (.node (ob1 P (nat_lit 17)) (.node (ob1 P (nat_lit 33)) (.node (ob1 P (nat_lit 65)) (.node (ob1 P (nat_lit 129)) .nil .nil) .nil) (.node (ob1 P (nat_lit 97)) .nil .nil)) (.node (ob1 P (nat_lit 49)) (.node (ob1 P (nat_lit 81)) .nil .nil) (.node (ob1 P (nat_lit 113)) .nil .nil))) (.node (ob1 P (nat_lit 25)) (.node (ob1 P (nat_lit 41)) (.node (ob1 P (nat_lit 73)) (.node (ob1 P (nat_lit 137)) .nil .nil) .nil) (.node (ob1 P (nat_lit 105)) .nil .nil)) (.node (ob1 P (nat_lit 57)) (.node (ob1 P (nat_lit 89)) .nil .nil) (.node (ob1 P (nat_lit 121)) .nil .nil)))) (.node (ob1 P (nat_lit 13)) (.node (ob1 P (nat_lit 21)) (.node (ob1 P (nat_lit 37)) (.node (ob1 P (nat_lit 69)) (.node (ob1 P (nat_lit 133)) .nil .nil) .nil) (.node (ob1 P (nat_lit 101)) .nil .nil)) (.node (ob1 P (nat_lit 53)) (.node (ob1 P (nat_lit 85)) .nil .nil) (.node (ob1 P (nat_lit 117)) .nil .nil))) (.node (ob1 P (nat_lit 29)) (.node (ob1 P (nat_lit 45)) (.node (ob1 P (nat_lit 77)) .nil .nil) (.node (ob1 P (nat_lit 109)) .nil .nil)) (.node (ob1 P (nat_lit 61)) (.node (ob1 P (nat_lit 93)) .nil .nil) (.node (ob1 P (nat_lit 125)) .nil .nil)))))) (.node (boot_o_2 P) (.node (boot_o_4 P) (.node (boot_o_8 P) (.node (ob1 P (nat_lit 16)) (.node (ob1 P (nat_lit 32)) (.node (ob1 P (nat_lit 64)) (.node (ob1 P (nat_lit 128)) .nil .nil) .nil) (.node (ob1 P (nat_lit 96)) .nil .nil)) (.node (ob1 P (nat_lit 48)) (.node (ob1 P (nat_lit 80)) .nil .nil) (.node (ob1 P (nat_lit 112)) .nil .nil))) (.node (ob1 P (nat_lit 24)) (.node (ob1 P (nat_lit 40)) (.node (ob1 P (nat_lit 72)) (.node (ob1 P (nat_lit 136)) .nil .nil) .nil) (.node (ob1 P (nat_lit 104)) .nil .nil)) (.node (ob1 P (nat_lit 56)) (.node (ob1 P (nat_lit 88)) .nil .nil) (.node (ob1 P (nat_lit 120)) .nil .nil)))) (.node (mo1_7_12 P) (.node (ob1 P (nat_lit 20)) (.node (ob1 P (nat_lit 36)) (.node (ob1 P (nat_lit 68)) (.node (ob1 P (nat_lit 132)) .nil .nil) .nil) (.node (ob1 P (nat_lit 100)) .nil .nil)) (.node (ob1 P (nat_lit 52)) (.node (ob1 P (nat_lit 84)) .nil .nil) (.node (ob1 P (nat_lit 116)) .nil .nil))) (.node (ob1 P (nat_lit 28)) (.node (ob1 P (nat_lit 44)) (.node (ob1 P (nat_lit 76)) .nil .nil) (.node (ob1 P (nat_lit 108)) .nil .nil)) (.node (ob1 P (nat_lit 60)) (.node (ob1 P (nat_lit 92)) .nil .nil) (.node (ob1 P (nat_lit 124)) .nil .nil))))) (.node (boot_o_6 P) (.node (boot_o_10 P) (.node (ob1 P (nat_lit 18)) (.node (ob1 P (nat_lit 34)) (.node (ob1 P (nat_lit 66)) (.node (ob1 P (nat_lit 130)) .nil .nil) .nil) (.node (ob1 P (nat_lit 98)) .nil .nil)) (.node (ob1 P (nat_lit 50)) (.node (ob1 P (nat_lit 82)) .nil .nil) (.node (ob1 P (nat_lit 114)) .nil .nil))) (.node (ob1 P (nat_lit 26)) (.node (ob1 P (nat_lit 42)) (.node (ob1 P (nat_lit 74)) (.node (ob1 P (nat_lit 138)) .nil .nil) .nil) (.node (ob1 P (nat_lit 106)) .nil .nil)) (.node (ob1 P (nat_lit 58)) (.node (ob1 P (nat_lit 90)) .nil .nil) (.node (ob1 P (nat_lit 122)) .nil .nil)))) (.node (ob1 P (nat_lit 14)) (.node (ob1 P (nat_lit 22)) (.node (ob1 P (nat_lit 38)) (.node (ob1 P (nat_lit 70)) (.node (ob1 P (nat_lit 134)) .nil .nil) .nil) (.node (ob1 P (nat_lit 102)) .nil .nil)) (.node (ob1 P (nat_lit 54)) (.node (ob1 P (nat_lit 86)) .nil .nil) (.node (ob1 P (nat_lit 118)) .nil .nil))) (.node (ob1 P (nat_lit 30)) (.node (ob1 P (nat_lit 46)) (.node (ob1 P (nat_lit 78)) .nil .nil) (.node (ob1 P (nat_lit 110)) .nil .nil)) (.node (ob1 P (nat_lit 62)) (.node (ob1 P (nat_lit 94)) .nil .nil) (.node (ob1 P (nat_lit 126)) .nil .nil))))))
noncomputable def st1_0 : List Stmt := ((behindTheImports Challenge.pw_lp0002_01).drop 0).take 7
noncomputable def mo1_8_3 (P : Params) : Obj := .mk (.type "dict") none (.dict #[.mk (PyData.keyHash P (ofString "__name__")) (.str (ofString "__name__") 165) (.str (ofString "s2sphere.sphere") 194),.mk (PyData.keyHash P (ofString "__doc__")) (.str (ofString "__doc__") 166) .none,.mk (PyData.keyHash P (ofString "__package__")) (.str (ofString "__package__") 167) .none,.mk (PyData.keyHash P (ofString "__loader__")) (.str (ofString "__loader__") 168) (.builtin "__main__.__loader__#opaque"),.mk (PyData.keyHash P (ofString "__spec__")) (.str (ofString "__spec__") 169) .none,.mk (PyData.keyHash P (ofString "__annotations__")) (.str (ofString "__annotations__") 170) (.ref 6),.mk (PyData.keyHash P (ofString "__builtins__")) (.str (ofString "__builtins__") 171) (.ref 4),.mk (PyData.keyHash P (ofString "__file__")) (.str (ofString "__file__") 173) (.str (ofString "/claim/cut.py") 172),.mk (PyData.keyHash P (ofString "__cached__")) (.str (ofString "__cached__") 174) .none,.mk (PyData.keyHash P (ofString "_wall")) (.str (ofString "_wall") 193) (.ref 21),.mk (PyData.keyHash P (ofString "Point")) (.str (ofString "Point") 338) (.ref 134),.mk (PyData.keyHash P (ofString "LOOKUP_BITS")) (.str (ofString "LOOKUP_BITS") 340) (.int 4 339),.mk (PyData.keyHash P (ofString "SWAP_MASK")) (.str (ofString "SWAP_MASK") 342) (.int 1 341),.mk (PyData.keyHash P (ofString "INVERT_MASK")) (.str (ofString "INVERT_MASK") 344) (.int 2 343),.mk (PyData.keyHash P (ofString "POS_TO_ORIENTATION")) (.str (ofString "POS_TO_ORIENTATION") 349) (.ref 139),.mk (PyData.keyHash P (ofString "LOOKUP_POS")) (.str (ofString "LOOKUP_POS") 1374) (.ref 148)] 16) #[]
noncomputable def mo1_8_12 (P : Params) : Obj := .mk .none none (.fields #[.int 1 0,.int 0 0,.ref 20,.int 5 0,.int 0 0,.ref 27]) #[]
noncomputable def tm1_8 (P : Params) : BT := .node (boot_o_0 P) (.node (boot_o_1 P) (.node (mo1_8_3 P) (.node (boot_o_7 P) (.node (ob1 P (nat_lit 15)) (.node (ob1 P (nat_lit 31)) (.node (ob1 P (nat_lit 63)) (.node (ob1 P (nat_lit 127)) .nil .nil) .nil) (.node (ob1 P (nat_lit 95)) .nil .nil)) (.node (ob1 P (nat_lit 47)) (.node (ob1 P (nat_lit 79)) (.node (ob1 P (nat_lit 143)) .nil .nil) .nil) (.node (ob1 P (nat_lit 111)) .nil .nil))) (.node (ob1 P (nat_lit 23)) (.node (ob1 P (nat_lit 39)) (.node (ob1 P (nat_lit 71)) (.node (ob1 P (nat_lit 135)) .nil .nil) .nil) (.node (ob1 P (nat_lit 103)) .nil .nil)) (.node (ob1 P (nat_lit 55)) (.node (ob1 P (nat_lit 87)) .nil .nil) (.node (ob1 P (nat_lit 119)) .nil .nil)))) (.node (ob1 P (nat_lit 11)) (.node (ob1 P (nat_lit 19)) (.node (ob1 P (nat_lit 35)) (.node (ob1 P (nat_lit 67)) (.node (ob1 P (nat_lit 131)) .nil .nil) .nil) (.node (ob1 P (nat_lit 99)) .nil .nil)) (.node (ob1 P (nat_lit 51)) (.node (ob1 P (nat_lit 83)) (.node (ob1 P (nat_lit 147)) .nil .nil) .nil) (.node (ob1 P (nat_lit 115)) .nil .nil))) (.node (ob1 P (nat_lit 27)) (.node (ob1 P (nat_lit 43)) (.node (ob1 P (nat_lit 75)) (.node (ob1 P (nat_lit 139)) .nil .nil) .nil) (.node (ob1 P (nat_lit 107)) .nil .nil)) (.node (ob1 P (nat_lit 59)) (.node (ob1 P (nat_lit 91)) .nil .nil) (.node (ob1 P (nat_lit 123)) .nil .nil))))) (.node (boot_o_5 P) (.node (boot_o_9 P) (.node (ob1 P (nat_lit 17)) (.node (ob1 P (nat_lit 33)) (.node (ob1 P (nat_lit 65)) (.node (ob1 P (nat_lit 129)) .nil .nil) .nil) (.node (ob1 P (nat_lit 97)) .nil .nil)) (.node (ob1 P (nat_lit 49)) (.node (ob1 P (nat_lit 81)) (.node (ob1 P (nat_lit 145)) .nil .nil) .nil) (.node (ob1 P (nat_lit 113)) .nil .nil))) (.node (ob1 P (nat_lit 25)) (.node (ob1 P (nat_lit 41)) (.node (ob1 P (nat_lit 73)) (.node (ob1 P (nat_lit 137)) .nil .nil) .nil) (.node (ob1 P (nat_lit 105)) .nil .nil)) (.node (ob1 P (nat_lit 57)) (.node (ob1 P (nat_lit 89)) .nil .nil) (.node (ob1 P (nat_lit 121)) .nil .nil)))) (.node (ob1 P (nat_lit 13)) (.node (ob1 P (nat_lit 21)) (.node (ob1 P (nat_lit 37)) (.node (ob1 P (nat_lit 69)) (.node (ob1 P (nat_lit 133)) .nil .nil) .nil) (.node (ob1 P (nat_lit 101)) .nil .nil)) (.node (ob1 P (nat_lit 53)) (.node (ob1 P (nat_lit 85)) .nil .nil) (.node (ob1 P (nat_lit 117)) .nil .nil))) (.node (ob1 P (nat_lit 29)) (.node (ob1 P (nat_lit 45)) (.node (ob1 P (nat_lit 77)) (.node (ob1 P (nat_lit 141)) .nil .nil) .nil) (.node (ob1 P (nat_lit 109)) .nil .nil)) (.node (ob1 P (nat_lit 61)) (.node (ob1 P (nat_lit 93)) .nil .nil) (.node (ob1 P (nat_lit 125)) .nil .nil)))))) (.node (boot_o_2 P) (.node (boot_o_4 P) (.node (boot_o_8 P) (.node (ob1 P (nat_lit 16)) (.node (ob1 P (nat_lit 32)) (.node (ob1 P (nat_lit 64)) (.node (ob1 P (nat_lit 128)) .nil .nil) .nil) (.node (ob1 P (nat_lit 96)) .nil .nil)) (.node (ob1 P (nat_lit 48)) (.node (ob1 P (nat_lit 80)) (.node (ob1 P (nat_lit 144)) .nil .nil) .nil) (.node (ob1 P (nat_lit 112)) .nil .nil))) (.node (ob1 P (nat_lit 24)) (.node (ob1 P (nat_lit 40)) (.node (ob1 P (nat_lit 72)) (.node (ob1 P (nat_lit 136)) .nil .nil) .nil) (.node (ob1 P (nat_lit 104)) .nil .nil)) (.node (ob1 P (nat_lit 56)) (.node (ob1 P (nat_lit 88)) .nil .nil) (.node (ob1 P (nat_lit 120)) .nil .nil)))) (.node (mo1_8_12 P) (.node (ob1 P (nat_lit 20)) (.node (ob1 P (nat_lit 36)) (.node (ob1 P (nat_lit 68)) (.node (ob1 P (nat_lit 132)) .nil .nil) .nil) (.node (ob1 P (nat_lit 100)) .nil .nil)) (.node (ob1 P (nat_lit 52)) (.node (ob1 P (nat_lit 84)) (.node (ob1 P (nat_lit 148)) .nil .nil) .nil) (.node (ob1 P (nat_lit 116)) .nil .nil))) (.node (ob1 P (nat_lit 28)) (.node (ob1 P (nat_lit 44)) (.node (ob1 P (nat_lit 76)) (.node (ob1 P (nat_lit 140)) .nil .nil) .nil) (.node (ob1 P (nat_lit 108)) .nil .nil)) (.node (ob1 P (nat_lit 60)) (.node (ob1 P (nat_lit 92)) .nil .nil) (.node (ob1 P (nat_lit 124)) .nil .nil))))) (.node (boot_o_6 P) (.node (boot_o_10 P) (.node (ob1 P (nat_lit 18)) (.node (ob1 P (nat_lit 34)) (.node (ob1 P (nat_lit 66)) (.node (ob1 P (nat_lit 130)) .nil .nil) .nil) (.node (ob1 P (nat_lit 98)) .nil .nil)) (.node (ob1 P (nat_lit 50)) (.node (ob1 P (nat_lit 82)) (.node (ob1 P (nat_lit 146)) .nil .nil) .nil) (.node (ob1 P (nat_lit 114)) .nil .nil))) (.node (ob1 P (nat_lit 26)) (.node (ob1 P (nat_lit 42)) (.node (ob1 P (nat_lit 74)) (.node (ob1 P (nat_lit 138)) .nil .nil) .nil) (.node (ob1 P (nat_lit 106)) .nil .nil)) (.node (ob1 P (nat_lit 58)) (.node (ob1 P (nat_lit 90)) .nil .nil) (.node (ob1 P (nat_lit 122)) .nil .nil)))) (.node (ob1 P (nat_lit 14)) (.node (ob1 P (nat_lit 22)) (.node (ob1 P (nat_lit 38)) (.node (ob1 P (nat_lit 70)) (.node (ob1 P (nat_lit 134)) .nil .nil) .nil) (.node (ob1 P (nat_lit 102)) .nil .nil)) (.node (ob1 P (nat_lit 54)) (.node (ob1 P (nat_lit 86)) .nil .nil) (.node (ob1 P (nat_lit 118)) .nil .nil))) (.node (ob1 P (nat_lit 30)) (.node (ob1 P (nat_lit 46)) (.node (ob1 P (nat_lit 78)) (.node (ob1 P (nat_lit 142)) .nil .nil) .nil) (.node (ob1 P (nat_lit 110)) .nil .nil)) (.node (ob1 P (nat_lit 62)) (.node (ob1 P (nat_lit 94)) .nil .nil) (.node (ob1 P (nat_lit 126)) .nil .nil))))))
noncomputable def st1_1 : List Stmt := ((behindTheImports Challenge.pw_lp0002_01).drop 7).take 1
noncomputable def mo1_9_3 (P : Params) : Obj := .mk (.type "dict") none (.dict #[.mk (PyData.keyHash P (ofString "__name__")) (.str (ofString "__name__") 165) (.str (ofString "s2sphere.sphere") 194),.mk (PyData.keyHash P (ofString "__doc__")) (.str (ofString "__doc__") 166) .none,.mk (PyData.keyHash P (ofString "__package__")) (.str (ofString "__package__") 167) .none,.mk (PyData.keyHash P (ofString "__loader__")) (.str (ofString "__loader__") 168) (.builtin "__main__.__loader__#opaque"),.mk (PyData.keyHash P (ofString "__spec__")) (.str (ofString "__spec__") 169) .none,.mk (PyData.keyHash P (ofString "__annotations__")) (.str (ofString "__annotations__") 170) (.ref 6),.mk (PyData.keyHash P (ofString "__builtins__")) (.str (ofString "__builtins__") 171) (.ref 4),.mk (PyData.keyHash P (ofString "__file__")) (.str (ofString "__file__") 173) (.str (ofString "/claim/cut.py") 172),.mk (PyData.keyHash P (ofString "__cached__")) (.str (ofString "__cached__") 174) .none,.mk (PyData.keyHash P (ofString "_wall")) (.str (ofString "_wall") 193) (.ref 21),.mk (PyData.keyHash P (ofString "Point")) (.str (ofString "Point") 338) (.ref 134),.mk (PyData.keyHash P (ofString "LOOKUP_BITS")) (.str (ofString "LOOKUP_BITS") 340) (.int 4 339),.mk (PyData.keyHash P (ofString "SWAP_MASK")) (.str (ofString "SWAP_MASK") 342) (.int 1 341),.mk (PyData.keyHash P (ofString "INVERT_MASK")) (.str (ofString "INVERT_MASK") 344) (.int 2 343),.mk (PyData.keyHash P (ofString "POS_TO_ORIENTATION")) (.str (ofString "POS_TO_ORIENTATION") 349) (.ref 139),.mk (PyData.keyHash P (ofString "LOOKUP_POS")) (.str (ofString "LOOKUP_POS") 1374) (.ref 148),.mk (PyData.keyHash P (ofString "LOOKUP_IJ")) (.str (ofString "LOOKUP_IJ") 2399) (.ref 157)] 17) #[]
noncomputable def mo1_9_12 (P : Params) : Obj := .mk .none none (.fields #[.int 1 0,.int 0 0,.ref 20,.int 5 0,.int 0 0,.ref 27]) #[]
noncomputable def tm1_9 (P : Params) : BT := .node (boot_o_0 P) (.node (boot_o_1 P) (.node (mo1_9_3 P) (.node (boot_o_7 P) (.node (ob1 P (nat_lit 15)) (.node (ob1 P (nat_lit 31)) (.node (ob1 P (nat_lit 63)) (.node (ob1 P (nat_lit 127)) .nil .nil) .nil) (.node (ob1 P (nat_lit 95)) .nil .nil)) (.node (ob1 P (nat_lit 47)) (.node (ob1 P (nat_lit 79)) (.node (ob1 P (nat_lit 143)) .nil .nil) .nil) (.node (ob1 P (nat_lit 111)) .nil .nil))) (.node (ob1 P (nat_lit 23)) (.node (ob1 P (nat_lit 39)) (.node (ob1 P (nat_lit 71)) (.node (ob1 P (nat_lit 135)) .nil .nil) .nil) (.node (ob1 P (nat_lit 103)) .nil .nil)) (.node (ob1 P (nat_lit 55)) (.node (ob1 P (nat_lit 87)) (.node (ob1 P (nat_lit 151)) .nil .nil) .nil) (.node (ob1 P (nat_lit 119)) .nil .nil)))) (.node (ob1 P (nat_lit 11)) (.node (ob1 P (nat_lit 19)) (.node (ob1 P (nat_lit 35)) (.node (ob1 P (nat_lit 67)) (.node (ob1 P (nat_lit 131)) .nil .nil) .nil) (.node (ob1 P (nat_lit 99)) .nil .nil)) (.node (ob1 P (nat_lit 51)) (.node (ob1 P (nat_lit 83)) (.node (ob1 P (nat_lit 147)) .nil .nil) .nil) (.node (ob1 P (nat_lit 115)) .nil .nil))) (.node (ob1 P (nat_lit 27)) (.node (ob1 P (nat_lit 43)) (.node (ob1 P (nat_lit 75)) (.node (ob1 P (nat_lit 139)) .nil .nil) .nil) (.node (ob1 P (nat_lit 107)) .nil .nil)) (.node (ob1 P (nat_lit 59)) (.node (ob1 P (nat_lit 91)) (.node (ob1 P (nat_lit 155)) .nil .nil) .nil) (.node (ob1 P (nat_lit 123)) .nil .nil))))) (.node (boot_o_5 P) (.node (boot_o_9 P) (.node (ob1 P (nat_lit 17)) (.node (ob1 P (nat_lit 33)) (.node (ob1 P (nat_lit 65)) (.node (ob1 P (nat_lit 129)) .nil .nil) .nil) (.node (ob1 P (nat_lit 97)) .nil .nil)) (.node (ob1 P (nat_lit 49)) (.node (ob1 P (nat_lit 81)) (.node (ob1 P (nat_lit 145)) .nil .nil) .nil) (.node (ob1 P (nat_lit 113)) .nil .nil))) (.node (ob1 P (nat_lit 25)) (.node (ob1 P (nat_lit 41)) (.node (ob1 P (nat_lit 73)) (.node (ob1 P (nat_lit 137)) .nil .nil) .nil) (.node (ob1 P (nat_lit 105)) .nil .nil)) (.node (ob1 P (nat_lit 57)) (.node (ob1 P (nat_lit 89)) (.node (ob1 P (nat_lit 153)) .nil .nil) .nil) (.node (ob1 P (nat_lit 121)) .nil .nil)))) (.node (ob1 P (nat_lit 13)) (.node (ob1 P (nat_lit 21)) (.node (ob1 P (nat_lit 37)) (.node (ob1 P (nat_lit 69)) (.node (ob1 P (nat_lit 133)) .nil .nil) .nil) (.node (ob1 P (nat_lit 101)) .nil .nil)) (.node (ob1 P (nat_lit 53)) (.node (ob1 P (nat_lit 85)) (.node (ob1 P (nat_lit 149)) .nil .nil) .nil) (.node (ob1 P (nat_lit 117)) .nil .nil))) (.node (ob1 P (nat_lit 29)) (.node (ob1 P (nat_lit 45)) (.node (ob1 P (nat_lit 77)) (.node (ob1 P (nat_lit 141)) .nil .nil) .nil) (.node (ob1 P (nat_lit 109)) .nil .nil)) (.node (ob1 P (nat_lit 61)) (.node (ob1 P (nat_lit 93)) (.node (ob1 P (nat_lit 157)) .nil .nil) .nil) (.node (ob1 P (nat_lit 125)) .nil .nil)))))) (.node (boot_o_2 P) (.node (boot_o_4 P) (.node (boot_o_8 P) (.node (ob1 P (nat_lit 16)) (.node (ob1 P (nat_lit 32)) (.node (ob1 P (nat_lit 64)) (.node (ob1 P (nat_lit 128)) .nil .nil) .nil) (.node (ob1 P (nat_lit 96)) .nil .nil)) (.node (ob1 P (nat_lit 48)) (.node (ob1 P (nat_lit 80)) (.node (ob1 P (nat_lit 144)) .nil .nil) .nil) (.node (ob1 P (nat_lit 112)) .nil .nil))) (.node (ob1 P (nat_lit 24)) (.node (ob1 P (nat_lit 40)) (.node (ob1 P (nat_lit 72)) (.node (ob1 P (nat_lit 136)) .nil .nil) .nil) (.node (ob1 P (nat_lit 104)) .nil .nil)) (.node (ob1 P (nat_lit 56)) (.node (ob1 P (nat_lit 88)) (.node (ob1 P (nat_lit 152)) .nil .nil) .nil) (.node (ob1 P (nat_lit 120)) .nil .nil)))) (.node (mo1_9_12 P) (.node (ob1 P (nat_lit 20)) (.node (ob1 P (nat_lit 36)) (.node (ob1 P (nat_lit 68)) (.node (ob1 P (nat_lit 132)) .nil .nil) .nil) (.node (ob1 P (nat_lit 100)) .nil .nil)) (.node (ob1 P (nat_lit 52)) (.node (ob1 P (nat_lit 84)) (.node (ob1 P (nat_lit 148)) .nil .nil) .nil) (.node (ob1 P (nat_lit 116)) .nil .nil))) (.node (ob1 P (nat_lit 28)) (.node (ob1 P (nat_lit 44)) (.node (ob1 P (nat_lit 76)) (.node (ob1 P (nat_lit 140)) .nil .nil) .nil) (.node (ob1 P (nat_lit 108)) .nil .nil)) (.node (ob1 P (nat_lit 60)) (.node (ob1 P (nat_lit 92)) (.node (ob1 P (nat_lit 156)) .nil .nil) .nil) (.node (ob1 P (nat_lit 124)) .nil .nil))))) (.node (boot_o_6 P) (.node (boot_o_10 P) (.node (ob1 P (nat_lit 18)) (.node (ob1 P (nat_lit 34)) (.node (ob1 P (nat_lit 66)) (.node (ob1 P (nat_lit 130)) .nil .nil) .nil) (.node (ob1 P (nat_lit 98)) .nil .nil)) (.node (ob1 P (nat_lit 50)) (.node (ob1 P (nat_lit 82)) (.node (ob1 P (nat_lit 146)) .nil .nil) .nil) (.node (ob1 P (nat_lit 114)) .nil .nil))) (.node (ob1 P (nat_lit 26)) (.node (ob1 P (nat_lit 42)) (.node (ob1 P (nat_lit 74)) (.node (ob1 P (nat_lit 138)) .nil .nil) .nil) (.node (ob1 P (nat_lit 106)) .nil .nil)) (.node (ob1 P (nat_lit 58)) (.node (ob1 P (nat_lit 90)) (.node (ob1 P (nat_lit 154)) .nil .nil) .nil) (.node (ob1 P (nat_lit 122)) .nil .nil)))) (.node (ob1 P (nat_lit 14)) (.node (ob1 P (nat_lit 22)) (.node (ob1 P (nat_lit 38)) (.node (ob1 P (nat_lit 70)) (.node (ob1 P (nat_lit 134)) .nil .nil) .nil) (.node (ob1 P (nat_lit 102)) .nil .nil)) (.node (ob1 P (nat_lit 54)) (.node (ob1 P (nat_lit 86)) (.node (ob1 P (nat_lit 150)) .nil .nil) .nil) (.node (ob1 P (nat_lit 118)) .nil .nil))) (.node (ob1 P (nat_lit 30)) (.node (ob1 P (nat_lit 46)) (.node (ob1 P (nat_lit 78)) (.node (ob1 P (nat_lit 142)) .nil .nil) .nil) (.node (ob1 P (nat_lit 110)) .nil .nil)) (.node (ob1 P (nat_lit 62)) (.node (ob1 P (nat_lit 94)) .nil .nil) (.node (ob1 P (nat_lit 126)) .nil .nil))))))
noncomputable def st1_2 : List Stmt := ((behindTheImports Challenge.pw_lp0002_01).drop 8).take 1
noncomputable def mo1_10_3 (P : Params) : Obj := .mk (.type "dict") none (.dict #[.mk (PyData.keyHash P (ofString "__name__")) (.str (ofString "__name__") 165) (.str (ofString "s2sphere.sphere") 194),.mk (PyData.keyHash P (ofString "__doc__")) (.str (ofString "__doc__") 166) .none,.mk (PyData.keyHash P (ofString "__package__")) (.str (ofString "__package__") 167) .none,.mk (PyData.keyHash P (ofString "__loader__")) (.str (ofString "__loader__") 168) (.builtin "__main__.__loader__#opaque"),.mk (PyData.keyHash P (ofString "__spec__")) (.str (ofString "__spec__") 169) .none,.mk (PyData.keyHash P (ofString "__annotations__")) (.str (ofString "__annotations__") 170) (.ref 6),.mk (PyData.keyHash P (ofString "__builtins__")) (.str (ofString "__builtins__") 171) (.ref 4),.mk (PyData.keyHash P (ofString "__file__")) (.str (ofString "__file__") 173) (.str (ofString "/claim/cut.py") 172),.mk (PyData.keyHash P (ofString "__cached__")) (.str (ofString "__cached__") 174) .none,.mk (PyData.keyHash P (ofString "_wall")) (.str (ofString "_wall") 193) (.ref 21),.mk (PyData.keyHash P (ofString "Point")) (.str (ofString "Point") 338) (.ref 134),.mk (PyData.keyHash P (ofString "LOOKUP_BITS")) (.str (ofString "LOOKUP_BITS") 340) (.int 4 339),.mk (PyData.keyHash P (ofString "SWAP_MASK")) (.str (ofString "SWAP_MASK") 342) (.int 1 341),.mk (PyData.keyHash P (ofString "INVERT_MASK")) (.str (ofString "INVERT_MASK") 344) (.int 2 343),.mk (PyData.keyHash P (ofString "POS_TO_ORIENTATION")) (.str (ofString "POS_TO_ORIENTATION") 349) (.ref 139),.mk (PyData.keyHash P (ofString "LOOKUP_POS")) (.str (ofString "LOOKUP_POS") 1374) (.ref 148),.mk (PyData.keyHash P (ofString "LOOKUP_IJ")) (.str (ofString "LOOKUP_IJ") 2399) (.ref 157),.mk (PyData.keyHash P (ofString "CellId")) (.str (ofString "CellId") 3009) (.ref 561)] 18) #[]
noncomputable def mo1_10_12 (P : Params) : Obj := .mk .none none (.fields #[.int 1 0,.int 0 0,.ref 20,.int 5 0,.int 0 0,.ref 27,.int 68 0,.int 0 0,.ref 163]) #[]
noncomputable def tm1_10 (P : Params) : BT := .node (boot_o_0 P) (.node (boot_o_1 P) (.node (mo1_10_3 P) (.node (boot_o_7 P) (.node (ob1 P (nat_lit 15)) (.node (ob1 P (nat_lit 31)) (.node (ob1 P (nat_lit 63)) (.node (ob1 P (nat_lit 127)) (.node (ob1 P (nat_lit 255)) (.node (ob1 P (nat_lit 511)) .nil .nil) .nil) (.node (ob1 P (nat_lit 383)) .nil .nil)) (.node (ob1 P (nat_lit 191)) (.node (ob1 P (nat_lit 319)) .nil .nil) (.node (ob1 P (nat_lit 447)) .nil .nil))) (.node (ob1 P (nat_lit 95)) (.node (ob1 P (nat_lit 159)) (.node (ob1 P (nat_lit 287)) (.node (ob1 P (nat_lit 543)) .nil .nil) .nil) (.node (ob1 P (nat_lit 415)) .nil .nil)) (.node (ob1 P (nat_lit 223)) (.node (ob1 P (nat_lit 351)) .nil .nil) (.node (ob1 P (nat_lit 479)) .nil .nil)))) (.node (ob1 P (nat_lit 47)) (.node (ob1 P (nat_lit 79)) (.node (ob1 P (nat_lit 143)) (.node (ob1 P (nat_lit 271)) (.node (ob1 P (nat_lit 527)) .nil .nil) .nil) (.node (ob1 P (nat_lit 399)) .nil .nil)) (.node (ob1 P (nat_lit 207)) (.node (ob1 P (nat_lit 335)) .nil .nil) (.node (ob1 P (nat_lit 463)) .nil .nil))) (.node (ob1 P (nat_lit 111)) (.node (ob1 P (nat_lit 175)) (.node (ob1 P (nat_lit 303)) (.node (ob1 P (nat_lit 559)) .nil .nil) .nil) (.node (ob1 P (nat_lit 431)) .nil .nil)) (.node (ob1 P (nat_lit 239)) (.node (ob1 P (nat_lit 367)) .nil .nil) (.node (ob1 P (nat_lit 495)) .nil .nil))))) (.node (ob1 P (nat_lit 23)) (.node (ob1 P (nat_lit 39)) (.node (ob1 P (nat_lit 71)) (.node (ob1 P (nat_lit 135)) (.node (ob1 P (nat_lit 263)) (.node (ob1 P (nat_lit 519)) .nil .nil) .nil) (.node (ob1 P (nat_lit 391)) .nil .nil)) (.node (ob1 P (nat_lit 199)) (.node (ob1 P (nat_lit 327)) .nil .nil) (.node (ob1 P (nat_lit 455)) .nil .nil))) (.node (ob1 P (nat_lit 103)) (.node (ob1 P (nat_lit 167)) (.node (ob1 P (nat_lit 295)) (.node (ob1 P (nat_lit 551)) .nil .nil) .nil) (.node (ob1 P (nat_lit 423)) .nil .nil)) (.node (ob1 P (nat_lit 231)) (.node (ob1 P (nat_lit 359)) .nil .nil) (.node (ob1 P (nat_lit 487)) .nil .nil)))) (.node (ob1 P (nat_lit 55)) (.node (ob1 P (nat_lit 87)) (.node (ob1 P (nat_lit 151)) (.node (ob1 P (nat_lit 279)) (.node (ob1 P (nat_lit 535)) .nil .nil) .nil) (.node (ob1 P (nat_lit 407)) .nil .nil)) (.node (ob1 P (nat_lit 215)) (.node (ob1 P (nat_lit 343)) .nil .nil) (.node (ob1 P (nat_lit 471)) .nil .nil))) (.node (ob1 P (nat_lit 119)) (.node (ob1 P (nat_lit 183)) (.node (ob1 P (nat_lit 311)) .nil .nil) (.node (ob1 P (nat_lit 439)) .nil .nil)) (.node (ob1 P (nat_lit 247)) (.node (ob1 P (nat_lit 375)) .nil .nil) (.node (ob1 P (nat_lit 503)) .nil .nil)))))) (.node (ob1 P (nat_lit 11)) (.node (ob1 P (nat_lit 19)) (.node (ob1 P (nat_lit 35)) (.node (ob1 P (nat_lit 67)) (.node (ob1 P (nat_lit 131)) (.node (ob1 P (nat_lit 259)) (.node (ob1 P (nat_lit 515)) .nil .nil) .nil) (.node (ob1 P (nat_lit 387)) .nil .nil)) (.node (ob1 P (nat_lit 195)) (.node (ob1 P (nat_lit 323)) .nil .nil) (.node (ob1 P (nat_lit 451)) .nil .nil))) (.node (ob1 P (nat_lit 99)) (.node (ob1 P (nat_lit 163)) (.node (ob1 P (nat_lit 291)) (.node (ob1 P (nat_lit 547)) .nil .nil) .nil) (.node (ob1 P (nat_lit 419)) .nil .nil)) (.node (ob1 P (nat_lit 227)) (.node (ob1 P (nat_lit 355)) .nil .nil) (.node (ob1 P (nat_lit 483)) .nil .nil)))) (.node (ob1 P (nat_lit 51)) (.node (ob1 P (nat_lit 83)) (.node (ob1 P (nat_lit 147)) (.node (ob1 P (nat_lit 275)) (.node (ob1 P (nat_lit 531)) .nil .nil) .nil) (.node (ob1 P (nat_lit 403)) .nil .nil)) (.node (ob1 P (nat_lit 211)) (.node (ob1 P (nat_lit 339)) .nil .nil) (.node (ob1 P (nat_lit 467)) .nil .nil))) (.node (ob1 P (nat_lit 115)) (.node (ob1 P (nat_lit 179)) (.node (ob1 P (nat_lit 307)) (.node (ob1 P (nat_lit 563)) .nil .nil) .nil) (.node (ob1 P (nat_lit 435)) .nil .nil)) (.node (ob1 P (nat_lit 243)) (.node (ob1 P (nat_lit 371)) .nil .nil) (.node (ob1 P (nat_lit 499)) .nil .nil))))) (.node (ob1 P (nat_lit 27)) (.node (ob1 P (nat_lit 43)) (.node (ob1 P (nat_lit 75)) (.node (ob1 P (nat_lit 139)) (.node (ob1 P (nat_lit 267)) (.node (ob1 P (nat_lit 523)) .nil .nil) .nil) (.node (ob1 P (nat_lit 395)) .nil .nil)) (.node (ob1 P (nat_lit 203)) (.node (ob1 P (nat_lit 331)) .nil .nil) (.node (ob1 P (nat_lit 459)) .nil .nil))) (.node (ob1 P (nat_lit 107)) (.node (ob1 P (nat_lit 171)) (.node (ob1 P (nat_lit 299)) (.node (ob1 P (nat_lit 555)) .nil .nil) .nil) (.node (ob1 P (nat_lit 427)) .nil .nil)) (.node (ob1 P (nat_lit 235)) (.node (ob1 P (nat_lit 363)) .nil .nil) (.node (ob1 P (nat_lit 491)) .nil .nil)))) (.node (ob1 P (nat_lit 59)) (.node (ob1 P (nat_lit 91)) (.node (ob1 P (nat_lit 155)) (.node (ob1 P (nat_lit 283)) (.node (ob1 P (nat_lit 539)) .nil .nil) .nil) (.node (ob1 P (nat_lit 411)) .nil .nil)) (.node (ob1 P (nat_lit 219)) (.node (ob1 P (nat_lit 347)) .nil .nil) (.node (ob1 P (nat_lit 475)) .nil .nil))) (.node (ob1 P (nat_lit 123)) (.node (ob1 P (nat_lit 187)) (.node (ob1 P (nat_lit 315)) .nil .nil) (.node (ob1 P (nat_lit 443)) .nil .nil)) (.node (ob1 P (nat_lit 251)) (.node (ob1 P (nat_lit 379)) .nil .nil) (.node (ob1 P (nat_lit 507)) .nil .nil))))))) (.node (boot_o_5 P) (.node (boot_o_9 P) (.node (ob1 P (nat_lit 17)) (.node (ob1 P (nat_lit 33)) (.node (ob1 P (nat_lit 65)) (.node (ob1 P (nat_lit 129)) (.node (ob1 P (nat_lit 257)) (.node (ob1 P (nat_lit 513)) .nil .nil) .nil) (.node (ob1 P (nat_lit 385)) .nil .nil)) (.node (ob1 P (nat_lit 193)) (.node (ob1 P (nat_lit 321)) .nil .nil) (.node (ob1 P (nat_lit 449)) .nil .nil))) (.node (ob1 P (nat_lit 97)) (.node (ob1 P (nat_lit 161)) (.node (ob1 P (nat_lit 289)) (.node (ob1 P (nat_lit 545)) .nil .nil) .nil) (.node (ob1 P (nat_lit 417)) .nil .nil)) (.node (ob1 P (nat_lit 225)) (.node (ob1 P (nat_lit 353)) .nil .nil) (.node (ob1 P (nat_lit 481)) .nil .nil)))) (.node (ob1 P (nat_lit 49)) (.node (ob1 P (nat_lit 81)) (.node (ob1 P (nat_lit 145)) (.node (ob1 P (nat_lit 273)) (.node (ob1 P (nat_lit 529)) .nil .nil) .nil) (.node (ob1 P (nat_lit 401)) .nil .nil)) (.node (ob1 P (nat_lit 209)) (.node (ob1 P (nat_lit 337)) .nil .nil) (.node (ob1 P (nat_lit 465)) .nil .nil))) (.node (ob1 P (nat_lit 113)) (.node (ob1 P (nat_lit 177)) (.node (ob1 P (nat_lit 305)) (.node (ob1 P (nat_lit 561)) .nil .nil) .nil) (.node (ob1 P (nat_lit 433)) .nil .nil)) (.node (ob1 P (nat_lit 241)) (.node (ob1 P (nat_lit 369)) .nil .nil) (.node (ob1 P (nat_lit 497)) .nil .nil))))) (.node (ob1 P (nat_lit 25)) (.node (ob1 P (nat_lit 41)) (.node (ob1 P (nat_lit 73)) (.node (ob1 P (nat_lit 137)) (.node (ob1 P (nat_lit 265)) (.node (ob1 P (nat_lit 521)) .nil .nil) .nil) (.node (ob1 P (nat_lit 393)) .nil .nil)) (.node (ob1 P (nat_lit 201)) (.node (ob1 P (nat_lit 329)) .nil .nil) (.node (ob1 P (nat_lit 457)) .nil .nil))) (.node (ob1 P (nat_lit 105)) (.node (ob1 P (nat_lit 169)) (.node (ob1 P (nat_lit 297)) (.node (ob1 P (nat_lit 553)) .nil .nil) .nil) (.node (ob1 P (nat_lit 425)) .nil .nil)) (.node (ob1 P (nat_lit 233)) (.node (ob1 P (nat_lit 361)) .nil .nil) (.node (ob1 P (nat_lit 489)) .nil .nil)))) (.node (ob1 P (nat_lit 57)) (.node (ob1 P (nat_lit 89)) (.node (ob1 P (nat_lit 153)) (.node (ob1 P (nat_lit 281)) (.node (ob1 P (nat_lit 537)) .nil .nil) .nil) (.node (ob1 P (nat_lit 409)) .nil .nil)) (.node (ob1 P (nat_lit 217)) (.node (ob1 P (nat_lit 345)) .nil .nil) (.node (ob1 P (nat_lit 473)) .nil .nil))) (.node (ob1 P (nat_lit 121)) (.node (ob1 P (nat_lit 185)) (.node (ob1 P (nat_lit 313)) .nil .nil) (.node (ob1 P (nat_lit 441)) .nil .nil)) (.node (ob1 P (nat_lit 249)) (.node (ob1 P (nat_lit 377)) .nil .nil) (.node (ob1 P (nat_lit 505)) .nil .nil)))))) (.node (ob1 P (nat_lit 13)) (.node (ob1 P (nat_lit 21)) (.node (ob1 P (nat_lit 37)) (.node (ob1 P (nat_lit 69)) (.node (ob1 P (nat_lit 133)) (.node (ob1 P (nat_lit 261)) (.node (ob1 P (nat_lit 517)) .nil .nil) .nil) (.node (ob1 P (nat_lit 389)) .nil .nil)) (.node (ob1 P (nat_lit 197)) (.node (ob1 P (nat_lit 325)) .nil .nil) (.node (ob1 P (nat_lit 453)) .nil .nil))) (.node (ob1 P (nat_lit 101)) (.node (ob1 P (nat_lit 165)) (.node (ob1 P (nat_lit 293)) (.node (ob1 P (nat_lit 549)) .nil .nil) .nil) (.node (ob1 P (nat_lit 421)) .nil .nil)) (.node (ob1 P (nat_lit 229)) (.node (ob1 P (nat_lit 357)) .nil .nil) (.node (ob1 P (nat_lit 485)) .nil .nil)))) (.node (ob1 P (nat_lit 53)) (.node (ob1 P (nat_lit 85)) (.node (ob1 P (nat_lit 149)) (.node (ob1 P (nat_lit 277)) (.node (ob1 P (nat_lit 533)) .nil .nil) .nil) (.node (ob1 P (nat_lit 405)) .nil .nil)) (.node (ob1 P (nat_lit 213)) (.node (ob1 P (nat_lit 341)) .nil .nil) (.node (ob1 P (nat_lit 469)) .nil .nil))) (.node (ob1 P (nat_lit 117)) (.node (ob1 P (nat_lit 181)) (.node (ob1 P (nat_lit 309)) (.node (ob1 P (nat_lit 565)) .nil .nil) .nil) (.node (ob1 P (nat_lit 437)) .nil .nil)) (.node (ob1 P (nat_lit 245)) (.node (ob1 P (nat_lit 373)) .nil .nil) (.node (ob1 P (nat_lit 501)) .nil .nil))))) (.node (ob1 P (nat_lit 29)) (.node (ob1 P (nat_lit 45)) (.node (ob1 P (nat_lit 77)) (.node (ob1 P (nat_lit 141)) (.node (ob1 P (nat_lit 269)) (.node (ob1 P (nat_lit 525)) .nil .nil) .nil) (.node (ob1 P (nat_lit 397)) .nil .nil)) (.node (ob1 P (nat_lit 205)) (.node (ob1 P (nat_lit 333)) .nil .nil) (.node (ob1 P (nat_lit 461)) .nil .nil))) (.node (ob1 P (nat_lit 109)) (.node (ob1 P (nat_lit 173)) (.node (ob1 P (nat_lit 301)) (.node (ob1 P (nat_lit 557)) .nil .nil) .nil) (.node (ob1 P (nat_lit 429)) .nil .nil)) (.node (ob1 P (nat_lit 237)) (.node (ob1 P (nat_lit 365)) .nil .nil) (.node (ob1 P (nat_lit 493)) .nil .nil)))) (.node (ob1 P (nat_lit 61)) (.node (ob1 P (nat_lit 93)) (.node (ob1 P (nat_lit 157)) (.node (ob1 P (nat_lit 285)) (.node (ob1 P (nat_lit 541)) .nil .nil) .nil) (.node (ob1 P (nat_lit 413)) .nil .nil)) (.node (ob1 P (nat_lit 221)) (.node (ob1 P (nat_lit 349)) .nil .nil) (.node (ob1 P (nat_lit 477)) .nil .nil))) (.node (ob1 P (nat_lit 125)) (.node (ob1 P (nat_lit 189)) (.node (ob1 P (nat_lit 317)) .nil .nil) (.node (ob1 P (nat_lit 445)) .nil .nil)) (.node (ob1 P (nat_lit 253)) (.node (ob1 P (nat_lit 381)) .nil .nil) (.node (ob1 P (nat_lit 509)) .nil .nil)))))))) (.node (boot_o_2 P) (.node (boot_o_4 P) (.node (boot_o_8 P) (.node (ob1 P (nat_lit 16)) (.node (ob1 P (nat_lit 32)) (.node (ob1 P (nat_lit 64)) (.node (ob1 P (nat_lit 128)) (.node (ob1 P (nat_lit 256)) (.node (ob1 P (nat_lit 512)) .nil .nil) .nil) (.node (ob1 P (nat_lit 384)) .nil .nil)) (.node (ob1 P (nat_lit 192)) (.node (ob1 P (nat_lit 320)) .nil .nil) (.node (ob1 P (nat_lit 448)) .nil .nil))) (.node (ob1 P (nat_lit 96)) (.node (ob1 P (nat_lit 160)) (.node (ob1 P (nat_lit 288)) (.node (ob1 P (nat_lit 544)) .nil .nil) .nil) (.node (ob1 P (nat_lit 416)) .nil .nil)) (.node (ob1 P (nat_lit 224)) (.node (ob1 P (nat_lit 352)) .nil .nil) (.node (ob1 P (nat_lit 480)) .nil .nil)))) (.node (ob1 P (nat_lit 48)) (.node (ob1 P (nat_lit 80)) (.node (ob1 P (nat_lit 144)) (.node (ob1 P (nat_lit 272)) (.node (ob1 P (nat_lit 528)) .nil .nil) .nil) (.node (ob1 P (nat_lit 400)) .nil .nil)) (.node (ob1 P (nat_lit 208)) (.node (ob1 P (nat_lit 336)) .nil .nil) (.node (ob1 P (nat_lit 464)) .nil .nil))) (.node (ob1 P (nat_lit 112)) (.node (ob1 P (nat_lit 176)) (.node (ob1 P (nat_lit 304)) (.node (ob1 P (nat_lit 560)) .nil .nil) .nil) (.node (ob1 P (nat_lit 432)) .nil .nil)) (.node (ob1 P (nat_lit 240)) (.node (ob1 P (nat_lit 368)) .nil .nil) (.node (ob1 P (nat_lit 496)) .nil .nil))))) (.node (ob1 P (nat_lit 24)) (.node (ob1 P (nat_lit 40)) (.node (ob1 P (nat_lit 72)) (.node (ob1 P (nat_lit 136)) (.node (ob1 P (nat_lit 264)) (.node (ob1 P (nat_lit 520)) .nil .nil) .nil) (.node (ob1 P (nat_lit 392)) .nil .nil)) (.node (ob1 P (nat_lit 200)) (.node (ob1 P (nat_lit 328)) .nil .nil) (.node (ob1 P (nat_lit 456)) .nil .nil))) (.node (ob1 P (nat_lit 104)) (.node (ob1 P (nat_lit 168)) (.node (ob1 P (nat_lit 296)) (.node (ob1 P (nat_lit 552)) .nil .nil) .nil) (.node (ob1 P (nat_lit 424)) .nil .nil)) (.node (ob1 P (nat_lit 232)) (.node (ob1 P (nat_lit 360)) .nil .nil) (.node (ob1 P (nat_lit 488)) .nil .nil)))) (.node (ob1 P (nat_lit 56)) (.node (ob1 P (nat_lit 88)) (.node (ob1 P (nat_lit 152)) (.node (ob1 P (nat_lit 280)) (.node (ob1 P (nat_lit 536)) .nil .nil) .nil) (.node (ob1 P (nat_lit 408)) .nil .nil)) (.node (ob1 P (nat_lit 216)) (.node (ob1 P (nat_lit 344)) .nil .nil) (.node (ob1 P (nat_lit 472)) .nil .nil))) (.node (ob1 P (nat_lit 120)) (.node (ob1 P (nat_lit 184)) (.node (ob1 P (nat_lit 312)) .nil .nil) (.node (ob1 P (nat_lit 440)) .nil .nil)) (.node (ob1 P (nat_lit 248)) (.node (ob1 P (nat_lit 376)) .nil .nil) (.node (ob1 P (nat_lit 504)) .nil .nil)))))) (.node (mo1_10_12 P) (.node (ob1 P (nat_lit 20)) (.node (ob1 P (nat_lit 36)) (.node (ob1 P (nat_lit 68)) (.node (ob1 P (nat_lit 132)) (.node (ob1 P (nat_lit 260)) (.node (ob1 P (nat_lit 516)) .nil .nil) .nil) (.node (ob1 P (nat_lit 388)) .nil .nil)) (.node (ob1 P (nat_lit 196)) (.node (ob1 P (nat_lit 324)) .nil .nil) (.node (ob1 P (nat_lit 452)) .nil .nil))) (.node (ob1 P (nat_lit 100)) (.node (ob1 P (nat_lit 164)) (.node (ob1 P (nat_lit 292)) (.node (ob1 P (nat_lit 548)) .nil .nil) .nil) (.node (ob1 P (nat_lit 420)) .nil .nil)) (.node (ob1 P (nat_lit 228)) (.node (ob1 P (nat_lit 356)) .nil .nil) (.node (ob1 P (nat_lit 484)) .nil .nil)))) (.node (ob1 P (nat_lit 52)) (.node (ob1 P (nat_lit 84)) (.node (ob1 P (nat_lit 148)) (.node (ob1 P (nat_lit 276)) (.node (ob1 P (nat_lit 532)) .nil .nil) .nil) (.node (ob1 P (nat_lit 404)) .nil .nil)) (.node (ob1 P (nat_lit 212)) (.node (ob1 P (nat_lit 340)) .nil .nil) (.node (ob1 P (nat_lit 468)) .nil .nil))) (.node (ob1 P (nat_lit 116)) (.node (ob1 P (nat_lit 180)) (.node (ob1 P (nat_lit 308)) (.node (ob1 P (nat_lit 564)) .nil .nil) .nil) (.node (ob1 P (nat_lit 436)) .nil .nil)) (.node (ob1 P (nat_lit 244)) (.node (ob1 P (nat_lit 372)) .nil .nil) (.node (ob1 P (nat_lit 500)) .nil .nil))))) (.node (ob1 P (nat_lit 28)) (.node (ob1 P (nat_lit 44)) (.node (ob1 P (nat_lit 76)) (.node (ob1 P (nat_lit 140)) (.node (ob1 P (nat_lit 268)) (.node (ob1 P (nat_lit 524)) .nil .nil) .nil) (.node (ob1 P (nat_lit 396)) .nil .nil)) (.node (ob1 P (nat_lit 204)) (.node (ob1 P (nat_lit 332)) .nil .nil) (.node (ob1 P (nat_lit 460)) .nil .nil))) (.node (ob1 P (nat_lit 108)) (.node (ob1 P (nat_lit 172)) (.node (ob1 P (nat_lit 300)) (.node (ob1 P (nat_lit 556)) .nil .nil) .nil) (.node (ob1 P (nat_lit 428)) .nil .nil)) (.node (ob1 P (nat_lit 236)) (.node (ob1 P (nat_lit 364)) .nil .nil) (.node (ob1 P (nat_lit 492)) .nil .nil)))) (.node (ob1 P (nat_lit 60)) (.node (ob1 P (nat_lit 92)) (.node (ob1 P (nat_lit 156)) (.node (ob1 P (nat_lit 284)) (.node (ob1 P (nat_lit 540)) .nil .nil) .nil) (.node (ob1 P (nat_lit 412)) .nil .nil)) (.node (ob1 P (nat_lit 220)) (.node (ob1 P (nat_lit 348)) .nil .nil) (.node (ob1 P (nat_lit 476)) .nil .nil))) (.node (ob1 P (nat_lit 124)) (.node (ob1 P (nat_lit 188)) (.node (ob1 P (nat_lit 316)) .nil .nil) (.node (ob1 P (nat_lit 444)) .nil .nil)) (.node (ob1 P (nat_lit 252)) (.node (ob1 P (nat_lit 380)) .nil .nil) (.node (ob1 P (nat_lit 508)) .nil .nil))))))) (.node (boot_o_6 P) (.node (boot_o_10 P) (.node (ob1 P (nat_lit 18)) (.node (ob1 P (nat_lit 34)) (.node (ob1 P (nat_lit 66)) (.node (ob1 P (nat_lit 130)) (.node (ob1 P (nat_lit 258)) (.node (ob1 P (nat_lit 514)) .nil .nil) .nil) (.node (ob1 P (nat_lit 386)) .nil .nil)) (.node (ob1 P (nat_lit 194)) (.node (ob1 P (nat_lit 322)) .nil .nil) (.node (ob1 P (nat_lit 450)) .nil .nil))) (.node (ob1 P (nat_lit 98)) (.node (ob1 P (nat_lit 162)) (.node (ob1 P (nat_lit 290)) (.node (ob1 P (nat_lit 546)) .nil .nil) .nil) (.node (ob1 P (nat_lit 418)) .nil .nil)) (.node (ob1 P (nat_lit 226)) (.node (ob1 P (nat_lit 354)) .nil .nil) (.node (ob1 P (nat_lit 482)) .nil .nil)))) (.node (ob1 P (nat_lit 50)) (.node (ob1 P (nat_lit 82)) (.node (ob1 P (nat_lit 146)) (.node (ob1 P (nat_lit 274)) (.node (ob1 P (nat_lit 530)) .nil .nil) .nil) (.node (ob1 P (nat_lit 402)) .nil .nil)) (.node (ob1 P (nat_lit 210)) (.node (ob1 P (nat_lit 338)) .nil .nil) (.node (ob1 P (nat_lit 466)) .nil .nil))) (.node (ob1 P (nat_lit 114)) (.node (ob1 P (nat_lit 178)) (.node (ob1 P (nat_lit 306)) (.node (ob1 P (nat_lit 562)) .nil .nil) .nil) (.node (ob1 P (nat_lit 434)) .nil .nil)) (.node (ob1 P (nat_lit 242)) (.node (ob1 P (nat_lit 370)) .nil .nil) (.node (ob1 P (nat_lit 498)) .nil .nil))))) (.node (ob1 P (nat_lit 26)) (.node (ob1 P (nat_lit 42)) (.node (ob1 P (nat_lit 74)) (.node (ob1 P (nat_lit 138)) (.node (ob1 P (nat_lit 266)) (.node (ob1 P (nat_lit 522)) .nil .nil) .nil) (.node (ob1 P (nat_lit 394)) .nil .nil)) (.node (ob1 P (nat_lit 202)) (.node (ob1 P (nat_lit 330)) .nil .nil) (.node (ob1 P (nat_lit 458)) .nil .nil))) (.node (ob1 P (nat_lit 106)) (.node (ob1 P (nat_lit 170)) (.node (ob1 P (nat_lit 298)) (.node (ob1 P (nat_lit 554)) .nil .nil) .nil) (.node (ob1 P (nat_lit 426)) .nil .nil)) (.node (ob1 P (nat_lit 234)) (.node (ob1 P (nat_lit 362)) .nil .nil) (.node (ob1 P (nat_lit 490)) .nil .nil)))) (.node (ob1 P (nat_lit 58)) (.node (ob1 P (nat_lit 90)) (.node (ob1 P (nat_lit 154)) (.node (ob1 P (nat_lit 282)) (.node (ob1 P (nat_lit 538)) .nil .nil) .nil) (.node (ob1 P (nat_lit 410)) .nil .nil)) (.node (ob1 P (nat_lit 218)) (.node (ob1 P (nat_lit 346)) .nil .nil) (.node (ob1 P (nat_lit 474)) .nil .nil))) (.node (ob1 P (nat_lit 122)) (.node (ob1 P (nat_lit 186)) (.node (ob1 P (nat_lit 314)) .nil .nil) (.node (ob1 P (nat_lit 442)) .nil .nil)) (.node (ob1 P (nat_lit 250)) (.node (ob1 P (nat_lit 378)) .nil .nil) (.node (ob1 P (nat_lit 506)) .nil .nil)))))) (.node (ob1 P (nat_lit 14)) (.node (ob1 P (nat_lit 22)) (.node (ob1 P (nat_lit 38)) (.node (ob1 P (nat_lit 70)) (.node (ob1 P (nat_lit 134)) (.node (ob1 P (nat_lit 262)) (.node (ob1 P (nat_lit 518)) .nil .nil) .nil) (.node (ob1 P (nat_lit 390)) .nil .nil)) (.node (ob1 P (nat_lit 198)) (.node (ob1 P (nat_lit 326)) .nil .nil) (.node (ob1 P (nat_lit 454)) .nil .nil))) (.node (ob1 P (nat_lit 102)) (.node (ob1 P (nat_lit 166)) (.node (ob1 P (nat_lit 294)) (.node (ob1 P (nat_lit 550)) .nil .nil) .nil) (.node (ob1 P (nat_lit 422)) .nil .nil)) (.node (ob1 P (nat_lit 230)) (.node (ob1 P (nat_lit 358)) .nil .nil) (.node (ob1 P (nat_lit 486)) .nil .nil)))) (.node (ob1 P (nat_lit 54)) (.node (ob1 P (nat_lit 86)) (.node (ob1 P (nat_lit 150)) (.node (ob1 P (nat_lit 278)) (.node (ob1 P (nat_lit 534)) .nil .nil) .nil) (.node (ob1 P (nat_lit 406)) .nil .nil)) (.node (ob1 P (nat_lit 214)) (.node (ob1 P (nat_lit 342)) .nil .nil) (.node (ob1 P (nat_lit 470)) .nil .nil))) (.node (ob1 P (nat_lit 118)) (.node (ob1 P (nat_lit 182)) (.node (ob1 P (nat_lit 310)) .nil .nil) (.node (ob1 P (nat_lit 438)) .nil .nil)) (.node (ob1 P (nat_lit 246)) (.node (ob1 P (nat_lit 374)) .nil .nil) (.node (ob1 P (nat_lit 502)) .nil .nil))))) (.node (ob1 P (nat_lit 30)) (.node (ob1 P (nat_lit 46)) (.node (ob1 P (nat_lit 78)) (.node (ob1 P (nat_lit 142)) (.node (ob1 P (nat_lit 270)) (.node (ob1 P (nat_lit 526)) .nil .nil) .nil) (.node (ob1 P (nat_lit 398)) .nil .nil)) (.node (ob1 P (nat_lit 206)) (.node (ob1 P (nat_lit 334)) .nil .nil) (.node (ob1 P (nat_lit 462)) .nil .nil))) (.node (ob1 P (nat_lit 110)) (.node (ob1 P (nat_lit 174)) (.node (ob1 P (nat_lit 302)) (.node (ob1 P (nat_lit 558)) .nil .nil) .nil) (.node (ob1 P (nat_lit 430)) .nil .nil)) (.node (ob1 P (nat_lit 238)) (.node (ob1 P (nat_lit 366)) .nil .nil) (.node (ob1 P (nat_lit 494)) .nil .nil)))) (.node (ob1 P (nat_lit 62)) (.node (ob1 P (nat_lit 94)) (.node (ob1 P (nat_lit 158)) (.node (ob1 P (nat_lit 286)) (.node (ob1 P (nat_lit 542)) .nil .nil) .nil) (.node (ob1 P (nat_lit 414)) .nil .nil)) (.node (ob1 P (nat_lit 222)) (.node (ob1 P (nat_lit 350)) .nil .nil) (.node (ob1 P (nat_lit 478)) .nil .nil))) (.node (ob1 P (nat_lit 126)) (.node (ob1 P (nat_lit 190)) (.node (ob1 P (nat_lit 318)) .nil .nil) (.node (ob1 P (nat_lit 446)) .nil .nil)) (.node (ob1 P (nat_lit 254)) (.node (ob1 P (nat_lit 382)) .nil .nil) (.node (ob1 P (nat_lit 510)) .nil .nil))))))))
noncomputable def st1_3 : List Stmt := ((behindTheImports Challenge.pw_lp0002_01).drop 9).take 1
noncomputable def st1_4 : List Stmt := ((behindTheImports Challenge.pw_lp0002_01).drop 10).take 14
theorem pre1 (w : World) (os : OsState) : topGo treeTable Challenge.pw_lp0002_01 w 11 (some (Value.ref 6)) 12 ⟨boot_heap w.params, (Array.mk []), boot_drawn, boot_toks, os⟩ (topStub Challenge.pw_lp0002_01) =
    some (⟨ha1 w.params, (Array.mk []), (Drawn.mk 0 0 0 0), 187, os⟩, ⟨denote treeTable cd1, cd1, (Pos.mk 0 0 0 0), [topFrame (Pos.mk 0 0 0 0)]⟩) := by kernel_rfl
theorem block1 (w : World) (os : OsState) : segRun treeTable Challenge.pw_lp0002_01 w 11 (some (Value.ref 6)) 1 1 ⟨ha1 w.params, (Array.mk []), (Drawn.mk 0 0 0 0), 187, os⟩ (blockOf (behindTheImports Challenge.pw_lp0002_01) env1 cd1 (Pos.mk 0 0 0 0) [topFrame (Pos.mk 0 0 0 0)]) =
    some (.next, SharedT.abs ⟨ta1 w.params, 15, (Life.mk [] [] [] 0 [] [] Bool.false #[] [] 0 Bool.false Bool.false Bool.false 0 [2000, 10, 10] Bool.false 0 Bool.true [] [] 0 Bool.false), (Array.mk []), (Drawn.mk 0 0 0 0), 187, os⟩, cd1, (Pos.mk 0 0 0 0)) := by kernel_rfl
theorem seg1_0 (w : World) (os : OsState) : segRunT treeTable Challenge.pw_lp0002_01 w 11 (some (Value.ref 6)) 1 755 (SharedT.mk (ta1 w.params) 15 (Life.mk [] [] [] 0 [] [] Bool.false #[] [] 0 Bool.false Bool.false Bool.false 0 [2000, 10, 10] Bool.false 0 Bool.true [] [] 0 Bool.false) (Array.mk []) (Drawn.mk 0 0 0 0) 187 os) (piecesOf st1_0 env1 cd1 (Pos.mk 0 0 0 0) [topFrame (Pos.mk 0 0 0 0)]) =
    some (.next, SharedT.mk (tm1_7 w.params) 140 (Life.mk [] [] [] 0 [] [] Bool.false #[] [] 0 Bool.false Bool.false Bool.false 0 [2000, 10, 10] Bool.false 0 Bool.true [] [] 0 Bool.false) (Array.mk []) (Drawn.mk 0 0 0 0) 350 os, cd1, (Pos.mk 65 0 65 18)) := by kernel_rfl
theorem seg1_1 (w : World) (os : OsState) : segRunT treeTable Challenge.pw_lp0002_01 w 11 (some (Value.ref 6)) 1 1051 (SharedT.mk (tm1_7 w.params) 140 (Life.mk [] [] [] 0 [] [] Bool.false #[] [] 0 Bool.false Bool.false Bool.false 0 [2000, 10, 10] Bool.false 0 Bool.true [] [] 0 Bool.false) (Array.mk []) (Drawn.mk 0 0 0 0) 350 os) (piecesOf st1_1 env1 cd1 (Pos.mk 65 0 65 18) [topFrame (Pos.mk 0 0 0 0)]) =
    some (.next, SharedT.mk (tm1_8 w.params) 149 (Life.mk [] [] [] 0 [] [] Bool.false #[] [] 0 Bool.false Bool.false Bool.false 0 [2000, 10, 10] Bool.false 0 Bool.true [] [] 0 Bool.false) (Array.mk []) (Drawn.mk 0 0 0 0) 1375 os, cd1, (Pos.mk 66 0 66 10)) := by kernel_rfl
theorem seg1_2 (w : World) (os : OsState) : segRunT treeTable Challenge.pw_lp0002_01 w 11 (some (Value.ref 6)) 1 1051 (SharedT.mk (tm1_8 w.params) 149 (Life.mk [] [] [] 0 [] [] Bool.false #[] [] 0 Bool.false Bool.false Bool.false 0 [2000, 10, 10] Bool.false 0 Bool.true [] [] 0 Bool.false) (Array.mk []) (Drawn.mk 0 0 0 0) 1375 os) (piecesOf st1_2 env1 cd1 (Pos.mk 66 0 66 10) [topFrame (Pos.mk 0 0 0 0)]) =
    some (.next, SharedT.mk (tm1_9 w.params) 158 (Life.mk [] [] [] 0 [] [] Bool.false #[] [] 0 Bool.false Bool.false Bool.false 0 [2000, 10, 10] Bool.false 0 Bool.true [] [] 0 Bool.false) (Array.mk []) (Drawn.mk 0 0 0 0) 2400 os, cd1, (Pos.mk 67 0 67 9)) := by kernel_rfl
theorem seg1_3 (w : World) (os : OsState) : segRunT treeTable Challenge.pw_lp0002_01 w 11 (some (Value.ref 6)) 1 3561 (SharedT.mk (tm1_9 w.params) 158 (Life.mk [] [] [] 0 [] [] Bool.false #[] [] 0 Bool.false Bool.false Bool.false 0 [2000, 10, 10] Bool.false 0 Bool.true [] [] 0 Bool.false) (Array.mk []) (Drawn.mk 0 0 0 0) 2400 os) (piecesOf st1_3 env1 cd1 (Pos.mk 67 0 67 9) [topFrame (Pos.mk 0 0 0 0)]) =
    some (.next, SharedT.mk (tm1_10 w.params) 566 (Life.mk [] [] [] 0 [] [] Bool.false #[] [] 0 Bool.false Bool.false Bool.false 0 [2000, 10, 10] Bool.false 0 Bool.true [] [] 0 Bool.false) (Array.mk []) (Drawn.mk 0 0 0 0) 3010 os, cd1, (Pos.mk 68 0 315 17)) := by kernel_rfl
theorem seg1_4 (w : World) (os : OsState) : segRunT treeTable Challenge.pw_lp0002_01 w 11 (some (Value.ref 6)) 1 428 (SharedT.mk (tm1_10 w.params) 566 (Life.mk [] [] [] 0 [] [] Bool.false #[] [] 0 Bool.false Bool.false Bool.false 0 [2000, 10, 10] Bool.false 0 Bool.true [] [] 0 Bool.false) (Array.mk []) (Drawn.mk 0 0 0 0) 3010 os) (piecesOf st1_4 env1 cd1 (Pos.mk 68 0 315 17) [topFrame (Pos.mk 0 0 0 0)]) =
    some (.next, SharedT.mk (tr1 w.params) 655 (Life.mk [] [] [] 0 [] [] Bool.false #[] [] 0 Bool.false Bool.false Bool.false 0 [2000, 10, 10] Bool.false 0 Bool.true [] [] 0 Bool.false) (Array.mk []) (Drawn.mk 0 0 0 0) 3146 os, cd1, (Pos.mk 399 0 419 15)) := by kernel_rfl
theorem fin1 (w : World) (os : OsState) : topRun treeTable Challenge.pw_lp0002_01 w 11 (some (Value.ref 6)) 2 (SharedT.abs ⟨tr1 w.params, 655, (Life.mk [] [] [] 0 [] [] Bool.false #[] [] 0 Bool.false Bool.false Bool.false 0 [2000, 10, 10] Bool.false 0 Bool.true [] [] 0 Bool.false), (Array.mk []), (Drawn.mk 0 0 0 0), 3146, os⟩) ⟨doneF .next, cd1, (Pos.mk 399 0 419 15), [topFrame (Pos.mk 0 0 0 0)]⟩ =
    some ⟨ht1 w.params, (Array.mk []), (Drawn.mk 0 0 0 0), 3146, os⟩ := by kernel_rfl
theorem app1 : behindTheImports Challenge.pw_lp0002_01 = (st1_0 ++ (st1_1 ++ (st1_2 ++ (st1_3 ++ (st1_4 ++ []))))) := by kernel_rfl
theorem run1 (w : World) (os : OsState) : topRun treeTable Challenge.pw_lp0002_01 w 11 (some (Value.ref 6)) (12 + (1 + (755 + (1051 + (1051 + (3561 + (428 + 2))))))) ⟨boot_heap w.params, (Array.mk []), boot_drawn, boot_toks, os⟩ (topStub Challenge.pw_lp0002_01) =
    some ⟨ht1 w.params, (Array.mk []), (Drawn.mk 0 0 0 0), 3146, os⟩ := by
  have k0 := piece_nil (env := env1) (fin1 w os)
  have k1 := piece_app (segRun_of (seg1_4 w os)) k0
  have k2 := piece_app (segRun_of (seg1_3 w os)) k1
  have k3 := piece_app (segRun_of (seg1_2 w os)) k2
  have k4 := piece_app (segRun_of (seg1_1 w os)) k3
  have k5 := piece_app (segRun_of (seg1_0 w os)) k4
  rw [← app1] at k5
  exact go_top (pre1 w os) (piece_block (block1 w os) k5)
theorem size1 (w : World) : ((boot_heap w.params).isNs mainGlobals && (Array.mk [] : Array GenState).size == 0, (boot_heap w.params).objs.size, (boot_heap w.params).nsMap mainGlobals "__annotations__") = (true, 11, some (Value.ref 6)) := by kernel_rfl
theorem open1 : ∀ w : World, (fencedOpening treeTable Challenge.pw_lp0002_01 w 13808).map (fun s => (s.heap, s.gens, s.drawn, s.toks)) = some (boot_heap w.params, Array.mk [], boot_drawn, boot_toks) :=
  boot_open (by kernel_rfl) (by decide) (fun s => by kernel_rfl)
noncomputable abbrev hook1 : Hook := kHook K1 (nat_lit 2 :: nat_lit 3 :: nat_lit 15 :: nat_lit 17 :: nat_lit 18 :: nat_lit 20 :: nat_lit 21 :: nat_lit 22 :: nat_lit 29 :: nat_lit 31 :: nat_lit 32 :: nat_lit 34 :: nat_lit 35 :: nat_lit 36 :: nat_lit 38 :: nat_lit 39 :: nat_lit 41 :: nat_lit 42 :: nat_lit 43 :: nat_lit 45 :: nat_lit 46 :: nat_lit 48 :: nat_lit 49 :: nat_lit 50 :: nat_lit 52 :: nat_lit 53 :: nat_lit 55 :: nat_lit 56 :: nat_lit 57 :: nat_lit 59 :: nat_lit 60 :: nat_lit 62 :: nat_lit 63 :: nat_lit 64 :: nat_lit 66 :: nat_lit 67 :: nat_lit 69 :: nat_lit 70 :: nat_lit 71 :: nat_lit 73 :: nat_lit 74 :: nat_lit 76 :: nat_lit 77 :: nat_lit 78 :: nat_lit 80 :: nat_lit 81 :: nat_lit 83 :: nat_lit 84 :: nat_lit 85 :: nat_lit 87 :: nat_lit 88 :: nat_lit 90 :: nat_lit 91 :: nat_lit 92 :: nat_lit 94 :: nat_lit 95 :: nat_lit 97 :: nat_lit 98 :: nat_lit 99 :: nat_lit 101 :: nat_lit 102 :: nat_lit 104 :: nat_lit 105 :: nat_lit 106 :: nat_lit 109 :: nat_lit 110 :: nat_lit 111 :: nat_lit 113 :: nat_lit 114 :: nat_lit 116 :: nat_lit 117 :: nat_lit 118 :: nat_lit 120 :: nat_lit 121 :: nat_lit 123 :: nat_lit 124 :: nat_lit 125 :: nat_lit 127 :: nat_lit 128 :: nat_lit 130 :: nat_lit 131 :: nat_lit 132 :: nat_lit 133 :: nat_lit 134 :: nat_lit 135 :: nat_lit 136 :: nat_lit 139 :: nat_lit 140 :: nat_lit 141 :: nat_lit 142 :: nat_lit 143 :: nat_lit 144 :: nat_lit 145 :: nat_lit 146 :: nat_lit 147 :: nat_lit 148 :: nat_lit 149 :: nat_lit 150 :: nat_lit 151 :: nat_lit 152 :: nat_lit 153 :: nat_lit 154 :: nat_lit 155 :: nat_lit 156 :: nat_lit 157 :: nat_lit 158 :: nat_lit 165 :: nat_lit 166 :: nat_lit 168 :: nat_lit 169 :: nat_lit 171 :: nat_lit 172 :: nat_lit 173 :: nat_lit 175 :: nat_lit 176 :: nat_lit 178 :: nat_lit 179 :: nat_lit 180 :: nat_lit 182 :: nat_lit 183 :: nat_lit 185 :: nat_lit 186 :: nat_lit 187 :: nat_lit 189 :: nat_lit 190 :: nat_lit 192 :: nat_lit 193 :: nat_lit 194 :: nat_lit 196 :: nat_lit 197 :: nat_lit 199 :: nat_lit 200 :: nat_lit 201 :: nat_lit 203 :: nat_lit 204 :: nat_lit 206 :: nat_lit 207 :: nat_lit 208 :: nat_lit 210 :: nat_lit 211 :: nat_lit 213 :: nat_lit 214 :: nat_lit 215 :: nat_lit 217 :: nat_lit 218 :: nat_lit 220 :: nat_lit 221 :: nat_lit 222 :: nat_lit 224 :: nat_lit 225 :: nat_lit 227 :: nat_lit 228 :: nat_lit 229 :: nat_lit 231 :: nat_lit 232 :: nat_lit 234 :: nat_lit 235 :: nat_lit 236 :: nat_lit 237 :: nat_lit 238 :: nat_lit 239 :: nat_lit 241 :: nat_lit 242 :: nat_lit 244 :: nat_lit 245 :: nat_lit 246 :: nat_lit 247 :: nat_lit 248 :: nat_lit 249 :: nat_lit 251 :: nat_lit 252 :: nat_lit 254 :: nat_lit 255 :: nat_lit 256 :: nat_lit 257 :: nat_lit 258 :: nat_lit 259 :: nat_lit 261 :: nat_lit 262 :: nat_lit 264 :: nat_lit 265 :: nat_lit 266 :: nat_lit 267 :: nat_lit 268 :: nat_lit 269 :: nat_lit 271 :: nat_lit 272 :: nat_lit 274 :: nat_lit 275 :: nat_lit 276 :: nat_lit 277 :: nat_lit 278 :: nat_lit 279 :: nat_lit 281 :: nat_lit 282 :: nat_lit 284 :: nat_lit 285 :: nat_lit 286 :: nat_lit 287 :: nat_lit 288 :: nat_lit 289 :: nat_lit 291 :: nat_lit 292 :: nat_lit 294 :: nat_lit 295 :: nat_lit 296 :: nat_lit 298 :: nat_lit 299 :: nat_lit 301 :: nat_lit 302 :: nat_lit 303 :: nat_lit 305 :: nat_lit 306 :: nat_lit 308 :: nat_lit 309 :: nat_lit 310 :: nat_lit 312 :: nat_lit 313 :: nat_lit 315 :: nat_lit 316 :: nat_lit 317 :: nat_lit 319 :: nat_lit 320 :: nat_lit 322 :: nat_lit 323 :: nat_lit 324 :: nat_lit 326 :: nat_lit 327 :: nat_lit 329 :: nat_lit 330 :: nat_lit 331 :: nat_lit 333 :: nat_lit 334 :: nat_lit 336 :: nat_lit 337 :: nat_lit 338 :: nat_lit 340 :: nat_lit 341 :: nat_lit 343 :: nat_lit 344 :: nat_lit 345 :: nat_lit 347 :: nat_lit 348 :: nat_lit 350 :: nat_lit 351 :: nat_lit 352 :: nat_lit 354 :: nat_lit 355 :: nat_lit 357 :: nat_lit 358 :: nat_lit 359 :: nat_lit 361 :: nat_lit 362 :: nat_lit 364 :: nat_lit 365 :: nat_lit 366 :: nat_lit 368 :: nat_lit 369 :: nat_lit 371 :: nat_lit 372 :: nat_lit 373 :: nat_lit 375 :: nat_lit 376 :: nat_lit 378 :: nat_lit 379 :: nat_lit 380 :: nat_lit 382 :: nat_lit 383 :: nat_lit 385 :: nat_lit 386 :: nat_lit 387 :: nat_lit 389 :: nat_lit 390 :: nat_lit 392 :: nat_lit 393 :: nat_lit 394 :: nat_lit 396 :: nat_lit 397 :: nat_lit 399 :: nat_lit 400 :: nat_lit 401 :: nat_lit 403 :: nat_lit 404 :: nat_lit 406 :: nat_lit 407 :: nat_lit 408 :: nat_lit 410 :: nat_lit 411 :: nat_lit 413 :: nat_lit 414 :: nat_lit 415 :: nat_lit 417 :: nat_lit 418 :: nat_lit 420 :: nat_lit 421 :: nat_lit 422 :: nat_lit 424 :: nat_lit 425 :: nat_lit 427 :: nat_lit 428 :: nat_lit 429 :: nat_lit 430 :: nat_lit 431 :: nat_lit 432 :: nat_lit 434 :: nat_lit 435 :: nat_lit 437 :: nat_lit 438 :: nat_lit 439 :: nat_lit 440 :: nat_lit 441 :: nat_lit 442 :: nat_lit 444 :: nat_lit 445 :: nat_lit 447 :: nat_lit 448 :: nat_lit 449 :: nat_lit 450 :: nat_lit 451 :: nat_lit 452 :: nat_lit 454 :: nat_lit 455 :: nat_lit 457 :: nat_lit 458 :: nat_lit 459 :: nat_lit 460 :: nat_lit 461 :: nat_lit 462 :: nat_lit 464 :: nat_lit 465 :: nat_lit 467 :: nat_lit 468 :: nat_lit 469 :: nat_lit 470 :: nat_lit 471 :: nat_lit 472 :: nat_lit 474 :: nat_lit 475 :: nat_lit 477 :: nat_lit 478 :: nat_lit 479 :: nat_lit 481 :: nat_lit 482 :: nat_lit 484 :: nat_lit 485 :: nat_lit 486 :: nat_lit 488 :: nat_lit 489 :: nat_lit 491 :: nat_lit 492 :: nat_lit 493 :: nat_lit 495 :: nat_lit 496 :: nat_lit 498 :: nat_lit 499 :: nat_lit 500 :: nat_lit 502 :: nat_lit 503 :: nat_lit 505 :: nat_lit 506 :: nat_lit 507 :: nat_lit 509 :: nat_lit 510 :: nat_lit 512 :: nat_lit 513 :: nat_lit 514 :: nat_lit 516 :: nat_lit 517 :: nat_lit 519 :: nat_lit 520 :: nat_lit 521 :: nat_lit 523 :: nat_lit 524 :: nat_lit 526 :: nat_lit 527 :: nat_lit 528 :: nat_lit 530 :: nat_lit 531 :: nat_lit 533 :: nat_lit 534 :: nat_lit 535 :: nat_lit 537 :: nat_lit 538 :: nat_lit 540 :: nat_lit 541 :: nat_lit 542 :: nat_lit 544 :: nat_lit 545 :: nat_lit 547 :: nat_lit 548 :: nat_lit 549 :: nat_lit 551 :: nat_lit 552 :: nat_lit 554 :: nat_lit 555 :: nat_lit 556 :: nat_lit 557 :: nat_lit 558 :: nat_lit 559 :: nat_lit 560 :: nat_lit 561 :: nat_lit 562 :: nat_lit 563 :: nat_lit 566 :: nat_lit 568 :: nat_lit 569 :: nat_lit 571 :: nat_lit 572 :: nat_lit 573 :: nat_lit 575 :: nat_lit 576 :: nat_lit 578 :: nat_lit 579 :: nat_lit 580 :: nat_lit 582 :: nat_lit 583 :: nat_lit 585 :: nat_lit 586 :: nat_lit 587 :: nat_lit 589 :: nat_lit 590 :: nat_lit 592 :: nat_lit 593 :: nat_lit 594 :: nat_lit 596 :: nat_lit 597 :: nat_lit 599 :: nat_lit 600 :: nat_lit 601 :: nat_lit 603 :: nat_lit 604 :: nat_lit 606 :: nat_lit 607 :: nat_lit 608 :: nat_lit 610 :: nat_lit 611 :: nat_lit 613 :: nat_lit 614 :: nat_lit 615 :: nat_lit 617 :: nat_lit 618 :: nat_lit 620 :: nat_lit 621 :: nat_lit 622 :: nat_lit 624 :: nat_lit 625 :: nat_lit 627 :: nat_lit 628 :: nat_lit 629 :: nat_lit 631 :: nat_lit 632 :: nat_lit 634 :: nat_lit 635 :: nat_lit 636 :: nat_lit 638 :: nat_lit 639 :: nat_lit 641 :: nat_lit 642 :: nat_lit 643 :: nat_lit 645 :: nat_lit 646 :: nat_lit 648 :: nat_lit 649 :: nat_lit 650 :: nat_lit 653 :: nat_lit 654 :: []) (fun _ => by kernel_rfl)
noncomputable abbrev xt1 : Shared → Bool := fun s => xlAt V1 [] s && recOk (RowW.records Challenge.rw_lp0002_01.row.toRowW) s
theorem looksA1 (w : World) (os : OsState) : (staticsOk (importedModules Challenge.pw_lp0002_01.main.body) (boot_heap w.params) (ht1 w.params) && namesBound Challenge.pw_lp0002_01 (ht1 w.params) && gensDone ⟨ht1 w.params, (Array.mk []), (Drawn.mk 0 0 0 0), 3146, os⟩ && laidKept (boot_heap w.params) (ht1 w.params)) = true := by kernel_rfl
theorem looksB1 (w : World) (os : OsState) : openSeen V1 loose1 (importedModules Challenge.pw_lp0002_01.main.body) xt1 true ⟨ht1 w.params, (Array.mk []), (Drawn.mk 0 0 0 0), 3146, os⟩ = openGood V1 loose1 := by kernel_rfl
theorem looksC1 (w : World) (os : OsState) : hook1.obs ⟨ht1 w.params, (Array.mk []), (Drawn.mk 0 0 0 0), 3146, os⟩ = hook1.val w := by kernel_rfl
theorem left1 : LeftO Challenge.pw_lp0002_01 V1 loose1 xt1 hook1.obs hook1.val 13808 true :=
  LeftO.of_pieces open1 size1 run1 (by decide) fun w => funext fun os => looks_pair (looksA1 w os) (looks_pair (looksB1 w os) (looksC1 w os))

def ijpos (o ij : Nat) : Nat := 907975860 / 4 ^ (4 * o + ij) % 4
def posij (o p : Nat) : Nat := 2269870260 / 4 ^ (4 * o + p) % 4
/-- the orientation behind the digit p -/
def nxo (o p : Nat) : Nat := 1047237825 / 4 ^ (4 * o + p) % 4
theorem ijpos_lt (o ij : Nat) : ijpos o ij < 4 := Nat.mod_lt _ (by decide)
theorem posij_lt (o ij : Nat) : posij o ij < 4 := Nat.mod_lt _ (by decide)
theorem nxo_lt {o : Nat} (p : Nat) (_h : o < 4) : nxo o p < 4 := Nat.mod_lt _ (by decide)
theorem pos_ij {o ij : Nat} (ho : o < 4) (hi : ij < 4) : posij o (ijpos o ij) = ij := by
  have key : ∀ o : Fin 4, ∀ ij : Fin 4, posij o.1 (ijpos o.1 ij.1) = ij.1 := by decide +kernel
  exact key ⟨o, ho⟩ ⟨ij, hi⟩
/-- place and last orientation of the cell (i, j) among 4 ^ b -/
def hil : Nat → Nat → Nat → Nat → Nat × Nat
  | 0, o, _, _ => (0, o)
  | b + 1, o, i, j =>
    let p := ijpos o (2 * (i / 2 ^ b % 2) + j / 2 ^ b % 2)
    let r := hil b (nxo o p) i j
    (p * 4 ^ b + r.1, r.2)
theorem hil_lt (b : Nat) : ∀ o i j, (hil b o i j).1 < 4 ^ b := by
  induction b with
  | zero => intro o i j; simp [hil]
  | succ b ih =>
    intro o i j
    simp only [hil]
    have h1 := ijpos_lt o (2 * (i / 2 ^ b % 2) + j / 2 ^ b % 2)
    have h2 := ih (nxo o (ijpos o (2 * (i / 2 ^ b % 2) + j / 2 ^ b % 2))) i j
    generalize ijpos o (2 * (i / 2 ^ b % 2) + j / 2 ^ b % 2) = p at *
    have h3 : p * 4 ^ b ≤ 3 * 4 ^ b := Nat.mul_le_mul_right _ (by omega)
    rw [Nat.pow_succ]
    omega
theorem hil_o (b : Nat) : ∀ o i j, o < 4 → (hil b o i j).2 < 4 := by
  induction b with
  | zero => intro o i j h; simpa [hil] using h
  | succ b ih => intro o i j h; simp only [hil]; exact ih _ _ _ (nxo_lt _ h)
theorem hil_append (a b : Nat) : ∀ o i j, hil (a + b) o i j = ((hil a o (i / 2 ^ b) (j / 2 ^ b)).1 * 4 ^ b + (hil b (hil a o (i / 2 ^ b) (j / 2 ^ b)).2 i j).1, (hil b (hil a o (i / 2 ^ b) (j / 2 ^ b)).2 i j).2) := by
  induction a with
  | zero => intro o i j; simp [hil]
  | succ a ih =>
    intro o i j
    have e : a + 1 + b = (a + b) + 1 := by omega
    rw [e]
    have d : ∀ x : Nat, x / 2 ^ b / 2 ^ a % 2 = x / 2 ^ (a + b) % 2 := by
      intro x
      rw [Nat.div_div_eq_div_mul, ← Nat.pow_add, Nat.add_comm b a]
    simp only [hil, d]
    rw [ih]
    simp only [Prod.mk.injEq, and_true]
    rw [Nat.add_mul, Nat.mul_assoc, ← Nat.pow_add]
    omega
theorem hil_mod (b : Nat) : ∀ o i j i' j', i % 2 ^ b = i' % 2 ^ b → j % 2 ^ b = j' % 2 ^ b → hil b o i j = hil b o i' j' := by
  induction b with
  | zero => intros; rfl
  | succ b ih =>
    intro o i j i' j' hi hj
    have d : ∀ x y : Nat, x % 2 ^ (b + 1) = y % 2 ^ (b + 1) → x / 2 ^ b % 2 = y / 2 ^ b % 2 ∧ x % 2 ^ b = y % 2 ^ b := by
      intro x y h
      constructor
      · have h1 : x % 2 ^ (b + 1) / 2 ^ b = y % 2 ^ (b + 1) / 2 ^ b := by rw [h]
        rwa [Nat.pow_succ, Nat.mod_mul_right_div_self, Nat.mod_mul_right_div_self] at h1
      · have h1 : x % 2 ^ (b + 1) % 2 ^ b = y % 2 ^ (b + 1) % 2 ^ b := by rw [h]
        rwa [Nat.mod_mod_of_dvd _ (Nat.pow_dvd_pow 2 (Nat.le_succ b)), Nat.mod_mod_of_dvd _ (Nat.pow_dvd_pow 2 (Nat.le_succ b))] at h1
    simp only [hil, (d i i' hi).1, (d j j' hj).1]
    rw [ih _ i j i' j' (d i i' hi).2 (d j j' hj).2]
/-- back: the cell of a place: i, j, last orientation -/
def lih : Nat → Nat → Nat → Nat × Nat × Nat
  | 0, o, _ => (0, 0, o)
  | b + 1, o, p =>
    let d := p / 4 ^ b % 4
    let r := lih b (nxo o d) p
    (posij o d / 2 * 2 ^ b + r.1, posij o d % 2 * 2 ^ b + r.2.1, r.2.2)
theorem lih_append (a b : Nat) : ∀ o p, lih (a + b) o p =
    ((lih a o (p / 4 ^ b)).1 * 2 ^ b + (lih b (lih a o (p / 4 ^ b)).2.2 p).1, (lih a o (p / 4 ^ b)).2.1 * 2 ^ b + (lih b (lih a o (p / 4 ^ b)).2.2 p).2.1, (lih b (lih a o (p / 4 ^ b)).2.2 p).2.2) := by
  induction a with
  | zero => intro o p; simp [lih]
  | succ a ih =>
    intro o p
    have e : a + 1 + b = (a + b) + 1 := by omega
    rw [e]
    have d : p / 4 ^ b / 4 ^ a % 4 = p / 4 ^ (a + b) % 4 := by
      rw [Nat.div_div_eq_div_mul, ← Nat.pow_add, Nat.add_comm b a]
    simp only [lih, d]
    rw [ih]
    simp only [Prod.mk.injEq, and_true]
    constructor <;> (rw [Nat.add_mul, Nat.mul_assoc, ← Nat.pow_add]; omega)
theorem lih_lt (b : Nat) : ∀ o p, (lih b o p).1 < 2 ^ b ∧ (lih b o p).2.1 < 2 ^ b := by
  induction b with
  | zero => intro o p; simp [lih]
  | succ b ih =>
    intro o p
    simp only [lih]
    have h1 := posij_lt o (p / 4 ^ b % 4)
    have h2 := ih (nxo o (p / 4 ^ b % 4)) p
    generalize posij o (p / 4 ^ b % 4) = d at *
    have h3 : d / 2 * 2 ^ b ≤ 1 * 2 ^ b := Nat.mul_le_mul_right _ (by omega)
    have h4 : d % 2 * 2 ^ b ≤ 1 * 2 ^ b := Nat.mul_le_mul_right _ (by omega)
    rw [Nat.pow_succ]
    omega
theorem lih_o (b : Nat) : ∀ o p, o < 4 → (lih b o p).2.2 < 4 := by
  induction b with
  | zero => intro o p h; simpa [lih] using h
  | succ b ih => intro o p h; simp only [lih]; exact ih _ _ (nxo_lt _ h)
theorem lih_mod (b : Nat) : ∀ o p q, p % 4 ^ b = q % 4 ^ b → lih b o p = lih b o q := by
  induction b with
  | zero => intros; rfl
  | succ b ih =>
    intro o p q h
    have h1 : p / 4 ^ b % 4 = q / 4 ^ b % 4 := by
      have : p % 4 ^ (b + 1) / 4 ^ b = q % 4 ^ (b + 1) / 4 ^ b := by rw [h]
      rwa [Nat.pow_succ, Nat.mod_mul_right_div_self, Nat.mod_mul_right_div_self] at this
    have h2 : p % 4 ^ b = q % 4 ^ b := by
      have : p % 4 ^ (b + 1) % 4 ^ b = q % 4 ^ (b + 1) % 4 ^ b := by rw [h]
      rwa [Nat.mod_mod_of_dvd _ (Nat.pow_dvd_pow 4 (Nat.le_succ b)), Nat.mod_mod_of_dvd _ (Nat.pow_dvd_pow 4 (Nat.le_succ b))] at this
    simp only [lih, h1]
    rw [ih _ p q h2]
/-- there and back -/
theorem lih_hil (b : Nat) : ∀ o i j, o < 4 → i < 2 ^ b → j < 2 ^ b → lih b o (hil b o i j).1 = (i, j, (hil b o i j).2) := by
  induction b with
  | zero => intro o i j _ hi hj; simp at hi hj; simp [lih, hil, hi, hj]
  | succ b ih =>
    intro o i j ho hi hj
    simp only [hil, lih]
    have hi1 : i / 2 ^ b < 2 := Nat.div_lt_of_lt_mul (by rw [Nat.pow_succ] at hi; omega)
    have hj1 : j / 2 ^ b < 2 := Nat.div_lt_of_lt_mul (by rw [Nat.pow_succ] at hj; omega)
    have hp := ijpos_lt o (2 * (i / 2 ^ b % 2) + j / 2 ^ b % 2)
    have hinv := pos_ij (o := o) (ij := 2 * (i / 2 ^ b % 2) + j / 2 ^ b % 2) ho (by omega)
    generalize ijpos o (2 * (i / 2 ^ b % 2) + j / 2 ^ b % 2) = p at *
    have hr := hil_lt b (nxo o p) i j
    have hz : 0 < 4 ^ b := Nat.pow_pos (by decide)
    have hz2 : 0 < 2 ^ b := Nat.pow_pos (by decide)
    have e1 : (p * 4 ^ b + (hil b (nxo o p) i j).1) / 4 ^ b = p := by
      rw [Nat.mul_comm, Nat.mul_add_div hz, Nat.div_eq_of_lt hr, Nat.add_zero]
    rw [e1, Nat.mod_eq_of_lt hp, hinv]
    have e2 : lih b (nxo o p) (p * 4 ^ b + (hil b (nxo o p) i j).1) = lih b (nxo o p) (hil b (nxo o p) (i % 2 ^ b) (j % 2 ^ b)).1 := by
      rw [hil_mod b (nxo o p) i j (i % 2 ^ b) (j % 2 ^ b) (Nat.mod_mod _ _).symm (Nat.mod_mod _ _).symm]
      exact lih_mod b _ _ _ (by rw [Nat.mul_comm, Nat.mul_add_mod])
    rw [e2, ih (nxo o p) (i % 2 ^ b) (j % 2 ^ b) (nxo_lt _ ho) (Nat.mod_lt _ hz2) (Nat.mod_lt _ hz2), ← hil_mod b (nxo o p) i j (i % 2 ^ b) (j % 2 ^ b) (Nat.mod_mod _ _).symm (Nat.mod_mod _ _).symm]
    have aux : ∀ x y : Nat, x < 2 → y < 2 → (2 * (x % 2) + y % 2) / 2 = x ∧ (2 * (x % 2) + y % 2) % 2 = y := by omega
    obtain ⟨q1, q2⟩ := aux _ _ hi1 hj1
    have q3 := Nat.div_add_mod i (2 ^ b)
    have q4 := Nat.div_add_mod j (2 ^ b)
    simp only [Prod.mk.injEq, and_true, q1, q2]
    rw [Nat.mul_comm] at q3 q4
    exact ⟨q3, q4⟩
/-- the digits 2 0 0 .. : one of the two middle places, the same for i and j -/
theorem lih_zero (b : Nat) : ∀ o, o < 4 → (o < 2 → (lih b o 0).1 = 0 ∧ (lih b o 0).2.1 = 0) ∧ (2 ≤ o → (lih b o 0).1 = 2 ^ b - 1 ∧ (lih b o 0).2.1 = 2 ^ b - 1) := by
  induction b with
  | zero => intro o _; simp [lih]
  | succ b ih =>
    intro o ho
    have hz2 : 0 < 2 ^ b := Nat.pow_pos (by decide)
    simp only [lih, Nat.zero_div, Nat.zero_mod]
    have hc : o = 0 ∨ o = 1 ∨ o = 2 ∨ o = 3 := by omega
    rcases hc with rfl | rfl | rfl | rfl
    · have := (ih 1 (by decide)).1 (by decide); simp [nxo, posij, this]
    · have := (ih 0 (by decide)).1 (by decide); simp [nxo, posij, this]
    · have := (ih 3 (by decide)).2 (by decide); simp [nxo, posij, this, Nat.pow_succ]; omega
    · have := (ih 2 (by decide)).2 (by decide); simp [nxo, posij, this, Nat.pow_succ]; omega
theorem lih_mid (b o : Nat) (ho : o < 4) : (lih (b + 1) o (2 * 4 ^ b)).1 = (lih (b + 1) o (2 * 4 ^ b)).2.1 ∧ ((lih (b + 1) o (2 * 4 ^ b)).1 = 2 ^ b ∨ (lih (b + 1) o (2 * 4 ^ b)).1 = 2 ^ b - 1) := by
  have hz : 0 < 4 ^ b := Nat.pow_pos (by decide)
  have e1 : 2 * 4 ^ b / 4 ^ b = 2 := Nat.mul_div_cancel _ hz
  have e2 : ∀ o, lih b o (2 * 4 ^ b) = lih b o 0 := fun o => lih_mod b o _ _ (by rw [Nat.mul_mod_left, Nat.zero_mod])
  simp only [lih, e1, e2]
  have hc : o = 0 ∨ o = 1 ∨ o = 2 ∨ o = 3 := by omega
  rcases hc with rfl | rfl | rfl | rfl
  · have := (lih_zero b 0 (by decide)).1 (by decide); simp [nxo, posij, this]
  · have := (lih_zero b 1 (by decide)).1 (by decide); simp [nxo, posij, this]
  · have := (lih_zero b 2 (by decide)).2 (by decide); simp [nxo, posij, this]
  · have := (lih_zero b 3 (by decide)).2 (by decide); simp [nxo, posij, this]
/-- the law's place of (i, j) among 4 ^ b, not turned -/
def plc : Nat → Nat → Nat → Nat
  | 0, _, _ => 0
  | b + 1, i, j =>
    if j / 2 ^ b = 0 then
      if i / 2 ^ b = 1 then 3 * 4 ^ b + plc b (2 ^ b - 1 - j % 2 ^ b) (2 ^ b - 1 - i % 2 ^ b) else plc b (j % 2 ^ b) (i % 2 ^ b)
    else if i / 2 ^ b = 1 then 2 * 4 ^ b + plc b (i % 2 ^ b) (j % 2 ^ b) else 1 * 4 ^ b + plc b (i % 2 ^ b) (j % 2 ^ b)
def tri (b o i j : Nat) : Nat := match o with
  | 0 => plc b i j
  | 1 => plc b j i
  | 2 => plc b (2 ^ b - 1 - i) (2 ^ b - 1 - j)
  | _ => plc b (2 ^ b - 1 - j) (2 ^ b - 1 - i)
theorem two_cases {x : Nat} (h : x < 2) : x = 0 ∨ x = 1 := by omega
theorem four_cases {o : Nat} (h : o < 4) : o = 0 ∨ o = 1 ∨ o = 2 ∨ o = 3 := by omega
theorem hfl0 {p r : Nat} (h : r < p) : p * 2 - 1 - r = p * 1 + (p - 1 - r) := by omega
theorem hfl1 {p r : Nat} (h : r < p) : p * 2 - 1 - (p * 1 + r) = p - 1 - r := by omega
theorem hfl2 {p : Nat} (r : Nat) (h : 0 < p) : p - 1 - r < p := Nat.lt_of_le_of_lt (Nat.sub_le _ _) (Nat.sub_lt h (by decide))
theorem hfl3 {p r : Nat} (h : r < p) : p - 1 - (p - 1 - r) = r := Nat.sub_sub_self (Nat.le_sub_one_of_lt h)
theorem dig_lt {b i : Nat} (h : i < 2 ^ (b + 1)) : i / 2 ^ b < 2 := Nat.div_lt_of_lt_mul (by rw [← Nat.pow_succ]; exact h)
theorem flip_dig {b i : Nat} (h : i < 2 ^ (b + 1)) : (2 ^ (b + 1) - 1 - i) / 2 ^ b = 1 - i / 2 ^ b ∧ (2 ^ (b + 1) - 1 - i) % 2 ^ b = 2 ^ b - 1 - i % 2 ^ b := by
  have hz : 0 < 2 ^ b := Nat.pow_pos (by decide)
  have hq := Nat.div_add_mod i (2 ^ b)
  have hm := Nat.mod_lt i hz
  have hc := two_cases (dig_lt h)
  rw [Nat.pow_succ]
  generalize i % 2 ^ b = r at *
  have h2 := hfl2 r hz
  rcases hc with hc | hc <;> rw [hc] at hq ⊢ <;> clear hc
  · rw [Nat.mul_zero, Nat.zero_add] at hq
    rw [← hq, hfl0 hm, Nat.mul_add_div hz, Nat.mul_add_mod, Nat.div_eq_of_lt h2, Nat.mod_eq_of_lt h2]
    exact ⟨rfl, rfl⟩
  · rw [← hq, hfl1 hm, Nat.div_eq_of_lt h2, Nat.mod_eq_of_lt h2]
    exact ⟨rfl, rfl⟩
theorem hil_tri (b : Nat) : ∀ o i j, o < 4 → i < 2 ^ b → j < 2 ^ b → (hil b o i j).1 = tri b o i j := by
  induction b with
  | zero => intro o i j _ _ _; unfold tri; split <;> simp [hil, plc]
  | succ b ih =>
    intro o i j ho hi hj
    have hz : 0 < 2 ^ b := Nat.pow_pos (by decide)
    have hi1 := dig_lt hi
    have hj1 := dig_lt hj
    obtain ⟨fi1, fi2⟩ := flip_dig hi
    obtain ⟨fj1, fj2⟩ := flip_dig hj
    have hil_eq : ∀ o', o' < 4 → (hil b o' i j).1 = tri b o' (i % 2 ^ b) (j % 2 ^ b) := fun o' ho' => by
      rw [hil_mod b o' i j (i % 2 ^ b) (j % 2 ^ b) (Nat.mod_mod _ _).symm (Nat.mod_mod _ _).symm]
      exact ih o' _ _ ho' (Nat.mod_lt _ hz) (Nat.mod_lt _ hz)
    have ii : 2 ^ b - 1 - (2 ^ b - 1 - i % 2 ^ b) = i % 2 ^ b := hfl3 (Nat.mod_lt i hz)
    have jj : 2 ^ b - 1 - (2 ^ b - 1 - j % 2 ^ b) = j % 2 ^ b := hfl3 (Nat.mod_lt j hz)
    have hc := four_cases ho
    have hci := two_cases hi1
    have hcj := two_cases hj1
    simp only [hil]
    rcases hc with rfl | rfl | rfl | rfl <;> rcases hci with hci | hci <;> rcases hcj with hcj | hcj <;>
      simp [hci, hcj, ijpos, nxo, tri, plc, hil_eq, fi1, fi2, fj1, fj2, ii, jj]
/-- the law's place, turned or not, is the curve's -/
theorem place_is {b i j : Nat} (hi : i < 2 ^ b) (hj : j < 2 ^ b) : (hil b 0 i j).1 = plc b i j ∧ (hil b 1 i j).1 = plc b j i :=
  ⟨hil_tri b 0 i j (by decide) hi hj, hil_tri b 1 i j (by decide) hi hj⟩
theorem room {d a b N : Nat} (h : d + a < N) (hab : Nat.ble b a = true) : d + b < N := Nat.lt_of_le_of_lt (Nat.add_le_add_left (Nat.le_of_ble_eq_true hab) d) h
theorem room0 {d a N : Nat} (h : d + a < N) : d < N := Nat.lt_of_le_of_lt (Nat.le_add_right d a) h
theorem room2 {d a x b N : Nat} (h : d + a < N) (hab : Nat.ble (x + b) a = true) : d + x + b < N := Nat.add_assoc d x b ▸ room h hab
theorem roomU {A : Around} {e : Env} {a b N : Nat} (h : A.units + a < N) (hab : Nat.ble (3 + b) a = true) : (A.deeper e).units + b < N := room2 (x := 3) h hab
theorem roomU2 {A : Around} {e : Env} {a x b N : Nat} (h : A.units + a < N) (hab : Nat.ble (3 + x + b) a = true) : (A.deeper e).units + x + b < N := Nat.add_assoc _ x b ▸ roomU h (Nat.add_assoc 3 x b ▸ hab)
/-- bounds out of a pair of bounds -/
theorem lo_of {x a b c : Int} (h : a ≤ x ∧ x ≤ b) (hc : c < a) : c < x := Int.lt_of_lt_of_le hc h.1
theorem lo_of2 {x a b c : Int} (h : a ≤ x ∧ x < b) (hc : c < a) : c < x := Int.lt_of_lt_of_le hc h.1
theorem hi_of {x a b c : Int} (h : a ≤ x ∧ x ≤ b) (hc : b < c) : x < c := Int.lt_of_le_of_lt h.2 hc
theorem hi_of2 {x a b c : Int} (h : a ≤ x ∧ x < b) (hc : b ≤ c) : x < c := Int.lt_of_lt_of_le h.2 hc
theorem le_of2 {x a b c : Int} (h : a ≤ x ∧ x < b) (hc : c ≤ a) : c ≤ x := Int.le_trans hc h.1
/-- bounds out of two facts that lie apart -/
theorem lo_ap {x a c : Int} (h : a ≤ x) (hc : c < a) : c < x := Int.lt_of_lt_of_le hc h
theorem hi_ap {x b c : Int} (h : x < b) (hc : b ≤ c) : x < c := Int.lt_of_lt_of_le h hc
theorem hi_ap2 {x b c : Int} (h : x ≤ b) (hc : b < c) : x < c := Int.lt_of_le_of_lt h hc
theorem ge_ap {x b c : Int} (h : x ≤ b) (hc : b ≤ c) : x ≤ c := Int.le_trans h hc
theorem ge_ap2 {x b c : Int} (h : x < b) (hc : b ≤ c) : x ≤ c := Int.le_trans (Int.le_of_lt h) hc
/-- a product with a written factor -/
theorem mlo {x a b k c : Int} (h : a ≤ x ∧ x ≤ b) (hk : 0 ≤ k ∧ c < a * k) : c < x * k := Int.lt_of_lt_of_le hk.2 (Int.mul_le_mul_of_nonneg_right h.1 hk.1)
theorem mhi {x a b k c : Int} (h : a ≤ x ∧ x ≤ b) (hk : 0 ≤ k ∧ b * k < c) : x * k < c := Int.lt_of_le_of_lt (Int.mul_le_mul_of_nonneg_right h.2 hk.1) hk.2
theorem mle {x a b k c : Int} (h : a ≤ x ∧ x ≤ b) (hk : 0 ≤ k ∧ c ≤ a * k) : c ≤ x * k := Int.le_trans hk.2 (Int.mul_le_mul_of_nonneg_right h.1 hk.1)
theorem mge {x a b k c : Int} (h : a ≤ x ∧ x ≤ b) (hk : 0 ≤ k ∧ b * k ≤ c) : x * k ≤ c := Int.le_trans (Int.mul_le_mul_of_nonneg_right h.2 hk.1) hk.2
theorem m2le {x a b k l m : Int} (h : a ≤ x ∧ x ≤ b) (hk : 0 ≤ k ∧ 0 ≤ l ∧ 0 ≤ a * k * l + m) : 0 ≤ x * k * l + m := Int.le_trans hk.2.2 (Int.add_le_add_right (Int.mul_le_mul_of_nonneg_right (Int.mul_le_mul_of_nonneg_right h.1 hk.1) hk.2.1) m)
theorem m2a {x a b k l c : Int} (h : a ≤ x ∧ x ≤ b) (hk : 0 ≤ k ∧ 0 ≤ l ∧ c ≤ a * k * l) : c ≤ x * k * l := Int.le_trans hk.2.2 (Int.mul_le_mul_of_nonneg_right (Int.mul_le_mul_of_nonneg_right h.1 hk.1) hk.2.1)
theorem m2b {x a b k l c : Int} (h : a ≤ x ∧ x ≤ b) (hk : 0 ≤ k ∧ 0 ≤ l ∧ b * k * l ≤ c) : x * k * l ≤ c := Int.le_trans (Int.mul_le_mul_of_nonneg_right (Int.mul_le_mul_of_nonneg_right h.2 hk.1) hk.2.1) hk.2.2
theorem na_lo {x c : Int} {k : Nat} (h : x.natAbs < k) (hk : c ≤ -(k : Int)) : c < x := by omega
theorem na_hi {x c : Int} {k : Nat} (h : x.natAbs < k) (hk : (k : Int) ≤ c) : x < c := by omega
theorem na_of {x a b : Int} {k : Nat} (h : a ≤ x ∧ x ≤ b) (hk : -(k : Int) < a ∧ b < k) : x.natAbs < k := by omega
theorem na_ap {x a b : Int} {k : Nat} (h : a ≤ x) (h2 : x < b) (hk : -(k : Int) < a ∧ b ≤ k) : x.natAbs < k := by omega
theorem na_lt {x : Int} {k l : Nat} (h : x.natAbs < k) (hk : k ≤ l) : x.natAbs < l := Nat.lt_of_lt_of_le h hk
/-- masks, as whole numbers -/
theorem na_mod {x k : Int} (hk : 0 < k ∧ k ≤ 2 ^ 64) : (x % k).natAbs < 2 ^ 64 := by
  have h1 := Int.emod_nonneg x (Int.ne_of_gt hk.1)
  have h2 := Int.emod_lt_of_pos x hk.1
  have h3 := hk.2
  omega
theorem na_sum {a b : Int} (ha : a.natAbs ≤ 1073741825) (hb : b.natAbs ≤ 1) : (a + b * (1073741824 - 1)).natAbs < 2 ^ 40 := by omega
theorem na_one {a : Int} (ha : a.natAbs ≤ 1) : a.natAbs < 2 ^ 40 := Nat.lt_of_le_of_lt ha (by decide)
theorem clp_a {j : Int} (h1 : j < 1073741824) (h2 : j > -1) : j = max (-1) (min 1073741824 j) := by omega
theorem clp_b {j : Int} (_h1 : j < 1073741824) (h2 : ¬ j > -1) : -1 = max (-1) (min 1073741824 j) := by omega
theorem clp_c {j : Int} (h1 : ¬ j < 1073741824) : 1073741824 = max (-1) (min 1073741824 j) := by omega
theorem clp_d {j : Int} : -1 ≤ max (-1) (min 1073741824 j) ∧ max (-1) (min 1073741824 j) ≤ 1073741824 := by omega
theorem uv_i (j : Int) : 1 * (j * 2 + 1 - 1073741824) = 2 * j + 1 - 1073741824 := by omega
theorem uv_bd {j : Int} (h : -1 ≤ j ∧ j ≤ 1073741824) : -1073741825 ≤ 2 * j + 1 - 1073741824 ∧ 2 * j + 1 - 1073741824 ≤ 1073741825 := by omega
theorem na_neg {x : Int} {k : Nat} (h : x.natAbs < k) : (-x).natAbs < k := (Int.natAbs_neg x).symm ▸ h
theorem pw (k : Nat) : (0 : Int) < 2 ^ k := kbt_pos k
theorem pw_add (a b : Nat) : (2 : Int) ^ (a + b) = 2 ^ a * 2 ^ b := Int.pow_add 2 a b
/-- the id of the p-th cell of level l -/
def cid (p l : Int) : Int := (2 * p + 1) * 2 ^ (60 - 2 * l).toNat
theorem low_at (p : Int) (k : Nat) : Builtin.bitAnd ((2 * p + 1) * 2 ^ k) (-((2 * p + 1) * 2 ^ k)) = 2 ^ k := by
  rw [Int.mul_comm]; exact kbt_low k p
theorem lsb_cid (p l : Int) : Builtin.bitAnd (cid p l) (-cid p l) = 2 ^ (60 - 2 * l).toNat := low_at p _
theorem mask32 (x : Int) : Builtin.bitAnd x 4294967295 = x % 2 ^ 32 := by
  have h := kbt_mask x 32
  rwa [show (2 : Int) ^ 32 - 1 = 4294967295 from by decide] at h
theorem odd_low (p : Int) (k : Nat) (hk : k < 32) : ∃ a : Int, Builtin.bitAnd ((2 * p + 1) * 2 ^ k) 4294967295 = (2 * a + 1) * 2 ^ k := by
  have e : (2 : Int) ^ 32 = 2 ^ k * 2 ^ (32 - k) := by rw [← pw_add]; congr 1; omega
  rw [mask32, e, Int.mul_comm, Int.mul_emod_mul_of_pos _ _ (pw k)]
  have e2 : (2 : Int) ^ (32 - k) = 2 * 2 ^ (31 - k) := by
    rw [show 32 - k = (31 - k) + 1 by omega, Int.pow_succ, Int.mul_comm]
  rw [e2]
  generalize (2 : Int) ^ (31 - k) = q
  refine ⟨((2 * p + 1) % (2 * q)) / 2, ?_⟩
  rw [Int.mul_comm]
  congr 1
  have h : (2 * p + 1) % (2 * q) % 2 = 1 := by
    rw [Int.emod_emod_of_dvd _ (Int.dvd_mul_right 2 q)]; omega
  omega
theorem low_ne (a : Int) (k : Nat) : (2 * a + 1) * (2 : Int) ^ k ≠ 0 := by
  refine Int.mul_ne_zero (by omega) (Int.ne_of_gt (pw k))
/-- the four tests of level() at the lowest bit Y of a word -/
def Tests (Y k : Int) : Prop := ∃ b8 b4 b2 b1 : Int,
  ((Builtin.bitAnd Y 21845 ≠ 0 ∧ b8 = 8) ∨ (Builtin.bitAnd Y 21845 = 0 ∧ b8 = 0)) ∧
  ((Builtin.bitAnd Y 5570645 ≠ 0 ∧ b4 = 4) ∨ (Builtin.bitAnd Y 5570645 = 0 ∧ b4 = 0)) ∧
  ((Builtin.bitAnd Y 84215045 ≠ 0 ∧ b2 = 2) ∨ (Builtin.bitAnd Y 84215045 = 0 ∧ b2 = 0)) ∧
  ((Builtin.bitAnd Y 286331153 ≠ 0 ∧ b1 = 1) ∨ (Builtin.bitAnd Y 286331153 = 0 ∧ b1 = 0)) ∧ k = b8 + b4 + b2 + b1
theorem tests_of (j : Nat) (hj : j < 16) : Tests (2 ^ (2 * j)) (15 - j) := by
  have key : ∀ j : Fin 16, (2 : Int) ^ (2 * j.1) = 2 ^ (2 * j.1) ∧ (15 - (j.1 : Int)) =
      (if Builtin.bitAnd (2 ^ (2 * j.1)) 21845 = 0 then 0 else 8) + (if Builtin.bitAnd (2 ^ (2 * j.1)) 5570645 = 0 then 0 else 4) + (if Builtin.bitAnd (2 ^ (2 * j.1)) 84215045 = 0 then 0 else 2) + (if Builtin.bitAnd (2 ^ (2 * j.1)) 286331153 = 0 then 0 else 1) := by decide +kernel
  have k := (key ⟨j, hj⟩).2
  refine ⟨_, _, _, _, ?_, ?_, ?_, ?_, k⟩ <;> (dsimp only; split <;> simp_all)
theorem level_low {p l : Int} (h0 : 15 ≤ l) (h1 : l ≤ 30) : ∃ X : Int, Builtin.bitAnd (cid p l) 4294967295 = X ∧ X ≠ 0 ∧ Tests (Builtin.bitAnd X (-X)) (l - 15) := by
  obtain ⟨j, hj⟩ : ∃ j : Nat, l = 30 - j := ⟨(30 - l).toNat, by omega⟩
  subst hj
  unfold cid
  rw [show (60 - 2 * (30 - (j : Int))).toNat = 2 * j by omega]
  obtain ⟨a, ha⟩ := odd_low p (2 * j) (by omega)
  refine ⟨_, ha, low_ne _ _, ?_⟩
  rw [low_at]
  have := tests_of j (by omega)
  rwa [show (30 - (j : Int) - 15) = 15 - j by omega]
theorem level_high {p l : Int} (h0 : 0 ≤ l) (h1 : l < 15) : Builtin.bitAnd (cid p l) 4294967295 = 0 ∧ ∃ X : Int, Builtin.bitAnd ((cid p l).fdiv (2 ^ Int.toNat 32)) 4294967295 = X ∧ Tests (Builtin.bitAnd X (-X)) (l + 1) := by
  obtain ⟨j, hj⟩ : ∃ j : Nat, l = 14 - j := ⟨(14 - l).toNat, by omega⟩
  subst hj
  unfold cid
  rw [show (60 - 2 * (14 - (j : Int))).toNat = 2 * j + 32 by omega, pw_add, ← Int.mul_assoc, show Int.toNat 32 = 32 from rfl, kbt_q1]
  refine ⟨by rw [mask32, Int.mul_emod_left], ?_⟩
  obtain ⟨a, ha⟩ := odd_low p (2 * j) (by omega)
  refine ⟨_, ha, ?_⟩
  rw [low_at]
  have := tests_of j (by omega)
  rwa [show (14 - (j : Int) + 1) = 15 - j by omega]
theorem leaf_cid {p l : Int} (h0 : 0 ≤ l) (h1 : l ≤ 30) : Builtin.bitAnd (cid p l) 1 = if l = 30 then 1 else 0 := by
  rw [bitAnd_m1]
  unfold cid
  split
  · subst l; rw [show (60 - 2 * (30 : Int)).toNat = 0 by decide, Int.pow_zero]; omega
  · rw [show (60 - 2 * l).toNat = (59 - 2 * l).toNat + 1 by omega, Int.pow_succ, ← Int.mul_assoc]; omega
theorem valid_bits {k : Nat} (h : k ≤ 30) : Builtin.bitAnd ((2 : Int) ^ (2 * k)) 1537228672809129301 ≠ 0 := by
  have key : ∀ j : Fin 31, Builtin.bitAnd ((2 : Int) ^ (2 * j.1)) 1537228672809129301 ≠ 0 := by decide +kernel
  exact key ⟨k, by omega⟩
theorem valid_cid {p l : Int} (h0 : 0 ≤ l) (h1 : l ≤ 30) : Builtin.bitAnd (Builtin.bitAnd (cid p l) (-cid p l)) 1537228672809129301 ≠ 0 := by
  rw [lsb_cid, show (60 - 2 * l).toNat = 2 * (30 - l).toNat by omega]
  exact valid_bits (by omega)
/-- where an expression is reckoned -/
structure Cx where
  prog : Program
  w : World
  A : Around
  cn : Str
  cs : Scope
  L : Addr
  a : Addr
  cd : Value
  cl : List (Str × Addr)
  h₀ : Heap
  m : Str → Option Value
  news : List (Addr × Obj)
/-- the expression comes to the value, up to its token, and keeps frame and ledger -/
structure PV (c : Cx) (e : Expr) (f : Tok → Value) : Prop where
  say9 ::
  go : ∀ (s : Shared) (Q E : Value → Shared → Prop), Fr c.h₀ c.L s.heap c.m → News c.h₀ c.L s.heap c.news →
    (∀ t h' tk', Fr c.h₀ c.L h' c.m → News c.h₀ c.L h' c.news → Q (f t) { s with heap := h', toks := tk' }) → wpAny (model c.prog c.w) c.A (eval e (envX c.cn c.cs c.L c.a c.cd c.cl)) Q E s
abbrev PI (c : Cx) (e : Expr) (n : Int) : Prop := PV c e (fun t => .int n t)
/-- the test comes to b -/
structure PT (c : Cx) (e : Expr) (b : Bool) : Prop where
  say9 ::
  go : ∀ (s : Shared) (Q : Bool → Shared → Prop) (E : Value → Shared → Prop) (whole : Sem Value), Fr c.h₀ c.L s.heap c.m → News c.h₀ c.L s.heap c.news →
    (∀ h' tk', Fr c.h₀ c.L h' c.m → News c.h₀ c.L h' c.news → Q b { s with heap := h', toks := tk' }) → wpAny (model c.prog c.w) c.A (isTrue e (envX c.cn c.cs c.L c.a c.cd c.cl) whole) Q E s
section
variable {pc9 : Cx} {px9 : Str} {pp9 : Pos} {pe90 pe91 pe92 pe93 pe94 : Expr} {pb90 : Bool} {pn9 pa9 pb9 : Int} {pt9 : Tok} {pv9 : Value}
theorem PV.name (qhv9 : pc9.m px9 = some pv9) (qhk9 : pc9.cs.kind = .function) (qhx9 : (envX pc9.cn pc9.cs pc9.L pc9.a pc9.cd pc9.cl).kindOf px9 = some .local) (qhd9 : (px9 == ("__debug__" : Str)) = false) : PV pc9 (.Name px9 pp9) (fun _ => pv9) :=
  ⟨fun s _ _ F N pk9 => nameX_L F qhv9 (pk9 0 s.heap s.toks F N) qhk9 qhx9 qhd9⟩
theorem PI.name (qhv9 : pc9.m px9 = some (.int pn9 pt9)) (qhk9 : pc9.cs.kind = .function) (qhx9 : (envX pc9.cn pc9.cs pc9.L pc9.a pc9.cd pc9.cl).kindOf px9 = some .local) (qhd9 : (px9 == ("__debug__" : Str)) = false) : PI pc9 (.Name px9 pp9) pn9 :=
  ⟨fun s _ _ F N pk9 => nameX_L F qhv9 (pk9 pt9 s.heap s.toks F N) qhk9 qhx9 qhd9⟩
theorem PI.glob {pK9 : Frag} {pq9 : Program} {pl9 : List Str} {pmg9 pmb9 : Str → Option Value} (qX9 : pK9.In pc9.h₀) (qT9 : TopRead pq9 pl9 pmg9 pmb9 pc9.h₀) (pe90 : nsIn pK9 mainGlobals px9 = some (some (.int pn9 pt9))) (qhk9 : pc9.cs.kind = .function) (qhx9 : (envX pc9.cn pc9.cs pc9.L pc9.a pc9.cd pc9.cl).kindOf px9 = some .globalImplicit) (qhd9 : (px9 == ("__debug__" : Str)) = false) : PI pc9 (.Name px9 pp9) pn9 :=
  ⟨fun s _ _ F N pk9 => nameX_K F qX9 qT9 pe90 (pk9 pt9 s.heap s.toks F N) qhk9 qhx9 qhd9⟩
theorem PI.cell {pc0 : Addr} {po9 : Obj} (qhc9 : pc9.cl.lookup px9 = some pc0) (qhm9 : (pc0, po9) ∈ pc9.news) (qhd9 : po9.data = .cell (some (.int pn9 pt9))) (qhk9 : pc9.cs.kind = .function) (qhx9 : (envX pc9.cn pc9.cs pc9.L pc9.a pc9.cd pc9.cl).kindOf px9 = some .cell) (qhb9 : (px9 == ("__debug__" : Str)) = false) : PI pc9 (.Name px9 pp9) pn9 :=
  ⟨fun s _ _ F N pk9 => nameX_C N qhc9 qhm9 qhd9 (pk9 pt9 s.heap s.toks F N) qhk9 qhx9 qhb9⟩
theorem PI.lit {pk9} : PI pc9 (.Constant (.int pn9) pk9 pp9) pn9 := ⟨fun s _ _ F N q => wpAny_Constant_int (q _ _ _ F N)⟩
theorem PI.cast (pq9 : PI pc9 pe90 pa9) (qh9 : pa9 = pb9) : PI pc9 pe90 pb9 := qh9 ▸ pq9
theorem PI.add (qp19 : PI pc9 pe91 pa9) (qp29 : PI pc9 pe92 pb9) : PI pc9 (.BinOp pe91 .Add pe92 pp9) (pa9 + pb9) :=
  ⟨fun s _ _ F N pk9 => wpAny_BinOp (qp19.go s _ _ F N fun _ _ _ F1 N1 => qp29.go _ _ _ F1 N1 fun _ _ _ F2 N2 => add_int (pk9 _ _ _ F2 N2))⟩
theorem PI.sub (qp19 : PI pc9 pe91 pa9) (qp29 : PI pc9 pe92 pb9) : PI pc9 (.BinOp pe91 .Sub pe92 pp9) (pa9 - pb9) :=
  ⟨fun s _ _ F N pk9 => wpAny_BinOp (qp19.go s _ _ F N fun _ _ _ F1 N1 => qp29.go _ _ _ F1 N1 fun _ _ _ F2 N2 => sub_int (pk9 _ _ _ F2 N2))⟩
theorem PI.mul (qp19 : PI pc9 pe91 pa9) (qp29 : PI pc9 pe92 pb9) (qhm9 : IntMulOk pa9 pb9) : PI pc9 (.BinOp pe91 .Mult pe92 pp9) (pa9 * pb9) :=
  ⟨fun s _ _ F N pk9 => wpAny_BinOp (qp19.go s _ _ F N fun _ _ _ F1 N1 => qp29.go _ _ _ F1 N1 fun _ _ _ F2 N2 => mul_int (pk9 _ _ _ F2 N2) qhm9)⟩
theorem PI.and (qp19 : PI pc9 pe91 pa9) (qp29 : PI pc9 pe92 pb9) : PI pc9 (.BinOp pe91 .BitAnd pe92 pp9) (Builtin.bitAnd pa9 pb9) :=
  ⟨fun s _ _ F N pk9 => wpAny_BinOp (qp19.go s _ _ F N fun _ _ _ F1 N1 => qp29.go _ _ _ F1 N1 fun _ _ _ F2 N2 => and_int (pk9 _ _ _ F2 N2))⟩
theorem PI.or (qp19 : PI pc9 pe91 pa9) (qp29 : PI pc9 pe92 pb9) : PI pc9 (.BinOp pe91 .BitOr pe92 pp9) (Builtin.bitOr pa9 pb9) :=
  ⟨fun s _ _ F N pk9 => wpAny_BinOp (qp19.go s _ _ F N fun _ _ _ F1 N1 => qp29.go _ _ _ F1 N1 fun _ _ _ F2 N2 => or_int (pk9 _ _ _ F2 N2))⟩
theorem PI.xor (qp19 : PI pc9 pe91 pa9) (qp29 : PI pc9 pe92 pb9) : PI pc9 (.BinOp pe91 .BitXor pe92 pp9) (Builtin.bitXor pa9 pb9) :=
  ⟨fun s _ _ F N pk9 => wpAny_BinOp (qp19.go s _ _ F N fun _ _ _ F1 N1 => qp29.go _ _ _ F1 N1 fun _ _ _ F2 N2 => xor_int (pk9 _ _ _ F2 N2))⟩
theorem PI.shl (qp19 : PI pc9 pe91 pa9) (qp29 : PI pc9 pe92 pb9) (qhn9 : 0 ≤ pb9) (qhn29 : pb9 ≤ 1000000) (qha9 : pa9.natAbs < 2 ^ 64) : PI pc9 (.BinOp pe91 .LShift pe92 pp9) (pa9 * 2 ^ pb9.toNat) :=
  ⟨fun s _ _ F N pk9 => wpAny_BinOp (qp19.go s _ _ F N fun _ _ _ F1 N1 => qp29.go _ _ _ F1 N1 fun _ _ _ F2 N2 => lshift_int_small qhn9 qhn29 qha9 (pk9 _ _ _ F2 N2))⟩
theorem PI.shlB {pkb9 : Nat} (qp19 : PI pc9 pe91 pa9) (qp29 : PI pc9 pe92 pb9) (qhn9 : 0 ≤ pb9) (qhn29 : pb9 ≤ 1000000) (qha9 : Builtin.Int.intBits pa9 ≤ pkb9) (qhk9 : pkb9 ≤ 133000000) : PI pc9 (.BinOp pe91 .LShift pe92 pp9) (pa9 * 2 ^ pb9.toNat) :=
  ⟨fun s _ _ F N pk9 => wpAny_BinOp (qp19.go s _ _ F N fun _ _ _ F1 N1 => qp29.go _ _ _ F1 N1 fun _ _ _ F2 N2 => lshift_int qhn9 (kbm_shl qha9 qhn29 qhk9) (by exact pk9 _ _ _ F2 N2))⟩
theorem PI.shlS (qp19 : PI pc9 pe91 pa9) (qp29 : PI pc9 pe92 pb9) (qhn9 : 0 ≤ pb9) (qhn29 : pb9 ≤ 1000000) (qha9 : pa9.natAbs < 2 ^ 64 ∨ ∃ pkb9 : Nat, Builtin.Int.intBits pa9 ≤ pkb9 ∧ pkb9 ≤ 133000000) : PI pc9 (.BinOp pe91 .LShift pe92 pp9) (pa9 * 2 ^ pb9.toNat) :=
  qha9.elim (PI.shl qp19 qp29 qhn9 qhn29) fun ⟨_, h1, h2⟩ => PI.shlB qp19 qp29 qhn9 qhn29 h1 h2
theorem PI.shr (qp19 : PI pc9 pe91 pa9) (qp29 : PI pc9 pe92 pb9) (qhn9 : 0 ≤ pb9) : PI pc9 (.BinOp pe91 .RShift pe92 pp9) (pa9.fdiv (2 ^ pb9.toNat)) :=
  ⟨fun s _ _ F N pk9 => wpAny_BinOp (qp19.go s _ _ F N fun _ _ _ F1 N1 => qp29.go _ _ _ F1 N1 fun _ _ _ F2 N2 => rshift_int qhn9 (pk9 _ _ _ F2 N2))⟩
theorem PI.neg (qp19 : PI pc9 pe91 pa9) : PI pc9 (.UnaryOp .USub pe91 pp9) (-pa9) :=
  ⟨fun s _ _ F N pk9 => UnaryOp_ (qp19.go s _ _ F N fun _ _ _ F1 N1 => neg_int (pk9 _ _ _ F1 N1))⟩
theorem PI.mod (qp19 : PI pc9 pe91 pa9) (qp29 : PI pc9 pe92 pb9) (qhb9 : pb9 ≠ 0) : PI pc9 (.BinOp pe91 .Mod pe92 pp9) (pa9.fmod pb9) :=
  ⟨fun s _ _ F N pk9 => wpAny_BinOp (qp19.go s _ _ F N fun _ _ _ F1 N1 => qp29.go _ _ _ F1 N1 fun _ _ _ F2 N2 => mod_int' qhb9 (pk9 _ _ _ F2 N2))⟩
theorem PT.eq (qp19 : PI pc9 pe91 pa9) (qp29 : PI pc9 pe92 pb9) (qhm9 : behindInMarks .Eq pe92 = false ) : PT pc9 (.Compare pe91 [.Eq] [pe92] pp9) (pa9 == pb9) :=
  ⟨fun s _ _ _ F N pk9 => wpAny_isTrue_Compare1 (qp19.go s _ _ F N fun _ _ _ F1 N1 => qp29.go _ _ _ F1 N1 fun _ _ _ F2 N2 => eq_int (wpAny_truthy_bool (pk9 _ _ F2 N2))) qhm9⟩
theorem PT.ne (qp19 : PI pc9 pe91 pa9) (qp29 : PI pc9 pe92 pb9) (qhm9 : behindInMarks .NotEq pe92 = false ) : PT pc9 (.Compare pe91 [.NotEq] [pe92] pp9) (pa9 != pb9) :=
  ⟨fun s _ _ _ F N pk9 => wpAny_isTrue_Compare1 (qp19.go s _ _ F N fun _ _ _ F1 N1 => qp29.go _ _ _ F1 N1 fun _ _ _ F2 N2 => ne_int (wpAny_truthy_bool (pk9 _ _ F2 N2))) qhm9⟩
theorem PT.lt (qp19 : PI pc9 pe91 pa9) (qp29 : PI pc9 pe92 pb9) (qhm9 : behindInMarks .Lt pe92 = false ) : PT pc9 (.Compare pe91 [.Lt] [pe92] pp9) (decide (pa9 < pb9)) :=
  ⟨fun s _ _ _ F N pk9 => wpAny_isTrue_Compare1 (qp19.go s _ _ F N fun _ _ _ F1 N1 => qp29.go _ _ _ F1 N1 fun _ _ _ F2 N2 => lt_int (wpAny_truthy_bool (pk9 _ _ F2 N2))) qhm9⟩
theorem PT.le (qp19 : PI pc9 pe91 pa9) (qp29 : PI pc9 pe92 pb9) (qhm9 : behindInMarks .LtE pe92 = false ) : PT pc9 (.Compare pe91 [.LtE] [pe92] pp9) (decide (pa9 ≤ pb9)) :=
  ⟨fun s _ _ _ F N pk9 => wpAny_isTrue_Compare1 (qp19.go s _ _ F N fun _ _ _ F1 N1 => qp29.go _ _ _ F1 N1 fun _ _ _ F2 N2 => le_int (wpAny_truthy_bool (pk9 _ _ F2 N2))) qhm9⟩
theorem PT.gt (qp19 : PI pc9 pe91 pa9) (qp29 : PI pc9 pe92 pb9) (qhm9 : behindInMarks .Gt pe92 = false ) : PT pc9 (.Compare pe91 [.Gt] [pe92] pp9) (decide (pa9 > pb9)) :=
  ⟨fun s _ _ _ F N pk9 => wpAny_isTrue_Compare1 (qp19.go s _ _ F N fun _ _ _ F1 N1 => qp29.go _ _ _ F1 N1 fun _ _ _ F2 N2 => gt_int (wpAny_truthy_bool (pk9 _ _ F2 N2))) qhm9⟩
theorem PT.ge (qp19 : PI pc9 pe91 pa9) (qp29 : PI pc9 pe92 pb9) (qhm9 : behindInMarks .GtE pe92 = false ) : PT pc9 (.Compare pe91 [.GtE] [pe92] pp9) (decide (pa9 ≥ pb9)) :=
  ⟨fun s _ _ _ F N pk9 => wpAny_isTrue_Compare1 (qp19.go s _ _ F N fun _ _ _ F1 N1 => qp29.go _ _ _ F1 N1 fun _ _ _ F2 N2 => ge_int (wpAny_truthy_bool (pk9 _ _ F2 N2))) qhm9⟩
abbrev NoStar (pc9 : Cx) (pe90 : Expr) : Prop := ∀ rest, starEach (pe90 :: rest) (envX pc9.cn pc9.cs pc9.L pc9.a pc9.cd pc9.cl) = (false, eval pe90 (envX pc9.cn pc9.cs pc9.L pc9.a pc9.cd pc9.cl)) :: starEach rest (envX pc9.cn pc9.cs pc9.L pc9.a pc9.cd pc9.cl)
end
section
variable {prog : Program} {w : World} {A : Around} {cn : Str} {cs : Scope} {L : Addr} {a : Addr} {cd : Value} {cl : List (Str × Addr)} {h₀ : Heap} {m : Str → Option Value} {news : List (Addr × Obj)} {e e1 e2 e3 e4 : Expr} {b0 : Bool} {pos : Pos}
theorem PV.nono {c : Cx} {e : Expr} (h : False) : PV c e (fun _ => Value.none) := h.elim
theorem PV.mk {f : Tok → Value} (h : ∀ (s : Shared) (Q E : Value → Shared → Prop), Fr h₀ L s.heap m → News h₀ L s.heap news → (∀ t h' tk', Fr h₀ L h' m → News h₀ L h' news → Q (f t) { s with heap := h', toks := tk' }) → wpAny (model prog w) A (eval e (envX cn cs L a cd cl)) Q E s) : PV ⟨prog, w, A, cn, cs, L, a, cd, cl, h₀, m, news⟩ e f := ⟨h⟩
theorem args1 {f1 : Tok → Value} {Q : List Value → Shared → Prop} {E : Value → Shared → Prop} {s : Shared} (F : Fr h₀ L s.heap m) (N : News h₀ L s.heap news) (p1 : PV ⟨prog, w, A, cn, cs, L, a, cd, cl, h₀, m, news⟩ e1 f1)
    (k : ∀ (t1 : Tok) h' tk', Fr h₀ L h' m → News h₀ L h' news → Q [f1 t1] { s with heap := h', toks := tk' }) (n1 : NoStar ⟨prog, w, A, cn, cs, L, a, cd, cl, h₀, m, news⟩ e1 := by exact fun _ => rfl) : wpAny (model prog w) A (spliced (backTo pos (starEach [e1] (envX cn cs L a cd cl)))) Q E s :=
  args_cons (p1.go s _ _ F N fun _ _ _ F1 N1 => args_nil (k _ _ _ F1 N1)) (n1 _)
theorem args2 {f1 f2 : Tok → Value} {Q : List Value → Shared → Prop} {E : Value → Shared → Prop} {s : Shared} (F : Fr h₀ L s.heap m) (N : News h₀ L s.heap news) (p1 : PV ⟨prog, w, A, cn, cs, L, a, cd, cl, h₀, m, news⟩ e1 f1) (p2 : PV ⟨prog, w, A, cn, cs, L, a, cd, cl, h₀, m, news⟩ e2 f2)
    (k : ∀ (t1 t2 : Tok) h' tk', Fr h₀ L h' m → News h₀ L h' news → Q [f1 t1, f2 t2] { s with heap := h', toks := tk' }) (n1 : NoStar ⟨prog, w, A, cn, cs, L, a, cd, cl, h₀, m, news⟩ e1 := by exact fun _ => rfl) (n2 : NoStar ⟨prog, w, A, cn, cs, L, a, cd, cl, h₀, m, news⟩ e2 := by exact fun _ => rfl) : wpAny (model prog w) A (spliced (backTo pos (starEach [e1, e2] (envX cn cs L a cd cl)))) Q E s :=
  args_cons (p1.go s _ _ F N fun _ _ _ F1 N1 => args_cons (p2.go _ _ _ F1 N1 fun _ _ _ F2 N2 => args_nil (k _ _ _ _ F2 N2)) (n2 _)) (n1 _)
theorem args3 {f1 f2 f3 : Tok → Value} {Q : List Value → Shared → Prop} {E : Value → Shared → Prop} {s : Shared} (F : Fr h₀ L s.heap m) (N : News h₀ L s.heap news) (p1 : PV ⟨prog, w, A, cn, cs, L, a, cd, cl, h₀, m, news⟩ e1 f1) (p2 : PV ⟨prog, w, A, cn, cs, L, a, cd, cl, h₀, m, news⟩ e2 f2) (p3 : PV ⟨prog, w, A, cn, cs, L, a, cd, cl, h₀, m, news⟩ e3 f3)
    (k : ∀ (t1 t2 t3 : Tok) h' tk', Fr h₀ L h' m → News h₀ L h' news → Q [f1 t1, f2 t2, f3 t3] { s with heap := h', toks := tk' }) (n1 : NoStar ⟨prog, w, A, cn, cs, L, a, cd, cl, h₀, m, news⟩ e1 := by exact fun _ => rfl) (n2 : NoStar ⟨prog, w, A, cn, cs, L, a, cd, cl, h₀, m, news⟩ e2 := by exact fun _ => rfl) (n3 : NoStar ⟨prog, w, A, cn, cs, L, a, cd, cl, h₀, m, news⟩ e3 := by exact fun _ => rfl) : wpAny (model prog w) A (spliced (backTo pos (starEach [e1, e2, e3] (envX cn cs L a cd cl)))) Q E s :=
  args_cons (p1.go s _ _ F N fun _ _ _ F1 N1 => args_cons (p2.go _ _ _ F1 N1 fun _ _ _ F2 N2 => args_cons (p3.go _ _ _ F2 N2 fun _ _ _ F3 N3 => args_nil (k _ _ _ _ _ F3 N3)) (n3 _)) (n2 _)) (n1 _)
theorem args4 {f1 f2 f3 f4 : Tok → Value} {Q : List Value → Shared → Prop} {E : Value → Shared → Prop} {s : Shared} (F : Fr h₀ L s.heap m) (N : News h₀ L s.heap news) (p1 : PV ⟨prog, w, A, cn, cs, L, a, cd, cl, h₀, m, news⟩ e1 f1) (p2 : PV ⟨prog, w, A, cn, cs, L, a, cd, cl, h₀, m, news⟩ e2 f2) (p3 : PV ⟨prog, w, A, cn, cs, L, a, cd, cl, h₀, m, news⟩ e3 f3) (p4 : PV ⟨prog, w, A, cn, cs, L, a, cd, cl, h₀, m, news⟩ e4 f4)
    (k : ∀ (t1 t2 t3 t4 : Tok) h' tk', Fr h₀ L h' m → News h₀ L h' news → Q [f1 t1, f2 t2, f3 t3, f4 t4] { s with heap := h', toks := tk' }) (n1 : NoStar ⟨prog, w, A, cn, cs, L, a, cd, cl, h₀, m, news⟩ e1 := by exact fun _ => rfl) (n2 : NoStar ⟨prog, w, A, cn, cs, L, a, cd, cl, h₀, m, news⟩ e2 := by exact fun _ => rfl) (n3 : NoStar ⟨prog, w, A, cn, cs, L, a, cd, cl, h₀, m, news⟩ e3 := by exact fun _ => rfl) (n4 : NoStar ⟨prog, w, A, cn, cs, L, a, cd, cl, h₀, m, news⟩ e4 := by exact fun _ => rfl) : wpAny (model prog w) A (spliced (backTo pos (starEach [e1, e2, e3, e4] (envX cn cs L a cd cl)))) Q E s :=
  args_cons (p1.go s _ _ F N fun _ _ _ F1 N1 => args_cons (p2.go _ _ _ F1 N1 fun _ _ _ F2 N2 => args_cons (p3.go _ _ _ F2 N2 fun _ _ _ F3 N3 => args_cons (p4.go _ _ _ F3 N3 fun _ _ _ F4 N4 => args_nil (k _ _ _ _ _ _ F4 N4)) (n4 _)) (n3 _)) (n2 _)) (n1 _)
theorem PV.use {f : Tok → Value} {Q E : Value → Shared → Prop} {s : Shared} (F : Fr h₀ L s.heap m) (N : News h₀ L s.heap news) (p : PV ⟨prog, w, A, cn, cs, L, a, cd, cl, h₀, m, news⟩ e f) (k : ∀ (t : Tok) h' tk', Fr h₀ L h' m → News h₀ L h' news → Q (f t) { s with heap := h', toks := tk' }) : wpAny (model prog w) A (eval e (envX cn cs L a cd cl)) Q E s := p.go s Q E F N k
theorem PT.use {Q : Bool → Shared → Prop} {E : Value → Shared → Prop} {s : Shared} {whole : Sem Value} (F : Fr h₀ L s.heap m) (N : News h₀ L s.heap news) (p : PT ⟨prog, w, A, cn, cs, L, a, cd, cl, h₀, m, news⟩ e b0) (k : ∀ h' tk', Fr h₀ L h' m → News h₀ L h' news → Q b0 { s with heap := h', toks := tk' }) : wpAny (model prog w) A (isTrue e (envX cn cs L a cd cl) whole) Q E s := p.go s Q E whole F N k
theorem drop_tup {h₀ h : Heap} {L : Addr} {p : Addr × Obj} {news : List (Addr × Obj)} (N : News h₀ L h (p :: news)) : News h₀ L h news := fun q hq => N q (List.mem_cons_of_mem _ hq)
/-- x, y = e1, e2 -/
theorem asg2 {f1 f2 : Tok → Value} {x y : Str} {px py tp tp2 : Pos} {k1 k2 : Nat} {Q : Flow → Shared → Prop} {E : Value → Shared → Prop} {s : Shared} (F : Fr h₀ L s.heap m) (N : News h₀ L s.heap news) (p1 : PV ⟨prog, w, A, cn, cs, L, a, cd, cl, h₀, m, news⟩ e1 f1) (p2 : PV ⟨prog, w, A, cn, cs, L, a, cd, cl, h₀, m, news⟩ e2 f2)
    (k : ∀ (t1 t2 : Tok) h' tk', Fr h₀ L h' (fun z => if z = x then some (f1 t1) else if z = y then some (f2 t2) else m z) → News h₀ L h' news → Q .next { s with heap := h', toks := tk' })
    (hh : A.handled = none := by rfl) (hk : cs.kind = .function := by rfl)
    (hx : (envX cn cs L a cd cl).kindOf x = some .local := by rfl) (hy : (envX cn cs L a cd cl).kindOf y = some .local := by rfl)
    (n1 : NoStar ⟨prog, w, A, cn, cs, L, a, cd, cl, h₀, m, news⟩ e1 := by exact fun _ => rfl) (n2 : NoStar ⟨prog, w, A, cn, cs, L, a, cd, cl, h₀, m, news⟩ e2 := by exact fun _ => rfl)
    (hs : swapsWithSole [.Tuple [.Name x px, .Name y py] k1 tp] (.Tuple [e1, e2] k2 tp2) pos.line (envX cn cs L a cd cl) = pure false := by rfl)
    (hw : swappedStores [.Tuple [.Name x px, .Name y py] k1 tp] (.Tuple [e1, e2] k2 tp2) (envX cn cs L a cd cl) = pure (some [x, y]) := by rfl) :
    wpAny (model prog w) A (exec (.Assign [.Tuple [.Name x px, .Name y py] k1 tp] (.Tuple [e1, e2] k2 tp2) pos) (envX cn cs L a cd cl)) Q E s := by
  refine Assign_Tuple_swapped (Tuple_ (args2 F N p1 p2 (fun t1 t2 h' tk' F' N' => ?_) n1 n2)) hs hw
  refine kup_newTuple F' N' (fun D h2 F2 N2 _ => ?_) (show 2 ≤ sizeLine from Nat.le_of_ble_eq_true rfl)
  refine unpackItemsN_ F2 N2 (News.isTup N2 List.mem_cons_self) hh rfl fun h3 F3 N3 => ?_
  refine assignInOrder_cons (bindName_ (storeX_L F3 N3 (fun h4 F4 N4 => ?_) hk hy))
  refine assignInOrder_cons (bindName_ (storeX_L F4 N4 (fun h5 F5 N5 => ?_) hk hx))
  exact assignInOrder_nil (k t1 t2 h5 _ F5 (drop_tup N5))
/-- if e: x += K -/
theorem if_aug {x : Str} {px pk pa po : Pos} {K av n : Int} {t0 : Tok} {kc0 : Nat} {Q : Flow → Shared → Prop} {E : Value → Shared → Prop} {s : Shared} (F : Fr h₀ L s.heap m) (N : News h₀ L s.heap news) (hv : m x = some (.int av t0)) (p : PI ⟨prog, w, A, cn, cs, L, a, cd, cl, h₀, m, news⟩ e n)
    (k : ∀ (r : Int) (t : Tok) h' tk', ((n ≠ 0 ∧ r = av + K) ∨ (n = 0 ∧ r = av)) → Fr h₀ L h' (fun z => if z = x then some (.int r t) else m z) → News h₀ L h' news → Q .next { s with heap := h', toks := tk' })
    (hk : cs.kind = .function) (hx : (envX cn cs L a cd cl).kindOf x = some .local)
    (he : ∀ whole : Sem Value, isTrue e (envX cn cs L a cd cl) whole = (do let v ← whole; standAt e.pos; holding [v] (truthy v))) :
    wpAny (model prog w) A (exec (.If e [.AugAssign (.Name x px) .Add (.Constant (.int K) kc0 pk) pa] [] po) (envX cn cs L a cd cl)) Q E s := by
  refine wpAny_If (isTrue_plain (p.go s _ _ F N fun t h1 tk1 F1 N1 => truthy_int ?_) (he _))
  by_cases hn : n = 0
  · rw [show (n != 0) = false from by rw [hn]; rfl]
    refine wpAny_execs_nil (k av t0 h1 tk1 (.inr ⟨hn, rfl⟩) ?_ N1)
    have e : (fun z => if z = x then some (.int av t0) else m z) = m := funext fun z => by
      by_cases hz : z = x
      · rw [if_pos hz, hz, hv]
      · rw [if_neg hz]
    rw [e]
    exact F1
  · rw [show (n != 0) = true from bne_iff_ne.mpr hn]
    refine wpAny_execs_cons (wpAny_AugAssign_Name (wpAny_loadName_local hk hx F1.ns hv (wpAny_Constant_int (iadd_int (storeX_L F1 N1 (fun h2 F2 N2 => ?_) hk hx)))))
    exact wpAny_execs_nil (k _ _ h2 _ (.inl ⟨hn, rfl⟩) F2 N2)
/-- a mark that a rule has not been used yet -/
def Mark9 : Prop := True
end
theorem split60 {l : Int} (h0 : 0 ≤ l) (h1 : l ≤ 30) : (2 : Int) ^ (2 * l).toNat * 2 ^ (60 - 2 * l).toNat = 2 ^ 60 := by
  rw [← pw_add]; congr 1; omega
theorem lsb_le {l : Int} (h0 : 0 ≤ l) : (2 : Int) ^ (60 - 2 * l).toNat ≤ 2 ^ 60 := by
  have h : (2 : Nat) ^ (60 - 2 * l).toNat ≤ 2 ^ 60 := Nat.pow_le_pow_right (by decide) (by omega)
  rw [← kbt_cast]
  exact Int.ofNat_le.mpr h
theorem cid_nonneg {p l : Int} (hp : 0 ≤ p) : 0 ≤ cid p l := Int.mul_nonneg (by omega) (Int.le_of_lt (pw _))
theorem cid_le {p l : Int} (h0 : 0 ≤ l) (h1 : l ≤ 30) (hp : p ≤ 6 * 2 ^ (2 * l).toNat) : cid p l ≤ 13 * 2 ^ 60 := by
  unfold cid
  have e := split60 h0 h1
  have b := lsb_le h0
  have z := pw (60 - 2 * l).toNat
  have h2 : (2 * p + 1) * (2 : Int) ^ (60 - 2 * l).toNat ≤ (12 * 2 ^ (2 * l).toNat + 1) * 2 ^ (60 - 2 * l).toNat := Int.mul_le_mul_of_nonneg_right (by omega) (Int.le_of_lt z)
  rw [Int.add_mul (12 * _), Int.mul_assoc, e] at h2
  omega
theorem fmod_small {v : Int} (h0 : 0 ≤ v) (h1 : v < 18446744073709551615) : v.fmod 18446744073709551615 = v := by
  rw [Int.fmod_eq_emod_of_nonneg _ (by decide), Int.emod_eq_of_lt h0 h1]
theorem cid_fmod {p l : Int} (h0 : 0 ≤ l) (h1 : l ≤ 30) (hp0 : 0 ≤ p) (hp : p ≤ 6 * 2 ^ (2 * l).toNat) : (cid p l).fmod 18446744073709551615 = cid p l :=
  fmod_small (cid_nonneg hp0) (by have := cid_le h0 h1 hp; omega)
theorem face_cid {p l : Int} (h0 : 0 ≤ l) (h1 : l ≤ 30) : (cid p l).fdiv (2 ^ Int.toNat 61) = p.fdiv (2 ^ (2 * l).toNat) := by
  unfold cid
  rw [show Int.toNat 61 = (60 - 2 * l).toNat + (1 + (2 * l).toNat) by omega, pw_add (60 - 2 * l).toNat, Int.fdiv_eq_ediv_of_nonneg _ (Int.le_of_lt (Int.mul_pos (pw _) (pw _))),
    Int.mul_comm (2 * p + 1), Int.mul_ediv_mul_of_pos _ _ (pw _), pw_add, Int.pow_one, ← Int.ediv_ediv_of_nonneg (by decide), Int.fdiv_eq_ediv_of_nonneg _ (Int.le_of_lt (pw _))]
  congr 1
  omega
theorem face_lt {p l : Int} (h0 : 0 ≤ l) (h1 : l ≤ 30) (hp : p < 6 * 2 ^ (2 * l).toNat) : (cid p l).fdiv (2 ^ Int.toNat 61) < 6 := by
  rw [face_cid h0 h1, Int.fdiv_eq_ediv_of_nonneg _ (Int.le_of_lt (pw _))]
  exact Int.ediv_lt_of_lt_mul (pw _) hp
theorem lfl_eq (l : Int) : 1 * (2 : Int) ^ (2 * (30 - l)).toNat = 2 ^ (60 - 2 * l).toNat := by
  rw [Int.one_mul]; congr 2; omega
theorem and_neg_pow (x : Int) (k : Nat) : Builtin.bitAnd x (-(2 ^ k)) = x / 2 ^ k * 2 ^ k := by
  have e : -(2 : Int) ^ k = Builtin.bitNot (2 ^ k - 1) := by unfold Builtin.bitNot; omega
  rw [e, bitAnd_not, kbt_mask]
  have := Int.mul_ediv_add_emod x (2 ^ k)
  rw [Int.mul_comm] at this
  omega
theorem or_pow (a : Int) (k : Nat) : Builtin.bitOr (a * 2 ^ k) (2 ^ k) = (2 * (a / 2) + 1) * 2 ^ k := by
  rw [bitOr_and, kbt_bit, Int.mul_ediv_cancel _ (Int.ne_of_gt (pw k))]
  have h : a = 2 * (a / 2) + a % 2 := by omega
  have h2 : a * 2 ^ k = 2 * (a / 2) * 2 ^ k + a % 2 * 2 ^ k := by rw [← Int.add_mul, ← h]
  rw [Int.add_mul, Int.one_mul, h2]; omega
theorem parent_cid {p l q : Int} (h0 : 0 ≤ q) (h1 : q ≤ l) (h2 : l ≤ 30) :
    Builtin.bitOr (Builtin.bitAnd (cid p l) (-(2 ^ (60 - 2 * q).toNat))) (2 ^ (60 - 2 * q).toNat) = cid (p / 2 ^ (2 * (l - q)).toNat) q := by
  rw [and_neg_pow, or_pow]
  unfold cid
  congr 3
  rw [show (60 - 2 * q).toNat = (60 - 2 * l).toNat + (2 * (l - q)).toNat by omega, pw_add, Int.mul_comm (2 * p + 1), Int.mul_ediv_mul_of_pos _ _ (pw _),
    Int.ediv_ediv_of_nonneg (Int.le_of_lt (pw _)), Int.mul_comm _ 2, ← Int.ediv_ediv_of_nonneg (by decide)]
  congr 1
  omega
section
variable {prog : Program} {w : World} {A : Around} {E : Value → Shared → Prop} {s : Shared} {env : Env} {h₀ : Heap} {x : Str} {body : List Stmt} {Q : Flow → Shared → Prop}
end
/-- the end of a turn: any ledger that still bears the iterator -/
def TurnPostO (h₀ : Heap) (L : Addr) (s : Shared) (own : Addr × Obj) (kept : List (Addr × Obj)) (J : (Str → Option Value) → List (Addr × Obj) → Prop) (Q : Flow → Shared → Prop) (f : Flow) (s₂ : Shared) : Prop :=
  match f with
  | .ret v => Q (.ret v) s₂
  | .brk => Q .next s₂
  | _ => ∃ h' tk' m' news', s₂ = { s with heap := h', toks := tk' } ∧ Fr h₀ L h' m' ∧ News h₀ L h' news' ∧ own ∈ news' ∧ (∀ p ∈ kept, p ∈ news') ∧ J m' news'
theorem turnO_end {h₀ h' : Heap} {L : Addr} {s : Shared} {own : Addr × Obj} {kept : List (Addr × Obj)} {J : (Str → Option Value) → List (Addr × Obj) → Prop} {Q : Flow → Shared → Prop} {tk' : Nat} {m' : Str → Option Value} {news' : List (Addr × Obj)}
    (F : Fr h₀ L h' m') (N : News h₀ L h' news') (ho : own ∈ news') (hk : ∀ p ∈ kept, p ∈ news') (hJ : J m' news') : TurnPostO h₀ L s own kept J Q .next { s with heap := h', toks := tk' } := ⟨h', tk', m', news', rfl, F, N, ho, hk, hJ⟩
def Mono (ic : Value) (J : (Str → Option Value) → List (Addr × Obj) → Prop) : Prop := ∀ m news news', J m news → (∀ p ∈ news, p.2.cls ≠ ic → p ∈ news') → J m news'
/-- a range's iterator, by its class and its kind -/
def IterLike (o : Obj) : Prop := o.cls = .type "range_iterator" ∧ ∃ vs, o.data = .fields vs
def MonoD (J : (Str → Option Value) → List (Addr × Obj) → Prop) : Prop := ∀ m news news', J m news → (∀ p ∈ news, ¬ IterLike p.2 → p ∈ news') → J m news'
section
variable {prog : Program} {w : World} {A : Around} {E : Value → Shared → Prop} {s : Shared} {env : Env} {h₀ : Heap} {x : Str} {body : List Stmt} {Q : Flow → Shared → Prop}
theorem loop_rngD {r : Addr} {a₀ b₀ c : Int} {t₀ u₀ v₀ : Tok} {n : Nat} {m₀ : Str → Option Value} {news : List (Addr × Obj)} (kept : List (Addr × Obj)) (J : Nat → (Str → Option Value) → List (Addr × Obj) → Prop) (hkp : ∀ p ∈ kept, p ∈ news)
    (hh : A.handled = none) (hr : IsRange s.heap r a₀ b₀ c t₀ u₀ v₀) (hsmall : Builtin.Range.small a₀ b₀ c = true) (hn : Builtin.Range.rangeSize a₀ b₀ c = (n : Int)) (F : Fr h₀ env.locals s.heap m₀) (N : News h₀ env.locals s.heap news)
    (mono : ∀ k, MonoD (J k)) (start : J 0 m₀ news)
    (turn : ∀ (k : Nat) (t : Tok) (m₁ : Str → Option Value) (news₁ : List (Addr × Obj)) (h : Heap) (tk : Nat) (I : Addr) (o : Obj), k < n → J k m₁ news₁ → (∀ p ∈ kept, p ∈ news₁) → IterLike o → (∀ p ∈ news₁, p.1 ≠ I) → Fr h₀ env.locals h (fun y => if y = x then some (.int (a₀ + (k : Int) * c) t) else m₁ y) → News h₀ env.locals h ((I, o) :: news₁) →
      wpAny (model prog w) A (execs body env) (TurnPostO h₀ env.locals { s with heap := h, toks := tk } (I, o) kept (J (k + 1)) Q) E { s with heap := h, toks := tk })
    (done : ∀ m₁ news₁ h tk, J n m₁ news₁ → (∀ p ∈ kept, p ∈ news₁) → Fr h₀ env.locals h m₁ → News h₀ env.locals h news₁ → Q .next { s with heap := h, toks := tk }) :
    wpAny (model prog w) A (pyIter (.ref r)) (fun it s₂ => LoopAtV prog w A h₀ env x body Q E it s₂) E s := by
  refine wpAny_pyIter_range hr hsmall ?_
  have W : Walks prog w A s.heap.objs.size [s.heap.objs.size] [s.heap.objs.size] n (fun i v => i < n ∧ ∃ t, v = .int (a₀ + i * c) t)
      (fun i h => IsRangeIter h s.heap.objs.size (a₀ + (i : Nat) * c) ((n : Int) - (i : Nat)) c) := (Walks.range hh _ a₀ c n).bound
  have hnew := next_is_new F
  refine ⟨_, _, _, n, _, _, m₀, news, fun k m nw => (∀ p ∈ kept, p ∈ nw) ∧ J k m nw, rfl, W, ?_, ?_, ?_, (by show IsRangeIter _ _ _ _ _; rw [hn]; simpa using Heap.get?_push_size _ rfl), F.push _, (fun p hp => ⟨Heap.get?_push_of_some _ (N p hp).1, (N p hp).2⟩), ⟨hkp, start⟩, ?_, ?_⟩
  · intro hm
    exact absurd F.ns.lt ((List.mem_singleton.mp hm) ▸ Nat.lt_irrefl _)
  · intro b hb
    rw [List.mem_singleton.mp hb]
    exact hnew
  · intro p hp hI
    exact absurd (Heap.lt_size (N p hp).1) ((List.mem_singleton.mp hI) ▸ Nat.lt_irrefl _)
  · rintro i v m₁ news₁ s₁ own ⟨hh', tk', rfl⟩ hin ⟨_, t, rfl⟩ ⟨hsub, hJ⟩ hoff hown hget hall hst F₁ N₁
    obtain ⟨o, ho, hoc⟩ : ∃ o, hh'.get? s.heap.objs.size = some o ∧ IterLike o := by
      have q : IsRangeIter hh' s.heap.objs.size (a₀ + ((i + 1 : Nat) : Int) * c) ((n : Int) - ((i + 1 : Nat) : Int)) c := hst
      exact ⟨_, q, rfl, _, rfl⟩
    have hmem := hall s.heap.objs.size (List.mem_singleton.mpr rfl) hnew _ ho
    have N₂ : News h₀ env.locals hh' ((s.heap.objs.size, o) :: news₁) := fun p hp => by
      rcases List.mem_cons.mp hp with rfl | hp
      · exact N₁ _ (List.mem_append_left _ hmem)
      · exact N₁ _ (List.mem_append_right _ hp)
    refine wpAny_mono (turn i t m₁ news₁ hh' tk' s.heap.objs.size o hin hJ hsub hoc (fun p hp e => hoff p hp (List.mem_singleton.mpr e)) F₁ N₂) (fun f s₂ p => ?_) fun _ _ e => e
    have fin : (∃ h' tk m' news', s₂ = { s with heap := h', toks := tk } ∧ Fr h₀ env.locals h' m' ∧ News h₀ env.locals h' news' ∧ (s.heap.objs.size, o) ∈ news' ∧ (∀ p ∈ kept, p ∈ news') ∧ J (i + 1) m' news') →
        LoopStepU h₀ env.locals [s.heap.objs.size] own (fun m nw => (∀ p ∈ kept, p ∈ nw) ∧ J (i + 1) m nw) { s with heap := hh', toks := tk' } .next s₂ := by
      rintro ⟨h', tk, m', news', e, F', N', ho', hk', hJ'⟩
      refine ⟨rfl, h', tk, m', news'.filter (fun p => decide (p.1 ≠ s.heap.objs.size)), e, F', fun p hp => ?_, fun p hp hI => ?_, fun p hp => List.mem_filter.mpr ⟨hk' p hp, decide_eq_true (Nat.ne_of_lt (Heap.lt_size (N p (hkp p hp)).1))⟩, ?_⟩
      · rcases List.mem_append.mp hp with hp | hp
        · have h1 : p.1 = s.heap.objs.size := List.mem_singleton.mp (hown p hp)
          have h2 : hh'.get? p.1 = some p.2 := hget p hp
          have h3 : p = (s.heap.objs.size, o) := by
            rw [h1, ho] at h2
            exact Prod.ext h1 (Option.some.inj h2).symm
          rw [h3]; exact N' _ ho'
        · exact N' p (List.mem_filter.mp hp).1
      · exact of_decide_eq_true (List.mem_filter.mp hp).2 (List.mem_singleton.mp hI)
      · refine mono _ _ _ _ hJ' fun p hp hc => List.mem_filter.mpr ⟨hp, decide_eq_true fun e => ?_⟩
        have h1 := (N' p hp).1
        rw [e, (N' _ ho').1] at h1
        exact hc ((Option.some.inj h1) ▸ hoc)
    cases f with
    | ret v => exact .ret p
    | brk => exact .brk p
    | next => exact .next (fin p)
    | cont => exact .cont (fin p)
  · rintro h' tk m' news' F' N' _ ⟨hsub, hJ⟩
    exact done m' news' h' tk hJ hsub F' N'
theorem loop_rngK {r : Addr} {a₀ b₀ c : Int} {t₀ u₀ v₀ : Tok} {n : Nat} {m₀ : Str → Option Value} {news : List (Addr × Obj)} (kept : List (Addr × Obj)) (J : Nat → (Str → Option Value) → List (Addr × Obj) → Prop) (hkp : ∀ p ∈ kept, p ∈ news)
    (hh : A.handled = none) (hr : IsRange s.heap r a₀ b₀ c t₀ u₀ v₀) (hsmall : Builtin.Range.small a₀ b₀ c = true) (hn : Builtin.Range.rangeSize a₀ b₀ c = (n : Int)) (F : Fr h₀ env.locals s.heap m₀) (N : News h₀ env.locals s.heap news)
    (mono : ∀ k, Mono (.type "range_iterator") (J k)) (start : J 0 m₀ news)
    (turn : ∀ (k : Nat) (t : Tok) (m₁ : Str → Option Value) (news₁ : List (Addr × Obj)) (h : Heap) (tk : Nat) (I : Addr) (o : Obj), k < n → J k m₁ news₁ → (∀ p ∈ kept, p ∈ news₁) → o.cls = .type "range_iterator" → (∀ p ∈ news₁, p.1 ≠ I) → Fr h₀ env.locals h (fun y => if y = x then some (.int (a₀ + (k : Int) * c) t) else m₁ y) → News h₀ env.locals h ((I, o) :: news₁) →
      wpAny (model prog w) A (execs body env) (TurnPostO h₀ env.locals { s with heap := h, toks := tk } (I, o) kept (J (k + 1)) Q) E { s with heap := h, toks := tk })
    (done : ∀ m₁ news₁ h tk, J n m₁ news₁ → (∀ p ∈ kept, p ∈ news₁) → Fr h₀ env.locals h m₁ → News h₀ env.locals h news₁ → Q .next { s with heap := h, toks := tk }) :
    wpAny (model prog w) A (pyIter (.ref r)) (fun it s₂ => LoopAtV prog w A h₀ env x body Q E it s₂) E s := by
  refine loop_rngD kept J hkp hh hr hsmall hn F N (fun k m n n' q h => mono k m n n' q fun p hp hc => h p hp fun z => hc z.1) start (fun k t m₁ nw h tk I o hk hJ hs ho hf F' N' => turn k t m₁ nw h tk I o hk hJ hs ho.1 hf F' N') done
theorem loop_rng {r : Addr} {a₀ b₀ c : Int} {t₀ u₀ v₀ : Tok} {n : Nat} {m₀ : Str → Option Value} {news : List (Addr × Obj)} (J : Nat → (Str → Option Value) → List (Addr × Obj) → Prop)
    (hh : A.handled = none) (hr : IsRange s.heap r a₀ b₀ c t₀ u₀ v₀) (hsmall : Builtin.Range.small a₀ b₀ c = true) (hn : Builtin.Range.rangeSize a₀ b₀ c = (n : Int)) (F : Fr h₀ env.locals s.heap m₀) (N : News h₀ env.locals s.heap news)
    (mono : ∀ k, Mono (.type "range_iterator") (J k)) (start : J 0 m₀ news)
    (turn : ∀ (k : Nat) (t : Tok) (m₁ : Str → Option Value) (news₁ : List (Addr × Obj)) (h : Heap) (tk : Nat) (I : Addr) (o : Obj), k < n → J k m₁ news₁ → (∀ p ∈ news, p ∈ news₁) → o.cls = .type "range_iterator" → (∀ p ∈ news₁, p.1 ≠ I) → Fr h₀ env.locals h (fun y => if y = x then some (.int (a₀ + (k : Int) * c) t) else m₁ y) → News h₀ env.locals h ((I, o) :: news₁) →
      wpAny (model prog w) A (execs body env) (TurnPostO h₀ env.locals { s with heap := h, toks := tk } (I, o) news (J (k + 1)) Q) E { s with heap := h, toks := tk })
    (done : ∀ m₁ news₁ h tk, J n m₁ news₁ → (∀ p ∈ news, p ∈ news₁) → Fr h₀ env.locals h m₁ → News h₀ env.locals h news₁ → Q .next { s with heap := h, toks := tk }) :
    wpAny (model prog w) A (pyIter (.ref r)) (fun it s₂ => LoopAtV prog w A h₀ env x body Q E it s₂) E s :=
  loop_rngK news J (fun _ h => h) hh hr hsmall hn F N mono start turn done
end
section
open PyProof.Rows.LCg
/-- a tuple of the ledger (or of the ground) as the source of a comprehension -/
def TupAt (h₀ : Heap) (ax : Addr) (its : Array Value) (news : List (Addr × Obj)) : Prop := h₀.IsTuple ax its ∨ ∃ o, (ax, o) ∈ news ∧ o.cls = .type "tuple" ∧ ∃ n, o.data = .seq its n
theorem TupAt.tuple {h₀ h : Heap} {L ax : Addr} {its : Array Value} {news : List (Addr × Obj)} (x : TupAt h₀ ax its news) (k : ∀ b o, h₀.get? b = some o → h.get? b = some o) (N : News h₀ L h news) : h.IsTuple ax its := by
  rcases x with ⟨o, e, r⟩ | ⟨o, hm, r⟩
  · exact ⟨o, k _ _ e, r⟩
  · exact ⟨o, (N _ hm).1, r⟩
def TupSrc (prog : Program) (w : World) (A : Around) (h₀ : Heap) (L : Addr) (m : Str → Option Value) (env : Env) (elt : Expr) (x : Str) (scope : Scope) (cl : List (Str × Addr)) (Fin : Shared → List Value → List (Addr × Obj) → Prop) (xv : Value) (s₁ : Shared) : Prop :=
  ∃ ax its news, xv = .ref ax ∧ A.handled = none ∧ Fr h₀ L s₁.heap m ∧ News h₀ L s₁.heap news ∧ TupAt h₀ ax its news ∧ its.size ≤ sizeLine ∧
    ∀ s₂ : Shared, (∃ h, s₂ = { s₁ with heap := h }) → CompRest prog w A h₀ L m env elt x scope cl s₂ (TupAt h₀ ax its) (fun i v => its[i]? = some v) (Fin s₂) its.size 0 [] news
section
variable {prog : Program} {w : World} {A : Around} {E : Value → Shared → Prop} {s : Shared} {h₀ : Heap} {L : Addr} {m : Str → Option Value} {env : Env}
theorem TupSrc.ledger {elt : Expr} {x : Str} {scope : Scope} {cl : List (Str × Addr)} {Fin : Shared → List Value → List (Addr × Obj) → Prop} {ax : Addr} {its : Array Value} {k : Nat} {news : List (Addr × Obj)} {s₁ : Shared}
    (hh : A.handled = none) (F : Fr h₀ L s₁.heap m) (N : News h₀ L s₁.heap news) (hm : (ax, ({ cls := .type "tuple", data := .seq its k } : Obj)) ∈ news) (hsz : its.size ≤ sizeLine)
    (h : ∀ g, CompRest prog w A h₀ L m env elt x scope cl { s₁ with heap := g } (TupAt h₀ ax its) (fun i v => its[i]? = some v) (Fin { s₁ with heap := g }) its.size 0 [] news) :
    TupSrc prog w A h₀ L m env elt x scope cl Fin (.ref ax) s₁ := ⟨ax, its, news, rfl, hh, F, N, .inr ⟨_, hm, rfl, _, rfl⟩, hsz, fun _ ⟨g, e⟩ => e ▸ h g⟩
theorem tup_st {ax I : Addr} {its : Array Value} : ∀ i (h h' : Heap) (o : Obj) (nw : List (Addr × Obj)), (h.IsTupleIter I ax i ∧ h.IsTuple ax its) → h.get? I = some o → h'.get? I = some o → (∀ b o, h₀.get? b = some o → h'.get? b = some o) → News h₀ L h' nw → TupAt h₀ ax its nw → (h'.IsTupleIter I ax i ∧ h'.IsTuple ax its) :=
  fun i h h' o nw st e e' k N S => ⟨by obtain ⟨o', q, r⟩ := st.1; rw [e] at q; cases q; exact ⟨o, e', r⟩, S.tuple k N⟩
theorem ListComp_tup {elt iter : Expr} {x : Str} {px : Pos} {scope : Scope} {cl : List (Str × Addr)} {pos : Pos} {Q : Value → Shared → Prop} (_F₀ : Fr h₀ L s.heap m)
    (hclos : closureFor scope env = pure cl) (hcell : ∀ y ∈ scope.names, y.2 ≠ .cell) (hkind : scope.kind = .function)
    (hnames : ∀ y ∈ scope.names, y.2 = .local → scope.names.lookup y.1 = some .local) (hx : scope.names.lookup x = some .local)
    (h : wpAny (model prog w) A (eval iter env) (TupSrc prog w A h₀ L m env elt x scope cl (fun s₂ => FinE h₀ L m s₂ Q)) E s)
    (hs : ∀ x, foldedSetIterable iter env x = pure x := by intro _; rfl) :
    wpAny (model prog w) A (eval (.ListComp elt [⟨.Name x px, iter, [], 0⟩] scope pos) env) Q E s := by
  rw [eval_ListComp]
  refine wpAny_comprehension_free (use := none) rfl hs hclos hkind hnames (wpAny_mono h (fun xv s₁ h₁ => ?_) fun _ _ e => e)
  obtain ⟨ax, its, news, rfl, hh, F, N, S, hsz, R⟩ := h₁
  have hl := S.tuple F.keep N
  have hlt : ax < s₁.heap.objs.size := hl.elim fun _ e => Heap.lt_size e.1
  refine wpAny_pyIter_tuple hl ?_
  have up : ∀ b o, s₁.heap.get? b = some o → (s₁.heap.push { cls := .type "tuple_iterator", data := .fields #[.ref ax, .int 0 0] }).get? b = some o := fun b o e => Heap.get?_push_of_some _ e
  refine block_U (Walks.tuple hh s₁.heap.objs.size ax (Nat.ne_of_lt hlt) its) hsz (fun i h st => st.1.elim fun o e => ⟨o, e.1⟩) tup_st hcell hkind hx ⟨⟨_, Heap.get?_push_size _ rfl, rfl, rfl⟩, hl.push _⟩ (fun b hb => ?_)
    (F.keeps up) (N.grown up) (Nat.ne_of_lt F.ns.lt) (next_is_new F) (fun p hp => Nat.ne_of_lt (Heap.lt_size (N p hp).1)) S (R _ ⟨_, rfl⟩) ?_
  · have e : (s₁.heap.push { cls := .type "tuple_iterator", data := .fields #[.ref ax, .int 0 0] }).objs.size = s₁.heap.objs.size + 1 := Heap.size_push ..
    show b < (s₁.heap.push _).objs.size
    rw [e]
    simp only [List.mem_cons, List.not_mem_nil, or_false] at hb
    rcases hb with rfl | rfl
    · exact Nat.lt_succ_self _
    · exact Nat.lt_succ_of_lt hlt
  · intro D C h tk m' ys news' F' N' o1 hn hC₀ hD₀ hCL hDL hCD offC fin
    refine ⟨m', hn, fun h'' hs'' => fin D h'' tk (F'.change hs'' hCL hC₀) (fun p hp => ⟨hs''.extBut _ _ ?_ (N' p hp).1, (N' p hp).2⟩) o1⟩
    rcases List.mem_cons.mp hp with rfl | hp
    · exact Ne.symm hCD
    · exact offC p hp
theorem Assign_ListComp_tup {elt iter : Expr} {x y : Str} {px py : Pos} {scope : Scope} {cl : List (Str × Addr)} {pos spos : Pos} {Q : Flow → Shared → Prop} (_F₀ : Fr h₀ L s.heap m) (hLe : env.locals = L)
    (hsw : swapsWith (.ListComp elt [⟨.Name x px, iter, [], 0⟩] scope pos) (some (.Name y py)) spos.line env = pure true)
    (hclos : closureFor scope env = pure cl) (hcell : ∀ z ∈ scope.names, z.2 ≠ .cell) (hkind : scope.kind = .function)
    (hnames : ∀ z ∈ scope.names, z.2 = .local → scope.names.lookup z.1 = some .local) (hx : scope.names.lookup x = some .local)
    (hy : env.kindOf y = some .local) (hp : (env.scope.kind == .class || (env.scope.kind == .module && env.locals != env.globals)) = false)
    (h : wpAny (model prog w) A (eval iter env) (TupSrc prog w A h₀ L m env elt x scope cl (fun s₂ => FinA h₀ L m s₂ y Q)) E s)
    (hs : ∀ x, foldedSetIterable iter env x = pure x := by intro _; rfl) :
    wpAny (model prog w) A (exec (.Assign [.Name y py] (.ListComp elt [⟨.Name x px, iter, [], 0⟩] scope pos) spos) env) Q E s := by
  subst hLe
  rw [exec_Assign_Name_used _ _ _ _ hsw]
  refine wpAny_bind (wpAny_standAt (wpAny_bind ?_))
  show wpAny _ A (do let _ ← comprehension (.ListComp elt [⟨.Name x px, iter, [], 0⟩] scope pos) scope env _ (newList []) false (eval iter env) (some (assign (.Name y py) env))) _ _ s
  refine wpAny_bind (wpAny_mono (wpAny_comprehension_free (use := some (assign (.Name y py) env)) (Q := fun _ s' => Q .next s') rfl hs hclos hkind hnames
    (wpAny_mono h (fun xv s₁ h₁ => ?_) fun _ _ e => e)) (fun _ s' hq => wpAny_pure (wpAny_pure hq)) fun _ _ e => e)
  obtain ⟨ax, its, news, rfl, hh, F, N, S, hsz, R⟩ := h₁
  have hl := S.tuple F.keep N
  have hlt : ax < s₁.heap.objs.size := hl.elim fun _ e => Heap.lt_size e.1
  refine wpAny_pyIter_tuple hl ?_
  have up : ∀ b o, s₁.heap.get? b = some o → (s₁.heap.push { cls := .type "tuple_iterator", data := .fields #[.ref ax, .int 0 0] }).get? b = some o := fun b o e => Heap.get?_push_of_some _ e
  refine block_U (Walks.tuple hh s₁.heap.objs.size ax (Nat.ne_of_lt hlt) its) hsz (fun i h st => st.1.elim fun o e => ⟨o, e.1⟩) tup_st hcell hkind hx ⟨⟨_, Heap.get?_push_size _ rfl, rfl, rfl⟩, hl.push _⟩ (fun b hb => ?_)
    (F.keeps up) (N.grown up) (Nat.ne_of_lt F.ns.lt) (next_is_new F) (fun p hp => Nat.ne_of_lt (Heap.lt_size (N p hp).1)) S (R _ ⟨_, rfl⟩) ?_
  · have e : (s₁.heap.push { cls := .type "tuple_iterator", data := .fields #[.ref ax, .int 0 0] }).objs.size = s₁.heap.objs.size + 1 := Heap.size_push ..
    show b < (s₁.heap.push _).objs.size
    rw [e]
    simp only [List.mem_cons, List.not_mem_nil, or_false] at hb
    rcases hb with rfl | rfl
    · exact Nat.lt_succ_self _
    · exact Nat.lt_succ_of_lt hlt
  · intro D C h' tk m' ys news' F' N' o1 hn hC₀ hD₀ hCL hDL hCD offC fin
    show wpAny _ A (assign (.Name y py) env (.ref D)) _ _ _
    refine wpAny_assign_Name (wpAny_storeName_local hy F'.ns (fun h₂ hn₂ hs₂ => ?_) hp)
    have hL₀ : h₀.get? env.locals = none := Heap.get?_none_of_le F'.above
    have F₂ : Fr h₀ env.locals h₂ (fun z => if z = y then some (.ref D) else m z) := ⟨hn₂, fun b o e => hs₂.extBut b o (fun q => by rw [q, hL₀] at e; cases e) (F'.keep b o e), F'.above⟩
    refine ⟨m', hn.sameBut hs₂ hCL, fun h'' hs'' => fin D h'' _ (F₂.change hs'' hCL hC₀) (fun p hp => ⟨hs''.extBut _ _ ?_ (hs₂.extBut _ _ (N' p hp).2.1 (N' p hp).1), (N' p hp).2⟩) o1⟩
    rcases List.mem_cons.mp hp with rfl | hp
    · exact Ne.symm hCD
    · exact offC p hp
end
/-- the end of a turn that leaves the ledger as it stood -/
theorem compEnd_same {h₀ : Heap} {L I C D : Addr} {m : Str → Option Value} {s₁ : Shared} {oI oC oD : Obj} {S : List (Addr × Obj) → Prop} {rest : Value → List (Addr × Obj) → Prop} {y : Value} {h' : Heap} {tk : Nat} {news' : List (Addr × Obj)}
    (F : Fr h₀ L h' m) (N : News h₀ L h' ((I, oI) :: (C, oC) :: (D, oD) :: news')) (off : Off3 I C D news') (hS : S news') (r : rest y news') :
    CompEnd h₀ L m s₁ I oI C oC D oD S rest y { s₁ with heap := h', toks := tk } := ⟨h', tk, news', rfl, F, N, off, hS, r⟩
end
section
variable {prog : Program} {w : World} {A : Around} {E : Value → Shared → Prop} {s : Shared} {env : Env} {h₀ : Heap} {x : Str} {body : List Stmt} {Q : Flow → Shared → Prop}
theorem loop_tupK {ax : Addr} {its : Array Value} {c : Nat} {m₀ : Str → Option Value} {news : List (Addr × Obj)} (kept : List (Addr × Obj)) (J : Nat → (Str → Option Value) → List (Addr × Obj) → Prop) (hkp : ∀ p ∈ kept, p ∈ news)
    (hh : A.handled = none) (hax : (ax, ({ cls := .type "tuple", data := .seq its c } : Obj)) ∈ kept) (F : Fr h₀ env.locals s.heap m₀) (N : News h₀ env.locals s.heap news)
    (mono : ∀ k, Mono (.type "tuple_iterator") (J k)) (start : J 0 m₀ news)
    (turn : ∀ (k : Nat) (v : Value) (m₁ : Str → Option Value) (news₁ : List (Addr × Obj)) (h : Heap) (tk : Nat) (I : Addr) (o : Obj), k < its.size → its[k]? = some v → J k m₁ news₁ → (∀ p ∈ kept, p ∈ news₁) → o.cls = .type "tuple_iterator" → (∀ p ∈ news₁, p.1 ≠ I) → Fr h₀ env.locals h (fun y => if y = x then some v else m₁ y) → News h₀ env.locals h ((I, o) :: news₁) →
      wpAny (model prog w) A (execs body env) (TurnPostO h₀ env.locals { s with heap := h, toks := tk } (I, o) kept (J (k + 1)) Q) E { s with heap := h, toks := tk })
    (done : ∀ m₁ news₁ h tk, J its.size m₁ news₁ → (∀ p ∈ kept, p ∈ news₁) → Fr h₀ env.locals h m₁ → News h₀ env.locals h news₁ → Q .next { s with heap := h, toks := tk }) :
    wpAny (model prog w) A (pyIter (.ref ax)) (fun it s₂ => LoopAtV prog w A h₀ env x body Q E it s₂) E s := by
  have hl : s.heap.IsTuple ax its := ⟨_, (N _ (hkp _ hax)).1, rfl, _, rfl⟩
  have hlt : ax < s.heap.objs.size := Heap.lt_size (N _ (hkp _ hax)).1
  have hax0 : h₀.get? ax = none := (N _ (hkp _ hax)).2.2
  have haxL : ax ≠ env.locals := (N _ (hkp _ hax)).2.1
  refine wpAny_pyIter_tuple hl ?_
  have up : ∀ b o, s.heap.get? b = some o → (s.heap.push { cls := .type "tuple_iterator", data := .fields #[.ref ax, .int 0 0] }).get? b = some o := fun b o e => Heap.get?_push_of_some _ e
  have W := Walks.tuple (prog := prog) (w := w) hh s.heap.objs.size ax (Nat.ne_of_lt hlt) its
  have hnew := next_is_new F
  refine ⟨_, _, _, its.size, _, _, m₀, news, fun k m nw => (∀ p ∈ kept, p ∈ nw) ∧ J k m nw, rfl, W, ?_, ?_, ?_, ⟨⟨_, Heap.get?_push_size _ rfl, rfl, rfl⟩, hl.push _⟩, F.keeps up, N.grown up, ⟨hkp, start⟩, ?_, ?_⟩
  · intro hm
    simp only [List.mem_cons, List.not_mem_nil, or_false] at hm
    rcases hm with hm | hm
    · exact absurd F.ns.lt (hm ▸ Nat.lt_irrefl _)
    · exact haxL hm.symm
  · intro b hb
    rw [List.mem_singleton.mp hb]
    exact hnew
  · intro p hp hI
    exact absurd (Heap.lt_size (N p hp).1) ((List.mem_singleton.mp hI) ▸ Nat.lt_irrefl _)
  · rintro i v m₁ news₁ s₁ own ⟨hh', tk', rfl⟩ hin hv ⟨hsub, hJ⟩ hoff hown hget hall hst F₁ N₁
    obtain ⟨o, ho, hoc⟩ : ∃ o, hh'.get? s.heap.objs.size = some o ∧ o.cls = .type "tuple_iterator" := by
      obtain ⟨o, a, b, _⟩ := hst.1
      exact ⟨o, a, b⟩
    have hmem := hall s.heap.objs.size (List.mem_cons_self ..) hnew _ ho
    have N₂ : News h₀ env.locals hh' ((s.heap.objs.size, o) :: news₁) := fun p hp => by
      rcases List.mem_cons.mp hp with rfl | hp
      · exact N₁ _ (List.mem_append_left _ hmem)
      · exact N₁ _ (List.mem_append_right _ hp)
    refine wpAny_mono (turn i v m₁ news₁ hh' tk' s.heap.objs.size o hin hv hJ hsub hoc (fun p hp e => hoff p hp (List.mem_singleton.mpr e)) F₁ N₂) (fun f s₂ p => ?_) fun _ _ e => e
    have fin : (∃ h' tk m' news', s₂ = { s with heap := h', toks := tk } ∧ Fr h₀ env.locals h' m' ∧ News h₀ env.locals h' news' ∧ (s.heap.objs.size, o) ∈ news' ∧ (∀ p ∈ kept, p ∈ news') ∧ J (i + 1) m' news') →
        LoopStepU h₀ env.locals [s.heap.objs.size] own (fun m nw => (∀ p ∈ kept, p ∈ nw) ∧ J (i + 1) m nw) { s with heap := hh', toks := tk' } .next s₂ := by
      rintro ⟨h', tk, m', news', e, F', N', ho', hk', hJ'⟩
      refine ⟨rfl, h', tk, m', news'.filter (fun p => decide (p.1 ≠ s.heap.objs.size)), e, F', fun p hp => ?_, fun p hp hI => ?_, fun p hp => List.mem_filter.mpr ⟨hk' p hp, decide_eq_true (Nat.ne_of_lt (Heap.lt_size (N p (hkp p hp)).1))⟩, ?_⟩
      · rcases List.mem_append.mp hp with hp | hp
        · have h1 := hown p hp
          have h2 : hh'.get? p.1 = some p.2 := hget p hp
          simp only [List.mem_cons, List.not_mem_nil, or_false] at h1
          rcases h1 with h1 | h1
          · have h3 : p = (s.heap.objs.size, o) := by
              rw [h1, ho] at h2
              exact Prod.ext h1 (Option.some.inj h2).symm
            rw [h3]; exact N' _ ho'
          · have h4 := (N₁ _ (List.mem_append_right _ (hsub _ hax))).1
            have h3 : p = (ax, ({ cls := .type "tuple", data := .seq its c } : Obj)) := by
              rw [h1, h4] at h2
              exact Prod.ext h1 (Option.some.inj h2).symm
            rw [h3]; exact N' _ (hk' _ hax)
        · exact N' p (List.mem_filter.mp hp).1
      · exact of_decide_eq_true (List.mem_filter.mp hp).2 (List.mem_singleton.mp hI)
      · refine mono _ _ _ _ hJ' fun p hp hc => List.mem_filter.mpr ⟨hp, decide_eq_true fun e => ?_⟩
        have h1 := (N' p hp).1
        rw [e, (N' _ ho').1] at h1
        exact hc (hoc ▸ (congrArg Obj.cls (Option.some.inj h1)).symm)
    cases f with
    | ret v => exact .ret p
    | brk => exact .brk p
    | next => exact .next (fin p)
    | cont => exact .cont (fin p)
  · rintro h' tk m' news' F' N' _ ⟨hsub, hJ⟩
    exact done m' news' h' tk hJ hsub F' N'
end
/-- values that are tuples of three ints of the ledger -/
def Trips (nw : List (Addr × Obj)) : List Value → List (Int × Int × Int) → Prop
  | [], [] => True
  | v :: vs, t :: ts => (∃ r t1 t2 t3, v = .ref r ∧ (r, ({ cls := .type "tuple", data := .seq #[.int t.1 t1, .int t.2.1 t2, .int t.2.2 t3] } : Obj)) ∈ nw) ∧ Trips nw vs ts
  | _, _ => False
theorem Trips.mono {nw nw' : List (Addr × Obj)} (h : ∀ p ∈ nw, p.2.cls = .type "tuple" → p ∈ nw') : ∀ {vs : List Value} {ts : List (Int × Int × Int)}, Trips nw vs ts → Trips nw' vs ts
  | [], [], _ => trivial
  | _ :: _, _ :: _, ⟨⟨r, t1, t2, t3, e, hm⟩, hr⟩ => ⟨⟨r, t1, t2, t3, e, h _ hm rfl⟩, Trips.mono h hr⟩
  | [], _ :: _, x => x.elim
  | _ :: _, [], x => x.elim
theorem Trips.length {nw : List (Addr × Obj)} : ∀ {vs : List Value} {ts : List (Int × Int × Int)}, Trips nw vs ts → vs.length = ts.length
  | [], [], _ => rfl
  | _ :: _, _ :: _, ⟨_, hr⟩ => by rw [List.length_cons, List.length_cons, hr.length]
  | [], _ :: _, x => x.elim
  | _ :: _, [], x => x.elim
theorem Trips.snoc {nw : List (Addr × Obj)} {r : Addr} {t : Int × Int × Int} {t1 t2 t3 : Tok} (hm : (r, ({ cls := .type "tuple", data := .seq #[.int t.1 t1, .int t.2.1 t2, .int t.2.2 t3] } : Obj)) ∈ nw) : ∀ {vs : List Value} {ts : List (Int × Int × Int)}, Trips nw vs ts → Trips nw (vs ++ [.ref r]) (ts ++ [t])
  | [], [], _ => ⟨⟨r, t1, t2, t3, rfl, hm⟩, trivial⟩
  | _ :: _, _ :: _, ⟨a, hr⟩ => ⟨a, hr.snoc hm⟩
  | [], _ :: _, x => x.elim
  | _ :: _, [], x => x.elim
/-- the place of the cell (i, j) of the face f among those of level b, over all faces -/
def fpl (f i j : Int) (b : Nat) : Int := f * 4 ^ b + ((hil b (f % 2).toNat i.toNat j.toNat).1 : Int)
def Pf (f i j : Int) (k : Nat) (nn o : Int) : Prop :=
  nn = f * 2 ^ 60 + ((hil (4 * k) (f % 2).toNat (i.toNat / 2 ^ (32 - 4 * k)) (j.toNat / 2 ^ (32 - 4 * k))).1 : Int) * 4 ^ (32 - 4 * k) ∧
  o = ((hil (4 * k) (f % 2).toNat (i.toNat / 2 ^ (32 - 4 * k)) (j.toNat / 2 ^ (32 - 4 * k))).2 : Int)
def JF (f i j : Int) (k : Nat) (m : Str → Option Value) (_ : List (Addr × Obj)) : Prop :=
  ∃ nn o t1 t2 t3 t4, Pf f i j k nn o ∧ m (Str.ofString "n") = some (.int nn t1) ∧ m (Str.ofString "bits") = some (.int o t2) ∧ m (Str.ofString "i") = some (.int i t3) ∧ m (Str.ofString "j") = some (.int j t4) ∧ m (Str.ofString "cls") = some (.ref 561)
theorem ov {m : Str → Option Value} {x : Str} {v : Value} (h : m x = some v) : m = fun y => if y = x then some v else m y := by
  funext y
  by_cases hy : y = x
  · rw [if_pos hy, hy, h]
  · rw [if_neg hy]
theorem mask15 (x : Int) : Builtin.bitAnd x 15 = x % 16 := by
  have h := kbt_mask x 4
  rwa [show (2 : Int) ^ 4 - 1 = 15 from by decide, show (2 : Int) ^ 4 = 16 from by decide] at h
theorem mask127 (x : Int) : Builtin.bitAnd x 127 = x % 128 := by
  have h := kbt_mask x 7
  rwa [show (2 : Int) ^ 7 - 1 = 127 from by decide, show (2 : Int) ^ 7 = 128 from by decide] at h
theorem mask3 (x : Int) : Builtin.bitAnd x 3 = x % 4 := by
  have h := kbt_mask x 2
  rwa [show (2 : Int) ^ 2 - 1 = 3 from by decide, show (2 : Int) ^ 2 = 4 from by decide] at h
theorem mask1 (x : Int) : Builtin.bitAnd x 1 = x % 2 := by
  have h := kbt_mask x 1
  rwa [show (2 : Int) ^ 1 - 1 = 1 from by decide, show (2 : Int) ^ 1 = 2 from by decide] at h
def ixA (o x y : Int) : Int := o + Builtin.bitAnd x 15 * 2 ^ (4 + 2 : Int).toNat + Builtin.bitAnd y 15 * 2 ^ Int.toNat 2
theorem ixA_is (o x y : Int) : ixA o x y = o + x % 16 * 64 + y % 16 * 4 := by
  unfold ixA
  rw [mask15, mask15, show (2 : Int) ^ (4 + 2 : Int).toNat = 64 from by decide, show (2 : Int) ^ Int.toNat 2 = 4 from by decide]
theorem p7 : (2 : Int) ^ Int.toNat 7 = 128 := by decide
theorem p2 : (2 : Int) ^ Int.toNat 2 = 4 := by decide
theorem split128 (n : Nat) : 128 * ((n : Int) / 128).toNat + ((n : Int) % 128).toNat = n := Nat.div_add_mod n 128
theorem nn_mod (x : Int) {m : Int} (hm : m ≠ 0) : ∃ n : Nat, x % m = n := Int.eq_ofNat_of_zero_le (Int.emod_nonneg x hm)
theorem lt_mod {x : Int} {n : Nat} (h : x % 16 = n) : n < 16 := Int.ofNat_lt.mp (h ▸ Int.emod_lt_of_pos x (by decide))
theorem ix_lt {a b c : Nat} (ha : a < 4) (hb : b < 16) (hc : c < 16) : (a + b * 64 + c * 4) / 128 < 8 := Nat.div_lt_of_lt_mul (by omega)
theorem ixA_ok {o x y : Int} (ho : 0 ≤ o ∧ o < 4) : 0 ≤ (ixA o x y).fdiv (2 ^ Int.toNat 7) ∧ (ixA o x y).fdiv (2 ^ Int.toNat 7) < 8 ∧ 0 ≤ Builtin.bitAnd (ixA o x y) 127 ∧ Builtin.bitAnd (ixA o x y) 127 < 128 := by
  rw [p7, mask127, ixA_is, Int.fdiv_eq_ediv_of_nonneg _ (by decide)]
  obtain ⟨a, rfl⟩ := Int.eq_ofNat_of_zero_le ho.1
  obtain ⟨b, hb⟩ := nn_mod x (m := 16) (by decide)
  obtain ⟨c, hc⟩ := nn_mod y (m := 16) (by decide)
  have h := ix_lt (Int.ofNat_lt.mp ho.2) (lt_mod hb) (lt_mod hc)
  rw [hb, hc]
  exact ⟨Int.natCast_nonneg ((a + b * 64 + c * 4) / 128), Int.ofNat_lt.mpr h, Int.emod_nonneg _ (by decide), Int.emod_lt_of_pos _ (by decide)⟩
theorem ixA_nat {o x y : Int} {D : Int} {f : Nat → Int} (ho : 0 ≤ o ∧ o < 4) (hD : D = f (128 * ((ixA o x y).fdiv (2 ^ Int.toNat 7)).toNat + (Builtin.bitAnd (ixA o x y) 127).toNat)) :
    D = f (o.toNat + 64 * (x % 16).toNat + 4 * (y % 16).toNat) := by
  rw [hD, p7, mask127, ixA_is, Int.fdiv_eq_ediv_of_nonneg _ (by decide)]
  obtain ⟨a, rfl⟩ := Int.eq_ofNat_of_zero_le ho.1
  obtain ⟨b, hb⟩ := nn_mod x (m := 16) (by decide)
  obtain ⟨c, hc⟩ := nn_mod y (m := 16) (by decide)
  rw [hb, hc]
  show f (128 * (((a + b * 64 + c * 4 : Nat) : Int) / 128).toNat + (((a + b * 64 + c * 4 : Nat) : Int) % 128).toNat) = f (a + 64 * b + 4 * c)
  rw [split128, Nat.mul_comm b, Nat.mul_comm c]
def posTab (k : Nat) : Int := let h := hil 4 (k % 4) (k / 64) (k / 4 % 16); ((4 * h.1 + h.2 : Nat) : Int)
def ijTab (k : Nat) : Int := let h := lih 4 (k % 4) (k / 4); ((64 * h.1 + 4 * h.2.1 + h.2.2 : Nat) : Int)
theorem and_zero : ∀ (m : Nat) (x y : Int), 0 ≤ y → y < 2 ^ m → Builtin.bitAnd (x * 2 ^ m) y = 0 := by
  intro m
  induction m with
  | zero =>
    intro x y h0 h1
    have : y = 2 ^ 0 - 1 := by simp at h1 ⊢; omega
    rw [this, kbt_mask]
    simp
  | succ m ih =>
    intro x y h0 h1
    rw [kbt_halves]
    have e : x * 2 ^ (m + 1) = 2 * (x * 2 ^ m) := by rw [Int.pow_succ, ← Int.mul_assoc, Int.mul_comm]
    have h1' : y < 2 * 2 ^ m := by rw [Int.pow_succ] at h1; omega
    rw [e, Int.mul_ediv_cancel_left _ (by decide), ih x (y / 2) (by omega) (by omega), Int.mul_emod_right]
    simp
theorem or_add {m : Nat} {x y : Int} (h0 : 0 ≤ y) (h1 : y < 2 ^ m) : Builtin.bitOr (x * 2 ^ m) y = x * 2 ^ m + y := by
  rw [bitOr_and, and_zero m x y h0 h1]; omega
theorem idx_o {o i j : Nat} (ho : o < 4) : (o + 64 * i + 4 * j) % 4 = o := by
  rw [show 64 * i = 4 * (16 * i) from Nat.mul_assoc 4 16 i, Nat.add_mul_mod_self_left, Nat.add_mul_mod_self_left, Nat.mod_eq_of_lt ho]
theorem idx_q {o i j : Nat} (ho : o < 4) : (o + 64 * i + 4 * j) / 4 = 16 * i + j := by
  rw [show 64 * i = 4 * (16 * i) from Nat.mul_assoc 4 16 i, Nat.add_mul_div_left _ _ (by decide), Nat.add_mul_div_left _ _ (by decide), Nat.div_eq_of_lt ho, Nat.zero_add]
theorem idx_j {o i j : Nat} (ho : o < 4) (hj : j < 16) : (o + 64 * i + 4 * j) / 4 % 16 = j := by rw [idx_q ho, Nat.mul_add_mod, Nat.mod_eq_of_lt hj]
theorem idx_i {o i j : Nat} (ho : o < 4) (hj : j < 16) : (o + 64 * i + 4 * j) / 64 = i := by
  rw [show 64 = 4 * 16 from rfl, ← Nat.div_div_eq_div_mul, show 4 * 16 * i = 64 * i from rfl, idx_q ho, Nat.mul_add_div (by decide), Nat.div_eq_of_lt hj, Nat.add_zero]
theorem hil4_lt {o i j : Nat} (ho : o < 4) (hi : i < 16) (hj : j < 16) : posTab (o + 64 * i + 4 * j) = ((4 * (hil 4 o i j).1 + (hil 4 o i j).2 : Nat) : Int) := by
  unfold posTab
  rw [idx_o ho, idx_i ho hj, idx_j ho hj]
theorem hil4_top : ∀ o : Fin 2, ∀ i : Fin 4, ∀ j : Fin 4, (hil 4 o.1 i.1 j.1).1 < 16 := by decide
theorem nat_div_cast (i : Int) (b : Nat) (hi : 0 ≤ i) : (i.fdiv (2 ^ b) % 16).toNat = i.toNat / 2 ^ b % 16 := by
  obtain ⟨n, rfl⟩ := Int.eq_ofNat_of_zero_le hi
  rw [Int.fdiv_eq_ediv_of_nonneg _ (Int.le_of_lt (pw b)), show ((2 : Int) ^ b) = ((2 ^ b : Nat) : Int) from (kbt_cast b).symm]
  rw [← Int.natCast_ediv]
  show ((((n / 2 ^ b : Nat) : Int)) % ((16 : Nat) : Int)).toNat = _
  rw [← Int.natCast_emod]
  rfl
theorem par_lt (f : Int) : (f % 2).toNat < 2 := by
  obtain ⟨n, h⟩ := nn_mod f (m := 2) (by decide)
  rw [h]
  exact Int.ofNat_lt.mp (h ▸ Int.emod_lt_of_pos f (by decide))
theorem fij_b {k : Nat} (hk : k < 8) : ∃ b, b + 4 * k = 28 := ⟨28 - 4 * k, Nat.sub_add_cancel (Nat.mul_le_mul_left 4 (Nat.le_of_lt_succ hk))⟩
theorem fij_κ {k b : Nat} {κ : Int} (hb : b + 4 * k = 28) (hκ : κ = 7 + (k : Int) * -1) : κ * 4 = (b : Int) := by omega
theorem fij_e2 {b : Nat} {κ : Int} (h : κ * 4 = (b : Int)) : (κ * 2 * 4).toNat = 2 * b := by
  rw [Int.mul_assoc, show (2 : Int) * 4 = 4 * 2 from rfl, ← Int.mul_assoc, h, Int.mul_comm]
  rfl
theorem fij_e3 {k b : Nat} (hb : b + 4 * k = 28) : 32 - 4 * k = b + 4 := by
  rw [show 32 = 28 + 4 from rfl, ← hb, Nat.add_right_comm, Nat.add_sub_cancel]
theorem fij_e4 {k b : Nat} (hb : b + 4 * k = 28) : 32 - (4 * k + 4) = b := by rw [← Nat.sub_sub, fij_e3 hb, Nat.add_sub_cancel]
theorem lt30 {i : Int} (h0 : 0 ≤ i) (h : i < 1073741824) : i.toNat < 2 ^ 28 * 4 := by
  obtain ⟨n, rfl⟩ := Int.eq_ofNat_of_zero_le h0
  exact Int.ofNat_lt.mp h
theorem d_rng {a c : Nat} (h : a < 256) (h2 : c < 4) : 0 ≤ ((4 * a + c : Nat) : Int) ∧ ((4 * a + c : Nat) : Int) < 1024 := ⟨Int.natCast_nonneg _, Int.ofNat_lt.mpr (show 4 * a + c < 1024 by omega)⟩
theorem d_div {a c : Nat} (h2 : c < 4) : ((4 * a + c : Nat) : Int) / 4 = (a : Int) := congrArg Int.ofNat ((Nat.mul_add_div (by decide) a c).trans (by rw [Nat.div_eq_of_lt h2, Nat.add_zero]))
theorem d_mod {a c : Nat} (h2 : c < 4) : ((4 * a + c : Nat) : Int) % 4 = (c : Int) := congrArg Int.ofNat ((Nat.mul_add_mod 4 a c).trans (Nat.mod_eq_of_lt h2))
theorem top_b {k b : Nat} (hb : b + 4 * k = 28) (h : k = 0) : b = 28 := by rw [h] at hb; exact hb
theorem low_b {k b : Nat} (hb : b + 4 * k = 28) (h : ¬ k = 0) : 52 - 2 * b + (2 * b + 8) = 60 := by omega
theorem fij_step {f i j nn o D κ : Int} {k : Nat} (hk : k < 8) (hf0 : 0 ≤ f) (hi0 : 0 ≤ i) (hi : i < 1073741824) (hj0 : 0 ≤ j) (hj : j < 1073741824) (P : Pf f i j k nn o) (hκ : κ = 7 + (k : Int) * -1)
    (hD : D = posTab (o.toNat + 64 * (i.fdiv (2 ^ (κ * 4).toNat) % 16).toNat + 4 * (j.fdiv (2 ^ (κ * 4).toNat) % 16).toNat)) :
    (0 ≤ D ∧ D < 1024) ∧ Pf f i j (k + 1) (Builtin.bitOr nn (D.fdiv (2 ^ Int.toNat 2) * 2 ^ (κ * 2 * 4).toNat)) (Builtin.bitAnd D (Builtin.bitOr 1 2)) := by
  obtain ⟨P1, P2⟩ := P
  obtain ⟨b, hb⟩ := fij_b hk
  have e0 := fij_κ hb hκ
  have e1 : (κ * 4).toNat = b := by rw [e0]; rfl
  have e2 := fij_e2 e0
  have e3 := fij_e3 hb
  have ho2 := par_lt f
  rw [e1, nat_div_cast i b hi0, nat_div_cast j b hj0] at hD
  rw [e3] at P1 P2
  have hH := hil_append (4 * k) 4 (f % 2).toNat (i.toNat / 2 ^ b) (j.toNat / 2 ^ b)
  rw [Nat.div_div_eq_div_mul, ← Nat.pow_add, Nat.div_div_eq_div_mul, ← Nat.pow_add] at hH
  have hHo := hil_o (4 * k) (f % 2).toNat (i.toNat / 2 ^ (b + 4)) (j.toNat / 2 ^ (b + 4)) (Nat.lt_trans ho2 (by decide))
  have hk0 : k = 0 → hil (4 * k) (f % 2).toNat (i.toNat / 2 ^ (b + 4)) (j.toNat / 2 ^ (b + 4)) = (0, (f % 2).toNat) := by rintro rfl; rfl
  generalize hG : hil (4 * k) (f % 2).toNat (i.toNat / 2 ^ (b + 4)) (j.toNat / 2 ^ (b + 4)) = H at *
  have hq : hil 4 H.2 (i.toNat / 2 ^ b) (j.toNat / 2 ^ b) = hil 4 H.2 (i.toNat / 2 ^ b % 16) (j.toNat / 2 ^ b % 16) := hil_mod 4 _ _ _ _ _ (Nat.mod_mod _ 16).symm (Nat.mod_mod _ 16).symm
  rw [P2, Int.toNat_natCast, hil4_lt hHo (Nat.mod_lt _ (by decide)) (Nat.mod_lt _ (by decide)), ← hq] at hD
  have hl := hil_lt 4 H.2 (i.toNat / 2 ^ b) (j.toNat / 2 ^ b)
  have hl2 := hil_o 4 H.2 (i.toNat / 2 ^ b) (j.toNat / 2 ^ b) hHo
  have htop : k = 0 → (hil 4 H.2 (i.toNat / 2 ^ b) (j.toNat / 2 ^ b)).1 < 16 := by
    intro h0
    have hb28 := top_b hb h0
    subst hb28
    rw [hk0 h0]
    have hi4 : i.toNat / 2 ^ 28 < 4 := Nat.div_lt_of_lt_mul (lt30 hi0 hi)
    have hj4 : j.toNat / 2 ^ 28 < 4 := Nat.div_lt_of_lt_mul (lt30 hj0 hj)
    exact hil4_top ⟨_, ho2⟩ ⟨_, hi4⟩ ⟨_, hj4⟩
  generalize hG2 : hil 4 H.2 (i.toNat / 2 ^ b) (j.toNat / 2 ^ b) = r at *
  rw [show 4 ^ 4 = 256 from rfl] at hl
  subst hD
  refine ⟨d_rng hl hl2, ?_, ?_⟩
  · rw [show 4 * (k + 1) = 4 * k + 4 from rfl, fij_e4 hb, hH, P1, e2, p2, Int.fdiv_eq_ediv_of_nonneg _ (by decide), d_div hl2]
    dsimp only
    have e5 : (4 : Int) ^ (b + 4) = 2 ^ (2 * b + 8) := by
      rw [show (4 : Int) = 2 ^ 2 from by decide, ← Int.pow_mul, show 2 * (b + 4) = 2 * b + 8 from rfl]
    have e6 : (4 : Int) ^ b = 2 ^ (2 * b) := by
      rw [show (4 : Int) = 2 ^ 2 from by decide, ← Int.pow_mul]
    have e7 : (2 : Int) ^ (2 * b + 8) = 256 * 2 ^ (2 * b) := by rw [pw_add, Int.mul_comm]; rfl
    rw [e5, e6]
    have hz := pw (2 * b)
    have hy0 : (0 : Int) ≤ (r.1 : Int) * 2 ^ (2 * b) := Int.mul_nonneg (Int.natCast_nonneg _) (Int.le_of_lt hz)
    have key : Builtin.bitOr (f * 2 ^ 60 + (H.1 : Int) * 2 ^ (2 * b + 8)) ((r.1 : Int) * 2 ^ (2 * b)) = f * 2 ^ 60 + (H.1 : Int) * 2 ^ (2 * b + 8) + (r.1 : Int) * 2 ^ (2 * b) := by
      by_cases h0 : k = 0
      · have hb28 : b = 28 := by omega
        rw [hk0 h0]
        subst hb28
        rw [show f * 2 ^ 60 + ((0 : Nat) : Int) * 2 ^ (2 * 28 + 8) = f * 2 ^ 60 by rw [Int.natCast_zero, Int.zero_mul, Int.add_zero]]
        refine or_add hy0 ?_
        have := htop h0
        have h2 : (r.1 : Int) * 2 ^ (2 * 28) < 16 * 2 ^ (2 * 28) := Int.mul_lt_mul_of_pos_right (Int.ofNat_lt.mpr this) hz
        exact Int.lt_of_lt_of_le h2 (by decide)
      · have e8 : f * 2 ^ 60 + (H.1 : Int) * 2 ^ (2 * b + 8) = (f * 2 ^ (52 - 2 * b) + (H.1 : Int)) * 2 ^ (2 * b + 8) := by
          rw [Int.add_mul, Int.mul_assoc, ← pw_add, low_b hb h0]
        rw [e8]
        refine or_add hy0 ?_
        rw [e7]
        exact Int.mul_lt_mul_of_pos_right (Int.ofNat_lt.mpr hl) hz
    rw [key, e7, Int.natCast_add, Int.natCast_mul, Int.add_mul, Int.mul_assoc]
    rw [show ((4 ^ 4 : Nat) : Int) = 256 from rfl, Int.add_assoc]
  · rw [show Builtin.bitOr 1 2 = 3 from by decide, mask3, show 4 * (k + 1) = 4 * k + 4 from rfl, fij_e4 hb, hH]
    exact d_mod hl2
theorem jf_start {f i j : Int} {t1 t2 t3 t4 : Tok} {m : Str → Option Value} {news : List (Addr × Obj)} (hf0 : 0 ≤ f) (e1 : m (Str.ofString "n") = some (.int (f * 2 ^ (61 - 1 : Int).toNat) t1)) (e2 : m (Str.ofString "bits") = some (.int (Builtin.bitAnd f 1) t2))
    (e3 : m (Str.ofString "i") = some (.int i t3)) (e4 : m (Str.ofString "j") = some (.int j t4)) (e5 : m (Str.ofString "cls") = some (.ref 561)) : JF f i j 0 m news := by
  refine ⟨_, _, _, _, _, _, ⟨?_, ?_⟩, e1, e2, e3, e4, e5⟩
  · show _ = f * 2 ^ 60 + ((0 : Nat) : Int) * _
    rw [show (61 - 1 : Int).toNat = 60 from by decide]; simp
  · show _ = (((f % 2).toNat : Nat) : Int)
    rw [mask1]; exact (Int.toNat_of_nonneg (Int.emod_nonneg f (by decide))).symm
theorem pf_o {f i j nn o : Int} {k : Nat} (P : Pf f i j k nn o) : 0 ≤ o ∧ o < 4 := by
  have := hil_o (4 * k) (f % 2).toNat (i.toNat / 2 ^ (32 - 4 * k)) (j.toNat / 2 ^ (32 - 4 * k)) (Nat.lt_trans (par_lt f) (by decide))
  rw [P.2]; exact ⟨Int.natCast_nonneg _, Int.ofNat_lt.mpr this⟩
theorem fpl_bounds {f i j : Int} (b : Nat) (hf0 : 0 ≤ f) (hf6 : f < 6) : 0 ≤ fpl f i j b ∧ fpl f i j b < 6 * 4 ^ b := by
  have h := hil_lt b (f % 2).toNat i.toNat j.toNat
  have h2 : (((hil b (f % 2).toNat i.toNat j.toNat).1 : Nat) : Int) < 4 ^ b := by
    have := Int.ofNat_lt.mpr h
    rwa [Int.natCast_pow] at this
  unfold fpl
  have hz : (0 : Int) < 4 ^ b := Int.pow_pos (by decide)
  have h3 := Int.mul_le_mul_of_nonneg_right (show f ≤ 5 by omega) (Int.le_of_lt hz)
  have h4 := Int.mul_nonneg hf0 (Int.le_of_lt hz)
  omega
theorem fij_done {f i j nn o : Int} (hf0 : 0 ≤ f) (hf6 : f < 6) (hi0 : 0 ≤ i) (hi : i < 1073741824) (hj0 : 0 ≤ j) (hj : j < 1073741824) (P : Pf f i j 8 nn o) : (nn * 2 + 1).fmod 18446744073709551615 = cid (fpl f i j 30) 30 := by
  have h := P.1
  rw [show 32 - 4 * 8 = 0 from rfl, show 4 * 8 = 2 + 30 from rfl, Nat.pow_zero, Nat.div_one, Nat.div_one, hil_append 2 30, Nat.div_eq_of_lt (show i.toNat < 2 ^ 30 by omega), Nat.div_eq_of_lt (show j.toNat < 2 ^ 30 by omega)] at h
  have h2 : ∀ o : Fin 2, hil 2 o.1 0 0 = (0, o.1) := by decide
  have h3 := h2 ⟨(f % 2).toNat, by omega⟩
  dsimp only at h3
  rw [h3] at h
  dsimp only at h
  have e : nn = fpl f i j 30 := by
    rw [h]; unfold fpl
    rw [Int.pow_zero, Int.mul_one, Nat.zero_mul, Nat.zero_add]
    rfl
  have hb := fpl_bounds (i := i) (j := j) 30 hf0 hf6
  rw [show (6 : Int) * 4 ^ 30 = 6917529027641081856 from by decide] at hb
  have e2 : nn * 2 + 1 = cid (fpl f i j 30) 30 := by
    rw [e]; unfold cid
    rw [show (2 : Int) ^ (60 - 2 * (30 : Int)).toNat = 1 from by decide]; omega
  rw [← e2, e]
  exact Int.fmod_eq_of_lt (by omega) (by omega)
theorem ixA_row {o x y : Int} (ho : 0 ≤ o ∧ o < 4) : ((ixA o x y).fdiv (2 ^ Int.toNat 7)).toNat < 8 := by
  have := ixA_ok (x := x) (y := y) ho
  omega
def tpos (N : Int) : Nat := N.toNat / 2 % 4 ^ 30
def tfc (N : Int) : Nat := N.toNat / 2 ^ 61
def Pt (N : Int) (k : Nat) (i j o : Int) : Prop :=
  i = ((lih (4 * k) (tfc N % 2) (tpos N / 4 ^ (32 - 4 * k))).1 : Int) * 2 ^ (32 - 4 * k) ∧ j = ((lih (4 * k) (tfc N % 2) (tpos N / 4 ^ (32 - 4 * k))).2.1 : Int) * 2 ^ (32 - 4 * k) ∧
  o = ((lih (4 * k) (tfc N % 2) (tpos N / 4 ^ (32 - 4 * k))).2.2 : Int)
def JT (N : Int) (x : Addr) (k : Nat) (m : Str → Option Value) (_ : List (Addr × Obj)) : Prop :=
  ∃ i j o t1 t2 t3 t4, Pt N k i j o ∧ m (Str.ofString "i") = some (.int i t1) ∧ m (Str.ofString "j") = some (.int j t2) ∧ m (Str.ofString "bits") = some (.int o t3) ∧ m (Str.ofString "face") = some (.int (N.fdiv (2 ^ Int.toNat 61)) t4) ∧ m (Str.ofString "self") = some (.ref x)
theorem two_lt (n : Nat) : n % 2 < 4 := Nat.lt_trans (Nat.mod_lt n (by decide)) (by decide)
theorem pt_o {N i j o : Int} {k : Nat} (P : Pt N k i j o) : 0 ≤ o ∧ o < 4 := by
  have := lih_o (4 * k) (tfc N % 2) (tpos N / 4 ^ (32 - 4 * k)) (two_lt _)
  rw [P.2.2]; exact ⟨Int.natCast_nonneg _, Int.ofNat_lt.mpr this⟩
theorem pt_ij {N i j o : Int} {k : Nat} (hk : k ≤ 8) (P : Pt N k i j o) : (0 ≤ i ∧ i < 4294967296) ∧ (0 ≤ j ∧ j < 4294967296) := by
  have h := lih_lt (4 * k) (tfc N % 2) (tpos N / 4 ^ (32 - 4 * k))
  have e : (2 : Int) ^ (4 * k) * 2 ^ (32 - 4 * k) = 4294967296 := by rw [← pw_add, show 4 * k + (32 - 4 * k) = 32 from Nat.add_sub_cancel' (Nat.mul_le_mul_left 4 hk)]; decide
  have hz := pw (32 - 4 * k)
  have c : ∀ a : Nat, a < 2 ^ (4 * k) → (0 : Int) ≤ (a : Int) * 2 ^ (32 - 4 * k) ∧ (a : Int) * 2 ^ (32 - 4 * k) < 4294967296 := by
    intro a ha
    refine ⟨Int.mul_nonneg (Int.natCast_nonneg _) (Int.le_of_lt hz), ?_⟩
    rw [← e]
    refine Int.mul_lt_mul_of_pos_right ?_ hz
    rw [← kbt_cast]; exact Int.ofNat_lt.mpr ha
  rw [P.1, P.2.1]
  exact ⟨c _ h.1, c _ h.2⟩
theorem bm4 (X : Int) : Builtin.bitAnd X (1 * 2 ^ (2 * 2 : Int).toNat - 1) = X % 16 := by
  rw [show (1 * 2 ^ (2 * 2 : Int).toNat - 1 : Int) = 15 from by decide, mask15]
theorem bm8 (X : Int) : Builtin.bitAnd X (1 * 2 ^ (2 * 4 : Int).toNat - 1) = X % 256 := by
  have h := kbt_mask X 8
  rw [show (1 * 2 ^ (2 * 4 : Int).toNat - 1 : Int) = 2 ^ 8 - 1 from by decide, h, show (2 : Int) ^ 8 = 256 from by decide]
theorem bm4' (X : Int) : Builtin.bitAnd X (1 * 2 ^ Int.toNat 4 - 1) = X % 16 := by
  rw [show (1 * 2 ^ Int.toNat 4 - 1 : Int) = 15 from by decide, mask15]
/-- the block of the place that a turn reads -/
def blk (N : Int) (k : Nat) : Nat := if k = 0 then N.toNat / 2 / 4 ^ 28 % 16 else N.toNat / 2 / 4 ^ (28 - 4 * k) % 256
theorem fd_nat (N : Int) (hN : 0 ≤ N) (b : Nat) : N.fdiv (2 ^ (2 * b + 1)) = ((N.toNat / 2 / 4 ^ b : Nat) : Int) := by
  obtain ⟨n, rfl⟩ := Int.eq_ofNat_of_zero_le hN
  rw [Int.fdiv_eq_ediv_of_nonneg _ (Int.le_of_lt (pw _)), ← kbt_cast, Int.toNat_natCast, Nat.div_div_eq_div_mul, ← Int.natCast_ediv]
  congr 2
  rw [Nat.pow_succ, Nat.mul_comm, Nat.pow_mul]
theorem κ7 {κ : Int} {k : Nat} (hκ : κ = 7 + (k : Int) * -1) (h : κ = 7) : k = 0 := by omega
theorem κ_odd {κ : Int} {b : Nat} (h : κ * 4 = (b : Int)) : (κ * 2 * 4 + 1).toNat = 2 * b + 1 := by
  rw [Int.mul_assoc, show (2 : Int) * 4 = 4 * 2 from rfl, ← Int.mul_assoc, h, Int.mul_comm]
  rfl
theorem fij_b' {k b : Nat} (hb : b + 4 * k = 28) : 28 - 4 * k = b := by rw [← hb, Nat.add_sub_cancel]
theorem blk0 {N κ i j o : Int} {k : Nat} (_P : Pt N k i j o) (hN : 0 ≤ N) (hκ : κ = 7 + (k : Int) * -1) (h : κ = 7) : Builtin.bitAnd (N.fdiv (2 ^ (κ * 2 * 4 + 1).toNat)) (1 * 2 ^ (2 * 2 : Int).toNat - 1) = (blk N k : Int) := by
  have hk := κ7 hκ h
  subst hk h
  rw [bm4, show ((7 : Int) * 2 * 4 + 1).toNat = 2 * 28 + 1 from rfl, fd_nat N hN]
  unfold blk
  rw [if_pos rfl]; rfl
theorem blk1 {N κ i j o : Int} {k : Nat} (_P : Pt N k i j o) (hk8 : k < 8) (hN : 0 ≤ N) (hκ : κ = 7 + (k : Int) * -1) (h : κ ≠ 7) : Builtin.bitAnd (N.fdiv (2 ^ (κ * 2 * 4 + 1).toNat)) (1 * 2 ^ (2 * 4 : Int).toNat - 1) = (blk N k : Int) := by
  obtain ⟨b, hb⟩ := fij_b hk8
  have e0 := fij_κ hb hκ
  have hk : k ≠ 0 := fun z => h (by rw [hκ, z]; rfl)
  rw [bm8, κ_odd e0, ← fij_b' hb, fd_nat N hN]
  unfold blk
  rw [if_neg hk]; rfl
theorem blk_lt (N : Int) (k : Nat) : blk N k < 256 := by
  unfold blk
  split
  · exact Nat.lt_trans (Nat.mod_lt _ (by decide)) (by decide)
  · exact Nat.mod_lt _ (by decide)
def ixB (o y : Int) : Int := o + y * 2 ^ Int.toNat 2
theorem ixb_lt {a b : Nat} (ha : a < 4) (hb : b < 256) : (a + b * 4) / 128 < 8 := Nat.div_lt_of_lt_mul (by omega)
theorem ixB_ok {o y : Int} (ho : 0 ≤ o ∧ o < 4) (hy : 0 ≤ y ∧ y < 256) : 0 ≤ (ixB o y).fdiv (2 ^ Int.toNat 7) ∧ (ixB o y).fdiv (2 ^ Int.toNat 7) < 8 ∧ 0 ≤ Builtin.bitAnd (ixB o y) 127 ∧ Builtin.bitAnd (ixB o y) 127 < 128 := by
  unfold ixB
  rw [p7, p2, mask127, Int.fdiv_eq_ediv_of_nonneg _ (by decide)]
  obtain ⟨a, rfl⟩ := Int.eq_ofNat_of_zero_le ho.1
  obtain ⟨b, rfl⟩ := Int.eq_ofNat_of_zero_le hy.1
  exact ⟨Int.natCast_nonneg ((a + b * 4) / 128), Int.ofNat_lt.mpr (ixb_lt (Int.ofNat_lt.mp ho.2) (Int.ofNat_lt.mp hy.2)), Int.emod_nonneg _ (by decide), Int.emod_lt_of_pos _ (by decide)⟩
theorem ixB_row {o y : Int} (ho : 0 ≤ o ∧ o < 4) (hy : 0 ≤ y ∧ y < 256) : ((ixB o y).fdiv (2 ^ Int.toNat 7)).toNat < 8 := by
  have h := ixB_ok ho hy
  exact (Int.toNat_lt h.1).mpr h.2.1
theorem ixB_nat {o y : Int} {D : Int} {f : Nat → Int} (ho : 0 ≤ o ∧ o < 4) (hy : 0 ≤ y ∧ y < 256) (hD : D = f (128 * ((ixB o y).fdiv (2 ^ Int.toNat 7)).toNat + (Builtin.bitAnd (ixB o y) 127).toNat)) :
    D = f (o.toNat + 4 * y.toNat) := by
  rw [hD]
  unfold ixB
  rw [p7, p2, mask127, Int.fdiv_eq_ediv_of_nonneg _ (by decide)]
  obtain ⟨a, rfl⟩ := Int.eq_ofNat_of_zero_le ho.1
  obtain ⟨b, rfl⟩ := Int.eq_ofNat_of_zero_le hy.1
  show f (128 * (((a + b * 4 : Nat) : Int) / 128).toNat + (((a + b * 4 : Nat) : Int) % 128).toNat) = f (a + 4 * b)
  rw [split128, Nat.mul_comm b]
theorem ijTab_is {o p : Nat} (ho : o < 4) : ijTab (o + 4 * p) = ((64 * (lih 4 o p).1 + 4 * (lih 4 o p).2.1 + (lih 4 o p).2.2 : Nat) : Int) := by
  unfold ijTab
  rw [Nat.add_mul_mod_self_left, Nat.mod_eq_of_lt ho, Nat.add_mul_div_left _ _ (by decide), Nat.div_eq_of_lt ho, Nat.zero_add]
theorem e_rng {a b c : Nat} (h : a < 16) (h1 : b < 16) (h2 : c < 4) : 0 ≤ ((64 * a + 4 * b + c : Nat) : Int) ∧ ((64 * a + 4 * b + c : Nat) : Int) < 1024 := ⟨Int.natCast_nonneg _, Int.ofNat_lt.mpr (show 64 * a + 4 * b + c < 1024 by omega)⟩
theorem e_mod {a b c : Nat} (h2 : c < 4) : ((64 * a + 4 * b + c : Nat) : Int) % 4 = (c : Int) := by
  rw [show 64 * a + 4 * b = 4 * (16 * a + b) by rw [Nat.mul_add, ← Nat.mul_assoc]]
  exact d_mod h2
theorem e_div {a b c : Nat} (h2 : c < 4) : ((64 * a + 4 * b + c : Nat) : Int) / 4 = ((16 * a + b : Nat) : Int) := by
  rw [show 64 * a + 4 * b = 4 * (16 * a + b) by rw [Nat.mul_add, ← Nat.mul_assoc]]
  exact d_div h2
theorem e_mid {a b : Nat} (h : b < 16) : ((16 * a + b : Nat) : Int) % 16 = (b : Int) := congrArg Int.ofNat ((Nat.mul_add_mod 16 a b).trans (Nat.mod_eq_of_lt h))
theorem e_top {a b : Nat} (h : b < 16) : ((16 * a + b : Nat) : Int) / 16 = (a : Int) := congrArg Int.ofNat ((Nat.mul_add_div (by decide) a b).trans (by rw [Nat.div_eq_of_lt h, Nat.add_zero]))
theorem e_64 {a b c : Nat} (h : b < 16) (h2 : c < 4) : ((64 * a + 4 * b + c : Nat) : Int) / 64 = (a : Int) := by
  rw [show (64 : Int) = 4 * 16 from rfl, ← Int.ediv_ediv_of_nonneg (by decide), e_div h2, e_top h]
theorem in_30 {k b : Nat} (hb : b + 4 * k = 28) (h : ¬ k = 0) : b + (4 + (26 - b)) = 30 := by omega
theorem tof_step {N i j o D κ : Int} {k : Nat} (hk : k < 8) (P : Pt N k i j o) (hκ : κ = 7 + (k : Int) * -1) (hD : D = ijTab (o.toNat + 4 * (blk N k : Int).toNat)) :
    (0 ≤ D ∧ D < 1024) ∧ Pt N (k + 1) (i + D.fdiv (2 ^ (4 + 2 : Int).toNat) * 2 ^ (κ * 4).toNat) (j + Builtin.bitAnd (D.fdiv (2 ^ Int.toNat 2)) (1 * 2 ^ Int.toNat 4 - 1) * 2 ^ (κ * 4).toNat) (Builtin.bitAnd D (Builtin.bitOr 1 2)) := by
  obtain ⟨P1, P2, P3⟩ := P
  obtain ⟨b, hb⟩ := fij_b hk
  have e1 : (κ * 4).toNat = b := by rw [fij_κ hb hκ]; rfl
  have e3 := fij_e3 hb
  rw [e3] at P1 P2 P3
  have hH := lih_append (4 * k) 4 (tfc N % 2) (tpos N / 4 ^ b)
  rw [Nat.div_div_eq_div_mul, ← Nat.pow_add] at hH
  have hHo := lih_o (4 * k) (tfc N % 2) (tpos N / 4 ^ (b + 4)) (two_lt _)
  generalize hG : lih (4 * k) (tfc N % 2) (tpos N / 4 ^ (b + 4)) = H at *
  have hq : lih 4 H.2.2 (tpos N / 4 ^ b) = lih 4 H.2.2 (blk N k) := by
    refine lih_mod 4 _ _ _ ?_
    rw [show 4 ^ 4 = 256 from rfl]
    unfold tpos blk
    split
    · rename_i h0
      have hb28 := top_b hb h0
      subst hb28
      generalize N.toNat / 2 = n
      have : n % 4 ^ 30 / 4 ^ 28 = n / 4 ^ 28 % 16 := by
        rw [show (4 : Nat) ^ 30 = 4 ^ 28 * 16 from by decide, Nat.mod_mul_right_div_self]
      rw [this]
    · rename_i h0
      rw [fij_b' hb]
      generalize N.toNat / 2 = n
      have e : (4 : Nat) ^ 30 = 4 ^ b * (256 * 4 ^ (26 - b)) := by
        rw [show (256 : Nat) = 4 ^ 4 from rfl, ← Nat.pow_add, ← Nat.pow_add, in_30 hb h0]
      rw [e, Nat.mod_mul_right_div_self, Nat.mod_mul_right_mod, Nat.mod_mod]
  rw [P3, Int.toNat_natCast, Int.toNat_natCast, ijTab_is hHo, ← hq] at hD
  have hl := lih_lt 4 H.2.2 (tpos N / 4 ^ b)
  have hl2 := lih_o 4 H.2.2 (tpos N / 4 ^ b) hHo
  generalize hG2 : lih 4 H.2.2 (tpos N / 4 ^ b) = r at *
  rw [show 2 ^ 4 = 16 from rfl] at hl
  subst hD
  have q6 : ((64 * r.1 + 4 * r.2.1 + r.2.2 : Nat) : Int).fdiv (2 ^ (4 + 2 : Int).toNat) = (r.1 : Int) := by
    rw [show (2 : Int) ^ (4 + 2 : Int).toNat = 64 from by decide, Int.fdiv_eq_ediv_of_nonneg _ (by decide)]; exact e_64 hl.2 hl2
  have q2 : Builtin.bitAnd (((64 * r.1 + 4 * r.2.1 + r.2.2 : Nat) : Int).fdiv (2 ^ Int.toNat 2)) (1 * 2 ^ Int.toNat 4 - 1) = (r.2.1 : Int) := by
    rw [bm4', p2, Int.fdiv_eq_ediv_of_nonneg _ (by decide), e_div hl2]; exact e_mid hl.2
  have e5 : (2 : Int) ^ (b + 4) = 16 * 2 ^ b := by rw [pw_add, Int.mul_comm]; rfl
  refine ⟨e_rng hl.1 hl.2 hl2, ?_, ?_, ?_⟩
  · rw [q6, e1, show 4 * (k + 1) = 4 * k + 4 from rfl, fij_e4 hb, hH, P1, e5]
    dsimp only
    rw [Int.natCast_add, Int.natCast_mul, Int.add_mul, Int.mul_assoc]
    rfl
  · rw [q2, e1, show 4 * (k + 1) = 4 * k + 4 from rfl, fij_e4 hb, hH, P2, e5]
    dsimp only
    rw [Int.natCast_add, Int.natCast_mul, Int.add_mul, Int.mul_assoc]
    rfl
  · rw [show Builtin.bitOr 1 2 = 3 from by decide, mask3, show 4 * (k + 1) = 4 * k + 4 from rfl, fij_e4 hb, hH]
    exact e_mod hl2
theorem jt_start {N i j o : Int} {x : Addr} {t1 t2 t3 t4 : Tok} {m : Str → Option Value} {news : List (Addr × Obj)} (hN : 0 ≤ N) (hi : i = 0) (hj : j = 0) (ho : o = Builtin.bitAnd (N.fdiv (2 ^ Int.toNat 61)) 1) (e1 : m (Str.ofString "i") = some (.int i t1)) (e2 : m (Str.ofString "j") = some (.int j t2))
    (e3 : m (Str.ofString "bits") = some (.int o t3)) (e4 : m (Str.ofString "face") = some (.int (N.fdiv (2 ^ Int.toNat 61)) t4)) (e5 : m (Str.ofString "self") = some (.ref x)) : JT N x 0 m news := by
  subst hi hj
  refine ⟨_, _, _, _, _, _, _, ⟨?_, ?_, ?_⟩, e1, e2, e3, e4, e5⟩
  · show (0 : Int) = ((0 : Nat) : Int) * _
    simp
  · show (0 : Int) = ((0 : Nat) : Int) * _
    simp
  · show o = ((tfc N % 2 : Nat) : Int)
    rw [ho, mask1]
    unfold tfc
    obtain ⟨n, rfl⟩ := Int.eq_ofNat_of_zero_le hN
    rw [Int.fdiv_eq_ediv_of_nonneg _ (Int.le_of_lt (pw _)), show (2 : Int) ^ Int.toNat 61 = ((2 ^ 61 : Nat) : Int) from by decide, ← Int.natCast_ediv, Int.toNat_natCast]
    rfl
/-- the i and j of the leaf that to_face_ij_orientation tells -/
def tI (N : Int) : Int := ((lih 30 (tfc N % 2) (tpos N)).1 : Int)
def tJ (N : Int) : Int := ((lih 30 (tfc N % 2) (tpos N)).2.1 : Int)
theorem tof_done {N i j o : Int} (P : Pt N 8 i j o) : i = tI N ∧ j = tJ N := by
  obtain ⟨P1, P2, _⟩ := P
  rw [show 32 - 4 * 8 = 0 from rfl, show 4 * 8 = 2 + 30 from rfl, Nat.pow_zero, Nat.div_one, lih_append 2 30, Nat.div_eq_of_lt (show tpos N < 4 ^ 30 from Nat.mod_lt _ (by decide))] at P1 P2
  have h2 : ∀ o : Fin 2, lih 2 o.1 0 = (0, 0, o.1) := by decide
  have h3 := h2 ⟨tfc N % 2, Nat.mod_lt _ (by decide)⟩
  dsimp only at h3
  rw [h3] at P1 P2
  dsimp only at P1 P2
  rw [P1, P2]
  unfold tI tJ
  simp
theorem pt_blk {N i j o : Int} {k : Nat} (_P : Pt N k i j o) : blk N k < 256 := blk_lt N k
def fx (f u v : Int) : Int := if f = 0 then 1 else if f = 1 then -u else if f = 2 then -u else if f = 3 then -1 else v
def fy (f u v : Int) : Int := if f = 0 then u else if f = 1 then 1 else if f = 2 then -v else if f = 3 then -v else if f = 4 then -1 else u
def fz (f u v : Int) : Int := if f = 0 then v else if f = 1 then v else if f = 2 then 1 else if f = 3 then -u else if f = 4 then -u else -1
theorem f_cases {f : Int} (h0 : 0 ≤ f) (h6 : f < 6) : f = 0 ∨ f = 1 ∨ f = 2 ∨ f = 3 ∨ f = 4 ∨ f = 5 := by
  obtain ⟨n, rfl⟩ := Int.eq_ofNat_of_zero_le h0
  have h := Int.ofNat_lt.mp h6
  clear h6 h0
  rcases n with _ | _ | _ | _ | _ | _ | n
  · exact .inl rfl
  · exact .inr (.inl rfl)
  · exact .inr (.inr (.inl rfl))
  · exact .inr (.inr (.inr (.inl rfl)))
  · exact .inr (.inr (.inr (.inr (.inl rfl))))
  · exact .inr (.inr (.inr (.inr (.inr rfl))))
  · exact absurd h (Nat.not_lt.mpr (Nat.le_add_left 6 n))
def iabs (x : Int) : Int := if -x > x then -x else x
/-- largest_abs_component -/
def lac (x y z : Int) : Int := if iabs x > iabs y then (if iabs x > iabs z then 0 else 2) else if iabs y > iabs z then 1 else 2
theorem lac_cases (x y z : Int) : lac x y z = 0 ∨ lac x y z = 1 ∨ lac x y z = 2 := by unfold lac; (repeat' split) <;> omega
theorem lac_a {x y z : Int} (h1 : iabs y < iabs x) (h2 : iabs z < iabs x) : lac x y z = 0 := by unfold lac; rw [if_pos h1, if_pos h2]
theorem lac_b {x y z : Int} (h1 : iabs y < iabs x) (h2 : ¬ iabs z < iabs x) : lac x y z = 2 := by unfold lac; rw [if_pos h1, if_neg h2]
theorem lac_c {x y z : Int} (h1 : ¬ iabs y < iabs x) (h2 : iabs z < iabs y) : lac x y z = 1 := by unfold lac; rw [if_neg h1, if_pos h2]
theorem lac_d {x y z : Int} (h1 : ¬ iabs y < iabs x) (h2 : ¬ iabs z < iabs y) : lac x y z = 2 := by unfold lac; rw [if_neg h1, if_neg h2]
/-- _quotient -/
def qt (a b : Int) : Int := (a * 2 ^ Int.toNat 54 + b).fdiv (2 * b)
def vu (f x y z : Int) : Int := if f = 0 then qt y x else if f = 1 then qt (-x) y else if f = 2 then qt (-x) z else if f = 3 then qt z x else if f = 4 then qt z y else qt (-y) z
def vv (f x y z : Int) : Int := if f = 0 then qt z x else if f = 1 then qt z y else if f = 2 then qt (-y) z else if f = 3 then qt y x else if f = 4 then qt (-x) y else qt (-x) z
def dotf (f x y z : Int) : Int := x * fx f 0 0 + y * fy f 0 0 + z * fz f 0 0
def xfF (x y z : Int) : Int := if lac x y z = 0 then (if x < 0 then 3 else 0) else if lac x y z = 1 then (if y < 0 then 4 else 1) else if z < 0 then 5 else 2
theorem xfF_ok (x y z : Int) : 0 ≤ xfF x y z ∧ xfF x y z < 6 := by unfold xfF; (repeat' split) <;> omega
/-- st_to_ij -/
def stv (s : Int) : Int := max 0 (min 1073741823 (s.fdiv (2 ^ Int.toNat 24)))
theorem stv_ok (s : Int) : 0 ≤ stv s ∧ stv s < 1073741824 := by unfold stv; omega
def clpI (i : Int) : Int := max (-1) (min 1073741824 i)
def clpJ (i : Int) : Int := max (-1) (min 1073741824 i)
def uvI (i : Int) : Int := 2 * i + 1 - 1073741824
def uvJ (i : Int) : Int := 2 * i + 1 - 1073741824
def wX (f i j : Int) : Int := fx f (uvI (clpI i)) (uvJ (clpJ j)) + fx f 0 0 * (1073741824 - 1)
def wY (f i j : Int) : Int := fy f (uvI (clpI i)) (uvJ (clpJ j)) + fy f 0 0 * (1073741824 - 1)
def wZ (f i j : Int) : Int := fz f (uvI (clpI i)) (uvJ (clpJ j)) + fz f 0 0 * (1073741824 - 1)
/-- from_face_ij_wrap: the face, i and j that it comes to -/
def wF (f i j : Int) : Int := xfF (wX f i j) (wY f i j) (wZ f i j)
def wI (f i j : Int) : Int := stv (vu (wF f i j) (wX f i j) (wY f i j) (wZ f i j) + 1 * 2 ^ Int.toNat 53)
def wJ (f i j : Int) : Int := stv (vv (wF f i j) (wX f i j) (wY f i j) (wZ f i j) + 1 * 2 ^ Int.toNat 53)
theorem nab {u : Int} {B : Nat} (h : -(B : Int) ≤ u ∧ u ≤ (B : Int)) : u.natAbs ≤ B := by omega
theorem f_gen {u v : Int} {B : Nat} (f : Int) (hB : 1 ≤ B) (hu : u.natAbs ≤ B) (hv : v.natAbs ≤ B) : ((fx f u v).natAbs ≤ B ∧ (fy f u v).natAbs ≤ B) ∧ (fz f u v).natAbs ≤ B := by
  unfold fx fy fz
  have hu' := hu
  have hv' := hv
  rw [← Int.natAbs_neg] at hu' hv'
  refine ⟨⟨?_, ?_⟩, ?_⟩ <;> (repeat' split) <;> assumption
theorem f_abs (f u v : Int) (hu : -1073741825 ≤ u ∧ u ≤ 1073741825) (hv : -1073741825 ≤ v ∧ v ≤ 1073741825) : ((fx f u v).natAbs ≤ 1073741825 ∧ (fy f u v).natAbs ≤ 1073741825) ∧ (fz f u v).natAbs ≤ 1073741825 := f_gen f (by decide) (nab hu) (nab hv)
theorem f_one (f : Int) : ((fx f 0 0).natAbs ≤ 1 ∧ (fy f 0 0).natAbs ≤ 1) ∧ (fz f 0 0).natAbs ≤ 1 := f_gen f (by decide) (by decide) (by decide)
theorem w_ne {f u v : Int} (h0 : 0 ≤ f) (h6 : f < 6) : fx f u v + fx f 0 0 * (1073741824 - 1) ≠ 0 ∨ fy f u v + fy f 0 0 * (1073741824 - 1) ≠ 0 ∨ fz f u v + fz f 0 0 * (1073741824 - 1) ≠ 0 := by
  rcases f_cases h0 h6 with rfl | rfl | rfl | rfl | rfl | rfl
  · exact .inl (show (1 : Int) + 1 * (1073741824 - 1) ≠ 0 by decide)
  · exact .inr (.inl (show (1 : Int) + 1 * (1073741824 - 1) ≠ 0 by decide))
  · exact .inr (.inr (show (1 : Int) + 1 * (1073741824 - 1) ≠ 0 by decide))
  · exact .inl (show (-1 : Int) + -1 * (1073741824 - 1) ≠ 0 by decide)
  · exact .inr (.inl (show (-1 : Int) + -1 * (1073741824 - 1) ≠ 0 by decide))
  · exact .inr (.inr (show (-1 : Int) + -1 * (1073741824 - 1) ≠ 0 by decide))
theorem iabs_nn (x : Int) : 0 ≤ iabs x := by unfold iabs; split <;> omega
theorem iabs_z {x : Int} (h : iabs x ≤ 0) : x = 0 := by
  unfold iabs at h
  split at h <;> omega
theorem nz_of {x y : Int} (h : iabs x > iabs y) : x ≠ 0 := fun e => Int.not_lt.mpr (iabs_nn y) (e ▸ h : iabs 0 > iabs y)
theorem lac_zero {x y z : Int} (h : x ≠ 0 ∨ y ≠ 0 ∨ z ≠ 0) : (lac x y z = 0 → x ≠ 0) ∧ (lac x y z = 1 → y ≠ 0) ∧ (lac x y z = 2 → z ≠ 0) := by
  by_cases h1 : iabs y < iabs x
  · by_cases h2 : iabs z < iabs x
    · rw [lac_a h1 h2]
      exact ⟨fun _ => nz_of h1, fun e => absurd e (by decide), fun e => absurd e (by decide)⟩
    · rw [lac_b h1 h2]
      exact ⟨fun e => absurd e (by decide), fun e => absurd e (by decide), fun _ => nz_of (Int.lt_of_lt_of_le h1 (Int.not_lt.mp h2))⟩
  · by_cases h2 : iabs z < iabs y
    · rw [lac_c h1 h2]
      exact ⟨fun e => absurd e (by decide), fun _ => nz_of h2, fun e => absurd e (by decide)⟩
    · rw [lac_d h1 h2]
      refine ⟨fun e => absurd e (by decide), fun e => absurd e (by decide), fun _ e => ?_⟩
      have hz : iabs z ≤ 0 := by rw [e]; decide
      have hy := Int.le_trans (Int.not_lt.mp h2) hz
      exact h.elim (fun n => n (iabs_z (Int.le_trans (Int.not_lt.mp h1) hy))) (fun n => n.elim (fun n => n (iabs_z hy)) fun n => n e)
theorem log2_lt_60 {b : Int} (h : b.natAbs < 2 ^ 40) : (2 * b).natAbs.log2 < 9000 := by
  by_cases h0 : (2 * b).natAbs = 0
  · rw [h0]; decide
  · have : (2 * b).natAbs.log2 < 41 := (Nat.log2_lt h0).mpr (by omega)
    omega
theorem eq_of {a b c : Int} (h : c = b) (h2 : a = b) : a = c := h2.trans h.symm
def sF (b : Bool) (f i j : Int) : Int := if b = true then f else wF f i j
def sI (b : Bool) (f i j : Int) : Int := if b = true then i else wI f i j
def sJ (b : Bool) (f i j : Int) : Int := if b = true then j else wJ f i j
theorem two1 : (2 : Int) ^ Int.toNat 1 = 2 := by decide
/-- the number that the law reads at a place of the script -/
@[irreducible] def num (ns : List Int) (i : Int) : Int := if i < ns.length then ns.getD i.toNat 0 else 40503 * i * i + 9973 * ns.length + 5
def PJ (B : Nat) (i0 j0 : Int) (k : Nat) (pl i j : Int) : Prop :=
  (0 ≤ i ∧ i < 2 ^ (B - k)) ∧ (0 ≤ j ∧ j < 2 ^ (B - k)) ∧ ((plc B i0.toNat j0.toNat : Nat) : Int) = pl * 4 ^ (B - k) + ((plc (B - k) i.toNat j.toNat : Nat) : Int) ∧ (0 ≤ pl ∧ pl < 4 ^ k)
def JPl (B : Nat) (i0 j0 : Int) (k : Nat) (m : Str → Option Value) (_ : List (Addr × Obj)) : Prop :=
  ∃ pl i j t1 t2 t3, PJ B i0 j0 k pl i j ∧ m (Str.ofString "place") = some (.int pl t1) ∧ m (Str.ofString "i") = some (.int i t2) ∧ m (Str.ofString "j") = some (.int j t3)
theorem pj_start {B : Nat} {i0 j0 : Int} (hi : 0 ≤ i0 ∧ i0 < 2 ^ B) (hj : 0 ≤ j0 ∧ j0 < 2 ^ B) : PJ B i0 j0 0 0 i0 j0 := ⟨hi, hj, by simp, by simp⟩
theorem pj_done {B : Nat} {i0 j0 pl i j : Int} (P : PJ B i0 j0 B pl i j) : pl = ((plc B i0.toNat j0.toNat : Nat) : Int) := by
  have h := P.2.2.1
  rw [Nat.sub_self] at h
  rw [h]; simp [plc]
theorem fd_dig {b : Nat} {i : Int} (h0 : 0 ≤ i) (h1 : i < 2 ^ (b + 1)) : (i.fdiv (2 ^ b) = 0 ∧ i < 2 ^ b) ∨ (i.fdiv (2 ^ b) = 1 ∧ 2 ^ b ≤ i) := by
  have hz := pw b
  have e := Int.pow_succ (2 : Int) b
  rw [e] at h1
  rw [Int.fdiv_eq_ediv_of_nonneg _ (Int.le_of_lt hz)]
  by_cases h : i < 2 ^ b
  · exact .inl ⟨Int.ediv_eq_zero_of_lt h0 h, h⟩
  · refine .inr ⟨?_, by omega⟩
    have : i = (i - 2 ^ b) + 2 ^ b * 1 := by omega
    rw [this, Int.add_mul_ediv_left _ _ (Int.ne_of_gt hz), Int.ediv_eq_zero_of_lt (by omega) (by omega)]
    rfl
theorem nat_pow_cast (b : Nat) : (2 : Int) ^ b = ((2 ^ b : Nat) : Int) := (kbt_cast b).symm
theorem plc_00 {b i j : Nat} (hi : i < 2 ^ b) (hj : j < 2 ^ b) : plc (b + 1) i j = plc b j i := by
  simp [plc, Nat.div_eq_of_lt hi, Nat.div_eq_of_lt hj, Nat.mod_eq_of_lt hi, Nat.mod_eq_of_lt hj]
theorem dig1 {b i : Nat} (h : i < 2 ^ b) : (2 ^ b + i) / 2 ^ b = 1 ∧ (2 ^ b + i) % 2 ^ b = i := by
  have hz : 0 < 2 ^ b := Nat.pow_pos (by decide)
  rw [Nat.add_comm, Nat.add_div_right _ hz, Nat.div_eq_of_lt h, Nat.add_mod_right, Nat.mod_eq_of_lt h]
  exact ⟨rfl, rfl⟩
theorem plc_10 {b i j : Nat} (hi : i < 2 ^ b) (hj : j < 2 ^ b) : plc (b + 1) (2 ^ b + i) j = 3 * 4 ^ b + plc b (2 ^ b - 1 - j) (2 ^ b - 1 - i) := by
  simp [plc, (dig1 hi).1, (dig1 hi).2, Nat.div_eq_of_lt hj, Nat.mod_eq_of_lt hj, Nat.mod_eq_of_lt hi]
theorem plc_01 {b i j : Nat} (hi : i < 2 ^ b) (hj : j < 2 ^ b) : plc (b + 1) i (2 ^ b + j) = 1 * 4 ^ b + plc b i j := by
  simp [plc, (dig1 hj).1, (dig1 hj).2, Nat.div_eq_of_lt hi, Nat.mod_eq_of_lt hi, Nat.mod_eq_of_lt hj]
theorem plc_11 {b i j : Nat} (hi : i < 2 ^ b) (hj : j < 2 ^ b) : plc (b + 1) (2 ^ b + i) (2 ^ b + j) = 2 * 4 ^ b + plc b i j := by
  simp [plc, (dig1 hj).1, (dig1 hj).2, (dig1 hi).1, (dig1 hi).2, Nat.mod_eq_of_lt hi, Nat.mod_eq_of_lt hj]
theorem pj_gen {B : Nat} {i0 j0 pl i j : Int} {k b d : Nat} {i' j' : Int} (hb : b + 1 = B - k) (hkB : k < B) (P : PJ B i0 j0 k pl i j) (hd : d < 4)
    (e : plc (b + 1) i.toNat j.toNat = d * 4 ^ b + plc b i'.toNat j'.toNat) (hi' : 0 ≤ i' ∧ i' < 2 ^ b) (hj' : 0 ≤ j' ∧ j' < 2 ^ b) : PJ B i0 j0 (k + 1) (4 * pl + d) i' j' := by
  obtain ⟨P1, P2, P3, P4⟩ := P
  have e1 : B - (k + 1) = b := by omega
  rw [← hb, e] at P3
  refine ⟨by rw [e1]; exact hi', by rw [e1]; exact hj', ?_, ?_⟩
  · rw [P3, e1, Int.natCast_add, Int.natCast_mul, Int.natCast_pow, show ((4 : Nat) : Int) = 4 from rfl, Int.pow_succ, Int.add_mul]
    have : pl * (4 ^ b * 4) = 4 * pl * 4 ^ b := by rw [← Int.mul_assoc, Int.mul_comm (pl * 4 ^ b) 4, Int.mul_assoc]
    rw [this]
    omega
  · rw [Int.pow_succ]; omega
theorem sub_small {n N : Nat} (h : N ≤ n) (h1 : n < N * 2) : n - N < N := by omega
theorem dig_cases {b : Nat} {i : Int} (h0 : 0 ≤ i) (h1 : i < 2 ^ (b + 1)) : (i.fdiv (2 ^ b) = 0 ∧ ∃ n : Nat, n < 2 ^ b ∧ i = n) ∨ (i.fdiv (2 ^ b) = 1 ∧ ∃ n : Nat, n < 2 ^ b ∧ i = ((2 ^ b + n : Nat) : Int)) := by
  obtain ⟨n, rfl⟩ := Int.eq_ofNat_of_zero_le h0
  rcases fd_dig h0 h1 with ⟨r, h⟩ | ⟨r, h⟩
  · rw [nat_pow_cast] at h
    exact .inl ⟨r, n, Int.ofNat_lt.mp h, rfl⟩
  · rw [nat_pow_cast] at h h1
    have h := Int.ofNat_le.mp h
    have h1 := Int.ofNat_lt.mp h1
    rw [Nat.pow_succ] at h1
    exact .inr ⟨r, n - 2 ^ b, sub_small h h1, by rw [Nat.add_sub_cancel' h]⟩
theorem in2 {b n : Nat} (h : n < 2 ^ b) : 0 ≤ (n : Int) ∧ (n : Int) < 2 ^ b := ⟨Int.natCast_nonneg _, by rw [nat_pow_cast]; exact Int.ofNat_lt.mpr h⟩
theorem less0 (x M : Int) : x - 0 * (1 * M) = x := by rw [Int.zero_mul, Int.sub_zero]
theorem less1 (b n : Nat) : ((2 ^ b + n : Nat) : Int) - 1 * (1 * 2 ^ b) = n := by
  rw [Int.one_mul, Int.one_mul, nat_pow_cast, Int.natCast_add, Int.add_comm, Int.add_sub_cancel]
theorem less2 {b n : Nat} (h : n < 2 ^ b) : 1 * 2 ^ b - 1 - (n : Int) = ((2 ^ b - 1 - n : Nat) : Int) := by
  rw [Int.one_mul, nat_pow_cast]
  generalize 2 ^ b = N at *
  omega
theorem less3 {b : Nat} (n : Nat) (h : 0 < 2 ^ b) : 2 ^ b - 1 - n < 2 ^ b := Nat.lt_of_le_of_lt (Nat.sub_le _ _) (Nat.sub_lt h (by decide))
theorem pj_nat {B : Nat} {i0 j0 pl : Int} {k b d u v : Nat} {i' j' : Int} {n' m' : Nat} (hb : b + 1 = B - k) (hkB : k < B) (P : PJ B i0 j0 k pl (u : Int) (v : Int)) (hd : d < 4) (ei : i' = n') (ej : j' = m') (hi : n' < 2 ^ b) (hj : m' < 2 ^ b)
    (e : plc (b + 1) u v = d * 4 ^ b + plc b n' m') : PJ B i0 j0 (k + 1) (4 * pl + d) i' j' := by
  subst ei ej
  exact pj_gen hb hkB P hd e (in2 hi) (in2 hj)
theorem pj_step {B : Nat} {i0 j0 pl i j : Int} {k b : Nat} (hb : b + 1 = B - k) (hkB : k < B) (P : PJ B i0 j0 k pl i j) :
    ((i.fdiv (2 ^ b) = 0 ∧ j.fdiv (2 ^ b) = 0) ∧ PJ B i0 j0 (k + 1) (4 * pl + Builtin.bitXor (3 * 0) 0) (j - 0 * (1 * 2 ^ b)) (i - 0 * (1 * 2 ^ b))) ∨
    ((i.fdiv (2 ^ b) = 1 ∧ j.fdiv (2 ^ b) = 0) ∧ PJ B i0 j0 (k + 1) (4 * pl + Builtin.bitXor (3 * 1) 0) (1 * 2 ^ b - 1 - (j - 0 * (1 * 2 ^ b))) (1 * 2 ^ b - 1 - (i - 1 * (1 * 2 ^ b)))) ∨
    ((i.fdiv (2 ^ b) = 0 ∧ j.fdiv (2 ^ b) = 1) ∧ PJ B i0 j0 (k + 1) (4 * pl + Builtin.bitXor (3 * 0) 1) (i - 0 * (1 * 2 ^ b)) (j - 1 * (1 * 2 ^ b))) ∨
    ((i.fdiv (2 ^ b) = 1 ∧ j.fdiv (2 ^ b) = 1) ∧ PJ B i0 j0 (k + 1) (4 * pl + Builtin.bitXor (3 * 1) 1) (i - 1 * (1 * 2 ^ b)) (j - 1 * (1 * 2 ^ b))) := by
  obtain ⟨⟨hi0, hi1⟩, ⟨hj0, hj1⟩, _, _⟩ := id P
  rw [← hb] at hi1 hj1
  have hz : 0 < 2 ^ b := Nat.pow_pos (by decide)
  rcases dig_cases hi0 hi1 with ⟨ri, n, hn, rfl⟩ | ⟨ri, n, hn, rfl⟩ <;> rcases dig_cases hj0 hj1 with ⟨rj, m, hm, rfl⟩ | ⟨rj, m, hm, rfl⟩ <;> clear hi0 hi1 hj0 hj1
  · exact .inl ⟨⟨ri, rj⟩, pj_nat (d := 0) hb hkB P (by decide) (less0 _ _) (less0 _ _) hm hn (by rw [plc_00 hn hm, Nat.zero_mul, Nat.zero_add])⟩
  · exact .inr (.inr (.inl ⟨⟨ri, rj⟩, pj_nat (d := 1) hb hkB P (by decide) (less0 _ _) (less1 _ _) hn hm (plc_01 hn hm)⟩))
  · exact .inr (.inl ⟨⟨ri, rj⟩, pj_nat (d := 3) hb hkB P (by decide) (by rw [less0]; exact less2 hm) (by rw [less1]; exact less2 hn) (less3 _ hz) (less3 _ hz) (plc_10 hn hm)⟩)
  · exact .inr (.inr (.inr ⟨⟨ri, rj⟩, pj_nat (d := 2) hb hkB P (by decide) (less1 _ _) (less1 _ _) hn hm (plc_11 hn hm)⟩))
theorem pj_stepT {B : Nat} {i0 j0 pl i j : Int} {k b : Nat} (hb : b + 1 = B - k) (hkB : k < B) (P : PJ B i0 j0 k pl i j) :
    ((i.fdiv (2 ^ Int.toNat (b : Int)) = 0 ∧ j.fdiv (2 ^ Int.toNat (b : Int)) = 0) ∧ PJ B i0 j0 (k + 1) (4 * pl + Builtin.bitXor (3 * 0) 0) (j - 0 * (1 * 2 ^ b)) (i - 0 * (1 * 2 ^ b))) ∨
    ((i.fdiv (2 ^ Int.toNat (b : Int)) = 1 ∧ j.fdiv (2 ^ Int.toNat (b : Int)) = 0) ∧ PJ B i0 j0 (k + 1) (4 * pl + Builtin.bitXor (3 * 1) 0) (1 * 2 ^ b - 1 - (j - 0 * (1 * 2 ^ b))) (1 * 2 ^ b - 1 - (i - 1 * (1 * 2 ^ b)))) ∨
    ((i.fdiv (2 ^ Int.toNat (b : Int)) = 0 ∧ j.fdiv (2 ^ Int.toNat (b : Int)) = 1) ∧ PJ B i0 j0 (k + 1) (4 * pl + Builtin.bitXor (3 * 0) 1) (i - 0 * (1 * 2 ^ b)) (j - 1 * (1 * 2 ^ b))) ∨
    ((i.fdiv (2 ^ Int.toNat (b : Int)) = 1 ∧ j.fdiv (2 ^ Int.toNat (b : Int)) = 1) ∧ PJ B i0 j0 (k + 1) (4 * pl + Builtin.bitXor (3 * 1) 1) (i - 1 * (1 * 2 ^ b)) (j - 1 * (1 * 2 ^ b))) := pj_step hb hkB P
theorem rs_down (B : Nat) : Builtin.Range.rangeSize ((B : Int) - 1) (-1) (-1) = ((B : Nat) : Int) := by
  rw [rangeSize_downNat]; omega
theorem pj_b {B : Nat} {i0 j0 pl i j : Int} {k : Nat} (hk : k < B) (_P : PJ B i0 j0 k pl i j) : ∃ b : Nat, b + 1 = B - k ∧ ((B : Int) - 1 + (k : Int) * -1 = (b : Int)) := ⟨B - k - 1, by omega, by omega⟩
theorem pw_le {a b : Nat} (h : a ≤ b) : (2 : Int) ^ a ≤ 2 ^ b := by
  rw [nat_pow_cast, nat_pow_cast]
  exact Int.ofNat_le.mpr (Nat.pow_le_pow_right (by decide) h)
theorem lt_abs {i : Int} {b n : Nat} (h : 0 ≤ i ∧ i < 2 ^ b) (hb : b ≤ n) : i.natAbs < 2 ^ n := by
  obtain ⟨h0, h1⟩ := h
  obtain ⟨k, rfl⟩ := Int.eq_ofNat_of_zero_le h0
  rw [nat_pow_cast] at h1
  exact Nat.lt_of_lt_of_le (Int.ofNat_lt.mp h1) (Nat.pow_le_pow_right (by decide) hb)
theorem four_two (b : Nat) : (4 : Int) ^ b = 2 ^ (2 * b) := by rw [Int.pow_mul]; rfl
theorem sub_le_of {B k n : Nat} (h : B ≤ n) : B - k ≤ n := Nat.le_trans (Nat.sub_le _ _) h
theorem pj_nn {B : Nat} {i0 j0 pl i j : Int} {k : Nat} (hB : B ≤ 30) (hk : k ≤ B) (P : PJ B i0 j0 k pl i j) : (i.natAbs < 2 ^ 31 ∧ j.natAbs < 2 ^ 31) ∧ (0 ≤ pl ∧ pl < 2 ^ 62) := by
  obtain ⟨P1, P2, _, P4⟩ := P
  have hB31 : B ≤ 31 := Nat.le_trans hB (by decide)
  refine ⟨⟨lt_abs P1 (sub_le_of hB31), lt_abs P2 (sub_le_of hB31)⟩, P4.1, Int.lt_of_lt_of_le P4.2 ?_⟩
  rw [four_two]
  exact pw_le (Nat.le_trans (Nat.mul_le_mul_left 2 (Nat.le_trans hk hB31)) (by decide))
theorem jpl_start {B : Nat} {i0 j0 : Int} {m : Str → Option Value} {news : List (Addr × Obj)} {t1 t2 t3 : Tok} (P : PJ B i0 j0 0 0 i0 j0) (e1 : m (Str.ofString "place") = some (.int 0 t1)) (e2 : m (Str.ofString "i") = some (.int i0 t2)) (e3 : m (Str.ofString "j") = some (.int j0 t3)) : JPl B i0 j0 0 m news :=
  ⟨0, _, _, _, _, _, P, e1, e2, e3⟩
theorem two_nat {l : Int} (h0 : 0 ≤ l) : (2 * l).toNat = 2 * l.toNat := by
  obtain ⟨n, rfl⟩ := Int.eq_ofNat_of_zero_le h0
  rfl
theorem odd_abs {x : Int} (h0 : 0 ≤ x) (h : x < 6 * 2 ^ 60) : (2 * x + 1).natAbs < 2 ^ 64 := by omega
theorem lawid_eq {f i j l : Int} (hf0 : 0 ≤ f) (_hf6 : f < 6) (h0 : 0 ≤ l) (_h1 : l ≤ 30) :
    (2 * (f * 2 ^ (2 * l).toNat + (((hil l.toNat (f.fmod 2).toNat i.toNat j.toNat).1 : Nat) : Int)) + 1) * 2 ^ (60 - 2 * l).toNat = cid (fpl f i j l.toNat) l := by
  unfold cid fpl
  rw [four_two, two_nat h0, Int.fmod_eq_emod_of_nonneg _ (by decide)]
theorem fpl_small {f i j l : Int} (hf0 : 0 ≤ f) (hf6 : f < 6) (h0 : 0 ≤ l) (h1 : l ≤ 30) :
    (2 * (f * 2 ^ (2 * l).toNat + (((hil l.toNat (f.fmod 2).toNat i.toNat j.toNat).1 : Nat) : Int)) + 1).natAbs < 2 ^ 64 := by
  have h := fpl_bounds (i := i) (j := j) l.toNat hf0 hf6
  have e : fpl f i j l.toNat = f * 2 ^ (2 * l).toNat + (((hil l.toNat (f.fmod 2).toNat i.toNat j.toNat).1 : Nat) : Int) := by
    unfold fpl
    rw [four_two, two_nat h0, Int.fmod_eq_emod_of_nonneg _ (by decide)]
  rw [← e]
  refine odd_abs h.1 (Int.lt_of_lt_of_le h.2 (Int.mul_le_mul_of_nonneg_left ?_ (by decide)))
  rw [four_two]
  exact pw_le (Nat.mul_le_mul_left 2 (show l.toNat ≤ 30 from Int.toNat_le.mpr h1))
section
open PyProof.Rows.LCg
def sdA (x y z : Int) (k : Nat) : Int := match k with | 0 => x | 1 => y | 2 => z | 3 => -x | 4 => -y | _ => -z
def sdU (x y z : Int) (k : Nat) : Int := match k with | 0 => y | 1 => -x | 2 => -x | 3 => -z | 4 => -z | _ => y
def sdV (x y z : Int) (k : Nat) : Int := match k with | 0 => z | 1 => z | 2 => -y | 3 => -y | 4 => x | _ => x
def add1 (s f a b : Int) : List (Int × Int × Int) := if (0 ≤ a ∧ a < s) ∧ (0 ≤ b ∧ b < s) then [(f, a, b)] else []
def rowT (s f a j : Int) : Nat → List (Int × Int × Int)
  | 0 => []
  | k + 1 => rowT s f a j k ++ add1 s f a (if k = 0 then j - 1 else j)
def blkT (s f i j : Int) : Nat → List (Int × Int × Int)
  | 0 => []
  | k + 1 => blkT s f i j k ++ rowT s f (if k = 0 then i - 1 else i) j 2
/-- _law_touching up to the k-th face -/
def tch (x y z s : Int) : Nat → List (Int × Int × Int)
  | 0 => []
  | k + 1 => tch x y z s k ++ (if sdA x y z k = s then blkT s (k : Int) ((sdU x y z k + s).fdiv 2) ((sdV x y z k + s).fdiv 2) 2 else [])
theorem add1_len (s f a b : Int) : (add1 s f a b).length ≤ 1 := by unfold add1; split <;> simp
theorem rowT_len (s f a j : Int) : ∀ k, (rowT s f a j k).length ≤ k
  | 0 => by simp [rowT]
  | k + 1 => by have := rowT_len s f a j k; have h := add1_len s f a (if k = 0 then j - 1 else j); simp only [rowT, List.length_append]; omega
theorem blkT_len (s f i j : Int) : ∀ k, (blkT s f i j k).length ≤ 2 * k
  | 0 => by simp [blkT]
  | k + 1 => by have := blkT_len s f i j k; have h := rowT_len s f (if k = 0 then i - 1 else i) j 2; simp only [blkT, List.length_append]; omega
theorem tch_len (x y z s : Int) : ∀ k, (tch x y z s k).length ≤ 4 * k
  | 0 => by simp [tch]
  | k + 1 => by
    have := tch_len x y z s k
    have h := blkT_len s (k : Int) ((sdU x y z k + s).fdiv 2) ((sdV x y z k + s).fdiv 2) 2
    simp only [tch, List.length_append]
    split
    · omega
    · simp; omega
section
variable {prog : Program} {w : World} {A : Around} {E : Value → Shared → Prop} {s : Shared} {h₀ : Heap} {L : Addr} {m : Str → Option Value}
theorem news_filter {h : Heap} {fa : Addr} {nw : List (Addr × Obj)} (N : News h₀ L h nw) : News h₀ L h (nw.filter (fun p => decide (p.1 ≠ fa))) := fun p hp => N p (List.mem_filter.mp hp).1
/-- an item put behind a list of the ledger -/
theorem app_step {fa : Addr} {vs : List Value} {x : Value} {nw : List (Addr × Obj)} {Q : Value → Shared → Prop} (F : Fr h₀ L s.heap m) (N : News h₀ L s.heap nw) (hm : (fa, lst vs) ∈ nw) (hsz : vs.length ≤ 1000)
    (h : ∀ h' nw', Fr h₀ L h' m → News h₀ L h' nw' → (fa, lst (vs ++ [x])) ∈ nw' → (∀ p ∈ nw, p.1 ≠ fa → p ∈ nw') → (∀ p ∈ nw, p.2.cls = .type "tuple" → p.1 ≠ fa) → Q .none { s with heap := h' }) : wpAny (model prog w) A (call (.builtin "list.append") [.ref fa, x]) Q E s := by
  have N' : News h₀ L s.heap ((fa, listOf vs.toArray vs.length) :: nw.filter (fun p => decide (p.1 ≠ fa))) := fun p hp => by
    rcases List.mem_cons.mp hp with rfl | hp
    · exact N _ hm
    · exact news_filter N p hp
  have z := N' _ (List.mem_cons_self ..)
  have off : ∀ p ∈ nw.filter (fun p => decide (p.1 ≠ fa)), p.1 ≠ fa := fun p hp => of_decide_eq_true (List.mem_filter.mp hp).2
  refine append_at (hsz := by rw [List.size_toArray]; exact Nat.le_trans hsz (by decide)) z.1 fun h' hs ho' => ?_
  refine h h' ((fa, lst (vs ++ [x])) :: nw.filter (fun p => decide (p.1 ≠ fa))) (F.change hs z.2.1 z.2.2) (fun p hp => ?_) (List.mem_cons_self ..) (fun p hp hne => List.mem_cons_of_mem _ (List.mem_filter.mpr ⟨hp, decide_eq_true hne⟩)) (fun p hp hc e => ?_)
  rcases List.mem_cons.mp hp with rfl | hp
  · refine ⟨?_, z.2⟩
    rw [← lst_snoc]
    exact ho'
  · exact ⟨hs.extBut _ _ (off p hp) (N' p (List.mem_cons_of_mem _ hp)).1, (N' p (List.mem_cons_of_mem _ hp)).2⟩
  · have h1 := (N p hp).1
    rw [e, (N _ hm).1] at h1
    have h2 := congrArg Obj.cls (Option.some.inj h1)
    rw [hc] at h2
    exact absurd h2 (show Value.type "list" ≠ Value.type "tuple" by decide)
end
theorem keep1 {x : Str} {v : Option Value} {m mA : Str → Option Value} (h : ∀ y, y ≠ x → m y = mA y) : (fun y => if y = x then v else m y) = fun y => if y = x then v else mA y := by
  funext y
  by_cases hy : y = x
  · rw [if_pos hy, if_pos hy]
  · rw [if_neg hy, if_neg hy, h y hy]
theorem keep2 {x z : Str} {v : Option Value} {m mA : Str → Option Value} (h : ∀ y, y ≠ x → y ≠ z → m y = mA y) : (fun y => if y = x then v else m y) = fun y => if y = x then v else if y = z then m z else mA y := by
  funext y
  by_cases hy : y = x
  · rw [if_pos hy, if_pos hy]
  · rw [if_neg hy, if_neg hy]
    by_cases hz : y = z
    · rw [if_pos hz, hz]
    · rw [if_neg hz, h y hy hz]
/-- what all three loops keep: the list under its name, its items -/
def Lst9 (fa : Addr) (ts : List (Int × Int × Int)) (nw : List (Addr × Obj)) : Prop := ∃ vs, (fa, lst vs) ∈ nw ∧ Trips nw vs ts
theorem Lst9.mono {fa : Addr} {ts : List (Int × Int × Int)} {nw nw' : List (Addr × Obj)} {ic : Value} (hl : (.type "list" : Value) ≠ ic) (ht : (.type "tuple" : Value) ≠ ic) (x : Lst9 fa ts nw) (h : ∀ p ∈ nw, p.2.cls ≠ ic → p ∈ nw') : Lst9 fa ts nw' := by
  obtain ⟨vs, a, b⟩ := x
  exact ⟨vs, h _ a hl, b.mono fun p hp hc => h p hp (hc ▸ ht)⟩
def JTb (fa : Addr) (x : Str) (mA : Str → Option Value) (ts : Nat → List (Int × Int × Int)) (k : Nat) (m : Str → Option Value) (nw : List (Addr × Obj)) : Prop := (∀ y, y ≠ x → m y = mA y) ∧ Lst9 fa (ts k) nw
def JTa (fa : Addr) (x z : Str) (mA : Str → Option Value) (ts : Nat → List (Int × Int × Int)) (k : Nat) (m : Str → Option Value) (nw : List (Addr × Obj)) : Prop := (∀ y, y ≠ x → y ≠ z → m y = mA y) ∧ Lst9 fa (ts k) nw
def JTf (fa sd : Addr) (S9 : Int) (ts : Nat → List (Int × Int × Int)) (k : Nat) (m : Str → Option Value) (nw : List (Addr × Obj)) : Prop :=
  (∃ t, m (Str.ofString "found") = some (.ref fa) ∧ m (Str.ofString "sides") = some (.ref sd) ∧ m (Str.ofString "size") = some (.int S9 t)) ∧ Lst9 fa (ts k) nw
open PyProof.Rows.LCg
def kf (nw : List (Addr × Obj)) (fa : Addr) : List (Addr × Obj) := nw.filter (fun p => decide (p.1 ≠ fa))
theorem kf_sub {nw : List (Addr × Obj)} {fa : Addr} : ∀ p ∈ kf nw fa, p ∈ nw := fun _ hp => (List.mem_filter.mp hp).1
theorem kf_ne {nw : List (Addr × Obj)} {fa : Addr} {p : Addr × Obj} (hp : p ∈ kf nw fa) : p.1 ≠ fa := of_decide_eq_true (List.mem_filter.mp hp).2
theorem kf_mem {nw : List (Addr × Obj)} {fa : Addr} {p : Addr × Obj} (hp : p ∈ nw) (h : p.1 ≠ fa) : p ∈ kf nw fa := List.mem_filter.mpr ⟨hp, decide_eq_true h⟩
theorem ne_cls {h₀ h : Heap} {L a b : Addr} {o o' : Obj} {nw : List (Addr × Obj)} (N : News h₀ L h nw) (ha : (a, o) ∈ nw) (hb : (b, o') ∈ nw) (hc : o.cls ≠ o'.cls) : a ≠ b := fun e => by
  subst e
  have h1 := (N _ ha).1
  rw [(N _ hb).1] at h1
  exact hc (congrArg Obj.cls (Option.some.inj h1)).symm
theorem Trips.get {nw : List (Addr × Obj)} : ∀ {vs : List Value} {ts : List (Int × Int × Int)} (_ : Trips nw vs ts) (k : Nat) (t : Int × Int × Int), ts[k]? = some t → ∃ r t1 t2 t3, vs[k]? = some (.ref r) ∧ (r, ({ cls := .type "tuple", data := .seq #[.int t.1 t1, .int t.2.1 t2, .int t.2.2 t3] } : Obj)) ∈ nw
  | v :: vs, u :: ts, ⟨⟨r, t1, t2, t3, e, hm⟩, hr⟩, k, t, h => by
    cases k with
    | zero =>
      simp at h
      subst h
      exact ⟨r, t1, t2, t3, by simp [e], hm⟩
    | succ k =>
      obtain ⟨r, t1, t2, t3, a, b⟩ := hr.get k t (by simpa using h)
      exact ⟨r, t1, t2, t3, by simpa using a, b⟩
  | [], [], _, k, t, h => by simp at h
  | [], _ :: _, x, _, _, _ => x.elim
  | _ :: _, [], x, _, _, _ => x.elim
def sdL (x y z : Int) : List (Int × Int × Int) := [(x, y, z), (y, -x, z), (z, -x, -y), (-x, -z, -y), (-y, -z, x), (-z, y, x)]
theorem sdL_at (x y z : Int) {k : Nat} (h : k < 6) : (sdL x y z)[k]? = some (sdA x y z k, sdU x y z k, sdV x y z k) := by
  have hc : k = 0 ∨ k = 1 ∨ k = 2 ∨ k = 3 ∨ k = 4 ∨ k = 5 := by omega
  rcases hc with rfl | rfl | rfl | rfl | rfl | rfl <;> rfl
theorem row_no {fa : Addr} {Lx : List (Int × Int × Int)} {s f a j b : Int} {k : Nat} {nw : List (Addr × Obj)} (hb : b = if k = 0 then j - 1 else j) (h : ¬ ((0 ≤ a ∧ a < s) ∧ (0 ≤ b ∧ b < s))) (x : Lst9 fa (Lx ++ rowT s f a j k) nw) : Lst9 fa (Lx ++ rowT s f a j (k + 1)) nw := by
  subst hb
  simp only [rowT, add1]
  rw [if_neg h, List.append_nil]
  exact x
theorem row_yes {fa T : Addr} {Lx : List (Int × Int × Int)} {s f a j b : Int} {k : Nat} {nw : List (Addr × Obj)} {vs : List Value} {t1 t2 t3 : Tok} (hb : b = if k = 0 then j - 1 else j) (h : (0 ≤ a ∧ a < s) ∧ (0 ≤ b ∧ b < s)) (hv : (fa, lst (vs ++ [.ref T])) ∈ nw) (hT : (T, ({ cls := .type "tuple", data := .seq #[.int f t1, .int a t2, .int b t3] } : Obj)) ∈ nw)
    (x : Trips nw vs (Lx ++ rowT s f a j k)) : Lst9 fa (Lx ++ rowT s f a j (k + 1)) nw := by
  refine ⟨_, hv, ?_⟩
  subst hb
  simp only [rowT, add1]
  rw [if_pos h, ← List.append_assoc]
  exact Trips.snoc hT x
theorem row_done {fa : Addr} {Lx : List (Int × Int × Int)} {s f i j a : Int} {k : Nat} {nw : List (Addr × Obj)} (ha : a = if k = 0 then i - 1 else i) (x : Lst9 fa ((Lx ++ blkT s f i j k) ++ rowT s f a j 2) nw) : Lst9 fa (Lx ++ blkT s f i j (k + 1)) nw := by
  subst ha
  simp only [blkT]
  rw [← List.append_assoc]
  exact x
theorem tch_no {fa : Addr} {x y z s : Int} {k : Nat} {nw : List (Addr × Obj)} (h : ¬ sdA x y z k = s) (q : Lst9 fa (tch x y z s k) nw) : Lst9 fa (tch x y z s (k + 1)) nw := by
  simp only [tch]
  rw [if_neg h, List.append_nil]
  exact q
theorem tch_yes {fa : Addr} {x y z s : Int} {k : Nat} {nw : List (Addr × Obj)} (h : sdA x y z k = s) (q : Lst9 fa (tch x y z s k ++ blkT s (k : Int) ((sdU x y z k + s).fdiv 2) ((sdV x y z k + s).fdiv 2) 2) nw) : Lst9 fa (tch x y z s (k + 1)) nw := by
  simp only [tch]
  rw [if_pos h]
  exact q
end
section
open PyProof.Rows.LCg
def XYZ (_x _y _z _s : Int) : Prop := True
section
variable {prog : Program} {w : World} {A : Around} {E : Value → Shared → Prop} {s : Shared} {env : Env} {h₀ : Heap} {x : Str} {body : List Stmt} {Q : Flow → Shared → Prop}
theorem two_items {v : Value} {i : Int} {u1 u2 : Tok} {k : Nat} (hk : k < (#[Value.int (i - 1) u1, Value.int i u2] : Array Value).size) (h : (#[Value.int (i - 1) u1, Value.int i u2] : Array Value)[k]? = some v) : ∃ b u, v = .int b u ∧ b = if k = 0 then i - 1 else i := by
  have hc : k = 0 ∨ k = 1 := by simp at hk; omega
  rcases hc with rfl | rfl
  · simp at h; exact ⟨_, _, h.symm, by simp⟩
  · simp at h; exact ⟨_, _, h.symm, by simp⟩
theorem loop_rowb {ax fa : Addr} {c : Nat} {m₀ : Str → Option Value} {news : List (Addr × Obj)} {j a S9 f : Int} {u1 u2 ta ts tf : Tok} {Lx : List (Int × Int × Int)}
    (hh : A.handled = none) (F : Fr h₀ env.locals s.heap m₀) (N : News h₀ env.locals s.heap news)
    (hax : (ax, ({ cls := .type "tuple", data := .seq #[.int (j - 1) u1, .int j u2] c } : Obj)) ∈ news) (_ea : m₀ (Str.ofString "a") = some (.int a ta)) (_es : m₀ (Str.ofString "size") = some (.int S9 ts)) (_ef : m₀ (Str.ofString "face") = some (.int f tf))
    (_eg : m₀ (Str.ofString "found") = some (.ref fa)) (hL : Lst9 fa Lx news)
    (turn : ∀ (k : Nat) (b : Int) (u : Tok) (vs : List Value) (nw : List (Addr × Obj)) (h : Heap) (tk : Nat) (I : Addr) (o : Obj), (b = if k = 0 then j - 1 else j) → k < 2 → (fa, lst vs) ∈ nw → Trips nw vs (Lx ++ rowT S9 f a j k) → (∀ p ∈ kf news fa, p ∈ nw) → I ≠ fa →
      Fr h₀ env.locals h (fun y => if y = x then some (.int b u) else m₀ y) → News h₀ env.locals h ((I, o) :: nw) →
      wpAny (model prog w) A (execs body env) (TurnPostO h₀ env.locals { s with heap := h, toks := tk } (I, o) (kf news fa) (JTb fa x m₀ (fun k => Lx ++ rowT S9 f a j k) (k + 1)) Q) E { s with heap := h, toks := tk })
    (done : ∀ m₁ nw h tk, (∀ y, y ≠ x → m₁ y = m₀ y) → Lst9 fa (Lx ++ rowT S9 f a j 2) nw → (∀ p ∈ kf news fa, p ∈ nw) → Fr h₀ env.locals h m₁ → News h₀ env.locals h nw → Q .next { s with heap := h, toks := tk }) :
    wpAny (model prog w) A (pyIter (.ref ax)) (fun it s₂ => LoopAtV prog w A h₀ env x body Q E it s₂) E s := by
  have hL' := hL
  obtain ⟨vs0, hv0, _⟩ := hL'
  have hne : ax ≠ fa := ne_cls N hax hv0 (show Value.type "tuple" ≠ Value.type "list" by decide)
  refine loop_tupK (kf news fa) (JTb fa x m₀ (fun k => Lx ++ rowT S9 f a j k)) kf_sub hh (kf_mem hax hne) F N ?_ ⟨fun _ _ => rfl, by simpa [rowT] using hL⟩ ?_ ?_
  · intro k m n n' q h
    exact ⟨q.1, q.2.mono (by decide) (by decide) h⟩
  · intro k v m₁ nw h tk I o hk hv hJ hsub ho hoff F' N'
    obtain ⟨b, u, rfl, hb⟩ := two_items hk hv
    obtain ⟨hm, vs, h1, h2⟩ := hJ
    rw [keep1 hm] at F'
    exact turn k b u vs nw h tk I o hb (by simpa using hk) h1 h2 hsub (fun e => hoff _ h1 e.symm) F' N'
  · intro m₁ nw h tk hJ hsub F' N'
    exact done m₁ nw h tk hJ.1 (by simpa using hJ.2) hsub F' N'
theorem loop_blka {ax fa : Addr} {z : Str} {c : Nat} {m₀ : Str → Option Value} {news : List (Addr × Obj)} {i j S9 f : Int} {u1 u2 tj ts tf : Tok} {Lx : List (Int × Int × Int)}
    (hh : A.handled = none) (F : Fr h₀ env.locals s.heap m₀) (N : News h₀ env.locals s.heap news)
    (hax : (ax, ({ cls := .type "tuple", data := .seq #[.int (i - 1) u1, .int i u2] c } : Obj)) ∈ news) (_ej : m₀ (Str.ofString "j") = some (.int j tj)) (_es : m₀ (Str.ofString "size") = some (.int S9 ts)) (_ef : m₀ (Str.ofString "face") = some (.int f tf))
    (_eg : m₀ (Str.ofString "found") = some (.ref fa)) (hL : Lst9 fa Lx news)
    (turn : ∀ (k : Nat) (a : Int) (u : Tok) (v : Option Value) (nw : List (Addr × Obj)) (h : Heap) (tk : Nat) (I : Addr) (o : Obj), (a = if k = 0 then i - 1 else i) → k < 2 → Lst9 fa (Lx ++ blkT S9 f i j k) nw → (∀ p ∈ kf news fa, p ∈ nw) → I ≠ fa →
      Fr h₀ env.locals h (fun y => if y = x then some (.int a u) else if y = z then v else m₀ y) → News h₀ env.locals h ((I, o) :: nw) →
      wpAny (model prog w) A (execs body env) (TurnPostO h₀ env.locals { s with heap := h, toks := tk } (I, o) (kf news fa) (JTa fa x z m₀ (fun k => Lx ++ blkT S9 f i j k) (k + 1)) Q) E { s with heap := h, toks := tk })
    (done : ∀ m₁ nw h tk, (∀ y, y ≠ x → y ≠ z → m₁ y = m₀ y) → Lst9 fa (Lx ++ blkT S9 f i j 2) nw → (∀ p ∈ kf news fa, p ∈ nw) → Fr h₀ env.locals h m₁ → News h₀ env.locals h nw → Q .next { s with heap := h, toks := tk }) :
    wpAny (model prog w) A (pyIter (.ref ax)) (fun it s₂ => LoopAtV prog w A h₀ env x body Q E it s₂) E s := by
  have hL' := hL
  obtain ⟨vs0, hv0, _⟩ := hL'
  have hne : ax ≠ fa := ne_cls N hax hv0 (show Value.type "tuple" ≠ Value.type "list" by decide)
  refine loop_tupK (kf news fa) (JTa fa x z m₀ (fun k => Lx ++ blkT S9 f i j k)) kf_sub hh (kf_mem hax hne) F N ?_ ⟨fun _ _ _ => rfl, by simpa [blkT] using hL⟩ ?_ ?_
  · intro k m n n' q h
    exact ⟨q.1, q.2.mono (by decide) (by decide) h⟩
  · intro k v m₁ nw h tk I o hk hv hJ hsub ho hoff F' N'
    obtain ⟨b, u, rfl, hb⟩ := two_items hk hv
    obtain ⟨hm, hl⟩ := hJ
    rw [keep2 hm] at F'
    have hl' := hl
    obtain ⟨vs, h1, h2⟩ := hl'
    exact turn k b u _ nw h tk I o hb (by simpa using hk) hl hsub (fun e => hoff _ h1 e.symm) F' N'
  · intro m₁ nw h tk hJ hsub F' N'
    exact done m₁ nw h tk hJ.1 (by simpa using hJ.2) hsub F' N'
theorem loop_touch {r fa sd : Addr} {X Y Z S9 : Int} {t₀ u₀ v₀ ts : Tok} {m₀ : Str → Option Value} {news : List (Addr × Obj)} {sv : List Value} {c : Nat} (_hX : XYZ X Y Z S9)
    (hh : A.handled = none) (hr : IsRange s.heap r 0 6 1 t₀ u₀ v₀) (F : Fr h₀ env.locals s.heap m₀) (N : News h₀ env.locals s.heap news)
    (e1 : m₀ (Str.ofString "found") = some (.ref fa)) (e2 : m₀ (Str.ofString "sides") = some (.ref sd)) (e3 : m₀ (Str.ofString "size") = some (.int S9 ts))
    (hfa : (fa, lst []) ∈ news) (hsd : (sd, ({ cls := .type "list", data := .seq sv.toArray c } : Obj)) ∈ news) (hne : sd ≠ fa) (hS : Trips news sv (sdL X Y Z))
    (turn : ∀ (k : Nat) (t t' : Tok) (m₁ : Str → Option Value) (nw : List (Addr × Obj)) (h : Heap) (tk : Nat) (I : Addr) (o : Obj) (q : Addr) (q1 q2 q3 : Tok), k < 6 → Lst9 fa (tch X Y Z S9 k) nw → (∀ p ∈ kf news fa, p ∈ nw) → I ≠ fa →
      (sd, ({ cls := .type "list", data := .seq sv.toArray c } : Obj)) ∈ nw → sv[k]? = some (.ref q) → (q, ({ cls := .type "tuple", data := .seq #[.int (sdA X Y Z k) q1, .int (sdU X Y Z k) q2, .int (sdV X Y Z k) q3] } : Obj)) ∈ nw →
      Fr h₀ env.locals h (fun y => if y = x then some (.int (k : Int) t) else if y = Str.ofString "found" then some (.ref fa) else if y = Str.ofString "sides" then some (.ref sd) else if y = Str.ofString "size" then some (.int S9 t') else m₁ y) → News h₀ env.locals h ((I, o) :: nw) →
      wpAny (model prog w) A (execs body env) (TurnPostO h₀ env.locals { s with heap := h, toks := tk } (I, o) (kf news fa) (JTf fa sd S9 (tch X Y Z S9) (k + 1)) Q) E { s with heap := h, toks := tk })
    (done : ∀ m₁ nw h tk, m₁ (Str.ofString "found") = some (.ref fa) → Lst9 fa (tch X Y Z S9 6) nw → (∀ p ∈ kf news fa, p ∈ nw) → Fr h₀ env.locals h m₁ → News h₀ env.locals h nw → Q .next { s with heap := h, toks := tk }) :
    wpAny (model prog w) A (pyIter (.ref r)) (fun it s₂ => LoopAtV prog w A h₀ env x body Q E it s₂) E s := by
  refine loop_rngK (n := 6) (kf news fa) (JTf fa sd S9 (tch X Y Z S9)) kf_sub hh hr (by decide) (by decide) F N ?_ ⟨⟨_, e1, e2, e3⟩, ⟨[], hfa, trivial⟩⟩ ?_ ?_
  · intro k m n n' q h
    exact ⟨q.1, q.2.mono (by decide) (by decide) h⟩
  · intro k t m₁ nw h tk I o hk hJ hsub ho hoff F' N'
    obtain ⟨⟨t', a1, a2, a3⟩, hl⟩ := hJ
    have hl' := hl
    obtain ⟨vs, h1, h2⟩ := hl'
    have hS' : Trips (kf news fa) sv (sdL X Y Z) := by
      refine hS.mono fun p hp hc => kf_mem hp ?_
      have := ne_cls (a := p.1) (o := p.2) (b := fa) (o' := lst []) N hp hfa (by rw [hc]; decide)
      exact this
    obtain ⟨q, q1, q2, q3, hq, hqm⟩ := hS'.get k _ (sdL_at X Y Z hk)
    rw [show (0 : Int) + (k : Int) * 1 = (k : Int) by omega, ov a1, ov a2, ov a3] at F'
    exact turn k t t' m₁ nw h tk I o q q1 q2 q3 hk hl hsub (fun e => hoff _ h1 e.symm) (hsub _ (kf_mem hsd hne)) hq (hsub _ hqm) F' N'
  · intro m₁ nw h tk hJ hsub F' N'
    obtain ⟨⟨t', a1, a2, a3⟩, hl⟩ := hJ
    exact done m₁ nw h tk a1 hl hsub F' N'
end
end
section
open PyProof.Rows.LCg
theorem Lst9.sub {fa : Addr} {ts : List (Int × Int × Int)} {nw nw' : List (Addr × Obj)} (x : Lst9 fa ts nw) (h : ∀ p ∈ nw, p ∈ nw') : Lst9 fa ts nw' := by
  obtain ⟨vs, a, b⟩ := x
  exact ⟨vs, h _ a, b.mono fun p hp _ => h p hp⟩
theorem len3 (x y z s s' s'' f f' i j a j' : Int) (k k2 k3 : Nat) : ((tch x y z s k ++ blkT s' f i j k2) ++ rowT s'' f' a j' k3).length ≤ 4 * k + 2 * k2 + k3 := by
  have h1 := tch_len x y z s k
  have h2 := blkT_len s' f i j k2
  have h3 := rowT_len s'' f' a j' k3
  simp only [List.length_append]
  omega
section
variable {h₀ h' : Heap} {L fa I : Addr} {s : Shared} {o : Obj} {Q : Flow → Shared → Prop} {tk' : Nat} {m' mA mB : Str → Option Value} {x z : Str} {newsA newsB nwA nw' nw : List (Addr × Obj)} {Lx : List (Int × Int × Int)} {S9 f i j a b : Int} {k : Nat} {vs : List Value}
theorem end_no (F : Fr h₀ L h' m') (N : News h₀ L h' ((I, o) :: nw)) (hsub : ∀ p ∈ kf newsA fa, p ∈ nw) (hm : ∀ y, y ≠ x → m' y = mA y) (hv : (fa, lst vs) ∈ nw) (hT : Trips nw vs (Lx ++ rowT S9 f a j k)) (hb : b = if k = 0 then j - 1 else j) (h : ¬ ((0 ≤ a ∧ a < S9) ∧ (0 ≤ b ∧ b < S9))) :
    TurnPostO h₀ L s (I, o) (kf newsA fa) (JTb fa x mA (fun k => Lx ++ rowT S9 f a j k) (k + 1)) Q .next { s with heap := h', toks := tk' } :=
  turnO_end F N (List.mem_cons_self ..) (fun p hp => List.mem_cons_of_mem _ (hsub p hp)) ⟨hm, row_no hb h (Lst9.sub ⟨vs, hv, hT⟩ fun p hp => List.mem_cons_of_mem _ hp)⟩
theorem end_yes {T : Addr} {t1 t2 t3 : Tok} (F : Fr h₀ L h' m') (N : News h₀ L h' nw') (hsub : ∀ p ∈ kf newsA fa, p ∈ nw) (hm : ∀ y, y ≠ x → m' y = mA y) (hI : I ≠ fa) (hT : Trips nw vs (Lx ++ rowT S9 f a j k)) (hb : b = if k = 0 then j - 1 else j)
    (hA : (fa, lst (vs ++ [.ref T])) ∈ nw') (hB : ∀ p ∈ ((T, ({ cls := .type "tuple", data := .seq #[.int f t1, .int a t2, .int b t3] } : Obj)) :: (I, o) :: nw), p.1 ≠ fa → p ∈ nw') (hC : ∀ p ∈ ((T, ({ cls := .type "tuple", data := .seq #[.int f t1, .int a t2, .int b t3] } : Obj)) :: (I, o) :: nw), p.2.cls = .type "tuple" → p.1 ≠ fa)
    (h : (0 ≤ a ∧ a < S9) ∧ (0 ≤ b ∧ b < S9)) :
    TurnPostO h₀ L s (I, o) (kf newsA fa) (JTb fa x mA (fun k => Lx ++ rowT S9 f a j k) (k + 1)) Q .next { s with heap := h', toks := tk' } :=
  turnO_end F N (hB _ (List.mem_cons_of_mem _ (List.mem_cons_self ..)) hI) (fun p hp => hB p (List.mem_cons_of_mem _ (List.mem_cons_of_mem _ (hsub p hp))) (kf_ne hp))
    ⟨hm, row_yes hb h hA (hB _ (List.mem_cons_self ..) (hC _ (List.mem_cons_self ..) rfl)) (hT.mono fun p hp hc => hB p (List.mem_cons_of_mem _ (List.mem_cons_of_mem _ hp)) (hC p (List.mem_cons_of_mem _ (List.mem_cons_of_mem _ hp)) hc))⟩
theorem end_a (F : Fr h₀ L h' m') (N : News h₀ L h' nw') (hsubA : ∀ p ∈ kf newsA fa, p ∈ nwA) (hsubB : ∀ p ∈ kf newsB fa, p ∈ nw') (hB : ∀ p ∈ (I, o) :: nwA, p ∈ newsB) (hI : I ≠ fa) (hm : ∀ y, y ≠ z → m' y = mB y) (hmB : ∀ y, y ≠ x → y ≠ z → mB y = mA y)
    (ha : a = if k = 0 then i - 1 else i) (hL : Lst9 fa ((Lx ++ blkT S9 f i j k) ++ rowT S9 f a j 2) nw') :
    TurnPostO h₀ L s (I, o) (kf newsA fa) (JTa fa x z mA (fun k => Lx ++ blkT S9 f i j k) (k + 1)) Q .next { s with heap := h', toks := tk' } :=
  turnO_end F N (hsubB _ (kf_mem (hB _ (List.mem_cons_self ..)) hI)) (fun p hp => hsubB p (kf_mem (hB _ (List.mem_cons_of_mem _ (hsubA p hp))) (kf_ne hp))) ⟨fun y h1 h2 => (hm y h2).trans (hmB y h1 h2), row_done ha hL⟩
variable {X Y Z : Int} {sd : Addr} {ts : Tok}
theorem end_fy (F : Fr h₀ L h' m') (N : News h₀ L h' nw') (hsubA : ∀ p ∈ kf newsA fa, p ∈ nwA) (hsubB : ∀ p ∈ kf newsB fa, p ∈ nw') (hB : ∀ p ∈ (I, o) :: nwA, p ∈ newsB) (hI : I ≠ fa) (hm : ∀ y, y ≠ (Str.ofString "a") → y ≠ (Str.ofString "b") → m' y = mB y)
    (e1 : mB (Str.ofString "found") = some (.ref fa)) (e2 : mB (Str.ofString "sides") = some (.ref sd)) (e3 : mB (Str.ofString "size") = some (.int S9 ts)) (h : sdA X Y Z k = S9)
    (hL : Lst9 fa (tch X Y Z S9 k ++ blkT S9 (k : Int) ((sdU X Y Z k + S9).fdiv 2) ((sdV X Y Z k + S9).fdiv 2) 2) nw') :
    TurnPostO h₀ L s (I, o) (kf newsA fa) (JTf fa sd S9 (tch X Y Z S9) (k + 1)) Q .next { s with heap := h', toks := tk' } :=
  turnO_end F N (hsubB _ (kf_mem (hB _ (List.mem_cons_self ..)) hI)) (fun p hp => hsubB p (kf_mem (hB _ (List.mem_cons_of_mem _ (hsubA p hp))) (kf_ne hp)))
    ⟨⟨ts, (hm _ (by decide) (by decide)).trans e1, (hm _ (by decide) (by decide)).trans e2, (hm _ (by decide) (by decide)).trans e3⟩, tch_yes h hL⟩
theorem end_fn (F : Fr h₀ L h' m') (N : News h₀ L h' nw') (hsubA : ∀ p ∈ kf newsA fa, p ∈ nwA) (hB : ∀ p ∈ (I, o) :: nwA, p ∈ nw')
    (e1 : m' (Str.ofString "found") = some (.ref fa)) (e2 : m' (Str.ofString "sides") = some (.ref sd)) (e3 : m' (Str.ofString "size") = some (.int S9 ts)) (h : ¬ sdA X Y Z k = S9)
    (hL : Lst9 fa (tch X Y Z S9 k) nwA) :
    TurnPostO h₀ L s (I, o) (kf newsA fa) (JTf fa sd S9 (tch X Y Z S9) (k + 1)) Q .next { s with heap := h', toks := tk' } :=
  turnO_end F N (hB _ (List.mem_cons_self ..)) (fun p hp => hB _ (List.mem_cons_of_mem _ (hsubA p hp))) ⟨⟨ts, e1, e2, e3⟩, tch_no h (hL.sub fun p hp => hB _ (List.mem_cons_of_mem _ hp))⟩
end
theorem sd_bound {X Y Z : Int} {k : Nat} (hx : X.natAbs < 2 ^ 40) (hy : Y.natAbs < 2 ^ 40) (hz : Z.natAbs < 2 ^ 40) (hk : k < 6) : ((sdA X Y Z k).natAbs < 2 ^ 40 ∧ (sdU X Y Z k).natAbs < 2 ^ 40) ∧ (sdV X Y Z k).natAbs < 2 ^ 40 := by
  have hx' := hx
  have hy' := hy
  have hz' := hz
  rw [← Int.natAbs_neg] at hx' hy' hz'
  rcases k with _ | _ | _ | _ | _ | _ | k
  · exact ⟨⟨by assumption, by assumption⟩, by assumption⟩
  · exact ⟨⟨by assumption, by assumption⟩, by assumption⟩
  · exact ⟨⟨by assumption, by assumption⟩, by assumption⟩
  · exact ⟨⟨by assumption, by assumption⟩, by assumption⟩
  · exact ⟨⟨by assumption, by assumption⟩, by assumption⟩
  · exact ⟨⟨by assumption, by assumption⟩, by assumption⟩
  · exact absurd hk (Nat.not_lt.mpr (Nat.le_add_left 6 k))
end
section
open PyProof.Rows.LCg
open PySem.SeqAt
def trD (t : Int × Int × Int) : PyData := .tuple [.int t.1, .int t.2.1, .int t.2.2]
theorem reads_trip {h : Heap} {r : Addr} {t : Int × Int × Int} {t1 t2 t3 : Tok} (e : h.get? r = some ({ cls := .type "tuple", data := .seq #[.int t.1 t1, .int t.2.1 t2, .int t.2.2 t3] } : Obj)) : Reads h (.ref r) (trD t) [] := by
  have q := ReadsAll.cons (Reads.int (h := h) t.1 t1) (ReadsAll.cons (Reads.int (h := h) t.2.1 t2) (ReadsAll.cons (Reads.int (h := h) t.2.2 t3) ReadsAll.nil))
  exact Reads.tuple e rfl rfl (by simpa using q)
theorem reads_trips {h₀ h : Heap} {L : Addr} {nw : List (Addr × Obj)} (N : News h₀ L h nw) : ∀ {vs : List Value} {ts : List (Int × Int × Int)}, Trips nw vs ts → ReadsAll h vs (ts.map trD) []
  | [], [], _ => .nil
  | v :: vs, t :: ts, ⟨⟨r, t1, t2, t3, e, hm⟩, hr⟩ => by
    subst e
    have := ReadsAll.cons (reads_trip (N _ hm).1) (reads_trips N hr)
    simpa using this
  | [], _ :: _, x => x.elim
  | _ :: _, [], x => x.elim
theorem reads_lst {h₀ h : Heap} {L fa : Addr} {nw : List (Addr × Obj)} {vs : List Value} {ts : List (Int × Int × Int)} (N : News h₀ L h nw) (hf : (fa, lst vs) ∈ nw) (hT : Trips nw vs ts) : Reads h (.ref fa) (.list (ts.map trD)) [fa] := by
  have := Reads.list (N _ hf).1 rfl rfl (by simpa using reads_trips N hT)
  simpa using this
theorem canLayAll_trips : ∀ ts : List (Int × Int × Int), PyData.canLayAll0 (ts.map trD) = true
  | [] => by simp [PyData.canLayAll0]
  | t :: r => by simp [PyData.canLayAll0, PyData.canLay0, trD, canLayAll_trips r]
theorem depthAll_trips : ∀ ts : List (Int × Int × Int), PyData.depthAll (ts.map trD) ≤ 2
  | [] => by simp [PyData.depthAll]
  | t :: r => by
    have := depthAll_trips r
    simp only [List.map_cons, PyData.depthAll, PyData.depth, trD]
    omega
theorem shaped_trips (ts : List (Int × Int × Int)) : shaped (.list (ts.map trD)) = true := by
  have h1 := depthAll_trips ts
  have h2 : PyData.depth (.list (ts.map trD)) ≤ 64 := by simp only [PyData.depth]; omega
  show (PyData.canLay0 (.list (ts.map trD)) && decide (PyData.depth (.list (ts.map trD)) ≤ 64)) = true
  rw [Bool.and_eq_true]
  exact ⟨by simp only [PyData.canLay0]; exact canLayAll_trips ts, decide_eq_true h2⟩
theorem shaped_trip (t : Int × Int × Int) : shaped (trD t) = true := by
  have h2 : PyData.depth (trD t) ≤ 64 := by simp only [trD, PyData.depth, PyData.depthAll]; omega
  show (PyData.canLay0 (trD t) && decide (PyData.depth (trD t) ≤ 64)) = true
  rw [Bool.and_eq_true]
  exact ⟨by simp [trD, PyData.canLay0, PyData.canLayAll0], decide_eq_true h2⟩
theorem noMix_trip (a b : Int × Int × Int) : noMix (trD a) (trD b) = true := by simp [trD, noMix, noMixAll]
theorem same_trip (a b : Int × Int × Int) : PySem.Spec.same (trD a) (trD b) = decide (a = b) := by
  obtain ⟨a1, a2, a3⟩ := a
  obtain ⟨b1, b2, b3⟩ := b
  simp only [trD, PySem.Spec.same, PySem.Spec.sameAll, Prod.mk.injEq]
  by_cases h1 : a1 = b1 <;> by_cases h2 : a2 = b2 <;> by_cases h3 : a3 = b3 <;> simp [h1, h2, h3]
theorem count_nonneg (x : PyData) : ∀ ys : List PyData, 0 ≤ PySem.Spec.countIn x ys
  | [] => by simp [PySem.Spec.countIn]
  | y :: r => by have := count_nonneg x r; simp only [PySem.Spec.countIn]; split <;> omega
theorem count_trips (t : Int × Int × Int) : ∀ ts : List (Int × Int × Int), (PySem.Spec.countIn (trD t) (ts.map trD) ≠ 0) ↔ t ∈ ts
  | [] => by simp [PySem.Spec.countIn]
  | u :: r => by
    have h := count_nonneg (trD t) (r.map trD)
    have ih := count_trips t r
    simp only [List.map_cons, PySem.Spec.countIn, same_trip, List.mem_cons]
    by_cases hu : u = t
    · subst hu
      simp
      omega
    · rw [if_neg (by simpa using hu)]
      have : t ≠ u := fun e => hu e.symm
      simp only [this, false_or]
      rw [← ih]
      omega
section
variable {prog : Program} {w : World} {A : Around} {E : Value → Shared → Prop} {s : Shared} {h₀ : Heap} {L : Addr}
theorem in_trips {fa r : Addr} {nw : List (Addr × Obj)} {vs : List Value} {ts : List (Int × Int × Int)} {t : Int × Int × Int} {t1 t2 t3 : Tok} {Q : Value → Shared → Prop} (N : News h₀ L s.heap nw) (hf : (fa, lst vs) ∈ nw) (hT : Trips nw vs ts)
    (hr : (r, ({ cls := .type "tuple", data := .seq #[.int t.1 t1, .int t.2.1 t2, .int t.2.2 t3] } : Obj)) ∈ nw) (hu : A.units + 65 < cLine) (h : Q (.bool (decide (t ∈ ts))) s) : wpAny (model prog w) A (compareOp .In (.ref r) (.ref fa)) Q E s := by
  refine in_list_dataH (reads_lst N hf hT) (reads_trip (N _ hr).1) (shaped_trips ts) (shaped_trip t) hu ?_ ?_
  · intro y hy
    obtain ⟨u, _, rfl⟩ := List.mem_map.mp hy
    exact noMix_trip u t
  · have e : decide (PySem.Spec.countIn (trD t) (ts.map trD) ≠ 0) = decide (t ∈ ts) := by
      rw [decide_eq_decide]; exact count_trips t ts
    rw [e]; exact h
theorem ne_trips {r q : Addr} {nw : List (Addr × Obj)} {t u : Int × Int × Int} {t1 t2 t3 u1 u2 u3 : Tok} {Q : Value → Shared → Prop} (N : News h₀ L s.heap nw)
    (hr : (r, ({ cls := .type "tuple", data := .seq #[.int t.1 t1, .int t.2.1 t2, .int t.2.2 t3] } : Obj)) ∈ nw) (hq : (q, ({ cls := .type "tuple", data := .seq #[.int u.1 u1, .int u.2.1 u2, .int u.2.2 u3] } : Obj)) ∈ nw) (hu : A.units + 64 < cLine) (h : Q (.bool (!decide (t = u))) s) :
    wpAny (model prog w) A (compareOp .NotEq (.ref r) (.ref q)) Q E s :=
  ne_dataH_same (reads_trip (N _ hr).1) (reads_trip (N _ hq).1) (shaped_trip t) (shaped_trip u) hu (noMix_trip t u) (by rw [same_trip]; exact h)
end
end
theorem t53 : (1 : Int) * 2 ^ Int.toNat 53 = 9007199254740992 := by decide
theorem t54 : (2 : Int) ^ Int.toNat 54 = 18014398509481984 := by decide
theorem t24 : (2 : Int) ^ Int.toNat 24 = 16777216 := by decide
theorem qt_neg (a b : Int) : qt a (-b) = qt (-a) b := by
  unfold qt
  rw [show a * 2 ^ Int.toNat 54 + -b = -(-a * 2 ^ Int.toNat 54 + b) by rw [Int.neg_mul]; omega, show 2 * -b = -(2 * b) by omega, Int.neg_fdiv_neg]
def stq (a b : Int) : Int := stv (qt a b + 1 * 2 ^ Int.toNat 53)
theorem stq_is (a b : Int) (hb : 0 < b) : stq a b = max 0 (min 1073741823 (((a * 18014398509481984 + b) / (2 * b) + 9007199254740992) / 16777216)) := by
  unfold stq stv qt
  rw [t53, t54, t24, Int.fdiv_eq_ediv_of_nonneg _ (by decide), Int.fdiv_eq_ediv_of_nonneg _ (by omega)]
/-- in the face: the very leaf -/
theorem stq_in {k : Int} (h0 : 0 ≤ k) (h1 : k < 1073741824) : stq (2 * k + 1 - 1073741824) 1073741824 = k := by
  rw [stq_is _ _ (by decide)]; omega
/-- over the rim: the leaf or the one behind it -/
theorem stq_out {k : Int} (h0 : 0 ≤ k) (h1 : k < 1073741824) : stq (2 * k + 1 - 1073741824) 1073741825 = k ∨ stq (2 * k + 1 - 1073741824) 1073741825 = k + 1 := by
  rw [stq_is _ _ (by decide)]; omega
theorem stq_lo : stq (-1073741824) 1073741825 = 0 := by rw [stq_is _ _ (by decide)]; decide
theorem stq_hi : stq 1073741824 1073741825 = 1073741823 := by rw [stq_is _ _ (by decide)]; decide
theorem stq_neg (a b : Int) : stq a (-b) = stq (-a) b := by unfold stq; rw [qt_neg]
/-- a point of the cube told on its face -/
def res (x y z : Int) : Int × Int × Int := (xfF x y z, stv (vu (xfF x y z) x y z + 1 * 2 ^ Int.toNat 53), stv (vv (xfF x y z) x y z + 1 * 2 ^ Int.toNat 53))
theorem res_of {x y z k : Int} (h : xfF x y z = k) : res x y z = (k, stv (vu k x y z + 1 * 2 ^ Int.toNat 53), stv (vv k x y z + 1 * 2 ^ Int.toNat 53)) := by unfold res; rw [h]
theorem iabs_p {x : Int} (h : 0 ≤ x) : iabs x = x := if_neg (by omega)
theorem iabs_n {x : Int} (h : 0 ≤ x) : iabs (-x) = x := by
  unfold iabs
  split <;> omega
theorem iabs_lt {x M : Int} (h : -M < x ∧ x < M) : iabs x < M := by
  unfold iabs
  split <;> omega
theorem r0p {M y z : Int} (h : 0 < M) (hy : -M < y ∧ y < M) (hz : -M < z ∧ z < M) : res M y z = (0, stq y M, stq z M) :=
  res_of (k := 0) (by unfold xfF; rw [lac_a (by rw [iabs_p (Int.le_of_lt h)]; exact iabs_lt hy) (by rw [iabs_p (Int.le_of_lt h)]; exact iabs_lt hz), if_pos rfl, if_neg (by omega)])
theorem r0n {M y z : Int} (h : 0 < M) (hy : -M < y ∧ y < M) (hz : -M < z ∧ z < M) : res (-M) y z = (3, stq (-z) M, stq (-y) M) := by
  rw [← stq_neg, ← stq_neg]
  exact res_of (k := 3) (by unfold xfF; rw [lac_a (by rw [iabs_n (Int.le_of_lt h)]; exact iabs_lt hy) (by rw [iabs_n (Int.le_of_lt h)]; exact iabs_lt hz), if_pos rfl, if_pos (by omega)])
theorem r1p {M x z : Int} (h : 0 < M) (hx : -M < x ∧ x < M) (hz : -M < z ∧ z < M) : res x M z = (1, stq (-x) M, stq z M) :=
  res_of (k := 1) (by unfold xfF; rw [lac_c (by rw [iabs_p (Int.le_of_lt h)]; exact Int.not_lt.mpr (Int.le_of_lt (iabs_lt hx))) (by rw [iabs_p (Int.le_of_lt h)]; exact iabs_lt hz), if_neg (by decide), if_pos rfl, if_neg (by omega)])
theorem r1n {M x z : Int} (h : 0 < M) (hx : -M < x ∧ x < M) (hz : -M < z ∧ z < M) : res x (-M) z = (4, stq (-z) M, stq x M) := by
  have e : stq x M = stq (-x) (-M) := by rw [stq_neg, Int.neg_neg]
  rw [← stq_neg, e]
  exact res_of (k := 4) (by unfold xfF; rw [lac_c (by rw [iabs_n (Int.le_of_lt h)]; exact Int.not_lt.mpr (Int.le_of_lt (iabs_lt hx))) (by rw [iabs_n (Int.le_of_lt h)]; exact iabs_lt hz), if_neg (by decide), if_pos rfl, if_pos (by omega)])
theorem lac_2 {x y z M : Int} (hx : iabs x < M) (hy : iabs y < M) (hz : iabs z = M) : lac x y z = 2 := by
  by_cases q : iabs y < iabs x
  · exact lac_b q (by omega)
  · exact lac_d q (by omega)
theorem r2p {M x y : Int} (h : 0 < M) (hx : -M < x ∧ x < M) (hy : -M < y ∧ y < M) : res x y M = (2, stq (-x) M, stq (-y) M) :=
  res_of (k := 2) (by unfold xfF; rw [lac_2 (iabs_lt hx) (iabs_lt hy) (iabs_p (Int.le_of_lt h)), if_neg (by decide), if_neg (by decide), if_neg (by omega)])
theorem r2n {M x y : Int} (h : 0 < M) (hx : -M < x ∧ x < M) (hy : -M < y ∧ y < M) : res x y (-M) = (5, stq y M, stq x M) := by
  have e : stq y M = stq (-y) (-M) := by rw [stq_neg, Int.neg_neg]
  have e' : stq x M = stq (-x) (-M) := by rw [stq_neg, Int.neg_neg]
  rw [e, e']
  exact res_of (k := 5) (by unfold xfF; rw [lac_2 (iabs_lt hx) (iabs_lt hy) (iabs_n (Int.le_of_lt h)), if_neg (by decide), if_neg (by decide), if_pos (by omega)])
/-- face, u, v: the point that from_face_ij_wrap tells, and where it lies -/
def wr (f u v : Int) : Int × Int × Int := res (fx f u v + fx f 0 0 * (1073741824 - 1)) (fy f u v + fy f 0 0 * (1073741824 - 1)) (fz f u v + fz f 0 0 * (1073741824 - 1))
theorem wr_is (f i j : Int) : (wF f i j, wI f i j, wJ f i j) = wr f (uvI (clpI i)) (uvJ (clpJ j)) := rfl
theorem res_congr {x y z x' y' z' : Int} (hx : x = x') (hy : y = y') (hz : z = z') : res x y z = res x' y' z' := by rw [hx, hy, hz]
theorem wr0 (u v : Int) : wr 0 u v = res 1073741824 u v := res_congr rfl (Int.add_zero u) (Int.add_zero v)
theorem wr1 (u v : Int) : wr 1 u v = res (-u) 1073741824 v := res_congr (Int.add_zero (-u)) rfl (Int.add_zero v)
theorem wr2 (u v : Int) : wr 2 u v = res (-u) (-v) 1073741824 := res_congr (Int.add_zero (-u)) (Int.add_zero (-v)) rfl
theorem wr3 (u v : Int) : wr 3 u v = res (-1073741824) (-v) (-u) := res_congr rfl (Int.add_zero (-v)) (Int.add_zero (-u))
theorem wr4 (u v : Int) : wr 4 u v = res v (-1073741824) (-u) := res_congr (Int.add_zero v) rfl (Int.add_zero (-u))
theorem wr5 (u v : Int) : wr 5 u v = res v u (-1073741824) := res_congr (Int.add_zero v) (Int.add_zero u) rfl
/-- what lies over a rim: s = 0: i < 0, 1: i too great, 2: j < 0, 3: j too great; lo, hi the ends, c the other coordinate, d the same counted from the other end -/
def ovT (f : Int) (s : Nat) (lo hi c d : Int) : Int × Int × Int := match s with
  | 0 => if f % 2 = 0 then ((f + 4) % 6, d, hi) else ((f + 5) % 6, hi, c)
  | 1 => if f % 2 = 0 then ((f + 1) % 6, lo, c) else ((f + 2) % 6, d, lo)
  | 2 => if f % 2 = 0 then ((f + 5) % 6, c, hi) else ((f + 4) % 6, hi, d)
  | _ => if f % 2 = 0 then ((f + 2) % 6, lo, d) else ((f + 1) % 6, c, lo)
theorem eq3 {a b c a' b' c' : Int} (h1 : a = a') (h2 : b = b') (h3 : c = c') : (a, b, c) = (a', b', c') := by rw [h1, h2, h3]
theorem bn : -(1073741825 : Int) < 1073741824 ∧ (1073741824 : Int) < 1073741825 := by decide
theorem bn' : -(1073741825 : Int) < -1073741824 ∧ -(1073741824 : Int) < 1073741825 := by decide
theorem neg_in {M v : Int} (h : -M < v ∧ v < M) : -M < -v ∧ -v < M := by omega
theorem wr_s0 {f w : Int} (h0 : 0 ≤ f) (h6 : f < 6) (h : -1073741825 < w ∧ w < 1073741825) : wr f (-1073741825) (w) = ovT f 0 0 1073741823 (stq w 1073741825) (stq (-w) 1073741825) := by
  rcases f_cases h0 h6 with rfl | rfl | rfl | rfl | rfl | rfl
  · exact (wr0 _ _).trans ((r1n (M := 1073741825) (by decide) bn h).trans (eq3 rfl rfl stq_hi))
  · exact (wr1 _ _).trans ((r0p (M := 1073741825) (by decide) bn h).trans (eq3 rfl stq_hi rfl))
  · exact (wr2 _ _).trans ((r0p (M := 1073741825) (by decide) (neg_in h) bn).trans (eq3 rfl rfl stq_hi))
  · exact (wr3 _ _).trans ((r2p (M := 1073741825) (by decide) bn' (neg_in h)).trans (eq3 rfl stq_hi (congrArg (stq · 1073741825) (Int.neg_neg w))))
  · exact (wr4 _ _).trans ((r2p (M := 1073741825) (by decide) h bn').trans (eq3 rfl rfl stq_hi))
  · exact (wr5 _ _).trans ((r1n (M := 1073741825) (by decide) h bn').trans (eq3 rfl stq_hi rfl))
theorem wr_s1 {f w : Int} (h0 : 0 ≤ f) (h6 : f < 6) (h : -1073741825 < w ∧ w < 1073741825) : wr f (1073741825) (w) = ovT f 1 0 1073741823 (stq w 1073741825) (stq (-w) 1073741825) := by
  rcases f_cases h0 h6 with rfl | rfl | rfl | rfl | rfl | rfl
  · exact (wr0 _ _).trans ((r1p (M := 1073741825) (by decide) bn h).trans (eq3 rfl stq_lo rfl))
  · exact (wr1 _ _).trans ((r0n (M := 1073741825) (by decide) bn h).trans (eq3 rfl rfl stq_lo))
  · exact (wr2 _ _).trans ((r0n (M := 1073741825) (by decide) (neg_in h) bn).trans (eq3 rfl stq_lo (congrArg (stq · 1073741825) (Int.neg_neg w))))
  · exact (wr3 _ _).trans ((r2n (M := 1073741825) (by decide) bn' (neg_in h)).trans (eq3 rfl rfl stq_lo))
  · exact (wr4 _ _).trans ((r2n (M := 1073741825) (by decide) h bn').trans (eq3 rfl stq_lo rfl))
  · exact (wr5 _ _).trans ((r1p (M := 1073741825) (by decide) h bn').trans (eq3 rfl rfl stq_lo))
theorem wr_s2 {f w : Int} (h0 : 0 ≤ f) (h6 : f < 6) (h : -1073741825 < w ∧ w < 1073741825) : wr f (w) (-1073741825) = ovT f 2 0 1073741823 (stq w 1073741825) (stq (-w) 1073741825) := by
  rcases f_cases h0 h6 with rfl | rfl | rfl | rfl | rfl | rfl
  · exact (wr0 _ _).trans ((r2n (M := 1073741825) (by decide) bn h).trans (eq3 rfl rfl stq_hi))
  · exact (wr1 _ _).trans ((r2n (M := 1073741825) (by decide) (neg_in h) bn).trans (eq3 rfl stq_hi rfl))
  · exact (wr2 _ _).trans ((r1p (M := 1073741825) (by decide) (neg_in h) bn).trans (eq3 rfl (congrArg (stq · 1073741825) (Int.neg_neg w)) stq_hi))
  · exact (wr3 _ _).trans ((r1p (M := 1073741825) (by decide) bn' (neg_in h)).trans (eq3 rfl stq_hi rfl))
  · exact (wr4 _ _).trans ((r0n (M := 1073741825) (by decide) bn' (neg_in h)).trans (eq3 rfl (congrArg (stq · 1073741825) (Int.neg_neg w)) stq_hi))
  · exact (wr5 _ _).trans ((r0n (M := 1073741825) (by decide) h bn').trans (eq3 rfl stq_hi rfl))
theorem wr_s3 {f w : Int} (h0 : 0 ≤ f) (h6 : f < 6) (h : -1073741825 < w ∧ w < 1073741825) : wr f (w) (1073741825) = ovT f 3 0 1073741823 (stq w 1073741825) (stq (-w) 1073741825) := by
  rcases f_cases h0 h6 with rfl | rfl | rfl | rfl | rfl | rfl
  · exact (wr0 _ _).trans ((r2p (M := 1073741825) (by decide) bn h).trans (eq3 rfl stq_lo rfl))
  · exact (wr1 _ _).trans ((r2p (M := 1073741825) (by decide) (neg_in h) bn).trans (eq3 rfl (congrArg (stq · 1073741825) (Int.neg_neg w)) stq_lo))
  · exact (wr2 _ _).trans ((r1n (M := 1073741825) (by decide) (neg_in h) bn).trans (eq3 rfl stq_lo rfl))
  · exact (wr3 _ _).trans ((r1n (M := 1073741825) (by decide) bn' (neg_in h)).trans (eq3 rfl (congrArg (stq · 1073741825) (Int.neg_neg w)) stq_lo))
  · exact (wr4 _ _).trans ((r0p (M := 1073741825) (by decide) bn' (neg_in h)).trans (eq3 rfl stq_lo rfl))
  · exact (wr5 _ _).trans ((r0p (M := 1073741825) (by decide) h bn').trans (eq3 rfl rfl stq_lo))
theorem wr_in {f u v : Int} (h0 : 0 ≤ f) (h6 : f < 6) (h : -1073741824 < u ∧ u < 1073741824) (g : -1073741824 < v ∧ v < 1073741824) : wr f u v = (f, stq u 1073741824, stq v 1073741824) := by
  have eu := congrArg (stq · 1073741824) (Int.neg_neg u)
  have ev := congrArg (stq · 1073741824) (Int.neg_neg v)
  rcases f_cases h0 h6 with rfl | rfl | rfl | rfl | rfl | rfl
  · exact (wr0 _ _).trans ((r0p (M := 1073741824) (by decide) h g).trans (eq3 rfl rfl rfl))
  · exact (wr1 _ _).trans ((r1p (M := 1073741824) (by decide) (neg_in h) g).trans (eq3 rfl eu rfl))
  · exact (wr2 _ _).trans ((r2p (M := 1073741824) (by decide) (neg_in h) (neg_in g)).trans (eq3 rfl eu ev))
  · exact (wr3 _ _).trans ((r0n (M := 1073741824) (by decide) (neg_in g) (neg_in h)).trans (eq3 rfl eu ev))
  · exact (wr4 _ _).trans ((r1n (M := 1073741824) (by decide) g (neg_in h)).trans (eq3 rfl eu rfl))
  · exact (wr5 _ _).trans ((r2n (M := 1073741824) (by decide) g h).trans (eq3 rfl rfl rfl))
/-- the cell of a side of N cells in which a leaf lies -/
def blk3 (S : Int) (t : Int × Int × Int) : Int × Int × Int := (t.1, t.2.1 / S, t.2.2 / S)
theorem blk_ov (S f lo hi c d : Int) (s : Nat) : blk3 S (ovT f s lo hi c d) = ovT f s (lo / S) (hi / S) (c / S) (d / S) := by
  by_cases h : f % 2 = 0
  · unfold ovT; simp only [h, if_true]; split <;> rfl
  · unfold ovT; simp only [h, if_false]; split <;> rfl
def fplT (t : Int × Int × Int) (b : Nat) : Int := fpl t.1 t.2.1 t.2.2 b
theorem hil_pref (a b o i j : Nat) : (hil (a + b) o i j).1 / 4 ^ b = (hil a o (i / 2 ^ b) (j / 2 ^ b)).1 := by
  rw [hil_append]
  have h := hil_lt b (hil a o (i / 2 ^ b) (j / 2 ^ b)).2 i j
  show ((hil a o (i / 2 ^ b) (j / 2 ^ b)).1 * 4 ^ b + _) / 4 ^ b = _
  rw [Nat.mul_comm, Nat.mul_add_div (Nat.pow_pos (by decide)), Nat.div_eq_of_lt h, Nat.add_zero]
theorem fpl_pref {f i j : Int} (a b : Nat) (hi : 0 ≤ i) (hj : 0 ≤ j) : fpl f i j (a + b) / 2 ^ (2 * b) = fpl f (i / 2 ^ b) (j / 2 ^ b) a := by
  unfold fpl
  rw [← four_two, Int.pow_add, ← Int.mul_assoc, Int.mul_comm (f * 4 ^ a), Int.add_comm, Int.add_mul_ediv_left _ _ (Int.ne_of_gt (Int.pow_pos (by decide))), Int.add_comm]
  congr 1
  have e : ((4 : Int) ^ b) = ((4 ^ b : Nat) : Int) := by rw [Int.natCast_pow]; rfl
  have e2 : ∀ x : Int, 0 ≤ x → (x / 2 ^ b).toNat = x.toNat / 2 ^ b := fun x hx => by
    obtain ⟨n, rfl⟩ := Int.eq_ofNat_of_zero_le hx
    rw [nat_pow_cast, ← Int.natCast_ediv, Int.toNat_natCast, Int.toNat_natCast]
  rw [e, ← Int.natCast_ediv, hil_pref, e2 i hi, e2 j hj]
theorem near_div {S b x c : Int} (h : 0 < S) (h1 : S * b + 1 ≤ x) (h2 : x + 2 ≤ S * b + S) (hc : c = x ∨ c = x + 1) : c / S = b := by
  have e : c = (c - S * b) + S * b := by omega
  rw [e, Int.add_mul_ediv_left _ _ (Int.ne_of_gt h), Int.ediv_eq_zero_of_lt (by omega) (by omega), Int.zero_add]
/-- the leaf (I, J) and its cell of a side of N cells, over the rim or not -/
def cellAt (f a b N : Int) : Int × Int × Int := if a < 0 then ovT f 0 0 (N - 1) b (N - 1 - b) else if N ≤ a then ovT f 1 0 (N - 1) b (N - 1 - b) else if b < 0 then ovT f 2 0 (N - 1) a (N - 1 - a) else if N ≤ b then ovT f 3 0 (N - 1) a (N - 1 - a) else (f, a, b)
theorem side_facts {S N x b : Int} (hSN : S * N = 1073741824) (hS : 0 < S) (hb0 : 0 ≤ b) (hbN : b < N) (h1 : S * b + 1 ≤ x) (h2 : x + 2 ≤ S * b + S) :
    (0 ≤ x ∧ x < 1073741824) ∧ stq (2 * x + 1 - 1073741824) 1073741825 / S = b ∧ stq (-(2 * x + 1 - 1073741824)) 1073741825 / S = N - 1 - b := by
  have hp : 0 ≤ S * b := Int.mul_nonneg (Int.le_of_lt hS) hb0
  have hq : S * b + S ≤ 1073741824 := by
    have := Int.mul_le_mul_of_nonneg_left (show b + 1 ≤ N by omega) (Int.le_of_lt hS)
    rw [Int.mul_add, Int.mul_one, hSN] at this
    exact this
  have hx : 0 ≤ x ∧ x < 1073741824 := by omega
  have e : -(2 * x + 1 - 1073741824) = 2 * (1073741823 - x) + 1 - 1073741824 := by omega
  have hr : S * (N - 1 - b) = 1073741824 - S - S * b := by rw [Int.mul_sub, Int.mul_sub, Int.mul_one, hSN]
  refine ⟨hx, near_div hS h1 h2 (stq_out hx.1 hx.2), ?_⟩
  rw [e]
  exact near_div hS (x := 1073741823 - x) (by omega) (by omega) (stq_out (by omega) (by omega))
theorem top_div {S N : Int} (hSN : S * N = 1073741824) (hS : 0 < S) : (1073741823 : Int) / S = N - 1 := by
  have e : (1073741823 : Int) = (S - 1) + S * (N - 1) := by rw [Int.mul_sub, hSN]; omega
  rw [e, Int.add_mul_ediv_left _ _ (Int.ne_of_gt hS), Int.ediv_eq_zero_of_lt (by omega) (by omega), Int.zero_add]
theorem clp_lo {x : Int} (h : x < 0) : uvI (clpI x) = -1073741825 := by unfold uvI clpI; omega
theorem clp_hi {x : Int} (h : 1073741824 ≤ x) : uvI (clpI x) = 1073741825 := by unfold uvI clpI; omega
theorem clp_in {x : Int} (h : 0 ≤ x ∧ x < 1073741824) : uvI (clpI x) = 2 * x + 1 - 1073741824 := by unfold uvI clpI; omega
theorem w_bd {x : Int} (h : 0 ≤ x ∧ x < 1073741824) : -1073741825 < 2 * x + 1 - 1073741824 ∧ 2 * x + 1 - 1073741824 < (1073741825 : Int) := by omega
theorem w_bd' {x : Int} (h : 0 ≤ x ∧ x < 1073741824) : -1073741824 < 2 * x + 1 - 1073741824 ∧ 2 * x + 1 - 1073741824 < (1073741824 : Int) := by omega
theorem neg_side {S a x : Int} (hS : 0 < S) (h : a < 0) (h2 : x + 2 ≤ S * a + S) : x < 0 := by
  have := Int.mul_le_mul_of_nonneg_left (show a + 1 ≤ 0 by omega) (Int.le_of_lt hS)
  rw [Int.mul_add, Int.mul_one, Int.mul_zero] at this
  omega
theorem big_side {S N a x : Int} (hSN : S * N = 1073741824) (hS : 0 < S) (h : N ≤ a) (h1 : S * a + 1 ≤ x) : 1073741824 ≤ x := by
  have := Int.mul_le_mul_of_nonneg_left h (Int.le_of_lt hS)
  omega
theorem wr_blk {f I J a b S N : Int} (hSN : S * N = 1073741824) (hS : 0 < S) (h0 : 0 ≤ f) (h6 : f < 6) (i1 : S * a + 1 ≤ I) (i2 : I + 2 ≤ S * a + S) (j1 : S * b + 1 ≤ J) (j2 : J + 2 ≤ S * b + S)
    (hx : (0 ≤ a ∧ a < N) ∨ (0 ≤ b ∧ b < N)) : blk3 S (wF f I J, wI f I J, wJ f I J) = cellAt f a b N := by
  have ht := top_div hSN hS
  have hz := Int.zero_ediv S
  rw [wr_is]
  show blk3 S (wr f (uvI (clpI I)) (uvI (clpI J))) = _
  unfold cellAt
  by_cases c0 : a < 0
  · obtain ⟨hJ, e1, e2⟩ := side_facts hSN hS (hx.resolve_left fun q => absurd q.1 (Int.not_le.mpr c0)).1 (hx.resolve_left fun q => absurd q.1 (Int.not_le.mpr c0)).2 j1 j2
    rw [if_pos c0, clp_lo (neg_side hS c0 i2), clp_in hJ, wr_s0 h0 h6 (w_bd hJ), blk_ov, hz, ht, e1, e2]
  rw [if_neg c0]
  by_cases c1 : N ≤ a
  · obtain ⟨hJ, e1, e2⟩ := side_facts hSN hS (hx.resolve_left fun q => absurd q.2 (Int.not_lt.mpr c1)).1 (hx.resolve_left fun q => absurd q.2 (Int.not_lt.mpr c1)).2 j1 j2
    rw [if_pos c1, clp_hi (big_side hSN hS c1 i1), clp_in hJ, wr_s1 h0 h6 (w_bd hJ), blk_ov, hz, ht, e1, e2]
  rw [if_neg c1]
  obtain ⟨hI, e1, e2⟩ := side_facts hSN hS (Int.not_lt.mp c0) (Int.not_le.mp c1) i1 i2
  by_cases c2 : b < 0
  · rw [if_pos c2, clp_lo (neg_side hS c2 j2), clp_in hI, wr_s2 h0 h6 (w_bd hI), blk_ov, hz, ht, e1, e2]
  rw [if_neg c2]
  by_cases c3 : N ≤ b
  · rw [if_pos c3, clp_hi (big_side hSN hS c3 j1), clp_in hI, wr_s3 h0 h6 (w_bd hI), blk_ov, hz, ht, e1, e2]
  rw [if_neg c3]
  have hJ := (side_facts hSN hS (Int.not_lt.mp c2) (Int.not_le.mp c3) j1 j2).1
  rw [clp_in hI, clp_in hJ, wr_in h0 h6 (w_bd' hI) (w_bd' hJ), stq_in hI.1 hI.2, stq_in hJ.1 hJ.2]
  unfold blk3
  rw [near_div hS i1 i2 (.inl rfl), near_div hS j1 j2 (.inl rfl)]
theorem same_blk {f I J a b S N : Int} {b9 : Bool} (hSN : S * N = 1073741824) (hS : 0 < S) (h0 : 0 ≤ f) (h6 : f < 6) (i1 : S * a + 1 ≤ I) (i2 : I + 2 ≤ S * a + S) (j1 : S * b + 1 ≤ J) (j2 : J + 2 ≤ S * b + S)
    (hx : (0 ≤ a ∧ a < N) ∨ (0 ≤ b ∧ b < N)) (hb : b9 = true → (0 ≤ a ∧ a < N) ∧ 0 ≤ b ∧ b < N) : blk3 S (sF b9 f I J, sI b9 f I J, sJ b9 f I J) = cellAt f a b N := by
  cases b9
  · exact wr_blk hSN hS h0 h6 i1 i2 j1 j2 hx
  · obtain ⟨⟨a0, a1⟩, b0, b1⟩ := hb rfl
    show blk3 S (f, I, J) = _
    unfold blk3 cellAt
    rw [near_div hS i1 i2 (.inl rfl), near_div hS j1 j2 (.inl rfl), if_neg (Int.not_lt.mpr a0), if_neg (Int.not_le.mpr a1), if_neg (Int.not_lt.mpr b0), if_neg (Int.not_le.mpr b1)]
theorem wIJ_ok (f I J : Int) : (0 ≤ wI f I J ∧ wI f I J < 1073741824) ∧ 0 ≤ wJ f I J ∧ wJ f I J < 1073741824 := ⟨stv_ok _, stv_ok _⟩
/-- the id that from_face_ij_same(..).parent(l) comes to -/
theorem same_fpl {f I J a b S N l : Int} {b9 : Bool} (hl0 : 0 ≤ l) (hl : l ≤ 30) (hS9 : (2 : Int) ^ (30 - l).toNat = S) (hN9 : (2 : Int) ^ l.toNat = N) (h0 : 0 ≤ f) (h6 : f < 6) (i1 : S * a + 1 ≤ I) (i2 : I + 2 ≤ S * a + S) (j1 : S * b + 1 ≤ J) (j2 : J + 2 ≤ S * b + S)
    (hx : (0 ≤ a ∧ a < N) ∨ (0 ≤ b ∧ b < N)) (hb : b9 = true → (0 ≤ a ∧ a < N) ∧ 0 ≤ b ∧ b < N) : fpl (sF b9 f I J) (sI b9 f I J) (sJ b9 f I J) 30 / 2 ^ (2 * (30 - l)).toNat = fplT (cellAt f a b N) l.toNat := by
  have hS : 0 < S := hS9 ▸ pw _
  have hSN : S * N = 1073741824 := by rw [← hS9, ← hN9, ← pw_add, show (30 - l).toNat + l.toNat = 30 by omega]; decide
  have e := same_blk hSN hS h0 h6 i1 i2 j1 j2 hx hb
  have hnn : 0 ≤ sI b9 f I J ∧ 0 ≤ sJ b9 f I J := by
    cases b9
    · exact ⟨(wIJ_ok f I J).1.1, (wIJ_ok f I J).2.1⟩
    · obtain ⟨⟨a0, a1⟩, b0, b1⟩ := hb rfl
      exact ⟨(side_facts hSN hS a0 a1 i1 i2).1.1, (side_facts hSN hS b0 b1 j1 j2).1.1⟩
  rw [← e]
  unfold fplT blk3
  show _ = fpl (sF b9 f I J) (sI b9 f I J / S) (sJ b9 f I J / S) l.toNat
  rw [← hS9, ← fpl_pref l.toNat (30 - l).toNat hnn.1 hnn.2, show l.toNat + (30 - l).toNat = 30 by omega, show (2 * (30 - l)).toNat = 2 * (30 - l).toNat by omega]
theorem pred_of {r : Nat} (hr : 1 ≤ r) : ∃ b, r = b + 1 := ⟨r - 1, (Nat.sub_add_cancel hr).symm⟩
theorem two_four (b : Nat) : (2 : Nat) * 4 ^ b < 4 ^ (b + 1) := by
  rw [Nat.pow_succ, Nat.mul_comm]
  exact Nat.mul_lt_mul_of_pos_left (by decide) (Nat.pow_pos (by decide))
theorem lih_cell {l r o p : Nat} (ho : o < 4) (hr : 1 ≤ r) : ∃ m, (m = 2 ^ (r - 1) ∨ m = 2 ^ (r - 1) - 1) ∧ (lih (l + r) o (p * 4 ^ r + 2 * 4 ^ (r - 1))).1 = (lih l o p).1 * 2 ^ r + m ∧ (lih (l + r) o (p * 4 ^ r + 2 * 4 ^ (r - 1))).2.1 = (lih l o p).2.1 * 2 ^ r + m := by
  obtain ⟨b, rfl⟩ := pred_of hr
  have e : b + 1 - 1 = b := rfl
  rw [e]
  have h4 := two_four b
  have hd : (p * 4 ^ (b + 1) + 2 * 4 ^ b) / 4 ^ (b + 1) = p := by
    rw [Nat.mul_comm, Nat.mul_add_div (Nat.pow_pos (by decide)), Nat.div_eq_of_lt h4, Nat.add_zero]
  have hm : (p * 4 ^ (b + 1) + 2 * 4 ^ b) % 4 ^ (b + 1) = (2 * 4 ^ b) % 4 ^ (b + 1) := by rw [Nat.mul_comm, Nat.mul_add_mod]
  rw [lih_append, hd, lih_mod (b + 1) _ _ _ hm]
  obtain ⟨h1, h2⟩ := lih_mid b (lih l o p).2.2 (lih_o l o p ho)
  exact ⟨_, h2, rfl, by rw [h1]⟩
theorem exp_r {L r : Nat} (hL : L + r = 30) : (60 - 2 * (L : Int)).toNat = 2 * r := by omega
theorem sub_r {L r : Nat} (hL : L + r = 30) : (30 - (L : Int)).toNat = r := by omega
theorem r_pos {L r : Nat} (hL : L + r = 30) (h : (L : Int) ≤ 29) : 1 ≤ r := by omega
theorem cid_nat {fN h L r : Nat} (hL : L + r = 30) : cid ((fN : Int) * 4 ^ L + (h : Int)) (L : Int) = (((2 * (fN * 4 ^ L + h) + 1) * 4 ^ r : Nat) : Int) := by
  unfold cid
  rw [exp_r hL, ← four_two]
  simp only [Int.natCast_mul, Int.natCast_add, Int.natCast_pow]
  rfl
theorem half_nat {P r : Nat} (hr : 1 ≤ r) : (2 * P + 1) * 4 ^ r / 2 = P * 4 ^ r + 2 * 4 ^ (r - 1) := by
  obtain ⟨b, rfl⟩ := pred_of hr
  show (2 * P + 1) * 4 ^ (b + 1) / 2 = P * 4 ^ (b + 1) + 2 * 4 ^ b
  rw [show (2 * P + 1) * 4 ^ (b + 1) = 2 * (P * 4 ^ (b + 1) + 2 * 4 ^ b) by rw [Nat.pow_succ, Nat.add_mul, Nat.mul_assoc 2 P, Nat.mul_add, Nat.one_mul, ← Nat.mul_assoc 2 2, Nat.mul_comm 4], Nat.mul_div_cancel_left _ (by decide)]
theorem cell_pos {fN h L r : Nat} (hL : L + r = 30) (hr : 1 ≤ r) (hh : h < 4 ^ L) : tpos (cid ((fN : Int) * 4 ^ L + (h : Int)) (L : Int)) = h * 4 ^ r + 2 * 4 ^ (r - 1) ∧ tfc (cid ((fN : Int) * 4 ^ L + (h : Int)) (L : Int)) = fN := by
  have h1 : h * 4 ^ r + 2 * 4 ^ (r - 1) < 4 ^ 30 := by
    have a : 2 * 4 ^ (r - 1) < 4 ^ r := by
      obtain ⟨b, rfl⟩ := pred_of hr
      exact two_four b
    have b := Nat.mul_le_mul_right (4 ^ r) (show h + 1 ≤ 4 ^ L from hh)
    rw [← Nat.pow_add, hL, Nat.add_mul, Nat.one_mul] at b
    exact Nat.lt_of_lt_of_le (Nat.add_lt_add_left a _) b
  have e : (fN * 4 ^ L + h) * 4 ^ r + 2 * 4 ^ (r - 1) = 4 ^ 30 * fN + (h * 4 ^ r + 2 * 4 ^ (r - 1)) := by
    rw [Nat.add_mul, Nat.mul_assoc, ← Nat.pow_add, hL, Nat.mul_comm fN, Nat.add_assoc]
  unfold tpos tfc
  rw [cid_nat hL, Int.toNat_natCast]
  constructor
  · rw [half_nat hr, e, Nat.mul_add_mod, Nat.mod_eq_of_lt h1]
  · rw [show (2 : Nat) ^ 61 = 2 * 4 ^ 30 by decide, ← Nat.div_div_eq_div_mul, half_nat hr, e, Nat.mul_add_div (Nat.pow_pos (by decide)), Nat.div_eq_of_lt h1, Nat.add_zero]
theorem mid2 {m p : Nat} (hp : 0 < p) (hm : m = p ∨ m = p - 1) : 2 * (m : Int) = ((p * 2 : Nat) : Int) ∨ 2 * (m : Int) + 2 = ((p * 2 : Nat) : Int) := by omega
/-- the leaf that to_face_ij_orientation tells of a cell: one of its two middle ones -/
theorem tof_cell {f i j l : Int} (hf0 : 0 ≤ f) (_hf6 : f < 6) (h0 : 0 ≤ l) (h1 : l ≤ 29) (hi : 0 ≤ i ∧ i < 2 ^ l.toNat) (hj : 0 ≤ j ∧ j < 2 ^ l.toNat) :
    (∃ m : Int, (2 * m = 2 ^ (30 - l).toNat ∨ 2 * m + 2 = 2 ^ (30 - l).toNat) ∧ tI (cid (fpl f i j l.toNat) l) = 2 ^ (30 - l).toNat * i + m ∧ tJ (cid (fpl f i j l.toNat) l) = 2 ^ (30 - l).toNat * j + m) ∧ (cid (fpl f i j l.toNat) l).fdiv (2 ^ Int.toNat 61) = f := by
  obtain ⟨L, rfl⟩ := Int.eq_ofNat_of_zero_le h0
  obtain ⟨fN, rfl⟩ := Int.eq_ofNat_of_zero_le hf0
  obtain ⟨iN, rfl⟩ := Int.eq_ofNat_of_zero_le hi.1
  obtain ⟨jN, rfl⟩ := Int.eq_ofNat_of_zero_le hj.1
  obtain ⟨r, hr⟩ : ∃ r, L + r = 30 := ⟨30 - L, Nat.add_sub_cancel' (Nat.le_trans (Int.ofNat_le.mp h1) (by decide))⟩
  have hr1 := r_pos hr h1
  rw [sub_r hr]
  have hiN : iN < 2 ^ L := by have := hi.2; rw [Int.toNat_natCast, nat_pow_cast] at this; exact Int.ofNat_lt.mp this
  have hjN : jN < 2 ^ L := by have := hj.2; rw [Int.toNat_natCast, nat_pow_cast] at this; exact Int.ofNat_lt.mp this
  have ho : ((fN : Int) % 2).toNat = fN % 2 := rfl
  have e : fpl fN iN jN (L : Int).toNat = (fN : Int) * 4 ^ L + ((hil L (fN % 2) iN jN).1 : Int) := by unfold fpl; rw [ho]; rfl
  obtain ⟨p1, p2⟩ := cell_pos (fN := fN) hr hr1 (hil_lt L (fN % 2) iN jN)
  rw [e]
  obtain ⟨m, hm, a, b⟩ := lih_cell (l := L) (r := r) (o := fN % 2) (p := (hil L (fN % 2) iN jN).1) (two_lt _) hr1
  rw [lih_hil L _ _ _ (two_lt _) hiN hjN, hr] at a b
  refine ⟨⟨m, ?_, ?_, ?_⟩, ?_⟩
  · obtain ⟨q, rfl⟩ := pred_of hr1
    rw [Nat.add_sub_cancel] at hm
    rw [nat_pow_cast, Nat.pow_succ]
    exact mid2 (Nat.pow_pos (by decide)) hm
  · unfold tI
    rw [p1, p2, a, nat_pow_cast]
    simp only [Int.natCast_add, Int.natCast_mul]
    rw [Int.mul_comm]
  · unfold tJ
    rw [p1, p2, b, nat_pow_cast]
    simp only [Int.natCast_add, Int.natCast_mul]
    rw [Int.mul_comm]
  · have q : tfc (cid ((fN : Int) * 4 ^ L + ((hil L (fN % 2) iN jN).1 : Int)) (L : Int)) = fN := p2
    unfold tfc at q
    rw [cid_nat hr, Int.toNat_natCast] at q
    rw [cid_nat hr, Int.fdiv_eq_ediv_of_nonneg _ (by decide), show (2 : Int) ^ Int.toNat 61 = ((2 ^ 61 : Nat) : Int) by decide, ← Int.natCast_ediv, q]
def px (f s u v : Int) : Int := if f = 0 then s else if f = 1 then -u else if f = 2 then -u else if f = 3 then -s else v
def py (f s u v : Int) : Int := if f = 0 then u else if f = 1 then s else if f = 2 then -v else if f = 3 then -v else if f = 4 then -s else u
def pz (f s u v : Int) : Int := if f = 0 then v else if f = 1 then v else if f = 2 then s else if f = 3 then -u else if f = 4 then -u else -s
def bk (N : Int) (t : Int × Int × Int) : List (Int × Int × Int) := blkT N t.1 t.2.1 t.2.2 2
theorem tk_eq {c c' : Prop} [Decidable c] [Decidable c'] {N g U V U' V' : Int} (h : c ↔ c') (hU : U = 2 * U') (hV : V = 2 * V') : (if c then blkT N g (U.fdiv 2) (V.fdiv 2) 2 else []) = if c' then bk N (g, U', V') else [] := by
  rw [hU, hV, Int.mul_fdiv_cancel_left _ (by decide), Int.mul_fdiv_cancel_left _ (by decide)]
  by_cases q : c'
  · rw [if_pos q, if_pos (h.mpr q)]; rfl
  · rw [if_neg q, if_neg (fun z => q (h.mp z))]
section
variable {N A : Int}
theorem i_wp : 2 * A - N = N ↔ A = N := by omega
theorem i_wn : -(2 * A - N) = N ↔ A = 0 := by omega
theorem i_wq : - -(2 * A - N) = N ↔ A = N := by omega
theorem i_Np : N = N ↔ True := ⟨fun _ => trivial, fun _ => rfl⟩
theorem i_Nn (h : 0 < N) : -N = N ↔ False := ⟨fun q => by omega, fun q => q.elim⟩
theorem i_Nq : - -N = N ↔ True := ⟨fun _ => trivial, fun _ => Int.neg_neg N⟩
theorem u_wp : 2 * A - N + N = 2 * A := by omega
theorem u_wn : -(2 * A - N) + N = 2 * (N - A) := by omega
theorem u_wq : - -(2 * A - N) + N = 2 * A := by omega
theorem u_Np : N + N = 2 * N := by omega
theorem u_Nn : -N + N = 2 * 0 := by omega
theorem u_Nq : - -N + N = 2 * N := by omega
end
theorem if_T {α : Type} (l : List α) : (if True then l else []) = l := if_pos trivial
theorem if_F {α : Type} (l : List α) : (if False then l else []) = [] := if_neg id
theorem six {α : Type} {a b c d e f a' b' c' d' e' f' : List α} (h1 : a = a') (h2 : b = b') (h3 : c = c') (h4 : d = d') (h5 : e = e') (h6 : f = f') : ((((([] ++ a) ++ b) ++ c) ++ d) ++ e) ++ f = a' ++ (b' ++ (c' ++ (d' ++ (e' ++ f')))) := by
  rw [h1, h2, h3, h4, h5, h6, List.nil_append, List.append_assoc, List.append_assoc, List.append_assoc, List.append_assoc]
/-- the cells at the corner (A, B) of face f: its own, and those over the rims -/
def own5 (f A B N : Int) : List (Int × Int × Int) := bk N (f, A, B) ++ ((if A = 0 then bk N (ovT f 0 0 N B (N - B)) else []) ++ ((if A = N then bk N (ovT f 1 0 N B (N - B)) else []) ++ ((if B = 0 then bk N (ovT f 2 0 N A (N - A)) else []) ++ if B = N then bk N (ovT f 3 0 N A (N - A)) else [])))
theorem perm_f0 {α : Type} [BEq α] [LawfulBEq α] (e a0 a1 b0 b1 : List α) : List.Perm (e ++ (a1 ++ (b1 ++ ([] ++ (a0 ++ (b0)))))) (e ++ (a0 ++ (a1 ++ (b0 ++ b1)))) := List.perm_iff_count.mpr fun x => by simp only [List.count_append, List.count_nil]; omega
theorem perm_f1 {α : Type} [BEq α] [LawfulBEq α] (e a0 a1 b0 b1 : List α) : List.Perm (a0 ++ (e ++ (b1 ++ (a1 ++ ([] ++ (b0)))))) (e ++ (a0 ++ (a1 ++ (b0 ++ b1)))) := List.perm_iff_count.mpr fun x => by simp only [List.count_append, List.count_nil]; omega
theorem perm_f2 {α : Type} [BEq α] [LawfulBEq α] (e a0 a1 b0 b1 : List α) : List.Perm (a0 ++ (b0 ++ (e ++ (a1 ++ (b1 ++ ([])))))) (e ++ (a0 ++ (a1 ++ (b0 ++ b1)))) := List.perm_iff_count.mpr fun x => by simp only [List.count_append, List.count_nil]; omega
theorem perm_f3 {α : Type} [BEq α] [LawfulBEq α] (e a0 a1 b0 b1 : List α) : List.Perm ([] ++ (b0 ++ (a0 ++ (e ++ (b1 ++ (a1)))))) (e ++ (a0 ++ (a1 ++ (b0 ++ b1)))) := List.perm_iff_count.mpr fun x => by simp only [List.count_append, List.count_nil]; omega
theorem perm_f4 {α : Type} [BEq α] [LawfulBEq α] (e a0 a1 b0 b1 : List α) : List.Perm (b1 ++ ([] ++ (a0 ++ (b0 ++ (e ++ (a1)))))) (e ++ (a0 ++ (a1 ++ (b0 ++ b1)))) := List.perm_iff_count.mpr fun x => by simp only [List.count_append, List.count_nil]; omega
theorem perm_f5 {α : Type} [BEq α] [LawfulBEq α] (e a0 a1 b0 b1 : List α) : List.Perm (b1 ++ (a1 ++ ([] ++ (b0 ++ (a0 ++ (e)))))) (e ++ (a0 ++ (a1 ++ (b0 ++ b1)))) := List.perm_iff_count.mpr fun x => by simp only [List.count_append, List.count_nil]; omega
theorem tch_own {f A B N : Int} (h0 : 0 ≤ f) (h6 : f < 6) (hN : 0 < N) : List.Perm (tch (px f N (2 * A - N) (2 * B - N)) (py f N (2 * A - N) (2 * B - N)) (pz f N (2 * A - N) (2 * B - N)) N 6) (own5 f A B N) := by
  rcases f_cases h0 h6 with rfl | rfl | rfl | rfl | rfl | rfl
  · refine (List.Perm.of_eq (six ((tk_eq (c' := True) (g := 0) (U' := A) (V' := B) i_Np (u_wp (A := A)) (u_wp (A := B))).trans (if_T _)) (tk_eq (c' := A = N) (g := 1) (U' := 0) (V' := B) (i_wp (A := A)) u_Nn (u_wp (A := B))) (tk_eq (c' := B = N) (g := 2) (U' := 0) (V' := N - A) (i_wp (A := B)) u_Nn (u_wn (A := A))) ((tk_eq (c' := False) (g := 3) (U' := N - B) (V' := N - A) (i_Nn hN) (u_wn (A := B)) (u_wn (A := A))).trans (if_F _)) (tk_eq (c' := A = 0) (g := 4) (U' := N - B) (V' := N) (i_wn (A := A)) (u_wn (A := B)) u_Np) (tk_eq (c' := B = 0) (g := 5) (U' := A) (V' := N) (i_wn (A := B)) (u_wp (A := A)) u_Np))).trans ?_
    exact perm_f0 _ _ _ _ _
  · refine (List.Perm.of_eq (six (tk_eq (c' := A = 0) (g := 0) (U' := N) (V' := B) (i_wn (A := A)) u_Np (u_wp (A := B))) ((tk_eq (c' := True) (g := 1) (U' := A) (V' := B) i_Np (u_wq (A := A)) (u_wp (A := B))).trans (if_T _)) (tk_eq (c' := B = N) (g := 2) (U' := A) (V' := 0) (i_wp (A := B)) (u_wq (A := A)) u_Nn) (tk_eq (c' := A = N) (g := 3) (U' := N - B) (V' := 0) (i_wq (A := A)) (u_wn (A := B)) u_Nn) ((tk_eq (c' := False) (g := 4) (U' := N - B) (V' := N - A) (i_Nn hN) (u_wn (A := B)) (u_wn (A := A))).trans (if_F _)) (tk_eq (c' := B = 0) (g := 5) (U' := N) (V' := N - A) (i_wn (A := B)) u_Np (u_wn (A := A))))).trans ?_
    exact perm_f1 _ _ _ _ _
  · refine (List.Perm.of_eq (six (tk_eq (c' := A = 0) (g := 0) (U' := N - B) (V' := N) (i_wn (A := A)) (u_wn (A := B)) u_Np) (tk_eq (c' := B = 0) (g := 1) (U' := A) (V' := N) (i_wn (A := B)) (u_wq (A := A)) u_Np) ((tk_eq (c' := True) (g := 2) (U' := A) (V' := B) i_Np (u_wq (A := A)) (u_wq (A := B))).trans (if_T _)) (tk_eq (c' := A = N) (g := 3) (U' := 0) (V' := B) (i_wq (A := A)) u_Nn (u_wq (A := B))) (tk_eq (c' := B = N) (g := 4) (U' := 0) (V' := N - A) (i_wq (A := B)) u_Nn (u_wn (A := A))) ((tk_eq (c' := False) (g := 5) (U' := N - B) (V' := N - A) (i_Nn hN) (u_wn (A := B)) (u_wn (A := A))).trans (if_F _)))).trans ?_
    exact perm_f2 _ _ _ _ _
  · refine (List.Perm.of_eq (six ((tk_eq (c' := False) (g := 0) (U' := N - B) (V' := N - A) (i_Nn hN) (u_wn (A := B)) (u_wn (A := A))).trans (if_F _)) (tk_eq (c' := B = 0) (g := 1) (U' := N) (V' := N - A) (i_wn (A := B)) u_Nq (u_wn (A := A))) (tk_eq (c' := A = 0) (g := 2) (U' := N) (V' := B) (i_wn (A := A)) u_Nq (u_wq (A := B))) ((tk_eq (c' := True) (g := 3) (U' := A) (V' := B) i_Nq (u_wq (A := A)) (u_wq (A := B))).trans (if_T _)) (tk_eq (c' := B = N) (g := 4) (U' := A) (V' := 0) (i_wq (A := B)) (u_wq (A := A)) u_Nn) (tk_eq (c' := A = N) (g := 5) (U' := N - B) (V' := 0) (i_wq (A := A)) (u_wn (A := B)) u_Nn))).trans ?_
    exact perm_f3 _ _ _ _ _
  · refine (List.Perm.of_eq (six (tk_eq (c' := B = N) (g := 0) (U' := 0) (V' := N - A) (i_wp (A := B)) u_Nn (u_wn (A := A))) ((tk_eq (c' := False) (g := 1) (U' := N - B) (V' := N - A) (i_Nn hN) (u_wn (A := B)) (u_wn (A := A))).trans (if_F _)) (tk_eq (c' := A = 0) (g := 2) (U' := N - B) (V' := N) (i_wn (A := A)) (u_wn (A := B)) u_Nq) (tk_eq (c' := B = 0) (g := 3) (U' := A) (V' := N) (i_wn (A := B)) (u_wq (A := A)) u_Nq) ((tk_eq (c' := True) (g := 4) (U' := A) (V' := B) i_Nq (u_wq (A := A)) (u_wp (A := B))).trans (if_T _)) (tk_eq (c' := A = N) (g := 5) (U' := 0) (V' := B) (i_wq (A := A)) u_Nn (u_wp (A := B))))).trans ?_
    exact perm_f4 _ _ _ _ _
  · refine (List.Perm.of_eq (six (tk_eq (c' := B = N) (g := 0) (U' := A) (V' := 0) (i_wp (A := B)) (u_wp (A := A)) u_Nn) (tk_eq (c' := A = N) (g := 1) (U' := N - B) (V' := 0) (i_wp (A := A)) (u_wn (A := B)) u_Nn) ((tk_eq (c' := False) (g := 2) (U' := N - B) (V' := N - A) (i_Nn hN) (u_wn (A := B)) (u_wn (A := A))).trans (if_F _)) (tk_eq (c' := B = 0) (g := 3) (U' := N) (V' := N - A) (i_wn (A := B)) u_Nq (u_wn (A := A))) (tk_eq (c' := A = 0) (g := 4) (U' := N) (V' := B) (i_wn (A := A)) u_Nq (u_wp (A := B))) ((tk_eq (c' := True) (g := 5) (U' := A) (V' := B) i_Nq (u_wp (A := A)) (u_wp (A := B))).trans (if_T _)))).trans ?_
    exact perm_f5 _ _ _ _ _
section
variable {f N a b A B : Int}
/-- over the rims at (a, b), or nothing -/
def rm0 (f N a b : Int) : List (Int × Int × Int) := if a < 0 ∧ (0 ≤ b ∧ b < N) then [ovT f 0 0 (N - 1) b (N - 1 - b)] else []
def rm1 (f N a b : Int) : List (Int × Int × Int) := if N ≤ a ∧ (0 ≤ b ∧ b < N) then [ovT f 1 0 (N - 1) b (N - 1 - b)] else []
def rm2 (f N a b : Int) : List (Int × Int × Int) := if b < 0 ∧ (0 ≤ a ∧ a < N) then [ovT f 2 0 (N - 1) a (N - 1 - a)] else []
def rm3 (f N a b : Int) : List (Int × Int × Int) := if N ≤ b ∧ (0 ≤ a ∧ a < N) then [ovT f 3 0 (N - 1) a (N - 1 - a)] else []
/-- the cell at (a, b), no cell beyond a corner of the cube -/
def cl (f N a b : Int) : List (Int × Int × Int) := if (0 ≤ a ∧ a < N) ∨ (0 ≤ b ∧ b < N) then [cellAt f a b N] else []
theorem cl_split (hN : 0 < N) : cl f N a b = add1 N f a b ++ (rm0 f N a b ++ (rm1 f N a b ++ (rm2 f N a b ++ rm3 f N a b))) := by
  unfold cl cellAt add1 rm0 rm1 rm2 rm3
  by_cases h0 : a < 0
  · by_cases q : 0 ≤ b ∧ b < N
    · rw [if_pos (.inr q), if_pos h0, if_neg (fun z => by omega), if_pos ⟨h0, q⟩, if_neg (fun z => by omega), if_neg (fun z => by omega), if_neg (fun z => by omega)]; rfl
    · rw [if_neg (fun z => z.elim (fun z => by omega) q), if_neg (fun z => q z.2), if_neg (fun z => q z.2), if_neg (fun z => q z.2), if_neg (fun z => by omega), if_neg (fun z => by omega)]; rfl
  · by_cases h1 : N ≤ a
    · by_cases q : 0 ≤ b ∧ b < N
      · rw [if_pos (.inr q), if_neg h0, if_pos h1, if_neg (fun z => by omega), if_neg (fun z => h0 z.1), if_pos ⟨h1, q⟩, if_neg (fun z => by omega), if_neg (fun z => by omega)]; rfl
      · rw [if_neg (fun z => z.elim (fun z => by omega) q), if_neg (fun z => q z.2), if_neg (fun z => q z.2), if_neg (fun z => q z.2), if_neg (fun z => by omega), if_neg (fun z => by omega)]; rfl
    · have ha : 0 ≤ a ∧ a < N := ⟨Int.not_lt.mp h0, Int.not_le.mp h1⟩
      rw [if_pos (.inl ha), if_neg h0, if_neg h1, if_neg (c := a < 0 ∧ _) (fun z => h0 z.1), if_neg (c := N ≤ a ∧ _) (fun z => h1 z.1)]
      by_cases h2 : b < 0
      · rw [if_pos h2, if_neg (fun z => by omega), if_pos ⟨h2, ha⟩, if_neg (fun z => by omega)]; rfl
      · rw [if_neg h2, if_neg (c := b < 0 ∧ _) (fun z => h2 z.1)]
        by_cases h3 : N ≤ b
        · rw [if_pos h3, if_neg (fun z => by omega), if_pos ⟨h3, ha⟩]; rfl
        · rw [if_neg h3, if_pos ⟨ha, Int.not_lt.mp h2, Int.not_le.mp h3⟩, if_neg (fun z => h3 z.1)]; rfl
theorem add1_no {s f a b : Int} (h : ¬ ((0 ≤ a ∧ a < s) ∧ (0 ≤ b ∧ b < s))) : add1 s f a b = [] := if_neg h
theorem blk_four (s f i j : Int) : blkT s f i j 2 = (add1 s f (i - 1) (j - 1) ++ add1 s f (i - 1) j) ++ (add1 s f i (j - 1) ++ add1 s f i j) := by
  show ([] ++ ([] ++ _ ++ _)) ++ ([] ++ _ ++ _) = _
  rfl
theorem blk_VN (g U : Int) : blkT N g U N 2 = add1 N g (U - 1) (N - 1) ++ add1 N g U (N - 1) := by
  rw [blk_four, add1_no (a := U - 1) (b := N) (by omega), add1_no (a := U) (b := N) (by omega), List.append_nil, List.append_nil]
theorem blk_V0 (g U : Int) : blkT N g U 0 2 = add1 N g (U - 1) 0 ++ add1 N g U 0 := by
  rw [blk_four, add1_no (a := U - 1) (b := 0 - 1) (by omega), add1_no (a := U) (b := 0 - 1) (by omega)]; rfl
theorem blk_UN (g V : Int) : blkT N g N V 2 = add1 N g (N - 1) (V - 1) ++ add1 N g (N - 1) V := by
  rw [blk_four, add1_no (a := N) (b := V - 1) (by omega), add1_no (a := N) (b := V) (by omega), List.append_nil, List.append_nil]
theorem blk_U0 (g V : Int) : blkT N g 0 V 2 = add1 N g 0 (V - 1) ++ add1 N g 0 V := by
  rw [blk_four, add1_no (a := 0 - 1) (b := V - 1) (by omega), add1_no (a := 0 - 1) (b := V) (by omega)]; rfl
/-- two cells along a rim -/
def two (f N : Int) (s : Nat) (c : Int) : List (Int × Int × Int) := if 0 ≤ c ∧ c < N then [ovT f s 0 (N - 1) c (N - 1 - c)] else []
theorem add1_two {g x y : Int} {s : Nat} {c : Int} (h : ((0 ≤ x ∧ x < N) ∧ (0 ≤ y ∧ y < N)) ↔ (0 ≤ c ∧ c < N)) (e : (0 ≤ c ∧ c < N) → (g, x, y) = ovT f s 0 (N - 1) c (N - 1 - c)) : add1 N g x y = two f N s c := by
  unfold add1 two
  by_cases q : 0 ≤ c ∧ c < N
  · rw [if_pos q, if_pos (h.mpr q), e q]
  · rw [if_neg q, if_neg (fun z => q (h.mp z))]
theorem tri_c {g x y x' y' : Int} (hx : x = x') (hy : y = y') : (g, x, y) = (g, x', y') := by rw [hx, hy]
theorem fl1 {C : Int} : (0 ≤ N - C - 1 ∧ N - C - 1 < N) ↔ (0 ≤ C ∧ C < N) := by omega
theorem fl2 {C : Int} : (0 ≤ N - C ∧ N - C < N) ↔ (0 ≤ C - 1 ∧ C - 1 < N) := by omega
theorem fe1 {C : Int} : N - C - 1 = N - 1 - C := by omega
theorem fe2 {C : Int} : N - C = N - 1 - (C - 1) := by omega
theorem end0 (hN : 0 < N) : 0 ≤ (0 : Int) ∧ 0 < N := ⟨Int.le_refl 0, hN⟩
theorem end1 (hN : 0 < N) : 0 ≤ N - 1 ∧ N - 1 < N := by omega
theorem aX {g x y : Int} {s : Nat} {c : Int} (h : (0 ≤ x ∧ x < N) ↔ (0 ≤ c ∧ c < N)) (hy : 0 ≤ y ∧ y < N) (e : (g, x, y) = ovT f s 0 (N - 1) c (N - 1 - c)) : add1 N g x y = two f N s c := add1_two ⟨fun q => h.mp q.1, fun q => ⟨h.mpr q, hy⟩⟩ fun _ => e
theorem aY {g x y : Int} {s : Nat} {c : Int} (h : (0 ≤ y ∧ y < N) ↔ (0 ≤ c ∧ c < N)) (hx : 0 ≤ x ∧ x < N) (e : (g, x, y) = ovT f s 0 (N - 1) c (N - 1 - c)) : add1 N g x y = two f N s c := add1_two ⟨fun q => h.mp q.2, fun q => ⟨hx, h.mpr q⟩⟩ fun _ => e
theorem rim_s (hN : 0 < N) (C : Int) (s : Nat) : List.Perm (bk N (ovT f s 0 N C (N - C))) (two f N s (C - 1) ++ two f N s C) := by
  have e0 : ∀ {e : Int × Int × Int}, (if f % 2 = 0 then e else e) = e := by intro e; split <;> rfl
  unfold bk
  match s with
  | 0 =>
    by_cases p : f % 2 = 0
    · rw [show ovT f 0 0 N C (N - C) = ((f + 4) % 6, N - C, N) from if_pos p]
      show List.Perm (blkT N ((f + 4) % 6) (N - C) (N) 2) _
      rw [blk_VN, aX (f := f) (s := 0) (c := C) fl1 (end1 hN) ((tri_c fe1 rfl).trans (if_pos p).symm), aX (f := f) (s := 0) (c := C - 1) fl2 (end1 hN) ((tri_c fe2 rfl).trans (if_pos p).symm)]
      exact List.perm_append_comm
    · rw [show ovT f 0 0 N C (N - C) = ((f + 5) % 6, N, C) from if_neg p]
      show List.Perm (blkT N ((f + 5) % 6) (N) (C) 2) _
      rw [blk_UN, aY (f := f) (s := 0) (c := C - 1) Iff.rfl (end1 hN) ((tri_c rfl rfl).trans (if_neg p).symm), aY (f := f) (s := 0) (c := C) Iff.rfl (end1 hN) ((tri_c rfl rfl).trans (if_neg p).symm)]
  | 1 =>
    by_cases p : f % 2 = 0
    · rw [show ovT f 1 0 N C (N - C) = ((f + 1) % 6, 0, C) from if_pos p]
      show List.Perm (blkT N ((f + 1) % 6) (0) (C) 2) _
      rw [blk_U0, aY (f := f) (s := 1) (c := C - 1) Iff.rfl (end0 hN) ((tri_c rfl rfl).trans (if_pos p).symm), aY (f := f) (s := 1) (c := C) Iff.rfl (end0 hN) ((tri_c rfl rfl).trans (if_pos p).symm)]
    · rw [show ovT f 1 0 N C (N - C) = ((f + 2) % 6, N - C, 0) from if_neg p]
      show List.Perm (blkT N ((f + 2) % 6) (N - C) (0) 2) _
      rw [blk_V0, aX (f := f) (s := 1) (c := C) fl1 (end0 hN) ((tri_c fe1 rfl).trans (if_neg p).symm), aX (f := f) (s := 1) (c := C - 1) fl2 (end0 hN) ((tri_c fe2 rfl).trans (if_neg p).symm)]
      exact List.perm_append_comm
  | 2 =>
    by_cases p : f % 2 = 0
    · rw [show ovT f 2 0 N C (N - C) = ((f + 5) % 6, C, N) from if_pos p]
      show List.Perm (blkT N ((f + 5) % 6) (C) (N) 2) _
      rw [blk_VN, aX (f := f) (s := 2) (c := C - 1) Iff.rfl (end1 hN) ((tri_c rfl rfl).trans (if_pos p).symm), aX (f := f) (s := 2) (c := C) Iff.rfl (end1 hN) ((tri_c rfl rfl).trans (if_pos p).symm)]
    · rw [show ovT f 2 0 N C (N - C) = ((f + 4) % 6, N, N - C) from if_neg p]
      show List.Perm (blkT N ((f + 4) % 6) (N) (N - C) 2) _
      rw [blk_UN, aY (f := f) (s := 2) (c := C) fl1 (end1 hN) ((tri_c rfl fe1).trans (if_neg p).symm), aY (f := f) (s := 2) (c := C - 1) fl2 (end1 hN) ((tri_c rfl fe2).trans (if_neg p).symm)]
      exact List.perm_append_comm
  | k + 3 =>
    by_cases p : f % 2 = 0
    · rw [show ovT f (k + 3) 0 N C (N - C) = ((f + 2) % 6, 0, N - C) from if_pos p]
      show List.Perm (blkT N ((f + 2) % 6) (0) (N - C) 2) _
      rw [blk_U0, aY (f := f) (s := k + 3) (c := C) fl1 (end0 hN) ((tri_c rfl fe1).trans (if_pos p).symm), aY (f := f) (s := k + 3) (c := C - 1) fl2 (end0 hN) ((tri_c rfl fe2).trans (if_pos p).symm)]
      exact List.perm_append_comm
    · rw [show ovT f (k + 3) 0 N C (N - C) = ((f + 1) % 6, C, 0) from if_neg p]
      show List.Perm (blkT N ((f + 1) % 6) (C) (0) 2) _
      rw [blk_V0, aX (f := f) (s := k + 3) (c := C - 1) Iff.rfl (end0 hN) ((tri_c rfl rfl).trans (if_neg p).symm), aX (f := f) (s := k + 3) (c := C) Iff.rfl (end0 hN) ((tri_c rfl rfl).trans (if_neg p).symm)]
end
section
variable {f N a b A B : Int}
theorem if_and {α : Type} {p q : Prop} [Decidable p] [Decidable q] (l : List α) : (if p ∧ q then l else []) = if p then (if q then l else []) else [] := by
  by_cases h : p
  · by_cases h2 : q
    · rw [if_pos ⟨h, h2⟩, if_pos h, if_pos h2]
    · rw [if_neg (fun z => h2 z.2), if_pos h, if_neg h2]
  · rw [if_neg (fun z => h z.1), if_neg h]
/-- the rims at the corner (A, B): of the four cells about it two lie over each rim at which it is -/
theorem side4 {p q : Prop} [Decidable p] [Decidable q] {α : Type} {x y x' y' : List α} (hq : ¬ q) : (if p then x else []) ++ ((if p then y else []) ++ ((if q then x' else []) ++ if q then y' else [])) = if p then x ++ y else [] := by
  rw [if_neg hq, if_neg hq, List.append_nil, List.append_nil]
  by_cases h : p
  · rw [if_pos h, if_pos h, if_pos h]
  · rw [if_neg h, if_neg h, if_neg h]; rfl
theorem if_iff {α : Type} {p q : Prop} [Decidable p] [Decidable q] {l : List α} (h : p ↔ q) : (if p then l else []) = if q then l else [] := by
  by_cases z : q
  · rw [if_pos z, if_pos (h.mpr z)]
  · rw [if_neg z, if_neg fun y => z (h.mp y)]
theorem rm0_is (a b : Int) : rm0 f N a b = if a < 0 then two f N 0 b else [] := if_and _
theorem rm1_is (a b : Int) : rm1 f N a b = if N ≤ a then two f N 1 b else [] := if_and _
theorem rm2_is (a b : Int) : rm2 f N a b = if b < 0 then two f N 2 a else [] := if_and _
theorem rm3_is (a b : Int) : rm3 f N a b = if N ≤ b then two f N 3 a else [] := if_and _
theorem rm0_4 (hA : 0 ≤ A) : rm0 f N (A - 1) (B - 1) ++ (rm0 f N (A - 1) B ++ (rm0 f N A (B - 1) ++ rm0 f N A B)) = if A = 0 then two f N 0 (B - 1) ++ two f N 0 B else [] := by
  rw [rm0_is, rm0_is, rm0_is, rm0_is, side4 (by omega)]
  exact if_iff (by omega)
theorem rm1_4 (hA : A ≤ N) : rm1 f N A (B - 1) ++ (rm1 f N A B ++ (rm1 f N (A - 1) (B - 1) ++ rm1 f N (A - 1) B)) = if A = N then two f N 1 (B - 1) ++ two f N 1 B else [] := by
  rw [rm1_is, rm1_is, rm1_is, rm1_is, side4 (by omega)]
  exact if_iff (by omega)
theorem rm2_4 (hB : 0 ≤ B) : rm2 f N (A - 1) (B - 1) ++ (rm2 f N A (B - 1) ++ (rm2 f N (A - 1) B ++ rm2 f N A B)) = if B = 0 then two f N 2 (A - 1) ++ two f N 2 A else [] := by
  rw [rm2_is, rm2_is, rm2_is, rm2_is, side4 (by omega)]
  exact if_iff (by omega)
theorem rm3_4 (hB : B ≤ N) : rm3 f N (A - 1) B ++ (rm3 f N A B ++ (rm3 f N (A - 1) (B - 1) ++ rm3 f N A (B - 1))) = if B = N then two f N 3 (A - 1) ++ two f N 3 A else [] := by
  rw [rm3_is, rm3_is, rm3_is, rm3_is, side4 (by omega)]
  exact if_iff (by omega)
theorem if_perm {α : Type} {p : Prop} [Decidable p] {l l' : List α} (h : List.Perm l l') : List.Perm (if p then l else []) (if p then l' else []) := by
  by_cases q : p
  · rw [if_pos q, if_pos q]; exact h
  · rw [if_neg q, if_neg q]
/-- the cells at a corner are the four about it, but none beyond a corner of the cube -/
theorem own_cl (hN : 0 < N) (hA : 0 ≤ A ∧ A ≤ N) (hB : 0 ≤ B ∧ B ≤ N) : List.Perm (own5 f A B N) (cl f N (A - 1) (B - 1) ++ (cl f N (A - 1) B ++ (cl f N A (B - 1) ++ cl f N A B))) := by
  have e : bk N (f, A, B) = (add1 N f (A - 1) (B - 1) ++ add1 N f (A - 1) B) ++ (add1 N f A (B - 1) ++ add1 N f A B) := blk_four N f A B
  unfold own5
  rw [e, cl_split hN, cl_split hN, cl_split hN, cl_split hN]
  refine List.Perm.trans (List.Perm.append (List.Perm.refl _) (List.Perm.append (if_perm (rim_s hN B 0)) (List.Perm.append (if_perm (rim_s hN B 1)) (List.Perm.append (if_perm (rim_s hN A 2)) (if_perm (rim_s hN A 3)))))) ?_
  rw [← rm0_4 hA.1, ← rm1_4 hA.2, ← rm2_4 hB.1, ← rm3_4 hB.2]
  exact List.perm_iff_count.mpr fun x => by simp only [List.count_append]; omega
/-- what _law_touching tells at the corner (A, B) of face f -/
theorem tch_cl (h0 : 0 ≤ f) (h6 : f < 6) (hN : 0 < N) (hA : 0 ≤ A ∧ A ≤ N) (hB : 0 ≤ B ∧ B ≤ N) : List.Perm (tch (px f N (2 * A - N) (2 * B - N)) (py f N (2 * A - N) (2 * B - N)) (pz f N (2 * A - N) (2 * B - N)) N 6) (cl f N (A - 1) (B - 1) ++ (cl f N (A - 1) B ++ (cl f N A (B - 1) ++ cl f N A B))) :=
  (tch_own h0 h6 hN).trans (own_cl hN hA hB)
end
/-- where the middle leaf of a cell lies in the cell of a lesser level -/
theorem leaf_at {i m l q I a : Int} (h0 : 0 ≤ q) (h1 : q ≤ l) (h2 : l ≤ 28) (hm : 2 * m = 2 ^ (30 - l).toNat ∨ 2 * m + 2 = 2 ^ (30 - l).toNat) (hI : I = 2 ^ (30 - l).toNat * i + m) (ha : a = i / 2 ^ (l - q).toNat) :
    2 ^ (30 - q).toNat * a + 1 ≤ I ∧ I + 2 ≤ 2 ^ (30 - q).toNat * a + 2 ^ (30 - q).toNat := by
  have e : (2 : Int) ^ (30 - q).toNat = 2 ^ (30 - l).toNat * 2 ^ (l - q).toNat := by rw [← pw_add]; congr 1; omega
  have h4 : (4 : Int) ≤ 2 ^ (30 - l).toNat := by
    have e4 : (2 : Int) ^ (30 - l).toNat = 4 * 2 ^ (28 - l).toNat := by rw [show (30 - l).toNat = 2 + (28 - l).toNat by omega, pw_add]; rfl
    have := pw (28 - l).toNat
    omega
  obtain ⟨x, hx⟩ : ∃ x, i = 2 ^ (l - q).toNat * a + x ∧ 0 ≤ x ∧ x < 2 ^ (l - q).toNat := ⟨i % 2 ^ (l - q).toNat, by rw [ha, Int.mul_ediv_add_emod], Int.emod_nonneg _ (Int.ne_of_gt (pw _)), Int.emod_lt_of_pos _ (pw _)⟩
  obtain ⟨hx, hx0, hx1⟩ := hx
  have s : (2 : Int) ^ (30 - l).toNat * i = 2 ^ (30 - q).toNat * a + 2 ^ (30 - l).toNat * x := by rw [hx, Int.mul_add, e, Int.mul_assoc]
  have b0 := Int.mul_nonneg (Int.le_of_lt (pw (30 - l).toNat)) hx0
  have b1 := Int.mul_le_mul_of_nonneg_left (show x + 1 ≤ 2 ^ (l - q).toNat from hx1) (Int.le_of_lt (pw (30 - l).toNat))
  rw [← e, Int.mul_add, Int.mul_one] at b1
  rw [hI, s]
  omega
theorem p4s {α : Type} (A B X : List α) : List.Perm (A ++ (B ++ X)) (B ++ (A ++ X)) := by
  rw [← List.append_assoc, ← List.append_assoc]
  exact List.perm_append_comm.append_right X
theorem p4t {α : Type} (A B C : List α) : List.Perm (A ++ (B ++ C)) (C ++ (B ++ A)) :=
  (p4s A B C).trans ((List.Perm.append (List.Perm.refl B) List.perm_append_comm).trans (p4s B C A))
theorem p4a {α : Type} (A B C D : List α) : List.Perm (A ++ (B ++ (C ++ D))) (D ++ (B ++ (C ++ A))) :=
  (p4s A B _).trans ((List.Perm.append (List.Perm.refl B) (p4t A C D)).trans (p4s B D _))
theorem p4b {α : Type} (A B C D : List α) : List.Perm (A ++ (B ++ (C ++ D))) (B ++ (D ++ (A ++ C))) :=
  (p4s A B _).trans (List.Perm.append (List.Perm.refl B) ((List.Perm.append (List.Perm.refl A) List.perm_append_comm).trans (p4s A D C)))
theorem p4c {α : Type} (A B C D : List α) : List.Perm (A ++ (B ++ (C ++ D))) (C ++ (A ++ (D ++ B))) :=
  (List.Perm.append (List.Perm.refl A) (p4s B C D)).trans ((p4s A C _).trans (List.Perm.append (List.Perm.refl C) (List.Perm.append (List.Perm.refl A) List.perm_append_comm)))
theorem na_iff {N u : Int} (hu : -N ≤ u ∧ u ≤ N) : ((u.natAbs : Int) = N ↔ (u = N ∨ u = -N)) ∧ (u.natAbs : Int) ≤ N := by omega
theorem in_face {S N I a : Int} (hSN : S * N = 1073741824) (hS : 0 < S) (i1 : S * a + 1 ≤ I) (i2 : I + 2 ≤ S * a + S) : (0 ≤ I ↔ 0 ≤ a) ∧ (I < 1073741824 ↔ a < N) := by
  refine ⟨⟨fun h => ?_, fun h => ?_⟩, ⟨fun h => ?_, fun h => ?_⟩⟩
  · exact Int.not_lt.mp fun z => absurd h (Int.not_le.mpr (neg_side hS z i2))
  · have := Int.mul_nonneg (Int.le_of_lt hS) h; omega
  · exact Int.not_le.mp fun z => absurd h (Int.not_lt.mpr (big_side hSN hS z i1))
  · have := Int.mul_le_mul_of_nonneg_left (show a + 1 ≤ N from h) (Int.le_of_lt hS)
    rw [Int.mul_add, Int.mul_one] at this
    omega
/-- the sizes of a level -/
structure Lev (q S N : Int) : Prop where
  q0 : 0 ≤ q
  q30 : q ≤ 30
  hS : (2 : Int) ^ (30 - q).toNat = S
  hN : (2 : Int) ^ q.toNat = N
theorem Lev.S0 {q S N : Int} (v : Lev q S N) : 0 < S := v.hS ▸ pw _
theorem Lev.mul {q S N : Int} (v : Lev q S N) : S * N = 1073741824 := by
  have h0 := v.q0
  have h1 := v.q30
  rw [← v.hS, ← v.hN, ← pw_add, show (30 - q).toNat + q.toNat = 30 by omega]; decide
/-- a leaf of the cell (a, b) of a side of N cells, no end of it -/
structure In2 (S a b I J : Int) : Prop where
  i1 : S * a + 1 ≤ I
  i2 : I + 2 ≤ S * a + S
  j1 : S * b + 1 ≤ J
  j2 : J + 2 ≤ S * b + S
theorem same_lev {f I J a b S N q : Int} {b9 : Bool} (v : Lev q S N) (h0 : 0 ≤ f) (h6 : f < 6) (z : In2 S a b I J) (hx : (0 ≤ a ∧ a < N) ∨ (0 ≤ b ∧ b < N)) (hb : b9 = true → (0 ≤ a ∧ a < N) ∧ 0 ≤ b ∧ b < N) :
    fpl (sF b9 f I J) (sI b9 f I J) (sJ b9 f I J) 30 / 2 ^ (2 * (30 - q)).toNat = fplT (cellAt f a b N) q.toNat := same_fpl v.q0 v.q30 v.hS v.hN h0 h6 z.i1 z.i2 z.j1 z.j2 hx hb
theorem fpl_rng {f i j l : Int} (hf0 : 0 ≤ f) (hf6 : f < 6) (h0 : 0 ≤ l) : 0 ≤ fpl f i j l.toNat ∧ fpl f i j l.toNat < 6 * 2 ^ (2 * l).toNat := by
  have h := fpl_bounds (i := i) (j := j) l.toNat hf0 hf6
  rwa [four_two, show 2 * l.toNat = (2 * l).toNat by omega] at h
theorem cell_in {f a b N : Int} (ha : 0 ≤ a ∧ a < N) (hb : 0 ≤ b ∧ b < N) : cellAt f a b N = (f, a, b) := by
  unfold cellAt
  rw [if_neg (Int.not_lt.mpr ha.1), if_neg (Int.not_le.mpr ha.2), if_neg (Int.not_lt.mpr hb.1), if_neg (Int.not_le.mpr hb.2)]
section
variable {f I J q a b a1 b1 N S X Y : Int} (v : Lev q S N) (h0 : 0 ≤ f) (h6 : f < 6) (z : In2 S a b I J) (ha : 0 ≤ a ∧ a < N) (hb : 0 ≤ b ∧ b < N) (wi : (X ≠ 0 → a1 = a + 1) ∧ (X = 0 → a1 = a - 1)) (wj : (Y ≠ 0 → b1 = b + 1) ∧ (Y = 0 → b1 = b - 1))
include v h0 h6 z ha hb wi wj
end
theorem pxyz_le {f s u v : Int} {b : Nat} (h0 : 0 ≤ f) (h6 : f < 6) (hs : s.natAbs < b) (hu : u.natAbs < b) (hv : v.natAbs < b) : ((px f s u v).natAbs < b ∧ (py f s u v).natAbs < b) ∧ (pz f s u v).natAbs < b := by
  have hs' : (-s).natAbs < b := by rwa [Int.natAbs_neg]
  have hu' : (-u).natAbs < b := by rwa [Int.natAbs_neg]
  have hv' : (-v).natAbs < b := by rwa [Int.natAbs_neg]
  rcases f_cases h0 h6 with rfl | rfl | rfl | rfl | rfl | rfl
  · exact ⟨⟨hs, hu⟩, hv⟩
  · exact ⟨⟨hu', hs⟩, hv⟩
  · exact ⟨⟨hu', hv'⟩, hs⟩
  · exact ⟨⟨hs', hv'⟩, hu'⟩
  · exact ⟨⟨hv, hs'⟩, hu'⟩
  · exact ⟨⟨hv, hu⟩, hs'⟩
theorem rim_iff {a r a1 N : Int} (ha : 0 ≤ a ∧ a < N) (h : (r = 0 ∧ a1 = a - 1) ∨ (r = 1 ∧ a1 = a + 1)) : (2 * (a + r) - N = N ∨ 2 * (a + r) - N = -N) ↔ ¬ (0 ≤ a1 ∧ a1 < N) := by omega
/-- the face of the cell at (x, y), by the side that it lies over -/
def fcI (f : Int) (s : Nat) : Int := match s with
  | 0 => if f % 2 = 0 then (f + 4) % 6 else (f + 5) % 6
  | 1 => if f % 2 = 0 then (f + 1) % 6 else (f + 2) % 6
  | 2 => if f % 2 = 0 then (f + 5) % 6 else (f + 4) % 6
  | 3 => if f % 2 = 0 then (f + 2) % 6 else (f + 1) % 6
  | _ => f
theorem fcI_key : ∀ f : Fin 6, ∀ s t : Fin 5, fcI (f.1 : Int) s.1 = fcI (f.1 : Int) t.1 → s = t := by decide +kernel
theorem fcI_inj {f : Int} {s t : Nat} (h0 : 0 ≤ f) (h6 : f < 6) (hs : s < 5) (ht : t < 5) (h : fcI f s = fcI f t) : s = t := by
  obtain ⟨n, rfl⟩ := Int.eq_ofNat_of_zero_le h0
  exact congrArg Fin.val (fcI_key ⟨n, Int.ofNat_lt.mp h6⟩ ⟨s, hs⟩ ⟨t, ht⟩ h)
theorem ovT_face (f lo hi c d : Int) : ((ovT f 0 lo hi c d).1 = fcI f 0 ∧ (ovT f 1 lo hi c d).1 = fcI f 1) ∧ (ovT f 2 lo hi c d).1 = fcI f 2 ∧ (ovT f 3 lo hi c d).1 = fcI f 3 := by
  unfold ovT fcI
  by_cases h : f % 2 = 0
  · simp only [if_pos h]; exact ⟨⟨trivial, trivial⟩, trivial, trivial⟩
  · simp only [if_neg h]; exact ⟨⟨trivial, trivial⟩, trivial, trivial⟩
/-- a place about the face: inside, or over one side -/
def Dm (N x y : Int) : Prop := ((-1 ≤ x ∧ x ≤ N) ∧ (-1 ≤ y ∧ y ≤ N)) ∧ ((0 ≤ x ∧ x < N) ∨ (0 ≤ y ∧ y < N))
section
variable {f N x y : Int}
theorem at_0 (h : x < 0) : cellAt f x y N = ovT f 0 0 (N - 1) y (N - 1 - y) := if_pos h
theorem at_1 (hN : 0 < N) (h : N ≤ x) : cellAt f x y N = ovT f 1 0 (N - 1) y (N - 1 - y) := (if_neg (Int.not_lt.mpr (Int.le_trans (Int.le_of_lt hN) h))).trans (if_pos h)
theorem at_2 (hx : 0 ≤ x) (hx2 : x < N) (h : y < 0) : cellAt f x y N = ovT f 2 0 (N - 1) x (N - 1 - x) := (if_neg (Int.not_lt.mpr hx)).trans ((if_neg (Int.not_le.mpr hx2)).trans (if_pos h))
theorem at_3 (hN : 0 < N) (hx : 0 ≤ x) (hx2 : x < N) (h : N ≤ y) : cellAt f x y N = ovT f 3 0 (N - 1) x (N - 1 - x) := (if_neg (Int.not_lt.mpr hx)).trans ((if_neg (Int.not_le.mpr hx2)).trans ((if_neg (Int.not_lt.mpr (Int.le_trans (Int.le_of_lt hN) h))).trans (if_pos h)))
/-- the five ways that a place lies -/
theorem dm_cases (d : Dm N x y) : (x = -1 ∧ (0 ≤ y ∧ y < N)) ∨ (x = N ∧ (0 ≤ y ∧ y < N)) ∨ (y = -1 ∧ (0 ≤ x ∧ x < N)) ∨ (y = N ∧ (0 ≤ x ∧ x < N)) ∨ ((0 ≤ x ∧ x < N) ∧ (0 ≤ y ∧ y < N)) := by
  unfold Dm at d; omega
end
theorem ov_inj {f N c c' : Int} (s : Nat) (h : ovT f s 0 (N - 1) c (N - 1 - c) = ovT f s 0 (N - 1) c' (N - 1 - c')) : c = c' := by
  have e : ∀ {a b : Int}, N - 1 - a = N - 1 - b → a = b := fun h => by omega
  have k : ∀ {a b u v u' v' : Int}, (a, u, v) = (b, u', v') → u = u' ∧ v = v' := fun h => ⟨congrArg (fun t => t.2.1) h, congrArg (fun t => t.2.2) h⟩
  unfold ovT at h
  rcases s with _ | _ | _ | s <;> by_cases hf : f % 2 = 0
  · simp only [if_pos hf] at h; exact e (k h).1
  · simp only [if_neg hf] at h; exact (k h).2
  · simp only [if_pos hf] at h; exact (k h).2
  · simp only [if_neg hf] at h; exact e (k h).1
  · simp only [if_pos hf] at h; exact (k h).1
  · simp only [if_neg hf] at h; exact e (k h).2
  · simp only [if_pos hf] at h; exact e (k h).2
  · simp only [if_neg hf] at h; exact (k h).1
/-- where a place lies, with the face there -/
theorem dm_at {f N x y : Int} (hN : 0 < N) (d : Dm N x y) : ∃ s, s < 5 ∧ (cellAt f x y N).1 = fcI f s ∧
    ((s = 0 ∧ x = -1 ∧ cellAt f x y N = ovT f 0 0 (N - 1) y (N - 1 - y)) ∨ (s = 1 ∧ x = N ∧ cellAt f x y N = ovT f 1 0 (N - 1) y (N - 1 - y)) ∨ (s = 2 ∧ y = -1 ∧ cellAt f x y N = ovT f 2 0 (N - 1) x (N - 1 - x)) ∨ (s = 3 ∧ y = N ∧ cellAt f x y N = ovT f 3 0 (N - 1) x (N - 1 - x)) ∨ (s = 4 ∧ cellAt f x y N = (f, x, y))) := by
  rcases dm_cases d with ⟨h, hy⟩ | ⟨h, hy⟩ | ⟨h, hx⟩ | ⟨h, hx⟩ | ⟨hx, hy⟩
  · have e := at_0 (f := f) (N := N) (y := y) (x := x) (by omega)
    exact ⟨0, by decide, by rw [e]; exact (ovT_face ..).1.1, .inl ⟨rfl, h, e⟩⟩
  · have e := at_1 (f := f) (y := y) (x := x) hN (by omega)
    exact ⟨1, by decide, by rw [e]; exact (ovT_face ..).1.2, .inr (.inl ⟨rfl, h, e⟩)⟩
  · have e := at_2 (f := f) (y := y) hx.1 hx.2 (by omega)
    exact ⟨2, by decide, by rw [e]; exact (ovT_face ..).2.1, .inr (.inr (.inl ⟨rfl, h, e⟩))⟩
  · have e := at_3 (f := f) (y := y) hN hx.1 hx.2 (by omega)
    exact ⟨3, by decide, by rw [e]; exact (ovT_face ..).2.2, .inr (.inr (.inr (.inl ⟨rfl, h, e⟩)))⟩
  · have e := cell_in (f := f) hx hy
    exact ⟨4, by decide, by rw [e]; rfl, .inr (.inr (.inr (.inr ⟨rfl, e⟩)))⟩
/-- no two places about a face hold the same cell -/
theorem cellAt_inj {f N x y x' y' : Int} (h0 : 0 ≤ f) (h6 : f < 6) (hN : 0 < N) (d : Dm N x y) (d' : Dm N x' y') (h : cellAt f x y N = cellAt f x' y' N) : x = x' ∧ y = y' := by
  obtain ⟨s, hs, e, c⟩ := dm_at (f := f) hN d
  obtain ⟨s', hs', e', c'⟩ := dm_at (f := f) hN d'
  have hss := fcI_inj h0 h6 hs hs' (e.symm.trans ((congrArg Prod.fst h).trans e'))
  subst hss
  rcases c with ⟨q, a, b⟩ | ⟨q, a, b⟩ | ⟨q, a, b⟩ | ⟨q, a, b⟩ | ⟨q, b⟩ <;> rcases c' with ⟨q', a', b'⟩ | ⟨q', a', b'⟩ | ⟨q', a', b'⟩ | ⟨q', a', b'⟩ | ⟨q', b'⟩ <;> (first | (rw [q] at q'; cases q') | skip)
  · exact ⟨a.trans a'.symm, ov_inj 0 (b.symm.trans (h.trans b'))⟩
  · exact ⟨a.trans a'.symm, ov_inj 1 (b.symm.trans (h.trans b'))⟩
  · exact ⟨ov_inj 2 (b.symm.trans (h.trans b')), a.trans a'.symm⟩
  · exact ⟨ov_inj 3 (b.symm.trans (h.trans b')), a.trans a'.symm⟩
  · have z := b.symm.trans (h.trans b')
    exact ⟨congrArg (fun t => t.2.1) z, congrArg (fun t => t.2.2) z⟩
/-- the cells about a corner -/
def quad (f N A B : Int) : List (Int × Int × Int) := cl f N (A - 1) (B - 1) ++ (cl f N (A - 1) B ++ (cl f N A (B - 1) ++ cl f N A B))
/-- what the law takes at an edge -/
def bothL (some l : List (Int × Int × Int)) (self : Int × Int × Int) : List (Int × Int × Int) := l.filter fun t => decide (t ∈ some) && decide (t ≠ self)
theorem mem_cl {f N x y : Int} {t : Int × Int × Int} : t ∈ cl f N x y ↔ ((0 ≤ x ∧ x < N) ∨ (0 ≤ y ∧ y < N)) ∧ t = cellAt f x y N := by
  unfold cl
  by_cases h : (0 ≤ x ∧ x < N) ∨ (0 ≤ y ∧ y < N)
  · rw [if_pos h, List.mem_singleton]; exact ⟨fun e => ⟨h, e⟩, fun e => e.2⟩
  · rw [if_neg h]; exact ⟨fun e => absurd e List.not_mem_nil, fun e => absurd e.1 h⟩
section
variable {f N A B : Int} (h0 : 0 ≤ f) (h6 : f < 6) (hN : 0 < N) (hA : 0 ≤ A ∧ A ≤ N) (hB : 0 ≤ B ∧ B ≤ N)
theorem dm_near {x y : Int} (hA : 0 ≤ A ∧ A ≤ N) (hB : 0 ≤ B ∧ B ≤ N) (hx : x = A - 1 ∨ x = A) (hy : y = B - 1 ∨ y = B) (h : (0 ≤ x ∧ x < N) ∨ (0 ≤ y ∧ y < N)) : Dm N x y :=
  ⟨⟨by omega, by omega⟩, h⟩
include h0 h6 hN hA hB in
theorem mem_quad {x y : Int} (d : Dm N x y) : cellAt f x y N ∈ quad f N A B ↔ (x = A - 1 ∨ x = A) ∧ (y = B - 1 ∨ y = B) := by
  unfold quad
  simp only [List.mem_append, mem_cl]
  constructor
  · rintro (⟨h, e⟩ | ⟨h, e⟩ | ⟨h, e⟩ | ⟨h, e⟩)
    · have z := cellAt_inj h0 h6 hN d (dm_near hA hB (.inl rfl) (.inl rfl) h) e
      exact ⟨.inl z.1, .inl z.2⟩
    · have z := cellAt_inj h0 h6 hN d (dm_near hA hB (.inl rfl) (.inr rfl) h) e
      exact ⟨.inl z.1, .inr z.2⟩
    · have z := cellAt_inj h0 h6 hN d (dm_near hA hB (.inr rfl) (.inl rfl) h) e
      exact ⟨.inr z.1, .inl z.2⟩
    · have z := cellAt_inj h0 h6 hN d (dm_near hA hB (.inr rfl) (.inr rfl) h) e
      exact ⟨.inr z.1, .inr z.2⟩
  · rintro ⟨rfl | rfl, rfl | rfl⟩
    · exact .inl ⟨d.2, rfl⟩
    · exact .inr (.inl ⟨d.2, rfl⟩)
    · exact .inr (.inr (.inl ⟨d.2, rfl⟩))
    · exact .inr (.inr (.inr ⟨d.2, rfl⟩))
end
/-- the cells about one corner that lie about another one too, but for the cell itself -/
theorem both_quad {f N A B i j : Int} (h0 : 0 ≤ f) (h6 : f < 6) (hN : 0 < N) (hA : 0 ≤ A ∧ A ≤ N) (hB : 0 ≤ B ∧ B ≤ N) (hi : 0 ≤ i ∧ i < N) (hj : 0 ≤ j ∧ j < N) {x y : Int} (hx : -1 ≤ x ∧ x ≤ N) (hy : -1 ≤ y ∧ y ≤ N) :
    bothL (quad f N A B) (cl f N x y) (f, i, j) = if ((0 ≤ x ∧ x < N) ∨ (0 ≤ y ∧ y < N)) ∧ ((x = A - 1 ∨ x = A) ∧ (y = B - 1 ∨ y = B)) ∧ ¬ (x = i ∧ y = j) then [cellAt f x y N] else [] := by
  by_cases h : (0 ≤ x ∧ x < N) ∨ (0 ≤ y ∧ y < N)
  · have d : Dm N x y := ⟨⟨hx, hy⟩, h⟩
    have di : Dm N i j := ⟨⟨⟨by omega, by omega⟩, by omega, by omega⟩, .inl hi⟩
    have e := mem_quad h0 h6 hN hA hB d
    have es : cellAt f x y N = (f, i, j) ↔ (x = i ∧ y = j) := by
      rw [← cell_in (f := f) hi hj]
      exact ⟨fun z => cellAt_inj h0 h6 hN d di z, fun z => by rw [z.1, z.2]⟩
    have q : ((fun t => decide (t ∈ quad f N A B) && decide (t ≠ (f, i, j))) (cellAt f x y N) = true) ↔ ((x = A - 1 ∨ x = A) ∧ (y = B - 1 ∨ y = B)) ∧ ¬ (x = i ∧ y = j) := by
      show (decide (cellAt f x y N ∈ quad f N A B) && decide (cellAt f x y N ≠ (f, i, j))) = true ↔ _
      rw [Bool.and_eq_true, decide_eq_true_eq, decide_eq_true_eq]
      exact ⟨fun z => ⟨e.mp z.1, fun g => z.2 (es.mpr g)⟩, fun z => ⟨e.mpr z.1, fun g => z.2 (es.mp g)⟩⟩
    unfold bothL cl
    rw [if_pos h]
    by_cases g : ((x = A - 1 ∨ x = A) ∧ (y = B - 1 ∨ y = B)) ∧ ¬ (x = i ∧ y = j)
    · rw [if_pos ⟨h, g⟩, List.filter_cons_of_pos (p := fun t => decide (t ∈ quad f N A B) && decide (t ≠ (f, i, j))) (q.mpr g), List.filter_nil]
    · rw [if_neg fun z => g z.2, List.filter_cons_of_neg (p := fun t => decide (t ∈ quad f N A B) && decide (t ≠ (f, i, j))) (fun z => g (q.mp z)), List.filter_nil]
  · unfold bothL cl
    rw [if_neg h, if_neg fun z => h z.1]
    rfl
theorem both_app (s l l' : List (Int × Int × Int)) (t : Int × Int × Int) : bothL s (l ++ l') t = bothL s l t ++ bothL s l' t := List.filter_append ..
theorem both_perm {s s' l l' : List (Int × Int × Int)} {t : Int × Int × Int} (hs : List.Perm s s') (hl : List.Perm l l') : List.Perm (bothL s l t) (bothL s' l' t) := by
  unfold bothL
  have e : (fun u => decide (u ∈ s) && decide (u ≠ t)) = fun u => decide (u ∈ s') && decide (u ≠ t) := funext fun u => by rw [decide_eq_decide.mpr hs.mem_iff]
  rw [e]
  exact hl.filter _
theorem perm_one {α : Type} {l : List α} {a : α} (h : List.Perm l [a]) : l = [a] := List.perm_singleton.mp h
/-- the corners of a cell, in the law's sequence, and its neighbours over the edges behind them -/
def cnA (i : Int) (e : Nat) : Int := match e with | 1 => i + 1 | 2 => i + 1 | _ => i
def cnB (j : Int) (e : Nat) : Int := match e with | 2 => j + 1 | 3 => j + 1 | _ => j
def nbE (f i j N : Int) (e : Nat) : Int × Int × Int := match e with
  | 0 => cellAt f i (j - 1) N
  | 1 => cellAt f (i + 1) j N
  | 2 => cellAt f i (j + 1) N
  | _ => cellAt f (i - 1) j N
theorem both_edge {f N i j : Int} (h0 : 0 ≤ f) (h6 : f < 6) (hN : 0 < N) (hi : 0 ≤ i ∧ i < N) (hj : 0 ≤ j ∧ j < N) (e : Nat) (he : e < 4) :
    bothL (quad f N (cnA i e) (cnB j e)) (quad f N (cnA i ((e + 1) % 4)) (cnB j ((e + 1) % 4))) (f, i, j) = [nbE f i j N e] := by
  unfold quad
  rcases e with _ | _ | _ | _ | e
  · show bothL (quad f N i j) (cl f N (i + 1 - 1) (j - 1) ++ (cl f N (i + 1 - 1) j ++ (cl f N (i + 1) (j - 1) ++ cl f N (i + 1) j))) (f, i, j) = [cellAt f i (j - 1) N]
    rw [Int.add_sub_cancel]
    simp only [both_app]
    rw [both_quad h0 h6 hN (by omega) (by omega) hi hj (by omega) (by omega), both_quad h0 h6 hN (by omega) (by omega) hi hj (by omega) (by omega), both_quad h0 h6 hN (by omega) (by omega) hi hj (by omega) (by omega), both_quad h0 h6 hN (by omega) (by omega) hi hj (by omega) (by omega)]
    rw [if_pos (by omega), if_neg (by omega), if_neg (by omega), if_neg (by omega)]
    rfl
  · show bothL (quad f N (i + 1) j) (cl f N (i + 1 - 1) (j + 1 - 1) ++ (cl f N (i + 1 - 1) (j + 1) ++ (cl f N (i + 1) (j + 1 - 1) ++ cl f N (i + 1) (j + 1)))) (f, i, j) = [cellAt f (i + 1) j N]
    rw [Int.add_sub_cancel, Int.add_sub_cancel]
    simp only [both_app]
    rw [both_quad h0 h6 hN (by omega) (by omega) hi hj (by omega) (by omega), both_quad h0 h6 hN (by omega) (by omega) hi hj (by omega) (by omega), both_quad h0 h6 hN (by omega) (by omega) hi hj (by omega) (by omega), both_quad h0 h6 hN (by omega) (by omega) hi hj (by omega) (by omega)]
    rw [if_neg (by omega), if_neg (by omega), if_pos (by omega), if_neg (by omega)]
    rfl
  · show bothL (quad f N (i + 1) (j + 1)) (cl f N (i - 1) (j + 1 - 1) ++ (cl f N (i - 1) (j + 1) ++ (cl f N i (j + 1 - 1) ++ cl f N i (j + 1)))) (f, i, j) = [cellAt f i (j + 1) N]
    rw [Int.add_sub_cancel]
    simp only [both_app]
    rw [both_quad h0 h6 hN (by omega) (by omega) hi hj (by omega) (by omega), both_quad h0 h6 hN (by omega) (by omega) hi hj (by omega) (by omega), both_quad h0 h6 hN (by omega) (by omega) hi hj (by omega) (by omega), both_quad h0 h6 hN (by omega) (by omega) hi hj (by omega) (by omega)]
    rw [if_neg (by omega), if_neg (by omega), if_neg (by omega), if_pos (by omega)]
    rfl
  · show bothL (quad f N i (j + 1)) (cl f N (i - 1) (j - 1) ++ (cl f N (i - 1) j ++ (cl f N i (j - 1) ++ cl f N i j))) (f, i, j) = [cellAt f (i - 1) j N]
    simp only [both_app]
    rw [both_quad h0 h6 hN (by omega) (by omega) hi hj (by omega) (by omega), both_quad h0 h6 hN (by omega) (by omega) hi hj (by omega) (by omega), both_quad h0 h6 hN (by omega) (by omega) hi hj (by omega) (by omega), both_quad h0 h6 hN (by omega) (by omega) hi hj (by omega) (by omega)]
    rw [if_neg (by omega), if_pos (by omega), if_neg (by omega), if_neg (by omega)]
    rfl
  · exact absurd he (by omega)
/-- the law's list at an edge is just the neighbour there -/
theorem both_tch {f N i j : Int} (h0 : 0 ≤ f) (h6 : f < 6) (hN : 0 < N) (hi : 0 ≤ i ∧ i < N) (hj : 0 ≤ j ∧ j < N) (e : Nat) (he : e < 4) :
    bothL (tch (px f N (2 * cnA i e - N) (2 * cnB j e - N)) (py f N (2 * cnA i e - N) (2 * cnB j e - N)) (pz f N (2 * cnA i e - N) (2 * cnB j e - N)) N 6)
      (tch (px f N (2 * cnA i ((e + 1) % 4) - N) (2 * cnB j ((e + 1) % 4) - N)) (py f N (2 * cnA i ((e + 1) % 4) - N) (2 * cnB j ((e + 1) % 4) - N)) (pz f N (2 * cnA i ((e + 1) % 4) - N) (2 * cnB j ((e + 1) % 4) - N)) N 6) (f, i, j) = [nbE f i j N e] := by
  have ra : ∀ e, 0 ≤ cnA i e ∧ cnA i e ≤ N := fun e => by unfold cnA; split <;> omega
  have rb : ∀ e, 0 ≤ cnB j e ∧ cnB j e ≤ N := fun e => by unfold cnB; split <;> omega
  have h := both_perm (t := (f, i, j)) (tch_cl h0 h6 hN (ra e) (rb e)) (tch_cl h0 h6 hN (ra ((e + 1) % 4)) (rb ((e + 1) % 4)))
  exact perm_one (h.trans (List.Perm.of_eq (both_edge h0 h6 hN hi hj e he)))
section
variable {f N i j : Int}
theorem nb_s0 (hi : i = 0) : nbE f i j N 3 = ovT f 0 0 (N - 1) j (N - 1 - j) := at_0 (by omega)
theorem nb_s1 (hN : 0 < N) (hi : i = N - 1) : nbE f i j N 1 = ovT f 1 0 (N - 1) j (N - 1 - j) := at_1 hN (by omega)
theorem nb_s2 (hx : 0 ≤ i ∧ i < N) (hj : j = 0) : nbE f i j N 0 = ovT f 2 0 (N - 1) i (N - 1 - i) := at_2 hx.1 hx.2 (by omega)
theorem nb_s3 (hN : 0 < N) (hx : 0 ≤ i ∧ i < N) (hj : j = N - 1) : nbE f i j N 2 = ovT f 3 0 (N - 1) i (N - 1 - i) := at_3 hN hx.1 hx.2 (by omega)
end
theorem tri_eq {a b c a' b' c' : Int} (h1 : a = a') (h2 : b = b') (h3 : c = c') : (a, b, c) = (a', b', c') := by rw [h1, h2, h3]
/-- a cell's place among the cells of a level -/
def InC (N : Int) (t : Int × Int × Int) : Prop := (0 ≤ t.1 ∧ t.1 < 6) ∧ (0 ≤ t.2.1 ∧ t.2.1 < N) ∧ 0 ≤ t.2.2 ∧ t.2.2 < N
/-- back over the rim that one came over -/
def Back (f i j N : Int) (t : Int × Int × Int) : Prop := InC N t ∧ ∃ e, e < 4 ∧ nbE t.1 t.2.1 t.2.2 N e = (f, i, j)
theorem back_mk {f i j N a b c : Int} (h1 : 0 ≤ a ∧ a < 6) (h2 : 0 ≤ b ∧ b < N) (h3 : 0 ≤ c ∧ c < N) (e : Nat) (he : e < 4) (h : nbE a b c N e = (f, i, j)) : Back f i j N (a, b, c) := ⟨⟨h1, h2, h3⟩, e, he, h⟩
section
variable {f N c : Int} (h0 : 0 ≤ f) (h6 : f < 6) (hN : 0 < N) (hc : 0 ≤ c ∧ c < N)
include h0 h6 hN hc
theorem back_0 : Back f 0 c N (ovT f 0 0 (N - 1) c (N - 1 - c)) := by
  by_cases hf : f % 2 = 0
  · rw [show ovT f 0 0 (N - 1) c (N - 1 - c) = ((f + 4) % 6, N - 1 - c, N - 1) from if_pos hf]
    exact back_mk (by omega) (by omega) (by omega) 2 (by decide) ((nb_s3 hN (by omega) rfl).trans ((if_pos (by omega)).trans (tri_eq (by omega) rfl (by omega))))
  · rw [show ovT f 0 0 (N - 1) c (N - 1 - c) = ((f + 5) % 6, N - 1, c) from if_neg hf]
    exact back_mk (by omega) (by omega) (by omega) 1 (by decide) ((nb_s1 hN rfl).trans ((if_pos (by omega)).trans (tri_eq (by omega) rfl rfl)))
theorem back_1 : Back f (N - 1) c N (ovT f 1 0 (N - 1) c (N - 1 - c)) := by
  by_cases hf : f % 2 = 0
  · rw [show ovT f 1 0 (N - 1) c (N - 1 - c) = ((f + 1) % 6, 0, c) from if_pos hf]
    exact back_mk (by omega) (by omega) (by omega) 3 (by decide) ((nb_s0 rfl).trans ((if_neg (by omega)).trans (tri_eq (by omega) rfl rfl)))
  · rw [show ovT f 1 0 (N - 1) c (N - 1 - c) = ((f + 2) % 6, N - 1 - c, 0) from if_neg hf]
    exact back_mk (by omega) (by omega) (by omega) 0 (by decide) ((nb_s2 (by omega) rfl).trans ((if_neg (by omega)).trans (tri_eq (by omega) rfl (by omega))))
theorem back_2 : Back f c 0 N (ovT f 2 0 (N - 1) c (N - 1 - c)) := by
  by_cases hf : f % 2 = 0
  · rw [show ovT f 2 0 (N - 1) c (N - 1 - c) = ((f + 5) % 6, c, N - 1) from if_pos hf]
    exact back_mk (by omega) (by omega) (by omega) 2 (by decide) ((nb_s3 hN (by omega) rfl).trans ((if_neg (by omega)).trans (tri_eq (by omega) rfl rfl)))
  · rw [show ovT f 2 0 (N - 1) c (N - 1 - c) = ((f + 4) % 6, N - 1, N - 1 - c) from if_neg hf]
    exact back_mk (by omega) (by omega) (by omega) 1 (by decide) ((nb_s1 hN rfl).trans ((if_neg (by omega)).trans (tri_eq (by omega) (by omega) rfl)))
theorem back_3 : Back f c (N - 1) N (ovT f 3 0 (N - 1) c (N - 1 - c)) := by
  by_cases hf : f % 2 = 0
  · rw [show ovT f 3 0 (N - 1) c (N - 1 - c) = ((f + 2) % 6, 0, N - 1 - c) from if_pos hf]
    exact back_mk (by omega) (by omega) (by omega) 3 (by decide) ((nb_s0 rfl).trans ((if_pos (by omega)).trans (tri_eq (by omega) (by omega) rfl)))
  · rw [show ovT f 3 0 (N - 1) c (N - 1 - c) = ((f + 1) % 6, c, 0) from if_neg hf]
    exact back_mk (by omega) (by omega) (by omega) 0 (by decide) ((nb_s2 (by omega) rfl).trans ((if_pos (by omega)).trans (tri_eq (by omega) rfl rfl)))
end
/-- every neighbour over an edge is a cell, and has the cell among its own -/
theorem nb_back {f N i j : Int} (h0 : 0 ≤ f) (h6 : f < 6) (hN : 0 < N) (hi : 0 ≤ i ∧ i < N) (hj : 0 ≤ j ∧ j < N) (e : Nat) (he : e < 4) : Back f i j N (nbE f i j N e) := by
  have inn : ∀ x y, (0 ≤ x ∧ x < N) → (0 ≤ y ∧ y < N) → cellAt f x y N = (f, x, y) := fun x y hx hy => cell_in hx hy
  rcases e with _ | _ | _ | _ | e
  · by_cases h : j = 0
    · rw [nb_s2 hi h, h]; exact back_2 h0 h6 hN hi
    · have q : 0 ≤ j - 1 ∧ j - 1 < N := by omega
      rw [show nbE f i j N 0 = (f, i, j - 1) from inn _ _ hi q]
      refine back_mk ⟨h0, h6⟩ hi q 2 (by decide) ?_
      show cellAt f i (j - 1 + 1) N = _
      rw [Int.sub_add_cancel]; exact inn _ _ hi hj
  · by_cases h : i = N - 1
    · rw [nb_s1 hN h, h]; exact back_1 h0 h6 hN hj
    · have q : 0 ≤ i + 1 ∧ i + 1 < N := by omega
      rw [show nbE f i j N (0 + 1) = (f, i + 1, j) from inn _ _ q hj]
      refine back_mk ⟨h0, h6⟩ q hj 3 (by decide) ?_
      show cellAt f (i + 1 - 1) j N = _
      rw [Int.add_sub_cancel]; exact inn _ _ hi hj
  · by_cases h : j = N - 1
    · rw [nb_s3 hN hi h, h]; exact back_3 h0 h6 hN hi
    · have q : 0 ≤ j + 1 ∧ j + 1 < N := by omega
      rw [show nbE f i j N (0 + 1 + 1) = (f, i, j + 1) from inn _ _ hi q]
      refine back_mk ⟨h0, h6⟩ hi q 0 (by decide) ?_
      show cellAt f i (j + 1 - 1) N = _
      rw [Int.add_sub_cancel]; exact inn _ _ hi hj
  · by_cases h : i = 0
    · rw [nb_s0 h, h]; exact back_0 h0 h6 hN hj
    · have q : 0 ≤ i - 1 ∧ i - 1 < N := by omega
      rw [show nbE f i j N (0 + 1 + 1 + 1) = (f, i - 1, j) from inn _ _ q hj]
      refine back_mk ⟨h0, h6⟩ q hj 1 (by decide) ?_
      show cellAt f (i - 1 + 1) j N = _
      rw [Int.sub_add_cancel]; exact inn _ _ hi hj
  · exact absurd he (by omega)
theorem shift_up {S a I : Int} (h : S * a + 1 ≤ I ∧ I + 2 ≤ S * a + S) : S * (a + 1) + 1 ≤ I + S ∧ I + S + 2 ≤ S * (a + 1) + S := by
  rw [Int.mul_add, Int.mul_one]; omega
theorem shift_dn {S a I : Int} (h : S * a + 1 ≤ I ∧ I + 2 ≤ S * a + S) : S * (a - 1) + 1 ≤ I - S ∧ I - S + 2 ≤ S * (a - 1) + S := by
  rw [Int.mul_sub, Int.mul_one]; omega
/-- the four calls that get_edge_neighbors makes come to the neighbours over the edges -/
theorem edge_ok {f i j l N : Int} (hf0 : 0 ≤ f) (hf6 : f < 6) (h0 : 0 ≤ l) (h1 : l ≤ 28) (hN : (2 : Int) ^ l.toNat = N) (hi : 0 ≤ i ∧ i < N) (hj : 0 ≤ j ∧ j < N) :
    ∃ I J S : Int, (2 : Int) ^ (30 - l).toNat = S ∧ ((cid (fpl f i j l.toNat) l).fdiv (2 ^ Int.toNat 61) = f ∧ tI (cid (fpl f i j l.toNat) l) = I ∧ tJ (cid (fpl f i j l.toNat) l) = J) ∧ ((0 ≤ I ∧ I < 1073741824) ∧ 0 ≤ J ∧ J < 1073741824) ∧
      (fpl (sF (decide (0 ≤ J - S)) f I (J - S)) (sI (decide (0 ≤ J - S)) f I (J - S)) (sJ (decide (0 ≤ J - S)) f I (J - S)) 30 / 2 ^ (2 * (30 - l)).toNat = fplT (nbE f i j N 0) l.toNat ∧
       fpl (sF (decide (I + S < 1073741824)) f (I + S) J) (sI (decide (I + S < 1073741824)) f (I + S) J) (sJ (decide (I + S < 1073741824)) f (I + S) J) 30 / 2 ^ (2 * (30 - l)).toNat = fplT (nbE f i j N 1) l.toNat) ∧
      (fpl (sF (decide (J + S < 1073741824)) f I (J + S)) (sI (decide (J + S < 1073741824)) f I (J + S)) (sJ (decide (J + S < 1073741824)) f I (J + S)) 30 / 2 ^ (2 * (30 - l)).toNat = fplT (nbE f i j N 2) l.toNat ∧
       fpl (sF (decide (0 ≤ I - S)) f (I - S) J) (sI (decide (0 ≤ I - S)) f (I - S) J) (sJ (decide (0 ≤ I - S)) f (I - S) J) 30 / 2 ^ (2 * (30 - l)).toNat = fplT (nbE f i j N 3) l.toNat) := by
  obtain ⟨⟨m, hm, hI, hJ⟩, hf⟩ := tof_cell hf0 hf6 h0 (by omega) (hN.symm ▸ hi) (hN.symm ▸ hj)
  have e1 : ∀ x : Int, x = x / 2 ^ (l - l).toNat := fun x => by rw [Int.sub_self]; simp
  have lI := leaf_at h0 (Int.le_refl l) h1 hm hI (e1 i)
  have lJ := leaf_at h0 (Int.le_refl l) h1 hm hJ (e1 j)
  obtain ⟨S, hS⟩ : ∃ S, (2 : Int) ^ (30 - l).toNat = S := ⟨_, rfl⟩
  have v : Lev l S N := ⟨h0, by omega, hS, hN⟩
  rw [hS] at lI lJ
  have hS0 := v.S0
  generalize tI (cid (fpl f i j l.toNat) l) = I at *
  generalize tJ (cid (fpl f i j l.toNat) l) = J at *
  have fI := in_face v.mul hS0 lI.1 lI.2
  have fJ := in_face v.mul hS0 lJ.1 lJ.2
  have uI := shift_up lI
  have uJ := shift_up lJ
  have dI := shift_dn lI
  have dJ := shift_dn lJ
  have gI := in_face v.mul hS0 uI.1 uI.2
  have gJ := in_face v.mul hS0 uJ.1 uJ.2
  have kI := in_face v.mul hS0 dI.1 dI.2
  have kJ := in_face v.mul hS0 dJ.1 dJ.2
  refine ⟨I, J, S, hS, ⟨hf, rfl, rfl⟩, ⟨⟨fI.1.mpr hi.1, fI.2.mpr hi.2⟩, fJ.1.mpr hj.1, fJ.2.mpr hj.2⟩, ⟨?_, ?_⟩, ?_, ?_⟩
  · exact same_lev v hf0 hf6 ⟨lI.1, lI.2, dJ.1, dJ.2⟩ (.inl hi) fun e => ⟨hi, kJ.1.mp (of_decide_eq_true e), Int.lt_of_le_of_lt (Int.sub_le_self j (by decide)) hj.2⟩
  · exact same_lev v hf0 hf6 ⟨uI.1, uI.2, lJ.1, lJ.2⟩ (.inr hj) fun e => ⟨⟨Int.le_trans hi.1 (Int.le_add_of_nonneg_right (by decide)), gI.2.mp (of_decide_eq_true e)⟩, hj⟩
  · exact same_lev v hf0 hf6 ⟨lI.1, lI.2, uJ.1, uJ.2⟩ (.inl hi) fun e => ⟨hi, Int.le_trans hj.1 (Int.le_add_of_nonneg_right (by decide)), gJ.2.mp (of_decide_eq_true e)⟩
  · exact same_lev v hf0 hf6 ⟨dI.1, dI.2, lJ.1, lJ.2⟩ (.inr hj) fun e => ⟨⟨kI.1.mp (of_decide_eq_true e), Int.lt_of_le_of_lt (Int.sub_le_self i (by decide)) hi.2⟩, hj⟩
section
variable {prog : Program} {w : World} {A : Around} {h₀ : Heap} {L : Addr} {m : Str → Option Value} {env : Env} {elt : Expr} {x : Str} {scope : Scope} {cl : List (Str × Addr)} {s : Shared} {S : List (Addr × Obj) → Prop} {Fin : List Value → List (Addr × Obj) → Prop} {news : List (Addr × Obj)}
/-- a comprehension over a list whose items give ints and leave the ledger as it stood -/
theorem crest {vs : List Value} {gs : List Int} (hlen : gs.length = vs.length)
    (turn : ∀ (i : Nat) (v : Value) (r : Int) I oI C oC D m₂ ys h tk (E' : Value → Shared → Prop), vs[i]? = some v → gs[i]? = some r → LCg.NsObj oC m₂ → m₂ x = some v → Fr h₀ L h m → News h₀ L h ((I, oI) :: (C, oC) :: (D, LCg.lst ys) :: news) → LCg.Off3 I C D news → ((@Ne Nat I C) ∧ (@Ne Nat I D) ∧ (@Ne Nat C D)) →
      wpAny (model prog w) A (eval elt (compEnvC scope cl C env)) (LCg.CompEnd h₀ L m { s with heap := h, toks := tk } I oI C oC D (LCg.lst ys) S (fun y news' => KCfEl news r y news')) E' { s with heap := h, toks := tk })
    (fin : ∀ ys, IntsAre ys gs → Fin ys news) : LCg.CompRest prog w A h₀ L m env elt x scope cl s S (fun i v => vs.toArray[i]? = some v) Fin vs.toArray.size 0 [] news := by
  have key : ∀ (j i : Nat) (ys : List Value), i + j = vs.length → IntsAre ys (gs.take i) → LCg.CompRest prog w A h₀ L m env elt x scope cl s S (fun i v => vs.toArray[i]? = some v) Fin j i ys news := by
    intro j
    induction j with
    | zero =>
      intro i ys hi hy
      rw [show i = gs.length by omega, List.take_length] at hy
      exact LCg.CompRest.zero (fin ys hy)
    | succ j ih =>
      intro i ys hi hy
      refine LCg.CompRest.succ ?_
      intro v I oI C oC D m₂ h tk E' hv hC hx F N off ne
      have hr : gs[i]? = some gs[i] := List.getElem?_eq_getElem (by omega)
      refine wpAny_mono (turn i v gs[i] I oI C oC D m₂ ys h tk E' (by simpa using hv) hr hC hx F N off ne) (fun y s₂ hq => ?_) fun _ _ e => e
      obtain ⟨h', tk', nw, e, F', N', off', hS, hn, t', hy'⟩ := hq
      rw [hn] at N' off' hS
      refine ⟨h', tk', news, e, F', N', off', hS, ?_⟩
      rw [hy']
      refine ih (i + 1) _ (by omega) ?_
      have e9 : gs.take (i + 1) = gs.take i ++ [gs[i]] := by rw [List.take_add_one, hr]; rfl
      rw [e9]
      exact IntsAre.append hy (.cons gs[i] t' .nil)
  have z := key vs.length 0 [] (by omega) (by simp only [List.take_zero]; exact .nil)
  rwa [List.size_toArray]
end
section
variable {prog : Program} {w : World} {A : Around} {E : Value → Shared → Prop} {s : Shared} {env : Env} {h₀ : Heap} {target : Expr} {body : List Stmt} {Q : Flow → Shared → Prop}
/-- a loop over a tuple of the ledger whose target is unpacked -/
theorem loop_tupT {ax : Addr} {its : Array Value} {c : Nat} {m₀ : Str → Option Value} {news : List (Addr × Obj)} (kept : List (Addr × Obj)) (J : Nat → (Str → Option Value) → List (Addr × Obj) → Prop) (hkp : ∀ p ∈ kept, p ∈ news)
    (hh : A.handled = none) (hax : (ax, ({ cls := .type "tuple", data := .seq its c } : Obj)) ∈ kept) (F : Fr h₀ env.locals s.heap m₀) (N : News h₀ env.locals s.heap news)
    (mono : ∀ k, Mono (.type "tuple_iterator") (J k)) (start : J 0 m₀ news)
    (turn : ∀ (k : Nat) (v : Value) (m₁ : Str → Option Value) (news₁ : List (Addr × Obj)) (h : Heap) (tk : Nat) (I : Addr) (o : Obj), k < its.size → its[k]? = some v → J k m₁ news₁ → (∀ p ∈ kept, p ∈ news₁) → o.cls = .type "tuple_iterator" → (∀ p ∈ news₁, p.1 ≠ I) → Fr h₀ env.locals h m₁ → News h₀ env.locals h ((I, o) :: news₁) →
      wpAny (model prog w) A (assign target env v) (fun _ s₃ => wpAny (model prog w) A (execs body env) (TurnPostO h₀ env.locals { s with heap := h, toks := tk } (I, o) kept (J (k + 1)) Q) E s₃) E { s with heap := h, toks := tk })
    (done : ∀ m₁ news₁ h tk, J its.size m₁ news₁ → (∀ p ∈ kept, p ∈ news₁) → Fr h₀ env.locals h m₁ → News h₀ env.locals h news₁ → Q .next { s with heap := h, toks := tk }) :
    wpAny (model prog w) A (pyIter (.ref ax)) (fun it s₂ => TurnsAt prog w A h₀ env target body Q E it s₂) E s := by
  have hl : s.heap.IsTuple ax its := ⟨_, (N _ (hkp _ hax)).1, rfl, _, rfl⟩
  have hlt : ax < s.heap.objs.size := Heap.lt_size (N _ (hkp _ hax)).1
  have hax0 : h₀.get? ax = none := (N _ (hkp _ hax)).2.2
  have haxL : ax ≠ env.locals := (N _ (hkp _ hax)).2.1
  refine wpAny_pyIter_tuple hl ?_
  have up : ∀ b o, s.heap.get? b = some o → (s.heap.push { cls := .type "tuple_iterator", data := .fields #[.ref ax, .int 0 0] }).get? b = some o := fun b o e => Heap.get?_push_of_some _ e
  have W := KTurns.ofWalks (target := target) (Walks.tuple (prog := prog) (w := w) hh s.heap.objs.size ax (Nat.ne_of_lt hlt) its) fun i v s Q E st q => letGo_tupleiter st.1 q
  have hnew := next_is_new F
  refine ⟨_, _, _, its.size, _, _, _, m₀, news, fun k m nw => (∀ p ∈ kept, p ∈ nw) ∧ J k m nw, rfl, W, ?_, ?_, ?_, ⟨⟨_, Heap.get?_push_size _ rfl, rfl, rfl⟩, hl.push _⟩, F.keeps up, N.grown up, ⟨hkp, start⟩, ?_, ?_⟩
  · intro hm
    simp only [List.mem_cons, List.not_mem_nil, or_false] at hm
    rcases hm with hm | hm
    · exact absurd F.ns.lt (hm ▸ Nat.lt_irrefl _)
    · exact haxL hm.symm
  · intro b hb
    rw [List.mem_singleton.mp hb]
    exact hnew
  · intro p hp hI
    exact absurd (Heap.lt_size (N p hp).1) ((List.mem_singleton.mp hI) ▸ Nat.lt_irrefl _)
  · intro i v m₁ news₁ hh' tk' own hin hv hJ0 hoff hown hget hall hst F₁ N₁
    obtain ⟨hsub, hJ⟩ := hJ0
    obtain ⟨o, ho, hoc⟩ : ∃ o, hh'.get? s.heap.objs.size = some o ∧ o.cls = .type "tuple_iterator" := by
      obtain ⟨o, a, b, _⟩ := hst.1
      exact ⟨o, a, b⟩
    have hmem := hall s.heap.objs.size (List.mem_cons_self ..) hnew _ ho
    have N₂ : News h₀ env.locals hh' ((s.heap.objs.size, o) :: news₁) := fun p hp => by
      rcases List.mem_cons.mp hp with rfl | hp
      · exact N₁ _ (List.mem_append_left _ hmem)
      · exact N₁ _ (List.mem_append_right _ hp)
    refine wpAny_mono (turn i v m₁ news₁ hh' tk' s.heap.objs.size o hin hv hJ hsub hoc (fun p hp e => hoff p hp (List.mem_singleton.mpr e)) F₁ N₂) (fun _ s₃ q => wpAny_mono q (fun f s₂ p => ?_) fun _ _ e => e) fun _ _ e => e
    have fin : (∃ h' tk m' news', s₂ = { s with heap := h', toks := tk } ∧ Fr h₀ env.locals h' m' ∧ News h₀ env.locals h' news' ∧ (s.heap.objs.size, o) ∈ news' ∧ (∀ p ∈ kept, p ∈ news') ∧ J (i + 1) m' news') →
        LoopStepU h₀ env.locals [s.heap.objs.size] own (fun m nw => (∀ p ∈ kept, p ∈ nw) ∧ J (i + 1) m nw) { s with heap := hh', toks := tk' } .next s₂ := by
      rintro ⟨h', tk, m', news', e, F', N', ho', hk', hJ'⟩
      refine ⟨rfl, h', tk, m', news'.filter (fun p => decide (p.1 ≠ s.heap.objs.size)), e, F', fun p hp => ?_, fun p hp hI => ?_, fun p hp => List.mem_filter.mpr ⟨hk' p hp, decide_eq_true (Nat.ne_of_lt (Heap.lt_size (N p (hkp p hp)).1))⟩, ?_⟩
      · rcases List.mem_append.mp hp with hp | hp
        · have h1 := hown p hp
          have h2 : hh'.get? p.1 = some p.2 := hget p hp
          simp only [List.mem_cons, List.not_mem_nil, or_false] at h1
          rcases h1 with h1 | h1
          · have h3 : p = (s.heap.objs.size, o) := by
              rw [h1, ho] at h2
              exact Prod.ext h1 (Option.some.inj h2).symm
            rw [h3]; exact N' _ ho'
          · have h4 := (N₁ _ (List.mem_append_right _ (hsub _ hax))).1
            have h3 : p = (ax, ({ cls := .type "tuple", data := .seq its c } : Obj)) := by
              rw [h1, h4] at h2
              exact Prod.ext h1 (Option.some.inj h2).symm
            rw [h3]; exact N' _ (hk' _ hax)
        · exact N' p (List.mem_filter.mp hp).1
      · exact of_decide_eq_true (List.mem_filter.mp hp).2 (List.mem_singleton.mp hI)
      · refine mono _ _ _ _ hJ' fun p hp hc => List.mem_filter.mpr ⟨hp, decide_eq_true fun e => ?_⟩
        have h1 := (N' p hp).1
        rw [e, (N' _ ho').1] at h1
        exact hc (hoc ▸ (congrArg Obj.cls (Option.some.inj h1)).symm)
    cases f with
    | ret v => exact .ret p
    | brk => exact .brk p
    | next => exact .next (fin p)
    | cont => exact .cont (fin p)
  · rintro h' tk m' news' F' N' _ ⟨hsub, hJ⟩
    exact done m' news' h' tk hJ hsub F' N'
end
section
open PyProof.Rows.LCg
abbrev pair2 (a b : Int) (u v : Tok) : Obj := { cls := .type "tuple", data := .seq #[.int a u, .int b v] }
def pnt (f S9 a b : Int) : Int × Int × Int := (px f S9 (2 * a - S9) (2 * b - S9), py f S9 (2 * a - S9) (2 * b - S9), pz f S9 (2 * a - S9) (2 * b - S9))
def rwA (k : Nat) : Int := match k with | 1 => 1 | 2 => 1 | _ => 0
def rwB (k : Nat) : Int := match k with | 2 => 1 | 3 => 1 | _ => 0
def crnL (f S9 i j : Int) : List (Int × Int × Int) := [pnt f S9 (i + 0) (j + 0), pnt f S9 (i + 1) (j + 0), pnt f S9 (i + 1) (j + 1), pnt f S9 (i + 0) (j + 1)]
theorem four_k {k : Nat} (h : k < 4) : k = 0 ∨ k = 1 ∨ k = 2 ∨ k = 3 := by omega
theorem crn_at (f S9 i j : Int) {k : Nat} (h : k < 4) : (crnL f S9 i j)[k]? = some (pnt f S9 (i + rwA k) (j + rwB k)) := by
  rcases four_k h with rfl | rfl | rfl | rfl <;> rfl
theorem rw_bd {k : Nat} (h : k < 4) : (0 ≤ rwA k ∧ rwA k < 2) ∧ 0 ≤ rwB k ∧ rwB k < 2 := by
  rcases four_k h with rfl | rfl | rfl | rfl <;> decide
theorem crn_cn (f S9 i j : Int) {e : Nat} (h : e < 4) : (crnL f S9 i j)[e]? = some (pnt f S9 (cnA i e) (cnB j e)) := by
  rcases four_k h with rfl | rfl | rfl | rfl <;> simp [crnL, cnA, cnB]
theorem Lst9.snoc {fa T : Addr} {vs : List Value} {ts : List (Int × Int × Int)} {nw : List (Addr × Obj)} {t : Int × Int × Int} {k : Nat} {t1 t2 t3 : Tok} (hv : (fa, lst (vs ++ [.ref T])) ∈ nw) (hT : (T, ({ cls := .type "tuple", data := .seq #[.int t.1 t1, .int t.2.1 t2, .int t.2.2 t3] } : Obj)) ∈ nw) (h : Trips nw vs (ts.take k)) (e : ts[k]? = some t) : Lst9 fa (ts.take (k + 1)) nw := by
  refine ⟨_, hv, ?_⟩
  rw [List.take_add_one, e]
  exact h.snoc hT
theorem two_off {x y : Str} {m₁ m₀ : Str → Option Value} (hm : ∀ z, z ≠ x → z ≠ y → m₁ z = m₀ z) : m₁ = fun z => if z = x then m₁ x else if z = y then m₁ y else m₀ z := funext fun z => by
  by_cases hx : z = x
  · rw [if_pos hx, hx]
  · rw [if_neg hx]
    by_cases hy : z = y
    · rw [if_pos hy, hy]
    · rw [if_neg hy, hm z hx hy]
def CrnIs (_f _S9 _i _j : Int) : Prop := True
theorem crn_get {f S9 i j : Int} {k : Nat} (_ : CrnIs f S9 i j) (h : k < 4) : (crnL f S9 i j)[k]? = some (pnt f S9 (i + rwA k) (j + rwB k)) := crn_at f S9 i j h
section
variable {prog : Program} {w : World} {A : Around} {E : Value → Shared → Prop} {s : Shared} {env : Env} {h₀ : Heap} {target : Expr} {body : List Stmt} {Q : Flow → Shared → Prop}
theorem loop_crn {ax fa r0 r1 r2 r3 : Addr} {c : Nat} {u0 u1 u2 u3 v0 v1 v2 v3 : Tok} {m₀ : Str → Option Value} {news : List (Addr × Obj)} {f S9 i j : Int} (_hc : CrnIs f S9 i j) (x y : Str)
    (hh : A.handled = none) (F : Fr h₀ env.locals s.heap m₀) (N : News h₀ env.locals s.heap news)
    (hax : (ax, ({ cls := .type "tuple", data := .seq #[.ref r0, .ref r1, .ref r2, .ref r3] c } : Obj)) ∈ news)
    (h0 : (r0, pair2 0 0 u0 v0) ∈ news) (h1 : (r1, pair2 1 0 u1 v1) ∈ news) (h2 : (r2, pair2 1 1 u2 v2) ∈ news) (h3 : (r3, pair2 0 1 u3 v3) ∈ news) (hfa : (fa, lst []) ∈ news)
    (turn : ∀ (k : Nat) (r : Addr) (u v : Tok) (p q : Option Value) (vs : List Value) (nw : List (Addr × Obj)) (h : Heap) (tk : Nat) (I : Addr) (o : Obj), k < 4 → (r, pair2 (rwA k) (rwB k) u v) ∈ nw → (fa, lst vs) ∈ nw → Trips nw vs ((crnL f S9 i j).take k) → (∀ p ∈ kf news fa, p ∈ nw) → I ≠ fa →
      Fr h₀ env.locals h (fun z => if z = x then p else if z = y then q else m₀ z) → News h₀ env.locals h ((I, o) :: nw) →
      wpAny (model prog w) A (assign target env (.ref r)) (fun _ s₃ => wpAny (model prog w) A (execs body env) (TurnPostO h₀ env.locals { s with heap := h, toks := tk } (I, o) (kf news fa) (JTa fa x y m₀ (fun k => (crnL f S9 i j).take k) (k + 1)) Q) E s₃) E { s with heap := h, toks := tk })
    (done : ∀ (p q : Option Value) (vs : List Value) nw h tk, (fa, lst vs) ∈ nw → Trips nw vs (crnL f S9 i j) → (∀ p ∈ kf news fa, p ∈ nw) → Fr h₀ env.locals h (fun z => if z = x then p else if z = y then q else m₀ z) → News h₀ env.locals h nw → Q .next { s with heap := h, toks := tk }) :
    wpAny (model prog w) A (pyIter (.ref ax)) (fun it s₂ => TurnsAt prog w A h₀ env target body Q E it s₂) E s := by
  have hd : (Value.type "tuple" : Value) ≠ Value.type "list" := by decide
  have kp : ∀ {b : Addr} {o : Obj}, (b, o) ∈ news → o.cls = .type "tuple" → (b, o) ∈ kf news fa := fun hb hc => kf_mem hb (ne_cls N hb hfa (by rw [hc]; exact hd))
  refine loop_tupT (kf news fa) (JTa fa x y m₀ (fun k => (crnL f S9 i j).take k)) kf_sub hh (kp hax rfl) F N ?_ ⟨fun _ _ _ => rfl, [], hfa, trivial⟩ ?_ ?_
  · intro k m n n' q h
    exact ⟨q.1, q.2.mono (by decide) (by decide) h⟩
  · intro k v m₁ nw h tk I o hk hv hJ hsub ho hoff F' N'
    obtain ⟨hm, vs, hl, hT⟩ := hJ
    have hk4 : k < 4 := hk
    rw [two_off hm] at F'
    have go : ∀ (r : Addr) (u v' : Tok), v = .ref r → (r, pair2 (rwA k) (rwB k) u v') ∈ nw → _ := fun r u v' e hr => e ▸ turn k r u v' _ _ vs nw h tk I o hk4 hr hl hT hsub (fun e => hoff _ hl e.symm) F' N'
    rcases four_k hk4 with rfl | rfl | rfl | rfl
    · exact go r0 u0 v0 (Option.some.inj hv).symm (hsub _ (kp h0 rfl))
    · exact go r1 u1 v1 (Option.some.inj hv).symm (hsub _ (kp h1 rfl))
    · exact go r2 u2 v2 (Option.some.inj hv).symm (hsub _ (kp h2 rfl))
    · exact go r3 u3 v3 (Option.some.inj hv).symm (hsub _ (kp h3 rfl))
  · intro m₁ nw h tk hJ hsub F' N'
    obtain ⟨hm, vs, hl, hT⟩ := hJ
    rw [two_off hm] at F'
    exact done _ _ vs nw h tk hl hT hsub F' N'
end
section
variable {h₀ h' : Heap} {L fa I : Addr} {s : Shared} {o : Obj} {Q : Flow → Shared → Prop} {tk' : Nat} {m' mA : Str → Option Value} {x z : Str} {newsA nwX nw' nw : List (Addr × Obj)} {k : Nat} {vs : List Value}
theorem end_crn {T : Addr} {t : Int × Int × Int} {ts : List (Int × Int × Int)} {t1 t2 t3 : Tok} (F : Fr h₀ L h' m') (N : News h₀ L h' nw') (hA : (fa, lst (vs ++ [.ref T])) ∈ nw') (hB : ∀ p ∈ nwX, p.1 ≠ fa → p ∈ nw') (hC : ∀ p ∈ nwX, p.2.cls = .type "tuple" → p.1 ≠ fa)
    (hT : Trips nw vs (ts.take k)) (hsub : ∀ p ∈ kf newsA fa, p ∈ nw) (hI : I ≠ fa) (e : ts[k]? = some t) (hup : ∀ p ∈ (I, o) :: nw, p ∈ nwX)
    (hTm : (T, ({ cls := .type "tuple", data := .seq #[.int t.1 t1, .int t.2.1 t2, .int t.2.2 t3] } : Obj)) ∈ nwX) (hm : ∀ y, y ≠ x → y ≠ z → m' y = mA y) :
    TurnPostO h₀ L s (I, o) (kf newsA fa) (JTa fa x z mA (fun k => ts.take k) (k + 1)) Q .next { s with heap := h', toks := tk' } :=
  turnO_end F N (hB _ (hup _ (List.mem_cons_self ..)) hI) (fun p hp => hB p (hup _ (List.mem_cons_of_mem _ (hsub p hp))) (kf_ne hp))
    ⟨hm, Lst9.snoc hA (hB _ hTm (hC _ hTm rfl)) (hT.mono fun p hp hc => hB p (hup _ (List.mem_cons_of_mem _ hp)) (hC p (hup _ (List.mem_cons_of_mem _ hp)) hc)) e⟩
end
end
section
open PyProof.Rows.LCg
section
variable {prog : Program} {w : World} {A : Around} {h₀ : Heap} {L : Addr} {m : Str → Option Value} {env : Env} {ct elt : Expr} {x : Str} {scope : Scope} {cl : List (Str × Addr)} {s : Shared} {S : List (Addr × Obj) → Prop} {Fin : List Value → List (Addr × Obj) → Prop} {news : List (Addr × Obj)}
/-- a comprehension with a test over triples, whose items are the triples themselves -/
theorem crestT_trips {vs : List Value} {ts : List (Int × Int × Int)} (g : Int × Int × Int → Bool) (hT : Trips news vs ts)
    (turn : ∀ (t : Int × Int × Int) (r : Addr) (t1 t2 t3 : Tok) I oI C oC D m₂ ys h tk (E' : Value → Shared → Prop), t ∈ ts → (r, ({ cls := .type "tuple", data := .seq #[.int t.1 t1, .int t.2.1 t2, .int t.2.2 t3] } : Obj)) ∈ news → NsObj oC m₂ → m₂ x = some (.ref r) → Fr h₀ L h m → News h₀ L h ((I, oI) :: (C, oC) :: (D, lst ys) :: news) → Off3 I C D news → ((@Ne Nat I C) ∧ (@Ne Nat I D) ∧ (@Ne Nat C D)) →
      wpAny (model prog w) A (isTrue ct (compEnvC scope cl C env) (eval ct (compEnvC scope cl C env))) (fun ok s' => if ok = true then
        wpAny (model prog w) A (eval elt (compEnvC scope cl C env)) (CompEnd h₀ L m { s with heap := h, toks := tk } I oI C oC D (lst ys) S (fun y news' => (g t = true ∧ y = .ref r) ∧ news' = news)) E' s'
        else CompEnd h₀ L m { s with heap := h, toks := tk } I oI C oC D (lst ys) S (fun _ news' => g t = false ∧ news' = news) Value.none s') E' { s with heap := h, toks := tk })
    (fin : ∀ ys, Trips news ys (ts.filter g) → Fin ys news) : LCt.CompRestT prog w A h₀ L m env ct elt x scope cl s S (fun i v => vs.toArray[i]? = some v) Fin vs.toArray.size 0 [] news := by
  have hl := Trips.length hT
  have key : ∀ (j i : Nat) (ys : List Value), i + j = vs.length → Trips news ys ((ts.take i).filter g) → LCt.CompRestT prog w A h₀ L m env ct elt x scope cl s S (fun i v => vs.toArray[i]? = some v) Fin j i ys news := by
    intro j
    induction j with
    | zero =>
      intro i ys hi hy
      rw [show i = ts.length by omega, List.take_length] at hy
      exact LCt.CompRestT.zero (fin ys hy)
    | succ j ih =>
      intro i ys hi hy
      refine LCt.CompRestT.succ ?_
      intro v I oI C oC D m₂ h tk E' hv hC hx F N off ne
      have hr : ts[i]? = some ts[i] := List.getElem?_eq_getElem (by omega)
      obtain ⟨r, t1, t2, t3, ha, hm⟩ := hT.get i _ hr
      have hv' : vs[i]? = some v := by simpa using hv
      rw [ha] at hv'
      rw [← Option.some.inj hv'] at hx
      have e9 : ts.take (i + 1) = ts.take i ++ [ts[i]] := by rw [List.take_add_one, hr]; rfl
      refine wpAny_mono (turn ts[i] r t1 t2 t3 I oI C oC D m₂ ys h tk E' (List.getElem_mem _) hm hC hx F N off ne) (fun ok s₂ hq => ?_) fun _ _ e => e
      cases ok with
      | true =>
        rw [if_pos rfl] at hq ⊢
        refine wpAny_mono hq (fun y s₃ hq => ?_) fun _ _ e => e
        obtain ⟨h', tk', nw, e, F', N', off', hS, ⟨hg, hy'⟩, hn⟩ := hq
        rw [hn] at N' off' hS
        refine ⟨h', tk', news, e, F', N', off', hS, ?_⟩
        rw [hy']
        refine ih (i + 1) _ (by omega) ?_
        rw [e9, List.filter_append, List.filter_cons, if_pos hg, List.filter_nil]
        exact hy.snoc hm
      | false =>
        rw [if_neg (by decide)] at hq ⊢
        obtain ⟨h', tk', nw, e, F', N', off', hS, hg, hn⟩ := hq
        rw [hn] at N' off' hS
        refine ⟨h', tk', news, e, F', N', off', hS, ?_⟩
        refine ih (i + 1) _ (by omega) ?_
        rw [e9, List.filter_append, List.filter_cons, if_neg (by rw [hg]; decide), List.filter_nil, List.append_nil]
        exact hy
  have z := key vs.length 0 [] (by omega) (by simp only [List.take_zero]; exact trivial)
  rwa [List.size_toArray]
/-- a comprehension with a test that no item passes -/
theorem crestT_none {vs : List Value}
    (turn : ∀ (i : Nat) (v : Value) I oI C oC D m₂ ys h tk (E' : Value → Shared → Prop), vs[i]? = some v → NsObj oC m₂ → m₂ x = some v → Fr h₀ L h m → News h₀ L h ((I, oI) :: (C, oC) :: (D, lst ys) :: news) → Off3 I C D news → ((@Ne Nat I C) ∧ (@Ne Nat I D) ∧ (@Ne Nat C D)) →
      wpAny (model prog w) A (isTrue ct (compEnvC scope cl C env) (eval ct (compEnvC scope cl C env))) (fun ok s' => ok = false ∧ CompEnd h₀ L m { s with heap := h, toks := tk } I oI C oC D (lst ys) S (fun _ news' => news' = news) Value.none s') E' { s with heap := h, toks := tk })
    (fin : Fin [] news) : LCt.CompRestT prog w A h₀ L m env ct elt x scope cl s S (fun i v => vs.toArray[i]? = some v) Fin vs.toArray.size 0 [] news := by
  have key : ∀ (j i : Nat), i + j = vs.length → LCt.CompRestT prog w A h₀ L m env ct elt x scope cl s S (fun i v => vs.toArray[i]? = some v) Fin j i [] news := by
    intro j
    induction j with
    | zero => exact fun i _ => LCt.CompRestT.zero fin
    | succ j ih =>
      intro i hi
      refine LCt.CompRestT.succ ?_
      intro v I oI C oC D m₂ h tk E' hv hC hx F N off ne
      refine wpAny_mono (turn i v I oI C oC D m₂ [] h tk E' (by simpa using hv) hC hx F N off ne) (fun ok s₂ hq => ?_) fun _ _ e => e
      obtain ⟨rfl, h', tk', nw, e, F', N', off', hS, hn⟩ := hq
      rw [if_neg (by decide)]
      rw [hn] at N' off' hS
      exact ⟨h', tk', news, e, F', N', off', hS, ih (i + 1) (by omega)⟩
  have z := key vs.length 0 (by omega)
  rwa [List.size_toArray]
end
def TupSrcT (prog : Program) (w : World) (A : Around) (h₀ : Heap) (L : Addr) (m : Str → Option Value) (env : Env) (ct elt : Expr) (x : Str) (scope : Scope) (cl : List (Str × Addr)) (Fin : Shared → List Value → List (Addr × Obj) → Prop) (xv : Value) (s₁ : Shared) : Prop :=
  ∃ ax its news, xv = .ref ax ∧ A.handled = none ∧ Fr h₀ L s₁.heap m ∧ News h₀ L s₁.heap news ∧ TupAt h₀ ax its news ∧ its.size ≤ sizeLine ∧
    ∀ s₂ : Shared, (∃ h, s₂ = { s₁ with heap := h }) → LCt.CompRestT prog w A h₀ L m env ct elt x scope cl s₂ (TupAt h₀ ax its) (fun i v => its[i]? = some v) (Fin s₂) its.size 0 [] news
section
variable {prog : Program} {w : World} {A : Around} {E : Value → Shared → Prop} {s : Shared} {h₀ : Heap} {L : Addr} {m : Str → Option Value} {env : Env}
theorem TupSrcT.ledger {ct elt : Expr} {x : Str} {scope : Scope} {cl : List (Str × Addr)} {Fin : Shared → List Value → List (Addr × Obj) → Prop} {ax : Addr} {its : Array Value} {k : Nat} {news : List (Addr × Obj)} {s₁ : Shared}
    (hh : A.handled = none) (F : Fr h₀ L s₁.heap m) (N : News h₀ L s₁.heap news) (hm : (ax, ({ cls := .type "tuple", data := .seq its k } : Obj)) ∈ news) (hsz : its.size ≤ sizeLine)
    (h : ∀ g, LCt.CompRestT prog w A h₀ L m env ct elt x scope cl { s₁ with heap := g } (TupAt h₀ ax its) (fun i v => its[i]? = some v) (Fin { s₁ with heap := g }) its.size 0 [] news) :
    TupSrcT prog w A h₀ L m env ct elt x scope cl Fin (.ref ax) s₁ := ⟨ax, its, news, rfl, hh, F, N, .inr ⟨_, hm, rfl, _, rfl⟩, hsz, fun _ ⟨g, e⟩ => e ▸ h g⟩
theorem ListComp_tupT {ct elt iter : Expr} {x : Str} {px : Pos} {scope : Scope} {cl : List (Str × Addr)} {pos : Pos} {Q : Value → Shared → Prop} (_F₀ : Fr h₀ L s.heap m)
    (hclos : closureFor scope env = pure cl) (hcell : ∀ y ∈ scope.names, y.2 ≠ .cell) (hkind : scope.kind = .function)
    (hnames : ∀ y ∈ scope.names, y.2 = .local → scope.names.lookup y.1 = some .local) (hx : scope.names.lookup x = some .local)
    (h : wpAny (model prog w) A (eval iter env) (TupSrcT prog w A h₀ L m env ct elt x scope cl (fun s₂ => FinE h₀ L m s₂ Q)) E s)
    (hs : ∀ x, foldedSetIterable iter env x = pure x := by intro _; rfl) :
    wpAny (model prog w) A (eval (.ListComp elt [⟨.Name x px, iter, [ct], 0⟩] scope pos) env) Q E s := by
  rw [eval_ListComp]
  refine wpAny_comprehension_free (use := none) rfl hs hclos hkind hnames (wpAny_mono h (fun xv s₁ h₁ => ?_) fun _ _ e => e)
  obtain ⟨ax, its, news, rfl, hh, F, N, S, hsz, R⟩ := h₁
  have hl := S.tuple F.keep N
  have hlt : ax < s₁.heap.objs.size := hl.elim fun _ e => Heap.lt_size e.1
  refine wpAny_pyIter_tuple hl ?_
  have up : ∀ b o, s₁.heap.get? b = some o → (s₁.heap.push { cls := .type "tuple_iterator", data := .fields #[.ref ax, .int 0 0] }).get? b = some o := fun b o e => Heap.get?_push_of_some _ e
  refine LCt.block_T (Walks.tuple hh s₁.heap.objs.size ax (Nat.ne_of_lt hlt) its) hsz (fun i h st => st.1.elim fun o e => ⟨o, e.1⟩) tup_st hcell hkind hx ⟨⟨_, Heap.get?_push_size _ rfl, rfl, rfl⟩, hl.push _⟩ (fun b hb => ?_)
    (F.keeps up) (N.grown up) (Nat.ne_of_lt F.ns.lt) (next_is_new F) (fun p hp => Nat.ne_of_lt (Heap.lt_size (N p hp).1)) S (R _ ⟨_, rfl⟩) ?_
  · have e : (s₁.heap.push { cls := .type "tuple_iterator", data := .fields #[.ref ax, .int 0 0] }).objs.size = s₁.heap.objs.size + 1 := Heap.size_push ..
    show b < (s₁.heap.push _).objs.size
    rw [e]
    simp only [List.mem_cons, List.not_mem_nil, or_false] at hb
    rcases hb with rfl | rfl
    · exact Nat.lt_succ_self _
    · exact Nat.lt_succ_of_lt hlt
  · intro D C h tk m' ys news' F' N' o1 hn hC₀ hD₀ hCL hDL hCD offC fin
    refine ⟨m', hn, fun h'' hs'' => fin D h'' tk (F'.change hs'' hCL hC₀) (fun p hp => ⟨hs''.extBut _ _ ?_ (N' p hp).1, (N' p hp).2⟩) o1⟩
    rcases List.mem_cons.mp hp with rfl | hp
    · exact Ne.symm hCD
    · exact offC p hp
end
end
section
open PyProof.Rows.LCg
theorem Trips.monoD {nw nw' : List (Addr × Obj)} (h : ∀ p ∈ nw, (∃ a n, p.2.data = .seq a n) → p.2.cls = .type "tuple" → p ∈ nw') : ∀ {vs : List Value} {ts : List (Int × Int × Int)}, Trips nw vs ts → Trips nw' vs ts
  | [], [], _ => trivial
  | _ :: _, _ :: _, ⟨⟨r, t1, t2, t3, e, hm⟩, hr⟩ => ⟨⟨r, t1, t2, t3, e, h _ hm ⟨_, _, rfl⟩ rfl⟩, Trips.monoD h hr⟩
  | [], _ :: _, x => x.elim
  | _ :: _, [], x => x.elim
theorem Trips.up {nw nw' : List (Addr × Obj)} {vs : List Value} {ts : List (Int × Int × Int)} (T : Trips nw vs ts) (h : ∀ p ∈ nw, p ∈ nw') : Trips nw' vs ts := T.monoD fun p hp _ _ => h p hp
/-- what the turns over the edges keep -/
structure ES (c5 : Addr) (o5 : Obj) (Dd : Addr) (vd : List Value) (Ds : Addr) (vq : List Value) (dues : List Int) (sqs : List (Int × Int × Int)) (nw : List (Addr × Obj)) : Prop where
  so : (c5, o5) ∈ nw
  hd : ∃ v, o5.data = .cell v
  du : (Dd, lst vd) ∈ nw
  di : IntsAre vd dues
  sq : (Ds, lst vq) ∈ nw
  st : Trips nw vq sqs
section
variable {c5 Dd Ds : Addr} {o5 : Obj} {vd vq : List Value} {dues : List Int} {sqs : List (Int × Int × Int)} {nw nw' : List (Addr × Obj)} {h₀ h : Heap} {L : Addr}
theorem ne_data {a b : Addr} {o o' : Obj} (N : News h₀ L h nw) (ha : (a, o) ∈ nw) (hb : (b, o') ∈ nw) (hc : o.data = o'.data → False) : a ≠ b := fun e => by
  subst e
  have h1 := (N _ ha).1
  rw [(N _ hb).1] at h1
  exact hc (congrArg Obj.data (Option.some.inj h1)).symm
theorem ne_dataP {p : Addr × Obj} {b : Addr} {o' : Obj} (N : News h₀ L h nw) (ha : p ∈ nw) (hb : (b, o') ∈ nw) (hc : p.2.data = o'.data → False) : p.1 ≠ b := ne_data (a := p.1) (o := p.2) N ha hb hc
theorem ES.mono (E : ES c5 o5 Dd vd Ds vq dues sqs nw) (h : ∀ p ∈ nw, ¬ IterLike p.2 → p ∈ nw') : ES c5 o5 Dd vd Ds vq dues sqs nw' := by
  obtain ⟨v, hv⟩ := E.hd
  have no : ∀ {o : Obj} {a : Array Value} {n : Nat}, o.data = .seq a n → ¬ IterLike o := fun e ⟨_, _, f⟩ => by rw [e] at f; cases f
  exact ⟨h _ E.so (fun ⟨_, _, f⟩ => by rw [hv] at f; cases f), ⟨v, hv⟩, h _ E.du (no rfl), E.di, h _ E.sq (no rfl), E.st.monoD fun p hp ⟨_, _, e⟩ _ => h p hp (no e)⟩
theorem ES.up (E : ES c5 o5 Dd vd Ds vq dues sqs nw) (h : ∀ p ∈ nw, p ∈ nw') : ES c5 o5 Dd vd Ds vq dues sqs nw' := E.mono fun p hp _ => h p hp
theorem cell_seq {o o' : Obj} {v : Option Value} {a : Array Value} {n : Nat} (hv : o.data = .cell v) (he : o'.data = .seq a n) : o'.data = o.data → False := fun e => by rw [he, hv] at e; cases e
theorem Trips.store {vs : List Value} {ts : List (Int × Int × Int)} {v : Option Value} (T : Trips nw vs ts) (N : News h₀ L h nw) (hm : (c5, o5) ∈ nw) (hv : o5.data = .cell v) (up : ∀ p ∈ nw, p.1 ≠ c5 → p ∈ nw') : Trips nw' vs ts :=
  T.monoD fun p hp ⟨_, _, e⟩ _ => up p hp (ne_dataP N hp hm (cell_seq hv e))
theorem ES.store {o' : Obj} {v' : Option Value} (E : ES c5 o5 Dd vd Ds vq dues sqs nw) (N : News h₀ L h nw) (hm : (c5, o') ∈ nw') (hd : o'.data = .cell v') (up : ∀ p ∈ nw, p.1 ≠ c5 → p ∈ nw') : ES c5 o' Dd vd Ds vq dues sqs nw' := by
  obtain ⟨v, hv⟩ := E.hd
  exact ⟨hm, ⟨_, hd⟩, up _ E.du (ne_data N E.du E.so (cell_seq hv rfl)), E.di, up _ E.sq (ne_data N E.sq E.so (cell_seq hv rfl)), E.st.store N E.so hv up⟩
theorem tup_in {r : Addr} {o : Obj} (hC : ∀ p ∈ nw, p.2.cls = .type "tuple" → p.1 ≠ Ds) (hB : ∀ p ∈ nw, p.1 ≠ Ds → p ∈ nw') (h : (r, o) ∈ nw) (hc : o.cls = .type "tuple") : (r, o) ∈ nw' := hB _ h (hC _ h hc)
theorem ES.appS {T : Addr} {t : Int × Int × Int} {t1 t2 t3 : Tok} (E : ES c5 o5 Dd vd Ds vq dues sqs nw) (N : News h₀ L h nw) (hA : (Ds, lst (vq ++ [.ref T])) ∈ nw') (hB : ∀ p ∈ nw, p.1 ≠ Ds → p ∈ nw') (hC : ∀ p ∈ nw, p.2.cls = .type "tuple" → p.1 ≠ Ds)
    (hT : (T, ({ cls := .type "tuple", data := .seq #[.int t.1 t1, .int t.2.1 t2, .int t.2.2 t3] } : Obj)) ∈ nw) (hDS : Dd ≠ Ds) : ES c5 o5 Dd vd Ds (vq ++ [.ref T]) dues (sqs ++ [t]) nw' := by
  obtain ⟨v, hv⟩ := E.hd
  exact ⟨hB _ E.so (Ne.symm (ne_data N E.sq E.so (cell_seq hv rfl))), ⟨v, hv⟩, hB _ E.du hDS, E.di, hA, (E.st.monoD fun p hp _ hc => hB p hp (hC p hp hc)).snoc (tup_in hC hB hT rfl)⟩
theorem ES.appD {n : Int} {t : Tok} (E : ES c5 o5 Dd vd Ds vq dues sqs nw) (N : News h₀ L h nw) (hA : (Dd, lst (vd ++ [.int n t])) ∈ nw') (hB : ∀ p ∈ nw, p.1 ≠ Dd → p ∈ nw') (hC : ∀ p ∈ nw, p.2.cls = .type "tuple" → p.1 ≠ Dd) (hDS : Dd ≠ Ds) :
    ES c5 o5 Dd (vd ++ [.int n t]) Ds vq (dues ++ [n]) sqs nw' := by
  obtain ⟨v, hv⟩ := E.hd
  exact ⟨hB _ E.so (Ne.symm (ne_data N E.du E.so (cell_seq hv rfl))), ⟨v, hv⟩, hA, IntsAre.append E.di (.cons n t .nil), hB _ E.sq (Ne.symm hDS), E.st.monoD fun p hp _ hc => hB p hp (hC p hp hc)⟩
end
section
variable {M : Model} {A : Around} {E : Value → Shared → Prop} {s : Shared} {h₀ : Heap} {L a : Addr} {m : Str → Option Value} {cn : Str} {cs : Scope} {ccd : Value} {cl : List (Str × Addr)} {x : Str} {v : Value} {Q : Unit → Shared → Prop} {nw : List (Addr × Obj)} {c : Addr} {o : Obj} {v₀ : Option Value}
/-- a cell's value set, in any ledger -/
theorem store_cell (F : Fr h₀ L s.heap m) (N : News h₀ L s.heap nw) (hc : cl.lookup x = some c) (hm : (c, o) ∈ nw) (hd : o.data = .cell v₀)
    (h : ∀ h' o' nw', Fr h₀ L h' m → News h₀ L h' nw' → (c, o') ∈ nw' → o'.data = .cell (some v) → (∀ p ∈ nw, p.1 ≠ c → p ∈ nw') → Q () { s with heap := h' })
    (hk : cs.kind = .function := by rfl) (hx : (envX cn cs L a ccd cl).kindOf x = some .cell := by rfl) : wpAny M A (storeName (envX cn cs L a ccd cl) x v) Q E s := by
  have N' : News h₀ L s.heap ((c, o) :: nw.filter (fun p => decide (p.1 ≠ c))) := fun p hp => by
    rcases List.mem_cons.mp hp with rfl | hp
    · exact N _ hm
    · exact N p (List.mem_filter.mp hp).1
  exact storeX_C F N' hc (UpdF.head fun p hp => of_decide_eq_true (List.mem_filter.mp hp).2) hd (fun h' o' F' N'' hd' => h h' o' _ F' N'' (List.mem_cons_self ..) hd' fun p hp hne => List.mem_cons_of_mem _ (List.mem_filter.mpr ⟨hp, decide_eq_true hne⟩)) hk hx
end
section
variable {prog : Program} {w : World} {A : Around} {E : Value → Shared → Prop} {s : Shared} {h₀ : Heap} {L : Addr} {nw : List (Addr × Obj)}
theorem trip_item {value slice : PySem.Expr} {D : Addr} {vs : List Value} {ts : List (Int × Int × Int)} {t : Int × Int × Int} {k : Nat} {i : Int} {u : Tok} {Q : Value → Shared → Prop} (N : News h₀ L s.heap nw) (hm : (D, lst vs) ∈ nw) (hT : Trips nw vs ts) (hi : i = (k : Int)) (hk2 : k < 4) (hk : ts[k]? = some t)
    (h : ∀ r t1 t2 t3, (r, ({ cls := .type "tuple", data := .seq #[.int t.1 t1, .int t.2.1 t2, .int t.2.2 t3] } : Obj)) ∈ nw → Q (.ref r) s)
    (hs : subscripted slice false (.ref D) (.int i u) = operate [.ref D, .int i u] (getItem (.ref D) (.int i u)) := by with_unfolding_all rfl) : wpAny (model prog w) A (subscriptTail value slice (.ref D) (.int i u)) Q E s := by
  obtain ⟨r, t1, t2, t3, ha, hr⟩ := hT.get k t hk
  have hl : s.heap.IsList D vs.toArray := ⟨_, (N _ hm).1, rfl, _, rfl⟩
  have ha' : vs.toArray[i.toNat]? = some (.ref r) := by rw [hi, Int.toNat_natCast]; simpa using ha
  exact tail_any hl.typeIs slot_list_getitem.lookup (wpAny_getItem_list hl (by omega) (by omega) (by simpa using ha') (h r t1 t2 t3 hr)) hs
end
theorem off1_mem {D : Addr} : ∀ {l : List (Addr × Obj)}, Off1 D l → ∀ p ∈ l, p.1 ≠ D
  | [], _, _, h => nomatch h
  | _ :: _, x, p, h => by
    rcases List.mem_cons.mp h with rfl | h
    · exact x.1
    · exact off1_mem x.2 p h
theorem trips_one {nw : List (Addr × Obj)} {ys : List Value} {t : Int × Int × Int} (T : Trips nw ys [t]) : ∃ r t1 t2 t3, ys = [.ref r] ∧ (r, ({ cls := .type "tuple", data := .seq #[.int t.1 t1, .int t.2.1 t2, .int t.2.2 t3] } : Obj)) ∈ nw := by
  match ys, T with
  | [_], ⟨⟨r, t1, t2, t3, e, h⟩, _⟩ => exact ⟨r, t1, t2, t3, by rw [e], h⟩
def sqL (f i j N : Int) : List (Int × Int × Int) := [nbE f i j N 0, nbE f i j N 1, nbE f i j N 2, nbE f i j N 3]
def dueL (f i j N l : Int) : List Int := (sqL f i j N).map fun t => cid (fplT t l.toNat) l
theorem sq_at (f i j N : Int) {k : Nat} (h : k < 4) : (sqL f i j N)[k]? = some (nbE f i j N k) := by
  rcases four_k h with rfl | rfl | rfl | rfl <;> rfl
theorem due_at (f i j N l : Int) {k : Nat} (h : k < 4) : (dueL f i j N l)[k]? = some (cid (fplT (nbE f i j N k) l.toNat) l) := by
  unfold dueL
  rw [List.getElem?_map, sq_at f i j N h]
  rfl
theorem take_snoc {α : Type} {l : List α} {k : Nat} {a : α} (h : l[k]? = some a) : l.take (k + 1) = l.take k ++ [a] := by
  rw [List.take_add_one, h]; rfl
theorem ov2 {m m' : Str → Option Value} {x : Str} {v : Option Value} (h : m x = v) (e : m = m') : m = fun y => if y = x then v else m' y := funext fun y => by
  by_cases hy : y = x
  · rw [if_pos hy, hy, h]
  · rw [if_neg hy, ← e]
/-- between two turns over the edges -/
def JE (c5 Dd Ds : Addr) (m0 : Str → Option Value) (dl : List Int) (sl : List (Int × Int × Int)) (k : Nat) (m : Str → Option Value) (nw : List (Addr × Obj)) : Prop :=
  (∀ y, y ≠ Str.ofString "edge" → y ≠ Str.ofString "both" → m y = m0 y) ∧ ∃ o5 vd vq, ES c5 o5 Dd vd Ds vq (dl.take k) (sl.take k) nw
theorem JE.mono {c5 Dd Ds : Addr} {m0 : Str → Option Value} {dl : List Int} {sl : List (Int × Int × Int)} {k : Nat} : MonoD (JE c5 Dd Ds m0 dl sl k) := by
  rintro m nw nw' ⟨a, o5, vd, vq, e⟩ h
  exact ⟨a, o5, vd, vq, e.mono h⟩
theorem JE.next {c5 Dd Ds : Addr} {m m0 : Str → Option Value} {dl : List Int} {sl : List (Int × Int × Int)} {k : Nat} {o5 : Obj} {vd vq : List Value} {n : Int} {t : Int × Int × Int} {nw : List (Addr × Obj)} (E : ES c5 o5 Dd vd Ds vq (dl.take k ++ [n]) (sl.take k ++ [t]) nw) (hd : dl[k]? = some n) (hs : sl[k]? = some t)
    (hm : ∀ y, y ≠ Str.ofString "edge" → y ≠ Str.ofString "both" → m y = m0 y) : JE c5 Dd Ds m0 dl sl (k + 1) m nw := by
  refine ⟨hm, o5, vd, vq, ?_⟩
  rw [take_snoc hd, take_snoc hs]
  exact E
end
section
open PyProof.Rows.LCg
open PySem.SeqAt
theorem count_ints (n : Int) : ∀ ns : List Int, n ∈ ns → PySem.Spec.countIn (.int n) (ns.map PyData.int) ≠ 0
  | [], h => nomatch h
  | u :: r, h => by
    have hn := count_nonneg (.int n) (r.map PyData.int)
    simp only [List.map_cons, PySem.Spec.countIn]
    by_cases hu : u = n
    · subst hu
      have e : PySem.Spec.same (.int u) (.int u) = true := by simp [PySem.Spec.same]
      simp only [e, if_true]
      omega
    · rcases List.mem_cons.mp h with h | h
      · exact absurd h.symm hu
      · have ih := count_ints n r h
        split <;> omega
section
variable {prog : Program} {w : World} {A : Around} {E : Value → Shared → Prop} {s : Shared} {h₀ : Heap} {L : Addr} {nw : List (Addr × Obj)}
theorem notin_ints {D : Addr} {vs : List Value} {ns : List Int} {n : Int} {t : Tok} {Q : Value → Shared → Prop} (N : News h₀ L s.heap nw) (hm : (D, lst vs) ∈ nw) (hI : IntsAre vs ns) (hin : n ∈ ns) (hu : A.units + 65 < cLine) (h : Q (.bool false) s) :
    wpAny (model prog w) A (compareOp .NotIn (.int n t) (.ref D)) Q E s := by
  refine notIn_list_dataH (reads_newData ⟨_, (N _ hm).1, rfl, _, rfl⟩ (ke_carried hI)) (Reads.int n t) (ke_shaped_ints _) (by rfl) hu (fun y hy => ?_) ?_
  · obtain ⟨u, _, rfl⟩ := List.mem_map.mp hy
    rfl
  · rw [decide_eq_true (count_ints n ns hin)]
    exact h
theorem tup_item {value slice : PySem.Expr} {T : Addr} {vs : List Value} {k : Nat} {i : Int} {u : Tok} {c : Nat} {v : Value} {Q : Value → Shared → Prop} (N : News h₀ L s.heap nw) (hm : (T, ({ cls := .type "tuple", data := .seq vs.toArray c } : Obj)) ∈ nw) (hl : vs.length = 4) (hi : i = (k : Int)) (hk : k < 4) (hx : vs[k]? = some v) (h : Q v s)
    (hs : subscripted slice false (.ref T) (.int i u) = operate [.ref T, .int i u] (getItem (.ref T) (.int i u)) := by with_unfolding_all rfl) : wpAny (model prog w) A (subscriptTail value slice (.ref T) (.int i u)) Q E s := by
  refine item_tupleT (l := vs) (j := k) (News.isTup N hm) (by omega) (by omega) ?_ hx h hs
  rw [hl, hi]
  rcases four_k hk with rfl | rfl | rfl | rfl <;> rfl
/-- all the ledger but one entry -/
theorem keep_but (c : Addr) (nw : List (Addr × Obj)) : ∃ kept : List (Addr × Obj), (∀ p ∈ kept, p ∈ nw) ∧ (∀ p ∈ kept, p.1 ≠ c) ∧ ∀ p ∈ nw, p.1 ≠ c → p ∈ kept :=
  ⟨nw.filter (fun p => decide (p.1 ≠ c)), fun _ hp => (List.mem_filter.mp hp).1, fun _ hp => of_decide_eq_true (List.mem_filter.mp hp).2, fun _ hp hn => List.mem_filter.mpr ⟨hp, decide_eq_true hn⟩⟩
end
end
def seqOf (K : Frag) (a : Addr) : Option (Array Value) := match K.lookup a with
  | some ⟨.type s, _, .seq vs _, _⟩ => if s == "list" then some vs else none
  | _ => none
theorem seqOf_is {K : Frag} {a : Addr} {vs : Array Value} {h : Heap} (e : seqOf K a = some vs) (X : K.In h) : h.IsList a vs := by
  unfold seqOf at e
  split at e
  · rename_i s od vs' n sl heq
    split at e
    · rename_i hs
      cases e
      refine ⟨_, X _ _ heq, ?_, n, rfl⟩
      show Value.type s = Value.type "list"
      rw [LawfulBEq.eq_of_beq hs]
    · cases e
  · cases e
def refsOk (K : Frag) (a b : Addr) : Bool := match seqOf K a with
  | some vs => vs.size == 8 && ((List.range 8).all fun r => match vs[r]? with | some (.ref c) => c == b + r | _ => false)
  | none => false
def rowOk (K : Frag) (a : Addr) (f : Nat → Int) : Bool := match seqOf K a with
  | some vs => (List.range 128).all fun k => match vs[k]? with | some (.int i _) => i == f k | _ => false
  | none => false
theorem refs_at {K : Frag} {a b : Addr} {h : Heap} (e : refsOk K a b = true) (X : K.In h) {r : Nat} (hr : r < 8) : ∃ vs, h.IsList a vs ∧ vs[r]? = some (.ref (b + r)) := by
  unfold refsOk at e
  split at e
  · rename_i vs hv
    refine ⟨vs, seqOf_is hv X, ?_⟩
    rw [Bool.and_eq_true] at e
    have q := List.all_eq_true.mp e.2 r (List.mem_range.mpr hr)
    split at q
    · rename_i c hc
      rw [hc, LawfulBEq.eq_of_beq q]
    · cases q
  · cases e
theorem row_at {K : Frag} {a : Addr} {f : Nat → Int} {h : Heap} (e : rowOk K a f = true) (X : K.In h) {k : Nat} (hk : k < 128) : ∃ vs t, h.IsList a vs ∧ vs[k]? = some (.int (f k) t) := by
  unfold rowOk at e
  split at e
  · rename_i vs hv
    have q := List.all_eq_true.mp e k (List.mem_range.mpr hk)
    split at q
    · rename_i i t hc
      exact ⟨vs, t, seqOf_is hv X, by rw [hc, LawfulBEq.eq_of_beq q]⟩
    · cases q
  · cases e
theorem item_at {prog : Program} {w : World} {A : Around} {E : Value → Shared → Prop} {s : Shared} {value slice : PySem.Expr} {l : Addr} {vs : Array Value} {k : Int} {u : Tok} {v : Value} {Q : Value → Shared → Prop}
    (hl : s.heap.IsList l vs) (h0 : 0 ≤ k) (hhi : k < 2 ^ 63) (hx : vs[k.toNat]? = some v) (h : Q v s)
    (hs : subscripted slice false (.ref l) (.int k u) = operate [.ref l, .int k u] (getItem (.ref l) (.int k u)) := by with_unfolding_all rfl) :
    wpAny (model prog w) A (subscriptTail value slice (.ref l) (.int k u)) Q E s :=
  tail_any hl.typeIs slot_list_getitem.lookup (wpAny_getItem_list hl h0 hhi (by simpa using hx) h) hs
theorem posRefs (P : Params) : refsOk (K1 P) 148 140 = true := by kernel_rfl
theorem ijRefs (P : Params) : refsOk (K1 P) 157 149 = true := by kernel_rfl
theorem posRows (P : Params) : ((List.range 8).all fun r => rowOk (K1 P) (140 + r) fun k => posTab (128 * r + k)) = true := by kernel_rfl
theorem ijRows (P : Params) : ((List.range 8).all fun r => rowOk (K1 P) (149 + r) fun k => ijTab (128 * r + k)) = true := by kernel_rfl
theorem tabA {prog : Program} {w : World} {A : Around} {E : Value → Shared → Prop} {s : Shared} {value slice : PySem.Expr} {l b : Addr} {k : Int} {u : Tok} {Q : Value → Shared → Prop} {h₀ : Heap} {L : Addr} {m : Str → Option Value} (F : Fr h₀ L s.heap m) (X : (K1 w.params).In h₀)
    (e : refsOk (K1 w.params) l b = true) (h0 : 0 ≤ k) (hhi : k < 8) (h : Q (.ref (b + k.toNat)) s)
    (hs : subscripted slice false (.ref l) (.int k u) = operate [.ref l, .int k u] (getItem (.ref l) (.int k u)) := by with_unfolding_all rfl) :
    wpAny (model prog w) A (subscriptTail value slice (.ref l) (.int k u)) Q E s := by
  obtain ⟨vs, hl, hx⟩ := refs_at e (X.keeps F.keep) (r := k.toNat) (by omega)
  exact item_at hl h0 (by omega) hx h hs
theorem tabB {prog : Program} {w : World} {A : Around} {E : Value → Shared → Prop} {s : Shared} {value slice : PySem.Expr} {b : Addr} {f : Nat → Int} {r : Nat} {k : Int} {u : Tok} {Q : Value → Shared → Prop} {h₀ : Heap} {L : Addr} {m : Str → Option Value} (F : Fr h₀ L s.heap m) (X : (K1 w.params).In h₀)
    (e : ((List.range 8).all fun r => rowOk (K1 w.params) (b + r) fun k => f (128 * r + k)) = true) (hr : r < 8) (h0 : 0 ≤ k) (hhi : k < 128) (h : ∀ D t, D = f (128 * r + k.toNat) → Q (.int D t) s)
    (hs : subscripted slice false (.ref (b + r)) (.int k u) = operate [.ref (b + r), .int k u] (getItem (.ref (b + r)) (.int k u)) := by with_unfolding_all rfl) :
    wpAny (model prog w) A (subscriptTail value slice (.ref (b + r)) (.int k u)) Q E s := by
  have e1 := List.all_eq_true.mp e r (List.mem_range.mpr hr)
  obtain ⟨vs, t, hl, hx⟩ := row_at e1 (X.keeps F.keep) (k := k.toNat) (by omega)
  exact item_at hl h0 (by omega) hx (h _ t rfl) hs
local macro_rules | `(tactic| walk_at $s:str) => `(tactic| k_extra $s)
theorem all_ne_lt {d : Addr} {news : List (Addr × Obj)} (h : ∀ p ∈ news, p.1 < d) : ∀ p ∈ news, p.1 ≠ d := fun p hp => Nat.ne_of_lt (h p hp)
theorem T1aw1 : True := by
  k_with_none
  (k_with "ROOM" => first | exact room (by assumption) (by exact rfl) | exact room2 (by assumption) (by exact rfl) | exact room0 (by assumption) | exact roomD (by assumption) (by exact rfl) | exact roomD2 (by assumption) (by exact rfl) | exact roomD0 (by assumption) (by exact rfl) | exact Nat.le_of_ble_eq_true rfl | ktr_room)
  (k_with "UNITS" => first | exact room (by assumption) (by exact rfl) | exact room2 (by assumption) (by exact rfl) | exact roomU2 (by assumption) (by exact rfl) | exact roomU (by assumption) (by exact rfl) | exact Nat.le_of_ble_eq_true rfl | ktr_units)
  (k_with "LO" => first | with_reducible assumption | decide | with_reducible first | exact Int.natCast_nonneg _ | exact lo_of (by assumption) (by decide) | exact hi_of (by assumption) (by decide) | exact lo_of2 (by assumption) (by decide) | exact hi_of2 (by assumption) (by decide) | exact le_of (by assumption) (by decide) | exact le_of2 (by assumption) (by decide) | exact ge_of (by assumption) (by decide) | exact ge_of2 (by assumption) (by decide) | exact mlo (by assumption) (by decide) | exact mhi (by assumption) (by decide) | exact mle (by assumption) (by decide) | exact mge (by assumption) (by decide) | exact m2le (by assumption) (by decide) | exact m2a (by assumption) (by decide) | exact m2b (by assumption) (by decide) | exact m2c (by assumption) (by decide) | exact na_lo (by assumption) (by decide) | exact na_hi (by assumption) (by decide) | exact na_of (by assumption) (by decide) | exact na_of2 (by assumption) (by decide) | exact na_neg (by assumption) | exact na_lt (by assumption) (by decide) | exact na_ap (by assumption) (by assumption) (by decide) | exact lo_ap (by assumption) (by decide) | exact hi_ap (by assumption) (by decide) | exact hi_ap2 (by assumption) (by decide) | exact ge_ap (by assumption) (by decide) | exact ge_ap2 (by assumption) (by decide))
  (k_with "OM" => first | k_extra "LO" | with_reducible exact And.left (by assumption) | with_reducible exact And.right (by assumption) | omega)
  (k_with "MEM" => first | exact List.Mem.head _ | assumption | (refine List.mem_cons_of_mem _ ?_; k_extra "MEM"))
  (k_with "SUB" => ((try simp only [List.forall_mem_cons]); (repeat' apply And.intro); all_goals first | k_extra "MEM" | (intro p9 h9; simp only [List.mem_cons, h9, or_true])))
  (k_with "ENTER" => (refine' code_def ?k1 ?k2 ?k3 ?k4 ?k5 ?kA ?kF ?kK ?k6 ?k7 ?k8 ?k9 ?kB ?_ ?c2 ?c3 ?c4 ?c5; (case kA => exact rfl); (case kF => exact rfl); (case kK => first | exact rfl | assumption); (case k1 => k_asm); (case k2 => k_asm); (case k3 => k_asm); (case k4 => k_asm); (case k5 => k_asm); (case k6 => k_is); (case k7 => k_is); (case k8 => k_extra "ROOM"); (case k9 => first | exact BindsTo.of_eq rfl | exact binds_K (by k_in) rfl (by k_is) rfl rfl rfl | fail "ENTER: no rule for these arguments"); (case c5 => decide); (case kB => exact locs rfl); (case c2 => exact rfl); (case c3 => exact rfl); (case c4 => exact rfl); k_whole; intro g' L' h' FG' F' N' B' X' T'; (try dsimp only); (try k_lift B'); (try k_fold)))
  trivial
theorem meth_class {prog : Program} {w : World} {A : Around} {E : Value → Shared → Prop} {s : Shared} {K : Frag} {x C : Addr} {ox : Obj} {od : Option Obj} {L : Addr} {h₀ : Heap} {m : Str → Option Value} {pl : Sem Bool} {Q : Value × List Value → Shared → Prop}
    (F : Fr h₀ L s.heap m) (X₀ : K.In h₀) (I : InstAt s.heap x ox C od) (hg : plainGet K C "__class__" = true)
    (hf : findIn K (.ref C) "__class__" = some (some (.builtin "object.__class__")))
    (h : wpAny (model prog w) A (getAttr (.ref x) "__class__") (fun v => Q (v, [])) E s) : wpAny (model prog w) A (getMethod (.ref x) "__class__" pl) Q E s := by
  have hcan := PySem.F.canon_object_ga
  have X : K.In s.heap := X₀.keeps F.keep
  obtain ⟨hga, hk⟩ := plainGet_of hg
  have ht : typeOf (.builtin "object.__class__") = pure (.type "getset_descriptor") := by with_unfolding_all rfl
  unfold getMethod specialOf
  refine wpAny_bind (wpAny_bind (I.type.here ((looks_findIn X hga).here ?_)))
  dsimp only
  rw [hcan, if_neg (by decide)]
  refine wpAny_bind (wpAny_bind (I.type.here ((looks_findIn X hk).here ?_)))
  refine wpAny_bind (wpAny_bind (I.type.here ((looks_findIn X hf).here ?_)))
  dsimp only
  rw [ht]
  refine wpAny_bind (wpAny_pure ?_)
  rw [if_pos (by decide +kernel)]
  exact wpAny_bind (wpAny_mono h (fun _ _ z => wpAny_pure z) fun _ _ z => z)
theorem T1aw2 : True := by
  (k_with "getMethod ref" => (k_here; (with_reducible show wpAny _ _ (getMethod (Value.ref _) (PySem.Str.ofString "__class__") _) _ _ _); k_dflt (refine meth_class (by k_asm) (by k_asm) (by k_inst) (by k_is) (by k_is) ?_; k_whole)))
  (k_with "ENTER*" => (refine' kp_rest ?k1 ?k2 ?k3 ?k4 ?k5 ?kA ?kF ?kK ?k6 ?k7 ?k8 ?kV ?kP ?kG ?kB ?_ ?c2 ?c3 ?c4 ?c5; (case kA => exact rfl); (case kF => exact rfl); (case kK => first | exact rfl | assumption); (case k1 => k_asm); (case k2 => k_asm); (case k3 => k_asm); (case k4 => k_asm); (case k5 => k_asm); (case k6 => k_is); (case k7 => k_is); (case k8 => k_extra "ROOM"); (case kV => kl_lit); (case kP => exact rfl); (case kG => exact fun _ => rfl); (case kB => exact fun _ => locs rfl); (case c5 => decide); (case c2 => exact rfl); (case c3 => exact rfl); (case c4 => exact rfl); k_whole; intro D' g' L' h' l1 FG' F' N' B' X' T'; (try k_lt l1); (try dsimp only); (try k_lift B'); (try k_fold)))
  trivial
theorem fill1 (P : Params) (h : PySem.Challenge.rw_lp0002_01.Holds) : K1 P = K1 P ∧ PySem.Challenge.rw_lp0002_01.Holds := by
  k_fill
  exact ⟨rfl, h⟩
abbrev cellI (d : Addr) : Obj := instObj 561 d
abbrev cellD (w : World) (n : Int) (t tk : Tok) : Obj := dictOf [⟨PyData.keyHash w.params (Str.ofString "_CellId__id"), .str (Str.ofString "_CellId__id") tk, .int n t⟩] 1
abbrev PR : Program := Challenge.rw_lp0002_01.row.prog
theorem cb_retR {R : Result → Shared → Prop} {h₀ h' : Heap} {L : Addr} {m : Str → Option Value} {news : List (Addr × Obj)} {s : Shared} {x y : Int} {t : Tok} {tk' : Nat} (hret : ∀ (t : Tok) (h' : Heap) (tk' : Nat), Fr h₀ L h' m → News h₀ L h' news → R (.ok (.ret (.int x t))) { s with heap := h', toks := tk' }) (e : y = x) (F : Fr h₀ L h' m) (N : News h₀ L h' news) : R (.ok (.ret (.int y t))) { s with heap := h', toks := tk' } := by
  subst e
  exact hret t h' tk' F N
theorem drop_to {h₀ h : Heap} {L : Addr} {news news' : List (Addr × Obj)} (N : News h₀ L h news') (hs : ∀ p ∈ news, p ∈ news') : News h₀ L h news := fun p hp => N p (hs p hp)
theorem cell_drop {h₀ h : Heap} {L : Addr} {news rest : List (Addr × Obj)} {y e : Addr} {o : Obj} (N : News h₀ L h ((y, cellI e) :: (e, o) :: rest)) (hs : ∀ p ∈ news, p ∈ rest) : News h₀ L h ((y, cellI e) :: (e, o) :: news) := by
  intro p hp
  refine N p ?_
  simp only [List.mem_cons] at hp ⊢
  rcases hp with hp | hp | hp
  · exact .inl hp
  · exact .inr (.inl hp)
  · exact .inr (.inr (hs p hp))
theorem jl {c b K r a : Int} (hr : (c ≠ 0 ∧ r = a + K) ∨ (c = 0 ∧ r = a)) (q : (c ≠ 0 ∧ b = K) ∨ (c = 0 ∧ b = 0)) : r = a + b := by
  rcases hr with ⟨h, rfl⟩ | ⟨h, rfl⟩ <;> rcases q with ⟨h', rfl⟩ | ⟨h', rfl⟩
  · rfl
  · exact absurd h' h
  · exact absurd h h'
  · omega
local macro_rules | `(tactic| k_all) => `(tactic| first | exact all_ne_lt (by assumption) | exact all_ne_lt2 (by assumption) (by assumption))
local macro_rules | `(tactic| l_bnd) => `(tactic| k_extra "LO")
local macro_rules | `(tactic| bits_by_make) => `(tactic| exact PySem.intBits_le_64 (by k_extra "LO") (by k_extra "LO"))
local macro_rules | `(tactic| mul_fits) => `(tactic| ((with_reducible apply PyProof.Rows.mulOk_of_bits); (focus bits_by_make); (focus bits_by_make); decide))
local macro_rules | `(tactic| k_mem) => `(tactic| k_extra "MEM")
structure Mk (n : Nat) : Prop
theorem words0 : True := by
  k_with_none
  (k_with "ite" => (k_here; k_openite; first
  | (refine ite_pos (by (simp only [bne_iff_ne, ne_eq, beq_iff_eq, decide_eq_true_eq, Bool.not_eq_true, bne_eq_false_iff_eq]); omega) ?_; walk_say "DECIDED")
  | (refine ite_neg (by (simp only [bne_iff_ne, ne_eq, beq_iff_eq, decide_eq_true_eq, Bool.not_eq_true, bne_eq_false_iff_eq]); omega) ?_; walk_say "DECIDED")))
  (k_with "PI" => first | ((with_reducible apply PI.name); (focus (exact rfl)); (focus (exact rfl)); (focus (exact rfl)); (focus (decide))) | ((with_reducible apply PI.lit)) | ((with_reducible apply PI.cell); (focus (exact rfl)); (focus (k_mem)); (focus (first | assumption | exact rfl)); (focus (exact rfl)); (focus (exact rfl)); (focus (decide))) | ((with_reducible apply PI.glob); (focus (k_asm)); (focus (k_asm)); (focus (k_is)); (focus (exact rfl)); (focus (exact rfl)); (focus (decide))) | ((with_reducible apply PI.add); (focus (k_extra "PI")); (focus (k_extra "PI"))) | ((with_reducible apply PI.sub); (focus (k_extra "PI")); (focus (k_extra "PI"))) | ((with_reducible apply PI.mul); (focus (k_extra "PI")); (focus (k_extra "PI")); (focus (mul_fits))) | ((with_reducible apply PI.and); (focus (k_extra "PI")); (focus (k_extra "PI"))) | ((with_reducible apply PI.or); (focus (k_extra "PI")); (focus (k_extra "PI"))) | ((with_reducible apply PI.xor); (focus (k_extra "PI")); (focus (k_extra "PI"))) | ((with_reducible apply PI.shr); (focus (k_extra "PI")); (focus (k_extra "PI")); (focus (k_extra "OM"))) | ((with_reducible apply PI.shlS); (focus (k_extra "PI")); (focus (k_extra "PI")); (focus (k_extra "OM")); (focus (k_extra "OM")); (focus ((first | exact Or.inl (by k_extra "OM") | exact Or.inl (by k_extra "NA") | exact Or.inr ⟨_, by bits_by_make, by decide⟩)))) | ((with_reducible apply PI.neg); (focus (k_extra "PI"))) | ((with_reducible apply PI.mod); (focus (k_extra "PI")); (focus (k_extra "PI")); (focus (first | decide | k_extra "OM"))) | k_extra "PIC")
  (k_with "PIC" => ((fail_if_success (with_reducible apply PV.nono)); (first | with_reducible show PI _ (Expr.Attribute _ _ _) _ | with_reducible show PI _ (Expr.Subscript _ _ _) _ | with_reducible show PI _ (Expr.Call (Expr.Name (PySem.Str.ofString "_quotient") _) _ _ _) _ | with_reducible show PI _ (Expr.Call (Expr.Name (PySem.Str.ofString "_law_place") _) _ _ _) _ | with_reducible show PI _ (Expr.Call (Expr.Name (PySem.Str.ofString "max") _) _ _ _) _ | with_reducible show PI _ (Expr.Call (Expr.Name (PySem.Str.ofString "min") _) _ _ _) _ | with_reducible show PI _ (Expr.Call (Expr.Name (PySem.Str.ofString "abs") _) _ _ _) _ | with_reducible show PI _ (Expr.Call (Expr.Name (PySem.Str.ofString "_law_number") _) _ _ _) _ | with_reducible show PI _ (Expr.Call (Expr.Attribute _ (PySem.Str.ofString "id") _) _ _ _) _ | with_reducible show PI _ (Expr.Call (Expr.Attribute _ (PySem.Str.ofString "lsb") _) _ _ _) _ | with_reducible show PI _ (Expr.Call (Expr.Attribute _ (PySem.Str.ofString "level") _) _ _ _) _ | with_reducible show PI _ (Expr.Call (Expr.Attribute _ (PySem.Str.ofString "face") _) _ _ _) _ | with_reducible show PI _ (Expr.Call (Expr.Attribute _ (PySem.Str.ofString "lsb_for_level") _) _ _ _) _ | with_reducible show PI _ (Expr.Call (Expr.Attribute _ (PySem.Str.ofString "get_size_ij") _) _ _ _) _ | with_reducible show PI _ (Expr.Call (Expr.Attribute _ (PySem.Str.ofString "st_to_ij") _) _ _ _) _ | with_reducible show PI _ (Expr.Call (Expr.Attribute _ (PySem.Str.ofString "dot_prod") _) _ _ _) _ | with_reducible show PI _ (Expr.Call (Expr.Attribute _ (PySem.Str.ofString "largest_abs_component") _) _ _ _) _); focus (refine PV.mk fun s9 Q9 E9 F9 N9 k9 => ?_; k_steps; (try simp only [Int.reduceToNat, Int.toNat_zero, Int.toNat_one, List.getD_cons_zero, List.getD_cons_succ]); exact k9 _ _ _ (by k_asm) (by first | k_asm | exact drop_to (by k_asm) (by k_extra "SUB")))))
  (k_with "PV" => first | ((with_reducible apply PV.name); (focus (exact rfl)); (focus (exact rfl)); (focus (exact rfl)); (focus (decide))) | ((with_reducible apply PV.glob); (focus (k_asm)); (focus (k_asm)); (focus (k_is)); (focus (exact rfl)); (focus (exact rfl)); (focus (decide))) | k_extra "PI")
  (k_with "PT" => first | ((with_reducible apply PT.eq); (focus (k_extra "PI")); (focus (k_extra "PI")); (focus (with_unfolding_all rfl))) | ((with_reducible apply PT.ne); (focus (k_extra "PI")); (focus (k_extra "PI")); (focus (with_unfolding_all rfl))) | ((with_reducible apply PT.lt); (focus (k_extra "PI")); (focus (k_extra "PI")); (focus (with_unfolding_all rfl))) | ((with_reducible apply PT.le); (focus (k_extra "PI")); (focus (k_extra "PI")); (focus (with_unfolding_all rfl))) | ((with_reducible apply PT.gt); (focus (k_extra "PI")); (focus (k_extra "PI")); (focus (with_unfolding_all rfl))) | ((with_reducible apply PT.ge); (focus (k_extra "PI")); (focus (k_extra "PI")); (focus (with_unfolding_all rfl))))
  (k_with "eval BinOp" => (k_here; k_dflt (refine PV.use  (by k_asm) (by k_asm) (by k_extra "PI") ?_); k_whole; intro t9 h9 tk9 F9 N9; (try dsimp only); (try k_fold)))
  (k_with "eval UnaryOp" => (k_here; k_dflt (refine PV.use  (by k_asm) (by k_asm) (by k_extra "PI") ?_); k_whole; intro t9 h9 tk9 F9 N9; (try dsimp only); (try k_fold)))
  (k_with "isTrue Compare" => (k_here; k_dflt (refine PT.use  (by k_asm) (by k_asm) (by k_extra "PT") ?_); k_whole; intro h9 tk9 F9 N9; (try dsimp only)))
  (k_with "spliced" => (k_here; (with_reducible show wpAny _ _ (spliced (backTo _ (starEach [_] _))) _ _ _); k_dflt (refine args1  (by k_asm) (by k_asm) (by k_extra "PV") ?_); k_whole; intro t09 h9 tk9 F9 N9; (try dsimp only); (try k_fold)))
  (k_with "spliced" => (k_here; (with_reducible show wpAny _ _ (spliced (backTo _ (starEach [_, _] _))) _ _ _); (fail_if_success (with_reducible show wpAny _ _ (spliced (backTo _ (starEach (Expr.Tuple _ _ _ :: _) _))) _ _ _)); k_dflt (refine args2  (by k_asm) (by k_asm) (by k_extra "PV") (by k_extra "PV") ?_); k_whole; intro t09 t19 h9 tk9 F9 N9; (try dsimp only); (try k_fold)))
  (k_with "spliced" => (k_here; (with_reducible show wpAny _ _ (spliced (backTo _ (starEach [_, _, _] _))) _ _ _); (fail_if_success (with_reducible show wpAny _ _ (spliced (backTo _ (starEach (Expr.Tuple _ _ _ :: _) _))) _ _ _)); k_dflt (refine args3  (by k_asm) (by k_asm) (by k_extra "PV") (by k_extra "PV") (by k_extra "PV") ?_); k_whole; intro t09 t19 t29 h9 tk9 F9 N9; (try dsimp only); (try k_fold)))
  (k_with "spliced" => (k_here; (with_reducible show wpAny _ _ (spliced (backTo _ (starEach [_, _, _, _] _))) _ _ _); (fail_if_success (with_reducible show wpAny _ _ (spliced (backTo _ (starEach (Expr.Tuple _ _ _ :: _) _))) _ _ _)); k_dflt (refine args4  (by k_asm) (by k_asm) (by k_extra "PV") (by k_extra "PV") (by k_extra "PV") (by k_extra "PV") ?_); k_whole; intro t09 t19 t29 t39 h9 tk9 F9 N9; (try dsimp only); (try k_fold)))
  (k_with "exec Assign" => (k_here; (with_reducible show wpAny _ _ (exec (Stmt.Assign [Expr.Tuple [Expr.Name _ _, Expr.Name _ _] _ _] (Expr.Tuple [_, _] _ _) _) _) _ _ _); k_dflt (refine asg2  (by k_asm) (by k_asm) (by k_extra "PV") (by k_extra "PV") ?_); k_whole; intro t9 u9 h9 tk9 F9 N9; (try dsimp only)))
  (k_with "call ref" => ((with_reducible show wpAny _ _ (call (Value.ref 330) _) _ _ _); k_here; k_dflt (refine idC (by k_asm) (by k_asm) (by k_asm) (by k_asm) (by k_asm) (by first | exact rfl | assumption) (by k_mem) (by k_mem) (by k_extra "ROOM") (by k_extra "UNITS") ?_; k_whole; intro t9 h9 tk9 F9 N9; (try dsimp only); (try k_fold))))
  (k_with "call ref" => ((with_reducible show wpAny _ _ (call (Value.ref 351) _) _ _ _); k_here; k_dflt (refine faceC (by k_asm) (by k_asm) (by k_asm) (by k_asm) (by k_asm) (by first | exact rfl | assumption) (by k_mem) (by k_mem) (by k_extra "ROOM") (by k_extra "UNITS") ?_; k_whole; intro t9 h9 tk9 F9 N9; (try dsimp only); (try k_fold))))
  (k_with "call ref" => ((with_reducible show wpAny _ _ (call (Value.ref 365) _) _ _ _); k_here; k_dflt (refine leafC (by k_asm) (by k_asm) (by k_asm) (by k_asm) (by k_asm) (by first | exact rfl | assumption) (by k_mem) (by k_mem) (by first | assumption | exact rfl) (by k_extra "ROOM") (by k_extra "UNITS") ?_; k_whole; intro h9 tk9 F9 N9; (try dsimp only); (try k_fold))))
  (k_with "ROOM" => first | exact room (by assumption) (by exact rfl) | exact room2 (by assumption) (by exact rfl) | exact room0 (by assumption) | exact roomD (by assumption) (by exact rfl) | exact roomD2 (by assumption) (by exact rfl) | exact roomD0 (by assumption) (by exact rfl) | exact Nat.le_of_ble_eq_true rfl | ktr_room)
  (k_with "UNITS" => first | exact room (by assumption) (by exact rfl) | exact room2 (by assumption) (by exact rfl) | exact roomU2 (by assumption) (by exact rfl) | exact roomU (by assumption) (by exact rfl) | exact Nat.le_of_ble_eq_true rfl | ktr_units)
  (k_with "LO" => first | with_reducible assumption | decide | with_reducible first | exact Int.natCast_nonneg _ | exact lo_of (by assumption) (by decide) | exact hi_of (by assumption) (by decide) | exact lo_of2 (by assumption) (by decide) | exact hi_of2 (by assumption) (by decide) | exact le_of (by assumption) (by decide) | exact le_of2 (by assumption) (by decide) | exact ge_of (by assumption) (by decide) | exact ge_of2 (by assumption) (by decide) | exact mlo (by assumption) (by decide) | exact mhi (by assumption) (by decide) | exact mle (by assumption) (by decide) | exact mge (by assumption) (by decide) | exact m2le (by assumption) (by decide) | exact m2a (by assumption) (by decide) | exact m2b (by assumption) (by decide) | exact m2c (by assumption) (by decide) | exact na_lo (by assumption) (by decide) | exact na_hi (by assumption) (by decide) | exact na_of (by assumption) (by decide) | exact na_of2 (by assumption) (by decide) | exact na_neg (by assumption) | exact na_lt (by assumption) (by decide) | exact na_ap (by assumption) (by assumption) (by decide) | exact lo_ap (by assumption) (by decide) | exact hi_ap (by assumption) (by decide) | exact hi_ap2 (by assumption) (by decide) | exact ge_ap (by assumption) (by decide) | exact ge_ap2 (by assumption) (by decide))
  (k_with "OM" => first | k_extra "LO" | with_reducible exact And.left (by assumption) | with_reducible exact And.right (by assumption) | omega)
  (k_with "MEM" => first | exact List.Mem.head _ | assumption | (refine List.mem_cons_of_mem _ ?_; k_extra "MEM"))
  (k_with "SUB" => ((try simp only [List.forall_mem_cons]); (repeat' apply And.intro); all_goals first | k_extra "MEM" | (intro p9 h9; simp only [List.mem_cons, h9, or_true])))
  (k_with "ENTER" => (refine' code_def ?k1 ?k2 ?k3 ?k4 ?k5 ?kA ?kF ?kK ?k6 ?k7 ?k8 ?k9 ?kB ?_ ?c2 ?c3 ?c4 ?c5; (case kA => exact rfl); (case kF => exact rfl); (case kK => first | exact rfl | assumption); (case k1 => k_asm); (case k2 => k_asm); (case k3 => k_asm); (case k4 => k_asm); (case k5 => k_asm); (case k6 => k_is); (case k7 => k_is); (case k8 => k_extra "ROOM"); (case k9 => first | exact BindsTo.of_eq rfl | exact binds_K (by k_in) rfl (by k_is) rfl rfl rfl | fail "ENTER: no rule for these arguments"); (case c5 => decide); (case kB => exact locs rfl); (case c2 => exact rfl); (case c3 => exact rfl); (case c4 => exact rfl); k_whole; intro g' L' h' FG' F' N' B' X' T'; (try dsimp only); (try k_lift B'); (try k_fold)))
  (k_with "getMethod ref" => (k_here; (with_reducible show wpAny _ _ (getMethod (Value.ref _) (PySem.Str.ofString "__class__") _) _ _ _); k_dflt (refine meth_class (by k_asm) (by k_asm) (by k_inst) (by k_is) (by k_is) ?_; k_whole)))
  (k_with "ENTER*" => (refine' kp_rest ?k1 ?k2 ?k3 ?k4 ?k5 ?kA ?kF ?kK ?k6 ?k7 ?k8 ?kV ?kP ?kG ?kB ?_ ?c2 ?c3 ?c4 ?c5; (case kA => exact rfl); (case kF => exact rfl); (case kK => first | exact rfl | assumption); (case k1 => k_asm); (case k2 => k_asm); (case k3 => k_asm); (case k4 => k_asm); (case k5 => k_asm); (case k6 => k_is); (case k7 => k_is); (case k8 => k_extra "ROOM"); (case kV => kl_lit); (case kP => exact rfl); (case kG => exact fun _ => rfl); (case kB => exact fun _ => locs rfl); (case c5 => decide); (case c2 => exact rfl); (case c3 => exact rfl); (case c4 => exact rfl); k_whole; intro D' g' L' h' l1 FG' F' N' B' X' T'; (try k_lt l1); (try dsimp only); (try k_lift B'); (try k_fold)))
  (k_with "call ref" => ((with_reducible show wpAny _ _ (call (Value.ref 372) _) _ _ _); k_here; k_dflt (refine levelC (by k_asm) (by k_asm) (by k_asm) (by k_asm) (by k_asm) (by first | exact rfl | assumption) (by k_mem) (by k_mem) (by k_extra "OM") (by k_extra "OM") (by k_extra "ROOM") (by k_extra "UNITS") ?_; k_whole; intro t9 h9 tk9 F9 N9; (try dsimp only); (try k_fold))))
  (k_with "call ref" => ((with_reducible show wpAny _ _ (call (Value.ref 134) _) _ _ _); k_here; k_dflt (refine ptC (by k_asm) (by k_asm) (by k_asm) (by k_asm) (by k_asm) (by first | exact rfl | assumption)  (by k_extra "ROOM") (by k_extra "UNITS") ?_;  k_whole; intro y9 e9 T9 t1 t2 t3 t4 h9 tk9 F9 N9; (try dsimp only); (try k_fold))))
  (k_with "call ref" => ((with_reducible show wpAny _ _ (call (Value.ref 593) _) _ _ _); k_here; k_dflt (refine fuvC (by k_asm) (by k_asm) (by k_asm) (by k_asm) (by k_asm) (by first | exact rfl | assumption) (by k_extra "OM") (by k_extra "OM") (by k_extra "ROOM") (by k_extra "UNITS") ?_; k_whole; intro y9 e9 T9 t1 t2 t3 t4 h9 tk9 F9 N9; (try dsimp only); (try k_fold))))
  (k_with "call ref" => ((with_reducible show wpAny _ _ (call (Value.ref 600) _) _ _ _); k_here; k_dflt (refine normC (by k_asm) (by k_asm) (by k_asm) (by k_asm) (by k_asm) (by first | exact rfl | assumption) (by k_extra "OM") (by k_extra "OM") (by k_extra "ROOM") (by k_extra "UNITS") ?_; k_whole; intro y9 e9 T9 t1 t2 t3 t4 h9 tk9 F9 N9; (try dsimp only); (try k_fold))))
  (k_with "call ref" => ((with_reducible show wpAny _ _ (call (Value.ref 124) _) _ _ _); k_here; k_dflt (refine dotC (by k_asm) (by k_asm) (by k_asm) (by k_asm) (by k_asm) (by first | exact rfl | assumption) (by k_mem) (by k_mem) (by k_mem) (by k_mem) (by k_mem) (by k_mem) (by k_extra "OM") (by k_extra "OM") (by k_extra "OM") (by k_extra "OM") (by k_extra "OM") (by k_extra "OM") (by k_extra "ROOM") (by k_extra "UNITS") ?_; k_whole; intro t9 h9 tk9 F9 N9; (try dsimp only); (try k_fold))))
  (k_with "call ref" => ((with_reducible show wpAny _ _ (call (Value.ref 110) _) _ _ _); k_here; k_dflt (refine lacC (by k_asm) (by k_asm) (by k_asm) (by k_asm) (by k_asm) (by first | exact rfl | assumption) (by k_mem) (by k_mem) (by k_mem) (by first | assumption | exact rfl) (by k_extra "ROOM") (by k_extra "UNITS") ?_; k_whole; intro t9 h9 tk9 F9 N9; (try dsimp only); (try k_fold))))
  (k_with "call ref" => ((with_reducible show wpAny _ _ (call (Value.ref 572) _) _ _ _); k_here; k_dflt (refine quotC (by k_asm) (by k_asm) (by k_asm) (by k_asm) (by k_asm) (by first | exact rfl | assumption) (by first | assumption | omega) (by k_extra "OM") (by k_extra "OM") (by k_extra "ROOM") (by k_extra "UNITS") ?_; k_whole; intro t9 h9 tk9 F9 N9; (try dsimp only); (try k_fold))))
  (k_with "call ref" => ((with_reducible show wpAny _ _ (call (Value.ref 579) _) _ _ _); k_here; k_dflt (refine vfC (by k_asm) (by k_asm) (by k_asm) (by k_asm) (by k_asm) (by first | exact rfl | assumption) (by k_mem) (by k_mem) (by k_mem) (by k_extra "OM") (by k_extra "OM") (by k_extra "OM") (by k_extra "OM") (by k_extra "OM") (by assumption) (by k_extra "ROOM") (by k_extra "UNITS") ?_; k_whole; intro T9 t1 t2 h9 tk9 F9 N9; (try dsimp only); (try k_fold))))
  (k_with "call ref" => ((with_reducible show wpAny _ _ (call (Value.ref 275) _) _ _ _); k_here; k_dflt (refine stC (by k_asm) (by k_asm) (by k_asm) (by k_asm) (by k_asm) (by first | exact rfl | assumption) (by first | assumption | exact rfl) (by k_extra "ROOM") (by k_extra "UNITS") ?_; k_whole; intro t9 h9 tk9 F9 N9; (try dsimp only); (try k_fold))))
  (k_with "call ref" => ((with_reducible show wpAny _ _ (call (Value.ref 245) _) _ _ _); k_here; k_dflt (refine fijC (by k_asm) (by k_asm) (by k_asm) (by k_asm) (by k_asm) (by first | exact rfl | assumption) (by k_extra "OM") (by k_extra "OM") (by k_extra "OM") (by k_extra "OM") (by k_extra "OM") (by k_extra "OM") (by k_extra "ROOM") (by k_extra "UNITS") ?_; k_whole; intro y9 e9 t9 tk9 h9 tt9 F9 N9; (try dsimp only); (try k_fold))))
  (k_with "call ref" => ((with_reducible show wpAny _ _ (call (Value.ref 255) _) _ _ _); k_here; k_dflt (refine wrapC (by k_asm) (by k_asm) (by k_asm) (by k_asm) (by k_asm) (by first | exact rfl | assumption) (by k_extra "OM") (by k_extra "OM") (by k_extra "OM") (by k_extra "OM") (by k_extra "OM") (by k_extra "OM") (by k_extra "ROOM") (by k_extra "UNITS") ?_; k_whole; intro y9 e9 t9 tk9 h9 tt9 F9 N9; (try dsimp only); (try k_fold))))
  (k_with "call ref" => ((with_reducible show wpAny _ _ (call (Value.ref 607) _) _ _ _); k_here; k_dflt (refine lawnumC (by k_asm) (by k_asm) (by k_asm) (by k_asm) (by k_asm) (by first | exact rfl | assumption) (by k_asm) (by l_ints) (by k_extra "OM") (by k_extra "OM") (by k_extra "OM") (by k_extra "ROOM") (by k_extra "UNITS") ?_; k_whole; intro t9 h9 tk9 F9 N9; (try dsimp only); (try k_fold))))
  (k_with "call ref" => ((with_reducible show wpAny _ _ (call (Value.ref 614) _) _ _ _); k_here; k_dflt (refine pickC (by k_asm) (by k_asm) (by k_asm) (by k_asm) (by k_asm) (by first | exact rfl | assumption) (by k_extra "OM") (by k_extra "OM") (by k_extra "ROOM") (by k_extra "UNITS") ?_; k_whole; intro r9 t9 h9 tk9 p9 q9 F9 N9; (try dsimp only); (try k_fold))))
  (k_with "call ref" => ((with_reducible show wpAny _ _ (call (Value.ref 621) _) _ _ _); k_here; k_dflt (refine placeC (by k_asm) (by k_asm) (by k_asm) (by k_asm) (by k_asm) (by first | exact rfl | assumption) (by first | assumption | omega) (by k_extra "OM") (by k_extra "OM") (by assumption) (by assumption) (by k_extra "ROOM") (by k_extra "UNITS") ?_; k_whole; intro t9 h9 tk9 F9 N9; (try dsimp only); (try k_fold))))
  (k_with "call ref" => ((with_reducible show wpAny _ _ (call (Value.ref 285) _) _ _ _); k_here; k_dflt (refine lflC (by k_asm) (by k_asm) (by k_asm) (by k_asm) (by k_asm) (by first | exact rfl | assumption) (by k_extra "OM") (by k_extra "OM") (by k_extra "ROOM") (by k_extra "UNITS") ?_; k_whole; intro t9 h9 tk9 F9 N9; (try dsimp only); (try k_fold))))
  (k_with "call ref" => ((with_reducible show wpAny _ _ (call (Value.ref 513) _) _ _ _); k_here; k_dflt (refine tofK (by k_asm) (by k_asm) (by k_asm) (by k_asm) (by k_asm) (by first | exact rfl | assumption) (by k_mem) (by k_mem) (by with_reducible assumption) (by with_reducible assumption) (by with_reducible assumption) (by with_reducible assumption) (by k_extra "ROOM") (by k_extra "UNITS") ?_; k_whole; intro T9 a1 a2 a3 a4 o9 h9 tk9 F9 N9; (try dsimp only); (try k_fold))))
  (k_with "call ref" => ((with_reducible show wpAny _ _ (call (Value.ref 541) _) _ _ _); k_here; k_dflt (refine sizeK (by k_asm) (by k_asm) (by k_asm) (by k_asm) (by k_asm) (by first | exact rfl | assumption) (by k_mem) (by k_mem) (by k_extra "OM") (by k_extra "OM") (by with_reducible assumption) (by k_extra "ROOM") (by k_extra "UNITS") ?_; k_whole; intro t9 h9 tk9 F9 N9; (try dsimp only); (try k_fold))))
  (k_with "call ref" => ((with_reducible show wpAny _ _ (call (Value.ref 635) _) _ _ _); k_here; k_dflt (refine pointC (by k_asm) (by k_asm) (by k_asm) (by k_asm) (by k_asm) (by first | exact rfl | assumption) (by k_extra "OM") (by k_extra "OM") (by k_extra "ROOM") (by k_extra "UNITS") ?_; k_whole; intro T9 t1 t2 t3 h9 tk9 F9 N9; (try dsimp only); (try k_fold))))
  trivial
section
variable {w : World} {dp un : Nat} {gd : Option (List Code)} {cn : Str} {cs : Scope} {a : Addr} {ccd : Value} {cl : List (Str × Addr)} {outer : List Env} {A₀ : Around} {base h₀ : Heap} {L : Addr} {m : Str → Option Value} {news : List (Addr × Obj)} {s : Shared}
    {mg mb : Str → Option Value} {loose : List Str} {mean : ExcName → Option Value} {Q E : Value → Shared → Prop} {R : Result → Shared → Prop}
theorem mkC {v n : Int} {t : Tok} (B : Below A₀ base outer h₀) (F : Fr h₀ L s.heap m) (X : (K1 w.params).In h₀) (N : News h₀ L s.heap news) (T : Top V1 loose mean mg mb h₀) (hk : cs.kind = .function)
    (hn : v.fmod 18446744073709551615 = n) (hd : dp + 2 < recursionLimit) (hu : un + 16 < cLine)
    (ret : ∀ (y e : Addr) (t tk : Tok) (h' : Heap) (tk' : Nat), Fr h₀ L h' m → News h₀ L h' ((y, cellI e) :: (e, cellD w (n) t tk) :: news) → (∀ p ∈ news, p.1 < e) → @LT.lt Nat _ e y → Q (.ref y) { s with heap := h', toks := tk' }) :
    wpAny (model PR w) (ktrTop dp un gd cn cs L a ccd cl outer) (call (.ref 561) [.int v t]) Q E s := by
  refine' call_cls ?k1 ?k2 ?k3 ?k4 ?k5 ?k6 ?_
  case k1 => k_asm
  case k2 => k_asm
  case k3 => k_asm
  case k4 => k_is
  case k5 => k_is
  case k6 => k_is
  intro x d h' F' N' l1 l2
  replace l2 := ltN l2
  w_top off
  k_dflt (walk_at "ENTER")
  k_steps
  subst hn
  exact ret _ _ _ _ _ _ (by k_asm) (by k_asm) l1 l2
theorem words1 : True := by
  (k_with "call ref" => ((with_reducible rename Mk 1 => hMk9); (((with_reducible show wpAny _ _ (call (Value.ref 561) _) _ _ _); k_here; k_dflt (refine mkC (by k_asm) (by k_asm) (by k_asm) (by k_asm) (by k_asm) (by first | exact rfl | assumption) (by first | assumption | exact rfl) (by k_extra "ROOM") (by k_extra "UNITS") ?_; k_whole; intro y9 e9 t9 tk9 h9 tt9 F9 N9 l1 l2; (try dsimp only); (try k_fold))))))
  trivial
theorem idC0 {x d : Addr} {n : Int} {t tk : Tok} (B : Below A₀ base outer h₀) (F : Fr h₀ L s.heap m) (X : (K1 w.params).In h₀) (N : News h₀ L s.heap news) (T : Top V1 loose mean mg mb h₀) (hk : cs.kind = .function)
    (hx : (x, cellI d) ∈ news) (hdx : (d, cellD w n t tk) ∈ news) (hd : dp + 1 < recursionLimit) (hu : un + 8 < cLine)
    (ret : ∀ (t : Tok) (h' : Heap) (tk' : Nat), Fr h₀ L h' m → News h₀ L h' news → R (.ok (.ret (.int n t))) { s with heap := h', toks := tk' }) :
    codeAny (model PR w) (ktrTop dp un gd cn cs L a ccd cl outer) (.call (.ref 330) ⟨[.ref x], []⟩) R s := by
  have hMk8 : Mk 1 := ⟨⟩
  w_top off
  k_dflt (walk_at "ENTER")
  k_steps
  exact ret _ _ _ (by k_asm) (by k_asm)
theorem idC {x d : Addr} {n : Int} {t tk : Tok} (B : Below A₀ base outer h₀) (F : Fr h₀ L s.heap m) (X : (K1 w.params).In h₀) (N : News h₀ L s.heap news) (T : Top V1 loose mean mg mb h₀) (hk : cs.kind = .function)
    (hx : (x, cellI d) ∈ news) (hdx : (d, cellD w n t tk) ∈ news) (hd : dp + 1 < recursionLimit) (hu : un + 8 < cLine)
    (ret : ∀ (t : Tok) (h' : Heap) (tk' : Nat), Fr h₀ L h' m → News h₀ L h' news → Q (.int n t) { s with heap := h', toks := tk' }) :
    wpAny (model PR w) (ktrTop dp un gd cn cs L a ccd cl outer) (call (.ref 330) [.ref x]) Q E s := wpAny_call (idC0 B F X N T hk hx hdx hd hu ret)
theorem lsbC0 {x d : Addr} {n : Int} {t tk : Tok} (B : Below A₀ base outer h₀) (F : Fr h₀ L s.heap m) (X : (K1 w.params).In h₀) (N : News h₀ L s.heap news) (T : Top V1 loose mean mg mb h₀) (hk : cs.kind = .function)
    (hx : (x, cellI d) ∈ news) (hdx : (d, cellD w n t tk) ∈ news) (hd : dp + 2 < recursionLimit) (hu : un + 16 < cLine)
    (ret : ∀ (t : Tok) (h' : Heap) (tk' : Nat), Fr h₀ L h' m → News h₀ L h' news → R (.ok (.ret (.int (Builtin.bitAnd n (-n)) t))) { s with heap := h', toks := tk' }) :
    codeAny (model PR w) (ktrTop dp un gd cn cs L a ccd cl outer) (.call (.ref 344) ⟨[.ref x], []⟩) R s := by
  have hMk8 : Mk 1 := ⟨⟩
  w_top off
  k_dflt (walk_at "ENTER")
  k_steps
  exact ret _ _ _ (by k_asm) (by k_asm)
theorem lsbC {x d : Addr} {n : Int} {t tk : Tok} (B : Below A₀ base outer h₀) (F : Fr h₀ L s.heap m) (X : (K1 w.params).In h₀) (N : News h₀ L s.heap news) (T : Top V1 loose mean mg mb h₀) (hk : cs.kind = .function)
    (hx : (x, cellI d) ∈ news) (hdx : (d, cellD w n t tk) ∈ news) (hd : dp + 2 < recursionLimit) (hu : un + 16 < cLine)
    (ret : ∀ (t : Tok) (h' : Heap) (tk' : Nat), Fr h₀ L h' m → News h₀ L h' news → Q (.int (Builtin.bitAnd n (-n)) t) { s with heap := h', toks := tk' }) :
    wpAny (model PR w) (ktrTop dp un gd cn cs L a ccd cl outer) (call (.ref 344) [.ref x]) Q E s := wpAny_call (lsbC0 B F X N T hk hx hdx hd hu ret)
theorem words2 : True := by
  (k_with "call ref" => ((with_reducible rename Mk 2 => hMk9); (((with_reducible show wpAny _ _ (call (Value.ref 561) _) _ _ _); k_here; k_dflt (refine mkC (by k_asm) (by k_asm) (by k_asm) (by k_asm) (by k_asm) (by first | exact rfl | assumption) (by first | assumption | exact rfl) (by k_extra "ROOM") (by k_extra "UNITS") ?_; k_whole; intro y9 e9 t9 tk9 h9 tt9 F9 N9 l1 l2; (try dsimp only); (try k_fold))))))
  (k_with "call ref" => ((with_reducible rename Mk 2 => hMk9); (((with_reducible show wpAny _ _ (call (Value.ref 344) _) _ _ _); k_here; k_dflt (refine lsbC (by k_asm) (by k_asm) (by k_asm) (by k_asm) (by k_asm) (by first | exact rfl | assumption) (by k_mem) (by k_mem) (by k_extra "ROOM") (by k_extra "UNITS") ?_; k_whole; intro t9 h9 tk9 F9 N9; (try dsimp only); (try k_fold))))))
  trivial
theorem faceC0 {x d : Addr} {n : Int} {t tk : Tok} (B : Below A₀ base outer h₀) (F : Fr h₀ L s.heap m) (X : (K1 w.params).In h₀) (N : News h₀ L s.heap news) (T : Top V1 loose mean mg mb h₀) (hk : cs.kind = .function)
    (hx : (x, cellI d) ∈ news) (hdx : (d, cellD w n t tk) ∈ news) (hd : dp + 2 < recursionLimit) (hu : un + 16 < cLine)
    (ret : ∀ (t : Tok) (h' : Heap) (tk' : Nat), Fr h₀ L h' m → News h₀ L h' news → R (.ok (.ret (.int (n.fdiv (2 ^ Int.toNat 61)) t))) { s with heap := h', toks := tk' }) :
    codeAny (model PR w) (ktrTop dp un gd cn cs L a ccd cl outer) (.call (.ref 351) ⟨[.ref x], []⟩) R s := by
  have hMk8 : Mk 2 := ⟨⟩
  w_top off
  k_dflt (walk_at "ENTER")
  k_steps
  exact ret _ _ _ (by k_asm) (by k_asm)
theorem faceC {x d : Addr} {n : Int} {t tk : Tok} (B : Below A₀ base outer h₀) (F : Fr h₀ L s.heap m) (X : (K1 w.params).In h₀) (N : News h₀ L s.heap news) (T : Top V1 loose mean mg mb h₀) (hk : cs.kind = .function)
    (hx : (x, cellI d) ∈ news) (hdx : (d, cellD w n t tk) ∈ news) (hd : dp + 2 < recursionLimit) (hu : un + 16 < cLine)
    (ret : ∀ (t : Tok) (h' : Heap) (tk' : Nat), Fr h₀ L h' m → News h₀ L h' news → Q (.int (n.fdiv (2 ^ Int.toNat 61)) t) { s with heap := h', toks := tk' }) :
    wpAny (model PR w) (ktrTop dp un gd cn cs L a ccd cl outer) (call (.ref 351) [.ref x]) Q E s := wpAny_call (faceC0 B F X N T hk hx hdx hd hu ret)
theorem leafC0 {x d : Addr} {n : Int} {t tk : Tok} {b : Bool} (B : Below A₀ base outer h₀) (F : Fr h₀ L s.heap m) (X : (K1 w.params).In h₀) (N : News h₀ L s.heap news) (T : Top V1 loose mean mg mb h₀) (hk : cs.kind = .function)
    (hx : (x, cellI d) ∈ news) (hdx : (d, cellD w n t tk) ∈ news) (hb : (Builtin.bitAnd n 1 != 0) = b) (hd : dp + 2 < recursionLimit) (hu : un + 16 < cLine)
    (ret : ∀ (h' : Heap) (tk' : Nat), Fr h₀ L h' m → News h₀ L h' news → R (.ok (.ret (.bool b))) { s with heap := h', toks := tk' }) :
    codeAny (model PR w) (ktrTop dp un gd cn cs L a ccd cl outer) (.call (.ref 365) ⟨[.ref x], []⟩) R s := by
  have hMk8 : Mk 2 := ⟨⟩
  w_top off
  k_dflt (walk_at "ENTER")
  k_steps
  rw [hb]; exact ret _ _ (by k_asm) (by k_asm)
theorem leafC {x d : Addr} {n : Int} {t tk : Tok} {b : Bool} (B : Below A₀ base outer h₀) (F : Fr h₀ L s.heap m) (X : (K1 w.params).In h₀) (N : News h₀ L s.heap news) (T : Top V1 loose mean mg mb h₀) (hk : cs.kind = .function)
    (hx : (x, cellI d) ∈ news) (hdx : (d, cellD w n t tk) ∈ news) (hb : (Builtin.bitAnd n 1 != 0) = b) (hd : dp + 2 < recursionLimit) (hu : un + 16 < cLine)
    (ret : ∀ (h' : Heap) (tk' : Nat), Fr h₀ L h' m → News h₀ L h' news → Q (.bool b) { s with heap := h', toks := tk' }) :
    wpAny (model PR w) (ktrTop dp un gd cn cs L a ccd cl outer) (call (.ref 365) [.ref x]) Q E s := wpAny_call (leafC0 B F X N T hk hx hdx hb hd hu ret)
theorem validC0 {x d : Addr} {n : Int} {t tk : Tok} (B : Below A₀ base outer h₀) (F : Fr h₀ L s.heap m) (X : (K1 w.params).In h₀) (N : News h₀ L s.heap news) (T : Top V1 loose mean mg mb h₀) (hk : cs.kind = .function)
    (hx : (x, cellI d) ∈ news) (hdx : (d, cellD w n t tk) ∈ news) (hf : n.fdiv (2 ^ Int.toNat 61) < 6) (hb : Builtin.bitAnd (Builtin.bitAnd n (-n)) 1537228672809129301 ≠ 0) (hd : dp + 3 < recursionLimit) (hu : un + 24 < cLine)
    (ret : ∀ (h' : Heap) (tk' : Nat), Fr h₀ L h' m → News h₀ L h' news → R (.ok (.ret (.bool true))) { s with heap := h', toks := tk' }) :
    codeAny (model PR w) (ktrTop dp un gd cn cs L a ccd cl outer) (.call (.ref 337) ⟨[.ref x], []⟩) R s := by
  have hMk8 : Mk 2 := ⟨⟩
  w_top off
  k_dflt (walk_at "ENTER")
  k_steps
  all_goals first
    | (exfalso; omega)
    | (rw [show (Builtin.bitAnd (Builtin.bitAnd n (-n)) 1537228672809129301 != 0) = true from bne_iff_ne.mpr hb]; exact ret _ _ (by k_asm) (by k_asm))
section
theorem words3 : True := by
  (k_with "call ref" => ((with_reducible rename Mk 3 => hMk9); (((with_reducible show wpAny _ _ (call (Value.ref 561) _) _ _ _); k_here; k_dflt (refine mkC (by k_asm) (by k_asm) (by k_asm) (by k_asm) (by k_asm) (by first | exact rfl | assumption) (by first | assumption | exact rfl) (by k_extra "ROOM") (by k_extra "UNITS") ?_; k_whole; intro y9 e9 t9 tk9 h9 tt9 F9 N9 l1 l2; (try dsimp only); (try k_fold))))))
  (k_with "call ref" => ((with_reducible rename Mk 3 => hMk9); (((with_reducible show wpAny _ _ (call (Value.ref 344) _) _ _ _); k_here; k_dflt (refine lsbC (by k_asm) (by k_asm) (by k_asm) (by k_asm) (by k_asm) (by first | exact rfl | assumption) (by k_mem) (by k_mem) (by k_extra "ROOM") (by k_extra "UNITS") ?_; k_whole; intro t9 h9 tk9 F9 N9; (try dsimp only); (try k_fold))))))
  (k_with "call ref" => ((with_reducible rename Mk 3 => hMk9); (((with_reducible show wpAny _ _ (call (Value.ref 337) _) _ _ _); k_here; k_dflt (refine validC (by k_asm) (by k_asm) (by k_asm) (by k_asm) (by k_asm) (by first | exact rfl | assumption) (by k_mem) (by k_mem) (by assumption) (by assumption) (by k_extra "ROOM") (by k_extra "UNITS") ?_; k_whole; intro h9 tk9 F9 N9; (try dsimp only); (try k_fold))))))
  (k_with "exec If" => ((with_reducible rename Mk 3 => hMk9); ((k_here; (with_reducible show wpAny _ _ (exec (Stmt.If _ [Stmt.AugAssign (Expr.Name _ _) Operator.Add (Expr.Constant (Const.int _) _ _) _] [] _) _) _ _ _); k_dflt (refine if_aug (by k_asm) (by k_asm) (by exact rfl) (by k_extra "PI") ?_ (by exact rfl) (by exact rfl) (by exact fun _ => rfl)); k_whole; intro r9 t9 h9 tk9 hr9 F9 N9; (try simp only [bne_eq_false_iff_eq] at hr9); have e9 := jl hr9 (by assumption); clear hr9; subst e9; (try dsimp only)))))
  trivial
theorem levelC0 {x d : Addr} {p l : Int} {t tk : Tok} (B : Below A₀ base outer h₀) (F : Fr h₀ L s.heap m) (X : (K1 w.params).In h₀) (N : News h₀ L s.heap news) (T : Top V1 loose mean mg mb h₀) (hk : cs.kind = .function)
    (hx : (x, cellI d) ∈ news) (hdx : (d, cellD w (cid p l) t tk) ∈ news) (h0 : 0 ≤ l) (h1 : l ≤ 30) (hd : dp + 3 < recursionLimit) (hu : un + 24 < cLine)
    (ret : ∀ (t : Tok) (h' : Heap) (tk' : Nat), Fr h₀ L h' m → News h₀ L h' news → R (.ok (.ret (.int l t))) { s with heap := h', toks := tk' }) :
    codeAny (model PR w) (ktrTop dp un gd cn cs L a ccd cl outer) (.call (.ref 372) ⟨[.ref x], []⟩) R s := by
  have hMk8 : Mk 3 := ⟨⟩
  have hleaf := leaf_cid (p := p) h0 h1
  w_top off
  k_dflt (walk_at "ENTER")
  by_cases hl : l = 30
  · rw [if_pos hl] at hleaf
    have hb : (Builtin.bitAnd (cid p l) 1 != 0) = true := by rw [hleaf]; rfl
    subst hl
    generalize cid p 30 = n at *
    k_steps
    all_goals first
      | exact ret _ _ _ (by k_asm) (by k_asm)
      | fail "an end"
  · rw [if_neg hl] at hleaf
    have hb : (Builtin.bitAnd (cid p l) 1 != 0) = false := by rw [hleaf]; rfl
    by_cases h15 : 15 ≤ l
    · obtain ⟨X, hX, hX0, b8, b4, b2, b1, q8, q4, q2, q1, hk⟩ := level_low (p := p) h15 h1
      rw [← hX] at hX0 q8 q4 q2 q1
      clear hX
      generalize cid p l = n at *
      k_steps
      all_goals first
        | (refine cb_retR ret ?e1 ?e2 ?e3; (case e1 => ((try simp only [bne_eq_false_iff_eq] at *); omega)); (case e2 => k_asm); (case e3 => k_asm))
        | fail "an end"
    · obtain ⟨hX0, X, hX, b8, b4, b2, b1, q8, q4, q2, q1, hk⟩ := level_high (p := p) h0 (Int.not_le.mp h15)
      rw [← hX] at q8 q4 q2 q1
      clear hX
      generalize cid p l = n at *
      k_steps
      all_goals first
        | (refine cb_retR ret ?e1 ?e2 ?e3; (case e1 => ((try simp only [bne_eq_false_iff_eq] at *); omega)); (case e2 => k_asm); (case e3 => k_asm))
        | fail "an end"
theorem levelC {x d : Addr} {p l : Int} {t tk : Tok} (B : Below A₀ base outer h₀) (F : Fr h₀ L s.heap m) (X : (K1 w.params).In h₀) (N : News h₀ L s.heap news) (T : Top V1 loose mean mg mb h₀) (hk : cs.kind = .function)
    (hx : (x, cellI d) ∈ news) (hdx : (d, cellD w (cid p l) t tk) ∈ news) (h0 : 0 ≤ l) (h1 : l ≤ 30) (hd : dp + 3 < recursionLimit) (hu : un + 24 < cLine)
    (ret : ∀ (t : Tok) (h' : Heap) (tk' : Nat), Fr h₀ L h' m → News h₀ L h' news → Q (.int l t) { s with heap := h', toks := tk' }) :
    wpAny (model PR w) (ktrTop dp un gd cn cs L a ccd cl outer) (call (.ref 372) [.ref x]) Q E s := wpAny_call (levelC0 B F X N T hk hx hdx h0 h1 hd hu ret)
end
end
theorem gen_store_eq {M : Model} {A : Around} {E : Value → Shared → Prop} {s : Shared} {name : Str} {scope : Scope} {L a : Addr} {cd : Value} {h₀ : Heap} {m : Str → Option Value} {news : List (Addr × Obj)} {x : Str} {e e' : Int} {t0 : Tok} {Q : Unit → Shared → Prop} (F : Fr h₀ L s.heap m) (N : News h₀ L s.heap news) (he : e = e')
    (h : ∀ t h', Fr h₀ L h' (fun y => if y = x then some (.int e' t) else m y) → News h₀ L h' news → Q () { s with heap := h', toks := s.toks + 1 })
    (hk : scope.kind = .function := by rfl) (hl : (envOf name scope L a cd).kindOf x = some .local := by rfl) :
    wpAny M A (storeName (envOf name scope L a cd) x (.int e t0)) Q E s := he ▸ stN F N (fun h' F' N' => h t0 h' (he ▸ F') N') hk hl
section
variable {w : World} {dp un : Nat} {gd : Option (List Code)} {cn : Str} {cs : Scope} {a : Addr} {ccd : Value} {cl : List (Str × Addr)} {outer : List Env} {A₀ : Around} {base h₀ : Heap} {L : Addr} {m : Str → Option Value} {news : List (Addr × Obj)} {s : Shared}
    {mg mb : Str → Option Value} {loose : List Str} {mean : ExcName → Option Value} {Q E : Value → Shared → Prop} {R : Result → Shared → Prop}
section
theorem words4 : True := by
  (k_with "call ref" => ((with_reducible rename Mk 4 => hMk9); (((with_reducible show wpAny _ _ (call (Value.ref 561) _) _ _ _); k_here; k_dflt (refine mkC (by k_asm) (by k_asm) (by k_asm) (by k_asm) (by k_asm) (by first | exact rfl | assumption) (by first | assumption | exact rfl) (by k_extra "ROOM") (by k_extra "UNITS") ?_; k_whole; intro y9 e9 t9 tk9 h9 tt9 F9 N9 l1 l2; (try dsimp only); (try k_fold))))))
  (k_with "call ref" => ((with_reducible rename Mk 4 => hMk9); (((with_reducible show wpAny _ _ (call (Value.ref 344) _) _ _ _); k_here; k_dflt (refine lsbC (by k_asm) (by k_asm) (by k_asm) (by k_asm) (by k_asm) (by first | exact rfl | assumption) (by k_mem) (by k_mem) (by k_extra "ROOM") (by k_extra "UNITS") ?_; k_whole; intro t9 h9 tk9 F9 N9; (try dsimp only); (try k_fold))))))
  (k_with "call ref" => ((with_reducible rename Mk 4 => hMk9); (((with_reducible show wpAny _ _ (call (Value.ref 337) _) _ _ _); k_here; k_dflt (refine validC (by k_asm) (by k_asm) (by k_asm) (by k_asm) (by k_asm) (by first | exact rfl | assumption) (by k_mem) (by k_mem) (by assumption) (by assumption) (by k_extra "ROOM") (by k_extra "UNITS") ?_; k_whole; intro h9 tk9 F9 N9; (try dsimp only); (try k_fold))))))
  (k_with "NA" => ((with_reducible rename Mk 4 => hMk9); ((rw [mask15]; exact na_mod (by decide)))))
  (k_with "binaryOp LShift int int" => ((with_reducible rename Mk 4 => hMk9); ((k_here; (with_reducible show wpAny _ _ (binaryOp _ (Value.int (Builtin.bitAnd _ 15) _) _) _ _ _); refine lshift_int_small (by k_extra "OM") (by k_extra "OM") (by rw [mask15]; exact na_mod (by decide)) ?_; (try dsimp only)))))
  (k_with "pyIter ref" => ((with_reducible rename Mk 4 => hMk9); ((k_here; (with_reducible show wpAny _ _ (pyIter (Value.ref _)) (fun it s₂ => LoopAtV _ _ _ _ _ _ _ _ _ it s₂) _ _); (rename IsRange _ _ _ _ _ _ _ _ => rg9); (rename Fr _ _ _ _ => kF9); (rename News _ _ _ _ => kN9); (k_dflt ((refine loop_rng (n := 8) (JF _ _ _) (by (exact rfl)) rg9 (by (decide)) (by (decide)) kF9 kN9 (by (exact fun _ _ _ _ J _ => J)) (by (refine jf_start ?_ (by exact rfl) (by exact rfl) (by exact rfl) (by exact rfl) (by exact rfl); assumption)) ?_ ?_); rotate_left; ((intro m9 news9 h9 tk9 hJ9 hsub9 F9 N9; (try dsimp only); (obtain ⟨nn9, oo9, a1, a2, a3, a4, hP9, e1, e2, e3, e4, e5⟩ := hJ9); (rw [ov e5, ov e4, ov e3, ov e2, ov e1] at F9); clear e1 e2 e3 e4 e5; have hM9 := fij_done (by assumption) (by assumption) (by assumption) (by assumption) (by assumption) (by assumption) hP9; dsimp only at F9)); rotate_right; ((intro k9 t9 m9 news9 h9 tk9 I9 o9 hk9 hJ9 hsub9 ho9 hoff9 F9 N9; (try dsimp only); (obtain ⟨nn9, oo9, a1, a2, a3, a4, hP9, e1, e2, e3, e4, e5⟩ := hJ9); (rw [ov e5, ov e4, ov e3, ov e2, ov e1] at F9); clear e1 e2 e3 e4 e5; (obtain ⟨κ9, hκ9⟩ : ∃ κ : Int, κ = 7 + (k9 : Int) * -1 := ⟨_, rfl⟩); (rw [← hκ9] at F9); have ho2 := pf_o hP9; (have hκ0 : 0 ≤ κ9 ∧ κ9 ≤ 7 := by omega); dsimp only at F9))))))))
  (k_with "TurnPostO" => ((with_reducible rename Mk 4 => hMk9); ((refine turnO_end (by k_asm) (by k_asm) (by k_extra "MEM") (by (rename ∀ p ∈ _, p ∈ _ => hsub9); intro p9 h9; have h8 := hsub9 p9 h9; simp only [List.mem_cons, h8, or_true]) ?_; (rename _ ∧ Pf _ _ _ _ _ _ => hE9); exact ⟨_, _, _, _, _, _, hE9.2, rfl, rfl, rfl, rfl, rfl⟩))))
  (k_with "subscriptTail" => ((with_reducible rename Mk 4 => hMk9); ((k_here; (with_reducible show wpAny _ _ (subscriptTail _ _ (Value.ref 148) (Value.int _ _)) _ _ _); (rename Pf _ _ _ _ _ _ => hP9); k_dflt (refine tabA (b := 140) (by k_asm) (by k_asm) (by exact posRefs _) (by exact (ixA_ok (pf_o hP9)).1) (by exact (ixA_ok (pf_o hP9)).2.1) ?_; k_whole; (try dsimp only))))))
  (k_with "subscriptTail" => ((with_reducible rename Mk 4 => hMk9); ((k_here; (with_reducible show wpAny _ _ (subscriptTail _ _ (Value.ref (140 + Int.toNat _)) (Value.int _ _)) _ _ _); (rename Pf _ _ _ _ _ _ => hP9); (rename _ = (7 : Int) + _ => hκ9); (k_dflt (refine tabB (f := posTab) (by k_asm) (by k_asm) (by exact posRows _) (by exact ixA_row (pf_o hP9)) (by exact (ixA_ok (pf_o hP9)).2.2.1) (by exact (ixA_ok (pf_o hP9)).2.2.2) ?_; (k_whole; intro D9 tD9 hD9; (try dsimp only)); replace hD9 := ixA_nat (pf_o hP9) hD9; have hE9 := fij_step (by k_extra "OM") (by assumption) (by assumption) (by assumption) (by assumption) (by assumption) hP9 hκ9 hD9; have hB9 := hE9.1; clear hD9))))))
  (k_with "storeName" => ((with_reducible rename Mk 4 => hMk9); ((k_here; (with_reducible show wpAny _ _ (storeName _ (PySem.Str.ofString "mask") (Value.int _ _)) _ _ _); (rename Fr _ _ _ _ => kF9); (rename News _ _ _ _ => kN9); k_dflt (refine gen_store_eq kF9 kN9 (show _ = (15 : Int) from by decide) ?_); intro tS9 h9 F9 N9; (try dsimp only)))))
  trivial
theorem fijC0 {f i j : Int} {t1 t2 t3 : Tok} (B : Below A₀ base outer h₀) (F : Fr h₀ L s.heap m) (X : (K1 w.params).In h₀) (N : News h₀ L s.heap news) (T : Top V1 loose mean mg mb h₀) (hk : cs.kind = .function)
    (hf0 : 0 ≤ f) (hf6 : f < 6) (hi0 : 0 ≤ i) (hi : i < 1073741824) (hj0 : 0 ≤ j) (hj : j < 1073741824) (hd : dp + 5 < recursionLimit) (hu : un + 40 < cLine)
    (ret : ∀ (y e : Addr) (t tk : Tok) (h' : Heap) (tk' : Nat), Fr h₀ L h' m → News h₀ L h' ((y, cellI e) :: (e, cellD w (cid (fpl f i j 30) 30) t tk) :: news) → R (.ok (.ret (.ref y))) { s with heap := h', toks := tk' }) :
    codeAny (model PR w) (ktrTop dp un gd cn cs L a ccd cl outer) (.call (.ref 245) ⟨[.ref 561, .int f t1, .int i t2, .int j t3], []⟩) R s := by
  have hMk8 : Mk 4 := ⟨⟩
  w_top off
  k_dflt (walk_at "ENTER")
  k_steps
  all_goals first
    | ((rename News _ _ _ _ => kN9); exact ret _ _ _ _ _ _ (by k_asm) (cell_drop kN9 (by assumption)))
    | fail "an end"
end
end
theorem drop1 {h₀ h : Heap} {L : Addr} {news rest : List (Addr × Obj)} {a : Addr × Obj} (N : News h₀ L h (a :: rest)) (hs : ∀ p ∈ news, p ∈ rest) : News h₀ L h (a :: news) := by
  intro p hp
  refine N p ?_
  simp only [List.mem_cons] at hp ⊢
  exact hp.elim .inl fun h => .inr (hs p h)
/-- what a test with one name set on either side leaves -/
def IfJ (h₀ : Heap) (L : Addr) (m : Str → Option Value) (news : List (Addr × Obj)) (s : Shared) (x : Str) (C : Int → Prop) (f : Flow) (s₂ : Shared) : Prop :=
  f = .next ∧ ∃ q t h tk, C q ∧ s₂ = { s with heap := h, toks := tk } ∧ Fr h₀ L h (fun z => if z = x then some (.int q t) else m z) ∧ News h₀ L h news
theorem if_join {M : Model} {A : Around} {Q : Flow → Shared → Prop} {E : Value → Shared → Prop} {c : Sem Flow} {h₀ : Heap} {L : Addr} {m : Str → Option Value} {news : List (Addr × Obj)} {s : Shared} (C : Int → Prop) (x : Str) (_F : Fr h₀ L s.heap m) (_N : News h₀ L s.heap news) (hc : wpAny M A c (fun f s₂ => IfJ h₀ L m news s x C f s₂) E s)
    (k : ∀ q t h tk, C q → Fr h₀ L h (fun z => if z = x then some (.int q t) else m z) → News h₀ L h news → Q .next { s with heap := h, toks := tk }) : wpAny M A c Q E s := by
  refine wpAny_mono hc (fun f s₂ hq => ?_) fun _ _ h => h
  obtain ⟨rfl, q, t, h, tk, hC, rfl, F', N'⟩ := hq
  exact k q t h tk hC F' N'
def KapP {κ : Int} (_ : 0 ≤ κ ∧ κ ≤ 7) (q : Int) : Prop := (κ = 7 ∧ q = 2) ∨ (κ ≠ 7 ∧ q = 4)
theorem kap_bd {κ q : Int} {h : 0 ≤ κ ∧ κ ≤ 7} (hq : KapP h q) : 2 ≤ q ∧ q ≤ 4 := by
  rcases hq with ⟨_, rfl⟩ | ⟨_, rfl⟩ <;> decide
theorem blkq {N κ i j o q : Int} {k : Nat} (P : Pt N k i j o) (hk8 : k < 8) (hκ : κ = 7 + (k : Int) * -1) (hN : 0 ≤ N) {h7 : 0 ≤ κ ∧ κ ≤ 7} (hq : KapP h7 q) : Builtin.bitAnd (N.fdiv (2 ^ (κ * 2 * 4 + 1).toNat)) (1 * 2 ^ (2 * q).toNat - 1) = (blk N k : Int) := by
  rcases hq with ⟨h, rfl⟩ | ⟨h, rfl⟩
  · exact blk0 P hN hκ h
  · exact blk1 P hk8 hN hκ h
theorem na_blk (N : Int) (k : Nat) : ((blk N k : Nat) : Int).natAbs < 2 ^ 64 := by
  rw [Int.natAbs_natCast]; exact Nat.lt_trans (blk_lt N k) (by decide)
section
variable {w : World} {dp un : Nat} {gd : Option (List Code)} {cn : Str} {cs : Scope} {a : Addr} {ccd : Value} {cl : List (Str × Addr)} {outer : List Env} {A₀ : Around} {base h₀ : Heap} {L : Addr} {m : Str → Option Value} {news : List (Addr × Obj)} {s : Shared}
    {mg mb : Str → Option Value} {loose : List Str} {mean : ExcName → Option Value} {Q E : Value → Shared → Prop} {R : Result → Shared → Prop}
section
theorem words5 : True := by
  (k_with "call ref" => ((with_reducible rename Mk 5 => hMk9); (((with_reducible show wpAny _ _ (call (Value.ref 561) _) _ _ _); k_here; k_dflt (refine mkC (by k_asm) (by k_asm) (by k_asm) (by k_asm) (by k_asm) (by first | exact rfl | assumption) (by first | assumption | exact rfl) (by k_extra "ROOM") (by k_extra "UNITS") ?_; k_whole; intro y9 e9 t9 tk9 h9 tt9 F9 N9 l1 l2; (try dsimp only); (try k_fold))))))
  (k_with "call ref" => ((with_reducible rename Mk 5 => hMk9); (((with_reducible show wpAny _ _ (call (Value.ref 344) _) _ _ _); k_here; k_dflt (refine lsbC (by k_asm) (by k_asm) (by k_asm) (by k_asm) (by k_asm) (by first | exact rfl | assumption) (by k_mem) (by k_mem) (by k_extra "ROOM") (by k_extra "UNITS") ?_; k_whole; intro t9 h9 tk9 F9 N9; (try dsimp only); (try k_fold))))))
  (k_with "call ref" => ((with_reducible rename Mk 5 => hMk9); (((with_reducible show wpAny _ _ (call (Value.ref 337) _) _ _ _); k_here; k_dflt (refine validC (by k_asm) (by k_asm) (by k_asm) (by k_asm) (by k_asm) (by first | exact rfl | assumption) (by k_mem) (by k_mem) (by assumption) (by assumption) (by k_extra "ROOM") (by k_extra "UNITS") ?_; k_whole; intro h9 tk9 F9 N9; (try dsimp only); (try k_fold))))))
  (k_with "NA" => ((with_reducible rename Mk 5 => hMk9); (first | ((rename Builtin.bitAnd _ _ = ((blk _ _ : Nat) : Int) => hb8); rw [hb8]; exact na_blk _ _) | (rw [bm4]; exact na_mod (by decide)) | (rw [bm8]; exact na_mod (by decide)) | (rw [bm4']; exact na_mod (by decide)))))
  (k_with "binaryOp LShift int int" => ((with_reducible rename Mk 5 => hMk9); ((k_here; (with_reducible show wpAny _ _ (binaryOp _ (Value.int (Builtin.bitAnd _ _) _) _) _ _ _); refine lshift_int_small (by k_extra "OM") (by k_extra "OM") (by first | (rw [bm4]; exact na_mod (by decide)) | (rw [bm8]; exact na_mod (by decide)) | (rw [bm4']; exact na_mod (by decide))) ?_; (try dsimp only)))))
  (k_with "storeName" => ((with_reducible rename Mk 5 => hMk9); ((k_here; (with_reducible show wpAny _ _ (storeName _ (PySem.Str.ofString "nbits") (Value.int (_ - _) _)) _ _ _); (rename Fr _ _ _ _ => kF9); (rename News _ _ _ _ => kN9); k_dflt (refine gen_store_eq kF9 kN9 (show _ = (2 : Int) from by decide) ?_); intro tS9 h9 F9 N9; (try dsimp only)))))
  (k_with "exec If" => ((with_reducible rename Mk 5 => hMk9); ((k_here; (fail_if_success (with_reducible show wpAny _ _ _ (fun f s₂ => IfJ _ _ _ _ _ _ _ f s₂) _ _)); (rename Mark9 => hM9); clear hM9; (rename _ = (7 : Int) + _ => hκ8); (rename 0 ≤ _ ∧ _ ≤ 7 => hκ7); k_dflt (refine if_join (KapP hκ7) (PySem.Str.ofString "nbits") (by k_asm) (by k_asm) ?_ ?_); rotate_left; (intro q9 tq9 h9 tk9 hq9 F9 N9; (try dsimp only); (rename _ = (7 : Int) + _ => hκ9); (rename Pt _ _ _ _ _ => hP9); (have hb9 := blkq hP9 (by omega) hκ9 (by omega) hq9); (have hq8 := kap_bd hq9)); rotate_right))))
  (k_with "IfJ" => ((with_reducible rename Mk 5 => hMk9); (((refine ⟨rfl, _, _, _, _, ?_, rfl, by k_asm, by k_asm⟩); first | exact .inl ⟨by omega, rfl⟩ | exact .inr ⟨by omega, rfl⟩))))
  (k_with "pyIter ref" => ((with_reducible rename Mk 5 => hMk9); ((k_here; (with_reducible show wpAny _ _ (pyIter (Value.ref _)) (fun it s₂ => LoopAtV _ _ _ _ _ _ _ _ _ it s₂) _ _); (rename IsRange _ _ _ _ _ _ _ _ => rg9); (rename Fr _ _ _ _ => kF9); (rename News _ _ _ _ => kN9); (k_dflt ((refine loop_rng (n := 8) (JT _ _) (by (exact rfl)) rg9 (by (decide)) (by (decide)) kF9 kN9 (by (exact fun _ _ _ _ J _ => J)) (by (refine jt_start ?_ (by exact rfl) (by exact rfl) (by exact rfl) (by exact rfl) (by exact rfl) (by exact rfl) (by exact rfl) (by exact rfl); assumption)) ?_ ?_); rotate_left; ((intro m9 news9 h9 tk9 hJ9 hsub9 F9 N9; (try dsimp only); (rename (_, cellI _) ∈ _ => hx9); (rename (_, cellD _ _ _ _) ∈ _ => hd9); have hx8 := hsub9 _ (List.mem_cons_of_mem _ hx9); have hd8 := hsub9 _ (List.mem_cons_of_mem _ hd9); (obtain ⟨i9, j9, oo9, a1, a2, a3, a4, hP9, e1, e2, e3, e4, e5⟩ := hJ9); (rw [ov e5, ov e4, ov e3, ov e2, ov e1] at F9); clear e1 e2 e3 e4 e5; have hT9 := tof_done hP9; rw [hT9.1, hT9.2] at F9; dsimp only at F9)); rotate_right; ((intro k9 t9 m9 news9 h9 tk9 I9 o9 hk9 hJ9 hsub9 ho9 hoff9 F9 N9; (try dsimp only); (rename (_, cellI _) ∈ _ => hx9); (rename (_, cellD _ _ _ _) ∈ _ => hd9); have hx8 := hsub9 _ (List.mem_cons_of_mem _ hx9); have hd8 := hsub9 _ (List.mem_cons_of_mem _ hd9); (obtain ⟨i9, j9, oo9, a1, a2, a3, a4, hP9, e1, e2, e3, e4, e5⟩ := hJ9); (rw [ov e5, ov e4, ov e3, ov e2, ov e1] at F9); clear e1 e2 e3 e4 e5; (obtain ⟨κ9, hκ9⟩ : ∃ κ : Int, κ = 7 + (k9 : Int) * -1 := ⟨_, rfl⟩); (rw [← hκ9] at F9); have ho2 := pt_o hP9; have hij2 := pt_ij (by omega) hP9; (have hκ0 : 0 ≤ κ9 ∧ κ9 ≤ 7 := by omega); have hc9 := pt_blk hP9; have hM9 : Mark9 := trivial; dsimp only at F9))))))))
  (k_with "TurnPostO" => ((with_reducible rename Mk 5 => hMk9); ((refine turnO_end (by k_asm) (by k_asm) (by k_extra "MEM") (by (rename ∀ p ∈ _, p ∈ _ => hsub9); intro p9 h9; have h8 := hsub9 p9 h9; simp only [List.mem_cons, h8, or_true]) ?_; (rename _ ∧ Pt _ _ _ _ _ => hE9); exact ⟨_, _, _, _, _, _, _, hE9.2, rfl, rfl, rfl, rfl, rfl⟩))))
  (k_with "subscriptTail" => ((with_reducible rename Mk 5 => hMk9); ((k_here; (with_reducible show wpAny _ _ (subscriptTail _ _ (Value.ref 157) (Value.int _ _)) _ _ _); (rename Pt _ _ _ _ _ => hP9); (rename Builtin.bitAnd _ _ = ((blk _ _ : Nat) : Int) => hb9); (rename blk _ _ < 256 => hc9); (rw [hb9]; k_dflt (refine tabA (b := 149) (by k_asm) (by k_asm) (by exact ijRefs _) (by exact (ixB_ok (pt_o hP9) (by omega)).1) (by exact (ixB_ok (pt_o hP9) (by omega)).2.1) ?_; k_whole; (try dsimp only)))))))
  (k_with "subscriptTail" => ((with_reducible rename Mk 5 => hMk9); ((k_here; (with_reducible show wpAny _ _ (subscriptTail _ _ (Value.ref (149 + Int.toNat _)) (Value.int _ _)) _ _ _); (rename Pt _ _ _ _ _ => hP9); (rename _ = (7 : Int) + _ => hκ9); (rename Builtin.bitAnd _ _ = ((blk _ _ : Nat) : Int) => hb9); (rename blk _ _ < 256 => hc9); (rw [hb9]; k_dflt (refine tabB (f := ijTab) (by k_asm) (by k_asm) (by exact ijRows _) (by exact ixB_row (pt_o hP9) (by omega)) (by exact (ixB_ok (pt_o hP9) (by omega)).2.2.1) (by exact (ixB_ok (pt_o hP9) (by omega)).2.2.2) ?_; k_whole; intro D9 tD9 hD9; (try dsimp only); replace hD9 := ixB_nat (pt_o hP9) (by omega) hD9; have hE9 := tof_step (by omega) hP9 hκ9 hD9; have hB9 := hE9.1; clear hD9))))))
  trivial
theorem tofC0 {x d : Addr} {n : Int} {t tk : Tok} (B : Below A₀ base outer h₀) (F : Fr h₀ L s.heap m) (X : (K1 w.params).In h₀) (N : News h₀ L s.heap news) (T : Top V1 loose mean mg mb h₀) (hk : cs.kind = .function)
    (hx : (x, cellI d) ∈ news) (hdx : (d, cellD w n t tk) ∈ news) (hN : 0 ≤ n) (hd : dp + 4 < recursionLimit) (hu : un + 32 < cLine)
    (ret : ∀ (T : Addr) (t1 t2 t3 t4 : Tok) (o9 : Int) (h' : Heap) (tk' : Nat), Fr h₀ L h' m → News h₀ L h' ((T, { cls := .type "tuple", data := .seq #[.int (n.fdiv (2 ^ Int.toNat 61)) t1, .int (tI n) t2, .int (tJ n) t3, .int o9 t4] }) :: news) → R (.ok (.ret (.ref T))) { s with heap := h', toks := tk' }) :
    codeAny (model PR w) (ktrTop dp un gd cn cs L a ccd cl outer) (.call (.ref 513) ⟨[.ref x], []⟩) R s := by
  have hMk8 : Mk 5 := ⟨⟩
  w_top off
  k_dflt (walk_at "ENTER")
  k_steps
  all_goals first
    | ((rename News _ _ _ _ => kN9); exact ret _ _ _ _ _ _ _ _ (by k_asm) (drop1 kN9 (by (rename ∀ p ∈ _, p ∈ _ => hs9); exact fun p hp => hs9 p (List.mem_cons_of_mem _ hp))))
    | fail "an end"
end
end
abbrev ptI (d : Addr) : Obj := instObj 134 d
abbrev ptD (w : World) (T : Addr) (tk : Tok) : Obj := dictOf [⟨PyData.keyHash w.params (Str.ofString "_Point__point"), .str (Str.ofString "_Point__point") tk, .ref T⟩] 1
abbrev tup3 (x y z : Int) (t1 t2 t3 : Tok) : Obj := { cls := .type "tuple", data := .seq #[.int x t1, .int y t2, .int z t3] }
section
variable {w : World} {dp un : Nat} {gd : Option (List Code)} {cn : Str} {cs : Scope} {a : Addr} {ccd : Value} {cl : List (Str × Addr)} {outer : List Env} {A₀ : Around} {base h₀ : Heap} {L : Addr} {m : Str → Option Value} {news : List (Addr × Obj)} {s : Shared}
    {mg mb : Str → Option Value} {loose : List Str} {mean : ExcName → Option Value} {Q E : Value → Shared → Prop} {R : Result → Shared → Prop}
theorem ptC {x y z : Int} {t1 t2 t3 : Tok} (B : Below A₀ base outer h₀) (F : Fr h₀ L s.heap m) (X : (K1 w.params).In h₀) (N : News h₀ L s.heap news) (T : Top V1 loose mean mg mb h₀) (hk : cs.kind = .function)
     (hd : dp + 2 < recursionLimit) (hu : un + 16 < cLine)
    (ret : ∀ (y9 e9 T9 : Addr) (t1 t2 t3 t4 : Tok) (h' : Heap) (tk' : Nat), Fr h₀ L h' m → News h₀ L h' ((y9, ptI e9) :: (e9, ptD w T9 t4) :: (T9, tup3 (x) (y) (z) t1 t2 t3) :: news) → Q (.ref y9) { s with heap := h', toks := tk' }) :
    wpAny (model PR w) (ktrTop dp un gd cn cs L a ccd cl outer) (call (.ref 134) [.int x t1, .int y t2, .int z t3]) Q E s := by
  refine' call_cls ?k1 ?k2 ?k3 ?k4 ?k5 ?k6 ?_
  case k1 => k_asm
  case k2 => k_asm
  case k3 => k_asm
  case k4 => k_is
  case k5 => k_is
  case k6 => k_is
  intro x d h' F' N' l1 l2
  replace l2 := ltN l2
  w_top off
  k_dflt (walk_at "ENTER")
  k_steps
  all_goals first
    | ((rename News _ _ _ _ => kN9); exact ret _ _ _ _ _ _ _ _ _ (by k_asm) (drop_to kN9 (by k_extra "SUB")))
    | fail "an end"
section
theorem words6 : True := by
  (k_with "exec If" => ((with_reducible rename Mk 6 => hMk9); (((rename Mark9 => hM9); clear hM9; rcases f_cases hf0 hf6 with rfl | rfl | rfl | rfl | rfl | rfl))))
  trivial
theorem fuvC0 {f u v : Int} {t1 t2 t3 : Tok} (B : Below A₀ base outer h₀) (F : Fr h₀ L s.heap m) (X : (K1 w.params).In h₀) (N : News h₀ L s.heap news) (T : Top V1 loose mean mg mb h₀) (hk : cs.kind = .function)
    (hf0 : 0 ≤ f) (hf6 : f < 6) (hd : dp + 4 < recursionLimit) (hu : un + 32 < cLine)
    (ret : ∀ (y9 e9 T9 : Addr) (t1 t2 t3 t4 : Tok) (h' : Heap) (tk' : Nat), Fr h₀ L h' m → News h₀ L h' ((y9, ptI e9) :: (e9, ptD w T9 t4) :: (T9, tup3 (fx f u v) (fy f u v) (fz f u v) t1 t2 t3) :: news) → R (.ok (.ret (.ref y9))) { s with heap := h', toks := tk' }) :
    codeAny (model PR w) (ktrTop dp un gd cn cs L a ccd cl outer) (.call (.ref 593) ⟨[.int f t1, .int u t2, .int v t3], []⟩) R s := by
  have hMk8 : Mk 6 := ⟨⟩
  have hM9 : Mark9 := trivial
  w_top off
  k_dflt (walk_at "ENTER")
  k_steps
  all_goals first
    | ((rename News _ _ _ _ => kN9); exact ret _ _ _ _ _ _ _ _ _ (by k_asm) (drop_to kN9 (by k_extra "SUB")))
    | fail "an end"
theorem fuvC {f u v : Int} {t1 t2 t3 : Tok} (B : Below A₀ base outer h₀) (F : Fr h₀ L s.heap m) (X : (K1 w.params).In h₀) (N : News h₀ L s.heap news) (T : Top V1 loose mean mg mb h₀) (hk : cs.kind = .function)
    (hf0 : 0 ≤ f) (hf6 : f < 6) (hd : dp + 4 < recursionLimit) (hu : un + 32 < cLine)
    (ret : ∀ (y9 e9 T9 : Addr) (t1 t2 t3 t4 : Tok) (h' : Heap) (tk' : Nat), Fr h₀ L h' m → News h₀ L h' ((y9, ptI e9) :: (e9, ptD w T9 t4) :: (T9, tup3 (fx f u v) (fy f u v) (fz f u v) t1 t2 t3) :: news) → Q (.ref y9) { s with heap := h', toks := tk' }) :
    wpAny (model PR w) (ktrTop dp un gd cn cs L a ccd cl outer) (call (.ref 593) [.int f t1, .int u t2, .int v t3]) Q E s := wpAny_call (fuvC0 B F X N T hk hf0 hf6 hd hu ret)
end
theorem normC0 {f : Int} {t1 : Tok} (B : Below A₀ base outer h₀) (F : Fr h₀ L s.heap m) (X : (K1 w.params).In h₀) (N : News h₀ L s.heap news) (T : Top V1 loose mean mg mb h₀) (hk : cs.kind = .function)
    (hf0 : 0 ≤ f) (hf6 : f < 6) (hd : dp + 6 < recursionLimit) (hu : un + 48 < cLine)
    (ret : ∀ (y9 e9 T9 : Addr) (t1 t2 t3 t4 : Tok) (h' : Heap) (tk' : Nat), Fr h₀ L h' m → News h₀ L h' ((y9, ptI e9) :: (e9, ptD w T9 t4) :: (T9, tup3 (fx f 0 0) (fy f 0 0) (fz f 0 0) t1 t2 t3) :: news) → R (.ok (.ret (.ref y9))) { s with heap := h', toks := tk' }) :
    codeAny (model PR w) (ktrTop dp un gd cn cs L a ccd cl outer) (.call (.ref 600) ⟨[.int f t1], []⟩) R s := by
  w_top off
  k_dflt (walk_at "ENTER")
  k_steps
  all_goals first
    | ((rename News _ _ _ _ => kN9); exact ret _ _ _ _ _ _ _ _ _ (by k_asm) (drop_to kN9 (by k_extra "SUB")))
    | fail "an end"
theorem normC {f : Int} {t1 : Tok} (B : Below A₀ base outer h₀) (F : Fr h₀ L s.heap m) (X : (K1 w.params).In h₀) (N : News h₀ L s.heap news) (T : Top V1 loose mean mg mb h₀) (hk : cs.kind = .function)
    (hf0 : 0 ≤ f) (hf6 : f < 6) (hd : dp + 6 < recursionLimit) (hu : un + 48 < cLine)
    (ret : ∀ (y9 e9 T9 : Addr) (t1 t2 t3 t4 : Tok) (h' : Heap) (tk' : Nat), Fr h₀ L h' m → News h₀ L h' ((y9, ptI e9) :: (e9, ptD w T9 t4) :: (T9, tup3 (fx f 0 0) (fy f 0 0) (fz f 0 0) t1 t2 t3) :: news) → Q (.ref y9) { s with heap := h', toks := tk' }) :
    wpAny (model PR w) (ktrTop dp un gd cn cs L a ccd cl outer) (call (.ref 600) [.int f t1]) Q E s := wpAny_call (normC0 B F X N T hk hf0 hf6 hd hu ret)
theorem get0C0 {p d c : Addr} {x y z : Int} {tk a1 a2 a3 : Tok} {ti : Tok} (B : Below A₀ base outer h₀) (F : Fr h₀ L s.heap m) (X : (K1 w.params).In h₀) (N : News h₀ L s.heap news) (T : Top V1 loose mean mg mb h₀) (hk : cs.kind = .function)
    (hp : (p, ptI d) ∈ news) (hpd : (d, ptD w c tk) ∈ news) (hpT : (c, tup3 x y z a1 a2 a3) ∈ news)  (hd : dp + 2 < recursionLimit) (hu : un + 16 < cLine)
    (ret : ∀ (t : Tok) (h' : Heap) (tk' : Nat), Fr h₀ L h' m → News h₀ L h' news → R (.ok (.ret (.int x t))) { s with heap := h', toks := tk' }) :
    codeAny (model PR w) (ktrTop dp un gd cn cs L a ccd cl outer) (.call (.ref 42) ⟨[.ref p, .int 0 ti], []⟩) R s := by
  w_top off
  k_dflt (walk_at "ENTER")
  k_steps
  all_goals first
    | (exact ret _ _ _ (by k_asm) (by k_asm))
    | fail "an end"
theorem get0C {p d c : Addr} {x y z : Int} {tk a1 a2 a3 : Tok} {ti : Tok} (B : Below A₀ base outer h₀) (F : Fr h₀ L s.heap m) (X : (K1 w.params).In h₀) (N : News h₀ L s.heap news) (T : Top V1 loose mean mg mb h₀) (hk : cs.kind = .function)
    (hp : (p, ptI d) ∈ news) (hpd : (d, ptD w c tk) ∈ news) (hpT : (c, tup3 x y z a1 a2 a3) ∈ news)  (hd : dp + 2 < recursionLimit) (hu : un + 16 < cLine)
    (ret : ∀ (t : Tok) (h' : Heap) (tk' : Nat), Fr h₀ L h' m → News h₀ L h' news → Q (.int x t) { s with heap := h', toks := tk' }) :
    wpAny (model PR w) (ktrTop dp un gd cn cs L a ccd cl outer) (call (.ref 42) [.ref p, .int 0 ti]) Q E s := wpAny_call (get0C0 B F X N T hk hp hpd hpT hd hu ret)
theorem words7 : True := by
  (k_with "call ref" => ((with_reducible rename Mk 7 => hMk9); (((with_reducible show wpAny _ _ (call (Value.ref 42) [Value.ref _, Value.int 0 _]) _ _ _); k_here; k_dflt (refine get0C (by k_asm) (by k_asm) (by k_asm) (by k_asm) (by k_asm) (by first | exact rfl | assumption) (by k_mem) (by k_mem) (by k_mem) (by k_extra "ROOM") (by k_extra "UNITS") ?_; k_whole; intro t9 h9 tk9 F9 N9; (try dsimp only); (try k_fold))))))
  trivial
theorem get1C0 {p d c : Addr} {x y z : Int} {tk a1 a2 a3 : Tok} {ti : Tok} (B : Below A₀ base outer h₀) (F : Fr h₀ L s.heap m) (X : (K1 w.params).In h₀) (N : News h₀ L s.heap news) (T : Top V1 loose mean mg mb h₀) (hk : cs.kind = .function)
    (hp : (p, ptI d) ∈ news) (hpd : (d, ptD w c tk) ∈ news) (hpT : (c, tup3 x y z a1 a2 a3) ∈ news)  (hd : dp + 2 < recursionLimit) (hu : un + 16 < cLine)
    (ret : ∀ (t : Tok) (h' : Heap) (tk' : Nat), Fr h₀ L h' m → News h₀ L h' news → R (.ok (.ret (.int y t))) { s with heap := h', toks := tk' }) :
    codeAny (model PR w) (ktrTop dp un gd cn cs L a ccd cl outer) (.call (.ref 42) ⟨[.ref p, .int 1 ti], []⟩) R s := by
  have hMk8 : Mk 7 := ⟨⟩
  w_top off
  k_dflt (walk_at "ENTER")
  k_steps
  all_goals first
    | (exact ret _ _ _ (by k_asm) (by k_asm))
    | fail "an end"
theorem get1C {p d c : Addr} {x y z : Int} {tk a1 a2 a3 : Tok} {ti : Tok} (B : Below A₀ base outer h₀) (F : Fr h₀ L s.heap m) (X : (K1 w.params).In h₀) (N : News h₀ L s.heap news) (T : Top V1 loose mean mg mb h₀) (hk : cs.kind = .function)
    (hp : (p, ptI d) ∈ news) (hpd : (d, ptD w c tk) ∈ news) (hpT : (c, tup3 x y z a1 a2 a3) ∈ news)  (hd : dp + 2 < recursionLimit) (hu : un + 16 < cLine)
    (ret : ∀ (t : Tok) (h' : Heap) (tk' : Nat), Fr h₀ L h' m → News h₀ L h' news → Q (.int y t) { s with heap := h', toks := tk' }) :
    wpAny (model PR w) (ktrTop dp un gd cn cs L a ccd cl outer) (call (.ref 42) [.ref p, .int 1 ti]) Q E s := wpAny_call (get1C0 B F X N T hk hp hpd hpT hd hu ret)
theorem words8 : True := by
  (k_with "call ref" => ((with_reducible rename Mk 8 => hMk9); (((with_reducible show wpAny _ _ (call (Value.ref 42) [Value.ref _, Value.int 0 _]) _ _ _); k_here; k_dflt (refine get0C (by k_asm) (by k_asm) (by k_asm) (by k_asm) (by k_asm) (by first | exact rfl | assumption) (by k_mem) (by k_mem) (by k_mem) (by k_extra "ROOM") (by k_extra "UNITS") ?_; k_whole; intro t9 h9 tk9 F9 N9; (try dsimp only); (try k_fold))))))
  (k_with "call ref" => ((with_reducible rename Mk 8 => hMk9); (((with_reducible show wpAny _ _ (call (Value.ref 42) [Value.ref _, Value.int 1 _]) _ _ _); k_here; k_dflt (refine get1C (by k_asm) (by k_asm) (by k_asm) (by k_asm) (by k_asm) (by first | exact rfl | assumption) (by k_mem) (by k_mem) (by k_mem) (by k_extra "ROOM") (by k_extra "UNITS") ?_; k_whole; intro t9 h9 tk9 F9 N9; (try dsimp only); (try k_fold))))))
  trivial
theorem get2C0 {p d c : Addr} {x y z : Int} {tk a1 a2 a3 : Tok} {ti : Tok} (B : Below A₀ base outer h₀) (F : Fr h₀ L s.heap m) (X : (K1 w.params).In h₀) (N : News h₀ L s.heap news) (T : Top V1 loose mean mg mb h₀) (hk : cs.kind = .function)
    (hp : (p, ptI d) ∈ news) (hpd : (d, ptD w c tk) ∈ news) (hpT : (c, tup3 x y z a1 a2 a3) ∈ news)  (hd : dp + 2 < recursionLimit) (hu : un + 16 < cLine)
    (ret : ∀ (t : Tok) (h' : Heap) (tk' : Nat), Fr h₀ L h' m → News h₀ L h' news → R (.ok (.ret (.int z t))) { s with heap := h', toks := tk' }) :
    codeAny (model PR w) (ktrTop dp un gd cn cs L a ccd cl outer) (.call (.ref 42) ⟨[.ref p, .int 2 ti], []⟩) R s := by
  have hMk8 : Mk 8 := ⟨⟩
  w_top off
  k_dflt (walk_at "ENTER")
  k_steps
  all_goals first
    | (exact ret _ _ _ (by k_asm) (by k_asm))
    | fail "an end"
theorem get2C {p d c : Addr} {x y z : Int} {tk a1 a2 a3 : Tok} {ti : Tok} (B : Below A₀ base outer h₀) (F : Fr h₀ L s.heap m) (X : (K1 w.params).In h₀) (N : News h₀ L s.heap news) (T : Top V1 loose mean mg mb h₀) (hk : cs.kind = .function)
    (hp : (p, ptI d) ∈ news) (hpd : (d, ptD w c tk) ∈ news) (hpT : (c, tup3 x y z a1 a2 a3) ∈ news)  (hd : dp + 2 < recursionLimit) (hu : un + 16 < cLine)
    (ret : ∀ (t : Tok) (h' : Heap) (tk' : Nat), Fr h₀ L h' m → News h₀ L h' news → Q (.int z t) { s with heap := h', toks := tk' }) :
    wpAny (model PR w) (ktrTop dp un gd cn cs L a ccd cl outer) (call (.ref 42) [.ref p, .int 2 ti]) Q E s := wpAny_call (get2C0 B F X N T hk hp hpd hpT hd hu ret)
theorem words9 : True := by
  (k_with "call ref" => ((with_reducible rename Mk 9 => hMk9); (((with_reducible show wpAny _ _ (call (Value.ref 42) [Value.ref _, Value.int 0 _]) _ _ _); k_here; k_dflt (refine get0C (by k_asm) (by k_asm) (by k_asm) (by k_asm) (by k_asm) (by first | exact rfl | assumption) (by k_mem) (by k_mem) (by k_mem) (by k_extra "ROOM") (by k_extra "UNITS") ?_; k_whole; intro t9 h9 tk9 F9 N9; (try dsimp only); (try k_fold))))))
  (k_with "call ref" => ((with_reducible rename Mk 9 => hMk9); (((with_reducible show wpAny _ _ (call (Value.ref 42) [Value.ref _, Value.int 1 _]) _ _ _); k_here; k_dflt (refine get1C (by k_asm) (by k_asm) (by k_asm) (by k_asm) (by k_asm) (by first | exact rfl | assumption) (by k_mem) (by k_mem) (by k_mem) (by k_extra "ROOM") (by k_extra "UNITS") ?_; k_whole; intro t9 h9 tk9 F9 N9; (try dsimp only); (try k_fold))))))
  (k_with "call ref" => ((with_reducible rename Mk 9 => hMk9); (((with_reducible show wpAny _ _ (call (Value.ref 42) [Value.ref _, Value.int 2 _]) _ _ _); k_here; k_dflt (refine get2C (by k_asm) (by k_asm) (by k_asm) (by k_asm) (by k_asm) (by first | exact rfl | assumption) (by k_mem) (by k_mem) (by k_mem) (by k_extra "ROOM") (by k_extra "UNITS") ?_; k_whole; intro t9 h9 tk9 F9 N9; (try dsimp only); (try k_fold))))))
  trivial
theorem mulC0 {p d c : Addr} {x y z : Int} {tk a1 a2 a3 : Tok} {k : Int} {tq : Tok} (B : Below A₀ base outer h₀) (F : Fr h₀ L s.heap m) (X : (K1 w.params).In h₀) (N : News h₀ L s.heap news) (T : Top V1 loose mean mg mb h₀) (hk : cs.kind = .function)
    (hp : (p, ptI d) ∈ news) (hpd : (d, ptD w c tk) ∈ news) (hpT : (c, tup3 x y z a1 a2 a3) ∈ news) (hx : x.natAbs < 2 ^ 40) (hy : y.natAbs < 2 ^ 40) (hz : z.natAbs < 2 ^ 40) (hkk : k.natAbs < 2 ^ 40) (hd : dp + 4 < recursionLimit) (hu : un + 32 < cLine)
    (ret : ∀ (y9 e9 T9 : Addr) (t1 t2 t3 t4 : Tok) (h' : Heap) (tk' : Nat), Fr h₀ L h' m → News h₀ L h' ((y9, ptI e9) :: (e9, ptD w T9 t4) :: (T9, tup3 (x * k) (y * k) (z * k) t1 t2 t3) :: news) → R (.ok (.ret (.ref y9))) { s with heap := h', toks := tk' }) :
    codeAny (model PR w) (ktrTop dp un gd cn cs L a ccd cl outer) (.call (.ref 98) ⟨[.ref p, .int k tq], []⟩) R s := by
  have hMk8 : Mk 9 := ⟨⟩
  w_top off
  k_dflt (walk_at "ENTER")
  k_steps
  all_goals first
    | ((rename News _ _ _ _ => kN9); exact ret _ _ _ _ _ _ _ _ _ (by k_asm) (drop_to kN9 (by k_extra "SUB")))
    | fail "an end"
theorem mulC {p d c : Addr} {x y z : Int} {tk a1 a2 a3 : Tok} {k : Int} {tq : Tok} (B : Below A₀ base outer h₀) (F : Fr h₀ L s.heap m) (X : (K1 w.params).In h₀) (N : News h₀ L s.heap news) (T : Top V1 loose mean mg mb h₀) (hk : cs.kind = .function)
    (hp : (p, ptI d) ∈ news) (hpd : (d, ptD w c tk) ∈ news) (hpT : (c, tup3 x y z a1 a2 a3) ∈ news) (hx : x.natAbs < 2 ^ 40) (hy : y.natAbs < 2 ^ 40) (hz : z.natAbs < 2 ^ 40) (hkk : k.natAbs < 2 ^ 40) (hd : dp + 4 < recursionLimit) (hu : un + 32 < cLine)
    (ret : ∀ (y9 e9 T9 : Addr) (t1 t2 t3 t4 : Tok) (h' : Heap) (tk' : Nat), Fr h₀ L h' m → News h₀ L h' ((y9, ptI e9) :: (e9, ptD w T9 t4) :: (T9, tup3 (x * k) (y * k) (z * k) t1 t2 t3) :: news) → Q (.ref y9) { s with heap := h', toks := tk' }) :
    wpAny (model PR w) (ktrTop dp un gd cn cs L a ccd cl outer) (call (.ref 98) [.ref p, .int k tq]) Q E s := wpAny_call (mulC0 B F X N T hk hp hpd hpT hx hy hz hkk hd hu ret)
theorem words10 : True := by
  (k_with "call ref" => ((with_reducible rename Mk 10 => hMk9); (((with_reducible show wpAny _ _ (call (Value.ref 42) [Value.ref _, Value.int 0 _]) _ _ _); k_here; k_dflt (refine get0C (by k_asm) (by k_asm) (by k_asm) (by k_asm) (by k_asm) (by first | exact rfl | assumption) (by k_mem) (by k_mem) (by k_mem) (by k_extra "ROOM") (by k_extra "UNITS") ?_; k_whole; intro t9 h9 tk9 F9 N9; (try dsimp only); (try k_fold))))))
  (k_with "call ref" => ((with_reducible rename Mk 10 => hMk9); (((with_reducible show wpAny _ _ (call (Value.ref 42) [Value.ref _, Value.int 1 _]) _ _ _); k_here; k_dflt (refine get1C (by k_asm) (by k_asm) (by k_asm) (by k_asm) (by k_asm) (by first | exact rfl | assumption) (by k_mem) (by k_mem) (by k_mem) (by k_extra "ROOM") (by k_extra "UNITS") ?_; k_whole; intro t9 h9 tk9 F9 N9; (try dsimp only); (try k_fold))))))
  (k_with "call ref" => ((with_reducible rename Mk 10 => hMk9); (((with_reducible show wpAny _ _ (call (Value.ref 42) [Value.ref _, Value.int 2 _]) _ _ _); k_here; k_dflt (refine get2C (by k_asm) (by k_asm) (by k_asm) (by k_asm) (by k_asm) (by first | exact rfl | assumption) (by k_mem) (by k_mem) (by k_mem) (by k_extra "ROOM") (by k_extra "UNITS") ?_; k_whole; intro t9 h9 tk9 F9 N9; (try dsimp only); (try k_fold))))))
  (k_with "call ref" => ((with_reducible rename Mk 10 => hMk9); (((with_reducible show wpAny _ _ (call (Value.ref 98) _) _ _ _); k_here; k_dflt (refine mulC (by k_asm) (by k_asm) (by k_asm) (by k_asm) (by k_asm) (by first | exact rfl | assumption) (by k_mem) (by k_mem) (by k_mem) (by k_extra "OM") (by k_extra "OM") (by k_extra "OM") (by k_extra "OM") (by k_extra "ROOM") (by k_extra "UNITS") ?_; k_whole; intro y9 e9 T9 t1 t2 t3 t4 h9 tk9 F9 N9; (try dsimp only); (try k_fold))))))
  trivial
theorem addC0 {p d c : Addr} {x y z : Int} {tk a1 a2 a3 : Tok} {p2 d2 c2 : Addr} {x2 y2 z2 : Int} {tk2 b1 b2 b3 : Tok} {rx ry rz : Int} (B : Below A₀ base outer h₀) (F : Fr h₀ L s.heap m) (X : (K1 w.params).In h₀) (N : News h₀ L s.heap news) (T : Top V1 loose mean mg mb h₀) (hk : cs.kind = .function)
    (hp : (p, ptI d) ∈ news) (hpd : (d, ptD w c tk) ∈ news) (hpT : (c, tup3 x y z a1 a2 a3) ∈ news) (hp2 : (p2, ptI d2) ∈ news) (hpd2 : (d2, ptD w c2 tk2) ∈ news) (hpT2 : (c2, tup3 x2 y2 z2 b1 b2 b3) ∈ news) (hrx : x + x2 = rx) (hry : y + y2 = ry) (hrz : z + z2 = rz) (hd : dp + 4 < recursionLimit) (hu : un + 32 < cLine)
    (ret : ∀ (y9 e9 T9 : Addr) (t1 t2 t3 t4 : Tok) (h' : Heap) (tk' : Nat), Fr h₀ L h' m → News h₀ L h' ((y9, ptI e9) :: (e9, ptD w T9 t4) :: (T9, tup3 (rx) (ry) (rz) t1 t2 t3) :: news) → R (.ok (.ret (.ref y9))) { s with heap := h', toks := tk' }) :
    codeAny (model PR w) (ktrTop dp un gd cn cs L a ccd cl outer) (.call (.ref 84) ⟨[.ref p, .ref p2], []⟩) R s := by
  have hMk8 : Mk 10 := ⟨⟩
  subst hrx hry hrz
  w_top off
  k_dflt (walk_at "ENTER")
  k_steps
  all_goals first
    | ((rename News _ _ _ _ => kN9); exact ret _ _ _ _ _ _ _ _ _ (by k_asm) (drop_to kN9 (by k_extra "SUB")))
    | fail "an end"
theorem addC {p d c : Addr} {x y z : Int} {tk a1 a2 a3 : Tok} {p2 d2 c2 : Addr} {x2 y2 z2 : Int} {tk2 b1 b2 b3 : Tok} {rx ry rz : Int} (B : Below A₀ base outer h₀) (F : Fr h₀ L s.heap m) (X : (K1 w.params).In h₀) (N : News h₀ L s.heap news) (T : Top V1 loose mean mg mb h₀) (hk : cs.kind = .function)
    (hp : (p, ptI d) ∈ news) (hpd : (d, ptD w c tk) ∈ news) (hpT : (c, tup3 x y z a1 a2 a3) ∈ news) (hp2 : (p2, ptI d2) ∈ news) (hpd2 : (d2, ptD w c2 tk2) ∈ news) (hpT2 : (c2, tup3 x2 y2 z2 b1 b2 b3) ∈ news) (hrx : x + x2 = rx) (hry : y + y2 = ry) (hrz : z + z2 = rz) (hd : dp + 4 < recursionLimit) (hu : un + 32 < cLine)
    (ret : ∀ (y9 e9 T9 : Addr) (t1 t2 t3 t4 : Tok) (h' : Heap) (tk' : Nat), Fr h₀ L h' m → News h₀ L h' ((y9, ptI e9) :: (e9, ptD w T9 t4) :: (T9, tup3 (rx) (ry) (rz) t1 t2 t3) :: news) → Q (.ref y9) { s with heap := h', toks := tk' }) :
    wpAny (model PR w) (ktrTop dp un gd cn cs L a ccd cl outer) (call (.ref 84) [.ref p, .ref p2]) Q E s := wpAny_call (addC0 B F X N T hk hp hpd hpT hp2 hpd2 hpT2 hrx hry hrz hd hu ret)
theorem words11 : True := by
  (k_with "call ref" => ((with_reducible rename Mk 11 => hMk9); (((with_reducible show wpAny _ _ (call (Value.ref 42) [Value.ref _, Value.int 0 _]) _ _ _); k_here; k_dflt (refine get0C (by k_asm) (by k_asm) (by k_asm) (by k_asm) (by k_asm) (by first | exact rfl | assumption) (by k_mem) (by k_mem) (by k_mem) (by k_extra "ROOM") (by k_extra "UNITS") ?_; k_whole; intro t9 h9 tk9 F9 N9; (try dsimp only); (try k_fold))))))
  (k_with "call ref" => ((with_reducible rename Mk 11 => hMk9); (((with_reducible show wpAny _ _ (call (Value.ref 42) [Value.ref _, Value.int 1 _]) _ _ _); k_here; k_dflt (refine get1C (by k_asm) (by k_asm) (by k_asm) (by k_asm) (by k_asm) (by first | exact rfl | assumption) (by k_mem) (by k_mem) (by k_mem) (by k_extra "ROOM") (by k_extra "UNITS") ?_; k_whole; intro t9 h9 tk9 F9 N9; (try dsimp only); (try k_fold))))))
  (k_with "call ref" => ((with_reducible rename Mk 11 => hMk9); (((with_reducible show wpAny _ _ (call (Value.ref 42) [Value.ref _, Value.int 2 _]) _ _ _); k_here; k_dflt (refine get2C (by k_asm) (by k_asm) (by k_asm) (by k_asm) (by k_asm) (by first | exact rfl | assumption) (by k_mem) (by k_mem) (by k_mem) (by k_extra "ROOM") (by k_extra "UNITS") ?_; k_whole; intro t9 h9 tk9 F9 N9; (try dsimp only); (try k_fold))))))
  (k_with "call ref" => ((with_reducible rename Mk 11 => hMk9); (((with_reducible show wpAny _ _ (call (Value.ref 98) _) _ _ _); k_here; k_dflt (refine mulC (by k_asm) (by k_asm) (by k_asm) (by k_asm) (by k_asm) (by first | exact rfl | assumption) (by k_mem) (by k_mem) (by k_mem) (by k_extra "OM") (by k_extra "OM") (by k_extra "OM") (by k_extra "OM") (by k_extra "ROOM") (by k_extra "UNITS") ?_; k_whole; intro y9 e9 T9 t1 t2 t3 t4 h9 tk9 F9 N9; (try dsimp only); (try k_fold))))))
  (k_with "call ref" => ((with_reducible rename Mk 11 => hMk9); (((with_reducible show wpAny _ _ (call (Value.ref 84) _) _ _ _); k_here; k_dflt (refine addC (by k_asm) (by k_asm) (by k_asm) (by k_asm) (by k_asm) (by first | exact rfl | assumption) (by k_mem) (by k_mem) (by k_mem) (by k_mem) (by k_mem) (by k_mem) (by first | assumption | exact rfl) (by first | assumption | exact rfl) (by first | assumption | exact rfl) (by k_extra "ROOM") (by k_extra "UNITS") ?_; k_whole; intro y9 e9 T9 t1 t2 t3 t4 h9 tk9 F9 N9; (try dsimp only); (try k_fold))))))
  trivial
theorem dotC0 {p d c : Addr} {x y z : Int} {tk a1 a2 a3 : Tok} {p2 d2 c2 : Addr} {x2 y2 z2 : Int} {tk2 b1 b2 b3 : Tok} (B : Below A₀ base outer h₀) (F : Fr h₀ L s.heap m) (X : (K1 w.params).In h₀) (N : News h₀ L s.heap news) (T : Top V1 loose mean mg mb h₀) (hk : cs.kind = .function)
    (hp : (p, ptI d) ∈ news) (hpd : (d, ptD w c tk) ∈ news) (hpT : (c, tup3 x y z a1 a2 a3) ∈ news) (hp2 : (p2, ptI d2) ∈ news) (hpd2 : (d2, ptD w c2 tk2) ∈ news) (hpT2 : (c2, tup3 x2 y2 z2 b1 b2 b3) ∈ news) (hx : x.natAbs < 2 ^ 40) (hy : y.natAbs < 2 ^ 40) (hz : z.natAbs < 2 ^ 40) (hx2 : x2.natAbs < 2 ^ 40) (hy2 : y2.natAbs < 2 ^ 40) (hz2 : z2.natAbs < 2 ^ 40) (hd : dp + 3 < recursionLimit) (hu : un + 24 < cLine)
    (ret : ∀ (t : Tok) (h' : Heap) (tk' : Nat), Fr h₀ L h' m → News h₀ L h' news → R (.ok (.ret (.int (x * x2 + y * y2 + z * z2) t))) { s with heap := h', toks := tk' }) :
    codeAny (model PR w) (ktrTop dp un gd cn cs L a ccd cl outer) (.call (.ref 124) ⟨[.ref p, .ref p2], []⟩) R s := by
  have hMk8 : Mk 11 := ⟨⟩
  w_top off
  k_dflt (walk_at "ENTER")
  k_steps
  all_goals first
    | ((rename News _ _ _ _ => kN9); exact ret _ _ _ (by k_asm) (drop_to kN9 (by k_extra "SUB")))
    | fail "an end"
theorem dotC {p d c : Addr} {x y z : Int} {tk a1 a2 a3 : Tok} {p2 d2 c2 : Addr} {x2 y2 z2 : Int} {tk2 b1 b2 b3 : Tok} (B : Below A₀ base outer h₀) (F : Fr h₀ L s.heap m) (X : (K1 w.params).In h₀) (N : News h₀ L s.heap news) (T : Top V1 loose mean mg mb h₀) (hk : cs.kind = .function)
    (hp : (p, ptI d) ∈ news) (hpd : (d, ptD w c tk) ∈ news) (hpT : (c, tup3 x y z a1 a2 a3) ∈ news) (hp2 : (p2, ptI d2) ∈ news) (hpd2 : (d2, ptD w c2 tk2) ∈ news) (hpT2 : (c2, tup3 x2 y2 z2 b1 b2 b3) ∈ news) (hx : x.natAbs < 2 ^ 40) (hy : y.natAbs < 2 ^ 40) (hz : z.natAbs < 2 ^ 40) (hx2 : x2.natAbs < 2 ^ 40) (hy2 : y2.natAbs < 2 ^ 40) (hz2 : z2.natAbs < 2 ^ 40) (hd : dp + 3 < recursionLimit) (hu : un + 24 < cLine)
    (ret : ∀ (t : Tok) (h' : Heap) (tk' : Nat), Fr h₀ L h' m → News h₀ L h' news → Q (.int (x * x2 + y * y2 + z * z2) t) { s with heap := h', toks := tk' }) :
    wpAny (model PR w) (ktrTop dp un gd cn cs L a ccd cl outer) (call (.ref 124) [.ref p, .ref p2]) Q E s := wpAny_call (dotC0 B F X N T hk hp hpd hpT hp2 hpd2 hpT2 hx hy hz hx2 hy2 hz2 hd hu ret)
section
theorem words12 : True := by
  (k_with "call ref" => ((with_reducible rename Mk 12 => hMk9); (((with_reducible show wpAny _ _ (call (Value.ref 42) [Value.ref _, Value.int 0 _]) _ _ _); k_here; k_dflt (refine get0C (by k_asm) (by k_asm) (by k_asm) (by k_asm) (by k_asm) (by first | exact rfl | assumption) (by k_mem) (by k_mem) (by k_mem) (by k_extra "ROOM") (by k_extra "UNITS") ?_; k_whole; intro t9 h9 tk9 F9 N9; (try dsimp only); (try k_fold))))))
  (k_with "call ref" => ((with_reducible rename Mk 12 => hMk9); (((with_reducible show wpAny _ _ (call (Value.ref 42) [Value.ref _, Value.int 1 _]) _ _ _); k_here; k_dflt (refine get1C (by k_asm) (by k_asm) (by k_asm) (by k_asm) (by k_asm) (by first | exact rfl | assumption) (by k_mem) (by k_mem) (by k_mem) (by k_extra "ROOM") (by k_extra "UNITS") ?_; k_whole; intro t9 h9 tk9 F9 N9; (try dsimp only); (try k_fold))))))
  (k_with "call ref" => ((with_reducible rename Mk 12 => hMk9); (((with_reducible show wpAny _ _ (call (Value.ref 42) [Value.ref _, Value.int 2 _]) _ _ _); k_here; k_dflt (refine get2C (by k_asm) (by k_asm) (by k_asm) (by k_asm) (by k_asm) (by first | exact rfl | assumption) (by k_mem) (by k_mem) (by k_mem) (by k_extra "ROOM") (by k_extra "UNITS") ?_; k_whole; intro t9 h9 tk9 F9 N9; (try dsimp only); (try k_fold))))))
  (k_with "call ref" => ((with_reducible rename Mk 12 => hMk9); (((with_reducible show wpAny _ _ (call (Value.ref 98) _) _ _ _); k_here; k_dflt (refine mulC (by k_asm) (by k_asm) (by k_asm) (by k_asm) (by k_asm) (by first | exact rfl | assumption) (by k_mem) (by k_mem) (by k_mem) (by k_extra "OM") (by k_extra "OM") (by k_extra "OM") (by k_extra "OM") (by k_extra "ROOM") (by k_extra "UNITS") ?_; k_whole; intro y9 e9 T9 t1 t2 t3 t4 h9 tk9 F9 N9; (try dsimp only); (try k_fold))))))
  (k_with "call ref" => ((with_reducible rename Mk 12 => hMk9); (((with_reducible show wpAny _ _ (call (Value.ref 84) _) _ _ _); k_here; k_dflt (refine addC (by k_asm) (by k_asm) (by k_asm) (by k_asm) (by k_asm) (by first | exact rfl | assumption) (by k_mem) (by k_mem) (by k_mem) (by k_mem) (by k_mem) (by k_mem) (by first | assumption | exact rfl) (by first | assumption | exact rfl) (by first | assumption | exact rfl) (by k_extra "ROOM") (by k_extra "UNITS") ?_; k_whole; intro y9 e9 T9 t1 t2 t3 t4 h9 tk9 F9 N9; (try dsimp only); (try k_fold))))))
  (k_with "exec Assign cons ListComp" => ((with_reducible rename Mk 12 => hMk9); ((k_here; k_dflt (refine Assign_ListComp_tup (_F₀ := by k_asm) (by rfl) (by with_unfolding_all rfl) (by rfl) (by decide) (by rfl) (by decide) (by rfl) (by rfl) (by rfl) ?_)))))
  (k_with "eval ListComp" => ((with_reducible rename Mk 12 => hMk9); ((k_here; k_dflt (refine ListComp_tup (_F₀ := by k_asm) (by rfl) (by decide) (by rfl) (by decide) (by rfl) ?_)))))
  (k_with "TupSrc" => ((with_reducible rename Mk 12 => hMk9); ((k_here; k_dflt (refine TupSrc.ledger (by rfl) (by k_asm) (by k_asm) (by k_mem) (by first | size_fits | exact Nat.le_of_ble_eq_true rfl) ?_; intro g'; lcg_lit)))))
  (k_with "CompEnd" => ((with_reducible rename Mk 12 => hMk9); ((refine compEnd_same (by k_asm) (by k_asm) (by assumption) (by first | assumption | exact Or.inr ⟨_, by k_mem, rfl, _, rfl⟩) ?_))))
  trivial
theorem lacC0 {p d c : Addr} {x y z : Int} {tk a1 a2 a3 : Tok} {r : Int} (B : Below A₀ base outer h₀) (F : Fr h₀ L s.heap m) (X : (K1 w.params).In h₀) (N : News h₀ L s.heap news) (T : Top V1 loose mean mg mb h₀) (hk : cs.kind = .function)
    (hp : (p, ptI d) ∈ news) (hpd : (d, ptD w c tk) ∈ news) (hpT : (c, tup3 x y z a1 a2 a3) ∈ news) (hr : lac x y z = r) (hd : dp + 3 < recursionLimit) (hu : un + 24 < cLine)
    (ret : ∀ (t : Tok) (h' : Heap) (tk' : Nat), Fr h₀ L h' m → News h₀ L h' news → R (.ok (.ret (.int r t))) { s with heap := h', toks := tk' }) :
    codeAny (model PR w) (ktrTop dp un gd cn cs L a ccd cl outer) (.call (.ref 110) ⟨[.ref p], []⟩) R s := by
  have hMk8 : Mk 12 := ⟨⟩
  w_top off
  k_dflt (walk_at "ENTER")
  k_steps
  all_goals first
    | (((rename News _ _ _ _ => kN9); refine cb_retR ret ?e1 ?e2 ?e3; (case e1 => (subst hr; symm; first | exact lac_a (by assumption) (by assumption) | exact lac_b (by assumption) (by assumption) | exact lac_c (by assumption) (by assumption) | exact lac_d (by assumption) (by assumption))); (case e2 => k_asm); (case e3 => exact drop_to kN9 (by k_extra "SUB"))))
    | fail "an end"
theorem lacC {p d c : Addr} {x y z : Int} {tk a1 a2 a3 : Tok} {r : Int} (B : Below A₀ base outer h₀) (F : Fr h₀ L s.heap m) (X : (K1 w.params).In h₀) (N : News h₀ L s.heap news) (T : Top V1 loose mean mg mb h₀) (hk : cs.kind = .function)
    (hp : (p, ptI d) ∈ news) (hpd : (d, ptD w c tk) ∈ news) (hpT : (c, tup3 x y z a1 a2 a3) ∈ news) (hr : lac x y z = r) (hd : dp + 3 < recursionLimit) (hu : un + 24 < cLine)
    (ret : ∀ (t : Tok) (h' : Heap) (tk' : Nat), Fr h₀ L h' m → News h₀ L h' news → Q (.int r t) { s with heap := h', toks := tk' }) :
    wpAny (model PR w) (ktrTop dp un gd cn cs L a ccd cl outer) (call (.ref 110) [.ref p]) Q E s := wpAny_call (lacC0 B F X N T hk hp hpd hpT hr hd hu ret)
end
end
theorem dot_ne {f x y z : Int} (h0 : 0 ≤ f) (h6 : f < 6) (hd : 0 < dotf f x y z) : (f = 0 → x ≠ 0) ∧ (f = 1 → y ≠ 0) ∧ (f = 2 → z ≠ 0) ∧ (f = 3 → x ≠ 0) ∧ (f = 4 → y ≠ 0) ∧ (f = 5 → z ≠ 0) := by
  rcases f_cases h0 h6 with rfl | rfl | rfl | rfl | rfl | rfl <;> (simp [dotf, fx, fy, fz] at hd; omega)
abbrev tup2 (x y : Int) (t1 t2 : Tok) : Obj := { cls := .type "tuple", data := .seq #[.int x t1, .int y t2] }
section
variable {w : World} {dp un : Nat} {gd : Option (List Code)} {cn : Str} {cs : Scope} {a : Addr} {ccd : Value} {cl : List (Str × Addr)} {outer : List Env} {A₀ : Around} {base h₀ : Heap} {L : Addr} {m : Str → Option Value} {news : List (Addr × Obj)} {s : Shared}
    {mg mb : Str → Option Value} {loose : List Str} {mean : ExcName → Option Value} {Q E : Value → Shared → Prop} {R : Result → Shared → Prop}
section
theorem words13 : True := by
  (k_with "call ref" => ((with_reducible rename Mk 13 => hMk9); (((with_reducible show wpAny _ _ (call (Value.ref 42) [Value.ref _, Value.int 0 _]) _ _ _); k_here; k_dflt (refine get0C (by k_asm) (by k_asm) (by k_asm) (by k_asm) (by k_asm) (by first | exact rfl | assumption) (by k_mem) (by k_mem) (by k_mem) (by k_extra "ROOM") (by k_extra "UNITS") ?_; k_whole; intro t9 h9 tk9 F9 N9; (try dsimp only); (try k_fold))))))
  (k_with "call ref" => ((with_reducible rename Mk 13 => hMk9); (((with_reducible show wpAny _ _ (call (Value.ref 42) [Value.ref _, Value.int 1 _]) _ _ _); k_here; k_dflt (refine get1C (by k_asm) (by k_asm) (by k_asm) (by k_asm) (by k_asm) (by first | exact rfl | assumption) (by k_mem) (by k_mem) (by k_mem) (by k_extra "ROOM") (by k_extra "UNITS") ?_; k_whole; intro t9 h9 tk9 F9 N9; (try dsimp only); (try k_fold))))))
  (k_with "call ref" => ((with_reducible rename Mk 13 => hMk9); (((with_reducible show wpAny _ _ (call (Value.ref 42) [Value.ref _, Value.int 2 _]) _ _ _); k_here; k_dflt (refine get2C (by k_asm) (by k_asm) (by k_asm) (by k_asm) (by k_asm) (by first | exact rfl | assumption) (by k_mem) (by k_mem) (by k_mem) (by k_extra "ROOM") (by k_extra "UNITS") ?_; k_whole; intro t9 h9 tk9 F9 N9; (try dsimp only); (try k_fold))))))
  (k_with "call ref" => ((with_reducible rename Mk 13 => hMk9); (((with_reducible show wpAny _ _ (call (Value.ref 98) _) _ _ _); k_here; k_dflt (refine mulC (by k_asm) (by k_asm) (by k_asm) (by k_asm) (by k_asm) (by first | exact rfl | assumption) (by k_mem) (by k_mem) (by k_mem) (by k_extra "OM") (by k_extra "OM") (by k_extra "OM") (by k_extra "OM") (by k_extra "ROOM") (by k_extra "UNITS") ?_; k_whole; intro y9 e9 T9 t1 t2 t3 t4 h9 tk9 F9 N9; (try dsimp only); (try k_fold))))))
  (k_with "call ref" => ((with_reducible rename Mk 13 => hMk9); (((with_reducible show wpAny _ _ (call (Value.ref 84) _) _ _ _); k_here; k_dflt (refine addC (by k_asm) (by k_asm) (by k_asm) (by k_asm) (by k_asm) (by first | exact rfl | assumption) (by k_mem) (by k_mem) (by k_mem) (by k_mem) (by k_mem) (by k_mem) (by first | assumption | exact rfl) (by first | assumption | exact rfl) (by first | assumption | exact rfl) (by k_extra "ROOM") (by k_extra "UNITS") ?_; k_whole; intro y9 e9 T9 t1 t2 t3 t4 h9 tk9 F9 N9; (try dsimp only); (try k_fold))))))
  (k_with "binaryOp FloorDiv int int" => ((with_reducible rename Mk 13 => hMk9); ((k_here; refine floordiv_int (by omega) ?_ (Or.inl (PyProof.noPylong_of_log2 (log2_lt_60 (by assumption)))); (try dsimp only)))))
  trivial
theorem quotC0 {a9 b9 : Int} {t1 t2 : Tok} (B : Below A₀ base outer h₀) (F : Fr h₀ L s.heap m) (X : (K1 w.params).In h₀) (N : News h₀ L s.heap news) (T : Top V1 loose mean mg mb h₀) (hk : cs.kind = .function)
    (hb : b9 ≠ 0) (ha : a9.natAbs < 2 ^ 40) (hb2 : b9.natAbs < 2 ^ 40) (hd : dp + 2 < recursionLimit) (hu : un + 16 < cLine)
    (ret : ∀ (t : Tok) (h' : Heap) (tk' : Nat), Fr h₀ L h' m → News h₀ L h' news → R (.ok (.ret (.int (qt a9 b9) t))) { s with heap := h', toks := tk' }) :
    codeAny (model PR w) (ktrTop dp un gd cn cs L a ccd cl outer) (.call (.ref 572) ⟨[.int a9 t1, .int b9 t2], []⟩) R s := by
  have hMk8 : Mk 13 := ⟨⟩
  w_top off
  k_dflt (walk_at "ENTER")
  k_steps
  all_goals first
    | (exact ret _ _ _ (by k_asm) (by k_asm))
    | fail "an end"
theorem quotC {a9 b9 : Int} {t1 t2 : Tok} (B : Below A₀ base outer h₀) (F : Fr h₀ L s.heap m) (X : (K1 w.params).In h₀) (N : News h₀ L s.heap news) (T : Top V1 loose mean mg mb h₀) (hk : cs.kind = .function)
    (hb : b9 ≠ 0) (ha : a9.natAbs < 2 ^ 40) (hb2 : b9.natAbs < 2 ^ 40) (hd : dp + 2 < recursionLimit) (hu : un + 16 < cLine)
    (ret : ∀ (t : Tok) (h' : Heap) (tk' : Nat), Fr h₀ L h' m → News h₀ L h' news → Q (.int (qt a9 b9) t) { s with heap := h', toks := tk' }) :
    wpAny (model PR w) (ktrTop dp un gd cn cs L a ccd cl outer) (call (.ref 572) [.int a9 t1, .int b9 t2]) Q E s := wpAny_call (quotC0 B F X N T hk hb ha hb2 hd hu ret)
end
section
theorem words14 : True := by
  (k_with "call ref" => ((with_reducible rename Mk 14 => hMk9); (((with_reducible show wpAny _ _ (call (Value.ref 42) [Value.ref _, Value.int 0 _]) _ _ _); k_here; k_dflt (refine get0C (by k_asm) (by k_asm) (by k_asm) (by k_asm) (by k_asm) (by first | exact rfl | assumption) (by k_mem) (by k_mem) (by k_mem) (by k_extra "ROOM") (by k_extra "UNITS") ?_; k_whole; intro t9 h9 tk9 F9 N9; (try dsimp only); (try k_fold))))))
  (k_with "call ref" => ((with_reducible rename Mk 14 => hMk9); (((with_reducible show wpAny _ _ (call (Value.ref 42) [Value.ref _, Value.int 1 _]) _ _ _); k_here; k_dflt (refine get1C (by k_asm) (by k_asm) (by k_asm) (by k_asm) (by k_asm) (by first | exact rfl | assumption) (by k_mem) (by k_mem) (by k_mem) (by k_extra "ROOM") (by k_extra "UNITS") ?_; k_whole; intro t9 h9 tk9 F9 N9; (try dsimp only); (try k_fold))))))
  (k_with "call ref" => ((with_reducible rename Mk 14 => hMk9); (((with_reducible show wpAny _ _ (call (Value.ref 42) [Value.ref _, Value.int 2 _]) _ _ _); k_here; k_dflt (refine get2C (by k_asm) (by k_asm) (by k_asm) (by k_asm) (by k_asm) (by first | exact rfl | assumption) (by k_mem) (by k_mem) (by k_mem) (by k_extra "ROOM") (by k_extra "UNITS") ?_; k_whole; intro t9 h9 tk9 F9 N9; (try dsimp only); (try k_fold))))))
  (k_with "call ref" => ((with_reducible rename Mk 14 => hMk9); (((with_reducible show wpAny _ _ (call (Value.ref 98) _) _ _ _); k_here; k_dflt (refine mulC (by k_asm) (by k_asm) (by k_asm) (by k_asm) (by k_asm) (by first | exact rfl | assumption) (by k_mem) (by k_mem) (by k_mem) (by k_extra "OM") (by k_extra "OM") (by k_extra "OM") (by k_extra "OM") (by k_extra "ROOM") (by k_extra "UNITS") ?_; k_whole; intro y9 e9 T9 t1 t2 t3 t4 h9 tk9 F9 N9; (try dsimp only); (try k_fold))))))
  (k_with "call ref" => ((with_reducible rename Mk 14 => hMk9); (((with_reducible show wpAny _ _ (call (Value.ref 84) _) _ _ _); k_here; k_dflt (refine addC (by k_asm) (by k_asm) (by k_asm) (by k_asm) (by k_asm) (by first | exact rfl | assumption) (by k_mem) (by k_mem) (by k_mem) (by k_mem) (by k_mem) (by k_mem) (by first | assumption | exact rfl) (by first | assumption | exact rfl) (by first | assumption | exact rfl) (by k_extra "ROOM") (by k_extra "UNITS") ?_; k_whole; intro y9 e9 T9 t1 t2 t3 t4 h9 tk9 F9 N9; (try dsimp only); (try k_fold))))))
  (k_with "exec If" => ((with_reducible rename Mk 14 => hMk9); (((rename Mark9 => hM9); clear hM9; rcases f_cases hf0 hf6 with rfl | rfl | rfl | rfl | rfl | rfl))))
  trivial
theorem vfC0 {p d c : Addr} {x y z : Int} {tk a1 a2 a3 : Tok} {f : Int} {tf : Tok} (B : Below A₀ base outer h₀) (F : Fr h₀ L s.heap m) (X : (K1 w.params).In h₀) (N : News h₀ L s.heap news) (T : Top V1 loose mean mg mb h₀) (hk : cs.kind = .function)
    (hp : (p, ptI d) ∈ news) (hpd : (d, ptD w c tk) ∈ news) (hpT : (c, tup3 x y z a1 a2 a3) ∈ news) (hf0 : 0 ≤ f) (hf6 : f < 6) (hx : x.natAbs < 2 ^ 40) (hy : y.natAbs < 2 ^ 40) (hz : z.natAbs < 2 ^ 40) (hdot : 0 < dotf f x y z) (hd : dp + 8 < recursionLimit) (hu : un + 64 < cLine)
    (ret : ∀ (T9 : Addr) (t1 t2 : Tok) (h' : Heap) (tk' : Nat), Fr h₀ L h' m → News h₀ L h' ((T9, tup2 (vu f x y z) (vv f x y z) t1 t2) :: news) → R (.ok (.ret (.ref T9))) { s with heap := h', toks := tk' }) :
    codeAny (model PR w) (ktrTop dp un gd cn cs L a ccd cl outer) (.call (.ref 579) ⟨[.int f tf, .ref p], []⟩) R s := by
  have hMk8 : Mk 14 := ⟨⟩
  have hm : (f = 0 → x ≠ 0) ∧ (f = 1 → y ≠ 0) ∧ (f = 2 → z ≠ 0) ∧ (f = 3 → x ≠ 0) ∧ (f = 4 → y ≠ 0) ∧ (f = 5 → z ≠ 0) := dot_ne hf0 hf6 hdot
  have hdot' : 0 < x * fx f 0 0 + y * fy f 0 0 + z * fz f 0 0 := hdot
  have hc1 := na_one (f_one f).1.1
  have hc2 := na_one (f_one f).1.2
  have hc3 := na_one (f_one f).2
  have hM9 : Mark9 := trivial
  w_top off
  k_dflt (walk_at "ENTER")
  k_steps
  all_goals first
    | ((rename News _ _ _ _ => kN9); exact ret _ _ _ _ _ (by k_asm) (drop_to kN9 (by k_extra "SUB")))
    | (exfalso; omega)
    | fail "an end"
theorem vfC {p d c : Addr} {x y z : Int} {tk a1 a2 a3 : Tok} {f : Int} {tf : Tok} (B : Below A₀ base outer h₀) (F : Fr h₀ L s.heap m) (X : (K1 w.params).In h₀) (N : News h₀ L s.heap news) (T : Top V1 loose mean mg mb h₀) (hk : cs.kind = .function)
    (hp : (p, ptI d) ∈ news) (hpd : (d, ptD w c tk) ∈ news) (hpT : (c, tup3 x y z a1 a2 a3) ∈ news) (hf0 : 0 ≤ f) (hf6 : f < 6) (hx : x.natAbs < 2 ^ 40) (hy : y.natAbs < 2 ^ 40) (hz : z.natAbs < 2 ^ 40) (hdot : 0 < dotf f x y z) (hd : dp + 8 < recursionLimit) (hu : un + 64 < cLine)
    (ret : ∀ (T9 : Addr) (t1 t2 : Tok) (h' : Heap) (tk' : Nat), Fr h₀ L h' m → News h₀ L h' ((T9, tup2 (vu f x y z) (vv f x y z) t1 t2) :: news) → Q (.ref T9) { s with heap := h', toks := tk' }) :
    wpAny (model PR w) (ktrTop dp un gd cn cs L a ccd cl outer) (call (.ref 579) [.int f tf, .ref p]) Q E s := wpAny_call (vfC0 B F X N T hk hp hpd hpT hf0 hf6 hx hy hz hdot hd hu ret)
end
section
theorem words15 : True := by
  (k_with "call ref" => ((with_reducible rename Mk 15 => hMk9); (((with_reducible show wpAny _ _ (call (Value.ref 42) [Value.ref _, Value.int 0 _]) _ _ _); k_here; k_dflt (refine get0C (by k_asm) (by k_asm) (by k_asm) (by k_asm) (by k_asm) (by first | exact rfl | assumption) (by k_mem) (by k_mem) (by k_mem) (by k_extra "ROOM") (by k_extra "UNITS") ?_; k_whole; intro t9 h9 tk9 F9 N9; (try dsimp only); (try k_fold))))))
  (k_with "call ref" => ((with_reducible rename Mk 15 => hMk9); (((with_reducible show wpAny _ _ (call (Value.ref 42) [Value.ref _, Value.int 1 _]) _ _ _); k_here; k_dflt (refine get1C (by k_asm) (by k_asm) (by k_asm) (by k_asm) (by k_asm) (by first | exact rfl | assumption) (by k_mem) (by k_mem) (by k_mem) (by k_extra "ROOM") (by k_extra "UNITS") ?_; k_whole; intro t9 h9 tk9 F9 N9; (try dsimp only); (try k_fold))))))
  (k_with "call ref" => ((with_reducible rename Mk 15 => hMk9); (((with_reducible show wpAny _ _ (call (Value.ref 42) [Value.ref _, Value.int 2 _]) _ _ _); k_here; k_dflt (refine get2C (by k_asm) (by k_asm) (by k_asm) (by k_asm) (by k_asm) (by first | exact rfl | assumption) (by k_mem) (by k_mem) (by k_mem) (by k_extra "ROOM") (by k_extra "UNITS") ?_; k_whole; intro t9 h9 tk9 F9 N9; (try dsimp only); (try k_fold))))))
  (k_with "call ref" => ((with_reducible rename Mk 15 => hMk9); (((with_reducible show wpAny _ _ (call (Value.ref 98) _) _ _ _); k_here; k_dflt (refine mulC (by k_asm) (by k_asm) (by k_asm) (by k_asm) (by k_asm) (by first | exact rfl | assumption) (by k_mem) (by k_mem) (by k_mem) (by k_extra "OM") (by k_extra "OM") (by k_extra "OM") (by k_extra "OM") (by k_extra "ROOM") (by k_extra "UNITS") ?_; k_whole; intro y9 e9 T9 t1 t2 t3 t4 h9 tk9 F9 N9; (try dsimp only); (try k_fold))))))
  (k_with "call ref" => ((with_reducible rename Mk 15 => hMk9); (((with_reducible show wpAny _ _ (call (Value.ref 84) _) _ _ _); k_here; k_dflt (refine addC (by k_asm) (by k_asm) (by k_asm) (by k_asm) (by k_asm) (by first | exact rfl | assumption) (by k_mem) (by k_mem) (by k_mem) (by k_mem) (by k_mem) (by k_mem) (by first | assumption | exact rfl) (by first | assumption | exact rfl) (by first | assumption | exact rfl) (by k_extra "ROOM") (by k_extra "UNITS") ?_; k_whole; intro y9 e9 T9 t1 t2 t3 t4 h9 tk9 F9 N9; (try dsimp only); (try k_fold))))))
  (k_with "storeName" => ((with_reducible rename Mk 15 => hMk9); ((k_here; (with_reducible show wpAny _ _ (storeName _ (PySem.Str.ofString "face") (Value.int (0 + 3) _)) _ _ _); (rename Fr _ _ _ _ => kF9); (rename News _ _ _ _ => kN9); k_dflt (refine gen_store_eq kF9 kN9 (show _ = (3 : Int) from by decide) ?_); intro tS9 h9 F9 N9; (try dsimp only)))))
  (k_with "storeName" => ((with_reducible rename Mk 15 => hMk9); ((k_here; (with_reducible show wpAny _ _ (storeName _ (PySem.Str.ofString "face") (Value.int (1 + 3) _)) _ _ _); (rename Fr _ _ _ _ => kF9); (rename News _ _ _ _ => kN9); k_dflt (refine gen_store_eq kF9 kN9 (show _ = (4 : Int) from by decide) ?_); intro tS9 h9 F9 N9; (try dsimp only)))))
  (k_with "storeName" => ((with_reducible rename Mk 15 => hMk9); ((k_here; (with_reducible show wpAny _ _ (storeName _ (PySem.Str.ofString "face") (Value.int (2 + 3) _)) _ _ _); (rename Fr _ _ _ _ => kF9); (rename News _ _ _ _ => kN9); k_dflt (refine gen_store_eq kF9 kN9 (show _ = (5 : Int) from by decide) ?_); intro tS9 h9 F9 N9; (try dsimp only)))))
  trivial
theorem xfC0 {p d c : Addr} {x y z : Int} {tk a1 a2 a3 : Tok} {F9 u9 v9 : Int} (B : Below A₀ base outer h₀) (F : Fr h₀ L s.heap m) (X : (K1 w.params).In h₀) (N : News h₀ L s.heap news) (T : Top V1 loose mean mg mb h₀) (hk : cs.kind = .function)
    (hp : (p, ptI d) ∈ news) (hpd : (d, ptD w c tk) ∈ news) (hpT : (c, tup3 x y z a1 a2 a3) ∈ news) (hx : x.natAbs < 2 ^ 40) (hy : y.natAbs < 2 ^ 40) (hz : z.natAbs < 2 ^ 40) (hne : x ≠ 0 ∨ y ≠ 0 ∨ z ≠ 0) (hr1 : xfF x y z = F9) (hr2 : vu F9 x y z = u9) (hr3 : vv F9 x y z = v9) (hd : dp + 10 < recursionLimit) (hu : un + 80 < cLine)
    (ret : ∀ (T9 : Addr) (t1 t2 t3 : Tok) (h' : Heap) (tk' : Nat), Fr h₀ L h' m → News h₀ L h' ((T9, tup3 (F9) (u9) (v9) t1 t2 t3) :: news) → R (.ok (.ret (.ref T9))) { s with heap := h', toks := tk' }) :
    codeAny (model PR w) (ktrTop dp un gd cn cs L a ccd cl outer) (.call (.ref 586) ⟨[.ref p], []⟩) R s := by
  have hMk8 : Mk 15 := ⟨⟩
  subst hr1
  subst hr2 hr3
  obtain ⟨hl0, hl1, hl2⟩ := lac_zero hne
  have hc := lac_cases x y z
  rcases hc with hc | hc | hc
  · by_cases hs : x < 0
    · have hF : xfF x y z = 3 := by unfold xfF; simp [hc, hs]
      have hdd : 0 < dotf 3 x y z := by
        have h := hl0 hc
        simp [dotf, fx, fy, fz]
        omega
      rw [hF] at ret
      clear hl0 hl1 hl2 hne hF
      w_top off
      k_dflt (walk_at "ENTER")
      k_steps
      all_goals first
    | ((rename News _ _ _ _ => kN9); exact ret _ _ _ _ _ _ (by k_asm) (drop_to kN9 (by k_extra "SUB")))
    | fail "an end"
    · have hF : xfF x y z = 0 := by unfold xfF; simp [hc, hs]
      have hdd : 0 < dotf 0 x y z := by
        have h := hl0 hc
        simp [dotf, fx, fy, fz]
        omega
      rw [hF] at ret
      clear hl0 hl1 hl2 hne hF
      w_top off
      k_dflt (walk_at "ENTER")
      k_steps
      all_goals first
    | ((rename News _ _ _ _ => kN9); exact ret _ _ _ _ _ _ (by k_asm) (drop_to kN9 (by k_extra "SUB")))
    | fail "an end"
  · by_cases hs : y < 0
    · have hF : xfF x y z = 4 := by unfold xfF; simp [hc, hs]
      have hdd : 0 < dotf 4 x y z := by
        have h := hl1 hc
        simp [dotf, fx, fy, fz]
        omega
      rw [hF] at ret
      clear hl0 hl1 hl2 hne hF
      w_top off
      k_dflt (walk_at "ENTER")
      k_steps
      all_goals first
    | ((rename News _ _ _ _ => kN9); exact ret _ _ _ _ _ _ (by k_asm) (drop_to kN9 (by k_extra "SUB")))
    | fail "an end"
    · have hF : xfF x y z = 1 := by unfold xfF; simp [hc, hs]
      have hdd : 0 < dotf 1 x y z := by
        have h := hl1 hc
        simp [dotf, fx, fy, fz]
        omega
      rw [hF] at ret
      clear hl0 hl1 hl2 hne hF
      w_top off
      k_dflt (walk_at "ENTER")
      k_steps
      all_goals first
    | ((rename News _ _ _ _ => kN9); exact ret _ _ _ _ _ _ (by k_asm) (drop_to kN9 (by k_extra "SUB")))
    | fail "an end"
  · by_cases hs : z < 0
    · have hF : xfF x y z = 5 := by unfold xfF; simp [hc, hs]
      have hdd : 0 < dotf 5 x y z := by
        have h := hl2 hc
        simp [dotf, fx, fy, fz]
        omega
      rw [hF] at ret
      clear hl0 hl1 hl2 hne hF
      w_top off
      k_dflt (walk_at "ENTER")
      k_steps
      all_goals first
    | ((rename News _ _ _ _ => kN9); exact ret _ _ _ _ _ _ (by k_asm) (drop_to kN9 (by k_extra "SUB")))
    | fail "an end"
    · have hF : xfF x y z = 2 := by unfold xfF; simp [hc, hs]
      have hdd : 0 < dotf 2 x y z := by
        have h := hl2 hc
        simp [dotf, fx, fy, fz]
        omega
      rw [hF] at ret
      clear hl0 hl1 hl2 hne hF
      w_top off
      k_dflt (walk_at "ENTER")
      k_steps
      all_goals first
    | ((rename News _ _ _ _ => kN9); exact ret _ _ _ _ _ _ (by k_asm) (drop_to kN9 (by k_extra "SUB")))
    | fail "an end"
theorem xfC {p d c : Addr} {x y z : Int} {tk a1 a2 a3 : Tok} {F9 u9 v9 : Int} (B : Below A₀ base outer h₀) (F : Fr h₀ L s.heap m) (X : (K1 w.params).In h₀) (N : News h₀ L s.heap news) (T : Top V1 loose mean mg mb h₀) (hk : cs.kind = .function)
    (hp : (p, ptI d) ∈ news) (hpd : (d, ptD w c tk) ∈ news) (hpT : (c, tup3 x y z a1 a2 a3) ∈ news) (hx : x.natAbs < 2 ^ 40) (hy : y.natAbs < 2 ^ 40) (hz : z.natAbs < 2 ^ 40) (hne : x ≠ 0 ∨ y ≠ 0 ∨ z ≠ 0) (hr1 : xfF x y z = F9) (hr2 : vu F9 x y z = u9) (hr3 : vv F9 x y z = v9) (hd : dp + 10 < recursionLimit) (hu : un + 80 < cLine)
    (ret : ∀ (T9 : Addr) (t1 t2 t3 : Tok) (h' : Heap) (tk' : Nat), Fr h₀ L h' m → News h₀ L h' ((T9, tup3 (F9) (u9) (v9) t1 t2 t3) :: news) → Q (.ref T9) { s with heap := h', toks := tk' }) :
    wpAny (model PR w) (ktrTop dp un gd cn cs L a ccd cl outer) (call (.ref 586) [.ref p]) Q E s := wpAny_call (xfC0 B F X N T hk hp hpd hpT hx hy hz hne hr1 hr2 hr3 hd hu ret)
end
theorem words16 : True := by
  (k_with "call ref" => ((with_reducible rename Mk 16 => hMk9); (((with_reducible show wpAny _ _ (call (Value.ref 42) [Value.ref _, Value.int 0 _]) _ _ _); k_here; k_dflt (refine get0C (by k_asm) (by k_asm) (by k_asm) (by k_asm) (by k_asm) (by first | exact rfl | assumption) (by k_mem) (by k_mem) (by k_mem) (by k_extra "ROOM") (by k_extra "UNITS") ?_; k_whole; intro t9 h9 tk9 F9 N9; (try dsimp only); (try k_fold))))))
  (k_with "call ref" => ((with_reducible rename Mk 16 => hMk9); (((with_reducible show wpAny _ _ (call (Value.ref 42) [Value.ref _, Value.int 1 _]) _ _ _); k_here; k_dflt (refine get1C (by k_asm) (by k_asm) (by k_asm) (by k_asm) (by k_asm) (by first | exact rfl | assumption) (by k_mem) (by k_mem) (by k_mem) (by k_extra "ROOM") (by k_extra "UNITS") ?_; k_whole; intro t9 h9 tk9 F9 N9; (try dsimp only); (try k_fold))))))
  (k_with "call ref" => ((with_reducible rename Mk 16 => hMk9); (((with_reducible show wpAny _ _ (call (Value.ref 42) [Value.ref _, Value.int 2 _]) _ _ _); k_here; k_dflt (refine get2C (by k_asm) (by k_asm) (by k_asm) (by k_asm) (by k_asm) (by first | exact rfl | assumption) (by k_mem) (by k_mem) (by k_mem) (by k_extra "ROOM") (by k_extra "UNITS") ?_; k_whole; intro t9 h9 tk9 F9 N9; (try dsimp only); (try k_fold))))))
  (k_with "call ref" => ((with_reducible rename Mk 16 => hMk9); (((with_reducible show wpAny _ _ (call (Value.ref 98) _) _ _ _); k_here; k_dflt (refine mulC (by k_asm) (by k_asm) (by k_asm) (by k_asm) (by k_asm) (by first | exact rfl | assumption) (by k_mem) (by k_mem) (by k_mem) (by k_extra "OM") (by k_extra "OM") (by k_extra "OM") (by k_extra "OM") (by k_extra "ROOM") (by k_extra "UNITS") ?_; k_whole; intro y9 e9 T9 t1 t2 t3 t4 h9 tk9 F9 N9; (try dsimp only); (try k_fold))))))
  (k_with "call ref" => ((with_reducible rename Mk 16 => hMk9); (((with_reducible show wpAny _ _ (call (Value.ref 84) _) _ _ _); k_here; k_dflt (refine addC (by k_asm) (by k_asm) (by k_asm) (by k_asm) (by k_asm) (by first | exact rfl | assumption) (by k_mem) (by k_mem) (by k_mem) (by k_mem) (by k_mem) (by k_mem) (by first | assumption | exact rfl) (by first | assumption | exact rfl) (by first | assumption | exact rfl) (by k_extra "ROOM") (by k_extra "UNITS") ?_; k_whole; intro y9 e9 T9 t1 t2 t3 t4 h9 tk9 F9 N9; (try dsimp only); (try k_fold))))))
  (k_with "call ref" => ((with_reducible rename Mk 16 => hMk9); (((with_reducible show wpAny _ _ (call (Value.ref 586) _) _ _ _); k_here; k_dflt (refine xfC (by k_asm) (by k_asm) (by k_asm) (by k_asm) (by k_asm) (by first | exact rfl | assumption) (by k_mem) (by k_mem) (by k_mem) (by k_extra "OM") (by k_extra "OM") (by k_extra "OM") (by assumption) (by first | assumption | exact rfl) (by first | assumption | exact rfl) (by first | assumption | exact rfl) (by k_extra "ROOM") (by k_extra "UNITS") ?_; k_whole; intro T9 t1 t2 t3 h9 tk9 F9 N9; (try dsimp only); (try k_fold))))))
  trivial
theorem stC0 {v r9 : Int} {t : Tok} (B : Below A₀ base outer h₀) (F : Fr h₀ L s.heap m) (X : (K1 w.params).In h₀) (N : News h₀ L s.heap news) (T : Top V1 loose mean mg mb h₀) (hk : cs.kind = .function)
    (hr : stv v = r9) (hd : dp + 2 < recursionLimit) (hu : un + 16 < cLine)
    (ret : ∀ (t : Tok) (h' : Heap) (tk' : Nat), Fr h₀ L h' m → News h₀ L h' news → R (.ok (.ret (.int r9 t))) { s with heap := h', toks := tk' }) :
    codeAny (model PR w) (ktrTop dp un gd cn cs L a ccd cl outer) (.call (.ref 275) ⟨[.ref 561, .int v t], []⟩) R s := by
  have hMk8 : Mk 16 := ⟨⟩
  subst hr
  w_top off
  k_dflt (walk_at "ENTER")
  k_steps
  all_goals first
    | ((refine cb_retR ret ?e1 ?e2 ?e3; (case e1 => (unfold stv; (repeat' split) <;> omega)); (case e2 => k_asm); (case e3 => k_asm)))
    | fail "an end"
end
theorem dr3 {h₀ h : Heap} {L : Addr} {a b c x y z : Addr × Obj} {r : List (Addr × Obj)} (N : News h₀ L h (a :: b :: c :: x :: y :: z :: r)) : News h₀ L h (a :: b :: c :: r) := drop_to N (by intro p hp; simp only [List.mem_cons] at hp ⊢; rcases hp with h | h | h | h <;> simp [h])
theorem dr1 {h₀ h : Heap} {L : Addr} {a x y z : Addr × Obj} {r : List (Addr × Obj)} (N : News h₀ L h (a :: x :: y :: z :: r)) : News h₀ L h (a :: r) := drop_to N (by intro p hp; simp only [List.mem_cons] at hp ⊢; rcases hp with h | h <;> simp [h])
section
variable {w : World} {dp un : Nat} {gd : Option (List Code)} {cn : Str} {cs : Scope} {a : Addr} {ccd : Value} {cl : List (Str × Addr)} {outer : List Env} {A₀ : Around} {base h₀ : Heap} {L : Addr} {m : Str → Option Value} {news : List (Addr × Obj)} {s : Shared}
    {mg mb : Str → Option Value} {loose : List Str} {mean : ExcName → Option Value} {Q E : Value → Shared → Prop} {R : Result → Shared → Prop}
section
theorem words17 : True := by
  (k_with "call ref" => ((with_reducible rename Mk 17 => hMk9); (((fail_if_success (with_reducible show wpAny _ _ (call (Value.ref (OfNat.ofNat _)) _) _ _ _)); k_here; k_dflt (refine call_meth (by k_asm) (by k_mem) ?_; refine stC0 (by k_asm) (by k_asm) (by k_asm) (by k_asm) (by k_asm) (by first | exact rfl | assumption) (by first | assumption | exact rfl) (by k_extra "ROOM") (by k_extra "UNITS") ?_; k_whole; intro t9 h9 tk9 F9 N9; (try dsimp only); (try k_fold))))))
  (k_with "call ref" => ((with_reducible rename Mk 17 => hMk9); (((with_reducible show wpAny _ _ (call (Value.ref 98) _) _ _ _); k_here; k_dflt (refine mulC (by k_asm) (by k_asm) (by k_asm) (by k_asm) (by k_asm) (by first | exact rfl | assumption) (by k_mem) (by k_mem) (by k_mem) (by k_extra "OM") (by k_extra "OM") (by k_extra "OM") (by k_extra "OM") (by k_extra "ROOM") (by k_extra "UNITS") ?_; k_whole; intro y9 e9 T9 t1 t2 t3 t4 h9 tk9 F9 N9; (replace N9 := dr3 N9); (try dsimp only); (try k_fold))))))
  (k_with "call ref" => ((with_reducible rename Mk 17 => hMk9); (((with_reducible show wpAny _ _ (call (Value.ref 84) _) _ _ _); k_here; k_dflt (refine addC (by k_asm) (by k_asm) (by k_asm) (by k_asm) (by k_asm) (by first | exact rfl | assumption) (by k_mem) (by k_mem) (by k_mem) (by k_mem) (by k_mem) (by k_mem) (by first | assumption | exact rfl) (by first | assumption | exact rfl) (by first | assumption | exact rfl) (by k_extra "ROOM") (by k_extra "UNITS") ?_; k_whole; intro y9 e9 T9 t1 t2 t3 t4 h9 tk9 F9 N9; (replace N9 := dr3 (dr3 N9)); (try dsimp only); (try k_fold))))))
  (k_with "call ref" => ((with_reducible rename Mk 17 => hMk9); (((with_reducible show wpAny _ _ (call (Value.ref 586) _) _ _ _); k_here; k_dflt (refine xfC (by k_asm) (by k_asm) (by k_asm) (by k_asm) (by k_asm) (by first | exact rfl | assumption) (by k_mem) (by k_mem) (by k_mem) (by k_extra "OM") (by k_extra "OM") (by k_extra "OM") (by assumption) (by first | assumption | exact rfl) (by first | assumption | exact rfl) (by first | assumption | exact rfl) (by k_extra "ROOM") (by k_extra "UNITS") ?_; k_whole; intro T9 t1 t2 t3 h9 tk9 F9 N9; (replace N9 := dr1 N9); (try dsimp only); (try k_fold))))))
  (k_with "call ref" => ((with_reducible rename Mk 17 => hMk9); (((fail_if_success (with_reducible show wpAny _ _ (call (Value.ref (OfNat.ofNat _)) _) _ _ _)); k_here; k_dflt (refine call_meth (by k_asm) (by k_mem) ?_; refine fijC0 (by k_asm) (by k_asm) (by k_asm) (by k_asm) (by k_asm) (by first | exact rfl | assumption) (by k_extra "OM") (by k_extra "OM") (by k_extra "OM") (by k_extra "OM") (by k_extra "OM") (by k_extra "OM") (by k_extra "ROOM") (by k_extra "UNITS") ?_; k_whole; intro y9 e9 t9 tk9 h9 tt9 F9 N9; (try dsimp only); (try k_fold))))))
  (k_with "CmpBack" => ((with_reducible rename Mk 17 => hMk9); ((dsimp only [PySem.W.CmpBack]))))
  (k_with "storeName" => ((with_reducible rename Mk 17 => hMk9); ((k_here; (with_reducible show wpAny _ _ (storeName _ (PySem.Str.ofString "i") (Value.int _ _)) _ _ _); (rename Fr _ _ _ _ => kF9); (rename News _ _ _ _ => kN9); (rename _ = clpI _ => hI9); k_dflt (refine gen_store_eq kF9 kN9 (eq_of hI9 (by unfold clpI; (repeat' split) <;> first | exact clp_a (by assumption) (by assumption) | exact clp_b (by assumption) (by assumption) | exact clp_c (by assumption) | omega)) ?_); intro tS9 h9 F9 N9; (try dsimp only)))))
  (k_with "storeName" => ((with_reducible rename Mk 17 => hMk9); ((k_here; (with_reducible show wpAny _ _ (storeName _ (PySem.Str.ofString "j") (Value.int _ _)) _ _ _); (rename Fr _ _ _ _ => kF9); (rename News _ _ _ _ => kN9); (rename _ = clpJ _ => hI9); k_dflt (refine gen_store_eq kF9 kN9 (eq_of hI9 (by unfold clpJ; (repeat' split) <;> first | exact clp_a (by assumption) (by assumption) | exact clp_b (by assumption) (by assumption) | exact clp_c (by assumption) | omega)) ?_); intro tS9 h9 F9 N9; (try dsimp only)))))
  (k_with "storeName" => ((with_reducible rename Mk 17 => hMk9); ((k_here; (with_reducible show wpAny _ _ (storeName _ (PySem.Str.ofString "u") (Value.int (1 * _) _)) _ _ _); (rename Fr _ _ _ _ => kF9); (rename News _ _ _ _ => kN9); (rename _ = uvI _ => hI9); k_dflt (refine gen_store_eq kF9 kN9 (eq_of hI9 (by unfold uvI; rw [two1]; exact uv_i _)) ?_); intro tS9 h9 F9 N9; (try dsimp only)))))
  (k_with "storeName" => ((with_reducible rename Mk 17 => hMk9); ((k_here; (with_reducible show wpAny _ _ (storeName _ (PySem.Str.ofString "v") (Value.int (1 * _) _)) _ _ _); (rename Fr _ _ _ _ => kF9); (rename News _ _ _ _ => kN9); (rename _ = uvJ _ => hI9); k_dflt (refine gen_store_eq kF9 kN9 (eq_of hI9 (by unfold uvJ; rw [two1]; exact uv_i _)) ?_); intro tS9 h9 F9 N9; (try dsimp only)))))
  trivial
theorem wrapC0 {f i j : Int} {t1 t2 t3 : Tok} (B : Below A₀ base outer h₀) (F : Fr h₀ L s.heap m) (X : (K1 w.params).In h₀) (N : News h₀ L s.heap news) (T : Top V1 loose mean mg mb h₀) (hk : cs.kind = .function)
    (hf0 : 0 ≤ f) (hf6 : f < 6) (hi0 : -8589934592 ≤ i) (hi : i ≤ 8589934592) (hj0 : -8589934592 ≤ j) (hj : j ≤ 8589934592) (hd : dp + 16 < recursionLimit) (hu : un + 128 < cLine)
    (ret : ∀ (y e : Addr) (t tk : Tok) (h' : Heap) (tk' : Nat), Fr h₀ L h' m → News h₀ L h' ((y, cellI e) :: (e, cellD w (cid (fpl (wF f i j) (wI f i j) (wJ f i j) 30) 30) t tk) :: news) → R (.ok (.ret (.ref y))) { s with heap := h', toks := tk' }) :
    codeAny (model PR w) (ktrTop dp un gd cn cs L a ccd cl outer) (.call (.ref 255) ⟨[.ref 561, .int f t1, .int i t2, .int j t3], []⟩) R s := by
  have hMk8 : Mk 17 := ⟨⟩
  obtain ⟨I, hI⟩ : ∃ I, I = clpI i := ⟨_, rfl⟩
  obtain ⟨J, hJ⟩ : ∃ J, J = clpJ j := ⟨_, rfl⟩
  obtain ⟨U, hU⟩ : ∃ U, U = uvI I := ⟨_, rfl⟩
  obtain ⟨V, hV⟩ : ∃ V, V = uvJ J := ⟨_, rfl⟩
  have hIb : -1 ≤ I ∧ I ≤ 1073741824 := by rw [hI]; unfold clpI; exact clp_d
  have hJb : -1 ≤ J ∧ J ≤ 1073741824 := by rw [hJ]; unfold clpJ; exact clp_d
  have hUb : -1073741825 ≤ U ∧ U ≤ 1073741825 := by rw [hU]; unfold uvI; exact uv_bd hIb
  have hVb : -1073741825 ≤ V ∧ V ≤ 1073741825 := by rw [hV]; unfold uvJ; exact uv_bd hJb
  obtain ⟨X9, hX⟩ : ∃ X, fx f U V + fx f 0 0 * (1073741824 - 1) = X := ⟨_, rfl⟩
  obtain ⟨Y9, hY⟩ : ∃ Y, fy f U V + fy f 0 0 * (1073741824 - 1) = Y := ⟨_, rfl⟩
  obtain ⟨Z9, hZ⟩ : ∃ Z, fz f U V + fz f 0 0 * (1073741824 - 1) = Z := ⟨_, rfl⟩
  have ha1 := f_abs f U V hUb hVb
  have ha2 := f_one f
  have hne : X9 ≠ 0 ∨ Y9 ≠ 0 ∨ Z9 ≠ 0 := by rw [← hX, ← hY, ← hZ]; exact w_ne (u := U) (v := V) hf0 hf6
  have hb1 : X9.natAbs < 2 ^ 40 := hX ▸ na_sum ha1.1.1 ha2.1.1
  have hb2 : Y9.natAbs < 2 ^ 40 := hY ▸ na_sum ha1.1.2 ha2.1.2
  have hb3 : Z9.natAbs < 2 ^ 40 := hZ ▸ na_sum ha1.2 ha2.2
  have hc1 := na_one ha2.1.1
  have hc2 := na_one ha2.1.2
  have hc3 := na_one ha2.2
  obtain ⟨F9, hF⟩ : ∃ F, xfF X9 Y9 Z9 = F := ⟨_, rfl⟩
  have hFb : 0 ≤ F9 ∧ F9 < 6 := hF ▸ xfF_ok X9 Y9 Z9
  obtain ⟨u9, hu9⟩ : ∃ u, vu F9 X9 Y9 Z9 = u := ⟨_, rfl⟩
  obtain ⟨v9, hv9⟩ : ∃ v, vv F9 X9 Y9 Z9 = v := ⟨_, rfl⟩
  obtain ⟨i9, hi9⟩ : ∃ i, stv (u9 + 1 * 2 ^ Int.toNat 53) = i := ⟨_, rfl⟩
  obtain ⟨j9, hj9⟩ : ∃ j, stv (v9 + 1 * 2 ^ Int.toNat 53) = j := ⟨_, rfl⟩
  have hi9b : 0 ≤ i9 ∧ i9 < 1073741824 := hi9 ▸ stv_ok _
  have hj9b : 0 ≤ j9 ∧ j9 < 1073741824 := hj9 ▸ stv_ok _
  have hW : fpl (wF f i j) (wI f i j) (wJ f i j) 30 = fpl F9 i9 j9 30 := by
    rw [← hj9, ← hi9, ← hv9, ← hu9, ← hF, ← hZ, ← hY, ← hX, hV, hU, hJ, hI]; rfl
  rw [hW] at ret
  clear hW
  w_top off
  k_dflt (walk_at "ENTER")
  k_steps
  all_goals first
    | ((rename News _ _ _ _ => kN9); exact ret _ _ _ _ _ _ (by k_asm) (cell_drop kN9 (by intro p9 h9; simp only [List.mem_cons, h9, or_true])))
    | fail "an end"
end
theorem words18 : True := by
  (k_with "call ref" => ((with_reducible rename Mk 18 => hMk9); (((fail_if_success (with_reducible show wpAny _ _ (call (Value.ref (OfNat.ofNat _)) _) _ _ _)); k_here; k_dflt (refine call_meth (by k_asm) (by k_mem) ?_; refine stC0 (by k_asm) (by k_asm) (by k_asm) (by k_asm) (by k_asm) (by first | exact rfl | assumption) (by first | assumption | exact rfl) (by k_extra "ROOM") (by k_extra "UNITS") ?_; k_whole; intro t9 h9 tk9 F9 N9; (try dsimp only); (try k_fold))))))
  (k_with "call ref" => ((with_reducible rename Mk 18 => hMk9); (((with_reducible show wpAny _ _ (call (Value.ref 98) _) _ _ _); k_here; k_dflt (refine mulC (by k_asm) (by k_asm) (by k_asm) (by k_asm) (by k_asm) (by first | exact rfl | assumption) (by k_mem) (by k_mem) (by k_mem) (by k_extra "OM") (by k_extra "OM") (by k_extra "OM") (by k_extra "OM") (by k_extra "ROOM") (by k_extra "UNITS") ?_; k_whole; intro y9 e9 T9 t1 t2 t3 t4 h9 tk9 F9 N9; (replace N9 := dr3 N9); (try dsimp only); (try k_fold))))))
  (k_with "call ref" => ((with_reducible rename Mk 18 => hMk9); (((with_reducible show wpAny _ _ (call (Value.ref 84) _) _ _ _); k_here; k_dflt (refine addC (by k_asm) (by k_asm) (by k_asm) (by k_asm) (by k_asm) (by first | exact rfl | assumption) (by k_mem) (by k_mem) (by k_mem) (by k_mem) (by k_mem) (by k_mem) (by first | assumption | exact rfl) (by first | assumption | exact rfl) (by first | assumption | exact rfl) (by k_extra "ROOM") (by k_extra "UNITS") ?_; k_whole; intro y9 e9 T9 t1 t2 t3 t4 h9 tk9 F9 N9; (replace N9 := dr3 (dr3 N9)); (try dsimp only); (try k_fold))))))
  (k_with "call ref" => ((with_reducible rename Mk 18 => hMk9); (((with_reducible show wpAny _ _ (call (Value.ref 586) _) _ _ _); k_here; k_dflt (refine xfC (by k_asm) (by k_asm) (by k_asm) (by k_asm) (by k_asm) (by first | exact rfl | assumption) (by k_mem) (by k_mem) (by k_mem) (by k_extra "OM") (by k_extra "OM") (by k_extra "OM") (by assumption) (by first | assumption | exact rfl) (by first | assumption | exact rfl) (by first | assumption | exact rfl) (by k_extra "ROOM") (by k_extra "UNITS") ?_; k_whole; intro T9 t1 t2 t3 h9 tk9 F9 N9; (replace N9 := dr1 N9); (try dsimp only); (try k_fold))))))
  (k_with "call ref" => ((with_reducible rename Mk 18 => hMk9); (((fail_if_success (with_reducible show wpAny _ _ (call (Value.ref (OfNat.ofNat _)) _) _ _ _)); k_here; k_dflt (refine call_meth (by k_asm) (by k_mem) ?_; refine fijC0 (by k_asm) (by k_asm) (by k_asm) (by k_asm) (by k_asm) (by first | exact rfl | assumption) (by k_extra "OM") (by k_extra "OM") (by k_extra "OM") (by k_extra "OM") (by k_extra "OM") (by k_extra "OM") (by k_extra "ROOM") (by k_extra "UNITS") ?_; k_whole; intro y9 e9 t9 tk9 h9 tt9 F9 N9; (try dsimp only); (try k_fold))))))
  (k_with "call ref" => ((with_reducible rename Mk 18 => hMk9); (((fail_if_success (with_reducible show wpAny _ _ (call (Value.ref (OfNat.ofNat _)) _) _ _ _)); k_here; k_dflt (refine call_meth (by k_asm) (by k_mem) ?_; refine wrapC0 (by k_asm) (by k_asm) (by k_asm) (by k_asm) (by k_asm) (by first | exact rfl | assumption) (by k_extra "OM") (by k_extra "OM") (by k_extra "OM") (by k_extra "OM") (by k_extra "OM") (by k_extra "OM") (by k_extra "ROOM") (by k_extra "UNITS") ?_; k_whole; intro y9 e9 t9 tk9 h9 tt9 F9 N9; (try dsimp only); (try k_fold))))))
  trivial
theorem sameC0 {f i j : Int} {b9 : Bool} {t1 t2 t3 : Tok} (B : Below A₀ base outer h₀) (F : Fr h₀ L s.heap m) (X : (K1 w.params).In h₀) (N : News h₀ L s.heap news) (T : Top V1 loose mean mg mb h₀) (hk : cs.kind = .function)
    (hf0 : 0 ≤ f) (hf6 : f < 6) (hi0 : -8589934592 ≤ i) (hi : i ≤ 8589934592) (hj0 : -8589934592 ≤ j) (hj : j ≤ 8589934592) (hb : b9 = true → (0 ≤ i ∧ i < 1073741824) ∧ 0 ≤ j ∧ j < 1073741824) (hd : dp + 18 < recursionLimit) (hu : un + 144 < cLine)
    (ret : ∀ (y e : Addr) (t tk : Tok) (h' : Heap) (tk' : Nat), Fr h₀ L h' m → News h₀ L h' ((y, cellI e) :: (e, cellD w (cid (fpl (sF b9 f i j) (sI b9 f i j) (sJ b9 f i j) 30) 30) t tk) :: news) → R (.ok (.ret (.ref y))) { s with heap := h', toks := tk' }) :
    codeAny (model PR w) (ktrTop dp un gd cn cs L a ccd cl outer) (.call (.ref 265) ⟨[.ref 561, .int f t1, .int i t2, .int j t3, .bool b9], []⟩) R s := by
  have hMk8 : Mk 18 := ⟨⟩
  cases b9
  · have hW : fpl (sF false f i j) (sI false f i j) (sJ false f i j) 30 = fpl (wF f i j) (wI f i j) (wJ f i j) 30 := rfl
    rw [hW] at ret
    w_top off
    k_dflt (walk_at "ENTER")
    k_steps
    all_goals first
    | ((rename News _ _ _ _ => kN9); exact ret _ _ _ _ _ _ (by k_asm) (cell_drop kN9 (by intro p9 h9; simp only [List.mem_cons, h9, or_true])))
    | fail "an end"
  · have hW : fpl (sF true f i j) (sI true f i j) (sJ true f i j) 30 = fpl f i j 30 := rfl
    rw [hW] at ret
    have hb' := hb rfl
    w_top off
    k_dflt (walk_at "ENTER")
    k_steps
    all_goals first
    | ((rename News _ _ _ _ => kN9); exact ret _ _ _ _ _ _ (by k_asm) (cell_drop kN9 (by intro p9 h9; simp only [List.mem_cons, h9, or_true])))
    | fail "an end"
theorem words19 : True := by
  (k_with "call ref" => ((with_reducible rename Mk 19 => hMk9); (((fail_if_success (with_reducible show wpAny _ _ (call (Value.ref (OfNat.ofNat _)) _) _ _ _)); k_here; k_dflt (refine call_meth (by k_asm) (by k_mem) ?_; refine stC0 (by k_asm) (by k_asm) (by k_asm) (by k_asm) (by k_asm) (by first | exact rfl | assumption) (by first | assumption | exact rfl) (by k_extra "ROOM") (by k_extra "UNITS") ?_; k_whole; intro t9 h9 tk9 F9 N9; (try dsimp only); (try k_fold))))))
  (k_with "call ref" => ((with_reducible rename Mk 19 => hMk9); (((with_reducible show wpAny _ _ (call (Value.ref 98) _) _ _ _); k_here; k_dflt (refine mulC (by k_asm) (by k_asm) (by k_asm) (by k_asm) (by k_asm) (by first | exact rfl | assumption) (by k_mem) (by k_mem) (by k_mem) (by k_extra "OM") (by k_extra "OM") (by k_extra "OM") (by k_extra "OM") (by k_extra "ROOM") (by k_extra "UNITS") ?_; k_whole; intro y9 e9 T9 t1 t2 t3 t4 h9 tk9 F9 N9; (replace N9 := dr3 N9); (try dsimp only); (try k_fold))))))
  (k_with "call ref" => ((with_reducible rename Mk 19 => hMk9); (((with_reducible show wpAny _ _ (call (Value.ref 84) _) _ _ _); k_here; k_dflt (refine addC (by k_asm) (by k_asm) (by k_asm) (by k_asm) (by k_asm) (by first | exact rfl | assumption) (by k_mem) (by k_mem) (by k_mem) (by k_mem) (by k_mem) (by k_mem) (by first | assumption | exact rfl) (by first | assumption | exact rfl) (by first | assumption | exact rfl) (by k_extra "ROOM") (by k_extra "UNITS") ?_; k_whole; intro y9 e9 T9 t1 t2 t3 t4 h9 tk9 F9 N9; (replace N9 := dr3 (dr3 N9)); (try dsimp only); (try k_fold))))))
  (k_with "call ref" => ((with_reducible rename Mk 19 => hMk9); (((with_reducible show wpAny _ _ (call (Value.ref 586) _) _ _ _); k_here; k_dflt (refine xfC (by k_asm) (by k_asm) (by k_asm) (by k_asm) (by k_asm) (by first | exact rfl | assumption) (by k_mem) (by k_mem) (by k_mem) (by k_extra "OM") (by k_extra "OM") (by k_extra "OM") (by assumption) (by first | assumption | exact rfl) (by first | assumption | exact rfl) (by first | assumption | exact rfl) (by k_extra "ROOM") (by k_extra "UNITS") ?_; k_whole; intro T9 t1 t2 t3 h9 tk9 F9 N9; (replace N9 := dr1 N9); (try dsimp only); (try k_fold))))))
  (k_with "call ref" => ((with_reducible rename Mk 19 => hMk9); (((fail_if_success (with_reducible show wpAny _ _ (call (Value.ref (OfNat.ofNat _)) _) _ _ _)); k_here; k_dflt (refine call_meth (by k_asm) (by k_mem) ?_; refine fijC0 (by k_asm) (by k_asm) (by k_asm) (by k_asm) (by k_asm) (by first | exact rfl | assumption) (by k_extra "OM") (by k_extra "OM") (by k_extra "OM") (by k_extra "OM") (by k_extra "OM") (by k_extra "OM") (by k_extra "ROOM") (by k_extra "UNITS") ?_; k_whole; intro y9 e9 t9 tk9 h9 tt9 F9 N9; (try dsimp only); (try k_fold))))))
  (k_with "call ref" => ((with_reducible rename Mk 19 => hMk9); (((fail_if_success (with_reducible show wpAny _ _ (call (Value.ref (OfNat.ofNat _)) _) _ _ _)); k_here; k_dflt (refine call_meth (by k_asm) (by k_mem) ?_; refine wrapC0 (by k_asm) (by k_asm) (by k_asm) (by k_asm) (by k_asm) (by first | exact rfl | assumption) (by k_extra "OM") (by k_extra "OM") (by k_extra "OM") (by k_extra "OM") (by k_extra "OM") (by k_extra "OM") (by k_extra "ROOM") (by k_extra "UNITS") ?_; k_whole; intro y9 e9 t9 tk9 h9 tt9 F9 N9; (try dsimp only); (try k_fold))))))
  (k_with "call ref" => ((with_reducible rename Mk 19 => hMk9); (((with_reducible show wpAny _ _ (call (Value.ref 265) _) _ _ _); k_here; k_dflt (refine sameC (by k_asm) (by k_asm) (by k_asm) (by k_asm) (by k_asm) (by first | exact rfl | assumption) (by k_extra "OM") (by k_extra "OM") (by k_extra "OM") (by k_extra "OM") (by k_extra "OM") (by k_extra "OM") (by (simp only [decide_eq_true_eq, Bool.and_eq_true, Bool.false_eq_true, false_implies, and_imp]; omega)) (by k_extra "ROOM") (by k_extra "UNITS") ?_; k_whole; intro y9 e9 t9 tk9 h9 tt9 F9 N9; (try dsimp only); (try k_fold))))))
  (k_with "call ref" => ((with_reducible rename Mk 19 => hMk9); (((fail_if_success (with_reducible show wpAny _ _ (call (Value.ref (OfNat.ofNat _)) _) _ _ _)); k_here; k_dflt (refine call_meth (by k_asm) (by k_mem) ?_; refine sameC0 (by k_asm) (by k_asm) (by k_asm) (by k_asm) (by k_asm) (by first | exact rfl | assumption) (by k_extra "OM") (by k_extra "OM") (by k_extra "OM") (by k_extra "OM") (by k_extra "OM") (by k_extra "OM") (by (simp only [decide_eq_true_eq, Bool.and_eq_true, Bool.false_eq_true, false_implies, and_imp]; omega)) (by k_extra "ROOM") (by k_extra "UNITS") ?_; k_whole; intro y9 e9 t9 tk9 h9 tt9 F9 N9; (try dsimp only); (try k_fold))))))
  trivial
theorem sizeC0 {x d : Addr} {n : Int} {t tk : Tok} {l : Int} {tl : Tok} (B : Below A₀ base outer h₀) (F : Fr h₀ L s.heap m) (X : (K1 w.params).In h₀) (N : News h₀ L s.heap news) (T : Top V1 loose mean mg mb h₀) (hk : cs.kind = .function)
    (hx : (x, cellI d) ∈ news) (hdx : (d, cellD w n t tk) ∈ news) (h0 : 0 ≤ l) (h1 : l ≤ 30) (hd : dp + 2 < recursionLimit) (hu : un + 16 < cLine)
    (ret : ∀ (t : Tok) (h' : Heap) (tk' : Nat), Fr h₀ L h' m → News h₀ L h' news → R (.ok (.ret (.int (2 ^ (30 - l).toNat) t))) { s with heap := h', toks := tk' }) :
    codeAny (model PR w) (ktrTop dp un gd cn cs L a ccd cl outer) (.call (.ref 541) ⟨[.ref x, .int l tl], []⟩) R s := by
  have hMk8 : Mk 19 := ⟨⟩
  w_top off
  k_dflt (walk_at "ENTER*")
  k_steps
  all_goals first
    | ((rename News _ _ _ _ => kN9); rw [Int.one_mul]; exact ret _ _ _ (by k_asm) (drop_to kN9 (by k_extra "SUB")))
    | fail "an end"
end
theorem fm_of {D x t : Int} (h : D = x.fmod t) (ht : 0 < t) : 0 ≤ D ∧ D < t := by
  subst h
  rw [Int.fmod_eq_emod_of_nonneg _ (Int.le_of_lt ht)]
  exact ⟨Int.emod_nonneg _ (Int.ne_of_gt ht), Int.emod_lt_of_pos _ ht⟩
section
variable {w : World} {dp un : Nat} {gd : Option (List Code)} {cn : Str} {cs : Scope} {a : Addr} {ccd : Value} {cl : List (Str × Addr)} {outer : List Env} {A₀ : Around} {base h₀ : Heap} {L : Addr} {m : Str → Option Value} {news : List (Addr × Obj)} {s : Shared}
    {mg mb : Str → Option Value} {loose : List Str} {mean : ExcName → Option Value} {Q E : Value → Shared → Prop} {R : Result → Shared → Prop}
theorem lawnumC0 {lp : Addr} {vs : List Value} {ns : List Int} {i : Int} {ti : Tok} (B : Below A₀ base outer h₀) (F : Fr h₀ L s.heap m) (X : (K1 w.params).In h₀) (N : News h₀ L s.heap news) (T : Top V1 loose mean mg mb h₀) (hk : cs.kind = .function)
    (hl : base.IsList lp vs.toArray) (hi : IntsAre vs ns) (hn : ns.length ≤ 63) (hi0 : 0 ≤ i) (hi1 : i < 64) (hd : dp + 2 < recursionLimit) (hu : un + 16 < cLine)
    (ret : ∀ (t : Tok) (h' : Heap) (tk' : Nat), Fr h₀ L h' m → News h₀ L h' news → R (.ok (.ret (.int (num ns i) t))) { s with heap := h', toks := tk' }) :
    codeAny (model PR w) (ktrTop dp un gd cn cs L a ccd cl outer) (.call (.ref 607) ⟨[.ref lp, .int i ti], []⟩) R s := by
  w_top off
  k_dflt (walk_at "ENTER")
  k_steps
  all_goals first
    | (refine cb_retR ret ?e1 ?e2 ?e3; (case e1 => (unfold num; first | rw [if_pos (by omega)] | rw [if_neg (by omega)])); (case e2 => k_asm); (case e3 => k_asm))
    | fail "an end"
theorem lawnumC {lp : Addr} {vs : List Value} {ns : List Int} {i : Int} {ti : Tok} (B : Below A₀ base outer h₀) (F : Fr h₀ L s.heap m) (X : (K1 w.params).In h₀) (N : News h₀ L s.heap news) (T : Top V1 loose mean mg mb h₀) (hk : cs.kind = .function)
    (hl : base.IsList lp vs.toArray) (hi : IntsAre vs ns) (hn : ns.length ≤ 63) (hi0 : 0 ≤ i) (hi1 : i < 64) (hd : dp + 2 < recursionLimit) (hu : un + 16 < cLine)
    (ret : ∀ (t : Tok) (h' : Heap) (tk' : Nat), Fr h₀ L h' m → News h₀ L h' news → Q (.int (num ns i) t) { s with heap := h', toks := tk' }) :
    wpAny (model PR w) (ktrTop dp un gd cn cs L a ccd cl outer) (call (.ref 607) [.ref lp, .int i ti]) Q E s := wpAny_call (lawnumC0 B F X N T hk hl hi hn hi0 hi1 hd hu ret)
theorem pickC0 {n9 S9 : Int} {t1 t2 : Tok} (B : Below A₀ base outer h₀) (F : Fr h₀ L s.heap m) (X : (K1 w.params).In h₀) (N : News h₀ L s.heap news) (T : Top V1 loose mean mg mb h₀) (hk : cs.kind = .function)
    (hS : 0 < S9) (hS2 : S9 < 1073741824) (hd : dp + 2 < recursionLimit) (hu : un + 16 < cLine)
    (ret : ∀ (r9 : Int) (t : Tok) (h' : Heap) (tk' : Nat), 0 ≤ r9 → r9 < S9 → Fr h₀ L h' m → News h₀ L h' news → R (.ok (.ret (.int r9 t))) { s with heap := h', toks := tk' }) :
    codeAny (model PR w) (ktrTop dp un gd cn cs L a ccd cl outer) (.call (.ref 614) ⟨[.int n9 t1, .int S9 t2], []⟩) R s := by
  have hm := fm_of (x := n9.fdiv 5) rfl (show (0 : Int) < S9 by omega)
  have hd2 : 0 ≤ S9.fdiv 2 ∧ S9.fdiv 2 < S9 := by rw [Int.fdiv_eq_ediv_of_nonneg _ (by decide)]; omega
  w_top off
  k_dflt (walk_at "ENTER")
  k_steps
  all_goals first
    | (exact ret _ _ _ _ (by omega) (by omega) (by k_asm) (by k_asm))
    | fail "an end"
theorem pickC {n9 S9 : Int} {t1 t2 : Tok} (B : Below A₀ base outer h₀) (F : Fr h₀ L s.heap m) (X : (K1 w.params).In h₀) (N : News h₀ L s.heap news) (T : Top V1 loose mean mg mb h₀) (hk : cs.kind = .function)
    (hS : 0 < S9) (hS2 : S9 < 1073741824) (hd : dp + 2 < recursionLimit) (hu : un + 16 < cLine)
    (ret : ∀ (r9 : Int) (t : Tok) (h' : Heap) (tk' : Nat), 0 ≤ r9 → r9 < S9 → Fr h₀ L h' m → News h₀ L h' news → Q (.int r9 t) { s with heap := h', toks := tk' }) :
    wpAny (model PR w) (ktrTop dp un gd cn cs L a ccd cl outer) (call (.ref 614) [.int n9 t1, .int S9 t2]) Q E s := wpAny_call (pickC0 B F X N T hk hS hS2 hd hu ret)
section
theorem words20 : True := by
  (k_with "subscriptTail" => ((with_reducible rename Mk 20 => hMk9); (((rename Mark9 => hM9); clear hM9; rcases f_cases hf0 hf6 with rfl | rfl | rfl | rfl | rfl | rfl))))
  trivial
theorem pointC0 {f S9 u v : Int} {t1 t2 t3 t4 : Tok} (B : Below A₀ base outer h₀) (F : Fr h₀ L s.heap m) (X : (K1 w.params).In h₀) (N : News h₀ L s.heap news) (T : Top V1 loose mean mg mb h₀) (hk : cs.kind = .function)
    (hf0 : 0 ≤ f) (hf6 : f < 6) (hd : dp + 2 < recursionLimit) (hu : un + 16 < cLine)
    (ret : ∀ (T9 : Addr) (t1 t2 t3 : Tok) (h' : Heap) (tk' : Nat), Fr h₀ L h' m → News h₀ L h' ((T9, tup3 (px f S9 u v) (py f S9 u v) (pz f S9 u v) t1 t2 t3) :: news) → R (.ok (.ret (.ref T9))) { s with heap := h', toks := tk' }) :
    codeAny (model PR w) (ktrTop dp un gd cn cs L a ccd cl outer) (.call (.ref 635) ⟨[.int f t1, .int S9 t2, .int u t3, .int v t4], []⟩) R s := by
  have hMk8 : Mk 20 := ⟨⟩
  have hM9 : Mark9 := trivial
  w_top off
  k_dflt (walk_at "ENTER")
  k_steps
  all_goals first
    | ((rename News _ _ _ _ => kN9); exact ret _ _ _ _ _ _ (by k_asm) (drop_to kN9 (by k_extra "SUB")))
    | fail "an end"
theorem pointC {f S9 u v : Int} {t1 t2 t3 t4 : Tok} (B : Below A₀ base outer h₀) (F : Fr h₀ L s.heap m) (X : (K1 w.params).In h₀) (N : News h₀ L s.heap news) (T : Top V1 loose mean mg mb h₀) (hk : cs.kind = .function)
    (hf0 : 0 ≤ f) (hf6 : f < 6) (hd : dp + 2 < recursionLimit) (hu : un + 16 < cLine)
    (ret : ∀ (T9 : Addr) (t1 t2 t3 : Tok) (h' : Heap) (tk' : Nat), Fr h₀ L h' m → News h₀ L h' ((T9, tup3 (px f S9 u v) (py f S9 u v) (pz f S9 u v) t1 t2 t3) :: news) → Q (.ref T9) { s with heap := h', toks := tk' }) :
    wpAny (model PR w) (ktrTop dp un gd cn cs L a ccd cl outer) (call (.ref 635) [.int f t1, .int S9 t2, .int u t3, .int v t4]) Q E s := wpAny_call (pointC0 B F X N T hk hf0 hf6 hd hu ret)
end
end
theorem pj_stepR {B : Nat} {i0 j0 pl i j : Int} {k b : Nat} (hb : b + 1 = B - k) (hkB : k < B) (P : PJ B i0 j0 k pl i j) :
    ∃ r u : Int, (i.fdiv (2 ^ Int.toNat (b : Int)) = r ∧ j.fdiv (2 ^ Int.toNat (b : Int)) = u) ∧ ((0 ≤ r ∧ r < 2) ∧ 0 ≤ u ∧ u < 2) ∧
      (((r = 0 ∧ u = 0) ∧ PJ B i0 j0 (k + 1) (4 * pl + Builtin.bitXor (3 * r) u) (j - u * (1 * 2 ^ b)) (i - r * (1 * 2 ^ b))) ∨
       ((r = 1 ∧ u = 0) ∧ PJ B i0 j0 (k + 1) (4 * pl + Builtin.bitXor (3 * r) u) (1 * 2 ^ b - 1 - (j - u * (1 * 2 ^ b))) (1 * 2 ^ b - 1 - (i - r * (1 * 2 ^ b)))) ∨
       (u = 1 ∧ PJ B i0 j0 (k + 1) (4 * pl + Builtin.bitXor (3 * r) u) (i - r * (1 * 2 ^ b)) (j - u * (1 * 2 ^ b)))) := by
  rcases pj_stepT hb hkB P with ⟨h, e⟩ | ⟨h, e⟩ | ⟨h, e⟩ | ⟨h, e⟩
  · exact ⟨_, _, h, by decide, .inl ⟨⟨rfl, rfl⟩, e⟩⟩
  · exact ⟨_, _, h, by decide, .inr (.inl ⟨⟨rfl, rfl⟩, e⟩)⟩
  · exact ⟨_, _, h, by decide, .inr (.inr ⟨rfl, e⟩)⟩
  · exact ⟨_, _, h, by decide, .inr (.inr ⟨rfl, e⟩)⟩
def plFD : List Stmt × Scope := match (PR.main.body : List Stmt)[18]? with
  | some (Stmt.FunctionDef _ _ b _ _ _ sc _ _ _) => (b, sc)
  | _ => ([], default)
abbrev plScope : Scope := plFD.2
abbrev plName : Str := Str.ofString "_law_place"
theorem cut_pl {M : Model} {A : Around} {a b : List Stmt} {env : Env} {Q : Flow → Shared → Prop} {E : Value → Shared → Prop} {s : Shared} (hb : a = b) (h : wpAny M A (execs b env) Q E s) : wpAny M A (execs a env) Q E s := hb ▸ h
section
variable {w : World} {dp un : Nat} {gd : Option (List Code)} {cn : Str} {cs : Scope} {a : Addr} {ccd : Value} {cl : List (Str × Addr)} {outer : List Env} {A₀ : Around} {base h₀ : Heap} {L : Addr} {m : Str → Option Value} {news : List (Addr × Obj)} {s : Shared}
    {mg mb : Str → Option Value} {loose : List Str} {mean : ExcName → Option Value} {Q E : Value → Shared → Prop} {R : Result → Shared → Prop}
section
theorem words21 : True := by
  (k_with "storeName" => ((with_reducible rename Mk 21 => hMk9); ((k_here; (with_reducible show wpAny _ _ (storeName _ (PySem.Str.ofString "right") (Value.int (Int.fdiv _ _) _)) _ _ _); (rename Fr _ _ _ _ => kF9); (rename News _ _ _ _ => kN9); k_dflt (refine gen_store_eq kF9 kN9 (by assumption) ?_); intro tS9 h9 F9 N9; (try dsimp only)))))
  (k_with "storeName" => ((with_reducible rename Mk 21 => hMk9); ((k_here; (with_reducible show wpAny _ _ (storeName _ (PySem.Str.ofString "up") (Value.int (Int.fdiv _ _) _)) _ _ _); (rename Fr _ _ _ _ => kF9); (rename News _ _ _ _ => kN9); k_dflt (refine gen_store_eq kF9 kN9 (by assumption) ?_); intro tS9 h9 F9 N9; (try dsimp only)))))
  (k_with "exec Assign" => ((with_reducible rename Mk 21 => hMk9); ((k_here; (with_reducible show wpAny _ _ (exec (Stmt.Assign [Expr.Tuple [_, _] _ _] (Expr.Tuple [_, _] _ _) _) _) _ _ _); k_dflt (refine asg2  (by k_asm) (by k_asm) (PI.cast (by k_extra "PI") (by with_reducible assumption)) (PI.cast (by k_extra "PI") (by with_reducible assumption)) ?_); k_whole; intro t9 u9 h9 tk9 F9 N9; (try dsimp only)))))
  (k_with "exec If" => ((with_reducible rename Mk 21 => hMk9); ((k_here; (rename _ ∨ _ ∨ _ => e9); (rcases e9 with ⟨⟨rfl, rfl⟩, hE9⟩ | ⟨⟨rfl, rfl⟩, hE9⟩ | ⟨rfl, hE9⟩); (all_goals (try dsimp only))))))
  (k_with "pyIter ref" => ((with_reducible rename Mk 21 => hMk9); ((k_here; (with_reducible show wpAny _ _ (pyIter (Value.ref _)) (fun it s₂ => LoopAtV _ _ _ _ _ _ _ _ _ it s₂) _ _); (rename IsRange _ _ _ _ _ _ _ _ => rg9); (rename Fr _ _ _ _ => kF9); (rename News _ _ _ _ => kN9); (rename PJ _ _ _ 0 0 _ _ => hP0); k_dflt (refine loop_rng (JPl _ _ _) (by exact rfl) rg9 (by exact small_down (by omega) (by omega) (by omega) (by omega)) (by exact rs_down _) kF9 kN9 (by exact fun _ _ _ _ J _ => J) (by refine jpl_start hP0 (by exact rfl) (by exact rfl) (by exact rfl)) ?_ ?_; rotate_left; ((clear hP0; intro m9 news9 h9 tk9 hJ9 hsub9 F9 N9; (try dsimp only); (obtain ⟨pl9, i9, j9, a1, a2, a3, hP9, e1, e2, e3⟩ := hJ9); (rw [ov e3, ov e2, ov e1] at F9); clear e1 e2 e3;  have hT9 := pj_done hP9; dsimp only at F9)); rotate_right; ((clear hP0; intro k9 t9 m9 news9 h9 tk9 I9 o9 hk9 hJ9 hsub9 ho9 hoff9 F9 N9; (try dsimp only); (obtain ⟨pl9, i9, j9, a1, a2, a3, hP9, e1, e2, e3⟩ := hJ9); (rw [ov e3, ov e2, ov e1] at F9); clear e1 e2 e3;  (obtain ⟨b9, hb9, hβ9⟩ := pj_b hk9 hP9); have hq9 := pj_nn (by assumption) (by omega) hP9; (obtain ⟨r9, u9, ⟨ri9, rj9⟩, ⟨rb9, ub9⟩, e9⟩ := pj_stepR hb9 hk9 hP9); clear hP9; rw [hβ9] at F9; dsimp only at F9)))))))
  (k_with "TurnPostO" => ((with_reducible rename Mk 21 => hMk9); ((refine turnO_end (by k_asm) (by k_asm) (by k_extra "MEM") (by (rename ∀ p ∈ _, p ∈ _ => hsub9); intro p9 h9; have h8 := hsub9 p9 h9; simp only [List.mem_cons, h8, or_true]) ?_; (rename PJ _ _ _ (_ + 1) _ _ _ => hE9); exact ⟨_, _, _, _, _, _, hE9, rfl, rfl, rfl⟩))))
  trivial
theorem ptail {i j : Int} {B9 : Nat} {t1 t2 t3 : Tok} {Q : Flow → Shared → Prop} (B : Below A₀ base outer h₀) (F : Fr h₀ L s.heap m) (X : (K1 w.params).In h₀) (N : News h₀ L s.heap news) (T : Top V1 loose mean mg mb h₀)
    (m1 : m (Str.ofString "i") = some (.int i t1)) (m2 : m (Str.ofString "j") = some (.int j t2)) (m3 : m (Str.ofString "bits") = some (.int (B9 : Int) t3)) (hB9 : B9 ≤ 30) (hi : 0 ≤ i ∧ i < 2 ^ B9) (hj : 0 ≤ j ∧ j < 2 ^ B9)
    (hd : dp + 2 < recursionLimit) (hu : un + 16 < cLine) (hE : PassesOwn (model PR w) (ktrTop dp un gd plName plScope L 621 (.ref 620) cl outer) (envOf plName plScope L 621 (.ref 620)) E)
    (ret : ∀ (t : Tok) (h' : Heap) (tk' : Nat) (m' : Str → Option Value), Fr h₀ L h' m' → News h₀ L h' news → Q (.ret (.int ((plc B9 i.toNat j.toNat : Nat) : Int) t)) { s with heap := h', toks := tk' }) :
    wpAny (model PR w) (ktrTop dp un gd plName plScope L 621 (.ref 620) cl outer) (execs (plFD.1.drop 1) (envOf plName plScope L 621 (.ref 620))) Q E s := by
  have hMk8 : Mk 21 := ⟨⟩
  have hMk7 : Mk 22 := ⟨⟩
  rw [ov m3, ov m2, ov m1] at F
  dsimp only at F
  clear m1 m2 m3
  have hP0 := pj_start hi hj
  clear hi hj
  refine' cut_pl ?hb ?_
  case hb => kp_lit
  (k_with "exec For Name Call cons nil" => ((with_reducible rename Mk 22 => hMk9); ((k_here; (rename Fr _ _ _ _ => lF9); (with_unfolding_all refine' For_invVF lF9 ?k1 ?k2 ?_ (hE := hE); (case k1 => exact rfl); (case k2 => exact rfl); k_whole)))))
  k_steps
  all_goals first
    | ((rename _ = ((plc _ _ _ : Nat) : Int) => hT9); rw [hT9]; exact ret _ _ _ _ (by k_asm) (drop_to (by k_asm) (by assumption)))
    | ((rename _ = ((plc _ _ _ : Nat) : Int) => hT9); rw [hT9]; exact ret _ _ _ _ (by k_asm) (drop_to (by k_asm) (by (rename ∀ p ∈ _, p ∈ _ => hs9); exact fun p hp => hs9 p (List.mem_cons_of_mem _ hp))))
    | fail "an end"
end
theorem placeZ0 {i j l : Int} {t1 t2 t3 t4 : Tok} (B : Below A₀ base outer h₀) (F : Fr h₀ L s.heap m) (X : (K1 w.params).In h₀) (N : News h₀ L s.heap news) (T : Top V1 loose mean mg mb h₀) (hk : cs.kind = .function)
    (h0 : 0 ≤ l) (h1 : l ≤ 30) (hi : 0 ≤ i ∧ i < 2 ^ l.toNat) (hj : 0 ≤ j ∧ j < 2 ^ l.toNat) (hd : dp + 3 < recursionLimit) (hu : un + 24 < cLine)
    (ret : ∀ (t : Tok) (h' : Heap) (tk' : Nat), Fr h₀ L h' m → News h₀ L h' news → R (.ok (.ret (.int (((hil l.toNat 0 i.toNat j.toNat).1 : Nat) : Int) t))) { s with heap := h', toks := tk' }) :
    codeAny (model PR w) (ktrTop dp un gd cn cs L a ccd cl outer) (.call (.ref 621) ⟨[.int i t1, .int j t2, .int 0 t3, .int l t4], []⟩) R s := by
  have hMk7 : Mk 23 := ⟨⟩
  obtain ⟨B9, rfl⟩ : ∃ B : Nat, l = (B : Int) := ⟨l.toNat, by omega⟩
  have hB9 : B9 ≤ 30 := by omega
  rw [Int.toNat_natCast] at hi hj
  rw [Int.toNat_natCast] at ret
  have hpl := place_is (b := B9) (i := i.toNat) (j := j.toNat) (by have := nat_pow_cast B9; omega) (by have := nat_pow_cast B9; omega)
  rw [hpl.1] at ret
  w_top off
  k_dflt (walk_at "ENTER")
  (k_with "execs cons" => ((with_reducible rename Mk 23 => hMk9); (((with_reducible show wpAny _ _ (execs (Stmt.Assign [Expr.Name (PySem.Str.ofString "place") _] _ _ :: _) _) _ _ _); k_here; k_dflt (refine ptail (by k_asm) (by k_asm) (by k_asm) (by k_asm) (by k_asm) (by exact rfl) (by exact rfl) (by exact rfl) hB9 (by assumption) (by assumption) (by k_extra "ROOM") (by k_extra "UNITS") (by passes_own) ?_); k_whole; intro t9 h9 tk9 m9 F9 N9; (try dsimp only)))))
  k_steps
  all_goals first
    | (exact ret _ _ _ (by k_asm) (by k_asm))
    | (exact ret _ _ _ (by k_asm) (drop_tup (by k_asm)))
    | fail "an end"
theorem placeO0 {i j l : Int} {t1 t2 t3 t4 : Tok} (B : Below A₀ base outer h₀) (F : Fr h₀ L s.heap m) (X : (K1 w.params).In h₀) (N : News h₀ L s.heap news) (T : Top V1 loose mean mg mb h₀) (hk : cs.kind = .function)
    (h0 : 0 ≤ l) (h1 : l ≤ 30) (hi : 0 ≤ i ∧ i < 2 ^ l.toNat) (hj : 0 ≤ j ∧ j < 2 ^ l.toNat) (hd : dp + 3 < recursionLimit) (hu : un + 24 < cLine)
    (ret : ∀ (t : Tok) (h' : Heap) (tk' : Nat), Fr h₀ L h' m → News h₀ L h' news → R (.ok (.ret (.int (((hil l.toNat 1 i.toNat j.toNat).1 : Nat) : Int) t))) { s with heap := h', toks := tk' }) :
    codeAny (model PR w) (ktrTop dp un gd cn cs L a ccd cl outer) (.call (.ref 621) ⟨[.int i t1, .int j t2, .int 1 t3, .int l t4], []⟩) R s := by
  have hMk7 : Mk 24 := ⟨⟩
  obtain ⟨B9, rfl⟩ : ∃ B : Nat, l = (B : Int) := ⟨l.toNat, by omega⟩
  have hB9 : B9 ≤ 30 := by omega
  rw [Int.toNat_natCast] at hi hj
  rw [Int.toNat_natCast] at ret
  have hpl := place_is (b := B9) (i := i.toNat) (j := j.toNat) (by have := nat_pow_cast B9; omega) (by have := nat_pow_cast B9; omega)
  rw [hpl.2] at ret
  w_top off
  k_dflt (walk_at "ENTER")
  (k_with "execs cons" => ((with_reducible rename Mk 24 => hMk9); (((with_reducible show wpAny _ _ (execs (Stmt.Assign [Expr.Name (PySem.Str.ofString "place") _] _ _ :: _) _) _ _ _); k_here; k_dflt (refine ptail (by k_asm) (by k_asm) (by k_asm) (by k_asm) (by k_asm) (by exact rfl) (by exact rfl) (by exact rfl) hB9 (by assumption) (by assumption) (by k_extra "ROOM") (by k_extra "UNITS") (by passes_own) ?_); k_whole; intro t9 h9 tk9 m9 F9 N9; (try dsimp only)))))
  k_steps
  all_goals first
    | (exact ret _ _ _ (by k_asm) (by k_asm))
    | (exact ret _ _ _ (by k_asm) (drop_tup (by k_asm)))
    | fail "an end"
theorem placeC0 {i j f l : Int} {t1 t2 t3 t4 : Tok} (B : Below A₀ base outer h₀) (F : Fr h₀ L s.heap m) (X : (K1 w.params).In h₀) (N : News h₀ L s.heap news) (T : Top V1 loose mean mg mb h₀) (hk : cs.kind = .function)
    (hf : f = 0 ∨ f = 1) (h0 : 0 ≤ l) (h1 : l ≤ 30) (hi : 0 ≤ i ∧ i < 2 ^ l.toNat) (hj : 0 ≤ j ∧ j < 2 ^ l.toNat) (hd : dp + 3 < recursionLimit) (hu : un + 24 < cLine)
    (ret : ∀ (t : Tok) (h' : Heap) (tk' : Nat), Fr h₀ L h' m → News h₀ L h' news → R (.ok (.ret (.int (((hil l.toNat f.toNat i.toNat j.toNat).1 : Nat) : Int) t))) { s with heap := h', toks := tk' }) :
    codeAny (model PR w) (ktrTop dp un gd cn cs L a ccd cl outer) (.call (.ref 621) ⟨[.int i t1, .int j t2, .int f t3, .int l t4], []⟩) R s := by
  rcases hf with rfl | rfl
  · exact placeZ0 B F X N T hk h0 h1 hi hj hd hu ret
  · exact placeO0 B F X N T hk h0 h1 hi hj hd hu ret
theorem placeC {i j f l : Int} {t1 t2 t3 t4 : Tok} (B : Below A₀ base outer h₀) (F : Fr h₀ L s.heap m) (X : (K1 w.params).In h₀) (N : News h₀ L s.heap news) (T : Top V1 loose mean mg mb h₀) (hk : cs.kind = .function)
    (hf : f = 0 ∨ f = 1) (h0 : 0 ≤ l) (h1 : l ≤ 30) (hi : 0 ≤ i ∧ i < 2 ^ l.toNat) (hj : 0 ≤ j ∧ j < 2 ^ l.toNat) (hd : dp + 3 < recursionLimit) (hu : un + 24 < cLine)
    (ret : ∀ (t : Tok) (h' : Heap) (tk' : Nat), Fr h₀ L h' m → News h₀ L h' news → Q (.int (((hil l.toNat f.toNat i.toNat j.toNat).1 : Nat) : Int) t) { s with heap := h', toks := tk' }) :
    wpAny (model PR w) (ktrTop dp un gd cn cs L a ccd cl outer) (call (.ref 621) [.int i t1, .int j t2, .int f t3, .int l t4]) Q E s := wpAny_call (placeC0 B F X N T hk hf h0 h1 hi hj hd hu ret)
theorem lawidC0 {f i j l : Int} {t1 t2 t3 t4 : Tok} (B : Below A₀ base outer h₀) (F : Fr h₀ L s.heap m) (X : (K1 w.params).In h₀) (N : News h₀ L s.heap news) (T : Top V1 loose mean mg mb h₀) (hk : cs.kind = .function)
    (hf0 : 0 ≤ f) (hf6 : f < 6) (h0 : 0 ≤ l) (h1 : l ≤ 30) (hi : 0 ≤ i ∧ i < 2 ^ l.toNat) (hj : 0 ≤ j ∧ j < 2 ^ l.toNat) (hd : dp + 5 < recursionLimit) (hu : un + 40 < cLine)
    (ret : ∀ (t : Tok) (h' : Heap) (tk' : Nat), Fr h₀ L h' m → News h₀ L h' news → R (.ok (.ret (.int (cid (fpl f i j l.toNat) l) t))) { s with heap := h', toks := tk' }) :
    codeAny (model PR w) (ktrTop dp un gd cn cs L a ccd cl outer) (.call (.ref 628) ⟨[.int f t1, .int i t2, .int j t3, .int l t4], []⟩) R s := by
  have hf2 : f.fmod 2 = 0 ∨ f.fmod 2 = 1 := by rw [Int.fmod_eq_emod_of_nonneg _ (by decide)]; omega
  have hid := lawid_eq (i := i) (j := j) hf0 hf6 h0 h1
  have hb9 := fpl_small (i := i) (j := j) hf0 hf6 h0 h1
  rw [← hid] at ret
  w_top off
  k_dflt (walk_at "ENTER")
  k_steps
  all_goals first
    | (exact ret _ _ _ (by k_asm) (by k_asm))
    | fail "an end"
theorem lawidC {f i j l : Int} {t1 t2 t3 t4 : Tok} (B : Below A₀ base outer h₀) (F : Fr h₀ L s.heap m) (X : (K1 w.params).In h₀) (N : News h₀ L s.heap news) (T : Top V1 loose mean mg mb h₀) (hk : cs.kind = .function)
    (hf0 : 0 ≤ f) (hf6 : f < 6) (h0 : 0 ≤ l) (h1 : l ≤ 30) (hi : 0 ≤ i ∧ i < 2 ^ l.toNat) (hj : 0 ≤ j ∧ j < 2 ^ l.toNat) (hd : dp + 5 < recursionLimit) (hu : un + 40 < cLine)
    (ret : ∀ (t : Tok) (h' : Heap) (tk' : Nat), Fr h₀ L h' m → News h₀ L h' news → Q (.int (cid (fpl f i j l.toNat) l) t) { s with heap := h', toks := tk' }) :
    wpAny (model PR w) (ktrTop dp un gd cn cs L a ccd cl outer) (call (.ref 628) [.int f t1, .int i t2, .int j t3, .int l t4]) Q E s := wpAny_call (lawidC0 B F X N T hk hf0 hf6 h0 h1 hi hj hd hu ret)
end
section
open PyProof.Rows.LCg
section
variable {w : World} {dp un : Nat} {gd : Option (List Code)} {cn : Str} {cs : Scope} {a : Addr} {ccd : Value} {cl : List (Str × Addr)} {outer : List Env} {A₀ : Around} {base h₀ : Heap} {L : Addr} {m : Str → Option Value} {news : List (Addr × Obj)} {s : Shared}
    {mg mb : Str → Option Value} {loose : List Str} {mean : ExcName → Option Value} {Q E : Value → Shared → Prop} {R : Result → Shared → Prop}
section
theorem words25 : True := by
  (k_with "exec For Name Tuple cons nil" => ((with_reducible rename Mk 25 => hMk9); ((k_here; (rename Fr _ _ _ _ => lF9); (with_unfolding_all refine For_invVF lF9 (by exact rfl) (by exact rfl) ?_; k_whole)))))
  (k_with "pyIter ref" => ((with_reducible rename Mk 25 => hMk9); ((k_here; (with_reducible show wpAny _ _ (pyIter (Value.ref _)) (fun it s₂ => LoopAtV _ _ _ _ _ _ _ _ _ it s₂) _ _); (rename IsRange _ _ _ _ _ _ _ _ => rg9); (rename Fr _ _ _ _ => kF9); (rename News _ _ _ _ => kN9); (rename XYZ _ _ _ _ => hX9); (k_dflt ((refine loop_touch hX9 (by exact rfl) rg9 kF9 kN9 (by exact rfl) (by exact rfl) (by exact rfl) (by exact List.Mem.head _) (by k_extra "MEM") (by first | k_ne | omega) (by (refine ⟨⟨_, _, _, _, rfl, (by k_extra "MEM")⟩, ⟨_, _, _, _, rfl, (by k_extra "MEM")⟩, ⟨_, _, _, _, rfl, (by k_extra "MEM")⟩, ⟨_, _, _, _, rfl, (by k_extra "MEM")⟩, ⟨_, _, _, _, rfl, (by k_extra "MEM")⟩, ⟨_, _, _, _, rfl, (by k_extra "MEM")⟩, trivial⟩)) ?_ ?_); rotate_left; (intro m9 nw9 h9 tk9 e9 hL9 hsub9 F9 N9; (try dsimp only); rw [ov e9] at F9; clear e9; (try dsimp only at F9)); rotate_right; (intro k9 t9 t8 m9 nw9 h9 tk9 I9 o9 q9 q1 q2 q3 hk9 hL9 hsub9 hI9 hsd9 hq9 hqm9 F9 N9; (try dsimp only); have hbd9 := sd_bound (by assumption) (by assumption) (by assumption) hk9)))))))
  (k_with "pyIter ref" => ((with_reducible rename Mk 25 => hMk9); ((k_here; (with_reducible show wpAny _ _ (pyIter (Value.ref _)) (fun it s₂ => LoopAtV _ _ _ _ _ _ _ _ _ it s₂) _ _); (rename Fr _ _ _ _ => kF9); (rename News _ _ _ _ => kN9); (rename Lst9 _ _ _ => hL8); (k_dflt (refine loop_blka (z := PySem.Str.ofString "b") (by exact rfl) kF9 kN9 (by k_extra "MEM") (by exact rfl) (by exact rfl) (by exact rfl) (by exact rfl) (by exact hL8.sub (by intro p9 h9; simp only [List.mem_cons, h9, or_true])) ?_ ?_; rotate_left; (intro m9 nw9 h9 tk9 hm9 hL9 hsub9 F9 N9; (try dsimp only); clear hL8); rotate_right; (clear hL8; intro k9 a9 u9 v9 nw9 h9 tk9 I9 o9 ha9 hk9 hL9 hsub9 hI9 F9 N9; (try dsimp only))))))))
  (k_with "pyIter ref" => ((with_reducible rename Mk 25 => hMk9); ((k_here; (with_reducible show wpAny _ _ (pyIter (Value.ref _)) (fun it s₂ => LoopAtV _ _ _ _ _ _ _ _ _ it s₂) _ _); (rename Fr _ _ _ _ => kF9); (rename News _ _ _ _ => kN9); (rename Lst9 _ _ _ => hL8); (k_dflt (refine loop_rowb (by exact rfl) kF9 kN9 (by k_extra "MEM") (by exact rfl) (by exact rfl) (by exact rfl) (by exact rfl) (by exact hL8.sub (by intro p9 h9; simp only [List.mem_cons, h9, or_true])) ?_ ?_; rotate_left; (intro m9 nw9 h9 tk9 hm9 hL9 hsub9 F9 N9; (try dsimp only); clear hL8); rotate_right; (clear hL8; intro k9 b9 u9 vs9 nw9 h9 tk9 I9 o9 hb9 hk9 hv9 hT9 hsub9 hI9 F9 N9; (try dsimp only))))))))
  (k_with "subscriptTail" => ((with_reducible rename Mk 25 => hMk9); ((k_here; (with_reducible show wpAny _ _ (subscriptTail _ _ (Value.ref _) (Value.int ((_ : Nat) : Int) _)) _ _ _); (rename News _ _ _ _ => kN9); (rename _[_]? = some (Value.ref _) => hq9); (rename _ < 6 => hk9); (rename (_, ({ cls := .type "list", data := .seq _ _ } : Obj)) ∈ _ => hs9); (k_dflt (refine item_at (by exact ⟨_, (kN9 _ (List.mem_cons_of_mem _ hs9)).1, rfl, _, rfl⟩) (by omega) (by omega) (by (simpa using hq9)) ?_; (try dsimp only)))))))
  (k_with "call builtin:list.append" => ((with_reducible rename Mk 25 => hMk9); ((k_here; (with_reducible show wpAny _ _ (call (Value.builtin "list.append") [Value.ref _, _]) _ _ _); (rename Fr _ _ _ _ => kF9); (rename News _ _ _ _ => kN9); (rename Trips _ _ _ => hT9); (k_dflt (refine app_step kF9 kN9 (by k_extra "MEM") (by rw [hT9.length]; exact Nat.le_trans (len3 ..) (by omega)) ?_)); intro h9 nw8 F9 N9 hA9 hB9 hC9; (try dsimp only)))))
  (k_with "TurnPostO" => ((with_reducible rename Mk 25 => hMk9); ((first | (refine end_fn (by k_asm) (by k_asm) (by assumption) (by intro p9 h9; simp only [List.mem_cons] at h9 ⊢; rcases h9 with h9 | h9 <;> simp [h9]) (by rfl) (by rfl) (by rfl) (by assumption) (by assumption)) | (refine end_fy (by k_asm) (by k_asm) (by assumption) (by assumption) (by intro p9 h9; simp only [List.mem_cons] at h9 ⊢; rcases h9 with h9 | h9 <;> simp [h9]) (by assumption) (by assumption) (by rfl) (by rfl) (by rfl) (by assumption) (by assumption)) | (refine end_no (by k_asm) (by k_asm) (by assumption) (fun y9 h9 => if_neg h9) (by assumption) (by assumption) (by assumption) (by omega)) | (refine end_yes (by k_asm) (by k_asm) (by assumption) (fun y9 h9 => if_neg h9) (by assumption) (by assumption) (by assumption) (by assumption) (by assumption) (by assumption) (by omega)) | (refine end_a (by k_asm) (by k_asm) (by assumption) (by assumption) (by intro p9 h9; simp only [List.mem_cons] at h9 ⊢; rcases h9 with h9 | h9 <;> simp [h9]) (by assumption) (by assumption) (by intro y9 g8 g9; simp only [if_neg g8, if_neg g9]) (by assumption) (by assumption))))))
  trivial
theorem touchC0 {c : Addr} {x y z S9 : Int} {a1 a2 a3 ts : Tok} (B : Below A₀ base outer h₀) (F : Fr h₀ L s.heap m) (X : (K1 w.params).In h₀) (N : News h₀ L s.heap news) (T : Top V1 loose mean mg mb h₀) (hk : cs.kind = .function)
    (hpT : (c, tup3 x y z a1 a2 a3) ∈ news) (hS0 : 0 < S9) (hS1 : S9 < 1073741824) (hx : x.natAbs < 2 ^ 40) (hy : y.natAbs < 2 ^ 40) (hz : z.natAbs < 2 ^ 40) (hd : dp + 3 < recursionLimit) (hu : un + 24 < cLine)
    (ret : ∀ (D9 : Addr) (vs9 : List Value) (nw9 : List (Addr × Obj)) (h' : Heap) (tk' : Nat), Fr h₀ L h' m → News h₀ L h' nw9 → (D9, lst vs9) ∈ nw9 → Trips nw9 vs9 (tch x y z S9 6) → (∀ p ∈ news, p ∈ nw9) → R (.ok (.ret (.ref D9))) { s with heap := h', toks := tk' }) :
    codeAny (model PR w) (ktrTop dp un gd cn cs L a ccd cl outer) (.call (.ref 649) ⟨[.ref c, .int S9 ts], []⟩) R s := by
  have hMk8 : Mk 25 := ⟨⟩
  have hX9 : XYZ x y z S9 := trivial
  w_top off
  k_dflt (walk_at "ENTER")
  k_steps
  all_goals first
    | ((rename Lst9 _ _ _ => hL9); obtain ⟨vs9, hv9, hT9⟩ := hL9; exact ret _ _ _ _ _ (by k_asm) (by k_asm) hv9 hT9 (by intro p9 h9; (rename ∀ p ∈ kf _ _, p ∈ _ => hs9); exact hs9 p9 (kf_mem (by simp only [List.mem_cons, h9, or_true]) ((show ∀ p ∈ news, p.1 ≠ _ from by k_all) p9 h9))))
    | fail "an end"
theorem touchC {c : Addr} {x y z S9 : Int} {a1 a2 a3 ts : Tok} (B : Below A₀ base outer h₀) (F : Fr h₀ L s.heap m) (X : (K1 w.params).In h₀) (N : News h₀ L s.heap news) (T : Top V1 loose mean mg mb h₀) (hk : cs.kind = .function)
    (hpT : (c, tup3 x y z a1 a2 a3) ∈ news) (hS0 : 0 < S9) (hS1 : S9 < 1073741824) (hx : x.natAbs < 2 ^ 40) (hy : y.natAbs < 2 ^ 40) (hz : z.natAbs < 2 ^ 40) (hd : dp + 3 < recursionLimit) (hu : un + 24 < cLine)
    (ret : ∀ (D9 : Addr) (vs9 : List Value) (nw9 : List (Addr × Obj)) (h' : Heap) (tk' : Nat), Fr h₀ L h' m → News h₀ L h' nw9 → (D9, lst vs9) ∈ nw9 → Trips nw9 vs9 (tch x y z S9 6) → (∀ p ∈ news, p ∈ nw9) → Q (.ref D9) { s with heap := h', toks := tk' }) :
    wpAny (model PR w) (ktrTop dp un gd cn cs L a ccd cl outer) (call (.ref 649) [.ref c, .int S9 ts]) Q E s := wpAny_call (touchC0 B F X N T hk hpT hS0 hS1 hx hy hz hd hu ret)
end
end
end
theorem sF_ok {b : Bool} {f i j : Int} (h0 : 0 ≤ f) (h6 : f < 6) : 0 ≤ sF b f i j ∧ sF b f i j < 6 := by
  unfold sF
  split
  · exact ⟨h0, h6⟩
  · exact xfF_ok _ _ _
theorem same_bounds {b : Bool} {f i j : Int} (h0 : 0 ≤ f) (h6 : f < 6) : 0 ≤ fpl (sF b f i j) (sI b f i j) (sJ b f i j) 30 ∧ fpl (sF b f i j) (sI b f i j) (sJ b f i j) 30 < 6 * 2 ^ (2 * (30 : Int)).toNat := by
  have h := sF_ok (b := b) (i := i) (j := j) h0 h6
  have h2 := fpl_bounds (f := sF b f i j) (i := sI b f i j) (j := sJ b f i j) 30 h.1 h.2
  rwa [show (4 : Int) ^ 30 = 2 ^ (2 * (30 : Int)).toNat from by decide] at h2
theorem size_ok {l : Int} (h0 : 0 ≤ l) (h1 : l ≤ 30) : 0 < (2 : Int) ^ (30 - l).toNat ∧ (2 : Int) ^ (30 - l).toNat ≤ 1073741824 := by
  refine ⟨pw _, ?_⟩
  have e : (1073741824 : Int) = 2 ^ (30 - l).toNat * 2 ^ l.toNat := by rw [← pw_add, show (30 - l).toNat + l.toNat = 30 by omega]; decide
  have h := Int.mul_le_mul_of_nonneg_left (show 1 ≤ (2 : Int) ^ l.toNat by have := pw l.toNat; omega) (Int.le_of_lt (pw (30 - l).toNat))
  omega
section
variable {w : World} {dp un : Nat} {gd : Option (List Code)} {cn : Str} {cs : Scope} {a : Addr} {ccd : Value} {cl : List (Str × Addr)} {outer : List Env} {A₀ : Around} {base h₀ : Heap} {L : Addr} {m : Str → Option Value} {news : List (Addr × Obj)} {s : Shared}
    {mg mb : Str → Option Value} {loose : List Str} {mean : ExcName → Option Value} {Q E : Value → Shared → Prop} {R : Result → Shared → Prop}
theorem words26 : True := by
  (k_with "call ref" => ((with_reducible rename Mk 26 => hMk9); (((with_reducible show wpAny _ _ (call (Value.ref 561) _) _ _ _); k_here; k_dflt (refine mkC (by k_asm) (by k_asm) (by k_asm) (by k_asm) (by k_asm) (by first | exact rfl | assumption) (by first | assumption | exact rfl) (by k_extra "ROOM") (by k_extra "UNITS") ?_; k_whole; intro y9 e9 t9 tk9 h9 tt9 F9 N9 l1 l2; (try dsimp only); (try k_fold))))))
  (k_with "call ref" => ((with_reducible rename Mk 26 => hMk9); (((with_reducible show wpAny _ _ (call (Value.ref 344) _) _ _ _); k_here; k_dflt (refine lsbC (by k_asm) (by k_asm) (by k_asm) (by k_asm) (by k_asm) (by first | exact rfl | assumption) (by k_mem) (by k_mem) (by k_extra "ROOM") (by k_extra "UNITS") ?_; k_whole; intro t9 h9 tk9 F9 N9; (try dsimp only); (try k_fold))))))
  (k_with "call ref" => ((with_reducible rename Mk 26 => hMk9); (((with_reducible show wpAny _ _ (call (Value.ref 337) _) _ _ _); k_here; k_dflt (refine validC (by k_asm) (by k_asm) (by k_asm) (by k_asm) (by k_asm) (by first | exact rfl | assumption) (by k_mem) (by k_mem) (by assumption) (by assumption) (by k_extra "ROOM") (by k_extra "UNITS") ?_; k_whole; intro h9 tk9 F9 N9; (try dsimp only); (try k_fold))))))
  trivial
theorem words27 : True := by
  (k_with "call ref" => ((with_reducible rename Mk 27 => hMk9); (((with_reducible show wpAny _ _ (call (Value.ref 561) _) _ _ _); k_here; k_dflt (refine mkC (by k_asm) (by k_asm) (by k_asm) (by k_asm) (by k_asm) (by first | exact rfl | assumption) (by first | assumption | exact rfl) (by k_extra "ROOM") (by k_extra "UNITS") ?_; k_whole; intro y9 e9 t9 tk9 h9 tt9 F9 N9 l1 l2; (try dsimp only); (try k_fold))))))
  (k_with "call ref" => ((with_reducible rename Mk 27 => hMk9); (((with_reducible show wpAny _ _ (call (Value.ref 344) _) _ _ _); k_here; k_dflt (refine lsbC (by k_asm) (by k_asm) (by k_asm) (by k_asm) (by k_asm) (by first | exact rfl | assumption) (by k_mem) (by k_mem) (by k_extra "ROOM") (by k_extra "UNITS") ?_; k_whole; intro t9 h9 tk9 F9 N9; (try dsimp only); (try k_fold))))))
  (k_with "call ref" => ((with_reducible rename Mk 27 => hMk9); (((with_reducible show wpAny _ _ (call (Value.ref 337) _) _ _ _); k_here; k_dflt (refine validC (by k_asm) (by k_asm) (by k_asm) (by k_asm) (by k_asm) (by first | exact rfl | assumption) (by k_mem) (by k_mem) (by assumption) (by assumption) (by k_extra "ROOM") (by k_extra "UNITS") ?_; k_whole; intro h9 tk9 F9 N9; (try dsimp only); (try k_fold))))))
  (k_with "call ref" => ((with_reducible rename Mk 27 => hMk9); (((with_reducible show wpAny _ _ (call (Value.ref 344) _) _ _ _); k_here; k_dflt (refine lsbK (by k_asm) (by k_asm) (by k_asm) (by k_asm) (by k_asm) (by first | exact rfl | assumption) (by k_mem) (by k_mem) (by k_extra "ROOM") (by k_extra "UNITS") ?_; k_whole; intro t9 h9 tk9 F9 N9; (try dsimp only); (try k_fold))))))
  trivial
theorem validK0 {x d : Addr} {p l : Int} {t tk : Tok} (B : Below A₀ base outer h₀) (F : Fr h₀ L s.heap m) (X : (K1 w.params).In h₀) (N : News h₀ L s.heap news) (T : Top V1 loose mean mg mb h₀) (hk : cs.kind = .function)
    (hx : (x, cellI d) ∈ news) (hdx : (d, cellD w (cid p l) t tk) ∈ news) (h0 : 0 ≤ l) (h1 : l ≤ 30)  (hp : p < 6 * 2 ^ (2 * l).toNat) (hd : dp + 3 < recursionLimit) (hu : un + 24 < cLine)
    (ret : ∀ (h' : Heap) (tk' : Nat), Fr h₀ L h' m → News h₀ L h' news → R (.ok (.ret (.bool true))) { s with heap := h', toks := tk' }) :
    codeAny (model PR w) (ktrTop dp un gd cn cs L a ccd cl outer) (.call (.ref 337) ⟨[.ref x], []⟩) R s := by
  exact validC0 B F X N T hk hx hdx (face_lt h0 h1 hp) (valid_cid h0 h1) hd hu ret
theorem validK {x d : Addr} {p l : Int} {t tk : Tok} (B : Below A₀ base outer h₀) (F : Fr h₀ L s.heap m) (X : (K1 w.params).In h₀) (N : News h₀ L s.heap news) (T : Top V1 loose mean mg mb h₀) (hk : cs.kind = .function)
    (hx : (x, cellI d) ∈ news) (hdx : (d, cellD w (cid p l) t tk) ∈ news) (h0 : 0 ≤ l) (h1 : l ≤ 30)  (hp : p < 6 * 2 ^ (2 * l).toNat) (hd : dp + 3 < recursionLimit) (hu : un + 24 < cLine)
    (ret : ∀ (h' : Heap) (tk' : Nat), Fr h₀ L h' m → News h₀ L h' news → Q (.bool true) { s with heap := h', toks := tk' }) :
    wpAny (model PR w) (ktrTop dp un gd cn cs L a ccd cl outer) (call (.ref 337) [.ref x]) Q E s := wpAny_call (validK0 B F X N T hk hx hdx h0 h1 hp hd hu ret)
theorem words28 : True := by
  (k_with "call ref" => ((with_reducible rename Mk 28 => hMk9); (((with_reducible show wpAny _ _ (call (Value.ref 561) _) _ _ _); k_here; k_dflt (refine mkC (by k_asm) (by k_asm) (by k_asm) (by k_asm) (by k_asm) (by first | exact rfl | assumption) (by first | assumption | exact rfl) (by k_extra "ROOM") (by k_extra "UNITS") ?_; k_whole; intro y9 e9 t9 tk9 h9 tt9 F9 N9 l1 l2; (try dsimp only); (try k_fold))))))
  (k_with "call ref" => ((with_reducible rename Mk 28 => hMk9); (((with_reducible show wpAny _ _ (call (Value.ref 344) _) _ _ _); k_here; k_dflt (refine lsbC (by k_asm) (by k_asm) (by k_asm) (by k_asm) (by k_asm) (by first | exact rfl | assumption) (by k_mem) (by k_mem) (by k_extra "ROOM") (by k_extra "UNITS") ?_; k_whole; intro t9 h9 tk9 F9 N9; (try dsimp only); (try k_fold))))))
  (k_with "call ref" => ((with_reducible rename Mk 28 => hMk9); (((with_reducible show wpAny _ _ (call (Value.ref 337) _) _ _ _); k_here; k_dflt (refine validC (by k_asm) (by k_asm) (by k_asm) (by k_asm) (by k_asm) (by first | exact rfl | assumption) (by k_mem) (by k_mem) (by assumption) (by assumption) (by k_extra "ROOM") (by k_extra "UNITS") ?_; k_whole; intro h9 tk9 F9 N9; (try dsimp only); (try k_fold))))))
  (k_with "call ref" => ((with_reducible rename Mk 28 => hMk9); (((with_reducible show wpAny _ _ (call (Value.ref 344) _) _ _ _); k_here; k_dflt (refine lsbK (by k_asm) (by k_asm) (by k_asm) (by k_asm) (by k_asm) (by first | exact rfl | assumption) (by k_mem) (by k_mem) (by k_extra "ROOM") (by k_extra "UNITS") ?_; k_whole; intro t9 h9 tk9 F9 N9; (try dsimp only); (try k_fold))))))
  (k_with "call ref" => ((with_reducible rename Mk 28 => hMk9); (((with_reducible show wpAny _ _ (call (Value.ref 337) _) _ _ _); k_here; k_dflt (refine validK (by k_asm) (by k_asm) (by k_asm) (by k_asm) (by k_asm) (by first | exact rfl | assumption) (by k_mem) (by k_mem) (by k_extra "OM") (by k_extra "OM") (by first | assumption | omega) (by k_extra "ROOM") (by k_extra "UNITS") ?_; k_whole; intro h9 tk9 F9 N9; (try dsimp only); (try k_fold))))))
  trivial
theorem lflC0 {l : Int} {t : Tok} (B : Below A₀ base outer h₀) (F : Fr h₀ L s.heap m) (X : (K1 w.params).In h₀) (N : News h₀ L s.heap news) (T : Top V1 loose mean mg mb h₀) (hk : cs.kind = .function)
    (h0 : 0 ≤ l) (h1 : l ≤ 30) (hd : dp + 2 < recursionLimit) (hu : un + 16 < cLine)
    (ret : ∀ (t : Tok) (h' : Heap) (tk' : Nat), Fr h₀ L h' m → News h₀ L h' news → R (.ok (.ret (.int (2 ^ (60 - 2 * l).toNat) t))) { s with heap := h', toks := tk' }) :
    codeAny (model PR w) (ktrTop dp un gd cn cs L a ccd cl outer) (.call (.ref 285) ⟨[.ref 561, .int l t], []⟩) R s := by
  have hMk8 : Mk 28 := ⟨⟩
  w_top off
  k_dflt (walk_at "ENTER")
  k_steps
  all_goals first
    | (rw [lfl_eq]; exact ret _ _ _ (by k_asm) (by k_asm))
    | fail "an end"
theorem words29 : True := by
  (k_with "call ref" => ((with_reducible rename Mk 29 => hMk9); (((with_reducible show wpAny _ _ (call (Value.ref 561) _) _ _ _); k_here; k_dflt (refine mkC (by k_asm) (by k_asm) (by k_asm) (by k_asm) (by k_asm) (by first | exact rfl | assumption) (by first | assumption | exact rfl) (by k_extra "ROOM") (by k_extra "UNITS") ?_; k_whole; intro y9 e9 t9 tk9 h9 tt9 F9 N9 l1 l2; (try dsimp only); (try k_fold))))))
  (k_with "call ref" => ((with_reducible rename Mk 29 => hMk9); (((with_reducible show wpAny _ _ (call (Value.ref 344) _) _ _ _); k_here; k_dflt (refine lsbC (by k_asm) (by k_asm) (by k_asm) (by k_asm) (by k_asm) (by first | exact rfl | assumption) (by k_mem) (by k_mem) (by k_extra "ROOM") (by k_extra "UNITS") ?_; k_whole; intro t9 h9 tk9 F9 N9; (try dsimp only); (try k_fold))))))
  (k_with "call ref" => ((with_reducible rename Mk 29 => hMk9); (((with_reducible show wpAny _ _ (call (Value.ref 337) _) _ _ _); k_here; k_dflt (refine validC (by k_asm) (by k_asm) (by k_asm) (by k_asm) (by k_asm) (by first | exact rfl | assumption) (by k_mem) (by k_mem) (by assumption) (by assumption) (by k_extra "ROOM") (by k_extra "UNITS") ?_; k_whole; intro h9 tk9 F9 N9; (try dsimp only); (try k_fold))))))
  (k_with "call ref" => ((with_reducible rename Mk 29 => hMk9); (((with_reducible show wpAny _ _ (call (Value.ref 344) _) _ _ _); k_here; k_dflt (refine lsbK (by k_asm) (by k_asm) (by k_asm) (by k_asm) (by k_asm) (by first | exact rfl | assumption) (by k_mem) (by k_mem) (by k_extra "ROOM") (by k_extra "UNITS") ?_; k_whole; intro t9 h9 tk9 F9 N9; (try dsimp only); (try k_fold))))))
  (k_with "call ref" => ((with_reducible rename Mk 29 => hMk9); (((with_reducible show wpAny _ _ (call (Value.ref 337) _) _ _ _); k_here; k_dflt (refine validK (by k_asm) (by k_asm) (by k_asm) (by k_asm) (by k_asm) (by first | exact rfl | assumption) (by k_mem) (by k_mem) (by k_extra "OM") (by k_extra "OM") (by first | assumption | omega) (by k_extra "ROOM") (by k_extra "UNITS") ?_; k_whole; intro h9 tk9 F9 N9; (try dsimp only); (try k_fold))))))
  (k_with "call ref" => ((with_reducible rename Mk 29 => hMk9); (((fail_if_success (with_reducible show wpAny _ _ (call (Value.ref (OfNat.ofNat _)) _) _ _ _)); k_here; k_dflt (refine call_meth (by k_asm) (by k_mem) ?_; refine lflC0 (by k_asm) (by k_asm) (by k_asm) (by k_asm) (by k_asm) (by first | exact rfl | assumption) (by k_extra "OM") (by k_extra "OM") (by k_extra "ROOM") (by k_extra "UNITS") ?_; k_whole; intro t9 h9 tk9 F9 N9; (try dsimp only); (try k_fold))))))
  trivial
theorem parentC0 {x d : Addr} {p l : Int} {t tk : Tok} {q : Int} {tq : Tok} (B : Below A₀ base outer h₀) (F : Fr h₀ L s.heap m) (X : (K1 w.params).In h₀) (N : News h₀ L s.heap news) (T : Top V1 loose mean mg mb h₀) (hk : cs.kind = .function)
    (hx : (x, cellI d) ∈ news) (hdx : (d, cellD w (cid p l) t tk) ∈ news) (h0 : 0 ≤ l) (h1 : l ≤ 30) (hp0 : 0 ≤ p) (hp : p < 6 * 2 ^ (2 * l).toNat) (hq0 : 0 ≤ q) (hq : q ≤ l) (hd : dp + 5 < recursionLimit) (hu : un + 40 < cLine)
    (ret : ∀ (y e : Addr) (t tk : Tok) (h' : Heap) (tk' : Nat), Fr h₀ L h' m → News h₀ L h' ((y, cellI e) :: (e, cellD w (cid (p / 2 ^ (2 * (l - q)).toNat) q) t tk) :: news) → R (.ok (.ret (.ref y))) { s with heap := h', toks := tk' }) :
    codeAny (model PR w) (ktrTop dp un gd cn cs L a ccd cl outer) (.call (.ref 295) ⟨[.ref x, .int q tq], []⟩) R s := by
  have hMk8 : Mk 29 := ⟨⟩
  have hM : (Builtin.bitOr (Builtin.bitAnd (cid p l) (-(2 ^ (60 - 2 * q).toNat))) (2 ^ (60 - 2 * q).toNat)).fmod 18446744073709551615 = cid (p / 2 ^ (2 * (l - q)).toNat) q := by
    rw [parent_cid hq0 hq h1]
    exact cid_fmod hq0 (by omega) (Int.ediv_nonneg hp0 (Int.le_of_lt (pw _))) (by
      have e : (2 : Int) ^ (2 * l).toNat = 2 ^ (2 * (l - q)).toNat * 2 ^ (2 * q).toNat := by rw [← pw_add]; congr 1; omega
      refine Int.le_of_lt (Int.ediv_lt_of_lt_mul (pw _) ?_)
      rw [Int.mul_comm _ (2 ^ (2 * (l - q)).toNat), ← Int.mul_assoc, Int.mul_comm _ 6, Int.mul_assoc, ← e]
      exact hp)
  w_top off
  k_dflt (walk_at "ENTER*")
  k_steps
  all_goals first
    | ((rename News _ _ _ _ => kN9); (try rw [hM] at kN9); exact ret _ _ _ _ _ _ (by k_asm) (cell_drop kN9 (by intro p9 h9; simp only [List.mem_cons, h9, or_true])))
    | fail "an end"
theorem words30 : True := by
  (k_with "call ref" => ((with_reducible rename Mk 30 => hMk9); (((with_reducible show wpAny _ _ (call (Value.ref 561) _) _ _ _); k_here; k_dflt (refine mkC (by k_asm) (by k_asm) (by k_asm) (by k_asm) (by k_asm) (by first | exact rfl | assumption) (by first | assumption | exact rfl) (by k_extra "ROOM") (by k_extra "UNITS") ?_; k_whole; intro y9 e9 t9 tk9 h9 tt9 F9 N9 l1 l2; (try dsimp only); (try k_fold))))))
  (k_with "call ref" => ((with_reducible rename Mk 30 => hMk9); (((with_reducible show wpAny _ _ (call (Value.ref 344) _) _ _ _); k_here; k_dflt (refine lsbC (by k_asm) (by k_asm) (by k_asm) (by k_asm) (by k_asm) (by first | exact rfl | assumption) (by k_mem) (by k_mem) (by k_extra "ROOM") (by k_extra "UNITS") ?_; k_whole; intro t9 h9 tk9 F9 N9; (try dsimp only); (try k_fold))))))
  (k_with "call ref" => ((with_reducible rename Mk 30 => hMk9); (((with_reducible show wpAny _ _ (call (Value.ref 337) _) _ _ _); k_here; k_dflt (refine validC (by k_asm) (by k_asm) (by k_asm) (by k_asm) (by k_asm) (by first | exact rfl | assumption) (by k_mem) (by k_mem) (by assumption) (by assumption) (by k_extra "ROOM") (by k_extra "UNITS") ?_; k_whole; intro h9 tk9 F9 N9; (try dsimp only); (try k_fold))))))
  (k_with "call ref" => ((with_reducible rename Mk 30 => hMk9); (((with_reducible show wpAny _ _ (call (Value.ref 344) _) _ _ _); k_here; k_dflt (refine lsbK (by k_asm) (by k_asm) (by k_asm) (by k_asm) (by k_asm) (by first | exact rfl | assumption) (by k_mem) (by k_mem) (by k_extra "ROOM") (by k_extra "UNITS") ?_; k_whole; intro t9 h9 tk9 F9 N9; (try dsimp only); (try k_fold))))))
  (k_with "call ref" => ((with_reducible rename Mk 30 => hMk9); (((with_reducible show wpAny _ _ (call (Value.ref 337) _) _ _ _); k_here; k_dflt (refine validK (by k_asm) (by k_asm) (by k_asm) (by k_asm) (by k_asm) (by first | exact rfl | assumption) (by k_mem) (by k_mem) (by k_extra "OM") (by k_extra "OM") (by first | assumption | omega) (by k_extra "ROOM") (by k_extra "UNITS") ?_; k_whole; intro h9 tk9 F9 N9; (try dsimp only); (try k_fold))))))
  (k_with "call ref" => ((with_reducible rename Mk 30 => hMk9); (((fail_if_success (with_reducible show wpAny _ _ (call (Value.ref (OfNat.ofNat _)) _) _ _ _)); k_here; k_dflt (refine call_meth (by k_asm) (by k_mem) ?_; refine lflC0 (by k_asm) (by k_asm) (by k_asm) (by k_asm) (by k_asm) (by first | exact rfl | assumption) (by k_extra "OM") (by k_extra "OM") (by k_extra "ROOM") (by k_extra "UNITS") ?_; k_whole; intro t9 h9 tk9 F9 N9; (try dsimp only); (try k_fold))))))
  (k_with "call ref" => ((with_reducible rename Mk 30 => hMk9); (((with_reducible show wpAny _ _ (call (Value.ref 295) _) _ _ _); k_here; k_dflt (refine parentC (by k_asm) (by k_asm) (by k_asm) (by k_asm) (by k_asm) (by first | exact rfl | assumption) (by k_mem) (by k_mem) (by k_extra "OM") (by k_extra "OM") (by first | assumption | omega) (by first | assumption | omega) (by k_extra "OM") (by k_extra "OM") (by k_extra "ROOM") (by k_extra "UNITS") ?_; k_whole; intro y9 e9 t9 tk9 h9 tt9 F9 N9; (try dsimp only); (try k_fold))))))
  trivial
theorem tofK0 {x d : Addr} {p l : Int} {t tk : Tok} {f I J : Int} (B : Below A₀ base outer h₀) (F : Fr h₀ L s.heap m) (X : (K1 w.params).In h₀) (N : News h₀ L s.heap news) (T : Top V1 loose mean mg mb h₀) (hk : cs.kind = .function)
    (hx : (x, cellI d) ∈ news) (hdx : (d, cellD w (cid p l) t tk) ∈ news) (hN : 0 ≤ cid p l) (hf : (cid p l).fdiv (2 ^ Int.toNat 61) = f) (hI : tI (cid p l) = I) (hJ : tJ (cid p l) = J) (hd : dp + 4 < recursionLimit) (hu : un + 32 < cLine)
    (ret : ∀ (T : Addr) (t1 t2 t3 t4 : Tok) (o9 : Int) (h' : Heap) (tk' : Nat), Fr h₀ L h' m → News h₀ L h' ((T, { cls := .type "tuple", data := .seq #[.int f t1, .int I t2, .int J t3, .int o9 t4] }) :: news) → R (.ok (.ret (.ref T))) { s with heap := h', toks := tk' }) :
    codeAny (model PR w) (ktrTop dp un gd cn cs L a ccd cl outer) (.call (.ref 513) ⟨[.ref x], []⟩) R s := by
  subst hf hI hJ
  exact tofC0 B F X N T hk hx hdx hN hd hu ret
theorem tofK {x d : Addr} {p l : Int} {t tk : Tok} {f I J : Int} (B : Below A₀ base outer h₀) (F : Fr h₀ L s.heap m) (X : (K1 w.params).In h₀) (N : News h₀ L s.heap news) (T : Top V1 loose mean mg mb h₀) (hk : cs.kind = .function)
    (hx : (x, cellI d) ∈ news) (hdx : (d, cellD w (cid p l) t tk) ∈ news) (hN : 0 ≤ cid p l) (hf : (cid p l).fdiv (2 ^ Int.toNat 61) = f) (hI : tI (cid p l) = I) (hJ : tJ (cid p l) = J) (hd : dp + 4 < recursionLimit) (hu : un + 32 < cLine)
    (ret : ∀ (T : Addr) (t1 t2 t3 t4 : Tok) (o9 : Int) (h' : Heap) (tk' : Nat), Fr h₀ L h' m → News h₀ L h' ((T, { cls := .type "tuple", data := .seq #[.int f t1, .int I t2, .int J t3, .int o9 t4] }) :: news) → Q (.ref T) { s with heap := h', toks := tk' }) :
    wpAny (model PR w) (ktrTop dp un gd cn cs L a ccd cl outer) (call (.ref 513) [.ref x]) Q E s := wpAny_call (tofK0 B F X N T hk hx hdx hN hf hI hJ hd hu ret)
theorem parentK0 {x d : Addr} {p l : Int} {t tk : Tok} {q P9 : Int} {tq : Tok} (B : Below A₀ base outer h₀) (F : Fr h₀ L s.heap m) (X : (K1 w.params).In h₀) (N : News h₀ L s.heap news) (T : Top V1 loose mean mg mb h₀) (hk : cs.kind = .function)
    (hx : (x, cellI d) ∈ news) (hdx : (d, cellD w (cid p l) t tk) ∈ news) (h0 : 0 ≤ l) (h1 : l ≤ 30) (hp0 : 0 ≤ p) (hp : p < 6 * 2 ^ (2 * l).toNat) (hq0 : 0 ≤ q) (hq : q ≤ l) (hP : p / 2 ^ (2 * (l - q)).toNat = P9) (hd : dp + 5 < recursionLimit) (hu : un + 40 < cLine)
    (ret : ∀ (y e : Addr) (t tk : Tok) (h' : Heap) (tk' : Nat), Fr h₀ L h' m → News h₀ L h' ((y, cellI e) :: (e, cellD w (cid P9 q) t tk) :: news) → R (.ok (.ret (.ref y))) { s with heap := h', toks := tk' }) :
    codeAny (model PR w) (ktrTop dp un gd cn cs L a ccd cl outer) (.call (.ref 295) ⟨[.ref x, .int q tq], []⟩) R s := by
  subst hP
  exact parentC0 B F X N T hk hx hdx h0 h1 hp0 hp hq0 hq hd hu ret
theorem parentK {x d : Addr} {p l : Int} {t tk : Tok} {q P9 : Int} {tq : Tok} (B : Below A₀ base outer h₀) (F : Fr h₀ L s.heap m) (X : (K1 w.params).In h₀) (N : News h₀ L s.heap news) (T : Top V1 loose mean mg mb h₀) (hk : cs.kind = .function)
    (hx : (x, cellI d) ∈ news) (hdx : (d, cellD w (cid p l) t tk) ∈ news) (h0 : 0 ≤ l) (h1 : l ≤ 30) (hp0 : 0 ≤ p) (hp : p < 6 * 2 ^ (2 * l).toNat) (hq0 : 0 ≤ q) (hq : q ≤ l) (hP : p / 2 ^ (2 * (l - q)).toNat = P9) (hd : dp + 5 < recursionLimit) (hu : un + 40 < cLine)
    (ret : ∀ (y e : Addr) (t tk : Tok) (h' : Heap) (tk' : Nat), Fr h₀ L h' m → News h₀ L h' ((y, cellI e) :: (e, cellD w (cid P9 q) t tk) :: news) → Q (.ref y) { s with heap := h', toks := tk' }) :
    wpAny (model PR w) (ktrTop dp un gd cn cs L a ccd cl outer) (call (.ref 295) [.ref x, .int q tq]) Q E s := wpAny_call (parentK0 B F X N T hk hx hdx h0 h1 hp0 hp hq0 hq hP hd hu ret)
theorem sameK0 {f i j P9 : Int} {b9 : Bool} {t1 t2 t3 : Tok} (B : Below A₀ base outer h₀) (F : Fr h₀ L s.heap m) (X : (K1 w.params).In h₀) (N : News h₀ L s.heap news) (T : Top V1 loose mean mg mb h₀) (hk : cs.kind = .function)
    (hf0 : 0 ≤ f) (hf6 : f < 6) (hi0 : -8589934592 ≤ i) (hi : i ≤ 8589934592) (hj0 : -8589934592 ≤ j) (hj : j ≤ 8589934592) (hb : b9 = true → (0 ≤ i ∧ i < 1073741824) ∧ 0 ≤ j ∧ j < 1073741824) (hP : fpl (sF b9 f i j) (sI b9 f i j) (sJ b9 f i j) 30 = P9) (hd : dp + 18 < recursionLimit) (hu : un + 144 < cLine)
    (ret : ∀ (y e : Addr) (t tk : Tok) (h' : Heap) (tk' : Nat), Fr h₀ L h' m → News h₀ L h' ((y, cellI e) :: (e, cellD w (cid P9 30) t tk) :: news) → R (.ok (.ret (.ref y))) { s with heap := h', toks := tk' }) :
    codeAny (model PR w) (ktrTop dp un gd cn cs L a ccd cl outer) (.call (.ref 265) ⟨[.ref 561, .int f t1, .int i t2, .int j t3, .bool b9], []⟩) R s := by
  subst hP
  exact sameC0 B F X N T hk hf0 hf6 hi0 hi hj0 hj hb hd hu ret
theorem sizeK0 {x d : Addr} {n : Int} {t tk : Tok} {l S9 : Int} {tl : Tok} (B : Below A₀ base outer h₀) (F : Fr h₀ L s.heap m) (X : (K1 w.params).In h₀) (N : News h₀ L s.heap news) (T : Top V1 loose mean mg mb h₀) (hk : cs.kind = .function)
    (hx : (x, cellI d) ∈ news) (hdx : (d, cellD w n t tk) ∈ news) (h0 : 0 ≤ l) (h1 : l ≤ 30) (hS : 2 ^ (30 - l).toNat = S9) (hd : dp + 2 < recursionLimit) (hu : un + 16 < cLine)
    (ret : ∀ (t : Tok) (h' : Heap) (tk' : Nat), Fr h₀ L h' m → News h₀ L h' news → R (.ok (.ret (.int S9 t))) { s with heap := h', toks := tk' }) :
    codeAny (model PR w) (ktrTop dp un gd cn cs L a ccd cl outer) (.call (.ref 541) ⟨[.ref x, .int l tl], []⟩) R s := by
  subst hS
  exact sizeC0 B F X N T hk hx hdx h0 h1 hd hu ret
theorem sizeK {x d : Addr} {n : Int} {t tk : Tok} {l S9 : Int} {tl : Tok} (B : Below A₀ base outer h₀) (F : Fr h₀ L s.heap m) (X : (K1 w.params).In h₀) (N : News h₀ L s.heap news) (T : Top V1 loose mean mg mb h₀) (hk : cs.kind = .function)
    (hx : (x, cellI d) ∈ news) (hdx : (d, cellD w n t tk) ∈ news) (h0 : 0 ≤ l) (h1 : l ≤ 30) (hS : 2 ^ (30 - l).toNat = S9) (hd : dp + 2 < recursionLimit) (hu : un + 16 < cLine)
    (ret : ∀ (t : Tok) (h' : Heap) (tk' : Nat), Fr h₀ L h' m → News h₀ L h' news → Q (.int S9 t) { s with heap := h', toks := tk' }) :
    wpAny (model PR w) (ktrTop dp un gd cn cs L a ccd cl outer) (call (.ref 541) [.ref x, .int l tl]) Q E s := wpAny_call (sizeK0 B F X N T hk hx hdx h0 h1 hS hd hu ret)
end
section
variable {w : World} {dp un : Nat} {gd : Option (List Code)} {cn : Str} {cs : Scope} {a : Addr} {ccd : Value} {cl : List (Str × Addr)} {outer : List Env} {A₀ : Around} {base h₀ : Heap} {L : Addr} {m : Str → Option Value} {news : List (Addr × Obj)} {s : Shared}
    {mg mb : Str → Option Value} {loose : List Str} {mean : ExcName → Option Value} {Q E : Value → Shared → Prop} {R : Result → Shared → Prop}
theorem words31 : True := by
  (k_with "call ref" => ((with_reducible rename Mk 31 => hMk9); (((with_reducible show wpAny _ _ (call (Value.ref 561) _) _ _ _); k_here; k_dflt (refine mkC (by k_asm) (by k_asm) (by k_asm) (by k_asm) (by k_asm) (by first | exact rfl | assumption) (by first | assumption | exact rfl) (by k_extra "ROOM") (by k_extra "UNITS") ?_; k_whole; intro y9 e9 t9 tk9 h9 tt9 F9 N9 l1 l2; (try dsimp only); (try k_fold))))))
  (k_with "call ref" => ((with_reducible rename Mk 31 => hMk9); (((with_reducible show wpAny _ _ (call (Value.ref 344) _) _ _ _); k_here; k_dflt (refine lsbC (by k_asm) (by k_asm) (by k_asm) (by k_asm) (by k_asm) (by first | exact rfl | assumption) (by k_mem) (by k_mem) (by k_extra "ROOM") (by k_extra "UNITS") ?_; k_whole; intro t9 h9 tk9 F9 N9; (try dsimp only); (try k_fold))))))
  (k_with "call ref" => ((with_reducible rename Mk 31 => hMk9); (((with_reducible show wpAny _ _ (call (Value.ref 337) _) _ _ _); k_here; k_dflt (refine validC (by k_asm) (by k_asm) (by k_asm) (by k_asm) (by k_asm) (by first | exact rfl | assumption) (by k_mem) (by k_mem) (by assumption) (by assumption) (by k_extra "ROOM") (by k_extra "UNITS") ?_; k_whole; intro h9 tk9 F9 N9; (try dsimp only); (try k_fold))))))
  (k_with "call ref" => ((with_reducible rename Mk 31 => hMk9); (((with_reducible show wpAny _ _ (call (Value.ref 295) _) _ _ _); k_here; k_dflt (refine parentK (by k_asm) (by k_asm) (by k_asm) (by k_asm) (by k_asm) (by first | exact rfl | assumption) (by k_mem) (by k_mem) (by k_extra "OM") (by k_extra "OM") (by first | with_reducible assumption | omega) (by first | with_reducible assumption | omega) (by k_extra "OM") (by k_extra "OM") (by with_reducible assumption) (by k_extra "ROOM") (by k_extra "UNITS") ?_; k_whole; intro y9 e9 t9 tk9 h9 tt9 F9 N9; (try dsimp only); (try k_fold))))))
  (k_with "call ref" => ((with_reducible rename Mk 31 => hMk9); (((with_reducible show wpAny _ _ (call (Value.ref 265) _) _ _ _); k_here; k_dflt (refine sameK (by k_asm) (by k_asm) (by k_asm) (by k_asm) (by k_asm) (by first | exact rfl | assumption) (by k_extra "OM") (by k_extra "OM") (by k_extra "OM") (by k_extra "OM") (by k_extra "OM") (by k_extra "OM") (by (simp only [decide_eq_true_eq, Bool.and_eq_true, Bool.false_eq_true, false_implies, and_imp]; omega)) (by with_reducible assumption) (by k_extra "ROOM") (by k_extra "UNITS") ?_; k_whole; intro y9 e9 t9 tk9 h9 tt9 F9 N9; (try dsimp only); (try k_fold))))))
  (k_with "call ref" => ((with_reducible rename Mk 31 => hMk9); (((fail_if_success (with_reducible show wpAny _ _ (call (Value.ref (OfNat.ofNat _)) _) _ _ _)); k_here; k_dflt (refine call_meth (by k_asm) (by k_mem) ?_; refine sameK0 (by k_asm) (by k_asm) (by k_asm) (by k_asm) (by k_asm) (by first | exact rfl | assumption) (by k_extra "OM") (by k_extra "OM") (by k_extra "OM") (by k_extra "OM") (by k_extra "OM") (by k_extra "OM") (by (simp only [decide_eq_true_eq, Bool.and_eq_true, Bool.false_eq_true, false_implies, and_imp]; omega)) (by with_reducible assumption) (by k_extra "ROOM") (by k_extra "UNITS") ?_; k_whole; intro y9 e9 t9 tk9 h9 tt9 F9 N9; (try dsimp only); (try k_fold))))))
  (k_with "getMethod ref" => ((with_reducible rename Mk 31 => hMk9); (k_here; (with_reducible show wpAny _ _ (getMethod (Value.ref _) (PySem.Str.ofString "from_face_ij_same") _) _ _ _); k_dflt (refine kmu_cm (by k_asm) (by k_asm) (by k_asm) (by k_inst) (by k_is) (by k_is) (by k_is) (by k_is) (by k_is) (by k_is) (by decide +kernel) (by k_get) (by k_is) ?_; k_whole; intro q9 h9 F9 N9 l9; (try k_lt l9); (try k_sweep)))))
  trivial
theorem edgeC0 {x d : Addr} {p l : Int} {t tk : Tok} {f I J S9 N0 N1 N2 N3 : Int} (B : Below A₀ base outer h₀) (F : Fr h₀ L s.heap m) (X : (K1 w.params).In h₀) (N : News h₀ L s.heap news) (T : Top V1 loose mean mg mb h₀) (hk : cs.kind = .function)
    (hx : (x, cellI d) ∈ news) (hdx : (d, cellD w (cid p l) t tk) ∈ news) (h0 : 0 ≤ l) (h1 : l ≤ 30) (hp0 : 0 ≤ p) (hp : p < 6 * 2 ^ (2 * l).toNat) (hS9 : 2 ^ (30 - l).toNat = S9) (hf : (cid p l).fdiv (2 ^ Int.toNat 61) = f) (hI : tI (cid p l) = I) (hJ : tJ (cid p l) = J) (hf0 : 0 ≤ f) (hf6 : f < 6) (hI0 : 0 ≤ I) (hI1 : I < 1073741824) (hJ0 : 0 ≤ J) (hJ1 : J < 1073741824) (hE0 : fpl (sF (decide (0 ≤ J - S9)) f I (J - S9)) (sI (decide (0 ≤ J - S9)) f I (J - S9)) (sJ (decide (0 ≤ J - S9)) f I (J - S9)) 30 / 2 ^ (2 * (30 - l)).toNat = N0) (hE1 : fpl (sF (decide (I + S9 < 1073741824)) f (I + S9) J) (sI (decide (I + S9 < 1073741824)) f (I + S9) J) (sJ (decide (I + S9 < 1073741824)) f (I + S9) J) 30 / 2 ^ (2 * (30 - l)).toNat = N1) (hE2 : fpl (sF (decide (J + S9 < 1073741824)) f I (J + S9)) (sI (decide (J + S9 < 1073741824)) f I (J + S9)) (sJ (decide (J + S9 < 1073741824)) f I (J + S9)) 30 / 2 ^ (2 * (30 - l)).toNat = N2) (hE3 : fpl (sF (decide (0 ≤ I - S9)) f (I - S9) J) (sI (decide (0 ≤ I - S9)) f (I - S9) J) (sJ (decide (0 ≤ I - S9)) f (I - S9) J) 30 / 2 ^ (2 * (30 - l)).toNat = N3) (hd : dp + 24 < recursionLimit) (hu : un + 192 < cLine)
    (ret : ∀ (T9 y0 e0 y1 e1 y2 e2 y3 e3 : Addr) (u0 v0 u1 v1 u2 v2 u3 v3 : Tok) (h' : Heap) (tk' : Nat), Fr h₀ L h' m → News h₀ L h' ((T9, { cls := .type "tuple", data := .seq #[.ref y0, .ref y1, .ref y2, .ref y3] }) :: (y0, cellI e0) :: (e0, cellD w (cid N0 l) u0 v0) :: (y1, cellI e1) :: (e1, cellD w (cid N1 l) u1 v1) :: (y2, cellI e2) :: (e2, cellD w (cid N2 l) u2 v2) :: (y3, cellI e3) :: (e3, cellD w (cid N3 l) u3 v3) :: news) → R (.ok (.ret (.ref T9))) { s with heap := h', toks := tk' }) :
    codeAny (model PR w) (ktrTop dp un gd cn cs L a ccd cl outer) (.call (.ref 520) ⟨[.ref x], []⟩) R s := by
  have hMk8 : Mk 31 := ⟨⟩
  have hz := size_ok h0 h1
  have hS := cid_nonneg (l := l) hp0
  rw [hS9] at hz
  have hB0 := same_bounds (b := decide (0 ≤ J - S9)) (i := I) (j := (J - S9)) hf0 hf6
  obtain ⟨P0, hP0⟩ : ∃ P, fpl (sF (decide (0 ≤ J - S9)) f I (J - S9)) (sI (decide (0 ≤ J - S9)) f I (J - S9)) (sJ (decide (0 ≤ J - S9)) f I (J - S9)) 30 = P := ⟨_, rfl⟩
  rw [hP0] at hB0 hE0
  obtain ⟨hB0a, hB0b⟩ := hB0
  have hB1 := same_bounds (b := decide (I + S9 < 1073741824)) (i := (I + S9)) (j := J) hf0 hf6
  obtain ⟨P1, hP1⟩ : ∃ P, fpl (sF (decide (I + S9 < 1073741824)) f (I + S9) J) (sI (decide (I + S9 < 1073741824)) f (I + S9) J) (sJ (decide (I + S9 < 1073741824)) f (I + S9) J) 30 = P := ⟨_, rfl⟩
  rw [hP1] at hB1 hE1
  obtain ⟨hB1a, hB1b⟩ := hB1
  have hB2 := same_bounds (b := decide (J + S9 < 1073741824)) (i := I) (j := (J + S9)) hf0 hf6
  obtain ⟨P2, hP2⟩ : ∃ P, fpl (sF (decide (J + S9 < 1073741824)) f I (J + S9)) (sI (decide (J + S9 < 1073741824)) f I (J + S9)) (sJ (decide (J + S9 < 1073741824)) f I (J + S9)) 30 = P := ⟨_, rfl⟩
  rw [hP2] at hB2 hE2
  obtain ⟨hB2a, hB2b⟩ := hB2
  have hB3 := same_bounds (b := decide (0 ≤ I - S9)) (i := (I - S9)) (j := J) hf0 hf6
  obtain ⟨P3, hP3⟩ : ∃ P, fpl (sF (decide (0 ≤ I - S9)) f (I - S9) J) (sI (decide (0 ≤ I - S9)) f (I - S9) J) (sJ (decide (0 ≤ I - S9)) f (I - S9) J) 30 = P := ⟨_, rfl⟩
  rw [hP3] at hB3 hE3
  obtain ⟨hB3a, hB3b⟩ := hB3
  w_top off
  k_dflt (walk_at "ENTER")
  k_steps
  all_goals first
    | ((rename News _ _ _ _ => kN9); exact ret _ _ _ _ _ _ _ _ _ _ _ _ _ _ _ _ _ _ _ (by k_asm) (drop_to kN9 (by k_extra "SUB")))
    | fail "an end"
theorem edgeC {x d : Addr} {p l : Int} {t tk : Tok} {f I J S9 N0 N1 N2 N3 : Int} (B : Below A₀ base outer h₀) (F : Fr h₀ L s.heap m) (X : (K1 w.params).In h₀) (N : News h₀ L s.heap news) (T : Top V1 loose mean mg mb h₀) (hk : cs.kind = .function)
    (hx : (x, cellI d) ∈ news) (hdx : (d, cellD w (cid p l) t tk) ∈ news) (h0 : 0 ≤ l) (h1 : l ≤ 30) (hp0 : 0 ≤ p) (hp : p < 6 * 2 ^ (2 * l).toNat) (hS9 : 2 ^ (30 - l).toNat = S9) (hf : (cid p l).fdiv (2 ^ Int.toNat 61) = f) (hI : tI (cid p l) = I) (hJ : tJ (cid p l) = J) (hf0 : 0 ≤ f) (hf6 : f < 6) (hI0 : 0 ≤ I) (hI1 : I < 1073741824) (hJ0 : 0 ≤ J) (hJ1 : J < 1073741824) (hE0 : fpl (sF (decide (0 ≤ J - S9)) f I (J - S9)) (sI (decide (0 ≤ J - S9)) f I (J - S9)) (sJ (decide (0 ≤ J - S9)) f I (J - S9)) 30 / 2 ^ (2 * (30 - l)).toNat = N0) (hE1 : fpl (sF (decide (I + S9 < 1073741824)) f (I + S9) J) (sI (decide (I + S9 < 1073741824)) f (I + S9) J) (sJ (decide (I + S9 < 1073741824)) f (I + S9) J) 30 / 2 ^ (2 * (30 - l)).toNat = N1) (hE2 : fpl (sF (decide (J + S9 < 1073741824)) f I (J + S9)) (sI (decide (J + S9 < 1073741824)) f I (J + S9)) (sJ (decide (J + S9 < 1073741824)) f I (J + S9)) 30 / 2 ^ (2 * (30 - l)).toNat = N2) (hE3 : fpl (sF (decide (0 ≤ I - S9)) f (I - S9) J) (sI (decide (0 ≤ I - S9)) f (I - S9) J) (sJ (decide (0 ≤ I - S9)) f (I - S9) J) 30 / 2 ^ (2 * (30 - l)).toNat = N3) (hd : dp + 24 < recursionLimit) (hu : un + 192 < cLine)
    (ret : ∀ (T9 y0 e0 y1 e1 y2 e2 y3 e3 : Addr) (u0 v0 u1 v1 u2 v2 u3 v3 : Tok) (h' : Heap) (tk' : Nat), Fr h₀ L h' m → News h₀ L h' ((T9, { cls := .type "tuple", data := .seq #[.ref y0, .ref y1, .ref y2, .ref y3] }) :: (y0, cellI e0) :: (e0, cellD w (cid N0 l) u0 v0) :: (y1, cellI e1) :: (e1, cellD w (cid N1 l) u1 v1) :: (y2, cellI e2) :: (e2, cellD w (cid N2 l) u2 v2) :: (y3, cellI e3) :: (e3, cellD w (cid N3 l) u3 v3) :: news) → Q (.ref T9) { s with heap := h', toks := tk' }) :
    wpAny (model PR w) (ktrTop dp un gd cn cs L a ccd cl outer) (call (.ref 520) [.ref x]) Q E s := wpAny_call (edgeC0 B F X N T hk hx hdx h0 h1 hp0 hp hS9 hf hI hJ hf0 hf6 hI0 hI1 hJ0 hJ1 hE0 hE1 hE2 hE3 hd hu ret)
end
section
variable {w : World} {dp un : Nat} {gd : Option (List Code)} {cn : Str} {cs : Scope} {a : Addr} {ccd : Value} {cl : List (Str × Addr)} {outer : List Env} {A₀ : Around} {base h₀ : Heap} {L : Addr} {m : Str → Option Value} {news : List (Addr × Obj)} {s : Shared}
    {mg mb : Str → Option Value} {loose : List Str} {mean : ExcName → Option Value} {Q E : Value → Shared → Prop} {R : Result → Shared → Prop}
section
theorem words32 : True := by
  (k_with "pyIter ref" => ((with_reducible rename Mk 32 => hMk9); ((k_here; (with_reducible show wpAny _ _ (pyIter (Value.ref _)) (fun it s₂ => TurnsAt _ _ _ _ _ _ _ _ _ it s₂) _ _); (rename Fr _ _ _ _ => kF9); (rename News _ _ _ _ => kN9); (rename CrnIs _ _ _ _ => hc8); k_dflt (refine loop_crn hc8 (PySem.Str.ofString "right") (PySem.Str.ofString "up") (by exact rfl) kF9 kN9 (by k_mem) (by k_mem) (by k_mem) (by k_mem) (by k_mem) (by k_mem) ?_ ?_); rotate_left; (intro p9 q9 vs9 nw9 h9 tk9 hv9 hT9 hsub9 F9 N9; (try dsimp only); clear hc8); rotate_right; (intro k9 r9 u9 v9 p9 q9 vs9 nw9 h9 tk9 I9 o9 hk9 hr9 hv9 hT9 hsub9 hI9 F9 N9; (try dsimp only); have hb9 := rw_bd hk9; have hc9 := crn_get hc8 hk9; clear hc8; generalize rwA k9 = a9 at hr9 hb9 hc9; generalize rwB k9 = b9 at hr9 hb9 hc9; (obtain ⟨⟨x1, x2⟩, x3, x4⟩ := hb9))))))
  (k_with "call builtin:list.append" => ((with_reducible rename Mk 32 => hMk9); ((k_here; (with_reducible show wpAny _ _ (call (Value.builtin "list.append") [Value.ref _, _]) _ _ _); (rename Fr _ _ _ _ => kF9); (rename News _ _ _ _ => kN9); (rename Trips _ _ _ => hT9); k_dflt (refine app_step kF9 kN9 (by k_mem) (by rw [hT9.length]; exact Nat.le_trans (List.length_take_le ..) (by omega)) ?_); intro h9 nw8 F9 N9 hA9 hB9 hC9; (try dsimp only)))))
  (k_with "TurnPostO" => ((with_reducible rename Mk 32 => hMk9); ((refine end_crn (by k_asm) (by k_asm) (by assumption) (by assumption) (by assumption) (by assumption) (by assumption) (by assumption) (by assumption) (by k_extra "SUB") (by k_mem) (by intro y9 g8 g9; simp only [if_neg g8, if_neg g9])))))
  (k_with "exec For Tuple Tuple cons nil" => ((with_reducible rename Mk 32 => hMk9); (k_here; (rename Fr _ _ _ _ => lF9); (k_dflt (refine' For_turns ?hF ?hh ?hs ?he); (case hF => k_dflt (exact lF9)); (case hs => intro _; k_dflt (exact rfl)); (case he => with_unfolding_all passes_own)); k_whole)))
  trivial
theorem cornersC0 {f i j S9 : Int} {t1 t2 t3 t4 : Tok} (B : Below A₀ base outer h₀) (F : Fr h₀ L s.heap m) (X : (K1 w.params).In h₀) (N : News h₀ L s.heap news) (T : Top V1 loose mean mg mb h₀) (hk : cs.kind = .function)
    (hf0 : 0 ≤ f) (hf6 : f < 6) (hi : 0 ≤ i ∧ i < 268435456) (hj : 0 ≤ j ∧ j < 268435456) (hS : 0 ≤ S9 ∧ S9 ≤ 268435456) (hd : dp + 4 < recursionLimit) (hu : un + 32 < cLine)
    (ret : ∀ (D9 : Addr) (vs9 : List Value) (nw9 : List (Addr × Obj)) (h' : Heap) (tk' : Nat), Fr h₀ L h' m → News h₀ L h' nw9 → (D9, LCg.lst vs9) ∈ nw9 → Trips nw9 vs9 (crnL f S9 i j) → (∀ p ∈ news, p ∈ nw9) → R (.ok (.ret (.ref D9))) { s with heap := h', toks := tk' }) :
    codeAny (model PR w) (ktrTop dp un gd cn cs L a ccd cl outer) (.call (.ref 642) ⟨[.int f t1, .int i t2, .int j t3, .int S9 t4], []⟩) R s := by
  have hMk8 : Mk 32 := ⟨⟩
  have hc8 : CrnIs f S9 i j := trivial
  w_top off
  k_dflt (walk_at "ENTER")
  k_steps
  all_goals first
    | (exact ret _ _ _ _ _ (by k_asm) (by k_asm) (by assumption) (by assumption) (by intro p9 h9; (rename ∀ p ∈ kf _ _, p ∈ _ => hs9); exact hs9 p9 (kf_mem (by simp only [List.mem_cons, h9, or_true]) ((show ∀ p ∈ news, p.1 ≠ _ from by k_all) p9 h9))))
    | fail "an end"
theorem cornersC {f i j S9 : Int} {t1 t2 t3 t4 : Tok} (B : Below A₀ base outer h₀) (F : Fr h₀ L s.heap m) (X : (K1 w.params).In h₀) (N : News h₀ L s.heap news) (T : Top V1 loose mean mg mb h₀) (hk : cs.kind = .function)
    (hf0 : 0 ≤ f) (hf6 : f < 6) (hi : 0 ≤ i ∧ i < 268435456) (hj : 0 ≤ j ∧ j < 268435456) (hS : 0 ≤ S9 ∧ S9 ≤ 268435456) (hd : dp + 4 < recursionLimit) (hu : un + 32 < cLine)
    (ret : ∀ (D9 : Addr) (vs9 : List Value) (nw9 : List (Addr × Obj)) (h' : Heap) (tk' : Nat), Fr h₀ L h' m → News h₀ L h' nw9 → (D9, LCg.lst vs9) ∈ nw9 → Trips nw9 vs9 (crnL f S9 i j) → (∀ p ∈ news, p ∈ nw9) → Q (.ref D9) { s with heap := h', toks := tk' }) :
    wpAny (model PR w) (ktrTop dp un gd cn cs L a ccd cl outer) (call (.ref 642) [.int f t1, .int i t2, .int j t3, .int S9 t4]) Q E s := wpAny_call (cornersC0 B F X N T hk hf0 hf6 hi hj hS hd hu ret)
end
end
def lawFD : List Stmt × Scope := match (PR.main.body : List Stmt).getLast? with
  | some (Stmt.FunctionDef _ _ b _ _ _ sc _ _ _) => (b, sc)
  | _ => ([], default)
abbrev lawScope : Scope := lawFD.2
def forBody : Option Stmt → List Stmt
  | some (.For _ _ b _ _) => b
  | _ => []
def turnB : List Stmt := forBody (lawFD.1[4]?)
def edgeB : List Stmt := forBody (turnB[1]?)
abbrev lawE (L fa : Addr) (cdv : Value) (c1 c2 c3 c4 c5 : Addr) : Env := envX (Str.ofString "law") lawScope L fa cdv [(Str.ofString "some", c5), (Str.ofString "j", c4), (Str.ofString "i", c3), (Str.ofString "face", c2), (Str.ofString "level", c1)]
theorem cut_rw {M : Model} {A : Around} {a b : List Stmt} {env : Env} {Q : Flow → Shared → Prop} {E : Value → Shared → Prop} {s : Shared} (hb : a = b) (h : wpAny M A (execs b env) Q E s) : wpAny M A (execs a env) Q E s := hb ▸ h
theorem size_of {vs : List Value} {n k : Nat} (h : vs.length = n) (hk : n ≤ k) (hs : k ≤ sizeLine) : vs.toArray.size ≤ sizeLine := by rw [List.size_toArray, h]; exact Nat.le_trans hk hs
theorem take4 {α : Type} {l : List α} {k : Nat} (h : k < 4) : (l.take k).length ≤ 1000 := Nat.le_trans (List.length_take_le ..) (by omega)
theorem ints4 {vs : List Value} {ns : List Int} (h : IntsAre vs ns) {n : Nat} (hn : ns.length ≤ n) : vs.length ≤ n := by rw [h.length]; exact hn
theorem cn_bd {i j N : Int} {e : Nat} (hi : 0 ≤ i ∧ i < N) (hj : 0 ≤ j ∧ j < N) : (0 ≤ cnA i e ∧ cnA i e ≤ N) ∧ 0 ≤ cnB j e ∧ cnB j e ≤ N := by
  constructor
  · unfold cnA; split <;> omega
  · unfold cnB; split <;> omega
theorem words33 : True := by
  (k_with "call ref" => ((with_reducible rename Mk 33 => hMk9); (((with_reducible show wpAny _ _ (call (Value.ref 561) _) _ _ _); k_here; k_dflt (refine mkC (by k_asm) (by k_asm) (by k_asm) (by k_asm) (by k_asm) (by first | exact rfl | assumption) (by first | assumption | exact rfl) (by k_extra "ROOM") (by k_extra "UNITS") ?_; k_whole; intro y9 e9 t9 tk9 h9 tt9 F9 N9 l1 l2; (try dsimp only); (try k_fold))))))
  (k_with "call ref" => ((with_reducible rename Mk 33 => hMk9); (((with_reducible show wpAny _ _ (call (Value.ref 344) _) _ _ _); k_here; k_dflt (refine lsbC (by k_asm) (by k_asm) (by k_asm) (by k_asm) (by k_asm) (by first | exact rfl | assumption) (by k_mem) (by k_mem) (by k_extra "ROOM") (by k_extra "UNITS") ?_; k_whole; intro t9 h9 tk9 F9 N9; (try dsimp only); (try k_fold))))))
  (k_with "call ref" => ((with_reducible rename Mk 33 => hMk9); (((with_reducible show wpAny _ _ (call (Value.ref 337) _) _ _ _); k_here; k_dflt (refine validC (by k_asm) (by k_asm) (by k_asm) (by k_asm) (by k_asm) (by first | exact rfl | assumption) (by k_mem) (by k_mem) (by assumption) (by assumption) (by k_extra "ROOM") (by k_extra "UNITS") ?_; k_whole; intro h9 tk9 F9 N9; (try dsimp only); (try k_fold))))))
  (k_with "call ref" => ((with_reducible rename Mk 33 => hMk9); (((with_reducible show wpAny _ _ (call (Value.ref 628) _) _ _ _); k_here; k_dflt (refine lawidC (by k_asm) (by k_asm) (by k_asm) (by k_asm) (by k_asm) (by first | exact rfl | assumption) (by k_extra "OM") (by k_extra "OM") (by k_extra "OM") (by k_extra "OM") (by assumption) (by assumption) (by k_extra "ROOM") (by k_extra "UNITS") ?_; k_whole; intro t9 h9 tk9 F9 N9; (try dsimp only); (try k_fold))))))
  (k_with "eval Call" => ((with_reducible rename Mk 33 => hMk9); ((k_here; (with_reducible show wpAny _ _ (eval (Expr.Call (Expr.Name _ _) _ [] _) _) _ _ _); with_unfolding_all refine Call_ ?_))))
  (k_with "MEM" => ((with_reducible rename Mk 33 => hMk9); (first | exact List.Mem.head _ | assumption | exact ES.so (by assumption) | exact ES.sq (by assumption) | exact ES.du (by assumption) | (rename ∀ p ∈ _, p ∈ _ => hK8; exact hK8 _ (by assumption)) | (refine List.mem_cons_of_mem _ ?_; k_extra "MEM"))))
  trivial
theorem edge1 {w : World} {fa L c1 c2 c3 c4 c5 I : Addr} {oI : Obj} {cdv : Value} {h₀ : Heap} {m m0 : Str → Option Value} {news kept : List (Addr × Obj)} {s : Shared} {mg mb : Str → Option Value} {loose : List Str} {mean : ExcName → Option Value} {Q : Flow → Shared → Prop} {E : Value → Shared → Prop} {base : Heap}
    {Dc Dd Ds : Addr} {o1 o2 o3 o4 o5 : Obj} {vc vd vq : List Value} {l f i j N9 ke : Int} {t1 t2 t3 t4 tN te : Tok} {k : Nat}
    (B : Below (callerA) base [] h₀) (F : Fr h₀ L s.heap m) (X : (K1 w.params).In h₀) (N : News h₀ L s.heap ((I, oI) :: news)) (T : Top V1 loose mean mg mb h₀)
    (hoI : IterLike oI) (me : m (Str.ofString "edge") = some (.int ke te)) (hke : ke = (k : Int)) (hk4 : k < 4)
    (mc : m (Str.ofString "corners") = some (.ref Dc)) (ms : m (Str.ofString "size") = some (.int N9 tN)) (md : m (Str.ofString "due") = some (.ref Dd)) (mq : m (Str.ofString "squares") = some (.ref Ds)) (hm : ∀ y, y ≠ Str.ofString "edge" → y ≠ Str.ofString "both" → m y = m0 y)
    (hl0 : 0 ≤ l) (hl1 : l ≤ 28) (hf0 : 0 ≤ f) (hf6 : f < 6) (hi9 : 0 ≤ i ∧ i < N9) (hj9 : 0 ≤ j ∧ j < N9) (hN2 : (2 : Int) ^ l.toNat = N9)
    (E9 : ES c5 o5 Dd vd Ds vq ((dueL f i j N9 l).take k) ((sqL f i j N9).take k) news) (hK9 : ∀ p ∈ kept, p ∈ news)
    (K1 : (c1, o1) ∈ kept) (d1 : o1.data = .cell (some (.int l t1))) (K2 : (c2, o2) ∈ kept) (d2 : o2.data = .cell (some (.int f t2))) (K3 : (c3, o3) ∈ kept) (d3 : o3.data = .cell (some (.int i t3))) (K4 : (c4, o4) ∈ kept) (d4 : o4.data = .cell (some (.int j t4)))
    (KC : (Dc, LCg.lst vc) ∈ kept) (TC : Trips kept vc (crnL f N9 i j)) (k5 : ∀ p ∈ kept, p.1 ≠ c5) (kS : ∀ p ∈ kept, p.1 ≠ Ds) (kD : ∀ p ∈ kept, p.1 ≠ Dd) (nDS : Dd ≠ Ds) :
    wpAny (model PR w) (callerA.deeper (lawE L fa cdv c1 c2 c3 c4 c5)) (execs edgeB (lawE L fa cdv c1 c2 c3 c4 c5)) (TurnPostO h₀ L s (I, oI) kept (JE c5 Dd Ds m0 (dueL f i j N9 l) (sqL f i j N9) (k + 1)) Q) E s := by
  have hMk8 : Mk 33 := ⟨⟩
  have hMk7 : Mk 34 := ⟨⟩
  have e0 := ov2 me (ov2 mc (ov2 ms (ov2 md (ov2 mq rfl))))
  rw [e0] at F
  clear me mc ms md mq
  have hI9 : (I, oI) ∈ (I, oI) :: news := List.mem_cons_self
  replace E9 := E9.up (fun p9 h9 => List.mem_cons_of_mem (I, oI) h9)
  replace hK9 := fun p9 h9 => List.mem_cons_of_mem (I, oI) (hK9 p9 h9)
  generalize (I, oI) :: news = nw at N hI9 E9 hK9
  have nI5 : I ≠ c5 := by
    obtain ⟨v8, hv8⟩ := E9.hd
    obtain ⟨_, vs8, e8⟩ := hoI
    exact ne_data N hI9 E9.so (fun z => by rw [e8, hv8] at z; cases z)
  have nIS : I ≠ Ds := by
    obtain ⟨_, vs8, e8⟩ := hoI
    exact ne_data N hI9 E9.sq (fun z => by rw [e8] at z; cases z)
  have nID : I ≠ Dd := by
    obtain ⟨_, vs8, e8⟩ := hoI
    exact ne_data N hI9 E9.du (fun z => by rw [e8] at z; cases z)
  have hdue := due_at f i j N9 l hk4
  have hsq := sq_at f i j N9 hk4
  have hN0 : 0 < N9 := by rw [← hN2]; exact pw _
  have hN1 : N9 ≤ 268435456 := by
    rw [← hN2, nat_pow_cast]
    exact Int.ofNat_le.mpr (Nat.pow_le_pow_right (i := l.toNat) (j := 28) (by decide) (by omega))
  have hbk := nb_back hf0 hf6 hN0 hi9 hj9 k hk4
  have hbo := both_tch hf0 hf6 hN0 hi9 hj9 k hk4
  obtain ⟨a8, b8, c8, hnb⟩ : ∃ a b c, nbE f i j N9 k = (a, b, c) := ⟨_, _, _, rfl⟩
  rw [hnb] at hdue hsq hbk hbo
  obtain ⟨⟨⟨ha0, ha6⟩, hb9, hc9⟩, -⟩ := hbk
  dsimp only at ha0 ha6 hb9 hc9
  have he2 : (k + 1) % 4 < 4 := Nat.mod_lt _ (by decide)
  have hke2 : (ke + 1).fmod 4 = (((k + 1) % 4 : Nat) : Int) := by
    rw [hke, Int.fmod_eq_emod_of_nonneg _ (by decide)]; omega
  have hcA := crn_cn f N9 i j hk4
  have hcB := crn_cn f N9 i j he2
  generalize (k + 1) % 4 = e2 at *
  have hxA := pxyz_le (b := 2 ^ 40) (s := N9) (u := 2 * cnA i k - N9) (v := 2 * cnB j k - N9) hf0 hf6 (by omega) (by have := cn_bd (e := k) hi9 hj9; omega) (by have := cn_bd (e := k) hi9 hj9; omega)
  have hxB := pxyz_le (b := 2 ^ 40) (s := N9) (u := 2 * cnA i e2 - N9) (v := 2 * cnB j e2 - N9) hf0 hf6 (by omega) (by have := cn_bd (e := e2) hi9 hj9; omega) (by have := cn_bd (e := e2) hi9 hj9; omega)
  unfold pnt at hcA hcB
  generalize px f N9 (2 * cnA i k - N9) (2 * cnB j k - N9) = x1 at *
  generalize py f N9 (2 * cnA i k - N9) (2 * cnB j k - N9) = y1 at *
  generalize pz f N9 (2 * cnA i k - N9) (2 * cnB j k - N9) = z1 at *
  generalize px f N9 (2 * cnA i e2 - N9) (2 * cnB j e2 - N9) = x2 at *
  generalize py f N9 (2 * cnA i e2 - N9) (2 * cnB j e2 - N9) = y2 at *
  generalize pz f N9 (2 * cnA i e2 - N9) (2 * cnB j e2 - N9) = z2 at *
  rw [← hN2] at hb9 hc9
  obtain ⟨⟨hx1, hy1⟩, hz1⟩ := hxA
  obtain ⟨⟨hx2, hy2⟩, hz2⟩ := hxB
  generalize hA9 : tch x1 y1 z1 N9 6 = tA at hbo
  generalize hB9 : tch x2 y2 z2 N9 6 = tB at hbo
  generalize hdl : dueL f i j N9 l = dl at *
  generalize hsl : sqL f i j N9 = sl at *
  generalize hcl : crnL f N9 i j = cl8 at *
  w_top off
  refine' cut_rw ?hb ?_
  case hb => kp_lit
  (k_with "call ref" => ((with_reducible rename Mk 34 => hMk9); (((with_reducible show wpAny _ _ (call (Value.ref 649) _) _ _ _); k_here; k_dflt (refine' touchC ?k1 ?k2 ?k3 ?k4 ?k5 ?kK ?s0 ?s1 ?s2 ?s3 ?s4 ?s5 ?kd ?ku ?_; (case k1 => k_asm); (case k2 => k_asm); (case k3 => k_asm); (case k4 => k_asm); (case k5 => k_asm); (case kK => first | exact rfl | assumption); (case s0 => k_mem); (case s1 => k_extra "OM"); (case s2 => k_extra "OM"); (case s3 => k_extra "OM"); (case s4 => k_extra "OM"); (case s5 => k_extra "OM"); (case kd => k_extra "ROOM"); (case ku => k_extra "UNITS"); k_whole; intro D9 vs9 nw9 h9 tk9 F9 N9 hD9 hT9 hsub9; (replace hK9 := fun p9 h9 => hsub9 p9 ((fun h9 => (by (repeat (first | exact h9 | apply List.mem_cons_of_mem)))) (hK9 p9 h9))); (replace hI9 := hsub9 _ ((fun h9 => (by (repeat (first | exact h9 | apply List.mem_cons_of_mem)))) hI9)); (replace E9 := E9.up (fun p9 h9 => hsub9 p9 (by (repeat (first | exact h9 | apply List.mem_cons_of_mem))))); (try (replace hTs := hTs.up (fun p9 h9 => hsub9 p9 (by (repeat (first | exact h9 | apply List.mem_cons_of_mem)))))); (try (replace hDs := hsub9 _ ((fun h9 => (by (repeat (first | exact h9 | apply List.mem_cons_of_mem)))) hDs))); (try dsimp only); (try k_fold))))))
  (k_with "subscriptTail" => ((with_reducible rename Mk 34 => hMk9); ((k_here; (with_reducible show wpAny _ _ (subscriptTail (Expr.Name (PySem.Str.ofString "corners") _) _ (Value.ref _) (Value.int _ _)) _ _ _); (rename News _ _ _ _ => kN9); k_dflt (refine trip_item kN9 (by k_mem) (TC.up (fun p9 h9 => (by (refine (fun h8 => ?_) (hK9 p9 h9); repeat (first | exact h8 | apply List.mem_cons_of_mem))))) (by assumption) (by assumption) (by assumption) ?_); intro r9 u1 u2 u3 hr9; (try dsimp only at hr9); (try dsimp only)))))
  (k_with "storeName" => ((with_reducible rename Mk 34 => hMk9); ((k_here; (with_reducible show wpAny _ _ (storeName _ (PySem.Str.ofString "some") (Value.ref _)) _ _ _); (rename Fr _ _ _ _ => kF9); (rename News _ _ _ _ => kN9); (obtain ⟨v8, hv8⟩ := E9.hd); k_dflt (refine store_cell kF9 kN9 (by exact rfl) E9.so hv8 ?_); intro h9 o9 nw8 F9 N9 hm9 hd9 hup9; (have hTs := hT9.store kN9 E9.so hv8 hup9); (have hDs := hup9 _ hD9 (ne_data kN9 hD9 E9.so (cell_seq hv8 rfl))); (rw [hA9] at hTs); clear hT9 hD9; (replace hI9 := hup9 _ hI9 nI5); (replace hK9 := fun p9 h9 => hup9 p9 (hK9 p9 h9) (k5 p9 h9)); (replace E9 := E9.store kN9 hm9 hd9 hup9); clear hup9 hm9 kN9 kF9; (try dsimp only)))))
  (k_with "exec Assign cons ListComp" => ((with_reducible rename Mk 34 => hMk9); ((k_here; k_dflt (refine LCt.Assign_ListComp_T (F₀ := by k_asm) (by rfl) (by with_unfolding_all rfl) (by with_unfolding_all rfl) (by decide) (by rfl) (by decide) (by rfl) (by rfl) (by rfl) ?_)))))
  (k_with "CompSrcT" => ((with_reducible rename Mk 34 => hMk9); ((k_here; (rw [hB9] at hT9); k_dflt (refine LCt.CompSrcT.ledger (by rfl) (by k_asm) (by k_asm) (by k_mem) (by exact size_of (Trips.length hT9) (hB9 ▸ tch_len _ _ _ _ 6) (Nat.le_of_ble_eq_true rfl)) ?_); intro g9; refine crestT_trips (fun t => decide (t ∈ tA) && decide (t ≠ (f, i, j))) hT9 (fun t9 r9 a1 a2 a3 I9 oI9 C9 oC9 D8 m9 ys9 h9 tk9 E8 ht9 hr9 hC9 hx9 F9 N9 off9 ne9 => ?_) (fun ys9 hy9 => ?_); (rotate_left; rotate_right)))))
  (k_with "FinA" => ((with_reducible rename Mk 34 => hMk9); (((unfold LCg.FinA); intro D8 h8 tk8 F8 N8 o8; (try simp only [List.nil_append, List.cons_append] at N8); (have hy8 := hbo ▸ (show Trips _ ys9 (bothL tA tB (f, i, j)) from hy9)); (obtain ⟨rb9, b1, b2, b3, rfl, hrb9⟩ := trips_one hy8); (try dsimp only at hrb9); clear hy8 hy9; (try dsimp only)))))
  (k_with "compareOp In ref ref" => ((with_reducible rename Mk 34 => hMk9); ((k_here; (rename News _ _ _ _ => kN9); k_dflt (refine in_trips kN9 (by k_mem) (hTs.up (fun p9 h9 => (by (repeat (first | exact h9 | apply List.mem_cons_of_mem))))) (by k_mem) (by ktr_units) ?_); (obtain ⟨g8, hg8⟩ : ∃ b, decide (t9 ∈ tA) = b := ⟨_, rfl⟩); (rw [hg8]); cases g8 <;> (try dsimp only)))))
  (k_with "compareOp NotEq ref ref" => ((with_reducible rename Mk 34 => hMk9); ((k_here; (rename News _ _ _ _ => kN9); k_dflt (refine ne_trips (t := t9) (u := (f, i, j)) kN9 (by k_mem) (by k_mem) (by ktr_units) ?_); (obtain ⟨g7, hg7⟩ : ∃ b, decide (t9 = (f, i, j)) = b := ⟨_, rfl⟩); (rw [hg7]); cases g7 <;> (try dsimp only)))))
  (k_with "CompEnd" => ((with_reducible rename Mk 34 => hMk9); ((k_dflt (first | (refine compEnd_same (news' := nw9) (by k_asm) (drop_to (by k_asm) (by k_extra "SUB")) (by assumption) (Or.inr ⟨_, by k_mem, rfl, _, rfl⟩) ⟨⟨by first | (simp only [hg8, Bool.false_and]; done) | (simp only [ne_eq, decide_not, hg8, hg7, Bool.not_true, Bool.not_false, Bool.and_self, Bool.and_false]; done), rfl⟩, rfl⟩) | (refine compEnd_same (news' := nw9) (by k_asm) (drop_to (by k_asm) (by k_extra "SUB")) (by assumption) (Or.inr ⟨_, by k_mem, rfl, _, rfl⟩) ⟨by first | (simp only [hg8, Bool.false_and]; done) | (simp only [ne_eq, decide_not, hg8, hg7, Bool.not_true, Bool.not_false, Bool.and_self, Bool.and_false]; done), rfl⟩))))))
  (k_with "call builtin:list.append" => ((with_reducible rename Mk 34 => hMk9); ((k_here; (with_reducible show wpAny _ _ (call (Value.builtin "list.append") [Value.ref _, Value.ref _]) _ _ _); (rename Fr _ _ _ _ => kF9); (rename News _ _ _ _ => kN9); k_dflt (refine app_step kF9 kN9 (by k_mem) (by rw [Trips.length E9.st]; exact take4 hk4) ?_); intro h9 nw8 F9 N9 hAp hBp hCp; (replace hI9 := hBp _ ((fun h9 => (by (repeat (first | exact h9 | apply List.mem_cons_of_mem)))) hI9) nIS); (replace hK9 := fun p9 h9 => hBp p9 ((fun h9 => (by (repeat (first | exact h9 | apply List.mem_cons_of_mem)))) (hK9 p9 h9)) (kS p9 h9)); (have hDb := hBp _ (List.mem_cons_self ..) (Ne.symm (off1_mem o8 _ E9.sq))); (have hr8 := hrb9); (replace hrb9 := tup_in hCp hBp (List.mem_cons_of_mem _ hrb9) rfl); (replace E9 := (E9.up (fun p9 h9 => List.mem_cons_of_mem _ h9)).appS (t := (a8, b8, c8)) kN9 hAp hBp hCp (List.mem_cons_of_mem _ hr8) nDS); clear hr8 hBp hCp hAp kN9 kF9 o8; (try dsimp only)))))
  (k_with "call builtin:list.append" => ((with_reducible rename Mk 34 => hMk9); ((k_here; (with_reducible show wpAny _ _ (call (Value.builtin "list.append") [Value.ref _, Value.int _ _]) _ _ _); (rename Fr _ _ _ _ => kF9); (rename News _ _ _ _ => kN9); k_dflt (refine app_step kF9 kN9 (by k_mem) (by exact ints4 E9.di (take4 hk4)) ?_); intro h9 nw8 F9 N9 hAp hBp hCp; (replace hI9 := hBp _ ((fun h9 => (by (repeat (first | exact h9 | apply List.mem_cons_of_mem)))) hI9) nID); (replace hK9 := fun p9 h9 => hBp p9 ((fun h9 => (by (repeat (first | exact h9 | apply List.mem_cons_of_mem)))) (hK9 p9 h9)) (kD p9 h9)); (replace E9 := (E9.up (fun p9 h9 => (by (repeat (first | exact h9 | apply List.mem_cons_of_mem))))).appD kN9 hAp hBp hCp nDS); clear hBp hCp hAp kN9 kF9; (try dsimp only)))))
  (k_with "subscriptTail" => ((with_reducible rename Mk 34 => hMk9); ((k_here; (with_reducible show wpAny _ _ (subscriptTail (Expr.Name (PySem.Str.ofString "both") _) _ (Value.ref _) (Value.int _ _)) _ _ _); (rename News _ _ _ _ => kN9); k_dflt (refine item_at (vs := #[Value.ref rb9]) (v := Value.ref rb9) ⟨_, (kN9 (D8, LCg.lst [Value.ref rb9]) (by k_mem)).1, rfl, _, rfl⟩ (by decide) (by decide) (by exact rfl) ?_); (try dsimp only)))))
  (k_with "TurnPostO" => ((with_reducible rename Mk 34 => hMk9); ((refine turnO_end (by k_asm) (by k_asm) hI9 hK9 (JE.next E9 hdue hsq (fun y9 g8 g9 => ?_)); have e9 := (congrFun e0 y9).symm; simp only [if_neg g8, if_neg g9] at e9 ⊢; exact e9.trans (hm _ g8 g9)))))
  k_steps
  all_goals fail "an end"
/-- cells of level l at given positions, one for each value -/
def Cls (w : World) (l : Int) (nw : List (Addr × Obj)) : List Value → List Int → Prop
  | [], [] => True
  | v :: vs, p :: ps => (∃ y e t tk, v = .ref y ∧ (y, cellI e) ∈ nw ∧ (e, cellD w (cid p l) t tk) ∈ nw) ∧ Cls w l nw vs ps
  | _, _ => False
section
variable {w : World} {h₀ : Heap} {L : Addr} {m : Str → Option Value} {env : Env} {elt : Expr} {x : Str} {scope : Scope} {cl : List (Str × Addr)} {s : Shared} {S : List (Addr × Obj) → Prop} {Fin : List Value → List (Addr × Obj) → Prop} {news : List (Addr × Obj)} {A : Around}
theorem Cls.length {l : Int} {nw : List (Addr × Obj)} : ∀ {vs : List Value} {ps : List Int}, Cls w l nw vs ps → vs.length = ps.length
  | [], [], _ => rfl
  | _ :: _, _ :: _, h => congrArg (· + 1) (Cls.length h.2)
theorem Cls.mono {l : Int} {nw nw' : List (Addr × Obj)} (h : ∀ p ∈ nw, p ∈ nw') : ∀ {vs : List Value} {ps : List Int}, Cls w l nw vs ps → Cls w l nw' vs ps
  | [], [], _ => trivial
  | _ :: _, _ :: _, ⟨⟨y, e, t, tk, a, b, c⟩, r⟩ => ⟨⟨y, e, t, tk, a, h _ b, h _ c⟩, Cls.mono h r⟩
theorem Cls.get {l : Int} {nw : List (Addr × Obj)} : ∀ {vs : List Value} {ps : List Int} (_ : Cls w l nw vs ps) (k : Nat) (p : Int), ps[k]? = some p → ∃ y e t tk, vs[k]? = some (.ref y) ∧ (y, cellI e) ∈ nw ∧ (e, cellD w (cid p l) t tk) ∈ nw
  | v :: vs, u :: ps, ⟨⟨y, e, t, tk, a, b, c⟩, r⟩, k, p, h => by
    cases k with
    | zero =>
      cases Option.some.inj h
      exact ⟨y, e, t, tk, congrArg some a, b, c⟩
    | succ k => exact r.get k p h
  | [], [], _, k, p, h => by simp at h
  | [], _ :: _, x, _, _, _ => x.elim
  | _ :: _, [], x, _, _, _ => x.elim
theorem crest_cls {prog : Program} {l : Int} {vs : List Value} {ps : List Int} (hC : Cls w l news vs ps)
    (turn : ∀ (p : Int) (y e : Addr) (t1 t2 : Tok) I oI C oC D m₂ ys h tk (E' : Value → Shared → Prop), p ∈ ps → (y, cellI e) ∈ news → (e, cellD w (cid p l) t1 t2) ∈ news → LCg.NsObj oC m₂ → m₂ x = some (.ref y) → Fr h₀ L h m → News h₀ L h ((I, oI) :: (C, oC) :: (D, LCg.lst ys) :: news) → LCg.Off3 I C D news → ((@Ne Nat I C) ∧ (@Ne Nat I D) ∧ (@Ne Nat C D)) →
      wpAny (model prog w) A (eval elt (compEnvC scope cl C env)) (LCg.CompEnd h₀ L m { s with heap := h, toks := tk } I oI C oC D (LCg.lst ys) S (fun y news' => KCfEl news (cid p l) y news')) E' { s with heap := h, toks := tk })
    (fin : ∀ ys, IntsAre ys (ps.map (cid · l)) → Fin ys news) : LCg.CompRest prog w A h₀ L m env elt x scope cl s S (fun i v => vs.toArray[i]? = some v) Fin vs.toArray.size 0 [] news := by
  refine crest (gs := ps.map (cid · l)) (by rw [List.length_map]; exact (Cls.length hC).symm) (fun i v r I oI C oC D m₂ ys h tk E' hv hr hC' hx F N off ne => ?_) fin
  rw [List.getElem?_map, Option.map_eq_some_iff] at hr
  obtain ⟨p, hp, rfl⟩ := hr
  obtain ⟨y, e, t1, t2, ha, h1, h2⟩ := hC.get i p hp
  rw [hv] at ha
  rw [Option.some.inj ha] at hx
  exact turn p y e t1 t2 I oI C oC D m₂ ys h tk E' (List.mem_of_getElem? hp) h1 h2 hC' hx F N off ne
end
section
variable {w : World} {h₀ : Heap} {L : Addr} {s : Shared} {A : Around} {E : Value → Shared → Prop} {prog : Program} {nw : List (Addr × Obj)}
theorem ne_same {a b : Addr} {ys us : List Value} {ns ms : List Int} {e e' : Nat} {Q : Value → Shared → Prop} (N : News h₀ L s.heap nw) (hm : (a, seqObj "list" ys.toArray e) ∈ nw) (hm' : (b, seqObj "list" us.toArray e') ∈ nw) (hi : IntsAre ys ns) (hi' : IntsAre us ms) (he : ns = ms)
    (hu : A.units + 64 < cLine) (h : Q (.bool false) s) : wpAny (model prog w) A (compareOp .NotEq (.ref a) (.ref b)) Q E s := by
  refine ke_ne_ints ⟨_, (N _ hm).1, rfl, _, rfl⟩ ⟨_, (N _ hm').1, rfl, _, rfl⟩ hi hi' hu ?_
  subst he
  simpa using h
end
theorem store_val {M : Model} {A : Around} {E : Value → Shared → Prop} {Q : Unit → Shared → Prop} {s : Shared} {env : Env} {x : Str} {e e' : Int} {t : Tok} (he : e = e') (h : wpAny M A (storeName env x (.int e' t)) Q E s) : wpAny M A (storeName env x (.int e t)) Q E s := he ▸ h
/-- the cell that was asked before, if any: one of the neighbours of the cell that is asked -/
def BefOK (w : World) (l f i j N : Int) (bv : Value) (nw : List (Addr × Obj)) : Prop :=
  bv = .none ∨ ∃ y e t tk k, bv = .ref y ∧ ((y, cellI e) ∈ nw ∧ (e, cellD w (cid (fplT (nbE f i j N k) l.toNat) l) t tk) ∈ nw) ∧ k < 4
structure KC1 (w : World) (c1 c2 c3 c4 x d : Addr) (o1 o2 o3 o4 : Obj) (l f i j N : Int) (bv : Value) (t1 t2 t3 t4 t tk : Tok) (nw : List (Addr × Obj)) : Prop where
  m1 : (c1, o1) ∈ nw
  m2 : (c2, o2) ∈ nw
  m3 : (c3, o3) ∈ nw
  m4 : (c4, o4) ∈ nw
  mx : (x, cellI d) ∈ nw
  md : (d, cellD w (cid (fpl f i j l.toNat) l) t tk) ∈ nw
  bf : BefOK w l f i j N bv nw
theorem BefOK.mono {w : World} {l f i j N : Int} {bv : Value} {nw nw' : List (Addr × Obj)} (B : BefOK w l f i j N bv nw) (h : ∀ p ∈ nw, (∀ v, p.2.data = .cell v → False) → ¬ IterLike p.2 → p ∈ nw') : BefOK w l f i j N bv nw' := by
  rcases B with B | ⟨y, e, t, tk, k, e1, ⟨a, b⟩, hk⟩
  · exact .inl B
  · exact .inr ⟨y, e, t, tk, k, e1, ⟨h _ a (fun _ z => by cases z) (fun ⟨z, _⟩ => by cases z), h _ b (fun _ z => by cases z) (fun ⟨_, _, z⟩ => by cases z)⟩, hk⟩
def J1 (w : World) (lp c1 c2 c3 c4 c5 : Addr) (l N : Int) (m : Str → Option Value) (nw : List (Addr × Obj)) : Prop :=
  ∃ (f i j : Int) (x d : Addr) (bv : Value) (o1 o2 o3 o4 o5 : Obj) (v5 : Option Value) (t1 t2 t3 t4 tN t tk : Tok),
    (m (Str.ofString "script") = some (.ref lp) ∧ m (Str.ofString "size") = some (.int N tN) ∧ m (Str.ofString "cell") = some (.ref x) ∧ m (Str.ofString "before") = some bv) ∧
    ((0 ≤ f ∧ f < 6) ∧ (0 ≤ i ∧ i < N) ∧ 0 ≤ j ∧ j < N) ∧
    (o1.data = .cell (some (.int l t1)) ∧ o2.data = .cell (some (.int f t2)) ∧ o3.data = .cell (some (.int i t3)) ∧ o4.data = .cell (some (.int j t4)) ∧ o5.data = .cell v5) ∧
    (c5, o5) ∈ nw ∧ KC1 w c1 c2 c3 c4 x d o1 o2 o3 o4 l f i j N bv t1 t2 t3 t4 t tk nw
theorem cell_iter {o : Obj} {v : Option Value} (h : o.data = .cell v) : ¬ IterLike o := fun ⟨_, _, e⟩ => by rw [h] at e; cases e
theorem J1.mono {w : World} {lp c1 c2 c3 c4 c5 : Addr} {l N : Int} : MonoD (J1 w lp c1 c2 c3 c4 c5 l N) := by
  rintro m nw nw' ⟨f, i, j, x, d, bv, o1, o2, o3, o4, o5, v5, t1, t2, t3, t4, tN, t, tk, hn, hb, ⟨d1, d2, d3, d4, d5⟩, m5, K⟩ h
  exact ⟨f, i, j, x, d, bv, o1, o2, o3, o4, o5, v5, t1, t2, t3, t4, tN, t, tk, hn, hb, ⟨d1, d2, d3, d4, d5⟩, h _ m5 (cell_iter d5), h _ K.m1 (cell_iter d1), h _ K.m2 (cell_iter d2), h _ K.m3 (cell_iter d3), h _ K.m4 (cell_iter d4), h _ K.mx (fun ⟨z, _⟩ => by cases z), h _ K.md (fun ⟨_, _, z⟩ => by cases z), K.bf.mono fun p hp _ hi => h p hp hi⟩
theorem KC1.up {w : World} {c1 c2 c3 c4 x d : Addr} {o1 o2 o3 o4 : Obj} {l f i j N : Int} {bv : Value} {t1 t2 t3 t4 t tk : Tok} {nw nw' : List (Addr × Obj)} (K : KC1 w c1 c2 c3 c4 x d o1 o2 o3 o4 l f i j N bv t1 t2 t3 t4 t tk nw) (h : ∀ p ∈ nw, p ∈ nw') : KC1 w c1 c2 c3 c4 x d o1 o2 o3 o4 l f i j N bv t1 t2 t3 t4 t tk nw' :=
  ⟨h _ K.m1, h _ K.m2, h _ K.m3, h _ K.m4, h _ K.mx, h _ K.md, K.bf.mono fun p hp _ _ => h p hp⟩
theorem KC1.but {w : World} {c1 c2 c3 c4 c5 x d : Addr} {o1 o2 o3 o4 o5 : Obj} {v5 : Option Value} {l f i j N : Int} {bv : Value} {t1 t2 t3 t4 t tk : Tok} {nw nw' : List (Addr × Obj)} {h₀ hh : Heap} {L : Addr} (K : KC1 w c1 c2 c3 c4 x d o1 o2 o3 o4 l f i j N bv t1 t2 t3 t4 t tk nw)
    (Nw : News h₀ L hh nw) (m5 : (c5, o5) ∈ nw) (d5 : o5.data = .cell v5) (n1 : c1 ≠ c5) (n2 : c2 ≠ c5) (n3 : c3 ≠ c5) (n4 : c4 ≠ c5) (h : ∀ p ∈ nw, p.1 ≠ c5 → p ∈ nw') : KC1 w c1 c2 c3 c4 x d o1 o2 o3 o4 l f i j N bv t1 t2 t3 t4 t tk nw' :=
  ⟨h _ K.m1 n1, h _ K.m2 n2, h _ K.m3 n3, h _ K.m4 n4, h _ K.mx (ne_data Nw K.mx m5 (fun z => by rw [d5] at z; cases z)), h _ K.md (ne_data Nw K.md m5 (fun z => by rw [d5] at z; cases z)),
    K.bf.mono fun p hp hc _ => h p hp (ne_dataP Nw hp m5 (fun z => hc _ (z.trans d5)))⟩
theorem loop1 {w : World} {fa L c1 c2 c3 c4 c5 r : Addr} {cdv : Value} {h₀ : Heap} {m : Str → Option Value} {news kept : List (Addr × Obj)} {s : Shared} {mg mb : Str → Option Value} {loose : List Str} {mean : ExcName → Option Value} {Q : Flow → Shared → Prop} {E : Value → Shared → Prop} {base : Heap}
    {Dc Dd Ds : Addr} {o1 o2 o3 o4 o5 : Obj} {vc : List Value} {l f i j N9 : Int} {t1 t2 t3 t4 tN t₀ u₀ v₀ : Tok} (hr : IsRange s.heap r 0 4 1 t₀ u₀ v₀)
    (B : Below (callerA) base [] h₀) (F : Fr h₀ L s.heap m) (X : (K1 w.params).In h₀) (N : News h₀ L s.heap news) (T : Top V1 loose mean mg mb h₀)
    (mc : m (Str.ofString "corners") = some (.ref Dc)) (ms : m (Str.ofString "size") = some (.int N9 tN)) (md : m (Str.ofString "due") = some (.ref Dd)) (mq : m (Str.ofString "squares") = some (.ref Ds))
    (hl0 : 0 ≤ l) (hl1 : l ≤ 28) (hf0 : 0 ≤ f) (hf6 : f < 6) (hi9 : 0 ≤ i ∧ i < N9) (hj9 : 0 ≤ j ∧ j < N9) (hN2 : (2 : Int) ^ l.toNat = N9)
    (E9 : ES c5 o5 Dd [] Ds [] [] [] news) (hK9 : ∀ p ∈ kept, p ∈ news)
    (K1 : (c1, o1) ∈ kept) (d1 : o1.data = .cell (some (.int l t1))) (K2 : (c2, o2) ∈ kept) (d2 : o2.data = .cell (some (.int f t2))) (K3 : (c3, o3) ∈ kept) (d3 : o3.data = .cell (some (.int i t3))) (K4 : (c4, o4) ∈ kept) (d4 : o4.data = .cell (some (.int j t4)))
    (KC : (Dc, LCg.lst vc) ∈ kept) (TC : Trips kept vc (crnL f N9 i j)) (k5 : ∀ p ∈ kept, p.1 ≠ c5) (kS : ∀ p ∈ kept, p.1 ≠ Ds) (kD : ∀ p ∈ kept, p.1 ≠ Dd) (nDS : Dd ≠ Ds)
    (ret : ∀ p q o5' vd vq news' h' tk', ES c5 o5' Dd vd Ds vq (dueL f i j N9 l) (sqL f i j N9) news' → (∀ p ∈ kept, p ∈ news') → Fr h₀ L h' (fun z => if z = Str.ofString "edge" then p else if z = Str.ofString "both" then q else m z) → News h₀ L h' news' → Q .next { s with heap := h', toks := tk' }) :
    wpAny (model PR w) (callerA.deeper (lawE L fa cdv c1 c2 c3 c4 c5)) (pyIter (.ref r)) (fun it s₂ => LoopAtV PR w (callerA.deeper (lawE L fa cdv c1 c2 c3 c4 c5)) h₀ (lawE L fa cdv c1 c2 c3 c4 c5) (Str.ofString "edge") edgeB Q E it s₂) E s := by
  refine loop_rngD (n := 4) kept (JE c5 Dd Ds m (dueL f i j N9 l) (sqL f i j N9)) hK9 rfl hr (by decide) (by decide) F N (fun _ => JE.mono) ⟨fun _ _ _ => rfl, o5, [], [], E9⟩ (fun k t m₁ news₁ h tk I o hk J₁ hk1 ho hI F₁ N₁ => ?_) (fun m₁ news₁ h tk J₁ hk1 F₁ N₁ => ?_)
  · obtain ⟨hm, o5', vd, vq, E1⟩ := J₁
    exact edge1 (s := { s with heap := h, toks := tk }) (m0 := m) B F₁ X N₁ T ho (if_pos rfl) (by omega) hk ((if_neg (by decide)).trans ((hm _ (by decide) (by decide)).trans mc)) ((if_neg (by decide)).trans ((hm _ (by decide) (by decide)).trans ms)) ((if_neg (by decide)).trans ((hm _ (by decide) (by decide)).trans md)) ((if_neg (by decide)).trans ((hm _ (by decide) (by decide)).trans mq))
      (fun y h1 h2 => (if_neg h1).trans (hm y h1 h2)) hl0 hl1 hf0 hf6 hi9 hj9 hN2 E1 hk1 K1 d1 K2 d2 K3 d3 K4 d4 KC TC k5 kS kD nDS
  · obtain ⟨hm, o5', vd, vq, E1⟩ := J₁
    rw [two_off hm] at F₁
    exact ret _ _ _ _ _ _ _ _ E1 hk1 F₁ N₁
theorem words35 : True := by
  (k_with "call ref" => ((with_reducible rename Mk 35 => hMk9); (((with_reducible show wpAny _ _ (call (Value.ref 561) _) _ _ _); k_here; k_dflt (refine mkC (by k_asm) (by k_asm) (by k_asm) (by k_asm) (by k_asm) (by first | exact rfl | assumption) (by first | assumption | exact rfl) (by k_extra "ROOM") (by k_extra "UNITS") ?_; k_whole; intro y9 e9 t9 tk9 h9 tt9 F9 N9 l1 l2; (try dsimp only); (try k_fold))))))
  (k_with "call ref" => ((with_reducible rename Mk 35 => hMk9); (((with_reducible show wpAny _ _ (call (Value.ref 344) _) _ _ _); k_here; k_dflt (refine lsbC (by k_asm) (by k_asm) (by k_asm) (by k_asm) (by k_asm) (by first | exact rfl | assumption) (by k_mem) (by k_mem) (by k_extra "ROOM") (by k_extra "UNITS") ?_; k_whole; intro t9 h9 tk9 F9 N9; (try dsimp only); (try k_fold))))))
  (k_with "call ref" => ((with_reducible rename Mk 35 => hMk9); (((with_reducible show wpAny _ _ (call (Value.ref 337) _) _ _ _); k_here; k_dflt (refine validC (by k_asm) (by k_asm) (by k_asm) (by k_asm) (by k_asm) (by first | exact rfl | assumption) (by k_mem) (by k_mem) (by assumption) (by assumption) (by k_extra "ROOM") (by k_extra "UNITS") ?_; k_whole; intro h9 tk9 F9 N9; (try dsimp only); (try k_fold))))))
  (k_with "call ref" => ((with_reducible rename Mk 35 => hMk9); (((with_reducible show wpAny _ _ (call (Value.ref 337) _) _ _ _); k_here; k_dflt (refine validK (by k_asm) (by k_asm) (by k_asm) (by k_asm) (by k_asm) (by first | exact rfl | assumption) (by k_mem) (by k_mem) (by k_extra "OM") (by k_extra "OM") (by first | assumption | omega) (by k_extra "ROOM") (by k_extra "UNITS") ?_; k_whole; intro h9 tk9 F9 N9; (try dsimp only); (try k_fold))))))
  (k_with "eval Call" => ((with_reducible rename Mk 35 => hMk9); ((k_here; (with_reducible show wpAny _ _ (eval (Expr.Call (Expr.Name _ _) _ [] _) _) _ _ _); with_unfolding_all refine Call_ ?_))))
  (k_with "MEM" => ((with_reducible rename Mk 35 => hMk9); (first | exact List.Mem.head _ | assumption | exact KC1.m1 (by assumption) | exact KC1.m2 (by assumption) | exact KC1.m3 (by assumption) | exact KC1.m4 (by assumption) | exact KC1.mx (by assumption) | exact KC1.md (by assumption) | exact ES.so (by assumption) | exact ES.sq (by assumption) | exact ES.du (by assumption) | (refine List.mem_cons_of_mem _ ?_; k_extra "MEM"))))
  trivial
theorem allLt_mem {d : Addr} : ∀ {l : List (Addr × Obj)}, AllLt d l → ∀ p ∈ l, p.1 < d
  | [], _, _, h => nomatch h
  | _ :: _, x, p, h => by
    rcases List.mem_cons.mp h with rfl | h
    · exact x.1
    · exact allLt_mem x.2 p h
theorem edge_pack {w : World} {h₀ h : Heap} {L T9 y0 e0 y1 e1 y2 e2 y3 e3 : Addr} {N0 N1 N2 N3 l : Int} {u0 v0 u1 v1 u2 v2 u3 v3 : Tok} {nw : List (Addr × Obj)} (N : News h₀ L h ((T9, { cls := .type "tuple", data := .seq #[.ref y0, .ref y1, .ref y2, .ref y3] }) :: (y0, cellI e0) :: (e0, cellD w (cid N0 l) u0 v0) :: (y1, cellI e1) :: (e1, cellD w (cid N1 l) u1 v1) :: (y2, cellI e2) :: (e2, cellD w (cid N2 l) u2 v2) :: (y3, cellI e3) :: (e3, cellD w (cid N3 l) u3 v3) :: nw)) :
    ∃ nw8, News h₀ L h nw8 ∧ (T9, ({ cls := .type "tuple", data := .seq ([.ref y0, .ref y1, .ref y2, .ref y3] : List Value).toArray } : Obj)) ∈ nw8 ∧ Cls w l nw8 [.ref y0, .ref y1, .ref y2, .ref y3] [N0, N1, N2, N3] ∧ ∀ p ∈ nw, p ∈ nw8 := by
  refine ⟨_, N, List.mem_cons_self .., ⟨⟨y0, e0, u0, v0, rfl, ?_, ?_⟩, ⟨y1, e1, u1, v1, rfl, ?_, ?_⟩, ⟨y2, e2, u2, v2, rfl, ?_, ?_⟩, ⟨y3, e3, u3, v3, rfl, ?_, ?_⟩, trivial⟩, fun p h9 => ?_⟩
  all_goals (repeat (first | exact List.mem_cons_self .. | exact h9 | apply List.mem_cons_of_mem))
theorem up_of {h₀ h : Heap} {L : Addr} {nw nw' : List (Addr × Obj)} {p : Addr × Obj} (_N : News h₀ L h nw') (_hp : p ∈ nw) (h9 : p ∈ nw') : p ∈ nw' := h9
theorem ne_cell {h₀ h : Heap} {L a c : Addr} {o oc : Obj} {v : Option Value} {nw : List (Addr × Obj)} (N : News h₀ L h nw) (ha : (a, o) ∈ nw) (hm : (c, oc) ∈ nw) (hd : oc.data = .cell v) (hn : ∀ v, o.data = .cell v → False) : a ≠ c := ne_data N ha hm (fun z => hn v (z.trans hd))
theorem turn_end {w : World} {h₀ h' : Heap} {L lp c1 c2 c3 c4 c5 I x d y e : Addr} {oI o1 o2 o3 o4 o5 : Obj} {s : Shared} {Q : Flow → Shared → Prop} {tk' : Nat} {m' : Str → Option Value} {nw : List (Addr × Obj)} {l f i j a b c N : Int} {v5 : Option Value} {t1 t2 t3 t4 tN t tk tq tkq : Tok} {k e' : Nat}
    (F : Fr h₀ L h' m') (Nw : News h₀ L h' nw) (BI : (I, oI) ∈ nw) (e1 : m' (Str.ofString "script") = some (.ref lp)) (e2 : m' (Str.ofString "size") = some (.int N tN)) (e3 : m' (Str.ofString "cell") = some (.ref y)) (e4 : m' (Str.ofString "before") = some (.ref x))
    (ha : 0 ≤ a ∧ a < 6) (hb : 0 ≤ b ∧ b < N) (hc : 0 ≤ c ∧ c < N) (d1 : o1.data = .cell (some (.int l t1))) (d2 : o2.data = .cell (some (.int a t2))) (d3 : o3.data = .cell (some (.int b t3))) (d4 : o4.data = .cell (some (.int c t4))) (d5 : o5.data = .cell v5)
    (B5 : (c5, o5) ∈ nw) (B1 : (c1, o1) ∈ nw) (B2 : (c2, o2) ∈ nw) (B3 : (c3, o3) ∈ nw) (B4 : (c4, o4) ∈ nw) (By : (y, cellI e) ∈ nw) (Be : (e, cellD w (cid (fplT (nbE f i j N k) l.toNat) l) tq tkq) ∈ nw) (hnb : nbE f i j N k = (a, b, c))
    (Bx : (x, cellI d) ∈ nw) (Bd : (d, cellD w (cid (fpl f i j l.toNat) l) t tk) ∈ nw) (he4 : e' < 4) (hee : nbE a b c N e' = (f, i, j)) :
    TurnPostO h₀ L s (I, oI) [] (J1 w lp c1 c2 c3 c4 c5 l N) Q .next { s with heap := h', toks := tk' } := by
  rw [hnb] at Be
  refine turnO_end F Nw BI (fun _ h9 => absurd h9 List.not_mem_nil) ⟨a, b, c, y, e, .ref x, o1, o2, o3, o4, o5, v5, t1, t2, t3, t4, tN, tq, tkq, ⟨e1, e2, e3, e4⟩, ⟨ha, hb, hc⟩, ⟨d1, d2, d3, d4, d5⟩, B5, ⟨B1, B2, B3, B4, By, Be, .inr ⟨x, d, t, tk, e', rfl, ⟨Bx, ?_⟩, he4⟩⟩⟩
  rw [hee]
  exact Bd
theorem Cls.at {w : World} {l : Int} {nw : List (Addr × Obj)} {vs : List Value} {ps : List Int} (C : Cls w l nw vs ps) {i : Nat} {v : Value} (h : vs[i]? = some v) : ∃ p y e t tk, p ∈ ps ∧ v = .ref y ∧ (y, cellI e) ∈ nw ∧ (e, cellD w (cid p l) t tk) ∈ nw := by
  have hi : i < ps.length := by
    rw [← C.length]
    exact (List.getElem?_eq_some_iff.mp h).1
  obtain ⟨y, e, t, tk, a, b, c⟩ := C.get i ps[i] (List.getElem?_eq_getElem hi)
  rw [h] at a
  exact ⟨_, y, e, t, tk, List.getElem_mem hi, Option.some.inj a, b, c⟩
theorem mem_due (f i j N l : Int) {k : Nat} (h : k < 4) : cid (fplT (nbE f i j N k) l.toNat) l ∈ dueL f i j N l := List.mem_of_getElem? (due_at f i j N l h)
theorem ps_at (f i j N l : Int) {k : Nat} (h : k < 4) : [fplT (nbE f i j N 0) l.toNat, fplT (nbE f i j N 1) l.toNat, fplT (nbE f i j N 2) l.toNat, fplT (nbE f i j N 3) l.toNat][k]? = some (fplT (nbE f i j N k) l.toNat) := by
  rcases four_k h with rfl | rfl | rfl | rfl <;> rfl
theorem ps_rng {f i j N l : Int} (h0 : 0 ≤ f) (h6 : f < 6) (hN : 0 < N) (hi : 0 ≤ i ∧ i < N) (hj : 0 ≤ j ∧ j < N) (hl : 0 ≤ l) : ∀ p ∈ [fplT (nbE f i j N 0) l.toNat, fplT (nbE f i j N 1) l.toNat, fplT (nbE f i j N 2) l.toNat, fplT (nbE f i j N 3) l.toNat], 0 ≤ p ∧ p < 6 * 2 ^ (2 * l).toNat := by
  have h : ∀ k < 4, 0 ≤ fplT (nbE f i j N k) l.toNat ∧ fplT (nbE f i j N k) l.toNat < 6 * 2 ^ (2 * l).toNat := fun k hk => by
    have b := (nb_back h0 h6 hN hi hj k hk).1.1
    exact fpl_rng b.1 b.2 hl
  intro p hp
  simp only [List.mem_cons, List.not_mem_nil, or_false] at hp
  rcases hp with rfl | rfl | rfl | rfl
  · exact h 0 (by decide)
  · exact h 1 (by decide)
  · exact h 2 (by decide)
  · exact h 3 (by decide)
theorem turn1 {w : World} {fa L c1 c2 c3 c4 c5 I : Addr} {oI : Obj} {cdv : Value} {h₀ : Heap} {m : Str → Option Value} {news : List (Addr × Obj)} {s : Shared} {mg mb : Str → Option Value} {loose : List Str} {mean : ExcName → Option Value} {Q : Flow → Shared → Prop} {E : Value → Shared → Prop} {base : Heap}
    {lp : Addr} {vs : List Value} {ns : List Int} {l N9 : Int} {vt : Value}
    (B : Below (callerA) base [] h₀) (F : Fr h₀ L s.heap m) (X : (K1 w.params).In h₀) (N : News h₀ L s.heap ((I, oI) :: news)) (T : Top V1 loose mean mg mb h₀)
    (hl : base.IsList lp vs.toArray) (hi : IntsAre vs ns) (hn : ns.length ≤ 63) (hoI : IterLike oI)
    (hl0 : 0 ≤ l) (hl1 : l ≤ 28) (hN2 : (2 : Int) ^ l.toNat = N9) (m9 : m (Str.ofString "turn") = some vt)
    (n12 : c1 ≠ c2) (n13 : c1 ≠ c3) (n14 : c1 ≠ c4) (n15 : c1 ≠ c5) (n21 : c2 ≠ c1) (n23 : c2 ≠ c3) (n24 : c2 ≠ c4) (n25 : c2 ≠ c5) (n31 : c3 ≠ c1) (n32 : c3 ≠ c2) (n34 : c3 ≠ c4) (n35 : c3 ≠ c5) (n41 : c4 ≠ c1) (n42 : c4 ≠ c2) (n43 : c4 ≠ c3) (n45 : c4 ≠ c5) (n51 : c5 ≠ c1) (n52 : c5 ≠ c2) (n53 : c5 ≠ c3) (n54 : c5 ≠ c4) (J : J1 w lp c1 c2 c3 c4 c5 l N9 m news)
    (hE : PassesOwn (model PR w) (callerA.deeper (lawE L fa cdv c1 c2 c3 c4 c5)) (lawE L fa cdv c1 c2 c3 c4 c5) E) :
    wpAny (model PR w) (callerA.deeper (lawE L fa cdv c1 c2 c3 c4 c5)) (execs turnB (lawE L fa cdv c1 c2 c3 c4 c5)) (TurnPostO h₀ L s (I, oI) [] (J1 w lp c1 c2 c3 c4 c5 l N9) Q) E s := by
  have hMk8 : Mk 35 := ⟨⟩
  have hMk7 : Mk 36 := ⟨⟩
  obtain ⟨f, i, j, x, d, bv, o1, o2, o3, o4, o5, v5, t1, t2, t3, t4, tN, t, tk, ⟨ms, mN, mx, mb⟩, ⟨⟨hf0, hf6⟩, hi9, hj9⟩, ⟨d1, d2, d3, d4, d5⟩, m5, KK⟩ := J
  have e0 := ov2 m9 (ov2 ms (ov2 mN (ov2 mx (ov2 mb rfl))))
  rw [e0] at F
  clear e0 m9 ms mN mx mb
  have hI9 : (I, oI) ∈ (I, oI) :: news := List.mem_cons_self
  replace KK := KK.up (fun p9 h9 => List.mem_cons_of_mem (I, oI) h9)
  replace m5 := List.mem_cons_of_mem (I, oI) m5
  generalize (I, oI) :: news = nw at N hI9 KK m5
  have nI5 : I ≠ c5 := ne_data N hI9 m5 (fun z => by obtain ⟨_, vs8, e8⟩ := hoI; rw [e8, d5] at z; cases z)
  have hN0 : 0 < N9 := by rw [← hN2]; exact pw _
  have hN1 : N9 ≤ 268435456 := by
    rw [← hN2, nat_pow_cast]
    exact Int.ofNat_le.mpr (Nat.pow_le_pow_right (i := l.toNat) (j := 28) (by decide) (by omega))
  have hi8 : 0 ≤ i ∧ i < 268435456 := ⟨hi9.1, Int.lt_of_lt_of_le hi9.2 hN1⟩
  have hj8 : 0 ≤ j ∧ j < 268435456 := ⟨hj9.1, Int.lt_of_lt_of_le hj9.2 hN1⟩
  have hS8 : 0 ≤ N9 ∧ N9 ≤ 268435456 := ⟨Int.le_of_lt hN0, hN1⟩
  obtain ⟨hp0, hp1⟩ := fpl_rng (i := i) (j := j) hf0 hf6 hl0
  obtain ⟨I8, J8, S8, hS, ⟨hq1, hq2, hq3⟩, ⟨⟨hI0, hI1⟩, hJ0, hJ1⟩, ⟨hE0, hE1⟩, hE2, hE3⟩ := edge_ok hf0 hf6 hl0 hl1 hN2 hi9 hj9
  obtain ⟨q9, hq9⟩ : ∃ q, (num ns 4).fmod 4 = q := ⟨_, rfl⟩
  have hqb := fm_of hq9.symm (show (0 : Int) < 4 by decide)
  obtain ⟨kq, hkq⟩ := Int.eq_ofNat_of_zero_le hqb.1
  have hk4 : kq < 4 := by omega
  have hps := ps_rng hf0 hf6 hN0 hi9 hj9 hl0
  obtain ⟨a8, b8, c8, hnb⟩ : ∃ a b c, nbE f i j N9 kq = (a, b, c) := ⟨_, _, _, rfl⟩
  have hbk := nb_back hf0 hf6 hN0 hi9 hj9 kq hk4
  rw [hnb] at hbk
  obtain ⟨⟨⟨ha0, ha6⟩, hb9, hc9⟩, e9, he4, hee⟩ := hbk
  dsimp only at ha0 ha6 hb9 hc9 hee
  have hM9 : Mark9 := trivial
  w_top off
  refine' cut_rw ?hb ?_
  case hb => kp_lit
  (k_with "call ref" => ((with_reducible rename Mk 36 => hMk9); (((with_reducible show wpAny _ _ (call (Value.ref 642) _) _ _ _); k_here; k_dflt (refine cornersC (by k_asm) (by k_asm) (by k_asm) (by k_asm) (by k_asm) (by first | exact rfl | assumption) (by k_extra "OM") (by k_extra "OM") (by assumption) (by assumption) (by assumption) (by k_extra "ROOM") (by k_extra "UNITS") ?_; k_whole; intro D9 vs9 nw9 h9 tk9 F9 N9 hD9 hT9 hsub9; (replace KK := KK.up (fun p9 h9 => hsub9 p9 ((fun h9 => (by (repeat (first | exact h9 | apply List.mem_cons_of_mem)))) h9))); (replace hI9 := hsub9 _ ((fun h9 => (by (repeat (first | exact h9 | apply List.mem_cons_of_mem)))) hI9)); (replace m5 := hsub9 _ ((fun h9 => (by (repeat (first | exact h9 | apply List.mem_cons_of_mem)))) m5)); (try dsimp only); (try k_fold))))))
  (k_with "pyIter ref" => ((with_reducible rename Mk 36 => hMk9); ((k_here; (with_reducible show wpAny _ _ (pyIter (Value.ref _)) (fun it s₂ => LoopAtV _ _ _ _ _ _ _ _ _ it s₂) _ _); (rename IsRange _ _ _ _ _ _ _ _ => rg9); (rename Fr _ _ _ _ => kF9); (rename News _ _ _ _ => kN9); (have kN8 : News _ _ _ nw9 := drop_to kN9 (fun p9 h9 => (by (repeat (first | exact h9 | apply List.mem_cons_of_mem))))); (obtain ⟨kept, hk0, k5, hk1⟩ := keep_but c5 nw9); (have KE := KK.but kN8 m5 d5 n15 n25 n35 n45 hk1); (have hIk := hk1 _ hI9 nI5); (have hDk := hk1 _ hD9 (ne_data kN8 hD9 m5 (cell_seq d5 rfl))); (have hTk := hT9.store kN8 m5 d5 hk1); (rename _ < _ ∧ AllLt _ nw9 => hz9); (rename ∀ p ∈ nw9, p.1 < _ => hy9); k_dflt (refine loop1 rg9 (by k_asm) kF9 (by k_asm) kN9 (by k_asm) (by exact rfl) (by exact rfl) (by exact rfl) (by exact rfl) hl0 hl1 hf0 hf6 hi9 hj9 hN2 ⟨by k_mem, ⟨_, d5⟩, by k_mem, .nil, by k_mem, trivial⟩ (fun p9 h9 => (fun h9 => (by (repeat (first | exact h9 | apply List.mem_cons_of_mem)))) (hk0 p9 h9)) KE.m1 d1 KE.m2 d2 KE.m3 d3 KE.m4 d4 hDk hTk k5 (fun p9 h9 => Nat.ne_of_lt (allLt_mem hz9.2 p9 (hk0 p9 h9))) (fun p9 h9 => Nat.ne_of_lt (hy9 p9 (hk0 p9 h9))) (Nat.ne_of_lt hz9.1) ?_); intro p9 q9 o6 vd9 vq9 nw8 h9 tk9 E9 hK9 F9 N9; (replace KK := KE.up hK9); (replace hI9 := hK9 _ hIk); (obtain ⟨v6, d6⟩ := E9.hd); clear hK9 hk0 k5 hk1 KE hIk hDk hTk hz9 hy9 kN8 kN9 hT9 hD9 m5 d5 hsub9; (try dsimp only)))))
  (k_with "exec For Name Call cons nil" => ((with_reducible rename Mk 36 => hMk9); ((k_here; (rename Fr _ _ _ _ => lF9); (with_unfolding_all refine' For_invVF lF9 ?k1 ?k2 ?_ (hE := hE); (case k1 => exact rfl); (case k2 => exact rfl); k_whole)))))
  (k_with "call ref" => ((with_reducible rename Mk 36 => hMk9); (((with_reducible show wpAny _ _ (call (Value.ref 520) _) _ _ _); k_here; k_dflt (refine edgeC (by k_asm) (by k_asm) (by k_asm) (by k_asm) (by k_asm) (by first | exact rfl | assumption) (by k_mem) (by k_mem) (by k_extra "OM") (by k_extra "OM") (by first | with_reducible assumption | omega) (by first | with_reducible assumption | omega) (by with_reducible assumption) (by with_reducible assumption) (by with_reducible assumption) (by with_reducible assumption) (by k_extra "OM") (by k_extra "OM") (by k_extra "OM") (by k_extra "OM") (by k_extra "OM") (by k_extra "OM") (by with_reducible assumption) (by with_reducible assumption) (by with_reducible assumption) (by with_reducible assumption) (by k_extra "ROOM") (by k_extra "UNITS") ?_; k_whole; intro T9 y0 e0 y1 e1 y2 e2 y3 e3 u0 v0 u1 v1 u2 v2 u3 v3 h9 tk9 F9 N9; (obtain ⟨nw7, N7, hT7, hC7, hup7⟩ := edge_pack N9); clear N9; (replace KK := KK.up (fun p9 h9 => hup7 p9 ((fun h9 => (by (repeat (first | exact h9 | apply List.mem_cons_of_mem)))) h9))); (replace E9 := E9.up (fun p9 h9 => hup7 p9 ((fun h9 => (by (repeat (first | exact h9 | apply List.mem_cons_of_mem)))) h9))); (replace hI9 := hup7 _ ((fun h9 => (by (repeat (first | exact h9 | apply List.mem_cons_of_mem)))) hI9)); clear hup7; (obtain ⟨yq, eq, tq, tkq, hxq, hyq, heq⟩ := hC7.get kq _ (ps_at _ _ _ _ _ hk4)); (try dsimp only); (try k_fold))))))
  (k_with "eval ListComp" => ((with_reducible rename Mk 36 => hMk9); ((k_here; (with_reducible show wpAny _ _ (eval (Expr.ListComp _ [⟨_, _, [], _⟩] _ _) _) _ _ _); k_dflt (refine ListComp_tup (_F₀ := by k_asm) (by with_unfolding_all rfl) (by decide) (by rfl) (by decide) (by rfl) ?_)))))
  (k_with "eval ListComp" => ((with_reducible rename Mk 36 => hMk9); ((k_here; (with_reducible show wpAny _ _ (eval (Expr.ListComp _ [⟨_, _, [_], _⟩] _ _) _) _ _ _); k_dflt (refine ListComp_tupT (_F₀ := by k_asm) (by with_unfolding_all rfl) (by decide) (by rfl) (by decide) (by rfl) ?_)))))
  (k_with "TupSrc" => ((with_reducible rename Mk 36 => hMk9); ((k_here; k_dflt (refine TupSrc.ledger (by rfl) (by k_asm) (by k_asm) (by k_mem) (by exact Nat.le_of_ble_eq_true rfl) ?_); intro g9; refine crest_cls (Cls.mono (fun p9 h9 => (by (repeat (first | exact h9 | apply List.mem_cons_of_mem)))) hC7) (fun p9 y9 e9 u1 u2 I9 oI9 C9 oC9 D9 m9 ys9 h9 tk9 E8 hp9 hy9 he9 hC9 hx9 F9 N9 off9 ne9 => ?_) (fun ys9 hy9 => ?_); (rotate_left; rotate_right)))))
  (k_with "TupSrcT" => ((with_reducible rename Mk 36 => hMk9); ((k_here; k_dflt (refine TupSrcT.ledger (by rfl) (by k_asm) (by k_asm) (by k_mem) (by exact Nat.le_of_ble_eq_true rfl) ?_); intro g9; refine crestT_none (vs := [Value.ref y0, Value.ref y1, Value.ref y2, Value.ref y3]) (fun i9 v9 I9 oI9 C9 oC9 D9 m9 ys9 h9 tk9 E8 hv9 hC9 hx9 F9 N9 off9 ne9 => ?_) ?_; (rotate_left; rotate_right); (obtain ⟨p9, y9, e9, u1, u2, hp9, rfl, hy9, he9⟩ := hC7.at hv9); (obtain ⟨hq8, hq9⟩ := hps _ hp9)))))
  (k_with "FinE" => ((with_reducible rename Mk 36 => hMk9); (((unfold LCg.FinE); intro D8 h8 tk8 F8 N8 o8; (try simp only [List.nil_append, List.cons_append] at N8); (try dsimp only)))))
  (k_with "CompEnd" => ((with_reducible rename Mk 36 => hMk9); ((k_dflt (first | (refine compEnd_same (by k_asm) (by k_asm) (by assumption) (Or.inr ⟨_, by k_mem, rfl, _, rfl⟩) ⟨rfl, _, rfl⟩) | (refine compEnd_same (by k_asm) (by k_asm) (by assumption) (Or.inr ⟨_, by k_mem, rfl, _, rfl⟩) rfl))))))
  (k_with "And" => ((with_reducible rename Mk 36 => hMk9); (((with_reducible show (_ : Bool) = _ ∧ LCg.CompEnd _ _ _ _ _ _ _ _ _ _ _ _ _ _); first | (refine ⟨rfl, ?_⟩) | (exfalso; omega)))))
  (k_with "compareOp NotEq ref ref" => ((with_reducible rename Mk 36 => hMk9); ((k_here; (rename News _ _ _ _ => kN9); k_dflt (first | refine ne_same (ys := ys9) (us := vd9) kN9 (by k_mem) (by k_mem) hy9 E9.di (by rfl) (by ktr_units) ?_ | refine ne_same (ys := []) (us := []) kN9 (by k_mem) (by k_mem) .nil .nil rfl (by ktr_units) ?_)))))
  (k_with "compareOp NotIn int ref" => ((with_reducible rename Mk 36 => hMk9); ((k_here; (rename News _ _ _ _ => kN9); k_dflt (refine notin_ints (vs := ys9) kN9 (by k_mem) hy9 (by exact mem_due _ _ _ _ _ hk8) (by ktr_units) ?_); (try dsimp only)))))
  (k_with "exec If" => ((with_reducible rename Mk 36 => hMk9); ((k_here; (with_reducible show wpAny _ _ (exec (Stmt.If (Expr.BoolOp BoolOp.And _ _) _ _ _) _) _ _ _); (rename Mark9 => hM9); clear hM9; (have hb7 := KK.bf); (unfold BefOK at hb7); (rcases hb7 with hb9 | ⟨y8, e8, t8, tk8, k8, hb9, ⟨hy8, he8⟩, hk8⟩); (all_goals subst hb9)))))
  (k_with "subscriptTail" => ((with_reducible rename Mk 36 => hMk9); ((k_here; (with_reducible show wpAny _ _ (subscriptTail (Expr.Name (PySem.Str.ofString "told") _) _ (Value.ref _) (Value.int _ _)) _ _ _); (rename News _ _ _ _ => kN9); k_dflt (refine tup_item kN9 (by k_mem) rfl hkq hk4 hxq ?_); (try dsimp only)))))
  (k_with "subscriptTail" => ((with_reducible rename Mk 36 => hMk9); ((k_here; (with_reducible show wpAny _ _ (subscriptTail (Expr.Name (PySem.Str.ofString "squares") _) _ (Value.ref _) (Value.int _ _)) _ _ _); (rename News _ _ _ _ => kN9); k_dflt (refine trip_item (t := (a8, b8, c8)) kN9 (by k_mem) (E9.st.up (fun p9 h9 => (by (repeat (first | exact h9 | apply List.mem_cons_of_mem))))) hkq hk4 (hnb ▸ sq_at _ _ _ _ hk4) ?_); intro r9 u1 u2 u3 hr9; (try dsimp only at hr9); (try dsimp only)))))
  (k_with "ite" => ((with_reducible rename Mk 36 => hMk9); ((k_here; k_openite; (refine ite_neg (by (simp only [bne_self_eq_false, Bool.false_eq_true, not_false_eq_true])) ?_)))))
  (k_with "storeName" => ((with_reducible rename Mk 36 => hMk9); ((k_here; (with_reducible show wpAny _ _ (storeName _ _ (Value.int (Int.fmod _ _) _)) _ _ _); (with_reducible refine store_val hq9 ?_)))))
  (k_with "storeName" => ((with_reducible rename Mk 36 => hMk9); ((k_here; (with_reducible show wpAny _ _ (storeName _ (PySem.Str.ofString "face") (Value.int _ _)) _ _ _); (rename Fr _ _ _ _ => kF9); (rename News _ _ _ _ => kN9); (have B1 := (fun h9 => up_of kN9 h9 (by (repeat (first | exact h9 | apply List.mem_cons_of_mem)))) KK.m1); (have B2 := (fun h9 => up_of kN9 h9 (by (repeat (first | exact h9 | apply List.mem_cons_of_mem)))) KK.m2); (have B3 := (fun h9 => up_of kN9 h9 (by (repeat (first | exact h9 | apply List.mem_cons_of_mem)))) KK.m3); (have B4 := (fun h9 => up_of kN9 h9 (by (repeat (first | exact h9 | apply List.mem_cons_of_mem)))) KK.m4); (have B5 := (fun h9 => up_of kN9 h9 (by (repeat (first | exact h9 | apply List.mem_cons_of_mem)))) E9.so); (have Bx := (fun h9 => up_of kN9 h9 (by (repeat (first | exact h9 | apply List.mem_cons_of_mem)))) KK.mx); (have Bd := (fun h9 => up_of kN9 h9 (by (repeat (first | exact h9 | apply List.mem_cons_of_mem)))) KK.md); (have By := (fun h9 => up_of kN9 h9 (by (repeat (first | exact h9 | apply List.mem_cons_of_mem)))) hyq); (have Be := (fun h9 => up_of kN9 h9 (by (repeat (first | exact h9 | apply List.mem_cons_of_mem)))) heq); (have BI := (fun h9 => up_of kN9 h9 (by (repeat (first | exact h9 | apply List.mem_cons_of_mem)))) hI9); (have qx := ne_cell kN9 Bx B2 d2 (fun _ z => by cases z)); (have qd := ne_cell kN9 Bd B2 d2 (fun _ z => by cases z)); (have qy := ne_cell kN9 By B2 d2 (fun _ z => by cases z)); (have qe := ne_cell kN9 Be B2 d2 (fun _ z => by cases z)); (have qI := ne_cell kN9 BI B2 d2 (fun _ z => cell_iter z hoI)); k_dflt (refine store_cell kF9 kN9 (by exact rfl) B2 d2 ?_); intro h9 oA2 nw8 F9 N9 hmX dA2 hupX; (replace B1 := hupX _ B1 n12); (replace B3 := hupX _ B3 n32); (replace B4 := hupX _ B4 n42); (replace B5 := hupX _ B5 n52); (replace B2 := hmX); (replace Bx := hupX _ Bx qx); (replace Bd := hupX _ Bd qd); (replace By := hupX _ By qy); (replace Be := hupX _ Be qe); (replace BI := hupX _ BI qI); clear hmX hupX kF9 kN9 qx qd qy qe qI; (try dsimp only)))))
  (k_with "storeName" => ((with_reducible rename Mk 36 => hMk9); ((k_here; (with_reducible show wpAny _ _ (storeName _ (PySem.Str.ofString "i") (Value.int _ _)) _ _ _); (rename Fr _ _ _ _ => kF9); (rename News _ _ _ _ => kN9); (have qx := ne_cell kN9 Bx B3 d3 (fun _ z => by cases z)); (have qd := ne_cell kN9 Bd B3 d3 (fun _ z => by cases z)); (have qy := ne_cell kN9 By B3 d3 (fun _ z => by cases z)); (have qe := ne_cell kN9 Be B3 d3 (fun _ z => by cases z)); (have qI := ne_cell kN9 BI B3 d3 (fun _ z => cell_iter z hoI)); k_dflt (refine store_cell kF9 kN9 (by exact rfl) B3 d3 ?_); intro h9 oA3 nw8 F9 N9 hmX dA3 hupX; (replace B1 := hupX _ B1 n13); (replace B2 := hupX _ B2 n23); (replace B4 := hupX _ B4 n43); (replace B5 := hupX _ B5 n53); (replace B3 := hmX); (replace Bx := hupX _ Bx qx); (replace Bd := hupX _ Bd qd); (replace By := hupX _ By qy); (replace Be := hupX _ Be qe); (replace BI := hupX _ BI qI); clear hmX hupX kF9 kN9 qx qd qy qe qI; (try dsimp only)))))
  (k_with "storeName" => ((with_reducible rename Mk 36 => hMk9); ((k_here; (with_reducible show wpAny _ _ (storeName _ (PySem.Str.ofString "j") (Value.int _ _)) _ _ _); (rename Fr _ _ _ _ => kF9); (rename News _ _ _ _ => kN9); (have qx := ne_cell kN9 Bx B4 d4 (fun _ z => by cases z)); (have qd := ne_cell kN9 Bd B4 d4 (fun _ z => by cases z)); (have qy := ne_cell kN9 By B4 d4 (fun _ z => by cases z)); (have qe := ne_cell kN9 Be B4 d4 (fun _ z => by cases z)); (have qI := ne_cell kN9 BI B4 d4 (fun _ z => cell_iter z hoI)); k_dflt (refine store_cell kF9 kN9 (by exact rfl) B4 d4 ?_); intro h9 oA4 nw8 F9 N9 hmX dA4 hupX; (replace B1 := hupX _ B1 n14); (replace B2 := hupX _ B2 n24); (replace B3 := hupX _ B3 n34); (replace B5 := hupX _ B5 n54); (replace B4 := hmX); (replace Bx := hupX _ Bx qx); (replace Bd := hupX _ Bd qd); (replace By := hupX _ By qy); (replace Be := hupX _ Be qe); (replace BI := hupX _ BI qI); clear hmX hupX kF9 kN9 qx qd qy qe qI; (try dsimp only)))))
  (k_with "TurnPostO" => ((with_reducible rename Mk 36 => hMk9); ((k_dflt (exact turn_end (by k_asm) (by k_asm) BI (by exact rfl) (by exact rfl) (by exact rfl) (by exact rfl) ⟨ha0, ha6⟩ hb9 hc9 d1 dA2 dA3 dA4 d6 B5 B1 B2 B3 B4 By Be hnb Bx Bd he4 hee)))))
  k_steps
  all_goals fail "an end"
theorem words37 : True := by
  (k_with "call ref" => ((with_reducible rename Mk 37 => hMk9); (((with_reducible show wpAny _ _ (call (Value.ref 561) _) _ _ _); k_here; k_dflt (refine mkC (by k_asm) (by k_asm) (by k_asm) (by k_asm) (by k_asm) (by first | exact rfl | assumption) (by first | assumption | exact rfl) (by k_extra "ROOM") (by k_extra "UNITS") ?_; k_whole; intro y9 e9 t9 tk9 h9 tt9 F9 N9 l1 l2; (try dsimp only); (try k_fold))))))
  (k_with "call ref" => ((with_reducible rename Mk 37 => hMk9); (((with_reducible show wpAny _ _ (call (Value.ref 344) _) _ _ _); k_here; k_dflt (refine lsbC (by k_asm) (by k_asm) (by k_asm) (by k_asm) (by k_asm) (by first | exact rfl | assumption) (by k_mem) (by k_mem) (by k_extra "ROOM") (by k_extra "UNITS") ?_; k_whole; intro t9 h9 tk9 F9 N9; (try dsimp only); (try k_fold))))))
  (k_with "call ref" => ((with_reducible rename Mk 37 => hMk9); (((with_reducible show wpAny _ _ (call (Value.ref 337) _) _ _ _); k_here; k_dflt (refine validC (by k_asm) (by k_asm) (by k_asm) (by k_asm) (by k_asm) (by first | exact rfl | assumption) (by k_mem) (by k_mem) (by assumption) (by assumption) (by k_extra "ROOM") (by k_extra "UNITS") ?_; k_whole; intro h9 tk9 F9 N9; (try dsimp only); (try k_fold))))))
  (k_with "call ref" => ((with_reducible rename Mk 37 => hMk9); (((with_reducible show wpAny _ _ (call (Value.ref 561) _) _ _ _); k_here; k_dflt (refine mkC (by k_asm) (by k_asm) (by k_asm) (by k_asm) (by k_asm) (by first | exact rfl | assumption) (by exact cid_fmod (by omega) (by omega) (fpl_rng (by omega) (by omega) (by omega)).1 (Int.le_of_lt (fpl_rng (by omega) (by omega) (by omega)).2)) (by k_extra "ROOM") (by k_extra "UNITS") ?_; k_whole; intro y9 e9 t9 tk9 h9 tt9 F9 N9 l1 l2; (try dsimp only); (try k_fold))))))
  (k_with "call ref" => ((with_reducible rename Mk 37 => hMk9); (((with_reducible show wpAny _ _ (call (Value.ref 628) _) _ _ _); k_here; k_dflt (refine lawidC (by k_asm) (by k_asm) (by k_asm) (by k_asm) (by k_asm) (by first | exact rfl | assumption) (by k_extra "OM") (by k_extra "OM") (by k_extra "OM") (by k_extra "OM") (by exact ⟨by assumption, by omega⟩) (by exact ⟨by assumption, by omega⟩) (by k_extra "ROOM") (by k_extra "UNITS") ?_; k_whole; intro t9 h9 tk9 F9 N9; (try dsimp only); (try k_fold))))))
  (k_with "eval Call" => ((with_reducible rename Mk 37 => hMk9); ((k_here; (with_reducible show wpAny _ _ (eval (Expr.Call (Expr.Name _ _) _ [] _) _) _ _ _); with_unfolding_all refine Call_ ?_))))
  trivial
theorem J1.start {w : World} {lp c1 c2 c3 c4 c5 x d : Addr} {o1 o2 o3 o4 o5 : Obj} {l f i j N : Int} {v5 : Option Value} {t1 t2 t3 t4 tN t tk : Tok} {m : Str → Option Value} {nw : List (Addr × Obj)} (e1 : m (Str.ofString "script") = some (.ref lp)) (e2 : m (Str.ofString "size") = some (.int N tN)) (e3 : m (Str.ofString "cell") = some (.ref x)) (e4 : m (Str.ofString "before") = some .none)
    (mx : (x, cellI d) ∈ nw) (md : (d, cellD w (cid (fpl f i j l.toNat) l) t tk) ∈ nw) (m1 : (c1, o1) ∈ nw) (m2 : (c2, o2) ∈ nw) (m3 : (c3, o3) ∈ nw) (m4 : (c4, o4) ∈ nw) (m5 : (c5, o5) ∈ nw)
    (d1 : o1.data = .cell (some (.int l t1))) (d2 : o2.data = .cell (some (.int f t2))) (d3 : o3.data = .cell (some (.int i t3))) (d4 : o4.data = .cell (some (.int j t4))) (d5 : o5.data = .cell v5) (hf : 0 ≤ f ∧ f < 6) (hi : 0 ≤ i ∧ i < N) (hj : 0 ≤ j ∧ j < N) : J1 w lp c1 c2 c3 c4 c5 l N m nw :=
  ⟨f, i, j, x, d, .none, o1, o2, o3, o4, o5, v5, t1, t2, t3, t4, tN, t, tk, ⟨e1, e2, e3, e4⟩, ⟨hf, hi, hj⟩, ⟨d1, d2, d3, d4, d5⟩, m5, ⟨m1, m2, m3, m4, mx, md, .inl rfl⟩⟩
theorem J1.set {w : World} {lp c1 c2 c3 c4 c5 : Addr} {l N : Int} {m : Str → Option Value} {nw : List (Addr × Obj)} {v : Option Value} : J1 w lp c1 c2 c3 c4 c5 l N m nw → J1 w lp c1 c2 c3 c4 c5 l N (fun y => if y = Str.ofString "turn" then v else m y) nw := by
  rintro ⟨f, i, j, x, d, bv, o1, o2, o3, o4, o5, v5, t1, t2, t3, t4, tN, t, tk, ⟨a, b, c, e⟩, r⟩
  exact ⟨f, i, j, x, d, bv, o1, o2, o3, o4, o5, v5, t1, t2, t3, t4, tN, t, tk, ⟨(if_neg (by decide)).trans a, (if_neg (by decide)).trans b, (if_neg (by decide)).trans c, (if_neg (by decide)).trans e⟩, r⟩
theorem loopT {w : World} {fa L c1 c2 c3 c4 c5 r : Addr} {cdv : Value} {h₀ : Heap} {m : Str → Option Value} {news : List (Addr × Obj)} {s : Shared} {mg mb : Str → Option Value} {loose : List Str} {mean : ExcName → Option Value} {Q : Flow → Shared → Prop} {E : Value → Shared → Prop} {base : Heap}
    {lp : Addr} {vs : List Value} {ns : List Int} {l N9 : Int} {t₀ u₀ v₀ : Tok} (hr : IsRange s.heap r 0 2 1 t₀ u₀ v₀)
    (B : Below (callerA) base [] h₀) (F : Fr h₀ L s.heap m) (X : (K1 w.params).In h₀) (N : News h₀ L s.heap news) (T : Top V1 loose mean mg mb h₀)
    (hl : base.IsList lp vs.toArray) (hi : IntsAre vs ns) (hn : ns.length ≤ 63) (hl0 : 0 ≤ l) (hl1 : l ≤ 28) (hN2 : (2 : Int) ^ l.toNat = N9)
    (n12 : c1 ≠ c2) (n13 : c1 ≠ c3) (n14 : c1 ≠ c4) (n15 : c1 ≠ c5) (n21 : c2 ≠ c1) (n23 : c2 ≠ c3) (n24 : c2 ≠ c4) (n25 : c2 ≠ c5) (n31 : c3 ≠ c1) (n32 : c3 ≠ c2) (n34 : c3 ≠ c4) (n35 : c3 ≠ c5) (n41 : c4 ≠ c1) (n42 : c4 ≠ c2) (n43 : c4 ≠ c3) (n45 : c4 ≠ c5) (n51 : c5 ≠ c1) (n52 : c5 ≠ c2) (n53 : c5 ≠ c3) (n54 : c5 ≠ c4) (J : J1 w lp c1 c2 c3 c4 c5 l N9 m news)
    (hE : PassesOwn (model PR w) (callerA.deeper (lawE L fa cdv c1 c2 c3 c4 c5)) (lawE L fa cdv c1 c2 c3 c4 c5) E)
    (ret : ∀ m' news' h' tk', Fr h₀ L h' m' → News h₀ L h' news' → Q .next { s with heap := h', toks := tk' }) :
    wpAny (model PR w) (callerA.deeper (lawE L fa cdv c1 c2 c3 c4 c5)) (pyIter (.ref r)) (fun it s₂ => LoopAtV PR w (callerA.deeper (lawE L fa cdv c1 c2 c3 c4 c5)) h₀ (lawE L fa cdv c1 c2 c3 c4 c5) (Str.ofString "turn") turnB Q E it s₂) E s := by
  refine loop_rngD (n := 2) [] (fun _ => J1 w lp c1 c2 c3 c4 c5 l N9) (fun _ h9 => absurd h9 List.not_mem_nil) rfl hr (by decide) (by decide) F N (fun _ => J1.mono) J (fun k t m₁ news₁ h tk I o hk J₁ _ ho hI F₁ N₁ => ?_) (fun m₁ news₁ h tk _ _ F₁ N₁ => ret _ _ _ _ F₁ N₁)
  exact turn1 (s := { s with heap := h, toks := tk }) B F₁ X N₁ T hl hi hn ho hl0 hl1 hN2 (if_pos rfl) n12 n13 n14 n15 n21 n23 n24 n25 n31 n32 n34 n35 n41 n42 n43 n45 n51 n52 n53 n54 J₁.set hE
theorem lawbody1 {w : World} {fa L c1 c2 c3 c4 c5 : Addr} {o1 o2 o3 o4 o5 : Obj} {v1 v2 v3 v4 v5 : Option Value} {cdv : Value} {h₀ : Heap} {m : Str → Option Value} {s : Shared} {mg mb : Str → Option Value} {loose : List Str} {mean : ExcName → Option Value} {Q : Flow → Shared → Prop} {E : Value → Shared → Prop} {base : Heap}
    {lp : Addr} {vs : List Value} {ns : List Int}
    (B : Below (callerA) base [] h₀) (F : Fr h₀ L s.heap m) (X : (K1 w.params).In h₀) (N : News h₀ L s.heap [(c5, o5), (c4, o4), (c3, o3), (c2, o2), (c1, o1)]) (T : Top V1 loose mean mg mb h₀)
    (hl : base.IsList lp vs.toArray) (hi : IntsAre vs ns) (hn : ns.length ≤ 63) (d1 : o1.data = .cell v1) (d2 : o2.data = .cell v2) (d3 : o3.data = .cell v3) (d4 : o4.data = .cell v4) (d5 : o5.data = .cell v5)
    (n12 : c1 ≠ c2) (n13 : c1 ≠ c3) (n14 : c1 ≠ c4) (n15 : c1 ≠ c5) (n21 : c2 ≠ c1) (n23 : c2 ≠ c3) (n24 : c2 ≠ c4) (n25 : c2 ≠ c5) (n31 : c3 ≠ c1) (n32 : c3 ≠ c2) (n34 : c3 ≠ c4) (n35 : c3 ≠ c5) (n41 : c4 ≠ c1) (n42 : c4 ≠ c2) (n43 : c4 ≠ c3) (n45 : c4 ≠ c5) (n51 : c5 ≠ c1) (n52 : c5 ≠ c2) (n53 : c5 ≠ c3) (n54 : c5 ≠ c4) (m1 : m (Str.ofString "script") = some (.ref lp))
    (hE : PassesOwn (model PR w) (callerA.deeper (lawE L fa cdv c1 c2 c3 c4 c5)) (lawE L fa cdv c1 c2 c3 c4 c5) E)
    (ret : ∀ m' news' h' tk', Fr h₀ L h' m' → News h₀ L h' news' → Q (.ret (.bool true)) { s with heap := h', toks := tk' }) :
    wpAny (model PR w) (callerA.deeper (lawE L fa cdv c1 c2 c3 c4 c5)) (execs lawFD.1 (lawE L fa cdv c1 c2 c3 c4 c5)) Q E s := by
  have hMk8 : Mk 37 := ⟨⟩
  have hMk7 : Mk 38 := ⟨⟩
  rw [ov m1] at F
  clear m1
  obtain ⟨l, hl9⟩ : ∃ l, (num ns 0).fmod 29 = l := ⟨_, rfl⟩
  obtain ⟨f, hf9⟩ : ∃ f, (num ns 1).fmod 6 = f := ⟨_, rfl⟩
  have hl2 := fm_of hl9.symm (show (0 : Int) < 29 by decide)
  have hf2 := fm_of hf9.symm (show (0 : Int) < 6 by decide)
  have hl0 : 0 ≤ l := hl2.1
  have hl1 : l ≤ 28 := by omega
  have hf0 := hf2.1
  have hf6 := hf2.2
  obtain ⟨N9, hN9⟩ : ∃ N, (1 : Int) * 2 ^ l.toNat = N := ⟨_, rfl⟩
  have hN2 : (2 : Int) ^ l.toNat = N9 := by rw [← hN9, Int.one_mul]
  have hP0 : 0 < N9 := by rw [← hN2]; exact pw _
  have hP1 : N9 ≤ 268435456 := by
    rw [← hN2, nat_pow_cast]
    exact Int.ofNat_le.mpr (Nat.pow_le_pow_right (i := l.toNat) (j := 28) (by decide) (by omega))
  clear hl2 hf2
  w_top off
  refine' cut_rw ?hb ?_
  case hb => kp_lit
  (k_with "storeName" => ((with_reducible rename Mk 38 => hMk9); ((k_here; (with_reducible show wpAny _ _ (storeName _ _ (Value.int (Int.fmod _ _) _)) _ _ _); (with_reducible refine store_val (by with_reducible assumption) ?_)))))
  (k_with "storeName" => ((with_reducible rename Mk 38 => hMk9); ((k_here; (with_reducible show wpAny _ _ (storeName _ (PySem.Str.ofString "size") (Value.int (_ * _) _)) _ _ _); (with_reducible refine store_val (by with_reducible assumption) ?_)))))
  (k_with "pyIter ref" => ((with_reducible rename Mk 38 => hMk9); ((k_here; (with_reducible show wpAny _ _ (pyIter (Value.ref _)) (fun it s₂ => LoopAtV _ _ _ _ _ _ _ _ _ it s₂) _ _); (rename IsRange _ _ _ _ _ _ _ _ => rg9); k_dflt (refine loopT (l := l) (N9 := N9) rg9 (by k_asm) (by k_asm) (by k_asm) (by k_asm) (by k_asm) (by k_asm) (by k_asm) hn hl0 hl1 hN2 (by assumption) (by assumption) (by assumption) (by assumption) (by assumption) (by assumption) (by assumption) (by assumption) (by assumption) (by assumption) (by assumption) (by assumption) (by assumption) (by assumption) (by assumption) (by assumption) (by assumption) (by assumption) (by assumption) (by assumption) (J1.start (by exact rfl) (by exact rfl) (by exact rfl) (by exact rfl) (by k_mem) (by k_mem) (by k_mem) (by k_mem) (by k_mem) (by k_mem) (by k_mem) (by assumption) (by assumption) (by assumption) (by assumption) (by assumption) ⟨hf0, hf6⟩ ⟨by assumption, by assumption⟩ ⟨by assumption, by assumption⟩) hE ?_); intro m9 news9 h9 tk9 F9 N9; (try dsimp only); (try k_fold)))))
  (k_with "exec For Name Call cons nil" => ((with_reducible rename Mk 38 => hMk9); ((k_here; (rename Fr _ _ _ _ => lF9); (with_unfolding_all refine For_invVF lF9 (by exact rfl) (by exact rfl) ?_ (hE := hE)); k_whole))))
  k_steps
  all_goals first
    | (exact ret _ _ _ _ (by k_asm) (by k_asm))
    | fail "an end"
local macro_rules | `(tactic| k_qdec) => `(tactic| decide +kernel)
theorem w1 : PySem.Challenge.rw_lp0002_01.Holds := by
  w_on
  refine holds_law ok1 fun said9 => ?_
  refine holds_open (r := Challenge.rw_lp0002_01.row) (q := V1) (loose := loose1) (Xt := xt1) (XP := XL V1 []) (Yf := hook1.obs) (Ya := hook1.val) (YP := hook1.says) (N := 13808) left1 hook1.of hook1.keeps (fun s e => xl_of s (Bool.and_eq_true_iff.mp e).1) XL.keeps (by rfl) (by rfl) (by rfl) (fun s e => recFacts_of (Bool.and_eq_true_iff.mp e).2) (by rfl) (by assumption) (by decide +kernel) ⟨rfl, rfl, rfl, rfl, rfl, by decide +kernel⟩ ?hw ?hc
  case hw => w_witness2

  clear said9
  k_go0
  all_goals try k_fold
  k_dflt (refine lawbody1 (by k_asm) (by k_asm) (by k_asm) (by k_asm) (by k_asm) (by k_asm) (by k_asm) (by omega) (by assumption) (by assumption) (by assumption) (by assumption) (by assumption) (by show @Ne Nat _ _; omega) (by show @Ne Nat _ _; omega) (by show @Ne Nat _ _; omega) (by show @Ne Nat _ _; omega) (by show @Ne Nat _ _; omega) (by show @Ne Nat _ _; omega) (by show @Ne Nat _ _; omega) (by show @Ne Nat _ _; omega) (by show @Ne Nat _ _; omega) (by show @Ne Nat _ _; omega) (by show @Ne Nat _ _; omega) (by show @Ne Nat _ _; omega) (by show @Ne Nat _ _; omega) (by show @Ne Nat _ _; omega) (by show @Ne Nat _ _; omega) (by show @Ne Nat _ _; omega) (by show @Ne Nat _ _; omega) (by show @Ne Nat _ _; omega) (by show @Ne Nat _ _; omega) (by show @Ne Nat _ _; omega) (by exact rfl) (by passes_own) ?_)
  intro m9 news9 h9 tk9 F9 N9
  k_steps
  all_goals fail "an end"
end Mine
theorem PySem.Challenge.cw_lp0002_01_holds : PySem.Challenge.rw_lp0002_01.Holds := by
  exact Mine.w1
