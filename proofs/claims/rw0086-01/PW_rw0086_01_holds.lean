import PyProof.Rows.All
import Wide.All
import OpenK.AllK
import Wide.FinOn
import PySem.Challenge.RW_rw0086_01
set_option Elab.async false
set_option genSizeOf false
set_option bootstrap.genMatcherCode false
section
open PySem PySem.W PyProof.Rows
set_option Elab.async false
set_option genSizeOf false
set_option bootstrap.genMatcherCode false
namespace Mv.Kn
noncomputable abbrev n : Value := .none
noncomputable abbrev I (i : Int) (t : Nat) : Value := .int i t
noncomputable abbrev S (x : String) (t : Nat) : Value := .str (.ofString x) t
noncomputable abbrev R (a : Nat) : Value := .ref a
noncomputable abbrev T (x : String) : Value := .type x
noncomputable abbrev B (x : String) : Value := .builtin x
noncomputable def tup (l : List Value) : Obj := ⟨.type "tuple", none, .seq l.toArray 0, #[]⟩
noncomputable def fld (c : Value) (l : List Value) : Obj := ⟨c, none, .fields l.toArray, #[]⟩
noncomputable def dct (c : Value) (k : Nat) (l : List DictEntry) : Obj := ⟨c, none, .dict l.toArray k, #[]⟩
noncomputable def E (P : Params) (x : String) (t : Nat) (v : Value) : DictEntry := ⟨PyData.keyHash P (.ofString x), S x t, v⟩
noncomputable abbrev D (i : Int) (k v : Value) : DictEntry := ⟨i, k, v⟩
noncomputable def pln (c : Value) : Obj := ⟨c, none, .plain, #[]⟩
noncomputable def fn (st : Option Stmt) (qn : String) (gl : Addr) (cl : List (Str × Addr)) (d kd doc md : Value) (an : Option Addr) (co ct : Value) (bi : Addr) : Obj :=
  match st with
  | some (.FunctionDef nm a b _ _ _ sc _ _ _) => ⟨.type "function", none, .func ⟨nm, .ofString qn, a, .stmts b, sc, gl, cl, d, kd, doc, md, an, co, ct, bi⟩, #[]⟩
  | _ => pln n
noncomputable def nth (l : List Stmt) (i : Nat) : Option Stmt := (l.drop i).head?
noncomputable def sub (st : Option Stmt) : List Stmt := match st with
  | some (.ClassDef _ _ _ b _ _ _ _ _ _ _) => b
  | _ => []
end Mv.Kn
end
section
open PySem PySem.W PyProof.Rows
set_option Elab.async false
namespace Mv.Kn1
open Mv.Kn
noncomputable abbrev body : List Stmt := PySem.Challenge.pw_rw0086_01.main.body
noncomputable abbrev st0 (i : Nat) : Option Stmt := nth body i
noncomputable abbrev st1 (i j : Nat) : Option Stmt := nth (sub (st0 i)) j
set_option maxRecDepth 100000 in
noncomputable def K (P : Params) : Frag := [
  (2, (dct n 0 [])),
  (3, (dct (T "dict") 23 [(E P "__name__" 165 (S "law_rw0086_01" 396)),(E P "__doc__" 166 n),(E P "__package__" 167 n),(E P "__loader__" 168 (B "__main__.__loader__#opaque")),(E P "__spec__" 169 n),(E P "__annotations__" 170 (R 6)),(E P "__builtins__" 171 (R 4)),(E P "__file__" 173 (S "/claim/cut.py" 172)),(E P "__cached__" 174 n),(E P "_wall" 193 (R 21)),(E P "rgb_to_hls" 214 (R 28)),(E P "rgb_to_hsv" 232 (R 35)),(E P "hsv_to_rgb" 246 (R 42)),(E P "COMPILER_FLAG_NAMES" 279 (R 43)),(E P "pretty_flags" 289 (R 50)),(E P "Whitespace" 395 (R 112)),(E P "_law_heaps" 406 (R 123)),(E P "_law_table" 412 (R 128)),(E P "_law_colours" 432 (R 135)),(E P "_law_gaps" 438 (R 140)),(E P "_law_order" 449 (R 147)),(E P "_law_column" 455 (R 152)),(E P "law" 461 (R 157))])),
  (20, (fld (T "code") [(S "_wall" 187),(S "_wall" 188),(S "/claim/cut.py" 189),(I 1 0),(I 1 0),(I 0 0),(I 0 0),(I 3 0),(R 15),(.bool true),(I 181 0),(R 16),n,(R 17),(R 18),(R 19),(I 191 0),(I 1 0),(S "/claim/cut.py" 192)])),
  (21, (fn (st0 0) "_wall" 3 [] n n n (S "__main__" 164) none (R 20) n 0)),
  (27, (fld (T "code") [(S "rgb_to_hls" 196),(S "rgb_to_hls" 197),(S "/claim/cut.py" 198),(I 5 0),(I 3 0),(I 0 0),(I 0 0),(I 3 0),(R 22),(.bool true),(I 181 0),(R 23),n,(R 24),(R 25),(R 26),(I 212 0),(I 5 0),(S "/claim/cut.py" 213)])),
  (28, (fn (st0 2) "rgb_to_hls" 3 [] n n n (S "cpy313.colorsys" 194) none (R 27) n 0)),
  (34, (fld (T "code") [(S "rgb_to_hsv" 215),(S "rgb_to_hsv" 216),(S "/claim/cut.py" 217),(I 28 0),(I 3 0),(I 0 0),(I 0 0),(I 3 0),(R 29),(.bool true),(I 181 0),(R 30),n,(R 31),(R 32),(R 33),(I 230 0),(I 28 0),(S "/claim/cut.py" 231)])),
  (35, (fn (st0 3) "rgb_to_hsv" 3 [] n n n (S "cpy313.colorsys" 194) none (R 34) n 0)),
  (41, (fld (T "code") [(S "hsv_to_rgb" 233),(S "hsv_to_rgb" 234),(S "/claim/cut.py" 235),(I 47 0),(I 3 0),(I 0 0),(I 0 0),(I 3 0),(R 36),(.bool true),(I 181 0),(R 37),n,(R 38),(R 39),(R 40),(I 244 0),(I 47 0),(S "/claim/cut.py" 245)])),
  (42, (fn (st0 4) "hsv_to_rgb" 3 [] n n n (S "cpy313.colorsys" 194) none (R 41) n 0)),
  (43, (dct (T "dict") 10 [(D 1 (I 1 249) (S "OPTIMIZED" 250)),(D 2 (I 2 251) (S "NEWLOCALS" 252)),(D 4 (I 4 253) (S "VARARGS" 254)),(D 8 (I 8 255) (S "VARKEYWORDS" 256)),(D 16 (I 16 257) (S "NESTED" 258)),(D 32 (I 32 259) (S "GENERATOR" 260)),(D 64 (I 64 261) (S "NOFREE" 262)),(D 128 (I 128 263) (S "COROUTINE" 264)),(D 256 (I 256 265) (S "ITERABLE_COROUTINE" 266)),(D 512 (I 512 267) (S "ASYNC_GENERATOR" 268))])),
  (49, (fld (T "code") [(S "pretty_flags" 280),(S "pretty_flags" 281),(S "/claim/cut.py" 282),(I 70 0),(I 1 0),(I 0 0),(I 0 0),(I 3 0),(R 44),(.bool true),(I 181 0),(R 45),n,(R 46),(R 47),(R 48),(I 287 0),(I 70 0),(S "/claim/cut.py" 288)])),
  (50, (fn (st0 7) "pretty_flags" 3 [] n n n (S "cpy313.dis" 247) none (R 49) n 0)),
  (66, (fld (T "code") [(S "__init__" 309),(S "Whitespace.__init__" 310),(S "/claim/cut.py" 311),(I 86 0),(I 2 0),(I 0 0),(I 0 0),(I 3 0),(R 61),(.bool true),(I 181 0),(R 62),n,(R 63),(R 64),(R 65),(I 321 0),(I 86 0),(S "/claim/cut.py" 322)])),
  (67, (fn (st1 9 1) "Whitespace.__init__" 3 [] n n n (S "cpy313.tabnanny" 290) none (R 66) n 0)),
  (73, (fld (T "code") [(S "longest_run_of_spaces" 324),(S "Whitespace.longest_run_of_spaces" 325),(S "/claim/cut.py" 326),(I 109 0),(I 1 0),(I 0 0),(I 0 0),(I 3 0),(R 68),(.bool true),(I 181 0),(R 69),n,(R 70),(R 71),(R 72),(I 330 0),(I 109 0),(S "/claim/cut.py" 331)])),
  (74, (fn (st1 9 2) "Whitespace.longest_run_of_spaces" 3 [] n n n (S "cpy313.tabnanny" 290) none (R 73) n 0)),
  (80, (fld (T "code") [(S "indent_level" 333),(S "Whitespace.indent_level" 334),(S "/claim/cut.py" 335),(I 113 0),(I 2 0),(I 0 0),(I 0 0),(I 3 0),(R 75),(.bool true),(I 181 0),(R 76),n,(R 77),(R 78),(R 79),(I 342 0),(I 113 0),(S "/claim/cut.py" 343)])),
  (81, (fn (st1 9 3) "Whitespace.indent_level" 3 [] n n n (S "cpy313.tabnanny" 290) none (R 80) n 0)),
  (87, (fld (T "code") [(S "equal" 345),(S "Whitespace.equal" 346),(S "/claim/cut.py" 347),(I 120 0),(I 2 0),(I 0 0),(I 0 0),(I 3 0),(R 82),(.bool true),(I 181 0),(R 83),n,(R 84),(R 85),(R 86),(I 350 0),(I 120 0),(S "/claim/cut.py" 351)])),
  (88, (fn (st1 9 4) "Whitespace.equal" 3 [] n n n (S "cpy313.tabnanny" 290) none (R 87) n 0)),
  (94, (fld (T "code") [(S "not_equal_witness" 353),(S "Whitespace.not_equal_witness" 354),(S "/claim/cut.py" 355),(I 123 0),(I 2 0),(I 0 0),(I 0 0),(I 3 0),(R 89),(.bool true),(I 181 0),(R 90),n,(R 91),(R 92),(R 93),(I 361 0),(I 123 0),(S "/claim/cut.py" 362)])),
  (95, (fn (st1 9 5) "Whitespace.not_equal_witness" 3 [] n n n (S "cpy313.tabnanny" 290) none (R 94) n 0)),
  (101, (fld (T "code") [(S "less" 364),(S "Whitespace.less" 365),(S "/claim/cut.py" 366),(I 131 0),(I 2 0),(I 0 0),(I 0 0),(I 3 0),(R 96),(.bool true),(I 181 0),(R 97),n,(R 98),(R 99),(R 100),(I 369 0),(I 131 0),(S "/claim/cut.py" 370)])),
  (102, (fn (st1 9 6) "Whitespace.less" 3 [] n n n (S "cpy313.tabnanny" 290) none (R 101) n 0)),
  (108, (fld (T "code") [(S "not_less_witness" 372),(S "Whitespace.not_less_witness" 373),(S "/claim/cut.py" 374),(I 134 0),(I 2 0),(I 0 0),(I 0 0),(I 3 0),(R 103),(.bool true),(I 181 0),(R 104),n,(R 105),(R 106),(R 107),(I 380 0),(I 134 0),(S "/claim/cut.py" 381)])),
  (109, (fn (st1 9 7) "Whitespace.not_less_witness" 3 [] n n n (S "cpy313.tabnanny" 290) none (R 108) n 0)),
  (111, (dct (T "dict") 4 [(E P "__module__" 299 (S "cpy313.tabnanny" 290)),(E P "__firstlineno__" 303 (I 83 302)),(E P "S" 307 (S " " 305)),(E P "T" 308 (S "\t" 306)),(E P "__init__" 323 (R 67)),(E P "longest_run_of_spaces" 332 (R 74)),(E P "indent_level" 344 (R 81)),(E P "equal" 352 (R 88)),(E P "not_equal_witness" 363 (R 95)),(E P "less" 371 (R 102)),(E P "not_less_witness" 382 (R 109)),(E P "__static_attributes__" 388 (R 110)),(E P "__dict__" 390 (R 113)),(E P "__weakref__" 392 (R 114)),(E P "__doc__" 393 n)])),
  (112, ⟨(T "type"), none, .cls ⟨.ofString "Whitespace", [(T "object")], [(R 112),(T "object")], 111, .ofString "Whitespace", true, [], [], false, none, false⟩, #[none,none,some (S "Whitespace" 292),some (S "Whitespace" 300),some (B "object.__new__"),some (.bool true)]⟩),
  (122, (fld (T "code") [(S "_law_heaps" 398),(S "_law_heaps" 399),(S "/claim/cut.py" 400),(I 142 0),(I 1 0),(I 0 0),(I 0 0),(I 3 0),(R 117),(.bool true),(I 181 0),(R 118),n,(R 119),(R 120),(R 121),(I 404 0),(I 142 0),(S "/claim/cut.py" 405)])),
  (123, (fn (st0 11) "_law_heaps" 3 [] n n n (S "law_rw0086_01" 396) none (R 122) n 0)),
  (127, (fld (T "code") [(S "_law_table" 407),(S "_law_table" 408),(S "/claim/cut.py" 409),(I 147 0),(I 0 0),(I 0 0),(I 0 0),(I 3 0),(R 124),(.bool true),(I 181 0),(R 125),n,n,n,(R 126),(I 410 0),(I 147 0),(S "/claim/cut.py" 411)])),
  (128, (fn (st0 12) "_law_table" 3 [] n n n (S "law_rw0086_01" 396) none (R 127) n 0)),
  (134, (fld (T "code") [(S "_law_colours" 413),(S "_law_colours" 414),(S "/claim/cut.py" 415),(I 154 0),(I 4 0),(I 0 0),(I 0 0),(I 3 0),(R 129),(.bool true),(I 181 0),(R 130),n,(R 131),(R 132),(R 133),(I 430 0),(I 154 0),(S "/claim/cut.py" 431)])),
  (135, (fn (st0 13) "_law_colours" 3 [] n n n (S "law_rw0086_01" 396) none (R 134) n 0)),
  (139, (fld (T "code") [(S "_law_gaps" 433),(S "_law_gaps" 434),(S "/claim/cut.py" 435),(I 170 0),(I 2 0),(I 0 0),(I 0 0),(I 3 0),(R 136),(.bool true),(I 181 0),(R 137),n,n,n,(R 138),(I 436 0),(I 170 0),(S "/claim/cut.py" 437)])),
  (140, (fn (st0 14) "_law_gaps" 3 [] n n n (S "law_rw0086_01" 396) none (R 139) n 0)),
  (146, (fld (T "code") [(S "_law_order" 439),(S "_law_order" 440),(S "/claim/cut.py" 441),(I 177 0),(I 3 0),(I 0 0),(I 0 0),(I 3 0),(R 141),(.bool true),(I 181 0),(R 142),n,(R 143),(R 144),(R 145),(I 447 0),(I 177 0),(S "/claim/cut.py" 448)])),
  (147, (fn (st0 15) "_law_order" 3 [] n n n (S "law_rw0086_01" 396) none (R 146) n 0)),
  (151, (fld (T "code") [(S "_law_column" 450),(S "_law_column" 451),(S "/claim/cut.py" 452),(I 188 0),(I 3 0),(I 0 0),(I 0 0),(I 3 0),(R 148),(.bool true),(I 181 0),(R 149),n,n,n,(R 150),(I 453 0),(I 188 0),(S "/claim/cut.py" 454)])),
  (152, (fn (st0 16) "_law_column" 3 [] n n n (S "law_rw0086_01" 396) none (R 151) n 0)),
  (156, (fld (T "code") [(S "law" 456),(S "law" 457),(S "/claim/cut.py" 458),(I 190 0),(I 1 0),(I 0 0),(I 0 0),(I 3 0),(R 153),(.bool true),(I 181 0),(R 154),n,n,n,(R 155),(I 459 0),(I 190 0),(S "/claim/cut.py" 460)])),
  (157, (fn (st0 17) "law" 3 [] n n n (S "law_rw0086_01" 396) none (R 156) n 0))]
noncomputable abbrev as : List Nat := [2, 3, 20, 21, 27, 28, 34, 35, 41, 42, 43, 49, 50, 66, 67, 73, 74, 80, 81, 87, 88, 94, 95, 101, 102, 108, 109, 111, 112, 122, 123, 127, 128, 134, 135, 139, 140, 146, 147, 151, 152, 156, 157]
noncomputable abbrev view : Program := { PySem.Challenge.pw_rw0086_01 with main := { PySem.Challenge.pw_rw0086_01.main with body := ([0, 2, 3, 4, 6, 7, 9, 11, 12, 13, 14, 15, 16, 17] : List Nat).filterMap st0 } }
noncomputable abbrev loose : List Str := ["COMPILER_FLAG_NAMES", "Whitespace"]
noncomputable abbrev row : OpenRow := OpenLaw.row PySem.Challenge.rw_rw0086_01
noncomputable abbrev rowW : RowW := OpenRow.toRowW row
noncomputable abbrev hk : Hook := kHook K as (fun P => by kernel_rfl)
noncomputable abbrev Xt (s : Shared) : Bool := xlAt view [] s && recOk (RowW.records rowW) s
set_option maxRecDepth 100000 in
theorem said : OpenLaw.wellSaid PySem.Challenge.rw_rw0086_01 = true := by kernel_rfl
theorem both {α β γ : Type} {f : α → β} {g : α → γ} {b : β} {c : γ} : ∀ {o : Option α}, o.map f = some b → o.map g = some c → o.map (fun s => (f s, g s)) = some (b, c)
  | some _, h, k => congrArg some (congr (congrArg Prod.mk (Option.some.inj h)) (Option.some.inj k))
set_option maxRecDepth 100000 in
theorem leftF : ∀ w : World, (fencedOpening treeTable rowW.prog w 2246).map (fun s₀ => (topFrom treeTable rowW.prog (w.withFollow "special-get-raises" false) 2246 s₀).map fun s => (openSeen view loose (importedModules rowW.prog.main.body) Xt true s, Hook.obs hk s)) = some (some (openGood view loose, Hook.val hk (w.withFollow "special-get-raises" false))) := by
  intro w; kernel_rfl
set_option maxRecDepth 100000 in
theorem leftT : ∀ w : World, (fencedOpening treeTable rowW.prog w 2246).map (fun s₀ => (topFrom treeTable rowW.prog (w.withFollow "special-get-raises" true) 2246 s₀).map fun s => (openSeen view loose (importedModules rowW.prog.main.body) Xt true s, Hook.obs hk s)) = some (some (openGood view loose, Hook.val hk (w.withFollow "special-get-raises" true))) := by
  intro w; kernel_rfl
theorem left : LeftO rowW.prog view loose Xt (Hook.obs hk) (Hook.val hk) 2246 := LeftO.of_split "special-get-raises" fun w => both (leftF w) (leftT w)
end Mv.Kn1
end
section
open PySem PySem.W PyProof.Rows
set_option Elab.async false
namespace Mv

inductive D where
  | nn | bool (b : Bool) | int (i : Int) | flt (b : UInt64) | str (l : List Nat)
  | tup (l : List D) | lst (l : List D) | tab (ks : List (List Nat)) (vs : List D) | inst (ks : List Nat) (vs : List D)

inductive Ent where
  | frz (d : D) | own (l : List D) | ownT (ks : List (List Nat)) (vs : List D) | ownI (ks : List Nat) (vs : List D)

noncomputable abbrev Env1 := List (Nat × Ent)

inductive Bop where
  | add | sub | mul | div | fdiv | mod | pow | shl | and | xor
inductive Cop where
  | eq | ne | lt | le | gt | ge
inductive Bf where
  | len | max | min | sum | int | hex | tuple

inductive SE where
  | lit (d : D) | var (x : Nat) | bvar (x : Nat) | bin (op : Bop) (a b : SE) | neg (a : SE) | not (a : SE) | cmp (op : Cop) (a b : SE) | or (a b : SE)
  | ite (t a b : SE) | lst (es : List SE) | tup (es : List SE) | idx (o i : SE) | upto (o u : SE) | from_ (o l : SE)
  | attr (o : SE) (n : Nat) | cat (n : Nat) | call (f : Nat) (es : List SE) | bf (f : Bf) (es : List SE) | meth (o : SE) (m : Nat) (es : List SE) | umeth (o : SE) (m : Nat) (es : List SE)
  | getFlag (a b : SE) | rng (es : List SE)
  | comp (elt : SE) (xs : List Nat) (it : SE) (ifs : List SE) | comp2 (elt : SE) (x : Nat) (it : SE) (y : Nat) (it2 : SE)
  | dcomp (k v : SE) (x : Nat) (it : SE)

inductive SS where
  | asg (x : Nat) (e : SE) | asgs (xs : List Nat) (e : SE) | asgT (xs : List Nat) (e : SE)
  | new (x : Nat) (e : SE)
  | setI (x : Nat) (i e : SE) | augI (x : Nat) (i : SE) (op : Bop) (e : SE) | aug (x : Nat) (op : Bop) (e : SE)
  | setA (x : Nat) (n : Nat) (e : SE) | app (x : Nat) (e : SE)
  | ite (t : SE) (a b : List SS) | for_ (xs : List Nat) (it : SE) (body els : List SS) | while_ (t : SE) (body : List SS)
  | ret (e : SE) | brk | frz (xs : List Nat)

noncomputable def eqvs (f : D → D → Option Bool) : List D → List D → Option Bool
  | [], [] => some true
  | x :: xs, y :: ys => (f x y).bind fun b => (eqvs f xs ys).map fun c => b && c
  | [], _ :: _ => some false
  | _ :: _, [] => some false

noncomputable def D.int? : D → Option Int
  | .int a => some a
  | _ => none
noncomputable def D.flt? : D → Option UInt64
  | .flt a => some a
  | _ => none
noncomputable def D.str? : D → Option (List Nat)
  | .str a => some a
  | _ => none
noncomputable def D.bool? : D → Option Bool
  | .bool a => some a
  | _ => none
noncomputable def D.tup? : D → Option (List D)
  | .tup a => some a
  | _ => none
noncomputable def D.lst? : D → Option (List D)
  | .lst a => some a
  | _ => none
noncomputable def eqD (f : List D → List D → Option Bool) (x y : D) : Option Bool := match x with
  | .int a => y.int?.map (a == ·)
  | .flt a => y.flt?.bind fun b => if a == b && !Float64.isNaN a then some true else none
  | .str a => y.str?.map (a == ·)
  | .bool a => y.bool?.map (a == ·)
  | .tup a => y.tup?.bind (f a)
  | .lst a => y.lst?.bind (f a)
  | _ => none
noncomputable def D.eqv : Nat → D → D → Option Bool
  | 0 => eqD fun _ _ => none
  | n + 1 => eqD (eqvs (D.eqv n))

noncomputable def small (i : Int) : Bool := decide (i.natAbs < 2 ^ 62)

noncomputable def binI (op : Bop) (a b : Int) : Option D :=
  match op with
  | .add => some (.int (a + b))
  | .sub => some (.int (a - b))
  | .mul => if small a && small b then some (.int (a * b)) else none
  | .div => if b != 0 && small a && small b && !Float64.isInf (Float64.ofFrac (decide (a < 0) != decide (b < 0)) a.natAbs b.natAbs) then some (.flt (Float64.ofFrac (decide (a < 0) != decide (b < 0)) a.natAbs b.natAbs)) else none
  | .fdiv => if b != 0 && small b then some (.int (a.fdiv b)) else none
  | .mod => if b != 0 && small b then some (.int (a.fmod b)) else none
  | .pow => if decide (0 ≤ b) && decide (b ≤ 62) && decide (a = 2) then some (.int (a ^ b.toNat)) else none
  | .shl => if decide (0 ≤ b) && decide (b ≤ 62) && decide (a = 1) then some (.int (a * 2 ^ b.toNat)) else none
  | .and => some (.int (Builtin.bitAnd a b))
  | .xor => some (.int (Builtin.bitXor a b))

noncomputable def binF (op : Bop) (a b : UInt64) : Option D :=
  match op with
  | .add => some (.flt (Float64.add a b))
  | .sub => some (.flt (Float64.sub a b))
  | .mul => some (.flt (Float64.mul a b))
  | .div => if Float64.isZero b then none else some (.flt (Float64.div a b))
  | .mod => if Float64.isZero b then none else some (.flt (Float64.divmod a b).snd)
  | _ => none

noncomputable def repL {α : Type} : Nat → List α → List α
  | 0, _ => []
  | n + 1, l => l ++ repL n l

noncomputable def binFI (op : Bop) (a : UInt64) (b : Int) : Option D := if small b then (match op with
    | .add => binF .add a (Float64.ofInt b)
    | .sub => binF .sub a (Float64.ofInt b)
    | .mul => binF .mul a (Float64.ofInt b)
    | _ => none) else none
noncomputable def binSS (op : Bop) (a b : List Nat) : Option D := match op with
    | .add => if decide (a.length + b.length ≤ 1000) then some (.str (a ++ b)) else none
    | _ => none
noncomputable def binSI (op : Bop) (a : List Nat) (k : Int) : Option D := match op with
    | .mul => if decide (0 ≤ k) && decide (k ≤ 1000) && decide (a.length ≤ 1) then some (.str (repL k.toNat a)) else none
    | _ => none
noncomputable def binLL (op : Bop) (a b : List D) : Option D := match op with
    | .add => if decide (a.length + b.length ≤ 1000) then some (.lst (a ++ b)) else none
    | _ => none
noncomputable def binLI (op : Bop) (a : List D) (k : Int) : Option D := match op with
    | .mul => if decide (0 ≤ k) && decide (k ≤ 1000) && decide (a.length = 1) then some (.lst (repL k.toNat a)) else none
    | _ => none
noncomputable def withInt (f : Int → Option D) (g : Option D) : D → Option D
  | .int a => f a
  | _ => g
noncomputable def binD (op : Bop) (x y : D) : Option D := match x with
  | .int a => withInt (binI op a) none y
  | .flt a => withInt (binFI op a) (y.flt?.bind (binF op a)) y
  | .str a => withInt (binSI op a) (y.str?.bind (binSS op a)) y
  | .lst a => withInt (binLI op a) (y.lst?.bind (binLL op a)) y
  | _ => none

noncomputable def cmpI (op : Cop) (a b : Int) : Bool := match op with
    | .eq => a == b
    | .ne => a != b
    | .lt => decide (a < b)
    | .le => decide (a ≤ b)
    | .gt => decide (b < a)
    | .ge => decide (b ≤ a)
noncomputable def cmpF (op : Cop) (a b : UInt64) : Option Bool := match op with
    | .eq => some (Float64.cmp a b == some .eq)
    | .le => some (Float64.cmp a b == some .lt || Float64.cmp a b == some .eq)
    | _ => none
noncomputable def cmpS (op : Cop) (a b : List Nat) : Option Bool := match op with
    | .eq => some (a == b)
    | .ne => some (a != b)
    | _ => none
noncomputable def cmpL (op : Cop) (a b : List D) : Option Bool := match op with
    | .eq => eqvs (D.eqv 4) a b
    | .ne => (eqvs (D.eqv 4) a b).map (!·)
    | _ => none
noncomputable def cmpD (op : Cop) (x y : D) : Option Bool := match x with
  | .int a => y.int?.map (cmpI op a)
  | .flt a => y.flt?.bind (cmpF op a)
  | .str a => y.str?.bind (cmpS op a)
  | .lst a => y.lst?.bind (cmpL op a)
  | _ => none

noncomputable def truthD : D → Option Bool
  | .bool b => some b
  | .int i => some (i != 0)
  | _ => none

noncomputable def posOf (i : Int) (n : Nat) : Option Nat := if small i then seqIndex? i n else none

noncomputable def lookT : List (List Nat) → List D → List Nat → Option D
  | k :: ks, v :: vs, x => if k == x then some v else lookT ks vs x
  | _, _, _ => none

noncomputable def putT : List (List Nat) → List D → List Nat → D → List (List Nat) × List D
  | k :: ks, v :: vs, x, d => if k == x then (k :: ks, d :: vs) else (k :: (putT ks vs x d).1, v :: (putT ks vs x d).2)
  | _, _, x, d => ([x], [d])

noncomputable def lookA : List Nat → List D → Nat → Option D
  | k :: ks, v :: vs, x => if k == x then some v else lookA ks vs x
  | _, _, _ => none

noncomputable def putA : List Nat → List D → Nat → D → List Nat × List D
  | k :: ks, v :: vs, x, d => if k == x then (k :: ks, d :: vs) else (k :: (putA ks vs x d).1, v :: (putA ks vs x d).2)
  | _, _, x, d => ([x], [d])

noncomputable def idxD (x y : D) : Option D := match x with
  | .lst l => y.int?.bind fun i => (posOf i l.length).bind fun k => l[k]?
  | .tup l => y.int?.bind fun i => (posOf i l.length).bind fun k => l[k]?
  | .str l => y.int?.bind fun i => (posOf i l.length).bind fun k => l[k]?.map fun c => .str [c]
  | .tab ks vs => y.str?.bind (lookT ks vs)
  | _ => none

noncomputable def cutAt (i : Int) (n : Nat) : Nat := (max 0 (min (if i < 0 then i + n else i) n)).toNat

noncomputable def negD : D → Option D
  | .int i => some (.int (-i))
  | _ => none
noncomputable def uptoD : D → D → Option D
  | .lst l, .int i => if decide (l.length ≤ 1000000) then some (.lst (l.take (cutAt i l.length))) else none
  | _, _ => none
noncomputable def fromD : D → D → Option D
  | .lst l, .int i => if decide (l.length ≤ 1000000) then some (.lst (l.drop (cutAt i l.length))) else none
  | _, _ => none

noncomputable def attrD : D → Nat → Option D
  | .inst ks vs, n => lookA ks vs n
  | _, _ => none

noncomputable def catD (n : Nat) : Option D := if n == 6 then some (.str [32]) else if n == 7 then some (.str [9]) else none

noncomputable def intsOf : List D → Option (List Int)
  | [] => some []
  | .int i :: r => (intsOf r).map (i :: ·)
  | _ :: _ => none
noncomputable def strsOf : List D → Option (List (List Nat))
  | [] => some []
  | .str i :: r => (strsOf r).map (i :: ·)
  | _ :: _ => none

noncomputable def maxI : Int → List Int → Int
  | a, [] => a
  | a, b :: r => maxI (if a < b then b else a) r
noncomputable def minI : Int → List Int → Int
  | a, [] => a
  | a, b :: r => minI (if b < a then b else a) r

noncomputable def fmax2 (a b : UInt64) : UInt64 := if Float64.cmp b a == some .gt then b else a
noncomputable def fmin2 (a b : UInt64) : UInt64 := if Float64.cmp b a == some .lt then b else a

noncomputable def hexL (i : Int) : List Nat := (baseText "0x" 16 i).cps.toList

noncomputable def lenD : D → Option D
  | .lst x => if decide (x.length ≤ 100000) then some (.int x.length) else none
  | .tup x => if decide (x.length ≤ 100000) then some (.int x.length) else none
  | _ => none
noncomputable def lstOf : D → Option (List D)
  | .lst x => some x
  | _ => none
noncomputable def intOf : D → Option Int
  | .int x => some x
  | _ => none
noncomputable def fltOf : D → Option UInt64
  | .flt x => some x
  | _ => none
noncomputable def foldI (f : Int → List Int → Int) : List Int → Option D
  | a :: r => some (.int (f a r))
  | [] => none
noncomputable def pickD (f : Int → List Int → Int) (g : UInt64 → UInt64 → UInt64) (h : Int → Int → Int) : List D → Option D
  | [x] => (lstOf x).bind fun l => (intsOf l).bind (foldI f)
  | [a, b] => (intOf a).bind fun a => (intOf b).bind fun b => some (.int (h a b))
  | [a, b, c] => (fltOf a).bind fun a => (fltOf b).bind fun b => (fltOf c).bind fun c => some (.flt (g (g a b) c))
  | _ => none
noncomputable def max2I (a b : Int) : Int := if a < b then b else a
noncomputable def min2I (a b : Int) : Int := if b < a then b else a
noncomputable def numInt : Float64.Num → Option D
  | .fin sg m e => some (.int (Float64.truncOf sg m e))
  | _ => none
noncomputable def oneD (f : D → Option D) : List D → Option D
  | [x] => f x
  | _ => none
noncomputable def hexD (a : Int) : Option D := if decide ((baseText "0x" 16 a).length ≤ 1000) then some (.str (hexL a)) else none
noncomputable def tupD (x : List D) : Option D := if decide (x.length ≤ 1000) then some (.tup x) else none

noncomputable def bfD (f : Bf) (l : List D) : Option D :=
  match f with
  | .len => oneD lenD l
  | .max => pickD maxI fmax2 max2I l
  | .min => pickD minI fmin2 min2I l
  | .sum => oneD (fun x => (lstOf x).bind fun l => (intsOf l).bind fun l => some (.int l.sum)) l
  | .int => oneD (fun x => (fltOf x).bind fun x => numInt (Float64.decode x)) l
  | .hex => oneD (fun x => (intOf x).bind hexD) l
  | .tuple => oneD (fun x => (lstOf x).bind tupD) l

noncomputable def flagTab : List (Int × List Nat) := [
  (1, [79, 80, 84, 73, 77, 73, 90, 69, 68]), (2, [78, 69, 87, 76, 79, 67, 65, 76, 83]), (4, [86, 65, 82, 65, 82, 71, 83]),
  (8, [86, 65, 82, 75, 69, 89, 87, 79, 82, 68, 83]), (16, [78, 69, 83, 84, 69, 68]), (32, [71, 69, 78, 69, 82, 65, 84, 79, 82]),
  (64, [78, 79, 70, 82, 69, 69]), (128, [67, 79, 82, 79, 85, 84, 73, 78, 69]), (256, [73, 84, 69, 82, 65, 66, 76, 69, 95, 67, 79, 82, 79, 85, 84, 73, 78, 69]),
  (512, [65, 83, 89, 78, 67, 95, 71, 69, 78, 69, 82, 65, 84, 79, 82])]

noncomputable def getFlagD : D → D → Option D
  | .int a, .str d => some (.str ((flagTab.lookup a).getD d))
  | _, _ => none

noncomputable def rngL (a : Int) : Nat → List D
  | 0 => []
  | n + 1 => .int a :: rngL (a + 1) n

noncomputable def rngD : List D → Option D
  | [.int b] => if small b then some (.lst (rngL 0 b.toNat)) else none
  | [.int a, .int b] => if small a && small b then some (.lst (rngL a (b - a).toNat)) else none
  | _ => none

noncomputable def itemsD : D → Option (List D)
  | .lst l => some l
  | .tup l => some l
  | .str l => some (l.map fun c => .str [c])
  | _ => none

noncomputable def atomEq (x y : D) : Option Bool := match x with
  | .int a => y.int?.map (a == ·)
  | .str a => y.str?.map (a == ·)
  | .bool a => y.bool?.map (a == ·)
  | _ => none
noncomputable def indexD (x : D) : List D → Option Nat
  | [] => none
  | d :: r => (atomEq d x).bind fun b => if b then (indexAll x r).map fun _ => 0 else (indexD x r).map (· + 1)
where
  /-- all that stands behind can be asked too -/
  indexAll (x : D) : List D → Option Unit
  | [] => some ()
  | d :: r => (atomEq d x).bind fun _ => indexAll x r
noncomputable def countD (x : D) : List D → Option Nat
  | [] => some 0
  | d :: r => (atomEq d x).bind fun b => (countD x r).map fun n => if b then n + 1 else n

noncomputable def joinL (sep : List Nat) : List (List Nat) → List Nat
  | [] => []
  | [x] => x
  | x :: r => x ++ sep ++ joinL sep r

noncomputable def strOf (l : List Nat) : Str := ⟨l.toArray⟩

noncomputable def methD (m : Nat) : D → List D → Option D
  | .lst l, [x] => if m == 0 then (if decide (l.length ≤ 1000) then (indexD x l).map fun k => .int k else none) else if m == 1 then (countD x l).map fun k => .int k else none
  | .str s, [.lst x] => if m == 2 then (strsOf x).bind fun l => if decide ((joinL s l).length ≤ 1000) && decide (l.length ≤ 1000) && decide (s.length ≤ 16) then some (.str (joinL s l)) else none else none
  | .str s, [.str sep] => if m == 3 && sep != [] && decide (s.length ≤ 10000) && decide ((Txt.split (strOf s) (strOf sep)).length ≤ 1000) then some (.lst ((Txt.split (strOf s) (strOf sep)).map fun (y : Str) => .str y.cps.toList)) else none
  | _, _ => none

noncomputable def umethD (C : Nat → List D → Option D) (m : Nat) : D → List D → Option D
  | .inst ks vs, ds => if ks.contains m then none else C m (.inst ks vs :: ds)
  | _, _ => none

noncomputable def look (σ : Env1) (x : Nat) : Option Ent := σ.lookup x

noncomputable def upd : Env1 → Nat → Ent → Env1
  | [], x, e => [(x, e)]
  | (y, f) :: r, x, e => if y == x then (y, e) :: r else (y, f) :: upd r x e

noncomputable def readE (σ : Env1) (x : Nat) : Option D :=
  match look σ x with
  | some (.frz d) => some d
  | _ => none
noncomputable def viewE (σ : Env1) (x : Nat) : Option D :=
  match look σ x with
  | some (.frz d) => some d
  | some (.own l) => some (.lst l)
  | some (.ownT ks vs) => some (.tab ks vs)
  | some (.ownI ks vs) => some (.inst ks vs)
  | none => none

noncomputable def updAll : Env1 → List Nat → List D → Option Env1
  | σ, [], [] => some σ
  | σ, x :: xs, d :: ds => updAll (upd σ x (.frz d)) xs ds
  | _, _, _ => none

noncomputable def bindT (σ : Env1) (xs : List Nat) (d : D) : Option Env1 :=
  match xs, d with
  | [x], d => some (upd σ x (.frz d))
  | xs, .tup l => updAll σ xs l
  | _, _ => none

noncomputable def compGo (elt : Env1 → Option D) (tst : Env1 → Option Bool) (xs : List Nat) (σ : Env1) : List D → Option (List D)
  | [] => some []
  | d :: r => (bindT σ xs d).bind fun σ' => (tst σ').bind fun b =>
      if b then (elt σ').bind fun y => (compGo elt tst xs σ r).map (y :: ·) else compGo elt tst xs σ r

noncomputable def del (σ : Env1) (x : Nat) : Env1 := σ.filter fun p => p.1 != x

noncomputable def comp2Go (elt : Env1 → Option D) (it2 : Env1 → Option D) (x y : Nat) (σ : Env1) : List D → Option (List D)
  | [] => some []
  | d :: r => (it2 (upd (del σ y) x (.frz d))).bind fun l2 => (itemsD l2).bind fun l2 => (compGo elt (fun _ => some true) [y] (upd (del σ y) x (.frz d)) l2).bind fun ys => (comp2Go elt it2 x y σ r).map (ys ++ ·)

noncomputable def dcompGo (k v : Env1 → Option D) (x : Nat) (σ : Env1) : List D → List (List Nat) → List D → Option (List (List Nat) × List D)
  | [], ks, vs => some (ks, vs)
  | d :: r, ks, vs => (k (upd σ x (.frz d))).bind fun kd => (v (upd σ x (.frz d))).bind fun vd =>
      match kd with
      | .str s => dcompGo k v x σ r (putT ks vs s vd).1 (putT ks vs s vd).2
      | _ => none

noncomputable def capL (l : List D) : Option D := if decide (l.length ≤ 100000) then some (.lst l) else none
noncomputable def capT (p : List (List Nat) × List D) : Option D := if decide (p.1.length ≤ 100000) then some (.tab p.1 p.2) else none

mutual
noncomputable def evE (C : Nat → List D → Option D) : SE → Env1 → Option D
  | .lit d, _ => some d
  | .var x, σ => readE σ x
  | .bvar x, σ => viewE σ x
  | .bin op a b, σ => (evE C a σ).bind fun x => (evE C b σ).bind fun y => binD op x y
  | .neg a, σ => (evE C a σ).bind negD
  | .not a, σ => (evE C a σ).bind fun x => (truthD x).map fun b => .bool (!b)
  | .cmp op a b, σ => (evE C a σ).bind fun x => (evE C b σ).bind fun y => (cmpD op x y).map .bool
  | .or a b, σ => (evE C a σ).bind fun x => (truthD x).bind fun t => if t then some (.bool true) else (evE C b σ).bind fun y => (truthD y).map .bool
  | .ite t a b, σ => (evE C t σ).bind fun x => (truthD x).bind fun t => if t then evE C a σ else evE C b σ
  | .lst es, σ => (evEs C es σ).map .lst
  | .tup es, σ => (evEs C es σ).map .tup
  | .idx o i, σ => (evE C o σ).bind fun x => (evE C i σ).bind fun y => idxD x y
  | .upto o i, σ => (evE C o σ).bind fun x => (evE C i σ).bind fun y => uptoD x y
  | .from_ o i, σ => (evE C o σ).bind fun x => (evE C i σ).bind fun y => fromD x y
  | .attr o n, σ => (evE C o σ).bind fun x => attrD x n
  | .cat n, _ => catD n
  | .call f es, σ => (evEs C es σ).bind fun ds => C f ds
  | .bf f es, σ => (evEs C es σ).bind fun ds => bfD f ds
  | .meth o m es, σ => (evE C o σ).bind fun x => (evEs C es σ).bind fun ds => methD m x ds
  | .umeth o m es, σ => (evE C o σ).bind fun x => (evEs C es σ).bind fun ds => umethD C m x ds
  | .getFlag a b, σ => (evE C a σ).bind fun x => (evE C b σ).bind fun y => getFlagD x y
  | .rng es, σ => (evEs C es σ).bind rngD
  | .comp elt xs it ifs, σ => (evE C it σ).bind fun l => (itemsD l).bind fun l => (compGo (fun σ' => evE C elt σ') (fun σ' => evTs C ifs σ') xs σ l).bind capL
  | .comp2 elt x it y it2, σ => (evE C it σ).bind fun l => (itemsD l).bind fun l => (comp2Go (fun σ' => evE C elt σ') (fun σ' => evE C it2 σ') x y σ l).bind capL
  | .dcomp k v x it, σ => (evE C it σ).bind fun l => (itemsD l).bind fun l => (dcompGo (fun σ' => evE C k σ') (fun σ' => evE C v σ') x σ l [] []).bind capT
noncomputable def evEs (C : Nat → List D → Option D) : List SE → Env1 → Option (List D)
  | [], _ => some []
  | e :: es, σ => (evE C e σ).bind fun d => (evEs C es σ).map (d :: ·)
noncomputable def evTs (C : Nat → List D → Option D) : List SE → Env1 → Option Bool
  | [], _ => some true
  | e :: es, σ => (evE C e σ).bind fun d => (truthD d).bind fun b => if b then evTs C es σ else some false
end

inductive Fl where
  | next | brk | ret (d : D)

noncomputable def frzEnt : Ent → Ent
  | .frz d => .frz d
  | .own l => .frz (.lst l)
  | .ownT ks vs => .frz (.tab ks vs)
  | .ownI ks vs => .frz (.inst ks vs)

noncomputable def frzAll (σ : Env1) : Env1 := σ.map fun p => (p.1, frzEnt p.2)
noncomputable def frzSome (xs : List Nat) (σ : Env1) : Env1 := σ.map fun p => (p.1, if xs.contains p.1 then frzEnt p.2 else p.2)

noncomputable def newE : D → Option Ent
  | .lst l => some (.own l)
  | .tab ks vs => some (.ownT ks vs)
  | _ => none

noncomputable def setAt : Ent → D → D → Option Ent
  | .own l, .int i, d => if decide (0 ≤ i) && decide (i < l.length) && decide (i < 100000) then some (.own (l.set i.toNat d)) else none
  | .ownT ks vs, .str s, d => if decide (ks.length ≤ 1000) then some (.ownT (putT ks vs s d).1 (putT ks vs s d).2) else none
  | _, _, _ => none

noncomputable def whileGo (t : Env1 → Option Bool) (body : Env1 → Option (Env1 × Fl)) : Nat → Env1 → Option (Env1 × Fl)
  | 0, _ => none
  | n + 1, σ => (t σ).bind fun b => if b then (body σ).bind fun p => match p.2 with
      | .next => whileGo t body n p.1
      | .brk => some (p.1, .next)
      | .ret d => some (p.1, .ret d)
    else some (σ, .next)

noncomputable def forGo (xs : List Nat) (body els : Env1 → Option (Env1 × Fl)) : List D → Env1 → Option (Env1 × Fl)
  | [], σ => els σ
  | d :: r, σ => (bindT σ xs d).bind fun σ' => (body σ').bind fun p => match p.2 with
      | .next => forGo xs body els r p.1
      | .brk => some (p.1, .next)
      | .ret d => some (p.1, .ret d)

noncomputable def updEach : Env1 → List Nat → D → Env1
  | σ, [], _ => σ
  | σ, x :: xs, d => updEach (upd σ x (.frz d)) xs d

noncomputable def augD (op : Bop) : D → D → Option D
  | .int a, .int b => match op with
    | .add => some (.int (a + b))
    | .sub => some (.int (a - b))
    | .xor => some (.int (Builtin.bitXor a b))
    | _ => none
  | _, _ => none

mutual
noncomputable def run (C : Nat → List D → Option D) : SS → Env1 → Option (Env1 × Fl)
  | .asg x e, σ => (evE C e σ).map fun d => (upd σ x (.frz d), .next)
  | .asgs xs e, σ => (evE C e σ).map fun d => (updEach σ xs d, .next)
  | .asgT xs e, σ => (evE C e σ).bind fun d => match d with
    | .tup l => (updAll σ xs l).map fun σ' => (σ', .next)
    | _ => none
  | .new x e, σ => (evE C e σ).bind fun d => (newE d).map fun t => (upd σ x t, .next)
  | .setI x i e, σ => (evE C e σ).bind fun d => (look σ x).bind fun t => (evE C i σ).bind fun k => (setAt t k d).map fun t' => (upd σ x t', .next)
  | .augI x i op e, σ => (evE C i σ).bind fun k => (look σ x).bind fun t => match t with
    | .own l => (idxD (.lst l) k).bind fun old => (evE C e σ).bind fun d => (augD op old d).bind fun r => (setAt (.own l) k r).map fun t' => (upd σ x t', .next)
    | _ => none
  | .aug x op e, σ => (readE σ x).bind fun old => (evE C e σ).bind fun d => (augD op old d).map fun r => (upd σ x (.frz r), .next)
  | .setA x n e, σ => (evE C e σ).bind fun d => (look σ x).bind fun t => match t with
    | .ownI ks vs => if decide (ks.length ≤ 50) then some (upd σ x (.ownI (putA ks vs n d).1 (putA ks vs n d).2), .next) else none
    | _ => none
  | .app x e, σ => (evE C e σ).bind fun d => (look σ x).bind fun t => match t with
    | .own l => if decide (l.length ≤ 1000) then some (upd σ x (.own (l ++ [d])), .next) else none
    | _ => none
  | .ite t a b, σ => (evE C t σ).bind fun d => (truthD d).bind fun c => if c then runs C a σ else runs C b σ
  | .for_ xs it body els, σ => (evE C it σ).bind fun l => (itemsD l).bind fun l => forGo xs (fun σ' => runs C body σ') (fun σ' => runs C els σ') l σ
  | .while_ t body, σ => whileGo (fun σ' => (evE C t σ').bind truthD) (fun σ' => runs C body σ') 100 σ
  | .ret e, σ => (evE C e (frzAll σ)).map fun d => (σ, .ret d)
  | .brk, σ => some (σ, .brk)
  | .frz xs, σ => some (frzSome xs σ, .next)
noncomputable def runs (C : Nat → List D → Option D) : List SS → Env1 → Option (Env1 × Fl)
  | [], σ => some (σ, .next)
  | s :: r, σ => (run C s σ).bind fun p => match p.2 with
    | .next => runs C r p.1
    | f => some (p.1, f)
end

noncomputable def callD (C : Nat → List D → Option D) (ps : List Nat) (body : List SS) (ds : List D) : Option D :=
  (updAll [] ps ds).bind fun σ => (runs C body σ).bind fun p => match p.2 with
    | .ret d => some d
    | _ => none
theorem nos {α : Type} {y : α} {P : Prop} (h : (none : Option α) = some y) : P := by cases h
theorem byF2 {α β : Type} {G : α → β → Prop} (x : α) (y : β) (h : ∀ F : α → β → Prop, (∀ x y, G x y → F x y) → F x y) : G x y := h G fun _ _ h => h
theorem nob {P : Prop} (h : false = true) : P := by cases h
theorem int_inv {y : D} {a : Int} (h : y.int? = some a) : y = .int a := by
  cases y with
  | int b => exact congrArg D.int (Option.some.inj h)
  | _ => exact nos h
theorem flt_inv {y : D} {a : UInt64} (h : y.flt? = some a) : y = .flt a := by
  cases y with
  | flt b => exact congrArg D.flt (Option.some.inj h)
  | _ => exact nos h
theorem str_inv {y : D} {a : List Nat} (h : y.str? = some a) : y = .str a := by
  cases y with
  | str b => exact congrArg D.str (Option.some.inj h)
  | _ => exact nos h
theorem bool_inv {y : D} {a : Bool} (h : y.bool? = some a) : y = .bool a := by
  cases y with
  | bool b => exact congrArg D.bool (Option.some.inj h)
  | _ => exact nos h
theorem tup_inv {y : D} {a : List D} (h : y.tup? = some a) : y = .tup a := by
  cases y with
  | tup b => exact congrArg D.tup (Option.some.inj h)
  | _ => exact nos h
theorem lst_inv {y : D} {a : List D} (h : y.lst? = some a) : y = .lst a := by
  cases y with
  | lst b => exact congrArg D.lst (Option.some.inj h)
  | _ => exact nos h
end Mv
end
section
open PySem PySem.W PyProof.Rows
set_option Elab.async false
namespace Mv

inductive GR where
  | fn | cls | bf (b : Bf) | rng | flags

structure Tb where
  nl : List Str
  ms : List Str
  ats : List Str
  gl : List (Str × GR)

noncomputable def Tb.ix (T : Tb) (x : Str) : Option Nat := T.nl.findIdx? (· == x)

noncomputable abbrev Kinds := List (Str × NameKind)

noncomputable def isVar (k : Kinds) (x : Str) : Bool := match k.lookup x with
  | some .local | some .cell | some .free => true
  | _ => false
noncomputable def isStored (k : Kinds) (x : Str) : Bool := match k.lookup x with
  | some .local | some .cell => true
  | _ => false
noncomputable def isGlob (k : Kinds) (x : Str) : Bool := match k.lookup x with
  | some .globalImplicit => x != ("__debug__" : Str)
  | _ => false

noncomputable def relab (k : Kinds) (names : List (Str × NameKind)) : Kinds :=
  names.map fun (n, q) => if (q == .free && true && k.lookup n == some .cell) then (n, .cell) else (n, q)

noncomputable def litD : Const → Option D
  | .none => some .nn
  | .bool b => some (.bool b)
  | .int i => some (.int i)
  | .float b => some (.flt b)
  | .str s => some (.str s.cps.toList)
  | _ => none

noncomputable def bopOf : Operator → Option Bop
  | .Add => some .add | .Sub => some .sub | .Mult => some .mul | .Div => some .div | .FloorDiv => some .fdiv | .Mod => some .mod
  | .Pow => some .pow | .LShift => some .shl | .BitAnd => some .and | .BitXor => some .xor
  | _ => none
noncomputable def bmOf (m : Str) : Option Nat :=
  if m == ("index" : Str) then some 0 else if m == ("count" : Str) then some 1 else if m == ("join" : Str) then some 2 else if m == ("split" : Str) then some 3 else none
noncomputable def catOf (m : Str) : Option Nat :=
  if m == ("S" : Str) then some 6 else if m == ("T" : Str) then some 7 else none
noncomputable def copOf : CmpOp → Option Cop
  | .Eq => some .eq | .NotEq => some .ne | .Lt => some .lt | .LtE => some .le | .Gt => some .gt | .GtE => some .ge
  | _ => none

noncomputable def namesOk (names : List (Str × NameKind)) : Bool :=
  names.all (fun y => y.2 != .local || names.lookup y.1 == some .local) && names.all (fun y => y.2 != .cell || names.lookup y.1 == some .cell) &&
  names.all (fun y => y.2 != .free || names.lookup y.1 == some .free)

noncomputable def ownOk (T : Tb) (names : List (Str × NameKind)) (xs : List Nat) : Bool :=
  names.all fun y => !(y.2 == .local || y.2 == .cell) || (match T.ix y.1 with
    | some i => xs.contains i
    | none => true)
noncomputable def freeOk (k : Kinds) (names : List (Str × NameKind)) : Bool :=
  names.all fun y => y.2 != .free || k.lookup y.1 == some .cell || k.lookup y.1 == some .free

noncomputable def oneOf {α : Type} : List α → Option α
  | [a] => some a
  | _ => none
noncomputable def twoOf {α : Type} : List α → Option (α × α)
  | [a, b] => some (a, b)
  | _ => none
noncomputable def nameStr : PySem.Expr → Option Str
  | .Name x _ => some x
  | _ => none
noncomputable def isCallX : PySem.Expr → Bool
  | .Call .. => true
  | _ => false
noncomputable def tupX : PySem.Expr → Option (List PySem.Expr)
  | .Tuple es _ _ => some es
  | _ => none
noncomputable def sliceX : PySem.Expr → Option (Option PySem.Expr × Option PySem.Expr × Option PySem.Expr)
  | .Slice a b c _ => some (a, b, c)
  | _ => none
noncomputable def isUSub : UnaryOp → Bool
  | .USub => true
  | _ => false
noncomputable def isNot : UnaryOp → Bool
  | .Not => true
  | _ => false
noncomputable def isOr : BoolOp → Bool
  | .Or => true
  | _ => false
noncomputable def callName : PySem.Expr → Option (Str × List PySem.Expr)
  | .Call g es kw _ => if kw.isEmpty then (nameStr g).map fun f => (f, es) else none
  | _ => none
noncomputable def superX (o : PySem.Expr) : Bool := match callName o with
  | some (f, _) => f == ("super" : Str)
  | none => false

noncomputable def tgtOf (T : Tb) (k : Kinds) (e : PySem.Expr) : Option (List Nat) := match nameStr e with
  | some x => if isStored k x then (T.ix x).map fun i => [i] else none
  | none => (tupX e).bind fun es => (twoOf es).bind fun p => (nameStr p.1).bind fun x => (nameStr p.2).bind fun y => if isStored k x && isStored k y && x != y then (T.ix x).bind fun i => (T.ix y).map fun j => [i, j] else none

mutual
noncomputable def cE (T : Tb) : Nat → Kinds → PySem.Expr → Option SE
  | 0, _, _ => none
  | n + 1, k, e => match e with
    | .Constant c _ _ => (litD c).map .lit
    | .Name x _ => if isVar k x && x != ("__debug__" : Str) && x != ("__classdict__" : Str) then (T.ix x).map .var else none
    | .BinOp l op r _ => (bopOf op).bind fun op => (cE T n k l).bind fun a => (cE T n k r).map fun b => .bin op a b
    | .UnaryOp op a _ => if isUSub op then (cE T n k a).map .neg else none
    | .Compare l ops rs _ => (oneOf ops).bind fun op => (oneOf rs).bind fun r => (copOf op).bind fun op => (cE T n k l).bind fun a => (cE T n k r).map fun b => .cmp op a b
    | .IfExp t a b _ => (cT T n k t).bind fun t => (cE T n k a).bind fun a => (cE T n k b).map fun b => .ite t a b
    | .List es _ => (cEs T n k es).map .lst
    | .Tuple es _ _ => (cEs T n k es).map .tup
    | .Subscript o i _ => match sliceX i with
      | some p => if (nameStr o).isSome && p.2.2.isNone then (cE T n k o).bind fun o => match p.1 with
          | none => p.2.1.bind fun u => (cE T n k u).map fun u => .upto o u
          | some u => if p.2.1.isNone then (cE T n k u).map fun u => .from_ o u else none
        else none
      | none => (cB T n k o).bind fun o => (cE T n k i).map fun i => .idx o i
    | .Attribute o a _ => if a == ("__class__" : Str) || a == ("__dict__" : Str) then none else match nameStr o with
      | some x => if isGlob k x then (match T.gl.lookup x with
          | some .cls => (catOf a).map .cat
          | _ => none) else if T.ats.contains a then (cB T n k o).bind fun o => (T.ix a).map fun i => .attr o i else none
      | none => if isCallX o then none else if T.ats.contains a then (cB T n k o).bind fun o => (T.ix a).map fun i => .attr o i else none
    | .Call g es kw pos => if kw.isEmpty then (match g with
      | .Name f _ => if isGlob k f && decide (es.length ≤ 30) then (match T.gl.lookup f with
          | some .fn => (T.ix f).bind fun i => (cEs T n k es).map fun es => .call i es
          | some .cls => (T.ix f).bind fun i => (cEs T n k es).map fun es => .call i es
          | some (.bf b) => (match b with
            | .len => (oneOf es).bind fun e => (cB T n k e).map fun e => .bf .len [e]
            | b => (cEs T n k es).map fun es => .bf b es)
          | _ => none) else none
      | .Attribute o m apos => if decide (es.length < 30) && apos.endLine == pos.line then (match (nameStr o).map (isGlob k) with
          | some true => (nameStr o).bind fun x => (match T.gl.lookup x with
            | some .flags => (twoOf es).bind fun p => if m == ("get" : Str) then (cE T n k p.1).bind fun a => (cE T n k p.2).map fun b => .getFlag a b else none
            | _ => none)
          | _ => if superX o then none else (cE T n k o).bind fun o => if T.ms.contains m then (T.ix m).bind fun m => (cEs T n k es).map fun es => .umeth o m es else (bmOf m).bind fun m => (cEs T n k es).map fun es => .meth o m es) else none
      | _ => none) else none
    | .ListComp elt gens sc _ => if sc.kind == .function && namesOk sc.names && freeOk k sc.names then (match gens with
      | [g] => if g.is_async == 0 then
          (cI T n k g.iter).bind fun it => (tgtOf T sc.names g.target).bind fun xs => if ownOk T sc.names xs then (cTs T n (relab k sc.names) g.ifs).bind fun ifs => (cE T n (relab k sc.names) elt).map fun elt => .comp elt xs it ifs else none
        else none
      | [g, g2] => if g.is_async == 0 && g2.is_async == 0 && g.ifs.isEmpty && g2.ifs.isEmpty then
          (cI T n k g.iter).bind fun it => (tgtOf T sc.names g.target).bind fun xs => (oneOf xs).bind fun x => (tgtOf T sc.names g2.target).bind fun ys => (oneOf ys).bind fun y =>
            if ownOk T sc.names [x, y] && x != y then (cI T n (relab k sc.names) g2.iter).bind fun it2 => (cE T n (relab k sc.names) elt).map fun elt => .comp2 elt x it y it2 else none
        else none
      | _ => none) else none
    | .DictComp kk v gens sc _ => if sc.kind == .function && namesOk sc.names && freeOk k sc.names then (oneOf gens).bind fun g => if g.is_async == 0 && g.ifs.isEmpty then
          (cI T n k g.iter).bind fun it => (tgtOf T sc.names g.target).bind fun xs => (oneOf xs).bind fun x => if ownOk T sc.names [x] then (cE T n (relab k sc.names) kk).bind fun kk => (cE T n (relab k sc.names) v).map fun v => .dcomp kk v x it else none
        else none
      else none
    | _ => none
noncomputable def cB (T : Tb) : Nat → Kinds → PySem.Expr → Option SE
  | 0, _, _ => none
  | n + 1, k, e => match nameStr e with
    | some x => if isVar k x && x != ("__debug__" : Str) && x != ("__classdict__" : Str) then (T.ix x).map .bvar else none
    | none => cE T n k e
noncomputable def cT (T : Tb) : Nat → Kinds → PySem.Expr → Option SE
  | 0, _, _ => none
  | n + 1, k, e => match e with
    | .UnaryOp op a _ => if isNot op then (cT T n k a).map .not else none
    | .BoolOp op es _ => if isOr op then (twoOf es).bind fun p => (cT T n k p.1).bind fun a => (cT T n k p.2).map fun b => .or a b else none
    | .IfExp .. => none
    | .Compare l ops rs _ => (oneOf ops).bind fun op => (oneOf rs).bind fun r => (copOf op).bind fun op => (cE T n k l).bind fun a => (cE T n k r).map fun b => .cmp op a b
    | e => cE T n k e
noncomputable def cI (T : Tb) : Nat → Kinds → PySem.Expr → Option SE
  | 0, _, _ => none
  | n + 1, k, e => match callName e with
    | some p => if isGlob k p.1 && decide (p.2.length ≤ 30) then (match T.gl.lookup p.1 with
        | some .rng => (cEs T n k p.2).map .rng
        | _ => cE T n k e) else none
    | none => cE T n k e
noncomputable def cEs (T : Tb) : Nat → Kinds → List PySem.Expr → Option (List SE)
  | 0, _, _ => none
  | _ + 1, _, [] => some []
  | n + 1, k, e :: es => (cE T n k e).bind fun a => (cEs T n k es).map (a :: ·)
noncomputable def cTs (T : Tb) : Nat → Kinds → List PySem.Expr → Option (List SE)
  | 0, _, _ => none
  | _ + 1, _, [] => some []
  | n + 1, k, e :: es => (cT T n k e).bind fun a => (cTs T n k es).map (a :: ·)
end

mutual
noncomputable def bare : SE → List Nat
  | .lit _ => [] | .var x => [x] | .bvar _ => [] | .bin _ a b => bare a ++ bare b | .neg a => bare a | .not a => bare a | .cmp _ a b => bare a ++ bare b
  | .or a b => bare a ++ bare b | .ite t a b => bare t ++ bare a ++ bare b | .lst es => bares es | .tup es => bares es | .idx a b => bare a ++ bare b
  | .upto a b => bare a ++ bare b | .from_ a b => bare a ++ bare b | .attr o _ => bare o | .cat _ => [] | .call _ es => bares es | .bf _ es => bares es
  | .meth o _ es => bare o ++ bares es | .umeth o _ es => bare o ++ bares es | .getFlag a b => bare a ++ bare b | .rng es => bares es | .comp a _ it ifs => bare a ++ bare it ++ bares ifs
  | .comp2 a _ it _ it2 => bare a ++ bare it ++ bare it2 | .dcomp k v _ it => bare k ++ bare v ++ bare it
noncomputable def bares : List SE → List Nat
  | [] => []
  | e :: es => bare e ++ bares es
end

noncomputable def mulX : PySem.Expr → Bool
  | .BinOp l op _ _ => (match l with
    | .List .. => (match op with
      | .Mult => true
      | _ => false)
    | _ => false)
  | _ => false
noncomputable def freshK : PySem.Expr → Nat
  | .List .. => 1
  | .ListComp .. => 2
  | .DictComp .. => 2
  | .BinOp l op r p => if mulX (.BinOp l op r p) then 3 else if (nameStr l).isSome && mulX r then (match op with
    | .Add => 4
    | _ => 0) else 0
  | _ => 0
noncomputable def freshX (e : PySem.Expr) : Bool := freshK e != 0

noncomputable def fz (M : List Nat) (e : SE) (s : SS) : List SS :=
  match (bare e).filter M.contains with
  | [] => [s]
  | l => [.frz l, s]

noncomputable def nameIx (T : Tb) (k : Kinds) (e : PySem.Expr) : Option Nat := (nameStr e).bind fun x => if isStored k x then T.ix x else none
noncomputable def nameIxs (T : Tb) (k : Kinds) : List PySem.Expr → Option (List Nat)
  | [] => some []
  | e :: es => (nameIx T k e).bind fun a => (nameIxs T k es).map (a :: ·)

noncomputable def isComp : PySem.Expr → Bool
  | .ListComp .. | .SetComp .. | .DictComp .. => true
  | _ => false
noncomputable def isTup (e : PySem.Expr) : Bool := (tupX e).isSome
noncomputable def okName (k : Kinds) (x : Str) : Bool := isVar k x && x != ("__debug__" : Str) && x != ("__classdict__" : Str)
noncomputable def appOf : PySem.Expr → Option (Str × Str × Pos × PySem.Expr × Pos)
  | .Call g es kw cp => (match g with
    | .Attribute o m mp => if kw.isEmpty then (nameStr o).bind fun x => (oneOf es).map fun e => (x, m, mp, e, cp) else none
    | _ => none)
  | _ => none

mutual
noncomputable def cS (T : Tb) (M : List Nat) : Nat → Kinds → PySem.Stmt → Option (List SS)
  | 0, _, _ => none
  | n + 1, k, s => match s with
    | .Return oe _ => oe.bind fun e => (cE T n k e).map fun e => [.ret e]
    | .Break _ => some [.brk]
    | .Expr e _ => (appOf e).bind fun p => if p.2.1 == ("append" : Str) && okName k p.1 && p.2.2.1.endLine == p.2.2.2.2.line then (T.ix p.1).bind fun x => (cE T n k p.2.2.2.1).map fun e => fz M e (.app x e) else none
    | .Assign ts e _ => match oneOf ts with
      | some t => (match t with
        | .Name x _ => if isStored k x then (T.ix x).bind fun x => (cE T n k e).bind fun e' => if M.contains x then (if freshX e then some (fz M e' (.new x e')) else none) else some (fz M e' (.asg x e')) else none
        | .Tuple ts _ _ => if isComp e then none else (match tupX e with
          | some vs => (twoOf ts).bind fun tp => (nameStr tp.1).bind fun x => (nameStr tp.2).bind fun y => (twoOf vs).bind fun vp => if isStored k x && isStored k y && x != y && !([vp.1, vp.2].all (foldedForSure 8)) && !([vp.1, vp.2].all (constantsAlone 8)) then (T.ix x).bind fun x => (T.ix y).bind fun y => (cE T n k e).map fun e => fz M e (.asgT [x, y] e) else none
          | none => (nameIxs T k ts).bind fun xs => (cE T n k e).map fun e => fz M e (.asgT xs e))
        | .Attribute o a _ => (nameStr o).bind fun x => if okName k x && T.ats.contains a then (T.ix x).bind fun x => (T.ix a).bind fun a => (cE T n k e).map fun e => fz M e (.setA x a e) else none
        | .Subscript o i _ => (nameStr o).bind fun x => if okName k x && (sliceX i).isNone then (T.ix x).bind fun x => (cE T n k i).bind fun i => (cE T n k e).map fun e => fz M (.tup [i, e]) (.setI x i e) else none
        | _ => none)
      | none => if isComp e || isTup e || decide (ts.length < 2) then none else (nameIxs T k ts).bind fun xs => (cE T n k e).map fun e => fz M e (.asgs xs e)
    | .AugAssign t op e _ => (match t with
      | .Name x _ => if isStored k x && x != ("__debug__" : Str) then (bopOf op).bind fun op => (T.ix x).bind fun x => (cE T n k e).map fun e => fz M e (.aug x op e) else none
      | .Subscript o i _ => (nameStr o).bind fun x => if okName k x && (sliceX i).isNone then (bopOf op).bind fun op => (T.ix x).bind fun x => (cE T n k i).bind fun i => (cE T n k e).map fun e => fz M (.tup [i, e]) (.augI x i op e) else none
      | _ => none)
    | .If t a b _ => (cT T n k t).bind fun t => (cSs T M n k a).bind fun a => (cSs T M n k b).map fun b => fz M t (.ite t a b)
    | .For t it body els _ => (nameStr t).bind fun x => if isStored k x then (cI T n k it).bind fun it => (T.ix x).bind fun x => (cSs T M n k body).bind fun body => (cSs T M n k els).map fun els => fz M it (.for_ [x] it body els) else none
    | .While t body els _ => if els.isEmpty then (cT T n k t).bind fun t => (cSs T M n k body).map fun body => [.while_ t body] else none
    | _ => none
noncomputable def cSs (T : Tb) (M : List Nat) : Nat → Kinds → List PySem.Stmt → Option (List SS)
  | 0, _, _ => none
  | _ + 1, _, [] => some []
  | n + 1, k, s :: r => (cS T M n k s).bind fun a => (cSs T M n k r).map (a ++ ·)
end

theorem map_inv {α β : Type} {o : Option α} {f : α → β} {y : β} (h : o.map f = some y) : ∃ x, o = some x ∧ f x = y := by
  cases o with
  | none => first | exact nos h | exact nob h | nomatch h
  | some x => exact ⟨x, rfl, Option.some.inj h⟩
theorem bind_inv {α β : Type} {o : Option α} {f : α → Option β} {y : β} (h : o.bind f = some y) : ∃ x, o = some x ∧ f x = some y := by
  cases o with
  | none => first | exact nos h | exact nob h | nomatch h
  | some x => exact ⟨x, rfl, h⟩
theorem if_inv {α : Type} {b : Bool} {x : Option α} {y : α} (h : (if b = true then x else none) = some y) : b = true ∧ x = some y := by
  cases b with
  | true => exact ⟨rfl, h⟩
  | false => first | exact nos h | exact nob h | nomatch h
theorem if_inv' {α : Type} {b : Bool} {x : Option α} {y : α} (h : (if b = true then none else x) = some y) : b = false ∧ x = some y := by
  cases b with
  | true => first | exact nos h | exact nob h | nomatch h
  | false => exact ⟨rfl, h⟩
theorem and_inv {a b : Bool} (h : (a && b) = true) : a = true ∧ b = true := by
  cases a with
  | true => exact ⟨rfl, h⟩
  | false => first | exact nos h | exact nob h | nomatch h
theorem or_inv {a b : Bool} (h : (a || b) = false) : a = false ∧ b = false := by
  cases a with
  | true => first | exact nos h | exact nob h | nomatch h
  | false => exact ⟨rfl, h⟩
theorem not_inv {a : Bool} (h : (!a) = true) : a = false := by
  cases a with
  | true => first | exact nos h | exact nob h | nomatch h
  | false => rfl
theorem ne_inv {α : Type} [BEq α] {x y : α} (h : (x != y) = true) : (x == y) = false := not_inv h
theorem oneOf_inv {α : Type} {l : List α} {a : α} (h : oneOf l = some a) : l = [a] := by
  match l, h with
  | [_], h => rw [Option.some.inj h]
theorem twoOf_inv {α : Type} {l : List α} {p : α × α} (h : twoOf l = some p) : l = [p.1, p.2] := by
  match l, h with
  | [_, _], h => cases Option.some.inj h; rfl
theorem tupX_inv {e : PySem.Expr} {l : List PySem.Expr} (h : tupX e = some l) : ∃ a p, e = .Tuple l a p := by
  cases e with
  | Tuple => cases Option.some.inj h; exact ⟨_, _, rfl⟩
  | _ => first | exact nos h | exact nob h | nomatch h
theorem sliceX_inv {e : PySem.Expr} {p : Option PySem.Expr × Option PySem.Expr × Option PySem.Expr} (h : sliceX e = some p) : ∃ q, e = .Slice p.1 p.2.1 p.2.2 q := by
  cases e with
  | Slice => cases Option.some.inj h; exact ⟨_, rfl⟩
  | _ => first | exact nos h | exact nob h | nomatch h
theorem sliceX_none {e : PySem.Expr} (h : sliceX e = none) : ∀ a b d p, e ≠ .Slice a b d p := by
  rintro a b d p rfl
  first | exact nos h | exact nob h | nomatch h
theorem isNone_inv {α : Type} {o : Option α} (h : o.isNone = true) : o = none := by
  cases o with
  | none => rfl
  | some => first | exact nos h | exact nob h | nomatch h
theorem isSome_inv {α : Type} {o : Option α} (h : o.isSome = true) : ∃ x, o = some x := by
  cases o with
  | none => first | exact nos h | exact nob h | nomatch h
  | some x => exact ⟨x, rfl⟩
theorem isEmpty_inv {α : Type} {l : List α} (h : l.isEmpty = true) : l = [] := by
  cases l with
  | nil => rfl
  | cons => first | exact nos h | exact nob h | nomatch h
inductive NameV : PySem.Expr → Str → Prop
  | mk (x : Str) (p : Pos) : NameV (.Name x p) x
theorem nameV {e : PySem.Expr} {x : Str} (h : nameStr e = some x) : NameV e x := by
  cases e with
  | Name y p => exact Option.some.inj h ▸ .mk y p
  | _ => first | exact nos h | exact nob h | nomatch h
inductive CallV : PySem.Expr → Str × List PySem.Expr → Prop
  | mk (x : Str) (a : Pos) (es : List PySem.Expr) (q : Pos) : CallV (.Call (.Name x a) es [] q) (x, es)
theorem callV2 {g : PySem.Expr} {es : List PySem.Expr} {q : Pos} {x : Str} (h : NameV g x) : CallV (.Call g es [] q) (x, es) := by
  cases h
  exact .mk _ _ _ _
theorem callName_inv {e : PySem.Expr} {p : Str × List PySem.Expr} (h : callName e = some p) : CallV e p := by
  cases e with
  | Call g es kw q =>
    cases kw with
    | nil =>
      obtain ⟨f, hf, rfl⟩ := map_inv (o := nameStr g) (f := fun f => (f, es)) h
      exact callV2 (nameV hf)
    | cons => first | exact nos h | exact nob h | nomatch h
  | _ => first | exact nos h | exact nob h | nomatch h
theorem superX_no {o : PySem.Expr} (h : superX o = false) : ∀ x p q, o = .Call (.Name x p) [] [] q → (x != ("super" : Str)) = true := by
  rintro x p q rfl
  have h' : (x == ("super" : Str)) = false := h
  rw [bne, h']; rfl
theorem isCallX_no {o : PySem.Expr} (h : isCallX o = false) : ∀ f es kw q, o ≠ .Call f es kw q := by
  rintro f es kw q rfl
  first | exact nos h | exact nob h | nomatch h
inductive AppV : PySem.Expr → Str × Str × Pos × PySem.Expr × Pos → Prop
  | mk (x : Str) (q : Pos) (m : Str) (mp : Pos) (a : PySem.Expr) (cp : Pos) : AppV (.Call (.Attribute (.Name x q) m mp) [a] [] cp) (x, m, mp, a, cp)
theorem appV2 {o a : PySem.Expr} {m : Str} {mp cp : Pos} {x : Str} {es : List PySem.Expr} (h : NameV o x) (he : oneOf es = some a) : AppV (.Call (.Attribute o m mp) es [] cp) (x, m, mp, a, cp) := by
  cases h
  cases oneOf_inv he
  exact .mk _ _ _ _ _ _
theorem appOf_inv {e : PySem.Expr} {p : Str × Str × Pos × PySem.Expr × Pos} (h : appOf e = some p) : AppV e p := by
  cases e with
  | Call g es kw cp =>
    cases g with
    | Attribute o m mp =>
      cases kw with
      | nil =>
        obtain ⟨x, hx, h⟩ := bind_inv (o := nameStr o) (f := fun x => (oneOf es).map fun e => (x, m, mp, e, cp)) h
        obtain ⟨a, ha, rfl⟩ := map_inv h
        exact appV2 (nameV hx) ha
      | cons => first | exact nos h | exact nob h | nomatch h
    | _ => first | exact nos h | exact nob h | nomatch h
  | _ => first | exact nos h | exact nob h | nomatch h
inductive TgtV (T : Tb) (k : Kinds) : PySem.Expr → List Nat → Prop
  | one (x : Str) (p : Pos) (i : Nat) (h : isStored k x = true) (hi : T.ix x = some i) : TgtV T k (.Name x p) [i]
  | two (x : Str) (p : Pos) (y : Str) (q : Pos) (a : Nat) (b : Pos) (i j : Nat) (h : isStored k x = true) (h' : isStored k y = true) (hn : (x != y) = true) (hi : T.ix x = some i) (hj : T.ix y = some j) : TgtV T k (.Tuple [.Name x p, .Name y q] a b) [i, j]
theorem tgtV1 {T : Tb} {k : Kinds} {e : PySem.Expr} {x : Str} {xs : List Nat} (v : NameV e x) (h : (if isStored k x = true then (T.ix x).map fun i => [i] else none) = some xs) : TgtV T k e xs := by
  cases v
  obtain ⟨hs, h⟩ := if_inv h
  obtain ⟨i, hi, rfl⟩ := map_inv h
  exact .one _ _ _ hs hi
theorem tgtV2 {T : Tb} {k : Kinds} {e f : PySem.Expr} {a : Nat} {b : Pos} {x y : Str} {xs : List Nat} (v : NameV e x) (w : NameV f y) (h : (if (isStored k x && isStored k y && x != y) = true then (T.ix x).bind fun i => (T.ix y).map fun j => [i, j] else none) = some xs) : TgtV T k (.Tuple [e, f] a b) xs := by
  cases v
  cases w
  obtain ⟨hs, h⟩ := if_inv h
  obtain ⟨i, hi, h⟩ := bind_inv h
  obtain ⟨j, hj, rfl⟩ := map_inv h
  exact .two _ _ _ _ _ _ _ _ (and_inv (and_inv hs).1).1 (and_inv (and_inv hs).1).2 (and_inv hs).2 hi hj
theorem tgtOf_inv {T : Tb} {k : Kinds} {e : PySem.Expr} {xs : List Nat} (h : tgtOf T k e = some xs) : TgtV T k e xs := by
  unfold tgtOf at h
  cases hn : nameStr e with
  | some x => rw [hn] at h; exact tgtV1 (nameV hn) h
  | none =>
    rw [hn] at h
    obtain ⟨es, he, h⟩ := bind_inv h
    obtain ⟨pr, h2, h⟩ := bind_inv h
    obtain ⟨x, hx, h⟩ := bind_inv h
    obtain ⟨y, hy, hz⟩ := bind_inv h
    obtain ⟨a, b, rfl⟩ := tupX_inv he
    cases twoOf_inv h2
    exact tgtV2 (nameV hx) (nameV hy) hz

inductive MulV : PySem.Expr → Prop
  | mk (es : List PySem.Expr) (p : Pos) (r : PySem.Expr) (pos : Pos) : MulV (.BinOp (.List es p) .Mult r pos)
theorem mulV {l r : PySem.Expr} {op : Operator} {p : Pos} (h : mulX (.BinOp l op r p) = true) : MulV (.BinOp l op r p) := by
  cases l with
  | List es q => cases op with
    | Mult => exact .mk _ _ _ _
    | _ => first | exact nos h | exact nob h | nomatch h
  | _ => first | exact nos h | exact nob h | nomatch h
inductive FreshV : PySem.Expr → Prop
  | lst (es : List PySem.Expr) (p : Pos) : FreshV (.List es p)
  | comp {e : PySem.Expr} (h : isComp e = true) : FreshV e
  | mul {e : PySem.Expr} (h : MulV e) : FreshV e
  | add {z : Str} {zp : Pos} {r : PySem.Expr} {pos : Pos} (h : MulV r) : FreshV (.BinOp (.Name z zp) .Add r pos)
theorem freshV {e : PySem.Expr} (h : freshX e = true) : FreshV e := by
  cases e with
  | List es p => exact .lst es p
  | ListComp => exact .comp rfl
  | DictComp => exact .comp rfl
  | BinOp l op r p =>
    cases hm : mulX (.BinOp l op r p) with
    | true => exact .mul (mulV hm)
    | false =>
      have h' : ((if mulX (.BinOp l op r p) = true then 3 else if ((nameStr l).isSome && mulX r) = true then (match op with
        | .Add => 4
        | _ => 0) else 0) != 0) = true := h
      clear h
      rw [hm] at h'
      cases hx : nameStr l with
      | none => rw [hx] at h'; first | exact nos h' | exact nob h' | nomatch h'
      | some x =>
        rw [hx] at h'
        cases hr : mulX r with
        | false => rw [hr] at h'; first | exact nos h' | exact nob h' | nomatch h'
        | true =>
          rw [hr] at h'
          cases op with
          | Add =>
            cases nameV hx with
            | mk x xp =>
              cases r with
              | BinOp => exact .add (mulV hr)
              | _ => first | exact nos hr | exact nob hr | nomatch hr
          | _ => first | exact nos h' | exact nob h' | nomatch h'
  | _ => first | exact nos h | exact nob h | nomatch h
end Mv
end
section
open PySem PySem.W PyProof.Rows
set_option Elab.async false
namespace Mv

structure Cx where
  prog : Program
  w : World
  T : Tb
  hb : Heap
  mg : Str → Option Value
  mb : Str → Option Value
  C : Addr
  fa : Nat → Addr
  fl : Addr

noncomputable def Keep (h h' : Heap) : Prop := ∀ b o, h.get? b = some o → h'.get? b = some o
theorem Keep.refl (h : Heap) : Keep h h := fun _ _ e => e
theorem Keep.trans {h h' h'' : Heap} (a : Keep h h') (b : Keep h' h'') : Keep h h'' := fun x o e => b x o (a x o e)
theorem Keep.push (h : Heap) (o : Obj) : Keep h (h.push o) := fun _ _ e => Heap.get?_push_of_some o e

noncomputable def KeysAre (c : Cx) : List DictEntry → List Nat → Prop
  | [], [] => True
  | e :: es, k :: ks => (∃ x t, e.key = .str x t ∧ c.T.nl[k]? = some x) ∧ KeysAre c es ks
  | _, _ => False

mutual
inductive Rep (c : Cx) (h : Heap) (W : Addr → Prop) : Value → D → Prop
  | nn : Rep c h W .none .nn
  | bool (b : Bool) : Rep c h W (.bool b) (.bool b)
  | int (i : Int) (t : Tok) : Rep c h W (.int i t) (.int i)
  | flt (b : UInt64) (t : Tok) (ht : t ≠ 0) : Rep c h W (.float b t) (.flt b)
  | str (s : Str) (t : Tok) (l : List Nat) (hl : s.cps.toList = l) : Rep c h W (.str s t) (.str l)
  | tup {a : Addr} {vs : List Value} {ds : List D} (hW : ¬ W a) (ha : IsTup h a vs.toArray) (hr : Reps c h W vs ds) : Rep c h W (.ref a) (.tup ds)
  | lst {a : Addr} {vs : List Value} {ds : List D} (hW : ¬ W a) (ha : h.PlainList a vs.toArray) (hr : Reps c h W vs ds) : Rep c h W (.ref a) (.lst ds)
  | tab {a : Addr} {kvs : List (Str × Value)} {ks : List (List Nat)} {ds : List D} (hW : ¬ W a) (hd : h.DictOf (PySem.strKind c.prog c.w) a kvs) (hk : kvs.map (·.1.cps.toList) = ks)
      (hr : Reps c h W (kvs.map (·.2)) ds) : Rep c h W (.ref a) (.tab ks ds)
  | inst {x dx : Addr} {es : List DictEntry} {n : Nat} {ks : List Nat} {ds : List D} (hx : ¬ W x) (hdx : ¬ W dx) (ho : h.get? x = some (instObj c.C dx)) (hd : h.get? dx = some (dictOf es n))
      (hk : KeysAre c es ks) (hr : Reps c h W (es.map (·.val)) ds) : Rep c h W (.ref x) (.inst ks ds)
inductive Reps (c : Cx) (h : Heap) (W : Addr → Prop) : List Value → List D → Prop
  | nil : Reps c h W [] []
  | cons {v : Value} {d : D} {vs : List Value} {ds : List D} (hd : Rep c h W v d) (tl : Reps c h W vs ds) : Reps c h W (v :: vs) (d :: ds)
end

noncomputable def RepI (c : Cx) (h : Heap) (W : Addr → Prop) (v : Value) : D → Prop
  | .nn => v = .none
  | .bool b => v = .bool b
  | .int i => ∃ t, v = .int i t
  | .flt b => ∃ t, t ≠ 0 ∧ v = .float b t
  | .str l => ∃ (x : Str) (t : Tok), l = x.cps.toList ∧ v = .str x t
  | .tup ds => ∃ a vs, v = .ref a ∧ ¬ W a ∧ IsTup h a vs.toArray ∧ Reps c h W vs ds
  | .lst ds => ∃ a vs, v = .ref a ∧ ¬ W a ∧ h.PlainList a vs.toArray ∧ Reps c h W vs ds
  | .tab ks ds => ∃ a kvs, v = .ref a ∧ ¬ W a ∧ h.DictOf (PySem.strKind c.prog c.w) a kvs ∧ kvs.map (·.1.cps.toList) = ks ∧ Reps c h W (kvs.map (·.2)) ds
  | .inst ks ds => ∃ x dx es n, v = .ref x ∧ ¬ W x ∧ ¬ W dx ∧ h.get? x = some (instObj c.C dx) ∧ h.get? dx = some (dictOf es n) ∧ KeysAre c es ks ∧ Reps c h W (es.map (·.val)) ds
theorem Rep.inv {c : Cx} {h : Heap} {W : Addr → Prop} {v : Value} {d : D} (r : Rep c h W v d) : RepI c h W v d := by
  cases r with
  | nn => rfl
  | bool => rfl
  | int => exact ⟨_, rfl⟩
  | flt _ _ ht => exact ⟨_, ht, rfl⟩
  | str _ _ _ hl => exact ⟨_, _, hl.symm, rfl⟩
  | tup hW ha hr => exact ⟨_, _, rfl, hW, ha, hr⟩
  | lst hW ha hr => exact ⟨_, _, rfl, hW, ha, hr⟩
  | tab hW hd hk hr => exact ⟨_, _, rfl, hW, hd, hk, hr⟩
  | inst hx hdx ho hd hk hr => exact ⟨_, _, _, _, rfl, hx, hdx, ho, hd, hk, hr⟩
section
variable {c : Cx} {h : Heap} {W : Addr → Prop} {v : Value}
theorem Rep.boolI {b : Bool} (r : Rep c h W v (.bool b)) : v = .bool b := r.inv
theorem Rep.intI {i : Int} (r : Rep c h W v (.int i)) : ∃ t, v = .int i t := r.inv
theorem Rep.fltI {b : UInt64} (r : Rep c h W v (.flt b)) : ∃ t, t ≠ 0 ∧ v = .float b t := r.inv
theorem Rep.strI {l : List Nat} (r : Rep c h W v (.str l)) : ∃ (x : Str) (t : Tok), l = x.cps.toList ∧ v = .str x t := r.inv
theorem Rep.tupI {ds : List D} (r : Rep c h W v (.tup ds)) : ∃ a vs, v = .ref a ∧ ¬ W a ∧ IsTup h a vs.toArray ∧ Reps c h W vs ds := r.inv
theorem Rep.lstI {ds : List D} (r : Rep c h W v (.lst ds)) : ∃ a vs, v = .ref a ∧ ¬ W a ∧ h.PlainList a vs.toArray ∧ Reps c h W vs ds := r.inv
end
section
variable {c : Cx} {h h' : Heap} {W W' : Addr → Prop}
noncomputable def Sub (h : Heap) (W : Addr → Prop) (h' : Heap) (W' : Addr → Prop) : Prop := ∀ a o, ¬ W a → h.get? a = some o → h'.get? a = some o ∧ ¬ W' a

theorem Reps.ind {P : List Value → List D → Prop} (nil : P [] []) (cons : ∀ {v : Value} {d : D} {vs : List Value} {ds : List D}, Rep c h W v d → Reps c h W vs ds → P vs ds → P (v :: vs) (d :: ds)) : ∀ {vs : List Value} {ds : List D}, Reps c h W vs ds → P vs ds
  | [], _, r => by cases r; exact nil
  | _ :: _, _, r => by cases r with | cons hd tl => exact cons hd tl (Reps.ind nil cons tl)
theorem mono_tup (hs : Sub h W h' W') {a : Addr} {vs : List Value} {ds : List D} (hW : ¬ W a) (ha : IsTup h a vs.toArray) (hr : Reps c h' W' vs ds) : Rep c h' W' (.ref a) (.tup ds) :=
  let ⟨o, ho, r⟩ := ha
  .tup (hs _ _ hW ho).2 ⟨o, (hs _ _ hW ho).1, r⟩ hr
theorem mono_lst (hs : Sub h W h' W') {a : Addr} {vs : List Value} {ds : List D} (hW : ¬ W a) (ha : h.PlainList a vs.toArray) (hr : Reps c h' W' vs ds) : Rep c h' W' (.ref a) (.lst ds) :=
  let ⟨n, ho⟩ := ha
  .lst (hs _ _ hW ho).2 ⟨n, (hs _ _ hW ho).1⟩ hr
theorem mono_tab (hs : Sub h W h' W') {a : Addr} {kvs : List (Str × Value)} {ks : List (List Nat)} {ds : List D} (hW : ¬ W a) (hd : h.DictOf (PySem.strKind c.prog c.w) a kvs) (hk : kvs.map (·.1.cps.toList) = ks) (hr : Reps c h' W' (kvs.map (·.2)) ds) :
    Rep c h' W' (.ref a) (.tab ks ds) :=
  let ⟨o, es, ep, ho, r⟩ := hd
  .tab (hs _ _ hW ho).2 ⟨o, es, ep, (hs _ _ hW ho).1, r⟩ hk hr
theorem Rep.mono (hs : Sub h W h' W') {v : Value} {d : D} (r : Rep c h W v d) : Rep c h' W' v d :=
  r.rec (motive_1 := fun v d _ => Rep c h' W' v d) (motive_2 := fun vs ds _ => Reps c h' W' vs ds) .nn .bool .int .flt .str (fun hW ha _ ih => mono_tup hs hW ha ih) (fun hW ha _ ih => mono_lst hs hW ha ih)
    (fun hW hd hk _ ih => mono_tab hs hW hd hk ih) (fun hx hdx ho hd hk _ ih => .inst (hs _ _ hx ho).2 (hs _ _ hdx hd).2 (hs _ _ hx ho).1 (hs _ _ hdx hd).1 hk ih) .nil (fun _ _ a b => .cons a b)
theorem Reps.mono (hs : Sub h W h' W') {vs : List Value} {ds : List D} (r : Reps c h W vs ds) : Reps c h' W' vs ds :=
  r.ind (P := fun vs ds => Reps c h' W' vs ds) .nil fun hd _ ih => .cons (hd.mono hs) ih

theorem Reps.length {vs : List Value} {ds : List D} (r : Reps c h W vs ds) : vs.length = ds.length :=
  r.ind (P := fun vs ds => vs.length = ds.length) rfl fun _ _ ih => congrArg Nat.succ ih
theorem Reps.append {vs : List Value} {ds : List D} (r : Reps c h W vs ds) {ws : List Value} {es : List D} (q : Reps c h W ws es) : Reps c h W (vs ++ ws) (ds ++ es) :=
  r.ind (P := fun vs ds => Reps c h W (vs ++ ws) (ds ++ es)) q fun hd _ ih => .cons hd ih
theorem Reps.get {vs : List Value} {ds : List D} (r : Reps c h W vs ds) : ∀ {k : Nat} {d : D}, ds[k]? = some d → ∃ v, vs[k]? = some v ∧ Rep c h W v d :=
  r.ind (P := fun vs ds => ∀ {k : Nat} {d : D}, ds[k]? = some d → ∃ v, vs[k]? = some v ∧ Rep c h W v d) (fun e => nos e) fun hd _ ih => by
    intro k
    cases k with
    | zero => exact fun e => ⟨_, rfl, Option.some.inj e ▸ hd⟩
    | succ k => exact fun e => ih e
theorem Reps.getV {vs : List Value} {ds : List D} (r : Reps c h W vs ds) : ∀ {k : Nat} {v : Value}, vs[k]? = some v → ∃ d, ds[k]? = some d ∧ Rep c h W v d :=
  r.ind (P := fun vs ds => ∀ {k : Nat} {v : Value}, vs[k]? = some v → ∃ d, ds[k]? = some d ∧ Rep c h W v d) (fun e => nos e) fun hd _ ih => by
    intro k
    cases k with
    | zero => exact fun e => ⟨_, rfl, Option.some.inj e ▸ hd⟩
    | succ k => exact fun e => ih e
theorem Reps.set {vs : List Value} {ds : List D} (r : Reps c h W vs ds) : ∀ (k : Nat) {v : Value} {d : D}, Rep c h W v d → Reps c h W (vs.set k v) (ds.set k d) :=
  r.ind (P := fun vs ds => ∀ (k : Nat) {v : Value} {d : D}, Rep c h W v d → Reps c h W (vs.set k v) (ds.set k d)) (fun _ => by intro _ _ _; exact .nil) fun hd tl ih k => by
    cases k with
    | zero => exact fun x => .cons x tl
    | succ k => exact fun x => .cons hd (ih k x)
theorem Reps.take {vs : List Value} {ds : List D} (r : Reps c h W vs ds) : ∀ k : Nat, Reps c h W (vs.take k) (ds.take k) :=
  r.ind (P := fun vs ds => ∀ k : Nat, Reps c h W (vs.take k) (ds.take k)) (fun k => by rw [List.take_nil, List.take_nil]; exact .nil) fun hd _ ih k => by
    cases k with
    | zero => exact .nil
    | succ k => exact .cons hd (ih k)
theorem Reps.drop {vs : List Value} {ds : List D} (r : Reps c h W vs ds) : ∀ k : Nat, Reps c h W (vs.drop k) (ds.drop k) :=
  r.ind (P := fun vs ds => ∀ k : Nat, Reps c h W (vs.drop k) (ds.drop k)) (fun k => by rw [List.drop_nil, List.drop_nil]; exact .nil) fun hd tl ih k => by
    cases k with
    | zero => exact .cons hd tl
    | succ k => exact ih k
theorem Reps.snoc {vs : List Value} {ds : List D} (r : Reps c h W vs ds) {v : Value} {d : D} (x : Rep c h W v d) : Reps c h W (vs ++ [v]) (ds ++ [d]) := r.append (.cons x .nil)

theorem Sub.keep (k : Keep h h') : Sub h W h' W := fun _ _ n e => ⟨k _ _ e, n⟩
theorem Rep.keep {v : Value} {d : D} (r : Rep c h W v d) (k : Keep h h') : Rep c h' W v d := r.mono (Sub.keep k)
theorem Reps.keep {v : List Value} {d : List D} (r : Reps c h W v d) (k : Keep h h') : Reps c h' W v d := r.mono (Sub.keep k)

theorem mapI {α β : Type} {o : Option α} {f : α → β} {y : β} (h : o.map f = some y) : ∃ x, o = some x ∧ f x = y := by
  cases o with
  | none => exact nos h
  | some x => exact ⟨x, rfl, Option.some.inj h⟩
theorem Reps.ints {vs : List Value} {ds : List D} (r : Reps c h W vs ds) : ∀ {ns : List Int}, intsOf ds = some ns → IntsAre vs ns :=
  r.ind (P := fun vs ds => ∀ {ns : List Int}, intsOf ds = some ns → IntsAre vs ns) (fun e => Option.some.inj e ▸ .nil) (by
    intro _ d _ _ hd _ ih ns e
    cases d with
    | int i =>
      obtain ⟨t, rfl⟩ := hd.intI
      obtain ⟨r, e1, rfl⟩ := mapI e
      exact .cons _ _ (ih e1)
    | _ => exact nos e)
end

inductive VarAt (h : Heap) (env : Env) (x : Str) (v : Value) : Prop
  | loc (m : Str → Option Value) (hk : env.kindOf x = some .local) (hn : h.Ns env.locals m) (hv : m x = some v)
  | cell (k : NameKind) (hk : env.kindOf x = some k) (hc : k = .cell ∨ k = .free) (a : Addr) (hl : env.cells.lookup x = some a) (hi : h.IsCell a (some v))

theorem VarAt.keep {h h' : Heap} {env : Env} {x : Str} {v : Value} (V : VarAt h env x v) (k : Keep h h') : VarAt h' env x v := by
  cases V with
  | loc m hk hn hv => exact .loc m hk (hn.keeps k) hv
  | cell q hk hc a hl hi => exact .cell q hk hc a hl (hi.keeps k)

inductive EntRel (c : Cx) (h : Heap) (W : Addr → Prop) : Value → Ent → Prop
  | frz {v : Value} {d : D} (r : Rep c h W v d) : EntRel c h W v (.frz d)
  | own {a : Addr} {vs : List Value} {ds : List D} (hW : W a) (ha : h.PlainList a vs.toArray) (hr : Reps c h W vs ds) : EntRel c h W (.ref a) (.own ds)
  | ownT {a : Addr} {kvs : List (Str × Value)} {ks : List (List Nat)} {ds : List D} (hW : W a) (hd : h.DictOf (PySem.strKind c.prog c.w) a kvs) (hk : kvs.map (·.1.cps.toList) = ks)
      (hr : Reps c h W (kvs.map (·.2)) ds) : EntRel c h W (.ref a) (.ownT ks ds)
  | ownI {x dx : Addr} {es : List DictEntry} {n : Nat} {ks : List Nat} {ds : List D} (hx : W x) (hdx : W dx) (ho : h.get? x = some (instObj c.C dx)) (hd : h.get? dx = some (dictOf es n))
      (hk : KeysAre c es ks) (hr : Reps c h W (es.map (·.val)) ds) : EntRel c h W (.ref x) (.ownI ks ds)

theorem EntRel.keep {c : Cx} {h h' : Heap} {W : Addr → Prop} {v : Value} {t : Ent} (r : EntRel c h W v t) (k : Keep h h') : EntRel c h' W v t := by
  cases r with
  | frz r => exact .frz (r.keep k)
  | own hW ha hr => exact .own hW (ha.at fun _ e => k _ _ e) (hr.keep k)
  | ownT hW hd hk hr => exact .ownT hW (hd.keep k) hk (hr.keep k)
  | ownI hx hdx ho hd hk hr => exact .ownI hx hdx (k _ _ ho) (k _ _ hd) hk (hr.keep k)

theorem EntRel.ownA {c : Cx} {h : Heap} {W : Addr → Prop} {v : Value} {ds : List D} (r : EntRel c h W v (.own ds)) : ∃ a vs, v = .ref a ∧ W a ∧ h.PlainList a vs.toArray ∧ Reps c h W vs ds := by
  cases r with
  | own h1 h2 h3 => exact ⟨_, _, rfl, h1, h2, h3⟩
inductive BRep (c : Cx) (h : Heap) (W : Addr → Prop) : Value → D → Prop
  | rep {v : Value} {d : D} (r : Rep c h W v d) : BRep c h W v d
  | lst {a : Addr} {vs : List Value} {ds : List D} (ha : h.PlainList a vs.toArray) (hr : Reps c h W vs ds) : BRep c h W (.ref a) (.lst ds)
  | tab {a : Addr} {kvs : List (Str × Value)} {ks : List (List Nat)} {ds : List D} (hd : h.DictOf (PySem.strKind c.prog c.w) a kvs) (hk : kvs.map (·.1.cps.toList) = ks)
      (hr : Reps c h W (kvs.map (·.2)) ds) : BRep c h W (.ref a) (.tab ks ds)
  | inst {x dx : Addr} {es : List DictEntry} {n : Nat} {ks : List Nat} {ds : List D} (ho : h.get? x = some (instObj c.C dx)) (hd : h.get? dx = some (dictOf es n))
      (hk : KeysAre c es ks) (hr : Reps c h W (es.map (·.val)) ds) : BRep c h W (.ref x) (.inst ks ds)

theorem ne_of_get {h : Heap} {a b : Addr} {o : Obj} (n : h.get? a = none) (e : h.get? b = some o) : b ≠ a := fun q => nos (n.symm.trans (q ▸ e))
theorem BRep.lstI {c : Cx} {h : Heap} {W : Addr → Prop} {v : Value} {ds : List D} (r : BRep c h W v (.lst ds)) : ∃ a vs, v = .ref a ∧ h.PlainList a vs.toArray ∧ Reps c h W vs ds := by
  cases r with
  | rep r => obtain ⟨a, vs, e, _, h1, h2⟩ := r.lstI; exact ⟨a, vs, e, h1, h2⟩
  | lst h1 h2 => exact ⟨_, _, rfl, h1, h2⟩
theorem BRep.tabI {c : Cx} {h : Heap} {W : Addr → Prop} {v : Value} {ks : List (List Nat)} {ds : List D} (r : BRep c h W v (.tab ks ds)) : ∃ a kvs, v = .ref a ∧ h.DictOf (PySem.strKind c.prog c.w) a kvs ∧ kvs.map (·.1.cps.toList) = ks ∧ Reps c h W (kvs.map (·.2)) ds := by
  cases r with
  | rep r => exact let ⟨a, kvs, e, _, h1, h2, h3⟩ := r.inv; ⟨a, kvs, e, h1, h2, h3⟩
  | tab h1 h2 h3 => exact ⟨_, _, rfl, h1, h2, h3⟩
theorem BRep.tupI {c : Cx} {h : Heap} {W : Addr → Prop} {v : Value} {ds : List D} (r : BRep c h W v (.tup ds)) : ∃ a vs, v = .ref a ∧ IsTup h a vs.toArray ∧ Reps c h W vs ds := by
  cases r with
  | rep r => obtain ⟨a, vs, e, _, h1, h2⟩ := r.tupI; exact ⟨a, vs, e, h1, h2⟩
theorem BRep.strI {c : Cx} {h : Heap} {W : Addr → Prop} {v : Value} {l : List Nat} (r : BRep c h W v (.str l)) : ∃ (x : Str) (t : Tok), l = x.cps.toList ∧ v = .str x t := by
  cases r with
  | rep r => exact r.strI
theorem BRep.instI {c : Cx} {h : Heap} {W : Addr → Prop} {v : Value} {ks : List Nat} {ds : List D} (r : BRep c h W v (.inst ks ds)) : ∃ x dx es n, v = .ref x ∧ h.get? x = some (instObj c.C dx) ∧ h.get? dx = some (dictOf es n) ∧ KeysAre c es ks ∧ Reps c h W (es.map (·.val)) ds := by
  cases r with
  | rep r => exact let ⟨x, dx, es, n, e, _, _, ho, hd, hk, hr⟩ := r.inv; ⟨x, dx, es, n, e, ho, hd, hk, hr⟩
  | inst ho hd hk hr => exact ⟨_, _, _, _, rfl, ho, hd, hk, hr⟩
theorem BRep.keep {c : Cx} {h h' : Heap} {W : Addr → Prop} {v : Value} {t : D} (r : BRep c h W v t) (k : Keep h h') : BRep c h' W v t := by
  cases r with
  | rep r => exact .rep (r.keep k)
  | lst ha hr => exact .lst (ha.at fun _ e => k _ _ e) (hr.keep k)
  | tab hd hk hr => exact .tab (hd.keep k) hk (hr.keep k)
  | inst ho hd hk hr => exact .inst (k _ _ ho) (k _ _ hd) hk (hr.keep k)

structure Cx.Ok (c : Cx) : Prop where
  g : c.hb.Ns mainGlobals c.mg
  b : c.hb.Ns builtinsNs c.mb
  lim : c.hb.NoLimit
  nb : NoneBooked c.hb
  inj : c.T.nl.Nodup
  callee : ∀ x i, (c.T.gl.lookup x = some .fn ∨ c.T.gl.lookup x = some .cls) → c.T.ix x = some i → c.mg x = some (.ref (c.fa i))
  clsix : ∀ x, c.T.gl.lookup x = some .cls → ∃ i, c.T.ix x = some i
  clsC : ∀ x i, c.T.gl.lookup x = some .cls → c.T.ix x = some i → c.fa i = c.C
  keep : ∀ x i, (c.T.gl.lookup x = some .fn ∨ c.T.gl.lookup x = some .cls ∨ c.T.ms.contains x = true) → c.T.ix x = some i → ∀ (M : Model) (h : Heap), Keep c.hb h →
    ∃ k, (k = Keeper.frame ∨ k = Keeper.machine ∨ k = Keeper.boundFrame) ∧ Looks M h (keeperOf (.ref (c.fa i))) k
  meth : ∀ x i, c.T.ms.contains x = true → c.T.ix x = some i → ∀ {A : Around} {E : Value → Shared → Prop} {s : Shared} {pl : Sem Bool} {Q : Value × List Value → Shared → Prop} (o dx : Addr) (es : List DictEntry) (n : Nat), Keep c.hb s.heap →
    s.heap.get? o = some (instObj c.C dx) → s.heap.get? dx = some (dictOf es n) → getL x es = some none → Q (.ref (c.fa i), [.ref o]) s → wpAny (model c.prog c.w) A (getMethod (.ref o) x pl) Q E s
  attr : ∀ x, c.T.ats.contains x = true → ∀ {A : Around} {E : Value → Shared → Prop} {s : Shared} {Q : Value → Shared → Prop} (o dx : Addr) (es : List DictEntry) (n : Nat) (v : Value), Keep c.hb s.heap →
    s.heap.get? o = some (instObj c.C dx) → s.heap.get? dx = some (dictOf es n) → getL x es = some (some v) → handedIn v = true → Q v { s with toks := s.toks + 1 } → wpAny (model c.prog c.w) A (getAttr (.ref o) x true) Q E s
  seta : ∀ x, c.T.ats.contains x = true → ∀ {A : Around} {E : Value → Shared → Prop} {s : Shared} {Q : Unit → Shared → Prop} (o dx : Addr) (es : List DictEntry) (n : Nat) (v : Value), Keep c.hb s.heap →
    s.heap.get? o = some (instObj c.C dx) → s.heap.get? dx = some (dictOf es n) → (getL x es).isSome = true → es.length ≤ 100 →
    (∀ h' hsh, h'.get? dx = some (dictOf (putL x hsh (.str x (s.toks + 1)) v es) (putN x es n)) → (∀ b o, b ≠ dx → s.heap.get? b = some o → h'.get? b = some o) → Q () { s with heap := h', toks := s.toks + 2 }) →
    wpAny (model c.prog c.w) A (setAttr (.ref o) x v) Q E s
  cat : ∀ x n d, catOf x = some n → catD n = some d → ∀ {A : Around} {E : Value → Shared → Prop} {s : Shared} {Q : Value → Shared → Prop}, Keep c.hb s.heap →
    (∀ v tk, Rep c s.heap (fun _ => False) v d → Q v { s with toks := tk }) → wpAny (model c.prog c.w) A (getAttr (.ref c.C) x true) Q E s
  bf : ∀ x b, c.T.gl.lookup x = some (.bf b) → c.mg x = none ∧ c.mb x = some (match b with
    | .len => .builtin "len" | .max => .builtin "max" | .min => .builtin "min" | .sum => .builtin "sum" | .int => .type "int" | .hex => .builtin "hex" | .tuple => .type "tuple")
  fl : ∀ x, c.T.gl.lookup x = some .flags → c.mg x = some (.ref c.fl)
  flo : (c.fl == sysModules) = false ∧ ∃ o, c.hb.get? c.fl = some o ∧ o.dict = none
  flm : ∃ f, c.hb.MapOf (PySem.intKind c.prog c.w) c.fl f ∧ ∀ i, match flagTab.lookup i with
    | some l => ∃ s t, f i = some (.str s t) ∧ s.cps.toList = l
    | none => f i = none
  rg : ∀ x, c.T.gl.lookup x = some .rng → c.mg x = none ∧ c.mb x = some (.type "range")

structure ES (c : Cx) (h : Heap) (W : Addr → Prop) (env : Env) (k : Kinds) (σ : Env1) : Prop where
  base : Keep c.hb h
  live : ∀ a, W a → ∃ o, h.get? a = some o
  fk : env.scope.kind = .function
  gl : env.globals = mainGlobals
  bl : env.builtins = builtinsNs
  ks : env.scope.names = k
  cells : ∀ x, (env.kindOf x = some .cell ∨ env.kindOf x = some .free) → ∃ a, env.cells.lookup x = some a
  cinj : ∀ x y a, env.cells.lookup x = some a → env.cells.lookup y = some a → x = y
  clive : ∀ x a, env.cells.lookup x = some a → ∃ v, h.IsCell a v
  vars : ∀ n x t, c.T.nl[n]? = some x → look σ n = some t → isVar k x = true → ∃ v, VarAt h env x v ∧ EntRel c h W v t

theorem ES.keep {c : Cx} {h h' : Heap} {W : Addr → Prop} {env : Env} {k : Kinds} {σ : Env1} (S : ES c h W env k σ) (q : Keep h h') : ES c h' W env k σ where
  base := S.base.trans q
  live := fun a ha => let ⟨o, e⟩ := S.live a ha; ⟨o, q _ _ e⟩
  fk := S.fk
  gl := S.gl
  bl := S.bl
  ks := S.ks
  cells := S.cells
  cinj := S.cinj
  clive := fun x a e => let ⟨v, o, ho, r⟩ := S.clive x a e; ⟨v, o, q _ _ ho, r⟩
  vars := fun n x t a b d => let ⟨v, V, r⟩ := S.vars n x t a b d; ⟨v, V.keep q, r.keep q⟩

theorem ix_get {T : Tb} {x : Str} {i : Nat} (e : T.ix x = some i) : T.nl[i]? = some x := by
  unfold Tb.ix at e
  rw [List.findIdx?_eq_some_iff_getElem] at e
  obtain ⟨h, p, _⟩ := e
  rw [List.getElem?_eq_getElem h]
  exact congrArg some (beq_iff_eq.mp p)
theorem nl_inj {T : Tb} (hn : T.nl.Nodup) {x : Str} {i j : Nat} (a : T.nl[i]? = some x) (b : T.nl[j]? = some x) : i = j := by
  obtain ⟨hi, ea⟩ := List.getElem?_eq_some_iff.mp a
  obtain ⟨hj, eb⟩ := List.getElem?_eq_some_iff.mp b
  have p := List.pairwise_iff_getElem.mp hn
  rcases Nat.lt_trichotomy i j with l | l | l
  · exact absurd (ea.trans eb.symm) (p i j hi hj l)
  · exact l
  · exact absurd (eb.trans ea.symm) (p j i hj hi l)
end Mv
end
section
open PySem PySem.W PyProof.Rows
set_option Elab.async false
namespace Mv

noncomputable def opsyn : Bop → Operator
  | .add => .Add | .sub => .Sub | .mul => .Mult | .div => .Div | .fdiv => .FloorDiv | .mod => .Mod
  | .pow => .Pow | .shl => .LShift | .and => .BitAnd | .xor => .BitXor
theorem bopOf_syn {o : Operator} {op : Bop} (e : bopOf o = some op) : o = opsyn op := by
  cases o <;> first | exact nos e | exact Option.some.inj e ▸ rfl
noncomputable def cmpsyn : Cop → CmpOp
  | .eq => .Eq | .ne => .NotEq | .lt => .Lt | .le => .LtE | .gt => .Gt | .ge => .GtE
theorem copOf_syn {o : CmpOp} {op : Cop} (e : copOf o = some op) : o = cmpsyn op := by
  cases o <;> first | exact nos e | exact Option.some.inj e ▸ rfl

noncomputable def Post (c : Cx) (s : Shared) (W : Addr → Prop) (d : D) (Q : Value → Shared → Prop) : Prop :=
  ∀ v h' tk, Keep s.heap h' → Rep c h' W v d → Q v { s with heap := h', toks := tk }
noncomputable def PostP (c : Cx) (s : Shared) (W : Addr → Prop) (d : D) (Q : Value → Shared → Prop) : Prop :=
  ∀ v h' tk, Keep s.heap h' → Rep c h' W v d → 0 < tk → Q v { s with heap := h', toks := tk }
noncomputable def Live (h : Heap) (W : Addr → Prop) : Prop := ∀ a, W a → ∃ o, h.get? a = some o

section
variable {c : Cx} {A : Around} {E : Value → Shared → Prop} {s : Shared} {W : Addr → Prop} {Q : Value → Shared → Prop}

theorem Post.here {d : D} (P : Post c s W d Q) {v : Value} (r : Rep c s.heap W v d) (tk : Nat) : Q v { s with toks := tk } := P v s.heap tk (Keep.refl _) r
theorem Post.at {d : D} (P : Post c s W d Q) {v : Value} (r : Rep c s.heap W v d) : Q v s := P v s.heap s.toks (Keep.refl _) r
theorem PostP.use {d : D} {M : Model} {t : Sem Value} (hp : 0 < s.toks) (P : PostP c s W d Q) (h : ∀ (E' : Value → Shared → Prop) (Q' : Value → Shared → Prop), Post c s W d Q' → wpAny M A t Q' E' s) : wpAny M A t Q E s := by
  refine wpAny_with_toks (n := 1) hp (wpAny_mono (h (fun e s' => 1 ≤ s'.toks → E e s') (fun v s' => 1 ≤ s'.toks → Q v s') fun v h' tk k r hh => P v h' tk k r hh) (fun _ _ x => x) fun _ _ x => x)
theorem Live.new (L : Live s.heap W) : ¬ W s.heap.objs.size := fun h => let ⟨_, e⟩ := L _ h; absurd (Heap.lt_size e) (Nat.lt_irrefl _)
theorem Live.above (L : Live s.heap W) {a : Nat} (h : s.heap.objs.size ≤ a) : ¬ W a := fun x => let ⟨_, e⟩ := L _ x; absurd (Nat.lt_of_le_of_lt h (Heap.lt_size e)) (Nat.lt_irrefl _)
theorem Post.lst {vs : List Value} {ds : List D} (P : Post c s W (.lst ds) Q) (L : Live s.heap W) (r : Reps c s.heap W vs ds) (tk : Nat) :
    Q (.ref s.heap.objs.size) { s with heap := s.heap.push { cls := .type "list", data := .seq vs.toArray }, toks := tk } :=
  P _ _ _ (Keep.push _ _) (.lst L.new ⟨_, Heap.get?_push_size _ rfl⟩ (r.keep (Keep.push _ _)))
theorem Post.tup {vs : List Value} {ds : List D} (P : Post c s W (.tup ds) Q) (L : Live s.heap W) (r : Reps c s.heap W vs ds) (tk : Nat) :
    Q (.ref s.heap.objs.size) { s with heap := s.heap.push { cls := .type "tuple", data := .seq vs.toArray }, toks := tk } :=
  P _ _ _ (Keep.push _ _) (.tup L.new ⟨_, Heap.get?_push_size _ rfl, rfl, _, rfl⟩ (r.keep (Keep.push _ _)))

theorem binI_sound (hp : s.toks ≠ 0) {op : Bop} {a b : Int} {t u : Tok} {d : D} (e : binI op a b = some d) (P : Post c s W d Q) :
    wpAny (model c.prog c.w) A (binaryOp (opsyn op) (.int a t) (.int b u)) Q E s := by
  cases op with
  | add => cases Option.some.inj e; exact AutoIntOps.add_0 (P.here (.int _ _) _)
  | sub => cases Option.some.inj e; exact AutoIntOps.sub_0 (P.here (.int _ _) _)
  | mul =>
    obtain ⟨hs, e⟩ := if_inv e
    cases Option.some.inj e
    simp only [small, Bool.and_eq_true, decide_eq_true_eq] at hs
    refine AutoIntOps.mul_0 (P.here (.int _ _) _) (IntMulOk.of_left ?_)
    unfold Builtin.Int.intBits
    split
    · lia
    · rename_i hz
      have := (Nat.log2_lt (by simpa using hz)).mpr hs.1
      lia
  | div =>
    obtain ⟨hs, e⟩ := if_inv e
    cases Option.some.inj e
    simp only [Bool.and_eq_true, Bool.not_eq_true', bne_iff_ne, ne_eq] at hs
    exact AutoIntOps.truediv_2 (by simpa using hs.1.1.1) (by simp [hs.2]) (P.here (.flt _ _ hp) _)
  | fdiv =>
    obtain ⟨hs, e⟩ := if_inv e
    cases Option.some.inj e
    simp only [small, Bool.and_eq_true, bne_iff_ne, ne_eq, decide_eq_true_eq] at hs
    exact AutoIntOps.floordiv_1 (by simpa using hs.1) (by
      rw [PyProof.noPylong_of_log2 (Nat.lt_of_le_of_lt (Nat.le_of_lt_succ ((Nat.log2_lt (by simpa using hs.1)).mpr (show b.natAbs < 2 ^ 64 by lia))) (by decide))]; exact Bool.false_ne_true) (P.here (.int _ _) _)
  | mod =>
    obtain ⟨hs, e⟩ := if_inv e
    cases Option.some.inj e
    simp only [small, Bool.and_eq_true, bne_iff_ne, ne_eq, decide_eq_true_eq] at hs
    exact AutoIntOps.mod_1 (by simpa using hs.1) (P.here (.int _ _) _)
  | pow =>
    obtain ⟨hs, e⟩ := if_inv e
    cases Option.some.inj e
    simp only [Bool.and_eq_true, decide_eq_true_eq] at hs
    obtain ⟨⟨h0, h1⟩, rfl⟩ := hs
    refine pow_int h0 ?_ (P.here (.int _ _) _)
    have : Builtin.Int.intBits 2 = 2 := by decide +kernel
    rw [this]; lia
  | shl =>
    obtain ⟨hs, e⟩ := if_inv e
    cases Option.some.inj e
    simp only [Bool.and_eq_true, decide_eq_true_eq] at hs
    obtain ⟨⟨h0, h1⟩, rfl⟩ := hs
    exact lshift_int_small h0 (by lia) (by decide) (P.here (.int _ _) _)
  | and => cases Option.some.inj e; exact and_int (P.here (.int _ _) _)
  | xor => cases Option.some.inj e; exact xor_int (P.here (.int _ _) _)

theorem binF_sound (hp : s.toks ≠ 0) {op : Bop} {a b : UInt64} {t u : Tok} {d : D} (e : binF op a b = some d) (P : Post c s W d Q) :
    wpAny (model c.prog c.w) A (binaryOp (opsyn op) (.float a t) (.float b u)) Q E s := by
  cases op with
  | add => cases Option.some.inj e; exact AutoFloatOps.add_0 (P.here (.flt _ _ hp) _)
  | sub => cases Option.some.inj e; exact AutoFloatOps.sub_0 (P.here (.flt _ _ hp) _)
  | mul => cases Option.some.inj e; exact AutoFloatOps.mul_0 (P.here (.flt _ _ hp) _)
  | div =>
    obtain ⟨hs, e⟩ := if_inv' e
    cases Option.some.inj e
    exact AutoFloatOps.truediv_1 (by rw [hs]; exact Bool.false_ne_true) (P.here (.flt _ _ hp) _)
  | mod =>
    obtain ⟨hs, e⟩ := if_inv' e
    cases Option.some.inj e
    exact AutoFloatOps.mod_1 (by rw [hs]; exact Bool.false_ne_true) (P.here (.flt _ _ hp) _)
  | _ => exact nos e

theorem small_fits {n : Int} (h : small n = true) : n.natAbs < 2 ^ 1023 := by
  simp only [small, decide_eq_true_eq] at h
  exact Nat.lt_of_lt_of_le h (Nat.pow_le_pow_right (by decide) (by decide))

theorem binFI_sound (hp : s.toks ≠ 0) {op : Bop} {a : UInt64} {b : Int} {t u : Tok} {d : D} (e : binD op (.flt a) (.int b) = some d) (P : Post c s W d Q) :
    wpAny (model c.prog c.w) A (binaryOp (opsyn op) (.float a t) (.int b u)) Q E s := by
  obtain ⟨hb, e⟩ := if_inv (show (if small b = true then _ else none) = some d from e)
  cases op with
  | add => cases Option.some.inj e; exact add_fi_fits (small_fits hb) (P.here (.flt _ _ hp) _)
  | sub => cases Option.some.inj e; exact sub_fi_fits (small_fits hb) (P.here (.flt _ _ hp) _)
  | mul => cases Option.some.inj e; exact mul_fi_fits (small_fits hb) (P.here (.flt _ _ hp) _)
  | _ => exact nos e

theorem repL_nil {α : Type} : ∀ n : Nat, repL n ([] : List α) = []
  | 0 => rfl
  | n + 1 => by simp [repL, repL_nil n]
theorem repL_flat {α : Type} (l : List α) : ∀ n : Nat, (List.replicate n l).flatten = repL n l
  | 0 => rfl
  | n + 1 => by rw [List.replicate_succ, List.flatten_cons, repL_flat l n]; rfl
theorem foldl_app {α : Type} (x : Array α) : ∀ (n : Nat) (acc : Array α), ((List.replicate n x).foldl (· ++ ·) acc).toList = acc.toList ++ repL n x.toList
  | 0, acc => by simp [repL]
  | n + 1, acc => by rw [List.replicate_succ, List.foldl_cons, foldl_app x n]; simp [repL]
theorem mul_toList (x : Str) (n : Int) (h0 : 0 ≤ n) : (Txt.mul x n).cps.toList = repL n.toNat x.cps.toList := by
  unfold Txt.mul
  split
  · have : n.toNat = 0 := by lia
    rw [this]; rfl
  · split
    · rename_i h1
      rcases Bool.or_eq_true_iff.mp h1 with e | e
      · have : n = 1 := by simpa using e
        subst this
        simp [repL]
      · have : x.cps.toList = [] := by
          have : x.cps.size = 0 := by simpa [Str.length] using e
          exact List.eq_nil_of_length_eq_zero (by simpa using this)
        rw [this, repL_nil]
    · rw [foldl_app]; simp

theorem Reps.rep {c : Cx} {h : Heap} {W : Addr → Prop} {vs : List Value} {ds : List D} (r : Reps c h W vs ds) : ∀ n : Nat, Reps c h W (repL n vs) (repL n ds)
  | 0 => .nil
  | n + 1 => r.append (r.rep n)

theorem lst_addN {a b : Addr} {vs ws : List Value} {ds es : List D} (ha : s.heap.PlainList a vs.toArray) (hb : s.heap.PlainList b ws.toArray) (ra : Reps c s.heap W vs ds) (rb : Reps c s.heap W ws es)
    (hl : ds.length + es.length ≤ 1000) (this : Q (.ref s.heap.objs.size) { s with heap := s.heap.push { cls := .type "list", data := .seq (vs ++ ws).toArray }, toks := s.toks }) : wpAny (model c.prog c.w) A (binaryOp .Add (.ref a) (.ref b)) Q E s := by
  obtain ⟨n, ea⟩ := ha
  obtain ⟨m, eb⟩ := hb
  have l1 := ra.length
  have l2 := rb.length
  refine PySem.P.add_list ea eb ?_ (by rw [sizeLine_eq]; simp only [List.size_toArray]; lia)
  simpa using this
theorem lst_add {a b : Addr} {vs ws : List Value} {ds es : List D} (ha : s.heap.PlainList a vs.toArray) (hb : s.heap.PlainList b ws.toArray) (ra : Reps c s.heap W vs ds) (rb : Reps c s.heap W ws es)
    (hl : ds.length + es.length ≤ 1000) (L : Live s.heap W) (P : Post c s W (.lst (ds ++ es)) Q) : wpAny (model c.prog c.w) A (binaryOp .Add (.ref a) (.ref b)) Q E s :=
  lst_addN ha hb ra rb hl (P.lst L (ra.append rb) s.toks)

theorem lst_mulN {a : Addr} {k : Int} {u : Tok} {vs : List Value} {ds : List D} (ha : s.heap.PlainList a vs.toArray) (ra : Reps c s.heap W vs ds) (h0 : 0 ≤ k) (h1 : k ≤ 1000) (hl : ds.length = 1)
    (this : Q (.ref s.heap.objs.size) { s with heap := s.heap.push { cls := .type "list", data := .seq (repL k.toNat vs).toArray }, toks := s.toks }) : wpAny (model c.prog c.w) A (binaryOp .Mult (.ref a) (.int k u)) Q E s := by
  obtain ⟨n, ea⟩ := ha
  have l1 : vs.length = 1 := ra.length.trans hl
  have hk : vs.toArray.size * k.toNat ≤ 1000 := by rw [List.size_toArray, l1]; lia
  refine wpAny_binaryOp_repeat_ref (T := "list") (U := "int") (by decide) ⟨_, ea, rfl⟩ (fun s' => typeIs_int s' k u) noFill_list_mul PySem.F.fills_int_mul PySem.F.slot_int_rmul repeat_list PySem.F.slot_int_index.lookup
    (call_meets PySem.F.slot_int_rmul (typeIs_int s k u) PySem.F.entry_int_rmul (PySem.F.args_int_rmul_2 _ _) (lm_int_rmul_list_any k u a vs.toArray n _ _)
      ⟨ea, rfl, ⟨_, ea, rfl⟩, call_meets PySem.F.slot_list_mul ⟨_, ea, rfl⟩ PySem.F.entry_list_mul (PySem.F.args_list_mul_2 _ _)
        (lm_list_mul_any a vs.toArray n _ _ k u (by simp [Builtin.List.listFitsIndex]; lia) (by lia) (by
          intro h
          unfold Builtin.List.listTooLong at h
          have := of_decide_eq_true h
          rw [sizeLine_eq] at this
          lia)) ⟨ea, ?_⟩⟩)
  rw [listMul_foldl_if]
  rw [← repL_flat] at this
  simpa using this
theorem lst_mul {a : Addr} {k : Int} {u : Tok} {vs : List Value} {ds : List D} (ha : s.heap.PlainList a vs.toArray) (ra : Reps c s.heap W vs ds) (h0 : 0 ≤ k) (h1 : k ≤ 1000) (hl : ds.length = 1)
    (L : Live s.heap W) (P : Post c s W (.lst (repL k.toNat ds)) Q) : wpAny (model c.prog c.w) A (binaryOp .Mult (.ref a) (.int k u)) Q E s :=
  lst_mulN ha ra h0 h1 hl (P.lst L (ra.rep k.toNat) s.toks)

inductive BinV : Bop → D → D → D → Prop
  | int {op : Bop} {a b : Int} {d : D} (e : binI op a b = some d) : BinV op (.int a) (.int b) d
  | flt {op : Bop} {a b : UInt64} {d : D} (e : binF op a b = some d) : BinV op (.flt a) (.flt b) d
  | fi {op : Bop} {a : UInt64} {b : Int} {d : D} (e : binD op (.flt a) (.int b) = some d) : BinV op (.flt a) (.int b) d
  | sadd {a b : List Nat} (h : a.length + b.length ≤ 1000) : BinV .add (.str a) (.str b) (.str (a ++ b))
  | smul {a : List Nat} {k : Int} (h : (decide (0 ≤ k) && decide (k ≤ 1000) && decide (a.length ≤ 1)) = true) : BinV .mul (.str a) (.int k) (.str (repL k.toNat a))
  | ladd {a b : List D} (h : a.length + b.length ≤ 1000) : BinV .add (.lst a) (.lst b) (.lst (a ++ b))
  | lmul {a : List D} {k : Int} (h : (decide (0 ≤ k) && decide (k ≤ 1000) && decide (a.length = 1)) = true) : BinV .mul (.lst a) (.int k) (.lst (repL k.toNat a))
theorem of_ite {α : Type} {b : Bool} {x y : α} (h : (if b = true then some x else none) = some y) : b = true ∧ x = y := by
  cases b with
  | true => exact ⟨rfl, Option.some.inj h⟩
  | false => first | exact nos h | exact nob h | nomatch h
theorem bin_str {op : Bop} {a b : List Nat} {d : D} (e : binD op (.str a) (.str b) = some d) : BinV op (.str a) (.str b) d := by
  cases op with
  | add => obtain ⟨h, rfl⟩ := of_ite e; exact .sadd (of_decide_eq_true h)
  | _ => first | exact nos e | exact nob e | nomatch e
theorem bin_stri {op : Bop} {a : List Nat} {b : Int} {d : D} (e : binD op (.str a) (.int b) = some d) : BinV op (.str a) (.int b) d := by
  cases op with
  | mul => obtain ⟨h, rfl⟩ := of_ite e; exact .smul h
  | _ => first | exact nos e | exact nob e | nomatch e
theorem bin_lst {op : Bop} {a b : List D} {d : D} (e : binD op (.lst a) (.lst b) = some d) : BinV op (.lst a) (.lst b) d := by
  cases op with
  | add => obtain ⟨h, rfl⟩ := of_ite e; exact .ladd (of_decide_eq_true h)
  | _ => first | exact nos e | exact nob e | nomatch e
theorem bin_lsti {op : Bop} {a : List D} {b : Int} {d : D} (e : binD op (.lst a) (.int b) = some d) : BinV op (.lst a) (.int b) d := by
  cases op with
  | mul => obtain ⟨h, rfl⟩ := of_ite e; exact .lmul h
  | _ => first | exact nos e | exact nob e | nomatch e
theorem bin_view {op : Bop} {x y d : D} (e : binD op x y = some d) : BinV op x y d := by
  cases x with
  | int a => cases y with
    | int b => exact .int e
    | _ => first | exact nos e | exact nob e | nomatch e
  | flt a => cases y with
    | flt b => exact .flt e
    | int b => exact .fi e
    | _ => first | exact nos e | exact nob e | nomatch e
  | str a => cases y with
    | str b => exact bin_str e
    | int b => exact bin_stri e
    | _ => first | exact nos e | exact nob e | nomatch e
  | lst a => cases y with
    | lst b => exact bin_lst e
    | int b => exact bin_lsti e
    | _ => first | exact nos e | exact nob e | nomatch e
  | _ => first | exact nos e | exact nob e | nomatch e
theorem sadd_sound {a b : Str} {t u : Tok} (h : a.cps.toList.length + b.cps.toList.length ≤ 1000) (P : Post c s W (.str (a.cps.toList ++ b.cps.toList)) Q) : wpAny (model c.prog c.w) A (binaryOp .Add (.str a t) (.str b u)) Q E s :=
  add_str (fun _ k => P.here (.str _ _ _ (show (a.cps ++ b.cps).toList = _ from Array.toList_append)) k) (by
    rw [sizeLine_eq]
    rw [Array.length_toList, Array.length_toList] at h
    exact Nat.le_trans h (by decide))
theorem smul_sound {a : Str} {k : Int} {t u : Tok} (h : (decide (0 ≤ k) && decide (k ≤ 1000) && decide (a.cps.toList.length ≤ 1)) = true) (P : Post c s W (.str (repL k.toNat a.cps.toList)) Q) : wpAny (model c.prog c.w) A (binaryOp .Mult (.str a t) (.int k u)) Q E s := by
  simp only [Bool.and_eq_true, decide_eq_true_eq, Array.length_toList] at h
  exact SB.mul (mulOk_of 1 1000 h.2 (by lia) (by lia) (by decide) (by decide)) fun t' k => P.here (.str _ _ _ (mul_toList _ _ h.1.1)) _
theorem lmul_sound {a : Addr} {vs : List Value} {ds : List D} {k : Int} {u : Tok} (h : (decide (0 ≤ k) && decide (k ≤ 1000) && decide (ds.length = 1)) = true) (ha : s.heap.PlainList a vs.toArray) (hr : Reps c s.heap W vs ds) (L : Live s.heap W) (P : Post c s W (.lst (repL k.toNat ds)) Q) : wpAny (model c.prog c.w) A (binaryOp .Mult (.ref a) (.int k u)) Q E s := by
  simp only [Bool.and_eq_true, decide_eq_true_eq] at h
  exact lst_mul ha hr h.1.1 h.1.2 h.2 L P
set_option maxHeartbeats 4000000 in
theorem binD_sound (hp : s.toks ≠ 0) {op : Bop} {x y : D} {v u : Value} {d : D} (e : binD op x y = some d) (rx : Rep c s.heap W v x) (ry : Rep c s.heap W u y) (L : Live s.heap W) (P : Post c s W d Q) :
    wpAny (model c.prog c.w) A (binaryOp (opsyn op) v u) Q E s := by
  have b := bin_view e
  clear e
  cases b with
  | int e => obtain ⟨_, rfl⟩ := rx.intI; obtain ⟨_, rfl⟩ := ry.intI; exact binI_sound (c := c) (A := A) (E := E) (s := s) (W := W) (Q := Q) hp e P
  | flt e => obtain ⟨_, _, rfl⟩ := rx.fltI; obtain ⟨_, _, rfl⟩ := ry.fltI; exact binF_sound (c := c) (A := A) (E := E) (s := s) (W := W) (Q := Q) hp e P
  | fi e => obtain ⟨_, _, rfl⟩ := rx.fltI; obtain ⟨_, rfl⟩ := ry.intI; exact binFI_sound (c := c) (A := A) (E := E) (s := s) (W := W) (Q := Q) hp e P
  | sadd h => obtain ⟨_, _, rfl, rfl⟩ := rx.strI; obtain ⟨_, _, rfl, rfl⟩ := ry.strI; exact sadd_sound h P
  | smul h => obtain ⟨_, _, rfl, rfl⟩ := rx.strI; obtain ⟨_, rfl⟩ := ry.intI; exact smul_sound h P
  | ladd h => obtain ⟨_, _, rfl, _, ha, hr⟩ := rx.lstI; obtain ⟨_, _, rfl, _, hb, hr'⟩ := ry.lstI; exact lst_add ha hb hr hr' h L P
  | lmul h => obtain ⟨_, _, rfl, _, ha, hr⟩ := rx.lstI; obtain ⟨_, rfl⟩ := ry.intI; exact lmul_sound h ha hr L P
end
end Mv
end
section
open PySem PySem.W PyProof.Rows
set_option Elab.async false
namespace Mv
open SeqAt

section
variable {c : Cx} {A : Around} {E : Value → Shared → Prop} {s : Shared} {W : Addr → Prop} {Q : Value → Shared → Prop}

theorem toList_inj {x y : Str} (h : x.cps.toList = y.cps.toList) : x = y := by
  cases x; cases y; simp only [Str.mk.injEq]; exact Array.toList_inj.mp h
theorem toList_beqS (x y : Str) : (x.cps.toList == y.cps.toList) = (x == y) := by
  rw [Bool.eq_iff_iff]
  simp only [beq_iff_eq]
  exact ⟨toList_inj, fun h => by rw [h]⟩

theorem RcAt.float_float (a : UInt64) (t : Tok) (u : Tok) (ha : Float64.isNaN a = false) : RcAt A s (.float a t) (.float a u) true := fun _ _ _ _ h =>
  AutoFloatOps.eq_0 (by rw [PySem.Flt.cmp_self, ha]; exact h)
theorem isSame_float {M : Model} {a : UInt64} {t u : Tok} {Q : Bool → Shared → Prop} (hb : NoneBooked s.heap) (ht : t ≠ 0) (hu : u ≠ 0) (hq : ∀ b, Q b s) : wpAny M A (isSame (.float a t) (.float a u)) Q E s := by
  show wpAny M A (isSame.created (a == a && !Float64.isNaN a) t u) Q E s
  unfold isSame.created
  refine wpAny_ite ?_
  split
  · rename_i h
    simp [ht, hu] at h
  refine wpAny_ite ?_
  split
  · exact wpAny_pure (hq _)
  refine wpAny_ite ?_
  split
  · exact wpAny_pure (hq _)
  refine wpAny_bind (wpAny_sharingNotTold_none hb ?_)
  simp only [Bool.false_eq_true, if_false]
  refine wpAny_bind (wpAny_sharingNotTold_none hb ?_)
  simp only [Bool.false_eq_true, if_false]
  exact wpAny_bind (wpAny_rule (wpAny_bind (wpAny_askSetting (wpAny_pure (hq _)))))
theorem EqAt.float_float (a : UInt64) (t : Tok) (u : Tok) (ha : Float64.isNaN a = false) (hb : NoneBooked s.heap) (ht : t ≠ 0) (hu : u ≠ 0) : EqAt A s (.float a t) (.float a u) true := fun prog w E Q h => by
  unfold eqBool
  refine wpAny_holding ?_
  refine wpAny_ite_split (fun _ => ?_) (fun _ => ?_)
  · exact wpAny_bind (wpAny_rule (wpAny_pure h))
  · refine wpAny_bind (isSame_float hb ht hu fun b => ?_)
    cases b with
    | true => exact wpAny_pure h
    | false => exact wpAny_bind (RcAt.float_float a t u ha prog w E _ (wpAny_truthy_bool h))

theorem eqvs_spec {f : D → D → Option Bool} : ∀ {xs ys : List D} {b : Bool}, eqvs f xs ys = some b → ∃ e : Nat → Bool, (∀ (j : Nat) (x y : D), xs[j]? = some x → ys[j]? = some y → f x y = some (e j)) ∧ ((List.range (min xs.length ys.length)).all e && xs.length == ys.length) = b
  | [], ys, b, h => ⟨fun _ => true, fun _ _ _ h1 _ => nos h1, by
    rw [List.length_nil, Nat.zero_min, ← Option.some.inj (show some (([] : List D).length == ys.length) = some b by cases ys <;> exact h)]; rfl⟩
  | x :: xs, [], b, h => ⟨fun _ => true, fun _ _ _ _ h2 => nos h2, Option.some.inj h⟩
  | x :: xs, y :: ys, b, h => by
    obtain ⟨p, e1, h⟩ := bind_inv h
    obtain ⟨q, e2, h⟩ := map_inv h
    obtain ⟨e, h1, h2⟩ := eqvs_spec e2
    refine ⟨fun j => Nat.casesOn j p e, fun j => ?_, ?_⟩
    · cases j with
      | zero => exact fun _ _ a1 a2 => Option.some.inj a1 ▸ Option.some.inj a2 ▸ e1
      | succ j => exact fun x y a1 a2 => h1 j x y a1 a2
    · subst h2
      rw [← h, List.length_cons, List.length_cons, Nat.succ_min_succ, List.range_succ_eq_map, List.all_cons, List.all_map, Bool.and_assoc]
      congr 2
      exact decide_eq_decide.mpr (Nat.add_left_inj (n := 1))

inductive EqV (f : List D → List D → Option Bool) : D → D → Bool → Prop
  | int (a b : Int) : EqV f (.int a) (.int b) (a == b)
  | flt (a : UInt64) (h : Float64.isNaN a = false) : EqV f (.flt a) (.flt a) true
  | str (a b : List Nat) : EqV f (.str a) (.str b) (a == b)
  | bool (a b : Bool) : EqV f (.bool a) (.bool b) (a == b)
  | tup (a b : List D) (r : Bool) (h : f a b = some r) : EqV f (.tup a) (.tup b) r
  | lst (a b : List D) (r : Bool) (h : f a b = some r) : EqV f (.lst a) (.lst b) r
theorem flt_eqV {f : List D → List D → Option Bool} {a b : UInt64} {r : Bool} (h : (if (a == b && !Float64.isNaN a) = true then some true else none) = some r) : EqV f (.flt a) (.flt b) r := by
  obtain ⟨h1, h2⟩ := if_inv h
  obtain ⟨h3, h4⟩ := and_inv h1
  cases eq_of_beq h3
  cases h2
  exact .flt a (not_inv h4)
theorem eqV {f : List D → List D → Option Bool} {x y : D} {b : Bool} (h : eqD f x y = some b) : EqV f x y b := by
  cases x with
  | int a => obtain ⟨z, e, rfl⟩ := map_inv h; exact int_inv e ▸ .int a z
  | flt a => obtain ⟨z, e, h⟩ := bind_inv h; exact flt_inv e ▸ flt_eqV h
  | str a => obtain ⟨z, e, rfl⟩ := map_inv h; exact str_inv e ▸ .str a z
  | bool a => obtain ⟨z, e, rfl⟩ := map_inv h; exact bool_inv e ▸ .bool a z
  | tup a => obtain ⟨z, e, h⟩ := bind_inv h; exact tup_inv e ▸ .tup a z b h
  | lst a => obtain ⟨z, e, h⟩ := bind_inv h; exact lst_inv e ▸ .lst a z b h
  | _ => exact nos h

theorem tup_same {h : Heap} {a : Addr} {vs ws : List Value} (p : IsTup h a vs.toArray) (q : IsTup h a ws.toArray) : vs = ws := by
  obtain ⟨o, ho, _, n, hd⟩ := p
  obtain ⟨o', ho', _, n', hd'⟩ := q
  cases Option.some.inj (ho.symm.trans ho')
  exact congrArg Array.toList (Data.seq.inj (hd.symm.trans hd')).1
theorem lst_same {h : Heap} {a : Addr} {vs ws : List Value} (p : h.PlainList a vs.toArray) (q : h.PlainList a ws.toArray) : vs = ws := by
  obtain ⟨k, ho⟩ := p
  obtain ⟨k', ho'⟩ := q
  exact congrArg Array.toList (Data.seq.inj (Obj.mk.inj (Option.some.inj (ho.symm.trans ho'))).2.2.1).1
theorem Reps.fun0 {h : Heap} {f : D → D → Option Bool} (hf : ∀ {v : Value} {x y : D} {b : Bool}, Rep c h W v x → Rep c h W v y → f x y = some b → b = true) :
    ∀ {vs : List Value} {xs ys : List D} {b : Bool}, Reps c h W vs xs → Reps c h W vs ys → eqvs f xs ys = some b → b = true
  | [], xs, ys, b, hx, hy, e => by
    cases hx; cases hy; exact (Option.some.inj e).symm
  | v :: vs, xs, ys, b, hx, hy, e => by
    cases hx with
    | cons hd tl =>
      cases hy with
      | cons hd' tl' =>
        obtain ⟨p, e1, e⟩ := bind_inv e
        obtain ⟨q, e2, e⟩ := map_inv e
        rw [← e, hf hd hd' e1, Reps.fun0 hf tl tl' e2]; rfl
theorem Rep.fun0 {h : Heap} {f : List D → List D → Option Bool} (hf : ∀ {vs : List Value} {xs ys : List D} {b : Bool}, Reps c h W vs xs → Reps c h W vs ys → f xs ys = some b → b = true) {v : Value} {x y : D} {b : Bool}
    (rx : Rep c h W v x) (ry : Rep c h W v y) (e : eqD f x y = some b) : b = true := by
  cases eqV e with
  | int i j =>
    obtain ⟨t, h1⟩ := rx.intI
    obtain ⟨u, h2⟩ := ry.intI
    exact beq_iff_eq.mpr (Value.int.inj (h1.symm.trans h2)).1
  | flt a h => rfl
  | str i j =>
    obtain ⟨x, t, h1, h3⟩ := rx.strI
    obtain ⟨y, u, h2, h4⟩ := ry.strI
    rw [h1, h2, (Value.str.inj (h3.symm.trans h4)).1]
    exact beq_self_eq_true _
  | bool i j => exact beq_iff_eq.mpr (Value.bool.inj (rx.boolI.symm.trans ry.boolI))
  | tup i j r h =>
    obtain ⟨a, vs, h1, _, h2, h3⟩ := rx.tupI
    obtain ⟨a', vs', h4, _, h5, h6⟩ := ry.tupI
    cases Value.ref.inj (h1.symm.trans h4)
    exact hf h3 (tup_same h2 h5 ▸ h6) h
  | lst i j r h =>
    obtain ⟨a, vs, h1, _, h2, h3⟩ := rx.lstI
    obtain ⟨a', vs', h4, _, h5, h6⟩ := ry.lstI
    cases Value.ref.inj (h1.symm.trans h4)
    exact hf h3 (lst_same h2 h5 ▸ h6) h
theorem Rep.fun1 {h : Heap} : ∀ {n : Nat} {v : Value} {x y : D} {b : Bool}, Rep c h W v x → Rep c h W v y → D.eqv n x y = some b → b = true
  | 0, _, _, _, _, rx, ry, e => Rep.fun0 (fun _ _ e => nos e) rx ry e
  | n + 1, _, _, _, _, rx, ry, e => Rep.fun0 (Reps.fun0 fun a b e => Rep.fun1 (n := n) a b e) rx ry e

theorem units_in1 (A : Around) : A.in1.units = A.units + 1 := rfl

theorem els {f : D → D → Option Bool} {m : Nat} (ih : ∀ {x y : D} {v u : Value} {b : Bool} {A : Around}, f x y = some b → Rep c s.heap W v x → Rep c s.heap W u y → A.units + m < cLine → RcAt A s v u b ∧ EqAt A s v u b) {xs ys : List D} {vs us : List Value}
    (hr : Reps c s.heap W vs xs) (hr' : Reps c s.heap W us ys) (hu : A.units + (m + 1) < cLine) {e : Nat → Bool} (h : ∀ (j : Nat) (x y : D), xs[j]? = some x → ys[j]? = some y → f x y = some (e j)) (j : Nat) (h1 : j < vs.toArray.size) (h2 : j < us.toArray.size) :
    EqAt A.in1 s vs.toArray[j] us.toArray[j] (e j) := by
  have k1 : j < xs.length := hr.length ▸ h1
  have k2 : j < ys.length := hr'.length ▸ h2
  obtain ⟨v1, q1, r1⟩ := hr.get (List.getElem?_eq_getElem k1)
  obtain ⟨v2, q2, r2⟩ := hr'.get (List.getElem?_eq_getElem k2)
  have z1 : vs.toArray[j] = v1 := (List.getElem?_eq_some_iff.mp q1).2
  have z2 : us.toArray[j] = v2 := (List.getElem?_eq_some_iff.mp q2).2
  rw [z1, z2]
  exact (ih (h j _ _ (List.getElem?_eq_getElem k1) (List.getElem?_eq_getElem k2)) r1 r2 (by rw [units_in1, Nat.add_assoc, Nat.add_comm 1]; exact hu)).2
theorem beq_len {a b : Nat} (h : a ≠ b) (p : Bool) : (p && a == b) = false := by rw [beq_eq_false_iff_ne.mpr h, Bool.and_false]
section
variable {f : D → D → Option Bool} {m : Nat} (ih : ∀ {x y : D} {v u : Value} {b : Bool} {A : Around}, f x y = some b → Rep c s.heap W v x → Rep c s.heap W u y → A.units + m < cLine → RcAt A s v u b ∧ EqAt A s v u b) {xs ys : List D} {vs us : List Value} {a a' : Addr} {r : Bool}
  (hr : Reps c s.heap W vs xs) (hr' : Reps c s.heap W us ys) (hu : A.units + (m + 1) < cLine) (h : eqvs f xs ys = some r)
include ih hr hr' hu h
theorem rc_tup (p : IsTup s.heap a vs.toArray) (q : IsTup s.heap a' us.toArray) : RcAt A s (.ref a) (.ref a') r := by
  obtain ⟨e, h1, h2⟩ := eqvs_spec h
  rw [← h2, ← hr.length, ← hr'.length]
  exact RcAt.tuples p q (Nat.lt_of_le_of_lt (Nat.le_add_right _ _) hu) (els ih hr hr' hu h1)
theorem rc_lst (p : s.heap.PlainList a vs.toArray) (q : s.heap.PlainList a' us.toArray) : RcAt A s (.ref a) (.ref a') r := by
  obtain ⟨e, h1, h2⟩ := eqvs_spec h
  rw [← h2, ← hr.length, ← hr'.length]
  by_cases hl : vs.length = us.length
  · rw [← hl, Nat.min_self, beq_self_eq_true, Bool.and_true]
    exact RcAt.lists p.isList q.isList hl (Nat.lt_of_le_of_lt (Nat.le_add_right _ _) hu) (els ih hr hr' hu h1)
  · rw [beq_len hl]
    exact RcAt.lists_lengths p.isList q.isList (bne_iff_ne.mpr hl) (Nat.lt_of_le_of_lt (Nat.le_add_right _ _) hu)
theorem rc_ne (p : s.heap.PlainList a vs.toArray) (q : s.heap.PlainList a' us.toArray) : RcNeAt A s (.ref a) (.ref a') (!r) := by
  obtain ⟨e, h1, h2⟩ := eqvs_spec h
  rw [← h2, ← hr.length, ← hr'.length]
  by_cases hl : vs.length = us.length
  · rw [← hl, Nat.min_self, beq_self_eq_true, Bool.and_true]
    exact RcNeAt.lists p.isList q.isList hl (Nat.lt_of_le_of_lt (Nat.le_add_right _ _) hu) (els ih hr hr' hu h1)
  · rw [beq_len hl]
    exact RcNeAt.lists_lengths p.isList q.isList (bne_iff_ne.mpr hl) (Nat.lt_of_le_of_lt (Nat.le_add_right _ _) hu)
end
theorem eq_atom (hb : NoneBooked s.heap) {f : List D → List D → Option Bool} {m : Nat} (one : ∀ {x y : D} {v : Value} {b : Bool}, Rep c s.heap W v x → Rep c s.heap W v y → eqD f x y = some b → b = true)
    (tup : ∀ {xs ys : List D} {vs us : List Value} {a a' : Addr} {r : Bool} {A : Around}, Reps c s.heap W vs xs → Reps c s.heap W us ys → A.units + m < cLine → f xs ys = some r → IsTup s.heap a vs.toArray → IsTup s.heap a' us.toArray → RcAt A s (.ref a) (.ref a') r)
    (lst : ∀ {xs ys : List D} {vs us : List Value} {a a' : Addr} {r : Bool} {A : Around}, Reps c s.heap W vs xs → Reps c s.heap W us ys → A.units + m < cLine → f xs ys = some r → s.heap.PlainList a vs.toArray → s.heap.PlainList a' us.toArray → RcAt A s (.ref a) (.ref a') r)
    {x y : D} {v u : Value} {b : Bool} {A : Around} (e : eqD f x y = some b) (rx : Rep c s.heap W v x) (ry : Rep c s.heap W u y) (hu : A.units + m < cLine) : RcAt A s v u b ∧ EqAt A s v u b := by
  have key : ∀ {a a' : Addr}, v = .ref a → u = .ref a' → RcAt A s (.ref a) (.ref a') b → RcAt A s v u b ∧ EqAt A s v u b := fun {a a'} h1 h2 rc => by
    subst h1 h2
    by_cases hab : a = a'
    · subst hab
      have := one rx ry e
      subst this
      exact ⟨rc, .same _⟩
    · exact ⟨rc, .of_refs hab rc⟩
  cases eqV e with
  | int i j =>
    obtain ⟨t, rfl⟩ := rx.intI
    obtain ⟨t', rfl⟩ := ry.intI
    exact ⟨.int_int _ _ _ _, .int_int _ _ _ _⟩
  | flt i hn =>
    obtain ⟨t, ht, rfl⟩ := rx.fltI
    obtain ⟨t', ht', rfl⟩ := ry.fltI
    exact ⟨RcAt.float_float _ _ _ hn, EqAt.float_float _ _ _ hn hb ht ht'⟩
  | str i j =>
    obtain ⟨z, t, rfl, rfl⟩ := rx.strI
    obtain ⟨z', t', rfl, rfl⟩ := ry.strI
    rw [toList_beqS]
    exact ⟨.str_str _ _ _ _, .str_str _ _ _ _⟩
  | bool i j =>
    cases rx.boolI
    cases ry.boolI
    exact ⟨.bool_bool _ _, .bool_bool _ _⟩
  | tup i j r h =>
    obtain ⟨a, vs, h1, _, h2, h3⟩ := rx.tupI
    obtain ⟨a', vs', h4, _, h5, h6⟩ := ry.tupI
    exact key h1 h4 (tup h3 h6 hu h h2 h5)
  | lst i j r h =>
    obtain ⟨a, vs, h1, _, h2, h3⟩ := rx.lstI
    obtain ⟨a', vs', h4, _, h5, h6⟩ := ry.lstI
    exact key h1 h4 (lst h3 h6 hu h h2 h5)
theorem eq_sound (hb : NoneBooked s.heap) : ∀ (n : Nat) {x y : D} {v u : Value} {b : Bool} {A : Around}, D.eqv n x y = some b → Rep c s.heap W v x → Rep c s.heap W u y → A.units + n < cLine → RcAt A s v u b ∧ EqAt A s v u b
  | 0 => eq_atom hb (Rep.fun1 (n := 0)) (fun _ _ _ e => nos e) (fun _ _ _ e => nos e)
  | n + 1 => eq_atom hb (Rep.fun1 (n := n + 1)) (rc_tup (eq_sound hb n)) (rc_lst (eq_sound hb n))
end
end Mv
end
section
open PySem PySem.W PyProof.Rows
set_option Elab.async false
namespace Mv
open SeqAt

section
variable {c : Cx} {A : Around} {E : Value → Shared → Prop} {s : Shared} {W : Addr → Prop}

theorem toList_bneS (x y : Str) : (x.cps.toList != y.cps.toList) = (x != y) := by
  simp only [bne, toList_beqS]

theorem cmpD_sound {op : Cop} {x y : D} {v u : Value} {b : Bool} {Q : Value → Shared → Prop} (hb : NoneBooked s.heap) (hu : A.units + 8 < cLine) (e : cmpD op x y = some b) (rx : Rep c s.heap W v x) (ry : Rep c s.heap W u y)
    (h : Q (.bool b) s) : wpAny (model c.prog c.w) A (compareOp (cmpsyn op) v u) Q E s := by
  cases x with
  | int a =>
    obtain ⟨b, ey, rfl⟩ := map_inv e
    cases int_inv ey
    obtain ⟨t, rfl⟩ := rx.intI
    obtain ⟨t', rfl⟩ := ry.intI
    clear e ey rx ry
    cases op with
    | eq => exact PyProof.Rows.eq_int h
    | ne => exact PyProof.Rows.ne_int h
    | lt => exact PyProof.Rows.lt_int h
    | le => exact le_int h
    | gt => exact PyProof.Rows.gt_int h
    | ge => exact ge_int h
  | flt a =>
    obtain ⟨b, ey, e⟩ := bind_inv e
    cases flt_inv ey
    obtain ⟨t, _, rfl⟩ := rx.fltI
    obtain ⟨t', _, rfl⟩ := ry.fltI
    clear ey rx ry
    cases op with
    | eq => exact AutoFloatOps.eq_0 (Option.some.inj e ▸ h)
    | le => exact AutoFloatOps.le_0 (Option.some.inj e ▸ h)
    | _ => exact nos e
  | str a =>
    obtain ⟨b, ey, e⟩ := bind_inv e
    cases str_inv ey
    obtain ⟨x, t, rfl, rfl⟩ := rx.strI
    obtain ⟨y, t', rfl, rfl⟩ := ry.strI
    clear ey rx ry
    cases op with
    | eq => exact PyProof.Rows.eq_str ((toList_beqS x y).symm.trans (Option.some.inj e) ▸ h)
    | ne => exact PyProof.Rows.ne_str ((toList_bneS x y).symm.trans (Option.some.inj e) ▸ h)
    | _ => exact nos e
  | lst a =>
    obtain ⟨b, ey, e⟩ := bind_inv e
    cases lst_inv ey
    cases op with
    | eq => exact (eq_sound hb 5 (x := .lst _) (y := .lst _) e rx ry (Nat.lt_of_le_of_lt (Nat.add_le_add_left (by decide) _) hu)).1 c.prog c.w E Q h
    | ne =>
      obtain ⟨r, e1, rfl⟩ := map_inv e
      obtain ⟨a, vs, rfl, _, h2, h3⟩ := rx.lstI
      obtain ⟨a', vs', rfl, _, h5, h6⟩ := ry.lstI
      exact rc_ne (f := D.eqv 4) (eq_sound hb 4) h3 h6 (Nat.lt_of_le_of_lt (Nat.add_le_add_left (by decide) _) hu) e1 h2 h5 c.prog c.w E Q h
    | _ => exact nos e
  | _ => exact nos e

structure It (c : Cx) (A : Around) (s : Shared) (W : Addr → Prop) (ds : List D) (it : Value) (s₂ : Shared) (I : Addr) (fp : List Addr) (P : Nat → Value → Prop) (St : Nat → Heap → Prop) : Prop where
  hit : it = .ref I
  hw : Walks c.prog c.w A I fp [I] ds.length P St
  hst : St 0 s₂.heap
  hfp : ∀ b ∈ fp, b < s₂.heap.objs.size
  hnew : s.heap.get? I = none
  hoff : ∀ b ∈ fp, b ≠ I → ¬ W b ∧ ∃ o, s.heap.get? b = some o
  hitem : ∀ i u, i < ds.length → P i u → ∃ d, ds[i]? = some d ∧ Rep c s.heap W u d
  hlet : ∀ i u a, P i u → u = .ref a → ∀ j h, St j h → ∃ o, h.get? I = some o ∧ (o.cls = .type "list_iterator" ∨ o.cls = .type "tuple_iterator")
  hkeep : ∃ h₂ tk, s₂ = { s with heap := h₂, toks := tk } ∧ Keep s.heap h₂
  hlive : ∀ j h, St j h → ∃ o, h.get? I = some o

theorem get_size_none (h : Heap) : h.get? h.objs.size = none := by
  cases e : h.get? h.objs.size with
  | none => rfl
  | some o => exact absurd (Heap.lt_size e) (Nat.lt_irrefl _)

theorem pyIter_str' {x : Str} {t : Tok} {Q : Value → Shared → Prop}
    (hQ : ∀ (o : Obj) (St : Nat → Heap → Prop), (∀ A' : Around, A'.handled = none → Walks c.prog c.w A' s.heap.objs.size [s.heap.objs.size] [s.heap.objs.size] x.cps.size (SignAt x) St) → St 0 (s.heap.push o) →
      (∀ j h, St j h → ∃ o, h.get? s.heap.objs.size = some o) → Q (.ref s.heap.objs.size) { s with heap := s.heap.push o }) : wpAny (model c.prog c.w) A (pyIter (.str x t)) Q E s := by
  cases ha : x.cps.all (· < 128)
  · exact wpAny_pyIter_wide ha (hQ _ _ (fun A' hA => Walks.strWide hA _ x t) ⟨_, Heap.get?_push_size _ rfl, rfl, rfl⟩ fun j h st => let ⟨o, e, _⟩ := st; ⟨o, e⟩)
  · exact wpAny_pyIter_ascii ha (hQ _ _ (fun A' hA => Walks.strAscii hA _ x t) ⟨_, Heap.get?_push_size _ rfl, rfl, rfl⟩ fun j h st => let ⟨o, e, _⟩ := st; ⟨o, e⟩)

theorem iter_sound {v : Value} {d : D} {ds : List D} {Q : Value → Shared → Prop} (hh : A.handled = none) (e : itemsD d = some ds) (r : Rep c s.heap W v d) (L : Live s.heap W)
    (h : ∀ it s₂ I fp P St, It c A s W ds it s₂ I fp P St → Q it s₂) : wpAny (model c.prog c.w) A (pyIter v) Q E s := by
  cases r with
  | lst hW ha hr =>
    rename_i a vs ds'
    simp only [itemsD, Option.some.injEq] at e; subst e
    obtain ⟨n, ho⟩ := id ha
    have hne : a ≠ s.heap.objs.size := Nat.ne_of_lt (Heap.lt_size ho)
    refine wpAny_pyIter_list ha.isList (h _ _ s.heap.objs.size [s.heap.objs.size, a] (fun i v => vs.toArray[i]? = some v) (fun i (h : Heap) => h.IsListIter s.heap.objs.size a i ∧ h.IsList a vs.toArray) ⟨rfl, ?_, ?_, ?_, ?_, ?_, ?_, (fun _ _ _ _ _ _ _ st => let ⟨⟨o, e1, e2, _⟩, _⟩ := st; ⟨o, e1, .inl e2⟩), ?_, (fun _ _ st => let ⟨⟨o, e1, _⟩, _⟩ := st; ⟨o, e1⟩)⟩)
    · have W' := Walks.list (prog := c.prog) (w := c.w) hh s.heap.objs.size a hne vs.toArray
      have hl : vs.toArray.size = ds'.length := by simp [hr.length]
      rw [hl] at W'; exact W'
    · exact ⟨⟨_, Heap.get?_push_size _ rfl, rfl, rfl⟩, ha.isList.push _⟩
    · intro b hb
      show b < (s.heap.push _).objs.size
      rw [Heap.size_push]
      rcases List.mem_cons.mp hb with rfl | hb
      · exact Nat.lt_succ_self _
      · rw [List.mem_singleton.mp hb]; exact Nat.lt_succ_of_lt (Heap.lt_size ho)
    · exact get_size_none _
    · intro b hb hn
      rcases List.mem_cons.mp hb with rfl | hb
      · exact absurd rfl hn
      · rw [List.mem_singleton.mp hb]; exact ⟨hW, _, ho⟩
    · intro i u hi hp
      obtain ⟨d, q1, q2⟩ := hr.getV (k := i) (v := u) (by simpa using hp)
      exact ⟨d, q1, q2⟩
    · exact ⟨_, s.toks, rfl, Keep.push _ _⟩
  | tup hW ha hr =>
    rename_i a vs ds'
    simp only [itemsD, Option.some.injEq] at e; subst e
    obtain ⟨o, ho, _⟩ := id ha
    have hne : a ≠ s.heap.objs.size := Nat.ne_of_lt (Heap.lt_size ho)
    refine wpAny_pyIter_tuple ha (h _ _ s.heap.objs.size [s.heap.objs.size, a] (fun i v => vs.toArray[i]? = some v) (fun i (h : Heap) => h.IsTupleIter s.heap.objs.size a i ∧ h.IsTuple a vs.toArray) ⟨rfl, ?_, ?_, ?_, ?_, ?_, ?_, (fun _ _ _ _ _ _ _ st => let ⟨⟨o, e1, e2, _⟩, _⟩ := st; ⟨o, e1, .inr e2⟩), ?_, (fun _ _ st => let ⟨⟨o, e1, _⟩, _⟩ := st; ⟨o, e1⟩)⟩)
    · have W' := Walks.tuple (prog := c.prog) (w := c.w) hh s.heap.objs.size a hne vs.toArray
      have hl : vs.toArray.size = ds'.length := by simp [hr.length]
      rw [hl] at W'; exact W'
    · exact ⟨⟨_, Heap.get?_push_size _ rfl, rfl, rfl⟩, Heap.IsTuple.push ha _⟩
    · intro b hb
      show b < (s.heap.push _).objs.size
      rw [Heap.size_push]
      rcases List.mem_cons.mp hb with rfl | hb
      · exact Nat.lt_succ_self _
      · rw [List.mem_singleton.mp hb]; exact Nat.lt_succ_of_lt (Heap.lt_size ho)
    · exact get_size_none _
    · intro b hb hn
      rcases List.mem_cons.mp hb with rfl | hb
      · exact absurd rfl hn
      · rw [List.mem_singleton.mp hb]; exact ⟨hW, _, ho⟩
    · intro i u hi hp
      obtain ⟨d, q1, q2⟩ := hr.getV (k := i) (v := u) (by simpa using hp)
      exact ⟨d, q1, q2⟩
    · exact ⟨_, s.toks, rfl, Keep.push _ _⟩
  | str x t l hl =>
    subst hl
    simp only [itemsD, Option.some.injEq] at e; subst e
    refine pyIter_str' fun o St W' st lv => h _ _ s.heap.objs.size [s.heap.objs.size] (SignAt x) St ⟨rfl, ?_, st, ?_, get_size_none _, ?_, ?_, (fun i u a hp hu => by obtain ⟨q, t', _, rfl⟩ := hp; cases hu), ⟨_, s.toks, rfl, Keep.push _ _⟩, lv⟩
    · have := W' A hh
      simpa using this
    · intro b hb
      rw [List.mem_singleton.mp hb]
      show _ < (s.heap.push _).objs.size
      rw [Heap.size_push]; exact Nat.lt_succ_self _
    · intro b hb hn
      exact absurd (List.mem_singleton.mp hb) hn
    · rintro i u hi ⟨q, t', hq, rfl⟩
      refine ⟨.str [q], ?_, .str _ _ _ rfl⟩
      simp only [List.getElem?_map, Option.map_eq_some_iff]
      exact ⟨q, by simpa using hq, rfl⟩
  | _ => simp [itemsD] at e

theorem rngL_get : ∀ (n : Nat) (a : Int) (i : Nat), i < n → (rngL a n)[i]? = some (.int (a + i))
  | 0, _, _, h => absurd h (Nat.not_lt_zero _)
  | n + 1, a, 0, _ => by simp [rngL]
  | n + 1, a, i + 1, h => by
    simp only [rngL, List.getElem?_cons_succ]
    rw [rngL_get n (a + 1) i (by lia)]
    congr 2
    push_cast
    lia
theorem rngL_len : ∀ (n : Nat) (a : Int), (rngL a n).length = n
  | 0, _ => rfl
  | n + 1, a => by simp [rngL, rngL_len n]

theorem range_iter {r : Addr} {a b : Int} {t u v : Tok} {Q : Value → Shared → Prop} (hh : A.handled = none) (hr : IsRange s.heap r a b 1 t u v) (ha : small a = true) (hb : small b = true) (L : Live s.heap W)
    (h : ∀ it s₂ I fp P St, It c A s W (rngL a (b - a).toNat) it s₂ I fp P St → Q it s₂) : wpAny (model c.prog c.w) A (pyIter (.ref r)) Q E s := by
  simp only [small, decide_eq_true_eq] at ha hb
  have hn : Builtin.Range.rangeSize a b 1 = ((b - a).toNat : Int) := by
    unfold Builtin.Range.rangeSize
    split <;> split <;> lia
  refine wpAny_pyIter_range hr ?_ (h _ _ s.heap.objs.size [s.heap.objs.size] _ _ ⟨rfl, by rw [rngL_len]; exact Walks.range hh s.heap.objs.size a 1 (b - a).toNat, ?_, ?_, get_size_none _, ?_, ?_, (fun i u a hp hu => by obtain ⟨t', rfl⟩ := hp; cases hu), ⟨_, s.toks, rfl, Keep.push _ _⟩, fun _ _ st => ⟨_, st⟩⟩)
  · exact small_one (by lia) (by lia) (by lia) (by lia)
  · show IsRangeIter _ _ _ _ _
    rw [hn]
    simpa using Heap.get?_push_size _ rfl
  · intro b hb
    rw [List.mem_singleton.mp hb]
    show _ < (s.heap.push _).objs.size
    rw [Heap.size_push]; exact Nat.lt_succ_self _
  · intro b hb hn
    exact absurd (List.mem_singleton.mp hb) hn
  · rintro i u hi ⟨t', rfl⟩
    rw [rngL_len] at hi
    refine ⟨_, rngL_get _ _ _ hi, ?_⟩
    rw [Int.mul_one]
    exact .int _ _
end
end Mv
end
section
open PySem PySem.W PyProof.Rows
set_option Elab.async false
namespace Mv
open SeqAt

section
variable {c : Cx} {A : Around} {E : Value → Shared → Prop} {s : Shared} {W : Addr → Prop} {Q : Value → Shared → Prop}

theorem subscripted_plain {sl : PySem.Expr} (h : ∀ a b d p, sl ≠ .Slice a b d p) (o i : Value) : subscripted sl false o i = operate [o, i] (getItem o i) := by
  cases sl <;> first | rfl | exact absurd rfl (h _ _ _ _)

theorem posOf_seq {i : Int} {n k : Nat} (e : posOf i n = some k) : seqIndex? i n = some k ∧ -(2 ^ 62) < i ∧ i < 2 ^ 62 := by
  unfold posOf at e
  split at e
  · rename_i h
    simp only [small, decide_eq_true_eq] at h
    exact ⟨e, by lia, by lia⟩
  · cases e
theorem seqIndex_cases {i : Int} {n k : Nat} (e : seqIndex? i n = some k) : (0 ≤ i ∧ k = i.toNat ∧ k < n) ∨ (i < 0 ∧ -(n : Int) ≤ i ∧ k = (i + n).toNat ∧ k < n) := by
  unfold seqIndex? at e
  by_cases h : i < 0
  · simp only [h, if_true] at e
    split at e
    · rename_i hc
      simp only [Bool.and_eq_true, decide_eq_true_eq] at hc
      simp only [Option.some.injEq] at e
      exact .inr ⟨h, by lia, e.symm, by lia⟩
    · cases e
  · simp only [h, if_false] at e
    split at e
    · rename_i hc
      simp only [Bool.and_eq_true, decide_eq_true_eq] at hc
      simp only [Option.some.injEq] at e
      exact .inl ⟨by lia, e.symm, by lia⟩
    · cases e

theorem getItem_lst {a : Addr} {vs : List Value} {ds : List D} {i : Int} {t : Tok} {k : Nat} {d : D} (ha : s.heap.PlainList a vs.toArray) (hr : Reps c s.heap W vs ds) (e : posOf i ds.length = some k) (ed : ds[k]? = some d)
    (h : ∀ v, Rep c s.heap W v d → Q v s) : wpAny (model c.prog c.w) A (getItem (.ref a) (.int i t)) Q E s := by
  obtain ⟨e1, e2, e3⟩ := posOf_seq e
  obtain ⟨v, q1, q2⟩ := hr.get ed
  rcases seqIndex_cases e1 with ⟨h0, rfl, hk⟩ | ⟨h0, h1, rfl, hk⟩
  · exact wpAny_getItem_list ha.isList h0 (by lia) (by simpa using q1) (h v q2)
  · refine wpAny_getItem_list_neg ha.isList h0 (by simp [hr.length]; lia) (by lia) ?_ (h v q2)
    simpa [hr.length] using q1

theorem lookT_get : ∀ {ks : List (List Nat)} {ds : List D} {x : List Nat} {d : D}, lookT ks ds x = some d → ∃ k : Nat, ks[k]? = some x ∧ ds[k]? = some d ∧ ∀ j : Nat, j < k → ks[j]? ≠ some x
  | [], _, _, _, e => by simp [lookT] at e
  | _ :: _, [], _, _, e => by simp [lookT] at e
  | k :: ks, v :: vs, x, d, e => by
    simp only [lookT] at e
    split at e
    · rename_i h
      simp only [Option.some.injEq] at e; subst e
      exact ⟨0, by simpa using h, rfl, fun j hj => absurd hj (Nat.not_lt_zero _)⟩
    · rename_i h
      obtain ⟨q, a, b, f⟩ := lookT_get e
      refine ⟨q + 1, by simpa using a, by simpa using b, fun j hj => ?_⟩
      cases j with
      | zero => simpa using h
      | succ j => simpa using f j (by lia)

theorem valueAt_of : ∀ {kvs : List (Str × Value)} {x : Str} {k : Nat}, (kvs.map (·.1.cps.toList))[k]? = some x.cps.toList → (∀ j, j < k → (kvs.map (·.1.cps.toList))[j]? ≠ some x.cps.toList) → ∀ {v}, (kvs.map (·.2))[k]? = some v → valueAt kvs x = some v
  | [], _, k, e, _, _, _ => by simp at e
  | kv :: r, x, 0, e, _, v, ev => by
    simp only [List.map_cons, List.getElem?_cons_zero, Option.some.injEq] at e ev
    have := toList_inj e
    unfold valueAt
    rw [List.find?_cons_of_pos (by simp [this])]
    simpa using ev
  | kv :: r, x, k + 1, e, f, v, ev => by
    have h0 : kv.1 ≠ x := fun h => f 0 (by lia) (by simp [h])
    unfold valueAt
    rw [List.find?_cons_of_neg (by simp [h0])]
    exact valueAt_of (by simpa using e) (fun j hj => by simpa using f (j + 1) (by lia)) (by simpa using ev)

theorem getItem_tab {a : Addr} {kvs : List (Str × Value)} {ks : List (List Nat)} {ds : List D} {x : Str} {t : Tok} {d : D} (hd : s.heap.DictOf (PySem.strKind c.prog c.w) a kvs) (hk : kvs.map (·.1.cps.toList) = ks)
    (hr : Reps c s.heap W (kvs.map (·.2)) ds) (e : lookT ks ds x.cps.toList = some d) (h : ∀ v, Rep c s.heap W v d → Q v { s with toks := s.toks + 1 }) : wpAny (model c.prog c.w) A (getItem (.ref a) (.str x t)) Q E s := by
  obtain ⟨k, e1, e2, e3⟩ := lookT_get e
  obtain ⟨v, q1, q2⟩ := hr.get e2
  subst hk
  exact wpAny_getItem_of (PySem.strKind_is c.prog c.w x t) hd.mapOf (valueAt_of e1 e3 q1) (h v q2)

theorem low62 {i : Int} (h : -(2 ^ 62) < i) : -(2 ^ 63) ≤ i := by lia
theorem high62 {i : Int} (h : i < 2 ^ 62) : i < 2 ^ 63 := by lia
theorem near62 {i : Int} (h : -(2 ^ 62) < i) (h' : i < 2 ^ 62) : (decide (i < -(2 ^ 63 : Int)) || decide (i ≥ 2 ^ 63)) = false := by
  rw [decide_eq_false (by lia), decide_eq_false (by lia)]; rfl
theorem str_at {z : Str} {j : Int} {k : Nat} {q : Nat} (e3 : seqIndex? j z.cps.toList.length = some k) (e2 : z.cps.toList[k]? = some q) : (seqIndex? j z.length).bind (z.cps[·]?) = some q := by
  rw [show z.length = z.cps.toList.length from Array.length_toList.symm, e3]
  exact (Array.getElem?_toList).symm.trans e2
theorem len_fits {vs : List Value} {ds : List D} {h : Heap} (hr : Reps c h W vs ds) (hl : ds.length ≤ 100000) : (vs.toArray.size : Int) < 2 ^ 63 := by
  rw [List.size_toArray, hr.length]; lia
theorem idxD_sound {o i : Value} {x y d : D} {base sl : PySem.Expr} (hs : ∀ a b d p, sl ≠ .Slice a b d p) (e : idxD x y = some d) (rx : BRep c s.heap W o x) (ry : Rep c s.heap W i y) (P : Post c s W d Q) :
    wpAny (model c.prog c.w) A (subscriptTail base sl o i) Q E s := by
  cases x with
  | lst l =>
    obtain ⟨j, ey, e⟩ := bind_inv e
    cases int_inv ey
    obtain ⟨k, e1, e2⟩ := bind_inv e
    obtain ⟨t, rfl⟩ := ry.intI
    obtain ⟨a, vs, rfl, ha, hr⟩ := rx.lstI
    exact tail_any ha.isList.typeIs slot_list_getitem.lookup (getItem_lst ha hr e1 e2 fun v r => P.at r) (subscripted_plain hs _ _)
  | tab ks ds =>
    obtain ⟨j, ey, e⟩ := bind_inv e
    cases str_inv ey
    obtain ⟨z, t, rfl, rfl⟩ := ry.strI
    obtain ⟨a, kvs, rfl, hd, hk, hr⟩ := rx.tabI
    exact tail_any hd.typeIs slot_dict_getitem.lookup (getItem_tab hd hk hr e fun v r => P.here r _) (subscripted_plain hs _ _)
  | tup l =>
    obtain ⟨j, ey, e⟩ := bind_inv e
    cases int_inv ey
    obtain ⟨k, e1, e2⟩ := bind_inv e
    obtain ⟨t, rfl⟩ := ry.intI
    obtain ⟨a, vs, rfl, ha, hr⟩ := rx.tupI
    obtain ⟨e3, e4, e5⟩ := posOf_seq e1
    obtain ⟨v, q1, q2⟩ := hr.get e2
    rw [← hr.length] at e3
    exact tail_any (IsTup.typeIs ha) PySem.F.slot_tuple_getitem.lookup (PyProof.Rows.getItem_tuple ha (low62 e4) (high62 e5) e3 (List.getElem?_toArray.trans q1) (P.at q2)) (subscripted_plain hs _ _)
  | str l =>
    obtain ⟨j, ey, e⟩ := bind_inv e
    cases int_inv ey
    obtain ⟨k, e1, e⟩ := bind_inv e
    obtain ⟨q, e2, rfl⟩ := map_inv e
    obtain ⟨t', rfl⟩ := ry.intI
    obtain ⟨z, t, rfl, rfl⟩ := rx.strI
    obtain ⟨e3, e4, e5⟩ := posOf_seq e1
    exact tail_any (typeIs_str s z t) PySem.F.slot_str_getitem.lookup (PyProof.Rows.getItem_str (c := q) (near62 e4 e5) (str_at e3 e2) (P.here (.str _ _ _ rfl) _)) (subscripted_plain hs _ _)
  | _ => exact nos e

theorem len_sound {o : Value} {x d : D} (e : bfD .len [x] = some d) (rx : BRep c s.heap W o x) (P : Post c s W d Q) : wpAny (model c.prog c.w) A (call (.builtin "len") [o]) Q E s := by
  cases x with
  | lst ds =>
    obtain ⟨h, rfl⟩ := of_ite e
    obtain ⟨a, vs, rfl, ha, hr⟩ := rx.lstI
    refine Calls.call_len_list ha.isList (len_fits hr (of_decide_eq_true h)) ?_
    rw [List.size_toArray, hr.length]
    exact P.here (.int (ds.length : Int) (s.toks + 1)) (s.toks + 1 + 1)
  | tup ds =>
    obtain ⟨h, rfl⟩ := of_ite e
    obtain ⟨a, vs, rfl, ha, hr⟩ := rx.tupI
    refine PyProof.Rows.len_tuple ha (len_fits hr (of_decide_eq_true h)) ?_
    rw [List.size_toArray, hr.length]
    exact P.here (.int (ds.length : Int) (s.toks + 1)) (s.toks + 1 + 1)
  | _ => exact nos e
end
end Mv
end
section
open PySem PySem.W PyProof.Rows
set_option Elab.async false
namespace Mv
open SeqAt

theorem maxI_snoc : ∀ (l : List Int) (a b : Int), maxI a (l ++ [b]) = if maxI a l < b then b else maxI a l
  | [], _, _ => rfl
  | x :: l, a, b => by simp only [List.cons_append, maxI]; exact maxI_snoc l _ b
theorem minI_snoc : ∀ (l : List Int) (a b : Int), minI a (l ++ [b]) = if b < minI a l then b else minI a l
  | [], _, _ => rfl
  | x :: l, a, b => by simp only [List.cons_append, minI]; exact minI_snoc l _ b
theorem best_max (a : Int) (l : List Int) : ∀ k, k ≤ l.length → (a :: l)[argBest (fun i j => decide ((a :: l).getD j 0 < (a :: l).getD i 0)) k]? = some (maxI a (l.take k))
  | 0, _ => by simp [argBest, maxI]
  | k + 1, h => by
    have ih := best_max a l k (by lia)
    have hk : l[k]? = some l[k] := List.getElem?_eq_getElem (by lia)
    rw [List.take_add_one, hk]
    simp only [Option.toList_some]
    rw [maxI_snoc]
    simp only [argBest]
    have e1 : (a :: l).getD (argBest (fun i j => decide ((a :: l).getD j 0 < (a :: l).getD i 0)) k) 0 = maxI a (l.take k) := by
      rw [List.getD_eq_getElem?_getD, ih]; rfl
    have e2 : (a :: l).getD (k + 1) 0 = l[k] := by
      rw [List.getD_eq_getElem?_getD, List.getElem?_cons_succ, hk]; rfl
    by_cases hlt : maxI a (l.take k) < l[k]
    · rw [if_pos (by rw [decide_eq_true_eq, e1, e2]; exact hlt), if_pos hlt, List.getElem?_cons_succ, hk]
    · rw [if_neg (by rw [decide_eq_true_eq, e1, e2]; exact hlt), if_neg hlt, ih]
theorem best_min (a : Int) (l : List Int) : ∀ k, k ≤ l.length → (a :: l)[argBest (fun i j => decide ((a :: l).getD i 0 < (a :: l).getD j 0)) k]? = some (minI a (l.take k))
  | 0, _ => by simp [argBest, minI]
  | k + 1, h => by
    have ih := best_min a l k (by lia)
    have hk : l[k]? = some l[k] := List.getElem?_eq_getElem (by lia)
    rw [List.take_add_one, hk]
    simp only [Option.toList_some]
    rw [minI_snoc]
    simp only [argBest]
    have e1 : (a :: l).getD (argBest (fun i j => decide ((a :: l).getD i 0 < (a :: l).getD j 0)) k) 0 = minI a (l.take k) := by
      rw [List.getD_eq_getElem?_getD, ih]; rfl
    have e2 : (a :: l).getD (k + 1) 0 = l[k] := by
      rw [List.getD_eq_getElem?_getD, List.getElem?_cons_succ, hk]; rfl
    by_cases hlt : l[k] < minI a (l.take k)
    · rw [if_pos (by rw [decide_eq_true_eq, e1, e2]; exact hlt), if_pos hlt, List.getElem?_cons_succ, hk]
    · rw [if_neg (by rw [decide_eq_true_eq, e1, e2]; exact hlt), if_neg hlt, ih]

theorem intsOf_get : ∀ {ds : List D} {ns : List Int}, intsOf ds = some ns → ∀ {i : Nat} {d : D}, ds[i]? = some d → ∃ n, ns[i]? = some n ∧ d = .int n
  | [], _, _, i, d, h => by simp at h
  | .int n :: r, ns, e, 0, d, h => by
    simp only [intsOf, Option.map_eq_some_iff] at e
    obtain ⟨q, _, rfl⟩ := e
    simp at h
    exact ⟨n, rfl, h.symm⟩
  | .int n :: r, ns, e, i + 1, d, h => by
    simp only [intsOf, Option.map_eq_some_iff] at e
    obtain ⟨q, e, rfl⟩ := e
    simpa using intsOf_get e (by simpa using h)
theorem intsOf_len : ∀ {ds : List D} {ns : List Int}, intsOf ds = some ns → ns.length = ds.length
  | [], _, e => by simp only [intsOf, Option.some.injEq] at e; subst e; rfl
  | .int n :: r, ns, e => by
    simp only [intsOf, Option.map_eq_some_iff] at e
    obtain ⟨q, e, rfl⟩ := e
    simp [intsOf_len e]
theorem preSum_list : ∀ (ns : List Int) (k : Nat), k ≤ ns.length → preSum (fun i => ns.getD i 0) k = (ns.take k).sum
  | ns, 0, _ => by simp [preSum]
  | ns, k + 1, h => by
    have hk : ns[k]? = some ns[k] := List.getElem?_eq_getElem (by lia)
    rw [preSum, preSum_list ns k (by lia), List.take_add_one, hk, List.sum_append]
    congr 1
    rw [List.getD_eq_getElem?_getD, hk]; simp

section
variable {c : Cx} {A : Around} {E : Value → Shared → Prop} {s : Shared} {W : Addr → Prop} {Q : Value → Shared → Prop}

theorem It.ints {ds : List D} {ns : List Int} {it : Value} {s₂ : Shared} {I : Addr} {fp : List Addr} {P : Nat → Value → Prop} {St : Nat → Heap → Prop} (T : It c A s W ds it s₂ I fp P St) (e : intsOf ds = some ns) :
    ∀ i u, i < ds.length → P i u → ∃ t, u = .int (ns.getD i 0) t := by
  intro i u hi hp
  obtain ⟨d, q1, q2⟩ := T.hitem i u hi hp
  obtain ⟨n, q3, rfl⟩ := intsOf_get e q1
  cases q2 with
  | int _ t => exact ⟨t, by rw [List.getD_eq_getElem?_getD, q3]; rfl⟩

theorem max_list_sound {v : Value} {ds : List D} {a : Int} {r : List Int} (hh : A.handled = none) (e : intsOf ds = some (a :: r)) (rv : Rep c s.heap W v (.lst ds)) (L : Live s.heap W) (P : Post c s W (.int (maxI a r)) Q) :
    wpAny (model c.prog c.w) A (call (.builtin "max") [v]) Q E s := by
  have hl := intsOf_len e
  refine PySem.call_max_walk (iter_sound (A := A.in1) hh rfl rv L fun it s₂ I fp P' St T => ⟨I, fp, [I], ds.length, _, St, fun i j => decide ((a :: r).getD j 0 < (a :: r).getD i 0), T.hit, T.hw.bound, T.hst, T.hfp, ?_, ?_, ?_⟩)
  · rw [← hl]; simp
  · intro i j vi vj s' Q' E' pi pj hq
    obtain ⟨t, rfl⟩ := T.ints e i vi pi.1 pi.2
    obtain ⟨u, rfl⟩ := T.ints e j vj pj.1 pj.2
    exact PyProof.Rows.gt_int hq
  · rintro u h' tk ⟨hp1, hp2⟩ hk
    obtain ⟨h₂, tk₂, rfl, k2⟩ := T.hkeep
    obtain ⟨t, rfl⟩ := T.ints e _ u hp1 hp2
    have hb := best_max a r (ds.length - 1) (by have : (a :: r).length = r.length + 1 := rfl; lia)
    have ht : r.take (ds.length - 1) = r := List.take_of_length_le (by have : (a :: r).length = r.length + 1 := rfl; lia)
    rw [ht] at hb
    rw [List.getD_eq_getElem?_getD, hb]
    refine P _ h' tk (fun b o he => hk b o ?_ (k2 b o he)) (.int _ _)
    intro hm
    rw [List.mem_singleton.mp hm] at he
    rw [T.hnew] at he; cases he

theorem min_list_sound {v : Value} {ds : List D} {a : Int} {r : List Int} (hh : A.handled = none) (e : intsOf ds = some (a :: r)) (rv : Rep c s.heap W v (.lst ds)) (L : Live s.heap W) (P : Post c s W (.int (minI a r)) Q) :
    wpAny (model c.prog c.w) A (call (.builtin "min") [v]) Q E s := by
  have hl := intsOf_len e
  refine PySem.call_min_walk (iter_sound (A := A.in1) hh rfl rv L fun it s₂ I fp P' St T => ⟨I, fp, [I], ds.length, _, St, fun i j => decide ((a :: r).getD i 0 < (a :: r).getD j 0), T.hit, T.hw.bound, T.hst, T.hfp, ?_, ?_, ?_⟩)
  · rw [← hl]; simp
  · intro i j vi vj s' Q' E' pi pj hq
    obtain ⟨t, rfl⟩ := T.ints e i vi pi.1 pi.2
    obtain ⟨u, rfl⟩ := T.ints e j vj pj.1 pj.2
    exact PyProof.Rows.lt_int hq
  · rintro u h' tk ⟨hp1, hp2⟩ hk
    obtain ⟨h₂, tk₂, rfl, k2⟩ := T.hkeep
    obtain ⟨t, rfl⟩ := T.ints e _ u hp1 hp2
    have hb := best_min a r (ds.length - 1) (by have : (a :: r).length = r.length + 1 := rfl; lia)
    have ht : r.take (ds.length - 1) = r := List.take_of_length_le (by have : (a :: r).length = r.length + 1 := rfl; lia)
    rw [ht] at hb
    rw [List.getD_eq_getElem?_getD, hb]
    refine P _ h' tk (fun b o he => hk b o ?_ (k2 b o he)) (.int _ _)
    intro hm
    rw [List.mem_singleton.mp hm] at he
    rw [T.hnew] at he; cases he

theorem sum_list_sound {v : Value} {ds : List D} {ns : List Int} (hh : A.handled = none) (e : intsOf ds = some ns) (rv : Rep c s.heap W v (.lst ds)) (L : Live s.heap W) (P : Post c s W (.int ns.sum) Q) :
    wpAny (model c.prog c.w) A (call (.builtin "sum") [v]) Q E s := by
  have hl := intsOf_len e
  refine PySem.call_sum_walkAnyS (iter_sound (A := A.in1) hh rfl rv L fun it s₂ I fp P' St T => ⟨I, fp, [I], _, ds.length, _, _, fun i => ns.getD i 0, T.hit, T.hw.bound.toS, T.hst, T.hfp, ?_, ?_⟩)
  · intro i u hp
    exact T.ints e i u hp.1 hp.2
  · intro s' t' hm
    obtain ⟨h₂, tk₂, rfl, k2⟩ := T.hkeep
    rw [preSum_list ns _ (by lia), ← hl, List.take_length]
    obtain ⟨hp, g, dr, tk', os⟩ := s'
    obtain ⟨m1, m2, m3, m4, m5⟩ := hm
    simp only at m1 m2 m3 m4 m5
    subst m2 m3 m4
    refine P _ hp tk' (fun b o he => m1 b o ?_ (k2 b o he)) (.int _ _)
    intro hm
    rw [List.mem_singleton.mp hm] at he
    rw [T.hnew] at he; cases he

theorem It.flts {ds : List D} {fs : List UInt64} {it : Value} {s₂ : Shared} {I : Addr} {fp : List Addr} {P : Nat → Value → Prop} {St : Nat → Heap → Prop} (T : It c A s W ds it s₂ I fp P St) (e : ds = fs.map D.flt) :
    ∀ i u, i < ds.length → P i u → ∃ t, t ≠ 0 ∧ u = .float (fs.getD i 0) t := by
  intro i u hi hp
  obtain ⟨d, q1, q2⟩ := T.hitem i u hi hp
  subst e
  rw [List.getElem?_map, Option.map_eq_some_iff] at q1
  obtain ⟨f, q3, rfl⟩ := q1
  cases q2 with
  | flt _ t ht => exact ⟨t, ht, by rw [List.getD_eq_getElem?_getD, q3]; rfl⟩

theorem It.back {ds : List D} {it : Value} {s₁ s₂ : Shared} {I : Addr} {fp : List Addr} {P : Nat → Value → Prop} {St : Nat → Heap → Prop} {h₁ : Heap} {tk₁ : Nat} (e : s₁ = { s with heap := h₁, toks := tk₁ }) (k₁ : Keep s.heap h₁) (T : It c A s₁ W ds it s₂ I fp P St)
    {d : D} (Pd : Post c s W d Q) {v : Value} {h' : Heap} {tk : Nat} (hk : ∀ b o, b ∉ [I] → s₂.heap.get? b = some o → h'.get? b = some o) (r : Rep c h' W v d) : Q v { s₂ with heap := h', toks := tk } := by
  obtain ⟨h₂, tk₂, rfl, k2⟩ := T.hkeep
  subst e
  refine Pd v h' tk (fun b o he => hk b o ?_ (k2 b o (k₁ b o he))) r
  intro hm
  have := k₁ b o he
  rw [List.mem_singleton.mp hm] at this
  rw [T.hnew] at this; cases this

theorem Live.keep {h h' : Heap} (L : Live h W) (k : Keep h h') : Live h' W := fun a ha => let ⟨o, e⟩ := L a ha; ⟨o, k _ _ e⟩

theorem max_two_sound {a b : Int} {t u : Tok} (hh : A.handled = none) (L : Live s.heap W) (P : Post c s W (.int (if a < b then b else a)) Q) : wpAny (model c.prog c.w) A (call (.builtin "max") [.int a t, .int b u]) Q E s := by
  have rv : Rep c (s.heap.push { cls := Value.type "tuple", data := Data.seq #[.int a t, .int b u] }) W (.ref s.heap.objs.size) (.tup [.int a, .int b]) :=
    .tup L.new ⟨_, Heap.get?_push_size _ rfl, rfl, 0, rfl⟩ (.cons (.int _ _) (.cons (.int _ _) .nil))
  refine PySem.call_max_two (iter_sound (ds := [.int a, .int b]) (s := { s with heap := s.heap.push _ }) (A := A.in1) hh rfl rv (L.keep (Keep.push _ _)) fun it s₂ I fp P' St T => ⟨I, fp, [I], 2, _, St, fun i j => decide ([a, b].getD j 0 < [a, b].getD i 0), T.hit, T.hw.bound, T.hst, T.hfp, by decide, ?_, ?_⟩)
  · intro i j vi vj s' Q' E' pi pj hq
    obtain ⟨t, rfl⟩ := T.ints (ns := [a, b]) rfl i vi pi.1 pi.2
    obtain ⟨u, rfl⟩ := T.ints (ns := [a, b]) rfl j vj pj.1 pj.2
    exact PyProof.Rows.gt_int hq
  · rintro v h' tk ⟨hp1, hp2⟩ hk
    obtain ⟨t, rfl⟩ := T.ints (ns := [a, b]) rfl _ v hp1 hp2
    refine T.back (tk₁ := s.toks) rfl (Keep.push _ _) P hk ?_
    have hb : _ = some (if a < b then b else a) := best_max a [b] 1 (by simp)
    rw [List.getD_eq_getElem?_getD, show (2 - 1) = 1 from rfl, hb]
    exact .int _ _

theorem min_two_sound {a b : Int} {t u : Tok} (hh : A.handled = none) (L : Live s.heap W) (P : Post c s W (.int (if b < a then b else a)) Q) : wpAny (model c.prog c.w) A (call (.builtin "min") [.int a t, .int b u]) Q E s := by
  have rv : Rep c (s.heap.push { cls := Value.type "tuple", data := Data.seq #[.int a t, .int b u] }) W (.ref s.heap.objs.size) (.tup [.int a, .int b]) :=
    .tup L.new ⟨_, Heap.get?_push_size _ rfl, rfl, 0, rfl⟩ (.cons (.int _ _) (.cons (.int _ _) .nil))
  refine PySem.call_min_two (iter_sound (ds := [.int a, .int b]) (s := { s with heap := s.heap.push _ }) (A := A.in1) hh rfl rv (L.keep (Keep.push _ _)) fun it s₂ I fp P' St T => ⟨I, fp, [I], 2, _, St, fun i j => decide ([a, b].getD i 0 < [a, b].getD j 0), T.hit, T.hw.bound, T.hst, T.hfp, by decide, ?_, ?_⟩)
  · intro i j vi vj s' Q' E' pi pj hq
    obtain ⟨t, rfl⟩ := T.ints (ns := [a, b]) rfl i vi pi.1 pi.2
    obtain ⟨u, rfl⟩ := T.ints (ns := [a, b]) rfl j vj pj.1 pj.2
    exact PyProof.Rows.lt_int hq
  · rintro v h' tk ⟨hp1, hp2⟩ hk
    obtain ⟨t, rfl⟩ := T.ints (ns := [a, b]) rfl _ v hp1 hp2
    refine T.back (tk₁ := s.toks) rfl (Keep.push _ _) P hk ?_
    have hb : _ = some (if b < a then b else a) := best_min a [b] 1 (by simp)
    rw [List.getD_eq_getElem?_getD, show (2 - 1) = 1 from rfl, hb]
    exact .int _ _

theorem best_f (x y z : UInt64) (f : UInt64 → UInt64 → Bool) :
    [x, y, z].getD (argBest (fun i j => f ([x, y, z].getD i 0) ([x, y, z].getD j 0)) (3 - 1)) 0 = (if f z (if f y x then y else x) then z else if f y x then y else x) := by
  show [x, y, z].getD (if f ([x, y, z].getD 2 0) ([x, y, z].getD (if f y x = true then 1 else 0) 0) = true then 2 else if f y x = true then 1 else 0) 0 = _
  cases h : f y x
  · simp only [Bool.false_eq_true, if_false]
    show [x, y, z].getD (if f z x = true then 2 else 0) 0 = _
    cases f z x <;> rfl
  · simp only [if_true]
    show [x, y, z].getD (if f z y = true then 2 else 1) 0 = _
    cases f z y <;> rfl

theorem max_three_sound {x y z : UInt64} {t u v : Tok} (ht : t ≠ 0) (hu : u ≠ 0) (hv : v ≠ 0) (hh : A.handled = none) (L : Live s.heap W) (P : Post c s W (.flt (fmax2 (fmax2 x y) z)) Q) :
    wpAny (model c.prog c.w) A (call (.builtin "max") [.float x t, .float y u, .float z v]) Q E s := by
  have rv : Rep c (s.heap.push { cls := Value.type "tuple", data := Data.seq #[.float x t, .float y u, .float z v] }) W (.ref s.heap.objs.size) (.tup [.flt x, .flt y, .flt z]) :=
    .tup L.new ⟨_, Heap.get?_push_size _ rfl, rfl, 0, rfl⟩ (.cons (.flt _ _ ht) (.cons (.flt _ _ hu) (.cons (.flt _ _ hv) .nil)))
  refine PySem.call_max_three (iter_sound (ds := [.flt x, .flt y, .flt z]) (s := { s with heap := s.heap.push _ }) (A := A.in1) hh rfl rv (L.keep (Keep.push _ _)) fun it s₂ I fp P' St T => ⟨I, fp, [I], 3, _, St, fun i j => Float64.cmp ([x, y, z].getD i 0) ([x, y, z].getD j 0) == some .gt, T.hit, T.hw.bound, T.hst, T.hfp, by decide, ?_, ?_⟩)
  · intro i j vi vj s' Q' E' pi pj hq
    obtain ⟨t, _, rfl⟩ := T.flts (fs := [x, y, z]) rfl i vi pi.1 pi.2
    obtain ⟨u, _, rfl⟩ := T.flts (fs := [x, y, z]) rfl j vj pj.1 pj.2
    exact AutoFloatOps.gt_0 hq
  · rintro w h' tk ⟨hp1, hp2⟩ hk
    obtain ⟨t, ht, rfl⟩ := T.flts (fs := [x, y, z]) rfl _ w hp1 hp2
    refine T.back (tk₁ := s.toks) rfl (Keep.push _ _) P hk ?_
    rw [best_f x y z (fun a b => Float64.cmp a b == some .gt)]
    exact .flt _ _ ht

theorem min_three_sound {x y z : UInt64} {t u v : Tok} (ht : t ≠ 0) (hu : u ≠ 0) (hv : v ≠ 0) (hh : A.handled = none) (L : Live s.heap W) (P : Post c s W (.flt (fmin2 (fmin2 x y) z)) Q) :
    wpAny (model c.prog c.w) A (call (.builtin "min") [.float x t, .float y u, .float z v]) Q E s := by
  have rv : Rep c (s.heap.push { cls := Value.type "tuple", data := Data.seq #[.float x t, .float y u, .float z v] }) W (.ref s.heap.objs.size) (.tup [.flt x, .flt y, .flt z]) :=
    .tup L.new ⟨_, Heap.get?_push_size _ rfl, rfl, 0, rfl⟩ (.cons (.flt _ _ ht) (.cons (.flt _ _ hu) (.cons (.flt _ _ hv) .nil)))
  refine PySem.call_min_three (iter_sound (ds := [.flt x, .flt y, .flt z]) (s := { s with heap := s.heap.push _ }) (A := A.in1) hh rfl rv (L.keep (Keep.push _ _)) fun it s₂ I fp P' St T => ⟨I, fp, [I], 3, _, St, fun i j => Float64.cmp ([x, y, z].getD i 0) ([x, y, z].getD j 0) == some .lt, T.hit, T.hw.bound, T.hst, T.hfp, by decide, ?_, ?_⟩)
  · intro i j vi vj s' Q' E' pi pj hq
    obtain ⟨t, _, rfl⟩ := T.flts (fs := [x, y, z]) rfl i vi pi.1 pi.2
    obtain ⟨u, _, rfl⟩ := T.flts (fs := [x, y, z]) rfl j vj pj.1 pj.2
    exact AutoFloatOps.lt_0 hq
  · rintro w h' tk ⟨hp1, hp2⟩ hk
    obtain ⟨t, ht, rfl⟩ := T.flts (fs := [x, y, z]) rfl _ w hp1 hp2
    refine T.back (tk₁ := s.toks) rfl (Keep.push _ _) P hk ?_
    rw [best_f x y z (fun a b => Float64.cmp a b == some .lt)]
    exact .flt _ _ ht
end
end Mv
end
section
open PySem PySem.W PyProof.Rows
set_option Elab.async false
namespace Mv
open SeqAt

section
variable {c : Cx} {A : Around} {E : Value → Shared → Prop} {s : Shared} {W : Addr → Prop} {Q : Value → Shared → Prop}

noncomputable def vEq : Value → Value → Bool
  | .int a _, .int b _ => a == b
  | .str a _, .str b _ => a == b
  | .bool a, .bool b => a == b
  | _, _ => false
theorem atom_sound {d x : D} {y v : Value} {p : Bool} (e : atomEq d x = some p) (ry : Rep c s.heap W y d) (rx : Rep c s.heap W v x) : vEq y v = p ∧ ∀ A : Around, EqAt A s y v p := by
  cases d with
  | int a =>
    obtain ⟨b, h, rfl⟩ := map_inv e
    cases int_inv h
    obtain ⟨t, rfl⟩ := ry.intI
    obtain ⟨u, rfl⟩ := rx.intI
    exact ⟨rfl, fun A => .int_int _ _ _ _⟩
  | str a =>
    obtain ⟨b, h, rfl⟩ := map_inv e
    cases str_inv h
    obtain ⟨z, t, rfl, rfl⟩ := ry.strI
    obtain ⟨z', u, rfl, rfl⟩ := rx.strI
    rw [toList_beqS]
    exact ⟨rfl, fun A => .str_str _ _ _ _⟩
  | bool a =>
    obtain ⟨b, h, rfl⟩ := map_inv e
    cases bool_inv h
    cases ry.boolI
    cases rx.boolI
    exact ⟨rfl, fun A => .bool_bool _ _⟩
  | _ => exact nos e

theorem indexAll_get {x : D} : ∀ {ds : List D} {u : Unit}, indexD.indexAll x ds = some u → ∀ {i : Nat} {d : D}, ds[i]? = some d → ∃ p, atomEq d x = some p
  | [], _, _, i, d, h => nos h
  | d :: r, _, e, i, d', h => by
    obtain ⟨p, e1, e2⟩ := bind_inv e
    cases i with
    | zero => exact ⟨p, Option.some.inj h ▸ e1⟩
    | succ i => exact indexAll_get e2 h
theorem indexD_get {x : D} : ∀ {ds : List D} {k : Nat}, indexD x ds = some k → (∀ {i : Nat} {d : D}, ds[i]? = some d → ∃ p, atomEq d x = some p ∧ (i < k → p = false) ∧ (i = k → p = true)) ∧ k < ds.length
  | [], _, e => nos e
  | d :: r, k, e => by
    obtain ⟨p, e1, e2⟩ := bind_inv e
    clear e
    cases p with
    | true =>
      obtain ⟨u, e3, e4⟩ := map_inv (show (indexD.indexAll x r).map (fun _ => 0) = some k from e2)
      subst e4
      refine ⟨fun {i d'} h => ?_, Nat.succ_pos _⟩
      cases i with
      | zero => exact ⟨true, Option.some.inj h ▸ e1, fun h => absurd h (Nat.not_lt_zero _), fun _ => rfl⟩
      | succ i =>
        obtain ⟨q, hq⟩ := indexAll_get (i := i) e3 h
        exact ⟨q, hq, fun h => absurd h (Nat.not_lt_zero _), fun h => absurd h (Nat.succ_ne_zero _)⟩
    | false =>
      obtain ⟨k', e3, e4⟩ := map_inv (show (indexD x r).map (· + 1) = some k from e2)
      subst e4
      obtain ⟨g, hl⟩ := indexD_get e3
      refine ⟨fun {i d'} h => ?_, Nat.succ_lt_succ hl⟩
      cases i with
      | zero => exact ⟨false, Option.some.inj h ▸ e1, fun _ => rfl, fun h => absurd h.symm (Nat.succ_ne_zero _)⟩
      | succ i =>
        obtain ⟨q, hq, h1, h2⟩ := g (i := i) h
        exact ⟨q, hq, fun h => h1 (Nat.lt_of_succ_lt_succ h), fun h => h2 (Nat.succ.inj h)⟩
theorem countD_get {x : D} : ∀ {ds : List D} {k : Nat}, countD x ds = some k → ∀ {i : Nat} {d : D}, ds[i]? = some d → ∃ p, atomEq d x = some p
  | [], _, _, i, d, h => nos h
  | d :: r, k, e, i, d', h => by
    obtain ⟨p, e1, e2⟩ := bind_inv e
    obtain ⟨q, e3, _⟩ := map_inv e2
    cases i with
    | zero => exact ⟨p, Option.some.inj h ▸ e1⟩
    | succ i => exact countD_get e3 h
theorem countD_countP {x : D} {v : Value} (rx : Rep c s.heap W v x) {vs : List Value} {ds : List D} {k : Nat} (r : Reps c s.heap W vs ds) : countD x ds = some k → vs.countP (vEq · v) = k :=
  r.ind (P := fun vs ds => ∀ {k : Nat}, countD x ds = some k → vs.countP (vEq · v) = k) (fun e => Option.some.inj e) (by
    intro _ _ _ _ hd _ ih k e
    obtain ⟨p, e1, e2⟩ := bind_inv e
    obtain ⟨q, e3, rfl⟩ := map_inv e2
    rw [List.countP_cons, ih e3, (atom_sound e1 hd rx).1]
    cases p <;> rfl)

theorem index_sound {a : Addr} {vs : List Value} {ds : List D} {v : Value} {x : D} {k : Nat} (ha : s.heap.PlainList a vs.toArray) (hr : Reps c s.heap W vs ds) (rx : Rep c s.heap W v x) (e : indexD x ds = some k) (hl : ds.length ≤ 1000)
    (P : Post c s W (.int k) Q) : wpAny (model c.prog c.w) A (call (.builtin "list.index") [.ref a, v]) Q E s := by
  obtain ⟨n, ho⟩ := id ha
  obtain ⟨g, hk⟩ := indexD_get e
  have hlen := hr.length
  have at_ : ∀ i (hi : i < vs.toArray.size), ∃ p, vEq vs.toArray[i] v = p ∧ (∀ A : Around, EqAt A s vs.toArray[i] v p) ∧ (i < k → p = false) ∧ (i = k → p = true) := by
    intro i hi
    have hi' : i < vs.length := by simpa using hi
    obtain ⟨d, q1, q2⟩ := hr.getV (List.getElem?_eq_getElem hi')
    obtain ⟨p, e1, h1, h2⟩ := g q1
    obtain ⟨z1, z2⟩ := atom_sound e1 q2 rx
    exact ⟨p, by simpa using z1, fun A => by simpa using z2 A, h1, h2⟩
  have hks : k < vs.toArray.size := by simpa [hlen] using hk
  refine call_meets PySem.F.slot_list_index ⟨_, ho, rfl⟩ PySem.F.entry_list_index (PySem.F.args_list_index_2 _ _) (list_indexAt a vs.toArray n none #[] v (vEq · v) k hks (by lia) ?_ ?_) ⟨ho, ?_, P.here (.int _ _) _⟩
  · obtain ⟨p, z1, _, _, z2⟩ := at_ k hks
    rw [z1, z2 rfl]
  · intro m hm hlt
    obtain ⟨p, z1, _, z2, _⟩ := at_ m hm
    rw [z1, z2 hlt]
  · intro y hy
    obtain ⟨i, hi, rfl⟩ := Array.mem_iff_getElem.mp hy
    obtain ⟨p, z1, z2, _, _⟩ := at_ i hi
    rw [z1]; exact z2 _

theorem count_sound {a : Addr} {vs : List Value} {ds : List D} {v : Value} {x : D} {k : Nat} (ha : s.heap.PlainList a vs.toArray) (hr : Reps c s.heap W vs ds) (rx : Rep c s.heap W v x) (e : countD x ds = some k)
    (P : Post c s W (.int k) Q) : wpAny (model c.prog c.w) A (call (.builtin "list.count") [.ref a, v]) Q E s := by
  obtain ⟨n, ho⟩ := id ha
  refine call_meets PySem.F.slot_list_count ⟨_, ho, rfl⟩ PySem.F.entry_list_count (PySem.F.args_list_count_2 _ _) (list_countAt a vs.toArray n none #[] v (vEq · v)) ⟨ho, ?_, ?_⟩
  · intro y hy
    have hy' : y ∈ vs := by simpa using hy
    obtain ⟨i, hi, rfl⟩ := List.mem_iff_getElem.mp hy'
    obtain ⟨d, q1, q2⟩ := hr.getV (List.getElem?_eq_getElem hi)
    obtain ⟨p, e1⟩ := countD_get e q1
    obtain ⟨z1, z2⟩ := atom_sound e1 q2 rx
    rw [z1]; exact z2 _
  · have := countD_countP rx hr e
    have h2 := P.here (.int (k : Int) s.toks) (s.toks + 1)
    rw [← this] at h2
    simpa using h2

theorem strsOf_are {h : Heap} : ∀ {vs : List Value} {ds : List D} {ls : List (List Nat)}, Reps c h W vs ds → strsOf ds = some ls → ∃ ys : List Str, StrsAre vs ys ∧ ys.map (·.cps.toList) = ls
  | _, _, ls, .nil, e => by simp only [strsOf, Option.some.injEq] at e; subst e; exact ⟨[], .nil, rfl⟩
  | _, _, ls, .cons hd tl, e => by
    cases hd with
    | str x t l hl =>
      simp only [strsOf, Option.map_eq_some_iff] at e
      obtain ⟨r, e, rfl⟩ := e
      obtain ⟨ys, h1, h2⟩ := strsOf_are tl e
      exact ⟨x :: ys, .cons x t h1, by simp [hl, h2]⟩
    | _ => simp [strsOf] at e
theorem join_toList (sep : Str) : ∀ ys : List Str, (Str.join sep ys).cps.toList = joinL sep.cps.toList (ys.map (·.cps.toList))
  | [] => rfl
  | [x] => rfl
  | x :: y :: r => by
    have ih := join_toList sep (y :: r)
    simp only [List.map_cons, joinL] at ih ⊢
    rw [← ih]
    show (x ++ sep ++ Str.join sep (y :: r)).cps.toList = _
    show ((x.cps ++ sep.cps) ++ (Str.join sep (y :: r)).cps).toList = _
    simp
theorem joinL_len (sep : List Nat) : ∀ ls : List (List Nat), (ls.map List.length).sum ≤ (joinL sep ls).length
  | [] => by simp [joinL]
  | [x] => by simp [joinL]
  | x :: y :: r => by
    have ih := joinL_len sep (y :: r)
    simp only [joinL, List.map_cons, List.sum_cons, List.length_append] at ih ⊢
    lia
end
end Mv
end
section
open PySem PySem.W PyProof.Rows
set_option Elab.async false
namespace Mv
open SeqAt Builtin Builtin.Str

section
variable {c : Cx} {A : Around} {E : Value → Shared → Prop} {s : Shared} {W : Addr → Prop} {Q : Value → Shared → Prop}

theorem join_sound {sep : Str} {t : Tok} {a : Addr} {vs : List Value} {ds : List D} {ls : List (List Nat)} (ha : s.heap.PlainList a vs.toArray) (hr : Reps c s.heap W vs ds) (e : strsOf ds = some ls)
    (h1 : (joinL sep.cps.toList ls).length ≤ 1000) (h2 : ls.length ≤ 1000) (h3 : sep.cps.toList.length ≤ 16) (P : Post c s W (.str (joinL sep.cps.toList ls)) Q) :
    wpAny (model c.prog c.w) A (call (.builtin "str.join") [.str sep t, .ref a]) Q E s := by
  obtain ⟨ys, g1, g2⟩ := strsOf_are hr e
  have hl := joinL_len sep.cps.toList ls
  have e1 : (ys.map (·.length)).sum = (ls.map List.length).sum := by
    rw [← g2, List.map_map]; congr 1
  have e2 : ys.length = ls.length := by rw [← g2, List.length_map]
  have e3 : sep.length = sep.cps.toList.length := by simp [Str.length]
  refine join_list ha.isList (by simpa using g1) ?_ fun t' k => P.here (.str _ _ _ ?_) k
  · rw [e1, e2, e3]
    have : ls.length * sep.cps.toList.length ≤ 1000 * 16 := Nat.mul_le_mul h2 h3
    lia
  · show (glued sep ys).cps.toList = _
    rw [StrLaws.glued_eq_join, join_toList, g2]

theorem strValues_reps {h : Heap} : ∀ l : List (Str × Tok), Reps c h W (strValues l) (l.map fun p => .str p.1.cps.toList)
  | [] => .nil
  | p :: r => .cons (.str _ _ _ rfl) (strValues_reps r)
theorem split_sound {x y : Str} {t u : Tok} (hy : (y.length == 0) = false) (hx : x.length ≤ 10000) (hn : (Txt.split x y).length ≤ 1000) (L : Live s.heap W)
    (P : Post c s W (.lst ((Txt.split x y).map fun (z : Str) => .str z.cps.toList)) Q) : wpAny (model c.prog c.w) A (call (.builtin "str.split") [.str x t, .str y u]) Q E s := by
  have fin : ∀ (l : List (Str × Tok)) (tk : Nat), l.map (·.1) = Txt.split x y → Q (.ref s.heap.objs.size) { s with heap := s.heap.push { cls := .type "list", data := .seq (strValues l).toArray }, toks := tk } := by
    intro l tk e
    rw [← e, List.map_map] at P
    exact P.lst L (strValues_reps l) tk
  cases h1 : (decide (x.length < y.length) || decide (strKind x < strKind y))
  · cases hf : (occurrences x y 0 x.length (x.length + 1)).isEmpty
    · have es : Txt.split x y = partsBetween x (occurrences x y 0 x.length (x.length + 1)) y.length := by
        unfold Txt.split
        rw [h1, hf]; rfl
      refine call_meets PySem.F.slot_str_split (typeIs_str _ _ _) PySem.F.entry_str_split (PySem.F.args_str_split_2 _ _) (meets_str_split_sep x y t u h1 hy hf (by rw [sizeLine_eq]; lia) (by rw [sizeLine_eq, ← es]; lia)) ?_
      show wants Q E _ { s with toks := _, heap := s.heap.push { cls := .type "list", data := .seq (strsFrom s.toks (partsBetween x (occurrences x y 0 x.length (x.length + 1)) y.length)).toArray } }
      rw [strsFrom_eq]
      exact fin _ _ ((numbered_texts _ _).trans es.symm)
    · exact call_meets PySem.F.slot_str_split (typeIs_str _ _ _) PySem.F.entry_str_split (PySem.F.args_str_split_2 _ _) (meets_str_split_not_found x y t u h1 hy hf)
        (fin [(x, t)] _ (by unfold Txt.split; rw [h1, hf]; rfl))
  · exact call_meets PySem.F.slot_str_split (typeIs_str _ _ _) PySem.F.entry_str_split (PySem.F.args_str_split_2 _ _) (meets_str_split_cannot_occur x y t u h1)
      (fin [(x, t)] _ (by unfold Txt.split; rw [h1]; rfl))

theorem getFlag_sound {K : c.Ok} {a b : Value} {x y d : D} (hb : Keep c.hb s.heap) (e : getFlagD x y = some d) (ra : Rep c s.heap W a x) (rb : Rep c s.heap W b y) (P : Post c s W d Q) :
    wpAny (model c.prog c.w) A (call (.builtin "dict.get") [.ref c.fl, a, b]) Q E s := by
  cases ra with
  | int i t =>
    cases rb with
    | str z t' l hl =>
      simp only [getFlagD, Option.some.injEq] at e
      subst e hl
      obtain ⟨f, hm, hf⟩ := K.flm
      have hm' : s.heap.MapOf (PySem.intKind c.prog c.w) c.fl f := let ⟨o, es, ep, ho, r⟩ := hm; ⟨o, es, ep, hb _ _ ho, r⟩
      refine call_meetsIn PySem.F.slot_dict_get hm'.typeIs PySem.F.entry_dict_get (PySem.F.args_dict_get_3 _ _ _) (meets_dict_get_default (PySem.intKind c.prog c.w) c.fl (PySem.intKind_is c.prog c.w i t) K.flo.1 (.str z t')) ⟨f, hm', P.here ?_ _⟩
      have := hf i
      cases h : flagTab.lookup i with
      | none =>
        rw [h] at this
        simp only at this
        rw [this]
        exact .str _ _ _ rfl
      | some l =>
        rw [h] at this
        simp only at this
        obtain ⟨s', t'', e1, e2⟩ := this
        rw [e1]
        exact .str _ _ _ e2
    | _ => simp [getFlagD] at e
  | _ => simp [getFlagD] at e

noncomputable def bfName : Bf → Value
  | .len => .builtin "len" | .max => .builtin "max" | .min => .builtin "min" | .sum => .builtin "sum" | .int => .type "int" | .hex => .builtin "hex" | .tuple => .type "tuple"

theorem tuple_sound {a : Addr} {vs : List Value} {ds : List D} (ha : s.heap.PlainList a vs.toArray) (hr : Reps c s.heap W vs ds) (hl : ds.length ≤ 1000) (L : Live s.heap W) (P : Post c s W (.tup ds) Q) :
    wpAny (model c.prog c.w) A (call (.type "tuple") [.ref a]) Q E s := by
  have l := hr.length
  refine call_tuple_list ha.isList (fun h' hk => ?_) (by rw [sizeLine_eq]; simp; lia)
  have k : Keep s.heap h' := hk
  refine P _ _ _ (k.trans (Keep.push _ _)) (.tup ?_ ⟨_, Heap.get?_push_size _ rfl, rfl, 0, rfl⟩ (hr.keep (k.trans (Keep.push _ _))))
  intro hw
  obtain ⟨o, e⟩ := L.keep k _ hw
  exact absurd (Heap.lt_size e) (Nat.lt_irrefl _)

theorem oneD_inv {f : D → Option D} {l : List D} {d : D} (h : oneD f l = some d) : ∃ x, l = [x] ∧ f x = some d := by
  match l, h with
  | [x], h => exact ⟨x, rfl, h⟩
theorem lstOf_inv {x : D} {l : List D} (h : lstOf x = some l) : x = .lst l := by
  cases x with
  | lst => cases Option.some.inj h; rfl
  | _ => first | exact nos h | exact nob h | nomatch h
theorem intOf_inv {x : D} {i : Int} (h : intOf x = some i) : x = .int i := by
  cases x with
  | int => cases Option.some.inj h; rfl
  | _ => first | exact nos h | exact nob h | nomatch h
theorem fltOf_inv {x : D} {i : UInt64} (h : fltOf x = some i) : x = .flt i := by
  cases x with
  | flt => cases Option.some.inj h; rfl
  | _ => first | exact nos h | exact nob h | nomatch h
inductive PickV (f : Int → List Int → Int) (g : UInt64 → UInt64 → UInt64) (h : Int → Int → Int) : List D → D → Prop
  | lst (l : List D) (a : Int) (r : List Int) (e : intsOf l = some (a :: r)) : PickV f g h [.lst l] (.int (f a r))
  | int (a b : Int) : PickV f g h [.int a, .int b] (.int (h a b))
  | flt (a b c : UInt64) : PickV f g h [.flt a, .flt b, .flt c] (.flt (g (g a b) c))
theorem pick1 {f : Int → List Int → Int} {g : UInt64 → UInt64 → UInt64} {h : Int → Int → Int} {x d : D} (e : pickD f g h [x] = some d) : PickV f g h [x] d := by
  obtain ⟨l, e1, e2⟩ := bind_inv (o := lstOf x) e
  obtain ⟨is, e3, e4⟩ := bind_inv e2
  clear e e2
  cases is with
  | nil => first | exact nos e4 | exact nob e4 | nomatch e4
  | cons a r =>
    cases Option.some.inj e4
    cases lstOf_inv e1
    exact .lst _ _ _ e3
theorem pick2 {f : Int → List Int → Int} {g : UInt64 → UInt64 → UInt64} {h : Int → Int → Int} {x y d : D} (e : pickD f g h [x, y] = some d) : PickV f g h [x, y] d := by
  obtain ⟨a, e1, e2⟩ := bind_inv (o := intOf x) e
  obtain ⟨b, e3, e4⟩ := bind_inv e2
  clear e e2
  cases Option.some.inj e4
  cases intOf_inv e1
  cases intOf_inv e3
  exact .int _ _
theorem pick3 {f : Int → List Int → Int} {g : UInt64 → UInt64 → UInt64} {h : Int → Int → Int} {x y z d : D} (e : pickD f g h [x, y, z] = some d) : PickV f g h [x, y, z] d := by
  obtain ⟨a, e1, e2⟩ := bind_inv (o := fltOf x) e
  obtain ⟨b, e3, e4⟩ := bind_inv e2
  obtain ⟨b', e5, e6⟩ := bind_inv e4
  clear e e2 e4
  cases Option.some.inj e6
  cases fltOf_inv e1
  cases fltOf_inv e3
  cases fltOf_inv e5
  exact .flt _ _ _
theorem pickV {f : Int → List Int → Int} {g : UInt64 → UInt64 → UInt64} {h : Int → Int → Int} {l : List D} {d : D} (e : pickD f g h l = some d) : PickV f g h l d := by
  match l, e with
  | [_], e => exact pick1 e
  | [_, _], e => exact pick2 e
  | [_, _, _], e => exact pick3 e
theorem Reps.one1 {vs : List Value} {x : D} (r : Reps c s.heap W vs [x]) : ∃ v, vs = [v] ∧ Rep c s.heap W v x := by
  cases r with | cons hd tl => cases tl with | nil => exact ⟨_, rfl, hd⟩
theorem Reps.two1 {vs : List Value} {x y : D} (r : Reps c s.heap W vs [x, y]) : ∃ v u, vs = [v, u] ∧ Rep c s.heap W v x ∧ Rep c s.heap W u y := by
  cases r with | cons hd tl => obtain ⟨u, rfl, h⟩ := tl.one1; exact ⟨_, _, rfl, hd, h⟩
theorem bf_sound {f : Bf} {vs : List Value} {ds : List D} {d : D} (hh : A.handled = none) (e : bfD f ds = some d) (hlen : f ≠ .len) (r : Reps c s.heap W vs ds) (L : Live s.heap W) (P : Post c s W d Q) :
    wpAny (model c.prog c.w) A (call (bfName f) vs) Q E s := by
  cases f with
  | len => exact absurd rfl hlen
  | max =>
    cases pickV e with
    | lst l a r' he => obtain ⟨v, rfl, h1⟩ := r.one1; exact max_list_sound hh he h1 L P
    | int a b => obtain ⟨v, u, rfl, h1, h2⟩ := r.two1; obtain ⟨_, rfl⟩ := h1.intI; obtain ⟨_, rfl⟩ := h2.intI; exact max_two_sound hh L P
    | flt a b c' => cases r with | cons h1 tl => obtain ⟨v, u, rfl, h2, h3⟩ := tl.two1; obtain ⟨_, g1, rfl⟩ := h1.fltI; obtain ⟨_, g2, rfl⟩ := h2.fltI; obtain ⟨_, g3, rfl⟩ := h3.fltI; exact max_three_sound g1 g2 g3 hh L P
  | min =>
    cases pickV e with
    | lst l a r' he => obtain ⟨v, rfl, h1⟩ := r.one1; exact min_list_sound hh he h1 L P
    | int a b => obtain ⟨v, u, rfl, h1, h2⟩ := r.two1; obtain ⟨_, rfl⟩ := h1.intI; obtain ⟨_, rfl⟩ := h2.intI; exact min_two_sound hh L P
    | flt a b c' => cases r with | cons h1 tl => obtain ⟨v, u, rfl, h2, h3⟩ := tl.two1; obtain ⟨_, g1, rfl⟩ := h1.fltI; obtain ⟨_, g2, rfl⟩ := h2.fltI; obtain ⟨_, g3, rfl⟩ := h3.fltI; exact min_three_sound g1 g2 g3 hh L P
  | sum =>
    obtain ⟨x, rfl, e3⟩ := oneD_inv e
    clear e
    obtain ⟨l, e1, e4⟩ := bind_inv e3
    obtain ⟨is, e2, e5⟩ := bind_inv e4
    clear e3 e4
    cases Option.some.inj e5
    cases lstOf_inv e1
    obtain ⟨v, rfl, h1⟩ := r.one1
    exact sum_list_sound hh e2 h1 L P
  | int =>
    obtain ⟨x, rfl, e3⟩ := oneD_inv e
    clear e
    obtain ⟨b, e1, e⟩ := bind_inv e3
    clear e3
    cases fltOf_inv e1
    obtain ⟨v, rfl, h1⟩ := r.one1
    obtain ⟨_, _, rfl⟩ := h1.fltI
    cases hd : Float64.decode b with
    | fin sg m ex => rw [hd] at e; cases Option.some.inj e; exact call_int_float hd (P.here (.int _ _) _)
    | _ => rw [hd] at e; first | exact nos e | exact nob e | nomatch e
  | hex =>
    obtain ⟨x, rfl, e3⟩ := oneD_inv e
    clear e
    obtain ⟨b, e1, e⟩ := bind_inv e3
    clear e3
    cases intOf_inv e1
    obtain ⟨h2, h3⟩ := if_inv (x := some (D.str (hexL b))) e
    cases Option.some.inj h3
    obtain ⟨v, rfl, h1⟩ := r.one1
    obtain ⟨_, rfl⟩ := h1.intI
    exact PySem.P.hex_of_int (P.here (.str _ _ _ rfl) _) (by rw [sizeLine_eq]; have := of_decide_eq_true h2; lia)
  | tuple =>
    obtain ⟨x, rfl, e3⟩ := oneD_inv e
    clear e
    obtain ⟨b, e1, e⟩ := bind_inv e3
    clear e3
    cases lstOf_inv e1
    obtain ⟨h2, h3⟩ := if_inv (x := some (D.tup b)) e
    cases Option.some.inj h3
    obtain ⟨v, rfl, h1⟩ := r.one1
    cases h1 with | lst hW ha hr => exact tuple_sound ha hr (of_decide_eq_true h2) L P
end
end Mv
end
section
open PySem PySem.W PyProof.Rows
set_option Elab.async false
namespace Mv

theorem Ns.uniq {h : Heap} {a : Addr} {m m' : Str → Option Value} (x : h.Ns a m) (y : h.Ns a m') : m = m' := by
  obtain ⟨o, es, ep, ho, hd, _, hf⟩ := x
  obtain ⟨o', es', ep', ho', hd', _, hf'⟩ := y
  rw [ho] at ho'; cases ho'
  rw [hd] at hd'; cases hd'
  funext z
  rw [← hf z, hf' z]
theorem VarAt.uniq {h : Heap} {env : Env} {x : Str} {v u : Value} (a : VarAt h env x v) (b : VarAt h env x u) : v = u := by
  cases a with
  | loc m hk hn hv =>
    cases b with
    | loc m' hk' hn' hv' =>
      have := Ns.uniq hn hn'; subst this
      rw [hv] at hv'; exact Option.some.inj hv'
    | cell k hk' hc a hl hi => rw [hk] at hk'; simp only [Option.some.injEq] at hk'; subst hk'; rcases hc with h | h <;> cases h
  | cell k hk hc a hl hi =>
    cases b with
    | loc m' hk' hn' hv' => rw [hk] at hk'; simp only [Option.some.injEq] at hk'; subst hk'; rcases hc with h | h <;> cases h
    | cell k' hk' hc' a' hl' hi' =>
      rw [hl] at hl'; cases hl'
      obtain ⟨o, e1, e2⟩ := hi
      obtain ⟨o', e1', e2'⟩ := hi'
      rw [e1] at e1'; cases e1'
      rw [e2] at e2'
      exact Option.some.inj (Data.cell.inj e2')

structure FrOk (h : Heap) (env : Env) : Prop where
  ns : ∃ m, h.Ns env.locals m
  fk : env.scope.kind = .function
  cinj : ∀ x y a, env.cells.lookup x = some a → env.cells.lookup y = some a → x = y
  coff : ∀ x a, env.cells.lookup x = some a → a ≠ env.locals
  cell : ∀ x, env.kindOf x = some .cell → ∃ a v, env.cells.lookup x = some a ∧ h.IsCell a v

noncomputable def Slot1 (env : Env) (x : Str) (z : Addr) : Prop := (env.kindOf x = some .local ∧ z = env.locals) ∨ (env.kindOf x = some .cell ∧ env.cells.lookup x = some z)

theorem FrOk.keep {h h' : Heap} {env : Env} (F : FrOk h env) (k : Keep h h') : FrOk h' env where
  ns := let ⟨m, e⟩ := F.ns; ⟨m, e.keeps k⟩
  fk := F.fk
  cinj := F.cinj
  coff := F.coff
  cell := fun x e => let ⟨a, v, e1, o, e2, e3⟩ := F.cell x e; ⟨a, v, e1, o, k _ _ e2, e3⟩

theorem VarAt.other {h h' : Heap} {env : Env} {y : Str} {u : Value} {z : Addr} (V : VarAt h env y u) (hs : ∀ b o, b ≠ z → h.get? b = some o → h'.get? b = some o) (h1 : env.kindOf y = some .local → env.locals ≠ z) (h2 : ∀ a, env.cells.lookup y = some a → a ≠ z) :
    VarAt h' env y u := by
  cases V with
  | loc m hk hn hv => exact .loc m hk (let ⟨o, es, ep, e, r⟩ := hn; ⟨o, es, ep, hs _ _ (h1 hk) e, r⟩) hv
  | cell k hk hc a hl hi => exact .cell k hk hc a hl (let ⟨o, e, r⟩ := hi; ⟨o, hs _ _ (h2 a hl) e, r⟩)

theorem store_sound {M : Model} {A : Around} {E : Value → Shared → Prop} {s : Shared} {env : Env} {x : Str} {v : Value} {z : Addr} {Q : Unit → Shared → Prop} (F : FrOk s.heap env) (hz : Slot1 env x z)
    (h : ∀ h' tk, (∀ b o, b ≠ z → s.heap.get? b = some o → h'.get? b = some o) → FrOk h' env → VarAt h' env x v → (∀ y u, y ≠ x → VarAt s.heap env y u → VarAt h' env y u) → Q () { s with heap := h', toks := tk }) :
    wpAny M A (storeName env x v) Q E s := by
  obtain ⟨m, hn⟩ := F.ns
  rcases hz with ⟨hl, rfl⟩ | ⟨hl, hc⟩
  · refine wpAny_storeName_local hl hn (fun h' hn' hs => h h' _ hs.extBut ⟨⟨_, hn'⟩, F.fk, F.cinj, F.coff, fun y e => ?_⟩ (.loc _ hl hn' (by simp)) fun y u hy V => ?_) (by rw [F.fk]; rfl)
    · obtain ⟨a, w, e1, e2⟩ := F.cell y e
      exact ⟨a, w, e1, e2.sameBut hs (F.coff y a e1)⟩
    · cases V with
      | loc m' hk' hn'' hv' =>
        have := Ns.uniq hn hn''; subst this
        exact .loc _ hk' hn' (by simp [hy, hv'])
      | cell k hk' hc a hl' hi => exact .cell k hk' hc a hl' (hi.sameBut hs (F.coff y a hl'))
  · obtain ⟨a, w, e1, e2⟩ := F.cell x hl
    rw [hc] at e1; cases e1
    have hne : env.locals ≠ z := fun e => F.coff x z hc e.symm
    refine wpAny_storeName_cell F.fk hl hc e2 fun h' hc' hs => h h' s.toks hs.extBut ⟨⟨_, hn.sameBut hs hne⟩, F.fk, F.cinj, F.coff, fun y e => ?_⟩ (.cell .cell hl (.inl rfl) z hc hc') fun y u hy V => ?_
    · obtain ⟨a, w', e1, e2⟩ := F.cell y e
      by_cases hyx : y = x
      · subst hyx; rw [hc] at e1; cases e1; exact ⟨z, _, hc, hc'⟩
      · exact ⟨a, w', e1, e2.sameBut hs fun q => hyx (F.cinj y x z (q ▸ e1) hc)⟩
    · refine V.other hs.extBut (fun _ => hne) fun a ha q => hy (F.cinj y x z (q ▸ ha) hc)

theorem load_sound {M : Model} {A : Around} {E : Value → Shared → Prop} {s : Shared} {env : Env} {x : Str} {v : Value} {Q : Value → Shared → Prop} (hk : env.scope.kind = .function) (V : VarAt s.heap env x v)
    (hn : (x == ("__classdict__" : Str)) = false) (h : Q v s) : wpAny M A (loadName env x) Q E s := by
  cases V with
  | loc m hl hns hv => exact wpAny_loadName_local hk hl hns hv h
  | cell k hk' hc a hl hi =>
    rcases hc with rfl | rfl
    · exact wpAny_loadName_cell hk hk' hl hi h
    · exact wpAny_loadName_free hk hk' hl hi h hn

theorem closure_sound {env : Env} {scope : Scope} (hc : ∀ y ∈ scope.names, y.2 = .free → ∃ a, env.cells.lookup y.1 = some a) :
    ∃ cl, closureFor scope env = pure cl ∧ (∀ x a, cl.lookup x = some a → env.cells.lookup x = some a) ∧ ∀ y ∈ scope.names, y.2 = .free → ∃ a, cl.lookup y.1 = some a := by
  have key : ∀ (names : List (Str × NameKind)) (acc : List (Str × Addr)), (∀ y ∈ names, y.2 = .free → ∃ a, env.cells.lookup y.1 = some a) → (∀ x a, acc.lookup x = some a → env.cells.lookup x = some a) →
      ∃ cl, (forIn names acc (fun x r => match x with
        | (name, kind) => if (kind == NameKind.free) = true then (do let a ← cellOf env name; pure (ForInStep.yield ((name, a) :: r))) else pure (ForInStep.yield r)) : Sem (List (Str × Addr))) = pure cl ∧
        (∀ x a, cl.lookup x = some a → env.cells.lookup x = some a) ∧ (∀ x a, acc.lookup x = some a → cl.lookup x = some a) ∧ ∀ y ∈ names, y.2 = .free → ∃ a, cl.lookup y.1 = some a := by
    intro names
    induction names with
    | nil => intro acc _ ha; exact ⟨acc, by rw [List.forIn_nil], ha, fun _ _ e => e, fun _ hy => nomatch hy⟩
    | cons y r ih =>
      intro acc hy ha
      obtain ⟨n, k⟩ := y
      rw [List.forIn_cons]
      by_cases hk : k = .free
      · subst hk
        obtain ⟨a, hca⟩ := hy (n, .free) List.mem_cons_self rfl
        have ha' : ∀ x b, ((n, a) :: acc).lookup x = some b → env.cells.lookup x = some b := by
          intro x b e
          rw [List.lookup_cons] at e
          split at e
          · rename_i hx
            rw [beq_iff_eq.mp hx, hca]; exact e
          · exact ha x b e
        obtain ⟨cl, e1, e2, e3, e4⟩ := ih ((n, a) :: acc) (fun z hz => hy z (List.mem_cons_of_mem _ hz)) ha'
        have hn : cl.lookup n = some a := e3 n a (by simp [List.lookup_cons])
        refine ⟨cl, ?_, e2, fun x b e => ?_, fun z hz hf => ?_⟩
        · simp only [beq_self_eq_true, if_true]
          unfold cellOf
          rw [hca]
          exact e1
        · by_cases hx : x = n
          · subst hx
            rw [hn]
            have := ha x b e
            rw [hca] at this; exact this
          · refine e3 x b ?_
            have hb : (x == n) = false := by simpa using hx
            rw [List.lookup_cons, hb]; exact e
        · rcases List.mem_cons.mp hz with rfl | hz
          · exact ⟨a, hn⟩
          · exact e4 z hz hf
      · have hb : (k == NameKind.free) = false := by simpa using hk
        obtain ⟨cl, e1, e2, e3, e4⟩ := ih acc (fun z hz => hy z (List.mem_cons_of_mem _ hz)) ha
        refine ⟨cl, ?_, e2, e3, fun z hz hf => ?_⟩
        · simp only [hb, Bool.false_eq_true, if_false]
          exact e1
        · rcases List.mem_cons.mp hz with rfl | hz
          · exact absurd hf hk
          · exact e4 z hz hf
  obtain ⟨cl, e1, e2, _, e4⟩ := key scope.names [] hc (fun _ _ e => nomatch e)
  refine ⟨cl, ?_, e2, e4⟩
  have := congrArg (fun t => t >>= fun cs => (pure cs : Sem (List (Str × Addr)))) e1
  exact this

theorem cellsFrom_app : ∀ (names : List (Str × NameKind)) (n : Nat) (acc : List (Str × Addr)), cellsFrom n names acc = cellsFrom n names [] ++ acc
  | [], _, _ => rfl
  | (name, kind) :: r, n, acc => by
    unfold cellsFrom
    split
    · rw [cellsFrom_app r (n + 1) ((name, n) :: acc), cellsFrom_app r (n + 1) [(name, n)]]; simp
    · exact cellsFrom_app r n acc
theorem pushCells_size : ∀ (names : List (Str × NameKind)) (h : Heap), h.objs.size ≤ (pushCells h names).objs.size
  | [], _ => Nat.le_refl _
  | (_, kind) :: r, h => by
    unfold pushCells
    split
    · exact Nat.le_trans (by rw [Heap.size_push]; exact Nat.le_succ _) (pushCells_size r _)
    · exact pushCells_size r h
theorem lookup_app {α : Type} (x : Str) : ∀ (l r : List (Str × α)), (l ++ r).lookup x = (l.lookup x).or (r.lookup x)
  | [], _ => by simp
  | (y, a) :: l, r => by
    simp only [List.cons_append, List.lookup_cons]
    split
    · rfl
    · exact lookup_app x l r
theorem cellsFrom_mem : ∀ (names : List (Str × NameKind)) (n : Nat) (acc : List (Str × Addr)) (x : Str) (a : Addr), (x, a) ∈ cellsFrom n names acc → (x, a) ∈ acc ∨ (x, NameKind.cell) ∈ names
  | [], _, _, _, _, h => .inl h
  | (name, kind) :: r, n, acc, x, a, h => by
    unfold cellsFrom at h
    split at h
    · rename_i hk
      rcases cellsFrom_mem r (n + 1) _ x a h with h | h
      · rcases List.mem_cons.mp h with e | h
        · cases e
          have : kind = .cell := by simpa using hk
          subst this
          exact .inr List.mem_cons_self
        · exact .inl h
      · exact .inr (List.mem_cons_of_mem _ h)
    · rcases cellsFrom_mem r n acc x a h with h | h
      · exact .inl h
      · exact .inr (List.mem_cons_of_mem _ h)
theorem cellsFrom_has : ∀ (names : List (Str × NameKind)) (n : Nat) (acc : List (Str × Addr)) (x : Str), (x, NameKind.cell) ∈ names → ∃ a, (cellsFrom n names acc).lookup x = some a
  | [], _, _, _, h => nomatch h
  | (name, kind) :: r, n, acc, x, h => by
    unfold cellsFrom
    rcases List.mem_cons.mp h with e | h
    · obtain ⟨hx1, hk1⟩ := Prod.mk.inj e
      subst hk1
      subst hx1
      simp only [beq_self_eq_true, if_true]
      by_cases hx : (x, NameKind.cell) ∈ r
      · exact cellsFrom_has r (n + 1) _ x hx
      · rw [cellsFrom_app, lookup_app]
        cases he : (cellsFrom (n + 1) r []).lookup x with
        | none => exact ⟨n, by simp [List.lookup_cons]⟩
        | some a => exact ⟨a, rfl⟩
    · split
      · exact cellsFrom_has r (n + 1) _ x h
      · exact cellsFrom_has r n _ x h

theorem compFrame_sound {M : Model} {A : Around} {E : Value → Shared → Prop} {s : Shared} {env : Env} {scope : Scope} {cl : List (Str × Addr)} {Q : Env → Shared → Prop} 
    (h : ∀ h', Keep s.heap h' → s.heap.objs.size < h'.objs.size →
      h'.Ns s.heap.objs.size (fun _ => none) →
      (∀ x a, (cellsFrom (s.heap.objs.size + 1) scope.names []).lookup x = some a → h'.IsCell a none ∧ s.heap.objs.size < a ∧ a < h'.objs.size) →
      ((cellsFrom (s.heap.objs.size + 1) scope.names []).Pairwise fun x y => x.2 ≠ y.2) →
      Q { scope, locals := s.heap.objs.size, globals := env.globals, cells := cellsFrom (s.heap.objs.size + 1) scope.names [] ++ cl, qual := env.qual, func := none, code := env.code, frame := env.frame, builtins := env.builtins } { s with heap := h' }) :
    wpAny M A (newFunctionEnv scope env.globals cl [] env.qual none .none (some env)) Q E s := by
  simp only [newFunctionEnv, Option.isSome_some, if_true]
  refine wpAny_bind (wpAny_alloc ?_)
  refine wpAny_bind (wpAny_layCells _ (fun name kind cells => by cases hkc : kind == NameKind.cell <;> simp [hkc]) _ _ _ _ ?_)
  have ok := cellsFrom_ok scope.names (s.heap.push { cls := .type "dict", data := .dict #[] }) (s.heap.objs.size + 1) [] ⟨fun _ _ hm => (nomatch hm), List.Pairwise.nil⟩ (by rw [Heap.size_push]; exact Nat.le_refl _)
  rw [Heap.size_push] at ok
  rw [show ({ s with heap := s.heap.push { cls := .type "dict", data := .dict #[] } } : Shared).heap.objs.size = s.heap.objs.size + 1 from Heap.size_push ..]
  rw [List.forIn_nil]
  refine wpAny_bind (wpAny_pure (wpAny_pure ?_))
  rw [cellsFrom_app]
  have hk : Keep s.heap (pushCells (s.heap.push { cls := .type "dict", data := .dict #[] }) scope.names) := fun b o e => pushCells_keeps _ _ b o (Heap.get?_push_of_some _ e)
  have hsz := pushCells_size scope.names (s.heap.push { cls := .type "dict", data := .dict #[] })
  rw [Heap.size_push] at hsz
  refine h _ hk (Nat.lt_of_lt_of_le (Nat.lt_succ_self _) hsz) ((Heap.Ns.new s.heap (.type "dict")).keeps (pushCells_keeps _ _)) (fun x a e => ?_) ok.apart
  obtain ⟨q1, q2⟩ := ok.empty x a (mem_of_lookup e)
  exact ⟨q1, by lia, q1.lt⟩
end Mv
end
section
open PySem PySem.W PyProof.Rows
set_option Elab.async false
namespace Mv

structure Rm (n : Nat) (A : Around) : Prop where
  hh : A.handled = none
  dp : A.depth + 12 * n + 12 < recursionLimit
  un : A.units + 100 * n + 200 < cLine

noncomputable def Contract (c : Cx) (n : Nat) (a : Addr) (ds : List D) (d : D) : Prop :=
  ∀ (A : Around) (s : Shared) (W : Addr → Prop) (vs : List Value), Rm n A → Keep c.hb s.heap → Live s.heap W → Reps c s.heap W vs ds → 0 < s.toks →
    codeAny (model c.prog c.w) A (.call (.ref a) ⟨vs, []⟩) (fun r s' => ∃ v h' tk, r = .ok (.ret v) ∧ s' = { s with heap := h', toks := tk } ∧ Keep s.heap h' ∧ Rep c h' W v d ∧ 0 < tk) s
noncomputable def OracleOk (c : Cx) (n : Nat) (C : Nat → List D → Option D) : Prop := ∀ f ds d, C f ds = some d → Contract c n (c.fa f) ds d

noncomputable def PostB (c : Cx) (s : Shared) (W : Addr → Prop) (d : D) (Q : Value → Shared → Prop) : Prop :=
  ∀ v h' tk, Keep s.heap h' → BRep c h' W v d → 0 < tk → Q v { s with heap := h', toks := tk }
noncomputable def PostL (c : Cx) (s : Shared) (W : Addr → Prop) (ds : List D) (Q : List Value → Shared → Prop) : Prop :=
  ∀ vs h' tk, Keep s.heap h' → Reps c h' W vs ds → 0 < tk → Q vs { s with heap := h', toks := tk }
noncomputable def PostT (s : Shared) (b : Bool) (Q : Bool → Shared → Prop) : Prop :=
  ∀ h' tk, Keep s.heap h' → 0 < tk → Q b { s with heap := h', toks := tk }
noncomputable def PostI (c : Cx) (A : Around) (s : Shared) (W : Addr → Prop) (ds : List D) (Q : Value → Shared → Prop) : Prop :=
  ∀ it s₁ s₂ I fp P St, (∃ h₁ tk₁, s₁ = { s with heap := h₁, toks := tk₁ } ∧ Keep s.heap h₁) → It c A s₁ W ds it s₂ I fp P St → 0 < s₂.toks → Q it s₂

section
variable (c : Cx) (n lvl : Nat) (C : Nat → List D → Option D)
noncomputable def SE1 : Prop := ∀ (k : Kinds) (e : PySem.Expr) (se : SE) (σ : Env1) (env : Env) (W : Addr → Prop) (s : Shared) (d : D) (Q : Value → Shared → Prop) (E : Value → Shared → Prop) (A : Around),
  cE c.T n k e = some se → evE C se σ = some d → ES c s.heap W env k σ → Rm lvl A → 0 < s.toks → PostP c s W d Q → wpAny (model c.prog c.w) A (eval e env) Q E s
noncomputable def SB1 : Prop := ∀ (k : Kinds) (e : PySem.Expr) (se : SE) (σ : Env1) (env : Env) (W : Addr → Prop) (s : Shared) (d : D) (Q : Value → Shared → Prop) (E : Value → Shared → Prop) (A : Around),
  cB c.T n k e = some se → evE C se σ = some d → ES c s.heap W env k σ → Rm lvl A → 0 < s.toks → PostB c s W d Q → wpAny (model c.prog c.w) A (eval e env) Q E s
noncomputable def ST1 : Prop := ∀ (k : Kinds) (e : PySem.Expr) (se : SE) (σ : Env1) (env : Env) (W : Addr → Prop) (s : Shared) (d : D) (b : Bool) (Q : Bool → Shared → Prop) (E : Value → Shared → Prop) (A : Around),
  cT c.T n k e = some se → evE C se σ = some d → truthD d = some b → ES c s.heap W env k σ → Rm lvl A → 0 < s.toks → PostT s b Q → wpAny (model c.prog c.w) A (isTrue e env (eval e env)) Q E s
noncomputable def SI1 : Prop := ∀ (k : Kinds) (e : PySem.Expr) (se : SE) (σ : Env1) (env : Env) (W : Addr → Prop) (s : Shared) (d : D) (ds : List D) (Q : Value → Shared → Prop) (E : Value → Shared → Prop) (A : Around),
  cI c.T n k e = some se → evE C se σ = some d → itemsD d = some ds → ES c s.heap W env k σ → Rm lvl A → 0 < s.toks → PostI c A s W ds Q →
    wpAny (model c.prog c.w) A (eval e env) (fun x s₁ => wpAny (model c.prog c.w) A (pyIter x) Q E s₁) E s
noncomputable def SL1 : Prop := ∀ (k : Kinds) (es : List PySem.Expr) (ses : List SE) (σ : Env1) (env : Env) (W : Addr → Prop) (s : Shared) (ds : List D) (pos : Pos) (Q : List Value → Shared → Prop) (E : Value → Shared → Prop) (A : Around),
  cEs c.T n k es = some ses → evEs C ses σ = some ds → ES c s.heap W env k σ → Rm lvl A → 0 < s.toks → PostL c s W ds Q → wpAny (model c.prog c.w) A (spliced (backTo pos (starEach es env))) Q E s
noncomputable def STs1 : Prop := ∀ (k : Kinds) (es : List PySem.Expr) (ses : List SE) (σ : Env1) (env : Env) (W : Addr → Prop) (s : Shared) (b : Bool) (Q : Bool → Shared → Prop) (E : Value → Shared → Prop) (A : Around),
  cTs c.T n k es = some ses → evTs C ses σ = some b → ES c s.heap W env k σ → Rm lvl A → 0 < s.toks → PostT s b Q →
    wpAny (model c.prog c.w) A (forIn es true fun e r => if r = true then do let ok ← isTrue e env (eval e env); pure (ForInStep.yield ok) else pure (ForInStep.yield r)) Q E s
end

section
variable {c : Cx} {lvl : Nat} {A : Around} {E : Value → Shared → Prop} {s : Shared} {W : Addr → Prop} {env : Env} {k : Kinds} {σ : Env1}

theorem Rm.in1u {n : Nat} {A : Around} (R : Rm n A) : A.units + 8 < cLine := by have := R.un; lia
theorem NoneBooked.keep {h h' : Heap} (x : NoneBooked h) (q : Keep h h') : NoneBooked h' := let ⟨mc, h1, h2⟩ := x; ⟨mc, h1.keeps q, h2⟩
theorem ES.kind (S : ES c s.heap W env k σ) (x : Str) : env.kindOf x = k.lookup x := by unfold Env.kindOf; rw [S.ks]
theorem PostP.mono {d : D} {Q : Value → Shared → Prop} {h₁ : Heap} {tk₁ : Nat} (P : PostP c s W d Q) (q : Keep s.heap h₁) : PostP c { s with heap := h₁, toks := tk₁ } W d Q :=
  fun v h' tk k r p => P v h' tk (q.trans k) r p

theorem name_sound {x : Str} {p : Pos} {i : Nat} {Q : Value → Shared → Prop} (S : ES c s.heap W env k σ) (hv : isVar k x = true) (h1 : (x == ("__debug__" : Str)) = false) (h2 : (x == ("__classdict__" : Str)) = false)
    {t : Ent} (hi : c.T.ix x = some i) (hl : look σ i = some t) (h : ∀ v, EntRel c s.heap W v t → Q v s) : wpAny (model c.prog c.w) A (eval (.Name x p) env) Q E s := by
  obtain ⟨v, V, r⟩ := S.vars i x t (ix_get hi) hl hv
  exact wpAny_Name (load_sound S.fk V h2 (h v r)) h1

theorem glob_sound {x : Str} {p : Pos} {v : Value} {Q : Value → Shared → Prop} (K : c.Ok) (S : ES c s.heap W env k σ) (hg : isGlob k x = true) (hm : c.mg x = some v) (hd : (x == ("__debug__" : Str)) = false) (h : Q v s) :
    wpAny (model c.prog c.w) A (eval (.Name x p) env) Q E s := by
  have hk : env.kindOf x = some .globalImplicit := by
    rw [S.kind]; unfold isGlob at hg
    split at hg
    · rename_i e; exact e
    · cases hg
  exact Calls.Name_function_global S.fk hk (Calls.loadGlobal_global (by rw [S.gl]; exact K.g.keeps S.base) hm h) hd
theorem bltn_sound {x : Str} {p : Pos} {v : Value} {Q : Value → Shared → Prop} (K : c.Ok) (S : ES c s.heap W env k σ) (hg : isGlob k x = true) (hm : c.mg x = none) (hb : c.mb x = some v) (hd : (x == ("__debug__" : Str)) = false) (h : Q v s) :
    wpAny (model c.prog c.w) A (eval (.Name x p) env) Q E s := by
  have hk : env.kindOf x = some .globalImplicit := by
    rw [S.kind]; unfold isGlob at hg
    split at hg
    · rename_i e; exact e
    · cases hg
  exact Calls.Name_function_global S.fk hk (Calls.loadGlobal_builtin (by rw [S.gl]; exact K.g.keeps S.base) hm (by rw [S.bl]; exact K.b.keeps S.base) hb h) hd
end

theorem starEach_cons {c : Cx} {n : Nat} {k : Kinds} {e : PySem.Expr} {se : SE} {r : List PySem.Expr} {env : Env} (h : cE c.T n k e = some se) : starEach (e :: r) env = (false, eval e env) :: starEach r env := by
  cases n with
  | zero => first | exact nos h | exact nob h | nomatch h
  | succ n =>
    cases e with
    | Starred => first | exact nos h | exact nob h | nomatch h
    | _ => rfl
theorem star_plain {c : Cx} {k : Kinds} {env : Env} {pos : Pos} : ∀ {n : Nat} {es : List PySem.Expr} {ses : List SE}, cEs c.T n k es = some ses → (backTo pos (starEach es env)).any (·.1) = false
  | 0, _, _, h => by simp [cEs] at h
  | _ + 1, [], _, _ => rfl
  | n + 1, e :: r, ses, h => by
    obtain ⟨a, h1, h⟩ := bind_inv h
    first | (have hz := bind_inv h; obtain ⟨b, h2, _⟩ := hz) | (have hz := map_inv h; obtain ⟨b, h2, _⟩ := hz)
    rw [starEach_cons h1]
    show (false || (backTo pos (starEach r env)).any (·.1)) = false
    rw [star_plain h2]; rfl

theorem sl_step {c : Cx} {n lvl : Nat} {C : Nat → List D → Option D} (hE : SE1 c n lvl C) (hL : SL1 c n lvl C) : SL1 c (n + 1) lvl C := by
  intro k es ses σ env W s ds pos Q E A hc he S R hp P
  cases es with
  | nil =>
    simp only [cEs, Option.some.injEq] at hc; subst hc
    simp only [evEs, Option.some.injEq] at he; subst he
    exact spliced_nil' (P [] s.heap s.toks (Keep.refl _) .nil hp)
  | cons e r =>
    obtain ⟨a, h1, hc⟩ := bind_inv hc
    obtain ⟨b, h2, rfl⟩ := map_inv hc
    obtain ⟨d, e1, he⟩ := bind_inv he
    obtain ⟨ds', e2, rfl⟩ := map_inv he
    rw [starEach_cons h1]
    refine PySem.Calls.spliced_cons (hE k e a σ env W s d _ E A h1 e1 S R hp fun v h' tk q rv hp' => ?_)
    refine hL k r b σ env W _ ds' pos _ E A h2 e2 (S.keep q) R hp' fun vs h'' tk' q' rs hp'' => ?_
    exact P (v :: vs) h'' tk' (q.trans q') (.cons (rv.keep q') rs) hp''
where
  spliced_nil' {M : Model} {A : Around} {E : Value → Shared → Prop} {s : Shared} {Q : List Value → Shared → Prop} {pos : Pos} {env : Env} (h : Q [] s) : wpAny M A (spliced (backTo pos (starEach [] env))) Q E s := PySem.Calls.spliced_nil h

theorem sts_step {c : Cx} {n lvl : Nat} {C : Nat → List D → Option D} (hT : ST1 c n lvl C) (hL : STs1 c n lvl C) : STs1 c (n + 1) lvl C := by
  intro k es ses σ env W s b Q E A hc he S R hp P
  cases es with
  | nil =>
    simp only [cTs, Option.some.injEq] at hc; subst hc
    simp only [evTs, Option.some.injEq] at he; subst he
    rw [List.forIn_nil]
    exact wpAny_pure (P s.heap s.toks (Keep.refl _) hp)
  | cons e r =>
    obtain ⟨a, h1, hc⟩ := bind_inv hc
    obtain ⟨q, h2, rfl⟩ := map_inv hc
    simp only [evTs, Option.bind_eq_some_iff] at he
    obtain ⟨d, e1, t, e2, e3⟩ := he
    rw [List.forIn_cons]
    simp only [if_true]
    refine wpAny_bind (wpAny_bind (hT k e a σ env W s d t _ E A h1 e1 e2 S R hp fun h' tk k' hp' => wpAny_pure ?_))
    cases t with
    | true =>
      simp only [if_true] at e3
      exact hL k r q σ env W _ b Q E A h2 e3 (S.keep k') R hp' fun h'' tk' k'' hp'' => P h'' tk' (k'.trans k'') hp''
    | false =>
      simp only [Bool.false_eq_true, if_false, Option.some.injEq] at e3; subst e3
      have key : ∀ (l : List PySem.Expr) (s' : Shared), Q false s' → wpAny (model c.prog c.w) A (forIn l false fun e r => if r = true then do let ok ← isTrue e env (eval e env); pure (ForInStep.yield ok) else pure (ForInStep.yield r)) Q E s' := by
        intro l
        induction l with
        | nil => intro s' h; rw [List.forIn_nil]; exact wpAny_pure h
        | cons x l ih =>
          intro s' h
          rw [List.forIn_cons]
          simp only [Bool.false_eq_true, if_false]
          exact wpAny_bind (wpAny_pure (ih s' h))
      exact key r _ (P h' tk k' hp')
end Mv
end
section
open PySem PySem.W PyProof.Rows
set_option Elab.async false
namespace Mv

theorem cEs_len {T : Tb} {k : Kinds} : ∀ {n : Nat} {es : List PySem.Expr} {ses : List SE}, cEs T n k es = some ses → es.length < n + 1 ∧ ses.length = es.length
  | 0, _, _, h => by simp [cEs] at h
  | n + 1, [], ses, h => by simp only [cEs, Option.some.injEq] at h; subst h; simp
  | n + 1, e :: r, ses, h => by
    obtain ⟨a, _, h⟩ := bind_inv h
    obtain ⟨b, h2, rfl⟩ := map_inv h
    have := cEs_len h2
    exact ⟨by simp only [List.length_cons]; lia, by simp [this.2]⟩
theorem evEs_len {C : Nat → List D → Option D} {σ : Env1} : ∀ {ses : List SE} {ds : List D}, evEs C ses σ = some ds → ds.length = ses.length
  | [], ds, h => by simp only [evEs, Option.some.injEq] at h; subst h; rfl
  | e :: r, ds, h => by
    obtain ⟨a, _, h⟩ := bind_inv h
    obtain ⟨b, h2, rfl⟩ := map_inv h
    simp [evEs_len h2]

section
variable {c : Cx} {n lvl : Nat} {C : Nat → List D → Option D} {A : Around} {E : Value → Shared → Prop} {s : Shared} {W : Addr → Prop} {env : Env} {k : Kinds} {σ : Env1} {Q : Value → Shared → Prop} {d : D} {pos : Pos}

theorem ES.lv (S : ES c s.heap W env k σ) : Live s.heap W := S.live

theorem e_lit {cst : Const} {kd : Nat} (hl : litD cst = some d) (hp : 0 < s.toks) (P : PostP c s W d Q) : wpAny (model c.prog c.w) A (eval (.Constant cst kd pos) env) Q E s := by
  cases cst with
  | none => cases Option.some.inj hl; exact Constant_none (P _ s.heap s.toks (Keep.refl _) .nn hp)
  | bool b => cases Option.some.inj hl; exact Constant_bool (P _ s.heap s.toks (Keep.refl _) (.bool _) hp)
  | int i => cases Option.some.inj hl; exact wpAny_Constant_int (P _ s.heap (s.toks + 1) (Keep.refl _) (.int _ _) (Nat.succ_pos _))
  | float x => cases Option.some.inj hl; exact AutoFloatOps.wpAny_Constant_float (P _ s.heap (s.toks + 1) (Keep.refl _) (.flt _ _ (Nat.pos_iff_ne_zero.mp hp)) (Nat.succ_pos _))
  | str x => cases Option.some.inj hl; exact Calls.Constant_str (P _ s.heap (s.toks + 1) (Keep.refl _) (.str _ _ _ rfl) (Nat.succ_pos _))
  | _ => exact nos hl

theorem e_bin (hE : SE1 c n lvl C) {l r : PySem.Expr} {op : Operator} {bop : Bop} {a b : SE} (ho : bopOf op = some bop) (h1 : cE c.T n k l = some a) (h2 : cE c.T n k r = some b) (he : evE C (.bin bop a b) σ = some d)
    (S : ES c s.heap W env k σ) (R : Rm lvl A) (hp : 0 < s.toks) (P : PostP c s W d Q) : wpAny (model c.prog c.w) A (eval (.BinOp l op r pos) env) Q E s := by
  obtain ⟨x, e1, he⟩ := bind_inv he
  first | (have hz := bind_inv he; obtain ⟨y, e2, e3⟩ := hz) | (have hz := map_inv he; obtain ⟨y, e2, e3⟩ := hz)
  have := bopOf_syn ho; subst this
  refine wpAny_BinOp (hE k l a σ env W s x _ E A h1 e1 S R hp fun v h' tk q rv hp' => ?_)
  refine hE k r b σ env W _ y _ E A h2 e2 (S.keep q) R hp' fun u h'' tk' q' ru hp'' => ?_
  exact PostP.use (c := c) (W := W) (d := d) hp'' (P.mono (q.trans q')) fun E' Q' P' => binD_sound (Nat.pos_iff_ne_zero.mp hp'') e3 (rv.keep q') ru (S.keep (q.trans q')).live P'

theorem neg_inv {x d : D} (h : negD x = some d) : ∃ i, x = .int i ∧ d = .int (-i) := by
  cases x with
  | int i => exact ⟨i, rfl, (Option.some.inj h).symm⟩
  | _ => exact nos h
theorem e_neg (hE : SE1 c n lvl C) {x : PySem.Expr} {a : SE} (h1 : cE c.T n k x = some a) (he : evE C (.neg a) σ = some d)
    (S : ES c s.heap W env k σ) (R : Rm lvl A) (hp : 0 < s.toks) (P : PostP c s W d Q) : wpAny (model c.prog c.w) A (eval (.UnaryOp .USub x pos) env) Q E s := by
  first | (have hz := bind_inv he; obtain ⟨y, e1, e2⟩ := hz) | (have hz := map_inv he; obtain ⟨y, e1, e2⟩ := hz)
  obtain ⟨i, rfl, rfl⟩ := neg_inv e2
  clear e2
  refine PySem.wpAny_UnaryOp (hE k x a σ env W s _ _ E A h1 e1 S R hp fun v h' tk q rv hp' => ?_)
  obtain ⟨t, rfl⟩ := rv.intI
  exact neg_int (P _ h' (tk + 1) q (.int _ _) (Nat.succ_pos _))

theorem cmp_marks {op : CmpOp} {b : Cop} {r : PySem.Expr} (h : copOf op = some b) : behindInMarks op r = false := by
  cases r <;> first | rfl | (cases op <;> first | exact nos h | rfl | simp [behindInMarks])

theorem e_cmp (K : c.Ok) (hE : SE1 c n lvl C) {l r : PySem.Expr} {op : CmpOp} {bop : Cop} {a b : SE} (ho : copOf op = some bop) (h1 : cE c.T n k l = some a) (h2 : cE c.T n k r = some b) (he : evE C (.cmp bop a b) σ = some d)
    (S : ES c s.heap W env k σ) (R : Rm lvl A) (hp : 0 < s.toks) (P : PostP c s W d Q) : wpAny (model c.prog c.w) A (eval (.Compare l [op] [r] pos) env) Q E s := by
  obtain ⟨x, e1, he⟩ := bind_inv he
  obtain ⟨y, e2, he⟩ := bind_inv he
  obtain ⟨p, e3, rfl⟩ := map_inv he
  have hm := cmp_marks (r := r) ho
  have := copOf_syn ho; subst this
  refine wpAny_Compare1 (hE k l a σ env W s x _ E A h1 e1 S R hp fun v h' tk q rv hp' => ?_) hm
  refine hE k r b σ env W _ y _ E A h2 e2 (S.keep q) R hp' fun u h'' tk' q' ru hp'' => ?_
  exact cmpD_sound (NoneBooked.keep K.nb (S.keep (q.trans q')).base) R.in1u e3 (rv.keep q') ru (P _ h'' tk' (q.trans q') (.bool _) hp'')

theorem t_cmp (K : c.Ok) (hE : SE1 c n lvl C) {l r : PySem.Expr} {op : CmpOp} {bop : Cop} {a b : SE} {t : Bool} {whole : Sem Value} {Q : Bool → Shared → Prop} (ho : copOf op = some bop) (h1 : cE c.T n k l = some a) (h2 : cE c.T n k r = some b)
    (he : evE C (.cmp bop a b) σ = some d) (ht : truthD d = some t)
    (S : ES c s.heap W env k σ) (R : Rm lvl A) (hp : 0 < s.toks) (P : PostT s t Q) : wpAny (model c.prog c.w) A (isTrue (.Compare l [op] [r] pos) env whole) Q E s := by
  obtain ⟨x, e1, he⟩ := bind_inv he
  obtain ⟨y, e2, he⟩ := bind_inv he
  obtain ⟨p, e3, rfl⟩ := map_inv he
  simp only [truthD, Option.some.injEq] at ht; subst ht
  have hm := cmp_marks (r := r) ho
  have := copOf_syn ho; subst this
  refine wpAny_isTrue_Compare1 (hE k l a σ env W s x _ E A h1 e1 S R hp fun v h' tk q rv hp' => ?_) hm
  refine hE k r b σ env W _ y _ E A h2 e2 (S.keep q) R hp' fun u h'' tk' q' ru hp'' => ?_
  exact cmpD_sound (NoneBooked.keep K.nb (S.keep (q.trans q')).base) R.in1u e3 (rv.keep q') ru (wpAny_truthy_bool (P h'' tk' (q.trans q') hp''))

theorem truth_sound {v : Value} {t : Bool} {Q : Bool → Shared → Prop} (rv : Rep c s.heap W v d) (ht : truthD d = some t) (h : Q t s) : wpAny (model c.prog c.w) A (truthy v) Q E s := by
  cases d with
  | bool b => cases Option.some.inj ht; cases rv.boolI; exact wpAny_truthy_bool h
  | int i => cases Option.some.inj ht; obtain ⟨t, rfl⟩ := rv.intI; exact truthy_int h
  | _ => exact nos ht

theorem e_ite (hT : ST1 c n lvl C) (hE : SE1 c n lvl C) {t x y : PySem.Expr} {st a b : SE} (h0 : cT c.T n k t = some st) (h1 : cE c.T n k x = some a) (h2 : cE c.T n k y = some b) (he : evE C (.ite st a b) σ = some d)
    (S : ES c s.heap W env k σ) (R : Rm lvl A) (hp : 0 < s.toks) (P : PostP c s W d Q) : wpAny (model c.prog c.w) A (eval (.IfExp t x y pos) env) Q E s := by
  obtain ⟨td, e1, he⟩ := bind_inv he
  first | (have hz := bind_inv he; obtain ⟨tb, e2, e3⟩ := hz) | (have hz := map_inv he; obtain ⟨tb, e2, e3⟩ := hz)
  show wpAny _ A (do if ← isTrue t env (eval t env) then eval x env else eval y env) Q E s
  refine wpAny_bind (hT k t st σ env W s td tb _ E A h0 e1 e2 S R hp fun h' tk q hp' => ?_)
  cases tb with
  | true => exact hE k x a σ env W _ d _ E A h1 (by simpa using e3) (S.keep q) R hp' (P.mono q)
  | false => exact hE k y b σ env W _ d _ E A h2 (by simpa using e3) (S.keep q) R hp' (P.mono q)

theorem e_lst (hn : n ≤ 1000) (hL : SL1 c n lvl C) {es : List PySem.Expr} {ses : List SE} (h1 : cEs c.T n k es = some ses) (he : evE C (.lst ses) σ = some d)
    (S : ES c s.heap W env k σ) (R : Rm lvl A) (hp : 0 < s.toks) (P : PostP c s W d Q) : wpAny (model c.prog c.w) A (eval (.List es pos) env) Q E s := by
  obtain ⟨ds, e1, rfl⟩ := map_inv he
  refine List_ (hL k es ses σ env W s ds pos _ E A h1 e1 S R hp fun vs h' tk q rs hp' => ?_)
  refine wpAny_newObj_type ?_ ?_
  · exact P _ _ tk (q.trans (Keep.push _ _)) (.lst (S.keep q).lv.new ⟨_, Heap.get?_push_size _ rfl⟩ (rs.keep (Keep.push _ _))) hp'
  · have := rs.length
    have h2 := (cEs_len h1)
    have h3 := evEs_len e1
    show vs.toArray.size ≤ sizeLine
    rw [sizeLine_eq, List.size_toArray]; lia
theorem e_tup (hn : n ≤ 1000) (hL : SL1 c n lvl C) {es : List PySem.Expr} {ses : List SE} {kd : Nat} (h1 : cEs c.T n k es = some ses) (he : evE C (.tup ses) σ = some d)
    (S : ES c s.heap W env k σ) (R : Rm lvl A) (hp : 0 < s.toks) (P : PostP c s W d Q) : wpAny (model c.prog c.w) A (eval (.Tuple es kd pos) env) Q E s := by
  obtain ⟨ds, e1, rfl⟩ := map_inv he
  refine Tuple_ (hL k es ses σ env W s ds pos _ E A h1 e1 S R hp fun vs h' tk q rs hp' => ?_)
  refine wpAny_newObj_type ?_ ?_
  · exact P _ _ tk (q.trans (Keep.push _ _)) (.tup (S.keep q).lv.new ⟨_, Heap.get?_push_size _ rfl, rfl, _, rfl⟩ (rs.keep (Keep.push _ _))) hp'
  · have := rs.length
    have h2 := (cEs_len h1)
    have h3 := evEs_len e1
    show vs.toArray.size ≤ sizeLine
    rw [sizeLine_eq, List.size_toArray]; lia

theorem e_idx (hB : SB1 c n lvl C) (hE : SE1 c n lvl C) {x y : PySem.Expr} {a b : SE} (hs : ∀ a b d p, y ≠ .Slice a b d p) (h1 : cB c.T n k x = some a) (h2 : cE c.T n k y = some b) (he : evE C (.idx a b) σ = some d)
    (S : ES c s.heap W env k σ) (R : Rm lvl A) (hp : 0 < s.toks) (P : PostP c s W d Q) : wpAny (model c.prog c.w) A (eval (.Subscript x y pos) env) Q E s := by
  obtain ⟨u, e1, he⟩ := bind_inv he
  first | (have hz := bind_inv he; obtain ⟨v, e2, e3⟩ := hz) | (have hz := map_inv he; obtain ⟨v, e2, e3⟩ := hz)
  refine Subscript_ (hB k x a σ env W s u _ E A h1 e1 S R hp fun ov h' tk q rv hp' => ?_)
  refine hE k y b σ env W _ v _ E A h2 e2 (S.keep q) R hp' fun iv h'' tk' q' ru hp'' => ?_
  exact PostP.use (c := c) (W := W) (d := d) hp'' (P.mono (q.trans q')) fun E' Q' P' => idxD_sound hs e3 (rv.keep q') ru P'

theorem clip_cut (n : Nat) (i : Int) : clipAt n i = cutAt i n := by
  unfold clipAt cutAt
  split <;> lia

theorem pick_upto (vs : List Value) (i : Int) : slicePick vs.toArray none (some i) none = (vs.take (cutAt i vs.length)).toArray := by
  rw [slicePick_plain, Option.elim_none, Option.elim_some, clip_cut]
  simp
theorem pick_from (vs : List Value) (i : Int) : slicePick vs.toArray (some i) none none = (vs.drop (cutAt i vs.length)).toArray := by
  rw [slicePick_plain, Option.elim_none, Option.elim_some, clip_cut]
  simp only [List.size_toArray]
  rw [List.take_of_length_le]
  simp

theorem slice_post {ls : List D} {vs : List Value} {h : Heap} {tk : Nat} {o : Obj} (q : Keep s.heap h) (L : Live h W) (rs : Reps c h W vs ls) (hp : 0 < tk) (P : PostP c s W (.lst ls) Q) :
    Q (.ref (h.objs.size + 1)) { s with heap := (h.push o).push { cls := .type "list", data := .seq vs.toArray }, toks := tk } := by
  have e := Heap.get?_push_size (h := h.push o) (o := { cls := .type "list", data := .seq vs.toArray }) rfl
  rw [Heap.size_push] at e
  exact P _ _ tk (q.trans ((Keep.push _ _).trans (Keep.push _ _))) (.lst (Live.above (s := { s with heap := h }) L (Nat.le_succ _)) ⟨_, e⟩ (rs.keep ((Keep.push _ _).trans (Keep.push _ _)))) hp

theorem upto_inv {x y d : D} (h : uptoD x y = some d) : ∃ l i, x = .lst l ∧ y = .int i ∧ l.length ≤ 1000000 ∧ d = .lst (l.take (cutAt i l.length)) := by
  cases x with
  | lst l => cases y with
    | int i => obtain ⟨h1, h2⟩ := of_ite h; exact ⟨l, i, rfl, rfl, of_decide_eq_true h1, h2.symm⟩
    | _ => exact nos h
  | _ => exact nos h
theorem from_inv {x y d : D} (h : fromD x y = some d) : ∃ l i, x = .lst l ∧ y = .int i ∧ l.length ≤ 1000000 ∧ d = .lst (l.drop (cutAt i l.length)) := by
  cases x with
  | lst l => cases y with
    | int i => obtain ⟨h1, h2⟩ := of_ite h; exact ⟨l, i, rfl, rfl, of_decide_eq_true h1, h2.symm⟩
    | _ => exact nos h
  | _ => exact nos h
theorem e_upto (hE : SE1 c n lvl C) {x : Str} {xp p : Pos} {u : PySem.Expr} {a b : SE} (h1 : cE c.T n k (.Name x xp) = some a) (h2 : cE c.T n k u = some b) (he : evE C (.upto a b) σ = some d)
    (S : ES c s.heap W env k σ) (R : Rm lvl A) (hp : 0 < s.toks) (P : PostP c s W d Q) : wpAny (model c.prog c.w) A (eval (.Subscript (.Name x xp) (.Slice none (some u) none p) pos) env) Q E s := by
  obtain ⟨o, e1, he⟩ := bind_inv he
  first | (have hz := bind_inv he; obtain ⟨y, e2, e3⟩ := hz) | (have hz := map_inv he; obtain ⟨y, e2, e3⟩ := hz)
  obtain ⟨l, i, rfl, rfl, hl, rfl⟩ := upto_inv e3
  clear e3
  · · refine wpAny_Subscript_list_slice (hE k _ a σ env W s _ _ E A h1 e1 S R hp fun ov h' tk q rv hp' => ?_)
      refine wpAny_pure ?_
      refine hE k u b σ env W _ _ _ E A h2 e2 (S.keep q) R hp' fun iv h'' tk' q' ru hp'' => ?_
      cases rv with
      | lst hW ha hr =>
        rename_i ad vs
        cases ru
        have hlen := hr.length
        refine ⟨ad, vs.toArray, none, some i, rfl, (ha.at fun _ e => q' _ _ e).isList, ?_, .none, .int _ _, ?_⟩
        · rw [sizeLine_eq, List.size_toArray]; lia
        · rw [pick_upto]
          rw [← hlen] at P
          exact slice_post (s := s) (q.trans q') (S.keep (q.trans q')).lv ((hr.keep q').take _) hp'' P

theorem e_from (hE : SE1 c n lvl C) {x : Str} {xp p : Pos} {u : PySem.Expr} {a b : SE} (h1 : cE c.T n k (.Name x xp) = some a) (h2 : cE c.T n k u = some b) (he : evE C (.from_ a b) σ = some d)
    (S : ES c s.heap W env k σ) (R : Rm lvl A) (hp : 0 < s.toks) (P : PostP c s W d Q) : wpAny (model c.prog c.w) A (eval (.Subscript (.Name x xp) (.Slice (some u) none none p) pos) env) Q E s := by
  obtain ⟨o, e1, he⟩ := bind_inv he
  first | (have hz := bind_inv he; obtain ⟨y, e2, e3⟩ := hz) | (have hz := map_inv he; obtain ⟨y, e2, e3⟩ := hz)
  obtain ⟨l, i, rfl, rfl, hl, rfl⟩ := from_inv e3
  clear e3
  · · refine wpAny_Subscript_list_slice (hE k _ a σ env W s _ _ E A h1 e1 S R hp fun ov h' tk q rv hp' => ?_)
      refine hE k u b σ env W _ _ _ E A h2 e2 (S.keep q) R hp' fun iv h'' tk' q' ru hp'' => ?_
      refine wpAny_pure ?_
      cases rv with
      | lst hW ha hr =>
        rename_i ad vs
        cases ru
        have hlen := hr.length
        refine ⟨ad, vs.toArray, some i, none, rfl, (ha.at fun _ e => q' _ _ e).isList, ?_, .int _ _, .none, ?_⟩
        · rw [sizeLine_eq, List.size_toArray]; lia
        · rw [pick_from]
          rw [← hlen] at P
          exact slice_post (s := s) (q.trans q') (S.keep (q.trans q')).lv ((hr.keep q').drop _) hp'' P

theorem getL_hit {e0 : DictEntry} {es : List DictEntry} {x : Str} {t : Tok} (ek : e0.key = .str x t) : getL x (e0 :: es) = some (some e0.val) := by
  have : e0.key.isStr x = true := by rw [ek]; show (x == x) = true; simp
  unfold getL
  rw [List.find?_cons, this]
theorem getL_skip {e0 : DictEntry} {es : List DictEntry} {x y : Str} {t : Tok} (ek : e0.key = .str y t) (hne : y ≠ x) : getL x (e0 :: es) = getL x es := by
  have : e0.key.isStr x = false := by rw [ek]; show (y == x) = false; simpa using hne
  unfold getL
  rw [List.find?_cons, this]
  have hr : e0.refKey = false := by unfold DictEntry.refKey; rw [ek]
  simp only [List.any_cons, hr, Bool.false_or]
theorem getL_of (hn : c.T.nl.Nodup) {x : Str} {i : Nat} (hx : c.T.nl[i]? = some x) : ∀ {es : List DictEntry} {ks : List Nat} {ds : List D} {d : D} {h : Heap}, KeysAre c es ks → Reps c h W (es.map (·.val)) ds → lookA ks ds i = some d →
    ∃ v, getL x es = some (some v) ∧ Rep c h W v d
  | [], ks, ds, d, h, hk, hr, e => by cases hr; cases ks <;> simp [lookA] at e
  | e0 :: es, [], ds, d, h, hk, hr, e => hk.elim
  | e0 :: es, k0 :: ks, _, d, h, hk, .cons (d := d0) (ds := ds) h0 hr, e => by
    obtain ⟨⟨y, t, ek, ey⟩, hk⟩ := hk
    simp only [lookA] at e
    split at e
    · rename_i hk0
      simp only [Option.some.injEq] at e; subst e
      have : k0 = i := by simpa using hk0
      subst this
      rw [hx] at ey; cases ey
      exact ⟨e0.val, getL_hit ek, h0⟩
    · rename_i hk0
      obtain ⟨v, h1, h2⟩ := getL_of hn hx hk hr e
      exact ⟨v, by rw [getL_skip ek fun exy => hk0 (by subst exy; simpa using nl_inj hn ey hx)]; exact h1, h2⟩
theorem getL_no (hn : c.T.nl.Nodup) {x : Str} {i : Nat} (hx : c.T.nl[i]? = some x) : ∀ {es : List DictEntry} {ks : List Nat}, KeysAre c es ks → ks.contains i = false → getL x es = some none
  | [], ks, hk, e => rfl
  | e0 :: es, [], hk, e => hk.elim
  | e0 :: es, k0 :: ks, hk, e => by
    obtain ⟨⟨y, t, ek, ey⟩, hk⟩ := hk
    simp only [List.contains_cons, Bool.or_eq_false_iff] at e
    have hne : y ≠ x := by
      intro exy; subst exy
      have := nl_inj hn ey hx
      simp [this] at e
    rw [getL_skip ek hne]
    exact getL_no hn hx hk e.2

theorem handed {h : Heap} {v : Value} (r : Rep c h W v d) : handedIn v = true := by cases r <;> rfl

theorem abase {o : PySem.Expr} {a : Str} {t : Sem Value} (h : ∀ x p q, o = .Call (.Name x p) [] [] q → (x != ("super" : Str)) = true) : attributeBase o a env t = t := by
  cases o with
  | Call f as ks q => cases f with
    | Name x p => cases as with
      | nil => cases ks with
        | nil => exact if_pos (by rw [h x p q rfl]; rfl)
        | cons => rfl
      | cons => rfl
    | _ => rfl
  | _ => rfl

theorem attr_inv {x d : D} {i : Nat} (h : attrD x i = some d) : ∃ ks ds, x = .inst ks ds ∧ lookA ks ds i = some d := by
  cases x with
  | inst ks ds => exact ⟨ks, ds, rfl, h⟩
  | _ => exact nos h
theorem e_attr (K : c.Ok) (hB : SB1 c n lvl C) {o : PySem.Expr} {x : Str} {a : SE} {i : Nat} (hx : c.T.ats.contains x = true) (hb : ∀ x p q, o = .Call (.Name x p) [] [] q → (x != ("super" : Str)) = true)
    (h1 : cB c.T n k o = some a) (hi : c.T.ix x = some i) (he : evE C (.attr a i) σ = some d)
    (S : ES c s.heap W env k σ) (R : Rm lvl A) (hp : 0 < s.toks) (P : PostP c s W d Q) : wpAny (model c.prog c.w) A (eval (.Attribute o x pos) env) Q E s := by
  first | (have hz := bind_inv he; obtain ⟨u, e1, e2⟩ := hz) | (have hz := map_inv he; obtain ⟨u, e1, e2⟩ := hz)
  obtain ⟨ks, ds, rfl, e2⟩ := attr_inv e2
  · refine Attribute_any_ (hB k o a σ env W s _ _ E A h1 e1 S R hp fun ov h' tk q rv hp' => ?_) (by rw [arm_eval_Attribute, abase hb])
    have get : ∃ xa dx es m, ov = .ref xa ∧ h'.get? xa = some (instObj c.C dx) ∧ h'.get? dx = some (dictOf es m) ∧ KeysAre c es ks ∧ Reps c h' W (es.map (·.val)) ds := by
      cases rv with
      | rep r => cases r with | inst hx hdx ho hd hk hr => exact ⟨_, _, _, _, rfl, ho, hd, hk, hr⟩
      | inst ho hd hk hr => exact ⟨_, _, _, _, rfl, ho, hd, hk, hr⟩
    obtain ⟨xa, dx, es, m, rfl, ho, hd, hk, hr⟩ := get
    obtain ⟨v, g1, g2⟩ := getL_of K.inj (ix_get hi) hk hr e2
    exact K.attr x hx xa dx es m v (S.base.trans q) ho hd g1 (handed g2) (P v h' (tk + 1) q g2 (Nat.succ_pos _))

theorem cat_str {m : Nat} {d : D} (h : catD m = some d) : ∃ l, d = .str l := by
  replace h : (if (m == 6) = true then some (D.str [32]) else if (m == 7) = true then some (.str [9]) else none) = some d := h
  revert h
  cases m == 6 with
  | true => exact fun h => ⟨_, (Option.some.inj h).symm⟩
  | false => cases m == 7 with
    | true => exact fun h => ⟨_, (Option.some.inj h).symm⟩
    | false => exact fun h => nos h
theorem e_cat (K : c.Ok) {x a : Str} {xp : Pos} {m : Nat} (hg : isGlob k x = true) (hc : c.T.gl.lookup x = some .cls) {i : Nat} (hi : c.T.ix x = some i) (ha : catOf a = some m) (hd : (x == ("__debug__" : Str)) = false) (he : evE C (.cat m) σ = some d)
    (S : ES c s.heap W env k σ) (hp : 0 < s.toks) (P : PostP c s W d Q) : wpAny (model c.prog c.w) A (eval (.Attribute (.Name x xp) a pos) env) Q E s := by
  replace he : catD m = some d := he
  refine Attribute_Name_ (glob_sound K S hg (v := .ref c.C) (by rw [K.callee x i (.inr hc) hi, K.clsC x i hc hi]) hd ?_) (by rw [arm_eval_Attribute, abase (o := .Name x xp) (fun _ _ _ e => by cases e)])
  refine PostP.use (c := c) (W := W) (d := d) hp P fun E' Q' P' => K.cat a m d ha he S.base fun v tk r => ?_
  obtain ⟨l, rfl⟩ := cat_str he
  obtain ⟨x, t, rfl, rfl⟩ := r.strI
  exact P' _ s.heap tk (Keep.refl _) (.str x t _ rfl)
end
end Mv
end
section
open PySem PySem.W PyProof.Rows
set_option Elab.async false
namespace Mv
section
variable {c : Cx} {n lvl : Nat} {C : Nat → List D → Option D} {A : Around} {E : Value → Shared → Prop} {s : Shared} {W : Addr → Prop} {env : Env} {k : Kinds} {σ : Env1} {Q : Value → Shared → Prop} {d : D} {pos : Pos}

theorem args_sound (hL : SL1 c n lvl C) {f : Value} {es : List PySem.Expr} {ses : List SE} {ds : List D} {Q : Args → Shared → Prop} (h1 : cEs c.T n k es = some ses) (he : evEs C ses σ = some ds)
    (S : ES c s.heap W env k σ) (R : Rm lvl A) (hp : 0 < s.toks) (P : ∀ vs h' tk, Keep s.heap h' → Reps c h' W vs ds → 0 < tk → Q ⟨vs, []⟩ { s with heap := h', toks := tk }) :
    wpAny (model c.prog c.w) A (evalArgs f true (backTo pos (starEach es env)) []) Q E s := by
  cases es with
  | nil =>
    cases n with
    | zero => simp [cEs] at h1
    | succ n =>
      simp only [cEs, Option.some.injEq] at h1; subst h1
      simp only [evEs, Option.some.injEq] at he; subst he
      exact evalArgs_nil3 (P [] s.heap s.toks (Keep.refl _) .nil hp)
  | cons e r =>
    have h1' := h1
    have hx : ∃ m a, cE c.T m k e = some a := by
      cases n with
      | zero => simp [cEs] at h1
      | succ n =>
        first | (have hz := bind_inv h1; obtain ⟨a, h2, _⟩ := hz) | (have hz := map_inv h1; obtain ⟨a, h2, _⟩ := hz)
        exact ⟨n, a, h2⟩
    obtain ⟨m, a, h2⟩ := hx
    have st := hL k (e :: r) ses σ env W s ds pos (fun vs s' => Q ⟨vs, []⟩ s') E A h1 he S R hp P
    rw [starEach_cons h2] at st ⊢
    exact Calls.evalArgs_plain st

theorem call_contract {a : Addr} {vs : List Value} {ds : List D} (Kt : Contract c lvl a ds d) (R : Rm lvl A) (hb : Keep c.hb s.heap) (L : Live s.heap W) (rs : Reps c s.heap W vs ds) (hp : 0 < s.toks) (P : PostP c s W d Q) :
    wpAny (model c.prog c.w) A (call (.ref a) vs) Q E s := by
  refine wpAny_call (codeAny_mono (Kt A s W vs R hb L rs hp) fun r s' h => ?_)
  obtain ⟨v, h', tk, rfl, rfl, q, r, hp'⟩ := h
  exact P v h' tk q r hp'

theorem e_call (K : c.Ok) (O : OracleOk c lvl C) (hL : SL1 c n lvl C) {f : Str} {fp : Pos} {es : List PySem.Expr} {ses : List SE} {i : Nat} (hg : isGlob k f = true) (hf : c.T.gl.lookup f = some .fn ∨ c.T.gl.lookup f = some .cls) (hi : c.T.ix f = some i)
    (hd : (f == ("__debug__" : Str)) = false) (h1 : cEs c.T n k es = some ses) (he : evE C (.call i ses) σ = some d)
    (S : ES c s.heap W env k σ) (R : Rm lvl A) (hp : 0 < s.toks) (P : PostP c s W d Q) : wpAny (model c.prog c.w) A (eval (.Call (.Name f fp) es [] pos) env) Q E s := by
  first | (have hz := bind_inv he; obtain ⟨ds, e1, e2⟩ := hz) | (have hz := map_inv he; obtain ⟨ds, e1, e2⟩ := hz)
  refine Call_ (glob_sound K S hg (K.callee f i hf hi) hd ?_)
  refine callWith_of (P := fun h => Keep c.hb h) (by rw [star_plain h1]; rfl) (fun h hk => K.keep f i (hf.elim .inl fun x => .inr (.inl x)) hi _ h hk) ?_
  refine args_sound hL h1 e1 S R hp fun vs h' tk q rs hp' => ⟨S.base.trans q, ?_⟩
  exact call_contract (O _ _ _ e2) R (S.base.trans q) (S.keep q).lv rs hp' (P.mono q)

theorem e_bf (K : c.Ok) (hL : SL1 c n lvl C) {f : Str} {fp : Pos} {b : Bf} {es : List PySem.Expr} {ses : List SE} (hg : isGlob k f = true) (hf : c.T.gl.lookup f = some (.bf b)) (hb : b ≠ .len)
    (hd : (f == ("__debug__" : Str)) = false) (h1 : cEs c.T n k es = some ses) (he : evE C (.bf b ses) σ = some d)
    (S : ES c s.heap W env k σ) (R : Rm lvl A) (hp : 0 < s.toks) (P : PostP c s W d Q) : wpAny (model c.prog c.w) A (eval (.Call (.Name f fp) es [] pos) env) Q E s := by
  first | (have hz := bind_inv he; obtain ⟨ds, e1, e2⟩ := hz) | (have hz := map_inv he; obtain ⟨ds, e1, e2⟩ := hz)
  have hv : c.mg f = none ∧ c.mb f = some (bfName b) := K.bf f b hf
  refine Call_ (bltn_sound K S hg hv.1 hv.2 hd ?_)
  have key : ∀ {f : Value}, f = bfName b → wpAny (model c.prog c.w) A (evalArgs f true (backTo pos (starEach es env)) []) (fun a s₁ => wpAny (model c.prog c.w) A (call f ([] ++ a.pos) a.kw) Q E s₁) E s := by
    intro f hf
    subst hf
    refine args_sound hL h1 e1 S R hp fun vs h' tk q rs hp' => ?_
    exact PostP.use (c := c) (W := W) (d := d) hp' (P.mono q) fun E' Q' P' => bf_sound R.hh e2 hb rs (S.keep q).lv P'
  cases b with
  | int => exact PySem.callWith_type (star_plain h1) (key rfl)
  | tuple => exact PySem.callWith_type (star_plain h1) (key rfl)
  | _ => exact Calls.callWith_builtin (star_plain h1) (key rfl)

theorem e_len (K : c.Ok) (hB : SB1 c n lvl C) {f : Str} {fp : Pos} {e : PySem.Expr} {se : SE} (hg : isGlob k f = true) (hf : c.T.gl.lookup f = some (.bf .len))
    (hd : (f == ("__debug__" : Str)) = false) (hst : starEach [e] env = [(false, eval e env)]) (h1 : cB c.T n k e = some se) (he : evE C (.bf .len [se]) σ = some d)
    (S : ES c s.heap W env k σ) (R : Rm lvl A) (hp : 0 < s.toks) (P : PostP c s W d Q) : wpAny (model c.prog c.w) A (eval (.Call (.Name f fp) [e] [] pos) env) Q E s := by
  obtain ⟨ds, he, e2⟩ := bind_inv he
  obtain ⟨x, e1, he⟩ := bind_inv he
  obtain ⟨r, e0, rfl⟩ := map_inv he
  cases e0
  have hv : c.mg f = none ∧ c.mb f = some (bfName .len) := K.bf f .len hf
  refine Call_ (bltn_sound K S hg hv.1 hv.2 hd ?_)
  rw [hst]
  refine Calls.callWith_builtin rfl (Calls.evalArgs_plain ?_)
  refine PySem.Calls.spliced_cons (hB k e se σ env W s x _ E A h1 e1 S R hp fun v h' tk q rv hp' => ?_)
  refine PySem.Calls.spliced_nil ?_
  exact PostP.use (c := c) (W := W) (d := d) hp' (P.mono q) fun E' Q' P' => len_sound e2 rv P'

theorem isGlob_debug {x : Str} (h : isGlob k x = true) : (x == ("__debug__" : Str)) = false := by
  unfold isGlob at h
  split at h
  · simpa using h
  · cases h

theorem mcall {o : PySem.Expr} {m : Str} {apos : Pos} {es : List PySem.Expr} (hpl : (backTo pos (starEach es env)).any (·.1) = false) (hl : es.length < 30) (hp : (apos.endLine == pos.line) = true)
    (hb : ∀ x p q, o = .Call (.Name x p) [] [] q → (x != ("super" : Str)) = true)
    (h : ∀ pl, wpAny (model c.prog c.w) A (eval o env) (fun ov s₁ => wpAny (model c.prog c.w) A (getMethod ov m pl) (fun fx s₂ => wpAny (model c.prog c.w) A (callWith pos fx.1 fx.2 (backTo pos (starEach es env)) []) Q E s₂) E s₁) E s) :
    wpAny (model c.prog c.w) A (eval (.Call (.Attribute o m apos) es [] pos) env) Q E s := by
  rw [arm_eval_Call, abase hb]
  have hform : methodCallForm (es.length + ([] : List Keyword).length) (backTo pos (starEach es env)) (backToKw pos (keywordEach [] env)) = true := by
    unfold methodCallForm
    have e1 : (backTo pos (starEach es env)).all (!·.1) = true := by
      rw [List.all_eq_not_any_not]
      simp only [Bool.not_not, hpl]; rfl
    rw [e1]
    show (true && true && decide (es.length + 0 + 0 < 30)) = true
    simpa using hl
  have hpos : ∀ o, methodCallPos true o env apos pos = pure pos := by intro o; unfold methodCallPos; simp [hp]
  refine wpAny_bind (wpAny_mono (h (do return (← importBound o env).getD true)) (fun ov s₁ h₁ => wpAny_bind (wpAny_standAt ?_)) fun _ _ e => e)
  unfold methodCall
  rw [hform]
  refine wpAny_bind (wpAny_holding (wpAny_mono h₁ (fun fx s₂ h₂ => ?_) fun _ _ e => e))
  exact wpAny_bind (wpAny_of_eq (hpos _) h₂)

theorem plain_noDict {a : Addr} {xs : Array Value} {h : Heap} (ha : h.PlainList a xs) : h.NoDictAt (.ref a) := by
  obtain ⟨n, e⟩ := ha
  exact ⟨_, e, rfl⟩

theorem if_or {α : Type} {b : Bool} {x y : Option α} {z : α} (h : (if b = true then x else y) = some z) : (b = true ∧ x = some z) ∨ y = some z := by
  cases b with
  | true => exact .inl ⟨rfl, h⟩
  | false => exact .inr h
noncomputable def bmName : Nat → Str
  | 0 => "index"
  | 1 => "count"
  | 2 => "join"
  | _ => "split"
theorem bm_inv {m : Str} {i : Nat} (h : bmOf m = some i) : m = bmName i := by
  rcases if_or h with ⟨h1, h2⟩ | h
  · cases h2; exact beq_iff_eq.mp h1
  · rcases if_or h with ⟨h1, h2⟩ | h
    · cases h2; exact beq_iff_eq.mp h1
    · rcases if_or h with ⟨h1, h2⟩ | h
      · cases h2; exact beq_iff_eq.mp h1
      · rcases if_or h with ⟨h1, h2⟩ | h
        · cases h2; exact beq_iff_eq.mp h1
        · exact nos h
inductive MethV : Nat → D → List D → D → Prop
  | index {l : List D} {x : D} {k : Nat} (h : decide (l.length ≤ 1000) = true) (e : indexD x l = some k) : MethV 0 (.lst l) [x] (.int k)
  | count {l : List D} {x : D} {k : Nat} (e : countD x l = some k) : MethV 1 (.lst l) [x] (.int k)
  | join {s : List Nat} {x : List D} {l : List (List Nat)} (e : strsOf x = some l) (h : (decide ((joinL s l).length ≤ 1000) && decide (l.length ≤ 1000) && decide (s.length ≤ 16)) = true) : MethV 2 (.str s) [.lst x] (.str (joinL s l))
  | split {s sep : List Nat} (h : (sep != [] && decide (s.length ≤ 10000) && decide ((Txt.split (strOf s) (strOf sep)).length ≤ 1000)) = true) : MethV 3 (.str s) [.str sep] (.lst ((Txt.split (strOf s) (strOf sep)).map fun (y : Str) => .str y.cps.toList))
theorem meth_lst {m : Nat} {l : List D} {x d : D} (h : methD m (.lst l) [x] = some d) : MethV m (.lst l) [x] d := by
  rcases if_or h with ⟨h1, h⟩ | h
  · cases beq_iff_eq.mp h1
    obtain ⟨h2, h⟩ := if_inv h
    obtain ⟨k, h3, rfl⟩ := map_inv h
    obtain ⟨kn, h5, h4⟩ := bind_inv h3
    cases Option.some.inj h4
    exact .index h2 h5
  · obtain ⟨h1, h⟩ := if_inv h
    cases beq_iff_eq.mp h1
    obtain ⟨k, h3, rfl⟩ := map_inv h
    obtain ⟨kn, h5, h4⟩ := bind_inv h3
    cases Option.some.inj h4
    exact .count h5
theorem meth_join {m : Nat} {s : List Nat} {x : List D} {d : D} (h : methD m (.str s) [.lst x] = some d) : MethV m (.str s) [.lst x] d := by
  obtain ⟨h1, h⟩ := if_inv h
  cases beq_iff_eq.mp h1
  obtain ⟨l, h2, h⟩ := bind_inv h
  obtain ⟨h3, rfl⟩ := of_ite h
  exact .join h2 h3
theorem meth_split {m : Nat} {s sep : List Nat} {d : D} (h : methD m (.str s) [.str sep] = some d) : MethV m (.str s) [.str sep] d := by
  obtain ⟨h1, rfl⟩ := of_ite h
  obtain ⟨h1, h4⟩ := and_inv h1
  obtain ⟨h1, h3⟩ := and_inv h1
  obtain ⟨h1, h2⟩ := and_inv h1
  cases beq_iff_eq.mp h1
  exact .split (by rw [h2, h3, h4]; rfl)
theorem meth_inv {m : Nat} {x : D} {ds : List D} {d : D} (h : methD m x ds = some d) : MethV m x ds d := by
  cases x with
  | lst l => match ds with
    | [y] => exact meth_lst h
    | [] => exact nos h
    | _ :: _ :: _ => exact nos h
  | str l => match ds with
    | [y] => cases y with
      | lst x => exact meth_join h
      | str x => exact meth_split h
      | _ => exact nos h
    | [] => exact nos h
    | y :: _ :: _ => cases y <;> exact nos h
  | _ => exact nos h

theorem Reps.one {h : Heap} {vs : List Value} {x : D} (r : Reps c h W vs [x]) : ∃ v, vs = [v] ∧ Rep c h W v x := by
  cases r with | cons h0 tl => cases tl; exact ⟨_, rfl, h0⟩

theorem strOf_cps (x : Str) : strOf x.cps.toList = x := by unfold strOf; simp
theorem sep_ne {x : Str} (h : (x.cps.toList != []) = true) : (x.length == 0) = false := by
  rw [beq_eq_false_iff_ne]
  exact fun h0 => bne_iff_ne.mp h (List.eq_nil_of_length_eq_zero (Array.length_toList.trans h0))
theorem e_meth (hE : SE1 c n lvl C) (hL : SL1 c n lvl C) {o : PySem.Expr} {m : Str} {i : Nat} {apos : Pos} {a : SE} {es : List PySem.Expr} {ses : List SE} (hl : es.length < 30) (hap : (apos.endLine == pos.line) = true)
    (hb : ∀ x p q, o = .Call (.Name x p) [] [] q → (x != ("super" : Str)) = true) (h0 : cE c.T n k o = some a) (hm : bmOf m = some i) (h1 : cEs c.T n k es = some ses) (he : evE C (.meth a i ses) σ = some d)
    (S : ES c s.heap W env k σ) (R : Rm lvl A) (hp : 0 < s.toks) (P : PostP c s W d Q) : wpAny (model c.prog c.w) A (eval (.Call (.Attribute o m apos) es [] pos) env) Q E s := by
  obtain ⟨ov, e1, he⟩ := bind_inv he
  first | (have hz := bind_inv he; obtain ⟨ds, e2, e3⟩ := hz) | (have hz := map_inv he; obtain ⟨ds, e2, e3⟩ := hz)
  refine mcall (star_plain h1) hl hap hb fun pl => ?_
  refine hE k o a σ env W s ov _ E A h0 e1 S R hp fun v h' tk q rv hp' => ?_
  have args : ∀ (id : String), (∀ vs h'' tk', Keep h' h'' → Reps c h'' W vs ds → 0 < tk' → PostP c { s with heap := h'', toks := tk' } W d Q → Live h'' W → wpAny (model c.prog c.w) A (call (.builtin id) (v :: vs)) Q E { s with heap := h'', toks := tk' }) →
      wpAny (model c.prog c.w) A (callWith pos (.builtin id) [v] (backTo pos (starEach es env)) []) Q E { s with heap := h', toks := tk } := by
    intro id hh
    refine Calls.callWith_builtin (star_plain h1) ?_
    refine args_sound hL h1 e2 (S.keep q) R hp' fun vs h'' tk' q' rs hp'' => ?_
    exact hh vs h'' tk' q' rs hp'' (P.mono (q.trans q')) (S.keep (q.trans q')).live
  clear h1 h0 e1 e2 hl hap hb he hE hL S
  cases meth_inv e3 with
  | index hll e =>
    obtain ⟨ad, us, rfl, hW, ha, hr⟩ := rv.lstI
    obtain rfl : m = ("index" : Str) := bm_inv hm
    refine getMethod_list_of PySem.F.slot_list_index PySem.F.type_list_index ha.isList (plain_noDict ha) ?_
    refine args _ fun vs h'' tk' q' rs hp'' P L => ?_
    obtain ⟨u, rfl, ru⟩ := rs.one
    exact PostP.use (c := c) (W := W) hp'' P fun E' Q' P' => index_sound (ha.at fun _ e => q' _ _ e) (hr.keep q') ru e (of_decide_eq_true hll) P'
  | count e =>
    obtain ⟨ad, us, rfl, hW, ha, hr⟩ := rv.lstI
    obtain rfl : m = ("count" : Str) := bm_inv hm
    refine getMethod_list_of PySem.F.slot_list_count PySem.F.type_list_count ha.isList (plain_noDict ha) ?_
    refine args _ fun vs h'' tk' q' rs hp'' P L => ?_
    obtain ⟨u, rfl, ru⟩ := rs.one
    exact PostP.use (c := c) (W := W) hp'' P fun E' Q' P' => count_sound (ha.at fun _ e => q' _ _ e) (hr.keep q') ru e P'
  | join e hc =>
    obtain ⟨st, t, rfl, rfl⟩ := rv.strI
    obtain rfl : m = ("join" : Str) := bm_inv hm
    with_reducible refine GM.join ?_
    refine args _ fun vs h'' tk' q' rs hp'' P L => ?_
    obtain ⟨u, rfl, ru⟩ := rs.one
    obtain ⟨ad, us, rfl, hW, ha, hr⟩ := ru.lstI
    obtain ⟨hc, h3⟩ := and_inv hc
    obtain ⟨h1, h2⟩ := and_inv hc
    exact PostP.use (c := c) (W := W) hp'' P fun E' Q' P' => join_sound ha hr e (of_decide_eq_true h1) (of_decide_eq_true h2) (of_decide_eq_true h3) P'
  | split hc =>
    obtain ⟨st, t, rfl, rfl⟩ := rv.strI
    obtain rfl : m = ("split" : Str) := bm_inv hm
    with_reducible refine GM.split ?_
    refine args _ fun vs h'' tk' q' rs hp'' P L => ?_
    obtain ⟨u, rfl, ru⟩ := rs.one
    obtain ⟨sp, t', rfl, rfl⟩ := ru.strI
    rw [strOf_cps, strOf_cps] at hc P
    obtain ⟨hc, h3⟩ := and_inv hc
    obtain ⟨h1, h2⟩ := and_inv hc
    exact PostP.use (c := c) (W := W) hp'' P fun E' Q' P' => split_sound (sep_ne h1) (Nat.le_trans (Nat.le_of_eq Array.length_toList.symm) (of_decide_eq_true h2)) (of_decide_eq_true h3) L P'

theorem umeth_inv {C : Nat → List D → Option D} {m : Nat} {x d : D} {ds : List D} (h : umethD C m x ds = some d) : ∃ ks vs, x = .inst ks vs ∧ ks.contains m = false ∧ C m (.inst ks vs :: ds) = some d := by
  cases x with
  | inst ks vs => obtain ⟨h1, h2⟩ := if_inv' h; exact ⟨ks, vs, rfl, h1, h2⟩
  | _ => exact nos h
theorem e_umeth (K : c.Ok) (O : OracleOk c lvl C) (hE : SE1 c n lvl C) (hL : SL1 c n lvl C) {o : PySem.Expr} {m : Str} {i : Nat} {apos : Pos} {a : SE} {es : List PySem.Expr} {ses : List SE} (hl : es.length < 30) (hap : (apos.endLine == pos.line) = true)
    (hb : ∀ x p q, o = .Call (.Name x p) [] [] q → (x != ("super" : Str)) = true) (h0 : cE c.T n k o = some a) (hm : c.T.ms.contains m = true) (hi : c.T.ix m = some i) (h1 : cEs c.T n k es = some ses) (he : evE C (.umeth a i ses) σ = some d)
    (S : ES c s.heap W env k σ) (R : Rm lvl A) (hp : 0 < s.toks) (P : PostP c s W d Q) : wpAny (model c.prog c.w) A (eval (.Call (.Attribute o m apos) es [] pos) env) Q E s := by
  obtain ⟨ov, e1, he⟩ := bind_inv he
  first | (have hz := bind_inv he; obtain ⟨ds, e2, e3⟩ := hz) | (have hz := map_inv he; obtain ⟨ds, e2, e3⟩ := hz)
  refine mcall (star_plain h1) hl hap hb fun pl => ?_
  refine hE k o a σ env W s ov _ E A h0 e1 S R hp fun v h' tk q rv hp' => ?_
  obtain ⟨ks, vs0, rfl, hnc, e3⟩ := umeth_inv e3
  have rv0 := rv
  obtain ⟨x, dx, es', n', rfl, ho, hd, hk, hr⟩ := (BRep.rep rv).instI
  · · · refine K.meth m i hm hi x dx es' n' (S.base.trans q) ho hd (getL_no K.inj (ix_get hi) hk hnc) ?_
        refine callWith_of (P := fun h => Keep c.hb h) (by rw [star_plain h1]; rfl) (fun h hk => K.keep m i (.inr (.inr hm)) hi _ h hk) ?_
        refine args_sound hL h1 e2 (S.keep q) R hp' fun vs h'' tk' q' rs hp'' => ⟨S.base.trans (q.trans q'), ?_⟩
        exact call_contract (O _ _ _ e3) R (S.base.trans (q.trans q')) (S.keep (q.trans q')).lv (.cons (rv0.keep q') rs) hp'' (P.mono (q.trans q'))

theorem e_flag (K : c.Ok) (hE : SE1 c n lvl C) {f : Str} {fp apos : Pos} {x y : PySem.Expr} {a b : SE} (hap : (apos.endLine == pos.line) = true) (hg : isGlob k f = true) (hf : c.T.gl.lookup f = some .flags)
    (h1 : cE c.T n k x = some a) (h2 : cE c.T n k y = some b) (he : evE C (.getFlag a b) σ = some d)
    (S : ES c s.heap W env k σ) (R : Rm lvl A) (hp : 0 < s.toks) (P : PostP c s W d Q) : wpAny (model c.prog c.w) A (eval (.Call (.Attribute (.Name f fp) ("get" : Str) apos) [x, y] [] pos) env) Q E s := by
  obtain ⟨u, e1, he⟩ := bind_inv he
  first | (have hz := bind_inv he; obtain ⟨v, e2, e3⟩ := hz) | (have hz := map_inv he; obtain ⟨v, e2, e3⟩ := hz)
  have hst : starEach [x, y] env = [(false, eval x env), (false, eval y env)] := by rw [starEach_cons h1, starEach_cons h2]; rfl
  refine mcall (by rw [hst]; rfl) (by simp) hap (o := .Name f fp) (fun _ _ _ e => by cases e) fun pl => ?_
  refine glob_sound K S hg (K.fl f hf) (isGlob_debug hg) ?_
  obtain ⟨fm, hfm, _⟩ := K.flm
  obtain ⟨_, o, ho, hod⟩ := K.flo
  have ht : s.TypeIs (.ref c.fl) "dict" := Heap.MapOf.typeIs (knd := PySem.intKind c.prog c.w) (f := fm) (let ⟨o, es, ep, e, r⟩ := hfm; ⟨o, es, ep, S.base _ _ e, r⟩)
  refine getMethod_builtin ht PySem.F.plainAttrs_dict PySem.F.slot_dict_get PySem.F.type_dict_get (fun a e => by cases e; exact ⟨o, S.base _ _ ho, hod⟩) ?_
  rw [hst]
  refine Calls.callWith_builtin rfl (Calls.evalArgs_plain ?_)
  refine PySem.Calls.spliced_cons (hE k x a σ env W s u _ E A h1 e1 S R hp fun xv h' tk q rv hp' => ?_)
  refine PySem.Calls.spliced_cons (hE k y b σ env W _ v _ E A h2 e2 (S.keep q) R hp' fun yv h'' tk' q' ru hp'' => ?_)
  refine PySem.Calls.spliced_nil ?_
  exact PostP.use (c := c) (W := W) (d := d) hp'' (P.mono (q.trans q')) fun E' Q' P' => getFlag_sound (K := K) (S.base.trans (q.trans q')) e3 (rv.keep q') ru P'
end
end Mv
end
section
open PySem PySem.W PyProof.Rows
set_option Elab.async false
namespace Mv

noncomputable def entAddr (c : Cx) (h : Heap) : Value → Ent → Addr → Prop
  | .ref a, .own _ => fun b => b = a
  | .ref a, .ownT _ _ => fun b => b = a
  | .ref x, .ownI _ _ => fun b => b = x ∨ ∃ dx, h.get? x = some (instObj c.C dx) ∧ b = dx
  | _, _ => fun _ => False

theorem entAddr_frz {c : Cx} {h : Heap} {v : Value} {d : D} {b : Addr} : ¬ entAddr c h v (.frz d) b := by cases v <;> exact id

noncomputable def ButL (L : Addr → Prop) (h h' : Heap) : Prop := ∀ b o, ¬ L b → h.get? b = some o → h'.get? b = some o
theorem ButL.trans {L : Addr → Prop} {h h' h'' : Heap} (a : ButL L h h') (b : ButL L h' h'') : ButL L h h'' := fun x o n e => b x o n (a x o n e)
theorem ButL.refl (L : Addr → Prop) (h : Heap) : ButL L h h := fun _ _ _ e => e
theorem Keep.but {L : Addr → Prop} {h h' : Heap} (k : Keep h h') : ButL L h h' := fun b o _ e => k b o e
theorem ButL.mono {L L' : Addr → Prop} {h h' : Heap} (a : ButL L h h') (x : ∀ b, L b → L' b) : ButL L' h h' := fun b o n e => a b o (fun y => n (x b y)) e
theorem ButL.keep {L : Addr → Prop} {h₁ h h' : Heap} (a : ButL L h h') (n : ∀ b, L b → h₁.get? b = none) (k : Keep h₁ h) : Keep h₁ h' := fun b o e => a b o (fun x => by rw [n b x] at e; cases e) (k b o e)

section
variable {c : Cx} {h h' : Heap} {W : Addr → Prop} {L : Addr → Prop}
theorem Rep.but (hb : ButL L h h') (hw : ∀ b, L b → W b) {v : Value} {d : D} (r : Rep c h W v d) : Rep c h' W v d := r.mono fun a o n e => ⟨hb a o (fun x => n (hw a x)) e, n⟩
theorem Reps.but (hb : ButL L h h') (hw : ∀ b, L b → W b) {v : List Value} {d : List D} (r : Reps c h W v d) : Reps c h' W v d := r.mono fun a o n e => ⟨hb a o (fun x => n (hw a x)) e, n⟩
theorem EntRel.but (hb : ButL L h h') (hw : ∀ b, L b → W b) {v : Value} {t : Ent} (r : EntRel c h W v t) (hoff : ∀ b, L b → ¬ entAddr c h v t b) : EntRel c h' W v t ∧ ∀ b, entAddr c h' v t b → entAddr c h v t b := by
  cases r with
  | frz r => exact ⟨.frz (r.but hb hw), fun b x => (entAddr_frz x).elim⟩
  | own hW ha hr => exact ⟨.own hW (ha.at fun o e => hb _ o (fun x => hoff _ x rfl) e) (hr.but hb hw), fun b x => x⟩
  | ownT hW hd hk hr => exact ⟨.ownT hW (hd.at fun o e => hb _ o (fun x => hoff _ x rfl) e) hk (hr.but hb hw), fun b x => x⟩
  | ownI hx hdx ho hd hk hr =>
    have e1 := hb _ _ (fun x => hoff _ x (.inl rfl)) ho
    have e2 := hb _ _ (fun x => hoff _ x (.inr ⟨_, ho, rfl⟩)) hd
    refine ⟨.ownI hx hdx e1 e2 hk (hr.but hb hw), fun b x => ?_⟩
    rcases x with rfl | ⟨dx, e, rfl⟩
    · exact .inl rfl
    · rw [e1] at e
      have := congrArg Obj.dict (Option.some.inj e)
      exact .inr ⟨_, ho, (Option.some.inj this).symm⟩
theorem EntRel.mono' {W' : Addr → Prop} (hs : Sub h W h' W') (hw : ∀ a o, W a → h.get? a = some o → h'.get? a = some o ∧ W' a) {v : Value} {t : Ent} (r : EntRel c h W v t) : EntRel c h' W' v t := by
  cases r with
  | frz r => exact .frz (r.mono hs)
  | own hW ha hr =>
    obtain ⟨n, e⟩ := id ha
    exact .own (hw _ _ hW e).2 (ha.at fun o e => (hw _ o hW e).1) (hr.mono hs)
  | ownT hW hd hk hr =>
    obtain ⟨o, es, ep, e, _⟩ := id hd
    exact .ownT (hw _ _ hW e).2 (hd.at fun o e => (hw _ o hW e).1) hk (hr.mono hs)
  | ownI hx hdx ho hd hk hr => exact .ownI (hw _ _ hx ho).2 (hw _ _ hdx hd).2 (hw _ _ hx ho).1 (hw _ _ hdx hd).1 hk (hr.mono hs)

theorem VarAt.but {env : Env} {x : Str} {v : Value} (hb : ButL L h h') (hl : ¬ L env.locals) (hc : ∀ a, env.cells.lookup x = some a → ¬ L a) (V : VarAt h env x v) : VarAt h' env x v := by
  cases V with
  | loc m hk hn hv => exact .loc m hk (hn.at' fun o e => hb _ o hl e) hv
  | cell q hk hc' a hl' hi => exact .cell q hk hc' a hl' (let ⟨o, e, r⟩ := hi; ⟨o, hb _ o (hc a hl') e, r⟩)
theorem FrOk.but {env : Env} (hb : ButL L h h') (hl : ¬ L env.locals) (hc : ∀ x a, env.cells.lookup x = some a → ¬ L a) (F : FrOk h env) : FrOk h' env where
  ns := let ⟨m, e⟩ := F.ns; ⟨m, e.at' fun o e => hb _ o hl e⟩
  fk := F.fk
  cinj := F.cinj
  coff := F.coff
  cell := fun x e => let ⟨a, v, e1, o, e2, e3⟩ := F.cell x e; ⟨a, v, e1, o, hb _ o (hc x a e1) e2, e3⟩
end

theorem VarAt.isVar {h : Heap} {env : Env} {k : Kinds} {x : Str} {v : Value} (V : VarAt h env x v) (ks : env.scope.names = k) : isVar k x = true := by
  subst ks
  cases V with
  | loc m hk hn hv => unfold Env.kindOf at hk; unfold Mv.isVar; rw [hk]
  | cell q hk hc a hl hi => unfold Env.kindOf at hk; unfold Mv.isVar; rw [hk]; rcases hc with rfl | rfl <;> rfl

structure CI (c : Cx) (h : Heap) (W : Addr → Prop) (L : Addr → Prop) (env : Env) (k : Kinds) (σ : Env1) : Prop where
  es : ES c h W env k σ
  fr : FrOk h env
  off : ∀ n x t v, c.T.nl[n]? = some x → look σ n = some t → VarAt h env x v → ∀ b, L b → ¬ entAddr c h v t b

theorem CI.but {c : Cx} {h h' : Heap} {W L L' : Addr → Prop} {env : Env} {k : Kinds} {σ : Env1} (I : CI c h W L env k σ) (hb : ButL L' h h') (hw : ∀ b, L' b → W b) (hL : ∀ b, L' b → L b) (hl : ¬ L' env.locals)
    (hc : ∀ x a, env.cells.lookup x = some a → ¬ L' a) (hbase : Keep c.hb h') (hlive : ∀ a, L' a → ∃ o, h'.get? a = some o) : CI c h' W L env k σ := by
  have key : ∀ n x t, c.T.nl[n]? = some x → look σ n = some t → isVar k x = true → ∃ v, VarAt h' env x v ∧ EntRel c h' W v t ∧ ∀ b, L b → ¬ entAddr c h' v t b := by
    intro n x t e1 e2 e3
    obtain ⟨v, V, r⟩ := I.es.vars n x t e1 e2 e3
    have o := I.off n x t v e1 e2 V
    have b := r.but hb hw fun b x => o b (hL b x)
    exact ⟨v, V.but hb hl (hc x), b.1, fun z hz q => o z hz (b.2 z q)⟩
  refine ⟨⟨hbase, fun a ha => ?_, I.es.fk, I.es.gl, I.es.bl, I.es.ks, I.es.cells, I.es.cinj, fun x a e => ?_, fun n x t e1 e2 e3 => ?_⟩, I.fr.but hb hl hc, fun n x t v e1 e2 V => ?_⟩
  · by_cases hL' : L' a
    · exact hlive a hL'
    · obtain ⟨o, e⟩ := I.es.live a ha
      exact ⟨o, hb a o hL' e⟩
  · obtain ⟨v, o, ho, r⟩ := I.es.clive x a e
    exact ⟨v, o, hb a o (hc x a e) ho, r⟩
  · obtain ⟨v, V, r, _⟩ := key n x t e1 e2 e3
    exact ⟨v, V, r⟩
  · obtain ⟨v', V', _, o⟩ := key n x t e1 e2 (V.isVar I.es.ks)
    rw [V.uniq V']; exact o
end Mv
end
section
open PySem PySem.W PyProof.Rows
set_option Elab.async false
namespace Mv

noncomputable def rem (xs : List Nat) (σ : Env1) : Env1 := σ.filter fun p => !xs.contains p.1
theorem look_cons (n y : Nat) (f : Ent) (r : Env1) : look ((y, f) :: r) n = if n = y then some f else look r n := by
  unfold look
  rw [List.lookup_cons]
  by_cases hn : n = y
  · subst hn; simp
  · have hb : (n == y) = false := by simpa using hn
    rw [hb, if_neg hn]
theorem look_rem (xs : List Nat) (n : Nat) : ∀ σ : Env1, look (rem xs σ) n = if xs.contains n then none else look σ n
  | [] => by simp [look, rem]
  | (y, e) :: r => by
    have ih := look_rem xs n r
    rw [look_cons]
    have hs : rem xs ((y, e) :: r) = if xs.contains y then rem xs r else (y, e) :: rem xs r := by
      unfold rem
      rw [List.filter_cons]
      cases xs.contains y <;> rfl
    rw [hs]
    by_cases hn : n = y
    · subst hn
      cases hx : xs.contains n with
      | true => rw [hx] at ih; simpa using ih
      | false => rw [if_neg (by simp), look_cons]; simp
    · rw [if_neg hn]
      split
      · exact ih
      · rw [look_cons, if_neg hn]; exact ih
theorem look_upd (n x : Nat) (e : Ent) : ∀ σ : Env1, look (upd σ x e) n = if n = x then some e else look σ n
  | [] => by
    show look [(x, e)] n = _
    rw [look_cons]
  | (y, f) :: r => by
    have ih := look_upd n x e r
    have hs : upd ((y, f) :: r) x e = if y == x then (y, e) :: r else (y, f) :: upd r x e := rfl
    rw [hs, look_cons]
    by_cases hyx : y = x
    · subst hyx
      rw [if_pos (by simp), look_cons]
      split <;> rfl
    · rw [if_neg (by simpa using hyx), look_cons]
      by_cases hn : n = y
      · subst hn; rw [if_pos rfl, if_pos rfl, if_neg hyx]
      · rw [if_neg hn, if_neg hn]; exact ih

theorem ix_of_get {T : Tb} (hn : T.nl.Nodup) {x : Str} {i : Nat} (e : T.nl[i]? = some x) : T.ix x = some i := by
  unfold Tb.ix
  cases hf : T.nl.findIdx? (· == x) with
  | none =>
    rw [List.findIdx?_eq_none_iff] at hf
    obtain ⟨hi, he⟩ := List.getElem?_eq_some_iff.mp e
    have := hf x (by rw [← he]; exact List.getElem_mem hi)
    simp at this
  | some j =>
    have : T.nl[j]? = some x := ix_get (T := T) hf
    rw [nl_inj hn this e]

theorem relab_lookup (k : Kinds) (x : Str) : ∀ names : List (Str × NameKind), (relab k names).lookup x = (names.lookup x).map fun q => if (q == .free && k.lookup x == some .cell) then NameKind.cell else q
  | [] => rfl
  | (y, q) :: r => by
    have ih := relab_lookup k x r
    unfold relab at *
    rw [List.map_cons]
    by_cases hx : x = y
    · subst hx
      by_cases hq : q = .free
      · subst hq
        by_cases hc : k.lookup x = some .cell <;> simp [hc]
      · have : (q == NameKind.free) = false := by simpa using hq
        simp [this, hq]
    · have hb : (x == y) = false := by simpa using hx
      show List.lookup x ((if (q == NameKind.free && true && k.lookup y == some NameKind.cell) = true then (y, NameKind.cell) else (y, q)) :: _) = _
      have : List.lookup x ((y, q) :: r) = r.lookup x := by rw [List.lookup_cons, hb]
      rw [this, ← ih]
      split <;> rw [List.lookup_cons, hb]

theorem mem_lookup {α : Type} {x : Str} {a : α} : ∀ {l : List (Str × α)}, l.lookup x = some a → (x, a) ∈ l
  | (y, b) :: r, e => by
    rw [List.lookup_cons] at e
    split at e
    · rename_i h
      simp only [Option.some.injEq] at e; subst e
      rw [beq_iff_eq.mp h]; exact List.mem_cons_self
    · exact List.mem_cons_of_mem _ (mem_lookup e)

theorem namesOk_cell {names : List (Str × NameKind)} (h : namesOk names = true) {x : Str} (m : (x, NameKind.cell) ∈ names) : names.lookup x = some .cell := by
  unfold namesOk at h
  simp only [Bool.and_eq_true, List.all_eq_true] at h
  have := h.1.2 _ m
  simpa using this
theorem namesOk_local {names : List (Str × NameKind)} (h : namesOk names = true) : ∀ y ∈ names, y.2 = .local → names.lookup y.1 = some .local := by
  intro y m e
  unfold namesOk at h
  simp only [Bool.and_eq_true, List.all_eq_true] at h
  have := h.1.1 _ m
  simpa [e] using this
theorem freeOk_at {k : Kinds} {names : List (Str × NameKind)} (h : freeOk k names = true) : ∀ y ∈ names, y.2 = .free → k.lookup y.1 = some .cell ∨ k.lookup y.1 = some .free := by
  intro y m e
  unfold freeOk at h
  simp only [List.all_eq_true] at h
  have := h _ m
  simpa [e] using this
theorem ownOk_at {T : Tb} (hn : T.nl.Nodup) {names : List (Str × NameKind)} {xs : List Nat} (h : ownOk T names xs = true) {x : Str} {n : Nat} (hx : T.nl[n]? = some x) (m : names.lookup x = some .local ∨ names.lookup x = some .cell) : n ∈ xs := by
  unfold ownOk at h
  simp only [List.all_eq_true] at h
  rcases m with m | m
  · have := h _ (mem_lookup m)
    simp only [ix_of_get hn hx] at this
    simpa using this
  · have := h _ (mem_lookup m)
    simp only [ix_of_get hn hx] at this
    simpa using this

theorem entAddr_live {c : Cx} {h : Heap} {W : Addr → Prop} {v : Value} {t : Ent} (r : EntRel c h W v t) {b : Addr} (x : entAddr c h v t b) : W b ∧ ∃ o, h.get? b = some o := by
  cases r with
  | frz r => exact (entAddr_frz x).elim
  | own hW ha hr => cases x; exact ⟨hW, let ⟨n, e⟩ := ha; ⟨_, e⟩⟩
  | ownT hW hd hk hr => cases x; exact ⟨hW, let ⟨o, _, _, e, _⟩ := hd; ⟨o, e⟩⟩
  | ownI hx hdx ho hd hk hr =>
    rcases x with rfl | ⟨dx, e, rfl⟩
    · exact ⟨hx, _, ho⟩
    · rw [ho] at e
      have := Option.some.inj (congrArg Obj.dict (Option.some.inj e))
      subst this
      exact ⟨hdx, _, hd⟩
theorem entAddr_keep {c : Cx} {h h' : Heap} {W : Addr → Prop} {v : Value} {t : Ent} (r : EntRel c h W v t) (k : Keep h h') {b : Addr} (x : entAddr c h' v t b) : entAddr c h v t b :=
  (r.but (L := fun _ => False) k.but (fun _ f => f.elim) fun _ f => f.elim).2 b x

section
variable {c : Cx} {h₁ h₂ h' : Heap} {W fr : Addr → Prop} {env : Env} {k : Kinds} {σ : Env1} {scope : Scope} {cl : List (Str × Addr)} {xs : List Nat}

noncomputable def lcEnv (scope : Scope) (env : Env) (Z : Addr) (cells : List (Str × Addr)) : Env :=
  { scope := relabel scope env, locals := Z, globals := env.globals, cells, qual := env.qual, func := none, code := env.code, frame := env.frame, builtins := env.builtins }

theorem lc_names (fk : env.scope.kind = .function) (ks : env.scope.names = k) : (relabel scope env).names = relab k scope.names := by
  unfold relabel relab
  dsimp only
  congr 1
  funext y
  obtain ⟨n, q⟩ := y
  have : env.kindOf n = k.lookup n := by unfold Env.kindOf; rw [ks]
  simp [fk, this]

theorem frame_CI (K : c.Ok) (S : ES c h₁ W env k σ) (k12 : Keep h₁ h₂) (k2 : Keep h₂ h') (nok : namesOk scope.names = true) (fok : freeOk k scope.names = true) (own : ownOk c.T scope.names xs = true) (hfk : scope.kind = .function)
    (hc1 : ∀ x a, cl.lookup x = some a → env.cells.lookup x = some a) (hc2 : ∀ y ∈ scope.names, y.2 = .free → ∃ a, cl.lookup y.1 = some a)
    (hns : h'.Ns h₂.objs.size (fun _ => none))
    (hcs : ∀ x a, (cellsFrom (h₂.objs.size + 1) scope.names []).lookup x = some a → h'.IsCell a none ∧ h₂.objs.size < a ∧ a < h'.objs.size)
    (hpw : (cellsFrom (h₂.objs.size + 1) scope.names []).Pairwise fun x y => x.2 ≠ y.2)
    (hfr : ∀ a, fr a → h₁.get? a = none) (hlive : ∀ a, fr a → ∃ o, h'.get? a = some o) :
    CI c h' (fun a => W a ∨ fr a) fr (lcEnv scope env h₂.objs.size (cellsFrom (h₂.objs.size + 1) scope.names [] ++ cl)) (relab k scope.names) (rem xs σ) := by
  have kk : Keep h₁ h' := k12.trans k2
  have hks : (relabel scope env).names = relab k scope.names := lc_names S.fk S.ks
  have ksd : env.scope.names = k := S.ks
  have kind : ∀ x, Env.kindOf (lcEnv scope env h₂.objs.size (cellsFrom (h₂.objs.size + 1) scope.names [] ++ cl)) x = (scope.names.lookup x).map fun q => if (q == .free && k.lookup x == some .cell) then NameKind.cell else q := by
    intro x
    show (relabel scope env).names.lookup x = _
    rw [hks, relab_lookup]
  have oldlt : ∀ x a, env.cells.lookup x = some a → a < h₂.objs.size := fun x a e => let ⟨v, o, ho, _⟩ := S.clive x a e; Heap.lt_size (k12 _ _ ho)
  have ownlk : ∀ x a, (cellsFrom (h₂.objs.size + 1) scope.names []).lookup x = some a → scope.names.lookup x = some .cell := fun x a e => by
    rcases cellsFrom_mem _ _ _ x a (mem_lookup e) with h | h
    · cases h
    · exact namesOk_cell nok h
  have noown : ∀ x, scope.names.lookup x ≠ some .cell → (cellsFrom (h₂.objs.size + 1) scope.names []).lookup x = none := fun x hx => by
    cases e : (cellsFrom (h₂.objs.size + 1) scope.names []).lookup x with
    | none => rfl
    | some a => exact absurd (ownlk x a e) hx
  have split : ∀ x a, (cellsFrom (h₂.objs.size + 1) scope.names [] ++ cl).lookup x = some a → (cellsFrom (h₂.objs.size + 1) scope.names []).lookup x = some a ∨ ((cellsFrom (h₂.objs.size + 1) scope.names []).lookup x = none ∧ cl.lookup x = some a) := fun x a e => by
    rw [lookup_app] at e
    cases e' : (cellsFrom (h₂.objs.size + 1) scope.names []).lookup x with
    | none => rw [e'] at e; exact .inr ⟨rfl, e⟩
    | some b => rw [e'] at e; exact .inl e
  have freecell : ∀ x, scope.names.lookup x = some .free → ∃ a, (cellsFrom (h₂.objs.size + 1) scope.names [] ++ cl).lookup x = some a ∧ env.cells.lookup x = some a := fun x hx => by
    obtain ⟨a, e⟩ := hc2 (x, .free) (mem_lookup hx) rfl
    refine ⟨a, ?_, hc1 x a e⟩
    rw [lookup_app, noown x (by rw [hx]; intro q; cases q)]
    exact e
  have cells : ∀ x, (scope.names.lookup x = some .cell ∨ scope.names.lookup x = some .free) → ∃ a, (cellsFrom (h₂.objs.size + 1) scope.names [] ++ cl).lookup x = some a := fun x hx => by
    rcases hx with hx | hx
    · obtain ⟨a, e⟩ := cellsFrom_has scope.names (h₂.objs.size + 1) [] x (mem_lookup hx)
      exact ⟨a, by rw [lookup_app, e]; rfl⟩
    · obtain ⟨a, e, _⟩ := freecell x hx
      exact ⟨a, e⟩
  have cf : ∀ x, Env.kindOf (lcEnv scope env h₂.objs.size (cellsFrom (h₂.objs.size + 1) scope.names [] ++ cl)) x = some .cell ∨ Env.kindOf (lcEnv scope env h₂.objs.size (cellsFrom (h₂.objs.size + 1) scope.names [] ++ cl)) x = some .free →
      scope.names.lookup x = some .cell ∨ scope.names.lookup x = some .free := fun x hx => by
    rw [kind x] at hx
    cases e : scope.names.lookup x with
    | none => rw [e] at hx; simp at hx
    | some q =>
      rw [e] at hx
      cases q <;> simp at hx ⊢
  have cinj : ∀ x y a, (cellsFrom (h₂.objs.size + 1) scope.names [] ++ cl).lookup x = some a → (cellsFrom (h₂.objs.size + 1) scope.names [] ++ cl).lookup y = some a → x = y := fun x y a ex ey => by
    rcases split x a ex with ex | ⟨_, ex⟩ <;> rcases split y a ey with ey | ⟨_, ey⟩
    · have mx := mem_lookup ex
      have my := mem_lookup ey
      by_cases hxy : (x, a) = (y, a)
      · exact (Prod.mk.inj hxy).1
      · obtain ⟨i, hi, ei⟩ := List.mem_iff_getElem.mp mx
        obtain ⟨j, hj, ej⟩ := List.mem_iff_getElem.mp my
        have p := List.pairwise_iff_getElem.mp hpw
        rcases Nat.lt_trichotomy i j with l | l | l
        · have := p i j hi hj l; rw [ei, ej] at this; exact absurd rfl this
        · subst l; rw [ei] at ej; exact absurd ej hxy
        · have := p j i hj hi l; rw [ei, ej] at this; exact absurd rfl this
    · have h1 := (hcs x a ex).2.1
      have h2 := oldlt y a (hc1 y a ey)
      exact absurd (Nat.lt_trans h1 h2) (Nat.lt_irrefl _)
    · have h1 := (hcs y a ey).2.1
      have h2 := oldlt x a (hc1 x a ex)
      exact absurd (Nat.lt_trans h1 h2) (Nat.lt_irrefl _)
    · exact S.cinj x y a (hc1 x a ex) (hc1 y a ey)
  have clive : ∀ x a, (cellsFrom (h₂.objs.size + 1) scope.names [] ++ cl).lookup x = some a → ∃ v, h'.IsCell a v := fun x a e => by
    rcases split x a e with e | ⟨_, e⟩
    · exact ⟨none, (hcs x a e).1⟩
    · obtain ⟨v, o, ho, r⟩ := S.clive x a (hc1 x a e)
      exact ⟨v, o, kk _ _ ho, r⟩
  have free_var : ∀ n x t, c.T.nl[n]? = some x → look (rem xs σ) n = some t → isVar (relab k scope.names) x = true → ∃ v, VarAt h' (lcEnv scope env h₂.objs.size (cellsFrom (h₂.objs.size + 1) scope.names [] ++ cl)) x v ∧ EntRel c h₁ W v t := fun n x t e1 e2 e3 => by
    rw [look_rem] at e2
    split at e2
    · cases e2
    · rename_i hnx
      have hnx : n ∉ xs := by simpa using hnx
      have hfree : scope.names.lookup x = some .free := by
        unfold isVar at e3
        rw [relab_lookup] at e3
        cases e : scope.names.lookup x with
        | none => rw [e] at e3; cases e3
        | some q =>
          cases q with
          | free => rfl
          | «local» => exact absurd (ownOk_at K.inj own e1 (.inl e)) hnx
          | cell => exact absurd (ownOk_at K.inj own e1 (.inr e)) hnx
          | _ => rw [e] at e3; simp at e3
      have hko := freeOk_at fok (x, .free) (mem_lookup hfree) rfl
      have hkv : isVar k x = true := by
        unfold isVar
        rcases hko with h | h <;> rw [h]
      obtain ⟨v, V, r⟩ := S.vars n x t e1 e2 hkv
      refine ⟨v, ?_, r⟩
      obtain ⟨a, ea, ea'⟩ := freecell x hfree
      have hcell : h₁.IsCell a (some v) := by
        cases V with
        | loc m hk hn hv =>
          have kd : env.kindOf x = k.lookup x := by unfold Env.kindOf; rw [ksd]
          rw [kd] at hk
          rcases hko with h | h <;> (simp only at h; rw [h] at hk; cases hk)
        | cell q hk hc b hl hi => rw [ea'] at hl; cases hl; exact hi
      have hkn : Env.kindOf (lcEnv scope env h₂.objs.size (cellsFrom (h₂.objs.size + 1) scope.names [] ++ cl)) x = some (if (k.lookup x == some .cell) = true then NameKind.cell else .free) := by
        rw [kind x, hfree]; simp
      refine .cell _ hkn ?_ a ea (hcell.keeps kk)
      split
      · exact .inl rfl
      · exact .inr rfl
  have nofr : ∀ a o, h₁.get? a = some o → ¬ fr a := fun a o e x => by rw [hfr a x] at e; cases e
  refine ⟨⟨S.base.trans kk, fun a ha => ?_, hfk, S.gl, S.bl, hks, fun x hx => cells x (cf x hx), cinj, clive, fun n x t e1 e2 e3 => ?_⟩, ⟨⟨_, hns⟩, hfk, cinj, fun x a e => ?_, fun x hx => ?_⟩, fun n x t v e1 e2 V b hb => ?_⟩
  · rcases ha with ha | ha
    · obtain ⟨o, e⟩ := S.live a ha
      exact ⟨o, kk _ _ e⟩
    · exact hlive a ha
  · obtain ⟨v, V, r⟩ := free_var n x t e1 e2 e3
    exact ⟨v, V, r.mono' (fun a o hn e => ⟨kk _ _ e, fun x => x.elim hn (nofr a o e)⟩) fun a o hw e => ⟨kk _ _ e, .inl hw⟩⟩
  · show a ≠ h₂.objs.size
    rcases split x a e with e | ⟨_, e⟩
    · exact Nat.ne_of_gt (hcs x a e).2.1
    · exact Nat.ne_of_lt (oldlt x a (hc1 x a e))
  · obtain ⟨a, e⟩ := cells x (cf x (.inl hx))
    obtain ⟨v, hv⟩ := clive x a e
    exact ⟨a, v, e, hv⟩
  · obtain ⟨v', V', r⟩ := free_var n x t e1 e2 (V.isVar hks)
    rw [V.uniq V']
    intro q
    obtain ⟨_, o, e⟩ := entAddr_live r (entAddr_keep r kk q)
    exact nofr b o e hb
end
end Mv
end
section
open PySem PySem.W PyProof.Rows
set_option Elab.async false
namespace Mv

section
variable {c : Cx} {A : Around} {E : Value → Shared → Prop} {s : Shared} {W L : Addr → Prop} {env : Env} {k : Kinds} {σ : Env1}

theorem CI.weak {h : Heap} {σ' : Env1} (I : CI c h W L env k σ) (e : ∀ n t, look σ' n = some t → look σ n = some t) : CI c h W L env k σ' where
  es := { I.es with vars := fun n x t e1 e2 e3 => I.es.vars n x t e1 (e n t e2) e3 }
  fr := I.fr
  off := fun n x t v e1 e2 V => I.off n x t v e1 (e n t e2) V

theorem CI.keep {h h' : Heap} (I : CI c h W L env k σ) (q : Keep h h') : CI c h' W L env k σ :=
  I.but (L' := fun _ => False) q.but (fun _ f => f.elim) (fun _ f => f.elim) id (fun _ _ _ => id) (I.es.base.trans q) fun _ f => f.elim

theorem slot_live {h : Heap} {x : Str} {z : Addr} (F : FrOk h env) (hz : Slot1 env x z) : ∃ o, h.get? z = some o := by
  rcases hz with ⟨_, rfl⟩ | ⟨e1, e2⟩
  · obtain ⟨m, o, es, ep, e, _⟩ := F.ns
    exact ⟨o, e⟩
  · obtain ⟨a, v, e3, o, e4, _⟩ := F.cell x e1
    rw [e2] at e3; cases e3
    exact ⟨o, e4⟩

theorem store_CI (K : c.Ok) {M : Model} {x : Str} {i : Nat} {v : Value} {t₀ : Ent} {z : Addr} {Q : Unit → Shared → Prop} (I : CI c s.heap W L env k σ) (hz : Slot1 env x z) (hL : L z) (hW : W z) (hb : c.hb.get? z = none) (hi : c.T.ix x = some i)
    (r : EntRel c s.heap W v t₀) (hoff : ∀ b, L b → ¬ entAddr c s.heap v t₀ b)
    (h : ∀ h' tk, ButL (· = z) s.heap h' → CI c h' W L env k (upd σ i t₀) → (∀ y u, y ≠ x → VarAt s.heap env y u → VarAt h' env y u) → VarAt h' env x v → Q () { s with heap := h', toks := tk }) : wpAny M A (storeName env x v) Q E s := by
  refine store_sound I.fr hz fun h' tk hbut F' V Vo => h h' tk (fun b o n e => hbut b o n e) ?_ Vo V
  have hbut' : ButL (· = z) s.heap h' := fun b o n e => hbut b o n e
  have hw : ∀ b, b = z → W b := fun b e => e ▸ hW
  have key : ∀ n y t, c.T.nl[n]? = some y → look (upd σ i t₀) n = some t → isVar k y = true → ∃ u, VarAt h' env y u ∧ EntRel c h' W u t ∧ ∀ b, L b → ¬ entAddr c h' u t b := by
    intro n y t e1 e2 e3
    rw [look_upd] at e2
    split at e2
    · rename_i hn
      subst hn
      simp only [Option.some.injEq] at e2; subst e2
      have : y = x := by rw [ix_get hi] at e1; exact (Option.some.inj e1).symm
      subst this
      have b := r.but hbut' hw (fun b e => e ▸ hoff z hL)
      exact ⟨v, V, b.1, fun a ha q => hoff a ha (b.2 a q)⟩
    · rename_i hn
      have hy : y ≠ x := fun e => hn (nl_inj K.inj e1 (by rw [e]; exact ix_get hi))
      obtain ⟨u, U, ru⟩ := I.es.vars n y t e1 e2 e3
      have o := I.off n y t u e1 e2 U
      have b := ru.but hbut' hw (fun b e => e ▸ o z hL)
      exact ⟨u, Vo y u hy U, b.1, fun a ha q => o a ha (b.2 a q)⟩
  refine ⟨⟨fun b o e => hbut b o (ne_of_get hb e) (I.es.base b o e), fun a ha => ?_, I.es.fk, I.es.gl, I.es.bl, I.es.ks, I.es.cells, I.es.cinj, fun y a e => ?_, fun n y t e1 e2 e3 => ?_⟩, F', fun n y t u e1 e2 U => ?_⟩
  · by_cases ha' : a = z
    · subst ha'; exact slot_live F' hz
    · obtain ⟨o, e⟩ := I.es.live a ha
      exact ⟨o, hbut a o ha' e⟩
  · by_cases ha' : a = z
    · subst ha'
      rcases hz with ⟨_, e2⟩ | ⟨e1, e2⟩
      · exact absurd e2 (F'.coff y a e)
      · obtain ⟨a', w, e3, e4⟩ := F'.cell x e1
        rw [e2] at e3; cases e3
        exact ⟨w, e4⟩
    · obtain ⟨w, o, e1, e2⟩ := I.es.clive y a e
      exact ⟨w, o, hbut a o ha' e1, e2⟩
  · obtain ⟨u, U, ru, _⟩ := key n y t e1 e2 e3
    exact ⟨u, U, ru⟩
  · obtain ⟨u', U', _, o⟩ := key n y t e1 e2 (U.isVar I.es.ks)
    rw [U.uniq U']; exact o

noncomputable def Slots (c : Cx) (W L Ls : Addr → Prop) (env : Env) (names : Kinds) : Prop := ∀ x, isStored names x = true → ∃ z, Slot1 env x z ∧ Ls z ∧ L z ∧ W z ∧ c.hb.get? z = none

theorem assign_tuple2 {x y : Str} {xp yp pos : Pos} {kd : Nat} {a : Addr} {u v : Value} {Q : Unit → Shared → Prop} (hh : A.handled = none) (ht : IsTup s.heap a #[u, v])
    (h : ∀ h', Keep s.heap h' → wpAny (model c.prog c.w) A (storeName env x u) (fun _ s₁ => wpAny (model c.prog c.w) A (storeName env y v) Q E s₁) E { s with heap := h' }) :
    wpAny (model c.prog c.w) A (assign (.Tuple [.Name x xp, .Name y yp] kd pos) env (.ref a)) Q E s := by
  refine assign_Tuple_tuple hh ht rfl rfl fun h' hb => ?_
  have kp : Keep s.heap h' := fun b o e => hb b o (Nat.ne_of_lt (Heap.lt_size e)) e
  refine assignInOrder_cons (wpAny_assign_Name (wpAny_mono (h h' kp) (fun _ s₁ h₁ => ?_) fun _ _ e => e))
  exact assignInOrder_cons (wpAny_assign_Name (wpAny_mono h₁ (fun _ s₂ h₂ => assignInOrder_nil h₂) fun _ _ e => e))

theorem tgt_sound (K : c.Ok) {Ls : Addr → Prop} {names : Kinds} {tg : PySem.Expr} {xs : List Nat} {d : D} {v : Value} {σ' : Env1} {Q : Unit → Shared → Prop} (hh : A.handled = none) (I : CI c s.heap W L env k (rem xs σ)) (hs : Slots c W L Ls env names)
    (ht : tgtOf c.T names tg = some xs) (hb : bindT σ xs d = some σ') (r : Rep c s.heap W v d) (h : ∀ h' tk, ButL Ls s.heap h' → CI c h' W L env k σ' → Q () { s with heap := h', toks := tk }) :
    wpAny (model c.prog c.w) A (assign tg env v) Q E s := by
  have tv := tgtOf_inv ht
  clear ht
  cases tv with
  | one x p i hst hi =>
    cases Option.some.inj hb
    obtain ⟨z, hz, hLs, hL, hW, hzb⟩ := hs x hst
    refine wpAny_assign_Name (store_CI K I hz hL hW hzb hi (.frz r) (fun b _ => entAddr_frz) fun h' tk hbut I' _ _ => h h' tk (hbut.mono fun b e => e ▸ hLs) (I'.weak fun n t e => ?_))
    rw [look_upd] at e ⊢
    split
    · rename_i hn; rw [if_pos hn] at e; exact e
    · rename_i hn
      rw [if_neg hn] at e
      rw [look_rem, if_neg (by simpa using hn)]; exact e
  | two x xp y yp a b i j hs1 hs2 hne hi hj =>
    obtain ⟨d1, d2, rfl, rfl⟩ : ∃ d1 d2, d = .tup [d1, d2] ∧ σ' = upd (upd σ i (.frz d1)) j (.frz d2) := by
      cases d with
      | tup l => match l, hb with
        | [d1, d2], hb => exact ⟨d1, d2, rfl, (Option.some.inj hb).symm⟩
      | _ => nomatch hb
    clear hb
    obtain ⟨ad, vs, rfl, hW, ha, hr⟩ := r.tupI
    cases hr with | cons r1 tl => cases tl with | cons r2 tl2 =>
      cases tl2
      obtain ⟨z1, hz1, hLs1, hL1, hW1, hzb1⟩ := hs x hs1
      obtain ⟨z2, hz2, hLs2, hL2, hW2, hzb2⟩ := hs y hs2
      refine assign_tuple2 hh ha fun h' kp => ?_
      refine store_CI (s := { s with heap := h' }) K (I.keep kp) hz1 hL1 hW1 hzb1 hi (.frz (r1.keep kp)) (fun b _ => entAddr_frz) fun h'' tk hbut I' _ _ => ?_
      refine store_CI (s := { s with heap := h'', toks := tk }) K I' hz2 hL2 hW2 hzb2 hj (.frz ((r2.keep kp).but hbut fun b e => e ▸ hW1)) (fun b _ => entAddr_frz) fun h''' tk' hbut' I'' _ _ => ?_
      refine h h''' tk' ((kp.but.trans (hbut.mono fun b e => e ▸ hLs1)).trans (hbut'.mono fun b e => e ▸ hLs2)) (I''.weak fun n t e => ?_)
      rw [look_upd] at e ⊢
      split
      · rename_i hn; rw [if_pos hn] at e; exact e
      · rename_i hn
        rw [if_neg hn] at e
        rw [look_upd] at e ⊢
        split
        · rename_i hn'; rw [if_pos hn'] at e; exact e
        · rename_i hn'
          rw [if_neg hn'] at e
          rw [look_rem, if_neg (by simp [hn, hn'])]; exact e

theorem look_bindT {xs : List Nat} {d : D} {σ' : Env1} (hb : bindT σ xs d = some σ') {n : Nat} (hn : n ∉ xs) : look σ' n = look σ n := by
  have key : ∀ (xs : List Nat) (l : List D) (σ σ' : Env1), updAll σ xs l = some σ' → n ∉ xs → look σ' n = look σ n := by
    intro xs
    induction xs with
    | nil => intro l σ σ' e _; cases l <;> simp [updAll] at e; subst e; rfl
    | cons x xs ih =>
      intro l σ σ' e hn
      cases l with
      | nil => simp [updAll] at e
      | cons d l =>
        simp only [updAll] at e
        simp only [List.mem_cons, not_or] at hn
        rw [ih l _ _ e hn.2, look_upd, if_neg hn.1]
  unfold bindT at hb
  split at hb
  · simp only [Option.some.injEq] at hb; subst hb
    simp only [List.mem_singleton] at hn
    rw [look_upd, if_neg hn]
  · exact key _ _ _ _ hb hn
  · cases hb

theorem let_sound {tg : PySem.Expr} {I : Addr} {v : Value} {Q : Unit → Shared → Prop} (hl : ∀ a, v = .ref a → ∃ o, s.heap.get? I = some o ∧ (o.cls = .type "list_iterator" ∨ o.cls = .type "tuple_iterator")) (hQ : Q () s) :
    wpAny (model c.prog c.w) A (letOwnedTupleGo tg (.ref I) v) Q E s := by
  have key : wpAny (model c.prog c.w) A (do
    let (.ref r, .ref a) := (Value.ref I, v) | return
    let o ← load r
    match o.cls, o.data with
    | .type n, .fields vs =>
      if ["enumerate", "zip", "dict_itemiterator", "dict_reverseitemiterator", "odict_iterator", "itertools.zip_longest", "itertools.pairwise"].contains n && vs[0]? == some (rawInt a) then
        rule "for.unpacks-the-owned-tuple"
        updateField r 0 .none
    | _, _ => pure () : Sem Unit) Q E s := by
    cases v with
    | ref a =>
      obtain ⟨o, ho, hc⟩ := hl a rfl
      refine wpAny_bind (wpAny_load ho ?_)
      rcases hc with hc | hc <;> rw [hc] <;> cases o.data <;> dsimp only <;> first
        | exact wpAny_pure hQ
        | (rw [if_neg (by
            rw [show ((["enumerate", "zip", "dict_itemiterator", "dict_reverseitemiterator", "odict_iterator", "itertools.zip_longest", "itertools.pairwise"] : List String).contains "list_iterator") = false from by decide, Bool.false_and]; exact Bool.false_ne_true)]; exact wpAny_pure hQ)
        | (rw [if_neg (by
            rw [show ((["enumerate", "zip", "dict_itemiterator", "dict_reverseitemiterator", "odict_iterator", "itertools.zip_longest", "itertools.pairwise"] : List String).contains "tuple_iterator") = false from by decide, Bool.false_and]; exact Bool.false_ne_true)]; exact wpAny_pure hQ)
    | _ => exact wpAny_pure hQ
  cases tg <;> first | exact key | exact wpAny_pure hQ
end

noncomputable def lastTurn (target iter elt : PySem.Expr) (ifs : List PySem.Expr) (nxt : Sem Fin) (it acc : Value) (env : Env) : Sem Fin := do
  standAt iter.pos
  match ← pyNext it with
  | none => pure (.done .next)
  | some v =>
    letOwnedTupleGo target it v
    assign target env v
    let mut ok := true
    for c in ifs do
      if ok then ok ← isTrue c env (eval c env)
    if ok then
      (do let _ ← call (.builtin "list.append") [acc, ← eval elt env])
    nxt

theorem turn_one (elt target iter : PySem.Expr) (ifs : List PySem.Expr) (scope : Scope) (pos : Pos) (it acc : Value) (env : Env) :
    compTurn (.ListComp elt [⟨target, iter, ifs, 0⟩] scope pos) 0 it acc env = lastTurn target iter elt ifs (again (.compLoop (.ListComp elt [⟨target, iter, ifs, 0⟩] scope pos) 0 it acc env)) it acc env := by rfl
theorem turn_two (elt target iter : PySem.Expr) (ifs : List PySem.Expr) (g : PySem.Comprehension) (scope : Scope) (pos : Pos) (it acc : Value) (env : Env) :
    compTurn (.ListComp elt [g, ⟨target, iter, ifs, 0⟩] scope pos) 1 it acc env = lastTurn target iter elt ifs (again (.compLoop (.ListComp elt [g, ⟨target, iter, ifs, 0⟩] scope pos) 1 it acc env)) it acc env := by rfl
theorem turn_outer (elt t1 i1 t2 i2 : PySem.Expr) (ifs2 : List PySem.Expr) (scope : Scope) (pos : Pos) (it acc : Value) (env : Env) :
    compTurn (.ListComp elt [⟨t1, i1, [], 0⟩, ⟨t2, i2, ifs2, 0⟩] scope pos) 0 it acc env = (do
      standAt i1.pos
      match ← pyNext it with
      | none => pure (.done .next)
      | some v =>
        letOwnedTupleGo t1 it v
        assign t1 env v
        let x ← eval i2 env
        standAt i2.pos
        let x ← foldedSetIterable i2 env x
        let _ ← runOwn (.compStart (.ListComp elt [⟨t1, i1, [], 0⟩, ⟨t2, i2, ifs2, 0⟩] scope pos) 1 (← holding [x] (pyIter x)) acc env) env
        again (.compLoop (.ListComp elt [⟨t1, i1, [], 0⟩, ⟨t2, i2, ifs2, 0⟩] scope pos) 0 it acc env)) := by rfl

theorem last_loop {prog : Program} {w : World} {A : Around} {R : Result → Shared → Prop} {s : Shared} {target iter elt : PySem.Expr} {ifs : List PySem.Expr} {gens : List PySem.Comprehension} {scope : Scope} {pos : Pos} {depth : Nat} {it acc : Value} {env : Env}
    (hturn : compTurn (.ListComp elt gens scope pos) depth it acc env = lastTurn target iter elt ifs (again (.compLoop (.ListComp elt gens scope pos) depth it acc env)) it acc env) (I : Nat → Shared → Prop)
    (turn : ∀ n s, I n s → ∀ EE, wpAny (model prog w) A (pyNext it) (fun r s₁ => match r with
      | none => R (.ok .next) s₁
      | some v => wpAny (model prog w) A (letOwnedTupleGo target it v) (fun _ s₁ => wpAny (model prog w) A (assign target env v) (fun _ s₂ =>
          wpAny (model prog w) A (forIn ifs true fun c r => if r = true then do let ok ← isTrue c env (eval c env); pure (ForInStep.yield ok) else pure (ForInStep.yield r)) (fun ok s₃ =>
            if ok = true then wpAny (model prog w) A (eval elt env) (fun x s₄ =>
              wpAny (model prog w) A (call (.builtin "list.append") [acc, x]) (fun _ s₅ => ∃ m, m < n ∧ I m s₅) EE s₄) EE s₃
            else ∃ m, m < n ∧ I m s₃) EE s₂) EE s₁) EE s₁) EE s)
    (n : Nat) (h : I n s) : codeAny (model prog w) A (.compLoop (.ListComp elt gens scope pos) depth it acc env) R s := by
  refine codeAny_loop rfl I (fun n s hI => ?_) n h
  show wpAny _ A ((compTurn (.ListComp elt gens scope pos) depth it acc env).onRaise (fun x => do noteFrame x env; theTreesLotGoes x)) _ _ s
  refine wpAny_noted ?_
  rw [hturn]
  unfold lastTurn
  refine wpAny_bind (wpAny_standAt (wpAny_bind (wpAny_mono (turn n s hI _) (fun r s₁ h₁ => ?_) fun _ _ h' => h')))
  cases r with
  | none => exact wpAny_pure h₁
  | some v =>
    refine wpAny_bind (wpAny_mono h₁ (fun _ s₁' h₁' => wpAny_bind (wpAny_mono h₁' (fun _ s₂ h₂ => wpAny_bind (wpAny_mono h₂ (fun ok s₃ h₃ => ?_) fun _ _ h' => h')) fun _ _ h' => h')) fun _ _ h' => h')
    cases ok with
    | false => exact wpAny_pure ⟨rfl, h₃⟩
    | true => exact wpAny_bind (wpAny_bind (wpAny_mono h₃ (fun x s₄ h₄ => wpAny_bind (wpAny_mono h₄ (fun _ s₅ h₅ => wpAny_pure (wpAny_pure ⟨rfl, h₅⟩)) fun _ _ h' => h')) fun _ _ h' => h'))
end Mv
end
section
open PySem PySem.W PyProof.Rows
set_option Elab.async false
namespace Mv

theorem pos_any {α : Type} {M : Model} {A : Around} {E : Value → Shared → Prop} {s : Shared} {t : Sem α} {Q : α → Shared → Prop} (hp : 0 < s.toks) (h : ∀ E', wpAny M A t (fun v s' => 0 < s'.toks → Q v s') E' s) : wpAny M A t Q E s :=
  wpAny_with_toks (n := 1) hp (wpAny_mono (h _) (fun _ _ x => x) fun _ _ x => x)

structure ItL (c : Cx) (A : Around) (h : Heap) (W L Lw : Addr → Prop) (env : Env) (ds : List D) (I : Addr) (fp : List Addr) (P : Nat → Value → Prop) (St : Nat → Heap → Prop) : Prop where
  hw : Walks c.prog c.w A I fp [I] ds.length P St
  st : St 0 h
  inL : L I
  inW : W I
  hb : c.hb.get? I = none
  nloc : I ≠ env.locals
  ncell : ∀ x a, env.cells.lookup x = some a → a ≠ I
  nfp : ∀ b ∈ fp, ¬ Lw b
  fpl : ∀ b ∈ fp, b ≠ I → ∃ o, h.get? b = some o
  item : ∀ i u, i < ds.length → P i u → ∃ d, ds[i]? = some d ∧ Rep c h W u d
  live : ∀ j h, St j h → ∃ o, h.get? I = some o
  tup : ∀ i u a, P i u → u = .ref a → ∀ j h, St j h → ∃ o, h.get? I = some o ∧ (o.cls = .type "list_iterator" ∨ o.cls = .type "tuple_iterator")

section
variable {c : Cx} {n lvl : Nat} {C : Nat → List D → Option D} {A : Around} {s₀ : Shared} {W L Ls : Addr → Prop} {env : Env} {k : Kinds} {σ : Env1}

theorem EntRel.shrink {h : Heap} {W' : Addr → Prop} {v : Value} {t : Ent} (r : EntRel c h W v t) (hw : ∀ b, W' b → W b) (ho : ∀ b, entAddr c h v t b → W b → W' b) : EntRel c h W' v t := by
  have hs : Sub h W h W' := fun a o n e => ⟨e, fun x => n (hw a x)⟩
  cases r with
  | frz r => exact .frz (r.mono hs)
  | own hW ha hr => exact .own (ho _ rfl hW) ha (hr.mono hs)
  | ownT hW hd hk hr => exact .ownT (ho _ rfl hW) hd hk (hr.mono hs)
  | ownI hx hdx ho' hd hk hr => exact .ownI (ho _ (.inl rfl) hx) (ho _ (.inr ⟨_, ho', rfl⟩) hdx) ho' hd hk (hr.mono hs)

theorem CI.drop {h h' : Heap} {I₀ : Addr} (I : CI c h W L env k σ) (hb : ButL (· = I₀) h h') (hW : W I₀) (hL : L I₀) (hl : I₀ ≠ env.locals) (hc : ∀ x a, env.cells.lookup x = some a → a ≠ I₀) (hbase : c.hb.get? I₀ = none) :
    CI c h' (fun a => W a ∧ a ≠ I₀) L env k σ := by
  have key : ∀ n x t, c.T.nl[n]? = some x → look σ n = some t → isVar k x = true → ∃ v, VarAt h' env x v ∧ EntRel c h' (fun a => W a ∧ a ≠ I₀) v t ∧ ∀ b, L b → ¬ entAddr c h' v t b := by
    intro n x t e1 e2 e3
    obtain ⟨v, V, r⟩ := I.es.vars n x t e1 e2 e3
    have o := I.off n x t v e1 e2 V
    have b := r.but hb (fun b e => e ▸ hW) fun b x => o b (x ▸ hL)
    refine ⟨v, V.but hb (fun e => hl e.symm) (fun a e => hc x a e), b.1.shrink (fun _ x => x.1) (fun a q w => ⟨w, fun e => ?_⟩), fun z hz q => o z hz (b.2 z q)⟩
    subst e
    exact o _ hL (b.2 _ q)
  refine ⟨⟨fun b o e => hb b o (ne_of_get hbase e) (I.es.base b o e), fun a ha => ?_, I.es.fk, I.es.gl, I.es.bl, I.es.ks, I.es.cells, I.es.cinj, fun x a e => ?_, fun n x t e1 e2 e3 => ?_⟩, I.fr.but hb (fun e => hl e.symm) (fun x a e => hc x a e), fun n x t v e1 e2 V => ?_⟩
  · obtain ⟨o, e⟩ := I.es.live a ha.1
    exact ⟨o, hb a o ha.2 e⟩
  · obtain ⟨v, o, ho, r⟩ := I.es.clive x a e
    exact ⟨v, o, hb a o (hc x a e) ho, r⟩
  · obtain ⟨v, V, r, _⟩ := key n x t e1 e2 e3
    exact ⟨v, V, r⟩
  · obtain ⟨v', V', _, o⟩ := key n x t e1 e2 (V.isVar I.es.ks)
    rw [V.uniq V']; exact o

inductive LcI (c : Cx) (W L Ls : Addr → Prop) (env : Env) (k : Kinds) (ρ : Env1) (s₀ : Shared) (I D : Addr) (St : Nat → Heap → Prop) (n : Nat) (g : Nat → Option (List Mv.D)) (total : List Mv.D) : Nat → Shared → Prop
  | mk {i : Nat} {h : Heap} {tk : Tok} {ys : List Value} {out r : List Mv.D} (hi : i ≤ n) (hp : 0 < tk) (hbut : ButL (fun b => b = I ∨ b = D ∨ Ls b) s₀.heap h) (ci : CI c h W L env k ρ) (hD : h.PlainList D ys.toArray) (hys : Reps c h W ys out)
      (hst : St i h) (hgo : g i = some r) (htot : out ++ r = total) : LcI c W L Ls env k ρ s₀ I D St n g total (n + 1 - i) { s₀ with heap := h, toks := tk }
theorem turn_less {i n : Nat} (h : i < n) : n + 1 - (i + 1) < n + 1 - i := by lia
theorem drop_one {ds : List D} {i : Nat} {d : D} (hlt : i < ds.length) (hd : ds[i]? = some d) : ds.drop i = d :: ds.drop (i + 1) := by
  rw [List.drop_eq_getElem_cons hlt]
  congr 1
  rw [List.getElem?_eq_getElem hlt] at hd
  exact Option.some.inj hd
theorem rem_bind {xs : List Nat} {d : D} {σ' : Env1} (hb : bindT σ xs d = some σ') (n : Nat) (t : Ent) (e : look (rem xs σ) n = some t) : look σ' n = some t := by
  rw [look_rem] at e
  split at e
  · cases e
  · rename_i hn
    rw [look_bindT hb (by simpa using hn)]; exact e
theorem append_room {h : Heap} {ys : List Value} {out r' total : List Mv.D} {y : Mv.D} (hys : Reps c h W ys out) (htot : out ++ y :: r' = total) (hcap : total.length ≤ 100000) : ys.toArray.size ≤ sizeLine := by
  rw [sizeLine_eq, List.size_toArray, hys.length]
  rw [← htot, List.length_append, List.length_cons] at hcap
  lia
theorem lc_loop (K : c.Ok) (hE : SE1 c n lvl C) (hTs : STs1 c n lvl C) (R : Rm lvl A) {names : Kinds} {RR : Result → Shared → Prop} {tg iter elt : PySem.Expr} {ifs : List PySem.Expr} {gens : List PySem.Comprehension} {scope : Scope} {pos : Pos} {depth : Nat} {I D : Addr}
    (hturn : compTurn (.ListComp elt gens scope pos) depth (.ref I) (.ref D) env = lastTurn tg iter elt ifs (again (.compLoop (.ListComp elt gens scope pos) depth (.ref I) (.ref D) env)) (.ref I) (.ref D) env)
    {xs : List Nat} {se : SE} {sifs : List SE} (ht : tgtOf c.T names tg = some xs) (h1 : cTs c.T n k ifs = some sifs) (h2 : cE c.T n k elt = some se)
    {ds rest total out₀ : List Mv.D} {ys₀ : List Value} (hgo : compGo (fun σ' => evE C se σ') (fun σ' => evTs C sifs σ') xs σ ds = some rest) (htot : out₀ ++ rest = total) (hcap : total.length ≤ 100000)
    (hsl : Slots c W L Ls env names) (hLW : ∀ b, L b → W b) (hLsW : ∀ b, Ls b → W b) (hLs : ∀ b, Ls b → b ≠ I ∧ b ≠ D)
    (CI₀ : CI c s₀.heap W L env k (rem xs σ)) (hp : 0 < s₀.toks)
    {fp : List Addr} {P : Nat → Value → Prop} {St : Nat → Heap → Prop} (T : ItL c A s₀.heap W L (fun b => b = D ∨ Ls b) env ds I fp P St)
    (hD : s₀.heap.PlainList D ys₀.toArray) (hys : Reps c s₀.heap W ys₀ out₀) (hLD : L D) (hDb : c.hb.get? D = none) (hDl : D ≠ env.locals) (hDc : ∀ x a, env.cells.lookup x = some a → a ≠ D) (hID : I ≠ D)
    (hR : ∀ h' tk ys, 0 < tk → ButL (fun b => b = I ∨ b = D ∨ Ls b) s₀.heap h' → CI c h' (fun a => W a ∧ a ≠ I) L env k (rem xs σ) → h'.PlainList D ys.toArray → Reps c h' W ys total → RR (.ok .next) { s₀ with heap := h', toks := tk }) :
    codeAny (model c.prog c.w) A (.compLoop (.ListComp elt gens scope pos) depth (.ref I) (.ref D) env) RR s₀ := by
  refine last_loop hturn (LcI c W L Ls env k (rem xs σ) s₀ I D St ds.length (fun i => compGo (fun σ' => evE C se σ') (fun σ' => evTs C sifs σ') xs σ (ds.drop i)) total) ?_ (ds.length + 1) (.mk (Nat.zero_le _) hp (ButL.refl _ _) CI₀ hD hys T.st hgo htot)
  clear hp CI₀ hD hys hgo htot
  intro m s' inv EE
  refine @byF2 _ _ (fun m s' => _) m s' fun F kF => ?_
  cases inv with | @mk i h tk ys out r hi hp hbut ci hD hys hst hgo htot => ?_
  refine kF _ _ ?_
  clear kF F
  have hLwW : ∀ b, (b = I ∨ b = D ∨ Ls b) → W b := fun b h => h.elim (fun e => e.symm ▸ T.inW) fun h => h.elim (fun e => e.symm ▸ hLW _ hLD) (hLsW b)
  by_cases hlt : i < ds.length
  · refine pos_any hp fun E' => T.hw.item i _ _ _ hlt hst fun v h₁ tk₁ hPv hst₁ hk₁ hp₁ => ?_
    have b1 : ButL (· = I) h h₁ := fun b o nb e => hk₁ b o (by simpa using nb) e
    obtain ⟨d, hd, rd⟩ := T.item i v hlt hPv
    rw [drop_one hlt hd] at hgo
    obtain ⟨σ', hb, hgo⟩ := bind_inv hgo
    obtain ⟨bb, hbb, hgo⟩ := bind_inv hgo
    have hbut₁ : ButL (fun b => b = I ∨ b = D ∨ Ls b) s₀.heap h₁ := hbut.trans (b1.mono fun b e => .inl e)
    have hIl : ∃ o, h₁.get? I = some o := T.live _ _ hst₁
    have ci₁ : CI c h₁ W L env k (rem xs σ) := ci.but b1 (fun b e => e ▸ T.inW) (fun b e => e ▸ T.inL) (fun e => T.nloc e.symm) (fun x a e => T.ncell x a e)
      (fun b o e => b1 b o (ne_of_get T.hb e) (ci.es.base b o e)) fun a e => e ▸ hIl
    have rd₁ : Rep c h₁ W v d := rd.but hbut₁ hLwW
    refine let_sound (fun a ea => T.tup i v a hPv ea (i + 1) h₁ hst₁) ?_
    refine pos_any hp₁ fun E' => tgt_sound (s := { s₀ with heap := h₁, toks := tk₁ }) K R.hh ci₁ hsl ht hb rd₁ fun h₂ tk₂ b2 ci₂ hp₂ => ?_
    refine hTs k ifs sifs σ' env W { s₀ with heap := h₂, toks := tk₂ } bb _ _ A h1 hbb ci₂.es R hp₂ fun h₃ tk₃ q₃ hp₃ => ?_
    have hst₂ : St (i + 1) h₂ := T.hw.frame _ _ _ hst₁ fun b hb o e => b2 b o (fun q => T.nfp b hb (.inr q)) e
    have hst₃ : St (i + 1) h₃ := T.hw.frame _ _ _ hst₂ fun b _ o e => q₃ b o e
    have ci₃ := ci₂.keep q₃
    have hD₃ : h₃.PlainList D ys.toArray := hD.at fun o e => q₃ _ o (b2 _ o (fun q => (hLs D q).2 rfl) (b1 _ o (fun q => hID q.symm) e))
    have b13 : ButL (fun b => b = I ∨ b = D ∨ Ls b) h h₃ := (b1.mono fun b e => .inl e).trans ((b2.mono fun b e => .inr (.inr e)).trans q₃.but)
    have hys₃ : Reps c h₃ W ys out := hys.but b13 hLwW
    have wk := rem_bind hb
    cases bb with
    | false =>
      exact ⟨_, turn_less hlt, .mk hlt hp₃ (hbut.trans b13) (ci₃.weak wk) hD₃ hys₃ hst₃ hgo htot⟩
    | true =>
      obtain ⟨y, hy, hgo⟩ := bind_inv (show (evE C se σ').bind _ = some r from hgo)
      obtain ⟨r', hgo', er⟩ := map_inv hgo
      replace htot : out ++ y :: r' = total := er ▸ htot
      refine hE k elt se σ' env W { s₀ with heap := h₃, toks := tk₃ } y _ _ A h2 hy ci₃.es R hp₃ fun u h₄ tk₄ q₄ ru hp₄ => ?_
      have hD₄ := hD₃.at fun o e => q₄ _ o e
      refine wpAny_list_append_plain hD₄ (fun h₅ hD₅ sb => ?_) (append_room hys htot hcap)
      have b5 : ButL (· = D) h₄ h₅ := fun b o nb e => sb.extBut b o nb e
      have b35 : ButL (fun b => b = I ∨ b = D ∨ Ls b) h₃ h₅ := q₄.but.trans (b5.mono fun b e => .inr (.inl e))
      rw [List.push_toArray] at hD₅
      refine ⟨_, turn_less hlt, .mk (r := r') hlt hp₄ (hbut.trans (b13.trans b35)) ?_ hD₅ (out := out ++ [y]) ?_ ?_ hgo' ((List.append_assoc _ _ _).trans htot)⟩
      · refine ((ci₃.keep q₄).but b5 (fun b e => e ▸ hLW _ hLD) (fun b e => e ▸ hLD) (fun e => hDl e.symm) (fun x a e => hDc x a e) (fun b o e => ?_) fun a e => ?_).weak wk
        · exact b5 b o (ne_of_get hDb e) ((ci₃.keep q₄).es.base b o e)
        · subst e; obtain ⟨n', e⟩ := hD₅; exact ⟨_, e⟩
      · exact ((hys₃.keep q₄).but (b5.mono fun b e => (.inr (.inl e) : b = I ∨ b = D ∨ Ls b)) hLwW).snoc (ru.but (b5.mono fun b e => (.inr (.inl e) : b = I ∨ b = D ∨ Ls b)) hLwW)
      · exact T.hw.frame _ _ _ hst₃ fun b hb o e => b5 b o (fun q => T.nfp b hb (.inl q)) (q₄ b o e)
  · have this : i = ds.length := Nat.le_antisymm hi (Nat.not_lt.mp hlt)
    refine pos_any hp fun E' => T.hw.done _ _ _ (this ▸ hst) fun h₁ tk₁ hk₁ hp₁ => ?_
    have b1 : ButL (· = I) h h₁ := fun b o nb e => hk₁ b o (by simpa using nb) e
    have e0 : out = total := by
      rw [this, List.drop_length] at hgo
      rw [← htot, ← Option.some.inj (show some [] = some r from hgo), List.append_nil]
    exact hR h₁ tk₁ ys hp₁ (hbut.trans (b1.mono fun b e => .inl e)) (ci.drop b1 T.inW T.inL T.nloc T.ncell T.hb) (hD.at fun o e => b1 _ o (fun q => hID q.symm) e) (e0 ▸ hys.but (b1.mono fun b e => (.inl e : b = I ∨ b = D ∨ Ls b)) hLwW)
end
end Mv
end
section
open PySem PySem.W PyProof.Rows
set_option Elab.async false
namespace Mv

theorem folded_pure {T : Tb} {n : Nat} {k : Kinds} {it : PySem.Expr} {se : SE} {env : Env} (h : cI T n k it = some se) (x : Value) : foldedSetIterable it env x = pure x := by
  cases it with
  | Set => cases n with
    | zero => first | exact nos h | exact nob h | nomatch h
    | succ n => cases n <;> nomatch h
  | _ => rfl

theorem isStored_or {k : Kinds} {x : Str} (h : isStored k x = true) : k.lookup x = some .local ∨ k.lookup x = some .cell := by
  unfold isStored at h
  split at h
  · rename_i e; exact .inl e
  · rename_i e; exact .inr e
  · cases h

section
variable {c : Cx} {n lvl : Nat} {C : Nat → List D → Option D} {A : Around} {E : Value → Shared → Prop} {s : Shared} {W : Addr → Prop} {env : Env} {k : Kinds} {σ : Env1} {Q : Value → Shared → Prop} {pos : Pos}

structure Laid (c : Cx) (A : Around) (env : Env) (k : Kinds) (σ : Env1) (W : Addr → Prop) (scope : Scope) (xs : List Nat) (ds : List D) (h₁ h₄ : Heap) (I D Z : Addr) (fp : List Addr) (P : Nat → Value → Prop) (St : Nat → Heap → Prop) (cells : List (Str × Addr)) (Ls : Addr → Prop) : Prop where
  ci : CI c h₄ (fun a => W a ∨ (a = I ∨ a = D ∨ Ls a)) (fun a => a = I ∨ a = D ∨ Ls a) (lcEnv scope env Z cells) (relab k scope.names) (rem xs σ)
  new : ∀ a, (a = I ∨ a = D ∨ Ls a) → h₁.get? a = none
  keep : Keep h₁ h₄
  lsI : ∀ b, Ls b → b ≠ I ∧ b ≠ D
  zls : Ls Z
  nID : I ≠ D
  slots : Slots c (fun a => W a ∨ (a = I ∨ a = D ∨ Ls a)) (fun a => a = I ∨ a = D ∨ Ls a) Ls (lcEnv scope env Z cells) scope.names
  it : ItL c A h₄ (fun a => W a ∨ (a = I ∨ a = D ∨ Ls a)) (fun a => a = I ∨ a = D ∨ Ls a) (fun b => b = D ∨ Ls b) (lcEnv scope env Z cells) ds I fp P St
  hb : ∀ a, (a = I ∨ a = D ∨ Ls a) → c.hb.get? a = none
  cD : ∀ x a, cells.lookup x = some a → a ≠ D
  nDZ : D ≠ Z

theorem laid (K : c.Ok) {scope : Scope} {xs : List Nat} {ds : List D} {it : Value} {s₁ s₂ : Shared} {I : Addr} {fp : List Addr} {P : Nat → Value → Prop} {St : Nat → Heap → Prop} {cl : List (Str × Addr)} {o : Obj} {h₄ : Heap}
    (S : ES c s₁.heap W env k σ) (T : It c A s₁ W ds it s₂ I fp P St) (hfk : scope.kind = .function) (nok : namesOk scope.names = true) (fok : freeOk k scope.names = true) (own : ownOk c.T scope.names xs = true)
    (hc1 : ∀ x a, cl.lookup x = some a → env.cells.lookup x = some a) (hc2 : ∀ y ∈ scope.names, y.2 = .free → ∃ a, cl.lookup y.1 = some a)
    (ho : o.isFreed = false) (k4 : Keep (s₂.heap.push o) h₄)
    (hns : h₄.Ns (s₂.heap.push o).objs.size (fun _ => none))
    (hcs : ∀ x a, (cellsFrom ((s₂.heap.push o).objs.size + 1) scope.names []).lookup x = some a → h₄.IsCell a none ∧ (s₂.heap.push o).objs.size < a ∧ a < h₄.objs.size)
    (hpw : (cellsFrom ((s₂.heap.push o).objs.size + 1) scope.names []).Pairwise fun x y => x.2 ≠ y.2) :
    Laid c A env k σ W scope xs ds s₁.heap h₄ I s₂.heap.objs.size (s₂.heap.push o).objs.size fp P St (cellsFrom ((s₂.heap.push o).objs.size + 1) scope.names [] ++ cl)
      (fun a => a = (s₂.heap.push o).objs.size ∨ ∃ x, (cellsFrom ((s₂.heap.push o).objs.size + 1) scope.names []).lookup x = some a) := by
  obtain ⟨h₂, tk₂, rfl, k12⟩ := T.hkeep
  have kp : Keep h₂ (h₂.push o) := Keep.push _ _
  have hZ : (h₂.push o).objs.size = h₂.objs.size + 1 := Heap.size_push ..
  have st0 : St 0 h₂ := T.hst
  have Ilt : I < h₂.objs.size := let ⟨o, e⟩ := T.hlive 0 h₂ st0; Heap.lt_size e
  have lsge : ∀ a, (a = (h₂.push o).objs.size ∨ ∃ x, (cellsFrom ((h₂.push o).objs.size + 1) scope.names []).lookup x = some a) → (h₂.push o).objs.size ≤ a := by
    rintro a (rfl | ⟨x, e⟩)
    · exact Nat.le_refl _
    · exact Nat.le_of_lt (hcs x a e).2.1
  have old : ∀ a o', s₁.heap.get? a = some o' → a < h₂.objs.size := fun a o' e => Heap.lt_size (k12 _ _ e)
  have new : ∀ a, (a = I ∨ a = h₂.objs.size ∨ (a = (h₂.push o).objs.size ∨ ∃ x, (cellsFrom ((h₂.push o).objs.size + 1) scope.names []).lookup x = some a)) → s₁.heap.get? a = none := by
    intro a ha
    cases e : s₁.heap.get? a with
    | none => rfl
    | some o' =>
      have hlt := old a o' e
      rcases ha with rfl | rfl | ha
      · rw [T.hnew] at e; cases e
      · exact absurd hlt (Nat.lt_irrefl _)
      · have := lsge a ha
        rw [hZ] at this
        exact absurd (Nat.lt_of_lt_of_le hlt (Nat.le_trans (Nat.le_succ _) this)) (Nat.lt_irrefl _)
  have live : ∀ a, (a = I ∨ a = h₂.objs.size ∨ (a = (h₂.push o).objs.size ∨ ∃ x, (cellsFrom ((h₂.push o).objs.size + 1) scope.names []).lookup x = some a)) → ∃ o, h₄.get? a = some o := by
    rintro a (rfl | rfl | rfl | ⟨x, e⟩)
    · obtain ⟨o', e⟩ := T.hlive 0 h₂ st0
      exact ⟨o', k4 _ _ (kp _ _ e)⟩
    · exact ⟨o, k4 _ _ (Heap.get?_push_size _ ho)⟩
    · obtain ⟨o', _, _, e, _⟩ := hns
      exact ⟨o', e⟩
    · obtain ⟨o', e, _⟩ := (hcs x a e).1
      exact ⟨o', e⟩
  have ci := frame_CI K S (k12.trans kp) k4 nok fok own hfk hc1 hc2 hns hcs hpw (fr := fun a => a = I ∨ a = h₂.objs.size ∨ (a = (h₂.push o).objs.size ∨ ∃ x, (cellsFrom ((h₂.push o).objs.size + 1) scope.names []).lookup x = some a)) new live
  have hb : ∀ a, (a = I ∨ a = h₂.objs.size ∨ (a = (h₂.push o).objs.size ∨ ∃ x, (cellsFrom ((h₂.push o).objs.size + 1) scope.names []).lookup x = some a)) → c.hb.get? a = none := by
    intro a ha
    cases e : c.hb.get? a with
    | none => rfl
    | some o' => have := S.base _ _ e; rw [new a ha] at this; cases this
  have cellnot : ∀ (b : Nat), b < (h₂.push o).objs.size → s₁.heap.get? b = none → ∀ x a, (cellsFrom ((h₂.push o).objs.size + 1) scope.names [] ++ cl).lookup x = some a → a ≠ b := by
    intro b hb hn x a e q
    subst q
    rw [lookup_app] at e
    cases e' : (cellsFrom ((h₂.push o).objs.size + 1) scope.names []).lookup x with
    | none =>
      rw [e'] at e
      obtain ⟨v, o', e2, _⟩ := S.clive x a (hc1 x a e)
      rw [hn] at e2; cases e2
    | some y =>
      rw [e'] at e
      cases e
      exact absurd (Nat.lt_trans hb (hcs x a e').2.1) (Nat.lt_irrefl _)
  have kindc : ∀ x q, scope.names.lookup x = some q → q ≠ .free → Env.kindOf (lcEnv scope env (h₂.push o).objs.size (cellsFrom ((h₂.push o).objs.size + 1) scope.names [] ++ cl)) x = some q := by
    intro x q hx hq
    show (relabel scope env).names.lookup x = _
    rw [lc_names S.fk S.ks, relab_lookup, hx]
    have : (q == NameKind.free) = false := by simpa using hq
    simp [hq]
  refine ⟨ci, new, k12.trans (kp.trans k4), fun b hb => ?_, .inl rfl, Nat.ne_of_lt Ilt, fun x hx => ?_, ⟨T.hw, ?_, .inl rfl, .inr (.inl rfl), hb I (.inl rfl), ?_, ?_, fun b hb => ?_, (fun b hb hn => let ⟨o, e⟩ := (T.hoff b hb hn).2; ⟨o, k4 _ _ (kp _ _ (k12 _ _ e))⟩), fun i u hi hp => ?_, T.hlive, T.hlet⟩, hb, cellnot _ (by rw [hZ]; exact Nat.lt_succ_self _) (new _ (.inr (.inl rfl))), by rw [hZ]; exact Nat.ne_of_lt (Nat.lt_succ_self _)⟩
  · have := lsge b hb
    rw [hZ] at this
    exact ⟨Nat.ne_of_gt (Nat.lt_of_lt_of_le Ilt (Nat.le_trans (Nat.le_succ _) this)), Nat.ne_of_gt (Nat.lt_of_succ_le this)⟩
  · rcases isStored_or hx with hx | hx
    · exact ⟨_, .inl ⟨kindc x _ hx (by decide), rfl⟩, .inl rfl, .inr (.inr (.inl rfl)), .inr (.inr (.inr (.inl rfl))), hb _ (.inr (.inr (.inl rfl)))⟩
    · obtain ⟨a, e⟩ := cellsFrom_has scope.names ((h₂.push o).objs.size + 1) [] x (mem_lookup hx)
      refine ⟨a, .inr ⟨kindc x _ hx (by decide), ?_⟩, .inr ⟨x, e⟩, .inr (.inr (.inr ⟨x, e⟩)), .inr (.inr (.inr (.inr ⟨x, e⟩))), hb _ (.inr (.inr (.inr ⟨x, e⟩)))⟩
      show (cellsFrom ((h₂.push o).objs.size + 1) scope.names [] ++ cl).lookup x = some a
      rw [lookup_app, e]; rfl
  · exact T.hw.frame _ _ _ st0 fun b _ o' e => k4 _ _ (kp _ _ e)
  · show I ≠ (h₂.push o).objs.size
    rw [hZ]; exact Nat.ne_of_lt (Nat.lt_succ_of_lt Ilt)
  · exact cellnot _ (by rw [hZ]; exact Nat.lt_succ_of_lt Ilt) T.hnew
  · have hlt : b < h₂.objs.size := T.hfp b hb
    rintro (rfl | hls)
    · exact absurd hlt (Nat.lt_irrefl _)
    · have := lsge b hls
      rw [hZ] at this
      exact absurd (Nat.lt_of_lt_of_le hlt (Nat.le_trans (Nat.le_succ _) this)) (Nat.lt_irrefl _)
  · obtain ⟨d, e, r⟩ := T.hitem i u hi hp
    refine ⟨d, e, r.mono fun a o' hn e => ⟨k4 _ _ (kp _ _ (k12 _ _ e)), fun x => ?_⟩⟩
    rcases x with x | x
    · exact hn x
    · rw [new a x] at e; cases e

noncomputable def FreshE (c : Cx) (h h' : Heap) (W : Addr → Prop) (v : Value) (d : D) : Prop := ∃ a t, v = .ref a ∧ h.get? a = none ∧ newE d = some t ∧ EntRel c h' (fun b => W b ∨ b = a) v t

theorem FreshE.rep {h h' : Heap} {v : Value} {d : D} (x : FreshE c h h' W v d) (hn : ∀ a, v = .ref a → ¬ W a) : Rep c h' W v d := by
  obtain ⟨a, t, rfl, hnone, e, r⟩ := x
  have hs : Sub h' (fun b => W b ∨ b = a) h' W := fun b o n e => ⟨e, fun y => n (.inl y)⟩
  cases d <;> simp only [newE, Option.some.injEq, reduceCtorEq] at e <;> subst e
  · cases r with | own hW ha hr => exact .lst (hn a rfl) ha (hr.mono hs)
  · cases r with | ownT hW hd hk hr => exact .tab (hn a rfl) hd hk (hr.mono hs)

noncomputable def PostN (c : Cx) (s : Shared) (W : Addr → Prop) (d : D) (Q : Value → Shared → Prop) : Prop :=
  ∀ v h' tk, Keep s.heap h' → FreshE c s.heap h' W v d → 0 < tk → Q v { s with heap := h', toks := tk }

theorem FreshE.out {h h' : Heap} {v : Value} {d : D} (L : Live h W) (x : FreshE c h h' W v d) : Rep c h' W v d := x.rep fun a e q => by
  obtain ⟨b, t, rfl, hn, _⟩ := x
  cases e
  obtain ⟨o, e⟩ := L _ q
  rw [hn] at e; cases e

noncomputable def PostC (c : Cx) (A : Around) (E : Value → Shared → Prop) (s : Shared) (W : Addr → Prop) (d : D) (use : Option (Value → Sem Unit)) (Q : Value → Shared → Prop) : Prop :=
  ∀ v Z h' tk, s.heap.get? Z = none → Keep s.heap h' → FreshE c s.heap h' (fun a => W a ∨ a = Z) v d → v ≠ .ref Z → (∃ m, h'.Ns Z m) → 0 < tk → compPost (model c.prog c.w) A E use Q v Z (.ok .next) { s with heap := h', toks := tk }

theorem PostN.toC {d : D} (P : PostN c s W d Q) : PostC c A E s W d none Q := by
  intro v Z h' tk hZ q x hv hn hp
  obtain ⟨m, hn⟩ := hn
  refine ⟨m, hn, fun h'' sb => ?_⟩
  have kb : Keep s.heap h'' := fun b o e => sb.extBut b o (ne_of_get hZ e) (q b o e)
  obtain ⟨a, t, rfl, hnone, e, r⟩ := x
  refine P _ h'' tk kb ⟨a, t, rfl, hnone, e, ?_⟩ hp
  have hb : ButL (· = Z) h' h'' := fun b o n e => sb.extBut b o n e
  have haZ : a ≠ Z := fun e => hv (by rw [e])
  have hent : ∀ b, entAddr c h' (.ref a) t b → b = a := by
    cases d <;> simp only [newE, Option.some.injEq, reduceCtorEq] at e <;> subst e
    · exact fun b x => x
    · exact fun b x => x
  have r1 := (r.but hb (fun b e => .inl (.inr e)) fun b e q => haZ ((hent b q).symm.trans e)).1
  exact r1.shrink (fun b x => x.elim (fun y => .inl (.inl y)) .inr) fun b q _ => .inr (hent b ((r.but hb (fun b e => .inl (.inr e)) fun b e q => haZ ((hent b q).symm.trans e)).2 b q))

theorem PostP.toN {d : D} (L : Live s.heap W) (P : PostP c s W d Q) : PostN c s W d Q := fun v h' tk q x hp => P v h' tk q (x.out L) hp
theorem PostP.toC {d : D} (L : Live s.heap W) (P : PostP c s W d Q) : PostC c A E s W d none Q := (P.toN L).toC

theorem capL_some {l : List D} {d : D} (e : capL l = some d) : d = .lst l ∧ l.length ≤ 100000 := by
  unfold capL at e
  split at e
  · rename_i h
    simp only [Option.some.injEq] at e
    exact ⟨e.symm, by simpa using h⟩
  · cases e

theorem comp_run (K : c.Ok) (hE : SE1 c n lvl C) (hTs : STs1 c n lvl C) (hI : SI1 c n lvl C) {elt tg it : PySem.Expr} {ifs : List PySem.Expr} {sc : Scope} {xs : List Nat} {sit selt : SE} {sifs : List SE} {d : D} {use : Option (Value → Sem Unit)} {pos' : Pos}
    (hsk : sc.kind = .function) (nok : namesOk sc.names = true) (fok : freeOk k sc.names = true) (h0 : cI c.T n k it = some sit) (htg : tgtOf c.T sc.names tg = some xs) (own : ownOk c.T sc.names xs = true) (h1 : cTs c.T n (relab k sc.names) ifs = some sifs)
    (h2 : cE c.T n (relab k sc.names) elt = some selt) (he : evE C (.comp selt xs sit sifs) σ = some d) (S : ES c s.heap W env k σ) (R : Rm lvl A) (hp : 0 < s.toks) (P : PostC c A E s W d use Q) :
    wpAny (model c.prog c.w) A (comprehension (.ListComp elt [⟨tg, it, ifs, 0⟩] sc pos) sc env pos' (newList []) false (eval it env) use) Q E s := by
  obtain ⟨l, e1, he⟩ := bind_inv he
  obtain ⟨ds, e2, he⟩ := bind_inv he
  first | (have hz := bind_inv he; obtain ⟨rest, e3, e4⟩ := hz) | (have hz := map_inv he; obtain ⟨rest, e3, e4⟩ := hz)
  obtain ⟨rfl, hcap⟩ := capL_some e4
  obtain ⟨cl, hcl, hc1, hc2⟩ := closure_sound (env := env) (scope := sc) fun y hy hf => S.cells y.1 (by rw [S.kind]; exact freeOk_at fok y hy hf)
  refine wpAny_comprehension_free (use := use) rfl (fun x => folded_pure h0 x) hcl hsk (namesOk_local nok) ?_
  refine hI k it sit σ env W s l ds _ E A h0 e1 e2 S R hp fun itv s₁ s₂ I fp P' St hs₁ T hp₂ => ?_
  obtain ⟨h₁, tk₁, rfl, q₁⟩ := hs₁
  refine wpAny_newObj_type ?_ (by show ([] : List Value).toArray.size ≤ sizeLine; rw [sizeLine_eq]; decide)
  refine compFrame_sound fun h₄ k4 hsz hns hcs hpw => ?_
  have Lay := laid K (scope := sc) (xs := xs) (S.keep q₁) T hsk nok fok own hc1 hc2 (o := { cls := .type "list", data := .seq ([] : List Value).toArray }) rfl k4 hns hcs hpw
  obtain ⟨h₂, tk₂, rfl, k12⟩ := T.hkeep
  have hitv := T.hit
  subst hitv
  have Dget : h₄.PlainList h₂.objs.size ([] : List Value).toArray := ⟨_, k4 _ _ (Heap.get?_push_size _ rfl)⟩
  have loop := lc_loop (s₀ := { s with heap := h₄, toks := tk₂ }) (D := h₂.objs.size) (out₀ := []) (RR := compPost (model c.prog c.w) A E use Q (.ref h₂.objs.size) (h₂.push { cls := .type "list", data := .seq ([] : List Value).toArray }).objs.size) K hE hTs R
    (turn_one elt tg it ifs sc pos (.ref I) (.ref h₂.objs.size) _) htg h1 h2 e3 rfl hcap Lay.slots (fun b hb => .inr hb) (fun b hb => .inr (.inr (.inr hb))) Lay.lsI Lay.ci hp₂ Lay.it Dget .nil (.inr (.inl rfl)) (Lay.hb _ (.inr (.inl rfl))) Lay.nDZ Lay.cD Lay.nID
    (fun h' tk ys hp' hbut ci' hD' hys' => ?_)
  · exact codeAny_compStart_list loop (T.hw.self 0 _ _ _ Lay.it.st loop)
  · have kk : Keep h₁ h' := fun b o e => hbut b o (fun x => by have := Lay.new b x; rw [this] at e; cases e) (Lay.keep b o e)
    refine P _ _ h' tk ?_ (q₁.trans kk) ?_ ?_ ci'.fr.ns hp'
    · cases e : s.heap.get? (h₂.push { cls := .type "list", data := .seq ([] : List Value).toArray }).objs.size with
      | none => rfl
      | some o => have := q₁ _ _ e; rw [Lay.new _ (.inr (.inr Lay.zls))] at this; cases this
    · refine ⟨h₂.objs.size, _, rfl, ?_, rfl, .own (.inr rfl) hD' (hys'.mono fun a o na e => ⟨e, fun x => na ?_⟩)⟩
      · cases e : s.heap.get? h₂.objs.size with
        | none => rfl
        | some o => have := q₁ _ _ e; rw [Lay.new _ (.inr (.inl rfl))] at this; cases this
      · rcases x with (x | rfl) | rfl
        · exact .inl x
        · exact .inr (.inr (.inr Lay.zls))
        · exact .inr (.inr (.inl rfl))
    · intro e
      exact Lay.nDZ (Value.ref.inj e)
end
end Mv
end
section
open PySem PySem.W PyProof.Rows
set_option Elab.async false
namespace Mv

section
variable {c : Cx} {h : Heap} {W : Addr → Prop}

noncomputable def putV : List (Str × Value) → Str → Value → List (Str × Value)
  | [], k, v => [(k, v)]
  | (a, b) :: r, k, v => if a = k then (a, v) :: r else (a, b) :: putV r k v

theorem stored_eq : ∀ (kvs : List (Str × Value)) (k : Str) (v : Value), (kvs.map (·.1)).Nodup → stored kvs k v = putV kvs k v
  | [], k, v, _ => by simp [stored, putV]
  | (a, b) :: r, k, v, hn => by
    simp only [List.map_cons, List.nodup_cons] at hn
    have ih := stored_eq r k v hn.2
    unfold putV
    by_cases ha : a = k
    · rw [if_pos ha]
      unfold stored
      rw [if_pos (by simp [ha])]
      rw [List.map_cons, if_pos ha]
      congr 1
      have : ∀ l : List (Str × Value), a ∉ l.map (·.1) → l.map (fun kv => if kv.1 = k then (kv.1, v) else kv) = l := by
        intro l
        induction l with
        | nil => intro _; rfl
        | cons y l ih =>
          intro hl
          simp only [List.map_cons, List.mem_cons, not_or] at hl
          rw [List.map_cons, ih hl.2, if_neg (fun e => hl.1 (by rw [ha, ← e]))]
      exact this r hn.1
    · rw [if_neg ha, ← ih]
      unfold stored
      by_cases hr : r.any (fun kv => decide (kv.1 = k)) = true
      · rw [if_pos hr, if_pos (by rw [List.any_cons, hr]; simp), List.map_cons, if_neg ha]
      · rw [if_neg hr, if_neg (by rw [List.any_cons]; simp only [ha, decide_false, Bool.false_or]; exact hr)]; rfl

theorem putV_put : ∀ {kvs : List (Str × Value)} {ks : List (List Nat)} {ds : List D} {k : Str} {v : Value} {d : D}, kvs.map (·.1.cps.toList) = ks → Reps c h W (kvs.map (·.2)) ds → Rep c h W v d →
    (putV kvs k v).map (·.1.cps.toList) = (putT ks ds k.cps.toList d).1 ∧ Reps c h W ((putV kvs k v).map (·.2)) (putT ks ds k.cps.toList d).2
  | [], _, _, k, v, d, hk, hr, rv => by
    subst hk
    cases hr
    exact ⟨rfl, .cons rv .nil⟩
  | (a, b) :: r, _, _, k, v, d, hk, hr, rv => by
    subst hk
    cases hr with
    | cons r1 tl =>
      rename_i d1 ds
      have ih := putV_put (k := k) rfl tl rv
      simp only [List.map_cons, putV, putT]
      by_cases ha : a = k
      · subst ha
        simp only [if_true, List.map_cons, beq_self_eq_true]
        exact ⟨trivial, .cons rv tl⟩
      · have : (a.cps.toList == k.cps.toList) = false := by
          rw [beq_eq_false_iff_ne]
          intro e; exact ha (toList_inj e)
        rw [if_neg ha, this]
        simp only [Bool.false_eq_true, if_false, List.map_cons]
        exact ⟨by rw [ih.1], .cons r1 ih.2⟩

theorem putT_len : ∀ (ks : List (List Nat)) (ds : List D) (k : List Nat) (d : D), ks.length ≤ (putT ks ds k d).1.length ∨ ks.length ≠ ds.length
  | [], ds, k, d => .inl (Nat.zero_le _)
  | a :: r, [], k, d => .inr (by simp)
  | a :: r, d1 :: ds, k, d => by
    rcases putT_len r ds k d with ih | ih
    · left
      unfold putT
      split
      · exact Nat.le_refl _
      · simp only [List.length_cons]; lia
    · right; simpa using ih

noncomputable def TabAt (c : Cx) (h : Heap) (W : Addr → Prop) (a : Addr) (ks : List (List Nat)) (ds : List D) : Prop :=
  ∃ kvs : List (Str × Value), h.DictOf (PySem.strKind c.prog c.w) a kvs ∧ kvs.map (·.1.cps.toList) = ks ∧ Reps c h W (kvs.map (·.2)) ds

theorem TabAt.len {a : Addr} {ks : List (List Nat)} {ds : List D} (t : TabAt c h W a ks ds) : ks.length = ds.length := by
  obtain ⟨kvs, _, rfl, hr⟩ := t
  have := hr.length
  simpa using this

theorem tab_set {A : Around} {E : Value → Shared → Prop} {s : Shared} {a : Addr} {ks : List (List Nat)} {ds : List D} {k : Str} {t : Tok} {v : Value} {d : D} {Q : Unit → Shared → Prop} (T : TabAt c s.heap W a ks ds) (rv : Rep c s.heap W v d) (hW : W a)
    (hl : ks.length ≤ 100000) (hQ : ∀ h', TabAt c h' W a (putT ks ds k.cps.toList d).1 (putT ks ds k.cps.toList d).2 → ButL (· = a) s.heap h' → (∃ o, h'.get? a = some o) → Q () { s with heap := h', toks := s.toks + 1 }) :
    wpAny (model c.prog c.w) A (dictSet a (.str k t) v) Q E s := by
  obtain ⟨kvs, hd, hk, hr⟩ := T
  have hn : (kvs.map (·.1)).Nodup := by obtain ⟨_, _, _, _, _, _, _, _, hn⟩ := hd; exact hn
  have hlen : kvs.length ≤ sizeLine := by
    have : kvs.length = ks.length := by rw [← hk]; simp
    rw [sizeLine_eq]; lia
  refine wpAny_dictSet_pairs (knd := PySem.strKind c.prog c.w) (k := k) (by show (k == k) = true; simp) hd (fun h' hd' sb => ?_) hlen
  have hb : ButL (· = a) s.heap h' := fun b o n e => sb.extBut b o n e
  have hw : ∀ b, b = a → W b := fun b e => e ▸ hW
  rw [stored_eq kvs k v hn] at hd'
  obtain ⟨p1, p2⟩ := putV_put (k := k) hk (hr.but hb hw) (rv.but hb hw)
  obtain ⟨o, _, _, eo, _⟩ := id hd'
  exact hQ h' ⟨_, hd', p1, p2⟩ hb ⟨o, eo⟩

theorem TabAt.at {h' : Heap} {a : Addr} {ks : List (List Nat)} {ds : List D} (T : TabAt c h W a ks ds) (hk : ∀ o, h.get? a = some o → h'.get? a = some o) (L : Addr → Prop) (hb : ButL L h h') (hw : ∀ b, L b → W b) : TabAt c h' W a ks ds := by
  obtain ⟨kvs, hd, e, hr⟩ := T
  exact ⟨kvs, hd.at hk, e, hr.but hb hw⟩
end

theorem dict_loop {prog : Program} {w : World} {A : Around} {R : Result → Shared → Prop} {s : Shared} {kx vx target iter : PySem.Expr} {scope : Scope} {pos : Pos} {it : Value} {D : Addr} {env : Env} (I : Nat → Shared → Prop)
    (turn : ∀ n s, I n s → ∀ EE, wpAny (model prog w) A (pyNext it) (fun r s₁ => match r with
      | none => R (.ok .next) s₁
      | some v => wpAny (model prog w) A (letOwnedTupleGo target it v) (fun _ s₁ => wpAny (model prog w) A (assign target env v) (fun _ s₂ =>
          wpAny (model prog w) A (eval kx env) (fun kv s₄ => wpAny (model prog w) A (eval vx env) (fun vv s₅ =>
              wpAny (model prog w) A (dictSet D kv vv) (fun _ s₆ => ∃ m, m < n ∧ I m s₆) EE s₅) EE s₄) EE s₂) EE s₁) EE s₁) EE s)
    (n : Nat) (h : I n s) : codeAny (model prog w) A (.compLoop (.DictComp kx vx [⟨target, iter, [], 0⟩] scope pos) 0 it (.ref D) env) R s := by
  refine codeAny_loop rfl I (fun n s hI => ?_) n h
  show wpAny _ A ((compTurn (.DictComp kx vx [⟨target, iter, [], 0⟩] scope pos) 0 it (.ref D) env).onRaise (fun x => do noteFrame x env; theTreesLotGoes x)) _ _ s
  refine wpAny_noted ?_
  rw [compTurn_dict]
  refine wpAny_bind (wpAny_standAt (wpAny_bind (wpAny_mono (turn n s hI _) (fun r s₁ h₁ => ?_) fun _ _ h' => h')))
  cases r with
  | none => exact wpAny_pure h₁
  | some v =>
    refine wpAny_bind (wpAny_mono h₁ (fun _ s₁' h₁' => wpAny_bind (wpAny_mono h₁' (fun _ s₂ h₂ => wpAny_bind (wpAny_pure ?_)) fun _ _ h' => h')) fun _ _ h' => h')
    exact wpAny_bind (wpAny_bind (wpAny_mono h₂ (fun kv s₄ h₄ => wpAny_bind (wpAny_holding (wpAny_mono h₄ (fun vv s₅ h₅ => wpAny_bind (wpAny_standAt (wpAny_holding (wpAny_mono h₅ (fun _ s₆ h₆ => wpAny_pure ⟨rfl, h₆⟩) fun _ _ h' => h')))) fun _ _ h' => h'))) fun _ _ h' => h'))

theorem putT_len2 : ∀ {ks : List (List Nat)} {vs : List D} {k : List Nat} {d : D}, ks.length = vs.length → (putT ks vs k d).1.length = (putT ks vs k d).2.length
  | [], [], _, _, _ => rfl
  | a :: ks, b :: vs, k, d, hl => by
    simp only [List.length_cons, Nat.add_right_cancel_iff] at hl
    have ih := putT_len2 (k := k) (d := d) hl
    unfold putT
    split
    · simp [hl]
    · simp [ih]
  | [], _ :: _, _, _, hl => by simp at hl
  | _ :: _, [], _, _, hl => by simp at hl
theorem dcompGo_len {k v : Env1 → Option D} {x : Nat} {σ : Env1} : ∀ {ds : List D} {ks : List (List Nat)} {vs : List D} {p : List (List Nat) × List D}, dcompGo k v x σ ds ks vs = some p → ks.length = vs.length → ks.length ≤ p.1.length
  | [], ks, vs, p, e, _ => by simp only [dcompGo, Option.some.injEq] at e; subst e; exact Nat.le_refl _
  | d :: r, ks, vs, p, e, hl => by
    simp only [dcompGo, Option.bind_eq_some_iff] at e
    obtain ⟨kd, _, vd, _, e⟩ := e
    cases kd with
    | str s' =>
      have h1 := dcompGo_len e (putT_len2 hl)
      rcases putT_len ks vs s' vd with h3 | h3
      · lia
      · exact absurd hl h3
    | _ => cases e

section
variable {c : Cx} {n lvl : Nat} {C : Nat → List D → Option D} {A : Around} {s₀ : Shared} {W L Ls : Addr → Prop} {env : Env} {k : Kinds} {σ : Env1}

inductive DlI (c : Cx) (W L Ls : Addr → Prop) (env : Env) (k : Kinds) (ρ : Env1) (s₀ : Shared) (I D : Addr) (St : Nat → Heap → Prop) (n : Nat) (g : Nat → List (List Nat) → List Mv.D → Option (List (List Nat) × List Mv.D)) (p : List (List Nat) × List Mv.D) : Nat → Shared → Prop
  | mk {i : Nat} {h : Heap} {tk : Tok} {ks : List (List Nat)} {vs : List Mv.D} (hi : i ≤ n) (hp : 0 < tk) (hbut : ButL (fun b => b = I ∨ b = D ∨ Ls b) s₀.heap h) (ci : CI c h W L env k ρ) (hD : TabAt c h W D ks vs)
      (hst : St i h) (hgo : g i ks vs = some p) : DlI c W L Ls env k ρ s₀ I D St n g p (n + 1 - i) { s₀ with heap := h, toks := tk }
theorem dcomp_inv {f g : Env1 → Option Mv.D} {x : Nat} {σ : Env1} {d : Mv.D} {r : List Mv.D} {ks : List (List Nat)} {vs : List Mv.D} {p : List (List Nat) × List Mv.D} (h : dcompGo f g x σ (d :: r) ks vs = some p) :
    ∃ s v, f (upd σ x (.frz d)) = some (.str s) ∧ g (upd σ x (.frz d)) = some v ∧ dcompGo f g x σ r (putT ks vs s v).1 (putT ks vs s v).2 = some p := by
  obtain ⟨kd, h1, h⟩ := bind_inv h
  obtain ⟨v, h2, h⟩ := bind_inv h
  cases kd with
  | str s => exact ⟨s, v, h1, h2, h⟩
  | _ => exact nos h
theorem tab_room {h : Heap} {D : Addr} {ks : List (List Nat)} {vs r : List Mv.D} {ss : Str} {vd : Mv.D} {vv : Value} {f g : Env1 → Option Mv.D} {x : Nat} {σ : Env1} {p : List (List Nat) × List Mv.D} (hD : TabAt c h W D ks vs) (rv : Rep c h W vv vd)
    (hgo : dcompGo f g x σ r (putT ks vs ss.cps.toList vd).1 (putT ks vs ss.cps.toList vd).2 = some p) (hcap : p.1.length ≤ 100000) : ks.length ≤ 100000 := by
  have h2 := hD.len
  rcases putT_len ks vs ss.cps.toList vd with h3 | h3
  · have hl2 : (putT ks vs ss.cps.toList vd).1.length = (putT ks vs ss.cps.toList vd).2.length := by
      obtain ⟨kvs, _, rfl, hr⟩ := hD
      obtain ⟨p1, p2⟩ := putV_put (k := ss) rfl hr rv
      rw [← p1, List.length_map, ← p2.length, List.length_map]
    have := dcompGo_len hgo hl2
    lia
  · exact absurd h2 h3
theorem dl_loop (K : c.Ok) (hE : SE1 c n lvl C) (R : Rm lvl A) {names : Kinds} {RR : Result → Shared → Prop} {tg iter kx vx : PySem.Expr} {scope : Scope} {pos : Pos} {I D : Addr}
    {x : Nat} {sk sv : SE} (ht : tgtOf c.T names tg = some [x]) (h1 : cE c.T n k kx = some sk) (h2 : cE c.T n k vx = some sv)
    {ds : List Mv.D} {p : List (List Nat) × List Mv.D} (hgo : dcompGo (fun σ' => evE C sk σ') (fun σ' => evE C sv σ') x σ ds [] [] = some p) (hcap : p.1.length ≤ 100000)
    (hsl : Slots c W L Ls env names) (hLW : ∀ b, L b → W b) (hLsW : ∀ b, Ls b → W b) (hLs : ∀ b, Ls b → b ≠ I ∧ b ≠ D)
    (CI₀ : CI c s₀.heap W L env k (rem [x] σ)) (hp : 0 < s₀.toks)
    {fp : List Addr} {P : Nat → Value → Prop} {St : Nat → Heap → Prop} (T : ItL c A s₀.heap W L (fun b => b = D ∨ Ls b) env ds I fp P St)
    (hD : TabAt c s₀.heap W D [] []) (hLD : L D) (hDb : c.hb.get? D = none) (hDl : D ≠ env.locals) (hDc : ∀ x a, env.cells.lookup x = some a → a ≠ D) (hID : I ≠ D)
    (hR : ∀ h' tk, 0 < tk → ButL (fun b => b = I ∨ b = D ∨ Ls b) s₀.heap h' → CI c h' (fun a => W a ∧ a ≠ I) L env k (rem [x] σ) → TabAt c h' W D p.1 p.2 → RR (.ok .next) { s₀ with heap := h', toks := tk }) :
    codeAny (model c.prog c.w) A (.compLoop (.DictComp kx vx [⟨tg, iter, [], 0⟩] scope pos) 0 (.ref I) (.ref D) env) RR s₀ := by
  refine dict_loop (DlI c W L Ls env k (rem [x] σ) s₀ I D St ds.length (fun i => dcompGo (fun σ' => evE C sk σ') (fun σ' => evE C sv σ') x σ (ds.drop i)) p) ?_ (ds.length + 1) (.mk (Nat.zero_le _) hp (ButL.refl _ _) CI₀ hD T.st hgo)
  clear hp CI₀ hD hgo
  intro m s' inv EE
  cases inv with | @mk i h tk ks vs hi hp hbut ci hD hst hgo => ?_
  have hLwW : ∀ b, (b = I ∨ b = D ∨ Ls b) → W b := fun b h => h.elim (fun e => e.symm ▸ T.inW) fun h => h.elim (fun e => e.symm ▸ hLW _ hLD) (hLsW b)
  by_cases hlt : i < ds.length
  · refine pos_any hp fun E' => T.hw.item i _ _ _ hlt hst fun v h₁ tk₁ hPv hst₁ hk₁ hp₁ => ?_
    have b1 : ButL (· = I) h h₁ := fun b o nb e => hk₁ b o (by simpa using nb) e
    obtain ⟨d, hd, rd⟩ := T.item i v hlt hPv
    rw [drop_one hlt hd] at hgo
    obtain ⟨sl, vd, hkd, hvd, hgo⟩ := dcomp_inv hgo
    have hb : bindT σ [x] d = some (upd σ x (.frz d)) := rfl
    have hbut₁ : ButL (fun b => b = I ∨ b = D ∨ Ls b) s₀.heap h₁ := hbut.trans (b1.mono fun b e => .inl e)
    have hIl : ∃ o, h₁.get? I = some o := T.live _ _ hst₁
    have ci₁ : CI c h₁ W L env k (rem [x] σ) := ci.but b1 (fun b e => e ▸ T.inW) (fun b e => e ▸ T.inL) (fun e => T.nloc e.symm) (fun x a e => T.ncell x a e)
      (fun b o e => b1 b o (ne_of_get T.hb e) (ci.es.base b o e)) fun a e => e ▸ hIl
    have rd₁ : Rep c h₁ W v d := rd.but hbut₁ hLwW
    refine let_sound (fun a ea => T.tup i v a hPv ea (i + 1) h₁ hst₁) ?_
    refine pos_any hp₁ fun E' => tgt_sound (s := { s₀ with heap := h₁, toks := tk₁ }) K R.hh ci₁ hsl ht hb rd₁ fun h₂ tk₂ b2 ci₂ hp₂ => ?_
    refine hE k kx sk _ env W { s₀ with heap := h₂, toks := tk₂ } (.str sl) _ _ A h1 hkd ci₂.es R hp₂ fun kv h₃ tk₃ q₃ rk hp₃ => ?_
    have ci₃ := ci₂.keep q₃
    refine hE k vx sv _ env W { s₀ with heap := h₃, toks := tk₃ } vd _ _ A h2 hvd ci₃.es R hp₃ fun vv h₄ tk₄ q₄ rv hp₄ => ?_
    have ci₄ := ci₃.keep q₄
    have hst₂ : St (i + 1) h₂ := T.hw.frame _ _ _ hst₁ fun b hb o e => b2 b o (fun q => T.nfp b hb (.inr q)) e
    have hst₄ : St (i + 1) h₄ := T.hw.frame _ _ _ hst₂ fun b _ o e => q₄ b o (q₃ b o e)
    have b14 : ButL (fun b => b = I ∨ b = D ∨ Ls b) h h₄ := (b1.mono fun b e => .inl e).trans ((b2.mono fun b e => .inr (.inr e)).trans (q₃.trans q₄).but)
    have hD₄ : TabAt c h₄ W D ks vs := hD.at (fun o e => q₄ _ o (q₃ _ o (b2 _ o (fun q => (hLs D q).2 rfl) (b1 _ o (fun q => hID q.symm) e)))) _ b14 hLwW
    obtain ⟨ss, st, hss, hkv⟩ := rk.strI
    rw [hss] at hgo
    rw [hkv]
    · · refine tab_set (s := { s₀ with heap := h₄, toks := tk₄ }) hD₄ rv (hLW _ hLD) (tab_room hD₄ rv hgo hcap) fun h₅ hD₅ b5 hl5 => ?_
        refine ⟨_, turn_less hlt, .mk hlt (Nat.succ_pos _) (hbut.trans (b14.trans (b5.mono fun b e => .inr (.inl e)))) ?_ hD₅ ?_ hgo⟩
        · refine (ci₄.but b5 (fun b e => e ▸ hLW _ hLD) (fun b e => e ▸ hLD) (fun e => hDl e.symm) (fun x a e => hDc x a e) (fun b o e => ?_) fun a e => e ▸ hl5).weak fun n t e => ?_
          · exact b5 b o (ne_of_get hDb e) (ci₄.es.base b o e)
          · rw [look_rem] at e
            split at e
            · cases e
            · rename_i hn
              rw [look_upd, if_neg (by simpa using hn)]; exact e
        · exact T.hw.frame _ _ _ hst₄ fun b hb o e => b5 b o (fun q => T.nfp b hb (.inl q)) e
  · have this : i = ds.length := Nat.le_antisymm hi (Nat.not_lt.mp hlt)
    refine pos_any hp fun E' => T.hw.done _ _ _ (this ▸ hst) fun h₁ tk₁ hk₁ hp₁ => ?_
    have b1 : ButL (· = I) h h₁ := fun b o nb e => hk₁ b o (by simpa using nb) e
    have e0 : (ks, vs) = p := by
      rw [this, List.drop_length] at hgo
      exact Option.some.inj hgo
    have e1 : p.1 = ks := (congrArg Prod.fst e0).symm
    have e2 : p.2 = vs := (congrArg Prod.snd e0).symm
    refine hR h₁ tk₁ hp₁ (hbut.trans (b1.mono fun b e => .inl e)) ?_ (by rw [e1, e2]; exact hD.at (fun o e => b1 _ o (fun q => hID q.symm) e) _ b1 fun b e => e ▸ T.inW)
    exact ci.drop b1 T.inW T.inL T.nloc T.ncell T.hb
end

section
variable {c : Cx} {n lvl : Nat} {C : Nat → List D → Option D} {A : Around} {E : Value → Shared → Prop} {s : Shared} {W : Addr → Prop} {env : Env} {k : Kinds} {σ : Env1} {Q : Value → Shared → Prop} {pos : Pos}

theorem capT_some {p : List (List Nat) × List D} {d : D} (e : capT p = some d) : d = .tab p.1 p.2 ∧ p.1.length ≤ 100000 := by
  unfold capT at e
  split at e
  · rename_i h
    simp only [Option.some.injEq] at e
    exact ⟨e.symm, by simpa using h⟩
  · cases e

theorem dcomp_run (K : c.Ok) (hE : SE1 c n lvl C) (hI : SI1 c n lvl C) {kx vx tg it : PySem.Expr} {sc : Scope} {x : Nat} {sit sk sv : SE} {d : D} {use : Option (Value → Sem Unit)} {pos' : Pos}
    (hsk : sc.kind = .function) (nok : namesOk sc.names = true) (fok : freeOk k sc.names = true) (h0 : cI c.T n k it = some sit) (htg : tgtOf c.T sc.names tg = some [x]) (own : ownOk c.T sc.names [x] = true) (h1 : cE c.T n (relab k sc.names) kx = some sk)
    (h2 : cE c.T n (relab k sc.names) vx = some sv) (he : evE C (.dcomp sk sv x sit) σ = some d) (S : ES c s.heap W env k σ) (R : Rm lvl A) (hp : 0 < s.toks) (P : PostC c A E s W d use Q) :
    wpAny (model c.prog c.w) A (comprehension (.DictComp kx vx [⟨tg, it, [], 0⟩] sc pos) sc env pos' newDict false (eval it env) use) Q E s := by
  obtain ⟨l, e1, he⟩ := bind_inv he
  obtain ⟨ds, e2, he⟩ := bind_inv he
  first | (have hz := bind_inv he; obtain ⟨rest, e3, e4⟩ := hz) | (have hz := map_inv he; obtain ⟨rest, e3, e4⟩ := hz)
  obtain ⟨rfl, hcap⟩ := capT_some e4
  obtain ⟨cl, hcl, hc1, hc2⟩ := closure_sound (env := env) (scope := sc) fun y hy hf => S.cells y.1 (by rw [S.kind]; exact freeOk_at fok y hy hf)
  refine wpAny_comprehension_free (use := use) rfl (fun x => folded_pure h0 x) hcl hsk (namesOk_local nok) ?_
  refine hI k it sit σ env W s l ds _ E A h0 e1 e2 S R hp fun itv s₁ s₂ I fp P' St hs₁ T hp₂ => ?_
  obtain ⟨h₁, tk₁, rfl, q₁⟩ := hs₁
  refine wpAny_newObj_type ?_ (by show (#[] : Array DictEntry).size ≤ sizeLine + 1; rw [sizeLine_eq]; decide)
  refine compFrame_sound fun h₄ k4 hsz hns hcs hpw => ?_
  have Lay := laid K (scope := sc) (xs := [x]) (S.keep q₁) T hsk nok fok own hc1 hc2 (o := { cls := .type "dict", data := .dict #[] }) rfl k4 hns hcs hpw
  obtain ⟨h₂, tk₂, rfl, k12⟩ := T.hkeep
  have hitv := T.hit
  subst hitv
  have Dget : TabAt c h₄ (fun a => W a ∨ (a = I ∨ a = h₂.objs.size ∨ (a = (h₂.push { cls := .type "dict", data := .dict #[] }).objs.size ∨ ∃ x, (cellsFrom ((h₂.push { cls := .type "dict", data := .dict #[] }).objs.size + 1) sc.names []).lookup x = some a))) h₂.objs.size [] [] :=
    ⟨[], (Heap.DictOf.new h₂).keep k4, rfl, .nil⟩
  have loop := dl_loop (s₀ := { s with heap := h₄, toks := tk₂ }) (D := h₂.objs.size) (iter := it) (scope := sc) (pos := pos) (RR := compPost (model c.prog c.w) A E use Q (.ref h₂.objs.size) (h₂.push { cls := .type "dict", data := .dict #[] }).objs.size) K hE R
    htg h1 h2 e3 hcap Lay.slots (fun b hb => .inr hb) (fun b hb => .inr (.inr (.inr hb))) Lay.lsI Lay.ci hp₂ Lay.it Dget (.inr (.inl rfl)) (Lay.hb _ (.inr (.inl rfl))) Lay.nDZ Lay.cD Lay.nID
    (fun h' tk hp' hbut ci' hD' => ?_)
  · exact codeAny_compStart_dict loop (T.hw.self 0 _ _ _ Lay.it.st loop)
  · have kk : Keep h₁ h' := fun b o e => hbut b o (fun x => by have := Lay.new b x; rw [this] at e; cases e) (Lay.keep b o e)
    refine P _ _ h' tk ?_ (q₁.trans kk) ?_ ?_ ci'.fr.ns hp'
    · cases e : s.heap.get? (h₂.push { cls := .type "dict", data := .dict #[] }).objs.size with
      | none => rfl
      | some o => have := q₁ _ _ e; rw [Lay.new _ (.inr (.inr Lay.zls))] at this; cases this
    · obtain ⟨kvs, hd, hk, hr⟩ := hD'
      refine ⟨h₂.objs.size, _, rfl, ?_, rfl, .ownT (.inr rfl) hd hk (hr.mono fun a o na e => ⟨e, fun x => na ?_⟩)⟩
      · cases e : s.heap.get? h₂.objs.size with
        | none => rfl
        | some o => have := q₁ _ _ e; rw [Lay.new _ (.inr (.inl rfl))] at this; cases this
      · rcases x with (x | rfl) | rfl
        · exact .inl x
        · exact .inr (.inr (.inr Lay.zls))
        · exact .inr (.inr (.inl rfl))
    · intro e
      exact Lay.nDZ (Value.ref.inj e)
end
end Mv
end
section
open PySem PySem.W PyProof.Rows
set_option Elab.async false
namespace Mv

theorem outer_loop {prog : Program} {w : World} {A : Around} {R : Result → Shared → Prop} {s : Shared} {elt t1 i1 t2 i2 : PySem.Expr} {scope : Scope} {pos : Pos} {it acc : Value} {env : Env} (hs : ∀ x, foldedSetIterable i2 env x = pure x) (I : Nat → Shared → Prop)
    (turn : ∀ n s, I n s → ∀ EE, wpAny (model prog w) A (pyNext it) (fun r s₁ => match r with
      | none => R (.ok .next) s₁
      | some v => wpAny (model prog w) A (letOwnedTupleGo t1 it v) (fun _ s₁ => wpAny (model prog w) A (assign t1 env v) (fun _ s₂ =>
          wpAny (model prog w) A (eval i2 env) (fun x s₃ => wpAny (model prog w) A (pyIter x) (fun it2 s₄ =>
            codeAny (model prog w) A (.compStart (.ListComp elt [⟨t1, i1, [], 0⟩, ⟨t2, i2, [], 0⟩] scope pos) 1 it2 acc env) (fun r s' => r = .ok .next ∧ ∃ m, m < n ∧ I m s') s₄) EE s₃) EE s₂) EE s₁) EE s₁) EE s)
    (n : Nat) (h : I n s) : codeAny (model prog w) A (.compLoop (.ListComp elt [⟨t1, i1, [], 0⟩, ⟨t2, i2, [], 0⟩] scope pos) 0 it acc env) R s := by
  refine codeAny_loop rfl I (fun n s hI => ?_) n h
  show wpAny _ A ((compTurn (.ListComp elt [⟨t1, i1, [], 0⟩, ⟨t2, i2, [], 0⟩] scope pos) 0 it acc env).onRaise (fun x => do noteFrame x env; theTreesLotGoes x)) _ _ s
  refine wpAny_noted ?_
  rw [turn_outer]
  refine wpAny_bind (wpAny_standAt (wpAny_bind (wpAny_mono (turn n s hI _) (fun r s₁ h₁ => ?_) fun _ _ h' => h')))
  cases r with
  | none => exact wpAny_pure h₁
  | some v =>
    refine wpAny_bind (wpAny_mono h₁ (fun _ s₁' h₁' => wpAny_bind (wpAny_mono h₁' (fun _ s₂ h₂ => ?_) fun _ _ h' => h')) fun _ _ h' => h')
    refine wpAny_bind (wpAny_mono h₂ (fun x s₃ h₃ => wpAny_bind (wpAny_standAt (wpAny_bind (wpAny_of_eq (hs x) ?_)))) fun _ _ h' => h')
    refine wpAny_bind (wpAny_holding (wpAny_mono h₃ (fun it2 s₄ h₄ => ?_) fun _ _ h' => h'))
    refine wpAny_bind (wpAny_runOwn (codeAny_mono h₄ fun r s' hr => ?_))
    obtain ⟨rfl, hr⟩ := hr
    exact wpAny_pure ⟨rfl, hr⟩

theorem start_two {prog : Program} {w : World} {A : Around} {R : Result → Shared → Prop} {s : Shared} {elt target iter : PySem.Expr} {ifs : List PySem.Expr} {g : PySem.Comprehension} {scope : Scope} {pos : Pos} {it acc : Value} {env : Env}
    (h0 : codeAny (model prog w) A (.compLoop (.ListComp elt [g, ⟨target, iter, ifs, 0⟩] scope pos) 1 it acc env) R s)
    (h : wpAny (model prog w) A (pyIter it) (fun it' s' => codeAny (model prog w) A (.compLoop (.ListComp elt [g, ⟨target, iter, ifs, 0⟩] scope pos) 1 it' acc env) R s')
      (notedBy (model prog w) A env fun x s' => R (.error x) s') s) :
    codeAny (model prog w) A (.compStart (.ListComp elt [g, ⟨target, iter, ifs, 0⟩] scope pos) 1 it acc env) R s := by
  refine codeAny_of_tree ?_
  show wpAny _ _ ((compStart (.ListComp elt [g, ⟨target, iter, ifs, 0⟩] scope pos) 1 it acc env).onRaise (fun x => do noteFrame x env; standAt theWindowsPlace)) _ _ s
  refine wpAny_notedAt ?_
  unfold compStart
  show wpAny _ _ (ask >>= _) _ _ s
  refine wpAny_bind (wpAny_askSetting (wpAny_ite ?_))
  split
  · first
      | exact wpAny_bind (wpAny_pure (wpAny_pure (And.intro rfl h0)))
      | exact wpAny_pure (And.intro rfl h0)
  · first
      | exact wpAny_bind (wpAny_rule (wpAny_bind (wpAny_standAt (wpAny_bind (wpAny_mono h (fun it' s' h' => wpAny_pure (And.intro rfl h')) fun _ _ x => x)))))
      | (refine wpAny_bind (wpAny_rule ?_); show wpAny _ _ (standAt iter.pos >>= _) _ _ s; exact wpAny_bind (wpAny_standAt (wpAny_bind (wpAny_mono h (fun it' s' h' => wpAny_pure (And.intro rfl h')) fun _ _ x => x))))

section
variable {c : Cx} {n lvl : Nat} {C : Nat → List D → Option D} {A : Around} {s₀ : Shared} {W L Ls : Addr → Prop} {env : Env} {k : Kinds} {σ : Env1}

theorem CI.sub {h : Heap} {W' L' : Addr → Prop} (I : CI c h W L env k σ) (hw : ∀ a, W' a ↔ W a) (hl : ∀ a, L' a → L a) : CI c h W' L' env k σ := by
  have : W' = W := funext fun a => propext (hw a)
  subst this
  exact ⟨I.es, I.fr, fun n x t v e1 e2 V b hb => I.off n x t v e1 e2 V b (hl b hb)⟩
theorem CI.grow {h h' : Heap} {I₀ : Addr} (I : CI c h W L env k σ) (q : Keep h h') (hn : h.get? I₀ = none) (hl : ∃ o, h'.get? I₀ = some o) : CI c h' (fun a => W a ∨ a = I₀) (fun a => L a ∨ a = I₀) env k σ := by
  have hne : ∀ a o, h.get? a = some o → a ≠ I₀ := fun a o e => ne_of_get hn e
  have key : ∀ n x t, c.T.nl[n]? = some x → look σ n = some t → isVar k x = true → ∃ v, VarAt h' env x v ∧ EntRel c h' (fun a => W a ∨ a = I₀) v t ∧ ∀ b, (L b ∨ b = I₀) → ¬ entAddr c h' v t b := by
    intro n x t e1 e2 e3
    obtain ⟨v, V, r⟩ := I.es.vars n x t e1 e2 e3
    refine ⟨v, V.keep q, r.mono' (fun a o na e => ⟨q _ _ e, fun x => x.elim na (hne a o e)⟩) fun a o w e => ⟨q _ _ e, .inl w⟩, fun b hb x => ?_⟩
    have x' := entAddr_keep r q x
    rcases hb with hb | rfl
    · exact I.off n _ t v e1 e2 V b hb x'
    · obtain ⟨_, o, e⟩ := entAddr_live r x'
      exact hne _ o e rfl
  refine ⟨⟨I.es.base.trans q, fun a ha => ?_, I.es.fk, I.es.gl, I.es.bl, I.es.ks, I.es.cells, I.es.cinj, (I.es.keep q).clive, fun n x t e1 e2 e3 => ?_⟩, I.fr.keep q, fun n x t v e1 e2 V => ?_⟩
  · rcases ha with ha | rfl
    · obtain ⟨o, e⟩ := I.es.live a ha; exact ⟨o, q _ _ e⟩
    · exact hl
  · obtain ⟨v, V, r, _⟩ := key n x t e1 e2 e3
    exact ⟨v, V, r⟩
  · obtain ⟨v', V', _, o⟩ := key n x t e1 e2 (V.isVar I.es.ks)
    rw [V.uniq V']; exact o

theorem look_del (x n : Nat) (σ : Env1) : look (del σ x) n = if n = x then none else look σ n := by
  have : del σ x = rem [x] σ := by
    unfold del rem
    congr 1
    funext p
    rw [List.contains_cons]
    simp only [List.contains_nil, Bool.or_false]
    cases h : p.1 == x with
    | true => rw [beq_iff_eq.mp h]; simp
    | false =>
      have : p.1 ≠ x := by simpa using h
      simp [bne, h]
  rw [this, look_rem]
  by_cases hn : n = x
  · subst hn; simp
  · simp [hn]

theorem room2 {a r total : List Mv.D} (h : a ++ r = total) (hc : total.length ≤ 100000) : a.length ≤ 100000 := by
  rw [← h, List.length_append] at hc; lia
theorem c2_loop (K : c.Ok) (hE : SE1 c n lvl C) (hTs : STs1 c n lvl C) (hI : SI1 c n lvl C) (R : Rm lvl A) {names : Kinds} {RR : Result → Shared → Prop} {t1 i1 t2 i2 elt : PySem.Expr} {scope : Scope} {pos : Pos} {I D : Addr}
    {x y : Nat} {se si : SE} (hn1 : 1 ≤ n) (ht1 : tgtOf c.T names t1 = some [x]) (ht2 : tgtOf c.T names t2 = some [y]) (h1 : cI c.T n k i2 = some si) (h2 : cE c.T n k elt = some se)
    {ds total : List Mv.D} (hgo : comp2Go (fun σ' => evE C se σ') (fun σ' => evE C si σ') x y σ ds = some total) (hcap : total.length ≤ 100000)
    (hsl : Slots c W L Ls env names) (hLW : ∀ b, L b → W b) (hLsW : ∀ b, Ls b → W b) (hLs : ∀ b, Ls b → b ≠ I ∧ b ≠ D)
    (CI₀ : CI c s₀.heap W L env k (rem [x, y] σ)) (hp : 0 < s₀.toks)
    {fp : List Addr} {P : Nat → Value → Prop} {St : Nat → Heap → Prop} (T : ItL c A s₀.heap W L (fun b => b = D ∨ Ls b) env ds I fp P St)
    (hD : s₀.heap.PlainList D ([] : List Value).toArray) (hLD : L D) (hDb : c.hb.get? D = none) (hDl : D ≠ env.locals) (hDc : ∀ x a, env.cells.lookup x = some a → a ≠ D) (hID : I ≠ D)
    (hR : ∀ h' tk ys, 0 < tk → ButL (fun b => b = I ∨ b = D ∨ Ls b ∨ s₀.heap.get? b = none) s₀.heap h' → (∃ m, h'.Ns env.locals m) → h'.PlainList D ys.toArray → Reps c h' W ys total → RR (.ok .next) { s₀ with heap := h', toks := tk }) :
    codeAny (model c.prog c.w) A (.compLoop (.ListComp elt [⟨t1, i1, [], 0⟩, ⟨t2, i2, [], 0⟩] scope pos) 0 (.ref I) (.ref D) env) RR s₀ := by
  have hbW : ∀ b, W b → ∃ o, s₀.heap.get? b = some o := CI₀.es.live
  refine outer_loop (fun x => folded_pure h1 x) (LcI c W L Ls env k (rem [x] (del σ y)) s₀ I D St ds.length (fun i => comp2Go (fun σ' => evE C se σ') (fun σ' => evE C si σ') x y σ (ds.drop i)) total) ?_ (ds.length + 1)
    (.mk (Nat.zero_le _) hp (ButL.refl _ _) (CI₀.weak fun n t e => ?_) hD .nil T.st hgo rfl)
  · clear hp CI₀ hD hgo hbW
    intro m s' inv EE
    cases inv with | @mk i h tk ys out r hi hp hbut ci hD hys hst hgo htot => ?_
    have hLwW : ∀ b, (b = I ∨ b = D ∨ Ls b) → W b := fun b h => h.elim (fun e => e.symm ▸ T.inW) fun h => h.elim (fun e => e.symm ▸ hLW _ hLD) (hLsW b)
    by_cases hlt : i < ds.length
    · refine pos_any hp fun E' => T.hw.item i _ _ _ hlt hst fun v h₁ tk₁ hPv hst₁ hk₁ hp₁ => ?_
      have b1 : ButL (· = I) h h₁ := fun b o nb e => hk₁ b o (by simpa using nb) e
      obtain ⟨d, hd, rd⟩ := T.item i v hlt hPv
      rw [drop_one hlt hd] at hgo
      obtain ⟨dl, hdl, hgo⟩ := bind_inv hgo
      obtain ⟨l2, hl2, hgo⟩ := bind_inv hgo
      obtain ⟨ysd, hysd, hgo⟩ := bind_inv hgo
      obtain ⟨r', hgo', er⟩ := map_inv hgo
      have hb : bindT (del σ y) [x] d = some (upd (del σ y) x (.frz d)) := rfl
      have hbut₁ : ButL (fun b => b = I ∨ b = D ∨ Ls b) s₀.heap h₁ := hbut.trans (b1.mono fun b e => .inl e)
      have hIl : ∃ o, h₁.get? I = some o := T.live _ _ hst₁
      have ci₁ : CI c h₁ W L env k (rem [x] (del σ y)) := ci.but b1 (fun b e => e ▸ T.inW) (fun b e => e ▸ T.inL) (fun e => T.nloc e.symm) (fun x a e => T.ncell x a e)
        (fun b o e => b1 b o (ne_of_get T.hb e) (ci.es.base b o e)) fun a e => e ▸ hIl
      have rd₁ : Rep c h₁ W v d := rd.but hbut₁ hLwW
      refine let_sound (fun a ea => T.tup i v a hPv ea (i + 1) h₁ hst₁) ?_
      refine pos_any hp₁ fun E' => tgt_sound (s := { s₀ with heap := h₁, toks := tk₁ }) K R.hh ci₁ hsl ht1 hb rd₁ fun h₂ tk₂ b2 ci₂ hp₂ => ?_
      have hst₂ : St (i + 1) h₂ := T.hw.frame _ _ _ hst₁ fun b hb o e => b2 b o (fun q => T.nfp b hb (.inr q)) e
      refine hI k i2 si _ env W { s₀ with heap := h₂, toks := tk₂ } dl l2 _ _ A h1 hdl hl2 ci₂.es R hp₂ fun itv s₃ s₄ I₂ fp₂ P₂ St₂ hs₃ T₂ hp₄ => ?_
      obtain ⟨h₃, tk₃, rfl, q₃⟩ := hs₃
      obtain ⟨h₄, tk₄, rfl, q₄⟩ := T₂.hkeep
      have hitv := T₂.hit
      subst hitv
      have ci₃ := ci₂.keep q₃
      have I2l : ∃ o, h₄.get? I₂ = some o := T₂.hlive 0 h₄ T₂.hst
      have I2n : h₃.get? I₂ = none := T₂.hnew
      have I2ne : ∀ a o, h₃.get? a = some o → a ≠ I₂ := fun a o e => ne_of_get I2n e
      have I2W : ¬ W I₂ := fun q => let ⟨o, e⟩ := ci₃.es.live _ q; I2ne _ o e rfl
      have ci₄ := ci₃.grow q₄ I2n I2l
      have ci₄' : CI c h₄ (fun a => W a ∨ a = I₂) (fun a => L a ∨ a = I₂) env k (rem [y] (upd (del σ y) x (.frz d))) := ci₄.weak fun n t e => by
        rw [look_rem] at e; split at e
        · cases e
        · exact e
      have b14 : ButL (fun b => b = I ∨ b = D ∨ Ls b) h h₄ := (b1.mono fun b e => .inl e).trans ((b2.mono fun b e => .inr (.inr e)).trans (q₃.trans q₄).but)
      have hD₃ : h₃.PlainList D ys.toArray := hD.at fun o e => q₃ _ o (b2 _ o (fun q => (hLs D q).2 rfl) (b1 _ o (fun q => hID q.symm) e))
      have b13 : ButL (fun b => b = I ∨ b = D ∨ Ls b) h h₃ := (b1.mono fun b e => .inl e).trans ((b2.mono fun b e => .inr (.inr e)).trans q₃.but)
      have hys₃ : Reps c h₃ W ys out := hys.but b13 hLwW
      have hys₄ : Reps c h₄ (fun a => W a ∨ a = I₂) ys out := hys₃.mono fun a o na e => ⟨q₄ _ _ e, fun q => q.elim na (I2ne a o e)⟩
      have htot' : (out ++ ysd) ++ r' = total := by rw [List.append_assoc, er]; exact htot
      have locl : ∃ o, h₃.get? env.locals = some o := let ⟨m, o, _, _, e, _⟩ := ci₃.fr.ns; ⟨o, e⟩
      have ifsn : cTs c.T n k [] = some [] := by cases n with
        | zero => lia
        | succ n => rfl
      have hysd' : compGo (fun σ' => evE C se σ') (fun σ' => evTs C [] σ') [y] (upd (del σ y) x (.frz d)) l2 = some ysd := by
        have : (fun σ' => evTs C [] σ') = fun (_ : Env1) => some true := by funext σ'; simp [evTs]
        rw [this]; exact hysd
      have hst₄ : St (i + 1) h₄ := T.hw.frame _ _ _ hst₂ fun b _ o e => q₄ b o (q₃ b o e)
      have loop := lc_loop (s₀ := { s₀ with heap := h₄, toks := tk₄ }) (W := fun a => W a ∨ a = I₂) (L := fun a => L a ∨ a = I₂) (Ls := Ls) (names := names) (I := I₂) (D := D) (ys₀ := ys) (out₀ := out) (total := out ++ ysd) (ds := l2) (fp := fp₂) (P := P₂) (St := St₂)
        (RR := fun r s' => r = .ok .next ∧ ∃ m, m < ds.length + 1 - i ∧ LcI c W L Ls env k (rem [x] (del σ y)) s₀ I D St ds.length (fun i => comp2Go (fun σ' => evE C se σ') (fun σ' => evE C si σ') x y σ (ds.drop i)) total m s')
        K hE hTs R (turn_two elt t2 i2 [] ⟨t1, i1, [], 0⟩ scope pos (.ref I₂) (.ref D) env) ht2 ifsn h2 hysd' rfl (by exact room2 htot' hcap)
        (fun z hz => let ⟨a, s1, s2, s3, s4, s5⟩ := hsl z hz; ⟨a, s1, s2, .inl s3, .inl s4, s5⟩) (fun b hb => hb.elim (fun q => .inl (hLW b q)) .inr) (fun b hb => .inl (hLsW b hb))
        (fun b hb => ⟨fun q => I2W (q ▸ hLsW b hb), (hLs b hb).2⟩) ci₄' hp₄
        ⟨T₂.hw, T₂.hst, .inr rfl, .inr rfl, (by
            cases e : c.hb.get? I₂ with
            | none => rfl
            | some o => exact absurd rfl (I2ne _ o (ci₃.es.base _ _ e))), (fun q => by obtain ⟨o, e⟩ := locl; exact I2ne _ o e q.symm), (fun z a e => by
            obtain ⟨w, o, e', _⟩ := ci₃.es.clive z a e
            exact I2ne a o e'), (fun b hb q => by
            have hWb : W b := q.elim (fun e => e ▸ hLW _ hLD) (hLsW b)
            by_cases hbI : b = I₂
            · exact I2W (hbI ▸ hWb)
            · exact (T₂.hoff b hb hbI).1 hWb), (fun b hb hn => let ⟨o, e⟩ := (T₂.hoff b hb hn).2; ⟨o, q₄ _ _ e⟩), (fun j u hj hpu => by
            obtain ⟨d', e', r'⟩ := T₂.hitem j u hj hpu
            exact ⟨d', e', r'.mono fun a o na e => ⟨q₄ _ _ e, fun q => q.elim na (I2ne a o e)⟩⟩), T₂.hlive, T₂.hlet⟩
        (hD₃.at fun o e => q₄ _ o e) hys₄ (.inl hLD) hDb hDl hDc (fun q => I2W (q ▸ hLW _ hLD)) ?_
      · exact start_two loop (T₂.hw.self 0 _ _ _ T₂.hst loop)
      · intro h₅ tk₅ ys₅ hp₅ b45 ci₅ hD₅ hys₅
        have b45' : ∀ b o, ¬(b = I ∨ b = D ∨ Ls b) → h₃.get? b = some o → h₅.get? b = some o := fun b o nb e => b45 b o (fun q => by
          rcases q with q | q | q
          · exact I2ne b o e q
          · exact nb (.inr (.inl q))
          · exact nb (.inr (.inr q))) (q₄ b o e)
        refine ⟨rfl, _, turn_less hlt, .mk hlt hp₅ ?_ ?_ hD₅ (hys₅.mono fun a o na e => ⟨e, fun q => na (.inl q)⟩) ?_ hgo' htot'⟩
        · exact hbut.trans (b13.trans b45')
        · refine (ci₅.sub (W' := W) (L' := L) (fun a => ⟨fun q => ⟨.inl q, fun e => I2W (e ▸ q)⟩, fun q => q.1.elim id fun e => absurd e q.2⟩) fun a q => .inl q).weak fun n t e => ?_
          rw [look_rem] at e
          split at e
          · cases e
          · rename_i hnx
            rw [look_del] at e
            split at e
            · cases e
            · rename_i hny
              rw [look_rem, if_neg (by simpa using hny), look_upd, if_neg (by simpa using hnx), look_del, if_neg hny]; exact e
        · refine T.hw.frame _ _ _ (T.hw.frame _ _ _ hst₂ fun b _ o e => q₃ b o e) fun b hb o e => ?_
          have hnb := T.nfp b hb
          by_cases hbI : b = I
          · refine b45 b o (fun q => ?_) (q₄ b o e)
            rcases q with q | q | q
            · exact I2ne b o e q
            · exact hID (hbI.symm.trans q)
            · exact (hLs b q).1 hbI
          · exact b45' b o (fun q => by
              rcases q with q | q | q
              · exact hbI q
              · exact hnb (.inl q)
              · exact hnb (.inr q)) e
    · have this : i = ds.length := Nat.le_antisymm hi (Nat.not_lt.mp hlt)
      refine pos_any hp fun E' => T.hw.done _ _ _ (this ▸ hst) fun h₁ tk₁ hk₁ hp₁ => ?_
      have b1 : ButL (· = I) h h₁ := fun b o nb e => hk₁ b o (by simpa using nb) e
      have e0 : out = total := by
        rw [this, List.drop_length] at hgo
        rw [← htot, ← Option.some.inj (show some [] = some r from hgo), List.append_nil]
      refine hR h₁ tk₁ ys hp₁ ((hbut.trans (b1.mono fun b e => .inl e)).mono fun b e => ?_) (ci.drop b1 T.inW T.inL T.nloc T.ncell T.hb).fr.ns (hD.at fun o e => b1 _ o (fun q => hID q.symm) e) (e0 ▸ hys.but b1 fun b e => e ▸ T.inW)
      rcases e with e | e | e
      · exact .inl e
      · exact .inr (.inl e)
      · exact .inr (.inr (.inl e))
  · rw [look_rem] at e
    split at e
    · cases e
    · rename_i hnx
      rw [look_del] at e
      split at e
      · cases e
      · rename_i hny
        rw [look_rem, if_neg (by simpa using ⟨by simpa using hnx, hny⟩)]; exact e
end
end Mv
end
section
open PySem PySem.W PyProof.Rows
set_option Elab.async false
namespace Mv
section
variable {c : Cx} {n lvl : Nat} {C : Nat → List D → Option D} {A : Around} {E : Value → Shared → Prop} {s : Shared} {W : Addr → Prop} {env : Env} {k : Kinds} {σ : Env1} {Q : Value → Shared → Prop} {pos : Pos}

theorem comp2_run (K : c.Ok) (hE : SE1 c n lvl C) (hTs : STs1 c n lvl C) (hI : SI1 c n lvl C) (hn1 : 1 ≤ n) {elt t1 i1 t2 i2 : PySem.Expr} {sc : Scope} {x y : Nat} {sit si se : SE} {d : D} {use : Option (Value → Sem Unit)} {pos' : Pos}
    (hsk : sc.kind = .function) (nok : namesOk sc.names = true) (fok : freeOk k sc.names = true) (h0 : cI c.T n k i1 = some sit) (ht1 : tgtOf c.T sc.names t1 = some [x]) (ht2 : tgtOf c.T sc.names t2 = some [y]) (own : ownOk c.T sc.names [x, y] = true)
    (h1 : cI c.T n (relab k sc.names) i2 = some si) (h2 : cE c.T n (relab k sc.names) elt = some se) (he : evE C (.comp2 se x sit y si) σ = some d) (S : ES c s.heap W env k σ) (R : Rm lvl A) (hp : 0 < s.toks) (P : PostC c A E s W d use Q) :
    wpAny (model c.prog c.w) A (comprehension (.ListComp elt [⟨t1, i1, [], 0⟩, ⟨t2, i2, [], 0⟩] sc pos) sc env pos' (newList []) false (eval i1 env) use) Q E s := by
  obtain ⟨l, e1, he⟩ := bind_inv he
  obtain ⟨ds, e2, he⟩ := bind_inv he
  first | (have hz := bind_inv he; obtain ⟨rest, e3, e4⟩ := hz) | (have hz := map_inv he; obtain ⟨rest, e3, e4⟩ := hz)
  obtain ⟨rfl, hcap⟩ := capL_some e4
  obtain ⟨cl, hcl, hc1, hc2⟩ := closure_sound (env := env) (scope := sc) fun y hy hf => S.cells y.1 (by rw [S.kind]; exact freeOk_at fok y hy hf)
  refine wpAny_comprehension_free (use := use) rfl (fun x => folded_pure h0 x) hcl hsk (namesOk_local nok) ?_
  refine hI k i1 sit σ env W s l ds _ E A h0 e1 e2 S R hp fun itv s₁ s₂ I fp P' St hs₁ T hp₂ => ?_
  obtain ⟨h₁, tk₁, rfl, q₁⟩ := hs₁
  refine wpAny_newObj_type ?_ (by show ([] : List Value).toArray.size ≤ sizeLine; rw [sizeLine_eq]; decide)
  refine compFrame_sound fun h₄ k4 hsz hns hcs hpw => ?_
  have Lay := laid K (scope := sc) (xs := [x, y]) (S.keep q₁) T hsk nok fok own hc1 hc2 (o := { cls := .type "list", data := .seq ([] : List Value).toArray }) rfl k4 hns hcs hpw
  obtain ⟨h₂, tk₂, rfl, k12⟩ := T.hkeep
  have hitv := T.hit
  subst hitv
  have Dget : h₄.PlainList h₂.objs.size ([] : List Value).toArray := ⟨_, k4 _ _ (Heap.get?_push_size _ rfl)⟩
  have loop := c2_loop (s₀ := { s with heap := h₄, toks := tk₂ }) (D := h₂.objs.size) (i1 := i1) (scope := sc) (pos := pos) (RR := compPost (model c.prog c.w) A E use Q (.ref h₂.objs.size) (h₂.push { cls := .type "list", data := .seq ([] : List Value).toArray }).objs.size) K hE hTs hI R
    hn1 ht1 ht2 h1 h2 e3 hcap Lay.slots (fun b hb => .inr hb) (fun b hb => .inr (.inr (.inr hb))) Lay.lsI Lay.ci hp₂ Lay.it Dget (.inr (.inl rfl)) (Lay.hb _ (.inr (.inl rfl))) Lay.nDZ Lay.cD Lay.nID
    (fun h' tk ys hp' hbut hns' hD' hys' => ?_)
  · exact codeAny_compStart_list loop (T.hw.self 0 _ _ _ Lay.it.st loop)
  · have kk : Keep h₁ h' := fun b o e => hbut b o (fun x => by
      have e4 := Lay.keep b o e
      rcases x with x | x | x | x
      · have := Lay.new b (.inl x); rw [this] at e; cases e
      · have := Lay.new b (.inr (.inl x)); rw [this] at e; cases e
      · have := Lay.new b (.inr (.inr x)); rw [this] at e; cases e
      · have x' : h₄.get? b = none := x
        rw [x'] at e4; cases e4) (Lay.keep b o e)
    refine P _ _ h' tk ?_ (q₁.trans kk) ?_ ?_ hns' hp'
    · cases e : s.heap.get? (h₂.push { cls := .type "list", data := .seq ([] : List Value).toArray }).objs.size with
      | none => rfl
      | some o => have := q₁ _ _ e; rw [Lay.new _ (.inr (.inr Lay.zls))] at this; cases this
    · refine ⟨h₂.objs.size, _, rfl, ?_, rfl, .own (.inr rfl) hD' (hys'.mono fun a o na e => ⟨e, fun x => na ?_⟩)⟩
      · cases e : s.heap.get? h₂.objs.size with
        | none => rfl
        | some o => have := q₁ _ _ e; rw [Lay.new _ (.inr (.inl rfl))] at this; cases this
      · rcases x with (x | rfl) | rfl
        · exact .inl x
        · exact .inr (.inr (.inr Lay.zls))
        · exact .inr (.inr (.inl rfl))
    · intro e
      exact Lay.nDZ (Value.ref.inj e)

structure All (c : Cx) (n lvl : Nat) (C : Nat → List D → Option D) : Prop where
  e : SE1 c n lvl C
  b : SB1 c n lvl C
  t : ST1 c n lvl C
  i : SI1 c n lvl C
  l : SL1 c n lvl C
  ts : STs1 c n lvl C

theorem all_zero : All c 0 lvl C where
  e := by intro k e se σ env W s d Q E A hc; first | exact nos hc | exact nob hc | nomatch hc
  b := by intro k e se σ env W s d Q E A hc; first | exact nos hc | exact nob hc | nomatch hc
  t := by intro k e se σ env W s d b Q E A hc; first | exact nos hc | exact nob hc | nomatch hc
  i := by intro k e se σ env W s d ds Q E A hc; first | exact nos hc | exact nob hc | nomatch hc
  l := by intro k e se σ env W s d pos Q E A hc; first | exact nos hc | exact nob hc | nomatch hc
  ts := by intro k e se σ env W s d Q E A hc; first | exact nos hc | exact nob hc | nomatch hc

theorem okName_of {k : Kinds} {x : Str} (h : (isVar k x && x != ("__debug__" : Str) && x != ("__classdict__" : Str)) = true) : isVar k x = true ∧ (x == ("__debug__" : Str)) = false ∧ (x == ("__classdict__" : Str)) = false :=
  ⟨(and_inv (and_inv h).1).1, ne_inv (and_inv (and_inv h).1).2, ne_inv (and_inv h).2⟩
theorem viewE_inv {σ : Env1} {i : Nat} {d : D} (h : viewE σ i = some d) : ∃ t, look σ i = some t ∧ (∀ {c : Cx} {h : Heap} {W : Addr → Prop} {v : Value}, EntRel c h W v t → BRep c h W v d) := by
  unfold viewE at h
  cases hl : look σ i with
  | none => rw [hl] at h; first | exact nos h | exact nob h | nomatch h
  | some t =>
    rw [hl] at h
    refine ⟨t, rfl, fun r => ?_⟩
    clear hl
    cases r with
    | frz r => cases Option.some.inj h; exact .rep r
    | own hW ha hr => cases Option.some.inj h; exact .lst ha hr
    | ownT hW hd hk hr => cases Option.some.inj h; exact .tab hd hk hr
    | ownI h1 h2 ho hd hk hr => cases Option.some.inj h; exact .inst ho hd hk hr
theorem sb_step (_K : c.Ok) (hE : SE1 c n lvl C) : SB1 c (n + 1) lvl C := by
  intro k e se
  cases hn : nameStr e with
  | some x =>
    have hv := nameV hn
    cases hv with
    | mk x p =>
      intro σ env W s d Q E A hc he S R hp P
      obtain ⟨hx, hc⟩ := if_inv hc
      obtain ⟨i, hi, rfl⟩ := map_inv hc
      obtain ⟨t, hl, hb⟩ := viewE_inv he
      obtain ⟨h1, h2, h3⟩ := okName_of hx
      exact name_sound S h1 h2 h3 hi hl fun v r => P v s.heap s.toks (Keep.refl _) (hb r) hp
  | none =>
    intro σ env W s d Q E A hc he S R hp P
    have hc' : cE c.T n k e = some se := by
      have h : (match nameStr e with
        | some x => if (isVar k x && x != ("__debug__" : Str) && x != ("__classdict__" : Str)) = true then (c.T.ix x).map .bvar else none
        | none => cE c.T n k e) = some se := hc
      rw [hn] at h
      exact h
    exact hE k e se σ env W s d Q E A hc' he S R hp fun v h' tk q r hp' => P v h' tk q (.rep r) hp'

noncomputable def plainT : PySem.Expr → Bool
  | .UnaryOp .. => false
  | .BoolOp .. => false
  | .IfExp .. => false
  | .Compare .. => false
  | _ => true
theorem isTrue_eq {e : PySem.Expr} (h : plainT e = true) (whole : Sem Value) : isTrue e env whole = (do let v ← whole; standAt e.pos; holding [v] (truthy v)) := by
  cases e with
  | UnaryOp => first | exact nos h | exact nob h | nomatch h
  | BoolOp => first | exact nos h | exact nob h | nomatch h
  | IfExp => first | exact nos h | exact nob h | nomatch h
  | Compare => first | exact nos h | exact nob h | nomatch h
  | _ => rfl
theorem cT_plain {T : Tb} {e : PySem.Expr} (h : plainT e = true) : cT T (n + 1) k e = cE T n k e := by
  cases e with
  | UnaryOp => first | exact nos h | exact nob h | nomatch h
  | BoolOp => first | exact nos h | exact nob h | nomatch h
  | IfExp => first | exact nos h | exact nob h | nomatch h
  | Compare => first | exact nos h | exact nob h | nomatch h
  | _ => rfl
theorem or_truth {b : Bool} {d : D} {t : Bool} {o : Option D} (h : (if b = true then some (.bool true) else o) = some d) (ht : truthD d = some t) : (b = true ∧ t = true) ∨ (b = false ∧ o = some d) := by
  cases b with
  | true => cases Option.some.inj h; exact .inl ⟨rfl, (Option.some.inj ht).symm⟩
  | false => exact .inr ⟨rfl, h⟩
theorem t_or (H : All c n lvl C) {x y : PySem.Expr} {p : Pos} {a b : SE} (h1 : cT c.T n k x = some a) (h2 : cT c.T n k y = some b) {d : D} {t : Bool} {Q : Bool → Shared → Prop} (he : evE C (.or a b) σ = some d) (ht : truthD d = some t) (S : ES c s.heap W env k σ) (R : Rm lvl A) (hp : 0 < s.toks) (P : PostT s t Q) :
    wpAny (model c.prog c.w) A (isTrue (.BoolOp .Or [x, y] p) env (eval (.BoolOp .Or [x, y] p) env)) Q E s := by
  obtain ⟨u, e1, he⟩ := bind_inv he
  obtain ⟨bu, e2, e3⟩ := bind_inv he
  have o := or_truth e3 ht
  clear he e3
  refine isTrue_or (H.t k x a σ env W s u bu _ E A h1 e1 e2 S R hp fun h' tk q hp' => ?_)
  rcases o with ⟨rfl, rfl⟩ | ⟨rfl, e3⟩
  · exact P h' tk q hp'
  · obtain ⟨v, e7, e4⟩ := bind_inv e3
    obtain ⟨bv, e8, e5⟩ := map_inv e4
    subst e5
    have e6 : bv = t := Option.some.inj ht
    subst e6
    refine isTrue_or (H.t k y b σ env W _ v bv _ E A h2 e7 e8 (S.keep q) R hp' fun h'' tk' q' hp'' => ?_)
    cases bv with
    | true => exact P h'' tk' (q.trans q') hp''
    | false => exact isTrue_or_nil (P h'' tk' (q.trans q') hp'')
theorem st_step (K : c.Ok) (H : All c n lvl C) : ST1 c (n + 1) lvl C := by
  intro k e se
  have plain : plainT e = true → ∀ (σ : Env1) (env : Env) (W : Addr → Prop) (s : Shared) (d : D) (b : Bool) (Q : Bool → Shared → Prop) (E : Value → Shared → Prop) (A : Around),
      cT c.T (n + 1) k e = some se → evE C se σ = some d → truthD d = some b → ES c s.heap W env k σ → Rm lvl A → 0 < s.toks → PostT s b Q → wpAny (model c.prog c.w) A (isTrue e env (eval e env)) Q E s := by
    intro hpl σ env W s d b Q E A hc he ht S R hp P
    rw [cT_plain hpl] at hc
    refine isTrue_plain ?_ (isTrue_eq hpl _)
    refine H.e k e se σ env W s d _ E A hc he S R hp fun v h' tk q r hp' => ?_
    exact truth_sound r ht (P h' tk q hp')
  cases e with
  | UnaryOp op a p =>
    cases op with
    | Not =>
      intro σ env W s d t Q E A hc he ht S R hp P
      obtain ⟨sa, h1, rfl⟩ := map_inv hc
      obtain ⟨x, e1, he⟩ := bind_inv he
      obtain ⟨b, e2, e3⟩ := map_inv he
      subst e3
      cases Option.some.inj ht
      exact isTrue_not (H.t k _ sa σ env W s x b _ E A h1 e1 e2 S R hp fun h' tk q hp' => P h' tk q hp')
    | _ => intro σ env W s d t Q E A hc; first | exact nos hc | exact nob hc | nomatch hc
  | BoolOp op es p =>
    cases op with
    | Or =>
      intro σ env W s d t Q E A hc he ht S R hp P
      obtain ⟨pr, h2, hc⟩ := bind_inv hc
      obtain ⟨a, h3, hc⟩ := bind_inv hc
      obtain ⟨b, h4, rfl⟩ := map_inv hc
      cases twoOf_inv h2
      exact t_or H h3 h4 he ht S R hp P
    | _ => intro σ env W s d t Q E A hc; first | exact nos hc | exact nob hc | nomatch hc
  | IfExp => intro σ env W s d t Q E A hc; first | exact nos hc | exact nob hc | nomatch hc
  | Compare l ops rs p =>
    intro σ env W s d t Q E A hc he ht S R hp P
    obtain ⟨op, ho, hc⟩ := bind_inv hc
    obtain ⟨r, hr, hc⟩ := bind_inv hc
    obtain ⟨bop, hb, hc⟩ := bind_inv hc
    obtain ⟨a, h1, hc⟩ := bind_inv hc
    obtain ⟨b, h2, rfl⟩ := map_inv hc
    cases oneOf_inv ho
    cases oneOf_inv hr
    exact t_cmp K H.e hb h1 h2 he ht S R hp P
  | _ => exact plain rfl

inductive RngV : List D → D → Prop
  | one (b : Int) (h : small b = true) : RngV [.int b] (.lst (rngL 0 b.toNat))
  | two (a b : Int) (h : small a = true) (h' : small b = true) : RngV [.int a, .int b] (.lst (rngL a (b - a).toNat))
theorem rngV {ds : List D} {l : D} (h : rngD ds = some l) : RngV ds l := by
  match ds, h with
  | [.int b], h =>
    obtain ⟨hb, h⟩ := if_inv (x := some (D.lst (rngL 0 b.toNat))) h
    cases Option.some.inj h
    exact .one _ hb
  | [.int a, .int b], h =>
    obtain ⟨hb, h⟩ := if_inv (x := some (D.lst (rngL a (b - a).toNat))) h
    cases Option.some.inj h
    exact .two _ _ (and_inv hb).1 (and_inv hb).2
theorem si_rng (K : c.Ok) (H : All c n lvl C) {f : Str} {fp pos : Pos} {es : List PySem.Expr} {ses : List SE} {d : D} {ds : List D} {Q : Value → Shared → Prop} (hg : isGlob k f = true) (hf : c.T.gl.lookup f = some .rng) (h1 : cEs c.T n k es = some ses) (he : evE C (.rng ses) σ = some d) (hi : itemsD d = some ds)
    (S : ES c s.heap W env k σ) (R : Rm lvl A) (hp : 0 < s.toks) (P : PostI c A s W ds Q) : wpAny (model c.prog c.w) A (eval (.Call (.Name f fp) es [] pos) env) (fun x s₁ => wpAny (model c.prog c.w) A (pyIter x) Q E s₁) E s := by
  obtain ⟨l, e1, e2⟩ := bind_inv he
  have hv := K.rg f hf
  refine Call_ (bltn_sound K S hg hv.1 hv.2 (isGlob_debug hg) ?_)
  refine PySem.callWith_type (star_plain h1) ?_
  refine args_sound H.l h1 e1 S R hp fun vs h' tk q rs hp' => ?_
  have L : Live h' W := (S.keep q).live
  have rv := rngV e2
  clear e2 e1 he
  cases rv with
  | one b hb =>
    cases Option.some.inj hi
    obtain ⟨v, rfl, rv⟩ := rs.one
    obtain ⟨t, rfl⟩ := rv.intI
    refine call_range_1 ?_
    refine pos_any (s := { s with heap := h'.push _, toks := tk + 1 + 1 }) (Nat.succ_pos _) fun E' => ?_
    exact @range_iter c A E' { s with heap := h'.push { cls := .type "range", data := .fields #[.int 0 tk, .int b t, .int 1 (tk + 1)] }, toks := tk + 1 + 1 } W h'.objs.size 0 b _ _ _ (fun v s' => 0 < s'.toks → Q v s') R.hh (IsRange.new h' 0 b 1 tk t (tk + 1)) (by decide) hb (Live.keep L (Keep.push _ _)) fun it s₂ I fp P' St T hp₂ => P it _ s₂ I fp P' St ⟨_, _, rfl, q.trans (Keep.push _ _)⟩ (by rw [Int.sub_zero] at T; exact T) hp₂
  | two a b ha hb =>
    cases Option.some.inj hi
    cases rs with | cons r1 tl => cases tl with | cons r2 tl2 =>
    cases tl2
    obtain ⟨t, rfl⟩ := r1.intI
    obtain ⟨u, rfl⟩ := r2.intI
    refine call_range_2 ?_
    refine pos_any (s := { s with heap := h'.push _, toks := tk + 1 }) (Nat.succ_pos _) fun E' => ?_
    exact @range_iter c A E' { s with heap := h'.push { cls := .type "range", data := .fields #[.int a t, .int b u, .int 1 tk] }, toks := tk + 1 } W h'.objs.size a b _ _ _ (fun v s' => 0 < s'.toks → Q v s') R.hh (IsRange.new h' a b 1 t u tk) ha hb (Live.keep L (Keep.push _ _)) fun it s₂ I fp P' St T hp₂ => P it _ s₂ I fp P' St ⟨_, _, rfl, q.trans (Keep.push _ _)⟩ T hp₂
theorem si_step (K : c.Ok) (H : All c n lvl C) : SI1 c (n + 1) lvl C := by
  intro k e se
  have plain : ∀ (σ : Env1) (env : Env) (W : Addr → Prop) (s : Shared) (d : D) (ds : List D) (Q : Value → Shared → Prop) (E : Value → Shared → Prop) (A : Around), cE c.T n k e = some se → evE C se σ = some d → itemsD d = some ds → ES c s.heap W env k σ → Rm lvl A → 0 < s.toks → PostI c A s W ds Q →
      wpAny (model c.prog c.w) A (eval e env) (fun x s₁ => wpAny (model c.prog c.w) A (pyIter x) Q E s₁) E s := by
    intro σ env W s d ds Q E A hc he hi S R hp P
    refine H.e k e se σ env W s d _ E A hc he S R hp fun v h' tk q r hp' => ?_
    refine pos_any hp' fun E' => iter_sound R.hh hi r (S.keep q).live fun it s₂ I fp P' St T hp₂ => ?_
    exact P it _ s₂ I fp P' St ⟨h', tk, rfl, q⟩ T hp₂
  intro σ env W s d ds Q E A hc he hi S R hp P
  have hc' : (match callName e with
    | some p => if (isGlob k p.1 && decide (p.2.length ≤ 30)) = true then (match c.T.gl.lookup p.1 with
        | some .rng => (cEs c.T n k p.2).map .rng
        | _ => cE c.T n k e) else none
    | none => cE c.T n k e) = some se := hc
  clear hc
  cases hn : callName e with
  | none => rw [hn] at hc'; exact plain σ env W s d ds Q E A hc' he hi S R hp P
  | some p =>
    rw [hn] at hc'
    obtain ⟨hg, hc⟩ := if_inv hc'
    clear hc'
    have hg := (and_inv hg).1
    cases hl : c.T.gl.lookup p.1 with
    | none => rw [hl] at hc; exact plain σ env W s d ds Q E A hc he hi S R hp P
    | some r =>
      rw [hl] at hc
      cases r with
      | rng =>
        obtain ⟨ses, h1, e3⟩ := map_inv hc
        subst e3
        clear hc plain
        cases callName_inv hn with
        | mk x a es q => exact si_rng K H hg hl h1 he hi S R hp P
      | _ => exact plain σ env W s d ds Q E A hc he hi S R hp P
end
end Mv
end
section
open PySem PySem.W PyProof.Rows
set_option Elab.async false
namespace Mv
section
variable {c : Cx} {n lvl : Nat} {C : Nat → List D → Option D}

theorem comp_eq {elt : PySem.Expr} {g : PySem.Comprehension} {gs : List PySem.Comprehension} {sc : Scope} {pos : Pos} {env : Env} (h : g.is_async = 0) :
    eval (.ListComp elt (g :: gs) sc pos) env = comprehension (.ListComp elt (g :: gs) sc pos) sc env (firstIterPos (g :: gs) pos) (newList []) false (eval g.iter env) none := by
  obtain ⟨t, i, f, a⟩ := g
  cases h
  rfl
theorem dcomp_eq {kx vx : PySem.Expr} {g : PySem.Comprehension} {gs : List PySem.Comprehension} {sc : Scope} {pos : Pos} {env : Env} (h : g.is_async = 0) :
    eval (.DictComp kx vx (g :: gs) sc pos) env = comprehension (.DictComp kx vx (g :: gs) sc pos) sc env (firstIterPos (g :: gs) pos) newDict false (eval g.iter env) none := by
  obtain ⟨t, i, f, a⟩ := g
  cases h
  rfl

noncomputable def Snd (c : Cx) (lvl : Nat) (C : Nat → List D → Option D) (k : Kinds) (e : PySem.Expr) (se : SE) : Prop :=
  ∀ (σ : Env1) (env : Env) (W : Addr → Prop) (s : Shared) (d : D) (Q : Value → Shared → Prop) (E : Value → Shared → Prop) (A : Around),
    evE C se σ = some d → ES c s.heap W env k σ → Rm lvl A → 0 < s.toks → PostP c s W d Q → wpAny (model c.prog c.w) A (eval e env) Q E s
theorem readE_inv {σ : Env1} {i : Nat} {d : D} (h : readE σ i = some d) : look σ i = some (.frz d) := by
  unfold readE at h
  cases hl : look σ i with
  | none => rw [hl] at h; first | exact nos h | exact nob h | nomatch h
  | some t =>
    rw [hl] at h
    cases t with
    | frz x => cases Option.some.inj h; rfl
    | _ => first | exact nos h | exact nob h | nomatch h
theorem sn_name {x : Str} {p : Pos} {k : Kinds} {se : SE} (hc : cE c.T (n + 1) k (.Name x p) = some se) : Snd c lvl C k (.Name x p) se := by
  obtain ⟨hx, hc⟩ := if_inv hc
  obtain ⟨i, hi, rfl⟩ := map_inv hc
  intro σ env W s d Q E A he S R hp P
  obtain ⟨h1, h2, h3⟩ := okName_of hx
  exact name_sound S h1 h2 h3 hi (readE_inv he) fun v r => by cases r with | frz r => exact P v s.heap s.toks (Keep.refl _) r hp
theorem sn_sub (H : All c n lvl C) {o i : PySem.Expr} {p : Pos} {k : Kinds} {se : SE} (hc : cE c.T (n + 1) k (.Subscript o i p) = some se) : Snd c lvl C k (.Subscript o i p) se := by
  have hc' : (match sliceX i with
      | some p => if ((nameStr o).isSome && p.2.2.isNone) = true then (cE c.T n k o).bind fun o => match p.1 with
          | none => p.2.1.bind fun u => (cE c.T n k u).map fun u => SE.upto o u
          | some u => if p.2.1.isNone = true then (cE c.T n k u).map fun u => SE.from_ o u else none
        else none
      | none => (cB c.T n k o).bind fun o => (cE c.T n k i).map fun i => .idx o i) = some se := hc
  clear hc
  cases hs : sliceX i with
  | none =>
    rw [hs] at hc'
    obtain ⟨a, h1, hc⟩ := bind_inv hc'
    obtain ⟨b, h2, rfl⟩ := map_inv hc
    exact fun σ env W s d Q E A he S R hp P => e_idx H.b H.e (sliceX_none hs) h1 h2 he S R hp P
  | some q =>
    rw [hs] at hc'
    obtain ⟨hk, hd⟩ := if_inv hc'
    clear hc'
    obtain ⟨a, h1, he⟩ := bind_inv hd
    clear hd
    obtain ⟨x, hx⟩ := isSome_inv (and_inv hk).1
    have hz := isNone_inv (and_inv hk).2
    obtain ⟨lo, hi, st⟩ := q
    obtain ⟨sp, rfl⟩ := sliceX_inv hs
    clear hs hk
    cases nameV hx with
    | mk x xp =>
      clear hx
      subst hz
      cases lo with
      | none =>
        obtain ⟨u, hu, hf⟩ := bind_inv he
        clear he
        obtain ⟨b, h2, rfl⟩ := map_inv hf
        clear hf
        subst hu
        exact fun σ env W s d Q E A he S R hp P => e_upto H.e h1 h2 he S R hp P
      | some u =>
        obtain ⟨h0, hf⟩ := if_inv he
        clear he
        obtain ⟨b, h2, rfl⟩ := map_inv hf
        clear hf
        cases isNone_inv h0
        exact fun σ env W s d Q E A he S R hp P => e_from H.e h1 h2 he S R hp P
theorem sn_attr1 (K : c.Ok) (H : All c n lvl C) {o : PySem.Expr} {a : Str} {p : Pos} {k : Kinds} {se : SE} (hb : ∀ x p q, o = .Call (.Name x p) [] [] q → (x != ("super" : Str)) = true)
    (hc : (if c.T.ats.contains a = true then (cB c.T n k o).bind fun o => (c.T.ix a).map fun i => SE.attr o i else none) = some se) : Snd c lvl C k (.Attribute o a p) se := by
  obtain ⟨ha, hc⟩ := if_inv hc
  obtain ⟨b, h1, hc⟩ := bind_inv hc
  obtain ⟨i, hi, rfl⟩ := map_inv hc
  exact fun σ env W s d Q E A he S R hp P => e_attr K H.b ha hb h1 hi he S R hp P
theorem sn_attr (K : c.Ok) (H : All c n lvl C) {o : PySem.Expr} {a : Str} {p : Pos} {k : Kinds} {se : SE} (hc : cE c.T (n + 1) k (.Attribute o a p) = some se) : Snd c lvl C k (.Attribute o a p) se := by
  obtain ⟨_, hc⟩ := if_inv' hc
  cases hn : nameStr o with
  | none =>
    rw [hn] at hc
    obtain ⟨hno, hc⟩ := if_inv' hc
    exact sn_attr1 K H (fun x p q e => absurd e (isCallX_no hno _ _ _ _)) hc
  | some x =>
    rw [hn] at hc
    dsimp only at hc
    cases nameV hn with
    | mk x xp =>
      cases hg : isGlob k x with
      | false => rw [hg] at hc; exact sn_attr1 K H (fun _ _ _ e => nomatch e) hc
      | true =>
        rw [hg] at hc
        cases hf : c.T.gl.lookup x with
        | none => rw [hf] at hc; first | exact nos hc | exact nob hc | nomatch hc
        | some r =>
          rw [hf] at hc
          cases r with
          | cls =>
            obtain ⟨m, hm, rfl⟩ := map_inv hc
            obtain ⟨i, hi⟩ := K.clsix x hf
            exact fun σ env W s d Q E A he S R hp P => e_cat K hg hf hi hm (isGlob_debug hg) he S hp P
          | _ => first | exact nos hc | exact nob hc | nomatch hc
theorem sn_calln (K : c.Ok) (O : OracleOk c lvl C) (H : All c n lvl C) {f : Str} {fp pos : Pos} {es : List PySem.Expr} {k : Kinds} {se : SE} (hc : cE c.T (n + 1) k (.Call (.Name f fp) es [] pos) = some se) : Snd c lvl C k (.Call (.Name f fp) es [] pos) se := by
  obtain ⟨hg0, hc⟩ := if_inv (b := isGlob k f && decide (es.length ≤ 30)) hc
  have hg := (and_inv hg0).1
  clear hg0
  cases hf : c.T.gl.lookup f with
  | none => rw [hf] at hc; first | exact nos hc | exact nob hc | nomatch hc
  | some r =>
    rw [hf] at hc
    cases r with
    | fn =>
      obtain ⟨i, hi, hc⟩ := bind_inv hc
      obtain ⟨ses, h1, rfl⟩ := map_inv hc
      exact fun σ env W s d Q E A he S R hp P => e_call K O H.l hg (.inl hf) hi (isGlob_debug hg) h1 he S R hp P
    | cls =>
      obtain ⟨i, hi, hc⟩ := bind_inv hc
      obtain ⟨ses, h1, rfl⟩ := map_inv hc
      exact fun σ env W s d Q E A he S R hp P => e_call K O H.l hg (.inr hf) hi (isGlob_debug hg) h1 he S R hp P
    | bf b =>
      have gen : b ≠ .len → (cEs c.T n k es).map (fun es => SE.bf b es) = some se → Snd c lvl C k (.Call (.Name f fp) es [] pos) se := by
        intro hb hc
        obtain ⟨ses, h1, rfl⟩ := map_inv hc
        exact fun σ env W s d Q E A he S R hp P => e_bf K H.l hg hf hb (isGlob_debug hg) h1 he S R hp P
      cases b with
      | len =>
        clear gen
        obtain ⟨e1, h0, hc⟩ := bind_inv hc
        obtain ⟨se, h1, rfl⟩ := map_inv hc
        cases oneOf_inv h0
        have hst : ∀ env, starEach [e1] env = [(false, eval e1 env)] := by
          intro env
          cases n with
          | zero => first | exact nos h1 | exact nob h1 | nomatch h1
          | succ n =>
            cases e1 with
            | Starred => cases n <;> nomatch h1
            | _ => rfl
        exact fun σ env W s d Q E A he S R hp P => e_len K H.b hg hf (isGlob_debug hg) (hst env) h1 he S R hp P
      | _ => exact gen (fun e => nomatch e) hc
    | _ => first | exact nos hc | exact nob hc | nomatch hc
theorem sn_calla (K : c.Ok) (O : OracleOk c lvl C) (H : All c n lvl C) {o : PySem.Expr} {m : Str} {apos pos : Pos} {es : List PySem.Expr} {k : Kinds} {se : SE} (hc : cE c.T (n + 1) k (.Call (.Attribute o m apos) es [] pos) = some se) : Snd c lvl C k (.Call (.Attribute o m apos) es [] pos) se := by
  obtain ⟨hl, hc⟩ := if_inv (b := decide (es.length < 30) && apos.endLine == pos.line) hc
  have hl1 := of_decide_eq_true (and_inv hl).1
  have hl2 := (and_inv hl).2
  clear hl
  have gen : (if superX o = true then none else (cE c.T n k o).bind fun o => if c.T.ms.contains m = true then (c.T.ix m).bind fun m => (cEs c.T n k es).map fun es => SE.umeth o m es else (bmOf m).bind fun m => (cEs c.T n k es).map fun es => SE.meth o m es) = some se → Snd c lvl C k (.Call (.Attribute o m apos) es [] pos) se := by
    intro hc
    obtain ⟨hs, hc⟩ := if_inv' hc
    have hb := superX_no hs
    obtain ⟨a, h0, hc⟩ := bind_inv hc
    cases hm : c.T.ms.contains m with
    | true =>
      rw [hm] at hc
      obtain ⟨i, hi, hc⟩ := bind_inv hc
      obtain ⟨ses, h1, rfl⟩ := map_inv hc
      exact fun σ env W s d Q E A he S R hp P => e_umeth K O H.e H.l hl1 hl2 hb h0 hm hi h1 he S R hp P
    | false =>
      rw [hm] at hc
      obtain ⟨i, hi, hc⟩ := bind_inv hc
      obtain ⟨ses, h1, rfl⟩ := map_inv hc
      exact fun σ env W s d Q E A he S R hp P => e_meth H.e H.l hl1 hl2 hb h0 hi h1 he S R hp P
  cases hn : nameStr o with
  | none => rw [hn] at hc; exact gen hc
  | some x =>
    rw [hn] at hc
    cases hg : isGlob k x with
    | false =>
      have hc' : (match some (isGlob k x) with
          | some true => (some x).bind fun x => (match c.T.gl.lookup x with
            | some .flags => (twoOf es).bind fun p => if (m == ("get" : Str)) = true then (cE c.T n k p.1).bind fun a => (cE c.T n k p.2).map fun b => SE.getFlag a b else none
            | _ => none)
          | _ => if superX o = true then none else (cE c.T n k o).bind fun o => if c.T.ms.contains m = true then (c.T.ix m).bind fun m => (cEs c.T n k es).map fun es => SE.umeth o m es else (bmOf m).bind fun m => (cEs c.T n k es).map fun es => SE.meth o m es) = some se := hc
      rw [hg] at hc'
      exact gen hc'
    | true =>
      clear gen
      have hc' : (match some (isGlob k x) with
          | some true => (some x).bind fun x => (match c.T.gl.lookup x with
            | some .flags => (twoOf es).bind fun p => if (m == ("get" : Str)) = true then (cE c.T n k p.1).bind fun a => (cE c.T n k p.2).map fun b => SE.getFlag a b else none
            | _ => none)
          | _ => if superX o = true then none else (cE c.T n k o).bind fun o => if c.T.ms.contains m = true then (c.T.ix m).bind fun m => (cEs c.T n k es).map fun es => SE.umeth o m es else (bmOf m).bind fun m => (cEs c.T n k es).map fun es => SE.meth o m es) = some se := hc
      clear hc
      rw [hg] at hc'
      cases nameV hn with
      | mk x xp =>
        cases hf : c.T.gl.lookup x with
        | none => simp only [Option.bind_some, hf] at hc'; first | exact nos hc' | exact nob hc' | nomatch hc'
        | some r =>
          cases r with
          | flags =>
            simp only [Option.bind_some, hf] at hc'
            obtain ⟨pr, h2, hc⟩ := bind_inv hc'
            obtain ⟨hm, hc⟩ := if_inv hc
            obtain ⟨sa, h1, hc⟩ := bind_inv hc
            obtain ⟨sb, h3, rfl⟩ := map_inv hc
            cases twoOf_inv h2
            cases beq_iff_eq.mp hm
            exact fun σ env W s d Q E A he S R hp P => e_flag K H.e hl2 hg hf h1 h3 he S R hp P
          | _ => simp only [Option.bind_some, hf] at hc'; first | exact nos hc' | exact nob hc' | nomatch hc'
theorem cond_inv {sc : Scope} {k : Kinds} (h : (sc.kind == .function && namesOk sc.names && freeOk k sc.names) = true) : sc.kind = .function ∧ namesOk sc.names = true ∧ freeOk k sc.names = true :=
  ⟨beq_iff_eq.mp (and_inv (and_inv h).1).1, (and_inv (and_inv h).1).2, (and_inv h).2⟩
inductive LcV (c : Cx) (n : Nat) (k : Kinds) : PySem.Expr → SE → Prop
  | one {elt tg it : PySem.Expr} {ifs : List PySem.Expr} {sc : Scope} {pos : Pos} {xs : List Nat} {sit selt : SE} {sifs : List SE} (h1 : sc.kind = .function) (h2 : namesOk sc.names = true) (h3 : freeOk k sc.names = true) (h4 : cI c.T n k it = some sit) (h5 : tgtOf c.T sc.names tg = some xs) (h6 : ownOk c.T sc.names xs = true)
      (h7 : cTs c.T n (relab k sc.names) ifs = some sifs) (h8 : cE c.T n (relab k sc.names) elt = some selt) : LcV c n k (.ListComp elt [⟨tg, it, ifs, 0⟩] sc pos) (.comp selt xs sit sifs)
  | two {elt t1 i1 t2 i2 : PySem.Expr} {sc : Scope} {pos : Pos} {x y : Nat} {sit si se : SE} (h1 : sc.kind = .function) (h2 : namesOk sc.names = true) (h3 : freeOk k sc.names = true) (h4 : cI c.T n k i1 = some sit) (h5 : tgtOf c.T sc.names t1 = some [x]) (h6 : tgtOf c.T sc.names t2 = some [y]) (h7 : ownOk c.T sc.names [x, y] = true)
      (h8 : cI c.T n (relab k sc.names) i2 = some si) (h9 : cE c.T n (relab k sc.names) elt = some se) : LcV c n k (.ListComp elt [⟨t1, i1, [], 0⟩, ⟨t2, i2, [], 0⟩] sc pos) (.comp2 se x sit y si)
  | dict {kx vx tg it : PySem.Expr} {sc : Scope} {pos : Pos} {x : Nat} {sit sk sv : SE} (h1 : sc.kind = .function) (h2 : namesOk sc.names = true) (h3 : freeOk k sc.names = true) (h4 : cI c.T n k it = some sit) (h5 : tgtOf c.T sc.names tg = some [x]) (h6 : ownOk c.T sc.names [x] = true)
      (h7 : cE c.T n (relab k sc.names) kx = some sk) (h8 : cE c.T n (relab k sc.names) vx = some sv) : LcV c n k (.DictComp kx vx [⟨tg, it, [], 0⟩] sc pos) (.dcomp sk sv x sit)
theorem lc_list {k : Kinds} {elt : PySem.Expr} {gens : List PySem.Comprehension} {sc : Scope} {pos : Pos} {se : SE} (hc : cE c.T (n + 1) k (.ListComp elt gens sc pos) = some se) : LcV c n k (.ListComp elt gens sc pos) se := by
  obtain ⟨hcond, hc⟩ := if_inv hc
  obtain ⟨c1, c2, c3⟩ := cond_inv hcond
  match gens, hc with
  | [⟨tg, it, ifs, a⟩], hc =>
    obtain ⟨h0, hc⟩ := if_inv hc
    cases beq_iff_eq.mp h0
    obtain ⟨sit, h1, hc⟩ := bind_inv hc
    obtain ⟨xs, h2, hc⟩ := bind_inv hc
    obtain ⟨ho, hc⟩ := if_inv hc
    obtain ⟨sifs, h3, hc⟩ := bind_inv hc
    obtain ⟨selt, h4, rfl⟩ := map_inv hc
    exact .one c1 c2 c3 h1 h2 ho h3 h4
  | [⟨t1, i1, f1, a1⟩, ⟨t2, i2, f2, a2⟩], hc =>
    obtain ⟨h0, hc⟩ := if_inv hc
    cases beq_iff_eq.mp (and_inv (and_inv (and_inv h0).1).1).1
    cases beq_iff_eq.mp (and_inv (and_inv (and_inv h0).1).1).2
    cases isEmpty_inv (and_inv (and_inv h0).1).2
    cases isEmpty_inv (and_inv h0).2
    obtain ⟨sit, h1, hc⟩ := bind_inv hc
    obtain ⟨xs, h2, hc⟩ := bind_inv hc
    obtain ⟨x, hx, hc⟩ := bind_inv hc
    obtain ⟨ys, h3, hc⟩ := bind_inv hc
    obtain ⟨y, hy, hc⟩ := bind_inv hc
    obtain ⟨ho, hc⟩ := if_inv hc
    obtain ⟨si, h4, hc⟩ := bind_inv hc
    obtain ⟨selt, h5, rfl⟩ := map_inv hc
    cases oneOf_inv hx
    cases oneOf_inv hy
    exact .two c1 c2 c3 h1 h2 h3 (and_inv ho).1 h4 h5
theorem lc_dict {k : Kinds} {kx vx : PySem.Expr} {gens : List PySem.Comprehension} {sc : Scope} {pos : Pos} {se : SE} (hc : cE c.T (n + 1) k (.DictComp kx vx gens sc pos) = some se) : LcV c n k (.DictComp kx vx gens sc pos) se := by
  obtain ⟨hcond, hc⟩ := if_inv hc
  obtain ⟨c1, c2, c3⟩ := cond_inv hcond
  obtain ⟨g, hg, hc⟩ := bind_inv hc
  cases oneOf_inv hg
  obtain ⟨h0, hc⟩ := if_inv hc
  obtain ⟨tg, it, ifs, a⟩ := g
  cases beq_iff_eq.mp (and_inv h0).1
  cases isEmpty_inv (and_inv h0).2
  obtain ⟨sit, h1, hc⟩ := bind_inv hc
  obtain ⟨xs, h2, hc⟩ := bind_inv hc
  obtain ⟨x, hx, hc⟩ := bind_inv hc
  obtain ⟨ho, hc⟩ := if_inv hc
  obtain ⟨sk, h3, hc⟩ := bind_inv hc
  obtain ⟨sv, h4, rfl⟩ := map_inv hc
  cases oneOf_inv hx
  exact .dict c1 c2 c3 h1 h2 ho h3 h4
theorem cE_pos {T : Tb} {k : Kinds} {e : PySem.Expr} {se : SE} (h : cE T n k e = some se) : 1 ≤ n := by
  cases n with
  | zero => first | exact nos h | exact nob h | nomatch h
  | succ n => exact Nat.succ_pos n
theorem sn_comp (K : c.Ok) (H : All c n lvl C) {e : PySem.Expr} {k : Kinds} {se : SE} (hv : LcV c n k e se) : Snd c lvl C k e se := by
  cases hv with
  | one h1 h2 h3 h4 h5 h6 h7 h8 =>
    intro σ env W s d Q E A he S R hp P
    rw [comp_eq rfl]
    exact comp_run K H.e H.ts H.i h1 h2 h3 h4 h5 h6 h7 h8 he S R hp (P.toC S.live)
  | two h1 h2 h3 h4 h5 h6 h7 h8 h9 =>
    intro σ env W s d Q E A he S R hp P
    rw [comp_eq rfl]
    exact comp2_run K H.e H.ts H.i (cE_pos h9) h1 h2 h3 h4 h5 h6 h7 h8 h9 he S R hp (P.toC S.live)
  | dict h1 h2 h3 h4 h5 h6 h7 h8 =>
    intro σ env W s d Q E A he S R hp P
    rw [dcomp_eq rfl]
    exact dcomp_run K H.e H.i h1 h2 h3 h4 h5 h6 h7 h8 he S R hp (P.toC S.live)
theorem sn (K : c.Ok) (O : OracleOk c lvl C) (hn : n ≤ 1000) (H : All c n lvl C) (k : Kinds) (e : PySem.Expr) (se : SE) (hc : cE c.T (n + 1) k e = some se) : Snd c lvl C k e se := by
  cases e with
  | Constant ct p q =>
    obtain ⟨x, h1, rfl⟩ := map_inv hc
    intro σ env W s d Q E A he S R hp P
    cases Option.some.inj he
    exact e_lit h1 hp P
  | Name x p => exact sn_name hc
  | BinOp l op r p =>
    obtain ⟨bop, ho, hc⟩ := bind_inv hc
    obtain ⟨a, h1, hc⟩ := bind_inv hc
    obtain ⟨b, h2, rfl⟩ := map_inv hc
    exact fun σ env W s d Q E A he S R hp P => e_bin H.e ho h1 h2 he S R hp P
  | UnaryOp op a p =>
    cases op with
    | USub =>
      obtain ⟨a, h1, rfl⟩ := map_inv (o := cE c.T n k a) (f := SE.neg) hc
      exact fun σ env W s d Q E A he S R hp P => e_neg H.e h1 he S R hp P
    | _ => first | exact nos hc | exact nob hc | nomatch hc
  | Compare l ops rs p =>
    obtain ⟨op, ho, hc⟩ := bind_inv hc
    obtain ⟨r, hr, hc⟩ := bind_inv hc
    obtain ⟨bop, hb, hc⟩ := bind_inv hc
    obtain ⟨a, h1, hc⟩ := bind_inv hc
    obtain ⟨b, h2, rfl⟩ := map_inv hc
    cases oneOf_inv ho
    cases oneOf_inv hr
    exact fun σ env W s d Q E A he S R hp P => e_cmp K H.e hb h1 h2 he S R hp P
  | IfExp t a b p =>
    obtain ⟨t, h0, hc⟩ := bind_inv hc
    obtain ⟨a, h1, hc⟩ := bind_inv hc
    obtain ⟨b, h2, rfl⟩ := map_inv hc
    exact fun σ env W s d Q E A he S R hp P => e_ite H.t H.e h0 h1 h2 he S R hp P
  | List es p =>
    obtain ⟨es, h1, rfl⟩ := map_inv hc
    exact fun σ env W s d Q E A he S R hp P => e_lst hn H.l h1 he S R hp P
  | Tuple es a p =>
    obtain ⟨es, h1, rfl⟩ := map_inv hc
    exact fun σ env W s d Q E A he S R hp P => e_tup hn H.l h1 he S R hp P
  | Subscript o i p => exact sn_sub H hc
  | Attribute o a p => exact sn_attr K H hc
  | Call g es kw p =>
    cases kw with
    | cons => first | exact nos hc | exact nob hc | nomatch hc
    | nil =>
      cases g with
      | Name f fp => exact sn_calln K O H hc
      | Attribute o m apos => exact sn_calla K O H hc
      | _ => first | exact nos hc | exact nob hc | nomatch hc
  | ListComp elt gens sc p => exact sn_comp K H (lc_list hc)
  | DictComp kx vx gens sc p => exact sn_comp K H (lc_dict hc)
  | _ => first | exact nos hc | exact nob hc | nomatch hc
theorem se_step (K : c.Ok) (O : OracleOk c lvl C) (hn : n ≤ 1000) (H : All c n lvl C) : SE1 c (n + 1) lvl C :=
  fun k e se σ env W s d Q E A hc => sn K O hn H k e se hc σ env W s d Q E A

theorem snd (K : c.Ok) (O : OracleOk c lvl C) : ∀ n, n ≤ 1000 → All c n lvl C
  | 0, _ => all_zero
  | n + 1, h => by
    have H := snd K O n (by lia)
    exact ⟨se_step K O (by lia) H, sb_step K H.e, st_step K H, si_step K H, sl_step H.e H.l, sts_step H.t H.ts⟩
end
end Mv
end
section
open PySem PySem.W PyProof.Rows
set_option Elab.async false
namespace Mv

noncomputable def SlotOf (env : Env) : Addr → Prop := fun z => z = env.locals ∨ ∃ x, Slot1 env x z

structure FS (c : Cx) (X : Addr) (W₀ M : Addr → Prop) (h : Heap) (env : Env) (k : Kinds) (σ : Env1) : Prop where
  ci : CI c h (fun a => W₀ a ∨ M a) (fun z => SlotOf env z ∨ W₀ z) env k σ
  slotM : ∀ z, SlotOf env z → M z
  dis : ∀ a, W₀ a → ¬ M a
  mb : ∀ a, M a → c.hb.get? a = none
  cslot : ∀ y a, env.cells.lookup y = some a → SlotOf env a
  ownM : ∀ n x t v, c.T.nl[n]? = some x → look σ n = some t → VarAt h env x v → ∀ b, entAddr c h v t b → M b
  oi : ∀ n x v ks vs, c.T.nl[n]? = some x → look σ n = some (.ownI ks vs) → VarAt h env x v → v = .ref X
  sep : ∀ n m x y t u v w, n ≠ m → c.T.nl[n]? = some x → c.T.nl[m]? = some y → look σ n = some t → look σ m = some u → VarAt h env x v → VarAt h env y w → ∀ b, entAddr c h v t b → ¬ entAddr c h w u b

section
variable {c : Cx} {X : Addr} {W₀ M : Addr → Prop} {h h' : Heap} {env : Env} {k : Kinds} {σ : Env1}

theorem FS.es (F : FS c X W₀ M h env k σ) : ES c h (fun a => W₀ a ∨ M a) env k σ := F.ci.es

theorem VarAt.back {x : Str} {v : Value} (F : CI c h W₀ M env k σ) {n : Nat} {t : Ent} (e1 : c.T.nl[n]? = some x) (e2 : look σ n = some t) (V' : VarAt h' env x v) (f : ∀ u, VarAt h env x u → VarAt h' env x u) : VarAt h env x v ∧ EntRel c h W₀ v t := by
  obtain ⟨u, U, r⟩ := F.es.vars n x t e1 e2 (V'.isVar F.es.ks)
  have := V'.uniq (f u U)
  subst this
  exact ⟨U, r⟩

theorem FS.keep (F : FS c X W₀ M h env k σ) (q : Keep h h') : FS c X W₀ M h' env k σ where
  ci := F.ci.keep q
  slotM := F.slotM
  dis := F.dis
  mb := F.mb
  cslot := F.cslot
  ownM := fun n x t v e1 e2 V b x' => by
    obtain ⟨V0, r⟩ := V.back F.ci e1 e2 (fun u U => U.keep q)
    exact F.ownM n x t v e1 e2 V0 b (entAddr_keep r q x')
  oi := fun n x v ks vs e1 e2 V => by
    obtain ⟨V0, r⟩ := V.back F.ci e1 e2 (fun u U => U.keep q)
    exact F.oi n x v ks vs e1 e2 V0
  sep := fun n m x y t u v w hne e1 e2 e3 e4 V W b x1 x2 => by
    obtain ⟨V0, r⟩ := V.back F.ci e1 e3 (fun u U => U.keep q)
    obtain ⟨W1, r'⟩ := W.back F.ci e2 e4 (fun u U => U.keep q)
    exact F.sep n m x y t u v w hne e1 e2 e3 e4 V0 W1 b (entAddr_keep r q x1) (entAddr_keep r' q x2)

theorem FS.weak {σ' : Env1} (F : FS c X W₀ M h env k σ) (e : ∀ n t, look σ' n = some t → look σ n = some t) : FS c X W₀ M h env k σ' where
  ci := F.ci.weak e
  slotM := F.slotM
  dis := F.dis
  mb := F.mb
  cslot := F.cslot
  ownM := fun n x t v e1 e2 V => F.ownM n x t v e1 (e n t e2) V
  oi := fun n x v ks vs e1 e2 V => F.oi n x v ks vs e1 (e n _ e2) V
  sep := fun n m x y t u v w hne e1 e2 e3 e4 V W => F.sep n m x y t u v w hne e1 e2 (e n t e3) (e m u e4) V W

theorem FS.addM (F : FS c X W₀ M h env k σ) (q : Keep h h') {a : Addr} (hn : h.get? a = none) (hl : ∃ o, h'.get? a = some o) : FS c X W₀ (fun b => M b ∨ b = a) h' env k σ := by
  have F' := F.keep q
  refine ⟨(F.ci.grow q hn hl).sub (fun b => ⟨fun x => x.elim (fun y => .inl (.inl y)) fun y => y.elim (fun z => .inl (.inr z)) .inr, fun x => x.elim (fun y => y.elim .inl fun z => .inr (.inl z)) fun y => .inr (.inr y)⟩) fun b x => .inl x,
    fun z hz => .inl (F.slotM z hz), fun b hb x => x.elim (F.dis b hb) fun e => ?_, fun b hb => hb.elim (F.mb b) fun e => ?_, F.cslot, fun n x t v e1 e2 V b hb => .inl (F'.ownM n x t v e1 e2 V b hb), F'.oi, F'.sep⟩
  · subst e
    obtain ⟨o, e⟩ := F.es.live _ (.inl hb)
    rw [hn] at e; cases e
  · subst e
    cases e : c.hb.get? b with
    | none => rfl
    | some o => have := F.es.base _ _ e; rw [hn] at this; cases this

theorem FS.grow (F : FS c X W₀ M h env k σ) (q : Keep h h') {I : Addr} (hn : h.get? I = none) (hl : ∃ o, h'.get? I = some o) : FS c X (fun b => W₀ b ∨ b = I) M h' env k σ := by
  have F' := F.keep q
  refine ⟨(F.ci.grow q hn hl).sub (fun b => ⟨fun x => ?_, fun x => ?_⟩) (fun b x => ?_), F.slotM, fun b hb x => hb.elim (fun y => F.dis b y x) fun e => ?_, F.mb, F.cslot, F'.ownM, F'.oi, F'.sep⟩
  · rcases x with (x | x) | x
    · exact .inl (.inl x)
    · exact .inr x
    · exact .inl (.inr x)
  · rcases x with (x | x) | x
    · exact .inl (.inl x)
    · exact .inr x
    · exact .inl (.inr x)
  · rcases x with x | x | x
    · exact .inl (.inl x)
    · exact .inl (.inr x)
    · exact .inr x
  · subst e
    obtain ⟨o, e⟩ := F.es.live _ (.inr x)
    rw [hn] at e; cases e

theorem FS.locne (F : FS c X W₀ M h env k σ) {I : Addr} (hI : ¬ M I) : ¬ (env.locals = I) := fun e => hI (e ▸ F.slotM _ (.inl rfl))
theorem FS.cellne (F : FS c X W₀ M h env k σ) {I : Addr} (hI : ¬ M I) : ∀ x a, env.cells.lookup x = some a → ¬ (a = I) := fun x a e q => hI (q ▸ F.slotM _ (F.cslot x a e))

theorem entAddr_but {v : Value} {t : Ent} {L W : Addr → Prop} (r : EntRel c h W v t) (hb : ButL L h h') (hw : ∀ b, L b → W b) (ho : ∀ b, L b → ¬ entAddr c h v t b) {b : Addr} (x : entAddr c h' v t b) : entAddr c h v t b := (r.but hb hw ho).2 b x

theorem FS.out {I : Addr} (F : FS c X W₀ M h env k σ) (hI : W₀ I) (hb : ButL (· = I) h h') (hl : ∃ o, h'.get? I = some o) (hbase : c.hb.get? I = none) : FS c X W₀ M h' env k σ := by
  have hnM : ¬ M I := F.dis I hI
  have hoff : ∀ n x t v, c.T.nl[n]? = some x → look σ n = some t → VarAt h env x v → ∀ b, b = I → ¬ entAddr c h v t b := fun n x t v e1 e2 V b e x' => hnM (e ▸ F.ownM n x t v e1 e2 V b x')
  refine ⟨F.ci.but hb (fun b e => e ▸ .inl hI) (fun b e => e ▸ .inr hI) (F.locne hnM) (F.cellne hnM) (fun b o e => hb b o (ne_of_get hbase e) (F.es.base b o e)) (fun a e => e ▸ hl), F.slotM, F.dis, F.mb, F.cslot, fun n x t v e1 e2 V b x' => ?_, fun n x v ks vs e1 e2 V => F.oi n x v ks vs e1 e2 (V.back F.ci e1 e2 (fun u U => U.but hb (F.locne hnM) (fun a e => F.cellne hnM _ a e))).1, fun n m x y t u v w hne e1 e2 e3 e4 V W b x1 x2 => ?_⟩
  · obtain ⟨V0, r⟩ := V.back F.ci e1 e2 (fun u U => U.but hb (F.locne hnM) (fun a e => F.cellne hnM _ a e))
    exact F.ownM n x t v e1 e2 V0 b (entAddr_but r hb (fun b e => e ▸ .inl hI) (hoff n x t v e1 e2 V0) x')
  · obtain ⟨V0, r⟩ := V.back F.ci e1 e3 (fun u U => U.but hb (F.locne hnM) (fun a e => F.cellne hnM _ a e))
    obtain ⟨W1, r'⟩ := W.back F.ci e2 e4 (fun u U => U.but hb (F.locne hnM) (fun a e => F.cellne hnM _ a e))
    exact F.sep n m x y t u v w hne e1 e2 e3 e4 V0 W1 b (entAddr_but r hb (fun b e => e ▸ .inl hI) (hoff n x t v e1 e3 V0) x1) (entAddr_but r' hb (fun b e => e ▸ .inl hI) (hoff m y u w e2 e4 W1) x2)

theorem FS.dropI {I : Addr} (F : FS c X (fun b => W₀ b ∨ b = I) M h env k σ) (hI : ¬ W₀ I) (hb : ButL (· = I) h h') (hbase : c.hb.get? I = none) : FS c X W₀ M h' env k σ := by
  have hnM : ¬ M I := F.dis I (.inr rfl)
  have hw : ∀ b, b = I → (fun a => (W₀ a ∨ a = I) ∨ M a) b := fun b e => .inl (.inr e)
  have hoff : ∀ n x t v, c.T.nl[n]? = some x → look σ n = some t → VarAt h env x v → ∀ b, b = I → ¬ entAddr c h v t b := fun n x t v e1 e2 V b e x' => hnM (e ▸ F.ownM n x t v e1 e2 V b x')
  refine ⟨(F.ci.drop hb (.inl (.inr rfl)) (.inr (.inr rfl)) (fun e => F.locne hnM e.symm) (F.cellne hnM) hbase).sub (fun a => ⟨fun x => ?_, fun x => ?_⟩) (fun a x => x.elim .inl fun y => .inr (.inl y)), F.slotM, fun a x => F.dis a (.inl x), F.mb, F.cslot, fun n x t v e1 e2 V b x' => ?_, fun n x v ks vs e1 e2 V => F.oi n x v ks vs e1 e2 (V.back F.ci e1 e2 (fun u U => U.but hb (F.locne hnM) (fun a e => F.cellne hnM _ a e))).1, fun n m x y t u v w hne e1 e2 e3 e4 V W b x1 x2 => ?_⟩
  · rcases x with x | x
    · exact ⟨.inl (.inl x), fun e => hI (e ▸ x)⟩
    · exact ⟨.inr x, fun e => hnM (e ▸ x)⟩
  · obtain ⟨(x | x) | x, y⟩ := x
    · exact .inl x
    · exact absurd x y
    · exact .inr x
  · obtain ⟨V0, r⟩ := V.back F.ci e1 e2 (fun u U => U.but hb (F.locne hnM) (fun a e => F.cellne hnM _ a e))
    exact F.ownM n x t v e1 e2 V0 b (entAddr_but r hb hw (hoff n x t v e1 e2 V0) x')
  · obtain ⟨V0, r⟩ := V.back F.ci e1 e3 (fun u U => U.but hb (F.locne hnM) (fun a e => F.cellne hnM _ a e))
    obtain ⟨W1, r'⟩ := W.back F.ci e2 e4 (fun u U => U.but hb (F.locne hnM) (fun a e => F.cellne hnM _ a e))
    exact F.sep n m x y t u v w hne e1 e2 e3 e4 V0 W1 b (entAddr_but r hb hw (hoff n x t v e1 e3 V0) x1) (entAddr_but r' hb hw (hoff m y u w e2 e4 W1) x2)

theorem FS.slot (F : FS c X W₀ M h env k σ) {x : Str} (hx : isStored k x = true) : ∃ z, Slot1 env x z := by
  have kd : env.kindOf x = k.lookup x := by unfold Env.kindOf; rw [F.es.ks]
  rcases isStored_or hx with e | e
  · exact ⟨_, .inl ⟨kd.trans e, rfl⟩⟩
  · obtain ⟨a, ha⟩ := F.es.cells x (.inl (kd.trans e))
    exact ⟨a, .inr ⟨kd.trans e, ha⟩⟩

theorem store_FS (K : c.Ok) {Mm : Model} {A : Around} {E : Value → Shared → Prop} {s : Shared} {x : Str} {i : Nat} {v : Value} {t : Ent} {Q : Unit → Shared → Prop} (F : FS c X W₀ M s.heap env k σ) (hx : isStored k x = true) (hi : c.T.ix x = some i)
    (r : EntRel c s.heap (fun a => W₀ a ∨ M a) v t) (hM : ∀ b, entAddr c s.heap v t b → M b ∧ ¬ SlotOf env b)
    (hsep : ∀ m y u w, m ≠ i → c.T.nl[m]? = some y → look σ m = some u → VarAt s.heap env y w → ∀ b, entAddr c s.heap v t b → ¬ entAddr c s.heap w u b)
    (hoi : ∀ ks vs, t = .ownI ks vs → v = .ref X)
    (h : ∀ h' tk, FS c X W₀ M h' env k (upd σ i t) → ButL M s.heap h' → Q () { s with heap := h', toks := tk }) : wpAny Mm A (storeName env x v) Q E s := by
  obtain ⟨z, hz⟩ := F.slot hx
  have hzS : SlotOf env z := .inr ⟨x, hz⟩
  have hzM : M z := F.slotM z hzS
  have hw : ∀ b, b = z → (fun a => W₀ a ∨ M a) b := fun b e => .inr (e ▸ hzM)
  refine store_CI K F.ci hz (.inl hzS) (.inr hzM) (F.mb z hzM) hi r (fun b hb q => hb.elim (hM b q).2 fun y => F.dis b y (hM b q).1) fun h' tk hbut I' Vo V => h h' tk ?_ (hbut.mono fun b e => e ▸ hzM)
  have back : ∀ n y t' u, c.T.nl[n]? = some y → look (upd σ i t) n = some t' → VarAt h' env y u →
      ((n = i ∧ u = v ∧ t' = t) ∨ (n ≠ i ∧ look σ n = some t' ∧ VarAt s.heap env y u)) ∧ ∀ b, entAddr c h' u t' b → entAddr c s.heap u t' b := by
    intro n y t' u e1 e2 U
    rw [look_upd] at e2
    split at e2
    · rename_i hn
      subst hn
      simp only [Option.some.injEq] at e2; subst e2
      have : y = x := by rw [ix_get hi] at e1; exact (Option.some.inj e1).symm
      subst this
      have := U.uniq V
      subst this
      exact ⟨.inl ⟨rfl, rfl, rfl⟩, fun b q => entAddr_but r hbut hw (fun b e q => (hM b q).2 (e ▸ hzS)) q⟩
    · rename_i hn
      have hy : y ≠ x := fun e => hn (nl_inj K.inj e1 (by rw [e]; exact ix_get hi))
      obtain ⟨U0, r0⟩ := U.back F.ci e1 e2 (fun w Wx => Vo y w hy Wx)
      exact ⟨.inr ⟨hn, e2, U0⟩, fun b q => entAddr_but r0 hbut hw (fun b e => e ▸ F.ci.off n y t' u e1 e2 U0 z (.inl hzS)) q⟩
  refine ⟨I', F.slotM, F.dis, F.mb, F.cslot, fun n y t' u e1 e2 U b q => ?_, fun n y u ks vs e1 e2 U => ?_, fun n m y y' t' t'' u w hne e1 e2 e3 e4 U Wv b q1 q2 => ?_⟩
  · obtain ⟨b1, b2⟩ := back n y t' u e1 e2 U
    rcases b1 with ⟨rfl, rfl, rfl⟩ | ⟨_, e3, U0⟩
    · exact (hM b (b2 b q)).1
    · exact F.ownM n y t' u e1 e3 U0 b (b2 b q)
  · obtain ⟨b1, _⟩ := back n y _ u e1 e2 U
    rcases b1 with ⟨rfl, rfl, e⟩ | ⟨_, e3, U0⟩
    · exact hoi ks vs e.symm
    · exact F.oi n y u ks vs e1 e3 U0
  · obtain ⟨b1, b2⟩ := back n y t' u e1 e3 U
    obtain ⟨b3, b4⟩ := back m y' t'' w e2 e4 Wv
    rcases b1 with ⟨rfl, rfl, rfl⟩ | ⟨hn1, e5, U0⟩
    · rcases b3 with ⟨rfl, _, _⟩ | ⟨hn2, e6, W0⟩
      · exact hne rfl
      · exact hsep m y' t'' w hn2 e2 e6 W0 b (b2 b q1) (b4 b q2)
    · rcases b3 with ⟨rfl, rfl, rfl⟩ | ⟨hn2, e6, W0⟩
      · exact hsep n y t' u hn1 e1 e5 U0 b (b4 b q2) (b2 b q1)
      · exact F.sep n m y y' t' t'' u w hne e1 e2 e5 e6 U0 W0 b (b2 b q1) (b4 b q2)

theorem store_frz (K : c.Ok) {Mm : Model} {A : Around} {E : Value → Shared → Prop} {s : Shared} {x : Str} {i : Nat} {v : Value} {d : D} {Q : Unit → Shared → Prop} (F : FS c X W₀ M s.heap env k σ) (hx : isStored k x = true) (hi : c.T.ix x = some i)
    (r : Rep c s.heap (fun a => W₀ a ∨ M a) v d) (h : ∀ h' tk, FS c X W₀ M h' env k (upd σ i (.frz d)) → ButL M s.heap h' → Q () { s with heap := h', toks := tk }) : wpAny Mm A (storeName env x v) Q E s :=
  store_FS K F hx hi (.frz r) (fun b q => (entAddr_frz q).elim) (fun _ _ _ _ _ _ _ _ b q => (entAddr_frz q).elim) (fun _ _ e => nomatch e) h

theorem mut_FS (K : c.Ok) {x : Str} {i : Nat} {v : Value} {t t' : Ent} (F : FS c X W₀ M h env k σ) (hx : c.T.nl[i]? = some x) (hl : look σ i = some t) (V : VarAt h env x v) (r : EntRel c h (fun a => W₀ a ∨ M a) v t) (hb : ButL (entAddr c h v t) h h')
    (r' : EntRel c h' (fun a => W₀ a ∨ M a) v t') (he : ∀ b, entAddr c h' v t' b → entAddr c h v t b) (hlive : ∀ b, entAddr c h v t b → ∃ o, h'.get? b = some o) (hoi : ∀ ks vs, t' = .ownI ks vs → v = .ref X) : FS c X W₀ M h' env k (upd σ i t') := by
  have hLM : ∀ b, entAddr c h v t b → M b := F.ownM i x t v hx hl V
  have hw : ∀ b, entAddr c h v t b → (fun a => W₀ a ∨ M a) b := fun b q => .inr (hLM b q)
  have hoffS : ∀ b, entAddr c h v t b → ¬ SlotOf env b := fun b q hs => F.ci.off i x t v hx hl V b (.inl hs) q
  have hloc : ¬ entAddr c h v t env.locals := fun q => hoffS _ q (.inl rfl)
  have hcell : ∀ y a, env.cells.lookup y = some a → ¬ entAddr c h v t a := fun y a e q => hoffS _ q (F.cslot y a e)
  have hoff : ∀ n y u w, n ≠ i → c.T.nl[n]? = some y → look σ n = some u → VarAt h env y w → ∀ b, entAddr c h v t b → ¬ entAddr c h w u b := fun n y u w hn e1 e2 Wv b q => F.sep i n x y t u v w (Ne.symm hn) hx e1 hl e2 V Wv b q
  have V' : VarAt h' env x v := V.but hb hloc (hcell x)
  have back : ∀ n y u w, c.T.nl[n]? = some y → look (upd σ i t') n = some u → VarAt h' env y w →
      ((n = i ∧ w = v ∧ u = t') ∨ (n ≠ i ∧ look σ n = some u ∧ VarAt h env y w ∧ EntRel c h (fun a => W₀ a ∨ M a) w u)) := by
    intro n y u w e1 e2 Wv
    rw [look_upd] at e2
    split at e2
    · rename_i hn
      subst hn
      simp only [Option.some.injEq] at e2; subst e2
      have : y = x := by rw [hx] at e1; exact (Option.some.inj e1).symm
      subst this
      exact .inl ⟨rfl, Wv.uniq V', rfl⟩
    · rename_i hn
      obtain ⟨W0, r0⟩ := Wv.back F.ci e1 e2 (fun u U => U.but hb hloc (hcell y))
      exact .inr ⟨hn, e2, W0, r0⟩
  have entb : ∀ n y u w, n ≠ i → c.T.nl[n]? = some y → look σ n = some u → VarAt h env y w → EntRel c h (fun a => W₀ a ∨ M a) w u → ∀ b, entAddr c h' w u b → entAddr c h w u b :=
    fun n y u w hn e1 e2 W0 r0 b q => entAddr_but r0 hb hw (hoff n y u w hn e1 e2 W0) q
  have key : ∀ n y u, c.T.nl[n]? = some y → look (upd σ i t') n = some u → isVar k y = true → ∃ w, VarAt h' env y w ∧ EntRel c h' (fun a => W₀ a ∨ M a) w u := by
    intro n y u e1 e2 e3
    rw [look_upd] at e2
    split at e2
    · rename_i hn
      subst hn
      simp only [Option.some.injEq] at e2; subst e2
      have : y = x := by rw [hx] at e1; exact (Option.some.inj e1).symm
      subst this
      exact ⟨v, V', r'⟩
    · rename_i hn
      obtain ⟨w, Wv, rw'⟩ := F.es.vars n y u e1 e2 e3
      exact ⟨w, Wv.but hb hloc (hcell y), (rw'.but hb hw (hoff n y u w hn e1 e2 Wv)).1⟩
  refine ⟨⟨⟨fun b o e => hb b o (fun q => by rw [F.mb b (hLM b q)] at e; cases e) (F.es.base b o e), fun a ha => ?_, F.es.fk, F.es.gl, F.es.bl, F.es.ks, F.es.cells, F.es.cinj, fun y a e => ?_, key⟩, F.ci.fr.but hb hloc hcell, fun n y u w e1 e2 Wv b hL => ?_⟩,
    F.slotM, F.dis, F.mb, F.cslot, fun n y u w e1 e2 Wv b q => ?_, fun n y w ks vs e1 e2 Wv => ?_, fun n m y y' u u' w w' hne e1 e2 e3 e4 Wv Wv' b q1 q2 => ?_⟩
  · by_cases q : entAddr c h v t a
    · exact hlive a q
    · obtain ⟨o, e⟩ := F.es.live a ha
      exact ⟨o, hb a o q e⟩
  · obtain ⟨w, o, e1, e2⟩ := F.es.clive y a e
    exact ⟨w, o, hb a o (hcell y a e) e1, e2⟩
  · rcases back n y u w e1 e2 Wv with ⟨rfl, rfl, rfl⟩ | ⟨hn, e3, W0, r0⟩
    · exact fun q => F.ci.off n x t _ hx hl V b hL (he b q)
    · exact fun q => F.ci.off n y u w e1 e3 W0 b hL (entb n y u w hn e1 e3 W0 r0 b q)
  · rcases back n y u w e1 e2 Wv with ⟨rfl, rfl, rfl⟩ | ⟨hn, e3, W0, r0⟩
    · exact hLM b (he b q)
    · exact F.ownM n y u w e1 e3 W0 b (entb n y u w hn e1 e3 W0 r0 b q)
  · rcases back n y _ w e1 e2 Wv with ⟨rfl, rfl, e⟩ | ⟨hn, e3, W0, r0⟩
    · exact hoi ks vs e.symm
    · exact F.oi n y w ks vs e1 e3 W0
  · rcases back n y u w e1 e3 Wv with ⟨rfl, rfl, rfl⟩ | ⟨hn, e5, W0, r0⟩
    · rcases back m y' u' w' e2 e4 Wv' with ⟨rfl, _, _⟩ | ⟨hm, e6, W1, r1⟩
      · exact hne rfl
      · exact hoff m y' u' w' hm e2 e6 W1 b (he b q1) (entb m y' u' w' hm e2 e6 W1 r1 b q2)
    · rcases back m y' u' w' e2 e4 Wv' with ⟨rfl, rfl, rfl⟩ | ⟨hm, e6, W1, r1⟩
      · exact hoff n y u w hn e1 e5 W0 b (he b q2) (entb n y u w hn e1 e5 W0 r0 b q1)
      · exact F.sep n m y y' u u' w w' hne e1 e2 e5 e6 W0 W1 b (entb n y u w hn e1 e5 W0 r0 b q1) (entb m y' u' w' hm e2 e6 W1 r1 b q2)

noncomputable def frzP (p : Nat → Bool) (σ : Env1) : Env1 := σ.map fun q => (q.1, if p q.1 then frzEnt q.2 else q.2)
theorem look_frzP (p : Nat → Bool) (n : Nat) : ∀ σ : Env1, look (frzP p σ) n = (look σ n).map fun t => if p n then frzEnt t else t
  | [] => rfl
  | (y, e) :: r => by
    have ih := look_frzP p n r
    show look ((y, if p y then frzEnt e else e) :: frzP p r) n = _
    rw [look_cons, look_cons]
    by_cases hn : n = y
    · subst hn; simp
    · rw [if_neg hn, if_neg hn]; exact ih
theorem frzSome_eq (xs : List Nat) (σ : Env1) : frzSome xs σ = frzP xs.contains σ := rfl
theorem frzAll_eq (σ : Env1) : frzAll σ = frzP (fun _ => true) σ := by unfold frzAll frzP; simp

theorem EntRel.freeze {W W' : Addr → Prop} {v : Value} {t : Ent} (r : EntRel c h W v t) (hw : ∀ b, W' b → W b) (ho : ∀ b, entAddr c h v t b → ¬ W' b) : EntRel c h W' v (frzEnt t) := by
  have hs : Sub h W h W' := fun a o n e => ⟨e, fun x => n (hw a x)⟩
  cases r with
  | frz r => exact .frz (r.mono hs)
  | own hW ha hr => exact .frz (.lst (ho _ rfl) ha (hr.mono hs))
  | ownT hW hd hk hr => exact .frz (.tab (ho _ rfl) hd hk (hr.mono hs))
  | ownI hx hdx ho' hd hk hr => exact .frz (.inst (ho _ (.inl rfl)) (ho _ (.inr ⟨_, ho', rfl⟩)) ho' hd hk (hr.mono hs))

theorem entAddr_frzEnt {v : Value} {t : Ent} {b : Addr} : ¬ entAddr c h v (frzEnt t) b := by
  cases t <;> exact entAddr_frz

theorem FS.frz (F : FS c X W₀ M h env k σ) (p : Nat → Bool) : ∃ M', FS c X W₀ M' h env k (frzP p σ) ∧ (∀ b, M' b → M b) := by
  refine ⟨fun a => M a ∧ ¬ ∃ n x t v, p n = true ∧ c.T.nl[n]? = some x ∧ look σ n = some t ∧ VarAt h env x v ∧ entAddr c h v t a, ?_, fun b x => x.1⟩
  have back : ∀ n x t v, c.T.nl[n]? = some x → look (frzP p σ) n = some t → VarAt h env x v → ∃ t0, look σ n = some t0 ∧ t = if p n then frzEnt t0 else t0 := by
    intro n x t v e1 e2 V
    rw [look_frzP, Option.map_eq_some_iff] at e2
    obtain ⟨t0, e, rfl⟩ := e2
    exact ⟨t0, e, rfl⟩
  refine ⟨⟨⟨F.es.base, fun a ha => F.es.live a (ha.elim .inl fun x => .inr x.1), F.es.fk, F.es.gl, F.es.bl, F.es.ks, F.es.cells, F.es.cinj, F.es.clive, fun n x t e1 e2 e3 => ?_⟩, F.ci.fr, fun n x t v e1 e2 V b hb q => ?_⟩, fun z hz => ⟨F.slotM z hz, fun ⟨n, x, t, v, _, e1, e2, V, q⟩ => ?_⟩, fun a hW hM => F.dis a hW hM.1,
    fun a hM => F.mb a hM.1, F.cslot, fun n x t v e1 e2 V b q => ?_, fun n x v ks vs e1 e2 V => ?_, fun n m x y t u v w hne e1 e2 e3 e4 V Wv b q1 q2 => ?_⟩
  · rw [look_frzP, Option.map_eq_some_iff] at e2
    obtain ⟨t0, e, rfl⟩ := e2
    obtain ⟨v, V, r⟩ := F.es.vars n x t0 e1 e e3
    refine ⟨v, V, ?_⟩
    split
    · rename_i hp
      refine r.freeze (fun b x => x.elim .inl fun y => .inr y.1) fun b q hb => ?_
      rcases hb with hb | hb
      · exact F.dis b hb (F.ownM n x t0 v e1 e V b q)
      · exact hb.2 ⟨n, x, t0, v, hp, e1, e, V, q⟩
    · rename_i hp
      refine r.shrink (fun b x => x.elim .inl fun y => .inr y.1) fun b q _ => .inr ⟨F.ownM n x t0 v e1 e V b q, ?_⟩
      rintro ⟨m, y, u, w, hpm, e2, e3, Wv, q2⟩
      have hne : n ≠ m := fun e => hp (e ▸ hpm)
      exact F.sep n m x y t0 u v w hne e1 e2 e e3 V Wv b q q2
  · obtain ⟨t0, e, rfl⟩ := back n x t v e1 e2 V
    split at q
    · exact entAddr_frzEnt q
    · exact F.ci.off n x t0 v e1 e V b hb q
  · exact F.ci.off n x t v e1 e2 V z (.inl hz) q
  · obtain ⟨t0, e, rfl⟩ := back n x t v e1 e2 V
    split at q
    · exact (entAddr_frzEnt q).elim
    · rename_i hp
      refine ⟨F.ownM n x t0 v e1 e V b q, ?_⟩
      rintro ⟨m, y, u, w, hpm, e2, e3, Wv, q2⟩
      have hne : n ≠ m := fun e => hp (e ▸ hpm)
      exact F.sep n m x y t0 u v w hne e1 e2 e e3 V Wv b q q2
  · obtain ⟨t0, e, e'⟩ := back n x _ v e1 e2 V
    split at e'
    · cases t0 <;> cases e'
    · subst e'
      exact F.oi n x v ks vs e1 e V
  · obtain ⟨t0, e, rfl⟩ := back n x t v e1 e3 V
    obtain ⟨u0, e', rfl⟩ := back m y u w e2 e4 Wv
    split at q1
    · exact entAddr_frzEnt q1
    · split at q2
      · exact entAddr_frzEnt q2
      · exact F.sep n m x y t0 u0 v w hne e1 e2 e e' V Wv b q1 q2
end
end Mv
end
section
open PySem PySem.W PyProof.Rows
set_option Elab.async false
namespace Mv

theorem Obj_mapSeq_set_plain (its : Array Value) (n : Nat) (j : Nat) (v : Value) : ∃ m, Obj.mapSeq (·.setIfInBounds j v) { cls := .type "list", data := .seq its n } = { cls := .type "list", data := .seq (its.setIfInBounds j v) m } := by
  simp [Obj.mapSeq]

theorem setItem_plain {prog : Program} {w : World} {A : Around} {E : Value → Shared → Prop} {s : Shared} {l : Addr} {items : Array Value} {k : Int} {t : Tok} {v : Value} {Q : Unit → Shared → Prop} (hl : s.heap.PlainList l items)
    (h0 : 0 ≤ k) (hfit : k < 2 ^ 63) (hn : k < items.size)
    (hQ : ∀ h', h'.PlainList l (items.setIfInBounds k.toNat v) → Heap.SameBut l s.heap h' → Q () { s with heap := h' }) :
    wpAny (model prog w) A (setItem (.ref l) (.int k t) v) Q E s := by
  obtain ⟨n, ho⟩ := id hl
  have hl' := hl.isList
  have hd : ({ cls := .type "list", data := .seq items n } : Obj).data = .seq items n := rfl
  unfold setItem
  try with_reducible refine wpAny_holding ?_
  first | refine wpAny_bind (wpAny_pure ?_) | skip
  refine wpAny_bind (wpAny_sequenceKey hl'.typeIs (by decide) ?_)
  refine wpAny_bind (wpAny_callSpecial?_slot (name := Str.ofString "__setitem__") hl'.typeIs slot_list_setitem
    (wpAny_call_entry slot_list_setitem hl'.typeIs entry_list_setitem ?_ (args_list_setitem _ _ _)))
  show wpAny _ _ (Builtin.List.listSubscript? (.int k t) >>= _) _ _ s
  refine wpAny_bind (wpAny_listSubscript_int (fitsIndex_of h0 hfit) ?_)
  clear hfit
  obtain ⟨j, rfl⟩ := Int.eq_ofNat_of_zero_le h0
  have hj : j < items.size := by lia
  have hx' : items[j]? = some items[j] := Array.getElem?_eq_getElem hj
  show wpAny _ _ ((seqItemAt l j >>= fun r => pure (r.map (j, ·))) >>= _) _ _ s
  refine wpAny_bind (wpAny_bind (wpAny_seqItemAt ho hd (wpAny_pure ?_)))
  rw [hx']
  show wpAny _ _ (setSeqItemAt l j v >>= _) _ _ s
  obtain ⟨m, hm⟩ := Obj_mapSeq_set_plain items n j v
  have hfin : (s.heap.update l (Obj.mapSeq (·.setIfInBounds j v))).PlainList l (items.setIfInBounds j v) := ⟨m, by
    rw [Heap.get?_update_self _ ho (by rw [hm]; rfl), hm]⟩
  refine wpAny_bind (wpAny_setSeqItemAt ho hd ?_)
  first
    | exact wpAny_bind (wpAny_pure (wpAny_pure ⟨.none, rfl, wpAny_pure (hQ _ hfin (Heap.SameBut.update ..))⟩))
    | exact wpAny_pure ⟨.none, rfl, wpAny_pure (hQ _ hfin (Heap.SameBut.update ..))⟩

section
variable {c : Cx} {n lvl : Nat} {C : Nat → List D → Option D} {A : Around} {E : Value → Shared → Prop} {s : Shared} {X : Addr} {W W₀ M : Addr → Prop} {env : Env} {k : Kinds} {σ : Env1} {d : D} {pos : Pos}

theorem none_of_size {h h' : Heap} (q : Keep h h') : h.get? h'.objs.size = none := by
  cases e : h.get? h'.objs.size with
  | none => rfl
  | some o => exact absurd (Heap.lt_size (q _ _ e)) (Nat.lt_irrefl _)

theorem fresh_lst {h h' : Heap} {vs : List Value} {ds : List D} (q : Keep h h') (rs : Reps c h' W vs ds) : FreshE c h (h'.push { cls := .type "list", data := .seq vs.toArray }) W (.ref h'.objs.size) (.lst ds) :=
  ⟨_, _, rfl, none_of_size q, rfl, .own (.inr rfl) ⟨_, Heap.get?_push_size _ rfl⟩ (rs.mono fun a o na e => ⟨Heap.get?_push_of_some _ e, fun x => x.elim na fun y => absurd (Heap.lt_size e) (y ▸ Nat.lt_irrefl _)⟩)⟩

theorem n_lst {Q : Value → Shared → Prop} (hn : n ≤ 1000) (hL : SL1 c n lvl C) {es : List PySem.Expr} {ses : List SE} (h1 : cEs c.T n k es = some ses) (he : evE C (.lst ses) σ = some d)
    (S : ES c s.heap W env k σ) (R : Rm lvl A) (hp : 0 < s.toks) (P : PostN c s W d Q) : wpAny (model c.prog c.w) A (eval (.List es pos) env) Q E s := by
  obtain ⟨ds, e1, rfl⟩ := map_inv he
  refine List_ (hL k es ses σ env W s ds pos _ E A h1 e1 S R hp fun vs h' tk q rs hp' => ?_)
  refine wpAny_newObj_type ?_ ?_
  · exact P _ _ tk (q.trans (Keep.push _ _)) (fresh_lst q rs) hp'
  · have := rs.length
    have h2 := (cEs_len h1)
    have h3 := evEs_len e1
    show vs.toArray.size ≤ sizeLine
    rw [sizeLine_eq, List.size_toArray]; lia

theorem list_is {es : List PySem.Expr} {p : Pos} {a : SE} {x : D} : ∀ {n : Nat}, cE c.T n k (.List es p) = some a → evE C a σ = some x → ∃ l, x = .lst l
  | 0, h, _ => nos h
  | n + 1, h, e => by
    obtain ⟨ses, _, rfl⟩ := map_inv h
    obtain ⟨l, _, rfl⟩ := map_inv e
    exact ⟨l, rfl⟩

theorem mul_lst {l : List D} {y d : D} (h : binD .mul (.lst l) y = some d) : ∃ kk, y = .int kk ∧ (decide (0 ≤ kk) && decide (kk ≤ 1000) && decide (l.length = 1)) = true ∧ d = .lst (repL kk.toNat l) := by
  cases y with
  | int kk => obtain ⟨h1, h2⟩ := of_ite h; exact ⟨kk, rfl, h1, h2.symm⟩
  | _ => exact nos h
theorem add_lst {lx ly : List D} {d : D} (h : binD .add (.lst lx) (.lst ly) = some d) : lx.length + ly.length ≤ 1000 ∧ d = .lst (lx ++ ly) := by
  obtain ⟨h1, h2⟩ := of_ite h
  exact ⟨of_decide_eq_true h1, h2.symm⟩
theorem add_lst' {x : D} {ly : List D} {d : D} (h : binD .add x (.lst ly) = some d) : ∃ lx, x = .lst lx := by
  cases x with
  | lst lx => exact ⟨lx, rfl⟩
  | _ => exact nos h
theorem n_mul {Q : Value → Shared → Prop} (hE : SE1 c n lvl C) {es : List PySem.Expr} {p : Pos} {r : PySem.Expr} {se : SE} (hc : cE c.T (n + 1) k (.BinOp (.List es p) .Mult r pos) = some se) (he : evE C se σ = some d)
    (S : ES c s.heap W env k σ) (R : Rm lvl A) (hp : 0 < s.toks) (P : PostN c s W d Q) : wpAny (model c.prog c.w) A (eval (.BinOp (.List es p) .Mult r pos) env) Q E s := by
  obtain ⟨a, h1, hc⟩ := bind_inv hc
  obtain ⟨b, h2, rfl⟩ := map_inv hc
  clear hc
  obtain ⟨x, e1, he⟩ := bind_inv he
  obtain ⟨y, e2, e3⟩ := bind_inv he
  clear he
  obtain ⟨l, rfl⟩ := list_is h1 e1
  refine wpAny_BinOp (hE k _ a σ env W s _ _ E A h1 e1 S R hp fun v h' tk q rv hp' => ?_)
  refine hE k r b σ env W _ y _ E A h2 e2 (S.keep q) R hp' fun u h'' tk' q' ru hp'' => ?_
  obtain ⟨kk, rfl, hk, rfl⟩ := mul_lst e3
  clear e3
  simp only [Bool.and_eq_true, decide_eq_true_eq] at hk
  obtain ⟨a', vs, rfl, _, ha, hr⟩ := rv.lstI
  obtain ⟨t, rfl⟩ := ru.intI
  refine lst_mulN (s := { s with heap := h'', toks := tk' }) (ha.at fun _ e => q' _ _ e) (hr.keep q') hk.1.1 hk.1.2 hk.2 ?_
  exact P _ _ tk' ((q.trans q').trans (Keep.push _ _)) (fresh_lst (q.trans q') ((hr.keep q').rep _)) hp''

theorem n_addmul {Q : Value → Shared → Prop} (hE : SE1 c n lvl C) (hE0 : SE1 c (n + 1) lvl C) {z : Str} {zp : Pos} {es : List PySem.Expr} {p p2 : Pos} {r : PySem.Expr} {se : SE} (hc : cE c.T (n + 2) k (.BinOp (.Name z zp) .Add (.BinOp (.List es p) .Mult r p2) pos) = some se) (he : evE C se σ = some d)
    (S : ES c s.heap W env k σ) (R : Rm lvl A) (hp : 0 < s.toks) (P : PostN c s W d Q) : wpAny (model c.prog c.w) A (eval (.BinOp (.Name z zp) .Add (.BinOp (.List es p) .Mult r p2) pos) env) Q E s := by
  have hc' : ((cE c.T (n + 1) k (.Name z zp)).bind fun a => (cE c.T (n + 1) k (.BinOp (.List es p) .Mult r p2)).map fun b => SE.bin .add a b) = some se := hc
  simp only [Option.bind_eq_some_iff, Option.map_eq_some_iff] at hc'
  obtain ⟨a, h1, b, h2, rfl⟩ := hc'
  obtain ⟨x, e1, he⟩ := bind_inv he
  first | (have hz := bind_inv he; obtain ⟨y, e2, e3⟩ := hz) | (have hz := map_inv he; obtain ⟨y, e2, e3⟩ := hz)
  refine wpAny_BinOp (hE0 k _ a σ env W s _ _ E A h1 e1 S R hp fun v h' tk q rv hp' => ?_)
  refine n_mul hE h2 e2 (S.keep q) R hp' fun u h'' tk' q' ru hp'' => ?_
  have ru := ru.out (S.keep q).live
  have hy : ∃ l, y = .lst l := by
    have h2' : ((cE c.T n k (.List es p)).bind fun a => (cE c.T n k r).map fun b => SE.bin .mul a b) = some b := h2
    obtain ⟨a', h3, h2'⟩ := bind_inv h2'
    obtain ⟨b', h4, rfl⟩ := map_inv h2'
    obtain ⟨x', e4, e2⟩ := bind_inv e2
    obtain ⟨y', e5, e6⟩ := bind_inv e2
    obtain ⟨l, rfl⟩ := list_is h3 e4
    obtain ⟨_, _, _, h⟩ := mul_lst e6
    exact ⟨_, h⟩
  obtain ⟨ly, rfl⟩ := hy
  obtain ⟨lx, rfl⟩ := add_lst' e3
  obtain ⟨hk, rfl⟩ := add_lst e3
  clear e3 h1 h2 e1 e2
  obtain ⟨a1, vs, rfl, _, ha, hr⟩ := rv.lstI
  obtain ⟨a2, vs', rfl, _, hb, hr'⟩ := ru.lstI
  refine lst_addN (s := { s with heap := h'', toks := tk' }) (ha.at fun _ e => q' _ _ e) hb (hr.keep q') hr' hk ?_
  exact P _ _ tk' ((q.trans q').trans (Keep.push _ _)) (fresh_lst (q.trans q') ((hr.keep q').append hr')) hp''

theorem new_expr {Q : Value → Shared → Prop} (hn : n ≤ 1000) (Hm : ∀ m, m ≤ n → All c m lvl C) {e : PySem.Expr} {se : SE} (hf : freshX e = true) (hnc : isComp e = false) (hc : cE c.T (n + 1) k e = some se) (he : evE C se σ = some d)
    (S : ES c s.heap W env k σ) (R : Rm lvl A) (hp : 0 < s.toks) (P : PostN c s W d Q) : wpAny (model c.prog c.w) A (eval e env) Q E s := by
  cases freshV hf with
  | lst es p =>
    obtain ⟨ses, h1, e2⟩ := map_inv hc
    subst e2
    exact n_lst hn (Hm n (Nat.le_refl _)).l h1 he S R hp P
  | comp h => rw [hnc] at h; first | exact nos h | exact nob h | nomatch h
  | mul h => cases h with
    | mk es p r pos => exact n_mul (Hm n (Nat.le_refl _)).e hc he S R hp P
  | add h => cases h with
    | mk es p r pos =>
      cases n with
      | zero => exact nomatch (show (none : Option SE) = some se from hc)
      | succ n => exact n_addmul (Hm n (Nat.le_succ _)).e (Hm (n + 1) (Nat.le_refl _)).e hc he S R hp P

noncomputable def MSub (M : Addr → Prop) (h : Heap) (M' : Addr → Prop) (h' : Heap) : Prop := ∀ b o, ¬ M b → h.get? b = some o → h'.get? b = some o ∧ ¬ M' b
theorem MSub.refl (h : Heap) : MSub M h M h := fun _ _ n e => ⟨e, n⟩
theorem MSub.trans {h h' h'' : Heap} {M' M'' : Addr → Prop} (a : MSub M h M' h') (b : MSub M' h' M'' h'') : MSub M h M'' h'' := fun x o n e => let ⟨p, q⟩ := a x o n e; b x o q p
theorem MSub.of_but {h h' : Heap} (a : ButL M h h') : MSub M h M h' := fun x o n e => ⟨a x o n e, n⟩
theorem MSub.of_keep {h h' : Heap} (a : Keep h h') : MSub M h M h' := fun x o n e => ⟨a x o e, n⟩
theorem MSub.less {h : Heap} {M' : Addr → Prop} (a : ∀ b, M' b → M b) : MSub M h M' h := fun x o n e => ⟨e, fun y => n (a x y)⟩
theorem MSub.but {h h' : Heap} {M' : Addr → Prop} (a : MSub M h M' h') : ButL M h h' := fun x o n e => (a x o n e).1
theorem MSub.rep {h h' : Heap} {M' : Addr → Prop} (a : MSub M h M' h') : Sub h (fun b => W₀ b ∨ M b) h' (fun b => W₀ b ∨ M' b) := fun x o n e =>
  let ⟨p, q⟩ := a x o (fun y => n (.inr y)) e; ⟨p, fun y => y.elim (fun z => n (.inl z)) q⟩

structure Bnd (c : Cx) (W₀ M : Addr → Prop) (h : Heap) (env : Env) (σ : Env1) (v : Value) (t : Ent) : Prop where
  r : EntRel c h (fun a => W₀ a ∨ M a) v t
  m : ∀ b, entAddr c h v t b → M b ∧ ¬ SlotOf env b
  sep : ∀ m y u w, c.T.nl[m]? = some y → look σ m = some u → VarAt h env y w → ∀ b, entAddr c h v t b → ¬ entAddr c h w u b
  ni : ∀ ks vs, t ≠ .ownI ks vs

theorem Bnd.frz {h : Heap} {v : Value} (r : Rep c h (fun a => W₀ a ∨ M a) v d) : Bnd c W₀ M h env σ v (.frz d) :=
  ⟨.frz r, fun b q => (entAddr_frz q).elim, fun _ _ _ _ _ _ _ b q => (entAddr_frz q).elim, fun _ _ e => nomatch e⟩

theorem store_Bnd (K : c.Ok) {Mm : Model} {x : Str} {i : Nat} {v : Value} {t : Ent} {Q : Unit → Shared → Prop} (F : FS c X W₀ M s.heap env k σ) (hx : isStored k x = true) (hi : c.T.ix x = some i) (B : Bnd c W₀ M s.heap env σ v t)
    (h : ∀ h' tk, FS c X W₀ M h' env k (upd σ i t) → ButL M s.heap h' → Q () { s with heap := h', toks := tk }) : wpAny Mm A (storeName env x v) Q E s :=
  store_FS K F hx hi B.r B.m (fun m y u w _ e1 e2 V => B.sep m y u w e1 e2 V) (fun ks vs e => absurd e (B.ni ks vs)) h

theorem newE_ni {d : D} {t : Ent} (h : newE d = some t) : ∀ ks vs, t ≠ .ownI ks vs := by
  cases d <;> simp only [newE, Option.some.injEq, reduceCtorEq] at h <;> subst h <;> exact fun _ _ e => nomatch e

noncomputable def toEnt (nw : Bool) (d : D) : Option Ent := if nw then newE d else some (.frz d)

theorem SlotOf.live {h : Heap} (F : FS c X W₀ M h env k σ) {b : Addr} (hb : SlotOf env b) : ∃ o, h.get? b = some o := F.es.live b (.inr (F.slotM b hb))

theorem fresh_bnd {h h' : Heap} {v : Value} {t : Ent} {nw : Bool} (F : FS c X W₀ M h env k σ) (q : Keep h h') (x : FreshE c h h' (fun a => W₀ a ∨ M a) v d) (ht : toEnt nw d = some t) :
    ∃ M', FS c X W₀ M' h' env k σ ∧ Bnd c W₀ M' h' env σ v t ∧ MSub M h M' h' := by
  cases nw with
  | false =>
    simp only [toEnt, Bool.false_eq_true, if_false, Option.some.injEq] at ht; subst ht
    exact ⟨M, F.keep q, .frz (x.out F.es.live), .of_keep q⟩
  | true =>
    simp only [toEnt, if_true] at ht
    obtain ⟨a, t', rfl, hn, e, r⟩ := x
    rw [ht] at e; cases e
    have hent : ∀ b, entAddr c h' (.ref a) t b → b = a := by
      cases d <;> simp only [newE, Option.some.injEq, reduceCtorEq] at ht <;> subst ht <;> exact fun b x => x
    have hent' : entAddr c h' (.ref a) t a := by
      cases d <;> simp only [newE, Option.some.injEq, reduceCtorEq] at ht <;> subst ht <;> exact rfl
    have hl := (entAddr_live r hent').2
    refine ⟨fun b => M b ∨ b = a, F.addM q hn hl, ⟨r.shrink (fun b y => ?_) (fun b _ y => ?_), fun b y => ⟨.inr (hent b y), fun hs => ?_⟩, fun m y u w e1 e2 V b q1 q2 => ?_, newE_ni ht⟩, fun b o n e => ⟨q b o e, fun y => y.elim n fun z => ?_⟩⟩
    · rcases y with y | y | y
      · exact .inl (.inl y)
      · exact .inl (.inr y)
      · exact .inr y
    · rcases y with (y | y) | y
      · exact .inl y
      · exact .inr (.inl y)
      · exact .inr (.inr y)
    · obtain ⟨o, e⟩ := SlotOf.live F hs
      rw [hent b y, hn] at e; cases e
    · obtain ⟨V0, r0⟩ := V.back F.ci e1 e2 (fun u U => U.keep q)
      obtain ⟨_, o, e⟩ := entAddr_live r0 (entAddr_keep r0 q q2)
      rw [hent b q1, hn] at e; cases e
    · subst z; rw [hn] at e; cases e
end
end Mv
end
section
open PySem PySem.W PyProof.Rows
set_option Elab.async false
namespace Mv
section
variable {c : Cx} {n lvl : Nat} {C : Nat → List D → Option D} {A : Around} {E : Value → Shared → Prop} {s : Shared} {X : Addr} {W L W₀ M N N' : Addr → Prop} {env : Env} {k : Kinds} {σ : Env1} {d : D} {pos : Pos}

theorem CI.growN {h h' : Heap} (I : CI c h W L env k σ) (q : Keep h h') (hn : ∀ b, N b → h.get? b = none) (hl : ∀ b, N b → ∃ o, h'.get? b = some o) : CI c h' (fun a => W a ∨ N a) (fun a => L a ∨ N a) env k σ := by
  have hne : ∀ a o, h.get? a = some o → ¬ N a := fun a o e x => by rw [hn a x] at e; cases e
  have key : ∀ n x t, c.T.nl[n]? = some x → look σ n = some t → isVar k x = true → ∃ v, VarAt h' env x v ∧ EntRel c h' (fun a => W a ∨ N a) v t ∧ ∀ b, (L b ∨ N b) → ¬ entAddr c h' v t b := by
    intro n x t e1 e2 e3
    obtain ⟨v, V, r⟩ := I.es.vars n x t e1 e2 e3
    refine ⟨v, V.keep q, r.mono' (fun a o na e => ⟨q _ _ e, fun x => x.elim na (hne a o e)⟩) fun a o w e => ⟨q _ _ e, .inl w⟩, fun b hb x => ?_⟩
    have x' := entAddr_keep r q x
    rcases hb with hb | hb
    · exact I.off n _ t v e1 e2 V b hb x'
    · obtain ⟨_, o, e⟩ := entAddr_live r x'
      exact hne _ o e hb
  refine ⟨⟨I.es.base.trans q, fun a ha => ?_, I.es.fk, I.es.gl, I.es.bl, I.es.ks, I.es.cells, I.es.cinj, (I.es.keep q).clive, fun n x t e1 e2 e3 => ?_⟩, I.fr.keep q, fun n x t v e1 e2 V => ?_⟩
  · rcases ha with ha | ha
    · obtain ⟨o, e⟩ := I.es.live a ha; exact ⟨o, q _ _ e⟩
    · exact hl a ha
  · obtain ⟨v, V, r, _⟩ := key n x t e1 e2 e3
    exact ⟨v, V, r⟩
  · obtain ⟨v', V', _, o⟩ := key n x t e1 e2 (V.isVar I.es.ks)
    rw [V.uniq V']; exact o

theorem FS.growN {h h' : Heap} (F : FS c X W₀ M h env k σ) (q : Keep h h') (hn : ∀ b, (N b ∨ N' b) → h.get? b = none) (hl : ∀ b, (N b ∨ N' b) → ∃ o, h'.get? b = some o) (hd : ∀ b, N b → ¬ N' b) : FS c X (fun b => W₀ b ∨ N b) (fun b => M b ∨ N' b) h' env k σ := by
  have F' := F.keep q
  have old : ∀ b, (W₀ b ∨ M b) → ¬ (N b ∨ N' b) := fun b hb x => by
    obtain ⟨o, e⟩ := F.es.live b hb
    rw [hn b x] at e; cases e
  refine ⟨(F.ci.growN (N := fun b => N b ∨ N' b) q hn hl).sub (fun b => ⟨fun x => ?_, fun x => ?_⟩) (fun b x => ?_), fun z hz => .inl (F.slotM z hz), fun b hb x => ?_, fun b hb => ?_, F.cslot, fun n x t v e1 e2 V b hb => .inl (F'.ownM n x t v e1 e2 V b hb), F'.oi, F'.sep⟩
  · rcases x with (x | x) | x | x
    · exact .inl (.inl x)
    · exact .inr (.inl x)
    · exact .inl (.inr x)
    · exact .inr (.inr x)
  · rcases x with (x | x) | x | x
    · exact .inl (.inl x)
    · exact .inr (.inl x)
    · exact .inl (.inr x)
    · exact .inr (.inr x)
  · rcases x with x | x | x
    · exact .inl (.inl x)
    · exact .inl (.inr x)
    · exact .inr (.inl x)
  · rcases hb with hb | hb <;> rcases x with x | x
    · exact F.dis b hb x
    · exact old b (.inl hb) (.inr x)
    · exact old b (.inr x) (.inl hb)
    · exact hd b hb x
  · rcases hb with hb | hb
    · exact F.mb b hb
    · cases e : c.hb.get? b with
      | none => rfl
      | some o => have := F.es.base _ _ e; rw [hn b (.inr hb)] at this; cases this

theorem fresh_bndN {h h' : Heap} {v : Value} {t : Ent} {nw : Bool} (F : FS c X W₀ M h env k σ) (q : Keep h h') (x : FreshE c h h' (fun a => (W₀ a ∨ M a) ∨ N a) v d) (ht : toEnt nw d = some t)
    (hN : ∀ b, N b → h.get? b = none) (hNl : ∀ b, N b → ∃ o, h'.get? b = some o) (hv : ∀ b, N b → v ≠ .ref b) :
    ∃ M', FS c X (fun b => W₀ b ∨ N b) M' h' env k σ ∧ Bnd c (fun b => W₀ b ∨ N b) M' h' env σ v t ∧ MSub M h M' h' := by
  cases nw with
  | false =>
    simp only [toEnt, Bool.false_eq_true, if_false, Option.some.injEq] at ht; subst ht
    have F' := F.growN (N := N) (N' := fun _ => False) q (fun b x => x.elim (hN b) False.elim) (fun b x => x.elim (hNl b) False.elim) fun _ _ => id
    refine ⟨fun b => M b ∨ False, F', .frz ?_, fun b o n e => ⟨q b o e, fun y => y.elim n id⟩⟩
    have r : Rep c h' (fun a => (W₀ a ∨ M a) ∨ N a) v d := x.rep fun a e w => by
      rcases w with w | w
      · obtain ⟨b, t, rfl, hn, _⟩ := x
        cases e
        obtain ⟨o, e⟩ := F.es.live _ w
        rw [hn] at e; cases e
      · exact hv a w e
    exact r.mono fun a o na e => ⟨e, fun y => na (by
      rcases y with (y | y) | y | y
      · exact .inl (.inl y)
      · exact .inr y
      · exact .inl (.inr y)
      · exact y.elim)⟩
  | true =>
    simp only [toEnt, if_true] at ht
    obtain ⟨a, t', rfl, hn, e, r⟩ := x
    rw [ht] at e; cases e
    have hent : ∀ b, entAddr c h' (.ref a) t b → b = a := by
      cases d <;> simp only [newE, Option.some.injEq, reduceCtorEq] at ht <;> subst ht <;> exact fun b x => x
    have hent' : entAddr c h' (.ref a) t a := by
      cases d <;> simp only [newE, Option.some.injEq, reduceCtorEq] at ht <;> subst ht <;> exact rfl
    have hl := (entAddr_live r hent').2
    have F' := F.growN (N := N) (N' := fun b => b = a) q (fun b x => x.elim (hN b) fun e => e ▸ hn) (fun b x => x.elim (hNl b) fun e => e ▸ hl) fun b hb e => hv b hb (by rw [e])
    refine ⟨fun b => M b ∨ b = a, F', ⟨r.shrink (fun b y => ?_) (fun b _ y => ?_), fun b y => ⟨.inr (hent b y), fun hs => ?_⟩, fun m y u w e1 e2 V b q1 q2 => ?_, newE_ni ht⟩, fun b o n e => ⟨q b o e, fun y => y.elim n fun z => ?_⟩⟩
    · rcases y with (y | y) | y | y
      · exact .inl (.inl (.inl y))
      · exact .inl (.inr y)
      · exact .inl (.inl (.inr y))
      · exact .inr y
    · rcases y with ((y | y) | y) | y
      · exact .inl (.inl y)
      · exact .inr (.inl y)
      · exact .inl (.inr y)
      · exact .inr (.inr y)
    · obtain ⟨o, e⟩ := SlotOf.live F hs
      rw [hent b y, hn] at e; cases e
    · obtain ⟨V0, r0⟩ := V.back F.ci e1 e2 (fun u U => U.keep q)
      obtain ⟨_, o, e⟩ := entAddr_live r0 (entAddr_keep r0 q q2)
      rw [hent b q1, hn] at e; cases e
    · subst z; rw [hn] at e; cases e

noncomputable def compOf (e : PySem.Expr) (env : Env) (use : Option (Value → Sem Unit)) : Sem Value := match e with
  | .ListComp _ gens sc pos => comprehension e sc env (firstIterPos gens pos) (newList []) (firstAsync gens) (firstIter gens env) use
  | .DictComp _ _ gens sc pos => comprehension e sc env (firstIterPos gens pos) newDict (firstAsync gens) (firstIter gens env) use
  | _ => pure .none

theorem comp_lc (K : c.Ok) (H : All c n lvl C) {e : PySem.Expr} {se : SE} {use : Option (Value → Sem Unit)} {Q : Value → Shared → Prop} (hv : LcV c n k e se) (he : evE C se σ = some d)
    (S : ES c s.heap W env k σ) (R : Rm lvl A) (hp : 0 < s.toks) (P : PostC c A E s W d use Q) : wpAny (model c.prog c.w) A (compOf e env use) Q E s := by
  cases hv with
  | one h1 h2 h3 h4 h5 h6 h7 h8 => exact comp_run K H.e H.ts H.i h1 h2 h3 h4 h5 h6 h7 h8 he S R hp P
  | two h1 h2 h3 h4 h5 h6 h7 h8 h9 => exact comp2_run K H.e H.ts H.i (cE_pos h9) h1 h2 h3 h4 h5 h6 h7 h8 h9 he S R hp P
  | dict h1 h2 h3 h4 h5 h6 h7 h8 => exact dcomp_run K H.e H.i h1 h2 h3 h4 h5 h6 h7 h8 he S R hp P
theorem lc_of {e : PySem.Expr} {se : SE} (hic : isComp e = true) (hc : cE c.T (n + 1) k e = some se) : LcV c n k e se := by
  cases e with
  | ListComp => exact lc_list hc
  | DictComp => exact lc_dict hc
  | SetComp => first | exact nos hc | exact nob hc | nomatch hc
  | _ => first | exact nos hic | exact nob hic | nomatch hic
theorem comp_all (K : c.Ok) (H : All c n lvl C) {e : PySem.Expr} {se : SE} {use : Option (Value → Sem Unit)} {Q : Value → Shared → Prop} (hic : isComp e = true) (hc : cE c.T (n + 1) k e = some se) (he : evE C se σ = some d)
    (S : ES c s.heap W env k σ) (R : Rm lvl A) (hp : 0 < s.toks) (P : PostC c A E s W d use Q) : wpAny (model c.prog c.w) A (compOf e env use) Q E s := comp_lc K H (lc_of hic hc) he S R hp P

theorem swaps_nc {e : PySem.Expr} {t : Option PySem.Expr} {l : Nat} (h : isComp e = false) : swapsWith e t l env = pure false := by
  cases e with
  | ListComp => first | exact nos h | exact nob h | nomatch h
  | SetComp => first | exact nos h | exact nob h | nomatch h
  | DictComp => first | exact nos h | exact nob h | nomatch h
  | _ => rfl

theorem setcomp_no {e : PySem.Expr} {se : SE} (hic : isComp e = true) (hc : cE c.T (n + 1) k e = some se) : (∃ a g sc p, e = .ListComp a g sc p) ∨ ∃ a b g sc p, e = .DictComp a b g sc p := by
  cases e with
  | ListComp => exact .inl ⟨_, _, _, _, rfl⟩
  | DictComp => exact .inr ⟨_, _, _, _, _, rfl⟩
  | SetComp => first | exact nos hc | exact nob hc | nomatch hc
  | _ => first | exact nos hic | exact nob hic | nomatch hic

theorem s_bind (K : c.Ok) (hn : n ≤ 1000) (Hm : ∀ m, m ≤ n + 1 → All c m lvl C) {x : Str} {xp : Pos} {e : PySem.Expr} {nw : Bool} {i : Nat} {t : Ent} {se : SE} {Q : Flow → Shared → Prop} (hx : isStored k x = true) (hi : c.T.ix x = some i)
    (hc : cE c.T (n + 1) k e = some se) (hfr : nw = true → freshX e = true) (he : evE C se σ = some d) (ht : toEnt nw d = some t) (F : FS c X W₀ M s.heap env k σ) (R : Rm lvl A) (hp : 0 < s.toks)
    (P : ∀ h' tk M', FS c X W₀ M' h' env k (upd σ i t) → MSub M s.heap M' h' → 0 < tk → Q .next { s with heap := h', toks := tk }) :
    wpAny (model c.prog c.w) A (exec (.Assign [.Name x xp] e pos) env) Q E s := by
  have fin : ∀ (v : Value) (h' : Heap) (tk : Nat) (M' : Addr → Prop), FS c X W₀ M' h' env k σ → Bnd c W₀ M' h' env σ v t → MSub M s.heap M' h' → 0 < tk →
      ∀ E, wpAny (model c.prog c.w) A (storeName env x v) (fun _ => Q .next) E { s with heap := h', toks := tk } := by
    intro v h' tk M' F' B ms hp' E
    refine pos_any hp' fun E' => store_Bnd (s := { s with heap := h', toks := tk }) K F' hx hi B fun h'' tk' F'' hb hp'' => ?_
    exact P h'' tk' M' F'' (ms.trans (.of_but hb)) hp''
  cases hic : isComp e with
  | false =>
    refine wpAny_Assign_Name ?_ (swaps_nc hic)
    cases nw with
    | true =>
      refine new_expr hn (fun m hm => Hm m (by lia)) (hfr rfl) hic hc he F.es R hp fun v h' tk q x hp' => ?_
      obtain ⟨M', F', B, ms⟩ := fresh_bnd F q x ht
      exact fin v h' tk M' F' B ms hp' E
    | false =>
      simp only [toEnt, Bool.false_eq_true, if_false, Option.some.injEq] at ht; subst ht
      refine (Hm (n + 1) (Nat.le_refl _)).e k e se σ env _ s d _ E A hc he F.es R hp fun v h' tk q r hp' => ?_
      exact fin v h' tk M (F.keep q) (.frz r) (.of_keep q) hp' E
  | true =>
    have hsw : ∃ b, swapsWith e (some (.Name x xp)) pos.line env = pure b := by
      cases e <;> first | exact ⟨_, rfl⟩ | simp [isComp] at hic
    have hev : eval e env = compOf e env none := by
      rcases setcomp_no hic hc with ⟨_, _, _, _, rfl⟩ | ⟨_, _, _, _, _, rfl⟩ <;> rfl
    obtain ⟨b, hsw⟩ := hsw
    cases b with
    | false =>
      refine wpAny_Assign_Name ?_ hsw
      rw [hev]
      have PN : PostN c s (fun a => W₀ a ∨ M a) d (fun v s₁ => wpAny (model c.prog c.w) A (storeName env x v) (fun _ => Q .next) E s₁) := fun v h' tk q x hp' => by
        obtain ⟨M', F', B, ms⟩ := fresh_bnd F q x ht
        exact fin v h' tk M' F' B ms hp' E
      exact comp_all K (Hm n (by lia)) hic hc he F.es R hp PN.toC
    | true =>
      rw [exec_Assign_Name_used _ _ _ _ hsw]
      refine wpAny_bind (wpAny_standAt (wpAny_bind ?_))
      have hu : evalThenUse e env (assign (.Name x xp) env) = (compOf e env (some (assign (.Name x xp) env)) >>= fun _ => pure ()) := by
        rcases setcomp_no hic hc with ⟨_, _, _, _, rfl⟩ | ⟨_, _, _, _, _, rfl⟩ <;> rfl
      rw [hu]
      refine wpAny_bind (wpAny_mono (comp_all (Q := fun _ s' => Q .next s') K (Hm n (by lia)) hic hc he F.es R hp ?_) (fun _ s' hq => wpAny_pure (wpAny_pure hq)) fun _ _ e => e)
      intro v Z h' tk hZ q fx hvZ hns hp'
      have hZl : ∃ o, h'.get? Z = some o := let ⟨m, o, _, _, e, _⟩ := hns; ⟨o, e⟩
      obtain ⟨M', F', B, ms⟩ := fresh_bndN (N := fun a => a = Z) F q fx ht (fun b e => e ▸ hZ) (fun b e => e ▸ hZl) fun b e => e ▸ hvZ
      have hZM : ¬ M' Z := F'.dis Z (.inr rfl)
      have hZW : ¬ W₀ Z := fun w => by
        obtain ⟨o, e⟩ := F.es.live Z (.inl w)
        rw [hZ] at e; cases e
      have hZb : c.hb.get? Z = none := by
        cases e : c.hb.get? Z with
        | none => rfl
        | some o => have := F.es.base _ _ e; rw [hZ] at this; cases this
      show wpAny (model c.prog c.w) A (assign (.Name x xp) env v) _ _ _
      refine wpAny_assign_Name (pos_any hp' fun E' => store_Bnd (s := { s with heap := h', toks := tk }) K F' hx hi B fun h'' tk' F'' hb hp'' => ?_)
      obtain ⟨m, hns⟩ := hns
      refine ⟨m, hns.at' fun o e => hb _ o hZM e, fun h''' sb => ?_⟩
      have hb3 : ButL (· = Z) h'' h''' := fun b o n e => sb.extBut b o n e
      refine P h''' tk' M' (F''.dropI hZW hb3 hZb) (fun b o n e => ?_) hp''
      have e1 := ms b o n e
      exact ⟨hb3 b o (ne_of_get hZ e) (hb b o e1.2 e1.1), e1.2⟩
end
end Mv
end
section
open PySem PySem.W PyProof.Rows
set_option Elab.async false
namespace Mv

noncomputable def PostS (c : Cx) (X : Addr) (W₀ M : Addr → Prop) (s : Shared) (env : Env) (k : Kinds) (σ' : Env1) (fl : Fl) (Q : Flow → Shared → Prop) : Prop :=
  match fl with
  | .next => ∀ h' tk M', FS c X W₀ M' h' env k σ' → MSub M s.heap M' h' → 0 < tk → Q .next { s with heap := h', toks := tk }
  | .brk => ∀ h' tk M', FS c X W₀ M' h' env k σ' → MSub M s.heap M' h' → 0 < tk → Q .brk { s with heap := h', toks := tk }
  | .ret d => ∀ v h' tk, ButL M s.heap h' → Rep c h' W₀ v d → 0 < tk → Q (.ret v) { s with heap := h', toks := tk }

section
variable {c : Cx} {n lvl : Nat} {C : Nat → List D → Option D} {A : Around} {E : Value → Shared → Prop} {s : Shared} {X : Addr} {W₀ M : Addr → Prop} {env : Env} {k : Kinds} {σ σ' : Env1} {fl : Fl} {pos : Pos} {Q : Flow → Shared → Prop}

theorem PostS.sub {M₁ : Addr → Prop} {h₁ : Heap} {tk₁ : Nat} (P : PostS c X W₀ M s env k σ' fl Q) (m : MSub M s.heap M₁ h₁) : PostS c X W₀ M₁ { s with heap := h₁, toks := tk₁ } env k σ' fl Q := by
  cases fl with
  | next => exact fun h' tk M' F m' hp => P h' tk M' F (m.trans m') hp
  | brk => exact fun h' tk M' F m' hp => P h' tk M' F (m.trans m') hp
  | ret d => exact fun v h' tk b r hp => P v h' tk (fun x o n e => b x o (m x o n e).2 (m x o n e).1) r hp

theorem own_name {x : Str} {p : Pos} {i : Nat} {t : Ent} {Q : Value → Shared → Prop} (F : FS c X W₀ M s.heap env k σ) (hv : (isVar k x && x != ("__debug__" : Str) && x != ("__classdict__" : Str)) = true) (hi : c.T.ix x = some i) (hl : look σ i = some t)
    (h : ∀ v, VarAt s.heap env x v → EntRel c s.heap (fun a => W₀ a ∨ M a) v t → Q v s) : wpAny (model c.prog c.w) A (eval (.Name x p) env) Q E s := by
  simp only [Bool.and_eq_true, bne_iff_ne, ne_eq] at hv
  obtain ⟨v, V, r⟩ := F.es.vars i x t (ix_get hi) hl hv.1.1
  exact wpAny_Name (load_sound F.es.fk V (by simpa using hv.2) (h v V r)) (by simpa using hv.1.2)

theorem swaps_sub {e o i : PySem.Expr} {p : Pos} {l : Nat} : swapsWith e (some (.Subscript o i p)) l env = pure false := by cases e <;> rfl
theorem swaps_attr {e o : PySem.Expr} {a : Str} {p : Pos} {l : Nat} : swapsWith e (some (.Attribute o a p)) l env = pure false := by cases e <;> rfl
theorem swaps_tup {e : PySem.Expr} {ts : List PySem.Expr} {kd : Nat} {p : Pos} {l : Nat} : swapsWith e (some (.Tuple ts kd p)) l env = pure false := by cases e <;> rfl

theorem set_own (K : c.Ok) {x : Str} {i : Nat} {t t' : Ent} {v iv ev : Value} {kd d : D} {Q : Unit → Shared → Prop} (F : FS c X W₀ M s.heap env k σ) (hi : c.T.ix x = some i) (hl : look σ i = some t) (V : VarAt s.heap env x v) (r : EntRel c s.heap (fun a => W₀ a ∨ M a) v t)
    (hs : setAt t kd d = some t') (ri : Rep c s.heap (fun a => W₀ a ∨ M a) iv kd) (re : Rep c s.heap (fun a => W₀ a ∨ M a) ev d)
    (P : ∀ h' tk, FS c X W₀ M h' env k (upd σ i t') → ButL M s.heap h' → Q () { s with heap := h', toks := tk }) : wpAny (model c.prog c.w) A (setItem v iv ev) Q E s := by
  have hLM : ∀ b, entAddr c s.heap v t b → M b := F.ownM i x t v (ix_get hi) hl V
  cases r with
  | frz r => simp [setAt] at hs
  | own hW ha hr =>
    rename_i a vs ds
    cases kd with
    | int j =>
      simp only [setAt] at hs
      split at hs
      · rename_i hj
        simp only [Option.some.injEq] at hs; subst hs
        simp only [Bool.and_eq_true, decide_eq_true_eq] at hj
        cases ri with
        | int _ tk =>
          have hlen := hr.length
          refine setItem_plain ha hj.1.1 (by omega) (by rw [List.size_toArray, hlen]; exact hj.1.2) fun h' hp' sb => ?_
          have hb : ButL (· = a) s.heap h' := fun b o n e => sb.extBut b o n e
          have hw : ∀ b, b = a → (fun a => W₀ a ∨ M a) b := fun b e => e ▸ hW
          have hp2 : h'.PlainList a (vs.set j.toNat ev).toArray := by simpa using hp'
          refine P h' s.toks (mut_FS K F (ix_get hi) hl V (.own hW ha hr) hb (.own hW hp2 ((hr.but hb hw).set _ (re.but hb hw))) (fun b q => q) (fun b q => ?_) (fun _ _ e => nomatch e)) (hb.mono fun b e => e ▸ hLM a rfl)
          cases q
          obtain ⟨m, e⟩ := hp2
          exact ⟨_, e⟩
      · cases hs
    | _ => simp [setAt] at hs
  | ownT hW hd hk hr =>
    rename_i a kvs ks ds
    cases kd with
    | str l =>
      simp only [setAt] at hs
      split at hs
      · rename_i hj
        simp only [Option.some.injEq] at hs; subst hs
        simp only [decide_eq_true_eq] at hj
        cases ri with
        | str st tk _ hst =>
          subst hst
          have hn : (kvs.map (·.1)).Nodup := by obtain ⟨_, _, _, _, _, _, _, _, hn⟩ := hd; exact hn
          have hlen : kvs.length ≤ sizeLine := by
            have : kvs.length = ks.length := by rw [← hk]; simp
            rw [sizeLine_eq]; omega
          refine wpAny_setItem_pairs (knd := PySem.strKind c.prog c.w) (k := st) (by show (st == st) = true; simp) hd (fun h' hd' sb => ?_) hlen
          have hb : ButL (· = a) s.heap h' := fun b o n e => sb.extBut b o n e
          have hw : ∀ b, b = a → (fun a => W₀ a ∨ M a) b := fun b e => e ▸ hW
          rw [stored_eq kvs st ev hn] at hd'
          obtain ⟨p1, p2⟩ := putV_put (k := st) hk (hr.but hb hw) (re.but hb hw)
          refine P h' (s.toks + 1) (mut_FS K F (ix_get hi) hl V (.ownT hW hd hk hr) hb (.ownT hW hd' p1 p2) (fun b q => q) (fun b q => ?_) (fun _ _ e => nomatch e)) (hb.mono fun b e => e ▸ hLM a rfl)
          cases q
          obtain ⟨o, _, _, eo, _⟩ := hd'
          exact ⟨o, eo⟩
      · cases hs
    | _ => simp [setAt] at hs
  | ownI hx hdx ho hd hk hr => cases kd <;> simp [setAt] at hs

theorem s_setI (K : c.Ok) (hE : SE1 c n lvl C) {x : Str} {xp sp : Pos} {ie e : PySem.Expr} {xi : Nat} {si se : SE} (hv : (isVar k x && x != ("__debug__" : Str) && x != ("__classdict__" : Str)) = true) (hi : c.T.ix x = some xi)
    (h1 : cE c.T n k ie = some si) (h2 : cE c.T n k e = some se) (hr : run C (.setI xi si se) σ = some (σ', fl)) (F : FS c X W₀ M s.heap env k σ) (R : Rm lvl A) (hp : 0 < s.toks) (P : PostS c X W₀ M s env k σ' fl Q) :
    wpAny (model c.prog c.w) A (exec (.Assign [.Subscript (.Name x xp) ie sp] e pos) env) Q E s := by
  obtain ⟨d, e1, hr⟩ := bind_inv hr
  obtain ⟨t, hl, hr⟩ := bind_inv hr
  obtain ⟨kd, e2, hr⟩ := bind_inv hr
  obtain ⟨t', hs, hr⟩ := map_inv hr
  cases hr
  refine wpAny_Assign_Subscript (hE k e se σ env _ s d _ E A h2 e1 F.es R hp fun v h' tk q rv hp' => ?_) swaps_sub
  have F' := F.keep q
  refine own_name (s := { s with heap := h', toks := tk }) F' hv hi hl fun ov V ro => ?_
  refine hE k ie si σ env _ { s with heap := h', toks := tk } kd _ E A h1 e2 F'.es R hp' fun iv h'' tk' q' ri hp'' => ?_
  have F'' := F'.keep q'
  refine pos_any hp'' fun E' => set_own (s := { s with heap := h'', toks := tk' }) K F'' hi hl (V.keep q') (ro.keep q') hs ri (rv.keep q') fun h3 tk3 F3 b3 hp3 => ?_
  exact P h3 tk3 M F3 ((MSub.of_keep (q.trans q')).trans (.of_but b3)) hp3

theorem aug_sound {op : Bop} {old d r : D} {u v : Value} {W : Addr → Prop} {Q : Value → Shared → Prop} (e : augD op old d = some r) (ru : Rep c s.heap W u old) (rv : Rep c s.heap W v d) (P : PostP c s W r Q) :
    wpAny (model c.prog c.w) A (inplaceOp (opsyn op) u v) Q E s := by
  cases old with
  | int a =>
    cases d with
    | int b =>
      cases ru with | int _ t =>
      cases rv with | int _ t' =>
      cases op <;> simp only [augD, Option.some.injEq, reduceCtorEq] at e <;> subst e
      · exact AutoIntOps.iadd_0 (P _ s.heap (s.toks + 1) (Keep.refl _) (.int _ _) (Nat.succ_pos _))
      · exact AutoIntOps.isub_0 (P _ s.heap (s.toks + 1) (Keep.refl _) (.int _ _) (Nat.succ_pos _))
      · exact ixor_int (P _ s.heap (s.toks + 1) (Keep.refl _) (.int _ _) (Nat.succ_pos _))
    | _ => simp [augD] at e
  | _ => simp [augD] at e

theorem load_stored {Mm : Model} {x : Str} {v : Value} {Q : Value → Shared → Prop} (fk : env.scope.kind = .function) (ks : env.scope.names = k) (hx : isStored k x = true) (V : VarAt s.heap env x v) (h : Q v s) : wpAny Mm A (loadName env x) Q E s := by
  have kd : env.kindOf x = k.lookup x := by unfold Env.kindOf; rw [ks]
  cases V with
  | loc m hl hns hv => exact wpAny_loadName_local fk hl hns hv h
  | cell q hk' hc a hl hi =>
    rcases hc with rfl | rfl
    · exact wpAny_loadName_cell fk hk' hl hi h
    · rw [kd] at hk'
      rcases isStored_or hx with e | e <;> rw [e] at hk' <;> cases hk'

theorem s_aug (K : c.Ok) (hE : SE1 c n lvl C) {x : Str} {xp : Pos} {e : PySem.Expr} {op : Operator} {bop : Bop} {xi : Nat} {se : SE} (hx : isStored k x = true) (ho : bopOf op = some bop) (hi : c.T.ix x = some xi)
    (h1 : cE c.T n k e = some se) (hr : run C (.aug xi bop se) σ = some (σ', fl)) (F : FS c X W₀ M s.heap env k σ) (R : Rm lvl A) (hp : 0 < s.toks) (P : PostS c X W₀ M s env k σ' fl Q) :
    wpAny (model c.prog c.w) A (exec (.AugAssign (.Name x xp) op e pos) env) Q E s := by
  have := bopOf_syn ho; subst this
  obtain ⟨old, e0, hr⟩ := bind_inv hr
  obtain ⟨d, e1, hr⟩ := bind_inv hr
  obtain ⟨r, e2, hr⟩ := map_inv hr
  cases hr
  simp only [readE] at e0
  split at e0
  · rename_i d0 hl
    simp only [Option.some.injEq] at e0; subst e0
    have hxv : isVar k x = true := by
      unfold isVar
      rcases isStored_or hx with h | h <;> rw [h]
    obtain ⟨u, U, ru⟩ := F.es.vars xi x _ (ix_get hi) hl hxv
    cases ru with
    | frz ru =>
      refine wpAny_AugAssign_Name (load_stored F.es.fk F.es.ks hx U ?_)
      refine hE k e se σ env _ s d _ E A h1 e1 F.es R hp fun v h' tk q rv hp' => ?_
      refine aug_sound (s := { s with heap := h', toks := tk }) e2 (ru.keep q) rv fun w h'' tk' q' rw' hp'' => ?_
      refine pos_any hp'' fun E' => store_frz (s := { s with heap := h'', toks := tk' }) K ((F.keep q).keep q') hx hi rw' fun h3 tk3 F3 b3 hp3 => ?_
      exact P h3 tk3 M F3 ((MSub.of_keep (q.trans q')).trans (.of_but b3)) hp3
  · cases e0

theorem s_augI (K : c.Ok) (hE : SE1 c n lvl C) {x : Str} {xp sp : Pos} {ie e : PySem.Expr} {op : Operator} {bop : Bop} {xi : Nat} {si se : SE} (hns : ∀ a b d p, ie ≠ .Slice a b d p) (hv : (isVar k x && x != ("__debug__" : Str) && x != ("__classdict__" : Str)) = true) (ho : bopOf op = some bop)
    (hi : c.T.ix x = some xi) (h1 : cE c.T n k ie = some si) (h2 : cE c.T n k e = some se) (hr : run C (.augI xi si bop se) σ = some (σ', fl)) (F : FS c X W₀ M s.heap env k σ) (R : Rm lvl A) (hp : 0 < s.toks) (P : PostS c X W₀ M s env k σ' fl Q) :
    wpAny (model c.prog c.w) A (exec (.AugAssign (.Subscript (.Name x xp) ie sp) op e pos) env) Q E s := by
  have := bopOf_syn ho; subst this
  obtain ⟨kd, e1, hr⟩ := bind_inv hr
  first | (have hz := bind_inv hr; obtain ⟨t, hl, hr⟩ := hz) | (have hz := map_inv hr; obtain ⟨t, hl, hr⟩ := hz)
  cases t with
  | own l =>
    obtain ⟨old, e2, hr⟩ := bind_inv hr
    obtain ⟨d, e3, hr⟩ := bind_inv hr
    obtain ⟨r, e4, hr⟩ := bind_inv hr
    obtain ⟨t', hs, hr⟩ := map_inv hr
    cases hr
    obtain ⟨j, ey, e2⟩ := bind_inv e2
    cases int_inv ey
    obtain ⟨kk, e5, e6⟩ := bind_inv e2
    refine wpAny_AugAssign_Subscript_any ?_ (fun ov iv new => by cases ie <;> first | rfl | exact absurd rfl (hns _ _ _ _))
    refine own_name F hv hi hl fun ov V ro => ?_
    refine hE k ie si σ env _ s (.int j) _ E A h1 e1 F.es R hp fun iv h' tk q ri hp' => ?_
    have F' := F.keep q
    obtain ⟨tj, eiv⟩ := ri.intI
    obtain ⟨a, us, eov, hW, ha, hrr⟩ := (ro.keep q).ownA
    rw [eiv, eov]
    refine getItem_lst (s := { s with heap := h', toks := tk }) ha hrr e5 e6 fun u ru => ?_
    refine hE k e se σ env _ { s with heap := h', toks := tk } d _ E A h2 e3 F'.es R hp' fun v h'' tk' q' rv hp'' => ?_
    have F'' := F'.keep q'
    refine aug_sound (s := { s with heap := h'', toks := tk' }) e4 (ru.keep q') rv fun w h3 tk3 q3 rw' hp3 => ?_
    have F3 := F''.keep q3
    refine pos_any hp3 fun E' => set_own (s := { s with heap := h3, toks := tk3 }) K F3 hi hl (eov ▸ ((V.keep q).keep q').keep q3) (eov ▸ ((ro.keep q).keep q').keep q3) hs (.int j tj) rw' fun h4 tk4 F4 b4 hp4 => ?_
    exact P h4 tk4 M F4 ((MSub.of_keep ((q.trans q').trans q3)).trans (.of_but b4)) hp4
  | _ => exact nos hr

theorem s_app (K : c.Ok) (hE : SE1 c n lvl C) {x : Str} {xp mp cp : Pos} {e : PySem.Expr} {xi : Nat} {se : SE} (hline : (mp.endLine == cp.line) = true) (hv : (isVar k x && x != ("__debug__" : Str) && x != ("__classdict__" : Str)) = true) (hi : c.T.ix x = some xi)
    (h1 : cE c.T n k e = some se) (hr : run C (.app xi se) σ = some (σ', fl)) (F : FS c X W₀ M s.heap env k σ) (R : Rm lvl A) (hp : 0 < s.toks) (P : PostS c X W₀ M s env k σ' fl Q) :
    wpAny (model c.prog c.w) A (exec (.Expr (.Call (.Attribute (.Name x xp) ("append" : Str) mp) [e] [] cp) pos) env) Q E s := by
  obtain ⟨d, e1, hr⟩ := bind_inv hr
  first | (have hz := bind_inv hr; obtain ⟨t, hl, hr⟩ := hz) | (have hz := map_inv hr; obtain ⟨t, hl, hr⟩ := hz)
  cases t with
  | own l =>
    dsimp only at hr
    split at hr
    · rename_i hlen
      simp only [decide_eq_true_eq] at hlen
      simp only [Option.some.injEq, Prod.mk.injEq] at hr
      obtain ⟨rfl, rfl⟩ := hr
      have hst : starEach [e] env = [(false, eval e env)] := by rw [starEach_cons h1]; rfl
      refine wpAny_Expr_any ?_ (by unfold interactive; rw [F.es.fk]; rfl) rfl
      refine mcall (by rw [hst]; rfl) (by simp) hline (o := .Name x xp) (fun _ _ _ e => by cases e) fun pl => ?_
      refine own_name F hv hi hl fun ov V ro => ?_
      cases ro with
      | own hW ha hrr =>
        rename_i a vs
        obtain ⟨nn, ho⟩ := id ha
        refine Calls.getMethod_list_append ho rfl rfl ?_
        rw [hst]
        refine Calls.callWith_builtin rfl (Calls.evalArgs_plain ?_)
        refine PySem.Calls.spliced_cons (hE k e se σ env _ s d _ E A h1 e1 F.es R hp fun v h' tk q rv hp' => ?_)
        refine PySem.Calls.spliced_nil ?_
        have F' := F.keep q
        have ha' : h'.PlainList a vs.toArray := ha.at fun o e => q _ o e
        refine wpAny_list_append_plain (s := { s with heap := h', toks := tk }) ha' (fun h'' hp2 sb => ?_) (by rw [sizeLine_eq, List.size_toArray, hrr.length]; omega)
        have hb : ButL (· = a) h' h'' := fun b o n e => sb.extBut b o n e
        have hw : ∀ b, b = a → (fun a => W₀ a ∨ M a) b := fun b e => e ▸ hW
        have hLM : M a := F.ownM xi x _ _ (ix_get hi) hl V a rfl
        refine P h'' tk M (mut_FS K F' (ix_get hi) hl (V.keep q) (.own hW ha' (hrr.keep q)) hb (.own hW (vs := vs ++ [v]) (by simpa using hp2) (((hrr.keep q).but hb hw).snoc (rv.but hb hw))) (fun b q => q) (fun b q => ?_) (fun _ _ e => nomatch e))
          ((MSub.of_keep q).trans (.of_but (hb.mono fun b e => e ▸ hLM))) hp'
        cases q
        obtain ⟨m, e⟩ := hp2
        exact ⟨_, e⟩
    · cases hr
  | _ => simp at hr

theorem putL_put (hn : c.T.nl.Nodup) {x : Str} {i : Nat} (hx : c.T.nl[i]? = some x) {hsh : Int} {tk : Tok} {h : Heap} {W : Addr → Prop} {v : Value} {d : D} (rv : Rep c h W v d) : ∀ {es : List DictEntry} {ks : List Nat} {ds : List D}, KeysAre c es ks → Reps c h W (es.map (·.val)) ds →
    KeysAre c (putL x hsh (.str x tk) v es) (putA ks ds i d).1 ∧ Reps c h W ((putL x hsh (.str x tk) v es).map (·.val)) (putA ks ds i d).2
  | [], [], _, _, hr => by
    cases hr
    exact ⟨⟨⟨x, tk, rfl, hx⟩, trivial⟩, .cons rv .nil⟩
  | e0 :: es, k0 :: ks, _, hk, .cons (d := d0) (ds := ds) h0 hr => by
    obtain ⟨⟨y, t, ek, ey⟩, hk⟩ := hk
    have ih := putL_put hn hx (hsh := hsh) (tk := tk) rv hk hr
    unfold putL putA
    by_cases hk0 : k0 = i
    · subst hk0
      rw [hx] at ey; cases ey
      have : e0.key.isStr x = true := by rw [ek]; show (x == x) = true; simp
      simp only [this, if_true, beq_self_eq_true]
      exact ⟨⟨⟨x, t, ek, hx⟩, hk⟩, .cons rv hr⟩
    · have hyx : y ≠ x := fun e => hk0 (by subst e; exact nl_inj hn ey hx)
      have : e0.key.isStr x = false := by rw [ek]; show (y == x) = false; simpa using hyx
      have hb : (k0 == i) = false := by simpa using hk0
      simp only [this, hb, Bool.false_eq_true, if_false]
      exact ⟨⟨⟨y, t, ek, ey⟩, ih.1⟩, .cons h0 ih.2⟩
  | [], _ :: _, _, hk, _ => hk.elim
  | _ :: _, [], _, hk, _ => hk.elim

theorem getL_some {x : Str} : ∀ {es : List DictEntry} {ks : List Nat}, KeysAre c es ks → (getL x es).isSome = true
  | [], [], _ => rfl
  | e0 :: es, k0 :: ks, hk => by
    obtain ⟨⟨y, t, ek, ey⟩, hk⟩ := hk
    by_cases hyx : y = x
    · subst hyx; rw [getL_hit ek]; rfl
    · rw [getL_skip ek hyx]; exact getL_some hk
  | [], _ :: _, hk => hk.elim
  | _ :: _, [], hk => hk.elim
theorem keys_len : ∀ {es : List DictEntry} {ks : List Nat}, KeysAre c es ks → es.length = ks.length
  | [], [], _ => rfl
  | _ :: _, _ :: _, hk => by simp [keys_len hk.2]
  | [], _ :: _, hk => hk.elim
  | _ :: _, [], hk => hk.elim

theorem s_setA (K : c.Ok) (hE : SE1 c n lvl C) {x a : Str} {xp ap : Pos} {e : PySem.Expr} {xi ai : Nat} {se : SE} (hv : (isVar k x && x != ("__debug__" : Str) && x != ("__classdict__" : Str)) = true) (ha : c.T.ats.contains a = true) (hi : c.T.ix x = some xi) (hai : c.T.ix a = some ai)
    (h1 : cE c.T n k e = some se) (hr : run C (.setA xi ai se) σ = some (σ', fl)) (F : FS c X W₀ M s.heap env k σ) (R : Rm lvl A) (hp : 0 < s.toks) (P : PostS c X W₀ M s env k σ' fl Q) :
    wpAny (model c.prog c.w) A (exec (.Assign [.Attribute (.Name x xp) a ap] e pos) env) Q E s := by
  obtain ⟨d, e1, hr⟩ := bind_inv hr
  first | (have hz := bind_inv hr; obtain ⟨t, hl, hr⟩ := hz) | (have hz := map_inv hr; obtain ⟨t, hl, hr⟩ := hz)
  cases t with
  | ownI ks vs =>
    dsimp only at hr
    split at hr
    · rename_i hlen
      simp only [decide_eq_true_eq] at hlen
      simp only [Option.some.injEq, Prod.mk.injEq] at hr
      obtain ⟨rfl, rfl⟩ := hr
      refine plainObj_wpAny_Assign_Attribute (hE k e se σ env _ s d _ E A h1 e1 F.es R hp fun v h' tk q rv hp' => ?_) swaps_attr
      have F' := F.keep q
      refine own_name (s := { s with heap := h', toks := tk }) F' hv hi hl fun ov V ro => ?_
      cases ro with
      | ownI hx hdx ho hd hk hrr =>
        rename_i xa dx es nn
        refine K.seta a ha (s := { s with heap := h', toks := tk }) xa dx es nn v F'.es.base ho hd (getL_some hk) (by rw [keys_len hk]; omega) fun h'' hsh hd' hb => ?_
        have hb' : ButL (· = dx) h' h'' := fun b o n e => hb b o n e
        have hw : ∀ b, b = dx → (fun a => W₀ a ∨ M a) b := fun b e => e ▸ hdx
        have hne : xa ≠ dx := fun e => by
          have ho' : h'.get? xa = some (instObj c.C dx) := ho
          have hd'' : h'.get? dx = some (dictOf es nn) := hd
          rw [e, hd''] at ho'
          have := congrArg Obj.dict (Option.some.inj ho')
          cases this
        obtain ⟨p1, p2⟩ := putL_put K.inj (ix_get hai) (hsh := hsh) (tk := tk + 1) (rv.but hb' hw) hk (hrr.but hb' hw)
        have ho2 : h''.get? xa = some (instObj c.C dx) := hb xa _ hne ho
        have hLM := F'.ownM xi x _ _ (ix_get hi) hl V
        have hent : entAddr c h' (.ref xa) (.ownI ks vs) dx := .inr ⟨dx, ho, rfl⟩
        refine P h'' (tk + 2) M (mut_FS K F' (ix_get hi) hl V (.ownI hx hdx ho hd hk hrr) (hb'.mono fun b e => e ▸ hent) (.ownI hx hdx ho2 hd' p1 p2) (fun b q => ?_) (fun b q => ?_) (fun _ _ _ => F'.oi xi x _ _ _ (ix_get hi) hl V))
          ((MSub.of_keep q).trans (.of_but (hb'.mono fun b e => e ▸ hLM dx hent))) (Nat.succ_pos _)
        · rcases q with rfl | ⟨dx', e, rfl⟩
          · exact .inl rfl
          · rw [ho2] at e
            have := Option.some.inj (congrArg Obj.dict (Option.some.inj e))
            exact .inr ⟨dx, ho, this.symm⟩
        · rcases q with rfl | ⟨dx', e, rfl⟩
          · exact ⟨_, ho2⟩
          · have e' : h'.get? xa = some (instObj c.C b) := e
            have ho' : h'.get? xa = some (instObj c.C dx) := ho
            rw [ho'] at e'
            have := Option.some.inj (congrArg Obj.dict (Option.some.inj e'))
            subst this
            exact ⟨_, hd'⟩
    · cases hr
  | _ => simp at hr
end
end Mv
end
section
open PySem PySem.W PyProof.Rows
set_option Elab.async false
namespace Mv
section
variable {c : Cx} {n lvl : Nat} {C : Nat → List D → Option D} {A : Around} {E : Value → Shared → Prop} {s : Shared} {X : Addr} {W₀ M : Addr → Prop} {env : Env} {k : Kinds} {σ σ' : Env1} {fl : Fl} {pos : Pos} {Q : Flow → Shared → Prop}

theorem nameIx_some {T : Tb} {t : PySem.Expr} {i : Nat} (h : nameIx T k t = some i) : ∃ x p, t = .Name x p ∧ isStored k x = true ∧ T.ix x = some i := by
  obtain ⟨x, hx, h2⟩ := bind_inv h
  clear h
  obtain ⟨hs, h3⟩ := if_inv h2
  cases nameV hx
  exact ⟨_, _, rfl, hs, h3⟩

theorem all_names (K : c.Ok) {v : Value} {d : D} : ∀ {ts : List PySem.Expr} {xs : List Nat} {σ : Env1} {s : Shared} {E : Value → Shared → Prop} {Q : Unit → Shared → Prop}, ts ≠ [] → nameIxs c.T k ts = some xs → FS c X W₀ M s.heap env k σ → Rep c s.heap (fun a => W₀ a ∨ M a) v d → 0 < s.toks →
    (∀ h' tk, FS c X W₀ M h' env k (updEach σ xs d) → ButL M s.heap h' → 0 < tk → Q () { s with heap := h', toks := tk }) → wpAny (model c.prog c.w) A (assignAll v ((assignEach ts env).map (·.2))) Q E s
  | [], _, _, _, _, _, hne, _, _, _, _, _ => absurd rfl hne
  | t :: ts, xs, σ, s, E, Q, _, h, F, r, hp, P => by
    obtain ⟨i, hi, h⟩ := bind_inv h
    obtain ⟨ys, hys, rfl⟩ := map_inv h
    obtain ⟨x, p, rfl, hx, hix⟩ := nameIx_some hi
    have step : ∀ {Q' : Unit → Shared → Prop} {E' : Value → Shared → Prop}, (∀ h' tk, FS c X W₀ M h' env k (upd σ i (.frz d)) → ButL M s.heap h' → 0 < tk → Q' () { s with heap := h', toks := tk }) → wpAny (model c.prog c.w) A (assign (.Name x p) env v) Q' E' s :=
      fun P' => wpAny_assign_Name (pos_any hp fun E' => store_frz K F hx hix r fun h' tk F' hb hp' => P' h' tk F' hb hp')
    cases ts with
    | nil =>
      simp only [nameIxs, Option.some.injEq] at hys; subst hys
      show wpAny _ A (assign (.Name x p) env v) Q E s
      exact step P
    | cons t2 ts =>
      have hsp : assignAll v ((assignEach (.Name x p :: t2 :: ts) env).map (·.2)) = (do holding [v] (assign (.Name x p) env v); assignAll v ((assignEach (t2 :: ts) env).map (·.2))) := by cases t2 <;> rfl
      rw [hsp]
      refine wpAny_bind (wpAny_holding (step fun h' tk F' hb hp' => ?_))
      refine all_names K (by simp) hys F' (r.but hb fun b e => .inr e) hp' fun h'' tk' F'' hb' hp'' => P h'' tk' F'' (hb.trans hb') hp''

theorem s_asgs (K : c.Ok) (hE : SE1 c n lvl C) {ts : List PySem.Expr} {e : PySem.Expr} {xs : List Nat} {se : SE} (hlen : 2 ≤ ts.length) (hx : nameIxs c.T k ts = some xs)
    (h1 : cE c.T n k e = some se) (hr : run C (.asgs xs se) σ = some (σ', fl)) (F : FS c X W₀ M s.heap env k σ) (R : Rm lvl A) (hp : 0 < s.toks) (P : PostS c X W₀ M s env k σ' fl Q) :
    wpAny (model c.prog c.w) A (exec (.Assign ts e pos) env) Q E s := by
  obtain ⟨d, e1, hr⟩ := map_inv hr
  cases hr
  match ts, hlen with
  | t1 :: t2 :: r, _ =>
    have hn1 : ∃ x p, t1 = .Name x p := by
      first | (have hz := bind_inv hx; obtain ⟨i, hi, _⟩ := hz) | (have hz := map_inv hx; obtain ⟨i, hi, _⟩ := hz)
      obtain ⟨x, p, e, _⟩ := nameIx_some hi
      exact ⟨x, p, e⟩
    obtain ⟨x1, p1, rfl⟩ := hn1
    refine wpAny_Assign_stores (hE k e se σ env _ s d _ E A h1 e1 F.es R hp fun v h' tk q rv hp' => ?_) rfl rfl
    exact all_names K (s := { s with heap := h', toks := tk }) (by simp) hx (F.keep q) rv hp' fun h'' tk' F'' hb hp'' => P h'' tk' M F'' ((MSub.of_keep q).trans (.of_but hb)) hp''

theorem ord_names (K : c.Ok) : ∀ {ts : List PySem.Expr} {xs : List Nat} {vs : List Value} {ds : List D} {σ σ' : Env1} {s : Shared} {E : Value → Shared → Prop} {Q : Unit → Shared → Prop}, nameIxs c.T k ts = some xs → updAll σ xs ds = some σ' → FS c X W₀ M s.heap env k σ →
    Reps c s.heap (fun a => W₀ a ∨ M a) vs ds → 0 < s.toks →
    (∀ h' tk, FS c X W₀ M h' env k σ' → ButL M s.heap h' → 0 < tk → Q () { s with heap := h', toks := tk }) → wpAny (model c.prog c.w) A (assignInOrder ((assignEach ts env).map (·.2)) vs) Q E s
  | [], xs, vs, ds, σ, σ', s, E, Q, h, hu, F, r, hp, P => by
    simp only [nameIxs, Option.some.injEq] at h; subst h
    cases ds with
    | nil =>
      simp only [updAll, Option.some.injEq] at hu; subst hu
      exact assignInOrder_nil (P s.heap s.toks F (ButL.refl _ _) hp)
    | cons => simp [updAll] at hu
  | t :: ts, xs, vs, ds, σ, σ', s, E, Q, h, hu, F, r, hp, P => by
    obtain ⟨i, hi, h⟩ := bind_inv h
    obtain ⟨ys, hys, rfl⟩ := map_inv h
    obtain ⟨x, p, rfl, hx, hix⟩ := nameIx_some hi
    cases r with
    | nil => simp [updAll] at hu
    | cons r1 tl =>
      simp only [updAll] at hu
      show wpAny _ A (assignInOrder (assign (.Name x p) env :: (assignEach ts env).map (·.2)) (_ :: _)) Q E s
      refine assignInOrder_cons (wpAny_assign_Name (pos_any hp fun E' => store_frz K F hx hix r1 fun h' tk F' hb hp' => ?_))
      exact ord_names K hys hu F' (tl.but hb fun b e => .inr e) hp' fun h'' tk' F'' hb' hp'' => P h'' tk' F'' (hb.trans hb') hp''

theorem names_each : ∀ {T : Tb} {ts : List PySem.Expr} {xs : List Nat}, nameIxs T k ts = some xs → (assignEach ts env).length = xs.length ∧ (assignEach ts env).findIdx? (·.1) = none
  | _, [], _, h => by simp only [nameIxs, Option.some.injEq] at h; subst h; exact ⟨rfl, rfl⟩
  | T, t :: ts, xs, h => by
    obtain ⟨i, hi, h⟩ := bind_inv h
    obtain ⟨ys, hys, rfl⟩ := map_inv h
    obtain ⟨x, p, rfl, hx, hix⟩ := nameIx_some hi
    obtain ⟨h1, h2⟩ := names_each hys
    have hs : assignEach (.Name x p :: ts) env = (false, assign (.Name x p) env) :: assignEach ts env := rfl
    rw [hs]
    exact ⟨by simp [h1], by rw [List.findIdx?_cons]; simp [h2]⟩
theorem updAll_len : ∀ {xs : List Nat} {ds : List D} {σ σ' : Env1}, updAll σ xs ds = some σ' → ds.length = xs.length
  | [], [], _, _, _ => rfl
  | x :: xs, d :: ds, σ, σ', h => by simp only [updAll] at h; simp [updAll_len h]
  | [], _ :: _, _, _, h => by simp [updAll] at h
  | _ :: _, [], _, _, h => by simp [updAll] at h

theorem swapped_none {ts : List PySem.Expr} {kd : Nat} {p : Pos} {e : PySem.Expr} (h : isTup e = false) : swappedStores [.Tuple ts kd p] e env = pure none := by
  cases e with
  | Tuple => first | exact nos h | exact nob h | nomatch h
  | _ => rfl

theorem s_asgT (K : c.Ok) (hE : SE1 c n lvl C) {ts : List PySem.Expr} {kd : Nat} {tp : Pos} {e : PySem.Expr} {xs : List Nat} {se : SE} (hw : swappedStores [.Tuple ts kd tp] e env = pure none) (hx : nameIxs c.T k ts = some xs)
    (h1 : cE c.T n k e = some se) (hr : run C (.asgT xs se) σ = some (σ', fl)) (F : FS c X W₀ M s.heap env k σ) (R : Rm lvl A) (hp : 0 < s.toks) (P : PostS c X W₀ M s env k σ' fl Q) :
    wpAny (model c.prog c.w) A (exec (.Assign [.Tuple ts kd tp] e pos) env) Q E s := by
  first | (have hz := bind_inv hr; obtain ⟨d, e1, hr⟩ := hz) | (have hz := map_inv hr; obtain ⟨d, e1, hr⟩ := hz)
  cases d with
  | tup l =>
    simp only [Option.map_eq_some_iff, Prod.mk.injEq] at hr
    obtain ⟨σ1, hu, rfl, rfl⟩ := hr
    refine Assign_Tuple (hE k e se σ env _ s _ _ E A h1 e1 F.es R hp fun v h' tk q rv hp' => ?_) (show swapsWith e (some (.Tuple ts kd tp)) pos.line env = pure false from swaps_tup) hw
    cases rv with
    | tup hW ha hrr =>
      obtain ⟨hn, hst⟩ := names_each (env := env) hx
      refine assign_Tuple_tuple (s := { s with heap := h', toks := tk }) R.hh ha (by rw [hn, List.size_toArray, hrr.length, updAll_len hu]) hst fun h'' eb => ?_
      have kp : Keep h' h'' := fun b o e => eb b o (Nat.ne_of_lt (Heap.lt_size e)) e
      exact ord_names K (s := { s with heap := h'', toks := tk }) hx hu ((F.keep q).keep kp) (hrr.keep kp) hp' fun h3 tk3 F3 b3 hp3 => P h3 tk3 M F3 ((MSub.of_keep (q.trans kp)).trans (.of_but b3)) hp3
  | _ => simp at hr

theorem swapped_two {x y : Str} {xp yp tp p2 : Pos} {kd k2 : Nat} {a b : PySem.Expr} (h1 : [a, b].all (foldedForSure 8) = false) (h2 : [a, b].all (constantsAlone 8) = false) :
    ∃ r, swappedStores [.Tuple [.Name x xp, .Name y yp] kd tp] (.Tuple [a, b] k2 p2) env = pure r ∧ (r = none ∨ r = some [x, y]) := by
  unfold swappedStores
  dsimp only
  split
  · exact ⟨none, rfl, .inl rfl⟩
  · split
    · exact ⟨none, rfl, .inl rfl⟩
    · split
      · exact ⟨none, rfl, .inl rfl⟩
      · rename_i hnames
        rw [h1, h2]
        refine ⟨_, rfl, .inr ?_⟩
        simp only [Bool.or_eq_true, not_or, bne_iff_ne, ne_eq, Decidable.not_not, List.length_cons, List.length_nil] at hnames
        have hl := hnames.1
        congr 1
        simp only [List.filterMap_cons, List.filterMap_nil] at hl ⊢
        split at hl
        · split at hl <;> simp at hl
        · rename_i x1 h3
          split at hl
          · simp at hl
          · rename_i y1 h4
            split at h3
            · split at h4
              · simp only [Option.some.injEq] at h3 h4; subst h3 h4; rfl
              · cases h4
            · cases h3

theorem two_run {xi yi : Nat} {l : List D} {σ σ' : Env1} {fl : Fl} {R : Env1 → Fl → Prop} (h : (updAll σ [xi, yi] l).map (fun σ' => (σ', Fl.next)) = some (σ', fl)) (P : R σ' fl) : ∃ d1 d2, l = [d1, d2] ∧ R (upd (upd σ xi (.frz d1)) yi (.frz d2)) .next := by
  obtain ⟨σ1, hu, e⟩ := map_inv h
  cases l with
  | nil => exact nos hu
  | cons d1 l => cases l with
    | nil => exact nos hu
    | cons d2 l => cases l with
      | cons => exact nos hu
      | nil =>
        rw [← (show σ1 = σ' from congrArg (·.1) e), ← (show Fl.next = fl from congrArg (·.2) e), ← Option.some.inj hu] at P
        exact ⟨d1, d2, rfl, P⟩
theorem Reps.two {c : Cx} {h : Heap} {W : Addr → Prop} {vs : List Value} {d1 d2 : D} (hr : Reps c h W vs [d1, d2]) : ∃ u1 u2, vs = [u1, u2] ∧ Rep c h W u1 d1 ∧ Rep c h W u2 d2 := by
  cases hr with
  | cons r1 hr => cases hr with
    | cons r2 hr => cases hr; exact ⟨_, _, rfl, r1, r2⟩
theorem s_asgT2 (K : c.Ok) (hE : SE1 c n lvl C) {x y : Str} {xp yp : Pos} {kd : Nat} {tp : Pos} {e : PySem.Expr} {xi yi : Nat} {se : SE} (hsw : ∃ r, swappedStores [.Tuple [.Name x xp, .Name y yp] kd tp] e env = pure r ∧ (r = none ∨ r = some [x, y]))
    (hx : isStored k x = true) (hy : isStored k y = true) (hne : x ≠ y) (hi : c.T.ix x = some xi) (hj : c.T.ix y = some yi)
    (h1 : cE c.T n k e = some se) (hr : run C (.asgT [xi, yi] se) σ = some (σ', fl)) (F : FS c X W₀ M s.heap env k σ) (R : Rm lvl A) (hp : 0 < s.toks) (P : PostS c X W₀ M s env k σ' fl Q) :
    wpAny (model c.prog c.w) A (exec (.Assign [.Tuple [.Name x xp, .Name y yp] kd tp] e pos) env) Q E s := by
  have hxs : nameIxs c.T k [.Name x xp, .Name y yp] = some [xi, yi] := by simp [nameIxs, nameIx, nameStr, hx, hy, hi, hj]
  obtain ⟨r, hsw, rfl | rfl⟩ := hsw
  · exact s_asgT K hE hsw hxs h1 hr F R hp P
  · first | (have hz := bind_inv hr; obtain ⟨d, e1, hr⟩ := hz) | (have hz := map_inv hr; obtain ⟨d, e1, hr⟩ := hz)
    cases d with
    | tup l =>
      obtain ⟨d1, d2, hld, P⟩ := two_run (R := fun σ' fl => PostS c X W₀ M s env k σ' fl Q) hr P
      clear hr
      refine Assign_Tuple_swapped (hE k e se σ env _ s _ _ E A h1 e1 F.es R hp fun v h' tk q rv hp' => ?_) (show swapsWith e (some (.Tuple [.Name x xp, .Name y yp] kd tp)) pos.line env = pure false from swaps_tup) hsw
      cases rv with
      | tup hW ha hrr =>
          rename_i ta vs
          obtain ⟨u1, u2, hv, r1, r2⟩ := Reps.two (hld ▸ hrr)
          rw [hv] at ha
          refine unpackItems_tuple (s := { s with heap := h', toks := tk }) (items := #[u1, u2]) R.hh ha fun h'' eb => ?_
          have kp : Keep h' h'' := fun b o e => eb b o (Nat.ne_of_lt (Heap.lt_size e)) e
          have F2 := (F.keep q).keep kp
          show wpAny _ A (assignInOrder [fun v => bindName env y v, fun v => bindName env x v] [u2, u1]) _ _ _
          refine assignInOrder_cons (wpAny_bindName (pos_any (s := { s with heap := h'', toks := tk }) hp' fun E' => store_frz (s := { s with heap := h'', toks := tk }) K F2 hy hj (r2.keep kp) fun h3 tk3 F3 b3 hp3 => ?_))
          refine assignInOrder_cons (wpAny_bindName (pos_any (s := { s with heap := h3, toks := tk3 }) hp3 fun E' => store_frz (s := { s with heap := h3, toks := tk3 }) K F3 hx hi ((r1.keep kp).but b3 fun b e => .inr e) fun h4 tk4 F4 b4 hp4 => ?_))
          refine assignInOrder_nil (P h4 tk4 M (F4.weak fun m t e => ?_) ((MSub.of_keep (q.trans kp)).trans (.of_but (b3.trans b4))) hp4)
          have hij : xi ≠ yi := fun e => hne (by have a := ix_get hi; have b := ix_get hj; rw [e, b] at a; exact (Option.some.inj a).symm)
          rw [look_upd] at e ⊢
          rw [look_upd] at e ⊢
          by_cases h5 : m = yi
          · subst h5
            rw [if_pos rfl] at e
            rw [if_neg (fun e => hij e.symm), if_pos rfl]; exact e
          · rw [if_neg h5] at e
            by_cases h6 : m = xi
            · subst h6; rw [if_pos rfl] at e ⊢; exact e
            · rw [if_neg h6] at e ⊢
              rw [if_neg h5]; exact e
    | _ => exact nos hr

theorem s_ret (hE : SE1 c n lvl C) {e : PySem.Expr} {se : SE} (h1 : cE c.T n k e = some se) (hr : run C (.ret se) σ = some (σ', fl)) (F : FS c X W₀ M s.heap env k σ) (R : Rm lvl A) (hp : 0 < s.toks) (P : PostS c X W₀ M s env k σ' fl Q) :
    wpAny (model c.prog c.w) A (exec (.Return (some e) pos) env) Q E s := by
  obtain ⟨d, e1, hr⟩ := map_inv hr
  cases hr
  obtain ⟨M', F', hM⟩ := F.frz (fun _ => true)
  rw [← frzAll_eq] at F'
  refine wpAny_Return_some (hE k e se _ env _ s d _ E A h1 e1 F'.es R hp fun v h' tk q rv hp' => ?_)
  exact P v h' tk q.but (rv.mono fun a o na e => ⟨e, fun x => na (.inl x)⟩) hp'

noncomputable def SSs1 (c : Cx) (n lvl : Nat) (C : Nat → List D → Option D) (Mv : List Nat) : Prop := ∀ (k : Kinds) (sts : List PySem.Stmt) (ss : List SS) (σ σ' : Env1) (fl : Fl) (env : Env) (X : Addr) (W₀ M : Addr → Prop) (s : Shared) (Q : Flow → Shared → Prop) (E : Value → Shared → Prop) (A : Around),
  cSs c.T Mv n k sts = some ss → runs C ss σ = some (σ', fl) → FS c X W₀ M s.heap env k σ → Rm lvl A → 0 < s.toks → PostS c X W₀ M s env k σ' fl Q → wpAny (model c.prog c.w) A (execs sts env) Q E s
noncomputable def SS1 (c : Cx) (n lvl : Nat) (C : Nat → List D → Option D) (Mv : List Nat) : Prop := ∀ (k : Kinds) (st : PySem.Stmt) (ss : List SS) (σ σ' : Env1) (fl : Fl) (env : Env) (X : Addr) (W₀ M : Addr → Prop) (s : Shared) (Q : Flow → Shared → Prop) (E : Value → Shared → Prop) (A : Around),
  cS c.T Mv n k st = some ss → runs C ss σ = some (σ', fl) → FS c X W₀ M s.heap env k σ → Rm lvl A → 0 < s.toks → PostS c X W₀ M s env k σ' fl Q → wpAny (model c.prog c.w) A (exec st env) Q E s

theorem s_if {Mv : List Nat} (hT : ST1 c n lvl C) (hS : SSs1 c n lvl C Mv) {t : PySem.Expr} {a b : List PySem.Stmt} {st : SE} {sa sb : List SS} (h0 : cT c.T n k t = some st) (h1 : cSs c.T Mv n k a = some sa) (h2 : cSs c.T Mv n k b = some sb)
    (hr : run C (.ite st sa sb) σ = some (σ', fl)) (F : FS c X W₀ M s.heap env k σ) (R : Rm lvl A) (hp : 0 < s.toks) (P : PostS c X W₀ M s env k σ' fl Q) : wpAny (model c.prog c.w) A (exec (.If t a b pos) env) Q E s := by
  obtain ⟨d, e1, hr⟩ := bind_inv hr
  first | (have hz := bind_inv hr; obtain ⟨tb, e2, hr⟩ := hz) | (have hz := map_inv hr; obtain ⟨tb, e2, hr⟩ := hz)
  refine wpAny_If (hT k t st σ env _ s d tb _ E A h0 e1 e2 F.es R hp fun h' tk q hp' => ?_)
  have P' : PostS c X W₀ M { s with heap := h', toks := tk } env k σ' fl Q := P.sub (.of_keep q)
  cases tb with
  | true => exact hS k a sa σ σ' fl env X W₀ M { s with heap := h', toks := tk } Q E A h1 (by simpa using hr) (F.keep q) R hp' P'
  | false => exact hS k b sb σ σ' fl env X W₀ M { s with heap := h', toks := tk } Q E A h2 (by simpa using hr) (F.keep q) R hp' P'

theorem s_while {Mv : List Nat} (hT : ST1 c n lvl C) (hS : SSs1 c n lvl C Mv) {t : PySem.Expr} {a : List PySem.Stmt} {st : SE} {sa : List SS} (h0 : cT c.T n k t = some st) (h1 : cSs c.T Mv n k a = some sa)
    (hr : run C (.while_ st sa) σ = some (σ', fl)) (F : FS c X W₀ M s.heap env k σ) (R : Rm lvl A) (hp : 0 < s.toks) (P : PostS c X W₀ M s env k σ' fl Q) : wpAny (model c.prog c.w) A (exec (.While t a [] pos) env) Q E s := by
  replace hr : whileGo _ _ _ _ = _ := hr
  refine wpAny_While ?_
  refine codeAny_whileLoop (fun m s' => ∃ σ₁ h tk M', s' = { s with heap := h, toks := tk } ∧ 0 < tk ∧ FS c X W₀ M' h env k σ₁ ∧ MSub M s.heap M' h ∧ whileGo (fun σ' => (evE C st σ').bind truthD) (fun σ' => runs C sa σ') m σ₁ = some (σ', fl)) ?_ 100
    ⟨σ, s.heap, s.toks, M, rfl, hp, F, MSub.refl _, hr⟩
  rintro m s' ⟨σ₁, h, tk, M', rfl, hp, F, ms, hw⟩
  cases m with
  | zero => simp [whileGo] at hw
  | succ m =>
    simp only [whileGo, Option.bind_eq_some_iff] at hw
    obtain ⟨b, ⟨d, e1, e2⟩, hw⟩ := hw
    refine hT k t st σ₁ env _ { s with heap := h, toks := tk } d b _ _ A h0 e1 e2 F.es R hp fun h' tk' q hp' => ?_
    have F' := F.keep q
    have ms' := ms.trans (MSub.of_keep q)
    cases b with
    | true =>
      simp only [if_true, Option.bind_eq_some_iff] at hw ⊢
      obtain ⟨⟨σ₂, f2⟩, hb, hw⟩ := hw
      refine hS k a sa σ₁ σ₂ f2 env X W₀ M' { s with heap := h', toks := tk' } _ _ A h1 hb F' R hp' ?_
      cases f2 with
      | next => exact fun h3 tk3 M3 F3 m3 hp3 => ⟨m, Nat.lt_succ_self _, σ₂, h3, tk3, M3, rfl, hp3, F3, ms'.trans m3, hw⟩
      | brk =>
        simp only [Option.some.injEq, Prod.mk.injEq] at hw
        obtain ⟨rfl, rfl⟩ := hw
        exact fun h3 tk3 M3 F3 m3 hp3 => P h3 tk3 M3 F3 (ms'.trans m3) hp3
      | ret d =>
        simp only [Option.some.injEq, Prod.mk.injEq] at hw
        obtain ⟨rfl, rfl⟩ := hw
        exact fun v h3 tk3 b3 r3 hp3 => P v h3 tk3 (fun x o nx e => b3 x o (ms' x o nx e).2 (ms' x o nx e).1) r3 hp3
    | false =>
      simp only [Bool.false_eq_true, if_false, Option.some.injEq, Prod.mk.injEq] at hw ⊢
      obtain ⟨rfl, rfl⟩ := hw
      exact wpAny_execs_nil (P h' tk' M' F' ms' hp')
end
end Mv
end
section
open PySem PySem.W PyProof.Rows
set_option Elab.async false
namespace Mv
section
variable {c : Cx} {n lvl : Nat} {C : Nat → List D → Option D} {A : Around} {E : Value → Shared → Prop} {s : Shared} {X : Addr} {W₀ M : Addr → Prop} {env : Env} {k : Kinds} {σ σ' : Env1} {fl : Fl} {pos : Pos} {Q : Flow → Shared → Prop}

theorem s_for {Mv : List Nat} (K : c.Ok) (hI : SI1 c n lvl C) (hS : SSs1 c n lvl C Mv) {x : Str} {xp : Pos} {it : PySem.Expr} {body els : List PySem.Stmt} {xi : Nat} {si : SE} {sb se : List SS} (hx : isStored k x = true) (hi : c.T.ix x = some xi)
    (h0 : cI c.T n k it = some si) (h1 : cSs c.T Mv n k body = some sb) (h2 : cSs c.T Mv n k els = some se)
    (hr : run C (.for_ [xi] si sb se) σ = some (σ', fl)) (F : FS c X W₀ M s.heap env k σ) (R : Rm lvl A) (hp : 0 < s.toks) (P : PostS c X W₀ M s env k σ' fl Q) : wpAny (model c.prog c.w) A (exec (.For (.Name x xp) it body els pos) env) Q E s := by
  obtain ⟨l, e1, hr⟩ := bind_inv hr
  first | (have hz := bind_inv hr; obtain ⟨ds, e2, hr⟩ := hz) | (have hz := map_inv hr; obtain ⟨ds, e2, hr⟩ := hz)
  refine wpAny_For ?_ (fun x => folded_pure h0 x)
  refine hI k it si σ env _ s l ds _ E A h0 e1 e2 F.es R hp fun itv s₁ s₂ I fp P' St hs₁ T hp₂ => ?_
  obtain ⟨h₁, tk₁, rfl, q₁⟩ := hs₁
  obtain ⟨h₂, tk₂, rfl, k12⟩ := T.hkeep
  have hitv := T.hit
  subst hitv
  have st0 : St 0 h₂ := T.hst
  have In : h₁.get? I = none := T.hnew
  have Ine : ∀ b o, h₁.get? b = some o → b ≠ I := fun b o e => ne_of_get In e
  have F2 : FS c X (fun b => W₀ b ∨ b = I) M h₂ env k σ := (F.keep q₁).grow k12 In (T.hlive 0 h₂ st0)
  have InW : ¬ W₀ I := fun w => by obtain ⟨o, e⟩ := (F.keep q₁).es.live I (.inl w); exact Ine I o e rfl
  have Ib : c.hb.get? I = none := by
    cases e : c.hb.get? I with
    | none => rfl
    | some o => exact absurd rfl (Ine I o ((F.keep q₁).es.base _ _ e))
  refine codeAny_forLoop (fun m s' => ∃ i h tk M' σ₁, m = ds.length + 1 - i ∧ i ≤ ds.length ∧ s' = { s with heap := h, toks := tk } ∧ 0 < tk ∧ FS c X (fun b => W₀ b ∨ b = I) M' h env k σ₁ ∧ MSub (fun b => M b ∨ b = I) h₂ M' h ∧ St i h ∧
      forGo [xi] (fun σ' => runs C sb σ') (fun σ' => runs C se σ') (ds.drop i) σ₁ = some (σ', fl)) ?_ (ds.length + 1)
    ⟨0, h₂, tk₂, M, σ, rfl, Nat.zero_le _, rfl, hp₂, F2, MSub.less fun b hb => .inl hb, st0, hr⟩
  rintro m s' ⟨i, h, tk, M', σ₁, rfl, hi', rfl, hp, FF, ms, hst, hgo⟩
  have hIM : ¬ M' I := FF.dis I (.inr rfl)
  have toS : ∀ {M'' : Addr → Prop} {h' : Heap}, MSub (fun b => M b ∨ b = I) h₂ M'' h' → MSub M s.heap M'' h' := fun {M'' h'} a b o nb e =>
    a b o (fun y => y.elim nb fun z => Ine b o (q₁ _ _ e) z) (k12 _ _ (q₁ _ _ e))
  by_cases hlt : i < ds.length
  · refine pos_any hp fun E' => T.hw.item i _ _ _ hlt hst fun v h3 tk3 hPv hst3 hk3 hp3 => ?_
    have b3 : ButL (· = I) h h3 := fun b o nb e => hk3 b o (by simpa using nb) e
    obtain ⟨d, hd, rd⟩ := T.hitem i v hlt hPv
    have hdrop : ds.drop i = d :: ds.drop (i + 1) := by
      rw [List.drop_eq_getElem_cons hlt]
      congr 1
      rw [List.getElem?_eq_getElem hlt] at hd
      exact Option.some.inj hd
    rw [hdrop] at hgo
    simp only [forGo, bindT, Option.bind_some, Option.bind_eq_some_iff] at hgo
    obtain ⟨⟨σ₂, f2⟩, hb, hgo⟩ := hgo
    have F3 := FF.out (.inr rfl) b3 (T.hlive _ _ hst3) Ib
    have rd3 : Rep c h3 (fun b => (W₀ b ∨ b = I) ∨ M' b) v d := rd.mono fun a o na e => by
      have hne := Ine a o e
      have e2 := ms a o (fun y => y.elim (fun z => na (.inr z)) hne) (k12 _ _ e)
      refine ⟨b3 a o hne e2.1, fun y => ?_⟩
      rcases y with (y | y) | y
      · exact na (.inl y)
      · exact hne y
      · exact e2.2 y
    refine wpAny_assign_Name (pos_any (s := { s with heap := h3, toks := tk3 }) hp3 fun E' => store_frz (s := { s with heap := h3, toks := tk3 }) K F3 hx hi rd3 fun h4 tk4 F4 b4 hp4 => ?_)
    have ms4 : MSub (fun b => M b ∨ b = I) h₂ M' h4 := fun b o nb e => by
      have e2 := ms b o nb e
      exact ⟨b4 b o e2.2 (b3 b o (fun z => nb (.inr z)) e2.1), e2.2⟩
    have fpk : ∀ {M'' : Addr → Prop} {h' : Heap}, MSub M' h4 M'' h' → St (i + 1) h' := fun {M'' h'} a => by
      refine T.hw.frame _ _ _ (T.hw.frame _ _ _ hst3 fun b hbf o e => b4 b o (fun y => ?_) e) fun b hbf o e => (a b o (fun y => ?_) e).1
      · by_cases hbI : b = I
        · exact hIM (hbI ▸ y)
        · obtain ⟨nb, o', e'⟩ := T.hoff b hbf hbI
          exact (ms b o' (fun z => z.elim (fun w => nb (.inr w)) hbI) (k12 _ _ e')).2 y
      · by_cases hbI : b = I
        · exact hIM (hbI ▸ y)
        · obtain ⟨nb, o', e'⟩ := T.hoff b hbf hbI
          exact (ms b o' (fun z => z.elim (fun w => nb (.inr w)) hbI) (k12 _ _ e')).2 y
    refine hS k body sb _ σ₂ f2 env X _ M' { s with heap := h4, toks := tk4 } _ _ A h1 hb F4 R hp4 ?_
    cases f2 with
    | next => exact fun h5 tk5 M5 F5 m5 hp5 => ⟨ds.length + 1 - (i + 1), by lia, i + 1, h5, tk5, M5, σ₂, rfl, hlt, rfl, hp5, F5, ms4.trans m5, fpk m5, hgo⟩
    | brk =>
      simp only [Option.some.injEq, Prod.mk.injEq] at hgo
      obtain ⟨rfl, rfl⟩ := hgo
      exact fun h5 tk5 M5 F5 m5 hp5 => P h5 tk5 M5 (F5.dropI InW (ButL.refl _ _) Ib) (toS (ms4.trans m5)) hp5
    | ret d =>
      simp only [Option.some.injEq, Prod.mk.injEq] at hgo
      obtain ⟨rfl, rfl⟩ := hgo
      exact fun v h5 tk5 b5 r5 hp5 => P v h5 tk5 (fun b o nb e => let y := toS ms4 b o nb e; b5 b o y.2 y.1) (r5.mono fun a o na e => ⟨e, fun y => na (.inl y)⟩) hp5
  · have : i = ds.length := Nat.le_antisymm hi' (Nat.not_lt.mp hlt)
    subst this
    refine pos_any hp fun E' => T.hw.done _ _ _ hst fun h3 tk3 hk3 hp3 => ?_
    have b3 : ButL (· = I) h h3 := fun b o nb e => hk3 b o (by simpa using nb) e
    rw [List.drop_length] at hgo
    simp only [forGo] at hgo
    have F3 : FS c X W₀ M' h3 env k σ₁ := FF.dropI InW b3 Ib
    have ms3 : MSub (fun b => M b ∨ b = I) h₂ M' h3 := fun b o nb e => by
      have e2 := ms b o nb e
      exact ⟨b3 b o (fun z => nb (.inr z)) e2.1, e2.2⟩
    exact hS k els se σ₁ σ' fl env X W₀ M' { s with heap := h3, toks := tk3 } _ _ A h2 hgo F3 R hp3 (P.sub (toS ms3))

theorem runs_app : ∀ (a b : List SS) (σ : Env1), runs C (a ++ b) σ = (runs C a σ).bind fun p => match p.2 with
    | .next => runs C b p.1
    | f => some (p.1, f)
  | [], b, σ => rfl
  | x :: a, b, σ => by
    show ((run C x σ).bind _) = (((run C x σ).bind _).bind _)
    cases run C x σ with
    | none => rfl
    | some p => match p with
      | (σ1, .next) => exact runs_app a b σ1
      | (σ1, .brk) => rfl
      | (σ1, .ret d) => rfl

theorem runs_one {x : SS} : runs C [x] σ = run C x σ := by
  show ((run C x σ).bind _) = _
  cases run C x σ with
  | none => rfl
  | some p => obtain ⟨σ1, f⟩ := p; cases f <;> rfl

theorem fz_sound {Mv : List Nat} {e : SE} {x : SS} {h : Heap} (hr : runs C (fz Mv e x) σ = some (σ', fl)) (F : FS c X W₀ M h env k σ) : ∃ σ₁ M₁, FS c X W₀ M₁ h env k σ₁ ∧ (∀ b, M₁ b → M b) ∧ run C x σ₁ = some (σ', fl) := by
  unfold fz at hr
  split at hr
  · rw [runs_one] at hr
    exact ⟨σ, M, F, fun _ h => h, hr⟩
  · obtain ⟨M', F', hM⟩ := F.frz ((bare e).filter Mv.contains).contains
    rw [← frzSome_eq] at F'
    have : runs C [.frz ((bare e).filter Mv.contains), x] σ = runs C [x] (frzSome ((bare e).filter Mv.contains) σ) := rfl
    rw [this, runs_one] at hr
    exact ⟨_, M', F', hM, hr⟩

theorem PostS.less {M₁ : Addr → Prop} (P : PostS c X W₀ M s env k σ' fl Q) (h : ∀ b, M₁ b → M b) : PostS c X W₀ M₁ s env k σ' fl Q := P.sub (h₁ := s.heap) (tk₁ := s.toks) (MSub.less h)

noncomputable def SSnd (c : Cx) (lvl : Nat) (C : Nat → List D → Option D) (k : Kinds) (st : PySem.Stmt) (ss : List SS) : Prop :=
  ∀ (σ σ' : Env1) (fl : Fl) (env : Env) (X : Addr) (W₀ M : Addr → Prop) (s : Shared) (Q : Flow → Shared → Prop) (E : Value → Shared → Prop) (A : Around),
    runs C ss σ = some (σ', fl) → FS c X W₀ M s.heap env k σ → Rm lvl A → 0 < s.toks → PostS c X W₀ M s env k σ' fl Q → wpAny (model c.prog c.w) A (exec st env) Q E s
theorem of_fz {Mv : List Nat} {k : Kinds} {st : PySem.Stmt} {e : SE} {x : SS} (h : ∀ (σ σ' : Env1) (fl : Fl) (env : Env) (X : Addr) (W₀ M : Addr → Prop) (s : Shared) (Q : Flow → Shared → Prop) (E : Value → Shared → Prop) (A : Around),
    run C x σ = some (σ', fl) → FS c X W₀ M s.heap env k σ → Rm lvl A → 0 < s.toks → PostS c X W₀ M s env k σ' fl Q → wpAny (model c.prog c.w) A (exec st env) Q E s) : SSnd c lvl C k st (fz Mv e x) := by
  intro σ σ' fl env X W₀ M s Q E A hr F R hp P
  obtain ⟨σ₁, M₁, F₁, hM, hr⟩ := fz_sound hr F
  exact h σ₁ σ' fl env X W₀ M₁ s Q E A hr F₁ R hp (P.less hM)
section
variable {Mv : List Nat} {k : Kinds} {ss : List SS}
theorem ss_name (K : c.Ok) (hn : n ≤ 1000) (Hm : ∀ m, m ≤ n → All c m lvl C) {x : Str} {xp pos : Pos} {e : PySem.Expr}
    (hc : (if isStored k x = true then (c.T.ix x).bind fun x => (cE c.T n k e).bind fun e' => if Mv.contains x = true then (if freshX e = true then some (fz Mv e' (.new x e')) else none) else some (fz Mv e' (.asg x e')) else none) = some ss) : SSnd c lvl C k (.Assign [.Name x xp] e pos) ss := by
  obtain ⟨hx, h2⟩ := if_inv hc
  clear hc
  obtain ⟨i, hi, h3⟩ := bind_inv h2
  clear h2
  obtain ⟨se, h1, hc⟩ := bind_inv h3
  clear h3
  cases n with
  | zero => first | exact nos h1 | exact nob h1 | nomatch h1
  | succ n =>
    cases hM : Mv.contains i with
    | true =>
      rw [hM] at hc
      obtain ⟨hfr, hc⟩ := if_inv (b := freshX e) hc
      cases Option.some.inj hc
      refine of_fz fun σ σ' fl env X W₀ M s Q E A hr F R hp P => ?_
      obtain ⟨d, e1, hr⟩ := bind_inv hr
      obtain ⟨t, e2, hr⟩ := map_inv hr
      cases hr
      exact s_bind (nw := true) K (Nat.le_of_succ_le hn) Hm hx hi h1 (fun _ => hfr) e1 e2 F R hp fun h' tk M' F' m hp' => P h' tk M' F' m hp'
    | false =>
      rw [hM] at hc
      cases Option.some.inj hc
      refine of_fz fun σ σ' fl env X W₀ M s Q E A hr F R hp P => ?_
      obtain ⟨d, e1, hr⟩ := map_inv hr
      cases hr
      exact s_bind (nw := false) K (Nat.le_of_succ_le hn) Hm hx hi h1 (fun e => nomatch e) e1 (t := .frz d) rfl F R hp fun h' tk M' F' m hp' => P h' tk M' F' m hp'
theorem ss_tup (K : c.Ok) (H : All c n lvl C) {ts : List PySem.Expr} {kd : Nat} {tp pos : Pos} {e : PySem.Expr} (hc : cS c.T Mv (n + 1) k (.Assign [.Tuple ts kd tp] e pos) = some ss) : SSnd c lvl C k (.Assign [.Tuple ts kd tp] e pos) ss := by
  obtain ⟨_, hd⟩ := if_inv' (b := isComp e) hc
  clear hc
  cases ht : tupX e with
  | none =>
    rw [ht] at hd
    obtain ⟨xs, hxs, hd⟩ := bind_inv hd
    obtain ⟨se, h1, rfl⟩ := map_inv hd
    exact of_fz fun σ σ' fl env X W₀ M s Q E A hr F R hp P => s_asgT K H.e (swapped_none (show (tupX e).isSome = false by rw [ht]; rfl)) hxs h1 hr F R hp P
  | some vs =>
    rw [ht] at hd
    obtain ⟨tp', h2, h3⟩ := bind_inv hd
    clear hd
    obtain ⟨x, hx, h4⟩ := bind_inv h3
    clear h3
    obtain ⟨y, hy, h5⟩ := bind_inv h4
    clear h4
    obtain ⟨vp, hv, h6⟩ := bind_inv h5
    clear h5
    obtain ⟨hcond, h7⟩ := if_inv h6
    clear h6
    obtain ⟨xi, hi, h8⟩ := bind_inv h7
    clear h7
    obtain ⟨yi, hj, h9⟩ := bind_inv h8
    clear h8
    obtain ⟨se, h1, rfl⟩ := map_inv h9
    clear h9
    obtain ⟨a1, a2⟩ := and_inv hcond
    obtain ⟨a3, a4⟩ := and_inv a1
    obtain ⟨a5, a6⟩ := and_inv a3
    obtain ⟨a7, a8⟩ := and_inv a5
    clear hcond a1 a3 a5
    obtain ⟨_, _, he⟩ := tupX_inv ht
    clear ht
    cases twoOf_inv h2
    cases twoOf_inv hv
    clear h2 hv
    obtain ⟨e1, e2⟩ := tp'
    obtain ⟨v1, v2⟩ := vp
    have n1 := nameV hx
    have n2 := nameV hy
    clear hx hy
    cases n1
    cases n2
    subst he
    exact of_fz fun σ σ' fl env X W₀ M s Q E A hr F R hp P => s_asgT2 K H.e (swapped_two (not_inv a4) (not_inv a2)) a7 a8 (by simpa using a6) hi hj h1 hr F R hp P
theorem ss_asg1 (K : c.Ok) (hn : n ≤ 1000) (Hm : ∀ m, m ≤ n → All c m lvl C) {t e : PySem.Expr} {pos : Pos} (hc : cS c.T Mv (n + 1) k (.Assign [t] e pos) = some ss) : SSnd c lvl C k (.Assign [t] e pos) ss := by
  have H := Hm n (Nat.le_refl _)
  cases t with
  | Name x xp => exact ss_name K hn Hm hc
  | Tuple ts kd tp => exact ss_tup K H hc
  | Attribute o a ap =>
    obtain ⟨x, hx, h2⟩ := bind_inv (o := nameStr o) hc
    clear hc
    obtain ⟨hk, h3⟩ := if_inv h2
    obtain ⟨xi, hi, h4⟩ := bind_inv h3
    obtain ⟨ai, hj, h5⟩ := bind_inv h4
    obtain ⟨se, h1, rfl⟩ := map_inv h5
    clear h2 h3 h4 h5
    cases nameV hx
    exact of_fz fun σ σ' fl env X W₀ M s Q E A hr F R hp P => s_setA K H.e (and_inv hk).1 (and_inv hk).2 hi hj h1 hr F R hp P
  | Subscript o i ip =>
    obtain ⟨x, hx, h2⟩ := bind_inv (o := nameStr o) hc
    clear hc
    obtain ⟨hk, h3⟩ := if_inv h2
    obtain ⟨xi, hi, h4⟩ := bind_inv h3
    obtain ⟨si, h1, h5⟩ := bind_inv h4
    obtain ⟨se, h6, rfl⟩ := map_inv h5
    clear h2 h3 h4 h5
    cases nameV hx
    exact of_fz fun σ σ' fl env X W₀ M s Q E A hr F R hp P => s_setI K H.e (and_inv hk).1 hi h1 h6 hr F R hp P
  | _ => first | exact nos hc | exact nob hc | nomatch hc
theorem ss_asgN (K : c.Ok) (H : All c n lvl C) {ts : List PySem.Expr} {e : PySem.Expr} {pos : Pos} (ho : oneOf ts = none) (hc : cS c.T Mv (n + 1) k (.Assign ts e pos) = some ss) : SSnd c lvl C k (.Assign ts e pos) ss := by
  have hd : (if (isComp e || isTup e || decide (ts.length < 2)) = true then none else (nameIxs c.T k ts).bind fun xs => (cE c.T n k e).map fun e => fz Mv e (.asgs xs e)) = some ss := by
    match ts, ho with
    | [], _ => exact hc
    | _ :: _ :: _, _ => exact hc
  clear hc
  obtain ⟨h0, h2⟩ := if_inv' hd
  obtain ⟨xs, hxs, h3⟩ := bind_inv h2
  obtain ⟨se, h1, rfl⟩ := map_inv h3
  clear hd h2 h3
  exact of_fz fun σ σ' fl env X W₀ M s Q E A hr F R hp P => s_asgs K H.e (Nat.le_of_not_lt (of_decide_eq_false (or_inv h0).2)) hxs h1 hr F R hp P
theorem ss_aug (K : c.Ok) (H : All c n lvl C) {t e : PySem.Expr} {op : Operator} {pos : Pos} (hc : cS c.T Mv (n + 1) k (.AugAssign t op e pos) = some ss) : SSnd c lvl C k (.AugAssign t op e pos) ss := by
  cases t with
  | Name x xp =>
    obtain ⟨hk, h2⟩ := if_inv (b := isStored k x && x != ("__debug__" : Str)) hc
    clear hc
    obtain ⟨bop, hb, h3⟩ := bind_inv h2
    obtain ⟨xi, hi, h4⟩ := bind_inv h3
    obtain ⟨se, h1, rfl⟩ := map_inv h4
    clear h2 h3 h4
    exact of_fz fun σ σ' fl env X W₀ M s Q E A hr F R hp P => s_aug K H.e (and_inv hk).1 hb hi h1 hr F R hp P
  | Subscript o i ip =>
    obtain ⟨x, hx, h2⟩ := bind_inv (o := nameStr o) hc
    clear hc
    obtain ⟨hk, h3⟩ := if_inv h2
    obtain ⟨bop, hb, h4⟩ := bind_inv h3
    obtain ⟨xi, hi, h5⟩ := bind_inv h4
    obtain ⟨si, h1, h6⟩ := bind_inv h5
    obtain ⟨se, h7, rfl⟩ := map_inv h6
    clear h2 h3 h4 h5 h6
    cases nameV hx
    exact of_fz fun σ σ' fl env X W₀ M s Q E A hr F R hp P => s_augI K H.e (sliceX_none (isNone_inv (and_inv hk).2)) (and_inv hk).1 hb hi h1 h7 hr F R hp P
  | _ => first | exact nos hc | exact nob hc | nomatch hc
theorem ss_all (K : c.Ok) (hn : n ≤ 1000) (Hm : ∀ m, m ≤ n → All c m lvl C) (hS : SSs1 c n lvl C Mv) (st : PySem.Stmt) (hc : cS c.T Mv (n + 1) k st = some ss) : SSnd c lvl C k st ss := by
  have H := Hm n (Nat.le_refl _)
  cases st with
  | Return oe p =>
    obtain ⟨e, he, h2⟩ := bind_inv hc
    obtain ⟨se, h1, rfl⟩ := map_inv h2
    subst he
    intro σ σ' fl env X W₀ M s Q E A hr F R hp P
    rw [runs_one] at hr
    exact s_ret H.e h1 hr F R hp P
  | Break p =>
    cases Option.some.inj hc
    intro σ σ' fl env X W₀ M s Q E A hr F R hp P
    rw [runs_one] at hr
    cases Option.some.inj hr
    exact wpAny_Break (P s.heap s.toks M F (MSub.refl _) hp)
  | Expr e p =>
    obtain ⟨q, hq, h2⟩ := bind_inv hc
    clear hc
    obtain ⟨hk, h3⟩ := if_inv h2
    obtain ⟨xi, hi, h4⟩ := bind_inv h3
    obtain ⟨se, h1, rfl⟩ := map_inv h4
    clear h2 h3 h4
    cases appOf_inv hq with
    | mk x xp m mp a cp =>
      cases beq_iff_eq.mp (and_inv (and_inv hk).1).1
      exact of_fz fun σ σ' fl env X W₀ M s Q E A hr F R hp P => s_app K H.e (and_inv hk).2 (and_inv (and_inv hk).1).2 hi h1 hr F R hp P
  | Assign ts e p =>
    cases ho : oneOf ts with
    | none => exact ss_asgN K H ho hc
    | some t =>
      cases oneOf_inv ho
      exact ss_asg1 K hn Hm hc
  | AugAssign t op e p => exact ss_aug K H hc
  | If t a b p =>
    obtain ⟨st, h0, h2⟩ := bind_inv hc
    obtain ⟨sa, h1, h3⟩ := bind_inv h2
    obtain ⟨sb, h4, rfl⟩ := map_inv h3
    clear hc h2 h3
    exact of_fz fun σ σ' fl env X W₀ M s Q E A hr F R hp P => s_if H.t hS h0 h1 h4 hr F R hp P
  | For t it body els p =>
    obtain ⟨x, hx, h2⟩ := bind_inv (o := nameStr t) hc
    clear hc
    obtain ⟨hk, h3⟩ := if_inv h2
    obtain ⟨si, h0, h4⟩ := bind_inv h3
    obtain ⟨xi, hi, h5⟩ := bind_inv h4
    obtain ⟨sb, h1, h6⟩ := bind_inv h5
    obtain ⟨se, h7, rfl⟩ := map_inv h6
    clear h2 h3 h4 h5 h6
    cases nameV hx
    exact of_fz fun σ σ' fl env X W₀ M s Q E A hr F R hp P => s_for K H.i hS hk hi h0 h1 h7 hr F R hp P
  | While t body els p =>
    obtain ⟨he, h2⟩ := if_inv (b := els.isEmpty) hc
    clear hc
    obtain ⟨st, h0, h3⟩ := bind_inv h2
    obtain ⟨sb, h1, rfl⟩ := map_inv h3
    clear h2 h3
    cases isEmpty_inv he
    intro σ σ' fl env X W₀ M s Q E A hr F R hp P
    rw [runs_one] at hr
    exact s_while H.t hS h0 h1 hr F R hp P
  | _ => first | exact nos hc | exact nob hc | nomatch hc
end
theorem ss_step {Mv : List Nat} (K : c.Ok) (hn : n ≤ 1000) (Hm : ∀ m, m ≤ n → All c m lvl C) (hS : SSs1 c n lvl C Mv) : SS1 c (n + 1) lvl C Mv :=
  fun k st ss σ σ' fl env X W₀ M s Q E A hc => ss_all K hn Hm hS st hc σ σ' fl env X W₀ M s Q E A

theorem sss_step {Mv : List Nat} (h1 : SS1 c n lvl C Mv) (h2 : SSs1 c n lvl C Mv) : SSs1 c (n + 1) lvl C Mv := by
  intro k sts ss σ σ' fl env X W₀ M s Q E A hc hr F R hp P
  cases sts with
  | nil =>
    simp only [cSs, Option.some.injEq] at hc; subst hc
    cases Option.some.inj (show some (σ, Fl.next) = some (σ', fl) from hr)
    exact wpAny_execs_nil (P s.heap s.toks M F (MSub.refl _) hp)
  | cons st r =>
    obtain ⟨a, ha, hc⟩ := bind_inv hc
    obtain ⟨b, hb, rfl⟩ := map_inv hc
    rw [runs_app, Option.bind_eq_some_iff] at hr
    obtain ⟨⟨σ₁, f⟩, hr1, hr2⟩ := hr
    refine wpAny_execs_cons (h1 k st a σ σ₁ f env X W₀ M s _ E A ha hr1 F R hp ?_)
    cases f with
    | next => exact fun h' tk M' F' m hp' => h2 k r b σ₁ σ' fl env X W₀ M' { s with heap := h', toks := tk } Q E A hb hr2 F' R hp' (P.sub m)
    | brk =>
      simp only [Option.some.injEq, Prod.mk.injEq] at hr2
      obtain ⟨rfl, rfl⟩ := hr2
      exact fun h' tk M' F' m hp' => P h' tk M' F' m hp'
    | ret d =>
      simp only [Option.some.injEq, Prod.mk.injEq] at hr2
      obtain ⟨rfl, rfl⟩ := hr2
      exact fun v h' tk b' r' hp' => P v h' tk b' r' hp'

theorem ssnd (K : c.Ok) (O : OracleOk c lvl C) (Mv : List Nat) : ∀ n, n ≤ 1000 → SS1 c n lvl C Mv ∧ SSs1 c n lvl C Mv
  | 0, _ => ⟨by (intro k st ss σ σ' fl env X W₀ M s Q E A hc; nomatch hc), by (intro k st ss σ σ' fl env X W₀ M s Q E A hc; nomatch hc)⟩
  | n + 1, h => by
    have ih := ssnd K O Mv n (by lia)
    exact ⟨ss_step K (by lia) (fun m hm => snd K O m (by lia)) ih.2, sss_step ih.1 ih.2⟩
end
end Mv
end
section
open PySem PySem.W PyProof.Rows
set_option Elab.async false
namespace Mv

theorem call_cells_pos {prog : Program} {w : World} {A : Around} {s : Shared} {R : Result → Shared → Prop} {a : Addr} {o : Obj} {fd : FuncData} {body : List PySem.Stmt} {vals : List Value} {binds : List (Str × Value)} (hp : 0 < s.toks)
    (hroom : A.depth < recursionLimit) (ho : s.heap.get? a = some o) (hdata : o.data = .func fd) (hlim : s.heap.NoLimit) (hcd : s.heap.CodeRec fd.code fd.qualname)
    (hbody : fd.body = .stmts body) (hbind : bindArgs fd ⟨vals, []⟩ = pure binds) (hclo : fd.closure = [])
    (hkind : ∀ x ∈ binds, fd.scope.names.lookup x.1 = some .local ∨ (fd.scope.names.lookup x.1 = some .cell ∧ ((cellsFrom (s.heap.objs.size + 1) fd.scope.names []).lookup x.1).isSome = true))
    (h : ∀ s₁, InCallC s (callEnvC fd s.heap.objs.size a).locals (bindL (callEnvC fd s.heap.objs.size a).kindOf binds fun _ => none) (callEnvC fd s.heap.objs.size a).cells
        (bindC (callEnvC fd s.heap.objs.size a).kindOf binds fun _ => none) s₁ → 0 < s₁.toks →
      wpAny (model prog w) (A.deeper (callEnvC fd s.heap.objs.size a)) (execs body (callEnvC fd s.heap.objs.size a)) (fun f s' => R (.ok (.ret (match f with | .ret v => v | _ => .none))) s')
        (fun e s' => wpAny (model prog w) (A.deeper (callEnvC fd s.heap.objs.size a)) (leaving (callEnvC fd s.heap.objs.size a) e) (fun _ s'' => R (.error e) s'') (fun e' s'' => R (.error e') s'') s') s₁)
    (hco : fd.scope.isCoroutine = false) (hgen : fd.scope.isGenerator = false) (hk : fd.scope.kind = .function) :
    codeAny (model prog w) A (.call (.ref a) ⟨vals, []⟩) R s := by
  refine codeAny_call_function hroom ho hdata hco hgen hbody hcd ?_
  rw [hbind, hclo]
  refine wpAny_pure (pos_any hp fun E' => wpAny_newFunctionEnv_cells hk hkind fun env he s' x hp' => ?_)
  subst he
  exact ⟨hlim.keeps x.toInCall.keep, codeAny_func (h s' x hp')⟩

theorem bindL_skip {kindOf : Str → Option NameKind} {x : Str} : ∀ {binds : List (Str × Value)} {m : Str → Option Value}, x ∉ binds.map (·.1) → bindL kindOf binds m x = m x
  | [], _, _ => rfl
  | (n, v) :: r, m, h => by
    simp only [List.map_cons, List.mem_cons, not_or] at h
    unfold bindL
    rw [bindL_skip h.2]
    split
    · show (if x = n then some v else m x) = m x
      rw [if_neg h.1]
    · rfl
theorem bindC_skip {kindOf : Str → Option NameKind} {x : Str} : ∀ {binds : List (Str × Value)} {m : Str → Option Value}, x ∉ binds.map (·.1) → bindC kindOf binds m x = m x
  | [], _, _ => rfl
  | (n, v) :: r, m, h => by
    simp only [List.map_cons, List.mem_cons, not_or] at h
    unfold bindC
    rw [bindC_skip h.2]
    split
    · rfl
    · show (if x = n then some v else m x) = m x
      rw [if_neg h.1]
theorem bindL_get {kindOf : Str → Option NameKind} {x : Str} {v : Value} (hk : kindOf x = some .local) : ∀ {binds : List (Str × Value)} {m : Str → Option Value} {j : Nat}, (binds.map (·.1)).Nodup → binds[j]? = some (x, v) → bindL kindOf binds m x = some v
  | [], _, _, _, h => by simp at h
  | (n, u) :: r, m, 0, hn, h => by
    simp only [List.getElem?_cons_zero, Option.some.injEq, Prod.mk.injEq] at h
    obtain ⟨rfl, rfl⟩ := h
    simp only [List.map_cons, List.nodup_cons] at hn
    unfold bindL
    rw [bindL_skip hn.1, if_pos hk, if_pos rfl]
  | (n, u) :: r, m, j + 1, hn, h => by
    simp only [List.getElem?_cons_succ] at h
    simp only [List.map_cons, List.nodup_cons] at hn
    unfold bindL
    exact bindL_get hk hn.2 h
theorem bindC_get {kindOf : Str → Option NameKind} {x : Str} {v : Value} (hk : kindOf x ≠ some .local) : ∀ {binds : List (Str × Value)} {m : Str → Option Value} {j : Nat}, (binds.map (·.1)).Nodup → binds[j]? = some (x, v) → bindC kindOf binds m x = some v
  | [], _, _, _, h => by simp at h
  | (n, u) :: r, m, 0, hn, h => by
    simp only [List.getElem?_cons_zero, Option.some.injEq, Prod.mk.injEq] at h
    obtain ⟨rfl, rfl⟩ := h
    simp only [List.map_cons, List.nodup_cons] at hn
    unfold bindC
    rw [bindC_skip hn.1, if_neg hk, if_pos rfl]
  | (n, u) :: r, m, j + 1, hn, h => by
    simp only [List.getElem?_cons_succ] at h
    simp only [List.map_cons, List.nodup_cons] at hn
    unfold bindC
    exact bindC_get hk hn.2 h

structure FnOk (c : Cx) (a : Addr) (fd : FuncData) (ps : List Nat) (names : List Str) (sts : List PySem.Stmt) (ss : List SS) : Prop where
  get : ∃ o, c.hb.get? a = some o ∧ o.data = .func fd
  code : c.hb.CodeRec fd.code fd.qualname
  body : fd.body = .stmts sts
  clo : fd.closure = []
  gl : fd.globals = mainGlobals
  bl : fd.builtins = builtinsNs
  kd : fd.scope.kind = .function
  co : fd.scope.isCoroutine = false
  gen : fd.scope.isGenerator = false
  comp : ∃ Mv n, n ≤ 1000 ∧ cSs c.T Mv n fd.scope.names sts = some ss
  nok : namesOk fd.scope.names = true
  nofree : (fd.scope.names.all fun y => y.2 != .free) = true
  nd : names.Nodup
  ix : names.map c.T.ix = ps.map some
  st : ∀ x ∈ names, isStored fd.scope.names x = true
  bind : ∀ vals : List Value, vals.length = names.length → bindArgs fd ⟨vals, []⟩ = pure (names.zip vals)

section
variable {c : Cx} {n lvl : Nat} {C : Nat → List D → Option D} {X₀ : Addr} {W₀ N : Addr → Prop} {a : Addr} {fd : FuncData} {ps : List Nat} {names : List Str} {sts : List PySem.Stmt} {ss : List SS} {s s₁ : Shared} {vs : List Value}

theorem FnOk.at (f : FnOk c a fd ps names sts ss) {j i : Nat} (h : ps[j]? = some i) : ∃ x, names[j]? = some x ∧ c.T.ix x = some i := by
  have e : (names.map c.T.ix)[j]? = (ps.map some)[j]? := by rw [f.ix]
  rw [List.getElem?_map, List.getElem?_map, h] at e
  cases hn : names[j]? with
  | none => rw [hn] at e; simp at e
  | some x => rw [hn] at e; exact ⟨x, rfl, Option.some.inj e⟩

theorem init_FS (f : FnOk c a fd ps names sts ss) (hinj : c.T.nl.Nodup) (X : InCallC s (callEnvC fd s.heap.objs.size a).locals (bindL (callEnvC fd s.heap.objs.size a).kindOf (names.zip vs) fun _ => none) (callEnvC fd s.heap.objs.size a).cells
        (bindC (callEnvC fd s.heap.objs.size a).kindOf (names.zip vs) fun _ => none) s₁) (hlen : vs.length = names.length) (hbase : Keep c.hb s.heap) {ts : List Ent} {σ₀ : Env1}
    (hE : ∀ (j : Nat) v t, vs[j]? = some v → ts[j]? = some t → EntRel c s.heap (fun a => W₀ a ∨ N a) v t ∧ ∀ b, entAddr c s.heap v t b → N b)
    (hsep : ∀ (j j' : Nat) v t v' t', j ≠ j' → vs[j]? = some v → ts[j]? = some t → vs[j']? = some v' → ts[j']? = some t' → ∀ b, entAddr c s.heap v t b → ¬ entAddr c s.heap v' t' b)
    (hW : Live s.heap W₀) (hN : Live s.heap N) (hdis : ∀ b, W₀ b → ¬ N b) (hNb : ∀ b, N b → c.hb.get? b = none)
    (hoi : ∀ (j : Nat) v ks xs, vs[j]? = some v → ts[j]? = some (.ownI ks xs) → v = .ref X₀)
    (hσ : ∀ n t, look σ₀ n = some t → ∃ j : Nat, ps[j]? = some n ∧ ts[j]? = some t) :
    FS c X₀ W₀ (fun b => SlotOf (callEnvC fd s.heap.objs.size a) b ∨ N b) s₁.heap (callEnvC fd s.heap.objs.size a) fd.scope.names σ₀ := by
  have keep : Keep s.heap s₁.heap := X.toInCall.keep
  have kind : ∀ x, (callEnvC fd s.heap.objs.size a).kindOf x = fd.scope.names.lookup x := fun x => rfl
  have cells_eq : (callEnvC fd s.heap.objs.size a).cells = cellsFrom (s.heap.objs.size + 1) fd.scope.names [] := rfl
  have loc_eq : (callEnvC fd s.heap.objs.size a).locals = s.heap.objs.size := rfl
  have incell : ∀ x b, (callEnvC fd s.heap.objs.size a).cells.lookup x = some b → fd.scope.names.lookup x = some .cell := fun x b e => by
    rcases cellsFrom_mem _ _ _ x b (mem_lookup e) with h | h
    · cases h
    · exact namesOk_cell f.nok h
  have hascell : ∀ x, fd.scope.names.lookup x = some .cell → ∃ b, (callEnvC fd s.heap.objs.size a).cells.lookup x = some b := fun x hx => cellsFrom_has _ _ _ x (mem_lookup hx)
  have nofree : ∀ x, fd.scope.names.lookup x ≠ some .free := fun x hx => by
    have := f.nofree
    rw [List.all_eq_true] at this
    have := this _ (mem_lookup hx)
    simp at this
  have cab : ∀ x b, (callEnvC fd s.heap.objs.size a).cells.lookup x = some b → s.heap.objs.size < b := fun x b e => X.above x b (mem_lookup e)
  have slotge : ∀ b, SlotOf (callEnvC fd s.heap.objs.size a) b → s.heap.objs.size ≤ b := by
    rintro b (rfl | ⟨x, ⟨_, rfl⟩ | ⟨_, e⟩⟩)
    · exact Nat.le_refl _
    · exact Nat.le_refl _
    · exact Nat.le_of_lt (cab x b e)
  have oldlt : ∀ b o, s.heap.get? b = some o → ¬ SlotOf (callEnvC fd s.heap.objs.size a) b := fun b o e q => absurd (Nat.lt_of_lt_of_le (Heap.lt_size e) (slotge b q)) (Nat.lt_irrefl _)
  have cinj : ∀ x y b, (callEnvC fd s.heap.objs.size a).cells.lookup x = some b → (callEnvC fd s.heap.objs.size a).cells.lookup y = some b → x = y := fun x y b ex ey => by
    have mx := mem_lookup ex
    have my := mem_lookup ey
    by_cases hxy : (x, b) = (y, b)
    · exact (Prod.mk.inj hxy).1
    · obtain ⟨i, hi, ei⟩ := List.mem_iff_getElem.mp mx
      obtain ⟨j, hj, ej⟩ := List.mem_iff_getElem.mp my
      have p := List.pairwise_iff_getElem.mp X.apart
      rcases Nat.lt_trichotomy i j with l | l | l
      · have := p i j hi hj l; rw [ei, ej] at this; exact absurd rfl this
      · subst l; rw [ei] at ej; exact absurd ej hxy
      · have := p j i hj hi l; rw [ei, ej] at this; exact absurd rfl this
  have key : ∀ n x t, c.T.nl[n]? = some x → look σ₀ n = some t → ∃ (j : Nat) (v : Value), vs[j]? = some v ∧ ts[j]? = some t ∧ ps[j]? = some n ∧ VarAt s₁.heap (callEnvC fd s.heap.objs.size a) x v := by
    intro n x t e1 e2
    obtain ⟨j, e3, e4⟩ := hσ n t e2
    obtain ⟨y, e5, e6⟩ := f.at e3
    have : y = x := by rw [ix_get e6] at e1; exact Option.some.inj e1
    subst this
    have hj : j < names.length := (List.getElem?_eq_some_iff.mp e5).1
    have hjv : j < vs.length := by lia
    have e7 : vs[j]? = some vs[j] := List.getElem?_eq_getElem hjv
    have e8 : (names.zip vs)[j]? = some (y, vs[j]) := by rw [List.getElem?_zip_eq_some]; exact ⟨e5, e7⟩
    have hnd : ((names.zip vs).map (·.1)).Nodup := by rw [List.map_fst_zip (by lia)]; exact f.nd
    refine ⟨j, _, e7, e4, e3, ?_⟩
    have hst := f.st y (List.mem_of_getElem? e5)
    rcases isStored_or hst with hk | hk
    · exact .loc _ ((kind y).trans hk) X.toInCall.ns (bindL_get ((kind y).trans hk) hnd e8)
    · obtain ⟨b, hb⟩ := hascell y hk
      refine .cell .cell ((kind y).trans hk) (.inl rfl) b hb ?_
      have := X.cell y b hb
      rw [bindC_get (by rw [kind y, hk]; decide) hnd e8] at this
      exact this
  have ent : ∀ (j : Nat) v t, vs[j]? = some v → ts[j]? = some t → EntRel c s₁.heap (fun b => W₀ b ∨ (SlotOf (callEnvC fd s.heap.objs.size a) b ∨ N b)) v t ∧ ∀ b, entAddr c s₁.heap v t b → entAddr c s.heap v t b := by
    intro j v t e1 e2
    obtain ⟨r, _⟩ := hE j v t e1 e2
    refine ⟨r.mono' (fun b o nb e => ⟨keep _ _ e, fun y => ?_⟩) fun b o w e => ⟨keep _ _ e, ?_⟩, fun b q => entAddr_keep r keep q⟩
    · rcases y with y | y | y
      · exact nb (.inl y)
      · exact oldlt b o e y
      · exact nb (.inr y)
    · exact w.elim .inl fun y => .inr (.inr y)
  refine ⟨⟨⟨hbase.trans keep, fun b hb => ?_, f.kd, f.gl, f.bl, rfl, fun x hx => ?_, cinj, fun x b e => ⟨_, X.cell x b e⟩, fun n x t e1 e2 _ => ?_⟩, ⟨⟨_, X.toInCall.ns⟩, f.kd, cinj, fun x b e => ?_, fun x hx => ?_⟩, fun n x t v e1 e2 V b hb => ?_⟩,
    fun z hz => .inl hz, fun b hb x => ?_, fun b hb => ?_, fun y b e => .inr ⟨y, .inr ⟨(kind y).trans (incell y b e), e⟩⟩, fun n x t v e1 e2 V b q => ?_, fun n x v ks xs e1 e2 V => ?_, fun n m x y t u v w hne e1 e2 e3 e4 V Wv b q1 q2 => ?_⟩
  · rcases hb with hb | (rfl | ⟨x, ⟨_, rfl⟩ | ⟨_, e⟩⟩) | hb
    · obtain ⟨o, e⟩ := hW b hb; exact ⟨o, keep _ _ e⟩
    · obtain ⟨o, _, _, e, _⟩ := X.toInCall.ns; exact ⟨o, e⟩
    · obtain ⟨o, _, _, e, _⟩ := X.toInCall.ns; exact ⟨o, e⟩
    · obtain ⟨o, e', _⟩ := X.cell x b e; exact ⟨o, e'⟩
    · obtain ⟨o, e⟩ := hN b hb; exact ⟨o, keep _ _ e⟩
  · rcases hx with hx | hx
    · exact hascell x ((kind x).symm.trans hx)
    · exact absurd ((kind x).symm.trans hx) (nofree x)
  · obtain ⟨j, v, e3, e4, _, V⟩ := key n x t e1 e2
    exact ⟨v, V, (ent j v t e3 e4).1⟩
  · rw [loc_eq]; exact Nat.ne_of_gt (cab x b e)
  · obtain ⟨b, e⟩ := hascell x ((kind x).symm.trans hx)
    exact ⟨b, _, e, X.cell x b e⟩
  · obtain ⟨j, v', e3, e4, _, V'⟩ := key n x t e1 e2
    rw [V.uniq V']
    intro q
    have q' := (ent j v' t e3 e4).2 b q
    have hNb' := (hE j v' t e3 e4).2 b q'
    obtain ⟨o, e⟩ := hN b hNb'
    rcases hb with hb | hb
    · exact oldlt b o e hb
    · exact hdis b hb hNb'
  · rcases x with x | x
    · obtain ⟨o, e⟩ := hW b hb; exact oldlt b o e x
    · exact hdis b hb x
  · rcases hb with hb | hb
    · cases e : c.hb.get? b with
      | none => rfl
      | some o => exact absurd hb (oldlt b o (hbase _ _ e))
    · exact hNb b hb
  · obtain ⟨j, v', e3, e4, _, V'⟩ := key n x t e1 e2
    rw [V.uniq V'] at q
    exact .inr ((hE j v' t e3 e4).2 b ((ent j v' t e3 e4).2 b q))
  · obtain ⟨j, v', e3, e4, _, V'⟩ := key n x _ e1 e2
    rw [V.uniq V']
    exact hoi j v' ks xs e3 e4
  · obtain ⟨j, v', e5, e6, e7, V'⟩ := key n x t e1 e3
    obtain ⟨j', w', e8, e9, e10, W'⟩ := key m y u e2 e4
    rw [V.uniq V'] at q1
    rw [Wv.uniq W'] at q2
    have hjj : j ≠ j' := fun e => hne (by subst e; rw [e7] at e10; exact Option.some.inj e10)
    exact hsep j j' v' t w' u hjj e5 e6 e8 e9 b ((ent j v' t e5 e6).2 b q1) ((ent j' w' u e8 e9).2 b q2)

theorem look_updAll : ∀ {xs : List Nat} {ds : List D} {σ σ' : Env1} {n : Nat} {t : Ent}, updAll σ xs ds = some σ' → look σ' n = some t → look σ n = some t ∨ ∃ (j : Nat) (d : D), xs[j]? = some n ∧ ds[j]? = some d ∧ t = .frz d
  | [], [], σ, σ', n, t, h, e => by simp only [updAll, Option.some.injEq] at h; subst h; exact .inl e
  | x :: xs, d :: ds, σ, σ', n, t, h, e => by
    simp only [updAll] at h
    rcases look_updAll h e with h' | ⟨j, d', a, b, c⟩
    · rw [look_upd] at h'
      split at h'
      · rename_i hn
        subst hn
        simp only [Option.some.injEq] at h'
        exact .inr ⟨0, d, rfl, rfl, h'.symm⟩
      · exact .inl h'
    · exact .inr ⟨j + 1, d', by simpa using a, by simpa using b, c⟩
  | [], _ :: _, _, _, _, _, h, _ => by simp [updAll] at h
  | _ :: _, [], _, _, _, _, h, _ => by simp [updAll] at h

theorem Rm.deep {A : Around} {env : Env} (R : Rm (lvl + 1) A) : Rm lvl (A.deeper env) := by
  refine ⟨R.hh, ?_, ?_⟩
  · have := R.dp
    show A.depth + 1 + 12 * lvl + 12 < recursionLimit
    lia
  · have := R.un
    show A.units + 3 + 100 * lvl + 200 < cLine
    lia

theorem fn_contract (K : c.Ok) (O : OracleOk c lvl C) (f : FnOk c a fd ps names sts ss) {ds : List D} {d : D} (h : callD C ps ss ds = some d) : Contract c (lvl + 1) a ds d := by
  intro A s W vs R hb L rs hp
  simp only [callD, Option.bind_eq_some_iff] at h
  obtain ⟨σ₀, h1, ⟨σ', fl⟩, h2, h3⟩ := h
  cases fl with
  | ret d' =>
    simp only [Option.some.injEq] at h3; subst h3
    obtain ⟨o, ho, hdata⟩ := f.get
    have hpl : ps.length = names.length := by have := congrArg List.length f.ix; simpa using this.symm
    have hlen : vs.length = names.length := by rw [rs.length, updAll_len h1, hpl]
    refine call_cells_pos hp (by have := R.dp; lia) (hb _ _ ho) hdata (K.lim.keeps hb) (f.code.keeps hb) f.body (f.bind vs hlen) f.clo (fun x hx => ?_) (fun s₁ X hp₁ => ?_) f.co f.gen f.kd
    · have hxm : x.1 ∈ names := (List.of_mem_zip (a := x.1) (b := x.2) (by simpa using hx)).1
      rcases isStored_or (f.st x.1 hxm) with e | e
      · exact .inl e
      · obtain ⟨b, hb⟩ := cellsFrom_has fd.scope.names (s.heap.objs.size + 1) [] x.1 (mem_lookup e)
        exact .inr ⟨e, by rw [hb]; rfl⟩
    · have F := init_FS (X₀ := 0) (N := fun _ => False) (W₀ := W) f K.inj X hlen hb (ts := ds.map .frz) (σ₀ := σ₀)
        (fun j v t e1 e2 => by
          rw [List.getElem?_map, Option.map_eq_some_iff] at e2
          obtain ⟨d0, e2, rfl⟩ := e2
          obtain ⟨d1, e3, r⟩ := rs.getV e1
          rw [e2] at e3; cases e3
          exact ⟨.frz (r.mono fun a o na e => ⟨e, fun x => x.elim na id⟩), fun b q => (entAddr_frz q).elim⟩)
        (fun j j' v t v' t' _ e1 e2 e3 e4 b q => by
          rw [List.getElem?_map, Option.map_eq_some_iff] at e2
          obtain ⟨d0, e2, rfl⟩ := e2
          exact (entAddr_frz q).elim)
        L (fun _ x => x.elim) (fun _ _ => id) (fun _ x => x.elim)
        (fun j v ks xs e1 e2 => by
          rw [List.getElem?_map, Option.map_eq_some_iff] at e2
          obtain ⟨_, _, e⟩ := e2; cases e)
        (fun n t e => by
          rcases look_updAll h1 e with h' | ⟨j, d', a, b, rfl⟩
          · simp [look] at h'
          · exact ⟨j, a, by rw [List.getElem?_map, b]; rfl⟩)
      obtain ⟨Mv, nf, hnf, hcomp⟩ := f.comp
      obtain ⟨h₁, tk₁, rfl⟩ := X.toInCall.same
      refine (ssnd K O Mv nf hnf).2 _ _ _ σ₀ σ' (.ret d') _ 0 W _ _ _ _ _ hcomp h2 F R.deep hp₁ ?_
      intro v h' tk bm r hp'
      refine ⟨v, h', tk, rfl, rfl, fun b o e => bm b o (fun x => ?_) (X.toInCall.keep b o e), r, hp'⟩
      rcases x with x | x
      · have hge : s.heap.objs.size ≤ b := by
          rcases x with rfl | ⟨y, ⟨_, rfl⟩ | ⟨_, e'⟩⟩
          · exact Nat.le_refl _
          · exact Nat.le_refl _
          · exact Nat.le_of_lt (X.above y b (mem_lookup e'))
        exact absurd (Nat.lt_of_lt_of_le (Heap.lt_size e) hge) (Nat.lt_irrefl _)
      · exact x
  | next => cases h3
  | brk => cases h3
end
end Mv
end
section
open PySem PySem.W PyProof.Rows
set_option Elab.async false
namespace Mv

theorem inst_at {h : Heap} {x C dx : Addr} {es : List DictEntry} {n : Nat} (hx : h.get? x = some (instObj C dx)) (hd : h.get? dx = some (dictOf es n)) : InstAt h x (instObj C dx) C (some (dictOf es n)) := ⟨hx, rfl, rfl, hd⟩

theorem osa_attr {prog : Program} {w : World} {A : Around} {s : Shared} {K : Frag} {x C dx : Addr} {es : List DictEntry} {n : Nat} {name : Str} {tk : Tok} {v : Value} {R : Result → Shared → Prop} (X : K.In s.heap)
    (hp : plainOver K C = true) (ht : takerIn K C name = some none) (hh : hasDictIn K C = true)
    (hx : s.heap.get? x = some (instObj C dx)) (hd : s.heap.get? dx = some (dictOf es n)) (hl : (getL name es).isSome = true) (hz : es.length ≤ 100)
    (h : ∀ h' hsh, h'.get? dx = some (dictOf (putL name hsh (.str name s.toks) v es) (putN name es n)) → (∀ b o, b ≠ dx → s.heap.get? b = some o → h'.get? b = some o) → R (.ok (.ret .none)) { s with heap := h', toks := s.toks + 1 }) :
    codeAny (model prog w) A (.call (.builtin "object.__setattr__") ⟨[.ref x, .str name tk, v], []⟩) R s := by
  have I := inst_at hx hd
  refine osa_open X I hp ht fun b => ?_
  obtain ⟨cd, hc, hd'⟩ := any_some hh
  refine wpAny_bind (wpAny_pure (wpAny_bind (wpAny_bind (wpAny_loadPart hx (wpAny_bind ((looks_clsIn X hc).here ?_))))))
  rw [hd']
  refine wpAny_pure (a := some dx) (wpAny_bind (wpAny_pure (wpAny_bind ?_)))
  unfold nsSet
  refine wpAny_bind (wpAny_bind (wpAny_askSetting (wpAny_pure (wpAny_bind (wpAny_mkText (wpAny_bind (wpAny_loadPart hd ?_)))))))
  dsimp only
  have c : (!es.toArray.any (·.key.isStr name) && es.toArray.any (·.refKey)) = false := by
    rw [← Array.any_toList, ← Array.any_toList]
    show (!es.any (·.key.isStr name) && es.any (·.refKey)) = false
    unfold getL at hl
    split at hl
    · rename_i en he
      rw [List.any_eq_true.mpr ⟨en, List.mem_of_find?_eq_some he, List.find?_some he⟩]; rfl
    · split at hl
      · cases hl
      · rename_i z; rw [Bool.not_eq_true] at z; rw [z, Bool.and_false]
  rw [aRefKeyMayBeTheName_at, c]
  have D' : (s.heap.update dx (Obj.putName name (PyData.keyHash w.params name) (.str name s.toks) v)).get? dx = some (dictOf (putL name (PyData.keyHash w.params name) (.str name s.toks) v es) (putN name es n)) := by
    have e : Obj.putName name (PyData.keyHash w.params name) (.str name s.toks) v (dictOf es n) = dictOf (putL name (PyData.keyHash w.params name) (.str name s.toks) v es) (putN name es n) := putName_dict ..
    rw [Heap.get?_update_self _ hd (by rw [e]; rfl), e]
  refine wpAny_updatePart hd ?_
  have hlen : (putL name (PyData.keyHash w.params name) (.str name s.toks) v es).length ≤ 101 := by
    have : ∀ l : List DictEntry, (putL name (PyData.keyHash w.params name) (.str name s.toks) v l).length ≤ l.length + 1 := by
      intro l
      induction l with
      | nil => exact Nat.le_refl _
      | cons e r ih => unfold putL; split <;> simp only [List.length_cons] <;> lia
    have := this es
    lia
  refine wpAny_bind (wpAny_lookBehind D' (by exact pastItsLine_dict (by rw [List.size_toArray, sizeLine_eq]; lia)) ?_)
  exact wpAny_pure (h _ _ D' fun b o nb e => (Heap.SameBut.update ..).extBut b o nb e)

theorem set_attr {prog : Program} {w : World} {A : Around} {E : Value → Shared → Prop} {s : Shared} {K : Frag} {x C dx : Addr} {es : List DictEntry} {n : Nat} {name : Str} {v : Value} {Q : Unit → Shared → Prop} (X : K.In s.heap)
    (hs : findIn K (.ref C) "__setattr__" = some (some (.builtin "object.__setattr__"))) (hp : plainOver K C = true) (ht : takerIn K C name = some none) (hh : hasDictIn K C = true)
    (hx : s.heap.get? x = some (instObj C dx)) (hd : s.heap.get? dx = some (dictOf es n)) (hl : (getL name es).isSome = true) (hz : es.length ≤ 100)
    (h : ∀ h' hsh, h'.get? dx = some (dictOf (putL name hsh (.str name (s.toks + 1)) v es) (putN name es n)) → (∀ b o, b ≠ dx → s.heap.get? b = some o → h'.get? b = some o) → Q () { s with heap := h', toks := s.toks + 2 }) :
    wpAny (model prog w) A (setAttr (.ref x) name v) Q E s :=
  set_plain X (inst_at hx hd) hs (osa_attr (s := { s with toks := s.toks + 1 }) X hp ht hh hx hd hl hz h)
end Mv
end
section
open PySem PySem.W PyProof.Rows
set_option Elab.async false
namespace Mv

noncomputable def isRefAt (K : Frag) (x : Str) (a : Addr) : Bool := match nsIn K mainGlobals x with
  | some (some (.ref b)) => b == a
  | _ => false
noncomputable def noGlob (K : Frag) (x : Str) : Bool := match nsIn K mainGlobals x with
  | some none => true
  | _ => false
noncomputable def isFnRef (K : Frag) (C : Addr) (m : Str) (a : Addr) : Bool := (match findIn K (.ref C) m with
  | some (some (.ref b)) => b == a
  | _ => false) && isFn K (.ref a)
noncomputable def isNone2 (x : Option (Option Value)) : Bool := match x with
  | some none => true
  | _ => false
noncomputable def isBuiltin2 (x : Option (Option Value)) (n : String) : Bool := match x with
  | some (some (.builtin m)) => m == n
  | _ => false

structure Ids where
  C : Addr
  fl : Addr
  fa : List (Nat × Addr)

noncomputable def Ids.at (I : Ids) (i : Nat) : Addr := (I.fa.lookup i).getD 0

noncomputable def chkGl (K : Frag) (T : Tb) (I : Ids) (p : Str × GR) : Bool := match p.2 with
  | .fn => (match T.ix p.1 with
    | some i => isRefAt K p.1 (I.at i) && keepIn K (.ref (I.at i))
    | none => true)
  | .cls => (match T.ix p.1 with
    | some i => isRefAt K p.1 (I.at i) && keepIn K (.ref (I.at i)) && I.at i == I.C
    | none => false)
  | .bf _ => noGlob K p.1 && p.1 != ("__name__" : Str)
  | .rng => noGlob K p.1 && p.1 != ("__name__" : Str)
  | .flags => isRefAt K p.1 I.fl
noncomputable def chkMs (K : Frag) (T : Tb) (I : Ids) (m : Str) : Bool := match T.ix m with
  | some i => isFnRef K I.C m (I.at i) && keepIn K (.ref (I.at i))
  | none => true
noncomputable def chkAt (K : Frag) (I : Ids) (a : Str) : Bool := (match findIn K (.ref I.C) a with
  | some at_ => noGet K at_
  | none => false) && isNone2 (takerIn K I.C a)
noncomputable def chkCls (K : Frag) (C : Addr) : Bool := isBuiltin2 (findIn K (.ref C) "__getattribute__") "object.__getattribute__" && isNone2 (findIn K (.ref C) "__getattr__") && hasDictIn K C && isBuiltin2 (findIn K (.ref C) "__setattr__") "object.__setattr__" && plainOver K C
noncomputable def chkAll (K : Frag) (T : Tb) (I : Ids) : Bool := T.gl.all (chkGl K T I) && T.ms.all (chkMs K T I) && T.ats.all (chkAt K I) && chkCls K I.C && isNone2 (nsIn K cStatics sharingNotToldKey)

theorem isRefAt_eq {K : Frag} {x : Str} {a : Addr} (h : isRefAt K x a = true) : nsIn K mainGlobals x = some (some (.ref a)) := by
  unfold isRefAt at h
  split at h
  · rename_i b e; rw [e, beq_iff_eq.mp h]
  · cases h
theorem noGlob_eq {K : Frag} {x : Str} (h : noGlob K x = true) : nsIn K mainGlobals x = some none := by
  unfold noGlob at h
  split at h
  · rename_i e; exact e
  · cases h
theorem isNone2_eq {x : Option (Option Value)} (h : isNone2 x = true) : x = some none := by
  unfold isNone2 at h
  split at h
  · rfl
  · cases h
theorem isBuiltin2_eq {x : Option (Option Value)} {n : String} (h : isBuiltin2 x n = true) : x = some (some (.builtin n)) := by
  unfold isBuiltin2 at h
  split at h
  · rename_i m; rw [beq_iff_eq.mp h]
  · cases h

theorem ns_some_of {K : Frag} {h : Heap} {N : Addr} {mg : Str → Option Value} {n : Str} {v : Value} (X : K.In h) (G : h.Ns N mg) (e : nsIn K N n = some (some v)) : mg n = some v := by
  obtain ⟨o, es, ep, ho, hd, _, hf⟩ := G
  unfold nsIn at e
  split at e
  · rename_i c d es' n' sl q
    have := X _ _ q
    rw [ho] at this
    cases this
    cases hd
    split at e
    · rename_i en he
      simp only [Option.some.injEq] at e
      subst e
      rw [← hf n]
      unfold nsFind findBy
      rw [← Array.find?_toList, he]
      rfl
    · split at e <;> cases e
  · cases e

structure Start (prog : Program) (w : World) (K : Frag) (T : Tb) (I : Ids) (h : Heap) (mg mb : Str → Option Value) : Prop where
  X : K.In h
  g : h.Ns mainGlobals mg
  b : h.Ns builtinsNs mb
  lim : h.NoLimit
  mc : ∃ mc, h.Ns cStatics mc
  boot : ∀ x : Str, x ≠ "__name__" → mb x = bootBuiltins x
  chk : chkAll K T I = true
  inj : T.nl.Nodup
  bf : ∀ p ∈ T.gl, match p.2 with
    | .bf b => bootBuiltins p.1 = some (bfName b)
    | .rng => bootBuiltins p.1 = some (.type "range")
    | _ => True
  cat : ∀ a n d, catOf a = some n → catD n = some d → ∃ s t mc, readsIn K I.C mc = true ∧ findCls K (.ref I.C) mc a = some (.val (.str s t)) ∧ d = .str s.cps.toList
  flo : (I.fl == sysModules) = false ∧ ∃ o, h.get? I.fl = some o ∧ o.dict = none
  flm : ∃ f, h.MapOf (PySem.intKind prog w) I.fl f ∧ ∀ i, match flagTab.lookup i with
    | some l => ∃ s t, f i = some (.str s t) ∧ s.cps.toList = l
    | none => f i = none

noncomputable def cxOf (prog : Program) (w : World) (T : Tb) (I : Ids) (h : Heap) (mg mb : Str → Option Value) : Cx := { prog, w, T, hb := h, mg, mb, C := I.C, fa := I.at, fl := I.fl }

theorem gl_mem {gl : List (Str × GR)} {x : Str} {r : GR} (h : gl.lookup x = some r) : (x, r) ∈ gl := mem_lookup h

theorem Start.ok {prog : Program} {w : World} {K : Frag} {T : Tb} {I : Ids} {h : Heap} {mg mb : Str → Option Value} (S : Start prog w K T I h mg mb) : (cxOf prog w T I h mg mb).Ok := by
  have c := S.chk
  unfold chkAll at c
  simp only [Bool.and_eq_true, List.all_eq_true] at c
  obtain ⟨⟨⟨⟨cg, cm⟩, ca⟩, cc⟩, cn⟩ := c
  unfold chkCls at cc
  simp only [Bool.and_eq_true] at cc
  obtain ⟨⟨⟨⟨c1, c2⟩, c3⟩, c4⟩, c5⟩ := cc
  have c1 := isBuiltin2_eq c1
  have c2 := isNone2_eq c2
  have c4 := isBuiltin2_eq c4
  have hin : ∀ h', Keep h h' → K.In h' := fun h' k => S.X.keeps k
  refine { g := S.g, b := S.b, lim := S.lim, nb := ?_, inj := S.inj, callee := ?_, clsix := ?_, clsC := ?_, keep := ?_, meth := ?_, attr := ?_, seta := ?_, cat := ?_, bf := ?_, fl := ?_, flo := S.flo, flm := S.flm, rg := ?_ }
  · obtain ⟨mc, hmc⟩ := S.mc
    exact ⟨mc, hmc, ns_none_of S.X hmc (isNone2_eq cn)⟩
  · intro x i hx hi
    rcases hx with hx | hx
    · have := cg _ (gl_mem hx)
      have hi' : T.ix x = some i := hi
      simp only [chkGl, hi', Bool.and_eq_true] at this
      exact ns_some_of S.X S.g (isRefAt_eq this.1)
    · have := cg _ (gl_mem hx)
      have hi' : T.ix x = some i := hi
      simp only [chkGl, hi', Bool.and_eq_true] at this
      exact ns_some_of S.X S.g (isRefAt_eq this.1.1)
  · intro x hx
    have := cg _ (gl_mem hx)
    simp only [chkGl] at this
    cases hi : T.ix x with
    | some i => exact ⟨i, hi⟩
    | none => rw [hi] at this; cases this
  · intro x i hx hi
    have := cg _ (gl_mem hx)
    have hi' : T.ix x = some i := hi
    simp only [chkGl, hi', Bool.and_eq_true] at this
    exact beq_iff_eq.mp this.2
  · intro x i hx hi M h' k
    have hi' : T.ix x = some i := hi
    have key : keepIn K (.ref (I.at i)) = true := by
      rcases hx with hx | hx | hx
      · have := cg _ (gl_mem hx)
        simp only [chkGl, hi', Bool.and_eq_true] at this
        exact this.2
      · have := cg _ (gl_mem hx)
        simp only [chkGl, hi', Bool.and_eq_true] at this
        exact this.1.2
      · have := cm x (by have hx' : T.ms.contains x = true := hx; simpa using hx')
        simp only [chkMs, hi', Bool.and_eq_true] at this
        exact this.2
    exact keeps_K key h' (hin h' k)
  · intro x i hx hi A E s pl Q o dx es n k ho hd hl hq
    have hi' : T.ix x = some i := hi
    have := cm x (by have hx' : T.ms.contains x = true := hx; simpa using hx')
    simp only [chkMs, hi', Bool.and_eq_true, isFnRef] at this
    obtain ⟨⟨h1, h2⟩, _⟩ := this
    have hf : findIn K (.ref I.C) x = some (some (.ref (I.at i))) := by
      split at h1
      · rename_i b e; rw [e, beq_iff_eq.mp h1]
      · cases h1
    refine method_fn (hin _ k) (inst_at ho hd) c1 c2 hf (beq_iff_eq.mp h2) ?_ hq
    show (lookIn x (dictOf es n)).map _ = _
    rw [lookIn_dict, hl]; rfl
  · intro x hx A E s Q o dx es n v k ho hd hl hv hq
    have := ca x (by have hx' : T.ats.contains x = true := hx; simpa using hx')
    simp only [chkAt, Bool.and_eq_true] at this
    obtain ⟨h1, _⟩ := this
    split at h1
    · rename_i at_ e
      exact get_value (hin _ k) (inst_at ho hd) c1 (findObj_own c3 e h1 hl) hv hq
    · cases h1
  · intro x hx A E s Q o dx es n v k ho hd hl hz hq
    have := ca x (by have hx' : T.ats.contains x = true := hx; simpa using hx')
    simp only [chkAt, Bool.and_eq_true] at this
    exact set_attr (hin _ k) c4 c5 (isNone2_eq this.2) c3 ho hd hl hz hq
  · intro x n d h1 h2 A E s Q k hq
    obtain ⟨st, t, mc, r1, r2, rfl⟩ := S.cat x n d h1 h2
    exact cls_value (hin _ k) r1 r2 rfl (hq _ (s.toks + 1) (.str _ _ _ rfl))
  · intro x b hx
    have h1 := cg _ (gl_mem hx)
    have h2 := S.bf _ (gl_mem hx)
    simp only [chkGl, Bool.and_eq_true, bne_iff_ne, ne_eq] at h1
    refine ⟨ns_none_of S.X S.g (noGlob_eq h1.1), ?_⟩
    show mb x = _
    rw [S.boot x h1.2]
    cases b <;> exact h2
  · intro x hx
    have := cg _ (gl_mem hx)
    simp only [chkGl] at this
    exact ns_some_of S.X S.g (isRefAt_eq this)
  · intro x hx
    have h1 := cg _ (gl_mem hx)
    have h2 := S.bf _ (gl_mem hx)
    simp only [chkGl, Bool.and_eq_true, bne_iff_ne, ne_eq] at h1
    exact ⟨ns_none_of S.X S.g (noGlob_eq h1.1), (S.boot x h1.2).trans h2⟩
end Mv
end
section
open PySem PySem.W PyProof.Rows
set_option Elab.async false
namespace Mv

noncomputable def fdOf (K : Frag) (a : Addr) : FuncData := match K.lookup a with
  | some ⟨_, _, .func fd, _⟩ => fd
  | _ => default
noncomputable def stsOf (fd : FuncData) : List PySem.Stmt := match fd.body with
  | .stmts s => s
  | _ => []
noncomputable def argsOf (fd : FuncData) : List Str := fd.params.args.map (·.arg)

noncomputable def codeOk (K : Frag) (fd : FuncData) : Bool := match fd.code with
  | .ref c => (match K.lookup c with
    | some ⟨_, _, .fields vs, _⟩ => (match (vs[1]? : Option Value) with
      | some (.str q _) => q == fd.qualname
      | _ => false)
    | _ => false)
  | _ => false
noncomputable def nodupB (l : List Str) : Bool := match l with
  | [] => true
  | x :: r => !r.contains x && nodupB r
theorem nodupB_eq : ∀ {l : List Str}, nodupB l = true → l.Nodup
  | [], _ => List.nodup_nil
  | x :: r, h => by
    simp only [nodupB, Bool.and_eq_true, Bool.not_eq_true'] at h
    rw [List.nodup_cons]
    exact ⟨by simpa using h.1, nodupB_eq h.2⟩

noncomputable def chkFn (K : Frag) (T : Tb) (a : Addr) (ps : List Nat) : Bool := (match K.lookup a with
  | some ⟨_, _, .func fd, _⟩ => codeOk K fd && (match fd.body with
    | .stmts _ => true
    | _ => false) && fd.closure.isEmpty && fd.globals == mainGlobals && fd.builtins == builtinsNs && fd.scope.kind == .function && !fd.scope.isCoroutine && !fd.scope.isGenerator && namesOk fd.scope.names && fd.scope.names.all (fun y => y.2 != .free) &&
    nodupB (argsOf fd) && (argsOf fd).map T.ix == ps.map some && (argsOf fd).all (fun x => isStored fd.scope.names x)
  | _ => false)

theorem fnOk_of {prog : Program} {w : World} {K : Frag} {T : Tb} {I : Ids} {h : Heap} {mg mb : Str → Option Value} {a : Addr} {ps : List Nat} {ss : List SS} (Mv : List Nat) (n : Nat) (hn : n ≤ 1000) (X : K.In h) (hc : chkFn K T a ps = true)
    (hcomp : cSs T Mv n (fdOf K a).scope.names (stsOf (fdOf K a)) = some ss) (hbind : ∀ vals : List Value, vals.length = (argsOf (fdOf K a)).length → bindArgs (fdOf K a) ⟨vals, []⟩ = pure ((argsOf (fdOf K a)).zip vals)) :
    FnOk (cxOf prog w T I h mg mb) a (fdOf K a) ps (argsOf (fdOf K a)) (stsOf (fdOf K a)) ss := by
  unfold chkFn at hc
  split at hc
  · rename_i cl dc fd sl q
    have hfd : fdOf K a = fd := by unfold fdOf; rw [q]
    rw [hfd] at hcomp hbind ⊢
    simp only [Bool.and_eq_true, Bool.not_eq_true', beq_iff_eq] at hc
    obtain ⟨⟨⟨⟨⟨⟨⟨⟨⟨⟨⟨⟨c1, c2⟩, c3⟩, c4⟩, c5⟩, c6⟩, c7⟩, c8⟩, c9⟩, c10⟩, c11⟩, c12⟩, c13⟩ := hc
    refine { get := ⟨_, X _ _ q, rfl⟩, code := ?_, body := ?_, clo := by simpa using c3, gl := c4, bl := c5, kd := c6, co := c7, gen := c8, comp := ⟨Mv, n, hn, hcomp⟩, nok := c9, nofree := c10, nd := nodupB_eq c11, ix := c12, st := by simpa using c13, bind := hbind }
    · unfold codeOk at c1
      split at c1
      · rename_i c ec
        split at c1
        · rename_i cl' dc' vs sl' q'
          split at c1
          · rename_i qn t ev
            have := beq_iff_eq.mp c1
            subst this
            exact ⟨c, _, vs, t, ec, X _ _ q', rfl, ev⟩
          · cases c1
        · cases c1
      · cases c1
    · unfold stsOf
      split at c2
      · rename_i s' es
        rw [es]
      · cases c2
  · cases hc
end Mv
end
section
open PySem PySem.W PyProof.Rows
set_option Elab.async false
namespace Mv

noncomputable def initD (C : Nat → List D → Option D) (ps : List Nat) (body : List SS) (ds : List D) : Option D :=
  match ps with
  | p0 :: r => (updAll [] r ds).bind fun σ => (runs C body ((p0, .ownI [] []) :: σ)).bind fun p => match p.2 with
    | .next => (look p.1 p0).bind fun t => match t with
      | .ownI ks vs => some (.inst ks vs)
      | _ => none
    | _ => none
  | [] => none

theorem call_weight (C : Addr) (rest : List Value) : Code.weight (.builtin "type.__call__" ⟨.ref C :: rest, []⟩) ≤ 3 := by
  have : Code.weight (.builtin "type.__call__" ⟨.ref C :: rest, []⟩) = 1 := by kernel_rfl
  lia
theorem call_units (C : Addr) (rest : List Value) : Code.cUnits (.builtin "type.__call__" ⟨.ref C :: rest, []⟩) ≤ 20 := by
  have : Code.cUnits (.builtin "type.__call__" ⟨.ref C :: rest, []⟩) = 1 := by kernel_rfl
  lia

theorem isVar_of {k : Kinds} {x : Str} (hx : isStored k x = true) : isVar k x = true := by
  unfold isVar
  rcases isStored_or hx with h | h <;> rw [h]

theorem cls_contract {c : Cx} {lvl : Nat} {C : Nat → List D → Option D} {Kf : Frag} {fI : Addr} {fd : FuncData} {ps : List Nat} {names : List Str} {sts : List PySem.Stmt} {ss : List SS} (K : c.Ok) (O : OracleOk c lvl C) (f : FnOk c fI fd ps names sts ss)
    (XK : Kf.In c.hb) (hm : makesIn Kf c.C = true) (hi : findIn Kf (.ref c.C) "__init__" = some (some (.ref fI))) (hf : typeIn Kf (.ref fI) = some (.type "function")) {ds : List D} {d : D} (h : initD C ps ss ds = some d) : Contract c (lvl + 1) c.C ds d := by
  intro A s W vs R hb L rs hp
  unfold initD at h
  split at h
  · rename_i p0 r
    simp only [Option.bind_eq_some_iff] at h
    obtain ⟨σ, h1, ⟨σ', fl⟩, h2, h3⟩ := h
    cases fl with
    | next =>
      simp only [Option.bind_eq_some_iff] at h3
      obtain ⟨t, h4, h5⟩ := h3
      cases t with
      | ownI ks us =>
        simp only [Option.some.injEq] at h5; subst h5
        obtain ⟨o, ho, hdata⟩ := f.get
        have X : Kf.In s.heap := XK.keeps hb
        obtain ⟨hh, g, dr, t, os⟩ := s
        have hpl : (p0 :: r).length = names.length := by have := congrArg List.length f.ix; simpa using this.symm
        have hlen : (Value.ref (hh.objs.size + 1) :: vs).length = names.length := by
          rw [← hpl]
          have e1 := rs.length
          have e2 := updAll_len h1
          simp only [List.length_cons]; lia
        have k2 : Keep hh ((hh.push emptyDict).push (instObj c.C hh.objs.size)) := (Keep.push _ _).trans (Keep.push _ _)
        have hxg : ((hh.push emptyDict).push (instObj c.C hh.objs.size)).get? (hh.objs.size + 1) = some (instObj c.C hh.objs.size) := by
          have := Heap.get?_push_size (h := hh.push emptyDict) (o := instObj c.C hh.objs.size) rfl
          rwa [Heap.size_push] at this
        have hdg : ((hh.push emptyDict).push (instObj c.C hh.objs.size)).get? hh.objs.size = some (dictOf [] 0) := Heap.get?_push_of_some _ (Heap.get?_push_size _ rfl)
        have old : ∀ b o, hh.get? b = some o → ¬ (b = hh.objs.size + 1 ∨ b = hh.objs.size) := fun b o e q => by
          have := Heap.lt_size e
          rcases q with q | q <;> subst q
          · exact absurd (Nat.lt_trans (Nat.lt_succ_self _) this) (Nat.lt_irrefl _)
          · exact Nat.lt_irrefl _ this
        have sz2 : ((hh.push emptyDict).push (instObj c.C hh.objs.size)).objs.size = hh.objs.size + 1 + 1 := by rw [Heap.size_push, Heap.size_push]
        refine make_core (makes_of X hm) (looks_findIn X hi) (fun self => bind_fn X self hf) (.inl rfl) ?_
        refine call_cells_pos (s := ⟨(hh.push emptyDict).push (instObj c.C hh.objs.size), g, dr, t, os⟩) hp ?_ ((hb.trans k2) _ _ ho) hdata (K.lim.keeps (hb.trans k2)) (f.code.keeps (hb.trans k2)) f.body (f.bind _ hlen) f.clo (fun x hx => ?_) (fun s₁ X' hp₁ => ?_) f.co f.gen f.kd
        · have := R.dp
          have := call_weight c.C vs
          show A.depth + _ < recursionLimit
          lia
        · have hxm : x.1 ∈ names := (List.of_mem_zip (a := x.1) (b := x.2) (by simpa using hx)).1
          rcases isStored_or (f.st x.1 hxm) with e | e
          · exact .inl e
          · obtain ⟨b, hb⟩ := cellsFrom_has fd.scope.names (((hh.push emptyDict).push (instObj c.C hh.objs.size)).objs.size + 1) [] x.1 (mem_lookup e)
            exact .inr ⟨e, by rw [hb]; rfl⟩
        · have F := init_FS (X₀ := hh.objs.size + 1) (N := fun b => b = hh.objs.size + 1 ∨ b = hh.objs.size) (W₀ := W) f K.inj X' hlen (hb.trans k2) (ts := .ownI [] [] :: ds.map .frz) (σ₀ := (p0, .ownI [] []) :: σ)
            (fun j v t e1 e2 => by
              cases j with
              | zero =>
                simp only [List.getElem?_cons_zero, Option.some.injEq] at e1 e2
                subst e1 e2
                refine ⟨.ownI (.inr (.inl rfl)) (.inr (.inr rfl)) hxg hdg trivial .nil, fun b q => ?_⟩
                rcases q with rfl | ⟨dx, e, rfl⟩
                · exact .inl rfl
                · have e' : ((hh.push emptyDict).push (instObj c.C hh.objs.size)).get? (hh.objs.size + 1) = some (instObj c.C b) := e
                  rw [hxg] at e'
                  exact .inr (Option.some.inj (congrArg Obj.dict (Option.some.inj e'))).symm
              | succ j =>
                simp only [List.getElem?_cons_succ] at e1 e2
                rw [List.getElem?_map, Option.map_eq_some_iff] at e2
                obtain ⟨d0, e2, rfl⟩ := e2
                obtain ⟨d1, e3, r⟩ := rs.getV e1
                rw [e2] at e3; cases e3
                exact ⟨.frz (r.mono fun a o na e => ⟨k2 _ _ e, fun x => x.elim na (old a o e)⟩), fun b q => (entAddr_frz q).elim⟩)
            (fun j j' v t v' t' hne e1 e2 e3 e4 b q q' => by
              cases j with
              | zero =>
                cases j' with
                | zero => exact hne rfl
                | succ j' =>
                  simp only [List.getElem?_cons_succ] at e4
                  rw [List.getElem?_map, Option.map_eq_some_iff] at e4
                  obtain ⟨d0, _, rfl⟩ := e4
                  exact entAddr_frz q'
              | succ j =>
                simp only [List.getElem?_cons_succ] at e2
                rw [List.getElem?_map, Option.map_eq_some_iff] at e2
                obtain ⟨d0, _, rfl⟩ := e2
                exact entAddr_frz q)
            (fun a ha => let ⟨o, e⟩ := L a ha; ⟨o, k2 _ _ e⟩)
            (fun a ha => by
              rcases ha with rfl | rfl
              · exact ⟨_, hxg⟩
              · exact ⟨_, hdg⟩)
            (fun b hw hn => let ⟨o, e⟩ := L b hw; old b o e hn)
            (fun b hn => by
              cases e : c.hb.get? b with
              | none => rfl
              | some o => exact absurd hn (old b o (hb _ _ e)))
            (fun j v ks xs e1 e2 => by
              cases j with
              | zero =>
                simp only [List.getElem?_cons_zero, Option.some.injEq] at e1
                exact e1.symm
              | succ j =>
                simp only [List.getElem?_cons_succ] at e2
                rw [List.getElem?_map, Option.map_eq_some_iff] at e2
                obtain ⟨_, _, e⟩ := e2; cases e)
            (fun n t e => by
              rw [look_cons] at e
              split at e
              · rename_i hn
                subst hn
                simp only [Option.some.injEq] at e
                exact ⟨0, rfl, by rw [← e]; rfl⟩
              · rcases look_updAll h1 e with h' | ⟨j, d', a, b, rfl⟩
                · simp [look] at h'
                · exact ⟨j + 1, by simpa using a, by simp [b]⟩)
          obtain ⟨Mv, nf, hnf, hcomp⟩ := f.comp
          obtain ⟨h₁, tk₁, rfl⟩ := X'.toInCall.same
          have R' : Rm lvl ((A.under (.builtin "type.__call__" ⟨.ref c.C :: vs, []⟩)).deeper (callEnvC fd ((hh.push emptyDict).push (instObj c.C hh.objs.size)).objs.size fI)) := by
            have h1 := R.dp
            have h2 := R.un
            have h3 := call_weight c.C vs
            have h4 := call_units c.C vs
            refine ⟨R.hh, ?_, ?_⟩
            · show A.depth + _ + 1 + 12 * lvl + 12 < recursionLimit
              lia
            · show A.units + _ + 3 + 100 * lvl + 200 < cLine
              lia
          refine (ssnd K O Mv nf hnf).2 _ _ _ _ σ' .next _ _ W _ _ _ _ _ hcomp h2 F R' hp₁ ?_
          intro h' tk M' F' ms hp'
          obtain ⟨xs, hxs, hxi⟩ := f.at (j := 0) (i := p0) rfl
          obtain ⟨v, V, rv⟩ := F'.es.vars p0 xs _ (ix_get hxi) h4 (isVar_of (f.st xs (List.mem_of_getElem? hxs)))
          have hv := F'.oi p0 xs v ks us (ix_get hxi) h4 V
          subst hv
          have hM := F'.ownM p0 xs _ _ (ix_get hxi) h4 V
          refine ⟨rfl, .ref (hh.objs.size + 1), h', tk, rfl, rfl, fun b o e => ?_, ?_, hp'⟩
          · have e1 := X'.toInCall.keep b o (k2 _ _ e)
            refine (ms b o (fun q => ?_) e1).1
            rcases q with q | q
            · have hge : ((hh.push emptyDict).push (instObj c.C hh.objs.size)).objs.size ≤ b := by
                rcases q with rfl | ⟨y, ⟨_, rfl⟩ | ⟨_, e'⟩⟩
                · exact Nat.le_refl _
                · exact Nat.le_refl _
                · exact Nat.le_of_lt (X'.above y b (mem_lookup e'))
              rw [sz2] at hge
              have := Heap.lt_size e
              exact absurd (Nat.lt_of_lt_of_le this (Nat.le_trans (Nat.le_trans (Nat.le_succ _) (Nat.le_succ _)) hge)) (Nat.lt_irrefl _)
            · exact old b o e q
          · cases rv with
            | ownI hx hdx ho' hd' hk hr =>
              refine .inst (fun w => F'.dis _ w (hM _ (.inl rfl))) (fun w => F'.dis _ w (hM _ (.inr ⟨_, ho', rfl⟩))) ho' hd' hk (hr.mono fun a o na e => ⟨e, fun w => na (.inl w)⟩)
      | _ => cases h5
    | ret d => cases h3
    | brk => cases h3
  · cases h
end Mv
end
section
open PySem PySem.W PyProof.Rows
set_option Elab.async false
namespace Mv

noncomputable def chkEs : List DictEntry → List (Int × List Nat) → Bool
  | [], [] => true
  | e :: r, (i, l) :: q => (match e.key, e.val with
    | .int j _, .str s _ => j == i && s.cps.toList == l && e.hash == hashInt i
    | _, _ => false) && chkEs r q
  | _, _ => false
noncomputable def chkFlags (K : Frag) (a : Addr) : Bool := (match K.lookup a with
  | some ⟨.type n, none, .dict es _, sl⟩ => n == "dict" && sl.size == 0 && chkEs es.toList flagTab
  | _ => false) && !(a == sysModules)

theorem chkEs_sound : ∀ {es : List DictEntry} {tab : List (Int × List Nat)}, chkEs es tab = true → (∀ e ∈ es, ∃ k, Value.isInt k e.key = true ∧ e.hash = hashInt k) ∧
    ∀ i, match tab.lookup i with
      | some l => ∃ s t, (es.find? fun e => Value.isInt i e.key).map (·.val) = some (.str s t) ∧ s.cps.toList = l
      | none => (es.find? fun e => Value.isInt i e.key).map (·.val) = none
  | [], [], _ => ⟨(fun _ h => nomatch h), (fun _ => rfl)⟩
  | e :: r, (i, l) :: q, h => by
    simp only [chkEs, Bool.and_eq_true] at h
    obtain ⟨h1, h2⟩ := h
    obtain ⟨ih1, ih2⟩ := chkEs_sound h2
    split at h1
    · rename_i j t s t' ek ev
      simp only [Bool.and_eq_true, beq_iff_eq] at h1
      obtain ⟨⟨hji, hl⟩, hh⟩ := h1
      subst hji
      have hi : ∀ k, Value.isInt k e.key = (j == k) := fun k => by rw [ek]; rfl
      refine ⟨fun x hx => ?_, fun k => ?_⟩
      · rcases List.mem_cons.mp hx with rfl | hx
        · exact ⟨j, by rw [hi]; simp, hh⟩
        · exact ih1 x hx
      · rw [List.lookup_cons, List.find?_cons, hi k]
        by_cases hk : k = j
        · subst hk
          simp only [beq_self_eq_true]
          exact ⟨s, t', by simp [ev], hl⟩
        · have e1 : (k == j) = false := by simpa using hk
          have e2 : (j == k) = false := by simpa using fun e => hk e.symm
          rw [e1, e2]
          exact ih2 k
    · cases h1
  | [], _ :: _, h => by simp [chkEs] at h
  | _ :: _, [], h => by simp [chkEs] at h

theorem flags_of {prog : Program} {w : World} {K : Frag} {h : Heap} {a : Addr} (X : K.In h) (hc : chkFlags K a = true) : ((a == sysModules) = false ∧ ∃ o, h.get? a = some o ∧ o.dict = none) ∧ ∃ f, h.MapOf (PySem.intKind prog w) a f ∧ ∀ i, match flagTab.lookup i with
    | some l => ∃ s t, f i = some (.str s t) ∧ s.cps.toList = l
    | none => f i = none := by
  unfold chkFlags at hc
  rw [Bool.and_eq_true] at hc
  obtain ⟨hc, hs⟩ := hc
  split at hc
  · rename_i n es ep sl q
    simp only [Bool.and_eq_true, beq_iff_eq] at hc
    obtain ⟨⟨rfl, h2⟩, h3⟩ := hc
    obtain ⟨s1, s2⟩ := chkEs_sound h3
    have hsl : sl = #[] := Array.eq_empty_of_size_eq_zero h2
    subst hsl
    refine ⟨⟨by simpa using hs, _, X _ _ q, rfl⟩, fun i => findBy (PySem.intKind prog w).is es i, ⟨_, es, ep, X _ _ q, ⟨rfl, rfl, rfl⟩, rfl, fun e he => s1 e (by simpa using he), fun k => rfl⟩, fun i => ?_⟩
    have := s2 i
    have e : findBy (PySem.intKind prog w).is es i = (es.toList.find? fun e => Value.isInt i e.key).map (·.val) := by
      unfold findBy
      rw [← Array.find?_toList]; rfl
    show match flagTab.lookup i with
      | some l => ∃ s t, findBy (PySem.intKind prog w).is es i = some (.str s t) ∧ s.cps.toList = l
      | none => findBy (PySem.intKind prog w).is es i = none
    rw [e]
    exact this
  · cases hc

noncomputable def chkCat (K : Frag) (C : Addr) (mc : Value) : Bool := (match findCls K (.ref C) mc ("S" : Str) with
  | some (.val (.str s _)) => s.cps.toList == [32]
  | _ => false) && (match findCls K (.ref C) mc ("T" : Str) with
  | some (.val (.str s _)) => s.cps.toList == [9]
  | _ => false) && readsIn K C mc
theorem cat_of {K : Frag} {C : Addr} {mc : Value} (h : chkCat K C mc = true) : ∀ a n d, catOf a = some n → catD n = some d → ∃ s t mc, readsIn K C mc = true ∧ findCls K (.ref C) mc a = some (.val (.str s t)) ∧ d = .str s.cps.toList := by
  intro a n d h1 h2
  unfold chkCat at h
  simp only [Bool.and_eq_true] at h
  obtain ⟨⟨hS, hT⟩, hr⟩ := h
  unfold catOf at h1
  split at h1
  · rename_i ha
    have := beq_iff_eq.mp ha
    subst this
    simp only [Option.some.injEq] at h1; subst h1
    simp only [catD, beq_self_eq_true, if_true, Option.some.injEq] at h2; subst h2
    split at hS
    · rename_i s t e
      exact ⟨s, t, mc, hr, e, by rw [beq_iff_eq.mp hS]⟩
    · cases hS
  · split at h1
    · rename_i ha
      have := beq_iff_eq.mp ha
      subst this
      simp only [Option.some.injEq] at h1; subst h1
      simp [catD] at h2; subst h2
      split at hT
      · rename_i s t e
        exact ⟨s, t, mc, hr, e, by rw [beq_iff_eq.mp hT]⟩
      · cases hT
    · cases h1
end Mv
end
section
open PySem PySem.W PyProof.Rows
set_option Elab.async false
namespace Mv

theorem stLC_pos {M : Model} {A : Around} {E : Value → Shared → Prop} {s₀ s : Shared} {m cm : Str → Option Value} {env : Env} {n : Str} {v : Value} {Q : Unit → Shared → Prop} (x : InCallC s₀ env.locals m env.cells cm s) (hk : env.scope.kind = .function) (hl : env.kindOf n = some .local)
    (h : ∀ s', InCallC s₀ env.locals (fun y => if y = n then some v else m y) env.cells cm s' → 0 < s'.toks → Q () s') : wpAny M A (storeName env n v) Q E s := by
  refine wpAny_storeName_local hl x.toInCall.ns (fun h' hn' hs' => h _ ⟨⟨?_, hn', fun b o e => ?_, x.toInCall.fresh⟩, fun k c hc => ?_, x.apart, x.above⟩ (Nat.succ_pos _)) (by rw [hk]; rfl)
  · obtain ⟨h₁, tk, rfl⟩ := x.toInCall.same
    exact ⟨h', _, rfl⟩
  · exact hs'.extBut b o (Nat.ne_of_lt (Nat.lt_of_lt_of_le (Heap.lt_size e) x.toInCall.fresh)) (x.toInCall.keep b o e)
  · exact (x.cell k c hc).sameBut hs' (Nat.ne_of_gt (x.above k c (mem_of_lookup hc)))

theorem bind_one {M : Model} {A : Around} {E : Value → Shared → Prop} {s₀ s : Shared} {m cm : Str → Option Value} {env : Env} {x : Str} {v : Value} {Q : PUnit → Shared → Prop} (f : Str × Value → PUnit → Sem (ForInStep PUnit)) (hf : ∀ n v u, f (n, v) u = (do storeName env n v; pure (.yield ⟨⟩)))
    (hk : env.scope.kind = .function) (hl : env.kindOf x = some .local) (X : InCallC s₀ env.locals m env.cells cm s)
    (h : ∀ s', InCallC s₀ env.locals (fun y => if y = x then some v else m y) env.cells cm s' → 0 < s'.toks → Q ⟨⟩ s') : wpAny M A (forIn [(x, v)] ⟨⟩ f) Q E s := by
  rw [List.forIn_cons, hf]
  refine wpAny_bind (wpAny_bind (stLC_pos X hk hl fun s' X' hp => wpAny_pure ?_))
  dsimp only
  rw [List.forIn_nil]
  exact wpAny_pure (h s' X' hp)

theorem newEnv_one {M : Model} {A : Around} {E : Value → Shared → Prop} {s : Shared} {scope : Scope} {globals : Addr} {x : Str} {v : Value} {qual : Str} {func : Option Addr} {code : Value} {builtins : Addr} {Q : Env → Shared → Prop}
    (hk : scope.kind = .function) (hx : scope.names.lookup x = some .local)
    (hQ : ∀ env, env = newEnv scope s.heap.objs.size globals (cellsFrom (s.heap.objs.size + 1) scope.names []) qual func code none builtins →
      ∀ s', InCallC s env.locals (bindL env.kindOf [(x, v)] fun _ => none) env.cells (bindC env.kindOf [(x, v)] fun _ => none) s' → 0 < s'.toks → Q env s') :
    wpAny M A (newFunctionEnv scope globals [] [(x, v)] qual func code none builtins) Q E s := by
  simp only [newFunctionEnv, Option.isSome_none, Bool.false_eq_true, if_false]
  refine wpAny_bind (wpAny_alloc ?_)
  refine wpAny_bind (wpAny_layCells _ (fun name kind cells => by cases hkc : kind == NameKind.cell <;> simp [hkc]) _ _ _ _ ?_)
  have ok := cellsFrom_ok scope.names (s.heap.push { cls := .type "frame", data := .dict #[] }) (s.heap.objs.size + 1) [] ⟨fun _ _ hm => (nomatch hm), List.Pairwise.nil⟩ (by rw [Heap.size_push]; exact Nat.le_refl _)
  rw [Heap.size_push] at ok
  rw [show ({ s with heap := s.heap.push { cls := .type "frame", data := .dict #[] } } : Shared).heap.objs.size = s.heap.objs.size + 1 from Heap.size_push ..]
  have X0 : InCallC s (newEnv scope s.heap.objs.size globals (cellsFrom (s.heap.objs.size + 1) scope.names []) qual func code none builtins).locals (fun _ => none) (newEnv scope s.heap.objs.size globals (cellsFrom (s.heap.objs.size + 1) scope.names []) qual func code none builtins).cells (fun _ => none)
      { s with heap := pushCells (s.heap.push { cls := .type "frame", data := .dict #[] }) scope.names } :=
    ⟨⟨⟨_, _, rfl⟩, (Heap.Ns.new s.heap (.type "frame")).keeps (pushCells_keeps _ _), fun b o e => pushCells_keeps _ _ b o (Heap.get?_push_of_some _ e), Nat.le_refl _⟩,
      fun n c hc => (ok.empty n c (mem_of_lookup hc)).1, ok.apart, fun n c hm => (ok.empty n c hm).2⟩
  have hl : (newEnv scope s.heap.objs.size globals (cellsFrom (s.heap.objs.size + 1) scope.names []) qual func code none builtins).kindOf x = some .local := hx
  refine wpAny_bind (bind_one (env := newEnv scope s.heap.objs.size globals (cellsFrom (s.heap.objs.size + 1) scope.names []) qual func code none builtins) _ (fun _ _ _ => rfl) hk hl X0 fun s' X hp => wpAny_pure (hQ _ rfl s' ?_ hp))
  unfold bindL bindC bindL bindC
  rw [if_pos hl, if_pos hl]
  exact X

theorem call_cells_one {prog : Program} {w : World} {A : Around} {s : Shared} {R : Result → Shared → Prop} {a : Addr} {o : Obj} {fd : FuncData} {body : List PySem.Stmt} {vals : List Value} {x : Str} {v : Value}
    (hroom : A.depth < recursionLimit) (ho : s.heap.get? a = some o) (hdata : o.data = .func fd) (hlim : s.heap.NoLimit) (hcd : s.heap.CodeRec fd.code fd.qualname)
    (hbody : fd.body = .stmts body) (hbind : bindArgs fd ⟨vals, []⟩ = pure [(x, v)]) (hclo : fd.closure = []) (hx : fd.scope.names.lookup x = some .local)
    (h : ∀ s₁, InCallC s (callEnvC fd s.heap.objs.size a).locals (bindL (callEnvC fd s.heap.objs.size a).kindOf [(x, v)] fun _ => none) (callEnvC fd s.heap.objs.size a).cells
        (bindC (callEnvC fd s.heap.objs.size a).kindOf [(x, v)] fun _ => none) s₁ → 0 < s₁.toks →
      wpAny (model prog w) (A.deeper (callEnvC fd s.heap.objs.size a)) (execs body (callEnvC fd s.heap.objs.size a)) (fun f s' => R (.ok (.ret (match f with | .ret v => v | _ => .none))) s')
        (fun e s' => wpAny (model prog w) (A.deeper (callEnvC fd s.heap.objs.size a)) (leaving (callEnvC fd s.heap.objs.size a) e) (fun _ s'' => R (.error e) s'') (fun e' s'' => R (.error e') s'') s') s₁)
    (hco : fd.scope.isCoroutine = false) (hgen : fd.scope.isGenerator = false) (hk : fd.scope.kind = .function) :
    codeAny (model prog w) A (.call (.ref a) ⟨vals, []⟩) R s := by
  refine codeAny_call_function hroom ho hdata hco hgen hbody hcd ?_
  rw [hbind, hclo]
  refine wpAny_pure (newEnv_one hk hx fun env he s' x hp' => ?_)
  subst he
  exact ⟨hlim.keeps x.toInCall.keep, codeAny_func (h s' x hp')⟩

theorem fn_contract0 {c : Cx} {lvl : Nat} {C : Nat → List D → Option D} {a : Addr} {fd : FuncData} {p : Nat} {x : Str} {sts : List PySem.Stmt} {ss : List SS} (K : c.Ok) (O : OracleOk c lvl C) (f : FnOk c a fd [p] [x] sts ss) (hx : fd.scope.names.lookup x = some .local) {d₀ d : D}
    (h : callD C [p] ss [d₀] = some d) {A : Around} {s : Shared} {W : Addr → Prop} {v : Value} (R : Rm (lvl + 1) A) (hb : Keep c.hb s.heap) (L : Live s.heap W) (rv : Rep c s.heap W v d₀) :
    codeAny (model c.prog c.w) A (.call (.ref a) ⟨[v], []⟩) (fun r s' => ∃ u h' tk, r = .ok (.ret u) ∧ s' = { s with heap := h', toks := tk } ∧ Keep s.heap h' ∧ Rep c h' W u d ∧ 0 < tk) s := by
  have rs : Reps c s.heap W [v] [d₀] := .cons rv .nil
  simp only [callD, Option.bind_eq_some_iff] at h
  obtain ⟨σ₀, h1, ⟨σ', fl⟩, h2, h3⟩ := h
  cases fl with
  | ret d' =>
    simp only [Option.some.injEq] at h3; subst h3
    obtain ⟨o, ho, hdata⟩ := f.get
    refine call_cells_one (by have := R.dp; lia) (hb _ _ ho) hdata (K.lim.keeps hb) (f.code.keeps hb) f.body (f.bind [v] rfl) f.clo hx (fun s₁ X hp₁ => ?_) f.co f.gen f.kd
    have F := init_FS (X₀ := 0) (N := fun _ => False) (W₀ := W) (vs := [v]) f K.inj X rfl hb (ts := [d₀].map .frz) (σ₀ := σ₀)
        (fun j v t e1 e2 => by
          rw [List.getElem?_map, Option.map_eq_some_iff] at e2
          obtain ⟨d0, e2, rfl⟩ := e2
          obtain ⟨d1, e3, r⟩ := rs.getV e1
          rw [e2] at e3; cases e3
          exact ⟨.frz (r.mono fun a o na e => ⟨e, fun x => x.elim na id⟩), fun b q => (entAddr_frz q).elim⟩)
        (fun j j' v t v' t' _ e1 e2 e3 e4 b q => by
          rw [List.getElem?_map, Option.map_eq_some_iff] at e2
          obtain ⟨d0, e2, rfl⟩ := e2
          exact (entAddr_frz q).elim)
        L (fun _ x => x.elim) (fun _ _ => id) (fun _ x => x.elim)
        (fun j v ks xs e1 e2 => by
          rw [List.getElem?_map, Option.map_eq_some_iff] at e2
          obtain ⟨_, _, e⟩ := e2; cases e)
        (fun n t e => by
          rcases look_updAll h1 e with h' | ⟨j, d', a, b, rfl⟩
          · simp [look] at h'
          · exact ⟨j, a, by rw [List.getElem?_map, b]; rfl⟩)
    obtain ⟨Mv, nf, hnf, hcomp⟩ := f.comp
    obtain ⟨h₁, tk₁, rfl⟩ := X.toInCall.same
    refine (ssnd K O Mv nf hnf).2 _ _ _ σ₀ σ' (.ret d') _ 0 W _ _ _ _ _ hcomp h2 F R.deep hp₁ ?_
    intro v h' tk bm r hp'
    refine ⟨v, h', tk, rfl, rfl, fun b o e => bm b o (fun x => ?_) (X.toInCall.keep b o e), r, hp'⟩
    rcases x with x | x
    · have hge : s.heap.objs.size ≤ b := by
        rcases x with rfl | ⟨y, ⟨_, rfl⟩ | ⟨_, e'⟩⟩
        · exact Nat.le_refl _
        · exact Nat.le_refl _
        · exact Nat.le_of_lt (X.above y b (mem_lookup e'))
      exact absurd (Nat.lt_of_lt_of_le (Heap.lt_size e) hge) (Nat.lt_irrefl _)
    · exact x
  | next => cases h3
  | brk => cases h3
end Mv
end
section
open PySem PySem.W
namespace Mv
noncomputable def nl01 : List Str := (["index", "count", "join", "split", "append", "get", "S", "T", "Whitespace", "hsv_to_rgb", "rgb_to_hsv", "rgb_to_hls", "pretty_flags", "_law_heaps", "_law_table", "_law_colours", "_law_gaps", "_law_order", "_law_column", "law", "longest_run_of_spaces", "indent_level", "not_equal_witness", "not_less_witness", "raw", "n", "nt", "norm", "is_simple",
 "self", "ws", "b", "ch", "other", "tabsize", "trailing", "il", "i", "a", "ts", "r", "g", "maxc", "minc", "sumc", "rangec", "l", "s", "rc", "gc", "bc", "h", "v", "f", "p", "q", "t", "flags", "names", "flag", "script", "heaps", "k", "table", "four", "start", "step", "many", "whim", "told", "due", "share", "level", "light", "hue", "red", "green", "blue", "rests", "near", "last", "up", "down", "order", "gaps", "tail", "size", "gap", "often", "around", "base", "spots", "one", "nannies", "both", "depth", "words", "spot", "seen", "place", "word", "at", "lead", "nanny", "far", "counts", "rows", "row", "back"] : List String).map Str.ofString
noncomputable def gl01 : List (Str × GR) := ([("Whitespace", .cls), ("hsv_to_rgb", .fn), ("rgb_to_hsv", .fn), ("rgb_to_hls", .fn), ("pretty_flags", .fn), ("_law_heaps", .fn), ("_law_table", .fn), ("_law_colours", .fn), ("_law_gaps", .fn), ("_law_order", .fn), ("_law_column", .fn),
  ("len", .bf .len), ("max", .bf .max), ("min", .bf .min), ("sum", .bf .sum), ("int", .bf .int), ("hex", .bf .hex), ("tuple", .bf .tuple), ("range", .rng), ("COMPILER_FLAG_NAMES", .flags)] : List (String × GR)).map fun x => (Str.ofString x.1, x.2)
noncomputable def ms0 : List Str := (["longest_run_of_spaces", "indent_level", "not_equal_witness", "not_less_witness"] : List String).map Str.ofString
noncomputable def at0 : List Str := (["raw", "n", "nt", "norm", "is_simple"] : List String).map Str.ofString
noncomputable def tb01 : Tb := ⟨nl01, ms0, at0, gl01⟩
end Mv
end
section
open PySem PySem.W
namespace Mv
noncomputable def p1_rgb_to_hls : List Nat := [40, 41, 31]
noncomputable def m1_rgb_to_hls : List Nat := []
noncomputable def s1_rgb_to_hls : List SS := [(.asg 42 (.bf .max [(.var 40), (.var 41), (.var 31)])), (.asg 43 (.bf .min [(.var 40), (.var 41), (.var 31)])), (.asg 44 (.bin .add (.var 42) (.var 43))), (.asg 45 (.bin .sub (.var 42) (.var 43))), (.asg 46 (.bin .div (.var 44) (.lit (.flt 4611686018427387904)))), (.ite (.cmp .eq (.var 43) (.var 42)) [(.ret (.tup [(.lit (.flt 0)), (.var 46), (.lit (.flt 0))]))] []), (.ite (.cmp .le (.var 46) (.lit (.flt 4602678819172646912))) [(.asg 47 (.bin .div (.var 45) (.var 44)))] [(.asg 47 (.bin .div (.var 45) (.bin .sub (.bin .sub (.lit (.flt 4611686018427387904)) (.var 42)) (.var 43))))]), (.asg 48 (.bin .div (.bin .sub (.var 42) (.var 40)) (.var 45))), (.asg 49 (.bin .div (.bin .sub (.var 42) (.var 41)) (.var 45))), (.asg 50 (.bin .div (.bin .sub (.var 42) (.var 31)) (.var 45))), (.ite (.cmp .eq (.var 40) (.var 42)) [(.asg 51 (.bin .sub (.var 50) (.var 49)))] [(.ite (.cmp .eq (.var 41) (.var 42)) [(.asg 51 (.bin .sub (.bin .add (.lit (.flt 4611686018427387904)) (.var 48)) (.var 50)))] [(.asg 51 (.bin .sub (.bin .add (.lit (.flt 4616189618054758400)) (.var 49)) (.var 48)))])]), (.asg 51 (.bin .mod (.bin .div (.var 51) (.lit (.flt 4618441417868443648))) (.lit (.flt 4607182418800017408)))), (.ret (.tup [(.var 51), (.var 46), (.var 47)]))]
noncomputable def p1_rgb_to_hsv : List Nat := [40, 41, 31]
noncomputable def m1_rgb_to_hsv : List Nat := []
noncomputable def s1_rgb_to_hsv : List SS := [(.asg 42 (.bf .max [(.var 40), (.var 41), (.var 31)])), (.asg 43 (.bf .min [(.var 40), (.var 41), (.var 31)])), (.asg 45 (.bin .sub (.var 42) (.var 43))), (.asg 52 (.var 42)), (.ite (.cmp .eq (.var 43) (.var 42)) [(.ret (.tup [(.lit (.flt 0)), (.lit (.flt 0)), (.var 52)]))] []), (.asg 47 (.bin .div (.var 45) (.var 42))), (.asg 48 (.bin .div (.bin .sub (.var 42) (.var 40)) (.var 45))), (.asg 49 (.bin .div (.bin .sub (.var 42) (.var 41)) (.var 45))), (.asg 50 (.bin .div (.bin .sub (.var 42) (.var 31)) (.var 45))), (.ite (.cmp .eq (.var 40) (.var 42)) [(.asg 51 (.bin .sub (.var 50) (.var 49)))] [(.ite (.cmp .eq (.var 41) (.var 42)) [(.asg 51 (.bin .sub (.bin .add (.lit (.flt 4611686018427387904)) (.var 48)) (.var 50)))] [(.asg 51 (.bin .sub (.bin .add (.lit (.flt 4616189618054758400)) (.var 49)) (.var 48)))])]), (.asg 51 (.bin .mod (.bin .div (.var 51) (.lit (.flt 4618441417868443648))) (.lit (.flt 4607182418800017408)))), (.ret (.tup [(.var 51), (.var 47), (.var 52)]))]
noncomputable def p1_hsv_to_rgb : List Nat := [51, 47, 52]
noncomputable def m1_hsv_to_rgb : List Nat := []
noncomputable def s1_hsv_to_rgb : List SS := [(.ite (.cmp .eq (.var 47) (.lit (.flt 0))) [(.ret (.tup [(.var 52), (.var 52), (.var 52)]))] []), (.asg 37 (.bf .int [(.bin .mul (.var 51) (.lit (.flt 4618441417868443648)))])), (.asg 53 (.bin .sub (.bin .mul (.var 51) (.lit (.flt 4618441417868443648))) (.var 37))), (.asg 54 (.bin .mul (.var 52) (.bin .sub (.lit (.flt 4607182418800017408)) (.var 47)))), (.asg 55 (.bin .mul (.var 52) (.bin .sub (.lit (.flt 4607182418800017408)) (.bin .mul (.var 47) (.var 53))))), (.asg 56 (.bin .mul (.var 52) (.bin .sub (.lit (.flt 4607182418800017408)) (.bin .mul (.var 47) (.bin .sub (.lit (.flt 4607182418800017408)) (.var 53)))))), (.asg 37 (.bin .mod (.var 37) (.lit (.int 6)))), (.ite (.cmp .eq (.var 37) (.lit (.int 0))) [(.ret (.tup [(.var 52), (.var 56), (.var 54)]))] []), (.ite (.cmp .eq (.var 37) (.lit (.int 1))) [(.ret (.tup [(.var 55), (.var 52), (.var 54)]))] []), (.ite (.cmp .eq (.var 37) (.lit (.int 2))) [(.ret (.tup [(.var 54), (.var 52), (.var 56)]))] []), (.ite (.cmp .eq (.var 37) (.lit (.int 3))) [(.ret (.tup [(.var 54), (.var 55), (.var 52)]))] []), (.ite (.cmp .eq (.var 37) (.lit (.int 4))) [(.ret (.tup [(.var 56), (.var 54), (.var 52)]))] []), (.ite (.cmp .eq (.var 37) (.lit (.int 5))) [(.ret (.tup [(.var 52), (.var 54), (.var 55)]))] [])]
noncomputable def p1_pretty_flags : List Nat := [57]
noncomputable def m1_pretty_flags : List Nat := [58]
noncomputable def s1_pretty_flags : List SS := [(.new 58 (.lst [])), (.for_ [37] (.rng [(.lit (.int 32))]) [(.asg 59 (.bin .shl (.lit (.int 1)) (.var 37))), (.ite (.bin .and (.var 57) (.var 59)) [(.app 58 (.getFlag (.var 59) (.bf .hex [(.var 59)]))), (.aug 57 .xor (.var 59)), (.ite (.not (.var 57)) [.brk] [])] [])] [(.app 58 (.bf .hex [(.var 57)]))]), (.ret (.meth (.lit (.str [44, 32])) 2 [(.var 58)]))]
noncomputable def p1_init : List Nat := [29, 30]
noncomputable def m1_init : List Nat := [1]
noncomputable def s1_init : List SS := [(.setA 29 24 (.var 30)), (.asgT [6, 7] (.tup [(.cat 6), (.cat 7)])), (.new 1 (.lst [])), (.asgs [31, 25, 26] (.lit (.int 0))), (.for_ [32] (.attr (.bvar 29) 24) [(.ite (.cmp .eq (.var 32) (.var 6)) [(.asg 25 (.bin .add (.var 25) (.lit (.int 1)))), (.asg 31 (.bin .add (.var 31) (.lit (.int 1))))] [(.ite (.cmp .eq (.var 32) (.var 7)) [(.asg 25 (.bin .add (.var 25) (.lit (.int 1)))), (.asg 26 (.bin .add (.var 26) (.lit (.int 1)))), (.ite (.cmp .ge (.var 31) (.bf .len [(.bvar 1)])) [(.frz [1]), (.new 1 (.bin .add (.var 1) (.bin .mul (.lst [(.lit (.int 0))]) (.bin .add (.bin .sub (.var 31) (.bf .len [(.bvar 1)])) (.lit (.int 1))))))] []), (.setI 1 (.var 31) (.bin .add (.idx (.bvar 1) (.var 31)) (.lit (.int 1)))), (.asg 31 (.lit (.int 0)))] [.brk])])] []), (.setA 29 25 (.var 25)), (.setA 29 26 (.var 26)), (.frz [1]), (.setA 29 27 (.tup [(.bf .tuple [(.var 1)]), (.var 31)])), (.setA 29 28 (.cmp .le (.bf .len [(.bvar 1)]) (.lit (.int 1))))]
noncomputable def p1_longest_run_of_spaces : List Nat := [29]
noncomputable def m1_longest_run_of_spaces : List Nat := []
noncomputable def s1_longest_run_of_spaces : List SS := [(.asgT [1, 35] (.attr (.bvar 29) 27)), (.ret (.bf .max [(.bin .sub (.bf .len [(.bvar 1)]) (.lit (.int 1))), (.var 35)]))]
noncomputable def p1_indent_level : List Nat := [29, 34]
noncomputable def m1_indent_level : List Nat := []
noncomputable def s1_indent_level : List SS := [(.asgT [1, 35] (.attr (.bvar 29) 27)), (.asg 36 (.lit (.int 0))), (.for_ [37] (.rng [(.var 34), (.bf .len [(.bvar 1)])]) [(.asg 36 (.bin .add (.var 36) (.bin .mul (.bin .fdiv (.var 37) (.var 34)) (.idx (.bvar 1) (.var 37)))))] []), (.ret (.bin .add (.var 35) (.bin .mul (.var 34) (.bin .add (.var 36) (.attr (.bvar 29) 26)))))]
noncomputable def p1_not_equal_witness : List Nat := [29, 33]
noncomputable def m1_not_equal_witness : List Nat := [38]
noncomputable def s1_not_equal_witness : List SS := [(.asg 25 (.bin .add (.bf .max [(.umeth (.var 29) 20 []), (.umeth (.var 33) 20 [])]) (.lit (.int 1)))), (.new 38 (.lst [])), (.for_ [39] (.rng [(.lit (.int 1)), (.bin .add (.var 25) (.lit (.int 1)))]) [(.ite (.cmp .ne (.umeth (.var 29) 21 [(.var 39)]) (.umeth (.var 33) 21 [(.var 39)])) [(.app 38 (.tup [(.var 39), (.umeth (.var 29) 21 [(.var 39)]), (.umeth (.var 33) 21 [(.var 39)])]))] [])] []), (.ret (.var 38))]
noncomputable def p1_not_less_witness : List Nat := [29, 33]
noncomputable def m1_not_less_witness : List Nat := [38]
noncomputable def s1_not_less_witness : List SS := [(.asg 25 (.bin .add (.bf .max [(.umeth (.var 29) 20 []), (.umeth (.var 33) 20 [])]) (.lit (.int 1)))), (.new 38 (.lst [])), (.for_ [39] (.rng [(.lit (.int 1)), (.bin .add (.var 25) (.lit (.int 1)))]) [(.ite (.cmp .ge (.umeth (.var 29) 21 [(.var 39)]) (.umeth (.var 33) 21 [(.var 39)])) [(.app 38 (.tup [(.var 39), (.umeth (.var 29) 21 [(.var 39)]), (.umeth (.var 33) 21 [(.var 39)])]))] [])] []), (.ret (.var 38))]
noncomputable def p1_law_heaps : List Nat := [60]
noncomputable def m1_law_heaps : List Nat := [61]
noncomputable def s1_law_heaps : List SS := [(.new 61 (.lst [(.lit (.int 4)), (.lit (.int 5)), (.lit (.int 323)), (.lit (.int 31))])), (.for_ [62] (.rng [(.bf .len [(.bvar 60)])]) [(.augI 61 (.bin .mod (.var 62) (.lit (.int 4))) .add (.idx (.bvar 60) (.var 62)))] []), (.ret (.var 61))]
noncomputable def p1_law_table : List Nat := []
noncomputable def m1_law_table : List Nat := [63]
noncomputable def s1_law_table : List SS := [(.asg 58 (.lst [(.lit (.str [79, 80, 84, 73, 77, 73, 90, 69, 68])), (.lit (.str [78, 69, 87, 76, 79, 67, 65, 76, 83])), (.lit (.str [86, 65, 82, 65, 82, 71, 83])), (.lit (.str [86, 65, 82, 75, 69, 89, 87, 79, 82, 68, 83])), (.lit (.str [78, 69, 83, 84, 69, 68])), (.lit (.str [71, 69, 78, 69, 82, 65, 84, 79, 82])), (.lit (.str [78, 79, 70, 82, 69, 69])), (.lit (.str [67, 79, 82, 79, 85, 84, 73, 78, 69])), (.lit (.str [73, 84, 69, 82, 65, 66, 76, 69, 95, 67, 79, 82, 79, 85, 84, 73, 78, 69])), (.lit (.str [65, 83, 89, 78, 67, 95, 71, 69, 78, 69, 82, 65, 84, 79, 82]))])), (.asg 58 (.bin .add (.var 58) (.comp (.bin .add (.bin .add (.lit (.str [48, 120])) (.idx (.lit (.str [49, 50, 52, 56])) (.bin .mod (.var 62) (.lit (.int 4))))) (.bin .mul (.lit (.str [48])) (.bin .fdiv (.var 62) (.lit (.int 4))))) [62] (.rng [(.lit (.int 10)), (.lit (.int 32))]) []))), (.new 63 (.dcomp (.idx (.bvar 58) (.var 62)) (.lst [(.var 62)]) 62 (.rng [(.lit (.int 32))]))), (.for_ [64] (.rng [(.lit (.int 1)), (.lit (.int 16))]) [(.setI 63 (.bin .add (.bin .add (.lit (.str [48, 120])) (.idx (.lit (.str [48, 49, 50, 51, 52, 53, 54, 55, 56, 57, 97, 98, 99, 100, 101, 102])) (.var 64))) (.bin .mul (.lit (.str [48])) (.lit (.int 8)))) (.comp (.bin .add (.lit (.int 32)) (.var 62)) [62] (.rng [(.lit (.int 4))]) [(.cmp .eq (.bin .mod (.bin .fdiv (.var 64) (.bin .pow (.lit (.int 2)) (.var 62))) (.lit (.int 2))) (.lit (.int 1)))]))] []), (.ret (.var 63))]
noncomputable def p1_law_colours : List Nat := [65, 66, 67, 68]
noncomputable def m1_law_colours : List Nat := [69, 70]
noncomputable def s1_law_colours : List SS := [(.new 69 (.lst [])), (.new 70 (.lst [])), (.for_ [62] (.rng [(.var 67)]) [(.asg 71 (.bin .add (.lit (.int 1)) (.bin .mod (.bin .add (.var 68) (.var 62)) (.lit (.int 4))))), (.asg 72 (.bin .add (.lit (.int 1)) (.bin .mod (.bin .add (.bin .fdiv (.var 68) (.lit (.int 4))) (.bin .fdiv (.var 62) (.lit (.int 2)))) (.lit (.int 4))))), (.asg 73 (.bin .mul (.var 72) (.bin .sub (.lit (.int 8)) (.var 71)))), (.asg 74 (.bin .div (.bin .mod (.bin .add (.var 65) (.bin .mul (.var 62) (.var 66))) (.lit (.int 16))) (.lit (.int 16)))), (.asgT [75, 76, 77] (.call 9 [(.bin .div (.bin .add (.var 65) (.bin .mul (.var 62) (.var 66))) (.lit (.int 16))), (.bin .div (.var 71) (.lit (.int 4))), (.bin .div (.var 72) (.lit (.int 4)))])), (.ite (.cmp .eq (.bin .mod (.var 62) (.lit (.int 2))) (.lit (.int 0))) [(.app 69 (.call 10 [(.var 75), (.var 76), (.var 77)])), (.app 70 (.tup [(.var 74), (.bin .div (.var 71) (.lit (.int 4))), (.bin .div (.var 72) (.lit (.int 4)))]))] [(.app 69 (.call 11 [(.var 75), (.var 76), (.var 77)])), (.app 70 (.tup [(.var 74), (.bin .div (.var 73) (.lit (.int 32))), (.bin .div (.bin .mul (.var 71) (.var 72)) (.bf .min [(.var 73), (.bin .sub (.lit (.int 32)) (.var 73))]))]))])] []), (.ret (.tup [(.var 69), (.var 70)]))]
noncomputable def p1_law_gaps : List Nat := [66, 67]
noncomputable def m1_law_gaps : List Nat := []
noncomputable def s1_law_gaps : List SS := [(.asg 78 (.comp (.bin .mod (.bin .mul (.var 62) (.var 66)) (.lit (.int 16))) [62] (.rng [(.lit (.int 1)), (.var 67)]) [])), (.asg 79 (.bf .min [(.var 78)])), (.asg 80 (.bin .sub (.lit (.int 16)) (.bf .max [(.var 78)]))), (.asg 81 (.bin .add (.lit (.int 1)) (.meth (.var 78) 0 [(.var 79)]))), (.asg 82 (.bin .add (.lit (.int 1)) (.meth (.var 78) 0 [(.bin .sub (.lit (.int 16)) (.var 80))]))), (.ret (.tup [(.lst [(.tup [(.var 79), (.bin .sub (.var 67) (.var 81))]), (.tup [(.var 80), (.bin .sub (.var 67) (.var 82))]), (.tup [(.bin .add (.var 79) (.var 80)), (.bin .sub (.bin .add (.var 81) (.var 82)) (.var 67))])]), (.var 81), (.var 82)]))]
noncomputable def p1_law_order : List Nat := [81, 82, 67]
noncomputable def m1_law_order : List Nat := [83]
noncomputable def s1_law_order : List SS := [(.new 83 (.lst [(.lit (.int 0))])), (.while_ (.cmp .lt (.bf .len [(.bvar 83)]) (.var 67)) [(.asg 62 (.idx (.bvar 83) (.neg (.lit (.int 1))))), (.ite (.cmp .lt (.var 62) (.bin .sub (.var 67) (.var 81))) [(.app 83 (.bin .add (.var 62) (.var 81)))] [(.ite (.cmp .lt (.var 62) (.var 82)) [(.app 83 (.bin .sub (.bin .add (.var 62) (.var 81)) (.var 82)))] [(.app 83 (.bin .sub (.var 62) (.var 82)))])])]), (.ret (.var 83))]
noncomputable def p1_law_column : List Nat := [84, 85, 86]
noncomputable def m1_law_column : List Nat := []
noncomputable def s1_law_column : List SS := [(.ret (.bin .add (.var 85) (.bin .mul (.var 86) (.bf .sum [(.comp (.bin .mul (.var 88) (.bin .add (.bin .fdiv (.var 87) (.var 86)) (.lit (.int 1)))) [87, 88] (.var 84) [])]))))]
noncomputable def p1_law : List Nat := [60]
noncomputable def m1_law : List Nat := [93, 94]
noncomputable def s1_law : List SS := [(.asg 61 (.call 13 [(.var 60)])), (.asg 66 (.idx (.lst [(.lit (.int 1)), (.lit (.int 2)), (.lit (.int 3)), (.lit (.int 4)), (.lit (.int 5)), (.lit (.int 6)), (.lit (.int 7)), (.lit (.int 9)), (.lit (.int 10)), (.lit (.int 11)), (.lit (.int 12)), (.lit (.int 13)), (.lit (.int 14)), (.lit (.int 15))]) (.bin .mod (.idx (.bvar 61) (.lit (.int 0))) (.lit (.int 14))))), (.asg 89 (.idx (.comp (.var 62) [62] (.rng [(.lit (.int 1)), (.lit (.int 17))]) [(.cmp .eq (.bin .mod (.bin .mul (.var 62) (.var 66)) (.lit (.int 16))) (.lit (.int 0)))]) (.lit (.int 0)))), (.asg 67 (.bin .add (.lit (.int 2)) (.bin .mod (.idx (.bvar 61) (.lit (.int 1))) (.bin .sub (.var 89) (.lit (.int 2)))))), (.asg 90 (.bin .mod (.bin .fdiv (.idx (.bvar 61) (.lit (.int 2))) (.lit (.int 16))) (.lit (.int 21)))), (.asg 85 (.bin .mod (.idx (.bvar 61) (.lit (.int 3))) (.lit (.int 3)))), (.asgT [69, 70] (.call 15 [(.bin .mod (.idx (.bvar 61) (.lit (.int 2))) (.lit (.int 16))), (.var 66), (.bin .add (.var 67) (.lit (.int 1))), (.bin .fdiv (.idx (.bvar 61) (.lit (.int 3))) (.lit (.int 3)))])), (.ite (.cmp .ne (.var 69) (.var 70)) [(.ret (.lit (.bool false)))] []), (.asg 91 (.comp (.bf .int [(.bin .mul (.idx (.bvar 92) (.lit (.int 0))) (.lit (.int 16)))]) [92] (.var 69) [])), (.asg 63 (.call 14 [])), (.new 93 (.lst [])), (.new 94 (.lst [])), (.asg 95 (.var 85)), (.for_ [1] (.tup [(.var 67), (.bin .add (.var 67) (.lit (.int 1)))]) [(.asgT [84, 81, 82] (.call 16 [(.var 66), (.var 1)])), (.asg 96 (.meth (.call 12 [(.bf .sum [(.comp (.bin .pow (.lit (.int 2)) (.bin .add (.var 90) (.var 97))) [97] (.upto (.var 91) (.var 1)) [])])]) 3 [(.lit (.str [44, 32]))])), (.asg 98 (.comp2 (.bin .sub (.var 99) (.var 90)) 100 (.var 96) 99 (.idx (.bvar 63) (.var 100)))), (.ite (.or (.cmp .ne (.idx (.bvar 98) (.lit (.int 0))) (.bf .min [(.var 98)])) (.cmp .gt (.bf .len [(.comp (.var 100) [100] (.var 96) [(.cmp .gt (.idx (.idx (.bvar 63) (.var 100)) (.lit (.int 0))) (.lit (.int 31)))])]) (.lit (.int 1)))) [(.ret (.lit (.bool false)))] []), (.asg 101 (.meth (.var 98) 0 [(.idx (.bvar 91) (.lit (.int 0)))])), (.ite (.cmp .ne (.bin .add (.from_ (.var 98) (.var 101)) (.upto (.var 98) (.var 101))) (.comp (.idx (.bvar 91) (.var 62)) [62] (.call 17 [(.var 81), (.var 82), (.var 1)]) [])) [(.ret (.lit (.bool false)))] []), (.asg 102 (.meth (.lit (.str [])) 2 [(.comp (.bin .add (.bin .mul (.lit (.str [32])) (.bin .mod (.bin .sub (.idx (.bvar 98) (.var 62)) (.idx (.bvar 98) (.bin .sub (.var 62) (.lit (.int 1))))) (.lit (.int 16)))) (.lit (.str [9]))) [62] (.rng [(.var 1)]) [])])), (.asg 103 (.call 8 [(.bin .add (.bin .add (.var 102) (.bin .mul (.lit (.str [32])) (.var 85))) (.lit (.str [120, 9])))])), (.asg 104 (.bf .max [(.comp (.var 87) [87, 88] (.var 84) [(.cmp .gt (.var 88) (.lit (.int 0)))])])), (.asg 105 (.comp (.bf .sum [(.comp (.var 88) [87, 88] (.var 84) [(.cmp .eq (.var 87) (.var 86))])]) [86] (.rng [(.bin .add (.var 104) (.lit (.int 1)))]) [])), (.ite (.cmp .ne (.lst [(.attr (.bvar 103) 27), (.attr (.bvar 103) 25), (.attr (.bvar 103) 26)]) (.lst [(.tup [(.bf .tuple [(.var 105)]), (.var 85)]), (.bin .add (.bin .add (.lit (.int 16)) (.var 1)) (.var 85)), (.var 1)])) [(.ret (.lit (.bool false)))] []), (.ite (.cmp .ne (.umeth (.var 103) 20 []) (.bf .max [(.var 104), (.var 85)])) [(.ret (.lit (.bool false)))] []), (.asg 95 (.bf .max [(.var 95), (.var 104)])), (.app 93 (.var 103)), (.app 94 (.var 84))] []), (.asg 106 (.comp (.tup [(.var 86), (.call 18 [(.idx (.bvar 94) (.lit (.int 0))), (.var 85), (.var 86)]), (.call 18 [(.idx (.bvar 94) (.lit (.int 1))), (.var 85), (.var 86)])]) [86] (.rng [(.lit (.int 1)), (.bin .add (.var 95) (.lit (.int 2)))]) [])), (.asg 108 (.comp (.tup [(.idx (.bvar 107) (.lit (.int 0))), (.idx (.bvar 107) (.lit (.int 2))), (.idx (.bvar 107) (.lit (.int 1)))]) [107] (.var 106) [])), (.ite (.cmp .ne (.umeth (.idx (.bvar 93) (.lit (.int 0))) 22 [(.idx (.bvar 93) (.lit (.int 1)))]) (.comp (.var 107) [107] (.var 106) [(.cmp .ne (.idx (.bvar 107) (.lit (.int 1))) (.idx (.bvar 107) (.lit (.int 2))))])) [(.ret (.lit (.bool false)))] []), (.ite (.cmp .ne (.umeth (.idx (.bvar 93) (.lit (.int 1))) 22 [(.idx (.bvar 93) (.lit (.int 0)))]) (.comp (.var 107) [107] (.var 108) [(.cmp .ne (.idx (.bvar 107) (.lit (.int 1))) (.idx (.bvar 107) (.lit (.int 2))))])) [(.ret (.lit (.bool false)))] []), (.ite (.cmp .ne (.umeth (.idx (.bvar 93) (.lit (.int 0))) 23 [(.idx (.bvar 93) (.lit (.int 1)))]) (.comp (.var 107) [107] (.var 106) [(.cmp .ge (.idx (.bvar 107) (.lit (.int 1))) (.idx (.bvar 107) (.lit (.int 2))))])) [(.ret (.lit (.bool false)))] []), (.ret (.cmp .eq (.umeth (.idx (.bvar 93) (.lit (.int 1))) 23 [(.idx (.bvar 93) (.lit (.int 0)))]) (.var 108)))]
end Mv
end
section
open PySem PySem.W PyProof.Rows
set_option Elab.async false
namespace Mv
noncomputable abbrev K1 (P : PySem.Params) : Frag := Kn1.K P
noncomputable def ids01 : Ids := ⟨112, 43, [(8, 112), (9, 42), (10, 35), (11, 28), (12, 50), (13, 123), (14, 128), (15, 135), (16, 140), (17, 147), (18, 152), (19, 157), (20, 74), (21, 81), (22, 95), (23, 109)]⟩
theorem chk01 (P : PySem.Params) : chkAll (K1 P) tb01 ids01 = true := by kernel_rfl
theorem flg01 (P : PySem.Params) : chkFlags (K1 P) 43 = true := by kernel_rfl
theorem cat01 (P : PySem.Params) : chkCat (K1 P) 112 (.type "type") = true := by kernel_rfl
theorem mk01 (P : PySem.Params) : makesIn (K1 P) 112 = true := by kernel_rfl
theorem fi01 (P : PySem.Params) : findIn (K1 P) (.ref 112) "__init__" = some (some (.ref 67)) := by kernel_rfl
theorem ti01 (P : PySem.Params) : typeIn (K1 P) (.ref 67) = some (.type "function") := by kernel_rfl
theorem nd01 : tb01.nl.Nodup := nodupB_eq (by kernel_rfl)
theorem all0 {P : List Value → Prop} (h : P []) (vals : List Value) (hl : vals.length = 0) : P vals := List.eq_nil_of_length_eq_zero hl ▸ h
theorem allS {P : List Value → Prop} {n : Nat} (h : ∀ a, ∀ vals : List Value, vals.length = n → P (a :: vals)) (vals : List Value) (hl : vals.length = n + 1) : P vals := by
  cases vals with
  | nil => exact absurd hl (Nat.succ_ne_zero n).symm
  | cons a r => exact h a r (Nat.succ.inj hl)
theorem all1 {P : List Value → Prop} (h : ∀ a, P [a]) : ∀ (vals : List Value), vals.length = 1 → P vals := allS fun a => all0 (h a)
theorem all2 {P : List Value → Prop} (h : ∀ a b, P [a, b]) : ∀ (vals : List Value), vals.length = 2 → P vals := allS fun a => all1 (P := fun r => P (a :: r)) (h a)
theorem all3 {P : List Value → Prop} (h : ∀ a b c, P [a, b, c]) : ∀ (vals : List Value), vals.length = 3 → P vals := allS fun a => all2 (P := fun r => P (a :: r)) (h a)
theorem all4 {P : List Value → Prop} (h : ∀ a b c d, P [a, b, c, d]) : ∀ (vals : List Value), vals.length = 4 → P vals := allS fun a => all3 (P := fun r => P (a :: r)) (h a)
theorem f1_init {prog : Program} {w : World} {I : Ids} {h : Heap} {mg mb : Str → Option Value} (P : PySem.Params) (X : (K1 P).In h) : FnOk (cxOf prog w tb01 I h mg mb) 67 (fdOf (K1 P) 67) p1_init (argsOf (fdOf (K1 P) 67)) (stsOf (fdOf (K1 P) 67)) s1_init :=
  fnOk_of m1_init 60 (by decide) X (by kernel_rfl) (by kernel_rfl) (all2 fun a0 a1 => by kernel_rfl)
theorem f1_hsv_to_rgb {prog : Program} {w : World} {I : Ids} {h : Heap} {mg mb : Str → Option Value} (P : PySem.Params) (X : (K1 P).In h) : FnOk (cxOf prog w tb01 I h mg mb) 42 (fdOf (K1 P) 42) p1_hsv_to_rgb (argsOf (fdOf (K1 P) 42)) (stsOf (fdOf (K1 P) 42)) s1_hsv_to_rgb :=
  fnOk_of m1_hsv_to_rgb 60 (by decide) X (by kernel_rfl) (by kernel_rfl) (all3 fun a0 a1 a2 => by kernel_rfl)
theorem f1_rgb_to_hsv {prog : Program} {w : World} {I : Ids} {h : Heap} {mg mb : Str → Option Value} (P : PySem.Params) (X : (K1 P).In h) : FnOk (cxOf prog w tb01 I h mg mb) 35 (fdOf (K1 P) 35) p1_rgb_to_hsv (argsOf (fdOf (K1 P) 35)) (stsOf (fdOf (K1 P) 35)) s1_rgb_to_hsv :=
  fnOk_of m1_rgb_to_hsv 60 (by decide) X (by kernel_rfl) (by kernel_rfl) (all3 fun a0 a1 a2 => by kernel_rfl)
theorem f1_rgb_to_hls {prog : Program} {w : World} {I : Ids} {h : Heap} {mg mb : Str → Option Value} (P : PySem.Params) (X : (K1 P).In h) : FnOk (cxOf prog w tb01 I h mg mb) 28 (fdOf (K1 P) 28) p1_rgb_to_hls (argsOf (fdOf (K1 P) 28)) (stsOf (fdOf (K1 P) 28)) s1_rgb_to_hls :=
  fnOk_of m1_rgb_to_hls 60 (by decide) X (by kernel_rfl) (by kernel_rfl) (all3 fun a0 a1 a2 => by kernel_rfl)
theorem f1_pretty_flags {prog : Program} {w : World} {I : Ids} {h : Heap} {mg mb : Str → Option Value} (P : PySem.Params) (X : (K1 P).In h) : FnOk (cxOf prog w tb01 I h mg mb) 50 (fdOf (K1 P) 50) p1_pretty_flags (argsOf (fdOf (K1 P) 50)) (stsOf (fdOf (K1 P) 50)) s1_pretty_flags :=
  fnOk_of m1_pretty_flags 60 (by decide) X (by kernel_rfl) (by kernel_rfl) (all1 fun a0 => by kernel_rfl)
theorem f1_law_heaps {prog : Program} {w : World} {I : Ids} {h : Heap} {mg mb : Str → Option Value} (P : PySem.Params) (X : (K1 P).In h) : FnOk (cxOf prog w tb01 I h mg mb) 123 (fdOf (K1 P) 123) p1_law_heaps (argsOf (fdOf (K1 P) 123)) (stsOf (fdOf (K1 P) 123)) s1_law_heaps :=
  fnOk_of m1_law_heaps 60 (by decide) X (by kernel_rfl) (by kernel_rfl) (all1 fun a0 => by kernel_rfl)
theorem f1_law_table {prog : Program} {w : World} {I : Ids} {h : Heap} {mg mb : Str → Option Value} (P : PySem.Params) (X : (K1 P).In h) : FnOk (cxOf prog w tb01 I h mg mb) 128 (fdOf (K1 P) 128) p1_law_table (argsOf (fdOf (K1 P) 128)) (stsOf (fdOf (K1 P) 128)) s1_law_table :=
  fnOk_of m1_law_table 60 (by decide) X (by kernel_rfl) (by kernel_rfl) (all0 (by kernel_rfl))
theorem f1_law_colours {prog : Program} {w : World} {I : Ids} {h : Heap} {mg mb : Str → Option Value} (P : PySem.Params) (X : (K1 P).In h) : FnOk (cxOf prog w tb01 I h mg mb) 135 (fdOf (K1 P) 135) p1_law_colours (argsOf (fdOf (K1 P) 135)) (stsOf (fdOf (K1 P) 135)) s1_law_colours :=
  fnOk_of m1_law_colours 60 (by decide) X (by kernel_rfl) (by kernel_rfl) (all4 fun a0 a1 a2 a3 => by kernel_rfl)
theorem f1_law_gaps {prog : Program} {w : World} {I : Ids} {h : Heap} {mg mb : Str → Option Value} (P : PySem.Params) (X : (K1 P).In h) : FnOk (cxOf prog w tb01 I h mg mb) 140 (fdOf (K1 P) 140) p1_law_gaps (argsOf (fdOf (K1 P) 140)) (stsOf (fdOf (K1 P) 140)) s1_law_gaps :=
  fnOk_of m1_law_gaps 60 (by decide) X (by kernel_rfl) (by kernel_rfl) (all2 fun a0 a1 => by kernel_rfl)
theorem f1_law_order {prog : Program} {w : World} {I : Ids} {h : Heap} {mg mb : Str → Option Value} (P : PySem.Params) (X : (K1 P).In h) : FnOk (cxOf prog w tb01 I h mg mb) 147 (fdOf (K1 P) 147) p1_law_order (argsOf (fdOf (K1 P) 147)) (stsOf (fdOf (K1 P) 147)) s1_law_order :=
  fnOk_of m1_law_order 60 (by decide) X (by kernel_rfl) (by kernel_rfl) (all3 fun a0 a1 a2 => by kernel_rfl)
theorem f1_law_column {prog : Program} {w : World} {I : Ids} {h : Heap} {mg mb : Str → Option Value} (P : PySem.Params) (X : (K1 P).In h) : FnOk (cxOf prog w tb01 I h mg mb) 152 (fdOf (K1 P) 152) p1_law_column (argsOf (fdOf (K1 P) 152)) (stsOf (fdOf (K1 P) 152)) s1_law_column :=
  fnOk_of m1_law_column 60 (by decide) X (by kernel_rfl) (by kernel_rfl) (all3 fun a0 a1 a2 => by kernel_rfl)
theorem f1_law {prog : Program} {w : World} {I : Ids} {h : Heap} {mg mb : Str → Option Value} (P : PySem.Params) (X : (K1 P).In h) : FnOk (cxOf prog w tb01 I h mg mb) 157 (fdOf (K1 P) 157) p1_law (argsOf (fdOf (K1 P) 157)) (stsOf (fdOf (K1 P) 157)) s1_law :=
  fnOk_of m1_law 60 (by decide) X (by kernel_rfl) (by kernel_rfl) (all1 fun a0 => by kernel_rfl)
theorem f1_longest_run_of_spaces {prog : Program} {w : World} {I : Ids} {h : Heap} {mg mb : Str → Option Value} (P : PySem.Params) (X : (K1 P).In h) : FnOk (cxOf prog w tb01 I h mg mb) 74 (fdOf (K1 P) 74) p1_longest_run_of_spaces (argsOf (fdOf (K1 P) 74)) (stsOf (fdOf (K1 P) 74)) s1_longest_run_of_spaces :=
  fnOk_of m1_longest_run_of_spaces 60 (by decide) X (by kernel_rfl) (by kernel_rfl) (all1 fun a0 => by kernel_rfl)
theorem f1_indent_level {prog : Program} {w : World} {I : Ids} {h : Heap} {mg mb : Str → Option Value} (P : PySem.Params) (X : (K1 P).In h) : FnOk (cxOf prog w tb01 I h mg mb) 81 (fdOf (K1 P) 81) p1_indent_level (argsOf (fdOf (K1 P) 81)) (stsOf (fdOf (K1 P) 81)) s1_indent_level :=
  fnOk_of m1_indent_level 60 (by decide) X (by kernel_rfl) (by kernel_rfl) (all2 fun a0 a1 => by kernel_rfl)
theorem f1_not_equal_witness {prog : Program} {w : World} {I : Ids} {h : Heap} {mg mb : Str → Option Value} (P : PySem.Params) (X : (K1 P).In h) : FnOk (cxOf prog w tb01 I h mg mb) 95 (fdOf (K1 P) 95) p1_not_equal_witness (argsOf (fdOf (K1 P) 95)) (stsOf (fdOf (K1 P) 95)) s1_not_equal_witness :=
  fnOk_of m1_not_equal_witness 60 (by decide) X (by kernel_rfl) (by kernel_rfl) (all2 fun a0 a1 => by kernel_rfl)
theorem f1_not_less_witness {prog : Program} {w : World} {I : Ids} {h : Heap} {mg mb : Str → Option Value} (P : PySem.Params) (X : (K1 P).In h) : FnOk (cxOf prog w tb01 I h mg mb) 109 (fdOf (K1 P) 109) p1_not_less_witness (argsOf (fdOf (K1 P) 109)) (stsOf (fdOf (K1 P) 109)) s1_not_less_witness :=
  fnOk_of m1_not_less_witness 60 (by decide) X (by kernel_rfl) (by kernel_rfl) (all2 fun a0 a1 => by kernel_rfl)
noncomputable def orcL (o : Nat → List D → Option D) : List (Nat × (List D → Option D)) := [
  (8, fun ds => initD o p1_init s1_init ds),
  (9, fun ds => callD o p1_hsv_to_rgb s1_hsv_to_rgb ds),
  (10, fun ds => callD o p1_rgb_to_hsv s1_rgb_to_hsv ds),
  (11, fun ds => callD o p1_rgb_to_hls s1_rgb_to_hls ds),
  (12, fun ds => callD o p1_pretty_flags s1_pretty_flags ds),
  (13, fun ds => callD o p1_law_heaps s1_law_heaps ds),
  (14, fun ds => callD o p1_law_table s1_law_table ds),
  (15, fun ds => callD o p1_law_colours s1_law_colours ds),
  (16, fun ds => callD o p1_law_gaps s1_law_gaps ds),
  (17, fun ds => callD o p1_law_order s1_law_order ds),
  (18, fun ds => callD o p1_law_column s1_law_column ds),
  (19, fun ds => callD o p1_law s1_law ds),
  (20, fun ds => callD o p1_longest_run_of_spaces s1_longest_run_of_spaces ds),
  (21, fun ds => callD o p1_indent_level s1_indent_level ds),
  (22, fun ds => callD o p1_not_equal_witness s1_not_equal_witness ds),
  (23, fun ds => callD o p1_not_less_witness s1_not_less_witness ds)]
noncomputable def orc1 : Nat → Nat → List D → Option D
  | 0, _, _ => none
  | n + 1, f, ds => ((orcL (orc1 n)).lookup f).bind fun g => g ds
theorem mem_of_lookup {α : Type} {f : Nat} {g : α} : ∀ {l : List (Nat × α)}, l.lookup f = some g → (f, g) ∈ l
  | (k, x) :: r, h => by
    rw [List.lookup_cons] at h
    cases e : f == k with
    | true =>
      rw [e] at h
      rw [eq_of_beq e, ← Option.some.inj h]
      exact List.mem_cons_self
    | false =>
      rw [e] at h
      exact List.mem_cons_of_mem _ (mem_of_lookup h)
theorem orc1_ok {prog : Program} {w : World} {h : Heap} {mg mb : Str → Option Value} (P : PySem.Params) (X : (K1 P).In h) (K : (cxOf prog w tb01 ids01 h mg mb).Ok) : ∀ n, OracleOk (cxOf prog w tb01 ids01 h mg mb) n (orc1 n)
  | 0 => fun f ds d e => nos e
  | n + 1 => fun f ds d e => by
    have O := orc1_ok P X K n
    obtain ⟨g, h1, h2⟩ := bind_inv e
    have all : ∀ p ∈ orcL (orc1 n), ∀ ds d, p.2 ds = some d → Contract (cxOf prog w tb01 ids01 h mg mb) (n + 1) ((cxOf prog w tb01 ids01 h mg mb).fa p.1) ds d := by
      refine List.forall_mem_cons.mpr ⟨fun ds d e => cls_contract (Kf := K1 P) K O (f1_init P X) X (mk01 P) (fi01 P) (ti01 P) e, ?_⟩
      refine List.forall_mem_cons.mpr ⟨fun ds d e => fn_contract K O (f1_hsv_to_rgb P X) e, ?_⟩
      refine List.forall_mem_cons.mpr ⟨fun ds d e => fn_contract K O (f1_rgb_to_hsv P X) e, ?_⟩
      refine List.forall_mem_cons.mpr ⟨fun ds d e => fn_contract K O (f1_rgb_to_hls P X) e, ?_⟩
      refine List.forall_mem_cons.mpr ⟨fun ds d e => fn_contract K O (f1_pretty_flags P X) e, ?_⟩
      refine List.forall_mem_cons.mpr ⟨fun ds d e => fn_contract K O (f1_law_heaps P X) e, ?_⟩
      refine List.forall_mem_cons.mpr ⟨fun ds d e => fn_contract K O (f1_law_table P X) e, ?_⟩
      refine List.forall_mem_cons.mpr ⟨fun ds d e => fn_contract K O (f1_law_colours P X) e, ?_⟩
      refine List.forall_mem_cons.mpr ⟨fun ds d e => fn_contract K O (f1_law_gaps P X) e, ?_⟩
      refine List.forall_mem_cons.mpr ⟨fun ds d e => fn_contract K O (f1_law_order P X) e, ?_⟩
      refine List.forall_mem_cons.mpr ⟨fun ds d e => fn_contract K O (f1_law_column P X) e, ?_⟩
      refine List.forall_mem_cons.mpr ⟨fun ds d e => fn_contract K O (f1_law P X) e, ?_⟩
      refine List.forall_mem_cons.mpr ⟨fun ds d e => fn_contract K O (f1_longest_run_of_spaces P X) e, ?_⟩
      refine List.forall_mem_cons.mpr ⟨fun ds d e => fn_contract K O (f1_indent_level P X) e, ?_⟩
      refine List.forall_mem_cons.mpr ⟨fun ds d e => fn_contract K O (f1_not_equal_witness P X) e, ?_⟩
      refine List.forall_mem_cons.mpr ⟨fun ds d e => fn_contract K O (f1_not_less_witness P X) e, ?_⟩
      exact fun _ h => absurd h List.not_mem_nil
    exact all _ (mem_of_lookup h1) ds d h2
end Mv
end
section
open PySem PySem.W PyProof.Rows
set_option Elab.async false
theorem Mv.bf_of {gl : List (Str × Mv.GR)} (h : gl.all (fun p => match p.2 with
    | .bf b => bootBuiltins p.1 == some (Mv.bfName b)
    | .rng => bootBuiltins p.1 == some (.type "range")
    | _ => true) = true) : ∀ p ∈ gl, match p.2 with
    | .bf b => bootBuiltins p.1 = some (Mv.bfName b)
    | .rng => bootBuiltins p.1 = some (.type "range")
    | _ => True := by
  intro p hp
  have := List.all_eq_true.mp h p hp
  obtain ⟨x, r⟩ := p
  cases r <;> first | trivial | exact beq_iff_eq.mp this
set_option pp.deepTerms false
set_option pp.maxSteps 1500
set_option maxRecDepth 100000 in
set_option maxHeartbeats 8000000 in
theorem Mv.fin1 (pure : ∀ ns : List Int, ns.length ≤ 63 → Mv.callD (Mv.orc1 6) Mv.p1_law Mv.s1_law [.lst (ns.map .int)] = some (.bool true)) : PySem.Challenge.rw_rw0086_01.Holds := by
  refine holds_law Mv.Kn1.said fun said => ?_
  refine holds_open (r := OpenLaw.row PySem.Challenge.rw_rw0086_01) (q := Mv.Kn1.view) (loose := Mv.Kn1.loose) (Xt := Mv.Kn1.Xt) (XP := XL Mv.Kn1.view []) (Yf := Hook.obs Mv.Kn1.hk) (Ya := Hook.val Mv.Kn1.hk) (YP := Hook.says Mv.Kn1.hk) (N := 2246) Mv.Kn1.left (Hook.of Mv.Kn1.hk) (Hook.keeps Mv.Kn1.hk) (fun s e => xl_of s (Bool.and_eq_true_iff.mp e).1) XL.keeps (by rfl) (by rfl) (by rfl) (fun s e => recFacts_of (Bool.and_eq_true_iff.mp e).2) (by rfl) said (by decide +kernel) ⟨rfl, rfl, rfl, rfl, rfl, by decide +kernel⟩ ?hw ?hc
  case hw => w_witness2
  intro w s₀ s₁ mg mb G Y fa o pm cd doc dV kV ho hd hcd hD hmg hg args vals as hpre hlay hrd hwl hlo
  have KX := kIn_of Y
  refine Ground.open G ?_
  intro T B D TE TW
  clear D TE TW B
  wrow_args hpre hlay hrd hwl hlo
  all_goals (first | refine callC_kw (enter_call ?_) | refine enter_call ?_ | refine callC_kw (enter_callW ?_) | refine enter_callW ?_)
  all_goals clear hd hcd hD
  rename_i ns hs hlay0 hLy hr1 hl2 as1 as2 l vs bs hL ra wl r0 hI hr hc1 hc2
  have hlen : ns.length ≤ 63 := by omega
  have hfa : fa = 157 := by
    have h1 : mg ("law" : Str) = some (.ref fa) := hmg
    have h2 : mg ("law" : Str) = some (.ref 157) := Mv.ns_some_of (K := Mv.K1 w.params) KX T.g (by kernel_rfl)
    rw [h1] at h2
    exact Value.ref.inj (Option.some.inj h2)
  subst hfa
  have hplain : s₁.heap.PlainList l vs.toArray := by
    cases wl with
    | list h _ =>
      obtain ⟨o', e1, _, n', e2⟩ := hL
      rw [h] at e1
      cases e1
      cases e2
      exact ⟨_, h⟩
  have S : Mv.Start PySem.Challenge.rw_rw0086_01.row.prog w (Mv.K1 w.params) Mv.tb01 Mv.ids01 s₁.heap mg mb :=
    { X := KX, g := T.g, b := T.b, lim := T.nolimit, mc := let ⟨mc, h, _⟩ := T.nodigits; ⟨mc, h⟩, boot := T.builtins, chk := Mv.chk01 w.params, inj := Mv.nd01, bf := Mv.bf_of (by kernel_rfl), cat := Mv.cat_of (Mv.cat01 w.params),
      flo := (Mv.flags_of (prog := PySem.Challenge.rw_rw0086_01.row.prog) (w := w) KX (Mv.flg01 w.params)).1, flm := (Mv.flags_of KX (Mv.flg01 w.params)).2 }
  have K := S.ok
  have reps : ∀ {vs : List Value} {ns : List Int}, IntsAre vs ns → Mv.Reps (Mv.cxOf PySem.Challenge.rw_rw0086_01.row.prog w Mv.tb01 Mv.ids01 s₁.heap mg mb) s₁.heap (fun _ => False) vs (ns.map .int) := by
    intro vs ns h
    induction h with
    | nil => exact .nil
    | cons n t h ih => exact .cons (.int _ _) ih
  refine codeAny_mono (Mv.fn_contract0 (lvl := 6) K (Mv.orc1_ok w.params KX K 6) (Mv.f1_law w.params KX) (by kernel_rfl) (pure ns hlen) ⟨rfl, by decide, by decide⟩ (Mv.Keep.refl _) (fun _ h => h.elim) (.lst id hplain (reps hI))) fun r s' h => ?_
  obtain ⟨u, h', tk, rfl, rfl, q, rv, _⟩ := h
  cases rv
  exact ⟨.inl ⟨.bool true, _, [], rfl, fun _ => rfl, .bool true, (by kernel_rfl), fun _ => ⟨List.nodup_nil, fun _ h => nomatch h⟩⟩, .of_keep q, rfl, .of_eq hg⟩
end
section
open PySem PySem.W
set_option Elab.async false
namespace Mv.Pl
theorem eII (k : Nat) (a b : Int) : D.eqv k (.int a) (.int b) = some (a == b) := by cases k <;> rfl
theorem eFF (k : Nat) (a b : UInt64) : D.eqv k (.flt a) (.flt b) = (if a == b && !Float64.isNaN a then some true else none) := by cases k <;> rfl
theorem look_cons' (n y : Nat) (f : Ent) (r : Env1) : look ((y, f) :: r) n = if n = y then some f else look r n := by
  unfold look
  rw [List.lookup_cons]
  by_cases hn : n = y
  · subst hn; simp
  · have hb : (n == y) = false := by simpa using hn
    rw [hb, if_neg hn]
theorem look_upd' (n x : Nat) (e : Ent) : ∀ σ : Env1, look (upd σ x e) n = if n = x then some e else look σ n
  | [] => by
    show look [(x, e)] n = _
    rw [look_cons']
  | (y, f) :: r => by
    have ih := look_upd' n x e r
    have hs : upd ((y, f) :: r) x e = if y == x then (y, e) :: r else (y, f) :: upd r x e := rfl
    rw [hs, look_cons']
    by_cases hyx : y = x
    · subst hyx
      rw [if_pos (by simp), look_cons']
      split <;> rfl
    · rw [if_neg (by simpa using hyx), look_cons']
      by_cases hn : n = y
      · subst hn; rw [if_pos rfl, if_pos rfl, if_neg hyx]
      · rw [if_neg hn, if_neg hn]; exact ih
theorem look_map (g : Nat → Ent → Ent) (n : Nat) : ∀ σ : Env1, look (σ.map fun p => (p.1, g p.1 p.2)) n = (look σ n).map (g n)
  | [] => rfl
  | (y, e) :: r => by
    have ih := look_map g n r
    rw [List.map_cons, look_cons', look_cons']
    by_cases hn : n = y
    · subst hn; simp
    · rw [if_neg hn, if_neg hn]; exact ih
noncomputable def rdE : Option Ent → Option D
  | some (.frz d) => some d
  | _ => none
noncomputable def vwE : Option Ent → Option D
  | some (.frz d) => some d
  | some (.own l) => some (.lst l)
  | some (.ownT ks vs) => some (.tab ks vs)
  | some (.ownI ks vs) => some (.inst ks vs)
  | none => none
theorem readE_eq (σ : Env1) (n : Nat) : readE σ n = rdE (look σ n) := by unfold readE rdE; cases look σ n with | none => rfl | some t => cases t <;> rfl
theorem viewE_eq (σ : Env1) (n : Nat) : viewE σ n = vwE (look σ n) := by unfold viewE vwE; cases look σ n with | none => rfl | some t => cases t <;> rfl
theorem look_frzAll (σ : Env1) (n : Nat) : look (frzAll σ) n = (look σ n).map frzEnt := look_map (fun _ e => frzEnt e) n σ
theorem look_frzSome (xs : List Nat) (σ : Env1) (n : Nat) : look (frzSome xs σ) n = (look σ n).map fun e => if xs.contains n then frzEnt e else e := look_map (fun m e => if xs.contains m then frzEnt e else e) n σ
theorem bindE {α β : Type} {o : Option α} {x : α} {f : α → Option β} {r : Option β} (h : o = some x) (h2 : f x = r) : o.bind f = r := by rw [h]; exact h2
theorem mapE {α β : Type} {o : Option α} {x : α} {f : α → β} {r : β} (h : o = some x) (h2 : f x = r) : o.map f = some r := by rw [h]; exact congrArg some h2
theorem look_hit {σ : Env1} {x : Nat} {e : Ent} : look (upd σ x e) x = some e := by rw [look_upd', if_pos rfl]
theorem look_miss {σ : Env1} {n x : Nat} {e : Ent} {v : Option Ent} (h : Nat.beq n x = false) (i : look σ n = v) : look (upd σ x e) n = v := by rw [look_upd', if_neg (Nat.ne_of_beq_eq_false h), i]
theorem look_fz {σ : Env1} {n : Nat} {e : Ent} (i : look σ n = some e) : look (frzAll σ) n = some (frzEnt e) := by rw [look_frzAll, i]; rfl
theorem look_fs0 {σ : Env1} {xs : List Nat} {n : Nat} {e : Ent} (h : xs.contains n = false) (i : look σ n = some e) : look (frzSome xs σ) n = some e := by rw [look_frzSome, i]; show some _ = _; rw [h]; rfl
theorem look_fs1 {σ : Env1} {xs : List Nat} {n : Nat} {e : Ent} (h : xs.contains n = true) (i : look σ n = some e) : look (frzSome xs σ) n = some (frzEnt e) := by rw [look_frzSome, i]; show some _ = _; rw [h]; rfl
noncomputable def upds (σ : Env1) : List (Nat × Ent) → Env1
  | [] => σ
  | p :: l => upd (upds σ l) p.1 p.2
noncomputable def fnd (n : Nat) : List (Nat × Ent) → Option Ent
  | [] => none
  | p :: l => bif Nat.beq n p.1 then some p.2 else fnd n l
theorem look_upds (σ : Env1) (n : Nat) : ∀ l, look (upds σ l) n = match fnd n l with | some e => some e | none => look σ n
  | [] => rfl
  | p :: l => by
    show look (upd (upds σ l) p.1 p.2) n = _
    rw [look_upd']
    unfold fnd
    by_cases h : n = p.1
    · rw [if_pos h, h, Nat.beq_refl]; rfl
    · rw [if_neg h, look_upds σ n l, show Nat.beq n p.1 = false from Bool.eq_false_iff.mpr fun hb => h (Nat.eq_of_beq_eq_true hb)]; rfl
theorem look_in {σ : Env1} {n : Nat} {l : List (Nat × Ent)} {e : Ent} (h : fnd n l = some e) : look (upds σ l) n = some e := by rw [look_upds, h]
theorem look_out {σ : Env1} {n : Nat} {l : List (Nat × Ent)} {v : Option Ent} (h : fnd n l = none) (i : look σ n = v) : look (upds σ l) n = v := by rw [look_upds, h]; exact i
section
variable {C : Nat → List D → Option D} {σ σ' : Env1} {a b e o it t : SE} {es : List SE} {x y z d : D} {ds : List D} {r : Option D} {n m : Nat} {bo : Bop} {co : Cop} {bl : Bool}
theorem w_var (h : look σ n = some (.frz d)) : evE C (.var n) σ = some d := (readE_eq σ n).trans (by rw [h]; rfl)
theorem w_bvarF (h : look σ n = some (.frz d)) : evE C (.bvar n) σ = some d := (viewE_eq σ n).trans (by rw [h]; rfl)
theorem w_bvarO {l : List D} (h : look σ n = some (.own l)) : evE C (.bvar n) σ = some (.lst l) := (viewE_eq σ n).trans (by rw [h]; rfl)
theorem w_lit : evE C (.lit d) σ = some d := rfl
theorem w_bin (h1 : evE C a σ = some x) (h2 : evE C b σ = some y) (h3 : binD bo x y = r) : evE C (.bin bo a b) σ = r := (bindE h1 (bindE h2 h3) : (evE C a σ).bind (fun x => (evE C b σ).bind fun y => binD bo x y) = r)
theorem w_cmp (h1 : evE C a σ = some x) (h2 : evE C b σ = some y) (h3 : cmpD co x y = some bl) : evE C (.cmp co a b) σ = some (.bool bl) := (bindE h1 (bindE h2 (mapE h3 rfl)) : (evE C a σ).bind (fun x => (evE C b σ).bind fun y => (cmpD co x y).map D.bool) = _)
theorem w_or (h1 : evE C a σ = some (.bool false)) (h2 : evE C b σ = some (.bool bl)) : evE C (.or a b) σ = some (.bool bl) := (bindE h1 (bindE rfl (bindE h2 rfl)) : (evE C a σ).bind (fun x => (truthD x).bind fun t => if t then some (D.bool true) else (evE C b σ).bind fun y => (truthD y).map D.bool) = _)
theorem w_idx (h1 : evE C o σ = some x) (h2 : evE C b σ = some y) (h3 : idxD x y = r) : evE C (.idx o b) σ = r := (bindE h1 (bindE h2 h3) : (evE C o σ).bind (fun x => (evE C b σ).bind fun y => idxD x y) = r)
theorem w_upto (h1 : evE C o σ = some x) (h2 : evE C b σ = some y) (h3 : uptoD x y = r) : evE C (.upto o b) σ = r := (bindE h1 (bindE h2 h3) : (evE C o σ).bind (fun x => (evE C b σ).bind fun y => uptoD x y) = r)
theorem w_from (h1 : evE C o σ = some x) (h2 : evE C b σ = some y) (h3 : fromD x y = r) : evE C (.from_ o b) σ = r := (bindE h1 (bindE h2 h3) : (evE C o σ).bind (fun x => (evE C b σ).bind fun y => fromD x y) = r)
theorem w_attr (h1 : evE C o σ = some x) (h3 : attrD x n = r) : evE C (.attr o n) σ = r := (bindE h1 h3 : (evE C o σ).bind (fun x => attrD x n) = r)
theorem ws_nil : evEs C [] σ = some [] := rfl
theorem ws_cons (h : evE C e σ = some d) (h2 : evEs C es σ = some ds) : evEs C (e :: es) σ = some (d :: ds) := (bindE h (mapE h2 rfl) : (evE C e σ).bind (fun d => (evEs C es σ).map (d :: ·)) = _)
theorem w_lst (h : evEs C es σ = some ds) : evE C (.lst es) σ = some (.lst ds) := (mapE h rfl : (evEs C es σ).map D.lst = _)
theorem w_tup (h : evEs C es σ = some ds) : evE C (.tup es) σ = some (.tup ds) := (mapE h rfl : (evEs C es σ).map D.tup = _)
theorem w_call (h : evEs C es σ = some ds) (h2 : C n ds = r) : evE C (.call n es) σ = r := (bindE h h2 : (evEs C es σ).bind (fun ds => C n ds) = r)
theorem w_bf {f : Bf} (h : evEs C es σ = some ds) (h2 : bfD f ds = r) : evE C (.bf f es) σ = r := (bindE h h2 : (evEs C es σ).bind (fun ds => bfD f ds) = r)
theorem w_meth (h1 : evE C o σ = some x) (h : evEs C es σ = some ds) (h2 : methD m x ds = r) : evE C (.meth o m es) σ = r := (bindE h1 (bindE h h2) : (evE C o σ).bind (fun x => (evEs C es σ).bind fun ds => methD m x ds) = r)
theorem w_umeth (h1 : evE C o σ = some x) (h : evEs C es σ = some ds) (h2 : umethD C m x ds = r) : evE C (.umeth o m es) σ = r := (bindE h1 (bindE h h2) : (evE C o σ).bind (fun x => (evEs C es σ).bind fun ds => umethD C m x ds) = r)
theorem w_rng (h : evEs C es σ = some ds) (h2 : rngD ds = r) : evE C (.rng es) σ = r := (bindE h h2 : (evEs C es σ).bind rngD = r)
theorem w_flag (h1 : evE C a σ = some x) (h2 : evE C b σ = some y) (h3 : getFlagD x y = r) : evE C (.getFlag a b) σ = r := (bindE h1 (bindE h2 h3) : (evE C a σ).bind (fun x => (evE C b σ).bind fun y => getFlagD x y) = r)
theorem ts_nil : evTs C [] σ = some true := rfl
theorem ts_one (h : evE C e σ = some (.bool bl)) : evTs C [e] σ = some bl := (bindE h (bindE rfl (by cases bl <;> rfl)) : (evE C e σ).bind (fun d => (truthD d).bind fun b => if b then evTs C [] σ else some false) = _)
variable {s : SS} {A B : List SS} {q : Option (Env1 × Fl)} {fl : Fl} {k : D} {w w2 : Ent} {l : List D}
theorem r_step (h : run C s σ = some (σ', .next)) (h2 : runs C B σ' = q) : runs C (s :: B) σ = q := (bindE h h2 : (run C s σ).bind (fun p => match p.2 with | .next => runs C B p.1 | f => some (p.1, f)) = q)
theorem r_nil : runs C [] σ = some (σ, .next) := rfl
theorem r_brk (h : run C s σ = some (σ', .brk)) : runs C (s :: B) σ = some (σ', .brk) := (bindE h rfl : (run C s σ).bind (fun p => match p.2 with | .next => runs C B p.1 | f => some (p.1, f)) = _)
theorem r_out (h : run C s σ = some (σ', .ret d)) : runs C (s :: B) σ = some (σ', .ret d) := (bindE h rfl : (run C s σ).bind (fun p => match p.2 with | .next => runs C B p.1 | f => some (p.1, f)) = _)
theorem s_asg' (h : evE C e σ = some d) : run C (.asg n e) σ = some (upd σ n (.frz d), .next) := (mapE h rfl : (evE C e σ).map (fun d => (upd σ n (.frz d), Fl.next)) = _)
theorem s_asgT' {xs : List Nat} (h : evE C e σ = some (.tup ds)) (h2 : updAll σ xs ds = some σ') : run C (.asgT xs e) σ = some (σ', .next) := (bindE h (mapE h2 rfl) : (evE C e σ).bind (fun d => match d with
    | .tup l => (updAll σ xs l).map fun σ' => (σ', Fl.next)
    | _ => none) = _)
theorem s_new' (h : evE C e σ = some d) (h2 : newE d = some w) : run C (.new n e) σ = some (upd σ n w, .next) := (bindE h (mapE h2 rfl) : (evE C e σ).bind (fun d => (newE d).map fun t => (upd σ n t, Fl.next)) = _)
theorem s_setI' (h : evE C e σ = some d) (h2 : look σ n = some w) (h3 : evE C b σ = some k) (h4 : setAt w k d = some w2) : run C (.setI n b e) σ = some (upd σ n w2, .next) := (bindE h (bindE h2 (bindE h3 (mapE h4 rfl))) : (evE C e σ).bind (fun d => (look σ n).bind fun t => (evE C b σ).bind fun k => (setAt t k d).map fun t' => (upd σ n t', Fl.next)) = _)
theorem s_augI' (h : evE C b σ = some k) (h2 : look σ n = some (.own l)) (h3 : idxD (.lst l) k = some x) (h4 : evE C e σ = some d) (h5 : augD bo x d = some y) (h6 : setAt (.own l) k y = some w2) : run C (.augI n b bo e) σ = some (upd σ n w2, .next) := (bindE h (bindE h2 (bindE h3 (bindE h4 (bindE h5 (mapE h6 rfl))))) : (evE C b σ).bind (fun k => (look σ n).bind fun t => match t with
    | .own l => (idxD (.lst l) k).bind fun old => (evE C e σ).bind fun d => (augD bo old d).bind fun r => (setAt (.own l) k r).map fun t' => (upd σ n t', Fl.next)
    | _ => none) = _)
theorem s_aug' (h : look σ n = some (.frz x)) (h4 : evE C e σ = some d) (h5 : augD bo x d = some y) : run C (.aug n bo e) σ = some (upd σ n (.frz y), .next) := (bindE (w_var (C := C) h) (bindE h4 (mapE h5 rfl)) : (readE σ n).bind (fun old => (evE C e σ).bind fun d => (augD bo old d).map fun r => (upd σ n (.frz r), Fl.next)) = _)
theorem s_app' (h : evE C e σ = some d) (h2 : look σ n = some (.own l)) (h3 : l.length ≤ 1000) : run C (.app n e) σ = some (upd σ n (.own (l ++ [d])), .next) := (bindE h (bindE h2 (if_pos (decide_eq_true h3))) : (evE C e σ).bind (fun d => (look σ n).bind fun t => match t with
    | .own l => if decide (l.length ≤ 1000) then some (upd σ n (.own (l ++ [d])), Fl.next) else none
    | _ => none) = _)
theorem s_then (h : evE C t σ = some (.bool true)) (h2 : runs C A σ = q) : run C (.ite t A B) σ = q := (bindE h (bindE rfl h2) : (evE C t σ).bind (fun d => (truthD d).bind fun c => if c then runs C A σ else runs C B σ) = q)
theorem s_else (h : evE C t σ = some (.bool false)) (h2 : runs C B σ = q) : run C (.ite t A B) σ = q := (bindE h (bindE rfl h2) : (evE C t σ).bind (fun d => (truthD d).bind fun c => if c then runs C A σ else runs C B σ) = q)
theorem s_thenT (h : evE C t σ = some d) (h1 : truthD d = some true) (h2 : runs C A σ = q) : run C (.ite t A B) σ = q := (bindE h (bindE h1 h2) : (evE C t σ).bind (fun d => (truthD d).bind fun c => if c then runs C A σ else runs C B σ) = q)
theorem s_elseT (h : evE C t σ = some d) (h1 : truthD d = some false) (h2 : runs C B σ = q) : run C (.ite t A B) σ = q := (bindE h (bindE h1 h2) : (evE C t σ).bind (fun d => (truthD d).bind fun c => if c then runs C A σ else runs C B σ) = q)
theorem w_not (h : evE C a σ = some d) (h1 : truthD d = some bl) : evE C (.not a) σ = some (.bool (!bl)) := (bindE h (mapE h1 rfl) : (evE C a σ).bind (fun x => (truthD x).map fun b => D.bool (!b)) = _)
theorem s_for' {xs : List Nat} (h : evE C it σ = some d) (h2 : itemsD d = some l) (h3 : forGo xs (fun σ' => runs C A σ') (fun σ' => runs C B σ') l σ = q) : run C (.for_ xs it A B) σ = q := (bindE h (bindE h2 h3) : (evE C it σ).bind (fun l => (itemsD l).bind fun l => forGo xs (fun σ' => runs C A σ') (fun σ' => runs C B σ') l σ) = q)
theorem s_ret' (h : evE C e (frzAll σ) = some d) : run C (.ret e) σ = some (σ, .ret d) := (mapE h rfl : (evE C e (frzAll σ)).map (fun d => (σ, Fl.ret d)) = _)
theorem s_setA' {ks : List Nat} {vs : List D} (h : evE C e σ = some d) (h2 : look σ n = some (.ownI ks vs)) (h3 : Nat.ble ks.length 50 = true) : run C (.setA n m e) σ = some (upd σ n (.ownI (putA ks vs m d).1 (putA ks vs m d).2), .next) := (bindE h (bindE h2 (if_pos (decide_eq_true (Nat.le_of_ble_eq_true h3)))) : (evE C e σ).bind (fun d => (look σ n).bind fun t => match t with
    | .ownI ks vs => if decide (ks.length ≤ 50) then some (upd σ n (.ownI (putA ks vs m d).1 (putA ks vs m d).2), Fl.next) else none
    | _ => none) = _)
theorem s_frz' {xs : List Nat} : run C (.frz xs) σ = some (frzSome xs σ, .next) := rfl
theorem s_brk' : run C .brk σ = some (σ, .brk) := rfl
theorem c_ret {ps : List Nat} (h1 : updAll [] ps ds = some σ) (h2 : runs C B σ = some (σ', .ret d)) : callD C ps B ds = some d := (bindE h1 (bindE h2 rfl) : (updAll [] ps ds).bind (fun σ => (runs C B σ).bind fun p => match p.2 with
    | .ret d => some d
    | _ => none) = _)
end
theorem for_cons {x : Nat} {body els : Env1 → Option (Env1 × Fl)} {d : D} {l : List D} {σ σ' : Env1} (h : body (upd σ x (.frz d)) = some (σ', .next)) : forGo [x] body els (d :: l) σ = forGo [x] body els l σ' := bindE (o := bindT σ [x] d) rfl (bindE h rfl)
theorem for_brk {x : Nat} {body els : Env1 → Option (Env1 × Fl)} {d : D} {l : List D} {σ σ' : Env1} (h : body (upd σ x (.frz d)) = some (σ', .brk)) : forGo [x] body els (d :: l) σ = some (σ', .next) := bindE (o := bindT σ [x] d) rfl (bindE h rfl)
theorem compGo_map {α : Type} {elt : Env1 → Option D} {tst : Env1 → Option Bool} {xs : List Nat} {σ : Env1} (g : α → D) (f : α → D) : ∀ {l : List α}, (∀ a ∈ l, ∃ σ', bindT σ xs (g a) = some σ' ∧ tst σ' = some true ∧ elt σ' = some (f a)) → compGo elt tst xs σ (l.map g) = some (l.map f)
  | [], _ => rfl
  | a :: r, h => by
    obtain ⟨σ', h1, h2, h3⟩ := h a List.mem_cons_self
    exact bindE h1 (bindE h2 (bindE h3 (mapE (compGo_map g f fun b hb => h b (List.mem_cons_of_mem _ hb)) rfl)))

theorem compGo_filter {α : Type} {elt : Env1 → Option D} {tst : Env1 → Option Bool} {xs : List Nat} {σ : Env1} (g : α → D) (p : α → Bool) (f : α → D) : ∀ {l : List α}, (∀ a ∈ l, ∃ σ', bindT σ xs (g a) = some σ' ∧ tst σ' = some (p a) ∧ (p a = true → elt σ' = some (f a))) → compGo elt tst xs σ (l.map g) = some ((l.filter p).map f)
  | [], _ => rfl
  | a :: r, h => by
    obtain ⟨σ', h1, h2, h3⟩ := h a List.mem_cons_self
    have ih := compGo_filter g p f (l := r) (elt := elt) (tst := tst) (xs := xs) (σ := σ) fun b hb => h b (List.mem_cons_of_mem _ hb)
    refine bindE h1 (bindE h2 ?_)
    rw [List.filter_cons]
    cases hp : p a with
    | true => exact bindE (h3 hp) (mapE ih rfl)
    | false => exact ih

noncomputable def pairD (p : Int × Int) : D := .tup [.int p.1, .int p.2]
noncomputable def columnP (gaps : List (Int × Int)) (tail size : Int) : Int := tail + size * (gaps.map fun p => p.2 * (p.1.fdiv size + 1)).sum

theorem intsOf_fn {α : Type} (f : α → Int) (l : List α) : intsOf (l.map fun a => .int (f a)) = some (l.map f) := by
  induction l with
  | nil => rfl
  | cons a r ih => simp [intsOf, ih]

theorem column_run (C : Nat → List D → Option D) (gaps : List (Int × Int)) (tail size : Int) (hs : size ≠ 0) (h1 : small size = true) (h2 : gaps.length ≤ 1000)
    (h3 : ∀ p ∈ gaps, small p.2 = true ∧ small (p.1.fdiv size + 1) = true) (h4 : small (gaps.map fun p => p.2 * (p.1.fdiv size + 1)).sum = true) :
    callD C p1_law_column s1_law_column [.lst (gaps.map pairD), .int tail, .int size] = some (.int (columnP gaps tail size)) := by
  have hc : ∀ σ, look σ 86 = some (.frz (.int size)) → compGo (fun σ' => evE C (.bin .mul (.var 88) (.bin .add (.bin .fdiv (.var 87) (.var 86)) (.lit (.int 1)))) σ') (fun σ' => evTs C [] σ') [87, 88] σ (gaps.map pairD) = some (gaps.map fun p => .int (p.2 * (p.1.fdiv size + 1))) := by
    intro σ h86
    refine compGo_map pairD (fun p => .int (p.2 * (p.1.fdiv size + 1))) fun p hp => ?_
    obtain ⟨a, b⟩ := h3 p hp
    have hd : binD .fdiv (.int p.1) (.int size) = some (.int (p.1.fdiv size)) := if_pos (by rw [h1]; exact (Bool.and_true _).trans (bne_iff_ne.mpr hs))
    have hm : binD .mul (.int p.2) (.int (p.1.fdiv size + 1)) = some (.int (p.2 * (p.1.fdiv size + 1))) := if_pos (by rw [a, b]; rfl)
    exact ⟨_, rfl, ts_nil, w_bin (w_var look_hit) (w_bin (w_bin (w_var (look_miss rfl look_hit)) (w_var (look_miss rfl (look_miss rfl h86))) hd) w_lit rfl) hm⟩
  have hs : bfD .sum [.lst (gaps.map fun p => .int (p.2 * (p.1.fdiv size + 1)))] = some (.int (gaps.map fun p => p.2 * (p.1.fdiv size + 1)).sum) := bindE (intsOf_fn _ gaps) rfl
  have hm : binD .mul (.int size) (.int (gaps.map fun p => p.2 * (p.1.fdiv size + 1)).sum) = some (.int (size * (gaps.map fun p => p.2 * (p.1.fdiv size + 1)).sum)) := if_pos (by rw [h1, h4]; rfl)
  have hl : capL (gaps.map fun p => .int (p.2 * (p.1.fdiv size + 1))) = some (.lst (gaps.map fun p => .int (p.2 * (p.1.fdiv size + 1)))) := if_pos (decide_eq_true (by rw [List.length_map]; lia))
  refine c_ret rfl (r_out (s_ret' (w_bin (w_var rfl) (w_bin (w_var rfl) (w_bf (ws_cons (bindE (w_var rfl) (bindE rfl (bindE (hc _ rfl) hl)) : evE C (.comp _ [87, 88] (.var 84) []) _ = _) ws_nil) hs) hm) rfl)))
end Mv.Pl
end
section
open PySem PySem.W
set_option Elab.async false
namespace Mv.Pl

theorem forGo_inv {x : Nat} {body els : Env1 → Option (Env1 × Fl)} (I : Env1 → Prop) : ∀ {l : List D} {σ : Env1}, I σ → (∀ d ∈ l, ∀ σ, I σ → ∃ σ', body (upd σ x (.frz d)) = some (σ', .next) ∧ I σ') → ∃ σ', I σ' ∧ forGo [x] body els l σ = els σ'
  | [], σ, h, _ => ⟨σ, h, rfl⟩
  | d :: r, σ, h, hb => by
    obtain ⟨σ1, e1, h1⟩ := hb d List.mem_cons_self σ h
    obtain ⟨σ2, h2, e2⟩ := forGo_inv I h1 fun d' hd => hb d' (List.mem_cons_of_mem _ hd)
    exact ⟨σ2, h2, (for_cons e1).trans e2⟩

theorem rngL_mem : ∀ {n : Nat} {a : Int} {d : D}, d ∈ rngL a n → ∃ i : Nat, i < n ∧ d = .int (a + i)
  | 0, _, _, h => by simp [rngL] at h
  | n + 1, a, d, h => by
    rcases List.mem_cons.mp h with rfl | h
    · exact ⟨0, by lia, by simp⟩
    · obtain ⟨i, hi, rfl⟩ := rngL_mem h
      exact ⟨i + 1, by lia, by congr 1; push_cast; lia⟩

theorem small_of {i : Int} (h1 : -1000000 < i) (h2 : i < 1000000) : small i = true := by
  refine decide_eq_true ?_
  lia
theorem idx_nat {l : List D} {i : Nat} {d : D} (h : l[i]? = some d) (hi : i < 1000000) : idxD (.lst l) (.int i) = some d := by
  have hl : i < l.length := (List.getElem?_eq_some_iff.mp h).1
  refine bindE (o := posOf (i : Int) l.length) ?_ h
  refine (if_pos (small_of (by lia) (by lia))).trans ?_
  unfold seqIndex?
  rw [if_neg (Int.not_lt.mpr (Int.natCast_nonneg i))]
  show (if (decide (0 ≤ (i : Int)) && decide ((i : Int) < l.length)) = true then some (i : Int).toNat else none) = some i
  rw [decide_eq_true (Int.natCast_nonneg i), decide_eq_true (Int.ofNat_lt.mpr hl)]
  rfl
theorem half_lt {m n i : Nat} (h1 : i < n) (h : m < 2 ^ (n - i)) : m / 2 < 2 ^ (n - (i + 1)) := by
  have e : n - i = (n - (i + 1)) + 1 := by lia
  rw [e, Nat.pow_succ'] at h
  exact Nat.div_lt_of_lt_mul h
end Mv.Pl
end
section
open PySem PySem.W
set_option Elab.async false
namespace Mv.Pl

theorem lt4 {P : Nat → Prop} {r : Nat} (h : r < 4) (p0 : P 0) (p1 : P 1) (p2 : P 2) (p3 : P 3) : P r := by
  cases r with
  | zero => exact p0
  | succ r => cases r with
    | zero => exact p1
    | succ r => cases r with
      | zero => exact p2
      | succ r => cases r with
        | zero => exact p3
        | succ r => exact absurd (Nat.lt_of_succ_lt_succ (Nat.lt_of_succ_lt_succ (Nat.lt_of_succ_lt_succ (Nat.lt_of_succ_lt_succ h)))) (Nat.not_lt_zero _)
noncomputable def Heaps4 (ns : List Int) (σ : Env1) : Prop := look σ 60 = some (.frz (.lst (ns.map .int))) ∧ ∃ a b c d : Int, look σ 61 = some (.own [.int a, .int b, .int c, .int d])

theorem heaps_step (C : Nat → List D → Option D) (ns : List Int) (hn : ns.length ≤ 63) {i : Nat} (hi : i < ns.length) {σ : Env1} (h : Heaps4 ns σ) :
    ∃ σ', runs C [(.augI 61 (.bin .mod (.var 62) (.lit (.int 4))) .add (.idx (.bvar 60) (.var 62)))] (upd σ 62 (.frz (.int i))) = some (σ', .next) ∧ Heaps4 ns σ' := by
  obtain ⟨h60, a, b, c, d, h61⟩ := h
  have hx : (ns.map D.int)[i]? = some (.int ns[i]) := by simp [hi]
  have hv : idxD (.lst (ns.map D.int)) (.int i) = some (.int ns[i]) := idx_nat hx (by lia)
  have hm : Int.fmod (i : Int) 4 = ((i % 4 : Nat) : Int) := by rw [Int.fmod_eq_emod_of_nonneg _ (by decide)]; norm_cast
  have h4 : i % 4 < 4 := Nat.mod_lt _ (by decide)
  generalize hr : i % 4 = r at hm h4
  have hg : ∃ o : Int, [D.int a, D.int b, D.int c, D.int d][r]? = some (.int o) := lt4 (P := fun r => ∃ o : Int, [D.int a, D.int b, D.int c, D.int d][r]? = some (.int o)) h4 ⟨a, rfl⟩ ⟨b, rfl⟩ ⟨c, rfl⟩ ⟨d, rfl⟩
  obtain ⟨o, ho⟩ := hg
  have hidx : idxD (.lst [D.int a, D.int b, D.int c, D.int d]) (.int (r : Nat)) = some (.int o) := idx_nat ho (by lia)
  refine ⟨upd (upd σ 62 (.frz (.int i))) 61 (.own ([D.int a, D.int b, D.int c, D.int d].set r (.int (o + ns[i])))), ?_, ?_⟩
  · have hmod : binD .mod (.int i) (.int 4) = some (.int (r : Nat)) := congrArg (fun x => some (D.int x)) hm
    have hset : setAt (.own [D.int a, D.int b, D.int c, D.int d]) (.int (r : Nat)) (.int (o + ns[i])) = some (.own ([D.int a, D.int b, D.int c, D.int d].set r (.int (o + ns[i])))) := if_pos (by
      rw [decide_eq_true (Int.natCast_nonneg r), decide_eq_true (show (r : Int) < ([D.int a, D.int b, D.int c, D.int d].length : Nat) from Int.ofNat_lt.mpr h4), decide_eq_true (show (r : Int) < 100000 by lia)]; rfl)
    exact r_step (s_augI' (w_bin (w_var look_hit) w_lit hmod) (look_miss rfl h61) hidx (w_idx (w_bvarF (look_miss rfl h60)) (w_var look_hit) hv) rfl hset) r_nil
  · refine ⟨look_miss rfl (look_miss rfl h60), ?_⟩
    have hw : ∃ e f g h : Int, [D.int a, D.int b, D.int c, D.int d].set r (.int (o + ns[i])) = [.int e, .int f, .int g, .int h] := lt4 (P := fun r => ∃ e f g h : Int, [D.int a, D.int b, D.int c, D.int d].set r (.int (o + ns[i])) = [.int e, .int f, .int g, .int h]) h4 ⟨_, b, c, d, rfl⟩ ⟨a, _, c, d, rfl⟩ ⟨a, b, _, d, rfl⟩ ⟨a, b, c, _, rfl⟩
    obtain ⟨e, f, g, h, hw⟩ := hw
    exact ⟨e, f, g, h, look_hit.trans (by rw [hw])⟩
theorem heaps_run (C : Nat → List D → Option D) (ns : List Int) (hn : ns.length ≤ 63) : ∃ a b c d : Int, callD C p1_law_heaps s1_law_heaps [.lst (ns.map .int)] = some (.lst [.int a, .int b, .int c, .int d]) := by
  have step := fun (i : Nat) (hi : i < ns.length) (σ : Env1) (h : Heaps4 ns σ) => heaps_step C ns hn hi h
  have hl : small (ns.length : Int) = true := small_of (by lia) (by lia)
  have e1 : Heaps4 ns (upd (upd [] 60 (.frz (.lst (ns.map .int)))) 61 (.own [.int 4, .int 5, .int 323, .int 31])) := ⟨rfl, 4, 5, 323, 31, rfl⟩
  obtain ⟨σ', ⟨h1, a, b, c, d, h2⟩, h3⟩ := forGo_inv (x := 62) (body := fun σ' => runs C [(.augI 61 (.bin .mod (.var 62) (.lit (.int 4))) .add (.idx (.bvar 60) (.var 62)))] σ') (els := fun σ' => runs C [] σ') (Heaps4 ns) (l := rngL 0 ns.length) e1 (fun d hd σ h => by
    obtain ⟨i, hi, rfl⟩ := rngL_mem hd
    rw [Int.zero_add]
    exact step i hi σ h)
  have hlen : bfD .len [.lst (ns.map .int)] = some (.int ns.length) := (if_pos (decide_eq_true (by rw [List.length_map]; lia))).trans (by rw [List.length_map])
  have hr : rngD [.int (ns.length : Nat)] = some (.lst (rngL 0 ns.length)) := if_pos hl
  exact ⟨a, b, c, d, c_ret rfl (r_step (s_new' rfl rfl) (r_step (s_for' (w_rng (ws_cons (w_bf (ws_cons (w_bvarF rfl) ws_nil) hlen) ws_nil) hr) rfl h3) (r_out (s_ret' (w_var (look_fz h2))))))⟩
end Mv.Pl
end
section
open PySem PySem.W
set_option Elab.async false
namespace Mv.Pl
theorem land_two_pow_high (m i : Nat) : (m * 2 ^ i) &&& 2 ^ i = if m % 2 = 1 then 2 ^ i else 0 := by
  have h : (m * 2 ^ i) &&& (1 * 2 ^ i) = (m &&& 1) * 2 ^ i := by
    apply Nat.eq_of_testBit_eq
    intro j
    rw [Nat.testBit_and, Nat.testBit_mul_two_pow, Nat.testBit_mul_two_pow, Nat.testBit_mul_two_pow, Nat.testBit_and]
    cases decide (i ≤ j) <;> simp
  rw [Nat.one_mul] at h
  rw [h, Nat.and_one_is_mod]
  have := Nat.mod_two_eq_zero_or_one m
  rcases this with e | e <;> simp [e]
theorem bitAnd_nat (a b : Nat) : Builtin.bitAnd (a : Int) (b : Int) = ((a &&& b : Nat) : Int) := by
  have h1 : decide ((0 : Int) ≤ (a : Int)) = true := by simp
  have h2 : decide ((0 : Int) ≤ (b : Int)) = true := by simp
  simp only [Builtin.bitAnd, h1, h2, Int.toNat_natCast]
theorem bitXor_nat (a b : Nat) : Builtin.bitXor (a : Int) (b : Int) = ((a ||| b : Nat) : Int) - ((a &&& b : Nat) : Int) := by
  unfold Builtin.bitXor
  rw [bitAnd_nat]
  congr 1
  unfold Builtin.bitOr Builtin.bitAnd Builtin.bitNot
  have h1 : decide ((0 : Int) ≤ -(a : Int) - 1) = false := by simp; lia
  have h2 : decide ((0 : Int) ≤ -(b : Int) - 1) = false := by simp; lia
  simp only [h1, h2]
  have e1 : (-(-(a : Int) - 1) - 1).toNat = a := by lia
  have e2 : (-(-(b : Int) - 1) - 1).toNat = b := by lia
  rw [e1, e2]
  lia
end Mv.Pl
end
section
open PySem PySem.W
set_option Elab.async false
namespace Mv.Pl
noncomputable def wordL (i : Nat) : List Nat := (flagTab.lookup ((2 ^ i : Nat) : Int)).getD (hexL ((2 ^ i : Nat) : Int))
noncomputable def Wr : Nat → Nat → Nat → List (List Nat)
  | 0, i, m => if m = 0 then [] else [hexL ((m * 2 ^ i : Nat) : Int)]
  | n + 1, i, m => if m % 2 = 1 then wordL i :: Wr n (i + 1) (m / 2) else Wr n (i + 1) (m / 2)
theorem Wr_zero : ∀ n i, Wr n i 0 = []
  | 0, i => by simp [Wr]
  | n + 1, i => by simp [Wr, Wr_zero n]

noncomputable def pfBody : List SS := [(.asg 59 (.bin .shl (.lit (.int 1)) (.var 37))), (.ite (.bin .and (.var 57) (.var 59)) [(.app 58 (.getFlag (.var 59) (.bf .hex [(.var 59)]))), (.aug 57 .xor (.var 59)), (.ite (.not (.var 57)) [.brk] [])] [])]
noncomputable def pfEls : List SS := [(.app 58 (.bf .hex [(.var 57)]))]
theorem pf_eq : s1_pretty_flags = [(.new 58 (.lst [])), (.for_ [37] (.rng [(.lit (.int 32))]) pfBody pfEls), (.ret (.meth (.lit (.str [44, 32])) 2 [(.var 58)]))] := rfl

theorem hexlen : ∀ i < 32, (baseText "0x" 16 ((2 ^ i : Nat) : Int)).length ≤ 1000 := by decide +kernel
theorem pf_step (C : Nat → List D → Option D) {σ : Env1} {i m : Nat} {nm : List D} (hi : i < 32) (h57 : look σ 57 = some (.frz (.int ((m * 2 ^ i : Nat) : Int)))) (h58 : look σ 58 = some (.own nm)) (hn : nm.length ≤ 1000) :
    ∃ σ', look σ' 57 = some (.frz (.int ((m / 2 * 2 ^ (i + 1) : Nat) : Int))) ∧ look σ' 58 = some (.own (if m % 2 = 1 then nm ++ [.str (wordL i)] else nm)) ∧
      runs C pfBody (upd σ 37 (.frz (.int (i : Nat)))) = some (σ', if m % 2 = 1 ∧ m / 2 = 0 then .brk else .next) := by
  have hp : (1 : Int) * 2 ^ ((i : Nat) : Int).toNat = ((2 ^ i : Nat) : Int) := by simp
  have ha : Builtin.bitAnd ((m * 2 ^ i : Nat) : Int) ((2 ^ i : Nat) : Int) = ((if m % 2 = 1 then 2 ^ i else 0 : Nat) : Int) := by
    rw [bitAnd_nat, land_two_pow_high]
  have hi62 : ((i : Nat) : Int) ≤ 62 := by lia
  have hsh : binD .shl (.int 1) (.int (i : Nat)) = some (.int ((2 ^ i : Nat) : Int)) := (if_pos (by rw [decide_eq_true (Int.natCast_nonneg i), decide_eq_true hi62]; rfl)).trans (congrArg (fun x => some (D.int x)) hp)
  have hand := congrArg (fun x => some (D.int x)) ha
  by_cases hm : m % 2 = 1
  · have hx : Builtin.bitXor ((m * 2 ^ i : Nat) : Int) ((2 ^ i : Nat) : Int) = ((m / 2 * 2 ^ (i + 1) : Nat) : Int) := by
      rw [bitXor_nat, land_two_pow_high, if_pos hm]
      have h1 : m * 2 ^ i ||| 2 ^ i = m * 2 ^ i := by
        have e := land_two_pow_high m i
        rw [if_pos hm] at e
        apply Nat.eq_of_testBit_eq
        intro j
        have e' := congrArg (fun x => x.testBit j) e
        simp only [Nat.testBit_and] at e'
        rw [Nat.testBit_or]
        cases h1 : (m * 2 ^ i).testBit j <;> cases h2 : (2 ^ i).testBit j <;> simp_all
      rw [h1]
      have h2 : m = 2 * (m / 2) + 1 := by lia
      have h3 : m * 2 ^ i = m / 2 * 2 ^ (i + 1) + 2 ^ i := by
        conv => lhs; rw [h2]
        rw [Nat.pow_succ, Nat.add_mul, Nat.one_mul, Nat.mul_comm 2 (m / 2), Nat.mul_assoc, Nat.mul_comm 2 (2 ^ i)]
      lia
    have hne : (((2 ^ i : Nat) : Int) != 0) = true := by
      have := Nat.two_pow_pos i
      simp only [bne_iff_ne, ne_eq]
      lia
    have hhex : bfD .hex [.int ((2 ^ i : Nat) : Int)] = some (.str (hexL ((2 ^ i : Nat) : Int))) := if_pos (decide_eq_true (hexlen i hi))
    have hxor : augD .xor (.int ((m * 2 ^ i : Nat) : Int)) (.int ((2 ^ i : Nat) : Int)) = some (.int ((m / 2 * 2 ^ (i + 1) : Nat) : Int)) := congrArg (fun x => some (D.int x)) hx
    rw [if_pos hm] at hand
    refine ⟨upd (upd (upd (upd σ 37 (.frz (.int (i : Nat)))) 59 (.frz (.int ((2 ^ i : Nat) : Int)))) 58 (.own (nm ++ [.str (wordL i)]))) 57 (.frz (.int ((m / 2 * 2 ^ (i + 1) : Nat) : Int))), look_hit, (look_miss rfl look_hit).trans (by rw [if_pos hm]), ?_⟩
    refine r_step (s_asg' (w_bin w_lit (w_var look_hit) hsh)) ?_
    have head : ∀ q, runs C [(.ite (.not (.var 57)) [.brk] [])] (upd (upd (upd (upd σ 37 (.frz (.int (i : Nat)))) 59 (.frz (.int ((2 ^ i : Nat) : Int)))) 58 (.own (nm ++ [.str (wordL i)]))) 57 (.frz (.int ((m / 2 * 2 ^ (i + 1) : Nat) : Int)))) = q → run C (.ite (.bin .and (.var 57) (.var 59)) [(.app 58 (.getFlag (.var 59) (.bf .hex [(.var 59)]))), (.aug 57 .xor (.var 59)), (.ite (.not (.var 57)) [.brk] [])] []) (upd (upd σ 37 (.frz (.int (i : Nat)))) 59 (.frz (.int ((2 ^ i : Nat) : Int)))) = q := fun q h => s_thenT (w_bin (w_var (look_miss rfl (look_miss rfl h57))) (w_var look_hit) hand) (congrArg some hne) (r_step (s_app' (w_flag (w_var look_hit) (w_bf (ws_cons (w_var look_hit) ws_nil) hhex) rfl) (look_miss rfl (look_miss rfl h58)) hn) (r_step (s_aug' (look_miss rfl (look_miss rfl (look_miss rfl h57))) (w_var (look_miss rfl look_hit)) hxor) h))
    by_cases h0 : m / 2 = 0
    · rw [if_pos ⟨hm, h0⟩]
      have hz : truthD (.int ((m / 2 * 2 ^ (i + 1) : Nat) : Int)) = some false := by rw [h0, Nat.zero_mul]; rfl
      exact r_brk (head _ (r_brk (s_then (w_not (w_var look_hit) hz) (r_brk s_brk'))))
    · rw [if_neg fun h => h0 h.2]
      have hz : truthD (.int ((m / 2 * 2 ^ (i + 1) : Nat) : Int)) = some true := by
        have h3 : 0 < m / 2 * 2 ^ (i + 1) := Nat.mul_pos (Nat.pos_of_ne_zero h0) (Nat.two_pow_pos (i + 1))
        exact congrArg some (bne_iff_ne.mpr (Int.ofNat_ne_zero.mpr (Nat.ne_of_gt h3)))
      exact r_step (head _ (r_step (s_else (w_not (w_var look_hit) hz) r_nil) r_nil)) r_nil
  · have h2 : m = 2 * (m / 2) := by lia
    have h3 : m * 2 ^ i = m / 2 * 2 ^ (i + 1) := by
      conv => lhs; rw [h2]
      rw [Nat.pow_succ, Nat.mul_comm 2 (m / 2), Nat.mul_assoc, Nat.mul_comm 2 (2 ^ i)]
    rw [if_neg hm] at hand
    rw [if_neg hm, if_neg fun h => hm h.1]
    exact ⟨upd (upd σ 37 (.frz (.int (i : Nat)))) 59 (.frz (.int ((2 ^ i : Nat) : Int))), look_miss rfl (look_miss rfl (h57.trans (by rw [h3]))), look_miss rfl (look_miss rfl h58), r_step (s_asg' (w_bin w_lit (w_var look_hit) hsh)) (r_step (s_elseT (w_bin (w_var (look_miss rfl (look_miss rfl h57))) (w_var look_hit) hand) rfl r_nil) r_nil)⟩

end Mv.Pl
end
section
open PySem PySem.W
set_option Elab.async false
namespace Mv.Pl
theorem high_len : ∀ m < 16, (baseText "0x" 16 ((m * 2 ^ 32 : Nat) : Int)).length ≤ 1000 := by decide +kernel
theorem pf_els (C : Nat → List D → Option D) {z : Int} {nm : List (List Nat)} {σ : Env1} (hl : (baseText "0x" 16 z).length ≤ 1000) (hn : nm.length ≤ 1000) (h57 : look σ 57 = some (.frz (.int z))) (h58 : look σ 58 = some (.own (nm.map .str))) :
    runs C pfEls σ = some (upd σ 58 (.own ((nm ++ [hexL z]).map .str)), .next) := by
  have hx : bfD .hex [.int z] = some (.str (hexL z)) := if_pos (decide_eq_true hl)
  rw [List.map_append]
  exact r_step (s_app' (w_bf (ws_cons (w_var h57) ws_nil) hx) h58 (by rw [List.length_map]; exact hn)) r_nil
theorem Wr_last {m : Nat} (i : Nat) (h : m ≠ 0) : Wr 0 i m = [hexL ((m * 2 ^ i : Nat) : Int)] := by
  unfold Wr
  rw [if_neg h]
theorem pf_loop (C : Nat → List D → Option D) : ∀ (n i m : Nat) (nm : List (List Nat)) (σ : Env1), i + n = 32 → m < 2 ^ (36 - i) → nm.length ≤ i → (m ≠ 0) →
    look σ 57 = some (.frz (.int ((m * 2 ^ i : Nat) : Int))) → look σ 58 = some (.own (nm.map .str)) →
    ∃ σ', look σ' 58 = some (.own ((nm ++ Wr n i m).map .str)) ∧ forGo [37] (fun σ' => runs C pfBody σ') (fun σ' => runs C pfEls σ') (rngL (i : Nat) n) σ = some (σ', .next) := by
  intro n
  induction n with
  | zero =>
    intro i m nm σ hi hm hn h0 h57 h58
    have hi : i = 32 := by lia
    have hl : (baseText "0x" 16 ((m * 2 ^ i : Nat) : Int)).length ≤ 1000 := by
      rw [hi] at hm ⊢
      exact high_len m hm
    rw [Wr_last i h0]
    exact ⟨_, by rw [look_upd', if_pos rfl], pf_els C hl (by lia) h57 h58⟩
  | succ n ih =>
    intro i m nm σ hi hm hn h0 h57 h58
    obtain ⟨σ', e57, e58, er⟩ := pf_step C (i := i) (m := m) (by clear hm; lia) h57 h58 (by rw [List.length_map]; clear hm; lia)
    have hm2 := half_lt (n := 36) (show i < 36 by clear hm; lia) hm
    have hi2 : i + 1 + n = 32 := by clear hm; lia
    unfold Wr
    by_cases hd : m / 2 = 0
    · have h1 : m % 2 = 1 := (Nat.mod_two_eq_zero_or_one m).resolve_left fun h => h0 (by have e := Nat.div_add_mod m 2; rw [hd, h] at e; exact e.symm)
      rw [if_pos ⟨h1, hd⟩] at er
      rw [if_pos h1] at e58
      rw [if_pos h1, hd, Wr_zero, List.map_append]
      exact ⟨σ', e58, for_brk er⟩
    · rw [if_neg fun h => hd h.2] at er
      have go : ∀ nm', nm'.length ≤ i + 1 → look σ' 58 = some (.own (nm'.map .str)) → ∃ σ2, look σ2 58 = some (.own ((nm' ++ Wr n (i + 1) (m / 2)).map .str)) ∧ forGo [37] (fun σ' => runs C pfBody σ') (fun σ' => runs C pfEls σ') (rngL (i : Nat) (n + 1)) σ = some (σ2, .next) := by
        intro nm' hl' e'
        obtain ⟨σ2, f58, fr⟩ := ih (i + 1) (m / 2) nm' σ' hi2 hm2 hl' hd e57 e'
        exact ⟨σ2, f58, (for_cons er).trans fr⟩
      by_cases h1 : m % 2 = 1
      · rw [if_pos h1] at e58 ⊢
        have := go (nm ++ [wordL i]) (by rw [List.length_append]; exact Nat.succ_le_succ hn) (e58.trans (by rw [List.map_append]; rfl))
        rw [List.append_assoc] at this
        exact this
      · rw [if_neg h1] at e58 ⊢
        exact go nm (Nat.le_succ_of_le hn) e58

theorem strsOf_map (l : List (List Nat)) : strsOf (l.map .str) = some l := by
  induction l with
  | nil => rfl
  | cons a r ih => exact mapE ih rfl

theorem word_ok : ∀ i < 32, (wordL i).length ≤ 20 ∧ (wordL i).all (· != 44) = true := by decide +kernel
theorem high_ok : ∀ m < 16, (hexL ((m * 2 ^ 32 : Nat) : Int)).length ≤ 20 ∧ (hexL ((m * 2 ^ 32 : Nat) : Int)).all (· != 44) = true := by decide +kernel
theorem Wr_ok : ∀ (n i m : Nat), i + n = 32 → m < 2 ^ (36 - i) → (Wr n i m).length ≤ n + 1 ∧ ∀ w ∈ Wr n i m, w.length ≤ 20 ∧ w.all (· != 44) = true
  | 0, i, m, hi, hm => by
    have hi : i = 32 := hi
    rw [hi] at hm ⊢
    unfold Wr
    by_cases h0 : m = 0
    · rw [if_pos h0]
      exact ⟨Nat.zero_le _, fun w hw => absurd hw List.not_mem_nil⟩
    · rw [if_neg h0]
      refine ⟨Nat.le_refl _, fun w hw => ?_⟩
      rw [List.mem_singleton.mp hw]
      exact high_ok m hm
  | n + 1, i, m, hi, hm => by
    have hm2 := half_lt (n := 36) (show i < 36 by clear hm; lia) hm
    obtain ⟨a, b⟩ := Wr_ok n (i + 1) (m / 2) (by clear hm hm2; lia) hm2
    unfold Wr
    by_cases h1 : m % 2 = 1
    · rw [if_pos h1]
      refine ⟨Nat.succ_le_succ a, fun w hw => ?_⟩
      rcases List.mem_cons.mp hw with e | hw
      · rw [e]
        exact word_ok i (by clear hm hm2; lia)
      · exact b w hw
    · rw [if_neg h1]
      exact ⟨Nat.le_succ_of_le a, b⟩
theorem joinL_len (sep : List Nat) : ∀ (l : List (List Nat)), (∀ w ∈ l, w.length ≤ 20) → (joinL sep l).length ≤ l.length * (20 + sep.length)
  | [], _ => by simp [joinL]
  | [x], h => by
    have := h x (by simp)
    simp [joinL]
    lia
  | x :: y :: r, h => by
    have h1 := h x (by simp)
    have h2 := joinL_len sep (y :: r) fun w hw => h w (List.mem_cons_of_mem _ hw)
    simp only [joinL, List.length_append, List.length_cons, Nat.add_mul] at h2 ⊢
    lia
noncomputable def wordsOfF (F : Nat) : List (List Nat) := Wr 32 0 F
theorem meth_join {sep : List Nat} {l : List (List Nat)} (h1 : (joinL sep l).length ≤ 1000) (h2 : l.length ≤ 1000) (h3 : sep.length ≤ 16) : methD 2 (.str sep) [.lst (l.map .str)] = some (.str (joinL sep l)) :=
  bindE (o := strsOf (l.map .str)) (strsOf_map l) (if_pos (by rw [decide_eq_true h1, decide_eq_true h2, decide_eq_true h3]; rfl))
theorem pf_run (C : Nat → List D → Option D) (F : Nat) (h0 : F ≠ 0) (h1 : F < 2 ^ 36) : callD C p1_pretty_flags s1_pretty_flags [.int (F : Nat)] = some (.str (joinL [44, 32] (wordsOfF F))) := by
  rw [pf_eq]
  obtain ⟨σ', h58, er⟩ := pf_loop C 32 0 F [] (upd (upd [] 57 (.frz (.int (F : Nat)))) 58 (.own [])) rfl h1 (Nat.le_refl 0) h0 (by rw [Nat.pow_zero, Nat.mul_one]; rfl) rfl
  obtain ⟨a, b⟩ := Wr_ok 32 0 F rfl h1
  have hj := joinL_len [44, 32] (Wr 32 0 F) fun w hw => (b w hw).1
  have hj1 : (joinL [44, 32] (Wr 32 0 F)).length ≤ 1000 := Nat.le_trans hj (Nat.le_trans (Nat.mul_le_mul_right _ a) (by decide))
  have hj2 : (Wr 32 0 F).length ≤ 1000 := Nat.le_trans a (by decide)
  refine c_ret rfl (r_step (s_new' rfl rfl) (r_step (s_for' (d := .lst (rngL ((0 : Nat) : Int) 32)) rfl rfl er) (r_out (s_ret' (w_meth w_lit (ws_cons (w_var (look_fz h58)) ws_nil) (meth_join hj1 hj2 (by decide)))))))
end Mv.Pl
end
section
open PySem PySem.W
open PySem.Builtin.Str
set_option Elab.async false
namespace Mv.Pl

noncomputable def cuts : Nat → List Nat → List Nat
  | _, [] => []
  | a, c :: r => if c = 44 then a :: cuts (a + 1) r else cuts (a + 1) r
noncomputable def Good : List Nat → Prop
  | [] => True
  | c :: r => (c = 44 → r.head? = some 32) ∧ Good r
noncomputable abbrev sepS : Str := strOf [44, 32]
theorem subAt_list (pre s : List Nat) : subAt (strOf (pre ++ s)) sepS pre.length = (s.take 2 == [44, 32]) := by
  show ((pre ++ s).toArray.extract pre.length (pre.length + 2) == [44, 32].toArray) = _
  have h : (pre ++ s).toArray.extract pre.length (pre.length + 2) = (s.take 2).toArray := by
    apply Array.ext'
    simp
  rw [h]
  cases e : (List.take 2 s == [44, 32]) with
  | true => rw [beq_iff_eq.mp e]; rfl
  | false => simpa using e
theorem strOf_len (l : List Nat) : (strOf l).length = l.length := by
  simp [strOf, Str.length]
theorem occ_list (limit : Nat) : ∀ (s pre : List Nat) (found : Array Nat) (free : Nat), Good s → found.size ≤ pre.length → pre.length + s.length < limit → (free ≤ pre.length ∨ (free = pre.length + 1 ∧ s.head? ≠ some 44)) →
    (forIn (List.range' pre.length (s.length + 1)) (found, free) (StrLaws.occBody (strOf (pre ++ s)) sepS (pre ++ s).length limit)).run.fst.toList = found.toList ++ cuts pre.length s := by
  intro s
  induction s with
  | nil =>
    intro pre found free _ h1 h2 h3
    simp only [List.length_nil, Nat.zero_add, List.range', List.forIn_cons, List.forIn_nil, List.append_nil, cuts]
    unfold StrLaws.occBody
    have : ¬ (((((found, free) : Array Nat × Nat).fst.size < limit ∧ ((found, free) : Array Nat × Nat).snd ≤ pre.length) ∧ pre.length + sepS.length ≤ pre.length) ∧ subAt (strOf pre) sepS pre.length = true) := by
      rintro ⟨⟨_, h⟩, _⟩
      have : sepS.length = 2 := rfl
      lia
    rw [if_neg this]
    rfl
  | cons c r ih =>
    intro pre found free hg h1 h2 h3
    have e2 : sepS.length = 2 := rfl
    have hr : List.range' pre.length ((c :: r).length + 1) = pre.length :: List.range' (pre ++ [c]).length (r.length + 1) := by
      simp [List.range'_succ]
    have hx : pre ++ c :: r = (pre ++ [c]) ++ r := by simp
    rw [hr, List.forIn_cons]
    have hc1 : (c :: r).length = r.length + 1 := rfl
    have hp1 : (pre ++ [c]).length = pre.length + 1 := by simp
    by_cases h44 : c = 44
    · subst h44
      obtain ⟨r', rfl⟩ : ∃ r', r = 32 :: r' := by
        have := hg.1 rfl
        cases r with
        | nil => simp at this
        | cons x r' => simp at this; exact ⟨r', by rw [this]⟩
      have hf : free ≤ pre.length := by
        rcases h3 with h | ⟨_, h⟩
        · exact h
        · simp at h
      have cond : ((((found, free) : Array Nat × Nat).fst.size < limit ∧ ((found, free) : Array Nat × Nat).snd ≤ pre.length) ∧ pre.length + sepS.length ≤ (pre ++ 44 :: 32 :: r').length) ∧ subAt (strOf (pre ++ 44 :: 32 :: r')) sepS pre.length = true := by
        refine ⟨⟨⟨by simp only; lia, hf⟩, ?_⟩, ?_⟩
        · simp; lia
        · rw [subAt_list]; rfl
      have step : StrLaws.occBody (strOf (pre ++ 44 :: 32 :: r')) sepS (pre ++ 44 :: 32 :: r').length limit pre.length (found, free) = pure (ForInStep.yield (found.push pre.length, pre.length + 2)) := by
        unfold StrLaws.occBody
        rw [if_pos cond]
        rfl
      rw [step]
      have := ih (pre ++ [44]) (found.push pre.length) (pre.length + 2) hg.2 (by simp; lia) (by simp at h2 ⊢; lia) (.inr ⟨by simp, by simp⟩)
      rw [← hx] at this
      simp only [pure_bind]
      rw [this]
      simp [cuts]
    · have cond : ¬ (((((found, free) : Array Nat × Nat).fst.size < limit ∧ ((found, free) : Array Nat × Nat).snd ≤ pre.length) ∧ pre.length + sepS.length ≤ (pre ++ c :: r).length) ∧ subAt (strOf (pre ++ c :: r)) sepS pre.length = true) := by
        rintro ⟨_, h⟩
        rw [subAt_list] at h
        have h' := beq_iff_eq.mp h
        simp at h'
        exact h44 h'.1
      have step : StrLaws.occBody (strOf (pre ++ c :: r)) sepS (pre ++ c :: r).length limit pre.length (found, free) = pure (ForInStep.yield (found, free)) := by
        unfold StrLaws.occBody
        rw [if_neg cond]
      rw [step]
      have := ih (pre ++ [c]) found free hg.2 (by simp; lia) (by simp at h2 ⊢; lia) (.inl (by rw [hp1]; rcases h3 with h | ⟨h, _⟩ <;> lia))
      rw [← hx] at this
      simp only [pure_bind]
      rw [this]
      simp [cuts, h44]
theorem cuts_app : ∀ (w s : List Nat) (a : Nat), w.all (· != 44) = true → cuts a (w ++ s) = cuts (a + w.length) s
  | [], s, a, _ => rfl
  | c :: w, s, a, h => by
    simp only [List.all_cons, Bool.and_eq_true] at h
    have h1 : c ≠ 44 := by simpa using h.1
    simp only [List.cons_append, cuts, if_neg h1]
    rw [cuts_app w s (a + 1) h.2, List.length_cons, show a + 1 + w.length = a + (w.length + 1) by lia]
theorem good_app : ∀ (w s : List Nat), w.all (· != 44) = true → Good s → Good (w ++ s)
  | [], s, _, g => g
  | c :: w, s, h, g => by
    simp only [List.all_cons, Bool.and_eq_true] at h
    have h1 : c ≠ 44 := by simpa using h.1
    exact ⟨fun e => absurd e h1, good_app w s h.2 g⟩
theorem good_join : ∀ (ws : List (List Nat)), (∀ w ∈ ws, w.all (· != 44) = true) → Good (joinL [44, 32] ws)
  | [], _ => trivial
  | [w], h => by
    have := good_app w [] (h w (by simp)) trivial
    simpa [joinL] using this
  | w :: y :: r, h => by
    have ih := good_join (y :: r) fun w hw => h w (List.mem_cons_of_mem _ hw)
    show Good (w ++ [44, 32] ++ joinL [44, 32] (y :: r))
    rw [List.append_assoc]
    refine good_app w _ (h w (by simp)) ⟨fun _ => rfl, fun e => absurd e (by decide), ih⟩
noncomputable def pieces (l : List Nat) (a : Nat) (cs : List Nat) : List (List Nat) := ((a :: cs.map (· + 2)).zip (cs ++ [l.length])).map fun p => (l.take p.2).drop p.1
theorem pieces_join : ∀ (ws : List (List Nat)) (pre : List Nat), ws ≠ [] → (∀ w ∈ ws, w.all (· != 44) = true) → pieces (pre ++ joinL [44, 32] ws) pre.length (cuts pre.length (joinL [44, 32] ws)) = ws
  | [], _, h, _ => absurd rfl h
  | [w], pre, _, h => by
    have hc : cuts pre.length w = [] := by
      have := cuts_app w [] pre.length (h w (by simp))
      simpa [cuts] using this
    simp only [joinL, hc, pieces, List.map_nil, List.nil_append, List.zip_cons_cons, List.zip_nil_left, List.map_cons]
    rw [List.take_of_length_le (by simp)]
    simp
  | w :: y :: r, pre, _, h => by
    have ih := pieces_join (y :: r) (pre ++ w ++ [44, 32]) (by simp) fun w hw => h w (List.mem_cons_of_mem _ hw)
    have hj : joinL [44, 32] (w :: y :: r) = w ++ ([44, 32] ++ joinL [44, 32] (y :: r)) := by
      show w ++ [44, 32] ++ joinL [44, 32] (y :: r) = _
      rw [List.append_assoc]
    have hl : (pre ++ w ++ [44, 32]).length = pre.length + w.length + 2 := by simp; lia
    have hc : cuts pre.length (joinL [44, 32] (w :: y :: r)) = (pre.length + w.length) :: cuts (pre.length + w.length + 2) (joinL [44, 32] (y :: r)) := by
      rw [hj, cuts_app w _ _ (h w (by simp))]
      rfl
    have hx : pre ++ joinL [44, 32] (w :: y :: r) = (pre ++ w ++ [44, 32]) ++ joinL [44, 32] (y :: r) := by
      rw [hj]
      simp
    rw [hc, hx]
    rw [hl] at ih
    generalize hJ : joinL [44, 32] (y :: r) = J at ih ⊢
    generalize hL : pre ++ w ++ [44, 32] ++ J = L at ih ⊢
    have e1 : pieces L pre.length ((pre.length + w.length) :: cuts (pre.length + w.length + 2) J) = (L.take (pre.length + w.length)).drop pre.length :: pieces L (pre.length + w.length + 2) (cuts (pre.length + w.length + 2) J) := by
      simp [pieces]
    rw [e1, ih]
    congr 1
    subst hL
    rw [List.append_assoc, List.take_append_of_le_length (by simp), List.take_of_length_le (by simp)]
    simp
theorem partsBetween_list (l : List Nat) (cs : List Nat) : (partsBetween (strOf l) cs 2).map (fun y => y.cps.toList) = pieces l 0 cs := by
  unfold partsBetween pieces strSub strOf
  simp only [List.map_map, Str.length]
  apply List.map_congr_left
  intro p _
  simp [List.drop_take]
theorem split_join (ws : List (List Nat)) (hne : ws ≠ []) (h : ∀ w ∈ ws, w.all (· != 44) = true) : (Txt.split (strOf (joinL [44, 32] ws)) sepS).map (fun y => y.cps.toList) = ws := by
  have ho : occurrences (strOf (joinL [44, 32] ws)) sepS 0 (strOf (joinL [44, 32] ws)).length ((strOf (joinL [44, 32] ws)).length + 1) = cuts 0 (joinL [44, 32] ws) := by
    rw [StrLaws.occ_eq]
    have := occ_list ((joinL [44, 32] ws).length + 1) (joinL [44, 32] ws) [] #[] 0 (good_join ws h) (by simp) (by simp) (.inl (by simp))
    simp only [List.length_nil, List.nil_append] at this
    rw [strOf_len, Nat.sub_zero, this]
  have hp := pieces_join ws [] hne h
  simp only [List.nil_append, List.length_nil] at hp
  have hk : ∀ x : Str, ¬ Builtin.Str.strKind x < Builtin.Str.strKind sepS := by
    intro x
    have : Builtin.Str.strKind sepS = 1 := by decide +kernel
    rw [this]
    unfold Builtin.Str.strKind
    split
    · lia
    · split <;> lia
  have e2 : sepS.length = 2 := rfl
  by_cases h1 : ∃ w, ws = [w]
  · obtain ⟨w, rfl⟩ := h1
    have hc : cuts 0 w = [] := by
      have := cuts_app w [] 0 (h w (by simp))
      simpa [cuts] using this
    unfold Txt.split
    rw [ho]
    simp only [joinL, hc]
    simp [strOf]
  · have h2 : ∃ w y r, ws = w :: y :: r := by
      match ws, hne, h1 with
      | [w], _, h1 => exact absurd ⟨w, rfl⟩ h1
      | w :: y :: r, _, _ => exact ⟨w, y, r, rfl⟩
    obtain ⟨w, y, r, rfl⟩ := h2
    have hj : joinL [44, 32] (w :: y :: r) = w ++ ([44, 32] ++ joinL [44, 32] (y :: r)) := by
      show w ++ [44, 32] ++ joinL [44, 32] (y :: r) = _
      rw [List.append_assoc]
    have hn : (cuts 0 (joinL [44, 32] (w :: y :: r))).isEmpty = false := by
      rw [hj, cuts_app w _ _ (h w (by simp))]
      rfl
    have hlen : 2 ≤ (joinL [44, 32] (w :: y :: r)).length := by
      rw [hj]
      simp
      lia
    unfold Txt.split
    rw [ho]
    have c1 : (decide ((strOf (joinL [44, 32] (w :: y :: r))).length < sepS.length) || decide (Builtin.Str.strKind (strOf (joinL [44, 32] (w :: y :: r))) < Builtin.Str.strKind sepS)) = false := by
      rw [decide_eq_false (hk _), strOf_len, e2, decide_eq_false (by lia)]
      rfl
    rw [c1, hn, e2]
    simp only [Bool.false_eq_true, if_false]
    rw [partsBetween_list, hp]
end Mv.Pl
end
section
open PySem PySem.W
set_option Elab.async false
namespace Mv.Pl

noncomputable def bump (c : List Nat) (g : Nat) : List Nat := (c ++ List.replicate (g + 1 - c.length) 0).set g ((c ++ List.replicate (g + 1 - c.length) 0).getD g 0 + 1)
theorem bump_len (c : List Nat) (g : Nat) : (bump c g).length = max c.length (g + 1) := by
  simp [bump]
  lia
theorem bump_get (c : List Nat) (g s : Nat) : (bump c g).getD s 0 = c.getD s 0 + if s = g then 1 else 0 := by
  unfold bump
  have hp : ∀ s, (c ++ List.replicate (g + 1 - c.length) 0).getD s 0 = c.getD s 0 := by
    intro s
    simp only [List.getD_eq_getElem?_getD, List.getElem?_append]
    split
    · rfl
    · rename_i h
      rw [show c[s]? = none from List.getElem?_eq_none (by lia)]
      by_cases h2 : s - c.length < g + 1 - c.length
      · rw [List.getElem?_replicate_of_lt h2]
        rfl
      · rw [List.getElem?_eq_none (by simp; lia)]
  have hl : g < (c ++ List.replicate (g + 1 - c.length) 0).length := by simp; lia
  by_cases hs : s = g
  · subst hs
    rw [if_pos rfl, ← hp s]
    simp only [List.getD_eq_getElem?_getD, List.getElem?_set]
    rw [if_pos trivial, if_pos hl]
    rfl
  · rw [if_neg hs, ← hp s]
    simp only [List.getD_eq_getElem?_getD, List.getElem?_set]
    rw [if_neg fun h => hs h.symm]
    rfl
noncomputable def topN : List Nat → Nat
  | [] => 0
  | a :: r => max a (topN r)
theorem foldl_bump (gs : List Nat) : ∀ c : List Nat, (gs.foldl bump c).length = gs.foldl (fun n g => max n (g + 1)) c.length ∧ ∀ s, (gs.foldl bump c).getD s 0 = c.getD s 0 + gs.count s := by
  induction gs with
  | nil => intro c; simp
  | cons g r ih =>
    intro c
    obtain ⟨a, b⟩ := ih (bump c g)
    refine ⟨by simp only [List.foldl_cons]; rw [a, bump_len], fun s => ?_⟩
    simp only [List.foldl_cons]
    rw [b s, bump_get, List.count_cons]
    by_cases h : s = g
    · subst h; simp; lia
    · rw [if_neg h]
      have : (g == s) = false := by simp; lia
      rw [this]
      simp
theorem foldl_top (gs : List Nat) : ∀ n, gs.foldl (fun n g => max n (g + 1)) n = if gs = [] then n else max n (topN gs + 1) := by
  induction gs with
  | nil => intro n; rfl
  | cons g r ih =>
    intro n
    simp only [List.foldl_cons, topN]
    rw [ih, if_neg (List.cons_ne_nil g r)]
    by_cases h : r = []
    · rw [if_pos h, h]
      show _ = max n (max g 0 + 1)
      rw [Nat.max_zero]
    · rw [if_neg h, Nat.max_assoc, Nat.add_max_add_right]
noncomputable def hist (gs : List Nat) : List Nat := (List.range (topN gs + 1)).map fun s => gs.count s
theorem foldl_hist {gs : List Nat} (h : gs ≠ []) : gs.foldl bump [] = hist gs := by
  obtain ⟨a, b⟩ := foldl_bump gs []
  rw [foldl_top, if_neg h] at a
  apply List.ext_getElem?
  intro s
  have hl : (gs.foldl bump []).length = topN gs + 1 := by rw [a]; simp
  by_cases hs : s < topN gs + 1
  · have := b s
    simp only [List.getD_eq_getElem?_getD] at this
    rw [List.getElem?_eq_getElem (by lia)] at this ⊢
    simp only [Option.getD_some] at this
    rw [this]
    unfold hist
    rw [List.getElem?_map, List.getElem?_range hs]
    simp
  · rw [List.getElem?_eq_none (by lia), List.getElem?_eq_none (by simp [hist]; lia)]

noncomputable def natD (n : Nat) : D := .int (n : Int)
noncomputable def wsLoop : List SS := [(.ite (.cmp .eq (.var 32) (.var 6)) [(.asg 25 (.bin .add (.var 25) (.lit (.int 1)))), (.asg 31 (.bin .add (.var 31) (.lit (.int 1))))] [(.ite (.cmp .eq (.var 32) (.var 7)) [(.asg 25 (.bin .add (.var 25) (.lit (.int 1)))), (.asg 26 (.bin .add (.var 26) (.lit (.int 1)))), (.ite (.cmp .ge (.var 31) (.bf .len [(.bvar 1)])) [(.frz [1]), (.new 1 (.bin .add (.var 1) (.bin .mul (.lst [(.lit (.int 0))]) (.bin .add (.bin .sub (.var 31) (.bf .len [(.bvar 1)])) (.lit (.int 1))))))] []), (.setI 1 (.var 31) (.bin .add (.idx (.bvar 1) (.var 31)) (.lit (.int 1)))), (.asg 31 (.lit (.int 0)))] [.brk])])]
theorem init_eq : s1_init = [(.setA 29 24 (.var 30)), (.asgT [6, 7] (.tup [(.cat 6), (.cat 7)])), (.new 1 (.lst [])), (.asgs [31, 25, 26] (.lit (.int 0))), (.for_ [32] (.attr (.bvar 29) 24) wsLoop []), (.setA 29 25 (.var 25)), (.setA 29 26 (.var 26)), (.frz [1]), (.setA 29 27 (.tup [(.bf .tuple [(.var 1)]), (.var 31)])), (.setA 29 28 (.cmp .le (.bf .len [(.bvar 1)]) (.lit (.int 1))))] := rfl
structure WsI (raw : D) (c : List Nat) (b n nt : Nat) (σ : Env1) : Prop where
  i6 : look σ 6 = some (.frz (.str [32]))
  i7 : look σ 7 = some (.frz (.str [9]))
  i1 : look σ 1 = some (.own (c.map natD))
  i31 : look σ 31 = some (.frz (natD b))
  i25 : look σ 25 = some (.frz (natD n))
  i26 : look σ 26 = some (.frz (natD nt))
  i29 : look σ 29 = some (.ownI [24] [raw])
theorem repL_one {α : Type} (a : α) : ∀ n, repL n [a] = List.replicate n a
  | 0 => rfl
  | n + 1 => by simp [repL, repL_one a n, List.replicate_succ]
theorem add_nat (a b : Nat) : binD .add (natD a) (natD b) = some (natD (a + b)) := rfl
theorem sub_nat {a b : Nat} (h : b ≤ a) : binD .sub (natD a) (natD b) = some (natD (a - b)) := congrArg (fun x => some (D.int x)) (Int.ofNat_sub h).symm
theorem ws_blank (C : Nat → List D → Option D) {raw : D} {c : List Nat} {b n nt : Nat} {σ : Env1} (I : WsI raw c b n nt σ) :
    ∃ σ', WsI raw c (b + 1) (n + 1) nt σ' ∧ runs C wsLoop (upd σ 32 (.frz (.str [32]))) = some (σ', .next) := by
  obtain ⟨i6, i7, i1, i31, i25, i26, i29⟩ := I
  exact ⟨upd (upd (upd σ 32 (.frz (.str [32]))) 25 (.frz (natD (n + 1)))) 31 (.frz (natD (b + 1))), ⟨(by repeat (first | assumption | exact look_hit | refine look_miss rfl ?_)), (by repeat (first | assumption | exact look_hit | refine look_miss rfl ?_)), (by repeat (first | assumption | exact look_hit | refine look_miss rfl ?_)), (by repeat (first | assumption | exact look_hit | refine look_miss rfl ?_)), (by repeat (first | assumption | exact look_hit | refine look_miss rfl ?_)), (by repeat (first | assumption | exact look_hit | refine look_miss rfl ?_)), (by repeat (first | assumption | exact look_hit | refine look_miss rfl ?_))⟩,
    r_step (s_then (w_cmp (w_var (by repeat (first | assumption | exact look_hit | refine look_miss rfl ?_))) (w_var (by repeat (first | assumption | exact look_hit | refine look_miss rfl ?_))) rfl) (r_step (s_asg' (w_bin (w_var (by repeat (first | assumption | exact look_hit | refine look_miss rfl ?_))) w_lit (add_nat n 1))) (r_step (s_asg' (w_bin (w_var (by repeat (first | assumption | exact look_hit | refine look_miss rfl ?_))) w_lit (add_nat b 1))) r_nil))) r_nil⟩
theorem idx_map {l : List Nat} {i : Nat} (h : i < l.length) (hi : i < 1000000) : idxD (.lst (l.map natD)) (.int i) = some (natD (l.getD i 0)) := by
  refine idx_nat ?_ hi
  rw [List.getElem?_map, List.getElem?_eq_getElem h]
  simp [List.getD_eq_getElem?_getD, h]
theorem max_nat (a b : Nat) : bfD .max [natD a, natD b] = some (natD (max a b)) := by
  show some (D.int (if (a : Int) < (b : Int) then (b : Int) else (a : Int))) = _
  by_cases h : a < b
  · rw [if_pos (Int.ofNat_lt.mpr h), Nat.max_eq_right (Nat.le_of_lt h)]
    rfl
  · rw [if_neg fun h' => h (Int.ofNat_lt.mp h'), Nat.max_eq_left (Nat.le_of_not_lt h)]
    rfl
theorem initD_of {C : Nat → List D → Option D} {p0 : Nat} {r : List Nat} {B : List SS} {ds : List D} {σ0 σ1 : Env1} {ks : List Nat} {vs : List D} (h1 : updAll [] r ds = some σ0) (h2 : runs C B ((p0, .ownI [] []) :: σ0) = some (σ1, .next)) (h3 : look σ1 p0 = some (.ownI ks vs)) : initD C (p0 :: r) B ds = some (.inst ks vs) := (bindE h1 (bindE h2 (bindE h3 rfl)) : (updAll [] r ds).bind (fun σ => (runs C B ((p0, .ownI [] []) :: σ)).bind fun p => match p.2 with
    | .next => (look p.1 p0).bind fun t => match t with
      | .ownI ks vs => some (D.inst ks vs)
      | _ => none
    | _ => none) = _)
theorem mul_zeros {k : Nat} (h : k ≤ 1000) : binD .mul (.lst [.int 0]) (natD k) = some (.lst ((List.replicate k 0).map natD)) := by
  show (if (decide (0 ≤ (k : Int)) && decide ((k : Int) ≤ 1000) && decide (([D.int 0] : List D).length = 1)) = true then some (D.lst (repL (k : Int).toNat [D.int 0])) else none) = _
  rw [decide_eq_true (Int.natCast_nonneg _), decide_eq_true (show (k : Int) ≤ 1000 from Int.ofNat_le.mpr h), List.map_replicate, repL_one]
  rfl
theorem ws_tab (C : Nat → List D → Option D) {raw : D} {c : List Nat} {b n nt : Nat} {σ : Env1} (I : WsI raw c b n nt σ) (hb : b ≤ 400) (hc : c.length ≤ 401) :
    ∃ σ', WsI raw (bump c b) 0 (n + 1) (nt + 1) σ' ∧ runs C wsLoop (upd σ 32 (.frz (.str [9]))) = some (σ', .next) := by
  obtain ⟨i6, i7, i1, i31, i25, i26, i29⟩ := I
  have q2 : ∀ c2 : List Nat, b < c2.length → (∀ s, c2.getD s 0 = c2.getD s 0) → idxD (.lst (c2.map natD)) (natD b) = some (natD (c2.getD b 0)) := fun c2 h _ => idx_map h (Nat.lt_of_le_of_lt hb (by decide))
  have q3 : ∀ c2 : List Nat, b < c2.length → setAt (.own (c2.map natD)) (natD b) (natD (c2.getD b 0 + 1)) = some (.own ((c2.set b (c2.getD b 0 + 1)).map natD)) := fun c2 h => (if_pos (by
    rw [decide_eq_true (Int.natCast_nonneg b), List.length_map, decide_eq_true (Int.ofNat_lt.mpr h), decide_eq_true (show (b : Int) < 100000 by lia)]; rfl)).trans (by rw [List.map_set]; rfl)
  have hcl : (c.map natD).length = c.length := List.length_map _
  have e9 : bfD .len [.lst (c.map natD)] = some (natD c.length) := (if_pos (decide_eq_true (by rw [hcl]; lia))).trans (by rw [hcl]; rfl)
  have e8 : cmpD .ge (natD b) (natD c.length) = some (decide (c.length ≤ b)) := congrArg some (decide_eq_decide.mpr Int.ofNat_le)
  let σ1 : Env1 := upd (upd (upd σ 32 (.frz (.str [9]))) 25 (.frz (natD (n + 1)))) 26 (.frz (natD (nt + 1)))
  -- the tab's own part, once the list is long enough
  have tail : ∀ (c2 : List Nat) (σ2 : Env1), b < c2.length → c2.set b (c2.getD b 0 + 1) = bump c b → look σ2 1 = some (.own (c2.map natD)) → look σ2 31 = some (.frz (natD b)) → runs C [(.setI 1 (.var 31) (.bin .add (.idx (.bvar 1) (.var 31)) (.lit (.int 1)))), (.asg 31 (.lit (.int 0)))] σ2 = some (upd (upd σ2 1 (.own ((bump c b).map natD))) 31 (.frz (natD 0)), .next) := by
    intro c2 σ2 h1 h2 h3 h4
    rw [← h2]
    exact r_step (s_setI' (w_bin (w_idx (w_bvarO h3) (w_var h4) (q2 c2 h1 fun _ => rfl)) w_lit (add_nat _ 1)) h3 (w_var h4) (q3 c2 h1)) (r_step (s_asg' w_lit) r_nil)
  have head : ∀ σ2 σ3, run C (.ite (.cmp .ge (.var 31) (.bf .len [(.bvar 1)])) [(.frz [1]), (.new 1 (.bin .add (.var 1) (.bin .mul (.lst [(.lit (.int 0))]) (.bin .add (.bin .sub (.var 31) (.bf .len [(.bvar 1)])) (.lit (.int 1))))))] []) σ1 = some (σ2, .next) → runs C [(.setI 1 (.var 31) (.bin .add (.idx (.bvar 1) (.var 31)) (.lit (.int 1)))), (.asg 31 (.lit (.int 0)))] σ2 = some (σ3, .next) → runs C wsLoop (upd σ 32 (.frz (.str [9]))) = some (σ3, .next) := fun σ2 σ3 h1 h2 =>
    r_step (s_else (w_cmp (w_var look_hit) (w_var (look_miss rfl i6)) rfl) (r_step (s_then (w_cmp (w_var look_hit) (w_var (look_miss rfl i7)) rfl) (r_step (s_asg' (w_bin (w_var (look_miss rfl i25)) w_lit (add_nat n 1))) (r_step (s_asg' (w_bin (w_var (look_miss rfl (look_miss rfl i26))) w_lit (add_nat nt 1))) (r_step h1 h2)))) r_nil)) r_nil
  have j31 : look σ1 31 = some (.frz (natD b)) := look_miss rfl (look_miss rfl (look_miss rfl i31))
  have j1 : look σ1 1 = some (.own (c.map natD)) := look_miss rfl (look_miss rfl (look_miss rfl i1))
  have j6 : look σ1 6 = some (.frz (.str [32])) := look_miss rfl (look_miss rfl (look_miss rfl i6))
  have j7 : look σ1 7 = some (.frz (.str [9])) := look_miss rfl (look_miss rfl (look_miss rfl i7))
  have j29 : look σ1 29 = some (.ownI [24] [raw]) := look_miss rfl (look_miss rfl (look_miss rfl i29))
  by_cases hge : c.length ≤ b
  · rw [decide_eq_true hge] at e8
    have e3 : binD .mul (.lst [.int 0]) (natD (b - c.length + 1)) = some (.lst ((List.replicate (b - c.length + 1) 0).map natD)) := mul_zeros (by lia)
    have hn : b + 1 - c.length = b - c.length + 1 := Nat.succ_sub hge
    have hlen : (c ++ List.replicate (b - c.length + 1) 0).length = b + 1 := by rw [List.length_append, List.length_replicate, ← hn]; exact Nat.add_sub_of_le (Nat.le_succ_of_le hge)
    have e4 : binD .add (.lst (c.map natD)) (.lst ((List.replicate (b - c.length + 1) 0).map natD)) = some (.lst ((c ++ List.replicate (b - c.length + 1) 0).map natD)) := (if_pos (decide_eq_true (by rw [← List.length_append, ← List.map_append, List.length_map, hlen]; lia))).trans (by rw [List.map_append])
    exact ⟨_, ⟨look_miss rfl (look_miss rfl (look_miss rfl (look_fs0 rfl j6))), look_miss rfl (look_miss rfl (look_miss rfl (look_fs0 rfl j7))), look_miss rfl look_hit, look_hit, look_miss rfl (look_miss rfl (look_miss rfl (look_fs0 rfl (look_miss rfl look_hit)))), look_miss rfl (look_miss rfl (look_miss rfl (look_fs0 rfl look_hit))), look_miss rfl (look_miss rfl (look_miss rfl (look_fs0 rfl j29)))⟩,
      head (upd (frzSome [1] σ1) 1 (.own ((c ++ List.replicate (b - c.length + 1) 0).map natD))) _ (s_then (w_cmp (w_var j31) (w_bf (ws_cons (w_bvarO j1) ws_nil) e9) e8) (r_step s_frz' (r_step (s_new' (w_bin (w_var (look_fs1 rfl j1)) (w_bin (w_lst (ws_cons w_lit ws_nil)) (w_bin (w_bin (w_var (look_fs0 rfl j31)) (w_bf (ws_cons (w_bvarF (look_fs1 rfl j1)) ws_nil) e9) (sub_nat hge)) w_lit (add_nat _ 1)) e3) e4) rfl) r_nil)))
        (tail _ _ (hlen ▸ Nat.lt_succ_self b) (by unfold bump; rw [hn]) look_hit (look_miss rfl (look_fs0 rfl j31)))⟩
  · rw [decide_eq_false hge] at e8
    have hlt : b < c.length := Nat.lt_of_not_le hge
    have hz : b + 1 - c.length = 0 := Nat.sub_eq_zero_of_le hlt
    exact ⟨_, ⟨look_miss rfl (look_miss rfl j6), look_miss rfl (look_miss rfl j7), look_miss rfl look_hit, look_hit, look_miss rfl (look_miss rfl (look_miss rfl look_hit)), look_miss rfl (look_miss rfl look_hit), look_miss rfl (look_miss rfl j29)⟩,
      head σ1 _ (s_else (w_cmp (w_var j31) (w_bf (ws_cons (w_bvarO j1) ws_nil) e9) e8) r_nil) (tail c σ1 hlt (by unfold bump; rw [hz, List.replicate_zero, List.append_nil]) j1 j31)⟩
end Mv.Pl
end
section
open PySem PySem.W
set_option Elab.async false
set_option linter.unusedSimpArgs false
namespace Mv.Pl

theorem runs_cons {C : Nat → List D → Option D} {s : SS} {B : List SS} {σ σ' : Env1} (h : run C s σ = some (σ', .next)) : runs C (s :: B) σ = runs C B σ' := r_step h rfl
theorem runs_for {C : Nat → List D → Option D} {xs : List Nat} {it : SE} {body els B : List SS} {σ σ' : Env1} {d : D} {l : List D} (h1 : evE C it σ = some d) (h2 : itemsD d = some l)
    (h3 : forGo xs (fun σ' => runs C body σ') (fun σ' => runs C els σ') l σ = some (σ', .next)) : runs C (.for_ xs it body els :: B) σ = runs C B σ' := r_step (s_for' h1 h2 h3) rfl
noncomputable def chD (l : List Nat) : List D := l.map fun c => .str [c]
noncomputable def blockS : List Nat → List Nat
  | [] => []
  | g :: r => List.replicate g 32 ++ 9 :: blockS r
theorem ws_blanks (C : Nat → List D → Option D) (els : Env1 → Option (Env1 × Fl)) {raw : D} {c : List Nat} {nt : Nat} : ∀ (g : Nat) {b n : Nat} {σ : Env1} (rest : List Nat), WsI raw c b n nt σ →
    ∃ σ', WsI raw c (b + g) (n + g) nt σ' ∧ forGo [32] (fun σ' => runs C wsLoop σ') els (chD (List.replicate g 32 ++ rest)) σ = forGo [32] (fun σ' => runs C wsLoop σ') els (chD rest) σ'
  | 0, b, n, σ, rest, I => ⟨σ, I, by simp⟩
  | g + 1, b, n, σ, rest, I => by
    obtain ⟨σ1, I1, e1⟩ := ws_blank C I
    obtain ⟨σ2, I2, e2⟩ := ws_blanks C els g rest I1
    refine ⟨σ2, by rw [show b + (g + 1) = b + 1 + g by lia, show n + (g + 1) = n + 1 + g by lia]; exact I2, ?_⟩
    rw [List.replicate_succ, List.cons_append]
    exact (for_cons e1).trans e2
theorem le_topN {g : Nat} : ∀ {l : List Nat}, g ∈ l → g ≤ topN l
  | a :: r, h => by
    simp only [topN]
    rcases List.mem_cons.mp h with rfl | h
    · lia
    · have := le_topN h
      lia
theorem ws_blocks (C : Nat → List D → Option D) (els : Env1 → Option (Env1 × Fl)) {raw : D} : ∀ (gs : List Nat) {c : List Nat} {n nt : Nat} {σ : Env1} (rest : List Nat), (∀ g ∈ gs, g ≤ 400) → c.length ≤ 401 → WsI raw c 0 n nt σ →
    ∃ σ', WsI raw (gs.foldl bump c) 0 (n + gs.sum + gs.length) (nt + gs.length) σ' ∧ forGo [32] (fun σ' => runs C wsLoop σ') els (chD (blockS gs ++ rest)) σ = forGo [32] (fun σ' => runs C wsLoop σ') els (chD rest) σ'
  | [], c, n, nt, σ, rest, _, _, I => ⟨σ, by simpa using I, rfl⟩
  | g :: r, c, n, nt, σ, rest, h, hc, I => by
    obtain ⟨σ1, I1, e1⟩ := ws_blanks C els g (9 :: (blockS r ++ rest)) I
    rw [Nat.zero_add] at I1
    have hg := h g (by simp)
    obtain ⟨σ2, I2, e2⟩ := ws_tab C I1 (by lia) hc
    obtain ⟨σ3, I3, e3⟩ := ws_blocks C els r rest (fun x hx => h x (List.mem_cons_of_mem _ hx)) (by rw [bump_len]; lia) I2
    refine ⟨σ3, ?_, ?_⟩
    · simp only [List.foldl_cons, List.sum_cons, List.length_cons]
      rw [show n + (g + r.sum) + (r.length + 1) = n + g + 1 + r.sum + r.length by lia, show nt + (r.length + 1) = nt + 1 + r.length by lia]
      exact I3
    · simp only [blockS, List.append_assoc, List.cons_append]
      rw [e1]
      exact (for_cons e2).trans e3
theorem ws_stop (C : Nat → List D → Option D) {x : Nat} (h1 : x ≠ 32) (h2 : x ≠ 9) {raw : D} {c : List Nat} {b n nt : Nat} {σ : Env1} (I : WsI raw c b n nt σ) :
    ∃ σ', WsI raw c b n nt σ' ∧ runs C wsLoop (upd σ 32 (.frz (.str [x]))) = some (σ', .brk) := by
  obtain ⟨i6, i7, i1, i31, i25, i26, i29⟩ := I
  have q1 : cmpD .eq (.str [x]) (.str [32]) = some false := congrArg some (beq_eq_false_iff_ne.mpr fun h => h1 (List.cons.inj h).1)
  have q2 : cmpD .eq (.str [x]) (.str [9]) = some false := congrArg some (beq_eq_false_iff_ne.mpr fun h => h2 (List.cons.inj h).1)
  exact ⟨upd σ 32 (.frz (.str [x])), ⟨look_miss rfl i6, look_miss rfl i7, look_miss rfl i1, look_miss rfl i31, look_miss rfl i25, look_miss rfl i26, look_miss rfl i29⟩, r_brk (s_else (w_cmp (w_var look_hit) (w_var (look_miss rfl i6)) q1) (r_brk (s_else (w_cmp (w_var look_hit) (w_var (look_miss rfl i7)) q2) (r_brk s_brk'))))⟩
noncomputable def nanny (raw : List Nat) (gs : List Nat) (tail : Nat) : D :=
  .inst [24, 25, 26, 27, 28] [.str raw, natD (gs.sum + gs.length + tail), natD gs.length, .tup [.tup ((hist gs).map natD), natD tail], .bool (decide ((hist gs).length ≤ 1))]
theorem hist_len (gs : List Nat) : (hist gs).length = topN gs + 1 := by simp [hist]
theorem topN_le {n : Nat} : ∀ {l : List Nat}, (∀ g ∈ l, g ≤ n) → topN l ≤ n
  | [], _ => by simp [topN]
  | a :: r, h => by
    simp only [topN]
    have := topN_le fun g hg => h g (List.mem_cons_of_mem _ hg)
    have := h a (by simp)
    lia
theorem init_run (C : Nat → List D → Option D) {gs : List Nat} (tail x : Nat) (rest : List Nat) (hne : gs ≠ []) (hg : ∀ g ∈ gs, g ≤ 400) (h1 : x ≠ 32) (h2 : x ≠ 9) :
    initD C p1_init s1_init [.str (blockS gs ++ (List.replicate tail 32 ++ x :: rest))] = some (nanny (blockS gs ++ (List.replicate tail 32 ++ x :: rest)) gs tail) := by
  rw [init_eq]
  generalize hraw : blockS gs ++ (List.replicate tail 32 ++ x :: rest) = raw
  let σ0 : Env1 := updEach (upd (upd (upd (upd [(29, .ownI [] []), (30, .frz (.str raw))] 29 (.ownI [24] [.str raw])) 6 (.frz (.str [32]))) 7 (.frz (.str [9]))) 1 (.own [])) [31, 25, 26] (.int 0)
  have I0 : WsI (.str raw) [] 0 0 0 σ0 := by
    constructor <;> rfl
  obtain ⟨σ1, I1, e1⟩ := ws_blocks C (fun σ => runs C [] σ) gs (List.replicate tail 32 ++ x :: rest) hg (by simp) I0
  obtain ⟨σ2, I2, e2⟩ := ws_blanks C (fun σ => runs C [] σ) tail (x :: rest) I1
  obtain ⟨σ3, I3, e3⟩ := ws_stop C h1 h2 I2
  have e4 : forGo [32] (fun σ' => runs C wsLoop σ') (fun σ => runs C [] σ) (chD (x :: rest)) σ2 = some (σ3, .next) := for_brk e3
  rw [e2, e4] at e1
  rw [hraw] at e1
  simp only [Nat.zero_add] at I3
  rw [foldl_hist hne] at I3
  have hl : (hist gs).length ≤ 401 := by rw [hist_len]; have := topN_le hg; lia
  obtain ⟨i6, i7, i1, i31, i25, i26, i29⟩ := I3
  have hi : itemsD (.str raw) = some (chD raw) := rfl
  have hrun : ∀ (B : List SS), runs C ((SS.setA 29 24 (.var 30)) :: (.asgT [6, 7] (.tup [(.cat 6), (.cat 7)])) :: (.new 1 (.lst [])) :: (.asgs [31, 25, 26] (.lit (.int 0))) :: B) ((29, .ownI [] []) :: upd [] 30 (.frz (.str raw))) = runs C B σ0 := fun B => rfl
  have b1 : bfD .tuple [.lst ((hist gs).map natD)] = some (.tup ((hist gs).map natD)) := if_pos (decide_eq_true (by rw [List.length_map]; lia))
  have b2 : bfD .len [.lst ((hist gs).map natD)] = some (natD (hist gs).length) := (if_pos (decide_eq_true (by rw [List.length_map]; lia))).trans (by rw [List.length_map]; rfl)
  have c1 : cmpD .le (natD (hist gs).length) (.int 1) = some (decide ((hist gs).length ≤ 1)) := congrArg some (decide_eq_decide.mpr Int.ofNat_le)
  have r := r_step (s_setA' (m := 25) (C := C) (w_var i25) i29 rfl) (r_step (s_setA' (m := 26) (w_var (look_miss rfl i26)) look_hit rfl) (r_step (s_frz' (xs := [1])) (r_step (s_setA' (m := 27) (w_tup (ws_cons (w_bf (f := .tuple) (ws_cons (w_var (look_fs1 rfl (look_miss rfl (look_miss rfl i1)))) ws_nil) b1) (ws_cons (w_var (look_fs0 rfl (look_miss rfl (look_miss rfl i31)))) ws_nil))) (look_fs0 rfl look_hit) rfl) (r_step (s_setA' (m := 28) (w_cmp (co := .le) (w_bf (f := .len) (ws_cons (w_bvarF (look_miss rfl (look_fs1 rfl (look_miss rfl (look_miss rfl i1))))) ws_nil) b2) (w_lit (d := .int 1)) c1) look_hit rfl) r_nil))))
  exact initD_of rfl ((hrun _).trans ((runs_for (d := .str raw) (l := chD raw) rfl hi e1).trans r)) look_hit

theorem nanny_norm (raw : List Nat) (gs : List Nat) (tail : Nat) : attrD (nanny raw gs tail) 27 = some (.tup [.tup ((hist gs).map natD), natD tail]) := rfl
theorem nanny_n (raw : List Nat) (gs : List Nat) (tail : Nat) : attrD (nanny raw gs tail) 25 = some (natD (gs.sum + gs.length + tail)) := rfl
theorem nanny_nt (raw : List Nat) (gs : List Nat) (tail : Nat) : attrD (nanny raw gs tail) 26 = some (natD gs.length) := rfl
theorem len_hist (gs : List Nat) (hg : topN gs ≤ 400) : bfD .len [.tup ((hist gs).map natD)] = some (natD (topN gs + 1)) := (if_pos (decide_eq_true (by rw [List.length_map, hist_len]; lia))).trans (by rw [List.length_map, hist_len]; rfl)
theorem longest_run (C : Nat → List D → Option D) (raw : List Nat) (gs : List Nat) (tail : Nat) (hg : topN gs ≤ 400) :
    callD C p1_longest_run_of_spaces s1_longest_run_of_spaces [nanny raw gs tail] = some (natD (max (topN gs) tail)) := by
  have hl := len_hist gs hg
  have nn := nanny_norm raw gs tail
  generalize nanny raw gs tail = N at nn ⊢
  exact c_ret rfl (r_step (s_asgT' (w_attr (w_bvarF rfl) nn) rfl) (r_out (s_ret' (w_bf (ws_cons (w_bin (w_bf (ws_cons (w_bvarF rfl) ws_nil) hl) w_lit (sub_nat (b := 1) (Nat.succ_pos _))) (ws_cons (w_var rfl) ws_nil)) (max_nat _ _)))))
noncomputable def level (gs : List Nat) (tail ts : Nat) : Nat := tail + ts * (gs.map fun g => g / ts + 1).sum
theorem rngL_eq : ∀ (n : Nat) (a : Nat), rngL (a : Int) n = (List.range' a n).map natD
  | 0, a => rfl
  | n + 1, a => by
    simp only [rngL, List.range'_succ, List.map_cons]
    rw [show ((a : Int) + 1) = ((a + 1 : Nat) : Int) by lia, rngL_eq n (a + 1)]
    rfl
theorem forGo_fold {α S : Type} {x : Nat} {body els : Env1 → Option (Env1 × Fl)} (I : S → Env1 → Prop) (f : S → α → S) (g : α → D) : ∀ {l : List α} {s : S} {σ : Env1}, I s σ → (∀ a ∈ l, ∀ s σ, I s σ → ∃ σ', I (f s a) σ' ∧ body (upd σ x (.frz (g a))) = some (σ', .next)) →
    ∃ σ', I (l.foldl f s) σ' ∧ forGo [x] body els (l.map g) σ = els σ'
  | [], s, σ, h, _ => ⟨σ, h, rfl⟩
  | a :: r, s, σ, h, hb => by
    obtain ⟨σ1, h1, e1⟩ := hb a List.mem_cons_self s σ h
    obtain ⟨σ2, h2, e2⟩ := forGo_fold I f g h1 fun d' hd => hb d' (List.mem_cons_of_mem _ hd)
    exact ⟨σ2, h2, (for_cons e1).trans e2⟩
theorem hist_get (gs : List Nat) (i : Nat) : (hist gs).getD i 0 = gs.count i := by
  unfold hist
  simp only [List.getD_eq_getElem?_getD, List.getElem?_map]
  by_cases h : i < topN gs + 1
  · rw [List.getElem?_range h]; rfl
  · rw [List.getElem?_eq_none (by simp; lia)]
    have : gs.count i = 0 := List.count_eq_zero.mpr fun hm => by have := le_topN hm; lia
    rw [this]
    rfl
theorem foldl_add (f : Nat → Nat) : ∀ (l : List Nat) (a : Nat), l.foldl (fun s i => s + f i) a = a + (l.map f).sum
  | [], a => by simp
  | x :: r, a => by
    simp only [List.foldl_cons, List.map_cons, List.sum_cons]
    rw [foldl_add f r]
    lia
theorem sum_count (f : Nat → Nat) (gs : List Nat) : ∀ (n a : Nat), (∀ g ∈ gs, a ≤ g → g < a + n) → ((List.range' a n).map fun i => f i * gs.count i).sum = ((gs.filter fun g => decide (a ≤ g)).map f).sum
  | 0, a, h => by
    have : gs.filter (fun g => decide (a ≤ g)) = [] := by
      rw [List.filter_eq_nil_iff]
      intro g hg h2
      have h3 : a ≤ g := by simpa using h2
      have := h g hg h3
      lia
    rw [this]
    simp
  | n + 1, a, h => by
    rw [List.range'_succ, List.map_cons, List.sum_cons, sum_count f gs n (a + 1) fun g hg h2 => by have := h g hg (by lia); lia]
    clear h
    induction gs with
    | nil => simp
    | cons g r ih =>
      rw [List.count_cons, Nat.mul_add]
      by_cases h1 : g = a
      · subst h1
        simp only [List.filter_cons, Nat.le_refl, decide_true, if_true, beq_self_eq_true, List.map_cons, List.sum_cons]
        rw [if_neg (by simp), ← ih]
        lia
      · have hb : (g == a) = false := by simpa using h1
        rw [hb]
        by_cases h2 : a ≤ g
        · have h3 : a + 1 ≤ g := by lia
          simp only [List.filter_cons, h2, h3, decide_true, if_true, List.map_cons, List.sum_cons]
          rw [← ih]
          simp
          lia
        · have h3 : ¬ a + 1 ≤ g := by lia
          simp only [List.filter_cons, h2, h3, decide_false, if_false, Bool.false_eq_true]
          rw [← ih]
          simp
theorem sum_filter_zero (f : Nat → Nat) (p : Nat → Bool) : ∀ (l : List Nat), (∀ g ∈ l, p g = false → f g = 0) → ((l.filter p).map f).sum = (l.map f).sum
  | [], _ => rfl
  | a :: r, h => by
    have ih := sum_filter_zero f p r fun g hg => h g (List.mem_cons_of_mem _ hg)
    simp only [List.filter_cons, List.map_cons, List.sum_cons]
    cases hp : p a with
    | true => simp [ih]
    | false => simp [ih, h a (by simp) hp]
theorem sum_add_one (f : Nat → Nat) : ∀ (l : List Nat), (l.map fun g => f g + 1).sum = (l.map f).sum + l.length
  | [] => rfl
  | a :: r => by simp [sum_add_one f r]; lia
theorem small_nat {n : Nat} (h : n < 1000000) : small (n : Int) = true := small_of (by lia) (by lia)
theorem rng_two {a b : Nat} (ha : a < 1000000) (hb : b < 1000000) : rngD [natD a, natD b] = some (.lst ((List.range' a (b - a)).map natD)) := by
  show (if (small (a : Int) && small (b : Int)) = true then some (D.lst (rngL (a : Int) ((b : Int) - (a : Int)).toNat)) else none) = _
  rw [small_nat ha, small_nat hb, Int.toNat_sub, rngL_eq]
  rfl
theorem rng_one {b : Nat} (hb : b < 1000000) : rngD [natD b] = some (.lst ((List.range b).map natD)) := by
  show (if small (b : Int) = true then some (D.lst (rngL ((0 : Nat) : Int) (b : Int).toNat)) else none) = _
  rw [small_nat hb, rngL_eq, List.range_eq_range', Int.toNat_natCast]
  rfl
theorem mul_nat {a b : Nat} (ha : a < 1000000) (hb : b < 1000000) : binD .mul (natD a) (natD b) = some (natD (a * b)) := by
  show (if (small (a : Int) && small (b : Int)) = true then some (D.int ((a : Int) * (b : Int))) else none) = _
  rw [small_nat ha, small_nat hb]
  rfl
theorem fdiv_nat {a b : Nat} (h0 : b ≠ 0) (hb : b < 1000000) : binD .fdiv (natD a) (natD b) = some (natD (a / b)) := by
  show (if ((b : Int) != 0 && small (b : Int)) = true then some (D.int ((a : Int).fdiv (b : Int))) else none) = _
  have : ((b : Int) != 0) = true := by simp; lia
  rw [small_nat hb, this, Int.fdiv_eq_ediv_of_nonneg _ (by lia)]
  rfl
theorem mod_nat {a b : Nat} (h0 : b ≠ 0) (hb : b < 1000000) : binD .mod (natD a) (natD b) = some (natD (a % b)) := by
  show (if ((b : Int) != 0 && small (b : Int)) = true then some (D.int ((a : Int).fmod (b : Int))) else none) = _
  have : ((b : Int) != 0) = true := by simp; lia
  rw [small_nat hb, this, Int.fmod_eq_emod_of_nonneg _ (by lia)]
  rfl
noncomputable def ilLoop : List SS := [(.asg 36 (.bin .add (.var 36) (.bin .mul (.bin .fdiv (.var 37) (.var 34)) (.idx (.bvar 1) (.var 37)))))]
structure IlI (c : List Nat) (N : D) (ts tail il : Nat) (σ : Env1) : Prop where
  i1 : look σ 1 = some (.frz (.tup (c.map natD)))
  i34 : look σ 34 = some (.frz (natD ts))
  i35 : look σ 35 = some (.frz (natD tail))
  i36 : look σ 36 = some (.frz (natD il))
  i29 : look σ 29 = some (.frz N)
theorem indent_run (C : Nat → List D → Option D) (raw : List Nat) (gs : List Nat) (tail ts : Nat) (hg : topN gs ≤ 400) (hl : gs.length ≤ 400) (ht : tail ≤ 1000) (h0 : 0 < ts) (hts : ts ≤ 1000) :
    callD C p1_indent_level s1_indent_level [nanny raw gs tail, natD ts] = some (natD (level gs tail ts)) := by
  have hlen := len_hist gs hg
  have nn := nanny_norm raw gs tail
  have nt := nanny_nt raw gs tail
  generalize nanny raw gs tail = N at nn nt ⊢
  have step : ∀ i ∈ List.range' ts (topN gs + 1 - ts), ∀ il σ, IlI (hist gs) N ts tail il σ → ∃ σ', IlI (hist gs) N ts tail (il + i / ts * gs.count i) σ' ∧ runs C ilLoop (upd σ 37 (.frz (natD i))) = some (σ', .next) := by
    intro i hi il σ I
    obtain ⟨i1, i34, i35, i36, i29⟩ := I
    rw [List.mem_range'_1] at hi
    have hil : i < (hist gs).length := by rw [hist_len]; lia
    have e1 : idxD (.tup ((hist gs).map natD)) (natD i) = some (natD (gs.count i)) := by
      have := idx_map (l := hist gs) hil (by lia)
      rw [hist_get] at this
      exact this
    have e2 : binD .fdiv (natD i) (natD ts) = some (natD (i / ts)) := fdiv_nat (by lia) (by lia)
    have hc : gs.count i ≤ gs.length := List.count_le_length
    have hi2 : i / ts ≤ i := Nat.div_le_self _ _
    have e3 : binD .mul (natD (i / ts)) (natD (gs.count i)) = some (natD (i / ts * gs.count i)) := mul_nat (by lia) (by lia)
    have e4 := add_nat il (i / ts * gs.count i)
    exact ⟨upd (upd σ 37 (.frz (natD i))) 36 (.frz (natD (il + i / ts * gs.count i))), ⟨look_miss rfl (look_miss rfl i1), look_miss rfl (look_miss rfl i34), look_miss rfl (look_miss rfl i35), look_hit, look_miss rfl (look_miss rfl i29)⟩,
      r_step (s_asg' (w_bin (w_var (look_miss rfl i36)) (w_bin (w_bin (w_var look_hit) (w_var (look_miss rfl i34)) e2) (w_idx (w_bvarF (look_miss rfl i1)) (w_var look_hit) e1) e3) e4)) r_nil⟩
  let σ0 : Env1 := upd (upd (upd (upd (upd [] 29 (.frz N)) 34 (.frz (natD ts))) 1 (.frz (.tup ((hist gs).map natD)))) 35 (.frz (natD tail))) 36 (.frz (natD 0))
  have I0 : IlI (hist gs) N ts tail 0 σ0 := by constructor <;> rfl
  obtain ⟨σ1, I1, e1⟩ := forGo_fold (x := 37) (body := fun σ' => runs C ilLoop σ') (els := fun σ' => runs C [] σ') (IlI (hist gs) N ts tail) (fun il i => il + i / ts * gs.count i) natD I0 step
  have hs : s1_indent_level = [(.asgT [1, 35] (.attr (.bvar 29) 27)), (.asg 36 (.lit (.int 0))), (.for_ [37] (.rng [(.var 34), (.bf .len [(.bvar 1)])]) ilLoop []), (.ret (.bin .add (.var 35) (.bin .mul (.var 34) (.bin .add (.var 36) (.attr (.bvar 29) 26)))))] := rfl
  have r1 : run C (.asgT [1, 35] (.attr (.bvar 29) 27)) (upd (upd [] 29 (.frz N)) 34 (.frz (natD ts))) = some (upd (upd (upd (upd [] 29 (.frz N)) 34 (.frz (natD ts))) 1 (.frz (.tup ((hist gs).map natD)))) 35 (.frz (natD tail)), .next) := by
    exact s_asgT' (w_attr (w_bvarF rfl) nn) rfl
  have r3 : evE C (.rng [(.var 34), (.bf .len [(.bvar 1)])]) σ0 = some (.lst ((List.range' ts (topN gs + 1 - ts)).map natD)) := w_rng (ws_cons (w_var rfl) (ws_cons (w_bf (ws_cons (w_bvarF rfl) ws_nil) hlen) ws_nil)) (rng_two (by lia) (by lia))
  have hd : (((List.range' ts (topN gs + 1 - ts)).foldl (fun il i => il + i / ts * gs.count i) 0) + gs.length) = (gs.map fun g => g / ts + 1).sum := by
    rw [foldl_add (fun i => i / ts * gs.count i), sum_count (fun i => i / ts), sum_add_one (fun g => g / ts), sum_filter_zero, Nat.zero_add]
    · intro g _ h
      exact Nat.div_eq_of_lt (by simpa using h)
    · intro g hg _
      have := le_topN hg
      lia
  generalize ((List.range' ts (topN gs + 1 - ts)).foldl (fun il i => il + i / ts * gs.count i) 0) = IL at I1 hd
  obtain ⟨i1, i34, i35, i36, i29⟩ := I1
  have hIL : IL + gs.length ≤ 400 * 401 := by
    rw [hd]
    have : ∀ l : List Nat, (∀ g ∈ l, g ≤ 400) → (l.map fun g => g / ts + 1).sum ≤ l.length * 401 := by
      intro l
      induction l with
      | nil => intro _; simp
      | cons a r ih =>
        intro h
        have h1 := ih fun g hg => h g (List.mem_cons_of_mem _ hg)
        have h2 := h a (by simp)
        have h3 : a / ts ≤ a := Nat.div_le_self _ _
        simp only [List.map_cons, List.sum_cons, List.length_cons]
        lia
    have := this gs fun g hg => Nat.le_trans (le_topN hg) ‹_›
    exact Nat.le_trans this (Nat.mul_le_mul_right _ hl)
  have hIL2 : IL + gs.length < 1000000 := Nat.lt_of_le_of_lt hIL (by decide)
  clear hIL
  rw [hs]
  have q1 := add_nat IL gs.length
  have q2 : binD .mul (natD ts) (natD (IL + gs.length)) = some (natD (ts * (IL + gs.length))) := mul_nat (by lia) (by lia)
  have q3 := add_nat tail (ts * (IL + gs.length))
  unfold level
  rw [← hd]
  exact c_ret rfl ((runs_cons r1).trans ((runs_cons (σ' := σ0) rfl).trans ((runs_for r3 rfl e1).trans (r_out (s_ret' (w_bin (w_var (look_fz i35)) (w_bin (w_var (look_fz i34)) (w_bin (w_var (look_fz i36)) (w_attr (w_bvarF (look_fz i29)) nt) q1) q2) q3))))))
end Mv.Pl
end
section
open PySem PySem.W
set_option Elab.async false
set_option linter.unusedSimpArgs false
namespace Mv.Pl

theorem forGo_acc {α : Type} {x : Nat} {body els : Env1 → Option (Env1 × Fl)} (B : Nat) (I : List D → Env1 → Prop) (f : α → List D) (g : α → D) (hf : ∀ a, (f a).length ≤ 1) : ∀ {l : List α} {s : List D} {σ : Env1}, s.length + l.length ≤ B + 1 → I s σ → (∀ a ∈ l, ∀ s σ, s.length ≤ B → I s σ → ∃ σ', I (s ++ f a) σ' ∧ body (upd σ x (.frz (g a))) = some (σ', .next)) →
    ∃ σ', I (s ++ l.flatMap f) σ' ∧ forGo [x] body els (l.map g) σ = els σ'
  | [], s, σ, _, h, _ => ⟨σ, by simpa using h, rfl⟩
  | a :: r, s, σ, hB, h, hb => by
    rw [List.length_cons] at hB
    have h2 := hf a
    obtain ⟨σ1, h1, e1⟩ := hb a List.mem_cons_self s σ (by lia) h
    obtain ⟨σ2, h2, e2⟩ := forGo_acc (els := els) B I f g hf (by simp; lia) h1 fun d' hd => hb d' (List.mem_cons_of_mem _ hd)
    refine ⟨σ2, ?_, (for_cons e1).trans e2⟩
    rw [List.flatMap_cons, ← List.append_assoc]
    exact h2
theorem flatMap_filter {α β : Type} (p : α → Bool) (f : α → β) : ∀ l : List α, (l.flatMap fun a => if p a = true then [f a] else []) = (l.filter p).map f
  | [] => rfl
  | a :: r => by
    rw [List.flatMap_cons, flatMap_filter p f r, List.filter_cons]
    cases p a <;> simp

structure WitI (N1 N2 : D) (s : List D) (σ : Env1) : Prop where
  i29 : look σ 29 = some (.frz N1)
  i33 : look σ 33 = some (.frz N2)
  i38 : look σ 38 = some (.own s)
noncomputable def witLoop (op : Cop) : List SS := [(.ite (.cmp op (.umeth (.var 29) 21 [(.var 39)]) (.umeth (.var 33) 21 [(.var 39)])) [(.app 38 (.tup [(.var 39), (.umeth (.var 29) 21 [(.var 39)]), (.umeth (.var 33) 21 [(.var 39)])]))] [])]
noncomputable def witAll (op : Cop) : List SS := [(.asg 25 (.bin .add (.bf .max [(.umeth (.var 29) 20 []), (.umeth (.var 33) 20 [])]) (.lit (.int 1)))), (.new 38 (.lst [])), (.for_ [39] (.rng [(.lit (.int 1)), (.bin .add (.var 25) (.lit (.int 1)))]) (witLoop op) []), (.ret (.var 38))]
noncomputable def cmpN : Cop → Nat → Nat → Bool
  | .eq, a, b => a == b
  | .ne, a, b => a != b
  | .lt, a, b => decide (a < b)
  | .le, a, b => decide (a ≤ b)
  | .gt, a, b => decide (b < a)
  | .ge, a, b => decide (b ≤ a)
theorem beq_nat (a b : Nat) : ((a : Int) == (b : Int)) = (a == b) := by
  cases e : a == b with
  | true => rw [beq_iff_eq.mp e]; exact beq_self_eq_true _
  | false => exact beq_eq_false_iff_ne.mpr fun h => beq_eq_false_iff_ne.mp e (Int.ofNat.inj h)
theorem cmp_nat (op : Cop) (a b : Nat) : cmpD op (natD a) (natD b) = some (cmpN op a b) := by
  cases op with
  | eq => exact congrArg some (beq_nat a b)
  | ne => exact congrArg (fun x => some !x) (beq_nat a b)
  | lt => exact congrArg some (decide_eq_decide.mpr Int.ofNat_lt)
  | le => exact congrArg some (decide_eq_decide.mpr Int.ofNat_le)
  | gt => exact congrArg some (decide_eq_decide.mpr Int.ofNat_lt)
  | ge => exact congrArg some (decide_eq_decide.mpr Int.ofNat_le)
noncomputable def rowD (f1 f2 : Nat → Nat) (ts : Nat) : D := .tup [natD ts, natD (f1 ts), natD (f2 ts)]
noncomputable def Asks (C : Nat → List D → Option D) (N : D) (m : Nat) (ds : List D) (d : D) : Prop := umethD C m N ds = some d
theorem wit_run (C : Nat → List D → Option D) (op : Cop) {N1 N2 : D} {m1 m2 : Nat} {f1 f2 : Nat → Nat} (h1 : Asks C N1 20 [] (natD m1)) (h2 : Asks C N2 20 [] (natD m2)) (b1 : m1 ≤ 400) (b2 : m2 ≤ 400)
    (g1 : ∀ ts, 0 < ts → ts ≤ 401 → Asks C N1 21 [natD ts] (natD (f1 ts))) (g2 : ∀ ts, 0 < ts → ts ≤ 401 → Asks C N2 21 [natD ts] (natD (f2 ts))) :
    callD C [29, 33] (witAll op) [N1, N2] = some (.lst (((List.range' 1 (max m1 m2 + 1)).filter fun ts => cmpN op (f1 ts) (f2 ts)).map (rowD f1 f2))) := by
  have step : ∀ ts ∈ List.range' 1 (max m1 m2 + 1), ∀ s σ, s.length ≤ 1000 → WitI N1 N2 s σ → ∃ σ', WitI N1 N2 (s ++ if cmpN op (f1 ts) (f2 ts) = true then [rowD f1 f2 ts] else []) σ' ∧ runs C (witLoop op) (upd σ 39 (.frz (natD ts))) = some (σ', .next) := by
    intro ts hts s σ hs I
    obtain ⟨i29, i33, i38⟩ := I
    rw [List.mem_range'_1] at hts
    have e1 : umethD C 21 N1 [natD ts] = some (natD (f1 ts)) := g1 ts (by lia) (by lia)
    have e2 : umethD C 21 N2 [natD ts] = some (natD (f2 ts)) := g2 ts (by lia) (by lia)
    have e3 := cmp_nat op (f1 ts) (f2 ts)
    have l29 : look (upd σ 39 (.frz (natD ts))) 29 = some (.frz N1) := look_miss rfl i29
    have l33 : look (upd σ 39 (.frz (natD ts))) 33 = some (.frz N2) := look_miss rfl i33
    have u1 := w_umeth (C := C) (w_var l29) (ws_cons (w_var look_hit) ws_nil) e1
    have u2 := w_umeth (C := C) (w_var l33) (ws_cons (w_var look_hit) ws_nil) e2
    have t := w_cmp u1 u2 e3
    cases hc : cmpN op (f1 ts) (f2 ts) with
    | true =>
      rw [hc] at t
      exact ⟨_, ⟨look_miss rfl l29, look_miss rfl l33, look_hit⟩, r_step (s_then t (r_step (s_app' (w_tup (ws_cons (w_var look_hit) (ws_cons u1 (ws_cons u2 ws_nil)))) (look_miss rfl i38) hs) r_nil)) r_nil⟩
    | false =>
      rw [hc] at t
      exact ⟨_, ⟨l29, l33, look_miss rfl (i38.trans (by rw [if_neg Bool.false_ne_true, List.append_nil]))⟩, r_step (s_else t r_nil) r_nil⟩
  let σ0 : Env1 := upd (upd (upd (upd [] 29 (.frz N1)) 33 (.frz N2)) 25 (.frz (natD (max m1 m2 + 1)))) 38 (.own [])
  have I0 : WitI N1 N2 [] σ0 := by constructor <;> rfl
  obtain ⟨σ1, I1, e1⟩ := forGo_acc (x := 39) (body := fun σ' => runs C (witLoop op) σ') (els := fun σ' => runs C [] σ') 1000 (WitI N1 N2) (fun ts => if cmpN op (f1 ts) (f2 ts) = true then [rowD f1 f2 ts] else []) natD (fun ts => by split <;> simp) (l := List.range' 1 (max m1 m2 + 1)) (by simp; lia) I0 step
  rw [flatMap_filter (fun ts => cmpN op (f1 ts) (f2 ts)) (rowD f1 f2), List.nil_append] at I1
  obtain ⟨i29, i33, i38⟩ := I1
  have hmax := max_nat m1 m2
  have a1 : umethD C 20 N1 [] = some (natD m1) := h1
  have a2 : umethD C 20 N2 [] = some (natD m2) := h2
  have p1 : binD .add (natD (max m1 m2)) (.int 1) = some (natD (max m1 m2 + 1)) := add_nat _ 1
  have r1 : run C (.asg 25 (.bin .add (.bf .max [(.umeth (.var 29) 20 []), (.umeth (.var 33) 20 [])]) (.lit (.int 1)))) (upd (upd [] 29 (.frz N1)) 33 (.frz N2)) = some (upd (upd (upd [] 29 (.frz N1)) 33 (.frz N2)) 25 (.frz (natD (max m1 m2 + 1))), .next) := by
    exact s_asg' (w_bin (w_bf (ws_cons (w_umeth (w_var rfl) ws_nil a1) (ws_cons (w_umeth (w_var rfl) ws_nil a2) ws_nil)) hmax) w_lit p1)
  have r3 : evE C (.rng [(.lit (.int 1)), (.bin .add (.var 25) (.lit (.int 1)))]) σ0 = some (.lst ((List.range' 1 (max m1 m2 + 1)).map natD)) := by
    have q1 : readE σ0 25 = some (natD (max m1 m2 + 1)) := rfl
    have q2 : binD .add (natD (max m1 m2 + 1)) (.int 1) = some (natD (max m1 m2 + 1 + 1)) := add_nat _ 1
    have q3 : rngD [.int 1, natD (max m1 m2 + 1 + 1)] = some (.lst ((List.range' 1 (max m1 m2 + 1)).map natD)) := rng_two (a := 1) (b := max m1 m2 + 1 + 1) (by decide) (by lia)
    exact w_rng (ws_cons w_lit (ws_cons (w_bin (w_var rfl) w_lit q2) ws_nil)) q3
  exact c_ret rfl ((runs_cons r1).trans ((runs_cons (σ' := σ0) rfl).trans ((runs_for r3 rfl e1).trans (r_out (s_ret' (w_var (look_fz i38)))))))
end Mv.Pl
end
section
open PySem PySem.W
set_option Elab.async false
set_option linter.unusedSimpArgs false
namespace Mv.Pl

noncomputable def F1 : UInt64 := 4607182418800017408
noncomputable def F2 : UInt64 := 4611686018427387904
noncomputable def F4 : UInt64 := 4616189618054758400
noncomputable def F6 : UInt64 := 4618441417868443648
noncomputable def Fh : UInt64 := 4602678819172646912
noncomputable def trunc? (x : UInt64) : Option Int := match Float64.decode x with
  | .fin sg m e => some (Float64.truncOf sg m e)
  | _ => none
noncomputable def sixth (h : UInt64) : Option (UInt64 × Int) := (trunc? (Float64.mul h F6)).bind fun i => if small i then some (Float64.sub (Float64.mul h F6) (Float64.ofInt i), i.fmod 6) else none
noncomputable def tri (a b c : UInt64) : D := .tup [.flt a, .flt b, .flt c]
noncomputable def rgbP (f : UInt64) (i : Int) (s v : UInt64) : Option D :=
  let p := Float64.mul v (Float64.sub F1 s)
  let q := Float64.mul v (Float64.sub F1 (Float64.mul s f))
  let t := Float64.mul v (Float64.sub F1 (Float64.mul s (Float64.sub F1 f)))
  if i == 0 then some (tri v t p) else if i == 1 then some (tri q v p) else if i == 2 then some (tri p v t) else if i == 3 then some (tri p q v) else if i == 4 then some (tri t p v) else if i == 5 then some (tri v p q) else none
theorem nz6 : Float64.isZero 4618441417868443648 = false := by decide +kernel
theorem nz1 : Float64.isZero 4607182418800017408 = false := by decide +kernel
theorem nz2 : Float64.isZero 4611686018427387904 = false := by decide +kernel
theorem div_flt {a b : UInt64} (h : Float64.isZero b = false) : binD .div (.flt a) (.flt b) = some (.flt (Float64.div a b)) := by
  show (if Float64.isZero b = true then none else some (D.flt (Float64.div a b))) = _
  rw [h]
  rfl
theorem mod_flt {a b : UInt64} (h : Float64.isZero b = false) : binD .mod (.flt a) (.flt b) = some (.flt (Float64.divmod a b).2) := by
  show (if Float64.isZero b = true then none else some (D.flt (Float64.divmod a b).2)) = _
  rw [h]
  rfl
theorem add_flt (a b : UInt64) : binD .add (.flt a) (.flt b) = some (.flt (Float64.add a b)) := rfl
theorem sub_flt (a b : UInt64) : binD .sub (.flt a) (.flt b) = some (.flt (Float64.sub a b)) := rfl
theorem mul_flt (a b : UInt64) : binD .mul (.flt a) (.flt b) = some (.flt (Float64.mul a b)) := rfl
theorem eq_flt (a b : UInt64) : cmpD .eq (.flt a) (.flt b) = some (Float64.cmp a b == some .eq) := rfl
theorem le_flt (a b : UInt64) : cmpD .le (.flt a) (.flt b) = some (Float64.cmp a b == some .lt || Float64.cmp a b == some .eq) := rfl
noncomputable def Ret (C : Nat → List D → Option D) (B : List SS) (σ : Env1) (d : D) : Prop := ∃ σ', runs C B σ = some (σ', .ret d)
section
variable {C : Nat → List D → Option D} {x : Nat} {e t : SE} {a b B B' : List SS} {σ σ' : Env1} {d r : D}
theorem callD_of {ps : List Nat} {ds : List D} (h1 : updAll [] ps ds = some σ) (h2 : Ret C B σ d) : callD C ps B ds = some d := by
  obtain ⟨σ', h2⟩ := h2
  exact c_ret h1 h2
theorem Ret.step {s : SS} (h : run C s σ = some (σ', .next)) (h2 : Ret C B σ' r) : Ret C (s :: B) σ r := by
  obtain ⟨σ2, h2⟩ := h2
  exact ⟨σ2, r_step h h2⟩
theorem Ret.same (h : runs C B σ = runs C B' σ') (h2 : Ret C B' σ' r) : Ret C B σ r := by
  obtain ⟨σ2, h2⟩ := h2
  exact ⟨σ2, h.trans h2⟩
theorem run_asg' (h : evE C e σ = some d) : run C (.asg x e) σ = some (upd σ x (.frz d), .next) := s_asg' h
theorem run_skip' (h : evE C t σ = some (.bool false)) : run C (.ite t a []) σ = some (σ, .next) := s_else h r_nil
theorem Ret.asg (h : evE C e σ = some d) (h2 : Ret C B (upd σ x (.frz d)) r) : Ret C (.asg x e :: B) σ r := .step (run_asg' h) h2
theorem Ret.skip (h : evE C t σ = some (.bool false)) (h2 : Ret C B σ r) : Ret C (.ite t a [] :: B) σ r := .step (run_skip' h) h2
theorem Ret.take (h : evE C t σ = some (.bool true)) (h2 : Ret C a σ r) : Ret C (.ite t a b :: B) σ r := by
  obtain ⟨σ2, h2⟩ := h2
  exact ⟨σ2, r_out (s_then h h2)⟩
theorem Ret.ret (h : evE C e (frzAll σ) = some d) : Ret C (.ret e :: B) σ d := ⟨σ, r_out (s_ret' h)⟩
theorem Ret.sel {c : Bool} {o : Option D} {r' : D} (h : (if c = true then some r' else o) = some r) (t0 : evE C t σ = some (.bool c)) (h1 : Ret C a σ r') (h2 : o = some r → Ret C B σ r) : Ret C (.ite t a [] :: B) σ r := by
  cases c with
  | true => exact Option.some.inj h ▸ .take t0 h1
  | false => exact .skip t0 (h2 h)
end
theorem run_then {C : Nat → List D → Option D} {t : SE} {a b : List SS} {σ σ' : Env1} (h : evE C t σ = some (.bool true)) (h2 : runs C a σ = some (σ', .next)) : run C (.ite t a b) σ = some (σ', .next) := s_then h h2
theorem run_else {C : Nat → List D → Option D} {t : SE} {a b : List SS} {σ σ' : Env1} (h : evE C t σ = some (.bool false)) (h2 : runs C b σ = some (σ', .next)) : run C (.ite t a b) σ = some (σ', .next) := s_else h h2
theorem max_flt (a b c : UInt64) : bfD .max [.flt a, .flt b, .flt c] = some (.flt (fmax2 (fmax2 a b) c)) := rfl
theorem min_flt (a b c : UInt64) : bfD .min [.flt a, .flt b, .flt c] = some (.flt (fmin2 (fmin2 a b) c)) := rfl
theorem eq_flt' {a b : UInt64} {v : Bool} (h : (Float64.cmp a b == some .eq) = v) : (cmpD .eq (.flt a) (.flt b)).map D.bool = some (D.bool v) := by rw [eq_flt, h]; rfl
theorem le_flt' {a b : UInt64} {v : Bool} (h : (Float64.cmp a b == some .lt || Float64.cmp a b == some .eq) = v) : (cmpD .le (.flt a) (.flt b)).map D.bool = some (D.bool v) := by rw [le_flt, h]; rfl
theorem int_flt {x : UInt64} {j : Int} (h : trunc? x = some j) : bfD .int [.flt x] = some (.int j) := by
  unfold trunc? at h
  show numInt (Float64.decode x) = _
  cases hd : Float64.decode x with
  | fin sg m e => rw [hd] at h; exact congrArg (fun x => some (D.int x)) (Option.some.inj h)
  | nan => rw [hd] at h; exact nos h
  | inf sg => rw [hd] at h; exact nos h
theorem sixth_inv {h f : UInt64} {i : Int} (h6 : sixth h = some (f, i)) : ∃ j, trunc? (Float64.mul h F6) = some j ∧ small j = true ∧ Float64.sub (Float64.mul h F6) (Float64.ofInt j) = f ∧ j.fmod 6 = i := by
  obtain ⟨j, ht, h⟩ := bind_inv h6
  obtain ⟨hj, h⟩ := if_inv h
  have h := Option.some.inj h
  exact ⟨j, ht, hj, congrArg (·.1) h, congrArg (·.2) h⟩
theorem sub_fi {a : UInt64} {j : Int} (h : small j = true) : binD .sub (.flt a) (.int j) = some (.flt (Float64.sub a (Float64.ofInt j))) := by
  exact if_pos h
theorem mod6 (j : Int) : binD .mod (.int j) (.int 6) = some (.int (j.fmod 6)) := rfl
noncomputable def rgbTail : List SS := s1_hsv_to_rgb.drop 7
theorem tail_run (C : Nat → List D → Option D) {i : Int} {σ : Env1} {v p q t : UInt64} {d : D} (h37 : readE σ 37 = some (.int i)) (f52 : readE (frzAll σ) 52 = some (.flt v)) (f54 : readE (frzAll σ) 54 = some (.flt p)) (f55 : readE (frzAll σ) 55 = some (.flt q)) (f56 : readE (frzAll σ) 56 = some (.flt t))
    (h : (if i == 0 then some (tri v t p) else if i == 1 then some (tri q v p) else if i == 2 then some (tri p v t) else if i == 3 then some (tri p q v) else if i == 4 then some (tri t p v) else if i == 5 then some (tri v p q) else none) = some d) : Ret C rgbTail σ d := by
  have tst : ∀ (k : Int), evE C (.cmp .eq (.var 37) (.lit (.int k))) σ = some (.bool (i == k)) := fun k => w_cmp (h37 : evE C (.var 37) σ = _) w_lit rfl
  have out : ∀ (a b c : Nat) (x y z : UInt64), readE (frzAll σ) a = some (.flt x) → readE (frzAll σ) b = some (.flt y) → readE (frzAll σ) c = some (.flt z) → Ret C [.ret (.tup [.var a, .var b, .var c])] σ (tri x y z) := fun a b c x y z ha hb hc =>
    .ret (w_tup (ws_cons (ha : evE C (.var a) _ = _) (ws_cons (hb : evE C (.var b) _ = _) (ws_cons (hc : evE C (.var c) _ = _) ws_nil))))
  exact .sel h (tst 0) (out 52 56 54 _ _ _ f52 f56 f54) fun h => .sel h (tst 1) (out 55 52 54 _ _ _ f55 f52 f54) fun h => .sel h (tst 2) (out 54 52 56 _ _ _ f54 f52 f56) fun h => .sel h (tst 3) (out 54 55 52 _ _ _ f54 f55 f52) fun h => .sel h (tst 4) (out 56 54 52 _ _ _ f56 f54 f52) fun h => .sel h (tst 5) (out 52 54 55 _ _ _ f52 f54 f55) nos
theorem rgb_run (C : Nat → List D → Option D) {h s v f : UInt64} {i : Int} {d : D} (hs : (Float64.cmp s 0 == some .eq) = false) (h6 : sixth h = some (f, i)) (hd : rgbP f i s v = some d) :
    callD C p1_hsv_to_rgb s1_hsv_to_rgb [.flt h, .flt s, .flt v] = some d := by
  obtain ⟨j, ht, hj, rfl, rfl⟩ := sixth_inv h6
  refine callD_of rfl ?_
  refine .skip (eq_flt' hs) ?_
  refine .asg (int_flt ht) ?_
  refine .asg (sub_fi hj) ?_
  refine .asg (mul_flt _ _) ?_
  refine .asg (mul_flt _ _) ?_
  refine .asg (mul_flt _ _) ?_
  refine .asg (mod6 j) ?_
  exact tail_run C rfl rfl rfl rfl rfl hd
noncomputable def hueP (mx mn r g b : UInt64) : Option UInt64 :=
  let rg := Float64.sub mx mn
  if Float64.isZero rg then none else
  let rc := Float64.div (Float64.sub mx r) rg
  let gc := Float64.div (Float64.sub mx g) rg
  let bc := Float64.div (Float64.sub mx b) rg
  let h := if Float64.cmp r mx == some .eq then Float64.sub bc gc else if Float64.cmp g mx == some .eq then Float64.sub (Float64.add F2 rc) bc else Float64.sub (Float64.add F4 gc) rc
  some (Float64.divmod (Float64.div h F6) F1).2
noncomputable def hsvP (r g b : UInt64) : Option D :=
  let mx := fmax2 (fmax2 r g) b
  let mn := fmin2 (fmin2 r g) b
  if Float64.cmp mn mx == some .eq then none else
  if Float64.isZero mx then none else
  (hueP mx mn r g b).map fun h => tri h (Float64.div (Float64.sub mx mn) mx) mx
noncomputable def hlsP (r g b : UInt64) : Option D :=
  let mx := fmax2 (fmax2 r g) b
  let mn := fmin2 (fmin2 r g) b
  if Float64.cmp mn mx == some .eq then none else
  let l := Float64.div (Float64.add mx mn) F2
  if Float64.cmp l Fh == some .lt || Float64.cmp l Fh == some .eq then
    if Float64.isZero (Float64.add mx mn) then none else (hueP mx mn r g b).map fun h => tri h l (Float64.div (Float64.sub mx mn) (Float64.add mx mn))
  else
    if Float64.isZero (Float64.sub (Float64.sub F2 mx) mn) then none else (hueP mx mn r g b).map fun h => tri h l (Float64.div (Float64.sub mx mn) (Float64.sub (Float64.sub F2 mx) mn))

theorem hue_inv {mx mn r g b h : UInt64} (e : hueP mx mn r g b = some h) : Float64.isZero (Float64.sub mx mn) = false ∧
    h = (Float64.divmod (Float64.div (if Float64.cmp r mx == some .eq then Float64.sub (Float64.div (Float64.sub mx b) (Float64.sub mx mn)) (Float64.div (Float64.sub mx g) (Float64.sub mx mn)) else if Float64.cmp g mx == some .eq then Float64.sub (Float64.add F2 (Float64.div (Float64.sub mx r) (Float64.sub mx mn))) (Float64.div (Float64.sub mx b) (Float64.sub mx mn)) else Float64.sub (Float64.add F4 (Float64.div (Float64.sub mx g) (Float64.sub mx mn))) (Float64.div (Float64.sub mx r) (Float64.sub mx mn))) F6) F1).2 := by
  unfold hueP at e
  cases hz : Float64.isZero (Float64.sub mx mn) with
  | true => simp [hz] at e
  | false => simp only [hz, Bool.false_eq_true, if_false, Option.some.injEq] at e; exact ⟨rfl, e.symm⟩
noncomputable def hueSS : List SS := [(.asg 48 (.bin .div (.bin .sub (.var 42) (.var 40)) (.var 45))), (.asg 49 (.bin .div (.bin .sub (.var 42) (.var 41)) (.var 45))), (.asg 50 (.bin .div (.bin .sub (.var 42) (.var 31)) (.var 45))), (.ite (.cmp .eq (.var 40) (.var 42)) [(.asg 51 (.bin .sub (.var 50) (.var 49)))] [(.ite (.cmp .eq (.var 41) (.var 42)) [(.asg 51 (.bin .sub (.bin .add (.lit (.flt 4611686018427387904)) (.var 48)) (.var 50)))] [(.asg 51 (.bin .sub (.bin .add (.lit (.flt 4616189618054758400)) (.var 49)) (.var 48)))])]), (.asg 51 (.bin .mod (.bin .div (.var 51) (.lit (.flt 4618441417868443648))) (.lit (.flt 4607182418800017408))))]
theorem hue_run (C : Nat → List D → Option D) {B : List SS} {σ : Env1} {mx mn r g b h : UInt64} (e : hueP mx mn r g b = some h) (i40 : look σ 40 = some (.frz (.flt r))) (i41 : look σ 41 = some (.frz (.flt g))) (i31 : look σ 31 = some (.frz (.flt b))) (i42 : look σ 42 = some (.frz (.flt mx))) (i45 : look σ 45 = some (.frz (.flt (Float64.sub mx mn)))) :
    ∃ σ', runs C (hueSS ++ B) σ = runs C B σ' ∧ look σ' 51 = some (.frz (.flt h)) ∧ ∀ n, n ≠ 48 → n ≠ 49 → n ≠ 50 → n ≠ 51 → look σ' n = look σ n := by
  obtain ⟨hz, hh⟩ := hue_inv e
  have sb : ∀ (σ : Env1) (x y z : Nat) (a b c : UInt64), look σ x = some (.frz (.flt a)) → look σ y = some (.frz (.flt b)) → look σ z = some (.frz (.flt c)) → Float64.isZero c = false → evE C (.bin .div (.bin .sub (.var x) (.var y)) (.var z)) σ = some (.flt (Float64.div (Float64.sub a b) c)) := by
    exact fun σ x y z a b c hx hy hz h0 => w_bin (w_bin (w_var hx) (w_var hy) (sub_flt _ _)) (w_var hz) (div_flt h0)
  have s1 := sb σ 42 40 45 mx r _ i42 i40 i45 hz
  let A : Nat × Ent := (48, .frz (.flt (Float64.div (Float64.sub mx r) (Float64.sub mx mn))))
  let B' : Nat × Ent := (49, .frz (.flt (Float64.div (Float64.sub mx g) (Float64.sub mx mn))))
  let D' : Nat × Ent := (50, .frz (.flt (Float64.div (Float64.sub mx b) (Float64.sub mx mn))))
  have s2 := sb (upds σ [A]) 42 41 45 mx g _ (look_out rfl i42) (look_out rfl i41) (look_out rfl i45) hz
  have s3 := sb (upds σ [B', A]) 42 31 45 mx b _ (look_out rfl i42) (look_out rfl i31) (look_out rfl i45) hz
  let σ3 := upds σ [D', B', A]
  have k50 : look σ3 50 = some D'.2 := look_in rfl
  have k49 : look σ3 49 = some B'.2 := look_in rfl
  have k48 : look σ3 48 = some A.2 := look_in rfl
  have k40 : look σ3 40 = _ := look_out rfl i40
  have k41 : look σ3 41 = _ := look_out rfl i41
  have k42 : look σ3 42 = _ := look_out rfl i42
  have tst : ∀ (x : Nat) (a : UInt64) (v : Bool), look σ3 x = some (.frz (.flt a)) → (Float64.cmp a mx == some .eq) = v → evE C (.cmp .eq (.var x) (.var 42)) σ3 = some (.bool v) := by
    exact fun x a v hx h => w_cmp (w_var hx) (w_var k42) (congrArg some h)
  have ab : ∀ (k : UInt64) (x y : Nat) (X Y : UInt64), look σ3 x = some (.frz (.flt X)) → look σ3 y = some (.frz (.flt Y)) → evE C (.bin .sub (.bin .add (.lit (.flt k)) (.var x)) (.var y)) σ3 = some (.flt (Float64.sub (Float64.add k X) Y)) := by
    exact fun k x y X Y hx hy => w_bin (w_bin w_lit (w_var hx) (add_flt _ _)) (w_var hy) (sub_flt _ _)
  have key : ∃ z, run C (.ite (.cmp .eq (.var 40) (.var 42)) [(.asg 51 (.bin .sub (.var 50) (.var 49)))] [(.ite (.cmp .eq (.var 41) (.var 42)) [(.asg 51 (.bin .sub (.bin .add (.lit (.flt 4611686018427387904)) (.var 48)) (.var 50)))] [(.asg 51 (.bin .sub (.bin .add (.lit (.flt 4616189618054758400)) (.var 49)) (.var 48)))])]) σ3 = some (upd σ3 51 (.frz (.flt z)), .next) ∧ h = (Float64.divmod (Float64.div z F6) F1).2 := by
    cases c4 : (Float64.cmp r mx == some .eq) with
    | true =>
      rw [c4] at hh
      exact ⟨Float64.sub (Float64.div (Float64.sub mx b) (Float64.sub mx mn)) (Float64.div (Float64.sub mx g) (Float64.sub mx mn)), s_then (tst 40 r true k40 c4) (r_step (s_asg' (w_bin (w_var k50) (w_var k49) (sub_flt _ _))) r_nil), hh⟩
    | false =>
    rw [c4] at hh
    cases c5 : (Float64.cmp g mx == some .eq) with
    | true =>
      rw [c5] at hh
      exact ⟨Float64.sub (Float64.add F2 (Float64.div (Float64.sub mx r) (Float64.sub mx mn))) (Float64.div (Float64.sub mx b) (Float64.sub mx mn)), s_else (tst 40 r false k40 c4) (r_step (s_then (tst 41 g true k41 c5) (r_step (s_asg' (ab F2 48 50 _ _ k48 k50)) r_nil)) r_nil), hh⟩
    | false =>
      rw [c5] at hh
      exact ⟨Float64.sub (Float64.add F4 (Float64.div (Float64.sub mx g) (Float64.sub mx mn))) (Float64.div (Float64.sub mx r) (Float64.sub mx mn)), s_else (tst 40 r false k40 c4) (r_step (s_else (tst 41 g false k41 c5) (r_step (s_asg' (ab F4 49 48 _ _ k49 k48)) r_nil)) r_nil), hh⟩
  obtain ⟨z, hr, hz2⟩ := key
  refine ⟨upd (upd σ3 51 (.frz (.flt z))) 51 (.frz (.flt h)), ?_, look_hit, fun n h1 h2 h3 h4 => ?_⟩
  · rw [hz2]
    exact r_step (s_asg' s1) (r_step (s_asg' s2) (r_step (s_asg' s3) (r_step hr (r_step (s_asg' (w_bin (w_bin (w_var look_hit) w_lit (div_flt nz6)) w_lit (mod_flt nz1))) rfl))))
  · have b : ∀ {m}, n ≠ m → Nat.beq n m = false := fun h => Bool.eq_false_iff.mpr fun h' => h (Nat.eq_of_beq_eq_true h')
    exact look_miss (b h4) (look_miss (b h4) (look_miss (b h3) (look_miss (b h2) (look_miss (b h1) rfl))))
theorem hue_ret {C : Nat → List D → Option D} {B : List SS} {σ : Env1} {mx mn r g b h : UInt64} {d : D} (e : hueP mx mn r g b = some h) (i40 : look σ 40 = some (.frz (.flt r))) (i41 : look σ 41 = some (.frz (.flt g))) (i31 : look σ 31 = some (.frz (.flt b))) (i42 : look σ 42 = some (.frz (.flt mx))) (i45 : look σ 45 = some (.frz (.flt (Float64.sub mx mn))))
    (k : ∀ σ', look σ' 51 = some (.frz (.flt h)) → (∀ n, n ≠ 48 → n ≠ 49 → n ≠ 50 → n ≠ 51 → look σ' n = look σ n) → Ret C B σ' d) : Ret C (hueSS ++ B) σ d := by
  obtain ⟨σ', hr, h1, h2⟩ := hue_run C (B := B) e i40 i41 i31 i42 i45
  exact .same hr (k σ' h1 h2)
theorem three {C : Nat → List D → Option D} {σ : Env1} {a b c : Nat} {x y z : UInt64} (ha : look σ a = some (.frz (.flt x))) (hb : look σ b = some (.frz (.flt y))) (hc : look σ c = some (.frz (.flt z))) : Ret C [.ret (.tup [.var a, .var b, .var c])] σ (tri x y z) := by
  exact .ret (w_tup (ws_cons (w_var (look_fz ha)) (ws_cons (w_var (look_fz hb)) (ws_cons (w_var (look_fz hc)) ws_nil))))
theorem hsv_run (C : Nat → List D → Option D) {r g b : UInt64} {d : D} (h : hsvP r g b = some d) : callD C p1_rgb_to_hsv s1_rgb_to_hsv [.flt r, .flt g, .flt b] = some d := by
  obtain ⟨c1, h⟩ := if_inv' h
  obtain ⟨c2, h⟩ := if_inv' h
  obtain ⟨hu, e, he⟩ := map_inv h
  rw [← he]
  refine callD_of rfl ?_
  refine .asg (max_flt r g b) (.asg (min_flt r g b) (.asg (sub_flt _ _) (.asg rfl ?_)))
  refine .skip (eq_flt' c1) (.asg (div_flt c2) ?_)
  show Ret C (hueSS ++ [.ret (.tup [(.var 51), (.var 47), (.var 52)])]) _ _
  exact hue_ret e rfl rfl rfl rfl rfl fun σ' h51 ho => three h51 ((ho 47 (by decide) (by decide) (by decide) (by decide)).trans rfl) ((ho 52 (by decide) (by decide) (by decide) (by decide)).trans rfl)
theorem hls_run (C : Nat → List D → Option D) {r g b : UInt64} {d : D} (h : hlsP r g b = some d) : callD C p1_rgb_to_hls s1_rgb_to_hls [.flt r, .flt g, .flt b] = some d := by
  obtain ⟨c1, h⟩ := if_inv' h
  refine callD_of rfl ?_
  refine .asg (max_flt r g b) (.asg (min_flt r g b) (.asg (add_flt _ _) (.asg (sub_flt _ _) (.asg (div_flt nz2) (.skip (eq_flt' c1) ?_)))))
  have fin : ∀ (l : UInt64) (σ : Env1) (hu : UInt64), hueP (fmax2 (fmax2 r g) b) (fmin2 (fmin2 r g) b) r g b = some hu → look σ 40 = some (.frz (.flt r)) → look σ 41 = some (.frz (.flt g)) → look σ 31 = some (.frz (.flt b)) → look σ 42 = some (.frz (.flt (fmax2 (fmax2 r g) b))) → look σ 45 = some (.frz (.flt (Float64.sub (fmax2 (fmax2 r g) b) (fmin2 (fmin2 r g) b)))) → look σ 47 = some (.frz (.flt l)) → look σ 46 = some (.frz (.flt (Float64.div (Float64.add (fmax2 (fmax2 r g) b) (fmin2 (fmin2 r g) b)) F2))) →
      Ret C (hueSS ++ [.ret (.tup [(.var 51), (.var 46), (.var 47)])]) σ (tri hu (Float64.div (Float64.add (fmax2 (fmax2 r g) b) (fmin2 (fmin2 r g) b)) F2) l) := by
    intro l σ hu e i1 i2 i3 i4 i5 i6 i7
    exact hue_ret e i1 i2 i3 i4 i5 fun σ' h51 ho => three h51 ((ho 46 (by decide) (by decide) (by decide) (by decide)).trans i7) ((ho 47 (by decide) (by decide) (by decide) (by decide)).trans i6)
  cases c6 : (Float64.cmp (Float64.div (Float64.add (fmax2 (fmax2 r g) b) (fmin2 (fmin2 r g) b)) F2) Fh == some .lt || Float64.cmp (Float64.div (Float64.add (fmax2 (fmax2 r g) b) (fmin2 (fmin2 r g) b)) F2) Fh == some .eq) with
  | true =>
    rw [if_pos c6] at h
    obtain ⟨c7, h⟩ := if_inv' h
    obtain ⟨hu, e, he⟩ := map_inv h
    rw [← he]
    exact .step (run_then (le_flt' c6) (runs_cons (run_asg' (div_flt c7)))) (fin _ _ hu e rfl rfl rfl rfl rfl rfl rfl)
  | false =>
    rw [if_neg (by rw [c6]; decide)] at h
    obtain ⟨c7, h⟩ := if_inv' h
    obtain ⟨hu, e, he⟩ := map_inv h
    rw [← he]
    exact .step (run_else (le_flt' c6) (runs_cons (run_asg' (div_flt c7)))) (fin _ _ hu e rfl rfl rfl rfl rfl rfl rfl)
end Mv.Pl
end
section
open PySem PySem.W
set_option Elab.async false
set_option linter.unusedSimpArgs false
namespace Mv.Pl

noncomputable def fl (a b : Nat) : UInt64 := Float64.ofFrac false a b
noncomputable def lightN (s v : Nat) : Nat := v * (8 - s)
noncomputable def lowN (s v : Nat) : Nat := min (lightN s v) (32 - lightN s v)
noncomputable def flts? : List D → Option (List UInt64)
  | [] => some []
  | d :: r => d.flt?.bind fun x => (flts? r).map (x :: ·)
theorem flts_inv : ∀ {l : List D} {r : List UInt64}, flts? l = some r → l = r.map .flt
  | [], r, h => by rw [← Option.some.inj h]; rfl
  | d :: l, r, h => by
    obtain ⟨x, h1, h2⟩ := bind_inv h
    obtain ⟨r', h3, h4⟩ := map_inv h2
    rw [← h4, flts_inv h3, flt_inv h1]
    rfl
noncomputable def tri? (d : Option D) : Option (List UInt64) := d.bind fun d => d.tup?.bind flts?
theorem tri_inv {d : Option D} {r : List UInt64} (h : tri? d = some r) : d = some (.tup (r.map .flt)) := by
  obtain ⟨x, h1, h2⟩ := bind_inv h
  obtain ⟨l, h3, h4⟩ := bind_inv h2
  rw [h1, tup_inv h3, flts_inv h4]
noncomputable def isTri (d : Option D) (a b c : UInt64) : Bool := tri? d == some [a, b, c]
theorem isTri_eq {d : Option D} {a b c : UInt64} (h : isTri d a b c = true) : d = some (tri a b c) := tri_inv (beq_iff_eq.mp h)
noncomputable def rgb? (n s v : Nat) : Option (List UInt64) := (sixth (fl n 16)).bind fun p => tri? (rgbP p.1 p.2 (fl s 4) (fl v 4))
noncomputable def chk (n s v : Nat) : Bool := match rgb? n s v with
  | some (r :: g :: b :: []) => isTri (hsvP r g b) (fl n 16) (fl s 4) (fl v 4) && isTri (hlsP r g b) (fl n 16) (fl (lightN s v) 32) (fl (s * v) (lowN s v))
  | _ => false
noncomputable def chkRow (n : Nat) : Bool := (List.range' 1 4).all fun s => (List.range' 1 4).all fun v => chk n s v
theorem row0 : chkRow 0 = true := by decide +kernel
theorem row1 : chkRow 1 = true := by decide +kernel
theorem row2 : chkRow 2 = true := by decide +kernel
theorem row3 : chkRow 3 = true := by decide +kernel
theorem row4 : chkRow 4 = true := by decide +kernel
theorem row5 : chkRow 5 = true := by decide +kernel
theorem row6 : chkRow 6 = true := by decide +kernel
theorem row7 : chkRow 7 = true := by decide +kernel
theorem row8 : chkRow 8 = true := by decide +kernel
theorem row9 : chkRow 9 = true := by decide +kernel
theorem row10 : chkRow 10 = true := by decide +kernel
theorem row11 : chkRow 11 = true := by decide +kernel
theorem row12 : chkRow 12 = true := by decide +kernel
theorem row13 : chkRow 13 = true := by decide +kernel
theorem row14 : chkRow 14 = true := by decide +kernel
theorem row15 : chkRow 15 = true := by decide +kernel
theorem sixths : (List.range 256).all (fun n => (sixth (fl n 16) == sixth (fl (n % 16) 16))) = true := by decide +kernel
theorem fin16 : (List.range 256).all (fun n => !Float64.isInf (fl n 16)) = true := by decide +kernel
theorem fin4 : (List.range 5).all (fun n => !Float64.isInf (fl n 4)) = true := by decide +kernel
theorem fin32 : (List.range 29).all (fun n => !Float64.isInf (fl n 32)) = true := by decide +kernel
theorem finlow : ((List.range' 1 4).all fun s => (List.range' 1 4).all fun v => !Float64.isInf (fl (s * v) (lowN s v)) && !Float64.isNaN (fl (s * v) (lowN s v)) && !Float64.isNaN (fl (lightN s v) 32) && lowN s v != 0) = true := by decide +kernel
theorem nan16 : (List.range 16).all (fun n => !Float64.isNaN (fl n 16) && (trunc? (Float64.mul (fl n 16) (Float64.ofInt 16)) == some (n : Int))) = true := by decide +kernel
theorem nan4 : (List.range' 1 4).all (fun n => !Float64.isNaN (fl n 4) && !(Float64.cmp (fl n 4) 0 == some .eq)) = true := by decide +kernel
end Mv.Pl
end
section
open PySem PySem.W
set_option Elab.async false
set_option linter.unusedSimpArgs false
namespace Mv.Pl

theorem all_range {n : Nat} {p : Nat → Bool} (h : (List.range n).all p = true) {i : Nat} (hi : i < n) : p i = true := List.all_eq_true.mp h i (List.mem_range.mpr hi)
theorem all_14 {p : Nat → Bool} (h : (List.range' 1 4).all p = true) {i : Nat} (h1 : 1 ≤ i) (h4 : i ≤ 4) : p i = true := List.all_eq_true.mp h i (by rw [List.mem_range'_1]; lia)
theorem rows : ∀ n < 16, chkRow n = true
  | 0, _ => row0 | 1, _ => row1 | 2, _ => row2 | 3, _ => row3 | 4, _ => row4 | 5, _ => row5 | 6, _ => row6 | 7, _ => row7
  | 8, _ => row8 | 9, _ => row9 | 10, _ => row10 | 11, _ => row11 | 12, _ => row12 | 13, _ => row13 | 14, _ => row14 | 15, _ => row15
  | n + 16, h => by lia
theorem chk_inv {n s v : Nat} (h : chk n s v = true) : ∃ r g b, rgb? n s v = some [r, g, b] ∧ isTri (hsvP r g b) (fl n 16) (fl s 4) (fl v 4) = true ∧ isTri (hlsP r g b) (fl n 16) (fl (lightN s v) 32) (fl (s * v) (lowN s v)) = true := by
  unfold chk at h
  revert h
  cases rgb? n s v with
  | none => exact nob
  | some l => cases l with
    | nil => exact nob
    | cons r l => cases l with
      | nil => exact nob
      | cons g l => cases l with
        | nil => exact nob
        | cons b l => cases l with
          | cons => exact nob
          | nil => exact fun h => ⟨r, g, b, rfl, and_inv h⟩
theorem colour {n s v : Nat} (hn : n < 256) (s1 : 1 ≤ s) (s4 : s ≤ 4) (v1 : 1 ≤ v) (v4 : v ≤ 4) : ∃ r g b : UInt64,
    (∀ C, callD C p1_hsv_to_rgb s1_hsv_to_rgb [.flt (fl n 16), .flt (fl s 4), .flt (fl v 4)] = some (tri r g b)) ∧
    (∀ C, callD C p1_rgb_to_hsv s1_rgb_to_hsv [.flt r, .flt g, .flt b] = some (tri (fl (n % 16) 16) (fl s 4) (fl v 4))) ∧
    (∀ C, callD C p1_rgb_to_hls s1_rgb_to_hls [.flt r, .flt g, .flt b] = some (tri (fl (n % 16) 16) (fl (lightN s v) 32) (fl (s * v) (lowN s v)))) := by
  have h0 := rows (n % 16) (Nat.mod_lt _ (by decide))
  have h1 : chk (n % 16) s v = true := all_14 (all_14 h0 s1 s4) v1 v4
  have h2 := beq_iff_eq.mp (all_range sixths hn)
  obtain ⟨r, g, b, hq, h3, h4⟩ := chk_inv h1
  obtain ⟨q, h6, hr⟩ := bind_inv hq
  have hc : (Float64.cmp (fl s 4) 0 == some .eq) = false := (Bool.not_eq_true' _).mp (and_inv (all_14 nan4 s1 s4)).2
  exact ⟨r, g, b, fun C => rgb_run C hc (h2.trans h6) (tri_inv hr), fun C => hsv_run C (isTri_eq h3), fun C => hls_run C (isTri_eq h4)⟩
theorem div_nat {a b : Nat} (ha : a < 1000000) (hb : b < 1000000) (h0 : b ≠ 0) (hf : Float64.isInf (fl a b) = false) : binD .div (natD a) (natD b) = some (.flt (fl a b)) := by
  show (if ((b : Int) != 0 && small (a : Int) && small (b : Int) && !Float64.isInf (Float64.ofFrac (decide ((a : Int) < 0) != decide ((b : Int) < 0)) (a : Int).natAbs (b : Int).natAbs)) = true then some (D.flt (Float64.ofFrac (decide ((a : Int) < 0) != decide ((b : Int) < 0)) (a : Int).natAbs (b : Int).natAbs)) else none) = _
  have e1 : decide ((a : Int) < 0) = false := decide_eq_false (Int.not_lt.mpr (Int.natCast_nonneg a))
  have e2 : decide ((b : Int) < 0) = false := decide_eq_false (Int.not_lt.mpr (Int.natCast_nonneg b))
  have e3 : ((b : Int) != 0) = true := bne_iff_ne.mpr (Int.ofNat_ne_zero.mpr h0)
  rw [e1, e2, e3, small_nat ha, small_nat hb]
  exact if_pos (congrArg (!·) hf)
theorem div16 {n : Nat} (h : n < 256) : binD .div (natD n) (.int 16) = some (.flt (fl n 16)) := div_nat (b := 16) (by lia) (by lia) (by lia) (by simpa using all_range fin16 h)
theorem div4 {n : Nat} (h : n ≤ 4) : binD .div (natD n) (.int 4) = some (.flt (fl n 4)) := div_nat (b := 4) (by lia) (by lia) (by lia) (by simpa using all_range fin4 (show n < 5 by lia))
theorem lightN_le {s v : Nat} (s1 : 1 ≤ s) (s4 : s ≤ 4) (v1 : 1 ≤ v) (v4 : v ≤ 4) : lightN s v ≤ 28 := by
  have : lightN s v ≤ 4 * 7 := Nat.mul_le_mul v4 (by lia)
  lia
theorem div32 {s v : Nat} (s1 : 1 ≤ s) (s4 : s ≤ 4) (v1 : 1 ≤ v) (v4 : v ≤ 4) : binD .div (natD (lightN s v)) (.int 32) = some (.flt (fl (lightN s v) 32)) := by
  have := lightN_le s1 s4 v1 v4
  exact div_nat (b := 32) (by lia) (by lia) (by lia) (by simpa using all_range fin32 (show lightN s v < 29 by lia))
theorem divLow {s v : Nat} (s1 : 1 ≤ s) (s4 : s ≤ 4) (v1 : 1 ≤ v) (v4 : v ≤ 4) : binD .div (natD (s * v)) (natD (lowN s v)) = some (.flt (fl (s * v) (lowN s v))) := by
  have h := all_14 (all_14 finlow s1 s4) v1 v4
  simp only [Bool.and_eq_true, Bool.not_eq_true'] at h
  have hv : s * v ≤ 4 * 4 := Nat.mul_le_mul s4 v4
  have hl := lightN_le s1 s4 v1 v4
  have hw : lowN s v ≤ 28 := by unfold lowN; lia
  exact div_nat (by lia) (by lia) (by simpa using h.2) h.1.1.1
noncomputable def toldD (odd : Bool) (n s v : Nat) : D := if odd then tri (fl (n % 16) 16) (fl (lightN s v) 32) (fl (s * v) (lowN s v)) else tri (fl (n % 16) 16) (fl s 4) (fl v 4)
theorem eqv_tri {k : Nat} {a b c : UInt64} (ha : Float64.isNaN a = false) (hb : Float64.isNaN b = false) (hc : Float64.isNaN c = false) : D.eqv (k + 1) (tri a b c) (tri a b c) = some true := by
  have hf : ∀ (n : Nat) (x : UInt64), Float64.isNaN x = false → D.eqv n (.flt x) (.flt x) = some true := by
    intro n x hx
    rw [eFF, hx, beq_self_eq_true]
    rfl
  exact bindE (hf k a ha) (mapE (bindE (hf k b hb) (mapE (bindE (hf k c hc) rfl) rfl)) rfl)
theorem eqvs_self {f : D → D → Option Bool} : ∀ {l : List D}, (∀ d ∈ l, f d d = some true) → eqvs f l l = some true
  | [], _ => rfl
  | a :: r, h => by
    exact bindE (h a List.mem_cons_self) (mapE (eqvs_self fun d hd => h d (List.mem_cons_of_mem _ hd)) rfl)
theorem eqv_told {k : Nat} (odd : Bool) (n : Nat) {s v : Nat} (s1 : 1 ≤ s) (s4 : s ≤ 4) (v1 : 1 ≤ v) (v4 : v ≤ 4) : D.eqv (k + 1) (toldD odd n s v) (toldD odd n s v) = some true := by
  have a := all_range nan16 (Nat.mod_lt n (show 0 < 16 by decide))
  have b := all_14 nan4 s1 s4
  have c := all_14 nan4 v1 v4
  have d := all_14 (all_14 finlow s1 s4) v1 v4
  simp only [Bool.and_eq_true, Bool.not_eq_true'] at a b c d
  unfold toldD
  split
  · exact eqv_tri a.1 d.1.2 d.1.1.2
  · exact eqv_tri a.1 b.1 c.1
theorem min_nat (a b : Nat) : bfD .min [natD a, natD b] = some (natD (min a b)) := by
  show some (D.int (if (b : Int) < (a : Int) then (b : Int) else (a : Int))) = _
  by_cases h : b < a
  · rw [if_pos (Int.ofNat_lt.mpr h), Nat.min_eq_right (Nat.le_of_lt h)]
    rfl
  · rw [if_neg fun h' => h (Int.ofNat_lt.mp h'), Nat.min_eq_left (Nat.le_of_not_lt h)]
    rfl
noncomputable def colLoop : List SS := [(.asg 71 (.bin .add (.lit (.int 1)) (.bin .mod (.bin .add (.var 68) (.var 62)) (.lit (.int 4))))), (.asg 72 (.bin .add (.lit (.int 1)) (.bin .mod (.bin .add (.bin .fdiv (.var 68) (.lit (.int 4))) (.bin .fdiv (.var 62) (.lit (.int 2)))) (.lit (.int 4))))), (.asg 73 (.bin .mul (.var 72) (.bin .sub (.lit (.int 8)) (.var 71)))), (.asg 74 (.bin .div (.bin .mod (.bin .add (.var 65) (.bin .mul (.var 62) (.var 66))) (.lit (.int 16))) (.lit (.int 16)))), (.asgT [75, 76, 77] (.call 9 [(.bin .div (.bin .add (.var 65) (.bin .mul (.var 62) (.var 66))) (.lit (.int 16))), (.bin .div (.var 71) (.lit (.int 4))), (.bin .div (.var 72) (.lit (.int 4)))])), (.ite (.cmp .eq (.bin .mod (.var 62) (.lit (.int 2))) (.lit (.int 0))) [(.app 69 (.call 10 [(.var 75), (.var 76), (.var 77)])), (.app 70 (.tup [(.var 74), (.bin .div (.var 71) (.lit (.int 4))), (.bin .div (.var 72) (.lit (.int 4)))]))] [(.app 69 (.call 11 [(.var 75), (.var 76), (.var 77)])), (.app 70 (.tup [(.var 74), (.bin .div (.var 73) (.lit (.int 32))), (.bin .div (.bin .mul (.var 71) (.var 72)) (.bf .min [(.var 73), (.bin .sub (.lit (.int 32)) (.var 73))]))]))])]
theorem col_eq : s1_law_colours = [(.new 69 (.lst [])), (.new 70 (.lst [])), (.for_ [62] (.rng [(.var 67)]) colLoop []), (.ret (.tup [(.var 69), (.var 70)]))] := rfl
structure ColI (st sp : Nat) (w : Int) (s : List D) (σ : Env1) : Prop where
  i65 : look σ 65 = some (.frz (natD st))
  i66 : look σ 66 = some (.frz (natD sp))
  i68 : look σ 68 = some (.frz (.int w))
  i69 : look σ 69 = some (.own s)
  i70 : look σ 70 = some (.own s)
noncomputable def shareW (w : Int) (k : Nat) : Nat := 1 + ((w + k).fmod 4).toNat
noncomputable def levelW (w : Int) (k : Nat) : Nat := 1 + ((w.fdiv 4 + ((k / 2 : Nat) : Int)).fmod 4).toNat
theorem mod4' (x : Int) : binD .mod (.int x) (.int 4) = some (natD (x.fmod 4).toNat) := by
  have h0 : 0 ≤ x.fmod 4 := Int.fmod_nonneg_of_pos _ (by decide)
  have e : (((x.fmod 4).toNat : Nat) : Int) = x.fmod 4 := by lia
  show (if ((4 : Int) != 0 && small 4) = true then some (D.int (x.fmod 4)) else none) = some (D.int (((x.fmod 4).toNat : Nat) : Int))
  rw [e]
  rfl
theorem lt_four {x : Int} (h0 : 0 ≤ x) (h : x < 4) : 1 ≤ 1 + x.toNat ∧ 1 + x.toNat ≤ 4 := ⟨Nat.le_add_right 1 _, by lia⟩
theorem share_in (w : Int) (k : Nat) : 1 ≤ shareW w k ∧ shareW w k ≤ 4 := by
  exact lt_four (Int.fmod_nonneg_of_pos _ (by decide)) (Int.fmod_lt_of_pos _ (by decide))
theorem level_in (w : Int) (k : Nat) : 1 ≤ levelW w k ∧ levelW w k ≤ 4 := by
  exact lt_four (Int.fmod_nonneg_of_pos _ (by decide)) (Int.fmod_lt_of_pos _ (by decide))
noncomputable def toldW (st sp : Nat) (w : Int) (k : Nat) : D := toldD (k % 2 == 1) (st + k * sp) (shareW w k) (levelW w k)
theorem col_step (C C' : Nat → List D → Option D) (c9 : ∀ ds, C 9 ds = callD C' p1_hsv_to_rgb s1_hsv_to_rgb ds) (c10 : ∀ ds, C 10 ds = callD C' p1_rgb_to_hsv s1_rgb_to_hsv ds) (c11 : ∀ ds, C 11 ds = callD C' p1_rgb_to_hls s1_rgb_to_hls ds)
    {st sp : Nat} {w : Int} {k : Nat} {s : List D} {σ : Env1} (hst : st < 16) (hsp : sp < 16) (hk : k < 16) (hs : s.length ≤ 1000) (I : ColI st sp w s σ) :
    ∃ σ', ColI st sp w (s ++ [toldW st sp w k]) σ' ∧ runs C colLoop (upd σ 62 (.frz (natD k))) = some (σ', .next) := by
  obtain ⟨i65, i66, i68, i69, i70⟩ := I
  have hks : k * sp ≤ 15 * 15 := Nat.mul_le_mul (by lia) (by lia)
  have hn : st + k * sp < 256 := by lia
  obtain ⟨s1, s4⟩ := share_in w k
  obtain ⟨v1, v4⟩ := level_in w k
  have e1 : binD .add (.int w) (natD k) = some (.int (w + k)) := rfl
  have e2 := mod4' (w + k)
  have e3 : binD .add (.int 1) (natD ((w + k).fmod 4).toNat) = some (natD (shareW w k)) := add_nat 1 _
  have e4 : binD .fdiv (.int w) (.int 4) = some (.int (w.fdiv 4)) := rfl
  have e5 : binD .fdiv (natD k) (.int 2) = some (natD (k / 2)) := fdiv_nat (b := 2) (by lia) (by lia)
  have e6 : binD .add (.int (w.fdiv 4)) (natD (k / 2)) = some (.int (w.fdiv 4 + ((k / 2 : Nat) : Int))) := rfl
  have e7 := mod4' (w.fdiv 4 + ((k / 2 : Nat) : Int))
  have e8 : binD .add (.int 1) (natD ((w.fdiv 4 + ((k / 2 : Nat) : Int)).fmod 4).toNat) = some (natD (levelW w k)) := add_nat 1 _
  have hL : toldW st sp w k = toldD (k % 2 == 1) (st + k * sp) (shareW w k) (levelW w k) := rfl
  generalize shareW w k = S at s1 s4 e3 hL
  generalize levelW w k = V at v1 v4 e8 hL
  obtain ⟨r, g, b, q1, q2, q3⟩ := colour hn s1 s4 v1 v4
  have e9 : binD .sub (.int 8) (natD S) = some (natD (8 - S)) := sub_nat (a := 8) (by lia)
  have e10 : binD .mul (natD V) (natD (8 - S)) = some (natD (lightN S V)) := mul_nat (by lia) (by lia)
  have e11 : binD .mul (natD k) (natD sp) = some (natD (k * sp)) := mul_nat (by lia) (by lia)
  have e12 := add_nat st (k * sp)
  have e13 : binD .mod (natD (st + k * sp)) (.int 16) = some (natD ((st + k * sp) % 16)) := mod_nat (b := 16) (by lia) (by lia)
  have e14 : binD .div (natD ((st + k * sp) % 16)) (.int 16) = some (.flt (fl ((st + k * sp) % 16) 16)) := div16 (by lia)
  have e15 := div16 hn
  have e16 := div4 s4
  have e17 := div4 v4
  have a1 : C 9 [.flt (fl (st + k * sp) 16), .flt (fl S 4), .flt (fl V 4)] = some (tri r g b) := by rw [c9, q1]
  have a2 : C 10 [.flt r, .flt g, .flt b] = some (tri (fl ((st + k * sp) % 16) 16) (fl S 4) (fl V 4)) := by rw [c10, q2]
  have a3 : C 11 [.flt r, .flt g, .flt b] = some (tri (fl ((st + k * sp) % 16) 16) (fl (lightN S V) 32) (fl (S * V) (lowN S V))) := by rw [c11, q3]
  have e18 := div32 s1 s4 v1 v4
  have e19 : binD .mul (natD S) (natD V) = some (natD (S * V)) := mul_nat (by lia) (by lia)
  have hl := lightN_le s1 s4 v1 v4
  have e20 : binD .sub (.int 32) (natD (lightN S V)) = some (natD (32 - lightN S V)) := sub_nat (a := 32) (by lia)
  have e21 : bfD .min [natD (lightN S V), natD (32 - lightN S V)] = some (natD (lowN S V)) := min_nat _ _
  have e22 := divLow s1 s4 v1 v4
  have e23 : binD .mod (natD k) (.int 2) = some (natD (k % 2)) := mod_nat (b := 2) (by lia) (by lia)
  have e24 : cmpD .eq (natD (k % 2)) (.int 0) = some (k % 2 == 0) := cmp_nat .eq (k % 2) 0
  rw [hL]
  have htri : tri r g b = .tup [.flt r, .flt g, .flt b] := rfl
  rw [htri] at a1
  let σ5 : Env1 := upds σ [(77, .frz (.flt b)), (76, .frz (.flt g)), (75, .frz (.flt r)), (74, .frz (.flt (fl ((st + k * sp) % 16) 16))), (73, .frz (natD (lightN S V))), (72, .frz (natD V)), (71, .frz (natD S)), (62, .frz (natD k))]
  have go : ∀ q, runs C (colLoop.drop 5) σ5 = q → runs C colLoop (upds σ [(62, .frz (natD k))]) = q := fun q h => r_step (σ' := upds σ [(71, .frz (natD S)), (62, .frz (natD k))]) (s_asg' (w_bin w_lit (w_bin (w_bin (w_var (look_out rfl i68)) (w_var (look_in rfl)) (by assumption)) w_lit (by assumption)) (by assumption))) (r_step (σ' := upds σ [(72, .frz (natD V)), (71, .frz (natD S)), (62, .frz (natD k))]) (s_asg' (w_bin w_lit (w_bin (w_bin (w_bin (w_var (look_out rfl i68)) w_lit (by assumption)) (w_bin (w_var (look_in rfl)) w_lit (by assumption)) (by assumption)) w_lit (by assumption)) (by assumption))) (r_step (σ' := upds σ [(73, .frz (natD (lightN S V))), (72, .frz (natD V)), (71, .frz (natD S)), (62, .frz (natD k))]) (s_asg' (w_bin (w_var (look_in rfl)) (w_bin w_lit (w_var (look_in rfl)) (by assumption)) (by assumption))) (r_step (σ' := upds σ [(74, .frz (.flt (fl ((st + k * sp) % 16) 16))), (73, .frz (natD (lightN S V))), (72, .frz (natD V)), (71, .frz (natD S)), (62, .frz (natD k))]) (s_asg' (w_bin (w_bin (w_bin (w_var (look_out rfl i65)) (w_bin (w_var (look_in rfl)) (w_var (look_out rfl i66)) (by assumption)) (by assumption)) w_lit (by assumption)) w_lit (by assumption))) (r_step (σ' := upds σ [(77, .frz (.flt b)), (76, .frz (.flt g)), (75, .frz (.flt r)), (74, .frz (.flt (fl ((st + k * sp) % 16) 16))), (73, .frz (natD (lightN S V))), (72, .frz (natD V)), (71, .frz (natD S)), (62, .frz (natD k))]) (s_asgT' (w_call (ws_cons (w_bin (w_bin (w_var (look_out rfl i65)) (w_bin (w_var (look_in rfl)) (w_var (look_out rfl i66)) (by assumption)) (by assumption)) w_lit (by assumption)) (ws_cons (w_bin (w_var (look_in rfl)) w_lit (by assumption)) (ws_cons (w_bin (w_var (look_in rfl)) w_lit (by assumption)) ws_nil))) (by assumption)) rfl) (h)))))
  have fin : ∀ d, ColI st sp w (s ++ [d]) (upd (upd σ5 69 (.own (s ++ [d]))) 70 (.own (s ++ [d]))) := fun d => ⟨look_miss rfl (look_miss rfl (look_out rfl i65)), look_miss rfl (look_miss rfl (look_out rfl i66)), look_miss rfl (look_miss rfl (look_out rfl i68)), look_miss rfl look_hit, look_hit⟩
  cases hp : (k % 2 == 0) with
  | true =>
    have ho : (k % 2 == 1) = false := beq_eq_false_iff_ne.mpr fun h => by rw [h] at hp; exact nob hp
    rw [hp] at e24
    rw [ho]
    exact ⟨_, fin _, go _ (r_step (s_then (w_cmp (w_bin (w_var (look_in rfl)) w_lit (by assumption)) w_lit (by assumption)) (r_step (s_app' (w_call (ws_cons (w_var (look_in rfl)) (ws_cons (w_var (look_in rfl)) (ws_cons (w_var (look_in rfl)) ws_nil))) (by assumption)) (look_out rfl i69) hs) (r_step (s_app' (w_tup (ws_cons (w_var (look_miss rfl (look_in rfl))) (ws_cons (w_bin (w_var (look_miss rfl (look_in rfl))) w_lit (by assumption)) (ws_cons (w_bin (w_var (look_miss rfl (look_in rfl))) w_lit (by assumption)) ws_nil)))) (look_miss rfl (look_out rfl i70)) hs) r_nil))) r_nil)⟩
  | false =>
    have ho : (k % 2 == 1) = true := beq_iff_eq.mpr ((Nat.mod_two_eq_zero_or_one k).resolve_left (beq_eq_false_iff_ne.mp hp))
    rw [hp] at e24
    rw [ho]
    exact ⟨_, fin _, go _ (r_step (s_else (w_cmp (w_bin (w_var (look_in rfl)) w_lit (by assumption)) w_lit (by assumption)) (r_step (s_app' (w_call (ws_cons (w_var (look_in rfl)) (ws_cons (w_var (look_in rfl)) (ws_cons (w_var (look_in rfl)) ws_nil))) (by assumption)) (look_out rfl i69) hs) (r_step (s_app' (w_tup (ws_cons (w_var (look_miss rfl (look_in rfl))) (ws_cons (w_bin (w_var (look_miss rfl (look_in rfl))) w_lit (by assumption)) (ws_cons (w_bin (w_bin (w_var (look_miss rfl (look_in rfl))) (w_var (look_miss rfl (look_in rfl))) (by assumption)) (w_bf (ws_cons (w_var (look_miss rfl (look_in rfl))) (ws_cons (w_bin w_lit (w_var (look_miss rfl (look_in rfl))) (by assumption)) ws_nil)) (by assumption)) (by assumption)) ws_nil)))) (look_miss rfl (look_out rfl i70)) hs) r_nil))) r_nil)⟩
theorem colours_run (C C' : Nat → List D → Option D) (c9 : ∀ ds, C 9 ds = callD C' p1_hsv_to_rgb s1_hsv_to_rgb ds) (c10 : ∀ ds, C 10 ds = callD C' p1_rgb_to_hsv s1_rgb_to_hsv ds) (c11 : ∀ ds, C 11 ds = callD C' p1_rgb_to_hls s1_rgb_to_hls ds)
    (st sp many : Nat) (w : Int) (hst : st < 16) (hsp : sp < 16) (hm : many ≤ 16) :
    callD C p1_law_colours s1_law_colours [natD st, natD sp, natD many, .int w] = some (.tup [.lst ((List.range many).map (toldW st sp w)), .lst ((List.range many).map (toldW st sp w))]) := by
  rw [col_eq]
  let σ0 : Env1 := upd (upd (upd (upd (upd (upd [] 65 (.frz (natD st))) 66 (.frz (natD sp))) 67 (.frz (natD many))) 68 (.frz (.int w))) 69 (.own [])) 70 (.own [])
  have I0 : ColI st sp w [] σ0 := by constructor <;> rfl
  obtain ⟨σ1, I1, e1⟩ := forGo_acc (x := 62) (body := fun σ' => runs C colLoop σ') (els := fun σ' => runs C [] σ') 1000 (ColI st sp w) (fun k => [toldW st sp w k]) natD (fun _ => by simp) (l := List.range many) (by simp; lia) I0
    fun k hk s σ hs I => col_step C C' c9 c10 c11 hst hsp (by have := List.mem_range.mp hk; lia) hs I
  have hfl : (List.range many).flatMap (fun k => [toldW st sp w k]) = (List.range many).map (toldW st sp w) := by
    induction (List.range many) with
    | nil => rfl
    | cons a r ih => rw [List.flatMap_cons, ih]; rfl
  rw [hfl, List.nil_append] at I1
  obtain ⟨i65, i66, i68, i69, i70⟩ := I1
  have r3 : evE C (.rng [(.var 67)]) σ0 = some (.lst ((List.range many).map natD)) := by
    exact w_rng (ws_cons (w_var rfl) ws_nil) (rng_one (by lia))
  exact c_ret rfl ((runs_cons (σ' := upd (upd (upd (upd (upd [] 65 (.frz (natD st))) 66 (.frz (natD sp))) 67 (.frz (natD many))) 68 (.frz (.int w))) 69 (.own [])) rfl).trans ((runs_cons (σ' := σ0) rfl).trans ((runs_for r3 rfl e1).trans (r_out (s_ret' (w_tup (ws_cons (w_var (look_fz i69)) (ws_cons (w_var (look_fz i70)) ws_nil))))))))
end Mv.Pl
end
section
open PySem PySem.W
set_option Elab.async false
set_option linter.unusedSimpArgs false
namespace Mv.Pl

noncomputable def tabOr (o : Option D) : D := match o with
  | some d => d
  | none => .nn
noncomputable def tabD : D := tabOr (callD (fun _ _ => none) p1_law_table s1_law_table [])
theorem table_run (C : Nat → List D → Option D) : callD C p1_law_table s1_law_table [] = some tabD := by kernel_rfl
noncomputable def eqInts (o : Option D) (l : List Nat) : Bool := (o.bind fun d => d.lst?.bind intsOf) == some (l.map Int.ofNat)
theorem intsOf_back : ∀ {x : List D} {l : List Int}, intsOf x = some l → x = l.map .int
  | [], l, h => by rw [← Option.some.inj h]; rfl
  | d :: r, l, h => by
    cases d with
    | int i =>
      obtain ⟨l', h', e⟩ := map_inv (show (intsOf r).map (i :: ·) = some l from h)
      rw [← e, intsOf_back h']
      rfl
    | _ => exact nos h
theorem eqInts_eq {o : Option D} {l : List Nat} (h : eqInts o l = true) : o = some (.lst (l.map natD)) := by
  obtain ⟨x, h1, h⟩ := bind_inv (beq_iff_eq.mp h)
  obtain ⟨l', h2, h⟩ := bind_inv h
  rw [h1, lst_inv h2, intsOf_back h, List.map_map]
  rfl
noncomputable def Bt : Nat → Nat → Nat → List Nat
  | 0, _, _ => []
  | n + 1, i, m => if m % 2 = 1 then i :: Bt n (i + 1) (m / 2) else Bt n (i + 1) (m / 2)
theorem tab_low : ((List.range 32).all fun i => eqInts (idxD tabD (.str (wordL i))) [i]) = true := by decide +kernel
theorem tab_high : ((List.range' 1 15).all fun m => eqInts (idxD tabD (.str (hexL ((m * 2 ^ 32 : Nat) : Int)))) (Bt 4 32 m)) = true := by decide +kernel
noncomputable def Wp : Nat → Nat → Nat → List (List Nat × List Nat)
  | 0, i, m => if m = 0 then [] else [(hexL ((m * 2 ^ i : Nat) : Int), Bt 4 i m)]
  | n + 1, i, m => if m % 2 = 1 then (wordL i, [i]) :: Wp n (i + 1) (m / 2) else Wp n (i + 1) (m / 2)
theorem Wp_fst : ∀ n i m, (Wp n i m).map (·.1) = Wr n i m
  | 0, i, m => by unfold Wp Wr; split <;> rfl
  | n + 1, i, m => by
    unfold Wp Wr
    split
    · rw [List.map_cons, Wp_fst]
    · exact Wp_fst n _ _
theorem Bt_zero : ∀ n i, Bt n i 0 = []
  | 0, i => rfl
  | n + 1, i => by simp [Bt, Bt_zero n]
theorem Wp_snd : ∀ n i m, (Wp n i m).flatMap (·.2) = Bt (n + 4) i m
  | 0, i, m => by
    unfold Wp
    split
    · rename_i h; subst h; rw [Bt_zero]; rfl
    · simp
  | n + 1, i, m => by
    have ih := Wp_snd n (i + 1) (m / 2)
    show (if m % 2 = 1 then (wordL i, [i]) :: Wp n (i + 1) (m / 2) else Wp n (i + 1) (m / 2)).flatMap (·.2) = _
    rw [show n + 1 + 4 = (n + 4) + 1 by lia]
    simp only [Bt]
    split
    · rw [List.flatMap_cons, ih]; rfl
    · exact ih
theorem Wp_tab : ∀ (n i m : Nat), i + n = 32 → m < 2 ^ (36 - i) → ∀ p ∈ Wp n i m, idxD tabD (.str p.1) = some (.lst (p.2.map natD))
  | 0, i, m, hi, hm, p, hp => by
    have hi : i = 32 := by lia
    rw [hi] at hm hp
    unfold Wp at hp
    split at hp
    · simp at hp
    · rename_i h
      rw [List.mem_singleton] at hp
      rw [hp]
      have hm' : m < 16 := hm
      exact eqInts_eq (List.all_eq_true.mp tab_high m (by rw [List.mem_range'_1]; lia))
  | n + 1, i, m, hi, hm, p, hp => by
    have hm2 := half_lt (n := 36) (by lia) hm
    unfold Wp at hp
    split at hp
    · rcases List.mem_cons.mp hp with rfl | hp
      · exact eqInts_eq (all_range tab_low (show i < 32 by lia))
      · exact Wp_tab n (i + 1) (m / 2) (by lia) hm2 p hp
    · exact Wp_tab n (i + 1) (m / 2) (by lia) hm2 p hp
theorem half_ne {m : Nat} (h : ¬ m % 2 = 1) (h0 : m ≠ 0) : m / 2 ≠ 0 := fun e => h0 (by
  have := Nat.div_add_mod m 2
  rw [e, (Nat.mod_two_eq_zero_or_one m).resolve_right h] at this
  exact this.symm)
theorem Bt_ne : ∀ n i m, m < 2 ^ n → m ≠ 0 → Bt n i m ≠ []
  | 0, _, m, h, h0 => absurd (Nat.lt_one_iff.mp h) h0
  | n + 1, i, m, h, h0 => by
    unfold Bt
    by_cases h1 : m % 2 = 1
    · rw [if_pos h1]
      exact List.cons_ne_nil _ _
    · rw [if_neg h1]
      exact Bt_ne n _ _ (Nat.div_lt_of_lt_mul (Nat.pow_succ' ▸ h)) (half_ne h1 h0)
theorem Wp_high : ∀ (n i m : Nat), i + n = 32 → m < 2 ^ (36 - i) → ((Wp n i m).filter fun p => decide (31 < p.2.headD 0)).length ≤ 1 ∧ ∀ p ∈ Wp n i m, p.2 ≠ []
  | 0, i, m, hi, hm => by
    have hi : i = 32 := by lia
    rw [hi] at hm
    unfold Wp
    split
    · simp
    · rename_i h
      refine ⟨?_, fun p hp => ?_⟩
      · rw [List.filter_cons]; split <;> simp
      · rw [List.mem_singleton] at hp
        rw [hp]
        exact Bt_ne 4 i m hm h
  | n + 1, i, m, hi, hm => by
    obtain ⟨a, b⟩ := Wp_high n (i + 1) (m / 2) (by lia) (half_lt (n := 36) (by lia) hm)
    unfold Wp
    split
    · rw [List.filter_cons]
      have : decide (31 < ([i] : List Nat).headD 0) = false := decide_eq_false (by show ¬ 31 < i; clear hm a b; lia)
      simp only [this]
      refine ⟨a, fun p hp => ?_⟩
      rcases List.mem_cons.mp hp with rfl | hp
      · simp
      · exact b p hp
    · exact ⟨a, b⟩
theorem Bt_shift : ∀ (b n i G : Nat), Bt (n + b) i (2 ^ b * G) = Bt n (i + b) G
  | 0, n, i, G => by simp
  | b + 1, n, i, G => by
    have e0 : 2 ^ (b + 1) * G = 2 * (2 ^ b * G) := by rw [Nat.pow_succ', Nat.mul_assoc]
    have e1 : 2 ^ (b + 1) * G % 2 ≠ 1 := by rw [e0, Nat.mul_mod_right]; decide
    have e2 : 2 ^ (b + 1) * G / 2 = 2 ^ b * G := by rw [e0, Nat.mul_div_cancel_left _ (by decide)]
    rw [show n + (b + 1) = (n + b) + 1 by lia]
    simp only [Bt]
    rw [if_neg e1, e2, Bt_shift b n (i + 1) G, show i + 1 + b = i + (b + 1) by lia]
theorem Bt_from : ∀ (n i k G : Nat), Bt n (i + k) G = (Bt n i G).map (· + k)
  | 0, i, k, G => rfl
  | n + 1, i, k, G => by
    simp only [Bt]
    rw [show i + k + 1 = i + 1 + k by lia, Bt_from n (i + 1) k (G / 2)]
    split <;> simp
theorem Bt_more : ∀ (n d i G : Nat), G < 2 ^ n → Bt (n + d) i G = Bt n i G
  | 0, d, i, G, h => by
    have : G = 0 := by simpa using h
    rw [this, Bt_zero, Bt_zero]
  | n + 1, d, i, G, h => by
    rw [show n + 1 + d = (n + d) + 1 by lia]
    simp only [Bt]
    rw [Bt_more n d (i + 1) (G / 2) (Nat.div_lt_of_lt_mul (Nat.pow_succ' ▸ h))]
theorem bits_of {b G : Nat} (hb : b ≤ 20) (hG : G < 2 ^ 16) : Bt 36 0 (2 ^ b * G) = (Bt 16 0 G).map (· + b) := by
  have h1 := Bt_shift b (36 - b) 0 G
  rw [Nat.sub_add_cancel (Nat.le_trans hb (by decide))] at h1
  rw [h1, show 36 - b = 16 + (20 - b) from Nat.add_sub_assoc hb 16, Bt_more 16 _ _ _ hG, Bt_from 16 0 b G]
theorem shift_lt {b G : Nat} (hb : b ≤ 20) (hG : G < 2 ^ 16) : 2 ^ b * G < 2 ^ 36 := by
  have h1 : 2 ^ b ≤ 2 ^ 20 := Nat.pow_le_pow_right (by decide) hb
  exact Nat.lt_of_le_of_lt (Nat.mul_le_mul_right _ h1) (Nat.mul_lt_mul_of_pos_left hG (by decide))
end Mv.Pl
end
section
open PySem PySem.W
set_option Elab.async false
set_option linter.unusedSimpArgs false
namespace Mv.Pl

noncomputable def spotN (st sp k : Nat) : Nat := (st + k * sp) % 16
noncomputable def sumN (st sp c : Nat) : Nat := ((List.range c).map fun k => 2 ^ spotN st sp k).sum
noncomputable def restsN (sp c : Nat) : List Nat := (List.range' 1 (c - 1)).map fun k => k * sp % 16
noncomputable def lowOf : List Nat → Nat
  | [] => 16
  | a :: r => min a (lowOf r)
noncomputable def nearN (sp c : Nat) : Nat := lowOf (restsN sp c)
noncomputable def lastN (sp c : Nat) : Nat := 16 - topN (restsN sp c)
noncomputable def upN (sp c : Nat) : Nat := 1 + (restsN sp c).idxOf (nearN sp c)
noncomputable def downN (sp c : Nat) : Nat := 1 + (restsN sp c).idxOf (16 - lastN sp c)
noncomputable def gapsN (sp c : Nat) : List (Nat × Nat) := [(nearN sp c, c - upN sp c), (lastN sp c, c - downN sp c), (nearN sp c + lastN sp c, upN sp c + downN sp c - c)]
noncomputable def canonN (sp c : Nat) : List Nat := (gapsN sp c).flatMap fun p => List.replicate p.2 p.1
noncomputable def orderGo (up down c : Nat) : Nat → Nat → List Nat
  | 0, _ => []
  | n + 1, k => k :: orderGo up down c n (if k < c - up then k + up else if k < down then k + up - down else k - down)
noncomputable def orderN (sp c : Nat) : List Nat := orderGo (upN sp c) (downN sp c) c c 0
noncomputable def leadsN (B : List Nat) : List Nat := (List.range B.length).map fun k => (B.getD k 0 + 16 - B.getD (if k = 0 then B.length - 1 else k - 1) 0) % 16
noncomputable def bitsN (st sp c : Nat) : List Nat := Bt 16 0 (sumN st sp c)
noncomputable def aroundN (sp : Nat) : Nat := if sp % 2 = 1 then 16 else if sp % 4 = 2 then 8 else 4
noncomputable def stepsN : List Nat := [1, 2, 3, 4, 5, 6, 7, 9, 10, 11, 12, 13, 14, 15]
noncomputable def chkAll (p : Nat → Nat → Bool) (sp : Nat) : Bool := (List.range' 2 (aroundN sp - 1)).all fun c => p sp c
noncomputable def chkPlace (st sp c : Nat) : Bool :=
  let B := bitsN st sp c
  let a := B.idxOf (spotN st sp 0)
  let gs := leadsN B
  decide (sumN st sp c < 65536) && sumN st sp c != 0 && B.length == c && decide (a < c) && (B.all fun x => decide (B.headD 0 ≤ x) && decide (x < 16)) && (B.drop a ++ B.take a == (orderN sp c).map (spotN st sp)) && gs.sum == 16 && gs.length == c && hist gs == hist (canonN sp c)
noncomputable def farN (sp c : Nat) : Nat := topN (((gapsN sp c).filter fun p => decide (0 < p.2)).map (·.1))
noncomputable def countsN (sp c : Nat) : List Nat := (List.range (farN sp c + 1)).map fun s => (((gapsN sp c).filter fun p => p.1 == s).map (·.2)).sum
noncomputable def chkGap (sp c : Nat) : Bool := farN sp c == topN (canonN sp c) && countsN sp c == hist (canonN sp c) && (orderN sp c).all (fun k => decide (k < c)) && (orderN sp c).length == c && (canonN sp c).length == c && (canonN sp c).sum == 16 && decide (farN sp c ≤ 16) && (gapsN sp c).all (fun p => decide (p.1 ≤ 32) && decide (p.2 ≤ 32)) && (gapsN sp c).any (fun p => decide (0 < p.2)) 
noncomputable def chkMore (sp m : Nat) : Bool := (List.range' 1 17).all fun ts => decide (level (canonN sp m) 0 ts ≤ level (canonN sp (m + 1)) 0 ts)
theorem place0 : (stepsN.all fun sp => chkAll (chkPlace 0) sp) = true := by decide +kernel
theorem place1 : (stepsN.all fun sp => chkAll (chkPlace 1) sp) = true := by decide +kernel
theorem place2 : (stepsN.all fun sp => chkAll (chkPlace 2) sp) = true := by decide +kernel
theorem place3 : (stepsN.all fun sp => chkAll (chkPlace 3) sp) = true := by decide +kernel
theorem place4 : (stepsN.all fun sp => chkAll (chkPlace 4) sp) = true := by decide +kernel
theorem place5 : (stepsN.all fun sp => chkAll (chkPlace 5) sp) = true := by decide +kernel
theorem place6 : (stepsN.all fun sp => chkAll (chkPlace 6) sp) = true := by decide +kernel
theorem place7 : (stepsN.all fun sp => chkAll (chkPlace 7) sp) = true := by decide +kernel
theorem place8 : (stepsN.all fun sp => chkAll (chkPlace 8) sp) = true := by decide +kernel
theorem place9 : (stepsN.all fun sp => chkAll (chkPlace 9) sp) = true := by decide +kernel
theorem place10 : (stepsN.all fun sp => chkAll (chkPlace 10) sp) = true := by decide +kernel
theorem place11 : (stepsN.all fun sp => chkAll (chkPlace 11) sp) = true := by decide +kernel
theorem place12 : (stepsN.all fun sp => chkAll (chkPlace 12) sp) = true := by decide +kernel
theorem place13 : (stepsN.all fun sp => chkAll (chkPlace 13) sp) = true := by decide +kernel
theorem place14 : (stepsN.all fun sp => chkAll (chkPlace 14) sp) = true := by decide +kernel
theorem place15 : (stepsN.all fun sp => chkAll (chkPlace 15) sp) = true := by decide +kernel
theorem gap_all : (stepsN.all fun sp => chkAll chkGap sp) = true := by decide +kernel
theorem more_all : (stepsN.all fun sp => (List.range' 2 (aroundN sp - 2)).all fun m => chkMore sp m) = true := by decide +kernel
noncomputable def sameL (f : D → D → Bool) : List D → List D → Bool
  | [], y => y.isEmpty
  | a :: r, y => match y with
    | [] => false
    | b :: t => f a b && sameL f r t
noncomputable def sameB (f : List D → List D → Bool) (x y : D) : Bool := match x with
  | .int a => y.int? == some a
  | .lst a => (y.lst?.map (f a)) == some true
  | .tup a => (y.tup?.map (f a)) == some true
  | _ => false
noncomputable def sameD : Nat → D → D → Bool
  | 0 => sameB fun _ _ => false
  | n + 1 => sameB (sameL (sameD n))
theorem sameL_eq {f : D → D → Bool} (hf : ∀ a b, f a b = true → a = b) : ∀ {l r : List D}, sameL f l r = true → l = r
  | [], r, h => (List.isEmpty_iff.mp h).symm
  | a :: l, r, h => by
    cases r with
    | nil => exact nob h
    | cons b r =>
      obtain ⟨h1, h2⟩ := and_inv h
      rw [hf a b h1, sameL_eq hf h2]
theorem sameB_eq {f : List D → List D → Bool} (hf : ∀ a b, f a b = true → a = b) {x y : D} (h : sameB f x y = true) : x = y := by
  cases x with
  | int a => exact (int_inv (beq_iff_eq.mp h)).symm
  | lst a =>
    obtain ⟨b, h1, h2⟩ := map_inv (beq_iff_eq.mp h)
    rw [lst_inv h1, hf a b h2]
  | tup a =>
    obtain ⟨b, h1, h2⟩ := map_inv (beq_iff_eq.mp h)
    rw [tup_inv h1, hf a b h2]
  | _ => exact nob h
theorem sameD_eq : ∀ (n : Nat) (a b : D), sameD n a b = true → a = b
  | 0, a, b, h => sameB_eq (fun _ _ h => nob h) h
  | n + 1, a, b, h => sameB_eq (fun _ _ => sameL_eq (sameD_eq n)) h
noncomputable def sameO (o : Option D) (d : D) : Bool := match o with
  | some x => sameD 5 x d
  | none => false
theorem sameO_eq {o : Option D} {d : D} (h : sameO o d = true) : o = some d := by
  cases o with
  | none => exact nob h
  | some x => rw [sameD_eq 5 x d h]
noncomputable def pairN (p : Nat × Nat) : D := .tup [natD p.1, natD p.2]
noncomputable def gapsD (sp c : Nat) : D := .tup [.lst ((gapsN sp c).map pairN), natD (upN sp c), natD (downN sp c)]
theorem gaps_tab (C : Nat → List D → Option D) : (stepsN.all fun sp => chkAll (fun sp c => sameO (callD C p1_law_gaps s1_law_gaps [natD sp, natD c]) (gapsD sp c)) sp) = true := by kernel_rfl
theorem order_tab (C : Nat → List D → Option D) : (stepsN.all fun sp => chkAll (fun sp c => sameO (callD C p1_law_order s1_law_order [natD (upN sp c), natD (downN sp c), natD c]) (.lst ((orderN sp c).map natD))) sp) = true := by kernel_rfl
theorem chkAll_at {p : Nat → Nat → Bool} (h : (stepsN.all fun sp => chkAll p sp) = true) {sp c : Nat} (hs : sp ∈ stepsN) (h2 : 2 ≤ c) (hc : c ≤ aroundN sp) : p sp c = true := by
  have h1 := List.all_eq_true.mp h sp hs
  exact List.all_eq_true.mp h1 c (List.mem_range'_1.mpr ⟨h2, by lia⟩)
theorem places : ∀ st < 16, (stepsN.all fun sp => chkAll (chkPlace st) sp) = true
  | 0, _ => place0 | 1, _ => place1 | 2, _ => place2 | 3, _ => place3 | 4, _ => place4 | 5, _ => place5 | 6, _ => place6 | 7, _ => place7
  | 8, _ => place8 | 9, _ => place9 | 10, _ => place10 | 11, _ => place11 | 12, _ => place12 | 13, _ => place13 | 14, _ => place14 | 15, _ => place15
  | n + 16, h => by lia
end Mv.Pl
end
section
open PySem PySem.W
set_option Elab.async false
set_option linter.unusedSimpArgs false
namespace Mv.Pl

theorem look_del {n y : Nat} (h : Nat.beq n y = false) : ∀ σ : Env1, look (del σ y) n = look σ n
  | [] => rfl
  | (z, e) :: r => by
    have ih := look_del h r
    rw [look_cons']
    by_cases hz : (z != y) = true
    · rw [show del ((z, e) :: r) y = (z, e) :: del r y from List.filter_cons_of_pos hz, look_cons', ih]
    · rw [show del ((z, e) :: r) y = del r y from List.filter_cons_of_neg hz, ih, if_neg fun hn : n = z => hz (bne_iff_ne.mpr (hn ▸ Nat.ne_of_beq_eq_false h))]
theorem run_asg {C : Nat → List D → Option D} {x : Nat} {e : SE} {σ : Env1} {d : D} (h : evE C e σ = some d) : run C (.asg x e) σ = some (upd σ x (.frz d), .next) := s_asg' h
theorem run_skip {C : Nat → List D → Option D} {t : SE} {a : List SS} {σ : Env1} (h : evE C t σ = some (.bool false)) : run C (.ite t a []) σ = some (σ, .next) := s_else h r_nil
theorem run_app {C : Nat → List D → Option D} {x : Nat} {e : SE} {σ : Env1} {d : D} {l : List D} (h : evE C e σ = some d) (hl : look σ x = some (.own l)) (hn : l.length ≤ 1000) : run C (.app x e) σ = some (upd σ x (.own (l ++ [d])), .next) := s_app' h hl hn
theorem ev_comp {C : Nat → List D → Option D} {elt it : SE} {xs : List Nat} {ifs : List SE} {σ : Env1} {d : D} {l r : List D} (h1 : evE C it σ = some d) (h2 : itemsD d = some l) (h3 : compGo (fun σ' => evE C elt σ') (fun σ' => evTs C ifs σ') xs σ l = some r) (h4 : r.length ≤ 100000) : evE C (.comp elt xs it ifs) σ = some (.lst r) := (bindE h1 (bindE h2 (bindE h3 (if_pos (decide_eq_true h4)))) : (evE C it σ).bind (fun l => (itemsD l).bind fun l => (compGo (fun σ' => evE C elt σ') (fun σ' => evTs C ifs σ') xs σ l).bind capL) = _)
theorem ev_map {α : Type} {C : Nat → List D → Option D} {elt it : SE} {x : Nat} {σ : Env1} (g f : α → D) {l : List α} (h1 : evE C it σ = some (.lst (l.map g))) (h3 : ∀ a ∈ l, evE C elt (upd σ x (.frz (g a))) = some (f a)) (h4 : l.length ≤ 100000) : evE C (.comp elt [x] it []) σ = some (.lst (l.map f)) :=
  ev_comp h1 rfl (compGo_map g f fun a ha => ⟨_, rfl, ts_nil, h3 a ha⟩) (by rw [List.length_map]; exact h4)
theorem ev_filter {α : Type} {C : Nat → List D → Option D} {elt it t : SE} {x : Nat} {σ : Env1} (g f : α → D) (p : α → Bool) {l : List α} (h1 : evE C it σ = some (.lst (l.map g))) (h2 : ∀ a ∈ l, evE C t (upd σ x (.frz (g a))) = some (.bool (p a))) (h3 : ∀ a ∈ l, p a = true → evE C elt (upd σ x (.frz (g a))) = some (f a)) (h4 : l.length ≤ 100000) : evE C (.comp elt [x] it [t]) σ = some (.lst ((l.filter p).map f)) :=
  ev_comp h1 rfl (compGo_filter g p f fun a ha => ⟨_, rfl, ts_one (h2 a ha), h3 a ha⟩) (by rw [List.length_map]; exact Nat.le_trans (List.length_filter_le _ _) h4)
theorem comp2_flat {α : Type} {elt it2 : Env1 → Option D} {x y : Nat} {σ : Env1} (g : α → D) (P : α → List Nat) (f : Nat → D) : ∀ {l : List α}, (∀ a ∈ l, it2 (upd (del σ y) x (.frz (g a))) = some (.lst ((P a).map natD))) → (∀ a ∈ l, ∀ p ∈ P a, elt (upd (upd (del σ y) x (.frz (g a))) y (.frz (natD p))) = some (f p)) → comp2Go elt it2 x y σ (l.map g) = some ((l.flatMap P).map f)
  | [], _, _ => rfl
  | a :: r, h1, h2 => by
    have ih := comp2_flat g P f (l := r) (elt := elt) (it2 := it2) (x := x) (y := y) (σ := σ) (fun b hb => h1 b (List.mem_cons_of_mem _ hb)) fun b hb => h2 b (List.mem_cons_of_mem _ hb)
    rw [List.flatMap_cons, List.map_append]
    exact bindE (h1 a List.mem_cons_self) (bindE (o := itemsD (.lst ((P a).map natD))) rfl (bindE (compGo_map natD f fun p hp => ⟨_, rfl, rfl, h2 a List.mem_cons_self p hp⟩) (mapE ih rfl)))
theorem intsOf_nat (l : List Nat) : intsOf (l.map natD) = some (l.map Int.ofNat) := by
  induction l with
  | nil => rfl
  | cons a r ih =>
    exact mapE ih rfl
theorem sum_ofNat (l : List Nat) : (l.map Int.ofNat).sum = (l.sum : Int) := by
  induction l with
  | nil => rfl
  | cons a r ih => simp [List.sum_cons, ih]
theorem sum_nat (l : List Nat) : bfD .sum [.lst (l.map natD)] = some (natD l.sum) := by
  exact bindE (intsOf_nat l) (congrArg (fun x => some (D.int x)) (sum_ofNat l))
theorem maxI_nat : ∀ (r : List Nat) (a : Nat), maxI (a : Int) (r.map Int.ofNat) = ((max a (topN r) : Nat) : Int)
  | [], a => by rw [topN, Nat.max_zero]; rfl
  | b :: r, a => by
    show maxI (if (a : Int) < (b : Int) then (b : Int) else (a : Int)) (r.map Int.ofNat) = ((max a (max b (topN r)) : Nat) : Int)
    rw [← Nat.max_assoc]
    by_cases h : a < b
    · rw [if_pos (Int.ofNat_lt.mpr h), maxI_nat r b, Nat.max_eq_right (Nat.le_of_lt h)]
    · rw [if_neg fun h' => h (Int.ofNat_lt.mp h'), maxI_nat r a, Nat.max_eq_left (Nat.le_of_not_lt h)]
theorem max_list {l : List Nat} (h : l ≠ []) : bfD .max [.lst (l.map natD)] = some (natD (topN l)) := by
  cases l with
  | nil => exact absurd rfl h
  | cons a r => exact bindE (intsOf_nat (a :: r)) (congrArg (fun x => some (D.int x)) (maxI_nat r a))
theorem minI_first : ∀ (r : List Nat) (a : Nat), (∀ b ∈ r, a ≤ b) → minI (a : Int) (r.map Int.ofNat) = (a : Int)
  | [], a, _ => rfl
  | b :: r, a, h => by
    simp only [List.map_cons, minI]
    have := h b (by simp)
    rw [if_neg (show ¬ Int.ofNat b < (a : Int) from by simpa using this)]
    exact minI_first r a fun b hb => h b (List.mem_cons_of_mem _ hb)
theorem min_list {a : Nat} {r : List Nat} (h : ∀ b ∈ r, a ≤ b) : bfD .min [.lst ((a :: r).map natD)] = some (natD a) := by
  exact bindE (intsOf_nat (a :: r)) (congrArg (fun x => some (D.int x)) (minI_first r a h))
theorem len_list {l : List D} (h : l.length ≤ 100000) : bfD .len [.lst l] = some (natD l.length) := by
  exact if_pos (decide_eq_true h)
theorem cutAt_nat (a n : Nat) : cutAt (a : Int) n = min a n := by
  unfold cutAt
  rw [if_neg (Int.not_lt.mpr (Int.natCast_nonneg a))]
  by_cases h : a ≤ n
  · rw [Int.min_eq_left (Int.ofNat_le.mpr h), Nat.min_eq_left h, Int.max_eq_right (Int.natCast_nonneg a)]
    rfl
  · rw [Int.min_eq_right (Int.ofNat_le.mpr (Nat.le_of_not_le h)), Nat.min_eq_right (Nat.le_of_not_le h), Int.max_eq_right (Int.natCast_nonneg n)]
    rfl
theorem upto_nat {l : List D} {a : Nat} (h : l.length ≤ 1000000) : uptoD (.lst l) (natD a) = some (.lst (l.take a)) :=
  (if_pos (decide_eq_true h)).trans (by rw [cutAt_nat, ← List.take_eq_take_min])
theorem from_nat {l : List D} {a : Nat} (h : l.length ≤ 1000000) (ha : a ≤ l.length) : fromD (.lst l) (natD a) = some (.lst (l.drop a)) :=
  (if_pos (decide_eq_true h)).trans (by rw [cutAt_nat, Nat.min_eq_left ha])
theorem atomEq_nat (a b : Nat) : atomEq (natD a) (natD b) = some (a == b) := congrArg some (beq_nat a b)
theorem indexAll_nat (x : Nat) : ∀ l : List Nat, indexD.indexAll (natD x) (l.map natD) = some ()
  | [] => rfl
  | a :: r => bindE (atomEq_nat a x) (indexAll_nat x r)
theorem index_nat {x : Nat} : ∀ {l : List Nat}, l.idxOf x < l.length → indexD (natD x) (l.map natD) = some (l.idxOf x)
  | [], h => absurd h (Nat.not_lt_zero _)
  | a :: r, h => by
    rw [List.idxOf_cons] at h ⊢
    cases e : a == x with
    | true => exact bindE ((atomEq_nat a x).trans (congrArg some e)) ((if_pos rfl).trans (mapE (indexAll_nat x r) rfl))
    | false =>
      rw [e] at h
      exact bindE ((atomEq_nat a x).trans (congrArg some e)) ((if_neg Bool.false_ne_true).trans (mapE (index_nat (Nat.lt_of_succ_lt_succ h)) rfl))
theorem eqvs_nat (k : Nat) : ∀ l r : List Nat, eqvs (D.eqv k) (l.map natD) (r.map natD) = some (l == r)
  | [], [] => rfl
  | a :: l, b :: r => bindE ((eII k a b).trans (congrArg some (beq_nat a b))) (mapE (eqvs_nat k l r) rfl)
  | [], _ :: _ => rfl
  | _ :: _, [] => rfl
theorem joinL_nil : ∀ l : List (List Nat), joinL [] l = l.flatten
  | [] => rfl
  | [x] => by simp [joinL]
  | x :: y :: r => by
    show x ++ [] ++ joinL [] (y :: r) = _
    rw [joinL_nil (y :: r)]
    simp
theorem blockS_flat (gs : List Nat) : (gs.map fun g => List.replicate g 32 ++ [9]).flatten = blockS gs := by
  induction gs with
  | nil => rfl
  | cons a r ih => simp [blockS, ih]
theorem blockS_len (gs : List Nat) : (blockS gs).length = gs.sum + gs.length := by
  induction gs with
  | nil => rfl
  | cons a r ih => simp [blockS, ih]; lia
theorem pow_nat {b : Nat} (h : b ≤ 62) : binD .pow (.int 2) (natD b) = some (natD (2 ^ b)) := by
  show (if (decide (0 ≤ (b : Int)) && decide ((b : Int) ≤ 62) && decide ((2 : Int) = 2)) = true then some (D.int (2 ^ (b : Int).toNat)) else none) = _
  rw [decide_eq_true (Int.natCast_nonneg b), decide_eq_true (show (b : Int) ≤ 62 from Int.ofNat_le.mpr h)]
  exact congrArg (fun x => some (D.int x)) (Int.natCast_pow 2 b).symm
theorem sum_shift (b : Nat) (f : Nat → Nat) : ∀ l : List Nat, (l.map fun k => 2 ^ (b + f k)).sum = 2 ^ b * (l.map fun k => 2 ^ f k).sum
  | [] => by simp
  | a :: r => by
    simp only [List.map_cons, List.sum_cons]
    rw [sum_shift b f r, Nat.mul_add, Nat.pow_add]
end Mv.Pl
end
section
open PySem PySem.W
set_option Elab.async false
set_option linter.unusedSimpArgs false
namespace Mv.Pl

structure Calls (C C5 C4 : Nat → List D → Option D) : Prop where
  c8 : ∀ ds, C 8 ds = initD C5 p1_init s1_init ds
  c12 : ∀ ds, C 12 ds = callD C5 p1_pretty_flags s1_pretty_flags ds
  c16 : ∀ ds, C 16 ds = callD C5 p1_law_gaps s1_law_gaps ds
  c17 : ∀ ds, C 17 ds = callD C5 p1_law_order s1_law_order ds
  c18 : ∀ ds, C 18 ds = callD C5 p1_law_column s1_law_column ds
  c20 : ∀ ds, C 20 ds = callD C5 p1_longest_run_of_spaces s1_longest_run_of_spaces ds
  c22 : ∀ ds, C 22 ds = callD C5 p1_not_equal_witness s1_not_equal_witness ds
  c23 : ∀ ds, C 23 ds = callD C5 p1_not_less_witness s1_not_less_witness ds
  d20 : ∀ ds, C5 20 ds = callD C4 p1_longest_run_of_spaces s1_longest_run_of_spaces ds
  d21 : ∀ ds, C5 21 ds = callD C4 p1_indent_level s1_indent_level ds

variable {C C5 C4 : Nat → List D → Option D} {σ : Env1}

theorem ev_gaps (K : Calls C C5 C4) {sp c : Nat} (hs : sp ∈ stepsN) (h2 : 2 ≤ c) (hc : c ≤ aroundN sp) (i66 : look σ 66 = some (.frz (natD sp))) (i1 : look σ 1 = some (.frz (natD c))) : evE C (.call 16 [(.var 66), (.var 1)]) σ = some (gapsD sp c) := by
  have h := sameO_eq (chkAll_at (gaps_tab C5) hs h2 hc)
  exact w_call (ws_cons (w_var i66) (ws_cons (w_var i1) ws_nil)) ((K.c16 _).trans h)
noncomputable def spotsD (st sp n : Nat) : List D := (List.range n).map fun k => natD (spotN st sp k)
theorem take_range (f : Nat → D) {a n : Nat} (h : a ≤ n) : ((List.range n).map f).take a = (List.range a).map f := by
  rw [← List.map_take, List.take_range, Nat.min_eq_left h]
theorem meth_split {s : List Nat} {l : List (List Nat)} (h1 : s.length ≤ 10000) (h2 : (Txt.split (strOf s) sepS).map (fun y => y.cps.toList) = l) (h3 : l.length ≤ 1000) : methD 3 (.str s) [.str [44, 32]] = some (.lst (l.map .str)) := by
  have hl : (Txt.split (strOf s) (strOf [44, 32])).length ≤ 1000 := by
    rw [← h2, List.length_map] at h3
    exact h3
  refine (if_pos (by rw [decide_eq_true h1, decide_eq_true hl]; rfl)).trans ?_
  rw [← h2, List.map_map]
  rfl
theorem wordsOfF_ne {F : Nat} (h0 : F ≠ 0) (h1 : F < 2 ^ 36) : wordsOfF F ≠ [] := by
  have hb : ∀ n i m, m ≠ 0 → Wr n i m ≠ [] := by
    intro n
    induction n with
    | zero => intro i m h; rw [Wr_last i h]; exact List.cons_ne_nil _ _
    | succ n ih =>
      intro i m h
      unfold Wr
      by_cases h1 : m % 2 = 1
      · rw [if_pos h1]
        exact List.cons_ne_nil _ _
      · rw [if_neg h1]
        exact ih (i + 1) (m / 2) (half_ne h1 h)
  exact hb 32 0 F h0
theorem pf_split (K : Calls C C5 C4) {F : Nat} (h0 : F ≠ 0) (h1 : F < 2 ^ 36) : ∃ s, C 12 [natD F] = some (.str s) ∧ methD 3 (.str s) [.str [44, 32]] = some (.lst ((Wp 32 0 F).map fun p => .str p.1)) := by
  obtain ⟨a, b⟩ := Wr_ok 32 0 F rfl h1
  have hj := joinL_len [44, 32] (Wr 32 0 F) fun w hw => (b w hw).1
  refine ⟨joinL [44, 32] (wordsOfF F), (K.c12 _).trans (pf_run C5 F h0 h1), ?_⟩
  have hj1 : (joinL [44, 32] (Wr 32 0 F)).length ≤ 10000 := Nat.le_trans hj (Nat.le_trans (Nat.mul_le_mul_right _ a) (by decide))
  refine (meth_split (s := joinL [44, 32] (wordsOfF F)) (l := wordsOfF F) hj1 (split_join (wordsOfF F) (wordsOfF_ne h0 h1) fun w hw => (b w hw).2) (Nat.le_trans a (by decide))).trans ?_
  unfold wordsOfF
  rw [← Wp_fst, List.map_map]
  rfl
theorem ev_words (K : Calls C C5 C4) {st sp base c n : Nat} (hb : base ≤ 20) (hc : c ≤ n) (hn : n ≤ 20) (h0 : sumN st sp c ≠ 0) (h1 : sumN st sp c < 65536) (i90 : look σ 90 = some (.frz (natD base))) (i91 : look σ 91 = some (.frz (.lst (spotsD st sp n)))) (i1 : look σ 1 = some (.frz (natD c))) :
    evE C (.meth (.call 12 [(.bf .sum [(.comp (.bin .pow (.lit (.int 2)) (.bin .add (.var 90) (.var 97))) [97] (.upto (.var 91) (.var 1)) [])])]) 3 [(.lit (.str [44, 32]))]) σ = some (.lst ((Wp 32 0 (2 ^ base * sumN st sp c)).map fun p => .str p.1)) := by
  have e1 : evE C (.upto (.var 91) (.var 1)) σ = some (.lst ((List.range c).map fun k => natD (spotN st sp k))) := by
    exact w_upto (w_var i91) (w_var i1) ((upto_nat (by unfold spotsD; rw [List.length_map, List.length_range]; lia)).trans (by rw [spotsD, take_range _ hc]))
  have e2 : evE C (.comp (.bin .pow (.lit (.int 2)) (.bin .add (.var 90) (.var 97))) [97] (.upto (.var 91) (.var 1)) []) σ = some (.lst ((List.range c).map fun k => natD (2 ^ (base + spotN st sp k)))) := by
    refine ev_map (fun k => natD (spotN st sp k)) _ e1 (fun k hk => ?_) (by rw [List.length_range]; lia)
    have hs : spotN st sp k < 16 := Nat.mod_lt _ (by decide)
    exact w_bin w_lit (w_bin (w_var (look_miss rfl i90)) (w_var look_hit) (add_nat _ _)) (pow_nat (by lia))
  have e3 : (List.range c).map (fun k => natD (2 ^ (base + spotN st sp k))) = ((List.range c).map fun k => 2 ^ (base + spotN st sp k)).map natD := by rw [List.map_map]; rfl
  have e4 := sum_shift base (spotN st sp) (List.range c)
  have hF : 2 ^ base * sumN st sp c ≠ 0 := Nat.mul_ne_zero (Nat.ne_of_gt (Nat.two_pow_pos base)) h0
  obtain ⟨s, q1, q2⟩ := pf_split K hF (shift_lt hb h1)
  rw [e3] at e2
  exact w_meth (w_call (ws_cons (w_bf (ws_cons e2 ws_nil) (sum_nat _)) ws_nil) ((congrArg (fun x => C 12 [natD x]) e4).trans q1)) (ws_cons w_lit ws_nil) q2
theorem ev_seen {base F : Nat} (hF : F < 2 ^ 36) {B : List Nat} (hB : Bt 36 0 F = B.map (· + base)) (i96 : look σ 96 = some (.frz (.lst ((Wp 32 0 F).map fun p => .str p.1)))) (i90 : look σ 90 = some (.frz (natD base))) (i63 : look σ 63 = some (.frz tabD)) (hl : B.length ≤ 1000) :
    evE C (.comp2 (.bin .sub (.var 99) (.var 90)) 100 (.var 96) 99 (.idx (.bvar 63) (.var 100))) σ = some (.lst (B.map natD)) := by
  have hs : (Wp 32 0 F).flatMap (·.2) = B.map (· + base) := by rw [Wp_snd]; exact hB
  have hc := comp2_flat (elt := fun σ' => evE C (.bin .sub (.var 99) (.var 90)) σ') (it2 := fun σ' => evE C (.idx (.bvar 63) (.var 100)) σ') (x := 100) (y := 99) (σ := σ) (fun p : List Nat × List Nat => .str p.1) (fun p => p.2) (fun p => natD (p - base)) (l := Wp 32 0 F) (fun p hp => w_idx (w_bvarF (look_miss rfl ((look_del rfl σ).trans i63))) (w_var look_hit) (Wp_tab 32 0 F rfl hF p hp)) (fun p hp q hq => by
      have hm : q ∈ B.map (· + base) := by rw [← hs]; exact List.mem_flatMap.mpr ⟨p, hp, hq⟩
      obtain ⟨q', _, e⟩ := List.mem_map.mp hm
      exact w_bin (w_var look_hit) (w_var (look_miss rfl (look_miss rfl ((look_del rfl σ).trans i90)))) (sub_nat (e ▸ Nat.le_add_left _ _)))
  rw [hs, List.map_map] at hc
  have hm : ((fun p => natD (p - base)) ∘ fun x => x + base) = natD := funext fun x => congrArg natD (Nat.add_sub_cancel x base)
  rw [hm] at hc
  exact (bindE (w_var i96) (bindE rfl (bindE hc (if_pos (decide_eq_true (by rw [List.length_map]; lia))))) : (evE C (.var 96) σ).bind (fun l => (itemsD l).bind fun l => (comp2Go (fun σ' => evE C (.bin .sub (.var 99) (.var 90)) σ') (fun σ' => evE C (.idx (.bvar 63) (.var 100)) σ') 100 99 σ l).bind capL) = _)
theorem ne_nat (a b : Nat) : cmpD .ne (natD a) (natD b) = some (a != b) := cmp_nat .ne a b
theorem gt_nat (a b : Nat) : cmpD .gt (natD a) (natD b) = some (decide (b < a)) := cmp_nat .gt a b
theorem ev_sorted {F b0 : Nat} {r : List Nat} (hF : F < 2 ^ 36) (hB : ∀ b ∈ r, b0 ≤ b) (i98 : look σ 98 = some (.frz (.lst ((b0 :: r).map natD)))) (i96 : look σ 96 = some (.frz (.lst ((Wp 32 0 F).map fun p => .str p.1)))) (i63 : look σ 63 = some (.frz tabD)) :
    evE C (.or (.cmp .ne (.idx (.bvar 98) (.lit (.int 0))) (.bf .min [(.var 98)])) (.cmp .gt (.bf .len [(.comp (.var 100) [100] (.var 96) [(.cmp .gt (.idx (.idx (.bvar 63) (.var 100)) (.lit (.int 0))) (.lit (.int 31)))])]) (.lit (.int 1)))) σ = some (.bool false) := by
  obtain ⟨w1, w2⟩ := Wp_high 32 0 F rfl hF
  have hl : (Wp 32 0 F).length ≤ 100000 := by
    have := (Wr_ok 32 0 F rfl hF).1
    rw [← Wp_fst, List.length_map] at this
    exact Nat.le_trans this (by decide)
  have e1 : evE C (.comp (.var 100) [100] (.var 96) [(.cmp .gt (.idx (.idx (.bvar 63) (.var 100)) (.lit (.int 0))) (.lit (.int 31)))]) σ = some (.lst (((Wp 32 0 F).filter fun p => decide (31 < p.2.headD 0)).map fun p => .str p.1)) := by
    refine ev_filter (fun p : List Nat × List Nat => .str p.1) (fun p => .str p.1) (fun p => decide (31 < p.2.headD 0)) (w_var i96) (fun p hp => ?_) (fun p hp _ => ?_) hl
    · have ht := Wp_tab 32 0 F rfl hF p hp
      have hne := w2 p hp
      obtain ⟨q, t, hq⟩ : ∃ q t, p.2 = q :: t := by
        cases hp2 : p.2 with
        | nil => exact absurd hp2 hne
        | cons q t => exact ⟨q, t, rfl⟩
      have hi : idxD (.lst (p.2.map natD)) (.int 0) = some (natD (p.2.headD 0)) := by
        rw [hq]
        exact idx_nat (i := 0) rfl (by decide)
      have hg : cmpD .gt (natD (p.2.headD 0)) (.int 31) = some (decide (31 < p.2.headD 0)) := gt_nat _ 31
      exact w_cmp (w_idx (w_idx (w_bvarF (look_miss rfl i63)) (w_var look_hit) ht) w_lit hi) w_lit hg
    · exact w_var look_hit
  have hi : idxD (.lst ((b0 :: r).map natD)) (.int 0) = some (natD b0) := idx_nat (i := 0) rfl (by decide)
  have hn : cmpD .ne (natD b0) (natD b0) = some false := (ne_nat b0 b0).trans (congrArg some (bne_self_eq_false b0))
  have hle : ((((Wp 32 0 F).filter fun p => decide (31 < p.2.headD 0)).map fun p => D.str p.1)).length ≤ 1 := by rw [List.length_map]; exact w1
  have hg := (gt_nat ((((Wp 32 0 F).filter fun p => decide (31 < p.2.headD 0)).map fun p => D.str p.1)).length 1).trans (congrArg some (decide_eq_false (Nat.not_lt.mpr hle)))
  exact w_or (w_cmp (w_idx (w_bvarF i98) w_lit hi) (w_bf (ws_cons (w_var i98) ws_nil) (min_list hB)) hn) (w_cmp (w_bf (ws_cons e1 ws_nil) (len_list (Nat.le_trans hle (by decide)))) w_lit hg)
theorem meth_index {l : List D} {x : D} {k : Nat} (h1 : l.length ≤ 1000) (h : indexD x l = some k) : methD 0 (.lst l) [x] = some (natD k) := by
  show (if decide (l.length ≤ 1000) = true then (Option.bind (indexD x l) fun a => some (a : Int)).map (fun k => D.int k) else none) = _
  exact (if_pos (decide_eq_true h1)).trans (mapE (bindE h rfl) rfl)
theorem ev_at {B : List Nat} {x : Nat} {S : List D} (hl : B.length ≤ 1000) (hx : B.idxOf x < B.length) (hS : S[0]? = some (natD x)) (i98 : look σ 98 = some (.frz (.lst (B.map natD)))) (i91 : look σ 91 = some (.frz (.lst S))) :
    evE C (.meth (.var 98) 0 [(.idx (.bvar 91) (.lit (.int 0)))]) σ = some (natD (B.idxOf x)) := by
  have hi : idxD (.lst S) (.int 0) = some (natD x) := idx_nat (i := 0) hS (by decide)
  exact w_meth (w_var i98) (ws_cons (w_idx (w_bvarF i91) w_lit hi) ws_nil) (meth_index (by rw [List.length_map]; exact hl) (index_nat hx))
theorem ev_turn (K : Calls C C5 C4) {st sp c n a : Nat} {B : List Nat} (hs : sp ∈ stepsN) (h2 : 2 ≤ c) (hc : c ≤ aroundN sp) (hcn : c ≤ n) (hn : n ≤ 20) (ha : a < B.length) (hl : B.length ≤ 400) (hr : B.drop a ++ B.take a = (orderN sp c).map (spotN st sp)) (ho : ∀ k ∈ orderN sp c, k < c) (hol : (orderN sp c).length ≤ 400)
    (i98 : look σ 98 = some (.frz (.lst (B.map natD)))) (i101 : look σ 101 = some (.frz (natD a))) (i91 : look σ 91 = some (.frz (.lst (spotsD st sp n)))) (i81 : look σ 81 = some (.frz (natD (upN sp c)))) (i82 : look σ 82 = some (.frz (natD (downN sp c)))) (i1 : look σ 1 = some (.frz (natD c))) :
    evE C (.cmp .ne (.bin .add (.from_ (.var 98) (.var 101)) (.upto (.var 98) (.var 101))) (.comp (.idx (.bvar 91) (.var 62)) [62] (.call 17 [(.var 81), (.var 82), (.var 1)]) [])) σ = some (.bool false) := by
  have h := sameO_eq (chkAll_at (order_tab C5) hs h2 hc)
  have e1 : evE C (.call 17 [(.var 81), (.var 82), (.var 1)]) σ = some (.lst ((orderN sp c).map natD)) := by
    exact w_call (ws_cons (w_var i81) (ws_cons (w_var i82) (ws_cons (w_var i1) ws_nil))) ((K.c17 _).trans h)
  have e2 : evE C (.comp (.idx (.bvar 91) (.var 62)) [62] (.call 17 [(.var 81), (.var 82), (.var 1)]) []) σ = some (.lst ((orderN sp c).map fun k => natD (spotN st sp k))) := by
    refine ev_map natD _ e1 (fun k hk => ?_) (by lia)
    have hk' := ho k hk
    have hi : idxD (.lst (spotsD st sp n)) (natD k) = some (natD (spotN st sp k)) := idx_nat (i := k) (by unfold spotsD; rw [List.getElem?_map, List.getElem?_range (by lia)]; rfl) (by lia)
    exact w_idx (w_bvarF (look_miss rfl i91)) (w_var look_hit) hi
  have e3 : (orderN sp c).map (fun k => natD (spotN st sp k)) = (B.drop a ++ B.take a).map natD := by rw [hr, List.map_map]; rfl
  rw [e3] at e2
  have hBl : (B.map natD).length ≤ 1000000 := by rw [List.length_map]; lia
  have f1 := from_nat (l := B.map natD) (a := a) hBl (by rw [List.length_map]; lia)
  have f2 := upto_nat (l := B.map natD) (a := a) hBl
  have hl2 : ((B.map natD).drop a).length + ((B.map natD).take a).length ≤ 1000 := by rw [Nat.add_comm, ← List.length_append, List.take_append_drop, List.length_map]; lia
  have f3 : binD .add (.lst ((B.map natD).drop a)) (.lst ((B.map natD).take a)) = some (.lst ((B.drop a ++ B.take a).map natD)) := (if_pos (decide_eq_true hl2)).trans (by rw [List.map_append, List.map_drop, List.map_take])
  have f4 : cmpD .ne (.lst ((B.drop a ++ B.take a).map natD)) (.lst ((B.drop a ++ B.take a).map natD)) = some false := (mapE (eqvs_nat 4 _ _) rfl).trans (by rw [beq_self_eq_true]; rfl)
  exact w_cmp (w_bin (w_from (w_var i98) (w_var i101) f1) (w_upto (w_var i98) (w_var i101) f2) f3) e2 f4
end Mv.Pl
end
section
open PySem PySem.W
set_option Elab.async false
set_option linter.unusedSimpArgs false
namespace Mv.Pl
variable {C C5 C4 : Nat → List D → Option D} {σ : Env1}

theorem idx_last {l : List D} {d : D} (h : l[l.length - 1]? = some d) (hn : l.length < 1000000) : idxD (.lst l) (.int (-1)) = some d := by
  have h0 : 0 < l.length := by
    cases l with
    | nil => exact nos h
    | cons => exact Nat.succ_pos _
  refine bindE (o := posOf (-1) l.length) ?_ h
  refine (if_pos rfl).trans ?_
  unfold seqIndex?
  have hc : (-1 : Int) + (l.length : Int) = ((l.length - 1 : Nat) : Int) := by rw [Int.ofNat_sub h0]; exact Int.add_comm _ _
  rw [if_pos (c := (-1 : Int) < 0) (by decide), hc]
  show (if (decide (0 ≤ ((l.length - 1 : Nat) : Int)) && decide (((l.length - 1 : Nat) : Int) < l.length)) = true then some ((l.length - 1 : Nat) : Int).toNat else none) = _
  rw [decide_eq_true (Int.natCast_nonneg _), decide_eq_true (Int.ofNat_lt.mpr (Nat.sub_lt h0 Nat.one_pos))]
  rfl
theorem mod16_diff {a b : Nat} (ha : a < 16) (hb : b < 16) : binD .mod (.int ((a : Int) - (b : Int))) (.int 16) = some (natD ((a + 16 - b) % 16)) := by
  show (if ((16 : Int) != 0 && small 16) = true then some (D.int (((a : Int) - (b : Int)).fmod 16)) else none) = _
  have : ((16 : Int) != 0 && small 16) = true := by decide
  rw [if_pos this, Int.fmod_eq_emod_of_nonneg _ (by decide)]
  have h : ((a : Int) - (b : Int)) % 16 = (((a + 16 - b) % 16 : Nat) : Int) := by
    rw [Int.natCast_emod, Int.ofNat_sub (Nat.le_trans (Nat.le_of_lt hb) (Nat.le_add_left 16 a))]
    show _ = ((a : Int) + 16 - b) % 16
    rw [Int.sub_eq_add_neg, Int.sub_eq_add_neg, Int.add_right_comm, Int.add_emod_right]
  rw [h]
  rfl
theorem blanks_nat {g : Nat} (h : g ≤ 1000) : binD .mul (.str [32]) (natD g) = some (.str (List.replicate g 32)) := by
  show (if (decide (0 ≤ (g : Int)) && decide ((g : Int) ≤ 1000) && decide (([32] : List Nat).length ≤ 1)) = true then some (D.str (repL (g : Int).toNat [32])) else none) = _
  rw [decide_eq_true (Int.natCast_nonneg g), decide_eq_true (show (g : Int) ≤ 1000 from Int.ofNat_le.mpr h), repL_one]
  rfl
theorem add_str {a b : List Nat} (h : a.length + b.length ≤ 1000) : binD .add (.str a) (.str b) = some (.str (a ++ b)) := if_pos (decide_eq_true h)
theorem ev_lead {B : List Nat} (h0 : B ≠ []) (hl : B.length ≤ 16) (hB : ∀ b ∈ B, b < 16) (hsum : (leadsN B).sum = 16) (i98 : look σ 98 = some (.frz (.lst (B.map natD)))) (i1 : look σ 1 = some (.frz (natD B.length))) :
    evE C (.meth (.lit (.str [])) 2 [(.comp (.bin .add (.bin .mul (.lit (.str [32])) (.bin .mod (.bin .sub (.idx (.bvar 98) (.var 62)) (.idx (.bvar 98) (.bin .sub (.var 62) (.lit (.int 1))))) (.lit (.int 16)))) (.lit (.str [9]))) [62] (.rng [(.var 1)]) [])]) σ = some (.str (blockS (leadsN B))) := by
  have e1 : evE C (.rng [(.var 1)]) σ = some (.lst ((List.range B.length).map natD)) := by
    exact w_rng (ws_cons (w_var i1) ws_nil) (rng_one (by lia))
  have hget : ∀ k < B.length, (B.map natD)[k]? = some (natD (B.getD k 0)) := by
    intro k hk
    rw [List.getElem?_map, List.getD_eq_getElem?_getD, List.getElem?_eq_getElem hk]
    rfl
  have hlt : ∀ k < B.length, B.getD k 0 < 16 := by
    intro k hk
    have : B.getD k 0 ∈ B := by
      rw [List.getD_eq_getElem?_getD, List.getElem?_eq_getElem hk]
      exact List.getElem_mem hk
    exact hB _ this
  have hpos : 0 < B.length := List.length_pos_iff.mpr h0
  have e2 : evE C (.comp (.bin .add (.bin .mul (.lit (.str [32])) (.bin .mod (.bin .sub (.idx (.bvar 98) (.var 62)) (.idx (.bvar 98) (.bin .sub (.var 62) (.lit (.int 1))))) (.lit (.int 16)))) (.lit (.str [9]))) [62] (.rng [(.var 1)]) []) σ = some (.lst ((List.range B.length).map fun k => .str (List.replicate ((B.getD k 0 + 16 - B.getD (if k = 0 then B.length - 1 else k - 1) 0) % 16) 32 ++ [9]))) := by
    refine ev_map natD _ e1 (fun k hk => ?_) (by rw [List.length_range]; lia)
    have hk := List.mem_range.mp hk
    have f1 : idxD (.lst (B.map natD)) (natD k) = some (natD (B.getD k 0)) := idx_nat (hget k hk) (by lia)
    have f2 : ∃ y, binD .sub (natD k) (.int 1) = some y ∧ idxD (.lst (B.map natD)) y = some (natD (B.getD (if k = 0 then B.length - 1 else k - 1) 0)) := by
      by_cases hz : k = 0
      · subst hz
        rw [if_pos rfl]
        refine ⟨.int (-1), rfl, ?_⟩
        exact idx_last (by rw [List.length_map]; exact hget _ (Nat.sub_lt hpos Nat.one_pos)) (by rw [List.length_map]; lia)
      · rw [if_neg hz]
        exact ⟨_, sub_nat (b := 1) (by lia), idx_nat (hget (k - 1) (by lia)) (by lia)⟩
    obtain ⟨y, f2, f2'⟩ := f2
    have f3 := mod16_diff (hlt k hk) (hlt (if k = 0 then B.length - 1 else k - 1) (by split; exact Nat.sub_lt hpos Nat.one_pos; exact Nat.lt_of_le_of_lt (Nat.sub_le k 1) hk))
    have f0 : binD .sub (natD (B.getD k 0)) (natD (B.getD (if k = 0 then B.length - 1 else k - 1) 0)) = some (.int ((B.getD k 0 : Int) - (B.getD (if k = 0 then B.length - 1 else k - 1) 0 : Int))) := rfl
    have hG : (B.getD k 0 + 16 - B.getD (if k = 0 then B.length - 1 else k - 1) 0) % 16 < 16 := Nat.mod_lt _ (by decide)
    generalize (B.getD k 0 + 16 - B.getD (if k = 0 then B.length - 1 else k - 1) 0) % 16 = G at f3 hG
    have f4 := blanks_nat (g := G) (Nat.le_trans (Nat.le_of_lt hG) (by decide))
    have f5 : binD .add (.str (List.replicate G 32)) (.str [9]) = some (.str (List.replicate G 32 ++ [9])) := add_str (by rw [List.length_replicate]; exact Nat.le_trans (Nat.succ_le_succ (Nat.le_of_lt hG)) (by decide))
    exact w_bin (w_bin w_lit (w_bin (w_bin (w_idx (w_bvarF (look_miss rfl i98)) (w_var look_hit) f1) (w_idx (w_bvarF (look_miss rfl i98)) (w_bin (w_var look_hit) w_lit f2) f2') f0) w_lit f3) f4) w_lit f5
  have e3 : ((List.range B.length).map fun k => D.str (List.replicate ((B.getD k 0 + 16 - B.getD (if k = 0 then B.length - 1 else k - 1) 0) % 16) 32 ++ [9])) = ((leadsN B).map fun g => List.replicate g 32 ++ [9]).map .str := by
    unfold leadsN
    rw [List.map_map, List.map_map]
    rfl
  rw [e3] at e2
  have e4 : joinL [] ((leadsN B).map fun g => List.replicate g 32 ++ [9]) = blockS (leadsN B) := by rw [joinL_nil, blockS_flat]
  have hlen : (leadsN B).length = B.length := by unfold leadsN; rw [List.length_map, List.length_range]
  have e5 := meth_join (sep := []) (l := (leadsN B).map fun g => List.replicate g 32 ++ [9]) (by rw [e4, blockS_len]; lia) (by rw [List.length_map]; lia) (by decide)
  rw [e4] at e5
  exact w_meth w_lit (ws_cons e2 ws_nil) e5
theorem ev_nanny (K : Calls C C5 C4) {gs : List Nat} {tail : Nat} (h0 : gs ≠ []) (hg : ∀ g ∈ gs, g ≤ 400) (hs : gs.sum + gs.length + tail ≤ 900) (i102 : look σ 102 = some (.frz (.str (blockS gs)))) (i85 : look σ 85 = some (.frz (natD tail))) :
    evE C (.call 8 [(.bin .add (.bin .add (.var 102) (.bin .mul (.lit (.str [32])) (.var 85))) (.lit (.str [120, 9])))]) σ = some (nanny (blockS gs ++ (List.replicate tail 32 ++ [120, 9])) gs tail) := by
  have e1 := blanks_nat (g := tail) (by lia)
  have hb := blockS_len gs
  have e2 : binD .add (.str (blockS gs)) (.str (List.replicate tail 32)) = some (.str (blockS gs ++ List.replicate tail 32)) := add_str (by rw [hb, List.length_replicate]; lia)
  have e3 : binD .add (.str (blockS gs ++ List.replicate tail 32)) (.str [120, 9]) = some (.str (blockS gs ++ List.replicate tail 32 ++ [120, 9])) := add_str (by rw [List.length_append, hb, List.length_replicate]; exact Nat.le_trans (Nat.add_le_add_right hs 2) (by decide))
  have e4 := init_run C5 tail 120 [9] h0 hg (by decide) (by decide)
  rw [← List.append_assoc] at e4 ⊢
  exact w_call (ws_cons (w_bin (w_bin (w_var i102) (w_bin w_lit (w_var i85) e1) e2) w_lit e3) ws_nil) ((K.c8 _).trans e4)
theorem nanny_same (raw : List Nat) {gs gs' : List Nat} (tail : Nat) (h1 : gs.sum = gs'.sum) (h2 : gs.length = gs'.length) (h3 : hist gs = hist gs') : nanny raw gs tail = nanny raw gs' tail := by
  unfold nanny
  rw [h1, h2, h3]
theorem bind_pair (σ : Env1) (p : Nat × Nat) : bindT σ [87, 88] (pairN p) = some (upd (upd σ 87 (.frz (natD p.1))) 88 (.frz (natD p.2))) := rfl
theorem ev_pairs {elt t : SE} {σ : Env1} {l : List (Nat × Nat)} (p : Nat × Nat → Bool) (f : Nat × Nat → D) (hl : l.length ≤ 1000) (i84 : look σ 84 = some (.frz (.lst (l.map pairN))))
    (h2 : ∀ a ∈ l, evE C t (upd (upd σ 87 (.frz (natD a.1))) 88 (.frz (natD a.2))) = some (.bool (p a))) (h3 : ∀ a ∈ l, evE C elt (upd (upd σ 87 (.frz (natD a.1))) 88 (.frz (natD a.2))) = some (f a)) : evE C (.comp elt [87, 88] (.var 84) [t]) σ = some (.lst ((l.filter p).map f)) :=
  ev_comp (d := .lst (l.map pairN)) (w_var i84) rfl (compGo_filter pairN p f fun a ha => ⟨_, bind_pair σ a, ts_one (h2 a ha), fun _ => h3 a ha⟩) (by rw [List.length_map]; exact Nat.le_trans (List.length_filter_le p l) (Nat.le_trans hl (by decide)))
theorem ev_far {sp c : Nat} (hne : (gapsN sp c).any (fun p => decide (0 < p.2)) = true) (i84 : look σ 84 = some (.frz (.lst ((gapsN sp c).map pairN)))) :
    evE C (.bf .max [(.comp (.var 87) [87, 88] (.var 84) [(.cmp .gt (.var 88) (.lit (.int 0)))])]) σ = some (natD (farN sp c)) := by
  have e1 : evE C (.comp (.var 87) [87, 88] (.var 84) [(.cmp .gt (.var 88) (.lit (.int 0)))]) σ = some (.lst (((gapsN sp c).filter fun p => decide (0 < p.2)).map fun p => natD p.1)) := by
    refine ev_pairs (fun p => decide (0 < p.2)) (fun p => natD p.1) (show 3 ≤ 1000 by decide) i84 (fun a _ => ?_) (fun a _ => ?_)
    · have hg : cmpD .gt (natD a.2) (.int 0) = some (decide (0 < a.2)) := gt_nat a.2 0
      exact w_cmp (w_var look_hit) w_lit hg
    · exact w_var (look_miss rfl look_hit)
  have e2 : (((gapsN sp c).filter fun p => decide (0 < p.2)).map fun p => natD p.1) = (((gapsN sp c).filter fun p => decide (0 < p.2)).map (·.1)).map natD := by rw [List.map_map]; rfl
  have e3 := max_list (l := ((gapsN sp c).filter fun p => decide (0 < p.2)).map (·.1)) (by
    intro h
    rw [List.map_eq_nil_iff, List.filter_eq_nil_iff] at h
    obtain ⟨p, hp, hq⟩ := List.any_eq_true.mp hne
    exact h p hp hq)
  rw [e2] at e1
  exact w_bf (ws_cons e1 ws_nil) e3
theorem eq_nat (a b : Nat) : cmpD .eq (natD a) (natD b) = some (a == b) := cmp_nat .eq a b
theorem ev_counts {sp c : Nat} (hf : farN sp c ≤ 16) (i84 : look σ 84 = some (.frz (.lst ((gapsN sp c).map pairN)))) (i104 : look σ 104 = some (.frz (natD (farN sp c)))) :
    evE C (.comp (.bf .sum [(.comp (.var 88) [87, 88] (.var 84) [(.cmp .eq (.var 87) (.var 86))])]) [86] (.rng [(.bin .add (.var 104) (.lit (.int 1)))]) []) σ = some (.lst ((countsN sp c).map natD)) := by
  have e0 : binD .add (natD (farN sp c)) (.int 1) = some (natD (farN sp c + 1)) := add_nat _ 1
  have e1 : evE C (.rng [(.bin .add (.var 104) (.lit (.int 1)))]) σ = some (.lst ((List.range (farN sp c + 1)).map natD)) := by
    exact w_rng (ws_cons (w_bin (w_var i104) w_lit e0) ws_nil) (rng_one (by lia))
  have e2 : evE C (.comp (.bf .sum [(.comp (.var 88) [87, 88] (.var 84) [(.cmp .eq (.var 87) (.var 86))])]) [86] (.rng [(.bin .add (.var 104) (.lit (.int 1)))]) []) σ = some (.lst ((List.range (farN sp c + 1)).map fun s => natD (((gapsN sp c).filter fun p => p.1 == s).map (·.2)).sum)) := by
    refine ev_map natD _ e1 (fun s hs => ?_) (by rw [List.length_range]; lia)
    have e3 : evE C (.comp (.var 88) [87, 88] (.var 84) [(.cmp .eq (.var 87) (.var 86))]) (upd σ 86 (.frz (natD s))) = some (.lst (((gapsN sp c).filter fun p => p.1 == s).map fun p => natD p.2)) := by
      refine ev_pairs (fun p => p.1 == s) (fun p => natD p.2) (show 3 ≤ 1000 by decide) (look_miss rfl i84) (fun a _ => ?_) (fun a _ => ?_)
      · exact w_cmp (w_var (look_miss rfl look_hit)) (w_var (look_miss rfl (look_miss rfl look_hit))) (eq_nat _ _)
      · exact w_var look_hit
    have e4 : (((gapsN sp c).filter fun p => p.1 == s).map fun p => natD p.2) = (((gapsN sp c).filter fun p => p.1 == s).map (·.2)).map natD := by rw [List.map_map]; rfl
    rw [e4] at e3
    exact w_bf (ws_cons e3 ws_nil) (sum_nat _)
  rw [e2]
  unfold countsN
  rw [List.map_map]
  rfl
theorem eqv_nat (k a : Nat) : D.eqv k (natD a) (natD a) = some true := (eII k a a).trans (congrArg some (beq_self_eq_true _))
theorem ev_norm {raw gs counts : List Nat} {tail n c : Nat} (hc : hist gs = counts) (hn : gs.sum + gs.length + tail = n) (hl : gs.length = c) (hcl : counts.length ≤ 1000) {e : SE} (he : evE C e σ = some (natD n)) (i103 : look σ 103 = some (.frz (nanny raw gs tail))) (i105 : look σ 105 = some (.frz (.lst (counts.map natD)))) (i85 : look σ 85 = some (.frz (natD tail))) (i1 : look σ 1 = some (.frz (natD c))) :
    evE C (.cmp .ne (.lst [(.attr (.bvar 103) 27), (.attr (.bvar 103) 25), (.attr (.bvar 103) 26)]) (.lst [(.tup [(.bf .tuple [(.var 105)]), (.var 85)]), e, (.var 1)])) σ = some (.bool false) := by
  have a1 := nanny_norm raw gs tail
  have a2 := nanny_n raw gs tail
  have a3 := nanny_nt raw gs tail
  rw [hc] at a1
  rw [hn] at a2
  rw [hl] at a3
  have a4 : bfD .tuple [.lst (counts.map natD)] = some (.tup (counts.map natD)) := if_pos (decide_eq_true (by rw [List.length_map]; exact hcl))
  have b1 : D.eqv 3 (.tup (counts.map natD)) (.tup (counts.map natD)) = some true := (eqvs_nat 2 counts counts).trans (congrArg some (beq_self_eq_true _))
  have a5 : cmpD .ne (.lst [.tup [.tup (counts.map natD), natD tail], natD n, natD c]) (.lst [.tup [.tup (counts.map natD), natD tail], natD n, natD c]) = some false :=
    mapE (o := eqvs (D.eqv 4) _ _) (bindE (o := D.eqv 4 _ _) (bindE b1 (mapE (bindE (eqv_nat _ tail) rfl) rfl)) (mapE (bindE (eqv_nat _ n) (mapE (bindE (eqv_nat _ c) rfl) rfl)) rfl)) rfl
  exact w_cmp (w_lst (ws_cons (w_attr (w_bvarF i103) a1) (ws_cons (w_attr (w_bvarF i103) a2) (ws_cons (w_attr (w_bvarF i103) a3) ws_nil)))) (w_lst (ws_cons (w_tup (ws_cons (w_bf (ws_cons (w_var i105) ws_nil) a4) (ws_cons (w_var i85) ws_nil))) (ws_cons he (ws_cons (w_var i1) ws_nil)))) a5
theorem ask_nanny {m : Nat} (hm : ([24, 25, 26, 27, 28].contains m) = false) (raw gs : List Nat) (tail : Nat) (ds : List D) : umethD C m (nanny raw gs tail) ds = C m (nanny raw gs tail :: ds) := by
  exact if_neg (by rw [hm]; exact Bool.false_ne_true)
theorem ev_longest (K : Calls C C5 C4) {raw gs : List Nat} {tail far : Nat} (hf : topN gs = far) (hg : far ≤ 400) (i103 : look σ 103 = some (.frz (nanny raw gs tail))) (i104 : look σ 104 = some (.frz (natD far))) (i85 : look σ 85 = some (.frz (natD tail))) :
    evE C (.cmp .ne (.umeth (.var 103) 20 []) (.bf .max [(.var 104), (.var 85)])) σ = some (.bool false) := by
  have a1 : umethD C 20 (nanny raw gs tail) [] = some (natD (max far tail)) := by
    rw [ask_nanny (by decide), K.c20, longest_run C5 raw gs tail (by lia), hf]
  have a2 := max_nat far tail
  have a3 : cmpD .ne (natD (max far tail)) (natD (max far tail)) = some false := (ne_nat _ _).trans (congrArg some (bne_self_eq_false _))
  exact w_cmp (w_umeth (w_var i103) ws_nil a1) (w_bf (ws_cons (w_var i104) (ws_cons (w_var i85) ws_nil)) a2) a3
end Mv.Pl
end
section
open PySem PySem.W
set_option Elab.async false
set_option linter.unusedSimpArgs false
namespace Mv.Pl
variable {C C5 C4 : Nat → List D → Option D} {σ : Env1}

noncomputable def lawBody : List SS := [(.asgT [84, 81, 82] (.call 16 [(.var 66), (.var 1)])),
  (.asg 96 (.meth (.call 12 [(.bf .sum [(.comp (.bin .pow (.lit (.int 2)) (.bin .add (.var 90) (.var 97))) [97] (.upto (.var 91) (.var 1)) [])])]) 3 [(.lit (.str [44, 32]))])),
  (.asg 98 (.comp2 (.bin .sub (.var 99) (.var 90)) 100 (.var 96) 99 (.idx (.bvar 63) (.var 100)))),
  (.ite (.or (.cmp .ne (.idx (.bvar 98) (.lit (.int 0))) (.bf .min [(.var 98)])) (.cmp .gt (.bf .len [(.comp (.var 100) [100] (.var 96) [(.cmp .gt (.idx (.idx (.bvar 63) (.var 100)) (.lit (.int 0))) (.lit (.int 31)))])]) (.lit (.int 1)))) [(.ret (.lit (.bool false)))] []),
  (.asg 101 (.meth (.var 98) 0 [(.idx (.bvar 91) (.lit (.int 0)))])),
  (.ite (.cmp .ne (.bin .add (.from_ (.var 98) (.var 101)) (.upto (.var 98) (.var 101))) (.comp (.idx (.bvar 91) (.var 62)) [62] (.call 17 [(.var 81), (.var 82), (.var 1)]) [])) [(.ret (.lit (.bool false)))] []),
  (.asg 102 (.meth (.lit (.str [])) 2 [(.comp (.bin .add (.bin .mul (.lit (.str [32])) (.bin .mod (.bin .sub (.idx (.bvar 98) (.var 62)) (.idx (.bvar 98) (.bin .sub (.var 62) (.lit (.int 1))))) (.lit (.int 16)))) (.lit (.str [9]))) [62] (.rng [(.var 1)]) [])])),
  (.asg 103 (.call 8 [(.bin .add (.bin .add (.var 102) (.bin .mul (.lit (.str [32])) (.var 85))) (.lit (.str [120, 9])))])),
  (.asg 104 (.bf .max [(.comp (.var 87) [87, 88] (.var 84) [(.cmp .gt (.var 88) (.lit (.int 0)))])])),
  (.asg 105 (.comp (.bf .sum [(.comp (.var 88) [87, 88] (.var 84) [(.cmp .eq (.var 87) (.var 86))])]) [86] (.rng [(.bin .add (.var 104) (.lit (.int 1)))]) [])),
  (.ite (.cmp .ne (.lst [(.attr (.bvar 103) 27), (.attr (.bvar 103) 25), (.attr (.bvar 103) 26)]) (.lst [(.tup [(.bf .tuple [(.var 105)]), (.var 85)]), (.bin .add (.bin .add (.lit (.int 16)) (.var 1)) (.var 85)), (.var 1)])) [(.ret (.lit (.bool false)))] []),
  (.ite (.cmp .ne (.umeth (.var 103) 20 []) (.bf .max [(.var 104), (.var 85)])) [(.ret (.lit (.bool false)))] []),
  (.asg 95 (.bf .max [(.var 95), (.var 104)])),
  (.app 93 (.var 103)),
  (.app 94 (.var 84))]
noncomputable def lawPre : List SS := [(.asg 61 (.call 13 [(.var 60)])),
  (.asg 66 (.idx (.lst [(.lit (.int 1)), (.lit (.int 2)), (.lit (.int 3)), (.lit (.int 4)), (.lit (.int 5)), (.lit (.int 6)), (.lit (.int 7)), (.lit (.int 9)), (.lit (.int 10)), (.lit (.int 11)), (.lit (.int 12)), (.lit (.int 13)), (.lit (.int 14)), (.lit (.int 15))]) (.bin .mod (.idx (.bvar 61) (.lit (.int 0))) (.lit (.int 14))))),
  (.asg 89 (.idx (.comp (.var 62) [62] (.rng [(.lit (.int 1)), (.lit (.int 17))]) [(.cmp .eq (.bin .mod (.bin .mul (.var 62) (.var 66)) (.lit (.int 16))) (.lit (.int 0)))]) (.lit (.int 0)))),
  (.asg 67 (.bin .add (.lit (.int 2)) (.bin .mod (.idx (.bvar 61) (.lit (.int 1))) (.bin .sub (.var 89) (.lit (.int 2)))))),
  (.asg 90 (.bin .mod (.bin .fdiv (.idx (.bvar 61) (.lit (.int 2))) (.lit (.int 16))) (.lit (.int 21)))),
  (.asg 85 (.bin .mod (.idx (.bvar 61) (.lit (.int 3))) (.lit (.int 3)))),
  (.asgT [69, 70] (.call 15 [(.bin .mod (.idx (.bvar 61) (.lit (.int 2))) (.lit (.int 16))), (.var 66), (.bin .add (.var 67) (.lit (.int 1))), (.bin .fdiv (.idx (.bvar 61) (.lit (.int 3))) (.lit (.int 3)))])),
  (.ite (.cmp .ne (.var 69) (.var 70)) [(.ret (.lit (.bool false)))] []),
  (.asg 91 (.comp (.bf .int [(.bin .mul (.idx (.bvar 92) (.lit (.int 0))) (.lit (.int 16)))]) [92] (.var 69) [])),
  (.asg 63 (.call 14 [])),
  (.new 93 (.lst [])),
  (.new 94 (.lst [])),
  (.asg 95 (.var 85))]
noncomputable def lawPost : List SS := [(.asg 106 (.comp (.tup [(.var 86), (.call 18 [(.idx (.bvar 94) (.lit (.int 0))), (.var 85), (.var 86)]), (.call 18 [(.idx (.bvar 94) (.lit (.int 1))), (.var 85), (.var 86)])]) [86] (.rng [(.lit (.int 1)), (.bin .add (.var 95) (.lit (.int 2)))]) [])),
  (.asg 108 (.comp (.tup [(.idx (.bvar 107) (.lit (.int 0))), (.idx (.bvar 107) (.lit (.int 2))), (.idx (.bvar 107) (.lit (.int 1)))]) [107] (.var 106) [])),
  (.ite (.cmp .ne (.umeth (.idx (.bvar 93) (.lit (.int 0))) 22 [(.idx (.bvar 93) (.lit (.int 1)))]) (.comp (.var 107) [107] (.var 106) [(.cmp .ne (.idx (.bvar 107) (.lit (.int 1))) (.idx (.bvar 107) (.lit (.int 2))))])) [(.ret (.lit (.bool false)))] []),
  (.ite (.cmp .ne (.umeth (.idx (.bvar 93) (.lit (.int 1))) 22 [(.idx (.bvar 93) (.lit (.int 0)))]) (.comp (.var 107) [107] (.var 108) [(.cmp .ne (.idx (.bvar 107) (.lit (.int 1))) (.idx (.bvar 107) (.lit (.int 2))))])) [(.ret (.lit (.bool false)))] []),
  (.ite (.cmp .ne (.umeth (.idx (.bvar 93) (.lit (.int 0))) 23 [(.idx (.bvar 93) (.lit (.int 1)))]) (.comp (.var 107) [107] (.var 106) [(.cmp .ge (.idx (.bvar 107) (.lit (.int 1))) (.idx (.bvar 107) (.lit (.int 2))))])) [(.ret (.lit (.bool false)))] []),
  (.ret (.cmp .eq (.umeth (.idx (.bvar 93) (.lit (.int 1))) 23 [(.idx (.bvar 93) (.lit (.int 0)))]) (.var 108)))]
theorem law_eq : s1_law = lawPre ++ (.for_ [1] (.tup [(.var 67), (.bin .add (.var 67) (.lit (.int 1)))]) lawBody [] :: lawPost) := rfl
structure LoopI (st sp base tail n : Nat) (S B : List D) (depth : Nat) (σ : Env1) : Prop where
  i66 : look σ 66 = some (.frz (natD sp))
  i85 : look σ 85 = some (.frz (natD tail))
  i90 : look σ 90 = some (.frz (natD base))
  i91 : look σ 91 = some (.frz (.lst (spotsD st sp n)))
  i63 : look σ 63 = some (.frz tabD)
  i93 : look σ 93 = some (.own S)
  i94 : look σ 94 = some (.own B)
  i95 : look σ 95 = some (.frz (natD depth))
theorem around_le (sp : Nat) : aroundN sp ≤ 16 := by
  unfold aroundN
  split
  · decide
  · split <;> decide
theorem run_asgT {x y z : Nat} {e : SE} {a b c : D} (h : evE C e σ = some (.tup [a, b, c])) : run C (.asgT [x, y, z] e) σ = some (upd (upd (upd σ x (.frz a)) y (.frz b)) z (.frz c), .next) := s_asgT' h rfl
structure PlaceI (st sp c : Nat) : Prop where
  p1 : sumN st sp c < 65536
  p2 : sumN st sp c ≠ 0
  p3 : (bitsN st sp c).length = c
  p4 : (bitsN st sp c).idxOf (spotN st sp 0) < c
  p5 : ∀ x ∈ bitsN st sp c, (bitsN st sp c).headD 0 ≤ x ∧ x < 16
  p6 : (bitsN st sp c).drop ((bitsN st sp c).idxOf (spotN st sp 0)) ++ (bitsN st sp c).take ((bitsN st sp c).idxOf (spotN st sp 0)) = (orderN sp c).map (spotN st sp)
  p7 : (leadsN (bitsN st sp c)).sum = 16
  p8 : (leadsN (bitsN st sp c)).length = c
  p9 : hist (leadsN (bitsN st sp c)) = hist (canonN sp c)
theorem place_inv {st sp c : Nat} (h : chkPlace st sp c = true) : PlaceI st sp c := by
  obtain ⟨h, p9⟩ := and_inv h
  obtain ⟨h, p8⟩ := and_inv h
  obtain ⟨h, p7⟩ := and_inv h
  obtain ⟨h, p6⟩ := and_inv h
  obtain ⟨h, p5⟩ := and_inv h
  obtain ⟨h, p4⟩ := and_inv h
  obtain ⟨h, p3⟩ := and_inv h
  obtain ⟨p1, p2⟩ := and_inv h
  exact ⟨of_decide_eq_true p1, bne_iff_ne.mp p2, beq_iff_eq.mp p3, of_decide_eq_true p4, fun x hx => have h := and_inv (List.all_eq_true.mp p5 x hx); ⟨of_decide_eq_true h.1, of_decide_eq_true h.2⟩, beq_iff_eq.mp p6, beq_iff_eq.mp p7, beq_iff_eq.mp p8, beq_iff_eq.mp p9⟩
structure GapI (sp c : Nat) : Prop where
  q1 : farN sp c = topN (canonN sp c)
  q2 : countsN sp c = hist (canonN sp c)
  q3 : ∀ k ∈ orderN sp c, k < c
  q4 : (orderN sp c).length = c
  q5 : (canonN sp c).length = c
  q6 : (canonN sp c).sum = 16
  q7 : farN sp c ≤ 16
  q8 : ∀ p ∈ gapsN sp c, p.1 ≤ 32 ∧ p.2 ≤ 32
  q9 : (gapsN sp c).any (fun p => decide (0 < p.2)) = true
theorem gap_inv {sp c : Nat} (h : chkGap sp c = true) : GapI sp c := by
  obtain ⟨h, q9⟩ := and_inv h
  obtain ⟨h, q8⟩ := and_inv h
  obtain ⟨h, q7⟩ := and_inv h
  obtain ⟨h, q6⟩ := and_inv h
  obtain ⟨h, q5⟩ := and_inv h
  obtain ⟨h, q4⟩ := and_inv h
  obtain ⟨h, q3⟩ := and_inv h
  obtain ⟨q1, q2⟩ := and_inv h
  exact ⟨beq_iff_eq.mp q1, beq_iff_eq.mp q2, fun k hk => of_decide_eq_true (List.all_eq_true.mp q3 k hk), beq_iff_eq.mp q4, beq_iff_eq.mp q5, beq_iff_eq.mp q6, of_decide_eq_true q7, fun p hp => have h := and_inv (List.all_eq_true.mp q8 p hp); ⟨of_decide_eq_true h.1, of_decide_eq_true h.2⟩, q9⟩
theorem body_run (K : Calls C C5 C4) {st sp base tail n c depth : Nat} {S Bo : List D} (hst : st < 16) (hs : sp ∈ stepsN) (h2 : 2 ≤ c) (hc : c ≤ aroundN sp) (hcn : c ≤ n) (hn : n ≤ 17) (hb : base ≤ 20) (ht : tail ≤ 10) (hS : S.length ≤ 10) (hBo : Bo.length ≤ 10) (L : LoopI st sp base tail n S Bo depth σ) :
    ∃ raw σ', LoopI st sp base tail n (S ++ [nanny raw (canonN sp c) tail]) (Bo ++ [.lst ((gapsN sp c).map pairN)]) (max depth (farN sp c)) σ' ∧ runs C lawBody (upd σ 1 (.frz (natD c))) = some (σ', .next) := by
  obtain ⟨i66, i85, i90, i91, i63, i93, i94, i95⟩ := L
  have P := chkAll_at (places st hst) hs h2 hc
  have Q := chkAll_at gap_all hs h2 hc
  obtain ⟨p1, p2, p3, p4, p5, p6, p7, p8, p9⟩ := place_inv P
  obtain ⟨q1, q2, q3, q4, q5, q6, q7, q8, q9⟩ := gap_inv Q
  have hF : 2 ^ base * sumN st sp c < 2 ^ 36 := shift_lt hb p1
  have hB := bits_of hb p1
  have hBl : (bitsN st sp c).length = c := p3
  have hc16 : c ≤ 16 := by
    exact Nat.le_trans hc (around_le sp)
  obtain ⟨b0, r, hbr⟩ : ∃ b0 r, bitsN st sp c = b0 :: r := by
    cases h : bitsN st sp c with
    | nil => rw [h] at hBl; exact absurd (Nat.le_trans h2 (Nat.le_of_eq hBl.symm)) (Nat.not_succ_le_zero 1)
    | cons b0 r => exact ⟨b0, r, rfl⟩
  have hmin : ∀ b ∈ r, b0 ≤ b := by
    intro b hb
    have := (p5 b (by rw [hbr]; exact List.mem_cons_of_mem _ hb)).1
    rw [hbr] at this
    exact this
  have hlt : ∀ b ∈ bitsN st sp c, b < 16 := fun b hb => (p5 b hb).2
  have hgl : (leadsN (bitsN st sp c)).length = c := p8
  have hgne : leadsN (bitsN st sp c) ≠ [] := fun h => absurd (Nat.le_trans h2 (Nat.le_of_eq (hgl.symm.trans (congrArg List.length h)))) (Nat.not_succ_le_zero 1)
  have hg16 : ∀ g ∈ leadsN (bitsN st sp c), g ≤ 400 := by
    intro g hg
    unfold leadsN at hg
    obtain ⟨k, _, e⟩ := List.mem_map.mp hg
    rw [← e]
    exact Nat.le_trans (Nat.le_of_lt (Nat.mod_lt _ (by decide))) (by decide)
  have hfar : topN (canonN sp c) = farN sp c := q1.symm
  have hnan := nanny_same (blockS (leadsN (bitsN st sp c)) ++ (List.replicate tail 32 ++ [120, 9])) tail (gs := leadsN (bitsN st sp c)) (gs' := canonN sp c) (by rw [q6]; exact p7) (by rw [q5]; exact p8) p9
  have hS0 : (spotsD st sp n)[0]? = some (natD (spotN st sp 0)) := by
    unfold spotsD
    rw [List.getElem?_map, List.getElem?_range (by omega)]
    rfl

  have r0 : run C (.asgT [84, 81, 82] (.call 16 [(.var 66), (.var 1)])) (upds σ [(1, .frz (natD c))]) = some (upds σ [(82, .frz (natD (downN sp c))), (81, .frz (natD (upN sp c))), (84, .frz (.lst ((gapsN sp c).map pairN))), (1, .frz (natD c))], .next) := run_asgT (ev_gaps K hs h2 hc (look_out rfl i66) (look_in rfl))
  have r1 : run C (.asg 96 (.meth (.call 12 [(.bf .sum [(.comp (.bin .pow (.lit (.int 2)) (.bin .add (.var 90) (.var 97))) [97] (.upto (.var 91) (.var 1)) [])])]) 3 [(.lit (.str [44, 32]))])) (upds σ [(82, .frz (natD (downN sp c))), (81, .frz (natD (upN sp c))), (84, .frz (.lst ((gapsN sp c).map pairN))), (1, .frz (natD c))]) = some (upds σ [(96, .frz (.lst ((Wp 32 0 (2 ^ base * sumN st sp c)).map fun p => .str p.1))), (82, .frz (natD (downN sp c))), (81, .frz (natD (upN sp c))), (84, .frz (.lst ((gapsN sp c).map pairN))), (1, .frz (natD c))], .next) := run_asg (ev_words K hb hcn (by omega) p2 p1 (look_out rfl i90) (look_out rfl i91) (look_in rfl))
  have r2 : run C (.asg 98 (.comp2 (.bin .sub (.var 99) (.var 90)) 100 (.var 96) 99 (.idx (.bvar 63) (.var 100)))) (upds σ [(96, .frz (.lst ((Wp 32 0 (2 ^ base * sumN st sp c)).map fun p => .str p.1))), (82, .frz (natD (downN sp c))), (81, .frz (natD (upN sp c))), (84, .frz (.lst ((gapsN sp c).map pairN))), (1, .frz (natD c))]) = some (upds σ [(98, .frz (.lst ((bitsN st sp c).map natD))), (96, .frz (.lst ((Wp 32 0 (2 ^ base * sumN st sp c)).map fun p => .str p.1))), (82, .frz (natD (downN sp c))), (81, .frz (natD (upN sp c))), (84, .frz (.lst ((gapsN sp c).map pairN))), (1, .frz (natD c))], .next) := run_asg (ev_seen hF hB (look_in rfl) (look_out rfl i90) (look_out rfl i63) (by omega))
  have r3 : run C (.ite (.or (.cmp .ne (.idx (.bvar 98) (.lit (.int 0))) (.bf .min [(.var 98)])) (.cmp .gt (.bf .len [(.comp (.var 100) [100] (.var 96) [(.cmp .gt (.idx (.idx (.bvar 63) (.var 100)) (.lit (.int 0))) (.lit (.int 31)))])]) (.lit (.int 1)))) [(.ret (.lit (.bool false)))] []) (upds σ [(98, .frz (.lst ((bitsN st sp c).map natD))), (96, .frz (.lst ((Wp 32 0 (2 ^ base * sumN st sp c)).map fun p => .str p.1))), (82, .frz (natD (downN sp c))), (81, .frz (natD (upN sp c))), (84, .frz (.lst ((gapsN sp c).map pairN))), (1, .frz (natD c))]) = some (upds σ [(98, .frz (.lst ((bitsN st sp c).map natD))), (96, .frz (.lst ((Wp 32 0 (2 ^ base * sumN st sp c)).map fun p => .str p.1))), (82, .frz (natD (downN sp c))), (81, .frz (natD (upN sp c))), (84, .frz (.lst ((gapsN sp c).map pairN))), (1, .frz (natD c))], .next) := run_skip (ev_sorted (b0 := b0) (r := r) hF hmin (hbr ▸ (look_in rfl)) (look_in rfl) (look_out rfl i63))
  have r4 : run C (.asg 101 (.meth (.var 98) 0 [(.idx (.bvar 91) (.lit (.int 0)))])) (upds σ [(98, .frz (.lst ((bitsN st sp c).map natD))), (96, .frz (.lst ((Wp 32 0 (2 ^ base * sumN st sp c)).map fun p => .str p.1))), (82, .frz (natD (downN sp c))), (81, .frz (natD (upN sp c))), (84, .frz (.lst ((gapsN sp c).map pairN))), (1, .frz (natD c))]) = some (upds σ [(101, .frz (natD ((bitsN st sp c).idxOf (spotN st sp 0)))), (98, .frz (.lst ((bitsN st sp c).map natD))), (96, .frz (.lst ((Wp 32 0 (2 ^ base * sumN st sp c)).map fun p => .str p.1))), (82, .frz (natD (downN sp c))), (81, .frz (natD (upN sp c))), (84, .frz (.lst ((gapsN sp c).map pairN))), (1, .frz (natD c))], .next) := run_asg (ev_at (by omega) (by omega) hS0 (look_in rfl) (look_out rfl i91))
  have r5 : run C (.ite (.cmp .ne (.bin .add (.from_ (.var 98) (.var 101)) (.upto (.var 98) (.var 101))) (.comp (.idx (.bvar 91) (.var 62)) [62] (.call 17 [(.var 81), (.var 82), (.var 1)]) [])) [(.ret (.lit (.bool false)))] []) (upds σ [(101, .frz (natD ((bitsN st sp c).idxOf (spotN st sp 0)))), (98, .frz (.lst ((bitsN st sp c).map natD))), (96, .frz (.lst ((Wp 32 0 (2 ^ base * sumN st sp c)).map fun p => .str p.1))), (82, .frz (natD (downN sp c))), (81, .frz (natD (upN sp c))), (84, .frz (.lst ((gapsN sp c).map pairN))), (1, .frz (natD c))]) = some (upds σ [(101, .frz (natD ((bitsN st sp c).idxOf (spotN st sp 0)))), (98, .frz (.lst ((bitsN st sp c).map natD))), (96, .frz (.lst ((Wp 32 0 (2 ^ base * sumN st sp c)).map fun p => .str p.1))), (82, .frz (natD (downN sp c))), (81, .frz (natD (upN sp c))), (84, .frz (.lst ((gapsN sp c).map pairN))), (1, .frz (natD c))], .next) := run_skip (ev_turn K hs h2 hc hcn (by omega) (by omega) (by omega) p6 q3 (by omega) (look_in rfl) (look_in rfl) (look_out rfl i91) (look_in rfl) (look_in rfl) (look_in rfl))
  have r6 : run C (.asg 102 (.meth (.lit (.str [])) 2 [(.comp (.bin .add (.bin .mul (.lit (.str [32])) (.bin .mod (.bin .sub (.idx (.bvar 98) (.var 62)) (.idx (.bvar 98) (.bin .sub (.var 62) (.lit (.int 1))))) (.lit (.int 16)))) (.lit (.str [9]))) [62] (.rng [(.var 1)]) [])])) (upds σ [(101, .frz (natD ((bitsN st sp c).idxOf (spotN st sp 0)))), (98, .frz (.lst ((bitsN st sp c).map natD))), (96, .frz (.lst ((Wp 32 0 (2 ^ base * sumN st sp c)).map fun p => .str p.1))), (82, .frz (natD (downN sp c))), (81, .frz (natD (upN sp c))), (84, .frz (.lst ((gapsN sp c).map pairN))), (1, .frz (natD c))]) = some (upds σ [(102, .frz (.str (blockS (leadsN (bitsN st sp c))))), (101, .frz (natD ((bitsN st sp c).idxOf (spotN st sp 0)))), (98, .frz (.lst ((bitsN st sp c).map natD))), (96, .frz (.lst ((Wp 32 0 (2 ^ base * sumN st sp c)).map fun p => .str p.1))), (82, .frz (natD (downN sp c))), (81, .frz (natD (upN sp c))), (84, .frz (.lst ((gapsN sp c).map pairN))), (1, .frz (natD c))], .next) := run_asg (ev_lead (B := bitsN st sp c) (hbr ▸ List.cons_ne_nil b0 r) (by omega) hlt p7 (look_in rfl) (hBl.symm ▸ (look_in rfl)))
  have r7 : run C (.asg 103 (.call 8 [(.bin .add (.bin .add (.var 102) (.bin .mul (.lit (.str [32])) (.var 85))) (.lit (.str [120, 9])))])) (upds σ [(102, .frz (.str (blockS (leadsN (bitsN st sp c))))), (101, .frz (natD ((bitsN st sp c).idxOf (spotN st sp 0)))), (98, .frz (.lst ((bitsN st sp c).map natD))), (96, .frz (.lst ((Wp 32 0 (2 ^ base * sumN st sp c)).map fun p => .str p.1))), (82, .frz (natD (downN sp c))), (81, .frz (natD (upN sp c))), (84, .frz (.lst ((gapsN sp c).map pairN))), (1, .frz (natD c))]) = some (upds σ [(103, .frz (nanny (blockS (leadsN (bitsN st sp c)) ++ (List.replicate tail 32 ++ [120, 9])) (canonN sp c) tail)), (102, .frz (.str (blockS (leadsN (bitsN st sp c))))), (101, .frz (natD ((bitsN st sp c).idxOf (spotN st sp 0)))), (98, .frz (.lst ((bitsN st sp c).map natD))), (96, .frz (.lst ((Wp 32 0 (2 ^ base * sumN st sp c)).map fun p => .str p.1))), (82, .frz (natD (downN sp c))), (81, .frz (natD (upN sp c))), (84, .frz (.lst ((gapsN sp c).map pairN))), (1, .frz (natD c))], .next) := run_asg ((ev_nanny K hgne hg16 (by rw [hgl, p7]; omega) (look_in rfl) (look_out rfl i85)).trans (congrArg some hnan))
  have r8 : run C (.asg 104 (.bf .max [(.comp (.var 87) [87, 88] (.var 84) [(.cmp .gt (.var 88) (.lit (.int 0)))])])) (upds σ [(103, .frz (nanny (blockS (leadsN (bitsN st sp c)) ++ (List.replicate tail 32 ++ [120, 9])) (canonN sp c) tail)), (102, .frz (.str (blockS (leadsN (bitsN st sp c))))), (101, .frz (natD ((bitsN st sp c).idxOf (spotN st sp 0)))), (98, .frz (.lst ((bitsN st sp c).map natD))), (96, .frz (.lst ((Wp 32 0 (2 ^ base * sumN st sp c)).map fun p => .str p.1))), (82, .frz (natD (downN sp c))), (81, .frz (natD (upN sp c))), (84, .frz (.lst ((gapsN sp c).map pairN))), (1, .frz (natD c))]) = some (upds σ [(104, .frz (natD (farN sp c))), (103, .frz (nanny (blockS (leadsN (bitsN st sp c)) ++ (List.replicate tail 32 ++ [120, 9])) (canonN sp c) tail)), (102, .frz (.str (blockS (leadsN (bitsN st sp c))))), (101, .frz (natD ((bitsN st sp c).idxOf (spotN st sp 0)))), (98, .frz (.lst ((bitsN st sp c).map natD))), (96, .frz (.lst ((Wp 32 0 (2 ^ base * sumN st sp c)).map fun p => .str p.1))), (82, .frz (natD (downN sp c))), (81, .frz (natD (upN sp c))), (84, .frz (.lst ((gapsN sp c).map pairN))), (1, .frz (natD c))], .next) := run_asg (ev_far q9 (look_in rfl))
  have r9 : run C (.asg 105 (.comp (.bf .sum [(.comp (.var 88) [87, 88] (.var 84) [(.cmp .eq (.var 87) (.var 86))])]) [86] (.rng [(.bin .add (.var 104) (.lit (.int 1)))]) [])) (upds σ [(104, .frz (natD (farN sp c))), (103, .frz (nanny (blockS (leadsN (bitsN st sp c)) ++ (List.replicate tail 32 ++ [120, 9])) (canonN sp c) tail)), (102, .frz (.str (blockS (leadsN (bitsN st sp c))))), (101, .frz (natD ((bitsN st sp c).idxOf (spotN st sp 0)))), (98, .frz (.lst ((bitsN st sp c).map natD))), (96, .frz (.lst ((Wp 32 0 (2 ^ base * sumN st sp c)).map fun p => .str p.1))), (82, .frz (natD (downN sp c))), (81, .frz (natD (upN sp c))), (84, .frz (.lst ((gapsN sp c).map pairN))), (1, .frz (natD c))]) = some (upds σ [(105, .frz (.lst ((countsN sp c).map natD))), (104, .frz (natD (farN sp c))), (103, .frz (nanny (blockS (leadsN (bitsN st sp c)) ++ (List.replicate tail 32 ++ [120, 9])) (canonN sp c) tail)), (102, .frz (.str (blockS (leadsN (bitsN st sp c))))), (101, .frz (natD ((bitsN st sp c).idxOf (spotN st sp 0)))), (98, .frz (.lst ((bitsN st sp c).map natD))), (96, .frz (.lst ((Wp 32 0 (2 ^ base * sumN st sp c)).map fun p => .str p.1))), (82, .frz (natD (downN sp c))), (81, .frz (natD (upN sp c))), (84, .frz (.lst ((gapsN sp c).map pairN))), (1, .frz (natD c))], .next) := run_asg (ev_counts q7 (look_in rfl) (look_in rfl))
  have r10 : run C (.ite (.cmp .ne (.lst [(.attr (.bvar 103) 27), (.attr (.bvar 103) 25), (.attr (.bvar 103) 26)]) (.lst [(.tup [(.bf .tuple [(.var 105)]), (.var 85)]), (.bin .add (.bin .add (.lit (.int 16)) (.var 1)) (.var 85)), (.var 1)])) [(.ret (.lit (.bool false)))] []) (upds σ [(105, .frz (.lst ((countsN sp c).map natD))), (104, .frz (natD (farN sp c))), (103, .frz (nanny (blockS (leadsN (bitsN st sp c)) ++ (List.replicate tail 32 ++ [120, 9])) (canonN sp c) tail)), (102, .frz (.str (blockS (leadsN (bitsN st sp c))))), (101, .frz (natD ((bitsN st sp c).idxOf (spotN st sp 0)))), (98, .frz (.lst ((bitsN st sp c).map natD))), (96, .frz (.lst ((Wp 32 0 (2 ^ base * sumN st sp c)).map fun p => .str p.1))), (82, .frz (natD (downN sp c))), (81, .frz (natD (upN sp c))), (84, .frz (.lst ((gapsN sp c).map pairN))), (1, .frz (natD c))]) = some (upds σ [(105, .frz (.lst ((countsN sp c).map natD))), (104, .frz (natD (farN sp c))), (103, .frz (nanny (blockS (leadsN (bitsN st sp c)) ++ (List.replicate tail 32 ++ [120, 9])) (canonN sp c) tail)), (102, .frz (.str (blockS (leadsN (bitsN st sp c))))), (101, .frz (natD ((bitsN st sp c).idxOf (spotN st sp 0)))), (98, .frz (.lst ((bitsN st sp c).map natD))), (96, .frz (.lst ((Wp 32 0 (2 ^ base * sumN st sp c)).map fun p => .str p.1))), (82, .frz (natD (downN sp c))), (81, .frz (natD (upN sp c))), (84, .frz (.lst ((gapsN sp c).map pairN))), (1, .frz (natD c))], .next) := run_skip (ev_norm (raw := blockS (leadsN (bitsN st sp c)) ++ (List.replicate tail 32 ++ [120, 9])) (gs := canonN sp c) (counts := countsN sp c) (tail := tail) q2.symm (n := 16 + c + tail) (c := c) (by rw [q6, q5]) q5 (by unfold countsN; rw [List.length_map, List.length_range]; omega) (w_bin (w_bin w_lit (w_var (look_in rfl)) (add_nat 16 c)) (w_var (look_out rfl i85)) (add_nat _ _)) (look_in rfl) (look_in rfl) (look_out rfl i85) (look_in rfl))
  have r11 : run C (.ite (.cmp .ne (.umeth (.var 103) 20 []) (.bf .max [(.var 104), (.var 85)])) [(.ret (.lit (.bool false)))] []) (upds σ [(105, .frz (.lst ((countsN sp c).map natD))), (104, .frz (natD (farN sp c))), (103, .frz (nanny (blockS (leadsN (bitsN st sp c)) ++ (List.replicate tail 32 ++ [120, 9])) (canonN sp c) tail)), (102, .frz (.str (blockS (leadsN (bitsN st sp c))))), (101, .frz (natD ((bitsN st sp c).idxOf (spotN st sp 0)))), (98, .frz (.lst ((bitsN st sp c).map natD))), (96, .frz (.lst ((Wp 32 0 (2 ^ base * sumN st sp c)).map fun p => .str p.1))), (82, .frz (natD (downN sp c))), (81, .frz (natD (upN sp c))), (84, .frz (.lst ((gapsN sp c).map pairN))), (1, .frz (natD c))]) = some (upds σ [(105, .frz (.lst ((countsN sp c).map natD))), (104, .frz (natD (farN sp c))), (103, .frz (nanny (blockS (leadsN (bitsN st sp c)) ++ (List.replicate tail 32 ++ [120, 9])) (canonN sp c) tail)), (102, .frz (.str (blockS (leadsN (bitsN st sp c))))), (101, .frz (natD ((bitsN st sp c).idxOf (spotN st sp 0)))), (98, .frz (.lst ((bitsN st sp c).map natD))), (96, .frz (.lst ((Wp 32 0 (2 ^ base * sumN st sp c)).map fun p => .str p.1))), (82, .frz (natD (downN sp c))), (81, .frz (natD (upN sp c))), (84, .frz (.lst ((gapsN sp c).map pairN))), (1, .frz (natD c))], .next) := run_skip (ev_longest K (raw := blockS (leadsN (bitsN st sp c)) ++ (List.replicate tail 32 ++ [120, 9])) (gs := canonN sp c) (tail := tail) hfar (by omega) (look_in rfl) (look_in rfl) (look_out rfl i85))
  have r12 : run C (.asg 95 (.bf .max [(.var 95), (.var 104)])) (upds σ [(105, .frz (.lst ((countsN sp c).map natD))), (104, .frz (natD (farN sp c))), (103, .frz (nanny (blockS (leadsN (bitsN st sp c)) ++ (List.replicate tail 32 ++ [120, 9])) (canonN sp c) tail)), (102, .frz (.str (blockS (leadsN (bitsN st sp c))))), (101, .frz (natD ((bitsN st sp c).idxOf (spotN st sp 0)))), (98, .frz (.lst ((bitsN st sp c).map natD))), (96, .frz (.lst ((Wp 32 0 (2 ^ base * sumN st sp c)).map fun p => .str p.1))), (82, .frz (natD (downN sp c))), (81, .frz (natD (upN sp c))), (84, .frz (.lst ((gapsN sp c).map pairN))), (1, .frz (natD c))]) = some (upds σ [(95, .frz (natD (max depth (farN sp c)))), (105, .frz (.lst ((countsN sp c).map natD))), (104, .frz (natD (farN sp c))), (103, .frz (nanny (blockS (leadsN (bitsN st sp c)) ++ (List.replicate tail 32 ++ [120, 9])) (canonN sp c) tail)), (102, .frz (.str (blockS (leadsN (bitsN st sp c))))), (101, .frz (natD ((bitsN st sp c).idxOf (spotN st sp 0)))), (98, .frz (.lst ((bitsN st sp c).map natD))), (96, .frz (.lst ((Wp 32 0 (2 ^ base * sumN st sp c)).map fun p => .str p.1))), (82, .frz (natD (downN sp c))), (81, .frz (natD (upN sp c))), (84, .frz (.lst ((gapsN sp c).map pairN))), (1, .frz (natD c))], .next) := run_asg (w_bf (ws_cons (w_var (look_out rfl i95)) (ws_cons (w_var (look_in rfl)) ws_nil)) (max_nat _ _))
  have r13 : run C (.app 93 (.var 103)) (upds σ [(95, .frz (natD (max depth (farN sp c)))), (105, .frz (.lst ((countsN sp c).map natD))), (104, .frz (natD (farN sp c))), (103, .frz (nanny (blockS (leadsN (bitsN st sp c)) ++ (List.replicate tail 32 ++ [120, 9])) (canonN sp c) tail)), (102, .frz (.str (blockS (leadsN (bitsN st sp c))))), (101, .frz (natD ((bitsN st sp c).idxOf (spotN st sp 0)))), (98, .frz (.lst ((bitsN st sp c).map natD))), (96, .frz (.lst ((Wp 32 0 (2 ^ base * sumN st sp c)).map fun p => .str p.1))), (82, .frz (natD (downN sp c))), (81, .frz (natD (upN sp c))), (84, .frz (.lst ((gapsN sp c).map pairN))), (1, .frz (natD c))]) = some (upds σ [(93, .own (S ++ [nanny (blockS (leadsN (bitsN st sp c)) ++ (List.replicate tail 32 ++ [120, 9])) (canonN sp c) tail])), (95, .frz (natD (max depth (farN sp c)))), (105, .frz (.lst ((countsN sp c).map natD))), (104, .frz (natD (farN sp c))), (103, .frz (nanny (blockS (leadsN (bitsN st sp c)) ++ (List.replicate tail 32 ++ [120, 9])) (canonN sp c) tail)), (102, .frz (.str (blockS (leadsN (bitsN st sp c))))), (101, .frz (natD ((bitsN st sp c).idxOf (spotN st sp 0)))), (98, .frz (.lst ((bitsN st sp c).map natD))), (96, .frz (.lst ((Wp 32 0 (2 ^ base * sumN st sp c)).map fun p => .str p.1))), (82, .frz (natD (downN sp c))), (81, .frz (natD (upN sp c))), (84, .frz (.lst ((gapsN sp c).map pairN))), (1, .frz (natD c))], .next) := run_app (w_var (look_in rfl)) (look_out rfl i93) (by omega)
  have r14 : run C (.app 94 (.var 84)) (upds σ [(93, .own (S ++ [nanny (blockS (leadsN (bitsN st sp c)) ++ (List.replicate tail 32 ++ [120, 9])) (canonN sp c) tail])), (95, .frz (natD (max depth (farN sp c)))), (105, .frz (.lst ((countsN sp c).map natD))), (104, .frz (natD (farN sp c))), (103, .frz (nanny (blockS (leadsN (bitsN st sp c)) ++ (List.replicate tail 32 ++ [120, 9])) (canonN sp c) tail)), (102, .frz (.str (blockS (leadsN (bitsN st sp c))))), (101, .frz (natD ((bitsN st sp c).idxOf (spotN st sp 0)))), (98, .frz (.lst ((bitsN st sp c).map natD))), (96, .frz (.lst ((Wp 32 0 (2 ^ base * sumN st sp c)).map fun p => .str p.1))), (82, .frz (natD (downN sp c))), (81, .frz (natD (upN sp c))), (84, .frz (.lst ((gapsN sp c).map pairN))), (1, .frz (natD c))]) = some (upds σ [(94, .own (Bo ++ [.lst ((gapsN sp c).map pairN)])), (93, .own (S ++ [nanny (blockS (leadsN (bitsN st sp c)) ++ (List.replicate tail 32 ++ [120, 9])) (canonN sp c) tail])), (95, .frz (natD (max depth (farN sp c)))), (105, .frz (.lst ((countsN sp c).map natD))), (104, .frz (natD (farN sp c))), (103, .frz (nanny (blockS (leadsN (bitsN st sp c)) ++ (List.replicate tail 32 ++ [120, 9])) (canonN sp c) tail)), (102, .frz (.str (blockS (leadsN (bitsN st sp c))))), (101, .frz (natD ((bitsN st sp c).idxOf (spotN st sp 0)))), (98, .frz (.lst ((bitsN st sp c).map natD))), (96, .frz (.lst ((Wp 32 0 (2 ^ base * sumN st sp c)).map fun p => .str p.1))), (82, .frz (natD (downN sp c))), (81, .frz (natD (upN sp c))), (84, .frz (.lst ((gapsN sp c).map pairN))), (1, .frz (natD c))], .next) := run_app (w_var (look_in rfl)) (look_out rfl i94) (by omega)
  refine ⟨blockS (leadsN (bitsN st sp c)) ++ (List.replicate tail 32 ++ [120, 9]), upds σ [(94, .own (Bo ++ [.lst ((gapsN sp c).map pairN)])), (93, .own (S ++ [nanny (blockS (leadsN (bitsN st sp c)) ++ (List.replicate tail 32 ++ [120, 9])) (canonN sp c) tail])), (95, .frz (natD (max depth (farN sp c)))), (105, .frz (.lst ((countsN sp c).map natD))), (104, .frz (natD (farN sp c))), (103, .frz (nanny (blockS (leadsN (bitsN st sp c)) ++ (List.replicate tail 32 ++ [120, 9])) (canonN sp c) tail)), (102, .frz (.str (blockS (leadsN (bitsN st sp c))))), (101, .frz (natD ((bitsN st sp c).idxOf (spotN st sp 0)))), (98, .frz (.lst ((bitsN st sp c).map natD))), (96, .frz (.lst ((Wp 32 0 (2 ^ base * sumN st sp c)).map fun p => .str p.1))), (82, .frz (natD (downN sp c))), (81, .frz (natD (upN sp c))), (84, .frz (.lst ((gapsN sp c).map pairN))), (1, .frz (natD c))], ⟨(look_out rfl i66), (look_out rfl i85), (look_out rfl i90), (look_out rfl i91), (look_out rfl i63), (look_in rfl), (look_in rfl), (look_in rfl)⟩, ?_⟩
  show runs C lawBody (upds σ [(1, .frz (natD c))]) = _
  unfold lawBody
  refine r_step r0 ?_
  refine r_step r1 ?_
  refine r_step r2 ?_
  refine r_step r3 ?_
  refine r_step r4 ?_
  refine r_step r5 ?_
  refine r_step r6 ?_
  refine r_step r7 ?_
  refine r_step r8 ?_
  refine r_step r9 ?_
  refine r_step r10 ?_
  refine r_step r11 ?_
  refine r_step r12 ?_
  refine r_step r13 ?_
  refine r_step r14 ?_
  exact r_nil
end Mv.Pl
end
section
open PySem PySem.W
set_option Elab.async false
set_option linter.unusedSimpArgs false
namespace Mv.Pl
variable {C C5 C4 : Nat → List D → Option D} {σ : Env1}

theorem row_idx (f1 f2 : Nat → Nat) (ts : Nat) : idxD (rowD f1 f2 ts) (.int 0) = some (natD ts) ∧ idxD (rowD f1 f2 ts) (.int 1) = some (natD (f1 ts)) ∧ idxD (rowD f1 f2 ts) (.int 2) = some (natD (f2 ts)) := ⟨rfl, rfl, rfl⟩
theorem ev_sel (r R : Nat) (op : Cop) {f1 f2 : Nat → Nat} {l : List Nat} (hl : l.length ≤ 1000) (iR : look σ R = some (.frz (.lst (l.map (rowD f1 f2))))) :
    evE C (.comp (.var r) [r] (.var R) [(.cmp op (.idx (.bvar r) (.lit (.int 1))) (.idx (.bvar r) (.lit (.int 2))))]) σ = some (.lst ((l.filter fun ts => cmpN op (f1 ts) (f2 ts)).map (rowD f1 f2))) := by
  refine ev_filter (rowD f1 f2) (rowD f1 f2) (fun ts => cmpN op (f1 ts) (f2 ts)) (w_var iR) (fun ts _ => ?_) (fun ts _ _ => ?_) (by lia)
  · obtain ⟨_, h1, h2⟩ := row_idx f1 f2 ts
    exact w_cmp (w_idx (w_bvarF look_hit) w_lit h1) (w_idx (w_bvarF look_hit) w_lit h2) (cmp_nat _ _ _)
  · exact w_var look_hit
theorem ev_back (r R : Nat) {f1 f2 : Nat → Nat} {l : List Nat} (hl : l.length ≤ 1000) (iR : look σ R = some (.frz (.lst (l.map (rowD f1 f2))))) :
    evE C (.comp (.tup [(.idx (.bvar r) (.lit (.int 0))), (.idx (.bvar r) (.lit (.int 2))), (.idx (.bvar r) (.lit (.int 1)))]) [r] (.var R) []) σ = some (.lst (l.map (rowD f2 f1))) := by
  refine ev_map (rowD f1 f2) (rowD f2 f1) (w_var iR) (fun ts _ => ?_) (by lia)
  obtain ⟨h0, h1, h2⟩ := row_idx f1 f2 ts
  exact w_tup (ws_cons (w_idx (w_bvarF look_hit) w_lit h0) (ws_cons (w_idx (w_bvarF look_hit) w_lit h2) (ws_cons (w_idx (w_bvarF look_hit) w_lit h1) ws_nil)))
theorem eqv_row (k : Nat) (f1 f2 : Nat → Nat) (ts : Nat) : D.eqv (k + 1) (rowD f1 f2 ts) (rowD f1 f2 ts) = some true := by
  exact bindE (eqv_nat k ts) (mapE (bindE (eqv_nat k (f1 ts)) (mapE (bindE (eqv_nat k (f2 ts)) rfl) rfl)) rfl)
theorem rows_eq (f1 f2 : Nat → Nat) (l : List Nat) : eqvs (D.eqv 4) (l.map (rowD f1 f2)) (l.map (rowD f1 f2)) = some true := by
  refine eqvs_self fun d hd => ?_
  obtain ⟨ts, _, e⟩ := List.mem_map.mp hd
  exact e ▸ eqv_row 3 f1 f2 ts
theorem rows_ne (f1 f2 : Nat → Nat) (l : List Nat) : cmpD .ne (.lst (l.map (rowD f1 f2))) (.lst (l.map (rowD f1 f2))) = some false := mapE (rows_eq f1 f2 l) rfl
theorem wit_nanny (op : Cop) (d20 : ∀ ds, C5 20 ds = callD C4 p1_longest_run_of_spaces s1_longest_run_of_spaces ds) (d21 : ∀ ds, C5 21 ds = callD C4 p1_indent_level s1_indent_level ds) (raw0 raw1 : List Nat) {g0 g1 : List Nat} {tail : Nat}
    (h0 : topN g0 ≤ 400) (h1 : topN g1 ≤ 400) (l0 : g0.length ≤ 400) (l1 : g1.length ≤ 400) (ht : tail ≤ 400) :
    callD C5 [29, 33] (witAll op) [nanny raw0 g0 tail, nanny raw1 g1 tail] = some (.lst (((List.range' 1 (max (max (topN g0) tail) (max (topN g1) tail) + 1)).filter fun ts => cmpN op (level g0 tail ts) (level g1 tail ts)).map (rowD (level g0 tail) (level g1 tail)))) := by
  refine wit_run C5 op ?_ ?_ (by lia) (by lia) (fun ts hp hq => ?_) (fun ts hp hq => ?_)
  · show umethD C5 20 _ _ = _
    rw [ask_nanny (by decide), d20, longest_run C4 raw0 g0 tail h0]
  · show umethD C5 20 _ _ = _
    rw [ask_nanny (by decide), d20, longest_run C4 raw1 g1 tail h1]
  · show umethD C5 21 _ _ = _
    rw [ask_nanny (by decide), d21, indent_run C4 raw0 g0 tail ts h0 l0 (by lia) hp (by lia)]
  · show umethD C5 21 _ _ = _
    rw [ask_nanny (by decide), d21, indent_run C4 raw1 g1 tail ts h1 l1 (by lia) hp (by lia)]
theorem sum_canon (f : Nat → Nat) : ∀ l : List (Nat × Nat), ((l.flatMap fun p => List.replicate p.2 p.1).map f).sum = (l.map fun p => p.2 * f p.1).sum
  | [] => rfl
  | a :: r => by
    have hr : ∀ n, ((List.replicate n a.1).map f).sum = n * f a.1 := by
      intro n
      induction n with
      | zero => exact (Nat.zero_mul _).symm
      | succ n ih => rw [List.replicate_succ, List.map_cons, List.sum_cons, ih, Nat.succ_mul, Nat.add_comm]
    rw [List.flatMap_cons, List.map_append, List.sum_append, hr, sum_canon f r, List.map_cons, List.sum_cons]
noncomputable def intP (p : Nat × Nat) : Int × Int := ((p.1 : Int), (p.2 : Int))
theorem column_nat (C : Nat → List D → Option D) {l : List (Nat × Nat)} (tail size : Nat) (hl : l.length ≤ 10) (h0 : 0 < size) (hs : size ≤ 1000) (hp : ∀ p ∈ l, p.1 ≤ 32 ∧ p.2 ≤ 32) :
    callD C p1_law_column s1_law_column [.lst (l.map pairN), natD tail, natD size] = some (natD (level (l.flatMap fun p => List.replicate p.2 p.1) tail size)) := by
  have e1 : l.map pairN = (l.map intP).map pairD := by rw [List.map_map]; rfl
  have hf : ∀ p : Nat × Nat, (intP p).1.fdiv (size : Int) + 1 = ((p.1 / size + 1 : Nat) : Int) := by
    intro p
    show (p.1 : Int).fdiv (size : Int) + 1 = _
    rw [Int.fdiv_eq_ediv_of_nonneg _ (Int.natCast_nonneg _)]
    rfl
  have hsum : ∀ l : List (Nat × Nat), ((l.map intP).map fun p => p.2 * (p.1.fdiv (size : Int) + 1)).sum = (((l.map fun p => p.2 * (p.1 / size + 1)).sum : Nat) : Int) := by
    intro l
    induction l with
    | nil => rfl
    | cons a r ih =>
      simp only [List.map_cons, List.sum_cons]
      rw [ih, hf]
      show (a.2 : Int) * _ + _ = _
      push_cast
      rfl
  have hb : ∀ l : List (Nat × Nat), (∀ p ∈ l, p.1 ≤ 32 ∧ p.2 ≤ 32) → (l.map fun p => p.2 * (p.1 / size + 1)).sum ≤ l.length * 1056 := by
    intro l
    induction l with
    | nil => intro _; simp
    | cons a r ih =>
      intro h
      have h1 := ih fun p hp => h p (List.mem_cons_of_mem _ hp)
      obtain ⟨h2, h3⟩ := h a (by simp)
      have h4 : a.1 / size ≤ a.1 := Nat.div_le_self _ _
      have h5 : a.2 * (a.1 / size + 1) ≤ 32 * 33 := Nat.mul_le_mul h3 (by lia)
      simp only [List.map_cons, List.sum_cons, List.length_cons]
      lia
  have hb' := hb l hp
  have h10 : l.length * 1056 ≤ 10 * 1056 := Nat.mul_le_mul_right _ hl
  have hbig : (l.map fun p => p.2 * (p.1 / size + 1)).sum < 1000000 := by lia
  rw [e1]
  have := column_run C (l.map intP) (tail : Int) (size : Int) (by lia) (small_nat (by lia)) (by simp; lia) (fun p hp' => by
    obtain ⟨q, hq, rfl⟩ := List.mem_map.mp hp'
    obtain ⟨h2, h3⟩ := hp q hq
    have h4 : q.1 / size ≤ q.1 := Nat.div_le_self _ _
    rw [hf]
    exact ⟨small_nat (n := q.2) (by lia), small_nat (by lia)⟩) (by rw [hsum]; exact small_nat hbig)
  refine this.trans ?_
  unfold columnP level
  rw [hsum, sum_canon]
  rfl
end Mv.Pl
end
section
open PySem PySem.W
set_option Elab.async false
set_option linter.unusedSimpArgs false
namespace Mv.Pl
variable {C C5 C4 : Nat → List D → Option D} {σ : Env1}

theorem mod_int (a : Int) {n : Nat} (h0 : n ≠ 0) (hn : n < 1000000) : binD .mod (.int a) (natD n) = some (natD (a.fmod n).toNat) := by
  have hp : (0 : Int) < n := Int.ofNat_lt.mpr (Nat.pos_of_ne_zero h0)
  have e : (((a.fmod n).toNat : Nat) : Int) = a.fmod n := Int.toNat_of_nonneg (Int.fmod_nonneg_of_pos _ hp)
  show (if ((n : Int) != 0 && small (n : Int)) = true then some (D.int (a.fmod n)) else none) = some (D.int (((a.fmod n).toNat : Nat) : Int))
  rw [small_nat hn, bne_iff_ne.mpr (Int.ne_of_gt hp), e]
  rfl
theorem mod_int_lt (a : Int) {n : Nat} (h0 : n ≠ 0) : (a.fmod n).toNat < n := by
  have hp : (0 : Int) < n := Int.ofNat_lt.mpr (Nat.pos_of_ne_zero h0)
  exact (Int.toNat_lt (Int.fmod_nonneg_of_pos _ hp)).mpr (Int.fmod_lt_of_pos _ hp)
structure More (C C5 C4 : Nat → List D → Option D) : Prop where
  c13 : ∀ ds, C 13 ds = callD C5 p1_law_heaps s1_law_heaps ds
  c14 : ∀ ds, C 14 ds = callD C5 p1_law_table s1_law_table ds
  c15 : ∀ ds, C 15 ds = callD C5 p1_law_colours s1_law_colours ds
  d9 : ∀ ds, C5 9 ds = callD C4 p1_hsv_to_rgb s1_hsv_to_rgb ds
  d10 : ∀ ds, C5 10 ds = callD C4 p1_rgb_to_hsv s1_rgb_to_hsv ds
  d11 : ∀ ds, C5 11 ds = callD C4 p1_rgb_to_hls s1_rgb_to_hls ds
theorem around_tab : (stepsN.all fun sp => ((List.range' 1 16).filter fun k => k * sp % 16 == 0).headD 0 == aroundN sp && decide (4 ≤ aroundN sp) && decide (aroundN sp ≤ 16) && decide (sp < 16)) = true := by decide +kernel
structure AroundI (sp : Nat) : Prop where
  t1 : ((List.range' 1 16).filter fun k => k * sp % 16 == 0).headD 0 = aroundN sp
  t2 : 4 ≤ aroundN sp
  t3 : aroundN sp ≤ 16
  t4 : sp < 16
theorem around_inv {sp : Nat} (hs : sp ∈ stepsN) : AroundI sp := by
  obtain ⟨h, t4⟩ := and_inv (List.all_eq_true.mp around_tab sp hs)
  obtain ⟨h, t3⟩ := and_inv h
  obtain ⟨t1, t2⟩ := and_inv h
  exact ⟨beq_iff_eq.mp t1, of_decide_eq_true t2, of_decide_eq_true t3, of_decide_eq_true t4⟩
theorem ev_step {a : Int} {hs : List D} (i61 : look σ 61 = some (.frz (.lst (.int a :: hs)))) : ∃ sp ∈ stepsN, evE C (.idx (.lst [(.lit (.int 1)), (.lit (.int 2)), (.lit (.int 3)), (.lit (.int 4)), (.lit (.int 5)), (.lit (.int 6)), (.lit (.int 7)), (.lit (.int 9)), (.lit (.int 10)), (.lit (.int 11)), (.lit (.int 12)), (.lit (.int 13)), (.lit (.int 14)), (.lit (.int 15))]) (.bin .mod (.idx (.bvar 61) (.lit (.int 0))) (.lit (.int 14)))) σ = some (natD sp) := by
  have h1 := mod_int a (n := 14) (by decide) (by decide)
  have h2 := mod_int_lt a (n := 14) (by decide)
  generalize (a.fmod (14 : Nat)).toNat = i at h1 h2
  have hl : stepsN.length = 14 := rfl
  refine ⟨stepsN[i], List.getElem_mem _, ?_⟩
  have h3 : idxD (.lst (.int a :: hs)) (.int 0) = some (.int a) := idx_nat (i := 0) rfl (by decide)
  have h4 : idxD (.lst (stepsN.map natD)) (natD i) = some (natD stepsN[i]) := idx_nat (by rw [List.getElem?_map, List.getElem?_eq_getElem (by omega)]; rfl) (by omega)
  have h5 : evEs C [(.lit (.int 1)), (.lit (.int 2)), (.lit (.int 3)), (.lit (.int 4)), (.lit (.int 5)), (.lit (.int 6)), (.lit (.int 7)), (.lit (.int 9)), (.lit (.int 10)), (.lit (.int 11)), (.lit (.int 12)), (.lit (.int 13)), (.lit (.int 14)), (.lit (.int 15))] σ = some (stepsN.map natD) := rfl
  have h6 : binD .mod (.int a) (.int 14) = some (natD i) := h1
  exact w_idx (w_lst h5) (w_bin (w_idx (w_bvarF i61) w_lit h3) w_lit h6) h4
theorem ev_around {sp : Nat} (hs : sp ∈ stepsN) (i66 : look σ 66 = some (.frz (natD sp))) : evE C (.idx (.comp (.var 62) [62] (.rng [(.lit (.int 1)), (.lit (.int 17))]) [(.cmp .eq (.bin .mod (.bin .mul (.var 62) (.var 66)) (.lit (.int 16))) (.lit (.int 0)))]) (.lit (.int 0))) σ = some (natD (aroundN sp)) := by
  obtain ⟨t1, t2, t3, t4⟩ := around_inv hs
  have e0 : evE C (.rng [(.lit (.int 1)), (.lit (.int 17))]) σ = some (.lst ((List.range' 1 16).map natD)) := by
    have : rngD [.int 1, .int 17] = some (.lst ((List.range' 1 16).map natD)) := rng_two (a := 1) (b := 17) (by decide) (by decide)
    exact w_rng (ws_cons w_lit (ws_cons w_lit ws_nil)) this
  have e1 : evE C (.comp (.var 62) [62] (.rng [(.lit (.int 1)), (.lit (.int 17))]) [(.cmp .eq (.bin .mod (.bin .mul (.var 62) (.var 66)) (.lit (.int 16))) (.lit (.int 0)))]) σ = some (.lst (((List.range' 1 16).filter fun k => k * sp % 16 == 0).map natD)) := by
    refine ev_filter natD natD (fun k => k * sp % 16 == 0) e0 (fun k hk => ?_) (fun k _ _ => ?_) (by decide)
    · rw [List.mem_range'_1] at hk
      have f1 : binD .mul (natD k) (natD sp) = some (natD (k * sp)) := mul_nat (by omega) (by omega)
      have f2 : binD .mod (natD (k * sp)) (.int 16) = some (natD (k * sp % 16)) := mod_nat (b := 16) (by decide) (by decide)
      have f3 : cmpD .eq (natD (k * sp % 16)) (.int 0) = some (k * sp % 16 == 0) := eq_nat _ 0
      exact w_cmp (w_bin (w_bin (w_var look_hit) (w_var (look_miss rfl i66)) f1) w_lit f2) w_lit f3
    · exact w_var look_hit
  generalize (List.range' 1 16).filter (fun k => k * sp % 16 == 0) = l at e1 t1
  have h0 : idxD (.lst (l.map natD)) (.int 0) = some (natD (aroundN sp)) := by
    cases l with
    | nil => exact absurd (Nat.le_trans t2 (Nat.le_of_eq t1.symm)) (Nat.not_succ_le_zero 3)
    | cons x r =>
      rw [← (t1 : x = aroundN sp)]
      exact idx_nat (i := 0) rfl (by decide)
  exact w_idx e1 w_lit h0
theorem mul_fi {a : UInt64} {j : Int} (h : small j = true) : binD .mul (.flt a) (.int j) = some (.flt (Float64.mul a (Float64.ofInt j))) := if_pos h
theorem ev_spots {st sp n : Nat} {w : Int} (i69 : look σ 69 = some (.frz (.lst ((List.range n).map (toldW st sp w))))) (hn : n ≤ 17) : evE C (.comp (.bf .int [(.bin .mul (.idx (.bvar 92) (.lit (.int 0))) (.lit (.int 16)))]) [92] (.var 69) []) σ = some (.lst (spotsD st sp n)) := by
  refine ev_map (toldW st sp w) _ (w_var i69) (fun k hk => ?_) (by rw [List.length_range]; exact Nat.le_trans hn (by decide))
  have ht := (and_inv (all_range nan16 (Nat.mod_lt (st + k * sp) (by decide : 0 < 16)))).2
  have e1 : idxD (toldW st sp w k) (.int 0) = some (.flt (fl ((st + k * sp) % 16) 16)) := by
    unfold toldW toldD
    split <;> rfl
  have e2 : binD .mul (.flt (fl ((st + k * sp) % 16) 16)) (.int 16) = some (.flt (Float64.mul (fl ((st + k * sp) % 16) 16) (Float64.ofInt 16))) := mul_fi (by decide)
  exact w_bf (ws_cons (w_bin (w_idx (w_bvarF look_hit) w_lit e1) w_lit e2) ws_nil) (int_flt (beq_iff_eq.mp ht))
theorem told_eq {st sp n : Nat} {w : Int} : cmpD .ne (.lst ((List.range n).map (toldW st sp w))) (.lst ((List.range n).map (toldW st sp w))) = some false := by
  have : eqvs (D.eqv 4) ((List.range n).map (toldW st sp w)) ((List.range n).map (toldW st sp w)) = some true := by
    refine eqvs_self fun d hd => ?_
    obtain ⟨k, _, e⟩ := List.mem_map.mp hd
    exact e ▸ eqv_told (k := 3) _ _ (share_in w k).1 (share_in w k).2 (level_in w k).1 (level_in w k).2
  exact mapE this rfl
theorem w_lst0 : evE C (.lst []) σ = some (.lst []) := rfl
theorem pre_run (K : Calls C C5 C4) (M : More C C5 C4) (ns : List Int) (hns : ns.length ≤ 63) : ∃ st sp base tail m σ', st < 16 ∧ sp ∈ stepsN ∧ 2 ≤ m ∧ m + 1 ≤ aroundN sp ∧ base ≤ 20 ∧ tail ≤ 2 ∧ LoopI st sp base tail (m + 1) [] [] tail σ' ∧ look σ' 67 = some (.frz (natD m)) ∧ ∀ B, runs C (lawPre ++ B) (upd [] 60 (.frz (.lst (ns.map .int)))) = runs C B σ' := by
  obtain ⟨a, b, c, d, hh⟩ := heaps_run C5 ns hns
  let σ0 : Env1 := upd [] 60 (.frz (.lst (ns.map .int)))
  have r0 : run C (.asg 61 (.call 13 [(.var 60)])) σ0 = some (upd σ0 61 (.frz (.lst [.int a, .int b, .int c, .int d])), .next) := by
    exact run_asg (w_call (ws_cons (w_var rfl) ws_nil) ((M.c13 _).trans hh))
  obtain ⟨sp, hs, e1⟩ := ev_step (C := C) (σ := upd σ0 61 (.frz (.lst [.int a, .int b, .int c, .int d]))) (a := a) (hs := [.int b, .int c, .int d]) rfl
  have r1 := run_asg (x := 66) e1
  obtain ⟨t1, t2, t3, t4⟩ := around_inv hs
  have r2 := run_asg (x := 89) (ev_around (C := C) (σ := upd (upd σ0 61 (.frz (.lst [.int a, .int b, .int c, .int d]))) 66 (.frz (natD sp))) hs rfl)
  have i1 : idxD (.lst [.int a, .int b, .int c, .int d]) (.int 1) = some (.int b) := idx_nat (i := 1) rfl (by decide)
  have i2 : idxD (.lst [.int a, .int b, .int c, .int d]) (.int 2) = some (.int c) := idx_nat (i := 2) rfl (by decide)
  have i3 : idxD (.lst [.int a, .int b, .int c, .int d]) (.int 3) = some (.int d) := idx_nat (i := 3) rfl (by decide)
  have f1 : binD .sub (natD (aroundN sp)) (.int 2) = some (natD (aroundN sp - 2)) := sub_nat (b := 2) (by omega)
  have f2 := mod_int b (n := aroundN sp - 2) (by omega) (by omega)
  have f2' := mod_int_lt b (n := aroundN sp - 2) (by omega)
  generalize (b.fmod (aroundN sp - 2 : Nat)).toNat = m0 at f2 f2'
  have f3 : binD .add (.int 2) (natD m0) = some (natD (2 + m0)) := add_nat 2 m0
  have r3 : run C (.asg 67 (.bin .add (.lit (.int 2)) (.bin .mod (.idx (.bvar 61) (.lit (.int 1))) (.bin .sub (.var 89) (.lit (.int 2)))))) (upd (upd (upd σ0 61 (.frz (.lst [.int a, .int b, .int c, .int d]))) 66 (.frz (natD sp))) 89 (.frz (natD (aroundN sp)))) = some (upd (upd (upd (upd σ0 61 (.frz (.lst [.int a, .int b, .int c, .int d]))) 66 (.frz (natD sp))) 89 (.frz (natD (aroundN sp)))) 67 (.frz (natD (2 + m0))), .next) := by
    exact run_asg (w_bin w_lit (w_bin (w_idx (w_bvarF rfl) w_lit i1) (w_bin (w_var rfl) w_lit f1) f2) f3)
  have g1 : binD .fdiv (.int c) (.int 16) = some (.int (c.fdiv 16)) := rfl
  have g2 : binD .mod (.int (c.fdiv 16)) (.int 21) = some (natD ((c.fdiv 16).fmod (21 : Nat)).toNat) := mod_int _ (n := 21) (by decide) (by decide)
  have g2' := mod_int_lt (c.fdiv 16) (n := 21) (by decide)
  generalize ((c.fdiv 16).fmod (21 : Nat)).toNat = base at g2 g2'
  have g3 : binD .mod (.int d) (.int 3) = some (natD (d.fmod (3 : Nat)).toNat) := mod_int _ (n := 3) (by decide) (by decide)
  have g3' := mod_int_lt d (n := 3) (by decide)
  generalize (d.fmod (3 : Nat)).toNat = tail at g3 g3'
  have g4 : binD .mod (.int c) (.int 16) = some (natD (c.fmod (16 : Nat)).toNat) := mod_int _ (n := 16) (by decide) (by decide)
  have g4' := mod_int_lt c (n := 16) (by decide)
  generalize (c.fmod (16 : Nat)).toNat = st at g4 g4'
  have g5 : binD .fdiv (.int d) (.int 3) = some (.int (d.fdiv 3)) := rfl
  have g6 : binD .add (natD (2 + m0)) (.int 1) = some (natD (2 + m0 + 1)) := add_nat _ 1
  have g7 := colours_run C5 C4 M.d9 M.d10 M.d11 st sp (2 + m0 + 1) (d.fdiv 3) g4' t4 (by omega)
  let W : Nat → D := toldW st sp (d.fdiv 3)
  let σ6 : Env1 := upd (upd (upd (upd (upd (upd σ0 61 (.frz (.lst [.int a, .int b, .int c, .int d]))) 66 (.frz (natD sp))) 89 (.frz (natD (aroundN sp)))) 67 (.frz (natD (2 + m0)))) 90 (.frz (natD base))) 85 (.frz (natD tail))
  have r : ∀ B, runs C (lawPre ++ B) σ0 = runs C B (upds [] [(95, .frz (natD tail)), (94, .own []), (93, .own []), (63, .frz tabD), (91, .frz (.lst (spotsD st sp (2 + m0 + 1)))), (70, .frz (.lst ((List.range (2 + m0 + 1)).map W))), (69, .frz (.lst ((List.range (2 + m0 + 1)).map W))), (85, .frz (natD tail)), (90, .frz (natD base)), (67, .frz (natD (2 + m0))), (89, .frz (natD (aroundN sp))), (66, .frz (natD sp)), (61, .frz (.lst [.int a, .int b, .int c, .int d])), (60, .frz (.lst (ns.map .int)))]) := by
    intro B
    have e6 : run C (.asgT [69, 70] (.call 15 [(.bin .mod (.idx (.bvar 61) (.lit (.int 2))) (.lit (.int 16))), (.var 66), (.bin .add (.var 67) (.lit (.int 1))), (.bin .fdiv (.idx (.bvar 61) (.lit (.int 3))) (.lit (.int 3)))])) σ6 = some (upd (upd σ6 69 (.frz (.lst ((List.range (2 + m0 + 1)).map W)))) 70 (.frz (.lst ((List.range (2 + m0 + 1)).map W))), .next) :=
      s_asgT' (w_call (ws_cons (w_bin (w_idx (w_bvarF rfl) w_lit i2) w_lit g4) (ws_cons (w_var rfl) (ws_cons (w_bin (w_var rfl) w_lit g6) (ws_cons (w_bin (w_idx (w_bvarF rfl) w_lit i3) w_lit g5) ws_nil)))) ((M.c15 _).trans g7)) rfl
    have e4 := run_asg (C := C) (x := 90) (d := natD base) (σ := upd (upd (upd (upd σ0 61 (.frz (.lst [.int a, .int b, .int c, .int d]))) 66 (.frz (natD sp))) 89 (.frz (natD (aroundN sp)))) 67 (.frz (natD (2 + m0)))) (w_bin (w_bin (w_idx (w_bvarF (n := 61) rfl) (w_lit (d := .int 2)) i2) (w_lit (d := .int 16)) g1) (w_lit (d := .int 21)) g2)
    have e5 := run_asg (C := C) (x := 85) (d := natD tail) (σ := upd (upd (upd (upd (upd σ0 61 (.frz (.lst [.int a, .int b, .int c, .int d]))) 66 (.frz (natD sp))) 89 (.frz (natD (aroundN sp)))) 67 (.frz (natD (2 + m0)))) 90 (.frz (natD base))) (w_bin (w_idx (w_bvarF (n := 61) rfl) (w_lit (d := .int 3)) i3) (w_lit (d := .int 3)) g3)
    have e7 := run_skip (C := C) (a := [(.ret (.lit (.bool false)))]) (σ := upd (upd σ6 69 (.frz (.lst ((List.range (2 + m0 + 1)).map W)))) 70 (.frz (.lst ((List.range (2 + m0 + 1)).map W)))) (w_cmp (w_var (n := 69) rfl) (w_var (n := 70) rfl) (told_eq (st := st) (sp := sp) (n := 2 + m0 + 1) (w := d.fdiv 3)))
    have e8 := run_asg (x := 91) (ev_spots (C := C) (σ := upd (upd σ6 69 (.frz (.lst ((List.range (2 + m0 + 1)).map W)))) 70 (.frz (.lst ((List.range (2 + m0 + 1)).map W)))) (st := st) (sp := sp) (n := 2 + m0 + 1) (w := d.fdiv 3) rfl (by omega))
    have e9 := run_asg (C := C) (x := 63) (d := tabD) (σ := upd (upd (upd σ6 69 (.frz (.lst ((List.range (2 + m0 + 1)).map W)))) 70 (.frz (.lst ((List.range (2 + m0 + 1)).map W)))) 91 (.frz (.lst (spotsD st sp (2 + m0 + 1))))) (w_call (n := 14) ws_nil ((M.c14 _).trans (table_run C5)))
    unfold lawPre
    refine r_step r0 ?_
    refine r_step r1 ?_
    refine r_step r2 ?_
    refine r_step r3 ?_
    refine r_step e4 ?_
    refine r_step e5 ?_
    refine r_step e6 ?_
    refine r_step e7 ?_
    refine r_step e8 ?_
    refine r_step e9 ?_
    refine r_step (s_new' w_lst0 rfl) ?_
    refine r_step (s_new' w_lst0 rfl) ?_
    exact r_step (run_asg (x := 95) (d := natD tail) (w_var rfl)) rfl
  refine ⟨st, sp, base, tail, 2 + m0, _, g4', hs, by omega, by omega, by omega, by omega, ?_, ?_, r⟩
  · exact ⟨look_in rfl, look_in rfl, look_in rfl, look_in rfl, look_in rfl, look_in rfl, look_in rfl, look_in rfl⟩
  · exact look_in rfl
end Mv.Pl
end
section
open PySem PySem.W
set_option Elab.async false
set_option linter.unusedSimpArgs false
namespace Mv.Pl
variable {C C5 C4 : Nat → List D → Option D} {σ : Env1}

theorem canon_le {sp c : Nat} (hs : sp ∈ stepsN) (h2 : 2 ≤ c) (hc : c ≤ aroundN sp) : farN sp c = topN (canonN sp c) ∧ farN sp c ≤ 16 ∧ (canonN sp c).length = c ∧ (∀ p ∈ gapsN sp c, p.1 ≤ 32 ∧ p.2 ≤ 32) := by
  have Q := gap_inv (chkAll_at gap_all hs h2 hc)
  exact ⟨Q.q1, Q.q7, Q.q5, Q.q8⟩
theorem more_le {sp m : Nat} (hs : sp ∈ stepsN) (h2 : 2 ≤ m) (hm : m + 1 ≤ aroundN sp) (tail ts : Nat) (h0 : 0 < ts) (hts : ts ≤ 17) : level (canonN sp m) tail ts ≤ level (canonN sp (m + 1)) tail ts := by
  have h := List.all_eq_true.mp more_all sp hs
  have h' := List.all_eq_true.mp h m (List.mem_range'_1.mpr ⟨h2, by omega⟩)
  have h'' := List.all_eq_true.mp h' ts (List.mem_range'_1.mpr ⟨h0, by omega⟩)
  have := of_decide_eq_true h''
  unfold level at this ⊢
  rw [Nat.zero_add, Nat.zero_add] at this
  exact Nat.add_le_add_left this tail
theorem ev_rows (K : Calls C C5 C4) {sp m tail depth : Nat} (hs : sp ∈ stepsN) (h2 : 2 ≤ m) (hm : m + 1 ≤ aroundN sp) (hd : depth ≤ 100) (i94 : look σ 94 = some (.own [.lst ((gapsN sp m).map pairN), .lst ((gapsN sp (m + 1)).map pairN)])) (i85 : look σ 85 = some (.frz (natD tail))) (i95 : look σ 95 = some (.frz (natD depth))) :
    evE C (.comp (.tup [(.var 86), (.call 18 [(.idx (.bvar 94) (.lit (.int 0))), (.var 85), (.var 86)]), (.call 18 [(.idx (.bvar 94) (.lit (.int 1))), (.var 85), (.var 86)])]) [86] (.rng [(.lit (.int 1)), (.bin .add (.var 95) (.lit (.int 2)))]) []) σ = some (.lst ((List.range' 1 (depth + 1)).map (rowD (level (canonN sp m) tail) (level (canonN sp (m + 1)) tail)))) := by
  obtain ⟨_, _, _, a4⟩ := canon_le hs h2 (by omega : m ≤ aroundN sp)
  obtain ⟨_, _, _, b4⟩ := canon_le hs (by omega : 2 ≤ m + 1) hm
  have e0 : binD .add (natD depth) (.int 2) = some (natD (depth + 2)) := add_nat _ 2
  have e1 : evE C (.rng [(.lit (.int 1)), (.bin .add (.var 95) (.lit (.int 2)))]) σ = some (.lst ((List.range' 1 (depth + 1)).map natD)) := by
    have : rngD [.int 1, natD (depth + 2)] = some (.lst ((List.range' 1 (depth + 1)).map natD)) := rng_two (a := 1) (b := depth + 2) (by decide) (by omega)
    exact w_rng (ws_cons w_lit (ws_cons (w_bin (w_var i95) w_lit e0) ws_nil)) this
  refine ev_map natD _ e1 (fun ts hts => ?_) (by rw [List.length_range']; omega)
  rw [List.mem_range'_1] at hts
  have c0 := column_nat C5 tail ts (l := gapsN sp m) (show 3 ≤ 10 by decide) (by omega) (by omega) a4
  have c1 := column_nat C5 tail ts (l := gapsN sp (m + 1)) (show 3 ≤ 10 by decide) (by omega) (by omega) b4
  have x0 : ∀ a b : D, idxD (.lst [a, b]) (.int 0) = some a := fun a b => idx_nat (i := 0) rfl (by decide)
  have x1 : ∀ a b : D, idxD (.lst [a, b]) (.int 1) = some b := fun a b => idx_nat (i := 1) rfl (by decide)
  have j94 : look (upd σ 86 (.frz (natD ts))) 94 = some (.own [.lst ((gapsN sp m).map pairN), .lst ((gapsN sp (m + 1)).map pairN)]) := look_miss rfl i94
  have j85 : look (upd σ 86 (.frz (natD ts))) 85 = some (.frz (natD tail)) := look_miss rfl i85
  exact w_tup (ws_cons (w_var look_hit) (ws_cons (w_call (ws_cons (w_idx (w_bvarO j94) w_lit (x0 _ _)) (ws_cons (w_var j85) (ws_cons (w_var look_hit) ws_nil))) ((K.c18 _).trans c0)) (ws_cons (w_call (ws_cons (w_idx (w_bvarO j94) w_lit (x1 _ _)) (ws_cons (w_var j85) (ws_cons (w_var look_hit) ws_nil))) ((K.c18 _).trans c1)) ws_nil)))
theorem max3 (t x y : Nat) : max (max t x) y = max (max x t) (max y t) := by
  rw [Nat.max_comm x t, Nat.max_comm y t, ← Nat.max_assoc, Nat.max_assoc t x t, Nat.max_comm x t, ← Nat.max_assoc, Nat.max_self]
theorem post_run (K : Calls C C5 C4) {st sp base tail m : Nat} {raw0 raw1 : List Nat} (hs : sp ∈ stepsN) (h2 : 2 ≤ m) (hm : m + 1 ≤ aroundN sp) (ht : tail ≤ 2)
    (L : LoopI st sp base tail (m + 1) [nanny raw0 (canonN sp m) tail, nanny raw1 (canonN sp (m + 1)) tail] [.lst ((gapsN sp m).map pairN), .lst ((gapsN sp (m + 1)).map pairN)] (max (max tail (farN sp m)) (farN sp (m + 1))) σ) :
    ∃ σ', runs C lawPost σ = some (σ', .ret (.bool true)) := by
  obtain ⟨i66, i85, i90, i91, i63, i93, i94, i95⟩ := L
  obtain ⟨a1, a2, a3, a4⟩ := canon_le hs h2 (by omega : m ≤ aroundN sp)
  obtain ⟨b1, b2, b3, b4⟩ := canon_le hs (by omega : 2 ≤ m + 1) hm
  have hm16 : m + 1 ≤ 16 := by
    exact Nat.le_trans hm (around_le sp)
  have hD : max (max tail (farN sp m)) (farN sp (m + 1)) + 1 = max (max (topN (canonN sp m)) tail) (max (topN (canonN sp (m + 1))) tail) + 1 := by
    rw [a1, b1]
    exact congrArg (· + 1) (max3 _ _ _)
  have hD' : max (max tail (farN sp m)) (farN sp (m + 1)) + 1 = max (max (topN (canonN sp (m + 1))) tail) (max (topN (canonN sp m)) tail) + 1 := hD.trans (congrArg (· + 1) (Nat.max_comm _ _))
  have h400 : (16 : Nat) ≤ 400 := by decide
  have k0 : topN (canonN sp m) ≤ 400 := a1 ▸ Nat.le_trans a2 h400
  have k1 : topN (canonN sp (m + 1)) ≤ 400 := b1 ▸ Nat.le_trans b2 h400
  have k2 : (canonN sp m).length ≤ 400 := Nat.le_trans (Nat.le_of_eq a3) (Nat.le_trans (Nat.le_of_succ_le hm16) h400)
  have k3 : (canonN sp (m + 1)).length ≤ 400 := Nat.le_trans (Nat.le_of_eq b3) (Nat.le_trans hm16 h400)
  have k4 : tail ≤ 400 := Nat.le_trans ht (by decide)
  have hM : max (max tail (farN sp m)) (farN sp (m + 1)) ≤ 16 := Nat.max_le.mpr ⟨Nat.max_le.mpr ⟨Nat.le_trans ht (by decide), a2⟩, b2⟩
  have w01 := fun op => wit_nanny (C5 := C5) (C4 := C4) op K.d20 K.d21 raw0 raw1 (g0 := canonN sp m) (g1 := canonN sp (m + 1)) (tail := tail) k0 k1 k2 k3 k4
  have w10 := fun op => wit_nanny (C5 := C5) (C4 := C4) op K.d20 K.d21 raw1 raw0 (g0 := canonN sp (m + 1)) (g1 := canonN sp m) (tail := tail) k1 k0 k3 k2 k4
  rw [← hD] at w01
  rw [← hD'] at w10
  have hle : ∀ ts ∈ List.range' 1 (max (max tail (farN sp m)) (farN sp (m + 1)) + 1), level (canonN sp m) tail ts ≤ level (canonN sp (m + 1)) tail ts := by
    intro ts hts
    rw [List.mem_range'_1] at hts
    exact more_le hs h2 hm tail ts hts.1 (Nat.le_of_lt_succ (Nat.lt_of_lt_of_le hts.2 (Nat.add_le_add_left (Nat.succ_le_succ hM) 1)))
  have e0 := ev_rows (σ := σ) K hs h2 hm (Nat.le_trans hM (by decide)) i94 i85 i95
  have hlen : (List.range' 1 (max (max tail (farN sp m)) (farN sp (m + 1)) + 1)).length ≤ 1000 := by rw [List.length_range']; exact Nat.le_trans (Nat.succ_le_succ hM) (by decide)
  generalize List.range' 1 (max (max tail (farN sp m)) (farN sp (m + 1)) + 1) = R at e0 w01 w10 hle hlen
  generalize level (canonN sp m) tail = f at e0 w01 w10 hle
  generalize level (canonN sp (m + 1)) tail = g at e0 w01 w10 hle
  have x0 : ∀ a b : D, idxD (.lst [a, b]) (.int 0) = some a := fun a b => idx_nat (i := 0) rfl (by decide)
  have x1 : ∀ a b : D, idxD (.lst [a, b]) (.int 1) = some b := fun a b => idx_nat (i := 1) rfl (by decide)
  have n01 : umethD C 22 (nanny raw0 (canonN sp m) tail) [nanny raw1 (canonN sp (m + 1)) tail] = some (.lst ((R.filter fun ts => cmpN .ne (f ts) (g ts)).map (rowD f g))) := by
    exact (ask_nanny (by decide) _ _ _ _).trans ((K.c22 _).trans (w01 .ne))
  have n10 : umethD C 22 (nanny raw1 (canonN sp (m + 1)) tail) [nanny raw0 (canonN sp m) tail] = some (.lst ((R.filter fun ts => cmpN .ne (g ts) (f ts)).map (rowD g f))) := by
    exact (ask_nanny (by decide) _ _ _ _).trans ((K.c22 _).trans (w10 .ne))
  have l01 : umethD C 23 (nanny raw0 (canonN sp m) tail) [nanny raw1 (canonN sp (m + 1)) tail] = some (.lst ((R.filter fun ts => cmpN .ge (f ts) (g ts)).map (rowD f g))) := by
    exact (ask_nanny (by decide) _ _ _ _).trans ((K.c23 _).trans (w01 .ge))
  have l10 : umethD C 23 (nanny raw1 (canonN sp (m + 1)) tail) [nanny raw0 (canonN sp m) tail] = some (.lst (R.map (rowD g f))) := by
    have h := (ask_nanny (C := C) (m := 23) (by decide) raw1 (canonN sp (m + 1)) tail [nanny raw0 (canonN sp m) tail]).trans ((K.c23 _).trans (w10 .ge))
    refine h.trans ?_
    have hf : R.filter (fun ts => cmpN .ge (g ts) (f ts)) = R := List.filter_eq_self.mpr fun ts hts => decide_eq_true (hle ts hts)
    rw [hf]
  generalize nanny raw0 (canonN sp m) tail = N0 at n01 n10 l01 l10 i93
  generalize nanny raw1 (canonN sp (m + 1)) tail = N1 at n01 n10 l01 l10 i93
  have r0 := run_asg (x := 106) e0
  have e1 := ev_back (C := C) (σ := upd σ 106 (.frz (.lst (R.map (rowD f g))))) 107 106 hlen look_hit
  have r1 := run_asg (x := 108) e1
  let σ2 : Env1 := upd (upd σ 106 (.frz (.lst (R.map (rowD f g))))) 108 (.frz (.lst (R.map (rowD g f))))
  have j93 : look σ2 93 = some (.own [N0, N1]) := look_miss rfl (look_miss rfl i93)
  have j106 : look σ2 106 = some (.frz (.lst (R.map (rowD f g)))) := look_miss rfl look_hit
  have j108 : look σ2 108 = some (.frz (.lst (R.map (rowD g f)))) := look_hit
  have s1 := ev_sel (C := C) 107 106 .ne hlen j106
  have s2 := ev_sel (C := C) 107 108 .ne hlen j108
  have s3 := ev_sel (C := C) 107 106 .ge hlen j106
  have ask : ∀ (k : Nat) (x y : D) (i j : Int) {r : Option D}, idxD (.lst [N0, N1]) (.int i) = some x → idxD (.lst [N0, N1]) (.int j) = some y → umethD C k x [y] = r → evE C (.umeth (.idx (.bvar 93) (.lit (.int i))) k [(.idx (.bvar 93) (.lit (.int j)))]) σ2 = r := fun k x y i j r h1 h2 h3 => w_umeth (w_idx (w_bvarO j93) w_lit h1) (ws_cons (w_idx (w_bvarO j93) w_lit h2) ws_nil) h3
  have q2 := run_skip (a := [(.ret (.lit (.bool false)))]) (w_cmp (ask 22 N0 N1 0 1 (x0 _ _) (x1 _ _) n01) s1 (rows_ne _ _ _))
  have q3 := run_skip (a := [(.ret (.lit (.bool false)))]) (w_cmp (ask 22 N1 N0 1 0 (x1 _ _) (x0 _ _) n10) s2 (rows_ne _ _ _))
  have q4 := run_skip (a := [(.ret (.lit (.bool false)))]) (w_cmp (ask 23 N0 N1 0 1 (x0 _ _) (x1 _ _) l01) s3 (rows_ne _ _ _))
  have q5 : cmpD .eq (.lst (R.map (rowD g f))) (.lst (R.map (rowD g f))) = some true := rows_eq g f R
  refine ⟨σ2, ?_⟩
  unfold lawPost
  refine r_step r0 ?_
  refine r_step r1 ?_
  refine r_step q2 ?_
  refine r_step q3 ?_
  refine r_step q4 ?_
  exact r_out (s_ret' (w_cmp (w_umeth (w_idx (w_bvarF (look_fz j93)) w_lit (x1 _ _)) (ws_cons (w_idx (w_bvarF (look_fz j93)) w_lit (x0 _ _)) ws_nil) l10) (w_var (look_fz j108)) q5))
theorem law1_true (K : Calls C C5 C4) (M : More C C5 C4) (ns : List Int) (hns : ns.length ≤ 63) : callD C p1_law s1_law [.lst (ns.map .int)] = some (.bool true) := by
  obtain ⟨st, sp, base, tail, m, σ1, hst, hs, h2, hm, hb, ht, L, i67, hr⟩ := pre_run K M ns hns
  have hm16 : m + 1 ≤ 16 := by
    exact Nat.le_trans hm (around_le sp)
  obtain ⟨raw0, σ2, L2, r2⟩ := body_run (c := m) K hst hs h2 (by omega) (by omega) (by omega) hb (by omega) (by simp) (by simp) L
  obtain ⟨raw1, σ3, L3, r3⟩ := body_run (c := m + 1) K hst hs (by omega) hm (by omega) (by omega) hb (by omega) (by simp) (by simp) L2
  obtain ⟨σ4, r4⟩ := post_run K hs h2 hm ht L3
  rw [law_eq]
  have e1 : evE C (.tup [(.var 67), (.bin .add (.var 67) (.lit (.int 1)))]) σ1 = some (.tup [natD m, natD (m + 1)]) := w_tup (ws_cons (w_var i67) (ws_cons (w_bin (w_var i67) w_lit (add_nat m 1)) ws_nil))
  exact c_ret rfl ((hr _).trans ((runs_for (σ' := σ3) e1 rfl ((for_cons r2).trans ((for_cons r3).trans rfl))).trans r4))
end Mv.Pl
end
set_option maxRecDepth 100000 in
theorem PySem.Challenge.cw_rw0086_01_holds : PySem.Challenge.rw_rw0086_01.Holds := by
  refine Mv.fin1 fun ns hn => ?_
  exact Mv.Pl.law1_true (C := Mv.orc1 6) (C5 := Mv.orc1 5) (C4 := Mv.orc1 4) ⟨fun _ => rfl, fun _ => rfl, fun _ => rfl, fun _ => rfl, fun _ => rfl, fun _ => rfl, fun _ => rfl, fun _ => rfl, fun _ => rfl, fun _ => rfl⟩ ⟨fun _ => rfl, fun _ => rfl, fun _ => rfl, fun _ => rfl, fun _ => rfl, fun _ => rfl⟩ ns hn
