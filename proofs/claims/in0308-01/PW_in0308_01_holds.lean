import PyProof.Rows.All
import Wide.All
import OpenK.AllK
import Wide.FinOn
import PySem.Challenge.RW_in0308_01
set_option Elab.async false
set_option compiler.extract_closed false
section
open PySem PySem.W PyProof.Rows
set_option autoImplicit false
set_option maxRecDepth 100000
set_option maxHeartbeats 8000000
namespace Mine
noncomputable abbrev PG : Program := PySem.Challenge.rw_in0308_01.row.toRowW.prog
noncomputable def cell (i : Nat) : Stmt := (PG.main.body[i]?).getD (.Pass ⟨0, 0, 0, 0⟩)
noncomputable def view : Program := { PG with main := { PG.main with body := [0, 2, 4, 6, 8, 9, 11, 13, 14, 16, 17, 18, 19, 20, 21, 22, 24, 26, 27, 28, 29, 30, 31, 32].map cell } }
noncomputable def en (P : Params) (x : String) (t : Nat) (v : Value) : DictEntry := { hash := PyData.keyHash P (Str.ofString x), key := .str (Str.ofString x) t, val := v }
noncomputable def fo (i : Nat) (dv : Value) (pm : String) (pt cd : Nat) : Obj := match cell i with
  | .FunctionDef n ps body _ _ _ sc _ q _ => { cls := .type "function", data := .func { name := n, qualname := q, params := ps, body := .stmts body, scope := sc, globals := 3, closure := [], defaults := dv, kwdefaults := .none, pyModule := .str (Str.ofString pm) pt, code := .ref cd } }
  | _ => { cls := .none, data := .plain }
noncomputable def frag (P : Params) : Frag := [
  (3, { cls := .type "dict", data := .dict #[
  en P "__name__" 165 (.str (Str.ofString "law_in0308_01") 423),
  en P "__doc__" 166 (.none),
  en P "__package__" 167 (.none),
  en P "__loader__" 168 (.builtin "__main__.__loader__#opaque"),
  en P "__spec__" 169 (.none),
  en P "__annotations__" 170 (.ref 6),
  en P "__builtins__" 171 (.ref 4),
  en P "__file__" 173 (.str (Str.ofString "/claim/cut.py") 172),
  en P "__cached__" 174 (.none),
  en P "_wall" 193 (.ref 21),
  en P "_platform" 204 (.ref 28),
  en P "_plain_name" 215 (.ref 35),
  en P "ABCMeta" 241 (.ref 52),
  en P "_ABCLike" 284 (.ref 85),
  en P "_abc_plain_meta" 291 (.ref 94),
  en P "fspath" 303 (.ref 101),
  en P "commonprefix" 316 (.ref 108),
  en P "_check_arg_types" 327 (.ref 115),
  en P "_get_sep" 336 (.ref 122),
  en P "join" 347 (.ref 129),
  en P "split" 358 (.ref 136),
  en P "splitroot" 367 (.ref 143),
  en P "dirname" 377 (.ref 150),
  en P "normpath" 392 (.ref 157),
  en P "abspath" 399 (.ref 164),
  en P "relpath" 416 (.ref 172),
  en P "commonpath" 422 (.ref 177),
  en P "_law_texts" 430 (.ref 182),
  en P "_law_safe" 445 (.ref 189),
  en P "_law_climb" 455 (.ref 196),
  en P "_law_stack" 464 (.ref 203),
  en P "_law_shared" 473 (.ref 210),
  en P "_law_common" 482 (.ref 217),
  en P "law" 488 (.ref 222)] 34 }),
  (27, { cls := .type "code", data := .fields #[.str (Str.ofString "_platform") 196, .str (Str.ofString "_platform") 197, .str (Str.ofString "/claim/cut.py") 198, .int 5 0, .int 0 0, .int 0 0, .int 0 0, .int 7 0, .ref 22, .bool true, .int 181 0, .ref 23, .none, .ref 24, .ref 25, .ref 26, .int 202 0, .int 5 0, .str (Str.ofString "/claim/cut.py") 203] }),
  (28, fo 2 (.none) "cpy313.platform" 194 27),
  (100, { cls := .type "code", data := .fields #[.str (Str.ofString "fspath") 294, .str (Str.ofString "fspath") 295, .str (Str.ofString "/claim/cut.py") 296, .int 55 0, .int 1 0, .int 0 0, .int 0 0, .int 3 0, .ref 95, .bool true, .int 181 0, .ref 96, .none, .ref 97, .ref 98, .ref 99, .int 301 0, .int 55 0, .str (Str.ofString "/claim/cut.py") 302] }),
  (101, fo 11 (.none) "os" 292 100),
  (107, { cls := .type "code", data := .fields #[.str (Str.ofString "commonprefix") 306, .str (Str.ofString "commonprefix") 307, .str (Str.ofString "/claim/cut.py") 308, .int 72 0, .int 1 0, .int 0 0, .int 0 0, .int 3 0, .ref 102, .bool true, .int 181 0, .ref 103, .none, .ref 104, .ref 105, .ref 106, .int 314 0, .int 72 0, .str (Str.ofString "/claim/cut.py") 315] }),
  (108, fo 13 (.none) "cpy313.genericpath" 304 107),
  (121, { cls := .type "code", data := .fields #[.str (Str.ofString "_get_sep") 330, .str (Str.ofString "_get_sep") 331, .str (Str.ofString "/claim/cut.py") 332, .int 95 0, .int 1 0, .int 0 0, .int 0 0, .int 3 0, .ref 116, .bool true, .int 181 0, .ref 117, .none, .ref 118, .ref 119, .ref 120, .int 334 0, .int 95 0, .str (Str.ofString "/claim/cut.py") 335] }),
  (122, fo 16 (.none) "cpy313.posixpath" 328 121),
  (128, { cls := .type "code", data := .fields #[.str (Str.ofString "join") 337, .str (Str.ofString "join") 338, .str (Str.ofString "/claim/cut.py") 339, .int 100 0, .int 1 0, .int 0 0, .int 0 0, .int 7 0, .ref 123, .bool true, .int 181 0, .ref 124, .none, .ref 125, .ref 126, .ref 127, .int 345 0, .int 100 0, .str (Str.ofString "/claim/cut.py") 346] }),
  (129, fo 17 (.none) "cpy313.posixpath" 328 128),
  (135, { cls := .type "code", data := .fields #[.str (Str.ofString "split") 348, .str (Str.ofString "split") 349, .str (Str.ofString "/claim/cut.py") 350, .int 117 0, .int 1 0, .int 0 0, .int 0 0, .int 3 0, .ref 130, .bool true, .int 181 0, .ref 131, .none, .ref 132, .ref 133, .ref 134, .int 356 0, .int 117 0, .str (Str.ofString "/claim/cut.py") 357] }),
  (136, fo 18 (.none) "cpy313.posixpath" 328 135),
  (142, { cls := .type "code", data := .fields #[.str (Str.ofString "splitroot") 359, .str (Str.ofString "splitroot") 360, .str (Str.ofString "/claim/cut.py") 361, .int 125 0, .int 1 0, .int 0 0, .int 0 0, .int 3 0, .ref 137, .bool true, .int 181 0, .ref 138, .none, .ref 139, .ref 140, .ref 141, .int 365 0, .int 125 0, .str (Str.ofString "/claim/cut.py") 366] }),
  (143, fo 19 (.none) "cpy313.posixpath" 328 142),
  (149, { cls := .type "code", data := .fields #[.str (Str.ofString "dirname") 368, .str (Str.ofString "dirname") 369, .str (Str.ofString "/claim/cut.py") 370, .int 139 0, .int 1 0, .int 0 0, .int 0 0, .int 3 0, .ref 144, .bool true, .int 181 0, .ref 145, .none, .ref 146, .ref 147, .ref 148, .int 375 0, .int 139 0, .str (Str.ofString "/claim/cut.py") 376] }),
  (150, fo 20 (.none) "cpy313.posixpath" 328 149),
  (156, { cls := .type "code", data := .fields #[.str (Str.ofString "normpath") 378, .str (Str.ofString "normpath") 379, .str (Str.ofString "/claim/cut.py") 380, .int 147 0, .int 1 0, .int 0 0, .int 0 0, .int 3 0, .ref 151, .bool true, .int 181 0, .ref 152, .none, .ref 153, .ref 154, .ref 155, .int 390 0, .int 147 0, .str (Str.ofString "/claim/cut.py") 391] }),
  (157, fo 21 (.none) "cpy313.posixpath" 328 156),
  (163, { cls := .type "code", data := .fields #[.str (Str.ofString "abspath") 393, .str (Str.ofString "abspath") 394, .str (Str.ofString "/claim/cut.py") 395, .int 172 0, .int 1 0, .int 0 0, .int 0 0, .int 3 0, .ref 158, .bool true, .int 181 0, .ref 159, .none, .ref 160, .ref 161, .ref 162, .int 397 0, .int 172 0, .str (Str.ofString "/claim/cut.py") 398] }),
  (164, fo 22 (.none) "cpy313.posixpath" 328 163),
  (165, { cls := .type "tuple", data := Data.seq #[.none] }),
  (171, { cls := .type "code", data := .fields #[.str (Str.ofString "relpath") 400, .str (Str.ofString "relpath") 401, .str (Str.ofString "/claim/cut.py") 402, .int 180 0, .int 2 0, .int 0 0, .int 0 0, .int 3 0, .ref 166, .bool true, .int 181 0, .ref 167, .none, .ref 168, .ref 169, .ref 170, .int 414 0, .int 180 0, .str (Str.ofString "/claim/cut.py") 415] }),
  (172, fo 23 (.ref 165) "cpy313.posixpath" 328 171),
  (176, { cls := .type "code", data := .fields #[.str (Str.ofString "commonpath") 417, .str (Str.ofString "commonpath") 418, .str (Str.ofString "/claim/cut.py") 419, .int 209 0, .int 1 0, .int 0 0, .int 0 0, .int 3 0, .ref 173, .bool true, .int 181 0, .ref 174, .none, .none, .none, .ref 175, .int 420 0, .int 209 0, .str (Str.ofString "/claim/cut.py") 421] }),
  (177, fo 24 (.none) "cpy313.posixpath" 328 176),
  (181, { cls := .type "code", data := .fields #[.str (Str.ofString "_law_texts") 425, .str (Str.ofString "_law_texts") 426, .str (Str.ofString "/claim/cut.py") 427, .int 239 0, .int 1 0, .int 0 0, .int 0 0, .int 3 0, .ref 178, .bool true, .int 181 0, .ref 179, .none, .none, .none, .ref 180, .int 428 0, .int 239 0, .str (Str.ofString "/claim/cut.py") 429] }),
  (182, fo 26 (.none) "law_in0308_01" 423 181),
  (188, { cls := .type "code", data := .fields #[.str (Str.ofString "_law_safe") 431, .str (Str.ofString "_law_safe") 432, .str (Str.ofString "/claim/cut.py") 433, .int 260 0, .int 1 0, .int 0 0, .int 0 0, .int 3 0, .ref 183, .bool true, .int 181 0, .ref 184, .none, .ref 185, .ref 186, .ref 187, .int 443 0, .int 260 0, .str (Str.ofString "/claim/cut.py") 444] }),
  (189, fo 27 (.none) "law_in0308_01" 423 188),
  (195, { cls := .type "code", data := .fields #[.str (Str.ofString "_law_climb") 446, .str (Str.ofString "_law_climb") 447, .str (Str.ofString "/claim/cut.py") 448, .int 291 0, .int 1 0, .int 0 0, .int 0 0, .int 3 0, .ref 190, .bool true, .int 181 0, .ref 191, .none, .ref 192, .ref 193, .ref 194, .int 453 0, .int 291 0, .str (Str.ofString "/claim/cut.py") 454] }),
  (196, fo 28 (.none) "law_in0308_01" 423 195),
  (202, { cls := .type "code", data := .fields #[.str (Str.ofString "_law_stack") 456, .str (Str.ofString "_law_stack") 457, .str (Str.ofString "/claim/cut.py") 458, .int 299 0, .int 1 0, .int 0 0, .int 0 0, .int 3 0, .ref 197, .bool true, .int 181 0, .ref 198, .none, .ref 199, .ref 200, .ref 201, .int 462 0, .int 299 0, .str (Str.ofString "/claim/cut.py") 463] }),
  (203, fo 29 (.none) "law_in0308_01" 423 202),
  (209, { cls := .type "code", data := .fields #[.str (Str.ofString "_law_shared") 465, .str (Str.ofString "_law_shared") 466, .str (Str.ofString "/claim/cut.py") 467, .int 307 0, .int 2 0, .int 0 0, .int 0 0, .int 3 0, .ref 204, .bool true, .int 181 0, .ref 205, .none, .ref 206, .ref 207, .ref 208, .int 471 0, .int 307 0, .str (Str.ofString "/claim/cut.py") 472] }),
  (210, fo 30 (.none) "law_in0308_01" 423 209),
  (216, { cls := .type "code", data := .fields #[.str (Str.ofString "_law_common") 474, .str (Str.ofString "_law_common") 475, .str (Str.ofString "/claim/cut.py") 476, .int 312 0, .int 1 0, .int 0 0, .int 0 0, .int 3 0, .ref 211, .bool true, .int 181 0, .ref 212, .none, .ref 213, .ref 214, .ref 215, .int 480 0, .int 312 0, .str (Str.ofString "/claim/cut.py") 481] }),
  (217, fo 31 (.none) "law_in0308_01" 423 216),
  (221, { cls := .type "code", data := .fields #[.str (Str.ofString "law") 483, .str (Str.ofString "law") 484, .str (Str.ofString "/claim/cut.py") 485, .int 317 0, .int 1 0, .int 0 0, .int 0 0, .int 3 0, .ref 218, .bool true, .int 181 0, .ref 219, .none, .none, .none, .ref 220, .int 486 0, .int 317 0, .str (Str.ofString "/claim/cut.py") 487] }),
  (222, fo 32 (.none) "law_in0308_01" 423 221)]
noncomputable def fas : List Addr := [3, 27, 28, 100, 101, 107, 108, 121, 122, 128, 129, 135, 136, 142, 143, 149, 150, 156, 157, 163, 164, 165, 171, 172, 176, 177, 181, 182, 188, 189, 195, 196, 202, 203, 209, 210, 216, 217, 221, 222]
theorem fae : ∀ P, fas = (frag P).map (·.1) := fun _ => rfl
noncomputable def hook : Hook := kHook frag fas fae
noncomputable def LOO : List Str := [Str.ofString "relpath"]
theorem hlaw0 : PySem.W.Fast.tw9446332074065402090 PySem.Challenge.rw_in0308_01 = true := by decide +kernel
theorem hlaw : PySem.Challenge.rw_in0308_01.wellSaid = true := (congrFun PySem.W.Fast.te9446332074065402090 PySem.Challenge.rw_in0308_01).trans hlaw0
theorem left_ : LeftO PG view LOO (fun s => xlAt view [] s && recOk (RowW.records PySem.Challenge.rw_in0308_01.row.toRowW) s) hook.obs hook.val 2750 := by
  intro w
  unfold openEnds fencedOpening topFrom
  rw [PySem.W.Fast.te10274390034422433532, PySem.W.Fast.te14082659384304107361, PySem.W.Fast.te14364793385576792824, PySem.W.Fast.te4187177175401517315, PySem.W.Fast.te14289696077712309145, PySem.W.Fast.te1435165496053646825]
  kernel_rfl!
theorem law_some : (defOf view (Str.ofString "law")).isSome = true := by kernel_rfl!
noncomputable def lawD : DefRec := ((defOf view (Str.ofString "law")).get law_some).1
theorem hdef_ : defOf view PySem.Challenge.rw_in0308_01.row.name = some (lawD, []) := by kernel_rfl!
theorem hdw (call : WalkO view LOO (XL view []) hook.says PySem.Challenge.rw_in0308_01.row.toRowW lawD [] fun f vs => PySem.call f vs) : PySem.Challenge.rw_in0308_01.Holds := by
  refine holds_law hlaw fun said => holds_open (q := view) (loose := LOO) (Xt := fun s => xlAt view [] s && recOk (RowW.records PySem.Challenge.rw_in0308_01.row.toRowW) s) (XP := XL view []) (Yf := hook.obs) (Ya := hook.val) (YP := hook.says) (N := 2750)
    left_ hook.of hook.keeps (fun s e => xl_of s (Bool.and_eq_true_iff.mp e).1) XL.keeps hdef_ ?hp ?hk (fun s e => recFacts_of (Bool.and_eq_true_iff.mp e).2) rfl said ?ok ⟨rfl, rfl, rfl, rfl, rfl, by decide +kernel⟩ ?hw call
  case hp => kernel_rfl!
  case hk => kernel_rfl!
  case ok => decide +kernel
  case hw => w_witness2
end Mine
end
section
set_option autoImplicit false
set_option genSizeOf false
set_option genInjectivity false
namespace Mine
/-! linear facts over Nat, combined by a certificate -/
inductive Ex where
  | v (i : Nat)
  | n (k : Nat)
  | a (x y : Ex)
  | m (k : Nat) (x : Ex)
noncomputable def nth : List Nat → Nat → Nat
  | [], _ => 0
  | x :: _, 0 => x
  | _ :: r, i + 1 => nth r i
noncomputable def Ex.d (xs : List Nat) : Ex → Nat
  | .v i => nth xs i
  | .n k => k
  | .a x y => x.d xs + y.d xs
  | .m k x => k * x.d xs
noncomputable def addL : List Nat → List Nat → List Nat
  | [], ys => ys
  | x :: xs, [] => x :: xs
  | x :: xs, y :: ys => (x + y) :: addL xs ys
noncomputable def unitL : Nat → List Nat
  | 0 => [1]
  | i + 1 => 0 :: unitL i
noncomputable def mulL (k : Nat) : List Nat → List Nat
  | [] => []
  | x :: xs => k * x :: mulL k xs
noncomputable def Ex.c : Ex → List Nat
  | .v i => unitL i
  | .n _ => []
  | .a x y => addL x.c y.c
  | .m k x => mulL k x.c
noncomputable def Ex.k : Ex → Nat
  | .v _ => 0
  | .n k => k
  | .a x y => x.k + y.k
  | .m k x => k * x.k
noncomputable def dot : List Nat → List Nat → Nat
  | c :: cs, x :: xs => c * x + dot cs xs
  | _, _ => 0
noncomputable def lePt : List Nat → List Nat → Bool
  | [], _ => true
  | c :: cs, [] => Nat.beq c 0 && lePt cs []
  | c :: cs, d :: ds => Nat.ble c d && lePt cs ds
theorem dot_nil (c : List Nat) : dot c [] = 0 := by cases c <;> rfl
theorem dot_add : ∀ a b xs : List Nat, dot (addL a b) xs = dot a xs + dot b xs
  | [], b, xs => by show dot b xs = 0 + dot b xs; rw [Nat.zero_add]
  | x :: a, [], xs => rfl
  | x :: a, y :: b, [] => rfl
  | x :: a, y :: b, z :: xs => by
    show (x + y) * z + dot (addL a b) xs = (x * z + dot a xs) + (y * z + dot b xs)
    rw [dot_add a b xs, Nat.add_mul, Nat.add_add_add_comm]
theorem dot_mul (k : Nat) : ∀ a xs : List Nat, dot (mulL k a) xs = k * dot a xs
  | [], xs => rfl
  | x :: a, [] => rfl
  | x :: a, z :: xs => by
    show k * x * z + dot (mulL k a) xs = k * (x * z + dot a xs)
    rw [dot_mul k a xs, Nat.mul_add, Nat.mul_assoc]
theorem dot_unit : ∀ (i : Nat) (xs : List Nat), dot (unitL i) xs = nth xs i
  | i, [] => by rw [dot_nil]; cases i <;> rfl
  | 0, x :: xs => by show 1 * x + dot [] xs = x; rw [Nat.one_mul]; rfl
  | i + 1, x :: xs => by show 0 * x + dot (unitL i) xs = nth xs i; rw [Nat.zero_mul, Nat.zero_add, dot_unit i xs]
theorem dot_le : ∀ a b xs : List Nat, lePt a b = true → dot a xs ≤ dot b xs
  | [], b, xs, _ => Nat.zero_le _
  | c :: a, b, [], _ => by rw [dot_nil]; exact Nat.zero_le _
  | c :: a, [], x :: xs, h => by
    obtain ⟨h1, h2⟩ := Bool.and_eq_true_iff.mp h
    show c * x + dot a xs ≤ 0
    rw [Nat.eq_of_beq_eq_true h1, Nat.zero_mul, Nat.zero_add]; exact dot_le a [] xs h2
  | c :: a, d :: b, x :: xs, h => by
    obtain ⟨h1, h2⟩ := Bool.and_eq_true_iff.mp h
    exact Nat.add_le_add (Nat.mul_le_mul_right x (Nat.le_of_ble_eq_true h1)) (dot_le a b xs h2)
theorem Ex.ok (xs : List Nat) : ∀ e : Ex, e.d xs = dot e.c xs + e.k
  | .v i => (dot_unit i xs).symm
  | .n k => (Nat.zero_add k).symm
  | .a x y => by
    show x.d xs + y.d xs = dot (addL x.c y.c) xs + (x.k + y.k)
    rw [Ex.ok xs x, Ex.ok xs y, dot_add, Nat.add_add_add_comm]
  | .m k x => by
    show k * x.d xs = dot (mulL k x.c) xs + k * x.k
    rw [Ex.ok xs x, dot_mul, Nat.mul_add]
noncomputable abbrev Fact := Nat × Ex × Ex
noncomputable def sumA : List Fact → Ex
  | [] => .n 0
  | f :: r => .a (.m f.1 f.2.1) (sumA r)
noncomputable def sumB : List Fact → Ex
  | [] => .n 0
  | f :: r => .a (.m f.1 f.2.2) (sumB r)
noncomputable def Hy (xs : List Nat) (p : Prop) : List Fact → Prop
  | [] => p
  | f :: r => f.2.1.d xs ≤ f.2.2.d xs → Hy xs p r
noncomputable def chk (fs : List Fact) (g : Fact) : Bool :=
  lePt (Ex.a (.m g.1 g.2.1) (sumB fs)).c (Ex.a (.m g.1 g.2.2) (sumA fs)).c && Nat.ble ((Ex.a (.m g.1 g.2.1) (sumB fs)).k + 1) ((Ex.a (.m g.1 g.2.2) (sumA fs)).k + g.1)
theorem hy_of (xs : List Nat) (p : Prop) : ∀ fs : List Fact, ((sumA fs).d xs ≤ (sumB fs).d xs → p) → Hy xs p fs
  | [], h => h (Nat.le_refl _)
  | f :: r, h => fun hf => hy_of xs p r fun hr => h (Nat.add_le_add (Nat.mul_le_mul_left f.1 hf) hr)
theorem core (xs : List Nat) (fs : List Fact) (g : Fact) (h : chk fs g = true) (hs : (sumA fs).d xs ≤ (sumB fs).d xs) : g.2.1.d xs ≤ g.2.2.d xs := by
  obtain ⟨h1, h2⟩ := Bool.and_eq_true_iff.mp h
  have a1 := dot_le _ _ xs h1
  have a2 := Nat.le_of_ble_eq_true h2
  have e1 := Ex.ok xs (Ex.a (.m g.1 g.2.1) (sumB fs))
  have e2 := Ex.ok xs (Ex.a (.m g.1 g.2.2) (sumA fs))
  have e3 : (Ex.a (.m g.1 g.2.1) (sumB fs)).d xs = g.1 * g.2.1.d xs + (sumB fs).d xs := rfl
  have e4 : (Ex.a (.m g.1 g.2.2) (sumA fs)).d xs = g.1 * g.2.2.d xs + (sumA fs).d xs := rfl
  rw [e3] at e1
  rw [e4] at e2
  have : g.1 * g.2.1.d xs < g.1 * (g.2.2.d xs + 1) := by rw [Nat.mul_add, Nat.mul_one]; omega
  exact Nat.le_of_lt_succ (Nat.lt_of_mul_lt_mul_left this)
theorem lc (xs : List Nat) (fs : List Fact) (g : Fact) (h : chk fs g = true) : Hy xs (g.2.1.d xs ≤ g.2.2.d xs) fs := hy_of xs _ fs (core xs fs g h)
theorem lcF (xs : List Nat) (fs : List Fact) (p : Prop) (h : chk fs (1, .n 1, .n 0) = true) : Hy xs p fs := hy_of xs p fs fun hs => absurd (core xs fs (1, .n 1, .n 0) h hs) (Nat.not_succ_le_zero 0)
end Mine

end
section
open PySem PySem.W PySem.Calls PyProof.Rows
set_option Elab.async false
set_option autoImplicit false
set_option maxRecDepth 100000
set_option maxHeartbeats 4000000
namespace Mine

noncomputable abbrev KK (w : World) : Frag := frag w.params
noncomputable abbrev LO : List Str := looseW view LOO

structure Cx (w : World) (mg mb : Str → Option Value) (h : Heap) : Prop where
  X : (KK w).In h
  T : TopRead view LO mg mb h

theorem Cx.keeps {w : World} {mg mb : Str → Option Value} {h h' : Heap} (C : Cx w mg mb h) (k : ∀ b o, h.get? b = some o → h'.get? b = some o) : Cx w mg mb h' :=
  ⟨C.X.keeps k, C.T.keeps k⟩

noncomputable def lk (lo : List (Str × Value)) : Str → Option Value := fun x => lo.lookup x

inductive Ent where
  | lst (vs : List Value)
  | obj (o : Obj)

noncomputable def Ent.At (h : Heap) (a : Addr) : Ent → Prop
  | .lst vs => h.PlainList a vs.toArray
  | .obj o => h.get? a = some o

theorem Ent.At.of {h h' : Heap} {a : Addr} {e : Ent} (x : e.At h a) (k : ∀ o, h.get? a = some o → h'.get? a = some o) : e.At h' a := by
  cases e with
  | lst vs => obtain ⟨o, ho⟩ := x; exact ⟨o, k _ ho⟩
  | obj o => exact k _ x

theorem Ent.At.some {h : Heap} {a : Addr} {e : Ent} (x : e.At h a) : ∃ o, h.get? a = some o := by
  cases e with
  | lst vs => obtain ⟨o, ho⟩ := x; exact ⟨_, ho⟩
  | obj o => exact ⟨_, x⟩

noncomputable def HasNs (h : Heap) (L : Addr) (lo : List (Str × Value)) : Prop := ∃ m, h.Ns L m ∧ ∀ x v, lk lo x = some v → m x = some v
namespace HasNs
variable {h h' : Heap} {L b : Addr} {lo lo' : List (Str × Value)}
theorem lt (N : HasNs h L lo) : L < h.objs.size := let ⟨_, n, _⟩ := N; n.lt
theorem keeps (N : HasNs h L lo) (k : ∀ b o, h.get? b = some o → h'.get? b = some o) : HasNs h' L lo := let ⟨m, n, r⟩ := N; ⟨m, n.keeps k, r⟩
theorem sameBut (N : HasNs h L lo) (hs : Heap.SameBut b h h') (hb : L ≠ b) : HasNs h' L lo := let ⟨m, n, r⟩ := N; ⟨m, n.sameBut hs hb, r⟩
theorem at' (N : HasNs h L lo) (k : ∀ o, h.get? L = some o → h'.get? L = some o) : HasNs h' L lo := let ⟨m, n, r⟩ := N; ⟨m, n.at' k, r⟩
theorem there (N : HasNs h L lo) : ∃ o, h.get? L = some o := let ⟨_, n, _⟩ := N; let ⟨o, _, _, ho, _⟩ := n; ⟨o, ho⟩
theorem less (N : HasNs h L lo) (k : ∀ x v, lk lo' x = some v → lk lo x = some v) : HasNs h L lo' := let ⟨m, n, r⟩ := N; ⟨m, n, fun x v e => r x v (k x v e)⟩
end HasNs

structure FS (g : Heap) (L : Addr) (lo : List (Str × Value)) (led : List (Addr × Ent)) (h : Heap) : Prop where
  ns : HasNs h L lo
  keep : ∀ b o, g.get? b = some o → h.get? b = some o
  nL : g.get? L = none
  ok : ∀ p ∈ led, p.2.At h p.1 ∧ p.1 ≠ L ∧ g.get? p.1 = none
  nd : (led.map (·.1)).Nodup

structure St (w : World) (mg mb : Str → Option Value) (s₀ : Shared) (g : Heap) (L : Addr) (lo : List (Str × Value)) (led : List (Addr × Ent)) (s : Shared) : Prop where
  fs : FS g L lo led s.heap
  cx : Cx w mg mb g
  eq : ∃ h tk, s = { s₀ with heap := h, toks := tk }
  tk : 1 ≤ s.toks
  base : ∀ b o, s₀.heap.get? b = some o → g.get? b = some o

structure Room (A : Around) (k : Nat) : Prop where
  hh : A.handled = none
  dp : A.depth + k ≤ 900
  un : A.units + 10 * k ≤ 9000

theorem Room.deeper {A : Around} {k : Nat} {env : Env} (R : Room A (k + 1)) : Room (A.deeper env) k :=
  ⟨R.hh, by have := R.dp; show A.depth + 1 + k ≤ 900; exact Mine.lc [A.depth, k] [(1, .a (.v 0) (.a (.v 1) (.n 1)), .n 900)] (1, .a (.a (.v 0) (.n 1)) (.v 1), .n 900) rfl this, by have := R.un; show A.units + 3 + 10 * k ≤ 9000; exact Mine.lc [A.units, k] [(1, .a (.v 0) (.m 10 (.a (.v 1) (.n 1))), .n 9000)] (1, .a (.a (.v 0) (.n 3)) (.m 10 (.v 1)), .n 9000) rfl this⟩
theorem Room.in1 {A : Around} {k : Nat} (R : Room A (k + 1)) : Room A.in1 k :=
  ⟨R.hh, by have := R.dp; show A.depth + k ≤ 900; exact Mine.lc [A.depth, k] [(1, .a (.v 0) (.a (.v 1) (.n 1)), .n 900)] (1, .a (.v 0) (.v 1), .n 900) rfl this, by have := R.un; show A.units + 1 + 10 * k ≤ 9000; exact Mine.lc [A.units, k] [(1, .a (.v 0) (.m 10 (.a (.v 1) (.n 1))), .n 9000)] (1, .a (.a (.v 0) (.n 1)) (.m 10 (.v 1)), .n 9000) rfl this⟩
theorem Room.le {A : Around} {k j : Nat} (R : Room A k) (h : j ≤ k) : Room A j :=
  ⟨R.hh, by have := R.dp; exact Mine.lc [j, k, A.depth] [(1, .v 0, .v 1), (1, .a (.v 2) (.v 1), .n 900)] (1, .a (.v 2) (.v 0), .n 900) rfl h this, by have := R.un; exact Mine.lc [j, k, A.units] [(10, .v 0, .v 1), (1, .a (.v 2) (.m 10 (.v 1)), .n 9000)] (1, .a (.v 2) (.m 10 (.v 0)), .n 9000) rfl h this⟩
theorem Room.lim {A : Around} {k : Nat} (R : Room A k) : A.depth < recursionLimit := by have := R.dp; show A.depth < 1000; exact Mine.lc [A.depth, k] [(1, .a (.v 0) (.v 1), .n 900)] (1, .a (.v 0) (.n 1), .n 1000) rfl this
theorem Room.cl {A : Around} {k : Nat} (R : Room A k) : A.units < cLine := by have := R.un; show A.units < 9900; exact Mine.lc [A.units, k] [(1, .a (.v 0) (.m 10 (.v 1)), .n 9000)] (1, .a (.v 0) (.n 1), .n 9900) rfl this

section
variable {prog : Program} {w : World} {mg mb : Str → Option Value} {s₀ s : Shared} {g : Heap} {L : Addr} {lo lo' : List (Str × Value)} {led led' : List (Addr × Ent)} {A : Around} {E : Value → Shared → Prop}

theorem FS.cx (F : FS g L lo led s.heap) (C : Cx w mg mb g) : Cx w mg mb s.heap := C.keeps F.keep

theorem FS.moved {h h' : Heap} (F : FS g L lo led h) (k : ∀ b o, h.get? b = some o → h'.get? b = some o) : FS g L lo led h' :=
  ⟨F.ns.keeps k, fun b o e => k _ _ (F.keep b o e), F.nL, fun p hp => ⟨(F.ok p hp).1.of fun o e => k _ _ e, (F.ok p hp).2⟩, F.nd⟩

theorem St.moved {s' : Shared} (H : St w mg mb s₀ g L lo led s) (K : Keeps s s') (ht : 1 ≤ s'.toks) : St w mg mb s₀ g L lo led s' := by
  obtain ⟨h', tk', rfl, k⟩ := K
  obtain ⟨h, tk, rfl⟩ := H.eq
  exact ⟨H.fs.moved k, H.cx, ⟨_, _, rfl⟩, ht, H.base⟩

theorem St.toks {k : Nat} (H : St w mg mb s₀ g L lo led s) (ht : 1 ≤ k) : St w mg mb s₀ g L lo led { s with toks := k } := by
  obtain ⟨h, tk, rfl⟩ := H.eq
  exact ⟨H.fs, H.cx, ⟨_, _, rfl⟩, ht, H.base⟩

inductive SetL (x : Str) (v : Value) : List (Str × Value) → List (Str × Value) → Prop
  | nil : SetL x v [] [(x, v)]
  | head {u : Value} {r : List (Str × Value)} : SetL x v ((x, u) :: r) ((x, v) :: r)
  | tail {y : Str} {u : Value} {r r' : List (Str × Value)} : y ≠ x → SetL x v r r' → SetL x v ((y, u) :: r) ((y, u) :: r')

theorem SetL.look {x : Str} {v : Value} {l l' : List (Str × Value)} (S : SetL x v l l') : lk l' = fun y => if y = x then some v else lk l y := by
  induction S with
  | nil =>
    funext y; unfold lk; simp only [List.lookup_cons, List.lookup_nil]
    by_cases h : y = x
    · simp [h]
    · have : (y == x) = false := by simpa using h
      simp [h, this]
  | head => 
    funext y; unfold lk
    simp only [List.lookup_cons]
    by_cases h : y = x
    · simp [h]
    · have : (y == x) = false := by simpa using h
      simp [h, this]
  | tail hne _ ih =>
    rename_i z u r r' _
    funext y; unfold lk at ih ⊢
    simp only [List.lookup_cons]
    by_cases h : y = z
    · have : y ≠ x := fun e => hne (h ▸ e)
      have e1 : (y == z) = true := by simpa using h
      simp [e1, this]
    · have e1 : (y == z) = false := by simpa using h
      simp only [e1]
      exact congrFun ih y

theorem store_ {env : Env} {x : Str} {v : Value} {Q : Unit → Shared → Prop} (H : St w mg mb s₀ g L lo led s) (S : SetL x v lo lo')
    (h : ∀ s', St w mg mb s₀ g L lo' led s' → Q () s')
    (hk : env.kindOf x = some .local := by rfl) (hL : env.locals = L := by rfl)
    (hp : (env.scope.kind == .class || (env.scope.kind == .module && env.locals != env.globals)) = false := by rfl) :
    wpAny (model prog w) A (storeName env x v) Q E s := by
  subst hL
  obtain ⟨m, hm, hr⟩ := H.fs.ns
  refine wpAny_storeName_local hk hm (fun h' hn hs => h _ ?_) hp
  obtain ⟨h₁, tk, rfl⟩ := H.eq
  refine ⟨⟨⟨_, hn, fun y u e => ?_⟩, fun b o e => (hs.2 b fun q => ?_).trans (H.fs.keep b o e), H.fs.nL, fun p hp => ⟨(H.fs.ok p hp).1.of fun o e => (hs.2 _ (H.fs.ok p hp).2.1).trans e, (H.fs.ok p hp).2⟩, H.fs.nd⟩, H.cx, ⟨_, _, rfl⟩, Nat.le_succ_of_le H.tk, H.base⟩
  · rw [S.look] at e
    by_cases q : y = x
    · simp only [q, if_true] at e ⊢; exact e
    · simp only [q, if_false] at e ⊢; exact hr _ _ e
  · rw [q, H.fs.nL] at e; cases e

theorem ldL_ {env : Env} {x : Str} {pos : Pos} {v : Value} {Q : Value → Shared → Prop} (H : St w mg mb s₀ g L lo led s) (hv : lk lo x = some v) (h : Q v s)
    (hl : env.kindOf x = some .local := by rfl) (hL : env.locals = L := by rfl) (hk : env.scope.kind = .function := by rfl) (hd : (x == ("__debug__" : Str)) = false := by decide) :
    wpAny (model prog w) A (eval (.Name x pos) env) Q E s := by
  subst hL
  obtain ⟨m, hm, hr⟩ := H.fs.ns
  exact wpAny_Name (wpAny_loadName_local hk hl hm (hr _ _ hv) h) hd

theorem ldN_ {env : Env} {x : Str} {v : Value} {Q : Value → Shared → Prop} (H : St w mg mb s₀ g L lo led s) (hv : lk lo x = some v) (h : Q v s)
    (hl : env.kindOf x = some .local := by rfl) (hL : env.locals = L := by rfl) (hk : env.scope.kind = .function := by rfl) :
    wpAny (model prog w) A (loadName env x) Q E s := by
  subst hL
  obtain ⟨m, hm, hr⟩ := H.fs.ns
  exact wpAny_loadName_local hk hl hm (hr _ _ hv) h

theorem St.keeps (H : St w mg mb s₀ g L lo led s) : Keeps s₀ s := by
  obtain ⟨h, tk, rfl⟩ := H.eq
  exact ⟨h, tk, rfl, fun b o e => H.fs.keep b o (H.base b o e)⟩
theorem St.here (H : St w mg mb s₀ g L lo led s) : Cx w mg mb s.heap := H.cx.keeps H.fs.keep

theorem gl_ {env : Env} {x : Str} {pos : Pos} {v : Value} {Q : Value → Shared → Prop} (C : Cx w mg mb s.heap) (e : nsIn (KK w) mainGlobals x = some (some v)) (h : Q v s)
    (hx : env.kindOf x = some .globalImplicit := by rfl) (hg : env.globals = mainGlobals := by rfl) (hk : env.scope.kind = .function := by rfl) (hd : (x == ("__debug__" : Str)) = false := by decide) :
    wpAny (model prog w) A (eval (.Name x pos) env) Q E s :=
  Name_function_global hk hx (loadGlobal_global (hg ▸ C.T.g) (mg_of C.X C.T.g e) h) hd

theorem bi_ {env : Env} {x : Str} {pos : Pos} {v : Value} {Q : Value → Shared → Prop} (C : Cx w mg mb s.heap) (e : nsIn (KK w) mainGlobals x = some none) (hv : bootBuiltins x = some v) (hn : x ≠ "__name__") (h : Q v s)
    (hx : env.kindOf x = some .globalImplicit := by rfl) (hg : env.globals = mainGlobals := by rfl) (hb : env.builtins = builtinsNs := by rfl) (hk : env.scope.kind = .function := by rfl) (hd : (x == ("__debug__" : Str)) = false := by decide) :
    wpAny (model prog w) A (eval (.Name x pos) env) Q E s :=
  Name_function_global hk hx (loadGlobal_builtin (hg ▸ C.T.g) (mg_none_of C.X C.T.g e) (hb ▸ C.T.b) ((C.T.builtins x hn).trans hv) h) hd
end
end Mine

end
section
open PySem PySem.W PySem.Calls PyProof.Rows
set_option Elab.async false
set_option autoImplicit false
set_option maxRecDepth 100000
set_option maxHeartbeats 4000000
namespace Mine
section
variable {prog : Program} {w : World} {mg mb : Str → Option Value} {s : Shared} {A : Around} {E : Value → Shared → Prop} {Q : Value → Shared → Prop} {k : Nat}
  {name qual : Str} {params : Arguments} {body : List Stmt} {scope : Scope} {dV kV doc pm cdv ct oc : Value} {an od : Option Addr} {osl : Array (Option Value)} {f : Addr} {vs : List Value} {binds : List (Str × Value)}

theorem enter_ (C : Cx w mg mb s.heap) (hr : Room A (k + 1)) (ht : 1 ≤ s.toks)
    (ho : (KK w).lookup f = some ⟨oc, od, .func (fnOf name qual params body scope dV kV doc pm an cdv ct), osl⟩)
    (hcd : codeIn (KK w) cdv qual = true)
    (hbind : bindArgs (fnOf name qual params body scope dV kV doc pm an cdv ct) ⟨vs, []⟩ = pure binds)
    (hloc : (binds.all fun x => decide (scope.names.lookup x.1 = some .local)) = true) {lo : List (Str × Value)} (hlo : binds.reverse = lo)
    (h : ∀ L s', St w mg mb s s.heap L lo [] s' → Room (A.deeper (envOf qual scope L f cdv)) k →
      wpAny (model prog w) (A.deeper (envOf qual scope L f cdv)) (execs body (envOf qual scope L f cdv))
        (fun fl s' => Q (match fl with | .ret v => v | _ => .none) s') (fun _ _ => False) s')
    (hcell : ∀ x ∈ scope.names, x.2 ≠ .cell) (hco : scope.isCoroutine = false) (hgen : scope.isGenerator = false) (hk : scope.kind = .function) :
    wpAny (model prog w) A (call (.ref f) vs) Q E s := by
  subst hlo
  refine wpAny_call (codeAny_call_def (fd := fnOf name qual params body scope dV kV doc pm an cdv ct) (body := body) (binds := binds) hr.lim (C.X _ _ ho) rfl C.T.nolimit (codeRec_of C.X hcd) rfl (BindsTo.of_eq hbind) hcell (locs hloc) (fun h₁ hns hk₁ => ?_) hco hgen hk)
  refine wpAny_mono (h s.heap.objs.size { s with heap := h₁, toks := s.toks + binds.length } ⟨⟨⟨_, hns, fun _ _ e => e⟩, hk₁, ?_, (fun _ hp => nomatch hp), List.Pairwise.nil⟩, C, ⟨_, _, rfl⟩, Nat.le_trans ht (Nat.le_add_right _ _), fun _ _ e => e⟩ hr.deeper) (fun fl s' hl => hl) fun _ _ e => e.elim
  cases e : s.heap.get? s.heap.objs.size with
  | none => rfl
  | some o => exact absurd (Heap.lt_size e) (Nat.lt_irrefl _)
end

end Mine

end
section
open PySem PySem.W PySem.Calls PyProof.Rows
set_option Elab.async false
set_option autoImplicit false
set_option maxRecDepth 100000
set_option maxHeartbeats 4000000
set_option linter.unusedVariables false
namespace Mine

theorem keepsPush (s : Shared) : KeptByPush (Keeps s) := fun s' ob k h => by
  obtain ⟨h', tk, rfl, hk⟩ := h
  exact ⟨_, _, rfl, fun b o e => Heap.get?_push_of_some _ (hk b o e)⟩
theorem keepsRefl (s : Shared) : Keeps s s := ⟨s.heap, s.toks, rfl, fun _ _ e => e⟩
theorem keepsToks (s : Shared) (k : Nat) : Keeps s { s with toks := k } := ⟨s.heap, k, rfl, fun _ _ e => e⟩
theorem keepsTrans {s s' s'' : Shared} (a : Keeps s s') (b : Keeps s' s'') : Keeps s s'' := by
  obtain ⟨h, tk, rfl, hk⟩ := a
  obtain ⟨h', tk', rfl, hk'⟩ := b
  exact ⟨_, _, rfl, fun b o e => hk' _ _ (hk _ _ e)⟩

inductive UpdE (l : Addr) (e e' : Ent) : List (Addr × Ent) → List (Addr × Ent) → Prop
  | head {r : List (Addr × Ent)} : UpdE l e e' ((l, e) :: r) ((l, e') :: r)
  | tail {p : Addr × Ent} {r r' : List (Addr × Ent)} : UpdE l e e' r r' → UpdE l e e' (p :: r) (p :: r')

theorem UpdE.mem {l : Addr} {e e' : Ent} {r r' : List (Addr × Ent)} (U : UpdE l e e' r r') : (l, e) ∈ r := by
  induction U with
  | head => exact .head _
  | tail _ ih => exact .tail _ ih
theorem UpdE.keys {l : Addr} {e e' : Ent} {r r' : List (Addr × Ent)} (U : UpdE l e e' r r') : r'.map (·.1) = r.map (·.1) := by
  induction U with
  | head => rfl
  | tail _ ih => simp [ih]
theorem UpdE.other {l : Addr} {e e' : Ent} {r r' : List (Addr × Ent)} (U : UpdE l e e' r r') (nd : (r.map (·.1)).Nodup) :
    ∀ p ∈ r', p = (l, e') ∨ (p ∈ r ∧ p.1 ≠ l) := by
  induction U with
  | head =>
    rename_i r
    intro p hp
    rcases List.mem_cons.mp hp with rfl | hp
    · exact .inl rfl
    · refine .inr ⟨.tail _ hp, fun q => ?_⟩
      have := (List.nodup_cons.mp nd).1
      exact this (List.mem_map.mpr ⟨p, hp, q⟩)
  | tail U ih =>
    rename_i q r r'
    intro p hp
    have nd' := List.nodup_cons.mp nd
    rcases List.mem_cons.mp hp with rfl | hp
    · refine .inr ⟨.head _, fun z => nd'.1 ?_⟩
      exact List.mem_map.mpr ⟨(l, e), U.mem, z.symm⟩
    · rcases ih nd'.2 p hp with h | ⟨h, h'⟩
      · exact .inl h
      · exact .inr ⟨.tail _ h, h'⟩

section
variable {prog : Program} {w : World} {mg mb : Str → Option Value} {s₀ s : Shared} {g : Heap} {L : Addr} {lo lo' : List (Str × Value)} {led led' : List (Addr × Ent)} {A : Around} {E : Value → Shared → Prop}
  {x y z : Str} {t u v : Tok} {a b : Int} {Q : Value → Shared → Prop} {env : Env} {kk : Nat} {pos : Pos} {l : Addr} {vs : List Value}

theorem St.fresh (H : St w mg mb s₀ g L lo led s) : s.heap.objs.size ≠ L ∧ g.get? s.heap.objs.size = none ∧ s.heap.objs.size ∉ led.map (·.1) := by
  refine ⟨Nat.ne_of_gt H.fs.ns.lt, ?_, fun h => ?_⟩
  · cases e : g.get? s.heap.objs.size with
    | none => rfl
    | some o => exact absurd (Heap.lt_size (H.fs.keep _ _ e)) (Nat.lt_irrefl _)
  · obtain ⟨p, hp, e⟩ := List.mem_map.mp h
    obtain ⟨o, ho⟩ := (H.fs.ok p hp).1.some
    exact absurd (Heap.lt_size ho) (e ▸ Nat.lt_irrefl _)

theorem St.pushed (H : St w mg mb s₀ g L lo led s) (o : Obj) (e : Ent) (he : e.At (s.heap.push o) s.heap.objs.size) (k : Nat) (hk : 1 ≤ k) :
    St w mg mb s₀ g L lo ((s.heap.objs.size, e) :: led) { s with heap := s.heap.push o, toks := k } := by
  obtain ⟨h1, h2, h3⟩ := H.fresh
  have F := H.fs.moved (h' := s.heap.push o) fun b o e => Heap.get?_push_of_some _ e
  have eq := H.eq
  obtain ⟨h, tk, rfl⟩ := eq
  refine ⟨⟨F.ns, F.keep, F.nL, fun p hp => ?_, List.nodup_cons.mpr ⟨h3, F.nd⟩⟩, H.cx, ⟨_, _, rfl⟩, hk, H.base⟩
  rcases List.mem_cons.mp hp with rfl | hp
  · exact ⟨he, h1, h2⟩
  · exact F.ok p hp

theorem St.drop (H : St w mg mb s₀ g L lo led s) (hs : led'.Sublist led) : St w mg mb s₀ g L lo led' s :=
  ⟨⟨H.fs.ns, H.fs.keep, H.fs.nL, fun p hp => H.fs.ok p (hs.subset hp), (hs.map _).nodup H.fs.nd⟩, H.cx, H.eq, H.tk, H.base⟩

theorem St.lst (H : St w mg mb s₀ g L lo led s) (h : (l, Ent.lst vs) ∈ led) : s.heap.IsList l vs.toArray := Heap.PlainList.isList (H.fs.ok _ h).1
theorem St.pl (H : St w mg mb s₀ g L lo led s) (h : (l, Ent.lst vs) ∈ led) : s.heap.PlainList l vs.toArray := (H.fs.ok _ h).1
theorem St.obj {o : Obj} (H : St w mg mb s₀ g L lo led s) (h : (l, Ent.obj o) ∈ led) : s.heap.get? l = some o := (H.fs.ok _ h).1
theorem St.blst {its : Array Value} (H : St w mg mb s₀ g L lo led s) (h : g.IsList l its) : s.heap.IsList l its :=
  let ⟨o, ho, r⟩ := h; ⟨o, H.fs.keep _ _ ho, r⟩

theorem St.turned {e e' : Ent} {h' : Heap} {k : Nat} (H : St w mg mb s₀ g L lo led s) (U : UpdE l e e' led led') (he : e'.At h' l) (hs : Heap.SameBut l s.heap h') (hk : 1 ≤ k) :
    St w mg mb s₀ g L lo led' { s with heap := h', toks := k } := by
  have hl := H.fs.ok _ U.mem
  have F := H.fs
  have eq := H.eq
  obtain ⟨h, tk, rfl⟩ := eq
  refine ⟨⟨?_, fun b o q => ?_, F.nL, fun p hp => ?_, U.keys ▸ F.nd⟩, H.cx, ⟨_, _, rfl⟩, hk, H.base⟩
  · exact F.ns.sameBut hs (Ne.symm hl.2.1)
  · refine (hs.2 b fun z => ?_).trans (F.keep b o q)
    rw [z, hl.2.2] at q; cases q
  · rcases U.other F.nd p hp with rfl | ⟨hp', hne⟩
    · exact ⟨he, hl.2⟩
    · exact ⟨(F.ok p hp').1.of fun o q => (hs.2 _ hne).trans q, (F.ok p hp').2⟩

theorem St.rebase (H : St w mg mb s₀ g L lo led s) (hs : led'.Sublist led) :
    ∃ g', (∀ b o, g.get? b = some o → g'.get? b = some o) ∧ St w mg mb s₀ g' L lo led' s ∧
      (∀ b o, s.heap.get? b = some o → b ≠ L → b ∉ led'.map (·.1) → g'.get? b = some o) := by
  have H' := H.drop hs
  refine ⟨hideAll s.heap (L :: led'.map (·.1)), fun b o e => ?_, ?_, fun b o e h1 h2 => ?_⟩
  · refine hideAll_get _ (H.fs.keep b o e) fun hm => ?_
    rcases List.mem_cons.mp hm with rfl | hm
    · rw [H.fs.nL] at e; cases e
    · obtain ⟨p, hp, rfl⟩ := List.mem_map.mp hm
      rw [(H'.fs.ok p hp).2.2] at e; cases e
  · have sub : ∀ b o, g.get? b = some o → (hideAll s.heap (L :: led'.map (·.1))).get? b = some o := fun b o e => by
      refine hideAll_get _ (H.fs.keep b o e) fun hm => ?_
      rcases List.mem_cons.mp hm with rfl | hm
      · rw [H.fs.nL] at e; cases e
      · obtain ⟨p, hp, rfl⟩ := List.mem_map.mp hm
        rw [(H'.fs.ok p hp).2.2] at e; cases e
    refine ⟨⟨H.fs.ns, fun b o e => of_hideAll _ e, hideAll_none _ (.head _), fun p hp => ⟨(H'.fs.ok p hp).1, (H'.fs.ok p hp).2.1, hideAll_none _ (.tail _ (List.mem_map_of_mem hp))⟩, H'.fs.nd⟩, H.cx.keeps sub, H.eq, H.tk, fun b o e => sub b o (H.base b o e)⟩
  · exact hideAll_get _ e fun hm => by
      rcases List.mem_cons.mp hm with rfl | hm
      · exact h1 rfl
      · exact h2 hm

theorem ll63 {x : Str} (hz : x.length ≤ sizeLine) : (x.length : Int) < 9223372036854775808 := by
  have e : sizeLine = 16777216 := rfl
  exact Int.ofNat_lt.mpr (show x.length < 9223372036854775808 from Mine.lc [x.length, sizeLine] [(1, .v 0, .v 1), (1, .v 1, .n 16777216)] (1, .a (.v 0) (.n 1), .n 9223372036854775808) rfl hz (Nat.le_of_eq e))

/-! the constants -/
theorem cstr_ (H : St w mg mb s₀ g L lo led s) (h : ∀ t s', St w mg mb s₀ g L lo led s' → Q (.str x t) s') : wpAny (model prog w) A (eval (.Constant (.str x) kk pos) env) Q E s :=
  Constant_str (h _ _ (H.toks (Nat.le_succ_of_le H.tk)))
theorem cint_ (H : St w mg mb s₀ g L lo led s) (h : ∀ t s', St w mg mb s₀ g L lo led s' → Q (.int a t) s') : wpAny (model prog w) A (eval (.Constant (.int a) kk pos) env) Q E s :=
  wpAny_Constant_int (h _ _ (H.toks (Nat.le_succ_of_le H.tk)))

/-! texts -/
theorem strip_ (H : St w mg mb s₀ g L lo led s) (hz : x.length ≤ sizeLine) (h : ∀ t s', St w mg mb s₀ g L lo led s' → Q (.str (Txt.strip x) t) s') : wpAny (model prog w) A (call (.builtin "str.strip") [.str x t]) Q E s :=
  wpAny_with_toks H.tk (SC.strip (fun _ _ ht => h _ _ (H.toks ht)) hz)
theorem lstripC_ (H : St w mg mb s₀ g L lo led s) (hz : x.length ≤ sizeLine) (h : ∀ t s', St w mg mb s₀ g L lo led s' → Q (.str (Txt.lstripChars x y) t) s') : wpAny (model prog w) A (call (.builtin "str.lstrip") [.str x t, .str y u]) Q E s :=
  wpAny_with_toks H.tk (SC.lstripChars (fun _ _ ht => h _ _ (H.toks ht)) hz)
theorem rstripC_ (H : St w mg mb s₀ g L lo led s) (hz : x.length ≤ sizeLine) (h : ∀ t s', St w mg mb s₀ g L lo led s' → Q (.str (Txt.rstripChars x y) t) s') : wpAny (model prog w) A (call (.builtin "str.rstrip") [.str x t, .str y u]) Q E s :=
  wpAny_with_toks H.tk (SC.rstripChars (fun _ _ ht => h _ _ (H.toks ht)) hz)
theorem rfind_ (H : St w mg mb s₀ g L lo led s) (h : ∀ t s', St w mg mb s₀ g L lo led s' → Q (.int (Txt.rfind x y) t) s') : wpAny (model prog w) A (call (.builtin "str.rfind") [.str x t, .str y u]) Q E s :=
  SC.rfind (h _ _ (H.toks (Nat.le_succ_of_le H.tk)))
theorem replace_ (H : St w mg mb s₀ g L lo led s) (hu : u ≠ 0) (hv : v ≠ 0) (huv : u ≠ v) (hyz : (y == z) = false) (hb : x.length + (x.length + 1) * z.length ≤ 16777216)
    (h : ∀ t s', St w mg mb s₀ g L lo led s' → Q (.str (Txt.replace x y z) t) s') : wpAny (model prog w) A (call (.builtin "str.replace") [.str x t, .str y u, .str z v]) Q E s :=
  wpAny_with_toks H.tk (SC.replace hu hv huv hyz hb (fun _ _ ht => h _ _ (H.toks ht)))
theorem adds_ (H : St w mg mb s₀ g L lo led s) (hz : x.length + y.length ≤ sizeLine) (h : ∀ t s', St w mg mb s₀ g L lo led s' → Q (.str (x ++ y) t) s') : wpAny (model prog w) A (binaryOp .Add (.str x t) (.str y u)) Q E s :=
  wpAny_with_toks H.tk (SB.add (fun _ _ ht => h _ _ (H.toks ht)) hz)
theorem iadds_ (H : St w mg mb s₀ g L lo led s) (hz : x.length + y.length ≤ sizeLine) (h : ∀ t s', St w mg mb s₀ g L lo led s' → Q (.str (x ++ y) t) s') : wpAny (model prog w) A (inplaceOp .Add (.str x t) (.str y u)) Q E s :=
  wpAny_with_toks H.tk (SB.iadd (fun _ _ ht => h _ _ (H.toks ht)) hz)
theorem muls_ (H : St w mg mb s₀ g L lo led s) (hok : MulOk x a) (h : ∀ t s', St w mg mb s₀ g L lo led s' → Q (.str (Txt.mul x a) t) s') : wpAny (model prog w) A (binaryOp .Mult (.str x t) (.int a u)) Q E s :=
  wpAny_with_toks H.tk (SB.mul hok (fun _ _ ht => h _ _ (H.toks ht)))
theorem lens_ (H : St w mg mb s₀ g L lo led s) (hz : x.length ≤ sizeLine) (h : ∀ t s', St w mg mb s₀ g L lo led s' → Q (.int x.length t) s') : wpAny (model prog w) A (call (.builtin "len") [.str x t]) Q E s :=
  SBL.len (ll63 hz) (h _ _ (H.toks (by have := H.tk; exact Mine.lc [s.toks] [] (1, .n 1, .a (.a (.v 0) (.n 1)) (.n 1)) rfl)))
theorem truthys_ {Q : Bool → Shared → Prop} (H : St w mg mb s₀ g L lo led s) (hz : x.length ≤ sizeLine) (h : ∀ s', St w mg mb s₀ g L lo led s' → Q ((x.length : Int) != 0) s') : wpAny (model prog w) A (truthy (.str x t)) Q E s :=
  SBL.truthy (ll63 hz) (h _ (H.toks (by have := H.tk; exact Mine.lc [s.toks] [] (1, .n 1, .a (.a (.v 0) (.n 1)) (.n 1)) rfl)))
theorem join_ {l : Addr} {vl : List (Str × Tok)} {texts : List Str} (H : St w mg mb s₀ g L lo led s) (hl : s.heap.IsList l (strValues vl).toArray) (ht : vl.map (·.1) = texts) (hok : JoinOk x texts = true)
    (h : ∀ t s', St w mg mb s₀ g L lo led s' → Q (.str (Txt.join x texts) t) s') : wpAny (model prog w) A (call (.builtin "str.join") [.str x t, .ref l]) Q E s :=
  wpAny_with_toks H.tk (SC.join hl ht hok (fun _ _ ht => h _ _ (H.toks ht)))

/-! ints -/
theorem addi_ (H : St w mg mb s₀ g L lo led s) (h : ∀ t s', St w mg mb s₀ g L lo led s' → Q (.int (a + b) t) s') : wpAny (model prog w) A (binaryOp .Add (.int a t) (.int b u)) Q E s :=
  PySem.P.add_int (h _ _ (H.toks (Nat.le_succ_of_le H.tk)))
theorem subi_ (H : St w mg mb s₀ g L lo led s) (h : ∀ t s', St w mg mb s₀ g L lo led s' → Q (.int (a - b) t) s') : wpAny (model prog w) A (binaryOp .Sub (.int a t) (.int b u)) Q E s :=
  PySem.P.sub_int (h _ _ (H.toks (Nat.le_succ_of_le H.tk)))
theorem iaddi_ (H : St w mg mb s₀ g L lo led s) (h : ∀ t s', St w mg mb s₀ g L lo led s' → Q (.int (a + b) t) s') : wpAny (model prog w) A (inplaceOp .Add (.int a t) (.int b u)) Q E s :=
  PySem.P.iadd_int (h _ _ (H.toks (Nat.le_succ_of_le H.tk)))
theorem isubi_ (H : St w mg mb s₀ g L lo led s) (h : ∀ t s', St w mg mb s₀ g L lo led s' → Q (.int (a - b) t) s') : wpAny (model prog w) A (inplaceOp .Sub (.int a t) (.int b u)) Q E s :=
  PySem.P.isub_int (h _ _ (H.toks (Nat.le_succ_of_le H.tk)))
theorem modi_ (H : St w mg mb s₀ g L lo led s) (hb : b ≠ 0) (h : ∀ t s', St w mg mb s₀ g L lo led s' → Q (.int (a.fmod b) t) s') : wpAny (model prog w) A (binaryOp .Mod (.int a t) (.int b u)) Q E s :=
  mod_int' hb (h _ _ (H.toks (Nat.le_succ_of_le H.tk)))
theorem negi_ (H : St w mg mb s₀ g L lo led s) (h : ∀ t s', St w mg mb s₀ g L lo led s' → Q (.int (-a) t) s') : wpAny (model prog w) A (unaryOp .USub (.int a t)) Q E s :=
  PySem.P.neg_int (h _ _ (H.toks (Nat.le_succ_of_le H.tk)))

/-! lists -/
theorem newList_ (H : St w mg mb s₀ g L lo led s) (hz : vs.length ≤ sizeLine) (h : ∀ l s', St w mg mb s₀ g L lo ((l, .lst vs) :: led) s' → Q (.ref l) s') :
    wpAny (model prog w) A (newList vs) Q E s :=
  wpAny_newObj_type (h _ _ (H.pushed _ (.lst vs) ⟨0, Heap.get?_push_size _ rfl⟩ _ H.tk)) (by show vs.toArray.size ≤ sizeLine; rw [List.size_toArray]; exact hz)

noncomputable abbrev tupO (vs : List Value) : Obj := { cls := .type "tuple", data := .seq vs.toArray }
theorem newTuple_ (H : St w mg mb s₀ g L lo led s) (hz : vs.length ≤ sizeLine) (h : ∀ l s', St w mg mb s₀ g L lo ((l, .obj (tupO vs)) :: led) s' → Q (.ref l) s') :
    wpAny (model prog w) A (newTuple vs) Q E s :=
  wpAny_newObj_type (h _ _ (H.pushed _ (.obj (tupO vs)) (Heap.get?_push_size _ rfl) _ H.tk)) (by show vs.toArray.size ≤ sizeLine; rw [List.size_toArray]; exact hz)

theorem append_ {x : Value} (H : St w mg mb s₀ g L lo led s) (U : UpdE l (.lst vs) (.lst (vs ++ [x])) led led') (hz : vs.length ≤ sizeLine)
    (h : ∀ s', St w mg mb s₀ g L lo led' s' → Q .none s') : wpAny (model prog w) A (call (.builtin "list.append") [.ref l, x]) Q E s :=
  wpAny_list_append_plain (H.pl U.mem) (fun h' hl hs => h _ (H.turned U (by show h'.PlainList l (vs ++ [x]).toArray; simpa using hl) hs H.tk)) (by rw [List.size_toArray]; exact hz)

theorem lenl_ (H : St w mg mb s₀ g L lo led s) (hl : s.heap.IsList l vs.toArray) (hz : vs.length ≤ 1000000) (h : ∀ t s', St w mg mb s₀ g L lo led s' → Q (.int vs.length t) s') : wpAny (model prog w) A (call (.builtin "len") [.ref l]) Q E s :=
  Calls.call_len_list hl (by rw [List.size_toArray]; omega) (by rw [List.size_toArray]; exact (h _ _ (H.toks (by have := H.tk; exact Mine.lc [s.toks] [] (1, .n 1, .a (.a (.v 0) (.n 1)) (.n 1)) rfl))))
theorem truthyl_ {Q : Bool → Shared → Prop} (H : St w mg mb s₀ g L lo led s) (hl : s.heap.IsList l vs.toArray) (hz : vs.length ≤ 1000000) (h : ∀ s', St w mg mb s₀ g L lo led s' → Q (!vs.isEmpty) s') : wpAny (model prog w) A (truthy (.ref l)) Q E s :=
  wpAny_truthy_list hl (by rw [List.size_toArray]; omega) (by rw [show vs.toArray.isEmpty = vs.isEmpty from by simp]; exact h _ (H.toks (by have := H.tk; exact Mine.lc [s.toks] [] (1, .n 1, .a (.a (.v 0) (.n 1)) (.n 1)) rfl)))
end
end Mine

end
section
open PySem PySem.W PySem.Calls PyProof.Rows
set_option Elab.async false
set_option autoImplicit false
set_option maxRecDepth 100000
set_option maxHeartbeats 4000000
set_option linter.unusedVariables false
namespace Mine
section
variable {prog : Program} {w : World} {mg mb : Str → Option Value} {s₀ s : Shared} {g : Heap} {L : Addr} {lo lo' : List (Str × Value)} {led led' : List (Addr × Ent)} {A : Around} {E : Value → Shared → Prop}
  {x y z : Str} {t u v : Tok} {i j : Int} {ui uj : Tok} {Q : Value → Shared → Prop} {env : Env} {pos : Pos} {l : Addr} {vs : List Value} {value slice : Expr}

noncomputable abbrev sliceO (a b c : Value) : Obj := { cls := .type "slice", data := .fields #[a, b, c] }

theorem St.extBut {h' : Heap} (H : St w mg mb s₀ g L lo led s) (k : Heap.ExtBut s.heap.objs.size s.heap h') : St w mg mb s₀ g L lo led { s with heap := h' } :=
  H.moved ⟨h', s.toks, rfl, fun b o e => k b o (Nat.ne_of_lt (Heap.lt_size e)) e⟩ H.tk

theorem sl_ns_ (H : St w mg mb s₀ g L lo led s) (hz : x.length ≤ sizeLine) (h : ∀ t s', St w mg mb s₀ g L lo led s' → Q (.str (Txt.slice x none (some j)) t) s')
    (hs : subscripted slice false (.str x t) (.ref s.heap.objs.size) = operate [.ref s.heap.objs.size, .str x t] (getItem (.str x t) (.ref s.heap.objs.size)) := by with_unfolding_all rfl)
    (ht : ∀ r, letTemporaryGo value (.str x t) r = pure () := by intro _; with_unfolding_all rfl) :
    wpAny (model prog w) A (subscriptTail value slice (.str x t) (.ref s.heap.objs.size)) Q E { s with heap := s.heap.push (sliceO .none (.int j uj) .none) } :=
  wpAny_with_toks (n := 1) H.tk (tail_of_ItemOn (SBG.sliceItem_ns (keepsPush s) (keepsRefl s) (fun _ _ K ht => h _ _ (H.moved K ht)) hz) hs ht)
theorem sl_sn_ (H : St w mg mb s₀ g L lo led s) (hz : x.length ≤ sizeLine) (h : ∀ t s', St w mg mb s₀ g L lo led s' → Q (.str (Txt.slice x (some i) none) t) s')
    (hs : subscripted slice false (.str x t) (.ref s.heap.objs.size) = operate [.ref s.heap.objs.size, .str x t] (getItem (.str x t) (.ref s.heap.objs.size)) := by with_unfolding_all rfl)
    (ht : ∀ r, letTemporaryGo value (.str x t) r = pure () := by intro _; with_unfolding_all rfl) :
    wpAny (model prog w) A (subscriptTail value slice (.str x t) (.ref s.heap.objs.size)) Q E { s with heap := s.heap.push (sliceO (.int i ui) .none .none) } :=
  wpAny_with_toks (n := 1) H.tk (tail_of_ItemOn (SBG.sliceItem_sn (keepsPush s) (keepsRefl s) (fun _ _ K ht => h _ _ (H.moved K ht)) hz) hs ht)
theorem sl_ss_ (H : St w mg mb s₀ g L lo led s) (hz : x.length ≤ sizeLine) (h : ∀ t s', St w mg mb s₀ g L lo led s' → Q (.str (Txt.slice x (some i) (some j)) t) s')
    (hs : subscripted slice false (.str x t) (.ref s.heap.objs.size) = operate [.ref s.heap.objs.size, .str x t] (getItem (.str x t) (.ref s.heap.objs.size)) := by with_unfolding_all rfl)
    (ht : ∀ r, letTemporaryGo value (.str x t) r = pure () := by intro _; with_unfolding_all rfl) :
    wpAny (model prog w) A (subscriptTail value slice (.str x t) (.ref s.heap.objs.size)) Q E { s with heap := s.heap.push (sliceO (.int i ui) (.int j uj) .none) } :=
  wpAny_with_toks (n := 1) H.tk (tail_of_ItemOn (SBG.sliceItem_ss (keepsPush s) (keepsRefl s) (fun _ _ K ht => h _ _ (H.moved K ht)) hz) hs ht)

theorem sl_lst_ {va vb vc : Value} {lo₁ hi st : Option Int} (H : St w mg mb s₀ g L lo led s) (hl : s.heap.IsList l vs.toArray) (pl : IsPart va lo₁) (pu : IsPart vb hi) (ps : IsPart vc st) (h0 : st ≠ some 0) (hz : vs.length ≤ sizeLine)
    (h : ∀ l' s', St w mg mb s₀ g L lo ((l', .lst (slicePick vs.toArray lo₁ hi st).toList) :: led) s' → Q (.ref l') s')
    {ops : List Value} (hs : subscripted slice false (.ref l) (.ref s.heap.objs.size) = operate ops (getItem (.ref l) (.ref s.heap.objs.size)) := by with_unfolding_all rfl)
    (ht : ∀ r, letTemporaryGo value (.ref l) r = pure () := by intro _; with_unfolding_all rfl) :
    wpAny (model prog w) A (subscriptTail value slice (.ref l) (.ref s.heap.objs.size)) Q E { s with heap := s.heap.push (sliceO va vb vc) } := by
  refine subscriptTail_ops (Heap.IsList.typeIs (s := { s with heap := s.heap.push (sliceO va vb vc) }) (hl.push _)) list_getitem_lookup
    (wpAny_getItem_list_slice (hl.push _) (Heap.IsSliceOf.new ..) pl pu ps h0 ?_ (by rw [List.size_toArray]; exact hz)) hs ht
  have H' : St w mg mb s₀ g L lo led { s with heap := s.heap.push (sliceO va vb vc) } := H.moved ⟨_, _, rfl, fun b o e => Heap.get?_push_of_some _ e⟩ H.tk
  exact h _ _ (H'.pushed { cls := .type "list", data := .seq (slicePick vs.toArray lo₁ hi st) } (.lst (slicePick vs.toArray lo₁ hi st).toList) ⟨0, by rw [show (slicePick vs.toArray lo₁ hi st).toList.toArray = slicePick vs.toArray lo₁ hi st from by simp]; exact Heap.get?_push_size _ rfl⟩ _ H.tk)

theorem item_ {r : Value} (hl : s.heap.IsList l vs.toArray) (h0 : 0 ≤ i) (hz : i < 1000000) (hx : vs[i.toNat]? = some r) (h : Q r s)
    {ops : List Value} (hs : subscripted slice false (.ref l) (.int i ui) = operate ops (getItem (.ref l) (.int i ui)) := by with_unfolding_all rfl)
    (ht : ∀ r, letTemporaryGo value (.ref l) r = pure () := by intro _; with_unfolding_all rfl) :
    wpAny (model prog w) A (subscriptTail value slice (.ref l) (.int i ui)) Q E s :=
  subscriptTail_ops hl.typeIs list_getitem_lookup (wpAny_getItem_list hl h0 (by omega) (by simpa using hx) h) hs ht
theorem itemn_ {r : Value} (hl : s.heap.IsList l vs.toArray) (h0 : i < 0) (h1 : -(vs.length : Int) ≤ i) (hz : vs.length ≤ 1000000) (hx : vs[(i + vs.length).toNat]? = some r) (h : Q r s)
    {ops : List Value} (hs : subscripted slice false (.ref l) (.int i ui) = operate ops (getItem (.ref l) (.int i ui)) := by with_unfolding_all rfl)
    (ht : ∀ r, letTemporaryGo value (.ref l) r = pure () := by intro _; with_unfolding_all rfl) :
    wpAny (model prog w) A (subscriptTail value slice (.ref l) (.int i ui)) Q E s :=
  subscriptTail_ops hl.typeIs list_getitem_lookup (wpAny_getItem_list_neg hl h0 (by simpa using h1) (by omega) (by simpa using hx) h) hs ht
theorem sign_ (H : St w mg mb s₀ g L lo led s) (h1 : -(x.length : Int) ≤ i) (h2 : i < x.length) (hz : x.length ≤ sizeLine) (h : ∀ t s', St w mg mb s₀ g L lo led s' → Q (.str (Txt.item x i) t) s')
    (hs : subscripted slice false (.str x t) (.int i ui) = operate [.str x t, .int i ui] (getItem (.str x t) (.int i ui)) := by with_unfolding_all rfl)
    (ht : ∀ r, letTemporaryGo value (.str x t) r = pure () := by intro _; with_unfolding_all rfl) :
    wpAny (model prog w) A (subscriptTail value slice (.str x t) (.int i ui)) Q E s :=
  tail_of_ItemOn (SBL.item h1 h2 (ll63 hz) (fun _ => h _ _ (H.toks (Nat.le_succ_of_le H.tk)))) hs ht

theorem untuple_ {elts : List Expr} {k : Nat} {Q : Unit → Shared → Prop} (H : St w mg mb s₀ g L lo led s) (hA : A.handled = none) (hm : (l, Ent.obj (tupO vs)) ∈ led)
    (hn : (assignEach elts env).length = vs.length) (hstar : (assignEach elts env).findIdx? (·.1) = none)
    (h : ∀ s', St w mg mb s₀ g L lo led s' → wpAny (model prog w) A (assignInOrder ((assignEach elts env).map (·.2)) vs) Q E s') :
    wpAny (model prog w) A (assign (.Tuple elts k pos) env (.ref l)) Q E s :=
  wpAny_assign_Tuple hA ⟨_, H.obj hm, rfl, _, rfl⟩ (by simpa using hn) hstar fun h' k => by simpa using h _ (H.extBut k)
theorem unpack_ {Q : List Value → Shared → Prop} {n : Nat} (H : St w mg mb s₀ g L lo led s) (hA : A.handled = none) (hm : (l, Ent.obj (tupO vs)) ∈ led) (hn : n = vs.length)
    (h : ∀ s', St w mg mb s₀ g L lo led s' → Q vs s') : wpAny (model prog w) A (unpackItems (.ref l) n none) Q E s := by
  subst hn
  have := unpackItems_tuple (prog := prog) (w := w) (A := A) (E := E) (Q := Q) hA (show IsTup s.heap l vs.toArray from ⟨_, H.obj hm, rfl, _, rfl⟩) (fun h' k => by simpa using h _ (H.extBut k))
  simpa using this

theorem inorder_nil_ {Q : Unit → Shared → Prop} {M : Model} (h : Q () s) : wpAny M A (assignInOrder [] []) Q E s := wpAny_pure h
theorem inorder_cons_ {Q : Unit → Shared → Prop} {M : Model} {f : Value → Sem Unit} {fs : List (Value → Sem Unit)} {a : Value} {as : List Value}
    (h : wpAny M A (f a) (fun _ s' => wpAny M A (assignInOrder fs as) Q E s') E s) : wpAny M A (assignInOrder (f :: fs) (a :: as)) Q E s :=
  wpAny_bind (wpAny_holding (wpAny_mono h (fun _ _ q => q) fun _ _ e => e))
theorem bindN_ {Q : Unit → Shared → Prop} {M : Model} {n : Str} {a : Value} (h : wpAny M A (storeName env n a) Q E s) : wpAny M A (bindName env n a) Q E s := wpAny_bindName h

theorem cw_ {f : Addr} {es : List Expr} {e : Expr} {env : Env} {pos : Pos} (C : Cx w mg mb s.heap) (hk : keepIn (KK w) (.ref f) = true)
    (h : wpAny (model prog w) A (spliced (backTo pos (starEach (e :: es) env))) (fun vs s₁ => (KK w).In s₁.heap ∧ wpAny (model prog w) A (call (.ref f) ([] ++ vs)) Q E s₁) E s)
    (he : starEach (e :: es) env = (false, eval e env) :: starEach es env := by rfl) (hplain : (backTo pos (starEach es env)).any (·.1) = false := by rfl) :
    wpAny (model prog w) A (callWith pos (.ref f) [] (backTo pos (starEach (e :: es) env)) []) Q E s :=
  callWith_K (first := []) C.X hk h he hplain
end

section
variable {prog : Program} {w : World} {mg mb : Str → Option Value} {s₀ s : Shared} {g : Heap} {L : Addr} {lo : List (Str × Value)} {led : List (Addr × Ent)} {A : Around} {Q : Flow → Shared → Prop}
  {env : Env} {target : Expr} {body : List Stmt} {I : Addr} {fp wr : List Addr} {n : Nat} {P : Nat → Value → Prop} {Sti : Nat → Heap → Prop}

noncomputable def itsOf (h : Heap) (wr : List Addr) : List (Addr × Ent) := wr.filterMap fun b => (h.get? b).map fun o => (b, Ent.obj o)
theorem itsOf_keys {h : Heap} : ∀ {wr : List Addr}, (∀ b ∈ wr, ∃ o, h.get? b = some o) → (itsOf h wr).map (·.1) = wr
  | [], _ => rfl
  | b :: r, hx => by
    obtain ⟨o, ho⟩ := hx b (.head _)
    have ih := itsOf_keys (h := h) (wr := r) fun c hc => hx c (.tail _ hc)
    unfold itsOf at ih ⊢
    simp only [List.filterMap_cons, ho, Option.map_some, List.map_cons, ih]
theorem itsOf_mem {h : Heap} {wr : List Addr} {p : Addr × Ent} (hp : p ∈ itsOf h wr) : p.1 ∈ wr ∧ ∃ o, p.2 = .obj o ∧ h.get? p.1 = some o := by
  unfold itsOf at hp
  obtain ⟨b, hb, e⟩ := List.mem_filterMap.mp hp
  cases ho : h.get? b with
  | none => rw [ho] at e; cases e
  | some o => rw [ho] at e; cases e; exact ⟨hb, o, rfl, ho⟩
theorem mem_itsOf {h : Heap} {wr : List Addr} {b : Addr} {o : Obj} (hb : b ∈ wr) (ho : h.get? b = some o) : (b, Ent.obj o) ∈ itsOf h wr :=
  List.mem_filterMap.mpr ⟨b, hb, by rw [ho]; rfl⟩

theorem St.withIts {h' : Heap} {tk : Nat} (H : St w mg mb s₀ g L lo led s) (hk : ∀ b o, b ∉ wr → s.heap.get? b = some o → h'.get? b = some o) (htk : 1 ≤ tk)
    (hwr : ∀ b ∈ wr, b ≠ L ∧ g.get? b = none) (hnd : wr.Nodup) (hdis : ∀ p ∈ led, p.1 ∉ wr) (hex : ∀ b ∈ wr, ∃ o, h'.get? b = some o) :
    St w mg mb s₀ g L lo (led ++ itsOf h' wr) { s with heap := h', toks := tk } := by
  have F := H.fs
  have eq := H.eq
  obtain ⟨h, tk₀, rfl⟩ := eq
  have hL : L ∉ wr := fun hm => (hwr L hm).1 rfl
  refine ⟨⟨?_, fun b o e => hk b o (fun hm => by rw [(hwr b hm).2] at e; cases e) (F.keep b o e), F.nL, fun p hp => ?_, ?_⟩, H.cx, ⟨_, _, rfl⟩, htk, H.base⟩
  · exact F.ns.at' fun o e => hk L o hL e
  · rcases List.mem_append.mp hp with hp | hp
    · exact ⟨(F.ok p hp).1.of fun o e => hk _ _ (hdis p hp) e, (F.ok p hp).2⟩
    · obtain ⟨hb, o, e1, e2⟩ := itsOf_mem hp
      refine ⟨?_, hwr _ hb⟩
      rw [e1]; exact e2
  · rw [List.map_append, itsOf_keys hex]
    refine List.nodup_append.mpr ⟨F.nd, hnd, fun a ha b hb e => ?_⟩
    obtain ⟨p, hp, rfl⟩ := List.mem_map.mp ha
    exact hdis p hp (e ▸ hb)

theorem forW_ (W : Walks prog w A I fp wr n P Sti) (hnd : wr.Nodup) (hwr : ∀ b ∈ wr, b ≠ L ∧ g.get? b = none) (hfp : ∀ b ∈ fp, b ∈ wr ∨ ∃ o, g.get? b = some o)
    (hex : ∀ i h, Sti i h → ∀ b ∈ wr, ∃ o, h.get? b = some o)
    (Inv : Nat → List (Str × Value) → List (Addr × Ent) → Prop) (H : St w mg mb s₀ g L lo led s) (h0 : Inv 0 lo led) (hdis : ∀ p ∈ led, p.1 ∉ wr) (hst : Sti 0 s.heap)
    (turn : ∀ i v lo₁ led₁ its s₁, i < n → P i v → Inv i lo₁ led₁ → St w mg mb s₀ g L lo₁ (led₁ ++ its) s₁ →
      wpAny (model prog w) A (assign target env v) (fun _ s₂ => wpAny (model prog w) A (execs body env) (fun f s₃ => match f with
        | .next | .cont => ∃ lo₃ led₃, Inv (i + 1) lo₃ led₃ ∧ St w mg mb s₀ g L lo₃ (led₃ ++ its) s₃
        | .brk => Q .next s₃
        | .ret v => Q (.ret v) s₃) (fun _ _ => False) s₂) (fun _ _ => False) s₁)
    (done : ∀ lo₁ led₁ s₁, Inv n lo₁ led₁ → St w mg mb s₀ g L lo₁ led₁ s₁ → Q .next s₁)
    (ht : ∀ v, letOwnedTupleGo target (.ref I) v = pure () := by intro _; rfl) :
    codeAny (model prog w) A (.forLoop target (.ref I) body [] env) (fun r s' => match r with | .ok f => Q f s' | .error _ => False) s := by
  refine codeAny_forLoop (fun k s' => ∃ i lo₁ led₁, i ≤ n ∧ k = n + 1 - i ∧ Inv i lo₁ led₁ ∧ St w mg mb s₀ g L lo₁ led₁ s' ∧ (∀ p ∈ led₁, p.1 ∉ wr) ∧ Sti i s'.heap) ?_ (n + 1)
    ⟨0, lo, led, Nat.zero_le _, rfl, h0, H, hdis, hst⟩ ht
  rintro k s' ⟨i, lo₁, led₁, hi, rfl, hI, H₁, hd₁, hst₁⟩
  by_cases hlt : i < n
  · refine wpAny_with_toks (n := 1) H₁.tk (W.item i _ _ _ hlt hst₁ fun v h' tk hP hst' hk ht => ?_)
    have H₂ := H₁.withIts (wr := wr) hk ht hwr hnd hd₁ (hex _ _ hst')
    refine wpAny_mono (turn i v lo₁ led₁ _ _ hlt hP hI H₂) (fun _ s₂ h₂ => wpAny_mono h₂ (fun f s₃ h₃ => ?_) fun _ _ e => e.elim) fun _ _ e => e.elim
    have fin : (∃ lo₃ led₃, Inv (i + 1) lo₃ led₃ ∧ St w mg mb s₀ g L lo₃ (led₃ ++ itsOf h' wr) s₃) →
        ∃ m, m < n + 1 - i ∧ ∃ i lo₁ led₁, i ≤ n ∧ m = n + 1 - i ∧ Inv i lo₁ led₁ ∧ St w mg mb s₀ g L lo₁ led₁ s₃ ∧ (∀ p ∈ led₁, p.1 ∉ wr) ∧ Sti i s₃.heap := by
      rintro ⟨lo₃, led₃, hI₃, H₃⟩
      refine ⟨n + 1 - (i + 1), by exact Mine.lc [n + 1 - (i + 1), i, n, n + 1 - i] [(1, .a (.v 0) (.a (.v 1) (.n 1)), .a (.v 2) (.n 1)), (1, .a (.v 2) (.n 1), .a (.v 3) (.v 1))] (1, .a (.v 0) (.n 1), .v 3) rfl (Nat.le_of_eq (Nat.sub_add_cancel (show i + 1 ≤ n + 1 from Mine.lc [i, n] [(1, .v 0, .v 1)] (1, .a (.v 0) (.n 1), .a (.v 1) (.n 1)) rfl hi))) (Nat.sub_le_iff_le_add.mp (Nat.le_refl ( n + 1 - ( i)))), i + 1, lo₃, led₃, hlt, rfl, hI₃, H₃.drop (List.sublist_append_left _ _), fun p hp hm => ?_, W.frame _ _ _ hst' fun b hb o e => ?_⟩
      · have nd := H₃.fs.nd
        rw [List.map_append] at nd
        refine (List.nodup_append.mp nd).2.2 p.1 (List.mem_map_of_mem hp) p.1 ?_ rfl
        rw [itsOf_keys (hex _ _ hst')]; exact hm
      · rcases hfp b hb with hm | ⟨o', ho'⟩
        · exact H₃.obj (List.mem_append_right _ (mem_itsOf hm e))
        · have e1 := H₂.fs.keep _ _ ho'
          have e2 := H₃.fs.keep _ _ ho'
          have e3 : h'.get? b = some o' := e1
          rw [e3] at e; cases e; exact e2
    cases f with
    | next => exact fin h₃
    | cont => exact fin h₃
    | brk => exact h₃
    | ret v => exact h₃
  · have hin : i = n := by exact Nat.le_antisymm (Mine.lc [i, n] [(1, .v 0, .v 1)] (1, .v 0, .v 1) rfl hi) (Mine.lc [n, i] [(1, .v 0, .v 1)] (1, .v 0, .v 1) rfl (Nat.le_of_not_lt hlt))
    subst hin
    refine wpAny_with_toks (n := 1) H₁.tk (W.done _ _ _ hst₁ fun h' tk hk ht => wpAny_execs_nil ?_)
    have F := H₁.fs
    have eq := H₁.eq
    obtain ⟨h, tk₀, rfl⟩ := eq
    refine done lo₁ led₁ _ hI ⟨⟨F.ns.at' fun o e => hk L o (fun hm => (hwr L hm).1 rfl) e, fun b o e => hk b o (fun hm => by rw [(hwr b hm).2] at e; cases e) (F.keep b o e), F.nL, fun p hp => ⟨(F.ok p hp).1.of fun o e => hk _ _ (hd₁ p hp) e, (F.ok p hp).2⟩, F.nd⟩, H₁.cx, ⟨_, _, rfl⟩, ht, H₁.base⟩

theorem For_ {iter : Expr} {pos : Pos} {Q : Flow → Shared → Prop}
    (h : wpAny (model prog w) A (eval iter env) (fun x s₁ => wpAny (model prog w) A (pyIter x) (fun it s₂ =>
      codeAny (model prog w) A (.forLoop target it body [] env) (fun r s' => match r with | .ok f => Q f s' | .error _ => False) s₂) (fun _ _ => False) s₁) (fun _ _ => False) s)
    (hs : ∀ x, foldedSetIterable iter env x = pure x := by intro _; rfl) :
    wpAny (model prog w) A (exec (.For target iter body [] pos) env) Q (fun _ _ => False) s :=
  wpAny_For (wpAny_mono h (fun x s₁ h₁ => wpAny_mono h₁ (fun it s₂ h₂ => codeAny_mono h₂ fun r s' hr => by
    cases r with
    | ok f => exact hr
    | error e => exact hr.elim) fun _ _ e => e.elim) fun _ _ e => e.elim) hs

theorem forL_ {l : Addr} {vs : List Value} (hh : A.handled = none) (H : St w mg mb s₀ g L lo led s) (hl : g.IsList l vs.toArray)
    (Inv : Nat → List (Str × Value) → List (Addr × Ent) → Prop) (h0 : Inv 0 lo led)
    (turn : ∀ i v lo₁ led₁ its s₁, vs[i]? = some v → Inv i lo₁ led₁ → St w mg mb s₀ g L lo₁ (led₁ ++ its) s₁ →
      wpAny (model prog w) A (assign target env v) (fun _ s₂ => wpAny (model prog w) A (execs body env) (fun f s₃ => match f with
        | .next | .cont => ∃ lo₃ led₃, Inv (i + 1) lo₃ led₃ ∧ St w mg mb s₀ g L lo₃ (led₃ ++ its) s₃
        | .brk => Q .next s₃
        | .ret v => Q (.ret v) s₃) (fun _ _ => False) s₂) (fun _ _ => False) s₁)
    (done : ∀ lo₁ led₁ s₁, Inv vs.length lo₁ led₁ → St w mg mb s₀ g L lo₁ led₁ s₁ → Q .next s₁)
    (ht : ∀ I v, letOwnedTupleGo target (.ref I) v = pure () := by intro _ _; rfl) :
    wpAny (model prog w) A (pyIter (.ref l)) (fun it s₂ => codeAny (model prog w) A (.forLoop target it body [] env) (fun r s' => match r with | .ok f => Q f s' | .error _ => False) s₂) (fun _ _ => False) s := by
  have hls := H.blst hl
  obtain ⟨f1, f2, f3⟩ := H.fresh
  obtain ⟨ol, hol, _⟩ := id hl
  have hne : l ≠ s.heap.objs.size := Nat.ne_of_lt (Heap.lt_size (H.fs.keep _ _ hol))
  refine wpAny_pyIter_list hls ?_
  have W := Walks.list (prog := prog) (w := w) hh s.heap.objs.size l hne vs.toArray
  have H' : St w mg mb s₀ g L lo led { s with heap := s.heap.push { cls := .type "list_iterator", data := .fields #[.ref l, .int 0 0] } } := H.moved ⟨_, _, rfl, fun b o e => Heap.get?_push_of_some _ e⟩ H.tk
  refine forW_ W (by simp) ?_ ?_ ?_ Inv H' h0 ?_ ⟨⟨_, Heap.get?_push_size _ rfl, rfl, rfl⟩, hls.push _⟩ ?_ ?_ (ht _)
  · intro b hb
    rw [List.mem_singleton.mp hb]; exact ⟨f1, f2⟩
  · intro b hb
    rcases List.mem_cons.mp hb with rfl | hb
    · exact .inl (.head _)
    · rw [List.mem_singleton.mp hb]; exact .inr ⟨_, hol⟩
  · intro i h hst b hb
    rw [List.mem_singleton.mp hb]
    obtain ⟨o, ho, _⟩ := hst.1; exact ⟨o, ho⟩
  · intro p hp hm
    rw [List.mem_singleton] at hm
    exact f3 (List.mem_map.mpr ⟨p, hp, hm⟩)
  · intro i v lo₁ led₁ its s₁ _ hP hI H₁
    exact turn i v lo₁ led₁ its s₁ (by simpa using hP) hI H₁
  · intro lo₁ led₁ s₁ hI H₁
    exact done lo₁ led₁ s₁ (by simpa using hI) H₁
end

section
variable {w : World} {mg mb : Str → Option Value} {s₀ s s' : Shared} {g : Heap} {L : Addr} {lo : List (Str × Value)} {led : List (Addr × Ent)} {a : Addr} {e : Ent}
theorem St.isnew (H : St w mg mb s₀ g L lo led s) (hm : (a, e) ∈ led) : s₀.heap.get? a = none := by
  cases h : s₀.heap.get? a with
  | none => rfl
  | some o => have := H.base _ _ h; rw [(H.fs.ok _ hm).2.2] at this; cases this
theorem St.adopt (H : St w mg mb s₀ g L lo led s) (K : Keeps s s') (hf : s.heap.get? a = none) (he : e.At s'.heap a) (ht : 1 ≤ s'.toks) : St w mg mb s₀ g L lo ((a, e) :: led) s' := by
  have H' := H.moved K ht
  have hL : a ≠ L := fun q => by
    obtain ⟨o, ho⟩ := H.fs.ns.there
    rw [q] at hf; rw [hf] at ho; cases ho
  have hg : g.get? a = none := by
    cases h : g.get? a with
    | none => rfl
    | some o => have := H.fs.keep _ _ h; rw [hf] at this; cases this
  have hn : a ∉ led.map (·.1) := fun q => by
    obtain ⟨p, hp, rfl⟩ := List.mem_map.mp q
    obtain ⟨o, ho⟩ := (H.fs.ok p hp).1.some
    rw [hf] at ho; cases ho
  refine ⟨⟨H'.fs.ns, H'.fs.keep, H'.fs.nL, fun p hp => ?_, List.nodup_cons.mpr ⟨hn, H'.fs.nd⟩⟩, H'.cx, H'.eq, H'.tk, H'.base⟩
  rcases List.mem_cons.mp hp with rfl | hp
  · exact ⟨he, hL, hg⟩
  · exact H'.fs.ok p hp
end
theorem St.less {w : World} {mg mb : Str → Option Value} {s₀ s : Shared} {g : Heap} {L : Addr} {lo lo' : List (Str × Value)} {led : List (Addr × Ent)} (H : St w mg mb s₀ g L lo led s)
    (k : ∀ x v, lk lo' x = some v → lk lo x = some v) : St w mg mb s₀ g L lo' led s :=
  ⟨⟨H.fs.ns.less k, H.fs.keep, H.fs.nL, H.fs.ok, H.fs.nd⟩, H.cx, H.eq, H.tk, H.base⟩
theorem lk_front (l r : List (Str × Value)) : ∀ x v, lk l x = some v → lk (l ++ r) x = some v := fun x v e => by
  unfold lk at e ⊢
  rw [List.lookup_append, e]; rfl
theorem St.front {w : World} {mg mb : Str → Option Value} {s₀ s : Shared} {g : Heap} {L : Addr} {lo r : List (Str × Value)} {led : List (Addr × Ent)} (H : St w mg mb s₀ g L (lo ++ r) led s) : St w mg mb s₀ g L lo led s :=
  H.less (lk_front lo r)
theorem ite_t {b : Bool} {p q : Prop} (hb : b = true) (h : p) : if b = true then p else q := by rw [if_pos hb]; exact h
theorem ite_f {b : Bool} {p q : Prop} (hb : b = false) (h : q) : if b = true then p else q := by rw [if_neg (by rw [hb]; decide)]; exact h
end Mine

end
section
open PySem PySem.W PySem.Calls PyProof.Rows
set_option Elab.async false
set_option autoImplicit false
namespace Mine
section
variable {w : World}
theorem n_platform : nsIn (KK w) mainGlobals (Str.ofString "_platform") = some (some (.ref 28)) := by kernel_rfl
theorem k_platform : keepIn (KK w) (.ref 28) = true := by kernel_rfl
theorem n_fspath : nsIn (KK w) mainGlobals (Str.ofString "fspath") = some (some (.ref 101)) := by kernel_rfl
theorem k_fspath : keepIn (KK w) (.ref 101) = true := by kernel_rfl
theorem n_commonprefix : nsIn (KK w) mainGlobals (Str.ofString "commonprefix") = some (some (.ref 108)) := by kernel_rfl
theorem k_commonprefix : keepIn (KK w) (.ref 108) = true := by kernel_rfl
theorem n_get_sep : nsIn (KK w) mainGlobals (Str.ofString "_get_sep") = some (some (.ref 122)) := by kernel_rfl
theorem k_get_sep : keepIn (KK w) (.ref 122) = true := by kernel_rfl
theorem n_join : nsIn (KK w) mainGlobals (Str.ofString "join") = some (some (.ref 129)) := by kernel_rfl
theorem k_join : keepIn (KK w) (.ref 129) = true := by kernel_rfl
theorem n_split : nsIn (KK w) mainGlobals (Str.ofString "split") = some (some (.ref 136)) := by kernel_rfl
theorem k_split : keepIn (KK w) (.ref 136) = true := by kernel_rfl
theorem n_splitroot : nsIn (KK w) mainGlobals (Str.ofString "splitroot") = some (some (.ref 143)) := by kernel_rfl
theorem k_splitroot : keepIn (KK w) (.ref 143) = true := by kernel_rfl
theorem n_dirname : nsIn (KK w) mainGlobals (Str.ofString "dirname") = some (some (.ref 150)) := by kernel_rfl
theorem k_dirname : keepIn (KK w) (.ref 150) = true := by kernel_rfl
theorem n_normpath : nsIn (KK w) mainGlobals (Str.ofString "normpath") = some (some (.ref 157)) := by kernel_rfl
theorem k_normpath : keepIn (KK w) (.ref 157) = true := by kernel_rfl
theorem n_abspath : nsIn (KK w) mainGlobals (Str.ofString "abspath") = some (some (.ref 164)) := by kernel_rfl
theorem k_abspath : keepIn (KK w) (.ref 164) = true := by kernel_rfl
theorem n_relpath : nsIn (KK w) mainGlobals (Str.ofString "relpath") = some (some (.ref 172)) := by kernel_rfl
theorem k_relpath : keepIn (KK w) (.ref 172) = true := by kernel_rfl
theorem n_commonpath : nsIn (KK w) mainGlobals (Str.ofString "commonpath") = some (some (.ref 177)) := by kernel_rfl
theorem k_commonpath : keepIn (KK w) (.ref 177) = true := by kernel_rfl
theorem n_law_texts : nsIn (KK w) mainGlobals (Str.ofString "_law_texts") = some (some (.ref 182)) := by kernel_rfl
theorem k_law_texts : keepIn (KK w) (.ref 182) = true := by kernel_rfl
theorem n_law_safe : nsIn (KK w) mainGlobals (Str.ofString "_law_safe") = some (some (.ref 189)) := by kernel_rfl
theorem k_law_safe : keepIn (KK w) (.ref 189) = true := by kernel_rfl
theorem n_law_climb : nsIn (KK w) mainGlobals (Str.ofString "_law_climb") = some (some (.ref 196)) := by kernel_rfl
theorem k_law_climb : keepIn (KK w) (.ref 196) = true := by kernel_rfl
theorem n_law_stack : nsIn (KK w) mainGlobals (Str.ofString "_law_stack") = some (some (.ref 203)) := by kernel_rfl
theorem k_law_stack : keepIn (KK w) (.ref 203) = true := by kernel_rfl
theorem n_law_shared : nsIn (KK w) mainGlobals (Str.ofString "_law_shared") = some (some (.ref 210)) := by kernel_rfl
theorem k_law_shared : keepIn (KK w) (.ref 210) = true := by kernel_rfl
theorem n_law_common : nsIn (KK w) mainGlobals (Str.ofString "_law_common") = some (some (.ref 217)) := by kernel_rfl
theorem k_law_common : keepIn (KK w) (.ref 217) = true := by kernel_rfl
theorem n_type : nsIn (KK w) mainGlobals (Str.ofString "type") = some none := by kernel_rfl
theorem n_issubclass : nsIn (KK w) mainGlobals (Str.ofString "issubclass") = some none := by kernel_rfl
theorem n_isinstance : nsIn (KK w) mainGlobals (Str.ofString "isinstance") = some none := by kernel_rfl
theorem n_str : nsIn (KK w) mainGlobals (Str.ofString "str") = some none := by kernel_rfl
theorem n_bytes : nsIn (KK w) mainGlobals (Str.ofString "bytes") = some none := by kernel_rfl
theorem n_len : nsIn (KK w) mainGlobals (Str.ofString "len") = some none := by kernel_rfl
theorem n_min : nsIn (KK w) mainGlobals (Str.ofString "min") = some none := by kernel_rfl
theorem n_max : nsIn (KK w) mainGlobals (Str.ofString "max") = some none := by kernel_rfl
theorem n_tuple : nsIn (KK w) mainGlobals (Str.ofString "tuple") = some none := by kernel_rfl
theorem n_map : nsIn (KK w) mainGlobals (Str.ofString "map") = some none := by kernel_rfl
theorem n_list : nsIn (KK w) mainGlobals (Str.ofString "list") = some none := by kernel_rfl
theorem n_enumerate : nsIn (KK w) mainGlobals (Str.ofString "enumerate") = some none := by kernel_rfl
theorem n_filter : nsIn (KK w) mainGlobals (Str.ofString "filter") = some none := by kernel_rfl
theorem n_range : nsIn (KK w) mainGlobals (Str.ofString "range") = some none := by kernel_rfl
theorem n_sum : nsIn (KK w) mainGlobals (Str.ofString "sum") = some none := by kernel_rfl
theorem n_abs : nsIn (KK w) mainGlobals (Str.ofString "abs") = some none := by kernel_rfl
theorem n_zip : nsIn (KK w) mainGlobals (Str.ofString "zip") = some none := by kernel_rfl
end
end Mine

end
section
open PySem PySem.W PySem.Calls PyProof.Rows
set_option Elab.async false
set_option autoImplicit false
set_option maxRecDepth 100000
set_option maxHeartbeats 4000000
set_option linter.unusedVariables false
set_option rowWalk.seconds 0
set_option pp.maxSteps 600
namespace Mine
section
variable {prog : Program} {w : World} {mg mb : Str → Option Value} {s₀ s : Shared} {g : Heap} {L : Addr} {lo : List (Str × Value)} {led : List (Addr × Ent)} {A : Around} {E : Value → Shared → Prop} {Q : Value → Shared → Prop} {x : Str} {t : Tok}
theorem isiB_ (H : St w mg mb s₀ g L lo led s) (h : ∀ s', St w mg mb s₀ g L lo led s' → Q (.bool false) s') :
    wpAny (model prog w) A (call (.builtin "isinstance") [.str x t, .type "bytes"]) Q E s := by
  walk1
  exact h _ (H.toks (Nat.le_succ_of_le H.tk))
theorem type_ (h : Q (.type "str") s) : wpAny (model prog w) A (call (.type "type") [.str x t]) Q E s := by
  walk1
  exact h
end
section
variable {prog : Program} {w : World} {s : Shared} {A : Around} {E : Value → Shared → Prop} {Q : Value → Shared → Prop} {tp : Addr}
theorem sub_tt : isSubtype (.type "tuple") (.type "tuple") = pure true := by rw [isSubtype_type]; kernel_rfl
theorem sub_ss : isSubtype (.type "str") (.type "str") = pure true := by rw [isSubtype_type]; kernel_rfl
theorem isn_kind : builtinKind "issubclass.nested" = none := by decide +kernel
theorem isn_plain : plainId "issubclass.nested" = true := by decide +kernel
theorem isn_args (a b c : Value) : argsOk "issubclass.nested" ⟨[a, b, c], []⟩ := by unfold argsOk; kernel_rfl
theorem issubS_ (h : Q (.bool true) s) {i : Int} : wpAny (model prog w) A (call (.builtin "issubclass.nested") [.type "str", .type "str", rawInt i]) Q E s := by
  refine call_function_entry isn_kind isn_plain F.entry_issubclass_nested (isn_args _ _ _) ?_
  repeat (any_goals (first | assumption | (rw [sub_ss]) | wp_step))
  exact ⟨_, rfl, h⟩
theorem issubP_ (ht : s.heap.get? tp = some (tupO [.type "str", .type "bytes"])) (h : Q (.bool true) s) :
    wpAny (model prog w) A (call (.builtin "issubclass") [.type "str", .ref tp]) Q E s := by
  refine call_issubclass (S := fun _ R s => s.heap.get? tp = some (tupO [.type "str", .type "bytes"]) ∧ R (.ok (.ret (.bool true))) s) (fun _ _ _ _ _ hs => issubclass_outer ?_) ⟨ht, h⟩
  obtain ⟨ht', hq⟩ := hs
  repeat (any_goals (first | assumption | wp_step))
  rw [show (tupO [Value.type "str", Value.type "bytes"]).cls = .type "tuple" from rfl, sub_tt]
  repeat (any_goals (first | assumption | ((with_reducible show wpAny _ _ (call (Value.builtin "issubclass.nested") _ _) _ _ _); refine issubS_ ?_) | wp_step))
end

end Mine

end
section
open PySem PySem.W PySem.Calls PyProof.Rows
set_option Elab.async false
set_option autoImplicit false
set_option maxRecDepth 100000
set_option maxHeartbeats 4000000
set_option linter.unusedVariables false
set_option rowWalk.seconds 0
set_option pp.maxSteps 600
namespace Mine
section
variable {prog : Program} {w : World} {mg mb : Str → Option Value} {s : Shared} {A : Around} {E : Value → Shared → Prop} {Q : Value → Shared → Prop} {k : Nat}
  {name qual : Str} {params : Arguments} {body : List Stmt} {scope : Scope} {dV kV doc pm cdv ct oc : Value} {an od : Option Addr} {osl : Array (Option Value)} {f : Addr} {vs ps : List Value} {binds : Value → List (Str × Value)}

theorem enterV_ (C : Cx w mg mb s.heap) (hr : Room A (k + 1)) (ht : 1 ≤ s.toks)
    (ho : (KK w).lookup f = some ⟨oc, od, .func (fnOf name qual params body scope dV kV doc pm an cdv ct), osl⟩)
    (hcd : codeIn (KK w) cdv qual = true) (hz : ps.length ≤ sizeLine)
    (hbind : bindArgs (fnOf name qual params body scope dV kV doc pm an cdv ct) ⟨vs, []⟩ = (newTuple ps >>= fun t => pure (binds t)))
    (hloc : ∀ a, ((binds (.ref a)).all fun x => decide (scope.names.lookup x.1 = some .local)) = true) {lo : Addr → List (Str × Value)} (hlo : ∀ a, (binds (.ref a)).reverse = lo a)
    (h : ∀ a g L s', (∀ b o, s.heap.get? b = some o → g.get? b = some o) → s.heap.get? a = none → g.get? a = some (tupO ps) → St w mg mb s g L (lo a) [] s' → Room (A.deeper (envOf qual scope L f cdv)) k →
      wpAny (model prog w) (A.deeper (envOf qual scope L f cdv)) (execs body (envOf qual scope L f cdv))
        (fun fl s' => Q (match fl with | .ret v => v | _ => .none) s') (fun _ _ => False) s')
    (hcell : ∀ x ∈ scope.names, x.2 ≠ .cell) (hco : scope.isCoroutine = false) (hgen : scope.isGenerator = false) (hk : scope.kind = .function) :
    wpAny (model prog w) A (call (.ref f) vs) Q E s := by
  refine wpAny_call (codeAny_call_function (fd := fnOf name qual params body scope dV kV doc pm an cdv ct) (body := body) hr.lim (C.X _ _ ho) rfl hco hgen rfl (codeRec_of C.X hcd) ?_)
  rw [hbind]
  have hk₀ : ∀ b o, s.heap.get? b = some o → (s.heap.push (tupO ps)).get? b = some o := fun b o e => Heap.get?_push_of_some _ e
  refine wpAny_bind (wpAny_newObj_type (wpAny_pure ?_) (by show ps.toArray.size ≤ sizeLine; rw [List.size_toArray]; exact hz))
  show wpAny _ _ (newFunctionEnv _ _ _ (binds (.ref s.heap.objs.size)) _ _ _ _ _) _ _ _
  refine wpAny_newFunctionEnv hcell (locs (hloc _)) (fun h₁ hns hsb => ⟨(C.T.nolimit.keeps hk₀).fresh _ hsb, codeAny_func ?_⟩) hk
  have hk₁ : ∀ b o, (s.heap.push (tupO ps)).get? b = some o → h₁.get? b = some o := fun b o e => hsb.extBut b o (Nat.ne_of_lt (Heap.lt_size e)) (Heap.get?_push_of_some _ e)
  have hfr : ∀ (h : Heap), h.get? h.objs.size = none := fun h => by
    cases e : h.get? h.objs.size with
    | none => rfl
    | some o => exact absurd (Heap.lt_size e) (Nat.lt_irrefl _)
  refine wpAny_mono (h s.heap.objs.size (s.heap.push (tupO ps)) _ _ hk₀ (hfr _) (Heap.get?_push_size _ rfl)
    ⟨⟨⟨_, hns, fun x v e => by rw [← hlo] at e; exact e⟩, hk₁, hfr _, (fun _ hp => nomatch hp), List.Pairwise.nil⟩, C.keeps hk₀, ⟨_, _, rfl⟩, Nat.le_trans ht (Nat.le_add_right _ _), hk₀⟩ hr.deeper) (fun fl s' hl => hl) fun _ _ e => e.elim
end

theorem Try_ {M : Model} {A : Around} {s : Shared} {env : Env} {body orelse : List Stmt} {h₀ : ExceptHandler} {hs : List ExceptHandler} {pos : Pos} {Q : Flow → Shared → Prop} {E : Value → Shared → Prop}
    (h : wpAny M A (execs body env) (fun f s' => match f with | .next => wpAny M A (execs orelse env) Q E s' | f => Q f s') (fun _ _ => False) s) :
    wpAny M A (exec (.Try body (h₀ :: hs) orelse [] pos) env) Q E s := by
  rw [arm_exec_Try]
  refine wpAny_bind (wpAny_standAt (wpAny_tryStmt_except (wpAny_mono h (fun f s₁ h₁ => ?_) fun _ _ e => e.elim)))
  cases f <;> exact h₁

section
variable {prog : Program} {w : World} {mg mb : Str → Option Value} {s₀ s : Shared} {g : Heap} {L : Addr} {lo : List (Str × Value)} {led : List (Addr × Ent)} {A : Around} {Q : Flow → Shared → Prop}
  {env : Env} {target : Expr} {body : List Stmt}
theorem forT_ {l : Addr} {vs : List Value} (hh : A.handled = none) (H : St w mg mb s₀ g L lo led s) (hl : g.get? l = some (tupO vs))
    (Inv : Nat → List (Str × Value) → List (Addr × Ent) → Prop) (h0 : Inv 0 lo led)
    (turn : ∀ i v lo₁ led₁ its s₁, vs[i]? = some v → Inv i lo₁ led₁ → St w mg mb s₀ g L lo₁ (led₁ ++ its) s₁ →
      wpAny (model prog w) A (assign target env v) (fun _ s₂ => wpAny (model prog w) A (execs body env) (fun f s₃ => match f with
        | .next | .cont => ∃ lo₃ led₃, Inv (i + 1) lo₃ led₃ ∧ St w mg mb s₀ g L lo₃ (led₃ ++ its) s₃
        | .brk => Q .next s₃
        | .ret v => Q (.ret v) s₃) (fun _ _ => False) s₂) (fun _ _ => False) s₁)
    (done : ∀ lo₁ led₁ s₁, Inv vs.length lo₁ led₁ → St w mg mb s₀ g L lo₁ led₁ s₁ → Q .next s₁)
    (ht : ∀ I v, letOwnedTupleGo target (.ref I) v = pure () := by intro _ _; rfl) :
    wpAny (model prog w) A (pyIter (.ref l)) (fun it s₂ => codeAny (model prog w) A (.forLoop target it body [] env) (fun r s' => match r with | .ok f => Q f s' | .error _ => False) s₂) (fun _ _ => False) s := by
  have hls : s.heap.IsTuple l vs.toArray := ⟨_, H.fs.keep _ _ hl, rfl, _, rfl⟩
  obtain ⟨f1, f2, f3⟩ := H.fresh
  have hne : l ≠ s.heap.objs.size := Nat.ne_of_lt (Heap.lt_size (H.fs.keep _ _ hl))
  refine wpAny_pyIter_tuple hls ?_
  have W := Walks.tuple (prog := prog) (w := w) hh s.heap.objs.size l hne vs.toArray
  have H' : St w mg mb s₀ g L lo led { s with heap := s.heap.push { cls := .type "tuple_iterator", data := .fields #[.ref l, .int 0 0] } } := H.moved ⟨_, _, rfl, fun b o e => Heap.get?_push_of_some _ e⟩ H.tk
  refine forW_ W (by simp) ?_ ?_ ?_ Inv H' h0 ?_ ⟨⟨_, Heap.get?_push_size _ rfl, rfl, rfl⟩, hls.at fun o e => Heap.get?_push_of_some _ e⟩ ?_ ?_ (ht _)
  · intro b hb
    rw [List.mem_singleton.mp hb]; exact ⟨f1, f2⟩
  · intro b hb
    rcases List.mem_cons.mp hb with rfl | hb
    · exact .inl (.head _)
    · rw [List.mem_singleton.mp hb]; exact .inr ⟨_, hl⟩
  · intro i h hst b hb
    rw [List.mem_singleton.mp hb]
    obtain ⟨o, ho, _⟩ := hst.1; exact ⟨o, ho⟩
  · intro p hp hm
    rw [List.mem_singleton] at hm
    exact f3 (List.mem_map.mpr ⟨p, hp, hm⟩)
  · intro i v lo₁ led₁ its s₁ _ hP hI H₁
    exact turn i v lo₁ led₁ its s₁ (by simpa using hP) hI H₁
  · intro lo₁ led₁ s₁ hI H₁
    exact done lo₁ led₁ s₁ (by simpa using hI) H₁
end

end Mine

end
section
open PySem PySem.W PySem.Calls PyProof.Rows
set_option Elab.async false
set_option autoImplicit false
set_option maxRecDepth 100000
set_option maxHeartbeats 4000000
set_option linter.unusedVariables false
set_option rowWalk.seconds 0
set_option pp.maxSteps 600
namespace Mine
section
variable {prog : Program} {w : World} {mg mb : Str → Option Value} {s₀ s : Shared} {g : Heap} {L : Addr} {lo lo' : List (Str × Value)} {led led' : List (Addr × Ent)} {A : Around} {E : Value → Shared → Prop}
  {x y z : Str} {t u v : Tok} {a b : Int} {Q : Value → Shared → Prop} {env : Env} {kk : Nat} {pos : Pos} {l l2 : Addr} {vs us : List Value}
open Builtin.Str in
theorem split1_ (H : St w mg mb s₀ g L lo led s) (hy : (y.length == 0) = false) (hz : x.length ≤ 1000000)
    (h : ∀ (ps : List (Str × Tok)) D s', ps.map (·.1) = Txt.split x y → St w mg mb s₀ g L lo ((D, .lst (strValues ps)) :: led) s' → Q (.ref D) s') :
    wpAny (model prog w) A (call (.builtin "str.split") [.str x t, .str y u]) Q E s := by
  have hp : ∀ (ps : List (Str × Tok)) k, 1 ≤ k → ps.map (·.1) = Txt.split x y → Q (.ref s.heap.objs.size) { s with heap := s.heap.push { cls := .type "list", data := .seq (strValues ps).toArray }, toks := k } :=
    fun ps k hk e => h ps _ _ e (H.pushed _ (.lst (strValues ps)) ⟨0, Heap.get?_push_size _ rfl⟩ _ hk)
  have hsz2 : (partsBetween x (occurrences x y 0 x.length (x.length + 1)) y.length).length ≤ sizeLine := by
    rw [length_partsBetween]
    have := StrLaws.occ_length_le x y 0 x.length (x.length + 1)
    have e : sizeLine = 16777216 := rfl
    exact Mine.lc [x.length, (occurrences x y 0 x.length (x.length + 1)).length, sizeLine] [(1, .v 0, .n 1000000), (1, .v 1, .a (.v 0) (.n 1)), (1, .n 16777216, .v 2)] (1, .a (.v 1) (.n 1), .v 2) rfl hz this (Nat.le_of_eq (e).symm)
  cases h1 : (decide (x.length < y.length) || decide (strKind x < strKind y))
  · cases hf : (occurrences x y 0 x.length (x.length + 1)).isEmpty
    · refine call_meets F.slot_str_split (typeIs_str _ _ _) F.entry_str_split (F.args_str_split_2 _ _) (meets_str_split_sep x y t u h1 hy hf (Nat.le_trans hz (Nat.le_of_ble_eq_true rfl)) hsz2) ?_
      show wants Q E _ { s with toks := _, heap := s.heap.push { cls := .type "list", data := .seq (strsFrom s.toks (partsBetween x (occurrences x y 0 x.length (x.length + 1)) y.length)).toArray } }
      rw [strsFrom_eq]
      exact hp (numbered s.toks _) _ (by have := H.tk; exact Mine.lc [s.toks, (partsBetween x (occurrences x y 0 x.length (x.length + 1)) y.length).length] [(1, .n 1, .v 0)] (1, .n 1, .a (.v 0) (.v 1)) rfl this) ((numbered_texts _ _).trans ((if_neg (ne_true_of_eq_false h1)).trans (if_neg (ne_true_of_eq_false hf))).symm)
    · exact call_meets F.slot_str_split (typeIs_str _ _ _) F.entry_str_split (F.args_str_split_2 _ _) (meets_str_split_not_found x y t u h1 hy hf)
        (hp [(x, t)] _ H.tk ((if_neg (ne_true_of_eq_false h1)).trans (if_pos hf)).symm)
  · exact call_meets F.slot_str_split (typeIs_str _ _ _) F.entry_str_split (F.args_str_split_2 _ _) (meets_str_split_cannot_occur x y t u h1)
      (hp [(x, t)] _ H.tk (if_pos h1).symm)

theorem mapSeq_plain (f : Array Value → Array Value) (its : Array Value) (n : Nat) : ∃ m, Obj.mapSeq f { cls := .type "list", data := .seq its n } = { cls := .type "list", data := .seq (f its) m } := ⟨_, rfl⟩
theorem pop_ {a : Value} (H : St w mg mb s₀ g L lo led s) (U : UpdE l (.lst (vs ++ [a])) (.lst vs) led led') (hz : vs.length < sizeLine)
    (h : ∀ s', St w mg mb s₀ g L lo led' s' → Q a s') : wpAny (model prog w) A (call (.builtin "list.pop") [.ref l]) Q E s := by
  obtain ⟨n, ho⟩ := H.pl U.mem
  refine call_meets F.slot_list_pop ⟨_, ho, rfl⟩ F.entry_list_pop (F.args_list_pop_1 _) (MeetsSeq.list_pop_last l _ n a (by simp) (by simp; exact Mine.lc [vs.length, sizeLine] [(1, .a (.v 0) (.n 1), .v 1)] (1, .a (.v 0) (.n 1), .v 1) rfl hz)) ⟨ho, ?_⟩
  refine h _ (H.turned U ?_ (Heap.SameBut.update ..) H.tk)
  obtain ⟨m, e⟩ := mapSeq_plain (fun xs => xs.eraseIdxIfInBounds ((vs ++ [a]).toArray.size - 1)) (vs ++ [a]).toArray n
  refine ⟨m, ?_⟩
  rw [Heap.get?_update_self _ ho (by rw [e]; rfl), e]
  have : (vs ++ [a]).toArray.eraseIdxIfInBounds ((vs ++ [a]).toArray.size - 1) = vs.toArray := by
    simp [Array.eraseIdxIfInBounds, List.eraseIdx_append_of_length_le]
  rw [this]

theorem addl_ (H : St w mg mb s₀ g L lo led s) (h1 : s.heap.PlainList l vs.toArray) (h2 : s.heap.PlainList l2 us.toArray) (hz : vs.length + us.length ≤ sizeLine)
    (h : ∀ D s', St w mg mb s₀ g L lo ((D, .lst (vs ++ us)) :: led) s' → Q (.ref D) s') : wpAny (model prog w) A (binaryOp .Add (.ref l) (.ref l2)) Q E s := by
  obtain ⟨n1, h1⟩ := h1
  obtain ⟨n2, h2⟩ := h2
  refine PySem.P.add_list h1 h2 (h _ _ (H.pushed _ (.lst (vs ++ us)) ⟨0, ?_⟩ _ H.tk)) (by simpa using hz)
  rw [show vs.toArray ++ us.toArray = (vs ++ us).toArray from by simp]
  exact Heap.get?_push_size _ rfl
theorem fold_rep (v : Value) : ∀ (n : Nat) (a : Array Value), List.foldl (fun x1 x2 => x1 ++ x2) a (List.replicate n #[v]) = a ++ (List.replicate n v).toArray
  | 0, a => by simp
  | n + 1, a => by
    rw [List.replicate_succ, List.foldl_cons, fold_rep v n, Array.append_assoc]
    congr 1
    simp [List.replicate_succ]
theorem mulg_ {items : Array Value} {k : Nat} {x : Int}
    (hl : s.heap.get? l = some { cls := .type "list", dict := none, data := .seq items k, slots := #[] })
    (hlo : -(2 ^ 63 : Int) ≤ x) (hhi : x < 2 ^ 63) (hsz : items.size * x.toNat ≤ 2 ^ 24)
    (h : Q (.ref s.heap.objs.size) { s with heap := s.heap.push { cls := .type "list", data := .seq (List.foldl (fun x1 x2 => x1 ++ x2) #[] (List.replicate (if items.isEmpty = true then 0 else x.toNat) items)) } }) :
    wpAny (model prog w) A (binaryOp .Mult (.ref l) (.int x u)) Q E s :=
  wpAny_binaryOp_repeat_ref (T := "list") (U := "int") (by decide) ⟨_, hl, rfl⟩ (fun s' => typeIs_int s' x u) noFill_list_mul F.fills_int_mul F.slot_int_rmul repeat_list F.slot_int_index.lookup
    (call_meets F.slot_int_rmul (typeIs_int s x u) F.entry_int_rmul (F.args_int_rmul_2 _ _) (int___rmul___int_list x u l items k)
      ⟨hl, rfl, ⟨_, hl, rfl⟩, call_meets F.slot_list_mul ⟨_, hl, rfl⟩ F.entry_list_mul (F.args_list_mul_2 _ _)
        (AutoListH.list___mul___list_int_3 l items k x u (by simp [Builtin.List.listFitsIndex]; omega) (by omega) (by simp [Builtin.List.listTooLong, sizeLine]; omega))
        ⟨hl, h⟩⟩)
theorem mull_ {v : Value} {n : Nat} (H : St w mg mb s₀ g L lo led s) (hl : s.heap.PlainList l [v].toArray) (ha : a = n) (hz : n ≤ 1000000)
    (h : ∀ D s', St w mg mb s₀ g L lo ((D, .lst (List.replicate n v)) :: led) s' → Q (.ref D) s') : wpAny (model prog w) A (binaryOp .Mult (.ref l) (.int a u)) Q E s := by
  obtain ⟨k, hl⟩ := hl
  have f0 : a.toNat = n := by omega
  have f2 : [v].toArray.size = 1 := rfl
  refine mulg_ hl (by omega) (by omega) (by rw [f2, f0]; omega) ?_
  have e1 : (if [v].toArray.isEmpty = true then 0 else a.toNat) = n := by rw [f0]; rfl
  rw [e1, show [v].toArray = #[v] from rfl, fold_rep, Array.empty_append]
  exact h _ _ (H.pushed { cls := .type "list", data := .seq (List.replicate n v).toArray } (.lst (List.replicate n v)) ⟨0, Heap.get?_push_size _ rfl⟩ _ H.tk)
end

end Mine

end
section
open PySem PyProof.Rows
set_option autoImplicit false
set_option linter.unusedVariables false
set_option maxRecDepth 100000
namespace Mine

noncomputable abbrev S (l : List Nat) : Str := ⟨l.toArray⟩
theorem S_T (x : Str) : S x.cps.toList = x := by cases x; simp [S]
theorem S_len (l : List Nat) : (S l).length = l.length := by simp [Str.length]
theorem S_toList (l : List Nat) : (S l).cps.toList = l := by simp
theorem S_inj {a b : List Nat} (h : S a = S b) : a = b := by simpa [S] using h
theorem S_app (a b : List Nat) : S a ++ S b = S (a ++ b) := Str.ext' (by simp [S, Str.cps_append])
theorem S_of {x : Str} {l : List Nat} (h : x.cps.toList = l) : x = S l := by rw [← h, S_T]

noncomputable def sp (c : Nat) : List Nat → List (List Nat)
  | [] => [[]]
  | a :: r => if a = c then [] :: sp c r else match sp c r with | [] => [[a]] | p :: ps => (a :: p) :: ps
noncomputable def inter (z : List Nat) : List (List Nat) → List Nat
  | [] => []
  | [p] => p
  | p :: q :: r => p ++ (z ++ inter z (q :: r))

theorem sp_cons (c a : Nat) (r : List Nat) : sp c (a :: r) = if a = c then [] :: sp c r else match sp c r with | [] => [[a]] | p :: ps => (a :: p) :: ps := rfl
theorem inter_cons (z p : List Nat) {r : List (List Nat)} (h : r ≠ []) : inter z (p :: r) = p ++ (z ++ inter z r) := by
  cases r with
  | nil => exact absurd rfl h
  | cons q r => rfl
theorem sp_ne (c : Nat) (l : List Nat) : sp c l ≠ [] := by
  cases l with
  | nil => simp [sp]
  | cons a r =>
    unfold sp
    split
    · simp
    · split <;> simp
theorem inter_sp (c : Nat) : ∀ l : List Nat, inter [c] (sp c l) = l
  | [] => rfl
  | a :: r => by
    have ih := inter_sp c r
    unfold sp
    split
    · rename_i h; subst h
      rw [inter_cons _ _ (sp_ne a r), ih]; rfl
    · cases hs : sp c r with
      | nil => exact absurd hs (sp_ne c r)
      | cons p ps =>
        rw [hs] at ih
        cases ps with
        | nil => simp only [inter] at ih ⊢; rw [ih]
        | cons q qs => simp only [inter] at ih ⊢; rw [← ih]; rfl
theorem sp_free (c : Nat) : ∀ l : List Nat, ∀ p ∈ sp c l, c ∉ p
  | [], p, hp => by simp [sp] at hp; subst hp; simp
  | a :: r, p, hp => by
    have ih := sp_free c r
    unfold sp at hp
    split at hp
    · rcases List.mem_cons.mp hp with rfl | hp
      · simp
      · exact ih p hp
    · rename_i h
      cases hs : sp c r with
      | nil => exact absurd hs (sp_ne c r)
      | cons q qs =>
        rw [hs] at hp ih
        rcases List.mem_cons.mp hp with rfl | hp
        · intro hm
          rcases List.mem_cons.mp hm with rfl | hm
          · exact h rfl
          · exact ih q (.head _) hm
        · exact ih p (.tail _ hp)
theorem sp_app_free {c : Nat} : ∀ {p : List Nat}, c ∉ p → ∀ r, sp c (p ++ c :: r) = p :: sp c r
  | [], _, r => by simp [sp]
  | a :: p, h, r => by
    have h1 : a ≠ c := fun e => h (e ▸ .head _)
    have h2 : c ∉ p := fun e => h (.tail _ e)
    show sp c (a :: (p ++ c :: r)) = _
    rw [sp_cons, if_neg h1, sp_app_free h2 r]
theorem sp_of_free {c : Nat} : ∀ {p : List Nat}, c ∉ p → sp c p = [p]
  | [], _ => rfl
  | a :: p, h => by
    have h1 : a ≠ c := fun e => h (e ▸ .head _)
    have h2 : c ∉ p := fun e => h (.tail _ e)
    rw [sp_cons, if_neg h1, sp_of_free h2]
theorem sp_inter {c : Nat} : ∀ {ps : List (List Nat)}, ps ≠ [] → (∀ p ∈ ps, c ∉ p) → sp c (inter [c] ps) = ps
  | [], h, _ => absurd rfl h
  | [p], _, h => by rw [inter]; exact sp_of_free (h p (.head _))
  | p :: q :: r, _, h => by
    show sp c (p ++ ([c] ++ inter [c] (q :: r))) = _
    rw [show p ++ ([c] ++ inter [c] (q :: r)) = p ++ c :: inter [c] (q :: r) from by simp, sp_app_free (h p (.head _)), sp_inter (by simp) fun x hx => h x (.tail _ hx)]

theorem join_S (z : List Nat) : ∀ ps : List (List Nat), Str.join (S z) (ps.map S) = S (inter z ps)
  | [] => rfl
  | [p] => rfl
  | p :: q :: r => by
    show S p ++ S z ++ Str.join (S z) ((q :: r).map S) = _
    rw [join_S z (q :: r), S_app, S_app]
    simp [inter]
theorem map_S_T (l : List Str) : (l.map (·.cps.toList)).map S = l := by
  rw [List.map_map]
  conv => rhs; rw [← List.map_id l]
  exact List.map_congr_left fun x _ => S_T x
theorem txtJoin_S (z : List Nat) (ps : List (List Nat)) : Txt.join (S z) (ps.map S) = S (inter z ps) := by
  unfold Txt.join
  rw [StrLaws.glued_eq_join]; exact join_S z ps

theorem partsBetween_ne (x : Str) (cuts : List Nat) (w : Nat) : Builtin.Str.partsBetween x cuts w ≠ [] := by
  rw [StrLaws.partsBetween_eq]
  obtain ⟨p, r, h⟩ := StrLaws.partsFrom_ne x w 0 cuts
  rw [h]; simp
theorem split_ne (x y : Str) : Txt.split x y ≠ [] := by
  unfold Txt.split
  split
  · simp
  · split
    · simp
    · exact partsBetween_ne _ _ _
theorem split_S (l : List Nat) (c : Nat) : Txt.split (S l) (S [c]) = (sp c l).map S := by
  have h1 := StrLaws.join_split (S l) (S [c])
  have h2 : ∀ p ∈ Txt.split (S l) (S [c]), c ∉ p.cps.toList := StrLaws.split_free (S l) c
  have h3 := split_ne (S l) (S [c])
  rw [← map_S_T (Txt.split (S l) (S [c]))] at h1 ⊢
  rw [join_S] at h1
  have h4 := S_inj h1
  have h5 := sp_inter (c := c) (ps := (Txt.split (S l) (S [c])).map (·.cps.toList)) (by simpa using h3) (by
    intro p hp
    obtain ⟨q, hq, rfl⟩ := List.mem_map.mp hp
    exact h2 q hq)
  rw [h4] at h5
  rw [h5]

theorem inter_map (c d : Nat) : ∀ l : List Nat, inter [d] (sp c l) = l.map fun a => if a = c then d else a
  | [] => rfl
  | a :: r => by
    have ih := inter_map c d r
    unfold sp
    split
    · rename_i h; subst h
      rw [inter_cons _ _ (sp_ne a r), ih]; simp
    · rename_i h
      cases hs : sp c r with
      | nil => exact absurd hs (sp_ne c r)
      | cons p ps =>
        rw [hs] at ih
        cases ps with
        | nil => simp only [inter] at ih ⊢; simp [h, ih]
        | cons q qs => simp only [inter] at ih ⊢; simp [h, ← ih]
theorem replace1_S (l : List Nat) (c d : Nat) : Txt.replace (S l) (S [c]) (S [d]) = S (l.map fun a => if a = c then d else a) := by
  have := StrLaws.replace_one (S l) (S [d]) c
  rw [show (⟨#[c]⟩ : Str) = S [c] from rfl] at this
  rw [this, split_S, join_S, inter_map]

/-! replacing a longer text -/
noncomputable def rp (y z : List Nat) : Nat → List Nat → List Nat
  | 0, l => l
  | n + 1, l => if y <+: l then z ++ rp y z n (l.drop y.length) else match l with | [] => [] | a :: r => a :: rp y z n r

theorem rp_succ (y z l : List Nat) (n : Nat) : rp y z (n + 1) l = if y <+: l then z ++ rp y z n (l.drop y.length) else match l with | [] => [] | a :: r => a :: rp y z n r := rfl
theorem rp_nil (y z : List Nat) (hy : y ≠ []) (n : Nat) : rp y z n [] = [] := by
  cases n with
  | zero => rfl
  | succ n => rw [rp_succ, if_neg (by intro h; exact hy (List.prefix_nil.mp h))]
theorem at_iff (l y : List Nat) (i : Nat) : StrLaws.At (S l) (S y) l.length i ↔ (i ≤ l.length ∧ y <+: l.drop i) := by
  unfold StrLaws.At
  rw [StrLaws.subAt_eq, S_len, S_toList, S_toList, beq_iff_eq]
  constructor
  · rintro ⟨h, e⟩
    exact ⟨by exact Mine.lc [i, y.length, l.length] [(1, .a (.v 0) (.v 1), .v 2)] (1, .v 0, .v 2) rfl h, e ▸ List.take_prefix _ _⟩
  · rintro ⟨h, t, ht⟩
    have hl := congrArg List.length ht
    rw [List.length_append, List.length_drop] at hl
    refine ⟨by exact Mine.lc [y.length, t.length, l.length - i, i, l.length] [(1, .a (.v 0) (.v 1), .v 2), (1, .a (.v 2) (.v 3), .v 4)] (1, .a (.v 3) (.v 0), .v 4) rfl (Nat.le_of_eq hl) (Nat.le_of_eq (Nat.sub_add_cancel (show i ≤ l.length from Mine.lc [i, l.length] [(1, .v 0, .v 1)] (1, .v 0, .v 1) rfl h))), ?_⟩
    rw [← ht]; simp

theorem strSub_S (l : List Nat) (i j : Nat) : Builtin.Str.strSub (S l) i j = S ((l.drop i).take (j - i)) :=
  S_of (by rw [StrLaws.strSub_toList, S_toList])

theorem rp_copy (y z : List Nat) : ∀ (d n : Nat) (l : List Nat), d ≤ l.length → d ≤ n → (∀ k, k < d → ¬ y <+: l.drop k) → rp y z n l = l.take d ++ rp y z (n - d) (l.drop d)
  | 0, n, l, _, _, _ => by simp
  | d + 1, 0, l, _, hn, _ => by exact Mine.lcF [d] [(1, .a (.v 0) (.n 1), .n 0)] _ rfl hn
  | d + 1, n + 1, l, hl, hn, h => by
    cases l with
    | nil => simp at hl
    | cons a r =>
      have h0 := h 0 (by exact Mine.lc [d] [] (1, .a (.n 0) (.n 1), .a (.v 0) (.n 1)) rfl)
      simp only [List.drop_zero] at h0
      rw [rp_succ, if_neg h0]
      show a :: rp y z n r = _
      rw [rp_copy y z d n r (by simpa using hl) (by exact Mine.lc [d, n] [(1, .a (.v 0) (.n 1), .a (.v 1) (.n 1))] (1, .v 0, .v 1) rfl hn) fun k hk => by simpa using h (k + 1) (by exact Mine.lc [k, d] [(1, .a (.v 0) (.n 1), .v 1)] (1, .a (.a (.v 0) (.n 1)) (.n 1), .a (.v 1) (.n 1)) rfl hk)]
      simp

theorem rp_enough (y z : List Nat) (hy : y ≠ []) : ∀ (n m : Nat) (l : List Nat), l.length ≤ n → n ≤ m → rp y z m l = rp y z n l
  | 0, m, l, hl, _ => by
    have : l = [] := List.eq_nil_of_length_eq_zero (by exact Nat.le_antisymm (Mine.lc [l.length] [(1, .v 0, .n 0)] (1, .v 0, .n 0) rfl hl) (Mine.lc [l.length] [] (1, .n 0, .v 0) rfl ))
    subst this
    rw [rp_nil y z hy, rp_nil y z hy]
  | n + 1, 0, l, hl, hm => by exact Mine.lcF [n] [(1, .a (.v 0) (.n 1), .n 0)] _ rfl hm
  | n + 1, m + 1, l, hl, hm => by
    rw [rp_succ, rp_succ]
    by_cases h : y <+: l
    · rw [if_pos h, if_pos h, rp_enough y z hy n m _ (by
        have : y.length ≠ 0 := fun e => hy (List.eq_nil_of_length_eq_zero e)
        rw [List.length_drop]; omega) (by exact Mine.lc [n, m] [(1, .a (.v 0) (.n 1), .a (.v 1) (.n 1))] (1, .v 0, .v 1) rfl hm)]
    · rw [if_neg h, if_neg h]
      cases l with
      | nil => rfl
      | cons a r => show a :: _ = a :: _; rw [rp_enough y z hy n m r (by simpa using hl) (by exact Mine.lc [n, m] [(1, .a (.v 0) (.n 1), .a (.v 1) (.n 1))] (1, .v 0, .v 1) rfl hm)]

theorem chain_join (l y z : List Nat) (hy : y ≠ []) : ∀ (cuts : List Nat) (a f : Nat), a ≤ l.length → StrLaws.ChainG (S l) (S y) l.length a cuts f → (∀ k, f ≤ k → ¬ StrLaws.At (S l) (S y) l.length k) →
    Str.join (S z) (StrLaws.partsFrom (S l) y.length a cuts) = S (rp y z (l.length + 1) (l.drop a))
  | [], a, f, ha, hc, hn => by
    have e : f = a := hc
    subst e
    show Builtin.Str.strSub (S l) f (S l).length = _
    rw [strSub_S, S_len]
    congr 2
    have := rp_copy y z (l.drop f).length (l.length + 1) (l.drop f) (Nat.le_refl _) (by rw [List.length_drop]; exact Mine.lc [l.length - f, l.length] [(1, .v 0, .v 1)] (1, .v 0, .a (.v 1) (.n 1)) rfl (Nat.sub_le ( l.length) ( f))) fun k hk hp => hn (f + k) (by exact Mine.lc [f, k] [] (1, .v 0, .a (.v 0) (.v 1)) rfl) ((at_iff l y (f + k)).mpr ⟨by rw [List.length_drop] at hk; exact Mine.lc [k, l.length - f, f, l.length] [(1, .a (.v 0) (.n 1), .v 1), (1, .a (.v 1) (.v 2), .v 3)] (1, .a (.v 2) (.v 0), .v 3) rfl hk (Nat.le_of_eq (Nat.sub_add_cancel (show f ≤ l.length from Mine.lc [f, l.length] [(1, .v 0, .v 1)] (1, .v 0, .v 1) rfl ha))), by rw [List.drop_drop] at hp; exact hp⟩)
    rw [this]
    have e2 : rp y z (l.length + 1 - (l.drop f).length) ((l.drop f).drop (l.drop f).length) = [] := by
      rw [List.drop_length, rp_nil y z hy]
    rw [e2]
    simp
  | c :: r, a, f, ha, hc, hn => by
    obtain ⟨hac, hat, hno, hr⟩ := hc
    obtain ⟨hcl, hpre⟩ := (at_iff l y c).mp hat
    have hlen : c + y.length ≤ l.length := by
      obtain ⟨t, ht⟩ := hpre
      have := congrArg List.length ht
      rw [List.length_append, List.length_drop] at this; exact Mine.lc [y.length, t.length, l.length - c, c, l.length] [(1, .a (.v 0) (.v 1), .v 2), (1, .a (.v 2) (.v 3), .v 4)] (1, .a (.v 3) (.v 0), .v 4) rfl (Nat.le_of_eq this) (Nat.le_of_eq (Nat.sub_add_cancel (show c ≤ l.length from Mine.lc [c, l.length] [(1, .v 0, .v 1)] (1, .v 0, .v 1) rfl hcl)))
    rw [S_len] at hr
    have ih := chain_join l y z hy r (c + y.length) f hlen hr hn
    obtain ⟨p, q, hpq⟩ := StrLaws.partsFrom_ne (S l) y.length (c + y.length) r
    show Str.join (S z) (Builtin.Str.strSub (S l) a c :: StrLaws.partsFrom (S l) y.length (c + y.length) r) = _
    rw [hpq] at ih ⊢
    show Builtin.Str.strSub (S l) a c ++ S z ++ Str.join (S z) (p :: q) = _
    rw [ih, strSub_S, S_app, S_app]
    congr 2
    have h1 := rp_copy y z (c - a) (l.length + 1) (l.drop a) (by rw [List.length_drop]; exact Mine.lc [c, l.length, c - a, a, l.length - a] [(1, .v 0, .v 1), (1, .a (.v 2) (.v 3), .v 0), (1, .v 1, .a (.v 4) (.v 3))] (1, .v 2, .v 4) rfl hcl (Nat.le_of_eq (Nat.sub_add_cancel (show a ≤ c from Mine.lc [a, c] [(1, .v 0, .v 1)] (1, .v 0, .v 1) rfl hac))) (Nat.sub_le_iff_le_add.mp (Nat.le_refl ( l.length - ( a))))) (by exact Mine.lc [c, l.length, c - a] [(1, .v 0, .v 1), (1, .v 2, .v 0)] (1, .v 2, .a (.v 1) (.n 1)) rfl hcl (Nat.sub_le ( c) ( a))) fun k hk hp => hno (a + k) (by exact Mine.lc [a, k] [] (1, .v 0, .a (.v 0) (.v 1)) rfl) (by exact Mine.lc [k, c - a, a, c] [(1, .a (.v 0) (.n 1), .v 1), (1, .a (.v 1) (.v 2), .v 3)] (1, .a (.a (.v 2) (.v 0)) (.n 1), .v 3) rfl hk (Nat.le_of_eq (Nat.sub_add_cancel (show a ≤ c from Mine.lc [a, c] [(1, .v 0, .v 1)] (1, .v 0, .v 1) rfl hac)))) ((at_iff l y (a + k)).mpr ⟨by exact Mine.lc [c, l.length, k, c - a, a] [(1, .v 0, .v 1), (1, .a (.v 2) (.n 1), .v 3), (1, .a (.v 3) (.v 4), .v 0)] (1, .a (.v 4) (.v 2), .v 1) rfl hcl hk (Nat.le_of_eq (Nat.sub_add_cancel (show a ≤ c from Mine.lc [a, c] [(1, .v 0, .v 1)] (1, .v 0, .v 1) rfl hac))), by rw [List.drop_drop] at hp; exact hp⟩)
    have hyl : y.length ≠ 0 := fun e => hy (List.eq_nil_of_length_eq_zero e)
    have e3 := rp_enough y z hy (l.drop (c + y.length)).length (l.length + 1) _ (Nat.le_refl _) (by rw [List.length_drop]; exact Mine.lc [l.length - (c + y.length), l.length] [(1, .v 0, .v 1)] (1, .v 0, .a (.v 1) (.n 1)) rfl (Nat.sub_le ( l.length) ( c + y.length)))
    have e4 := rp_enough y z hy (l.drop (c + y.length)).length (l.length - (c - a)) _ (Nat.le_refl _) (by rw [List.length_drop]; exact Mine.lc [l.length - (c + y.length), c, y.length, l.length, l.length - (c - a), c - a] [(1, .a (.v 0) (.a (.v 1) (.v 2)), .v 3), (1, .v 3, .a (.v 4) (.v 5)), (1, .v 5, .v 1)] (1, .v 0, .v 4) rfl (Nat.le_of_eq (Nat.sub_add_cancel (show c + y.length ≤ l.length from Mine.lc [c, y.length, l.length] [(1, .a (.v 0) (.v 1), .v 2)] (1, .a (.v 0) (.v 1), .v 2) rfl hlen))) (Nat.sub_le_iff_le_add.mp (Nat.le_refl ( l.length - ( c - a)))) (Nat.sub_le ( c) ( a)))
    have h2 : l.length + 1 - (c - a) = (l.length - (c - a)) + 1 := by omega
    have h3 : rp y z ((l.length - (c - a)) + 1) (l.drop c) = z ++ rp y z (l.length - (c - a)) (l.drop (c + y.length)) := by
      rw [rp_succ, if_pos hpre, List.drop_drop]
    rw [h1, List.drop_drop, show a + (c - a) = c from by exact Nat.le_antisymm (Mine.lc [c - a, a, c] [(1, .a (.v 0) (.v 1), .v 2)] (1, .a (.v 1) (.v 0), .v 2) rfl (Nat.le_of_eq (Nat.sub_add_cancel (show a ≤ c from Mine.lc [a, c] [(1, .v 0, .v 1)] (1, .v 0, .v 1) rfl hac)))) (Mine.lc [c, c - a, a] [(1, .v 0, .a (.v 1) (.v 2))] (1, .v 0, .a (.v 2) (.v 1)) rfl (Nat.sub_le_iff_le_add.mp (Nat.le_refl ( c - ( a))))), h2, h3, e3, e4, S_toList, List.append_assoc]

theorem replace_S (l y z : List Nat) (hy : y ≠ []) : Txt.replace (S l) (S y) (S z) = S (rp y z (l.length + 1) l) := by
  obtain ⟨f, hc, hn⟩ := StrLaws.occ_tight (S l) (S y) (by rw [S_len]; exact Nat.pos_of_ne_zero fun e => hy (List.eq_nil_of_length_eq_zero e))
  rw [S_len] at hc hn
  have key := chain_join l y z hy _ 0 f (Nat.zero_le _) hc hn
  unfold Txt.replace
  split
  · rename_i h
    have he : (Builtin.Str.occurrences (S l) (S y) 0 (S l).length ((S l).length + 1)) = [] := by
      rcases Bool.or_eq_true_iff.mp h with h | h
      · simpa using h
      · rw [Bool.and_eq_true] at h
        have := h.1
        rw [S_len] at this
        exact absurd (List.eq_nil_of_length_eq_zero (beq_iff_eq.mp this)) hy
    rw [S_len] at he
    rw [he] at key
    have : Str.join (S z) (StrLaws.partsFrom (S l) y.length 0 []) = S l := by
      show Builtin.Str.strSub (S l) 0 (S l).length = _
      rw [StrLaws.sub_whole]
    rw [this] at key
    simpa using key
  · rw [StrLaws.glued_eq_join, StrLaws.partsBetween_eq, S_len, S_len]
    simpa using key
end Mine

end
section
open PySem PyProof.Rows
set_option autoImplicit false
set_option linter.unusedVariables false
set_option maxRecDepth 100000
namespace Mine
open Builtin.Str

theorem txtSlice (x : Str) (a b : Option Int) : Txt.slice x a b = StrLaws.sliceText x a b := rfl

theorem sl_to (l : List Nat) {i : Int} {n : Nat} (h : i = n) : Txt.slice (S l) none (some i) = S (l.take n) := by
  subst h
  by_cases hn : n ≤ l.length
  · rw [txtSlice, StrLaws.sliceText_to ⟨by exact Int.natCast_nonneg _, by rw [S_toList]; exact Int.ofNat_le.mpr (show n ≤ l.length from Mine.lc [n, l.length] [(1, .v 0, .v 1)] (1, .v 0, .v 1) rfl hn)⟩, S_toList]
    simp
  · rw [slice_to_beyond (by rw [S_len]; exact Int.ofNat_le.mpr (show l.length ≤ n from Mine.lc [l.length, n] [(1, .a (.v 0) (.n 1), .v 1)] (1, .v 0, .v 1) rfl (Nat.lt_of_not_le hn))), txtSlice, StrLaws.sliceText_to ⟨by exact Int.natCast_nonneg _, by rw [S_toList, S_len]; exact Int.ofNat_le.mpr (show l.length ≤ l.length from Mine.lc [l.length] [] (1, .v 0, .v 0) rfl )⟩, S_toList, S_len]
    rw [List.take_of_length_le (l := l) (i := n) (by exact Mine.lc [l.length, n] [(1, .a (.v 0) (.n 1), .v 1)] (1, .v 0, .v 1) rfl (Nat.lt_of_not_le hn))]
    simp
theorem sl_from (l : List Nat) {i : Int} {n : Nat} (h : i = n) : Txt.slice (S l) (some i) none = S (l.drop n) := by
  subst h
  by_cases hn : n ≤ l.length
  · rw [txtSlice, StrLaws.sliceText_from ⟨by exact Int.natCast_nonneg _, by rw [S_toList]; exact Int.ofNat_le.mpr (show n ≤ l.length from Mine.lc [n, l.length] [(1, .v 0, .v 1)] (1, .v 0, .v 1) rfl hn)⟩, S_toList]
    simp only [Int.toNat_natCast]
    rw [List.take_of_length_le (by rw [List.length_drop]; omega)]
  · rw [slice_from_beyond (by rw [S_len]; exact Int.ofNat_le.mpr (show l.length ≤ n from Mine.lc [l.length, n] [(1, .a (.v 0) (.n 1), .v 1)] (1, .v 0, .v 1) rfl (Nat.lt_of_not_le hn))), List.drop_of_length_le (by exact Mine.lc [l.length, n] [(1, .a (.v 0) (.n 1), .v 1)] (1, .v 0, .v 1) rfl (Nat.lt_of_not_le hn))]
theorem idx_clip (a b n : Nat) : strSliceIndices (some (a : Int)) (some (b : Int)) 1 n = strSliceIndices (some ((min a n : Nat) : Int)) (some ((min b n : Nat) : Int)) 1 n := by
  have h1 : ¬ ((a : Int) < 0) := by exact Int.not_lt.mpr (Int.natCast_nonneg _)
  have h2 : ¬ ((b : Int) < 0) := by exact Int.not_lt.mpr (Int.natCast_nonneg _)
  have h3 : ¬ (((min a n : Nat) : Int) < 0) := by exact Int.not_lt.mpr (Int.natCast_nonneg _)
  have h4 : ¬ (((min b n : Nat) : Int) < 0) := by exact Int.not_lt.mpr (Int.natCast_nonneg _)
  have h5 : (1 : Int) > 0 := by decide
  simp only [strSliceIndices, h1, h2, h3, h4, h5, if_false, if_true]
  congr 1 <;> omega
theorem sl_ab (l : List Nat) {i j : Int} {a b : Nat} (hi : i = a) (hj : j = b) (hab : a ≤ b) : Txt.slice (S l) (some i) (some j) = S ((l.drop a).take (b - a)) := by
  subst hi hj
  rw [txtSlice]
  have e : StrLaws.sliceText (S l) (some (a : Int)) (some (b : Int)) = StrLaws.sliceText (S l) (some ((min a l.length : Nat) : Int)) (some ((min b l.length : Nat) : Int)) := by
    unfold StrLaws.sliceText
    rw [S_len, idx_clip]
  rw [e, StrLaws.sliceText_plain ⟨by exact Int.natCast_nonneg _, by omega, by rw [S_toList]; exact Int.ofNat_le.mpr (show min b l.length ≤ l.length from Mine.lc [min b l.length, l.length] [(1, .v 0, .v 1)] (1, .v 0, .v 1) rfl (Nat.min_le_right ( b) ( l.length)))⟩, S_toList]
  refine congrArg S ?_
  simp only [Int.toNat_natCast]
  by_cases ha : a ≤ l.length
  · rw [Nat.min_eq_left ha]
    by_cases hb : b ≤ l.length
    · rw [Nat.min_eq_left hb]; congr 1; omega
    · rw [Nat.min_eq_right (by exact Mine.lc [l.length, b] [(1, .a (.v 0) (.n 1), .v 1)] (1, .v 0, .v 1) rfl (Nat.lt_of_not_le hb)), List.take_of_length_le (by rw [List.length_drop]; omega), List.take_of_length_le (by rw [List.length_drop]; exact Mine.lc [l.length, b, l.length - a, a, b - a] [(1, .a (.v 0) (.n 1), .v 1), (1, .a (.v 2) (.v 3), .v 0), (1, .v 1, .a (.v 4) (.v 3))] (1, .v 2, .v 4) rfl (Nat.lt_of_not_le hb) (Nat.le_of_eq (Nat.sub_add_cancel (show a ≤ l.length from Mine.lc [a, l.length] [(1, .v 0, .v 1)] (1, .v 0, .v 1) rfl ha))) (Nat.sub_le_iff_le_add.mp (Nat.le_refl ( b - ( a)))))]
  · rw [List.drop_of_length_le (i := a) (by exact Mine.lc [l.length, a] [(1, .a (.v 0) (.n 1), .v 1)] (1, .v 0, .v 1) rfl (Nat.lt_of_not_le ha)), List.drop_of_length_le (by exact Mine.lc [l.length, min a l.length] [(1, .v 0, .v 1)] (1, .v 0, .v 1) rfl (Nat.le_of_eq (Nat.min_eq_right (show l.length ≤ a from Mine.lc [l.length, a] [(1, .a (.v 0) (.n 1), .v 1)] (1, .v 0, .v 1) rfl (Nat.lt_of_not_le ha))).symm))]; simp
theorem sl_last (l : List Nat) (h : l ≠ []) : Txt.slice (S l) none (some (-1)) = S l.dropLast := by
  have hl : 1 ≤ l.length := Nat.pos_of_ne_zero fun e => h (List.eq_nil_of_length_eq_zero e)
  rw [txtSlice, StrLaws.sliceText_to_neg (by omega) (by rw [S_len]; exact Int.neg_le_neg (Int.ofNat_le.mpr (show 1 ≤ l.length from Mine.lc [l.length] [(1, .n 1, .v 0)] (1, .n 1, .v 0) rfl hl))), S_toList, S_len, List.dropLast_eq_take]
  refine congrArg S ?_
  congr 1
  omega
theorem item_last (l : List Nat) (h : l ≠ []) : Txt.item (S l) (-1) = S [l.getLast h] := by
  have hl : 1 ≤ l.length := Nat.pos_of_ne_zero fun e => h (List.eq_nil_of_length_eq_zero e)
  unfold Txt.item Txt.charAt
  rw [StrLaws.at_neg (n := l.getLast h) (by omega) (by rw [S_len]; exact Int.neg_le_neg (Int.ofNat_le.mpr (show 1 ≤ l.length from Mine.lc [l.length] [(1, .n 1, .v 0)] (1, .n 1, .v 0) rfl hl))) (by
    rw [S_len]
    have : ((-1 : Int) + (l.length : Int)).toNat = l.length - 1 := by omega
    rw [this]
    simp [List.getLast_eq_getElem])]
  rfl
theorem item_at (l : List Nat) {i : Int} {n : Nat} (hi : i = n) (h : n < l.length) : Txt.item (S l) i = S [l[n]] := by
  subst hi
  unfold Txt.item Txt.charAt
  rw [StrLaws.at_nonneg (n := l[n]) (by exact Int.natCast_nonneg _) (by simp [h])]
  rfl

/-! the last slash -/
theorem at_one (l : List Nat) (c i : Nat) : StrLaws.At (S l) (S [c]) (S l).length i ↔ l[i]? = some c := by
  have := StrLaws.subAt_one (S l) c i
  rw [S_toList] at this
  exact this
theorem rfind_S (h t : List Nat) (c : Nat) (ht : c ∉ t) : Txt.rfind (S (h ++ c :: t)) (S [c]) = h.length := by
  unfold Txt.rfind
  have key : ∀ k, h.length < k → ¬ (h ++ c :: t)[k]? = some c := fun k hk e => by
    rw [List.getElem?_append_right (by exact Mine.lc [h.length, k] [(1, .a (.v 0) (.n 1), .v 1)] (1, .v 0, .v 1) rfl hk)] at e
    obtain ⟨j, hj⟩ : ∃ j, k - h.length = j + 1 := ⟨k - h.length - 1, by exact Nat.le_antisymm (Mine.lc [k - h.length, k - h.length - 1] [(1, .v 0, .a (.v 1) (.n 1))] (1, .v 0, .a (.v 1) (.n 1)) rfl (Nat.sub_le_iff_le_add.mp (Nat.le_refl ( k - h.length - ( 1))))) (Mine.lc [k - h.length - 1, k - h.length] [(1, .a (.v 0) (.n 1), .v 1)] (1, .a (.v 0) (.n 1), .v 1) rfl (Nat.le_of_eq (Nat.sub_add_cancel (show 1 ≤ k - h.length from Mine.lc [h.length, k, k - h.length] [(1, .a (.v 0) (.n 1), .v 1), (1, .v 1, .a (.v 2) (.v 0))] (1, .n 1, .v 2) rfl hk (Nat.sub_le_iff_le_add.mp (Nat.le_refl ( k - ( h.length))))))))⟩
    rw [hj, List.getElem?_cons_succ] at e
    exact ht (List.mem_of_getElem? e)
  have here : (h ++ c :: t)[h.length]? = some c := by rw [List.getElem?_append_right (Nat.le_refl _)]; simp
  rcases StrLaws.last_spec (S (h ++ c :: t)) (S [c]) with ⟨_, hn⟩ | ⟨i, e, hi, hn⟩
  · exact absurd ((at_one _ _ _).mpr here) (hn h.length)
  · rw [e]
    have e1 := (at_one _ _ _).mp hi
    rcases Nat.lt_trichotomy i h.length with hlt | heq | hgt
    · exact absurd ((at_one _ _ _).mpr here) (hn _ hlt)
    · rw [heq]
    · exact absurd e1 (key i hgt)

/-! strips -/
theorem stripBy_S (goes : Nat → Bool) (lf rt : Bool) (l : List Nat) :
    Txt.stripBy goes lf rt (S l) = S (let m := if lf then l.dropWhile goes else l; if rt then (m.reverse.dropWhile goes).reverse else m) := by
  rw [stripBy_eq, strSub_S]
  unfold stripHi stripLo
  rw [S_toList, S_len]
  refine congrArg S ?_
  have tw : ∀ m : List Nat, m.drop (m.takeWhile goes).length = m.dropWhile goes := fun m => by
    conv => lhs; rw [← List.takeWhile_append_dropWhile (p := goes) (l := m)]
    have := List.takeWhile_append_dropWhile (p := goes) (l := m)
    rw [List.drop_append_of_le_length (by
      rw [this]; exact Nat.le_refl _)]
    rw [this]; simp
  have rv : ∀ m : List Nat, m.take (m.length - (m.reverse.takeWhile goes).length) = (m.reverse.dropWhile goes).reverse := fun m => by
    rw [← tw m.reverse, List.drop_reverse, List.reverse_reverse]
  cases lf <;> cases rt <;> simp only [if_true, if_false, Bool.false_eq_true, List.drop_zero, Nat.sub_zero]
  · exact List.take_of_length_le (Nat.le_refl _)
  · exact rv l
  · rw [tw l, List.take_of_length_le]
    have h1 := congrArg List.length (tw l)
    rw [List.length_drop] at h1; exact Mine.lc [(List.dropWhile goes l).length, l.length - (List.takeWhile goes l).length] [(1, .v 0, .v 1)] (1, .v 0, .v 1) rfl (Nat.le_of_eq (h1).symm)
  · rw [tw l, ← rv (l.dropWhile goes)]
    congr 1
    have h1 := congrArg List.length (tw l)
    rw [List.length_drop] at h1; omega

theorem contains1 (c : Nat) : (S [c]).cps.contains = fun a => a == c := by
  funext a; simp [S]; rw [Bool.eq_iff_iff]; simp
theorem rstripC_S (l : List Nat) (c : Nat) : Txt.rstripChars (S l) (S [c]) = S ((l.reverse.dropWhile (· == c)).reverse) := by
  unfold Txt.rstripChars
  rw [stripBy_S, contains1]; rfl
theorem lstripC_S (l : List Nat) (c : Nat) : Txt.lstripChars (S l) (S [c]) = S (l.dropWhile (· == c)) := by
  unfold Txt.lstripChars
  rw [stripBy_S, contains1]; rfl
theorem strip_S (l : List Nat) : Txt.strip (S l) = S (((l.dropWhile Unicode.isSpace).reverse.dropWhile Unicode.isSpace).reverse) := by
  unfold Txt.strip
  rw [stripBy_S]; rfl

theorem starts_S (l : List Nat) (c : Nat) : Txt.startswith (S l) (S [c]) = decide (l.head? = some c) := by
  unfold Txt.startswith
  rw [StrLaws.subAt_eq, S_toList, S_toList, S_len, S_len]
  cases l with
  | nil => simp
  | cons a r => 
    by_cases h : a = c
    · subst h; simp
    · simp [h]
theorem ends_S (l : List Nat) (c : Nat) : Txt.endswith (S l) (S [c]) = decide (l.getLast? = some c) := by
  unfold Txt.endswith
  rw [StrLaws.subAt_eq, S_toList, S_toList, S_len, S_len]
  rcases List.eq_nil_or_concat l with rfl | ⟨r, a, rfl⟩
  · simp
  · by_cases h : a = c
    · subst h; simp
    · simp [h]

theorem mul_S (c n : Nat) : Txt.mul (S [c]) (n : Int) = S (List.replicate n c) := by
  unfold Txt.mul
  by_cases h0 : n = 0
  · subst h0; simp [Str.empty]
  · rw [if_neg (by exact Int.not_lt.mpr (Int.ofNat_le.mpr (show 1 ≤ n from Mine.lc [n] [(1, .n 1, .v 0)] (1, .n 1, .v 0) rfl (Nat.pos_of_ne_zero h0))))]
    by_cases h1 : n = 1
    · subst h1; simp
    · have e1 : ((n : Int) == 1 || (S [c]).length == 0) = false := by
        have : ¬ ((n : Int) = 1) := by omega
        simp [this, Str.length]
      rw [e1]
      simp only [Bool.false_eq_true, if_false, Int.toNat_natCast]
      congr 1
      have : ∀ (k : Nat) (acc : Array Nat), (List.replicate k (S [c]).cps).foldl (· ++ ·) acc = acc ++ (List.replicate k c).toArray := by
        intro k
        induction k with
        | zero => intro acc; simp
        | succ k ih =>
          intro acc
          rw [List.replicate_succ, List.foldl_cons, ih, List.replicate_succ]
          apply Array.toList_inj.mp
          simp
      rw [this]
      simp
end Mine

end
section
open PySem PyProof.Rows
set_option autoImplicit false
set_option linter.unusedVariables false
set_option maxRecDepth 100000
namespace Mine

theorem slash_ : Str.ofString "/" = S [47] := by decide +kernel

noncomputable def dirF (h : List Nat) : List Nat := if h = [] then [47] else h
noncomputable def NoEnd (h : List Nat) : Prop := h = [] ∨ ∃ r c, h = r ++ [c] ∧ c ≠ 47

theorem dirF_strip {h : List Nat} (hn : NoEnd h) (hr : h ++ [47] ≠ List.replicate (h ++ [47]).length 47) : ((h ++ [47]).reverse.dropWhile (· == 47)).reverse = dirF h := by
  rcases hn with rfl | ⟨r, c, rfl, hc⟩
  · exact absurd rfl hr
  · have : (c == 47) = false := by simpa using hc
    simp [dirF, this]
theorem dirF_same {h : List Nat} (hn : NoEnd h) (hr : h ++ [47] = List.replicate (h ++ [47]).length 47) : h ++ [47] = dirF h := by
  rcases hn with rfl | ⟨r, c, rfl, hc⟩
  · rfl
  · have : c ∈ List.replicate (r ++ [c] ++ [47]).length 47 := by rw [← hr]; simp
    exact absurd (List.eq_of_mem_replicate this) hc
end Mine

end
section
open PySem PyProof.Rows
set_option autoImplicit false
set_option linter.unusedVariables false
set_option maxRecDepth 100000
namespace Mine

noncomputable def joinStep (a b : List Nat) : List Nat := if a.getLast? = some 47 then a ++ b else a ++ (47 :: b)
noncomputable def joinF (a : List Nat) (ps : List (List Nat)) : List Nat := ps.foldl joinStep a
theorem joinF_snoc (a : List Nat) (ps : List (List Nat)) (b : List Nat) : joinF a (ps ++ [b]) = joinStep (joinF a ps) b := by
  unfold joinF; rw [List.foldl_append]; rfl
noncomputable def tot (ps : List (List Nat)) : Nat := (ps.map fun p => p.length + 1).sum
theorem tot_app (a b : List (List Nat)) : tot (a ++ b) = tot a + tot b := by unfold tot; simp
theorem joinStep_len (a b : List Nat) : (joinStep a b).length ≤ a.length + (b.length + 1) := by
  unfold joinStep; split <;> simp
theorem joinStep_ne {a : List Nat} (h : a ≠ []) (b : List Nat) : joinStep a b ≠ [] := by
  unfold joinStep; split <;> simp [h]
theorem joinF_len (ps : List (List Nat)) : ∀ a, (joinF a ps).length ≤ a.length + tot ps := by
  induction ps with
  | nil => intro a; simp [joinF, tot]
  | cons b ps ih =>
    intro a
    have h1 := ih (joinStep a b)
    have h2 := joinStep_len a b
    have h3 : tot (b :: ps) = (b.length + 1) + tot ps := by simp [tot]
    show (joinF (joinStep a b) ps).length ≤ _
    exact Mine.lc [(joinF (joinStep a b) ps).length, (joinStep a b).length, tot ps, a.length, b.length, tot (b :: ps)] [(1, .v 0, .a (.v 1) (.v 2)), (1, .v 1, .a (.v 3) (.a (.v 4) (.n 1))), (1, .a (.a (.v 4) (.n 1)) (.v 2), .v 5)] (1, .v 0, .a (.v 3) (.v 5)) rfl h1 h2 (Nat.le_of_eq (h3).symm)
theorem joinF_ne (ps : List (List Nat)) : ∀ a, a ≠ [] → joinF a ps ≠ [] := by
  induction ps with
  | nil => intro a h; exact h
  | cons b ps ih => intro a h; exact ih _ (joinStep_ne h b)
theorem take_snoc {α : Type} {l : List α} {i : Nat} {b : α} (h : l[i]? = some b) : l.take (i + 1) = l.take i ++ [b] := by
  rw [List.take_succ, h]; rfl
theorem tot_take_le {ps : List (List Nat)} {i : Nat} {b : List Nat} (h : ps[i]? = some b) : tot (ps.take i) + (b.length + 1) ≤ tot ps := by
  have e : tot ps = tot (ps.take (i + 1)) + tot (ps.drop (i + 1)) := by rw [← tot_app, List.take_append_drop]
  rw [take_snoc h, tot_app] at e
  have : tot [b] = b.length + 1 := by simp [tot]
  exact Mine.lc [tot (List.take i ps), tot [b], tot (List.drop (i + 1) ps), tot ps, b.length] [(1, .a (.a (.v 0) (.v 1)) (.v 2), .v 3), (1, .a (.v 4) (.n 1), .v 1)] (1, .a (.v 0) (.a (.v 4) (.n 1)), .v 3) rfl (Nat.le_of_eq (e).symm) (Nat.le_of_eq (this).symm)
end Mine

end
section
open PySem PyProof.Rows
set_option autoImplicit false
set_option linter.unusedVariables false
set_option maxRecDepth 100000
namespace Mine
noncomputable def nstep (acc : List (List Nat)) (c : List Nat) : List (List Nat) := if c = [] ∨ c = [46] then acc else if c = [46, 46] then acc.dropLast else acc ++ [c]
noncomputable def normF (cs : List (List Nat)) : List (List Nat) := cs.foldl nstep []
theorem normF_snoc (cs : List (List Nat)) (c : List Nat) : normF (cs ++ [c]) = nstep (normF cs) c := by unfold normF; rw [List.foldl_append]; rfl
theorem normF_dd (cs : List (List Nat)) : ∀ p ∈ normF cs, p ≠ [46, 46] ∧ p ≠ [] ∧ p ≠ [46] := by
  have : ∀ (cs acc : List (List Nat)), (∀ p ∈ acc, p ≠ [46, 46] ∧ p ≠ [] ∧ p ≠ [46]) → ∀ p ∈ cs.foldl nstep acc, p ≠ [46, 46] ∧ p ≠ [] ∧ p ≠ [46] := by
    intro cs
    induction cs with
    | nil => intro acc h; exact h
    | cons c r ih =>
      intro acc h
      refine ih _ fun p hp => ?_
      unfold nstep at hp
      split at hp
      · exact h p hp
      · rename_i h1
        split at hp
        · exact h p (List.dropLast_subset _ hp)
        · rename_i h2
          rcases List.mem_append.mp hp with hp | hp
          · exact h p hp
          · rw [List.mem_singleton] at hp
            subst hp
            exact ⟨h2, fun e => h1 (.inl e), fun e => h1 (.inr e)⟩
  exact this cs [] (by simp)
theorem tot_cons (p : List Nat) (r : List (List Nat)) : tot (p :: r) = (p.length + 1) + tot r := by simp [tot]
theorem nstep_tot (acc : List (List Nat)) (c : List Nat) : tot (nstep acc c) ≤ tot acc + (c.length + 1) := by
  unfold nstep
  split
  · exact Mine.lc [tot acc, c.length] [] (1, .v 0, .a (.v 0) (.a (.v 1) (.n 1))) rfl
  · split
    · have e : tot acc.dropLast ≤ tot acc := by
        rcases List.eq_nil_or_concat acc with rfl | ⟨a, b, rfl⟩
        · simp
        · simp [tot_app]
      exact Mine.lc [tot acc.dropLast, tot acc, c.length] [(1, .v 0, .v 1)] (1, .v 0, .a (.v 1) (.a (.v 2) (.n 1))) rfl e
    · rw [tot_app, tot_cons]; simp [tot]
theorem normF_tot (cs : List (List Nat)) : tot (normF cs) ≤ tot cs := by
  have : ∀ (cs acc : List (List Nat)), tot (cs.foldl nstep acc) ≤ tot acc + tot cs := by
    intro cs
    induction cs with
    | nil => intro acc; simp [tot]
    | cons c r ih =>
      intro acc
      have h1 := ih (nstep acc c)
      have h2 := nstep_tot acc c
      rw [tot_cons]
      show tot (r.foldl nstep (nstep acc c)) ≤ _
      exact Mine.lc [tot (List.foldl nstep (nstep acc c) r), tot (nstep acc c), tot r, tot acc, c.length] [(1, .v 0, .a (.v 1) (.v 2)), (1, .v 1, .a (.v 3) (.a (.v 4) (.n 1)))] (1, .v 0, .a (.v 3) (.a (.a (.v 4) (.n 1)) (.v 2))) rfl h1 h2
  have h := this cs []
  have e : tot [] = 0 := rfl
  show tot (cs.foldl nstep []) ≤ _
  exact Mine.lc [tot (List.foldl nstep [] cs), tot [], tot cs] [(1, .v 0, .a (.v 1) (.v 2)), (1, .v 1, .n 0)] (1, .v 0, .v 2) rfl h (Nat.le_of_eq e)
theorem tot_sp (c : Nat) : ∀ l : List Nat, tot (sp c l) = l.length + 1
  | [] => by simp [sp, tot]
  | a :: r => by
    have ih := tot_sp c r
    rw [sp_cons]
    split
    · rw [tot_cons, ih]; simp; exact Nat.le_antisymm (Mine.lc [r.length] [] (1, .a (.n 1) (.a (.v 0) (.n 1)), .a (.a (.v 0) (.n 1)) (.n 1)) rfl ) (Mine.lc [r.length] [] (1, .a (.a (.v 0) (.n 1)) (.n 1), .a (.n 1) (.a (.v 0) (.n 1))) rfl )
    · split
      · rename_i e; exact absurd e (sp_ne c r)
      · rename_i p ps e
        rw [e, tot_cons] at ih
        rw [tot_cons, List.length_cons, List.length_cons]
        exact Nat.le_antisymm (Mine.lc [p.length, tot ps, r.length] [(1, .a (.a (.v 0) (.n 1)) (.v 1), .a (.v 2) (.n 1))] (1, .a (.a (.a (.v 0) (.n 1)) (.n 1)) (.v 1), .a (.a (.v 2) (.n 1)) (.n 1)) rfl (Nat.le_of_eq ih)) (Mine.lc [r.length, p.length, tot ps] [(1, .a (.v 0) (.n 1), .a (.a (.v 1) (.n 1)) (.v 2))] (1, .a (.a (.v 0) (.n 1)) (.n 1), .a (.a (.a (.v 1) (.n 1)) (.n 1)) (.v 2)) rfl (Nat.le_of_eq (ih).symm))
theorem len_tot (ps : List (List Nat)) : ps.length ≤ tot ps := by
  induction ps with
  | nil => exact Nat.zero_le _
  | cons p ps ih => rw [tot_cons, List.length_cons]; exact Mine.lc [ps.length, tot ps, p.length] [(1, .v 0, .v 1)] (1, .a (.v 0) (.n 1), .a (.a (.v 2) (.n 1)) (.v 1)) rfl ih
theorem inter_len (ps : List (List Nat)) : (inter [47] ps).length ≤ tot ps := by
  induction ps with
  | nil => simp [inter]
  | cons p r ih =>
    by_cases h : r = []
    · subst h; simp [inter, tot]
    · rw [inter_cons _ _ h, tot_cons]; simp; exact Mine.lc [(inter [47] r).length, tot r, p.length] [(1, .v 0, .v 1)] (1, .a (.v 2) (.a (.v 0) (.n 1)), .a (.a (.v 2) (.n 1)) (.v 1)) rfl ih
end Mine

end
section
open PySem PySem.W PySem.Calls PyProof.Rows
set_option Elab.async false
set_option autoImplicit false
set_option maxRecDepth 100000
set_option maxHeartbeats 4000000
set_option linter.unusedVariables false
set_option rowWalk.seconds 0
set_option pp.maxSteps 600
namespace Mine
noncomputable def tv (ps : List (List Nat × Tok)) : List Value := ps.map fun p => .str (S p.1) p.2
theorem tv_get {ps : List (List Nat × Tok)} {i : Nat} {v : Value} (h : (tv ps)[i]? = some v) : ∃ b u, v = .str (S b) u ∧ (ps.map (·.1))[i]? = some b ∧ ∃ p ∈ ps, p.1 = b := by
  unfold tv at h
  rw [List.getElem?_map] at h
  cases hp : ps[i]? with
  | none => rw [hp] at h; cases h
  | some p => rw [hp] at h; cases h; exact ⟨p.1, p.2, rfl, by rw [List.getElem?_map, hp]; rfl, p, List.mem_of_getElem? hp, rfl⟩
theorem tv_snoc (qs : List (List Nat × Tok)) (c : List Nat) (u : Tok) : tv (qs ++ [(c, u)]) = tv qs ++ [.str (S c) u] := by simp [tv]
theorem tv_len (qs : List (List Nat × Tok)) : (tv qs).length = qs.length := by simp [tv]
theorem tv_str (qs : List (List Nat × Tok)) : tv qs = strValues (qs.map fun p => (S p.1, p.2)) := by simp [tv, strValues]
theorem tv_of_str {ps : List (Str × Tok)} {ts : List (List Nat)} (h : ps.map (·.1) = ts.map S) : ∃ qs : List (List Nat × Tok), strValues ps = tv qs ∧ qs.map (·.1) = ts := by
  refine ⟨ps.map fun p => (p.1.cps.toList, p.2), ?_, ?_⟩
  · simp [tv, strValues, S_T]
  · have := congrArg (List.map fun x : Str => x.cps.toList) h
    simpa [List.map_map, Function.comp_def] using this
section
variable {prog : Program} {w : World} {mg mb : Str → Option Value} {s₀ s : Shared} {g : Heap} {L : Addr} {lo lo' : List (Str × Value)} {led led' : List (Addr × Ent)} {A : Around} {E : Value → Shared → Prop}
  {x y z : Str} {t u v : Tok} {a b : Int} {Q : Value → Shared → Prop} {env : Env} {kk : Nat} {pos : Pos} {l l2 : Addr} {vs us : List Value} {value slice : Expr} {i : Int} {ui : Tok}
theorem splitS_ {c : Nat} {r : List Nat} (H : St w mg mb s₀ g L lo led s) (hx : x = S r) (hy : y = S [c]) (hz : x.length ≤ 1000000)
    (h : ∀ (ps : List (List Nat × Tok)) D s', ps.map (·.1) = sp c r → St w mg mb s₀ g L lo ((D, .lst (tv ps)) :: led) s' → Q (.ref D) s') :
    wpAny (model prog w) A (call (.builtin "str.split") [.str x t, .str y u]) Q E s := by
  refine split1_ H (by rw [hy, S_len]; rfl) hz fun ps D s' e H' => ?_
  rw [hx, hy, split_S] at e
  obtain ⟨qs, e1, e2⟩ := tv_of_str e
  rw [e1] at H'
  exact h qs D s' e2 H'
theorem joinS_ {ps : List (List Nat × Tok)} {c : List Nat} (H : St w mg mb s₀ g L lo led s) (hl : s.heap.IsList l (tv ps).toArray) (hx : x = S c) (hc : c.length ≤ 1) (hok : tot (ps.map (·.1)) ≤ 1000000)
    (h : ∀ t s', St w mg mb s₀ g L lo led s' → Q (.str (S (inter c (ps.map (·.1)))) t) s') : wpAny (model prog w) A (call (.builtin "str.join") [.str x t, .ref l]) Q E s := by
  rw [tv_str] at hl
  refine join_ (texts := (ps.map (·.1)).map S) H hl (by simp [List.map_map, Function.comp_def]) ?_ fun t s' H' => ?_
  · refine joinOk_of ?_
    have e : (((ps.map (·.1)).map S).map (·.length)).sum + ((ps.map (·.1)).map S).length ≤ tot (ps.map (·.1)) := by
      generalize ps.map (·.1) = ts
      induction ts with
      | nil => simp [tot]
      | cons p r ih => simp [tot, S_len] at ih ⊢; omega
    have e2 : ((ps.map (·.1)).map S).length * x.length ≤ ((ps.map (·.1)).map S).length := by
      rw [hx, S_len]; exact Nat.le_trans (Nat.mul_le_mul_left _ hc) (by omega)
    exact Mine.lc [tot (List.map (fun x => x.fst) ps), (List.map (fun x => x.length) (List.map S (List.map (fun x => x.fst) ps))).sum, (List.map S (List.map (fun x => x.fst) ps)).length, (List.map S (List.map (fun x => x.fst) ps)).length * x.length] [(1, .v 0, .n 1000000), (1, .a (.v 1) (.v 2), .v 0), (1, .v 3, .v 2)] (1, .a (.v 1) (.v 3), .n 16777216) rfl hok e e2
  · rw [hx, txtJoin_S]
    exact h _ _ H'
theorem last_ {a : Value} (hl : s.heap.IsList l (vs ++ [a]).toArray) (hi : i = -1) (hz : vs.length < 1000000) (h : Q a s)
    {ops : List Value} (hs : subscripted slice false (.ref l) (.int i ui) = operate ops (getItem (.ref l) (.int i ui)) := by with_unfolding_all rfl)
    (ht : ∀ r, letTemporaryGo value (.ref l) r = pure () := by intro _; with_unfolding_all rfl) :
    wpAny (model prog w) A (subscriptTail value slice (.ref l) (.int i ui)) Q E s :=
  itemn_ hl (by omega) (by simp; omega) (by simp; exact Mine.lc [vs.length] [(1, .a (.v 0) (.n 1), .n 1000000)] (1, .v 0, .n 999999) rfl hz) (r := a) (by
    have e : (i + ((vs ++ [a]).length : Int)).toNat = vs.length := by rw [hi]; simp; omega
    rw [e]; simp) h hs ht
end
section
variable {prog : Program} {w : World} {mg mb : Str → Option Value} {s₀ s : Shared} {g : Heap} {L : Addr} {lo : List (Str × Value)} {led : List (Addr × Ent)} {A : Around} {Q : Flow → Shared → Prop}
  {env : Env} {target : Expr} {body : List Stmt}
theorem forLf_ {l : Addr} {vs : List Value} (hh : A.handled = none) (H : St w mg mb s₀ g L lo led s) (hl : g.IsList l vs.toArray)
    (Inv : Nat → List (Addr × Ent) → Prop) (h0 : Inv 0 led)
    (turn : ∀ i v led₁ its s₁, vs[i]? = some v → Inv i led₁ → St w mg mb s₀ g L lo (led₁ ++ its) s₁ →
      wpAny (model prog w) A (assign target env v) (fun _ s₂ => wpAny (model prog w) A (execs body env) (fun f s₃ => match f with
        | .next | .cont => ∃ led₃ r, Inv (i + 1) led₃ ∧ St w mg mb s₀ g L (lo ++ r) (led₃ ++ its) s₃
        | .brk => Q .next s₃
        | .ret v => Q (.ret v) s₃) (fun _ _ => False) s₂) (fun _ _ => False) s₁)
    (done : ∀ led₁ s₁, Inv vs.length led₁ → St w mg mb s₀ g L lo led₁ s₁ → Q .next s₁)
    (ht : ∀ I v, letOwnedTupleGo target (.ref I) v = pure () := by intro _ _; rfl) :
    wpAny (model prog w) A (pyIter (.ref l)) (fun it s₂ => codeAny (model prog w) A (.forLoop target it body [] env) (fun r s' => match r with | .ok f => Q f s' | .error _ => False) s₂) (fun _ _ => False) s := by
  refine forL_ hh H hl (fun i lo₁ led₁ => lo₁ = lo ∧ Inv i led₁) ⟨rfl, h0⟩ ?_ ?_ ht
  · rintro i v lo₁ led₁ its s₁ hv ⟨rfl, hI⟩ H₁
    refine wpAny_mono (turn i v led₁ its s₁ hv hI H₁) (fun _ s₂ h₂ => wpAny_mono h₂ (fun f s₃ h₃ => ?_) fun _ _ e => e) fun _ _ e => e
    cases f with
    | next => obtain ⟨led₃, r, h4, h5⟩ := h₃; exact ⟨_, led₃, ⟨rfl, h4⟩, h5.front⟩
    | cont => obtain ⟨led₃, r, h4, h5⟩ := h₃; exact ⟨_, led₃, ⟨rfl, h4⟩, h5.front⟩
    | brk => exact h₃
    | ret v => exact h₃
  · rintro lo₁ led₁ s₁ ⟨rfl, hI⟩ H₁
    exact done led₁ s₁ hI H₁
end
theorem St.based {w : World} {mg mb : Str → Option Value} {s₀ s : Shared} {g : Heap} {L : Addr} {lo : List (Str × Value)} {led led' : List (Addr × Ent)} {l : Addr} {vs : List Value}
    (H : St w mg mb s₀ g L lo led s) (hs : led'.Sublist led) (hm : (l, Ent.lst vs) ∈ led) (hn : l ∉ led'.map (·.1)) :
    ∃ g', (∀ b o, g.get? b = some o → g'.get? b = some o) ∧ St w mg mb s₀ g' L lo led' s ∧ g'.IsList l vs.toArray := by
  obtain ⟨g', h1, h2, h3⟩ := H.rebase hs
  obtain ⟨n, e⟩ := H.pl hm
  exact ⟨g', h1, h2, ⟨_, h3 _ _ e (H.fs.ok _ hm).2.1 hn, rfl, n, rfl⟩⟩
section
variable {M : Model} {A : Around} {E : Value → Shared → Prop} {s : Shared} {pl : Sem Bool} {Q : Value × List Value → Shared → Prop} {l : Addr} {vs : List Value}
theorem lm_of {name : Str} {id : String} (hl : s.heap.PlainList l vs.toArray) (slot : Slot "list" name id) (ty : typeOf (.builtin id) = pure (.type "method_descriptor"))
    (h : Q (.builtin id, [.ref l]) s) : wpAny M A (getMethod (.ref l) name pl) Q E s := by
  obtain ⟨n, ho⟩ := hl
  exact getMethod_builtin ⟨_, ho, rfl⟩ F.plainAttrs_list slot ty (fun a e => by cases e; exact ⟨_, ho, rfl⟩) h
theorem lm_append_ (hl : s.heap.PlainList l vs.toArray) (h : Q (.builtin "list.append", [.ref l]) s) : wpAny M A (getMethod (.ref l) (Str.ofString "append") pl) Q E s := lm_of hl F.slot_list_append F.type_list_append h
theorem lm_pop_ (hl : s.heap.PlainList l vs.toArray) (h : Q (.builtin "list.pop", [.ref l]) s) : wpAny M A (getMethod (.ref l) (Str.ofString "pop") pl) Q E s := lm_of hl F.slot_list_pop F.type_list_pop h
theorem lm_extend_ (hl : s.heap.PlainList l vs.toArray) (h : Q (.builtin "list.extend", [.ref l]) s) : wpAny M A (getMethod (.ref l) (Str.ofString "extend") pl) Q E s := lm_of hl F.slot_list_extend F.type_list_extend h
end

end Mine

end
section
open PySem PySem.W PySem.Calls PyProof.Rows
set_option Elab.async false
set_option autoImplicit false
set_option maxRecDepth 100000
set_option maxHeartbeats 4000000
set_option linter.unusedVariables false
set_option rowWalk.seconds 0
set_option pp.maxSteps 600
namespace Mine
open MeetsSeq AutoSeq1 MeetsSeq3
noncomputable def ltT : List (List Nat) → List (List Nat) → Bool
  | [], ys => decide (0 < ys.length)
  | _ :: _, [] => false
  | x :: xs, y :: ys => if x = y then ltT xs ys else decide (x < y)
theorem ltT_nil (ys : List (List Nat)) : ltT [] ys = decide (0 < ys.length) := rfl
theorem ltT_cnil (x : List Nat) (xs : List (List Nat)) : ltT (x :: xs) [] = false := rfl
theorem ltT_cons (x y : List Nat) (xs ys : List (List Nat)) : ltT (x :: xs) (y :: ys) = if x = y then ltT xs ys else decide (x < y) := rfl
theorem tv_at (ps : List (List Nat × Tok)) (i : Nat) (h : i < ps.length) : (tv ps).toArray[((i : Nat) : Int).toNat]? = some (.str (S ps[i].1) ps[i].2) := by
  simp [tv, h]
theorem tv_out (ps : List (List Nat × Tok)) (i : Nat) (h : ps.length ≤ i) : (tv ps).toArray[((i : Nat) : Int).toNat]? = none := by
  simp [tv]; exact Mine.lc [ps.length, i] [(1, .v 0, .v 1)] (1, .v 0, .v 1) rfl h
theorem drop_at {ps : List (List Nat × Tok)} {i : Nat} (h : i < ps.length) : (ps.map (·.1)).drop i = ps[i].1 :: (ps.map (·.1)).drop (i + 1) := by
  rw [List.drop_eq_getElem_cons (by simpa using h)]; simp
theorem drop_out {ps : List (List Nat × Tok)} {i : Nat} (h : ps.length ≤ i) : (ps.map (·.1)).drop i = [] := by
  rw [List.drop_eq_nil_iff]; simpa using h
theorem lt_loop (l b : Addr) (ps qs : List (List Nat × Tok)) (n n2 : Nat) (k : Nat) :
    ∀ i : Nat, ps.length + 1 - i = k → i ≤ ps.length → i ≤ qs.length → Meets (Builtin.«list.__eq__.loop» ⟨[.ref l, .ref b, rawInt i, rawInt 0], []⟩)
      (fun _ R s => s.heap.get? l = some { cls := .type "list", dict := none, data := .seq (tv ps).toArray n, slots := #[] } ∧ s.heap.get? b = some { cls := .type "list", dict := none, data := .seq (tv qs).toArray n2, slots := #[] } ∧
        R (.ok (.ret (.bool (ltT ((ps.map (·.1)).drop i) ((qs.map (·.1)).drop i))))) s) := by
  induction k with
  | zero => intro i hk h1 h2; exact Mine.lcF [ps.length + 1 - i, i, ps.length] [(1, .v 0, .n 0), (1, .v 1, .v 2), (1, .a (.v 2) (.n 1), .a (.v 0) (.v 1))] _ rfl (Nat.le_of_eq hk) h1 (Nat.sub_le_iff_le_add.mp (Nat.le_refl ( ps.length + 1 - ( i))))
  | succ k ih =>
    intro i hk h1 h2 prog w A R s h
    obtain ⟨hp, g, d, tk, os⟩ := s; obtain ⟨hl, hb, h⟩ := h
    wp_walk using wpAny_loadPart' hl, wpAny_loadPart' hb
    by_cases c1 : i < ps.length
    · by_cases c2 : i < qs.length
      · rw [tv_at ps i c1, tv_at qs i c2]
        rw [drop_at c1, drop_at c2, ltT_cons] at h
        have hc : ((i : Int) + 1) = ((i + 1 : Nat) : Int) := by push_cast; rfl
        refine wpAny_bind (eqGives_str _ _ _ _ prog w _ _ _ _ ?_)
        by_cases c3 : ps[i].1 = qs[i].1
        · rw [if_pos c3] at h
          rw [show (S ps[i].1 == S qs[i].1) = true from by rw [c3]; exact beq_self_eq_true _]
          wp_walk
          rw [hc]
          exact ⟨plainId_quiet plain_eq_loop _, codeAny_builtin entry_eq_loop (by
            rw [Around.under_plainId plain_eq_loop _]
            exact ih (i + 1) (by exact Nat.le_antisymm (Mine.lc [ps.length + 1 - i, k, ps.length, i, ps.length + 1 - (i + 1)] [(1, .v 0, .a (.v 1) (.n 1)), (1, .a (.v 2) (.n 1), .a (.v 0) (.v 3)), (1, .a (.v 4) (.a (.v 3) (.n 1)), .a (.v 2) (.n 1))] (1, .v 4, .v 1) rfl (Nat.le_of_eq hk) (Nat.sub_le_iff_le_add.mp (Nat.le_refl ( ps.length + 1 - ( i)))) (Nat.le_of_eq (Nat.sub_add_cancel (show i + 1 ≤ ps.length + 1 from Mine.lc [i, ps.length] [(1, .v 0, .v 1)] (1, .a (.v 0) (.n 1), .a (.v 1) (.n 1)) rfl h1)))) (Mine.lc [k, ps.length + 1 - i, i, ps.length, ps.length + 1 - (i + 1)] [(1, .a (.v 0) (.n 1), .v 1), (1, .a (.v 1) (.v 2), .a (.v 3) (.n 1)), (1, .a (.v 3) (.n 1), .a (.v 4) (.a (.v 2) (.n 1)))] (1, .v 0, .v 4) rfl (Nat.le_of_eq (hk).symm) (Nat.le_of_eq (Nat.sub_add_cancel (show i ≤ ps.length + 1 from Mine.lc [i, ps.length] [(1, .v 0, .v 1)] (1, .v 0, .a (.v 1) (.n 1)) rfl h1))) (Nat.sub_le_iff_le_add.mp (Nat.le_refl ( ps.length + 1 - ( i + 1)))))) c1 c2 prog w A R _ ⟨hl, hb, h⟩)⟩
        · rw [if_neg c3] at h
          rw [show (S ps[i].1 == S qs[i].1) = false from beq_eq_false_iff_ne.mpr fun e => c3 (S_inj e)]
          wp_walk using wpAny_loadPart' hl, wpAny_loadPart' hb
          rw [tv_at ps i c1, tv_at qs i c2]
          show wpAny _ _ (richCompare .Lt (.str (S ps[i].1) ps[i].2) (.str (S qs[i].1) qs[i].2) >>= fun v => ret v) _ _ _
          refine wpAny_bind (richCompare_gives (typeIs_str _ _ _) (typeIs_str _ _ _) F.slot_str_lt F.entry_str_lt (F.args_str_lt_2 _ _) (gives_str_lt _ _ _ _) (fun e => nomatch e) ?_)
          show wpAny _ _ (ret (.bool (decide ((S ps[i].1).cps.toList < (S qs[i].1).cps.toList)))) _ _ _
          rw [S_toList, S_toList]
          exact wpAny_pure h
      · rw [tv_at ps i c1, tv_out qs i (by exact Mine.lc [qs.length, i] [(1, .v 0, .v 1)] (1, .v 0, .v 1) rfl (Nat.le_of_not_lt c2))]
        rw [drop_at c1, drop_out (show qs.length ≤ i by exact Mine.lc [qs.length, i] [(1, .v 0, .v 1)] (1, .v 0, .v 1) rfl (Nat.le_of_not_lt c2)), ltT_cnil] at h
        wp_walk using wpAny_loadPart' hl, wpAny_loadPart' hb
        show R (.ok (.ret (.bool (decide ((tv ps).toArray.size < (tv qs).toArray.size))))) _
        rw [show (tv ps).toArray.size = ps.length from by simp [tv], show (tv qs).toArray.size = qs.length from by simp [tv], decide_eq_false (show ¬ ps.length < qs.length by exact Nat.not_lt.mpr (Mine.lc [i, ps.length, qs.length] [(1, .v 0, .v 1), (1, .v 2, .v 0)] (1, .v 2, .v 1) rfl h1 (Nat.le_of_not_lt c2)))]
        exact h
    · rw [tv_out ps i (by exact Mine.lc [ps.length, i] [(1, .v 0, .v 1)] (1, .v 0, .v 1) rfl (Nat.le_of_not_lt c1))]
      rw [drop_out (show ps.length ≤ i by exact Mine.lc [ps.length, i] [(1, .v 0, .v 1)] (1, .v 0, .v 1) rfl (Nat.le_of_not_lt c1)), ltT_nil] at h
      wp_walk using wpAny_loadPart' hl, wpAny_loadPart' hb
      show R (.ok (.ret (.bool (decide ((tv ps).toArray.size < (tv qs).toArray.size))))) _
      rw [show (tv ps).toArray.size = ps.length from by simp [tv], show (tv qs).toArray.size = qs.length from by simp [tv]]
      rw [show decide (ps.length < qs.length) = decide (0 < ((qs.map (·.1)).drop i).length) from by rw [List.length_drop, List.length_map]; exact decide_eq_decide.mpr (by omega)]
      exact h
theorem gt_loop (l b : Addr) (ps qs : List (List Nat × Tok)) (n n2 : Nat) (k : Nat) :
    ∀ i : Nat, ps.length + 1 - i = k → i ≤ ps.length → i ≤ qs.length → Meets (Builtin.«list.__eq__.loop» ⟨[.ref l, .ref b, rawInt i, rawInt 4], []⟩)
      (fun _ R s => s.heap.get? l = some { cls := .type "list", dict := none, data := .seq (tv ps).toArray n, slots := #[] } ∧ s.heap.get? b = some { cls := .type "list", dict := none, data := .seq (tv qs).toArray n2, slots := #[] } ∧
        R (.ok (.ret (.bool (ltT ((qs.map (·.1)).drop i) ((ps.map (·.1)).drop i))))) s) := by
  induction k with
  | zero => intro i hk h1 h2; exact Mine.lcF [ps.length + 1 - i, i, ps.length] [(1, .v 0, .n 0), (1, .v 1, .v 2), (1, .a (.v 2) (.n 1), .a (.v 0) (.v 1))] _ rfl (Nat.le_of_eq hk) h1 (Nat.sub_le_iff_le_add.mp (Nat.le_refl ( ps.length + 1 - ( i))))
  | succ k ih =>
    intro i hk h1 h2 prog w A R s h
    obtain ⟨hp, g, d, tk, os⟩ := s; obtain ⟨hl, hb, h⟩ := h
    wp_walk using wpAny_loadPart' hl, wpAny_loadPart' hb
    by_cases c1 : i < ps.length
    · by_cases c2 : i < qs.length
      · rw [tv_at ps i c1, tv_at qs i c2]
        rw [drop_at c1, drop_at c2, ltT_cons] at h
        have hc : ((i : Int) + 1) = ((i + 1 : Nat) : Int) := by push_cast; rfl
        refine wpAny_bind (eqGives_str _ _ _ _ prog w _ _ _ _ ?_)
        by_cases c3 : ps[i].1 = qs[i].1
        · rw [if_pos c3.symm] at h
          rw [show (S ps[i].1 == S qs[i].1) = true from by rw [c3]; exact beq_self_eq_true _]
          wp_walk
          rw [hc]
          exact ⟨plainId_quiet plain_eq_loop _, codeAny_builtin entry_eq_loop (by
            rw [Around.under_plainId plain_eq_loop _]
            exact ih (i + 1) (by exact Nat.le_antisymm (Mine.lc [ps.length + 1 - i, k, ps.length, i, ps.length + 1 - (i + 1)] [(1, .v 0, .a (.v 1) (.n 1)), (1, .a (.v 2) (.n 1), .a (.v 0) (.v 3)), (1, .a (.v 4) (.a (.v 3) (.n 1)), .a (.v 2) (.n 1))] (1, .v 4, .v 1) rfl (Nat.le_of_eq hk) (Nat.sub_le_iff_le_add.mp (Nat.le_refl ( ps.length + 1 - ( i)))) (Nat.le_of_eq (Nat.sub_add_cancel (show i + 1 ≤ ps.length + 1 from Mine.lc [i, ps.length] [(1, .v 0, .v 1)] (1, .a (.v 0) (.n 1), .a (.v 1) (.n 1)) rfl h1)))) (Mine.lc [k, ps.length + 1 - i, i, ps.length, ps.length + 1 - (i + 1)] [(1, .a (.v 0) (.n 1), .v 1), (1, .a (.v 1) (.v 2), .a (.v 3) (.n 1)), (1, .a (.v 3) (.n 1), .a (.v 4) (.a (.v 2) (.n 1)))] (1, .v 0, .v 4) rfl (Nat.le_of_eq (hk).symm) (Nat.le_of_eq (Nat.sub_add_cancel (show i ≤ ps.length + 1 from Mine.lc [i, ps.length] [(1, .v 0, .v 1)] (1, .v 0, .a (.v 1) (.n 1)) rfl h1))) (Nat.sub_le_iff_le_add.mp (Nat.le_refl ( ps.length + 1 - ( i + 1)))))) c1 c2 prog w A R _ ⟨hl, hb, h⟩)⟩
        · rw [if_neg (Ne.symm c3)] at h
          rw [show (S ps[i].1 == S qs[i].1) = false from beq_eq_false_iff_ne.mpr fun e => c3 (S_inj e)]
          wp_walk using wpAny_loadPart' hl, wpAny_loadPart' hb
          rw [tv_at ps i c1, tv_at qs i c2]
          show wpAny _ _ (richCompare .Gt (.str (S ps[i].1) ps[i].2) (.str (S qs[i].1) qs[i].2) >>= fun v => ret v) _ _ _
          refine wpAny_bind (richCompare_gives (typeIs_str _ _ _) (typeIs_str _ _ _) F.slot_str_gt F.entry_str_gt (F.args_str_gt_2 _ _) (gives_str_gt _ _ _ _) (fun e => nomatch e) ?_)
          show wpAny _ _ (ret (.bool (decide ((S qs[i].1).cps.toList < (S ps[i].1).cps.toList)))) _ _ _
          rw [S_toList, S_toList]
          exact wpAny_pure h
      · rw [tv_at ps i c1, tv_out qs i (by exact Mine.lc [qs.length, i] [(1, .v 0, .v 1)] (1, .v 0, .v 1) rfl (Nat.le_of_not_lt c2))]
        rw [drop_out (show qs.length ≤ i by exact Mine.lc [qs.length, i] [(1, .v 0, .v 1)] (1, .v 0, .v 1) rfl (Nat.le_of_not_lt c2)), ltT_nil] at h
        wp_walk using wpAny_loadPart' hl, wpAny_loadPart' hb
        show R (.ok (.ret (.bool (decide ((tv ps).toArray.size > (tv qs).toArray.size))))) _
        rw [show (tv ps).toArray.size = ps.length from by simp [tv], show (tv qs).toArray.size = qs.length from by simp [tv]]
        rw [show decide (ps.length > qs.length) = decide (0 < ((ps.map (·.1)).drop i).length) from by rw [List.length_drop, List.length_map]; exact decide_eq_decide.mpr (by omega)]
        exact h
    · rw [tv_out ps i (by exact Mine.lc [ps.length, i] [(1, .v 0, .v 1)] (1, .v 0, .v 1) rfl (Nat.le_of_not_lt c1))]
      rw [drop_out (show ps.length ≤ i by exact Mine.lc [ps.length, i] [(1, .v 0, .v 1)] (1, .v 0, .v 1) rfl (Nat.le_of_not_lt c1))] at h
      wp_walk using wpAny_loadPart' hl, wpAny_loadPart' hb
      show R (.ok (.ret (.bool (decide ((tv ps).toArray.size > (tv qs).toArray.size))))) _
      rw [show (tv ps).toArray.size = ps.length from by simp [tv], show (tv qs).toArray.size = qs.length from by simp [tv], decide_eq_false (show ¬ ps.length > qs.length by omega)]
      by_cases c2 : i < qs.length
      · rw [drop_at c2, ltT_cnil] at h; exact h
      · rw [drop_out (show qs.length ≤ i by exact Mine.lc [qs.length, i] [(1, .v 0, .v 1)] (1, .v 0, .v 1) rfl (Nat.le_of_not_lt c2)), ltT_nil] at h; exact h

section
variable {prog : Program} {w : World} {A : Around} {E : Value → Shared → Prop} {s : Shared} {Q : Value → Shared → Prop} {l b : Addr} {ps qs : List (List Nat × Tok)}
theorem list_lt (l b : Addr) (ps qs : List (List Nat × Tok)) (n n2 : Nat) :
    Meets (Builtin.«list.__lt__» ⟨[.ref l, .ref b], []⟩)
      (fun _ R s => s.heap.get? l = some { cls := .type "list", dict := none, data := .seq (tv ps).toArray n, slots := #[] } ∧ s.heap.get? b = some { cls := .type "list", dict := none, data := .seq (tv qs).toArray n2, slots := #[] } ∧
        R (.ok (.ret (.bool (ltT (ps.map (·.1)) (qs.map (·.1)))))) s) := by
  intro prog w A R s h
  obtain ⟨hp, g, d, tk, os⟩ := s; obtain ⟨hl, hb, h⟩ := h
  have f3 := AutoSeq1.sub_list_list
  wp_walk using wpAny_loadPart' hl, wpAny_loadPart' hb
  exact ⟨plainId_quiet plain_eq_loop _, codeAny_builtin entry_eq_loop (by
    rw [Around.under_plainId plain_eq_loop _]
    exact lt_loop l b ps qs n n2 _ 0 rfl (Nat.zero_le _) (Nat.zero_le _) prog w A R _ ⟨hl, hb, h⟩)⟩
theorem list_gt (l b : Addr) (ps qs : List (List Nat × Tok)) (n n2 : Nat) :
    Meets (Builtin.«list.__gt__» ⟨[.ref l, .ref b], []⟩)
      (fun _ R s => s.heap.get? l = some { cls := .type "list", dict := none, data := .seq (tv ps).toArray n, slots := #[] } ∧ s.heap.get? b = some { cls := .type "list", dict := none, data := .seq (tv qs).toArray n2, slots := #[] } ∧
        R (.ok (.ret (.bool (ltT (qs.map (·.1)) (ps.map (·.1)))))) s) := by
  intro prog w A R s h
  obtain ⟨hp, g, d, tk, os⟩ := s; obtain ⟨hl, hb, h⟩ := h
  have f3 := AutoSeq1.sub_list_list
  wp_walk using wpAny_loadPart' hl, wpAny_loadPart' hb
  exact ⟨plainId_quiet plain_eq_loop _, codeAny_builtin entry_eq_loop (by
    rw [Around.under_plainId plain_eq_loop _]
    exact gt_loop l b ps qs n n2 _ 0 rfl (Nat.zero_le _) (Nat.zero_le _) prog w A R _ ⟨hl, hb, h⟩)⟩
theorem rich_lt (hl : s.heap.PlainList l (tv ps).toArray) (hb : s.heap.PlainList b (tv qs).toArray) (hu : A.units < cLine) (h : Q (.bool (ltT (ps.map (·.1)) (qs.map (·.1)))) s) :
    wpAny (model prog w) A (richCompare .Lt (.ref l) (.ref b)) Q E s := by
  obtain ⟨n, hl⟩ := hl
  obtain ⟨n2, hb⟩ := hb
  exact richCompare_meets_room ⟨_, hl, rfl⟩ ⟨_, hb, rfl⟩ F.slot_list_lt F.entry_list_lt (F.args_list_lt_2 _ _) (list_lt l b ps qs n n2) ⟨hl, hb, fun e => (nomatch e), h⟩ hu
theorem rich_gt (hl : s.heap.PlainList l (tv ps).toArray) (hb : s.heap.PlainList b (tv qs).toArray) (hu : A.units < cLine) (h : Q (.bool (ltT (qs.map (·.1)) (ps.map (·.1)))) s) :
    wpAny (model prog w) A (richCompare .Gt (.ref l) (.ref b)) Q E s := by
  obtain ⟨n, hl⟩ := hl
  obtain ⟨n2, hb⟩ := hb
  exact richCompare_meets_room ⟨_, hl, rfl⟩ ⟨_, hb, rfl⟩ F.slot_list_gt F.entry_list_gt (F.args_list_gt_2 _ _) (list_gt l b ps qs n n2) ⟨hl, hb, fun e => (nomatch e), h⟩ hu
end

end Mine

end
section
open PySem PySem.W PySem.Calls PyProof.Rows
set_option Elab.async false
set_option autoImplicit false
set_option maxRecDepth 100000
set_option maxHeartbeats 4000000
set_option linter.unusedVariables false
set_option rowWalk.seconds 0
set_option pp.maxSteps 600
namespace Mine

noncomputable def Sub (g h : Heap) : Prop := ∀ b o, g.get? b = some o → h.get? b = some o
noncomputable def CmpAt (prog : Program) (w : World) (A : Around) (op : CmpOp) (g : Heap) (P : Nat → Value → Prop) (bt : Nat → Nat → Bool) : Prop :=
  ∀ i j vi vj (s : Shared) (Q : Value → Shared → Prop) (E : Value → Shared → Prop), Sub g s.heap → P i vi → P j vj → Q (.bool (bt i j)) s → wpAny (model prog w) A (richCompare op vi vj) Q E s

section
variable {prog : Program} {w : World} {A : Around} {R : Result → Shared → Prop} {I : Addr} {fp wr : List Addr} {n : Nat} {P : Nat → Value → Prop} {Sti : Nat → Heap → Prop} {g : Heap}
theorem min_loopK (W : Walks prog w A.in1 I fp wr n P Sti) (bt : Nat → Nat → Bool) (hcmp : CmpAt prog w A.in1 .Lt g P bt) (hgw : ∀ b ∈ wr, g.get? b = none) (D : Addr) (hDf : D ∉ fp) (hgD : g.get? D = none) :
    ∀ (k j : Nat) (s : Shared) (vb : Value) (c : Nat), n - (j + 1) = k → j + 1 ≤ n → Sti (j + 1) s.heap → Sub g s.heap → P (argBest bt j) vb →
    s.heap.get? D = some { cls := .type "list", dict := none, data := .seq #[vb, vb] c, slots := #[] } →
    (∀ v h' tk, P (argBest bt (n - 1)) v → (∀ b o, b ∉ wr → b ≠ D → s.heap.get? b = some o → h'.get? b = some o) → R (.ok (.ret v)) { s with heap := h', toks := tk }) →
    codeAny (model prog w) A (.builtin "min.loop" ⟨[.ref I, .none, .ref D], []⟩) R s := by
  have hDw : D ∉ wr := fun h => hDf (W.sub _ h)
  have hname : (toString "min" ++ toString ".loop" : String) = "min.loop" := by decide
  intro k
  induction k with
  | zero =>
    intro j s vb c hk hj hst hsub hPb hS hR
    have hin : j + 1 = n := by exact Nat.le_antisymm (Mine.lc [j, n] [(1, .a (.v 0) (.n 1), .v 1)] (1, .a (.v 0) (.n 1), .v 1) rfl hj) (Mine.lc [n - (j + 1), n, j] [(1, .v 0, .n 0), (1, .v 1, .a (.v 0) (.a (.v 2) (.n 1)))] (1, .v 1, .a (.v 2) (.n 1)) rfl (Nat.le_of_eq hk) (Nat.sub_le_iff_le_add.mp (Nat.le_refl ( n - ( j + 1)))))
    refine codeAny_builtin F.entry_min_loop ?_
    rw [Around.under_plainId F.plain_min_loop _]
    show wpAny _ A.in1 (seqItems? (.ref D) >>= _) _ _ s
    refine wpAny_bind (wpAny_seqItems hS rfl ?_)
    show wpAny _ A.in1 (tryCatch (pyNext (.ref I)) _ >>= _) _ _ s
    refine wpAny_bind (wpAny_tryCatch (W.done s _ _ (hin ▸ hst) fun h' tk hk' => ?_))
    have hS' := hk' D _ hDw hS
    show wpAny _ A.in1 (updateSeq D (fun _ => #[]) >>= _) _ _ _
    refine wpAny_bind ?_
    refine wpAny_updateSeq hS' rfl (wpAny_bind (wpAny_letGo (wpAny_pure ?_)))
    refine hR vb _ tk (by rw [← hin]; exact hPb) fun b o hbw hbS e => (Heap.get?_update_other _ _ (Ne.symm hbS)).trans (hk' b o hbw e)
  | succ k ih =>
    intro j s vb c hk hj hst hsub hPb hS hR
    have hlt : j + 1 < n := by exact Mine.lc [k, n - (j + 1), j, n] [(1, .a (.v 0) (.n 1), .v 1), (1, .a (.v 1) (.a (.v 2) (.n 1)), .v 3)] (1, .a (.a (.v 2) (.n 1)) (.n 1), .v 3) rfl (Nat.le_of_eq (hk).symm) (Nat.le_of_eq (Nat.sub_add_cancel (show j + 1 ≤ n from Mine.lc [j, n] [(1, .a (.v 0) (.n 1), .v 1)] (1, .a (.v 0) (.n 1), .v 1) rfl hj)))
    refine codeAny_builtin F.entry_min_loop ?_
    rw [Around.under_plainId F.plain_min_loop _]
    show wpAny _ A.in1 (seqItems? (.ref D) >>= _) _ _ s
    refine wpAny_bind (wpAny_seqItems hS rfl ?_)
    show wpAny _ A.in1 (tryCatch (pyNext (.ref I)) _ >>= _) _ _ s
    refine wpAny_bind (wpAny_tryCatch (W.item (j + 1) s _ _ hlt hst fun v h' tk hP hst' hk' => ?_))
    have hS' := hk' D _ hDw hS
    have hsub' : Sub g h' := fun b o e => hk' b o (fun hm => by rw [hgw b hm] at e; cases e) (hsub b o e)
    show wpAny _ A.in1 (tryCatch (holding [v, v] (richCompare .Lt v vb >>= _)) _ >>= _) _ _ _
    refine wpAny_bind (wpAny_tryCatch (wpAny_holding (wpAny_bind (hcmp (j + 1) (argBest bt j) v vb _ _ _ hsub' hP hPb ?_))))
    refine wpAny_bind (wpAny_holding (wpAny_truthy_bool ?_))
    refine wpAny_bind (wpAny_letGo (wpAny_pure ?_))
    cases hb : bt (j + 1) (argBest bt j) with
    | true =>
      simp only [if_true]
      refine wpAny_bind ?_
      refine wpAny_updateSeq hS' rfl (wpAny_bind (wpAny_letGo ?_))
      rw [hname]
      refine wpAny_pure ⟨plainId_quiet F.plain_min_loop _, ih (j + 1) _ v _ (by exact Nat.le_antisymm (Mine.lc [n - (j + 1), k, n, j, n - (j + 1 + 1)] [(1, .v 0, .a (.v 1) (.n 1)), (1, .v 2, .a (.v 0) (.a (.v 3) (.n 1))), (1, .a (.v 4) (.a (.a (.v 3) (.n 1)) (.n 1)), .v 2)] (1, .v 4, .v 1) rfl (Nat.le_of_eq hk) (Nat.sub_le_iff_le_add.mp (Nat.le_refl ( n - ( j + 1)))) (Nat.le_of_eq (Nat.sub_add_cancel (show j + 1 + 1 ≤ n from Mine.lc [j, n] [(1, .a (.a (.v 0) (.n 1)) (.n 1), .v 1)] (1, .a (.a (.v 0) (.n 1)) (.n 1), .v 1) rfl hlt)))) (Mine.lc [k, n - (j + 1), j, n, n - (j + 1 + 1)] [(1, .a (.v 0) (.n 1), .v 1), (1, .a (.v 1) (.a (.v 2) (.n 1)), .v 3), (1, .v 3, .a (.v 4) (.a (.a (.v 2) (.n 1)) (.n 1)))] (1, .v 0, .v 4) rfl (Nat.le_of_eq (hk).symm) (Nat.le_of_eq (Nat.sub_add_cancel (show j + 1 ≤ n from Mine.lc [j, n] [(1, .a (.v 0) (.n 1), .v 1)] (1, .a (.v 0) (.n 1), .v 1) rfl hj))) (Nat.sub_le_iff_le_add.mp (Nat.le_refl ( n - ( j + 1 + 1)))))) hlt (W.frame _ _ _ hst' fun b hbf o e => ?_) (fun b o e => (Heap.get?_update_other _ _ (fun h : D = b => by rw [← h, hgD] at e; cases e)).trans (hsub' b o e)) (by simp only [argBest, hb, if_true]; exact hP) (Heap.get?_update_self _ hS' rfl)
        fun v' h'' tk'' hP' hk'' => ?_⟩
      · exact (Heap.get?_update_other _ _ (fun h : D = b => hDf (by rw [h]; exact hbf))).trans e
      · exact hR v' h'' tk'' hP' fun b o hbw hbS e => hk'' b o hbw hbS ((Heap.get?_update_other _ _ (Ne.symm hbS)).trans (hk' b o hbw e))
    | false =>
      simp only [Bool.false_eq_true, if_false]
      refine wpAny_bind (wpAny_letGo ?_)
      rw [hname]
      refine wpAny_pure ⟨plainId_quiet F.plain_min_loop _, ih (j + 1) _ vb c (by exact Nat.le_antisymm (Mine.lc [n - (j + 1), k, n, j, n - (j + 1 + 1)] [(1, .v 0, .a (.v 1) (.n 1)), (1, .v 2, .a (.v 0) (.a (.v 3) (.n 1))), (1, .a (.v 4) (.a (.a (.v 3) (.n 1)) (.n 1)), .v 2)] (1, .v 4, .v 1) rfl (Nat.le_of_eq hk) (Nat.sub_le_iff_le_add.mp (Nat.le_refl ( n - ( j + 1)))) (Nat.le_of_eq (Nat.sub_add_cancel (show j + 1 + 1 ≤ n from Mine.lc [j, n] [(1, .a (.a (.v 0) (.n 1)) (.n 1), .v 1)] (1, .a (.a (.v 0) (.n 1)) (.n 1), .v 1) rfl hlt)))) (Mine.lc [k, n - (j + 1), j, n, n - (j + 1 + 1)] [(1, .a (.v 0) (.n 1), .v 1), (1, .a (.v 1) (.a (.v 2) (.n 1)), .v 3), (1, .v 3, .a (.v 4) (.a (.a (.v 2) (.n 1)) (.n 1)))] (1, .v 0, .v 4) rfl (Nat.le_of_eq (hk).symm) (Nat.le_of_eq (Nat.sub_add_cancel (show j + 1 ≤ n from Mine.lc [j, n] [(1, .a (.v 0) (.n 1), .v 1)] (1, .a (.v 0) (.n 1), .v 1) rfl hj))) (Nat.sub_le_iff_le_add.mp (Nat.le_refl ( n - ( j + 1 + 1)))))) hlt hst' hsub' (by simp only [argBest, hb, Bool.false_eq_true, if_false]; exact hPb) hS' fun v' h'' tk'' hP' hk'' => ?_⟩
      exact hR v' h'' tk'' hP' fun b o hbw hbS e => hk'' b o hbw hbS (hk' b o hbw e)
end

section
variable {prog : Program} {w : World} {A : Around} {E : Value → Shared → Prop} {s : Shared}
theorem call_min_K {x : Value} {Q : Value → Shared → Prop}
    (h : wpAny (model prog w) A.in1 (pyIter x) (fun it s₂ => ∃ I fp wr n P Sti bt g, it = .ref I ∧ Walks prog w A.in1 I fp wr n P Sti ∧ Sti 0 s₂.heap ∧ (∀ b ∈ fp, b < s₂.heap.objs.size) ∧ 0 < n ∧ CmpAt prog w A.in1 .Lt g P bt ∧ Sub g s₂.heap ∧ (∀ b ∈ wr, g.get? b = none) ∧
      ∀ v h' tk, P (argBest bt (n - 1)) v → (∀ b o, b ∉ wr → s₂.heap.get? b = some o → h'.get? b = some o) → Q v { s₂ with heap := h', toks := tk }) E s) :
    wpAny (model prog w) A (call (.builtin "min") [x]) Q E s := by
  have hname : (toString "min" ++ toString ".loop" : String) = "min.loop" := by decide
  refine call_function_tree F.kind_min F.plain_min F.entry_min (F.args_min1 _) ?_
  show wpAny _ A.in1 (Builtin.Builtins.bindParams "min" ["key", "default"] 0 ⟨[], []⟩ >>= _) _ _ s
  refine wpAny_bind (wpAny_of_eq (show Builtin.Builtins.bindParams "min" ["key", "default"] 0 ⟨[], []⟩ = pure [none, none] from rfl) ?_)
  refine wpAny_bind (wpAny_pure ?_)
  refine wpAny_bind (wpAny_mono h (fun it s₂ h₂ => ?_) fun _ _ e => e)
  obtain ⟨I, fp, wr, n, P, Sti, bt, g, rfl, W, hst, hfp, hn, hcmp, hsub, hgw, hQ⟩ := h₂
  refine wpAny_bind (wpAny_newObj_type ?_)
  have hDf : s₂.heap.objs.size ∉ fp := fun hm => Nat.lt_irrefl _ (hfp _ hm)
  have hDw : s₂.heap.objs.size ∉ wr := fun h => hDf (W.sub _ h)
  have hgD : g.get? s₂.heap.objs.size = none := by
    cases e : g.get? s₂.heap.objs.size with
    | none => rfl
    | some o => exact absurd (Heap.lt_size (hsub _ _ e)) (Nat.lt_irrefl _)
  rw [hname]
  refine wpAny_pure ⟨plainId_quiet F.plain_min_loop _, codeAny_builtin F.entry_min_loop ?_⟩
  rw [Around.under_plainId F.plain_min_loop _]
  have hS₀ : (s₂.heap.push { cls := .type "list", data := .seq #[] }).get? s₂.heap.objs.size = some { cls := .type "list", data := .seq #[] } := Heap.get?_push_size _ rfl
  show wpAny _ A.in1 (seqItems? (.ref s₂.heap.objs.size) >>= _) _ _ _
  refine wpAny_bind (wpAny_seqItems hS₀ rfl ?_)
  show wpAny _ A.in1 (tryCatch (pyNext (.ref I)) _ >>= _) _ _ _
  refine wpAny_bind (wpAny_tryCatch (W.item 0 _ _ _ hn (W.frame _ _ _ hst fun b _ o e => Heap.get?_push_of_some _ e) fun v h' tk hP hst' hk' => ?_))
  have hS' := hk' _ _ hDw hS₀
  have hsub' : Sub g h' := fun b o e => hk' b o (fun hm => by rw [hgw b hm] at e; cases e) (Heap.get?_push_of_some _ (hsub b o e))
  show wpAny _ A.in1 (updateSeq s₂.heap.objs.size (fun _ => #[v, v]) >>= _) _ _ _
  refine wpAny_bind ?_
  refine wpAny_updateSeq hS' rfl ?_
  rw [hname]
  refine wpAny_pure ⟨plainId_quiet F.plain_min_loop _, min_loopK W bt hcmp hgw _ hDf hgD _ 0 _ v _ rfl hn (W.frame _ _ _ hst' fun b hbf o e => ?_) (fun b o e => (Heap.get?_update_other _ _ (fun h : s₂.heap.objs.size = b => by rw [← h, hgD] at e; cases e)).trans (hsub' b o e)) hP (Heap.get?_update_self _ hS' rfl) fun v' h'' tk'' hP' hk'' => ?_⟩
  · exact (Heap.get?_update_other _ _ (fun h : s₂.heap.objs.size = b => hDf (by rw [h]; exact hbf))).trans e
  · exact hQ v' h'' tk'' hP' fun b o hbw e => by
      have hne : b ≠ s₂.heap.objs.size := Nat.ne_of_lt (Heap.lt_size e)
      exact hk'' b o hbw hne ((Heap.get?_update_other _ _ (Ne.symm hne)).trans (hk' b o hbw (Heap.get?_push_of_some _ e)))
end

section
variable {prog : Program} {w : World} {A : Around} {R : Result → Shared → Prop} {I : Addr} {fp wr : List Addr} {n : Nat} {P : Nat → Value → Prop} {Sti : Nat → Heap → Prop} {g : Heap}
theorem max_loopK (W : Walks prog w A.in1 I fp wr n P Sti) (bt : Nat → Nat → Bool) (hcmp : CmpAt prog w A.in1 .Gt g P bt) (hgw : ∀ b ∈ wr, g.get? b = none) (D : Addr) (hDf : D ∉ fp) (hgD : g.get? D = none) :
    ∀ (k j : Nat) (s : Shared) (vb : Value) (c : Nat), n - (j + 1) = k → j + 1 ≤ n → Sti (j + 1) s.heap → Sub g s.heap → P (argBest bt j) vb →
    s.heap.get? D = some { cls := .type "list", dict := none, data := .seq #[vb, vb] c, slots := #[] } →
    (∀ v h' tk, P (argBest bt (n - 1)) v → (∀ b o, b ∉ wr → b ≠ D → s.heap.get? b = some o → h'.get? b = some o) → R (.ok (.ret v)) { s with heap := h', toks := tk }) →
    codeAny (model prog w) A (.builtin "max.loop" ⟨[.ref I, .none, .ref D], []⟩) R s := by
  have hDw : D ∉ wr := fun h => hDf (W.sub _ h)
  have hname : (toString "max" ++ toString ".loop" : String) = "max.loop" := by decide
  intro k
  induction k with
  | zero =>
    intro j s vb c hk hj hst hsub hPb hS hR
    have hin : j + 1 = n := by exact Nat.le_antisymm (Mine.lc [j, n] [(1, .a (.v 0) (.n 1), .v 1)] (1, .a (.v 0) (.n 1), .v 1) rfl hj) (Mine.lc [n - (j + 1), n, j] [(1, .v 0, .n 0), (1, .v 1, .a (.v 0) (.a (.v 2) (.n 1)))] (1, .v 1, .a (.v 2) (.n 1)) rfl (Nat.le_of_eq hk) (Nat.sub_le_iff_le_add.mp (Nat.le_refl ( n - ( j + 1)))))
    refine codeAny_builtin F.entry_max_loop ?_
    rw [Around.under_plainId F.plain_max_loop _]
    show wpAny _ A.in1 (seqItems? (.ref D) >>= _) _ _ s
    refine wpAny_bind (wpAny_seqItems hS rfl ?_)
    show wpAny _ A.in1 (tryCatch (pyNext (.ref I)) _ >>= _) _ _ s
    refine wpAny_bind (wpAny_tryCatch (W.done s _ _ (hin ▸ hst) fun h' tk hk' => ?_))
    have hS' := hk' D _ hDw hS
    show wpAny _ A.in1 (updateSeq D (fun _ => #[]) >>= _) _ _ _
    refine wpAny_bind ?_
    refine wpAny_updateSeq hS' rfl (wpAny_bind (wpAny_letGo (wpAny_pure ?_)))
    refine hR vb _ tk (by rw [← hin]; exact hPb) fun b o hbw hbS e => (Heap.get?_update_other _ _ (Ne.symm hbS)).trans (hk' b o hbw e)
  | succ k ih =>
    intro j s vb c hk hj hst hsub hPb hS hR
    have hlt : j + 1 < n := by exact Mine.lc [k, n - (j + 1), j, n] [(1, .a (.v 0) (.n 1), .v 1), (1, .a (.v 1) (.a (.v 2) (.n 1)), .v 3)] (1, .a (.a (.v 2) (.n 1)) (.n 1), .v 3) rfl (Nat.le_of_eq (hk).symm) (Nat.le_of_eq (Nat.sub_add_cancel (show j + 1 ≤ n from Mine.lc [j, n] [(1, .a (.v 0) (.n 1), .v 1)] (1, .a (.v 0) (.n 1), .v 1) rfl hj)))
    refine codeAny_builtin F.entry_max_loop ?_
    rw [Around.under_plainId F.plain_max_loop _]
    show wpAny _ A.in1 (seqItems? (.ref D) >>= _) _ _ s
    refine wpAny_bind (wpAny_seqItems hS rfl ?_)
    show wpAny _ A.in1 (tryCatch (pyNext (.ref I)) _ >>= _) _ _ s
    refine wpAny_bind (wpAny_tryCatch (W.item (j + 1) s _ _ hlt hst fun v h' tk hP hst' hk' => ?_))
    have hS' := hk' D _ hDw hS
    have hsub' : Sub g h' := fun b o e => hk' b o (fun hm => by rw [hgw b hm] at e; cases e) (hsub b o e)
    show wpAny _ A.in1 (tryCatch (holding [v, v] (richCompare .Gt v vb >>= _)) _ >>= _) _ _ _
    refine wpAny_bind (wpAny_tryCatch (wpAny_holding (wpAny_bind (hcmp (j + 1) (argBest bt j) v vb _ _ _ hsub' hP hPb ?_))))
    refine wpAny_bind (wpAny_holding (wpAny_truthy_bool ?_))
    refine wpAny_bind (wpAny_letGo (wpAny_pure ?_))
    cases hb : bt (j + 1) (argBest bt j) with
    | true =>
      simp only [if_true]
      refine wpAny_bind ?_
      refine wpAny_updateSeq hS' rfl (wpAny_bind (wpAny_letGo ?_))
      rw [hname]
      refine wpAny_pure ⟨plainId_quiet F.plain_max_loop _, ih (j + 1) _ v _ (by exact Nat.le_antisymm (Mine.lc [n - (j + 1), k, n, j, n - (j + 1 + 1)] [(1, .v 0, .a (.v 1) (.n 1)), (1, .v 2, .a (.v 0) (.a (.v 3) (.n 1))), (1, .a (.v 4) (.a (.a (.v 3) (.n 1)) (.n 1)), .v 2)] (1, .v 4, .v 1) rfl (Nat.le_of_eq hk) (Nat.sub_le_iff_le_add.mp (Nat.le_refl ( n - ( j + 1)))) (Nat.le_of_eq (Nat.sub_add_cancel (show j + 1 + 1 ≤ n from Mine.lc [j, n] [(1, .a (.a (.v 0) (.n 1)) (.n 1), .v 1)] (1, .a (.a (.v 0) (.n 1)) (.n 1), .v 1) rfl hlt)))) (Mine.lc [k, n - (j + 1), j, n, n - (j + 1 + 1)] [(1, .a (.v 0) (.n 1), .v 1), (1, .a (.v 1) (.a (.v 2) (.n 1)), .v 3), (1, .v 3, .a (.v 4) (.a (.a (.v 2) (.n 1)) (.n 1)))] (1, .v 0, .v 4) rfl (Nat.le_of_eq (hk).symm) (Nat.le_of_eq (Nat.sub_add_cancel (show j + 1 ≤ n from Mine.lc [j, n] [(1, .a (.v 0) (.n 1), .v 1)] (1, .a (.v 0) (.n 1), .v 1) rfl hj))) (Nat.sub_le_iff_le_add.mp (Nat.le_refl ( n - ( j + 1 + 1)))))) hlt (W.frame _ _ _ hst' fun b hbf o e => ?_) (fun b o e => (Heap.get?_update_other _ _ (fun h : D = b => by rw [← h, hgD] at e; cases e)).trans (hsub' b o e)) (by simp only [argBest, hb, if_true]; exact hP) (Heap.get?_update_self _ hS' rfl)
        fun v' h'' tk'' hP' hk'' => ?_⟩
      · exact (Heap.get?_update_other _ _ (fun h : D = b => hDf (by rw [h]; exact hbf))).trans e
      · exact hR v' h'' tk'' hP' fun b o hbw hbS e => hk'' b o hbw hbS ((Heap.get?_update_other _ _ (Ne.symm hbS)).trans (hk' b o hbw e))
    | false =>
      simp only [Bool.false_eq_true, if_false]
      refine wpAny_bind (wpAny_letGo ?_)
      rw [hname]
      refine wpAny_pure ⟨plainId_quiet F.plain_max_loop _, ih (j + 1) _ vb c (by exact Nat.le_antisymm (Mine.lc [n - (j + 1), k, n, j, n - (j + 1 + 1)] [(1, .v 0, .a (.v 1) (.n 1)), (1, .v 2, .a (.v 0) (.a (.v 3) (.n 1))), (1, .a (.v 4) (.a (.a (.v 3) (.n 1)) (.n 1)), .v 2)] (1, .v 4, .v 1) rfl (Nat.le_of_eq hk) (Nat.sub_le_iff_le_add.mp (Nat.le_refl ( n - ( j + 1)))) (Nat.le_of_eq (Nat.sub_add_cancel (show j + 1 + 1 ≤ n from Mine.lc [j, n] [(1, .a (.a (.v 0) (.n 1)) (.n 1), .v 1)] (1, .a (.a (.v 0) (.n 1)) (.n 1), .v 1) rfl hlt)))) (Mine.lc [k, n - (j + 1), j, n, n - (j + 1 + 1)] [(1, .a (.v 0) (.n 1), .v 1), (1, .a (.v 1) (.a (.v 2) (.n 1)), .v 3), (1, .v 3, .a (.v 4) (.a (.a (.v 2) (.n 1)) (.n 1)))] (1, .v 0, .v 4) rfl (Nat.le_of_eq (hk).symm) (Nat.le_of_eq (Nat.sub_add_cancel (show j + 1 ≤ n from Mine.lc [j, n] [(1, .a (.v 0) (.n 1), .v 1)] (1, .a (.v 0) (.n 1), .v 1) rfl hj))) (Nat.sub_le_iff_le_add.mp (Nat.le_refl ( n - ( j + 1 + 1)))))) hlt hst' hsub' (by simp only [argBest, hb, Bool.false_eq_true, if_false]; exact hPb) hS' fun v' h'' tk'' hP' hk'' => ?_⟩
      exact hR v' h'' tk'' hP' fun b o hbw hbS e => hk'' b o hbw hbS (hk' b o hbw e)
end

section
variable {prog : Program} {w : World} {A : Around} {E : Value → Shared → Prop} {s : Shared}
theorem call_max_K {x : Value} {Q : Value → Shared → Prop}
    (h : wpAny (model prog w) A.in1 (pyIter x) (fun it s₂ => ∃ I fp wr n P Sti bt g, it = .ref I ∧ Walks prog w A.in1 I fp wr n P Sti ∧ Sti 0 s₂.heap ∧ (∀ b ∈ fp, b < s₂.heap.objs.size) ∧ 0 < n ∧ CmpAt prog w A.in1 .Gt g P bt ∧ Sub g s₂.heap ∧ (∀ b ∈ wr, g.get? b = none) ∧
      ∀ v h' tk, P (argBest bt (n - 1)) v → (∀ b o, b ∉ wr → s₂.heap.get? b = some o → h'.get? b = some o) → Q v { s₂ with heap := h', toks := tk }) E s) :
    wpAny (model prog w) A (call (.builtin "max") [x]) Q E s := by
  have hname : (toString "max" ++ toString ".loop" : String) = "max.loop" := by decide
  refine call_function_tree F.kind_max F.plain_max F.entry_max (F.args_max1 _) ?_
  show wpAny _ A.in1 (Builtin.Builtins.bindParams "max" ["key", "default"] 0 ⟨[], []⟩ >>= _) _ _ s
  refine wpAny_bind (wpAny_of_eq (show Builtin.Builtins.bindParams "max" ["key", "default"] 0 ⟨[], []⟩ = pure [none, none] from rfl) ?_)
  refine wpAny_bind (wpAny_pure ?_)
  refine wpAny_bind (wpAny_mono h (fun it s₂ h₂ => ?_) fun _ _ e => e)
  obtain ⟨I, fp, wr, n, P, Sti, bt, g, rfl, W, hst, hfp, hn, hcmp, hsub, hgw, hQ⟩ := h₂
  refine wpAny_bind (wpAny_newObj_type ?_)
  have hDf : s₂.heap.objs.size ∉ fp := fun hm => Nat.lt_irrefl _ (hfp _ hm)
  have hDw : s₂.heap.objs.size ∉ wr := fun h => hDf (W.sub _ h)
  have hgD : g.get? s₂.heap.objs.size = none := by
    cases e : g.get? s₂.heap.objs.size with
    | none => rfl
    | some o => exact absurd (Heap.lt_size (hsub _ _ e)) (Nat.lt_irrefl _)
  rw [hname]
  refine wpAny_pure ⟨plainId_quiet F.plain_max_loop _, codeAny_builtin F.entry_max_loop ?_⟩
  rw [Around.under_plainId F.plain_max_loop _]
  have hS₀ : (s₂.heap.push { cls := .type "list", data := .seq #[] }).get? s₂.heap.objs.size = some { cls := .type "list", data := .seq #[] } := Heap.get?_push_size _ rfl
  show wpAny _ A.in1 (seqItems? (.ref s₂.heap.objs.size) >>= _) _ _ _
  refine wpAny_bind (wpAny_seqItems hS₀ rfl ?_)
  show wpAny _ A.in1 (tryCatch (pyNext (.ref I)) _ >>= _) _ _ _
  refine wpAny_bind (wpAny_tryCatch (W.item 0 _ _ _ hn (W.frame _ _ _ hst fun b _ o e => Heap.get?_push_of_some _ e) fun v h' tk hP hst' hk' => ?_))
  have hS' := hk' _ _ hDw hS₀
  have hsub' : Sub g h' := fun b o e => hk' b o (fun hm => by rw [hgw b hm] at e; cases e) (Heap.get?_push_of_some _ (hsub b o e))
  show wpAny _ A.in1 (updateSeq s₂.heap.objs.size (fun _ => #[v, v]) >>= _) _ _ _
  refine wpAny_bind ?_
  refine wpAny_updateSeq hS' rfl ?_
  rw [hname]
  refine wpAny_pure ⟨plainId_quiet F.plain_max_loop _, max_loopK W bt hcmp hgw _ hDf hgD _ 0 _ v _ rfl hn (W.frame _ _ _ hst' fun b hbf o e => ?_) (fun b o e => (Heap.get?_update_other _ _ (fun h : s₂.heap.objs.size = b => by rw [← h, hgD] at e; cases e)).trans (hsub' b o e)) hP (Heap.get?_update_self _ hS' rfl) fun v' h'' tk'' hP' hk'' => ?_⟩
  · exact (Heap.get?_update_other _ _ (fun h : s₂.heap.objs.size = b => hDf (by rw [h]; exact hbf))).trans e
  · exact hQ v' h'' tk'' hP' fun b o hbw e => by
      have hne : b ≠ s₂.heap.objs.size := Nat.ne_of_lt (Heap.lt_size e)
      exact hk'' b o hbw hne ((Heap.get?_update_other _ _ (Ne.symm hne)).trans (hk' b o hbw (Heap.get?_push_of_some _ e)))
end

end Mine

end
section
open PySem PySem.W PySem.Calls PyProof.Rows
set_option Elab.async false
set_option autoImplicit false
set_option maxRecDepth 100000
set_option maxHeartbeats 4000000
set_option linter.unusedVariables false
set_option rowWalk.seconds 0
set_option pp.maxSteps 600
namespace Mine
theorem ltT_irrefl : ∀ xs, ltT xs xs = false
  | [] => rfl
  | x :: xs => by rw [ltT_cons, if_pos rfl]; exact ltT_irrefl xs
theorem ltT_asymm : ∀ xs ys, ltT xs ys = true → ltT ys xs = false
  | [], [], h => by cases h
  | [], y :: ys, _ => rfl
  | x :: xs, [], h => by cases h
  | x :: xs, y :: ys, h => by
    rw [ltT_cons] at h ⊢
    by_cases e : x = y
    · rw [if_pos e] at h; rw [if_pos e.symm]; exact ltT_asymm xs ys h
    · rw [if_neg e] at h; rw [if_neg (Ne.symm e)]
      exact decide_eq_false (List.lt_asymm (of_decide_eq_true h))
theorem ltT_total : ∀ xs ys, ltT xs ys = false → ltT ys xs = false → xs = ys
  | [], [], _, _ => rfl
  | [], y :: ys, h, _ => by cases h
  | x :: xs, [], _, h => by cases h
  | x :: xs, y :: ys, h, h' => by
    rw [ltT_cons] at h h'
    by_cases e : x = y
    · rw [if_pos e] at h; rw [if_pos e.symm] at h'; rw [e, ltT_total xs ys h h']
    · rw [if_neg e] at h; rw [if_neg (Ne.symm e)] at h'
      exact absurd (List.le_antisymm (List.not_lt.mp (of_decide_eq_false h')) (List.not_lt.mp (of_decide_eq_false h))) e
theorem ltT_trans : ∀ xs ys zs, ltT xs ys = true → ltT ys zs = true → ltT xs zs = true
  | [], [], _, h, _ => by cases h
  | [], y :: ys, [], _, h => by cases h
  | [], y :: ys, z :: zs, _, _ => rfl
  | x :: xs, [], _, h, _ => by cases h
  | x :: xs, y :: ys, [], _, h => by cases h
  | x :: xs, y :: ys, z :: zs, h, h' => by
    rw [ltT_cons] at h h' ⊢
    by_cases e : x = y
    · rw [if_pos e] at h
      subst e
      by_cases e2 : x = z
      · rw [if_pos e2] at h' ⊢; exact ltT_trans xs ys zs h h'
      · rw [if_neg e2] at h' ⊢; exact h'
    · rw [if_neg e] at h
      by_cases e2 : y = z
      · subst e2; rw [if_neg e]; exact h
      · rw [if_neg e2] at h'
        have := List.lt_trans (of_decide_eq_true h) (of_decide_eq_true h')
        rw [if_neg (fun e3 => by subst e3; exact List.lt_irrefl _ this)]
        exact decide_eq_true this
theorem ltT_neg {xs ys zs : List (List Nat)} (h : ltT xs ys = false) (h' : ltT ys zs = false) : ltT xs zs = false := by
  cases e : ltT xs zs with
  | false => rfl
  | true =>
    cases e1 : ltT ys xs with
    | true => rw [ltT_trans _ _ _ e1 e] at h'; cases h'
    | false => rw [ltT_total _ _ h e1] at e; rw [e] at h'; cases h'
theorem argBest_le (bt : Nat → Nat → Bool) : ∀ k, argBest bt k ≤ k
  | 0 => Nat.le_refl _
  | k + 1 => by
    rw [argBest]; split
    · exact Nat.le_refl _
    · exact Nat.le_succ_of_le (argBest_le bt k)
theorem argBest_best (bt : Nat → Nat → Bool) (hi : ∀ i, bt i i = false) (ha : ∀ i j, bt i j = true → bt j i = false) (hn : ∀ i j k, bt i j = false → bt j k = false → bt i k = false) :
    ∀ k i, i ≤ k → bt i (argBest bt k) = false
  | 0, i, h => by rw [Nat.le_zero.mp h]; exact hi 0
  | k + 1, i, h => by
    rw [argBest]
    by_cases c : bt (k + 1) (argBest bt k) = true
    · rw [if_pos c]
      rcases Nat.lt_or_ge i (k + 1) with h1 | h1
      · exact hn _ _ _ (argBest_best bt hi ha hn k i (by exact Mine.lc [i, k] [(1, .a (.v 0) (.n 1), .a (.v 1) (.n 1))] (1, .v 0, .v 1) rfl h1)) (ha _ _ c)
      · rw [show i = k + 1 by exact Nat.le_antisymm (Mine.lc [i, k] [(1, .v 0, .a (.v 1) (.n 1))] (1, .v 0, .a (.v 1) (.n 1)) rfl h) (Mine.lc [k, i] [(1, .a (.v 0) (.n 1), .v 1)] (1, .a (.v 0) (.n 1), .v 1) rfl h1)]; exact hi _
    · rw [if_neg c]
      rcases Nat.lt_or_ge i (k + 1) with h1 | h1
      · exact argBest_best bt hi ha hn k i (by exact Mine.lc [i, k] [(1, .a (.v 0) (.n 1), .a (.v 1) (.n 1))] (1, .v 0, .v 1) rfl h1)
      · rw [show i = k + 1 by exact Nat.le_antisymm (Mine.lc [i, k] [(1, .v 0, .a (.v 1) (.n 1))] (1, .v 0, .a (.v 1) (.n 1)) rfl h) (Mine.lc [k, i] [(1, .a (.v 0) (.n 1), .v 1)] (1, .a (.v 0) (.n 1), .v 1) rfl h1)]; exact Bool.eq_false_iff.mpr c

end Mine

end
section
open PySem PySem.W PySem.Calls PyProof.Rows
set_option Elab.async false
set_option autoImplicit false
set_option maxRecDepth 100000
set_option maxHeartbeats 4000000
set_option linter.unusedVariables false
set_option rowWalk.seconds 0
set_option pp.maxSteps 600
namespace Mine

noncomputable abbrev Row := Addr × List (List Nat × Tok)
noncomputable def Row.nm (p : Row) : List (List Nat) := p.2.map (·.1)
noncomputable def rowsV (rows : List Row) : List Value := rows.map fun p => .ref p.1
noncomputable def nmAt (rows : List Row) (i : Nat) : List (List Nat) := match rows[i]? with | some p => p.nm | none => []
theorem nmAt_of {rows : List Row} {i : Nat} {p : Row} (h : rows[i]? = some p) : nmAt rows i = p.nm := by unfold nmAt; rw [h]
theorem rowsV_get {rows : List Row} {i : Nat} {v : Value} (h : (rowsV rows).toArray[i]? = some v) : ∃ p, rows[i]? = some p ∧ v = .ref p.1 := by
  have h : (rowsV rows)[i]? = some v := by simpa using h
  unfold rowsV at h
  rw [List.getElem?_map] at h
  cases hp : rows[i]? with
  | none => rw [hp] at h; cases h
  | some p => rw [hp] at h; cases h; exact ⟨p, rfl, rfl⟩

section
variable {prog : Program} {w : World} {mg mb : Str → Option Value} {s₀ s : Shared} {g : Heap} {L : Addr} {lo : List (Str × Value)} {led : List (Addr × Ent)} {A : Around} {E : Value → Shared → Prop} {Q : Value → Shared → Prop} {l : Addr}
theorem minL_ {rows : List Row} {k : Nat} (H : St w mg mb s₀ g L lo led s) (hr : Room A (k + 1)) (hl : g.IsList l (rowsV rows).toArray) (hrows : ∀ p ∈ rows, g.PlainList p.1 (tv p.2).toArray) (hne : rows ≠ [])
    (h : ∀ p s', p ∈ rows → (∀ q ∈ rows, ltT q.nm p.nm = false) → St w mg mb s₀ g L lo led s' → Q (.ref p.1) s') :
    wpAny (model prog w) A (call (.builtin "min") [.ref l]) Q E s := by
  have hls := H.blst hl
  obtain ⟨f1, f2, f3⟩ := H.fresh
  obtain ⟨ol, hol, _⟩ := id hl
  have hne2 : l ≠ s.heap.objs.size := Nat.ne_of_lt (Heap.lt_size (H.fs.keep _ _ hol))
  have hpos : 0 < rows.length := List.length_pos_iff.mpr hne
  have hlen : (rowsV rows).toArray.size = rows.length := by simp [rowsV]
  have W := Walks.list (prog := prog) (w := w) hr.in1.hh s.heap.objs.size l hne2 (rowsV rows).toArray
  refine wpAny_with_toks (n := 1) H.tk (call_min_K ?_)
  refine wpAny_pyIter_list hls ?_
  refine ⟨_, _, _, _, _, _, fun i j => ltT (nmAt rows i) (nmAt rows j), g, rfl, W, ⟨⟨_, Heap.get?_push_size _ rfl, rfl, rfl⟩, hls.push _⟩, ?_, by rw [hlen]; exact hpos, ?_, fun b o e => Heap.get?_push_of_some _ (H.fs.keep _ _ e), ?_, ?_⟩
  · intro b hb
    rw [Heap.size_push]
    rcases List.mem_cons.mp hb with rfl | hb
    · exact Nat.lt_succ_self _
    · rw [List.mem_singleton.mp hb]; exact Nat.lt_succ_of_lt (Heap.lt_size (H.fs.keep _ _ hol))
  · intro i j vi vj s' Q' E' hsub hi hj hq
    obtain ⟨p, hp, rfl⟩ := rowsV_get hi
    obtain ⟨q, hq', rfl⟩ := rowsV_get hj
    replace hq : Q' (.bool (ltT (nmAt rows i) (nmAt rows j))) s' := hq
    rw [nmAt_of hp, nmAt_of hq'] at hq
    obtain ⟨n1, e1⟩ := hrows p (List.mem_of_getElem? hp)
    obtain ⟨n2, e2⟩ := hrows q (List.mem_of_getElem? hq')
    exact rich_lt (ps := p.2) (qs := q.2) ⟨n1, hsub _ _ e1⟩ ⟨n2, hsub _ _ e2⟩ hr.in1.cl hq
  · intro b hb
    rw [List.mem_singleton.mp hb]; exact f2
  · intro v h' tk hP hk ht
    obtain ⟨p, hp, rfl⟩ := rowsV_get hP
    refine h p _ (List.mem_of_getElem? hp) (fun q hq => ?_) (H.moved ⟨h', tk, rfl, fun b o e => hk b o (fun hm => ?_) (Heap.get?_push_of_some _ e)⟩ ht)
    · obtain ⟨i, hi⟩ := List.getElem?_of_mem hq
      have := argBest_best (fun i j => ltT (nmAt rows i) (nmAt rows j)) (fun i => ltT_irrefl _) (fun i j => ltT_asymm _ _) (fun i j k a b => ltT_neg a b) (rows.length - 1) i (by
        have := (List.getElem?_eq_some_iff.mp hi).1; exact Mine.lc [i, rows.length, rows.length - 1] [(1, .a (.v 0) (.n 1), .v 1), (1, .v 1, .a (.v 2) (.n 1))] (1, .v 0, .v 2) rfl this (Nat.sub_le_iff_le_add.mp (Nat.le_refl ( rows.length - ( 1)))))
      rw [hlen] at hp
      rw [nmAt_of hi, nmAt_of hp] at this
      exact this
    · rw [List.mem_singleton] at hm
      rw [hm] at e
      exact absurd (Heap.lt_size e) (Nat.lt_irrefl _)
end

section
variable {prog : Program} {w : World} {mg mb : Str → Option Value} {s₀ s : Shared} {g : Heap} {L : Addr} {lo : List (Str × Value)} {led : List (Addr × Ent)} {A : Around} {E : Value → Shared → Prop} {Q : Value → Shared → Prop} {l : Addr}
theorem maxL_ {rows : List Row} {k : Nat} (H : St w mg mb s₀ g L lo led s) (hr : Room A (k + 1)) (hl : g.IsList l (rowsV rows).toArray) (hrows : ∀ p ∈ rows, g.PlainList p.1 (tv p.2).toArray) (hne : rows ≠ [])
    (h : ∀ p s', p ∈ rows → (∀ q ∈ rows, ltT p.nm q.nm = false) → St w mg mb s₀ g L lo led s' → Q (.ref p.1) s') :
    wpAny (model prog w) A (call (.builtin "max") [.ref l]) Q E s := by
  have hls := H.blst hl
  obtain ⟨f1, f2, f3⟩ := H.fresh
  obtain ⟨ol, hol, _⟩ := id hl
  have hne2 : l ≠ s.heap.objs.size := Nat.ne_of_lt (Heap.lt_size (H.fs.keep _ _ hol))
  have hpos : 0 < rows.length := List.length_pos_iff.mpr hne
  have hlen : (rowsV rows).toArray.size = rows.length := by simp [rowsV]
  have W := Walks.list (prog := prog) (w := w) hr.in1.hh s.heap.objs.size l hne2 (rowsV rows).toArray
  refine wpAny_with_toks (n := 1) H.tk (call_max_K ?_)
  refine wpAny_pyIter_list hls ?_
  refine ⟨_, _, _, _, _, _, fun i j => ltT (nmAt rows j) (nmAt rows i), g, rfl, W, ⟨⟨_, Heap.get?_push_size _ rfl, rfl, rfl⟩, hls.push _⟩, ?_, by rw [hlen]; exact hpos, ?_, fun b o e => Heap.get?_push_of_some _ (H.fs.keep _ _ e), ?_, ?_⟩
  · intro b hb
    rw [Heap.size_push]
    rcases List.mem_cons.mp hb with rfl | hb
    · exact Nat.lt_succ_self _
    · rw [List.mem_singleton.mp hb]; exact Nat.lt_succ_of_lt (Heap.lt_size (H.fs.keep _ _ hol))
  · intro i j vi vj s' Q' E' hsub hi hj hq
    obtain ⟨p, hp, rfl⟩ := rowsV_get hi
    obtain ⟨q, hq', rfl⟩ := rowsV_get hj
    replace hq : Q' (.bool (ltT (nmAt rows j) (nmAt rows i))) s' := hq
    rw [nmAt_of hp, nmAt_of hq'] at hq
    obtain ⟨n1, e1⟩ := hrows p (List.mem_of_getElem? hp)
    obtain ⟨n2, e2⟩ := hrows q (List.mem_of_getElem? hq')
    exact rich_gt (ps := p.2) (qs := q.2) ⟨n1, hsub _ _ e1⟩ ⟨n2, hsub _ _ e2⟩ hr.in1.cl hq
  · intro b hb
    rw [List.mem_singleton.mp hb]; exact f2
  · intro v h' tk hP hk ht
    obtain ⟨p, hp, rfl⟩ := rowsV_get hP
    refine h p _ (List.mem_of_getElem? hp) (fun q hq => ?_) (H.moved ⟨h', tk, rfl, fun b o e => hk b o (fun hm => ?_) (Heap.get?_push_of_some _ e)⟩ ht)
    · obtain ⟨i, hi⟩ := List.getElem?_of_mem hq
      have := argBest_best (fun i j => ltT (nmAt rows j) (nmAt rows i)) (fun i => ltT_irrefl _) (fun i j => ltT_asymm _ _) (fun i j k a b => ltT_neg b a) (rows.length - 1) i (by
        have := (List.getElem?_eq_some_iff.mp hi).1; exact Mine.lc [i, rows.length, rows.length - 1] [(1, .a (.v 0) (.n 1), .v 1), (1, .v 1, .a (.v 2) (.n 1))] (1, .v 0, .v 2) rfl this (Nat.sub_le_iff_le_add.mp (Nat.le_refl ( rows.length - ( 1)))))
      rw [hlen] at hp
      rw [nmAt_of hi, nmAt_of hp] at this
      exact this
    · rw [List.mem_singleton] at hm
      rw [hm] at e
      exact absurd (Heap.lt_size e) (Nat.lt_irrefl _)
end

end Mine

end
section
open PySem PySem.W PySem.Calls PyProof.Rows
set_option Elab.async false
set_option autoImplicit false
set_option maxRecDepth 100000
set_option maxHeartbeats 4000000
set_option linter.unusedVariables false
set_option rowWalk.seconds 0
set_option pp.maxSteps 600
namespace Mine
section
variable {prog : Program} {w : World} {mg mb : Str → Option Value} {s₀ s : Shared} {g : Heap} {L : Addr} {lo : List (Str × Value)} {led : List (Addr × Ent)} {A : Around} {E : Value → Shared → Prop} {Q : Value → Shared → Prop} {l tp : Addr} {vs : List Value}
theorem isiLT_ (H : St w mg mb s₀ g L lo led s) (hl : s.heap.IsList l vs.toArray) (ht : s.heap.get? tp = some (tupO [.type "list", .type "tuple"]))
    (h : ∀ s', St w mg mb s₀ g L lo led s' → Q (.bool true) s') : wpAny (model prog w) A (call (.builtin "isinstance") [.ref l, .ref tp]) Q E s := by
  obtain ⟨o, ho, hc, _⟩ := hl
  exact wpAny_with_toks (n := 1) H.tk (IsiPair.tupleOfB (Tx := "list") (cs := [.type "list", .type "tuple"]) (vs := [true, false])
    (AnswersAll.cons (Answers.of_true PySem.F.isi_meta_list PySem.F.sub_list_list) (AnswersAll.cons (Answers.of_false_list (by decide +kernel) PySem.F.isi_meta_tuple PySem.F.sub_list_tuple) AnswersAll.nil)) ⟨_, ho, hc⟩ ht rfl fun tk htk => h _ (H.toks htk))
end
section
variable {prog : Program} {w : World} {mg mb : Str → Option Value} {s₀ s : Shared} {g : Heap} {L : Addr} {lo : List (Str × Value)} {led : List (Addr × Ent)} {A : Around} {Q : Flow → Shared → Prop}
  {env : Env} {elts : List Expr} {kx : Nat} {pos : Pos} {body : List Stmt} {I : Addr} {fp wr : List Addr} {n : Nat} {Pt : Nat → Array Value → Prop} {Sti : Nat → Heap → Prop} {Mid : Nat → Addr → Heap → Prop}
theorem forWT_ (W : WalksT prog w A I fp wr n Pt Sti Mid) (hA : A.handled = none) (hnd : wr.Nodup) (hwr : ∀ b ∈ wr, b ≠ L ∧ g.get? b = none) (hfp : ∀ b ∈ fp, b ∈ wr ∨ ∃ o, g.get? b = some o)
    (hex : ∀ i h, Sti i h → ∀ b ∈ wr, ∃ o, h.get? b = some o) (hn : ∀ i vals, Pt i vals → (assignEach elts env).length = vals.size) (hstar : (assignEach elts env).findIdx? (·.1) = none)
    (Inv : Nat → List (Str × Value) → List (Addr × Ent) → Prop) (H : St w mg mb s₀ g L lo led s) (h0 : Inv 0 lo led) (hdis : ∀ p ∈ led, p.1 ∉ wr) (hst : Sti 0 s.heap)
    (turn : ∀ i vals lo₁ led₁ its s₁, i < n → Pt i vals → Inv i lo₁ led₁ → St w mg mb s₀ g L lo₁ (led₁ ++ its) s₁ →
      wpAny (model prog w) A (assignInOrder ((assignEach elts env).map (·.2)) vals.toList) (fun _ s₂ => wpAny (model prog w) A (execs body env) (fun f s₃ => match f with
        | .next | .cont => ∃ lo₃ led₃, Inv (i + 1) lo₃ led₃ ∧ St w mg mb s₀ g L lo₃ (led₃ ++ its) s₃
        | .brk => Q .next s₃
        | .ret v => Q (.ret v) s₃) (fun _ _ => False) s₂) (fun _ _ => False) s₁)
    (done : ∀ lo₁ led₁ s₁, Inv n lo₁ led₁ → St w mg mb s₀ g L lo₁ led₁ s₁ → Q .next s₁) :
    codeAny (model prog w) A (.forLoop (.Tuple elts kx pos) (.ref I) body [] env) (fun r s' => match r with | .ok f => Q f s' | .error _ => False) s := by
  refine codeAny_forLoop_any (fun k s' => ∃ i lo₁ led₁, i ≤ n ∧ k = n + 1 - i ∧ Inv i lo₁ led₁ ∧ St w mg mb s₀ g L lo₁ led₁ s' ∧ (∀ p ∈ led₁, p.1 ∉ wr) ∧ Sti i s'.heap) ?_ (n + 1)
    ⟨0, lo, led, Nat.zero_le _, rfl, h0, H, hdis, hst⟩
  rintro k s' ⟨i, lo₁, led₁, hi, rfl, hI, H₁, hd₁, hst₁⟩
  by_cases hlt : i < n
  · refine wpAny_with_toks (n := 1) H₁.tk (W.item i _ _ _ hlt hst₁ fun T vals h' tk hP hTs hIT hmid hk ht => ?_)
    refine W.go elts kx pos i T _ _ _ hmid fun h'' hst'' hk'' => ?_
    have H₂ := H₁.withIts (wr := wr) (h' := h'') (fun b o hb e => hk'' b o hb (hk b o hb e)) ht hwr hnd hd₁ (hex _ _ hst'')
    obtain ⟨oT, hoT, rT⟩ := hIT
    have hT2 : h''.get? T = some oT := hk'' T oT (W.apart _ _ _ hmid) hoT
    refine wpAny_assign_Tuple hA ⟨oT, hT2, rT⟩ (hn _ _ hP) hstar fun h3 k3 => ?_
    have H₃ := H₂.extBut k3
    refine wpAny_mono (turn i vals lo₁ led₁ _ _ hlt hP hI H₃) (fun _ s₂ h₂ => wpAny_mono h₂ (fun f s₃ h₃ => ?_) fun _ _ e => e.elim) fun _ _ e => e.elim
    have fin : (∃ lo₃ led₃, Inv (i + 1) lo₃ led₃ ∧ St w mg mb s₀ g L lo₃ (led₃ ++ itsOf h'' wr) s₃) →
        ∃ m, m < n + 1 - i ∧ ∃ i lo₁ led₁, i ≤ n ∧ m = n + 1 - i ∧ Inv i lo₁ led₁ ∧ St w mg mb s₀ g L lo₁ led₁ s₃ ∧ (∀ p ∈ led₁, p.1 ∉ wr) ∧ Sti i s₃.heap := by
      rintro ⟨lo₃, led₃, hI₃, H₄⟩
      refine ⟨n + 1 - (i + 1), by exact Mine.lc [n + 1 - (i + 1), i, n, n + 1 - i] [(1, .a (.v 0) (.a (.v 1) (.n 1)), .a (.v 2) (.n 1)), (1, .a (.v 2) (.n 1), .a (.v 3) (.v 1))] (1, .a (.v 0) (.n 1), .v 3) rfl (Nat.le_of_eq (Nat.sub_add_cancel (show i + 1 ≤ n + 1 from Mine.lc [i, n] [(1, .v 0, .v 1)] (1, .a (.v 0) (.n 1), .a (.v 1) (.n 1)) rfl hi))) (Nat.sub_le_iff_le_add.mp (Nat.le_refl ( n + 1 - ( i)))), i + 1, lo₃, led₃, hlt, rfl, hI₃, H₄.drop (List.sublist_append_left _ _), fun p hp hm => ?_, W.frame _ _ _ hst'' fun b hb o e => ?_⟩
      · have nd := H₄.fs.nd
        rw [List.map_append] at nd
        refine (List.nodup_append.mp nd).2.2 p.1 (List.mem_map_of_mem hp) p.1 ?_ rfl
        rw [itsOf_keys (hex _ _ hst'')]; exact hm
      · rcases hfp b hb with hm | ⟨o', ho'⟩
        · exact H₄.obj (List.mem_append_right _ (mem_itsOf hm e))
        · have e1 := H₂.fs.keep _ _ ho'
          have e2 := H₄.fs.keep _ _ ho'
          have e3 : h''.get? b = some o' := e1
          rw [e3] at e; cases e; exact e2
    cases f with
    | next => exact fin h₃
    | cont => exact fin h₃
    | brk => exact h₃
    | ret v => exact h₃
  · have hin : i = n := by exact Nat.le_antisymm (Mine.lc [i, n] [(1, .v 0, .v 1)] (1, .v 0, .v 1) rfl hi) (Mine.lc [n, i] [(1, .v 0, .v 1)] (1, .v 0, .v 1) rfl (Nat.le_of_not_lt hlt))
    subst hin
    refine wpAny_with_toks (n := 1) H₁.tk (W.done _ _ _ hst₁ fun h' tk hk ht => wpAny_execs_nil ?_)
    have F := H₁.fs
    have eq := H₁.eq
    obtain ⟨h, tk₀, rfl⟩ := eq
    refine done lo₁ led₁ _ hI ⟨⟨F.ns.at' fun o e => hk L o (fun hm => (hwr L hm).1 rfl) e, fun b o e => hk b o (fun hm => by rw [(hwr b hm).2] at e; cases e) (F.keep b o e), F.nL, fun p hp => ⟨(F.ok p hp).1.of fun o e => hk _ _ (hd₁ p hp) e, (F.ok p hp).2⟩, F.nd⟩, H₁.cx, ⟨_, _, rfl⟩, ht, H₁.base⟩

theorem forE_ {l : Addr} {vs : List Value} (hh : A.handled = none) (H : St w mg mb s₀ g L lo led s) (hl : g.IsList l vs.toArray)
    (hn : (assignEach elts env).length = 2) (hstar : (assignEach elts env).findIdx? (·.1) = none)
    (Inv : Nat → List (Str × Value) → List (Addr × Ent) → Prop) (h0 : Inv 0 lo led)
    (turn : ∀ i t v lo₁ led₁ its s₁, vs[i]? = some v → Inv i lo₁ led₁ → St w mg mb s₀ g L lo₁ (led₁ ++ its) s₁ →
      wpAny (model prog w) A (assignInOrder ((assignEach elts env).map (·.2)) [.int i t, v]) (fun _ s₂ => wpAny (model prog w) A (execs body env) (fun f s₃ => match f with
        | .next | .cont => ∃ lo₃ led₃, Inv (i + 1) lo₃ led₃ ∧ St w mg mb s₀ g L lo₃ (led₃ ++ its) s₃
        | .brk => Q .next s₃
        | .ret v => Q (.ret v) s₃) (fun _ _ => False) s₂) (fun _ _ => False) s₁)
    (done : ∀ lo₁ led₁ s₁, Inv vs.length lo₁ led₁ → St w mg mb s₀ g L lo₁ led₁ s₁ → Q .next s₁) :
    wpAny (model prog w) A (call (.type "enumerate") [.ref l]) (fun x s₁ => wpAny (model prog w) A (pyIter x) (fun it s₂ => codeAny (model prog w) A (.forLoop (.Tuple elts kx pos) it body [] env) (fun r s' => match r with | .ok f => Q f s' | .error _ => False) s₂) (fun _ _ => False) s₁) (fun _ _ => False) s := by
  have hls := H.blst hl
  have hL := H.fs.ns.lt
  obtain ⟨f1, f2, f3⟩ := H.fresh
  obtain ⟨ol, hol, _⟩ := id hl
  have hlt : l < s.heap.objs.size := Heap.lt_size (H.fs.keep _ _ hol)
  refine call_enumerate_list hls fun h' he hit hsz hk => ?_
  have H' : St w mg mb s₀ g L lo led { s with heap := h' } := H.moved ⟨_, _, rfl, hk⟩ H.tk
  have out : ∀ b, s.heap.objs.size ≤ b → b ≠ L ∧ g.get? b = none ∧ b ∉ led.map (·.1) := fun b hb => by
    refine ⟨Nat.ne_of_gt (Nat.lt_of_lt_of_le hL hb), ?_, fun h => ?_⟩
    · cases e : g.get? b with
      | none => rfl
      | some o => exact absurd (Heap.lt_size (H.fs.keep _ _ e)) (Nat.not_lt.mpr hb)
    · obtain ⟨p, hp, e⟩ := List.mem_map.mp h
      obtain ⟨o, ho⟩ := (H.fs.ok p hp).1.some
      exact absurd (Heap.lt_size ho) (e ▸ Nat.not_lt.mpr hb)
  refine wpAny_pyIter_enum he ?_
  have W := WalksT.enumerate (prog := prog) (w := w) hh (s.heap.objs.size + 1) s.heap.objs.size l (Nat.succ_ne_self _) (Nat.ne_of_lt (Nat.lt_succ_of_lt hlt)) (Nat.ne_of_lt hlt) vs.toArray
  have two : ∀ b ∈ [s.heap.objs.size + 1, s.heap.objs.size], s.heap.objs.size ≤ b := fun b hb => by
    rcases List.mem_cons.mp hb with rfl | hb
    · exact Nat.le_succ _
    · rw [List.mem_singleton.mp hb]; exact Nat.le_refl _
  refine forWT_ W hh (by simp) (fun b hb => ⟨(out b (two b hb)).1, (out b (two b hb)).2.1⟩) ?_ ?_ ?_ hstar Inv H' h0 ?_ ⟨⟨_, he⟩, hit, hls.at fun o e => hk l o e⟩ ?_ ?_
  · intro b hb
    rcases List.mem_cons.mp hb with rfl | hb
    · exact .inl (.head _)
    · rcases List.mem_cons.mp hb with rfl | hb
      · exact .inl (.tail _ (.head _))
      · rw [List.mem_singleton.mp hb]; exact .inr ⟨_, hol⟩
  · rintro i h ⟨⟨old, e1⟩, ⟨o2, e2, _⟩, _⟩ b hb
    rcases List.mem_cons.mp hb with rfl | hb
    · exact ⟨_, e1⟩
    · rw [List.mem_singleton.mp hb]; exact ⟨_, e2⟩
  · rintro i vals ⟨t, x, _, rfl⟩
    exact hn
  · intro p hp hm
    exact (out _ (two _ hm)).2.2 (List.mem_map_of_mem hp)
  · rintro i vals lo₁ led₁ its s₁ _ ⟨t, x, hx, rfl⟩ hI H₁
    exact turn i t x lo₁ led₁ its s₁ (by simpa using hx) hI H₁
  · intro lo₁ led₁ s₁ hI H₁
    exact done lo₁ led₁ s₁ (by simpa using hI) H₁
end

end Mine

end
section
open PySem PyProof.Rows
set_option autoImplicit false
set_option linter.unusedVariables false
namespace Mine
noncomputable def shL : List (List Nat) → List (List Nat) → Nat
  | x :: xs, y :: ys => if x = y then shL xs ys + 1 else 0
  | _, _ => 0
theorem shL_nil (ys : List (List Nat)) : shL [] ys = 0 := by cases ys <;> rfl
theorem shL_nil' (xs : List (List Nat)) : shL xs [] = 0 := by cases xs <;> rfl
theorem shL_cons (x y : List Nat) (xs ys : List (List Nat)) : shL (x :: xs) (y :: ys) = if x = y then shL xs ys + 1 else 0 := rfl
theorem shL_comm : ∀ xs ys, shL xs ys = shL ys xs
  | [], ys => by rw [shL_nil, shL_nil']
  | x :: xs, [] => by rw [shL_nil, shL_nil']
  | x :: xs, y :: ys => by
    rw [shL_cons, shL_cons]
    by_cases e : x = y
    · rw [if_pos e, if_pos e.symm, shL_comm xs ys]
    · rw [if_neg e, if_neg (Ne.symm e)]
theorem shL_at : ∀ (i : Nat) (xs ys : List (List Nat)) (a b : List Nat), xs.take i = ys.take i → xs[i]? = some a → ys[i]? = some b → a ≠ b → shL xs ys = i
  | 0, x :: xs, y :: ys, a, b, _, ha, hb, h => by
    simp at ha hb; subst ha; subst hb
    rw [shL_cons, if_neg h]
  | i + 1, x :: xs, y :: ys, a, b, ht, ha, hb, h => by
    simp at ha hb
    rw [List.take_succ_cons, List.take_succ_cons] at ht
    injection ht with h1 h2
    rw [shL_cons, if_pos h1, shL_at i xs ys a b h2 ha hb h]
  | _, [], _, _, _, _, ha, _, _ => by simp at ha
  | _, _ :: _, [], _, _, _, _, hb, _ => by simp at hb
theorem shL_end : ∀ (xs ys : List (List Nat)), xs = ys.take xs.length → shL xs ys = xs.length
  | [], ys, _ => by rw [shL_nil]; rfl
  | x :: xs, [], h => by simp at h
  | x :: xs, y :: ys, h => by
    rw [List.length_cons, List.take_succ_cons] at h
    injection h with h1 h2
    rw [shL_cons, if_pos h1, shL_end xs ys h2, List.length_cons]
theorem ltT_len : ∀ (i : Nat) (xs ys : List (List Nat)), ltT ys xs = false → xs.take i = ys.take i → i < xs.length → i < ys.length
  | _, [], _, _, _, h => absurd h (Nat.not_lt_zero _)
  | _, x :: xs, [], h, _, _ => by cases h
  | 0, x :: xs, y :: ys, _, _, _ => Nat.succ_pos _
  | i + 1, x :: xs, y :: ys, h, ht, hi => by
    rw [List.take_succ_cons, List.take_succ_cons] at ht
    injection ht with h1 h2
    rw [ltT_cons, if_pos h1.symm] at h
    exact Nat.succ_lt_succ (ltT_len i xs ys h h2 (Nat.lt_of_succ_lt_succ hi))
theorem shL_two {a b p q : List (List Nat)} (hp : p = a ∨ p = b) (hq : q = a ∨ q = b) (h1 : ltT a p = false) (h2 : ltT b p = false) (h3 : ltT q a = false) (h4 : ltT q b = false) : shL p q = shL a b := by
  rcases hp with rfl | rfl <;> rcases hq with rfl | rfl
  · rw [ltT_total _ _ h4 h2]
  · rfl
  · exact shL_comm _ _
  · rw [ltT_total _ _ h1 h3]
end Mine

end
section
open PySem PyProof.Rows
set_option autoImplicit false
set_option linter.unusedVariables false
set_option maxRecDepth 100000
namespace Mine
noncomputable def Plain (p : List Nat) : Prop := p ≠ [] ∧ p ≠ [46] ∧ p ≠ [46, 46] ∧ 47 ∉ p
noncomputable def Good (xs : List (List Nat)) : Prop := ∀ p ∈ xs, Plain p
theorem foldl_good : ∀ (xs acc : List (List Nat)), Good xs → xs.foldl nstep acc = acc ++ xs
  | [], acc, _ => by simp
  | x :: xs, acc, h => by
    have hx := h x (.head _)
    rw [List.foldl_cons, nstep, if_neg (not_or.mpr ⟨hx.1, hx.2.1⟩), if_neg hx.2.2.1, foldl_good xs _ fun p hp => h p (.tail _ hp), List.append_assoc]
    rfl
theorem normF_good {xs : List (List Nat)} (h : Good xs) : normF xs = xs := by rw [normF, foldl_good xs [] h]; rfl
theorem norm_spot {xs : List (List Nat)} (h : Good xs) : normF (sp 47 (inter [47] xs)) = xs := by
  by_cases e : xs = []
  · subst e; rfl
  · rw [sp_inter e fun p hp => (h p hp).2.2.2, normF_good h]
theorem inter_head {xs : List (List Nat)} (h : Good xs) : (inter [47] xs).head? ≠ some 47 := by
  cases xs with
  | nil => simp [inter]
  | cons x r =>
    have hx := h x (.head _)
    cases x with
    | nil => exact absurd rfl hx.1
    | cons a b =>
      have ha : a ≠ 47 := fun e => hx.2.2.2 (by rw [e]; exact .head _)
      cases r with
      | nil => simpa [inter] using ha
      | cons y r => simpa [inter] using ha
theorem inter_strip {xs : List (List Nat)} (h : Good xs) : (47 :: inter [47] xs).dropWhile (· == 47) = inter [47] xs := by
  rw [List.dropWhile_cons]
  simp only [beq_self_eq_true, if_true]
  have := inter_head h
  cases e : inter [47] xs with
  | nil => rfl
  | cons a r =>
    rw [e] at this
    have ha : (a == 47) = false := by simpa using this
    rw [List.dropWhile_cons, ha]; rfl
theorem inter_nil_iff {xs : List (List Nat)} (h : Good xs) : inter [47] xs = [] ↔ xs = [] := by
  cases xs with
  | nil => simp [inter]
  | cons x r =>
    have hx := (h x (.head _)).1
    cases r with
    | nil => simpa [inter] using hx
    | cons y r => simp [inter]
theorem tot_inter : ∀ {xs : List (List Nat)}, xs ≠ [] → tot xs = (inter [47] xs).length + 1
  | [], h => absurd rfl h
  | [x], _ => by simp [tot, inter]
  | x :: y :: r, _ => by
    have ih := tot_inter (xs := y :: r) (by simp)
    rw [tot_cons, ih, inter_cons [47] x (r := y :: r) (by simp), List.length_append, List.length_append, List.length_singleton]
    exact Nat.le_antisymm (Mine.lc [x.length, (inter [47] (y :: r)).length] [] (1, .a (.a (.v 0) (.n 1)) (.a (.v 1) (.n 1)), .a (.a (.v 0) (.a (.n 1) (.v 1))) (.n 1)) rfl ) (Mine.lc [x.length, (inter [47] (y :: r)).length] [] (1, .a (.a (.v 0) (.a (.n 1) (.v 1))) (.n 1), .a (.a (.v 0) (.n 1)) (.a (.v 1) (.n 1))) rfl )
theorem shL_le : ∀ xs ys : List (List Nat), shL xs ys ≤ xs.length ∧ shL xs ys ≤ ys.length
  | [], ys => by rw [shL_nil]; simp
  | x :: xs, [] => by rw [shL_nil']; simp
  | x :: xs, y :: ys => by
    rw [shL_cons]
    have := shL_le xs ys
    split <;> simp <;> omega
end Mine

end
section
open PySem PyProof.Rows
set_option autoImplicit false
set_option linter.unusedVariables false
set_option maxRecDepth 100000
namespace Mine
noncomputable def strp (l : List Nat) : List Nat := ((l.dropWhile Unicode.isSpace).reverse.dropWhile Unicode.isSpace).reverse
noncomputable def f1 (c d : Nat) (a : Nat) : Nat := if a = c then d else a
noncomputable def mp (a : Nat) : Nat := f1 41 45 (f1 40 45 (f1 34 45 (f1 59 45 (f1 58 45 (f1 92 45 (f1 47 45 (f1 32 95 a)))))))
noncomputable def unk : List Nat := [117, 110, 107, 110, 111, 119, 110]
noncomputable def rmU (l : List Nat) : List Nat := rp unk [] (l.length + 1) l
noncomputable def cl (l : List Nat) : List Nat := rp [45, 45] [45] (l.length + 1) l
noncomputable def sq : List Nat → List Nat
  | [] => []
  | a :: r => if a = 45 ∧ r.head? = some 45 then sq r else a :: sq r
noncomputable def trimE (l : List Nat) : List Nat := (l.reverse.dropWhile (· == 45)).reverse
noncomputable def platF (ts : List (List Nat)) : List Nat := trimE (sq (rmU ((inter [45] ((ts.filter fun p => !p.isEmpty).map strp)).map mp)))

theorem rp_len (y z : List Nat) (hyz : z.length ≤ y.length) : ∀ (n : Nat) (l : List Nat), (rp y z n l).length ≤ l.length
  | 0, l => Nat.le_refl _
  | n + 1, l => by
    rw [rp_succ]
    split
    · rename_i h
      have h1 := h.length_le
      have h2 := rp_len y z hyz n (l.drop y.length)
      rw [List.length_drop] at h2
      rw [List.length_append]; exact Mine.lc [z.length, y.length, (rp y z n (List.drop y.length l)).length, l.length - y.length, l.length] [(1, .v 0, .v 1), (1, .v 2, .v 3), (1, .a (.v 3) (.v 1), .v 4)] (1, .a (.v 0) (.v 2), .v 4) rfl hyz h2 (Nat.le_of_eq (Nat.sub_add_cancel (show y.length ≤ l.length from Mine.lc [y.length, l.length] [(1, .v 0, .v 1)] (1, .v 0, .v 1) rfl h1)))
    · split
      · exact Nat.le_refl _
      · rename_i a r _
        have := rp_len y z hyz n r
        simp; exact this
theorem rmU_len (l : List Nat) : (rmU l).length ≤ l.length := rp_len _ _ (by decide) _ _
theorem cl_len (l : List Nat) : (cl l).length ≤ l.length := rp_len _ _ (by decide) _ _
theorem strp_len (l : List Nat) : (strp l).length ≤ l.length := by
  unfold strp
  rw [List.length_reverse]
  have h1 : ∀ m : List Nat, (m.dropWhile Unicode.isSpace).length ≤ m.length := fun m => (List.dropWhile_sublist _).length_le
  have h2 := h1 (l.dropWhile Unicode.isSpace).reverse
  rw [List.length_reverse] at h2
  exact Nat.le_trans h2 (h1 l)

theorem sq_cons (a : Nat) (r : List Nat) : sq (a :: r) = if a = 45 ∧ r.head? = some 45 then sq r else a :: sq r := rfl
theorem sq_dd (r : List Nat) : sq (45 :: 45 :: r) = sq (45 :: r) := by rw [sq_cons, if_pos ⟨rfl, rfl⟩]
theorem sq_congr (a : Nat) {r r' : List Nat} (h : sq r = sq r') (hh : r.head? = some 45 ↔ r'.head? = some 45) : sq (a :: r) = sq (a :: r') := by
  rw [sq_cons, sq_cons]
  by_cases k : a = 45 ∧ r.head? = some 45
  · rw [if_pos k, if_pos ⟨k.1, hh.mp k.2⟩, h]
  · rw [if_neg k, if_neg fun q => k ⟨q.1, hh.mpr q.2⟩, h]
theorem cl_head : ∀ (n : Nat) (l : List Nat), (rp [45, 45] [45] n l).head? = some 45 ↔ l.head? = some 45
  | 0, l => Iff.rfl
  | n + 1, l => by
    rw [rp_succ]
    split
    · rename_i h
      obtain ⟨t, rfl⟩ := h
      simp
    · split
      · exact Iff.rfl
      · simp
theorem sq_rp : ∀ (n : Nat) (l : List Nat), sq (rp [45, 45] [45] n l) = sq l
  | 0, l => rfl
  | n + 1, l => by
    rw [rp_succ]
    split
    · rename_i h
      obtain ⟨t, rfl⟩ := h
      show sq (45 :: rp [45, 45] [45] n t) = sq (45 :: 45 :: t)
      rw [sq_dd]
      exact sq_congr 45 (sq_rp n t) (cl_head n t)
    · split
      · rfl
      · rename_i a r _
        exact sq_congr a (sq_rp n r) (cl_head n r)
theorem sq_cl (l : List Nat) : sq (cl l) = sq l := sq_rp _ l
theorem rp_same (n : Nat) : ∀ (l : List Nat), l.length ≤ n → (rp [45, 45] [45] n l = l → sq l = l) ∧ (rp [45, 45] [45] n l ≠ l → (rp [45, 45] [45] n l).length < l.length) := by
  induction n with
  | zero =>
    intro l h
    have : l = [] := List.eq_nil_of_length_eq_zero (by exact Nat.le_antisymm (Mine.lc [l.length] [(1, .v 0, .n 0)] (1, .v 0, .n 0) rfl h) (Mine.lc [l.length] [] (1, .n 0, .v 0) rfl ))
    subst this
    exact ⟨fun _ => rfl, fun h => absurd rfl h⟩
  | succ n ih =>
    intro l h
    rw [rp_succ]
    split
    · rename_i hp
      obtain ⟨t, rfl⟩ := hp
      have hl := rp_len [45, 45] [45] (by decide) n t
      have e : List.drop [45, 45].length ([45, 45] ++ t) = t := rfl
      rw [e]
      refine ⟨fun q => ?_, fun _ => by simp; exact Mine.lc [(rp [45, 45] [45] n t).length, t.length] [(1, .v 0, .v 1)] (1, .a (.v 0) (.n 1), .a (.v 1) (.n 1)) rfl hl⟩
      have := congrArg List.length q
      simp at this; exact Mine.lcF [(rp [45, 45] [45] n t).length, t.length] [(1, .v 0, .v 1), (1, .a (.v 1) (.n 1), .v 0)] _ rfl hl (Nat.le_of_eq (this).symm)
    · rename_i hp
      cases l with
      | nil => exact ⟨fun _ => rfl, fun h => absurd rfl h⟩
      | cons a r =>
        dsimp only
        have hr := ih r (by simpa using h)
        refine ⟨fun q => ?_, fun q => ?_⟩
        · injection q with _ q
          have h1 := hr.1 q
          rw [sq_cons, if_neg, h1]
          rintro ⟨rfl, h2⟩
          cases r with
          | nil => simp at h2
          | cons b r => simp at h2; subst h2; exact hp ⟨r, rfl⟩
        · have := hr.2 (fun e => q (by rw [e]))
          simp; exact Mine.lc [(rp [45, 45] [45] n r).length, r.length] [(1, .a (.v 0) (.n 1), .v 1)] (1, .a (.v 0) (.n 1), .v 1) rfl this
theorem cl_same {l : List Nat} (h : cl l = l) : sq l = l := by
  have e := rp_enough [45, 45] [45] (by simp) l.length (l.length + 1) l (Nat.le_refl _) (Nat.le_succ _)
  unfold cl at h
  exact (rp_same l.length l (Nat.le_refl _)).1 (by rw [← e]; exact h)
theorem cl_less {l : List Nat} (h : cl l ≠ l) : (cl l).length < l.length := by
  have e := rp_enough [45, 45] [45] (by simp) l.length (l.length + 1) l (Nat.le_refl _) (Nat.le_succ _)
  unfold cl at h ⊢
  rw [e] at h ⊢
  exact (rp_same l.length l (Nat.le_refl _)).2 h
theorem trimE_snoc (r : List Nat) : trimE (r ++ [45]) = trimE r := by unfold trimE; simp
theorem trimE_same {l : List Nat} (h : l.getLast? ≠ some 45) : trimE l = l := by
  rcases List.eq_nil_or_concat l with rfl | ⟨r, a, rfl⟩
  · rfl
  · have ha : (a == 45) = false := by simpa using h
    unfold trimE; simp [ha]
theorem inter1_len (c : Nat) (ps : List (List Nat)) : (inter [c] ps).length ≤ tot ps := by
  induction ps with
  | nil => simp [inter]
  | cons p r ih =>
    by_cases h : r = []
    · subst h; simp [inter, tot]
    · rw [inter_cons _ _ h, tot_cons]; simp; exact Mine.lc [(inter [c] r).length, tot r, p.length] [(1, .v 0, .v 1)] (1, .a (.v 2) (.a (.v 0) (.n 1)), .a (.a (.v 2) (.n 1)) (.v 1)) rfl ih
theorem tot_filter (f : List Nat → Bool) (ts : List (List Nat)) : tot ((ts.filter f).map strp) ≤ tot ts := by
  induction ts with
  | nil => exact Nat.le_refl _
  | cons t r ih =>
    have := strp_len t
    by_cases h : f t
    · rw [List.filter_cons_of_pos h, List.map_cons, tot_cons, tot_cons]; exact Mine.lc [tot (List.map strp (List.filter f r)), tot r, (strp t).length, t.length] [(1, .v 0, .v 1), (1, .v 2, .v 3)] (1, .a (.a (.v 2) (.n 1)) (.v 0), .a (.a (.v 3) (.n 1)) (.v 1)) rfl ih this
    · rw [List.filter_cons_of_neg h, tot_cons]; exact Mine.lc [tot (List.map strp (List.filter f r)), tot r, t.length] [(1, .v 0, .v 1)] (1, .v 0, .a (.a (.v 2) (.n 1)) (.v 1)) rfl ih
end Mine

end
section
open PySem PyProof.Rows
set_option autoImplicit false
set_option linter.unusedVariables false
set_option maxRecDepth 100000
namespace Mine
theorem fm_congr {α β : Type} {f g : α → Option β} : ∀ {l : List α}, (∀ x ∈ l, f x = g x) → l.filterMap f = l.filterMap g
  | [], _ => rfl
  | a :: l, h => by rw [List.filterMap_cons, List.filterMap_cons, h a (.head _), fm_congr fun x hx => h x (.tail _ hx)]
theorem slicePick_rev (vs : List Value) : (slicePick vs.toArray none none (some (-1))).toList = vs.reverse := by
  unfold slicePick
  have e : sliceBounds none none (some (-1)) vs.toArray.size = ((vs.length : Int) - 1, -1, -1) := by
    simp [sliceBounds]
  rw [e]
  simp only [sliceRange]
  have hc : (if (-1 : Int) > 0 then if (vs.length : Int) - 1 < -1 then (-1 - ((vs.length : Int) - 1) + -1 - 1) / -1 else 0
              else if (vs.length : Int) - 1 > -1 then ((vs.length : Int) - 1 - -1 - -1 - 1) / - -1 else 0).toNat = vs.length := by
    rw [if_neg (by decide)]
    split
    · rw [show ((vs.length : Int) - 1 - -1 - -1 - 1) = (vs.length : Int) from by omega]; simp
    · omega
  rw [hc, List.filterMap_map]
  rw [fm_congr (g := fun k => vs.reverse[k]?) fun k hk => ?_]
  · have := List.filterMap_getElem?_range_length vs.reverse
    rw [List.length_reverse] at this
    simpa using this
  · have hk := List.mem_range.mp hk
    show vs.toArray[((vs.length : Int) - 1 + -1 * (k : Int)).toNat]? = vs.reverse[k]?
    rw [show ((vs.length : Int) - 1 + -1 * (k : Int)).toNat = vs.length - 1 - k from by omega, List.getElem?_reverse hk]
    simp
theorem inter_snoc (z : List Nat) : ∀ (r : List (List Nat)) (c : List Nat), r ≠ [] → inter z (r ++ [c]) = inter z r ++ (z ++ c)
  | [], _, h => absurd rfl h
  | [p], c, _ => by simp [inter]
  | p :: q :: r, c, _ => by
    have ih := inter_snoc z (q :: r) c (by simp)
    show inter z (p :: (q :: r ++ [c])) = _
    rw [inter_cons z p (r := q :: r ++ [c]) (by simp), ih, inter_cons z p (r := q :: r) (by simp)]
    simp
end Mine

end
section
open PySem PyProof.Rows
set_option autoImplicit false
set_option linter.unusedVariables false
set_option maxRecDepth 100000
namespace Mine
noncomputable def bt (c : Nat) : Bool := c == 32 || c == 9
noncomputable def rst (l : List Nat) : List Nat := (l.reverse.dropWhile bt).reverse
noncomputable def strip2 (l : List Nat) : List Nat := rst (l.dropWhile bt)
noncomputable def signsF (ts : List (List Nat)) : List Nat := inter [45] ((ts.filter fun p => !p.isEmpty).map strip2)
noncomputable def isD (c : Nat) : Bool := [45, 47, 92, 58, 59, 34, 40, 41].contains c
noncomputable def kfin : Nat → List Nat → Bool → List Nat
  | 0, _, _ => []
  | n + 1, l, o => if unk <+: l then kfin n (l.drop 7) o else match l with
    | [] => []
    | a :: r => if isD a then kfin n r true else (if o then [45] else []) ++ f1 32 95 a :: kfin n r false
noncomputable def safeF (ts : List (List Nat)) : List Nat := kfin ((signsF ts).length + 1) (signsF ts) false
theorem kfin_succ (n : Nat) (l : List Nat) (o : Bool) : kfin (n + 1) l o = if unk <+: l then kfin n (l.drop 7) o else match l with
    | [] => []
    | a :: r => if isD a then kfin n r true else (if o then [45] else []) ++ f1 32 95 a :: kfin n r false := rfl
theorem unk_nil : ¬ unk <+: [] := by intro h; have := List.prefix_nil.mp h; cases this
theorem kfin_nil (n : Nat) (o : Bool) : kfin n [] o = [] := by
  cases n with
  | zero => rfl
  | succ n => rw [kfin_succ, if_neg unk_nil]
theorem kfin_enough : ∀ (n m : Nat) (l : List Nat) (o : Bool), l.length ≤ n → n ≤ m → kfin m l o = kfin n l o
  | 0, m, l, o, hl, _ => by
    have : l = [] := List.eq_nil_of_length_eq_zero (by exact Nat.le_antisymm (Mine.lc [l.length] [(1, .v 0, .n 0)] (1, .v 0, .n 0) rfl hl) (Mine.lc [l.length] [] (1, .n 0, .v 0) rfl ))
    subst this
    rw [kfin_nil, kfin_nil]
  | n + 1, 0, l, o, hl, hm => by exact Mine.lcF [n] [(1, .a (.v 0) (.n 1), .n 0)] _ rfl hm
  | n + 1, m + 1, l, o, hl, hm => by
    rw [kfin_succ, kfin_succ]
    by_cases h : unk <+: l
    · rw [if_pos h, if_pos h, kfin_enough n m _ o (by rw [List.length_drop]; omega) (by exact Mine.lc [n, m] [(1, .a (.v 0) (.n 1), .a (.v 1) (.n 1))] (1, .v 0, .v 1) rfl hm)]
    · rw [if_neg h, if_neg h]
      cases l with
      | nil => rfl
      | cons a r =>
        have hr : r.length ≤ n := by simpa using hl
        dsimp only
        rw [kfin_enough n m r true hr (by exact Mine.lc [n, m] [(1, .a (.v 0) (.n 1), .a (.v 1) (.n 1))] (1, .v 0, .v 1) rfl hm), kfin_enough n m r false hr (by exact Mine.lc [n, m] [(1, .a (.v 0) (.n 1), .a (.v 1) (.n 1))] (1, .v 0, .v 1) rfl hm)]
theorem kfin_unk {l : List Nat} {o : Bool} (h : unk <+: l) : kfin (l.length + 1) l o = kfin ((l.drop 7).length + 1) (l.drop 7) o := by
  rw [kfin_succ, if_pos h]
  exact (kfin_enough ((l.drop 7).length + 1) l.length _ o (Nat.le_succ _) (by
    have := h.length_le
    have e : unk.length = 7 := rfl
    rw [List.length_drop]; exact Mine.lc [l.length - 7, l.length] [(1, .a (.v 0) (.n 7), .v 1)] (1, .a (.v 0) (.n 1), .v 1) rfl (Nat.le_of_eq (Nat.sub_add_cancel (show 7 ≤ l.length from Mine.lc [unk.length, l.length] [(1, .v 0, .v 1), (1, .n 7, .v 0)] (1, .n 7, .v 1) rfl this (Nat.le_of_eq (e).symm))))))
theorem kfin_D {a : Nat} {r : List Nat} {o : Bool} (h : ¬ unk <+: a :: r) (hd : isD a = true) : kfin ((a :: r).length + 1) (a :: r) o = kfin (r.length + 1) r true := by
  rw [kfin_succ, if_neg h]
  show (if isD a then _ else _) = _
  rw [if_pos hd]; rfl
theorem kfin_K {a : Nat} {r : List Nat} {o : Bool} (h : ¬ unk <+: a :: r) (hd : isD a = false) : kfin ((a :: r).length + 1) (a :: r) o = (if o then [45] else []) ++ f1 32 95 a :: kfin (r.length + 1) r false := by
  rw [kfin_succ, if_neg h]
  show (if isD a then _ else _) = _
  rw [hd]; rfl
theorem contains_S (l : List Nat) (c : Nat) : Txt.contains (S l) (S [c]) = decide (c ∈ l) := by
  unfold Txt.contains
  exact (StrLaws.found_one (S l) c).trans (by simp)
theorem inter0 : ∀ ps : List (List Nat), inter [] ps = ps.flatten
  | [] => rfl
  | [p] => by simp [inter]
  | p :: q :: r => by
    rw [inter_cons [] p (r := q :: r) (by simp), inter0 (q :: r)]; simp
theorem rst_snoc_t {l : List Nat} {c : Nat} (h : bt c = true) : rst (l ++ [c]) = rst l := by unfold rst; simp [h]
theorem rst_snoc_f {l : List Nat} {c : Nat} (h : bt c = false) : rst (l ++ [c]) = l ++ [c] := by unfold rst; simp [h]
theorem signsF_skip {ts : List (List Nat)} : signsF (ts ++ [[]]) = signsF ts := by unfold signsF; simp
theorem signsF_snoc {ts : List (List Nat)} {c : List Nat} (h : c ≠ []) : signsF (ts ++ [c]) = if (ts.filter fun p => !p.isEmpty) = [] then strip2 c else signsF ts ++ 45 :: strip2 c := by
  unfold signsF
  have hc : (!c.isEmpty) = true := by simpa using h
  rw [List.filter_append, show List.filter (fun p : List Nat => !p.isEmpty) [c] = [c] from by simp [h], List.map_append]
  split
  · rename_i e; rw [e]; rfl
  · rename_i e
    rw [List.map_cons, List.map_nil, inter_snoc [45] _ _ (by simpa using e)]; rfl
theorem strip2_len (l : List Nat) : (strip2 l).length ≤ l.length := by
  unfold strip2 rst
  rw [List.length_reverse]
  have h1 : ∀ m : List Nat, (m.dropWhile bt).length ≤ m.length := fun m => (List.dropWhile_sublist _).length_le
  have h2 := h1 (l.dropWhile bt).reverse
  rw [List.length_reverse] at h2
  exact Nat.le_trans h2 (h1 l)
theorem tot_strip2 (f : List Nat → Bool) (ts : List (List Nat)) : tot ((ts.filter f).map strip2) ≤ tot ts := by
  induction ts with
  | nil => exact Nat.le_refl _
  | cons t r ih =>
    have := strip2_len t
    by_cases h : f t
    · rw [List.filter_cons_of_pos h, List.map_cons, tot_cons, tot_cons]; exact Mine.lc [tot (List.map strip2 (List.filter f r)), tot r, (strip2 t).length, t.length] [(1, .v 0, .v 1), (1, .v 2, .v 3)] (1, .a (.a (.v 2) (.n 1)) (.v 0), .a (.a (.v 3) (.n 1)) (.v 1)) rfl ih this
    · rw [List.filter_cons_of_neg h, tot_cons]; exact Mine.lc [tot (List.map strip2 (List.filter f r)), tot r, t.length] [(1, .v 0, .v 1)] (1, .v 0, .a (.a (.v 2) (.n 1)) (.v 1)) rfl ih
theorem signsF_len (ts : List (List Nat)) : (signsF ts).length ≤ tot ts := Nat.le_trans (inter1_len 45 _) (tot_strip2 _ ts)
end Mine

end
section
open PySem PyProof.Rows
set_option autoImplicit false
set_option linter.unusedVariables false
set_option maxRecDepth 100000
namespace Mine
noncomputable def alphaF : List Nat := [97, 45, 32, 47, 46, 117, 110, 107, 111, 119, 9, 92, 58, 59, 34, 40, 41, 233]
theorem bt_space : ∀ a ∈ alphaF, Unicode.isSpace a = bt a := by decide +kernel
theorem dropWhile_congr' {p q : Nat → Bool} : ∀ {l : List Nat}, (∀ a ∈ l, p a = q a) → l.dropWhile p = l.dropWhile q
  | [], _ => rfl
  | a :: r, h => by
    rw [List.dropWhile_cons, List.dropWhile_cons, h a (.head _), dropWhile_congr' fun x hx => h x (.tail _ hx)]
theorem strp_strip2 {l : List Nat} (h : ∀ a ∈ l, a ∈ alphaF) : strp l = strip2 l := by
  have h1 : ∀ a ∈ l, Unicode.isSpace a = bt a := fun a ha => bt_space a (h a ha)
  unfold strp strip2 rst
  rw [dropWhile_congr' h1]
  congr 1
  exact dropWhile_congr' fun a ha => h1 a ((List.dropWhile_sublist _).subset (List.mem_reverse.mp ha))
theorem mp_D {a : Nat} (h : isD a = true) : mp a = 45 := by
  have : a ∈ [45, 47, 92, 58, 59, 34, 40, 41] := by
    unfold isD at h; simpa using h
  simp only [List.mem_cons, List.not_mem_nil, or_false] at this
  rcases this with rfl | rfl | rfl | rfl | rfl | rfl | rfl | rfl <;> rfl
theorem mp_K {a : Nat} (h : isD a = false) : mp a = f1 32 95 a ∧ f1 32 95 a ≠ 45 := by
  have h' : ¬ a ∈ [45, 47, 92, 58, 59, 34, 40, 41] := by
    unfold isD at h; simpa using h
  simp only [List.mem_cons, List.not_mem_nil, or_false, not_or] at h'
  obtain ⟨h1, h2, h3, h4, h5, h6, h7, h8⟩ := h'
  by_cases k : a = 32
  · subst k; exact ⟨rfl, by decide⟩
  · refine ⟨?_, ?_⟩
    · simp [mp, f1, k, h1, h2, h3, h4, h5, h6, h7, h8]
    · simp [f1, k, h1]
theorem mp_unk {a c : Nat} (hc : c ∈ unk) : mp a = c ↔ a = c := by
  cases hd : isD a with
  | true =>
    rw [mp_D hd]
    constructor
    · rintro rfl; exact absurd hc (by decide)
    · rintro rfl
      have : ∀ x ∈ unk, isD x = false := by decide
      rw [this _ hc] at hd; cases hd
  | false =>
    rw [(mp_K hd).1]
    unfold f1
    split
    · rename_i k
      subst k
      constructor
      · rintro rfl; exact absurd hc (by decide)
      · rintro rfl; exact absurd hc (by decide)
    · exact Iff.rfl
theorem pre_map : ∀ (u l : List Nat), (∀ c ∈ u, c ∈ unk) → (u <+: l.map mp ↔ u <+: l)
  | [], l, _ => by simp
  | c :: u, [], _ => by simp
  | c :: u, a :: r, h => by
    rw [List.map_cons, List.cons_prefix_cons, List.cons_prefix_cons, pre_map u r fun x hx => h x (.tail _ hx)]
    constructor
    · rintro ⟨e, k⟩; exact ⟨((mp_unk (h c (.head _))).mp e.symm).symm, k⟩
    · rintro ⟨e, k⟩; exact ⟨((mp_unk (h c (.head _))).mpr e.symm).symm, k⟩
theorem rmU_pre {m : List Nat} (h : unk <+: m) : rmU m = rmU (m.drop 7) := by
  unfold rmU
  rw [rp_succ, if_pos h, List.nil_append]
  exact (rp_enough unk [] (by decide) ((m.drop unk.length).length + 1) m.length _ (Nat.le_succ _) (by
    have := h.length_le
    have e : unk.length = 7 := rfl
    rw [List.length_drop]; exact Mine.lc [unk.length, m.length - unk.length, m.length] [(1, .n 7, .v 0), (1, .a (.v 1) (.v 0), .v 2)] (1, .a (.v 1) (.n 1), .v 2) rfl (Nat.le_of_eq (e).symm) (Nat.le_of_eq (Nat.sub_add_cancel (show unk.length ≤ m.length from Mine.lc [unk.length, m.length] [(1, .v 0, .v 1)] (1, .v 0, .v 1) rfl this)))))
theorem rmU_cons {a : Nat} {m : List Nat} (h : ¬ unk <+: a :: m) : rmU (a :: m) = a :: rmU m := by
  unfold rmU
  rw [rp_succ, if_neg h]
  rfl
theorem trimE_cons {a : Nat} (h : a ≠ 45) (m : List Nat) : trimE (a :: m) = a :: trimE m := by
  unfold trimE
  rw [List.reverse_cons]
  have e : ∀ l : List Nat, (l ++ [a]).dropWhile (· == 45) = l.dropWhile (· == 45) ++ [a] := by
    intro l
    induction l with
    | nil => simp [h]
    | cons b r ih =>
      rw [List.cons_append, List.dropWhile_cons, List.dropWhile_cons]
      split
      · exact ih
      · rfl
  rw [e, List.reverse_append]; rfl
theorem trimE_cons2 {a : Nat} (h : a ≠ 45) (m : List Nat) : trimE (45 :: a :: m) = 45 :: a :: trimE m := by
  unfold trimE
  rw [List.reverse_cons, List.reverse_cons]
  have e : ∀ l : List Nat, (l ++ [a] ++ [45]).dropWhile (· == 45) = l.dropWhile (· == 45) ++ [a] ++ [45] := by
    intro l
    induction l with
    | nil => simp [h]
    | cons b r ih =>
      rw [List.cons_append, List.cons_append, List.dropWhile_cons, List.dropWhile_cons]
      split
      · exact ih
      · rfl
  rw [e]; simp
noncomputable def gG (o : Bool) (m : List Nat) : List Nat := trimE (sq (if o then 45 :: m else m))
theorem gG_D (o : Bool) (m : List Nat) : gG o (45 :: m) = gG true m := by
  cases o with
  | false => rfl
  | true => show trimE (sq (45 :: 45 :: m)) = _; rw [sq_dd]; rfl
theorem gG_K (o : Bool) {a : Nat} (h : a ≠ 45) (m : List Nat) : gG o (a :: m) = (if o then [45] else []) ++ a :: gG false m := by
  have e : sq (a :: m) = a :: sq m := by rw [sq_cons, if_neg fun q => h q.1]
  cases o with
  | false => show trimE (sq (a :: m)) = _; rw [e, trimE_cons h]; rfl
  | true =>
    show trimE (sq (45 :: a :: m)) = _
    rw [sq_cons, if_neg (fun q => h (by simpa using q.2)), e, trimE_cons2 h]; rfl
theorem kfin_gG : ∀ (n : Nat) (l : List Nat) (o : Bool), l.length ≤ n → kfin (l.length + 1) l o = gG o (rmU (l.map mp))
  | 0, l, o, hl => by
    have : l = [] := List.eq_nil_of_length_eq_zero (by exact Nat.le_antisymm (Mine.lc [l.length] [(1, .v 0, .n 0)] (1, .v 0, .n 0) rfl hl) (Mine.lc [l.length] [] (1, .n 0, .v 0) rfl ))
    subst this
    rw [kfin_nil]
    cases o <;> rfl
  | n + 1, l, o, hl => by
    by_cases h : unk <+: l
    · have h2 : unk <+: l.map mp := (pre_map unk l fun _ h => h).mpr h
      have h3 := h.length_le
      have e : unk.length = 7 := rfl
      rw [kfin_unk h, rmU_pre h2, ← List.map_drop]
      exact kfin_gG n _ o (by rw [List.length_drop]; exact Mine.lc [l.length, n, l.length - 7] [(1, .v 0, .a (.v 1) (.n 1)), (1, .a (.v 2) (.n 7), .v 0)] (1, .v 2, .v 1) rfl hl (Nat.le_of_eq (Nat.sub_add_cancel (show 7 ≤ l.length from Mine.lc [unk.length, l.length] [(1, .v 0, .v 1), (1, .n 7, .v 0)] (1, .n 7, .v 1) rfl h3 (Nat.le_of_eq (e).symm)))))
    · cases l with
      | nil => rw [kfin_nil]; cases o <;> rfl
      | cons a r =>
        have hr : r.length ≤ n := by simpa using hl
        have h2 : ¬ unk <+: mp a :: r.map mp := fun q => h ((pre_map unk (a :: r) fun _ h => h).mp q)
        rw [List.map_cons, rmU_cons h2]
        cases hd : isD a with
        | true => rw [kfin_D h hd, mp_D hd, gG_D, kfin_gG n r true hr]
        | false => rw [kfin_K h hd, (mp_K hd).1, gG_K o (mp_K hd).2, kfin_gG n r false hr]
theorem plat_safe {ts : List (List Nat)} (h : ∀ t ∈ ts, ∀ a ∈ t, a ∈ alphaF) : platF ts = safeF ts := by
  have e : ((ts.filter fun p => !p.isEmpty).map strp) = (ts.filter fun p => !p.isEmpty).map strip2 :=
    List.map_congr_left fun t ht => strp_strip2 (h t (List.mem_filter.mp ht).1)
  unfold platF safeF
  rw [kfin_gG _ _ _ (Nat.le_refl _), e]
  rfl
end Mine

end
section
open PySem PySem.W PySem.Calls PyProof.Rows
set_option Elab.async false
set_option autoImplicit false
set_option maxRecDepth 100000
set_option maxHeartbeats 4000000
set_option linter.unusedVariables false
set_option rowWalk.seconds 0
set_option pp.maxSteps 600
namespace Mine
section
variable {prog : Program} {w : World} {mg mb : Str → Option Value} {s : Shared} {A : Around} {E : Value → Shared → Prop} {Q : Value → Shared → Prop} {k : Nat}
  {name qual : Str} {params : Arguments} {body : List Stmt} {scope : Scope} {dV kV doc pm cdv ct oc : Value} {an od : Option Addr} {osl : Array (Option Value)} {f : Addr} {vs : List Value} {binds : List (Str × Value)}

theorem enterB_ (C : Cx w mg mb s.heap) (hr : Room A (k + 1)) (ht : 1 ≤ s.toks)
    (ho : (KK w).lookup f = some ⟨oc, od, .func (fnOf name qual params body scope dV kV doc pm an cdv ct), osl⟩)
    (hcd : codeIn (KK w) cdv qual = true)
    (hbind : BindsTo s (fnOf name qual params body scope dV kV doc pm an cdv ct) ⟨vs, []⟩ binds)
    (hloc : (binds.all fun x => decide (scope.names.lookup x.1 = some .local)) = true) {lo : List (Str × Value)} (hlo : binds.reverse = lo)
    (h : ∀ L s', St w mg mb s s.heap L lo [] s' → Room (A.deeper (envOf qual scope L f cdv)) k →
      wpAny (model prog w) (A.deeper (envOf qual scope L f cdv)) (execs body (envOf qual scope L f cdv))
        (fun fl s' => Q (match fl with | .ret v => v | _ => .none) s') (fun _ _ => False) s')
    (hcell : ∀ x ∈ scope.names, x.2 ≠ .cell) (hco : scope.isCoroutine = false) (hgen : scope.isGenerator = false) (hk : scope.kind = .function) :
    wpAny (model prog w) A (call (.ref f) vs) Q E s := by
  subst hlo
  refine wpAny_call (codeAny_call_def (fd := fnOf name qual params body scope dV kV doc pm an cdv ct) (body := body) (binds := binds) hr.lim (C.X _ _ ho) rfl C.T.nolimit (codeRec_of C.X hcd) rfl hbind hcell (locs hloc) (fun h₁ hns hk₁ => ?_) hco hgen hk)
  refine wpAny_mono (h s.heap.objs.size { s with heap := h₁, toks := s.toks + binds.length } ⟨⟨⟨_, hns, fun _ _ e => e⟩, hk₁, ?_, (fun _ hp => nomatch hp), List.Pairwise.nil⟩, C, ⟨_, _, rfl⟩, Nat.le_trans ht (Nat.le_add_right _ _), fun _ _ e => e⟩ hr.deeper) (fun fl s' hl => hl) fun _ _ e => e.elim
  cases e : s.heap.get? s.heap.objs.size with
  | none => rfl
  | some o => exact absurd (Heap.lt_size e) (Nat.lt_irrefl _)

end

end Mine

end
section
open PySem PySem.W PySem.Calls PyProof.Rows
set_option Elab.async false
set_option autoImplicit false
set_option maxRecDepth 100000
set_option maxHeartbeats 4000000
set_option linter.unusedVariables false
set_option rowWalk.seconds 0
set_option pp.maxSteps 600
namespace Mine
noncomputable def FrO (o : Obj) (lo : List (Str × Value)) : Prop := ∀ (h : Heap) (L : Addr), h.get? L = some o → HasNs h L lo
theorem HasNs.obj {h : Heap} {L : Addr} {lo : List (Str × Value)} (N : HasNs h L lo) : ∃ o, h.get? L = some o ∧ FrO o lo := by
  obtain ⟨m, ⟨o, es, ep, ho, r⟩, k⟩ := N
  exact ⟨o, ho, fun h' L' e => ⟨m, ⟨o, es, ep, e, r⟩, k⟩⟩
section
variable {prog : Program} {w : World} {mg mb : Str → Option Value} {s₀ s : Shared} {g : Heap} {L C D : Addr} {lo lo' loc : List (Str × Value)} {led led' : List (Addr × Ent)} {A : Around} {E : Value → Shared → Prop} {oL : Obj} {e : Ent}
theorem St.perm (H : St w mg mb s₀ g L lo led s) (p : led.Perm led') : St w mg mb s₀ g L lo led' s :=
  ⟨⟨H.fs.ns, H.fs.keep, H.fs.nL, fun q hq => H.fs.ok q (p.mem_iff.mpr hq), (p.map _).nodup_iff.mp H.fs.nd⟩, H.cx, H.eq, H.tk, H.base⟩
theorem St.swap (H : St w mg mb s₀ g C loc ((L, .obj oL) :: led) s) (hL : FrO oL lo) : ∃ oC, FrO oC loc ∧ St w mg mb s₀ g L lo ((C, .obj oC) :: led) s := by
  obtain ⟨oC, hoC, hC⟩ := H.fs.ns.obj
  have hl := H.fs.ok _ (.head _)
  have nd := List.nodup_cons.mp H.fs.nd
  refine ⟨oC, hC, ⟨⟨hL _ _ hl.1, H.fs.keep, hl.2.2, fun p hp => ?_, ?_⟩, H.cx, H.eq, H.tk, H.base⟩⟩
  · rcases List.mem_cons.mp hp with rfl | hp
    · exact ⟨hoC, Ne.symm hl.2.1, H.fs.nL⟩
    · refine ⟨(H.fs.ok p (.tail _ hp)).1, fun q => nd.1 ?_, (H.fs.ok p (.tail _ hp)).2.2⟩
      exact List.mem_map.mpr ⟨p, hp, q⟩
  · refine List.nodup_cons.mpr ⟨fun hm => ?_, nd.2⟩
    obtain ⟨p, hp, q⟩ := List.mem_map.mp hm
    exact (H.fs.ok p (.tail _ hp)).2.1 q
theorem St.dropBut {h' : Heap} (H : St w mg mb s₀ g L lo ((C, e) :: led) s) (hs : Heap.SameBut C s.heap h') : St w mg mb s₀ g L lo led { s with heap := h' } := by
  have hl := H.fs.ok _ (.head _)
  have F := H.fs
  have tk := H.tk
  have eq := H.eq
  obtain ⟨h, tk, rfl⟩ := eq
  have nd := List.nodup_cons.mp F.nd
  refine ⟨⟨F.ns.sameBut hs (Ne.symm hl.2.1), fun b o q => ?_, F.nL, fun p hp => ?_, nd.2⟩, H.cx, ⟨_, _, rfl⟩, H.tk, H.base⟩
  · refine (hs.2 b fun z => ?_).trans (F.keep b o q)
    rw [z, hl.2.2] at q; cases q
  · refine ⟨(F.ok p (.tail _ hp)).1.of fun o q => (hs.2 _ fun z => nd.1 ?_).trans q, (F.ok p (.tail _ hp)).2⟩
    exact List.mem_map.mpr ⟨p, hp, z⟩

theorem ldC_ {env : Env} {x : Str} {pos : Pos} {c : Addr} {o : Obj} {v : Value} {Q : Value → Shared → Prop} (H : St w mg mb s₀ g L lo led s) (hc : env.cells.lookup x = some c) (hm : (c, Ent.obj o) ∈ led) (hd : o.data = .cell (some v)) (h : Q v s)
    (hl : env.kindOf x = some .cell := by rfl) (hk : env.scope.kind = .function := by rfl) (hdb : (x == ("__debug__" : Str)) = false := by decide) :
    wpAny (model prog w) A (eval (.Name x pos) env) Q E s :=
  wpAny_Name (wpAny_loadName_cell hk hl hc ⟨_, H.obj hm, hd⟩ h) hdb
theorem storeC_ {env : Env} {x : Str} {c : Addr} {o : Obj} {v₀ : Option Value} {v : Value} {Q : Unit → Shared → Prop} (H : St w mg mb s₀ g L lo led s) (hc : env.cells.lookup x = some c) (hd : o.data = .cell v₀)
    (U : UpdE c (.obj o) (.obj { o with data := .cell (some v) }) led led') (h : ∀ s', St w mg mb s₀ g L lo led' s' → Q () s')
    (hl : env.kindOf x = some .cell := by rfl) (hk : env.scope.kind = .function := by rfl) :
    wpAny (model prog w) A (storeName env x v) Q E s := by
  unfold storeName
  simp only [hl, hk]
  have ho := H.obj U.mem
  refine wpAny_bind (wpAny_cellOf hc ?_)
  unfold cellSet
  refine wpAny_bind (wpAny_load ho ?_)
  rw [hd]
  refine wpAny_update ho (h _ (H.turned U ?_ (Heap.SameBut.update ..) H.tk))
  exact Heap.get?_update_self _ ho rfl
end
section
variable {prog : Program} {w : World} {mg mb : Str → Option Value} {s₀ s : Shared} {g : Heap} {L C D : Addr} {lo lo' loc : List (Str × Value)} {led led' : List (Addr × Ent)} {A : Around} {E : Value → Shared → Prop}
  {R : Result → Shared → Prop} {x : Str} {px pos : Pos} {elt iter : Expr} {ifs : List Expr} {scope : Scope} {I : Addr} {fp wr : List Addr} {n : Nat} {P : Nat → Value → Prop} {Sti : Nat → Heap → Prop} {cenv : Env}
noncomputable abbrev testsOf (ifs : List Expr) (cenv : Env) : Sem Bool := forIn ifs true fun c r => if r = true then do let ok ← isTrue c cenv (eval c cenv); pure (ForInStep.yield ok) else pure (ForInStep.yield r)
theorem compLoop_ (W : Walks prog w A I fp wr n P Sti) (hnd : wr.Nodup) (hwr : ∀ b ∈ wr, b ≠ C ∧ g.get? b = none) (hfp : ∀ b ∈ fp, b ∈ wr ∨ ∃ o, g.get? b = some o)
    (hex : ∀ i h, Sti i h → ∀ b ∈ wr, ∃ o, h.get? b = some o) (hC : cenv.locals = C) (hx : cenv.kindOf x = some .local) (hp : (cenv.scope.kind == .class || (cenv.scope.kind == .module && cenv.locals != cenv.globals)) = false)
    (Inv : Nat → Shared → List Value → List (Addr × Ent) → Prop) (H : St w mg mb s₀ g C loc ((D, .lst []) :: led) s) (h0 : Inv 0 s₀ [] led) (hdis : ∀ p ∈ (D, Ent.lst []) :: led, p.1 ∉ wr) (hst : Sti 0 s.heap) (hsz : n ≤ sizeLine)
    (turn : ∀ i v s₀₁ ys led₁ its s₁, i < n → P i v → Inv i s₀₁ ys led₁ → St w mg mb s₀₁ g C [(x, v)] ((D, .lst ys) :: (led₁ ++ its)) s₁ →
      wpAny (model prog w) A (testsOf ifs cenv) (fun ok s₂ => if ok = true then
          wpAny (model prog w) A (eval elt cenv) (fun y s₃ => ∃ s₀₃ led₃ lo₃, Inv (i + 1) s₀₃ (ys ++ [y]) led₃ ∧ St w mg mb s₀₃ g C lo₃ ((D, .lst ys) :: (led₃ ++ its)) s₃) (fun _ _ => False) s₂
        else ∃ s₀₃ led₃ lo₃, Inv (i + 1) s₀₃ ys led₃ ∧ St w mg mb s₀₃ g C lo₃ ((D, .lst ys) :: (led₃ ++ its)) s₂) (fun _ _ => False) s₁)
    (done : ∀ s₀₁ ys led₁ lo₁ s₁, Inv n s₀₁ ys led₁ → St w mg mb s₀₁ g C lo₁ ((D, .lst ys) :: led₁) s₁ → R (.ok .next) s₁) :
    codeAny (model prog w) A (.compLoop (.ListComp elt [⟨.Name x px, iter, ifs, 0⟩] scope pos) 0 (.ref I) (.ref D) cenv) R s := by
  subst hC
  refine codeAny_compLoop_tests (fun k s' => ∃ i s₀₁ ys led₁ lo₁, i ≤ n ∧ k = n + 1 - i ∧ ys.length ≤ i ∧ Inv i s₀₁ ys led₁ ∧ St w mg mb s₀₁ g cenv.locals lo₁ ((D, .lst ys) :: led₁) s' ∧ (∀ p ∈ (D, Ent.lst ys) :: led₁, p.1 ∉ wr) ∧ Sti i s'.heap) ?_ (n + 1)
    ⟨0, s₀, [], led, loc, Nat.zero_le _, rfl, Nat.zero_le _, h0, H, hdis, hst⟩
  rintro k s' ⟨i, s₀₁, ys, led₁, lo₁, hi, rfl, hyl, hI, H₁, hd₁, hst₁⟩
  by_cases hlt : i < n
  · refine wpAny_with_toks (n := 1) H₁.tk (W.item i _ _ _ hlt hst₁ fun v h' tk hP hst' hk ht => ?_)
    have H₂ := (H₁.withIts (wr := wr) hk ht hwr hnd hd₁ (hex _ _ hst')).less (lo' := []) (fun _ _ e => nomatch e)
    refine wpAny_assign_Name (store_ H₂ (.nil) (fun s₂ H₃ => ?_) hx rfl hp)
    refine wpAny_mono (turn i v s₀₁ ys led₁ _ s₂ hlt hP hI H₃) (fun ok s₃ h₃ => ?_) fun _ _ e => e.elim
    have fin : ∀ ys' s₅, ys'.length ≤ i + 1 → (∃ s₀₃ led₃ lo₃, Inv (i + 1) s₀₃ ys' led₃ ∧ St w mg mb s₀₃ g cenv.locals lo₃ ((D, .lst ys') :: (led₃ ++ itsOf h' wr)) s₅) →
        ∃ m, m < n + 1 - i ∧ ∃ i s₀₁ ys led₁ lo₁, i ≤ n ∧ m = n + 1 - i ∧ ys.length ≤ i ∧ Inv i s₀₁ ys led₁ ∧ St w mg mb s₀₁ g cenv.locals lo₁ ((D, .lst ys) :: led₁) s₅ ∧ (∀ p ∈ (D, Ent.lst ys) :: led₁, p.1 ∉ wr) ∧ Sti i s₅.heap := by
      rintro ys' s₅ hyl' ⟨s₀₃, led₃, lo₃, hI₃, H₄⟩
      rw [← List.cons_append] at H₄
      refine ⟨n + 1 - (i + 1), by exact Mine.lc [n + 1 - (i + 1), i, n, n + 1 - i] [(1, .a (.v 0) (.a (.v 1) (.n 1)), .a (.v 2) (.n 1)), (1, .a (.v 2) (.n 1), .a (.v 3) (.v 1))] (1, .a (.v 0) (.n 1), .v 3) rfl (Nat.le_of_eq (Nat.sub_add_cancel (show i + 1 ≤ n + 1 from Mine.lc [i, n] [(1, .v 0, .v 1)] (1, .a (.v 0) (.n 1), .a (.v 1) (.n 1)) rfl hi))) (Nat.sub_le_iff_le_add.mp (Nat.le_refl ( n + 1 - ( i)))), i + 1, s₀₃, ys', led₃, lo₃, hlt, rfl, hyl', hI₃, H₄.drop (List.sublist_append_left _ _), fun p hp hm => ?_, W.frame _ _ _ hst' fun b hb o e => ?_⟩
      · have nd := H₄.fs.nd
        rw [List.map_append] at nd
        refine (List.nodup_append.mp nd).2.2 p.1 (List.mem_map_of_mem hp) p.1 ?_ rfl
        rw [itsOf_keys (hex _ _ hst')]; exact hm
      · rcases hfp b hb with hm | ⟨o', ho'⟩
        · exact H₄.obj (List.mem_append_right _ (mem_itsOf hm e))
        · have e1 := H₂.fs.keep _ _ ho'
          have e2 := H₄.fs.keep _ _ ho'
          have e3 : h'.get? b = some o' := e1
          rw [e3] at e; cases e; exact e2
    cases ok with
    | false =>
      simp only [Bool.false_eq_true, if_false] at h₃ ⊢
      exact fin ys s₃ (Nat.le_succ_of_le hyl) h₃
    | true =>
      simp only [if_true] at h₃ ⊢
      refine wpAny_mono h₃ (fun y s₄ h₄ => ?_) fun _ _ e => e.elim
      obtain ⟨s₀₃, led₃, lo₃, hI₃, H₄⟩ := h₄
      exact append_ H₄ .head (Nat.le_trans hyl (Nat.le_trans (Nat.le_of_lt hlt) hsz)) fun s₅ H₅ => fin _ s₅ (by rw [List.length_append]; exact Nat.succ_le_succ hyl) ⟨s₀₃, led₃, lo₃, hI₃, H₅⟩
  · have hin : i = n := by exact Nat.le_antisymm (Mine.lc [i, n] [(1, .v 0, .v 1)] (1, .v 0, .v 1) rfl hi) (Mine.lc [n, i] [(1, .v 0, .v 1)] (1, .v 0, .v 1) rfl (Nat.le_of_not_lt hlt))
    subst hin
    refine wpAny_with_toks (n := 1) H₁.tk (W.done _ _ _ hst₁ fun h' tk hk ht => ?_)
    have F := H₁.fs
    have eq := H₁.eq
    obtain ⟨h, tk₀, rfl⟩ := eq
    refine done s₀₁ ys led₁ lo₁ _ hI ⟨⟨F.ns.at' fun o e => hk _ o (fun hm => (hwr _ hm).1 rfl) e, fun b o e => hk b o (fun hm => by rw [(hwr b hm).2] at e; cases e) (F.keep b o e), F.nL, fun p hp => ⟨(F.ok p hp).1.of fun o e => hk _ _ (hd₁ p hp) e, (F.ok p hp).2⟩, F.nd⟩, H₁.cx, ⟨_, _, rfl⟩, ht, H₁.base⟩
end

end Mine

end
section
open PySem PySem.W PySem.Calls PyProof.Rows
set_option Elab.async false
set_option autoImplicit false
set_option maxRecDepth 100000
set_option maxHeartbeats 4000000
set_option linter.unusedVariables false
set_option rowWalk.seconds 0
set_option pp.maxSteps 600
namespace Mine
noncomputable def WalkAt (prog : Program) (w : World) (A : Around) (g : Heap) (L : Addr) (led : List (Addr × Ent)) (n : Nat) (P : Nat → Value → Prop) (it : Value) (s : Shared) : Prop :=
  ∃ I fp wr Sti, it = .ref I ∧ Walks prog w A I fp wr n P Sti ∧ wr.Nodup ∧ (∀ b ∈ wr, b ≠ L ∧ g.get? b = none ∧ b < s.heap.objs.size) ∧ (∀ b ∈ fp, b ∈ wr ∨ ∃ o, g.get? b = some o) ∧
    (∀ i h, Sti i h → ∀ b ∈ wr, ∃ o, h.get? b = some o) ∧ (∀ p ∈ led, p.1 ∉ wr) ∧ Sti 0 s.heap
section
variable {prog : Program} {w : World} {mg mb : Str → Option Value} {s₀ s : Shared} {g : Heap} {L : Addr} {lo lo' : List (Str × Value)} {led led' : List (Addr × Ent)} {A : Around} {E : Value → Shared → Prop}
  {x : Str} {px pos : Pos} {elt iter : Expr} {ifs : List Expr} {scope : Scope} {n : Nat} {P : Nat → Value → Prop} {env : Env} {cl : List (Str × Addr)} {l : Addr} {vs : List Value}
theorem itL_ {Q : Value → Shared → Prop} (hh : A.handled = none) (H : St w mg mb s₀ g L lo led s) (hl : g.IsList l vs.toArray)
    (h : ∀ it s', St w mg mb s₀ g L lo led s' → WalkAt prog w A g L led vs.length (fun i v => vs[i]? = some v) it s' → Q it s') : wpAny (model prog w) A (pyIter (.ref l)) Q E s := by
  have hls := H.blst hl
  obtain ⟨f1, f2, f3⟩ := H.fresh
  obtain ⟨ol, hol, _⟩ := id hl
  have hne : l ≠ s.heap.objs.size := Nat.ne_of_lt (Heap.lt_size (H.fs.keep _ _ hol))
  refine wpAny_pyIter_list hls ?_
  have W := Walks.list (prog := prog) (w := w) hh s.heap.objs.size l hne vs.toArray
  rw [List.size_toArray, show (fun (i : Nat) (v : Value) => vs.toArray[i]? = some v) = fun i v => vs[i]? = some v from by funext i v; simp] at W
  refine h _ _ (H.moved ⟨_, _, rfl, fun b o e => Heap.get?_push_of_some _ e⟩ H.tk) ⟨_, _, _, _, rfl, W, by simp, ?_, ?_, ?_, ?_, ⟨_, Heap.get?_push_size _ rfl, rfl, rfl⟩, hls.push _⟩
  · intro b hb
    rw [List.mem_singleton.mp hb]; exact ⟨f1, f2, by rw [Heap.size_push]; exact Nat.lt_succ_self _⟩
  · intro b hb
    rcases List.mem_cons.mp hb with rfl | hb
    · exact .inl (.head _)
    · rw [List.mem_singleton.mp hb]; exact .inr ⟨_, hol⟩
  · intro i h hst b hb
    rw [List.mem_singleton.mp hb]
    obtain ⟨o, ho, _⟩ := hst.1; exact ⟨o, ho⟩
  · intro p hp hm
    rw [List.mem_singleton] at hm
    exact f3 (List.mem_map.mpr ⟨p, hp, hm⟩)
theorem itT_ {Q : Value → Shared → Prop} (hh : A.handled = none) (H : St w mg mb s₀ g L lo led s) (hl : g.get? l = some (tupO vs))
    (h : ∀ it s', St w mg mb s₀ g L lo led s' → WalkAt prog w A g L led vs.length (fun i v => vs[i]? = some v) it s' → Q it s') : wpAny (model prog w) A (pyIter (.ref l)) Q E s := by
  have hls : s.heap.IsTuple l vs.toArray := ⟨_, H.fs.keep _ _ hl, rfl, _, rfl⟩
  obtain ⟨f1, f2, f3⟩ := H.fresh
  have hne : l ≠ s.heap.objs.size := Nat.ne_of_lt (Heap.lt_size (H.fs.keep _ _ hl))
  refine wpAny_pyIter_tuple hls ?_
  have W := Walks.tuple (prog := prog) (w := w) hh s.heap.objs.size l hne vs.toArray
  rw [List.size_toArray, show (fun (i : Nat) (v : Value) => vs.toArray[i]? = some v) = fun i v => vs[i]? = some v from by funext i v; simp] at W
  refine h _ _ (H.moved ⟨_, _, rfl, fun b o e => Heap.get?_push_of_some _ e⟩ H.tk) ⟨_, _, _, _, rfl, W, by simp, ?_, ?_, ?_, ?_, ⟨_, Heap.get?_push_size _ rfl, rfl, rfl⟩, hls.at fun o e => Heap.get?_push_of_some _ e⟩
  · intro b hb
    rw [List.mem_singleton.mp hb]; exact ⟨f1, f2, by rw [Heap.size_push]; exact Nat.lt_succ_self _⟩
  · intro b hb
    rcases List.mem_cons.mp hb with rfl | hb
    · exact .inl (.head _)
    · rw [List.mem_singleton.mp hb]; exact .inr ⟨_, hl⟩
  · intro i h hst b hb
    rw [List.mem_singleton.mp hb]
    obtain ⟨o, ho, _⟩ := hst.1; exact ⟨o, ho⟩
  · intro p hp hm
    rw [List.mem_singleton] at hm
    exact f3 (List.mem_map.mpr ⟨p, hp, hm⟩)

theorem compBlock_ {it : Value} {RR : Value → Addr → Result → Shared → Prop} (W : WalkAt prog w A g L led n P it s) (hsz : n ≤ sizeLine)
    (hcell : ∀ y ∈ scope.names, y.2 ≠ .cell) (hkind : scope.kind = .function) (hx : ∀ C, (compEnvC scope cl C env).kindOf x = some .local)
    (H : St w mg mb s₀ g L lo led s) (Inv : Nat → Shared → List Value → List (Addr × Ent) → Prop) (h0 : Inv 0 s₀ [] led)
    (turn : ∀ C D oL i v s₀₁ ys led₁ its s₁, i < n → P i v → Inv i s₀₁ ys led₁ → St w mg mb s₀₁ g C [(x, v)] ((D, .lst ys) :: (L, .obj oL) :: (led₁ ++ its)) s₁ →
      wpAny (model prog w) A (testsOf ifs (compEnvC scope cl C env)) (fun ok s₂ => if ok = true then
          wpAny (model prog w) A (eval elt (compEnvC scope cl C env)) (fun y s₃ => ∃ s₀₃ led₃ lo₃, Inv (i + 1) s₀₃ (ys ++ [y]) led₃ ∧ St w mg mb s₀₃ g C lo₃ ((D, .lst ys) :: (L, .obj oL) :: (led₃ ++ its)) s₃) (fun _ _ => False) s₂
        else ∃ s₀₃ led₃ lo₃, Inv (i + 1) s₀₃ ys led₃ ∧ St w mg mb s₀₃ g C lo₃ ((D, .lst ys) :: (L, .obj oL) :: (led₃ ++ its)) s₂) (fun _ _ => False) s₁)
    (done : ∀ C D oC s₀₁ ys led₁ s₁, Inv n s₀₁ ys led₁ → St w mg mb s₀₁ g L lo ((C, .obj oC) :: (D, .lst ys) :: led₁) s₁ → FrO oC [] → RR (.ref D) C (.ok .next) s₁) :
    wpAny (model prog w) A (newList []) (fun acc s₃ => wpAny (model prog w) A (newFunctionEnv scope env.globals cl [] env.qual none .none (some env)) (fun cenv s₄ =>
      codeAny (model prog w) A (.compStart (.ListComp elt [⟨.Name x px, iter, ifs, 0⟩] scope pos) 0 it acc { cenv with scope := relabel scope env }) (RR acc cenv.locals) s₄) E s₃) E s := by
  obtain ⟨I, fp, wr, Sti, rfl, W, hnd, hwr, hfp, hex, hdis, hst⟩ := W
  have hDL := H.fresh
  refine wpAny_newObj_type ?_ (by show ([] : List Value).toArray.size ≤ sizeLine; exact Nat.zero_le _)
  have H₁ := H.pushed { cls := .type "list", dict := none, data := .seq ([] : List Value).toArray } (.lst []) ⟨0, Heap.get?_push_size _ rfl⟩ s.toks H.tk
  have hst₁ : Sti 0 (s.heap.push { cls := .type "list", dict := none, data := .seq ([] : List Value).toArray }) := W.frame _ _ _ hst fun b _ o e => Heap.get?_push_of_some _ e
  have hDw : s.heap.objs.size ∉ wr := fun hm => Nat.lt_irrefl _ (hwr _ hm).2.2
  generalize hs1 : ({ s with heap := s.heap.push { cls := .type "list", dict := none, data := .seq ([] : List Value).toArray }, toks := s.toks } : Shared) = s₁ at H₁
  have e1 : s₁.heap = s.heap.push { cls := .type "list", dict := none, data := .seq ([] : List Value).toArray } := by rw [← hs1]
  have e2 : s.heap.objs.size + 1 = s₁.heap.objs.size := by rw [e1, Heap.size_push]
  show wpAny _ _ (newFunctionEnv _ _ _ _ _ _ _ _) _ _ s₁
  rw [← e1] at hst₁
  clear hs1
  refine wpAny_newFunctionEnv hcell (by intro y hy; simp at hy) (fun h₁ hns hsb => ?_) hkind
  have e3 : s.heap.objs.size ≤ s₁.heap.objs.size := by rw [← e2]; exact Nat.le_succ _
  have hC1 : s₁.heap.objs.size ∉ wr := fun hm => Nat.lt_irrefl _ (Nat.lt_of_lt_of_le (hwr _ hm).2.2 e3)
  have H₂ := H₁.pushed { cls := .type (if (some env).isSome then "dict" else "frame"), data := .dict #[] } (.obj _) (Heap.get?_push_size _ rfl) s₁.toks H₁.tk
  obtain ⟨oC, hoC, hFC⟩ := HasNs.obj (lo := []) ⟨_, hns, fun _ _ e => nomatch e⟩
  have H₃ := H₂.turned (e' := .obj oC) .head hoC hsb (Nat.le_trans H₁.tk (Nat.le_add_right _ ([] : List (Str × Value)).length))
  have hst₂ : Sti 0 h₁ := W.frame _ _ _ hst₁ fun b hb o e => hsb.extBut b o (fun q => Nat.lt_irrefl _ (q ▸ Heap.lt_size e)) (Heap.get?_push_of_some _ e)
  obtain ⟨oL, hFL, H₄⟩ := H₃.swap hFC
  have H₅ := H₄.perm (.swap ..)
  have loop : codeAny (model prog w) A (.compLoop (.ListComp elt [⟨.Name x px, iter, ifs, 0⟩] scope pos) 0 (.ref I) (.ref s.heap.objs.size) (compEnvC scope cl s₁.heap.objs.size env)) (RR (.ref s.heap.objs.size) s₁.heap.objs.size)
      { s₁ with heap := h₁, toks := s₁.toks + ([] : List (Str × Value)).length } := by
    refine compLoop_ (C := s₁.heap.objs.size) W hnd (fun b hb => ⟨fun q => hC1 (q ▸ hb), (hwr b hb).2.1⟩) hfp hex rfl (hx _) (by simp [compEnvC, relabel, hkind])
      (fun i s₀₁ ys led' => ∃ led₁, led' = (L, .obj oL) :: led₁ ∧ Inv i s₀₁ ys led₁) H₅ ⟨led, rfl, h0⟩ ?_ hst₂ hsz ?_ ?_
    · intro p hp hm
      rcases List.mem_cons.mp hp with rfl | hp
      · exact hDw hm
      · rcases List.mem_cons.mp hp with rfl | hp
        · exact (hwr _ hm).1 rfl
        · exact hdis p hp hm
    · rintro i v s₀₁ ys _ its s₂ hi hP ⟨led₁, rfl, hI⟩ H₆
      refine wpAny_mono (turn _ _ oL i v s₀₁ ys led₁ its s₂ hi hP hI H₆) (fun ok s₃ h₃ => ?_) fun _ _ e => e
      cases ok with
      | false => 
        simp only [Bool.false_eq_true, if_false] at h₃ ⊢
        obtain ⟨a, b, c, d, e⟩ := h₃; exact ⟨a, _, c, ⟨b, rfl, d⟩, e⟩
      | true =>
        simp only [if_true] at h₃ ⊢
        refine wpAny_mono h₃ (fun y s₄ h₄ => ?_) fun _ _ e => e
        obtain ⟨a, b, c, d, e⟩ := h₄; exact ⟨a, _, c, ⟨b, rfl, d⟩, e⟩
    · rintro s₀₁ ys _ lo₁ s₂ ⟨led₁, rfl, hI⟩ H₆
      obtain ⟨oC', hFC', H₇⟩ := ((H₆.less (lo' := []) (fun _ _ e => nomatch e)).perm (.swap ..)).swap hFL
      exact done _ _ oC' s₀₁ ys led₁ s₂ hI H₇ hFC'
  exact codeAny_compStart_list loop (W.self 0 _ _ _ hst₂ loop)
theorem compE_ {Q : Value → Shared → Prop} (hsz : n ≤ sizeLine) (hclos : closureFor scope env = pure cl) (hcell : ∀ y ∈ scope.names, y.2 ≠ .cell) (hkind : scope.kind = .function)
    (hnames : ∀ y ∈ scope.names, y.2 = .local → scope.names.lookup y.1 = some .local) (hx : ∀ C, (compEnvC scope cl C env).kindOf x = some .local)
    (Inv : Nat → Shared → List Value → List (Addr × Ent) → Prop) (h0 : Inv 0 s₀ [] led)
    (hi : wpAny (model prog w) A (eval iter env) (fun xv s₁ => wpAny (model prog w) A (pyIter xv) (fun it s₂ => St w mg mb s₀ g L lo led s₂ ∧ WalkAt prog w A g L led n P it s₂) E s₁) E s)
    (turn : ∀ C D oL i v s₀₁ ys led₁ its s₁, i < n → P i v → Inv i s₀₁ ys led₁ → St w mg mb s₀₁ g C [(x, v)] ((D, .lst ys) :: (L, .obj oL) :: (led₁ ++ its)) s₁ →
      wpAny (model prog w) A (testsOf ifs (compEnvC scope cl C env)) (fun ok s₂ => if ok = true then
          wpAny (model prog w) A (eval elt (compEnvC scope cl C env)) (fun y s₃ => ∃ s₀₃ led₃ lo₃, Inv (i + 1) s₀₃ (ys ++ [y]) led₃ ∧ St w mg mb s₀₃ g C lo₃ ((D, .lst ys) :: (L, .obj oL) :: (led₃ ++ its)) s₃) (fun _ _ => False) s₂
        else ∃ s₀₃ led₃ lo₃, Inv (i + 1) s₀₃ ys led₃ ∧ St w mg mb s₀₃ g C lo₃ ((D, .lst ys) :: (L, .obj oL) :: (led₃ ++ its)) s₂) (fun _ _ => False) s₁)
    (done : ∀ D s₀₁ ys led₁ s₁, Inv n s₀₁ ys led₁ → St w mg mb s₀₁ g L lo ((D, .lst ys) :: led₁) s₁ → Q (.ref D) s₁)
    (hs : ∀ x, foldedSetIterable iter env x = pure x := by intro _; rfl) :
    wpAny (model prog w) A (eval (.ListComp elt [⟨.Name x px, iter, ifs, 0⟩] scope pos) env) Q E s := by
  rw [eval_ListComp]
  refine wpAny_comprehension_free (use := none) rfl hs hclos hkind hnames (wpAny_mono hi (fun xv s₁ h₁ => wpAny_mono h₁ (fun it s₂ h₂ => ?_) fun _ _ e => e) fun _ _ e => e)
  refine compBlock_ (RR := fun acc C => compPost (model prog w) A E none Q acc C) h₂.2 hsz hcell hkind hx h₂.1 Inv h0 turn ?_
  intro C D oC s₀₁ ys led₁ s₃ hI H₁ hF
  obtain ⟨m, hm, _⟩ := hF _ _ (H₁.obj (.head _))
  exact ⟨m, hm, fun h' hs' => done D s₀₁ ys led₁ _ hI (H₁.dropBut hs')⟩
theorem compA_ {y : Str} {py spos : Pos} {Q : Flow → Shared → Prop} (hsz : n ≤ sizeLine) (hclos : closureFor scope env = pure cl) (hcell : ∀ y ∈ scope.names, y.2 ≠ .cell) (hkind : scope.kind = .function)
    (hnames : ∀ y ∈ scope.names, y.2 = .local → scope.names.lookup y.1 = some .local) (hx : ∀ C, (compEnvC scope cl C env).kindOf x = some .local)
    (Inv : Nat → Shared → List Value → List (Addr × Ent) → Prop) (h0 : Inv 0 s₀ [] led)
    (hi : wpAny (model prog w) A (eval iter env) (fun xv s₁ => wpAny (model prog w) A (pyIter xv) (fun it s₂ => St w mg mb s₀ g L lo led s₂ ∧ WalkAt prog w A g L led n P it s₂) E s₁) E s)
    (turn : ∀ C D oL i v s₀₁ ys led₁ its s₁, i < n → P i v → Inv i s₀₁ ys led₁ → St w mg mb s₀₁ g C [(x, v)] ((D, .lst ys) :: (L, .obj oL) :: (led₁ ++ its)) s₁ →
      wpAny (model prog w) A (testsOf ifs (compEnvC scope cl C env)) (fun ok s₂ => if ok = true then
          wpAny (model prog w) A (eval elt (compEnvC scope cl C env)) (fun y s₃ => ∃ s₀₃ led₃ lo₃, Inv (i + 1) s₀₃ (ys ++ [y]) led₃ ∧ St w mg mb s₀₃ g C lo₃ ((D, .lst ys) :: (L, .obj oL) :: (led₃ ++ its)) s₃) (fun _ _ => False) s₂
        else ∃ s₀₃ led₃ lo₃, Inv (i + 1) s₀₃ ys led₃ ∧ St w mg mb s₀₃ g C lo₃ ((D, .lst ys) :: (L, .obj oL) :: (led₃ ++ its)) s₂) (fun _ _ => False) s₁)
    (done : ∀ D s₀₁ ys led₁ lo₁ s₁, Inv n s₀₁ ys led₁ → SetL y (.ref D) lo lo₁ → St w mg mb s₀₁ g L lo₁ ((D, .lst ys) :: led₁) s₁ → Q .next s₁)
    (hlo : ∀ v, ∃ lo₁, SetL y v lo lo₁)
    (hsw : swapsWith (.ListComp elt [⟨.Name x px, iter, ifs, 0⟩] scope pos) (some (.Name y py)) spos.line env = pure true := by rfl)
    (hy : env.kindOf y = some .local := by rfl) (hL : env.locals = L := by rfl)
    (hp : (env.scope.kind == .class || (env.scope.kind == .module && env.locals != env.globals)) = false := by rfl)
    (hs : ∀ x, foldedSetIterable iter env x = pure x := by intro _; rfl) :
    wpAny (model prog w) A (exec (.Assign [.Name y py] (.ListComp elt [⟨.Name x px, iter, ifs, 0⟩] scope pos) spos) env) Q E s := by
  rw [exec_Assign_Name_used _ _ _ _ hsw]
  refine wpAny_bind (wpAny_standAt (wpAny_bind ?_))
  show wpAny _ A (do let _ ← comprehension (.ListComp elt [⟨.Name x px, iter, ifs, 0⟩] scope pos) scope env _ (newList []) false (eval iter env) (some (assign (.Name y py) env))) _ _ s
  refine wpAny_bind (wpAny_mono (wpAny_comprehension_free (use := some (assign (.Name y py) env)) (Q := fun _ s' => Q .next s') rfl hs hclos hkind hnames
    (wpAny_mono hi (fun xv s₁ h₁ => wpAny_mono h₁ (fun it s₂ h₂ => ?_) fun _ _ e => e) fun _ _ e => e)) (fun _ s' hq => wpAny_pure (wpAny_pure hq)) fun _ _ e => e)
  refine compBlock_ (RR := fun acc C => compPost (model prog w) A E (some (assign (.Name y py) env)) (fun _ s' => Q .next s') acc C) h₂.2 hsz hcell hkind hx h₂.1 Inv h0 turn ?_
  intro C D oC s₀₁ ys led₁ s₃ hI H₁ hF
  obtain ⟨lo₁, hS⟩ := hlo (.ref D)
  show wpAny _ A (assign (.Name y py) env (.ref D)) _ _ _
  refine wpAny_assign_Name (store_ H₁ hS (fun s₄ H₂ => ?_) hy hL hp)
  obtain ⟨m, hm, _⟩ := hF _ _ (H₂.obj (.head _))
  exact ⟨m, hm, fun h' hs' => done D s₀₁ ys led₁ lo₁ _ hI hS (H₂.dropBut hs')⟩
end

end Mine

end
section
open PySem PySem.W PySem.Calls PyProof.Rows
set_option Elab.async false
set_option autoImplicit false
set_option maxRecDepth 100000
set_option maxHeartbeats 4000000
set_option linter.unusedVariables false
namespace Mine
theorem owner_filter : Manifest.owners.lookup (String.ofList ['r', 'e', 't', 'l', 'i', 'f'].reverse) = some Manifest.sig_filter := by kernel_rfl
theorem slot_filter_iter : Slot "filter" "__iter__" "filter.__iter__" :=
  .of (owner := "filter") (n := "__iter__") (by rw [typeLookup_type, builtinLookup_eq_fast]; kernel_rfl) (by decide +kernel) (by decide +kernel) (by decide +kernel)
    (by first | exact .inl (by decide +kernel) | exact .inr (by decide +kernel)) (by rw [isSubtype_type]; kernel_rfl)
theorem args_filter_iter_1 (a : Value) : argsOk "filter.__iter__" ⟨[a], []⟩ := by
  unfold argsOk; rw [signature?_of (id := "filter.__iter__") (n := ['_', '_', 'r', 'e', 't', 'i', '_', '_']) (o := ['r', 'e', 't', 'l', 'i', 'f']) (by kernel_rfl) owner_filter]; kernel_rfl
theorem slot_filter_next : Slot "filter" "__next__" "filter.__next__" :=
  .of (owner := "filter") (n := "__next__") (by rw [typeLookup_type, builtinLookup_eq_fast]; kernel_rfl) (by decide +kernel) (by decide +kernel) (by decide +kernel)
    (by first | exact .inl (by decide +kernel) | exact .inr (by decide +kernel)) (by rw [isSubtype_type]; kernel_rfl)
theorem args_filter_next_1 (a : Value) : argsOk "filter.__next__" ⟨[a], []⟩ := by
  unfold argsOk; rw [signature?_of (id := "filter.__next__") (n := ['_', '_', 't', 'x', 'e', 'n', '_', '_']) (o := ['r', 'e', 't', 'l', 'i', 'f']) (by kernel_rfl) owner_filter]; kernel_rfl
theorem slot_filter_init : Slot "filter" "__init__" "object.__init__" :=
  .of (owner := "object") (n := "__init__") (by rw [typeLookup_type, builtinLookup_eq_fast]; kernel_rfl) (by decide +kernel) (by decide +kernel) (by decide +kernel)
    (by first | exact .inl (by decide +kernel) | exact .inr (by decide +kernel)) (by rw [isSubtype_type]; kernel_rfl)
theorem entry_filter_next : entryFor table "filter.__next__" = some Builtin.«filter.__next__» := entryFor_of_fast (by kernel_rfl)
theorem entry_filter_iter : entryFor table "filter.__iter__" = some Builtin.«dict_keyiterator.__iter__» :=
  entryFor_alias (id' := "dict_keyiterator.__iter__") (by kernel_rfl) (by first | rfl | decide +kernel | (unfold String.splitOn; simp +decide [String.splitOnAux])) (by decide +kernel) (by kernel_rfl)
theorem mro_filter : mroOf (.type "filter") = pure [.type "filter", .type "object"] := by rw [mroOf_type]; kernel_rfl
theorem lookup_filter_new : typeLookup (.type "filter") "__new__" = pure (some (.builtin "filter.__new__")) := by rw [typeLookup_type, builtinLookup_eq_fast]; kernel_rfl
theorem called_filter : TypeCalled "filter" "filter.__new__" "object.__init__" :=
  ⟨by decide +kernel, by decide +kernel, ⟨_, _, mro_filter⟩, madeBy_type mro_filter lookup_filter_new (by decide +kernel), by decide +kernel, by rw [isSubtype_type]; kernel_rfl, slot_filter_init⟩
theorem typeCall_filter_2 (a b : Value) : checkTypeCall "filter" ⟨[a, b], []⟩ = pure () := by kernel_rfl
theorem newCall_filter_2 (a b : Value) : checkBuiltinCall "filter.__new__" ⟨[.type "filter", a, b], []⟩ = pure () := by kernel_rfl
theorem entry_filter_new : entryFor table "filter.__new__" = some Builtin.«filter.__new__» := entryFor_of_fast (by kernel_rfl)
theorem sub_filter : isSubtype (.type "filter") (.type "filter") = pure true := by rw [isSubtype_type]; kernel_rfl
theorem no_len_filter : typeLookup (.type "filter") "__len__" = pure none := by rw [typeLookup_type, builtinLookup_eq_fast]; kernel_rfl
theorem no_hint_filter : typeLookup (.type "filter") "__length_hint__" = pure none := by rw [typeLookup_type, builtinLookup_eq_fast]; kernel_rfl
theorem plain_filter_next : plainId "filter.__next__" = true := by decide +kernel
theorem owner_map : Manifest.owners.lookup (String.ofList ['p', 'a', 'm'].reverse) = some Manifest.sig_map := by kernel_rfl
theorem slot_map_iter : Slot "map" "__iter__" "map.__iter__" :=
  .of (owner := "map") (n := "__iter__") (by rw [typeLookup_type, builtinLookup_eq_fast]; kernel_rfl) (by decide +kernel) (by decide +kernel) (by decide +kernel)
    (by first | exact .inl (by decide +kernel) | exact .inr (by decide +kernel)) (by rw [isSubtype_type]; kernel_rfl)
theorem args_map_iter_1 (a : Value) : argsOk "map.__iter__" ⟨[a], []⟩ := by
  unfold argsOk; rw [signature?_of (id := "map.__iter__") (n := ['_', '_', 'r', 'e', 't', 'i', '_', '_']) (o := ['p', 'a', 'm']) (by kernel_rfl) owner_map]; kernel_rfl
theorem slot_map_next : Slot "map" "__next__" "map.__next__" :=
  .of (owner := "map") (n := "__next__") (by rw [typeLookup_type, builtinLookup_eq_fast]; kernel_rfl) (by decide +kernel) (by decide +kernel) (by decide +kernel)
    (by first | exact .inl (by decide +kernel) | exact .inr (by decide +kernel)) (by rw [isSubtype_type]; kernel_rfl)
theorem args_map_next_1 (a : Value) : argsOk "map.__next__" ⟨[a], []⟩ := by
  unfold argsOk; rw [signature?_of (id := "map.__next__") (n := ['_', '_', 't', 'x', 'e', 'n', '_', '_']) (o := ['p', 'a', 'm']) (by kernel_rfl) owner_map]; kernel_rfl
theorem slot_map_init : Slot "map" "__init__" "object.__init__" :=
  .of (owner := "object") (n := "__init__") (by rw [typeLookup_type, builtinLookup_eq_fast]; kernel_rfl) (by decide +kernel) (by decide +kernel) (by decide +kernel)
    (by first | exact .inl (by decide +kernel) | exact .inr (by decide +kernel)) (by rw [isSubtype_type]; kernel_rfl)
theorem entry_map_next : entryFor table "map.__next__" = some Builtin.«map.__next__» := entryFor_of_fast (by kernel_rfl)
theorem entry_map_iter : entryFor table "map.__iter__" = some Builtin.«dict_keyiterator.__iter__» :=
  entryFor_alias (id' := "dict_keyiterator.__iter__") (by kernel_rfl) (by first | rfl | decide +kernel | (unfold String.splitOn; simp +decide [String.splitOnAux])) (by decide +kernel) (by kernel_rfl)
theorem mro_map : mroOf (.type "map") = pure [.type "map", .type "object"] := by rw [mroOf_type]; kernel_rfl
theorem lookup_map_new : typeLookup (.type "map") "__new__" = pure (some (.builtin "map.__new__")) := by rw [typeLookup_type, builtinLookup_eq_fast]; kernel_rfl
theorem called_map : TypeCalled "map" "map.__new__" "object.__init__" :=
  ⟨by decide +kernel, by decide +kernel, ⟨_, _, mro_map⟩, madeBy_type mro_map lookup_map_new (by decide +kernel), by decide +kernel, by rw [isSubtype_type]; kernel_rfl, slot_map_init⟩
theorem typeCall_map_2 (a b : Value) : checkTypeCall "map" ⟨[a, b], []⟩ = pure () := by kernel_rfl
theorem newCall_map_2 (a b : Value) : checkBuiltinCall "map.__new__" ⟨[.type "map", a, b], []⟩ = pure () := by kernel_rfl
theorem entry_map_new : entryFor table "map.__new__" = some Builtin.«map.__new__» := entryFor_of_fast (by kernel_rfl)
theorem sub_map : isSubtype (.type "map") (.type "map") = pure true := by rw [isSubtype_type]; kernel_rfl
theorem no_len_map : typeLookup (.type "map") "__len__" = pure none := by rw [typeLookup_type, builtinLookup_eq_fast]; kernel_rfl
theorem no_hint_map : typeLookup (.type "map") "__length_hint__" = pure none := by rw [typeLookup_type, builtinLookup_eq_fast]; kernel_rfl
theorem plain_map_next : plainId "map.__next__" = true := by decide +kernel
end Mine

end
section
open PySem PySem.W PySem.Calls PyProof.Rows
open Sem (wp)
open AutoSeq1 (wpAny_loadPart')
set_option Elab.async false
set_option autoImplicit false
set_option maxRecDepth 100000
set_option maxHeartbeats 4000000
set_option linter.unusedVariables false
namespace Mine
section
variable {prog : Program} {w : World} {A : Around} {E : Value → Shared → Prop} {s : Shared}
theorem csT_item {it t : Addr} {i : Nat} {items : Array Value} {x : Value} {Q : Option Value → Shared → Prop} (hit : s.heap.IsTupleIter it t i)
    (ht : s.heap.IsTuple t items) (hx : items[i]? = some x)
    (hQ : ∀ h', h'.IsTupleIter it t (i + 1) → Heap.SameBut it s.heap h' → Q (some x) { s with heap := h' }) :
    wpAny (model prog w) A (callSpecial? (.ref it) "__next__") Q E s := by
  obtain ⟨o, ho, hc, hd⟩ := id hit
  obtain ⟨ol, hol, _, nl, hdl⟩ := ht
  refine wpAny_callSpecial?_slot (name := Str.ofString "__next__") hit.typeIs F.slot_tuple_iterator_next
    (wpAny_call_entry F.slot_tuple_iterator_next hit.typeIs F.entry_tuple_iterator_next ?_ (F.args_tuple_iterator_next_1 _))
  show wpAny _ _ (field (.ref it) 0 >>= _) _ _ s
  refine wpAny_bind (wpAny_field ho hd (x := .ref t) rfl ?_)
  show wpAny _ _ (if (Value.ref t == Value.none) = true then _ else _) _ _ s
  rw [if_neg (show ¬ ((Value.ref t == Value.none) = true) from Bool.false_ne_true)]
  show wpAny _ _ (field (.ref it) 1 >>= _) _ _ s
  refine wpAny_bind (wpAny_field ho hd (x := .int i 0) rfl ?_)
  show wpAny _ _ (seqItems? (.ref t) >>= _) _ _ s
  refine wpAny_bind (wpAny_seqItems hol hdl ?_)
  simp only [Int.toNat_natCast, hx]
  refine wpAny_bind (wpAny_setField ho hd (by simp) (wpAny_pure ⟨x, rfl, hQ _ ?_ (Heap.SameBut.update ..)⟩))
  exact ⟨_, Heap.get?_update_self _ ho (Obj.isFreed_of_fields (Obj.data_mapFields hd _)), (Obj.cls_mapFields ..).trans hc, by
    rw [Obj.data_mapFields hd]; simp [rawInt]⟩
theorem csT_end {it t : Addr} {i : Nat} {items : Array Value} {Q : Option Value → Shared → Prop} (hh : A.handled = none)
    (hit : s.heap.IsTupleIter it t i) (ht : s.heap.IsTuple t items) (hx : items[i]? = none)
    (hE : ∀ h' e, Heap.ExtBut it s.heap h' → (∃ o, h'.get? e = some o ∧ o.cls = .type "StopIteration") → E (.ref e) { s with heap := h' }) :
    wpAny (model prog w) A (callSpecial? (.ref it) "__next__") Q E s := by
  obtain ⟨o, ho, hc, hd⟩ := id hit
  obtain ⟨ol, hol, _, nl, hdl⟩ := ht
  refine wpAny_callSpecial?_slot (name := Str.ofString "__next__") hit.typeIs F.slot_tuple_iterator_next
    (wpAny_call_entry F.slot_tuple_iterator_next hit.typeIs F.entry_tuple_iterator_next ?_ (F.args_tuple_iterator_next_1 _))
  show wpAny _ _ (field (.ref it) 0 >>= _) _ _ s
  refine wpAny_bind (wpAny_field ho hd (x := .ref t) rfl ?_)
  show wpAny _ _ (if (Value.ref t == Value.none) = true then _ else _) _ _ s
  rw [if_neg (show ¬ ((Value.ref t == Value.none) = true) from Bool.false_ne_true)]
  show wpAny _ _ (field (.ref it) 1 >>= _) _ _ s
  refine wpAny_bind (wpAny_field ho hd (x := .int i 0) rfl ?_)
  show wpAny _ _ (seqItems? (.ref t) >>= _) _ _ s
  refine wpAny_bind (wpAny_seqItems hol hdl ?_)
  simp only [Int.toNat_natCast, hx]
  refine wpAny_bind (wpAny_rule (wpAny_bind (wpAny_setField ho hd (by simp) ?_)))
  show wpAny _ _ (newExc (.type "StopIteration") [] >>= _) _ _ _
  refine wpAny_bind ?_
  simp only [newExc, newTuple]
  refine wpAny_bind (wpAny_newObj_type ?_ (by size_fits))
  refine wpAny_bind (m := firstArgMember _ _) (wpAny_of_eq (a := Value.none) (by first | rfl | (simp only [firstArgMember]; rfl)) ?_)
  refine wpAny_newObj_type ?_ (by size_fits)
  simp only [raiseNew]
  refine wpAny_bind (wpAny_handled ?_)
  first | rw [show A.in1.handled = none from hh] | rw [hh]
  refine wpAny_bind (wpAny_pure (wpAny_throw (hE _ _ (((Heap.SameBut.update ..).extBut.push _).push _) ?_)))
  exact ⟨_, Heap.get?_push_size _ rfl, rfl⟩
end
noncomputable def IsFil (h : Heap) (f it : Addr) : Prop := h.get? f = some { cls := .type "filter", data := .fields #[.builtin "len", .ref it] }
noncomputable abbrev ne (p : List Nat × Tok) : Bool := !p.1.isEmpty
theorem tv_getI (ps : List (List Nat × Tok)) (k : Nat) (h : k < ps.length) : (tv ps).toArray[k]? = some (.str (S ps[k].1) ps[k].2) := by simp [tv, h]
theorem tv_getN (ps : List (List Nat × Tok)) (k : Nat) (h : ps.length ≤ k) : (tv ps).toArray[k]? = none := by simp [tv]; exact Mine.lc [ps.length, k] [(1, .v 0, .v 1)] (1, .v 0, .v 1) rfl h
section
variable {prog : Program} {w : World} {A : Around} {E : Value → Shared → Prop} {s : Shared}
theorem meets_filter_new (t : Addr) (items : Array Value) (n : Nat) :
    Meets (Builtin.«filter.__new__» ⟨[.type "filter", .builtin "len", .ref t], []⟩) (fun _ R s => s.heap.get? t = some { cls := .type "tuple", dict := none, data := .seq items n, slots := #[] } ∧
      R (.ok (.ret (.ref (s.heap.push { cls := .type "tuple_iterator", data := .fields #[.ref t, .int 0 0] }).objs.size)))
        { s with heap := (s.heap.push { cls := .type "tuple_iterator", data := .fields #[.ref t, .int 0 0] }).push { cls := .type "filter", data := .fields #[.builtin "len", .ref s.heap.objs.size] } }) :=
  .of_wp fun prog w A R s h => by
    obtain ⟨hp, g, d, tk, os⟩ := s; obtain ⟨hl, h⟩ := h
    have hsub := sub_filter
    have hL : Heap.IsTuple (Shared.heap ⟨hp, g, d, tk, os⟩) t items := ⟨_, hl, rfl, n, rfl⟩
    wp_walk using wpAny_loadPart' hl, wpAny_pyIter_tuple hL
    exact ⟨_, rfl, h⟩
theorem call_filter {t : Addr} {vs : List Value} {Q : Value → Shared → Prop} (ht : s.heap.get? t = some (tupO vs))
    (h : ∀ h' f it, f < h'.objs.size → s.heap.objs.size ≤ it → s.heap.objs.size ≤ f → it ≠ f → IsFil h' f it → h'.IsTupleIter it t 0 → (∀ b o, s.heap.get? b = some o → h'.get? b = some o) → Q (.ref f) { s with heap := h' }) :
    wpAny (model prog w) A (call (.type "filter") [.builtin "len", .ref t]) Q E s := by
  refine callType_new called_filter (by decide) (typeCall_filter_2 _ _) (newCall_filter_2 _ _) (fun obj => F.args_object_init_3 obj _ _) entry_filter_new
    (meets_filter_new t vs.toArray 0) ⟨ht, ?_⟩
  have hz : (s.heap.push { cls := .type "tuple_iterator", data := .fields #[.ref t, .int 0 0] }).objs.size = s.heap.objs.size + 1 := Heap.size_push ..
  have e1 := Heap.get?_push_size (s.heap.push { cls := .type "tuple_iterator", data := .fields #[.ref t, .int 0 0] }) (o := { cls := .type "filter", data := .fields #[.builtin "len", .ref s.heap.objs.size] }) rfl
  refine ⟨⟨_, e1, rfl⟩, h _ _ s.heap.objs.size ?_ (Nat.le_refl _) ?_ ?_ e1 ⟨_, Heap.get?_push_of_some _ (Heap.get?_push_size _ rfl), rfl, rfl⟩ fun b o x => Heap.get?_push_of_some _ (Heap.get?_push_of_some _ x)⟩
  · exact Heap.lt_size e1
  · (try rw [hz]); exact Nat.le_succ _
  · (try rw [hz]); exact Nat.ne_of_lt (Nat.lt_succ_self _)

noncomputable def FilAt (f it t : Addr) (ps : List (List Nat × Tok)) (i : Nat) (h : Heap) : Prop :=
  IsFil h f it ∧ h.IsTuple t (tv ps).toArray ∧ ∃ k, h.IsTupleIter it t k ∧ k ≤ ps.length ∧ ((ps.take k).filter ne).length = i

theorem tupIter_ne {h : Heap} {f it it' t : Addr} {k : Nat} (hf : IsFil h f it') (hi : h.IsTupleIter it t k) : f ≠ it := by
  rintro rfl
  obtain ⟨o, ho, hc, _⟩ := hi
  rw [hf] at ho; cases ho
  have hc' : Value.type "filter" = Value.type "tuple_iterator" := hc
  injection hc' with q
  exact absurd q (by decide)
theorem tup_neF {h : Heap} {f it' t : Addr} {its : Array Value} (hf : IsFil h f it') (hi : h.IsTuple t its) : t ≠ f := by
  rintro rfl
  obtain ⟨o, ho, hc, _⟩ := hi
  rw [hf] at ho; cases ho
  have hc' : Value.type "filter" = Value.type "tuple" := hc
  injection hc' with q
  exact absurd q (by decide)
theorem tup_neI {h : Heap} {it t t' : Addr} {k : Nat} {its : Array Value} (hf : h.IsTupleIter it t' k) (hi : h.IsTuple t its) : t ≠ it := by
  rintro rfl
  obtain ⟨o, ho, hc, _⟩ := hi
  obtain ⟨o', ho', hc', _⟩ := hf
  rw [ho'] at ho; cases ho
  rw [hc'] at hc
  exact absurd hc (by decide)
theorem flen (ps : List (List Nat × Tok)) (k : Nat) (h : k < ps.length) : ((ps.take (k + 1)).filter ne).length = ((ps.take k).filter ne).length + (if ne ps[k] then 1 else 0) := by
  rw [List.take_add_one, List.getElem?_eq_getElem h, List.filter_append]
  cases hn : ne ps[k] <;> simp [hn]
theorem fget (ps : List (List Nat × Tok)) (k : Nat) (h : k < ps.length) (hn : ne ps[k] = true) : (ps.filter ne)[((ps.take k).filter ne).length]? = some ps[k] := by
  have e : ps = ps.take k ++ ps[k] :: ps.drop (k + 1) := by rw [← List.drop_eq_getElem_cons h, List.take_append_drop]
  have : ps.filter ne = (ps.take k).filter ne ++ ps[k] :: (ps.drop (k + 1)).filter ne := by
    conv => lhs; rw [e]
    rw [List.filter_append, List.filter_cons_of_pos hn]
  rw [this]; simp
theorem filter_code {f it t : Addr} {ps : List (List Nat × Tok)} {R : Result → Shared → Prop} (hh : A.handled = none) (hsz : ∀ p ∈ ps, p.1.length ≤ 1000000) :
    ∀ (m k : Nat) (s : Shared), ps.length - k = m → k ≤ ps.length → IsFil s.heap f it → s.heap.IsTuple t (tv ps).toArray → s.heap.IsTupleIter it t k →
      (∀ j h' tk, (hj : j < ps.length) → k ≤ j → ne ps[j] = true → ((ps.take j).filter ne).length = ((ps.take k).filter ne).length → h'.IsTupleIter it t (j + 1) → (∀ b o, b ≠ it → s.heap.get? b = some o → h'.get? b = some o) → s.toks ≤ tk →
        R (.ok (.ret (.str (S ps[j].1) ps[j].2))) { s with heap := h', toks := tk }) →
      (∀ h' tk e, ((ps.take k).filter ne).length = (ps.filter ne).length → (∀ b o, b ≠ it → s.heap.get? b = some o → h'.get? b = some o) → (∃ o, h'.get? e = some o ∧ o.cls = .type "StopIteration") → R (.error (.ref e)) { s with heap := h', toks := tk }) →
      codeAny (model prog w) A (.builtin "filter.__next__" ⟨[.ref f], []⟩) R s := by
  intro m
  induction m with
  | zero =>
    intro k s hm hk hf ht hi hok herr
    have hkl : k = ps.length := by exact Nat.le_antisymm (Mine.lc [k, ps.length] [(1, .v 0, .v 1)] (1, .v 0, .v 1) rfl hk) (Mine.lc [ps.length - k, ps.length, k] [(1, .v 0, .n 0), (1, .v 1, .a (.v 0) (.v 2))] (1, .v 1, .v 2) rfl (Nat.le_of_eq hm) (Nat.sub_le_iff_le_add.mp (Nat.le_refl ( ps.length - ( k)))))
    refine codeAny_builtin entry_filter_next ?_
    rw [Around.under_plainId plain_filter_next _]
    show wpAny _ A.in1 (field (.ref f) 0 >>= _) _ _ s
    refine wpAny_bind (wpAny_field hf rfl (x := .builtin "len") rfl ?_)
    show wpAny _ A.in1 (field (.ref f) 1 >>= _) _ _ s
    refine wpAny_bind (wpAny_field hf rfl (x := .ref it) rfl ?_)
    refine wpAny_bind (csT_end (by exact hh) hi ht (tv_getN ps k (by exact Mine.lc [ps.length, k] [(1, .v 0, .v 1)] (1, .v 0, .v 1) rfl (Nat.le_of_eq (hkl).symm))) fun h' e hk' he => ?_)
    exact herr h' s.toks e (by rw [hkl, List.take_length]) hk' he
  | succ m ih =>
    intro k s hm hk hf ht hi hok herr
    have hlt : k < ps.length := by exact Mine.lc [m, ps.length - k, k, ps.length] [(1, .a (.v 0) (.n 1), .v 1), (1, .a (.v 1) (.v 2), .v 3)] (1, .a (.v 2) (.n 1), .v 3) rfl (Nat.le_of_eq (hm).symm) (Nat.le_of_eq (Nat.sub_add_cancel (show k ≤ ps.length from Mine.lc [k, ps.length] [(1, .v 0, .v 1)] (1, .v 0, .v 1) rfl hk)))
    refine codeAny_builtin entry_filter_next ?_
    rw [Around.under_plainId plain_filter_next _]
    show wpAny _ A.in1 (field (.ref f) 0 >>= _) _ _ s
    refine wpAny_bind (wpAny_field hf rfl (x := .builtin "len") rfl ?_)
    show wpAny _ A.in1 (field (.ref f) 1 >>= _) _ _ s
    refine wpAny_bind (wpAny_field hf rfl (x := .ref it) rfl ?_)
    refine wpAny_bind (csT_item hi ht (tv_getI ps k hlt) fun h' hi' hs' => ?_)
    show wpAny _ A.in1 (holding _ _ >>= _) _ _ _
    refine wpAny_bind (wpAny_holding ?_)
    show wpAny _ A.in1 (call (.builtin "len") [.str (S ps[k].1) ps[k].2] >>= _) _ _ _
    have hz : (S ps[k].1).length ≤ 1000000 := by rw [S_len]; exact hsz _ (List.getElem_mem hlt)
    refine wpAny_bind (SBL.len (ll63 (Nat.le_trans hz (Nat.le_of_ble_eq_true rfl))) ?_)
    refine wpAny_holding ?_
    refine PySem.P.truthy_int ?_
    cases hn : ne ps[k] with
    | true =>
      have e : (((S ps[k].1).length : Int) != 0) = true := by
        rw [S_len]; simp [ne] at hn; exact bne_iff_ne.mpr (by have := List.length_pos_iff.mpr hn; omega)
      rw [e]
      simp only [if_true]
      exact wpAny_pure (hok k h' _ hlt (Nat.le_refl _) hn rfl hi' (fun b o hb e => hs'.extBut b o hb e) (Nat.le_succ_of_le (Nat.le_succ _)))
    | false =>
      have e : (((S ps[k].1).length : Int) != 0) = false := by
        rw [S_len]; simp [ne] at hn; rw [hn]; rfl
      rw [e]
      simp only [Bool.false_eq_true, if_false]
      have hfl : ((ps.take (k + 1)).filter ne).length = ((ps.take k).filter ne).length := by rw [flen ps k hlt, hn]; rfl
      refine wpAny_pure ⟨plainId_quiet plain_filter_next _, ih (k + 1) _ (by exact Nat.le_antisymm (Mine.lc [ps.length - k, m, ps.length, k, ps.length - (k + 1)] [(1, .v 0, .a (.v 1) (.n 1)), (1, .v 2, .a (.v 0) (.v 3)), (1, .a (.v 4) (.a (.v 3) (.n 1)), .v 2)] (1, .v 4, .v 1) rfl (Nat.le_of_eq hm) (Nat.sub_le_iff_le_add.mp (Nat.le_refl ( ps.length - ( k)))) (Nat.le_of_eq (Nat.sub_add_cancel (show k + 1 ≤ ps.length from Mine.lc [k, ps.length] [(1, .a (.v 0) (.n 1), .v 1)] (1, .a (.v 0) (.n 1), .v 1) rfl hlt)))) (Mine.lc [m, ps.length - k, k, ps.length, ps.length - (k + 1)] [(1, .a (.v 0) (.n 1), .v 1), (1, .a (.v 1) (.v 2), .v 3), (1, .v 3, .a (.v 4) (.a (.v 2) (.n 1)))] (1, .v 0, .v 4) rfl (Nat.le_of_eq (hm).symm) (Nat.le_of_eq (Nat.sub_add_cancel (show k ≤ ps.length from Mine.lc [k, ps.length] [(1, .v 0, .v 1)] (1, .v 0, .v 1) rfl hk))) (Nat.sub_le_iff_le_add.mp (Nat.le_refl ( ps.length - ( k + 1)))))) hlt (hs'.extBut _ _ (tupIter_ne hf hi) hf) (ht.extBut hs'.extBut (tup_neI hi ht)) hi' ?_ ?_⟩
      · intro j h2 tk hj hkj hnj hl hi2 hk2 htk
        exact hok j h2 tk hj (by exact Mine.lc [k, j] [(1, .a (.v 0) (.n 1), .v 1)] (1, .v 0, .v 1) rfl hkj) hnj (by rw [hl, hfl]) hi2 (fun b o hb e => hk2 b o hb (hs'.extBut b o hb e)) (Nat.le_trans (Nat.le_succ_of_le (Nat.le_succ _)) htk)
      · intro h2 tk e2 hl hk2 he
        exact herr h2 tk e2 (by rw [← hl, hfl]) (fun b o hb e => hk2 b o hb (hs'.extBut b o hb e)) he

theorem pyNext_filter {f it t : Addr} {ps : List (List Nat × Tok)} {i : Nat} {Q : Option Value → Shared → Prop} (hh : A.handled = none) (hsz : ∀ p ∈ ps, p.1.length ≤ 1000000) (hi : i < (ps.filter ne).length) (h : FilAt f it t ps i s.heap)
    (hQ : ∀ v h' tk, (tv (ps.filter ne))[i]? = some v → FilAt f it t ps (i + 1) h' → (∀ b o, b ≠ it → s.heap.get? b = some o → h'.get? b = some o) → Q (some v) { s with heap := h', toks := tk }) :
    wpAny (model prog w) A (pyNext (.ref f)) Q E s := by
  obtain ⟨hf, ht, k, hk, hkl, hik⟩ := h
  have hT : s.TypeIs (.ref f) "filter" := ⟨_, hf, rfl⟩
  unfold pyNext
  refine wpAny_bind (wpAny_attempt (wpAny_callSpecial?_slot (name := Str.ofString "__next__") hT slot_filter_next
    (wpAny_call (codeAny_call_builtin_code (plainId_quiet plain_filter_next _) (slot_filter_next.check _ _ _ _ _ _ _ _ hT (args_filter_next_1 _) ?_)))))
  refine filter_code hh hsz _ k _ rfl hkl hf ht hk ?_ ?_
  · intro j h' tk hj hkj hn hl hi' hk' htk
    refine wpAny_pure (hQ _ h' tk ?_ ⟨hk' _ _ (tupIter_ne hf hk) hf, ht.at fun o e => hk' _ _ (tup_neI hk ht) e, j + 1, hi', hj, ?_⟩ hk')
    · have := fget ps j hj hn
      rw [hl, hik] at this
      rw [tv, List.getElem?_map, this]; rfl
    · rw [flen ps j hj, hn, hl, hik]; rfl
  · intro h' tk e hl
    exact Mine.lcF [i, (List.filter ne ps).length, (List.filter ne (List.take k ps)).length] [(1, .a (.v 0) (.n 1), .v 1), (1, .v 2, .v 0), (1, .v 1, .v 2)] _ rfl hi (Nat.le_of_eq hik) (Nat.le_of_eq (hl).symm)
theorem pyNext_filterEnd {f it t : Addr} {ps : List (List Nat × Tok)} {Q : Option Value → Shared → Prop} (hh : A.handled = none) (hsz : ∀ p ∈ ps, p.1.length ≤ 1000000) (h : FilAt f it t ps (ps.filter ne).length s.heap)
    (hQ : ∀ h' tk, (∀ b o, b ≠ it → s.heap.get? b = some o → h'.get? b = some o) → Q none { s with heap := h', toks := tk }) :
    wpAny (model prog w) A (pyNext (.ref f)) Q E s := by
  obtain ⟨hf, ht, k, hk, hkl, hik⟩ := h
  have hT : s.TypeIs (.ref f) "filter" := ⟨_, hf, rfl⟩
  unfold pyNext
  refine wpAny_bind (wpAny_attempt (wpAny_callSpecial?_slot (name := Str.ofString "__next__") hT slot_filter_next
    (wpAny_call (codeAny_call_builtin_code (plainId_quiet plain_filter_next _) (slot_filter_next.check _ _ _ _ _ _ _ _ hT (args_filter_next_1 _) ?_)))))
  refine filter_code hh hsz _ k _ rfl hkl hf ht hk ?_ ?_
  · intro j h' tk hj hkj hn hl hi' hk' htk
    have := fget ps j hj hn
    rw [hl, hik] at this
    have := (List.getElem?_eq_some_iff.mp this).1
    exact absurd this (Nat.lt_irrefl _)
  · intro h' tk e hl hk' he
    obtain ⟨o, ho, hc⟩ := he
    refine wpAny_bind (wpAny_isInstance (T := "StopIteration") (b := true) ⟨o, ho, hc⟩ isSubtype_stop ?_)
    exact wpAny_pure (hQ h' tk hk')
theorem pyIter_filter {f it : Addr} {Q : Value → Shared → Prop} (hf : IsFil s.heap f it) (h : Q (.ref f) s) : wpAny (model prog w) A (pyIter (.ref f)) Q E s := by
  have hT : s.TypeIs (.ref f) "filter" := ⟨_, hf, rfl⟩
  refine wpAny_pyIter_slot hT slot_filter_iter (wpAny_call_entry slot_filter_iter hT entry_filter_iter ?_ (args_filter_iter_1 _))
  show wpAny _ _ (ret (.ref f)) _ _ s
  exact wpAny_pure ⟨_, rfl, "filter", _, hT, slot_filter_next.lookup, h⟩
theorem walks_filter {A : Around} (hh : A.handled = none) {f it t : Addr} {ps : List (List Nat × Tok)} (hsz : ∀ p ∈ ps, p.1.length ≤ 1000000) :
    Walks prog w A f [f, it, t] [it] (ps.filter ne).length (fun i v => (tv (ps.filter ne))[i]? = some v) (FilAt f it t ps) where
  sub := fun b hb => by simp at hb; simp [hb]
  frame := fun i h h' ⟨hf, ht, k, hk, r⟩ hkp => ⟨hkp f (by simp) _ hf, ht.at fun o e => hkp t (by simp) o e, k, hk.at fun o e => hkp it (by simp) o e, r⟩
  item := fun i s Q E hi st hQ => pyNext_filter hh hsz hi st fun v h' tk hv st' hk => hQ v h' tk hv st' fun b o hb e => hk b o (fun q => hb (by simp [q])) e
  done := fun s Q E st hQ => pyNext_filterEnd hh hsz st fun h' tk hk => hQ h' tk fun b o hb e => hk b o (fun q => hb (by simp [q])) e
  self := fun i s Q E st hQ => pyIter_filter st.1 hQ
end
end Mine

end
section
open PySem PySem.W PySem.Calls PyProof.Rows
set_option Elab.async false
set_option autoImplicit false
set_option maxRecDepth 100000
set_option maxHeartbeats 4000000
set_option linter.unusedVariables false
set_option rowWalk.seconds 0
set_option pp.maxSteps 600
namespace Mine
section
variable {prog : Program} {w : World} {mg mb : Str → Option Value} {s₀ s : Shared} {g : Heap} {L : Addr} {lo lo' : List (Str × Value)} {led led' : List (Addr × Ent)} {A : Around} {E : Value → Shared → Prop}
theorem St.hide {x : Addr} {o : Obj} (H : St w mg mb s₀ g L lo led s) (ho : g.get? x = some o) (C : Cx w mg mb (hideAll g [x])) :
    St w mg mb { s₀ with heap := hideAll s₀.heap [x] } (hideAll g [x]) L lo ((x, .obj o) :: led) s := by
  have hxL : x ≠ L := fun q => by rw [q, H.fs.nL] at ho; cases ho
  have hn : x ∉ led.map (·.1) := fun q => by
    obtain ⟨p, hp, rfl⟩ := List.mem_map.mp q
    rw [(H.fs.ok p hp).2.2] at ho; cases ho
  have none_of : ∀ {b : Addr}, g.get? b = none → (hideAll g [x]).get? b = none := fun {b} e => by
    cases q : (hideAll g [x]).get? b with
    | none => rfl
    | some o' => rw [of_hideAll _ q] at e; cases e
  refine ⟨⟨H.fs.ns, fun b o' e => H.fs.keep b o' (of_hideAll _ e), none_of H.fs.nL, fun p hp => ?_, List.nodup_cons.mpr ⟨hn, H.fs.nd⟩⟩, C, ?_, H.tk, fun b o' e => ?_⟩
  · rcases List.mem_cons.mp hp with rfl | hp
    · exact ⟨H.fs.keep _ _ ho, hxL, hideAll_none _ (.head _)⟩
    · exact ⟨(H.fs.ok p hp).1, (H.fs.ok p hp).2.1, none_of (H.fs.ok p hp).2.2⟩
  · obtain ⟨h, tk, e⟩ := H.eq
    exact ⟨h, tk, e⟩
  · refine hideAll_get _ (H.base b o' (of_hideAll _ e)) fun hm => ?_
    rw [List.mem_singleton.mp hm, hideAll_none _ (.head _)] at e; cases e
theorem St.regen {s' : Shared} (H : St w mg mb s₀ g L lo led s) (hd : s'.drawn = s.drawn) (hos : s'.os = s.os) (hh : s'.heap = s.heap) (ht : 1 ≤ s'.toks) : St w mg mb { s₀ with gens := s'.gens } g L lo led s' := by
  refine ⟨hh ▸ H.fs, H.cx, ?_, ht, H.base⟩
  obtain ⟨h, tk, e⟩ := H.eq
  refine ⟨s'.heap, s'.toks, ?_⟩
  have e1 : s.drawn = s₀.drawn := by rw [e]
  have e2 : s.os = s₀.os := by rw [e]
  cases s'
  simp only at hd hos ⊢
  subst hd hos
  rw [e1, e2]
theorem St.movedG {s' : Shared} (H : St w mg mb s₀ g L lo led s) (hd : s'.drawn = s.drawn) (hos : s'.os = s.os) (k : ∀ b o, s.heap.get? b = some o → (b = L ∨ (∃ o, g.get? b = some o) ∨ b ∈ led.map (·.1)) → s'.heap.get? b = some o) (ht : 1 ≤ s'.toks) :
    St w mg mb { s₀ with gens := s'.gens } g L lo led s' := by
  refine ⟨⟨H.fs.ns.at' fun o e => k _ _ e (.inl rfl), fun b o e => k _ _ (H.fs.keep b o e) (.inr (.inl ⟨_, e⟩)), H.fs.nL, fun p hp => ⟨(H.fs.ok p hp).1.of fun o e => k _ _ e (.inr (.inr (List.mem_map_of_mem hp))), (H.fs.ok p hp).2⟩, H.fs.nd⟩, H.cx, ?_, ht, H.base⟩
  obtain ⟨h, tk, e⟩ := H.eq
  refine ⟨s'.heap, s'.toks, ?_⟩
  have e1 : s.drawn = s₀.drawn := by rw [e]
  have e2 : s.os = s₀.os := by rw [e]
  cases s'
  simp only at hd hos ⊢
  subst hd hos
  rw [e1, e2]
theorem While_ {test : Expr} {body : List Stmt} {pos : Pos} {env : Env} {Q : Flow → Shared → Prop} (Inv : Nat → List (Str × Value) → List (Addr × Ent) → Prop) (n₀ : Nat) (H : St w mg mb s₀ g L lo led s) (h0 : Inv n₀ lo led)
    (turn : ∀ n lo₁ led₁ s₁, Inv n lo₁ led₁ → St w mg mb s₀ g L lo₁ led₁ s₁ → wpAny (model prog w) A (isTrue test env (eval test env)) (fun b s₂ => if b = true then
        wpAny (model prog w) A (execs body env) (fun f s₃ => match f with
          | .next | .cont => ∃ m lo₃ led₃, m < n ∧ Inv m lo₃ led₃ ∧ St w mg mb s₀ g L lo₃ led₃ s₃
          | .brk => Q .next s₃
          | .ret v => Q (.ret v) s₃) (fun _ _ => False) s₂ else Q .next s₂) (fun _ _ => False) s₁) :
    wpAny (model prog w) A (exec (.While test body [] pos) env) Q (fun _ _ => False) s := by
  refine wpAny_While (codeAny_whileLoop (fun n s' => ∃ lo₁ led₁, Inv n lo₁ led₁ ∧ St w mg mb s₀ g L lo₁ led₁ s') ?_ n₀ ⟨lo, led, h0, H⟩)
  rintro n s₁ ⟨lo₁, led₁, hI, H₁⟩
  refine wpAny_mono (turn n lo₁ led₁ s₁ hI H₁) (fun b s₂ h₂ => ?_) fun _ _ e => e.elim
  cases b with
  | false =>
    simp only [Bool.false_eq_true, if_false] at h₂ ⊢
    exact wpAny_execs_nil h₂
  | true =>
    simp only [if_true] at h₂ ⊢
    refine wpAny_mono h₂ (fun f s₃ h₃ => ?_) fun _ _ e => e.elim
    cases f with
    | next => obtain ⟨m, lo₃, led₃, a, b, c⟩ := h₃; exact ⟨m, a, lo₃, led₃, b, c⟩
    | cont => obtain ⟨m, lo₃, led₃, a, b, c⟩ := h₃; exact ⟨m, a, lo₃, led₃, b, c⟩
    | brk => exact h₃
    | ret v => exact h₃
theorem cstrT_ {x : Str} {kk : Nat} {pos : Pos} {env : Env} {Q : Value → Shared → Prop} (H : St w mg mb s₀ g L lo led s) (h : ∀ t s', 1 ≤ t → t = s.toks → s'.toks = t + 1 → St w mg mb s₀ g L lo led s' → Q (.str x t) s') :
    wpAny (model prog w) A (eval (.Constant (.str x) kk pos) env) Q E s :=
  Constant_str (h _ _ H.tk rfl rfl (H.toks (Nat.le_succ_of_le H.tk)))
theorem repl1_ {x y z : Str} {t u v : Tok} {l : List Nat} {c d : Nat} {Q : Value → Shared → Prop} (H : St w mg mb s₀ g L lo led s) (hx : x = S l) (hy : y = S [c]) (hz : z = S [d]) (hcd : c ≠ d) (hl : l.length ≤ 1000000) (hu : 1 ≤ u) (hv : 1 ≤ v) (huv : u < v)
    (h : ∀ t s', St w mg mb s₀ g L lo led s' → Q (.str (S (l.map (f1 c d))) t) s') : wpAny (model prog w) A (call (.builtin "str.replace") [.str x t, .str y u, .str z v]) Q E s := by
  refine replace_ H (Nat.ne_of_gt hu) (Nat.ne_of_gt hv) (Nat.ne_of_lt huv) ?_ ?_ fun t' s' H' => ?_
  · rw [hy, hz]; exact beq_eq_false_iff_ne.mpr fun e => by
      have := S_inj e
      exact hcd (by injection this)
  · rw [hx, hz, S_len, S_len]; simp; exact Mine.lc [l.length] [(2, .v 0, .n 1000000)] (1, .a (.v 0) (.a (.v 0) (.n 1)), .n 16777216) rfl hl
  · rw [hx, hy, hz, replace1_S]; exact h _ _ H'
theorem replN_ {x y z : Str} {t u v : Tok} {l yl zl : List Nat} {Q : Value → Shared → Prop} (H : St w mg mb s₀ g L lo led s) (hx : x = S l) (hy : y = S yl) (hz : z = S zl) (hne : yl ≠ []) (hyz : yl ≠ zl) (hzl : zl.length ≤ 1) (hl : l.length ≤ 1000000) (hu : 1 ≤ u) (hv : 1 ≤ v) (huv : u < v)
    (h : ∀ t s', St w mg mb s₀ g L lo led s' → Q (.str (S (rp yl zl (l.length + 1) l)) t) s') : wpAny (model prog w) A (call (.builtin "str.replace") [.str x t, .str y u, .str z v]) Q E s := by
  refine replace_ H (Nat.ne_of_gt hu) (Nat.ne_of_gt hv) (Nat.ne_of_lt huv) ?_ ?_ fun t' s' H' => ?_
  · rw [hy, hz]; exact beq_eq_false_iff_ne.mpr fun e => hyz (S_inj e)
  · rw [hx, hz, S_len, S_len]
    have : (l.length + 1) * zl.length ≤ (l.length + 1) * 1 := Nat.mul_le_mul_left _ hzl
    omega
  · rw [hx, hy, hz, replace_S _ _ _ hne]; exact h _ _ H'
end
theorem sp_ : Str.ofString " " = S [32] := by decide +kernel
theorem us_ : Str.ofString "_" = S [95] := by decide +kernel
theorem da_ : Str.ofString "-" = S [45] := by decide +kernel
theorem bs_ : Str.ofString "\\" = S [92] := by decide +kernel
theorem co_ : Str.ofString ":" = S [58] := by decide +kernel
theorem se_ : Str.ofString ";" = S [59] := by decide +kernel
theorem qu_ : Str.ofString "\"" = S [34] := by decide +kernel
theorem op_ : Str.ofString "(" = S [40] := by decide +kernel
theorem cp_ : Str.ofString ")" = S [41] := by decide +kernel
theorem un_ : Str.ofString "unknown" = S unk := by decide +kernel
theorem dd_ : Str.ofString "--" = S [45, 45] := by decide +kernel
theorem em_ : Str.ofString "" = S [] := by decide +kernel

end Mine

end
section
open PySem PySem.W PySem.Calls PyProof.Rows
open Sem (wp)
open AutoSeq1 (wpAny_loadPart')
set_option Elab.async false
set_option autoImplicit false
set_option maxRecDepth 100000
set_option maxHeartbeats 4000000
set_option linter.unusedVariables false
namespace Mine
section
variable {prog : Program} {w : World} {A : Around} {E : Value → Shared → Prop} {s : Shared}
noncomputable abbrev byT (w : World) : Bool := w.params.followText "set-order"
noncomputable def T0 (w : World) : SetTable := .fresh 0 0 (!byT w)
noncomputable def T1 (w : World) : SetTable := { mask := 7, place := #[1], dummies := #[], finger := 0, led := !byT w, moves := 0, plain := true }
noncomputable def set0 (w : World) : Obj := { cls := .type "set", dict := none, data := .set #[] 0 (T0 w) }
noncomputable def set1 (w : World) : Obj := { cls := .type "set", dict := none, data := .set #[(1, .bool true)] 1 (T1 w) }
theorem T0_fits (w : World) : (T0 w).fits 0 = true := rfl
theorem T1_fits (w : World) : (T1 w).fits 1 = true := rfl
theorem lay1 (led : Bool) : layNew (.fresh 0 0 led) #[] 1 (.bool true) = (#[(1, .bool true)], { mask := 7, place := #[1], dummies := #[], finger := 0, led := led, moves := 0, plain := true }, false, false) := by
  cases led <;> decide +kernel
theorem newSet_ {Q : Value → Shared → Prop} (h : Q (.ref s.heap.objs.size) { s with heap := s.heap.push (set0 w) }) : wpAny (model prog w) A (newSet (.type "set")) Q E s := by
  unfold newSet setsByText
  refine wpAny_bind (wpAny_bind (wpAny_askSetting (wpAny_pure ?_)))
  dsimp only
  simp only [newObj]
  exact wpAny_bind (wpAny_alloc (wpAny_pure h))
theorem hash_true {Q : Int → Shared → Prop} (h : Q 1 { s with toks := s.toks + 1 }) : wpAny (model prog w) A (pyHash (.bool true)) Q E s := by
  have hT : s.TypeIs (.bool true) "bool" := rfl
  unfold pyHash
  have hv : [Value.bool true].any Value.onHeap = false := rfl
  refine wpAny_bind ?_
  rw [cRoomFor, if_neg (by rw [hv]; exact Bool.false_ne_true)]; refine wpAny_pure ?_
  refine wpAny_bind (wpAny_specialOf hT F.slot_bool_hash.lookup ?_)
  show wpAny _ _ (if (some (Value.builtin "int.__hash__") == some Value.none) = true then _ else _) Q E s
  rw [if_neg (by rw [beq_builtin_none]; exact Bool.false_ne_true)]
  refine wpAny_bind (wpAny_specialOf hT F.slot_bool_hash.lookup ?_)
  show wpAny _ _ (callSpecialIfBoundUnlessNone? (.bool true) "__hash__" _ >>= _) Q E s
  refine wpAny_bind (wpAny_callSpecialIfBoundUnlessNone?_slot hT F.slot_bool_hash
    (wpAny_call_entry F.slot_bool_hash hT entry_int_hash
      (show wpAny _ _ (do ret (← mkInt (rawHash 1))) _ _ s from wpAny_ret_mkInt ?_) (args_int_hash _)))
  have e : rawHash 1 = 1 := by decide +kernel
  rw [e]
  exact wpAny_pure h
theorem add_first {D : Addr} {Q : Value → Shared → Prop} (hD : s.heap.get? D = some (set0 w)) (h : ∀ h' tk, h'.get? D = some (set1 w) → Heap.SameBut D s.heap h' → s.toks ≤ tk → Q .none { s with heap := h', toks := tk }) :
    wpAny (model prog w) A (call (.builtin "set.add") [.ref D, .bool true]) Q E s := by
  have hT : s.TypeIs (.ref D) "set" := ⟨_, hD, rfl⟩
  refine wpAny_call_entry F.slot_set_add hT F.entry_set_add ?_ (F.args_set_add_2 _ _)
  unfold Builtin.«set.add» Builtin.Frozenset.oneOther
  simp only [List.isEmpty_nil, bind_assoc]
  unfold Builtin.Frozenset.addrOf setAdd
  refine wpAny_bind (wpAny_pure ?_)
  try dsimp only
  refine wpAny_bind (wpAny_pure ?_)
  try dsimp only
  refine wpAny_bind ?_
  refine wpAny_holding ?_
  refine wpAny_bind (hash_true ?_)
  unfold setAddHashed setAddHashedIn
  refine wpAny_holding (wpAny_bind (wpAny_setState_of (s := { s with toks := s.toks + 1 }) hD rfl (T0_fits w) ?_))
  dsimp only
  rw [show byScan (.bool true) (#[] : Array (Int × Value)) = true from by decide +kernel]
  simp only [↓reduceIte]
  unfold setAddByScan
  refine wpAny_bind ?_
  refine wpAny_bind (wpAny_rule ?_)
  show wpAny _ _ (pure ScanMet.absent >>= _) _ _ _
  refine wpAny_bind (wpAny_pure ?_)
  dsimp only
  rw [show layNew (T0 w) #[] 1 (.bool true) = _ from lay1 _]
  dsimp only
  refine wpAny_bind (wpAny_pure ?_)
  simp only [↓reduceIte]
  refine wpAny_bind (wpAny_pure ?_)
  refine wpAny_bind (wpAny_storeSet_of (s := { s with toks := s.toks + 1 }) hD rfl ?_ (by decide))
  show wpAny _ _ (if (!false && (T1 w).tooFull) = true then _ else _) _ _ _
  rw [if_neg (by rw [show (T1 w).tooFull = false from by unfold T1; cases byT w <;> decide]; decide)]
  refine wpAny_pure ?_
  dsimp only
  refine wpAny_pure (wpAny_pure ⟨_, rfl, h _ _ ?_ (Heap.SameBut.update ..) (Nat.le_succ _)⟩)
  have := Heap.get?_update_self (Obj.putSet #[(1, .bool true)] (T1 w)) hD (by rw [putSet_of _ _ rfl]; rfl)
  rw [putSet_of _ _ rfl] at this
  exact this
theorem add_more {D : Addr} {Q : Value → Shared → Prop} (hD : s.heap.get? D = some (set1 w)) (h : ∀ tk, s.toks ≤ tk → Q .none { s with toks := tk }) :
    wpAny (model prog w) A (call (.builtin "set.add") [.ref D, .bool true]) Q E s := by
  have hT : s.TypeIs (.ref D) "set" := ⟨_, hD, rfl⟩
  refine wpAny_call_entry F.slot_set_add hT F.entry_set_add ?_ (F.args_set_add_2 _ _)
  unfold Builtin.«set.add» Builtin.Frozenset.oneOther
  simp only [List.isEmpty_nil, bind_assoc]
  unfold Builtin.Frozenset.addrOf setAdd
  refine wpAny_bind (wpAny_pure ?_)
  try dsimp only
  refine wpAny_bind (wpAny_pure ?_)
  try dsimp only
  refine wpAny_bind ?_
  refine wpAny_holding ?_
  refine wpAny_bind (hash_true ?_)
  unfold setAddHashed setAddHashedIn
  refine wpAny_holding (wpAny_bind (wpAny_setState_of (s := { s with toks := s.toks + 1 }) hD rfl (T1_fits w) ?_))
  dsimp only
  rw [show byScan (.bool true) (#[(1, .bool true)] : Array (Int × Value)) = true from by decide +kernel]
  simp only [↓reduceIte]
  unfold setAddByScan
  refine wpAny_bind ?_
  refine wpAny_bind (wpAny_rule ?_)
  refine wpAny_bind (m := setScan D (.bool true) 1 true #[(1, .bool true)]) ?_
  show wpAny _ _ (setScanFrom D (.bool true) 1 true [(1, .bool true)] 0) _ _ _
  unfold setScanFrom
  rw [if_pos (by decide)]
  unfold setEpoch
  refine wpAny_bind (wpAny_bind (wpAny_setState_of (s := { s with toks := s.toks + 1 }) hD rfl (T1_fits w) (wpAny_pure ?_)))
  refine wpAny_bind ?_
  unfold eqBool
  refine wpAny_holding ?_
  rw [if_pos (by decide)]
  refine wpAny_bind (wpAny_rule (wpAny_pure ?_))
  simp only [Bool.and_self, if_true]
  refine wpAny_pure (wpAny_pure (wpAny_pure (wpAny_pure ⟨_, rfl, h _ (Nat.le_succ _)⟩)))
noncomputable def itO (D : Addr) (slot i : Int) (a : Value) : Obj := { cls := .type "set_iterator", dict := none, data := .fields #[rawInt slot, rawInt i, a, rawInt 1, rawInt 1] }
theorem slot_si_iter : Slot "set_iterator" "__iter__" "set_iterator.__iter__" :=
  .of (owner := "set_iterator") (n := "__iter__") (by rw [typeLookup_type, builtinLookup_eq_fast]; kernel_rfl) (by decide +kernel) (by decide +kernel) (by decide +kernel)
    (by first | exact .inl (by decide +kernel) | exact .inr (by decide +kernel)) (by rw [isSubtype_type]; kernel_rfl)
theorem owner_si : Manifest.owners.lookup (String.ofList ['r', 'o', 't', 'a', 'r', 'e', 't', 'i', '_', 't', 'e', 's'].reverse) = some Manifest.sig_set_iterator := by kernel_rfl
theorem slot_si_next : Slot "set_iterator" "__next__" "set_iterator.__next__" :=
  .of (owner := "set_iterator") (n := "__next__") (by rw [typeLookup_type, builtinLookup_eq_fast]; kernel_rfl) (by decide +kernel) (by decide +kernel) (by decide +kernel)
    (by first | exact .inl (by decide +kernel) | exact .inr (by decide +kernel)) (by rw [isSubtype_type]; kernel_rfl)
theorem args_si_next (a : Value) : argsOk "set_iterator.__next__" ⟨[a], []⟩ := by
  unfold argsOk; rw [signature?_of (id := "set_iterator.__next__") (n := ['_', '_', 't', 'x', 'e', 'n', '_', '_']) (o := ['r', 'o', 't', 'a', 'r', 'e', 't', 'i', '_', 't', 'e', 's']) (by kernel_rfl) owner_si]; kernel_rfl
theorem entry_si_next : entryFor table "set_iterator.__next__" = some Builtin.«set_iterator.__next__» := entryFor_of_fast (by kernel_rfl)
theorem entry_s_iter : entryFor table "set.__iter__" = some Builtin.«frozenset.__iter__» :=
  entryFor_alias (id' := "frozenset.__iter__") (by kernel_rfl) (by first | rfl | decide +kernel | (unfold String.splitOn; simp +decide [String.splitOnAux])) (by decide +kernel) (by kernel_rfl)
theorem setIter_ {D : Addr} {Q : Value → Shared → Prop} (hD : s.heap.get? D = some (set1 w)) (h : Q (.ref s.heap.objs.size) { s with heap := s.heap.push (itO D 0 0 (.ref D)) }) : wpAny (model prog w) A (pyIter (.ref D)) Q E s := by
  have hT : s.TypeIs (.ref D) "set" := ⟨_, hD, rfl⟩
  refine wpAny_pyIter_slot hT F.slot_set_iter (wpAny_call_entry F.slot_set_iter hT entry_s_iter ?_ (F.args_set_iter_1 _))
  unfold Builtin.«frozenset.__iter__» Builtin.Frozenset.slot0 slotArgs
  simp only [List.isEmpty_nil, Bool.not_true, Bool.false_eq_true, ↓reduceIte, bind_assoc, List.length_nil, bne_self_eq_false]
  unfold Builtin.Frozenset.addrOf Builtin.Frozenset.sizeOf
  refine wpAny_bind (wpAny_pure ?_)
  try dsimp only
  refine wpAny_bind (wpAny_pure ?_)
  try dsimp only
  refine wpAny_bind (wpAny_bind (wpAny_setEntries_of hD rfl (T1_fits w) (wpAny_pure ?_)))
  unfold setDrawn setsByText
  refine wpAny_bind (wpAny_bind (wpAny_setState_of hD rfl (T1_fits w) ?_))
  dsimp only
  refine wpAny_bind (wpAny_bind (wpAny_askSetting (wpAny_pure (wpAny_pure ?_))))
  show wpAny _ _ (if (!byT w && false) = true then _ else _) _ _ _
  rw [if_neg (by rw [Bool.and_false]; exact Bool.false_ne_true)]
  refine wpAny_bind (wpAny_pure ?_)
  unfold setEpoch
  refine wpAny_bind (wpAny_bind (wpAny_setState_of hD rfl (T1_fits w) (wpAny_pure ?_)))
  refine wpAny_bind ?_
  unfold newFields
  refine wpAny_newObj_type (wpAny_pure ⟨_, rfl, "set_iterator", _, ⟨_, Heap.get?_push_size _ rfl, rfl⟩, slot_si_next.lookup, h⟩) (by size_fits)
theorem pick1 (next : Nat → Nat) (x : Int × Value) : pickOrder next #[x] = #[x] := by
  simp [pickOrder, pickOrder.go, Nat.mod_one]
theorem setNext_0 {D : Addr} {Q : Option (Value × Nat) → Shared → Prop} (hD : s.heap.get? D = some (set1 w)) (h : ∀ sl, (byT w = false → sl = 2) → Q (some (.bool true, sl)) s) : wpAny (model prog w) A (setNext D 0 0 1) Q E s := by
  unfold setNext setsByText
  refine wpAny_bind (wpAny_setState_of hD rfl (T1_fits w) ?_)
  dsimp only
  refine wpAny_bind (wpAny_bind (wpAny_askSetting (wpAny_pure ?_)))
  show wpAny _ _ (if byT w = true then _ else _) _ _ _
  cases hb : byT w with
  | true =>
    rw [if_pos rfl]
    show wpAny _ _ (if ((1 : Nat) != 1) = true then _ else _) _ _ _
    rw [if_neg (by decide)]
    unfold setWalk setsByText
    refine wpAny_bind (wpAny_bind (wpAny_setState_of hD rfl (T1_fits w) ?_))
    dsimp only
    refine wpAny_bind (wpAny_bind (wpAny_askSetting (wpAny_pure ?_)))
    show wpAny _ _ (if byT w = true then _ else _) _ _ _
    rw [if_pos hb]
    refine wpAny_bind (wpAny_askSetting (wpAny_pure ?_))
    rw [pick1]
    exact wpAny_pure (h 0 (fun e => by rw [hb] at e; cases e))
  | false =>
    rw [if_neg (by decide)]
    show wpAny _ _ (if (false : Bool) = true then _ else _) _ _ _
    rw [if_neg (by decide)]
    show wpAny _ _ ((if (!(T1 w).led && true) = true then _ else _) >>= _) _ _ _
    rw [if_neg (by unfold T1; rw [hb]; decide)]
    refine wpAny_bind (wpAny_pure ?_)
    exact wpAny_pure (h 2 fun _ => rfl)
theorem setNext_1 {D : Addr} {sl : Nat} {Q : Option (Value × Nat) → Shared → Prop} (hD : s.heap.get? D = some (set1 w)) (hs : byT w = false → sl = 2) (h : Q none s) : wpAny (model prog w) A (setNext D sl 1 1) Q E s := by
  unfold setNext setsByText
  refine wpAny_bind (wpAny_setState_of hD rfl (T1_fits w) ?_)
  dsimp only
  refine wpAny_bind (wpAny_bind (wpAny_askSetting (wpAny_pure ?_)))
  show wpAny _ _ (if byT w = true then _ else _) _ _ _
  cases hb : byT w with
  | true =>
    rw [if_pos rfl]
    show wpAny _ _ (if ((1 : Nat) != 1) = true then _ else _) _ _ _
    rw [if_neg (by decide)]
    unfold setWalk setsByText
    refine wpAny_bind (wpAny_bind (wpAny_setState_of hD rfl (T1_fits w) ?_))
    dsimp only
    refine wpAny_bind (wpAny_bind (wpAny_askSetting (wpAny_pure ?_)))
    show wpAny _ _ (if byT w = true then _ else _) _ _ _
    rw [if_pos hb]
    refine wpAny_bind (wpAny_askSetting (wpAny_pure ?_))
    rw [pick1]
    exact wpAny_pure h
  | false =>
    rw [hs hb]
    rw [if_neg (by decide)]
    show wpAny _ _ (if (false : Bool) = true then _ else _) _ _ _
    rw [if_neg (by decide)]
    show wpAny _ _ ((if (!(T1 w).led && true) = true then _ else _) >>= _) _ _ _
    rw [if_neg (by unfold T1; rw [hb]; decide)]
    refine wpAny_bind (wpAny_pure ?_)
    rw [show SetTable.below (T1 w).place 2 = 1 from by show SetTable.below #[1] 2 = 1; decide +kernel]
    exact wpAny_pure h
theorem setNext_item {D I : Addr} {Q : Option Value → Shared → Prop} (hD : s.heap.get? D = some (set1 w)) (hI : s.heap.get? I = some (itO D 0 0 (.ref D)))
    (h : ∀ h' sl, h'.get? I = some (itO D (sl : Nat) 1 (.ref D)) → (byT w = false → sl = 2) → Heap.SameBut I s.heap h' → Q (some (.bool true)) { s with heap := h' }) :
    wpAny (model prog w) A (pyNext (.ref I)) Q E s := by
  have hT : s.TypeIs (.ref I) "set_iterator" := ⟨_, hI, rfl⟩
  unfold pyNext
  refine wpAny_bind (wpAny_attempt (wpAny_callSpecial?_slot (name := Str.ofString "__next__") hT slot_si_next
    (wpAny_call_entry slot_si_next hT entry_si_next ?_ (args_si_next _))))
  unfold Builtin.«set_iterator.__next__» slotArgs
  simp only [List.isEmpty_nil, Bool.not_true, Bool.false_eq_true, ↓reduceIte, List.length_nil, bne_self_eq_false]
  refine wpAny_bind (wpAny_pure ?_)
  refine wpAny_bind (wpAny_fieldsOf hI rfl ?_)
  show wpAny _ _ (setEntries D >>= _) _ _ _
  refine wpAny_bind (wpAny_setEntries_of hD rfl (T1_fits w) ?_)
  rw [if_neg (by decide)]
  show wpAny _ _ (setNext D 0 0 1 >>= _) _ _ _
  refine wpAny_bind (setNext_0 hD fun sl hsl => ?_)
  dsimp only
  refine wpAny_bind (wpAny_setField_rec hI (by simp) fun h₁ hI₁ hs₁ => ?_)
  refine wpAny_bind (wpAny_setField_rec hI₁ (by simp) fun h₂ hI₂ hs₂ => ?_)
  exact wpAny_pure ⟨_, rfl, wpAny_pure (h h₂ sl hI₂ hsl (hs₁.trans hs₂))⟩
theorem setNext_end {D I : Addr} {sl : Nat} {Q : Option Value → Shared → Prop} (hh : A.handled = none) (hD : s.heap.get? D = some (set1 w)) (hI : s.heap.get? I = some (itO D (sl : Nat) 1 (.ref D))) (hsl : byT w = false → sl = 2)
    (h : ∀ h', Heap.ExtBut I s.heap h' → Q none { s with heap := h' }) :
    wpAny (model prog w) A (pyNext (.ref I)) Q E s := by
  have hT : s.TypeIs (.ref I) "set_iterator" := ⟨_, hI, rfl⟩
  unfold pyNext
  refine wpAny_bind (wpAny_attempt (wpAny_callSpecial?_slot (name := Str.ofString "__next__") hT slot_si_next
    (wpAny_call_entry slot_si_next hT entry_si_next ?_ (args_si_next _))))
  unfold Builtin.«set_iterator.__next__» slotArgs
  simp only [List.isEmpty_nil, Bool.not_true, Bool.false_eq_true, ↓reduceIte, List.length_nil, bne_self_eq_false]
  refine wpAny_bind (wpAny_pure ?_)
  refine wpAny_bind (wpAny_fieldsOf hI rfl ?_)
  show wpAny _ _ (setEntries D >>= _) _ _ _
  refine wpAny_bind (wpAny_setEntries_of hD rfl (T1_fits w) ?_)
  rw [if_neg (by decide)]
  show wpAny _ _ (setNext D ((sl : Int).toNat) 1 1 >>= _) _ _ _
  rw [Int.toNat_natCast]
  refine wpAny_bind (setNext_1 hD hsl ?_)
  dsimp only
  refine wpAny_bind (wpAny_setField_rec hI (by simp) fun h₁ hI₁ hs₁ => ?_)
  refine wpAny_bind ?_
  simp only [newExc, newTuple]
  refine wpAny_bind (wpAny_newObj_type ?_ (by size_fits))
  refine wpAny_bind (m := firstArgMember _ _) (wpAny_of_eq (a := Value.none) (by first | rfl | (simp only [firstArgMember]; rfl)) ?_)
  refine wpAny_newObj_type ?_ (by size_fits)
  simp only [raiseNew]
  refine wpAny_bind (wpAny_handled ?_)
  first | rw [show A.in1.handled = none from hh] | rw [hh]
  refine wpAny_bind (wpAny_pure (wpAny_throw ?_))
  refine wpAny_bind (wpAny_isInstance (T := "StopIteration") (b := true) ⟨_, Heap.get?_push_size _ rfl, rfl⟩ isSubtype_stop ?_)
  exact wpAny_pure (h _ ((hs₁.extBut.push _).push _))
theorem unpack_set {D : Addr} {Q : List Value → Shared → Prop} (hh : A.handled = none) (hD : s.heap.get? D = some (set1 w)) (h : ∀ h', (∀ b o, s.heap.get? b = some o → h'.get? b = some o) → Q [.bool true] { s with heap := h' }) :
    wpAny (model prog w) A (unpackItems (.ref D) 1 none) Q E s := by
  have hne : D ≠ s.heap.objs.size := Nat.ne_of_lt (Heap.lt_size hD)
  unfold unpackItems
  refine wpAny_bind ?_
  unfold notIterableAtAll
  refine wpAny_bind (wpAny_specialOf (T := "set") ⟨_, hD, rfl⟩ F.slot_set_iter.lookup ?_)
  refine wpAny_pure ?_
  simp only [Bool.false_eq_true, if_false]
  refine wpAny_bind (wpAny_holding (setIter_ hD ?_))
  refine wpAny_bind (wpAny_holding ?_)
  have hD1 := Heap.get?_push_of_some (itO D 0 0 (.ref D)) hD
  refine wpAny_bind (setNext_item hD1 (Heap.get?_push_size _ rfl) fun h₁ sl hI₁ hsl hs₁ => ?_)
  have hD2 := hs₁.extBut _ _ hne hD1
  dsimp only
  refine wpAny_bind (wpAny_holding (wpAny_pure (wpAny_pure ?_)))
  rw [if_neg (by decide)]
  refine wpAny_bind (wpAny_holding (setNext_end hh hD2 hI₁ hsl fun h₂ hs₂ => ?_))
  simp only [Option.isSome_none, Bool.false_eq_true, if_false]
  refine wpAny_pure (h h₂ fun b o e => ?_)
  have hb : b ≠ s.heap.objs.size := Nat.ne_of_lt (Heap.lt_size e)
  exact hs₂ _ _ hb (hs₁.extBut _ _ hb (Heap.get?_push_of_some _ e))
end
end Mine

end
section
open PySem PySem.W PySem.Calls PyProof.Rows
set_option Elab.async false
set_option autoImplicit false
set_option maxRecDepth 100000
set_option maxHeartbeats 4000000
set_option linter.unusedVariables false
set_option rowWalk.seconds 0
set_option pp.maxSteps 600
namespace Mine
open Sem (wp)
theorem compTurn_set1 (elt target iter : Expr) (scope : Scope) (pos : Pos) (it acc : Value) (env : Env) :
    compTurn (.SetComp elt [⟨target, iter, [], 0⟩] scope pos) 0 it acc env = (standAt iter.pos >>= fun _ => pyNext it >>= fun r => match r with
      | none => pure (.done .next)
      | some v => letOwnedTupleGo target it v >>= fun _ => assign target env v >>= fun _ =>
        (eval elt env >>= fun x => standAt elt.pos >>= fun _ => call (.builtin "set.add") [acc, x] >>= fun _ => pure ()) >>= fun _ =>
          again (.compLoop (.SetComp elt [⟨target, iter, [], 0⟩] scope pos) 0 it acc env)) := by rfl
section
variable {prog : Program} {w : World} {A : Around} {R : Result → Shared → Prop} {s : Shared}
theorem codeAny_compLoop_set {elt target iter : Expr} {scope : Scope} {pos : Pos} {it acc : Value} {env : Env} (I : Nat → Shared → Prop)
    (turn : ∀ n s, I n s → wpAny (model prog w) A (pyNext it) (fun r s₁ => match r with
      | none => R (.ok .next) s₁
      | some v => wpAny (model prog w) A (assign target env v) (fun _ s₂ => wpAny (model prog w) A (eval elt env) (fun x s₃ =>
          wpAny (model prog w) A (call (.builtin "set.add") [acc, x]) (fun _ s₄ => ∃ m, m < n ∧ I m s₄) (notedBy (model prog w) A env fun e s' => R (.error e) s') s₃)
          (notedBy (model prog w) A env fun e s' => R (.error e) s') s₂) (notedBy (model prog w) A env fun e s' => R (.error e) s') s₁) (notedBy (model prog w) A env fun e s' => R (.error e) s') s)
    (n : Nat) (h : I n s) (ht : ∀ v, letOwnedTupleGo target it v = pure () := by intro _; rfl) :
    codeAny (model prog w) A (.compLoop (.SetComp elt [⟨target, iter, [], 0⟩] scope pos) 0 it acc env) R s := by
  refine codeAny_loop rfl I (fun n s hI => ?_) n h
  show wpAny _ _ ((compTurn (.SetComp elt [⟨target, iter, [], 0⟩] scope pos) 0 it acc env).onRaise (fun x => do noteFrame x env; theTreesLotGoes x)) _ _ s
  refine wpAny_noted ?_
  rw [compTurn_set1]
  refine wpAny_bind (wpAny_standAt (wpAny_bind (wpAny_mono (turn n s hI) (fun r s₁ h₁ => ?_) fun _ _ h' => h')))
  cases r with
  | none => exact wpAny_pure h₁
  | some v =>
    refine wpAny_bind (wpAny_of_eq (ht v) ?_)
    exact wpAny_bind (wpAny_mono h₁ (fun _ s₂ h₂ => wpAny_bind (wpAny_bind (wpAny_mono h₂ (fun x s₃ h₃ => wpAny_bind (wpAny_standAt (wpAny_bind (wpAny_mono h₃
      (fun _ s₄ h₄ => wpAny_pure (wpAny_pure ⟨rfl, h₄⟩)) fun _ _ h' => h')))) fun _ _ h' => h'))) fun _ _ h' => h')
theorem codeAny_compStart_set {elt target iter ifs rest scope pos it acc env}
    (h0 : codeAny (model prog w) A (.compLoop (.SetComp elt (⟨target, iter, ifs, 0⟩ :: rest) scope pos) 0 it acc env) R s)
    (h : wpAny (model prog w) A (pyIter it) (fun it' s' => codeAny (model prog w) A (.compLoop (.SetComp elt (⟨target, iter, ifs, 0⟩ :: rest) scope pos) 0 it' acc env) R s')
      (notedBy (model prog w) A env fun x s' => R (.error x) s') s) :
    codeAny (model prog w) A (.compStart (.SetComp elt (⟨target, iter, ifs, 0⟩ :: rest) scope pos) 0 it acc env) R s := by
  refine codeAny_of_tree ?_
  show wpAny _ _ ((compStart (.SetComp elt (⟨target, iter, ifs, 0⟩ :: rest) scope pos) 0 it acc env).onRaise (fun x => do noteFrame x env; standAt theWindowsPlace)) _ _ s
  refine wpAny_notedAt ?_
  unfold compStart
  show wpAny _ _ (ask >>= _) _ _ s
  refine wpAny_bind (wpAny_askSetting (wpAny_ite ?_))
  split
  · first
      | exact wpAny_bind (wpAny_pure (wpAny_pure (And.intro rfl h0)))
      | exact wpAny_pure (And.intro rfl h0)
  · first
      | exact wpAny_bind (wpAny_rule (wpAny_bind (wpAny_standAt (wpAny_bind (wpAny_mono h (fun it' s' h' => wpAny_pure (And.intro rfl h')) fun _ _ x => x)))))
      | (refine wpAny_bind (wpAny_rule ?_); show wpAny _ _ (standAt iter.pos >>= _) _ _ s; exact wpAny_bind (wpAny_standAt (wpAny_bind (wpAny_mono h (fun it' s' h' => wpAny_pure (And.intro rfl h')) fun _ _ x => x))))
end
noncomputable def setAt (w : World) (i : Nat) : Obj := if i = 0 then set0 w else set1 w
section
variable {prog : Program} {w : World} {mg mb : Str → Option Value} {s₀ s : Shared} {g : Heap} {L C D : Addr} {lo lo' loc : List (Str × Value)} {led led' : List (Addr × Ent)} {A : Around} {E : Value → Shared → Prop}
  {R : Result → Shared → Prop} {x : Str} {px pos : Pos} {elt iter : Expr} {scope : Scope} {I : Addr} {fp wr : List Addr} {n : Nat} {P : Nat → Value → Prop} {Sti : Nat → Heap → Prop} {cenv env : Env} {cl : List (Str × Addr)}
theorem addT_ {D : Addr} {i : Nat} {Q : Value → Shared → Prop} (H : St w mg mb s₀ g L lo ((D, .obj (setAt w i)) :: led) s) (h : ∀ s', St w mg mb s₀ g L lo ((D, .obj (setAt w (i + 1))) :: led) s' → Q .none s') :
    wpAny (model prog w) A (call (.builtin "set.add") [.ref D, .bool true]) Q E s := by
  cases i with
  | zero =>
    refine add_first (H.obj (.head _)) fun h' tk hD hs htk => h _ (H.turned .head ?_ hs (Nat.le_trans H.tk htk))
    exact hD
  | succ i =>
    refine add_more (H.obj (.head _)) fun tk htk => h _ (H.toks (Nat.le_trans H.tk htk))
theorem compLoopS_ (W : Walks prog w A I fp wr n P Sti) (hnd : wr.Nodup) (hwr : ∀ b ∈ wr, b ≠ C ∧ g.get? b = none) (hfp : ∀ b ∈ fp, b ∈ wr ∨ ∃ o, g.get? b = some o)
    (hex : ∀ i h, Sti i h → ∀ b ∈ wr, ∃ o, h.get? b = some o) (hC : cenv.locals = C) (hx : cenv.kindOf x = some .local) (hp : (cenv.scope.kind == .class || (cenv.scope.kind == .module && cenv.locals != cenv.globals)) = false)
    (H : St w mg mb s₀ g C loc ((D, .obj (setAt w 0)) :: led) s) (hdis : ∀ p ∈ (D, Ent.obj (setAt w 0)) :: led, p.1 ∉ wr) (hst : Sti 0 s.heap)
    (turn : ∀ i v its s₁, i < n → P i v → St w mg mb s₀ g C [(x, v)] ((D, .obj (setAt w i)) :: (led ++ its)) s₁ →
      wpAny (model prog w) A (eval elt cenv) (fun y s₃ => y = .bool true ∧ ∃ lo₃, St w mg mb s₀ g C lo₃ ((D, .obj (setAt w i)) :: (led ++ its)) s₃) (fun _ _ => False) s₁)
    (done : ∀ lo₁ s₁, St w mg mb s₀ g C lo₁ ((D, .obj (setAt w n)) :: led) s₁ → R (.ok .next) s₁) :
    codeAny (model prog w) A (.compLoop (.SetComp elt [⟨.Name x px, iter, [], 0⟩] scope pos) 0 (.ref I) (.ref D) cenv) R s := by
  subst hC
  have hdis' : ∀ i, ∀ p ∈ (D, Ent.obj (setAt w i)) :: led, p.1 ∉ wr := fun i p hp => by
    rcases List.mem_cons.mp hp with rfl | hp
    · exact hdis (D, Ent.obj (setAt w 0)) (.head _)
    · exact hdis p (.tail _ hp)
  refine codeAny_compLoop_set (fun k s' => ∃ i lo₁, i ≤ n ∧ k = n + 1 - i ∧ St w mg mb s₀ g cenv.locals lo₁ ((D, .obj (setAt w i)) :: led) s' ∧ Sti i s'.heap) ?_ (n + 1)
    ⟨0, loc, Nat.zero_le _, rfl, H, hst⟩
  rintro k s' ⟨i, lo₁, hi, rfl, H₁, hst₁⟩
  by_cases hlt : i < n
  · refine wpAny_with_toks (n := 1) H₁.tk (W.item i _ _ _ hlt hst₁ fun v h' tk hP hst' hk ht => ?_)
    have H₂ := (H₁.withIts (wr := wr) hk ht hwr hnd (hdis' i) (hex _ _ hst')).less (lo' := []) (fun _ _ e => nomatch e)
    refine wpAny_assign_Name (store_ H₂ (.nil) (fun s₂ H₃ => ?_) hx rfl hp)
    refine wpAny_mono (turn i v _ s₂ hlt hP H₃) (fun y s₃ h₃ => ?_) fun _ _ e => e.elim
    obtain ⟨rfl, lo₃, H₄⟩ := h₃
    refine addT_ H₄ fun s₅ H₅ => ?_
    refine ⟨n + 1 - (i + 1), by exact Mine.lc [n + 1 - (i + 1), i, n, n + 1 - i] [(1, .a (.v 0) (.a (.v 1) (.n 1)), .a (.v 2) (.n 1)), (1, .a (.v 2) (.n 1), .a (.v 3) (.v 1))] (1, .a (.v 0) (.n 1), .v 3) rfl (Nat.le_of_eq (Nat.sub_add_cancel (show i + 1 ≤ n + 1 from Mine.lc [i, n] [(1, .v 0, .v 1)] (1, .a (.v 0) (.n 1), .a (.v 1) (.n 1)) rfl hi))) (Nat.sub_le_iff_le_add.mp (Nat.le_refl ( n + 1 - ( i)))), i + 1, lo₃, hlt, rfl, H₅.drop (.cons₂ _ (List.sublist_append_left _ _)), W.frame _ _ _ hst' fun b hb o e => ?_⟩
    rcases hfp b hb with hm | ⟨o', ho'⟩
    · exact H₅.obj (.tail _ (List.mem_append_right _ (mem_itsOf hm e)))
    · have e1 := H₂.fs.keep _ _ ho'
      have e2 := H₅.fs.keep _ _ ho'
      have e3 : h'.get? b = some o' := e1
      rw [e3] at e; cases e; exact e2
  · have hin : i = n := by exact Nat.le_antisymm (Mine.lc [i, n] [(1, .v 0, .v 1)] (1, .v 0, .v 1) rfl hi) (Mine.lc [n, i] [(1, .v 0, .v 1)] (1, .v 0, .v 1) rfl (Nat.le_of_not_lt hlt))
    subst hin
    refine wpAny_with_toks (n := 1) H₁.tk (W.done _ _ _ hst₁ fun h' tk hk ht => ?_)
    have F := H₁.fs
    have eq := H₁.eq
    obtain ⟨h, tk₀, rfl⟩ := eq
    refine done lo₁ _ ⟨⟨F.ns.at' fun o e => hk _ o (fun hm => (hwr _ hm).1 rfl) e, fun b o e => hk b o (fun hm => by rw [(hwr b hm).2] at e; cases e) (F.keep b o e), F.nL, fun p hp => ⟨(F.ok p hp).1.of fun o e => hk _ _ (hdis' i p hp) e, (F.ok p hp).2⟩, F.nd⟩, H₁.cx, ⟨_, _, rfl⟩, ht, H₁.base⟩
theorem compS_ {Q : Value → Shared → Prop} (hn : 1 ≤ n) (hclos : closureFor scope env = pure cl) (hcell : ∀ y ∈ scope.names, y.2 ≠ .cell) (hkind : scope.kind = .function)
    (hnames : ∀ y ∈ scope.names, y.2 = .local → scope.names.lookup y.1 = some .local) (hx : ∀ C, (compEnvC scope cl C env).kindOf x = some .local)
    (hi : wpAny (model prog w) A (eval iter env) (fun xv s₁ => wpAny (model prog w) A (pyIter xv) (fun it s₂ => St w mg mb s₀ g L lo led s₂ ∧ WalkAt prog w A g L led n P it s₂) E s₁) E s)
    (turn : ∀ C D oD oL i v its s₁, i < n → P i v → St w mg mb s₀ g C [(x, v)] ((D, .obj oD) :: (L, .obj oL) :: (led ++ its)) s₁ →
      wpAny (model prog w) A (eval elt (compEnvC scope cl C env)) (fun y s₃ => y = .bool true ∧ ∃ lo₃, St w mg mb s₀ g C lo₃ ((D, .obj oD) :: (L, .obj oL) :: (led ++ its)) s₃) (fun _ _ => False) s₁)
    (done : ∀ D s₁, St w mg mb s₀ g L lo ((D, .obj (set1 w)) :: led) s₁ → Q (.ref D) s₁)
    (hs : ∀ x, foldedSetIterable iter env x = pure x := by intro _; rfl) :
    wpAny (model prog w) A (eval (.SetComp elt [⟨.Name x px, iter, [], 0⟩] scope pos) env) Q E s := by
  rw [arm_eval_SetComp]
  refine wpAny_comprehension_free (use := none) rfl hs hclos hkind hnames (wpAny_mono hi (fun xv s₁ h₁ => wpAny_mono h₁ (fun it s₂ h₂ => ?_) fun _ _ e => e) fun _ _ e => e)
  obtain ⟨H, W⟩ := h₂
  clear h₁ hi
  obtain ⟨I, fp, wr, Sti, rfl, W, hnd, hwr, hfp, hex, hdis, hst⟩ := W
  refine newSet_ ?_
  have H₁ := H.pushed (set0 w) (.obj (setAt w 0)) (Heap.get?_push_size _ rfl) s₂.toks H.tk
  have hst₁ : Sti 0 (s₂.heap.push (set0 w)) := W.frame _ _ _ hst fun b _ o e => Heap.get?_push_of_some _ e
  have hDw : s₂.heap.objs.size ∉ wr := fun hm => Nat.lt_irrefl _ (hwr _ hm).2.2
  generalize hs1 : ({ s₂ with heap := s₂.heap.push (set0 w), toks := s₂.toks } : Shared) = s₁ at H₁
  have e1 : s₁.heap = s₂.heap.push (set0 w) := by rw [← hs1]
  have e2 : s₂.heap.objs.size + 1 = s₁.heap.objs.size := by rw [e1, Heap.size_push]
  rw [← e1] at hst₁
  refine wpAny_newFunctionEnv hcell (by intro y hy; simp at hy) (fun h₁ hns hsb => ?_) hkind
  have e3 : s₂.heap.objs.size ≤ s₁.heap.objs.size := by rw [← e2]; exact Nat.le_succ _
  have hC1 : s₁.heap.objs.size ∉ wr := fun hm => Nat.lt_irrefl _ (Nat.lt_of_lt_of_le (hwr _ hm).2.2 e3)
  have H₂ := H₁.pushed { cls := .type (if (some env).isSome then "dict" else "frame"), data := .dict #[] } (.obj _) (Heap.get?_push_size _ rfl) s₁.toks H₁.tk
  obtain ⟨oC, hoC, hFC⟩ := HasNs.obj (lo := []) ⟨_, hns, fun _ _ e => nomatch e⟩
  have H₃ := H₂.turned (e' := .obj oC) .head hoC hsb (Nat.le_trans H₁.tk (Nat.le_add_right _ ([] : List (Str × Value)).length))
  have hst₂ : Sti 0 h₁ := W.frame _ _ _ hst₁ fun b hb o e => hsb.extBut b o (fun q => Nat.lt_irrefl _ (q ▸ Heap.lt_size e)) (Heap.get?_push_of_some _ e)
  obtain ⟨oL, hFL, H₄⟩ := H₃.swap hFC
  have H₅ := H₄.perm (.swap ..)
  have loop : codeAny (model prog w) A (.compLoop (.SetComp elt [⟨.Name x px, iter, [], 0⟩] scope pos) 0 (.ref I) (.ref s₂.heap.objs.size) (compEnvC scope cl s₁.heap.objs.size env)) (compPost (model prog w) A E none Q (.ref s₂.heap.objs.size) s₁.heap.objs.size)
      { s₁ with heap := h₁, toks := s₁.toks + ([] : List (Str × Value)).length } := by
    refine compLoopS_ (C := s₁.heap.objs.size) W hnd (fun b hb => ⟨fun q => hC1 (q ▸ hb), (hwr b hb).2.1⟩) hfp hex rfl (hx _) (by simp [compEnvC, relabel, hkind]) H₅ ?_ hst₂ ?_ ?_
    · intro p hp hm
      rcases List.mem_cons.mp hp with rfl | hp
      · exact hDw hm
      · rcases List.mem_cons.mp hp with rfl | hp
        · exact (hwr _ hm).1 rfl
        · exact hdis p hp hm
    · intro i v its s₃ hi hP H₆
      exact turn _ _ _ oL i v its s₃ hi hP H₆
    · intro lo₁ s₃ H₆
      obtain ⟨oC', hFC', H₇⟩ := ((H₆.less (lo' := []) (fun _ _ e => nomatch e)).perm (.swap ..)).swap hFL
      rw [show setAt w n = set1 w from if_neg (by omega)] at H₇
      obtain ⟨m, hm, _⟩ := hFC' _ _ (H₇.obj (.head _))
      exact ⟨m, hm, fun h' hs' => done _ _ (H₇.dropBut hs')⟩
  exact codeAny_compStart_set loop (W.self 0 _ _ _ hst₂ loop)
theorem asgSet_ {y : Str} {py tp : Pos} {k : Nat} {D : Addr} {Q : Unit → Shared → Prop} (H : St w mg mb s₀ g L lo led s) (hA : A.handled = none) (hm : (D, Ent.obj (set1 w)) ∈ led) (hS : SetL y (.bool true) lo lo')
    (h : ∀ s', St w mg mb s₀ g L lo' led s' → Q () s')
    (hk : env.kindOf y = some .local := by rfl) (hL : env.locals = L := by rfl) (hp : (env.scope.kind == .class || (env.scope.kind == .module && env.locals != env.globals)) = false := by rfl) :
    wpAny (model prog w) A (assign (.Tuple [.Name y py] k tp) env (.ref D)) Q E s := by
  rw [arm_assign_Tuple]
  refine wpAny_bind (wpAny_standAt ?_)
  show wpAny _ _ (holding _ (unpackItems (.ref D) 1 none) >>= _) _ _ _
  refine wpAny_bind (wpAny_holding (unpack_set hA (H.obj hm) fun h' k => ?_))
  have H₁ := H.moved (s' := { s with heap := h' }) ⟨h', _, rfl, k⟩ H.tk
  show wpAny _ _ (assignInOrder [assign (.Name y py) env] [.bool true]) _ _ _
  refine inorder_cons_ (wpAny_assign_Name (store_ H₁ hS (fun s' H' => inorder_nil_ (h s' H')) hk hL hp))
end

end Mine

end
section
open PySem PySem.W PySem.Calls PyProof.Rows
set_option Elab.async false
set_option autoImplicit false
set_option maxRecDepth 100000
set_option maxHeartbeats 4000000
set_option linter.unusedVariables false
set_option rowWalk.seconds 0
set_option pp.maxSteps 600
namespace Mine
theorem WalksT.wider {prog : Program} {w : World} {A : Around} {I : Addr} {fp wr : List Addr} {n : Nat} {Pt : Nat → Array Value → Prop} {Sti : Nat → Heap → Prop} {Mid : Nat → Addr → Heap → Prop} (W : WalksT prog w A I fp wr n Pt Sti Mid) (c : Addr) (hc : c ∈ fp) (hex : ∀ i h, Sti i h → ∃ o, h.get? c = some o) :
    WalksT prog w A I fp (c :: wr) n Pt Sti (fun i T h => Mid i T h ∧ T ≠ c) where
  sub := fun b hb => by
    rcases List.mem_cons.mp hb with rfl | hb
    · exact hc
    · exact W.sub b hb
  frame := W.frame
  item := fun i s Q E hi hst hQ => W.item i s Q E hi hst fun T vals h' tk a b d e f => hQ T vals h' tk a b d
    ⟨e, fun q => by
      obtain ⟨o, ho⟩ := hex _ _ hst
      have := Heap.lt_size ho
      rw [q] at b; exact absurd this (Nat.not_lt.mpr b)⟩ fun x o hx => f x o fun hm => hx (.tail _ hm)
  go := fun elts k pos i T s Q E hm hQ => W.go elts k pos i T s Q E hm.1 fun h' a b => hQ h' a fun x o hx => b x o fun hm => hx (.tail _ hm)
  apart := fun i T h hm hT => by
    rcases List.mem_cons.mp hT with q | hT
    · exact hm.2 q
    · exact W.apart i T h hm.1 hT
  done := fun s Q E hst hQ => W.done s Q E hst fun h' tk a => hQ h' tk fun x o hx => a x o fun hm => hx (.tail _ hm)
  self := W.self
section
variable {prog : Program} {w : World} {mg mb : Str → Option Value} {s₀ s : Shared} {g : Heap} {L : Addr} {lo : List (Str × Value)} {led : List (Addr × Ent)} {A : Around} {Q : Flow → Shared → Prop}
  {env : Env} {elts : List Expr} {kx : Nat} {pos : Pos} {body : List Stmt}
theorem forZ_ {l1 l2 : Addr} {xs ys : List Value} (hh : A.handled = none) (H : St w mg mb s₀ g L lo led s) (hl1 : g.IsList l1 xs.toArray) (hl2 : g.IsList l2 ys.toArray)
    (hn : (assignEach elts env).length = 2) (hstar : (assignEach elts env).findIdx? (·.1) = none)
    (Inv : Nat → List (Str × Value) → List (Addr × Ent) → Prop) (h0 : Inv 0 lo led)
    (turn : ∀ i x y lo₁ led₁ its s₁, xs[i]? = some x → ys[i]? = some y → Inv i lo₁ led₁ → St w mg mb s₀ g L lo₁ (led₁ ++ its) s₁ →
      wpAny (model prog w) A (assignInOrder ((assignEach elts env).map (·.2)) [x, y]) (fun _ s₂ => wpAny (model prog w) A (execs body env) (fun f s₃ => match f with
        | .next | .cont => ∃ lo₃ led₃, Inv (i + 1) lo₃ led₃ ∧ St w mg mb s₀ g L lo₃ (led₃ ++ its) s₃
        | .brk => Q .next s₃
        | .ret v => Q (.ret v) s₃) (fun _ _ => False) s₂) (fun _ _ => False) s₁)
    (done : ∀ lo₁ led₁ s₁, Inv (min xs.length ys.length) lo₁ led₁ → St w mg mb s₀ g L lo₁ led₁ s₁ → Q .next s₁) :
    wpAny (model prog w) A (call (.type "zip") [.ref l1, .ref l2]) (fun x s₁ => wpAny (model prog w) A (pyIter x) (fun it s₂ => codeAny (model prog w) A (.forLoop (.Tuple elts kx pos) it body [] env) (fun r s' => match r with | .ok f => Q f s' | .error _ => False) s₂) (fun _ _ => False) s₁) (fun _ _ => False) s := by
  have hls1 := H.blst hl1
  have hls2 := H.blst hl2
  have hL := H.fs.ns.lt
  obtain ⟨o1, ho1, _⟩ := id hl1
  obtain ⟨o2, ho2, _⟩ := id hl2
  have hlt1 : l1 < s.heap.objs.size := Heap.lt_size (H.fs.keep _ _ ho1)
  have hlt2 : l2 < s.heap.objs.size := Heap.lt_size (H.fs.keep _ _ ho2)
  refine call_zip_2 hls1 hls2 fun h' hz hTI hTO hi1 hi2 hsz hk => ?_
  have H' : St w mg mb s₀ g L lo led { s with heap := h' } := H.moved ⟨_, _, rfl, hk⟩ H.tk
  have out : ∀ b, s.heap.objs.size ≤ b → b ≠ L ∧ g.get? b = none ∧ b ∉ led.map (·.1) := fun b hb => by
    refine ⟨Nat.ne_of_gt (Nat.lt_of_lt_of_le hL hb), ?_, fun h => ?_⟩
    · cases e : g.get? b with
      | none => rfl
      | some o => exact absurd (Heap.lt_size (H.fs.keep _ _ e)) (Nat.not_lt.mpr hb)
    · obtain ⟨p, hp, e⟩ := List.mem_map.mp h
      obtain ⟨o, ho⟩ := (H.fs.ok p hp).1.some
      exact absurd (Heap.lt_size ho) (e ▸ Nat.not_lt.mpr hb)
  refine wpAny_pyIter_zip hz ?_
  have W := WalksT.wider (WalksT.zip2 (prog := prog) (w := w) hh _ _ _ _ _ _ _ (zipApart_new hlt1 hlt2) xs.toArray ys.toArray) (s.heap.objs.size + 2) (.tail _ (.head _)) fun i h hst => ⟨_, hst.2.1⟩
  have five : ∀ b ∈ [s.heap.objs.size + 2, s.heap.objs.size + 4, s.heap.objs.size + 3, s.heap.objs.size, s.heap.objs.size + 1], s.heap.objs.size ≤ b := fun b hb => by
    simp only [List.mem_cons, List.not_mem_nil, or_false] at hb
    rcases hb with rfl | rfl | rfl | rfl | rfl
    · exact Nat.le_add_right _ _
    · exact Nat.le_add_right _ _
    · exact Nat.le_add_right _ _
    · exact Nat.le_refl _
    · exact Nat.le_add_right _ _
  refine forWT_ W hh ?_ (fun b hb => ⟨(out b (five b hb)).1, (out b (five b hb)).2.1⟩) ?_ ?_ ?_ hstar Inv H' h0 ?_ ⟨hz, hTI, ⟨_, _, hTO⟩, hi1, hi2, hls1.at fun o e => hk l1 o e, hls2.at fun o e => hk l2 o e⟩ ?_ ?_
  · simp
  · intro b hb
    simp only [List.mem_cons, List.not_mem_nil, or_false] at hb
    rcases hb with rfl | rfl | rfl | rfl | rfl | rfl | rfl
    · exact .inl (by simp)
    · exact .inl (by simp)
    · exact .inl (by simp)
    · exact .inl (by simp)
    · exact .inl (by simp)
    · exact .inr ⟨_, ho1⟩
    · exact .inr ⟨_, ho2⟩
  · rintro i h ⟨a1, a2, ⟨_, _, a3⟩, ⟨o4, a4, _⟩, ⟨o5, a5, _⟩, _⟩ b hb
    simp only [List.mem_cons, List.not_mem_nil, or_false] at hb
    rcases hb with rfl | rfl | rfl | rfl | rfl
    · exact ⟨_, a2⟩
    · exact ⟨_, a1⟩
    · exact ⟨_, a3⟩
    · exact ⟨_, a4⟩
    · exact ⟨_, a5⟩
  · rintro i vals ⟨x, y, _, _, rfl⟩
    exact hn
  · intro p hp hm
    exact (out _ (five _ hm)).2.2 (List.mem_map_of_mem hp)
  · rintro i vals lo₁ led₁ its s₁ _ ⟨x, y, hx, hy, rfl⟩ hI H₁
    exact turn i x y lo₁ led₁ its s₁ (by simpa using hx) (by simpa using hy) hI H₁
  · intro lo₁ led₁ s₁ hI H₁
    exact done lo₁ led₁ s₁ (by simpa using hI) H₁
end

end Mine

end
section
open PySem PySem.W PySem.Calls PyProof.Rows
set_option autoImplicit false
set_option maxRecDepth 100000
set_option maxHeartbeats 4000000
set_option linter.unusedVariables false
set_option rowWalk.seconds 0
namespace Mine
local macro_rules | `(tactic| walk_at "my:gl") => `(tactic| with_reducible first | exact n_platform | exact n_fspath | exact n_commonprefix | exact n_get_sep | exact n_join | exact n_split | exact n_splitroot | exact n_dirname | exact n_normpath | exact n_abspath | exact n_relpath | exact n_commonpath | exact n_law_texts | exact n_law_safe | exact n_law_climb | exact n_law_stack | exact n_law_shared | exact n_law_common)
local macro_rules | `(tactic| walk_at "my:keep") => `(tactic| with_reducible first | exact k_platform | exact k_fspath | exact k_commonprefix | exact k_get_sep | exact k_join | exact k_split | exact k_splitroot | exact k_dirname | exact k_normpath | exact k_abspath | exact k_relpath | exact k_commonpath | exact k_law_texts | exact k_law_safe | exact k_law_climb | exact k_law_stack | exact k_law_shared | exact k_law_common)
local macro_rules | `(tactic| walk_at "my:bn") => `(tactic| with_reducible first | exact n_type | exact n_issubclass | exact n_isinstance | exact n_str | exact n_bytes | exact n_len | exact n_min | exact n_max | exact n_tuple | exact n_map | exact n_list | exact n_enumerate | exact n_filter | exact n_range | exact n_sum | exact n_abs | exact n_zip)
local macro_rules | `(tactic| walk_at "my:bb") => `(tactic| with_reducible first | exact Boot.«type» | exact Boot.«issubclass» | exact Boot.«isinstance» | exact Boot.«str» | exact Boot.«bytes» | exact Boot.«len» | exact Boot.«min» | exact Boot.«max» | exact Boot.«tuple» | exact Boot.«map» | exact Boot.«list» | exact Boot.«enumerate» | exact Boot.«filter» | exact Boot.«range» | exact Boot.«sum» | exact Boot.«abs» | exact Boot.«zip»)
local macro_rules | `(tactic| walk_at "my:i") => `(tactic| (rename St .. => hOld; clear hOld; intros))
local macro_rules | `(tactic| walk_at "my:mv") => `(tactic| (rename St .. => hOld; intro sX tX kX htX; have hX := St.moved hOld kX htX; clear kX htX hOld))
local macro_rules | `(tactic| walk_at "my:st") => `(tactic| with_reducible assumption)
local macro_rules | `(tactic| walk_at "my:mem") => `(tactic| first | with_reducible assumption | exact List.Mem.head _ | (apply List.Mem.tail; walk_at "my:mem"))
local macro_rules | `(tactic| walk_at "my:upd") => `(tactic| first | exact UpdE.head | (apply UpdE.tail; walk_at "my:upd"))
local macro_rules | `(tactic| walk_at "my:lst") => `(tactic| first | with_reducible assumption | exact St.lst (by walk_at "my:st") (by walk_at "my:mem") | exact St.blst (by walk_at "my:st") (by with_reducible assumption))
local macro_rules | `(tactic| walk_at "my:sz") => `(tactic| first
  | with_reducible assumption
  | exact Nat.le_of_ble_eq_true rfl
  | (refine Nat.le_trans (PyProof.Txt.length_slice_le _ _ _) ?_; walk_at "my:sz")
  | (refine Nat.le_trans (PyProof.Rows.len_rstripChars _ _) ?_; walk_at "my:sz")
  | (refine Nat.le_trans (PyProof.Rows.len_lstripChars _ _) ?_; walk_at "my:sz")
  | (refine Nat.le_trans (PyProof.Rows.len_strip _) ?_; walk_at "my:sz")
  | (simp only [PySem.sizeLine_eq, Str.length_append, List.length_append, List.length_cons, List.length_nil] at *; omega))
local macro_rules | `(tactic| walk_at "my:set") => `(tactic| first | exact SetL.head | exact SetL.nil | (refine' SetL.tail ?a ?b; (case a => decide); (case b => walk_at "my:set")))
local macro_rules | `(tactic| walk_at "eval Name") => `(tactic| (with_unfolding_all (first
  | (refine ldL_ (by walk_at "my:st") (by rfl) ?_)
  | (refine gl_ (St.here (by walk_at "my:st")) (by walk_at "my:gl") ?_)
  | (refine bi_ (St.here (by walk_at "my:st")) (by walk_at "my:bn") (by walk_at "my:bb") (by decide) ?_))))
local macro_rules | `(tactic| walk_at "loadName") => `(tactic| (refine ldN_ (by walk_at "my:st") (by rfl) ?_))
local macro_rules | `(tactic| walk_at "storeName") => `(tactic| ((refine store_ (by walk_at "my:st") (by walk_at "my:set") ?_); walk_at "my:i"))
local macro_rules | `(tactic| walk_at "bindName") => `(tactic| refine bindN_ ?_)
local macro_rules | `(tactic| walk_at "eval Constant str") => `(tactic| (refine cstr_ (by walk_at "my:st") ?_; walk_at "my:i"))
local macro_rules | `(tactic| walk_at "eval Constant int") => `(tactic| (refine cint_ (by walk_at "my:st") ?_; walk_at "my:i"))
local macro_rules | `(tactic| walk_at "call builtin:str.strip") => `(tactic| (refine strip_ (by walk_at "my:st") (by walk_at "my:sz") ?_; walk_at "my:i"))
local macro_rules | `(tactic| walk_at "call builtin:str.lstrip") => `(tactic| (refine lstripC_ (by walk_at "my:st") (by walk_at "my:sz") ?_; walk_at "my:i"))
local macro_rules | `(tactic| walk_at "call builtin:str.rstrip") => `(tactic| (refine rstripC_ (by walk_at "my:st") (by walk_at "my:sz") ?_; walk_at "my:i"))
local macro_rules | `(tactic| walk_at "call builtin:str.rfind") => `(tactic| (refine rfind_ (by walk_at "my:st") ?_; walk_at "my:i"))
local macro_rules | `(tactic| walk_at "binaryOp Add str str") => `(tactic| (refine adds_ (by walk_at "my:st") (by walk_at "my:sz") ?_; walk_at "my:i"))
local macro_rules | `(tactic| walk_at "inplaceOp Add str str") => `(tactic| (refine iadds_ (by walk_at "my:st") (by walk_at "my:sz") ?_; walk_at "my:i"))
local macro_rules | `(tactic| walk_at "binaryOp Add int int") => `(tactic| (refine addi_ (by walk_at "my:st") ?_; walk_at "my:i"))
local macro_rules | `(tactic| walk_at "binaryOp Sub int int") => `(tactic| (refine subi_ (by walk_at "my:st") ?_; walk_at "my:i"))
local macro_rules | `(tactic| walk_at "inplaceOp Add int int") => `(tactic| (refine iaddi_ (by walk_at "my:st") ?_; walk_at "my:i"))
local macro_rules | `(tactic| walk_at "inplaceOp Sub int int") => `(tactic| (refine isubi_ (by walk_at "my:st") ?_; walk_at "my:i"))
local macro_rules | `(tactic| walk_at "binaryOp Mod int int") => `(tactic| (refine modi_ (by walk_at "my:st") (by decide) ?_; walk_at "my:i"))
local macro_rules | `(tactic| walk_at "unaryOp USub int") => `(tactic| (refine negi_ (by walk_at "my:st") ?_; walk_at "my:i"))
local macro_rules | `(tactic| walk_at "call builtin:len") => `(tactic| (first | ((with_reducible show wpAny _ _ (call _ [Value.str _ _]) _ _ _); refine lens_ (by walk_at "my:st") (by walk_at "my:sz") ?_) | ((with_reducible show wpAny _ _ (call _ [Value.ref _]) _ _ _); refine lenl_ (by walk_at "my:st") (by walk_at "my:lst") (by walk_at "my:sz") ?_)); walk_at "my:i")
local macro_rules | `(tactic| walk_at "truthy str") => `(tactic| (refine truthys_ (by walk_at "my:st") (by walk_at "my:sz") ?_; walk_at "my:i"))
local macro_rules | `(tactic| walk_at "truthy ref") => `(tactic| (refine truthyl_ (by walk_at "my:st") (by walk_at "my:lst") (by walk_at "my:sz") ?_; walk_at "my:i"))
local macro_rules | `(tactic| walk_at "newList") => `(tactic| (refine newList_ (by walk_at "my:st") (by walk_at "my:sz") ?_; walk_at "my:i"))
local macro_rules | `(tactic| walk_at "newTuple") => `(tactic| (refine newTuple_ (by walk_at "my:st") (by walk_at "my:sz") ?_; walk_at "my:i"))
local macro_rules | `(tactic| walk_at "call builtin:list.append") => `(tactic| (refine append_ (by walk_at "my:st") (by walk_at "my:upd") (by walk_at "my:sz") ?_; walk_at "my:i"))
local macro_rules | `(tactic| walk_at "subscriptTail") => `(tactic| ((with_reducible show wpAny _ _ (subscriptTail _ (Expr.Slice none (some _) none _) (Value.str _ _) (Value.ref _)) _ _ _); (refine sl_ns_ (by walk_at "my:st") (by walk_at "my:sz") ?_); walk_at "my:i"))
local macro_rules | `(tactic| walk_at "subscriptTail") => `(tactic| ((with_reducible show wpAny _ _ (subscriptTail _ (Expr.Slice (some _) none none _) (Value.str _ _) (Value.ref _)) _ _ _); (refine sl_sn_ (by walk_at "my:st") (by walk_at "my:sz") ?_); walk_at "my:i"))
local macro_rules | `(tactic| walk_at "subscriptTail") => `(tactic| ((with_reducible show wpAny _ _ (subscriptTail _ (Expr.Slice (some _) (some _) none _) (Value.str _ _) (Value.ref _)) _ _ _); (refine sl_ss_ (by walk_at "my:st") (by walk_at "my:sz") ?_); walk_at "my:i"))
local macro_rules | `(tactic| walk_at "subscriptTail") => `(tactic| ((with_reducible show wpAny _ _ (subscriptTail _ _ (Value.ref _) (Value.ref _)) _ _ _); (refine sl_lst_ (by walk_at "my:st") (by walk_at "my:lst") (by constructor) (by constructor) (by constructor) (by decide) (by walk_at "my:sz") ?_); walk_at "my:i"))
local macro_rules | `(tactic| walk_at "unpackItems ref") => `(tactic| (refine unpack_ (by walk_at "my:st") (by walk_at "my:hh") (by walk_at "my:mem") (by rfl) ?_; walk_at "my:i"))
local macro_rules | `(tactic| walk_at "assign Tuple") => `(tactic| (refine untuple_ (by walk_at "my:st") (by walk_at "my:hh") (by walk_at "my:mem") (by rfl) (by rfl) ?_; walk_at "my:i"))
local macro_rules | `(tactic| walk_at "assignInOrder") => `(tactic| (first | refine inorder_nil_ ?_ | refine inorder_cons_ ?_))
local macro_rules | `(tactic| walk_at "callWith ref") => `(tactic| refine cw_ (St.here (by walk_at "my:st")) (by walk_at "my:keep") ?_)
local macro_rules | `(tactic| walk_at "And") => `(tactic| ((with_reducible show Frag.In _ _ ∧ _); refine ⟨(St.here (by walk_at "my:st")).X, ?_⟩; (try dsimp only [List.nil_append, List.cons_append])))
local macro_rules | `(tactic| walk_at "my:hh") => `(tactic| first | with_reducible assumption | exact Room.hh (by with_reducible assumption))
local macro_rules | `(tactic| walk_at "my:room") => `(tactic| first | with_reducible assumption | exact Room.le (by with_reducible assumption) (by decide))
local macro_rules | `(tactic| walk_at "my:tk") => `(tactic| exact St.tk (by walk_at "my:st"))
local macro_rules | `(tactic| walk_at "my:cx") => `(tactic| exact St.here (by walk_at "my:st"))
local macro_rules | `(tactic| walk_at "my:end") => `(tactic| ((try dsimp only); first | exact St.keeps (by walk_at "my:st") | exact St.tk (by walk_at "my:st") | exact St.isnew (by walk_at "my:st") (by walk_at "my:mem") | exact St.obj (by walk_at "my:st") (by walk_at "my:mem") | exact St.pl (by walk_at "my:st") (by walk_at "my:mem") | exact St.lst (by walk_at "my:st") (by walk_at "my:mem")))
local macro_rules | `(tactic| walk_at "call builtin:isinstance") => `(tactic| (refine isiB_ (by walk_at "my:st") ?_; walk_at "my:i"))
local macro_rules | `(tactic| walk_at "call type:type") => `(tactic| refine type_ ?_)
local macro_rules | `(tactic| walk_at "call builtin:issubclass") => `(tactic| refine issubP_ (St.obj (by walk_at "my:st") (by walk_at "my:mem")) ?_)
local macro_rules | `(tactic| walk_at "my:go") => `(tactic| repeat' (first
  | ((fail_if_success (with_reducible show Exists _)); (fail_if_success (with_reducible show wpAny _ _ (exec (Stmt.For _ _ _ _ _) _) _ _ _)); (fail_if_success (with_reducible show wpAny _ _ (exec (Stmt.While _ _ _ _) _) _ _ _)); (fail_if_success (with_reducible show wpAny _ _ (exec (Stmt.Try _ _ _ _ _) _) _ _ _)); walk1)))
local macro_rules | `(tactic| walk_at "binaryOp Mult str int") => `(tactic| (refine muls_ (by walk_at "my:st") (mulOk_of 1 1000000 (Nat.le_of_ble_eq_true rfl) (Int.ofNat_le.mpr (by walk_at "my:sz")) (by omega) (by decide) (by decide)) ?_; walk_at "my:i"))
local macro_rules | `(tactic| walk_at "ite") => `(tactic| (first | refine ite_t (by with_reducible assumption) ?_ | refine ite_f (by with_reducible assumption) ?_))
local macro_rules | `(tactic| walk_at "call builtin:str.startswith") => `(tactic| refine SC.startswith ?_)
local macro_rules | `(tactic| walk_at "call builtin:str.endswith") => `(tactic| refine SC.endswith ?_)
local macro_rules | `(tactic| walk_at "my:inv") => `(tactic| ((try dsimp only [List.cons_append, List.nil_append]); with_reducible assumption))
local macro_rules | `(tactic| walk_at "call builtin:list.pop") => `(tactic| (refine pop_ (by walk_at "my:st") (by walk_at "my:upd") (by walk_at "my:sz") ?_; walk_at "my:i"))
local macro_rules | `(tactic| walk_at "call builtin:str.split") => `(tactic| (refine splitS_ (by walk_at "my:st") (by walk_at "my:txt") (by walk_at "my:txt") (by walk_at "my:sz") ?_; walk_at "my:i"))
local macro_rules | `(tactic| walk_at "call builtin:str.join") => `(tactic| (refine joinS_ (by walk_at "my:st") (by walk_at "my:lst") (by walk_at "my:txt") (by decide) (by walk_at "my:sz") ?_; walk_at "my:i"))
local macro_rules | `(tactic| walk_at "my:txt") => `(tactic| first | with_reducible exact slash_ | with_reducible rfl | with_reducible assumption | rfl)
local macro_rules | `(tactic| walk_at "binaryOp Add ref ref") => `(tactic| (refine addl_ (by walk_at "my:st") (by walk_at "my:pl") (by walk_at "my:pl") (by walk_at "my:sz") ?_; walk_at "my:i"))
local macro_rules | `(tactic| walk_at "subscriptTail") => `(tactic| ((with_reducible show wpAny _ _ (subscriptTail _ _ (Value.ref _) (Value.int _ _)) _ _ _); refine last_ (by walk_at "my:lst") (by rfl) (by walk_at "my:sz") ?_))
local macro_rules | `(tactic| walk_at "my:pl") => `(tactic| exact St.pl (by walk_at "my:st") (by walk_at "my:mem"))
local macro_rules | `(tactic| walk_at "getMethod ref") => `(tactic| (first | refine lm_append_ (by walk_at "my:pl") ?_ | refine lm_pop_ (by walk_at "my:pl") ?_ | refine lm_extend_ (by walk_at "my:pl") ?_))
local macro_rules | `(tactic| walk_at "subscriptTail") => `(tactic| ((with_reducible show wpAny _ _ (subscriptTail _ _ (Value.ref _) (Value.int _ _)) _ _ _); refine item_ (by walk_at "my:lst") (by decide) (by decide) (by rfl) ?_))
local macro_rules | `(tactic| walk_at "call builtin:isinstance") => `(tactic| (refine isiLT_ (by walk_at "my:st") (by walk_at "my:lst") (St.obj (by walk_at "my:st") (by walk_at "my:mem")) ?_; walk_at "my:i"))
local macro_rules | `(tactic| walk_at "my:goi") => `(tactic| repeat' (first
  | ((fail_if_success (with_reducible show Exists _)); (fail_if_success (with_reducible show wpAny _ _ (eval (Expr.IfExp _ _ _ _) _) _ _ _)); (fail_if_success (with_reducible show wpAny _ _ (exec (Stmt.For _ _ _ _ _) _) _ _ _)); (fail_if_success (with_reducible show wpAny _ _ (exec (Stmt.While _ _ _ _) _) _ _ _)); (fail_if_success (with_reducible show wpAny _ _ (exec (Stmt.Try _ _ _ _ _) _) _ _ _)); walk1)))
local macro_rules | `(tactic| walk_at "subscriptTail") => `(tactic| ((with_reducible show wpAny _ _ (subscriptTail _ _ (Value.ref _) (Value.int _ _)) _ _ _); refine item_ (by walk_at "my:lst") (by with_reducible assumption) (by with_reducible assumption) (by with_reducible assumption) ?_))
section
section
variable {prog : Program} {w : World} {mg mb : Str → Option Value} {s : Shared} {A : Around} {E : Value → Shared → Prop} {Q : Value → Shared → Prop} {x : Str} {t : Tok}
theorem getsep_ (C : Cx w mg mb s.heap) (hr : Room A 1) (ht : 1 ≤ s.toks) (hQ : ∀ s' t', Keeps s s' → 1 ≤ s'.toks → Q (.str (Str.ofString "/") t') s') :
    wpAny (model prog w) A (call (.ref 122) [.str x t]) Q E s := by
  refine enter_ (binds := [(Str.ofString "path", .str x t)]) (lo := [(Str.ofString "path", .str x t)]) C hr ht (by rfl) (by rfl) (by rfl) (by rfl) (by rfl) ?_ (by decide) rfl rfl rfl
  intro L s' H R
  walk_at "my:go"
  exact hQ _ _ (by walk_at "my:end") (by walk_at "my:end")
theorem fspath_ (C : Cx w mg mb s.heap) (hr : Room A 1) (ht : 1 ≤ s.toks) (hQ : ∀ s', Keeps s s' → 1 ≤ s'.toks → Q (.str x t) s') :
    wpAny (model prog w) A (call (.ref 101) [.str x t]) Q E s := by
  refine enter_ (binds := [(Str.ofString "path", .str x t)]) (lo := [(Str.ofString "path", .str x t)]) C hr ht (by rfl) (by rfl) (by rfl) (by rfl) (by rfl) ?_ (by decide) rfl rfl rfl
  intro L s' H R
  walk_at "my:go"
  exact hQ _ (by walk_at "my:end") (by walk_at "my:end")
end

end
local macro_rules | `(tactic| walk_at "call ref") => `(tactic| (first
  | ((with_reducible show wpAny _ _ (call (Value.ref 101) _) _ _ _); rename St .. => hOld; refine fspath_ (by walk_at "my:cx") (by walk_at "my:room") (by walk_at "my:tk") ?_; intro sX kX htX; have hX := St.moved (by walk_at "my:st") kX htX; clear kX htX hOld)
  | ((with_reducible show wpAny _ _ (call (Value.ref 122) _) _ _ _); refine getsep_ (by walk_at "my:cx") (by walk_at "my:room") (by walk_at "my:tk") ?_; walk_at "my:mv")))
section
open Sem (wp)
open AutoSeq1 (wpAny_loadPart')
section
variable {prog : Program} {w : World} {A : Around} {E : Value → Shared → Prop} {s : Shared} {I : Addr} {fp wr : List Addr} {G : Array GenState → Array GenState → Prop} {n : Nat} {P : Nat → Value → Prop} {St : Nat → Shared → Prop}
theorem collect_map {Q : List Value → Shared → Prop} (W : WalksS prog w A.in1 I fp wr G n P St) (hT : ∀ i s, St i s → s.TypeIs (.ref I) "map") (hst : St 0 s) (hfp : ∀ b ∈ fp, b < s.heap.objs.size) (hI : I ∈ fp)
    (hQ : ∀ s' acc, Moved wr G s s' → ItemsOf P acc n → Q acc.toList s') (hn : n ≤ sizeLine) : wpAny (model prog w) A (collect (.ref I)) Q E s := by
  have hSf : s.heap.objs.size ∉ fp := fun hm => Nat.lt_irrefl _ (hfp _ hm)
  have hSI : s.heap.objs.size ≠ I := fun e => hSf (e ▸ hI)
  unfold collect
  refine wpAny_bind (wpAny_runValue (codeAny_builtin F.entry_proto_collect ?_))
  rw [Around.under_plainId F.plain_proto_collect _]
  show wpAny _ A.in1 (newList [] >>= fun l => again (.builtin "list.__iadd__" ⟨[l, .ref I], []⟩)) _ _ s
  refine wpAny_bind (wpAny_newObj_type ?_)
  refine wpAny_pure ⟨plainId_quiet F.plain_list_iadd _, codeAny_builtin F.entry_list_iadd ?_⟩
  rw [Around.under_plainId F.plain_list_iadd _]
  have hst₁ := W.frame 0 s (s.heap.push { cls := .type "list", data := .seq ([] : List Value).toArray }) s.toks hst (Nat.le_refl _) fun b _ o e => Heap.get?_push_of_some _ e
  show wpAny _ A.in1 (Builtin.List.listExtendWith (.ref s.heap.objs.size) (.ref I) (.ref s.heap.objs.size)) _ _ _
  unfold Builtin.List.listExtendWith
  refine wpAny_bind (wpAny_typeOf (hT 0 _ hst₁) ?_)
  have h1 : Builtin.List.listSameRef (.ref s.heap.objs.size) (.ref I) = false := by simp [Builtin.List.listSameRef, hSI]
  have h2 : (Value.type "map" == Value.type "list") = false := by decide
  have h3 : (Value.type "map" == Value.type "tuple") = false := by decide
  simp only [h1, h2, h3, Bool.or_false, Bool.false_eq_true, if_false]
  refine wpAny_bind (W.self 0 _ _ _ hst₁ ?_)
  refine wpAny_bind (wpAny_holding ?_)
  unfold Builtin.List.listLengthHint
  refine wpAny_bind (wpAny_specialOf (hT 0 _ hst₁) no_len_map ?_)
  show wpAny _ A.in1 (specialOf (Value.ref I) (Str.ofString "__length_hint__") >>= _) _ _ _
  refine wpAny_bind (wpAny_specialOf (hT 0 _ hst₁) no_hint_map ?_)
  refine wpAny_pure ?_
  show wpAny _ A.in1 (rule "list.extend.makes-room" >>= fun _ => Builtin.List.listTouch (.ref s.heap.objs.size) >>= fun _ =>
    again (.builtin "list.extend.loop" ⟨[.ref s.heap.objs.size, .ref I, .ref s.heap.objs.size], []⟩)) _ _ _
  refine wpAny_bind (wpAny_rule ?_)
  have hS₁ : (s.heap.push { cls := .type "list", data := .seq ([] : List Value).toArray }).get? s.heap.objs.size = some { cls := .type "list", data := .seq ([] : List Value).toArray } := Heap.get?_push_size _ rfl
  refine wpAny_bind ?_
  show wpAny _ A.in1 (updateSeq s.heap.objs.size (·.push .none) >>= fun _ => updateSeq s.heap.objs.size (·.pop)) _ _ _
  refine wpAny_bind (wpAny_updateSeq hS₁ rfl ?_)
  have hS₂ := Heap.get?_update_self (Obj.mapSeq (·.push Value.none)) hS₁ rfl
  refine wpAny_updateSeq hS₂ rfl ?_
  have hS₃ := Heap.get?_update_self (Obj.mapSeq (·.pop)) hS₂ rfl
  have oth : ∀ b o, b ≠ s.heap.objs.size → (s.heap.push { cls := .type "list", data := .seq ([] : List Value).toArray }).get? b = some o →
      (((s.heap.push { cls := .type "list", data := .seq ([] : List Value).toArray }).update s.heap.objs.size (Obj.mapSeq (·.push Value.none))).update s.heap.objs.size (Obj.mapSeq (·.pop))).get? b = some o :=
    fun b o hb e => (Heap.get?_update_other _ _ (Ne.symm hb)).trans ((Heap.get?_update_other _ _ (Ne.symm hb)).trans e)
  refine wpAny_pure ⟨plainId_quiet F.plain_extend_loop _, codeAny_extend_loopS W hn _ hSf _ n 0 _ _ _ rfl (Nat.zero_le _)
    (W.frame 0 ({ s with heap := s.heap.push { cls := .type "list", data := .seq ([] : List Value).toArray } } : Shared) _ s.toks hst₁ (Nat.le_refl _) fun b hb o e => oth b o (fun h => hSf (h ▸ hb)) e) hS₃ (ItemsOf.nil P) fun s' acc' c' hm hS' hacc => ?_⟩
  show wpAny _ A (load s.heap.objs.size >>= _) _ _ s'
  refine wpAny_bind (wpAny_load hS' ?_)
  refine wpAny_pure (hQ s' acc' (Moved.drop_new (o := { cls := .type "list", data := .seq ([] : List Value).toArray }) (tk := s.toks) (Moved.trans W.gtrans ((Moved.refl W.grefl).then_heap (by first | exact Nat.le_refl _ | exact Nat.le_succ _ | omega) fun b o hb e => ?_) hm) (Nat.le_refl _)) hacc)
  exact oth b o (fun h => hb (h ▸ List.mem_cons_self)) e
theorem call_tuple_map {Q : Value → Shared → Prop} (W : WalksS prog w A.in1.in1.in1 I fp wr G n P St) (hT : ∀ i s, St i s → s.TypeIs (.ref I) "map") (hst : St 0 s) (hfp : ∀ b ∈ fp, b < s.heap.objs.size) (hI : I ∈ fp)
    (hQ : ∀ s' acc, Moved wr G s s' → ItemsOf P acc n → Q (.ref s'.heap.objs.size) { s' with heap := s'.heap.push { cls := .type "tuple", data := .seq acc } }) (hn : n ≤ sizeLine) :
    wpAny (model prog w) A (call (.type "tuple") [.ref I]) Q E s := by
  have code : codeAny (model prog w) A.in1 (.call (.builtin "tuple.__new__") ⟨[.type "tuple", .ref I], []⟩) (wants (fun obj s₁ => s₁.TypeIs obj "tuple" ∧ Q obj s₁) E) s := by
    refine codeAny_of_tree ?_
    show wpAny _ A.in1.in1 (do checkBuiltinCall "tuple.__new__" ⟨[.type "tuple", .ref I], []⟩; again (.builtin "tuple.__new__" ⟨[.type "tuple", .ref I], []⟩)) _ _ s
    refine wpAny_bind (wpAny_of_eq (F.newCall_tuple_1 _) (wpAny_pure ⟨plainId_quiet F.plain_tuple_new _, codeAny_builtin F.entry_tuple_new ?_⟩))
    rw [Around.under_plainId F.plain_tuple_new _]
    have hsub := sub_tuple_self
    have hinit := init_tuple_lookup
    have hmh := madeHere_tuple
    have hTI := hT 0 s hst
    wp_walk using wpAny_typeOf hTI, collect_map (hn := hn) W hT hst hfp hI
    intro s' acc hm hacc
    show wpAny _ _ (Builtin.Tuple.tupleExact acc.toList.toArray >>= fun v => ret v) _ _ _
    unfold Builtin.Tuple.tupleExact
    refine wpAny_bind (wpAny_newObj_type ?_ (by show acc.toList.toArray.size ≤ sizeLine; simp only [Array.toArray_toList]; rw [hacc.1]; exact hn))
    refine wpAny_pure ?_
    have e : acc.toList.toArray = acc := by simp
    rw [e]
    exact ⟨⟨_, Heap.get?_push_size _ rfl, rfl⟩, hQ s' acc hm hacc⟩
  refine callType_codes (Q₁ := fun obj s₁ => s₁.TypeIs obj "tuple" ∧ Q obj s₁) F.called_tuple (F.typeCall_tuple_1 _) F.entry_object_init code fun obj s₁ h₁ => ?_
  exact ⟨h₁.1, F.args_object_init_2 obj _, object_init_meets F.called_tuple.init.lookup F.called_tuple.made (by decide) prog w A.in1 _ s₁ ⟨h₁.1, rfl, h₁.2⟩⟩
end
noncomputable def IsMp (h : Heap) (m t : Addr) : Prop := h.get? m = some { cls := .type "map", data := .fields #[.ref t, .ref 101] }
section
variable {prog : Program} {w : World} {mg mb : Str → Option Value} {A : Around} {E : Value → Shared → Prop} {s : Shared}
theorem meets_map_new (l : Addr) (items : Array Value) :
    Meets (Builtin.«map.__new__» ⟨[.type "map", .ref 101, .ref l], []⟩) (fun _ R s => s.heap.IsList l items ∧
      R (.ok (.ret (.ref (s.heap.objs.size + 2))))
        { s with heap := ((s.heap.push { cls := .type "list_iterator", data := .fields #[.ref l, .int 0 0] }).push { cls := .type "tuple", data := .seq #[.ref s.heap.objs.size] }).push { cls := .type "map", data := .fields #[.ref (s.heap.objs.size + 1), .ref 101] } }) :=
  .of_wp fun prog w A R s h => by
    obtain ⟨hp, g, d, tk, os⟩ := s; obtain ⟨hl, h⟩ := h
    have hsub := sub_map
    have hL : Heap.IsList (Shared.heap ⟨hp, g, d, tk, os⟩) l items := hl
    have z1 : (hp.push { cls := .type "list_iterator", data := .fields #[.ref l, .int 0 0] }).objs.size = hp.objs.size + 1 := Heap.size_push ..
    have z2 : ((hp.push { cls := .type "list_iterator", data := .fields #[.ref l, .int 0 0] }).push { cls := .type "tuple", data := .seq #[.ref hp.objs.size] }).objs.size = hp.objs.size + 2 := by rw [Heap.size_push, z1]
    wp_walk using wpAny_pyIter_list hL
    refine ⟨_, rfl, ?_⟩
    simpa [Heap.size_push] using h
theorem call_map {l : Addr} {vs : List Value} {Q : Value → Shared → Prop} (hl : s.heap.IsList l vs.toArray)
    (h : ∀ h' m t it, s.heap.objs.size ≤ it → m < h'.objs.size → it ≠ m → it ≠ t → IsMp h' m t → h'.get? t = some (tupO [.ref it]) → h'.IsListIter it l 0 → (∀ b o, s.heap.get? b = some o → h'.get? b = some o) → Q (.ref m) { s with heap := h' }) :
    wpAny (model prog w) A (call (.type "map") [.ref 101, .ref l]) Q E s := by
  refine callType_new called_map (by decide) (typeCall_map_2 _ _) (newCall_map_2 _ _) (fun obj => F.args_object_init_3 obj _ _) entry_map_new
    (meets_map_new l vs.toArray) ⟨hl, ?_⟩
  have z1 : (s.heap.push { cls := .type "list_iterator", data := .fields #[.ref l, .int 0 0] }).objs.size = s.heap.objs.size + 1 := Heap.size_push ..
  have z2 : ((s.heap.push { cls := .type "list_iterator", data := .fields #[.ref l, .int 0 0] }).push { cls := .type "tuple", data := .seq #[.ref s.heap.objs.size] }).objs.size = s.heap.objs.size + 2 := by rw [Heap.size_push, z1]
  have e3 : (((s.heap.push { cls := .type "list_iterator", data := .fields #[.ref l, .int 0 0] }).push { cls := .type "tuple", data := .seq #[.ref s.heap.objs.size] }).push { cls := .type "map", data := .fields #[.ref (s.heap.objs.size + 1), .ref 101] }).get? (s.heap.objs.size + 2) = some { cls := .type "map", data := .fields #[.ref (s.heap.objs.size + 1), .ref 101] } := by
    rw [← z2]; exact Heap.get?_push_size _ rfl
  have e2 : (((s.heap.push { cls := .type "list_iterator", data := .fields #[.ref l, .int 0 0] }).push { cls := .type "tuple", data := .seq #[.ref s.heap.objs.size] }).push { cls := .type "map", data := .fields #[.ref (s.heap.objs.size + 1), .ref 101] }).get? (s.heap.objs.size + 1) = some (tupO [.ref s.heap.objs.size]) := by
    refine Heap.get?_push_of_some _ ?_
    rw [← z1]; exact Heap.get?_push_size _ rfl
  refine ⟨⟨_, e3, rfl⟩, h _ (s.heap.objs.size + 2) (s.heap.objs.size + 1) s.heap.objs.size (Nat.le_refl _) (Heap.lt_size e3) ?_ ?_ e3 e2 ⟨_, Heap.get?_push_of_some _ (Heap.get?_push_of_some _ (Heap.get?_push_size _ rfl)), rfl, rfl⟩ fun b o x => Heap.get?_push_of_some _ (Heap.get?_push_of_some _ (Heap.get?_push_of_some _ x))⟩
  · exact Nat.ne_of_lt (Nat.lt_succ_of_lt (Nat.lt_succ_self _))
  · exact Nat.ne_of_lt (Nat.lt_succ_self _)
noncomputable def MpAt (h₀ : Heap) (it l : Addr) (i : Nat) (s : Shared) : Prop := (∀ b o, b ≠ it → h₀.get? b = some o → s.heap.get? b = some o) ∧ s.heap.IsListIter it l i ∧ 1 ≤ s.toks
theorem walks_map {m t it l : Addr} {vs : List Value} {h₀ : Heap} (hm : IsMp h₀ m t) (ht : h₀.get? t = some (tupO [.ref it])) (hl : h₀.IsList l vs.toArray) (h1 : it ≠ m) (h2 : it ≠ t) (h3 : it ≠ l)
    (hit : it < h₀.objs.size) (hr : Room A 2) (hC : ∀ h' : Heap, (∀ b o, b ≠ it → h₀.get? b = some o → h'.get? b = some o) → Cx w mg mb h') (hvs : ∀ v ∈ vs, ∃ x t, v = .str x t) :
    WalksS prog w A m (List.range h₀.objs.size) [it] (fun a b => b = a) vs.length (fun i v => vs[i]? = some v) (MpAt h₀ it l) where
  sub := fun b hb => by rw [List.mem_singleton.mp hb]; exact List.mem_range.mpr hit
  grefl := fun _ => rfl
  gtrans := fun a b c x y => y.trans x
  frame := fun i s h' tk ⟨a, b, c⟩ htk hk => ⟨fun b' o hb e => hk b' (List.mem_range.mpr (Heap.lt_size e)) o (a b' o hb e), b.at fun o e => hk it (List.mem_range.mpr hit) o e, Nat.le_trans c htk⟩
  item := fun i s Q E hi ⟨a, b, c⟩ hQ => by
    have hm' : IsMp s.heap m t := a _ _ (Ne.symm h1) hm
    have ht' := a _ _ (Ne.symm h2) ht
    have hl' : s.heap.IsList l vs.toArray := let ⟨o, ho, r⟩ := hl; ⟨o, a _ _ (Ne.symm h3) ho, r⟩
    have hT : s.TypeIs (.ref m) "map" := ⟨_, hm', rfl⟩
    obtain ⟨x, tx, hx⟩ := hvs vs[i] (List.getElem_mem hi)
    have hxi : vs[i]? = some (.str x tx) := by rw [List.getElem?_eq_getElem hi, hx]
    unfold pyNext
    refine wpAny_bind (wpAny_attempt (wpAny_callSpecial?_slot (name := Str.ofString "__next__") hT slot_map_next
      (wpAny_call_entry slot_map_next hT entry_map_next ?_ (args_map_next_1 _))))
    show wpAny _ A.in1 (field (.ref m) 0 >>= _) _ _ s
    refine wpAny_bind (wpAny_field hm' rfl (x := .ref t) rfl ?_)
    refine wpAny_bind (wpAny_seqItems ht' rfl ?_)
    simp only [List.forIn_toArray, List.forIn_cons, List.forIn_nil]
    refine wpAny_bind ?_
    refine wpAny_bind (wpAny_bind (wpAny_holding (wpAny_nextOf_list_item b hl' (x := .str x tx) (by simpa using hxi) fun h₁ hi₁ hs₁ => wpAny_pure ?_)))
    refine wpAny_pure ?_
    have a1 : ∀ b o, b ≠ it → h₀.get? b = some o → h₁.get? b = some o := fun b o hb e => hs₁.extBut _ _ hb (a b o hb e)
    have hm1 : IsMp h₁ m t := a1 _ _ (Ne.symm h1) hm
    refine wpAny_bind (wpAny_field hm1 rfl (x := .ref 101) rfl ?_)
    refine wpAny_bind (wpAny_holding ?_)
    show wpAny _ A.in1 (call (.ref 101) [.str x tx]) _ _ _
    refine wpAny_with_toks (n := s.toks) (Nat.le_refl _) (fspath_ (hC h₁ a1) hr.in1 c fun s' K htk hle => ?_)
    obtain ⟨h₂, tk₂, rfl, hk₂⟩ := K
    show wpAny _ A.in1 (letGo _ _ >>= fun _ => ret _) _ _ _
    refine wpAny_bind (wpAny_letGo (wpAny_pure ⟨_, rfl, wpAny_pure (hQ _ _ hxi ⟨fun b o hb e => hk₂ _ _ (a1 b o hb e), hi₁.at fun o e => hk₂ _ _ e, htk⟩ ⟨fun b o hb e => hk₂ _ _ (hs₁.extBut _ _ (fun q => hb (List.mem_singleton.mpr q)) e), rfl, rfl, rfl, hle⟩)⟩))
  done := fun s Q E ⟨a, b, c⟩ hQ => by
    have hm' : IsMp s.heap m t := a _ _ (Ne.symm h1) hm
    have ht' := a _ _ (Ne.symm h2) ht
    have hl' : s.heap.IsList l vs.toArray := let ⟨o, ho, r⟩ := hl; ⟨o, a _ _ (Ne.symm h3) ho, r⟩
    have hT : s.TypeIs (.ref m) "map" := ⟨_, hm', rfl⟩
    unfold pyNext
    refine wpAny_bind (wpAny_attempt (wpAny_callSpecial?_slot (name := Str.ofString "__next__") hT slot_map_next
      (wpAny_call_entry slot_map_next hT entry_map_next ?_ (args_map_next_1 _))))
    show wpAny _ A.in1 (field (.ref m) 0 >>= _) _ _ s
    refine wpAny_bind (wpAny_field hm' rfl (x := .ref t) rfl ?_)
    refine wpAny_bind (wpAny_seqItems ht' rfl ?_)
    simp only [List.forIn_toArray, List.forIn_cons, List.forIn_nil]
    refine wpAny_bind ?_
    refine wpAny_bind (wpAny_bind (wpAny_holding (wpAny_nextOf_list_end hr.hh b hl' (by simp) fun h₁ e hs₁ he => ?_)))
    obtain ⟨o, ho, hc⟩ := he
    refine wpAny_bind (wpAny_isInstance (T := "StopIteration") (b := true) ⟨o, ho, hc⟩ isSubtype_stop ?_)
    exact wpAny_pure (hQ _ ⟨fun b o hb e => hs₁ _ _ (fun q => hb (List.mem_singleton.mpr q)) e, rfl, rfl, rfl, Nat.le_refl _⟩)
  self := fun i s Q E ⟨a, b, c⟩ hQ => by
    have hm' : IsMp s.heap m t := a _ _ (Ne.symm h1) hm
    have hT : s.TypeIs (.ref m) "map" := ⟨_, hm', rfl⟩
    refine wpAny_pyIter_slot hT slot_map_iter (wpAny_call_entry slot_map_iter hT entry_map_iter ?_ (args_map_iter_1 _))
    show wpAny _ _ (ret (.ref m)) _ _ s
    exact wpAny_pure ⟨_, rfl, "map", _, hT, slot_map_next.lookup, hQ⟩

theorem tupmap_ {s₀ : Shared} {g : Heap} {L : Addr} {lo : List (Str × Value)} {led : List (Addr × Ent)} {l : Addr} {vs : List Value} {Q : Value → Shared → Prop} (H : Mine.St w mg mb s₀ g L lo led s) (hr : Room A 3) (hl : s.heap.IsList l vs.toArray) (hvs : ∀ v ∈ vs, ∃ x t, v = .str x t) (hz : vs.length ≤ sizeLine)
    (h : ∀ T s', Mine.St w mg mb s₀ g L lo ((T, .obj (tupO vs)) :: led) s' → Q (.ref T) s') :
    wpAny (model prog w) A (call (.type "map") [.ref 101, .ref l]) (fun m s₁ => wpAny (model prog w) A (call (.type "tuple") [m]) Q E s₁) E s := by
  refine call_map hl fun h' m t it hit hm h1 h2 hmp ht hli hk => ?_
  have H1 := H.moved (s' := { s with heap := h' }) ⟨h', _, rfl, hk⟩ H.tk
  have hitlt : it < h'.objs.size := by obtain ⟨_, e, _⟩ := hli; exact Heap.lt_size e
  have h3 : it ≠ l := fun q => by obtain ⟨_, e, _⟩ := hl; exact Nat.lt_irrefl _ (Nat.lt_of_lt_of_le (q ▸ Heap.lt_size e) hit)
  have hl' : h'.IsList l vs.toArray := let ⟨o, ho, r⟩ := hl; ⟨o, hk _ _ ho, r⟩
  have old : ∀ b o, s.heap.get? b = some o → b ≠ it := fun b o e q => Nat.lt_irrefl _ (Nat.lt_of_lt_of_le (q ▸ Heap.lt_size e) hit)
  refine wpAny_with_toks (n := 1) H1.tk (call_tuple_map (walks_map (mg := mg) (mb := mb) hmp ht hl' h1 h2 h3 hitlt (A := A.in1.in1.in1) ⟨hr.hh, by have := hr.dp; show A.depth + 2 ≤ 900; exact Mine.lc [A.depth] [(1, .a (.v 0) (.n 3), .n 900)] (1, .a (.v 0) (.n 2), .n 900) rfl this, ?_⟩ (fun h₂ k₂ => H.here.keeps fun b o e => k₂ _ _ (old b o e) (hk _ _ e)) hvs) (fun i s₁ h₁ => ⟨_, h₁.1 _ _ (Ne.symm h1) hmp, rfl⟩) ⟨fun b o _ e => e, hli, H1.tk⟩ (fun b hb => List.mem_range.mp hb) (List.mem_range.mpr hm) (fun s' acc hmv hi htk => ?_) hz)
  · have := hr.un
    show A.units + 1 + 1 + 1 + 10 * 2 ≤ 9000
    exact Mine.lc [A.units] [(1, .a (.v 0) (.m 10 (.n 3)), .n 9000)] (1, .a (.a (.a (.a (.v 0) (.n 1)) (.n 1)) (.n 1)) (.m 10 (.n 2)), .n 9000) rfl this
  · have e : acc = vs.toArray := by
      refine Array.ext_getElem? fun j => ?_
      by_cases hj : j < vs.length
      · have hj' : j < acc.size := by rw [hi.1]; exact hj
        have := hi.2 j _ (Array.getElem?_eq_getElem hj')
        rw [Array.getElem?_eq_getElem hj']; simpa using this.symm
      · rw [Array.getElem?_eq_none (by rw [hi.1]; exact Mine.lc [vs.length, j] [(1, .v 0, .v 1)] (1, .v 0, .v 1) rfl (Nat.le_of_not_lt hj)), Array.getElem?_eq_none (by simpa using hj)]
    have H2 := H.moved (s' := s') ⟨s'.heap, s'.toks, ?_, fun b o e => hmv.heap b o (fun q => old b o e (List.mem_singleton.mp q)) (hk _ _ e)⟩ htk
    · rw [e]
      exact h _ _ (H2.pushed _ (.obj (tupO vs)) (Heap.get?_push_size _ rfl) _ htk)
    · have g1 := hmv.gens
      have g2 := hmv.drawn
      have g3 := hmv.os
      cases s'
      simp only at g1 g2 g3 ⊢
      subst g1 g2 g3
      rfl
end

end
section
open Sem (wp)
section
variable {prog : Program} {w : World} {mg mb : Str → Option Value} {s : Shared} {A : Around} {E : Value → Shared → Prop} {Q : Value → Shared → Prop} {k : Nat}
  {name qual : Str} {params : Arguments} {body : List Stmt} {scope : Scope} {dV kV doc pm cdv ct oc : Value} {an od : Option Addr} {osl : Array (Option Value)} {f : Addr} {vs : List Value} {binds : List (Str × Value)}
theorem enterC_ {x₁ x₂ : Str} (C : Cx w mg mb s.heap) (hr : Room A (k + 1)) (ht : 1 ≤ s.toks)
    (ho : (KK w).lookup f = some ⟨oc, od, .func (fnOf name qual params body scope dV kV doc pm an cdv ct), osl⟩)
    (hcd : codeIn (KK w) cdv qual = true)
    (hbind : bindArgs (fnOf name qual params body scope dV kV doc pm an cdv ct) ⟨vs, []⟩ = pure binds)
    (hloc : ∀ x ∈ binds, scope.names.lookup x.1 = some .local) {lo : List (Str × Value)} (hlo : ∀ y v, lk lo y = some v → bindL (fun n => scope.names.lookup n) binds (fun _ => none) y = some v)
    (hcs : ∀ n, cellsFrom n scope.names [] = [(x₂, n + 1), (x₁, n)]) (hxx : x₁ ≠ x₂)
    (h : ∀ L s' o₁ o₂, o₁.data = .cell none → o₂.data = .cell none → St w mg mb s s.heap L lo [(L + 1, .obj o₁), (L + 1 + 1, .obj o₂)] s' → Room (A.deeper (envOfC qual scope L f cdv)) k →
      wpAny (model prog w) (A.deeper (envOfC qual scope L f cdv)) (execs body (envOfC qual scope L f cdv))
        (fun fl s' => Q (match fl with | .ret v => v | _ => .none) s') (fun _ _ => False) s')
    (hco : scope.isCoroutine = false) (hgen : scope.isGenerator = false) (hk : scope.kind = .function) :
    wpAny (model prog w) A (call (.ref f) vs) Q E s := by
  refine wpAny_call (codeAny_call_function (fd := fnOf name qual params body scope dV kV doc pm an cdv ct) (body := body) hr.lim (C.X _ _ ho) rfl hco hgen rfl (codeRec_of C.X hcd) ?_)
  rw [hbind]
  refine wpAny_pure (wpAny_with_toks (n := 1) ht (wpAny_newFunctionEnv_cells hk (fun x hx => .inl (hloc x hx)) fun env he s' X htk => ?_))
  subst he
  have hfr : ∀ a, s.heap.objs.size ≤ a → s.heap.get? a = none := fun a ha => by
    cases e : s.heap.get? a with
    | none => rfl
    | some o => exact absurd (Heap.lt_size e) (Nat.not_lt.mpr ha)
  have e1 : cellsFrom (s.heap.objs.size + 1) scope.names [] = [(x₂, s.heap.objs.size + 1 + 1), (x₁, s.heap.objs.size + 1)] := hcs _
  have hnb : ∀ (bs : List (Str × Value)) (cm : Str → Option Value), (∀ x ∈ bs, scope.names.lookup x.1 = some .local) → bindC (fun n => scope.names.lookup n) bs cm = cm := by
    intro bs
    induction bs with
    | nil => intro cm _; rfl
    | cons b r ih => intro cm hb; show bindC _ r (if scope.names.lookup b.1 = some .local then cm else _) = cm; rw [if_pos (hb b (.head _))]; exact ih cm fun x hx => hb x (.tail _ hx)
  have hc2 := X.cell x₂ (s.heap.objs.size + 1 + 1) (by show List.lookup x₂ (cellsFrom _ _ _) = _; rw [e1]; simp)
  have hc1 := X.cell x₁ (s.heap.objs.size + 1) (by
    show List.lookup x₁ (cellsFrom _ _ _) = _
    rw [e1, List.lookup_cons]
    have : (x₁ == x₂) = false := by simpa using hxx
    rw [this]; simp)
  rw [show (newEnv scope s.heap.objs.size mainGlobals (cellsFrom (s.heap.objs.size + 1) scope.names []) (qual ++ ".<locals>.") (some f) cdv none builtinsNs).kindOf = fun n => scope.names.lookup n from rfl] at X
  obtain ⟨o₁, ho₁, hd₁⟩ := hc1
  obtain ⟨o₂, ho₂, hd₂⟩ := hc2
  have hk₁ : ∀ b o, s.heap.get? b = some o → s'.heap.get? b = some o := X.toInCall.keep
  have H : St w mg mb s s.heap s.heap.objs.size lo [(s.heap.objs.size + 1, .obj o₁), (s.heap.objs.size + 1 + 1, .obj o₂)] s' := by
    refine ⟨⟨⟨_, X.toInCall.ns, fun y v e => hlo y v e⟩, hk₁, hfr _ (Nat.le_refl _), fun p hp => ?_, ?_⟩, C, X.toInCall.same, htk, fun _ _ e => e⟩
    · rcases List.mem_cons.mp hp with rfl | hp
      · exact ⟨ho₁, Nat.succ_ne_self _, hfr _ (Nat.le_succ _)⟩
      · rw [List.mem_singleton.mp hp]
        exact ⟨ho₂, Nat.ne_of_gt (Nat.lt_succ_of_lt (Nat.lt_succ_self _)), hfr _ (Nat.le_succ_of_le (Nat.le_succ _))⟩
    · simp
  refine ⟨C.T.nolimit.keeps hk₁, codeAny_func ?_⟩
  refine wpAny_mono (h s.heap.objs.size s' o₁ o₂ (hd₁.trans ?_) (hd₂.trans ?_) H hr.deeper) (fun fl s' hl => hl) fun _ _ e => e.elim
  · show Data.cell (bindC (fun n => scope.names.lookup n) binds (fun _ => none) x₁) = _
    rw [hnb _ _ hloc]
  · show Data.cell (bindC (fun n => scope.names.lookup n) binds (fun _ => none) x₂) = _
    rw [hnb _ _ hloc]
end
section
variable {prog : Program} {w : World} {mg mb : Str → Option Value} {s₀ s : Shared} {g : Heap} {L : Addr} {lo lo' : List (Str × Value)} {led led' : List (Addr × Ent)} {A : Around} {E : Value → Shared → Prop} {vs : List Value} {l T : Addr}
  {Q : Value → Shared → Prop} {i : Int} {ui : Tok} {value slice : Expr}
theorem truthyT_ {Q : Bool → Shared → Prop} (H : St w mg mb s₀ g L lo led s) (hm : s.heap.get? l = some (tupO vs)) (hz : vs.length ≤ 1000000) (h : ∀ s', St w mg mb s₀ g L lo led s' → Q (!vs.isEmpty) s') : wpAny (model prog w) A (truthy (.ref l)) Q E s :=
  truthy_tuple (items := vs.toArray) ⟨_, hm, rfl, _, rfl⟩ (by rw [List.size_toArray]; omega) (by rw [show vs.toArray.isEmpty = vs.isEmpty from by simp]; exact h _ (H.toks (Nat.le_succ_of_le (Nat.le_succ_of_le H.tk))))
theorem itemT_ {r : Value} (hm : s.heap.get? l = some (tupO vs)) (h0 : i = 0) (hx : vs[0]? = some r) (h : Q r s)
    {ops : List Value} (hs : subscripted slice false (.ref l) (.int i ui) = operate ops (getItem (.ref l) (.int i ui)) := by with_unfolding_all rfl)
    (ht : ∀ r, letTemporaryGo value (.ref l) r = pure () := by intro _; with_unfolding_all rfl) :
    wpAny (model prog w) A (subscriptTail value slice (.ref l) (.int i ui)) Q E s := by
  subst h0
  have hlt : 0 < vs.length := (List.getElem?_eq_some_iff.mp hx).1
  refine subscriptTail_ops (T := "tuple") ⟨_, hm, rfl⟩ F.slot_tuple_getitem.lookup (getItem_tuple (j := 0) (items := vs.toArray) ⟨_, hm, rfl, _, rfl⟩ (by decide) (by decide) ?_ (by simpa using hx) h) hs ht
  have : (0 : Int) < vs.toArray.size := by simpa using hlt
  simp [seqIndex?]; exact List.length_pos_iff.mp hlt
noncomputable def MapRdy (s : Shared) (l m : Addr) : Prop := ∃ t it, m < s.heap.objs.size ∧ it ≠ m ∧ it ≠ t ∧ it ≠ l ∧ IsMp s.heap m t ∧ s.heap.get? t = some (tupO [.ref it]) ∧ s.heap.IsListIter it l 0
noncomputable def Old (g : Heap) (L : Addr) (led : List (Addr × Ent)) (b : Addr) : Prop := b = L ∨ (∃ o, g.get? b = some o) ∨ b ∈ led.map (·.1)
theorem map_ (H : St w mg mb s₀ g L lo led s) (hl : s.heap.IsList l vs.toArray)
    (h : ∀ m s', St w mg mb s₀ g L lo led s' → (∀ (t it : Addr), s'.heap.IsListIter it l 0 → s'.heap.get? m = some { cls := .type "map", data := .fields #[.ref t, .ref 101] } → s'.heap.get? t = some (tupO [.ref it]) → ¬ Old g L led it) → MapRdy s' l m → s'.heap.IsList l vs.toArray → Q (.ref m) s') :
    wpAny (model prog w) A (call (.type "map") [.ref 101, .ref l]) Q E s := by
  refine call_map hl fun h' m t it hit hm h1 h2 hmp ht hli hk => ?_
  have old : ∀ b, Old g L led b → b ≠ it := fun b hb q => by
    subst q
    refine Nat.lt_irrefl _ (Nat.lt_of_lt_of_le ?_ hit)
    rcases hb with rfl | ⟨o, e⟩ | hb
    · exact H.fs.ns.lt
    · exact Heap.lt_size (H.fs.keep _ _ e)
    · obtain ⟨p, hp, rfl⟩ := List.mem_map.mp hb
      obtain ⟨o, e⟩ := (H.fs.ok p hp).1.some
      exact Heap.lt_size e
  have h3 : it ≠ l := fun q => by obtain ⟨_, e, _⟩ := hl; exact Nat.lt_irrefl _ (Nat.lt_of_lt_of_le (q ▸ Heap.lt_size e) hit)
  refine h m _ (H.moved (s' := { s with heap := h' }) ⟨h', _, rfl, hk⟩ H.tk) (fun t' it' hl' hm' ht' hb => ?_) ⟨t, it, hm, h1, h2, h3, hmp, ht, hli⟩ (let ⟨o, ho, r⟩ := hl; ⟨o, hk _ _ ho, r⟩)
  have e1 : some ({ cls := .type "map", data := .fields #[.ref t', .ref 101] } : Obj) = some { cls := .type "map", data := .fields #[.ref t, .ref 101] } := hm'.symm.trans hmp
  have e2 : t' = t := by
    have := Option.some.inj e1
    injection this with _ _ d _
    injection d with d
    simpa using d
  subst e2
  have e3 : some (tupO [.ref it']) = some (tupO [.ref it]) := ht'.symm.trans ht
  have e4 : it' = it := by
    have := Option.some.inj e3
    injection this with _ _ d _
    injection d with d
    simpa using d
  exact old it' hb e4
theorem tupM_ {m : Addr} (H : St w mg mb s₀ g L lo led s) (hr : Room A 3) (hl : s.heap.IsList l vs.toArray)
    (ho : ∀ (t it : Addr), s.heap.IsListIter it l 0 → s.heap.get? m = some { cls := .type "map", data := .fields #[.ref t, .ref 101] } → s.heap.get? t = some (tupO [.ref it]) → ¬ Old g L led it) (M : MapRdy s l m)
    (hvs : ∀ v ∈ vs, ∃ x t, v = .str x t) (hz : vs.length ≤ sizeLine)
    (h : ∀ T s', St w mg mb s₀ g L lo ((T, .obj (tupO vs)) :: led) s' → Q (.ref T) s') : wpAny (model prog w) A (call (.type "tuple") [.ref m]) Q E s := by
  obtain ⟨t, it, hm, h1, h2, h3, hmp, ht, hli⟩ := M
  have hno := ho t it hli hmp ht
  have hitlt : it < s.heap.objs.size := by obtain ⟨_, e, _⟩ := hli; exact Heap.lt_size e
  have keepg : ∀ b o, g.get? b = some o → b ≠ it := fun b o e q => hno (.inr (.inl ⟨o, q ▸ e⟩))
  refine wpAny_with_toks (n := 1) H.tk (call_tuple_map (walks_map (mg := mg) (mb := mb) hmp ht hl h1 h2 h3 hitlt (A := A.in1.in1.in1) ⟨hr.hh, by have := hr.dp; show A.depth + 2 ≤ 900; exact Mine.lc [A.depth] [(1, .a (.v 0) (.n 3), .n 900)] (1, .a (.v 0) (.n 2), .n 900) rfl this, by have := hr.un; show A.units + 1 + 1 + 1 + 10 * 2 ≤ 9000; exact Mine.lc [A.units] [(1, .a (.v 0) (.m 10 (.n 3)), .n 9000)] (1, .a (.a (.a (.a (.v 0) (.n 1)) (.n 1)) (.n 1)) (.m 10 (.n 2)), .n 9000) rfl this⟩
    (fun h₂ k₂ => H.cx.keeps fun b o e => k₂ _ _ (keepg b o e) (H.fs.keep _ _ e)) hvs) (fun i s₁ h₁ => ⟨_, h₁.1 _ _ (Ne.symm h1) hmp, rfl⟩) ⟨fun b o _ e => e, hli, H.tk⟩ (fun b hb => List.mem_range.mp hb) (List.mem_range.mpr hm) (fun s' acc hmv hi htk => ?_) hz)
  have e : acc = vs.toArray := by
    refine Array.ext_getElem? fun j => ?_
    by_cases hj : j < vs.length
    · have hj' : j < acc.size := by rw [hi.1]; exact hj
      have := hi.2 j _ (Array.getElem?_eq_getElem hj')
      rw [Array.getElem?_eq_getElem hj']; simpa using this.symm
    · rw [Array.getElem?_eq_none (by rw [hi.1]; exact Mine.lc [vs.length, j] [(1, .v 0, .v 1)] (1, .v 0, .v 1) rfl (Nat.le_of_not_lt hj)), Array.getElem?_eq_none (by simpa using hj)]
  have H2 := H.movedG (s' := s') hmv.drawn hmv.os (fun b o e hb => hmv.heap b o (fun q => hno (List.mem_singleton.mp q ▸ hb)) e) htk
  have eg : ({ s₀ with gens := s'.gens } : Shared) = s₀ := by
    have g1 : s'.gens = s.gens := hmv.gens
    obtain ⟨h', tk', e'⟩ := H.eq
    rw [g1, e']
  rw [eg] at H2
  rw [e]
  exact h _ _ (H2.pushed _ (.obj (tupO vs)) (Heap.get?_push_size _ rfl) _ htk)
end
theorem SetL.uniq {x : Str} {v : Value} {l l₁ l₂ : List (Str × Value)} (a : SetL x v l l₁) (b : SetL x v l l₂) : l₁ = l₂ := by
  induction a generalizing l₂ with
  | nil => cases b; rfl
  | head =>
    cases b with
    | head => rfl
    | tail h _ => exact absurd rfl h
  | tail h a ih =>
    cases b with
    | head => exact absurd rfl h
    | tail _ b => rw [ih b]
theorem St.basedO {w : World} {mg mb : Str → Option Value} {s₀ s : Shared} {g : Heap} {L : Addr} {lo : List (Str × Value)} {led led' : List (Addr × Ent)} {l : Addr} {o : Obj}
    (H : St w mg mb s₀ g L lo led s) (hs : led'.Sublist led) (hm : (l, Ent.obj o) ∈ led) (hn : l ∉ led'.map (·.1)) :
    ∃ g', (∀ b o, g.get? b = some o → g'.get? b = some o) ∧ St w mg mb s₀ g' L lo led' s ∧ g'.get? l = some o := by
  obtain ⟨g', h1, h2, h3⟩ := H.rebase hs
  exact ⟨g', h1, h2, h3 _ _ (H.obj hm) (H.fs.ok _ hm).2.1 hn⟩
theorem St.basedR {w : World} {mg mb : Str → Option Value} {s₀ s : Shared} {g : Heap} {L : Addr} {lo : List (Str × Value)} {led led' : List (Addr × Ent)}
    (H : St w mg mb s₀ g L lo led s) (hs : led'.Sublist led) :
    ∃ g', (∀ b o, g.get? b = some o → g'.get? b = some o) ∧ St w mg mb s₀ g' L lo led' s ∧ (∀ l vs, (l, Ent.lst vs) ∈ led → l ∉ led'.map (·.1) → g'.PlainList l vs.toArray) ∧ (∀ l o, (l, Ent.obj o) ∈ led → l ∉ led'.map (·.1) → g'.get? l = some o) := by
  obtain ⟨g', h1, h2, h3⟩ := H.rebase hs
  refine ⟨g', h1, h2, fun l vs hm hn => ?_, fun l o hm hn => h3 _ _ (H.obj hm) (H.fs.ok _ hm).2.1 hn⟩
  obtain ⟨n, e⟩ := H.pl hm
  exact ⟨n, h3 _ _ e (H.fs.ok _ hm).2.1 hn⟩
section
variable {prog : Program} {w : World} {mg mb : Str → Option Value} {s₀ s : Shared} {g : Heap} {L : Addr} {lo lo' : List (Str × Value)} {led led' : List (Addr × Ent)} {A : Around} {E : Value → Shared → Prop}
  {x : Str} {px pos : Pos} {elt iter : Expr} {ifs : List Expr} {scope : Scope} {n : Nat} {P : Nat → Value → Prop} {env : Env} {cl : List (Str × Addr)} {l : Addr} {vs : List Value}
theorem compB_ {y : Str} {py spos : Pos} {Q : Flow → Shared → Prop} {lof : Value → List (Str × Value)} (hsz : n ≤ sizeLine) (hclos : closureFor scope env = pure cl) (hcell : ∀ y ∈ scope.names, y.2 ≠ .cell) (hkind : scope.kind = .function)
    (hnames : ∀ y ∈ scope.names, y.2 = .local → scope.names.lookup y.1 = some .local) (hx : ∀ C, (compEnvC scope cl C env).kindOf x = some .local)
    (Inv : Nat → Shared → List Value → List (Addr × Ent) → Prop) (h0 : Inv 0 s₀ [] led)
    (hi : wpAny (model prog w) A (eval iter env) (fun xv s₁ => wpAny (model prog w) A (pyIter xv) (fun it s₂ => St w mg mb s₀ g L lo led s₂ ∧ WalkAt prog w A g L led n P it s₂) E s₁) E s)
    (turn : ∀ C D oL i v s₀₁ ys led₁ its s₁, i < n → P i v → Inv i s₀₁ ys led₁ → St w mg mb s₀₁ g C [(x, v)] ((D, .lst ys) :: (L, .obj oL) :: (led₁ ++ its)) s₁ →
      wpAny (model prog w) A (testsOf ifs (compEnvC scope cl C env)) (fun ok s₂ => if ok = true then
          wpAny (model prog w) A (eval elt (compEnvC scope cl C env)) (fun y s₃ => ∃ s₀₃ led₃ lo₃, Inv (i + 1) s₀₃ (ys ++ [y]) led₃ ∧ St w mg mb s₀₃ g C lo₃ ((D, .lst ys) :: (L, .obj oL) :: (led₃ ++ its)) s₃) (fun _ _ => False) s₂
        else ∃ s₀₃ led₃ lo₃, Inv (i + 1) s₀₃ ys led₃ ∧ St w mg mb s₀₃ g C lo₃ ((D, .lst ys) :: (L, .obj oL) :: (led₃ ++ its)) s₂) (fun _ _ => False) s₁)
    (hlo : ∀ v, SetL y v lo (lof v))
    (done : ∀ D s₀₁ ys led₁ s₁, Inv n s₀₁ ys led₁ → St w mg mb s₀₁ g L (lof (.ref D)) ((D, .lst ys) :: led₁) s₁ → Q .next s₁)
    (hsw : swapsWith (.ListComp elt [⟨.Name x px, iter, ifs, 0⟩] scope pos) (some (.Name y py)) spos.line env = pure true := by rfl)
    (hy : env.kindOf y = some .local := by rfl) (hL : env.locals = L := by rfl)
    (hp : (env.scope.kind == .class || (env.scope.kind == .module && env.locals != env.globals)) = false := by rfl)
    (hs : ∀ x, foldedSetIterable iter env x = pure x := by intro _; rfl) :
    wpAny (model prog w) A (exec (.Assign [.Name y py] (.ListComp elt [⟨.Name x px, iter, ifs, 0⟩] scope pos) spos) env) Q E s :=
  compA_ hsz hclos hcell hkind hnames hx Inv h0 hi turn (fun D s₀₁ ys led₁ lo₁ s₁ hI hS H => done D s₀₁ ys led₁ s₁ hI (SetL.uniq hS (hlo _) ▸ H)) (fun v => ⟨_, hlo v⟩) hsw hy hL hp hs
end


end
section
section
variable {prog : Program} {w : World} {mg mb : Str → Option Value} {s₀ s : Shared} {g : Heap} {L : Addr} {lo : List (Str × Value)} {led : List (Addr × Ent)} {A : Around} {E : Value → Shared → Prop} {t u : Tok} {m n : Nat} {Q : Value → Shared → Prop}
theorem min2_ (H : St w mg mb s₀ g L lo led s) (hh : A.handled = none) (h : ∀ t s', St w mg mb s₀ g L lo led s' → Q (.int (min m n : Nat) t) s') :
    wpAny (model prog w) A (call (.builtin "min") [.int (m : Nat) t, .int (n : Nat) u]) Q E s := by
  refine wpAny_with_toks (n := 1) H.tk (min_two_ints hh fun h' tk hk htk => ?_)
  have H' := H.moved (s' := { s with heap := h', toks := tk }) ⟨h', tk, rfl, hk⟩ htk
  by_cases c : (n : Int) < m
  · rw [if_pos c]
    have := h u _ H'
    rwa [Nat.min_eq_right (by omega)] at this
  · rw [if_neg c]
    have := h t _ H'
    rwa [Nat.min_eq_left (by omega)] at this
end
theorem tvg {ps : List (List Nat × Tok)} {k : Nat} (h : k < ps.length) : (tv ps)[((k : Nat) : Int).toNat]? = some (.str (S ps[k].1) ps[k].2) := by simp [tv, h]
theorem nin2_ {prog : Program} {w : World} {mg mb : Str → Option Value} {s₀ s : Shared} {g : Heap} {L : Addr} {lo : List (Str × Value)} {led : List (Addr × Ent)} {A : Around} {E : Value → Shared → Prop} {x a b : Str} {t u v : Tok} {l : Addr} {Q : Value → Shared → Prop}
    (H : St w mg mb s₀ g L lo led s) (hm : (l, Ent.obj (tupO [.str a u, .str b v])) ∈ led) (h : Q (.bool (!([a, b].any (· == x)))) s) :
    wpAny (model prog w) A (compareOp .NotIn (.str x t) (.ref l)) Q E s :=
  notin_tuple_strs (items := #[.str a u, .str b v]) ⟨_, H.obj hm, rfl, _, rfl⟩ (.cons _ _ (.cons _ _ .nil)) h


end
local macro_rules | `(tactic| walk_at "call builtin:min") => `(tactic| (refine min2_ (by walk_at "my:st") (by walk_at "my:hh") ?_; walk_at "my:i"))
section
theorem rs1 (n : Nat) : Builtin.Range.rangeSize 0 (n : Int) 1 = n := by
  unfold Builtin.Range.rangeSize
  simp
  intro h; rw [h]; rfl
theorem small1 {n : Nat} (h : n ≤ 1000000) : Builtin.Range.small 0 (n : Int) 1 = true := by
  unfold Builtin.Range.small
  rw [rs1]
  unfold Builtin.Range.rangeFitsLong
  simp
  omega
section
variable {prog : Program} {w : World} {mg mb : Str → Option Value} {s₀ s : Shared} {g : Heap} {L : Addr} {lo : List (Str × Value)} {led : List (Addr × Ent)} {A : Around} {E : Value → Shared → Prop} {n : Nat} {t u v : Tok} {Q : Value → Shared → Prop} {r : Addr}
noncomputable abbrev rngO (n : Nat) (t u v : Tok) : Obj := { cls := .type "range", dict := none, data := .fields #[.int 0 t, .int (n : Nat) u, .int 1 v], slots := #[] }
theorem range1_ (H : St w mg mb s₀ g L lo led s) (h : ∀ r t' v' s', St w mg mb s₀ g L lo ((r, .obj (rngO n t' t v')) :: led) s' → Q (.ref r) s') : wpAny (model prog w) A (call (.type "range") [.int (n : Nat) t]) Q E s :=
  call_range_1 (h _ _ _ _ (H.pushed _ (.obj _) (Heap.get?_push_size _ rfl) _ (Nat.le_succ_of_le (Nat.le_succ_of_le H.tk))))
theorem itR_ (hh : A.handled = none) (H : St w mg mb s₀ g L lo led s) (hm : (r, Ent.obj (rngO n t u v)) ∈ led) (hn : n ≤ 1000000)
    (h : ∀ it s', St w mg mb s₀ g L lo led s' → WalkAt prog w A g L led n (fun i v => ∃ t, v = .int (i : Nat) t) it s' → Q it s') : wpAny (model prog w) A (pyIter (.ref r)) Q E s := by
  obtain ⟨f1, f2, f3⟩ := H.fresh
  refine wpAny_pyIter_range (H.obj hm) (small1 hn) ?_
  rw [rs1]
  have W := Walks.range (prog := prog) (w := w) hh s.heap.objs.size 0 1 n
  rw [show (fun (i : Nat) (v : Value) => ∃ t, v = Value.int (0 + (i : Int) * 1) t) = fun i v => ∃ t, v = .int (i : Nat) t from by funext i v; simp] at W
  refine h _ _ (H.moved ⟨_, _, rfl, fun b o e => Heap.get?_push_of_some _ e⟩ H.tk) ⟨_, _, _, _, rfl, W, by simp, ?_, ?_, ?_, ?_, ?_⟩
  · intro b hb
    rw [List.mem_singleton.mp hb]; exact ⟨f1, f2, by rw [Heap.size_push]; exact Nat.lt_succ_self _⟩
  · intro b hb
    exact .inl hb
  · intro i h hst b hb
    rw [List.mem_singleton.mp hb]
    exact ⟨_, hst⟩
  · intro p hp hm
    rw [List.mem_singleton] at hm
    exact f3 (List.mem_map.mpr ⟨p, hp, hm⟩)
  · have := Heap.get?_push_size s.heap (o := { cls := .type "range_iterator", data := .fields #[rawInt 0, rawInt (n : Int), rawInt 1] }) rfl
    simpa using this
end
theorem forA_ {prog : Program} {w : World} {mg mb : Str → Option Value} {s₀ s : Shared} {g : Heap} {L : Addr} {lo : List (Str × Value)} {led : List (Addr × Ent)} {A : Around} {Q : Flow → Shared → Prop} {env : Env} {target : Expr} {body : List Stmt} {n : Nat} {P : Nat → Value → Prop} {it : Value}
    (H : St w mg mb s₀ g L lo led s) (W : WalkAt prog w A g L led n P it s) (Inv : Nat → List (Str × Value) → List (Addr × Ent) → Prop) (h0 : Inv 0 lo led)
    (turn : ∀ i v lo₁ led₁ its s₁, i < n → P i v → Inv i lo₁ led₁ → St w mg mb s₀ g L lo₁ (led₁ ++ its) s₁ →
      wpAny (model prog w) A (assign target env v) (fun _ s₂ => wpAny (model prog w) A (execs body env) (fun f s₃ => match f with
        | .next | .cont => ∃ lo₃ led₃, Inv (i + 1) lo₃ led₃ ∧ St w mg mb s₀ g L lo₃ (led₃ ++ its) s₃
        | .brk => Q .next s₃
        | .ret v => Q (.ret v) s₃) (fun _ _ => False) s₂) (fun _ _ => False) s₁)
    (done : ∀ lo₁ led₁ s₁, Inv n lo₁ led₁ → St w mg mb s₀ g L lo₁ led₁ s₁ → Q .next s₁)
    (ht : ∀ I v, letOwnedTupleGo target (.ref I) v = pure () := by intro _ _; rfl) :
    codeAny (model prog w) A (.forLoop target it body [] env) (fun r s' => match r with | .ok f => Q f s' | .error _ => False) s := by
  obtain ⟨I, fp, wr, Sti, rfl, W, hnd, hwr, hfp, hex, hdis, hst⟩ := W
  exact forW_ W hnd (fun b hb => ⟨(hwr b hb).1, (hwr b hb).2.1⟩) hfp hex Inv H h0 hdis hst turn done (ht I)


end
section
section
variable {prog : Program} {w : World} {mg mb : Str → Option Value} {s : Shared} {A : Around} {E : Value → Shared → Prop} {Q : Value → Shared → Prop} {t : Tok}
theorem dir_facts {x : Str} {h tl : List Nat} (hx : x = S (h ++ 47 :: tl)) (ht : 47 ∉ tl) (hn : NoEnd h) :
    Txt.slice x none (some (Txt.rfind x (Str.ofString "/") + 1)) = S (h ++ [47]) ∧ Txt.slice x (some (Txt.rfind x (Str.ofString "/") + 1)) none = S tl := by
  subst hx
  rw [slash_, rfind_S h tl 47 ht]
  refine ⟨?_, ?_⟩
  · rw [sl_to (n := h.length + 1) _ (by rfl)]
    refine congrArg S ?_
    rw [List.take_append, List.take_of_length_le (by exact Mine.lc [h.length] [] (1, .v 0, .a (.v 0) (.n 1)) rfl)]
    simp
  · rw [sl_from (n := h.length + 1) _ (by rfl)]
    refine congrArg S ?_
    rw [List.drop_append]
    simp
theorem dirname_ {x : Str} {h tl : List Nat} (C : Cx w mg mb s.heap) (hr : Room A 2) (hts : 1 ≤ s.toks) (hx : x = S (h ++ 47 :: tl)) (ht : 47 ∉ tl) (hn : NoEnd h) (hz : x.length ≤ 1000000)
    (hQ : ∀ s' t', Keeps s s' → 1 ≤ s'.toks → Q (.str (S (dirF h)) t') s') :
    wpAny (model prog w) A (call (.ref 150) [.str x t]) Q E s := by
  have hz' : x.length ≤ sizeLine := Nat.le_trans hz (Nat.le_of_ble_eq_true rfl)
  obtain ⟨e1, -⟩ := dir_facts hx ht hn
  clear hx
  refine enter_ (binds := [(Str.ofString "p", .str x t)]) (lo := [(Str.ofString "p", .str x t)]) C hr hts (by rfl) (by rfl) (by rfl) (by rfl) (by rfl) ?_ (by decide) rfl rfl rfl
  intro L s' H R
  walk_at "my:go"
  · rename (_ != _) = true => c
    rw [e1, slash_] at c
    rw [S_len, mul_S] at c
    rw [e1, slash_, rstripC_S, dirF_strip hn (fun e => (bne_iff_ne.mp c) (congrArg S e))]
    exact hQ _ _ (by walk_at "my:end") (by walk_at "my:end")
  · rename (_ != _) = false => c
    rw [e1, slash_, S_len, mul_S] at c
    rw [e1, dirF_same hn (S_inj (bne_eq_false_iff_eq.mp c))]
    exact hQ _ _ (by walk_at "my:end") (by walk_at "my:end")
  · rename (_ : Int) = 0 => c
    rw [e1, S_len] at c
    simp at c
    omega
theorem split_ {x : Str} {h tl : List Nat} (C : Cx w mg mb s.heap) (hr : Room A 2) (hts : 1 ≤ s.toks) (hx : x = S (h ++ 47 :: tl)) (ht : 47 ∉ tl) (hn : NoEnd h) (hz : x.length ≤ 1000000)
    (hQ : ∀ s' a t1 t2, Keeps s s' → s.heap.get? a = none → s'.heap.get? a = some (tupO [.str (S (dirF h)) t1, .str (S tl) t2]) → 1 ≤ s'.toks → Q (.ref a) s') :
    wpAny (model prog w) A (call (.ref 136) [.str x t]) Q E s := by
  have hz' : x.length ≤ sizeLine := Nat.le_trans hz (Nat.le_of_ble_eq_true rfl)
  obtain ⟨e1, e2⟩ := dir_facts hx ht hn
  clear hx
  refine enter_ (binds := [(Str.ofString "p", .str x t)]) (lo := [(Str.ofString "p", .str x t)]) C hr hts (by rfl) (by rfl) (by rfl) (by rfl) (by rfl) ?_ (by decide) rfl rfl rfl
  intro L s' H R
  walk_at "my:go"
  · rename (_ != _) = true => c
    rw [e1, slash_, S_len, mul_S] at c
    rw [show S (dirF h) = Txt.rstripChars (Txt.slice x none (some (Txt.rfind x (Str.ofString "/") + 1))) (Str.ofString "/") from by
      rw [e1, slash_, rstripC_S, dirF_strip hn (fun e => (bne_iff_ne.mp c) (congrArg S e))], ← e2] at hQ
    exact hQ _ _ _ _ (by walk_at "my:end") (by walk_at "my:end") (by walk_at "my:end") (by walk_at "my:end")
  · rename (_ != _) = false => c
    rw [e1, slash_, S_len, mul_S] at c
    rw [show S (dirF h) = Txt.slice x none (some (Txt.rfind x (Str.ofString "/") + 1)) from by
      rw [e1, dirF_same hn (S_inj (bne_eq_false_iff_eq.mp c))], ← e2] at hQ
    exact hQ _ _ _ _ (by walk_at "my:end") (by walk_at "my:end") (by walk_at "my:end") (by walk_at "my:end")
  · rename (_ : Int) = 0 => c
    rw [e1, S_len] at c
    simp at c
    omega
end

end
section
local macro_rules | `(tactic| walk_at "my:zz") => `(tactic| skip)
section
variable {prog : Program} {w : World} {mg mb : Str → Option Value} {s : Shared} {A : Around} {E : Value → Shared → Prop} {Q : Value → Shared → Prop} {t : Tok}
theorem splitroot_ {x : Str} {r : List Nat} (C : Cx w mg mb s.heap) (hr : Room A 2) (hts : 1 ≤ s.toks) (hx : x = S (47 :: r)) (hn : r.head? ≠ some 47) (hz : x.length ≤ 1000000)
    (hQ : ∀ s' a t1 t2 t3, Keeps s s' → s.heap.get? a = none → s'.heap.get? a = some (tupO [.str (Str.ofString "") t1, .str (Str.ofString "/") t2, .str (S r) t3]) → 1 ≤ s'.toks → Q (.ref a) s') :
    wpAny (model prog w) A (call (.ref 143) [.str x t]) Q E s := by
  have hz' : x.length ≤ sizeLine := Nat.le_trans hz (Nat.le_of_ble_eq_true rfl)
  have e1 : Txt.slice x none (some 1) = S [47] := by rw [hx]; exact sl_to (n := 1) _ rfl
  have e2 : Txt.slice x (some 1) none = S r := by rw [hx]; exact sl_from (n := 1) _ rfl
  have e3 : Txt.slice x (some 1) (some 2) ≠ S [47] := by
    rw [hx, show Txt.slice (S (47 :: r)) (some 1) (some 2) = _ from sl_ab (a := 1) (b := 2) _ rfl rfl (by decide)]
    intro e
    have := S_inj e
    cases r with
    | nil => simp at this
    | cons a r => simp at this; exact hn (by simp [this])
  have c1 : (Txt.slice x none (some 1) != Str.ofString "/") = false := by rw [e1, slash_]; exact bne_self_eq_false _
  have c2 : (Txt.slice x (some 1) (some 2) != Str.ofString "/") = true := by rw [slash_]; exact bne_iff_ne.mpr e3
  rw [← e2] at hQ
  clear hx e1 e2 e3
  refine enter_ (binds := [(Str.ofString "p", .str x t)]) (lo := [(Str.ofString "p", .str x t)]) C hr hts (by rfl) (by rfl) (by rfl) (by rfl) (by rfl) ?_ (by decide) rfl rfl rfl
  intro L s' H R
  walk_at "my:go"
  exact hQ _ _ _ _ _ (by walk_at "my:end") (by walk_at "my:end") (by walk_at "my:end") (by walk_at "my:end")
end

end
local macro_rules | `(tactic| walk_at "call ref") => `(tactic| ((with_reducible show wpAny _ _ (call (Value.ref 143) _) _ _ _); rename St .. => hOld; refine splitroot_ (by walk_at "my:cx") (by walk_at "my:room") (by walk_at "my:tk") (by with_reducible assumption) (by with_reducible assumption) (by walk_at "my:sz") ?_; intro sX aX tX1 tX2 tX3 kX fX oX htX; have hX := St.adopt (e := .obj _) (by walk_at "my:st") kX fX oX htX; clear kX fX oX htX hOld))
section
local macro_rules | `(tactic| walk_at "my:zz") => `(tactic| skip)
section
variable {prog : Program} {w : World} {mg mb : Str → Option Value} {s : Shared} {A : Around} {E : Value → Shared → Prop} {Q : Value → Shared → Prop} {t : Tok}
theorem joinp_ {x : List Nat} {ps : List (List Nat × Tok)} (C : Cx w mg mb s.heap) (hr : Room A 2) (hts : 1 ≤ s.toks) (hx : x ≠ []) (hb : ∀ p ∈ ps, p.1.head? ≠ some 47) (hz : x.length + tot (ps.map (·.1)) ≤ 1000000)
    (hQ : ∀ s' t', Keeps s s' → 1 ≤ s'.toks → Q (.str (S (joinF x (ps.map (·.1)))) t') s') :
    wpAny (model prog w) A (call (.ref 129) (.str (S x) t :: tv ps)) Q E s := by
  refine enterV_ (ps := tv ps) (binds := fun l => [(Str.ofString "a", .str (S x) t), (Str.ofString "p", l)]) (lo := fun l => [(Str.ofString "p", .ref l), (Str.ofString "a", .str (S x) t)]) C hr hts (by rfl) (by rfl) ?_ ?_ (fun _ => by rfl) (fun _ => by rfl) ?_ (by decide) rfl rfl rfl
  · show (tv ps).length ≤ sizeLine
    rw [tv, List.length_map]
    have := len_tot (ps.map (·.1))
    rw [List.length_map] at this
    exact Nat.le_trans (by exact Mine.lc [x.length, tot (List.map (Prod.fst) ps), ps.length] [(1, .a (.v 0) (.v 1), .n 1000000), (1, .v 2, .v 1)] (1, .v 2, .n 1000000) rfl hz this) (show 1000000 ≤ sizeLine from Nat.le_of_ble_eq_true rfl)
  · unfold bindArgs
    simp only [fnOf, Option.isNone_some, Bool.and_false, Bool.false_eq_true, if_false, List.forIn_nil, pure_bind, show seqItems? Value.none = pure none from rfl]
    rfl
  intro a g L s' hk1 hfr ha H R
  have h100 : (1000000 : Nat) ≤ sizeLine := Nat.le_of_ble_eq_true rfl
  have hsz : (S x).length ≤ sizeLine := by rw [S_len]; exact Mine.lc [x.length, tot (List.map (Prod.fst) ps), sizeLine] [(1, .a (.v 0) (.v 1), .n 1000000), (1, .n 1000000, .v 2)] (1, .v 0, .v 2) rfl hz h100
  walk_at "my:go"
  refine Try_ ?_
  walk_at "my:go"
  refine For_ ?_
  walk1
  refine forT_ (Room.hh (by with_reducible assumption)) (by walk_at "my:st") ha (fun i lo led => ∃ t' ts, lo = [(Str.ofString "p", .ref a), (Str.ofString "a", .str (S x) t), (Str.ofString "sep", .str (Str.ofString "/") ts), (Str.ofString "path", .str (S (joinF x ((ps.map (·.1)).take i))) t')] ∧ led = []) ?_ ?_ ?_
  · exact ⟨_, _, rfl, rfl⟩
  · intro i v lo₁ led₁ its s₁ hv hI H₁
    obtain ⟨t', ts, rfl, rfl⟩ := hI
    obtain ⟨b, u, rfl, hb1, hb2⟩ := tv_get hv
    have hne := joinF_ne ((ps.map (·.1)).take i) x hx
    have hl1 := joinF_len ((ps.map (·.1)).take i) x
    have hl2 := tot_take_le hb1
    have e := joinF_snoc x ((ps.map (·.1)).take i) b
    rw [← take_snoc hb1] at e
    revert H₁
    generalize joinF x ((ps.map (·.1)).take i) = y at *
    generalize (ps.map (·.1)).take i = pre at *
    intro H₁
    rw [List.nil_append] at H₁
    have z1 : (S y).length ≤ 1000000 := by rw [S_len]; exact Mine.lc [x.length, tot (List.map (Prod.fst) ps), tot pre, b.length, y.length] [(1, .a (.v 0) (.v 1), .n 1000000), (1, .a (.v 2) (.a (.v 3) (.n 1)), .v 1), (1, .v 4, .a (.v 0) (.v 2))] (1, .v 4, .n 1000000) rfl hz hl2 hl1
    have z2 : (S b).length ≤ 1000000 := by rw [S_len]; exact Mine.lc [x.length, tot (List.map (Prod.fst) ps), tot pre, b.length] [(1, .a (.v 0) (.v 1), .n 1000000), (1, .a (.v 2) (.a (.v 3) (.n 1)), .v 1)] (1, .v 3, .n 1000000) rfl hz hl2
    have z3 : (S y).length + ((Str.ofString "/").length + (S b).length) ≤ sizeLine := by rw [slash_, S_len, S_len, S_len]; simp; exact Mine.lc [x.length, tot (List.map (Prod.fst) ps), sizeLine, tot pre, b.length, y.length] [(1, .a (.v 0) (.v 1), .n 1000000), (1, .n 1000000, .v 2), (1, .a (.v 3) (.a (.v 4) (.n 1)), .v 1), (1, .v 5, .a (.v 0) (.v 3))] (1, .a (.v 5) (.a (.n 1) (.v 4)), .v 2) rfl hz h100 hl2 hl1
    have z4 : (Str.ofString "/" ++ S b).length = 1 + (S b).length := by rw [slash_, S_app, S_len, S_len]; simp; exact Nat.le_antisymm (Mine.lc [b.length] [] (1, .a (.v 0) (.n 1), .a (.n 1) (.v 0)) rfl ) (Mine.lc [b.length] [] (1, .a (.n 1) (.v 0), .a (.v 0) (.n 1)) rfl )
    have c1 : Txt.startswith (S b) (Str.ofString "/") = false := by rw [slash_, starts_S]; exact decide_eq_false (by obtain ⟨p, hp, rfl⟩ := hb2; exact hb p hp)
    have c2 : (((S y).length : Int) != 0) = true := by rw [S_len]; exact bne_iff_ne.mpr (by have := List.length_pos_iff.mpr hne; omega)
    cases c3 : Txt.endswith (S y) (Str.ofString "/")
    · have e3 : S (joinStep y b) = S y ++ (Str.ofString "/" ++ S b) := by
        rw [slash_, ends_S] at c3
        rw [slash_, S_app, S_app, joinStep, if_neg (of_decide_eq_false c3)]; rfl
      walk_at "my:go"
      refine' ⟨_, _, ⟨?tt, ?uu, rfl, rfl⟩, St.front (r := [(Str.ofString "b", ?vv)]) ?zz⟩
      case zz =>
        rw [e, e3]
        walk_at "my:inv"
    · have e3 : S (joinStep y b) = S y ++ S b := by
        rw [slash_, ends_S] at c3
        rw [S_app, joinStep, if_pos (of_decide_eq_true c3)]
      walk_at "my:go"
      refine' ⟨_, _, ⟨?tt2, ?uu2, rfl, rfl⟩, St.front (r := [(Str.ofString "b", ?vv2)]) ?zz2⟩
      case zz2 =>
        rw [e, e3]
        walk_at "my:inv"
  · rintro lo₁ led₁ s₁ ⟨t', ts, rfl, rfl⟩ H₁
    rw [show (tv ps).length = (ps.map (·.1)).length from by simp [tv], List.take_length] at H₁
    walk_at "my:go"
    exact hQ _ _ (by walk_at "my:end") (by walk_at "my:end")
end

end
section
section
variable {prog : Program} {w : World} {mg mb : Str → Option Value} {s : Shared} {A : Around} {E : Value → Shared → Prop} {Q : Value → Shared → Prop} {t : Tok}
theorem dot_ : Str.ofString "." = S [46] := by decide +kernel
theorem ddot_ : Str.ofString ".." = S [46, 46] := by decide +kernel
theorem S_beq (a b : List Nat) : (S a == S b) = decide (a = b) := by
  by_cases h : a = b
  · subst h; simp
  · rw [decide_eq_false h]; exact beq_eq_false_iff_ne.mpr fun e => h (S_inj e)
theorem S_bne (a b : List Nat) : (S a != S b) = !decide (a = b) := by unfold bne; rw [S_beq]
theorem normpath_ {x : Str} {r : List Nat} (C : Cx w mg mb s.heap) (hr : Room A 3) (hts : 1 ≤ s.toks) (hx : x = S (47 :: r)) (hn : r.head? ≠ some 47) (hz : x.length ≤ 900000)
    (hQ : ∀ s' t', Keeps s s' → 1 ≤ s'.toks → Q (.str (S (47 :: inter [47] (normF (sp 47 r)))) t') s') :
    wpAny (model prog w) A (call (.ref 157) [.str x t]) Q E s := by
  have hz' : x.length ≤ sizeLine := Nat.le_trans hz (Nat.le_of_ble_eq_true rfl)
  have hz1 : x.length ≤ 1000000 := Nat.le_trans hz (Nat.le_of_ble_eq_true rfl)
  have hz2 : (S r).length ≤ 1000000 := by rw [hx, S_len] at hz; rw [S_len]; simp at hz; exact Mine.lc [r.length] [(1, .v 0, .n 899999)] (1, .v 0, .n 1000000) rfl hz
  have c1 : ((x.length : Int) != 0) = true := by rw [hx, S_len]; exact bne_iff_ne.mpr (by simp; omega)
  refine enter_ (binds := [(Str.ofString "path", .str x t)]) (lo := [(Str.ofString "path", .str x t)]) C hr hts (by rfl) (by rfl) (by rfl) (by rfl) (by rfl) ?_ (by decide) rfl rfl rfl
  intro L s' H R
  walk_at "my:go"
  rename_i ps D s3 eD s2 N s1 s0 HX
  obtain ⟨g', hg, HR, hD⟩ := HX.based (led' := [(N, .lst [])]) (List.Sublist.cons₂ _ (List.nil_sublist _)) (.tail _ (.head _)) (by
    have nd := HX.fs.nd
    simp only [List.map_cons, List.map_nil, List.nodup_cons, List.mem_cons, not_or] at nd
    simp only [List.map_cons, List.map_nil, List.mem_singleton]
    exact fun e => nd.1.1 e.symm)
  clear HX
  have hpl : ps.length ≤ x.length := by
    have e1 := congrArg List.length eD
    have e2 := len_tot (sp 47 r)
    rw [tot_sp] at e2
    rw [List.length_map] at e1
    rw [hx, S_len, List.length_cons]
    exact Mine.lc [ps.length, (sp 47 r).length, r.length] [(1, .v 0, .v 1), (1, .v 1, .a (.v 2) (.n 1))] (1, .v 0, .a (.v 2) (.n 1)) rfl (Nat.le_of_eq e1) e2
  refine For_ ?_
  walk1
  refine forLf_ (Room.hh R) HR hD (fun i led => ∃ qs : List (List Nat × Tok), led = [(N, .lst (tv qs))] ∧ qs.length ≤ i ∧ qs.map (·.1) = normF ((sp 47 r).take i)) ⟨[], rfl, Nat.le_refl _, rfl⟩ ?_ ?_
  · intro i v led₁ its s₁ hv hI H₁
    obtain ⟨qs, rfl, hql, hq⟩ := hI
    rw [List.cons_append, List.nil_append] at H₁
    obtain ⟨c, u, rfl, hc1, -⟩ := tv_get hv
    have hi : i < ps.length := by
      have := (List.getElem?_eq_some_iff.mp hc1).1
      simpa using this
    rw [eD] at hc1
    have e := normF_snoc ((sp 47 r).take i) c
    rw [← take_snoc hc1, ← hq] at e
    have hcl : c.length ≤ 1000000 := by
      have := tot_take_le hc1
      rw [tot_sp] at this
      rw [S_len] at hz2
      exact Mine.lc [r.length, tot (List.take i (sp 47 r)), c.length] [(1, .v 0, .n 1000000), (1, .a (.v 1) (.a (.v 2) (.n 1)), .a (.v 0) (.n 1))] (1, .v 2, .n 1000000) rfl hz2 this
    have hcl : (S c).length ≤ 1000000 := by rw [S_len]; exact hcl
    have hql' : (tv qs).length ≤ 1000000 := by rw [tv_len]; exact Mine.lc [x.length, ps.length, qs.length, i] [(1, .v 0, .n 900000), (1, .v 1, .v 0), (1, .v 2, .v 3), (1, .a (.v 3) (.n 1), .v 1)] (1, .v 2, .n 1000000) rfl hz hpl hql hi
    clear hv
    by_cases k1 : c = []
    · have c2 : (((S c).length : Int) != 0) = false := by rw [S_len, k1]; rfl
      walk_at "my:go"
      try dsimp only
      refine' ⟨[(N, .lst (tv ?q1))], [?n1], ⟨_, rfl, Nat.le_succ_of_le hql, ?e1⟩, ?z1⟩
      case z1 => walk_at "my:inv"
      case e1 => rw [e, nstep, if_pos (.inl k1)]
    have c2 : (((S c).length : Int) != 0) = true := by rw [S_len]; exact bne_iff_ne.mpr (by have := List.length_pos_iff.mpr k1; omega)
    by_cases k2 : c = [46]
    · have c3 : (S c == Str.ofString ".") = true := by rw [dot_, S_beq]; exact decide_eq_true k2
      walk_at "my:go"
      try dsimp only
      refine' ⟨[(N, .lst (tv ?q2))], [?n2], ⟨_, rfl, Nat.le_succ_of_le hql, ?e2⟩, ?z2⟩
      case z2 => walk_at "my:inv"
      case e2 => rw [e, nstep, if_pos (.inr k2)]
    have c3 : (S c == Str.ofString ".") = false := by rw [dot_, S_beq]; exact decide_eq_false k2
    by_cases k3 : c = [46, 46]
    · have c4 : (S c != Str.ofString "..") = false := by rw [ddot_, S_bne]; simp [k3]
      rcases List.eq_nil_or_concat qs with k4 | ⟨qs', ⟨d, u'⟩, k4⟩
      · subst k4
        walk_at "my:go"
        try dsimp only
        refine' ⟨[(N, .lst (tv ?q4))], [?n4], ⟨_, rfl, Nat.le_succ_of_le hql, ?e4⟩, ?z4⟩
        case z4 => walk_at "my:inv"
        case e4 => rw [e, nstep, if_neg (not_or.mpr ⟨k1, k2⟩), if_pos k3]; rfl
      · subst k4
        rw [List.concat_eq_append, tv_snoc] at *
        have c5 : (S d == Str.ofString "..") = false := by
          have := normF_dd ((sp 47 r).take i) d (by rw [← hq]; simp)
          rw [ddot_, S_beq]; exact decide_eq_false this.1
        have c6 : (!(tv qs' ++ [Value.str (S d) u']).isEmpty) = true := by simp
        have c7 : (tv qs').length < sizeLine := by
          rw [tv_len]
          rw [List.length_append, tv_len] at hql'
          exact Nat.lt_of_lt_of_le (Nat.lt_of_le_of_lt (Nat.le_of_succ_le (m := 1000000) hql') (Nat.lt_succ_self _)) (Nat.le_of_ble_eq_true rfl)
        walk_at "my:go"
        try dsimp only
        refine' ⟨[(N, .lst (tv ?q5))], [?n5], ⟨_, rfl, ?f5, ?e5⟩, ?z5⟩
        case z5 => walk_at "my:inv"
        case f5 => rw [List.length_append] at hql; exact Nat.le_succ_of_le (Nat.le_of_succ_le hql)
        case e5 => rw [e, nstep, if_neg (not_or.mpr ⟨k1, k2⟩), if_pos k3, List.map_append]; simp
    · have c4 : (S c != Str.ofString "..") = true := by rw [ddot_, S_bne]; simp [k3]
      walk_at "my:go"
      try dsimp only
      refine' ⟨[(N, .lst (tv (qs ++ [(c, u)])))], [?n3], ⟨_, rfl, ?f3, ?e3⟩, ?z3⟩
      case f3 => rw [List.length_append]; exact Nat.succ_le_succ hql
      case z3 => rw [tv_snoc]; walk_at "my:inv"
      case e3 => rw [e, nstep, if_neg (not_or.mpr ⟨k1, k2⟩), if_neg k3, List.map_append]; rfl
  · rintro led₁ s₁ ⟨qs, rfl, hql, hq⟩ H₁
    have hqt : tot (qs.map (·.1)) ≤ 1000000 := by
      have e1 := normF_tot ((sp 47 r).take ps.length)
      rw [show ps.length = (sp 47 r).length from by rw [← eD]; simp, List.take_length, tot_sp] at e1
      rw [hq, tv_len, show ps.length = (sp 47 r).length from by rw [← eD]; simp, List.take_length]
      rw [hx, S_len, List.length_cons] at hz
      exact Mine.lc [r.length, tot (normF (sp 47 r))] [(1, .a (.v 0) (.n 1), .n 900000), (1, .v 1, .a (.v 0) (.n 1))] (1, .v 1, .n 1000000) rfl hz e1
    rw [tv_len, show ps.length = (sp 47 r).length from by rw [← eD]; simp, List.take_length] at hq
    have hil := inter_len (qs.map (·.1))
    have z9 : (Str.ofString "/").length + (S (inter [47] (qs.map (·.1)))).length ≤ sizeLine := by
      rw [slash_, S_len, S_len, sizeLine_eq]; simp; exact Mine.lc [tot (List.map (Prod.fst) qs), (inter [47] (List.map (Prod.fst) qs)).length] [(1, .v 0, .n 1000000), (1, .v 1, .v 0)] (1, .a (.n 1) (.v 1), .n 16777216) rfl hqt hil
    have z10 : (Str.ofString "/" ++ S (inter [47] (qs.map (·.1)))).length ≤ sizeLine := by
      rw [slash_, S_app, S_len, sizeLine_eq]; simp; exact Mine.lc [tot (List.map (Prod.fst) qs), (inter [47] (List.map (Prod.fst) qs)).length] [(1, .v 0, .n 1000000), (1, .v 1, .v 0)] (1, .v 1, .n 16777215) rfl hqt hil
    have z11 : (((Str.ofString "/" ++ S (inter [47] (qs.map (·.1)))).length : Int) != 0) = true := by
      rw [slash_, S_app, S_len]; exact bne_iff_ne.mpr (by simp; omega)
    walk_at "my:go"
    rw [slash_, S_app, hq]
    exact hQ _ _ (by walk_at "my:end") (by walk_at "my:end")
end

end
local macro_rules | `(tactic| walk_at "call ref") => `(tactic| ((with_reducible show wpAny _ _ (call (Value.ref 157) _) _ _ _); refine normpath_ (by walk_at "my:cx") (by walk_at "my:room") (by walk_at "my:tk") (by with_reducible assumption) (by with_reducible assumption) (by walk_at "my:sz") ?_; walk_at "my:mv"))
section
section
variable {prog : Program} {w : World} {mg mb : Str → Option Value} {s : Shared} {A : Around} {E : Value → Shared → Prop} {Q : Value → Shared → Prop} {t : Tok}
theorem abspath_ {x : Str} {r : List Nat} (C : Cx w mg mb s.heap) (hr : Room A 4) (hts : 1 ≤ s.toks) (hx : x = S (47 :: r)) (hn : r.head? ≠ some 47) (hz : x.length ≤ 900000)
    (hQ : ∀ s' t', Keeps s s' → 1 ≤ s'.toks → Q (.str (S (47 :: inter [47] (normF (sp 47 r)))) t') s') :
    wpAny (model prog w) A (call (.ref 164) [.str x t]) Q E s := by
  have c1 : Txt.startswith x (Str.ofString "/") = true := by rw [hx, slash_, starts_S]; rfl
  refine enter_ (binds := [(Str.ofString "path", .str x t)]) (lo := [(Str.ofString "path", .str x t)]) C hr hts (by rfl) (by rfl) (by rfl) (by rfl) (by rfl) ?_ (by decide) rfl rfl rfl
  intro L s' H R
  walk_at "my:go"
  exact hQ _ _ (by walk_at "my:end") (by walk_at "my:end")
end

end
local macro_rules | `(tactic| walk_at "call ref") => `(tactic| ((with_reducible show wpAny _ _ (call (Value.ref 164) _) _ _ _); refine abspath_ (by walk_at "my:cx") (by walk_at "my:room") (by walk_at "my:tk") (by with_reducible assumption) (by with_reducible assumption) (by walk_at "my:sz") ?_; walk_at "my:mv"))
section
section
variable {prog : Program} {w : World} {mg mb : Str → Option Value} {s₀ s : Shared} {g : Heap} {L : Addr} {lo : List (Str × Value)} {led : List (Addr × Ent)} {A : Around} {Q : Flow → Shared → Prop}
  {env : Env} {elts : List Expr} {kx : Nat} {pos : Pos} {body : List Stmt}
theorem forEf_ {l : Addr} {vs : List Value} (hh : A.handled = none) (H : St w mg mb s₀ g L lo led s) (hl : g.IsList l vs.toArray)
    (hn : (assignEach elts env).length = 2) (hstar : (assignEach elts env).findIdx? (·.1) = none)
    (Inv : Nat → Prop) (h0 : Inv 0)
    (turn : ∀ i t v its s₁, vs[i]? = some v → Inv i → St w mg mb s₀ g L lo (led ++ its) s₁ →
      wpAny (model prog w) A (assignInOrder ((assignEach elts env).map (·.2)) [.int i t, v]) (fun _ s₂ => wpAny (model prog w) A (execs body env) (fun f s₃ => match f with
        | .next | .cont => ∃ r, Inv (i + 1) ∧ St w mg mb s₀ g L (lo ++ r) (led ++ its) s₃
        | .brk => Q .next s₃
        | .ret v => Q (.ret v) s₃) (fun _ _ => False) s₂) (fun _ _ => False) s₁)
    (done : ∀ s₁, Inv vs.length → St w mg mb s₀ g L lo led s₁ → Q .next s₁) :
    wpAny (model prog w) A (call (.type "enumerate") [.ref l]) (fun x s₁ => wpAny (model prog w) A (pyIter x) (fun it s₂ => codeAny (model prog w) A (.forLoop (.Tuple elts kx pos) it body [] env) (fun r s' => match r with | .ok f => Q f s' | .error _ => False) s₂) (fun _ _ => False) s₁) (fun _ _ => False) s := by
  refine forE_ hh H hl hn hstar (fun i lo₁ led₁ => lo₁ = lo ∧ led₁ = led ∧ Inv i) ⟨rfl, rfl, h0⟩ ?_ ?_
  · rintro i t v lo₁ led₁ its s₁ hv ⟨rfl, rfl, hI⟩ H₁
    refine wpAny_mono (turn i t v its s₁ hv hI H₁) (fun _ s₂ h₂ => wpAny_mono h₂ (fun f s₃ h₃ => ?_) fun _ _ e => e) fun _ _ e => e
    cases f with
    | next => obtain ⟨r, h4, h5⟩ := h₃; exact ⟨_, _, ⟨rfl, rfl, h4⟩, h5.front⟩
    | cont => obtain ⟨r, h4, h5⟩ := h₃; exact ⟨_, _, ⟨rfl, rfl, h4⟩, h5.front⟩
    | brk => exact h₃
    | ret v => exact h₃
  · rintro lo₁ led₁ s₁ ⟨rfl, rfl, hI⟩ H₁
    exact done s₁ hI H₁
end
section
variable {prog : Program} {w : World} {mg mb : Str → Option Value} {s : Shared} {A : Around} {E : Value → Shared → Prop} {Q : Value → Shared → Prop} {t : Tok}
theorem cprefix_ {m : Addr} {ra rb : Row} (C : Cx w mg mb s.heap) (hr : Room A 3) (hts : 1 ≤ s.toks) (hm : s.heap.IsList m (rowsV [ra, rb]).toArray) (h1 : ∀ p ∈ [ra, rb], s.heap.PlainList p.1 (tv p.2).toArray) (hz : ∀ p ∈ [ra, rb], p.2.length ≤ 100000)
    (hQ : ∀ s' a (vs : List Value), Keeps s s' → s'.heap.IsList a vs.toArray → vs.length = shL ra.nm rb.nm → 1 ≤ s'.toks → Q (.ref a) s') :
    wpAny (model prog w) A (call (.ref 108) [.ref m]) Q E s := by
  have c1 : (!(rowsV [ra, rb]).isEmpty) = true := rfl
  have hra : s.heap.IsList ra.1 (tv ra.2).toArray := (h1 ra (.head _)).isList
  refine enter_ (binds := [(Str.ofString "m", .ref m)]) (lo := [(Str.ofString "m", .ref m)]) C hr hts (by rfl) (by rfl) (by rfl) (by rfl) (by rfl) ?_ (by decide) rfl rfl rfl
  intro L s' H R
  walk_at "my:go"
  rename St _ _ _ _ _ _ _ _ _ => HX
  refine minL_ HX R hm h1 (by simp) fun p s1 hp hpb H1 => ?_
  clear HX
  walk_at "my:go"
  rename St _ _ _ _ _ _ _ _ _ => HX
  refine maxL_ HX R hm h1 (by simp) fun q s2 hq hqb H2 => ?_
  clear HX
  walk_at "my:go"
  refine For_ ?_
  walk_at "my:go"
  rename St _ _ _ _ _ _ _ _ _ => HX
  have hpl := (h1 p hp).isList
  have hql := (h1 q hq).isList
  have e0 : shL p.nm q.nm = shL ra.nm rb.nm := by
    have k1 := hpb ra (.head _)
    have k2 := hpb rb (.tail _ (.head _))
    have k3 := hqb ra (.head _)
    have k4 := hqb rb (.tail _ (.head _))
    exact shL_two (by simpa using (by rcases List.mem_cons.mp hp with rfl | hp; exact .inl rfl; rw [List.mem_singleton.mp hp]; exact .inr rfl : p.nm = ra.nm ∨ p.nm = rb.nm)) (by rcases List.mem_cons.mp hq with rfl | hq; exact .inl rfl; rw [List.mem_singleton.mp hq]; exact .inr rfl) k1 k2 k3 k4
  have hpq := hpb q hq
  refine forEf_ R.hh HX hpl (by rfl) (by rfl) (fun i => p.nm.take i = q.nm.take i) rfl ?_ ?_
  · intro i ti v its s₃ hv hI H₃
    clear HX
    rw [List.cons_append, List.nil_append] at H₃
    obtain ⟨c, u, rfl, hc1, -⟩ := tv_get hv
    have hi : i < p.nm.length := (List.getElem?_eq_some_iff.mp hc1).1
    have hi2 : i < q.nm.length := ltT_len i _ _ hpq hI hi
    have hq0 : i < q.2.length := by simpa [Row.nm] using hi2
    have hqz := hz q hq
    have hq1 : (tv q.2)[((i : Nat) : Int).toNat]? = some (.str (S q.2[i].1) q.2[i].2) := by simp [tv, hq0]
    have hq2 : q.nm[i]? = some q.2[i].1 := by simp [Row.nm, hq0]
    generalize q.2[i].1 = d at hq1 hq2
    generalize q.2[i].2 = ud at hq1
    walk_at "my:go"
    refine item_ (St.blst (by walk_at "my:st") hql) (Int.natCast_nonneg _) (by exact Int.ofNat_lt.mpr (show i < 1000000 from Mine.lc [i, q.snd.length] [(1, .a (.v 0) (.n 1), .v 1), (1, .v 1, .n 100000)] (1, .a (.v 0) (.n 1), .n 1000000) rfl hq0 hqz)) hq1 ?_
    by_cases k : c = d
    · have c3 : (S c != S d) = false := by rw [S_bne]; simp [k]
      walk_at "my:go"
      refine' ⟨[?n1, ?n2], ?e1, ?z1⟩
      case z1 => walk_at "my:inv"
      case e1 => rw [List.take_add_one, List.take_add_one, hI, hq2, ← k]; rw [show p.nm[i]? = some c from hc1]
    · have c3 : (S c != S d) = true := by rw [S_bne]; simp [k]
      have hpz : (tv p.2).length ≤ sizeLine := by
        rw [tv_len]; exact Nat.le_trans (hz p hp) (Nat.le_of_ble_eq_true rfl)
      walk_at "my:go"
      refine hQ _ _ _ (by walk_at "my:end") (St.lst (by walk_at "my:st") (by walk_at "my:mem")) ?_ (by walk_at "my:end")
      rw [← e0, shL_at i p.nm q.nm c d hI hc1 hq2 k, slicePick_upto']
      simp [tv]
      have : i < p.2.length := by simpa [Row.nm] using hi
      exact Nat.le_antisymm (Mine.lc [min i p.snd.length, i] [(1, .v 0, .v 1)] (1, .v 0, .v 1) rfl (Nat.min_le_left ( i) ( p.snd.length))) (Mine.lc [i, min i p.snd.length] [(1, .v 0, .v 1)] (1, .v 0, .v 1) rfl (Nat.le_of_eq (Nat.min_eq_left (show i ≤ p.snd.length from Mine.lc [i, p.snd.length] [(1, .a (.v 0) (.n 1), .v 1)] (1, .v 0, .v 1) rfl this)).symm))
  · intro s₃ hI H₃
    clear HX
    rw [tv_len] at hI
    walk_at "my:go"
    refine hQ _ _ _ (by walk_at "my:end") (St.blst (by walk_at "my:st") hpl) ?_ (by walk_at "my:end")
    rw [← e0, shL_end p.nm q.nm (by rw [← (by simp [Row.nm] : p.2.length = p.nm.length), ← hI]; exact (List.take_of_length_le (by simp [Row.nm])).symm), tv_len]
    simp [Row.nm]
end

end
section
theorem tv_app (a b : List (List Nat × Tok)) : tv (a ++ b) = tv a ++ tv b := by simp [tv]
theorem rep_tv (n : Nat) (x : List Nat) (t : Tok) : ∃ rs : List (List Nat × Tok), List.replicate n (Value.str (S x) t) = tv rs ∧ rs.map (·.1) = List.replicate n x :=
  ⟨List.replicate n (x, t), by simp [tv], by simp⟩
theorem tot_rep (n : Nat) : tot (List.replicate n [46, 46]) = 3 * n := by
  induction n with
  | zero => rfl
  | succ n ih => rw [List.replicate_succ, tot_cons, ih]; simp; exact Nat.le_antisymm (Mine.lc [n] [] (1, .a (.n 3) (.m 3 (.v 0)), .m 3 (.a (.v 0) (.n 1))) rfl ) (Mine.lc [n] [] (1, .m 3 (.a (.v 0) (.n 1)), .a (.n 3) (.m 3 (.v 0))) rfl )
theorem tot_drop_le (n : Nat) (xs : List (List Nat)) : tot (xs.drop n) ≤ tot xs := by
  conv => rhs; rw [← List.take_append_drop n xs]
  rw [tot_app]; exact Mine.lc [tot (List.drop n xs), tot (List.take n xs)] [] (1, .v 0, .a (.v 1) (.v 0)) rfl
local macro_rules | `(tactic| walk_at "my:gox") => `(tactic| repeat' (first
  | ((fail_if_success (with_reducible show wpAny _ _ (binaryOp Operator.Add (Value.ref _) (Value.ref _)) _ _ _)); walk1)))
local macro_rules | `(tactic| walk_at "my:gos") => `(tactic| repeat' (first
  | ((fail_if_success (with_reducible show Exists _)); (fail_if_success (with_reducible show wpAny _ _ (call (Value.builtin "str.lstrip") _) _ _ _)); walk1)))
noncomputable def relF (ys xs : List (List Nat)) : List Nat :=
  let st := List.replicate (ys.length - shL ys xs) [46, 46] ++ xs.drop (shL ys xs)
  if st = [] then [46] else inter [47] st
theorem cutL_ {prog : Program} {w : World} {mg mb : Str → Option Value} {s₀ s : Shared} {g : Heap} {L : Addr} {lo : List (Str × Value)} {led : List (Addr × Ent)} {A : Around} {E : Value → Shared → Prop} {Q : Value → Shared → Prop} {ys : List (List Nat)} {x : Sem Value}
    (H : St w mg mb s₀ g L lo led s) (h1 : wpAny (model prog w) A x (fun v s₁ => ∃ (ps : List (List Nat × Tok)) (D : Addr), v = .ref D ∧ ps.map (·.1) = ys ∧ St w mg mb s₀ g L lo ((D, .lst (tv ps)) :: led) s₁) E s)
    (h2 : ∀ (ps : List (List Nat × Tok)) D s₁, ps.map (·.1) = ys → St w mg mb s₀ g L lo ((D, .lst (tv ps)) :: led) s₁ → Q (.ref D) s₁) : wpAny (model prog w) A x Q E s :=
  wpAny_mono h1 (fun v s₁ ⟨ps, D, e, hp, H'⟩ => by rw [e]; exact h2 ps D s₁ hp H') fun _ _ e => e
section
variable {prog : Program} {w : World} {mg mb : Str → Option Value} {s : Shared} {A : Around} {E : Value → Shared → Prop} {Q : Value → Shared → Prop} {t u : Tok}
theorem relpath_ {x y : Str} {xs ys : List (List Nat)} (C : Cx w mg mb s.heap) (hr : Room A 6) (hts : 1 ≤ s.toks) (hx : x = S (47 :: inter [47] xs)) (hy : y = S (47 :: inter [47] ys)) (gx : Good xs) (gy : Good ys)
    (hzx : x.length ≤ 90000) (hzy : y.length ≤ 90000)
    (hQ : ∀ s' t', Keeps s s' → 1 ≤ s'.toks → Q (.str (S (relF ys xs)) t') s') :
    wpAny (model prog w) A (call (.ref 172) [.str x t, .str y u]) Q E s := by
  have z1 : x.length ≤ 900000 := Nat.le_trans hzx (by decide)
  have z2 : y.length ≤ 900000 := Nat.le_trans hzy (by decide)
  have z3 : x.length ≤ sizeLine := Nat.le_trans hzx (Nat.le_of_ble_eq_true rfl)
  have z4 : y.length ≤ sizeLine := Nat.le_trans hzy (Nat.le_of_ble_eq_true rfl)
  have hnx := inter_head gx
  have hny := inter_head gy
  have z5 : (S (inter [47] ys)).length ≤ sizeLine := by rw [hy, S_len] at z4; rw [S_len]; simp at z4; exact Mine.lc [(inter [47] ys).length, sizeLine] [(1, .a (.v 0) (.n 1), .v 1)] (1, .v 0, .v 1) rfl z4
  have z6 : (S (inter [47] xs)).length ≤ sizeLine := by rw [hx, S_len] at z3; rw [S_len]; simp at z3; exact Mine.lc [(inter [47] xs).length, sizeLine] [(1, .a (.v 0) (.n 1), .v 1)] (1, .v 0, .v 1) rfl z3
  have z7 : (S (inter [47] ys)).length ≤ 1000000 := by rw [hy, S_len] at z2; rw [S_len]; simp at z2; exact Mine.lc [(inter [47] ys).length] [(1, .v 0, .n 899999)] (1, .v 0, .n 1000000) rfl z2
  have z8 : (S (inter [47] xs)).length ≤ 1000000 := by rw [hx, S_len] at z1; rw [S_len]; simp at z1; exact Mine.lc [(inter [47] xs).length] [(1, .v 0, .n 899999)] (1, .v 0, .n 1000000) rfl z1
  have c1 : ((x.length : Int) != 0) = true := by rw [hx, S_len]; exact bne_iff_ne.mpr (by simp; omega)
  refine enterB_ (binds := [(Str.ofString "path", .str x t), (Str.ofString "start", .str y u)]) (lo := [(Str.ofString "start", .str y u), (Str.ofString "path", .str x t)]) C hr hts (by rfl) (by rfl) (binds_K C.X rfl (by rfl) rfl rfl rfl) (by rfl) (by rfl) ?_ (by decide) rfl rfl rfl
  intro L s' H R
  walk_at "my:go"
  refine Try_ ?_
  walk_at "my:gos"
  rw [norm_spot gy, ← hy]
  refine lstripC_ (by walk_at "my:st") z4 fun ty sy Hy => ?_
  rw [show Txt.lstripChars y (Str.ofString "/") = S (inter [47] ys) from by rw [hy, slash_, lstripC_S, inter_strip gy]]
  walk_at "my:gos"
  rw [norm_spot gx, ← hx]
  refine lstripC_ (by walk_at "my:st") z3 fun tx sx Hx => ?_
  rw [show Txt.lstripChars x (Str.ofString "/") = S (inter [47] xs) from by rw [hx, slash_, lstripC_S, inter_strip gx]]
  walk_at "my:goi"
  rename St _ _ _ _ _ _ _ _ _ => HX
  refine cutL_ (ys := ys) HX ?_ ?_
  · by_cases k : ys = []
    · have k1 : (((S (inter [47] ys)).length : Int) != 0) = false := by rw [k]; rfl
      walk_at "my:go"
      exact ⟨[], _, rfl, k.symm, by assumption⟩
    · have k1 : (((S (inter [47] ys)).length : Int) != 0) = true := by
        rw [S_len]; exact bne_iff_ne.mpr (by have := List.length_pos_iff.mpr (fun e => k ((inter_nil_iff gy).mp e)); omega)
      walk_at "my:go"
      refine ⟨_, _, rfl, ?_, by walk_at "my:st"⟩
      rename _ = sp _ _ => eX
      rw [eX, sp_inter k fun p hp => (gy p hp).2.2.2]
  intro ps D s₁ hps H1
  clear HX
  walk_at "my:goi"
  rename St _ _ _ _ _ _ _ _ _ => HX
  refine cutL_ (ys := xs) HX ?_ ?_
  · by_cases k : xs = []
    · have k1 : (((S (inter [47] xs)).length : Int) != 0) = false := by rw [k]; rfl
      walk_at "my:go"
      exact ⟨[], _, rfl, k.symm, by assumption⟩
    · have k1 : (((S (inter [47] xs)).length : Int) != 0) = true := by
        rw [S_len]; exact bne_iff_ne.mpr (by have := List.length_pos_iff.mpr (fun e => k ((inter_nil_iff gx).mp e)); omega)
      walk_at "my:go"
      refine ⟨_, _, rfl, ?_, by walk_at "my:st"⟩
      rename _ = sp _ _ => eX
      rw [eX, sp_inter k fun p hp => (gx p hp).2.2.2]
  intro qs D2 s₂ hqs H2
  clear HX
  have l1 : ps.length = ys.length := by rw [← hps, List.length_map]
  have l2 : qs.length = xs.length := by rw [← hqs, List.length_map]
  have l3 : xs.length ≤ 90000 := by
    have := len_tot xs
    by_cases k : xs = []
    · rw [k]; simp
    · have h := tot_inter k
      rw [hx, S_len, List.length_cons] at hzx
      exact Mine.lc [(inter [47] xs).length, xs.length, tot xs] [(1, .a (.v 0) (.n 1), .n 90000), (1, .v 1, .v 2), (1, .v 2, .a (.v 0) (.n 1))] (1, .v 1, .n 90000) rfl hzx this (Nat.le_of_eq h)
  have l4 : ys.length ≤ 90000 := by
    have := len_tot ys
    by_cases k : ys = []
    · rw [k]; simp
    · have h := tot_inter k
      rw [hy, S_len, List.length_cons] at hzy
      exact Mine.lc [(inter [47] ys).length, ys.length, tot ys] [(1, .a (.v 0) (.n 1), .n 90000), (1, .v 1, .v 2), (1, .v 2, .a (.v 0) (.n 1))] (1, .v 1, .n 90000) rfl hzy this (Nat.le_of_eq h)
  have l5 : (tv ps).length ≤ 1000000 := by rw [tv_len]; exact Mine.lc [ps.length, ys.length] [(1, .v 0, .v 1), (1, .v 1, .n 90000)] (1, .v 0, .n 1000000) rfl (Nat.le_of_eq l1) l4
  have l6 : (tv qs).length ≤ sizeLine := by rw [tv_len]; exact Nat.le_trans (by exact Mine.lc [qs.length, xs.length] [(1, .v 0, .v 1), (1, .v 1, .n 90000)] (1, .v 0, .n 90000) rfl (Nat.le_of_eq l2) l3 : qs.length ≤ 90000) (Nat.le_of_ble_eq_true rfl)
  walk_at "my:go"
  rename St _ _ _ _ _ _ _ _ _ => HX
  refine cprefix_ (ra := (D, ps)) (rb := (D2, qs)) HX.here (Room.le R (by decide)) HX.tk (HX.lst (.head _)) ?_ ?_ ?_
  · intro p hp
    rcases List.mem_cons.mp hp with rfl | hp
    · exact HX.pl (.tail _ (.tail _ (.head _)))
    · rw [List.mem_singleton.mp hp]; exact HX.pl (.tail _ (.head _))
  · intro p hp
    rcases List.mem_cons.mp hp with rfl | hp
    · show ps.length ≤ _; exact Mine.lc [ps.length, ys.length] [(1, .v 0, .v 1), (1, .v 1, .n 90000)] (1, .v 0, .n 100000) rfl (Nat.le_of_eq l1) l4
    · rw [List.mem_singleton.mp hp]; show qs.length ≤ _; exact Mine.lc [qs.length, xs.length] [(1, .v 0, .v 1), (1, .v 1, .n 90000)] (1, .v 0, .n 100000) rfl (Nat.le_of_eq l2) l3
  intro s₃ a vs K hL hlen ht
  have H3 := HX.moved K ht
  clear HX
  rw [show Row.nm (D, ps) = ys from hps, show Row.nm (D2, qs) = xs from hqs] at hlen
  have hsh := shL_le ys xs
  have l7 : vs.length ≤ 1000000 := by exact Mine.lc [ys.length, vs.length, shL ys xs] [(1, .v 0, .n 90000), (1, .v 1, .v 2), (1, .v 2, .v 0)] (1, .v 1, .n 1000000) rfl l4 (Nat.le_of_eq hlen) (hsh).1
  walk_at "my:go"
  rename St _ _ _ _ _ _ _ _ _ => HX
  refine mull_ (n := ys.length - shL ys xs) HX (by walk_at "my:pl") (by rw [tv_len, hlen]; omega) (by exact Mine.lc [ys.length, ys.length - shL ys xs] [(1, .v 0, .n 90000), (1, .v 1, .v 0)] (1, .v 1, .n 1000000) rfl l4 (Nat.sub_le ( ys.length) ( shL ys xs))) fun D3 s4 H4 => ?_
  clear HX
  obtain ⟨rs, hr1, hr2⟩ := rep_tv (ys.length - shL ys xs) [46, 46] _
  rw [ddot_, hr1] at H4
  walk_at "my:gox"
  rename St _ _ _ _ _ _ _ _ _ => HX
  have e8 : (slicePick (tv qs).toArray (some (vs.length : Int)) none none).toList = tv (qs.drop (shL ys xs)) := by
    rw [slicePick_from', hlen]; simp [tv]
  have e9 : (rs ++ qs.drop (shL ys xs)).map (·.1) = List.replicate (ys.length - shL ys xs) [46, 46] ++ xs.drop (shL ys xs) := by
    rw [List.map_append, hr2, List.map_drop, hqs]
  rw [e8] at HX
  have l8 : rs.length ≤ 90000 := by
    have := congrArg List.length hr2
    rw [List.length_map, List.length_replicate] at this
    exact Mine.lc [ys.length, rs.length, ys.length - shL ys xs] [(1, .v 0, .n 90000), (1, .v 1, .v 2), (1, .v 2, .v 0)] (1, .v 1, .n 90000) rfl l4 (Nat.le_of_eq this) (Nat.sub_le ( ys.length) ( shL ys xs))
  have l9 : (qs.drop (shL ys xs)).length ≤ 90000 := by rw [List.length_drop]; exact Mine.lc [qs.length, xs.length, qs.length - shL ys xs] [(1, .v 0, .v 1), (1, .v 1, .n 90000), (1, .v 2, .v 0)] (1, .v 2, .n 90000) rfl (Nat.le_of_eq l2) l3 (Nat.sub_le ( qs.length) ( shL ys xs))
  refine addl_ HX (by walk_at "my:pl") (by walk_at "my:pl") (by rw [tv_len, tv_len]; exact Nat.le_trans (Nat.add_le_add l8 l9) (Nat.le_of_ble_eq_true rfl)) fun D5 s5 H5 => ?_
  clear HX
  rw [← tv_app] at H5
  have l10 : (tv (rs ++ qs.drop (shL ys xs))).length ≤ 1000000 := by rw [tv_len, List.length_append]; exact Mine.lc [rs.length, (List.drop (shL ys xs) qs).length] [(1, .v 0, .n 90000), (1, .v 1, .n 90000)] (1, .a (.v 0) (.v 1), .n 1000000) rfl l8 l9
  unfold relF at hQ
  simp only [← e9] at hQ
  by_cases k : (rs ++ qs.drop (shL ys xs)).map (·.1) = []
  · have c9 : (!(tv (rs ++ qs.drop (shL ys xs))).isEmpty) = false := by
      rw [List.map_eq_nil_iff.mp k]; rfl
    rw [if_pos k, ← dot_] at hQ
    walk_at "my:go"
    exact hQ _ _ (by walk_at "my:end") (by walk_at "my:end")
  · have c9 : (!(tv (rs ++ qs.drop (shL ys xs))).isEmpty) = true := by
      rw [Bool.not_eq_true']; simp only [tv, List.isEmpty_eq_false_iff, ne_eq, List.map_eq_nil_iff] at k ⊢; exact k
    have l11 : tot ((rs ++ qs.drop (shL ys xs)).map (·.1)) ≤ 1000000 := by
      rw [e9, tot_app]
      have h1 : tot (List.replicate (ys.length - shL ys xs) [46, 46]) ≤ 3 * 90000 := by
        rw [tot_rep]; exact Mine.lc [ys.length, ys.length - shL ys xs] [(3, .v 0, .n 90000), (3, .v 1, .v 0)] (1, .m 3 (.v 1), .m 3 (.n 90000)) rfl l4 (Nat.sub_le ( ys.length) ( shL ys xs))
      have h2 : tot (xs.drop (shL ys xs)) ≤ tot xs := tot_drop_le _ _
      have h3 : tot xs ≤ 90000 := by
        by_cases k : xs = []
        · rw [k]; simp [tot]
        · have h := tot_inter k
          rw [hx, S_len, List.length_cons] at hzx
          exact Mine.lc [(inter [47] xs).length, tot xs] [(1, .a (.v 0) (.n 1), .n 90000), (1, .v 1, .a (.v 0) (.n 1))] (1, .v 1, .n 90000) rfl hzx (Nat.le_of_eq h)
      exact Mine.lc [tot (List.replicate (ys.length - shL ys xs) [46, 46]), tot (List.drop (shL ys xs) xs), tot xs] [(1, .v 0, .m 3 (.n 90000)), (1, .v 1, .v 2), (1, .v 2, .n 90000)] (1, .a (.v 0) (.v 1), .n 1000000) rfl h1 h2 h3
    rw [if_neg k] at hQ
    walk_at "my:go"
    exact hQ _ _ (by walk_at "my:end") (by walk_at "my:end")
end

end
section
section
variable {prog : Program} {w : World} {mg mb : Str → Option Value} {s : Shared} {A : Around} {E : Value → Shared → Prop} {Q : Value → Shared → Prop} {t : Tok} {g : Heap}
structure PlatReady (mg : Str → Option Value) (g : Heap) : Prop where
  code : CodeHd g 27 23
  bm : ∃ bm o, mg "__builtins__" = some (.ref bm) ∧ bm ≠ builtinsNs ∧ g.get? bm = some o ∧ o.cls = .type "module" ∧ o.dict = some builtinsNs ∧ o.data = .plain
theorem PlatReady.keeps {g' : Heap} (P : PlatReady mg g) (k : ∀ b o, g.get? b = some o → g'.get? b = some o) : PlatReady mg g' :=
  ⟨P.code.keeps k, let ⟨bm, o, a, b, c, d⟩ := P.bm; ⟨bm, o, a, b, k _ _ c, d⟩⟩
noncomputable def TabOk (op : Obj) : Prop := ∃ tb : Array Value, op = tabObj tb ∧ TriplesOk tb.toList
theorem tabHd {h : Heap} {c P : Addr} {ps : Array Value} (x : CodeHd h c P) (hP : h.get? P = some (tabObj ps)) : h.TableAt c P ps :=
  let ⟨o, vs, _, _, _, _, _, _, _, e1, e2, e3, e4, _⟩ := x
  ⟨⟨o, vs, e1, e2, e3, e4⟩, hP⟩
theorem genCode_ {M : Model} {env : Env} {c P : Addr} {ps : Array Value} {pos : Pos} {qualname : Str} {scope : Scope} {Q : Value → Shared → Prop} (hc : env.code = .ref c) (hok : s.heap.IsCode c P ps) (htab : s.heap.TableAt c P ps)
    (hQ : ∀ code h' tk ps', Heap.ExtBut P s.heap h' → h'.IsCode c P ps' → h'.TableAt c P ps' → Q code { s with heap := h', toks := tk }) : wpAny M A (genexprCode env pos qualname scope) Q E s := by
  cases hf : codeAmong pos ps.toList with
  | some c' => exact wpAny_genexprCode_hit hc hok hf (hQ _ s.heap s.toks ps (Heap.ExtBut.refl _ _) hok htab)
  | none => exact wpAny_genexprCodeX hc hok htab hf fun c' h' tk a _ _ b _ d _ => hQ _ _ _ _ a b d
theorem codeOf {h : Heap} {c P : Addr} {op : Obj} {ps : Array Value} (x : CodeHd h c P) (hP : h.get? P = some op) (hd : op.data = .fields ps) (ht : TriplesOk ps.toList) : h.IsCode c P ps :=
  let ⟨o, vs, _, _, _, _, _, _, _, e1, _, e3, _, f3, f4, f5, f6, f7, f11⟩ := x
  ⟨o, vs, _, _, _, _, _, _, _, _, e1, e3, f3, f4, f5, f6, f7, hP, hd, ht, f11⟩
theorem St.turnX {w : World} {mg mb : Str → Option Value} {s₀ s : Shared} {g : Heap} {L : Addr} {lo : List (Str × Value)} {led : List (Addr × Ent)} {l : Addr} {e e' : Ent} {h' : Heap} {k : Nat} (H : St w mg mb s₀ g L lo ((l, e) :: led) s) (he : e'.At h' l) (hs : Heap.ExtBut l s.heap h') (hk : 1 ≤ k) :
    St w mg mb s₀ g L lo ((l, e') :: led) { s with heap := h', toks := k } := by
  have hl := H.fs.ok _ (.head _)
  have nd := List.nodup_cons.mp H.fs.nd
  have F := H.fs
  have eq := H.eq
  obtain ⟨h, tk, rfl⟩ := eq
  refine ⟨⟨F.ns.at' fun o e => hs _ _ (Ne.symm hl.2.1) e, fun b o q => hs _ _ (fun z => ?_) (F.keep b o q), F.nL, fun p hp => ?_, F.nd⟩, H.cx, ⟨_, _, rfl⟩, hk, H.base⟩
  · rw [z, hl.2.2] at q; cases q
  · rcases List.mem_cons.mp hp with rfl | hp
    · exact ⟨he, hl.2⟩
    · exact ⟨(F.ok p (.tail _ hp)).1.of fun o q => hs _ _ (fun z => nd.1 (List.mem_map.mpr ⟨p, hp, z⟩)) q, (F.ok p (.tail _ hp)).2⟩
theorem BI_ {h : Heap} {M : Model} {A : Around} {E : Value → Shared → Prop} {s : Shared} {Q : Addr → Shared → Prop} {r : Addr} (P : PlatReady mg h) (C : Cx w mg mb h) (k : ∀ b o, h.get? b = some o → s.heap.get? b = some o) (hQ : Q builtinsNs s) : wpAny M A (builtinsFor mainGlobals r) Q E s := by
  obtain ⟨bm, o, a, b, c, d, e, f⟩ := P.bm
  exact wpAny_builtinsFor (C.T.g.keeps k) a b (k _ _ c) d e f hQ
theorem pass_all (n : Nat) : passing (fun _ => true) n 0 = List.range n := by unfold passing; simp
theorem tot_mem {ts : List (List Nat)} {t : List Nat} (h : t ∈ ts) : t.length + 1 ≤ tot ts := by
  induction ts with
  | nil => cases h
  | cons x r ih =>
    rw [tot_cons]
    rcases List.mem_cons.mp h with rfl | h
    · exact Mine.lc [t.length, tot r] [] (1, .a (.v 0) (.n 1), .a (.a (.v 0) (.n 1)) (.v 1)) rfl
    · have := ih h; exact Mine.lc [t.length, tot r, x.length] [(1, .a (.v 0) (.n 1), .v 1)] (1, .a (.v 0) (.n 1), .a (.a (.v 2) (.n 1)) (.v 1)) rfl this
theorem St.eq_drawn {w : World} {mg mb : Str → Option Value} {s₀ s : Shared} {g : Heap} {L : Addr} {lo : List (Str × Value)} {led : List (Addr × Ent)} (H : St w mg mb s₀ g L lo led s) : s.drawn = s₀.drawn := by
  obtain ⟨h, tk, e⟩ := H.eq; rw [e]
theorem St.eq_os {w : World} {mg mb : Str → Option Value} {s₀ s : Shared} {g : Heap} {L : Addr} {lo : List (Str × Value)} {led : List (Addr × Ent)} (H : St w mg mb s₀ g L lo led s) : s.os = s₀.os := by
  obtain ⟨h, tk, e⟩ := H.eq; rw [e]
theorem St.eq_gens {w : World} {mg mb : Str → Option Value} {s₀ s : Shared} {g : Heap} {L : Addr} {lo : List (Str × Value)} {led : List (Addr × Ent)} (H : St w mg mb s₀ g L lo led s) : s.gens = s₀.gens := by
  obtain ⟨h, tk, e⟩ := H.eq; rw [e]
theorem spl2_ {w : World} {mg mb : Str → Option Value} {s₀ s : Shared} {g : Heap} {L : Addr} {lo : List (Str × Value)} {led : List (Addr × Ent)} {A : Around} {E : Value → Shared → Prop} {y z : Str} {k1 k2 : Nat} {p1 p2 pos : Pos} {env : Env} {Q : List Value → Shared → Prop} (H : St w mg mb s₀ g L lo led s)
    (h : ∀ u v s', 1 ≤ u → 1 ≤ v → u < v → St w mg mb s₀ g L lo led s' → Q [.str y u, .str z v] s') :
    wpAny (model prog w) A (spliced (backTo pos (starEach [.Constant (.str y) k1 p1, .Constant (.str z) k2 p2] env))) Q E s := by
  walk1
  refine cstrT_ H fun u s1 h1 h2 h3 H1 => ?_
  walk1
  refine cstrT_ H1 fun v s2 h4 h5 h6 H2 => ?_
  walk1
  exact h u v s2 h1 h4 (by rw [h5, h3]; exact Nat.lt_succ_self _) H2
local macro_rules | `(tactic| walk_at "spliced") => `(tactic| ((with_reducible refine spl2_ (by walk_at "my:st") ?_); rename St .. => hOld; clear hOld; intro uX vX sX huX hvX hwX hX))
local macro_rules | `(tactic| walk_at "my:txt") => `(tactic| first | with_reducible exact sp_ | with_reducible exact us_ | with_reducible exact da_ | with_reducible exact slash_ | with_reducible exact bs_ | with_reducible exact co_ | with_reducible exact se_ | with_reducible exact qu_ | with_reducible exact op_ | with_reducible exact cp_ | with_reducible exact un_ | with_reducible exact dd_ | with_reducible exact em_ | with_reducible rfl | with_reducible assumption)
local macro_rules | `(tactic| walk_at "my:sz1") => `(tactic| first | with_reducible assumption | (simp only [List.length_map]; with_reducible assumption))
local macro_rules | `(tactic| walk_at "call builtin:str.replace") => `(tactic| (rename St .. => hOld; (first
  | refine repl1_ hOld (by walk_at "my:txt") (by walk_at "my:txt") (by walk_at "my:txt") (by decide) (by walk_at "my:sz1") (by assumption) (by assumption) (by assumption) ?_
  | refine replN_ hOld (by walk_at "my:txt") (by walk_at "my:txt") (by walk_at "my:txt") (by decide) (by decide) (by decide) (by walk_at "my:sz1") (by assumption) (by assumption) (by assumption) ?_); clear hOld; intro tX sX hX))
local macro_rules | `(tactic| walk_at "subscriptTail Name UnaryOp str int") => `(tactic| (refine sign_ (by walk_at "my:st") (by with_reducible assumption) (by with_reducible assumption) (by walk_at "my:sz") ?_; walk_at "my:i"))
theorem platform_ {ps : List (List Nat × Tok)} {op : Obj} (hC : Cx w mg mb g) (hP : PlatReady mg g) (hg : g.get? 23 = none) (hsub : ∀ b o, g.get? b = some o → s.heap.get? b = some o)
    (h23 : s.heap.get? 23 = some op) (htr : TabOk op) (hr : Room A 3) (hts : 1 ≤ s.toks) (hz : tot (ps.map (·.1)) ≤ 100000)
    (hQ : ∀ s' t' op', s'.drawn = s.drawn → s'.os = s.os → (∀ b o, b ≠ 23 → s.heap.get? b = some o → s'.heap.get? b = some o) → s'.heap.get? 23 = some op' → TabOk op' → 1 ≤ s'.toks → (AllBare s.gens → AllBare s'.gens) →
      Q (.str (S (platF (ps.map (·.1)))) t') s') :
    wpAny (model prog w) A (call (.ref 28) (tv ps)) Q E s := by
  refine enterV_ (ps := tv ps) (binds := fun l => [(Str.ofString "args", l)]) (lo := fun l => [(Str.ofString "args", .ref l)]) (hC.keeps hsub) hr hts (by rfl) (by rfl) ?_ ?_ (fun _ => by rfl) (fun _ => by rfl) ?_ (by decide) rfl rfl rfl
  · show (tv ps).length ≤ sizeLine
    rw [tv, List.length_map]
    have := len_tot (ps.map (·.1))
    rw [List.length_map] at this
    exact Nat.le_trans (by exact Mine.lc [tot (List.map (Prod.fst) ps), ps.length] [(1, .v 0, .n 100000), (1, .v 1, .v 0)] (1, .v 1, .n 1000000) rfl hz this) (show 1000000 ≤ sizeLine from Nat.le_of_ble_eq_true rfl)
  · unfold bindArgs
    simp only [fnOf, Option.isNone_some, Bool.and_false, Bool.false_eq_true, if_false, List.forIn_nil, pure_bind, show seqItems? Value.none = pure none from rfl]
    rfl
  intro a g1 L s1 hk1 hfr ha H R
  have ha23 : a ≠ 23 := fun q => by rw [q, h23] at hfr; cases hfr
  have hsubG : ∀ b o, g.get? b = some o → (hideAll g1 [23]).get? b = some o := fun b o e => hideAll_get _ (hk1 _ _ (hsub b o e)) fun hm => by
    rw [List.mem_singleton.mp hm, hg] at e; cases e
  have H0 := H.hide (hk1 _ _ h23) (hC.keeps hsubG)
  clear H
  have hP1 := hP.keeps hsubG
  have ha1 : (hideAll g1 [23]).get? a = some (tupO (tv ps)) := hideAll_get _ ha fun hm => ha23 (List.mem_singleton.mp hm)
  have hg1 : (hideAll g1 [23]).get? 23 = none := hideAll_none _ (.head _)
  have hsg : ∀ b o, b ≠ 23 → s.heap.get? b = some o → (hideAll g1 [23]).get? b = some o := fun b o hb e => hideAll_get _ (hk1 _ _ e) fun hm => hb (List.mem_singleton.mp hm)
  have hsd : s1.drawn = s.drawn ∧ s1.os = s.os := by
    obtain ⟨h, tk, e⟩ := H0.eq
    rw [e]; exact ⟨rfl, rfl⟩
  generalize hideAll g1 [23] = G at *
  walk_at "my:go"
  rename St _ _ _ _ _ _ _ _ _ => HX
  refine wpAny_GeneratorExp_make rfl (closureFor_none (by decide)) (by decide) (by rfl) rfl R.lim ?_ (by intro x; rfl)
  walk_at "my:go"
  refine call_filter (HX.fs.keep _ _ ha1) fun h2 f it hf2 hit hff hne hF hI hk => ?_
  refine pyIter_filter hF ?_
  have H2 := HX.moved (s' := { (_ : Shared) with heap := h2 }) ⟨h2, _, rfl, hk⟩ HX.tk
  refine ⟨H2.here.T.nolimit, ?_⟩
  obtain ⟨tb, rfl, ht⟩ := htr
  refine wpAny_with_toks (n := 1) H2.tk (genCode_ (P := 23) rfl (codeOf (hP1.code.keeps H2.fs.keep) (H2.obj (.head _)) rfl ht) (tabHd (hP1.code.keeps H2.fs.keep) (H2.obj (.head _))) fun code h3 tk3 tb3 hk3 hc3 hta3 htk3 => ?_)
  obtain ⟨oc, vsc, _, _, _, _, _, _, _, op3, c1, c2, c3, c4, c5, c6, c7, c8, c9, c10, c11⟩ := hc3
  have H3 := H2.turnX (e' := .obj op3) c8 hk3 htk3
  refine BI_ hP1 H2.cx H3.fs.keep ?_
  intro h' hn' hs'
  walk_at "my:go"
  have hsz : ∀ p ∈ ps, p.1.length ≤ 1000000 := fun p hp => by
    have := tot_mem (ts := ps.map (·.1)) (List.mem_map_of_mem hp); exact Mine.lc [tot (List.map (Prod.fst) ps), p.fst.length] [(1, .v 0, .n 100000), (1, .a (.v 1) (.n 1), .v 0)] (1, .v 1, .n 1000000) rfl hz this
  have e1 : h'.objs.size = h3.objs.size + 1 := by rw [hs'.1, Heap.size_push]
  have k3 : ∀ b o, h3.get? b = some o → h'.get? b = some o := fun b o e => hs'.extBut b o (Nat.ne_of_lt (Heap.lt_size e)) (Heap.get?_push_of_some _ e)
  have itL : it ≠ 23 := fun q => Nat.lt_irrefl _ (Nat.lt_of_lt_of_le (q ▸ Heap.lt_size (HX.obj (.head _))) hit)
  have h23lt : (23 : Nat) < _ := Heap.lt_size (HX.obj (.head _))
  have hF3 : IsFil h3 f it := hk3 _ _ (fun q => by rw [q] at hff; exact Nat.lt_irrefl _ (Nat.lt_of_lt_of_le h23lt hff)) hF
  have hI3 : h3.IsTupleIter it a 0 := hI.at fun o e => hk3 _ _ itL e
  have ha3 : h3.IsTuple a (tv ps).toArray := ⟨_, H3.fs.keep _ _ ha1, rfl, _, rfl⟩
  have hst : FilAt f it a ps 0 h3 := ⟨hF3, ha3, 0, hI3, Nat.zero_le _, rfl⟩
  have hcs : ∀ b ∈ [f, it, a], b < h3.objs.size := fun b hb => by
    rcases List.mem_cons.mp hb with rfl | hb
    · exact Heap.lt_size hF3
    · rcases List.mem_cons.mp hb with rfl | hb
      · obtain ⟨_, e, _⟩ := hI3; exact Heap.lt_size e
      · rw [List.mem_singleton.mp hb]; exact Heap.lt_size (H3.fs.keep _ _ ha1)
  have hnl := H3.here.T.nolimit
  have hcst : cStatics < h3.objs.size := let ⟨_, hn, _⟩ := hnl; hn.lt
  have hcsx : cStatics ≠ it := fun q => by
    obtain ⟨_, hn, _⟩ := HX.here.T.nolimit
    have := hn.lt
    rw [q] at this
    exact Nat.lt_irrefl _ (Nat.lt_of_lt_of_le this hit)
  refine wpAny_with_toks (n := 1) (Nat.le_succ_of_le (Nat.le_succ_of_le (Nat.le_succ_of_le htk3))) (SC.joinGen (I := h'.objs.size)
    (WalksS.genexpQ (A := (A.deeper _).in1.in1) R.hh h'.objs.size _ h3.objs.size (List.range h3.objs.size) [it] (fun _ => true) (ps.filter ne).length
      (fun i y => ∃ p t, (ps.filter ne)[i]? = some p ∧ y = .str (S (strp p.1)) t) ?haC ?haf ?hsub ?hroom (List.mem_range.mpr hcst) (Nat.ne_of_lt hcst) ?hcw)
    (fun i s₁ h => (Heap.IsGen.typeIs h.1)) (GenAt.fresh (A := (A.deeper _).in1.in1) (cenv := genEnv _ [] h3.objs.size code builtinsNs _) R.hh (fun A' hA => (walks_filter hA hsz).mono_fp fun b hb => List.mem_range.mpr (hcs b hb)) _ _ (by rfl) (by rfl) rfl ?hCf ?hq ⟨_, _, _, Heap.get?_push_size _ rfl, rfl, rfl, rfl⟩ (Array.getElem?_push_size ..) ?hst (hn'.push _) (hnl.keeps fun b o e => Heap.get?_push_of_some _ (k3 b o e))) ?hfp (.head _) ?hstr ?hgo ?hn)
  case haC => rw [e1]; exact Nat.succ_ne_self _
  case haf => exact fun hm => by have := List.mem_range.mp hm; exact Mine.lcF [h3.objs.size, h'.objs.size] [(1, .a (.v 0) (.n 1), .v 1), (1, .a (.v 1) (.n 1), .v 0)] _ rfl (Nat.le_of_eq (e1).symm) this
  case hsub => 
    intro b hb
    rw [List.mem_singleton.mp hb]; exact List.mem_range.mpr (hcs it (by simp))
  case hroom => exact R.in1.in1.lim
  case hcw => exact fun hm => hcsx (List.mem_singleton.mp hm)
  case hCf => exact fun hm => Nat.lt_irrefl _ (List.mem_range.mp hm)
  case hst => exact (walks_filter (prog := prog) (w := w) hr.hh hsz).frame _ _ _ hst fun b _ o e => Heap.get?_push_of_some _ (k3 b o e)
  case hfp =>
    intro b hb
    show b < (h'.push _).objs.size
    rw [Heap.size_push]
    rcases List.mem_cons.mp hb with rfl | hb
    · exact Nat.lt_succ_self _
    · rcases List.mem_cons.mp hb with rfl | hb
      · rw [e1]; exact Nat.lt_succ_of_lt (Nat.lt_succ_self _)
      · rw [e1]; exact Nat.lt_succ_of_lt (Nat.lt_succ_of_lt (List.mem_range.mp hb))
  case hn => 
    rw [pass_all, List.length_range]
    exact Nat.le_trans (List.length_filter_le _ _) (by
      have := len_tot (ps.map (·.1))
      rw [List.length_map] at this
      exact Nat.le_trans (by exact Mine.lc [tot (List.map (Prod.fst) ps), ps.length] [(1, .v 0, .n 100000), (1, .v 1, .v 0)] (1, .v 1, .n 1000000) rfl hz this) (show 1000000 ≤ sizeLine from Nat.le_of_ble_eq_true rfl))
  case hstr =>
    rintro i v ⟨j, -, p, t, -, rfl⟩
    exact ⟨_, _, rfl⟩
  case hq =>
    refine ⟨fun A' E' i v s₂ m₂ _ hP hn hm _ => ?_, fun A' E' i v s₂ m₂ _ hP hp hn hm _ => ?_⟩
    · simp only [List.forIn_nil]
      exact wpAny_pure ⟨rfl, keepsRefl _⟩
    · rw [tv, List.getElem?_map] at hP
      cases hpi : (ps.filter ne)[i]? with
      | none => rw [hpi] at hP; cases hP
      | some p =>
        rw [hpi] at hP
        cases hP
        have hz2 : (S p.1).length ≤ sizeLine := by
          rw [S_len]
          have := (List.mem_filter.mp (List.mem_of_getElem? hpi)).1
          exact Nat.le_trans (hsz p this) (Nat.le_of_ble_eq_true rfl)
        walk1
        refine wpAny_Name (wpAny_loadName_local rfl (by rfl) hn hm ?_) (by decide)
        walk1
        walk1
        walk1
        exact ⟨⟨p, _, rfl, by rw [strip_S]; rfl⟩, _, _, rfl, fun _ _ e => e⟩
  case hgo =>
    intro s4 l hm hi
    have hn1 : (passing (fun _ => true) (ps.filter ne).length 0).length = (ps.filter ne).length := by rw [pass_all, List.length_range]
    have hl : l.map (·.1) = (((ps.map (·.1)).filter fun p => !p.isEmpty).map strp).map S := by
      have e0 : ((ps.map (·.1)).filter fun p => !p.isEmpty) = (ps.filter ne).map (·.1) := by rw [List.filter_map]; rfl
      have hlen : l.length = (ps.filter ne).length := by
        have := hi.1
        rw [hn1] at this
        simpa [strValues] using this
      rw [e0]
      refine List.ext_getElem? fun j => ?_
      by_cases hj : j < (ps.filter ne).length
      · have hjl : j < l.length := by rw [hlen]; exact hj
        obtain ⟨i, h1, p, t, h2, h3⟩ := hi.2 j (.str l[j].1 l[j].2) (by simp [strValues, hjl])
        rw [pass_all, List.getElem?_range hj] at h1
        cases h1
        injection h3 with h3 _
        simp [hjl, h2, h3]
      · simp [hj, hlen]
    have htot : tot (((ps.map (·.1)).filter fun p => !p.isEmpty).map strp) ≤ 100000 := Nat.le_trans (tot_filter _ _) hz
    rw [hl, show ∀ ts, Txt.join (Str.ofString "-") (ts.map S) = S (inter [45] ts) from fun ts => by rw [da_, txtJoin_S]]
    generalize hts : ((ps.map (·.1)).filter fun p => !p.isEmpty).map strp = ts at htot ⊢
    refine ⟨?_, fun t' k htk => ?_⟩
    · refine joinOk_of ?_
      have e : ((ts.map S).map (·.length)).sum + (ts.map S).length ≤ tot ts := by
        clear hts htot
        induction ts with
        | nil => simp [tot]
        | cons p r ih => simp [tot, S_len] at ih ⊢; omega
      rw [da_, S_len]; simp only [List.length_singleton, Nat.mul_one]; omega
    have H4 := H3.movedG (s' := { s4 with toks := k }) hm.drawn hm.os (fun b o e hb => hm.heap b o (fun hbm => ?nb) (Heap.get?_push_of_some _ (k3 b o e))) htk
    case nb =>
      rcases List.mem_cons.mp hbm with rfl | hbm
      · exact Nat.lt_irrefl _ (Heap.lt_size e)
      · rw [List.mem_singleton.mp hbm] at hb
        rcases hb with q | ⟨o', q⟩ | q
        · exact Nat.lt_irrefl _ (Nat.lt_of_lt_of_le (q ▸ HX.fs.ns.lt) hit)
        · exact Nat.lt_irrefl _ (Nat.lt_of_lt_of_le (Heap.lt_size (HX.fs.keep _ _ q)) hit)
        · exact itL (List.mem_singleton.mp q)
    have hl0 := inter1_len 45 ts
    have hplat : platF (ps.map (·.1)) = trimE (sq (rmU ((inter [45] ts).map mp))) := by rw [platF, hts]
    rw [hplat] at hQ
    generalize inter [45] ts = l0 at hQ hl0 ⊢
    have hl1 : l0.length ≤ 100000 := Nat.le_trans hl0 htot
    have hl2 : l0.length ≤ 1000000 := Nat.le_trans hl1 (by decide)
    have hok3 : TabOk op3 := ⟨_, Option.some.inj (c8.symm.trans hta3.2), c10⟩
    have hdr : s4.drawn = s.drawn := hm.drawn.trans (H3.eq_drawn)
    have hos : s4.os = s.os := hm.os.trans (H3.eq_os)
    have hgn : AllBare s.gens → AllBare s4.gens := fun hb => by
      refine AllBare.moved ?_ hm.gens
      refine AllBare.push ?_ rfl
      rw [show _ = s.gens from H3.eq_gens]; exact hb
    clear H3 H2 HX hm hi hl hst hnl hs' hn' k3 hk hk3 hF3 hI3 ha3 hcs htk3 c1 c2 c3 c4 c5 c6 c7 c8 hI hF
    walk_at "my:go"
    rename St _ _ _ _ _ _ _ _ _ => HX
    rw [show List.map (f1 41 45) (List.map (f1 40 45) (List.map (f1 34 45) (List.map (f1 59 45) (List.map (f1 58 45) (List.map (f1 92 45) (List.map (f1 47 45) (List.map (f1 32 95) l0))))))) = l0.map mp from by simp only [List.map_map]; rfl] at HX
    rw [show rp unk [] ((l0.map mp).length + 1) (l0.map mp) = rmU (l0.map mp) from rfl] at HX
    have hrl := rmU_len (l0.map mp)
    rw [List.length_map] at hrl
    generalize rmU (l0.map mp) = r0 at HX hrl hQ
    refine While_ (fun n lo led => ∃ l t, lo = [(Str.ofString "args", .ref a), (Str.ofString "platform", .str (S l) t)] ∧ led = [(23, .obj op3)] ∧ sq l = sq r0 ∧ l.length ≤ 100000 ∧ n = l.length) r0.length HX ⟨r0, _, rfl, rfl, rfl, Nat.le_trans hrl hl1, rfl⟩ ?_
    rintro n _ _ s5 ⟨l, t5, rfl, rfl, h1, h2, rfl⟩ H5
    clear HX
    have h3 : l.length ≤ 1000000 := Nat.le_trans h2 (by decide)
    by_cases k : rp [45, 45] [45] (l.length + 1) l = l
    · have c1 : (S (rp [45, 45] [45] (l.length + 1) l) == S l) = true := by rw [S_beq]; exact decide_eq_true k
      have hsq := cl_same k
      walk_at "my:go"
      rename St _ _ _ _ _ _ _ _ _ => HX
      refine While_ (fun n lo led => ∃ m t c, lo = [(Str.ofString "args", .ref a), (Str.ofString "platform", .str (S m) t), (Str.ofString "cleaned", c)] ∧ led = [(23, .obj op3)] ∧ trimE m = trimE l ∧ m.length ≤ 100000 ∧ n = m.length) l.length HX ⟨l, _, _, rfl, rfl, rfl, h2, rfl⟩ ?_
      rintro n _ _ s6 ⟨m, t6, v6, rfl, rfl, h4, h5, rfl⟩ H6
      clear HX
      have fin : ∀ s0 s7, s0.drawn = s.drawn → s0.os = s.os → s0.gens = s4.gens → St w mg mb s0 G L [(Str.ofString "args", .ref a), (Str.ofString "platform", .str (S m) t6), (Str.ofString "cleaned", v6)] [(23, .obj op3)] s7 → trimE m = m → Q (.str (S m) t6) s7 := fun s0 s7 d1 d2 d3 H7 e => by
        have h := hQ s7 t6 op3 (H7.eq_drawn.trans d1) (H7.eq_os.trans d2) (fun b o hb e => H7.fs.keep _ _ (hsg b o hb e)) (H7.obj (.head _)) hok3 H7.tk (fun hb => by rw [H7.eq_gens, d3]; exact hgn hb)
        rw [show trimE (sq r0) = m from by rw [← h1, hsq, ← h4, e]] at h
        exact h
      have h6 : (S m).length ≤ 1000000 := by rw [S_len]; exact Mine.lc [m.length] [(1, .v 0, .n 100000)] (1, .v 0, .n 1000000) rfl h5
      rcases List.eq_nil_or_concat m with rfl | ⟨m', c, rfl⟩
      · have c2 : (((S ([] : List Nat)).length : Int) != 0) = false := rfl
        walk_at "my:go"
        rename St _ _ _ _ _ _ _ _ _ => HZ
        exact fin _ _ (by rfl) (by rfl) (by rfl) HZ rfl
      · rw [List.concat_eq_append] at *
        have c2 : (((S (m' ++ [c])).length : Int) != 0) = true := by rw [S_len]; exact bne_iff_ne.mpr (by simp; omega)
        have i1 : -((S (m' ++ [c])).length : Int) ≤ -1 := by rw [S_len]; simp; exact Int.ofNat_le.mpr (show 1 ≤ m'.length + 1 from Mine.lc [m'.length] [] (1, .n 1, .a (.v 0) (.n 1)) rfl )
        have i2 : (-1 : Int) < (S (m' ++ [c])).length := by rw [S_len]; simp; omega
        have e6 : Txt.item (S (m' ++ [c])) (-1) = S [c] := by rw [item_last _ (by simp)]; simp
        by_cases kc : c = 45
        · have c3 : (Txt.item (S (m' ++ [c])) (-1) == Str.ofString "-") = true := by rw [e6, da_, S_beq]; exact decide_eq_true (by rw [kc])
          walk_at "my:go"
          rw [show Txt.slice (S (m' ++ [c])) none (some (-1)) = S m' from by rw [sl_last _ (by simp)]; simp] at *
          refine' ⟨m'.length, _, _, by simp, ⟨m', ?t8, ?v8, rfl, rfl, ?e8, by simp at h5; exact Mine.lc [m'.length] [(1, .v 0, .n 99999)] (1, .v 0, .n 100000) rfl h5, rfl⟩, ?z8⟩
          case z8 => walk_at "my:inv"
          case e8 => rw [← h4, kc, trimE_snoc]
        · have c3 : (Txt.item (S (m' ++ [c])) (-1) == Str.ofString "-") = false := by rw [e6, da_, S_beq]; exact decide_eq_false (by simpa using kc)
          walk_at "my:go"
          rename St _ _ _ _ _ _ _ _ _ => HZ
          exact fin _ _ (by rfl) (by rfl) (by rfl) HZ (trimE_same (by simpa using kc))
    · have c1 : (S (rp [45, 45] [45] (l.length + 1) l) == S l) = false := by rw [S_beq]; exact decide_eq_false k
      walk_at "my:go"
      refine' ⟨(rp [45, 45] [45] (l.length + 1) l).length, _, _, cl_less k, ⟨rp [45, 45] [45] (l.length + 1) l, ?t9, rfl, rfl, (sq_cl l).trans h1, Nat.le_trans (cl_len l) h2, rfl⟩, St.front (r := [(Str.ofString "cleaned", ?v9)]) ?z9⟩
      case z9 => walk_at "my:inv"
end

end
section
local macro_rules | `(tactic| walk_at "my:zz") => `(tactic| skip)
local macro_rules | `(tactic| walk_at "my:zz") => `(tactic| skip)
theorem storeC2_ {prog : Program} {w : World} {mg mb : Str → Option Value} {s₀ s : Shared} {g : Heap} {L : Addr} {lo : List (Str × Value)} {led led' : List (Addr × Ent)} {A : Around} {E : Value → Shared → Prop} {env : Env} {x : Str} {c : Addr} {o : Obj} {v₀ : Option Value} {v : Value} {Q : Unit → Shared → Prop} (H : St w mg mb s₀ g L lo led s) (hc : env.cells.lookup x = some c)
    (U : UpdE c (.obj o) (.obj { o with data := .cell (some v) }) led led') (hd : o.data = .cell v₀) (h : ∀ s', St w mg mb s₀ g L lo led' s' → Q () s')
    (hl : env.kindOf x = some .cell := by rfl) (hk : env.scope.kind = .function := by rfl) :
    wpAny (model prog w) A (storeName env x v) Q E s := storeC_ H hc hd U h hl hk
local macro_rules | `(tactic| walk_at "eval Name") => `(tactic| (refine ldC_ (by walk_at "my:st") (by rfl) (by walk_at "my:mem") (by assumption) ?_))
local macro_rules | `(tactic| walk_at "storeName") => `(tactic| ((refine storeC2_ (by walk_at "my:st") (by rfl) (by walk_at "my:upd") (by assumption) ?_); walk_at "my:i"))
local macro_rules | `(tactic| walk_at "truthy ref") => `(tactic| (refine truthyT_ (by walk_at "my:st") (St.obj (by walk_at "my:st") (by walk_at "my:mem")) (by walk_at "my:sz") ?_; walk_at "my:i"))
theorem tests0_ {M : Model} {A : Around} {E : Value → Shared → Prop} {s : Shared} {cenv : Env} {Q : Bool → Shared → Prop} (h : Q true s) : wpAny M A (testsOf [] cenv) Q E s := by
  simp only [testsOf, List.forIn_nil]; exact wpAny_pure h
theorem tests1_ {M : Model} {A : Around} {E : Value → Shared → Prop} {s : Shared} {cenv : Env} {c : Expr} {Q : Bool → Shared → Prop} (h : wpAny M A (isTrue c cenv (eval c cenv)) Q E s) : wpAny M A (testsOf [c] cenv) Q E s := by
  simp only [testsOf, List.forIn_cons, List.forIn_nil, if_true]
  exact wpAny_bind (wpAny_bind (wpAny_mono h (fun b s' hb => wpAny_pure (wpAny_pure hb)) fun _ _ x => x))
noncomputable def keepN (c : List Nat) : Bool := !c.isEmpty && !(c == [46])
theorem filt_spot {xs : List (List Nat)} (h : Good xs) : (sp 47 (47 :: inter [47] xs)).filter keepN = xs := by
  rw [sp_cons, if_pos rfl, List.filter_cons_of_neg (by simp [keepN])]
  by_cases e : xs = []
  · subst e; rfl
  · rw [sp_inter e fun p hp => (h p hp).2.2.2]
    refine List.filter_eq_self.mpr fun p hp => ?_
    have := h p hp
    simp [keepN, this.1, this.2.1]
noncomputable abbrev rowE (p : Row) : Addr × Ent := (p.1, .lst (tv p.2))
local macro_rules | `(tactic| walk_at "my:gol") => `(tactic| repeat' (first
  | ((fail_if_success (with_reducible show Exists _)); (fail_if_success (with_reducible show wpAny _ _ (exec (Stmt.For _ _ _ _ _) _) _ _ _)); (fail_if_success (with_reducible show wpAny _ _ (exec (Stmt.While _ _ _ _) _) _ _ _)); (fail_if_success (with_reducible show wpAny _ _ (exec (Stmt.Try _ _ _ _ _) _) _ _ _)); (fail_if_success (with_reducible show wpAny _ _ (exec (Stmt.Assign _ (Expr.ListComp _ _ _ _) _) _) _ _ _)); (fail_if_success (with_reducible show wpAny _ _ (eval (Expr.ListComp _ _ _ _) _) _ _ _)); (fail_if_success (with_reducible show wpAny _ _ (eval (Expr.SetComp _ _ _ _) _) _ _ _)); walk1)))
local macro_rules | `(tactic| walk_at "assign Tuple") => `(tactic| (refine asgSet_ (by walk_at "my:st") (by walk_at "my:hh") (by walk_at "my:mem") (by walk_at "my:set") ?_; walk_at "my:i"))
section
variable {prog : Program} {w : World} {mg mb : Str → Option Value} {s : Shared} {A : Around} {E : Value → Shared → Prop} {Q : Value → Shared → Prop} {t : Tok}
theorem commonpath_ {lp : Addr} {vs : List (List Nat × Tok)} {rows : List (List (List Nat))} (C : Cx w mg mb s.heap) (hr : Room A 6) (hts : 1 ≤ s.toks) (hl : s.heap.IsList lp (tv vs).toArray)
    (hv : vs.map (·.1) = rows.map fun xs => 47 :: inter [47] xs) (hg : ∀ xs ∈ rows, Good xs) (hne : rows ≠ []) (hz : ∀ xs ∈ rows, tot xs ≤ 90000) (hn : rows.length ≤ 1000)
    (hQ : ∀ s' t' p q, p ∈ rows → q ∈ rows → (∀ r ∈ rows, ltT r p = false) → (∀ r ∈ rows, ltT q r = false) → Keeps s s' → 1 ≤ s'.toks → Q (.str (S (47 :: inter [47] (p.take (shL p q)))) t') s') :
    wpAny (model prog w) A (call (.ref 177) [.ref lp]) Q E s := by
  have hlen : vs.length = rows.length := by have := congrArg List.length hv; simpa using this
  have hstr : ∀ v ∈ tv vs, ∃ x t, v = .str x t := fun v hv => by
    obtain ⟨p, _, rfl⟩ := List.mem_map.mp hv; exact ⟨_, _, rfl⟩
  have z1 : (tv vs).length ≤ sizeLine := by rw [tv_len]; exact Nat.le_trans (by exact Mine.lc [rows.length, vs.length] [(1, .v 0, .n 1000), (1, .v 1, .v 0)] (1, .v 1, .n 1000000) rfl hn (Nat.le_of_eq hlen)) (show 1000000 ≤ sizeLine from Nat.le_of_ble_eq_true rfl)
  have z2 : (tv vs).length ≤ 1000000 := by rw [tv_len]; exact Mine.lc [rows.length, vs.length] [(1, .v 0, .n 1000), (1, .v 1, .v 0)] (1, .v 1, .n 1000000) rfl hn (Nat.le_of_eq hlen)
  have c1 : (!(tv vs).isEmpty) = true := by
    cases vs with
    | nil => exact absurd (by simpa using hlen.symm) hne
    | cons v r => rfl
  obtain ⟨v0, hv0⟩ : ∃ v0, vs[0]? = some v0 := by
    cases vs with
    | nil => exact absurd (by simpa using hlen.symm) hne
    | cons v r => exact ⟨v, rfl⟩
  have hv0' : (tv vs)[0]? = some (.str (S v0.1) v0.2) := by rw [tv, List.getElem?_map, hv0]; rfl
  refine enterC_ (x₁ := Str.ofString "sep") (x₂ := Str.ofString "curdir") (binds := [(Str.ofString "paths", .ref lp)]) (lo := [(Str.ofString "paths", .ref lp)]) C hr hts (by rfl) (by rfl) (by rfl) ?_ ?_ (fun n => by rfl) (by decide) ?_ rfl rfl rfl
  · intro x hx; rw [List.mem_singleton.mp hx]; rfl
  · intro y v e
    show (if y = Str.ofString "paths" then some (Value.ref lp) else none) = some v
    unfold lk at e
    rw [List.lookup_cons] at e
    cases hb : y == Str.ofString "paths" with
    | true => rw [hb] at e; rw [if_pos (beq_iff_eq.mp hb)]; exact e
    | false => rw [hb] at e; cases e
  intro L s' o₁ o₂ hd₁ hd₂ H R
  walk_at "my:go"
  rename St _ _ _ _ _ _ _ _ _ => HX
  refine map_ HX (HX.blst hl) fun m s1 H1 ho hM hl1 => ?_
  clear HX
  walk_at "my:go"
  rename St _ _ _ _ _ _ _ _ _ => HX
  refine tupM_ HX (R.le (by decide)) hl1 ho hM hstr z1 fun T s2 H2 => ?_
  clear HX ho hM hl1
  walk_at "my:go"
  rename St _ _ _ _ _ _ _ _ _ => HX
  refine itemT_ (HX.obj (.head _)) rfl hv0' ?_
  walk_at "my:go"
  refine Try_ ?_
  walk_at "my:gol"
  rename St _ _ _ _ _ _ _ _ _ => HX
  rename Shared => s5
  obtain ⟨oa, ob, t1, t2, hda, hdb, HX⟩ : ∃ oa ob t1 t2, oa.data = .cell (some (.str (Str.ofString "/") t1)) ∧ ob.data = .cell (some (.str (Str.ofString ".") t2)) ∧
    St w mg mb s s.heap L [(Str.ofString "paths", .ref T)] [(T, .obj (tupO (tv vs))), (L + 1, .obj oa), (L + 1 + 1, .obj ob)] s5 := ⟨_, _, _, _, rfl, rfl, HX⟩
  have nd := HX.fs.nd
  simp only [List.map_cons, List.map_nil, List.nodup_cons, List.mem_cons, List.not_mem_nil, or_false, not_or] at nd
  obtain ⟨g1, hg1, H3, -, hbo⟩ := HX.basedR (led' := [(L + 1, .obj _), (L + 1 + 1, .obj _)]) (.cons _ (List.Sublist.refl _))
  have hT1 := hbo T _ (.head _) (by simp; exact nd.1)
  clear HX hbo
  refine compB_ (mg := mg) (mb := mb) (g := g1) (L := L) (n := (tv vs).length) (P := fun i v => (tv vs)[i]? = some v) (cl := [(Str.ofString "sep", L + 1)]) (lof := fun v => [(Str.ofString "paths", .ref T), (Str.ofString "split_paths", v)]) z1 (by rfl) (by decide) rfl (by decide) (fun _ => by rfl)
    (fun i s0 ys led => s0 = s ∧ ∃ rws : List Row, ys = rowsV rws ∧ led = (L + 1, .obj oa) :: (L + 1 + 1, .obj ob) :: rws.reverse.map rowE ∧ rws.map Row.nm = (rows.take i).map fun xs => sp 47 (47 :: inter [47] xs))
    ⟨rfl, [], rfl, rfl, rfl⟩ ?_ ?_ (fun v => by walk_at "my:set") ?_
  · walk_at "my:go"
    refine itT_ R.hh H3 hT1 fun it s3 H4 hW => ⟨H4, hW⟩
  · rintro C D oL i v s0 ys led₁ its s3 hi hP ⟨es, rws, rfl, rfl, hnm⟩ H4
    subst s0
    obtain ⟨b, u, rfl, hb1, -⟩ := tv_get hP
    rw [hv, List.getElem?_map] at hb1
    obtain ⟨xs, hxs, rfl⟩ : ∃ xs, rows[i]? = some xs ∧ 47 :: inter [47] xs = b := by
      cases hx : rows[i]? with
      | none => rw [hx] at hb1; cases hb1
      | some xs => rw [hx] at hb1; exact ⟨xs, rfl, by simpa using hb1⟩
    have hsz : (S (47 :: inter [47] xs)).length ≤ 1000000 := by
      rw [S_len]; have := hz xs (List.mem_of_getElem? hxs); have := inter_len xs; simp; exact Mine.lc [tot xs, (inter [47] xs).length] [(1, .v 0, .n 90000), (1, .v 1, .v 0)] (1, .v 1, .n 999999) rfl (by assumption) this
    refine tests0_ ?_
    rw [if_pos rfl]
    simp only [List.cons_append] at H4
    walk_at "my:go"
    rename_i ps2 D2 s4 e4 H5
    refine ⟨_, _, [(Str.ofString "path", .str (S (47 :: inter [47] xs)) u)], ⟨rfl, rws ++ [(D2, ps2)], by simp [rowsV], rfl, ?_⟩, ?_⟩
    · rw [take_snoc hxs, List.map_append, List.map_append, ← hnm]
      simp only [List.map_cons, List.map_nil, Row.nm, e4]
    · have := H5.perm (List.perm_middle (l₁ := [(D, Ent.lst (rowsV rws)), (L, .obj oL), (L + 1, .obj oa), (L + 1 + 1, .obj ob)]) (l₂ := rws.reverse.map rowE ++ its)).symm
      simpa using this
  · rintro D s0 ys led₁ s3 ⟨es, rws, rfl, rfl, hnm⟩ H4
    subst s0
    rw [tv_len, hlen, List.take_length] at hnm
    walk_at "my:gol"
    refine Try_ ?_
    walk_at "my:gol"
    rename St _ _ _ _ _ _ _ _ _ => HX
    have nd2 := HX.fs.nd
    simp only [List.map_cons, List.nodup_cons, List.mem_cons, not_or] at nd2
    have hrw : ∀ p ∈ rws, p.1 ≠ L + 1 ∧ p.1 ≠ L + 1 + 1 := fun p hp => by
      have : p.1 ∈ List.map (fun x => x.1) (List.map rowE rws.reverse) := List.mem_map.mpr ⟨rowE p, List.mem_map_of_mem (List.mem_reverse.mpr hp), rfl⟩
      exact ⟨fun q => nd2.2.1.2 (q ▸ this), fun q => nd2.2.2.1 (q ▸ this)⟩
    obtain ⟨g2, hg2, H5, hbl, -⟩ := HX.basedR (led' := [(L + 1, .obj oa), (L + 1 + 1, .obj ob)]) (.cons _ (.cons_cons _ (.cons_cons _ (List.nil_sublist _))))
    have hD2 := (hbl D _ (.head _) (by simp only [List.map_cons, List.map_nil, List.mem_cons, List.not_mem_nil, or_false, not_or]; exact ⟨nd2.1.1, nd2.1.2.1⟩)).isList
    have hrows2 : ∀ p ∈ rws, g2.IsList p.1 (tv p.2).toArray := fun p hp => (hbl p.1 _ (.tail _ (.tail _ (.tail _ (List.mem_map.mpr ⟨p, List.mem_reverse.mpr hp, rfl⟩)))) (by simpa using hrw p hp)).isList
    have hT2 := hg2 _ _ hT1
    clear HX hbl
    refine compS_ (s₀ := s) (mg := mg) (mb := mb) (g := g2) (L := L) (n := (tv vs).length) (P := fun i v => (tv vs)[i]? = some v) (cl := [(Str.ofString "sep", L + 1)]) (lo := [(Str.ofString "paths", .ref T), (Str.ofString "split_paths", .ref D)]) (led := [(L + 1, .obj oa), (L + 1 + 1, .obj ob)])
      (by rw [tv_len, hlen]; exact List.length_pos_iff.mpr hne) (by rfl) (by decide) rfl (by decide) (fun _ => by rfl) ?_ ?_ ?_
    · walk_at "my:go"
      refine itT_ R.hh H5 hT2 fun it s4 H6 hW => ⟨H6, hW⟩
    · intro C D' oD oL i v its s4 hi hP H6
      obtain ⟨b, u, rfl, hb1, -⟩ := tv_get hP
      rw [hv, List.getElem?_map] at hb1
      obtain ⟨xs, hxs, rfl⟩ : ∃ xs, rows[i]? = some xs ∧ 47 :: inter [47] xs = b := by
        cases hx : rows[i]? with
        | none => rw [hx] at hb1; cases hb1
        | some xs => rw [hx] at hb1; exact ⟨xs, rfl, by simpa using hb1⟩
      simp only [List.cons_append] at H6
      walk_at "my:go"
      · rw [slash_, starts_S]; rfl
      · exact ⟨_, by assumption⟩
    · intro DS s4 H6
      walk_at "my:gol"
      rename St _ _ _ _ _ _ _ _ _ => HX
      have hlr : rws.length = rows.length := by have := congrArg List.length hnm; simpa using this
      have zr : (rowsV rws).length ≤ sizeLine := by rw [rowsV, List.length_map, hlr]; exact Nat.le_trans hn (Nat.le_of_ble_eq_true rfl)
      refine compB_ (s₀ := s) (mg := mg) (mb := mb) (g := g2) (L := L) (n := (rowsV rws).length) (P := fun i v => (rowsV rws)[i]? = some v) (cl := [(Str.ofString "curdir", L + 1 + 1)]) (lo := [(Str.ofString "paths", .ref T), (Str.ofString "split_paths", .ref D), (Str.ofString "isabs", .bool true)])
        (lof := fun v => [(Str.ofString "paths", .ref T), (Str.ofString "split_paths", v), (Str.ofString "isabs", .bool true)]) zr (by rfl) (by decide) rfl (by decide) (fun _ => by rfl)
        (fun i s1 ys led => s1 = s ∧ ∃ rw2 : List Row, ys = rowsV rw2 ∧ led = (DS, .obj (set1 w)) :: (L + 1, .obj oa) :: (L + 1 + 1, .obj ob) :: rw2.reverse.map rowE ∧ rw2.map Row.nm = rows.take i)
        ⟨rfl, [], rfl, rfl, rfl⟩ ?_ ?_ (fun v => by walk_at "my:set") ?_
      · walk_at "my:go"
        rename St _ _ _ _ _ _ _ _ _ => HZ
        exact itL_ R.hh HZ hD2 fun it s5 H7 hW => ⟨H7, hW⟩
      · rintro C D3 oL i v s1 ys led₁ its s5 hi hP ⟨es, rw2, rfl, rfl, hnm2⟩ H7
        subst s1
        clear HX
        obtain ⟨p, hp, rfl⟩ := rowsV_get (rows := rws) (i := i) (v := v) (by simpa using hP)
        have hpm := List.mem_of_getElem? hp
        obtain ⟨xs, hxs, hpx⟩ : ∃ xs, rows[i]? = some xs ∧ Row.nm p = sp 47 (47 :: inter [47] xs) := by
          have := congrArg (·[i]?) hnm
          simp only [List.getElem?_map, hp, Option.map_some] at this
          cases hx : rows[i]? with
          | none => rw [hx] at this; cases this
          | some xs => rw [hx] at this; exact ⟨xs, rfl, by simpa using this⟩
        have hxm := List.mem_of_getElem? hxs
        have hpt : tot p.nm ≤ 100000 := by
          rw [hpx, tot_sp]; have := hz xs hxm; have := inter_len xs; simp; exact Mine.lc [tot xs, (inter [47] xs).length] [(1, .v 0, .n 90000), (1, .v 1, .v 0)] (1, .v 1, .n 99998) rfl (by assumption) this
        have zp : (tv p.2).length ≤ sizeLine := by
          rw [tv_len]
          have h1 := len_tot p.nm
          have h2 : p.nm.length = p.2.length := by simp [Row.nm]
          exact Nat.le_trans (by exact Mine.lc [tot p.nm, p.nm.length, p.snd.length] [(1, .v 0, .n 100000), (1, .v 1, .v 0), (1, .v 2, .v 1)] (1, .v 2, .n 1000000) rfl hpt h1 (Nat.le_of_eq (h2).symm)) (show 1000000 ≤ sizeLine from Nat.le_of_ble_eq_true rfl)
        refine tests0_ ?_
        rw [if_pos rfl]
        simp only [List.cons_append] at H7
        refine compE_ (s₀ := s) (mg := mg) (mb := mb) (g := g2) (L := C) (lo := [(Str.ofString "s", .ref p.1)]) (led := (D3, .lst (rowsV rw2)) :: (L, .obj oL) :: (DS, .obj (set1 w)) :: (L + 1, .obj oa) :: (L + 1 + 1, .obj ob) :: (rw2.reverse.map rowE ++ its))
          (n := (tv p.2).length) (P := fun i v => (tv p.2)[i]? = some v) (cl := [(Str.ofString "curdir", L + 1 + 1)]) zp (by rfl) (by decide) rfl (by decide) (fun _ => by rfl)
          (fun j s2 ys led => s2 = s ∧ led = (D3, .lst (rowsV rw2)) :: (L, .obj oL) :: (DS, .obj (set1 w)) :: (L + 1, .obj oa) :: (L + 1 + 1, .obj ob) :: (rw2.reverse.map rowE ++ its) ∧ ∃ qs : List (List Nat × Tok), ys = tv qs ∧ qs.map (·.1) = (p.nm.take j).filter keepN)
          ⟨rfl, rfl, [], rfl, rfl⟩ ?_ ?_ ?_
        · walk_at "my:go"
          rename St _ _ _ _ _ _ _ _ _ => HZ
          exact itL_ R.hh HZ (hrows2 p hpm) fun it s6 H8 hW => ⟨H8, hW⟩
        · rintro C2 D4 oL2 j v s2 ys led2 its2 s6 hj hP2 ⟨es2, rfl, qs, rfl, hq⟩ H8
          subst s2
          clear H7
          obtain ⟨c, u, rfl, hc1, -⟩ := tv_get hP2
          simp only [List.cons_append] at H8
          have hk : p.nm.take (j + 1) = p.nm.take j ++ [c] := take_snoc hc1
          have hcz : (S c).length ≤ 1000000 := by
            rw [S_len]
            have := tot_mem (ts := p.nm) (List.mem_of_getElem? hc1)
            exact Mine.lc [tot p.nm, c.length] [(1, .v 0, .n 100000), (1, .a (.v 1) (.n 1), .v 0)] (1, .v 1, .n 1000000) rfl hpt this
          refine tests1_ ?_
          by_cases k1 : c = []
          · have c2 : (((S c).length : Int) != 0) = false := by rw [S_len, k1]; rfl
            walk_at "my:go"
            refine ⟨_, _, [(Str.ofString "c", .str (S c) u)], ⟨rfl, rfl, qs, rfl, ?_⟩, by assumption⟩
            rw [hk, List.filter_append, hq, k1]; simp [keepN]
          have c2 : (((S c).length : Int) != 0) = true := by rw [S_len]; exact bne_iff_ne.mpr (by have := List.length_pos_iff.mpr k1; omega)
          by_cases k2 : c = [46]
          · have c3 : (S c != Str.ofString ".") = false := by rw [dot_, S_bne]; simp [k2]
            walk_at "my:go"
            refine ⟨_, _, [(Str.ofString "c", .str (S c) u)], ⟨rfl, rfl, qs, rfl, ?_⟩, by assumption⟩
            rw [hk, List.filter_append, hq, k2]; simp [keepN]
          · have c3 : (S c != Str.ofString ".") = true := by rw [dot_, S_bne]; simp [k2]
            walk_at "my:go"
            refine ⟨_, _, [(Str.ofString "c", .str (S c) u)], ⟨rfl, rfl, qs ++ [(c, u)], (tv_snoc _ _ _).symm, ?_⟩, by assumption⟩
            rw [hk, List.filter_append, ← hq, List.map_append, List.filter_cons_of_pos (by simp [keepN, k1, k2])]; rfl
        · rintro D4 s2 ys led2 s6 ⟨es2, rfl, qs, rfl, hq⟩ H8
          subst s2
          refine ⟨_, (DS, .obj (set1 w)) :: (L + 1, .obj oa) :: (L + 1 + 1, .obj ob) :: ((rw2 ++ [(D4, qs)]).reverse.map rowE), [(Str.ofString "s", .ref p.1)], ⟨rfl, rw2 ++ [(D4, qs)], by simp [rowsV], rfl, ?_⟩, ?_⟩
          · rw [take_snoc hxs, List.map_append, hnm2]
            simp only [List.map_cons, List.map_nil]
            rw [show Row.nm (D4, qs) = xs from by
              show qs.map (·.1) = xs
              rw [hq, tv_len, List.take_of_length_le (by simp [Row.nm]), hpx, filt_spot (hg xs hxm)]]
          · have := H8.perm (List.perm_middle (l₁ := [(D3, Ent.lst (rowsV rw2)), (L, .obj oL), (DS, .obj (set1 w)), (L + 1, .obj oa), (L + 1 + 1, .obj ob)]) (l₂ := rw2.reverse.map rowE ++ its)).symm
            simpa using this
      · rintro D3 s1 ys led₁ s5 ⟨es, rw2, rfl, rfl, hnm2⟩ H7
        subst s1
        clear HX
        rw [show (rowsV rws).length = rows.length from by rw [rowsV, List.length_map, hlr], List.take_length] at hnm2
        have nd3 := H7.fs.nd
        simp only [List.map_cons, List.nodup_cons, List.mem_cons, not_or] at nd3
        have hrw2 : ∀ p ∈ rw2, p.1 ≠ L + 1 ∧ p.1 ≠ L + 1 + 1 := fun p hp => by
          have : p.1 ∈ List.map (fun x => x.1) (List.map rowE rw2.reverse) := List.mem_map.mpr ⟨rowE p, List.mem_map_of_mem (List.mem_reverse.mpr hp), rfl⟩
          exact ⟨fun q => nd3.2.2.1.2 (q ▸ this), fun q => nd3.2.2.2.1 (q ▸ this)⟩
        obtain ⟨g3, hg3, H8, hbl, -⟩ := H7.basedR (led' := [(L + 1, .obj oa), (L + 1 + 1, .obj ob)]) (.cons _ (.cons _ (.cons_cons _ (.cons_cons _ (List.nil_sublist _)))))
        have hD3 := (hbl D3 _ (.head _) (by simp only [List.map_cons, List.map_nil, List.mem_cons, List.not_mem_nil, or_false, not_or]; exact ⟨nd3.1.2.1, nd3.1.2.2.1⟩)).isList
        have hrows3 : ∀ p ∈ rw2, g3.PlainList p.1 (tv p.2).toArray := fun p hp => hbl p.1 _ (.tail _ (.tail _ (.tail _ (.tail _ (List.mem_map.mpr ⟨p, List.mem_reverse.mpr hp, rfl⟩))))) (by simpa using hrw2 p hp)
        have hne2 : rw2 ≠ [] := fun q => hne (by rw [← hnm2, q]; rfl)
        have hin : ∀ p ∈ rw2, p.nm ∈ rows := fun p hp => by rw [← hnm2]; exact List.mem_map_of_mem hp
        have hall : ∀ (P : List (List Nat) → Prop), (∀ p ∈ rw2, P p.nm) → ∀ r ∈ rows, P r := fun P h r hr => by
          rw [← hnm2] at hr
          obtain ⟨p, hp, rfl⟩ := List.mem_map.mp hr
          exact h p hp
        clear H7 hbl
        walk_at "my:go"
        rename St _ _ _ _ _ _ _ _ _ => HX
        refine minL_ HX R hD3 hrows3 hne2 fun p s6 hp hpb H9 => ?_
        clear HX
        walk_at "my:go"
        rename St _ _ _ _ _ _ _ _ _ => HX
        refine maxL_ HX R hD3 hrows3 hne2 fun q s7 hq hqb H10 => ?_
        clear HX
        walk_at "my:go"
        refine For_ ?_
        walk_at "my:go"
        rename St _ _ _ _ _ _ _ _ _ => HX
        have hpl := (hrows3 p hp).isList
        have hql := (hrows3 q hq).isList
        have hpq := hpb q hq
        have hpt := hz _ (hin p hp)
        have hqt := hz _ (hin q hq)
        have hQ' := fun s' t' => hQ s' t' p.nm q.nm (hin p hp) (hin q hq) (hall (fun r => ltT r p.nm = false) hpb) (hall (fun r => ltT q.nm r = false) hqb)
        have hp2 : p.2.length ≤ 100000 := by
          have h1 := len_tot p.nm
          have h2 : p.nm.length = p.2.length := by simp [Row.nm]
          exact Mine.lc [tot p.nm, p.nm.length, p.snd.length] [(1, .v 0, .n 90000), (1, .v 1, .v 0), (1, .v 2, .v 1)] (1, .v 2, .n 100000) rfl hpt h1 (Nat.le_of_eq (h2).symm)
        have hq2 : q.2.length ≤ 100000 := by
          have h1 := len_tot q.nm
          have h2 : q.nm.length = q.2.length := by simp [Row.nm]
          exact Mine.lc [tot q.nm, q.nm.length, q.snd.length] [(1, .v 0, .n 90000), (1, .v 1, .v 0), (1, .v 2, .v 1)] (1, .v 2, .n 100000) rfl hqt h1 (Nat.le_of_eq (h2).symm)
        have hpt' : ∀ i, tot ((p.2.take i).map (·.1)) ≤ 1000000 := fun i => by
          have e := tot_app (p.nm.take i) (p.nm.drop i)
          rw [List.take_append_drop] at e
          rw [List.map_take]
          show tot (p.nm.take i) ≤ _
          exact Mine.lc [tot p.nm, tot (List.take i p.nm), tot (List.drop i p.nm)] [(1, .v 0, .n 90000), (1, .a (.v 1) (.v 2), .v 0)] (1, .v 1, .n 1000000) rfl hpt (Nat.le_of_eq (e).symm)
        refine forEf_ R.hh HX hpl (by rfl) (by rfl) (fun i => p.nm.take i = q.nm.take i) rfl ?_ ?_
        · intro i ti v its s₃ hv hI H₃
          clear HX
          rw [List.cons_append, List.cons_append, List.nil_append] at H₃
          obtain ⟨c, u, rfl, hc1, -⟩ := tv_get hv
          have hi : i < p.nm.length := (List.getElem?_eq_some_iff.mp hc1).1
          have hi2 : i < q.nm.length := ltT_len i _ _ hpq hI hi
          have hq0 : i < q.2.length := by simpa [Row.nm] using hi2
          have hq1 : (tv q.2)[((i : Nat) : Int).toNat]? = some (.str (S q.2[i].1) q.2[i].2) := by simp [tv, hq0]
          have hqd : q.nm[i]? = some q.2[i].1 := by simp [Row.nm, hq0]
          generalize q.2[i].1 = d at hq1 hqd
          generalize q.2[i].2 = ud at hq1
          walk_at "my:go"
          refine item_ (St.blst (by walk_at "my:st") hql) (Int.natCast_nonneg _) (by exact Int.ofNat_lt.mpr (show i < 1000000 from Mine.lc [q.snd.length, i] [(1, .v 0, .n 100000), (1, .a (.v 1) (.n 1), .v 0)] (1, .a (.v 1) (.n 1), .n 1000000) rfl hq2 hq0)) hq1 ?_
          by_cases k : c = d
          · have c3 : (S c != S d) = false := by rw [S_bne]; simp [k]
            walk_at "my:go"
            refine' ⟨[?n1, ?n2], ?e1, ?z1⟩
            case z1 => walk_at "my:inv"
            case e1 => rw [List.take_add_one, List.take_add_one, hI, hqd, ← k]; rw [show p.nm[i]? = some c from hc1]
          · have c3 : (S c != S d) = true := by rw [S_bne]; simp [k]
            have hpz : (tv p.2).length ≤ sizeLine := by
              rw [tv_len]; exact Nat.le_trans hp2 (Nat.le_of_ble_eq_true rfl)
            walk_at "my:goi"
            rename St _ _ _ _ _ _ _ _ _ => HX
            rw [show (slicePick (tv p.2).toArray none (some (i : Int)) none).toList = tv (p.2.take i) from by rw [slicePick_upto']; simp [tv]] at HX
            have l1 := hpt' i
            have e5 : (p.2.take i).map (·.1) = p.nm.take (shL p.nm q.nm) := by
              rw [shL_at i p.nm q.nm c d hI hc1 hqd k, List.map_take]; rfl
            have l2 : (Str.ofString "/").length + (S (inter [47] ((p.2.take i).map (·.1)))).length ≤ sizeLine := by
              have h3 := Nat.le_trans (inter_len ((p.2.take i).map (·.1))) l1
              rw [slash_, S_len, S_len, sizeLine_eq, List.length_singleton]; exact Mine.lc [(inter [47] (List.map (Prod.fst) (List.take i p.snd))).length] [(1, .v 0, .n 1000000)] (1, .a (.n 1) (.v 0), .n 16777216) rfl h3
            walk_at "my:go"
            rename St _ _ _ _ _ _ _ _ _ => HZ
            rw [slash_, S_app, e5]
            exact hQ' _ _ HZ.keeps HZ.tk
        · intro s₃ hI H₃
          clear HX
          rw [tv_len] at hI
          have h2 : p.2.length = p.nm.length := by simp [Row.nm]
          have e5 : p.2.map (·.1) = p.nm.take (shL p.nm q.nm) := by
            rw [shL_end p.nm q.nm (by rw [← h2, ← hI]; exact (List.take_of_length_le (Nat.le_of_eq h2.symm)).symm), List.take_length]; rfl
          have l1 : tot (p.2.map (·.1)) ≤ 1000000 := Nat.le_trans hpt (by decide)
          have l2 : (Str.ofString "/").length + (S (inter [47] (p.2.map (·.1)))).length ≤ sizeLine := by
            rw [slash_, S_len, S_len, sizeLine_eq]; have := inter_len (p.2.map (·.1)); simp; exact Mine.lc [tot (List.map (Prod.fst) p.snd), (inter [47] (List.map (Prod.fst) p.snd)).length] [(1, .v 0, .n 1000000), (1, .v 1, .v 0)] (1, .a (.n 1) (.v 1), .n 16777216) rfl l1 this
          walk_at "my:go"
          rename St _ _ _ _ _ _ _ _ _ => HZ
          rw [slash_, S_app, e5]
          exact hQ' _ _ HZ.keeps HZ.tk
end

end
section
local macro_rules | `(tactic| walk_at "call builtin:min") => `(tactic| (refine min2_ (by walk_at "my:st") (by walk_at "my:hh") ?_; walk_at "my:i"))
section
variable {prog : Program} {w : World} {mg mb : Str → Option Value} {s : Shared} {A : Around} {E : Value → Shared → Prop} {Q : Value → Shared → Prop} {t : Tok}
theorem shared_ {a b : Addr} {ps qs : List (List Nat × Tok)} (C : Cx w mg mb s.heap) (hr : Room A 2) (hts : 1 ≤ s.toks) (ha : s.heap.IsList a (tv ps).toArray) (hb : s.heap.IsList b (tv qs).toArray)
    (hz1 : ps.length ≤ 100000) (hz2 : qs.length ≤ 100000)
    (hQ : ∀ s' t', Keeps s s' → 1 ≤ s'.toks → Q (.int (shL (ps.map (·.1)) (qs.map (·.1)) : Nat) t') s') :
    wpAny (model prog w) A (call (.ref 210) [.ref a, .ref b]) Q E s := by
  have z1 : (tv ps).length ≤ 1000000 := by rw [tv_len]; exact Mine.lc [ps.length] [(1, .v 0, .n 100000)] (1, .v 0, .n 1000000) rfl hz1
  have z2 : (tv qs).length ≤ 1000000 := by rw [tv_len]; exact Mine.lc [qs.length] [(1, .v 0, .n 100000)] (1, .v 0, .n 1000000) rfl hz2
  refine enter_ (binds := [(Str.ofString "low", .ref a), (Str.ofString "high", .ref b)]) (lo := [(Str.ofString "high", .ref b), (Str.ofString "low", .ref a)]) C hr hts (by rfl) (by rfl) (by rfl) (by rfl) (by rfl) ?_ (by decide) rfl rfl rfl
  intro L s' H R
  walk_at "my:go"
  rename St _ _ _ _ _ _ _ _ _ => HX
  refine While_ (fun n lo led => ∃ k t, lo = [(Str.ofString "high", .ref b), (Str.ofString "low", .ref a), (Str.ofString "count", .int (k : Nat) t)] ∧ led = [] ∧ k ≤ ps.length ∧ k ≤ qs.length ∧ (ps.map (·.1)).take k = (qs.map (·.1)).take k ∧ n = ps.length - k) ps.length HX ⟨0, _, rfl, rfl, Nat.zero_le _, Nat.zero_le _, rfl, rfl⟩ ?_
  rintro n _ _ s5 ⟨k, tk, rfl, rfl, h1, h2, h3, rfl⟩ H5
  clear HX
  have i0 : (0 : Int) ≤ (k : Nat) := Int.natCast_nonneg _
  have i1 : ((k : Nat) : Int) < 1000000 := by exact Int.ofNat_lt.mpr (show k < 1000000 from Mine.lc [ps.length, k] [(1, .v 0, .n 100000), (1, .v 1, .v 0)] (1, .a (.v 1) (.n 1), .n 1000000) rfl hz1 h1)
  by_cases c : k < min ps.length qs.length
  · have c1 : decide (((k : Nat) : Int) < ((min (tv ps).length (tv qs).length : Nat) : Int)) = true := by rw [tv_len, tv_len]; exact decide_eq_true (by exact Int.ofNat_lt.mpr (show k < min ps.length qs.length from Mine.lc [k, min ps.length qs.length] [(1, .a (.v 0) (.n 1), .v 1)] (1, .a (.v 0) (.n 1), .v 1) rfl c))
    have g1 := tvg (show k < ps.length by exact Mine.lc [k, min ps.length qs.length, ps.length] [(1, .a (.v 0) (.n 1), .v 1), (1, .v 1, .v 2)] (1, .a (.v 0) (.n 1), .v 2) rfl c (Nat.min_le_left ( ps.length) ( qs.length)))
    have g2 := tvg (show k < qs.length by exact Mine.lc [k, min ps.length qs.length, qs.length] [(1, .a (.v 0) (.n 1), .v 1), (1, .v 1, .v 2)] (1, .a (.v 0) (.n 1), .v 2) rfl c (Nat.min_le_right ( ps.length) ( qs.length)))
    have e1 : (ps.map (·.1))[k]? = some (ps[k]'(by omega)).1 := by simp [show k < ps.length by exact Mine.lc [k, min ps.length qs.length, ps.length] [(1, .a (.v 0) (.n 1), .v 1), (1, .v 1, .v 2)] (1, .a (.v 0) (.n 1), .v 2) rfl c (Nat.min_le_left ( ps.length) ( qs.length))]
    have e2 : (qs.map (·.1))[k]? = some (qs[k]'(by omega)).1 := by simp [show k < qs.length by exact Mine.lc [k, min ps.length qs.length, qs.length] [(1, .a (.v 0) (.n 1), .v 1), (1, .v 1, .v 2)] (1, .a (.v 0) (.n 1), .v 2) rfl c (Nat.min_le_right ( ps.length) ( qs.length))]
    generalize (ps[k]'(by omega)).1 = x at g1 e1
    generalize (ps[k]'(by omega)).2 = tx at g1
    generalize (qs[k]'(by omega)).1 = y at g2 e2
    generalize (qs[k]'(by omega)).2 = ty at g2
    by_cases e : x = y
    · have c3 : (S x == S y) = true := by rw [S_beq]; exact decide_eq_true e
      walk_at "my:go"
      refine' ⟨ps.length - (k + 1), _, _, by exact Mine.lc [ps.length - (k + 1), k, ps.length, ps.length - k] [(1, .a (.v 0) (.a (.v 1) (.n 1)), .v 2), (1, .v 2, .a (.v 3) (.v 1))] (1, .a (.v 0) (.n 1), .v 3) rfl (Nat.le_of_eq (Nat.sub_add_cancel (show k + 1 ≤ ps.length from Mine.lc [k, min ps.length qs.length, ps.length] [(1, .a (.v 0) (.n 1), .v 1), (1, .v 1, .v 2)] (1, .a (.v 0) (.n 1), .v 2) rfl c (Nat.min_le_left ( ps.length) ( qs.length))))) (Nat.sub_le_iff_le_add.mp (Nat.le_refl ( ps.length - ( k)))), ⟨k + 1, ?t9, rfl, rfl, by exact Mine.lc [k, min ps.length qs.length, ps.length] [(1, .a (.v 0) (.n 1), .v 1), (1, .v 1, .v 2)] (1, .a (.v 0) (.n 1), .v 2) rfl c (Nat.min_le_left ( ps.length) ( qs.length)), by exact Mine.lc [k, min ps.length qs.length, qs.length] [(1, .a (.v 0) (.n 1), .v 1), (1, .v 1, .v 2)] (1, .a (.v 0) (.n 1), .v 2) rfl c (Nat.min_le_right ( ps.length) ( qs.length)), ?e9, rfl⟩, ?z9⟩
      case z9 => 
        rw [show ((k + 1 : Nat) : Int) = (k : Int) + 1 from by rfl]
        walk_at "my:inv"
      case e9 => rw [take_snoc e1, take_snoc e2, h3, e]
    · have c3 : (S x == S y) = false := by rw [S_beq]; exact decide_eq_false e
      walk_at "my:go"
      rename St _ _ _ _ _ _ _ _ _ => HZ
      have := hQ _ tk HZ.keeps HZ.tk
      rw [shL_at k _ _ x y h3 e1 e2 e] at this
      exact this
  · have c1 : decide (((k : Nat) : Int) < ((min (tv ps).length (tv qs).length : Nat) : Int)) = false := by rw [tv_len, tv_len]; exact decide_eq_false (by exact Int.not_lt.mpr (Int.ofNat_le.mpr (show min ps.length qs.length ≤ k from Mine.lc [min ps.length qs.length, k] [(1, .v 0, .v 1)] (1, .v 0, .v 1) rfl (Nat.le_of_not_lt c))))
    walk_at "my:go"
    rename St _ _ _ _ _ _ _ _ _ => HZ
    have := hQ _ tk HZ.keeps HZ.tk
    have e : shL (ps.map (·.1)) (qs.map (·.1)) = k := by
      by_cases q : k = ps.length
      · have := shL_end (ps.map (·.1)) (qs.map (·.1)) (by rw [List.length_map, ← q, ← h3, q]; exact (List.take_of_length_le (by simp)).symm)
        rw [this, List.length_map, q]
      · have q2 : k = qs.length := by omega
        rw [shL_comm]
        have := shL_end (qs.map (·.1)) (ps.map (·.1)) (by rw [List.length_map, ← q2, h3, q2]; exact (List.take_of_length_le (by simp)).symm)
        rw [this, List.length_map, q2]
    rw [e] at this
    exact this
end

end
local macro_rules | `(tactic| walk_at "call ref") => `(tactic| ((with_reducible show wpAny _ _ (call (Value.ref 210) _) _ _ _); refine shared_ (by walk_at "my:cx") (by walk_at "my:room") (by walk_at "my:tk") (by walk_at "my:lst") (by walk_at "my:lst") (by walk_at "my:sz") (by walk_at "my:sz") ?_; walk_at "my:mv"))
section
local macro_rules | `(tactic| walk_at "my:zz") => `(tactic| skip)
section
variable {prog : Program} {w : World} {mg mb : Str → Option Value} {s : Shared} {A : Around} {E : Value → Shared → Prop} {Q : Value → Shared → Prop} {t : Tok}
noncomputable def comF (f : List (List Nat)) (rows : List (List (List Nat))) : List (List Nat) := rows.foldl (fun f r => f.take (shL f r)) f
theorem comF_snoc (f : List (List Nat)) (rows : List (List (List Nat))) (r : List (List Nat)) : comF f (rows ++ [r]) = (comF f rows).take (shL (comF f rows) r) := by unfold comF; rw [List.foldl_append]; rfl
theorem comF_len (f : List (List Nat)) (rows : List (List (List Nat))) : (comF f rows).length ≤ f.length := by
  induction rows generalizing f with
  | nil => exact Nat.le_refl _
  | cons r rs ih => exact Nat.le_trans (ih _) (by rw [List.length_take]; exact Mine.lc [min (shL f r) f.length, f.length] [(1, .v 0, .v 1)] (1, .v 0, .v 1) rfl (Nat.min_le_right ( shL f r) ( f.length)))
theorem common_ {lr : Addr} {rws : List Row} {r0 : Row} (C : Cx w mg mb s.heap) (hr : Room A 3) (hts : 1 ≤ s.toks) (hl : s.heap.IsList lr (rowsV rws).toArray) (hrows : ∀ p ∈ rws, s.heap.IsList p.1 (tv p.2).toArray)
    (h0 : rws[0]? = some r0) (hz : ∀ p ∈ rws, p.2.length ≤ 1000) (hn : rws.length ≤ 1000)
    (hQ : ∀ s' a qs, Keeps s s' → s'.heap.IsList a (tv qs).toArray → qs.map (·.1) = comF r0.nm (rws.map Row.nm) → 1 ≤ s'.toks → Q (.ref a) s') :
    wpAny (model prog w) A (call (.ref 217) [.ref lr]) Q E s := by
  have hr0 : (rowsV rws)[(0 : Int).toNat]? = some (.ref r0.1) := by
    show (rowsV rws)[0]? = _
    rw [rowsV, List.getElem?_map, h0]; rfl
  have i0 : (0 : Int) ≤ 0 := Int.le_refl _
  have i1 : (0 : Int) < 1000000 := by decide
  refine enter_ (binds := [(Str.ofString "rows", .ref lr)]) (lo := [(Str.ofString "rows", .ref lr)]) C hr hts (by rfl) (by rfl) (by rfl) (by rfl) (by rfl) ?_ (by decide) rfl rfl rfl
  intro L s' H R
  walk_at "my:go"
  refine For_ ?_
  walk_at "my:go"
  rename St _ _ _ _ _ _ _ _ _ => HX
  refine forL_ R.hh HX hl (fun i lo led => ∃ a qs, lo = [(Str.ofString "rows", .ref lr), (Str.ofString "found", .ref a)] ∧ (s.heap.IsList a (tv qs).toArray ∨ (a, Ent.lst (tv qs)) ∈ led) ∧ qs.map (·.1) = comF r0.nm ((rws.map Row.nm).take i))
    ⟨r0.1, r0.2, rfl, .inl (hrows r0 (List.mem_of_getElem? h0)), rfl⟩ ?_ ?_
  · rintro i v lo₁ led₁ its s₁ hv ⟨a, qs, rfl, ha, hq⟩ H₁
    clear HX
    obtain ⟨p, hp, rfl⟩ := rowsV_get (rows := rws) (i := i) (v := v) (by simpa using hv)
    have hpm := List.mem_of_getElem? hp
    have hps := hrows p hpm
    have hpz := hz p hpm
    have hqz : qs.length ≤ 1000 := by
      have := congrArg List.length hq
      rw [List.length_map] at this
      rw [this]
      refine Nat.le_trans (comF_len _ _) ?_
      rw [Row.nm, List.length_map]; exact hz r0 (List.mem_of_getElem? h0)
    have w1 : qs.length ≤ 100000 := by exact Mine.lc [qs.length] [(1, .v 0, .n 1000)] (1, .v 0, .n 100000) rfl hqz
    have w2 : p.2.length ≤ 100000 := by exact Mine.lc [p.snd.length] [(1, .v 0, .n 1000)] (1, .v 0, .n 100000) rfl hpz
    have w3 : (tv qs).length ≤ sizeLine := by rw [tv_len]; exact Nat.le_trans hqz (Nat.le_of_ble_eq_true rfl)
    have ep : (rws.map Row.nm)[i]? = some (p.2.map (·.1)) := by rw [List.getElem?_map, hp]; rfl
    have fin : ∀ (D : Addr) (s₃ : Shared) (r : List (Str × Value)), St w mg mb s s.heap L ([(Str.ofString "rows", .ref lr), (Str.ofString "found", .ref D)] ++ r) ((D, .lst (slicePick (tv qs).toArray none (some ((shL (qs.map (·.1)) (p.2.map (·.1)) : Nat) : Int)) none).toList) :: (led₁ ++ its)) s₃ →
        ∃ lo₃ led₃, (∃ a qs, lo₃ = [(Str.ofString "rows", .ref lr), (Str.ofString "found", .ref a)] ∧ (s.heap.IsList a (tv qs).toArray ∨ (a, Ent.lst (tv qs)) ∈ led₃) ∧ qs.map (·.1) = comF r0.nm ((rws.map Row.nm).take (i + 1))) ∧ St w mg mb s s.heap L lo₃ (led₃ ++ its) s₃ := fun D s₃ r H => by
      rw [show (slicePick (tv qs).toArray none (some ((shL (qs.map (·.1)) (p.2.map (·.1)) : Nat) : Int)) none).toList = tv (qs.take (shL (qs.map (·.1)) (p.2.map (·.1)))) from by rw [slicePick_upto']; simp [tv]] at H
      refine ⟨_, _ :: led₁, ⟨D, qs.take _, rfl, .inr (.head _), ?_⟩, H.front⟩
      rw [take_snoc ep, comF_snoc, ← hq, List.map_take]
    rcases ha with ha | ha
    · walk_at "my:go"
      rename St _ _ _ _ _ _ _ _ _ => HZ
      exact fin _ _ [(Str.ofString "row", _)] HZ
    · have ha2 : (a, Ent.lst (tv qs)) ∈ led₁ ++ its := List.mem_append_left _ ha
      walk_at "my:go"
      rename St _ _ _ _ _ _ _ _ _ => HZ
      exact fin _ _ [(Str.ofString "row", _)] HZ
  · rintro lo₁ led₁ s₁ ⟨a, qs, rfl, ha, hq⟩ H₁
    clear HX
    rw [show (rowsV rws).length = (rws.map Row.nm).length from by simp [rowsV], List.take_length] at hq
    walk_at "my:go"
    rename St _ _ _ _ _ _ _ _ _ => HZ
    refine hQ _ _ qs HZ.keeps ?_ hq HZ.tk
    rcases ha with ha | ha
    · exact HZ.blst ha
    · exact HZ.lst ha
end

end
section
local macro_rules | `(tactic| walk_at "my:zz") => `(tactic| skip)
local macro_rules | `(tactic| walk_at "compareOp NotIn str ref") => `(tactic| refine nin2_ (by walk_at "my:st") (by walk_at "my:mem") ?_)
section
variable {prog : Program} {w : World} {mg mb : Str → Option Value} {s : Shared} {A : Around} {E : Value → Shared → Prop} {Q : Value → Shared → Prop} {t : Tok}
theorem b_ : Str.ofString "b" = S [98] := by decide +kernel
noncomputable def stackF (ns : List (List Nat)) : List (List Nat) := ns.foldl nstep [[98]]
theorem stackF_snoc (ns : List (List Nat)) (c : List Nat) : stackF (ns ++ [c]) = nstep (stackF ns) c := by unfold stackF; rw [List.foldl_append]; rfl
theorem nstep_len (acc : List (List Nat)) (c : List Nat) : (nstep acc c).length ≤ acc.length + 1 := by
  unfold nstep; split
  · exact Mine.lc [acc.length] [] (1, .v 0, .a (.v 0) (.n 1)) rfl
  · split <;> simp
    exact Mine.lc [acc.length] [] (1, .v 0, .a (.a (.v 0) (.n 1)) (.n 1)) rfl
theorem stackF_len (ns : List (List Nat)) : (stackF ns).length ≤ ns.length + 1 := by
  have : ∀ (ns acc : List (List Nat)), (ns.foldl nstep acc).length ≤ acc.length + ns.length := by
    intro ns
    induction ns with
    | nil => intro acc; simp
    | cons c r ih => intro acc; have h1 := ih (nstep acc c); have h2 := nstep_len acc c; simp only [List.foldl_cons, List.length_cons]; exact Mine.lc [(List.foldl nstep (nstep acc c) r).length, (nstep acc c).length, r.length, acc.length] [(1, .v 0, .a (.v 1) (.v 2)), (1, .v 1, .a (.v 3) (.n 1))] (1, .v 0, .a (.v 3) (.a (.v 2) (.n 1))) rfl h1 h2
  have := this ns [[98]]
  unfold stackF; simp at this ⊢; exact Mine.lc [(List.foldl nstep [[98]] ns).length, ns.length] [(1, .v 0, .a (.n 1) (.v 1))] (1, .v 0, .a (.v 1) (.n 1)) rfl this
theorem stack_ {ln : Addr} {ps : List (List Nat × Tok)} (C : Cx w mg mb s.heap) (hr : Room A 2) (hts : 1 ≤ s.toks) (hl : s.heap.IsList ln (tv ps).toArray) (hn : ps.length ≤ 1000) (hz : ∀ p ∈ ps, p.1.length ≤ 100000)
    (hQ : ∀ s' a qs, Keeps s s' → s.heap.get? a = none → s'.heap.PlainList a (tv qs).toArray → qs.map (·.1) = stackF (ps.map (·.1)) → 1 ≤ s'.toks → Q (.ref a) s') :
    wpAny (model prog w) A (call (.ref 203) [.ref ln]) Q E s := by
  refine enter_ (binds := [(Str.ofString "names", .ref ln)]) (lo := [(Str.ofString "names", .ref ln)]) C hr hts (by rfl) (by rfl) (by rfl) (by rfl) (by rfl) ?_ (by decide) rfl rfl rfl
  intro L s' H R
  walk_at "my:go"
  refine For_ ?_
  walk_at "my:go"
  rename St _ _ _ _ _ _ _ _ _ => HX
  refine forL_ R.hh HX hl (fun i lo led => ∃ a qs r, lo = [(Str.ofString "names", .ref ln), (Str.ofString "stack", .ref a)] ∧ led = (a, .lst (tv qs)) :: r ∧ qs.map (·.1) = stackF ((ps.map (·.1)).take i))
    ⟨_, [([98], _)], [], rfl, by rw [b_]; rfl, rfl⟩ ?_ ?_
  · rintro i v lo₁ led₁ its s₁ hv ⟨a, qs, r, rfl, rfl, hq⟩ H₁
    clear HX
    rw [List.cons_append] at H₁
    obtain ⟨c, u, rfl, hc1, p, hp, hpc⟩ := tv_get hv
    have e := stackF_snoc ((ps.map (·.1)).take i) c
    rw [← take_snoc hc1, ← hq] at e
    have hqz : qs.length ≤ 10000 := by
      have h1 := congrArg List.length hq
      have h2 := stackF_len ((ps.map (·.1)).take i)
      rw [List.length_map] at h1
      have h3 : ((ps.map (·.1)).take i).length ≤ ps.length := by rw [List.length_take, List.length_map]; exact Mine.lc [min i ps.length, ps.length] [(1, .v 0, .v 1)] (1, .v 0, .v 1) rfl (Nat.min_le_right ( i) ( ps.length))
      omega
    have w3 : (tv qs).length ≤ sizeLine := by rw [tv_len]; exact Nat.le_trans hqz (Nat.le_of_ble_eq_true rfl)
    have w4 : (tv qs).length + [Value.str (S c) u].length ≤ sizeLine := by rw [tv_len]; exact Nat.le_trans (Nat.add_le_add hqz (Nat.le_refl _)) (Nat.le_of_ble_eq_true rfl)
    by_cases k1 : c = [46, 46]
    · have c3 : (S c == Str.ofString "..") = true := by rw [ddot_, S_beq]; exact decide_eq_true k1
      walk_at "my:go"
      rename St _ _ _ _ _ _ _ _ _ => HZ
      rw [show (slicePick (tv qs).toArray none (some (-1)) none).toList = tv qs.dropLast from by
        rw [show ((-1 : Int)) = -((1 : Nat) : Int) from rfl, slicePick_butLast _ 1 (Nat.le_refl _)]; simp [tv, List.dropLast_eq_take]] at HZ
      refine ⟨_, _, ⟨_, _, (a, .lst (tv qs)) :: r, rfl, rfl, ?_⟩, St.front (r := [(Str.ofString "name", _)]) HZ⟩
      rw [e, nstep, if_neg (by rw [k1]; decide), if_pos k1, List.map_dropLast]
    · have c3 : (S c == Str.ofString "..") = false := by rw [ddot_, S_beq]; exact decide_eq_false k1
      have hcz : (S c).length ≤ 1000000 := by rw [S_len, ← hpc]; exact Nat.le_trans (hz p hp) (by decide)
      by_cases k2 : c = [] ∨ c = [46]
      · have c4 : (!([Str.ofString "", Str.ofString "."].any (· == S c))) = false := by
          rw [em_, dot_]; simp only [List.any_cons, List.any_nil, S_beq, Bool.or_false, Bool.not_eq_false', Bool.or_eq_true, decide_eq_true_eq]
          rcases k2 with k2 | k2
          · exact .inl k2.symm
          · exact .inr k2.symm
        walk_at "my:go"
        rename St _ _ _ _ _ _ _ _ _ => HZ
        refine ⟨_, _, ⟨_, qs, r, rfl, rfl, ?_⟩, St.front (r := [(Str.ofString "name", _)]) (HZ.drop (List.sublist_cons_self _ _))⟩
        rw [e, nstep, if_pos k2]
      · have c4 : (!([Str.ofString "", Str.ofString "."].any (· == S c))) = true := by
          rw [em_, dot_]; simp only [List.any_cons, List.any_nil, S_beq, Bool.or_false, Bool.not_eq_true', Bool.or_eq_false_iff, decide_eq_false_iff_not]
          exact ⟨fun q => k2 (.inl q.symm), fun q => k2 (.inr q.symm)⟩
        walk_at "my:go"
        rename St _ _ _ _ _ _ _ _ _ => HZ
        rw [← tv_snoc] at HZ
        refine ⟨_, _, ⟨_, qs ++ [(c, u)], _ :: _ :: _ :: r, rfl, rfl, ?_⟩, St.front (r := [(Str.ofString "name", _)]) HZ⟩
        rw [e, nstep, if_neg k2, if_neg k1, List.map_append]; rfl
  · rintro lo₁ led₁ s₁ ⟨a, qs, r, rfl, rfl, hq⟩ H₁
    clear HX
    rw [show (tv ps).length = (ps.map (·.1)).length from by simp [tv], List.take_length] at hq
    walk_at "my:go"
    rename St _ _ _ _ _ _ _ _ _ => HZ
    exact hQ _ _ qs HZ.keeps (HZ.isnew (.head _)) (HZ.pl (.head _)) hq HZ.tk
end

end
section
section
variable {prog : Program} {w : World} {mg mb : Str → Option Value} {s : Shared} {A : Around} {E : Value → Shared → Prop} {Q : Value → Shared → Prop} {t : Tok}
noncomputable def Cut (ns : List (List Nat)) : Prop := (∀ n ∈ ns, 47 ∉ n) ∧ (∀ n ∈ ns.dropLast, n ≠ []) ∧ ns.head? ≠ some []
noncomputable def headOf (r : List (List Nat)) : List Nat := if r = [] then [] else 47 :: inter [47] r
theorem cut_step (r : List (List Nat)) (c : List Nat) : 47 :: inter [47] (r ++ [c]) = headOf r ++ 47 :: c := by
  unfold headOf
  split
  · rename_i h; subst h; rfl
  · rename_i h; rw [inter_snoc [47] r c h]; simp
theorem dirF_head (r : List (List Nat)) : dirF (headOf r) = 47 :: inter [47] r := by
  unfold dirF headOf
  by_cases h : r = []
  · subst h; rfl
  · rw [if_neg h, if_neg (by simp)]
theorem noEnd_head {r : List (List Nat)} (h1 : ∀ n ∈ r, 47 ∉ n) (h2 : ∀ n ∈ r, n ≠ []) : NoEnd (headOf r) := by
  unfold headOf
  by_cases h : r = []
  · rw [if_pos h]; exact .inl rfl
  · rw [if_neg h]
    refine .inr ?_
    obtain ⟨q, c, rfl⟩ : ∃ q c, r = q ++ [c] := by
      rcases List.eq_nil_or_concat r with rfl | ⟨q, c, e⟩
      · exact absurd rfl h
      · exact ⟨q, c, by rw [e, List.concat_eq_append]⟩
    have hc1 := h1 c (by simp)
    have hc2 := h2 c (by simp)
    obtain ⟨d, x, rfl⟩ : ∃ d x, c = d ++ [x] := by
      rcases List.eq_nil_or_concat c with rfl | ⟨q, c, e⟩
      · exact absurd rfl hc2
      · exact ⟨q, c, by rw [e, List.concat_eq_append]⟩
    refine ⟨headOf q ++ 47 :: d, x, ?_, fun e => hc1 (by simp [e])⟩
    rw [cut_step]; simp
local macro_rules | `(tactic| walk_at "call ref") => `(tactic| (rename St .. => hOld; refine split_ (by walk_at "my:cx") (by walk_at "my:room") (by walk_at "my:tk") (by with_reducible assumption) (by with_reducible assumption) (by with_reducible assumption) (by walk_at "my:sz") ?_; intro sX aX tX1 tX2 kX fX oX htX; have hX := St.adopt (e := .obj _) (by walk_at "my:st") kX fX oX htX; clear kX fX oX htX hOld))
theorem climb_ {ns : List (List Nat)} {x : Str} (C : Cx w mg mb s.heap) (hr : Room A 3) (hts : 1 ≤ s.toks) (hx : x = S (47 :: inter [47] ns)) (hc : Cut ns) (hn : ns.length ≤ 50) (hz : x.length ≤ 100000)
    (hQ : ∀ s' a qs, Keeps s s' → s.heap.get? a = none → s'.heap.PlainList a (tv qs).toArray → qs.map (·.1) = ns → 1 ≤ s'.toks → Q (.ref a) s') :
    wpAny (model prog w) A (call (.ref 196) [.str x t]) Q E s := by
  refine enter_ (binds := [(Str.ofString "path", .str x t)]) (lo := [(Str.ofString "path", .str x t)]) C hr hts (by rfl) (by rfl) (by rfl) (by rfl) (by rfl) ?_ (by decide) rfl rfl rfl
  intro L s' H R
  walk_at "my:go"
  refine For_ ?_
  walk_at "my:go"
  rename St _ _ _ _ _ _ _ _ _ => HX
  obtain ⟨lX, HX⟩ : ∃ lX, St w mg mb s s.heap L [(Str.ofString "path", .str x t), (Str.ofString "tails", .ref lX)] [(lX, .lst [])] _ := ⟨_, HX⟩
  refine range1_ (n := 60) HX fun r t' v' s1 H1 => ?_
  refine itR_ R.hh H1 (.head _) (by decide) fun it s2 H2 hW => ?_
  clear HX H1
  have H3 := H2.perm (.swap ..)
  have hlen : tot ns ≤ 100001 := by
    by_cases e : ns = []
    · subst e; simp [tot]
    · have := tot_inter e
      rw [hx, S_len, List.length_cons] at hz
      exact Mine.lc [(inter [47] ns).length, tot ns] [(1, .a (.v 0) (.n 1), .n 100000), (1, .v 1, .a (.v 0) (.n 1))] (1, .v 1, .n 100001) rfl hz (Nat.le_of_eq this)
  refine forA_ H2 hW (fun i lo led => ∃ m qs tp rest, lo = [(Str.ofString "path", .str (S (47 :: inter [47] (ns.take m))) tp), (Str.ofString "tails", .ref lX)] ∧ led.Perm ((lX, .lst (tv qs)) :: rest) ∧ qs.map (·.1) = (ns.drop m).reverse ∧ m + i = ns.length)
    ⟨ns.length, [], t, [_], by rw [List.take_length, ← hx], .swap .., by rw [List.drop_length]; rfl, rfl⟩ ?_ ?_
  · rintro i v lo₁ led₁ its s₁ hi hv ⟨m, qs, tp, rest, rfl, hp, hq, hm⟩ H4
    clear H2 H3
    have H5 := H4.perm (hp.append_right its)
    rw [List.cons_append] at H5
    clear H4
    obtain ⟨tv', rfl⟩ := hv
    have hqz : qs.length ≤ 100 := by
      have := congrArg List.length hq
      rw [List.length_map, List.length_reverse, List.length_drop] at this; exact Mine.lc [ns.length, qs.length, ns.length - m] [(1, .v 0, .n 50), (1, .v 1, .v 2), (1, .v 2, .v 0)] (1, .v 1, .n 100) rfl hn (Nat.le_of_eq this) (Nat.sub_le ( ns.length) ( m))
    have w3 : (tv qs).length ≤ sizeLine := by rw [tv_len]; exact Nat.le_trans hqz (Nat.le_of_ble_eq_true rfl)
    cases m with
    | zero =>
      have c1 : (S (47 :: inter [47] (ns.take 0)) == Str.ofString "/") = true := by rw [slash_, S_beq]; exact decide_eq_true rfl
      walk_at "my:go"
      rename St _ _ _ _ _ _ _ _ _ => HZ
      rw [slicePick_rev, show (tv qs).reverse = tv qs.reverse from by simp [tv]] at HZ
      exact hQ _ _ qs.reverse HZ.keeps (HZ.isnew (.head _)) (HZ.pl (.head _)) (by rw [List.map_reverse, hq, List.reverse_reverse]; rfl) HZ.tk
    | succ m =>
      obtain ⟨c, hc1⟩ : ∃ c, ns[m]? = some c := ⟨_, List.getElem?_eq_getElem (by exact Mine.lc [m, i, ns.length] [(1, .a (.a (.v 0) (.n 1)) (.v 1), .v 2)] (1, .a (.v 0) (.n 1), .v 2) rfl (Nat.le_of_eq hm))⟩
      have hcm := List.mem_of_getElem? hc1
      have et := take_snoc hc1
      have e1 : 47 :: inter [47] (ns.take (m + 1)) = headOf (ns.take m) ++ 47 :: c := by rw [et, cut_step]
      have hrm : ∀ n ∈ ns.take m, n ∈ ns.dropLast := fun n hn => by
        rw [List.dropLast_eq_take]
        exact (List.take_subset_take_left ns (by exact Mine.lc [m, i, ns.length, ns.length - 1] [(1, .a (.a (.v 0) (.n 1)) (.v 1), .v 2), (1, .v 2, .a (.v 3) (.n 1))] (1, .v 0, .v 3) rfl (Nat.le_of_eq hm) (Nat.sub_le_iff_le_add.mp (Nat.le_refl ( ns.length - ( 1)))))) hn
      have h3 : NoEnd (headOf (ns.take m)) := noEnd_head (fun n hn => hc.1 n (List.mem_of_mem_take hn)) fun n hn => hc.2.1 n (hrm n hn)
      have h4 : 47 ∉ c := hc.1 c hcm
      have h5 : S (47 :: inter [47] (ns.take (m + 1))) = S (headOf (ns.take m) ++ 47 :: c) := by rw [e1]
      have c1 : (S (47 :: inter [47] (ns.take (m + 1))) == Str.ofString "/") = false := by
        rw [slash_, S_beq]
        refine decide_eq_false fun e => ?_
        rw [e1] at e
        have l := congrArg List.length e
        simp only [List.length_append, List.length_cons, List.length_nil] at l
        have l1 : headOf (ns.take m) = [] := List.eq_nil_of_length_eq_zero (by exact Nat.le_antisymm (Mine.lc [(headOf (List.take m ns)).length, c.length] [(1, .a (.v 0) (.a (.v 1) (.n 1)), .a (.n 0) (.n 1))] (1, .v 0, .n 0) rfl (Nat.le_of_eq l)) (Mine.lc [(headOf (List.take m ns)).length] [] (1, .n 0, .v 0) rfl ))
        have l2 : c = [] := List.eq_nil_of_length_eq_zero (by exact Nat.le_antisymm (Mine.lc [(headOf (List.take m ns)).length, c.length] [(1, .a (.v 0) (.a (.v 1) (.n 1)), .a (.n 0) (.n 1))] (1, .v 1, .n 0) rfl (Nat.le_of_eq l)) (Mine.lc [c.length] [] (1, .n 0, .v 0) rfl ))
        have l3 : m = 0 := by
          unfold headOf at l1
          split at l1
          · rename_i q
            rcases List.take_eq_nil_iff.mp q with q | q
            · exact q
            · rw [q] at hcm; cases hcm
          · cases l1
        rw [l3, l2] at hc1
        exact hc.2.2 (by rw [List.head?_eq_getElem?]; exact hc1)
      have hsz : (S (47 :: inter [47] (ns.take (m + 1)))).length ≤ 1000000 := by
        rw [S_len, List.length_cons]
        have h1 := inter_len (ns.take (m + 1))
        have h2 := tot_app (ns.take (m + 1)) (ns.drop (m + 1))
        rw [List.take_append_drop] at h2
        exact Mine.lc [tot ns, (inter [47] (List.take (m + 1) ns)).length, tot (List.take (m + 1) ns), tot (List.drop (m + 1) ns)] [(1, .v 0, .n 100001), (1, .v 1, .v 2), (1, .a (.v 2) (.v 3), .v 0)] (1, .a (.v 1) (.n 1), .n 1000000) rfl hlen h1 (Nat.le_of_eq (h2).symm)
      walk_at "my:go"
      rename St _ _ _ _ _ _ _ _ _ => HZ
      rw [dirF_head, ← tv_snoc] at HZ
      refine ⟨_, _, ⟨m, qs ++ [(c, _)], _, _ :: rest, rfl, .refl _, ?_, by exact Nat.le_antisymm (Mine.lc [m, i, ns.length] [(1, .a (.a (.v 0) (.n 1)) (.v 1), .v 2)] (1, .a (.v 0) (.a (.v 1) (.n 1)), .v 2) rfl (Nat.le_of_eq hm)) (Mine.lc [ns.length, m, i] [(1, .v 0, .a (.a (.v 1) (.n 1)) (.v 2))] (1, .v 0, .a (.v 1) (.a (.v 2) (.n 1))) rfl (Nat.le_of_eq (hm).symm))⟩, St.front (r := [(Str.ofString "step", _), (Str.ofString "tail", _)]) (HZ.perm (.swap ..))⟩
      rw [List.map_append, hq, List.drop_eq_getElem_cons (show m < ns.length by exact Mine.lc [m, i, ns.length] [(1, .a (.a (.v 0) (.n 1)) (.v 1), .v 2)] (1, .a (.v 0) (.n 1), .v 2) rfl (Nat.le_of_eq hm)), List.reverse_cons]
      have := (List.getElem?_eq_some_iff.mp hc1).2
      rw [this]; rfl
  · rintro lo₁ led₁ s₁ ⟨m, qs, tp, rest, rfl, hp, hq, hm⟩ H4
    exact Mine.lcF [ns.length, m] [(1, .v 0, .n 50), (1, .a (.v 1) (.n 60), .v 0)] _ rfl hn (Nat.le_of_eq hm)
end

end
section
theorem shL_pre : ∀ xs ys : List (List Nat), xs.take (shL xs ys) <+: ys
  | [], ys => by rw [shL_nil]; exact List.nil_prefix
  | x :: xs, [] => by rw [shL_nil']; exact List.nil_prefix
  | x :: xs, y :: ys => by
    rw [shL_cons]
    split
    · rename_i h
      subst h
      rw [List.take_succ_cons, List.cons_prefix_cons]
      exact ⟨rfl, shL_pre xs ys⟩
    · exact List.nil_prefix
theorem shL_max : ∀ c xs ys : List (List Nat), c <+: xs → c <+: ys → c <+: xs.take (shL xs ys)
  | [], _, _, _, _ => List.nil_prefix
  | a :: c, [], _, h, _ => by cases List.prefix_nil.mp h
  | a :: c, x :: xs, [], _, h => by cases List.prefix_nil.mp h
  | a :: c, x :: xs, y :: ys, h1, h2 => by
    rw [List.cons_prefix_cons] at h1 h2
    rw [shL_cons, if_pos (h1.1.symm.trans h2.1), List.take_succ_cons, List.cons_prefix_cons]
    exact ⟨h1.1, shL_max c xs ys h1.2 h2.2⟩
theorem comF_cons (f r : List (List Nat)) (rs : List (List (List Nat))) : comF f (r :: rs) = comF (f.take (shL f r)) rs := rfl
theorem comF_pre : ∀ (rs : List (List (List Nat))) (f : List (List Nat)), comF f rs <+: f ∧ ∀ r ∈ rs, comF f rs <+: r
  | [], f => ⟨List.prefix_rfl, fun _ h => nomatch h⟩
  | r :: rs, f => by
    rw [comF_cons]
    obtain ⟨h1, h2⟩ := comF_pre rs (f.take (shL f r))
    refine ⟨h1.trans (List.take_prefix _ _), fun x hx => ?_⟩
    rcases List.mem_cons.mp hx with rfl | hx
    · exact h1.trans (shL_pre f x)
    · exact h2 x hx
theorem comF_max : ∀ (rs : List (List (List Nat))) (c f : List (List Nat)), c <+: f → (∀ r ∈ rs, c <+: r) → c <+: comF f rs
  | [], _, _, h, _ => h
  | r :: rs, c, f, h, hr => by
    rw [comF_cons]
    exact comF_max rs c _ (shL_max c f r h (hr r (.head _))) fun x hx => hr x (.tail _ hx)
theorem mid_pre : ∀ p q r : List (List Nat), ltT r p = false → ltT q r = false → p.take (shL p q) <+: r
  | [], q, r, _, _ => by rw [shL_nil]; exact List.nil_prefix
  | x :: p, [], r, _, _ => by rw [shL_nil']; exact List.nil_prefix
  | x :: p, y :: q, [], h, _ => by simp [ltT_nil] at h
  | x :: p, y :: q, z :: r, h1, h2 => by
    rw [shL_cons]
    split
    · rename_i e
      subst e
      rw [ltT_cons] at h1 h2
      have ezx : z = x := by
        by_cases k : z = x
        · exact k
        · rw [if_neg k] at h1
          rw [if_neg (Ne.symm k)] at h2
          have a1 := of_decide_eq_false h1
          have a2 := of_decide_eq_false h2
          exact List.le_antisymm (List.not_lt.mp a2) (List.not_lt.mp a1)
      subst ezx
      rw [if_pos rfl] at h1 h2
      rw [List.take_succ_cons, List.cons_prefix_cons]
      exact ⟨rfl, mid_pre p q r h1 h2⟩
    · exact List.nil_prefix
theorem com_law {rows : List (List (List Nat))} {r0 p q : List (List Nat)} (h0 : r0 ∈ rows) (hp : p ∈ rows) (hq : q ∈ rows) (h1 : ∀ r ∈ rows, ltT r p = false) (h2 : ∀ r ∈ rows, ltT q r = false) :
    p.take (shL p q) = comF r0 rows := by
  have a := comF_max rows (p.take (shL p q)) r0 (mid_pre p q r0 (h1 r0 h0) (h2 r0 h0)) fun r hr => mid_pre p q r (h1 r hr) (h2 r hr)
  have b := shL_max (comF r0 rows) p q ((comF_pre rows r0).2 p hp) ((comF_pre rows r0).2 q hq)
  exact a.eq_of_length_le b.length_le
/-! the laid path -/
noncomputable def fullF (ns : List (List Nat)) : List (List Nat) := [98] :: ns.filter fun n => !n.isEmpty
noncomputable def endF (ns : List (List Nat)) : List (List Nat) := match ns.getLast? with | some [] => [[]] | _ => []
theorem full_snoc0 (ns : List (List Nat)) : fullF (ns ++ [[]]) = fullF ns := by simp [fullF]
theorem full_snoc (ns : List (List Nat)) {b : List Nat} (h : b ≠ []) : fullF (ns ++ [b]) = fullF ns ++ [b] := by simp [fullF, h]
theorem end_snoc0 (ns : List (List Nat)) : endF (ns ++ [[]]) = [[]] := by simp [endF]
theorem end_snoc (ns : List (List Nat)) {b : List Nat} (h : b ≠ []) : endF (ns ++ [b]) = [] := by
  cases b with
  | nil => exact absurd rfl h
  | cons a r => simp [endF]
theorem end_or (ns : List (List Nat)) : endF ns = [[]] ∨ endF ns = [] := by
  rcases List.eq_nil_or_concat ns with rfl | ⟨q, c, e⟩
  · exact .inr rfl
  · rw [List.concat_eq_append] at e; subst e
    by_cases h : c = []
    · subst h; exact .inl (end_snoc0 q)
    · exact .inr (end_snoc q h)
theorem full_ne (ns : List (List Nat)) : ∀ n ∈ fullF ns, n ≠ [] := by
  intro n hn
  rcases List.mem_cons.mp hn with rfl | hn
  · simp
  · have := (List.mem_filter.mp hn).2; simpa using this
theorem full_47 {ns : List (List Nat)} (h : ∀ n ∈ ns, 47 ∉ n) : ∀ n ∈ fullF ns, 47 ∉ n := by
  intro n hn
  rcases List.mem_cons.mp hn with rfl | hn
  · simp
  · exact h n (List.mem_filter.mp hn).1
theorem inter_last : ∀ (ps : List (List Nat)), ps ≠ [] → (∀ n ∈ ps, n ≠ []) → (∀ n ∈ ps, 47 ∉ n) → (47 :: inter [47] ps).getLast? ≠ some 47 := by
  intro ps hne h1 h2
  obtain ⟨q, c, rfl⟩ : ∃ q c, ps = q ++ [c] := by
    rcases List.eq_nil_or_concat ps with rfl | ⟨q, c, e⟩
    · exact absurd rfl hne
    · exact ⟨q, c, by rw [e, List.concat_eq_append]⟩
  obtain ⟨d, x, rfl⟩ : ∃ d x, c = d ++ [x] := by
    rcases List.eq_nil_or_concat c with rfl | ⟨d, x, e⟩
    · exact absurd rfl (h1 [] (by simp))
    · exact ⟨d, x, by rw [e, List.concat_eq_append]⟩
  have hx : x ≠ 47 := fun e => h2 (d ++ [x]) (by simp) (by simp [e])
  rw [cut_step, show headOf q ++ 47 :: (d ++ [x]) = (headOf q ++ 47 :: d) ++ [x] from by simp, List.getLast?_concat]
  exact fun e => hx (Option.some.inj e)
theorem join_laid : ∀ (m : Nat) (ns : List (List Nat)), ns.length = m → (∀ n ∈ ns, 47 ∉ n) → joinF [47, 98] ns = 47 :: inter [47] (fullF ns ++ endF ns)
  | 0, ns, hm, _ => by
    have : ns = [] := List.eq_nil_of_length_eq_zero hm
    subst this; rfl
  | m + 1, ns, hm, h => by
    obtain ⟨q, b, rfl⟩ : ∃ q c, ns = q ++ [c] := by
      rcases List.eq_nil_or_concat ns with rfl | ⟨q, c, e⟩
      · cases hm
      · exact ⟨q, c, by rw [e, List.concat_eq_append]⟩
    have hq : ∀ n ∈ q, 47 ∉ n := fun n hn => h n (List.mem_append_left _ hn)
    have ih := join_laid m q (by simpa using hm) hq
    have key : joinStep (joinF [47, 98] q) b = 47 :: inter [47] (fullF q) ++ 47 :: b := by
      rw [ih]
      rcases end_or q with e | e
      · rw [e, inter_snoc [47] (fullF q) [] (by simp [fullF])]
        unfold joinStep
        rw [if_pos (by rw [List.append_nil]; exact List.getLast?_concat (l := 47 :: inter [47] (fullF q)))]
        simp
      · rw [e, List.append_nil]
        unfold joinStep
        rw [if_neg (inter_last _ (by simp [fullF]) (full_ne q) (full_47 hq))]
    rw [joinF_snoc, key]
    by_cases hb : b = []
    · subst hb
      rw [full_snoc0, end_snoc0, inter_snoc [47] (fullF q) [] (by simp [fullF])]; simp
    · rw [full_snoc q hb, end_snoc q hb, List.append_nil, inter_snoc [47] (fullF q) b (by simp [fullF])]; simp
theorem cut_laid {ns : List (List Nat)} (h : ∀ n ∈ ns, 47 ∉ n) : Cut (fullF ns ++ endF ns) := by
  refine ⟨?_, ?_, by simp [fullF]⟩
  · intro n hn
    rcases List.mem_append.mp hn with hn | hn
    · exact full_47 h n hn
    · rcases end_or ns with e | e
      · rw [e, List.mem_singleton] at hn; subst hn; simp
      · rw [e] at hn; cases hn
  · intro n hn
    rcases end_or ns with e | e
    · rw [e, List.dropLast_concat] at hn; exact full_ne ns n hn
    · rw [e, List.append_nil] at hn; exact full_ne ns n (List.dropLast_subset _ hn)
theorem fold_filter : ∀ (ns acc : List (List Nat)), (ns.filter fun n => !n.isEmpty).foldl nstep acc = ns.foldl nstep acc
  | [], _ => rfl
  | n :: ns, acc => by
    by_cases h : n = []
    · subst h
      rw [List.filter_cons_of_neg (by simp), List.foldl_cons, show nstep acc [] = acc from if_pos (.inl rfl), fold_filter ns acc]
    · rw [List.filter_cons_of_pos (by simpa using h), List.foldl_cons, List.foldl_cons, fold_filter ns]
theorem norm_laid (ns : List (List Nat)) : normF (fullF ns ++ endF ns) = stackF ns := by
  have e1 : normF (fullF ns) = stackF ns := by
    unfold normF fullF stackF
    rw [List.foldl_cons, fold_filter]; rfl
  rcases end_or ns with e | e
  · rw [e, normF_snoc, e1]; exact if_pos (.inl rfl)
  · rw [e, List.append_nil, e1]
theorem norm_sp_laid {ns : List (List Nat)} (h : ∀ n ∈ ns, 47 ∉ n) : normF (sp 47 (inter [47] (fullF ns ++ endF ns))) = stackF ns := by
  rw [sp_inter (by simp [fullF]) (cut_laid h).1, norm_laid]
theorem laid_head {ns : List (List Nat)} : (inter [47] (fullF ns ++ endF ns)).head? ≠ some 47 := by
  unfold fullF
  cases e : List.filter (fun n => !n.isEmpty) ns ++ endF ns with
  | nil => rw [List.cons_append, e]; simp [inter]
  | cons a r => rw [List.cons_append, e, inter_cons [47] [98] (by simp)]; simp
theorem fold_47 : ∀ (ns acc : List (List Nat)), (∀ n ∈ ns, 47 ∉ n) → (∀ n ∈ acc, 47 ∉ n) → ∀ n ∈ ns.foldl nstep acc, 47 ∉ n
  | [], _, _, h => h
  | a :: ns, acc, h1, h2 => by
    rw [List.foldl_cons]
    refine fold_47 ns _ (fun n hn => h1 n (.tail _ hn)) ?_
    unfold nstep
    split
    · exact h2
    · split
      · exact fun n hn => h2 n (List.dropLast_subset _ hn)
      · intro n hn
        rcases List.mem_append.mp hn with hn | hn
        · exact h2 n hn
        · rw [List.mem_singleton.mp hn]; exact h1 a (.head _)
theorem good_stack {ns : List (List Nat)} (h : ∀ n ∈ ns, 47 ∉ n) : Good (stackF ns) := by
  intro p hp
  have h1 := fold_47 ns [[98]] h (by simp) p hp
  rw [← norm_laid ns] at hp
  obtain ⟨a, b, c⟩ := normF_dd _ p hp
  exact ⟨b, c, a, h1⟩

end
section
noncomputable def stepsF (low high : List (List Nat)) : List (List Nat) :=
  let st := List.replicate (low.length - shL low high) [46, 46] ++ high.drop (shL low high)
  if st = [] then [[46]] else st
theorem rel_steps (low high : List (List Nat)) : relF low high = inter [47] (stepsF low high) := by
  unfold relF stepsF
  dsimp only
  split <;> rfl
theorem shL_take (xs ys : List (List Nat)) : xs.take (shL xs ys) = ys.take (shL xs ys) := by
  have h := List.prefix_iff_eq_take.mp (shL_pre xs ys)
  rw [List.length_take, Nat.min_eq_left (shL_le xs ys).1] at h
  exact h
theorem fold_dd : ∀ (k : Nat) (acc : List (List Nat)), (List.replicate k [46, 46]).foldl nstep acc = acc.take (acc.length - k)
  | 0, acc => by simp
  | k + 1, acc => by
    rw [List.replicate_succ, List.foldl_cons, show nstep acc [46, 46] = acc.dropLast from by unfold nstep; rw [if_neg (by simp), if_pos rfl], fold_dd k, List.dropLast_eq_take, List.take_take, List.length_take]
    congr 1; omega
theorem good_drop {xs : List (List Nat)} (h : Good xs) (k : Nat) : Good (xs.drop k) := fun p hp => h p (List.mem_of_mem_drop hp)
theorem steps_ne (low high : List (List Nat)) : stepsF low high ≠ [] := by
  unfold stepsF; dsimp only; split
  · simp
  · assumption
theorem steps_mem {low high : List (List Nat)} (gh : Good high) : ∀ n ∈ stepsF low high, n ≠ [] ∧ 47 ∉ n := by
  intro n hn
  unfold stepsF at hn; dsimp only at hn
  split at hn
  · rw [List.mem_singleton] at hn; subst hn; simp
  · rcases List.mem_append.mp hn with hn | hn
    · rw [(List.mem_replicate.mp hn).2]; simp
    · have := gh n (List.mem_of_mem_drop hn); exact ⟨this.1, this.2.2.2⟩
theorem joinStep_head {low : List (List Nat)} (gl : Good low) (b : List Nat) : joinStep (47 :: inter [47] low) b = headOf low ++ 47 :: b := by
  unfold joinStep headOf
  by_cases h : low = []
  · subst h; rfl
  · rw [if_neg h, if_neg (inter_last low h (fun n hn => (gl n hn).1) fun n hn => (gl n hn).2.2.2)]
theorem join_l {low : List (List Nat)} (gl : Good low) (b : List Nat) : joinF (47 :: inter [47] low) [b] = headOf low ++ 47 :: b := joinStep_head gl b
theorem inter_app : ∀ (xs ys : List (List Nat)), ys ≠ [] → 47 :: inter [47] (xs ++ ys) = headOf xs ++ 47 :: inter [47] ys
  | [], ys, _ => rfl
  | [x], ys, h => by
    rw [List.singleton_append, inter_cons [47] x h]; simp [headOf, inter]
  | x :: y :: r, ys, h => by
    have ih := inter_app (y :: r) ys h
    rw [List.cons_append, inter_cons [47] x (by simp)]
    unfold headOf at ih ⊢
    rw [if_neg (by simp)] at ih ⊢
    rw [inter_cons [47] x (r := y :: r) (by simp)]
    have ih' : inter [47] (y :: r ++ ys) = inter [47] (y :: r) ++ 47 :: inter [47] ys := by simpa using ih
    rw [ih']; simp
theorem follow_join {low high : List (List Nat)} (gl : Good low) : joinF (47 :: inter [47] low) [relF low high] = 47 :: inter [47] (low ++ stepsF low high) := by
  rw [join_l gl, rel_steps, inter_app low _ (steps_ne low high)]
theorem follow_norm {low high : List (List Nat)} (gl : Good low) (gh : Good high) : normF (sp 47 (inter [47] (low ++ stepsF low high))) = high := by
  rw [sp_inter (by simp [steps_ne]) (fun n hn => by
    rcases List.mem_append.mp hn with hn | hn
    · exact (gl n hn).2.2.2
    · exact (steps_mem gh n hn).2)]
  have hs := shL_le low high
  have ht := shL_take low high
  have key : (List.replicate (low.length - shL low high) [46, 46] ++ high.drop (shL low high)).foldl nstep low = high := by
    rw [List.foldl_append, fold_dd, foldl_good _ _ (good_drop gh _), show low.length - (low.length - shL low high) = shL low high by omega, ht, List.take_append_drop]
  unfold normF
  rw [List.foldl_append, foldl_good low [] gl, List.nil_append]
  unfold stepsF; dsimp only
  split
  · rename_i h
    rw [h] at key
    exact key
  · exact key
theorem follow_head {low high : List (List Nat)} (gl : Good low) (gh : Good high) : (inter [47] (low ++ stepsF low high)).head? ≠ some 47 := by
  cases e : low ++ stepsF low high with
  | nil => simp [steps_ne] at e
  | cons x r =>
    have hx : x ≠ [] ∧ 47 ∉ x := by
      have hm : x ∈ low ++ stepsF low high := by rw [e]; exact .head _
      rcases List.mem_append.mp hm with hm | hm
      · exact ⟨(gl x hm).1, (gl x hm).2.2.2⟩
      · exact steps_mem gh x hm
    cases x with
    | nil => exact absurd rfl hx.1
    | cons a b =>
      have ha : a ≠ 47 := fun k => hx.2 (by rw [k]; exact .head _)
      cases r with
      | nil => simpa [inter] using ha
      | cons y r => simpa [inter] using ha
theorem rel_head {low high : List (List Nat)} (gh : Good high) : (relF low high).head? ≠ some 47 := by
  rw [rel_steps]
  have h := steps_mem (low := low) gh
  cases e : stepsF low high with
  | nil => exact absurd e (steps_ne _ _)
  | cons x r =>
    have hx := h x (by rw [e]; exact .head _)
    cases x with
    | nil => exact absurd rfl hx.1
    | cons a b =>
      have ha : a ≠ 47 := fun k => hx.2 (by rw [k]; exact .head _)
      cases r with
      | nil => simpa [inter] using ha
      | cons y r => simpa [inter] using ha
theorem kfin_47 : ∀ (n : Nat) (l : List Nat) (o : Bool), 47 ∉ kfin n l o
  | 0, _, _ => by simp [kfin]
  | n + 1, l, o => by
    rw [kfin_succ]
    split
    · exact kfin_47 n _ o
    · split
      · simp
      · rename_i a r _
        split
        · exact kfin_47 n r true
        · rename_i hd
          have hd' : isD a = false := by simpa using hd
          have ha : f1 32 95 a ≠ 47 := by
            unfold f1
            split
            · decide
            · intro e; subst e; cases hd'
          intro hm
          rcases List.mem_append.mp hm with hm | hm
          · split at hm
            · simp at hm
            · cases hm
          · rcases List.mem_cons.mp hm with hm | hm
            · exact ha hm.symm
            · exact kfin_47 n r false hm
theorem safe_47 (ts : List (List Nat)) : 47 ∉ safeF ts := kfin_47 _ _ _
theorem kfin_len : ∀ (n : Nat) (l : List Nat) (o : Bool), (kfin n l o).length ≤ 2 * l.length
  | 0, _, _ => Nat.zero_le _
  | n + 1, l, o => by
    rw [kfin_succ]
    split
    · refine Nat.le_trans (kfin_len n _ o) ?_
      rw [List.length_drop]; exact Mine.lc [l.length - 7, l.length] [(2, .v 0, .v 1)] (1, .m 2 (.v 0), .m 2 (.v 1)) rfl (Nat.sub_le ( l.length) ( 7))
    · split
      · exact Nat.zero_le _
      · rename_i a r _
        split
        · refine Nat.le_trans (kfin_len n r true) ?_
          simp; exact Mine.lc [r.length] [] (1, .m 2 (.v 0), .m 2 (.a (.v 0) (.n 1))) rfl
        · have := kfin_len n r false
          have h2 : (if o then [45] else [] : List Nat).length ≤ 1 := by split <;> simp
          rw [List.length_append, List.length_cons, List.length_cons]; exact Mine.lc [(kfin n r false).length, r.length, (if o = true then [45] else []).length] [(1, .v 0, .m 2 (.v 1)), (1, .v 2, .n 1)] (1, .a (.v 2) (.a (.v 0) (.n 1)), .m 2 (.a (.v 1) (.n 1))) rfl this h2
theorem safe_len (ts : List (List Nat)) : (safeF ts).length ≤ 2 * tot ts := Nat.le_trans (kfin_len _ _ _) (Nat.mul_le_mul_left 2 (signsF_len ts))

end
section
open MeetsSeq SeqAt
theorem tvA (ps : List (List Nat × Tok)) (j : Nat) (h : j < (tv ps).toArray.size) : (tv ps).toArray[j] = .str (S (ps[j]'(by simpa [tv] using h)).1) (ps[j]'(by simpa [tv] using h)).2 := by simp [tv]
noncomputable def eqJ (ps qs : List (List Nat × Tok)) (j : Nat) : Bool := decide ((ps.map (·.1))[j]? = (qs.map (·.1))[j]?)
theorem eqJ_at {ps qs : List (List Nat × Tok)} {j : Nat} (h1 : j < ps.length) (h2 : j < qs.length) : (S ps[j].1 == S qs[j].1) = eqJ ps qs j := by
  rw [S_beq]; unfold eqJ; simp [h1, h2]
theorem eqJ_all {ps qs : List (List Nat × Tok)} (h : ps.length = qs.length) : (List.range (tv ps).toArray.size).all (eqJ ps qs) = decide (ps.map (·.1) = qs.map (·.1)) := by
  rw [Bool.eq_iff_iff, List.all_eq_true, decide_eq_true_eq]
  constructor
  · intro k
    refine List.ext_getElem? fun j => ?_
    by_cases hj : j < ps.length
    · have := k j (List.mem_range.mpr (by simpa [tv] using hj))
      exact of_decide_eq_true this
    · rw [List.getElem?_eq_none (by simpa using hj), List.getElem?_eq_none (by simp; exact Mine.lc [qs.length, ps.length, j] [(1, .v 0, .v 1), (1, .v 1, .v 2)] (1, .v 0, .v 2) rfl (Nat.le_of_eq (h).symm) (Nat.le_of_not_lt hj))]
  · intro e j _
    unfold eqJ; rw [e]; exact decide_eq_true rfl
section
variable {prog : Program} {w : World} {mg mb : Str → Option Value} {s₀ s : Shared} {g : Heap} {L : Addr} {lo : List (Str × Value)} {led : List (Addr × Ent)} {A : Around} {E : Value → Shared → Prop} {a b : Addr} {ps qs : List (List Nat × Tok)} {Q : Value → Shared → Prop}
theorem eqL_ (h1 : s.heap.IsList a (tv ps).toArray) (h2 : s.heap.IsList b (tv qs).toArray) (hu : A.units < cLine) (h : Q (.bool (decide (ps.map (·.1) = qs.map (·.1)))) s) :
    wpAny (model prog w) A (compareOp .Eq (.ref a) (.ref b)) Q E s := by
  by_cases hl : ps.length = qs.length
  · refine eq_listAt (e := eqJ ps qs) h1 h2 (by simpa [tv] using hl) hu (fun j k1 k2 => ?_) (by rw [eqJ_all hl]; exact h)
    rw [tvA, tvA, ← eqJ_at (by simpa [tv] using k1) (by simpa [tv] using k2)]
    exact EqAt.str_str _ _ _ _
  · refine eq_list_lengthsAt h1 h2 (by simpa [tv] using hl) hu ?_
    rw [decide_eq_false (fun e => hl (by simpa using congrArg List.length e))] at h
    exact h
theorem neL_ (h1 : s.heap.IsList a (tv ps).toArray) (h2 : s.heap.IsList b (tv qs).toArray) (hu : A.units < cLine) (h : Q (.bool (!decide (ps.map (·.1) = qs.map (·.1)))) s) :
    wpAny (model prog w) A (compareOp .NotEq (.ref a) (.ref b)) Q E s := by
  by_cases hl : ps.length = qs.length
  · refine RcNeAt.lists (e := eqJ ps qs) h1 h2 (by simpa [tv] using hl) hu (fun j k1 k2 => ?_) prog w E Q (by rw [eqJ_all hl]; exact h)
    rw [tvA, tvA, ← eqJ_at (by simpa [tv] using k1) (by simpa [tv] using k2)]
    exact EqAt.str_str _ _ _ _
  · refine RcNeAt.lists_lengths h1 h2 (by simpa [tv] using hl) hu prog w E Q ?_
    rw [decide_eq_false (fun e => hl (by simpa using congrArg List.length e))] at h
    exact h
end
open Sem (wp)
theorem WalksS.shift {prog : Program} {w : World} {A : Around} {I : Addr} {fp wr : List Addr} {G : Array GenState → Array GenState → Prop} {n : Nat} {P : Nat → Value → Prop} {St : Nat → Shared → Prop} (W : WalksS prog w A I fp wr G n P St) (k : Nat) (pre : Array Value) :
    WalksS prog w A I fp wr G (k + n) (fun j v => if j < k then pre[j]? = some v else P (j - k) v) (fun i s => k ≤ i ∧ St (i - k) s) where
  sub := W.sub
  grefl := W.grefl
  gtrans := W.gtrans
  frame := fun i s h' tk ⟨a, b⟩ c d => ⟨a, W.frame _ s h' tk b c d⟩
  item := fun i s Q E hi ⟨a, b⟩ hQ => W.item (i - k) s Q E (by exact Mine.lc [i, k, n, i - k] [(1, .a (.v 0) (.n 1), .a (.v 1) (.v 2)), (1, .a (.v 3) (.v 1), .v 0)] (1, .a (.v 3) (.n 1), .v 2) rfl hi (Nat.le_of_eq (Nat.sub_add_cancel (show k ≤ i from Mine.lc [k, i] [(1, .v 0, .v 1)] (1, .v 0, .v 1) rfl a)))) b fun v s' hv hst hm => hQ v s' (by rw [if_neg (by exact Nat.not_lt.mpr (Mine.lc [k, i] [(1, .v 0, .v 1)] (1, .v 0, .v 1) rfl a))]; exact hv) ⟨by exact Mine.lc [k, i] [(1, .v 0, .v 1)] (1, .v 0, .a (.v 1) (.n 1)) rfl a, by rw [show i + 1 - k = i - k + 1 from by exact Nat.le_antisymm (Mine.lc [i + 1 - k, k, i, i - k] [(1, .a (.v 0) (.v 1), .a (.v 2) (.n 1)), (1, .v 2, .a (.v 3) (.v 1))] (1, .v 0, .a (.v 3) (.n 1)) rfl (Nat.le_of_eq (Nat.sub_add_cancel (show k ≤ i + 1 from Mine.lc [k, i] [(1, .v 0, .v 1)] (1, .v 0, .a (.v 1) (.n 1)) rfl a))) (Nat.sub_le_iff_le_add.mp (Nat.le_refl ( i - ( k))))) (Mine.lc [i, i + 1 - k, k, i - k] [(1, .a (.v 0) (.n 1), .a (.v 1) (.v 2)), (1, .a (.v 3) (.v 2), .v 0)] (1, .a (.v 3) (.n 1), .v 1) rfl (Nat.sub_le_iff_le_add.mp (Nat.le_refl ( i + 1 - ( k)))) (Nat.le_of_eq (Nat.sub_add_cancel (show k ≤ i from Mine.lc [k, i] [(1, .v 0, .v 1)] (1, .v 0, .v 1) rfl a))))]; exact hst⟩ hm
  done := fun s Q E ⟨a, b⟩ hQ => W.done s Q E (by rw [show k + n - k = n from by exact Nat.le_antisymm (Mine.lc [k + n - k, k, n] [(1, .a (.v 0) (.v 1), .a (.v 1) (.v 2))] (1, .v 0, .v 2) rfl (Nat.le_of_eq (Nat.sub_add_cancel (show k ≤ k + n from Mine.lc [k, n] [] (1, .v 0, .a (.v 0) (.v 1)) rfl )))) (Mine.lc [k, n, k + n - k] [(1, .a (.v 0) (.v 1), .a (.v 2) (.v 0))] (1, .v 1, .v 2) rfl (Nat.sub_le_iff_le_add.mp (Nat.le_refl ( k + n - ( k)))))] at b; exact b) hQ
  self := fun i s Q E ⟨a, b⟩ hQ => W.self _ s Q E b hQ
section
variable {prog : Program} {w : World} {mg mb : Str → Option Value} {s₀ s : Shared} {g : Heap} {L : Addr} {lo : List (Str × Value)} {led led' : List (Addr × Ent)} {A : Around} {E : Value → Shared → Prop} {l : Addr} {ps : List (List Nat × Tok)} {Q : Value → Shared → Prop} {r : List Nat} {t : Tok}
theorem extS_ (hA : A.handled = none) (H : Mine.St w mg mb s₀ g L lo ((l, .lst (tv ps)) :: led) s) (hz : ps.length + r.length ≤ 1000000)
    (h : ∀ (qs : List (List Nat × Tok)) s', qs.map (·.1) = r.map (fun c => [c]) → Mine.St w mg mb s₀ g L lo ((l, .lst (tv (ps ++ qs))) :: led) s' → Q .none s') :
    wpAny (model prog w) A (call (.builtin "list.extend") [.ref l, .str (S r) t]) Q E s := by
  obtain ⟨n0, ho⟩ := H.pl (.head _)
  have hll : l < s.heap.objs.size := Heap.lt_size ho
  refine wpAny_with_toks (n := 1) H.tk (wpAny_call (codeAny_call_builtin F.slot_list_extend.plain F.entry_list_extend (F.slot_list_extend.check _ _ _ _ _ _ _ _ ⟨_, ho, rfl⟩ (F.args_list_extend_2 _ _) ?_)))
  show wpAny _ A.in1 (Builtin.List.listExtendWith (.ref l) (.str (S r) t) .none) _ _ _
  unfold Builtin.List.listExtendWith
  refine wpAny_bind (wpAny_typeOf (T := "str") (v := .str (S r) t) rfl ?_)
  have h1 : Builtin.List.listSameRef (.ref l) (.str (S r) t) = false := rfl
  have h2 : (Value.type "str" == Value.type "list") = false := by decide
  have h3 : (Value.type "str" == Value.type "tuple") = false := by decide
  simp only [h1, h2, h3, Bool.or_false, Bool.false_eq_true, if_false]
  refine wpAny_bind (wpAny_pyIter_str fun o St W hst => ?_)
  refine wpAny_bind (wpAny_holding ?_)
  unfold Builtin.List.listLengthHint
  refine wpAny_bind (wpAny_specialOf (T := "str") (v := .str (S r) t) rfl F.str_len ?_)
  wp_delta
  refine wpAny_bind (wpAny_isInstance (T := "str") (v := .str (S r) t) (b := true) rfl (by rw [isSubtype_type]; kernel_rfl) ?_)
  show wpAny _ A.in1 (typeOf (Value.str (S r) t) >>= _) _ _ _
  refine wpAny_bind (wpAny_typeOf (T := "str") (v := .str (S r) t) rfl ?_)
  refine wpAny_pure ?_
  rw [if_neg (by decide)]
  have hS : (s.heap.push o).get? l = some { cls := .type "list", dict := none, data := .seq (tv ps).toArray n0, slots := #[] } := Heap.get?_push_of_some _ ho
  have hlI : l ∉ [s.heap.objs.size] := fun hm => by rw [List.mem_singleton.mp hm] at hll; exact Nat.lt_irrefl _ hll
  have hn : ps.length + (S r).cps.size ≤ sizeLine := by
    have e : (S r).cps.size = r.length := by simp
    rw [e]; exact Nat.le_trans hz (Nat.le_of_ble_eq_true rfl)
  refine wpAny_pure ⟨plainId_quiet F.plain_extend_loop _, codeAny_extend_loopS (WalksS.shift (W A.in1 hA).toS ps.length (tv ps).toArray) hn _ hlI _ _ ps.length _ _ _ rfl (Nat.le_add_right _ _) ⟨Nat.le_refl _, by rw [Nat.sub_self]; exact hst⟩ hS ⟨by simp [tv], fun j v hj => ?_⟩ fun s' acc' c' hm hS' hacc => ?_⟩
  · have : j < ps.length := by have := (Array.getElem?_eq_some_iff.mp hj).1; simpa [tv] using this
    show (if j < ps.length then (tv ps).toArray[j]? = some v else SignAt (S r) (j - ps.length) v)
    rw [if_pos this]; exact hj
  · intro htk
    have hsz : (S r).cps.size = r.length := by simp
    have hal : acc'.size = ps.length + r.length := by rw [hacc.1, hsz]
    have hqj : ∀ j, j < r.length → ∃ u, acc'[ps.length + j]? = some (.str (S [r.getD j 0]) u) := fun j hj => by
      have hlt : ps.length + j < acc'.size := by exact Mine.lc [ps.length, r.length, acc'.size, j] [(1, .a (.v 0) (.v 1), .v 2), (1, .a (.v 3) (.n 1), .v 1)] (1, .a (.a (.v 0) (.v 3)) (.n 1), .v 2) rfl (Nat.le_of_eq (hal).symm) hj
      have hv := hacc.2 (ps.length + j) _ (Array.getElem?_eq_getElem hlt)
      replace hv : (if ps.length + j < ps.length then (tv ps).toArray[ps.length + j]? = some acc'[ps.length + j] else SignAt (S r) (ps.length + j - ps.length) acc'[ps.length + j]) := hv
      rw [if_neg (by exact Nat.not_lt.mpr (Mine.lc [ps.length, j] [] (1, .v 0, .a (.v 0) (.v 1)) rfl )), show ps.length + j - ps.length = j from by exact Nat.le_antisymm (Mine.lc [ps.length + j - ps.length, ps.length, j] [(1, .a (.v 0) (.v 1), .a (.v 1) (.v 2))] (1, .v 0, .v 2) rfl (Nat.le_of_eq (Nat.sub_add_cancel (show ps.length ≤ ps.length + j from Mine.lc [ps.length, j] [] (1, .v 0, .a (.v 0) (.v 1)) rfl )))) (Mine.lc [ps.length, j, ps.length + j - ps.length] [(1, .a (.v 0) (.v 1), .a (.v 2) (.v 0))] (1, .v 1, .v 2) rfl (Nat.sub_le_iff_le_add.mp (Nat.le_refl ( ps.length + j - ( ps.length)))))] at hv
      obtain ⟨c, u, hc, hv⟩ := hv
      refine ⟨u, ?_⟩
      rw [Array.getElem?_eq_getElem hlt, hv]
      have : r[j]? = some c := by simpa using hc
      rw [List.getD_eq_getElem?_getD, this]; rfl
    obtain ⟨us, hus⟩ : ∃ us : Nat → Tok, ∀ j, j < r.length → acc'[ps.length + j]? = some (.str (S [r.getD j 0]) (us j)) :=
      ⟨fun j => if h : j < r.length then (hqj j h).choose else 0, fun j hj => by dsimp only; rw [dif_pos hj]; exact (hqj j hj).choose_spec⟩
    have hqs : acc' = (tv (ps ++ (List.range r.length).map fun j => ([r.getD j 0], us j))).toArray := by
      refine Array.ext_getElem? fun j => ?_
      by_cases h1 : j < ps.length
      · have hlt : j < acc'.size := by exact Mine.lc [ps.length, r.length, acc'.size, j] [(1, .a (.v 0) (.v 1), .v 2), (1, .a (.v 3) (.n 1), .v 0)] (1, .a (.v 3) (.n 1), .v 2) rfl (Nat.le_of_eq (hal).symm) h1
        have hv := hacc.2 j _ (Array.getElem?_eq_getElem hlt)
        replace hv : (if j < ps.length then (tv ps).toArray[j]? = some acc'[j] else SignAt (S r) (j - ps.length) acc'[j]) := hv
        rw [if_pos h1] at hv
        rw [Array.getElem?_eq_getElem hlt, ← hv]
        simp [tv, List.getElem?_append_left, h1]
      · by_cases h2 : j < ps.length + r.length
        · have := hus (j - ps.length) (by exact Mine.lc [j, ps.length, r.length, j - ps.length] [(1, .a (.v 0) (.n 1), .a (.v 1) (.v 2)), (1, .a (.v 3) (.v 1), .v 0)] (1, .a (.v 3) (.n 1), .v 2) rfl h2 (Nat.le_of_eq (Nat.sub_add_cancel (show ps.length ≤ j from Mine.lc [ps.length, j] [(1, .v 0, .v 1)] (1, .v 0, .v 1) rfl (Nat.le_of_not_lt h1)))))
          rw [show ps.length + (j - ps.length) = j from by exact Nat.le_antisymm (Mine.lc [j - ps.length, ps.length, j] [(1, .a (.v 0) (.v 1), .v 2)] (1, .a (.v 1) (.v 0), .v 2) rfl (Nat.le_of_eq (Nat.sub_add_cancel (show ps.length ≤ j from Mine.lc [ps.length, j] [(1, .v 0, .v 1)] (1, .v 0, .v 1) rfl (Nat.le_of_not_lt h1))))) (Mine.lc [j, j - ps.length, ps.length] [(1, .v 0, .a (.v 1) (.v 2))] (1, .v 0, .a (.v 2) (.v 1)) rfl (Nat.sub_le_iff_le_add.mp (Nat.le_refl ( j - ( ps.length)))))] at this
          rw [this]
          simp [tv, List.getElem?_append_right, show ps.length ≤ j from by exact Mine.lc [ps.length, j] [(1, .v 0, .v 1)] (1, .v 0, .v 1) rfl (Nat.le_of_not_lt h1), show j - ps.length < r.length from by exact Mine.lc [j, ps.length, r.length, j - ps.length] [(1, .a (.v 0) (.n 1), .a (.v 1) (.v 2)), (1, .a (.v 3) (.v 1), .v 0)] (1, .a (.v 3) (.n 1), .v 2) rfl h2 (Nat.le_of_eq (Nat.sub_add_cancel (show ps.length ≤ j from Mine.lc [ps.length, j] [(1, .v 0, .v 1)] (1, .v 0, .v 1) rfl (Nat.le_of_not_lt h1))))]
        · rw [Array.getElem?_eq_none (by exact Mine.lc [acc'.size, ps.length, r.length, j] [(1, .v 0, .a (.v 1) (.v 2)), (1, .a (.v 1) (.v 2), .v 3)] (1, .v 0, .v 3) rfl (Nat.le_of_eq hal) (Nat.le_of_not_lt h2)), Array.getElem?_eq_none (by simp [tv]; exact Mine.lc [ps.length, r.length, j] [(1, .a (.v 0) (.v 1), .v 2)] (1, .a (.v 0) (.v 1), .v 2) rfl (Nat.le_of_not_lt h2))]
    have H1 := H.turnX (e' := .lst (tv (ps ++ (List.range r.length).map fun j => ([r.getD j 0], us j)))) (h' := s'.heap) (k := s'.toks) ?hl ?hsb htk
    case hl => exact ⟨c', by rw [hqs] at hS'; exact hS'⟩
    case hsb =>
      intro b ob hb e
      refine hm.heap b ob (fun hbm => ?_) (Heap.get?_push_of_some _ e)
      rcases List.mem_cons.mp hbm with rfl | hbm
      · exact hb rfl
      · rw [List.mem_singleton.mp hbm] at e
        exact Nat.lt_irrefl _ (Heap.lt_size e)
    have e2 : ({ s with heap := s'.heap, toks := s'.toks } : Shared) = s' := by
      have g1 : s'.gens = s.gens := hm.gens
      have g2 : s'.drawn = s.drawn := hm.drawn
      have g3 : s'.os = s.os := hm.os
      cases s'
      simp only at g1 g2 g3 ⊢
      subst g1 g2 g3
      rfl
    rw [e2] at H1
    refine h _ _ ?_ H1
    rw [List.map_map]
    refine List.ext_getElem? fun j => ?_
    by_cases hj : j < r.length
    · simp [hj]
    · simp [hj]
end


end
section
section
variable {prog : Program} {w : World} {mg mb : Str → Option Value} {s : Shared} {A : Around} {E : Value → Shared → Prop} {Q : Value → Shared → Prop} {k : Nat}
  {name qual : Str} {params : Arguments} {body : List Stmt} {scope : Scope} {dV kV doc pm cdv ct oc : Value} {an od : Option Addr} {osl : Array (Option Value)} {f : Addr} {vs : List Value}
theorem enterD_ {x : Str} {v : Value} (C : Cx w mg mb s.heap) (hr : Room A (k + 1)) (ht : 1 ≤ s.toks)
    (ho : (KK w).lookup f = some ⟨oc, od, .func (fnOf name qual params body scope dV kV doc pm an cdv ct), osl⟩)
    (hcd : codeIn (KK w) cdv qual = true)
    (hbind : bindArgs (fnOf name qual params body scope dV kV doc pm an cdv ct) ⟨vs, []⟩ = pure [(x, v)])
    (hloc : scope.names.lookup x = some .cell)
    (hcs : ∀ n, cellsFrom n scope.names [] = [(x, n)])
    (h : ∀ L s' o, o.data = .cell (some v) → St w mg mb s s.heap L [] [(L + 1, .obj o)] s' → Room (A.deeper (envOfC qual scope L f cdv)) k →
      wpAny (model prog w) (A.deeper (envOfC qual scope L f cdv)) (execs body (envOfC qual scope L f cdv))
        (fun fl s' => Q (match fl with | .ret v => v | _ => .none) s') (fun _ _ => False) s')
    (hco : scope.isCoroutine = false) (hgen : scope.isGenerator = false) (hk : scope.kind = .function) :
    wpAny (model prog w) A (call (.ref f) vs) Q E s := by
  have hcs2 := hcs (s.heap.objs.size + 1)
  refine wpAny_call (codeAny_call_function (fd := fnOf name qual params body scope dV kV doc pm an cdv ct) (body := body) hr.lim (C.X _ _ ho) rfl hco hgen rfl (codeRec_of C.X hcd) ?_)
  rw [hbind]
  refine wpAny_pure (wpAny_with_toks (n := 1) ht (wpAny_newFunctionEnv_cells hk (fun y hy => .inr (by rw [List.mem_singleton.mp hy]; exact ⟨hloc, by rw [hcs2]; simp⟩)) fun env he s' X htk => ?_))
  subst he
  have hfr : ∀ a, s.heap.objs.size ≤ a → s.heap.get? a = none := fun a ha => by
    cases e : s.heap.get? a with
    | none => rfl
    | some o => exact absurd (Heap.lt_size e) (Nat.not_lt.mpr ha)
  have hc1 := X.cell x (s.heap.objs.size + 1) (by show List.lookup x (cellsFrom _ _ _) = _; rw [hcs2]; simp)
  rw [show (newEnv scope s.heap.objs.size mainGlobals (cellsFrom (s.heap.objs.size + 1) scope.names []) (qual ++ ".<locals>.") (some f) cdv none builtinsNs).kindOf = fun n => scope.names.lookup n from rfl] at X
  obtain ⟨o₁, ho₁, hd₁⟩ := hc1
  have hk₁ : ∀ b o, s.heap.get? b = some o → s'.heap.get? b = some o := X.toInCall.keep
  have H : St w mg mb s s.heap s.heap.objs.size [] [(s.heap.objs.size + 1, .obj o₁)] s' := by
    refine ⟨⟨⟨_, X.toInCall.ns, fun y v e => by cases e⟩, hk₁, hfr _ (Nat.le_refl _), fun p hp => ?_, ?_⟩, C, X.toInCall.same, htk, fun _ _ e => e⟩
    · rw [List.mem_singleton.mp hp]
      exact ⟨ho₁, Nat.succ_ne_self _, hfr _ (Nat.le_succ _)⟩
    · simp
  refine ⟨C.T.nolimit.keeps hk₁, codeAny_func ?_⟩
  refine wpAny_mono (h s.heap.objs.size s' o₁ (hd₁.trans ?_) H hr.deeper) (fun fl s' hl => hl) fun _ _ e => e.elim
  show Data.cell (bindC (fun n => scope.names.lookup n) [(x, v)] (fun _ => none) x) = _
  simp [bindC, hloc]
end
section
variable {prog : Program} {w : World} {mg mb : Str → Option Value} {s₀ s : Shared} {g : Heap} {L : Addr} {lo lo' : List (Str × Value)} {led led' : List (Addr × Ent)} {A : Around} {E : Value → Shared → Prop} {vs : List Value} {l T : Addr}
  {Q : Value → Shared → Prop} {a b : Int} {t u : Tok}
theorem sum_ (H : St w mg mb s₀ g L lo led s) (hh : A.handled = none) (hl : s.heap.IsList l vs.toArray) (hv : ∀ v ∈ vs, ∃ n t, v = .int n t)
    (h : ∀ n t s', St w mg mb s₀ g L lo led s' → Q (.int n t) s') : wpAny (model prog w) A (call (.builtin "sum") [.ref l]) Q E s := by
  have hall : AllInts vs.toArray := fun v hv' => hv v (by simpa using hv')
  obtain ⟨xs, e⟩ := hall.items
  rw [e] at hl
  exact wpAny_with_toks (n := 1) H.tk (sum_intListG hh hl fun h' tk t' hk htk => h _ _ _ (H.moved (s' := { s with heap := h', toks := tk }) ⟨h', tk, rfl, hk⟩ htk))
theorem absi_ (H : St w mg mb s₀ g L lo led s) (h : ∀ t s', St w mg mb s₀ g L lo led s' → Q (.int (a.natAbs : Nat) t) s') : wpAny (model prog w) A (call (.builtin "abs") [.int a t]) Q E s :=
  wpAny_with_toks (n := 1) H.tk (call_abs_int fun u tk htk => by
    rw [show (if a < 0 then -a else a) = ((a.natAbs : Nat) : Int) from by split <;> omega]
    exact h _ _ (H.toks htk))
theorem fdivi_ (H : St w mg mb s₀ g L lo led s) (hb : b ≠ 0) (hp : b.natAbs.log2 < 9000) (h : ∀ t s', St w mg mb s₀ g L lo led s' → Q (.int (a.fdiv b) t) s') : wpAny (model prog w) A (binaryOp .FloorDiv (.int a t) (.int b u)) Q E s :=
  floordiv_int hb (h _ _ (H.toks (Nat.le_succ_of_le H.tk))) (.inl (PyProof.noPylong_of_log2 hp))
theorem ifdivi_ (H : St w mg mb s₀ g L lo led s) (hb : b ≠ 0) (hp : b.natAbs.log2 < 9000) (h : ∀ t s', St w mg mb s₀ g L lo led s' → Q (.int (a.fdiv b) t) s') : wpAny (model prog w) A (inplaceOp .FloorDiv (.int a t) (.int b u)) Q E s :=
  ifloordiv_int hb (h _ _ (H.toks (Nat.le_succ_of_le H.tk))) (.inl (PyProof.noPylong_of_log2 hp))
theorem powi_ (H : St w mg mb s₀ g L lo led s) (h1 : 0 ≤ b) (h2 : b ≤ 1000000) (h3 : a.natAbs < 2 ^ 64) (h : ∀ t s', St w mg mb s₀ g L lo led s' → Q (.int (a ^ b.toNat) t) s') : wpAny (model prog w) A (binaryOp .Pow (.int a t) (.int b u)) Q E s :=
  pow_int_small h1 h2 h3 (h _ _ (H.toks (Nat.le_succ_of_le H.tk)))
theorem slicePick_mem {its : Array Value} {x y z : Option Int} {v : Value} (h : v ∈ (slicePick its x y z).toList) : v ∈ its.toList := by
  unfold slicePick at h
  rw [List.toList_toArray] at h
  obtain ⟨i, -, hi⟩ := List.mem_filterMap.mp h
  exact Array.mem_toList_iff.mpr (Array.mem_of_getElem? hi)
end
theorem WalkAt.drop {prog : Program} {w : World} {A : Around} {g : Heap} {L : Addr} {led led' : List (Addr × Ent)} {n : Nat} {P : Nat → Value → Prop} {it : Value} {s : Shared} (W : WalkAt prog w A g L led n P it s) (hs : led'.Sublist led) : WalkAt prog w A g L led' n P it s := by
  obtain ⟨I, fp, wr, Sti, h1, W, h2, h3, h4, h5, h6, h7⟩ := W
  exact ⟨I, fp, wr, Sti, h1, W, h2, h3, h4, h5, fun p hp => h6 p (hs.subset hp), h7⟩
section
variable {prog : Program} {w : World} {A : Around} {E : Value → Shared → Prop} {s : Shared} {vs : List Value} {l : Addr} {Q : Value → Shared → Prop} {i : Int} {ui : Tok} {value slice : Expr}
theorem last2_ {a : Value} (hl : s.heap.IsList l (vs ++ [a]).toArray) (hi : i = -1) (hz : vs.length < 1000000) (h : Q a s)
    {ops : List Value} (hs : subscripted slice false (.ref l) (.int i ui) = operate ops (getItem (.ref l) (.int i ui)) := by with_unfolding_all rfl) :
    wpAny (model prog w) A (subscriptTail value slice (.ref l) (.int i ui)) Q E s := by
  have hg : wpAny (model prog w) A (getItem (.ref l) (.int i ui)) Q E s := by
    have e : (i + ((vs ++ [a]).length : Int)).toNat = vs.length := by rw [hi]; simp; omega
    exact wpAny_getItem_list_neg (x := a) hl (by omega) (by simp; omega) (by omega) (by
      rw [List.size_toArray, e]; simp) h
  unfold subscriptTail
  refine wpAny_bind ?_
  rw [getitemInPython_of_ne hl.typeIs.not_modules]
  refine wpAny_bind (wpAny_specialOf hl.typeIs list_getitem_lookup ?_)
  have fin : wpAny (model prog w) A (subscripted slice false (.ref l) (.int i ui)) (fun r s₃ => wpAny (model prog w) A (letTemporaryGo value (.ref l) r >>= fun _ => pure r) Q E s₃) E s := by
    rw [hs]
    exact wpAny_operating (wpAny_mono hg (fun r s₃ h₃ => wpAny_bind (wpAny_letTemporaryGo (wpAny_pure h₃))) fun _ _ x => x)
  first
    | exact wpAny_pure (wpAny_bind fin)
    | exact wpAny_bind (wpAny_pure (wpAny_bind fin))
    | exact wpAny_bind fin
end


end
section
section
variable {prog : Program} {w : World} {mg mb : Str → Option Value} {s₀ s : Shared} {g : Heap} {L : Addr} {lo : List (Str × Value)} {led : List (Addr × Ent)} {A : Around} {E : Value → Shared → Prop} {vs : List Value} {l : Addr}
theorem St.moved23 {x : Addr} {op op' : Obj} {s' : Shared} (H : St w mg mb s₀ g L lo ((x, .obj op) :: led) s) (hd : s'.drawn = s.drawn) (hos : s'.os = s.os) (k : ∀ b o, b ≠ x → s.heap.get? b = some o → s'.heap.get? b = some o) (hx : s'.heap.get? x = some op') (ht : 1 ≤ s'.toks) :
    St w mg mb { s₀ with gens := s'.gens } g L lo ((x, .obj op') :: led) s' := by
  have hl := H.fs.ok _ (.head _)
  have nd := List.nodup_cons.mp H.fs.nd
  refine ⟨⟨H.fs.ns.at' fun o e => k _ _ (Ne.symm hl.2.1) e, fun b o e => k _ _ (fun z => ?_) (H.fs.keep b o e), H.fs.nL, fun p hp => ?_, H.fs.nd⟩, H.cx, ?_, ht, H.base⟩
  · rw [z, hl.2.2] at e; cases e
  · rcases List.mem_cons.mp hp with rfl | hp
    · exact ⟨hx, hl.2⟩
    · exact ⟨(H.fs.ok p (.tail _ hp)).1.of fun o e => k _ _ (fun z => nd.1 (List.mem_map.mpr ⟨p, hp, z⟩)) e, (H.fs.ok p (.tail _ hp)).2⟩
  · obtain ⟨h, tk, e⟩ := H.eq
    refine ⟨s'.heap, s'.toks, ?_⟩
    have e1 : s.drawn = s₀.drawn := by rw [e]
    have e2 : s.os = s₀.os := by rw [e]
    cases s'
    simp only at hd hos ⊢
    subst hd hos
    rw [e1, e2]
theorem starL_ {Q : List Value → Shared → Prop} (H : St w mg mb s₀ g L lo led s) (hl : s.heap.IsList l vs.toArray) (hz : vs.length ≤ sizeLine) (h : ∀ s', St w mg mb s₀ g L lo led s' → Q vs s') : StarOf (model prog w) A E (.ref l) Q s := by
  obtain ⟨o, ho, hc, n, hd⟩ := hl
  have z : wpAny (model prog w) A (collect (.ref l)) Q E s := by
    refine wpAny_collect_seq l (.inl rfl) ho hc hd (fun h' hk => ?_) (by rw [List.size_toArray]; exact hz)
    have := h _ (H.moved (s' := { s with heap := h' }) ⟨h', s.toks, rfl, hk⟩ H.tk)
    simpa using this
  unfold StarOf notIterableAtAll
  exact wpAny_bind (wpAny_specialOf (T := "list") ⟨o, ho, hc⟩ PySem.F.slot_list_iter.lookup (wpAny_pure ⟨rfl, z⟩))
end
theorem forG_ {prog : Program} {w : World} {mg mb : Str → Option Value} {s₀ s : Shared} {g : Heap} {L : Addr} {lo : List (Str × Value)} {led : List (Addr × Ent)} {A : Around} {Q : Flow → Shared → Prop} {env : Env} {target : Expr} {body : List Stmt} {n : Nat} {P : Nat → Value → Prop} {it : Value}
    (H : St w mg mb s₀ g L lo led s) (W : WalkAt prog w A g L led n P it s) (Inv : Nat → Shared → List (Str × Value) → List (Addr × Ent) → Prop) (h0 : Inv 0 s₀ lo led)
    (turn : ∀ i v s₀₁ lo₁ led₁ its s₁, i < n → P i v → Inv i s₀₁ lo₁ led₁ → St w mg mb s₀₁ g L lo₁ (led₁ ++ its) s₁ →
      wpAny (model prog w) A (assign target env v) (fun _ s₂ => wpAny (model prog w) A (execs body env) (fun f s₃ => match f with
        | .next | .cont => ∃ s₀₃ lo₃ led₃, Inv (i + 1) s₀₃ lo₃ led₃ ∧ St w mg mb s₀₃ g L lo₃ (led₃ ++ its) s₃
        | .brk => Q .next s₃
        | .ret v => Q (.ret v) s₃) (fun _ _ => False) s₂) (fun _ _ => False) s₁)
    (done : ∀ s₀₁ lo₁ led₁ s₁, Inv n s₀₁ lo₁ led₁ → St w mg mb s₀₁ g L lo₁ led₁ s₁ → Q .next s₁)
    (ht : ∀ I v, letOwnedTupleGo target (.ref I) v = pure () := by intro _ _; rfl) :
    codeAny (model prog w) A (.forLoop target it body [] env) (fun r s' => match r with | .ok f => Q f s' | .error _ => False) s := by
  obtain ⟨I, fp, wr, Sti, rfl, W, hnd, hwr, hfp, hex, hdis, hst⟩ := W
  refine codeAny_forLoop (fun k s' => ∃ i s₀₁ lo₁ led₁, i ≤ n ∧ k = n + 1 - i ∧ Inv i s₀₁ lo₁ led₁ ∧ St w mg mb s₀₁ g L lo₁ led₁ s' ∧ (∀ p ∈ led₁, p.1 ∉ wr) ∧ Sti i s'.heap) ?_ (n + 1)
    ⟨0, s₀, lo, led, Nat.zero_le _, rfl, h0, H, hdis, hst⟩ (ht I)
  rintro k s' ⟨i, s₀₁, lo₁, led₁, hi, rfl, hI, H₁, hd₁, hst₁⟩
  by_cases hlt : i < n
  · refine wpAny_with_toks (n := 1) H₁.tk (W.item i _ _ _ hlt hst₁ fun v h' tk hP hst' hk ht => ?_)
    have H₂ := H₁.withIts (wr := wr) hk ht (fun b hb => ⟨(hwr b hb).1, (hwr b hb).2.1⟩) hnd hd₁ (hex _ _ hst')
    refine wpAny_mono (turn i v s₀₁ lo₁ led₁ _ _ hlt hP hI H₂) (fun _ s₂ h₂ => wpAny_mono h₂ (fun f s₃ h₃ => ?_) fun _ _ e => e.elim) fun _ _ e => e.elim
    have fin : (∃ s₀₃ lo₃ led₃, Inv (i + 1) s₀₃ lo₃ led₃ ∧ St w mg mb s₀₃ g L lo₃ (led₃ ++ itsOf h' wr) s₃) →
        ∃ m, m < n + 1 - i ∧ ∃ i s₀₁ lo₁ led₁, i ≤ n ∧ m = n + 1 - i ∧ Inv i s₀₁ lo₁ led₁ ∧ St w mg mb s₀₁ g L lo₁ led₁ s₃ ∧ (∀ p ∈ led₁, p.1 ∉ wr) ∧ Sti i s₃.heap := by
      rintro ⟨s₀₃, lo₃, led₃, hI₃, H₃⟩
      refine ⟨n + 1 - (i + 1), by exact Mine.lc [n + 1 - (i + 1), i, n, n + 1 - i] [(1, .a (.v 0) (.a (.v 1) (.n 1)), .a (.v 2) (.n 1)), (1, .a (.v 2) (.n 1), .a (.v 3) (.v 1))] (1, .a (.v 0) (.n 1), .v 3) rfl (Nat.le_of_eq (Nat.sub_add_cancel (show i + 1 ≤ n + 1 from Mine.lc [i, n] [(1, .v 0, .v 1)] (1, .a (.v 0) (.n 1), .a (.v 1) (.n 1)) rfl hi))) (Nat.sub_le_iff_le_add.mp (Nat.le_refl ( n + 1 - ( i)))), i + 1, s₀₃, lo₃, led₃, hlt, rfl, hI₃, H₃.drop (List.sublist_append_left _ _), fun p hp hm => ?_, W.frame _ _ _ hst' fun b hb o e => ?_⟩
      · have nd := H₃.fs.nd
        rw [List.map_append] at nd
        refine (List.nodup_append.mp nd).2.2 p.1 (List.mem_map_of_mem hp) p.1 ?_ rfl
        rw [itsOf_keys (hex _ _ hst')]; exact hm
      · rcases hfp b hb with hm | ⟨o', ho'⟩
        · exact H₃.obj (List.mem_append_right _ (mem_itsOf hm e))
        · have e1 := H₂.fs.keep _ _ ho'
          have e2 := H₃.fs.keep _ _ ho'
          have e3 : h'.get? b = some o' := e1
          rw [e3] at e; cases e; exact e2
    cases f with
    | next => exact fin h₃
    | cont => exact fin h₃
    | brk => exact h₃
    | ret v => exact h₃
  · have hin : i = n := by exact Nat.le_antisymm (Mine.lc [i, n] [(1, .v 0, .v 1)] (1, .v 0, .v 1) rfl hi) (Mine.lc [n, i] [(1, .v 0, .v 1)] (1, .v 0, .v 1) rfl (Nat.le_of_not_lt hlt))
    subst hin
    refine wpAny_with_toks (n := 1) H₁.tk (W.done _ _ _ hst₁ fun h' tk hk ht => wpAny_execs_nil ?_)
    have F := H₁.fs
    have eq := H₁.eq
    obtain ⟨h, tk₀, rfl⟩ := eq
    refine done s₀₁ lo₁ led₁ _ hI ⟨⟨F.ns.at' fun o e => hk L o (fun hm => (hwr L hm).1 rfl) e, fun b o e => hk b o (fun hm => by rw [(hwr b hm).2.1] at e; cases e) (F.keep b o e), F.nL, fun p hp => ⟨(F.ok p hp).1.of fun o e => hk _ _ (hd₁ p hp) e, (F.ok p hp).2⟩, F.nd⟩, H₁.cx, ⟨_, _, rfl⟩, ht, H₁.base⟩
theorem St.lower {w : World} {mg mb : Str → Option Value} {s₀ s : Shared} {g g' : Heap} {L : Addr} {lo : List (Str × Value)} {led : List (Addr × Ent)} (H : St w mg mb s₀ g' L lo led s) (k : ∀ b o, g.get? b = some o → g'.get? b = some o) (C : Cx w mg mb g) (hb : ∀ b o, s₀.heap.get? b = some o → g.get? b = some o) : St w mg mb s₀ g L lo led s := by
  have none_of : ∀ {b : Addr}, g'.get? b = none → g.get? b = none := fun {b} e => by
    cases q : g.get? b with
    | none => rfl
    | some o => rw [k _ _ q] at e; cases e
  exact ⟨⟨H.fs.ns, fun b o e => H.fs.keep _ _ (k _ _ e), none_of H.fs.nL, fun p hp => ⟨(H.fs.ok p hp).1, (H.fs.ok p hp).2.1, none_of (H.fs.ok p hp).2.2⟩, H.fs.nd⟩, C, H.eq, H.tk, hb⟩


end
section
theorem bl_ : Str.ofString " \t" = S [32, 9] := by decide +kernel
theorem ds_ : Str.ofString "-/\\:;\"()" = S [45, 47, 92, 58, 59, 34, 40, 41] := by decide +kernel
theorem occ_ (x y : Str) : (Builtin.Str.occurrences x y 0 x.length 1).isEmpty = !Txt.contains x y := by unfold Txt.contains; cases (Builtin.Str.occurrences x y 0 x.length 1).isEmpty <;> rfl
theorem bt_mem (c : Nat) : Txt.contains (Str.ofString " \t") (S [c]) = bt c := by
  rw [bl_, contains_S]; unfold bt; rw [Bool.eq_iff_iff]; simp
theorem isD_mem (c : Nat) : Txt.contains (Str.ofString "-/\\:;\"()") (S [c]) = isD c := by
  rw [ds_, contains_S]; unfold isD; rw [Bool.eq_iff_iff]; simp
local macro_rules | `(tactic| walk_at "subscriptTail Name Name str int") => `(tactic| (refine sign_ (by walk_at "my:st") (by with_reducible assumption) (by with_reducible assumption) (by walk_at "my:sz") ?_; walk_at "my:i"))
local macro_rules | `(tactic| walk_at "subscriptTail Name BinOp str int") => `(tactic| (refine sign_ (by walk_at "my:st") (by with_reducible assumption) (by with_reducible assumption) (by walk_at "my:sz") ?_; walk_at "my:i"))
section
variable {prog : Program} {w : World} {mg mb : Str → Option Value} {s : Shared} {A : Around} {E : Value → Shared → Prop} {Q : Value → Shared → Prop} {t : Tok}
theorem u1_ : Str.ofString "u" = S [117] := by decide +kernel
theorem n1_ : Str.ofString "n" = S [110] := by decide +kernel
theorem k1_ : Str.ofString "k" = S [107] := by decide +kernel
theorem o1_ : Str.ofString "o" = S [111] := by decide +kernel
theorem w1_ : Str.ofString "w" = S [119] := by decide +kernel
theorem sl7 (qs : List (List Nat × Tok)) (a : Nat) : (slicePick (tv qs).toArray (some ((a : Nat) : Int)) (some (((a : Nat) : Int) + 7)) none).toList = tv ((qs.drop a).take 7) := by
  rw [slicePick_plain]
  simp only [Option.elim, List.size_toArray]
  have e1 : clipAt (tv qs).length ((a : Nat) : Int) = min a (tv qs).length := by unfold clipAt; omega
  have e2 : clipAt (tv qs).length (((a : Nat) : Int) + 7) = min (a + 7) (tv qs).length := by unfold clipAt; omega
  rw [e1, e2, tv_len]
  unfold tv
  rw [← List.map_drop, ← List.map_take]
  congr 1
  by_cases h : a ≤ qs.length
  · rw [Nat.min_eq_left h]
    by_cases h2 : a + 7 ≤ qs.length
    · rw [Nat.min_eq_left h2, show a + 7 - a = 7 by exact Nat.le_antisymm (Mine.lc [a + 7 - a, a] [(1, .a (.v 0) (.v 1), .a (.v 1) (.n 7))] (1, .v 0, .n 7) rfl (Nat.le_of_eq (Nat.sub_add_cancel (show a ≤ a + 7 from Mine.lc [a] [] (1, .v 0, .a (.v 0) (.n 7)) rfl )))) (Mine.lc [a, a + 7 - a] [(1, .a (.v 0) (.n 7), .a (.v 1) (.v 0))] (1, .n 7, .v 1) rfl (Nat.sub_le_iff_le_add.mp (Nat.le_refl ( a + 7 - ( a)))))]
    · rw [List.take_of_length_le (by rw [List.length_drop]; exact Mine.lc [qs.length - a, a, qs.length, min (a + 7) qs.length, min (a + 7) qs.length - a] [(1, .a (.v 0) (.v 1), .v 2), (1, .v 3, .a (.v 4) (.v 1)), (1, .v 2, .v 3)] (1, .v 0, .v 4) rfl (Nat.le_of_eq (Nat.sub_add_cancel (show a ≤ qs.length from Mine.lc [a, qs.length] [(1, .v 0, .v 1)] (1, .v 0, .v 1) rfl h))) (Nat.sub_le_iff_le_add.mp (Nat.le_refl ( min (a + 7) qs.length - ( a)))) (Nat.le_of_eq (Nat.min_eq_right (show qs.length ≤ a + 7 from Mine.lc [qs.length, a] [(1, .a (.v 0) (.n 1), .a (.v 1) (.n 7))] (1, .v 0, .a (.v 1) (.n 7)) rfl (Nat.lt_of_not_le h2))).symm)), List.take_of_length_le (by rw [List.length_drop]; exact Mine.lc [qs.length, a, qs.length - a] [(1, .a (.v 0) (.n 1), .a (.v 1) (.n 7)), (1, .a (.v 2) (.v 1), .v 0)] (1, .v 2, .n 7) rfl (Nat.lt_of_not_le h2) (Nat.le_of_eq (Nat.sub_add_cancel (show a ≤ qs.length from Mine.lc [a, qs.length] [(1, .v 0, .v 1)] (1, .v 0, .v 1) rfl h))))]
  · rw [List.drop_eq_nil_of_le (by exact Mine.lc [qs.length, min a qs.length] [(1, .v 0, .v 1)] (1, .v 0, .v 1) rfl (Nat.le_of_eq (Nat.min_eq_right (show qs.length ≤ a from Mine.lc [qs.length, a] [(1, .a (.v 0) (.n 1), .v 1)] (1, .v 0, .v 1) rfl (Nat.lt_of_not_le h))).symm)), List.drop_eq_nil_of_le (by exact Mine.lc [qs.length, a] [(1, .a (.v 0) (.n 1), .v 1)] (1, .v 0, .v 1) rfl (Nat.lt_of_not_le h))]; simp
theorem eqLb_ {prog : Program} {w : World} {s : Shared} {Q : Value → Shared → Prop} {E : Value → Shared → Prop} {a b : Addr} {ps qs : List (List Nat × Tok)} (r : Bool) (h1 : s.heap.IsList a (tv ps).toArray) (h2 : s.heap.IsList b (tv qs).toArray) (hu : A.units < cLine) (hb : decide (ps.map (·.1) = qs.map (·.1)) = r) (h : Q (.bool r) s) :
    wpAny (model prog w) A (compareOp .Eq (.ref a) (.ref b)) Q E s := eqL_ h1 h2 hu (by rw [hb]; exact h)
local macro_rules | `(tactic| walk_at "my:goe") => `(tactic| repeat' (first
  | ((fail_if_success (with_reducible show Exists _)); (fail_if_success (with_reducible show wpAny _ _ (compareOp CmpOp.Eq (Value.ref _) (Value.ref _)) _ _ _)); (fail_if_success (with_reducible show wpAny _ _ (exec (Stmt.For _ _ _ _ _) _) _ _ _)); (fail_if_success (with_reducible show wpAny _ _ (exec (Stmt.While _ _ _ _) _) _ _ _)); walk1)))
theorem via_ {M : Model} {c : Sem Flow} {E : Value → Shared → Prop} {Q : Flow → Shared → Prop} (R : Shared → Prop) (h1 : wpAny M A c (fun f s => f = .next ∧ R s) E s) (h2 : ∀ s, R s → Q .next s) : wpAny M A c Q E s := 
  wpAny_mono h1 (fun f s h => by obtain ⟨rfl, h⟩ := h; exact h2 s h) fun _ _ h => h
theorem via1_ {M : Model} {α : Type} {c : Sem α} {E : Value → Shared → Prop} {Q : α → Shared → Prop} (R : α → Shared → Prop) (h1 : wpAny M A c R E s) (h2 : ∀ b s, R b s → Q b s) : wpAny M A c Q E s := 
  wpAny_mono h1 h2 fun _ _ h => h
local macro_rules | `(tactic| walk_at "my:gof") => `(tactic| repeat' (first
  | ((fail_if_success (with_reducible show Exists _)); (fail_if_success (with_reducible show wpAny _ _ (exec (Stmt.If _ _ _ _) _) _ _ _)); (fail_if_success (with_reducible show wpAny _ _ (exec (Stmt.For _ _ _ _ _) _) _ _ _)); (fail_if_success (with_reducible show wpAny _ _ (exec (Stmt.While _ _ _ _) _) _ _ _)); walk1)))
theorem safe_ {lt : Addr} {ps : List (List Nat × Tok)} (C : Cx w mg mb s.heap) (hr : Room A 2) (hts : 1 ≤ s.toks) (hl : s.heap.IsList lt (tv ps).toArray) (hz : tot (ps.map (·.1)) ≤ 100000)
    (hQ : ∀ s' t', Keeps s s' → 1 ≤ s'.toks → Q (.str (S (safeF (ps.map (·.1)))) t') s') :
    wpAny (model prog w) A (call (.ref 189) [.ref lt]) Q E s := by
  refine enter_ (binds := [(Str.ofString "texts", .ref lt)]) (lo := [(Str.ofString "texts", .ref lt)]) C hr hts (by rfl) (by rfl) (by rfl) (by rfl) (by rfl) ?_ (by decide) rfl rfl rfl
  intro L s' H R
  walk_at "my:go"
  refine For_ ?_
  walk_at "my:go"
  rename St _ _ _ _ _ _ _ _ _ => HX
  obtain ⟨lX, HX⟩ : ∃ lX, St w mg mb s s.heap L [(Str.ofString "texts", .ref lt), (Str.ofString "signs", .ref lX), (Str.ofString "behind", .bool false)] [(lX, .lst [])] _ := ⟨_, HX⟩
  refine forL_ R.hh HX hl (fun i lo led => ∃ b qs, lo = [(Str.ofString "texts", .ref lt), (Str.ofString "signs", .ref lX), (Str.ofString "behind", .bool b)] ∧ led = [(lX, .lst (tv qs))] ∧
      qs.map (·.1) = (signsF ((ps.map (·.1)).take i)).map (fun c => [c]) ∧ b = !(((ps.map (·.1)).take i).filter fun p => !p.isEmpty).isEmpty)
    ⟨false, [], rfl, rfl, rfl, rfl⟩ ?_ ?_
  · rintro i v lo₁ led₁ its s₁ hv ⟨b, qs, rfl, rfl, hq, hb⟩ H₁
    clear HX
    rw [List.cons_append, List.nil_append] at H₁
    obtain ⟨c, u, rfl, hc1, -⟩ := tv_get hv
    have hcl := tot_mem (List.mem_of_getElem? hc1)
    have hcz : (S c).length ≤ 1000000 := by rw [S_len]; exact Mine.lc [tot (List.map (Prod.fst) ps), c.length] [(1, .v 0, .n 100000), (1, .a (.v 1) (.n 1), .v 0)] (1, .v 1, .n 1000000) rfl hz hcl
    have et := take_snoc hc1
    have hqz : qs.length ≤ 100000 := by
      have h1 := congrArg List.length hq
      rw [List.length_map, List.length_map] at h1
      rw [h1]
      refine Nat.le_trans (signsF_len _) ?_
      have h2 := tot_app ((ps.map (·.1)).take i) ((ps.map (·.1)).drop i)
      rw [List.take_append_drop] at h2
      exact Mine.lc [tot (List.map (Prod.fst) ps), tot (List.take i (List.map (Prod.fst) ps)), tot (List.drop i (List.map (Prod.fst) ps))] [(1, .v 0, .n 100000), (1, .a (.v 1) (.v 2), .v 0)] (1, .v 1, .n 100000) rfl hz (Nat.le_of_eq (h2).symm)
    have w3 : (tv qs).length ≤ sizeLine := by rw [tv_len]; exact Nat.le_trans hqz (Nat.le_of_ble_eq_true rfl)
    by_cases k0 : c = []
    · have c1 : (S c != Str.ofString "") = false := by rw [em_, S_bne]; simp [k0]
      walk_at "my:go"
      rename St _ _ _ _ _ _ _ _ _ => HZ
      refine ⟨_, _, ⟨b, qs, rfl, rfl, ?_, ?_⟩, St.front (r := [(Str.ofString "one", _)]) HZ⟩
      · rw [et, k0, signsF_skip]; exact hq
      · rw [et, k0]; simpa using hb
    · have c1 : (S c != Str.ofString "") = true := by rw [em_, S_bne]; simp [k0]
      walk_at "my:gof"
      walk1
      walk_at "my:gof"
      rename St _ _ _ _ _ _ _ _ _ => HX
      refine via_ (fun s5 => ∃ qs', St w mg mb s s.heap L [(Str.ofString "texts", .ref lt), (Str.ofString "signs", .ref lX), (Str.ofString "behind", .bool b), (Str.ofString "one", .str (S c) u)] ((lX, .lst (tv qs')) :: its) s5 ∧ qs'.map (·.1) ++ (strip2 c).map (fun c => [c]) = (signsF ((ps.map (·.1)).take i ++ [c])).map (fun c => [c]) ∧ qs'.length ≤ 100001) ?_ ?_
      · cases b with
        | true =>
          have hne : ((ps.map (·.1)).take i).filter (fun p => !p.isEmpty) ≠ [] := fun e => by rw [e] at hb; cases hb
          walk_at "my:go"
          rename St _ _ _ _ _ _ _ _ _ => HZ
          rw [da_, ← tv_snoc] at HZ
          refine ⟨qs ++ [([45], _)], HZ, ?_, by rw [List.length_append, List.length_singleton]; exact Mine.lc [qs.length] [(1, .v 0, .n 100000)] (1, .a (.v 0) (.n 1), .n 100001) rfl hqz⟩
          rw [signsF_snoc k0, if_neg hne, List.map_append, hq]; simp
        | false =>
          have hne : ((ps.map (·.1)).take i).filter (fun p => !p.isEmpty) = [] := by simpa using hb
          walk_at "my:go"
          rename St _ _ _ _ _ _ _ _ _ => HZ
          refine ⟨qs, HZ, ?_, by exact Mine.lc [qs.length] [(1, .v 0, .n 100000)] (1, .v 0, .n 100001) rfl hqz⟩
          rw [signsF_snoc k0, if_pos hne, hq]
          unfold signsF; rw [hne]; rfl
      · rintro s5 ⟨qs', HY, hq', hz'⟩
        clear hq hqz w3 HX
        walk_at "my:go"
        rename St _ _ _ _ _ _ _ _ _ => HX
        rw [S_len] at HX
        refine While_ (fun n lo led => ∃ k t1 t2, lo = [(Str.ofString "texts", .ref lt), (Str.ofString "signs", .ref lX), (Str.ofString "behind", .bool true), (Str.ofString "one", .str (S c) u), (Str.ofString "first", .int (k : Nat) t1), (Str.ofString "last", .int (c.length : Nat) t2)] ∧ led = (lX, .lst (tv qs')) :: its ∧ k ≤ c.length ∧ c.dropWhile bt = (c.drop k).dropWhile bt ∧ n = c.length - k) c.length HX ⟨0, _, _, rfl, rfl, Nat.zero_le _, rfl, rfl⟩ ?_
        rintro n _ _ s6 ⟨k, t1, t2, rfl, rfl, h1, h2, rfl⟩ H5
        clear HX
        have fin1 : (∀ h : k < c.length, bt c[k] = false) → c.dropWhile bt = c.drop k := fun h => by
          rw [h2]
          by_cases q : k < c.length
          · rw [List.drop_eq_getElem_cons q, List.dropWhile_cons, h q]; rfl
          · rw [List.drop_eq_nil_of_le (by exact Mine.lc [c.length, k] [(1, .v 0, .v 1)] (1, .v 0, .v 1) rfl (Nat.le_of_not_lt q))]; rfl
        by_cases kx : ∃ h : k < c.length, bt c[k] = true
        · obtain ⟨kl, kb⟩ := kx
          have c2 : decide (((k : Nat) : Int) < ((c.length : Nat) : Int)) = true := decide_eq_true (by exact Int.ofNat_lt.mpr (show k < c.length from Mine.lc [k, c.length] [(1, .a (.v 0) (.n 1), .v 1)] (1, .a (.v 0) (.n 1), .v 1) rfl kl))
          have i0 : -((S c).length : Int) ≤ (k : Nat) := by rw [S_len]; exact Int.le_trans (Int.neg_nonpos_of_nonneg (Int.natCast_nonneg _)) (Int.natCast_nonneg _)
          have i1 : ((k : Nat) : Int) < (S c).length := by rw [S_len]; exact Int.ofNat_lt.mpr (show k < c.length from Mine.lc [k, c.length] [(1, .a (.v 0) (.n 1), .v 1)] (1, .a (.v 0) (.n 1), .v 1) rfl kl)
          have c3 : (Builtin.Str.occurrences (Str.ofString " \t") (Txt.item (S c) ((k : Nat) : Int)) 0 (Str.ofString " \t").length 1).isEmpty = false := by rw [occ_, item_at c rfl kl, bt_mem, kb]; rfl
          walk_at "my:go"
          refine' ⟨c.length - (k + 1), _, _, by exact Mine.lc [c.length - (k + 1), k, c.length, c.length - k] [(1, .a (.v 0) (.a (.v 1) (.n 1)), .v 2), (1, .v 2, .a (.v 3) (.v 1))] (1, .a (.v 0) (.n 1), .v 3) rfl (Nat.le_of_eq (Nat.sub_add_cancel (show k + 1 ≤ c.length from Mine.lc [k, c.length] [(1, .a (.v 0) (.n 1), .v 1)] (1, .a (.v 0) (.n 1), .v 1) rfl kl))) (Nat.sub_le_iff_le_add.mp (Nat.le_refl ( c.length - ( k)))), ⟨k + 1, ?t9, _, rfl, rfl, by exact Mine.lc [k, c.length] [(1, .a (.v 0) (.n 1), .v 1)] (1, .a (.v 0) (.n 1), .v 1) rfl kl, ?e9, rfl⟩, ?z9⟩
          case z9 =>
            rw [show ((k + 1 : Nat) : Int) = (k : Int) + 1 from by rfl]
            walk_at "my:inv"
          case e9 => rw [h2, List.drop_eq_getElem_cons kl, List.dropWhile_cons, kb]; rfl
        · have hd : c.dropWhile bt = c.drop k := fin1 fun h => by
            by_cases q : bt c[k] = true
            · exact absurd ⟨h, q⟩ kx
            · simpa using q
          refine via1_ (fun b s6 => b = false ∧ St w mg mb s s.heap L [(Str.ofString "texts", .ref lt), (Str.ofString "signs", .ref lX), (Str.ofString "behind", .bool true), (Str.ofString "one", .str (S c) u), (Str.ofString "first", .int (k : Nat) t1), (Str.ofString "last", .int (c.length : Nat) t2)] ((lX, .lst (tv qs')) :: its) s6) ?_ ?_
          · by_cases kl : k < c.length
            · have c2 : decide (((k : Nat) : Int) < ((c.length : Nat) : Int)) = true := decide_eq_true (by exact Int.ofNat_lt.mpr (show k < c.length from Mine.lc [k, c.length] [(1, .a (.v 0) (.n 1), .v 1)] (1, .a (.v 0) (.n 1), .v 1) rfl kl))
              have i0 : -((S c).length : Int) ≤ (k : Nat) := by rw [S_len]; exact Int.le_trans (Int.neg_nonpos_of_nonneg (Int.natCast_nonneg _)) (Int.natCast_nonneg _)
              have i1 : ((k : Nat) : Int) < (S c).length := by rw [S_len]; exact Int.ofNat_lt.mpr (show k < c.length from Mine.lc [k, c.length] [(1, .a (.v 0) (.n 1), .v 1)] (1, .a (.v 0) (.n 1), .v 1) rfl kl)
              have c3 : (Builtin.Str.occurrences (Str.ofString " \t") (Txt.item (S c) ((k : Nat) : Int)) 0 (Str.ofString " \t").length 1).isEmpty = true := by
                rw [occ_, item_at c rfl kl, bt_mem]
                by_cases q : bt c[k] = true
                · exact absurd ⟨kl, q⟩ kx
                · simpa using q
              walk_at "my:go"
              rename St _ _ _ _ _ _ _ _ _ => HZ
              exact HZ
            · have c2 : decide (((k : Nat) : Int) < ((c.length : Nat) : Int)) = false := decide_eq_false (by exact Int.not_lt.mpr (Int.ofNat_le.mpr (show c.length ≤ k from Mine.lc [c.length, k] [(1, .v 0, .v 1)] (1, .v 0, .v 1) rfl (Nat.le_of_not_lt kl))))
              walk_at "my:go"
              rename St _ _ _ _ _ _ _ _ _ => HZ
              exact HZ
          · rintro b s6 ⟨rfl, H6⟩
            clear H5
            walk_at "my:go"
            rename St _ _ _ _ _ _ _ _ _ => HX
            refine While_ (fun n lo led => ∃ m t1 t2, lo = [(Str.ofString "texts", .ref lt), (Str.ofString "signs", .ref lX), (Str.ofString "behind", .bool true), (Str.ofString "one", .str (S c) u), (Str.ofString "first", .int (k : Nat) t1), (Str.ofString "last", .int (m : Nat) t2)] ∧ led = (lX, .lst (tv qs')) :: its ∧ k ≤ m ∧ m ≤ c.length ∧ rst (c.drop k) = rst ((c.take m).drop k) ∧ n = m) c.length HX ⟨c.length, _, _, rfl, rfl, h1, Nat.le_refl _, by rw [List.take_length], rfl⟩ ?_
            rintro n _ _ s7 ⟨m, t3, t4, rfl, rfl, h3, h4, h5, hn⟩ H7
            subst n
            clear HX
            by_cases kx2 : ∃ h : k < m, bt (c[m - 1]'(by omega)) = true
            · obtain ⟨kl, kb⟩ := kx2
              have c2 : decide (((k : Nat) : Int) < ((m : Nat) : Int)) = true := decide_eq_true (by exact Int.ofNat_lt.mpr (show k < m from Mine.lc [k, m] [(1, .a (.v 0) (.n 1), .v 1)] (1, .a (.v 0) (.n 1), .v 1) rfl kl))
              have i0 : -((S c).length : Int) ≤ (m : Nat) - 1 := by rw [S_len]; omega
              have i1 : ((m : Nat) : Int) - 1 < (S c).length := by rw [S_len]; exact Int.sub_one_lt_of_le (Int.ofNat_le.mpr (show m ≤ c.length from Mine.lc [m, c.length] [(1, .v 0, .v 1)] (1, .v 0, .v 1) rfl h4))
              have c3 : (Builtin.Str.occurrences (Str.ofString " \t") (Txt.item (S c) (((m : Nat) : Int) - 1)) 0 (Str.ofString " \t").length 1).isEmpty = false := by
                rw [occ_, item_at c (n := m - 1) (by omega) (by omega), bt_mem, kb]; rfl
              walk_at "my:go"
              refine' ⟨m - 1, _, _, by exact Mine.lc [m - 1, m] [(1, .a (.v 0) (.n 1), .v 1)] (1, .a (.v 0) (.n 1), .v 1) rfl (Nat.le_of_eq (Nat.sub_add_cancel (show 1 ≤ m from Mine.lc [k, m] [(1, .a (.v 0) (.n 1), .v 1)] (1, .n 1, .v 1) rfl kl))), ⟨m - 1, _, _, rfl, rfl, by exact Mine.lc [k, m, m - 1] [(1, .a (.v 0) (.n 1), .v 1), (1, .v 1, .a (.v 2) (.n 1))] (1, .v 0, .v 2) rfl kl (Nat.sub_le_iff_le_add.mp (Nat.le_refl ( m - ( 1)))), by exact Mine.lc [m, c.length, m - 1] [(1, .v 0, .v 1), (1, .v 2, .v 0)] (1, .v 2, .v 1) rfl h4 (Nat.sub_le ( m) ( 1)), ?e9, rfl⟩, ?z9⟩
              case z9 =>
                rw [show ((m - 1 : Nat) : Int) = (m : Int) - 1 from by exact Int.ofNat_sub (show 1 ≤ m from Mine.lc [k, m] [(1, .a (.v 0) (.n 1), .v 1)] (1, .n 1, .v 1) rfl kl)]
                walk_at "my:inv"
              case e9 =>
                rw [h5]
                have e1 : c.take m = c.take (m - 1) ++ [c[m - 1]'(by omega)] := by
                  have := take_snoc (l := c) (i := m - 1) (b := c[m - 1]'(by omega)) (List.getElem?_eq_getElem (by omega))
                  rwa [show m - 1 + 1 = m by exact Nat.le_antisymm (Mine.lc [m - 1, m] [(1, .a (.v 0) (.n 1), .v 1)] (1, .a (.v 0) (.n 1), .v 1) rfl (Nat.le_of_eq (Nat.sub_add_cancel (show 1 ≤ m from Mine.lc [k, m] [(1, .a (.v 0) (.n 1), .v 1)] (1, .n 1, .v 1) rfl kl)))) (Mine.lc [m, m - 1] [(1, .v 0, .a (.v 1) (.n 1))] (1, .v 0, .a (.v 1) (.n 1)) rfl (Nat.sub_le_iff_le_add.mp (Nat.le_refl ( m - ( 1)))))] at this
                rw [e1, List.drop_append_of_le_length (by rw [List.length_take]; exact Nat.le_min.mpr ⟨by exact Mine.lc [k, m, m - 1] [(1, .a (.v 0) (.n 1), .v 1), (1, .v 1, .a (.v 2) (.n 1))] (1, .v 0, .v 2) rfl kl (Nat.sub_le_iff_le_add.mp (Nat.le_refl ( m - ( 1)))), by exact Mine.lc [k, c.length] [(1, .v 0, .v 1)] (1, .v 0, .v 1) rfl h1⟩), rst_snoc_t kb]
            · have h6 : strip2 c = (c.take m).drop k := by
                show rst (c.dropWhile bt) = _
                rw [hd, h5]
                by_cases kl : k < m
                · have e1 : c.take m = c.take (m - 1) ++ [c[m - 1]'(by omega)] := by
                    have := take_snoc (l := c) (i := m - 1) (b := c[m - 1]'(by omega)) (List.getElem?_eq_getElem (by omega))
                    rwa [show m - 1 + 1 = m by exact Nat.le_antisymm (Mine.lc [m - 1, m] [(1, .a (.v 0) (.n 1), .v 1)] (1, .a (.v 0) (.n 1), .v 1) rfl (Nat.le_of_eq (Nat.sub_add_cancel (show 1 ≤ m from Mine.lc [k, m] [(1, .a (.v 0) (.n 1), .v 1)] (1, .n 1, .v 1) rfl kl)))) (Mine.lc [m, m - 1] [(1, .v 0, .a (.v 1) (.n 1))] (1, .v 0, .a (.v 1) (.n 1)) rfl (Nat.sub_le_iff_le_add.mp (Nat.le_refl ( m - ( 1)))))] at this
                  rw [e1, List.drop_append_of_le_length (by rw [List.length_take]; exact Nat.le_min.mpr ⟨by exact Mine.lc [k, m, m - 1] [(1, .a (.v 0) (.n 1), .v 1), (1, .v 1, .a (.v 2) (.n 1))] (1, .v 0, .v 2) rfl kl (Nat.sub_le_iff_le_add.mp (Nat.le_refl ( m - ( 1)))), by exact Mine.lc [k, c.length] [(1, .v 0, .v 1)] (1, .v 0, .v 1) rfl h1⟩), rst_snoc_f]
                  by_cases q : bt (c[m - 1]'(by omega)) = true
                  · exact absurd ⟨kl, q⟩ kx2
                  · simpa using q
                · rw [List.drop_eq_nil_of_le (by rw [List.length_take]; exact Mine.lc [m, k, min m c.length] [(1, .v 0, .v 1), (1, .v 2, .v 0)] (1, .v 2, .v 1) rfl (Nat.le_of_not_lt kl) (Nat.min_le_left ( m) ( c.length)))]; rfl
              refine via1_ (fun b s6 => b = false ∧ St w mg mb s s.heap L [(Str.ofString "texts", .ref lt), (Str.ofString "signs", .ref lX), (Str.ofString "behind", .bool true), (Str.ofString "one", .str (S c) u), (Str.ofString "first", .int (k : Nat) t3), (Str.ofString "last", .int (m : Nat) t4)] ((lX, .lst (tv qs')) :: its) s6) ?_ ?_
              · by_cases kl : k < m
                · have c2 : decide (((k : Nat) : Int) < ((m : Nat) : Int)) = true := decide_eq_true (by exact Int.ofNat_lt.mpr (show k < m from Mine.lc [k, m] [(1, .a (.v 0) (.n 1), .v 1)] (1, .a (.v 0) (.n 1), .v 1) rfl kl))
                  have i0 : -((S c).length : Int) ≤ (m : Nat) - 1 := by rw [S_len]; omega
                  have i1 : ((m : Nat) : Int) - 1 < (S c).length := by rw [S_len]; exact Int.sub_one_lt_of_le (Int.ofNat_le.mpr (show m ≤ c.length from Mine.lc [m, c.length] [(1, .v 0, .v 1)] (1, .v 0, .v 1) rfl h4))
                  have c3 : (Builtin.Str.occurrences (Str.ofString " \t") (Txt.item (S c) (((m : Nat) : Int) - 1)) 0 (Str.ofString " \t").length 1).isEmpty = true := by
                    rw [occ_, item_at c (n := m - 1) (by omega) (by omega), bt_mem]
                    by_cases q : bt (c[m - 1]'(by omega)) = true
                    · exact absurd ⟨kl, q⟩ kx2
                    · simpa using q
                  walk_at "my:go"
                  rename St _ _ _ _ _ _ _ _ _ => HZ
                  exact HZ
                · have c2 : decide (((k : Nat) : Int) < ((m : Nat) : Int)) = false := decide_eq_false (by exact Int.not_lt.mpr (Int.ofNat_le.mpr (show m ≤ k from Mine.lc [m, k] [(1, .v 0, .v 1)] (1, .v 0, .v 1) rfl (Nat.le_of_not_lt kl))))
                  walk_at "my:go"
                  rename St _ _ _ _ _ _ _ _ _ => HZ
                  exact HZ
              · rintro b s6 ⟨rfl, H6⟩
                clear H7
                have hsl : Txt.slice (S c) (some (k : Nat)) (some (m : Nat)) = S (strip2 c) := by
                  rw [sl_ab c rfl rfl h3, h6, List.drop_take]
                walk_at "my:go"
                rw [hsl]
                rename St _ _ _ _ _ _ _ _ _ => HX
                have hs2 := strip2_len c
                refine extS_ R.hh HX (by exact Mine.lc [tot (List.map (Prod.fst) ps), c.length, qs'.length, (strip2 c).length] [(1, .v 0, .n 100000), (1, .a (.v 1) (.n 1), .v 0), (1, .v 2, .n 100001), (1, .v 3, .v 1)] (1, .a (.v 2) (.v 3), .n 1000000) rfl hz hcl hz' hs2) fun qs2 s8 hq2 H8 => ?_
                clear HX
                walk_at "my:go"
                rename St _ _ _ _ _ _ _ _ _ => HZ
                refine ⟨_, _, ⟨true, qs' ++ qs2, rfl, rfl, ?_, ?_⟩, St.front (r := [(Str.ofString "one", _), (Str.ofString "first", _), (Str.ofString "last", _)]) HZ⟩
                · rw [List.map_append, hq2, hq', et]
                · rw [et, List.filter_append, show List.filter (fun p : List Nat => !p.isEmpty) [c] = [c] from by simp [k0]]; simp
  · rintro lo₁ led₁ s₁ ⟨b, qs, rfl, rfl, hq, hb⟩ H₁
    clear HX
    rw [List.take_of_length_le (by rw [List.length_map]; exact Nat.le_of_eq (tv_len ps).symm)] at hq
    have hll : (signsF (ps.map (·.1))).length ≤ 100000 := Nat.le_trans (signsF_len _) hz
    show wpAny _ _ _ _ _ _
    generalize hF : safeF (ps.map (·.1)) = F at hQ
    unfold safeF at hF
    generalize signsF (ps.map (·.1)) = l at hq hll hF
    have hql : qs.length = l.length := by have := congrArg List.length hq; simpa using this
    obtain ⟨g', hg', H2, hX⟩ := H₁.based (led' := []) (List.nil_sublist _) (.head _) (by simp)
    clear H₁
    have w3 : (tv qs).length ≤ sizeLine := by rw [tv_len, hql]; exact Nat.le_trans hll (Nat.le_of_ble_eq_true rfl)
    have w5 : (tv qs).length ≤ 1000000 := by rw [tv_len, hql]; exact Mine.lc [l.length] [(1, .v 0, .n 100000)] (1, .v 0, .n 1000000) rfl hll
    walk_at "my:go"
    rename St _ _ _ _ _ _ _ _ _ => HX
    obtain ⟨lK, HX⟩ : ∃ lK, St w mg mb s g' L [(Str.ofString "texts", .ref lt), (Str.ofString "signs", .ref lX), (Str.ofString "behind", .bool b), (Str.ofString "kept", .ref lK), (Str.ofString "owed", .bool false), (Str.ofString "at", .int 0 _)] [(lK, .lst [])] _ := ⟨_, HX⟩
    refine While_ (fun n lo led => ∃ a o t1 ks rest, lo = [(Str.ofString "texts", .ref lt), (Str.ofString "signs", .ref lX), (Str.ofString "behind", .bool b), (Str.ofString "kept", .ref lK), (Str.ofString "owed", .bool o), (Str.ofString "at", .int (a : Nat) t1)] ∧ led.Perm ((lK, .lst (tv ks)) :: rest) ∧ a ≤ l.length ∧ tot (ks.map (·.1)) ≤ 4 * a ∧ ks.length ≤ 2 * a ∧ (ks.map (·.1)).flatten ++ kfin ((l.drop a).length + 1) (l.drop a) o = F ∧ n = l.length - a) l.length HX ⟨0, false, _, [], [], rfl, .refl _, Nat.zero_le _, Nat.zero_le _, Nat.zero_le _, hF, rfl⟩ ?_
    rintro n _ led₁ s5 ⟨a, o, t1, ks, rest, rfl, hp, h1, h2, h3, h4, hn⟩ H5
    have H6 := H5.perm hp
    clear HX H5
    have w4 : (tv ks).length ≤ sizeLine := by rw [tv_len]; exact Nat.le_trans (show ks.length ≤ 1000000 by exact Mine.lc [l.length, a, ks.length] [(2, .v 0, .n 100000), (2, .v 1, .v 0), (1, .v 2, .m 2 (.v 1))] (1, .v 2, .n 1000000) rfl hll h1 h3) (Nat.le_of_ble_eq_true rfl)
    by_cases kl : a < l.length
    · have c1 : decide (((a : Nat) : Int) < (((tv qs).length : Nat) : Int)) = true := by rw [tv_len, hql]; exact decide_eq_true (by exact Int.ofNat_lt.mpr (show a < l.length from Mine.lc [a, l.length] [(1, .a (.v 0) (.n 1), .v 1)] (1, .a (.v 0) (.n 1), .v 1) rfl kl))
      have i0 : (0 : Int) ≤ ((a : Nat) : Int) := by exact Int.natCast_nonneg _
      have i1 : ((a : Nat) : Int) < 1000000 := by exact Int.ofNat_lt.mpr (show a < 1000000 from Mine.lc [l.length, a] [(1, .v 0, .n 100000), (1, .v 1, .v 0)] (1, .a (.v 1) (.n 1), .n 1000000) rfl hll h1)
      have g1 := tvg (show a < qs.length by exact Mine.lc [l.length, qs.length, a] [(1, .v 0, .v 1), (1, .a (.v 2) (.n 1), .v 0)] (1, .a (.v 2) (.n 1), .v 1) rfl (Nat.le_of_eq (hql).symm) kl)
      have gx : (qs[a]'(by omega)).1 = [l[a]] := by
        have e : (qs.map (·.1))[a]? = some [l[a]] := by rw [hq]; simp [kl]
        rw [List.getElem?_map, List.getElem?_eq_getElem (by omega)] at e
        exact Option.some.inj e
      rw [gx] at g1
      have hs7 := sl7 qs a
      have ed : l.drop a = l[a] :: l.drop (a + 1) := List.drop_eq_getElem_cons kl
      generalize (qs[a]'(by omega)).2 = tx at g1
      walk_at "my:goe"
      rename St _ _ _ _ _ _ _ _ _ => HZ
      rw [hs7, u1_, n1_, k1_, o1_, w1_] at HZ
      have h7 : ∀ t1 t2 t3 t4 t5 t6 t7 : Tok, ((qs.drop a).take 7).map (·.1) = ([([117], t1), ([110], t2), ([107], t3), ([110], t4), ([111], t5), ([119], t6), ([110], t7)] : List (List Nat × Tok)).map (·.1) ↔ unk <+: l.drop a := fun t1 t2 t3 t4 t5 t6 t7 => by
        rw [List.map_take, List.map_drop, hq, ← List.map_drop, ← List.map_take]
        show _ = unk.map (fun c => [c]) ↔ _
        rw [List.prefix_iff_eq_take]
        constructor
        · intro e
          exact ((List.map_inj_right (fun a b e => by simpa using e)).mp e).symm
        · intro e
          rw [show (7 : Nat) = unk.length from rfl, ← e]
      by_cases kp : unk <+: l.drop a
      · refine eqLb_ (ps := (qs.drop a).take 7) (qs := [([117], _), ([110], _), ([107], _), ([110], _), ([111], _), ([119], _), ([110], _)]) true (HZ.lst (.tail _ (.head _))) (HZ.lst (.head _)) R.cl (decide_eq_true ((h7 ..).mpr kp)) ?_
        have hpl := kp.length_le
        rw [List.length_drop, show unk.length = 7 from rfl] at hpl
        walk_at "my:go"
        rename St _ _ _ _ _ _ _ _ _ => HY
        rw [show (a : Int) + 7 = ((a + 7 : Nat) : Int) from by rfl] at HY
        exact ⟨l.length - (a + 7), _, _, by exact Mine.lc [l.length - a, n, l.length, a, l.length - (a + 7)] [(1, .v 0, .v 1), (1, .v 2, .a (.v 0) (.v 3)), (1, .a (.v 4) (.a (.v 3) (.n 7)), .v 2)] (1, .a (.v 4) (.n 1), .v 1) rfl (Nat.le_of_eq (hn).symm) (Nat.sub_le_iff_le_add.mp (Nat.le_refl ( l.length - ( a)))) (Nat.le_of_eq (Nat.sub_add_cancel (show a + 7 ≤ l.length from Mine.lc [l.length - a, a, l.length] [(1, .n 7, .v 0), (1, .a (.v 0) (.v 1), .v 2)] (1, .a (.v 1) (.n 7), .v 2) rfl hpl (Nat.le_of_eq (Nat.sub_add_cancel (show a ≤ l.length from Mine.lc [a, l.length] [(1, .v 0, .v 1)] (1, .v 0, .v 1) rfl h1)))))), ⟨a + 7, o, _, ks, _, rfl, .refl _, by exact Mine.lc [l.length - a, a, l.length] [(1, .n 7, .v 0), (1, .a (.v 0) (.v 1), .v 2)] (1, .a (.v 1) (.n 7), .v 2) rfl hpl (Nat.le_of_eq (Nat.sub_add_cancel (show a ≤ l.length from Mine.lc [a, l.length] [(1, .v 0, .v 1)] (1, .v 0, .v 1) rfl h1))), by exact Mine.lc [tot (List.map (Prod.fst) ks), a] [(1, .v 0, .m 4 (.v 1))] (1, .v 0, .m 4 (.a (.v 1) (.n 7))) rfl h2, by exact Mine.lc [ks.length, a] [(1, .v 0, .m 2 (.v 1))] (1, .v 0, .m 2 (.a (.v 1) (.n 7))) rfl h3, by rw [← h4, kfin_unk kp, List.drop_drop], rfl⟩, HY.perm (List.perm_middle (l₁ := [_, _]))⟩
      · refine eqLb_ (ps := (qs.drop a).take 7) (qs := [([117], _), ([110], _), ([107], _), ([110], _), ([111], _), ([119], _), ([110], _)]) false (HZ.lst (.tail _ (.head _))) (HZ.lst (.head _)) R.cl (decide_eq_false (fun e => kp ((h7 ..).mp e))) ?_
        have kp2 := kp
        rw [ed] at kp2 h4
        by_cases kd : isD l[a] = true
        · have c3 : (Builtin.Str.occurrences (Str.ofString "-/\\:;\"()") (S [l[a]]) 0 (Str.ofString "-/\\:;\"()").length 1).isEmpty = false := by rw [occ_, isD_mem, kd]; rfl
          rw [kfin_D kp2 kd] at h4
          walk_at "my:go"
          rename St _ _ _ _ _ _ _ _ _ => HY
          rw [show (a : Int) + 1 = ((a + 1 : Nat) : Int) from by rfl] at HY
          exact ⟨l.length - (a + 1), _, _, by exact Mine.lc [l.length - a, n, l.length, a, l.length - (a + 1)] [(1, .v 0, .v 1), (1, .v 2, .a (.v 0) (.v 3)), (1, .a (.v 4) (.a (.v 3) (.n 1)), .v 2)] (1, .a (.v 4) (.n 1), .v 1) rfl (Nat.le_of_eq (hn).symm) (Nat.sub_le_iff_le_add.mp (Nat.le_refl ( l.length - ( a)))) (Nat.le_of_eq (Nat.sub_add_cancel (show a + 1 ≤ l.length from Mine.lc [a, l.length] [(1, .a (.v 0) (.n 1), .v 1)] (1, .a (.v 0) (.n 1), .v 1) rfl kl))), ⟨a + 1, true, _, ks, _, rfl, .refl _, by exact Mine.lc [a, l.length] [(1, .a (.v 0) (.n 1), .v 1)] (1, .a (.v 0) (.n 1), .v 1) rfl kl, by exact Mine.lc [tot (List.map (Prod.fst) ks), a] [(1, .v 0, .m 4 (.v 1))] (1, .v 0, .m 4 (.a (.v 1) (.n 1))) rfl h2, by exact Mine.lc [ks.length, a] [(1, .v 0, .m 2 (.v 1))] (1, .v 0, .m 2 (.a (.v 1) (.n 1))) rfl h3, h4, rfl⟩, HY.perm (List.perm_middle (l₁ := [_, _]))⟩
        · have kd2 : isD l[a] = false := by simpa using kd
          have c3 : (Builtin.Str.occurrences (Str.ofString "-/\\:;\"()") (S [l[a]]) 0 (Str.ofString "-/\\:;\"()").length 1).isEmpty = true := by rw [occ_, isD_mem, kd2]; rfl
          rw [kfin_K kp2 kd2] at h4
          walk_at "my:gof"
          walk1
          walk_at "my:gof"
          rename St _ _ _ _ _ _ _ _ _ => HX
          refine via_ (fun s6 => ∃ ks' led', St w mg mb s g' L [(Str.ofString "texts", .ref lt), (Str.ofString "signs", .ref lX), (Str.ofString "behind", .bool b), (Str.ofString "kept", .ref lK), (Str.ofString "owed", .bool false), (Str.ofString "at", .int (a : Nat) t1)] ((lK, .lst (tv ks')) :: led') s6 ∧ (ks'.map (·.1)).flatten = (ks.map (·.1)).flatten ++ (if o then [45] else []) ∧ tot (ks'.map (·.1)) ≤ 4 * a + 2 ∧ ks'.length ≤ 2 * a + 1) ?_ ?_
          · cases o with
            | true =>
              walk_at "my:go"
              rename St _ _ _ _ _ _ _ _ _ => HY
              rw [da_, ← tv_snoc] at HY
              refine ⟨ks ++ [([45], _)], _, HY.perm (List.perm_middle (l₁ := [_, _])), by simp, ?_, ?_⟩
              · rw [List.map_append, tot_app]; simp [tot]; simp [tot] at h2; omega
              · rw [List.length_append, List.length_singleton]; exact Mine.lc [ks.length, a] [(1, .v 0, .m 2 (.v 1))] (1, .a (.v 0) (.n 1), .a (.m 2 (.v 1)) (.n 1)) rfl h3
            | false =>
              walk_at "my:go"
              rename St _ _ _ _ _ _ _ _ _ => HY
              exact ⟨ks, _, HY.perm (List.perm_middle (l₁ := [_, _])), by simp, by exact Mine.lc [tot (List.map (Prod.fst) ks), a] [(1, .v 0, .m 4 (.v 1))] (1, .v 0, .a (.m 4 (.v 1)) (.n 2)) rfl h2, by exact Mine.lc [ks.length, a] [(1, .v 0, .m 2 (.v 1))] (1, .v 0, .a (.m 2 (.v 1)) (.n 1)) rfl h3⟩
          · rintro s6 ⟨ks', led', H9, h10, h11, h12⟩
            have w6 : (tv ks').length ≤ sizeLine := by rw [tv_len]; exact Nat.le_trans (show ks'.length ≤ 1000000 by exact Mine.lc [l.length, a, ks'.length] [(2, .v 0, .n 100000), (2, .v 1, .v 0), (1, .v 2, .a (.m 2 (.v 1)) (.n 1))] (1, .v 2, .n 1000000) rfl hll h1 h12) (Nat.le_of_ble_eq_true rfl)
            clear HX
            by_cases kc : l[a] = 32
            · have c4 : (S [l[a]] == Str.ofString " ") = true := by rw [sp_, S_beq]; exact decide_eq_true (by rw [kc])
              walk_at "my:go"
              rename St _ _ _ _ _ _ _ _ _ => HY
              rw [us_, ← tv_snoc, show (a : Int) + 1 = ((a + 1 : Nat) : Int) from by rfl] at HY
              refine ⟨l.length - (a + 1), _, _, by exact Mine.lc [l.length - a, n, l.length, a, l.length - (a + 1)] [(1, .v 0, .v 1), (1, .v 2, .a (.v 0) (.v 3)), (1, .a (.v 4) (.a (.v 3) (.n 1)), .v 2)] (1, .a (.v 4) (.n 1), .v 1) rfl (Nat.le_of_eq (hn).symm) (Nat.sub_le_iff_le_add.mp (Nat.le_refl ( l.length - ( a)))) (Nat.le_of_eq (Nat.sub_add_cancel (show a + 1 ≤ l.length from Mine.lc [a, l.length] [(1, .a (.v 0) (.n 1), .v 1)] (1, .a (.v 0) (.n 1), .v 1) rfl kl))), ⟨a + 1, false, _, ks' ++ [([95], _)], _, rfl, .refl _, by exact Mine.lc [a, l.length] [(1, .a (.v 0) (.n 1), .v 1)] (1, .a (.v 0) (.n 1), .v 1) rfl kl, ?_, ?_, ?_, rfl⟩, HY⟩
              · rw [List.map_append, tot_app]; simp [tot]; simp [tot] at h11; omega
              · rw [List.length_append, List.length_singleton]; exact Mine.lc [ks'.length, a] [(1, .v 0, .a (.m 2 (.v 1)) (.n 1))] (1, .a (.v 0) (.n 1), .m 2 (.a (.v 1) (.n 1))) rfl h12
              · rw [List.map_append, List.flatten_append, h10, ← h4, show f1 32 95 l[a] = 95 from by rw [kc]; rfl]; simp
            · have c4 : (S [l[a]] == Str.ofString " ") = false := by rw [sp_, S_beq]; exact decide_eq_false (by simpa using kc)
              walk_at "my:go"
              rename St _ _ _ _ _ _ _ _ _ => HY
              rw [← tv_snoc, show (a : Int) + 1 = ((a + 1 : Nat) : Int) from by rfl] at HY
              refine ⟨l.length - (a + 1), _, _, by exact Mine.lc [l.length - a, n, l.length, a, l.length - (a + 1)] [(1, .v 0, .v 1), (1, .v 2, .a (.v 0) (.v 3)), (1, .a (.v 4) (.a (.v 3) (.n 1)), .v 2)] (1, .a (.v 4) (.n 1), .v 1) rfl (Nat.le_of_eq (hn).symm) (Nat.sub_le_iff_le_add.mp (Nat.le_refl ( l.length - ( a)))) (Nat.le_of_eq (Nat.sub_add_cancel (show a + 1 ≤ l.length from Mine.lc [a, l.length] [(1, .a (.v 0) (.n 1), .v 1)] (1, .a (.v 0) (.n 1), .v 1) rfl kl))), ⟨a + 1, false, _, ks' ++ [([l[a]], _)], _, rfl, .refl _, by exact Mine.lc [a, l.length] [(1, .a (.v 0) (.n 1), .v 1)] (1, .a (.v 0) (.n 1), .v 1) rfl kl, ?_, ?_, ?_, rfl⟩, HY⟩
              · rw [List.map_append, tot_app]; simp [tot]; simp [tot] at h11; omega
              · rw [List.length_append, List.length_singleton]; exact Mine.lc [ks'.length, a] [(1, .v 0, .a (.m 2 (.v 1)) (.n 1))] (1, .a (.v 0) (.n 1), .m 2 (.a (.v 1) (.n 1))) rfl h12
              · rw [List.map_append, List.flatten_append, h10, ← h4, show f1 32 95 l[a] = l[a] from if_neg kc]; simp
    · have c1 : decide (((a : Nat) : Int) < (((tv qs).length : Nat) : Int)) = false := by rw [tv_len, hql]; exact decide_eq_false (by exact Int.not_lt.mpr (Int.ofNat_le.mpr (show l.length ≤ a from Mine.lc [l.length, a] [(1, .v 0, .v 1)] (1, .v 0, .v 1) rfl (Nat.le_of_not_lt kl))))
      have hok : tot (ks.map (·.1)) ≤ 1000000 := by exact Mine.lc [l.length, a, tot (List.map (Prod.fst) ks)] [(4, .v 0, .n 100000), (4, .v 1, .v 0), (1, .v 2, .m 4 (.v 1))] (1, .v 2, .n 1000000) rfl hll h1 h2
      rw [List.drop_eq_nil_of_le (by exact Mine.lc [l.length, a] [(1, .v 0, .v 1)] (1, .v 0, .v 1) rfl (Nat.le_of_not_lt kl)), kfin_nil, List.append_nil] at h4
      walk_at "my:go"
      rename St _ _ _ _ _ _ _ _ _ => HZ
      rw [show (Str.ofString "").1.toList = [] from by decide +kernel, inter0, h4]
      exact hQ _ _ HZ.keeps HZ.tk
end

end
section
local macro_rules | `(tactic| walk_at "my:gof") => `(tactic| repeat' (first
  | ((fail_if_success (with_reducible show Exists _)); (fail_if_success (with_reducible show wpAny _ _ (exec (Stmt.If _ _ _ _) _) _ _ _)); (fail_if_success (with_reducible show wpAny _ _ (exec (Stmt.For _ _ _ _ _) _) _ _ _)); (fail_if_success (with_reducible show wpAny _ _ (exec (Stmt.While _ _ _ _) _) _ _ _)); walk1)))
local macro_rules | `(tactic| walk_at "my:gol") => `(tactic| repeat' (first
  | ((fail_if_success (with_reducible show Exists _)); (fail_if_success (with_reducible show wpAny _ _ (exec (Stmt.For _ _ _ _ _) _) _ _ _)); (fail_if_success (with_reducible show wpAny _ _ (exec (Stmt.While _ _ _ _) _) _ _ _)); (fail_if_success (with_reducible show wpAny _ _ (exec (Stmt.Try _ _ _ _ _) _) _ _ _)); (fail_if_success (with_reducible show wpAny _ _ (exec (Stmt.Assign _ (Expr.ListComp _ _ _ _) _) _) _ _ _)); (fail_if_success (with_reducible show wpAny _ _ (eval (Expr.ListComp _ _ _ _) _) _ _ _)); (fail_if_success (with_reducible show wpAny _ _ (eval (Expr.SetComp _ _ _ _) _) _ _ _)); walk1)))
theorem pc0_ : Str.ofString "a" = S [97] := by decide +kernel
theorem pc1_ : Str.ofString "-" = S [45] := by decide +kernel
theorem pc2_ : Str.ofString " " = S [32] := by decide +kernel
theorem pc3_ : Str.ofString "/" = S [47] := by decide +kernel
theorem pc4_ : Str.ofString "." = S [46] := by decide +kernel
theorem pc5_ : Str.ofString ".." = S [46, 46] := by decide +kernel
theorem pc6_ : Str.ofString "unknown" = S [117, 110, 107, 110, 111, 119, 110] := by decide +kernel
theorem pc7_ : Str.ofString "un" = S [117, 110] := by decide +kernel
theorem pc8_ : Str.ofString "known" = S [107, 110, 111, 119, 110] := by decide +kernel
theorem pc9_ : Str.ofString "\t" = S [9] := by decide +kernel
theorem pc10_ : Str.ofString "\\" = S [92] := by decide +kernel
theorem pc11_ : Str.ofString ":;" = S [58, 59] := by decide +kernel
theorem pc12_ : Str.ofString "\"(" = S [34, 40] := by decide +kernel
theorem pc13_ : Str.ofString ")" = S [41] := by decide +kernel
theorem pc14_ : Str.ofString "é" = S [233] := by decide +kernel
theorem pc15_ : Str.ofString "--" = S [45, 45] := by decide +kernel
noncomputable def piecesF : List (List Nat) := [[97], [45], [32], [47], [46], [46, 46], [117, 110, 107, 110, 111, 119, 110], [117, 110], [107, 110, 111, 119, 110], [9], [92], [58, 59], [34, 40], [41], [233], [45, 45]]
local macro_rules | `(tactic| walk_at "eval Name") => `(tactic| (refine ldC_ (by walk_at "my:st") (by rfl) (by walk_at "my:mem") (by assumption) ?_))
local macro_rules | `(tactic| walk_at "subscriptTail") => `(tactic| ((with_reducible show wpAny _ _ (subscriptTail (Expr.Subscript _ _ _) _ (Value.ref _) (Value.int _ _)) _ _ _); refine last2_ (by walk_at "my:lst") (by rfl) (by walk_at "my:sz") ?_))
local macro_rules | `(tactic| walk_at "call builtin:sum") => `(tactic| (refine sum_ (by walk_at "my:st") (by walk_at "my:hh") (by walk_at "my:lst") (by with_reducible assumption) ?_; walk_at "my:i"))
local macro_rules | `(tactic| walk_at "call builtin:abs") => `(tactic| (refine absi_ (by walk_at "my:st") ?_; walk_at "my:i"))
local macro_rules | `(tactic| walk_at "binaryOp Pow int int") => `(tactic| (refine powi_ (by walk_at "my:st") (by decide) (by decide) (by decide) ?_; walk_at "my:i"))
local macro_rules | `(tactic| walk_at "binaryOp FloorDiv int int") => `(tactic| (refine fdivi_ (by walk_at "my:st") (by decide) (by decide) ?_; walk_at "my:i"))
local macro_rules | `(tactic| walk_at "inplaceOp FloorDiv int int") => `(tactic| (refine ifdivi_ (by walk_at "my:st") (by decide) (by decide) ?_; walk_at "my:i"))
local macro_rules | `(tactic| walk_at "call builtin:min") => `(tactic| (refine min2_ (n := 12) (by walk_at "my:st") (by walk_at "my:hh") ?_; walk_at "my:i"))
theorem fmod6 (m : Nat) : ((m : Nat) : Int).fmod (10 ^ (6 : Int).toNat) = ((m % 1000000 : Nat) : Int) := by
  rw [show (10 : Int) ^ (6 : Int).toNat = 1000000 from by decide, Int.fmod_eq_emod_of_nonneg _ (by decide)]; rfl
theorem fdiv6 (m : Nat) : ((m : Nat) : Int).fdiv 6 = ((m / 6 : Nat) : Int) := by
  rw [Int.fdiv_eq_ediv_of_nonneg _ (by decide)]; rfl
theorem fdiv16 (m : Nat) : ((m : Nat) : Int).fdiv 16 = ((m / 16 : Nat) : Int) := by
  rw [Int.fdiv_eq_ediv_of_nonneg _ (by decide)]; rfl
theorem fmod16 (m : Nat) : ((m : Nat) : Int).fmod 16 = ((m % 16 : Nat) : Int) := by
  rw [Int.fmod_eq_emod_of_nonneg _ (by decide)]; rfl
theorem fmd6 (m : Nat) : ((m : Nat) : Int).fmod 6 = ((m % 6 : Nat) : Int) := by
  rw [Int.fmod_eq_emod_of_nonneg _ (by decide)]; rfl
noncomputable abbrev PT := Addr × List Row
noncomputable def nodeE (p : PT) : List (Addr × Ent) := (p.1, .lst (rowsV p.2)) :: p.2.reverse.map rowE
noncomputable def treeE (PS : List PT) : List (Addr × Ent) := PS.reverse.flatMap nodeE
noncomputable def pV (PS : List PT) : List Value := PS.map fun p => .ref p.1
noncomputable def TxOk (c : List Nat) : Prop := c.length ≤ 28 ∧ ∀ x ∈ c, x ∈ alphaF
noncomputable def TreeOk (m : Nat) (PS : List PT) : Prop := ∀ p ∈ PS, p.2 ≠ [] ∧ p.2.length ≤ m ∧ ∀ r ∈ p.2, r.2 ≠ [] ∧ r.2.length ≤ m ∧ ∀ c ∈ r.2, TxOk c.1
noncomputable def TX (s s' : Shared) (a : Addr) (PS : List PT) : Prop := s.heap.get? a = none ∧ s'.heap.PlainList a (pV PS).toArray ∧ ∀ p ∈ PS, s.heap.get? p.1 = none ∧ s'.heap.PlainList p.1 (rowsV p.2).toArray ∧ ∀ r ∈ p.2, s.heap.get? r.1 = none ∧ s'.heap.PlainList r.1 (tv r.2).toArray
theorem treeE_mem {PS : List PT} {p : PT} (h : p ∈ PS) : (p.1, Ent.lst (rowsV p.2)) ∈ treeE PS ∧ ∀ r ∈ p.2, (r.1, Ent.lst (tv r.2)) ∈ treeE PS := by
  have key : ∀ e ∈ nodeE p, e ∈ treeE PS := fun e he => List.mem_flatMap.mpr ⟨p, List.mem_reverse.mpr h, he⟩
  exact ⟨key _ (.head _), fun r hr => key _ (.tail _ (List.mem_map.mpr ⟨r, List.mem_reverse.mpr hr, rfl⟩))⟩
theorem TreeOk.mono {m n : Nat} {PS : List PT} (h : TreeOk m PS) (hmn : m ≤ n) : TreeOk n PS := fun p hp =>
  ⟨(h p hp).1, Nat.le_trans (h p hp).2.1 hmn, fun r hr => ⟨((h p hp).2.2 r hr).1, Nat.le_trans ((h p hp).2.2 r hr).2.1 hmn, ((h p hp).2.2 r hr).2.2⟩⟩
theorem treeE_snoc (q : List PT) (a : Addr) (rs : List Row) : treeE (q ++ [(a, rs)]) = (a, .lst (rowsV rs)) :: (rs.reverse.map rowE ++ treeE q) := by simp [treeE, nodeE]
theorem pV_snoc (q : List PT) (a : Addr) (rs : List Row) : pV (q ++ [(a, rs)]) = pV q ++ [.ref a] := by simp [pV]
theorem rowsV_snoc (rs : List Row) (a : Addr) (ts : List (List Nat × Tok)) : rowsV (rs ++ [(a, ts)]) = rowsV rs ++ [.ref a] := by simp [rowsV]
theorem pm1 {α : Type} (A B W P : α) (T R I : List α) : (A :: B :: W :: P :: (T ++ R ++ I)).Perm (P :: (A :: B :: T ++ W :: R) ++ I) := by
  classical
  rw [List.perm_iff_count]; intro x; simp only [List.count_cons, List.count_append, List.cons_append]; exact Nat.le_antisymm (Mine.lc [List.count x T, List.count x R, List.count x I, if (P == x) = true then 1 else 0, if (W == x) = true then 1 else 0, if (B == x) = true then 1 else 0, if (A == x) = true then 1 else 0] [] (1, .a (.a (.a (.a (.a (.a (.v 0) (.v 1)) (.v 2)) (.v 3)) (.v 4)) (.v 5)) (.v 6), .a (.a (.a (.a (.a (.v 0) (.a (.v 1) (.v 4))) (.v 2)) (.v 5)) (.v 6)) (.v 3)) rfl ) (Mine.lc [List.count x T, List.count x R, if (W == x) = true then 1 else 0, List.count x I, if (B == x) = true then 1 else 0, if (A == x) = true then 1 else 0, if (P == x) = true then 1 else 0] [] (1, .a (.a (.a (.a (.a (.v 0) (.a (.v 1) (.v 2))) (.v 3)) (.v 4)) (.v 5)) (.v 6), .a (.a (.a (.a (.a (.a (.v 0) (.v 1)) (.v 3)) (.v 6)) (.v 2)) (.v 4)) (.v 5)) rfl )
theorem pm2 {α : Type} (K W P A : α) (Y T R I : List α) : (K :: W :: P :: A :: (Y ++ T ++ R ++ I)).Perm (P :: (A :: K :: (Y ++ T) ++ W :: R) ++ I) := by
  classical
  rw [List.perm_iff_count]; intro x; simp only [List.count_cons, List.count_append, List.cons_append]; exact Nat.le_antisymm (Mine.lc [List.count x Y, List.count x T, List.count x R, List.count x I, if (A == x) = true then 1 else 0, if (P == x) = true then 1 else 0, if (W == x) = true then 1 else 0, if (K == x) = true then 1 else 0] [] (1, .a (.a (.a (.a (.a (.a (.a (.v 0) (.v 1)) (.v 2)) (.v 3)) (.v 4)) (.v 5)) (.v 6)) (.v 7), .a (.a (.a (.a (.a (.a (.v 0) (.v 1)) (.a (.v 2) (.v 6))) (.v 3)) (.v 7)) (.v 4)) (.v 5)) rfl ) (Mine.lc [List.count x Y, List.count x T, List.count x R, if (W == x) = true then 1 else 0, List.count x I, if (K == x) = true then 1 else 0, if (A == x) = true then 1 else 0, if (P == x) = true then 1 else 0] [] (1, .a (.a (.a (.a (.a (.a (.v 0) (.v 1)) (.a (.v 2) (.v 3))) (.v 4)) (.v 5)) (.v 6)) (.v 7), .a (.a (.a (.a (.a (.a (.a (.v 0) (.v 1)) (.v 2)) (.v 4)) (.v 6)) (.v 7)) (.v 3)) (.v 5)) rfl )
theorem pm3 {α : Type} (K W P A : α) (Y T R I : List α) : (W :: P :: A :: K :: (Y ++ T ++ R ++ I)).Perm (P :: (A :: K :: (Y ++ T) ++ W :: R) ++ I) := by
  classical
  rw [List.perm_iff_count]; intro x; simp only [List.count_cons, List.count_append, List.cons_append]; exact Nat.le_antisymm (Mine.lc [List.count x Y, List.count x T, List.count x R, List.count x I, if (K == x) = true then 1 else 0, if (A == x) = true then 1 else 0, if (P == x) = true then 1 else 0, if (W == x) = true then 1 else 0] [] (1, .a (.a (.a (.a (.a (.a (.a (.v 0) (.v 1)) (.v 2)) (.v 3)) (.v 4)) (.v 5)) (.v 6)) (.v 7), .a (.a (.a (.a (.a (.a (.v 0) (.v 1)) (.a (.v 2) (.v 7))) (.v 3)) (.v 4)) (.v 5)) (.v 6)) rfl ) (Mine.lc [List.count x Y, List.count x T, List.count x R, if (W == x) = true then 1 else 0, List.count x I, if (K == x) = true then 1 else 0, if (A == x) = true then 1 else 0, if (P == x) = true then 1 else 0] [] (1, .a (.a (.a (.a (.a (.a (.v 0) (.v 1)) (.a (.v 2) (.v 3))) (.v 4)) (.v 5)) (.v 6)) (.v 7), .a (.a (.a (.a (.a (.a (.a (.v 0) (.v 1)) (.v 2)) (.v 4)) (.v 5)) (.v 6)) (.v 7)) (.v 3)) rfl )
theorem pieces_ok : ∀ c ∈ piecesF, c.length ≤ 7 ∧ ∀ x ∈ c, x ∈ alphaF := by decide
theorem flat_ok (ws : List (List Nat × Tok)) (h : ∀ c ∈ ws, c.1 ∈ piecesF) : (ws.length ≤ 4 → TxOk (ws.map (·.1)).flatten) ∧ tot (ws.map (·.1)) ≤ 8 * ws.length := by
  have key : (ws.map (·.1)).flatten.length ≤ 7 * ws.length ∧ tot (ws.map (·.1)) ≤ 8 * ws.length ∧ ∀ x ∈ (ws.map (·.1)).flatten, x ∈ alphaF := by
    induction ws with
    | nil => exact ⟨Nat.le_refl _, Nat.le_refl _, fun _ h => nomatch h⟩
    | cons a r ih =>
      obtain ⟨h1, h2, h3⟩ := ih fun c hc => h c (.tail _ hc)
      obtain ⟨h4, h5⟩ := pieces_ok a.1 (h a (.head _))
      refine ⟨?_, ?_, ?_⟩
      · simp only [List.map_cons, List.flatten_cons, List.length_append, List.length_cons]; exact Mine.lc [(List.map (Prod.fst) r).flatten.length, r.length, a.fst.length] [(1, .v 0, .m 7 (.v 1)), (1, .v 2, .n 7)] (1, .a (.v 2) (.v 0), .m 7 (.a (.v 1) (.n 1))) rfl h1 h4
      · rw [List.map_cons, tot_cons, List.length_cons]; exact Mine.lc [tot (List.map (Prod.fst) r), r.length, a.fst.length] [(1, .v 0, .m 8 (.v 1)), (1, .v 2, .n 7)] (1, .a (.a (.v 2) (.n 1)) (.v 0), .m 8 (.a (.v 1) (.n 1))) rfl h2 h4
      · intro x hx
        rw [List.map_cons, List.flatten_cons] at hx
        rcases List.mem_append.mp hx with hx | hx
        · exact h5 x hx
        · exact h3 x hx
  exact ⟨fun h4 => ⟨by have := key.1; exact Mine.lc [(List.map (Prod.fst) ws).flatten.length, ws.length] [(1, .v 0, .m 7 (.v 1)), (7, .v 1, .n 4)] (1, .v 0, .n 28) rfl (key).1 h4, key.2.2⟩, key.2.1⟩
section
variable {prog : Program} {w : World} {mg mb : Str → Option Value} {s : Shared} {A : Around} {E : Value → Shared → Prop} {Q : Value → Shared → Prop} {t : Tok}
theorem texts_ {ls : Addr} {ns : List Value} (C : Cx w mg mb s.heap) (hr : Room A 4) (hts : 1 ≤ s.toks) (hl : s.heap.IsList ls ns.toArray) (hi : ∀ v ∈ ns, ∃ n t, v = .int n t) (hz : ns.length ≤ 1000)
    (hQ : ∀ s' a PS, Keeps s s' → 1 ≤ s'.toks → TX s s' a PS → PS ≠ [] → PS.length ≤ 3 → TreeOk 12 PS → Q (.ref a) s') :
    wpAny (model prog w) A (call (.ref 182) [.ref ls]) Q E s := by
  have z1 : ns.length ≤ 1000000 := by exact Mine.lc [ns.length] [(1, .v 0, .n 1000)] (1, .v 0, .n 1000000) rfl hz
  have z2 : ns.length ≤ sizeLine := Nat.le_trans z1 (Nat.le_of_ble_eq_true rfl)
  have hsp : ∀ x y z v, v ∈ (slicePick ns.toArray x y z).toList → ∃ n t, v = .int n t := fun x y z v h => hi v (by simpa using slicePick_mem h)
  refine enterD_ (x := Str.ofString "script") (v := .ref ls) C hr hts (by rfl) (by rfl) (by rfl) (by rfl) (fun n => by rfl) ?_ rfl rfl rfl
  intro L s' o hd H R
  walk_at "my:gol"
  rename St _ _ _ _ _ _ _ _ _ => HX
  rw [pc0_, pc1_, pc2_, pc3_, pc4_, pc5_, pc6_, pc7_, pc8_, pc9_, pc10_, pc11_, pc12_, pc13_, pc14_, pc15_] at HX
  obtain ⟨lp, pcs, HX, hpc⟩ : ∃ lp pcs, St w mg mb s s.heap L [(Str.ofString "pieces", .ref lp)] [(lp, .lst (tv pcs)), (L + 1, .obj o)] _ ∧ pcs.map (·.1) = piecesF := ⟨_, [([97], _), ([45], _), ([32], _), ([47], _), ([46], _), ([46, 46], _), ([117, 110, 107, 110, 111, 119, 110], _), ([117, 110], _), ([107, 110, 111, 119, 110], _), ([9], _), ([92], _), ([58, 59], _), ([34, 40], _), ([41], _), ([233], _), ([45, 45], _)], HX, rfl⟩
  have nd := HX.fs.nd
  simp only [List.map_cons, List.map_nil, List.nodup_cons, List.mem_singleton] at nd
  obtain ⟨g1, hg1, H2, hP⟩ := HX.based (led' := [(L + 1, .obj o)]) (.cons _ (List.Sublist.refl _)) (.head _) (by simpa using nd.1)
  have hl1 : g1.IsList ls ns.toArray := let ⟨o, ho, r⟩ := hl; ⟨o, hg1 _ _ ho, r⟩
  clear HX
  refine compB_ (s₀ := s) (mg := mg) (mb := mb) (g := g1) (L := L) (n := min ns.length 12) (P := fun i v => ∃ t, v = .int (i : Nat) t) (cl := [(Str.ofString "script", L + 1)]) (lo := [(Str.ofString "pieces", .ref lp)]) (led := [(L + 1, .obj o)])
    (lof := fun v => [(Str.ofString "pieces", .ref lp), (Str.ofString "cells", v)]) (Nat.le_trans (Nat.min_le_left _ _) z2) (by rfl) (by decide) rfl (by decide) (fun _ => by rfl)
    (fun i s1 ys led => s1 = s ∧ (∀ y ∈ ys, ∃ (m : Nat) (t : Tok), y = .int m t ∧ m < 1000000) ∧ ys.length = i ∧ ∃ rest, led = (L + 1, .obj o) :: rest)
    ⟨rfl, (fun _ h => nomatch h), rfl, [], rfl⟩ ?_ ?_ (fun v => by walk_at "my:set") ?_
  · walk_at "my:go"
    rename St _ _ _ _ _ _ _ _ _ => HZ
    refine range1_ HZ fun r t' v' s1 H1 => ?_
    clear HZ
    refine itR_ R.hh H1 (.head _) (by exact Mine.lc [min ns.length 12] [(1, .v 0, .n 12)] (1, .v 0, .n 1000000) rfl (Nat.min_le_right ( ns.length) ( 12))) fun it s2 H2 hW => ⟨H2.drop (.cons _ (List.Sublist.refl _)), hW.drop (.cons _ (List.Sublist.refl _))⟩
  · rintro C' D oL i v s0 ys led₁ its s1 hi' ⟨tv', rfl⟩ ⟨es, hys, hyl, rest, rfl⟩ H1
    subst s0
    clear H2
    refine tests0_ ?_
    rw [if_pos rfl]
    simp only [List.cons_append] at H1
    have hsp1 : ∀ v ∈ (slicePick ns.toArray (some ((i : Nat) : Int)) none (some 12)).toList, ∃ n t, v = .int n t := hsp _ _ _
    walk_at "my:go"
    rename St _ _ _ _ _ _ _ _ _ => HZ
    rw [fmod6]
    refine ⟨_, _, [(Str.ofString "k", .int (i : Nat) tv')], ⟨rfl, ?_, by rw [List.length_append, hyl]; rfl, _ :: rest, rfl⟩, by
      have := HZ.perm (List.perm_middle (l₁ := [(D, Ent.lst ys), (L, .obj oL), (L + 1, .obj o)]) (l₂ := rest ++ its)).symm
      simpa using this⟩
    intro y hy
    rcases List.mem_append.mp hy with hy | hy
    · exact hys y hy
    · exact ⟨_, _, List.mem_singleton.mp hy, Nat.mod_lt _ (by decide)⟩
  · rintro D s0 ys led₁ s1 ⟨es, hys, hyl, rest, rfl⟩ H1
    subst s0
    clear H2
    walk_at "my:gof"
    rename St _ _ _ _ _ _ _ _ _ => HX
    have y1 : ys.length ≤ 12 := by rw [hyl]; exact Nat.min_le_right _ _
    have y2 : ys.length ≤ 1000000 := by exact Mine.lc [ys.length] [(1, .v 0, .n 12)] (1, .v 0, .n 1000000) rfl y1
    refine via_ (fun s5 => ∃ D' cs rest', cs ≠ [] ∧ cs.length ≤ 12 ∧ (∀ y ∈ cs, ∃ (m : Nat) (t : Tok), y = .int m t ∧ m < 1000000) ∧ St w mg mb s g1 L [(Str.ofString "pieces", .ref lp), (Str.ofString "cells", .ref D')] ((D', .lst cs) :: rest') s5) ?_ ?_
    · cases ys with
      | nil =>
        walk_at "my:go"
        rename St _ _ _ _ _ _ _ _ _ => HZ
        refine ⟨_, _, _, ?_, ?_, ?_, HZ⟩
        · simp
        · simp
        · intro y hy
          simp only [List.mem_cons, List.not_mem_nil, or_false] at hy
          rcases hy with rfl | rfl | rfl | rfl | rfl <;> exact ⟨_, _, rfl, by decide⟩
      | cons y r =>
        have c9 : (y :: r).isEmpty = false := rfl
        walk_at "my:go"
        rename St _ _ _ _ _ _ _ _ _ => HZ
        exact ⟨_, _, _, by simp, y1, hys, HZ⟩
    · rintro s5 ⟨D', cs, rest', hc0, hc1, hc2, H5⟩
      clear HX hys hyl y1 y2
      walk_at "my:go"
      refine For_ ?_
      walk_at "my:go"
      rename St _ _ _ _ _ _ _ _ _ => HX
      obtain ⟨lP, HX⟩ : ∃ lP, St w mg mb s g1 L [(Str.ofString "pieces", .ref lp), (Str.ofString "cells", .ref D'), (Str.ofString "paths", .ref lP)] ((lP, .lst []) :: (D', .lst cs) :: rest') _ := ⟨_, HX⟩
      have nd2 := HX.fs.nd
      simp only [List.map_cons, List.nodup_cons, List.mem_cons, not_or] at nd2
      obtain ⟨g2, hg2, H7, hbl, -⟩ := HX.basedR (led' := [(lP, .lst [])]) (.cons_cons _ (List.nil_sublist _))
      have hD2 := (hbl D' _ (.tail _ (.head _)) (by simpa using fun e => nd2.1.1 e.symm)).isList
      have hP2 : g2.IsList lp (tv pcs).toArray := let ⟨o, ho, r⟩ := hP; ⟨o, hg2 _ _ ho, r⟩
      clear HX hbl hl1 hP
      refine forL_ R.hh H7 hD2 (fun i lo led => ∃ PS rest, lo = [(Str.ofString "pieces", .ref lp), (Str.ofString "cells", .ref D'), (Str.ofString "paths", .ref lP)] ∧ led.Perm ((lP, .lst (pV PS)) :: (treeE PS ++ rest)) ∧ TreeOk i PS ∧ PS.length ≤ 3 ∧ (0 < i → PS ≠ []))
        ⟨[], [], rfl, .refl _, (fun _ h => nomatch h), Nat.zero_le _, fun h => absurd h (Nat.lt_irrefl _)⟩ ?_ ?_
      · rintro i v lo₁ led₁ its s₁ hv ⟨PS, rest, rfl, hp, ok, h3, hne⟩ H₁
        obtain ⟨m, tm, rfl, hm⟩ := hc2 v (List.mem_of_getElem? hv)
        have hi12 : i < 12 := by have := (List.getElem?_eq_some_iff.mp hv).1; exact Mine.lc [cs.length, i] [(1, .v 0, .n 12), (1, .a (.v 1) (.n 1), .v 0)] (1, .a (.v 1) (.n 1), .n 12) rfl hc1 this
        have H2 := H₁.perm (hp.append_right its)
        clear H7 H₁
        rw [List.cons_append] at H2
        obtain ⟨ot, hot⟩ : ∃ ot, ot = treeE PS ++ rest ++ its := ⟨_, rfl⟩
        rw [← hot] at H2
        walk_at "my:go"
        rename St _ _ _ _ _ _ _ _ _ => HX
        rw [fdiv6] at HX
        obtain ⟨lw, tr, HX⟩ : ∃ lw tr, St w mg mb s g2 L [(Str.ofString "pieces", .ref lp), (Str.ofString "cells", .ref D'), (Str.ofString "paths", .ref lP), (Str.ofString "cell", .int ((m : Nat) : Int) tm), (Str.ofString "words", .ref lw), (Str.ofString "rest", .int ((m / 6 : Nat) : Int) tr)] ((lw, .lst []) :: (lP, .lst (pV PS)) :: ot) _ := ⟨_, _, HX⟩
        refine While_ (fun n lo led => ∃ r ws t1, lo = [(Str.ofString "pieces", .ref lp), (Str.ofString "cells", .ref D'), (Str.ofString "paths", .ref lP), (Str.ofString "cell", .int ((m : Nat) : Int) tm), (Str.ofString "words", .ref lw), (Str.ofString "rest", .int ((r : Nat) : Int) t1)] ∧ led = (lw, .lst (tv ws)) :: (lP, .lst (pV PS)) :: ot ∧ ws.length ≤ 4 ∧ n = 4 - ws.length ∧ ∀ c ∈ ws, c.1 ∈ piecesF) 4 HX ⟨m / 6, [], _, rfl, rfl, Nat.zero_le _, rfl, fun _ h => nomatch h⟩ ?_
        rintro n _ _ s6 ⟨r, ws, t1, rfl, rfl, hw4, hn, hwp⟩ H6
        clear HX
        have w5 : (tv ws).length ≤ 1000000 := by rw [tv_len]; exact Mine.lc [ws.length] [(1, .v 0, .n 4)] (1, .v 0, .n 1000000) rfl hw4
        have w3 : (tv ws).length ≤ sizeLine := Nat.le_trans w5 (Nat.le_of_ble_eq_true rfl)
        by_cases kr : 0 < r ∧ ws.length < 4
        · have c1 : decide (((r : Nat) : Int) > 0) = true := decide_eq_true (by exact Int.ofNat_lt.mpr (show 0 < r from Mine.lc [r] [(1, .a (.n 0) (.n 1), .v 0)] (1, .a (.n 0) (.n 1), .v 0) rfl (kr).1))
          have c2 : decide ((((tv ws).length : Nat) : Int) < 4) = true := by rw [tv_len]; exact decide_eq_true (by exact Int.ofNat_lt.mpr (show ws.length < 4 from Mine.lc [ws.length] [(1, .a (.v 0) (.n 1), .n 4)] (1, .a (.v 0) (.n 1), .n 4) rfl (kr).2))
          have e1 : ((r : Nat) : Int) - 1 = ((r - 1 : Nat) : Int) := by exact (Int.ofNat_sub (show 1 ≤ r from Mine.lc [r] [(1, .a (.n 0) (.n 1), .v 0)] (1, .n 1, .v 0) rfl (kr).1)).symm
          have e2 : (((r : Nat) : Int) - 1).fmod 16 = (((r - 1) % 16 : Nat) : Int) := by rw [e1, fmod16]
          have hl16 : pcs.length = 16 := by have := congrArg List.length hpc; simpa [piecesF] using this
          have hlt : (r - 1) % 16 < pcs.length := by rw [hl16]; exact Nat.mod_lt _ (by decide)
          have i0 : (0 : Int) ≤ (((r : Nat) : Int) - 1).fmod 16 := by rw [e2]; exact Int.natCast_nonneg _
          have i1 : (((r : Nat) : Int) - 1).fmod 16 < 1000000 := by rw [e2]; exact Int.ofNat_lt.mpr (show (r - 1) % 16 < 1000000 from Mine.lc [pcs.length, (r - 1) % 16] [(1, .v 0, .n 16), (1, .a (.v 1) (.n 1), .v 0)] (1, .a (.v 1) (.n 1), .n 1000000) rfl (Nat.le_of_eq hl16) hlt)
          have g3 : (tv pcs)[((((r : Nat) : Int) - 1).fmod 16).toNat]? = some (.str (S pcs[(r - 1) % 16].1) pcs[(r - 1) % 16].2) := by rw [e2]; exact tvg hlt
          have hpm : pcs[(r - 1) % 16].1 ∈ piecesF := by rw [← hpc]; exact List.mem_map_of_mem (List.getElem_mem hlt)
          walk_at "my:go"
          rename St _ _ _ _ _ _ _ _ _ => HZ
          rw [e1, fdiv16, ← tv_snoc] at HZ
          refine ⟨4 - (ws.length + 1), _, _, by exact Mine.lc [4 - ws.length, n, ws.length, 4 - (ws.length + 1)] [(1, .v 0, .v 1), (1, .n 4, .a (.v 0) (.v 2)), (1, .a (.v 3) (.a (.v 2) (.n 1)), .n 4)] (1, .a (.v 3) (.n 1), .v 1) rfl (Nat.le_of_eq (hn).symm) (Nat.sub_le_iff_le_add.mp (Nat.le_refl ( 4 - ( ws.length)))) (Nat.le_of_eq (Nat.sub_add_cancel (show ws.length + 1 ≤ 4 from Mine.lc [ws.length] [(1, .a (.v 0) (.n 1), .n 4)] (1, .a (.v 0) (.n 1), .n 4) rfl (kr).2))), ⟨(r - 1) / 16, ws ++ [(pcs[(r - 1) % 16].1, pcs[(r - 1) % 16].2)], _, rfl, rfl, by rw [List.length_append, List.length_singleton]; exact Mine.lc [ws.length] [(1, .a (.v 0) (.n 1), .n 4)] (1, .a (.v 0) (.n 1), .n 4) rfl (kr).2, by rw [List.length_append, List.length_singleton], ?_⟩, HZ⟩
          intro c hc
          rcases List.mem_append.mp hc with hc | hc
          · exact hwp c hc
          · rw [List.mem_singleton.mp hc]; exact hpm
        · refine via1_ (fun b s6 => b = false ∧ St w mg mb s g2 L [(Str.ofString "pieces", .ref lp), (Str.ofString "cells", .ref D'), (Str.ofString "paths", .ref lP), (Str.ofString "cell", .int ((m : Nat) : Int) tm), (Str.ofString "words", .ref lw), (Str.ofString "rest", .int ((r : Nat) : Int) t1)] ((lw, .lst (tv ws)) :: (lP, .lst (pV PS)) :: ot) s6) ?_ ?_
          · by_cases kr1 : 0 < r
            · have c1 : decide (((r : Nat) : Int) > 0) = true := decide_eq_true (by exact Int.ofNat_lt.mpr (show 0 < r from Mine.lc [r] [(1, .a (.n 0) (.n 1), .v 0)] (1, .a (.n 0) (.n 1), .v 0) rfl kr1))
              have c2 : decide ((((tv ws).length : Nat) : Int) < 4) = false := by rw [tv_len]; exact decide_eq_false (by omega)
              walk_at "my:go"
              all_goals (first | trivial | assumption)
            · have c1 : decide (((r : Nat) : Int) > 0) = false := decide_eq_false (by exact Int.not_lt.mpr (Int.ofNat_le.mpr (show r ≤ 0 from Mine.lc [r] [(1, .v 0, .n 0)] (1, .v 0, .n 0) rfl (Nat.le_of_not_lt kr1))))
              walk_at "my:go"
              all_goals (first | trivial | assumption)
          · rintro b s7 ⟨rfl, H8⟩
            clear H6
            have hok : tot (ws.map (·.1)) ≤ 1000000 := by have := (flat_ok ws hwp).2; exact Mine.lc [ws.length, tot (List.map (Prod.fst) ws)] [(8, .v 0, .n 4), (1, .v 1, .m 8 (.v 0))] (1, .v 1, .n 1000000) rfl hw4 this
            have hT := (flat_ok ws hwp).1 hw4
            walk_at "my:gof"
            rename St _ _ _ _ _ _ _ _ _ => HX
            rw [show (Str.ofString "").1.toList = [] from by decide +kernel, inter0] at HX
            generalize (ws.map (·.1)).flatten = c at HX hT
            generalize tv ws = wv at HX
            obtain ⟨tx, HX⟩ : ∃ tx, St w mg mb s g2 L [(Str.ofString "pieces", .ref lp), (Str.ofString "cells", .ref D'), (Str.ofString "paths", .ref lP), (Str.ofString "cell", .int ((m : Nat) : Int) tm), (Str.ofString "words", .ref lw), (Str.ofString "rest", .int ((r : Nat) : Int) t1), (Str.ofString "text", .str (S c) tx)] ((lw, .lst wv) :: (lP, .lst (pV PS)) :: ot) _ := ⟨_, HX⟩
            subst hot
            clear w5 w3 hwp hok hw4 hn
            have okm := ok.mono (Nat.le_succ i)
            have ok1 : ∀ aR : Addr, (aR, [(c, tx)]).2 ≠ [] ∧ [(c, tx)].length ≤ i + 1 ∧ ∀ x ∈ [(c, tx)], TxOk x.1 := fun aR => ⟨by simp, by simp, fun x hx => by rw [List.mem_singleton.mp hx]; exact hT⟩
            rcases List.eq_nil_or_concat PS with rfl | ⟨q, ⟨aP, rs⟩, e⟩
            · have c9 : (pV []).isEmpty = true := rfl
              walk_at "my:go"
              rename St _ _ _ _ _ _ _ _ _ => HZ
              obtain ⟨aP, aR, HZ⟩ : ∃ aP aR, St w mg mb s g2 L [(Str.ofString "pieces", .ref lp), (Str.ofString "cells", .ref D'), (Str.ofString "paths", .ref lP), (Str.ofString "cell", .int ((m : Nat) : Int) tm), (Str.ofString "words", .ref lw), (Str.ofString "rest", .int ((r : Nat) : Int) t1), (Str.ofString "text", .str (S c) tx)] ((aP, .lst [.ref aR]) :: (aR, .lst [.str (S c) tx]) :: (lw, .lst wv) :: (lP, .lst (pV [] ++ [.ref aP])) :: (treeE [] ++ rest ++ its)) _ := ⟨_, _, HZ⟩
              refine ⟨_, _, ⟨[(aP, [(aR, [(c, tx)])])], (lw, .lst wv) :: rest, rfl, .refl _, ?_, by simp, fun _ => by simp⟩, St.front (r := [(Str.ofString "cell", _), (Str.ofString "words", _), (Str.ofString "rest", _), (Str.ofString "text", _)]) (HZ.perm (pm1 _ _ _ _ _ _ _))⟩
              intro p hp
              rw [List.mem_singleton.mp hp]
              exact ⟨by simp, by simp, fun r hr => by rw [List.mem_singleton.mp hr]; exact ok1 aR⟩
            · rw [List.concat_eq_append] at e
              subst e
              obtain ⟨hp1, hp2, hp3⟩ := ok (aP, rs) (by simp)
              have c9 : (pV q ++ [Value.ref aP]).isEmpty = false := by simp
              have z7 : (pV q).length < 1000000 := by
                rw [List.length_append] at h3
                simp only [pV, List.length_map]; exact Mine.lc [q.length, [(aP, rs)].length] [(1, .a (.v 0) (.v 1), .n 3)] (1, .a (.v 0) (.n 1), .n 1000000) rfl h3
              have z8 : (pV q ++ [Value.ref aP]).length ≤ 1000000 := by rw [List.length_append, List.length_singleton]; exact Mine.lc [(pV q).length] [(1, .a (.v 0) (.n 1), .n 1000000)] (1, .a (.v 0) (.n 1), .n 1000000) rfl z7
              have z9 : (pV q ++ [Value.ref aP]).length ≤ sizeLine := Nat.le_trans z8 (Nat.le_of_ble_eq_true rfl)
              have pvl : (pV q).length = q.length := by simp [pV]
              rw [List.length_append, List.length_singleton] at h3
              rw [treeE_snoc, pV_snoc] at HX
              simp only [List.cons_append] at HX
              by_cases k1 : m % 6 = 0 ∧ q.length < 2
              · have c5 : (((m : Nat) : Int).fmod 6 == 0) = true := by rw [fmd6, k1.1]; rfl
                have c6 : decide (((m : Nat) : Int).fmod 6 = 0) = true := by rw [fmd6, k1.1]; rfl
                have c7 : decide ((((pV q ++ [Value.ref aP]).length : Nat) : Int) < 3) = true := by rw [List.length_append, List.length_singleton, pvl]; exact decide_eq_true (by exact Int.ofNat_lt.mpr (show q.length + 1 < 3 from Mine.lc [q.length] [(1, .a (.v 0) (.n 1), .n 2)] (1, .a (.a (.v 0) (.n 1)) (.n 1), .n 3) rfl (k1).2))
                walk_at "my:go"
                rename St _ _ _ _ _ _ _ _ _ => HZ
                obtain ⟨aP2, aR, HZ⟩ : ∃ aP2 aR, St w mg mb s g2 L [(Str.ofString "pieces", .ref lp), (Str.ofString "cells", .ref D'), (Str.ofString "paths", .ref lP), (Str.ofString "cell", .int ((m : Nat) : Int) tm), (Str.ofString "words", .ref lw), (Str.ofString "rest", .int ((r : Nat) : Int) t1), (Str.ofString "text", .str (S c) tx)] ((aP2, .lst [.ref aR]) :: (aR, .lst [.str (S c) tx]) :: (lw, .lst wv) :: (lP, .lst (pV q ++ [.ref aP] ++ [.ref aP2])) :: (treeE (q ++ [(aP, rs)]) ++ rest ++ its)) _ := ⟨_, _, by rw [treeE_snoc]; exact HZ⟩
                rw [← pV_snoc q aP rs, ← pV_snoc _ aP2 [(aR, [(c, tx)])]] at HZ
                refine ⟨_, _, ⟨q ++ [(aP, rs)] ++ [(aP2, [(aR, [(c, tx)])])], (lw, .lst wv) :: rest, rfl, .refl _, ?_, by simp; exact Mine.lc [q.length] [(1, .a (.v 0) (.n 1), .n 2)] (1, .v 0, .n 1) rfl (k1).2, fun _ => by simp⟩, by rw [treeE_snoc _ aP2]; exact St.front (r := [(Str.ofString "cell", _), (Str.ofString "words", _), (Str.ofString "rest", _), (Str.ofString "text", _)]) (HZ.perm (pm1 _ _ _ _ _ _ _))⟩
                intro p hp
                rcases List.mem_append.mp hp with hp | hp
                · exact okm p hp
                · rw [List.mem_singleton.mp hp]
                  exact ⟨by simp, by simp, fun r hr => by rw [List.mem_singleton.mp hr]; exact ok1 aR⟩
              · have hrl : rs.length ≤ i := hp2
                have zr : (rowsV rs).length ≤ sizeLine := by rw [rowsV, List.length_map]; exact Nat.le_trans (show rs.length ≤ 1000000 by exact Mine.lc [i, (aP, rs).snd.length] [(1, .a (.v 0) (.n 1), .n 12), (1, .v 1, .v 0)] (1, .v 1, .n 1000000) rfl hi12 hp2) (Nat.le_of_ble_eq_true rfl)
                have c7 : m % 6 = 0 → decide ((((pV q ++ [Value.ref aP]).length : Nat) : Int) < 3) = false := fun k => by rw [List.length_append, List.length_singleton, pvl]; exact decide_eq_false (by omega)
                by_cases k2 : m % 6 < 2
                · have c8 : decide (((m : Nat) : Int).fmod 6 < 2) = true := by rw [fmd6]; exact decide_eq_true (by exact Int.ofNat_lt.mpr (show m % 6 < 2 from Mine.lc [m % 6] [(1, .a (.v 0) (.n 1), .n 2)] (1, .a (.v 0) (.n 1), .n 2) rfl k2))
                  have fin2 : ∀ aR s6, St w mg mb s g2 L [(Str.ofString "pieces", .ref lp), (Str.ofString "cells", .ref D'), (Str.ofString "paths", .ref lP), (Str.ofString "cell", .int ((m : Nat) : Int) tm), (Str.ofString "words", .ref lw), (Str.ofString "rest", .int ((r : Nat) : Int) t1), (Str.ofString "text", .str (S c) tx)] ((aR, .lst [.str (S c) tx]) :: (lw, .lst wv) :: (lP, .lst (pV q ++ [.ref aP])) :: (aP, .lst (rowsV rs ++ [.ref aR])) :: (rs.reverse.map rowE ++ treeE q ++ rest ++ its)) s6 → ∃ lo₃ led₃, (∃ PS rest, lo₃ = [(Str.ofString "pieces", .ref lp), (Str.ofString "cells", .ref D'), (Str.ofString "paths", .ref lP)] ∧ led₃.Perm ((lP, .lst (pV PS)) :: (treeE PS ++ rest)) ∧ TreeOk (i + 1) PS ∧ PS.length ≤ 3 ∧ (0 < i + 1 → PS ≠ [])) ∧ St w mg mb s g2 L lo₃ (led₃ ++ its) s6 := fun aR s6 HZ => by
                    rw [← pV_snoc q aP (rs ++ [(aR, [(c, tx)])]), ← rowsV_snoc rs aR [(c, tx)]] at HZ
                    refine ⟨_, _, ⟨q ++ [(aP, rs ++ [(aR, [(c, tx)])])], (lw, .lst wv) :: rest, rfl, .refl _, ?_, by simp; exact Mine.lc [q.length] [(1, .a (.v 0) (.n 1), .n 3)] (1, .v 0, .n 2) rfl h3, fun _ => by simp⟩, by rw [treeE_snoc, List.reverse_append, List.reverse_singleton, List.singleton_append, List.map_cons]; exact St.front (r := [(Str.ofString "cell", _), (Str.ofString "words", _), (Str.ofString "rest", _), (Str.ofString "text", _)]) (HZ.perm (pm2 _ _ _ _ _ _ _ _))⟩
                    intro p hp
                    rcases List.mem_append.mp hp with hp | hp
                    · exact okm p (List.mem_append_left _ hp)
                    · rw [List.mem_singleton.mp hp]
                      refine ⟨by simp, by simp; exact Mine.lc [(aP, rs).snd.length, i] [(1, .v 0, .v 1)] (1, .v 0, .v 1) rfl hp2, fun r hr => ?_⟩
                      rcases List.mem_append.mp hr with hr | hr
                      · exact (okm (aP, rs) (by simp)).2.2 r hr
                      · rw [List.mem_singleton.mp hr]; exact ok1 aR
                  by_cases k3 : m % 6 = 0
                  · have c5 : (((m : Nat) : Int).fmod 6 == 0) = true := by rw [fmd6, k3]; rfl
                    have c6 : decide (((m : Nat) : Int).fmod 6 = 0) = true := by rw [fmd6, k3]; rfl
                    have c7 := c7 k3
                    walk_at "my:go"
                    exact fin2 _ _ (by assumption)
                  · have c5 : (((m : Nat) : Int).fmod 6 == 0) = false := by rw [fmd6]; simpa using fun e => k3 (by omega)
                    have c6 : decide (((m : Nat) : Int).fmod 6 = 0) = false := by rw [fmd6]; exact decide_eq_false (by omega)
                    walk_at "my:go"
                    exact fin2 _ _ (by assumption)
                · have c8 : decide (((m : Nat) : Int).fmod 6 < 2) = false := by rw [fmd6]; exact decide_eq_false (by exact Int.not_lt.mpr (Int.ofNat_le.mpr (show 2 ≤ m % 6 from Mine.lc [m % 6] [(1, .n 2, .v 0)] (1, .n 2, .v 0) rfl (Nat.le_of_not_lt k2))))
                  have c5 : (((m : Nat) : Int).fmod 6 == 0) = false := by rw [fmd6]; simpa using fun e => k2 (by omega)
                  have c6 : decide (((m : Nat) : Int).fmod 6 = 0) = false := by rw [fmd6]; exact decide_eq_false (by omega)
                  rcases List.eq_nil_or_concat rs with e | ⟨rs2, ⟨aR, ts⟩, e⟩
                  · exact absurd e hp1
                  rw [List.concat_eq_append] at e
                  subst e
                  obtain ⟨hr1, hr2, hr3⟩ := hp3 (aR, ts) (by simp)
                  have hts : ts.length ≤ i := hr2
                  have zt : (tv ts).length ≤ sizeLine := by rw [tv_len]; exact Nat.le_trans (show ts.length ≤ 1000000 by exact Mine.lc [i, (aR, ts).snd.length] [(1, .a (.v 0) (.n 1), .n 12), (1, .v 1, .v 0)] (1, .v 1, .n 1000000) rfl hi12 hr2) (Nat.le_of_ble_eq_true rfl)
                  have z10 : (rowsV rs2).length < 1000000 := by rw [List.length_append] at hrl; rw [rowsV, List.length_map]; exact Mine.lc [i, rs2.length, [(aR, ts)].length] [(1, .a (.v 0) (.n 1), .n 12), (1, .a (.v 1) (.v 2), .v 0)] (1, .a (.v 1) (.n 1), .n 1000000) rfl hi12 hrl
                  rw [List.reverse_append, List.reverse_singleton, List.singleton_append, List.map_cons, List.cons_append, List.cons_append, List.cons_append, rowsV_snoc, show rowE (aR, ts) = (aR, Ent.lst (tv ts)) from rfl] at HX
                  walk_at "my:go"
                  rename St _ _ _ _ _ _ _ _ _ => HZ
                  rw [← pV_snoc q aP (rs2 ++ [(aR, ts ++ [(c, tx)])]), ← rowsV_snoc rs2 aR (ts ++ [(c, tx)]), ← tv_snoc] at HZ
                  refine ⟨_, _, ⟨q ++ [(aP, rs2 ++ [(aR, ts ++ [(c, tx)])])], (lw, .lst wv) :: rest, rfl, .refl _, ?_, by simp; exact Mine.lc [q.length] [(1, .a (.v 0) (.n 1), .n 3)] (1, .v 0, .n 2) rfl h3, fun _ => by simp⟩, by rw [treeE_snoc, List.reverse_append, List.reverse_singleton, List.singleton_append, List.map_cons]; exact St.front (r := [(Str.ofString "cell", _), (Str.ofString "words", _), (Str.ofString "rest", _), (Str.ofString "text", _)]) (HZ.perm (pm3 _ _ _ _ _ _ _ _))⟩
                  intro p hp
                  rcases List.mem_append.mp hp with hp | hp
                  · exact okm p (List.mem_append_left _ hp)
                  · rw [List.mem_singleton.mp hp]
                    have ok2 := okm (aP, rs2 ++ [(aR, ts)]) (by simp)
                    refine ⟨by simp, by simpa using ok2.2.1, fun r hr => ?_⟩
                    rcases List.mem_append.mp hr with hr | hr
                    · exact ok2.2.2 r (List.mem_append_left _ hr)
                    · rw [List.mem_singleton.mp hr]
                      refine ⟨by simp, by simp; exact Mine.lc [(aR, ts).snd.length, i] [(1, .v 0, .v 1)] (1, .v 0, .v 1) rfl hr2, fun x hx => ?_⟩
                      rcases List.mem_append.mp hx with hx | hx
                      · exact hr3 x hx
                      · rw [List.mem_singleton.mp hx]; exact hT
      · rintro lo₁ led₁ s₁ ⟨PS, rest, rfl, hp, ok, h3, hne⟩ H₁
        have H2 := H₁.perm hp
        clear H7 H₁
        walk_at "my:go"
        have hpos : 0 < cs.length := List.length_pos_iff.mpr hc0
        refine hQ _ lP PS H2.keeps H2.tk ⟨H2.isnew (.head _), H2.pl (.head _), fun p hp => ?_⟩ (hne hpos) h3 (ok.mono hc1)
        obtain ⟨e1, e2⟩ := treeE_mem hp
        have e1' := List.Mem.tail (lP, Ent.lst (pV PS)) (List.mem_append_left rest e1)
        refine ⟨H2.isnew e1', H2.pl e1', fun r hr => ?_⟩
        have e2' := List.Mem.tail (lP, Ent.lst (pV PS)) (List.mem_append_left rest (e2 r hr))
        exact ⟨H2.isnew e2', H2.pl e2'⟩
end

end
section
local macro_rules | `(tactic| walk_at "my:zz") => `(tactic| skip)
local macro_rules | `(tactic| walk_at "my:gof") => `(tactic| repeat' (first
  | ((fail_if_success (with_reducible show Exists _)); (fail_if_success (with_reducible show wpAny _ _ (exec (Stmt.If _ _ _ _) _) _ _ _)); (fail_if_success (with_reducible show wpAny _ _ (exec (Stmt.For _ _ _ _ _) _) _ _ _)); (fail_if_success (with_reducible show wpAny _ _ (exec (Stmt.While _ _ _ _) _) _ _ _)); walk1)))
local macro_rules | `(tactic| walk_at "my:gol") => `(tactic| repeat' (first
  | ((fail_if_success (with_reducible show Exists _)); (fail_if_success (with_reducible show wpAny _ _ (exec (Stmt.For _ _ _ _ _) _) _ _ _)); (fail_if_success (with_reducible show wpAny _ _ (exec (Stmt.While _ _ _ _) _) _ _ _)); (fail_if_success (with_reducible show wpAny _ _ (exec (Stmt.Try _ _ _ _ _) _) _ _ _)); (fail_if_success (with_reducible show wpAny _ _ (exec (Stmt.Assign _ (Expr.ListComp _ _ _ _) _) _) _ _ _)); (fail_if_success (with_reducible show wpAny _ _ (eval (Expr.ListComp _ _ _ _) _) _ _ _)); (fail_if_success (with_reducible show wpAny _ _ (eval (Expr.SetComp _ _ _ _) _) _ _ _)); walk1)))
local macro_rules | `(tactic| walk_at "callWith ref") => `(tactic| ((with_reducible show wpAny _ _ (callWith _ (Value.ref _) _ (backTo _ (starEach [Expr.Starred _ _] _)) []) _ _ _); refine callWith_S (Cx.X (St.here (by walk_at "my:st"))) (by walk_at "my:keep") ?_))
local macro_rules | `(tactic| walk_at "my:goz") => `(tactic| repeat' (first
  | ((fail_if_success (with_reducible show Exists _)); (fail_if_success (with_reducible show wpAny _ _ (eval (Expr.ListComp _ _ _ _) _) _ _ _)); (fail_if_success (with_reducible show wpAny _ _ (compareOp CmpOp.NotEq (Value.ref _) (Value.ref _)) _ _ _)); (fail_if_success (with_reducible show wpAny _ _ (eval (Expr.IfExp _ _ _ _) _) _ _ _)); (fail_if_success (with_reducible show wpAny _ _ (exec (Stmt.For _ _ _ _ _) _) _ _ _)); walk1)))
noncomputable def nmF (p : PT) : List (List Nat) := p.2.map fun r => safeF (r.2.map (·.1))
theorem tot_tx : ∀ (qs : List (List Nat × Tok)), (∀ c ∈ qs, TxOk c.1) → tot (qs.map (·.1)) ≤ 29 * qs.length
  | [], _ => Nat.le_refl _
  | a :: r, h => by
    have h1 := tot_tx r fun c hc => h c (.tail _ hc)
    have h2 := (h a (.head _)).1
    rw [List.map_cons, tot_cons, List.length_cons]; exact Mine.lc [tot (List.map (Prod.fst) r), r.length, a.fst.length] [(1, .v 0, .m 29 (.v 1)), (1, .v 2, .n 28)] (1, .a (.a (.v 2) (.n 1)) (.v 0), .m 29 (.a (.v 1) (.n 1))) rfl h1 h2
local macro_rules | `(tactic| walk_at "my:goc") => `(tactic| repeat' (first
  | ((fail_if_success (with_reducible show Exists _)); (fail_if_success (with_reducible show wpAny _ _ (call (Value.ref _) _) _ _ _)); (fail_if_success (with_reducible show wpAny _ _ (compareOp CmpOp.NotEq (Value.ref _) (Value.ref _)) _ _ _)); (fail_if_success (with_reducible show wpAny _ _ (eval (Expr.IfExp _ _ _ _) _) _ _ _)); (fail_if_success (with_reducible show wpAny _ _ (exec (Stmt.For _ _ _ _ _) _) _ _ _)); walk1)))
local macro_rules | `(tactic| walk_at "callWith ref") => `(tactic| ((with_reducible show wpAny _ _ (callWith _ (Value.ref _) _ (backTo _ (starEach (Expr.Constant _ _ _ :: Expr.Starred _ _ :: _) _)) []) _ _ _); refine callWith_S2 (Cx.X (St.here (by walk_at "my:st"))) (by walk_at "my:keep") ?_))
local macro_rules | `(tactic| walk_at "spliced") => `(tactic| ((with_reducible show wpAny _ _ (spliced (backTo _ (starEach (Expr.Starred _ _ :: _) _))) _ _ _); refine items_star ?_))
local macro_rules | `(tactic| walk_at "StarOf ref") => `(tactic| (refine starL_ (by walk_at "my:st") (by walk_at "my:lst") (by walk_at "my:sz") ?_; walk_at "my:i"))
theorem sb_ : Str.ofString "/b" = S [47, 98] := by decide +kernel
theorem tot_le {k : Nat} : ∀ {ns : List (List Nat)}, (∀ n ∈ ns, n.length ≤ k) → tot ns ≤ (k + 1) * ns.length
  | [], _ => Nat.le_refl _
  | a :: r, h => by
    have h1 := tot_le fun n hn => h n (.tail _ hn)
    have h2 := h a (.head _)
    rw [tot_cons, List.length_cons, Nat.mul_succ]; exact Mine.lc [tot r, (k + 1) * r.length, a.length, k] [(1, .v 0, .v 1), (1, .v 2, .v 3)] (1, .a (.a (.v 2) (.n 1)) (.v 0), .a (.v 1) (.a (.v 3) (.n 1))) rfl h1 h2
theorem tot_filt (f : List Nat → Bool) : ∀ ns : List (List Nat), tot (ns.filter f) ≤ tot ns
  | [] => Nat.le_refl _
  | a :: r => by
    have ih := tot_filt f r
    by_cases h : f a
    · rw [List.filter_cons_of_pos h, tot_cons, tot_cons]; exact Mine.lc [tot (List.filter f r), tot r, a.length] [(1, .v 0, .v 1)] (1, .a (.a (.v 2) (.n 1)) (.v 0), .a (.a (.v 2) (.n 1)) (.v 1)) rfl ih
    · rw [List.filter_cons_of_neg h, tot_cons]; exact Mine.lc [tot (List.filter f r), tot r, a.length] [(1, .v 0, .v 1)] (1, .v 0, .a (.a (.v 2) (.n 1)) (.v 1)) rfl ih
theorem tot_laid (ns : List (List Nat)) : tot (fullF ns ++ endF ns) ≤ tot ns + 3 ∧ (fullF ns ++ endF ns).length ≤ ns.length + 2 := by
  have h1 := tot_filt (fun n => !n.isEmpty) ns
  have h2 := List.length_filter_le (fun n : List Nat => !n.isEmpty) ns
  have h3 : tot (fullF ns) ≤ tot ns + 2 := by show tot ([98] :: ns.filter _) ≤ _; rw [tot_cons, List.length_singleton]; exact Mine.lc [tot (List.filter (fun n => !n.isEmpty) ns), tot ns] [(1, .v 0, .v 1)] (1, .a (.a (.n 1) (.n 1)) (.v 0), .a (.v 1) (.n 2)) rfl h1
  have h4 : (fullF ns).length ≤ ns.length + 1 := by show ([98] :: ns.filter _).length ≤ _; rw [List.length_cons]; omega
  rw [tot_app, List.length_append]
  rcases end_or ns with e | e
  · rw [e, show tot [([] : List Nat)] = 1 from rfl, List.length_singleton]; exact ⟨by exact Mine.lc [tot (fullF ns), tot ns] [(1, .v 0, .a (.v 1) (.n 2))] (1, .a (.v 0) (.n 1), .a (.v 1) (.n 3)) rfl h3, by exact Mine.lc [(fullF ns).length, ns.length] [(1, .v 0, .a (.v 1) (.n 1))] (1, .a (.v 0) (.n 1), .a (.v 1) (.n 2)) rfl h4⟩
  · rw [e, show tot ([] : List (List Nat)) = 0 from rfl, List.length_nil]; exact ⟨by exact Mine.lc [tot (fullF ns), tot ns] [(1, .v 0, .a (.v 1) (.n 2))] (1, .a (.v 0) (.n 0), .a (.v 1) (.n 3)) rfl h3, by exact Mine.lc [(fullF ns).length, ns.length] [(1, .v 0, .a (.v 1) (.n 1))] (1, .a (.v 0) (.n 0), .a (.v 1) (.n 2)) rfl h4⟩
theorem pm4 {α : Type} (K X Y Z : α) (R T I : List α) : (K :: X :: Y :: Z :: (R ++ T ++ I)).Perm ((X :: Y :: Z :: (R ++ [K] ++ T)) ++ I) := by
  classical
  rw [List.perm_iff_count]; intro x; simp only [List.count_cons, List.count_append, List.cons_append, List.count_nil]; exact Nat.le_antisymm (Mine.lc [List.count x R, List.count x T, List.count x I, if (Z == x) = true then 1 else 0, if (Y == x) = true then 1 else 0, if (X == x) = true then 1 else 0, if (K == x) = true then 1 else 0] [] (1, .a (.a (.a (.a (.a (.a (.v 0) (.v 1)) (.v 2)) (.v 3)) (.v 4)) (.v 5)) (.v 6), .a (.a (.a (.a (.a (.a (.v 0) (.a (.n 0) (.v 6))) (.v 1)) (.v 2)) (.v 3)) (.v 4)) (.v 5)) rfl ) (Mine.lc [List.count x R, if (K == x) = true then 1 else 0, List.count x T, List.count x I, if (Z == x) = true then 1 else 0, if (Y == x) = true then 1 else 0, if (X == x) = true then 1 else 0] [] (1, .a (.a (.a (.a (.a (.a (.v 0) (.a (.n 0) (.v 1))) (.v 2)) (.v 3)) (.v 4)) (.v 5)) (.v 6), .a (.a (.a (.a (.a (.a (.v 0) (.v 2)) (.v 3)) (.v 4)) (.v 5)) (.v 6)) (.v 1)) rfl )
theorem addTT_ {w : World} {mg mb : Str → Option Value} {s₀ s : Shared} {g : Heap} {L : Addr} {lo : List (Str × Value)} {led : List (Addr × Ent)} {A : Around} {E : Value → Shared → Prop} {Q : Value → Shared → Prop} {prog : Program} {l l2 : Addr} {ps qs : List (List Nat × Tok)} (H : St w mg mb s₀ g L lo led s) (h1 : s.heap.PlainList l (tv ps).toArray) (h2 : s.heap.PlainList l2 (tv qs).toArray) (hz : ps.length + qs.length ≤ sizeLine)
    (h : ∀ D s', St w mg mb s₀ g L lo ((D, .lst (tv (ps ++ qs))) :: led) s' → Q (.ref D) s') : wpAny (model prog w) A (binaryOp .Add (.ref l) (.ref l2)) Q E s :=
  addl_ H h1 h2 (by rw [tv_len, tv_len]; exact hz) fun D s' H' => h D s' (by rw [tv_app]; exact H')
local macro_rules | `(tactic| walk_at "binaryOp Add ref ref") => `(tactic| (refine addTT_ (by walk_at "my:st") (by walk_at "my:pl") (by walk_at "my:pl") (by walk_at "my:sz") ?_; walk_at "my:i"))
theorem nm_facts {p : PT} (h : p.2.length ≤ 12) (ok : ∀ r ∈ p.2, r.2 ≠ [] ∧ r.2.length ≤ 12 ∧ ∀ c ∈ r.2, TxOk c.1) :
    (∀ n ∈ nmF p, 47 ∉ n) ∧ (∀ n ∈ nmF p, n.length ≤ 700) ∧ (nmF p).length ≤ 12 ∧ tot (nmF p) ≤ 8412 := by
  have nlen : ∀ n ∈ nmF p, n.length ≤ 700 := fun n hn => by
    obtain ⟨r, hr, rfl⟩ := List.mem_map.mp hn
    obtain ⟨k1, k2, k3⟩ := ok r hr
    have h1 := safe_len (r.2.map (·.1))
    have h2 := tot_tx r.2 k3
    exact Mine.lc [r.snd.length, (safeF (List.map (Prod.fst) r.snd)).length, tot (List.map (Prod.fst) r.snd)] [(58, .v 0, .n 12), (1, .v 1, .m 2 (.v 2)), (2, .v 2, .m 29 (.v 0))] (1, .v 1, .n 700) rfl k2 h1 h2
  have ncnt : (nmF p).length ≤ 12 := by rw [nmF, List.length_map]; exact h
  refine ⟨fun n hn => ?_, nlen, ncnt, ?_⟩
  · obtain ⟨r, -, rfl⟩ := List.mem_map.mp hn; exact safe_47 _
  · have := tot_le nlen
    have h2 := Nat.mul_le_mul_left (700 + 1) ncnt
    omega
theorem stk_facts {p : PT} (h : p.2.length ≤ 12) (ok : ∀ r ∈ p.2, r.2 ≠ [] ∧ r.2.length ≤ 12 ∧ ∀ c ∈ r.2, TxOk c.1) :
    Good (stackF (nmF p)) ∧ tot (stackF (nmF p)) ≤ 8415 ∧ (stackF (nmF p)).length ≤ 13 := by
  obtain ⟨h1, h2, h3, h4⟩ := nm_facts h ok
  refine ⟨good_stack h1, ?_, by have := stackF_len (nmF p); exact Mine.lc [(nmF p).length, (stackF (nmF p)).length] [(1, .v 0, .n 12), (1, .v 1, .a (.v 0) (.n 1))] (1, .v 1, .n 13) rfl h3 this⟩
  rw [← norm_laid]
  have := normF_tot (fullF (nmF p) ++ endF (nmF p))
  have := (tot_laid (nmF p)).1
  exact Mine.lc [tot (nmF p), tot (normF (fullF (nmF p) ++ endF (nmF p))), tot (fullF (nmF p) ++ endF (nmF p))] [(1, .v 0, .n 8412), (1, .v 1, .v 2), (1, .v 2, .a (.v 0) (.n 3))] (1, .v 1, .n 8415) rfl h4 (by assumption) this
theorem tot_steps (low high : List (List Nat)) : tot (stepsF low high) ≤ 3 * low.length + tot high + 2 := by
  have h1 := tot_rep (low.length - shL low high)
  have h2 := tot_drop_le (shL low high) high
  unfold stepsF
  dsimp only
  split
  · show 2 ≤ _; exact Mine.lc [low.length, tot high] [] (1, .n 2, .a (.a (.m 3 (.v 0)) (.v 1)) (.n 2)) rfl
  · rw [tot_app]; exact Mine.lc [tot (List.replicate (low.length - shL low high) [46, 46]), low.length - shL low high, tot (List.drop (shL low high) high), tot high, low.length] [(1, .v 0, .m 3 (.v 1)), (1, .v 2, .v 3), (3, .v 1, .v 4)] (1, .a (.v 0) (.v 2), .a (.a (.m 3 (.v 4)) (.v 3)) (.n 2)) rfl (Nat.le_of_eq h1) h2 (Nat.sub_le ( low.length) ( shL low high))
theorem l_ : Str.ofString "l" = S [108] := by decide +kernel
local macro_rules | `(tactic| walk_at "my:gow") => `(tactic| repeat' (first
  | ((fail_if_success (with_reducible show Exists _)); (fail_if_success (with_reducible show wpAny _ _ (call (Value.ref _) _) _ _ _)); (fail_if_success (with_reducible show wpAny _ _ (call (Value.type "zip") _) _ _ _)); (fail_if_success (with_reducible show wpAny _ _ (binaryOp Operator.Mult (Value.ref _) _) _ _ _)); (fail_if_success (with_reducible show wpAny _ _ (binaryOp Operator.Add (Value.ref _) (Value.ref _)) _ _ _)); (fail_if_success (with_reducible show wpAny _ _ (eval (Expr.IfExp _ _ _ _) _) _ _ _)); (fail_if_success (with_reducible show wpAny _ _ (exec (Stmt.For _ _ _ _ _) _) _ _ _)); walk1)))
section
variable {prog : Program} {w : World} {mg mb : Str → Option Value} {s : Shared} {A : Around} {E : Value → Shared → Prop} {Q : Value → Shared → Prop} {k : Nat}
  {name qual : Str} {params : Arguments} {body : List Stmt} {scope : Scope} {dV kV doc pm cdv ct oc : Value} {an od : Option Addr} {osl : Array (Option Value)} {f : Addr} {vs : List Value} {binds : List (Str × Value)}
theorem enterN_ (C : Cx w mg mb s.heap) (hr : Room A (k + 1)) (ht : 1 ≤ s.toks + binds.length)
    (ho : (KK w).lookup f = some ⟨oc, od, .func (fnOf name qual params body scope dV kV doc pm an cdv ct), osl⟩)
    (hcd : codeIn (KK w) cdv qual = true)
    (hbind : bindArgs (fnOf name qual params body scope dV kV doc pm an cdv ct) ⟨vs, []⟩ = pure binds)
    (hloc : (binds.all fun x => decide (scope.names.lookup x.1 = some .local)) = true) {lo : List (Str × Value)} (hlo : binds.reverse = lo)
    (h : ∀ L s', St w mg mb s s.heap L lo [] s' → Room (A.deeper (envOf qual scope L f cdv)) k →
      wpAny (model prog w) (A.deeper (envOf qual scope L f cdv)) (execs body (envOf qual scope L f cdv))
        (fun fl s' => Q (match fl with | .ret v => v | _ => .none) s') (fun _ _ => False) s')
    (hcell : ∀ x ∈ scope.names, x.2 ≠ .cell) (hco : scope.isCoroutine = false) (hgen : scope.isGenerator = false) (hk : scope.kind = .function) :
    wpAny (model prog w) A (call (.ref f) vs) Q E s := by
  subst hlo
  refine wpAny_call (codeAny_call_def (fd := fnOf name qual params body scope dV kV doc pm an cdv ct) (body := body) (binds := binds) hr.lim (C.X _ _ ho) rfl C.T.nolimit (codeRec_of C.X hcd) rfl (BindsTo.of_eq hbind) hcell (locs hloc) (fun h₁ hns hk₁ => ?_) hco hgen hk)
  refine wpAny_mono (h s.heap.objs.size { s with heap := h₁, toks := s.toks + binds.length } ⟨⟨⟨_, hns, fun _ _ e => e⟩, hk₁, ?_, (fun _ hp => nomatch hp), List.Pairwise.nil⟩, C, ⟨_, _, rfl⟩, ht, fun _ _ e => e⟩ hr.deeper) (fun fl s' hl => hl) fun _ _ e => e.elim
  cases e : s.heap.get? s.heap.objs.size with
  | none => rfl
  | some o => exact absurd (Heap.lt_size e) (Nat.lt_irrefl _)
end
section
variable {prog : Program} {w : World} {mg mb : Str → Option Value} {s : Shared} {A : Around} {E : Value → Shared → Prop} {Q : Value → Shared → Prop} {t : Tok}
theorem law_ {ls : Addr} {ns : List Value} {op : Obj} (C : Cx w mg mb s.heap) (C' : Cx w mg mb (hideAll s.heap [23])) (hP : PlatReady mg (hideAll s.heap [23])) (h23 : s.heap.get? 23 = some op) (htr : TabOk op) (hr : Room A 12) (hBare : AllBare s.gens)
    (hl : s.heap.IsList ls ns.toArray) (hls : ls ≠ 23) (hi : ∀ v ∈ ns, ∃ n t, v = .int n t) (hz : ns.length ≤ 1000) (hQ : ∀ s' tb, (∀ b o, b ≠ 23 → s.heap.get? b = some o → s'.heap.get? b = some o) → s'.heap.get? 23 = some (tabObj tb) → s'.os = s.os → AllBare s'.gens → Q (.bool true) s') :
    wpAny (model prog w) A (call (.ref 222) [.ref ls]) Q E s := by
  refine enterN_ (binds := [(Str.ofString "script", .ref ls)]) (lo := [(Str.ofString "script", .ref ls)]) C hr (Nat.le_add_left _ _) (by rfl) (by rfl) (by rfl) (by rfl) (by rfl) ?_ (by decide) rfl rfl rfl
  intro L s' H R
  have H0 := H.hide h23 C'
  clear H
  have hlg : (hideAll s.heap [23]).IsList ls ns.toArray := let ⟨o, ho, r⟩ := hl; ⟨o, hideAll_get _ ho (fun hm => hls (List.mem_singleton.mp hm)), r⟩
  have g23 : (hideAll s.heap [23]).get? 23 = none := hideAll_none _ (.head _)
  have hk0 : ∀ b o, b ≠ 23 → s.heap.get? b = some o → (hideAll s.heap [23]).get? b = some o := fun b o hb e => hideAll_get _ e fun hm => hb (List.mem_singleton.mp hm)
  obtain ⟨sA, hAo, hAg, H0⟩ : ∃ sA : Shared, sA.os = s.os ∧ AllBare sA.gens ∧ St w mg mb sA (hideAll s.heap [23]) L [(Str.ofString "script", .ref ls)] [(23, .obj op)] s' := ⟨{ s with heap := hideAll s.heap [23] }, rfl, hBare, H0⟩
  generalize hideAll s.heap [23] = g0 at H0 C' hP hlg g23 hk0
  walk_at "my:go"
  refine For_ ?_
  walk_at "my:go"
  rename St _ _ _ _ _ _ _ _ _ => HX
  rename Shared => s1
  obtain ⟨lS, lQ, HX⟩ : ∃ lS lQ, St w mg mb sA g0 L [(Str.ofString "script", .ref ls), (Str.ofString "stacks", .ref lS), (Str.ofString "spots", .ref lQ)] [(lQ, .lst []), (lS, .lst []), (23, .obj op)] s1 := ⟨_, _, HX⟩
  refine texts_ (St.here HX) (R.le (by decide)) HX.tk (HX.blst hlg) hi hz fun s2 a PS k2 t2 hT hne hlen hok => ?_
  have H2 := HX.moved k2 t2
  obtain ⟨g1, hg1, H3, hbl⟩ := H2.rebase (List.Sublist.refl _)
  have fr : ∀ b, s1.heap.get? b = none → b ≠ L ∧ b ∉ List.map (·.1) [(lQ, Ent.lst []), (lS, .lst []), (23, .obj op)] := fun b hb => by
    refine ⟨fun e => ?_, fun e => ?_⟩
    · subst e
      obtain ⟨m, hns, -⟩ := HX.fs.ns
      obtain ⟨oL, _, _, hoL, -⟩ := hns
      rw [hoL] at hb; cases hb
    · obtain ⟨p, hp, rfl⟩ := List.mem_map.mp e
      obtain ⟨o, ho⟩ := (HX.fs.ok p hp).1.some
      rw [ho] at hb; cases hb
  have pl1 : ∀ b vs, s1.heap.get? b = none → s2.heap.PlainList b vs → g1.PlainList b vs := fun b vs hb hp => by
    obtain ⟨n, ho⟩ := hp
    exact ⟨n, hbl b _ ho (fr b hb).1 (fr b hb).2⟩
  have hA := pl1 a _ hT.1 hT.2.1
  have hB : ∀ p ∈ PS, g1.PlainList p.1 (rowsV p.2).toArray ∧ ∀ r ∈ p.2, g1.PlainList r.1 (tv r.2).toArray := fun p hp =>
    ⟨pl1 _ _ (hT.2.2 p hp).1 (hT.2.2 p hp).2.1, fun r hr => pl1 _ _ ((hT.2.2 p hp).2.2 r hr).1 ((hT.2.2 p hp).2.2 r hr).2⟩
  have hP1 : PlatReady mg g1 := hP.keeps hg1
  have g23' : g1.get? 23 = none := (H3.fs.ok _ (.tail _ (.tail _ (.head _)))).2.2
  have hk1 : ∀ b o, b ≠ 23 → s.heap.get? b = some o → g1.get? b = some o := fun b o hb e => hg1 _ _ (hk0 b o hb e)
  clear HX H2 hbl fr pl1 hT hl hlg C C' hP g23 h23 hg1 hk0 hBare
  refine itL_ R.hh H3 hA.isList fun it s3 H4 hW => ?_
  clear H3
  refine forG_ H4 hW (fun i s₀ lo led => ∃ op' rws sps rest, lo = [(Str.ofString "script", .ref ls), (Str.ofString "stacks", .ref lS), (Str.ofString "spots", .ref lQ)] ∧ led.Perm ((23, .obj op') :: (lS, .lst (rowsV rws)) :: (lQ, .lst (tv sps)) :: (rws.map rowE ++ rest)) ∧ TabOk op' ∧
      rws.map Row.nm = (PS.take i).map (fun p => stackF (nmF p)) ∧ (sps.map (·.1) = (PS.take i).map fun p => 47 :: inter [47] (stackF (nmF p))) ∧ AllBare s₀.gens ∧ s₀.os = s.os)
    ⟨op, [], [], [], rfl, (by
      refine (List.perm_middle (l₁ := [(lQ, Ent.lst []), (lS, .lst [])]) (l₂ := [])).trans (.cons _ (.swap ..))), htr, rfl, rfl, hAg, hAo⟩ ?_ ?_
  · rintro i v s₀ lo₁ led₁ its s4 hi' hv ⟨op', rws, sps, rest, rfl, hp, htr', hrw, hsp, hgn, hos⟩ H5
    clear H4 hW
    have H6 := H5.perm (hp.append_right its)
    clear H5
    obtain ⟨p, hpi, rfl⟩ : ∃ p, PS[i]? = some p ∧ Value.ref p.1 = v := by
      rw [pV, List.getElem?_map] at hv
      cases hx : PS[i]? with
      | none => rw [hx] at hv; cases hv
      | some p => rw [hx] at hv; exact ⟨p, rfl, by simpa using hv⟩
    have hpm := List.mem_of_getElem? hpi
    obtain ⟨hb1, hb2⟩ := hB p hpm
    obtain ⟨ok1, ok2, ok3⟩ := hok p hpm
    rw [List.cons_append, List.cons_append, List.cons_append] at H6
    obtain ⟨ot, hot⟩ : ∃ ot, ot = rws.map rowE ++ rest ++ its := ⟨_, rfl⟩
    rw [← hot] at H6
    walk_at "my:gol"
    rename St _ _ _ _ _ _ _ _ _ => HX
    have zr : (rowsV p.2).length ≤ sizeLine := by rw [rowsV, List.length_map]; exact Nat.le_trans (show p.2.length ≤ 1000000 by exact Mine.lc [p.snd.length] [(1, .v 0, .n 12)] (1, .v 0, .n 1000000) rfl ok2) (Nat.le_of_ble_eq_true rfl)
    refine compB_ (s₀ := s₀) (mg := mg) (mb := mb) (g := g1) (L := L) (n := (rowsV p.2).length) (P := fun i v => (rowsV p.2)[i]? = some v) (cl := []) (lo := [(Str.ofString "script", .ref ls), (Str.ofString "stacks", .ref lS), (Str.ofString "spots", .ref lQ), (Str.ofString "rows", .ref p.1)]) (led := (23, .obj op') :: (lS, .lst (rowsV rws)) :: (lQ, .lst (tv sps)) :: ot)
      (lof := fun v => [(Str.ofString "script", .ref ls), (Str.ofString "stacks", .ref lS), (Str.ofString "spots", .ref lQ), (Str.ofString "rows", .ref p.1), (Str.ofString "names", v)]) zr (by rfl) (by decide) rfl (by decide) (fun _ => by rfl)
      (fun j s1 ys led => ∃ op2 qs, ys = tv qs ∧ led = (23, .obj op2) :: (lS, .lst (rowsV rws)) :: (lQ, .lst (tv sps)) :: ot ∧ TabOk op2 ∧ (qs.map (·.1) = (p.2.take j).map fun r => platF (r.2.map (·.1))) ∧ AllBare s1.gens ∧ s1.os = s.os)
      ⟨op', [], rfl, rfl, htr', rfl, hgn, hos⟩ ?_ ?_ (fun v => by walk_at "my:set") ?_
    · walk_at "my:go"
      rename St _ _ _ _ _ _ _ _ _ => HZ
      exact itL_ R.hh HZ hb1.isList fun it s5 H7 hW => ⟨H7, hW⟩
    · rintro C D oL j v s₁ ys led₁ its2 s5 hj hP2 ⟨op2, qs, rfl, rfl, ht2, hq, hgB, hoB⟩ H7
      clear HX
      obtain ⟨r, hr, rfl⟩ := rowsV_get (rows := p.2) (i := j) (v := v) (by simpa using hP2)
      have hrm := List.mem_of_getElem? hr
      obtain ⟨k1, k2, k3⟩ := ok3 r hrm
      have zt : (tv r.2).length ≤ sizeLine := by rw [tv_len]; exact Nat.le_trans (show r.2.length ≤ 1000000 by exact Mine.lc [r.snd.length] [(1, .v 0, .n 12)] (1, .v 0, .n 1000000) rfl k2) (Nat.le_of_ble_eq_true rfl)
      refine tests0_ ?_
      rw [if_pos rfl]
      simp only [List.cons_append] at H7
      walk_at "my:go"
      rename St _ _ _ _ _ _ _ _ _ => HZ
      refine starL_ HZ (HZ.blst (hb2 r hrm).isList) zt fun s6 H8 => ⟨(St.here H8).X, ?_⟩
      clear HZ
      have H9 := H8.perm (List.perm_middle (l₁ := [(D, Ent.lst (tv qs)), (L, .obj oL)]))
      rw [List.nil_append]
      refine platform_ H9.cx hP1 g23' H9.fs.keep (H9.obj (.head _)) ht2 (Room.le (by assumption) (by decide)) H9.tk ?_ fun s7 t7 op3 e1 e2 e3 e4 e5 e6 e7 => ?_
      · have := tot_tx r.2 k3
        exact Mine.lc [r.snd.length, tot (List.map (Prod.fst) r.snd)] [(29, .v 0, .n 12), (1, .v 1, .m 29 (.v 0))] (1, .v 1, .n 100000) rfl k2 this
      · have H10 := H9.moved23 e1 e2 e3 e4 e6
        have H11 := H10.perm (List.perm_middle (l₁ := [(D, Ent.lst (tv qs)), (L, .obj oL)])).symm
        refine ⟨{ s₁ with gens := s7.gens }, _, _, ⟨op3, qs ++ [(platF (r.2.map (·.1)), t7)], by rw [tv_snoc], rfl, e5, ?_, e7 (by rw [H9.eq_gens]; exact hgB), hoB⟩, H11⟩
        rw [List.map_append, hq, take_snoc hr, List.map_append]; rfl
    · rintro D s₁ ys led₁ s5 ⟨op2, qs, rfl, rfl, ht2, hq, hgB, hoB⟩ H7
      clear HX
      rw [show (rowsV p.2).length = p.2.length from by simp [rowsV], List.take_length] at hq
      have hn : qs.map (·.1) = nmF p := hq.trans (List.map_congr_left fun r hr => plat_safe fun t ht a ha => by
        obtain ⟨c, hc, rfl⟩ := List.mem_map.mp ht
        exact ((ok3 r hr).2.2 c hc).2 a ha)
      clear hq
      have nd := H7.fs.nd
      rw [List.map_cons, List.nodup_cons] at nd
      obtain ⟨g2, hg2, H8, hD⟩ := H7.based (List.sublist_cons_self _ _) (.head _) nd.1
      have hbr := hb1.isList
      have hbr2 : g2.IsList p.1 (rowsV p.2).toArray := let ⟨o, ho, r⟩ := hbr; ⟨o, hg2 _ _ ho, r⟩
      have hb3 : ∀ r ∈ p.2, g2.IsList r.1 (tv r.2).toArray := fun r hr => let ⟨o, ho, q⟩ := (hb2 r hr).isList; ⟨o, hg2 _ _ ho, q⟩
      have hbase := H7.base
      have hcx := H7.cx
      clear H7
      walk_at "my:goz"
      rename St _ _ _ _ _ _ _ _ _ => HX
      refine compE_ (s₀ := s₁) (mg := mg) (mb := mb) (g := g2) (L := L) (lo := [(Str.ofString "script", .ref ls), (Str.ofString "stacks", .ref lS), (Str.ofString "spots", .ref lQ), (Str.ofString "rows", .ref p.1), (Str.ofString "names", .ref D)]) (led := (23, .obj op2) :: (lS, .lst (rowsV rws)) :: (lQ, .lst (tv sps)) :: ot)
        (n := (rowsV p.2).length) (P := fun i v => (rowsV p.2)[i]? = some v) (cl := []) zr (by rfl) (by decide) rfl (by decide) (fun _ => by rfl)
        (fun j s2 ys led => s2 = s₁ ∧ led = (23, .obj op2) :: (lS, .lst (rowsV rws)) :: (lQ, .lst (tv sps)) :: ot ∧ ∃ q2 : List (List Nat × Tok), ys = tv q2 ∧ q2.map (·.1) = (p.2.take j).map fun r => safeF (r.2.map (·.1)))
        ⟨rfl, rfl, [], rfl, rfl⟩ ?_ ?_ ?_
      · walk_at "my:go"
        rename St _ _ _ _ _ _ _ _ _ => HZ
        exact itL_ R.hh HZ hbr2 fun it s6 H9 hW => ⟨H9, hW⟩
      · rintro C2 D4 oL2 j v s2 ys led2 its2 s6 hj hP2 ⟨es2, rfl, q2, rfl, hq⟩ H9
        subst s2
        clear HX
        obtain ⟨r, hr, rfl⟩ := rowsV_get (rows := p.2) (i := j) (v := v) (by simpa using hP2)
        have hrm := List.mem_of_getElem? hr
        obtain ⟨k1, k2, k3⟩ := ok3 r hrm
        refine tests0_ ?_
        rw [if_pos rfl]
        simp only [List.cons_append] at H9
        walk_at "my:go"
        rename St _ _ _ _ _ _ _ _ _ => HZ
        refine safe_ (St.here HZ) (Room.le (by assumption) (by decide)) HZ.tk (HZ.blst (hb3 r hrm)) (by have := tot_tx r.2 k3; exact Mine.lc [r.snd.length, tot (List.map (Prod.fst) r.snd)] [(29, .v 0, .n 12), (1, .v 1, .m 29 (.v 0))] (1, .v 1, .n 100000) rfl k2 this) fun s7 t7 e1 e2 => ?_
        have HY := HZ.moved e1 e2
        refine ⟨_, _, _, ⟨rfl, rfl, q2 ++ [(safeF (r.2.map (·.1)), t7)], by rw [tv_snoc], ?_⟩, HY⟩
        rw [List.map_append, hq, take_snoc hr, List.map_append]; rfl
      · rintro D2 s2 ys led2 s6 ⟨rfl, rfl, q2, rfl, hq⟩ H9
        clear HX
        rw [show (rowsV p.2).length = p.2.length from by simp [rowsV], List.take_length] at hq
        have hq2 : q2.map (·.1) = nmF p := hq
        walk_at "my:goz"
        rename St _ _ _ _ _ _ _ _ _ => HX
        refine neL_ (HX.blst hD) (HX.lst (.head _)) R.cl ?_
        rw [hn, hq2, decide_eq_true rfl]
        walk_at "my:goz"
        rename St _ _ _ _ _ _ _ _ _ => HX
        rw [b_] at HX
        rename_i tb sa lb sb
        replace HX : St w mg mb s2 g2 L [(Str.ofString "script", .ref ls), (Str.ofString "stacks", .ref lS), (Str.ofString "spots", .ref lQ), (Str.ofString "rows", .ref p.1), (Str.ofString "names", .ref D)] ((lb, .lst (tv [([98], tb)])) :: (D2, .lst (tv q2)) :: (23, .obj op2) :: (lS, .lst (rowsV rws)) :: (lQ, .lst (tv sps)) :: ot) sb := HX
        have zq : (tv qs).length ≤ sizeLine := by
          have := congrArg List.length hn
          rw [List.length_map, nmF, List.length_map] at this
          rw [tv_len, this]; exact Nat.le_trans (show p.2.length ≤ 1000000 by exact Mine.lc [p.snd.length] [(1, .v 0, .n 12)] (1, .v 0, .n 1000000) rfl ok2) (Nat.le_of_ble_eq_true rfl)
        refine compE_ (s₀ := s2) (mg := mg) (mb := mb) (g := g2) (L := L) (lo := [(Str.ofString "script", .ref ls), (Str.ofString "stacks", .ref lS), (Str.ofString "spots", .ref lQ), (Str.ofString "rows", .ref p.1), (Str.ofString "names", .ref D)]) (led := (lb, .lst (tv [([98], tb)])) :: (D2, .lst (tv q2)) :: (23, .obj op2) :: (lS, .lst (rowsV rws)) :: (lQ, .lst (tv sps)) :: ot)
          (n := (tv qs).length) (P := fun i v => (tv qs)[i]? = some v) (cl := []) zq (by rfl) (by decide) rfl (by decide) (fun _ => by rfl)
          (fun j s3 ys led => s3 = s2 ∧ led = (lb, .lst (tv [([98], tb)])) :: (D2, .lst (tv q2)) :: (23, .obj op2) :: (lS, .lst (rowsV rws)) :: (lQ, .lst (tv sps)) :: ot ∧ ∃ q3 : List (List Nat × Tok), ys = tv q3 ∧ q3.map (·.1) = ((nmF p).take j).filter fun n => !n.isEmpty)
          ⟨rfl, rfl, [], rfl, rfl⟩ ?_ ?_ ?_
        · walk_at "my:go"
          rename St _ _ _ _ _ _ _ _ _ => HZ
          exact itL_ R.hh HZ hD fun it s6 H9 hW => ⟨H9, hW⟩
        · rintro C2 D4 oL2 j v s3 ys led2 its2 s6 hj hP2 ⟨es2, rfl, q3, rfl, hq⟩ H9
          subst s3
          clear HX
          obtain ⟨c, u, rfl, hc1, -⟩ := tv_get hP2
          rw [hn] at hc1
          simp only [List.cons_append] at H9
          refine tests1_ ?_
          by_cases k0 : c = []
          · have c1 : (S c != Str.ofString "") = false := by rw [em_, S_bne]; simp [k0]
            walk_at "my:go"
            refine ⟨_, _, _, ⟨rfl, rfl, q3, rfl, ?_⟩, by assumption⟩
            rw [take_snoc hc1, List.filter_append, hq, k0]; simp
          · have c1 : (S c != Str.ofString "") = true := by rw [em_, S_bne]; simp [k0]
            walk_at "my:go"
            refine ⟨_, _, _, ⟨rfl, rfl, q3 ++ [(c, _)], by rw [tv_snoc], ?_⟩, by assumption⟩
            rw [take_snoc hc1, List.filter_append, List.map_append, hq]; simp [k0]
        · rintro D3 s3 ys led3 s6 ⟨rfl, rfl, q3, rfl, hq3⟩ H9
          clear HX
          rw [tv_len, show qs.length = (nmF p).length from by rw [← hn, List.length_map], List.take_length] at hq3
          have z3 : q3.length ≤ 1000 := by
            have h1 := congrArg List.length hq3
            rw [List.length_map] at h1
            have h2 := List.length_filter_le (fun n : List Nat => !n.isEmpty) (nmF p)
            rw [show (nmF p).length = p.2.length from by simp [nmF]] at h2
            omega
          have z3' : (tv q3).length ≤ 1000 := by rw [tv_len]; exact z3
          have z5 : [(([98] : List Nat), tb)].length + q3.length ≤ sizeLine := Nat.le_trans (show 1 + q3.length ≤ 1000000 by exact Mine.lc [q3.length] [(1, .v 0, .n 1000)] (1, .a (.n 1) (.v 0), .n 1000000) rfl z3) (Nat.le_of_ble_eq_true rfl)
          walk_at "my:goc"
          rename St _ _ _ _ _ _ _ _ _ => HX
          obtain ⟨lF, HX⟩ : ∃ lF, St w mg mb s3 g2 L [(Str.ofString "script", .ref ls), (Str.ofString "stacks", .ref lS), (Str.ofString "spots", .ref lQ), (Str.ofString "rows", .ref p.1), (Str.ofString "names", .ref D), (Str.ofString "full", .ref lF)] ((lF, .lst (tv (([98], tb) :: q3))) :: (23, .obj op2) :: (lS, .lst (rowsV rws)) :: (lQ, .lst (tv sps)) :: ot) _ :=
            ⟨_, HX.drop (.cons_cons _ (.cons _ (.cons _ (.cons _ (.refl _)))))⟩
          have hfu : (([98], tb) :: q3).map (·.1) = fullF (nmF p) := by rw [List.map_cons, hq3]; rfl
          obtain ⟨q0, c0, t0, eqs⟩ : ∃ q0 c0 t0, qs = q0 ++ [(c0, t0)] := by
            rcases List.eq_nil_or_concat qs with e | ⟨q0, ⟨c0, t0⟩, e⟩
            · rw [e, List.map_nil] at hn
              exact absurd (List.map_eq_nil_iff.mp hn.symm) ok1
            · exact ⟨q0, c0, t0, by rw [e, List.concat_eq_append]⟩
          have hD2 : g2.IsList D (tv q0 ++ [Value.str (S c0) t0]).toArray := by rw [← tv_snoc, ← eqs]; exact hD
          have hnl : nmF p = q0.map (·.1) ++ [c0] := by rw [← hn, eqs, List.map_append]; rfl
          have z6 : (tv q0).length < 1000000 := by
            have := tv_len qs
            rw [eqs, tv_snoc, List.length_append] at this
            have h2 := congrArg List.length hn
            rw [List.length_map, nmF, List.length_map] at h2
            rw [← eqs] at this
            simp at this; exact Mine.lc [p.snd.length, qs.length, (tv q0).length] [(1, .v 0, .n 12), (1, .v 1, .v 0), (1, .a (.v 2) (.n 1), .v 1)] (1, .a (.v 2) (.n 1), .n 1000000) rfl ok2 (Nat.le_of_eq h2) (Nat.le_of_eq this)
          refine via1_ (fun v s5 => ∃ lE q4, v = Value.ref lE ∧ q4.map (·.1) = endF (nmF p) ∧ St w mg mb s3 g2 L [(Str.ofString "script", .ref ls), (Str.ofString "stacks", .ref lS), (Str.ofString "spots", .ref lQ), (Str.ofString "rows", .ref p.1), (Str.ofString "names", .ref D), (Str.ofString "full", .ref lF)] ((lE, .lst (tv q4)) :: (lF, .lst (tv (([98], tb) :: q3))) :: (23, .obj op2) :: (lS, .lst (rowsV rws)) :: (lQ, .lst (tv sps)) :: ot) s5) ?_ ?_
          · by_cases k0 : c0 = []
            · have c1 : (S c0 == Str.ofString "") = true := by rw [em_, S_beq]; exact decide_eq_true k0
              walk_at "my:go"
              rename St _ _ _ _ _ _ _ _ _ => HZ
              rw [em_] at HZ
              exact ⟨_, [([], _)], rfl, by rw [hnl, k0, end_snoc0]; rfl, HZ⟩
            · have c1 : (S c0 == Str.ofString "") = false := by rw [em_, S_beq]; exact decide_eq_false k0
              walk_at "my:go"
              rename St _ _ _ _ _ _ _ _ _ => HZ
              exact ⟨_, [], rfl, by rw [hnl, end_snoc _ k0]; rfl, HZ⟩
          rintro _ s5 ⟨lE, q4, rfl, he4, H10⟩
          clear HX hD2
          obtain ⟨n47, nlen, ncnt, ntot⟩ := nm_facts ok2 ok3
          walk_at "my:goc"
          rename St _ _ _ _ _ _ _ _ _ => HX
          rw [List.append_nil, sb_]
          refine joinp_ (x := [47, 98]) (ps := qs) (St.here HX) (R.le (by decide)) HX.tk (by simp) (fun q hq e => n47 q.1 (by rw [← hn]; exact List.mem_map_of_mem hq) (by cases hq1 : q.1 with | nil => rw [hq1] at e; cases e | cons a r => rw [hq1] at e; rw [Option.some.inj e]; exact .head _)) (by rw [hn]; show 2 + tot (nmF p) ≤ _; exact Mine.lc [tot (nmF p)] [(1, .v 0, .n 8412)] (1, .a (.n 2) (.v 0), .n 1000000) rfl ntot) fun s7 t7 k7 ht7 => ?_
          have H11 := HX.moved k7 ht7
          clear HX
          rw [hn, join_laid _ _ rfl n47]
          have q4z : q4.length ≤ 1 := by
            have := congrArg List.length he4
            rw [List.length_map] at this
            rcases end_or (nmF p) with e | e <;> rw [e] at this <;> rw [this] <;> decide
          obtain ⟨tl1, tl2⟩ := tot_laid (nmF p)
          have efe : ((([98], tb) :: q3) ++ q4).map (·.1) = fullF (nmF p) ++ endF (nmF p) := by rw [List.map_append, hfu, he4]
          have il := inter_len (fullF (nmF p) ++ endF (nmF p))
          have zA : (([98], tb) :: q3).length + q4.length ≤ sizeLine := Nat.le_trans (show q3.length + 1 + q4.length ≤ 1000000 by exact Mine.lc [q3.length, q4.length] [(1, .v 0, .n 1000), (1, .v 1, .n 1)] (1, .a (.a (.v 0) (.n 1)) (.v 1), .n 1000000) rfl z3 q4z) (Nat.le_of_ble_eq_true rfl)
          have zB : tot (((([98], tb) :: q3) ++ q4).map (·.1)) ≤ 1000000 := by rw [efe]; exact Mine.lc [tot (nmF p), tot (fullF (nmF p) ++ endF (nmF p))] [(1, .v 0, .n 8412), (1, .v 1, .a (.v 0) (.n 3))] (1, .v 1, .n 1000000) rfl ntot tl1
          have zC : (Str.ofString "/").length + (S (inter [47] (((([98], tb) :: q3) ++ q4).map (·.1)))).length ≤ sizeLine := by
            rw [efe, S_len]; exact Nat.le_trans (show 1 + (inter [47] (fullF (nmF p) ++ endF (nmF p))).length ≤ 1000000 by exact Mine.lc [tot (nmF p), tot (fullF (nmF p) ++ endF (nmF p)), (inter [47] (fullF (nmF p) ++ endF (nmF p))).length] [(1, .v 0, .n 8412), (1, .v 1, .a (.v 0) (.n 3)), (1, .v 2, .v 1)] (1, .a (.n 1) (.v 2), .n 1000000) rfl ntot tl1 il) (Nat.le_of_ble_eq_true rfl)
          have c5 : (S (47 :: inter [47] (fullF (nmF p) ++ endF (nmF p))) != Str.ofString "/" ++ S (inter [47] (((([98], tb) :: q3) ++ q4).map (·.1)))) = false := by
            rw [efe, slash_, S_app, S_bne]; simp
          walk_at "my:goc"
          rename St _ _ _ _ _ _ _ _ _ => HX
          refine climb_ (ns := fullF (nmF p) ++ endF (nmF p)) (St.here HX) (R.le (by decide)) HX.tk rfl (cut_laid n47) (by exact Mine.lc [(nmF p).length, (fullF (nmF p) ++ endF (nmF p)).length] [(1, .v 0, .n 12), (1, .v 1, .a (.v 0) (.n 2))] (1, .v 1, .n 50) rfl ncnt tl2) (by rw [S_len, List.length_cons]; exact Mine.lc [tot (nmF p), tot (fullF (nmF p) ++ endF (nmF p)), (inter [47] (fullF (nmF p) ++ endF (nmF p))).length] [(1, .v 0, .n 8412), (1, .v 1, .a (.v 0) (.n 3)), (1, .v 2, .v 1)] (1, .a (.v 2) (.n 1), .n 100000) rfl ntot tl1 il) fun s8 aC qC k8 f8 pl8 eC ht8 => ?_
          have H12 := HX.adopt (e := .lst (tv qC)) k8 f8 pl8 ht8
          clear HX
          walk_at "my:goc"
          rename St _ _ _ _ _ _ _ _ _ => HX
          refine neL_ (HX.lst (.tail _ (.head _))) (HX.lst (.head _)) R.cl ?_
          rw [eC, efe, decide_eq_true rfl]
          walk_at "my:goc"
          rename St _ _ _ _ _ _ _ _ _ => HX
          have qlen : qs.length ≤ 12 := by have := congrArg List.length hn; rw [List.length_map] at this; exact Mine.lc [(nmF p).length, qs.length] [(1, .v 0, .n 12), (1, .v 1, .v 0)] (1, .v 1, .n 12) rfl ncnt (Nat.le_of_eq this)
          refine stack_ (ps := qs) (St.here HX) (R.le (by decide)) HX.tk (HX.blst hD) (by exact Mine.lc [qs.length] [(1, .v 0, .n 12)] (1, .v 0, .n 1000) rfl qlen) (fun q hq => by have := nlen q.1 (by rw [← hn]; exact List.mem_map_of_mem hq); exact Mine.lc [q.fst.length] [(1, .v 0, .n 700)] (1, .v 0, .n 100000) rfl this) fun s9 aS qS k9 f9 pl9 eS ht9 => ?_
          have H13 := HX.adopt (e := .lst (tv qS)) k9 f9 pl9 ht9
          clear HX
          rw [hn] at eS
          walk_at "my:goc"
          rename St _ _ _ _ _ _ _ _ _ => HX
          refine normpath_ (r := inter [47] (fullF (nmF p) ++ endF (nmF p))) (St.here HX) (R.le (by decide)) HX.tk rfl laid_head (by rw [S_len, List.length_cons]; exact Mine.lc [tot (nmF p), tot (fullF (nmF p) ++ endF (nmF p)), (inter [47] (fullF (nmF p) ++ endF (nmF p))).length] [(1, .v 0, .n 8412), (1, .v 1, .a (.v 0) (.n 3)), (1, .v 2, .v 1)] (1, .a (.v 2) (.n 1), .n 900000) rfl ntot tl1 il) fun s10 t10 k10 ht10 => ?_
          have H14 := HX.moved k10 ht10
          clear HX
          rw [norm_sp_laid n47]
          have tS : tot (stackF (nmF p)) ≤ 8415 := by
            rw [← norm_laid]; have := normF_tot (fullF (nmF p) ++ endF (nmF p)); exact Mine.lc [tot (nmF p), tot (fullF (nmF p) ++ endF (nmF p)), tot (normF (fullF (nmF p) ++ endF (nmF p)))] [(1, .v 0, .n 8412), (1, .v 1, .a (.v 0) (.n 3)), (1, .v 2, .v 1)] (1, .v 2, .n 8415) rfl ntot tl1 this
          have iS := inter_len (stackF (nmF p))
          have zD : tot (qS.map (·.1)) ≤ 1000000 := by rw [eS]; exact Mine.lc [tot (stackF (nmF p))] [(1, .v 0, .n 8415)] (1, .v 0, .n 1000000) rfl tS
          have zE : (Str.ofString "/").length + (S (inter [47] (qS.map (·.1)))).length ≤ sizeLine := by
            rw [eS, S_len]; exact Nat.le_trans (show 1 + (inter [47] (stackF (nmF p))).length ≤ 1000000 by exact Mine.lc [tot (stackF (nmF p)), (inter [47] (stackF (nmF p))).length] [(1, .v 0, .n 8415), (1, .v 1, .v 0)] (1, .a (.n 1) (.v 1), .n 1000000) rfl tS iS) (Nat.le_of_ble_eq_true rfl)
          have c6 : (S (47 :: inter [47] (stackF (nmF p))) != Str.ofString "/" ++ S (inter [47] (qS.map (·.1)))) = false := by
            rw [eS, slash_, S_app, S_bne]; simp
          have rwl : rws.length ≤ 3 := by
            have := congrArg List.length hrw
            rw [List.length_map, List.length_map, List.length_take] at this; exact Mine.lc [PS.length, rws.length, min i PS.length] [(1, .v 0, .n 3), (1, .v 1, .v 2), (1, .v 2, .v 0)] (1, .v 1, .n 3) rfl hlen (Nat.le_of_eq this) (Nat.min_le_right ( i) ( PS.length))
          have spl : sps.length ≤ 3 := by
            have := congrArg List.length hsp
            rw [List.length_map, List.length_map, List.length_take] at this; exact Mine.lc [PS.length, sps.length, min i PS.length] [(1, .v 0, .n 3), (1, .v 1, .v 2), (1, .v 2, .v 0)] (1, .v 1, .n 3) rfl hlen (Nat.le_of_eq this) (Nat.min_le_right ( i) ( PS.length))
          have zF : (rowsV rws).length ≤ sizeLine := by rw [rowsV, List.length_map]; exact Nat.le_trans (show rws.length ≤ 1000000 by exact Mine.lc [rws.length] [(1, .v 0, .n 3)] (1, .v 0, .n 1000000) rfl rwl) (Nat.le_of_ble_eq_true rfl)
          have zG : (tv sps).length ≤ sizeLine := by rw [tv_len]; exact Nat.le_trans (show sps.length ≤ 1000000 by exact Mine.lc [sps.length] [(1, .v 0, .n 3)] (1, .v 0, .n 1000000) rfl spl) (Nat.le_of_ble_eq_true rfl)
          walk_at "my:goc"
          rename St _ _ _ _ _ _ _ _ _ => HX
          have HY := (HX.lower hg2 hcx hbase).drop (led' := (aS, .lst (tv qS)) :: (23, .obj op2) :: (lS, .lst (rowsV rws ++ [Value.ref aS])) :: (lQ, .lst (tv sps ++ [Value.str (S (47 :: inter [47] (stackF (nmF p)))) t10])) :: ot) (.cons_cons _ (.cons _ (.cons _ (.cons _ (.cons _ (.cons _ (.refl _)))))))
          subst hot
          refine ⟨_, _, (23, .obj op2) :: (lS, .lst (rowsV rws ++ [Value.ref aS])) :: (lQ, .lst (tv sps ++ [Value.str (S (47 :: inter [47] (stackF (nmF p)))) t10])) :: (rws.map rowE ++ [(aS, .lst (tv qS))] ++ rest), ⟨op2, rws ++ [(aS, qS)], sps ++ [(47 :: inter [47] (stackF (nmF p)), t10)], rest, rfl, ?_, ht2, ?_, ?_, hgB, hoB⟩, St.front (r := [_, _, _, _, _, _, _]) (HY.perm (pm4 _ _ _ _ _ _ _))⟩
          · rw [rowsV_snoc, tv_snoc, List.map_append]; exact .refl _
          · rw [List.map_append, hrw, take_snoc hpi, List.map_append]; exact congrArg (fun z => List.map (fun p => stackF (nmF p)) (List.take i PS) ++ [z]) eS
          · rw [List.map_append, hsp, take_snoc hpi, List.map_append]; rfl
  · rintro s₀ lo₁ led₁ s4 ⟨op', rws, sps, rest, rfl, hp, htr', hrw, hsp, hgn, hos⟩ H5
    clear H4 hW
    rw [show (pV PS).length = PS.length from by simp [pV], List.take_length] at hrw hsp
    have H6 := H5.perm hp
    clear H5
    obtain ⟨tb3, rfl, -⟩ := htr'
    obtain ⟨g3, hg3, H7, hpl, hob⟩ := H6.basedR (led' := []) (List.nil_sublist _)
    have h23 := hob 23 _ (.head _) (by simp)
    have hk3 : ∀ b o, b ≠ 23 → s.heap.get? b = some o → g3.get? b = some o := fun b o hb e => hg3 _ _ (hk1 b o hb e)
    have hS := (hpl lS _ (.tail _ (.head _)) (by simp)).isList
    have hQ3 := (hpl lQ _ (.tail _ (.tail _ (.head _))) (by simp)).isList
    have hR : ∀ r ∈ rws, g3.IsList r.1 (tv r.2).toArray := fun r hr => (hpl r.1 _ (.tail _ (.tail _ (.tail _ (List.mem_append_left _ (List.mem_map.mpr ⟨r, hr, rfl⟩))))) (by simp)).isList
    clear H6 hpl hp hob hk1 hg3
    have gks : ∀ r ∈ rws, Good r.nm ∧ tot r.nm ≤ 8415 ∧ r.nm.length ≤ 13 := fun r hr => by
      have h1 : r.nm ∈ PS.map fun p => stackF (nmF p) := by rw [← hrw]; exact List.mem_map_of_mem hr
      obtain ⟨p, hp, e⟩ := List.mem_map.mp h1
      rw [← e]
      exact stk_facts (hok p hp).2.1 (hok p hp).2.2
    have hsp2 : sps.map (·.1) = (rws.map Row.nm).map fun xs => 47 :: inter [47] xs := by rw [hsp, hrw, List.map_map]; rfl
    have rwl : rws.length = PS.length := by have := congrArg List.length hrw; rwa [List.length_map, List.length_map] at this
    obtain ⟨r0, hr0⟩ : ∃ r0, rws[0]? = some r0 := ⟨_, List.getElem?_eq_getElem (by rw [rwl]; exact List.length_pos_iff.mpr hne)⟩
    have hr0m := List.mem_of_getElem? hr0
    clear hrw hsp hok hne hA hB
    have rz : ∀ r ∈ rws, r.2.length ≤ 13 := fun r hr => by
      have h1 := (gks r hr).2.2
      rwa [Row.nm, List.length_map] at h1
    walk_at "my:goc"
    rename St _ _ _ _ _ _ _ _ _ => HX
    refine commonpath_ (vs := sps) (rows := rws.map Row.nm) (St.here HX) (R.le (by decide)) HX.tk (HX.blst hQ3) hsp2 (fun xs h => ?_) ?_ (fun xs h => ?_) (by rw [List.length_map]; exact Mine.lc [PS.length, rws.length] [(1, .v 0, .n 3), (1, .v 1, .v 0)] (1, .v 1, .n 1000) rfl hlen (Nat.le_of_eq rwl)) fun s5 t5 pa qa hpa hqa hpb hqb k5 ht5 => ?_
    · obtain ⟨r, hr, rfl⟩ := List.mem_map.mp h; exact (gks r hr).1
    · intro e; rw [List.map_eq_nil_iff.mp e] at hr0m; cases hr0m
    · obtain ⟨r, hr, rfl⟩ := List.mem_map.mp h; exact Nat.le_trans (gks r hr).2.1 (by decide)
    have H8 := HX.moved k5 ht5
    clear HX
    rw [com_law (List.mem_map_of_mem (f := Row.nm) hr0m) hpa hqa hpb hqb]
    clear hpb hqb
    walk_at "my:goc"
    rename St _ _ _ _ _ _ _ _ _ => HX
    refine common_ (rws := rws) (r0 := r0) (St.here HX) (R.le (by decide)) HX.tk (HX.blst hS) (fun p hp => HX.blst (hR p hp)) hr0 (fun p hp => Nat.le_trans (rz p hp) (by decide)) (by exact Mine.lc [PS.length, rws.length] [(1, .v 0, .n 3), (1, .v 1, .v 0)] (1, .v 1, .n 1000) rfl hlen (Nat.le_of_eq rwl)) fun s6 aM qM k6 hM eM ht6 => ?_
    have H9 := HX.moved k6 ht6
    clear HX
    have tM : tot (comF r0.nm (rws.map Row.nm)) ≤ 8415 := by
      have h1 := (comF_pre (rws.map Row.nm) r0.nm).1
      obtain ⟨z, hz⟩ := h1
      have h2 := (gks r0 hr0m).2.1
      rw [← hz, tot_app] at h2; exact Mine.lc [tot (comF r0.nm (List.map Row.nm rws)), tot z] [(1, .a (.v 0) (.v 1), .n 8415)] (1, .v 0, .n 8415) rfl h2
    have iM := inter_len (comF r0.nm (rws.map Row.nm))
    have zM : tot (qM.map (·.1)) ≤ 1000000 := by rw [eM]; exact Mine.lc [tot (comF r0.nm (List.map Row.nm rws))] [(1, .v 0, .n 8415)] (1, .v 0, .n 1000000) rfl tM
    have zN : (Str.ofString "/").length + (S (inter [47] (qM.map (·.1)))).length ≤ sizeLine := by
      rw [eM, S_len]; exact Nat.le_trans (show 1 + (inter [47] (comF r0.nm (rws.map Row.nm))).length ≤ 1000000 by exact Mine.lc [tot (comF r0.nm (List.map Row.nm rws)), (inter [47] (comF r0.nm (List.map Row.nm rws))).length] [(1, .v 0, .n 8415), (1, .v 1, .v 0)] (1, .a (.n 1) (.v 1), .n 1000000) rfl tM iM) (Nat.le_of_ble_eq_true rfl)
    have c7 : (S (47 :: inter [47] (comF r0.nm (rws.map Row.nm))) != Str.ofString "/" ++ S (inter [47] (qM.map (·.1)))) = false := by
      rw [eM, slash_, S_app, S_bne]; simp
    walk_at "my:goc"
    refine For_ ?_
    walk_at "my:gow"
    rename St _ _ _ _ _ _ _ _ _ => HX
    clear zM zN c7 hM eM k6 ht6 k5 ht5 iM tM
    refine forZ_ R.hh HX hQ3 hS (by rfl) (by rfl) (fun i lo led => lo = [(Str.ofString "script", Value.ref ls), (Str.ofString "stacks", .ref lS), (Str.ofString "spots", .ref lQ)] ∧ led = []) ⟨rfl, rfl⟩ ?_ ?_
    · rintro i x y lo₁ led₁ its s7 hx hy ⟨rfl, rfl⟩ H10
      clear HX
      obtain ⟨r, hr, rfl⟩ := rowsV_get (rows := rws) (i := i) (v := y) (by simpa using hy)
      have hrm := List.mem_of_getElem? hr
      obtain ⟨b, uh, rfl, hb, -⟩ := tv_get hx
      rw [hsp2, List.getElem?_map, List.getElem?_map, hr] at hb
      obtain rfl : 47 :: inter [47] r.nm = b := Option.some.inj hb
      rw [List.nil_append] at H10
      walk_at "my:gow"
      refine For_ ?_
      walk_at "my:gow"
      rename St _ _ _ _ _ _ _ _ _ => HX
      refine forZ_ R.hh HX hQ3 hS (by rfl) (by rfl) (fun i lo led => lo = [(Str.ofString "script", Value.ref ls), (Str.ofString "stacks", .ref lS), (Str.ofString "spots", .ref lQ), (Str.ofString "here", Value.str (S (47 :: inter [47] r.nm)) uh), (Str.ofString "low", .ref r.1)] ∧ led = its) ⟨rfl, rfl⟩ ?_ ?_
      · rintro j x y lo₁ led₁ its2 s8 hx2 hy2 ⟨rfl, rfl⟩ H11
        clear HX
        obtain ⟨r2, hr2, rfl⟩ := rowsV_get (rows := rws) (i := j) (v := y) (by simpa using hy2)
        have hrm2 := List.mem_of_getElem? hr2
        obtain ⟨b, ut, rfl, hb2, -⟩ := tv_get hx2
        rw [hsp2, List.getElem?_map, List.getElem?_map, hr2] at hb2
        obtain rfl : 47 :: inter [47] r2.nm = b := Option.some.inj hb2
        obtain ⟨g1a, g1b, g1c⟩ := gks r hrm
        obtain ⟨g2a, g2b, g2c⟩ := gks r2 hrm2
        have hlow := hR r hrm
        have hhigh := hR r2 hrm2
        have zl1 := rz r hrm
        have zl2 := rz r2 hrm2
        have w1 : (tv r.2).length ≤ 1000000 := by rw [tv_len]; exact Mine.lc [r.snd.length] [(1, .v 0, .n 13)] (1, .v 0, .n 1000000) rfl zl1
        have w2 : (tv r2.2).length ≤ sizeLine := by rw [tv_len]; exact Nat.le_trans zl2 (Nat.le_of_ble_eq_true rfl)
        have hsh := shL_le r.nm r2.nm
        have nl1 : r.nm.length = r.2.length := by rw [Row.nm, List.length_map]
        have nl2 : r2.nm.length = r2.2.length := by rw [Row.nm, List.length_map]
        walk_at "my:gow"
        rename St _ _ _ _ _ _ _ _ _ => HX
        refine shared_ (St.here HX) (R.le (by decide)) HX.tk (HX.blst hlow) (HX.blst hhigh) (Nat.le_trans zl1 (by decide)) (Nat.le_trans zl2 (by decide)) fun s9 t9 k9 ht9 => ?_
        have H12 := HX.moved k9 ht9
        clear HX
        rw [show r.2.map (·.1) = r.nm from rfl, show r2.2.map (·.1) = r2.nm from rfl]
        walk_at "my:gow"
        rename St _ _ _ _ _ _ _ _ _ => HX
        refine mull_ (n := r.nm.length - shL r.nm r2.nm) HX (by walk_at "my:pl") (by rw [tv_len, ← nl1]; exact (Int.ofNat_sub (show shL r.nm r2.nm ≤ r.nm.length from Mine.lc [shL r.nm r2.nm, r.nm.length] [(1, .v 0, .v 1)] (1, .v 0, .v 1) rfl (hsh).1)).symm) (by exact Mine.lc [r.nm.length, r.nm.length - shL r.nm r2.nm] [(1, .v 0, .n 13), (1, .v 1, .v 0)] (1, .v 1, .n 1000000) rfl g1c (Nat.sub_le ( r.nm.length) ( shL r.nm r2.nm))) fun D3 s10 H13 => ?_
        clear HX
        obtain ⟨rs, hs1, hs2⟩ := rep_tv (r.nm.length - shL r.nm r2.nm) [46, 46] _
        rw [ddot_, hs1] at H13
        walk_at "my:gow"
        rename St _ _ _ _ _ _ _ _ _ => HX
        have e8 : (slicePick (tv r2.2).toArray (some ((shL r.nm r2.nm : Nat) : Int)) none none).toList = tv (r2.2.drop (shL r.nm r2.nm)) := by
          rw [slicePick_from']; simp [tv]
        rw [e8] at HX
        have rsl : rs.length ≤ 13 := by
          have := congrArg List.length hs2
          rw [List.length_map, List.length_replicate] at this; exact Mine.lc [r.nm.length, rs.length, r.nm.length - shL r.nm r2.nm] [(1, .v 0, .n 13), (1, .v 1, .v 2), (1, .v 2, .v 0)] (1, .v 1, .n 13) rfl g1c (Nat.le_of_eq this) (Nat.sub_le ( r.nm.length) ( shL r.nm r2.nm))
        have zs : rs.length + (r2.2.drop (shL r.nm r2.nm)).length ≤ sizeLine := by
          rw [List.length_drop]; exact Nat.le_trans (show _ ≤ 1000000 by exact Mine.lc [r2.snd.length, rs.length, r2.snd.length - shL r.nm r2.nm] [(1, .v 0, .n 13), (1, .v 1, .n 13), (1, .v 2, .v 0)] (1, .a (.v 1) (.v 2), .n 1000000) rfl zl2 rsl (Nat.sub_le ( r2.snd.length) ( shL r.nm r2.nm))) (Nat.le_of_ble_eq_true rfl)
        refine addTT_ HX (by walk_at "my:pl") (by walk_at "my:pl") zs fun D5 s11 H14 => ?_
        have H15 := H14.drop (led' := (D5, .lst (tv (rs ++ r2.2.drop (shL r.nm r2.nm)))) :: (led₁ ++ its2)) (.cons_cons _ (.cons _ (.cons _ (.cons _ (.refl _)))))
        clear HX H14
        have es : (rs ++ r2.2.drop (shL r.nm r2.nm)).map (·.1) = List.replicate (r.nm.length - shL r.nm r2.nm) [46, 46] ++ r2.nm.drop (shL r.nm r2.nm) := by rw [List.map_append, hs2, List.map_drop]; rfl
        generalize rs ++ r2.2.drop (shL r.nm r2.nm) = st at H15 es
        have er : relF r.nm r2.nm = if st.map (·.1) = [] then [46] else inter [47] (st.map (·.1)) := by unfold relF; simp only [es]
        have t1 := tot_rep (r.nm.length - shL r.nm r2.nm)
        have t2 := tot_drop_le (shL r.nm r2.nm) r2.nm
        have t3 : tot (st.map (·.1)) ≤ 8500 := by rw [es, tot_app]; exact Mine.lc [r.nm.length, tot r2.nm, tot (List.replicate (r.nm.length - shL r.nm r2.nm) [46, 46]), r.nm.length - shL r.nm r2.nm, tot (List.drop (shL r.nm r2.nm) r2.nm)] [(3, .v 0, .n 13), (1, .v 1, .n 8415), (1, .v 2, .m 3 (.v 3)), (1, .v 4, .v 1), (3, .v 3, .v 0)] (1, .a (.v 2) (.v 4), .n 8500) rfl g1c g2b (Nat.le_of_eq t1) t2 (Nat.sub_le ( r.nm.length) ( shL r.nm r2.nm))
        have t4 := len_tot (st.map (·.1))
        rw [List.length_map] at t4
        have z1 : (tv st).length ≤ 1000000 := by rw [tv_len]; exact Mine.lc [tot (List.map (Prod.fst) st), st.length] [(1, .v 0, .n 8500), (1, .v 1, .v 0)] (1, .v 1, .n 1000000) rfl t3 t4
        have z2 : tot (st.map (·.1)) ≤ 1000000 := by exact Mine.lc [tot (List.map (Prod.fst) st)] [(1, .v 0, .n 8500)] (1, .v 0, .n 1000000) rfl t3
        have i1 := inter_len r.nm
        have i2 := inter_len r2.nm
        clear es hs1 hs2 e8 zs t1 t2 w1 w2 hlow hhigh
        walk_at "my:gow"
        rename St _ _ _ _ _ _ _ _ _ => HX
        refine relpath_ (xs := r2.nm) (ys := r.nm) (St.here HX) (R.le (by decide)) HX.tk rfl rfl g2a g1a (by rw [S_len, List.length_cons]; exact Mine.lc [tot r2.nm, (inter [47] r2.nm).length] [(1, .v 0, .n 8415), (1, .v 1, .v 0)] (1, .a (.v 1) (.n 1), .n 90000) rfl g2b i2) (by rw [S_len, List.length_cons]; exact Mine.lc [tot r.nm, (inter [47] r.nm).length] [(1, .v 0, .n 8415), (1, .v 1, .v 0)] (1, .a (.v 1) (.n 1), .n 90000) rfl g1b i1) fun s12 t12 k12 ht12 => ?_
        have H16 := HX.moved k12 ht12
        clear HX
        walk_at "my:gow"
        rename St _ _ _ _ _ _ _ _ _ => HX
        refine via1_ (fun v s13 => ∃ tw, v = Value.str (S (relF r.nm r2.nm)) tw ∧ St w mg mb s₀ g3 L [(Str.ofString "script", Value.ref ls), (Str.ofString "stacks", .ref lS), (Str.ofString "spots", .ref lQ), (Str.ofString "here", Value.str (S (47 :: inter [47] r.nm)) uh), (Str.ofString "low", .ref r.1), (Str.ofString "there", Value.str (S (47 :: inter [47] r2.nm)) ut), (Str.ofString "high", .ref r2.1), (Str.ofString "shared", .int (shL r.nm r2.nm : Nat) t9), (Str.ofString "steps", .ref D5), (Str.ofString "way", Value.str (S (relF r.nm r2.nm)) t12)] ((D5, .lst (tv st)) :: (led₁ ++ its2)) s13) ?_ ?_
        · by_cases k : st.map (·.1) = []
          · have c9 : (!(tv st).isEmpty) = false := by rw [List.map_eq_nil_iff.mp k]; rfl
            walk_at "my:go"
            exact ⟨_, by rw [er, if_pos k, dot_], by assumption⟩
          · have c9 : (!(tv st).isEmpty) = true := by
              rw [Bool.not_eq_true']; simp only [tv, List.isEmpty_eq_false_iff, ne_eq, List.map_eq_nil_iff] at k ⊢; exact k
            walk_at "my:go"
            exact ⟨_, by rw [er, if_neg k], by assumption⟩
        rintro _ s13 ⟨tw, rfl, H17⟩
        clear HX er z1 z2
        have c10 : (S (relF r.nm r2.nm) != S (relF r.nm r2.nm)) = false := by rw [S_bne]; simp
        have c11 : (S (47 :: inter [47] r2.nm) != S (47 :: inter [47] r2.nm)) = false := by rw [S_bne]; simp
        have f1 := tot_steps r.nm r2.nm
        have f2 : (relF r.nm r2.nm).length ≤ 8500 := by rw [rel_steps]; have := inter_len (stepsF r.nm r2.nm); exact Mine.lc [r.nm.length, tot r2.nm, tot (stepsF r.nm r2.nm), (inter [47] (stepsF r.nm r2.nm)).length] [(3, .v 0, .n 13), (1, .v 1, .n 8415), (1, .v 2, .a (.a (.m 3 (.v 0)) (.v 1)) (.n 2)), (1, .v 3, .v 2)] (1, .v 3, .n 8500) rfl g1c g2b f1 this
        walk_at "my:gow"
        rename St _ _ _ _ _ _ _ _ _ => HX
        rw [l_]
        refine joinp_ (x := 47 :: inter [47] r.nm) (ps := [([108], _)]) (St.here HX) (R.le (by decide)) HX.tk (by simp) (by intro q hq; rw [List.mem_singleton.mp hq]; simp) (by show (47 :: inter [47] r.nm).length + 2 ≤ _; rw [List.length_cons]; exact Mine.lc [tot r.nm, (inter [47] r.nm).length] [(1, .v 0, .n 8415), (1, .v 1, .v 0)] (1, .a (.a (.v 1) (.n 1)) (.n 2), .n 1000000) rfl g1b i1) fun s14 t14 k14 ht14 => ?_
        have H18 := HX.moved k14 ht14
        clear HX
        simp only [List.map_cons, List.map_nil, join_l g1a]
        walk_at "my:gow"
        rename St _ _ _ _ _ _ _ _ _ => HX
        refine dirname_ (h := headOf r.nm) (tl := [108]) (St.here HX) (R.le (by decide)) HX.tk rfl (by decide) (noEnd_head (fun n hn => (g1a n hn).2.2.2) fun n hn => (g1a n hn).1) (by
          have h := inter_len (r.nm ++ [[108]])
          rw [tot_app, show tot [([108] : List Nat)] = 2 from rfl] at h
          rw [← cut_step, S_len, List.length_cons]; exact Mine.lc [tot r.nm, (inter [47] (r.nm ++ [[108]])).length] [(1, .v 0, .n 8415), (1, .v 1, .a (.v 0) (.n 2))] (1, .a (.v 1) (.n 1), .n 1000000) rfl g1b h) fun s15 t15 k15 ht15 => ?_
        have H19 := HX.moved k15 ht15
        clear HX
        rw [dirF_head]
        walk_at "my:gow"
        rename St _ _ _ _ _ _ _ _ _ => HX
        refine joinp_ (x := 47 :: inter [47] r.nm) (ps := [(relF r.nm r2.nm, _)]) (St.here HX) (R.le (by decide)) HX.tk (by simp) (by intro q hq; rw [List.mem_singleton.mp hq]; exact rel_head g2a) (by show (47 :: inter [47] r.nm).length + ((relF r.nm r2.nm).length + 1) ≤ _; rw [List.length_cons]; exact Mine.lc [tot r.nm, (inter [47] r.nm).length, (relF r.nm r2.nm).length] [(1, .v 0, .n 8415), (1, .v 1, .v 0), (1, .v 2, .n 8500)] (1, .a (.a (.v 1) (.n 1)) (.a (.v 2) (.n 1)), .n 1000000) rfl g1b i1 f2) fun s16 t16 k16 ht16 => ?_
        have H20 := HX.moved k16 ht16
        clear HX
        simp only [List.map_cons, List.map_nil, follow_join g1a]
        walk_at "my:gow"
        rename St _ _ _ _ _ _ _ _ _ => HX
        refine normpath_ (r := inter [47] (r.nm ++ stepsF r.nm r2.nm)) (St.here HX) (R.le (by decide)) HX.tk rfl (follow_head g1a g2a) (by
          have h := inter_len (r.nm ++ stepsF r.nm r2.nm)
          rw [tot_app] at h
          rw [S_len, List.length_cons]; exact Mine.lc [tot r.nm, r.nm.length, tot r2.nm, tot (stepsF r.nm r2.nm), (inter [47] (r.nm ++ stepsF r.nm r2.nm)).length] [(1, .v 0, .n 8415), (3, .v 1, .n 13), (1, .v 2, .n 8415), (1, .v 3, .a (.a (.m 3 (.v 1)) (.v 2)) (.n 2)), (1, .v 4, .a (.v 0) (.v 3))] (1, .a (.v 4) (.n 1), .n 900000) rfl g1b g1c g2b f1 h) fun s17 t17 k17 ht17 => ?_
        have H21 := HX.moved k17 ht17
        clear HX
        rw [follow_norm g1a g2a]
        walk_at "my:goc"
        rename St _ _ _ _ _ _ _ _ _ => HX
        exact ⟨_, led₁, ⟨rfl, rfl⟩, St.front (r := [_, _, _, _, _]) (HX.drop (List.sublist_cons_self _ _))⟩
      · rintro lo₁ led₁ s8 ⟨rfl, rfl⟩ H11
        walk_at "my:goc"
        exact ⟨_, [], ⟨rfl, rfl⟩, St.front (r := [_, _]) H11⟩
    · rintro lo₁ led₁ s7 ⟨rfl, rfl⟩ H10
      walk_at "my:goc"
      exact hQ _ tb3 (fun b o hb e => H10.fs.keep _ _ (hk3 b o hb e)) (H10.fs.keep _ _ h23) (H10.eq_os.trans hos) (by rw [H10.eq_gens]; exact hgn)
end

end
section
section
variable {w : World} {mg mb : Str → Option Value} {h : Heap} {mean : ExcName → Option Value}
theorem top_cx (T : Top view LO mean mg mb h) (X : (KK w).In h) :
    Cx w mg mb h ∧ Cx w mg mb (hideAll h [23]) ∧ PlatReady mg (hideAll h [23]) ∧ h.get? 23 = some (tabObj #[]) ∧ isCodeTable h 23 := by
  have ht : CodeHd h 27 23 ∧ h.get? 23 = some (tabObj #[]) := tab_of (x := Str.ofString "_platform") (c := 27) (P := 23) T X rfl (by kernel_rfl)
  have hT : TabsAt [(27, 23)] h := fun q hq => by rw [List.mem_singleton.mp hq]; exact ht
  refine ⟨⟨X, topRead_of T⟩, ⟨ghost_K hT X (by kernel_rfl), ?_⟩, ⟨?_, ?_⟩, ht.2, (ht.1.tab ht.2).isCodeTable⟩
  · exact ⟨ghost_ns hT T.g, ghost_ns hT T.b, let ⟨mc, a, r⟩ := T.nolimit; ⟨mc, ghost_ns hT a, r⟩, T.builtins, T.free⟩
  · obtain ⟨o, vs, file, tf, flags, tg, inF, text, tt, e, r⟩ := ht.1
    exact ⟨o, vs, file, tf, flags, tg, inF, text, tt, ghost_get hT e (fun q => by rw [q] at r; cases r.1), r⟩
  · obtain ⟨bm, ob, a1, a2, a3, a4, r⟩ := T.bmain
    exact ⟨bm, ob, a1, a2, ghost_get hT a3 (fun q => by rw [q] at a4; cases a4), a4, r⟩
end
theorem fin_ {w : World} {mg mb : Str → Option Value} {s₀ s₁ : Shared} {fa ls : Addr} {ns : List Value} {xs : List Int} {args : List WData} {cl : Str → Option Addr}
    (T : Top view LO (ExcName.means s₀.heap) mg mb s₁.heap) (X : (KK w).In s₁.heap) (hg : s₁.gens = #[]) (hmg : mg (Str.ofString "law") = some (.ref fa)) (hl : s₁.heap.IsList ls ns.toArray) (hI : IntsAre ns xs) (hz : xs.length ≤ 1000) :
    wpAny (model PySem.Challenge.rw_in0308_01.row.prog w) callerA (call (.ref fa) [.ref ls]) (fun v s' => GoodWG PySem.Challenge.rw_in0308_01.row.claim cl (ExcName.means s₀.heap) args s₁ (.ok (.ret v)) s') (fun e s' => GoodWG PySem.Challenge.rw_in0308_01.row.claim cl (ExcName.means s₀.heap) args s₁ (.error e) s') s₁ := by
  obtain ⟨C, C', P, h23, ht⟩ := top_cx T X
  have e1 := mg_of X T.g (show nsIn (KK w) mainGlobals (Str.ofString "law") = some (some (.ref 222)) from by kernel_rfl)
  rw [e1] at hmg
  cases hmg
  refine law_ (op := tabObj #[]) C C' P h23 ⟨#[], rfl, trivial⟩ ⟨rfl, by decide, by decide⟩ (AllBare.of_eq hg) hl (fun e => ?_) (fun v hv => ?_) ?_ fun s' tb k1 k2 k3 k4 => ?_
  · obtain ⟨o, ho, hc, _⟩ := hl
    rw [e, h23] at ho
    cases ho
    cases hc
  · obtain ⟨i, hi⟩ := List.getElem?_of_mem hv
    obtain ⟨n, t, e, _⟩ := IntsAre.at hI i v hi
    exact ⟨n, t, e⟩
  · have := IntsAre.length hI; omega
  · refine ⟨.inl ⟨.bool true, .bool true, [], rfl, fun _ => rfl, .bool true, postW_of (X := true) (by rfl) (by wtm_val) rfl, fun _ => ⟨.nil, fun _ h => nomatch h⟩⟩, ⟨fun b o e => ?_, fun b o e => ?_⟩, k3, k4⟩
    · by_cases hb : b = 23
      · subst hb
        rw [h23] at e; cases e
        exact .inr (.inl ⟨ht, rfl, #[], tb, rfl, by rw [k2]; simp⟩)
      · exact .inl (k1 b o hb e)
    · by_cases hb : b = 23
      · exact ⟨_, hb ▸ k2⟩
      · exact ⟨o, k1 b o hb e⟩
theorem lawD_name : lawD.name = Str.ofString "law" := by kernel_rfl!
end
end Mine
end
section
open PySem PySem.W PySem.Calls PyProof.Rows
set_option maxRecDepth 100000 in
set_option maxHeartbeats 8000000 in
theorem PySem.Challenge.cw_in0308_01_holds : PySem.Challenge.rw_in0308_01.Holds := by
  refine Mine.hdw ?_
  intro w s₀ s₁ mg mb G Y fa o pm cd doc dV kV ho hd hcd hD hmg hg args vals as hpre hlay hrd hwl hlo
  have KX : (Mine.KK w).In s₁.heap := Y
  refine Ground.open G ?_
  intro T B D TE TW
  clear G Y ho hd hcd hD
  rw [Mine.lawD_name] at hmg
  wrow_args hpre hlay hrd hwl hlo
  rename s₁.heap.IsList _ _ => hl
  rename IntsAre _ _ => hI
  refine Mine.fin_ T KX hg hmg hl hI (by omega)
end
