import PyProof.Rows.All
import Wide.All
import OpenK.AllK
import Wide.FinOn
import Lean
import PySem.Challenge.RW_us0008_02
set_option Elab.async false
set_option compiler.extract_closed false
set_option maxRecDepth 100000
set_option maxHeartbeats 8000000
set_option linter.unusedVariables false
set_option linter.unusedSimpArgs false
section
open PySem PySem.W PyProof.Rows
namespace Mine
abbrev pw : Program := PySem.Challenge.pw_us0008_02
def bodyAt (i : Nat) : List Stmt := match pw.main.body[i]? with
  | some (.FunctionDef _ _ b _ _ _ _ _ _ _) => b
  | _ => []
def parsAt (i : Nat) : Arguments := match pw.main.body[i]? with
  | some (.FunctionDef _ a _ _ _ _ _ _ _ _) => a
  | _ => ⟨[], [], none, [], [], none, []⟩
def scopeAt (i : Nat) : Scope := match pw.main.body[i]? with
  | some (.FunctionDef _ _ _ _ _ _ s _ _ _) => s
  | _ => default
def en (P : Params) (x : Str) (t : Tok) (v : Value) : DictEntry := ⟨PyData.keyHash P x, .str x t, v⟩
def tpO (vs : Array Value) : Obj := { cls := .type "tuple", data := .seq vs }
def cdO (vs : Array Value) : Obj := { cls := .type "code", data := .fields vs }
def fnO (i : Nat) (n : Str) (md : Value) (c : Addr) : Obj :=
  { cls := .type "function", data := .func { name := n, qualname := n, params := parsAt i, body := .stmts (bodyAt i), scope := scopeAt i, globals := 3, closure := [], defaults := .none, kwdefaults := .none, pyModule := md, code := .ref c } }
noncomputable def topHeap (P : Params) : Frag := [
  (2, ⟨.none, none, .dict #[] 0, #[]⟩),
  (3, ⟨.type "dict", none, .dict #[en P "__name__" 165 (.str "law_us0008_02" 343), en P "__doc__" 166 .none, en P "__package__" 167 .none, en P "__loader__" 168 (.builtin "__main__.__loader__#opaque"), en P "__spec__" 169 .none, en P "__annotations__" 170 (.ref 6), en P "__builtins__" 171 (.ref 4), en P "__file__" 173 (.str "/claim/cut.py" 172), en P "__cached__" 174 .none, en P "ENDMARKER" 190 (.int 0 189), en P "NT_OFFSET" 192 (.int 256 191), en P "ISTERMINAL" 199 (.ref 21), en P "ISNONTERMINAL" 206 (.ref 28), en P "ISEOF" 213 (.ref 35), en P "_DIV_LIMIT" 217 (.int 4000 216), en P "_div2n1n" 234 (.ref 42), en P "_div3n2n" 248 (.ref 49), en P "_int2digits" 259 (.ref 56), en P "_digits2int" 270 (.ref 63), en P "_divmod_pos" 285 (.ref 70), en P "int_divmod" 295 (.ref 77), en P "_parse_varint" 306 (.ref 84), en P "_MAX_STRING_SIZE" 310 (.int 40 309), en P "_MOVE_COST" 312 (.int 2 311), en P "_CASE_COST" 314 (.int 1 313), en P "_substitution_cost" 322 (.ref 91), en P "_levenshtein_distance" 342 (.ref 98), en P "_law_row" 350 (.ref 103), en P "_law_octets" 359 (.ref 110), en P "_law_read" 368 (.ref 117), en P "_law_end" 377 (.ref 124), en P "_law_digits" 383 (.ref 129), en P "_law_word" 389 (.ref 134), en P "_law_above" 395 (.ref 139), en P "law" 401 (.ref 144)] 35, #[]⟩),
  (15, tpO #[]),
  (17, tpO #[.str "x" 196]),
  (18, tpO #[]),
  (20, cdO #[.str "ISTERMINAL" 193, .str "ISTERMINAL" 194, .str "/claim/cut.py" 195, .int 4 0, .int 1 0, .int 0 0, .int 0 0, .int 3 0, .ref 15, .bool true, .int 181 0, .ref 16, .none, .ref 17, .ref 18, .ref 19, .int 197 0, .int 4 0, .str "/claim/cut.py" 198]),
  (21, fnO 3 "ISTERMINAL" (.str "cpy313.token" 187) 20),
  (22, tpO #[]),
  (24, tpO #[.str "x" 203]),
  (25, tpO #[]),
  (27, cdO #[.str "ISNONTERMINAL" 200, .str "ISNONTERMINAL" 201, .str "/claim/cut.py" 202, .int 6 0, .int 1 0, .int 0 0, .int 0 0, .int 3 0, .ref 22, .bool true, .int 181 0, .ref 23, .none, .ref 24, .ref 25, .ref 26, .int 204 0, .int 6 0, .str "/claim/cut.py" 205]),
  (28, fnO 4 "ISNONTERMINAL" (.str "cpy313.token" 187) 27),
  (29, tpO #[]),
  (31, tpO #[.str "x" 210]),
  (32, tpO #[]),
  (34, cdO #[.str "ISEOF" 207, .str "ISEOF" 208, .str "/claim/cut.py" 209, .int 8 0, .int 1 0, .int 0 0, .int 0 0, .int 3 0, .ref 29, .bool true, .int 181 0, .ref 30, .none, .ref 31, .ref 32, .ref 33, .int 211 0, .int 8 0, .str "/claim/cut.py" 212]),
  (35, fnO 5 "ISEOF" (.str "cpy313.token" 187) 34),
  (36, tpO #[]),
  (38, tpO #[.str "a" 221, .str "b" 222, .str "n" 223, .str "pad" 224, .str "half_n" 225, .str "mask" 226, .str "b1" 227, .str "b2" 228, .str "q1" 229, .str "r" 230, .str "q2" 231]),
  (39, tpO #[]),
  (41, cdO #[.str "_div2n1n" 218, .str "_div2n1n" 219, .str "/claim/cut.py" 220, .int 12 0, .int 3 0, .int 0 0, .int 0 0, .int 3 0, .ref 36, .bool true, .int 181 0, .ref 37, .none, .ref 38, .ref 39, .ref 40, .int 232 0, .int 12 0, .str "/claim/cut.py" 233]),
  (42, fnO 8 "_div2n1n" (.str "cpy313._pylong" 214) 41),
  (43, tpO #[]),
  (45, tpO #[.str "a12" 238, .str "a3" 239, .str "b" 240, .str "b1" 241, .str "b2" 242, .str "n" 243, .str "q" 244, .str "r" 245]),
  (46, tpO #[]),
  (48, cdO #[.str "_div3n2n" 235, .str "_div3n2n" 236, .str "/claim/cut.py" 237, .int 28 0, .int 6 0, .int 0 0, .int 0 0, .int 3 0, .ref 43, .bool true, .int 181 0, .ref 44, .none, .ref 45, .ref 46, .ref 47, .int 246 0, .int 28 0, .str "/claim/cut.py" 247]),
  (49, fnO 9 "_div3n2n" (.str "cpy313._pylong" 214) 48),
  (50, tpO #[]),
  (52, tpO #[.str "a" 252, .str "n" 253]),
  (53, tpO #[.str "n" 254, .str "a_digits" 255, .str "inner" 256]),
  (55, cdO #[.str "_int2digits" 249, .str "_int2digits" 250, .str "/claim/cut.py" 251, .int 38 0, .int 2 0, .int 0 0, .int 0 0, .int 3 0, .ref 50, .bool true, .int 181 0, .ref 51, .none, .ref 52, .ref 53, .ref 54, .int 257 0, .int 38 0, .str "/claim/cut.py" 258]),
  (56, fnO 10 "_int2digits" (.str "cpy313._pylong" 214) 55),
  (57, tpO #[]),
  (59, tpO #[.str "digits" 263, .str "n" 264]),
  (60, tpO #[.str "digits" 265, .str "n" 266, .str "inner" 267]),
  (62, cdO #[.str "_digits2int" 260, .str "_digits2int" 261, .str "/claim/cut.py" 262, .int 54 0, .int 2 0, .int 0 0, .int 0 0, .int 3 0, .ref 57, .bool true, .int 181 0, .ref 58, .none, .ref 59, .ref 60, .ref 61, .int 268 0, .int 54 0, .str "/claim/cut.py" 269]),
  (63, fnO 11 "_digits2int" (.str "cpy313._pylong" 214) 62),
  (64, tpO #[]),
  (66, tpO #[.str "a" 274, .str "b" 275, .str "n" 276, .str "a_digits" 277, .str "r" 278, .str "q_digits" 279, .str "a_digit" 280, .str "q_digit" 281, .str "q" 282]),
  (67, tpO #[]),
  (69, cdO #[.str "_divmod_pos" 271, .str "_divmod_pos" 272, .str "/claim/cut.py" 273, .int 63 0, .int 2 0, .int 0 0, .int 0 0, .int 3 0, .ref 64, .bool true, .int 181 0, .ref 65, .none, .ref 66, .ref 67, .ref 68, .int 283 0, .int 63 0, .str "/claim/cut.py" 284]),
  (70, fnO 12 "_divmod_pos" (.str "cpy313._pylong" 214) 69),
  (71, tpO #[]),
  (73, tpO #[.str "a" 289, .str "b" 290, .str "q" 291, .str "r" 292]),
  (74, tpO #[]),
  (76, cdO #[.str "int_divmod" 286, .str "int_divmod" 287, .str "/claim/cut.py" 288, .int 74 0, .int 2 0, .int 0 0, .int 0 0, .int 3 0, .ref 71, .bool true, .int 181 0, .ref 72, .none, .ref 73, .ref 74, .ref 75, .int 293 0, .int 74 0, .str "/claim/cut.py" 294]),
  (77, fnO 13 "int_divmod" (.str "cpy313._pylong" 214) 76),
  (78, tpO #[]),
  (80, tpO #[.str "iterator" 301, .str "b" 302, .str "val" 303]),
  (81, tpO #[]),
  (83, cdO #[.str "_parse_varint" 298, .str "_parse_varint" 299, .str "/claim/cut.py" 300, .int 86 0, .int 1 0, .int 0 0, .int 0 0, .int 3 0, .ref 78, .bool true, .int 181 0, .ref 79, .none, .ref 80, .ref 81, .ref 82, .int 304 0, .int 86 0, .str "/claim/cut.py" 305]),
  (84, fnO 15 "_parse_varint" (.str "cpy313.dis" 296) 83),
  (85, tpO #[]),
  (87, tpO #[.str "ch_a" 318, .str "ch_b" 319]),
  (88, tpO #[]),
  (90, cdO #[.str "_substitution_cost" 315, .str "_substitution_cost" 316, .str "/claim/cut.py" 317, .int 98 0, .int 2 0, .int 0 0, .int 0 0, .int 3 0, .ref 85, .bool true, .int 181 0, .ref 86, .none, .ref 87, .ref 88, .ref 89, .int 320 0, .int 98 0, .str "/claim/cut.py" 321]),
  (91, fnO 20 "_substitution_cost" (.str "cpy313.traceback" 307) 90),
  (92, tpO #[]),
  (94, tpO #[.str "a" 326, .str "b" 327, .str "max_cost" 328, .str "pre" 329, .str "post" 330, .str "row" 331, .str "result" 332, .str "bindex" 333, .str "bchar" 334, .str "distance" 335, .str "minimum" 336, .str "index" 337, .str "substitute" 338, .str "insert_delete" 339]),
  (95, tpO #[]),
  (97, cdO #[.str "_levenshtein_distance" 323, .str "_levenshtein_distance" 324, .str "/claim/cut.py" 325, .int 104 0, .int 3 0, .int 0 0, .int 0 0, .int 3 0, .ref 92, .bool true, .int 181 0, .ref 93, .none, .ref 94, .ref 95, .ref 96, .int 340 0, .int 104 0, .str "/claim/cut.py" 341]),
  (98, fnO 21 "_levenshtein_distance" (.str "cpy313.traceback" 307) 97),
  (99, tpO #[]),
  (102, cdO #[.str "_law_row" 345, .str "_law_row" 346, .str "/claim/cut.py" 347, .int 143 0, .int 3 0, .int 0 0, .int 0 0, .int 3 0, .ref 99, .bool true, .int 181 0, .ref 100, .none, .none, .none, .ref 101, .int 348 0, .int 143 0, .str "/claim/cut.py" 349]),
  (103, fnO 23 "_law_row" (.str "law_us0008_02" 343) 102),
  (104, tpO #[]),
  (106, tpO #[.str "row" 354, .str "octets" 355, .str "number" 356]),
  (107, tpO #[]),
  (109, cdO #[.str "_law_octets" 351, .str "_law_octets" 352, .str "/claim/cut.py" 353, .int 148 0, .int 1 0, .int 0 0, .int 0 0, .int 3 0, .ref 104, .bool true, .int 181 0, .ref 105, .none, .ref 106, .ref 107, .ref 108, .int 357 0, .int 148 0, .str "/claim/cut.py" 358]),
  (110, fnO 24 "_law_octets" (.str "law_us0008_02" 343) 109),
  (111, tpO #[]),
  (113, tpO #[.str "iterator" 363, .str "row" 364, .str "number" 365]),
  (114, tpO #[]),
  (116, cdO #[.str "_law_read" 360, .str "_law_read" 361, .str "/claim/cut.py" 362, .int 155 0, .int 1 0, .int 0 0, .int 0 0, .int 3 0, .ref 111, .bool true, .int 181 0, .ref 112, .none, .ref 113, .ref 114, .ref 115, .int 366 0, .int 155 0, .str "/claim/cut.py" 367]),
  (117, fnO 25 "_law_read" (.str "law_us0008_02" 343) 116),
  (118, tpO #[]),
  (120, tpO #[.str "row" 372, .str "place" 373, .str "awaited" 374]),
  (121, tpO #[]),
  (123, cdO #[.str "_law_end" 369, .str "_law_end" 370, .str "/claim/cut.py" 371, .int 162 0, .int 2 0, .int 0 0, .int 0 0, .int 3 0, .ref 118, .bool true, .int 181 0, .ref 119, .none, .ref 120, .ref 121, .ref 122, .int 375 0, .int 162 0, .str "/claim/cut.py" 376]),
  (124, fnO 26 "_law_end" (.str "law_us0008_02" 343) 123),
  (125, tpO #[]),
  (128, cdO #[.str "_law_digits" 378, .str "_law_digits" 379, .str "/claim/cut.py" 380, .int 168 0, .int 1 0, .int 0 0, .int 0 0, .int 3 0, .ref 125, .bool true, .int 181 0, .ref 126, .none, .none, .none, .ref 127, .int 381 0, .int 168 0, .str "/claim/cut.py" 382]),
  (129, fnO 27 "_law_digits" (.str "law_us0008_02" 343) 128),
  (130, tpO #[]),
  (133, cdO #[.str "_law_word" 384, .str "_law_word" 385, .str "/claim/cut.py" 386, .int 170 0, .int 2 0, .int 0 0, .int 0 0, .int 3 0, .ref 130, .bool true, .int 181 0, .ref 131, .none, .none, .none, .ref 132, .int 387 0, .int 170 0, .str "/claim/cut.py" 388]),
  (134, fnO 28 "_law_word" (.str "law_us0008_02" 343) 133),
  (135, tpO #[]),
  (138, cdO #[.str "_law_above" 390, .str "_law_above" 391, .str "/claim/cut.py" 392, .int 172 0, .int 2 0, .int 0 0, .int 0 0, .int 3 0, .ref 135, .bool true, .int 181 0, .ref 136, .none, .none, .none, .ref 137, .int 393 0, .int 172 0, .str "/claim/cut.py" 394]),
  (139, fnO 29 "_law_above" (.str "law_us0008_02" 343) 138),
  (140, tpO #[]),
  (143, cdO #[.str "law" 396, .str "law" 397, .str "/claim/cut.py" 398, .int 175 0, .int 1 0, .int 0 0, .int 0 0, .int 3 0, .ref 140, .bool true, .int 181 0, .ref 141, .none, .none, .none, .ref 142, .int 399 0, .int 175 0, .str "/claim/cut.py" 400]),
  (144, fnO 30 "law" (.str "law_us0008_02" 343) 143)]
def topAs : List Addr := [2, 3, 15, 17, 18, 20, 21, 22, 24, 25, 27, 28, 29, 31, 32, 34, 35, 36, 38, 39, 41, 42, 43, 45, 46, 48, 49, 50, 52, 53, 55, 56, 57, 59, 60, 62, 63, 64, 66, 67, 69, 70, 71, 73, 74, 76, 77, 78, 80, 81, 83, 84, 85, 87, 88, 90, 91, 92, 94, 95, 97, 98, 99, 102, 103, 104, 106, 107, 109, 110, 111, 113, 114, 116, 117, 118, 120, 121, 123, 124, 125, 128, 129, 130, 133, 134, 135, 138, 139, 140, 143, 144]
theorem topAs_eq (P : Params) : topAs = (topHeap P).map (·.1) := rfl
noncomputable abbrev HK : Hook := kmHook topHeap topAs topAs_eq [58, 51]
def view : Program := { pw with main := { pw.main with body := [1, 2, 3, 4, 5, 7, 8, 9, 10, 11, 12, 13, 15, 17, 18, 19, 20, 21, 23, 24, 25, 26, 27, 28, 29, 30].filterMap fun i => pw.main.body[i]? } }
theorem ws : PySem.Challenge.rw_us0008_02.wellSaid = true := by decide +kernel
theorem topRun : LeftO PySem.Challenge.rw_us0008_02.row.prog view [] (fun s => xlAt view [] s && recOk (RowW.records PySem.Challenge.rw_us0008_02.row.toRowW) s) (Hook.obs HK) (Hook.val HK) 1570 := by
  intro w
  kernel_rfl
def lawPos : Pos := match pw.main.body[(30 : Nat)]? with
  | some (.FunctionDef _ _ _ _ _ _ _ _ _ p) => p
  | _ => default
abbrev lawRec : DefRec := ⟨"law", parsAt 30, bodyAt 30, scopeAt 30, lawPos⟩
theorem hd (call : WalkO view [] (XL view []) (Hook.says HK) PySem.Challenge.rw_us0008_02.row.toRowW lawRec [] fun f vs => PySem.call f vs) : PySem.Challenge.rw_us0008_02.Holds :=
  holds_law ws fun said => holds_open (q := view) (loose := []) (Xt := fun s => xlAt view [] s && recOk (RowW.records PySem.Challenge.rw_us0008_02.row.toRowW) s) (XP := XL view []) (Yf := Hook.obs HK) (Ya := Hook.val HK) (YP := Hook.says HK) (N := 1570) topRun (Hook.of HK) (Hook.keeps HK)
    (fun s e => xl_of s (Bool.and_eq_true_iff.mp e).1) XL.keeps (by kernel_rfl) (by kernel_rfl) (by kernel_rfl) (fun s e => recFacts_of (Bool.and_eq_true_iff.mp e).2) (by rfl) said (by decide +kernel) ⟨rfl, rfl, rfl, rfl, rfl, by decide +kernel⟩ ⟨[.list []], by decide +kernel, by decide +kernel⟩ call
end Mine

end
open PySem PySem.W PySem.Calls PyProof.Rows
namespace Mine

abbrev OP := Obj → Prop

structure Cn where
  prog : Program
  w : World
  K : Frag
  B : Heap
  Z : List Addr
  TI : Heap → Prop
  tabs : List (Addr × Addr)
  mg : Str → Option Value
  mb : Str → Option Value

structure Cn.Ok (C : Cn) : Prop where
  ki : C.K.In C.B
  ns : C.B.Ns mainGlobals C.mg
  nb : C.B.Ns builtinsNs C.mb
  blt : ∀ x : Str, x ≠ ("__name__" : Str) → C.mb x = bootBuiltins x
  nolimit : C.B.NoLimit
  bm : ∃ bm ob, C.mg "__builtins__" = some (.ref bm) ∧ bm ≠ builtinsNs ∧ C.B.get? bm = some ob ∧ ob.cls = .type "module" ∧ ob.dict = some builtinsNs ∧ ob.data = .plain
  ct : ∀ p ∈ C.tabs, CodeHd C.B p.1 p.2
  hide : ∀ z ∈ C.Z, C.B.get? z = none
  tiZ : ∀ h, C.TI h → ∀ z ∈ C.Z, ∃ o, h.get? z = some o
  tiKeep : ∀ h h', (∀ b o vs x t, b ∉ C.Z → h.get? b = some o → o.data = .fields vs → vs[1]? = some (.str x t) → h'.get? b = some o) →
    (∀ z ∈ C.Z, h'.get? z = h.get? z) → C.TI h → C.TI h'

abbrev S (c : Shared) (h : Heap) (tk : Nat) : Shared := ⟨h, c.gens, c.drawn, tk, c.os⟩

def At (C : Cn) (h : Heap) (l : Addr) (P : OP) : Prop := l ∉ C.Z ∧ ∃ o, h.get? l = some o ∧ P o

def Hp (C : Cn) (h : Heap) : Prop := (∀ b o, C.B.get? b = some o → h.get? b = some o) ∧ C.TI h

structure Kp (C : Cn) (X : List Addr) (h h' : Heap) : Prop where
  keep : ∀ b o, b ∉ C.Z → b ∉ X → h.get? b = some o → h'.get? b = some o
  hp : Hp C h'

def Mut (o : Obj) : Prop := ∀ vs x t, o.data = .fields vs → vs[1]? ≠ some (.str x t)

abbrev Led := List (Addr × OP)

structure In (C : Cn) (X : List Addr) (base h : Heap) (n : Led) : Prop where
  keep : ∀ b o, b ∉ C.Z → b ∉ X → base.get? b = some o → h.get? b = some o
  hp : Hp C h
  ent : ∀ p ∈ n, (∃ o, h.get? p.1 = some o ∧ p.2 o ∧ ((C.B.get? p.1 = none ∧ (base.get? p.1 = none ∨ p.1 ∈ X)) ∨ ¬ Mut o)) ∧ p.1 ∉ C.Z
  nodup : (n.map (·.1)).Nodup

variable {C : Cn} {X : List Addr} {base h h' h'' : Heap} {n : Led} {l d : Addr} {P P' : OP} {i : Nat}

theorem Hp.fresh (H : Hp C h) (ok : C.Ok) {a : Addr} (ha : h.objs.size ≤ a) : a ∉ C.Z ∧ C.B.get? a = none := by
  constructor
  · intro hz
    obtain ⟨o, e⟩ := ok.tiZ h H.2 a hz
    exact absurd (Heap.lt_size e) (Nat.not_lt.mpr ha)
  · cases e : C.B.get? a with
    | none => rfl
    | some o => exact absurd (Heap.lt_size (H.1 a o e)) (Nat.not_lt.mpr ha)

theorem get?_none_of_size {a : Addr} (ha : h.objs.size ≤ a) : h.get? a = none := by
  cases e : h.get? a with
  | none => rfl
  | some o => exact absurd (Heap.lt_size e) (Nat.not_lt.mpr ha)

theorem In.at (H : In C X base h n) (hm : (l, P) ∈ n) : At C h l P := let ⟨⟨o, e, p, _⟩, z⟩ := H.ent _ hm; ⟨z, o, e, p⟩
theorem In.own (H : In C X base h n) (hm : (l, P) ∈ n) (hM : ∀ o, P o → Mut o) : (∃ o, h.get? l = some o ∧ P o) ∧ l ∉ C.Z ∧ C.B.get? l = none ∧ (base.get? l = none ∨ l ∈ X) :=
  let ⟨⟨o, e, p, q⟩, z⟩ := H.ent _ hm; ⟨⟨o, e, p⟩, z, (q.resolve_right (not_not_intro (hM o p))).1, (q.resolve_right (not_not_intro (hM o p))).2⟩
theorem In.of (H : In C X base h n) (x : At C base l P) (hX : l ∉ X) : At C h l P :=
  let ⟨hz, o, e, p⟩ := x; ⟨hz, o, H.keep l o hz hX e, p⟩
theorem In.of0 (H : In C [] base h n) (x : At C base l P) : At C h l P := H.of x List.not_mem_nil
theorem In.kp (H : In C X base h n) : Kp C X base h := ⟨H.keep, H.hp⟩
theorem At.mono (x : At C h l P) (k : ∀ o, P o → P' o) : At C h l P' := let ⟨hz, o, e, p⟩ := x; ⟨hz, o, e, k o p⟩
theorem In.drop {n' : Led} (H : In C X base h n) (hs : n'.Sublist n) : In C X base h n' :=
  ⟨H.keep, H.hp, fun p hp => H.ent p (hs.subset hp), H.nodup.sublist (hs.map _)⟩
theorem In.weak1 (H : In C X base h ((l, P) :: n)) (k : ∀ o, P o → P' o) : In C X base h ((l, P') :: n) :=
  ⟨H.keep, H.hp, fun p hp => by
    rcases List.mem_cons.mp hp with rfl | hp
    · obtain ⟨⟨o, e, q, w⟩, r⟩ := H.ent (l, P) (.head _)
      exact ⟨⟨o, e, k o q, w⟩, r⟩
    · exact H.ent p (.tail _ hp), H.nodup⟩

theorem In.call (H : In C X base h n) (K : Kp C [] h h') : In C X base h' n :=
  ⟨fun b o hz hx e => K.keep b o hz List.not_mem_nil (H.keep b o hz hx e), K.hp, fun p hp => by
    obtain ⟨⟨o, e, q⟩, z⟩ := H.ent p hp
    exact ⟨⟨o, K.keep _ _ z List.not_mem_nil e, q⟩, z⟩, H.nodup⟩
theorem In.gain (H : In C X base h n) (H' : In C X base h' n) (hn : h.get? l = none) (x : At C h' l P) : In C X base h' ((l, P) :: n) := by
  refine ⟨H'.keep, H'.hp, fun p hp => ?_, ?_⟩
  · rcases List.mem_cons.mp hp with rfl | hp
    · obtain ⟨xz, o, xe, xp⟩ := x
      refine ⟨⟨o, xe, xp, .inl ⟨?_, ?_⟩⟩, xz⟩
      · cases e : C.B.get? l with
        | none => rfl
        | some o => rw [H.hp.1 _ _ e] at hn; cases hn
      · cases e : base.get? l with
        | none => exact .inl rfl
        | some o =>
          by_cases hx : l ∈ X
          · exact .inr hx
          · rw [H.keep l o xz hx e] at hn; cases hn
    · exact H'.ent p hp
  · refine List.nodup_cons.mpr ⟨fun hm => ?_, H.nodup⟩
    obtain ⟨p, hp, e⟩ := List.mem_map.mp hm
    obtain ⟨⟨o, ho, _⟩, _⟩ := H.ent p hp
    rw [e, hn] at ho; cases ho

theorem In.noB (H : Hp C h) (hn : h.get? l = none) : C.B.get? l = none := by
  cases e : C.B.get? l with
  | none => rfl
  | some o => rw [H.1 l o e] at hn; cases hn
theorem In.gain' (H : In C X h h' n) (hn : h.get? l = none) (x : At C h' l P) (hf : l ∉ n.map (·.1)) (hB : C.B.get? l = none) : In C X h h' ((l, P) :: n) :=
  ⟨H.keep, H.hp, fun p hp => by
    rcases List.mem_cons.mp hp with rfl | hp
    · obtain ⟨xz, o, xe, xp⟩ := x
      exact ⟨⟨o, xe, xp, .inl ⟨hB, .inl hn⟩⟩, xz⟩
    · exact H.ent p hp, List.nodup_cons.mpr ⟨hf, H.nodup⟩⟩
theorem nodup_inj {α : Type} {l : List α} {i j : Nat} {x : α} (hn : l.Nodup) (hi : l[i]? = some x) (hj : l[j]? = some x) : i = j := by
  induction l generalizing i j with
  | nil => simp at hi
  | cons a r ih =>
    obtain ⟨h1, h2⟩ := List.nodup_cons.mp hn
    cases i with
    | zero =>
      cases j with
      | zero => rfl
      | succ j =>
        simp only [List.getElem?_cons_zero, Option.some.injEq, List.getElem?_cons_succ] at hi hj
        subst hi
        exact absurd (List.mem_of_getElem? hj) h1
    | succ i =>
      cases j with
      | zero =>
        simp only [List.getElem?_cons_zero, Option.some.injEq, List.getElem?_cons_succ] at hi hj
        subst hj
        exact absurd (List.mem_of_getElem? hi) h1
      | succ j =>
        simp only [List.getElem?_cons_succ] at hi hj
        rw [ih h2 hi hj]
theorem mem_set_cases {α : Type} {n : List α} {i : Nat} {a p : α} (hp : p ∈ n.set i a) : p = a ∨ ∃ j, j ≠ i ∧ n[j]? = some p := by
  obtain ⟨j, hj⟩ := List.getElem?_of_mem hp
  rw [List.getElem?_set] at hj
  by_cases e : i = j
  · rw [if_pos e] at hj
    split at hj
    · exact .inl (Option.some.inj hj).symm
    · cases hj
  · rw [if_neg e] at hj
    exact .inr ⟨j, fun q => e q.symm, hj⟩

theorem nodup_ne {n : Led} {i j : Nat} {p q : Addr × OP} (hn : (n.map (·.1)).Nodup) (hi : n[i]? = some p) (hj : n[j]? = some q) (hij : j ≠ i) : q.1 ≠ p.1 := by
  intro e
  have h1 : (n.map (·.1))[i]? = some p.1 := by rw [List.getElem?_map, hi]; rfl
  have h2 : (n.map (·.1))[j]? = some p.1 := by rw [List.getElem?_map, hj, ← e]; rfl
  exact hij (nodup_inj hn h2 h1)

theorem map_set_fst {n : Led} {i : Nat} {d : Addr} {P P' : OP} (hi : n[i]? = some (d, P)) : (n.set i (d, P')).map (·.1) = n.map (·.1) := by
  rw [List.map_set]
  apply List.ext_getElem?
  intro j
  rw [List.getElem?_set]
  by_cases e : i = j
  · subst e
    obtain ⟨l1, e1⟩ := List.getElem?_eq_some_iff.mp hi
    rw [if_pos rfl, List.getElem?_map, hi, if_pos (by rw [List.length_map]; exact l1)]
    rfl
  · rw [if_neg e]

theorem In.callX (H : In C X base h n) (hi : n[i]? = some (d, P)) (hM : ∀ o, P o → Mut o) (K : Kp C [d] h h') (x : At C h' d P') : In C X base h' (n.set i (d, P')) := by
  have he := H.own (List.mem_of_getElem? hi) hM
  refine ⟨fun b o hz hx e => ?_, K.hp, fun p hp => ?_, by rw [map_set_fst hi]; exact H.nodup⟩
  · refine K.keep b o hz (fun hm => ?_) (H.keep b o hz hx e)
    have hb := List.mem_singleton.mp hm
    subst hb
    rcases he.2.2.2 with q | q
    · rw [show base.get? b = none from q] at e; cases e
    · exact hx q
  · rcases mem_set_cases hp with rfl | ⟨j, hj, e⟩
    · obtain ⟨o, e, q⟩ := x.2
      exact ⟨⟨o, e, q, .inl he.2.2⟩, x.1⟩
    · obtain ⟨⟨o, ho, q⟩, z⟩ := H.ent p (List.mem_of_getElem? e)
      exact ⟨⟨o, K.keep _ _ z (fun hm => nodup_ne H.nodup hi e hj (List.mem_singleton.mp hm)) ho, q⟩, z⟩

theorem In.upd (ok : C.Ok) (H : In C X base h n) (hi : n[i]? = some (d, P)) (hm : ∀ o, P o → Mut o) (hs : Heap.SameBut d h h') (x : ∃ o, h'.get? d = some o ∧ P' o) : In C X base h' (n.set i (d, P')) := by
  have he := H.own (List.mem_of_getElem? hi) hm
  obtain ⟨⟨o, ho, po⟩, hz, hB, _⟩ := id he
  refine H.callX hi hm ⟨fun b o hz hx e => hs.extBut b o (fun q => hx (List.mem_singleton.mpr q)) e, ?_, ?_⟩ ⟨hz, x⟩
  · intro b ob e
    refine hs.extBut b ob (fun q => ?_) (H.hp.1 b ob e)
    subst q
    rw [show C.B.get? b = none from hB] at e; cases e
  · refine ok.tiKeep h h' (fun b ob vs y t _ e e1 e2 => hs.extBut b ob (fun q => ?_) e) (fun z hz' => (hs.2 z fun q => hz (q ▸ hz')) ) H.hp.2
    subst q
    have : ob = o := by rw [show h.get? b = some o from ho] at e; exact (Option.some.inj e).symm
    subst this
    exact hm _ po vs y t e1 e2

theorem In.ext (ok : C.Ok) (H : In C X base h ((d, P) :: n)) (hm : ∀ o, P o → Mut o) (hs : Heap.ExtBut d h h') : In C X base h' n := by
  obtain ⟨⟨o, ho, po⟩, hz, hB, hb⟩ := H.own (l := d) (P := P) (.head _) hm
  refine ⟨fun b ob z x e => ?_, ⟨fun b ob e => hs b ob (fun q => ?_) (H.hp.1 b ob e), ok.tiKeep h h' (fun b ob vs y t _ e e1 e2 => hs b ob (fun q => ?_) e) (fun z zm => ?_) H.hp.2⟩, fun p hp => ?_, (List.nodup_cons.mp H.nodup).2⟩
  · refine hs b ob (fun q => ?_) (H.keep b ob z x e)
    subst q
    rcases hb with q | q
    · rw [show base.get? b = none from q] at e; cases e
    · exact x q
  · subst q
    rw [show C.B.get? b = none from hB] at e; cases e
  · subst q
    rw [show h.get? b = some o from ho] at e; cases e
    exact hm _ po vs y t e1 e2
  · obtain ⟨oz, e⟩ := ok.tiZ h H.hp.2 z zm
    rw [e]
    exact hs z oz (fun q => hz (q ▸ zm)) e
  · obtain ⟨⟨o', e, q⟩, r⟩ := H.ent p (.tail _ hp)
    refine ⟨⟨o', hs _ _ (fun q => ?_) e, q⟩, r⟩
    exact (List.nodup_cons.mp H.nodup).1 (List.mem_map.mpr ⟨p, hp, q⟩)

theorem Hp.push (ok : C.Ok) (H : Hp C h) (o : Obj) : Hp C (h.push o) :=
  ⟨fun b ob e => Heap.get?_push_of_some _ (H.1 b ob e), ok.tiKeep h _ (fun b ob _ _ _ _ e _ _ => Heap.get?_push_of_some _ e) (fun z hz => by
    obtain ⟨oz, e⟩ := ok.tiZ h H.2 z hz
    rw [e]; exact Heap.get?_push_of_some _ e) H.2⟩
theorem Kp.push (ok : C.Ok) (H : Hp C h) (o : Obj) : Kp C X h (h.push o) := ⟨fun _ _ _ _ e => Heap.get?_push_of_some _ e, H.push ok o⟩

theorem In.new (ok : C.Ok) (H : In C X base h n) {o : Obj} (hf : o.isFreed = false) (hp : P o) : In C X base (h.push o) ((h.objs.size, P) :: n) :=
  H.gain (H.call (Kp.push ok H.hp o)) (get?_none_of_size (Nat.le_refl _)) ⟨(H.hp.fresh ok (Nat.le_refl _)).1, o, Heap.get?_push_size _ hf, hp⟩
theorem Kp.ofAll (ok : C.Ok) (H : Hp C h) (k : ∀ b o, h.get? b = some o → h'.get? b = some o) : Kp C X h h' :=
  ⟨fun b o _ _ e => k b o e, fun b o e => k b o (H.1 b o e), ok.tiKeep h h' (fun b o _ _ _ _ e _ _ => k b o e) (fun z hz => by
    obtain ⟨oz, e⟩ := ok.tiZ h H.2 z hz
    rw [e]; exact k _ _ e) H.2⟩
theorem In.all (ok : C.Ok) (H : In C X base h n) (k : ∀ b o, h.get? b = some o → h'.get? b = some o) : In C X base h' n := H.call (Kp.ofAll ok H.hp k)

theorem In.enter (k : Kp C [] h h') : In C [] h h' [] := ⟨k.keep, k.hp, fun _ hp => (nomatch hp), .nil⟩

def PLoc (ks : List Str) (vs : List (Option Value)) : OP := fun o =>
  ∃ es ep, o.data = .dict es ep ∧ StrKeys es ∧ ks.Nodup ∧ ∀ (i : Nat) (x : Str) (v : Value), ks[i]? = some x → vs[i]? = some (some v) → nsFind es x = some v
def PList (vs : List Value) : OP := fun o => ∃ k, o = { cls := .type "list", data := .seq vs.toArray k }
def PInts (ns : List Int) : OP := fun o => ∃ vs, IntsAre vs ns ∧ PList vs o
def PTup (vs : List Value) : OP := fun o => ∃ k, o = { cls := .type "tuple", data := .seq vs.toArray k }
def PIter (l : Addr) (i : Nat) : OP := fun o => o.cls = .type "list_iterator" ∧ o.data = .fields #[.ref l, .int i 0]
def PCell (v : Option Value) : OP := fun o => ∃ u, o.data = .cell u ∧ ∀ x, v = some x → u = some x
def PIntsW (ns : List Int) : OP := fun o => ∃ vs, IntsAre vs ns ∧ o.cls = .type "list" ∧ ∃ k, o.data = .seq vs.toArray k

theorem At.isList {vs : List Value} (x : At C h l (PList vs)) : h.IsList l vs.toArray := by
  obtain ⟨_, o, e, k, rfl⟩ := x; exact ⟨_, e, rfl, k, rfl⟩
theorem At.plain {vs : List Value} (x : At C h l (PList vs)) : h.PlainList l vs.toArray := by
  obtain ⟨_, o, e, k, rfl⟩ := x; exact ⟨k, e⟩
theorem At.ints {ns : List Int} (x : At C h l (PInts ns)) : ∃ vs, IntsAre vs ns ∧ At C h l (PList vs) := by
  obtain ⟨z, o, e, vs, hi, p⟩ := x; exact ⟨vs, hi, z, o, e, p⟩
theorem At.intsW {ns : List Int} (x : At C h l (PIntsW ns)) : ∃ vs, IntsAre vs ns ∧ h.IsList l vs.toArray := by
  obtain ⟨z, o, e, vs, hi, hc, k, hd⟩ := x; exact ⟨vs, hi, o, e, hc, k, hd⟩
theorem At.isTup {vs : List Value} (x : At C h l (PTup vs)) : IsTup h l vs.toArray := by
  obtain ⟨_, o, e, k, rfl⟩ := x; exact ⟨_, e, rfl, k, rfl⟩
theorem At.isIter {a : Addr} {i : Nat} (x : At C h l (PIter a i)) : h.IsListIter l a i := let ⟨_, o, e, p⟩ := x; ⟨o, e, p⟩
theorem At.isCell {v : Value} (x : At C h l (PCell (some v))) : h.IsCell l (some v) := let ⟨_, o, e, _, p, q⟩ := x; ⟨o, e, by rw [p, q v rfl]⟩
theorem At.isCellE {v : Option Value} (x : At C h l (PCell v)) : ∃ u, h.IsCell l u := let ⟨_, o, e, u, p, _⟩ := x; ⟨u, o, e, p⟩
theorem At.loc {ks : List Str} {vs : List (Option Value)} (x : At C h l (PLoc ks vs)) : ∃ m, h.Ns l m ∧ ks.Nodup ∧ ∀ (i : Nat) (y : Str) (v : Value), ks[i]? = some y → vs[i]? = some (some v) → m y = some v := by
  obtain ⟨_, o, e, es, ep, hd, hk, hn, hf⟩ := x
  exact ⟨fun y => nsFind es y, ⟨o, es, ep, e, hd, hk, fun _ => rfl⟩, hn, hf⟩
theorem PList.mut {vs : List Value} : ∀ o, PList vs o → Mut o := by rintro _ ⟨k, rfl⟩ _ _ _ e; cases e
theorem PInts.mut {ns : List Int} : ∀ o, PInts ns o → Mut o := by rintro _ ⟨vs, _, k, rfl⟩ _ _ _ e; cases e
theorem PCell.mut {v : Option Value} : ∀ o, PCell v o → Mut o := by
  rintro o ⟨u, e, _⟩ _ _ _ e'
  rw [e] at e'; cases e'
theorem PIter.mut {a : Addr} {i : Nat} : ∀ o, PIter a i o → Mut o := by
  rintro o ⟨_, e⟩ vs x t e' h1
  rw [e] at e'; cases e'
  simp at h1
theorem PLoc.mut {ks : List Str} {vs : List (Option Value)} : ∀ o, PLoc ks vs o → Mut o := by
  rintro o ⟨es, ep, e, _⟩ _ _ _ e'
  rw [e] at e'; cases e'

theorem PLoc.set {ks : List Str} {vs : List (Option Value)} {i : Nat} {x : Str} {v : Value} {m : Str → Option Value} {h' : Heap} {L : Addr}
    (hm : ks.Nodup) (hv : ∀ (i : Nat) (y : Str) (v : Value), ks[i]? = some y → vs[i]? = some (some v) → m y = some v) (hn : h'.Ns L (fun y => if y = x then some v else m y)) (hx : ks[i]? = some x) :
    ∃ o, h'.get? L = some o ∧ PLoc ks (vs.set i (some v)) o := by
  obtain ⟨o, es, ep, e, hd, hk, hf⟩ := hn
  refine ⟨o, e, es, ep, hd, hk, hm, fun j y u hj hu => ?_⟩
  rw [hf]
  show (if y = x then some v else m y) = some u
  rw [List.getElem?_set] at hu
  by_cases q : i = j
  · subst q
    rw [hx] at hj; cases hj
    rw [if_pos rfl] at hu
    split at hu
    · cases hu; simp
    · cases hu
  · rw [if_neg q] at hu
    have hne : y ≠ x := by
      intro e2
      subst e2
      exact q (nodup_inj hm hx hj)
    rw [if_neg hne]
    exact hv j y u hj hu
end Mine

namespace Mine

structure Rm (A : Around) (d u : Nat) : Prop where
  hh : A.handled = none
  hd : A.depth + d < recursionLimit
  hu : A.units + u < cLine
theorem Rm.le {A : Around} {d u d' u' : Nat} (r : Rm A d u) (h1 : d' ≤ d) (h2 : u' ≤ u) : Rm A d' u' := ⟨r.hh, by have := r.hd; omega, by have := r.hu; omega⟩
theorem Rm.deeper {A : Around} {d u : Nat} (r : Rm A (d + 1) (u + 3)) (env : Env) : Rm (A.deeper env) d u :=
  ⟨r.hh, by have := r.hd; show A.depth + 1 + d < _; omega, by have := r.hu; show A.units + 3 + u < _; omega⟩
def GVal (C : Cn) (x : Str) (v : Value) : Prop := C.mg x = some v ∨ (C.mg x = none ∧ bootBuiltins x = some v ∧ x ≠ ("__name__" : Str))

structure EnvF (C : Cn) (env : Env) (L : Addr) (ks : List Str) (cs : List (Str × Addr)) (gs : List (Str × Value)) : Prop where
  kind : env.scope.kind = .function
  loc : env.locals = L
  glb : env.globals = mainGlobals
  blt : env.builtins = builtinsNs
  kl : ∀ x ∈ ks, env.kindOf x = some .local ∧ (x == ("__debug__" : Str)) = false
  kc : ∀ p ∈ cs, (env.kindOf p.1 = some .cell ∨ (env.kindOf p.1 = some .free ∧ (p.1 == ("__classdict__" : Str)) = false)) ∧ env.cells.lookup p.1 = some p.2 ∧ (p.1 == ("__debug__" : Str)) = false
  kg : ∀ p ∈ gs, env.kindOf p.1 = some .globalImplicit ∧ GVal C p.1 p.2 ∧ (p.1 == ("__debug__" : Str)) = false

inductive Lk : List Str → List (Option Value) → Str → Value → Prop
  | hit {x v ks vs} : Lk (x :: ks) (some v :: vs) x v
  | skip {x y v w ks vs} : Lk ks vs x v → Lk (y :: ks) (w :: vs) x v
theorem Lk.get {ks : List Str} {vs : List (Option Value)} {x : Str} {v : Value} (l : Lk ks vs x v) : ∃ i : Nat, ks[i]? = some x ∧ vs[i]? = some (some v) := by
  induction l with
  | hit => exact ⟨0, rfl, rfl⟩
  | skip _ ih => obtain ⟨i, a, b⟩ := ih; exact ⟨i + 1, a, b⟩
inductive Sk : List Str → List (Option Value) → Str → Value → List (Option Value) → Prop
  | hit {x v w ks vs} : Sk (x :: ks) (w :: vs) x v (some v :: vs)
  | skip {x y v w ks vs vs'} : Sk ks vs x v vs' → Sk (y :: ks) (w :: vs) x v (w :: vs')
theorem Sk.get {ks : List Str} {vs vs' : List (Option Value)} {x : Str} {v : Value} (l : Sk ks vs x v vs') : ∃ i : Nat, ks[i]? = some x ∧ vs' = vs.set i (some v) := by
  induction l with
  | hit => exact ⟨0, rfl, rfl⟩
  | skip _ ih => obtain ⟨i, a, b⟩ := ih; exact ⟨i + 1, a, by rw [b]; rfl⟩
inductive Ch : Led → Addr → OP → OP → Led → Prop
  | hit {d P P' n} : Ch ((d, P) :: n) d P P' ((d, P') :: n)
  | skip {d P P' q n n'} : Ch n d P P' n' → Ch (q :: n) d P P' (q :: n')
theorem Ch.get {n n' : Led} {d : Addr} {P P' : OP} (l : Ch n d P P' n') : ∃ i : Nat, n[i]? = some (d, P) ∧ n' = n.set i (d, P') := by
  induction l with
  | hit => exact ⟨0, rfl, rfl⟩
  | skip _ ih => obtain ⟨i, a, b⟩ := ih; exact ⟨i + 1, a, by rw [b]; rfl⟩
theorem Ch.mem {n n' : Led} {d : Addr} {P P' : OP} (l : Ch n d P P' n') : (d, P) ∈ n := let ⟨_, e, _⟩ := l.get; List.mem_of_getElem? e

section
variable {C : Cn} {A : Around} {E : Value → Shared → Prop} {c : Shared} {h : Heap} {tk : Nat} {env : Env} {L : Addr} {ks : List Str} {cs : List (Str × Addr)} {gs : List (Str × Value)} {X : List Addr} {base : Heap} {n n' : Led}

abbrev Cn.M (C : Cn) : Model := model C.prog C.w

theorem In.upd' {d : Addr} {P P' : OP} {h' : Heap} (ok : C.Ok) (H : In C X base h n) (ch : Ch n d P P' n') (hm : ∀ o, P o → Mut o) (hs : Heap.SameBut d h h') (x : ∃ o, h'.get? d = some o ∧ P' o) : In C X base h' n' := by
  obtain ⟨i, e, rfl⟩ := ch.get
  exact H.upd ok e hm hs x
theorem In.callX' {d : Addr} {P P' : OP} {h' : Heap} (H : In C X base h n) (ch : Ch n d P P' n') (hM : ∀ o, P o → Mut o) (K : Kp C [d] h h') (x : At C h' d P') : In C X base h' n' := by
  obtain ⟨i, e, rfl⟩ := ch.get
  exact H.callX e hM K x

theorem ld_local {x : Str} {v : Value} {vs : List (Option Value)} {Q : Value → Shared → Prop} (V : EnvF C env L ks cs gs) (a : At C h L (PLoc ks vs)) (l : Lk ks vs x v) (k : Q v (S c h tk)) : wpAny C.M A (loadName env x) Q E (S c h tk) := by
  obtain ⟨i, e1, e2⟩ := l.get
  obtain ⟨m, hn, _, hf⟩ := a.loc
  exact wpAny_loadName_local V.kind (V.kl _ (List.mem_of_getElem? e1)).1 (V.loc ▸ hn) (hf i x v e1 e2) k
theorem r_local {x : Str} {pos : Pos} {v : Value} {vs : List (Option Value)} {Q : Value → Shared → Prop} (V : EnvF C env L ks cs gs) (a : At C h L (PLoc ks vs)) (l : Lk ks vs x v) (k : Q v (S c h tk)) : wpAny C.M A (eval (.Name x pos) env) Q E (S c h tk) := by
  obtain ⟨i, e1, e2⟩ := l.get
  exact wpAny_Name (ld_local V a l k) (V.kl _ (List.mem_of_getElem? e1)).2
theorem ld_cell {x : Str} {v : Value} {b : Addr} {Q : Value → Shared → Prop} (V : EnvF C env L ks cs gs) (m : (x, b) ∈ cs) (a : At C h b (PCell (some v))) (k : Q v (S c h tk)) : wpAny C.M A (loadName env x) Q E (S c h tk) := by
  obtain ⟨h1, h2, h3⟩ := V.kc _ m
  rcases h1 with h1 | ⟨h1, h4⟩
  · exact wpAny_loadName_cell V.kind h1 h2 a.isCell k
  · exact wpAny_loadName_free V.kind h1 h2 a.isCell k h4
theorem r_cell {x : Str} {pos : Pos} {v : Value} {b : Addr} {Q : Value → Shared → Prop} (V : EnvF C env L ks cs gs) (m : (x, b) ∈ cs) (a : At C h b (PCell (some v))) (k : Q v (S c h tk)) : wpAny C.M A (eval (.Name x pos) env) Q E (S c h tk) :=
  wpAny_Name (ld_cell V m a k) (V.kc _ m).2.2
theorem r_glob {x : Str} {pos : Pos} {v : Value} {Q : Value → Shared → Prop} (ok : C.Ok) (V : EnvF C env L ks cs gs) (H : Hp C h) (m : (x, v) ∈ gs) (k : Q v (S c h tk)) : wpAny C.M A (eval (.Name x pos) env) Q E (S c h tk) := by
  obtain ⟨h1, h2, h3⟩ := V.kg _ m
  have hg : h.Ns env.globals C.mg := V.glb ▸ ok.ns.keeps H.1
  have hb : h.Ns env.builtins C.mb := V.blt ▸ ok.nb.keeps H.1
  refine Name_function_global V.kind h1 ?_ h3
  rcases (h2 : GVal C x v) with h2 | ⟨h2, h4, h5⟩
  · exact loadGlobal_global hg h2 k
  · exact loadGlobal_builtin hg h2 hb (Eq.trans (ok.blt x h5) h4) k

theorem st_local {x : Str} {v : Value} {vs vs' : List (Option Value)} {Q : Unit → Shared → Prop} (ok : C.Ok) (V : EnvF C env L ks cs gs) (H : In C X base h n) (s : Sk ks vs x v vs') (ch : Ch n L (PLoc ks vs) (PLoc ks vs') n')
    (k : ∀ h' tk', In C X base h' n' → Q () (S c h' tk')) : wpAny C.M A (storeName env x v) Q E (S c h tk) := by
  obtain ⟨i, e1, rfl⟩ := s.get
  have a := H.at ch.mem
  obtain ⟨m, hn, hd, hf⟩ := a.loc
  refine wpAny_storeName_local (V.kl _ (List.mem_of_getElem? e1)).1 (V.loc ▸ hn) (fun h' hn' hs => k h' _ ?_) (by rw [V.kind]; rfl)
  rw [V.loc] at hn' hs
  refine H.upd' ok ch PLoc.mut hs (PLoc.set hd hf hn' e1)

theorem st_cell {x : Str} {v : Value} {b : Addr} {v₀ : Option Value} {Q : Unit → Shared → Prop} (ok : C.Ok) (V : EnvF C env L ks cs gs) (H : In C X base h n) (m : (x, b) ∈ cs) (hcell : env.kindOf x = some .cell) (ch : Ch n b (PCell v₀) (PCell (some v)) n')
    (k : ∀ h' tk', In C X base h' n' → Q () (S c h' tk')) : wpAny C.M A (storeName env x v) Q E (S c h tk) := by
  obtain ⟨u, a⟩ := (H.at ch.mem).isCellE
  refine wpAny_storeName_cell V.kind hcell (V.kc _ m).2.1 a fun h' hc hs => k h' _ (H.upd' ok ch PCell.mut hs (by obtain ⟨o, e, d⟩ := hc; exact ⟨o, e, _, d, fun _ q => q⟩))

variable {a b : Int} {t u : Tok} {pos : Pos} {Q : Value → Shared → Prop}
theorem r_int {i : Int} {j : Nat} (k : Q (.int i tk) (S c h (tk + 1))) : wpAny C.M A (eval (.Constant (.int i) j pos) env) Q E (S c h tk) := by with_reducible exact wpAny_Constant_int k
theorem r_str {x : Str} {j : Nat} (k : Q (.str x tk) (S c h (tk + 1))) : wpAny C.M A (eval (.Constant (.str x) j pos) env) Q E (S c h tk) := by with_reducible exact Calls.Constant_str k
theorem r_bool {x : Bool} {j : Nat} (k : Q (.bool x) (S c h tk)) : wpAny C.M A (eval (.Constant (.bool x) j pos) env) Q E (S c h tk) := by with_reducible exact Constant_bool k
theorem r_none {j : Nat} (k : Q .none (S c h tk)) : wpAny C.M A (eval (.Constant .none j pos) env) Q E (S c h tk) := by with_reducible exact wpAny_Constant_none k
theorem r_add (k : Q (.int (a + b) tk) (S c h (tk + 1))) : wpAny C.M A (binaryOp .Add (.int a t) (.int b u)) Q E (S c h tk) := by with_reducible exact add_int k
theorem r_sub (k : Q (.int (a - b) tk) (S c h (tk + 1))) : wpAny C.M A (binaryOp .Sub (.int a t) (.int b u)) Q E (S c h tk) := by with_reducible exact sub_int k
theorem r_mul (hm : IntMulOk a b) (k : Q (.int (a * b) tk) (S c h (tk + 1))) : wpAny C.M A (binaryOp .Mult (.int a t) (.int b u)) Q E (S c h tk) := by with_reducible exact mul_int k hm
theorem r_fdiv (hb : b ≠ 0) (hp : Builtin.divisionGoesByPylong a b = false) (k : Q (.int (a.fdiv b) tk) (S c h (tk + 1))) : wpAny C.M A (binaryOp .FloorDiv (.int a t) (.int b u)) Q E (S c h tk) := by with_reducible exact floordiv_int hb k (.inl hp)
theorem r_mod (hb : b ≠ 0) (k : Q (.int (a.fmod b) tk) (S c h (tk + 1))) : wpAny C.M A (binaryOp .Mod (.int a t) (.int b u)) Q E (S c h tk) := by with_reducible exact mod_int' hb k
theorem r_shr (hb : 0 ≤ b) (k : Q (.int (a.fdiv (2 ^ b.toNat)) tk) (S c h (tk + 1))) : wpAny C.M A (binaryOp .RShift (.int a t) (.int b u)) Q E (S c h tk) := by with_reducible exact rshift_int hb k
theorem r_shl (hb : 0 ≤ b) (hz : (Builtin.Int.intBits a : Int) + b ≤ 2 ^ 27) (k : Q (.int (a * 2 ^ b.toNat) tk) (S c h (tk + 1))) : wpAny C.M A (binaryOp .LShift (.int a t) (.int b u)) Q E (S c h tk) := by with_reducible exact lshift_int hb hz k
theorem r_pow (hb : 0 ≤ b) (hz : (Builtin.Int.intBits a : Int) * b ≤ 2 ^ 27) (k : Q (.int (a ^ b.toNat) tk) (S c h (tk + 1))) : wpAny C.M A (binaryOp .Pow (.int a t) (.int b u)) Q E (S c h tk) := by with_reducible exact pow_int hb hz k
theorem r_and (k : Q (.int (Builtin.bitAnd a b) tk) (S c h (tk + 1))) : wpAny C.M A (binaryOp .BitAnd (.int a t) (.int b u)) Q E (S c h tk) := by with_reducible exact and_int k
theorem r_xor (k : Q (.int (Builtin.bitXor a b) tk) (S c h (tk + 1))) : wpAny C.M A (binaryOp .BitXor (.int a t) (.int b u)) Q E (S c h tk) := by with_reducible exact xor_int k
theorem r_iadd (k : Q (.int (a + b) tk) (S c h (tk + 1))) : wpAny C.M A (inplaceOp .Add (.int a t) (.int b u)) Q E (S c h tk) := by with_reducible exact iadd_int k
theorem r_isub (k : Q (.int (a - b) tk) (S c h (tk + 1))) : wpAny C.M A (inplaceOp .Sub (.int a t) (.int b u)) Q E (S c h tk) := by with_reducible exact isub_int k
theorem r_ior (k : Q (.int (Builtin.bitOr a b) tk) (S c h (tk + 1))) : wpAny C.M A (inplaceOp .BitOr (.int a t) (.int b u)) Q E (S c h tk) := by with_reducible exact ior_int k
theorem r_ishl (hb : 0 ≤ b) (hz : (Builtin.Int.intBits a : Int) + b ≤ 2 ^ 27) (k : Q (.int (a * 2 ^ b.toNat) tk) (S c h (tk + 1))) : wpAny C.M A (inplaceOp .LShift (.int a t) (.int b u)) Q E (S c h tk) := by with_reducible exact ilshift_int hb hz k
theorem r_neg (k : Q (.int (-a) tk) (S c h (tk + 1))) : wpAny C.M A (unaryOp .USub (.int a t)) Q E (S c h tk) := by with_reducible exact PyProof.Rows.neg_int k
theorem r_inv (k : Q (.int (Builtin.bitNot a) tk) (S c h (tk + 1))) : wpAny C.M A (unaryOp .Invert (.int a t)) Q E (S c h tk) := by with_reducible exact invert_int k
theorem r_lt (k : Q (.bool (decide (a < b))) (S c h tk)) : wpAny C.M A (compareOp .Lt (.int a t) (.int b u)) Q E (S c h tk) := by with_reducible exact lt_int k
theorem r_le (k : Q (.bool (decide (a ≤ b))) (S c h tk)) : wpAny C.M A (compareOp .LtE (.int a t) (.int b u)) Q E (S c h tk) := by with_reducible exact PyProof.Rows.le_int k
theorem r_gt (k : Q (.bool (decide (b < a))) (S c h tk)) : wpAny C.M A (compareOp .Gt (.int a t) (.int b u)) Q E (S c h tk) := by with_reducible exact PyProof.Rows.gt_int k
theorem r_ge (k : Q (.bool (decide (b ≤ a))) (S c h tk)) : wpAny C.M A (compareOp .GtE (.int a t) (.int b u)) Q E (S c h tk) := by with_reducible exact PyProof.Rows.ge_int k
theorem r_eq (k : Q (.bool (a == b)) (S c h tk)) : wpAny C.M A (compareOp .Eq (.int a t) (.int b u)) Q E (S c h tk) := by with_reducible exact PyProof.Rows.eq_int k
theorem r_ne (k : Q (.bool (a != b)) (S c h tk)) : wpAny C.M A (compareOp .NotEq (.int a t) (.int b u)) Q E (S c h tk) := by with_reducible exact PyProof.Rows.ne_int k
theorem t_bool {x : Bool} {Q : Bool → Shared → Prop} (k : Q x (S c h tk)) : wpAny C.M A (truthy (.bool x)) Q E (S c h tk) := by with_reducible exact wpAny_truthy_bool k
theorem t_int {Q : Bool → Shared → Prop} (k : Q (a != 0) (S c h tk)) : wpAny C.M A (truthy (.int a t)) Q E (S c h tk) := by with_reducible exact PyProof.Rows.truthy_int k
end
theorem m0 {α : Type} {x : α} {l : List α} : x ∈ x :: l := List.mem_cons_self
theorem m1 {α : Type} {a0 x : α} {l : List α} : x ∈ a0 :: x :: l := by simp only [List.mem_cons, true_or, or_true]
theorem m2 {α : Type} {a0 a1 x : α} {l : List α} : x ∈ a0 :: a1 :: x :: l := by simp only [List.mem_cons, true_or, or_true]
theorem m3 {α : Type} {a0 a1 a2 x : α} {l : List α} : x ∈ a0 :: a1 :: a2 :: x :: l := by simp only [List.mem_cons, true_or, or_true]
theorem m4 {α : Type} {a0 a1 a2 a3 x : α} {l : List α} : x ∈ a0 :: a1 :: a2 :: a3 :: x :: l := by simp only [List.mem_cons, true_or, or_true]
theorem m5 {α : Type} {a0 a1 a2 a3 a4 x : α} {l : List α} : x ∈ a0 :: a1 :: a2 :: a3 :: a4 :: x :: l := by simp only [List.mem_cons, true_or, or_true]
theorem m6 {α : Type} {a0 a1 a2 a3 a4 a5 x : α} {l : List α} : x ∈ a0 :: a1 :: a2 :: a3 :: a4 :: a5 :: x :: l := by simp only [List.mem_cons, true_or, or_true]
theorem m7 {α : Type} {a0 a1 a2 a3 a4 a5 a6 x : α} {l : List α} : x ∈ a0 :: a1 :: a2 :: a3 :: a4 :: a5 :: a6 :: x :: l := by simp only [List.mem_cons, true_or, or_true]
theorem m8 {α : Type} {a0 a1 a2 a3 a4 a5 a6 a7 x : α} {l : List α} : x ∈ a0 :: a1 :: a2 :: a3 :: a4 :: a5 :: a6 :: a7 :: x :: l := by simp only [List.mem_cons, true_or, or_true]
theorem m9 {α : Type} {a0 a1 a2 a3 a4 a5 a6 a7 a8 x : α} {l : List α} : x ∈ a0 :: a1 :: a2 :: a3 :: a4 :: a5 :: a6 :: a7 :: a8 :: x :: l := by simp only [List.mem_cons, true_or, or_true]
theorem m10 {α : Type} {a0 a1 a2 a3 a4 a5 a6 a7 a8 a9 x : α} {l : List α} : x ∈ a0 :: a1 :: a2 :: a3 :: a4 :: a5 :: a6 :: a7 :: a8 :: a9 :: x :: l := by simp only [List.mem_cons, true_or, or_true]
theorem m11 {α : Type} {a0 a1 a2 a3 a4 a5 a6 a7 a8 a9 a10 x : α} {l : List α} : x ∈ a0 :: a1 :: a2 :: a3 :: a4 :: a5 :: a6 :: a7 :: a8 :: a9 :: a10 :: x :: l := by simp only [List.mem_cons, true_or, or_true]
theorem ms {α : Type} {a0 a1 a2 a3 a4 a5 a6 a7 a8 a9 a10 a11 x : α} {l : List α} (h : x ∈ l) : x ∈ a0 :: a1 :: a2 :: a3 :: a4 :: a5 :: a6 :: a7 :: a8 :: a9 :: a10 :: a11 :: l := by simp only [List.mem_cons]; simp only [h, or_true]
theorem lk0 {x : Str} {v : Value} {ks : List Str} {vs : List (Option Value)} : Lk (x :: ks) (some v :: vs) x v := .hit
theorem lk1 {y0 x : Str} {w0 : Option Value} {v : Value} {ks : List Str} {vs : List (Option Value)} : Lk (y0 :: x :: ks) (w0 :: some v :: vs) x v := (.skip .hit)
theorem lk2 {y0 y1 x : Str} {w0 w1 : Option Value} {v : Value} {ks : List Str} {vs : List (Option Value)} : Lk (y0 :: y1 :: x :: ks) (w0 :: w1 :: some v :: vs) x v := (.skip (.skip .hit))
theorem lk3 {y0 y1 y2 x : Str} {w0 w1 w2 : Option Value} {v : Value} {ks : List Str} {vs : List (Option Value)} : Lk (y0 :: y1 :: y2 :: x :: ks) (w0 :: w1 :: w2 :: some v :: vs) x v := (.skip (.skip (.skip .hit)))
theorem lk4 {y0 y1 y2 y3 x : Str} {w0 w1 w2 w3 : Option Value} {v : Value} {ks : List Str} {vs : List (Option Value)} : Lk (y0 :: y1 :: y2 :: y3 :: x :: ks) (w0 :: w1 :: w2 :: w3 :: some v :: vs) x v := (.skip (.skip (.skip (.skip .hit))))
theorem lk5 {y0 y1 y2 y3 y4 x : Str} {w0 w1 w2 w3 w4 : Option Value} {v : Value} {ks : List Str} {vs : List (Option Value)} : Lk (y0 :: y1 :: y2 :: y3 :: y4 :: x :: ks) (w0 :: w1 :: w2 :: w3 :: w4 :: some v :: vs) x v := (.skip (.skip (.skip (.skip (.skip .hit)))))
theorem lk6 {y0 y1 y2 y3 y4 y5 x : Str} {w0 w1 w2 w3 w4 w5 : Option Value} {v : Value} {ks : List Str} {vs : List (Option Value)} : Lk (y0 :: y1 :: y2 :: y3 :: y4 :: y5 :: x :: ks) (w0 :: w1 :: w2 :: w3 :: w4 :: w5 :: some v :: vs) x v := (.skip (.skip (.skip (.skip (.skip (.skip .hit))))))
theorem lk7 {y0 y1 y2 y3 y4 y5 y6 x : Str} {w0 w1 w2 w3 w4 w5 w6 : Option Value} {v : Value} {ks : List Str} {vs : List (Option Value)} : Lk (y0 :: y1 :: y2 :: y3 :: y4 :: y5 :: y6 :: x :: ks) (w0 :: w1 :: w2 :: w3 :: w4 :: w5 :: w6 :: some v :: vs) x v := (.skip (.skip (.skip (.skip (.skip (.skip (.skip .hit)))))))
theorem lk8 {y0 y1 y2 y3 y4 y5 y6 y7 x : Str} {w0 w1 w2 w3 w4 w5 w6 w7 : Option Value} {v : Value} {ks : List Str} {vs : List (Option Value)} : Lk (y0 :: y1 :: y2 :: y3 :: y4 :: y5 :: y6 :: y7 :: x :: ks) (w0 :: w1 :: w2 :: w3 :: w4 :: w5 :: w6 :: w7 :: some v :: vs) x v := (.skip (.skip (.skip (.skip (.skip (.skip (.skip (.skip .hit))))))))
theorem lk9 {y0 y1 y2 y3 y4 y5 y6 y7 y8 x : Str} {w0 w1 w2 w3 w4 w5 w6 w7 w8 : Option Value} {v : Value} {ks : List Str} {vs : List (Option Value)} : Lk (y0 :: y1 :: y2 :: y3 :: y4 :: y5 :: y6 :: y7 :: y8 :: x :: ks) (w0 :: w1 :: w2 :: w3 :: w4 :: w5 :: w6 :: w7 :: w8 :: some v :: vs) x v := (.skip (.skip (.skip (.skip (.skip (.skip (.skip (.skip (.skip .hit)))))))))
theorem lk10 {y0 y1 y2 y3 y4 y5 y6 y7 y8 y9 x : Str} {w0 w1 w2 w3 w4 w5 w6 w7 w8 w9 : Option Value} {v : Value} {ks : List Str} {vs : List (Option Value)} : Lk (y0 :: y1 :: y2 :: y3 :: y4 :: y5 :: y6 :: y7 :: y8 :: y9 :: x :: ks) (w0 :: w1 :: w2 :: w3 :: w4 :: w5 :: w6 :: w7 :: w8 :: w9 :: some v :: vs) x v := (.skip (.skip (.skip (.skip (.skip (.skip (.skip (.skip (.skip (.skip .hit))))))))))
theorem lk11 {y0 y1 y2 y3 y4 y5 y6 y7 y8 y9 y10 x : Str} {w0 w1 w2 w3 w4 w5 w6 w7 w8 w9 w10 : Option Value} {v : Value} {ks : List Str} {vs : List (Option Value)} : Lk (y0 :: y1 :: y2 :: y3 :: y4 :: y5 :: y6 :: y7 :: y8 :: y9 :: y10 :: x :: ks) (w0 :: w1 :: w2 :: w3 :: w4 :: w5 :: w6 :: w7 :: w8 :: w9 :: w10 :: some v :: vs) x v := (.skip (.skip (.skip (.skip (.skip (.skip (.skip (.skip (.skip (.skip (.skip .hit)))))))))))
theorem lks {y0 y1 y2 y3 y4 y5 y6 y7 y8 y9 y10 y11 x : Str} {w0 w1 w2 w3 w4 w5 w6 w7 w8 w9 w10 w11 : Option Value} {v : Value} {ks : List Str} {vs : List (Option Value)} (h : Lk ks vs x v) : Lk (y0 :: y1 :: y2 :: y3 :: y4 :: y5 :: y6 :: y7 :: y8 :: y9 :: y10 :: y11 :: ks) (w0 :: w1 :: w2 :: w3 :: w4 :: w5 :: w6 :: w7 :: w8 :: w9 :: w10 :: w11 :: vs) x v := (.skip (.skip (.skip (.skip (.skip (.skip (.skip (.skip (.skip (.skip (.skip (.skip h))))))))))))
theorem sk0 {x : Str} {w : Option Value} {v : Value} {ks : List Str} {vs : List (Option Value)} : Sk (x :: ks) (w :: vs) x v (some v :: vs) := .hit
theorem sk1 {y0 x : Str} {w0 w : Option Value} {v : Value} {ks : List Str} {vs : List (Option Value)} : Sk (y0 :: x :: ks) (w0 :: w :: vs) x v (w0 :: some v :: vs) := (.skip .hit)
theorem sk2 {y0 y1 x : Str} {w0 w1 w : Option Value} {v : Value} {ks : List Str} {vs : List (Option Value)} : Sk (y0 :: y1 :: x :: ks) (w0 :: w1 :: w :: vs) x v (w0 :: w1 :: some v :: vs) := (.skip (.skip .hit))
theorem sk3 {y0 y1 y2 x : Str} {w0 w1 w2 w : Option Value} {v : Value} {ks : List Str} {vs : List (Option Value)} : Sk (y0 :: y1 :: y2 :: x :: ks) (w0 :: w1 :: w2 :: w :: vs) x v (w0 :: w1 :: w2 :: some v :: vs) := (.skip (.skip (.skip .hit)))
theorem sk4 {y0 y1 y2 y3 x : Str} {w0 w1 w2 w3 w : Option Value} {v : Value} {ks : List Str} {vs : List (Option Value)} : Sk (y0 :: y1 :: y2 :: y3 :: x :: ks) (w0 :: w1 :: w2 :: w3 :: w :: vs) x v (w0 :: w1 :: w2 :: w3 :: some v :: vs) := (.skip (.skip (.skip (.skip .hit))))
theorem sk5 {y0 y1 y2 y3 y4 x : Str} {w0 w1 w2 w3 w4 w : Option Value} {v : Value} {ks : List Str} {vs : List (Option Value)} : Sk (y0 :: y1 :: y2 :: y3 :: y4 :: x :: ks) (w0 :: w1 :: w2 :: w3 :: w4 :: w :: vs) x v (w0 :: w1 :: w2 :: w3 :: w4 :: some v :: vs) := (.skip (.skip (.skip (.skip (.skip .hit)))))
theorem sk6 {y0 y1 y2 y3 y4 y5 x : Str} {w0 w1 w2 w3 w4 w5 w : Option Value} {v : Value} {ks : List Str} {vs : List (Option Value)} : Sk (y0 :: y1 :: y2 :: y3 :: y4 :: y5 :: x :: ks) (w0 :: w1 :: w2 :: w3 :: w4 :: w5 :: w :: vs) x v (w0 :: w1 :: w2 :: w3 :: w4 :: w5 :: some v :: vs) := (.skip (.skip (.skip (.skip (.skip (.skip .hit))))))
theorem sk7 {y0 y1 y2 y3 y4 y5 y6 x : Str} {w0 w1 w2 w3 w4 w5 w6 w : Option Value} {v : Value} {ks : List Str} {vs : List (Option Value)} : Sk (y0 :: y1 :: y2 :: y3 :: y4 :: y5 :: y6 :: x :: ks) (w0 :: w1 :: w2 :: w3 :: w4 :: w5 :: w6 :: w :: vs) x v (w0 :: w1 :: w2 :: w3 :: w4 :: w5 :: w6 :: some v :: vs) := (.skip (.skip (.skip (.skip (.skip (.skip (.skip .hit)))))))
theorem sk8 {y0 y1 y2 y3 y4 y5 y6 y7 x : Str} {w0 w1 w2 w3 w4 w5 w6 w7 w : Option Value} {v : Value} {ks : List Str} {vs : List (Option Value)} : Sk (y0 :: y1 :: y2 :: y3 :: y4 :: y5 :: y6 :: y7 :: x :: ks) (w0 :: w1 :: w2 :: w3 :: w4 :: w5 :: w6 :: w7 :: w :: vs) x v (w0 :: w1 :: w2 :: w3 :: w4 :: w5 :: w6 :: w7 :: some v :: vs) := (.skip (.skip (.skip (.skip (.skip (.skip (.skip (.skip .hit))))))))
theorem sk9 {y0 y1 y2 y3 y4 y5 y6 y7 y8 x : Str} {w0 w1 w2 w3 w4 w5 w6 w7 w8 w : Option Value} {v : Value} {ks : List Str} {vs : List (Option Value)} : Sk (y0 :: y1 :: y2 :: y3 :: y4 :: y5 :: y6 :: y7 :: y8 :: x :: ks) (w0 :: w1 :: w2 :: w3 :: w4 :: w5 :: w6 :: w7 :: w8 :: w :: vs) x v (w0 :: w1 :: w2 :: w3 :: w4 :: w5 :: w6 :: w7 :: w8 :: some v :: vs) := (.skip (.skip (.skip (.skip (.skip (.skip (.skip (.skip (.skip .hit)))))))))
theorem sk10 {y0 y1 y2 y3 y4 y5 y6 y7 y8 y9 x : Str} {w0 w1 w2 w3 w4 w5 w6 w7 w8 w9 w : Option Value} {v : Value} {ks : List Str} {vs : List (Option Value)} : Sk (y0 :: y1 :: y2 :: y3 :: y4 :: y5 :: y6 :: y7 :: y8 :: y9 :: x :: ks) (w0 :: w1 :: w2 :: w3 :: w4 :: w5 :: w6 :: w7 :: w8 :: w9 :: w :: vs) x v (w0 :: w1 :: w2 :: w3 :: w4 :: w5 :: w6 :: w7 :: w8 :: w9 :: some v :: vs) := (.skip (.skip (.skip (.skip (.skip (.skip (.skip (.skip (.skip (.skip .hit))))))))))
theorem sk11 {y0 y1 y2 y3 y4 y5 y6 y7 y8 y9 y10 x : Str} {w0 w1 w2 w3 w4 w5 w6 w7 w8 w9 w10 w : Option Value} {v : Value} {ks : List Str} {vs : List (Option Value)} : Sk (y0 :: y1 :: y2 :: y3 :: y4 :: y5 :: y6 :: y7 :: y8 :: y9 :: y10 :: x :: ks) (w0 :: w1 :: w2 :: w3 :: w4 :: w5 :: w6 :: w7 :: w8 :: w9 :: w10 :: w :: vs) x v (w0 :: w1 :: w2 :: w3 :: w4 :: w5 :: w6 :: w7 :: w8 :: w9 :: w10 :: some v :: vs) := (.skip (.skip (.skip (.skip (.skip (.skip (.skip (.skip (.skip (.skip (.skip .hit)))))))))))
theorem sks {y0 y1 y2 y3 y4 y5 y6 y7 y8 y9 y10 y11 x : Str} {w0 w1 w2 w3 w4 w5 w6 w7 w8 w9 w10 w11 : Option Value} {v : Value} {ks : List Str} {vs vs' : List (Option Value)} (h : Sk ks vs x v vs') : Sk (y0 :: y1 :: y2 :: y3 :: y4 :: y5 :: y6 :: y7 :: y8 :: y9 :: y10 :: y11 :: ks) (w0 :: w1 :: w2 :: w3 :: w4 :: w5 :: w6 :: w7 :: w8 :: w9 :: w10 :: w11 :: vs) x v (w0 :: w1 :: w2 :: w3 :: w4 :: w5 :: w6 :: w7 :: w8 :: w9 :: w10 :: w11 :: vs') := (.skip (.skip (.skip (.skip (.skip (.skip (.skip (.skip (.skip (.skip (.skip (.skip h))))))))))))
theorem ch0 {d : Addr} {P P' : OP} {n : Led} : Ch ((d, P) :: n) d P P' ((d, P') :: n) := .hit
theorem ch1 {q0 : Addr × OP} {d : Addr} {P P' : OP} {n : Led} : Ch (q0 :: (d, P) :: n) d P P' (q0 :: (d, P') :: n) := (.skip .hit)
theorem ch2 {q0 q1 : Addr × OP} {d : Addr} {P P' : OP} {n : Led} : Ch (q0 :: q1 :: (d, P) :: n) d P P' (q0 :: q1 :: (d, P') :: n) := (.skip (.skip .hit))
theorem ch3 {q0 q1 q2 : Addr × OP} {d : Addr} {P P' : OP} {n : Led} : Ch (q0 :: q1 :: q2 :: (d, P) :: n) d P P' (q0 :: q1 :: q2 :: (d, P') :: n) := (.skip (.skip (.skip .hit)))
theorem ch4 {q0 q1 q2 q3 : Addr × OP} {d : Addr} {P P' : OP} {n : Led} : Ch (q0 :: q1 :: q2 :: q3 :: (d, P) :: n) d P P' (q0 :: q1 :: q2 :: q3 :: (d, P') :: n) := (.skip (.skip (.skip (.skip .hit))))
theorem ch5 {q0 q1 q2 q3 q4 : Addr × OP} {d : Addr} {P P' : OP} {n : Led} : Ch (q0 :: q1 :: q2 :: q3 :: q4 :: (d, P) :: n) d P P' (q0 :: q1 :: q2 :: q3 :: q4 :: (d, P') :: n) := (.skip (.skip (.skip (.skip (.skip .hit)))))
theorem ch6 {q0 q1 q2 q3 q4 q5 : Addr × OP} {d : Addr} {P P' : OP} {n : Led} : Ch (q0 :: q1 :: q2 :: q3 :: q4 :: q5 :: (d, P) :: n) d P P' (q0 :: q1 :: q2 :: q3 :: q4 :: q5 :: (d, P') :: n) := (.skip (.skip (.skip (.skip (.skip (.skip .hit))))))
theorem ch7 {q0 q1 q2 q3 q4 q5 q6 : Addr × OP} {d : Addr} {P P' : OP} {n : Led} : Ch (q0 :: q1 :: q2 :: q3 :: q4 :: q5 :: q6 :: (d, P) :: n) d P P' (q0 :: q1 :: q2 :: q3 :: q4 :: q5 :: q6 :: (d, P') :: n) := (.skip (.skip (.skip (.skip (.skip (.skip (.skip .hit)))))))
theorem ch8 {q0 q1 q2 q3 q4 q5 q6 q7 : Addr × OP} {d : Addr} {P P' : OP} {n : Led} : Ch (q0 :: q1 :: q2 :: q3 :: q4 :: q5 :: q6 :: q7 :: (d, P) :: n) d P P' (q0 :: q1 :: q2 :: q3 :: q4 :: q5 :: q6 :: q7 :: (d, P') :: n) := (.skip (.skip (.skip (.skip (.skip (.skip (.skip (.skip .hit))))))))
theorem ch9 {q0 q1 q2 q3 q4 q5 q6 q7 q8 : Addr × OP} {d : Addr} {P P' : OP} {n : Led} : Ch (q0 :: q1 :: q2 :: q3 :: q4 :: q5 :: q6 :: q7 :: q8 :: (d, P) :: n) d P P' (q0 :: q1 :: q2 :: q3 :: q4 :: q5 :: q6 :: q7 :: q8 :: (d, P') :: n) := (.skip (.skip (.skip (.skip (.skip (.skip (.skip (.skip (.skip .hit)))))))))
theorem ch10 {q0 q1 q2 q3 q4 q5 q6 q7 q8 q9 : Addr × OP} {d : Addr} {P P' : OP} {n : Led} : Ch (q0 :: q1 :: q2 :: q3 :: q4 :: q5 :: q6 :: q7 :: q8 :: q9 :: (d, P) :: n) d P P' (q0 :: q1 :: q2 :: q3 :: q4 :: q5 :: q6 :: q7 :: q8 :: q9 :: (d, P') :: n) := (.skip (.skip (.skip (.skip (.skip (.skip (.skip (.skip (.skip (.skip .hit))))))))))
theorem chs {q0 q1 q2 q3 q4 q5 q6 q7 q8 q9 q10 q11 : Addr × OP} {d : Addr} {P P' : OP} {n n' : Led} (h : Ch n d P P' n') : Ch (q0 :: q1 :: q2 :: q3 :: q4 :: q5 :: q6 :: q7 :: q8 :: q9 :: q10 :: q11 :: n) d P P' (q0 :: q1 :: q2 :: q3 :: q4 :: q5 :: q6 :: q7 :: q8 :: q9 :: q10 :: q11 :: n') := (.skip (.skip (.skip (.skip (.skip (.skip (.skip (.skip (.skip (.skip (.skip (.skip h))))))))))))
end Mine

namespace Mine
section
variable {C : Cn} {A : Around} {E : Value → Shared → Prop} {c : Shared} {h : Heap} {tk : Nat} {env : Env} {L : Addr} {ks : List Str} {cs : List (Str × Addr)} {gs : List (Str × Value)} {X : List Addr} {base : Heap} {n n' : Led}
variable {pos : Pos} {Q : Value → Shared → Prop}

theorem sp_cons {e : Expr} {rest : List Expr} {Q : List Value → Shared → Prop} {s : Shared}
    (k : wpAny C.M A (eval e env) (fun v s₁ => wpAny C.M A (spliced (backTo pos (starEach rest env))) (fun vs s₂ => Q (v :: vs) s₂) E s₁) E s)
    (he : starEach (e :: rest) env = (false, eval e env) :: starEach rest env) : wpAny C.M A (spliced (backTo pos (starEach (e :: rest) env))) Q E s := by
  rw [he]
  exact spliced_cons k
theorem sp_nil {Q : List Value → Shared → Prop} {s : Shared} (k : Q [] s) : wpAny C.M A (spliced (backTo pos (starEach [] env))) Q E s := wpAny_pure (a := []) k

theorem r_list {elts : List Expr} {s : Shared} (k : wpAny C.M A (spliced (backTo pos (starEach elts env))) (fun vs s₁ => wpAny C.M A (newList vs) Q E s₁) E s) : wpAny C.M A (eval (.List elts pos) env) Q E s := by
  with_reducible exact List_ k
theorem r_tuple {elts : List Expr} {j : Nat} {s : Shared} (k : wpAny C.M A (spliced (backTo pos (starEach elts env))) (fun vs s₁ => wpAny C.M A (newTuple vs) Q E s₁) E s) : wpAny C.M A (eval (.Tuple elts j pos) env) Q E s := by
  with_reducible exact Tuple_ k
theorem l_new {vs : List Value} (ok : C.Ok) (H : In C X base h n) (hz : vs.length ≤ sizeLine) (k : ∀ l h', In C X base h' ((l, PList vs) :: n) → Q (.ref l) (S c h' tk)) : wpAny C.M A (newList vs) Q E (S c h tk) := by
  refine wpAny_newObj_type (k _ _ (H.new ok rfl ⟨0, rfl⟩)) ?_
  show vs.toArray.size ≤ sizeLine
  rw [List.size_toArray]; exact hz
theorem l_newI {vs : List Value} {ns : List Int} (ok : C.Ok) (H : In C X base h n) (hi : IntsAre vs ns) (hz : ns.length ≤ sizeLine) (k : ∀ l h', In C X base h' ((l, PInts ns) :: n) → Q (.ref l) (S c h' tk)) : wpAny C.M A (newList vs) Q E (S c h tk) :=
  l_new ok H (by rw [hi.length]; exact hz) fun l h' H' => k l h' (H'.weak1 fun _ p => ⟨vs, hi, p⟩)
theorem t_new {vs : List Value} (ok : C.Ok) (H : In C X base h n) (hz : vs.length ≤ sizeLine) (k : ∀ l h', In C X base h' ((l, PTup vs) :: n) → Q (.ref l) (S c h' tk)) : wpAny C.M A (newTuple vs) Q E (S c h tk) := by
  refine wpAny_newObj_type (k _ _ (H.new ok rfl ⟨0, rfl⟩)) ?_
  show vs.toArray.size ≤ sizeLine
  rw [List.size_toArray]; exact hz

def IL (h : Heap) (l : Addr) (ns : List Int) : Prop := ∃ vs, IntsAre vs ns ∧ h.IsList l vs.toArray
theorem At.il {l : Addr} {ns : List Int} (x : At C h l (PInts ns)) : IL h l ns := let ⟨vs, hi, a⟩ := x.ints; ⟨vs, hi, a.isList⟩
theorem At.ilW {l : Addr} {ns : List Int} (x : At C h l (PIntsW ns)) : IL h l ns := x.intsW
theorem PInts.w {ns : List Int} : ∀ o, PInts ns o → PIntsW ns o := by rintro _ ⟨vs, hi, k, rfl⟩; exact ⟨vs, hi, rfl, k, rfl⟩

theorem len_il {l : Addr} {ns : List Int} (x : IL h l ns) (hf : (ns.length : Int) < 2 ^ 63) (k : Q (.int ns.length (tk + 1)) (S c h (tk + 1 + 1))) : wpAny C.M A (call (.builtin "len") [.ref l]) Q E (S c h tk) := by
  obtain ⟨vs, hi, hl⟩ := x
  have e : vs.toArray.size = ns.length := by simp [hi.length]
  refine call_len_list hl (by rw [e]; exact hf) ?_
  rw [e]
  exact k
theorem truthy_il {l : Addr} {ns : List Int} {Q : Bool → Shared → Prop} (x : IL h l ns) (hf : (ns.length : Int) < 2 ^ 63) (k : Q (!ns.isEmpty) (S c h (tk + 1 + 1))) : wpAny C.M A (truthy (.ref l)) Q E (S c h tk) := by
  obtain ⟨vs, hi, hl⟩ := x
  have e : vs.toArray.size = ns.length := by simp [hi.length]
  refine wpAny_truthy_list hl (by rw [e]; exact hf) ?_
  have e2 : (!vs.toArray.isEmpty) = (!ns.isEmpty) := by cases hi <;> rfl
  rw [e2]
  exact k
theorem append_il {l : Addr} {ns : List Int} {a : Int} {t : Tok} (ok : C.Ok) (H : In C X base h n) (ch : Ch n l (PInts ns) (PInts (ns ++ [a])) n') (hz : ns.length ≤ sizeLine) (k : ∀ h', In C X base h' n' → Q .none (S c h' tk)) :
    wpAny C.M A (call (.builtin "list.append") [.ref l, .int a t]) Q E (S c h tk) := by
  obtain ⟨vs, hi, x⟩ := (H.at ch.mem).ints
  refine wpAny_list_append_plain x.plain (fun h' hp hs => k h' (H.upd' ok ch PInts.mut hs ?_)) (by rw [List.size_toArray, hi.length]; exact hz)
  obtain ⟨m, e⟩ := hp
  exact ⟨_, e, vs ++ [.int a t], hi.append (.cons _ _ .nil), m, by rw [List.push_toArray]⟩
theorem meth_append {l : Addr} {P : OP} {pl : Sem Bool} {Q : Value × List Value → Shared → Prop} (x : At C h l P) (hp : ∀ o, P o → o.cls = .type "list" ∧ o.dict = none) (k : Q (.builtin "list.append", [.ref l]) (S c h tk)) : wpAny C.M A (getMethod (.ref l) "append" pl) Q E (S c h tk) := by
  obtain ⟨_, o, e, p⟩ := x
  exact getMethod_list_append e (hp o p).1 (hp o p).2 k
theorem PInts.cls {ns : List Int} : ∀ o, PInts ns o → o.cls = .type "list" ∧ o.dict = none := by rintro _ ⟨_, _, _, rfl⟩; exact ⟨rfl, rfl⟩
theorem PList.cls {vs : List Value} : ∀ o, PList vs o → o.cls = .type "list" ∧ o.dict = none := by rintro _ ⟨_, rfl⟩; exact ⟨rfl, rfl⟩
theorem setItem_il {l : Addr} {ns : List Int} {i a : Int} {t u : Tok} {P : OP} {Q : Unit → Shared → Prop} (ok : C.Ok) (H : In C X base h n) (ch : Ch n l P (PIntsW (ns.set i.toNat a)) n') (hw : ∀ o, P o → PIntsW ns o) (hm : ∀ o, P o → Mut o) (h0 : 0 ≤ i) (h1 : i < ns.length) (hf : i < 2 ^ 63)
    (k : ∀ h', In C X base h' n' → Q () (S c h' tk)) : wpAny C.M A (setItem (.ref l) (.int i t) (.int a u)) Q E (S c h tk) := by
  obtain ⟨vs, hi, hl⟩ := ((H.at ch.mem).mono hw).intsW
  refine wpAny_setItem_list hl h0 hf (by rw [List.size_toArray, hi.length]; exact h1) fun h' hl' hs => k h' (H.upd' ok ch hm hs ?_)
  obtain ⟨o, e, hc, m, hd⟩ := hl'
  exact ⟨o, e, vs.set i.toNat (.int a u), ints_set hi _, hc, m, by rw [hd]; simp⟩
theorem PIntsW.mut {ns : List Int} : ∀ o, PIntsW ns o → Mut o := by
  rintro o ⟨_, _, _, k, e⟩ _ _ _ e'
  rw [e] at e'; cases e'

def Spec (C : Cn) (f : Addr) (d u : Nat) (args : List Value) (X : List Addr) (pre : Heap → Prop) (post : Heap → Heap → Value → Prop) : Prop :=
  ∀ (A : Around) (c : Shared) (h : Heap) (tk : Nat) (Q E : Value → Shared → Prop), Rm A d u → Hp C h → pre h → (∀ v h' tk', Kp C X h h' → post h h' v → Q v (S c h' tk')) → wpAny C.M A (call (.ref f) args) Q E (S c h tk)
def RBool (b : Bool) : Heap → Heap → Value → Prop := fun _ _ v => v = .bool b
def RInt (i : Int) : Heap → Heap → Value → Prop := fun _ _ v => ∃ t, v = .int i t
def ROb (C : Cn) (P : OP) : Heap → Heap → Value → Prop := fun h h' v => ∃ l, v = .ref l ∧ h.get? l = none ∧ At C h' l P

theorem sp_bool {f : Addr} {d u d' u' : Nat} {args : List Value} {pre : Heap → Prop} {b : Bool} (sp : Spec C f d u args [] pre (RBool b)) (r : Rm A d' u') (hd : d ≤ d') (hu : u ≤ u') (H : In C X base h n) (hp : pre h)
    (k : ∀ h' tk', In C X base h' n → Q (.bool b) (S c h' tk')) : wpAny C.M A (call (.ref f) args) Q E (S c h tk) :=
  sp A c h tk Q E (r.le hd hu) H.hp hp fun v h' tk' K p => by cases p; exact k h' tk' (H.call K)
theorem sp_int {f : Addr} {d u d' u' : Nat} {args : List Value} {pre : Heap → Prop} {i : Int} (sp : Spec C f d u args [] pre (RInt i)) (r : Rm A d' u') (hd : d ≤ d') (hu : u ≤ u') (H : In C X base h n) (hp : pre h)
    (k : ∀ t h' tk', In C X base h' n → Q (.int i t) (S c h' tk')) : wpAny C.M A (call (.ref f) args) Q E (S c h tk) :=
  sp A c h tk Q E (r.le hd hu) H.hp hp fun v h' tk' K p => by obtain ⟨t, rfl⟩ := p; exact k t h' tk' (H.call K)
theorem sp_ob {f : Addr} {d u d' u' : Nat} {args : List Value} {pre : Heap → Prop} {P : OP} (sp : Spec C f d u args [] pre (ROb C P)) (r : Rm A d' u') (hd : d ≤ d') (hu : u ≤ u') (H : In C X base h n) (hp : pre h)
    (k : ∀ l h' tk', In C X base h' ((l, P) :: n) → Q (.ref l) (S c h' tk')) : wpAny C.M A (call (.ref f) args) Q E (S c h tk) :=
  sp A c h tk Q E (r.le hd hu) H.hp hp fun v h' tk' K p => by obtain ⟨l, rfl, hn, a⟩ := p; exact k l h' tk' (H.gain (H.call K) hn a)

structure Fn (C : Cn) (f : Addr) (qual : Str) (params : Arguments) (body : List Stmt) (scope : Scope) (cdv : Value) : Prop where
  ho : ∃ oc od osl name doc pm an ct, C.K.lookup f = some ⟨oc, od, .func (fnX name qual params body scope [] .none .none doc pm an cdv ct), osl⟩
  hcd : codeIn C.K cdv qual = true

theorem lookup_binds {binds : List (Str × Value)} (hn : (binds.map (·.1)).Nodup) {i : Nat} {x : Str} {v : Value} (h1 : (binds.map (·.1))[i]? = some x) (h2 : (binds.map fun p => some p.2)[i]? = some (some v)) : binds.reverse.lookup x = some v := by
  have hm : (x, v) ∈ binds := by
    rw [List.getElem?_map] at h1 h2
    cases e : binds[i]? with
    | none => rw [e] at h1; cases h1
    | some p =>
      rw [e] at h1 h2
      obtain ⟨a, b⟩ := p
      cases h1; cases h2
      exact List.mem_of_getElem? e
  have hn' : (binds.reverse.map (·.1)).Nodup := by rw [List.map_reverse]; exact List.pairwise_reverse.mpr (List.Pairwise.imp (fun h => Ne.symm h) hn)
  have hm' : (x, v) ∈ binds.reverse := List.mem_reverse.mpr hm
  generalize binds.reverse = l at hn' hm'
  induction l with
  | nil => cases hm'
  | cons p r ih =>
    obtain ⟨y, u⟩ := p
    obtain ⟨a1, a2⟩ := List.nodup_cons.mp hn'
    rcases List.mem_cons.mp hm' with e | e
    · cases e; simp [List.lookup]
    · have : (x == y) = false := by
        refine beq_eq_false_iff_ne.mpr fun q => a1 ?_
        subst q
        exact List.mem_map.mpr ⟨(x, v), e, rfl⟩
      rw [List.lookup_cons, this]
      exact ih a2 e

structure Nm (C : Cn) (scope : Scope) (ks : List Str) (fs : List Str) (gs : List (Str × Value)) : Prop where
  nd : ks.Nodup
  kl : ∀ x ∈ ks, scope.names.lookup x = some .local ∧ (x == ("__debug__" : Str)) = false
  kg : ∀ p ∈ gs, scope.names.lookup p.1 = some .globalImplicit ∧ GVal C p.1 p.2 ∧ (p.1 == ("__debug__" : Str)) = false
  kind : scope.kind = .function
  co : scope.isCoroutine = false
  ge : scope.isGenerator = false
  cell : ∀ x ∈ scope.names, x.2 = .cell → x.1 ∈ fs
  kc : ∀ x ∈ fs, scope.names.lookup x = some .cell ∧ (x == ("__debug__" : Str)) = false
  ndf : fs.Nodup

theorem call_plain {f : Addr} {qual : Str} {params : Arguments} {body : List Stmt} {scope : Scope} {cdv : Value} {args : List Value} {binds : List (Str × Value)} {d u : Nat} {ks extra : List Str} {vs : List (Option Value)}
    (ok : C.Ok) (F : Fn C f qual params body scope cdv) (Nn : Nm C scope ks [] gs) (r : Rm A (d + 1) (u + 3)) (H : Hp C h)
    (hb : ∀ name doc pm an ct, bindArgs (fnX name qual params body scope [] .none .none doc pm an cdv ct) ⟨args, []⟩ = pure binds) (hks : ks = binds.map (·.1) ++ extra) (hvs : vs = (binds.map fun p => some p.2) ++ extra.map fun _ => none)
    (k : ∀ env L h₁ tk₁, EnvF C env L ks [] gs → h.get? L = none → Rm (A.deeper env) d u → In C [] h h₁ [(L, PLoc ks vs)] →
      wpAny C.M (A.deeper env) (execs body env) (fun fl s' => Q (match fl with | .ret v => v | _ => .none) s') (fun _ _ => False) (S c h₁ tk₁)) :
    wpAny C.M A (call (.ref f) args) Q E (S c h tk) := by
  obtain ⟨oc, od, osl, name, doc, pm, an, ct, e⟩ := F.ho
  have ho := H.1 _ _ (ok.ki _ _ e)
  have hks' : ∀ x ∈ binds, x.1 ∈ ks := fun x hx => by rw [hks]; exact List.mem_append_left _ (List.mem_map.mpr ⟨x, hx, rfl⟩)
  refine wpAny_call (codeAny_call_def (fd := fnX name qual params body scope [] .none .none doc pm an cdv ct) (body := body) (binds := binds) (by have := r.hd; omega) ho rfl (ok.nolimit.keeps H.1) ((codeRec_of ok.ki F.hcd).keeps H.1) rfl
    (.of_eq (hb ..)) (fun x hx q => nomatch (Nn.cell x hx q)) (fun x hx => (Nn.kl _ (hks' x hx)).1) (fun h₁ hns hk => ?_) Nn.co Nn.ge Nn.kind)
  have K : Kp C [] h h₁ := Kp.ofAll ok H hk
  have fr : h.get? h.objs.size = none := get?_none_of_size (Nat.le_refl _)
  have V : EnvF C (callEnv (fnX name qual params body scope [] .none .none doc pm an cdv ct) h.objs.size f) h.objs.size ks [] gs := ⟨Nn.kind, rfl, rfl, rfl, Nn.kl, fun _ hp => (nomatch hp), Nn.kg⟩
  have a : At C h₁ h.objs.size (PLoc ks vs) := by
    refine ⟨(H.fresh ok (Nat.le_refl _)).1, ?_⟩
    obtain ⟨o, es, ep, e1, e2, e3, e4⟩ := hns
    refine ⟨o, e1, es, ep, e2, e3, Nn.nd, fun i x v hx hv => (e4 x).trans ?_⟩
    have nd := Nn.nd
    rw [hks] at nd hx
    rw [hvs] at hv
    by_cases hi : i < binds.length
    · rw [List.getElem?_append_left (by rw [List.length_map]; exact hi)] at hx hv
      exact lookup_binds (List.nodup_append.mp nd).1 hx hv
    · rw [List.getElem?_append_right (by rw [List.length_map]; omega), List.getElem?_map] at hv
      cases q : extra[i - (List.map (fun p => some p.snd) binds).length]? with
      | none => rw [q] at hv; cases hv
      | some z => rw [q] at hv; cases hv
  refine wpAny_mono (k _ _ h₁ _ V fr (r.deeper _) ((In.enter K).gain' fr a List.not_mem_nil (In.noB H fr))) (fun fl s' q => q) fun _ _ q => q.elim

end
end Mine

namespace Mine
section
variable {M : Model} {A : Around} {E : Value → Shared → Prop} {s : Shared} {env : Env}

def Kx (M : Model) (A : Around) (rest : List Stmt) (env : Env) (Q : Flow → Shared → Prop) (E : Value → Shared → Prop) : Flow → Shared → Prop :=
  fun f s' => match f with | .next => wpAny M A (execs rest env) Q E s' | f => Q f s'
theorem x_cons {st : Stmt} {rest : List Stmt} {Q : Flow → Shared → Prop} (k : wpAny M A (exec st env) (Kx M A rest env Q E) E s) : wpAny M A (execs (st :: rest) env) Q E s := by
  with_reducible refine wpAny_execs_cons ?_
  exact k
theorem x_nil {Q : Flow → Shared → Prop} (k : Q .next s) : wpAny M A (execs [] env) Q E s := wpAny_pure (a := Flow.next) k
theorem kx_next {rest : List Stmt} {Q : Flow → Shared → Prop} (k : wpAny M A (execs rest env) Q E s) : Kx M A rest env Q E .next s := k
theorem kx_ret {rest : List Stmt} {Q : Flow → Shared → Prop} {v : Value} (k : Q (.ret v) s) : Kx M A rest env Q E (.ret v) s := k
def RetQ (Q : Value → Shared → Prop) : Flow → Shared → Prop := fun fl s' => Q (match fl with | .ret v => v | _ => .none) s'
theorem rq_ret {Q : Value → Shared → Prop} {v : Value} (k : Q v s) : RetQ Q (.ret v) s := k
theorem rq_next {Q : Value → Shared → Prop} (k : Q .none s) : RetQ Q .next s := k

def Br (b : Bool) (X Y : Prop) : Prop := if b = true then X else Y
theorem br_t {X Y : Prop} (k : X) : Br true X Y := k
theorem br_f {X Y : Prop} (k : Y) : Br false X Y := k
theorem br_dec {p : Prop} [Decidable p] {X Y : Prop} (k1 : p → X) (k2 : ¬ p → Y) : Br (decide p) X Y := by
  unfold Br
  by_cases h : p
  · rw [if_pos (by simpa using h)]; exact k1 h
  · rw [if_neg (by simpa using h)]; exact k2 h
theorem br_beq {a b : Int} {X Y : Prop} (k1 : a = b → X) (k2 : a ≠ b → Y) : Br (a == b) X Y := br_dec (p := a = b) k1 k2
theorem br_bne {a b : Int} {X Y : Prop} (k1 : a ≠ b → X) (k2 : a = b → Y) : Br (a != b) X Y := by
  unfold Br
  by_cases h : a = b
  · rw [if_neg (by simp [h])]; exact k2 h
  · rw [if_pos (by simp [h])]; exact k1 h
theorem br_any {b : Bool} {X Y : Prop} (k1 : b = true → X) (k2 : b = false → Y) : Br b X Y := by
  cases b
  · exact k2 rfl
  · exact k1 rfl
theorem br_not {b : Bool} {X Y : Prop} (k : Br b Y X) : Br (!b) X Y := by cases b <;> exact k

theorem x_if {test : Expr} {body orelse : List Stmt} {pos : Pos} {Q : Flow → Shared → Prop}
    (k : wpAny M A (isTrue test env (eval test env)) (fun b s₂ => Br b (wpAny M A (execs body env) Q E s₂) (wpAny M A (execs orelse env) Q E s₂)) E s) : wpAny M A (exec (.If test body orelse pos) env) Q E s := by
  with_reducible refine wpAny_If ?_
  exact k
theorem e_if {test body orelse : Expr} {pos : Pos} {Q : Value → Shared → Prop}
    (k : wpAny M A (isTrue test env (eval test env)) (fun b s₂ => Br b (wpAny M A (eval body env) Q E s₂) (wpAny M A (eval orelse env) Q E s₂)) E s) : wpAny M A (eval (.IfExp test body orelse pos) env) Q E s := by
  with_reducible refine IfExp_ ?_
  exact k
theorem x_ret {e : Expr} {pos : Pos} {Q : Flow → Shared → Prop} (k : wpAny M A (eval e env) (fun v => Q (.ret v)) E s) : wpAny M A (exec (.Return (some e) pos) env) Q E s := by
  with_reducible exact wpAny_Return_some k
theorem x_ret0 {pos : Pos} {Q : Flow → Shared → Prop} (k : Q (.ret .none) s) : wpAny M A (exec (.Return none pos) env) Q E s := by
  with_reducible exact wpAny_Return_none k
theorem x_asg {x : Str} {p pos : Pos} {value : Expr} {Q : Flow → Shared → Prop} (k : wpAny M A (eval value env) (fun v s₁ => wpAny M A (storeName env x v) (fun _ => Q .next) E s₁) E s)
    (hs : swapsWith value (some (.Name x p)) pos.line env = pure false) : wpAny M A (exec (.Assign [.Name x p] value pos) env) Q E s := by
  with_reducible exact wpAny_Assign_Name k hs
theorem x_asgS {o i : Expr} {p pos : Pos} {value : Expr} {Q : Flow → Shared → Prop} (k : wpAny M A (eval value env) (fun v s₁ => wpAny M A (eval o env) (fun ov s₂ => wpAny M A (eval i env) (fun iv s₃ =>
      wpAny M A (setItem ov iv v) (fun _ => Q .next) E s₃) E s₂) E s₁) E s)
    (hs : swapsWith value (some (.Subscript o i p)) pos.line env = pure false) : wpAny M A (exec (.Assign [.Subscript o i p] value pos) env) Q E s := by
  with_reducible exact wpAny_Assign_Subscript k hs
theorem x_aug {x : Str} {p pos : Pos} {op : Operator} {value : Expr} {Q : Flow → Shared → Prop} (k : wpAny M A (loadName env x) (fun old s₁ => wpAny M A (eval value env) (fun v s₂ => wpAny M A (inplaceOp op old v)
      (fun r s₃ => wpAny M A (storeName env x r) (fun _ => Q .next) E s₃) E s₂) E s₁) E s) : wpAny M A (exec (.AugAssign (.Name x p) op value pos) env) Q E s := by
  with_reducible exact wpAny_AugAssign_Name k
theorem x_expr {C : Cn} {L : Addr} {ks : List Str} {cs : List (Str × Addr)} {gs : List (Str × Value)} {e : Expr} {pos : Pos} {Q : Flow → Shared → Prop} (V : EnvF C env L ks cs gs) (k : wpAny C.M A (eval e env) (fun _ => Q .next) E s)
    (hs : swapsWith e none pos.line env = pure false) : wpAny C.M A (exec (.Expr e pos) env) Q E s := by
  refine wpAny_Expr_any k ?_ hs
  unfold interactive
  rw [V.kind]; rfl
theorem e_bin {l r : Expr} {op : Operator} {pos : Pos} {Q : Value → Shared → Prop} (k : wpAny M A (eval l env) (fun a s₁ => wpAny M A (eval r env) (fun b s₂ => wpAny M A (binaryOp op a b) Q E s₂) E s₁) E s) : wpAny M A (eval (.BinOp l op r pos) env) Q E s := by
  with_reducible exact wpAny_BinOp k
theorem e_un {x : Expr} {op : UnaryOp} {pos : Pos} {Q : Value → Shared → Prop} (k : wpAny M A (eval x env) (fun v s₁ => wpAny M A (unaryOp op v) Q E s₁) E s) : wpAny M A (eval (.UnaryOp op x pos) env) Q E s := by
  with_reducible exact UnaryOp_ k
theorem e_cmp {l r : Expr} {op : CmpOp} {pos : Pos} {Q : Value → Shared → Prop} (k : wpAny M A (eval l env) (fun a s₁ => wpAny M A (eval r env) (fun b s₂ => wpAny M A (compareOp op a b) Q E s₂) E s₁) E s)
    (hm : behindInMarks op r = false) : wpAny M A (eval (.Compare l [op] [r] pos) env) Q E s := by
  with_reducible exact wpAny_Compare1 k hm
theorem i_cmp {l r : Expr} {op : CmpOp} {pos : Pos} {whole : Sem Value} {Q : Bool → Shared → Prop} (k : wpAny M A (eval l env) (fun a s₁ => wpAny M A (eval r env) (fun b s₂ => wpAny M A (compareOp op a b)
      (fun c s₃ => wpAny M A (truthy c) Q E s₃) E s₂) E s₁) E s)
    (hm : behindInMarks op r = false) : wpAny M A (isTrue (.Compare l [op] [r] pos) env whole) Q E s := by
  with_reducible exact wpAny_isTrue_Compare1 k hm
theorem i_not {x : Expr} {pos : Pos} {whole : Sem Value} {Q : Bool → Shared → Prop} (k : wpAny M A (isTrue x env (eval x env)) (fun c s' => Q (!c) s') E s) : wpAny M A (isTrue (.UnaryOp .Not x pos) env whole) Q E s := by
  with_reducible exact isTrue_not k
theorem i_plain {e : Expr} {whole : Sem Value} {Q : Bool → Shared → Prop} (k : wpAny M A whole (fun v s₁ => wpAny M A (truthy v) Q E s₁) E s) (he : isTrue e env whole = (do let v ← whole; standAt e.pos; holding [v] (truthy v))) : wpAny M A (isTrue e env whole) Q E s := by
  with_reducible exact isTrue_plain k he
theorem e_sub {value slice : Expr} {pos : Pos} {Q : Value → Shared → Prop} (k : wpAny M A (eval value env) (fun o s₁ => wpAny M A (eval slice env) (fun i s₂ => wpAny M A (subscriptTail value slice o i) Q E s₂) E s₁) E s) : wpAny M A (eval (.Subscript value slice pos) env) Q E s := by
  with_reducible exact Subscript_ k
theorem e_call {x : Str} {p pos : Pos} {args : List Expr} {Q : Value → Shared → Prop} (k : wpAny M A (eval (.Name x p) env) (fun f s₁ => wpAny M A (callWith pos f [] (backTo pos (starEach args env)) []) Q E s₁) E s) : wpAny M A (eval (.Call (.Name x p) args [] pos) env) Q E s := by
  with_reducible refine Call_ k ?_
  rfl
theorem e_meth {o : Expr} {name : Str} {apos pos : Pos} {args : List Expr} {Q : Value → Shared → Prop} {pl : Sem Bool}
    (k : wpAny M A (eval o env) (fun ov s₁ => wpAny M A (getMethod ov name pl) (fun fx s₂ => wpAny M A (callWith pos fx.1 fx.2 (backTo pos (starEach args env)) []) Q E s₂) E s₁) E s)
    (he : eval (.Call (.Attribute o name apos) args [] pos) env = (do
      let ov ← eval o env
      standAt apos.atName
      let (f, first) ← holding [ov] (getMethod ov name pl)
      callWith pos f first (backTo pos (starEach args env)) [])) : wpAny M A (eval (.Call (.Attribute o name apos) args [] pos) env) Q E s := by
  with_reducible exact MethodCall_ k he
theorem cw_fn {q : Addr} {e : Expr} {rest : List Expr} {pos : Pos} {Q : Value → Shared → Prop} (X : FnAt q s.heap)
    (k : wpAny M A (spliced (backTo pos (starEach (e :: rest) env))) (fun vs s₁ => FnAt q s₁.heap ∧ wpAny M A (call (.ref q) vs) Q E s₁) E s)
    (he : starEach (e :: rest) env = (false, eval e env) :: starEach rest env) (hp : (backTo pos (starEach rest env)).any (·.1) = false) : wpAny M A (callWith pos (.ref q) [] (backTo pos (starEach (e :: rest) env)) []) Q E s :=
  callWith_F X (first := []) k he hp
theorem cw_blt {id : String} {e : Expr} {rest : List Expr} {pos : Pos} {Q : Value → Shared → Prop}
    (k : wpAny M A (spliced (backTo pos (starEach (e :: rest) env))) (fun vs s₁ => wpAny M A (call (.builtin id) vs) Q E s₁) E s)
    (he : starEach (e :: rest) env = (false, eval e env) :: starEach rest env) (hp : (backTo pos (starEach rest env)).any (·.1) = false) : wpAny M A (callWith pos (.builtin id) [] (backTo pos (starEach (e :: rest) env)) []) Q E s := by
  with_reducible exact PyProof.Rows.callWith_builtin1 k he hp

theorem fnAt_K {C : Cn} {h : Heap} {f : Addr} {oc : Value} {od : Option Addr} {fd : FuncData} {osl : Array (Option Value)} (ok : C.Ok) (H : Hp C h) (e : C.K.lookup f = some ⟨oc, od, .func fd, osl⟩) : FnAt f h := ⟨oc, od, fd, osl, H.1 _ _ (ok.ki _ _ e)⟩
end
end Mine

namespace Mine
section
variable {C : Cn} {A : Around} {E : Value → Shared → Prop} {c : Shared} {h : Heap} {tk : Nat} {env : Env} {X : List Addr} {base : Heap}

def LpW {σ : Type} (C : Cn) (c : Shared) (X : List Addr) (base : Heap) (N : σ → Led) (I : σ → Prop) (μ : σ → Nat) (m : Nat) (Q : Flow → Shared → Prop) : Flow → Shared → Prop := fun f s => match f with
  | .next | .cont => ∃ st h' tk', s = S c h' tk' ∧ In C X base h' (N st) ∧ I st ∧ μ st < m
  | .brk => Q .next s
  | .ret v => Q (.ret v) s
section
variable {σ : Type} {N : σ → Led} {I : σ → Prop} {μ : σ → Nat} {m : Nat} {Q : Flow → Shared → Prop}
theorem lw_next (st : σ) (H : In C X base h (N st)) (hi : I st) (hm : μ st < m) : LpW C c X base N I μ m Q .next (S c h tk) := ⟨st, h, tk, rfl, H, hi, hm⟩
end
theorem x_while {σ : Type} {test : Expr} {body : List Stmt} {pos : Pos} {Q : Flow → Shared → Prop} (N : σ → Led) (I : σ → Prop) (μ : σ → Nat) (st₀ : σ) (H : In C X base h (N st₀)) (h0 : I st₀)
    (turn : ∀ st h tk, In C X base h (N st) → I st → wpAny C.M A (isTrue test env (eval test env)) (fun b s₂ => Br b (wpAny C.M A (execs body env) (LpW C c X base N I μ (μ st) Q) (fun _ _ => False) s₂) (Q .next s₂)) (fun _ _ => False) (S c h tk)) :
    wpAny C.M A (exec (.While test body [] pos) env) Q E (S c h tk) := by
  refine wpAny_While (codeAny_whileLoop (fun k s => ∃ st h' tk', s = S c h' tk' ∧ In C X base h' (N st) ∧ I st ∧ k = μ st) ?_ (μ st₀) ⟨st₀, h, tk, rfl, H, h0, rfl⟩)
  rintro k s ⟨st, h', tk', rfl, H', hi, rfl⟩
  refine wpAny_mono (turn st h' tk' H' hi) (fun b s₂ q => ?_) fun _ _ q => q.elim
  cases b with
  | true =>
    simp only [if_true]
    refine wpAny_mono (show wpAny _ _ _ _ _ _ from q) (fun f s₃ q3 => ?_) fun _ _ q => q.elim
    cases f with
    | next => obtain ⟨st', h3, tk3, rfl, H3, i3, m3⟩ := q3; exact ⟨_, m3, st', h3, tk3, rfl, H3, i3, rfl⟩
    | cont => obtain ⟨st', h3, tk3, rfl, H3, i3, m3⟩ := q3; exact ⟨_, m3, st', h3, tk3, rfl, H3, i3, rfl⟩
    | brk => exact q3
    | ret v => exact q3
  | false =>
    simp only [Bool.false_eq_true, if_false]
    exact wpAny_pure (a := Flow.next) q

def LpF {σ : Type} (C : Cn) (c : Shared) (X : List Addr) (base : Heap) (N : σ → Led) (I : Nat → σ → Prop) (i : Nat) (p : Addr × OP) (Q : Flow → Shared → Prop) : Flow → Shared → Prop := fun f s => match f with
  | .next | .cont => ∃ st h' tk', s = S c h' tk' ∧ In C X base h' (p :: N st) ∧ I i st
  | .brk => Q .next s
  | .ret v => Q (.ret v) s
section
variable {σ : Type} {N : σ → Led} {I : Nat → σ → Prop} {i : Nat} {p : Addr × OP} {Q : Flow → Shared → Prop}
theorem lf_next (st : σ) (H : In C X base h (p :: N st)) (hi : I i st) : LpF C c X base N I i p Q .next (S c h tk) := ⟨st, h, tk, rfl, H, hi⟩
theorem lf_ret {s : Shared} {v : Value} (k : Q (.ret v) s) : LpF C c X base N I i p Q (.ret v) s := k
end

structure Src (C : Cn) (A : Around) (c : Shared) (X : List Addr) (base : Heap) (n₀ : Led) (it : Addr) (P : Nat → OP) (len : Nat) (V : Nat → Value → Prop) : Prop where
  next : ∀ i n h tk (Q : Option Value → Shared → Prop) (E : Value → Shared → Prop), i < len → In C X base h ((it, P i) :: n) → (∀ p ∈ n₀, p ∈ n) →
    (∀ v h' tk', V i v → In C X base h' ((it, P (i + 1)) :: n) → Kp C [it] h h' → Q (some v) (S c h' tk')) → wpAny C.M A (pyNext (.ref it)) Q E (S c h tk)
  fin : ∀ n h tk (Q : Option Value → Shared → Prop) (E : Value → Shared → Prop), In C X base h ((it, P len) :: n) → (∀ p ∈ n₀, p ∈ n) → (∀ h' tk', In C X base h' n → Kp C [it] h h' → Q none (S c h' tk')) → wpAny C.M A (pyNext (.ref it)) Q E (S c h tk)
  self : ∀ n h tk (Q : Value → Shared → Prop) (E : Value → Shared → Prop), In C X base h ((it, P 0) :: n) → Q (.ref it) (S c h tk) → wpAny C.M A (pyIter (.ref it)) Q E (S c h tk)

theorem In.kpExt {d : Addr} {P : OP} {n : Led} {h' : Heap} (H : In C X base h ((d, P) :: n)) (H' : Hp C h') (hs : Heap.ExtBut d h h') : Kp C [d] h h' := ⟨fun b o _ hx e => hs b o (fun q => hx (List.mem_singleton.mpr q)) e, H'⟩

theorem for_core {σ : Type} {target : Expr} {body : List Stmt} {Q : Flow → Shared → Prop} (N : σ → Led) (I : Nat → σ → Prop) {n₀ : Led} {it : Addr} {P : Nat → OP} {len : Nat} {V : Nat → Value → Prop} (st₀ : σ)
    (Sr : Src C A c X base n₀ it P len V) (hN : ∀ st, ∀ p ∈ n₀, p ∈ N st)
    (go : ∀ v, letOwnedTupleGo target (.ref it) v = pure ())
    (H : In C X base h ((it, P 0) :: N st₀)) (h0 : I 0 st₀)
    (turn : ∀ i v st h tk, i < len → V i v → I i st → In C X base h ((it, P (i + 1)) :: N st) →
      wpAny C.M A (assign target env v) (fun _ s₁ => wpAny C.M A (execs body env) (LpF C c X base N I (i + 1) (it, P (i + 1)) Q) (fun _ _ => False) s₁) (fun _ _ => False) (S c h tk))
    (done : ∀ st h tk, I len st → In C X base h (N st) → Q .next (S c h tk)) :
    codeAny C.M A (.forLoop target (.ref it) body [] env) (fun r s' => match r with | .ok f => Q f s' | .error e => cameBackBy C.M A env E e s') (S c h tk) := by
  refine codeAny_forLoop (fun k s => ∃ i st h' tk', s = S c h' tk' ∧ In C X base h' ((it, P i) :: N st) ∧ I i st ∧ i ≤ len ∧ k = len - i) ?_ len ⟨0, st₀, h, tk, rfl, H, h0, Nat.zero_le _, rfl⟩ go
  rintro k s ⟨i, st, h', tk', rfl, H', hi, hle, rfl⟩
  by_cases hlt : i < len
  · refine Sr.next i _ h' tk' _ _ hlt H' (hN st) fun v h2 tk2 hv H2 _ => ?_
    refine wpAny_mono (turn i v st h2 tk2 hlt hv hi H2) (fun _ s₁ q => ?_) fun _ _ q => q.elim
    refine wpAny_mono q (fun f s₃ q3 => ?_) fun _ _ q => q.elim
    cases f with
    | next => obtain ⟨st', h3, tk3, rfl, H3, i3⟩ := q3; exact ⟨len - (i + 1), by omega, i + 1, st', h3, tk3, rfl, H3, i3, hlt, rfl⟩
    | cont => obtain ⟨st', h3, tk3, rfl, H3, i3⟩ := q3; exact ⟨len - (i + 1), by omega, i + 1, st', h3, tk3, rfl, H3, i3, hlt, rfl⟩
    | brk => exact q3
    | ret v => exact q3
  · have e : i = len := by omega
    subst e
    exact Sr.fin _ h' tk' _ _ H' (hN st) fun h2 tk2 H2 _ => wpAny_pure (a := Flow.next) (done st h2 tk2 hi H2)

def PRange (a b : Int) : OP := fun o => ∃ t u v, o = { cls := .type "range", dict := none, data := .fields #[.int a t, .int b u, .int 1 v], slots := #[] }
def PRIter (x left : Int) : OP := fun o => o = { cls := .type "range_iterator", dict := none, data := .fields #[rawInt x, rawInt left, rawInt 1], slots := #[] }
theorem PRIter.mut {x left : Int} : ∀ o, PRIter x left o → Mut o := by
  rintro _ rfl vs y t e h1
  cases e
  simp [rawInt] at h1
theorem At.rIter {l : Addr} {x left : Int} (q : At C h l (PRIter x left)) : IsRangeIter h l x left 1 := by obtain ⟨_, o, e, rfl⟩ := q; exact e
theorem src_range {it : Addr} {a : Int} {m : Nat} {n₀ : Led} (ok : C.Ok) (hh : A.handled = none) : Src C A c X base n₀ it (fun i => PRIter (a + i) ((m : Int) - i)) m (fun i v => ∃ t, v = .int (a + i) t) where
  next := fun i n h tk Q E hi H hn k => by
    refine wpAny_pyNext_range_item (H.at List.mem_cons_self).rIter (by omega) fun h2 hit hs => ?_
    have e1 : a + (i : Int) + 1 = a + ((i + 1 : Nat) : Int) := by push_cast; omega
    have e2 : (m : Int) - i - 1 = (m : Int) - ((i + 1 : Nat) : Int) := by push_cast; omega
    rw [e1, e2] at hit
    have H2 := H.upd' ok (P' := PRIter (a + ((i + 1 : Nat) : Int)) ((m : Int) - ((i + 1 : Nat) : Int))) Ch.hit PRIter.mut hs ⟨_, hit, rfl⟩
    exact k _ h2 _ ⟨_, rfl⟩ H2 (H.kpExt H2.hp hs.extBut)
  fin := fun n h tk Q E H hn k => by
    refine wpAny_pyNext_range_end hh (H.at List.mem_cons_self).rIter (by omega) fun h2 hs => ?_
    have H2 := H.ext ok PRIter.mut hs
    exact k h2 _ H2 (H.kpExt H2.hp hs)
  self := fun n h tk Q E H k => wpAny_pyIter_rangeiter (H.at List.mem_cons_self).rIter k

def PRev (l : Addr) (i : Int) : OP := fun o => o.cls = .type "list_reverseiterator" ∧ o.data = .fields #[.ref l, rawInt i]
theorem PRev.mut {l : Addr} {i : Int} : ∀ o, PRev l i o → Mut o := by
  rintro o ⟨_, e⟩ vs y t e' h1
  rw [e] at e'; cases e'
  simp [rawInt] at h1
theorem At.rev {l a : Addr} {i : Int} (q : At C h a (PRev l i)) : h.IsRevIter a l i := let ⟨_, o, e, p⟩ := q; ⟨o, e, p⟩
def ForQ (C : Cn) (A : Around) (env : Env) (target : Expr) (body : List Stmt) (Q : Flow → Shared → Prop) (E : Value → Shared → Prop) : Value → Shared → Prop :=
  fun it s₂ => codeAny C.M A (.forLoop target it body [] env) (fun r s' => match r with | .ok f => Q f s' | .error e => cameBackBy C.M A env E e s') s₂
theorem x_for {target iter : Expr} {body : List Stmt} {pos : Pos} {Q : Flow → Shared → Prop} {s : Shared}
    (k : wpAny C.M A (eval iter env) (fun x s₁ => wpAny C.M A (pyIter x) (ForQ C A env target body Q E) E s₁) E s)
    (hs : ∀ x, foldedSetIterable iter env x = pure x) : wpAny C.M A (exec (.For target iter body [] pos) env) Q E s := wpAny_For k hs

theorem for_range {σ : Type} {target : Expr} {body : List Stmt} {Q : Flow → Shared → Prop} {r : Addr} {a b : Int} {m : Nat} (N : σ → Led) (I : Nat → σ → Prop) (st₀ : σ) (ok : C.Ok) (hh : A.handled = none)
    (hr : At C h r (PRange a b)) (hb : Builtin.Range.rangeSize a b 1 = (m : Int)) (hs : Builtin.Range.small a b 1 = true)
    (go : ∀ it v, letOwnedTupleGo target (.ref it) v = pure ())
    (H : In C X base h (N st₀)) (h0 : I 0 st₀)
    (turn : ∀ i v it st h tk, i < m → (∃ t, v = .int (a + (i : Nat)) t) → I i st → In C X base h ((it, PRIter (a + ((i + 1 : Nat) : Int)) ((m : Int) - ((i + 1 : Nat) : Int))) :: N st) →
      wpAny C.M A (assign target env v) (fun _ s₁ => wpAny C.M A (execs body env) (LpF C c X base N I (i + 1) (it, PRIter (a + ((i + 1 : Nat) : Int)) ((m : Int) - ((i + 1 : Nat) : Int))) Q) (fun _ _ => False) s₁) (fun _ _ => False) (S c h tk))
    (done : ∀ st h tk, I m st → In C X base h (N st) → Q .next (S c h tk)) :
    wpAny C.M A (pyIter (.ref r)) (ForQ C A env target body Q E) E (S c h tk) := by
  obtain ⟨_, o, e, t, u, v, rfl⟩ := hr
  refine wpAny_pyIter_range (show IsRange h r a b 1 t u v from e) hs ?_
  rw [hb]
  refine for_core N I st₀ (n₀ := []) (P := fun i => PRIter (a + (i : Nat)) ((m : Int) - (i : Nat))) (src_range ok hh) (fun _ _ hp => nomatch hp) (go _) (H.new ok rfl ?_) h0 (fun i v st h tk hi hv i' H' => turn i v _ st h tk hi hv i' H') done
  show PRIter _ _ _
  simp only [Int.natCast_zero, Int.add_zero, Int.sub_zero]
  rfl
end
end Mine

namespace Mine
section
variable {C : Cn} {A : Around} {E : Value → Shared → Prop} {c : Shared} {h : Heap} {tk : Nat} {env : Env} {L : Addr} {ks : List Str} {cs : List (Str × Addr)} {gs : List (Str × Value)} {X : List Addr} {base : Heap} {n n' : Led}

theorem In.sub (H : In C X base h n) (hs : ∀ p ∈ n', p ∈ n) (hn : (n'.map (·.1)).Nodup) : In C X base h n' := ⟨H.keep, H.hp, fun p hp => H.ent p (hs p hp), hn⟩
theorem In.perm (H : In C X base h n) (hp : n.Perm n') : In C X base h n' := H.sub (fun p q => hp.mem_iff.mpr q) ((hp.map (·.1)).nodup_iff.mp H.nodup)

theorem lookup_relabel (env : Env) : ∀ (names : List (Str × NameKind)) (x : Str),
    (names.map fun (n, k) => if (k == NameKind.free && env.scope.kind == .function && env.kindOf n == some .cell) then (n, NameKind.cell) else (n, k)).lookup x =
      (names.lookup x).map fun k => if (k == NameKind.free && env.scope.kind == .function && env.kindOf x == some .cell) then NameKind.cell else k
  | [], _ => rfl
  | (n, k) :: r, x => by
    have ih := lookup_relabel env r x
    show List.lookup x ((if (k == NameKind.free && env.scope.kind == .function && env.kindOf n == some .cell) = true then (n, NameKind.cell) else (n, k)) :: _) = _
    cases hx : x == n with
    | true =>
      have e := eq_of_beq hx
      subst e
      simp only [List.lookup_cons, hx, Option.map_some]
      by_cases hc : (k == NameKind.free && env.scope.kind == .function && env.kindOf x == some .cell) = true
      · rw [if_pos hc, if_pos hc]; simp [List.lookup_cons]
      · rw [if_neg hc, if_neg hc]; simp [List.lookup_cons]
    | false =>
      by_cases hc : (k == NameKind.free && env.scope.kind == .function && env.kindOf n == some .cell) = true
      · rw [if_pos hc]; simp only [List.lookup_cons, hx]; exact ih
      · rw [if_neg hc]; simp only [List.lookup_cons, hx]; exact ih

structure Cs (scope : Scope) (ks fs oc : List Str) (gn : List Str) : Prop where
  nd : ks.Nodup
  kl : ∀ x ∈ ks, scope.names.lookup x = some .local ∧ (x == ("__debug__" : Str)) = false
  kf : ∀ x ∈ fs, scope.names.lookup x = some .free ∧ (x == ("__classdict__" : Str)) = false ∧ (x == ("__debug__" : Str)) = false
  ko : ∀ x ∈ oc, scope.names.lookup x = some .cell ∧ (x == ("__debug__" : Str)) = false
  kg : ∀ x ∈ gn, scope.names.lookup x = some .globalImplicit ∧ (x == ("__debug__" : Str)) = false
  hf : ∀ p ∈ scope.names, p.2 = .free → p.1 ∈ fs
  hn : ∀ p ∈ scope.names, p.2 = .local → scope.names.lookup p.1 = some .local
  kind : scope.kind = .function

theorem closure_of {fs : List Str} (hc : ∀ x ∈ fs, ∃ a, env.cells.lookup x = some a) : ∀ (names : List (Str × NameKind)) (acc : List (Str × Addr)), (∀ p ∈ names, p.2 = .free → p.1 ∈ fs) →
    ∃ cl, (forIn names acc fun (x : Str × NameKind) (r : List (Str × Addr)) => (match x with | (name, kind) => if (kind == NameKind.free) = true then (do let a ← cellOf env name; pure (ForInStep.yield ((name, a) :: r))) else pure (ForInStep.yield r) : Sem (ForInStep (List (Str × Addr))))) = pure cl ∧
      ∀ x a, env.cells.lookup x = some a → ((∃ k, (x, k) ∈ names ∧ k = NameKind.free) ∨ acc.lookup x = some a) → cl.lookup x = some a
  | [], acc, _ => ⟨acc, rfl, fun x a _ h => h.elim (fun ⟨_, q, _⟩ => (nomatch q)) id⟩
  | (y, k) :: r, acc, hf => by
    rw [List.forIn_cons]
    by_cases hk : (k == NameKind.free) = true
    · obtain ⟨b, hb⟩ := hc y (hf (y, k) List.mem_cons_self (eq_of_beq hk))
      obtain ⟨cl, e, hl⟩ := closure_of hc r ((y, b) :: acc) fun p hp => hf p (List.mem_cons_of_mem _ hp)
      refine ⟨cl, ?_, fun x a ha h => hl x a ha ?_⟩
      · simp only [hk, if_true]
        have e2 : (cellOf env y : Sem Addr) = pure b := by unfold cellOf; rw [hb]
        rw [e2]
        exact e
      · by_cases q : x = y
        · subst q
          rw [hb] at ha; cases ha
          exact .inr (by simp [List.lookup_cons])
        · rcases h with ⟨k', m, e'⟩ | h
          · rcases List.mem_cons.mp m with m | m
            · exact absurd (Prod.mk.inj m).1 q
            · exact .inl ⟨k', m, e'⟩
          · refine .inr ?_
            rw [List.lookup_cons, beq_eq_false_iff_ne.mpr q]
            exact h
    · obtain ⟨cl, e, hl⟩ := closure_of hc r acc fun p hp => hf p (List.mem_cons_of_mem _ hp)
      refine ⟨cl, ?_, fun x a ha h => hl x a ha ?_⟩
      · simp only [hk]
        exact e
      · rcases h with ⟨k', m, e'⟩ | h
        · rcases List.mem_cons.mp m with m | m
          · obtain ⟨_, e2⟩ := Prod.mk.inj m
            subst e2
            exact absurd (by rw [e']; rfl) hk
          · exact .inl ⟨k', m, e'⟩
        · exact .inr h

theorem closureFor_of (V : EnvF C env L ks cs gs) {scope : Scope} {ks' fs oc gn : List Str} (D : Cs scope ks' fs oc gn) (hfc : ∀ x ∈ fs, ∃ a, (x, a) ∈ cs) :
    ∃ cl, closureFor scope env = pure cl ∧ ∀ x ∈ fs, ∀ a, (x, a) ∈ cs → cl.lookup x = some a := by
  obtain ⟨cl, e, hl⟩ := closure_of (env := env) (fs := fs) (fun x hx => let ⟨a, ha⟩ := hfc x hx; ⟨a, (V.kc _ ha).2.1⟩) scope.names [] D.hf
  refine ⟨cl, ?_, fun x hx a ha => hl x a (V.kc _ ha).2.1 (.inl ⟨.free, mem_of_lookup (D.kf x hx).1, rfl⟩)⟩
  unfold closureFor
  exact (congrArg (fun m : Sem (List (Str × Addr)) => m >>= fun r => pure r) e).trans rfl

def cEnv (scope : Scope) (cl : List (Str × Addr)) (C' : Addr) (env : Env) : Env :=
  { scope := relabel scope env, locals := C', globals := env.globals, cells := cl, qual := env.qual, func := none, code := env.code, frame := env.frame, builtins := env.builtins }

theorem relabel_kind (V : EnvF C env L ks cs gs) {scope : Scope} {cl : List (Str × Addr)} {C' : Addr} {x : Str} {k : NameKind} (h : scope.names.lookup x = some k) :
    (cEnv scope cl C' env).kindOf x = some k ∨ (k = .free ∧ (cEnv scope cl C' env).kindOf x = some .cell) := by
  have e : (cEnv scope cl C' env).kindOf x = (scope.names.lookup x).map fun k => if (k == NameKind.free && env.scope.kind == .function && env.kindOf x == some .cell) then NameKind.cell else k := lookup_relabel env scope.names x
  rw [e, h, Option.map_some]
  by_cases q : (k == NameKind.free && env.scope.kind == .function && env.kindOf x == some .cell) = true
  · rw [if_pos q]
    refine .inr ⟨?_, rfl⟩
    simp only [Bool.and_eq_true] at q
    exact eq_of_beq q.1.1
  · rw [if_neg q]; exact .inl rfl

theorem envF_comp (V : EnvF C env L ks cs gs) {scope : Scope} {ks' fs oc gn : List Str} (D : Cs scope ks' fs oc gn) {cl : List (Str × Addr)} {cs' : List (Str × Addr)} {gs' : List (Str × Value)} (C' : Addr)
    (hcl : ∀ p ∈ cs', (p.1 ∈ fs ∨ p.1 ∈ oc) ∧ cl.lookup p.1 = some p.2) (hg : ∀ p ∈ gs', p.1 ∈ gn ∧ GVal C p.1 p.2) : EnvF C (cEnv scope cl C' env) C' ks' cs' gs' where
  kind := D.kind
  loc := rfl
  glb := V.glb
  blt := V.blt
  kl := fun x hx => by
    obtain ⟨a, b⟩ := D.kl x hx
    rcases relabel_kind V (cl := cl) (C' := C') a with q | ⟨q, _⟩
    · exact ⟨q, b⟩
    · cases q
  kc := fun p hp => by
    obtain ⟨a, b⟩ := hcl p hp
    rcases a with a | a
    · obtain ⟨e1, e2, e3⟩ := D.kf _ a
      rcases relabel_kind V (cl := cl) (C' := C') e1 with q | ⟨_, q⟩
      · exact ⟨.inr ⟨q, e2⟩, b, e3⟩
      · exact ⟨.inl q, b, e3⟩
    · obtain ⟨e1, e3⟩ := D.ko _ a
      rcases relabel_kind V (cl := cl) (C' := C') e1 with q | ⟨q, _⟩
      · exact ⟨.inl q, b, e3⟩
      · cases q
  kg := fun p hp => by
    obtain ⟨a, b⟩ := hg p hp
    obtain ⟨e1, e3⟩ := D.kg _ a
    rcases relabel_kind V (cl := cl) (C' := C') e1 with q | ⟨q, _⟩
    · exact ⟨q, b, e3⟩
    · cases q

theorem newNs (cls : String) (ks : List Str) (hn : ks.Nodup) : PLoc ks (ks.map fun _ => none) { cls := .type cls, data := .dict #[] } :=
  ⟨#[], 0, rfl, fun _ he => by simp at he, hn, fun i x v _ h => by
    rw [List.getElem?_map] at h
    cases q : ks[i]? with
    | none => rw [q] at h; cases h
    | some z => rw [q] at h; cases h⟩

theorem ne_plain {scope : Scope} {cl : List (Str × Addr)} {ks' : List Str} {Q : Env → Shared → Prop} (ok : C.Ok) (H : In C X base h n) (hn : ks'.Nodup) (hcell : ∀ p ∈ scope.names, p.2 ≠ .cell) (hk : scope.kind = .function)
    (k : ∀ C' h' tk', In C X base h' ((C', PLoc ks' (ks'.map fun _ => none)) :: n) → Q (newEnv scope C' env.globals cl env.qual none .none (some env) builtinsNs) (S c h' tk')) :
    wpAny C.M A (newFunctionEnv scope env.globals cl [] env.qual none .none (some env)) Q E (S c h tk) := by
  refine wpAny_newFunctionEnv hcell (by intro x hx; cases hx) (fun h' hns hsb => k _ h' _ ?_) hk
  have e0 : At C (h.push { cls := .type "dict", data := .dict #[] }) h.objs.size (PLoc ks' (ks'.map fun _ => none)) := ⟨(H.hp.fresh ok (Nat.le_refl _)).1, _, Heap.get?_push_size _ rfl, newNs _ _ hn⟩
  have H1 := H.new (P := PLoc ks' (ks'.map fun _ => none)) ok (o := { cls := .type "dict", data := .dict #[] }) rfl (newNs _ _ hn)
  refine H1.upd' ok Ch.hit PLoc.mut hsb ?_
  obtain ⟨o, es, ep, e1, e2, e3, e4⟩ := hns
  refine ⟨o, e1, es, ep, e2, e3, hn, fun i x v _ hv => ?_⟩
  rw [List.getElem?_map] at hv
  cases q : ks'[i]? with
  | none => rw [q] at hv; cases hv
  | some z => rw [q] at hv; cases hv

def CpE {σ : Type} (C : Cn) (c : Shared) (X : List Addr) (base : Heap) (N : σ → Led) (J : Nat → List Value → Heap → Prop) (i : Nat) (ys : List Value) (it : Addr × OP) (D : Addr) : Value → Shared → Prop :=
  fun y s => ∃ st h tk, s = S c h tk ∧ In C X base h (it :: (D, PList ys) :: N st) ∧ (∀ h', Kp C [D] h h' → J i (ys ++ [y]) h')
def CpS {σ : Type} (C : Cn) (c : Shared) (X : List Addr) (base : Heap) (N : σ → Led) (J : Nat → List Value → Heap → Prop) (i : Nat) (ys : List Value) (it : Addr × OP) (D : Addr) : Shared → Prop :=
  fun s => ∃ st h tk, s = S c h tk ∧ In C X base h (it :: (D, PList ys) :: N st) ∧ J i ys h
section
variable {σ : Type} {N : σ → Led} {J : Nat → List Value → Heap → Prop} {i : Nat} {ys : List Value} {it : Addr × OP} {D : Addr}
theorem cp_elt {y : Value} (st : σ) (H : In C X base h (it :: (D, PList ys) :: N st)) (hj : ∀ h', Kp C [D] h h' → J i (ys ++ [y]) h') : CpE C c X base N J i ys it D y (S c h tk) := ⟨st, h, tk, rfl, H, hj⟩
theorem cp_skip (st : σ) (H : In C X base h (it :: (D, PList ys) :: N st)) (hj : J i ys h) : CpS C c X base N J i ys it D (S c h tk) := ⟨st, h, tk, rfl, H, hj⟩
end

def tests (M : Model) (ifs : List Expr) (env : Env) : Sem Bool := forIn ifs true fun c r => if r = true then do let ok ← isTrue c env (eval c env); pure (ForInStep.yield ok) else pure (ForInStep.yield r)
theorem tests_nil {Q : Bool → Shared → Prop} {s : Shared} (k : Q true s) : wpAny C.M A (tests C.M [] env) Q E s := wpAny_pure (a := true) k
theorem tests_one {e : Expr} {Q : Bool → Shared → Prop} {s : Shared} (k : wpAny C.M A (isTrue e env (eval e env)) Q E s) : wpAny C.M A (tests C.M [e] env) Q E s := by
  unfold tests
  rw [List.forIn_cons]
  simp only [if_true]
  refine wpAny_bind (wpAny_bind (wpAny_mono k (fun b s q => wpAny_pure ?_) fun _ _ q => q))
  exact wpAny_pure (a := b) q

theorem comp_loop {σ : Type} {elt target iter : Expr} {ifs : List Expr} {scope : Scope} {pos : Pos} {R : Result → Shared → Prop} (N : σ → Led) (J : Nat → List Value → Heap → Prop) {n₀ : Led} {it D : Addr} {P : Nat → OP} {len : Nat} {V : Nat → Value → Prop} (st₀ : σ)
    (ok : C.Ok) (Sr : Src C A c X base n₀ it P len V) (hN : ∀ st, ∀ p ∈ n₀, p ∈ N st) (hz : len ≤ sizeLine)
    (Jm : ∀ i ys h h', J i ys h → Kp C [it] h h' → J i ys h')
    (go : ∀ v, letOwnedTupleGo target (.ref it) v = pure ())
    (H : In C X base h ((it, P 0) :: (D, PList []) :: N st₀)) (h0 : J 0 [] h)
    (turn : ∀ i v st ys h tk, i < len → V i v → J i ys h → In C X base h ((it, P (i + 1)) :: (D, PList ys) :: N st) →
      wpAny C.M A (assign target env v) (fun _ s₂ => wpAny C.M A (tests C.M ifs env) (fun b s₃ =>
        Br b (wpAny C.M A (eval elt env) (CpE C c X base N J (i + 1) ys (it, P (i + 1)) D) (fun _ _ => False) s₃) (CpS C c X base N J (i + 1) ys (it, P (i + 1)) D s₃)) (fun _ _ => False) s₂) (fun _ _ => False) (S c h tk))
    (done : ∀ st ys h tk, J len ys h → ys.length ≤ len → In C X base h ((D, PList ys) :: N st) → R (.ok .next) (S c h tk)) :
    codeAny C.M A (.compStart (.ListComp elt [⟨target, iter, ifs, 0⟩] scope pos) 0 (.ref it) (.ref D) env) R (S c h tk) := by
  have loop : codeAny C.M A (.compLoop (.ListComp elt [⟨target, iter, ifs, 0⟩] scope pos) 0 (.ref it) (.ref D) env) R (S c h tk) := by
    refine codeAny_compLoop_tests (fun k s => ∃ i st ys h' tk', s = S c h' tk' ∧ In C X base h' ((it, P i) :: (D, PList ys) :: N st) ∧ J i ys h' ∧ ys.length ≤ i ∧ i ≤ len ∧ k = len - i) ?_ len ⟨0, st₀, [], h, tk, rfl, H, h0, Nat.le_refl _, Nat.zero_le _, rfl⟩ go
    rintro k s ⟨i, st, ys, h', tk', rfl, H', hj, hy, hle, rfl⟩
    have hN' : ∀ p ∈ n₀, p ∈ (D, PList ys) :: N st := fun p q => List.mem_cons_of_mem _ (hN st p q)
    by_cases hlt : i < len
    · refine Sr.next i _ h' tk' _ _ hlt H' hN' fun v h2 tk2 hv H2 K2 => ?_
      refine wpAny_mono (turn i v st ys h2 tk2 hlt hv (Jm _ _ _ _ hj K2) H2) (fun _ s₂ q => ?_) fun _ _ q => q.elim
      refine wpAny_mono q (fun b s₃ q3 => ?_) fun _ _ q => q.elim
      cases b with
      | true =>
        simp only [if_true]
        refine wpAny_mono (show wpAny _ _ _ _ _ _ from q3) (fun y s₄ q4 => ?_) fun _ _ q => q.elim
        obtain ⟨st', h4, tk4, rfl, H4, j4⟩ := q4
        refine wpAny_list_append_plain (H4.at (List.mem_cons_of_mem _ List.mem_cons_self)).plain (fun h5 hp hs => ?_) (by rw [List.size_toArray]; omega)
        have H5 := H4.upd' ok (P' := PList (ys ++ [y])) (.skip .hit) PList.mut hs (by obtain ⟨m, e⟩ := hp; exact ⟨_, e, m, by rw [List.push_toArray]⟩)
        refine ⟨len - (i + 1), by omega, i + 1, st', ys ++ [y], h5, tk4, rfl, H5, j4 h5 ⟨fun b o _ hx e => hs.extBut b o (fun q => hx (List.mem_singleton.mpr q)) e, H5.hp⟩, ?_, hlt, rfl⟩
        rw [List.length_append, List.length_singleton]; omega
      | false =>
        simp only [Bool.false_eq_true, if_false]
        obtain ⟨st', h4, tk4, rfl, H4, j4⟩ := (show CpS _ _ _ _ _ _ _ _ _ _ _ from q3)
        exact ⟨len - (i + 1), by omega, i + 1, st', ys, h4, tk4, rfl, H4, j4, by omega, hlt, rfl⟩
    · have e : i = len := by omega
      subst e
      exact Sr.fin _ h' tk' _ _ H' hN' fun h2 tk2 H2 K2 => done st ys h2 tk2 (Jm _ _ _ _ hj K2) hy H2
  exact codeAny_compStart_list loop (Sr.self _ h tk _ _ H loop)

def CompK (C : Cn) (A : Around) (E : Value → Shared → Prop) (scope : Scope) (cl : List (Str × Addr)) (env : Env) (e : Expr) (use : Option (Value → Sem Unit)) (Q : Value → Shared → Prop) : Value → Shared → Prop :=
  fun it s₂ => wpAny C.M A (newList []) (fun acc s₃ => wpAny C.M A (newFunctionEnv scope env.globals cl [] env.qual none .none (some env)) (fun cenv s₄ =>
        codeAny C.M A (.compStart e 0 it acc { cenv with scope := relabel scope env }) (compPost C.M A E use Q acc cenv.locals) s₄) E s₃) E s₂

theorem e_comp {elt target iter : Expr} {ifs : List Expr} {scope : Scope} {pos : Pos} {Q : Value → Shared → Prop} {s : Shared} {ks' fs oc gn : List Str} (V : EnvF C env L ks cs gs) (D : Cs scope ks' fs oc gn) (hfc : ∀ x ∈ fs, ∃ a, (x, a) ∈ cs)
    (hs : ∀ x, foldedSetIterable iter env x = pure x)
    (k : ∀ cl, (∀ x ∈ fs, ∀ a, (x, a) ∈ cs → cl.lookup x = some a) → wpAny C.M A (eval iter env) (fun x s₁ => wpAny C.M A (pyIter x) (CompK C A E scope cl env (.ListComp elt [⟨target, iter, ifs, 0⟩] scope pos) none Q) E s₁) E s) :
    wpAny C.M A (eval (.ListComp elt [⟨target, iter, ifs, 0⟩] scope pos) env) Q E s := by
  obtain ⟨cl, e, hl⟩ := closureFor_of V D hfc
  rw [eval_ListComp]
  exact wpAny_comprehension_free (use := none) rfl hs e D.kind D.hn (k cl hl)

theorem x_asgLC {elt target iter : Expr} {ifs : List Expr} {scope : Scope} {x : Str} {px pos spos : Pos} {Q : Flow → Shared → Prop} {s : Shared} {ks' fs oc gn : List Str} (V : EnvF C env L ks cs gs) (D : Cs scope ks' fs oc gn) (hfc : ∀ x ∈ fs, ∃ a, (x, a) ∈ cs)
    (hx : x ∈ ks) (hl : (spos.line == pos.line) = true) (hp : (px.line == pos.line) = true) (hno : (scope.names.any fun (n, k) => n == x && (k == .local || k == .cell)) = false)
    (hs : ∀ x, foldedSetIterable iter env x = pure x)
    (k : ∀ cl, (∀ x ∈ fs, ∀ a, (x, a) ∈ cs → cl.lookup x = some a) → wpAny C.M A (eval iter env) (fun y s₁ => wpAny C.M A (pyIter y) (CompK C A E scope cl env (.ListComp elt [⟨target, iter, ifs, 0⟩] scope pos) (some (assign (.Name x px) env)) (fun _ s' => Q .next s')) E s₁) E s) :
    wpAny C.M A (exec (.Assign [.Name x px] (.ListComp elt [⟨target, iter, ifs, 0⟩] scope pos) spos) env) Q E s := by
  obtain ⟨cl, e, hl⟩ := closureFor_of V D hfc
  have hsw : swapsWith (.ListComp elt [⟨target, iter, ifs, 0⟩] scope pos) (some (.Name x px)) spos.line env = pure true := by
    have e1 : (env.blockKind == .function) = true := by unfold Env.blockKind; rw [V.kind]; rfl
    have e2 : (env.kindOf x == some .local) = true := by rw [(V.kl x hx).1]; rfl
    show (pure (env.blockKind == .function && env.kindOf x == some .local && px.line == pos.line && !(scope.names.any fun (n, k) => n == x && (k == .local || k == .cell))) : Sem Bool) = pure true
    rw [e1, e2, hp, hno]; rfl
  rw [exec_Assign_Name_used _ _ _ _ hsw]
  refine wpAny_bind (wpAny_standAt (wpAny_bind ?_))
  show wpAny _ A (do let _ ← comprehension (.ListComp elt [⟨target, iter, ifs, 0⟩] scope pos) scope env _ (newList []) false (eval iter env) (some (assign (.Name x px) env))) _ _ s
  refine wpAny_bind (wpAny_mono (wpAny_comprehension_free (use := some (assign (.Name x px) env)) (Q := fun _ s' => Q .next s') rfl hs e D.kind D.hn (k cl hl)) (fun _ s' hq => wpAny_pure (wpAny_pure hq)) fun _ _ e => e)

theorem pit_list {l : Addr} {vs : List Value} {Q : Value → Shared → Prop} (ok : C.Ok) (H : In C X base h n) (hl : h.IsList l vs.toArray) (k : ∀ it h', In C X base h' ((it, PIter l 0) :: n) → Q (.ref it) (S c h' tk)) : wpAny C.M A (pyIter (.ref l)) Q E (S c h tk) :=
  wpAny_pyIter_list hl (k _ _ (H.new ok rfl ⟨rfl, rfl⟩))
theorem pit_range {r : Addr} {a b : Int} {m : Nat} {Q : Value → Shared → Prop} (ok : C.Ok) (H : In C X base h n) (hr : At C h r (PRange a b)) (hb : Builtin.Range.rangeSize a b 1 = (m : Int)) (hs : Builtin.Range.small a b 1 = true)
    (k : ∀ it h', In C X base h' ((it, PRIter (a + ((0 : Nat) : Int)) ((m : Int) - ((0 : Nat) : Int))) :: n) → Q (.ref it) (S c h' tk)) : wpAny C.M A (pyIter (.ref r)) Q E (S c h tk) := by
  obtain ⟨_, o, e, t, u, v, rfl⟩ := hr
  refine wpAny_pyIter_range (show IsRange h r a b 1 t u v from e) hs (k _ _ (H.new ok rfl ?_))
  rw [hb]
  show PRIter _ _ _
  simp only [Int.natCast_zero, Int.add_zero, Int.sub_zero]
  rfl

theorem ck_0 {elt target iter : Expr} {ifs : List Expr} {scope : Scope} {cl : List (Str × Addr)} {pos : Pos} {use : Option (Value → Sem Unit)} {Q : Value → Shared → Prop} {ks' fs gn : List Str} {cs' : List (Str × Addr)} {gs' : List (Str × Value)}
    {n₀ : Led} {it : Addr} {P : Nat → OP} {len : Nat} {W : Nat → Value → Prop} (J : Nat → List Value → Heap → Prop)
    (ok : C.Ok) (V : EnvF C env L ks cs gs) (D : Cs scope ks' fs [] gn) (hcell : ∀ p ∈ scope.names, p.2 ≠ .cell) (hcs : ∀ p ∈ cs', p.1 ∈ fs ∧ p ∈ cs) (hgs : ∀ p ∈ gs', p.1 ∈ gn ∧ GVal C p.1 p.2) (hcl : ∀ x ∈ fs, ∀ a, (x, a) ∈ cs → cl.lookup x = some a)
    (Sr : Src C A c X base n₀ it P len W) (hN : ∀ p ∈ n₀, p ∈ n) (hz : len ≤ sizeLine)
    (Jm : ∀ i ys h h', J i ys h → Kp C [it] h h' → J i ys h')
    (go : ∀ v, letOwnedTupleGo target (.ref it) v = pure ())
    (H : In C X base h ((it, P 0) :: n)) (h0 : ∀ h', J 0 [] h')
    (turn : ∀ C' env' D i v vs ys h tk, EnvF C env' C' ks' cs' gs' → i < len → W i v → J i ys h → In C X base h ((it, P (i + 1)) :: (D, PList ys) :: (C', PLoc ks' vs) :: n) → vs.length = ks'.length →
      wpAny C.M A (assign target env' v) (fun _ s₂ => wpAny C.M A (tests C.M ifs env') (fun b s₃ =>
        Br b (wpAny C.M A (eval elt env') (CpE C c X base (fun vs : { vs : List (Option Value) // vs.length = ks'.length } => (C', PLoc ks' vs.1) :: n) J (i + 1) ys (it, P (i + 1)) D) (fun _ _ => False) s₃)
          (CpS C c X base (fun vs : { vs : List (Option Value) // vs.length = ks'.length } => (C', PLoc ks' vs.1) :: n) J (i + 1) ys (it, P (i + 1)) D s₃)) (fun _ _ => False) s₂) (fun _ _ => False) (S c h tk))
    (done : ∀ C' D vs ys h tk, J len ys h → ys.length ≤ len → In C X base h ((C', PLoc ks' vs) :: (D, PList ys) :: n) → compPost C.M A E use Q (.ref D) C' (.ok .next) (S c h tk)) :
    CompK C A E scope cl env (.ListComp elt [⟨target, iter, ifs, 0⟩] scope pos) use Q (.ref it) (S c h tk) := by
  refine l_new ok H (by simp) fun Dl h1 H1 => ?_
  refine ne_plain ok H1 D.nd hcell D.kind fun C' h2 tk2 H2 => ?_
  have V' : EnvF C (cEnv scope cl C' env) C' ks' cs' gs' := envF_comp V D C' (fun p hp => ⟨.inl (hcs p hp).1, hcl _ (hcs p hp).1 _ (hcs p hp).2⟩) hgs
  have e : ({ newEnv scope C' env.globals cl env.qual none .none (some env) builtinsNs with scope := relabel scope env } : Env) = cEnv scope cl C' env := rfl
  rw [e]
  refine comp_loop (fun vs : { vs : List (Option Value) // vs.length = ks'.length } => (C', PLoc ks' vs.1) :: n) J ⟨ks'.map fun _ => none, by rw [List.length_map]⟩ ok Sr (fun st p hp => List.mem_cons_of_mem _ (hN p hp)) hz Jm go ?_ (h0 _)
    (fun i v st ys h tk hi hv hj H => turn C' _ Dl i v st.1 ys h tk V' hi hv hj H st.2) fun st ys h tk hj hy H3 => done C' Dl st.1 ys h tk hj hy (H3.perm (List.Perm.swap ..))
  exact H2.perm ((List.Perm.swap _ _ _).trans (((List.Perm.swap _ _ _).cons _).trans (List.Perm.swap _ _ _)))

theorem fin_none {C' D : Addr} {ks' : List Str} {vs : List (Option Value)} {P : OP} {Q : Value → Shared → Prop} {r : Flow} (ok : C.Ok) (H : In C X base h ((C', PLoc ks' vs) :: (D, P) :: n))
    (k : ∀ h', In C X base h' ((D, P) :: n) → Kp C [C'] h h' → Q (.ref D) (S c h' tk)) : compPost C.M A E none Q (.ref D) C' (.ok r) (S c h tk) := by
  obtain ⟨m, hm, _⟩ := (H.at List.mem_cons_self).loc
  refine ⟨m, hm, fun h' hs => ?_⟩
  have H' := H.ext ok PLoc.mut hs.extBut
  exact k h' H' (H.kpExt H'.hp hs.extBut)
theorem fin_asg {C' D : Addr} {ks' : List Str} {vs : List (Option Value)} {us us' : List (Option Value)} {P : OP} {Q : Flow → Shared → Prop} {r : Flow} {x : Str} {px : Pos} (ok : C.Ok) (V : EnvF C env L ks cs gs) (H : In C X base h ((C', PLoc ks' vs) :: (D, P) :: n))
    (s : Sk ks us x (.ref D) us') (ch : Ch n L (PLoc ks us) (PLoc ks us') n')
    (k : ∀ h' tk', In C X base h' ((D, P) :: n') → Q .next (S c h' tk')) : compPost C.M A E (some (assign (.Name x px) env)) (fun _ s' => Q .next s') (.ref D) C' (.ok r) (S c h tk) := by
  show wpAny C.M A (assign (.Name x px) env (.ref D)) _ E (S c h tk)
  refine wpAny_assign_Name (st_local ok V H s (.skip (.skip ch)) fun h2 tk2 H2 => ?_)
  obtain ⟨m, hm, _⟩ := (H2.at List.mem_cons_self).loc
  refine ⟨m, hm, fun h' hs => ?_⟩
  have H' := H2.ext ok PLoc.mut hs.extBut
  exact k h' _ H'
end
end Mine

namespace Mine
section
variable {C : Cn} {A : Around} {E : Value → Shared → Prop} {c : Shared} {h h' : Heap} {tk : Nat} {env : Env} {L : Addr} {ks : List Str} {vs : List (Option Value)} {cs : List (Str × Addr)} {gs : List (Str × Value)} {X : List Addr} {base : Heap} {n n' : Led}
variable {pos : Pos} {Q : Value → Shared → Prop}

abbrev noHeap : Heap := ⟨#[], {}⟩
theorem noHeap_get (b : Addr) : noHeap.get? b = none := rfl
def allBut (h : Heap) (L : Addr) : List (Addr × Obj) := (List.range h.objs.size).filterMap fun a => if a = L then none else (h.get? a).map (a, ·)
theorem mem_allBut {a : Addr} {o : Obj} : (a, o) ∈ allBut h L ↔ a ≠ L ∧ h.get? a = some o := by
  unfold allBut
  rw [List.mem_filterMap]
  constructor
  · rintro ⟨b, _, hb⟩
    split at hb
    · cases hb
    · rename_i hne
      obtain ⟨x, e, q⟩ := Option.map_eq_some_iff.mp hb
      cases q
      exact ⟨hne, e⟩
  · rintro ⟨hne, e⟩
    exact ⟨a, List.mem_range.mpr (Heap.lt_size e), by rw [if_neg hne, e]; rfl⟩
theorem kit_fr {m : Str → Option Value} (hn : h.Ns L m) : Fr noHeap L h m := ⟨hn, fun b o e => (by rw [noHeap_get] at e; cases e), Nat.zero_le _⟩
theorem kit_news : News noHeap L h (allBut h L) := fun p hp => let ⟨a, b⟩ := mem_allBut.mp hp; ⟨b, a, noHeap_get _⟩
theorem kit_ext {news : List (Addr × Obj)} (N : News noHeap L h' news) (hs : ∀ p ∈ allBut h L, p ∈ news) : Heap.ExtBut L h h' := fun b o hb e => (N _ (hs _ (mem_allBut.mpr ⟨hb, e⟩))).1

theorem In.updE {d : Addr} {P P' : OP} (ok : C.Ok) (H : In C X base h n) (ch : Ch n d P P' n') (hm : ∀ o, P o → Mut o) (hs : Heap.ExtBut d h h') (x : ∃ o, h'.get? d = some o ∧ P' o) : In C X base h' n' := by
  have a := H.own ch.mem hm
  obtain ⟨⟨o, ho, po⟩, hz, hB, hb⟩ := id a
  refine H.callX' ch hm ⟨fun b ob _ hx e => hs b ob (fun q => hx (List.mem_singleton.mpr q)) e, ⟨fun b ob e => hs b ob (fun q => ?_) (H.hp.1 b ob e), ok.tiKeep h h' (fun b ob vs y t _ e e1 e2 => hs b ob (fun q => ?_) e) (fun z zm => ?_) H.hp.2⟩⟩ ⟨hz, x⟩
  · subst q
    rw [show C.B.get? b = none from hB] at e; cases e
  · subst q
    rw [show h.get? b = some o from ho] at e; cases e
    exact hm _ po vs y t e1 e2
  · obtain ⟨oz, e⟩ := ok.tiZ h H.hp.2 z zm
    rw [e]
    exact hs z oz (fun q => hz (q ▸ zm)) e
theorem Ch.same {d : Addr} {P : OP} : ∀ {n : Led}, (d, P) ∈ n → Ch n d P P n
  | _ :: _, h => by
    rcases List.mem_cons.mp h with rfl | h
    · exact .hit
    · exact .skip (Ch.same h)
theorem In.kit (ok : C.Ok) (H : In C X base h n) (hm : (L, PLoc ks vs) ∈ n) :
    ∃ m, Fr noHeap L h m ∧ ∀ h' news, Fr noHeap L h' m → News noHeap L h' news → (∀ p ∈ allBut h L, p ∈ news) → In C X base h' n := by
  obtain ⟨m, hn, nd, hf⟩ := (H.at hm).loc
  refine ⟨m, kit_fr hn, fun h' news F' N' hs => H.updE ok (Ch.same hm) PLoc.mut (kit_ext N' hs) ?_⟩
  obtain ⟨o, es, ep, e, hd, hk, hq⟩ := F'.ns
  exact ⟨o, e, es, ep, hd, hk, nd, fun i x v h1 h2 => (hq x).trans (hf i x v h1 h2)⟩

def PSlice (l u s : Value) : OP := fun o => o = { cls := .type "slice", data := .fields #[l, u, s] }
theorem At.slice {a : Addr} {l u s : Value} (x : At C h a (PSlice l u s)) : h.IsSliceOf a l u s := by obtain ⟨_, o, e, rfl⟩ := x; exact ⟨_, e, rfl, rfl⟩
theorem e_slice {lower upper step : Option Expr} {p : Pos} (k : wpAny C.M A (evalPart lower env) (fun l s₁ => wpAny C.M A (evalPart upper env) (fun u s₂ => wpAny C.M A (evalPart step env) (fun st s₃ => wpAny C.M A (newFields "slice" [l, u, st]) Q E s₃) E s₂) E s₁) E (S c h tk)) :
    wpAny C.M A (eval (.Slice lower upper step p) env) Q E (S c h tk) := by
  rw [show eval (.Slice lower upper step p) env = (do
    let l ← valueOrNone (evalOpt lower env)
    let u ← holding [l] (valueOrNone (evalOpt upper env))
    let s ← holding [l, u] (valueOrNone (evalOpt step env))
    newFields "slice" [l, u, s]) from rfl]
  have ev : ∀ x : Option Expr, valueOrNone (evalOpt x env) = evalPart x env := fun x => by cases x <;> rfl
  rw [ev, ev, ev]
  exact wpAny_bind (wpAny_mono k (fun _ _ q => wpAny_bind (wpAny_holding (wpAny_mono q (fun _ _ q => wpAny_bind (wpAny_holding (wpAny_mono q (fun _ _ q => q) fun _ _ q => q))) fun _ _ q => q))) fun _ _ q => q)
theorem ep_none {s : Shared} (k : Q .none s) : wpAny C.M A (evalPart none env) Q E s := wpAny_pure (a := Value.none) k
theorem ep_some {s : Shared} {e : Expr} (k : wpAny C.M A (eval e env) Q E s) : wpAny C.M A (evalPart (some e) env) Q E s := k
theorem n_slice {l u s : Value} (ok : C.Ok) (H : In C X base h n) (k : ∀ a h', In C X base h' ((a, PSlice l u s) :: n) → Q (.ref a) (S c h' tk)) : wpAny C.M A (newFields "slice" [l, u, s]) Q E (S c h tk) :=
  wpAny_newObj_type (k _ _ (H.new ok rfl rfl)) (by size_fits)

theorem sub_slice {value : Expr} {slice : Expr} {a b : Addr} {ns ms : List Int} {lo hi st : Option Int} {l u s : Value} (ok : C.Ok) (H : In C X base h n) (x : IL h a ns) (y : At C h b (PSlice l u s)) (pl : IsPart l lo) (pu : IsPart u hi) (ps : IsPart s st) (h0 : st ≠ some 0)
    (hz : ns.length ≤ sizeLine) (hm : ∀ vs, IntsAre vs ns → IntsAre (slicePick vs.toArray lo hi st).toList ms) (k : ∀ d h', In C X base h' ((d, PInts ms) :: n) → Q (.ref d) (S c h' tk))
    (hs : subscripted slice false (.ref a) (.ref b) = operate [.ref b, .ref a] (getItem (.ref a) (.ref b)) ∨ subscripted slice false (.ref a) (.ref b) = operate [.ref a, .ref b] (getItem (.ref a) (.ref b))) :
    wpAny C.M A (subscriptTail value slice (.ref a) (.ref b)) Q E (S c h tk) := by
  obtain ⟨vs, hi', hl⟩ := x
  have g : wpAny C.M A (getItem (.ref a) (.ref b)) Q E (S c h tk) := by
    refine wpAny_getItem_list_slice hl y.slice pl pu ps h0 (k _ _ (H.new ok rfl ⟨_, hm vs hi', 0, ?_⟩)) (by rw [List.size_toArray, hi'.length]; exact hz)
    simp
  rcases hs with hs | hs <;> exact tail_any hl.typeIs slot_list_getitem.lookup g hs

theorem add_il {a b : Addr} {ns ms : List Int} (ok : C.Ok) (H : In C X base h n) (x : At C h a (PInts ns)) (y : At C h b (PInts ms)) (hz : ns.length + ms.length ≤ sizeLine) (k : ∀ d h', In C X base h' ((d, PInts (ns ++ ms)) :: n) → Q (.ref d) (S c h' tk)) :
    wpAny C.M A (binaryOp .Add (.ref a) (.ref b)) Q E (S c h tk) := by
  obtain ⟨_, o, e, vs, hi, m, rfl⟩ := x
  obtain ⟨_, o, e', us, hj, m', rfl⟩ := y
  refine PySem.P.add_list (n := m) (n2 := m') e e' (k _ _ (H.new ok rfl ⟨vs ++ us, hi.append hj, 0, by simp⟩)) (by simp only [List.size_toArray, hi.length, hj.length]; exact hz)
theorem ne_il {a b : Addr} {ns ms : List Int} (x : IL h a ns) (y : IL h b ms) (hu : A.units + 64 < cLine) (k : Q (.bool (!decide (ns = ms))) (S c h tk)) : wpAny C.M A (compareOp .NotEq (.ref a) (.ref b)) Q E (S c h tk) := by
  obtain ⟨vs, hi, hl⟩ := x
  obtain ⟨us, hj, hl'⟩ := y
  exact ke_ne_ints hl hl' hi hj hu k
theorem eq_il {a b : Addr} {ns ms : List Int} (x : IL h a ns) (y : IL h b ms) (hu : A.units + 64 < cLine) (k : Q (.bool (decide (ns = ms))) (S c h tk)) : wpAny C.M A (compareOp .Eq (.ref a) (.ref b)) Q E (S c h tk) := by
  obtain ⟨vs, hi, hl⟩ := x
  obtain ⟨us, hj, hl'⟩ := y
  exact ke_eq_ints hl hl' hi hj hu k

theorem sum_il {a : Addr} {ns : List Int} (ok : C.Ok) (hh : A.handled = none) (H : In C X base h n) (hm : (L, PLoc ks vs) ∈ n) (x : IL h a ns) (k : ∀ t h' tk', In C X base h' n → Q (.int ns.sum t) (S c h' tk')) : wpAny C.M A (call (.builtin "sum") [.ref a]) Q E (S c h tk) := by
  obtain ⟨us, hi, hl⟩ := x
  obtain ⟨m, F, back⟩ := H.kit ok hm
  exact sumK hh F kit_news hl hi fun h' tk' t' F' N' => k t' h' tk' (back h' _ F' N' fun _ q => q)
theorem rg_new1 {a : Int} {t : Tok} (ok : C.Ok) (H : In C X base h n) (k : ∀ r h' tk', In C X base h' ((r, PRange 0 a) :: n) → Q (.ref r) (S c h' tk')) : wpAny C.M A (call (.type "range") [.int a t]) Q E (S c h tk) := by
  refine call_range_1 ?_
  exact k _ _ _ (H.new ok rfl ⟨_, _, _, rfl⟩)
theorem cw_type {T : String} {e : Expr} {rest : List Expr} {pos : Pos} {s : Shared}
    (k : wpAny C.M A (spliced (backTo pos (starEach (e :: rest) env))) (fun vs s₁ => wpAny C.M A (call (.type T) vs) Q E s₁) E s)
    (he : starEach (e :: rest) env = (false, eval e env) :: starEach rest env) (hp : (backTo pos (starEach rest env)).any (·.1) = false) : wpAny C.M A (callWith pos (.type T) [] (backTo pos (starEach (e :: rest) env)) []) Q E s := by
  with_reducible exact PyProof.Rows.callWith_type1 k he hp
theorem cw_meth0 {id : String} {first : List Value} {pos : Pos} {s : Shared} (k : wpAny C.M A (call (.builtin id) first) Q E s) : wpAny C.M A (callWith pos (.builtin id) first (backTo pos (starEach [] env)) []) Q E s := by
  with_reducible exact callWith_method0 k
theorem cw_meth1 {id : String} {first : List Value} {e : Expr} {rest : List Expr} {pos : Pos} {s : Shared}
    (k : wpAny C.M A (spliced (backTo pos (starEach (e :: rest) env))) (fun vs s₁ => wpAny C.M A (call (.builtin id) (first ++ vs)) Q E s₁) E s)
    (he : starEach (e :: rest) env = (false, eval e env) :: starEach rest env) (hp : (backTo pos (starEach rest env)).any (·.1) = false) : wpAny C.M A (callWith pos (.builtin id) first (backTo pos (starEach (e :: rest) env)) []) Q E s := by
  with_reducible exact callWith_method1 k he hp
theorem as_tup {elts : List Expr} {j : Nat} {t : Addr} {us : List Value} {Q : Unit → Shared → Prop} (ok : C.Ok) (hh : A.handled = none) (H : In C X base h n) (hm : (L, PLoc ks vs) ∈ n) (x : At C h t (PTup us)) (hn : (assignEach elts env).length = us.length) (hs : (assignEach elts env).findIdx? (·.1) = none)
    (k : ∀ h', In C X base h' n → wpAny C.M A (assignInOrder ((assignEach elts env).map (·.2)) us) Q E (S c h' tk)) : wpAny C.M A (assign (.Tuple elts j pos) env (.ref t)) Q E (S c h tk) := by
  obtain ⟨m, F, back⟩ := H.kit ok hm
  exact unpackN_ F kit_news x.isTup hh (by rw [hn]; simp) hs fun h' F' N' => k h' (back h' _ F' N' fun _ q => q)
end
end Mine

namespace Mine
section
variable {C : Cn} {A : Around} {E : Value → Shared → Prop} {c : Shared} {h h' : Heap} {tk : Nat} {env : Env} {L : Addr} {ks : List Str} {vs : List (Option Value)} {cs : List (Str × Addr)} {gs : List (Str × Value)} {X : List Addr} {base : Heap} {n n' : Led}
variable {pos : Pos} {Q : Value → Shared → Prop}

theorem nx_raw {prog : Program} {w : World} {s : Shared} {it l : Addr} {i : Nat} {items : Array Value} {x : Value} (hit : s.heap.IsListIter it l i) (hl : s.heap.IsList l items) (hx : items[i]? = some x)
    (hQ : ∀ h', h'.IsListIter it l (i + 1) → Heap.SameBut it s.heap h' → Q x { s with heap := h' }) : wpAny (model prog w) A (call (.builtin "next") [.ref it]) Q E s := by
  obtain ⟨o, ho, hc, hd⟩ := id hit
  obtain ⟨ol, hol, _, nl, hdl⟩ := hl
  refine call_function_entry (by decide +kernel) (by decide +kernel) kdk_entry_next (kdk_args_next _) ?_
  unfold Builtin.«next»
  refine wpAny_bind (m := someArgs "next" 1 2 _) (wpAny_of_eq (a := [Value.ref it]) (by first | rfl | kernel_rfl!) ?_)
  dsimp only
  refine wpAny_bind (wpAny_specialOf (name := Str.ofString "__next__") hit.typeIs slot_listiter_next.lookup ?_)
  refine wpAny_ite_split (fun hab => absurd hab (by decide)) (fun _ => ?_)
  refine wpAny_bind (wpAny_callSpecial?_slot (name := Str.ofString "__next__") hit.typeIs slot_listiter_next
    (wpAny_call_entry slot_listiter_next hit.typeIs entry_listiter_next ?_ (args_listiter_next _)))
  show wpAny _ _ (field (.ref it) 0 >>= _) _ _ s
  refine wpAny_bind (wpAny_field ho hd (x := .ref l) rfl ?_)
  show wpAny _ _ (if (Value.ref l == Value.none) = true then _ else _) _ _ s
  rw [if_neg (show ¬ ((Value.ref l == Value.none) = true) from Bool.false_ne_true)]
  show wpAny _ _ (field (.ref it) 1 >>= _) _ _ s
  refine wpAny_bind (wpAny_field ho hd (x := .int i 0) rfl ?_)
  show wpAny _ _ (seqItems? (.ref l) >>= _) _ _ s
  refine wpAny_bind (wpAny_seqItems hol hdl ?_)
  simp only [Int.toNat_natCast, hx]
  refine wpAny_bind (wpAny_setField ho hd (by simp) (wpAny_pure ⟨x, rfl, wpAny_pure ⟨_, rfl, hQ _ ?_ (Heap.SameBut.update ..)⟩⟩))
  exact ⟨_, Heap.get?_update_self _ ho (Obj.isFreed_of_fields (Obj.data_mapFields hd _)), (Obj.cls_mapFields ..).trans hc, by
    rw [Obj.data_mapFields hd]; simp [rawInt]⟩
theorem nx_il {it l : Addr} {ns : List Int} {i : Nat} {j : Int} (ok : C.Ok) (H : In C X base h n) (ch : Ch n it (PIter l i) (PIter l (i + 1)) n') (x : IL h l ns) (hx : ns[i]? = some j) (k : ∀ t h', In C X base h' n' → Q (.int j t) (S c h' tk)) :
    wpAny C.M A (call (.builtin "next") [.ref it]) Q E (S c h tk) := by
  obtain ⟨us, hi, hl⟩ := x
  have hlt : i < ns.length := by
    rcases Nat.lt_or_ge i ns.length with q | q
    · exact q
    · rw [List.getElem?_eq_none q] at hx; cases hx
  obtain ⟨t, et⟩ : ∃ t, us[i]? = some (.int j t) := hi.get i j hx
  exact nx_raw (H.at ch.mem).isIter hl (by simpa using et) fun h' hit hs => k t h' (H.upd' ok ch PIter.mut hs hit)

theorem bl_meth {a : Int} {t : Tok} {pl : Sem Bool} {s : Shared} {Q : Value × List Value → Shared → Prop} (k : Q (.builtin "int.bit_length", [.int a t]) s) : wpAny C.M A (getMethod (.int a t) "bit_length" pl) Q E s := getMethod_int_bit_length k
theorem bl_call {a : Int} {t : Tok} (k : Q (.int (Builtin.Int.intBits a) tk) (S c h (tk + 1))) : wpAny C.M A (call (.builtin "int.bit_length") [.int a t]) Q E (S c h tk) := call_int_bit_length k
def PT2 (a b : Int) : OP := fun o => ∃ t u, PTup [.int a t, .int b u] o
theorem dm_il {a b : Int} {t u : Tok} (ok : C.Ok) (H : In C X base h n) (hm : (L, PLoc ks vs) ∈ n) (hb : b ≠ 0) (hp : Builtin.divisionGoesByPylong a b = false)
    (k : ∀ d h' tk', In C X base h' ((d, PT2 (a.fdiv b) (a.fmod b)) :: n) → Q (.ref d) (S c h' tk')) : wpAny C.M A (call (.builtin "divmod") [.int a t, .int b u]) Q E (S c h tk) := by
  obtain ⟨m, F, back⟩ := H.kit ok hm
  refine divmod_N F kit_news hb (fun h' F' N' => ?_) (.inl hp)
  have H' := back h' _ F' N' fun _ q => List.mem_cons_of_mem _ q
  have e := N' _ List.mem_cons_self
  exact k _ _ _ (H.gain H' (get?_none_of_size (Nat.le_refl _)) ⟨(H.hp.fresh ok (Nat.le_refl _)).1, _, e.1, _, _, 0, rfl⟩)

theorem mul_il {a : Addr} {ns : List Int} {x : Int} {u : Tok} (ok : C.Ok) (H : In C X base h n) (hm : (L, PLoc ks vs) ∈ n) (hl : IL h a ns) (h0 : 0 ≤ x) (hz : ns.length * x.toNat ≤ 2 ^ 24) (hx : x < 2 ^ 63)
    (k : ∀ d h', In C X base h' ((d, PInts (List.replicate x.toNat ns).flatten) :: n) → Q (.ref d) (S c h' tk)) : wpAny C.M A (binaryOp .Mult (.ref a) (.int x u)) Q E (S c h tk) := by
  obtain ⟨us, hi, hl⟩ := hl
  obtain ⟨m, F, back⟩ := H.kit ok hm
  refine KM.mul F kit_news hl hi (by omega) hx (by rw [hi.length]; exact hz) fun d h' F' N' hlt hi' _ _ _ _ _ => ?_
  have H' := back h' _ F' N' fun _ q => List.mem_cons_of_mem _ q
  have e := N' _ List.mem_cons_self
  have hn : h.get? d = none := by
    cases q : h.get? d with
    | none => rfl
    | some o => exact absurd (hlt (d, o) (mem_allBut.mpr ⟨e.2.1, q⟩)) (Nat.lt_irrefl _)
  have hz' : d ∉ C.Z := fun hm => by
    obtain ⟨o, q⟩ := ok.tiZ h H.hp.2 d hm
    rw [hn] at q; cases q
  exact k _ _ (H.gain H' hn ⟨hz', _, e.1, _, hi', 0, rfl⟩)
theorem rev_il {a : Addr} {ns : List Int} {pos : Pos} (ok : C.Ok) (H : In C X base h n) (ch : Ch n a (PInts ns) (PInts ns.reverse) n') (hz : ns.length ≤ sizeLine) (k : ∀ h', In C X base h' n' → Q .none (S c h' tk)) :
    wpAny C.M A (callWith pos (.builtin "list.reverse") [.ref a] [] []) Q E (S c h tk) := by
  obtain ⟨_, o, e, us, hi, m, rfl⟩ := H.at ch.mem
  refine PySem.P.reverse_list (items := us.toArray) (n := m) e (k _ ?_) (by rw [List.size_toArray, hi.length]; exact hz)
  refine H.upd' ok ch PInts.mut (Heap.SameBut.update ..) ⟨Obj.mapSeq (fun x => x.reverse) { cls := .type "list", data := .seq us.toArray m }, Heap.get?_update_self _ e rfl, us.reverse, IntsAre.reverse hi, m, ?_⟩
  rw [mapSeq_reverse]
theorem idx_il {a : Addr} {ns : List Int} {x : Int} {t : Tok} (hl : IL h a ns) (hx : x ∈ ns) (hlay : PyData.layable0 (.list (ns.map .int)) = true) (k : ∀ t tk', Q (.int (ns.idxOf x : Nat) t) (S c h tk')) : wpAny C.M A (call (.builtin "list.index") [.ref a, .int x t]) Q E (S c h tk) := by
  obtain ⟨us, hi, hl⟩ := hl
  exact index_list_ints hl hi hlay hx (k _ _)
theorem rvd_il {a : Addr} {vs : List Value} (ok : C.Ok) (H : In C X base h n) (x : h.IsList a vs.toArray) (k : ∀ d h', In C X base h' ((d, PRev a ((vs.length : Int) - 1)) :: n) → Q (.ref d) (S c h' tk)) : wpAny C.M A (call (.type "reversed") [.ref a]) Q E (S c h tk) := by
  refine call_reversed_list x (k _ _ (H.new ok rfl ⟨rfl, ?_⟩))
  show Data.fields #[.ref a, rawInt ((vs.toArray.size : Int) - 1)] = _
  rw [List.size_toArray]

inductive Bd (binds : List (Str × Value)) : List Str → List (Option Value) → Prop
  | nil : Bd binds [] []
  | hit {x v fs us} : (x, v) ∈ binds → Bd binds fs us → Bd binds (x :: fs) (some v :: us)
  | miss {x fs us} : Bd binds fs us → Bd binds (x :: fs) (none :: us)
theorem Bd.get {binds : List (Str × Value)} {fs : List Str} {us : List (Option Value)} (b : Bd binds fs us) : us.length = fs.length ∧ ∀ (i : Nat) (x : Str) (v : Value), fs[i]? = some x → us[i]? = some (some v) → (x, v) ∈ binds := by
  induction b with
  | nil => exact ⟨rfl, fun i x v h => by simp at h⟩
  | hit m _ ih =>
    refine ⟨by simp [ih.1], fun i x v h1 h2 => ?_⟩
    cases i with
    | zero => simp at h1 h2; subst h1 h2; exact m
    | succ i => exact ih.2 i x v (by simpa using h1) (by simpa using h2)
  | miss _ ih =>
    refine ⟨by simp [ih.1], fun i x v h1 h2 => ?_⟩
    cases i with
    | zero => simp at h2
    | succ i => exact ih.2 i x v (by simpa using h1) (by simpa using h2)
theorem bindL_get {kf : Str → Option NameKind} {x : Str} {v : Value} (hk : kf x = some .local) : ∀ (binds : List (Str × Value)) (m : Str → Option Value), (binds.map (·.1)).Nodup → ((x, v) ∈ binds ∨ (x ∉ binds.map (·.1) ∧ m x = some v)) → bindL kf binds m x = some v
  | [], m, _, h => h.elim (fun q => nomatch q) (·.2)
  | (y, u) :: r, m, hn, h => by
    obtain ⟨a1, a2⟩ := List.nodup_cons.mp hn
    unfold bindL
    by_cases q : x = y
    · subst q
      refine bindL_get hk r _ a2 (.inr ⟨a1, ?_⟩)
      rw [if_pos hk]
      rcases h with h | ⟨h, _⟩
      · rcases List.mem_cons.mp h with e | e
        · cases e; simp
        · exact absurd (List.mem_map.mpr ⟨_, e, rfl⟩) a1
      · exact absurd (List.mem_cons_self) h
    · refine bindL_get hk r _ a2 ?_
      rcases h with h | ⟨h, hm⟩
      · rcases List.mem_cons.mp h with e | e
        · cases e; exact absurd rfl q
        · exact .inl e
      · refine .inr ⟨fun e => h (List.mem_cons_of_mem _ e), ?_⟩
        split
        · show (if x = y then _ else m x) = _
          rw [if_neg q]; exact hm
        · exact hm
theorem bindC_get {kf : Str → Option NameKind} {x : Str} {v : Value} (hk : kf x = some .cell) : ∀ (binds : List (Str × Value)) (m : Str → Option Value), (binds.map (·.1)).Nodup → ((x, v) ∈ binds ∨ (x ∉ binds.map (·.1) ∧ m x = some v)) → bindC kf binds m x = some v
  | [], m, _, h => h.elim (fun q => nomatch q) (·.2)
  | (y, u) :: r, m, hn, h => by
    obtain ⟨a1, a2⟩ := List.nodup_cons.mp hn
    unfold bindC
    by_cases q : x = y
    · subst q
      refine bindC_get hk r _ a2 (.inr ⟨a1, ?_⟩)
      rw [if_neg (by rw [hk]; decide)]
      rcases h with h | ⟨h, _⟩
      · rcases List.mem_cons.mp h with e | e
        · cases e; simp
        · exact absurd (List.mem_map.mpr ⟨_, e, rfl⟩) a1
      · exact absurd (List.mem_cons_self) h
    · refine bindC_get hk r _ a2 ?_
      rcases h with h | ⟨h, hm⟩
      · rcases List.mem_cons.mp h with e | e
        · cases e; exact absurd rfl q
        · exact .inl e
      · refine .inr ⟨fun e => h (List.mem_cons_of_mem _ e), ?_⟩
        split
        · exact hm
        · show (if x = y then _ else m x) = _
          rw [if_neg q]; exact hm
theorem cellsFrom_some {x : Str} : ∀ (names : List (Str × NameKind)) (m : Nat) (acc : List (Str × Addr)), ((acc.lookup x).isSome = true ∨ (x, NameKind.cell) ∈ names) → ((cellsFrom m names acc).lookup x).isSome = true
  | [], _, _, h => h.elim id (fun q => nomatch q)
  | (y, k) :: r, m, acc, h => by
    unfold cellsFrom
    split
    · rename_i hk
      refine cellsFrom_some r _ _ ?_
      by_cases q : x = y
      · subst q; exact .inl (by simp [List.lookup_cons])
      · rcases h with h | h
        · refine .inl ?_
          rw [List.lookup_cons, beq_eq_false_iff_ne.mpr q]; exact h
        · rcases List.mem_cons.mp h with e | e
          · cases e; exact absurd rfl q
          · exact .inr e
    · rename_i hk
      refine cellsFrom_some r _ _ ?_
      rcases h with h | h
      · exact .inl h
      · rcases List.mem_cons.mp h with e | e
        · cases e; exact absurd rfl hk
        · exact .inr e

theorem call_cellsF {f : Addr} {qual : Str} {params : Arguments} {body : List Stmt} {scope : Scope} {cdv : Value} {args : List Value} {binds : List (Str × Value)} {d u : Nat} {ks fs : List Str} {vs us : List (Option Value)}
    (ok : C.Ok) (F : Fn C f qual params body scope cdv) (Nn : Nm C scope ks fs gs) (r : Rm A (d + 1) (u + 3)) (H : Hp C h)
    (hb : ∀ name doc pm an ct, bindArgs (fnX name qual params body scope [] .none .none doc pm an cdv ct) ⟨args, []⟩ = pure binds) (hn : (binds.map (·.1)).Nodup) (hkn : ∀ x ∈ binds, x.1 ∈ ks ∨ x.1 ∈ fs) (hv : Bd binds ks vs) (hu : Bd binds fs us)
    (k : ∀ env L as h₁ tk₁, EnvF C env L ks (fs.zip as) gs → (∀ x ∈ fs, env.kindOf x = some .cell) → env.code = cdv → env.qual = qual ++ ".<locals>." → as.length = fs.length → env.frame = some L → h.get? L = none → Rm (A.deeper env) d u → In C [] h h₁ ((L, PLoc ks vs) :: (as.zip us).map fun p => (p.1, PCell p.2)) →
      wpAny C.M (A.deeper env) (execs body env) (fun fl s' => Q (match fl with | .ret v => v | _ => .none) s') (fun _ _ => False) (S c h₁ tk₁)) :
    wpAny C.M A (call (.ref f) args) Q E (S c h tk) := by
  obtain ⟨oc, od, osl, name, doc, pm, an, ct, e⟩ := F.ho
  have ho := H.1 _ _ (ok.ki _ _ e)
  have hcl : ∀ (m : Nat) (x : Str), x ∈ fs → ((cellsFrom m scope.names []).lookup x).isSome = true := fun m x hx => cellsFrom_some _ _ _ (.inr (mem_of_lookup (Nn.kc _ hx).1))
  refine wpAny_call (codeAny_call_cells (fd := fnX name qual params body scope [] .none .none doc pm an cdv ct) (body := body) (binds := binds) (by have := r.hd; omega) ho rfl (ok.nolimit.keeps H.1) ((codeRec_of ok.ki F.hcd).keeps H.1) rfl
    (hb ..) rfl (fun x hx => ?_) (fun s₁ x => ?_) Nn.co Nn.ge Nn.kind)
  · rcases hkn x hx with q | q
    · exact .inl (Nn.kl _ q).1
    · exact .inr ⟨(Nn.kc _ q).1, hcl _ _ q⟩
  obtain ⟨h₁, tk₁, rfl⟩ := x.toInCall.same
  have K : Kp C [] h h₁ := Kp.ofAll ok H x.toInCall.keep
  have fr : h.get? h.objs.size = none := get?_none_of_size (Nat.le_refl _)
  let cl := cellsFrom (h.objs.size + 1) scope.names []
  let as := fs.map fun y => (cl.lookup y).getD 0
  have hlk : ∀ y ∈ fs, cl.lookup y = some ((cl.lookup y).getD 0) := fun y hy => by
    obtain ⟨a, ea⟩ := Option.isSome_iff_exists.mp (hcl (h.objs.size + 1) y hy)
    show cl.lookup y = _
    rw [show cl.lookup y = some a from ea]; rfl
  have habv : ∀ y ∈ fs, h.objs.size < (cl.lookup y).getD 0 := fun y hy => x.above y _ (mem_of_lookup (hlk y hy))
  have hzip : ∀ p ∈ fs.zip as, p.1 ∈ fs ∧ cl.lookup p.1 = some p.2 := fun p hp => by
    obtain ⟨j, hj⟩ := List.getElem?_of_mem hp
    rw [List.getElem?_zip_eq_some] at hj
    obtain ⟨h1, h2⟩ := hj
    have hm := List.mem_of_getElem? h1
    refine ⟨hm, ?_⟩
    rw [show as[j]? = _ from List.getElem?_map .., h1] at h2
    rw [hlk _ hm]; exact h2
  have V : EnvF C (callEnvC (fnX name qual params body scope [] .none .none doc pm an cdv ct) h.objs.size f) h.objs.size ks (fs.zip as) gs := ⟨Nn.kind, rfl, rfl, rfl, Nn.kl, fun p hp => ⟨.inl (Nn.kc _ (hzip p hp).1).1, (hzip p hp).2, (Nn.kc _ (hzip p hp).1).2⟩, Nn.kg⟩
  have a : At C h₁ h.objs.size (PLoc ks vs) := by
    refine ⟨(H.fresh ok (Nat.le_refl _)).1, ?_⟩
    obtain ⟨o, es, ep, e1, e2, e3, e4⟩ := x.toInCall.ns
    refine ⟨o, e1, es, ep, e2, e3, Nn.nd, fun i y v hx hv' => (e4 y).trans ?_⟩
    exact bindL_get (Nn.kl _ (List.mem_of_getElem? hx)).1 binds _ hn (.inl (hv.get.2 i y v hx hv'))
  have H1 := (In.enter K).gain' fr a List.not_mem_nil (In.noB H fr)
  refine wpAny_mono (k _ _ as h₁ _ V (fun y hy => (Nn.kc _ hy).1) rfl rfl (by simp [as]) rfl fr (r.deeper _) ?_) (fun fl s' q => q) fun _ _ q => q.elim
  refine ⟨H1.keep, H1.hp, fun p hp => ?_, ?_⟩
  · rcases List.mem_cons.mp hp with rfl | hp
    · exact H1.ent _ List.mem_cons_self
    obtain ⟨⟨b, v⟩, hq, rfl⟩ := List.mem_map.mp hp
    obtain ⟨j, hj⟩ := List.getElem?_of_mem hq
    rw [List.getElem?_zip_eq_some] at hj
    obtain ⟨h1, h2⟩ := hj
    rw [show as[j]? = _ from List.getElem?_map ..] at h1
    obtain ⟨y, hy, rfl⟩ := Option.map_eq_some_iff.mp h1
    have hm := List.mem_of_getElem? hy
    have hge := habv y hm
    have fz := H.fresh ok (Nat.le_of_lt hge)
    obtain ⟨o, e1, e2⟩ := x.cell y _ (hlk y hm)
    refine ⟨⟨o, e1, ?_, .inl ⟨fz.2, .inl (get?_none_of_size (Nat.le_of_lt hge))⟩⟩, fz.1⟩
    cases v with
    | none => exact ⟨_, e2, fun _ q => nomatch q⟩
    | some v => exact ⟨_, e2, fun w q => by cases q; exact bindC_get (Nn.kc _ hm).1 binds _ hn (.inl (hu.get.2 j y v hy h2))⟩
  · have e1 : ((as.zip us).map fun p => ((p.1, PCell p.2) : Addr × OP)).map (·.1) = as := by
      rw [List.map_map]
      show (as.zip us).map Prod.fst = as
      rw [List.map_fst_zip]
      simp [as, hu.get.1]
    show (h.objs.size :: ((as.zip us).map fun p => ((p.1, PCell p.2) : Addr × OP)).map (·.1)).Nodup
    rw [e1]
    refine List.nodup_cons.mpr ⟨fun hm => ?_, ?_⟩
    · obtain ⟨y, hy, e⟩ := List.mem_map.mp hm
      have := habv y hy
      omega
    · refine List.pairwise_map.mpr (List.Pairwise.imp_of_mem (fun {y z} hy hz hne e => hne ?_) Nn.ndf)
      exact name_of_addr x.apart (mem_of_lookup (hlk y hy)) (by have e' : (cl.lookup y).getD 0 = (cl.lookup z).getD 0 := e; rw [e']; exact mem_of_lookup (hlk z hz))
theorem call_cells {f : Addr} {qual : Str} {params : Arguments} {body : List Stmt} {scope : Scope} {cdv : Value} {args : List Value} {binds : List (Str × Value)} {d u : Nat} {ks fs : List Str} {vs us : List (Option Value)}
    (ok : C.Ok) (F : Fn C f qual params body scope cdv) (Nn : Nm C scope ks fs gs) (r : Rm A (d + 1) (u + 3)) (H : Hp C h)
    (hb : ∀ name doc pm an ct, bindArgs (fnX name qual params body scope [] .none .none doc pm an cdv ct) ⟨args, []⟩ = pure binds) (hn : (binds.map (·.1)).Nodup) (hkn : ∀ x ∈ binds, x.1 ∈ ks ∨ x.1 ∈ fs) (hv : Bd binds ks vs) (hu : Bd binds fs us)
    (k : ∀ env L as h₁ tk₁, EnvF C env L ks (fs.zip as) gs → (∀ x ∈ fs, env.kindOf x = some .cell) → env.code = cdv → env.qual = qual ++ ".<locals>." → as.length = fs.length → h.get? L = none → Rm (A.deeper env) d u → In C [] h h₁ ((L, PLoc ks vs) :: (as.zip us).map fun p => (p.1, PCell p.2)) →
      wpAny C.M (A.deeper env) (execs body env) (fun fl s' => Q (match fl with | .ret v => v | _ => .none) s') (fun _ _ => False) (S c h₁ tk₁)) :
    wpAny C.M A (call (.ref f) args) Q E (S c h tk) :=
  call_cellsF ok F Nn r H hb hn hkn hv hu fun env L as h₁ tk₁ V hC hcd hq hl _ hL r' H' => k env L as h₁ tk₁ V hC hcd hq hl hL r' H'
end
end Mine

namespace Mine
section
variable {C : Cn} {A : Around} {E : Value → Shared → Prop} {c : Shared} {h h' h₁ : Heap} {tk : Nat} {env : Env} {L l : Addr} {ks : List Str} {vs : List (Option Value)} {cs : List (Str × Addr)} {gs : List (Str × Value)} {X : List Addr} {base : Heap} {n n' : Led} {P P' : OP}
variable {pos : Pos}

theorem In.more (H : In C [] base h n) : In C X base h n :=
  ⟨fun b o hz _ e => H.keep b o hz List.not_mem_nil e, H.hp, fun p hp => let ⟨⟨o, e, q, w⟩, z⟩ := H.ent p hp; ⟨⟨o, e, q, w.imp (fun ⟨a, b⟩ => ⟨a, b.imp_right fun m => (nomatch m)⟩) id⟩, z⟩, H.nodup⟩
theorem In.addX (H : In C [] h h₁ n) (a : At C h l P) (hB : C.B.get? l = none) (hf : l ∉ n.map (·.1)) : In C [l] h h₁ ((l, P) :: n) :=
  ⟨H.more.keep, H.hp, fun p hp => by
    rcases List.mem_cons.mp hp with rfl | hp
    · obtain ⟨z, o, e, q⟩ := H.of0 a
      exact ⟨⟨o, e, q, .inl ⟨hB, .inr List.mem_cons_self⟩⟩, z⟩
    · exact (H.more (X := [l])).ent p hp, List.nodup_cons.mpr ⟨hf, H.nodup⟩⟩
theorem In.addX1 {P₁ : OP} (H : In C [] h h₁ [(L, P₁)]) (hL : h.get? L = none) (a : At C h l P) (hB : C.B.get? l = none) : In C [l] h h₁ [(l, P), (L, P₁)] :=
  H.addX a hB fun hm => by
    obtain ⟨_, o, e, _⟩ := a
    rw [List.mem_singleton.mp hm] at e
    rw [show h.get? L = none from hL] at e; cases e
def PCode (qual : Str) : OP := fun o => ∃ vs t, o.data = .fields vs ∧ vs[1]? = some (.str qual t)
theorem PCode.not {qual : Str} : ∀ o, PCode qual o → ¬ Mut o := fun o ⟨vs, t, e1, e2⟩ hm => hm vs qual t e1 e2
def PFn (qual : Str) (params : Arguments) (body : List Stmt) (scope : Scope) (cl : List (Str × Addr)) (c' : Addr) : OP := fun o => ∃ name doc pm ctv, o = fnMade name qual params body scope cl doc pm c' ctv
theorem At.fnAt {qual : Str} {params : Arguments} {body : List Stmt} {scope : Scope} {cl : List (Str × Addr)} {c' : Addr} {f : Addr} (x : At C h f (PFn qual params body scope cl c')) : FnAt f h := by
  obtain ⟨_, o, e, _, _, _, _, rfl⟩ := x; exact ⟨_, _, _, _, e⟩

def TabOk (Z : List Addr) (h : Heap) (P : Addr) (qual : Str) (pos : Pos) : Prop :=
  h.get? P = some (tabObj #[]) ∨ ∃ c', h.get? P = some (tabObj #[rawInt pos.line, rawInt pos.col, .ref c']) ∧ h.CodeRec (.ref c') qual ∧ c' ∉ Z
theorem TabOk.keep {Z : List Addr} {P : Addr} {qual : Str} {pos : Pos} (hk : ∀ b o vs x t, b ∉ Z → h.get? b = some o → o.data = .fields vs → vs[1]? = some (.str x t) → h'.get? b = some o) (e : h'.get? P = h.get? P)
    (x : TabOk Z h P qual pos) : TabOk Z h' P qual pos := by
  rcases x with x | ⟨c', a, b, z⟩
  · exact .inl (e.trans x)
  · refine .inr ⟨c', e.trans a, ?_, z⟩
    obtain ⟨c, o, vs, t, q, e1, e2, e3⟩ := b
    cases q
    exact ⟨_, o, vs, t, rfl, hk _ o vs _ t z e1 e2 e3, e2, e3⟩
theorem TabOk.ext {Z : List Addr} {P T : Addr} {qual : Str} {pos : Pos} (hx : Heap.ExtBut T h h') (hT : T ∈ Z) (hne : P ≠ T) (x : TabOk Z h P qual pos) : TabOk Z h' P qual pos := by
  refine x.keep (fun b o vs y t hb e _ _ => hx b o (fun q => hb (q ▸ hT)) e) ?_
  rcases x with x | ⟨c', a, _, _⟩
  · rw [x]; exact hx _ _ hne x
  · rw [a]; exact hx _ _ hne a

theorem x_def {name qual : Str} {params : Arguments} {body : List Stmt} {scope : Scope} {Q : Flow → Shared → Prop} {ks' fs oc gn : List Str} {cd P : Addr}
    (ok : C.Ok) (V : EnvF C env L ks cs gs) (H : In C X base h n) (hn : ∀ p ∈ n, ∀ o, p.2 o → Mut o) (D : Cs scope ks' fs oc gn) (hfc : ∀ x ∈ fs, ∃ a, (x, a) ∈ cs) (hcode : env.code = .ref cd) (ht : (cd, P) ∈ C.tabs) (hP : P ∈ C.Z)
    (hq : qualnameIn env name name = qual) (ti : C.TI h → TabOk C.Z h P qual pos)
    (tiSet : ∀ h' c', Heap.ExtBut P h h' → h'.get? P = some (tabObj #[rawInt pos.line, rawInt pos.col, .ref c']) → h'.CodeRec (.ref c') qual → c' ∉ C.Z → C.TI h → C.TI h')
    (hd0 : params.defaults = []) (hk0 : params.kw_defaults = []) (ha : annTrees params none env = [])
    (k : ∀ f c' cl h' tk', (∀ x ∈ fs, ∀ a, (x, a) ∈ cs → cl.lookup x = some a) → In C X base h' ((f, PFn qual params body scope cl c') :: (c', PCode qual) :: n) → wpAny C.M A (storeName env name (.ref f)) (fun _ => Q .next) E (S c h' tk')) :
    wpAny C.M A (exec (.FunctionDef name params body [] none [] scope none name pos) env) Q E (S c h tk) := by
  obtain ⟨cl, ecl, hcl⟩ := closureFor_of V D hfc
  refine nestDef_K hd0 hk0 ha ?_
  rw [hq]
  have hg : h.Ns mainGlobals C.mg := ok.ns.keeps H.hp.1
  have CH : CodeHd h cd P := (ok.ct _ ht).keeps H.hp.1
  obtain ⟨bm, ob, b1, b2, b3, b4, b5, b6⟩ := ok.bm
  obtain ⟨oP, eP⟩ := ok.tiZ h H.hp.2 P hP
  have hBP : C.B.get? P = none := ok.hide P hP
  have hgB : C.B.get? mainGlobals ≠ none := by
    obtain ⟨o, _, _, e, _⟩ := ok.ns
    rw [e]; simp
  have hgP : mainGlobals ≠ P := fun q => hgB (q ▸ hBP)
  have hbP : bm ≠ P := fun q => by rw [q, hBP] at b3; cases b3
  have hbG : bm ≠ mainGlobals := fun q => by
    obtain ⟨o, es, ep, e, hd, _⟩ := ok.ns
    rw [q, e] at b3; cases b3; rw [hd] at b6; cases b6
  have bat : h.BuiltinsAt C.mg P := ⟨bm, ob, b1, b2, hbG, hbP, H.hp.1 _ _ b3, b4, b5, b6⟩
  rcases ti H.hp.2 with e0 | ⟨c', e0, hrec, hz⟩
  · refine makeFunction_K (clos := cl) (mg := C.mg) (ps := #[]) ecl V.glb hg hcode CH e0 trivial rfl hgP bat fun c' ctv doc h2 tk2 hx hge hlt hrec htb => ?_
    have fz := H.hp.fresh ok hge
    have hs : h.objs.size ≤ h2.objs.size := Nat.le_of_lt (Nat.lt_of_le_of_lt hge hlt)
    have htb' : h2.get? P = some (tabObj #[rawInt pos.line, rawInt pos.col, .ref c']) := htb
    have K : Kp C [] h h2 := ⟨fun b o hb _ e => hx b o (fun q => hb (q ▸ hP)) e, fun b o e => hx b o (fun q => by rw [q, hBP] at e; cases e) (H.hp.1 b o e), tiSet h2 c' hx htb' hrec fz.1 H.hp.2⟩
    obtain ⟨c2, oc2, vs2, t2, q2, e2, d2, v2⟩ := hrec
    cases q2
    have H2 := H.gain (H.call K) (get?_none_of_size hge) (P := PCode qual) ⟨fz.1, oc2, e2, vs2, t2, d2, v2⟩
    exact k _ c' cl _ tk2 hcl (H2.new ok rfl ⟨_, _, _, _, rfl⟩)
  · have ef : codeAmong pos (#[rawInt pos.line, rawInt pos.col, .ref c'] : Array Value).toList = some (.ref c') := by simp [codeAmong, rawInt]
    refine makeFunction_hit (clos := cl) (mg := C.mg) (ps := #[rawInt pos.line, rawInt pos.col, .ref c']) (cv := .ref c') ecl V.glb hg hcode CH e0 trivial ef bat fun ctv doc h2 tk2 hx hs => ?_
    obtain ⟨c2, oc2, vs2, t2, q2, e2, d2, v2⟩ := hrec
    cases q2
    have hnm : c' ∉ n.map (·.1) := fun hm => by
      obtain ⟨p, hp, e⟩ := List.mem_map.mp hm
      obtain ⟨⟨o, ho, po, _⟩, _⟩ := H.ent p hp
      rw [e, e2] at ho; cases ho
      exact hn p hp _ po vs2 qual t2 d2 v2
    have H1 : In C X base h ((c', PCode qual) :: n) := ⟨H.keep, H.hp, fun p hp => by
      rcases List.mem_cons.mp hp with rfl | hp
      · exact ⟨⟨oc2, e2, ⟨vs2, t2, d2, v2⟩, .inr (PCode.not _ ⟨vs2, t2, d2, v2⟩)⟩, hz⟩
      · exact H.ent p hp, List.nodup_cons.mpr ⟨hnm, H.nodup⟩⟩
    exact k _ c' cl _ tk2 hcl ((H1.all ok hx).new ok rfl ⟨_, _, _, _, rfl⟩)

theorem call_clos {f c' : Addr} {qual : Str} {params : Arguments} {body : List Stmt} {scope : Scope} {args : List Value} {binds : List (Str × Value)} {d u : Nat} {ks' fs oc gn : List Str} {vs' : List (Option Value)} {cl cs' : List (Str × Addr)} {Q : Value → Shared → Prop}
    (ok : C.Ok) (D : Cs scope ks' fs oc gn) (r : Rm A (d + 1) (u + 3)) (H : Hp C h) (hf : At C h f (PFn qual params body scope cl c')) (hc' : At C h c' (PCode qual)) (hcell : ∀ p ∈ scope.names, p.2 ≠ .cell)
    (hcs : ∀ p ∈ cs', p.1 ∈ fs ∧ cl.lookup p.1 = some p.2) (hgs : ∀ p ∈ gs, p.1 ∈ gn ∧ GVal C p.1 p.2)
    (hb : ∀ name doc pm an ct, bindArgs (fnX name qual params body scope cl .none .none doc pm an (.ref c') ct) ⟨args, []⟩ = pure binds) (hn : (binds.map (·.1)).Nodup) (hkn : ∀ x ∈ binds, x.1 ∈ ks') (hv : Bd binds ks' vs')
    (hco : scope.isCoroutine = false) (hge : scope.isGenerator = false)
    (k : ∀ env L h₁ tk₁, EnvF C env L ks' cs' gs → h.get? L = none → Rm (A.deeper env) d u → In C [] h h₁ [(L, PLoc ks' vs')] →
      wpAny C.M (A.deeper env) (execs body env) (fun fl s' => Q (match fl with | .ret v => v | _ => .none) s') (fun _ _ => False) (S c h₁ tk₁)) :
    wpAny C.M A (call (.ref f) args) Q E (S c h tk) := by
  obtain ⟨_, o, ho, name, doc, pm, ctv, rfl⟩ := hf
  obtain ⟨_, o2, e2, vs2, t2, d2, v2⟩ := hc'
  refine wpAny_call (codeAny_call_function (fd := fnX name qual params body scope cl .none .none doc pm none (.ref c') ctv) (body := body) (by have := r.hd; omega) ho rfl hco hge rfl ⟨c', o2, vs2, t2, rfl, e2, d2, v2⟩ ?_)
  rw [hb]
  refine wpAny_pure (wpAny_newFunctionEnv hcell (fun x hx => (D.kl _ (hkn x hx)).1) (fun h₁ hns hsb => ⟨(ok.nolimit.keeps H.1).fresh _ hsb, codeAny_func ?_⟩) D.kind)
  have hk : ∀ b o, h.get? b = some o → h₁.get? b = some o := fun b o e => hsb.extBut b o (Nat.ne_of_lt (Heap.lt_size e)) (Heap.get?_push_of_some _ e)
  have K : Kp C [] h h₁ := Kp.ofAll ok H hk
  have fr : h.get? h.objs.size = none := get?_none_of_size (Nat.le_refl _)
  have V : EnvF C (newEnv scope h.objs.size mainGlobals cl (qual ++ ".<locals>.") (some f) (.ref c') none builtinsNs) h.objs.size ks' cs' gs :=
    ⟨D.kind, rfl, rfl, rfl, D.kl, fun p hp => ⟨.inr ⟨(D.kf _ (hcs p hp).1).1, (D.kf _ (hcs p hp).1).2.1⟩, (hcs p hp).2, (D.kf _ (hcs p hp).1).2.2⟩, fun p hp => ⟨(D.kg _ (hgs p hp).1).1, (hgs p hp).2, (D.kg _ (hgs p hp).1).2⟩⟩
  have a : At C h₁ h.objs.size (PLoc ks' vs') := by
    refine ⟨(H.fresh ok (Nat.le_refl _)).1, ?_⟩
    obtain ⟨o, es, ep, e1, e2, e3, e4⟩ := hns
    refine ⟨o, e1, es, ep, e2, e3, D.nd, fun i x v hx hv' => (e4 x).trans ?_⟩
    have hm := hv.get.2 i x v hx hv'
    obtain ⟨j, hj⟩ := List.getElem?_of_mem hm
    exact lookup_binds hn (i := j) (by rw [List.getElem?_map, hj]; rfl) (by rw [List.getElem?_map, hj]; rfl)
  exact wpAny_mono (k _ _ h₁ _ V fr (r.deeper _) ((In.enter K).gain' fr a List.not_mem_nil (In.noB H fr))) (fun fl s' q => q) fun _ _ q => q.elim

theorem sp_go {f : Addr} {d u d' u' : Nat} {args : List Value} {pre : Heap → Prop} {post : Heap → Heap → Value → Prop} {Q : Value → Shared → Prop} (sp : Spec C f d u args X pre post) (r : Rm A d' u') (hd : d ≤ d') (hu : u ≤ u') (H : Hp C h) (hp : pre h)
    (k : ∀ v h' tk', Kp C X h h' → post h h' v → Q v (S c h' tk')) : wpAny C.M A (call (.ref f) args) Q E (S c h tk) := sp A c h tk Q E (r.le hd hu) H hp k
theorem sp_w {f w : Addr} {d u d' u' : Nat} {args : List Value} {pre : Heap → Prop} {R : Heap → Heap → Value → Prop} {Q : Value → Shared → Prop} (sp : Spec C f d u args [w] pre (fun h h' v => R h h' v ∧ At C h' w P')) (r : Rm A d' u') (hd : d ≤ d') (hu : u ≤ u')
    (H : In C X base h n) (ch : Ch n w P P' n') (hM : ∀ o, P o → Mut o) (hp : pre h) (k : ∀ v h' tk', In C X base h' n' → R h h' v → Q v (S c h' tk')) : wpAny C.M A (call (.ref f) args) Q E (S c h tk) :=
  sp A c h tk Q E (r.le hd hu) H.hp hp fun v h' tk' K p => k v h' tk' (H.callX' ch hM K p.2) p.1
theorem In.ownB (H : In C X base h n) (hm : (l, P) ∈ n) (hM : ∀ o, P o → Mut o) : At C h l P ∧ C.B.get? l = none := ⟨H.at hm, (H.own hm hM).2.2.1⟩
theorem In.fresh0 (H : In C [] base h n) (hm : (l, P) ∈ n) (hM : ∀ o, P o → Mut o) : base.get? l = none := (H.own hm hM).2.2.2.resolve_right List.not_mem_nil
theorem In.rob (H : In C [] base h n) (hm : (l, P) ∈ n) (hM : ∀ o, P o → Mut o) (hw : ∀ o, P o → P' o) : ROb C P' base h (.ref l) := ⟨l, rfl, H.fresh0 hm hM, (H.at hm).mono hw⟩
end
theorem len1 {α : Type} {l : List α} (h : l.length = 1) : ∃ x, l = [x] := by match l, h with | [x], _ => exact ⟨x, rfl⟩
theorem len2 {α : Type} {l : List α} (h : l.length = 2) : ∃ x y, l = [x, y] := by match l, h with | [x, y], _ => exact ⟨x, y, rfl⟩
theorem len3 {α : Type} {l : List α} (h : l.length = 3) : ∃ x y z, l = [x, y, z] := by match l, h with | [x, y, z], _ => exact ⟨x, y, z, rfl⟩
theorem len4 {α : Type} {l : List α} (h : l.length = 4) : ∃ x y z u, l = [x, y, z, u] := by
  cases l with
  | nil => cases h
  | cons a l =>
    obtain ⟨x, y, z, rfl⟩ := len3 (l := l) (by simpa using h)
    exact ⟨a, x, y, z, rfl⟩
theorem nl_line {n k : Nat} (h : n ≤ k) (hk : Nat.ble k 16777216 = true) : n ≤ sizeLine := by
  rw [sizeLine_eq]; exact Nat.le_trans h (Nat.le_of_ble_eq_true hk)
theorem nl_add {a b k m : Nat} (h : a ≤ k) (h2 : b ≤ m) (hk : Nat.ble (k + m) 16777216 = true) : a + b ≤ sizeLine := nl_line (Nat.add_le_add h h2) hk
theorem nl_63 {n k : Nat} (h : n ≤ k) (hk : Nat.ble k 16777216 = true) : n < 2 ^ 63 := Nat.lt_of_le_of_lt (Nat.le_trans h (Nat.le_of_ble_eq_true hk)) (by decide)
theorem nl_i63 {n k : Nat} (h : n ≤ k) (hk : Nat.ble k 16777216 = true) : (n : Int) < 2 ^ 63 := Int.ofNat_lt.mpr (nl_63 h hk)
theorem nl_j63 {n k : Nat} (h : n < k) (hk : Nat.ble k 16777216 = true) : (n : Int) < 2 ^ 63 := Int.ofNat_lt.mpr (nl_63 (Nat.le_of_lt h) hk)
theorem nn1 (n : Nat) : (0 : Int) ≤ (n : Int) + 1 := Int.le_trans (Int.natCast_nonneg n) (Int.le_add_one (Int.le_refl _))
section
variable {α β : Type} {l m : List α} {k j : Nat}
theorem bl_take {i : Nat} (h : l.length ≤ k) : (l.take i).length ≤ k := Nat.le_trans (List.take_sublist _ _).length_le h
theorem bl_drop {i : Nat} (h : l.length ≤ k) : (l.drop i).length ≤ k := by rw [List.length_drop]; exact Nat.le_trans (Nat.sub_le _ _) h
theorem bl_app (h : l.length ≤ k) (h2 : m.length ≤ j) : (l ++ m).length ≤ k + j := by rw [List.length_append]; exact Nat.add_le_add h h2
theorem bl_cons {a : α} (h : l.length ≤ k) : (a :: l).length ≤ k + 1 := Nat.succ_le_succ h
theorem bl_nil : ([] : List α).length ≤ 0 := Nat.le_refl 0
theorem bl_rev (h : l.length ≤ k) : l.reverse.length ≤ k := by rw [List.length_reverse]; exact h
theorem blE {n : Nat} (k : Nat) (h : n = k) : n ≤ k := Nat.le_of_eq h
theorem blK {n : Nat} (k : Nat) (h : n ≤ k) : n ≤ k := h
end
end Mine

namespace Mine
section
variable {C : Cn} {A : Around} {E : Value → Shared → Prop} {c : Shared} {h h' h₁ : Heap} {tk : Nat} {env : Env} {L l : Addr} {ks : List Str} {vs : List (Option Value)} {cs : List (Str × Addr)} {gs : List (Str × Value)} {X : List Addr} {base : Heap} {n n' : Led} {P P' : OP}
variable {pos : Pos}

theorem x_asgT {elts : List Expr} {k : Nat} {tpos : Pos} {value : Expr} {Q : Flow → Shared → Prop} {s : Shared} (q : wpAny C.M A (eval value env) (fun v s₁ => wpAny C.M A (assign (.Tuple elts k tpos) env v) (fun _ => Q .next) E s₁) E s)
    (hs : swapsWithSole [.Tuple elts k tpos] value pos.line env = pure false) (hw : swappedStores [.Tuple elts k tpos] value env = pure none) : wpAny C.M A (exec (.Assign [.Tuple elts k tpos] value pos) env) Q E s := by
  with_reducible exact Assign_Tuple q hs hw
theorem aio_cons {t : Value → Sem Unit} {ts : List (Value → Sem Unit)} {x : Value} {xs : List Value} {Q : Unit → Shared → Prop} {s : Shared} (k : wpAny C.M A (t x) (fun _ s₁ => wpAny C.M A (assignInOrder ts xs) Q E s₁) E s) : wpAny C.M A (assignInOrder (t :: ts) (x :: xs)) Q E s := by
  rw [assignInOrder]
  exact wpAny_bind (wpAny_holding k)
theorem aio_nil {Q : Unit → Shared → Prop} {s : Shared} (k : Q () s) : wpAny C.M A (assignInOrder [] []) Q E s := wpAny_pure (a := ()) k
theorem as_name {x : Str} {p : Pos} {v : Value} {Q : Unit → Shared → Prop} {s : Shared} (k : wpAny C.M A (storeName env x v) Q E s) : wpAny C.M A (assign (.Name x p) env v) Q E s := by
  with_reducible exact assign_Name k
theorem as_two {x y : Str} {p1 p2 : Pos} {j : Nat} {t : Addr} {u v : Value} {Q : Unit → Shared → Prop} (ok : C.Ok) (hh : A.handled = none) (H : In C X base h n) (hm : (L, PLoc ks vs) ∈ n) (a : At C h t (PTup [u, v]))
    (k : ∀ h', In C X base h' n → wpAny C.M A (storeName env x u) (fun _ s₁ => wpAny C.M A (storeName env y v) Q E s₁) E (S c h' tk)) : wpAny C.M A (assign (.Tuple [.Name x p1, .Name y p2] j pos) env (.ref t)) Q E (S c h tk) :=
  as_tup ok hh H hm a rfl rfl fun h' H' => aio_cons (as_name (wpAny_mono (k h' H') (fun _ _ q => aio_cons (as_name (wpAny_mono q (fun _ _ q => aio_nil q) fun _ _ q => q))) fun _ _ q => q))

theorem as_two2 {x y : Str} {p1 p2 : Pos} {j : Nat} {t : Addr} {i1 i2 : Int} {Q : Unit → Shared → Prop} (ok : C.Ok) (hh : A.handled = none) (H : In C X base h n) (hm : (L, PLoc ks vs) ∈ n) (a : At C h t (PT2 i1 i2))
    (k : ∀ h' t1 t2, In C X base h' n → wpAny C.M A (storeName env x (.int i1 t1)) (fun _ s₁ => wpAny C.M A (storeName env y (.int i2 t2)) Q E s₁) E (S c h' tk)) : wpAny C.M A (assign (.Tuple [.Name x p1, .Name y p2] j pos) env (.ref t)) Q E (S c h tk) := by
  obtain ⟨z, o, e, t1, t2, p⟩ := a
  exact as_two ok hh H hm ⟨z, o, e, p⟩ fun h' H' => k h' t1 t2 H'

theorem PT2.mut {a b : Int} : ∀ o, PT2 a b o → Mut o := by
  rintro o ⟨t, u, k, rfl⟩ _ _ _ e; cases e
theorem PTup.mut {vs : List Value} : ∀ o, PTup vs o → Mut o := by
  rintro o ⟨k, rfl⟩ _ _ _ e; cases e

theorem src_il {A : Around} {it l : Addr} {ns : List Int} {n₀ : Led} (ok : C.Ok) (hh : A.handled = none) (hl : ∀ h n, In C X base h n → (∀ p ∈ n₀, p ∈ n) → IL h l ns) :
    Src C A c X base n₀ it (PIter l) ns.length (fun i v => ∃ j t, ns[i]? = some j ∧ v = .int j t) where
  next := fun i n h tk Q E hi H hn k => by
    obtain ⟨vs, hI, hL⟩ := hl _ _ H fun p q => List.mem_cons_of_mem _ (hn p q)
    obtain ⟨t, et⟩ := hI.get i ns[i] (List.getElem?_eq_getElem hi)
    refine wpAny_pyNext_list_item (H.at List.mem_cons_self).isIter hL (x := .int ns[i] t) (by simpa using et) fun h2 hit hs => ?_
    have H2 := H.upd' ok Ch.hit PIter.mut hs hit
    exact k _ h2 _ ⟨_, t, List.getElem?_eq_getElem hi, rfl⟩ H2 (H.kpExt H2.hp hs.extBut)
  fin := fun n h tk Q E H hn k => by
    obtain ⟨vs, hI, hL⟩ := hl _ _ H fun p q => List.mem_cons_of_mem _ (hn p q)
    refine wpAny_pyNext_list_end hh (H.at List.mem_cons_self).isIter hL (by simp [hI.length]) fun h2 hs => ?_
    have H2 := H.ext ok PIter.mut hs
    exact k h2 _ H2 (H.kpExt H2.hp hs)
  self := fun n h tk Q E H k => wpAny_pyIter_listiter (H.at List.mem_cons_self).isIter k
theorem src_irev {A : Around} {l it : Addr} {ns : List Int} {n₀ : Led} (ok : C.Ok) (hh : A.handled = none) (hl : ∀ h n, In C X base h n → (∀ p ∈ n₀, p ∈ n) → IL h l ns) :
    Src C A c X base n₀ it (fun i => PRev l ((ns.length : Int) - 1 - i)) ns.length (fun i v => ∃ j t, ns.reverse[i]? = some j ∧ v = .int j t) where
  next := fun i n h tk Q E hi H hn k => by
    obtain ⟨vs, hI, hL⟩ := hl _ _ H fun p q => List.mem_cons_of_mem _ (hn p q)
    obtain ⟨t, et⟩ := hI.get (ns.length - 1 - i) ns[ns.length - 1 - i] (by simp)
    have r := (H.at List.mem_cons_self).rev
    rw [show (ns.length : Int) - 1 - i = ((ns.length - 1 - i : Nat) : Int) by omega] at r
    refine wpAny_pyNext_rev_item r hL (x := .int ns[ns.length - 1 - i] t) (by simpa using et) fun h2 hit hs => ?_
    rw [show ((ns.length - 1 - i : Nat) : Int) - 1 = (ns.length : Int) - 1 - ((i + 1 : Nat) : Int) by push_cast; omega] at hit
    have H2 := H.upd' ok (P' := PRev l ((ns.length : Int) - 1 - ((i + 1 : Nat) : Int))) Ch.hit PRev.mut hs hit
    refine k _ h2 _ ⟨_, t, ?_, rfl⟩ H2 (H.kpExt H2.hp hs.extBut)
    rw [List.getElem?_reverse hi]
    simp
  fin := fun n h tk Q E H hn k => by
    obtain ⟨vs, hI, hL⟩ := hl _ _ H fun p q => List.mem_cons_of_mem _ (hn p q)
    have r := (H.at List.mem_cons_self).rev
    rw [show (ns.length : Int) - 1 - (ns.length : Nat) = -1 by omega] at r
    refine wpAny_pyNext_rev_end hh r fun h2 hs => ?_
    have H2 := H.ext ok PRev.mut hs
    exact k h2 _ H2 (H.kpExt H2.hp hs)
  self := fun n h tk Q E H k => wpAny_pyIter_revIter (H.at List.mem_cons_self).rev k

theorem for_il {σ : Type} {A : Around} {env : Env} {target : Expr} {body : List Stmt} {Q : Flow → Shared → Prop} {l : Addr} {ns : List Int} (N : σ → Led) (I : Nat → σ → Prop) (n₀ : Led) (st₀ : σ) (ok : C.Ok) (hh : A.handled = none)
    (hl : ∀ h n, In C X base h n → (∀ p ∈ n₀, p ∈ n) → IL h l ns) (hN : ∀ st, ∀ p ∈ n₀, p ∈ N st)
    (go : ∀ it v, letOwnedTupleGo target (.ref it) v = pure ())
    (H : In C X base h (N st₀)) (h0 : I 0 st₀)
    (turn : ∀ i j t it st h tk, ns[i]? = some j → I i st → In C X base h ((it, PIter l (i + 1)) :: N st) →
      wpAny C.M A (assign target env (.int j t)) (fun _ s₁ => wpAny C.M A (execs body env) (LpF C c X base N I (i + 1) (it, PIter l (i + 1)) Q) (fun _ _ => False) s₁) (fun _ _ => False) (S c h tk))
    (done : ∀ st h tk, I ns.length st → In C X base h (N st) → Q .next (S c h tk)) :
    wpAny C.M A (pyIter (.ref l)) (ForQ C A env target body Q E) E (S c h tk) := by
  obtain ⟨vs, _, hL⟩ := hl h _ H (hN st₀)
  refine wpAny_pyIter_list hL ?_
  exact for_core N I st₀ (src_il ok hh hl) hN (go _) (H.new ok rfl ⟨rfl, rfl⟩) h0 (fun i v st h tk _ hv hi H' => by
    obtain ⟨j, t, e, rfl⟩ := hv
    exact turn i j t _ st h tk e hi H') done
theorem for_irev {σ : Type} {A : Around} {env : Env} {target : Expr} {body : List Stmt} {Q : Flow → Shared → Prop} {l r : Addr} {ns : List Int} (N : σ → Led) (I : Nat → σ → Prop) (n₀ : Led) (st₀ : σ) (ok : C.Ok) (hh : A.handled = none)
    (hl : ∀ h n, In C X base h n → (∀ p ∈ n₀, p ∈ n) → IL h l ns) (hN : ∀ st, ∀ p ∈ n₀, p ∈ N st)
    (go : ∀ it v, letOwnedTupleGo target (.ref it) v = pure ())
    (H : In C X base h ((r, PRev l ((ns.length : Int) - 1)) :: N st₀)) (h0 : I 0 st₀)
    (turn : ∀ i j t st h tk, ns.reverse[i]? = some j → I i st → In C X base h ((r, PRev l ((ns.length : Int) - 1 - ((i + 1 : Nat) : Int))) :: N st) →
      wpAny C.M A (assign target env (.int j t)) (fun _ s₁ => wpAny C.M A (execs body env) (LpF C c X base N I (i + 1) (r, PRev l ((ns.length : Int) - 1 - ((i + 1 : Nat) : Int))) Q) (fun _ _ => False) s₁) (fun _ _ => False) (S c h tk))
    (done : ∀ st h tk, I ns.length st → In C X base h (N st) → Q .next (S c h tk)) :
    wpAny C.M A (pyIter (.ref r)) (ForQ C A env target body Q E) E (S c h tk) := by
  refine wpAny_pyIter_revIter (H.at List.mem_cons_self).rev ?_
  refine for_core N I st₀ (n₀ := n₀) (P := fun i => PRev l ((ns.length : Int) - 1 - (i : Nat))) (src_irev ok hh hl) hN (go _) ?_ h0 (fun i v st h tk _ hv hi H' => by
    obtain ⟨j, t, e, rfl⟩ := hv
    exact turn i j t st h tk e hi H') done
  simpa using H
theorem rvd_n {A : Around} {a : Addr} {ns : List Int} {Q : Value → Shared → Prop} (ok : C.Ok) (H : In C X base h n) (x : IL h a ns) (k : ∀ d h', In C X base h' ((d, PRev a ((ns.length : Int) - 1)) :: n) → Q (.ref d) (S c h' tk)) : wpAny C.M A (call (.type "reversed") [.ref a]) Q E (S c h tk) := by
  obtain ⟨vs, hI, hL⟩ := x
  refine rvd_il ok H hL fun d h' H' => k d h' ?_
  rwa [hI.length] at H'

theorem meth_list {A : Around} {name : Str} {id : String} {pl : Sem Bool} {Q : Value × List Value → Shared → Prop} {P : OP} (slot : Slot "list" name id) (hty : typeOf (.builtin id) = pure (.type "method_descriptor")) (x : At C h l P) (hp : ∀ o, P o → o.cls = .type "list" ∧ o.dict = none)
    (k : Q (.builtin id, [.ref l]) (S c h tk)) : wpAny C.M A (getMethod (.ref l) name pl) Q E (S c h tk) := by
  obtain ⟨_, o, e, p⟩ := x
  exact getMethod_builtin (T := "list") ⟨o, e, (hp o p).1⟩ PySem.F.plainAttrs_list slot hty (fun a ea => by cases ea; exact ⟨o, e, (hp o p).2⟩) k
theorem rev_m {A : Around} {a : Addr} {ns : List Int} {pos : Pos} {Q : Value → Shared → Prop} (ok : C.Ok) (H : In C X base h n) (ch : Ch n a (PInts ns) (PInts ns.reverse) n') (hz : ns.length ≤ sizeLine) (k : ∀ h', In C X base h' n' → Q .none (S c h' tk)) :
    wpAny C.M A (callWith pos (.builtin "list.reverse") [.ref a] (backTo pos (starEach [] env)) []) Q E (S c h tk) := rev_il ok H ch hz k
theorem meth_reverse {A : Around} {pl : Sem Bool} {Q : Value × List Value → Shared → Prop} {P : OP} (x : At C h l P) (hp : ∀ o, P o → o.cls = .type "list" ∧ o.dict = none) (k : Q (.builtin "list.reverse", [.ref l]) (S c h tk)) :
    wpAny C.M A (getMethod (.ref l) "reverse" pl) Q E (S c h tk) := meth_list PySem.F.slot_list_reverse PySem.F.type_list_reverse x hp k
theorem meth_index {A : Around} {pl : Sem Bool} {Q : Value × List Value → Shared → Prop} {P : OP} (x : At C h l P) (hp : ∀ o, P o → o.cls = .type "list" ∧ o.dict = none) (k : Q (.builtin "list.index", [.ref l]) (S c h tk)) :
    wpAny C.M A (getMethod (.ref l) "index" pl) Q E (S c h tk) := meth_list PySem.F.slot_list_index PySem.F.type_list_index x hp k
theorem meth_extend {A : Around} {pl : Sem Bool} {Q : Value × List Value → Shared → Prop} {P : OP} (x : At C h l P) (hp : ∀ o, P o → o.cls = .type "list" ∧ o.dict = none) (k : Q (.builtin "list.extend", [.ref l]) (S c h tk)) :
    wpAny C.M A (getMethod (.ref l) "extend" pl) Q E (S c h tk) := meth_list PySem.F.slot_list_extend PySem.F.type_list_extend x hp k
def ExtK (C : Cn) (A : Around) (c : Shared) (a : Addr) (Q : Value → Shared → Prop) : Value → Shared → Prop := fun v s₁ => ∃ X base ns ms b h' n n' tk', s₁ = S c h' tk' ∧ v = .ref b ∧ In C X base h' n ∧ At C h' b (PInts ms) ∧ Ch n a (PInts ns) (PInts (ns ++ ms)) n' ∧ ns.length + ms.length ≤ sizeLine ∧ ∀ h', In C X base h' n' → Q .none (S c h' tk')
theorem ext_m {A : Around} {a : Addr} {e : Expr} {pos : Pos} {Q : Value → Shared → Prop} {s : Shared} (ok : C.Ok) (k : wpAny C.M A (eval e env) (ExtK C A c a Q) E s)
    (he : starEach [e] env = (false, eval e env) :: starEach [] env) :
    wpAny C.M A (callWith pos (.builtin "list.extend") [.ref a] (backTo pos (starEach [e] env)) []) Q E s := by
  rw [he]
  show wpAny C.M A (callWith pos (.builtin "list.extend") [.ref a] [(false, _)] []) Q E s
  refine PySem.P.extend_list ?_
  simp only [Bool.false_eq_true, if_false]
  refine wpAny_mono k (fun v s₁ q => ?_) fun _ _ q => q
  obtain ⟨X, base, ns, ms, b, h', n, n', tk', rfl, rfl, H, hb, ch, hz, k⟩ := q
  obtain ⟨_, o, e, us, hi, m, rfl⟩ := H.at ch.mem
  obtain ⟨_, o2, e2, ws, hj, m2, rfl⟩ := hb
  have hs : us.toArray.size + ws.toArray.size ≤ sizeLine := by simp only [List.size_toArray, hi.length, hj.length]; exact hz
  refine ⟨b, us.toArray, ws.toArray, m, m2, by omega, by omega, extend_door hs, rfl, e, e2, k _ ?_⟩
  refine H.upd' ok ch PInts.mut (Heap.SameBut.update ..) ⟨Obj.mapSeq (fun x => x ++ ws.toArray) { cls := .type "list", data := .seq us.toArray m }, Heap.get?_update_self _ e rfl, us ++ ws, hi.append hj, if (us.toArray ++ ws.toArray).size == us.toArray.size then m else m + 1, ?_⟩
  rw [mapSeq_app]
  simp
theorem extK {A : Around} {a b : Addr} {ns ms : List Int} {Q : Value → Shared → Prop} (H : In C X base h n) (x : At C h b (PInts ms)) (ch : Ch n a (PInts ns) (PInts (ns ++ ms)) n') (hz : ns.length + ms.length ≤ sizeLine) (k : ∀ h', In C X base h' n' → Q .none (S c h' tk)) : ExtK C A c a Q (.ref b) (S c h tk) :=
  ⟨X, base, ns, ms, b, h, n, n', tk, rfl, rfl, H, x, ch, hz, k⟩

def MethK (M : Model) (A : Around) (E : Value → Shared → Prop) (pos : Pos) (args : List Expr) (env : Env) (Q : Value → Shared → Prop) : Value × List Value → Shared → Prop :=
  fun fx s₂ => wpAny M A (callWith pos fx.1 fx.2 (backTo pos (starEach args env)) []) Q E s₂
theorem methK {A : Around} {f : Value} {first : List Value} {args : List Expr} {Q : Value → Shared → Prop} {s : Shared} (k : wpAny C.M A (callWith pos f first (backTo pos (starEach args env)) []) Q E s) : MethK C.M A E pos args env Q (f, first) s := k
theorem e_methK {A : Around} {o : Expr} {name : Str} {apos pos : Pos} {args : List Expr} {Q : Value → Shared → Prop} {pl : Sem Bool} {s : Shared}
    (k : wpAny C.M A (eval o env) (fun ov s₁ => wpAny C.M A (getMethod ov name pl) (MethK C.M A E pos args env Q) E s₁) E s)
    (he : eval (.Call (.Attribute o name apos) args [] pos) env = (do
      let ov ← eval o env
      standAt apos.atName
      let (f, first) ← holding [ov] (getMethod ov name pl)
      callWith pos f first (backTo pos (starEach args env)) [])) : wpAny C.M A (eval (.Call (.Attribute o name apos) args [] pos) env) Q E s := e_meth k he
theorem cw_m1 {A : Around} {id : String} {x : Value} {e : Expr} {rest : List Expr} {pos : Pos} {Q : Value → Shared → Prop} {s : Shared}
    (k : wpAny C.M A (spliced (backTo pos (starEach (e :: rest) env))) (fun vs s₁ => wpAny C.M A (call (.builtin id) (x :: vs)) Q E s₁) E s)
    (he : starEach (e :: rest) env = (false, eval e env) :: starEach rest env) (hp : (backTo pos (starEach rest env)).any (·.1) = false) : wpAny C.M A (callWith pos (.builtin id) [x] (backTo pos (starEach (e :: rest) env)) []) Q E s := cw_meth1 (first := [x]) k he hp

theorem pit_il {A : Around} {l : Addr} {ns : List Int} {Q : Value → Shared → Prop} (ok : C.Ok) (H : In C X base h n) (x : IL h l ns) (k : ∀ it h', In C X base h' ((it, PIter l 0) :: n) → Q (.ref it) (S c h' tk)) : wpAny C.M A (pyIter (.ref l)) Q E (S c h tk) := by
  obtain ⟨vs, _, hl⟩ := x
  exact pit_list ok H hl k
theorem In.mid {p : Addr × OP} {P' : OP} {d : Addr} {P : OP} (H : In C X base h (p :: (d, P) :: n)) (k : ∀ o, P o → P' o) : In C X base h (p :: (d, P') :: n) :=
  ((H.perm (List.Perm.swap _ _ _)).weak1 k).perm (List.Perm.swap _ _ _)
theorem ck_il {A : Around} {elt target iter : Expr} {ifs : List Expr} {scope : Scope} {cl : List (Str × Addr)} {pos : Pos} {use : Option (Value → Sem Unit)} {Q : Value → Shared → Prop} {ks' fs gn : List Str} {cs' : List (Str × Addr)} {gs' : List (Str × Value)}
    {n₀ : Led} {l it : Addr} {ns : List Int} (F : Nat → List Int)
    (ok : C.Ok) (hh : A.handled = none) (V : EnvF C env L ks cs gs) (D : Cs scope ks' fs [] gn) (hcell : ∀ p ∈ scope.names, p.2 ≠ .cell) (hcs : ∀ p ∈ cs', p.1 ∈ fs ∧ p ∈ cs) (hgs : ∀ p ∈ gs', p.1 ∈ gn ∧ GVal C p.1 p.2) (hcl : ∀ x ∈ fs, ∀ a, (x, a) ∈ cs → cl.lookup x = some a)
    (hl : ∀ h n, In C X base h n → (∀ p ∈ n₀, p ∈ n) → IL h l ns) (hN : ∀ p ∈ n₀, p ∈ n) (hz : ns.length ≤ sizeLine) (hF : F 0 = [])
    (go : ∀ v, letOwnedTupleGo target (.ref it) v = pure ())
    (H : In C X base h ((it, PIter l 0) :: n))
    (turn : ∀ C' env' D i j t vs ys h tk, EnvF C env' C' ks' cs' gs' → ns[i]? = some j → IntsAre ys (F i) → In C X base h ((it, PIter l (i + 1)) :: (D, PList ys) :: (C', PLoc ks' vs) :: n) → vs.length = ks'.length →
      wpAny C.M A (assign target env' (.int j t)) (fun _ s₂ => wpAny C.M A (tests C.M ifs env') (fun b s₃ =>
        Br b (wpAny C.M A (eval elt env') (CpE C c X base (fun vs : { vs : List (Option Value) // vs.length = ks'.length } => (C', PLoc ks' vs.1) :: n) (fun i ys _ => IntsAre ys (F i)) (i + 1) ys (it, PIter l (i + 1)) D) (fun _ _ => False) s₃)
          (CpS C c X base (fun vs : { vs : List (Option Value) // vs.length = ks'.length } => (C', PLoc ks' vs.1) :: n) (fun i ys _ => IntsAre ys (F i)) (i + 1) ys (it, PIter l (i + 1)) D s₃)) (fun _ _ => False) s₂) (fun _ _ => False) (S c h tk))
    (done : ∀ C' D vs h tk, In C X base h ((C', PLoc ks' vs) :: (D, PInts (F ns.length)) :: n) → compPost C.M A E use Q (.ref D) C' (.ok .next) (S c h tk)) :
    CompK C A E scope cl env (.ListComp elt [⟨target, iter, ifs, 0⟩] scope pos) use Q (.ref it) (S c h tk) := by
  refine ck_0 (fun i ys _ => IntsAre ys (F i)) ok V D hcell hcs hgs hcl (src_il ok hh hl) hN hz (fun _ _ _ _ q _ => q) go H (fun _ => by rw [hF]; exact .nil) ?_ ?_
  · intro C' env' D i v vs ys h tk V' hi hv hj H' hlen
    obtain ⟨j, t, e, rfl⟩ := hv
    exact turn C' env' D i j t vs ys h tk V' e hj H' hlen
  · intro C' D vs ys h tk hj _ H'
    exact done C' D vs h tk (H'.mid fun o p => ⟨ys, hj, p⟩)
end
end Mine

namespace Mine
theorem ri {i j : Int} {t : Tok} {h h' : Heap} (e : i = j) : RInt j h h' (.int i t) := ⟨t, by rw [e]⟩
theorem bits_small {x : Int} {k : Nat} (h0 : 0 ≤ x) (h : x < 2 ^ k) : Builtin.Int.intBits x ≤ k := by
  rw [intBits_le_iff]
  have : (x.natAbs : Int) < 2 ^ k := by omega
  exact_mod_cast this
theorem In.tail {C : Cn} {X : List Addr} {base h : Heap} {n : Led} {p : Addr × OP} (H : In C X base h (p :: n)) : In C X base h n := H.drop (List.sublist_cons_self _ _)
theorem noPy {a b : Int} (h : Builtin.Int.intBits b ≤ 5000) : Builtin.divisionGoesByPylong a b = false := by
  unfold Builtin.divisionGoesByPylong
  unfold Builtin.Int.intBits at h
  simp only [Bool.and_eq_false_imp, decide_eq_true_eq]
  intro q
  exfalso
  split at q
  · omega
  · rename_i hb
    rw [if_neg hb] at h
    omega

section
variable {C : Cn} {A : Around} {E : Value → Shared → Prop} {c : Shared} {h h' h₁ : Heap} {tk : Nat} {env : Env} {L l a b : Addr} {ks : List Str} {vs : List (Option Value)} {cs : List (Str × Addr)} {gs : List (Str × Value)} {X : List Addr} {base : Heap} {n n' : Led} {P P' : OP}
variable {value slice : Expr} {ns : List Int} {Q : Value → Shared → Prop}
abbrev SlHow (slice : Expr) (a b : Addr) : Prop := subscripted slice false (.ref a) (.ref b) = operate [.ref b, .ref a] (getItem (.ref a) (.ref b)) ∨ subscripted slice false (.ref a) (.ref b) = operate [.ref a, .ref b] (getItem (.ref a) (.ref b))
theorem sl_rev {t : Tok} (ok : C.Ok) (H : In C X base h n) (x : IL h a ns) (y : At C h b (PSlice .none .none (.int (-1) t))) (hz : ns.length ≤ sizeLine) (k : ∀ d h', In C X base h' ((d, PInts ns.reverse) :: n) → Q (.ref d) (S c h' tk)) (hs : SlHow slice a b) :
    wpAny C.M A (subscriptTail value slice (.ref a) (.ref b)) Q E (S c h tk) :=
  sub_slice ok H x y .none .none (.int _ _) (by decide) hz (fun vs hi => by rw [krv_pick]; simpa using IntsAre.reverse hi) k hs
theorem sl_upto {t : Tok} {j : Int} (ok : C.Ok) (H : In C X base h n) (x : IL h a ns) (y : At C h b (PSlice .none (.int j t) .none)) (h0 : 0 ≤ j) (hz : ns.length ≤ sizeLine) (k : ∀ d h', In C X base h' ((d, PInts (ns.take j.toNat)) :: n) → Q (.ref d) (S c h' tk)) (hs : SlHow slice a b) :
    wpAny C.M A (subscriptTail value slice (.ref a) (.ref b)) Q E (S c h tk) :=
  sub_slice ok H x y .none (.int _ _) .none (by decide) hz (fun vs hi => kmk_upto hi h0) k hs
theorem sl_from {t : Tok} {i : Int} (ok : C.Ok) (H : In C X base h n) (x : IL h a ns) (y : At C h b (PSlice (.int i t) .none .none)) (h0 : 0 ≤ i) (hz : ns.length ≤ sizeLine) (k : ∀ d h', In C X base h' ((d, PInts (ns.drop i.toNat)) :: n) → Q (.ref d) (S c h' tk)) (hs : SlHow slice a b) :
    wpAny C.M A (subscriptTail value slice (.ref a) (.ref b)) Q E (S c h tk) :=
  sub_slice ok H x y (.int _ _) .none .none (by decide) hz (fun vs hi => kmk_from hi h0) k hs
theorem sl_run {t u : Tok} {i j : Int} (ok : C.Ok) (H : In C X base h n) (x : IL h a ns) (y : At C h b (PSlice (.int i t) (.int j u) .none)) (h0 : 0 ≤ i) (h1 : 0 ≤ j) (h2 : j ≤ ns.length) (hz : ns.length ≤ sizeLine) (k : ∀ d h', In C X base h' ((d, PInts ((ns.drop i.toNat).take (j.toNat - i.toNat))) :: n) → Q (.ref d) (S c h' tk)) (hs : SlHow slice a b) :
    wpAny C.M A (subscriptTail value slice (.ref a) (.ref b)) Q E (S c h tk) :=
  sub_slice ok H x y (.int _ _) (.int _ _) .none (by decide) hz (fun vs hi => by
    have := kmk_run hi h0 h1
    rwa [show min j.toNat ns.length = j.toNat by omega] at this) k hs
theorem sl_pick {t u v : Tok} {i j s : Int} (ok : C.Ok) (H : In C X base h n) (x : IL h a ns) (y : At C h b (PSlice (.int i t) (.int j u) (.int s v))) (h0 : s ≠ 0) (hz : ns.length ≤ sizeLine) (k : ∀ d h', In C X base h' ((d, PInts (pickNums ns (some i) (some j) (some s))) :: n) → Q (.ref d) (S c h' tk)) (hs : SlHow slice a b) :
    wpAny C.M A (subscriptTail value slice (.ref a) (.ref b)) Q E (S c h tk) :=
  sub_slice ok H x y (.int _ _) (.int _ _) (.int _ _) (by intro q; cases q; exact h0 rfl) hz (fun vs hi => IntsAre.pick hi _ _ _) k hs
theorem pit_ilC {elt : Expr} {scope : Scope} {cl : List (Str × Addr)} {use : Option (Value → Sem Unit)} (ok : C.Ok) (H : In C X base h n) (x : IL h l ns) (k : ∀ it h', In C X base h' ((it, PIter l 0) :: n) → CompK C A E scope cl env elt use Q (.ref it) (S c h' tk)) : wpAny C.M A (pyIter (.ref l)) (CompK C A E scope cl env elt use Q) E (S c h tk) := pit_il ok H x k

theorem i_chain {l r1 r2 : Expr} {op1 op2 : CmpOp} {pos : Pos} {whole : Sem Value} {Q : Bool → Shared → Prop} {s : Shared}
    (k : wpAny C.M A (eval l env) (fun a s₁ => wpAny C.M A (eval r1 env) (fun b s₂ => wpAny C.M A (compareOp op1 a b) (fun x s₃ => wpAny C.M A (truthy x)
      (fun t s₄ => Br t (wpAny C.M A (eval r2 env) (fun d s₅ => wpAny C.M A (compareOp op2 b d) (fun y s₆ => wpAny C.M A (truthy y) Q E s₆) E s₅) E s₄) (Q false s₄)) E s₃) E s₂) E s₁) E s)
    (hm : lastMarks [op1, op2] [r1, r2] = false) : wpAny C.M A (isTrue (.Compare l [op1, op2] [r1, r2] pos) env whole) Q E s := by
  refine isTrue_chain (wpAny_mono k (fun a s₁ q => test_link (wpAny_mono q (fun b s₂ q => wpAny_mono q (fun x s₃ q => wpAny_mono q (fun t s₄ q => ?_) fun _ _ q => q) fun _ _ q => q) fun _ _ q => q)) fun _ _ q => q) hm
  cases t with
  | true => exact test_last q
  | false => exact q
theorem ia_snoc {ys : List Value} {zs zs' : List Int} {j : Int} {t : Tok} (h : IntsAre ys zs) (e : zs' = zs ++ [j]) : IntsAre (ys ++ [.int j t]) zs' := by
  rw [e]; exact h.append (.cons _ _ .nil)
theorem take_snoc {α : Type} {ns : List α} {i : Nat} {j : α} (e : ns[i]? = some j) : ns.take (i + 1) = ns.take i ++ [j] := by rw [List.take_add_one, e]; rfl

theorem sub_ilT {x : Int} {t : Tok} (hl : IL h a ns) (h0 : 0 ≤ x) (h1 : x < ns.length) (hf : x < 2 ^ 63) (k : ∀ t, Q (.int (ns.getD x.toNat 0) t) (S c h tk))
    (hs : subscripted slice false (.ref a) (.int x t) = operate [.ref a, .int x t] (getItem (.ref a) (.int x t))) : wpAny C.M A (subscriptTail value slice (.ref a) (.int x t)) Q E (S c h tk) := by
  obtain ⟨vs, hi, hl⟩ := hl
  obtain ⟨u, hx⟩ := hi.get x.toNat _ (ints_getD h0 h1)
  exact tail_any hl.typeIs slot_list_getitem.lookup (wpAny_getItem_list hl h0 hf (by simpa using hx) (k u)) hs
theorem sub_ilN {x : Int} {t : Tok} (hl : IL h a ns) (h0 : x < 0) (h1 : -(ns.length : Int) ≤ x) (hf : -(2 ^ 63) ≤ x) (k : ∀ t, Q (.int (ns.getD (x + ns.length).toNat 0) t) (S c h tk))
    (hs : subscripted slice false (.ref a) (.int x t) = operate [.ref a, .int x t] (getItem (.ref a) (.int x t))) : wpAny C.M A (subscriptTail value slice (.ref a) (.int x t)) Q E (S c h tk) := by
  obtain ⟨vs, hi, hl⟩ := hl
  have hsz : vs.toArray.size = ns.length := by simp [hi.length]
  obtain ⟨u, hx⟩ := hi.get (x + ns.length).toNat _ (ints_getD (k := x + ns.length) (by omega) (by omega))
  exact tail_any hl.typeIs slot_list_getitem.lookup (wpAny_getItem_list_neg hl h0 (by rw [hsz]; exact h1) hf (by rw [hsz]; simpa using hx) (k u)) hs
end
end Mine

namespace Mine
section
variable {C : Cn} {A : Around} {E : Value → Shared → Prop} {c : Shared} {h h' h₁ : Heap} {tk : Nat} {env : Env} {L l a b : Addr} {ks : List Str} {vs : List (Option Value)} {cs : List (Str × Addr)} {gs : List (Str × Value)} {X : List Addr} {base : Heap} {n n' : Led} {P P' : OP}

theorem cellsFrom_none : ∀ (names : List (Str × NameKind)) (m : Nat) (acc : List (Str × Addr)), (names.filter fun p => p.2 == .cell) = [] → cellsFrom m names acc = acc
  | [], _, _, _ => rfl
  | (y, k) :: r, m, acc, h => by
    unfold cellsFrom
    by_cases hk : (k == NameKind.cell) = true
    · rw [List.filter_cons_of_pos (by exact hk)] at h; cases h
    · rw [if_neg hk]
      rw [List.filter_cons_of_neg (by exact hk)] at h
      exact cellsFrom_none r m acc h
theorem pushCells_none : ∀ (names : List (Str × NameKind)) (h : Heap), (names.filter fun p => p.2 == .cell) = [] → pushCells h names = h
  | [], _, _ => rfl
  | (y, k) :: r, h, hn => by
    unfold pushCells
    by_cases hk : (k == NameKind.cell) = true
    · rw [List.filter_cons_of_pos (by exact hk)] at hn; cases hn
    · rw [if_neg hk]
      rw [List.filter_cons_of_neg (by exact hk)] at hn
      exact pushCells_none r h hn
theorem cellsFrom_one {x : Str} : ∀ (names : List (Str × NameKind)) (m : Nat) (acc : List (Str × Addr)), (names.filter fun p => p.2 == .cell) = [(x, .cell)] → cellsFrom m names acc = (x, m) :: acc
  | (y, k) :: r, m, acc, h => by
    unfold cellsFrom
    by_cases hk : (k == NameKind.cell) = true
    · rw [if_pos hk]
      rw [List.filter_cons_of_pos (by exact hk)] at h
      obtain ⟨h1, h2⟩ := List.cons.inj h
      cases h1
      exact cellsFrom_none r _ _ h2
    · rw [if_neg hk]
      rw [List.filter_cons_of_neg (by exact hk)] at h
      exact cellsFrom_one r m acc h
theorem pushCells_one {x : Str} : ∀ (names : List (Str × NameKind)) (h : Heap), (names.filter fun p => p.2 == .cell) = [(x, .cell)] → pushCells h names = h.push { cls := .type "cell", data := .cell none }
  | (y, k) :: r, h, hn => by
    unfold pushCells
    by_cases hk : (k == NameKind.cell) = true
    · rw [if_pos hk]
      rw [List.filter_cons_of_pos (by exact hk)] at hn
      obtain ⟨_, h2⟩ := List.cons.inj hn
      exact pushCells_none r _ h2
    · rw [if_neg hk]
      rw [List.filter_cons_of_neg (by exact hk)] at hn
      exact pushCells_one r h hn

theorem ne_one {scope : Scope} {cl : List (Str × Addr)} {ks' : List Str} {x : Str} {Q : Env → Shared → Prop} (ok : C.Ok) (H : In C X base h n) (hn : ks'.Nodup) (hcell : (scope.names.filter fun p => p.2 == .cell) = [(x, .cell)]) (hk : scope.kind = .function)
    (k : ∀ C' b h', In C X base h' ((C', PLoc ks' (ks'.map fun _ => none)) :: (b, PCell none) :: n) → Q (newEnv scope C' env.globals ((x, b) :: cl) env.qual none .none (some env) builtinsNs) (S c h' tk)) :
    wpAny C.M A (newFunctionEnv scope env.globals cl [] env.qual none .none (some env)) Q E (S c h tk) := by
  simp only [newFunctionEnv, Option.isSome_some, if_true]
  refine wpAny_bind (wpAny_alloc ?_)
  refine wpAny_bind (wpAny_layCells _ (fun name kind cells => by cases hkc : kind == NameKind.cell <;> simp [hkc]) _ _ _ _ ?_)
  rw [cellsFrom_one _ _ _ hcell, pushCells_one _ _ hcell]
  refine wpAny_bind ?_
  rw [List.forIn_nil]
  refine wpAny_pure (wpAny_pure (k h.objs.size (h.push { cls := .type "dict", data := .dict #[] }).objs.size _ ?_))
  have H1 := H.new (P := PLoc ks' (ks'.map fun _ => none)) ok (o := { cls := .type "dict", data := .dict #[] }) rfl (newNs _ _ hn)
  exact (H1.new (P := PCell none) ok (o := { cls := .type "cell", data := .cell none }) rfl ⟨_, rfl, fun _ q => nomatch q⟩).perm (List.Perm.swap _ _ _)

theorem ck_1 {elt target iter : Expr} {ifs : List Expr} {scope : Scope} {cl : List (Str × Addr)} {pos : Pos} {use : Option (Value → Sem Unit)} {Q : Value → Shared → Prop} {ks' fs gn : List Str} {x : Str} {cs' : List (Str × Addr)} {gs' : List (Str × Value)}
    {n₀ : Led} {it : Addr} {P : Nat → OP} {len : Nat} {W : Nat → Value → Prop} (J : Nat → List Value → Heap → Prop)
    (ok : C.Ok) (V : EnvF C env L ks cs gs) (D : Cs scope ks' fs [x] gn) (hcell : (scope.names.filter fun p => p.2 == .cell) = [(x, .cell)]) (hxf : x ∉ fs) (hcs : ∀ p ∈ cs', p.1 ∈ fs ∧ p ∈ cs) (hgs : ∀ p ∈ gs', p.1 ∈ gn ∧ GVal C p.1 p.2) (hcl : ∀ x ∈ fs, ∀ a, (x, a) ∈ cs → cl.lookup x = some a)
    (Sr : Src C A c X base n₀ it P len W) (hN : ∀ p ∈ n₀, p ∈ n) (hz : len ≤ sizeLine)
    (Jm : ∀ i ys h h', J i ys h → Kp C [it] h h' → J i ys h')
    (go : ∀ v, letOwnedTupleGo target (.ref it) v = pure ())
    (H : In C X base h ((it, P 0) :: n)) (h0 : ∀ h', J 0 [] h')
    (turn : ∀ C' b env' D i v vs u ys h tk, EnvF C env' C' ks' ((x, b) :: cs') gs' → (∀ y ∈ [x], env'.kindOf y = some .cell) → i < len → W i v → J i ys h → In C X base h ((it, P (i + 1)) :: (D, PList ys) :: (C', PLoc ks' vs) :: (b, PCell u) :: n) → vs.length = ks'.length →
      wpAny C.M A (assign target env' v) (fun _ s₂ => wpAny C.M A (tests C.M ifs env') (fun t s₃ =>
        Br t (wpAny C.M A (eval elt env') (CpE C c X base (fun st : { vs : List (Option Value) // vs.length = ks'.length } × Option Value => (C', PLoc ks' st.1.1) :: (b, PCell st.2) :: n) J (i + 1) ys (it, P (i + 1)) D) (fun _ _ => False) s₃)
          (CpS C c X base (fun st : { vs : List (Option Value) // vs.length = ks'.length } × Option Value => (C', PLoc ks' st.1.1) :: (b, PCell st.2) :: n) J (i + 1) ys (it, P (i + 1)) D s₃)) (fun _ _ => False) s₂) (fun _ _ => False) (S c h tk))
    (done : ∀ C' D vs ys h tk, J len ys h → ys.length ≤ len → In C X base h ((C', PLoc ks' vs) :: (D, PList ys) :: n) → compPost C.M A E use Q (.ref D) C' (.ok .next) (S c h tk)) :
    CompK C A E scope cl env (.ListComp elt [⟨target, iter, ifs, 0⟩] scope pos) use Q (.ref it) (S c h tk) := by
  refine l_new ok H (by simp) fun Dl h1 H1 => ?_
  refine ne_one ok H1 D.nd hcell D.kind fun C' b h2 H2 => ?_
  have hlk : ∀ p ∈ (x, b) :: cs', (p.1 ∈ fs ∨ p.1 ∈ [x]) ∧ ((x, b) :: cl).lookup p.1 = some p.2 := fun p hp => by
    rcases List.mem_cons.mp hp with rfl | hp
    · exact ⟨.inr List.mem_cons_self, by simp⟩
    · have hm := (hcs p hp).1
      refine ⟨.inl hm, ?_⟩
      rw [List.lookup_cons, beq_eq_false_iff_ne.mpr (fun q : p.1 = x => hxf (by rw [← q]; exact hm))]
      exact hcl _ hm _ (hcs p hp).2
  have V' : EnvF C (cEnv scope ((x, b) :: cl) C' env) C' ks' ((x, b) :: cs') gs' := envF_comp V D C' hlk hgs
  have hkx : ∀ y ∈ [x], (cEnv scope ((x, b) :: cl) C' env).kindOf y = some .cell := fun y hy => by
    rcases relabel_kind V (cl := (x, b) :: cl) (C' := C') (D.ko y hy).1 with q | ⟨q, _⟩
    · exact q
    · cases q
  have e : ({ newEnv scope C' env.globals ((x, b) :: cl) env.qual none .none (some env) builtinsNs with scope := relabel scope env } : Env) = cEnv scope ((x, b) :: cl) C' env := rfl
  rw [e]
  refine comp_loop (fun st : { vs : List (Option Value) // vs.length = ks'.length } × Option Value => (C', PLoc ks' st.1.1) :: (b, PCell st.2) :: n) J (⟨ks'.map fun _ => none, by rw [List.length_map]⟩, none) ok Sr (fun st p hp => List.mem_cons_of_mem _ (List.mem_cons_of_mem _ (hN p hp))) hz Jm go ?_ (h0 _)
    (fun i v st ys h tk hi hv hj H => turn C' b _ Dl i v st.1.1 st.2 ys h tk V' hkx hi hv hj H st.1.2) fun st ys h tk hj hy H3 => done C' Dl st.1.1 ys h tk hj hy (((H3.perm (List.Perm.swap ..)).drop (.cons₂ _ (.cons₂ _ (List.sublist_cons_self _ _)))))
  -- (C', ..) :: (b, ..) :: (Dl, ..) :: (it, ..) :: n
  refine H2.perm ?_
  refine (List.Perm.trans (List.Perm.cons _ (List.Perm.cons _ (List.Perm.swap _ _ _))) ?_)
  -- C', b, it, D, n  →  it, D, C', b, n
  refine (List.Perm.cons _ (List.Perm.swap _ _ _)).trans ?_
  -- C', it, b, D, n
  refine (List.Perm.swap _ _ _).trans (List.Perm.cons _ ?_)
  -- C', b, D, n → D, C', b, n
  exact ((List.Perm.cons _ (List.Perm.swap _ _ _))).trans (List.Perm.swap _ _ _)
theorem ck_il1 {elt target iter : Expr} {ifs : List Expr} {scope : Scope} {cl : List (Str × Addr)} {pos : Pos} {use : Option (Value → Sem Unit)} {Q : Value → Shared → Prop} {ks' fs gn : List Str} {x : Str} {cs' : List (Str × Addr)} {gs' : List (Str × Value)}
    {n₀ : Led} {l it : Addr} {ns : List Int} (F : Nat → List Int)
    (ok : C.Ok) (hh : A.handled = none) (V : EnvF C env L ks cs gs) (D : Cs scope ks' fs [x] gn) (hcell : (scope.names.filter fun p => p.2 == .cell) = [(x, .cell)]) (hxf : x ∉ fs) (hcs : ∀ p ∈ cs', p.1 ∈ fs ∧ p ∈ cs) (hgs : ∀ p ∈ gs', p.1 ∈ gn ∧ GVal C p.1 p.2) (hcl : ∀ x ∈ fs, ∀ a, (x, a) ∈ cs → cl.lookup x = some a)
    (hl : ∀ h n, In C X base h n → (∀ p ∈ n₀, p ∈ n) → IL h l ns) (hN : ∀ p ∈ n₀, p ∈ n) (hz : ns.length ≤ sizeLine) (hF : F 0 = [])
    (go : ∀ v, letOwnedTupleGo target (.ref it) v = pure ())
    (H : In C X base h ((it, PIter l 0) :: n))
    (turn : ∀ C' b env' D i j t vs u ys h tk, EnvF C env' C' ks' ((x, b) :: cs') gs' → (∀ y ∈ [x], env'.kindOf y = some .cell) → ns[i]? = some j → IntsAre ys (F i) → In C X base h ((it, PIter l (i + 1)) :: (D, PList ys) :: (C', PLoc ks' vs) :: (b, PCell u) :: n) → vs.length = ks'.length →
      wpAny C.M A (assign target env' (.int j t)) (fun _ s₂ => wpAny C.M A (tests C.M ifs env') (fun t s₃ =>
        Br t (wpAny C.M A (eval elt env') (CpE C c X base (fun st : { vs : List (Option Value) // vs.length = ks'.length } × Option Value => (C', PLoc ks' st.1.1) :: (b, PCell st.2) :: n) (fun i ys _ => IntsAre ys (F i)) (i + 1) ys (it, PIter l (i + 1)) D) (fun _ _ => False) s₃)
          (CpS C c X base (fun st : { vs : List (Option Value) // vs.length = ks'.length } × Option Value => (C', PLoc ks' st.1.1) :: (b, PCell st.2) :: n) (fun i ys _ => IntsAre ys (F i)) (i + 1) ys (it, PIter l (i + 1)) D s₃)) (fun _ _ => False) s₂) (fun _ _ => False) (S c h tk))
    (done : ∀ C' D vs h tk, In C X base h ((C', PLoc ks' vs) :: (D, PInts (F ns.length)) :: n) → compPost C.M A E use Q (.ref D) C' (.ok .next) (S c h tk)) :
    CompK C A E scope cl env (.ListComp elt [⟨target, iter, ifs, 0⟩] scope pos) use Q (.ref it) (S c h tk) := by
  refine ck_1 (fun i ys _ => IntsAre ys (F i)) ok V D hcell hxf hcs hgs hcl (src_il ok hh hl) hN hz (fun _ _ _ _ q _ => q) go H (fun _ => by rw [hF]; exact .nil) ?_ ?_
  · intro C' b env' D i v vs u ys h tk V' hk hi hv hj H' hlen
    obtain ⟨j, t, e, rfl⟩ := hv
    exact turn C' b env' D i j t vs u ys h tk V' hk e hj H' hlen
  · intro C' D vs ys h tk hj _ H'
    exact done C' D vs h tk (H'.mid fun o p => ⟨ys, hj, p⟩)

theorem r_min2 {i j : Int} {t u : Tok} {Q : Value → Shared → Prop} (ok : C.Ok) (hh : A.handled = none) (H : In C X base h n) (k : ∀ t h' tk', In C X base h' n → Q (.int (min i j) t) (S c h' tk')) : wpAny C.M A (call (.builtin "min") [.int i t, .int j u]) Q E (S c h tk) := by
  refine min_two_ints hh fun h' tk' hk => ?_
  have H' := H.all ok hk
  by_cases q : j < i
  · rw [if_pos q]; have := k u h' tk' H'; rwa [Int.min_def, if_neg (by omega)] at this
  · rw [if_neg q]; have := k t h' tk' H'; rwa [Int.min_def, if_pos (by omega)] at this
theorem r_max2 {i j : Int} {t u : Tok} {Q : Value → Shared → Prop} (ok : C.Ok) (hh : A.handled = none) (H : In C X base h n) (k : ∀ t h' tk', In C X base h' n → Q (.int (max i j) t) (S c h' tk')) : wpAny C.M A (call (.builtin "max") [.int i t, .int j u]) Q E (S c h tk) := by
  refine max_two_ints hh fun h' tk' hk => ?_
  have H' := H.all ok hk
  by_cases q : j > i
  · rw [if_pos q]; have := k u h' tk' H'; rwa [show max i j = j by omega] at this
  · rw [if_neg q]; have := k t h' tk' H'; rwa [show max i j = i by omega] at this
theorem Rm.line64 {d u : Nat} (r : Rm A d u) (h : 64 ≤ u) : A.units + 64 < cLine := by have := r.hu; omega

theorem br_decI {p : Prop} {i : Decidable p} {X Y : Prop} (k1 : p → X) (k2 : ¬ p → Y) : Br (@decide p i) X Y := br_dec k1 k2
end
end Mine

namespace Mine
section
variable {C : Cn} {A : Around} {E : Value → Shared → Prop} {c : Shared} {h h' h₁ : Heap} {tk : Nat} {env : Env} {L l a b : Addr} {ks : List Str} {vs : List (Option Value)} {cs : List (Str × Addr)} {gs : List (Str × Value)} {X : List Addr} {base : Heap} {n n' : Led} {P P' : OP}
variable {value slice : Expr} {x y : List Nat} {t u : Tok} {Q : Value → Shared → Prop}

def mks (l : List Nat) : Str := ⟨l.toArray⟩
theorem mks_len (l : List Nat) : (mks l).length = l.length := by simp [mks, Str.length]
theorem mks_inj {x y : List Nat} : mks x = mks y ↔ x = y := by
  constructor
  · intro h
    have : x.toArray = y.toArray := congrArg Str.cps h
    simpa using this
  · rintro rfl; rfl
theorem s_eq (k : Q (.bool (decide (x = y))) (S c h tk)) : wpAny C.M A (compareOp .Eq (.str (mks x) t) (.str (mks y) u)) Q E (S c h tk) := by
  refine PyProof.Rows.eq_str ?_
  have e : (mks x == mks y) = decide (x = y) := by
    by_cases q : x = y
    · subst q; simp
    · rw [decide_eq_false q]; exact beq_eq_false_iff_ne.mpr (fun e => q (mks_inj.mp e))
  rw [e]; exact k
theorem s_truthy {Q : Bool → Shared → Prop} (hz : x.length < 2 ^ 63) (k : Q (!x.isEmpty) (S c h (tk + 1 + 1))) : wpAny C.M A (truthy (.str (mks x) t)) Q E (S c h tk) := by
  refine PySem.P.truthy_str (by rw [mks_len]; omega) ?_
  have e : (((mks x).length : Int) != 0) = !x.isEmpty := by
    rw [mks_len]
    cases x with
    | nil => rfl
    | cons a r => simp; omega
  rw [e]; exact k
theorem s_len (hz : x.length < 2 ^ 63) (k : Q (.int x.length (tk + 1)) (S c h (tk + 1 + 1))) : wpAny C.M A (call (.builtin "len") [.str (mks x) t]) Q E (S c h tk) := by
  refine PyProof.Rows.len_str (by rw [mks_len]; omega) ?_
  rw [mks_len]; exact k
theorem s_item {i : Int} {j : Nat} {d : Nat} (hj : i = j ∨ i = (j : Int) - x.length) (hd : x[j]? = some d) (hz : x.length < 2 ^ 62) (k : ∀ t tk', Q (.str (mks [d]) t) (S c h tk'))
    (hs : subscripted slice false (.str (mks x) t) (.int i u) = operate [.str (mks x) t, .int i u] (getItem (.str (mks x) t) (.int i u))) : wpAny C.M A (subscriptTail value slice (.str (mks x) t) (.int i u)) Q E (S c h tk) := by
  have hlt : j < x.length := (List.getElem?_eq_some_iff.mp hd).1
  refine tail_any (typeIs_str _ _ _) F.slot_str_getitem.lookup (PyProof.Rows.getItem_str (c := d) ?_ ?_ (k _ _)) hs
  · have h1 : ¬ (i < -(2 ^ 63 : Int)) := by omega
    have h2 : ¬ (i ≥ 2 ^ 63) := by omega
    simp only [h1, h2, decide_false, Bool.or_false]
  · rw [mks_len]
    have e : seqIndex? i x.length = some j := by
      unfold seqIndex?
      rcases hj with rfl | rfl
      · simp; omega
      · by_cases q : (j : Int) - x.length < 0
        · simp [q]; omega
        · omega
    rw [e]
    simpa [mks] using hd
theorem s_slice {lo hi : Option (Int × Tok)} (ok : C.Ok) (H : In C X base h n) (y : At C h b (PSlice (partValue lo) (partValue hi) .none)) (hz : x.length ≤ sizeLine) (k : ∀ t tk', Q (.str (Txt.slice (mks x) (lo.map (·.1)) (hi.map (·.1))) t) (S c h tk'))
    (hs : subscripted slice false (.str (mks x) t) (.ref b) = operate [.ref b, .str (mks x) t] (getItem (.str (mks x) t) (.ref b)) ∨ subscripted slice false (.str (mks x) t) (.ref b) = operate [.str (mks x) t, .ref b] (getItem (.str (mks x) t) (.ref b))) :
    wpAny C.M A (subscriptTail value slice (.str (mks x) t) (.ref b)) Q E (S c h tk) := by
  obtain ⟨_, o, e, rfl⟩ := y
  have g : wpAny C.M A (getItem (.str (mks x) t) (.ref b)) Q E (S c h tk) := by
    refine wpAny_getItem_str_slice (l := lo) (u := hi) (st := none) ⟨_, e, rfl, rfl⟩ rfl ?_
    exact post_val_or_str ⟨Nat.le_trans (Txt.slice_le _ _ _) (by rw [mks_len]; exact hz), fun t' k' => k t' k'⟩
  rcases hs with hs | hs <;> exact tail_any (typeIs_str _ _ _) F.slot_str_getitem.lookup g hs
theorem t_from {i : Int} (h0 : 0 ≤ i) : Txt.slice (mks x) (some i) none = mks (x.drop i.toNat) := by
  by_cases q : i ≤ (mks x).length
  · rw [slice_from_eq h0 q rfl]
    rw [mks_len] at q ⊢
    unfold mks
    congr 2
    refine List.take_of_length_le ?_
    simp; omega
  · rw [slice_from_beyond (by omega)]
    rw [mks_len] at q
    rw [List.drop_eq_nil_of_le (by omega)]; rfl
theorem t_to0 {j : Int} (h0 : 0 ≤ j) (h1 : j ≤ x.length) : Txt.slice (mks x) none (some j) = mks (x.take j.toNat) := by
  have := slice_closes_toL (x := mks x) (j := j) h0 (by rw [mks_len]; exact h1)
  rw [eq_of_beq this]
  simp [mks]
theorem t_toN {j : Int} (h0 : j < 0) (h1 : -(x.length : Int) ≤ j) : Txt.slice (mks x) none (some j) = mks (x.take (x.length - (-j).toNat)) := by
  rw [slice_to_neg h0, mks_len, t_to0 (by omega) (by omega)]
  congr 2; omega
theorem t_all : Txt.slice (mks x) none none = mks x := by
  have e : Txt.slice (mks x) none none = Txt.slice (mks x) (some 0) none := by
    show StrLaws.sliceText (mks x) none none = StrLaws.sliceText (mks x) (some 0) none
    unfold StrLaws.sliceText
    rw [StrLaws.sliceIdx_none_lo]
  rw [e, t_from (by decide)]; simp
theorem s_from {i : Int} {u : Tok} (ok : C.Ok) (H : In C X base h n) (y : At C h b (PSlice (.int i u) .none .none)) (h0 : 0 ≤ i) (hz : x.length ≤ sizeLine) (k : ∀ t tk', Q (.str (mks (x.drop i.toNat)) t) (S c h tk'))
    (hs : subscripted slice false (.str (mks x) t) (.ref b) = operate [.ref b, .str (mks x) t] (getItem (.str (mks x) t) (.ref b)) ∨ subscripted slice false (.str (mks x) t) (.ref b) = operate [.str (mks x) t, .ref b] (getItem (.str (mks x) t) (.ref b))) :
    wpAny C.M A (subscriptTail value slice (.str (mks x) t) (.ref b)) Q E (S c h tk) :=
  s_slice (lo := some (i, u)) (hi := none) ok H y hz (fun t tk' => by have := k t tk'; rwa [← t_from h0] at this) hs
theorem s_to {j : Int} {u : Tok} (ok : C.Ok) (H : In C X base h n) (y : At C h b (PSlice .none (.int j u) .none)) (h0 : j < 0) (h1 : -(x.length : Int) ≤ j) (hz : x.length ≤ sizeLine) (k : ∀ t tk', Q (.str (mks (x.take (x.length - (-j).toNat))) t) (S c h tk'))
    (hs : subscripted slice false (.str (mks x) t) (.ref b) = operate [.ref b, .str (mks x) t] (getItem (.str (mks x) t) (.ref b)) ∨ subscripted slice false (.str (mks x) t) (.ref b) = operate [.str (mks x) t, .ref b] (getItem (.str (mks x) t) (.ref b))) :
    wpAny C.M A (subscriptTail value slice (.str (mks x) t) (.ref b)) Q E (S c h tk) :=
  s_slice (lo := none) (hi := some (j, u)) ok H y hz (fun t tk' => by have := k t tk'; rwa [← t_toN h0 h1] at this) hs
theorem s_all (ok : C.Ok) (H : In C X base h n) (y : At C h b (PSlice .none .none .none)) (hz : x.length ≤ sizeLine) (k : ∀ t tk', Q (.str (mks x) t) (S c h tk'))
    (hs : subscripted slice false (.str (mks x) t) (.ref b) = operate [.ref b, .str (mks x) t] (getItem (.str (mks x) t) (.ref b)) ∨ subscripted slice false (.str (mks x) t) (.ref b) = operate [.str (mks x) t, .ref b] (getItem (.str (mks x) t) (.ref b))) :
    wpAny C.M A (subscriptTail value slice (.str (mks x) t) (.ref b)) Q E (S c h tk) :=
  s_slice (lo := none) (hi := none) ok H y hz (fun t tk' => by have := k t tk'; rwa [← t_all (x := x)] at this) hs

def lowEq (i j : Nat) : Bool := Txt.lower (mks [i]) == Txt.lower (mks [j])
theorem meth_lower {pl : Sem Bool} {Q : Value × List Value → Shared → Prop} {z : Str} (k : Q (.builtin "str.lower", [.str z t]) (S c h tk)) : wpAny C.M A (getMethod (.str z t) "lower" pl) Q E (S c h tk) := PySem.GM.lower k
theorem meth_join {pl : Sem Bool} {Q : Value × List Value → Shared → Prop} {z : Str} (k : Q (.builtin "str.join", [.str z t]) (S c h tk)) : wpAny C.M A (getMethod (.str z t) "join" pl) Q E (S c h tk) :=
  PySem.GM.of (.str z t) (typeIs_str _ _ _) F.slot_str_join F.type_str_join PySem.GM.noRef k
theorem r_lower {z : Str} (hf : Builtin.Str.tooLong (Txt.lower z).length = false) (k : ∀ t tk', Q (.str (Txt.lower z) t) (S c h tk')) : wpAny C.M A (call (.builtin "str.lower") [.str z t]) Q E (S c h tk) := KXw.lower rfl hf fun t k' => k t k'
theorem r_eqS {z w : Str} (k : Q (.bool (z == w)) (S c h tk)) : wpAny C.M A (compareOp .Eq (.str z t) (.str w u)) Q E (S c h tk) := PyProof.Rows.eq_str k
theorem glue_signs (zs : List Nat) : Txt.join (Str.ofString "") (zs.map fun z => mks [z]) = mks zs := by
  have e0 : (Str.ofString "").cps = #[] := rfl
  have go : ∀ (r : List Nat) (acc : Array Nat), (r.map fun z => mks [z]).foldl (fun (acc : Array Nat) (p : Str) => acc ++ (Str.ofString "").cps ++ p.cps) acc = (acc.toList ++ r).toArray := by
    intro r
    induction r with
    | nil => intro acc; simp
    | cons z r ih =>
      intro acc
      rw [List.map_cons, List.foldl_cons, ih, e0]
      simp [mks]
  show Builtin.Str.glued _ _ = _
  unfold Builtin.Str.glued
  cases zs with
  | nil => rfl
  | cons z r =>
    simp only [List.map_cons, List.drop_succ_cons, List.drop_zero, List.headD_cons]
    rw [go]
    simp [mks]
theorem sum_signs (zs : List Nat) : ((zs.map fun z => mks [z]).map (·.length)).sum = zs.length := by
  induction zs with
  | nil => rfl
  | cons z r ih => simp only [List.map_cons, List.sum_cons, List.length_cons]; rw [ih, mks_len]; simp; omega
theorem ss_join {ys : List Value} {zs : List Nat} (hi : StrsAre ys (zs.map fun z => mks [z])) (hz : zs.length ≤ 100000) (hl : h.IsList l ys.toArray) (k : ∀ t tk', Q (.str (mks zs) t) (S c h tk')) : wpAny C.M A (call (.builtin "str.join") [.str (Str.ofString "") t, .ref l]) Q E (S c h tk) := by
  refine join_listC hl hi (by decide) ?_ fun t' k' => ?_
  · rw [sum_signs, List.length_map]; omega
  · rw [glue_signs]; exact k _ _
theorem i_and {x : Expr} {rest : List Expr} {pos : Pos} {whole : Sem Value} {Q : Bool → Shared → Prop} {s : Shared} (k : wpAny C.M A (isTrue x env (eval x env)) (fun t s' => Br t (wpAny C.M A (isTrue (.BoolOp .And rest pos) env whole) Q E s') (Q false s')) E s) : wpAny C.M A (isTrue (.BoolOp .And (x :: rest) pos) env whole) Q E s := isTrue_and k
theorem i_and0 {pos : Pos} {whole : Sem Value} {Q : Bool → Shared → Prop} {s : Shared} (k : Q true s) : wpAny C.M A (isTrue (.BoolOp .And [] pos) env whole) Q E s := isTrue_and_nil k
theorem i_or {x : Expr} {rest : List Expr} {pos : Pos} {whole : Sem Value} {Q : Bool → Shared → Prop} {s : Shared} (k : wpAny C.M A (isTrue x env (eval x env)) (fun t s' => Br t (Q true s') (wpAny C.M A (isTrue (.BoolOp .Or rest pos) env whole) Q E s')) E s) : wpAny C.M A (isTrue (.BoolOp .Or (x :: rest) pos) env whole) Q E s := isTrue_or k
theorem i_or0 {pos : Pos} {whole : Sem Value} {Q : Bool → Shared → Prop} {s : Shared} (k : Q false s) : wpAny C.M A (isTrue (.BoolOp .Or [] pos) env whole) Q E s := isTrue_or_nil k
theorem e_or {e1 e2 : Expr} {rest : List Expr} {pos : Pos} {s : Shared} (k : wpAny C.M A (eval e1 env) (fun v s₁ => wpAny C.M A (truthy v) (fun t s₂ => Br t (Q v s₂) (wpAny C.M A (eval (.BoolOp .Or (e2 :: rest) pos) env) Q E s₂)) E s₁) E s) : wpAny C.M A (eval (.BoolOp .Or (e1 :: e2 :: rest) pos) env) Q E s := BoolOp_or k
theorem e_bo1 {op : BoolOp} {e : Expr} {pos : Pos} {s : Shared} (k : wpAny C.M A (eval e env) Q E s) : wpAny C.M A (eval (.BoolOp op [e] pos) env) Q E s := BoolOp_one k

def Ex {σ : Type} (C : Cn) (c : Shared) (X : List Addr) (base : Heap) (N : σ → Led) (J : σ → Prop) : Shared → Prop := fun s => ∃ st h tk, s = S c h tk ∧ In C X base h (N st) ∧ J st
theorem ex_done {σ : Type} {N : σ → Led} {J : σ → Prop} (st : σ) (H : In C X base h (N st)) (j : J st) : Ex C c X base N J (S c h tk) := ⟨st, h, tk, rfl, H, j⟩
theorem x_while2 {σ : Type} {test : Expr} {body : List Stmt} {pos : Pos} {Q : Flow → Shared → Prop} (N : σ → Led) (I J : σ → Prop) (μ : σ → Nat) (st₀ : σ) (H : In C X base h (N st₀)) (h0 : I st₀)
    (turn : ∀ st h tk, In C X base h (N st) → I st → wpAny C.M A (isTrue test env (eval test env)) (fun b s₂ => Br b (wpAny C.M A (execs body env) (LpW C c X base N I μ (μ st) Q) (fun _ _ => False) s₂) (Ex C c X base N J s₂)) (fun _ _ => False) (S c h tk))
    (done : ∀ st h tk, In C X base h (N st) → J st → Q .next (S c h tk)) :
    wpAny C.M A (exec (.While test body [] pos) env) Q E (S c h tk) := by
  refine x_while N I μ st₀ H h0 fun st h tk H hi => wpAny_mono (turn st h tk H hi) (fun b s₂ q => ?_) fun _ _ q => q
  cases b with
  | true => exact q
  | false =>
    obtain ⟨st', h', tk', rfl, H', j⟩ := (show Ex C c X base N J s₂ from q)
    exact done st' h' tk' H' j
end
end Mine

namespace Mine
section
variable {C : Cn} {A : Around} {E : Value → Shared → Prop} {c : Shared} {h h' h₁ : Heap} {tk : Nat} {env : Env} {L l a b : Addr} {ks : List Str} {vs : List (Option Value)} {cs : List (Str × Addr)} {gs : List (Str × Value)} {X : List Addr} {base : Heap} {n n' : Led} {P P' : OP}

theorem swapped_two (V : EnvF C env L ks cs gs) {x y u v : Str} {p1 p2 q1 q2 tp vp : Pos} {j j2 : Nat} (hx : x ∈ ks) (hy : y ∈ ks) (hl : (p2.line == p1.line) = true) (hxy : x ≠ y) (hu : (u == ("__debug__" : Str)) = false) :
    swappedStores [.Tuple [.Name x p1, .Name y p2] j tp] (.Tuple [.Name u q1, .Name v q2] j2 vp) env = pure (some [x, y]) := by
  have e1 : (env.blockKind != .function) = false := by
    have : env.blockKind = .function := by unfold Env.blockKind; rw [V.kind]; rfl
    rw [this]; rfl
  have k1 : (env.kindOf x == some .local && p1.line == p1.line) = true := by rw [(V.kl x hx).1, beq_self_eq_true, beq_self_eq_true]; rfl
  have k2 : (env.kindOf y == some .local && p2.line == p1.line) = true := by rw [(V.kl y hy).1, hl, beq_self_eq_true]; rfl
  have hd : ([x, y] : List Str).eraseDups = [x, y] := by
    rw [List.eraseDups_cons, List.filter_cons_of_pos (by simpa using fun q => hxy q.symm), List.filter_nil, List.eraseDups_cons]
    simp
  have ep : (Expr.Name x p1).pos = p1 := rfl
  delta swappedStores
  refine (if_neg ?_).trans ((if_neg Bool.false_ne_true).trans ?_)
  · show ¬ ((false || (env.blockKind != .function)) = true)
    rw [e1]; decide
  · simp only [List.head?_cons, Option.map_some, Option.getD_some, ep, List.filterMap_cons, List.filterMap_nil, k1, k2, if_true]
    rw [hd]
    refine (if_neg Bool.false_ne_true).trans ((if_neg Bool.false_ne_true).trans ((if_neg ?_).trans rfl))
    show ¬ (((u == ("__debug__" : Str)) && _) = true)
    rw [hu]; exact Bool.false_ne_true
theorem x_swap {x y u v : Str} {p1 p2 q1 q2 tp vp pos : Pos} {j j2 : Nat} {v1 v2 : Value} {Q : Flow → Shared → Prop} (ok : C.Ok) (hh : A.handled = none) (V : EnvF C env L ks cs gs) (H : In C X base h n) (hx : x ∈ ks) (hy : y ∈ ks) (hl : (p2.line == p1.line) = true) (hxy : x ≠ y) (hu : (u == ("__debug__" : Str)) = false)
    (hs : swapsWithSole [.Tuple [.Name x p1, .Name y p2] j tp] (.Tuple [.Name u q1, .Name v q2] j2 vp) pos.line env = pure false)
    (hm : (L, PLoc ks vs) ∈ n) (l1 : Lk ks vs u v1) (l2 : Lk ks vs v v2)
    (k : ∀ h' tk', In C X base h' n → wpAny C.M A (storeName env y v2) (fun _ s₁ => wpAny C.M A (storeName env x v1) (fun _ => Q .next) E s₁) E (S c h' tk')) :
    wpAny C.M A (exec (.Assign [.Tuple [.Name x p1, .Name y p2] j tp] (.Tuple [.Name u q1, .Name v q2] j2 vp) pos) env) Q E (S c h tk) := by
  refine Assign_Tuple_swapped (names := [x, y]) ?_ hs (swapped_two V hx hy hl hxy hu)
  refine r_tuple (sp_cons (r_local V (H.at hm) l1 (sp_cons (r_local V (H.at hm) l2 (sp_nil ?_)) rfl)) rfl)
  refine t_new ok H (by show 2 ≤ sizeLine; decide) fun t h2 H2 => ?_
  have hT := (H2.at List.mem_cons_self).isTup
  show wpAny _ _ (unpackItems (.ref t) ([v1, v2] : List Value).toArray.size none) _ _ _
  refine unpackItems_tuple hh hT fun h3 he => ?_
  have H3 := H2.all ok (h' := h3) fun b o e => he b o (Nat.ne_of_lt (Heap.lt_size e)) e
  have H4 : In C X base h3 n := H3.drop (List.sublist_cons_self _ _)
  refine aio_cons (wpAny_bindName ?_)
  exact wpAny_mono (k h3 _ H4) (fun _ _ q => aio_cons (wpAny_bindName (wpAny_mono q (fun _ _ q => aio_nil q) fun _ _ q => q))) fun _ _ q => q

theorem x_asg2 {x y : Str} {p1 p2 pos : Pos} {value : Expr} {Q : Flow → Shared → Prop} {s : Shared}
    (k : wpAny C.M A (eval value env) (fun v s₁ => wpAny C.M A (storeName env x v) (fun _ s₂ => wpAny C.M A (storeName env y v) (fun _ => Q .next) E s₂) E s₁) E s)
    (hw : swappedStores [.Name x p1, .Name y p2] value env = pure none) : wpAny C.M A (exec (.Assign [.Name x p1, .Name y p2] value pos) env) Q E s :=
  wpAny_Assign_two (wpAny_mono k (fun _ _ q => as_name (wpAny_mono q (fun _ _ q => as_name q) fun _ _ q => q)) fun _ _ q => q) rfl hw
def PRange3 (i j s : Int) : OP := fun o => ∃ t u v, o = { cls := .type "range", dict := none, data := .fields #[.int i t, .int j u, .int s v], slots := #[] }
theorem rg_new3 {i j s : Int} {t u v : Tok} {Q : Value → Shared → Prop} (ok : C.Ok) (H : In C X base h n) (hs : s ≠ 0) (hp : Builtin.divisionGoesByPylong (j - i) s = false) (k : ∀ r h', In C X base h' ((r, PRange3 i j s) :: n) → Q (.ref r) (S c h' tk)) :
    wpAny C.M A (call (.type "range") [.int i t, .int j u, .int s v]) Q E (S c h tk) := call_range_3 hs (k _ _ (H.new ok rfl ⟨_, _, _, rfl⟩)) (.inl hp)
theorem items_ints {g : Nat → Int} : ∀ {m : Nat} {acc : Array Value}, ItemsOf (fun i v => ∃ t, v = .int (g i) t) acc m → IntsAre acc.toList ((List.range m).map g) := by
  intro m acc hI
  obtain ⟨h1, h2⟩ := hI
  have : ∀ (l : List Value) (k : Nat), (∀ (j : Nat) (v : Value), l[j]? = some v → ∃ t, v = Value.int (g (k + j)) t) → IntsAre l ((List.range' k l.length).map g) := by
    intro l
    induction l with
    | nil => intro k _; exact .nil
    | cons v l ih =>
      intro k hv
      obtain ⟨t, e⟩ := hv 0 v rfl
      rw [e, List.length_cons, List.range'_succ, List.map_cons, Nat.add_zero]
      refine .cons _ _ (ih (k + 1) fun j v hj => ?_)
      have := hv (j + 1) v (by simpa using hj)
      rwa [show k + (j + 1) = k + 1 + j by omega] at this
  have h3 := this acc.toList 0 fun j v hj => by
    rw [Nat.zero_add]; exact h2 j v (by simpa using hj)
  rw [← List.range_eq_range', show acc.toList.length = m by simpa using h1] at h3
  exact h3
theorem lr_new {i j s : Int} {m : Nat} {r : Addr} {Q : Value → Shared → Prop} (ok : C.Ok) (hh : A.handled = none) (H : In C X base h n) (x : At C h r (PRange3 i j s)) (hsm : Builtin.Range.small i j s = true) (hn : Builtin.Range.rangeSize i j s = m) (hm : m ≤ 2 ^ 24)
    (k : ∀ d h' tk', In C X base h' ((d, PInts ((List.range m).map fun (q : Nat) => i + q * s)) :: n) → Q (.ref d) (S c h' tk')) : wpAny C.M A (call (.type "list") [.ref r]) Q E (S c h tk) := by
  obtain ⟨_, o, e, t, u, v, rfl⟩ := x
  refine call_list_range hh (show IsRange h r i j s t u v from e) hsm hn hm fun h' tk' acc c' hk hg hI => ?_
  exact k _ _ _ (H.gain (H.all ok hk) (get?_none_of_size (Nat.le_refl _)) ⟨(H.hp.fresh ok (Nat.le_refl _)).1, _, hg, acc.toList, items_ints (g := fun (q : Nat) => i + q * s) hI, c', by simp⟩)
end
end Mine

namespace Mine
section
variable {C : Cn} {A : Around} {E : Value → Shared → Prop} {c : Shared} {h h' h₁ : Heap} {tk : Nat} {env : Env} {L l a b : Addr} {ks : List Str} {vs : List (Option Value)} {cs : List (Str × Addr)} {gs : List (Str × Value)} {X : List Addr} {base : Heap} {n n' : Led} {P P' P1 P1' P2 P2' : OP}

theorem In.two (ok : C.Ok) (H : In C X base h ((a, P1) :: (b, P2) :: n)) (m1 : ∀ o, P1 o → Mut o) (m2 : ∀ o, P2 o → Mut o) (hs : ∀ d o, d ≠ a → d ≠ b → h.get? d = some o → h'.get? d = some o)
    (x1 : ∃ o, h'.get? a = some o ∧ P1' o) (x2 : ∃ o, h'.get? b = some o ∧ P2' o) : In C X base h' ((a, P1') :: (b, P2') :: n) := by
  have oa := H.own (l := a) (P := P1) List.mem_cons_self m1
  have ob := H.own (l := b) (P := P2) (List.mem_cons_of_mem _ List.mem_cons_self) m2
  obtain ⟨⟨o1, e1, p1⟩, z1, B1, b1⟩ := oa
  obtain ⟨⟨o2, e2, p2⟩, z2, B2, b2⟩ := ob
  have nn := H.nodup
  simp only [List.map_cons, List.nodup_cons, List.mem_cons, not_or] at nn
  have ne : ∀ d o, h.get? d = some o → (∀ vs y t, o.data = .fields vs → vs[1]? ≠ some (.str y t)) ∨ (d ≠ a ∧ d ≠ b) := fun d o e => by
    by_cases q : d = a
    · subst q; rw [e1] at e; cases e; exact .inl fun vs y t => m1 _ p1 vs y t
    · by_cases q2 : d = b
      · subst q2; rw [e2] at e; cases e; exact .inl fun vs y t => m2 _ p2 vs y t
      · exact .inr ⟨q, q2⟩
  refine ⟨fun d o z x e => ?_, ⟨fun d o e => ?_, ?_⟩, fun p hp => ?_, ?_⟩
  · refine hs d o (fun q => ?_) (fun q => ?_) (H.keep d o z x e)
    · subst q
      rcases b1 with q | q
      · rw [q] at e; cases e
      · exact x q
    · subst q
      rcases b2 with q | q
      · rw [q] at e; cases e
      · exact x q
  · refine hs d o (fun q => ?_) (fun q => ?_) (H.hp.1 d o e)
    · rw [q, B1] at e; cases e
    · rw [q, B2] at e; cases e
  · refine ok.tiKeep h h' (fun d o vs y t z e ed ev => ?_) (fun z hz => ?_) H.hp.2
    · rcases ne d o e with q | ⟨q1, q2⟩
      · exact absurd ev (q vs y t ed)
      · exact hs d o q1 q2 e
    · obtain ⟨oz, e⟩ := ok.tiZ h H.hp.2 z hz
      rw [e]
      exact hs z oz (fun q => z1 (q ▸ hz)) (fun q => z2 (q ▸ hz)) e
  · rcases List.mem_cons.mp hp with rfl | hp
    · obtain ⟨o, e, q⟩ := x1
      exact ⟨⟨o, e, q, .inl ⟨B1, b1⟩⟩, z1⟩
    · rcases List.mem_cons.mp hp with rfl | hp
      · obtain ⟨o, e, q⟩ := x2
        exact ⟨⟨o, e, q, .inl ⟨B2, b2⟩⟩, z2⟩
      · obtain ⟨⟨o, e, q, w⟩, z⟩ := H.ent p (List.mem_cons_of_mem _ (List.mem_cons_of_mem _ hp))
        refine ⟨⟨o, hs _ _ (fun q => ?_) (fun q => ?_) e, q, w⟩, z⟩
        · exact nn.1.2 (q ▸ List.mem_map.mpr ⟨p, hp, rfl⟩)
        · exact nn.2.1 (q ▸ List.mem_map.mpr ⟨p, hp, rfl⟩)
  · exact H.nodup

def PEnum (it : Addr) (i : Int) : OP := fun o => ∃ old, o = { cls := .type "enumerate", dict := none, data := .fields #[.none, .bool false, .ref it, rawInt i, .none, old], slots := #[] }
theorem PEnum.mut {it : Addr} {i : Int} : ∀ o, PEnum it i o → Mut o := by
  rintro o ⟨old, rfl⟩ vs x t e h1
  cases e
  simp at h1
theorem en_new {l : Addr} {us : List Value} {Q : Value → Shared → Prop} (ok : C.Ok) (H : In C X base h n) (hl : h.IsList l us.toArray) (k : ∀ e it h', In C X base h' ((e, PEnum it 0) :: (it, PIter l 0) :: n) → Q (.ref e) (S c h' tk)) :
    wpAny C.M A (call (.type "enumerate") [.ref l]) Q E (S c h tk) := by
  refine call_enumerate_list hl fun h' he hit hz hk => k (h.objs.size + 1) h.objs.size h' ?_
  have H1 := H.all ok hk
  have f1 := H.hp.fresh ok (a := h.objs.size) (Nat.le_refl _)
  have f2 := H.hp.fresh ok (a := h.objs.size + 1) (Nat.le_succ _)
  have H2 := H.gain H1 (l := h.objs.size) (P := PIter l 0) (get?_none_of_size (Nat.le_refl _)) ⟨f1.1, hit⟩
  refine ⟨H2.keep, H2.hp, fun p hp => ?_, List.nodup_cons.mpr ⟨fun hm => ?_, H2.nodup⟩⟩
  · rcases List.mem_cons.mp hp with rfl | hp
    · have := (H.gain H1 (l := h.objs.size + 1) (P := PEnum h.objs.size 0) (get?_none_of_size (Nat.le_succ _)) ⟨f2.1, _, he, _, rfl⟩).ent _ List.mem_cons_self
      exact this
    · exact H2.ent p hp
  · rcases List.mem_cons.mp hm with q | q
    · exact absurd (show h.objs.size + 1 = h.objs.size from q) (Nat.succ_ne_self _)
    · obtain ⟨p, hp, e⟩ := List.mem_map.mp q
      obtain ⟨⟨o, ho, _⟩, _⟩ := H.ent p hp
      have := Heap.lt_size ho
      have e' : p.1 = h.objs.size + 1 := e
      exact absurd this (by rw [e']; exact Nat.not_lt.mpr (Nat.le_succ _))

structure Src2 (C : Cn) (A : Around) (c : Shared) (X : List Addr) (base : Heap) (n₀ : Led) (target : Expr) (it : Addr) (P : Nat → Led) (len : Nat) (V : Nat → Heap → Value → Prop) : Prop where
  next : ∀ i n h tk (K : Value → Shared → Prop) (Z : Shared → Prop) (E : Value → Shared → Prop), i < len → In C X base h (P i ++ n) → (∀ p ∈ n₀, p ∈ n) →
    (∀ v h' tk', V i h' v → In C X base h' (P (i + 1) ++ n) → K v (S c h' tk')) → wpAny C.M A (pyNext (.ref it)) (fun r s₁ => match r with | none => Z s₁ | some v => wpAny C.M A (letOwnedTupleGo target (.ref it) v) (fun _ s₀ => K v s₀) E s₁) E (S c h tk)
  fin : ∀ n h tk (Q : Option Value → Shared → Prop) (E : Value → Shared → Prop), In C X base h (P len ++ n) → (∀ p ∈ n₀, p ∈ n) → (∀ h' tk', In C X base h' n → Q none (S c h' tk')) → wpAny C.M A (pyNext (.ref it)) Q E (S c h tk)
  self : ∀ n h tk (Q : Value → Shared → Prop) (E : Value → Shared → Prop), In C X base h (P 0 ++ n) → Q (.ref it) (S c h tk) → wpAny C.M A (pyIter (.ref it)) Q E (S c h tk)

def CpE2 {σ : Type} (C : Cn) (c : Shared) (X : List Addr) (base : Heap) (N : σ → Led) (J : Nat → List Value → Prop) (i : Nat) (ys : List Value) (it : Led) (D : Addr) : Value → Shared → Prop :=
  fun y s => ∃ st h tk, s = S c h tk ∧ In C X base h (it ++ (D, PList ys) :: N st) ∧ J i (ys ++ [y])
theorem cp_elt2 {σ : Type} {N : σ → Led} {J : Nat → List Value → Prop} {i : Nat} {ys : List Value} {it : Led} {D : Addr} {y : Value} (st : σ) (H : In C X base h (it ++ (D, PList ys) :: N st)) (hj : J i (ys ++ [y])) : CpE2 C c X base N J i ys it D y (S c h tk) := ⟨st, h, tk, rfl, H, hj⟩

theorem Ch.app {d : Addr} : ∀ (m : Led), Ch n d P P' n' → Ch (m ++ n) d P P' (m ++ n')
  | [], k => k
  | _ :: m, k => .skip (Ch.app m k)
theorem comp_loop2 {σ : Type} {elt target iter : Expr} {scope : Scope} {pos : Pos} {R : Result → Shared → Prop} (N : σ → Led) (J : Nat → List Value → Prop) {n₀ : Led} {it D : Addr} {P : Nat → Led} {len : Nat} {V : Nat → Heap → Value → Prop} (st₀ : σ)
    (ok : C.Ok) (Sr : Src2 C A c X base n₀ target it P len V) (hN : ∀ st, ∀ p ∈ n₀, p ∈ N st) (hz : len ≤ sizeLine)
    (H : In C X base h (P 0 ++ (D, PList []) :: N st₀)) (h0 : J 0 [])
    (turn : ∀ i v st ys h tk, i < len → V i h v → J i ys → In C X base h (P (i + 1) ++ (D, PList ys) :: N st) →
      wpAny C.M A (assign target env v) (fun _ s₂ => wpAny C.M A (eval elt env) (CpE2 C c X base N J (i + 1) ys (P (i + 1)) D) (fun _ _ => False) s₂) (fun _ _ => False) (S c h tk))
    (done : ∀ st ys h tk, J len ys → ys.length ≤ len → In C X base h ((D, PList ys) :: N st) → R (.ok .next) (S c h tk)) :
    codeAny C.M A (.compStart (.ListComp elt [⟨target, iter, [], 0⟩] scope pos) 0 (.ref it) (.ref D) env) R (S c h tk) := by
  have loop : codeAny C.M A (.compLoop (.ListComp elt [⟨target, iter, [], 0⟩] scope pos) 0 (.ref it) (.ref D) env) R (S c h tk) := by
    refine kcp_loop (fun k s => ∃ i st ys h' tk', s = S c h' tk' ∧ In C X base h' (P i ++ (D, PList ys) :: N st) ∧ J i ys ∧ ys.length ≤ i ∧ i ≤ len ∧ k = len - i) ?_ len ⟨0, st₀, [], h, tk, rfl, H, h0, Nat.le_refl _, Nat.zero_le _, rfl⟩
    rintro k s ⟨i, st, ys, h', tk', rfl, H', hj, hy, hle, rfl⟩
    have hN' : ∀ p ∈ n₀, p ∈ (D, PList ys) :: N st := fun p q => List.mem_cons_of_mem _ (hN st p q)
    by_cases hlt : i < len
    · refine Sr.next i _ h' tk' _ (fun s₁ => R (.ok .next) s₁) _ hlt H' hN' fun v h2 tk2 hv H2 => ?_
      refine wpAny_mono (turn i v st ys h2 tk2 hlt hv hj H2) (fun _ s₂ q => ?_) fun _ _ q => q.elim
      refine wpAny_mono q (fun y s₄ q4 => ?_) fun _ _ q => q.elim
      obtain ⟨st', h4, tk4, rfl, H4, j4⟩ := q4
      refine wpAny_list_append_plain (H4.at (List.mem_append_right _ List.mem_cons_self)).plain (fun h5 hp hs => ?_) (by rw [List.size_toArray]; omega)
      have H5 := H4.upd' ok (P' := PList (ys ++ [y])) (Ch.app _ .hit) PList.mut hs (by obtain ⟨m, e⟩ := hp; exact ⟨_, e, m, by rw [List.push_toArray]⟩)
      refine ⟨len - (i + 1), by omega, i + 1, st', ys ++ [y], h5, tk4, rfl, H5, j4, ?_, hlt, rfl⟩
      rw [List.length_append, List.length_singleton]; omega
    · have e : i = len := by omega
      subst e
      refine Sr.fin _ h' tk' _ _ H' hN' fun h2 tk2 H2 => ?_
      exact done st ys h2 tk2 hj hy H2
  exact codeAny_compStart_list loop (Sr.self _ h tk _ _ H loop)

theorem ck_2 {E : Value → Shared → Prop} {elt target iter : Expr} {scope : Scope} {cl : List (Str × Addr)} {pos : Pos} {use : Option (Value → Sem Unit)} {Q : Value → Shared → Prop} {ks' fs gn : List Str} {cs' : List (Str × Addr)} {gs' : List (Str × Value)}
    {n₀ : Led} {it : Addr} {P : Nat → Led} {len : Nat} {W : Nat → Heap → Value → Prop} (J : Nat → List Value → Prop)
    (ok : C.Ok) (V : EnvF C env L ks cs gs) (D : Cs scope ks' fs [] gn) (hcell : ∀ p ∈ scope.names, p.2 ≠ .cell) (hcs : ∀ p ∈ cs', p.1 ∈ fs ∧ p ∈ cs) (hgs : ∀ p ∈ gs', p.1 ∈ gn ∧ GVal C p.1 p.2) (hcl : ∀ x ∈ fs, ∀ a, (x, a) ∈ cs → cl.lookup x = some a)
    (Sr : Src2 C A c X base n₀ target it P len W) (hN : ∀ p ∈ n₀, p ∈ n) (hz : len ≤ sizeLine)
    (H : In C X base h (P 0 ++ n)) (h0 : J 0 [])
    (turn : ∀ C' env' D i v vs ys h tk, EnvF C env' C' ks' cs' gs' → i < len → W i h v → J i ys → In C X base h (P (i + 1) ++ (D, PList ys) :: (C', PLoc ks' vs) :: n) → vs.length = ks'.length →
      wpAny C.M A (assign target env' v) (fun _ s₂ => wpAny C.M A (eval elt env') (CpE2 C c X base (fun vs : { vs : List (Option Value) // vs.length = ks'.length } => (C', PLoc ks' vs.1) :: n) J (i + 1) ys (P (i + 1)) D) (fun _ _ => False) s₂) (fun _ _ => False) (S c h tk))
    (done : ∀ C' D vs ys h tk, J len ys → ys.length ≤ len → In C X base h ((C', PLoc ks' vs) :: (D, PList ys) :: n) → compPost C.M A E use Q (.ref D) C' (.ok .next) (S c h tk)) :
    CompK C A E scope cl env (.ListComp elt [⟨target, iter, [], 0⟩] scope pos) use Q (.ref it) (S c h tk) := by
  refine l_new ok H (by simp) fun Dl h1 H1 => ?_
  refine ne_plain ok H1 D.nd hcell D.kind fun C' h2 tk2 H2 => ?_
  have V' : EnvF C (cEnv scope cl C' env) C' ks' cs' gs' := envF_comp V D C' (fun p hp => ⟨.inl (hcs p hp).1, hcl _ (hcs p hp).1 _ (hcs p hp).2⟩) hgs
  have e : ({ newEnv scope C' env.globals cl env.qual none .none (some env) builtinsNs with scope := relabel scope env } : Env) = cEnv scope cl C' env := rfl
  rw [e]
  refine comp_loop2 (fun vs : { vs : List (Option Value) // vs.length = ks'.length } => (C', PLoc ks' vs.1) :: n) J ⟨ks'.map fun _ => none, by rw [List.length_map]⟩ ok Sr (fun st p hp => List.mem_cons_of_mem _ (hN p hp)) hz ?_ h0
    (fun i v st ys h tk hi hv hj H => turn C' _ Dl i v st.1 ys h tk V' hi hv hj H st.2) fun st ys h tk hj hy H3 => done C' Dl st.1 ys h tk hj hy (H3.perm (List.Perm.swap ..))
  refine H2.perm ?_
  exact (List.Perm.swap _ _ _).trans ((List.perm_append_comm (l₁ := [(Dl, PList []), (C', _)]) (l₂ := P 0)).append_right n |>.trans (by rw [List.append_assoc]; exact .refl _))

def LpF2 {σ : Type} (C : Cn) (c : Shared) (X : List Addr) (base : Heap) (N : σ → Led) (I : Nat → σ → Prop) (i : Nat) (p : Led) (Q : Flow → Shared → Prop) : Flow → Shared → Prop := fun f s => match f with
  | .next | .cont => ∃ st h' tk', s = S c h' tk' ∧ In C X base h' (p ++ N st) ∧ I i st
  | .brk => Q .next s
  | .ret v => Q (.ret v) s
theorem lf2_next {σ : Type} {N : σ → Led} {I : Nat → σ → Prop} {i : Nat} {p : Led} {Q : Flow → Shared → Prop} (st : σ) (H : In C X base h (p ++ N st)) (hi : I i st) : LpF2 C c X base N I i p Q .next (S c h tk) := ⟨st, h, tk, rfl, H, hi⟩
theorem for_core2 {σ : Type} {E : Value → Shared → Prop} {target : Expr} {body : List Stmt} {Q : Flow → Shared → Prop} (N : σ → Led) (I : Nat → σ → Prop) {n₀ : Led} {it : Addr} {P : Nat → Led} {len : Nat} {V : Nat → Heap → Value → Prop} (st₀ : σ)
    (Sr : Src2 C A c X base n₀ target it P len V) (hN : ∀ st, ∀ p ∈ n₀, p ∈ N st)
    (H : In C X base h (P 0 ++ N st₀)) (h0 : I 0 st₀)
    (turn : ∀ i v st h tk, i < len → V i h v → I i st → In C X base h (P (i + 1) ++ N st) →
      wpAny C.M A (assign target env v) (fun _ s₁ => wpAny C.M A (execs body env) (LpF2 C c X base N I (i + 1) (P (i + 1)) Q) (fun _ _ => False) s₁) (fun _ _ => False) (S c h tk))
    (done : ∀ st h tk, I len st → In C X base h (N st) → Q .next (S c h tk)) :
    ForQ C A env target body Q E (.ref it) (S c h tk) := by
  show codeAny _ _ _ _ _
  refine codeAny_forLoop_any (fun k s => ∃ i st h' tk', s = S c h' tk' ∧ In C X base h' (P i ++ N st) ∧ I i st ∧ i ≤ len ∧ k = len - i) ?_ len ⟨0, st₀, h, tk, rfl, H, h0, Nat.zero_le _, rfl⟩
  rintro k s ⟨i, st, h', tk', rfl, H', hi, hle, rfl⟩
  by_cases hlt : i < len
  · refine Sr.next i _ h' tk' _ _ _ hlt H' (hN st) fun v h2 tk2 hv H2 => ?_
    refine wpAny_mono (turn i v st h2 tk2 hlt hv hi H2) (fun _ s₁ q => ?_) fun _ _ q => q.elim
    refine wpAny_mono q (fun f s₃ q3 => ?_) fun _ _ q => q.elim
    cases f with
    | next => obtain ⟨st', h3, tk3, rfl, H3, i3⟩ := q3; exact ⟨len - (i + 1), by omega, i + 1, st', h3, tk3, rfl, H3, i3, hlt, rfl⟩
    | cont => obtain ⟨st', h3, tk3, rfl, H3, i3⟩ := q3; exact ⟨len - (i + 1), by omega, i + 1, st', h3, tk3, rfl, H3, i3, hlt, rfl⟩
    | brk => exact q3
    | ret v => exact q3
  · have e : i = len := by omega
    subst e
    exact Sr.fin _ h' tk' _ _ H' (hN st) fun h2 tk2 H2 => wpAny_pure (a := Flow.next) (done st h2 tk2 hi H2)
end
end Mine

namespace Mine
section
variable {C : Cn} {A : Around} {E : Value → Shared → Prop} {c : Shared} {h h' h₁ : Heap} {tk : Nat} {env : Env} {L l a b : Addr} {ks : List Str} {vs : List (Option Value)} {cs : List (Str × Addr)} {gs : List (Str × Value)} {X : List Addr} {base : Heap} {n n' : Led}
theorem x_asgC {elt : Expr} {gens : List Comprehension} {scope : Scope} {x : Str} {px pos spos : Pos} {Q : Flow → Shared → Prop} {s : Shared} (hc : env.kindOf x = some .cell)
    (k : wpAny C.M A (eval (.ListComp elt gens scope pos) env) (fun v s₁ => wpAny C.M A (storeName env x v) (fun _ => Q .next) E s₁) E s) : wpAny C.M A (exec (.Assign [.Name x px] (.ListComp elt gens scope pos) spos) env) Q E s := by
  refine x_asg k ?_
  show (pure (env.blockKind == .function && env.kindOf x == some .local && px.line == pos.line && !(scope.names.any fun (n, k) => n == x && (k == .local || k == .cell))) : Sem Bool) = pure false
  rw [hc, show (some NameKind.cell == some NameKind.local) = false from rfl, Bool.and_false, Bool.false_and, Bool.false_and]

theorem en_newI {ns : List Int} {Q : Value → Shared → Prop} (ok : C.Ok) (H : In C X base h n) (hl : IL h l ns) (k : ∀ e it h', In C X base h' ((e, PEnum it 0) :: (it, PIter l 0) :: n) → Q (.ref e) (S c h' tk)) :
    wpAny C.M A (call (.type "enumerate") [.ref l]) Q E (S c h tk) := by
  obtain ⟨us, _, hL⟩ := hl
  exact en_new ok H hL k
theorem src_enumI {e it l : Addr} {ns : List Int} {n₀ : Led} {elts : List Expr} {j : Nat} {tp : Pos} (ok : C.Ok) (hh : A.handled = none) (hl : ∀ h n, In C X base h n → (∀ p ∈ n₀, p ∈ n) → IL h l ns) :
    Src2 C A c X base n₀ (.Tuple elts j tp) e (fun i => [(e, PEnum it i), (it, PIter l i)]) ns.length (fun i h v => ∃ T t d t', ns[i]? = some d ∧ v = .ref T ∧ At C h T (PTup [.int i t, .int d t'])) where
  next := fun i n h tk K Z E hi H hn k => by
    have H' : In C X base h ((e, PEnum it i) :: (it, PIter l i) :: n) := H
    obtain ⟨_, o, ho, old, rfl⟩ := H'.at List.mem_cons_self
    have hit := (H'.at (List.mem_cons_of_mem _ List.mem_cons_self)).isIter
    obtain ⟨us, hI, hL⟩ := hl _ _ H' fun p q => List.mem_cons_of_mem _ (List.mem_cons_of_mem _ (hn p q))
    have nn := H'.nodup
    simp only [List.map_cons, List.nodup_cons, List.mem_cons, not_or] at nn
    obtain ⟨t', et⟩ := hI.get i ns[i] (List.getElem?_eq_getElem hi)
    refine wpAny_pyNext_enum_item ho hit hL (x := .int ns[i] t') (by simpa using et) nn.1.1 fun h2 he2 hit2 ht2 hz2 hk2 => ?_
    refine wpAny_letOwnedTupleGo_enum he2 fun h3 he3 hs3 => ?_
    have hne : ∀ d o, d ≠ e → d ≠ it → h.get? d = some o → h3.get? d = some o := fun d o q1 q2 q => hs3.extBut d o q1 (hk2 d o q1 q2 q)
    have he : e < h.objs.size := Heap.lt_size ho
    have H3 := H'.two (P1' := PEnum it ((i : Int) + 1)) (P2' := PIter l (i + 1)) ok PEnum.mut PIter.mut hne ⟨_, he3, _, rfl⟩ (by
      obtain ⟨o, eo, q⟩ := hit2
      exact ⟨o, hs3.extBut it o (Ne.symm nn.1.1) eo, q⟩)
    refine k (.ref h.objs.size) h3 (tk + 1) ⟨h.objs.size, tk, ns[i], t', List.getElem?_eq_getElem hi, rfl, (H.hp.fresh ok (Nat.le_refl _)).1, _, hs3.extBut _ _ (Nat.ne_of_gt he) ht2, 0, rfl⟩ ?_
    have e1 : ((i + 1 : Nat) : Int) = (i : Int) + 1 := by omega
    show In C X base h3 ((e, PEnum it ((i + 1 : Nat) : Int)) :: (it, PIter l (i + 1)) :: n)
    rw [e1]; exact H3
  fin := fun n h tk Q E H hn k => by
    have H' : In C X base h ((e, PEnum it ns.length) :: (it, PIter l ns.length) :: n) := H
    obtain ⟨_, o, ho, old, rfl⟩ := H'.at List.mem_cons_self
    have hit := (H'.at (List.mem_cons_of_mem _ List.mem_cons_self)).isIter
    obtain ⟨us, hI, hL⟩ := hl _ _ H' fun p q => List.mem_cons_of_mem _ (List.mem_cons_of_mem _ (hn p q))
    refine wpAny_pyNext_enum_end hh ho hit hL (by simp [hI.length]) fun h2 hs => ?_
    have H2 : In C X base h ((it, PIter l ns.length) :: n) := H'.tail
    exact k h2 _ (H2.ext ok PIter.mut hs)
  self := fun n h tk Q E H k => by
    have H' : In C X base h ((e, PEnum it (0 : Nat)) :: (it, PIter l 0) :: n) := H
    obtain ⟨_, o, ho, old, rfl⟩ := H'.at List.mem_cons_self
    exact wpAny_pyIter_enum ho k
theorem pit_enC {e it : Addr} {elt : Expr} {scope : Scope} {cl : List (Str × Addr)} {use : Option (Value → Sem Unit)} {Q : Value → Shared → Prop} (H : In C X base h ((e, PEnum it 0) :: n)) (k : CompK C A E scope cl env elt use Q (.ref e) (S c h tk)) : wpAny C.M A (pyIter (.ref e)) (CompK C A E scope cl env elt use Q) E (S c h tk) := by
  obtain ⟨_, o, ho, old, rfl⟩ := H.at List.mem_cons_self
  exact wpAny_pyIter_enum ho k
end
end Mine

namespace Mine
section
variable {C : Cn} {A : Around} {E : Value → Shared → Prop} {c : Shared} {h : Heap} {tk : Nat} {a b : Addr} {Q : Value → Shared → Prop}
theorem rc_lt {i j : Int} {t u : Tok} {s : Shared} (k : Q (.bool (decide (i < j))) s) : wpAny C.M A (richCompare .Lt (.int i t) (.int j u)) Q E s := (lt_int k : wpAny C.M A (compareOp .Lt (.int i t) (.int j u)) Q E s)
theorem lt_tup2 {i1 i2 j1 j2 : Int} {t1 t2 u1 u2 : Tok} (x : At C h a (PTup [.int i1 t1, .int i2 t2])) (y : At C h b (PTup [.int j1 u1, .int j2 u2])) (hu : A.units < cLine)
    (k : Q (.bool (decide (i1 < j1 ∨ (i1 = j1 ∧ i2 < j2)))) (S c h tk)) : wpAny C.M A (compareOp .Lt (.ref a) (.ref b)) Q E (S c h tk) := by
  obtain ⟨_, o, e, k1, rfl⟩ := x
  obtain ⟨_, o2, e2, k2, rfl⟩ := y
  have T1 : (S c h tk).TypeIs (.ref a) "tuple" := ⟨_, e, rfl⟩
  have T2 : (S c h tk).TypeIs (.ref b) "tuple" := ⟨_, e2, rfl⟩
  refine cmp_ofLt (wpAny_richCompare_same_room T1 T2 F.slot_tuple_lt (wpAny_call_entry F.slot_tuple_lt T1 F.entry_tuple_lt ?_ (F.args_tuple_lt_2 _ _)) hu)
  have hsub : isSubtype (.type "tuple") (.type "tuple") = pure true := by rw [isSubtype_type]; kernel_rfl
  unfold Builtin.«tuple.__lt__»
  by_cases h1 : i1 = j1
  · subst h1
    by_cases h2 : i2 = j2
    · subst h2
      have e1 : (i1 == i1) = true := by simp
      have e2 : (i2 == i2) = true := by simp
      wp_walk using wpAny_eqBool_int, rc_lt
      rw [decide_eq_false (by omega)] at k
      exact ⟨.bool false, rfl, nofun, k⟩
    · have e1 : (i1 == i1) = true := by simp
      have e2 : (i2 == j2) = false := by simpa using h2
      wp_walk using wpAny_eqBool_int, rc_lt
      have e : decide (i1 < i1 ∨ i1 = i1 ∧ i2 < j2) = decide (i2 < j2) := by simp
      rw [e] at k
      exact ⟨_, rfl, nofun, k⟩
  · have e1 : (i1 == j1) = false := by simpa using h1
    wp_walk using wpAny_eqBool_int, rc_lt
    have e : decide (i1 < j1 ∨ i1 = j1 ∧ i2 < j2) = decide (i1 < j1) := by simp [h1]
    rw [e] at k
    exact ⟨_, rfl, nofun, k⟩

theorem ne_tup2 {i1 i2 j1 j2 : Int} (x : At C h a (PT2 i1 i2)) (y : At C h b (PT2 j1 j2)) (hu : A.units < cLine)
    (k : Q (.bool (!decide (i1 = j1 ∧ i2 = j2))) (S c h tk)) : wpAny C.M A (compareOp .NotEq (.ref a) (.ref b)) Q E (S c h tk) := by
  obtain ⟨_, o, e, t1, t2, k1, rfl⟩ := x
  obtain ⟨_, o2, e2, u1, u2, k2, rfl⟩ := y
  have T1 : (S c h tk).TypeIs (.ref a) "tuple" := ⟨_, e, rfl⟩
  have T2 : (S c h tk).TypeIs (.ref b) "tuple" := ⟨_, e2, rfl⟩
  show wpAny C.M A (richCompare .NotEq (.ref a) (.ref b)) Q E (S c h tk)
  refine wpAny_richCompare_same_room T1 T2 F.slot_tuple_ne (wpAny_call_entry F.slot_tuple_ne T1 F.entry_tuple_ne ?_ (F.args_tuple_ne_2 _ _)) hu
  have hsub : isSubtype (.type "tuple") (.type "tuple") = pure true := by rw [isSubtype_type]; kernel_rfl
  unfold Builtin.«tuple.__ne__»
  by_cases h1 : i1 = j1
  · subst h1
    by_cases h2 : i2 = j2
    · subst h2
      have e1 : (i1 == i1) = true := by simp
      have e2 : (i2 == i2) = true := by simp
      wp_walk using wpAny_eqBool_int
      rw [decide_eq_true (by simp)] at k
      exact ⟨.bool false, rfl, nofun, k⟩
    · have e1 : (i1 == i1) = true := by simp
      have e2 : (i2 == j2) = false := by simpa using h2
      wp_walk using wpAny_eqBool_int
      rw [decide_eq_false (by simp [h2])] at k
      exact ⟨_, rfl, nofun, k⟩
  · have e1 : (i1 == j1) = false := by simpa using h1
    wp_walk using wpAny_eqBool_int
    rw [decide_eq_false (by simp [h1])] at k
    exact ⟨_, rfl, nofun, k⟩
end
end Mine

namespace Mine
section
variable {C : Cn} {A : Around} {E : Value → Shared → Prop} {c : Shared} {h h' h₁ : Heap} {tk : Nat} {env : Env} {L l a b : Addr} {ks : List Str} {vs : List (Option Value)} {cs : List (Str × Addr)} {gs : List (Str × Value)} {X : List Addr} {base : Heap} {n n' : Led} {P P' : OP}
variable {value slice : Expr} {Q : Value → Shared → Prop}
theorem Rm.line0 {d u : Nat} (r : Rm A d u) : A.units < cLine := by have := r.hu; omega
theorem pit_rangeC {elt : Expr} {scope : Scope} {cl : List (Str × Addr)} {use : Option (Value → Sem Unit)} {r : Addr} {i j : Int} (ok : C.Ok) (H : In C X base h n) (hr : At C h r (PRange i j)) (m : Nat) (hb : Builtin.Range.rangeSize i j 1 = (m : Int)) (hs : Builtin.Range.small i j 1 = true)
    (k : ∀ it h', In C X base h' ((it, PRIter (i + ((0 : Nat) : Int)) ((m : Int) - ((0 : Nat) : Int))) :: n) → CompK C A E scope cl env elt use Q (.ref it) (S c h' tk)) : wpAny C.M A (pyIter (.ref r)) (CompK C A E scope cl env elt use Q) E (S c h tk) := pit_range ok H hr hb hs k
theorem sub_l {us : List Value} {i : Int} {t : Tok} {v : Value} (x : h.IsList a us.toArray) (h0 : 0 ≤ i) (hf : i < 2 ^ 63) (hv : us[i.toNat]? = some v) (k : Q v (S c h tk))
    (hs : subscripted slice false (.ref a) (.int i t) = operate [.ref a, .int i t] (getItem (.ref a) (.int i t)) ∨ subscripted slice false (.ref a) (.int i t) = operate [.int i t, .ref a] (getItem (.ref a) (.int i t))) : wpAny C.M A (subscriptTail value slice (.ref a) (.int i t)) Q E (S c h tk) := by
  have g := wpAny_getItem_list (prog := C.prog) (w := C.w) (A := A) (E := E) (s := S c h tk) (t := t) x h0 hf (by simpa using hv) k
  rcases hs with hs | hs <;> exact tail_any x.typeIs slot_list_getitem.lookup g hs
theorem append_l {us : List Value} {v : Value} (ok : C.Ok) (H : In C X base h n) (ch : Ch n l (PList us) (PList (us ++ [v])) n') (hz : us.length ≤ sizeLine) (k : ∀ h', In C X base h' n' → Q .none (S c h' tk)) :
    wpAny C.M A (call (.builtin "list.append") [.ref l, v]) Q E (S c h tk) := by
  refine wpAny_list_append_plain (H.at ch.mem).plain (fun h' hp hs => k h' (H.upd' ok ch PList.mut hs ?_)) (by rw [List.size_toArray]; exact hz)
  obtain ⟨m, e⟩ := hp
  exact ⟨_, e, m, by rw [List.push_toArray]⟩
theorem it_new {us : List Value} (ok : C.Ok) (H : In C X base h n) (x : h.IsList l us.toArray) (k : ∀ it h', In C X base h' ((it, PIter l 0) :: n) → Q (.ref it) (S c h' tk)) : wpAny C.M A (call (.builtin "iter") [.ref l]) Q E (S c h tk) := by
  refine call_function_entry (by decide +kernel) (by decide +kernel) kdk_entry_iter (kdk_args_iter _) ?_
  unfold Builtin.«iter»
  refine wpAny_bind (m := someArgs "iter" 1 2 _) (wpAny_of_eq (a := [Value.ref l]) (by first | rfl | kernel_rfl!) ?_)
  show wpAny _ _ (pyIter (.ref l) >>= _) _ _ _
  refine wpAny_bind (wpAny_pyIter_list x ?_)
  exact wpAny_pure ⟨_, rfl, k _ _ (H.new ok rfl ⟨rfl, rfl⟩)⟩
theorem it_il {ns : List Int} (ok : C.Ok) (H : In C X base h n) (x : IL h l ns) (k : ∀ it h', In C X base h' ((it, PIter l 0) :: n) → Q (.ref it) (S c h' tk)) : wpAny C.M A (call (.builtin "iter") [.ref l]) Q E (S c h tk) := by
  obtain ⟨us, _, hl⟩ := x
  exact it_new ok H hl k

theorem src_list2 {it l : Addr} {us : List Value} {n₀ : Led} {elts : List Expr} {j : Nat} {tp : Pos} (ok : C.Ok) (hh : A.handled = none) (hr : ∀ v ∈ us, ∃ T, v = Value.ref T) (hl : ∀ h n, In C X base h n → (∀ p ∈ n₀, p ∈ n) → h.IsList l us.toArray) :
    Src2 C A c X base n₀ (.Tuple elts j tp) it (fun i => [(it, PIter l i)]) us.length (fun i _ v => us[i]? = some v) where
  next := fun i n h tk K Z E hi H hn k => by
    have H' : In C X base h ((it, PIter l i) :: n) := H
    have hx : us.toArray[i]? = some us[i] := by simp [hi]
    refine wpAny_pyNext_list_item (H'.at List.mem_cons_self).isIter (hl _ _ H' fun p q => List.mem_cons_of_mem _ (hn p q)) hx fun h2 hit hs => ?_
    obtain ⟨T, eT⟩ := hr us[i] (List.getElem_mem hi)
    have H2 : In C X base h2 ((it, PIter l (i + 1)) :: n) := H'.upd' ok Ch.hit PIter.mut hs hit
    show wpAny _ _ (letOwnedTupleGo _ _ us[i]) _ _ _
    rw [eT]
    refine wpAny_letOwnedTupleGo_listiter hit ?_
    exact k _ h2 _ (by simp [hi, ← eT]) H2
  fin := fun n h tk Q E H hn k => by
    have H' : In C X base h ((it, PIter l us.length) :: n) := H
    refine wpAny_pyNext_list_end hh (H'.at List.mem_cons_self).isIter (hl _ _ H' fun p q => List.mem_cons_of_mem _ (hn p q)) (by simp) fun h2 hs => ?_
    exact k h2 _ (H'.ext ok PIter.mut hs)
  self := fun n h tk Q E H k => by
    have H' : In C X base h ((it, PIter l 0) :: n) := H
    exact wpAny_pyIter_listiter (H'.at List.mem_cons_self).isIter k
theorem for_list2 {σ : Type} {elts : List Expr} {j : Nat} {tp : Pos} {body : List Stmt} {Q : Flow → Shared → Prop} {us : List Value} (N : σ → Led) (I : Nat → σ → Prop) (n₀ : Led) (st₀ : σ) (ok : C.Ok) (hh : A.handled = none)
    (hr : ∀ v ∈ us, ∃ T, v = Value.ref T) (hl : ∀ h n, In C X base h n → (∀ p ∈ n₀, p ∈ n) → h.IsList l us.toArray) (hN : ∀ st, ∀ p ∈ n₀, p ∈ N st)
    (H : In C X base h (N st₀)) (h0 : I 0 st₀)
    (turn : ∀ i T it st h tk, us[i]? = some (.ref T) → I i st → In C X base h ((it, PIter l (i + 1)) :: N st) →
      wpAny C.M A (assign (.Tuple elts j tp) env (.ref T)) (fun _ s₁ => wpAny C.M A (execs body env) (LpF2 C c X base N I (i + 1) [(it, PIter l (i + 1))] Q) (fun _ _ => False) s₁) (fun _ _ => False) (S c h tk))
    (done : ∀ st h tk, I us.length st → In C X base h (N st) → Q .next (S c h tk)) :
    wpAny C.M A (pyIter (.ref l)) (ForQ C A env (.Tuple elts j tp) body Q E) E (S c h tk) := by
  refine wpAny_pyIter_list (hl h _ H (hN st₀)) ?_
  refine for_core2 N I st₀ (src_list2 ok hh hr hl) hN (H.new ok rfl ⟨rfl, rfl⟩) h0 (fun i v st h tk hi hv hI H' => ?_) done
  obtain ⟨T, eT⟩ := hr v (List.mem_of_getElem? hv)
  subst eT
  exact turn i T _ st h tk hv hI H'
theorem s_ne {x y : List Nat} {t u : Tok} (k : Q (.bool (!decide (x = y))) (S c h tk)) : wpAny C.M A (compareOp .NotEq (.str (mks x) t) (.str (mks y) u)) Q E (S c h tk) := by
  refine PyProof.Rows.ne_str ?_
  have e : (mks x != mks y) = !decide (x = y) := by
    by_cases q : x = y
    · subst q; simp
    · rw [decide_eq_false q]
      exact bne_iff_ne.mpr (fun e => q (mks_inj.mp e))
  rw [e]; exact k
end
end Mine

namespace Mine
theorem lay_parts : ∀ (ns : List Int), (∀ i ∈ ns, i.natAbs < 2 ^ 16) → PyData.canLayAll0 (ns.map .int) = true ∧ PyData.depthAll (ns.map .int) = 0 ∧ PyData.weightAll (ns.map .int) ≤ 17 * ns.length
  | [], _ => by simp [PyData.canLayAll0, PyData.depthAll, PyData.weightAll]
  | i :: r, h => by
    obtain ⟨h1, h2, h3⟩ := lay_parts r fun j hj => h j (List.mem_cons_of_mem _ hj)
    have hi := h i List.mem_cons_self
    have hw : PyData.weight (.int i) ≤ 16 := by
      simp only [PyData.weight]
      split
      · omega
      · rename_i q
        have hne : i.natAbs ≠ 0 := by simpa using q
        have := (Nat.log2_lt hne).mpr hi
        omega
    simp only [List.map_cons, PyData.canLayAll0, PyData.canLay0, h1, Bool.and_self, PyData.depthAll, PyData.depth, h2, PyData.weightAll, List.length_cons]
    refine ⟨trivial, rfl, by omega⟩
theorem lay_ints {ns : List Int} (h : ∀ i ∈ ns, i.natAbs < 2 ^ 16) (hz : ns.length ≤ 1000) : PyData.layable0 (.list (ns.map .int)) = true := by
  obtain ⟨h1, h2, h3⟩ := lay_parts ns h
  unfold PyData.layable0
  have e1 : PyData.canLay0 (.list (ns.map .int)) = true := by simp only [PyData.canLay0]; exact h1
  have e2 : PyData.depth (.list (ns.map .int)) = 1 := by simp only [PyData.depth]; omega
  have e3 : PyData.weight (.list (ns.map .int)) ≤ 2 ^ 20 := by
    have : PyData.weight (.list (ns.map .int)) = PyData.weightAll (ns.map .int) := by simp only [PyData.weight]
    rw [this]
    exact Nat.le_trans h3 (by omega)
  rw [e1, e2, decide_eq_true e3]; rfl
section
variable {C : Cn} {A : Around} {E : Value → Shared → Prop} {c : Shared} {h h' h₁ : Heap} {tk : Nat} {env : Env} {L l a b : Addr} {X : List Addr} {base : Heap} {n n' : Led} {P P' : OP}
def tL (ts : List (Addr × Int × Int)) : Led := ts.map fun p => (p.1, PT2 p.2.1 p.2.2)
theorem tL_snoc (ts : List (Addr × Int × Int)) (T : Addr) (i j : Int) : tL ts ++ [(T, PT2 i j)] = tL (ts ++ [(T, i, j)]) := by simp [tL]
theorem In.last {p : Addr × OP} (H : In C X base h (p :: n)) : In C X base h (n ++ [p]) := H.perm (List.perm_append_singleton ..).symm
theorem ext_mS {e : Expr} {pos : Pos} {Q : Value → Shared → Prop} (ok : C.Ok) (k : wpAny C.M A (eval e env) (ExtK C A c a Q) E (S c h tk))
    (he : starEach [e] env = (false, eval e env) :: starEach [] env) :
    wpAny C.M A (callWith pos (.builtin "list.extend") [.ref a] (backTo pos (starEach [e] env)) []) Q E (S c h tk) := ext_m ok k he
theorem sp_wo {f w : Addr} {d u d' u' : Nat} {args : List Value} {pre : Heap → Prop} {P2 : OP} {Q : Value → Shared → Prop} (sp : Spec C f d u args [w] pre (fun h h' v => ROb C P2 h h' v ∧ At C h' w P')) (r : Rm A d' u') (hd : d ≤ d') (hu : u ≤ u')
    (H : In C X base h n) (ch : Ch n w P P' n') (hM : ∀ o, P o → Mut o) (hp : pre h) (k : ∀ l h' tk', In C X base h' ((l, P2) :: n') → Q (.ref l) (S c h' tk')) : wpAny C.M A (call (.ref f) args) Q E (S c h tk) := by
  refine sp_w sp r hd hu H ch hM hp fun v h' tk' H' hv => ?_
  obtain ⟨l, rfl, hn, a⟩ := hv
  refine k l h' tk' ⟨H'.keep, H'.hp, fun p hp => ?_, List.nodup_cons.mpr ⟨fun hm => ?_, H'.nodup⟩⟩
  · rcases List.mem_cons.mp hp with rfl | hp
    · obtain ⟨xz, o, xe, xp⟩ := a
      refine ⟨⟨o, xe, xp, .inl ⟨In.noB H.hp hn, ?_⟩⟩, xz⟩
      cases e : base.get? l with
      | none => exact .inl rfl
      | some o =>
        by_cases hx : l ∈ X
        · exact .inr hx
        · rw [H.keep l o xz hx e] at hn; cases hn
    · exact H'.ent p hp
  · obtain ⟨i, e, rfl⟩ := ch.get
    rw [map_set_fst e] at hm
    obtain ⟨p, hp, e⟩ := List.mem_map.mp hm
    obtain ⟨⟨o, ho, _⟩, _⟩ := H.ent p hp
    rw [e, hn] at ho; cases ho
theorem In.ne {l₂ : Addr} {P₂ : OP} (H : In C X base h ((l, P) :: n)) (hm : (l₂, P₂) ∈ n) : l₂ ≠ l := fun e => by
  have := H.nodup
  rw [List.map_cons, List.nodup_cons] at this
  exact this.1 (e ▸ List.mem_map.mpr ⟨_, hm, rfl⟩)
theorem PTup.pt2 {i j : Int} {t u : Tok} : ∀ o, PTup [.int i t, .int j u] o → PT2 i j o := fun _ p => ⟨t, u, p⟩
end
end Mine

section
open PyProof.Rows.TI
namespace Mine
section
variable {C : Cn} {A : Around} {E : Value → Shared → Prop} {c : Shared} {h h' h₁ : Heap} {tk : Nat} {env : Env} {L l a b it : Addr} {ks : List Str} {vs : List (Option Value)} {cs : List (Str × Addr)} {gs : List (Str × Value)} {X : List Addr} {base : Heap} {n n' : Led} {P P' : OP}

theorem call_plainE {f : Addr} {qual : Str} {params : Arguments} {body : List Stmt} {scope : Scope} {cdv : Value} {args : List Value} {binds : List (Str × Value)} {d u : Nat} {ks extra : List Str} {vs : List (Option Value)} {Q : Value → Shared → Prop}
    (ok : C.Ok) (F : Fn C f qual params body scope cdv) (Nn : Nm C scope ks [] gs) (r : Rm A (d + 1) (u + 3)) (H : Hp C h)
    (hb : ∀ name doc pm an ct, bindArgs (fnX name qual params body scope [] .none .none doc pm an cdv ct) ⟨args, []⟩ = pure binds) (hks : ks = binds.map (·.1) ++ extra) (hvs : vs = (binds.map fun p => some p.2) ++ extra.map fun _ => none)
    (k : ∀ env L h₁ tk₁, EnvF C env L ks [] gs → env.frame = some L → h.get? L = none → Rm (A.deeper env) d u → In C [] h h₁ [(L, PLoc ks vs)] →
      wpAny C.M (A.deeper env) (execs body env) (fun fl s' => Q (match fl with | .ret v => v | _ => .none) s') (fun e s' => wpAny C.M (A.deeper env) (leaving env e) (fun _ s'' => E e s'') (fun e' s'' => E e' s'') s') (S c h₁ tk₁)) :
    wpAny C.M A (call (.ref f) args) Q E (S c h tk) := by
  obtain ⟨oc, od, osl, name, doc, pm, an, ct, e⟩ := F.ho
  have ho := H.1 _ _ (ok.ki _ _ e)
  have hks' : ∀ x ∈ binds, x.1 ∈ ks := fun x hx => by rw [hks]; exact List.mem_append_left _ (List.mem_map.mpr ⟨x, hx, rfl⟩)
  refine wpAny_call (codeAny_call_def (fd := fnX name qual params body scope [] .none .none doc pm an cdv ct) (body := body) (binds := binds) (by have := r.hd; omega) ho rfl (ok.nolimit.keeps H.1) ((codeRec_of ok.ki F.hcd).keeps H.1) rfl
    (.of_eq (hb ..)) (fun x hx q => nomatch (Nn.cell x hx q)) (fun x hx => (Nn.kl _ (hks' x hx)).1) (fun h₁ hns hk => ?_) Nn.co Nn.ge Nn.kind)
  have K : Kp C [] h h₁ := Kp.ofAll ok H hk
  have fr : h.get? h.objs.size = none := get?_none_of_size (Nat.le_refl _)
  have V : EnvF C (callEnv (fnX name qual params body scope [] .none .none doc pm an cdv ct) h.objs.size f) h.objs.size ks [] gs := ⟨Nn.kind, rfl, rfl, rfl, Nn.kl, fun _ hp => (nomatch hp), Nn.kg⟩
  have a : At C h₁ h.objs.size (PLoc ks vs) := by
    refine ⟨(H.fresh ok (Nat.le_refl _)).1, ?_⟩
    obtain ⟨o, es, ep, e1, e2, e3, e4⟩ := hns
    refine ⟨o, e1, es, ep, e2, e3, Nn.nd, fun i x v hx hv => (e4 x).trans ?_⟩
    have nd := Nn.nd
    rw [hks] at nd hx
    rw [hvs] at hv
    by_cases hi : i < binds.length
    · rw [List.getElem?_append_left (by rw [List.length_map]; exact hi)] at hx hv
      exact lookup_binds (List.nodup_append.mp nd).1 hx hv
    · rw [List.getElem?_append_right (by rw [List.length_map]; omega), List.getElem?_map] at hv
      cases q : extra[i - (List.map (fun p => some p.snd) binds).length]? with
      | none => rw [q] at hv; cases hv
      | some z => rw [q] at hv; cases hv
  exact k _ _ h₁ _ V rfl fr (r.deeper _) ((In.enter K).gain' fr a List.not_mem_nil (In.noB H fr))

abbrev frs (l : List Env) : List Addr := l.filterMap (·.frame)
def FrOk (h : Heap) : List Env → Prop
  | [] => True
  | env :: rest => env.scope.kind ≠ .module ∧ (∃ L o, env.frame = some L ∧ h.get? L = some o ∧ ∀ vs, o.data ≠ .fields vs) ∧ FrOk h rest
theorem FrOk.fun : ∀ {l : List Env} {base : Heap}, FrOk h l → (∀ b ∈ frs l, base.get? b = none) → h.FunFrames base l
  | [], _, _, _ => trivial
  | env :: r, base, ⟨a, ⟨L, o, e1, e2, e3⟩, hr⟩, k => by
    have hf : frs (env :: r) = L :: frs r := by simp [frs, e1]
    rw [hf] at k
    exact ⟨a, ⟨L, o, e1, k L List.mem_cons_self, e2, e3⟩, FrOk.fun hr fun b hb => k b (List.mem_cons_of_mem _ hb)⟩
theorem FrOk.mono : ∀ {l : List Env}, FrOk h l → (∀ b o, b ∈ frs l → h.get? b = some o → (∀ vs, o.data ≠ .fields vs) → ∃ o', h'.get? b = some o' ∧ ∀ vs, o'.data ≠ .fields vs) → FrOk h' l
  | [], _, _ => trivial
  | env :: r, ⟨a, ⟨L, o, e1, e2, e3⟩, hr⟩, k => by
    have hf : frs (env :: r) = L :: frs r := by simp [frs, e1]
    rw [hf] at k
    obtain ⟨o', k1, k2⟩ := k L o List.mem_cons_self e2 e3
    exact ⟨a, ⟨L, o', e1, k1, k2⟩, FrOk.mono hr fun b o hb => k b o (List.mem_cons_of_mem _ hb)⟩
theorem FrOk.not : ∀ {l : List Env}, FrOk h l → ∀ b ∈ frs l, ∃ o, h.get? b = some o ∧ ∀ vs, o.data ≠ .fields vs
  | [], _, _, hb => nomatch hb
  | env :: r, ⟨a, ⟨L, o, e1, e2, e3⟩, hr⟩, b, hb => by
    have hf : frs (env :: r) = L :: frs r := by simp [frs, e1]
    rw [hf] at hb
    rcases List.mem_cons.mp hb with rfl | hb
    · exact ⟨o, e2, e3⟩
    · exact FrOk.not hr b hb

theorem nx_endX {prog : Program} {w : World} {s : Shared} {Q : Value → Shared → Prop} {it l : Addr} {i : Nat} {items : Array Value} (hh : A.handled = none) (hit : s.heap.IsListIter it l i) (hl : s.heap.IsList l items) (hx : items[i]? = none)
    (hE : ∀ h' e, Heap.ExtBut it s.heap h' → h'.get? it ≠ none → s.heap.get? e = none → (∃ o vs a0, h'.get? e = some o ∧ o.cls = .type "StopIteration" ∧ o.data = .fields vs ∧ vs[0]? = some a0 ∧ vs[1]? = some .none) → E (.ref e) { s with heap := h' }) : wpAny (model prog w) A (call (.builtin "next") [.ref it]) Q E s := by
  obtain ⟨o, ho, hc, hd⟩ := id hit
  obtain ⟨ol, hol, _, nl, hdl⟩ := hl
  refine call_function_entry (by decide +kernel) (by decide +kernel) kdk_entry_next (kdk_args_next _) ?_
  unfold Builtin.«next»
  refine wpAny_bind (m := someArgs "next" 1 2 _) (wpAny_of_eq (a := [Value.ref it]) (by first | rfl | kernel_rfl!) ?_)
  dsimp only
  refine wpAny_bind (wpAny_specialOf (name := Str.ofString "__next__") hit.typeIs slot_listiter_next.lookup ?_)
  refine wpAny_ite_split (fun hab => absurd hab (by decide)) (fun _ => ?_)
  refine wpAny_bind (wpAny_callSpecial?_slot (name := Str.ofString "__next__") hit.typeIs slot_listiter_next
    (wpAny_call_entry slot_listiter_next hit.typeIs entry_listiter_next ?_ (args_listiter_next _)))
  show wpAny _ _ (field (.ref it) 0 >>= _) _ _ s
  refine wpAny_bind (wpAny_field ho hd (x := .ref l) rfl ?_)
  show wpAny _ _ (if (Value.ref l == Value.none) = true then _ else _) _ _ s
  rw [if_neg (show ¬ ((Value.ref l == Value.none) = true) from Bool.false_ne_true)]
  show wpAny _ _ (field (.ref it) 1 >>= _) _ _ s
  refine wpAny_bind (wpAny_field ho hd (x := .int i 0) rfl ?_)
  show wpAny _ _ (seqItems? (.ref l) >>= _) _ _ s
  refine wpAny_bind (wpAny_seqItems hol hdl ?_)
  simp only [Int.toNat_natCast, hx]
  refine wpAny_bind (wpAny_rule (wpAny_bind (wpAny_setField ho hd (by simp) ?_)))
  show wpAny _ _ (newExc (.type "StopIteration") [] >>= _) _ _ _
  refine wpAny_bind ?_
  simp only [newExc, newTuple]
  refine wpAny_bind (wpAny_newObj_type ?_ (by size_fits))
  refine wpAny_bind (m := firstArgMember _ _) (wpAny_of_eq (a := Value.none) (by first | rfl | (simp only [firstArgMember]; rfl)) ?_)
  refine wpAny_newObj_type ?_ (by size_fits)
  simp only [raiseNew]
  refine wpAny_bind (wpAny_handled ?_)
  first | rw [show A.in1.in1.handled = none from hh] | rw [show A.in1.handled = none from hh] | rw [hh]
  refine wpAny_bind (wpAny_pure (wpAny_throw ?_))
  refine hE _ _ (((Heap.SameBut.update ..).extBut.push _).push _) (fun q => by rw [Heap.get?_push_of_some _ (Heap.get?_push_of_some _ (Heap.get?_update_self _ ho (Obj.isFreed_of_fields (Obj.data_mapFields hd _))))] at q; cases q) ?_ ⟨_, _, _, Heap.get?_push_size _ rfl, rfl, rfl, rfl, rfl⟩
  refine get?_none_of_size ?_
  rw [Heap.size_push]
  have := Heap.size_update s.heap it (Obj.mapFields (·.setIfInBounds 0 Value.none))
  omega

structure Rsd (C : Cn) (it : Addr) (l : List Env) (X : String) (h h' : Heap) (e : Addr) : Prop where
  keep : ∀ b o, b ∉ C.Z → b ≠ it → b ∉ frs l → h.get? b = some o → h'.get? b = some o
  slots : ∀ b o, b ∈ frs l → h.get? b = some o → ∃ sl, h'.get? b = some { o with slots := sl }
  hp : Hp C h'
  new : h.get? e = none
  tr : ∃ oe vs a0 T oT ts, h'.get? e = some oe ∧ oe.cls = .type X ∧ vs[0]? = some a0 ∧ oe.data = .fields vs ∧ vs[1]? = some (.ref T) ∧ T ≠ e ∧ h'.get? T = some oT ∧ oT.data = .fields ts ∧ ts[3]? = some .none ∧ h.get? T = none ∧ (∀ h3 : Heap, (∀ b o, b ≠ e → b ≠ T → b ∉ frs l → h'.get? b = some o → h3.get? b = some o) → C.TI h3)

theorem leave_first {env : Env} {l : List Env} {L e it : Addr} {h h₁ h₂ : Heap} {o : Obj} {vs : Array Value} {a0 : Value} {X : String} {E E' : Value → Shared → Prop} {i : Nat} {li : Addr}
    (ok : C.Ok) (hfr : A.frames = some l) (hk : env.scope.kind = .function) (hf : env.frame = some L) (hH : Hp C h) (hF : FrOk h l) (hFz : ∀ b ∈ frs l, b ∉ C.Z ∧ C.B.get? b = none)
    (hit : At C h it (PIter li i)) (hitB : C.B.get? it = none) (hL : h.get? L = none) (hLo : ∃ oL, h₁.get? L = some oL ∧ ∀ vs, oL.data ≠ .fields vs)
    (k1 : ∀ b o, b ∉ C.Z → h.get? b = some o → h₁.get? b = some o) (hp1 : Hp C h₁) (k2 : Heap.ExtBut it h₁ h₂) (hi2 : h₂.get? it ≠ none) (hnew : h₁.get? e = none)
    (he : h₂.get? e = some o) (hc : o.cls = .type X) (hd : o.data = .fields vs) (h0 : vs[0]? = some a0) (h1 : vs[1]? = some .none)
    (k : ∀ h', Rsd C it l X h h' e → E (.ref e) (S c h' tk)) : wpAny C.M (A.deeper env) (leaving env (.ref e)) (fun _ s => E (.ref e) s) E' (S c h₂ tk) := by
  have hfe : frs (env :: l) = L :: frs l := by simp [frs, hf]
  have hitz := hit.1
  obtain ⟨oi, hoi, hic, hid⟩ := hit.2
  have hoi1 := k1 it oi hitz hoi
  have hfi : it ∉ frs l := fun hm => by
    obtain ⟨o', e1, e2⟩ := hF.not it hm
    rw [hoi] at e1; cases e1
    exact e2 _ hid
  have hLi : L ≠ it := fun q => by rw [q, hoi] at hL; cases hL
  obtain ⟨oL, eL, dL⟩ := hLo
  have hL2 : h₂.get? L = some oL := k2 L oL hLi eL
  have hF2 : FrOk h₂ l := hF.mono fun b o hb ho hd => ⟨o, k2 b o (fun q => hfi (q ▸ hb)) (k1 b o (hFz b hb).1 ho), hd⟩
  have hF3 : FrOk h₂ (env :: l) := ⟨by rw [hk]; decide, ⟨L, oL, hf, hL2, dL⟩, hF2⟩
  have heL : e ∉ frs (env :: l) := fun hm => by
    obtain ⟨o', e1, e2⟩ := hF3.not e hm
    rw [he] at e1; cases e1
    exact e2 _ hd
  refine wpAny_leaving_firstW (base := gone h₂ (e :: frs (env :: l))) (Around.frames_deeper hfr) (hF3.fun fun b hb => gone_none (List.mem_cons_of_mem _ hb)) hf he (fun b o hb => (gone_some hb).2) (gone_none List.mem_cons_self) hd h1 h0 fun h' hL' => ?_
  obtain ⟨q1, _, ⟨oe, vs', T, oT, ts, t1, ⟨t2, t3⟩, t4, t5, t6, t7, t8, t9, tA⟩, q4⟩ := hL'
  have kb : ∀ b o, b ≠ e → b ∉ frs (env :: l) → h₂.get? b = some o → h'.get? b = some o := fun b o x1 x2 x3 => q1 b o ((gone_get (fun hm => (List.mem_cons.mp hm).elim x1 x2)).trans x3)
  have hTn : h₂.get? T = none := by
    cases q : h₂.get? T with
    | none => rfl
    | some oo =>
      have hm : T ∈ e :: frs (env :: l) := Classical.byContradiction fun hm => by rw [gone_get hm, q] at t6; cases t6
      rcases List.mem_cons.mp hm with hm | hm
      · exact absurd hm t7
      · obtain ⟨o', e1, e2⟩ := hF3.not T hm
        obtain ⟨sl, e3⟩ := q4 T o' e1 e2
        rw [t8] at e3; cases e3
        exact absurd t9 (e2 _)
  have step : ∀ b o, b ∉ C.Z → b ≠ it → b ∉ frs l → h.get? b = some o → h'.get? b = some o := fun b o hz hi hb ho => by
    refine kb b o (fun q => ?_) (fun hm => ?_) (k2 b o hi (k1 b o hz ho))
    · have := k1 b o hz ho
      rw [q, hnew] at this; cases this
    · rw [hfe] at hm
      rcases List.mem_cons.mp hm with q | q
      · rw [q, hL] at ho; cases ho
      · exact hb q
  have hT1 : h₁.get? T = none := by
    cases q : h₁.get? T with
    | none => rfl
    | some oo =>
      by_cases hi : T = it
      · rw [hi] at hTn; exact absurd hTn hi2
      · rw [k2 T oo hi q] at hTn; cases hTn
  have hti : ∀ h3 : Heap, (∀ b o, b ≠ e → b ≠ T → b ∉ frs l → h'.get? b = some o → h3.get? b = some o) → C.TI h3 := fun h3 k3 => by
    refine ok.tiKeep h₁ h3 (fun b o vs x t hz ho hd hv => ?_) (fun z hz => ?_) hp1.2
    · have hbi : b ≠ it := fun q => by
        rw [q, hoi1] at ho; cases ho
        rw [hid] at hd; cases hd
        simp at hv
      have hbe : b ≠ e := fun q => by rw [q, hnew] at ho; cases ho
      have hbf : b ∉ frs (env :: l) := fun hm => by
        obtain ⟨o', e1, e2⟩ := hF3.not b hm
        rw [k2 b o hbi ho] at e1; cases e1
        exact e2 _ hd
      refine k3 b o hbe (fun q => by rw [q, hT1] at ho; cases ho) (fun hm => hbf (by rw [hfe]; exact List.mem_cons_of_mem _ hm)) (kb b o hbe hbf (k2 b o hbi ho))
    · obtain ⟨oz, ez⟩ := ok.tiZ h₁ hp1.2 z hz
      rw [ez]
      have hbe : z ≠ e := fun q => by rw [q, hnew] at ez; cases ez
      have hbf : z ∉ frs (env :: l) := fun hm => by
        rw [hfe] at hm
        rcases List.mem_cons.mp hm with q2 | q2
        · obtain ⟨oz', ez'⟩ := ok.tiZ h hH.2 z hz
          rw [q2, hL] at ez'; cases ez'
        · exact (hFz z q2).1 hz
      exact k3 z oz hbe (fun q => by rw [q, hT1] at ez; cases ez) (fun hm => hbf (by rw [hfe]; exact List.mem_cons_of_mem _ hm)) (kb z oz hbe hbf (k2 z oz (fun q => hitz (q ▸ hz)) ez))
  refine k h' ⟨step, fun b o hb ho => ?_, ⟨fun b o hb => ?_, hti h' fun _ _ _ _ _ q => q⟩, ?_, ?_⟩
  · obtain ⟨o', e1, e2⟩ := hF.not b hb
    rw [ho] at e1; cases e1
    exact q4 b o (k2 b o (fun q => hfi (q ▸ hb)) (k1 b o (hFz b hb).1 ho)) e2
  · refine step b o (fun hz => ?_) (fun q => ?_) (fun hm => ?_) (hH.1 b o hb)
    · rw [ok.hide b hz] at hb; cases hb
    · rw [q, hitB] at hb; cases hb
    · rw [(hFz b hm).2] at hb; cases hb
  · cases q : h.get? e with
    | none => rfl
    | some oo =>
      by_cases hz : e ∈ C.Z
      · obtain ⟨oz, ez⟩ := ok.tiZ h₁ hp1.2 e hz
        rw [hnew] at ez; cases ez
      · rw [k1 e oo hz q] at hnew; cases hnew
  · refine ⟨oe, vs', a0, T, oT, ts, t1, t2.trans hc, t3, t4, t5, t7, t8, t9, tA, ?_, hti⟩
    cases q : h.get? T with
    | none => rfl
    | some oo =>
      by_cases hz : T ∈ C.Z
      · obtain ⟨oz, ez⟩ := ok.tiZ h₁ hp1.2 T hz
        rw [hT1] at ez; cases ez
      · rw [k1 T oo hz q] at hT1; cases hT1

structure Cgt (C : Cn) (it : Addr) (l : List Env) (X : String) (h h' : Heap) (e : Addr) : Prop where
  keep : ∀ b o, b ∉ C.Z → b ≠ it → b ∉ frs l → h.get? b = some o → h'.get? b = some o
  slots : ∀ b o, b ∈ frs l → h.get? b = some o → ∃ sl, h'.get? b = some { o with slots := sl }
  hp : Hp C h'
  tr : ∃ oe vs T oT ts, h'.get? e = some oe ∧ oe.cls = .type X ∧ oe.data = .fields vs ∧ vs[1]? = some (.ref T) ∧ h'.get? T = some oT ∧ oT.data = .fields ts ∧ 3 < ts.size ∧ T ≠ e ∧
    (∀ h5 : Heap, (∀ b o, b ≠ T → h'.get? b = some o → h5.get? b = some o) → (∀ b o, b ∉ C.Z → b ≠ it → b ∉ frs l → h.get? b = some o → h5.get? b = some o) ∧ (∀ b o, b ∈ frs l → h.get? b = some o → ∃ sl, h5.get? b = some { o with slots := sl }) ∧ Hp C h5)
theorem flight {l : List Env} {e it : Addr} {h h' : Heap} {X : String} {Q : Unit → Shared → Prop} {E : Value → Shared → Prop} (G : Cgt C it l X h h' e) (k : ∀ h5, Cgt C it l X h h5 e → Q () (S c h5 tk)) : wpAny C.M A (setFlight (.ref e) none) Q E (S c h' tk) := by
  obtain ⟨oe, vs, T, oT, ts, t1, t2, t3, t4, t5, t6, t7, t8, t9⟩ := G.tr
  refine wpAny_setFlight_none t1 t3 t4 t5 t6 t7 (k _ ?_)
  have other : ∀ b, b ≠ T → (h'.update T (Obj.mapFields (·.setIfInBounds 3 Value.none))).get? b = h'.get? b := fun b hb => Heap.get?_update_other _ _ (Ne.symm hb)
  have hd := Obj.data_mapFields t6 (·.setIfInBounds 3 Value.none)
  have self := Heap.get?_update_self (Obj.mapFields (·.setIfInBounds 3 Value.none)) t5 (Obj.isFreed_of_fields hd)
  obtain ⟨c1, c2, c3⟩ := t9 (h'.update T (Obj.mapFields (·.setIfInBounds 3 Value.none))) fun b o hb ho => (other b hb).trans ho
  exact ⟨c1, c2, c3, oe, vs, T, _, _, (other e (Ne.symm t8)).trans t1, t2, t3, t4, self, hd, by simpa using t7, t8, fun h5 k5 => t9 h5 fun b o hb ho => k5 b o hb ((other b hb).trans ho)⟩
theorem note_next {env : Env} {outer : List Env} {L e it : Addr} {h h' : Heap} {X : String} {Q : Unit → Shared → Prop} {E : Value → Shared → Prop}
    (hfr : A.frames = some (env :: outer)) (hf : env.frame = some L) (hH : Hp C h) (hF : FrOk h (env :: outer)) (hFz : ∀ b ∈ frs (env :: outer), b ∉ C.Z ∧ C.B.get? b = none) (R : Rsd C it (env :: outer) X h h' e)
    (k : ∀ h3, Cgt C it (env :: outer) X h h3 e → Q () (S c h3 tk)) :
    wpAny C.M A (noteFrame (.ref e) env) Q E (S c h' tk) := by
  obtain ⟨oe, vs, a0, T, oT, ts, t1, t2, t3, t4, t5, t6, t7, t8, t9, tA, tB⟩ := R.tr
  have hT1 : T ≠ e := t6
  have hF' : FrOk h' (env :: outer) := hF.mono fun b o hb ho hd => by
    obtain ⟨sl, e1⟩ := R.slots b o hb ho
    exact ⟨_, e1, hd⟩
  have hnot : ∀ b ∈ frs (env :: outer), b ≠ e ∧ b ≠ T := fun b hb => by
    obtain ⟨o', e1, e2⟩ := hF'.not b hb
    refine ⟨fun q => ?_, fun q => ?_⟩
    · rw [q, t1] at e1; cases e1; exact e2 _ t4
    · rw [q, t7] at e1; cases e1; exact e2 _ t8
  unfold noteFrame
  simp only [hf]
  refine wpAny_bind (wpAny_field t1 t4 t5 ?_)
  rw [if_pos (show (Value.ref T != Value.none) = true from by simp)]
  refine wpAny_bind (wpAny_field t7 t8 t9 ?_)
  rw [if_neg (show ¬ ((Value.none == rawInt L) = true) from by simp [rawInt])]
  refine wpAny_bind (wpAny_setField t7 t8 (Array.getElem?_eq_some_iff.mp t9).1 ?_)
  have other : ∀ b, b ≠ T → (h'.update T (Obj.mapFields (·.setIfInBounds 3 Value.none))).get? b = h'.get? b := fun b hb => Heap.get?_update_other _ _ (Ne.symm hb)
  generalize hu : h'.update T (Obj.mapFields (·.setIfInBounds 3 Value.none)) = hU at other
  have hTU : ∃ o, hU.get? T = some o := by
    rw [← hu]
    exact ⟨_, Heap.get?_update_self _ t7 (Obj.isFreed_of_fields (Obj.data_mapFields t8 _))⟩
  have hFU : FrOk hU (env :: outer) := hF'.mono fun b o hb ho hd => ⟨o, (other b (hnot b hb).2).trans ho, hd⟩
  have heU : hU.get? e = some oe := (other e (Ne.symm hT1)).trans t1
  refine wpAny_entryW (base := gone hU (e :: frs (env :: outer))) hfr (hFU.fun fun b hb => gone_none (List.mem_cons_of_mem _ hb)) hf heU (fun b o hb => (gone_some hb).2) (gone_none List.mem_cons_self) t4 (Array.getElem?_eq_some_iff.mp t5).1 t3 fun h3 hN => ?_
  obtain ⟨q1, _, ⟨oe3, vs3, T3, oT3, ts3, u1, ⟨u2, u3⟩, u4, u5, u6, u7, u8, u9, uA⟩, q4⟩ := hN
  have kb : ∀ b o, b ≠ e → b ≠ T → b ∉ frs (env :: outer) → h'.get? b = some o → h3.get? b = some o := fun b o x1 x2 x3 x4 => q1 b o ((gone_get (fun hm => (List.mem_cons.mp hm).elim x1 x3)).trans ((other b x2).trans x4))
  have hT3 : h'.get? T3 = none := by
    have hm : T3 ∉ e :: frs (env :: outer) := fun hm => by
      rcases List.mem_cons.mp hm with hm | hm
      · exact u7 hm
      · obtain ⟨o', e1, e2⟩ := hFU.not T3 hm
        obtain ⟨sl, e3⟩ := q4 T3 o' e1 e2
        rw [u8] at e3; cases e3
        exact e2 _ u9
    rw [gone_get hm] at u6
    by_cases hq : T3 = T
    · obtain ⟨o', e'⟩ := hTU
      rw [hq, e'] at u6; cases u6
    · rw [← other T3 hq]; exact u6
  have all : ∀ h5 : Heap, (∀ b o, b ≠ T3 → h3.get? b = some o → h5.get? b = some o) → (∀ b o, b ∉ C.Z → b ≠ it → b ∉ frs (env :: outer) → h.get? b = some o → h5.get? b = some o) ∧ (∀ b o, b ∈ frs (env :: outer) → h.get? b = some o → ∃ sl, h5.get? b = some { o with slots := sl }) ∧ Hp C h5 := fun h5 k5 => by
    have kb5 : ∀ b o, b ≠ e → b ≠ T → b ∉ frs (env :: outer) → h'.get? b = some o → h5.get? b = some o := fun b o x1 x2 x3 x4 => k5 b o (fun q => by rw [q, hT3] at x4; cases x4) (kb b o x1 x2 x3 x4)
    refine ⟨fun b o hz hi hb ho => ?_, fun b o hb ho => ?_, fun b o hb => ?_, tB h5 kb5⟩
    · exact kb5 b o (fun q => by rw [q, R.new] at ho; cases ho) (fun q => by rw [q, tA] at ho; cases ho) hb (R.keep b o hz hi hb ho)
    · obtain ⟨sl, e1⟩ := R.slots b o hb ho
      obtain ⟨o', e2, e3⟩ := hF.not b hb
      rw [ho] at e2; cases e2
      obtain ⟨sl2, e4⟩ := q4 b _ ((other b (hnot b hb).2).trans e1) e3
      exact ⟨sl2, k5 b _ (fun q => by rw [q, hT3] at e1; cases e1) e4⟩
    · have hb' := R.hp.1 b o hb
      refine kb5 b o (fun q => ?_) (fun q => ?_) (fun hm => ?_) hb'
      · have := hH.1 b o hb
        rw [q, R.new] at this; cases this
      · have := hH.1 b o hb
        rw [q, tA] at this; cases this
      · rw [(hFz b hm).2] at hb; cases hb
  obtain ⟨c1, c2, c3⟩ := all h3 fun _ _ _ q => q
  exact k h3 ⟨c1, c2, c3, oe3, vs3, T3, oT3, ts3, u1, u2.trans t2, u4, u5, u8, u9, (Array.getElem?_eq_some_iff.mp uA).1, u7, all⟩

theorem sub_si : isSubtype (.type "StopIteration") (.type "BaseException") = pure true := by rw [isSubtype_type]; kernel_rfl
theorem sub_ss : isSubtype (.type "StopIteration") (.type "StopIteration") = pure true := by rw [isSubtype_type]; kernel_rfl
theorem nt_si : isSubtype (.type ((Manifest.find? "StopIteration").elim "type" fun x => x.metatype)) (.type "tuple") = pure false := by rw [isSubtype_type]; kernel_rfl
theorem catch_stop {env : Env} {outer : List Env} {L Lf e it : Addr} {h h' : Heap} {px pos : Pos} {b₀ : Stmt} {suite : List Stmt} {Q : Flow → Shared → Prop} {E : Value → Shared → Prop}
    (ok : C.Ok) (V : EnvF C env L ks cs gs) (hg : (("StopIteration" : Str), Value.type "StopIteration") ∈ gs) (hfr : A.frames = some (env :: outer)) (hf : env.frame = some Lf) (hH : Hp C h) (hF : FrOk h (env :: outer)) (hFz : ∀ b ∈ frs (env :: outer), b ∉ C.Z ∧ C.B.get? b = none) (R : Rsd C it (env :: outer) "StopIteration" h h' e)
    (k : ∀ h5, Cgt C it (env :: outer) "StopIteration" h h5 e → wpAny C.M (A.mark (some (.ref e))) (execs (b₀ :: suite) env) Q (notedBy C.M (A.mark (some (.ref e))) env (cameBackBy C.M A env E)) (S c h5 tk)) :
    wpAny C.M A (noteFrame (.ref e) env) (fun _ s₂ => wpAny C.M A (setFlight (.ref e) none) (fun _ s₃ => wpAny C.M A (handleBy (.ref e) env [.ExceptHandler (some (.Name "StopIteration" px)) none (b₀ :: suite) pos]) Q E s₃) E s₂) E (S c h' tk) := by
  refine note_next hfr hf hH hF hFz R fun h3 G3 => flight G3 fun h4 G4 => ?_
  refine wpAny_handleBy_builtin (X := "StopIteration") (T := "StopIteration") (b := true) sub_si nt_si sub_ss ?_
  refine r_glob ok V G4.hp hg ?_
  obtain ⟨oe, vs, T, oT, ts, t1, t2, _⟩ := G4.tr
  refine ⟨rfl, ⟨oe, t1, t2⟩, ?_⟩
  rw [if_pos rfl]
  exact flight G4 fun h5 G5 => k h5 G5
theorem In.caught {l : List Env} {e it : Addr} {h' : Heap} {Xn : String} (ok : C.Ok) (H : In C X base h ((it, P) :: n)) (hM : ∀ o, P o → Mut o) (G : Cgt C it l Xn h h' e) (hfn : ∀ b ∈ frs l, ∃ ks vs, (b, PLoc ks vs) ∈ n) : In C X base h' n := by
  have hi := H.own (l := it) (P := P) List.mem_cons_self hM
  have hfo : ∀ b ∈ frs l, base.get? b = none ∨ b ∈ X := fun b hb => by
    obtain ⟨ks, vs, hm⟩ := hfn b hb
    exact (H.own (List.mem_cons_of_mem _ hm) PLoc.mut).2.2.2
  refine ⟨fun b o hz hx e => ?_, G.hp, fun p hp => ?_, (List.nodup_cons.mp H.nodup).2⟩
  · refine G.keep b o hz (fun q => ?_) (fun hm => ?_) (H.keep b o hz hx e)
    · subst q
      rcases hi.2.2.2 with q | q
      · rw [q] at e; cases e
      · exact hx q
    · rcases hfo b hm with q | q
      · rw [q] at e; cases e
      · exact hx q
  · obtain ⟨⟨o, ho, hP, hw⟩, hz⟩ := H.ent p (List.mem_cons_of_mem _ hp)
    by_cases hm : p.1 ∈ frs l
    · obtain ⟨ks, vs, hmem⟩ := hfn _ hm
      have hPe : p.2 = PLoc ks vs := by
        obtain ⟨i, e1⟩ := List.getElem?_of_mem hp
        obtain ⟨j, e2⟩ := List.getElem?_of_mem hmem
        have nd := (List.nodup_cons.mp H.nodup).2
        have h1 : (n.map (·.1))[i]? = some p.1 := by rw [List.getElem?_map, e1]; rfl
        have h2 : (n.map (·.1))[j]? = some p.1 := by rw [List.getElem?_map, e2]; rfl
        have := nodup_inj nd h1 h2
        subst this
        rw [e1] at e2
        exact congrArg (·.2) (Option.some.inj e2)
      obtain ⟨sl, e3⟩ := G.slots p.1 o hm ho
      have hP' : PLoc ks vs o := hPe ▸ hP
      refine ⟨⟨_, e3, ?_, ?_⟩, hz⟩
      · rw [hPe]
        obtain ⟨es, ep, d1, d2⟩ := hP'
        exact ⟨es, ep, d1, d2⟩
      · rcases hw with hw | hw
        · exact .inl hw
        · exact absurd (PLoc.mut _ hP') hw
    · refine ⟨⟨o, G.keep p.1 o hz (fun q => ?_) hm ho, hP, hw⟩, hz⟩
      have := (List.nodup_cons.mp H.nodup).1
      exact this (q ▸ List.mem_map.mpr ⟨p, hp, rfl⟩)
end
end Mine

end
namespace Mine

def gv (K : Frag) (x : Str) : Option Value := match nsIn K mainGlobals x with
  | some (some v) => some v
  | some none => if x = ("__name__" : Str) then none else bootBuiltins x
  | none => none
theorem gval_of {C : Cn} (ok : C.Ok) {x : Str} {v : Value} (e : gv C.K x = some v) : GVal C x v := by
  unfold gv at e
  split at e
  · rename_i q
    cases e
    exact .inl (mg_of ok.ki ok.ns q)
  · rename_i q
    split at e
    · cases e
    · rename_i hn
      exact .inr ⟨mg_none_of ok.ki ok.ns q, e, hn⟩
  · cases e

def posIn (i j : Nat) : Pos := match (bodyAt i)[j]? with
  | some (.FunctionDef _ _ _ _ _ _ _ _ _ p) => p
  | _ => default
def TI (h : Heap) : Prop := TabOk [58, 51] h 58 "_digits2int.<locals>.inner" (posIn 11 0) ∧ TabOk [58, 51] h 51 "_int2digits.<locals>.inner" (posIn 10 1)
noncomputable def CC (w : World) (B : Heap) (mg mb : Str → Option Value) : Cn := { prog := pw, w := w, K := topHeap w.params, B := B, Z := [58, 51], TI := TI, tabs := [(62, 58), (55, 51)], mg := mg, mb := mb }
theorem cc_ok {w : World} {B : Heap} {mg mb : Str → Option Value} (ki : (topHeap w.params).In B) (ns : B.Ns mainGlobals mg) (nb : B.Ns builtinsNs mb) (blt : ∀ x : Str, x ≠ ("__name__" : Str) → mb x = bootBuiltins x) (nl : B.NoLimit)
    (bm : ∃ bm ob, mg "__builtins__" = some (.ref bm) ∧ bm ≠ builtinsNs ∧ B.get? bm = some ob ∧ ob.cls = .type "module" ∧ ob.dict = some builtinsNs ∧ ob.data = .plain) (c58 : CodeHd B 62 58) (c51 : CodeHd B 55 51)
    (h58 : B.get? 58 = none) (h51 : B.get? 51 = none) : (CC w B mg mb).Ok where
  ki := ki
  ns := ns
  nb := nb
  blt := blt
  nolimit := nl
  bm := bm
  ct := fun p hp => by
    rcases List.mem_cons.mp hp with rfl | hp
    · exact c58
    · rcases List.mem_cons.mp hp with rfl | hp
      · exact c51
      · cases hp
  hide := fun z hz => by
    rcases List.mem_cons.mp hz with rfl | hz
    · exact h58
    · rcases List.mem_cons.mp hz with rfl | hz
      · exact h51
      · cases hz
  tiZ := fun h x z hz => by
    have get : ∀ {P qual pos}, TabOk [58, 51] h P qual pos → ∃ o, h.get? P = some o := fun x => by
      rcases x with x | ⟨c', a, _⟩
      · exact ⟨_, x⟩
      · exact ⟨_, a⟩
    rcases List.mem_cons.mp hz with rfl | hz
    · exact get x.1
    · rcases List.mem_cons.mp hz with rfl | hz
      · exact get x.2
      · cases hz
  tiKeep := fun h h' hk hz x => ⟨x.1.keep hk (hz 58 (List.mem_cons_self)), x.2.keep hk (hz 51 (List.mem_cons_of_mem _ List.mem_cons_self))⟩

theorem tiSet58 {h h' : Heap} {c' : Addr} (hx : Heap.ExtBut 58 h h') (e : h'.get? 58 = some (tabObj #[rawInt (posIn 11 0).line, rawInt (posIn 11 0).col, .ref c'])) (r : h'.CodeRec (.ref c') "_digits2int.<locals>.inner") (z : c' ∉ ([58, 51] : List Addr)) (x : TI h) : TI h' :=
  ⟨.inr ⟨c', e, r, z⟩, x.2.ext hx (by decide) (by decide)⟩
theorem tiSet51 {h h' : Heap} {c' : Addr} (hx : Heap.ExtBut 51 h h') (e : h'.get? 51 = some (tabObj #[rawInt (posIn 10 1).line, rawInt (posIn 10 1).col, .ref c'])) (r : h'.CodeRec (.ref c') "_int2digits.<locals>.inner") (z : c' ∉ ([58, 51] : List Addr)) (x : TI h) : TI h' :=
  ⟨x.1.ext hx (by decide) (by decide), .inr ⟨c', e, r, z⟩⟩

theorem fn_ISTERMINAL {w : World} {B : Heap} {mg mb : Str → Option Value} : Fn (CC w B mg mb) 21 "ISTERMINAL" (parsAt 3) (bodyAt 3) (scopeAt 3) (.ref 20) := ⟨⟨_, _, _, _, _, _, _, _, rfl⟩, rfl⟩
theorem nm_ISTERMINAL {w : World} {B : Heap} {mg mb : Str → Option Value} (ok : (CC w B mg mb).Ok) : Nm (CC w B mg mb) (scopeAt 3) ["x"] [] [("NT_OFFSET", .int 256 191)] where
  nd := by decide +kernel
  kl := by decide +kernel
  kg := by
    intro p hp
    (repeat (rcases List.mem_cons.mp hp with rfl | hp; exact ⟨rfl, gval_of ok rfl, rfl⟩))
    exact nomatch hp
  kind := rfl
  co := rfl
  ge := rfl
  cell := by decide +kernel
  kc := by decide +kernel
  ndf := by decide +kernel
theorem fn_ISNONTERMINAL {w : World} {B : Heap} {mg mb : Str → Option Value} : Fn (CC w B mg mb) 28 "ISNONTERMINAL" (parsAt 4) (bodyAt 4) (scopeAt 4) (.ref 27) := ⟨⟨_, _, _, _, _, _, _, _, rfl⟩, rfl⟩
theorem nm_ISNONTERMINAL {w : World} {B : Heap} {mg mb : Str → Option Value} (ok : (CC w B mg mb).Ok) : Nm (CC w B mg mb) (scopeAt 4) ["x"] [] [("NT_OFFSET", .int 256 191)] where
  nd := by decide +kernel
  kl := by decide +kernel
  kg := by
    intro p hp
    (repeat (rcases List.mem_cons.mp hp with rfl | hp; exact ⟨rfl, gval_of ok rfl, rfl⟩))
    exact nomatch hp
  kind := rfl
  co := rfl
  ge := rfl
  cell := by decide +kernel
  kc := by decide +kernel
  ndf := by decide +kernel
theorem fn_ISEOF {w : World} {B : Heap} {mg mb : Str → Option Value} : Fn (CC w B mg mb) 35 "ISEOF" (parsAt 5) (bodyAt 5) (scopeAt 5) (.ref 34) := ⟨⟨_, _, _, _, _, _, _, _, rfl⟩, rfl⟩
theorem nm_ISEOF {w : World} {B : Heap} {mg mb : Str → Option Value} (ok : (CC w B mg mb).Ok) : Nm (CC w B mg mb) (scopeAt 5) ["x"] [] [("ENDMARKER", .int 0 189)] where
  nd := by decide +kernel
  kl := by decide +kernel
  kg := by
    intro p hp
    (repeat (rcases List.mem_cons.mp hp with rfl | hp; exact ⟨rfl, gval_of ok rfl, rfl⟩))
    exact nomatch hp
  kind := rfl
  co := rfl
  ge := rfl
  cell := by decide +kernel
  kc := by decide +kernel
  ndf := by decide +kernel
theorem fn_div2n1n {w : World} {B : Heap} {mg mb : Str → Option Value} : Fn (CC w B mg mb) 42 "_div2n1n" (parsAt 8) (bodyAt 8) (scopeAt 8) (.ref 41) := ⟨⟨_, _, _, _, _, _, _, _, rfl⟩, rfl⟩
theorem nm_div2n1n {w : World} {B : Heap} {mg mb : Str → Option Value} (ok : (CC w B mg mb).Ok) : Nm (CC w B mg mb) (scopeAt 8) ["a", "b", "n", "pad", "half_n", "mask", "b1", "b2", "q1", "r", "q2"] [] [("_DIV_LIMIT", .int 4000 216), ("divmod", .builtin "divmod"), ("_div3n2n", .ref 49)] where
  nd := by decide +kernel
  kl := by decide +kernel
  kg := by
    intro p hp
    (repeat (rcases List.mem_cons.mp hp with rfl | hp; exact ⟨rfl, gval_of ok rfl, rfl⟩))
    exact nomatch hp
  kind := rfl
  co := rfl
  ge := rfl
  cell := by decide +kernel
  kc := by decide +kernel
  ndf := by decide +kernel
theorem fn_int2digits {w : World} {B : Heap} {mg mb : Str → Option Value} : Fn (CC w B mg mb) 56 "_int2digits" (parsAt 10) (bodyAt 10) (scopeAt 10) (.ref 55) := ⟨⟨_, _, _, _, _, _, _, _, rfl⟩, rfl⟩
theorem nm_int2digits {w : World} {B : Heap} {mg mb : Str → Option Value} (ok : (CC w B mg mb).Ok) : Nm (CC w B mg mb) (scopeAt 10) ["a"] ["n", "a_digits", "inner"] [("len", .builtin "len")] where
  nd := by decide +kernel
  kl := by decide +kernel
  kg := by
    intro p hp
    (repeat (rcases List.mem_cons.mp hp with rfl | hp; exact ⟨rfl, gval_of ok rfl, rfl⟩))
    exact nomatch hp
  kind := rfl
  co := rfl
  ge := rfl
  cell := by decide +kernel
  kc := by decide +kernel
  ndf := by decide +kernel
theorem fn_digits2int {w : World} {B : Heap} {mg mb : Str → Option Value} : Fn (CC w B mg mb) 63 "_digits2int" (parsAt 11) (bodyAt 11) (scopeAt 11) (.ref 62) := ⟨⟨_, _, _, _, _, _, _, _, rfl⟩, rfl⟩
theorem nm_digits2int {w : World} {B : Heap} {mg mb : Str → Option Value} (ok : (CC w B mg mb).Ok) : Nm (CC w B mg mb) (scopeAt 11) [] ["digits", "n", "inner"] [("len", .builtin "len")] where
  nd := by decide +kernel
  kl := by decide +kernel
  kg := by
    intro p hp
    (repeat (rcases List.mem_cons.mp hp with rfl | hp; exact ⟨rfl, gval_of ok rfl, rfl⟩))
    exact nomatch hp
  kind := rfl
  co := rfl
  ge := rfl
  cell := by decide +kernel
  kc := by decide +kernel
  ndf := by decide +kernel
theorem fn_divmod_pos {w : World} {B : Heap} {mg mb : Str → Option Value} : Fn (CC w B mg mb) 70 "_divmod_pos" (parsAt 12) (bodyAt 12) (scopeAt 12) (.ref 69) := ⟨⟨_, _, _, _, _, _, _, _, rfl⟩, rfl⟩
theorem nm_divmod_pos {w : World} {B : Heap} {mg mb : Str → Option Value} (ok : (CC w B mg mb).Ok) : Nm (CC w B mg mb) (scopeAt 12) ["a", "b", "n", "a_digits", "r", "q_digits", "a_digit", "q_digit", "q"] [] [("_int2digits", .ref 56), ("reversed", .type "reversed"), ("_div2n1n", .ref 42), ("_digits2int", .ref 63)] where
  nd := by decide +kernel
  kl := by decide +kernel
  kg := by
    intro p hp
    (repeat (rcases List.mem_cons.mp hp with rfl | hp; exact ⟨rfl, gval_of ok rfl, rfl⟩))
    exact nomatch hp
  kind := rfl
  co := rfl
  ge := rfl
  cell := by decide +kernel
  kc := by decide +kernel
  ndf := by decide +kernel
theorem fn_int_divmod {w : World} {B : Heap} {mg mb : Str → Option Value} : Fn (CC w B mg mb) 77 "int_divmod" (parsAt 13) (bodyAt 13) (scopeAt 13) (.ref 76) := ⟨⟨_, _, _, _, _, _, _, _, rfl⟩, rfl⟩
theorem nm_int_divmod {w : World} {B : Heap} {mg mb : Str → Option Value} (ok : (CC w B mg mb).Ok) : Nm (CC w B mg mb) (scopeAt 13) ["a", "b", "q", "r"] [] [("ZeroDivisionError", .type "ZeroDivisionError"), ("int_divmod", .ref 77), ("_divmod_pos", .ref 70)] where
  nd := by decide +kernel
  kl := by decide +kernel
  kg := by
    intro p hp
    (repeat (rcases List.mem_cons.mp hp with rfl | hp; exact ⟨rfl, gval_of ok rfl, rfl⟩))
    exact nomatch hp
  kind := rfl
  co := rfl
  ge := rfl
  cell := by decide +kernel
  kc := by decide +kernel
  ndf := by decide +kernel
theorem fn_parse_varint {w : World} {B : Heap} {mg mb : Str → Option Value} : Fn (CC w B mg mb) 84 "_parse_varint" (parsAt 15) (bodyAt 15) (scopeAt 15) (.ref 83) := ⟨⟨_, _, _, _, _, _, _, _, rfl⟩, rfl⟩
theorem nm_parse_varint {w : World} {B : Heap} {mg mb : Str → Option Value} (ok : (CC w B mg mb).Ok) : Nm (CC w B mg mb) (scopeAt 15) ["iterator", "b", "val"] [] [("next", .builtin "next")] where
  nd := by decide +kernel
  kl := by decide +kernel
  kg := by
    intro p hp
    (repeat (rcases List.mem_cons.mp hp with rfl | hp; exact ⟨rfl, gval_of ok rfl, rfl⟩))
    exact nomatch hp
  kind := rfl
  co := rfl
  ge := rfl
  cell := by decide +kernel
  kc := by decide +kernel
  ndf := by decide +kernel
theorem fn_substitution_cost {w : World} {B : Heap} {mg mb : Str → Option Value} : Fn (CC w B mg mb) 91 "_substitution_cost" (parsAt 20) (bodyAt 20) (scopeAt 20) (.ref 90) := ⟨⟨_, _, _, _, _, _, _, _, rfl⟩, rfl⟩
theorem nm_substitution_cost {w : World} {B : Heap} {mg mb : Str → Option Value} (ok : (CC w B mg mb).Ok) : Nm (CC w B mg mb) (scopeAt 20) ["ch_a", "ch_b"] [] [("_CASE_COST", .int 1 313), ("_MOVE_COST", .int 2 311)] where
  nd := by decide +kernel
  kl := by decide +kernel
  kg := by
    intro p hp
    (repeat (rcases List.mem_cons.mp hp with rfl | hp; exact ⟨rfl, gval_of ok rfl, rfl⟩))
    exact nomatch hp
  kind := rfl
  co := rfl
  ge := rfl
  cell := by decide +kernel
  kc := by decide +kernel
  ndf := by decide +kernel
theorem fn_levenshtein_distance {w : World} {B : Heap} {mg mb : Str → Option Value} : Fn (CC w B mg mb) 98 "_levenshtein_distance" (parsAt 21) (bodyAt 21) (scopeAt 21) (.ref 97) := ⟨⟨_, _, _, _, _, _, _, _, rfl⟩, rfl⟩
theorem nm_levenshtein_distance {w : World} {B : Heap} {mg mb : Str → Option Value} (ok : (CC w B mg mb).Ok) : Nm (CC w B mg mb) (scopeAt 21) ["a", "b", "max_cost", "pre", "post", "row", "result", "bindex", "bchar", "distance", "minimum", "index", "substitute", "insert_delete"] [] [("_MOVE_COST", .int 2 311), ("len", .builtin "len"), ("_MAX_STRING_SIZE", .int 40 309), ("list", .type "list"), ("range", .type "range"), ("_substitution_cost", .ref 91), ("min", .builtin "min")] where
  nd := by decide +kernel
  kl := by decide +kernel
  kg := by
    intro p hp
    (repeat (rcases List.mem_cons.mp hp with rfl | hp; exact ⟨rfl, gval_of ok rfl, rfl⟩))
    exact nomatch hp
  kind := rfl
  co := rfl
  ge := rfl
  cell := by decide +kernel
  kc := by decide +kernel
  ndf := by decide +kernel
theorem fn_law_row {w : World} {B : Heap} {mg mb : Str → Option Value} : Fn (CC w B mg mb) 103 "_law_row" (parsAt 23) (bodyAt 23) (scopeAt 23) (.ref 102) := ⟨⟨_, _, _, _, _, _, _, _, rfl⟩, rfl⟩
theorem nm_law_row {w : World} {B : Heap} {mg mb : Str → Option Value} (ok : (CC w B mg mb).Ok) : Nm (CC w B mg mb) (scopeAt 23) ["order", "top"] ["low", "high"] [("_law_row", .ref 103)] where
  nd := by decide +kernel
  kl := by decide +kernel
  kg := by
    intro p hp
    (repeat (rcases List.mem_cons.mp hp with rfl | hp; exact ⟨rfl, gval_of ok rfl, rfl⟩))
    exact nomatch hp
  kind := rfl
  co := rfl
  ge := rfl
  cell := by decide +kernel
  kc := by decide +kernel
  ndf := by decide +kernel
theorem fn_law_octets {w : World} {B : Heap} {mg mb : Str → Option Value} : Fn (CC w B mg mb) 110 "_law_octets" (parsAt 24) (bodyAt 24) (scopeAt 24) (.ref 109) := ⟨⟨_, _, _, _, _, _, _, _, rfl⟩, rfl⟩
theorem nm_law_octets {w : World} {B : Heap} {mg mb : Str → Option Value} (ok : (CC w B mg mb).Ok) : Nm (CC w B mg mb) (scopeAt 24) ["row", "octets", "number"] [] [] where
  nd := by decide +kernel
  kl := by decide +kernel
  kg := by
    intro p hp
    (repeat (rcases List.mem_cons.mp hp with rfl | hp; exact ⟨rfl, gval_of ok rfl, rfl⟩))
    exact nomatch hp
  kind := rfl
  co := rfl
  ge := rfl
  cell := by decide +kernel
  kc := by decide +kernel
  ndf := by decide +kernel
theorem fn_law_read {w : World} {B : Heap} {mg mb : Str → Option Value} : Fn (CC w B mg mb) 117 "_law_read" (parsAt 25) (bodyAt 25) (scopeAt 25) (.ref 116) := ⟨⟨_, _, _, _, _, _, _, _, rfl⟩, rfl⟩
theorem nm_law_read {w : World} {B : Heap} {mg mb : Str → Option Value} (ok : (CC w B mg mb).Ok) : Nm (CC w B mg mb) (scopeAt 25) ["iterator", "row", "number"] [] [("_parse_varint", .ref 84), ("ISEOF", .ref 35)] where
  nd := by decide +kernel
  kl := by decide +kernel
  kg := by
    intro p hp
    (repeat (rcases List.mem_cons.mp hp with rfl | hp; exact ⟨rfl, gval_of ok rfl, rfl⟩))
    exact nomatch hp
  kind := rfl
  co := rfl
  ge := rfl
  cell := by decide +kernel
  kc := by decide +kernel
  ndf := by decide +kernel
theorem fn_law_end {w : World} {B : Heap} {mg mb : Str → Option Value} : Fn (CC w B mg mb) 124 "_law_end" (parsAt 26) (bodyAt 26) (scopeAt 26) (.ref 123) := ⟨⟨_, _, _, _, _, _, _, _, rfl⟩, rfl⟩
theorem nm_law_end {w : World} {B : Heap} {mg mb : Str → Option Value} (ok : (CC w B mg mb).Ok) : Nm (CC w B mg mb) (scopeAt 26) ["row", "place", "awaited"] [] [("ISNONTERMINAL", .ref 28)] where
  nd := by decide +kernel
  kl := by decide +kernel
  kg := by
    intro p hp
    (repeat (rcases List.mem_cons.mp hp with rfl | hp; exact ⟨rfl, gval_of ok rfl, rfl⟩))
    exact nomatch hp
  kind := rfl
  co := rfl
  ge := rfl
  cell := by decide +kernel
  kc := by decide +kernel
  ndf := by decide +kernel
theorem fn_law_digits {w : World} {B : Heap} {mg mb : Str → Option Value} : Fn (CC w B mg mb) 129 "_law_digits" (parsAt 27) (bodyAt 27) (scopeAt 27) (.ref 128) := ⟨⟨_, _, _, _, _, _, _, _, rfl⟩, rfl⟩
theorem nm_law_digits {w : World} {B : Heap} {mg mb : Str → Option Value} (ok : (CC w B mg mb).Ok) : Nm (CC w B mg mb) (scopeAt 27) ["row"] [] [] where
  nd := by decide +kernel
  kl := by decide +kernel
  kg := by
    intro p hp
    (repeat (rcases List.mem_cons.mp hp with rfl | hp; exact ⟨rfl, gval_of ok rfl, rfl⟩))
    exact nomatch hp
  kind := rfl
  co := rfl
  ge := rfl
  cell := by decide +kernel
  kc := by decide +kernel
  ndf := by decide +kernel
theorem fn_law_word {w : World} {B : Heap} {mg mb : Str → Option Value} : Fn (CC w B mg mb) 134 "_law_word" (parsAt 28) (bodyAt 28) (scopeAt 28) (.ref 133) := ⟨⟨_, _, _, _, _, _, _, _, rfl⟩, rfl⟩
theorem nm_law_word {w : World} {B : Heap} {mg mb : Str → Option Value} (ok : (CC w B mg mb).Ok) : Nm (CC w B mg mb) (scopeAt 28) ["row"] ["letters"] [] where
  nd := by decide +kernel
  kl := by decide +kernel
  kg := by
    intro p hp
    (repeat (rcases List.mem_cons.mp hp with rfl | hp; exact ⟨rfl, gval_of ok rfl, rfl⟩))
    exact nomatch hp
  kind := rfl
  co := rfl
  ge := rfl
  cell := by decide +kernel
  kc := by decide +kernel
  ndf := by decide +kernel
theorem fn_law_above {w : World} {B : Heap} {mg mb : Str → Option Value} : Fn (CC w B mg mb) 139 "_law_above" (parsAt 29) (bodyAt 29) (scopeAt 29) (.ref 138) := ⟨⟨_, _, _, _, _, _, _, _, rfl⟩, rfl⟩
theorem nm_law_above {w : World} {B : Heap} {mg mb : Str → Option Value} (ok : (CC w B mg mb).Ok) : Nm (CC w B mg mb) (scopeAt 29) ["order"] ["rank", "ahead"] [] where
  nd := by decide +kernel
  kl := by decide +kernel
  kg := by
    intro p hp
    (repeat (rcases List.mem_cons.mp hp with rfl | hp; exact ⟨rfl, gval_of ok rfl, rfl⟩))
    exact nomatch hp
  kind := rfl
  co := rfl
  ge := rfl
  cell := by decide +kernel
  kc := by decide +kernel
  ndf := by decide +kernel
theorem fn_law {w : World} {B : Heap} {mg mb : Str → Option Value} : Fn (CC w B mg mb) 144 "law" (parsAt 30) (bodyAt 30) (scopeAt 30) (.ref 143) := ⟨⟨_, _, _, _, _, _, _, _, rfl⟩, rfl⟩
theorem nm_law {w : World} {B : Heap} {mg mb : Str → Option Value} (ok : (CC w B mg mb).Ok) : Nm (CC w B mg mb) (scopeAt 30) ["order", "octets", "edges", "above", "others", "at", "iterator", "row", "digits", "number", "word", "turned", "upper", "lower", "end", "part", "moved", "size", "symbol", "there", "fall", "due", "other"] ["script", "keys", "letters", "rank"] [("enumerate", .type "enumerate"), ("range", .type "range"), ("sum", .builtin "sum"), ("_law_octets", .ref 110), ("_law_row", .ref 103), ("_law_above", .ref 139), ("iter", .builtin "iter"), ("_law_read", .ref 117), ("_law_digits", .ref 129), ("_digits2int", .ref 63), ("_int2digits", .ref 56), ("_law_word", .ref 134), ("_law_end", .ref 124), ("int_divmod", .ref 77), ("len", .builtin "len"), ("_levenshtein_distance", .ref 98), ("_parse_varint", .ref 84), ("StopIteration", .type "StopIteration")] where
  nd := by decide +kernel
  kl := by decide +kernel
  kg := by
    intro p hp
    (repeat (rcases List.mem_cons.mp hp with rfl | hp; exact ⟨rfl, gval_of ok rfl, rfl⟩))
    exact nomatch hp
  kind := rfl
  co := rfl
  ge := rfl
  cell := by decide +kernel
  kc := by decide +kernel
  ndf := by decide +kernel

end Mine

namespace Mine
local macro_rules | `(tactic| walk_at "bl") => `(tactic| with_reducible first
  | exact blK 1000 (by assumption) | exact blE 13 (by assumption) | exact blE 6 (by assumption) | exact blK 13 (by assumption) | exact blK 63 (by assumption) | exact blK 40 (by assumption) | exact blK 100 (by assumption) | exact blK 6 (by assumption) | exact blK 2000 (by assumption) | exact blK 100000 (by assumption) | exact blE 5 (by assumption) | exact blK 27 (by assumption)
  | exact bl_nil
  | (apply bl_take; walk_at "bl")
  | (apply bl_drop; walk_at "bl")
  | (apply bl_cons; walk_at "bl")
  | (apply bl_rev; walk_at "bl")
  | (apply bl_map; walk_at "bl")
  | (apply bl_set; walk_at "bl")
  | (refine' bl_app ?bl1 ?bl2; (case bl1 => walk_at "bl"); (case bl2 => walk_at "bl"))
  | fail)
local macro_rules | `(tactic| walk_at "num") => `(tactic| first
  | with_reducible assumption
  | with_reducible exact Int.natCast_nonneg _
  | with_reducible exact nn1 _
  | ((with_reducible refine' nl_line ?nlh ?nlk); (case nlh => walk_at "bl"); (case nlk => exact rfl))
  | ((with_reducible refine' nl_63 ?nlh ?nlk); (case nlh => walk_at "bl"); (case nlk => exact rfl))
  | ((with_reducible refine' nl_i63 ?nlh ?nlk); (case nlh => walk_at "bl"); (case nlk => exact rfl))
  | ((with_reducible refine' nl_add ?nlh ?nl2 ?nlk); (case nlh => walk_at "bl"); (case nl2 => walk_at "bl"); (case nlk => exact rfl))
  | with_reducible exact nl_j63 (k := 13) (by assumption) rfl
  | with_reducible exact Int.ofNat_lt.mpr (by assumption)
  | exact Nat.le_of_ble_eq_true rfl
  | omega
  | (simp only [List.length_append, List.length_cons, List.length_nil, List.length_map, List.length_set, List.length_replicate, List.length_reverse, List.length_drop, List.length_take, sizeLine_eq]; omega)
  | decide
  | fail)
local macro_rules | `(tactic| walk_at "mem") => `(tactic| with_reducible first | exact m0 | exact m1 | exact m2 | exact m3 | exact m4 | exact m5 | exact m6 | exact m7 | exact m8 | exact m9 | exact m10 | exact m11 | (apply ms; walk_at "mem"))
local macro_rules | `(tactic| walk_at "lk") => `(tactic| with_reducible first | exact lk0 | exact lk1 | exact lk2 | exact lk3 | exact lk4 | exact lk5 | exact lk6 | exact lk7 | exact lk8 | exact lk9 | exact lk10 | exact lk11 | (apply lks; walk_at "lk"))
local macro_rules | `(tactic| walk_at "sk") => `(tactic| with_reducible first | exact sk0 | exact sk1 | exact sk2 | exact sk3 | exact sk4 | exact sk5 | exact sk6 | exact sk7 | exact sk8 | exact sk9 | exact sk10 | exact sk11 | (apply sks; walk_at "sk"))
local macro_rules | `(tactic| walk_at "ch") => `(tactic| with_reducible first | exact ch0 | exact ch1 | exact ch2 | exact ch3 | exact ch4 | exact ch5 | exact ch6 | exact ch7 | exact ch8 | exact ch9 | exact ch10 | exact ch11 | (apply chs; walk_at "ch"))
local macro_rules | `(tactic| walk_at "asm") => `(tactic| with_reducible assumption)
local macro_rules | `(tactic| walk_at "at") => `(tactic| first
  | with_reducible assumption
  | ((with_reducible refine' In.at ?atH ?atM); (case atH => with_reducible assumption); (case atM => walk_at "mem"))
  | ((with_reducible refine' In.of0 ?atH ?atB); (case atH => with_reducible assumption); (case atB => with_reducible assumption))
  | fail)
local macro_rules | `(tactic| walk_at "il") => `(tactic| first
  | ((with_reducible refine' At.il ?ilA); (case ilA => walk_at "at"))
  | ((with_reducible refine' At.ilW ?ilA); (case ilA => walk_at "at"))
  | with_reducible assumption
  | fail)
local macro_rules | `(tactic| walk_at "hp") => `(tactic| first | with_reducible assumption | ((with_reducible refine' In.hp ?hpH); (case hpH => with_reducible assumption)) | fail)
local macro_rules | `(tactic| walk_at "fnat") => `(tactic| ((with_reducible refine' fnAt_K ?fnO ?fnH ?fnE); (case fnO => walk_at "asm"); (case fnH => walk_at "hp"); (case fnE => exact rfl)))
local macro_rules | `(tactic| walk_at "s") => `(tactic| first
  | with_reducible refine kx_next ?_
  | with_reducible refine kx_ret ?_
  | with_reducible refine rq_ret ?_
  | with_reducible refine x_cons ?_
  | with_reducible refine x_nil ?_
  | ((with_reducible refine' r_local ?a ?b ?c ?_); (case a => walk_at "asm"); (case b => walk_at "at"); (case c => walk_at "lk"))
  | ((with_reducible refine' r_glob ?a ?b ?c ?d ?_); (case a => walk_at "asm"); (case b => walk_at "asm"); (case c => walk_at "hp"); (case d => walk_at "mem"))
  | ((with_reducible refine' r_cell ?a ?b ?c ?_); (case a => walk_at "asm"); (case b => walk_at "mem"); (case c => walk_at "at"))
  | with_reducible refine r_int ?_
  | with_reducible refine r_str ?_
  | with_reducible refine r_bool ?_
  | with_reducible refine r_none ?_
  | with_reducible refine e_bin ?_
  | with_reducible refine e_un ?_
  | ((with_reducible refine' e_cmp ?_ ?b); (case b => with_unfolding_all rfl))
  | with_reducible refine e_sub ?_
  | with_reducible refine e_call ?_
  | with_reducible refine e_if ?_
  | with_reducible refine x_ret ?_
  | with_reducible refine x_ret0 ?_
  | with_reducible refine x_if ?_
  | ((with_reducible refine' x_asg ?_ ?b); (case b => rfl))
  | ((with_reducible refine' x_asgS ?_ ?b); (case b => rfl))
  | with_reducible refine x_aug ?_
  | ((with_reducible refine' x_expr ?a ?_ ?b); (case a => walk_at "asm"); (case b => rfl))
  | ((with_reducible refine' i_cmp ?_ ?b); (case b => with_unfolding_all rfl))
  | with_reducible refine i_not ?_
  | ((with_reducible refine' i_plain ?_ ?b); (case b => rfl))
  | ((with_reducible refine' st_local ?a ?b ?c ?d ?e ?_); (case a => walk_at "asm"); (case b => walk_at "asm"); (case c => walk_at "asm"); (case e => walk_at "ch"); (case d => walk_at "sk"); intro _ _ _)
  | ((with_reducible refine' ld_local ?a ?b ?c ?_); (case a => walk_at "asm"); (case b => walk_at "at"); (case c => walk_at "lk"))
  | with_reducible refine r_add ?_
  | with_reducible refine r_sub ?_
  | with_reducible refine r_iadd ?_
  | with_reducible refine r_isub ?_
  | with_reducible refine r_neg ?_
  | with_reducible refine r_lt ?_
  | with_reducible refine r_le ?_
  | with_reducible refine r_gt ?_
  | with_reducible refine r_ge ?_
  | with_reducible refine r_eq ?_
  | with_reducible refine r_ne ?_
  | with_reducible refine t_bool ?_
  | with_reducible refine t_int ?_
  | ((with_reducible refine' sp_cons ?_ ?b); (case b => rfl))
  | with_reducible refine sp_nil ?_
  | ((with_reducible refine' cw_fn ?a ?_ ?b ?c); (case a => walk_at "fnat"); (case b => rfl); (case c => rfl))
  | ((with_reducible refine' cw_blt ?_ ?b ?c); (case b => rfl); (case c => rfl))
  | ((with_reducible refine' And.intro ?a ?_); (case a => walk_at "fnat"))
  | ((with_reducible refine' len_il ?a ?b ?_); (case a => walk_at "il"); (case b => walk_at "num"))
  | ((with_reducible refine' truthy_il ?a ?b ?_); (case a => walk_at "il"); (case b => walk_at "num"))
  | ((with_reducible refine' append_il ?a ?b ?c ?d ?_); (case a => walk_at "asm"); (case b => walk_at "asm"); (case c => walk_at "ch"); (case d => walk_at "num"); intro _ _)
  | ((with_reducible refine' l_new ?a ?b ?c ?_); (case a => walk_at "asm"); (case b => walk_at "asm"); (case c => walk_at "num"); intro _ _ _)
  | with_reducible refine br_t ?_
  | with_reducible refine br_f ?_
  | ((with_reducible refine br_dec ?_ ?_) <;> intro _ <;> (try (exfalso; omega)))
  | ((with_reducible refine br_beq ?_ ?_) <;> intro _ <;> (try (exfalso; omega)))
  | ((with_reducible refine br_bne ?_ ?_) <;> intro _ <;> (try (exfalso; omega)))
  | with_reducible refine br_not ?_
  | with_reducible refine r_list ?_
  | with_reducible refine r_tuple ?_
  | fail)

local macro_rules | `(tactic| walk_at "fnat") => `(tactic| first
  | ((with_reducible refine' fnAt_K ?fnO ?fnH ?fnE); (case fnO => walk_at "asm"); (case fnH => walk_at "hp"); (case fnE => exact rfl))
  | ((with_reducible refine' At.fnAt ?fnA); (case fnA => walk_at "at"))
  | fail)
local macro_rules | `(tactic| walk_at "s") => `(tactic| first
  | ((with_reducible refine' st_cell ?a ?b ?c ?d ?e ?f ?_); (case a => walk_at "asm"); (case b => walk_at "asm"); (case c => walk_at "asm"); (case d => walk_at "mem"); (case e => (with_reducible apply_assumption; walk_at "mem")); (case f => walk_at "ch"); intro _ _ _)
  | ((with_reducible refine' r_shr ?a ?_); (case a => walk_at "num"))
  | fail)
local macro_rules | `(tactic| walk_at "nd") => `(tactic| (simp only [List.map_cons, List.map_nil]; decide +kernel))
local macro_rules | `(tactic| walk_at "all") => `(tactic| first
  | exact List.forall_mem_nil _
  | ((with_reducible refine' List.forall_mem_cons.mpr (And.intro ?al1 ?al2)); (case al1 => first | (dsimp only; walk_at "mem") | exact Or.inl (by dsimp only; walk_at "mem") | exact Or.inr (by dsimp only; walk_at "mem") | exact ⟨by dsimp only; walk_at "mem", by first | assumption | rfl⟩); (case al2 => walk_at "all"))
  | fail)
local macro_rules | `(tactic| walk_at "bd") => `(tactic| first
  | with_reducible exact Bd.nil
  | ((with_reducible refine' Bd.hit ?bd1 ?bd2); (case bd1 => walk_at "mem"); (case bd2 => walk_at "bd"))
  | ((with_reducible refine' Bd.miss ?bd2); (case bd2 => walk_at "bd"))
  | fail)
local macro_rules | `(tactic| walk_at "mut") => `(tactic| first
  | exact List.forall_mem_nil _
  | ((with_reducible refine' List.forall_mem_cons.mpr (And.intro ?mu1 ?mu2)); (case mu1 => first | exact PLoc.mut | exact PCell.mut | exact PList.mut | exact PInts.mut | exact PIntsW.mut | exact PIter.mut | exact PFn.mut); (case mu2 => walk_at "mut"))
  | fail)
local macro_rules | `(tactic| walk_at "has") => `(tactic| first
  | exact List.forall_mem_nil _
  | ((with_reducible refine' List.forall_mem_cons.mpr (And.intro ?ha1 ?ha2)); (case ha1 => exact ⟨_, by walk_at "mem"⟩); (case ha2 => walk_at "has"))
  | fail)
local macro_rules | `(tactic| walk_at "ints") => `(tactic| first
  | with_reducible exact IntsAre.nil
  | ((with_reducible refine' IntsAre.cons _ _ ?in1); (case in1 => walk_at "ints"))
  | fail)
local macro_rules | `(tactic| walk_at "s") => `(tactic| first
  | with_reducible refine bl_meth ?_
  | ((with_reducible refine' cw_blt ?_ ?b ?c); (case b => rfl); (case c => rfl))
  | with_reducible refine bl_call ?_
  | ((with_reducible refine' l_newI ?a ?b ?i ?z ?_); (case a => walk_at "asm"); (case b => walk_at "asm"); (case i => walk_at "ints"); (case z => walk_at "num"); intro _ _ _)
  | ((with_reducible refine' meth_append ?a ?b ?_); (case a => walk_at "at"); (case b => first | exact PInts.cls | exact PList.cls))
  | fail)
local macro_rules | `(tactic| walk_at "at") => `(tactic| first
  | with_reducible assumption
  | ((with_reducible refine' In.at ?atH ?atM); (case atH => with_reducible assumption); (case atM => walk_at "mem"))
  | ((with_reducible refine' In.of0 ?atH ?atB); (case atH => with_reducible assumption); (case atB => with_reducible assumption))
  | ((with_reducible refine' In.of ?atH ?atB ?atX); (case atH => with_reducible assumption); (case atB => with_reducible assumption); (case atX => with_reducible assumption))
  | fail)
local macro_rules | `(tactic| walk_at "s") => `(tactic| first
  | with_reducible refine rq_next ?_
  | ((with_reducible refine' setItem_il ?a ?b ?c ?ww ?m ?d ?e ?f ?_); (case a => walk_at "asm"); (case b => walk_at "asm"); (case c => walk_at "ch"); (case ww => first | exact fun _ p => p | exact PInts.w); (case m => first | exact PIntsW.mut | exact PInts.mut); (case d => walk_at "num"); (case e => walk_at "num"); (case f => walk_at "num"); intro _ _)
  | fail)
local macro_rules | `(tactic| walk_at "mut") => `(tactic| first
  | exact List.forall_mem_nil _
  | ((with_reducible refine' List.forall_mem_cons.mpr (And.intro ?mu1 ?mu2)); (case mu1 => walk_at "mut1"); (case mu2 => walk_at "mut"))
  | fail)
local macro_rules | `(tactic| walk_at "mut1") => `(tactic| first | exact PLoc.mut | exact PCell.mut | exact PList.mut | exact PInts.mut | exact PIntsW.mut | exact PIter.mut | exact PFn.mut | fail)

local macro_rules | `(tactic| walk_at "s") => `(tactic| first
  | ((with_reducible refine' x_asgT ?_ ?a ?b); (case a => rfl); (case b => rfl))
  | with_reducible refine as_name ?_
  | ((with_reducible refine' as_two2 ?a ?hh ?b ?m ?t ?_); (case a => walk_at "asm"); (case hh => exact Rm.hh (by assumption)); (case b => walk_at "asm"); (case t => walk_at "at"); (case m => walk_at "mem"); intro _ _ _ _)
  | ((with_reducible refine' t_new ?a ?b ?z ?_); (case a => walk_at "asm"); (case b => walk_at "asm"); (case z => walk_at "num"); intro _ _ _)
  | ((with_reducible refine' e_bin ?_))
  | fail)
local macro_rules | `(tactic| walk_at "s") => `(tactic| first
  | ((with_reducible refine' cw_type ?_ ?b ?c); (case b => rfl); (case c => rfl))
  | ((with_reducible refine' rvd_n ?a ?b ?x ?_); (case a => walk_at "asm"); (case b => walk_at "asm"); (case x => walk_at "il"); intro _ _ _)
  | ((with_reducible refine' x_for ?_ ?b); (case b => intro _; rfl))
  | fail)
local macro_rules | `(tactic| walk_at "cls") => `(tactic| first | exact PInts.cls | exact PList.cls | fail)
local macro_rules | `(tactic| walk_at "s") => `(tactic| first
  | ((with_reducible refine' meth_reverse ?a ?b ?_); (case a => walk_at "at"); (case b => walk_at "cls"))
  | ((with_reducible refine' meth_index ?a ?b ?_); (case a => walk_at "at"); (case b => walk_at "cls"))
  | ((with_reducible refine' meth_extend ?a ?b ?_); (case a => walk_at "at"); (case b => walk_at "cls"))
  | ((with_reducible refine' ext_m ?a ?_ ?b); (case a => walk_at "asm"); (case b => rfl))
  | ((with_reducible refine' rev_m ?a ?b ?ch ?z ?_); (case a => walk_at "asm"); (case b => walk_at "asm"); (case ch => walk_at "ch"); (case z => walk_at "num"); intro _ _)
  | ((with_reducible refine' extK ?a ?b ?ch ?z ?_); (case a => walk_at "asm"); (case b => walk_at "at"); (case ch => walk_at "ch"); (case z => walk_at "num"); intro _ _)
  | fail)
local macro_rules | `(tactic| walk_at "s") => `(tactic| first
  | ((with_reducible refine' e_methK ?_ ?b); (case b => rfl))
  | with_reducible refine methK ?_
  | ((with_reducible refine' rev_m ?a ?b ?ch ?z ?_); (case a => walk_at "asm"); (case b => walk_at "asm"); (case ch => walk_at "ch"); (case z => walk_at "num"); intro _ _)
  | ((with_reducible refine' ext_m ?a ?_ ?b); (case a => walk_at "asm"); (case b => rfl))
  | with_reducible refine cw_meth0 ?_
  | ((with_reducible refine' cw_m1 ?_ ?b ?c); (case b => rfl); (case c => rfl))
  | fail)
local macro_rules | `(tactic| walk_at "s") => `(tactic| first
  | with_reducible refine r_inv ?_
  | fail)
local macro_rules | `(tactic| walk_at "s") => `(tactic| first
  | ((with_reducible refine' nx_il ?a ?b ?ch ?x ?hx ?_); (case a => walk_at "asm"); (case b => walk_at "asm"); (case ch => walk_at "ch"); (case x => walk_at "il"); (case hx => with_reducible assumption); intro _ _ _)
  | with_reducible refine r_and ?_
  | with_reducible refine r_ior ?_
  | fail)
local macro_rules | `(tactic| walk_at "s") => `(tactic| first
  | ((with_reducible refine' r_fdiv ?hb ?hp ?_); (case hb => decide); (case hp => exact noPy (by decide)))
  | ((with_reducible refine' r_mod ?hb ?_); (case hb => decide))
  | ((with_reducible refine' add_il ?a ?b ?x ?y ?z ?_); (case a => walk_at "asm"); (case b => walk_at "asm"); (case x => walk_at "at"); (case y => walk_at "at"); (case z => walk_at "num"); intro _ _ _)
  | with_reducible refine e_slice ?_
  | with_reducible refine ep_none ?_
  | with_reducible refine ep_some ?_
  | ((with_reducible refine' n_slice ?a ?b ?_); (case a => walk_at "asm"); (case b => walk_at "asm"); intro _ _ _)
  | fail)
local macro_rules | `(tactic| walk_at "how") => `(tactic| first | exact Or.inl rfl | exact Or.inr rfl | fail)
local macro_rules | `(tactic| walk_at "s") => `(tactic| first
  | ((with_reducible refine' pit_ilC ?a ?b ?x ?_); (case a => walk_at "asm"); (case b => walk_at "asm"); (case x => walk_at "il"); intro _ _ _)
  | ((with_reducible refine' sl_rev ?a ?b ?x ?y ?z ?_ ?hw); (case a => walk_at "asm"); (case b => walk_at "asm"); (case x => walk_at "il"); (case y => walk_at "at"); (case z => walk_at "num"); (case hw => walk_at "how"); intro _ _ _)
  | ((with_reducible refine' sl_upto ?a ?b ?x ?y ?u ?z ?_ ?hw); (case a => walk_at "asm"); (case b => walk_at "asm"); (case x => walk_at "il"); (case y => walk_at "at"); (case u => walk_at "num"); (case z => walk_at "num"); (case hw => walk_at "how"); intro _ _ _)
  | ((with_reducible refine' sl_from ?a ?b ?x ?y ?u ?z ?_ ?hw); (case a => walk_at "asm"); (case b => walk_at "asm"); (case x => walk_at "il"); (case y => walk_at "at"); (case u => walk_at "num"); (case z => walk_at "num"); (case hw => walk_at "how"); intro _ _ _)
  | ((with_reducible refine' sl_run ?a ?b ?x ?y ?u ?u2 ?u3 ?z ?_ ?hw); (case a => walk_at "asm"); (case b => walk_at "asm"); (case x => walk_at "il"); (case y => walk_at "at"); (case u => walk_at "num"); (case u2 => walk_at "num"); (case u3 => walk_at "num"); (case z => walk_at "num"); (case hw => walk_at "how"); intro _ _ _)
  | fail)
local macro_rules | `(tactic| walk_at "cs") => `(tactic| exact ⟨by decide +kernel, by decide +kernel, by decide +kernel, by decide +kernel, by decide +kernel, by decide +kernel, by decide +kernel, rfl⟩)
local macro_rules | `(tactic| walk_at "gs") => `(tactic| first
  | exact List.forall_mem_nil _
  | ((with_reducible refine' List.forall_mem_cons.mpr (And.intro ?gs1 ?gs2)); (case gs1 => exact ⟨by dsimp only; walk_at "mem", gval_of (by assumption) rfl⟩); (case gs2 => walk_at "gs"))
  | fail)
local macro_rules | `(tactic| walk_at "s") => `(tactic| first
  | with_reducible refine tests_nil ?_
  | with_reducible refine tests_one ?_
  | fail)
local macro_rules | `(tactic| walk_at "s") => `(tactic| first
  | ((with_reducible refine' i_chain ?_ ?a); (case a => with_unfolding_all rfl))
  | fail)
local macro_rules | `(tactic| walk_at "all2") => `(tactic| first
  | exact List.forall_mem_nil _
  | ((with_reducible refine' List.forall_mem_cons.mpr (And.intro ?al1 ?al2)); (case al1 => exact ⟨by dsimp only; walk_at "mem", by walk_at "mem"⟩); (case al2 => walk_at "all2"))
  | fail)
local macro_rules | `(tactic| walk_at "s") => `(tactic| first
  | ((with_reducible refine' sub_ilT ?a ?b ?c ?d ?_ ?e); (case a => walk_at "il"); (case b => walk_at "num"); (case c => walk_at "num"); (case d => walk_at "num"); (case e => with_unfolding_all rfl); intro _)
  | ((with_reducible refine' sub_ilN ?a ?b ?c ?d ?_ ?e); (case a => walk_at "il"); (case b => walk_at "num"); (case c => walk_at "num"); (case d => walk_at "num"); (case e => with_unfolding_all rfl); intro _)
  | fail)
local macro_rules | `(tactic| walk_at "hh") => `(tactic| exact Rm.hh (by assumption))
local macro_rules | `(tactic| walk_at "s") => `(tactic| first
  | ((with_reducible refine' r_min2 ?a ?hh ?b ?_); (case a => walk_at "asm"); (case hh => walk_at "hh"); (case b => walk_at "asm"); intro _ _ _ _)
  | ((with_reducible refine' r_max2 ?a ?hh ?b ?_); (case a => walk_at "asm"); (case hh => walk_at "hh"); (case b => walk_at "asm"); intro _ _ _ _)
  | ((with_reducible refine' eq_il ?a ?b ?u ?_); (case a => walk_at "il"); (case b => walk_at "il"); (case u => exact Rm.line64 (by assumption) (by omega)))
  | ((with_reducible refine' ne_il ?a ?b ?u ?_); (case a => walk_at "il"); (case b => walk_at "il"); (case u => exact Rm.line64 (by assumption) (by omega)))
  | fail)
local macro_rules | `(tactic| walk_at "s") => `(tactic| first
  | ((with_reducible refine br_decI ?_ ?_) <;> intro _ <;> (try (exfalso; omega)))
  | fail)
local macro_rules | `(tactic| walk_at "s") => `(tactic| first
  | with_reducible refine s_eq ?_
  | ((with_reducible refine' s_truthy ?a ?_); (case a => walk_at "num"))
  | ((with_reducible refine' s_len ?a ?_); (case a => walk_at "num"))
  | ((with_reducible refine' s_from ?a ?b ?y ?u ?z ?_ ?hw); (case a => walk_at "asm"); (case b => walk_at "asm"); (case y => walk_at "at"); (case u => walk_at "num"); (case z => walk_at "num"); (case hw => walk_at "how"); intro _ _)
  | ((with_reducible refine' s_to ?a ?b ?y ?u ?u2 ?z ?_ ?hw); (case a => walk_at "asm"); (case b => walk_at "asm"); (case y => walk_at "at"); (case u => walk_at "num"); (case u2 => walk_at "num"); (case z => walk_at "num"); (case hw => walk_at "how"); intro _ _)
  | ((with_reducible refine' s_all ?a ?b ?y ?z ?_ ?hw); (case a => walk_at "asm"); (case b => walk_at "asm"); (case y => walk_at "at"); (case z => walk_at "num"); (case hw => walk_at "how"); intro _ _)
  | with_reducible refine meth_lower ?_
  | with_reducible refine meth_join ?_
  | with_reducible refine i_and ?_
  | with_reducible refine i_and0 ?_
  | with_reducible refine i_or ?_
  | with_reducible refine i_or0 ?_
  | with_reducible refine e_or ?_
  | with_reducible refine e_bo1 ?_
  | fail)
local macro_rules | `(tactic| walk_at "s") => `(tactic| first
  | ((with_reducible refine' x_asg2 ?_ ?a); (case a => rfl))
  | ((with_reducible refine' rg_new1 ?a ?b ?_); (case a => walk_at "asm"); (case b => walk_at "asm"); intro _ _ _ _)
  | ((with_reducible refine' rg_new3 ?a ?b ?s ?p ?_); (case a => walk_at "asm"); (case b => walk_at "asm"); (case s => decide); (case p => exact noPy (by decide)); intro _ _ _)
  | fail)
local macro_rules | `(tactic| walk_at "s") => `(tactic| first
  | ((with_reducible refine' x_asgC ?a ?_); (case a => (with_reducible apply_assumption; walk_at "mem")))
  | fail)
local macro_rules | `(tactic| walk_at "s") => `(tactic| first
  | ((with_reducible refine' en_newI ?a ?b ?x ?_); (case a => walk_at "asm"); (case b => walk_at "asm"); (case x => walk_at "il"); intro _ _ _ _)
  | ((with_reducible refine' pit_enC ?a ?_); (case a => walk_at "asm"))
  | ((with_reducible refine' sum_il ?a ?hh ?b ?m ?x ?_); (case a => walk_at "asm"); (case hh => walk_at "hh"); (case b => walk_at "asm"); (case x => walk_at "il"); (case m => walk_at "mem"); intro _ _ _ _)
  | ((with_reducible refine' sl_pick ?a ?b ?x ?y ?u ?z ?_ ?hw); (case a => walk_at "asm"); (case b => walk_at "asm"); (case x => walk_at "il"); (case y => walk_at "at"); (case u => decide); (case z => walk_at "num"); (case hw => walk_at "how"); intro _ _ _)
  | fail)

section
variable {w : World} {B : Heap} {mg mb : Str → Option Value}
theorem sp_ISTERMINAL (ok : (CC w B mg mb).Ok) (x : Int) (t : Tok) : Spec (CC w B mg mb) 21 1 3 [.int x t] [] (fun _ => True) (RBool (decide (x < 256))) := by
  intro A c h tk Q E r H _ hk
  refine call_plain (d := 0) (u := 0) (binds := [("x", .int x t)]) (extra := []) (vs := [some (.int x t)]) ok fn_ISTERMINAL (nm_ISTERMINAL ok) r H (by intros; with_unfolding_all rfl) rfl rfl fun env L h₁ tk₁ V hL r' H' => ?_
  change wpAny _ _ (execs (_ :: _) _) (RetQ Q) _ _
  repeat' walk_at "s"
  exact hk _ _ _ H'.kp rfl
theorem sp_ISNONTERMINAL (ok : (CC w B mg mb).Ok) (x : Int) (t : Tok) : Spec (CC w B mg mb) 28 1 3 [.int x t] [] (fun _ => True) (RBool (decide (256 ≤ x))) := by
  intro A c h tk Q E r H _ hk
  refine call_plain (d := 0) (u := 0) (binds := [("x", .int x t)]) (extra := []) (vs := [some (.int x t)]) ok fn_ISNONTERMINAL (nm_ISNONTERMINAL ok) r H (by intros; with_unfolding_all rfl) rfl rfl fun env L h₁ tk₁ V hL r' H' => ?_
  change wpAny _ _ (execs (_ :: _) _) (RetQ Q) _ _
  repeat' walk_at "s"
  exact hk _ _ _ H'.kp rfl
theorem sp_ISEOF (ok : (CC w B mg mb).Ok) (x : Int) (t : Tok) : Spec (CC w B mg mb) 35 1 3 [.int x t] [] (fun _ => True) (RBool (x == 0)) := by
  intro A c h tk Q E r H _ hk
  refine call_plain (d := 0) (u := 0) (binds := [("x", .int x t)]) (extra := []) (vs := [some (.int x t)]) ok fn_ISEOF (nm_ISEOF ok) r H (by intros; with_unfolding_all rfl) rfl rfl fun env L h₁ tk₁ V hL r' H' => ?_
  change wpAny _ _ (execs (_ :: _) _) (RetQ Q) _ _
  repeat' walk_at "s"
  exact hk _ _ _ H'.kp rfl

local macro_rules | `(tactic| walk_at "s") => `(tactic| first
  | ((with_reducible refine' sp_bool (sp_ISNONTERMINAL ?ok _ _) ?r ?d ?u ?H ?p ?_); (case ok => walk_at "asm"); (case r => walk_at "asm"); (case d => decide); (case u => decide); (case H => walk_at "asm"); (case p => exact trivial); intro _ _ _)
  | ((with_reducible refine' sp_bool (sp_ISTERMINAL ?ok _ _) ?r ?d ?u ?H ?p ?_); (case ok => walk_at "asm"); (case r => walk_at "asm"); (case d => decide); (case u => decide); (case H => walk_at "asm"); (case p => exact trivial); intro _ _ _)
  | ((with_reducible refine' sp_bool (sp_ISEOF ?ok _ _) ?r ?d ?u ?H ?p ?_); (case ok => walk_at "asm"); (case r => walk_at "asm"); (case d => decide); (case u => decide); (case H => walk_at "asm"); (case p => exact trivial); intro _ _ _))
def scanEnd : List Int → Nat → Option Nat
  | _, 0 => some 0
  | [], _ + 1 => none
  | x :: r, k + 1 => (scanEnd r (if 256 ≤ x then k + 2 else k)).map (· + 1)
theorem scanEnd_step {ns : List Int} {q a m : Nat} (h : scanEnd (ns.drop q) (a + 1) = some m) : q < ns.length ∧ ∃ m', m = m' + 1 ∧ scanEnd (ns.drop (q + 1)) (if 256 ≤ ns.getD q 0 then a + 2 else a) = some m' := by
  by_cases hq : q < ns.length
  · rw [List.drop_eq_getElem_cons hq, scanEnd] at h
    obtain ⟨m', e, rfl⟩ := Option.map_eq_some_iff.mp h
    refine ⟨hq, m', rfl, ?_⟩
    rw [List.getD_eq_getElem?_getD, List.getElem?_eq_getElem hq, Option.getD_some]
    exact e
  · rw [List.drop_eq_nil_of_le (by omega)] at h; cases h

theorem sp_law_end (ok : (CC w B mg mb).Ok) (l : Addr) (ns : List Int) (p m : Nat) (t : Tok) (hs : scanEnd (ns.drop p) 1 = some m) (hz : ns.length ≤ 1000) :
    Spec (CC w B mg mb) 124 3 12 [.ref l, .int p t] [] (fun h => At (CC w B mg mb) h l (PInts ns)) (RInt ((p + m : Nat) : Int)) := by
  intro A c h tk Q E r H ha hk
  refine call_plain (d := 2) (u := 9) (binds := [("row", .ref l), ("place", .int p t)]) (extra := ["awaited"]) (vs := [some (.ref l), some (.int p t), none]) ok fn_law_end (nm_law_end ok) r H (by intros; with_unfolding_all rfl) rfl rfl fun env L h₁ tk₁ V hL r' H' => ?_
  change wpAny _ _ (execs (_ :: _) _) (RetQ Q) _ _
  repeat' walk_at "s"
  rename In _ _ _ _ _ => H1
  refine x_while (σ := Int × Int × Tok × Tok) (fun st => [(L, PLoc ["row", "place", "awaited"] [some (.ref l), some (.int st.2.1 st.2.2.1), some (.int st.1 st.2.2.2)])]) (fun st => 0 ≤ st.1 ∧ 0 ≤ st.2.1 ∧ scanEnd (ns.drop st.2.1.toNat) st.1.toNat = some (p + m - st.2.1.toNat) ∧ st.2.1.toNat ≤ p + m)
    (fun st => p + m - st.2.1.toNat) (1, p, _, _) H1 ⟨by simp, by simp, by simpa using hs, by simp⟩ ?_
  rintro ⟨a, q, t1, t2⟩ h2 tk2 H2 ⟨ha2, hq2, hs2, hq3⟩
  dsimp only at *
  by_cases h0 : 0 < a
  · have e1 : a.toNat = (a.toNat - 1) + 1 := by omega
    rw [e1] at hs2
    obtain ⟨k1, m', k2, k3⟩ := scanEnd_step hs2
    repeat' walk_at "s"
    · rename (256 : Int) ≤ _ => hc
      rename In _ _ _ _ _ => H3
      rw [if_pos hc] at k3
      refine lw_next (a + 1, q + 1, _, _) H3 ⟨by dsimp only; omega, by dsimp only; omega, ?_, by dsimp only; omega⟩ (by dsimp only; omega)
      dsimp only
      rw [show (q + 1).toNat = q.toNat + 1 by omega, show (a + 1).toNat = a.toNat - 1 + 2 by omega, k3]
      congr 1; omega
    · rename ¬ (256 : Int) ≤ _ => hc
      rename In _ _ _ _ _ => H3
      rw [if_neg hc] at k3
      refine lw_next (a + -1, q + 1, _, _) H3 ⟨by dsimp only; omega, by dsimp only; omega, ?_, by dsimp only; omega⟩ (by dsimp only; omega)
      dsimp only
      rw [show (q + 1).toNat = q.toNat + 1 by omega, show (a + -1).toNat = a.toNat - 1 by omega, k3]
      congr 1; omega
  · repeat' walk_at "s"
    have e1 : a.toNat = 0 := by omega
    rw [e1, scanEnd] at hs2
    have e2 := Option.some.inj hs2
    have e3 : q = ((p + m : Nat) : Int) := by omega
    rw [e3]
    exact hk _ _ _ (In.kp (by assumption)) ⟨_, rfl⟩
end
local macro_rules | `(tactic| walk_at "s") => `(tactic| first
  | ((with_reducible refine' sp_bool (sp_ISNONTERMINAL ?ok _ _) ?r ?d ?u ?H ?p ?_); (case ok => walk_at "asm"); (case r => walk_at "asm"); (case d => walk_at "num"); (case u => walk_at "num"); (case H => walk_at "asm"); (case p => exact trivial); intro _ _ _)
  | ((with_reducible refine' sp_bool (sp_ISTERMINAL ?ok _ _) ?r ?d ?u ?H ?p ?_); (case ok => walk_at "asm"); (case r => walk_at "asm"); (case d => walk_at "num"); (case u => walk_at "num"); (case H => walk_at "asm"); (case p => exact trivial); intro _ _ _)
  | ((with_reducible refine' sp_bool (sp_ISEOF ?ok _ _) ?r ?d ?u ?H ?p ?_); (case ok => walk_at "asm"); (case r => walk_at "asm"); (case d => walk_at "num"); (case u => walk_at "num"); (case H => walk_at "asm"); (case p => exact trivial); intro _ _ _)
  | fail)

section
variable {w : World} {B : Heap} {mg mb : Str → Option Value}
def inB (i j : Nat) : List Stmt := match (bodyAt i)[j]? with
  | some (.FunctionDef _ _ b _ _ _ _ _ _ _) => b
  | _ => []
def inP (i j : Nat) : Arguments := match (bodyAt i)[j]? with
  | some (.FunctionDef _ a _ _ _ _ _ _ _ _) => a
  | _ => ⟨[], [], none, [], [], none, []⟩
def inS (i j : Nat) : Scope := match (bodyAt i)[j]? with
  | some (.FunctionDef _ _ _ _ _ _ s _ _ _) => s
  | _ => default
theorem cs_d2i : Cs (inS 11 0) ["L", "R", "mid", "shift"] ["digits", "n", "inner"] [] [] where
  nd := by decide +kernel
  kl := by decide +kernel
  kf := by decide +kernel
  ko := by decide +kernel
  kg := by decide +kernel
  hf := by decide +kernel
  hn := by decide +kernel
  kind := rfl

def dval (k : Nat) : List Int → Int
  | [] => 0
  | d :: r => d + dval k r * 2 ^ k
theorem dval_append (k : Nat) : ∀ (xs ys : List Int), dval k (xs ++ ys) = dval k xs + dval k ys * 2 ^ (k * xs.length)
  | [], ys => by simp [dval]
  | x :: xs, ys => by
    have e : (2 : Int) ^ (k * (xs.length + 1)) = 2 ^ (k * xs.length) * 2 ^ k := by rw [← Int.pow_add]; congr 1
    simp only [List.cons_append, dval, dval_append k xs ys, List.length_cons, e]
    rw [Int.add_mul, Int.mul_assoc]; omega
theorem dval_bound (k : Nat) : ∀ (xs : List Int), (∀ d ∈ xs, 0 ≤ d ∧ d < 2 ^ k) → 0 ≤ dval k xs ∧ dval k xs < 2 ^ (k * xs.length)
  | [], _ => by simp [dval]
  | x :: xs, h => by
    obtain ⟨a, b⟩ := dval_bound k xs fun d hd => h d (List.mem_cons_of_mem _ hd)
    obtain ⟨a1, b1⟩ := h x List.mem_cons_self
    have e : (2 : Int) ^ (k * (xs.length + 1)) = 2 ^ (k * xs.length) * 2 ^ k := by rw [← Int.pow_add]; congr 1
    have p : (0 : Int) < 2 ^ k := Int.pow_pos (by decide)
    simp only [dval, List.length_cons, e]
    refine ⟨by have := Int.mul_nonneg a (Int.le_of_lt p); omega, ?_⟩
    have : (dval k xs + 1) * 2 ^ k ≤ 2 ^ (k * xs.length) * 2 ^ k := Int.mul_le_mul_of_nonneg_right (by omega) (Int.le_of_lt p)
    rw [Int.add_mul] at this
    omega
def seg (ns : List Int) (p q : Nat) : List Int := (ns.drop p).take (q - p)
theorem seg_one {ns : List Int} {p : Nat} (h : p < ns.length) : seg ns p (p + 1) = [ns.getD p 0] := by
  unfold seg
  rw [List.drop_eq_getElem_cons h, show p + 1 - p = 0 + 1 by omega, List.take_succ_cons, List.take_zero, List.getD_eq_getElem?_getD, List.getElem?_eq_getElem h]
  rfl
theorem seg_split {ns : List Int} {p m q : Nat} (h1 : p ≤ m) (h2 : m ≤ q) : seg ns p q = seg ns p m ++ seg ns m q := by
  unfold seg
  rw [show q - p = (m - p) + (q - m) by omega, List.take_add, List.drop_drop, show p + (m - p) = m by omega]
theorem seg_len {ns : List Int} {p q : Nat} (h : q ≤ ns.length) : (seg ns p q).length = q - p := by
  unfold seg; simp; omega
theorem seg_mem {ns : List Int} {p q : Nat} {d : Int} (h : d ∈ seg ns p q) : d ∈ ns := List.mem_of_mem_drop (List.mem_of_mem_take h)
theorem mid_eq (p q : Nat) : ((p : Int) + q).fdiv (2 ^ (1 : Int).toNat) = ((p + q) / 2 : Nat) := by
  rw [Int.fdiv_eq_ediv_of_nonneg _ (by decide)]
  show ((p : Int) + q) / 2 = _
  omega
theorem d2i_inner (ok : (CC w B mg mb).Ok) {fa c' bd bn bi l : Addr} {cl : List (Str × Addr)} {ns : List Int} {kn : Nat} {tn : Tok} (hd : cl.lookup ("digits" : Str) = some bd) (hn : cl.lookup ("n" : Str) = some bn) (hi : cl.lookup ("inner" : Str) = some bi)
    (hns : ∀ d ∈ ns, 0 ≤ d ∧ d < 2 ^ kn) (hz : ns.length ≤ 100000) (hz2 : kn * ns.length ≤ 1000000) : ∀ (k p q : Nat) (tp tq : Tok), p < q → q ≤ ns.length → q - p ≤ 2 ^ k →
    Spec (CC w B mg mb) fa (k + 1) (3 * (k + 1)) [.int p tp, .int q tq] []
      (fun h => At (CC w B mg mb) h fa (PFn "_digits2int.<locals>.inner" (inP 11 0) (inB 11 0) (inS 11 0) cl c') ∧ At (CC w B mg mb) h c' (PCode "_digits2int.<locals>.inner") ∧ At (CC w B mg mb) h bd (PCell (some (.ref l))) ∧
        At (CC w B mg mb) h bn (PCell (some (.int kn tn))) ∧ At (CC w B mg mb) h bi (PCell (some (.ref fa))) ∧ At (CC w B mg mb) h l (PIntsW ns)) (RInt (dval kn (seg ns p q))) := by
  intro k
  induction k with
  | zero =>
    intro p q tp tq h1 h2 h3 A c h tk Q E r H ⟨a1, a2, a3, a4, a5, a6⟩ hk
    have e : q = p + 1 := by omega
    subst e
    refine call_clos (gs := []) (d := 0) (u := 0) (binds := [("L", .int p tp), ("R", .int (p + 1 : Nat) tq)]) (vs' := [some (.int p tp), some (.int (p + 1 : Nat) tq), none, none]) (cs' := [("digits", bd), ("n", bn), ("inner", bi)]) ok cs_d2i r H a1 a2 (by decide +kernel) (by walk_at "all") (fun _ hp => nomatch hp)
      (by intros; with_unfolding_all rfl) (by walk_at "nd") (by walk_at "all") (by walk_at "bd") rfl rfl fun env L h₁ tk₁ V hL r' H' => ?_
    change wpAny _ _ (execs (_ :: _) _) (RetQ Q) _ _
    repeat' walk_at "s"
    rw [show ((p : Int)).toNat = p by omega]
    refine hk _ _ _ (In.kp (by assumption)) (ri ?_)
    rw [seg_one (by omega)]
    simp [dval]
  | succ k ih =>
    intro p q tp tq h1 h2 h3 A c h tk Q E r H ⟨a1, a2, a3, a4, a5, a6⟩ hk
    refine call_clos (gs := []) (d := k + 1) (u := 3 * (k + 1)) (binds := [("L", .int p tp), ("R", .int q tq)]) (vs' := [some (.int p tp), some (.int q tq), none, none]) (cs' := [("digits", bd), ("n", bn), ("inner", bi)]) ok cs_d2i r H a1 a2 (by decide +kernel) (by walk_at "all") (fun _ hp => nomatch hp)
      (by intros; with_unfolding_all rfl) (by walk_at "nd") (by walk_at "all") (by walk_at "bd") rfl rfl fun env L h₁ tk₁ V hL r' H' => ?_
    change wpAny _ _ (execs (_ :: _) _) (RetQ Q) _ _
    by_cases e : q = p + 1
    · subst e
      repeat' walk_at "s"
      rw [show ((p : Int)).toNat = p by omega]
      refine hk _ _ _ (In.kp (by assumption)) (ri ?_)
      rw [seg_one (by omega)]
      simp [dval]
    · repeat' walk_at "s"
      obtain ⟨M, hM⟩ : ∃ M : Nat, M = (p + q) / 2 := ⟨_, rfl⟩
      have hM1 : 2 * M ≤ p + q ∧ p + q < 2 * M + 2 := by omega
      have hkn : kn ≤ 1000000 := Nat.le_trans (Nat.le_mul_of_pos_right kn (by omega)) hz2
      simp only [mid_eq, ← hM] at *
      with_reducible refine r_mul (IntMulOk.of_bits (Nat.le_trans (bits_small (k := 20) (by omega) (by omega)) (by decide)) (Nat.le_trans (bits_small (k := 20) (by omega) (by omega)) (by decide))) ?_
      have es : ((M : Int) - p) * kn = ((kn * (M - p) : Nat) : Int) := by
        rw [show (M : Int) - p = ((M - p : Nat) : Int) by omega, ← Int.natCast_mul, Nat.mul_comm]
      rw [es]
      repeat' walk_at "s"
      rename In _ _ _ _ _ => H2
      with_reducible refine sp_int (ih M q _ _ (by omega) h2 (by have e9 := Nat.pow_succ 2 k; omega)) r' (Nat.le_refl _) (Nat.le_refl _) H2 ⟨H2.of0 a1, H2.of0 a2, H2.of0 a3, H2.of0 a4, H2.of0 a5, H2.of0 a6⟩ fun _ _ _ H3 => ?_
      repeat' walk_at "s"
      have hb : ∀ {p q : Nat}, q ≤ ns.length → 0 ≤ dval kn (seg ns p q) ∧ dval kn (seg ns p q) < 2 ^ (kn * (q - p)) := fun {p q} hq => by
        have := dval_bound kn (seg ns p q) fun d hd => hns d (seg_mem hd)
        rwa [seg_len hq] at this
      have hm1 : kn * (q - M) ≤ 1000000 := Nat.le_trans (Nat.mul_le_mul_left _ (by omega)) hz2
      have hm2 : kn * (M - p) ≤ 1000000 := Nat.le_trans (Nat.mul_le_mul_left _ (by omega)) hz2
      with_reducible refine r_shl (by omega) (by have := bits_small (hb h2 (p := M)).1 (hb h2 (p := M)).2; omega) ?_
      repeat' walk_at "s"
      rename In _ _ _ _ _ => H4
      with_reducible refine sp_int (ih p M _ _ (by omega) (by omega) (by have e9 := Nat.pow_succ 2 k; omega)) r' (Nat.le_refl _) (Nat.le_refl _) H4 ⟨H4.of0 a1, H4.of0 a2, H4.of0 a3, H4.of0 a4, H4.of0 a5, H4.of0 a6⟩ fun _ _ _ H5 => ?_
      repeat' walk_at "s"
      refine hk _ _ _ (In.kp (by assumption)) (ri ?_)
      rw [seg_split (p := p) (q := q) (m := M) (by omega) (by omega), dval_append, seg_len (p := p) (q := M) (by omega), Int.add_comm, Int.toNat_natCast]

theorem sp_digits2int (ok : (CC w B mg mb).Ok) (l : Addr) (ns : List Int) (kn k : Nat) (tn : Tok) (hns : ∀ d ∈ ns, 0 ≤ d ∧ d < 2 ^ kn) (hz : ns.length ≤ 100000) (hz2 : kn * ns.length ≤ 1000000) (hk2 : ns.length ≤ 2 ^ k) :
    Spec (CC w B mg mb) 63 (k + 2) (3 * (k + 2)) [.ref l, .int kn tn] [] (fun h => At (CC w B mg mb) h l (PIntsW ns)) (RInt (dval kn ns)) := by
  intro A c h tk Q E r H ha hk
  refine call_cells (d := k + 1) (u := 3 * (k + 1)) (binds := [("digits", .ref l), ("n", .int kn tn)]) (vs := []) (us := [some (.ref l), some (.int kn tn), none]) ok fn_digits2int (nm_digits2int ok) r H (by intros; with_unfolding_all rfl) (by walk_at "nd") (by walk_at "all") (by walk_at "bd") (by walk_at "bd") fun env L as h₁ tk₁ V hC hcd hq hl hL r' H' => ?_
  obtain ⟨bd, bn, bi, rfl⟩ := len3 hl
  have V1 : EnvF (CC w B mg mb) env L [] [("digits", bd), ("n", bn), ("inner", bi)] [("len", .builtin "len")] := V
  have H1 : In (CC w B mg mb) [] h h₁ [(L, PLoc [] []), (bd, PCell (some (.ref l))), (bn, PCell (some (.int kn tn))), (bi, PCell none)] := H'
  clear V H'
  change wpAny _ _ (execs (_ :: _) _) (RetQ Q) _ _
  with_reducible refine x_cons ?_
  refine x_def (name := "inner") (qual := "_digits2int.<locals>.inner") (params := inP 11 0) (body := inB 11 0) (scope := inS 11 0) (pos := posIn 11 0) (P := 58) ok V1 H1 (by walk_at "mut") cs_d2i (by walk_at "has") hcd List.mem_cons_self List.mem_cons_self ?_ (fun q => q.1) (fun h' c' a b c d e => tiSet58 a b c d e) rfl rfl rfl ?_
  · unfold qualnameIn
    rw [hC "inner" (by walk_at "mem"), hq]; rfl
  intro fa c' cl h2 tk2 hcl H2
  repeat' walk_at "s"
  with_reducible refine br_any (fun q => ?_) (fun q => ?_)
  · repeat' walk_at "s"
    refine hk _ _ _ (In.kp (by assumption)) (ri ?_)
    rw [List.isEmpty_iff.mp q]; rfl
  · have hpos : 0 < ns.length := by
      cases ns with
      | nil => cases q
      | cons _ _ => simp
    repeat' walk_at "s"
    rename In _ _ _ _ _ => H3
    have sp := d2i_inner ok (fa := fa) (c' := c') (bd := bd) (bn := bn) (bi := bi) (l := l) (tn := tn) (hcl "digits" (by walk_at "mem") _ (by walk_at "mem")) (hcl "n" (by walk_at "mem") _ (by walk_at "mem")) (hcl "inner" (by walk_at "mem") _ (by walk_at "mem")) hns hz hz2 k 0 ns.length
    with_reducible refine sp_int (sp _ _ hpos (Nat.le_refl _) (by omega)) r' (Nat.le_refl _) (Nat.le_refl _) H3 ⟨H3.at (by walk_at "mem"), H3.at (by walk_at "mem"), H3.at (by walk_at "mem"), H3.at (by walk_at "mem"), H3.at (by walk_at "mem"), H3.of0 ha⟩ fun _ _ _ H5 => ?_
    repeat' walk_at "s"
    refine hk _ _ _ (In.kp (by assumption)) (ri ?_)
    simp [seg]
end
section
variable {w : World} {B : Heap} {mg mb : Str → Option Value}
theorem cs_i2d : Cs (inS 10 1) ["x", "L", "R", "mid", "shift", "upper", "lower"] ["a_digits", "n", "inner"] [] [] where
  nd := by decide +kernel
  kl := by decide +kernel
  kf := by decide +kernel
  ko := by decide +kernel
  kg := by decide +kernel
  hf := by decide +kernel
  hn := by decide +kernel
  kind := rfl

def digs (k : Nat) : Nat → Int → List Int
  | 0, _ => []
  | m + 1, x => x % 2 ^ k :: digs k m (x / 2 ^ k)
theorem digs_len (k : Nat) : ∀ (m : Nat) (x : Int), (digs k m x).length = m
  | 0, _ => rfl
  | m + 1, x => by simp [digs, digs_len k m]
theorem digs_split (k : Nat) : ∀ (a b : Nat) (x : Int), digs k (a + b) x = digs k a x ++ digs k b (x / 2 ^ (k * a))
  | 0, b, x => by simp [digs]
  | a + 1, b, x => by
    rw [show a + 1 + b = (a + b) + 1 by omega]
    simp only [digs, List.cons_append, digs_split k a b]
    rw [Int.ediv_ediv_of_nonneg (Int.pow_nonneg (by decide)), ← Int.pow_add, show k + k * a = k * (a + 1) by rw [Nat.mul_succ, Nat.add_comm]]
theorem digs_mod (k : Nat) : ∀ (a : Nat) (x : Int), digs k a (x % 2 ^ (k * a)) = digs k a x
  | 0, x => rfl
  | a + 1, x => by
    have e : (2 : Int) ^ (k * (a + 1)) = 2 ^ k * 2 ^ (k * a) := by rw [← Int.pow_add, Nat.mul_succ, Nat.add_comm]
    have h1 : x % 2 ^ (k * (a + 1)) % 2 ^ k = x % 2 ^ k := by rw [e]; exact Int.emod_emod_of_dvd _ (Int.dvd_mul_right _ _)
    have h2 : x % 2 ^ (k * (a + 1)) / 2 ^ k = x / 2 ^ k % 2 ^ (k * a) := by
      have p : (0 : Int) < 2 ^ k := Int.pow_pos (by decide)
      have q : (0 : Int) < 2 ^ (k * a) := Int.pow_pos (by decide)
      rw [e, Int.emod_def, Int.emod_def, ← Int.ediv_ediv_of_nonneg (Int.le_of_lt p), Int.mul_assoc, Int.sub_eq_add_neg, ← Int.mul_neg, Int.add_mul_ediv_left _ _ (by omega)]
      omega
    simp only [digs, h1, h2, digs_mod k a]
theorem digs_one (k : Nat) (x : Int) (h0 : 0 ≤ x) (h : x < 2 ^ k) : digs k 1 x = [x] := by simp [digs, Int.emod_eq_of_lt h0 h]
theorem nat_and_top (m s : Nat) : m &&& (m / 2 ^ s * 2 ^ s) = m / 2 ^ s * 2 ^ s := by
  apply Nat.eq_of_testBit_eq
  intro i
  rw [Nat.testBit_and, Nat.testBit_mul_two_pow, Nat.testBit_div_two_pow]
  by_cases h : s ≤ i
  · simp [h]
  · simp [h]
theorem xor_low {x : Int} (h : 0 ≤ x) (s : Nat) : Builtin.bitXor x (x / 2 ^ s * 2 ^ s) = x % 2 ^ s := by
  obtain ⟨m, rfl⟩ := Int.eq_ofNat_of_zero_le h
  have e : ((m : Int) / 2 ^ s * 2 ^ s) = ((m / 2 ^ s * 2 ^ s : Nat) : Int) := by push_cast; rfl
  rw [bitXor_and, e]
  have e2 : Builtin.bitAnd (m : Int) ((m / 2 ^ s * 2 ^ s : Nat) : Int) = ((m / 2 ^ s * 2 ^ s : Nat) : Int) := by
    unfold Builtin.bitAnd
    simp only [Int.natCast_nonneg, decide_true, Int.toNat_natCast]
    rw [nat_and_top]
  rw [e2, ← e]
  have := Int.emod_add_mul_ediv (m : Int) (2 ^ s)
  rw [Int.mul_comm] at this
  omega
def putd (ds : List Int) (p : Nat) (xs : List Int) : List Int := ds.take p ++ xs ++ ds.drop (p + xs.length)
theorem putd_len {ds xs : List Int} {p : Nat} (h : p + xs.length ≤ ds.length) : (putd ds p xs).length = ds.length := by
  simp [putd]; omega
theorem putd_one {ds : List Int} {p : Nat} {x : Int} (h : p < ds.length) : ds.set p x = putd ds p [x] := by
  rw [List.set_eq_take_append_cons_drop, if_pos h]
  simp [putd]
theorem putd_two {ds xs ys : List Int} {p : Nat} (h : p + xs.length + ys.length ≤ ds.length) : putd (putd ds p xs) (p + xs.length) ys = putd ds p (xs ++ ys) := by
  unfold putd
  have e1 : (ds.take p ++ xs).length = p + xs.length := by simp; omega
  rw [List.take_append_of_le_length (by rw [e1]; omega), List.take_of_length_le (by rw [e1]; omega), List.drop_append, List.drop_eq_nil_of_le (as := ds.take p ++ xs) (by rw [e1]; omega), e1, List.drop_drop]
  simp only [List.append_assoc, List.nil_append, List.length_append]
  congr 3
  congr 1; omega

theorem fdiv_pow {x : Int} (k : Nat) : x.fdiv (2 ^ k) = x / 2 ^ k := Int.fdiv_eq_ediv_of_nonneg _ (Int.pow_nonneg (by decide))
theorem i2d_inner (ok : (CC w B mg mb).Ok) {fa c' bd bn bi l : Addr} {cl : List (Str × Addr)} {kn : Nat} {tn : Tok} {N : Nat} (hd : cl.lookup ("a_digits" : Str) = some bd) (hn : cl.lookup ("n" : Str) = some bn) (hi : cl.lookup ("inner" : Str) = some bi)
    (hz : N ≤ 400000) (hz2 : kn * N ≤ 1000000) : ∀ (k p q : Nat) (x : Int) (tx tp tq : Tok) (ds : List Int), ds.length = N → p < q → q ≤ N → q - p ≤ 2 ^ k → 0 ≤ x → x < 2 ^ (kn * (q - p)) →
    Spec (CC w B mg mb) fa (k + 1) (3 * (k + 1)) [.int x tx, .int p tp, .int q tq] [l]
      (fun h => At (CC w B mg mb) h fa (PFn "_int2digits.<locals>.inner" (inP 10 1) (inB 10 1) (inS 10 1) cl c') ∧ At (CC w B mg mb) h c' (PCode "_int2digits.<locals>.inner") ∧ At (CC w B mg mb) h bd (PCell (some (.ref l))) ∧
        At (CC w B mg mb) h bn (PCell (some (.int kn tn))) ∧ At (CC w B mg mb) h bi (PCell (some (.ref fa))) ∧ (At (CC w B mg mb) h l (PIntsW ds) ∧ B.get? l = none) ∧ (l ≠ fa ∧ l ≠ c' ∧ l ≠ bd ∧ l ≠ bn ∧ l ≠ bi))
      (fun h h' v => (fun _ _ v => v = Value.none) h h' v ∧ At (CC w B mg mb) h' l (PIntsW (putd ds p (digs kn (q - p) x)))) := by
  intro k
  induction k with
  | zero =>
    intro p q x tx tp tq ds hN h1 h2 h3 h4 h5 A c h tk Q E r H ⟨a1, a2, a3, a4, a5, ⟨a6, a7⟩, n1, n2, n3, n4, n5⟩ hk
    have e : q = p + 1 := by omega
    subst e
    refine call_clos (gs := []) (d := 0) (u := 0) (binds := [("x", .int x tx), ("L", .int p tp), ("R", .int (p + 1 : Nat) tq)]) (vs' := [some (.int x tx), some (.int p tp), some (.int (p + 1 : Nat) tq), none, none, none, none]) (cs' := [("a_digits", bd), ("n", bn), ("inner", bi)]) ok cs_i2d r H a1 a2 (by decide +kernel) (by walk_at "all") (fun _ hp => nomatch hp)
      (by intros; with_unfolding_all rfl) (by walk_at "nd") (by walk_at "all") (by walk_at "bd") rfl rfl fun env L h₁ tk₁ V hL r' H' => ?_
    have m1 : fa ∉ ([l] : List Addr) := by simpa using Ne.symm n1
    have m3 : bd ∉ ([l] : List Addr) := by simpa using Ne.symm n3
    have m4 : bn ∉ ([l] : List Addr) := by simpa using Ne.symm n4
    have m5 : bi ∉ ([l] : List Addr) := by simpa using Ne.symm n5
    have H1 := H'.addX1 hL a6 a7
    clear H'
    change wpAny _ _ (execs (_ :: _) _) (RetQ Q) _ _
    repeat' walk_at "s"
    rename In _ _ _ _ _ => H2
    refine hk _ _ _ H2.kp ⟨rfl, ?_⟩
    rw [show p + 1 - p = 1 by omega] at h5 ⊢
    rw [digs_one kn x h4 (by simpa using h5), ← putd_one (by omega)]
    have a9 := H2.at (l := l) List.mem_cons_self
    rwa [Int.toNat_natCast] at a9
  | succ k ih =>
    intro p q x tx tp tq ds hN h1 h2 h3 h4 h5 A c h tk Q E r H ⟨a1, a2, a3, a4, a5, ⟨a6, a7⟩, n1, n2, n3, n4, n5⟩ hk
    refine call_clos (gs := []) (d := k + 1) (u := 3 * (k + 1)) (binds := [("x", .int x tx), ("L", .int p tp), ("R", .int q tq)]) (vs' := [some (.int x tx), some (.int p tp), some (.int q tq), none, none, none, none]) (cs' := [("a_digits", bd), ("n", bn), ("inner", bi)]) ok cs_i2d r H a1 a2 (by decide +kernel) (by walk_at "all") (fun _ hp => nomatch hp)
      (by intros; with_unfolding_all rfl) (by walk_at "nd") (by walk_at "all") (by walk_at "bd") rfl rfl fun env L h₁ tk₁ V hL r' H' => ?_
    have m1 : fa ∉ ([l] : List Addr) := by simpa using Ne.symm n1
    have m2 : c' ∉ ([l] : List Addr) := by simpa using Ne.symm n2
    have m3 : bd ∉ ([l] : List Addr) := by simpa using Ne.symm n3
    have m4 : bn ∉ ([l] : List Addr) := by simpa using Ne.symm n4
    have m5 : bi ∉ ([l] : List Addr) := by simpa using Ne.symm n5
    have H1 := H'.addX1 hL a6 a7
    clear H'
    change wpAny _ _ (execs (_ :: _) _) (RetQ Q) _ _
    by_cases e : q = p + 1
    · subst e
      repeat' walk_at "s"
      rename In _ _ _ _ _ => H2
      refine hk _ _ _ H2.kp ⟨rfl, ?_⟩
      rw [show p + 1 - p = 1 by omega] at h5 ⊢
      rw [digs_one kn x h4 (by simpa using h5), ← putd_one (by omega)]
      have a9 := H2.at (l := l) List.mem_cons_self
      rwa [Int.toNat_natCast] at a9
    · repeat' walk_at "s"
      obtain ⟨M, hM⟩ : ∃ M : Nat, M = (p + q) / 2 := ⟨_, rfl⟩
      have hM1 : 2 * M ≤ p + q ∧ p + q < 2 * M + 2 := by omega
      have hkn : kn ≤ 1000000 := Nat.le_trans (Nat.le_mul_of_pos_right kn (by omega)) hz2
      simp only [mid_eq, ← hM] at *
      with_reducible refine r_mul (IntMulOk.of_bits (Nat.le_trans (bits_small (k := 20) (by omega) (by omega)) (by decide)) (Nat.le_trans (bits_small (k := 20) (by omega) (by omega)) (by decide))) ?_
      have es : ((M : Int) - p) * kn = ((kn * (M - p) : Nat) : Int) := by
        rw [show (M : Int) - p = ((M - p : Nat) : Int) by omega, ← Int.natCast_mul, Nat.mul_comm]
      rw [es]
      repeat' walk_at "s"
      simp only [Int.toNat_natCast, fdiv_pow] at *
      have hx2 : x / 2 ^ (kn * (M - p)) < 2 ^ (kn * (q - M)) := by
        rw [Int.ediv_lt_iff_lt_mul (Int.pow_pos (by decide)), ← Int.pow_add, ← Nat.mul_add, show q - M + (M - p) = q - p by omega]
        exact h5
      have hx1 : 0 ≤ x / 2 ^ (kn * (M - p)) := Int.ediv_nonneg h4 (Int.pow_nonneg (by decide))
      have hm1 : kn * (q - M) ≤ 1000000 := Nat.le_trans (Nat.mul_le_mul_left _ (by omega)) hz2
      have hm2 : kn * (M - p) ≤ 1000000 := Nat.le_trans (Nat.mul_le_mul_left _ (by omega)) hz2
      with_reducible refine r_shl (by omega) (by have := bits_small hx1 hx2; omega) ?_
      with_reducible refine r_xor ?_
      rw [Int.toNat_natCast, xor_low h4]
      repeat' walk_at "s"
      rename In _ _ _ _ _ => H2
      have hlo : x % 2 ^ (kn * (M - p)) < 2 ^ (kn * (M - p)) := Int.emod_lt_of_pos _ (Int.pow_pos (by decide))
      have hlo0 : 0 ≤ x % 2 ^ (kn * (M - p)) := Int.emod_nonneg _ (by have : (0 : Int) < 2 ^ (kn * (M - p)) := Int.pow_pos (by decide)
                                                                      omega)
      with_reducible refine sp_w (ih p M _ _ _ _ ds hN (by omega) (by omega) (by have e9 := Nat.pow_succ 2 k; omega) hlo0 hlo) r' (Nat.le_refl _) (Nat.le_refl _) H2 Ch.hit PIntsW.mut ⟨H2.of a1 m1, H2.of a2 m2, H2.of a3 m3, H2.of a4 m4, H2.of a5 m5, ⟨H2.at List.mem_cons_self, a7⟩, n1, n2, n3, n4, n5⟩ fun v h3 tk3 H3 hv => ?_
      clear hv
      repeat' walk_at "s"
      rename In _ _ _ _ _ => H4
      with_reducible refine sp_w (ih M q _ _ _ _ _ ?_ (by omega) h2 (by have e9 := Nat.pow_succ 2 k; omega) hx1 hx2) r' (Nat.le_refl _) (Nat.le_refl _) H4 Ch.hit PIntsW.mut ⟨H4.of a1 m1, H4.of a2 m2, H4.of a3 m3, H4.of a4 m4, H4.of a5 m5, ⟨H4.at List.mem_cons_self, a7⟩, n1, n2, n3, n4, n5⟩ fun v h3 tk3 H5 hv => ?_
      · rw [putd_len (by rw [digs_len]; omega)]; exact hN
      clear hv
      repeat' walk_at "s"
      rename In _ _ _ _ _ => H6
      refine hk _ _ _ H6.kp ⟨rfl, ?_⟩
      have a9 := H6.at (l := l) List.mem_cons_self
      have e2 : M = p + (digs kn (M - p) (x % 2 ^ (kn * (M - p)))).length := by rw [digs_len]; omega
      have e3 := putd_two (ds := ds) (xs := digs kn (M - p) (x % 2 ^ (kn * (M - p)))) (ys := digs kn (q - M) (x / 2 ^ (kn * (M - p)))) (p := p) (by simp only [digs_len]; omega)
      rw [← e2] at e3
      rw [e3, digs_mod, ← digs_split, show M - p + (q - M) = q - p by omega] at a9
      exact a9

def nd (a : Int) (kn : Nat) : Nat := (Builtin.Int.intBits a + kn - 1) / kn
theorem rep_one (m : Nat) (x : Int) : (List.replicate m [x]).flatten = List.replicate m x := by
  induction m with
  | zero => rfl
  | succ m ih => rw [List.replicate_succ, List.flatten_cons, ih]; rfl
theorem nd_mul {a : Int} {kn : Nat} (hk : 0 < kn) : Builtin.Int.intBits a ≤ kn * nd a kn ∧ kn * nd a kn < Builtin.Int.intBits a + kn := by
  unfold nd
  have h1 := Nat.div_add_mod (Builtin.Int.intBits a + kn - 1) kn
  have h2 := Nat.mod_lt (Builtin.Int.intBits a + kn - 1) hk
  omega
theorem bits_bound {a : Int} (h : 0 ≤ a) : a < 2 ^ Builtin.Int.intBits a := by
  have := intBits_le_iff.mp (Nat.le_refl (Builtin.Int.intBits a))
  have e : (a.natAbs : Int) < 2 ^ Builtin.Int.intBits a := by exact_mod_cast this
  omega
theorem bits_pos {a : Int} (h : a ≠ 0) : 0 < Builtin.Int.intBits a := by
  unfold Builtin.Int.intBits
  rw [if_neg (by simpa using h)]
  omega
theorem sp_int2digits (ok : (CC w B mg mb).Ok) (a : Int) (kn k : Nat) (ta tn : Tok) (h0 : 0 ≤ a) (hk1 : 0 < kn) (hkz : kn ≤ 100000) (hb : Builtin.Int.intBits a ≤ 100000) (hk2 : nd a kn ≤ 2 ^ k) :
    Spec (CC w B mg mb) 56 (k + 2) (3 * (k + 2)) [.int a ta, .int kn tn] [] (fun _ => True) (ROb (CC w B mg mb) (PIntsW (digs kn (nd a kn) a))) := by
  intro A c h tk Q E r H _ hk
  refine call_cells (d := k + 1) (u := 3 * (k + 1)) (binds := [("a", .int a ta), ("n", .int kn tn)]) (vs := [some (.int a ta)]) (us := [some (.int kn tn), none, none]) ok fn_int2digits (nm_int2digits ok) r H (by intros; with_unfolding_all rfl) (by walk_at "nd") (by walk_at "all") (by walk_at "bd") (by walk_at "bd") fun env L as h₁ tk₁ V hC hcd hq hl hL r' H' => ?_
  obtain ⟨bn, bd, bi, rfl⟩ := len3 hl
  have V1 : EnvF (CC w B mg mb) env L ["a"] [("n", bn), ("a_digits", bd), ("inner", bi)] [("len", .builtin "len")] := V
  have H1 : In (CC w B mg mb) [] h h₁ [(L, PLoc ["a"] [some (.int a ta)]), (bn, PCell (some (.int kn tn))), (bd, PCell none), (bi, PCell none)] := H'
  clear V H'
  change wpAny _ _ (execs (_ :: _) _) (RetQ Q) _ _
  repeat' walk_at "s"
  have hnd := nd_mul (a := a) hk1
  have hndz : nd a kn ≤ 200000 := by
    have : nd a kn ≤ kn * nd a kn := Nat.le_mul_of_pos_left _ hk1
    omega
  with_reducible refine r_fdiv (by omega) (PyProof.noPylong_small (by omega)) ?_
  have e1 : ((Builtin.Int.intBits a : Int) + kn - 1).fdiv kn = (nd a kn : Nat) := by
    rw [show (Builtin.Int.intBits a : Int) + kn - 1 = ((Builtin.Int.intBits a + kn - 1 : Nat) : Int) by omega, Int.fdiv_eq_ediv_of_nonneg _ (by omega)]
    rfl
  rw [e1]
  rename In _ _ _ _ _ => H2
  with_reducible refine mul_il ok H2 (by walk_at "mem") (H2.at (by walk_at "mem")).il (by omega) (by simp only [List.length_singleton, Int.toNat_natCast]; omega) (by omega) fun l h2 H3 => ?_
  rw [Int.toNat_natCast, rep_one] at H3
  repeat' walk_at "s"
  rename In _ _ _ _ _ => H4
  refine x_def (name := "inner") (qual := "_int2digits.<locals>.inner") (params := inP 10 1) (body := inB 10 1) (scope := inS 10 1) (pos := posIn 10 1) (P := 51) ok V1 H4 (by walk_at "mut") cs_i2d (by walk_at "has") hcd (List.mem_cons_of_mem _ List.mem_cons_self) (List.mem_cons_of_mem _ List.mem_cons_self) ?_ (fun q => q.2) (fun h' c' a b c d e => tiSet51 a b c d e) rfl rfl rfl ?_
  · unfold qualnameIn
    rw [hC "inner" (by walk_at "mem"), hq]; rfl
  intro fa c' cl h2 tk2 hcl H2
  repeat' walk_at "s"
  · rename In _ _ _ _ _ => H5
    have nn := H5.nodup
    simp only [List.map_cons, List.map_nil, List.nodup_cons, List.mem_cons, not_or] at nn
    have sp := i2d_inner ok (fa := fa) (c' := c') (bd := bd) (bn := bn) (bi := bi) (l := l) (tn := tn) (N := nd a kn) (hcl "a_digits" (by walk_at "mem") _ (by walk_at "mem")) (hcl "n" (by walk_at "mem") _ (by walk_at "mem")) (hcl "inner" (by walk_at "mem") _ (by walk_at "mem")) (Nat.le_trans hndz (by decide)) (Nat.le_trans (Nat.le_of_lt hnd.2) (by omega)) k 0 (nd a kn) a
    repeat' walk_at "s"
    rename In _ _ _ _ _ => H6
    have hpos : 0 < nd a kn := by
      rcases Nat.eq_zero_or_pos (nd a kn) with q | q
      · have := bits_pos (a := a) (by assumption)
        rw [q] at hnd; omega
      · exact q
    have a1 := H6.at (l := l) (by walk_at "mem")
    have hpw : a < 2 ^ (kn * (nd a kn - 0)) := Int.lt_of_lt_of_le (bits_bound h0) (by exact_mod_cast Nat.pow_le_pow_right (by decide) hnd.1)
    have a2 : B.get? l = none := (H6.ownB (l := l) (by walk_at "mem") PInts.mut).2
    have hne : l ≠ fa ∧ l ≠ c' ∧ l ≠ bd ∧ l ≠ bn ∧ l ≠ bi := by grind
    have hall : At (CC w B mg mb) _ fa _ ∧ At (CC w B mg mb) _ c' _ ∧ At (CC w B mg mb) _ bd _ ∧ At (CC w B mg mb) _ bn _ ∧ At (CC w B mg mb) _ bi _ := ⟨H6.at (by walk_at "mem"), H6.at (by walk_at "mem"), H6.at (by walk_at "mem"), H6.at (by walk_at "mem"), H6.at (by walk_at "mem")⟩
    obtain ⟨b1, b2, b3, b4, b5⟩ := hall
    simp only [List.length_replicate]
    with_reducible refine sp_w (sp _ _ _ (List.replicate (nd a kn) 0) (by simp) hpos (Nat.le_refl _) (by omega) h0 hpw) r' (Nat.le_refl _) (Nat.le_refl _) H6 (by walk_at "ch") PInts.mut ⟨b1, b2, b3, b4, b5, ⟨a1.mono PInts.w, a2⟩, hne⟩ fun v h3 tk3 H5 hv => ?_
    clear hv
    repeat' walk_at "s"
    rename In _ _ _ _ _ => H7
    refine hk _ _ _ H7.kp (H7.rob (l := l) (by walk_at "mem") PIntsW.mut fun o q => ?_)
    simpa [putd, digs_len] using q
  · rename In _ _ _ _ _ => H7
    refine hk _ _ _ H7.kp (H7.rob (l := l) (by walk_at "mem") PInts.mut fun o q => PInts.w _ ?_)
    have a0 : a = 0 := by assumption
    have e0 : nd a kn = 0 := by
      rw [a0] at hnd ⊢
      rw [show Builtin.Int.intBits 0 = 0 from rfl] at hnd
      rcases Nat.eq_zero_or_pos (nd 0 kn) with q | q
      · exact q
      · have := Nat.le_mul_of_pos_right kn q; omega
    rw [e0] at q ⊢
    exact q
end
section
variable {w : World} {B : Heap} {mg mb : Str → Option Value}
theorem sp_div2n1n (ok : (CC w B mg mb).Ok) (a b n : Int) (ta tb tn : Tok) (hb : b ≠ 0) (h1 : (Builtin.Int.intBits a : Int) - n ≤ 4000) (h2 : Builtin.Int.intBits b ≤ 5000) :
    Spec (CC w B mg mb) 42 1 3 [.int a ta, .int b tb, .int n tn] [] (fun _ => True) (ROb (CC w B mg mb) (PT2 (a.fdiv b) (a.fmod b))) := by
  intro A c h tk Q E r H _ hk
  refine call_plain (d := 0) (u := 0) (binds := [("a", .int a ta), ("b", .int b tb), ("n", .int n tn)]) (extra := ["pad", "half_n", "mask", "b1", "b2", "q1", "r", "q2"]) (vs := [some (.int a ta), some (.int b tb), some (.int n tn), none, none, none, none, none, none, none, none]) ok fn_div2n1n (nm_div2n1n ok) r H (by intros; with_unfolding_all rfl) rfl rfl fun env L h₁ tk₁ V hL r' H' => ?_
  change wpAny _ _ (execs (_ :: _) _) (RetQ Q) _ _
  repeat' walk_at "s"
  rename In _ _ _ _ _ => H1
  with_reducible refine dm_il ok H1 (by walk_at "mem") hb (noPy h2) fun d h2 tk2 H2 => ?_
  repeat' walk_at "s"
  exact hk _ _ _ H2.kp (H2.rob (by walk_at "mem") PT2.mut fun _ q => q)

theorem digs_get (k : Nat) : ∀ (m : Nat) (x : Int) (j : Nat), j < m → (digs k m x)[j]? = some (x / 2 ^ (k * j) % 2 ^ k)
  | 0, _, _, h => absurd h (Nat.not_lt_zero _)
  | m + 1, x, 0, _ => by simp [digs]
  | m + 1, x, j + 1, h => by
    simp only [digs, List.getElem?_cons_succ]
    rw [digs_get k m _ j (by omega), Int.ediv_ediv_of_nonneg (Int.pow_nonneg (by decide)), ← Int.pow_add, show k + k * j = k * (j + 1) by rw [Nat.mul_succ, Nat.add_comm]]
theorem pow_pos2 (k : Nat) : (0 : Int) < 2 ^ k := Int.pow_pos (by decide)
structure DvI (a b : Int) (kn m i : Nat) (qs : List Int) (r : Int) : Prop where
  r : r = a / 2 ^ (kn * (m - i)) % b
  len : qs.length = i
  dig : ∀ d ∈ qs, 0 ≤ d ∧ d < 2 ^ kn
  val : dval kn qs.reverse = a / 2 ^ (kn * (m - i)) / b
theorem DvI.step {a b r : Int} {kn m i : Nat} {qs : List Int} (h : DvI a b kn m i qs r) (hi : i < m) (h0 : 0 ≤ a) (hb : 0 < b) (hbk : b < 2 ^ kn) {d : Int} (hd : d = a / 2 ^ (kn * (m - 1 - i)) % 2 ^ kn) :
    0 ≤ r * 2 ^ kn + d ∧ r * 2 ^ kn + d < 2 ^ (kn + kn) ∧ 0 ≤ r ∧ r < 2 ^ kn ∧ DvI a b kn m (i + 1) (qs ++ [(r * 2 ^ kn + d).fdiv b]) ((r * 2 ^ kn + d).fmod b) := by
  have pk := pow_pos2 kn
  have hr0 : 0 ≤ r := by rw [h.r]; exact Int.emod_nonneg _ (by omega)
  have hrb : r < b := by rw [h.r]; exact Int.emod_lt_of_pos _ hb
  have hd0 : 0 ≤ d := by rw [hd]; exact Int.emod_nonneg _ (by omega)
  have hdk : d < 2 ^ kn := by rw [hd]; exact Int.emod_lt_of_pos _ pk
  have t0 : 0 ≤ r * 2 ^ kn + d := by have := Int.mul_nonneg hr0 (Int.le_of_lt pk); omega
  have tb : r * 2 ^ kn + d < b * 2 ^ kn := by
    have : (r + 1) * 2 ^ kn ≤ b * 2 ^ kn := Int.mul_le_mul_of_nonneg_right (by omega) (Int.le_of_lt pk)
    rw [Int.add_mul] at this; omega
  have t2 : b * 2 ^ kn ≤ 2 ^ (kn + kn) := by
    rw [Int.pow_add]; exact Int.mul_le_mul_of_nonneg_right (by omega) (Int.le_of_lt pk)
  have ef : (r * 2 ^ kn + d).fdiv b = (r * 2 ^ kn + d) / b := Int.fdiv_eq_ediv_of_nonneg _ (by omega)
  have em : (r * 2 ^ kn + d).fmod b = (r * 2 ^ kn + d) % b := Int.fmod_eq_emod_of_nonneg _ (by omega)
  have em1 : kn * (m - i) = kn * (m - 1 - i) + kn := by
    rw [show m - i = (m - 1 - i) + 1 by omega, Nat.mul_succ]
  have eV : a / 2 ^ (kn * (m - 1 - i)) = a / 2 ^ (kn * (m - i)) * 2 ^ kn + d := by
    rw [em1, Int.pow_add, ← Int.ediv_ediv_of_nonneg (Int.le_of_lt (pow_pos2 _)), hd]
    have := Int.emod_add_mul_ediv (a / 2 ^ (kn * (m - 1 - i))) (2 ^ kn)
    rw [Int.mul_comm] at this
    omega
  have eW : a / 2 ^ (kn * (m - 1 - i)) = (r * 2 ^ kn + d) + b * (a / 2 ^ (kn * (m - i)) / b * 2 ^ kn) := by
    have e := Int.emod_add_mul_ediv (a / 2 ^ (kn * (m - i))) b
    rw [eV, h.r]
    generalize a / 2 ^ (kn * (m - i)) = V at *
    generalize (2 : Int) ^ kn = W at *
    have : V * W = (V % b + b * (V / b)) * W := by rw [e]
    rw [this, Int.add_mul, Int.mul_assoc]; omega
  refine ⟨t0, by omega, hr0, by omega, ⟨?_, by simp [h.len], fun x hx => ?_, ?_⟩⟩
  · rw [em, show m - (i + 1) = m - 1 - i by omega, eW, Int.add_mul_emod_self_left]
  · rcases List.mem_append.mp hx with hx | hx
    · exact h.dig x hx
    · rw [List.mem_singleton.mp hx, ef]
      exact ⟨Int.ediv_nonneg t0 (by omega), by rw [Int.ediv_lt_iff_lt_mul hb, Int.mul_comm (2 ^ kn) b]; exact tb⟩
  · rw [List.reverse_append, List.reverse_singleton, List.singleton_append]
    show _ + dval kn qs.reverse * 2 ^ kn = _
    rw [h.val, ef, show m - (i + 1) = m - 1 - i by omega, eW, Int.add_mul_ediv_left _ _ (by omega)]

theorem sp_divmod_pos (ok : (CC w B mg mb).Ok) (a b : Int) (ta tb : Tok) (k : Nat) (h0 : 0 ≤ a) (hb : 0 < b) (hbz : Builtin.Int.intBits b ≤ 3000) (haz : Builtin.Int.intBits a ≤ 90000) (hk2 : nd a (Builtin.Int.intBits b) ≤ 2 ^ k) :
    Spec (CC w B mg mb) 70 (k + 3) (3 * (k + 3)) [.int a ta, .int b tb] [] (fun _ => True) (ROb (CC w B mg mb) (PT2 (a.fdiv b) (a.fmod b))) := by
  intro A c h tk Q E r H _ hk
  refine call_plain (d := k + 2) (u := 3 * (k + 2)) (binds := [("a", .int a ta), ("b", .int b tb)]) (extra := ["n", "a_digits", "r", "q_digits", "a_digit", "q_digit", "q"]) (vs := [some (.int a ta), some (.int b tb), none, none, none, none, none, none, none]) ok fn_divmod_pos (nm_divmod_pos ok) r H (by intros; with_unfolding_all rfl) rfl rfl fun env L h₁ tk₁ V hL r' H' => ?_
  change wpAny _ _ (execs (_ :: _) _) (RetQ Q) _ _
  repeat' walk_at "s"
  rename In _ _ _ _ _ => H1
  have hbp : 0 < Builtin.Int.intBits b := bits_pos (by omega)
  have sp := sp_int2digits ok a (Builtin.Int.intBits b) k
  with_reducible refine sp_ob (sp _ _ h0 hbp (by omega) (by omega) hk2) r' (by omega) (by omega) H1 trivial fun l h2 tk2 H2 => ?_
  repeat' walk_at "s"
  rename In _ _ _ _ _ => H3
  obtain ⟨kn, ekn⟩ : ∃ kn, kn = Builtin.Int.intBits b := ⟨_, rfl⟩
  obtain ⟨m, em⟩ : ∃ m, m = nd a kn := ⟨_, rfl⟩
  have hbk : b < 2 ^ kn := by rw [ekn]; exact bits_bound (by omega)
  have hnd := nd_mul (a := a) hbp
  have hb5 : ∀ x, x = b → Builtin.Int.intBits x ≤ 5000 := by rintro x rfl; omega
  simp only [← ekn, ← em] at *
  have hmz : m ≤ 100000 := by
    have := Nat.le_mul_of_pos_left m hbp
    omega
  have hlen : (digs kn m a).length = m := digs_len ..
  with_reducible refine for_irev (σ := (List Int × Int) × Addr × Tok × Tok × Option Value × Option Value) (l := l) (ns := digs kn m a) (fun st => [(st.2.1, PInts st.1.1), (l, PIntsW (digs kn m a)), (L, PLoc ["a", "b", "n", "a_digits", "r", "q_digits", "a_digit", "q_digit", "q"] [some (.int a ta), some (.int b tb), some (.int kn st.2.2.1), some (.ref l), some (.int st.1.2 st.2.2.2.1), some (.ref st.2.1), st.2.2.2.2.1, st.2.2.2.2.2, none])])
                        (fun i st => DvI a b kn m i st.1.1 st.1.2) [(l, PIntsW (digs kn m a))] (([], 0), _, _, _, none, none) ok r'.hh (fun h n H hn => (H.at (hn _ List.mem_cons_self)).ilW) (fun st p hp => by rw [List.mem_singleton.mp hp]; exact List.mem_cons_of_mem _ List.mem_cons_self) ?_ H3 ?_ ?_ ?_
  · intro _ _; rfl
  · have e0 : a / 2 ^ (kn * (m - 0)) = 0 := Int.ediv_eq_zero_of_lt h0 (Int.lt_of_lt_of_le (bits_bound h0) (by exact_mod_cast Nat.pow_le_pow_right (by decide) hnd.1))
    exact ⟨by rw [e0]; rfl, rfl, (fun _ h => nomatch h), by rw [e0]; simp [dval]⟩
  · rintro i j t ⟨⟨qs, r⟩, ql, t1, t2, v1, v2⟩ h5 tk5 e hI H5
    dsimp only at hI H5 ⊢
    have hi : i < m := by
      rcases Nat.lt_or_ge i m with q | q
      · exact q
      · rw [List.getElem?_eq_none (by rw [List.length_reverse, hlen]; exact q)] at e; cases e
    have ej : j = a / 2 ^ (kn * (m - 1 - i)) % 2 ^ kn := by
      rw [List.getElem?_reverse (by rw [hlen]; exact hi), hlen, digs_get kn m a _ (by omega)] at e
      exact (Option.some.inj e).symm
    have hq : qs.length ≤ 100000 := by rw [hI.len]; omega
    obtain ⟨s0, s1, s2, s3, hI'⟩ := hI.step hi h0 hb hbk ej
    repeat' walk_at "s"
    with_reducible refine r_shl (by omega) (by have := bits_small s2 s3; omega) ?_
    rw [Int.toNat_natCast]
    repeat' walk_at "s"
    rename In _ _ _ _ _ => H6
    with_reducible refine sp_ob (sp_div2n1n ok _ b kn _ _ _ (by omega) (by have := bits_small s0 s1; omega) (hb5 b rfl)) r' (by omega) (by omega) H6 trivial fun d h7 tk7 H7 => ?_
    repeat' walk_at "s"
    rename In _ _ _ _ _ => H8
    refine lf_next ((qs ++ [(r * 2 ^ kn + j).fdiv b], (r * 2 ^ kn + j).fmod b), ql, t1, _, some (.int j t), some (.int ((r * 2 ^ kn + j).fdiv b) _)) H8.tail hI'
  · rintro ⟨⟨qs, r⟩, ql, t1, t2, v1, v2⟩ h5 tk5 hI H5
    dsimp only at hI H5 ⊢
    rw [hlen] at hI
    have hq : qs.length ≤ 100000 := by rw [hI.len]; omega
    repeat' walk_at "s"
    rename In _ _ _ _ _ => H6
    have hlr : qs.reverse.length = m := by rw [List.length_reverse]; exact hI.len
    with_reducible refine sp_int (sp_digits2int ok ql qs.reverse kn k t1 (fun d hd => hI.dig d (List.mem_reverse.mp hd)) (by omega) ?_ (by omega)) r' (by omega) (by omega) H6 ((H6.at (by walk_at "mem")).mono PInts.w) fun _ _ _ H7 => ?_
    · rw [hlr]; omega
    repeat' walk_at "s"
    rename In _ _ _ _ _ => H8
    refine hk _ _ _ H8.kp (H8.rob (by walk_at "mem") PTup.mut fun o q => ?_)
    have e1 : a / 2 ^ (kn * (m - m)) = a := by simp
    rw [hI.val, hI.r, e1] at q
    rw [Int.fdiv_eq_ediv_of_nonneg _ (by omega), Int.fmod_eq_emod_of_nonneg _ (by omega)]
    exact ⟨_, _, q⟩
end
section
variable {w : World} {B : Heap} {mg mb : Str → Option Value}
theorem nd_le (a : Int) {kn : Nat} (hk : 0 < kn) : nd a kn ≤ Builtin.Int.intBits a := by
  unfold nd
  rw [← Nat.lt_succ_iff, Nat.div_lt_iff_lt_mul hk]
  generalize Builtin.Int.intBits a = x
  rcases Nat.eq_zero_or_pos x with rfl | hx
  · simp; omega
  · have := Nat.le_mul_of_pos_right x hk
    rw [Nat.succ_mul]; omega
theorem bits_abs {a : Int} {M : Nat} (h : a.natAbs < 2 ^ M) : Builtin.Int.intBits a ≤ M := intBits_le_iff.mpr h
theorem divmod_cells {a b : Int} (hb : 0 < b) : Builtin.bitNot ((Builtin.bitNot a).fdiv b) = a.fdiv b ∧ b + Builtin.bitNot ((Builtin.bitNot a).fmod b) = a.fmod b := by
  unfold Builtin.bitNot
  rw [Int.fdiv_eq_ediv_of_nonneg _ (by omega), Int.fdiv_eq_ediv_of_nonneg _ (by omega), Int.fmod_eq_emod_of_nonneg _ (by omega), Int.fmod_eq_emod_of_nonneg _ (by omega)]
  have e := Int.emod_add_mul_ediv (-a - 1) b
  have h1 := Int.emod_nonneg (-a - 1) (b := b) (by omega)
  have h2 := Int.emod_lt_of_pos (-a - 1) hb
  have u := (Int.ediv_emod_unique (a := a) (b := b) (q := -((-a - 1) / b) - 1) (r := b + (-((-a - 1) % b) - 1)) hb).mpr ⟨by rw [Int.mul_sub, Int.mul_neg]; omega, by omega, by omega⟩
  exact ⟨u.1.symm, u.2.symm⟩
theorem divmod_neg {a b : Int} : (-a).fdiv (-b) = a.fdiv b ∧ -((-a).fmod (-b)) = a.fmod b := by
  have e1 : (-a).fdiv (-b) = a.fdiv b := Int.neg_fdiv_neg a b
  refine ⟨e1, ?_⟩
  rw [Int.fmod_def, Int.fmod_def, e1, Int.neg_mul]; omega
theorem dv0 (ok : (CC w B mg mb).Ok) (a b : Int) (ta tb : Tok) (M k : Nat) (h0 : 0 ≤ a) (hb : 0 < b) (hbz : Builtin.Int.intBits b ≤ 3000) (ha : a.natAbs < 2 ^ M) (hM : M ≤ 90000) (hMk : M ≤ 2 ^ k) :
    Spec (CC w B mg mb) 77 (k + 4) (3 * (k + 4)) [.int a ta, .int b tb] [] (fun _ => True) (ROb (CC w B mg mb) (PT2 (a.fdiv b) (a.fmod b))) := by
  intro A c h tk Q E r H _ hk
  refine call_plain (d := k + 3) (u := 3 * (k + 3)) (binds := [("a", .int a ta), ("b", .int b tb)]) (extra := ["q", "r"]) (vs := [some (.int a ta), some (.int b tb), none, none]) ok fn_int_divmod (nm_int_divmod ok) r H (by intros; with_unfolding_all rfl) rfl rfl fun env L h₁ tk₁ V hL r' H' => ?_
  change wpAny _ _ (execs (_ :: _) _) (RetQ Q) _ _
  repeat' walk_at "s"
  have hb2 := bits_abs ha
  have hn := nd_le a (bits_pos (a := b) (by omega))
  rename In _ _ _ _ _ => H1
  with_reducible refine sp_ob (sp_divmod_pos ok a b _ _ k h0 hb hbz (by omega) (by omega)) r' (by omega) (by omega) H1 trivial fun d h2 tk2 H2 => ?_
  repeat' walk_at "s"
  exact hk _ _ _ H2.kp (H2.rob (by walk_at "mem") PT2.mut fun _ q => q)
theorem dv1 (ok : (CC w B mg mb).Ok) (a b : Int) (ta tb : Tok) (M k : Nat) (hb : 0 < b) (hbz : Builtin.Int.intBits b ≤ 3000) (ha : a.natAbs < 2 ^ M) (hM : M ≤ 90000) (hMk : M ≤ 2 ^ k) :
    Spec (CC w B mg mb) 77 (k + 5) (3 * (k + 5)) [.int a ta, .int b tb] [] (fun _ => True) (ROb (CC w B mg mb) (PT2 (a.fdiv b) (a.fmod b))) := by
  intro A c h tk Q E r H _ hk
  by_cases h0 : 0 ≤ a
  · exact dv0 ok a b ta tb M k h0 hb hbz ha hM hMk A c h tk Q E (r.le (by omega) (by omega)) H trivial hk
  refine call_plain (d := k + 4) (u := 3 * (k + 4)) (binds := [("a", .int a ta), ("b", .int b tb)]) (extra := ["q", "r"]) (vs := [some (.int a ta), some (.int b tb), none, none]) ok fn_int_divmod (nm_int_divmod ok) r H (by intros; with_unfolding_all rfl) rfl rfl fun env L h₁ tk₁ V hL r' H' => ?_
  change wpAny _ _ (execs (_ :: _) _) (RetQ Q) _ _
  repeat' walk_at "s"
  rename In _ _ _ _ _ => H1
  with_reducible refine sp_ob (dv0 ok _ b _ _ M k (by unfold Builtin.bitNot; omega) hb hbz (by unfold Builtin.bitNot; omega) hM hMk) r' (by omega) (by omega) H1 trivial fun d h2 tk2 H2 => ?_
  repeat' walk_at "s"
  rename In _ _ _ _ _ => H3
  refine hk _ _ _ H3.kp (H3.rob (by walk_at "mem") PTup.mut fun o q => ?_)
  rw [(divmod_cells hb).1, (divmod_cells hb).2] at q
  exact ⟨_, _, q⟩
theorem sp_int_divmod (ok : (CC w B mg mb).Ok) (a b : Int) (ta tb : Tok) (M k : Nat) (hb : b ≠ 0) (hbz : Builtin.Int.intBits b ≤ 3000) (ha : a.natAbs < 2 ^ M) (hM : M ≤ 90000) (hMk : M ≤ 2 ^ k) :
    Spec (CC w B mg mb) 77 (k + 6) (3 * (k + 6)) [.int a ta, .int b tb] [] (fun _ => True) (ROb (CC w B mg mb) (PT2 (a.fdiv b) (a.fmod b))) := by
  intro A c h tk Q E r H _ hk
  by_cases h0 : 0 < b
  · exact dv1 ok a b ta tb M k h0 hbz ha hM hMk A c h tk Q E (r.le (by omega) (by omega)) H trivial hk
  refine call_plain (d := k + 5) (u := 3 * (k + 5)) (binds := [("a", .int a ta), ("b", .int b tb)]) (extra := ["q", "r"]) (vs := [some (.int a ta), some (.int b tb), none, none]) ok fn_int_divmod (nm_int_divmod ok) r H (by intros; with_unfolding_all rfl) rfl rfl fun env L h₁ tk₁ V hL r' H' => ?_
  change wpAny _ _ (execs (_ :: _) _) (RetQ Q) _ _
  repeat' walk_at "s"
  rename In _ _ _ _ _ => H1
  with_reducible refine sp_ob (dv1 ok _ _ _ _ M k (by omega) (intBits_neg_le hbz) (by omega) hM hMk) r' (by omega) (by omega) H1 trivial fun d h2 tk2 H2 => ?_
  repeat' walk_at "s"
  rename In _ _ _ _ _ => H3
  refine hk _ _ _ H3.kp (H3.rob (by walk_at "mem") PTup.mut fun o q => ?_)
  rw [divmod_neg.1, divmod_neg.2] at q
  exact ⟨_, _, q⟩
end
section
variable {w : World} {B : Heap} {mg mb : Str → Option Value}
def vp : List Int → Option (Int × Nat)
  | [] => none
  | [b] => if Builtin.bitAnd b 64 = 0 then some (Builtin.bitAnd b 63, 1) else none
  | b :: c :: _ => if Builtin.bitAnd b 64 = 0 then some (Builtin.bitAnd b 63, 1) else if Builtin.bitAnd c 64 = 0 then some (Builtin.bitOr (Builtin.bitAnd b 63 * 2 ^ 6) (Builtin.bitAnd c 63), 2) else none
theorem vp_cases {ns : List Int} {i : Nat} {v : Int} {k : Nat} (h : vp (ns.drop i) = some (v, k)) : ∃ b, ns[i]? = some b ∧
    ((Builtin.bitAnd b 64 = 0 ∧ v = Builtin.bitAnd b 63 ∧ k = 1) ∨ (Builtin.bitAnd b 64 ≠ 0 ∧ ∃ c, ns[i + 1]? = some c ∧ Builtin.bitAnd c 64 = 0 ∧ v = Builtin.bitOr (Builtin.bitAnd b 63 * 2 ^ 6) (Builtin.bitAnd c 63) ∧ k = 2)) := by
  have e0 : ns[i]? = (ns.drop i)[0]? := by rw [List.getElem?_drop]; rfl
  have e1 : ns[i + 1]? = (ns.drop i)[1]? := by rw [List.getElem?_drop]
  rw [e0, e1]
  generalize ns.drop i = l at h
  match l, h with
  | [b], h =>
    refine ⟨b, rfl, ?_⟩
    rw [vp] at h
    split at h
    · rename_i q
      cases h; exact .inl ⟨q, rfl, rfl⟩
    · cases h
  | b :: c :: r, h =>
    refine ⟨b, rfl, ?_⟩
    rw [vp] at h
    split at h
    · rename_i q
      cases h; exact .inl ⟨q, rfl, rfl⟩
    · rename_i q
      split at h
      · rename_i q2
        cases h; exact .inr ⟨q, c, rfl, q2, rfl, rfl⟩
      · cases h
theorem and63_bits (b : Int) : Builtin.Int.intBits (Builtin.bitAnd b 63) ≤ 6 := by
  rw [bitAnd_m6]
  exact bits_small (by omega) (by omega)
theorem sp_parse_varint (ok : (CC w B mg mb).Ok) (it l : Addr) (ns : List Int) (i : Nat) (v : Int) (k : Nat) (hv : vp (ns.drop i) = some (v, k)) (hne : l ≠ it) :
    Spec (CC w B mg mb) 84 2 6 [.ref it] [it] (fun h => (At (CC w B mg mb) h it (PIter l i) ∧ (CC w B mg mb).B.get? it = none) ∧ At (CC w B mg mb) h l (PIntsW ns)) (fun h h' x => RInt v h h' x ∧ At (CC w B mg mb) h' it (PIter l (i + k))) := by
  intro A c h tk Q E r H ⟨⟨a1, a2⟩, a3⟩ hk
  refine call_plain (d := 1) (u := 3) (binds := [("iterator", .ref it)]) (extra := ["b", "val"]) (vs := [some (.ref it), none, none]) ok fn_parse_varint (nm_parse_varint ok) r H (by intros; with_unfolding_all rfl) rfl rfl fun env L h₁ tk₁ V hL r' H' => ?_
  have m1 : l ∉ ([it] : List Addr) := by simpa using hne
  have H1 := H'.addX1 hL a1 a2
  clear H'
  change wpAny _ _ (execs (_ :: _) _) (RetQ Q) _ _
  obtain ⟨b, hb, hc⟩ := vp_cases hv
  repeat' walk_at "s"
  rename In _ _ _ _ _ => H2
  refine x_while (σ := Bool × Tok × Tok) (fun st => [(it, PIter l (bif st.1 then i + 2 else i + 1)), (L, PLoc ["iterator", "b", "val"] [some (.ref it), some (.int (bif st.1 then ns.getD (i + 1) 0 else b) st.2.1), some (.int (bif st.1 then Builtin.bitOr (Builtin.bitAnd b 63 * 2 ^ 6) (Builtin.bitAnd (ns.getD (i + 1) 0) 63) else Builtin.bitAnd b 63) st.2.2)])])
    (fun st => st.1 = true → Builtin.bitAnd b 64 ≠ 0) (fun st => bif st.1 then 0 else 1) (false, _, _) H2 (fun q => nomatch q) ?_
  rintro ⟨st, t1, t2⟩ h3 tk3 H3 hI
  cases st with
  | false =>
    simp only [cond_false] at H3 ⊢
    repeat' walk_at "s"
    · rename Builtin.bitAnd b 64 ≠ 0 => hz
      rcases hc with ⟨q, _⟩ | ⟨_, d, hd, hd2, hv2, hk2⟩
      · exact absurd q hz
      repeat' walk_at "s"
      with_reducible refine r_ishl (by omega) (by have := and63_bits b; omega) ?_
      repeat' walk_at "s"
      rename In _ _ _ _ _ => H4
      have ed : ns.getD (i + 1) 0 = d := by rw [List.getD_eq_getElem?_getD, hd]; rfl
      subst ed
      exact lw_next (true, _, _) H4 (fun _ => hz) Nat.zero_lt_one
    · rename Builtin.bitAnd b 64 = 0 => hz
      rcases hc with ⟨_, hv2, hk2⟩ | ⟨q, _⟩
      · repeat' walk_at "s"
        rename In _ _ _ _ _ => H4
        rw [hk2] at hk
        exact hk _ _ _ H4.kp ⟨ri hv2.symm, H4.at List.mem_cons_self⟩
      · exact absurd hz q
  | true =>
    simp only [cond_true] at H3 ⊢
    rcases hc with ⟨q, _⟩ | ⟨_, d, hd, hd2, hv2, hk2⟩
    · exact absurd q (hI rfl)
    have ed : ns.getD (i + 1) 0 = d := by rw [List.getD_eq_getElem?_getD, hd]; rfl
    rw [ed] at H3
    repeat' walk_at "s"
    rename In _ _ _ _ _ => H4
    rw [hk2] at hk
    exact hk _ _ _ H4.kp ⟨ri hv2.symm, H4.at List.mem_cons_self⟩

def rd : Nat → List Int → Option (List Int × Nat)
  | 0, _ => none
  | f + 1, ns => (vp ns).bind fun p => if p.1 = 0 then some ([], p.2) else (rd f (ns.drop p.2)).map fun q => (p.1 :: q.1, p.2 + q.2)
theorem rd_step {f : Nat} {ns : List Int} {row : List Int} {k i : Nat} (h : rd f (ns.drop i) = some (row, k)) : ∃ f' num k1, f = f' + 1 ∧ vp (ns.drop i) = some (num, k1) ∧
    ((num = 0 ∧ row = [] ∧ k = k1) ∨ (num ≠ 0 ∧ ∃ r2 k2, rd f' (ns.drop (i + k1)) = some (r2, k2) ∧ row = num :: r2 ∧ k = k1 + k2)) := by
  match f, h with
  | f' + 1, h =>
    rw [rd] at h
    obtain ⟨⟨num, k1⟩, e1, e2⟩ := Option.bind_eq_some_iff.mp h
    refine ⟨f', num, k1, rfl, e1, ?_⟩
    dsimp only at e2
    split at e2
    · cases e2; exact .inl ⟨by assumption, rfl, rfl⟩
    · obtain ⟨⟨r2, k2⟩, e3, e4⟩ := Option.map_eq_some_iff.mp e2
      cases e4
      rw [List.drop_drop] at e3
      exact .inr ⟨by assumption, r2, k2, e3, rfl, rfl⟩
theorem sp_law_read (ok : (CC w B mg mb).Ok) (it l : Addr) (ns : List Int) (i : Nat) (row : List Int) (k f : Nat) (hv : rd f (ns.drop i) = some (row, k)) (hne : l ≠ it) (hz : f ≤ 1000) :
    Spec (CC w B mg mb) 117 3 9 [.ref it] [it] (fun h => (At (CC w B mg mb) h it (PIter l i) ∧ (CC w B mg mb).B.get? it = none) ∧ At (CC w B mg mb) h l (PIntsW ns)) (fun h h' x => ROb (CC w B mg mb) (PInts row) h h' x ∧ At (CC w B mg mb) h' it (PIter l (i + k))) := by
  intro A c h tk Q E r H ⟨⟨a1, a2⟩, a3⟩ hk
  refine call_plain (d := 2) (u := 6) (binds := [("iterator", .ref it)]) (extra := ["row", "number"]) (vs := [some (.ref it), none, none]) ok fn_law_read (nm_law_read ok) r H (by intros; with_unfolding_all rfl) rfl rfl fun env L h₁ tk₁ V hL r' H' => ?_
  have m1 : l ∉ ([it] : List Addr) := by simpa using hne
  have H1 := H'.addX1 hL a1 a2
  clear H'
  change wpAny _ _ (execs (_ :: _) _) (RetQ Q) _ _
  repeat' walk_at "s"
  rename In _ _ _ _ _ => H2
  obtain ⟨f0, num0, k0, ef, ev0, hc0⟩ := rd_step hv
  with_reducible refine sp_w (sp_parse_varint ok it l ns i num0 k0 ev0 hne) r' (by decide) (by decide) H2 (by walk_at "ch") PIter.mut ⟨H2.ownB (by walk_at "mem") PIter.mut, H2.of a3 m1⟩ fun v h3 tk3 H3 hv3 => ?_
  obtain ⟨t3, rfl⟩ := hv3
  repeat' walk_at "s"
  rename In _ _ _ _ _ => H4
  refine x_while (σ := (List Int × Nat × Int × Nat) × Addr × Tok) (fun st => [(st.2.1, PInts st.1.1), (it, PIter l st.1.2.1), (L, PLoc ["iterator", "row", "number"] [some (.ref it), some (.ref st.2.1), some (.int st.1.2.2.1 st.2.2)])])
    (fun st => st.1.1.length + st.1.2.2.2 + 1 = f ∧ ((st.1.2.2.1 = 0 ∧ st.1.1 = row ∧ st.1.2.1 = i + k) ∨ (st.1.2.2.1 ≠ 0 ∧ ∃ r2 k2, rd st.1.2.2.2 (ns.drop st.1.2.1) = some (r2, k2) ∧ row = st.1.1 ++ st.1.2.2.1 :: r2 ∧ i + k = st.1.2.1 + k2)))
    (fun st => st.1.2.2.2) (([], i + k0, num0, f0), _, _) H4 ?_ ?_
  · refine ⟨by dsimp only; rw [ef]; simp, ?_⟩
    rcases hc0 with ⟨q1, q2, q3⟩ | ⟨q1, r2, k2, q2, q3, q4⟩
    · exact .inl ⟨q1, q2.symm, by dsimp only; omega⟩
    · exact .inr ⟨q1, r2, k2, q2, q3, by dsimp only; omega⟩
  rintro ⟨⟨pre, p, num, f1⟩, rl, t1⟩ h5 tk5 H5 ⟨hf, hI⟩
  dsimp only at H5 hI hf ⊢
  have hpz : pre.length ≤ 1000 := by omega
  repeat' walk_at "s"
  · rename num = 0 => hn0
    rcases hI with ⟨_, q2, q3⟩ | ⟨q1, _⟩
    · rename In _ _ _ _ _ => H6
      subst q2 q3
      have nn := H6.nodup
      simp only [List.map_cons, List.map_nil, List.nodup_cons, List.mem_cons, not_or] at nn
      refine hk _ _ _ H6.kp ⟨⟨rl, rfl, ?_, H6.at (by walk_at "mem")⟩, H6.at (by walk_at "mem")⟩
      exact ((H6.own (l := rl) (P := PInts pre) (by walk_at "mem") PInts.mut).2.2.2).resolve_right (by simpa using nn.1.1)
    · exact absurd hn0 q1
  · rename num ≠ 0 => hn0
    rcases hI with ⟨q1, _⟩ | ⟨_, r2, k2, q2, q3, q4⟩
    · exact absurd q1 hn0
    obtain ⟨f2, num2, k3, ef2, ev2, hc2⟩ := rd_step q2
    rename In _ _ _ _ _ => H6
    with_reducible refine sp_w (sp_parse_varint ok it l ns p num2 k3 ev2 hne) r' (by decide) (by decide) H6 (by walk_at "ch") PIter.mut ⟨H6.ownB (by walk_at "mem") PIter.mut, H6.of a3 m1⟩ fun v h7 tk7 H7 hv7 => ?_
    obtain ⟨t7, rfl⟩ := hv7
    repeat' walk_at "s"
    rename In _ _ _ _ _ => H8
    refine lw_next ((pre ++ [num], p + k3, num2, f2), _, _) H8 ⟨?_, ?_⟩ ?_
    · dsimp only; rw [List.length_append, List.length_singleton]; omega
    · rcases hc2 with ⟨q5, q6, q7⟩ | ⟨q5, r3, k4, q6, q7, q8⟩
      · refine .inl ⟨q5, ?_, by dsimp only; omega⟩
        rw [q3, q6]
      · refine .inr ⟨q5, r3, k4, q6, ?_, by dsimp only; omega⟩
        rw [q3, q7]; simp
    · dsimp only; omega
end
section
variable {w : World} {B : Heap} {mg mb : Str → Option Value}
def enc (x : Int) : List Int := if 63 < x then [x.fdiv 64 + 64, x.fmod 64] else [x.fmod 64]
def octs (row : List Int) : List Int := row.flatMap enc ++ [0]
theorem enc_len (x : Int) : (enc x).length ≤ 2 := by unfold enc; split <;> simp
theorem flat_len : ∀ row : List Int, (row.flatMap enc).length ≤ 2 * row.length
  | [] => by simp
  | x :: r => by
    have := flat_len r; have := enc_len x
    simp only [List.flatMap_cons, List.length_append, List.length_cons]; omega
theorem sp_law_octets (ok : (CC w B mg mb).Ok) (l : Addr) (row : List Int) (hz : row.length ≤ 1000) :
    Spec (CC w B mg mb) 110 1 3 [.ref l] [] (fun h => At (CC w B mg mb) h l (PIntsW row)) (ROb (CC w B mg mb) (PInts (octs row))) := by
  intro A c h tk Q E r H a1 hk
  refine call_plain (d := 0) (u := 0) (binds := [("row", .ref l)]) (extra := ["octets", "number"]) (vs := [some (.ref l), none, none]) ok fn_law_octets (nm_law_octets ok) r H (by intros; with_unfolding_all rfl) rfl rfl fun env L h₁ tk₁ V hL r' H' => ?_
  change wpAny _ _ (execs (_ :: _) _) (RetQ Q) _ _
  repeat' walk_at "s"
  rename In _ _ _ _ _ => H2
  with_reducible refine for_il (σ := List Int × Addr × Option Value) (l := l) (ns := row) (fun st => [(st.2.1, PInts st.1), (L, PLoc ["row", "octets", "number"] [some (.ref l), some (.ref st.2.1), st.2.2])]) (fun i st => st.1 = (row.take i).flatMap enc) [] ([], _, none) ok r'.hh (fun h n H _ => (H.of0 a1).ilW) (fun _ p hp => absurd hp List.not_mem_nil) ?_ H2 ?_ ?_ ?_
  · intro _ _; rfl
  · simp
  · rintro i j t it ⟨os, ol, v⟩ h3 tk3 e hI H3
    dsimp only at hI H3 ⊢
    have hi : i < row.length := (List.getElem?_eq_some_iff.mp e).1
    have ho : os.length ≤ 2000 := by
      rw [hI]
      have := flat_len (row.take i)
      have := List.length_take_le i row
      omega
    have et : row.take (i + 1) = row.take i ++ [j] := by rw [List.take_add_one, e]; rfl
    repeat' walk_at "s"
    · rename In _ _ _ _ _ => H4
      refine lf_next (_, ol, some (.int j t)) H4 ?_
      dsimp only
      rw [et, List.flatMap_append, ← hI]
      simp [enc, *]
    · rename In _ _ _ _ _ => H4
      refine lf_next (_, ol, some (.int j t)) H4 ?_
      dsimp only
      rw [et, List.flatMap_append, ← hI]
      simp [enc, *]
  · rintro ⟨os, ol, v⟩ h3 tk3 hI H3
    dsimp only at hI H3 ⊢
    have ho : os.length ≤ 2000 := by
      rw [hI]
      have := flat_len (row.take row.length)
      have := List.length_take_le row.length row
      omega
    repeat' walk_at "s"
    rename In _ _ _ _ _ => H4
    refine hk _ _ _ H4.kp (H4.rob (by walk_at "mem") PInts.mut fun o q => ?_)
    rw [hI, List.take_length] at q
    exact q
theorem sp_law_digits (ok : (CC w B mg mb).Ok) (l : Addr) (row : List Int) (hz : row.length ≤ 1000) :
    Spec (CC w B mg mb) 129 2 6 [.ref l] [] (fun h => At (CC w B mg mb) h l (PIntsW row)) (ROb (CC w B mg mb) (PInts (row.reverse.map fun x => if 256 ≤ x then 1 else 0))) := by
  intro A c h tk Q E r H a1 hk
  refine call_plain (d := 1) (u := 3) (binds := [("row", .ref l)]) (extra := []) (vs := [some (.ref l)]) ok fn_law_digits (nm_law_digits ok) r H (by intros; with_unfolding_all rfl) rfl rfl fun env L h₁ tk₁ V hL r' H' => ?_
  change wpAny _ _ (execs (_ :: _) _) (RetQ Q) _ _
  repeat' walk_at "s"
  refine e_comp (ks' := [".0", "symbol"]) (fs := []) (oc := []) (gn := ["ISNONTERMINAL"]) V ?_ (fun _ h => absurd h List.not_mem_nil) (fun _ => rfl) fun cl hcl => ?_
  · exact ⟨by decide +kernel, by decide +kernel, by decide +kernel, by decide +kernel, by decide +kernel, by decide +kernel, by decide +kernel, rfl⟩
  repeat' walk_at "s"
  rename In _ _ _ _ _ => H2
  refine ck_il (ks' := [".0", "symbol"]) (fs := []) (gn := ["ISNONTERMINAL"]) (cs' := []) (gs' := [("ISNONTERMINAL", .ref 28)]) (n₀ := [(_, PInts row.reverse)]) (fun i => (row.reverse.take i).map fun x => if 256 ≤ x then 1 else 0) ok r'.hh V (by walk_at "cs") (by decide +kernel) (by walk_at "all") (by walk_at "gs") hcl
    (fun h n H hn => (H.at (hn _ List.mem_cons_self)).il) (fun p hp => by rw [List.mem_singleton.mp hp]; walk_at "mem") (by walk_at "num") rfl (fun _ => rfl) H2 ?_ ?_
  · intro C' env' D i j t vs ys h3 tk3 V3 e hI H3 hlen
    obtain ⟨v1, v2, rfl⟩ := len2 hlen
    repeat' walk_at "s"
    all_goals
      rename In _ _ _ _ _ => H4
      refine cp_elt ⟨[v1, some (.int j t)], rfl⟩ H4 fun _ _ => ia_snoc hI ?_
      rw [take_snoc e]
      simp [*]
  · intro C' D vs h3 tk3 H3
    refine fin_none ok H3 fun h4 H4 _ => ?_
    repeat' walk_at "s"
    refine hk _ _ _ H4.kp (H4.rob (by walk_at "mem") PInts.mut fun o q => ?_)
    rw [List.take_length] at q
    exact q

def lrow (order : List Int) : Nat → Int → Int → Option (List Int)
  | 0, _, _ => none
  | f + 1, low, high => if low = high then some [low + 249] else
    match (order.filter fun r => low ≤ r ∧ r < high)[0]? with
    | none => none
    | some top => (lrow order f low top).bind fun a => (lrow order f (top + 1) high).map fun b => [256 + top] ++ a ++ b
theorem lrow_step {order : List Int} {f : Nat} {low high : Int} {row : List Int} (h : lrow order (f + 1) low high = some row) :
    (low = high ∧ row = [low + 249]) ∨ (low ≠ high ∧ ∃ top a b, (order.filter fun r => low ≤ r ∧ r < high)[0]? = some top ∧ lrow order f low top = some a ∧ lrow order f (top + 1) high = some b ∧ row = [256 + top] ++ a ++ b) := by
  rw [lrow] at h
  split at h
  · cases h; exact .inl ⟨by assumption, rfl⟩
  · refine .inr ⟨by assumption, ?_⟩
    split at h
    · cases h
    · rename_i top et
      obtain ⟨a, ea, h⟩ := Option.bind_eq_some_iff.mp h
      obtain ⟨b, eb, h⟩ := Option.map_eq_some_iff.mp h
      exact ⟨top, a, b, et, ea, eb, h.symm⟩
theorem sp_law_row (ok : (CC w B mg mb).Ok) (l : Addr) (order : List Int) (hz : order.length ≤ 1000) : ∀ (f : Nat) (low high : Int) (t1 t2 : Tok) (row : List Int), lrow order f low high = some row → row.length ≤ 1000 →
    Spec (CC w B mg mb) 103 f (3 * f) [.ref l, .int low t1, .int high t2] [] (fun h => At (CC w B mg mb) h l (PIntsW order)) (ROb (CC w B mg mb) (PInts row)) := by
  intro f
  induction f with
  | zero => intro _ _ _ _ _ h; cases h
  | succ f ih =>
    intro low high t1 t2 row hrow hrz A c h tk Q E r H a1 hk
    refine call_cells (d := f) (u := 3 * f) (binds := [("order", .ref l), ("low", .int low t1), ("high", .int high t2)]) (vs := [some (.ref l), none]) (us := [some (.int low t1), some (.int high t2)]) ok fn_law_row (nm_law_row ok) r H (by intros; with_unfolding_all rfl) (by walk_at "nd") (by walk_at "all") (by walk_at "bd") (by walk_at "bd") fun env L as h₁ tk₁ V hC hcd hq hl hL r' H' => ?_
    obtain ⟨b1, b2, rfl⟩ := len2 hl
    have V1 : EnvF (CC w B mg mb) env L ["order", "top"] [("low", b1), ("high", b2)] [("_law_row", .ref 103)] := V
    have H1 : In (CC w B mg mb) [] h h₁ [(L, PLoc ["order", "top"] [some (.ref l), none]), (b1, PCell (some (.int low t1))), (b2, PCell (some (.int high t2)))] := H'
    clear V H'
    change wpAny _ _ (execs (_ :: _) _) (RetQ Q) _ _
    rcases lrow_step hrow with ⟨e1, e2⟩ | ⟨e1, top, ra, rb, et, ea, eb, e2⟩
    · repeat' walk_at "s"
      rename In _ _ _ _ _ => H2
      refine hk _ _ _ H2.kp (H2.rob (by walk_at "mem") PInts.mut fun o q => ?_)
      rw [e2]; exact q
    · repeat' walk_at "s"
      rename In _ _ _ _ _ => H2
      refine e_comp (ks' := [".0", "rank"]) (fs := ["low", "high"]) (oc := []) (gn := []) V1 (by walk_at "cs") (by walk_at "has") (fun _ => rfl) fun cl hcl => ?_
      repeat' walk_at "s"
      rename In _ _ _ _ _ => H3
      refine ck_il (ks' := [".0", "rank"]) (fs := ["low", "high"]) (gn := []) (cs' := [("low", b1), ("high", b2)]) (gs' := []) (n₀ := []) (fun i => (order.take i).filter fun r => low ≤ r ∧ r < high) ok r'.hh V1 (by walk_at "cs") (by decide +kernel) (by walk_at "all2") (by walk_at "gs") hcl
        (fun h n H _ => (H.of0 a1).ilW) (fun p hp => absurd hp List.not_mem_nil) (by walk_at "num") rfl (fun _ => rfl) H3 ?_ ?_
      · intro C' env' D i j t vs ys h3 tk3 V3 e hI H3 hlen
        obtain ⟨v1, v2, rfl⟩ := len2 hlen
        repeat' walk_at "s"
        all_goals rename In _ _ _ _ _ => H4
        · refine cp_elt ⟨[v1, some (.int j t)], rfl⟩ H4 fun _ _ => ia_snoc hI ?_
          rw [take_snoc e, List.filter_append]
          simp [*]
        all_goals
          refine cp_skip ⟨[v1, some (.int j t)], rfl⟩ H4 ?_
          rw [take_snoc e, List.filter_append, List.filter_cons_of_neg (by simp only [decide_eq_true_eq]; omega), List.filter_nil, List.append_nil]
          exact hI
      · intro C' D vs h3 tk3 H3
        refine fin_none ok H3 fun h4 H4 _ => ?_
        rw [List.take_length] at H4
        have hfl : 0 < (order.filter fun r => low ≤ r ∧ r < high).length := (List.getElem?_eq_some_iff.mp et).1
        have hft : (order.filter fun r => low ≤ r ∧ r < high).getD (0 : Int).toNat 0 = top := by
          rw [List.getD_eq_getElem?_getD, show (0 : Int).toNat = 0 from rfl, et]; rfl
        repeat' walk_at "s"
        rw [hft]
        have hl2 : row.length = 1 + ra.length + rb.length := by rw [e2]; simp; omega
        rename In _ _ _ _ _ => H5
        with_reducible refine sp_ob (ih low top _ _ ra ea (by omega)) r' (Nat.le_refl _) (Nat.le_refl _) H5 (H5.of0 a1) fun d1 h6 tk6 H6 => ?_
        repeat' walk_at "s"
        rw [hft]
        repeat' walk_at "s"
        rename In _ _ _ _ _ => H7
        with_reducible refine sp_ob (ih (top + 1) high _ _ rb eb (by omega)) r' (Nat.le_refl _) (Nat.le_refl _) H7 (H7.of0 a1) fun d2 h8 tk8 H8 => ?_
        repeat' walk_at "s"
        rename In _ _ _ _ _ => H9
        refine hk _ _ _ H9.kp (H9.rob (by walk_at "mem") PInts.mut fun o q => ?_)
        rw [e2]
        rw [hft] at q
        exact q
end
section
variable {w : World} {B : Heap} {mg mb : Str → Option Value}
def aheadL (order : List Int) (rank : Int) : List Int := order.take (order.idxOf rank)
def candL (order : List Int) (rank : Int) : List Int := (aheadL order rank).filter fun one => ((aheadL order rank).filter fun k => min one rank < k ∧ k < max one rank) = []
theorem sp_law_above (ok : (CC w B mg mb).Ok) (l : Addr) (order : List Int) (rank : Int) (t : Tok) (hz : order.length ≤ 1000) (hx : rank ∈ order) (hlay : PyData.layable0 (.list (order.map .int)) = true) (hc : 0 < (candL order rank).length) :
    Spec (CC w B mg mb) 139 1 80 [.ref l, .int rank t] [] (fun h => At (CC w B mg mb) h l (PInts order)) (RInt ((candL order rank).getD ((candL order rank).length - 1) 0)) := by
  intro A c h tk Q E r H a1 hk
  refine call_cells (d := 0) (u := 77) (binds := [("order", .ref l), ("rank", .int rank t)]) (vs := [some (.ref l)]) (us := [some (.int rank t), none]) ok fn_law_above (nm_law_above ok) r H (by intros; with_unfolding_all rfl) (by walk_at "nd") (by walk_at "all") (by walk_at "bd") (by walk_at "bd") fun env L as h₁ tk₁ V hC hcd hq hl hL r' H' => ?_
  obtain ⟨b1, b2, rfl⟩ := len2 hl
  have V1 : EnvF (CC w B mg mb) env L ["order"] [("rank", b1), ("ahead", b2)] [] := V
  have H1 : In (CC w B mg mb) [] h h₁ [(L, PLoc ["order"] [some (.ref l)]), (b1, PCell (some (.int rank t))), (b2, PCell none)] := H'
  clear V H'
  change wpAny _ _ (execs (_ :: _) _) (RetQ Q) _ _
  repeat' walk_at "s"
  rename In _ _ _ _ _ => H2
  with_reducible refine idx_il (H2.of0 a1).il hx hlay fun _ _ => ?_
  repeat' walk_at "s"
  refine e_comp (ks' := [".0"]) (fs := ["rank", "ahead"]) (oc := ["one"]) (gn := []) V1 (by walk_at "cs") (by walk_at "has") (fun _ => rfl) fun cl hcl => ?_
  repeat' walk_at "s"
  rename In _ _ _ _ _ => H3
  have ha : (order.take ((order.idxOf rank : Nat) : Int).toNat) = aheadL order rank := by rw [Int.toNat_natCast]; rfl
  rw [ha] at H3
  have haz : (aheadL order rank).length ≤ 1000 := by unfold aheadL; simp; omega
  unfold candL at hc hk
  generalize hA : aheadL order rank = ahead at *
  refine ck_il1 (ks' := [".0"]) (fs := ["rank", "ahead"]) (gn := []) (x := "one") (cs' := [("rank", b1), ("ahead", b2)]) (gs' := []) (n₀ := [(_, PInts ahead)]) (fun i => (ahead.take i).filter fun one => (ahead.filter fun k => min one rank < k ∧ k < max one rank) = []) ok r'.hh V1 (by walk_at "cs") (by decide +kernel) (by decide +kernel) (by walk_at "all2") (by walk_at "gs") hcl
    (fun h n H hn => (H.at (hn _ List.mem_cons_self)).il) (fun p hp => by rw [List.mem_singleton.mp hp]; walk_at "mem") (by walk_at "num") rfl (fun _ => rfl) H3 ?_ ?_
  · intro C' b env' D i j t vs u ys h3 tk3 V3 hC3 e hI H3 hlen
    obtain ⟨v1, rfl⟩ := len1 hlen
    repeat' walk_at "s"
    refine e_comp (ks' := [".0", "k"]) (fs := ["one", "rank"]) (oc := []) (gn := ["min", "max"]) V3 (by walk_at "cs") (by walk_at "has") (fun _ => rfl) fun cl hcl => ?_
    repeat' walk_at "s"
    rename In _ _ _ _ _ => H4
    refine ck_il (ks' := [".0", "k"]) (fs := ["one", "rank"]) (gn := ["min", "max"]) (cs' := [("one", b), ("rank", b1)]) (gs' := [("min", .builtin "min"), ("max", .builtin "max")]) (n₀ := [(_, PInts ahead)]) (fun i => (ahead.take i).filter fun k => min j rank < k ∧ k < max j rank) ok r'.hh V3 (by walk_at "cs") (by decide +kernel) (by walk_at "all2") (by walk_at "gs") hcl
      (fun h n H hn => (H.at (hn _ List.mem_cons_self)).il) (fun p hp => by rw [List.mem_singleton.mp hp]; walk_at "mem") (by walk_at "num") rfl (fun _ => rfl) H4 ?_ ?_
    · intro C'' env'' D2 i2 j2 t2 vs2 ys2 h5 tk5 V5 e5 hI5 H5 hlen5
      obtain ⟨w1, w2, rfl⟩ := len2 hlen5
      repeat' walk_at "s"
      all_goals rename In _ _ _ _ _ => H6
      · refine cp_elt ⟨[w1, some (.int j2 t2)], rfl⟩ H6 fun _ _ => ia_snoc hI5 ?_
        rw [take_snoc e5, List.filter_append, List.filter_cons_of_pos (by simp only [decide_eq_true_eq]; omega), List.filter_nil]
      all_goals
        refine cp_skip ⟨[w1, some (.int j2 t2)], rfl⟩ H6 ?_
        rw [take_snoc e5, List.filter_append, List.filter_cons_of_neg (by simp only [decide_eq_true_eq]; omega), List.filter_nil, List.append_nil]
        exact hI5
    · intro C'' D2 vs2 h5 tk5 H5
      refine fin_none ok H5 fun h6 H6 _ => ?_
      rw [List.take_length] at H6
      have hfz : (ahead.filter fun k => min j rank < k ∧ k < max j rank).length ≤ 1000 := Nat.le_trans (List.length_filter_le _ _) haz
      repeat' walk_at "s"
      · rename List.filter _ _ = [] => q
        rename In _ _ _ _ _ => H7
        refine cp_elt (⟨[v1], rfl⟩, some (.int j t)) H7.tail.tail fun _ _ => ia_snoc hI ?_
        rw [take_snoc e, List.filter_append, List.filter_cons_of_pos (by simpa using q), List.filter_nil]
      · rename ¬ List.filter _ _ = [] => q
        rename In _ _ _ _ _ => H7
        refine cp_skip (⟨[v1], rfl⟩, some (.int j t)) H7.tail.tail ?_
        rw [take_snoc e, List.filter_append, List.filter_cons_of_neg (by simpa using q), List.filter_nil, List.append_nil]
        exact hI
  · intro C' D vs h3 tk3 H3
    refine fin_none ok H3 fun h4 H4 _ => ?_
    rw [List.take_length] at H4
    repeat' walk_at "s"
    rename In _ _ _ _ _ => H5
    refine hk _ _ _ H5.kp (ri ?_)
    congr 1
    omega
end
section
variable {w : World} {B : Heap} {mg mb : Str → Option Value}
def sc (i j : Nat) : Int := if i = j then 0 else if lowEq i j then 1 else 2
def LowOk (i : Nat) : Prop := Builtin.Str.tooLong (Txt.lower (mks [i])).length = false
theorem sp_sub (ok : (CC w B mg mb).Ok) (i j : Nat) (t u : Tok) (hi : LowOk i) (hj : LowOk j) : Spec (CC w B mg mb) 91 1 3 [.str (mks [i]) t, .str (mks [j]) u] [] (fun _ => True) (RInt (sc i j)) := by
  intro A c h tk Q E r H _ hk
  refine call_plain (d := 0) (u := 0) (binds := [("ch_a", .str (mks [i]) t), ("ch_b", .str (mks [j]) u)]) (extra := []) (vs := [some (.str (mks [i]) t), some (.str (mks [j]) u)]) ok fn_substitution_cost (nm_substitution_cost ok) r H (by intros; with_unfolding_all rfl) rfl rfl fun env L h₁ tk₁ V hL r' H' => ?_
  change wpAny _ _ (execs (_ :: _) _) (RetQ Q) _ _
  repeat' walk_at "s"
  · refine hk _ _ _ (In.kp (by assumption)) (ri ?_)
    have : i = j := by simpa using (by assumption : [i] = [j])
    simp [sc, this]
  · have hne : i ≠ j := by simpa using (by assumption : ¬ [i] = [j])
    have hi' : Builtin.Str.tooLong (Txt.lower (mks [i])).length = false := hi
    have hj' : Builtin.Str.tooLong (Txt.lower (mks [j])).length = false := hj
    with_reducible refine r_lower hi' fun _ _ => ?_
    repeat' walk_at "s"
    with_reducible refine r_lower hj' fun _ _ => ?_
    with_reducible refine r_eqS ?_
    repeat' walk_at "s"
    with_reducible refine br_any (fun q => ?_) (fun q => ?_)
    · repeat' walk_at "s"
      refine hk _ _ _ (In.kp (by assumption)) (ri ?_)
      have q' : lowEq i j = true := q
      simp [sc, hne, q']
    · repeat' walk_at "s"
      refine hk _ _ _ (In.kp (by assumption)) (ri ?_)
      have q' : lowEq i j = false := q
      simp [sc, hne, q']

def stepRow (bc : Nat) : List Nat → List Int → Int → Int → Int → List Int × Int × Int
  | x :: xs, v :: vs, d, r, m =>
    let r' := min (min r v + 2) (d + sc bc x)
    let q := stepRow bc xs vs v r' (if r' < m then r' else m)
    (r' :: q.1, q.2)
  | _, _, _, r, m => ([], r, m)
def levRows (a : List Nat) (mx : Int) : List Nat → Int → List Int → Int → Int
  | [], _, _, res => res
  | bc :: bs, k, row, _ => let q := stepRow bc a row (k * 2) (k * 2) 9223372036854775807
    if mx < q.2.2 then mx + 1 else levRows a mx bs (k + 1) q.1 q.2.1
def cpre : List Nat → List Nat → Nat
  | x :: xs, y :: ys => if x = y then cpre xs ys + 1 else 0
  | _, _ => 0
def row0 (m : Nat) : List Int := (List.range m).map fun (i : Nat) => 2 + (i : Int) * 2
def levCore (a b : List Nat) (mx : Int) : Int :=
  if mx < ((b.length : Int) - a.length) * 2 then mx + 1 else levRows a mx b 0 (row0 a.length) 0
def levCut (a b : List Nat) (mx : Int) : Int :=
  if a = [] ∨ b = [] then 2 * ((a.length : Int) + b.length) else if 40 < a.length ∨ 40 < b.length then mx + 1 else
  if b.length < a.length then levCore b a mx else levCore a b mx
def lev (a b : List Nat) (mx : Int) : Int :=
  if a = b then 0 else
  let a1 := a.drop (cpre a b)
  let b1 := b.drop (cpre a b)
  let s := cpre a1.reverse b1.reverse
  levCut (a1.take (a1.length - s)) (b1.take (b1.length - s)) mx
theorem cpre_le : ∀ a b : List Nat, cpre a b ≤ a.length ∧ cpre a b ≤ b.length
  | [], _ => by simp [cpre]
  | _ :: _, [] => by simp [cpre]
  | x :: xs, y :: ys => by
    have := cpre_le xs ys
    rw [cpre]; split <;> simp <;> omega
theorem cpre_drop : ∀ (a b : List Nat) (i : Nat), i ≤ cpre a b → cpre (a.drop i) (b.drop i) = cpre a b - i
  | _, _, 0, _ => by simp
  | [], _, i + 1, h => by simp [cpre] at h
  | _ :: _, [], i + 1, h => by simp [cpre] at h
  | x :: xs, y :: ys, i + 1, h => by
    rw [cpre] at h ⊢
    split at h
    · rename_i e
      rw [if_pos e, List.drop_succ_cons, List.drop_succ_cons, cpre_drop xs ys i (by omega)]; omega
    · omega
theorem cpre_get {a b : List Nat} {i : Nat} (hi : i < cpre a b) : ∃ d, a[i]? = some d ∧ b[i]? = some d := by
  have h1 := cpre_drop a b i (by omega)
  obtain ⟨x, xs, ex⟩ : ∃ x xs, a.drop i = x :: xs := by
    cases q : a.drop i with
    | nil => rw [q, show cpre [] (b.drop i) = 0 by simp [cpre]] at h1; omega
    | cons x xs => exact ⟨x, xs, rfl⟩
  obtain ⟨y, ys, ey⟩ : ∃ y ys, b.drop i = y :: ys := by
    cases q : b.drop i with
    | nil => rw [q, ex, show cpre (x :: xs) [] = 0 by simp [cpre]] at h1; omega
    | cons y ys => exact ⟨y, ys, rfl⟩
  rw [ex, ey, cpre] at h1
  have exy : x = y := by
    by_cases q : x = y
    · exact q
    · rw [if_neg q] at h1; omega
  have e1 : a[i]? = (a.drop i)[0]? := by rw [List.getElem?_drop]; rfl
  have e2 : b[i]? = (b.drop i)[0]? := by rw [List.getElem?_drop]; rfl
  exact ⟨x, by rw [e1, ex]; rfl, by rw [e2, ey, exy]; rfl⟩
theorem cpre_stop {a b : List Nat} {x y : Nat} (e1 : a[cpre a b]? = some x) (e2 : b[cpre a b]? = some y) : x ≠ y := fun exy => by
  have h1 := cpre_drop a b (cpre a b) (Nat.le_refl _)
  have l1 := (List.getElem?_eq_some_iff.mp e1).1
  have l2 := (List.getElem?_eq_some_iff.mp e2).1
  rw [List.drop_eq_getElem_cons l1, List.drop_eq_getElem_cons l2, cpre, if_pos (by rw [← (List.getElem?_eq_some_iff.mp e1).2, ← (List.getElem?_eq_some_iff.mp e2).2] at exy; exact exy)] at h1
  omega
theorem rev_get {a : List Nat} {i : Nat} {x : Nat} (h : a.reverse[i]? = some x) : i < a.length ∧ a[a.length - 1 - i]? = some x := by
  have hl : i < a.length := by
    have := (List.getElem?_eq_some_iff.mp h).1
    simpa using this
  exact ⟨hl, by rw [List.getElem?_reverse hl] at h; exact h⟩
theorem rev_get' {a : List Nat} {i : Nat} {x : Nat} (hl : i < a.length) (h : a[a.length - 1 - i]? = some x) : a.reverse[i]? = some x := by rw [List.getElem?_reverse hl]; exact h
theorem stepRow_len (bc : Nat) : ∀ (a : List Nat) (row : List Int) (d r m : Int), row.length = a.length → (stepRow bc a row d r m).1.length = a.length
  | [], [], _, _, _, _ => rfl
  | x :: xs, v :: vs, d, r, m, h => by
    simp only [stepRow, List.length_cons]
    rw [stepRow_len bc xs vs _ _ _ (by simpa using h)]
theorem br_ne {α : Type} {l : List α} {X Y : Prop} (k1 : l ≠ [] → X) (k2 : l = [] → Y) : Br (!l.isEmpty) X Y := by
  cases l with
  | nil => exact k2 rfl
  | cons a r => exact k1 (List.cons_ne_nil _ _)
local macro_rules | `(tactic| walk_at "s") => `(tactic| first
  | ((with_reducible refine br_ne ?_ ?_) <;> intro _))
abbrev levKs : List Str := ["a", "b", "max_cost", "pre", "post", "row", "result", "bindex", "bchar", "distance", "minimum", "index", "substitute", "insert_delete"]
abbrev levGs : List (Str × Value) := [("_MOVE_COST", .int 2 311), ("len", .builtin "len"), ("_MAX_STRING_SIZE", .int 40 309), ("list", .type "list"), ("range", .type "range"), ("_substitution_cost", .ref 91), ("min", .builtin "min")]
def StI (bc : Nat) (a : List Nat) (row : List Int) (R : List Int × Int × Int) (j : Nat) (row' : List Int) (d r m : Int) : Prop :=
  ∃ dn : List Int, dn.length = j ∧ row' = dn ++ row.drop j ∧ dn ++ (stepRow bc (a.drop j) (row.drop j) d r m).1 = R.1 ∧ (stepRow bc (a.drop j) (row.drop j) d r m).2 = R.2
theorem StI.step {bc : Nat} {a : List Nat} {row : List Int} {R : List Int × Int × Int} {j : Nat} {row' : List Int} {d r m : Int} (h : StI bc a row R j row' d r m) (hl : row.length = a.length) {x : Nat} (hx : a[j]? = some x) :
    row'.length = a.length ∧ row'.getD j 0 = row.getD j 0 ∧ ∀ r', r' = min (min r (row.getD j 0) + 2) (d + sc bc x) → StI bc a row R (j + 1) (row'.set j r') (row.getD j 0) r' (if r' < m then r' else m) := by
  obtain ⟨dn, h1, h2, h3, h4⟩ := h
  have hja : j < a.length := (List.getElem?_eq_some_iff.mp hx).1
  have hjr : j < row.length := by omega
  have ew : row.drop j = row.getD j 0 :: row.drop (j + 1) := by
    rw [List.drop_eq_getElem_cons hjr, List.getD_eq_getElem?_getD, List.getElem?_eq_getElem hjr]; rfl
  have ea : a.drop j = x :: a.drop (j + 1) := by
    rw [List.drop_eq_getElem_cons hja, (List.getElem?_eq_some_iff.mp hx).2]
  refine ⟨by rw [h2, List.length_append, List.length_drop]; omega, ?_, fun r' er => ⟨dn ++ [r'], by simp [h1], ?_, ?_, ?_⟩⟩
  · rw [h2, ew, List.getD_eq_getElem?_getD, List.getElem?_append_right (by omega), h1, Nat.sub_self]; rfl
  · rw [h2, ew, List.set_append_right _ _ (by omega), h1, Nat.sub_self, List.set_cons_zero]; simp
  · rw [ea, ew, stepRow] at h3
    rw [← h3, ← er]; simp
  · rw [ea, ew, stepRow] at h4
    rw [← h4, ← er]
theorem lev_core (ok : (CC w B mg mb).Ok) {A : Around} {c : Shared} {env : Env} {L : Addr} {h0 h : Heap} {tk : Nat} {Q : Value → Shared → Prop} {a b : List Nat} {mx : Int} {ta tb tm : Tok} {v1 v2 : Option Value}
    (V : EnvF (CC w B mg mb) env L levKs [] levGs) (r' : Rm A 1 3) (H : In (CC w B mg mb) [] h0 h [(L, PLoc levKs [some (.str (mks a) ta), some (.str (mks b) tb), some (.int mx tm), v1, v2, none, none, none, none, none, none, none, none, none])])
    (la : ∀ i ∈ a, LowOk i) (lb : ∀ i ∈ b, LowOk i) (za : a.length ≤ 40) (zb : b.length ≤ 40) (hab : a.length ≤ b.length) (hk : ∀ t h' tk', Kp (CC w B mg mb) [] h0 h' → Q (.int (levCore a b mx) t) (S c h' tk')) :
    wpAny (CC w B mg mb).M A (execs ((bodyAt 21).drop 12) env) (RetQ Q) (fun _ _ => False) (S c h tk) := by
  change wpAny _ _ (execs (_ :: _) _) (RetQ Q) _ _
  repeat' walk_at "s"
  with_reducible refine r_mul (IntMulOk.of_right (by decide)) ?_
  repeat' walk_at "s"
  · have e : levCore a b mx = mx + 1 := by unfold levCore; rw [if_pos (by omega)]
    rw [e] at hk
    exact hk _ _ _ (In.kp (by assumption))
  have e : levCore a b mx = levRows a mx b 0 (row0 a.length) 0 := by unfold levCore; rw [if_neg (by omega)]
  rw [e] at hk
  with_reducible refine r_mul (IntMulOk.of_left (by decide)) ?_
  repeat' walk_at "s"
  rename In _ _ _ _ _ => H2
  have hr1 : ∀ m : Fin 41, Builtin.Range.small 2 (2 * ((m.val : Nat) + 1)) 2 = true ∧ Builtin.Range.rangeSize 2 (2 * ((m.val : Nat) + 1)) 2 = (m.val : Nat) := by decide +kernel
  have hr2 : ∀ m : Fin 41, Builtin.Range.small 0 ((m.val : Nat) : Int) 1 = true ∧ Builtin.Range.rangeSize 0 ((m.val : Nat) : Int) 1 = (m.val : Nat) := by decide +kernel
  have ra := hr1 ⟨a.length, by omega⟩
  have rb := hr2 ⟨b.length, by omega⟩
  have ra2 := hr2 ⟨a.length, by omega⟩
  with_reducible refine lr_new ok r'.hh H2 (H2.at (by walk_at "mem")) ra.1 ra.2 (Nat.le_trans za (by decide)) fun rl h3 tk3 H3 => ?_
  repeat' walk_at "s"
  rename In _ _ _ _ _ => H4
  have H5 := (H4.tail.weak1 PInts.w).drop (n' := [(rl, _), (L, _)]) (.cons₂ _ (.cons _ (.refl _)))
  have H6 := H4.at List.mem_cons_self
  with_reducible refine for_range (σ := (List Int × Int × Tok) × Option Value × Option Value × Option Value × Option Value × Option Value × Option Value × Option Value) (m := b.length)
                        (fun st => [(rl, PIntsW st.1.1), (L, PLoc levKs [some (.str (mks a) ta), some (.str (mks b) tb), some (.int mx tm), v1, v2, some (.ref rl), some (.int st.1.2.1 st.1.2.2), st.2.1, st.2.2.1, st.2.2.2.1, st.2.2.2.2.1, st.2.2.2.2.2.1, st.2.2.2.2.2.2.1, st.2.2.2.2.2.2.2])])
                        (fun i st => st.1.1.length = a.length ∧ levRows a mx (b.drop i) i st.1.1 st.1.2.1 = levRows a mx b 0 (row0 a.length) 0) ((row0 a.length, 0, _), none, none, none, none, none, none, none) ok r'.hh H6 rb.2 rb.1 ?_ H5 ?_ ?_ ?_
  · intro _ _; rfl
  · refine ⟨by simp [row0], rfl⟩
  · rintro i v it ⟨⟨row, res, tr⟩, u1, u2, u3, u4, u5, u6, u7⟩ h7 tk7 hi ⟨tv, rfl⟩ ⟨hl, hI⟩ H7
    dsimp only at hl hI H7 ⊢
    simp only [Int.zero_add] at *
    obtain ⟨bc, hbc⟩ : ∃ bc, b[i]? = some bc := ⟨_, List.getElem?_eq_getElem hi⟩
    have hlbc : LowOk bc := lb bc (List.mem_of_getElem? hbc)
    rw [List.drop_eq_getElem_cons hi, show b[i] = bc from (List.getElem?_eq_some_iff.mp hbc).2, levRows] at hI
    repeat' walk_at "s"
    with_reducible refine s_item (j := i) (.inl rfl) hbc (by omega) (fun _ _ => ?_) (by with_unfolding_all rfl)
    repeat' walk_at "s"
    with_reducible refine r_mul (IntMulOk.of_right (by decide)) ?_
    repeat' walk_at "s"
    rename In _ _ _ _ _ => H8
    have H9 := H8.at List.mem_cons_self
    obtain ⟨R, hR⟩ : ∃ R, R = stepRow bc a row ((i : Int) * 2) ((i : Int) * 2) 9223372036854775807 := ⟨_, rfl⟩
    with_reducible refine for_range (σ := (List Int × Int × Int × Int) × (Tok × Tok × Tok × Tok) × Option Value × Option Value × Option Value) (m := a.length)
                          (fun st => [(it, PRIter ((i + 1 : Nat) : Int) ((b.length : Int) - ((i + 1 : Nat) : Int))), (rl, PIntsW st.1.1), (L, PLoc levKs [some (.str (mks a) ta), some (.str (mks b) tb), some (.int mx tm), v1, v2, some (.ref rl), some (.int st.1.2.2.1 st.2.1.1), some (.int i tv), some (.str (mks [bc]) st.2.1.2.1), some (.int st.1.2.1 st.2.1.2.2.1), some (.int st.1.2.2.2 st.2.1.2.2.2), st.2.2.1, st.2.2.2.1, st.2.2.2.2])])
                          (fun j st => StI bc a row R j st.1.1 st.1.2.1 st.1.2.2.1 st.1.2.2.2) ((row, _, _, _), (_, _, _, _), _, _, _) ok r'.hh H9 ra2.2 ra2.1 ?_ H8.tail ?_ ?_ ?_
    · intro _ _; rfl
    · exact ⟨[], rfl, rfl, by rw [hR]; rfl, by rw [hR]; rfl⟩
    · rintro j v it2 ⟨⟨row', d, r, m⟩, ⟨t1, t2, t3, t4⟩, w1, w2, w3⟩ h10 tk10 hj ⟨tv2, rfl⟩ hS H10
      dsimp only at hS H10 ⊢
      simp only [Int.zero_add] at *
      obtain ⟨x, hx⟩ : ∃ x, a[j]? = some x := ⟨_, List.getElem?_eq_getElem hj⟩
      obtain ⟨s1, s2, s3⟩ := hS.step hl hx
      have s3 := s3 _ rfl
      repeat' walk_at "s"
      with_reducible refine s_item (j := j) (.inl rfl) hx (by omega) (fun _ _ => ?_) (by with_unfolding_all rfl)
      repeat' walk_at "s"
      rename In _ _ _ _ _ => H11
      with_reducible refine sp_int (sp_sub ok bc x _ _ hlbc (la x (List.mem_of_getElem? hx))) r' (by decide) (by decide) H11 trivial fun _ _ _ H12 => ?_
      repeat' walk_at "s"
      · rename In _ _ _ _ _ => H13
        rename _ < m => hlt
        rw [Int.toNat_natCast, s2] at H13 hlt
        rw [if_pos hlt] at s3
        exact lf_next ((_, _, _, _), (_, _, _, _), _, _, _) H13 s3
      · rename In _ _ _ _ _ => H13
        rename ¬ _ < m => hlt
        rw [Int.toNat_natCast, s2] at H13 hlt
        rw [if_neg hlt] at s3
        exact lf_next ((_, _, _, _), (_, _, _, _), _, _, _) H13 s3
    · rintro ⟨⟨row', d, r, m⟩, ⟨t1, t2, t3, t4⟩, w1, w2, w3⟩ h10 tk10 ⟨dn, g1, g2, g3, g4⟩ H10
      dsimp only at g1 g2 g3 g4 H10 ⊢
      have e1 : stepRow bc (a.drop a.length) (row.drop a.length) d r m = ([], r, m) := by
        rw [List.drop_length, ← hl, List.drop_length]; rfl
      rw [e1] at g3 g4
      have e2 : row.drop a.length = [] := by rw [← hl, List.drop_length]
      rw [e2] at g2
      simp only [List.append_nil] at g2 g3
      have hRl : R.1.length = a.length := by rw [hR]; exact stepRow_len bc a row _ _ _ hl
      have g5 : r = R.2.1 := by rw [← g4]
      have g6 : m = R.2.2 := by rw [← g4]
      rw [← hR] at hI
      repeat' walk_at "s"
      · have e3 : mx < R.2.2 := by rw [← g6]; assumption
        rw [if_pos e3] at hI
        with_reducible refine lf_ret ?_
        repeat' walk_at "s"
        rw [← hI] at hk
        exact hk _ _ _ (In.kp (by assumption))
      · have e3 : ¬ mx < R.2.2 := by rw [← g6]; assumption
        rw [if_neg e3] at hI
        rename In _ _ _ _ _ => H11
        refine lf_next ((_, _, _), _, _, _, _, _, _, _) H11 ⟨?_, ?_⟩
        · dsimp only; rw [g2, g3, hRl]
        · dsimp only
          rw [g2, g3, g5]
          have ei : ((i + 1 : Nat) : Int) = (i : Int) + 1 := by omega
          rw [ei]; exact hI
  · rintro ⟨⟨row, res, tr⟩, u1, u2, u3, u4, u5, u6, u7⟩ h7 tk7 ⟨hl, hI⟩ H7
    dsimp only at hl hI H7 ⊢
    rw [List.drop_length, levRows] at hI
    repeat' walk_at "s"
    rw [← hI] at hk
    exact hk _ _ _ (In.kp (by assumption))
theorem lev_cut (ok : (CC w B mg mb).Ok) {A : Around} {c : Shared} {env : Env} {L : Addr} {h0 h : Heap} {tk : Nat} {Q : Value → Shared → Prop} {a b : List Nat} {mx : Int} {ta tb tm : Tok} {v1 v2 : Option Value}
    (V : EnvF (CC w B mg mb) env L levKs [] levGs) (r' : Rm A 1 3) (H : In (CC w B mg mb) [] h0 h [(L, PLoc levKs [some (.str (mks a) ta), some (.str (mks b) tb), some (.int mx tm), v1, v2, none, none, none, none, none, none, none, none, none])])
    (la : ∀ i ∈ a, LowOk i) (lb : ∀ i ∈ b, LowOk i) (za : a.length ≤ 1000) (zb : b.length ≤ 1000) (hk : ∀ t h' tk', Kp (CC w B mg mb) [] h0 h' → Q (.int (levCut a b mx) t) (S c h' tk')) :
    wpAny (CC w B mg mb).M A (execs ((bodyAt 21).drop 9) env) (RetQ Q) (fun _ _ => False) (S c h tk) := by
  change wpAny _ _ (execs (_ :: _ :: _ :: (bodyAt 21).drop 12) _) (RetQ Q) _ _
  repeat' walk_at "s"
  · have q1 : a ≠ [] := by assumption
    have q2 : b ≠ [] := by assumption
    have e : levCut a b mx = mx + 1 := by unfold levCut; rw [if_neg (by simp [q1, q2]), if_pos (by omega)]
    rw [e] at hk
    exact hk _ _ _ (In.kp (by assumption))
  · have q1 : a ≠ [] := by assumption
    have q2 : b ≠ [] := by assumption
    have e : levCut a b mx = mx + 1 := by unfold levCut; rw [if_neg (by simp [q1, q2]), if_pos (by omega)]
    rw [e] at hk
    exact hk _ _ _ (In.kp (by assumption))
  · have q1 : a ≠ [] := by assumption
    have q2 : b ≠ [] := by assumption
    have e : levCut a b mx = levCore b a mx := by unfold levCut; rw [if_neg (by simp [q1, q2]), if_neg (by omega), if_pos (by omega)]
    rw [e] at hk
    with_reducible refine x_swap ok r'.hh V H ?_ ?_ ?_ ?_ ?_ ?_ List.mem_cons_self (.skip .hit) .hit fun h2 tk2 H2 => ?_
    · decide
    · decide
    · rfl
    · decide
    · rfl
    · rfl
    repeat' walk_at "s"
    rename In _ _ _ _ _ => H3
    exact lev_core ok V r' H3 lb la (by omega) (by omega) (by omega) hk
  · have q1 : a ≠ [] := by assumption
    have q2 : b ≠ [] := by assumption
    have e : levCut a b mx = levCore a b mx := by unfold levCut; rw [if_neg (by simp [q1, q2]), if_neg (by omega), if_neg (by omega)]
    rw [e] at hk
    exact lev_core ok V r' H la lb (by omega) (by omega) (by omega) hk
  all_goals
    with_reducible refine r_mul (IntMulOk.of_left (by decide)) ?_
    repeat' walk_at "s"
    have e : levCut a b mx = 2 * ((a.length : Int) + b.length) := by unfold levCut; rw [if_pos (by simp [*])]
    rw [e] at hk
    exact hk _ _ _ (In.kp (by assumption))
theorem lev_post (ok : (CC w B mg mb).Ok) {A : Around} {c : Shared} {env : Env} {L : Addr} {h0 h : Heap} {tk : Nat} {Q : Value → Shared → Prop} {a b : List Nat} {mx : Int} {ta tb tm tp : Tok} {v1 : Option Value} {j : Nat}
    (V : EnvF (CC w B mg mb) env L levKs [] levGs) (r' : Rm A 1 3) (H : In (CC w B mg mb) [] h0 h [(L, PLoc levKs [some (.str (mks a) ta), some (.str (mks b) tb), some (.int mx tm), v1, some (.int (-(j : Int)) tp), none, none, none, none, none, none, none, none, none])])
    (la : ∀ i ∈ a, LowOk i) (lb : ∀ i ∈ b, LowOk i) (za : a.length ≤ 1000) (zb : b.length ≤ 1000) (hj : j ≤ a.length ∧ j ≤ b.length) (hk : ∀ t h' tk', Kp (CC w B mg mb) [] h0 h' → Q (.int (levCut (a.take (a.length - j)) (b.take (b.length - j)) mx) t) (S c h' tk')) :
    wpAny (CC w B mg mb).M A (execs ((bodyAt 21).drop 7) env) (RetQ Q) (fun _ _ => False) (S c h tk) := by
  change wpAny _ _ (execs (_ :: _ :: (bodyAt 21).drop 9) _) (RetQ Q) _ _
  rcases Nat.eq_zero_or_pos j with hj0 | hj0
  · subst hj0
    repeat' walk_at "s"
    rename In _ _ _ _ _ => H2
    simp only [Nat.sub_zero, List.take_length] at hk
    exact lev_cut ok V r' H2.tail.tail la lb za zb hk
  · repeat' walk_at "s"
    rename In _ _ _ _ _ => H2
    rw [show (-(-(j : Int))).toNat = j by omega] at H2
    refine lev_cut ok V r' H2.tail.tail (fun x hx => la x (List.mem_of_mem_take hx)) (fun x hx => lb x (List.mem_of_mem_take hx)) (by rw [List.length_take]; omega) (by rw [List.length_take]; omega) hk
theorem sp_lev (ok : (CC w B mg mb).Ok) (a b : List Nat) (mx : Int) (ta tb tm : Tok) (ha : ∀ i ∈ a, LowOk i) (hb : ∀ i ∈ b, LowOk i) (haz : a.length ≤ 1000) (hbz : b.length ≤ 1000) :
    Spec (CC w B mg mb) 98 2 6 [.str (mks a) ta, .str (mks b) tb, .int mx tm] [] (fun _ => True) (RInt (lev a b mx)) := by
  intro A c h tk Q E r H _ hk
  refine call_plain (d := 1) (u := 3) (binds := [("a", .str (mks a) ta), ("b", .str (mks b) tb), ("max_cost", .int mx tm)]) (extra := ["pre", "post", "row", "result", "bindex", "bchar", "distance", "minimum", "index", "substitute", "insert_delete"]) (vs := [some (.str (mks a) ta), some (.str (mks b) tb), some (.int mx tm), none, none, none, none, none, none, none, none, none, none, none]) ok fn_levenshtein_distance (nm_levenshtein_distance ok) r H (by intros; with_unfolding_all rfl) rfl rfl fun env L h₁ tk₁ V hL r' H' => ?_
  change wpAny _ _ (execs (_ :: _ :: _ :: _ :: _ :: _ :: _ :: (bodyAt 21).drop 7) _) (RetQ Q) _ _
  repeat' walk_at "s"
  · rename a = b => e
    refine hk _ _ _ (In.kp (by assumption)) (ri ?_)
    simp [lev, e]
  · rename ¬ a = b => e
    rename In _ _ _ _ _ => H2
    obtain ⟨p, hp⟩ : ∃ p, p = cpre a b := ⟨_, rfl⟩
    have hpl := cpre_le a b
    rw [← hp] at hpl
    refine x_while2 (σ := Nat × Tok) (fun st => [(L, PLoc ["a", "b", "max_cost", "pre", "post", "row", "result", "bindex", "bchar", "distance", "minimum", "index", "substitute", "insert_delete"] [some (.str (mks a) ta), some (.str (mks b) tb), some (.int mx tm), some (.int st.1 st.2), none, none, none, none, none, none, none, none, none, none])])
      (fun st => st.1 ≤ p) (fun st => st.1 = p) (fun st => p - st.1) (0, _) H2 (Nat.zero_le _) ?_ ?_
    · rintro ⟨i, t1⟩ h3 tk3 H3 hi
      dsimp only at H3 hi ⊢
      by_cases hip : i < p
      · obtain ⟨d, d1, d2⟩ := cpre_get (hp ▸ hip)
        repeat' walk_at "s"
        · with_reducible refine s_item (j := i) (.inl rfl) d1 (by omega) (fun _ _ => ?_) (by with_unfolding_all rfl)
          repeat' walk_at "s"
          with_reducible refine s_item (j := i) (.inl rfl) d2 (by omega) (fun _ _ => ?_) (by with_unfolding_all rfl)
          repeat' walk_at "s"
          · rename In _ _ _ _ _ => H4
            exact lw_next (i + 1, _) H4.tail.tail hip (by dsimp only; omega)
          · exact absurd rfl (by assumption)
        · have q : b.drop ((i : Int)).toNat = [] := by assumption
          rw [Int.toNat_natCast, List.drop_eq_nil_iff] at q
          omega
        · have q : a.drop ((i : Int)).toNat = [] := by assumption
          rw [Int.toNat_natCast, List.drop_eq_nil_iff] at q
          omega
      · have ei : i = p := by omega
        subst ei
        repeat' walk_at "s"
        · have q1 : a.drop ((i : Int)).toNat ≠ [] := by assumption
          have q2 : b.drop ((i : Int)).toNat ≠ [] := by assumption
          rw [Int.toNat_natCast, Ne, List.drop_eq_nil_iff] at q1 q2
          obtain ⟨x, hx⟩ : ∃ x, a[i]? = some x := ⟨_, List.getElem?_eq_getElem (by omega)⟩
          obtain ⟨y, hy⟩ : ∃ y, b[i]? = some y := ⟨_, List.getElem?_eq_getElem (by omega)⟩
          with_reducible refine s_item (j := i) (.inl rfl) hx (by omega) (fun _ _ => ?_) (by with_unfolding_all rfl)
          repeat' walk_at "s"
          with_reducible refine s_item (j := i) (.inl rfl) hy (by omega) (fun _ _ => ?_) (by with_unfolding_all rfl)
          repeat' walk_at "s"
          · have q3 : [x] = [y] := by assumption
            exact absurd (by simpa using q3) (cpre_stop (hp ▸ hx) (hp ▸ hy))
          · rename In _ _ _ _ _ => H4
            exact ex_done (i, _) H4.tail.tail rfl
        · rename In _ _ _ _ _ => H4
          exact ex_done (i, _) H4.tail.tail rfl
        · rename In _ _ _ _ _ => H4
          exact ex_done (i, _) H4.tail rfl
    · rintro ⟨i, t1⟩ h3 tk3 H3 hi
      dsimp only at H3 hi ⊢
      subst hi
      repeat' walk_at "s"
      rename In _ _ _ _ _ => H4
      rw [Int.toNat_natCast] at H4
      have H5 := H4.tail.tail
      clear H4 H3
      obtain ⟨a1, ha1⟩ : ∃ a1, a1 = a.drop i := ⟨_, rfl⟩
      obtain ⟨b1, hb1⟩ : ∃ b1, b1 = b.drop i := ⟨_, rfl⟩
      rw [← ha1, ← hb1] at H5
      have la : ∀ x ∈ a1, LowOk x := fun x hx => ha x (List.mem_of_mem_drop (ha1 ▸ hx))
      have lb : ∀ x ∈ b1, LowOk x := fun x hx => hb x (List.mem_of_mem_drop (hb1 ▸ hx))
      have za : a1.length ≤ 1000 := by rw [ha1, List.length_drop]; omega
      have zb : b1.length ≤ 1000 := by rw [hb1, List.length_drop]; omega
      obtain ⟨s, hs⟩ : ∃ s, s = cpre a1.reverse b1.reverse := ⟨_, rfl⟩
      have hsl := cpre_le a1.reverse b1.reverse
      rw [← hs, List.length_reverse, List.length_reverse] at hsl
      refine x_while2 (σ := Nat × Tok × Tok × Tok) (fun st => [(L, PLoc ["a", "b", "max_cost", "pre", "post", "row", "result", "bindex", "bchar", "distance", "minimum", "index", "substitute", "insert_delete"] [some (.str (mks a1) st.2.2.1), some (.str (mks b1) st.2.2.2), some (.int mx tm), some (.int i t1), some (.int (-(st.1 : Int)) st.2.1), none, none, none, none, none, none, none, none, none])])
        (fun st => st.1 ≤ s) (fun st => st.1 = s) (fun st => s - st.1) (0, _, _, _) H5 (Nat.zero_le _) ?_ ?_
      · rintro ⟨j, t2, t3, t4⟩ h6 tk6 H6 hj
        dsimp only at H6 hj ⊢
        have en : -(j : Int) - 1 = -((j + 1 : Nat) : Int) := by omega
        by_cases hjs : j < s
        · obtain ⟨d, d1, d2⟩ := cpre_get (hs ▸ hjs)
          obtain ⟨l1, d1⟩ := rev_get d1
          obtain ⟨l2, d2⟩ := rev_get d2
          rcases Nat.eq_zero_or_pos j with hj0 | hj0
          · subst hj0
            repeat' walk_at "s"
            · with_reducible refine s_item (j := a1.length - 1 - 0) (.inr (by omega)) d1 (by omega) (fun _ _ => ?_) (by with_unfolding_all rfl)
              repeat' walk_at "s"
              with_reducible refine s_item (j := b1.length - 1 - 0) (.inr (by omega)) d2 (by omega) (fun _ _ => ?_) (by with_unfolding_all rfl)
              repeat' walk_at "s"
              · rename In _ _ _ _ _ => H7
                rw [en] at H7
                exact lw_next (0 + 1, _, _, _) H7.tail.tail hjs (by dsimp only; omega)
              · exact absurd rfl (by assumption)
            · have q : b1 = [] := by assumption
              rw [q] at l2; simp at l2
            · have q : a1 = [] := by assumption
              rw [q] at l1; simp at l1
          · repeat' walk_at "s"
            · with_reducible refine s_item (j := a1.length - 1 - j) (.inr (by omega)) d1 (by omega) (fun _ _ => ?_) (by with_unfolding_all rfl)
              repeat' walk_at "s"
              with_reducible refine s_item (j := b1.length - 1 - j) (.inr (by omega)) d2 (by omega) (fun _ _ => ?_) (by with_unfolding_all rfl)
              repeat' walk_at "s"
              · rename In _ _ _ _ _ => H7
                rw [en] at H7
                exact lw_next (j + 1, _, _, _) H7.tail.tail hjs (by dsimp only; omega)
              · exact absurd rfl (by assumption)
            · have q : b1.take (b1.length - (-(-(j : Int))).toNat) = [] := by assumption
              rw [List.take_eq_nil_iff] at q
              rcases q with q | q
              · omega
              · rw [q] at l2; simp at l2
            · have q : a1.take (a1.length - (-(-(j : Int))).toNat) = [] := by assumption
              rw [List.take_eq_nil_iff] at q
              rcases q with q | q
              · omega
              · rw [q] at l1; simp at l1
        · have ej : j = s := by omega
          have stop : ∀ x y, j < a1.length → j < b1.length → a1[a1.length - 1 - j]? = some x → b1[b1.length - 1 - j]? = some y → x ≠ y := fun x y h1 h2 e1 e2 => by
            refine cpre_stop (a := a1.reverse) (b := b1.reverse) ?_ ?_
            · rw [← hs, ← ej]; exact rev_get' h1 e1
            · rw [← hs, ← ej]; exact rev_get' h2 e2
          rcases Nat.eq_zero_or_pos j with hj0 | hj0
          · subst hj0
            repeat' walk_at "s"
            · have q1 : 0 < a1.length := List.length_pos_iff.mpr (by assumption)
              have q2 : 0 < b1.length := List.length_pos_iff.mpr (by assumption)
              obtain ⟨x, hx⟩ : ∃ x, a1[a1.length - 1 - 0]? = some x := ⟨_, List.getElem?_eq_getElem (by omega)⟩
              obtain ⟨y, hy⟩ : ∃ y, b1[b1.length - 1 - 0]? = some y := ⟨_, List.getElem?_eq_getElem (by omega)⟩
              with_reducible refine s_item (j := a1.length - 1 - 0) (.inr (by omega)) hx (by omega) (fun _ _ => ?_) (by with_unfolding_all rfl)
              repeat' walk_at "s"
              with_reducible refine s_item (j := b1.length - 1 - 0) (.inr (by omega)) hy (by omega) (fun _ _ => ?_) (by with_unfolding_all rfl)
              repeat' walk_at "s"
              · have q3 : [x] = [y] := by assumption
                exact absurd (by simpa using q3) (stop x y q1 q2 hx hy)
              · rename In _ _ _ _ _ => H7
                exact ex_done (0, _, _, _) H7.tail.tail ej
            · rename In _ _ _ _ _ => H7
              exact ex_done (0, _, _, _) H7.tail.tail ej
            · rename In _ _ _ _ _ => H7
              exact ex_done (0, _, _, _) H7.tail ej
          · repeat' walk_at "s"
            · have q1 : a1.take (a1.length - (-(-(j : Int))).toNat) ≠ [] := by assumption
              have q2 : b1.take (b1.length - (-(-(j : Int))).toNat) ≠ [] := by assumption
              have q1 := List.length_pos_iff.mpr q1
              have q2 := List.length_pos_iff.mpr q2
              rw [List.length_take] at q1 q2
              obtain ⟨x, hx⟩ : ∃ x, a1[a1.length - 1 - j]? = some x := ⟨_, List.getElem?_eq_getElem (by omega)⟩
              obtain ⟨y, hy⟩ : ∃ y, b1[b1.length - 1 - j]? = some y := ⟨_, List.getElem?_eq_getElem (by omega)⟩
              with_reducible refine s_item (j := a1.length - 1 - j) (.inr (by omega)) hx (by omega) (fun _ _ => ?_) (by with_unfolding_all rfl)
              repeat' walk_at "s"
              with_reducible refine s_item (j := b1.length - 1 - j) (.inr (by omega)) hy (by omega) (fun _ _ => ?_) (by with_unfolding_all rfl)
              repeat' walk_at "s"
              · have q3 : [x] = [y] := by assumption
                exact absurd (by simpa using q3) (stop x y (by omega) (by omega) hx hy)
              · rename In _ _ _ _ _ => H7
                exact ex_done (j, _, _, _) H7.tail.tail ej
            · rename In _ _ _ _ _ => H7
              exact ex_done (j, _, _, _) H7.tail.tail ej
            · rename In _ _ _ _ _ => H7
              exact ex_done (j, _, _, _) H7.tail ej
      · rintro ⟨j, t2, t3, t4⟩ h6 tk6 H6 hj
        dsimp only at H6 hj ⊢
        subst hj
        with_reducible refine kx_next ?_
        refine lev_post ok V r' H6 la lb za zb hsl fun t h' tk' K => hk _ _ _ K (ri ?_)
        unfold lev
        rw [if_neg e]
        simp only [← hp, ← ha1, ← hb1, ← hs]
end
section
variable {w : World} {B : Heap} {mg mb : Str → Option Value}
def RStr (x : Str) : Heap → Heap → Value → Prop := fun _ _ v => ∃ t, v = .str x t
theorem sa_snoc {ys : List Value} {zs : List Nat} {z : Nat} {t : Tok} (h : StrsAre ys (zs.map fun z => mks [z])) : StrsAre (ys ++ [.str (mks [z]) t]) ((zs ++ [z]).map fun z => mks [z]) := by
  rw [List.map_append]
  have go : ∀ {ys : List Value} {xs : List Str}, StrsAre ys xs → StrsAre (ys ++ [.str (mks [z]) t]) (xs ++ [mks [z]]) := by
    intro ys xs h
    induction h with
    | nil => exact .cons _ _ .nil
    | cons y u _ ih => exact .cons y u ih
  exact go h
theorem sp_law_word (ok : (CC w B mg mb).Ok) (l : Addr) (row : List Int) (x0 x1 : Nat) (tl : Tok) (hz : row.length ≤ 1000) :
    Spec (CC w B mg mb) 134 2 6 [.ref l, .str (mks [x0, x1]) tl] [] (fun h => At (CC w B mg mb) h l (PIntsW row)) (RStr (mks (row.map fun s => if s < 256 then x1 else x0))) := by
  intro A c h tk Q E r H a1 hk
  refine call_cells (d := 1) (u := 3) (binds := [("row", .ref l), ("letters", .str (mks [x0, x1]) tl)]) (vs := [some (.ref l)]) (us := [some (.str (mks [x0, x1]) tl)]) ok fn_law_word (nm_law_word ok) r H (by intros; with_unfolding_all rfl) (by walk_at "nd") (by walk_at "all") (by walk_at "bd") (by walk_at "bd") fun env L as h₁ tk₁ V hC hcd hq hl hL r' H' => ?_
  obtain ⟨b1, rfl⟩ := len1 hl
  have V1 : EnvF (CC w B mg mb) env L ["row"] [("letters", b1)] [] := V
  have H1 : In (CC w B mg mb) [] h h₁ [(L, PLoc ["row"] [some (.ref l)]), (b1, PCell (some (.str (mks [x0, x1]) tl)))] := H'
  clear V H'
  change wpAny _ _ (execs (_ :: _) _) (RetQ Q) _ _
  repeat' walk_at "s"
  refine e_comp (ks' := [".0", "symbol"]) (fs := ["letters"]) (oc := []) (gn := ["ISTERMINAL"]) V1 (by walk_at "cs") (by walk_at "has") (fun _ => rfl) fun cl hcl => ?_
  repeat' walk_at "s"
  rename In _ _ _ _ _ => H2
  refine ck_0 (ks' := [".0", "symbol"]) (fs := ["letters"]) (gn := ["ISTERMINAL"]) (cs' := [("letters", b1)]) (gs' := [("ISTERMINAL", .ref 21)]) (n₀ := []) (fun i ys _ => StrsAre ys (((row.take i).map fun s => if s < 256 then x1 else x0).map fun z => mks [z])) ok V1 (by walk_at "cs") (by decide +kernel) (by walk_at "all2") (by walk_at "gs") hcl
    (src_il ok r'.hh fun h n H _ => (H.of0 a1).ilW) (fun p hp => absurd hp List.not_mem_nil) (by walk_at "num") (fun _ _ _ _ q _ => q) (fun _ => rfl) H2 (fun _ => .nil) ?_ ?_
  · rintro C' env' D i v vs ys h3 tk3 V3 hi ⟨j, t, e, rfl⟩ hI H3 hlen
    obtain ⟨v1, v2, rfl⟩ := len2 hlen
    repeat' walk_at "s"
    · have hj : j < 256 := by assumption
      with_reducible refine s_item (x := [x0, x1]) (j := 1) (d := x1) (.inl rfl) rfl (by simp only [List.length_cons, List.length_nil]; omega) (fun _ _ => ?_) (by with_unfolding_all rfl)
      rename In _ _ _ _ _ => H4
      refine cp_elt ⟨[v1, some (.int j t)], rfl⟩ H4 fun _ _ => ?_
      rw [take_snoc e, List.map_append, List.map_singleton, if_pos hj]
      exact sa_snoc hI
    · have hj : ¬ j < 256 := by assumption
      with_reducible refine s_item (x := [x0, x1]) (j := 0) (d := x0) (.inl rfl) rfl (by simp only [List.length_cons, List.length_nil]; omega) (fun _ _ => ?_) (by with_unfolding_all rfl)
      rename In _ _ _ _ _ => H4
      refine cp_elt ⟨[v1, some (.int j t)], rfl⟩ H4 fun _ _ => ?_
      rw [take_snoc e, List.map_append, List.map_singleton, if_neg hj]
      exact sa_snoc hI
  · intro C' D vs ys h3 tk3 hI hy H3
    refine fin_none ok H3 fun h4 H4 _ => ?_
    rw [List.take_length] at hI
    repeat' walk_at "s"
    with_reducible refine ss_join hI (by rw [List.length_map]; omega) (H4.at List.mem_cons_self).isList fun _ _ => ?_
    repeat' walk_at "s"
    exact hk _ _ _ H4.kp ⟨_, rfl⟩
end
section
variable {w : World} {B : Heap} {mg mb : Str → Option Value}
abbrev lawKs : List Str := ["order", "octets", "edges", "above", "others", "at", "iterator", "row", "digits", "number", "word", "turned", "upper", "lower", "end", "part", "moved", "size", "symbol", "there", "fall", "due", "other"]
abbrev lawGs : List (Str × Value) := [("enumerate", .type "enumerate"), ("range", .type "range"), ("sum", .builtin "sum"), ("_law_octets", .ref 110), ("_law_row", .ref 103), ("_law_above", .ref 139), ("iter", .builtin "iter"), ("_law_read", .ref 117), ("_law_digits", .ref 129), ("_digits2int", .ref 63), ("_int2digits", .ref 56), ("_law_word", .ref 134), ("_law_end", .ref 124), ("int_divmod", .ref 77), ("len", .builtin "len"), ("_levenshtein_distance", .ref 98), ("_parse_varint", .ref 84), ("StopIteration", .type "StopIteration")]
theorem pick_len {ns : List Int} (hz : ns.length ≤ 63) {i : Nat} (hi : i < 6) : (pickNums ns (some i) (some 60) (some 6)).length ≤ 100 := by
  have h : ∀ (n : Fin 64) (i : Fin 6), (sliceRange (sliceBounds (some ((i.val : Nat) : Int)) (some 60) (some 6) n.val).1 (sliceBounds (some ((i.val : Nat) : Int)) (some 60) (some 6) n.val).2.1 (sliceBounds (some ((i.val : Nat) : Int)) (some 60) (some 6) n.val).2.2).length ≤ 100 := by decide +kernel
  have := h ⟨ns.length, by omega⟩ ⟨i, hi⟩
  unfold pickNums
  exact Nat.le_trans (List.length_filterMap_le _ _) this
def keyOf (ns : List Int) (i : Nat) (d : Int) : Int := d + ((pickNums ns (some i) (some 60) (some 6)).map fun x => x.fmod 1000000).sum
def starts : List Int := [41, 3, 27, 12, 90, 58]
def keysP (ns : List Int) (m : Nat) : List Int := (List.range m).map fun i => keyOf ns i (starts.getD i 0)
theorem law_1 (ok : (CC w B mg mb).Ok) {A : Around} {c : Shared} {env : Env} {L bs bk bl br a : Addr} {h0 h : Heap} {tk : Nat} {Q : Value → Shared → Prop} {ns : List Int}
    (V : EnvF (CC w B mg mb) env L lawKs [("script", bs), ("keys", bk), ("letters", bl), ("rank", br)] lawGs) (hC : ∀ x ∈ (["script", "keys", "letters", "rank"] : List Str), env.kindOf x = some .cell) (r' : Rm A 100 1000)
    (H : In (CC w B mg mb) [] h0 h [(L, PLoc lawKs [none, none, none, none, none, none, none, none, none, none, none, none, none, none, none, none, none, none, none, none, none, none, none]), (bs, PCell (some (.ref a))), (bk, PCell none), (bl, PCell none), (br, PCell none)])
    (ha : At (CC w B mg mb) h0 a (PIntsW ns)) (hz : ns.length ≤ 63)
    (k : ∀ kl h' tk', In (CC w B mg mb) [] h0 h' [(kl, PInts (keysP ns 6)), (L, PLoc lawKs [none, none, none, none, none, none, none, none, none, none, none, none, none, none, none, none, none, none, none, none, none, none, none]), (bs, PCell (some (.ref a))), (bk, PCell (some (.ref kl))), (bl, PCell none), (br, PCell none)] →
      wpAny (CC w B mg mb).M A (execs ((bodyAt 30).drop 1) env) (RetQ Q) (fun _ _ => False) (S c h' tk')) : wpAny (CC w B mg mb).M A (execs (bodyAt 30) env) (RetQ Q) (fun _ _ => False) (S c h tk) := by
  change wpAny _ _ (execs (_ :: (bodyAt 30).drop 1) _) (RetQ Q) _ _
  repeat' walk_at "s"
  refine e_comp (ks' := [".0", "i", "start"]) (fs := ["script"]) (oc := []) (gn := ["sum"]) V (by walk_at "cs") (by walk_at "has") (fun _ => rfl) fun cl hcl => ?_
  repeat' walk_at "s"
  rename In _ _ _ _ _ => H3
  refine ck_2 (ks' := [".0", "i", "start"]) (fs := ["script"]) (gn := ["sum"]) (cs' := [("script", bs)]) (gs' := [("sum", .builtin "sum")]) (n₀ := [(_, PInts starts)]) (len := 6) (fun i ys => IntsAre ys (keysP ns i)) ok V (by walk_at "cs") (by decide +kernel) (by walk_at "all2") (by walk_at "gs") hcl
    (src_enumI (ns := starts) ok r'.hh fun h n H hn => (H.at (hn _ List.mem_cons_self)).il) (fun p hp => by rw [List.mem_singleton.mp hp]; exact List.mem_cons_self) (by decide) H3 .nil ?_ ?_
  · rintro C' env' D i v vs ys h3 tk3 V3 hi ⟨T, t, d, t', ed, rfl, aT⟩ hI H3 hlen
    obtain ⟨v1, v2, v3, rfl⟩ := len3 hlen
    have hpl := pick_len hz hi
    change In (CC w B mg mb) [] h0 h3 ((_, PEnum _ ((i + 1 : Nat) : Int)) :: (_, PIter _ (i + 1)) :: (D, PList ys) :: (C', PLoc [".0", "i", "start"] [v1, v2, v3]) :: _) at H3
    with_reducible refine as_two ok r'.hh H3 (by walk_at "mem") aT fun h4 H4 => ?_
    repeat' walk_at "s"
    refine e_comp (ks' := [".0", "x"]) (fs := []) (oc := []) (gn := []) V3 (by walk_at "cs") (fun _ h => absurd h List.not_mem_nil) (fun _ => rfl) fun cl hcl => ?_
    repeat' walk_at "s"
    rename In _ _ _ _ _ => H5
    obtain ⟨pk, epk⟩ : ∃ pk, pk = pickNums ns (some (i : Int)) (some 60) (some 6) := ⟨_, rfl⟩
    rw [← epk] at hpl H5
    refine ck_il (ks' := [".0", "x"]) (fs := []) (gn := []) (cs' := []) (gs' := []) (n₀ := [(_, PInts pk)]) (fun q => (pk.take q).map fun x => x.fmod 1000000) ok r'.hh V3 (by walk_at "cs") (by decide +kernel) (by walk_at "all2") (by walk_at "gs") hcl
      (fun h n H hn => (H.at (hn _ List.mem_cons_self)).il) (fun p hp => by rw [List.mem_singleton.mp hp]; walk_at "mem") (by walk_at "num") rfl (fun _ => rfl) H5 ?_ ?_
    · intro C'' env'' D2 i2 j2 t2 vs2 ys2 h5 tk5 V5 e5 hI5 H6 hlen5
      obtain ⟨w1, w2, rfl⟩ := len2 hlen5
      repeat' walk_at "s"
      rename In _ _ _ _ _ => H7
      refine cp_elt ⟨[w1, some (.int j2 t2)], rfl⟩ H7 fun _ _ => ia_snoc hI5 ?_
      rw [take_snoc e5, List.map_append, List.map_singleton]
    · intro C'' D2 vs2 h5 tk5 H6
      refine fin_none ok H6 fun h6 H7 _ => ?_
      rw [List.take_length] at H7
      repeat' walk_at "s"
      rename In _ _ _ _ _ => H8
      refine cp_elt2 ⟨[v1, some (.int i t), some (.int d t')], rfl⟩ H8.tail.tail.tail (ia_snoc hI ?_)
      unfold keysP
      rw [List.range_succ, List.map_append, List.map_singleton, List.getD_eq_getElem?_getD, ed, epk]
      rfl
  · intro C' D vs ys h3 tk3 hI hy H3
    refine fin_none ok H3 fun h4 H4 _ => ?_
    have H5 := H4.weak1 (P' := PInts (keysP ns 6)) fun o p => ⟨ys, hI, p⟩
    have H6 := H5.drop (n' := [(D, _), (L, _), (bs, _), (bk, _), (bl, _), (br, _)]) (.cons_cons _ (.cons _ (.refl _)))
    clear H3 H4 H5 H
    repeat' walk_at "s"
    rename In _ _ _ _ _ => H7
    exact k _ _ _ H7
end
local macro_rules | `(tactic| walk_at "s") => `(tactic| first
  | ((with_reducible refine' lt_tup2 ?a ?b ?u ?_); (case a => walk_at "at"); (case b => walk_at "at"); (case u => exact Rm.line0 (by assumption)))
  | ((with_reducible refine' ne_tup2 ?a ?b ?u ?_); (case a => walk_at "at"); (case b => walk_at "at"); (case u => exact Rm.line0 (by assumption)))
  | ((with_reducible refine' it_il ?a ?b ?x ?_); (case a => walk_at "asm"); (case b => walk_at "asm"); (case x => walk_at "il"); intro _ _ _)
  | with_reducible refine s_ne ?_
  | ((with_reducible refine' r_mul ?a ?_); (case a => exact IntMulOk.of_left (by decide)))
  | ((with_reducible refine' ext_mS ?a ?_ ?b); (case a => walk_at "asm"); (case b => rfl))
  | fail)
local macro_rules | `(tactic| walk_at "sub") => `(tactic| first
  | with_reducible exact List.Sublist.refl _
  | exact List.nil_sublist _
  | ((with_reducible apply List.Sublist.cons_cons); walk_at "sub")
  | ((with_reducible apply List.Sublist.cons); walk_at "sub")
  | fail)

section
variable {w : World} {B : Heap} {mg mb : Str → Option Value}
abbrev lawV0 : List (Option Value) := [none, none, none, none, none, none, none, none, none, none, none, none, none, none, none, none, none, none, none, none, none, none, none]
def rankOf (ks : List Int) (i : Nat) : Nat := ((List.range 6).filter fun j => ks.getD j 0 < ks.getD i 0 ∨ (ks.getD j 0 = ks.getD i 0 ∧ (j : Int) < i)).length
def orderOf (ks : List Int) (m : Nat) : List Int := (List.range m).map fun i => (rankOf ks i : Int)
theorem law_2 (ok : (CC w B mg mb).Ok) {A : Around} {c : Shared} {env : Env} {L bs bk bl br a kl : Addr} {h0 h : Heap} {tk : Nat} {Q : Value → Shared → Prop} {ks : List Int}
    (V : EnvF (CC w B mg mb) env L lawKs [("script", bs), ("keys", bk), ("letters", bl), ("rank", br)] lawGs) (hC : ∀ x ∈ (["script", "keys", "letters", "rank"] : List Str), env.kindOf x = some .cell) (r' : Rm A 100 1000)
    (H : In (CC w B mg mb) [] h0 h [(kl, PInts ks), (L, PLoc lawKs [none, none, none, none, none, none, none, none, none, none, none, none, none, none, none, none, none, none, none, none, none, none, none]), (bs, PCell (some (.ref a))), (bk, PCell (some (.ref kl))), (bl, PCell none), (br, PCell none)])
    (hz : ks.length = 6)
    (k : ∀ ol h' tk', In (CC w B mg mb) [] h0 h' [(ol, PInts (orderOf ks 6)), (kl, PInts ks), (L, PLoc lawKs [some (.ref ol), none, none, none, none, none, none, none, none, none, none, none, none, none, none, none, none, none, none, none, none, none, none]), (bs, PCell (some (.ref a))), (bk, PCell (some (.ref kl))), (bl, PCell none), (br, PCell none)] →
      wpAny (CC w B mg mb).M A (execs ((bodyAt 30).drop 2) env) (RetQ Q) (fun _ _ => False) (S c h' tk')) : wpAny (CC w B mg mb).M A (execs ((bodyAt 30).drop 1) env) (RetQ Q) (fun _ _ => False) (S c h tk) := by
  change wpAny _ _ (execs (_ :: (bodyAt 30).drop 2) _) (RetQ Q) _ _
  refine x_cons ?_
  refine x_asgLC (ks' := [".0"]) (fs := ["keys"]) (oc := ["i"]) (gn := ["len", "range"]) V (by walk_at "cs") (by walk_at "has") (by walk_at "mem") rfl rfl (by decide +kernel) (fun _ => rfl) fun cl hcl => ?_
  repeat' walk_at "s"
  rename In _ _ _ _ _ => H2
  with_reducible refine pit_rangeC ok H2 (by walk_at "at") 6 (by decide) (by decide) fun it h3 H3 => ?_
  refine ck_1 (ks' := [".0"]) (fs := ["keys"]) (gn := ["len", "range"]) (x := "i") (cs' := [("keys", bk)]) (gs' := [("len", .builtin "len"), ("range", .type "range")]) (n₀ := []) (P := fun i => PRIter (0 + (i : Nat)) ((6 : Nat) - (i : Nat))) (len := 6) (fun i ys _ => IntsAre ys (orderOf ks i)) ok V (by walk_at "cs") (by decide +kernel) (by decide +kernel) (by walk_at "all2") (by walk_at "gs") hcl
    (src_range ok r'.hh) (fun p hp => absurd hp List.not_mem_nil) (by decide) (fun _ _ _ _ q _ => q) (fun _ => rfl) H3 (fun _ => .nil) ?_ ?_
  · rintro C' b env' D i v vs u ys h4 tk4 V4 hC4 hi ⟨t, rfl⟩ hI H4 hlen
    obtain ⟨v1, rfl⟩ := len1 hlen
    rw [Int.zero_add (i : Int)]
    repeat' walk_at "s"
    refine e_comp (ks' := [".0", "j"]) (fs := ["keys", "i"]) (oc := []) (gn := []) V4 (by walk_at "cs") (by walk_at "has") (fun _ => rfl) fun cl2 hcl2 => ?_
    repeat' walk_at "s"
    rename In _ _ _ _ _ => H5
    with_reducible refine pit_rangeC ok H5 (by walk_at "at") 6 (by decide) (by decide) fun it2 h6 H6 => ?_
    refine ck_0 (ks' := [".0", "j"]) (fs := ["keys", "i"]) (gn := []) (cs' := [("i", b), ("keys", bk)]) (gs' := []) (n₀ := []) (P := fun i => PRIter (0 + (i : Nat)) ((6 : Nat) - (i : Nat))) (len := 6)
      (fun q ys _ => IntsAre ys (((List.range q).filter fun (j : Nat) => ks.getD j 0 < ks.getD i 0 ∨ (ks.getD j 0 = ks.getD i 0 ∧ (j : Int) < i)).map fun (j : Nat) => (j : Int))) ok V4 (by walk_at "cs") (by decide +kernel) (by walk_at "all2") (by walk_at "gs") hcl2
      (src_range ok r'.hh) (fun p hp => absurd hp List.not_mem_nil) (by decide) (fun _ _ _ _ q _ => q) (fun _ => rfl) H6 (fun _ => .nil) ?_ ?_
    · rintro C'' env'' D2 j v vs2 ys2 h7 tk7 V7 hj ⟨t2, rfl⟩ hI7 H7 hlen7
      obtain ⟨w1, w2, rfl⟩ := len2 hlen7
      rw [Int.zero_add (j : Int)]
      repeat' walk_at "s"
      all_goals rename In _ _ _ _ _ => H8
      · rename (_ ∨ _) => hc
        simp only [Int.toNat_natCast] at hc
        refine cp_elt ⟨[w1, some (.int j t2)], rfl⟩ H8.tail.tail fun _ _ => ia_snoc hI7 ?_
        rw [List.range_succ, List.filter_append, List.filter_cons_of_pos (by simp only [decide_eq_true_eq]; exact hc), List.filter_nil, List.map_append]
        simp
      · rename ¬ (_ ∨ _) => hc
        simp only [Int.toNat_natCast] at hc
        refine cp_skip ⟨[w1, some (.int j t2)], rfl⟩ H8.tail.tail ?_
        rw [List.range_succ, List.filter_append, List.filter_cons_of_neg (by simp only [decide_eq_true_eq]; exact hc), List.filter_nil, List.append_nil]
        exact hI7
    · intro C'' D2 vs2 ys2 h7 tk7 hI7 hy7 H7
      refine fin_none ok H7 fun h8 H8 _ => ?_
      have H9 := H8.weak1 (P' := PInts _) fun o p => ⟨ys2, hI7, p⟩
      clear H8 H7 H6 H5
      have hfl : (((List.range 6).filter fun (j : Nat) => ks.getD j 0 < ks.getD i 0 ∨ (ks.getD j 0 = ks.getD i 0 ∧ (j : Int) < i)).map fun (j : Nat) => (j : Int)).length ≤ 6 := by
        rw [List.length_map]; exact Nat.le_trans (List.length_filter_le _ _) (by simp)
      repeat' walk_at "s"
      rename In _ _ _ _ _ => H10
      refine cp_elt (⟨[v1], rfl⟩, some (.int i t)) H10.tail.tail fun _ _ => ia_snoc hI ?_
      unfold orderOf
      rw [List.range_succ, List.map_append, List.map_singleton, List.length_map]
      rfl
  · intro C' D vs ys h4 tk4 hI hy H4
    have H5 := H4.mid (P' := PInts (orderOf ks 6)) fun o p => ⟨ys, hI, p⟩
    have H6 := H5.drop (n' := [(C', PLoc [".0"] vs), (D, PInts (orderOf ks 6)), (kl, PInts ks), (L, _), (bs, _), (bk, _), (bl, _), (br, _)]) (.cons_cons _ (.cons_cons _ (.cons _ (.refl _))))
    with_reducible refine' fin_asg ok V H6 ?sk ?ch fun h6 tk6 H6 => ?_
    case ch => walk_at "ch"
    case sk => walk_at "sk"
    repeat' walk_at "s"
    exact k _ _ _ H6
end
section
variable {w : World} {B : Heap} {mg mb : Str → Option Value}
def ltsOf (m : Int) : List Nat := if m = 0 then [65, 97] else if m = 1 then [122, 90] else [97, 98]
theorem law_3 (ok : (CC w B mg mb).Ok) {A : Around} {c : Shared} {env : Env} {L bs bk bl br a kl ol : Addr} {h0 h : Heap} {tk : Nat} {Q : Value → Shared → Prop} {ks os row0 : List Int}
    (V : EnvF (CC w B mg mb) env L lawKs [("script", bs), ("keys", bk), ("letters", bl), ("rank", br)] lawGs) (hC : ∀ x ∈ (["script", "keys", "letters", "rank"] : List Str), env.kindOf x = some .cell) (r' : Rm A 100 1000)
    (H : In (CC w B mg mb) [] h0 h [(ol, PInts os), (kl, PInts ks), (L, PLoc lawKs [some (.ref ol), none, none, none, none, none, none, none, none, none, none, none, none, none, none, none, none, none, none, none, none, none, none]), (bs, PCell (some (.ref a))), (bk, PCell (some (.ref kl))), (bl, PCell none), (br, PCell none)])
    (hz : os.length = 6) (hrow : lrow os 7 0 6 = some row0) (hrz : row0.length ≤ 1000)
    (k : ∀ cl el tl h' tk', In (CC w B mg mb) [] h0 h' [(el, PList []), (cl, PInts (octs row0)), (ol, PInts os), (L, PLoc lawKs [some (.ref ol), some (.ref cl), some (.ref el), none, none, none, none, none, none, none, none, none, none, none, none, none, none, none, none, none, none, none, none]), (bs, PCell (some (.ref a))), (bk, PCell (some (.ref kl))), (bl, PCell (some (.str (mks (ltsOf (ks.sum.fmod 3))) tl))), (br, PCell none)] →
      wpAny (CC w B mg mb).M A (execs ((bodyAt 30).drop 5) env) (RetQ Q) (fun _ _ => False) (S c h' tk')) : wpAny (CC w B mg mb).M A (execs ((bodyAt 30).drop 2) env) (RetQ Q) (fun _ _ => False) (S c h tk) := by
  change wpAny _ _ (execs (_ :: _ :: _ :: (bodyAt 30).drop 5) _) (RetQ Q) _ _
  repeat' walk_at "s"
  rename In _ _ _ _ _ => H2
  have he3 : ks.sum.fmod 3 = ks.sum % 3 := Int.fmod_eq_emod_of_nonneg _ (by decide)
  have hm3 : 0 ≤ ks.sum.fmod 3 := by omega
  have hl3 : ks.sum.fmod 3 < 3 := by omega
  have hv : ∀ t1 t2 t3 : Tok, ∃ t, [Value.str "Aa" t1, Value.str "zZ" t2, Value.str "ab" t3][(ks.sum.fmod 3).toNat]? = some (.str (mks (ltsOf (ks.sum.fmod 3))) t) := by
    intro t1 t2 t3
    generalize ks.sum.fmod 3 = m at hm3 hl3
    have : m = 0 ∨ m = 1 ∨ m = 2 := by omega
    rcases this with rfl | rfl | rfl
    · exact ⟨t1, rfl⟩
    · exact ⟨t2, rfl⟩
    · exact ⟨t3, rfl⟩
  obtain ⟨tt, ht⟩ := hv _ _ _
  with_reducible refine sub_l (H2.at (by walk_at "mem")).isList hm3 (by omega) ht ?_ (.inl (by with_unfolding_all rfl))
  repeat' walk_at "s"
  rename In _ _ _ _ _ => H3
  with_reducible refine sp_ob (sp_law_row ok ol os (by omega) 7 0 6 _ _ row0 hrow hrz) r' (by decide) (by decide) H3 ((H3.at (by walk_at "mem")).mono PInts.w) fun rl h4 tk4 H4 => ?_
  repeat' walk_at "s"
  with_reducible refine sp_ob (sp_law_octets ok rl row0 hrz) r' (by decide) (by decide) H4 ((H4.at (by walk_at "mem")).mono PInts.w) fun cl h5 tk5 H5 => ?_
  repeat' walk_at "s"
  rename In _ _ _ _ _ => H6
  have H7 := H6.weak1 (P' := PList []) fun o p => by
    obtain ⟨vs, hi, q⟩ := p
    cases hi
    exact q
  exact k _ _ _ _ _ (H7.drop (by walk_at "sub"))
end
section
variable {w : World} {B : Heap} {mg mb : Str → Option Value}
def abv (os : List Int) (r : Int) : Int := (candL os r).getD ((candL os r).length - 1) 0
def oth (os : List Int) (r : Int) : List Int := os.filter fun one => one ≠ r
def insr (os : List Int) (r : Int) : List Int := (oth os r).take ((oth os r).idxOf (abv os r)) ++ [r] ++ (oth os r).drop ((oth os r).idxOf (abv os r))
def trow (os : List Int) (r : Int) : List Int := (lrow (insr os r) 7 0 6).getD []
structure Ed (os : List Int) (r : Int) : Prop where
  mem : r ∈ os
  cand : 0 < (candL os r).length
  abv : abv os r ∈ oth os r
  row : lrow (insr os r) 7 0 6 = some (trow os r)
  len : (trow os r).length = 13
theorem octs_len (row : List Int) : (octs row).length ≤ 2 * row.length + 1 := by
  have := flat_len row
  unfold octs
  simp only [List.length_append, List.length_singleton]; omega
theorem law_4 (ok : (CC w B mg mb).Ok) {A : Around} {c : Shared} {env : Env} {L bs bk bl br ol cl el : Addr} {xs xk xl : Value} {h0 h : Heap} {tk : Nat} {Q : Value → Shared → Prop} {os row0 : List Int}
    (V : EnvF (CC w B mg mb) env L lawKs [("script", bs), ("keys", bk), ("letters", bl), ("rank", br)] lawGs) (hC : ∀ x ∈ (["script", "keys", "letters", "rank"] : List Str), env.kindOf x = some .cell) (r' : Rm A 100 1000)
    (H : In (CC w B mg mb) [] h0 h [(el, PList []), (cl, PInts (octs row0)), (ol, PInts os), (L, PLoc lawKs [some (.ref ol), some (.ref cl), some (.ref el), none, none, none, none, none, none, none, none, none, none, none, none, none, none, none, none, none, none, none, none]), (bs, PCell (some xs)), (bk, PCell (some xk)), (bl, PCell (some xl)), (br, PCell none)])
    (hz : os.length = 6) (hrz : row0.length ≤ 13) (hsm : ∀ i ∈ os, i.natAbs < 2 ^ 16) (hE : ∀ r ∈ os.drop 1, Ed os r)
    (k : ∀ (ts : List (Addr × Int × Int)) v1 v2 v3 u h' tk', ts.map (·.2) = (os.drop 1).map (fun r => (abv os r, r)) → In (CC w B mg mb) [] h0 h' ((el, PList (ts.map fun p => .ref p.1)) :: (cl, PInts (octs row0 ++ (os.drop 1).flatMap fun r => octs (trow os r))) :: (ol, PInts os) :: (L, PLoc lawKs [some (.ref ol), some (.ref cl), some (.ref el), v1, v2, v3, none, none, none, none, none, none, none, none, none, none, none, none, none, none, none, none, none]) :: (bs, PCell (some xs)) :: (bk, PCell (some xk)) :: (bl, PCell (some xl)) :: (br, PCell u) :: tL ts) →
      wpAny (CC w B mg mb).M A (execs ((bodyAt 30).drop 6) env) (RetQ Q) (fun _ _ => False) (S c h' tk')) : wpAny (CC w B mg mb).M A (execs ((bodyAt 30).drop 5) env) (RetQ Q) (fun _ _ => False) (S c h tk) := by
  change wpAny _ _ (execs (_ :: (bodyAt 30).drop 6) _) (RetQ Q) _ _
  have hlay := lay_ints hsm (by omega)
  repeat' walk_at "s"
  rename In _ _ _ _ _ => H2
  have hdz : (os.drop 1).length = 5 := by simp [hz]
  rename_i dl _
  change In _ _ _ _ ((dl, PInts (os.drop 1)) :: _) at H2
  refine for_il (σ := (List (Addr × Int × Int) × List Int) × (Option Value × Option Value × Option Value × Option Value)) (l := dl) (ns := os.drop 1)
    (fun st => (dl, PInts (os.drop 1)) :: (el, PList (st.1.1.map fun p => .ref p.1)) :: (cl, PInts st.1.2) :: (ol, PInts os) :: (L, PLoc lawKs [some (.ref ol), some (.ref cl), some (.ref el), st.2.1, st.2.2.1, st.2.2.2.1, none, none, none, none, none, none, none, none, none, none, none, none, none, none, none, none, none]) :: (bs, PCell (some xs)) :: (bk, PCell (some xk)) :: (bl, PCell (some xl)) :: (br, PCell st.2.2.2.2) :: tL st.1.1)
    (fun i st => st.1.1.map (·.2) = ((os.drop 1).take i).map (fun r => (abv os r, r)) ∧ st.1.2 = octs row0 ++ ((os.drop 1).take i).flatMap (fun r => octs (trow os r)) ∧ st.1.2.length ≤ 27 + 27 * i ∧ st.1.1.length = i)
    [(dl, PInts (os.drop 1))] (([], octs row0), (none, none, none, none)) ok r'.hh (fun h n H hn => (H.at (hn _ List.mem_cons_self)).il) (fun st p hp => by rw [List.mem_singleton.mp hp]; exact List.mem_cons_self) ?_ (H2.drop ?_) ?_ ?_ ?_
  · intro _ _; rfl
  · change List.Sublist [_, (el, PList []), _, _, _, _, _, _, (br, PCell none)] _
    dsimp only
    walk_at "sub"
  · refine ⟨by simp, by simp, ?_, rfl⟩
    have := octs_len row0
    dsimp only; omega
  · rintro i j t it ⟨⟨ts, oc⟩, v1, v2, v3, u⟩ h3 tk3 e ⟨hI1, hI2, hI3, hI4⟩ H3
    dsimp only at hI1 hI2 hI3 hI4 H3 ⊢
    have hi : i < 5 := by have := (List.getElem?_eq_some_iff.mp e).1; omega
    have E := hE j (List.mem_of_getElem? e)
    repeat' walk_at "s"
    rename In _ _ _ _ _ => H4
    with_reducible refine sp_int (sp_law_above ok ol os j _ (by omega) E.mem hlay E.cand) r' (by decide) (by decide) H4 (H4.at (by walk_at "mem")) fun t5 h5 tk5 H5 => ?_
    repeat' walk_at "s"
    refine x_asgLC (ks' := [".0", "one"]) (fs := ["rank"]) (oc := []) (gn := []) V (by walk_at "cs") (by walk_at "has") (by walk_at "mem") rfl rfl (by decide +kernel) (fun _ => rfl) fun cl2 hcl2 => ?_
    repeat' walk_at "s"
    rename In _ _ _ _ _ => H6
    refine ck_il (ks' := [".0", "one"]) (fs := ["rank"]) (gn := []) (cs' := [("rank", br)]) (gs' := []) (n₀ := [(_, PInts os)]) (fun q => (os.take q).filter fun one => one ≠ j) ok r'.hh V (by walk_at "cs") (by decide +kernel) (by walk_at "all2") (by walk_at "gs") hcl2
      (fun h n H hn => (H.at (hn _ List.mem_cons_self)).il) (fun p hp => by rw [List.mem_singleton.mp hp]; walk_at "mem") (by walk_at "num") rfl (fun _ => rfl) H6 ?_ ?_
    · intro C' env' D i2 j2 t2 vs ys h7 tk7 V7 e7 hI7 H7 hlen
      obtain ⟨w1, w2, rfl⟩ := len2 hlen
      repeat' walk_at "s"
      all_goals rename In _ _ _ _ _ => H8
      · rename j2 ≠ j => hc
        refine cp_elt ⟨[w1, some (.int j2 t2)], rfl⟩ H8 fun _ _ => ia_snoc hI7 ?_
        rw [take_snoc e7, List.filter_append, List.filter_cons_of_pos (by simp only [decide_eq_true_eq]; exact hc), List.filter_nil]
      · rename j2 = j => hc
        refine cp_skip ⟨[w1, some (.int j2 t2)], rfl⟩ H8 ?_
        rw [take_snoc e7, List.filter_append, List.filter_cons_of_neg (by simp only [decide_eq_true_eq]; exact fun q => q hc), List.filter_nil, List.append_nil]
        exact hI7
    · intro C' D vs h7 tk7 H7
      rw [List.take_length] at H7
      change In _ _ _ _ ((C', _) :: (D, PInts (oth os j)) :: _) at H7
      with_reducible refine' fin_asg ok V H7 ?sk ?ch fun h8 tk8 H8 => ?_
      case ch => walk_at "ch"
      case sk => walk_at "sk"
      have E1 := E.abv
      have hoz : (oth os j).length ≤ 6 := Nat.le_trans (List.length_filter_le _ _) (by omega)
      have hol : PyData.layable0 (.list ((oth os j).map .int)) = true := lay_ints (fun i hi => hsm i (List.mem_filter.mp hi).1) (by omega)
      have eab : (candL os j).getD ((candL os j).length - 1) 0 = abv os j := rfl
      rw [eab] at H8
      repeat' walk_at "s"
      rename In _ _ _ _ _ => H9
      with_reducible refine idx_il (H9.at (by walk_at "mem")).il E1 hol fun t9 tk9 => ?_
      repeat' walk_at "s"
      rename In _ _ _ _ _ => HA
      rename_i lt _
      with_reducible refine' append_l ok HA ?ch ?nz ?_
      case ch => walk_at "ch"
      case nz => rw [List.length_map, hI4, sizeLine_eq]; omega
      intro hB HB
      repeat' walk_at "s"
      rename In _ _ _ _ _ => HC
      rename_i dr _
      simp only [Int.toNat_natCast] at HC
      change In _ _ _ _ ((dr, PInts (insr os j)) :: _) at HC
      have hil : (insr os j).length ≤ 1000 := by unfold insr; simp only [List.length_append, List.length_take, List.length_drop, List.length_singleton]; omega
      with_reducible refine sp_ob (sp_law_row ok dr (insr os j) hil 7 0 6 _ _ (trow os j) E.row (by rw [E.len]; omega)) r' (by decide) (by decide) HC ((HC.at (by walk_at "mem")).mono PInts.w) fun rl hD tkD HD => ?_
      repeat' walk_at "s"
      with_reducible refine sp_ob (sp_law_octets ok rl (trow os j) (by rw [E.len]; omega)) r' (by decide) (by decide) HD ((HD.at (by walk_at "mem")).mono PInts.w) fun xl2 hE tkE HE => ?_
      have hxz := octs_len (trow os j)
      rw [E.len] at hxz
      repeat' walk_at "s"
      rename In _ _ _ _ _ => HF
      have HG := ((HF.drop (n' := (lt, PTup [.int (abv os j) _, .int j _]) :: (it, _) :: (dl, _) :: (el, _) :: (cl, _) :: (ol, _) :: (L, _) :: (bs, _) :: (bk, _) :: (bl, _) :: (br, _) :: tL ts) (by walk_at "sub")).weak1 PTup.pt2).last
      have e1 : ts.map (fun p => Value.ref p.1) ++ [.ref lt] = (ts ++ [(lt, abv os j, j)]).map fun p => Value.ref p.1 := by simp
      rw [e1] at HG
      simp only [List.cons_append, tL_snoc] at HG
      refine lf_next ((ts ++ [(lt, abv os j, j)], oc ++ octs (trow os j)), (_, _, _, _)) HG ?_
      · refine ⟨?_, ?_, ?_, ?_⟩
        · rw [take_snoc e, List.map_append, List.map_append, hI1]; rfl
        · rw [take_snoc e, List.flatMap_append, hI2]; simp
        · simp only [List.length_append]; omega
        · simp only [List.length_append, List.length_singleton]; omega
  · rintro ⟨⟨ts, oc⟩, v1, v2, v3, u⟩ h3 tk3 ⟨hI1, hI2, hI3, hI4⟩ H3
    dsimp only at hI1 hI2 hI3 hI4 H3 ⊢
    rw [List.take_length] at hI1 hI2
    rw [hI2] at H3
    exact k ts v1 v2 v3 u _ _ hI1 H3.tail
end
section
variable {w : World} {B : Heap} {mg mb : Str → Option Value}
def digL (row : List Int) : List Int := row.reverse.map fun x => if 256 ≤ x then 1 else 0
theorem digL_mem {row : List Int} : ∀ d ∈ digL row, 0 ≤ d ∧ d < 2 ^ 1 := by
  intro d hd
  obtain ⟨x, _, rfl⟩ := List.mem_map.mp hd
  split <;> decide
theorem digL_len (row : List Int) : (digL row).length = row.length := by simp [digL]
def wordL (x0 x1 : Nat) (row : List Int) : List Nat := row.map fun s => if s < 256 then x1 else x0
theorem law_5 (ok : (CC w B mg mb).Ok) {A : Around} {c : Shared} {env : Env} {L bs bk bl br ol cl el : Addr} {xs xk : Value} {h0 h : Heap} {tk : Nat} {Q : Value → Shared → Prop} {os row0 oct : List Int} {ev : List Value} {v1 v2 v3 u : Option Value} {tl : Tok} {x0 x1 k0 : Nat} {tt : Led}
    (V : EnvF (CC w B mg mb) env L lawKs [("script", bs), ("keys", bk), ("letters", bl), ("rank", br)] lawGs) (r' : Rm A 100 1000)
    (H : In (CC w B mg mb) [] h0 h ((el, PList ev) :: (cl, PInts oct) :: (ol, PInts os) :: (L, PLoc lawKs [some (.ref ol), some (.ref cl), some (.ref el), v1, v2, v3, none, none, none, none, none, none, none, none, none, none, none, none, none, none, none, none, none]) :: (bs, PCell (some xs)) :: (bk, PCell (some xk)) :: (bl, PCell (some (.str (mks [x0, x1]) tl))) :: (br, PCell u) :: tt))
    (hz : os.length = 6) (hrow : lrow os 7 0 6 = some row0) (hrz : row0.length = 13) (hrd : rd 100 (oct.drop 0) = some (row0, k0)) (hdg : digs 1 (nd (dval 1 (digL row0)) 1) (dval 1 (digL row0)) = digL row0)
    (k : ∀ il rl dl tn tw h' tk', In (CC w B mg mb) [] h0 h' ((dl, PInts (digL row0)) :: (rl, PInts row0) :: (il, PIter cl k0) :: (el, PList ev) :: (cl, PInts oct) :: (L, PLoc lawKs [some (.ref ol), some (.ref cl), some (.ref el), v1, v2, v3, some (.ref il), some (.ref rl), some (.ref dl), some (.int (dval 1 (digL row0)) tn), some (.str (mks (wordL x0 x1 row0)) tw), none, none, none, none, none, none, none, none, none, none, none, none]) :: (bs, PCell (some xs)) :: (bk, PCell (some xk)) :: (bl, PCell (some (.str (mks [x0, x1]) tl))) :: (br, PCell u) :: tt) →
      wpAny (CC w B mg mb).M A (execs ((bodyAt 30).drop 12) env) (RetQ Q) (fun _ _ => False) (S c h' tk')) : wpAny (CC w B mg mb).M A (execs ((bodyAt 30).drop 6) env) (RetQ Q) (fun _ _ => False) (S c h tk) := by
  change wpAny _ _ (execs (_ :: _ :: _ :: _ :: _ :: _ :: (bodyAt 30).drop 12) _) (RetQ Q) _ _
  repeat' walk_at "s"
  rename In _ _ _ _ _ => H2
  rename_i il _ _ _ _
  have hne : cl ≠ il := H2.ne (P₂ := PInts oct) (by walk_at "mem")
  with_reducible refine' sp_wo (sp_law_read ok il cl oct 0 row0 k0 100 hrd hne (by decide)) r' (by decide) (by decide) H2 ?ch PIter.mut ⟨H2.ownB (by walk_at "mem") PIter.mut, (H2.at (by walk_at "mem")).mono PInts.w⟩ ?_
  case ch => walk_at "ch"
  intro rl h3 tk3 H3
  rw [Nat.zero_add] at H3
  repeat' walk_at "s"
  rename In _ _ _ _ _ => H4
  with_reducible refine sp_ob (sp_law_digits ok rl row0 (by omega)) r' (by decide) (by decide) H4 ((H4.at (by walk_at "mem")).mono PInts.w) fun dl h5 tk5 H5 => ?_
  repeat' walk_at "s"
  rename In _ _ _ _ _ => H6
  change In _ _ _ _ ((dl, PInts (digL row0)) :: _) at H6
  have hdl := digL_len row0
  have hb := dval_bound 1 (digL row0) digL_mem
  rw [hdl, hrz] at hb
  with_reducible refine sp_int (sp_digits2int ok dl (digL row0) 1 4 _ digL_mem (by omega) (by omega) (by rw [hdl, hrz]; decide)) r' (by decide) (by decide) H6 ((H6.at (by walk_at "mem")).mono PInts.w) fun tn h7 tk7 H7 => ?_
  repeat' walk_at "s"
  rename In _ _ _ _ _ => H8
  with_reducible refine sp_ob (sp_law_row ok ol os (by omega) 7 0 6 _ _ row0 hrow (by omega)) r' (by decide) (by decide) H8 ((H8.at (by walk_at "mem")).mono PInts.w) fun rl2 h9 tk9 H9 => ?_
  repeat' walk_at "s"
  rotate_left
  · rename ¬ _ => q
    exact absurd rfl q
  rename In _ _ _ _ _ => HA
  have hsz := bits_small (k := 13) hb.1 (by simpa using hb.2)
  have hnd := nd_le (dval 1 (digL row0)) (kn := 1) (by decide)
  with_reducible refine sp_ob (sp_int2digits ok (dval 1 (digL row0)) 1 4 _ _ hb.1 (by decide) (by decide) (by omega) (by omega)) r' (by decide) (by decide) HA trivial fun dl2 hB tkB HB => ?_
  rw [hdg] at HB
  repeat' walk_at "s"
  rotate_left
  · rename ¬ _ => q
    exact absurd rfl q
  rename In _ _ _ _ _ => HC
  with_reducible refine sp_go (sp_law_word ok rl row0 x0 x1 tl (by omega)) r' (by decide) (by decide) HC.hp ((HC.at (by walk_at "mem")).mono PInts.w) fun v hD tkD KD hv => ?_
  obtain ⟨tw, rfl⟩ : ∃ t, v = .str (mks (wordL x0 x1 row0)) t := hv
  have HD := HC.call KD
  clear HC
  repeat' walk_at "s"
  rename In _ _ _ _ _ => HE
  exact k il rl dl _ _ _ _ (HE.drop (by walk_at "sub"))
end
section
variable {w : World} {B : Heap} {mg mb : Str → Option Value}
def forB (i : Nat) : List Stmt := match (bodyAt 30)[i]? with
  | some (.For _ _ b _ _) => b
  | _ => []
def sizeL (part : List Int) : Int := part.foldl (fun s x => 2 * s + if x < 256 then 1 else 0) 0
theorem sizeL_snoc (p : List Int) (x : Int) : sizeL (p ++ [x]) = 2 * sizeL p + if x < 256 then 1 else 0 := by simp [sizeL]
theorem digL_rev (row : List Int) : (digL row).reverse = row.map fun x => if 256 ≤ x then 1 else 0 := by simp [digL]
theorem law_6d (ok : (CC w B mg mb).Ok) {A : Around} {c : Shared} {env : Env} {L bs bk bl br it dl rl il el cl pl ul tl2 : Addr} {Pi Pd Pl Pe Pc Ps Pk Pp Pu : OP} {h0 h : Heap} {tk : Nat} {Qf : Flow → Shared → Prop} {row0 trw : List Int} {a1 a2 a3 a4 a5 a6 a7 a8 a9 aA aB aC aD aE aF aG aH aI aJ aK : Option Value} {tl td tw : Tok} {x0 x1 : Nat} {due : Int} {tt : Led}
    (V : EnvF (CC w B mg mb) env L lawKs [("script", bs), ("keys", bk), ("letters", bl), ("rank", br)] lawGs) (r' : Rm A 100 1000)
    (H : In (CC w B mg mb) [] h0 h ((tl2, PInts (digL trw)) :: (pl, Pp) :: (ul, Pu) :: (it, Pi) :: (dl, Pd) :: (rl, PInts row0) :: (il, Pl) :: (el, Pe) :: (cl, Pc) :: (L, PLoc lawKs [a1, a2, a3, a4, a5, a6, a7, a8, a9, aA, some (.str (mks (wordL x0 x1 row0)) tw), aB, aC, aD, aE, aF, aG, aH, aI, some (.ref tl2), aJ, some (.int due td), aK]) :: (bs, Ps) :: (bk, Pk) :: (bl, PCell (some (.str (mks [x0, x1]) tl))) :: tt))
    (hz0 : row0.length = 13) (hzt : trw.length = 13) (hlow0 : LowOk x0) (hlow1 : LowOk x1) (hlev : lev (wordL x0 x1 row0) (wordL x0 x1 trw) due = due)
    (k : ∀ b6 h' tk', In (CC w B mg mb) [] h0 h' ((pl, Pp) :: (ul, Pu) :: (it, Pi) :: (dl, Pd) :: (rl, PInts row0) :: (il, Pl) :: (el, Pe) :: (cl, Pc) :: (L, PLoc lawKs [a1, a2, a3, a4, a5, a6, a7, a8, a9, aA, some (.str (mks (wordL x0 x1 row0)) tw), aB, aC, aD, aE, aF, aG, aH, aI, some (.ref tl2), aJ, some (.int due td), b6]) :: (bs, Ps) :: (bk, Pk) :: (bl, PCell (some (.str (mks [x0, x1]) tl))) :: tt) → Qf .next (S c h' tk')) :
    wpAny (CC w B mg mb).M A (execs ((forB 12).drop 11) env) Qf (fun _ _ => False) (S c h tk) := by
  change wpAny _ _ (execs (_ :: _ :: []) _) _ _ _
  have hdl := digL_len trw
  repeat' walk_at "s"
  refine e_comp (ks' := [".0", "digit"]) (fs := ["letters"]) (oc := []) (gn := []) V (by walk_at "cs") (by walk_at "has") (fun _ => rfl) fun cl2 hcl2 => ?_
  repeat' walk_at "s"
  rename In _ _ _ _ _ => H2
  have hz2 : (digL trw).reverse.length ≤ sizeLine := by rw [List.length_reverse, hdl, sizeLine_eq]; omega
  refine ck_0 (ks' := [".0", "digit"]) (fs := ["letters"]) (gn := []) (cs' := [("letters", bl)]) (gs' := []) (n₀ := [(_, PInts (digL trw).reverse)]) (fun i ys _ => StrsAre ys ((((digL trw).reverse.take i).map fun d => if d = 1 then x0 else x1).map fun z => mks [z])) ok V (by walk_at "cs") (by decide +kernel) (by walk_at "all2") (by walk_at "gs") hcl2
    (src_il ok r'.hh fun h n H hn => (H.at (hn _ List.mem_cons_self)).il) (fun p hp => by rw [List.mem_singleton.mp hp]; walk_at "mem") hz2 (fun _ _ _ _ q _ => q) (fun _ => rfl) H2 (fun _ => .nil) ?_ ?_
  · rintro C' env' D i v vs ys h3 tk3 V3 hi ⟨j, t, e, rfl⟩ hI H3 hlen
    obtain ⟨v1, v2, rfl⟩ := len2 hlen
    have hj : j = 1 ∨ j = 0 := by
      have hm := List.mem_of_getElem? e
      rw [digL_rev] at hm
      obtain ⟨x, _, rfl⟩ := List.mem_map.mp hm
      split <;> simp
    repeat' walk_at "s"
    rename In _ _ _ _ _ => H4
    rcases hj with rfl | rfl
    · with_reducible refine s_item (x := [x0, x1]) (j := 0) (d := x0) (.inl (by omega)) rfl (by simp only [List.length_cons, List.length_nil]; omega) (fun _ _ => ?_) (by with_unfolding_all rfl)
      refine cp_elt ⟨[v1, some (.int 1 t)], rfl⟩ H4 fun _ _ => ?_
      rw [take_snoc e, List.map_append, List.map_singleton, if_pos rfl]
      exact sa_snoc hI
    · with_reducible refine s_item (x := [x0, x1]) (j := 1) (d := x1) (.inl (by omega)) rfl (by simp only [List.length_cons, List.length_nil]; omega) (fun _ _ => ?_) (by with_unfolding_all rfl)
      refine cp_elt ⟨[v1, some (.int 0 t)], rfl⟩ H4 fun _ _ => ?_
      rw [take_snoc e, List.map_append, List.map_singleton, if_neg (by decide)]
      exact sa_snoc hI
  · intro C' D vs ys h3 tk3 hI hy H3
    refine fin_none ok H3 fun h4 H4 _ => ?_
    rw [List.take_length] at hI
    have ew : ((digL trw).reverse.map fun d => if d = 1 then x0 else x1) = wordL x0 x1 trw := by
      rw [digL_rev, List.map_map]
      unfold wordL
      apply List.map_congr_left
      intro x _
      by_cases hx : 256 ≤ x
      · simp [hx] <;> omega
      · simp [hx] <;> omega
    rw [ew] at hI
    repeat' walk_at "s"
    with_reducible refine ss_join hI (by unfold wordL; rw [List.length_map]; omega) (H4.at List.mem_cons_self).isList fun _ _ => ?_
    repeat' walk_at "s"
    rename In _ _ _ _ _ => H5
    have hw : ∀ row, ∀ i ∈ wordL x0 x1 row, LowOk i := by
      intro row i hi
      obtain ⟨x, _, rfl⟩ := List.mem_map.mp hi
      split
      · exact hlow1
      · exact hlow0
    have hlw : ∀ row, (wordL x0 x1 row).length = row.length := fun row => by unfold wordL; rw [List.length_map]
    with_reducible refine sp_int (sp_lev ok (wordL x0 x1 row0) (wordL x0 x1 trw) due _ _ _ (hw _) (hw _) (by rw [hlw]; omega) (by rw [hlw]; omega)) r' (by decide) (by decide) H5 trivial fun t6 h6 tk6 H6 => ?_
    rw [hlev]
    repeat' walk_at "s"
    exact k _ _ _ (H6.drop (by walk_at "sub"))
end
section
variable {w : World} {B : Heap} {mg mb : Str → Option Value}
theorem law_6c (ok : (CC w B mg mb).Ok) {A : Around} {c : Shared} {env : Env} {L bs bk bl br it dl rl il el cl pl ul tl2 : Addr} {Pi Pd Pl Pe Pc Ps Pk Pp Pu : OP} {h0 h : Heap} {tk : Nat} {Qf : Flow → Shared → Prop} {row0 trw : List Int} {a1 a2 a3 a4 a5 a6 a7 a8 a9 aA aB aC aD aE aF aG aI aJ aK aL : Option Value} {tl ts tw : Tok} {x0 x1 : Nat} {due sz : Int} {tt : Led}
    (V : EnvF (CC w B mg mb) env L lawKs [("script", bs), ("keys", bk), ("letters", bl), ("rank", br)] lawGs) (r' : Rm A 100 1000)
    (H : In (CC w B mg mb) [] h0 h ((tl2, PInts (digL trw)) :: (pl, Pp) :: (ul, Pu) :: (it, Pi) :: (dl, Pd) :: (rl, PInts row0) :: (il, Pl) :: (el, Pe) :: (cl, Pc) :: (L, PLoc lawKs [a1, a2, a3, a4, a5, a6, a7, a8, a9, aA, some (.str (mks (wordL x0 x1 row0)) tw), aB, aC, aD, aE, aF, aG, some (.int sz ts), aI, some (.ref tl2), aJ, aL, aK]) :: (bs, Ps) :: (bk, Pk) :: (bl, PCell (some (.str (mks [x0, x1]) tl))) :: tt))
    (hz0 : row0.length = 13) (hzt : trw.length = 13) (hlow0 : LowOk x0) (hlow1 : LowOk x1) (hlev : lev (wordL x0 x1 row0) (wordL x0 x1 trw) due = due)
    (hdue : due = if [x0, x1] ≠ [97, 98] ∧ Builtin.bitAnd sz (sz + 1) = 0 then 2 else 4)
    (k : ∀ b5 b6 h' tk', In (CC w B mg mb) [] h0 h' ((pl, Pp) :: (ul, Pu) :: (it, Pi) :: (dl, Pd) :: (rl, PInts row0) :: (il, Pl) :: (el, Pe) :: (cl, Pc) :: (L, PLoc lawKs [a1, a2, a3, a4, a5, a6, a7, a8, a9, aA, some (.str (mks (wordL x0 x1 row0)) tw), aB, aC, aD, aE, aF, aG, some (.int sz ts), aI, some (.ref tl2), aJ, b5, b6]) :: (bs, Ps) :: (bk, Pk) :: (bl, PCell (some (.str (mks [x0, x1]) tl))) :: tt) → Qf .next (S c h' tk')) :
    wpAny (CC w B mg mb).M A (execs ((forB 12).drop 10) env) Qf (fun _ _ => False) (S c h tk) := by
  change wpAny _ _ (execs (_ :: (forB 12).drop 11) _) _ _ _
  repeat' walk_at "s"
  rw [show Str.ofString "ab" = mks [97, 98] from rfl]
  repeat' walk_at "s"
  all_goals rename In _ _ _ _ _ => H2
  · rename [x0, x1] = _ => q1
    rw [if_neg (fun q => q.1 q1)] at hdue
    subst hdue
    exact law_6d ok V r' H2 hz0 hzt hlow0 hlow1 hlev fun b6 h' tk' H' => k _ _ _ _ H'
  · rename Builtin.bitAnd _ _ = 0 => q2
    rename ¬ _ => q1
    rw [if_pos ⟨q1, q2⟩] at hdue
    subst hdue
    exact law_6d ok V r' H2 hz0 hzt hlow0 hlow1 hlev fun b6 h' tk' H' => k _ _ _ _ H'
  · rename Builtin.bitAnd _ _ ≠ 0 => q2
    rw [if_neg (fun q => q2 q.2)] at hdue
    subst hdue
    exact law_6d ok V r' H2 hz0 hzt hlow0 hlow1 hlev fun b6 h' tk' H' => k _ _ _ _ H'
end
section
variable {w : World} {B : Heap} {mg mb : Str → Option Value}
theorem law_6b (ok : (CC w B mg mb).Ok) {A : Around} {c : Shared} {env : Env} {L bs bk bl br it dl rl il el cl ml pl ul : Addr} {Pi Pd Pl Pe Pc Ps Pk : OP} {h0 h : Heap} {tk : Nat} {Qf : Flow → Shared → Prop} {row0 trw part : List Int} {a1 a2 a3 a5 a6 a7 a8 a9 aA aB aC aD aE aF aG : Option Value} {ta tl tr tn te tw : Tok} {x0 x1 : Nat} {ab rk due : Int} {e : Nat} {tt : Led}
    (V : EnvF (CC w B mg mb) env L lawKs [("script", bs), ("keys", bk), ("letters", bl), ("rank", br)] lawGs) (r' : Rm A 100 1000)
    (H : In (CC w B mg mb) [] h0 h ((ml, PInts trw) :: (pl, PInts part) :: (ul, PInts trw) :: (it, Pi) :: (dl, Pd) :: (rl, PInts row0) :: (il, Pl) :: (el, Pe) :: (cl, Pc) :: (L, PLoc lawKs [a1, a2, a3, some (.int ab ta), a5, a6, a7, some (.ref rl), a8, some (.int (dval 1 (digL row0)) tn), some (.str (mks (wordL x0 x1 row0)) tw), some (.ref ul), a9, aA, some (.int (e : Nat) te), some (.ref pl), some (.ref ml), aB, aC, aD, aE, aF, aG]) :: (bs, Ps) :: (bk, Pk) :: (bl, PCell (some (.str (mks [x0, x1]) tl))) :: (br, PCell (some (.int rk tr))) :: tt))
    (hz0 : row0.length = 13) (hzt : trw.length = 13) (hzp : part.length ≤ 13) (he : e ≤ 13)
    (hq : (dval 1 (digL row0) - dval 1 (digL trw)).fdiv (2 ^ (13 - e)) = if rk < ab then sizeL part else -sizeL part) (hm : (dval 1 (digL row0) - dval 1 (digL trw)).fmod (2 ^ (13 - e)) = 0)
    (hdue : due = if [x0, x1] ≠ [97, 98] ∧ Builtin.bitAnd (sizeL part) (sizeL part + 1) = 0 then 2 else 4) (hlow0 : LowOk x0) (hlow1 : LowOk x1) (hlev : lev (wordL x0 x1 row0) (wordL x0 x1 trw) due = due)
    (k : ∀ b1 b2 b3 b4 b5 b6 h' tk', In (CC w B mg mb) [] h0 h' ((it, Pi) :: (dl, Pd) :: (rl, PInts row0) :: (il, Pl) :: (el, Pe) :: (cl, Pc) :: (L, PLoc lawKs [a1, a2, a3, some (.int ab ta), a5, a6, a7, some (.ref rl), a8, some (.int (dval 1 (digL row0)) tn), some (.str (mks (wordL x0 x1 row0)) tw), some (.ref ul), a9, aA, some (.int (e : Nat) te), some (.ref pl), some (.ref ml), b1, b2, b3, b4, b5, b6]) :: (bs, Ps) :: (bk, Pk) :: (bl, PCell (some (.str (mks [x0, x1]) tl))) :: (br, PCell (some (.int rk tr))) :: tt) → Qf .next (S c h' tk')) :
    wpAny (CC w B mg mb).M A (execs ((forB 12).drop 4) env) Qf (fun _ _ => False) (S c h tk) := by
  change wpAny _ _ (execs (_ :: _ :: _ :: _ :: _ :: _ :: (forB 12).drop 10) _) _ _ _
  repeat' walk_at "s"
  rotate_left
  · rename ¬ _ => q
    exact absurd rfl q
  rename In _ _ _ _ _ => H2
  refine for_il (σ := Int × Tok × Option Value) (l := pl) (ns := part) (fun st => (ml, PInts trw) :: (pl, PInts part) :: (ul, PInts trw) :: (it, Pi) :: (dl, Pd) :: (rl, PInts row0) :: (il, Pl) :: (el, Pe) :: (cl, Pc) :: (L, PLoc lawKs [a1, a2, a3, some (.int ab ta), a5, a6, a7, some (.ref rl), a8, some (.int (dval 1 (digL row0)) tn), some (.str (mks (wordL x0 x1 row0)) tw), some (.ref ul), a9, aA, some (.int (e : Nat) te), some (.ref pl), some (.ref ml), some (.int st.1 st.2.1), st.2.2, aD, aE, aF, aG]) :: (bs, Ps) :: (bk, Pk) :: (bl, PCell (some (.str (mks [x0, x1]) tl))) :: (br, PCell (some (.int rk tr))) :: tt)
    (fun i st => st.1 = sizeL (part.take i)) [(pl, PInts part)] (0, _, _) ok r'.hh (fun h n H hn => (H.at (hn _ List.mem_cons_self)).il) (fun st p hp => by rw [List.mem_singleton.mp hp]; walk_at "mem") ?_ H2 rfl ?_ ?_
  · intro _ _; rfl
  · rintro i j t it2 ⟨sz, ts, sv⟩ h3 tk3 ei hI H3
    dsimp only at hI H3 ⊢
    repeat' walk_at "s"
    all_goals
      rename In _ _ _ _ _ => H4
      refine lf_next (_, _, some (.int j t)) H4 ?_
      dsimp only
      rw [take_snoc ei, sizeL_snoc, hI]
      simp [*]
  · rintro ⟨sz, ts, sv⟩ h3 tk3 hI H3
    dsimp only at hI H3 ⊢
    rw [List.take_length] at hI
    subst hI
    repeat' walk_at "s"
    rename In _ _ _ _ _ => H4
    with_reducible refine sp_ob (sp_law_digits ok ul trw (by omega)) r' (by decide) (by decide) H4 ((H4.at (by walk_at "mem")).mono PInts.w) fun tl2 h5 tk5 H5 => ?_
    change In _ _ _ _ ((tl2, PInts (digL trw)) :: _) at H5
    have hdl0 := digL_len row0
    have hdl1 := digL_len trw
    have hb0 := dval_bound 1 (digL row0) digL_mem
    have hb1 := dval_bound 1 (digL trw) digL_mem
    rw [hdl0, hz0] at hb0
    rw [hdl1, hzt] at hb1
    repeat' walk_at "s"
    rename In _ _ _ _ _ => H6
    with_reducible refine sp_int (sp_digits2int ok tl2 (digL trw) 1 4 _ digL_mem (by omega) (by omega) (by rw [hdl1, hzt]; decide)) r' (by decide) (by decide) H6 ((H6.at (by walk_at "mem")).mono PInts.w) fun tn2 h7 tk7 H7 => ?_
    repeat' walk_at "s"
    rename In _ _ _ _ _ => H8
    have e13 : ((row0.length : Int) - (e : Nat)).toNat = 13 - e := by omega
    with_reducible refine r_pow (by omega) ?_ ?_
    · have : Builtin.Int.intBits 2 = 2 := by decide
      rw [this, hz0]; omega
    rw [e13]
    repeat' walk_at "s"
    generalize hfall : dval 1 (digL row0) - dval 1 (digL trw) = fall at *
    have hfb : fall.natAbs < 2 ^ 14 := by omega
    have hpz : Builtin.Int.intBits ((2 : Int) ^ (13 - e)) ≤ 3000 := by
      have : 13 - e ≤ 13 := by omega
      generalize 13 - e = x at this
      exact Nat.le_trans (bits_small (k := 14) (Int.pow_nonneg (by decide)) (by exact_mod_cast Nat.pow_lt_pow_right (by decide) (by omega))) (by decide)
    have hp0 : (2 : Int) ^ (13 - e) ≠ 0 := by
      have : (0 : Int) < 2 ^ (13 - e) := Int.pow_pos (by decide)
      omega
    with_reducible refine sp_ob (sp_int_divmod ok fall (2 ^ (13 - e)) _ _ 14 4 hp0 hpz hfb (by decide) (by decide)) r' (by decide) (by decide) H8 trivial fun dm h9 tk9 H9 => ?_
    rw [hq, hm] at H9
    repeat' walk_at "s"
    · rename rk < ab => hlt
      rename In _ _ _ _ _ => HA
      rw [if_pos hlt] at HA
      with_reducible refine ne_tup2 (HA.at (by walk_at "mem")) ((HA.at List.mem_cons_self).mono PTup.pt2) r'.line0 ?_
      repeat' walk_at "s"
      refine law_6c (pl := pl) (ul := ul) (it := it) (dl := dl) ok V r' (HA.drop (by walk_at "sub")) hz0 hzt hlow0 hlow1 hlev hdue fun b5 b6 h' tk' H' => ?_
      exact k _ _ _ _ _ _ _ _ (H'.drop (by walk_at "sub"))
    · rename ¬ rk < ab => hlt
      rename In _ _ _ _ _ => HA
      rw [if_neg hlt] at HA
      with_reducible refine ne_tup2 (HA.at (by walk_at "mem")) ((HA.at List.mem_cons_self).mono PTup.pt2) r'.line0 ?_
      repeat' walk_at "s"
      refine law_6c (pl := pl) (ul := ul) (it := it) (dl := dl) ok V r' (HA.drop (by walk_at "sub")) hz0 hzt hlow0 hlow1 hlev hdue fun b5 b6 h' tk' H' => ?_
      exact k _ _ _ _ _ _ _ _ (H'.drop (by walk_at "sub"))
end
section
variable {w : World} {B : Heap} {mg mb : Str → Option Value}
def eEnd (row0 : List Int) (ab rk : Int) : Nat := if rk < ab then row0.idxOf (256 + rk) + 1 + (scanEnd (row0.drop (row0.idxOf (256 + rk) + 1)) 1).getD 0 else row0.idxOf (256 + rk) + 1
def ePart (row0 : List Int) (ab rk : Int) : List Int :=
  if rk < ab then (row0.drop (row0.idxOf (256 + rk) + 1)).take (eEnd row0 ab rk - (row0.idxOf (256 + rk) + 1)) else (row0.drop (row0.idxOf (256 + ab) + 1)).take (row0.idxOf (256 + rk) - (row0.idxOf (256 + ab) + 1))
def eMoved (row0 : List Int) (ab rk : Int) : List Int :=
  if rk < ab then row0.take (row0.idxOf (256 + ab)) ++ (row0.drop (row0.idxOf (256 + ab) + 1)).take (eEnd row0 ab rk - (row0.idxOf (256 + ab) + 1)) ++ [row0.getD (row0.idxOf (256 + ab)) 0] ++ row0.drop (eEnd row0 ab rk)
  else row0.take (row0.idxOf (256 + ab)) ++ [row0.getD (row0.idxOf (256 + rk)) 0] ++ (row0.drop (row0.idxOf (256 + ab))).take (row0.idxOf (256 + rk) - row0.idxOf (256 + ab)) ++ row0.drop (eEnd row0 ab rk)
def eDue (x0 x1 : Nat) (part : List Int) : Int := if [x0, x1] ≠ [97, 98] ∧ Builtin.bitAnd (sizeL part) (sizeL part + 1) = 0 then 2 else 4
structure Tn (row0 : List Int) (ab rk : Int) (x0 x1 : Nat) : Prop where
  iu : 256 + ab ∈ row0
  il : 256 + rk ∈ row0
  sc : rk < ab → (scanEnd (row0.drop (row0.idxOf (256 + rk) + 1)) 1).isSome = true
  he : eEnd row0 ab rk ≤ 13
  len : (eMoved row0 ab rk).length = 13
  fq : (dval 1 (digL row0) - dval 1 (digL (eMoved row0 ab rk))).fdiv (2 ^ (13 - eEnd row0 ab rk)) = if rk < ab then sizeL (ePart row0 ab rk) else -sizeL (ePart row0 ab rk)
  fm : (dval 1 (digL row0) - dval 1 (digL (eMoved row0 ab rk))).fmod (2 ^ (13 - eEnd row0 ab rk)) = 0
  lv : lev (wordL x0 x1 row0) (wordL x0 x1 (eMoved row0 ab rk)) (eDue x0 x1 (ePart row0 ab rk)) = eDue x0 x1 (ePart row0 ab rk)
theorem law_6a (ok : (CC w B mg mb).Ok) {A : Around} {c : Shared} {env : Env} {L bs bk bl br it dl rl il el cl : Addr} {Pi Pd Pe Ps Pk : OP} {h0 h : Heap} {tk : Nat} {Qf : Flow → Shared → Prop} {row0 oct : List Int} {a1 a2 a3 a5 a6 a8 c1 c2 c3 c4 c5 c6 c7 c8 c9 cA cB cC : Option Value} {ta tl tr tn tw : Tok} {x0 x1 p q : Nat} {ab rk : Int} {tt : Led}
    (V : EnvF (CC w B mg mb) env L lawKs [("script", bs), ("keys", bk), ("letters", bl), ("rank", br)] lawGs) (r' : Rm A 100 1000)
    (H : In (CC w B mg mb) [] h0 h ((it, Pi) :: (dl, Pd) :: (rl, PInts row0) :: (il, PIter cl p) :: (el, Pe) :: (cl, PInts oct) :: (L, PLoc lawKs [a1, a2, a3, some (.int ab ta), a5, a6, some (.ref il), some (.ref rl), a8, some (.int (dval 1 (digL row0)) tn), some (.str (mks (wordL x0 x1 row0)) tw), c1, c2, c3, c4, c5, c6, c7, c8, c9, cA, cB, cC]) :: (bs, Ps) :: (bk, Pk) :: (bl, PCell (some (.str (mks [x0, x1]) tl))) :: (br, PCell (some (.int rk tr))) :: tt))
    (hz0 : row0.length = 13) (hsm : ∀ i ∈ row0, i.natAbs < 2 ^ 16) (hlow0 : LowOk x0) (hlow1 : LowOk x1) (hrd : rd 100 (oct.drop p) = some (eMoved row0 ab rk, q)) (T : Tn row0 ab rk x0 x1)
    (k : ∀ b1 b2 b3 b4 b5 b6 b7 b8 b9 bA bB bC h' tk', In (CC w B mg mb) [] h0 h' ((it, Pi) :: (dl, Pd) :: (rl, PInts row0) :: (il, PIter cl (p + q)) :: (el, Pe) :: (cl, PInts oct) :: (L, PLoc lawKs [a1, a2, a3, some (.int ab ta), a5, a6, some (.ref il), some (.ref rl), a8, some (.int (dval 1 (digL row0)) tn), some (.str (mks (wordL x0 x1 row0)) tw), b1, b2, b3, b4, b5, b6, b7, b8, b9, bA, bB, bC]) :: (bs, Ps) :: (bk, Pk) :: (bl, PCell (some (.str (mks [x0, x1]) tl))) :: (br, PCell (some (.int rk tr))) :: tt) → Qf .next (S c h' tk')) :
    wpAny (CC w B mg mb).M A (execs (forB 12) env) Qf (fun _ _ => False) (S c h tk) := by
  change wpAny _ _ (execs (_ :: _ :: _ :: _ :: (forB 12).drop 4) _) _ _ _
  have hne : cl ≠ il := (H.drop (n' := [(il, _), (cl, _)]) (by walk_at "sub")).ne (P₂ := PInts oct) (by walk_at "mem")
  have hlay := lay_ints hsm (by omega)
  have hup := List.idxOf_lt_length_iff.mpr T.iu
  have hlo := List.idxOf_lt_length_iff.mpr T.il
  rw [hz0] at hup hlo
  repeat' walk_at "s"
  with_reducible refine' sp_wo (sp_law_read ok il cl oct p (eMoved row0 ab rk) q 100 hrd hne (by decide)) r' (by decide) (by decide) H ?ch PIter.mut ⟨H.ownB (by walk_at "mem") PIter.mut, (H.at (by walk_at "mem")).mono PInts.w⟩ ?_
  case ch => walk_at "ch"
  intro ul h3 tk3 H3
  repeat' walk_at "s"
  rename In _ _ _ _ _ => H4
  with_reducible refine idx_il (H4.at (by walk_at "mem")).il T.iu hlay fun tu _ => ?_
  repeat' walk_at "s"
  rename In _ _ _ _ _ => H5
  with_reducible refine idx_il (H5.at (by walk_at "mem")).il T.il hlay fun tlo _ => ?_
  repeat' walk_at "s"
  · rename rk < ab => hlt
    obtain ⟨m, em⟩ := Option.isSome_iff_exists.mp (T.sc hlt)
    have ee : eEnd row0 ab rk = row0.idxOf (256 + rk) + 1 + m := by unfold eEnd; rw [if_pos hlt, em]; rfl
    have he := T.he
    rw [ee] at he
    rename In _ _ _ _ _ => H6
    rw [show ((row0.idxOf (256 + rk) : Nat) : Int) + 1 = ((row0.idxOf (256 + rk) + 1 : Nat) : Int) by omega]
    with_reducible refine sp_int (sp_law_end ok rl row0 (row0.idxOf (256 + rk) + 1) m _ em (by omega)) r' (by decide) (by decide) H6 (H6.at (by walk_at "mem")) fun te h7 tk7 H7 => ?_
    rw [← ee] at he ⊢
    repeat' walk_at "s"
    rename In _ _ _ _ _ => H8
    have t1 : ∀ n : Nat, ((n : Int) + 1).toNat = n + 1 := by intro n; omega
    simp only [Int.toNat_natCast, t1] at H8
    have e2 : row0.take (row0.idxOf (256 + ab)) ++ (row0.drop (row0.idxOf (256 + ab) + 1)).take (eEnd row0 ab rk - (row0.idxOf (256 + ab) + 1)) ++ [row0.getD (row0.idxOf (256 + ab)) 0] ++ row0.drop (eEnd row0 ab rk) = eMoved row0 ab rk := by unfold eMoved; rw [if_pos hlt]
    have e1 : (row0.drop (row0.idxOf (256 + rk) + 1)).take (eEnd row0 ab rk - (row0.idxOf (256 + rk) + 1)) = ePart row0 ab rk := by unfold ePart; rw [if_pos hlt]
    rw [e2, e1] at H8
    have hpz : (ePart row0 ab rk).length ≤ 13 := by rw [← e1]; simp; omega
    refine law_6b (part := ePart row0 ab rk) (trw := eMoved row0 ab rk) (ul := ul) (it := it) (dl := dl) (e := eEnd row0 ab rk) ok V r' (H8.drop (by walk_at "sub")) hz0 T.len hpz T.he T.fq T.fm rfl hlow0 hlow1 T.lv fun b1 b2 b3 b4 b5 b6 h' tk' H' => ?_
    exact k _ _ _ _ _ _ _ _ _ _ _ _ _ _ H'
  · rename ¬ rk < ab => hlt
    rename In _ _ _ _ _ => H8
    have ee : eEnd row0 ab rk = row0.idxOf (256 + rk) + 1 := by unfold eEnd; rw [if_neg hlt]
    have t1 : ∀ n : Nat, ((n : Int) + 1).toNat = n + 1 := by intro n; omega
    simp only [Int.toNat_natCast, t1] at H8
    have e2 : row0.take (row0.idxOf (256 + ab)) ++ [row0.getD (row0.idxOf (256 + rk)) 0] ++ (row0.drop (row0.idxOf (256 + ab))).take (row0.idxOf (256 + rk) - row0.idxOf (256 + ab)) ++ row0.drop (row0.idxOf (256 + rk) + 1) = eMoved row0 ab rk := by unfold eMoved; rw [if_neg hlt, ee]
    have e1 : (row0.drop (row0.idxOf (256 + ab) + 1)).take (row0.idxOf (256 + rk) - (row0.idxOf (256 + ab) + 1)) = ePart row0 ab rk := by unfold ePart; rw [if_neg hlt]
    rw [e2, e1] at H8
    have hpz : (ePart row0 ab rk).length ≤ 13 := by rw [← e1]; simp; omega
    have e3 : ((row0.idxOf (256 + rk) : Nat) : Int) + 1 = ((eEnd row0 ab rk : Nat) : Int) := by rw [ee]; omega
    rw [e3] at H8
    refine law_6b (part := ePart row0 ab rk) (trw := eMoved row0 ab rk) (ul := ul) (it := it) (dl := dl) (e := eEnd row0 ab rk) ok V r' (H8.drop (by walk_at "sub")) hz0 T.len hpz T.he T.fq T.fm rfl hlow0 hlow1 T.lv fun b1 b2 b3 b4 b5 b6 h' tk' H' => ?_
    exact k _ _ _ _ _ _ _ _ _ _ _ _ _ _ H'
end
section
variable {w : World} {B : Heap} {mg mb : Str → Option Value}
theorem law_6 (ok : (CC w B mg mb).Ok) {A : Around} {c : Shared} {env : Env} {L bs bk bl br dl rl il el cl : Addr} {Pd Ps Pk : OP} {h0 h : Heap} {tk : Nat} {Q : Value → Shared → Prop} {row0 oct : List Int} {a1 a2 a4 a5 a6 a8 u : Option Value} {tl tn tw : Tok} {x0 x1 : Nat} {ts : List (Addr × Int × Int)} (pos ln : Nat → Nat)
    (V : EnvF (CC w B mg mb) env L lawKs [("script", bs), ("keys", bk), ("letters", bl), ("rank", br)] lawGs) (hC : ∀ x ∈ (["script", "keys", "letters", "rank"] : List Str), env.kindOf x = some .cell) (r' : Rm A 100 1000)
    (H : In (CC w B mg mb) [] h0 h ((dl, Pd) :: (rl, PInts row0) :: (il, PIter cl (pos 0)) :: (el, PList (ts.map fun p => .ref p.1)) :: (cl, PInts oct) :: (L, PLoc lawKs [a1, a2, some (.ref el), a4, a5, a6, some (.ref il), some (.ref rl), a8, some (.int (dval 1 (digL row0)) tn), some (.str (mks (wordL x0 x1 row0)) tw), none, none, none, none, none, none, none, none, none, none, none, none]) :: (bs, Ps) :: (bk, Pk) :: (bl, PCell (some (.str (mks [x0, x1]) tl))) :: (br, PCell u) :: tL ts))
    (hz0 : row0.length = 13) (hsm : ∀ i ∈ row0, i.natAbs < 2 ^ 16) (hlow0 : LowOk x0) (hlow1 : LowOk x1)
    (hT : ∀ (i : Nat) T ab rk, ts[i]? = some (T, ab, rk) → Tn row0 ab rk x0 x1 ∧ rd 100 (oct.drop (pos i)) = some (eMoved row0 ab rk, ln i) ∧ pos (i + 1) = pos i + ln i)
    (k : ∀ d1 d2 d3 d4 d5 d6 d7 d8 d9 dA dB dC dD u h' tk', In (CC w B mg mb) [] h0 h' ((dl, Pd) :: (rl, PInts row0) :: (il, PIter cl (pos ts.length)) :: (el, PList (ts.map fun p => .ref p.1)) :: (cl, PInts oct) :: (L, PLoc lawKs [a1, a2, some (.ref el), d1, a5, a6, some (.ref il), some (.ref rl), a8, some (.int (dval 1 (digL row0)) tn), some (.str (mks (wordL x0 x1 row0)) tw), d2, d3, d4, d5, d6, d7, d8, d9, dA, dB, dC, dD]) :: (bs, Ps) :: (bk, Pk) :: (bl, PCell (some (.str (mks [x0, x1]) tl))) :: (br, PCell u) :: tL ts) →
      wpAny (CC w B mg mb).M A (execs ((bodyAt 30).drop 13) env) (RetQ Q) (fun _ _ => False) (S c h' tk')) : wpAny (CC w B mg mb).M A (execs ((bodyAt 30).drop 12) env) (RetQ Q) (fun _ _ => False) (S c h tk) := by
  change wpAny _ _ (execs (_ :: (bodyAt 30).drop 13) _) (RetQ Q) _ _
  repeat' walk_at "s"
  refine for_list2 (σ := Nat × (Option Value × Option Value × Option Value × Option Value × Option Value × Option Value × Option Value × Option Value × Option Value × Option Value × Option Value × Option Value × Option Value) × Option Value) (us := ts.map fun p => .ref p.1)
    (fun st => (dl, Pd) :: (rl, PInts row0) :: (il, PIter cl st.1) :: (el, PList (ts.map fun p => .ref p.1)) :: (cl, PInts oct) :: (L, PLoc lawKs [a1, a2, some (.ref el), st.2.1.1, a5, a6, some (.ref il), some (.ref rl), a8, some (.int (dval 1 (digL row0)) tn), some (.str (mks (wordL x0 x1 row0)) tw), st.2.1.2.1, st.2.1.2.2.1, st.2.1.2.2.2.1, st.2.1.2.2.2.2.1, st.2.1.2.2.2.2.2.1, st.2.1.2.2.2.2.2.2.1, st.2.1.2.2.2.2.2.2.2.1, st.2.1.2.2.2.2.2.2.2.2.1, st.2.1.2.2.2.2.2.2.2.2.2.1, st.2.1.2.2.2.2.2.2.2.2.2.2.1, st.2.1.2.2.2.2.2.2.2.2.2.2.2.1, st.2.1.2.2.2.2.2.2.2.2.2.2.2.2]) :: (bs, Ps) :: (bk, Pk) :: (bl, PCell (some (.str (mks [x0, x1]) tl))) :: (br, PCell st.2.2) :: tL ts)
    (fun i st => st.1 = pos i) [(el, PList (ts.map fun p => .ref p.1))] (pos 0, (a4, none, none, none, none, none, none, none, none, none, none, none, none), u) ok r'.hh (fun v hv => ?_) (fun h n H hn => (H.at (hn _ List.mem_cons_self)).isList) (fun st p hp => by rw [List.mem_singleton.mp hp]; walk_at "mem") H rfl ?_ ?_
  · obtain ⟨p, _, rfl⟩ := List.mem_map.mp hv
    exact ⟨_, rfl⟩
  · rintro i T it ⟨p, ⟨d1, d2, d3, d4, d5, d6, d7, d8, d9, dA, dB, dC, dD⟩, u⟩ h3 tk3 ei hI H3
    dsimp only at hI H3 ⊢
    subst hI
    rw [List.getElem?_map] at ei
    obtain ⟨⟨T', ab, rk⟩, et, eT⟩ := Option.map_eq_some_iff.mp ei
    obtain rfl : T' = T := by injection eT
    obtain ⟨hTn, hrd, hp⟩ := hT i _ ab rk et
    have hm : (T', PT2 ab rk) ∈ tL ts := List.mem_map.mpr ⟨_, List.mem_of_getElem? et, rfl⟩
    have hmem := H3.at (List.mem_cons_of_mem _ (List.mem_cons_of_mem _ (List.mem_cons_of_mem _ (List.mem_cons_of_mem _ (List.mem_cons_of_mem _ (List.mem_cons_of_mem _ (List.mem_cons_of_mem _ (List.mem_cons_of_mem _ (List.mem_cons_of_mem _ (List.mem_cons_of_mem _ (List.mem_cons_of_mem _ hm)))))))))))
    with_reducible refine as_two2 ok r'.hh H3 (by walk_at "mem") hmem fun h4 ta tr H4 => ?_
    change wpAny _ _ _ (fun _ s₁ => wpAny _ _ _ (fun _ s₂ => wpAny _ _ (execs (forB 12) _) _ _ s₂) _ s₁) _ _
    repeat' walk_at "s"
    rename In _ _ _ _ _ => H5
    refine law_6a ok V r' H5 hz0 hsm hlow0 hlow1 hrd hTn fun b1 b2 b3 b4 b5 b6 b7 b8 b9 bA bB bC h' tk' H' => ?_
    exact lf2_next (_, (_, b1, b2, b3, b4, b5, b6, b7, b8, b9, bA, bB, bC), _) H' hp.symm
  · rintro ⟨p, ⟨d1, d2, d3, d4, d5, d6, d7, d8, d9, dA, dB, dC, dD⟩, u⟩ h3 tk3 hI H3
    dsimp only at hI H3 ⊢
    subst hI
    rw [List.length_map] at H3
    exact k _ _ _ _ _ _ _ _ _ _ _ _ _ _ _ _ H3
end
section
variable {w : World} {B : Heap} {mg mb : Str → Option Value}
theorem pv_end (ok : (CC w B mg mb).Ok) {A : Around} {c : Shared} {h : Heap} {tk : Nat} {Q E : Value → Shared → Prop} {l : List Env} {it li : Addr} {ns : List Int} {i : Nat} (r : Rm A 2 6) (H : Hp (CC w B mg mb) h) (hfr : A.frames = some l) (hF : FrOk h l) (hFz : ∀ b ∈ frs l, b ∉ (CC w B mg mb).Z ∧ (CC w B mg mb).B.get? b = none)
    (hit : At (CC w B mg mb) h it (PIter li i)) (hitB : (CC w B mg mb).B.get? it = none) (hl : At (CC w B mg mb) h li (PInts ns)) (hne : li ≠ it) (hx : ns[i]? = none)
    (hE : ∀ h' e tk', Rsd (CC w B mg mb) it l "StopIteration" h h' e → E (.ref e) (S c h' tk')) : wpAny (CC w B mg mb).M A (call (.ref 84) [.ref it]) Q E (S c h tk) := by
  refine call_plainE (d := 1) (u := 3) (binds := [("iterator", .ref it)]) (extra := ["b", "val"]) (vs := [some (.ref it), none, none]) ok fn_parse_varint (nm_parse_varint ok) r H (by intros; with_unfolding_all rfl) rfl rfl fun env L h₁ tk₁ V hf hL r' H' => ?_
  change wpAny _ _ (execs (_ :: _) _) (RetQ Q) _ _
  repeat' walk_at "s"
  rename In _ _ _ _ _ => H2
  obtain ⟨us, hI, hlist⟩ := (H2.of0 hl).il
  have hx' : us.toArray[i]? = none := by
    have := hI.length
    rw [List.getElem?_eq_none_iff] at hx
    simp; omega
  obtain ⟨_, oL, eL, dL⟩ := H2.at (l := L) List.mem_cons_self
  refine nx_endX r'.hh (H2.of0 hit).isIter hlist hx' fun h2 e hext hi2 hnew hobj => ?_
  obtain ⟨o, vs, a0, he, hc, hd, h0, h1⟩ := hobj
  refine leave_first (h₁ := _) ok hfr V.kind hf H hF hFz hit hitB hL ⟨oL, eL, fun vs q => by obtain ⟨es, ep, d1, _⟩ := dL; rw [d1] at q; cases q⟩ (fun b o hz ho => H2.keep b o hz List.not_mem_nil ho) H2.hp hext hi2 hnew he hc hd h0 h1 fun h' R => ?_
  exact hE _ _ _ R
theorem law_7 (ok : (CC w B mg mb).Ok) {A : Around} {c : Shared} {env : Env} {L bs bk bl br dl rl il el cl : Addr} {Pd Pr Pe Ps Pk Pb Pbr : OP} {h0 h : Heap} {tk : Nat} {Q : Value → Shared → Prop} {oct : List Int} {a1 a2 a3 a4 a5 a6 a8 a9 aA aB aC aD aE aF aG aH aI aJ aK aL aM aN : Option Value} {p : Nat} {tt : Led}
    (V : EnvF (CC w B mg mb) env L lawKs [("script", bs), ("keys", bk), ("letters", bl), ("rank", br)] lawGs) (r' : Rm A 100 1000) (hfr : A.frames = some [env]) (hf : env.frame = some L)
    (H : In (CC w B mg mb) [] h0 h ((dl, Pd) :: (rl, Pr) :: (il, PIter cl p) :: (el, Pe) :: (cl, PInts oct) :: (L, PLoc lawKs [a1, a2, a3, a4, a5, a6, some (.ref il), a8, a9, aA, aB, aC, aD, aE, aF, aG, aH, aI, aJ, aK, aL, aM, aN]) :: (bs, Ps) :: (bk, Pk) :: (bl, Pb) :: (br, Pbr) :: tt))
    (hend : oct[p]? = none) (hk : ∀ h' tk', Kp (CC w B mg mb) [] h0 h' → Q (.bool true) (S c h' tk')) :
    wpAny (CC w B mg mb).M A (execs ((bodyAt 30).drop 13) env) (RetQ Q) (fun _ _ => False) (S c h tk) := by
  change wpAny _ _ (execs (_ :: (bodyAt 30).drop 14) _) (RetQ Q) _ _
  refine x_cons ?_
  refine wpAny_Try_except ?_
  repeat' walk_at "s"
  have H1 := H.drop (n' := [(il, PIter cl p), (cl, PInts oct), (L, _)]) (by walk_at "sub")
  have hfe : frs [env] = [L] := by simp [frs, hf]
  have hFz : ∀ b ∈ frs [env], b ∉ (CC w B mg mb).Z ∧ (CC w B mg mb).B.get? b = none := fun b hb => by
    rw [hfe, List.mem_singleton] at hb
    subst hb
    exact (H1.own (l := b) (by walk_at "mem") PLoc.mut).2.imp id And.left
  have hF : FrOk h [env] := by
    obtain ⟨_, oL, eL, dL⟩ := H1.at (l := L) (by walk_at "mem")
    refine ⟨by rw [V.kind]; decide, ⟨L, oL, hf, eL, fun vs q => ?_⟩, trivial⟩
    obtain ⟨es, ep, d1, _⟩ := dL
    rw [d1] at q; cases q
  refine pv_end ok (r'.le (by decide) (by decide)) H.hp hfr hF hFz (H1.at (by walk_at "mem")) (H1.own (by walk_at "mem") PIter.mut).2.2.1 (H1.at (by walk_at "mem")) (H1.ne (by walk_at "mem")) hend fun h' e tk' R => ?_
  refine catch_stop ok V (by walk_at "mem") hfr hf H.hp hF hFz R fun h5 G => ?_
  have H5 := H1.caught ok PIter.mut G fun b hb => by
    rw [hfe, List.mem_singleton] at hb
    subst hb
    exact ⟨_, _, by walk_at "mem"⟩
  repeat' walk_at "s"
  exact hk _ _ H5.kp
end
def cst (k : Int) (i j : Nat) : Int := if i = j then 0 else k
def stepRowG (g : Nat → Nat → Int) (bc : Nat) : List Nat → List Int → Int → Int → Int → List Int × Int × Int
  | x :: xs, v :: vs, d, r, m =>
    let r' := min (min r v + 2) (d + g bc x)
    let q := stepRowG g bc xs vs v r' (if r' < m then r' else m)
    (r' :: q.1, q.2)
  | _, _, _, r, m => ([], r, m)
def levRowsG (g : Nat → Nat → Int) (a : List Nat) (mx : Int) : List Nat → Int → List Int → Int → Int
  | [], _, _, res => res
  | bc :: bs, k, row, _ => let q := stepRowG g bc a row (k * 2) (k * 2) 9223372036854775807
    if mx < q.2.2 then mx + 1 else levRowsG g a mx bs (k + 1) q.1 q.2.1
def levCoreG (g : Nat → Nat → Int) (a b : List Nat) (mx : Int) : Int :=
  if mx < ((b.length : Int) - a.length) * 2 then mx + 1 else levRowsG g a mx b 0 (row0 a.length) 0
def levCutG (g : Nat → Nat → Int) (a b : List Nat) (mx : Int) : Int :=
  if a = [] ∨ b = [] then 2 * ((a.length : Int) + b.length) else if 40 < a.length ∨ 40 < b.length then mx + 1 else
  if b.length < a.length then levCoreG g b a mx else levCoreG g a b mx
def levG (g : Nat → Nat → Int) (a b : List Nat) (mx : Int) : Int :=
  if a = b then 0 else
  let a1 := a.drop (cpre a b)
  let b1 := b.drop (cpre a b)
  let s := cpre a1.reverse b1.reverse
  levCutG g (a1.take (a1.length - s)) (b1.take (b1.length - s)) mx
theorem stepRowG_eq {g : Nat → Nat → Int} {bc : Nat} : ∀ (xs : List Nat) (vs : List Int) (d r m : Int), (∀ x ∈ xs, sc bc x = g bc x) → stepRow bc xs vs d r m = stepRowG g bc xs vs d r m
  | [], _, _, _, _, _ => by simp [stepRow, stepRowG]
  | _ :: _, [], _, _, _, _ => by simp [stepRow, stepRowG]
  | x :: xs, v :: vs, d, r, m, h => by
    simp only [stepRow, stepRowG]
    rw [h x List.mem_cons_self, stepRowG_eq xs vs _ _ _ fun y hy => h y (List.mem_cons_of_mem _ hy)]
theorem levRowsG_eq {g : Nat → Nat → Int} {a : List Nat} {mx : Int} : ∀ (bs : List Nat) (k : Int) (row : List Int) (res : Int), (∀ y ∈ bs, ∀ x ∈ a, sc y x = g y x) → levRows a mx bs k row res = levRowsG g a mx bs k row res
  | [], _, _, _, _ => rfl
  | bc :: bs, k, row, res, h => by
    simp only [levRows, levRowsG]
    rw [stepRowG_eq a row _ _ _ (h bc List.mem_cons_self), levRowsG_eq bs _ _ _ fun y hy => h y (List.mem_cons_of_mem _ hy)]
theorem levG_eq {g : Nat → Nat → Int} {a b : List Nat} {mx : Int} (h1 : ∀ y ∈ a, ∀ x ∈ b, sc y x = g y x) (h2 : ∀ y ∈ b, ∀ x ∈ a, sc y x = g y x) : lev a b mx = levG g a b mx := by
  unfold lev levG
  split
  · rfl
  · dsimp only
    generalize ha : (List.take _ (List.drop (cpre a b) a)) = a'
    generalize hb : (List.take _ (List.drop (cpre a b) b)) = b'
    have ma : ∀ y ∈ a', y ∈ a := fun y hy => by rw [← ha] at hy; exact List.mem_of_mem_drop (List.mem_of_mem_take hy)
    have mb : ∀ y ∈ b', y ∈ b := fun y hy => by rw [← hb] at hy; exact List.mem_of_mem_drop (List.mem_of_mem_take hy)
    unfold levCut levCutG levCore levCoreG
    rw [levRowsG_eq b' 0 (row0 a'.length) 0 fun y hy x hx => h2 y (mb y hy) x (ma x hx), levRowsG_eq a' 0 (row0 b'.length) 0 fun y hy x hx => h1 y (ma y hy) x (mb x hx)]
def genT : Nat → Int → Int → List (List Int)
  | 0, _, _ => []
  | f + 1, lo, hi => if lo = hi then [[lo + 249]] else ((List.range (hi - lo).toNat).map fun (i : Nat) => lo + i).flatMap fun top => (genT f lo top).flatMap fun a => (genT f (top + 1) hi).map fun b => [256 + top] ++ a ++ b
theorem genT_of {os : List Int} : ∀ (f : Nat) (lo hi : Int) (row : List Int), lrow os f lo hi = some row → row ∈ genT f lo hi
  | 0, _, _, _, h => by cases h
  | f + 1, lo, hi, row, h => by
    rw [genT]
    rcases lrow_step h with ⟨e1, e2⟩ | ⟨e1, top, a, b, et, ea, eb, e2⟩
    · rw [if_pos e1, e2]; exact List.mem_singleton.mpr rfl
    · rw [if_neg e1]
      have hm := (List.mem_filter.mp (List.mem_of_getElem? et)).2
      simp only [decide_eq_true_eq] at hm
      refine List.mem_flatMap.mpr ⟨top, List.mem_map.mpr ⟨(top - lo).toNat, List.mem_range.mpr (by omega), by omega⟩, List.mem_flatMap.mpr ⟨a, genT_of f _ _ _ ea, List.mem_map.mpr ⟨b, genT_of f _ _ _ eb, e2.symm⟩⟩⟩
def edge (row0 : List Int) (ab rk : Int) : Bool := if rk < ab then row0.idxOf (256 + rk) == row0.idxOf (256 + ab) + 1 else (scanEnd (row0.drop (row0.idxOf (256 + ab) + 1)) 1).map (· + (row0.idxOf (256 + ab) + 1)) == some (row0.idxOf (256 + rk))
theorem cpre_pre (p a b : List Nat) : cpre (p ++ a) (p ++ b) = p.length + cpre a b := by
  induction p with
  | nil => simp
  | cons x p ih => simp only [List.cons_append, cpre, if_pos, List.length_cons, ih]; omega
theorem cpre_app {q : List Nat} : ∀ {a b : List Nat}, a.length = b.length → a ≠ b → cpre (a ++ q) (b ++ q) = cpre a b
  | [], [], _, h => absurd rfl h
  | x :: a, y :: b, hl, h => by
    simp only [List.cons_append, cpre]
    by_cases e : x = y
    · rw [if_pos e, if_pos e, cpre_app (by simpa using hl) (fun q => h (by rw [e, q]))]
    · rw [if_neg e, if_neg e]
theorem lev_ctx (p a b q : List Nat) (mx : Int) (hl : a.length = b.length) : lev (p ++ a ++ q) (p ++ b ++ q) mx = lev a b mx := by
  by_cases hab : a = b
  · subst hab; simp [lev]
  · have hne : p ++ a ++ q ≠ p ++ b ++ q := fun e => hab (List.append_cancel_left (List.append_cancel_right e))
    unfold lev
    rw [if_neg hne, if_neg hab]
    dsimp only
    have e1 : cpre (p ++ a ++ q) (p ++ b ++ q) = p.length + cpre a b := by rw [List.append_assoc, List.append_assoc, cpre_pre, cpre_app hl hab]
    obtain ⟨l1, l2⟩ := cpre_le a b
    have d : ∀ c : List Nat, cpre a b ≤ c.length → (p ++ c ++ q).drop (p.length + cpre a b) = c.drop (cpre a b) ++ q := fun c hc => by
      rw [List.append_assoc, List.drop_append, List.drop_eq_nil_of_le (by omega), List.nil_append, Nat.add_sub_cancel_left, List.drop_append_of_le_length hc]
    rw [e1, d a l1, d b l2]
    simp only [List.reverse_append, cpre_pre, List.length_reverse]
    generalize cpre (a.drop (cpre a b)).reverse (b.drop (cpre a b)).reverse = s0
    have t : ∀ c : List Nat, (c ++ q).take ((c ++ q).length - (q.length + s0)) = c.take (c.length - s0) := fun c => by
      rw [List.length_append, show c.length + q.length - (q.length + s0) = c.length - s0 by omega, List.take_append_of_le_length (by omega)]
    rw [t, t]
def pat (X : List Int) : List Bool := X.map fun x => decide (x < 256)
def wP (x0 x1 : Nat) (P : List Bool) : List Nat := P.map fun b => if b then x1 else x0
theorem wordL_pat (x0 x1 : Nat) (X : List Int) : wordL x0 x1 X = wP x0 x1 (pat X) := by
  unfold wordL wP pat
  rw [List.map_map]
  apply List.map_congr_left
  intro x _
  by_cases h : x < 256 <;> simp [h]
def sizeP (P : List Bool) : Int := P.foldl (fun s b => 2 * s + if b then 1 else 0) 0
theorem sizeL_pat (X : List Int) : sizeL X = sizeP (pat X) := by
  unfold sizeL sizeP pat
  rw [List.foldl_map]
  congr 1
  funext s x
  by_cases h : x < 256 <;> simp [h]
def dueP (x0 x1 : Nat) (P : List Bool) : Int := if [x0, x1] ≠ [97, 98] ∧ Builtin.bitAnd (sizeP P) (sizeP P + 1) = 0 then 2 else 4
theorem eDue_pat (x0 x1 : Nat) (X : List Int) : eDue x0 x1 X = dueP x0 x1 (pat X) := by unfold eDue dueP; rw [sizeL_pat]
def pats : List (List Bool) := (genT 7 0 0 ++ genT 7 0 1 ++ genT 7 0 2 ++ genT 7 0 3 ++ genT 7 0 4).map pat
def levP (x0 x1 : Nat) (k : Int) (P : List Bool) : Bool :=
  decide (levG (cst k) (x0 :: wP x0 x1 P) (wP x0 x1 P ++ [x0]) (dueP x0 x1 P) = dueP x0 x1 P) && decide (levG (cst k) (wP x0 x1 P ++ [x0]) (x0 :: wP x0 x1 P) (dueP x0 x1 P) = dueP x0 x1 P)
theorem lp1 : pats.all (levP 65 97 1) = true := by decide +kernel
theorem lp2 : pats.all (levP 122 90 1) = true := by decide +kernel
theorem lp3 : pats.all (levP 97 98 2) = true := by decide +kernel
def rot (row0 : List Int) (ab rk : Int) : Bool :=
  let p := row0.take (row0.idxOf (256 + ab))
  let q := row0.drop (eEnd row0 ab rk)
  let X := ePart row0 ab rk
  if rk < ab then decide (row0 = p ++ [256 + ab] ++ ([256 + rk] ++ X) ++ q) && decide (eMoved row0 ab rk = p ++ [256 + rk] ++ (X ++ [256 + ab]) ++ q)
  else decide (row0 = p ++ [256 + ab] ++ (X ++ [256 + rk]) ++ q) && decide (eMoved row0 ab rk = p ++ [256 + rk] ++ ([256 + ab] ++ X) ++ q)
def tnB (row0 : List Int) (ab rk : Int) : Bool :=
  row0.contains (256 + ab) && (row0.contains (256 + rk) && ((!decide (rk < ab) || (scanEnd (row0.drop (row0.idxOf (256 + rk) + 1)) 1).isSome) && (decide (eEnd row0 ab rk ≤ 13) && (decide ((eMoved row0 ab rk).length = 13) &&
  (decide ((dval 1 (digL row0) - dval 1 (digL (eMoved row0 ab rk))).fdiv (2 ^ (13 - eEnd row0 ab rk)) = if rk < ab then sizeL (ePart row0 ab rk) else -sizeL (ePart row0 ab rk)) &&
  (decide ((dval 1 (digL row0) - dval 1 (digL (eMoved row0 ab rk))).fmod (2 ^ (13 - eEnd row0 ab rk)) = 0) &&
  (pats.contains (pat (ePart row0 ab rk)) && rot row0 ab rk)))))))
def six : List Int := [0, 1, 2, 3, 4, 5]
def treeB (row0 : List Int) : Bool := row0.length == 13 && (row0.all (fun x => decide (249 ≤ x ∧ x ≤ 261)) && (decide (digs 1 (nd (dval 1 (digL row0)) 1) (dval 1 (digL row0)) = digL row0) &&
  six.all fun ab => six.all fun rk => !(edge row0 ab rk) || tnB row0 ab rk))
def chk (os : List Int) : Bool := match lrow os 7 0 6 with
  | none => false
  | some row0 => (os.drop 1).all fun r => !(candL os r).isEmpty && ((oth os r).contains (abv os r) && ((lrow (insr os r) 7 0 6 == some (eMoved row0 (abv os r) r)) && edge row0 (abv os r) r))
def permsF : Nat → List Int → List (List Int)
  | 0, _ => [[]]
  | k + 1, used => (six.filter fun x => !used.contains x).flatMap fun x => (permsF k (x :: used)).map (x :: ·)
def chunk (i : Nat) : List (List Int) := ((genT 7 0 6).drop (12 * i)).take 12
theorem tr0 : (chunk 0).all treeB = true := by decide +kernel
theorem tr1 : (chunk 1).all treeB = true := by decide +kernel
theorem tr2 : (chunk 2).all treeB = true := by decide +kernel
theorem tr3 : (chunk 3).all treeB = true := by decide +kernel
theorem tr4 : (chunk 4).all treeB = true := by decide +kernel
theorem tr5 : (chunk 5).all treeB = true := by decide +kernel
theorem tr6 : (chunk 6).all treeB = true := by decide +kernel
theorem tr7 : (chunk 7).all treeB = true := by decide +kernel
theorem tr8 : (chunk 8).all treeB = true := by decide +kernel
theorem tr9 : (chunk 9).all treeB = true := by decide +kernel
theorem tr10 : (chunk 10).all treeB = true := by decide +kernel
theorem gen_len : (genT 7 0 6).length = 132 := by decide +kernel
theorem chunks_all : ∀ i, i < 11 → (chunk i).all treeB = true
  | 0, _ => tr0
  | 1, _ => tr1
  | 2, _ => tr2
  | 3, _ => tr3
  | 4, _ => tr4
  | 5, _ => tr5
  | 6, _ => tr6
  | 7, _ => tr7
  | 8, _ => tr8
  | 9, _ => tr9
  | 10, _ => tr10
  | _ + 11, h => absurd h (by omega)
theorem tree_ok {row : List Int} (h : row ∈ genT 7 0 6) : treeB row = true := by
  obtain ⟨j, hj, e⟩ := List.getElem_of_mem h
  rw [gen_len] at hj
  refine List.all_eq_true.mp (chunks_all (j / 12) (by omega)) row ?_
  unfold chunk
  refine List.mem_iff_getElem?.mpr ⟨j % 12, ?_⟩
  rw [List.getElem?_take, if_pos (by omega), List.getElem?_drop, show 12 * (j / 12) + j % 12 = j by omega, ← e, List.getElem?_eq_getElem]
theorem pc01 : ((permsF 4 [1, 0]).map fun l => 0 :: 1 :: l).all chk = true := by decide +kernel
theorem pc02 : ((permsF 4 [2, 0]).map fun l => 0 :: 2 :: l).all chk = true := by decide +kernel
theorem pc03 : ((permsF 4 [3, 0]).map fun l => 0 :: 3 :: l).all chk = true := by decide +kernel
theorem pc04 : ((permsF 4 [4, 0]).map fun l => 0 :: 4 :: l).all chk = true := by decide +kernel
theorem pc05 : ((permsF 4 [5, 0]).map fun l => 0 :: 5 :: l).all chk = true := by decide +kernel
theorem pc10 : ((permsF 4 [0, 1]).map fun l => 1 :: 0 :: l).all chk = true := by decide +kernel
theorem pc12 : ((permsF 4 [2, 1]).map fun l => 1 :: 2 :: l).all chk = true := by decide +kernel
theorem pc13 : ((permsF 4 [3, 1]).map fun l => 1 :: 3 :: l).all chk = true := by decide +kernel
theorem pc14 : ((permsF 4 [4, 1]).map fun l => 1 :: 4 :: l).all chk = true := by decide +kernel
theorem pc15 : ((permsF 4 [5, 1]).map fun l => 1 :: 5 :: l).all chk = true := by decide +kernel
theorem pc20 : ((permsF 4 [0, 2]).map fun l => 2 :: 0 :: l).all chk = true := by decide +kernel
theorem pc21 : ((permsF 4 [1, 2]).map fun l => 2 :: 1 :: l).all chk = true := by decide +kernel
theorem pc23 : ((permsF 4 [3, 2]).map fun l => 2 :: 3 :: l).all chk = true := by decide +kernel
theorem pc24 : ((permsF 4 [4, 2]).map fun l => 2 :: 4 :: l).all chk = true := by decide +kernel
theorem pc25 : ((permsF 4 [5, 2]).map fun l => 2 :: 5 :: l).all chk = true := by decide +kernel
theorem pc30 : ((permsF 4 [0, 3]).map fun l => 3 :: 0 :: l).all chk = true := by decide +kernel
theorem pc31 : ((permsF 4 [1, 3]).map fun l => 3 :: 1 :: l).all chk = true := by decide +kernel
theorem pc32 : ((permsF 4 [2, 3]).map fun l => 3 :: 2 :: l).all chk = true := by decide +kernel
theorem pc34 : ((permsF 4 [4, 3]).map fun l => 3 :: 4 :: l).all chk = true := by decide +kernel
theorem pc35 : ((permsF 4 [5, 3]).map fun l => 3 :: 5 :: l).all chk = true := by decide +kernel
theorem pc40 : ((permsF 4 [0, 4]).map fun l => 4 :: 0 :: l).all chk = true := by decide +kernel
theorem pc41 : ((permsF 4 [1, 4]).map fun l => 4 :: 1 :: l).all chk = true := by decide +kernel
theorem pc42 : ((permsF 4 [2, 4]).map fun l => 4 :: 2 :: l).all chk = true := by decide +kernel
theorem pc43 : ((permsF 4 [3, 4]).map fun l => 4 :: 3 :: l).all chk = true := by decide +kernel
theorem pc45 : ((permsF 4 [5, 4]).map fun l => 4 :: 5 :: l).all chk = true := by decide +kernel
theorem pc50 : ((permsF 4 [0, 5]).map fun l => 5 :: 0 :: l).all chk = true := by decide +kernel
theorem pc51 : ((permsF 4 [1, 5]).map fun l => 5 :: 1 :: l).all chk = true := by decide +kernel
theorem pc52 : ((permsF 4 [2, 5]).map fun l => 5 :: 2 :: l).all chk = true := by decide +kernel
theorem pc53 : ((permsF 4 [3, 5]).map fun l => 5 :: 3 :: l).all chk = true := by decide +kernel
theorem pc54 : ((permsF 4 [4, 5]).map fun l => 5 :: 4 :: l).all chk = true := by decide +kernel
theorem perms_ok {os : List Int} (h : os ∈ permsF 6 []) : chk os = true := by
  rw [permsF] at h
  obtain ⟨x, hx, h⟩ := List.mem_flatMap.mp h
  obtain ⟨l, hl, rfl⟩ := List.mem_map.mp h
  rw [permsF] at hl
  obtain ⟨y, hy, hl⟩ := List.mem_flatMap.mp hl
  obtain ⟨m, hm, rfl⟩ := List.mem_map.mp hl
  have hx' := (List.mem_filter.mp hx).1
  obtain ⟨hy', hy2⟩ := List.mem_filter.mp hy
  have mm : x :: y :: m ∈ (permsF 4 [y, x]).map fun l => x :: y :: l := List.mem_map.mpr ⟨m, hm, rfl⟩
  simp only [six, List.mem_cons, List.not_mem_nil, or_false] at hx' hy'
  rcases hx' with rfl | rfl | rfl | rfl | rfl | rfl <;> rcases hy' with rfl | rfl | rfl | rfl | rfl | rfl <;> first
    | exact absurd hy2 (by decide)
    | exact List.all_eq_true.mp pc01 _ mm
    | exact List.all_eq_true.mp pc02 _ mm
    | exact List.all_eq_true.mp pc03 _ mm
    | exact List.all_eq_true.mp pc04 _ mm
    | exact List.all_eq_true.mp pc05 _ mm
    | exact List.all_eq_true.mp pc10 _ mm
    | exact List.all_eq_true.mp pc12 _ mm
    | exact List.all_eq_true.mp pc13 _ mm
    | exact List.all_eq_true.mp pc14 _ mm
    | exact List.all_eq_true.mp pc15 _ mm
    | exact List.all_eq_true.mp pc20 _ mm
    | exact List.all_eq_true.mp pc21 _ mm
    | exact List.all_eq_true.mp pc23 _ mm
    | exact List.all_eq_true.mp pc24 _ mm
    | exact List.all_eq_true.mp pc25 _ mm
    | exact List.all_eq_true.mp pc30 _ mm
    | exact List.all_eq_true.mp pc31 _ mm
    | exact List.all_eq_true.mp pc32 _ mm
    | exact List.all_eq_true.mp pc34 _ mm
    | exact List.all_eq_true.mp pc35 _ mm
    | exact List.all_eq_true.mp pc40 _ mm
    | exact List.all_eq_true.mp pc41 _ mm
    | exact List.all_eq_true.mp pc42 _ mm
    | exact List.all_eq_true.mp pc43 _ mm
    | exact List.all_eq_true.mp pc45 _ mm
    | exact List.all_eq_true.mp pc50 _ mm
    | exact List.all_eq_true.mp pc51 _ mm
    | exact List.all_eq_true.mp pc52 _ mm
    | exact List.all_eq_true.mp pc53 _ mm
    | exact List.all_eq_true.mp pc54 _ mm
theorem perms_mem : ∀ (k : Nat) (used l : List Int), l.length = k → l.Nodup → (∀ x ∈ l, x ∈ six ∧ x ∉ used) → l ∈ permsF k used
  | 0, _, [], _, _, _ => List.mem_singleton.mpr rfl
  | k + 1, used, x :: l, hl, hn, hx => by
    obtain ⟨n1, n2⟩ := List.nodup_cons.mp hn
    rw [permsF]
    obtain ⟨h1, h2⟩ := hx x List.mem_cons_self
    refine List.mem_flatMap.mpr ⟨x, List.mem_filter.mpr ⟨h1, by simpa using h2⟩, List.mem_map.mpr ⟨l, perms_mem k (x :: used) l (by simpa using hl) n2 (fun y hy => ⟨(hx y (List.mem_cons_of_mem _ hy)).1, fun q => ?_⟩), rfl⟩⟩
    rcases List.mem_cons.mp q with rfl | q
    · exact n1 hy
    · exact (hx y (List.mem_cons_of_mem _ hy)).2 q
theorem filter_lt {α : Type} {p q : α → Bool} {y : α} : ∀ (l : List α), (∀ x ∈ l, p x = true → q x = true) → y ∈ l → q y = true → p y = false → (l.filter p).length < (l.filter q).length
  | x :: l, h, hy, h1, h2 => by
    have hs : (l.filter p).length ≤ (l.filter q).length := by
      have : ∀ (l : List α), (∀ x ∈ l, p x = true → q x = true) → (l.filter p).length ≤ (l.filter q).length := by
        intro l
        induction l with
        | nil => intro _; simp
        | cons z l ih =>
          intro h
          have ih' := ih fun x hx => h x (List.mem_cons_of_mem _ hx)
          by_cases hp : p z = true
          · rw [List.filter_cons_of_pos hp, List.filter_cons_of_pos (h z List.mem_cons_self hp)]; simp; exact ih'
          · rw [List.filter_cons_of_neg hp]
            by_cases hq : q z = true
            · rw [List.filter_cons_of_pos hq]; simp; omega
            · rw [List.filter_cons_of_neg hq]; exact ih'
      exact this l fun x hx => h x (List.mem_cons_of_mem _ hx)
    rcases List.mem_cons.mp hy with rfl | hy
    · rw [List.filter_cons_of_pos h1, List.filter_cons_of_neg (by rw [h2]; decide)]
      simp; omega
    · have ih := filter_lt l (fun x hx => h x (List.mem_cons_of_mem _ hx)) hy h1 h2
      by_cases hp : p x = true
      · rw [List.filter_cons_of_pos hp, List.filter_cons_of_pos (h x List.mem_cons_self hp)]; simp; exact ih
      · rw [List.filter_cons_of_neg hp]
        by_cases hq : q x = true
        · rw [List.filter_cons_of_pos hq]; simp; omega
        · rw [List.filter_cons_of_neg hq]; exact ih
def kb (ks : List Int) (i j : Nat) : Prop := ks.getD j 0 < ks.getD i 0 ∨ (ks.getD j 0 = ks.getD i 0 ∧ (j : Int) < i)
theorem rank_lt {ks : List Int} {i j : Nat} (hj : j < 6) (h : kb ks i j) : rankOf ks j < rankOf ks i := by
  unfold rankOf
  refine filter_lt (y := j) _ (fun x _ hx => ?_) (List.mem_range.mpr hj) (by simpa [kb] using h) (by simp)
  unfold kb at h
  simp only [decide_eq_true_eq] at hx ⊢
  omega
theorem rank_small {ks : List Int} {i : Nat} (hi : i < 6) : rankOf ks i < 6 := by
  have : rankOf ks i < ((List.range 6).filter fun _ => true).length := by
    unfold rankOf
    exact filter_lt (y := i) _ (fun _ _ _ => rfl) (List.mem_range.mpr hi) rfl (by simp)
  rwa [List.filter_eq_self.mpr (fun _ _ => rfl), List.length_range] at this
theorem order_perm (ks : List Int) : orderOf ks 6 ∈ permsF 6 [] := by
  refine perms_mem 6 [] _ (by simp [orderOf]) ?_ (fun x hx => ⟨?_, List.not_mem_nil⟩)
  · unfold orderOf
    refine List.pairwise_map.mpr (List.Pairwise.imp_of_mem (fun {a b} ha hb hne e => ?_) (List.nodup_range (n := 6)))
    have ha := List.mem_range.mp ha
    have hb := List.mem_range.mp hb
    have hd : kb ks a b ∨ kb ks b a := by
      unfold kb
      omega
    rcases hd with h | h
    · have := rank_lt hb h; omega
    · have := rank_lt ha h; omega
  · unfold orderOf at hx
    obtain ⟨i, hi, rfl⟩ := List.mem_map.mp hx
    have := rank_small (ks := ks) (List.mem_range.mp hi)
    generalize rankOf ks i = r at this
    have : r = 0 ∨ r = 1 ∨ r = 2 ∨ r = 3 ∨ r = 4 ∨ r = 5 := by omega
    rcases this with rfl | rfl | rfl | rfl | rfl | rfl <;> decide
theorem lp_of {P : List Bool} (h : pats.contains P = true) : levP 65 97 1 P = true ∧ levP 122 90 1 P = true ∧ levP 97 98 2 P = true := by
  have hm := List.contains_iff_mem.mp h
  exact ⟨List.all_eq_true.mp lp1 P hm, List.all_eq_true.mp lp2 P hm, List.all_eq_true.mp lp3 P hm⟩
def Lt (x0 x1 : Nat) (k : Int) : Prop := (x0 = 65 ∧ x1 = 97 ∧ k = 1) ∨ (x0 = 122 ∧ x1 = 90 ∧ k = 1) ∨ (x0 = 97 ∧ x1 = 98 ∧ k = 2)
theorem lo_65_97 : lowEq 65 97 = true := by decide +kernel
theorem lo_97_65 : lowEq 97 65 = true := by decide +kernel
theorem lo_122_90 : lowEq 122 90 = true := by decide +kernel
theorem lo_90_122 : lowEq 90 122 = true := by decide +kernel
theorem lo_97_98 : lowEq 97 98 = false := by decide +kernel
theorem lo_98_97 : lowEq 98 97 = false := by decide +kernel
theorem Lt.sc {x0 x1 : Nat} {k : Int} (h : Lt x0 x1 k) : ∀ i j, (i = x0 ∨ i = x1) → (j = x0 ∨ j = x1) → sc i j = cst k i j := by
  intro i j hi hj
  unfold Mine.sc cst
  rcases h with ⟨rfl, rfl, rfl⟩ | ⟨rfl, rfl, rfl⟩ | ⟨rfl, rfl, rfl⟩ <;> rcases hi with rfl | rfl <;> rcases hj with rfl | rfl <;> simp [lo_65_97, lo_97_65, lo_122_90, lo_90_122, lo_97_98, lo_98_97]
theorem Lt.low {x0 x1 : Nat} {k : Int} (h : Lt x0 x1 k) : LowOk x0 ∧ LowOk x1 := by
  unfold LowOk
  rcases h with ⟨rfl, rfl, rfl⟩ | ⟨rfl, rfl, rfl⟩ | ⟨rfl, rfl, rfl⟩ <;> exact ⟨by decide +kernel, by decide +kernel⟩
theorem wP_mem {x0 x1 : Nat} {P : List Bool} : ∀ i ∈ wP x0 x1 P, i = x0 ∨ i = x1 := by
  intro i hi
  obtain ⟨b, _, rfl⟩ := List.mem_map.mp hi
  cases b
  · exact .inl rfl
  · exact .inr rfl
theorem lev_of {x0 x1 : Nat} {k : Int} (hL : Lt x0 x1 k) {P : List Bool} (h : levP x0 x1 k P = true) : lev (x0 :: wP x0 x1 P) (wP x0 x1 P ++ [x0]) (dueP x0 x1 P) = dueP x0 x1 P ∧ lev (wP x0 x1 P ++ [x0]) (x0 :: wP x0 x1 P) (dueP x0 x1 P) = dueP x0 x1 P := by
  unfold levP at h
  simp only [Bool.and_eq_true, decide_eq_true_eq] at h
  have m1 : ∀ i ∈ x0 :: wP x0 x1 P, i = x0 ∨ i = x1 := fun i hi => by
    rcases List.mem_cons.mp hi with rfl | hi
    · exact .inl rfl
    · exact wP_mem i hi
  have m2 : ∀ i ∈ wP x0 x1 P ++ [x0], i = x0 ∨ i = x1 := fun i hi => by
    rcases List.mem_append.mp hi with hi | hi
    · exact wP_mem i hi
    · exact .inl (List.mem_singleton.mp hi)
  rw [levG_eq (g := cst k) (fun y hy x hx => hL.sc _ _ (m1 y hy) (m2 x hx)) (fun y hy x hx => hL.sc _ _ (m2 y hy) (m1 x hx)),
    levG_eq (g := cst k) (fun y hy x hx => hL.sc _ _ (m2 y hy) (m1 x hx)) (fun y hy x hx => hL.sc _ _ (m1 y hy) (m2 x hx))]
  exact h
theorem wordL_app (x0 x1 : Nat) (a b : List Int) : wordL x0 x1 (a ++ b) = wordL x0 x1 a ++ wordL x0 x1 b := by simp [wordL]
theorem wordL_node {x0 x1 : Nat} {t : Int} (h : 0 ≤ t) : wordL x0 x1 [256 + t] = [x0] := by
  unfold wordL
  rw [List.map_singleton, if_neg (by omega)]
theorem tn_of {row0 : List Int} {ab rk : Int} (h : tnB row0 ab rk = true) (h1 : 0 ≤ ab) (h2 : 0 ≤ rk) {x0 x1 : Nat} {k : Int} (hL : Lt x0 x1 k) : Tn row0 ab rk x0 x1 := by
  unfold tnB at h
  simp only [Bool.and_eq_true, decide_eq_true_eq, List.contains_iff_mem, Bool.or_eq_true, Bool.not_eq_true', decide_eq_false_iff_not] at h
  obtain ⟨c1, c2, c3, c4, c5, c6, c7, c8, c9⟩ := h
  refine ⟨c1, c2, fun q => c3.resolve_left (fun q2 => q2 q), c4, c5, c6, c7, ?_⟩
  have hp : levP x0 x1 k (pat (ePart row0 ab rk)) = true := by
    obtain ⟨p1, p2, p3⟩ := lp_of (List.contains_iff_mem.mpr c8)
    rcases hL with ⟨rfl, rfl, rfl⟩ | ⟨rfl, rfl, rfl⟩ | ⟨rfl, rfl, rfl⟩
    · exact p1
    · exact p2
    · exact p3
  obtain ⟨l1, l2⟩ := lev_of hL hp
  rw [eDue_pat]
  unfold rot at c9
  dsimp only at c9
  by_cases hlt : rk < ab
  · rw [if_pos hlt] at c9
    simp only [Bool.and_eq_true, decide_eq_true_eq] at c9
    obtain ⟨r1, r2⟩ := c9
    generalize hd : dueP x0 x1 (pat (ePart row0 ab rk)) = due at *
    have e1 : wordL x0 x1 row0 = (wordL x0 x1 (row0.take (row0.idxOf (256 + ab))) ++ [x0]) ++ (x0 :: wP x0 x1 (pat (ePart row0 ab rk))) ++ wordL x0 x1 (row0.drop (eEnd row0 ab rk)) := by
      rw [congrArg (wordL x0 x1) r1]
      simp only [wordL_app, wordL_node h1, wordL_node h2, wordL_pat x0 x1 (ePart row0 ab rk)]
      simp
    have e2 : wordL x0 x1 (eMoved row0 ab rk) = (wordL x0 x1 (row0.take (row0.idxOf (256 + ab))) ++ [x0]) ++ (wP x0 x1 (pat (ePart row0 ab rk)) ++ [x0]) ++ wordL x0 x1 (row0.drop (eEnd row0 ab rk)) := by
      rw [congrArg (wordL x0 x1) r2]
      simp only [wordL_app, wordL_node h1, wordL_node h2, wordL_pat x0 x1 (ePart row0 ab rk)]
    rw [e1, e2, lev_ctx _ _ _ _ _ (by simp)]
    exact l1
  · rw [if_neg hlt] at c9
    simp only [Bool.and_eq_true, decide_eq_true_eq] at c9
    obtain ⟨r1, r2⟩ := c9
    generalize hd : dueP x0 x1 (pat (ePart row0 ab rk)) = due at *
    have e1 : wordL x0 x1 row0 = (wordL x0 x1 (row0.take (row0.idxOf (256 + ab))) ++ [x0]) ++ (wP x0 x1 (pat (ePart row0 ab rk)) ++ [x0]) ++ wordL x0 x1 (row0.drop (eEnd row0 ab rk)) := by
      rw [congrArg (wordL x0 x1) r1]
      simp only [wordL_app, wordL_node h1, wordL_node h2, wordL_pat x0 x1 (ePart row0 ab rk)]
    have e2 : wordL x0 x1 (eMoved row0 ab rk) = (wordL x0 x1 (row0.take (row0.idxOf (256 + ab))) ++ [x0]) ++ (x0 :: wP x0 x1 (pat (ePart row0 ab rk))) ++ wordL x0 x1 (row0.drop (eEnd row0 ab rk)) := by
      rw [congrArg (wordL x0 x1) r2]
      simp only [wordL_app, wordL_node h1, wordL_node h2, wordL_pat x0 x1 (ePart row0 ab rk)]
      simp
    rw [e1, e2, lev_ctx _ _ _ _ _ (by simp)]
    exact l2
structure Rw (row : List Int) : Prop where
  len : row.length = 13
  mem : ∀ x ∈ row, 249 ≤ x ∧ x ≤ 261
theorem rw_of {os : List Int} {row : List Int} (h : lrow os 7 0 6 = some row) : Rw row ∧ digs 1 (nd (dval 1 (digL row)) 1) (dval 1 (digL row)) = digL row ∧ ∀ ab ∈ six, ∀ rk ∈ six, edge row ab rk = true → tnB row ab rk = true := by
  have ht := tree_ok (genT_of _ _ _ _ h)
  unfold treeB at ht
  simp only [Bool.and_eq_true, beq_iff_eq, List.all_eq_true, decide_eq_true_eq, Bool.or_eq_true, Bool.not_eq_true'] at ht
  obtain ⟨t1, t2, t3, t4⟩ := ht
  exact ⟨⟨t1, t2⟩, t3, fun ab ha rk hr he => (t4 ab ha rk hr).resolve_left (by rw [he]; decide)⟩
theorem order_mem (ks : List Int) : ∀ x ∈ orderOf ks 6, x ∈ six := by
  intro x hx
  unfold orderOf at hx
  obtain ⟨i, hi, rfl⟩ := List.mem_map.mp hx
  have := rank_small (ks := ks) (List.mem_range.mp hi)
  generalize rankOf ks i = r at this
  have : r = 0 ∨ r = 1 ∨ r = 2 ∨ r = 3 ∨ r = 4 ∨ r = 5 := by omega
  rcases this with rfl | rfl | rfl | rfl | rfl | rfl <;> decide
theorem six_nn : ∀ x ∈ six, 0 ≤ x ∧ x.natAbs < 2 ^ 16 := by decide
structure Fit (os row0 : List Int) : Prop where
  row : lrow os 7 0 6 = some row0
  rw : Rw row0
  dg : digs 1 (nd (dval 1 (digL row0)) 1) (dval 1 (digL row0)) = digL row0
  ed : ∀ r ∈ os.drop 1, Ed os r ∧ Rw (trow os r) ∧ trow os r = eMoved row0 (abv os r) r ∧ ∀ x0 x1 k, Lt x0 x1 k → Tn row0 (abv os r) r x0 x1
theorem fit_of (ks : List Int) : ∃ row0, Fit (orderOf ks 6) row0 := by
  have hm := order_mem ks
  have hc := perms_ok (order_perm ks)
  generalize orderOf ks 6 = os at hm hc
  unfold chk at hc
  cases hr : lrow os 7 0 6 with
  | none => rw [hr] at hc; cases hc
  | some row0 =>
    rw [hr] at hc
    obtain ⟨r1, r2, r3⟩ := rw_of hr
    refine ⟨row0, hr, r1, r2, fun r hrm => ?_⟩
    have h := List.all_eq_true.mp hc r hrm
    simp only [Bool.and_eq_true, Bool.not_eq_true', beq_iff_eq, List.contains_iff_mem] at h
    obtain ⟨c1, c2, c3, c4⟩ := h
    have hrs := hm r (List.mem_of_mem_drop hrm)
    have has := hm (abv os r) (List.mem_filter.mp c2).1
    have ht : trow os r = eMoved row0 (abv os r) r := by unfold trow; rw [c3]; rfl
    have c3' : lrow (insr os r) 7 0 6 = some (trow os r) := by rw [c3, ht]
    obtain ⟨q1, _, _⟩ := rw_of c3'
    refine ⟨⟨List.mem_of_mem_drop hrm, ?_, c2, c3', q1.len⟩, q1, ht, fun x0 x1 k hL => tn_of (r3 _ has _ hrs c4) (six_nn _ has).1 (six_nn _ hrs).1 hL⟩
    cases hcn : candL os r with
    | nil => rw [hcn] at c1; cases c1
    | cons a l => simp
theorem vp_enc (x : Int) (h : 249 ≤ x ∧ x ≤ 261) (rest : List Int) : vp (enc x ++ rest) = some (x, 2) := by
  obtain ⟨h1, h2⟩ := h
  have : x = 249 ∨ x = 250 ∨ x = 251 ∨ x = 252 ∨ x = 253 ∨ x = 254 ∨ x = 255 ∨ x = 256 ∨ x = 257 ∨ x = 258 ∨ x = 259 ∨ x = 260 ∨ x = 261 := by omega
  rcases this with rfl | rfl | rfl | rfl | rfl | rfl | rfl | rfl | rfl | rfl | rfl | rfl | rfl <;> rfl
theorem enc_len2 (x : Int) (h : 249 ≤ x ∧ x ≤ 261) : (enc x).length = 2 := by
  unfold enc
  rw [if_pos (by omega)]; rfl
theorem flat_len2 : ∀ row : List Int, (∀ x ∈ row, 249 ≤ x ∧ x ≤ 261) → (row.flatMap enc).length = 2 * row.length
  | [], _ => rfl
  | x :: r, h => by
    rw [List.flatMap_cons, List.length_append, flat_len2 r fun y hy => h y (List.mem_cons_of_mem _ hy), enc_len2 x (h x List.mem_cons_self), List.length_cons]; omega
theorem rd_octs (rest : List Int) : ∀ (row : List Int) (f : Nat), (∀ x ∈ row, 249 ≤ x ∧ x ≤ 261) → row.length < f → rd f (row.flatMap enc ++ ([0] ++ rest)) = some (row, 2 * row.length + 1)
  | [], f + 1, _, _ => by
    rw [rd]
    have : vp (([] : List Int).flatMap enc ++ ([0] ++ rest)) = some (0, 1) := by
      cases rest <;> rfl
    rw [this]; rfl
  | x :: r, f + 1, h, hf => by
    have hx := h x List.mem_cons_self
    rw [rd, List.flatMap_cons, List.append_assoc, vp_enc x hx]
    simp only [Option.bind_some]
    rw [if_neg (by omega), List.drop_append, enc_len2 x hx, List.drop_eq_nil_of_le (by rw [enc_len2 x hx]; exact Nat.le_refl _), List.nil_append, Nat.sub_self, List.drop_zero, rd_octs rest r f (fun y hy => h y (List.mem_cons_of_mem _ hy)) (by simpa using hf)]
    simp; omega
theorem octs_len13 {row : List Int} (h : Rw row) : (octs row).length = 27 := by
  unfold octs
  rw [List.length_append, flat_len2 row h.mem, h.len]; rfl
theorem rd_rows : ∀ (Rs : List (List Int)) (i : Nat) (row : List Int), (∀ r ∈ Rs, Rw r) → Rs[i]? = some row → rd 100 ((Rs.flatMap octs).drop (27 * i)) = some (row, 27)
  | R :: Rs, 0, row, h, e => by
    have e' : R = row := by simpa using e
    subst e'
    have hr := h R List.mem_cons_self
    have := rd_octs (Rs.flatMap octs) R 100 hr.mem (by rw [hr.len]; decide)
    rw [hr.len] at this
    rw [Nat.mul_zero, List.drop_zero, List.flatMap_cons]
    unfold octs at this ⊢
    rw [List.append_assoc]
    exact this
  | R :: Rs, i + 1, row, h, e => by
    have hr := octs_len13 (h R List.mem_cons_self)
    rw [List.flatMap_cons, List.drop_append, List.drop_eq_nil_of_le (by rw [hr]; omega), List.nil_append, hr, show 27 * (i + 1) - 27 = 27 * i by omega]
    exact rd_rows Rs i row (fun r hm => h r (List.mem_cons_of_mem _ hm)) (by simpa using e)
theorem rows_len : ∀ (Rs : List (List Int)), (∀ r ∈ Rs, Rw r) → (Rs.flatMap octs).length = 27 * Rs.length
  | [], _ => rfl
  | R :: Rs, h => by
    rw [List.flatMap_cons, List.length_append, octs_len13 (h R List.mem_cons_self), rows_len Rs fun r hm => h r (List.mem_cons_of_mem _ hm), List.length_cons]; omega
theorem lts_of (m : Int) (h : m = 0 ∨ m = 1 ∨ m = 2) : ∃ x0 x1 k, ltsOf m = [x0, x1] ∧ Lt x0 x1 k := by
  rcases h with rfl | rfl | rfl
  · exact ⟨65, 97, 1, rfl, .inl ⟨rfl, rfl, rfl⟩⟩
  · exact ⟨122, 90, 1, rfl, .inr (.inl ⟨rfl, rfl, rfl⟩)⟩
  · exact ⟨97, 98, 2, rfl, .inr (.inr ⟨rfl, rfl, rfl⟩)⟩
section
variable {w : World} {B : Heap} {mg mb : Str → Option Value}
theorem keysP_len (ns : List Int) (m : Nat) : (keysP ns m).length = m := by simp [keysP]
theorem sp_law (ok : (CC w B mg mb).Ok) {A : Around} {c : Shared} {h : Heap} {tk : Nat} {Q E : Value → Shared → Prop} (hA : A.frames = some []) (r : Rm A 101 1003) (H : Hp (CC w B mg mb) h) (a : Addr) (ns : List Int)
    (ha : At (CC w B mg mb) h a (PIntsW ns)) (hz : ns.length ≤ 63) (hk : ∀ h' tk', Kp (CC w B mg mb) [] h h' → Q (.bool true) (S c h' tk')) : wpAny (CC w B mg mb).M A (call (.ref 144) [.ref a]) Q E (S c h tk) := by
  refine call_cellsF (d := 100) (u := 1000) (binds := [("script", .ref a)]) (vs := lawV0) (us := [some (.ref a), none, none, none]) ok fn_law (nm_law ok) r H (by intros; with_unfolding_all rfl) (by walk_at "nd") (by walk_at "all") ?_ (by walk_at "bd") fun env L as h₁ tk₁ V hC hcd hq hl hf hL r' H' => ?_
  · repeat (with_reducible apply Bd.miss)
    exact Bd.nil
  obtain ⟨bs, bk, bl, br, rfl⟩ := len4 hl
  have V1 : EnvF (CC w B mg mb) env L lawKs [("script", bs), ("keys", bk), ("letters", bl), ("rank", br)] lawGs := V
  have H1 : In (CC w B mg mb) [] h h₁ [(L, PLoc lawKs [none, none, none, none, none, none, none, none, none, none, none, none, none, none, none, none, none, none, none, none, none, none, none]), (bs, PCell (some (.ref a))), (bk, PCell none), (bl, PCell none), (br, PCell none)] := H'
  clear V H'
  have hfr : (A.deeper env).frames = some [env] := Around.frames_deeper hA
  change wpAny _ _ (execs (bodyAt 30) _) (RetQ Q) _ _
  refine law_1 ok V1 hC r' H1 ha hz fun kl h2 tk2 H2 => ?_
  obtain ⟨row0, F⟩ := fit_of (keysP ns 6)
  have hks := keysP_len ns 6
  generalize keysP ns 6 = ks at *
  refine law_2 ok V1 hC r' H2 hks fun ol h3 tk3 H3 => ?_
  have hol : (orderOf ks 6).length = 6 := by simp [orderOf]
  have hom := order_mem ks
  generalize orderOf ks 6 = os at *
  refine law_3 ok V1 hC r' H3 hol F.row (by rw [F.rw.len]; decide) fun cl el tl h4 tk4 H4 => ?_
  have hm3 : ks.sum.fmod 3 = 0 ∨ ks.sum.fmod 3 = 1 ∨ ks.sum.fmod 3 = 2 := by
    have he3 : ks.sum.fmod 3 = ks.sum % 3 := Int.fmod_eq_emod_of_nonneg _ (by decide)
    omega
  obtain ⟨x0, x1, kc, elt, hLt⟩ := lts_of _ hm3
  rw [elt] at H4
  refine law_4 ok V1 hC r' H4 hol (by rw [F.rw.len]; decide) (fun i hi => (six_nn i (hom i hi)).2) (fun q hq => (F.ed q hq).1) fun ts v1 v2 v3 u h5 tk5 hts H5 => ?_
  have hoct : octs row0 ++ (os.drop 1).flatMap (fun q => octs (trow os q)) = (row0 :: (os.drop 1).map (trow os)).flatMap octs := by
    rw [List.flatMap_cons, List.flatMap_map]
  have hRs : ∀ q ∈ row0 :: (os.drop 1).map (trow os), Rw q := fun q hq => by
    rcases List.mem_cons.mp hq with rfl | hq
    · exact F.rw
    · obtain ⟨z, hz', rfl⟩ := List.mem_map.mp hq
      exact (F.ed z hz').2.1
  have hdl : (os.drop 1).length = 5 := by simp [hol]
  rw [hoct] at H5
  have hrow := rd_rows (row0 :: (os.drop 1).map (trow os)) 0 row0 hRs rfl
  refine law_5 (k0 := 27) ok V1 r' H5 hol F.row F.rw.len (by simpa using hrow) F.dg fun il rl dl tn tw h6 tk6 H6 => ?_
  have htl : ts.length = 5 := by
    have := congrArg List.length hts
    rwa [List.length_map, List.length_map, hdl] at this
  refine law_6 (pos := fun i => 27 * (i + 1)) (ln := fun _ => 27) ok V1 hC r' H6 F.rw.len (fun i hi => by have := F.rw.mem i hi; omega) hLt.low.1 hLt.low.2 (fun i T ab rk e => ?_) fun d1 d2 d3 d4 d5 d6 d7 d8 d9 dA dB dC dD u2 h7 tk7 H7 => ?_
  · have e1 : (ts.map (·.2))[i]? = some (ab, rk) := by rw [List.getElem?_map, e]; rfl
    rw [hts, List.getElem?_map] at e1
    obtain ⟨q, e2, e3⟩ := Option.map_eq_some_iff.mp e1
    cases e3
    obtain ⟨_, _, f3, f4⟩ := F.ed rk (List.mem_of_getElem? e2)
    refine ⟨f4 x0 x1 kc hLt, ?_, by omega⟩
    have := rd_rows (row0 :: (os.drop 1).map (trow os)) (i + 1) (trow os rk) hRs (by rw [List.getElem?_cons_succ, List.getElem?_map, e2]; rfl)
    rw [f3] at this
    exact this
  · have hlen := rows_len _ hRs
    refine law_7 ok V1 r' hfr hf H7 ?_ fun h8 tk8 K8 => hk _ _ K8
    rw [List.getElem?_eq_none_iff, hlen, htl, List.length_cons, List.length_map, hdl]
    decide
end
end Mine
theorem PySem.Challenge.cw_us0008_02_holds : PySem.Challenge.rw_us0008_02.Holds := by
  refine Mine.hd ?_
  intro w s₀ s₁ mg mb G Y fa o pm cd doc dV kV ho hd hcd hD hmg hg args vals as hpre hlay hrd hwl hlo
  have KX := km_in_of Y
  have hT8 := km_tabs_of Y
  have hT9 : TabsAt ([(62, 58), (55, 51)] : List (Addr × Addr)) s₁.heap := by
    intro q hq
    rcases List.mem_cons.mp hq with rfl | hq
    · exact ⟨codeHd_of_K (c := 62) (P := 58) KX (by kernel_rfl), hT8 58 (by decide)⟩
    · rcases List.mem_cons.mp hq with rfl | hq
      · exact ⟨codeHd_of_K (c := 55) (P := 51) KX (by kernel_rfl), hT8 51 (by decide)⟩
      · cases hq
  refine Ground.open G ?_
  intro T B D TE TW
  have T' := ghost_top hT9 T
  have X' := ghost_K hT9 KX (by kernel_rfl)
  have C' := ghost_code hT9
  wrow_args hpre hlay hrd hwl hlo
  rename ¬ _ < _ => hcond
  rename IntsAre _ _ => hI
  rename Heap.IsList _ _ _ => hL
  have ok : (Mine.CC w (ghostOf s₁.heap [(62, 58), (55, 51)]) mg mb).Ok := Mine.cc_ok X' T'.g T'.b T'.builtins T'.nolimit T'.bmain C'.1 C'.2.1 (hideAll_none _ (by decide)) (hideAll_none _ (by decide))
  have hfa : fa = 144 := by
    have e : mg "law" = some (.ref 144) := mg_of ok.ki ok.ns (show nsIn (Mine.topHeap w.params) mainGlobals "law" = some (some (.ref 144)) from rfl)
    have e2 : mg "law" = some (.ref fa) := hmg
    rw [e2] at e
    injection e with e
    injection e
  subst hfa
  obtain ⟨hp1, g, dr, tk, os⟩ := s₁
  have H : Mine.Hp (Mine.CC w (ghostOf hp1 [(62, 58), (55, 51)]) mg mb) hp1 := ⟨fun b o e => of_hideAll _ e, .inl (hT8 58 (by decide)), .inl (hT8 51 (by decide))⟩
  obtain ⟨ol, el, hcl, nl, hdl⟩ := id hL
  refine Mine.sp_law ok (c := ⟨hp1, g, dr, tk, os⟩) rfl ⟨rfl, by decide, by decide⟩ H _ _ ⟨fun hz => ?_, ol, el, _, hI, hcl, nl, hdl⟩ (by omega) fun h' tk' K => ?_
  · rcases List.mem_cons.mp hz with rfl | hz
    · rw [hT8 58 (by decide)] at el; cases el; cases hcl
    · rcases List.mem_cons.mp hz with rfl | hz
      · rw [hT8 51 (by decide)] at el; cases el; cases hcl
      · cases hz
  · have tab : ∀ P o, P ∈ ([58, 51] : List Addr) → hp1.get? P = some o → isCodeTable hp1 P ∧ o = tabObj #[] ∧ ∃ ps, h'.get? P = some (tabObj ps) := fun P o hP e => by
      have hq : ∃ q ∈ ([(62, 58), (55, 51)] : List (Addr × Addr)), q.2 = P := by
        rcases List.mem_cons.mp hP with rfl | hP
        · exact ⟨_, .head _, rfl⟩
        · rcases List.mem_cons.mp hP with rfl | hP
          · exact ⟨_, .tail _ (.head _), rfl⟩
          · cases hP
      obtain ⟨q, hq, rfl⟩ := hq
      have e2 := (hT9 q hq).2
      refine ⟨((hT9 q hq).1.tab (hT9 q hq).2).isCodeTable, ?_, ?_⟩
      · have e3 : hp1.get? q.2 = some (tabObj #[]) := e2
        rw [e] at e3
        exact Option.some.inj e3
      · have grown : ∀ {P qual pos}, Mine.TabOk [58, 51] h' P qual pos → ∃ ps, h'.get? P = some (tabObj ps) := fun x => by
          rcases x with x | ⟨c', a, _⟩
          · exact ⟨_, x⟩
          · exact ⟨_, a⟩
        rcases List.mem_cons.mp hq with rfl | hq
        · exact grown K.hp.2.1
        · rcases List.mem_cons.mp hq with rfl | hq
          · exact grown K.hp.2.2
          · cases hq
    refine ⟨.inl ⟨.bool true, .bool true, [], rfl, fun _ => rfl, .bool true, ?_, fun _ => ⟨.nil, fun _ h => nomatch h⟩⟩, ⟨fun b o e => ?_, fun b o e => ?_⟩, rfl, .of_eq hg⟩
    · refine postW_of (X := true) ?_ ?_ rfl
      · first | rfl | kernel_rfl | decide
      · first | rfl | kernel_rfl | decide
    · by_cases hb : b ∈ ([58, 51] : List Addr)
      · obtain ⟨ht, rfl, ps, hP⟩ := tab b o hb e
        exact .inr (.inl ⟨ht, rfl, #[], ps, rfl, by rw [Array.empty_append]; exact hP⟩)
      · exact .inl (K.keep b o hb List.not_mem_nil e)
    · by_cases hb : b ∈ ([58, 51] : List Addr)
      · obtain ⟨_, _, ps, hP⟩ := tab b o hb e
        exact ⟨_, hP⟩
      · exact ⟨o, K.keep b o hb List.not_mem_nil e⟩
