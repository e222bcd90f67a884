import PyProof.Rows.All
import Wide.All
import OpenK.AllK
import Wide.FinOn
import PySem.Challenge.RW_pd0089_01
open PySem PySem.W PySem.Calls PyProof.Rows
set_option Elab.async false
set_option maxRecDepth 100000
set_option maxHeartbeats 8000000
set_option linter.unusedVariables false
set_option linter.unusedSimpArgs false
namespace Mine
abbrev P0 : Program := PySem.Challenge.pw_pd0089_01
noncomputable def nthS (l : List Stmt) (n : Nat) : Stmt := match l[n]? with | some s => s | none => .Pass ⟨0, 0, 0, 0⟩
noncomputable def forBodyS : Stmt → List Stmt
  | .For _ _ b _ _ => b
  | _ => []
noncomputable def defBodyS : Stmt → List Stmt
  | .FunctionDef _ _ b _ _ _ _ _ _ _ => b
  | _ => []
noncomputable def defParS : Stmt → Arguments
  | .FunctionDef _ a _ _ _ _ _ _ _ _ => a
  | _ => { posonlyargs := [], args := [], vararg := none, kwonlyargs := [], kw_defaults := [], kwarg := none, defaults := [] }
noncomputable def defScopeS : Stmt → Scope
  | .FunctionDef _ _ _ _ _ _ s _ _ _ => s
  | _ => { kind := .function, names := [], isGenerator := false, isCoroutine := false, more := [] }
noncomputable def topS (n : Nat) : Stmt := nthS PySem.Challenge.pw_pd0089_01.main.body n
/-- a def of the top, as the heap holds it behind the run -/
noncomputable def fobj (i : Nat) (name md : String) (t c : Nat) : Obj :=
  { cls := .type "function", data := .func { name := Str.ofString name, qualname := Str.ofString name, params := defParS (topS i), body := .stmts (defBodyS (topS i)), scope := defScopeS (topS i), globals := 3, closure := [], defaults := .none, kwdefaults := .none, pyModule := .str (Str.ofString md) t, code := .ref c } }
noncomputable def K0 : Params → Frag := fun P => (fun {o28 o87 o94 o101 o108 o115 o122 o129 o136 o143 o150 o157 o164 o171 o178 o185 o192 o197 : Obj}
  (_ : fobj 2 "_plain_name" "os" 194 27 = o28) (_ : fobj 7 "_abc_plain_meta" "collections.abc" 231 86 = o87) (_ : fobj 9 "fspath" "os" 281 93 = o94) (_ : fobj 11 "_check_arg_types" "cpy313.genericpath" 293 100 = o101) (_ : fobj 13 "_get_sep" "cpy313.posixpath" 306 107 = o108) (_ : fobj 14 "normcase" "cpy313.posixpath" 306 114 = o115) (_ : fobj 15 "isabs" "cpy313.posixpath" 306 121 = o122) (_ : fobj 16 "join" "cpy313.posixpath" 306 128 = o129) (_ : fobj 17 "split" "cpy313.posixpath" 306 135 = o136) (_ : fobj 18 "splitdrive" "cpy313.posixpath" 306 142 = o143) (_ : fobj 19 "splitroot" "cpy313.posixpath" 306 149 = o150) (_ : fobj 20 "basename" "cpy313.posixpath" 306 156 = o157) (_ : fobj 21 "normpath" "cpy313.posixpath" 306 163 = o164) (_ : fobj 23 "_law_path" "law_pd0089_01" 392 170 = o171) (_ : fobj 24 "_law_front" "law_pd0089_01" 392 177 = o178) (_ : fobj 25 "_law_roots" "law_pd0089_01" 392 184 = o185) (_ : fobj 26 "_law_refused" "law_pd0089_01" 392 191 = o192) (_ : fobj 27 "law" "law_pd0089_01" 392 196 = o197) => (
  (nat_lit 2, ⟨.none, none, .dict #[], #[]⟩) ::
  (nat_lit 3, ⟨.type "dict", none, .dict ⟨[⟨PyData.keyHash P (Str.ofString "__name__"), .str (Str.ofString "__name__") 165, .str (Str.ofString "law_pd0089_01") 392⟩, ⟨PyData.keyHash P (Str.ofString "__doc__"), .str (Str.ofString "__doc__") 166, .none⟩, ⟨PyData.keyHash P (Str.ofString "__package__"), .str (Str.ofString "__package__") 167, .none⟩, ⟨PyData.keyHash P (Str.ofString "__loader__"), .str (Str.ofString "__loader__") 168, .builtin "__main__.__loader__#opaque"⟩, ⟨PyData.keyHash P (Str.ofString "__spec__"), .str (Str.ofString "__spec__") 169, .none⟩, ⟨PyData.keyHash P (Str.ofString "__annotations__"), .str (Str.ofString "__annotations__") 170, .ref 6⟩, ⟨PyData.keyHash P (Str.ofString "__builtins__"), .str (Str.ofString "__builtins__") 171, .ref 4⟩, ⟨PyData.keyHash P (Str.ofString "__file__"), .str (Str.ofString "__file__") 173, .str (Str.ofString "/claim/cut.py") 172⟩, ⟨PyData.keyHash P (Str.ofString "__cached__"), .str (Str.ofString "__cached__") 174, .none⟩, ⟨PyData.keyHash P (Str.ofString "_wall"), .str (Str.ofString "_wall") 193, .ref 21⟩, ⟨PyData.keyHash P (Str.ofString "_plain_name"), .str (Str.ofString "_plain_name") 204, .ref 28⟩, ⟨PyData.keyHash P (Str.ofString "ABCMeta"), .str (Str.ofString "ABCMeta") 230, .ref 45⟩, ⟨PyData.keyHash P (Str.ofString "_ABCLike"), .str (Str.ofString "_ABCLike") 273, .ref 78⟩, ⟨PyData.keyHash P (Str.ofString "_abc_plain_meta"), .str (Str.ofString "_abc_plain_meta") 280, .ref 87⟩, ⟨PyData.keyHash P (Str.ofString "fspath"), .str (Str.ofString "fspath") 292, .ref 94⟩, ⟨PyData.keyHash P (Str.ofString "_check_arg_types"), .str (Str.ofString "_check_arg_types") 305, .ref 101⟩, ⟨PyData.keyHash P (Str.ofString "_get_sep"), .str (Str.ofString "_get_sep") 314, .ref 108⟩, ⟨PyData.keyHash P (Str.ofString "normcase"), .str (Str.ofString "normcase") 321, .ref 115⟩, ⟨PyData.keyHash P (Str.ofString "isabs"), .str (Str.ofString "isabs") 329, .ref 122⟩, ⟨PyData.keyHash P (Str.ofString "join"), .str (Str.ofString "join") 340, .ref 129⟩, ⟨PyData.keyHash P (Str.ofString "split"), .str (Str.ofString "split") 351, .ref 136⟩, ⟨PyData.keyHash P (Str.ofString "splitdrive"), .str (Str.ofString "splitdrive") 358, .ref 143⟩, ⟨PyData.keyHash P (Str.ofString "splitroot"), .str (Str.ofString "splitroot") 367, .ref 150⟩, ⟨PyData.keyHash P (Str.ofString "basename"), .str (Str.ofString "basename") 376, .ref 157⟩, ⟨PyData.keyHash P (Str.ofString "normpath"), .str (Str.ofString "normpath") 391, .ref 164⟩, ⟨PyData.keyHash P (Str.ofString "_law_path"), .str (Str.ofString "_law_path") 401, .ref 171⟩, ⟨PyData.keyHash P (Str.ofString "_law_front"), .str (Str.ofString "_law_front") 409, .ref 178⟩, ⟨PyData.keyHash P (Str.ofString "_law_roots"), .str (Str.ofString "_law_roots") 420, .ref 185⟩, ⟨PyData.keyHash P (Str.ofString "_law_refused"), .str (Str.ofString "_law_refused") 429, .ref 192⟩, ⟨PyData.keyHash P (Str.ofString "law"), .str (Str.ofString "law") 435, .ref 197⟩]⟩ 30, #[]⟩) ::
  (nat_lit 27, ⟨.type "code", none, .fields #[.str (Str.ofString "_plain_name") 196, .str (Str.ofString "_plain_name") 197, .str (Str.ofString "/claim/cut.py") 198, .int 5 0, .int 2 0, .int 0 0, .int 0 0, .int 3 0, .ref 22, .bool true, .int 181 0, .ref 23, .none, .ref 24, .ref 25, .ref 26, .int 202 0, .int 5 0, .str (Str.ofString "/claim/cut.py") 203], #[]⟩) ::
  (nat_lit 28, o28) ::
  (nat_lit 86, ⟨.type "code", none, .fields #[.str (Str.ofString "_abc_plain_meta") 274, .str (Str.ofString "_abc_plain_meta") 275, .str (Str.ofString "/claim/cut.py") 276, .int 31 0, .int 1 0, .int 0 0, .int 0 0, .int 3 0, .ref 81, .bool true, .int 181 0, .ref 82, .none, .ref 83, .ref 84, .ref 85, .int 278 0, .int 31 0, .str (Str.ofString "/claim/cut.py") 279], #[]⟩) ::
  (nat_lit 87, o87) ::
  (nat_lit 93, ⟨.type "code", none, .fields #[.str (Str.ofString "fspath") 283, .str (Str.ofString "fspath") 284, .str (Str.ofString "/claim/cut.py") 285, .int 35 0, .int 1 0, .int 0 0, .int 0 0, .int 3 0, .ref 88, .bool true, .int 181 0, .ref 89, .none, .ref 90, .ref 91, .ref 92, .int 290 0, .int 35 0, .str (Str.ofString "/claim/cut.py") 291], #[]⟩) ::
  (nat_lit 94, o94) ::
  (nat_lit 100, ⟨.type "code", none, .fields #[.str (Str.ofString "_check_arg_types") 295, .str (Str.ofString "_check_arg_types") 296, .str (Str.ofString "/claim/cut.py") 297, .int 52 0, .int 1 0, .int 0 0, .int 0 0, .int 7 0, .ref 95, .bool true, .int 181 0, .ref 96, .none, .ref 97, .ref 98, .ref 99, .int 303 0, .int 52 0, .str (Str.ofString "/claim/cut.py") 304], #[]⟩) ::
  (nat_lit 101, o101) ::
  (nat_lit 107, ⟨.type "code", none, .fields #[.str (Str.ofString "_get_sep") 308, .str (Str.ofString "_get_sep") 309, .str (Str.ofString "/claim/cut.py") 310, .int 64 0, .int 1 0, .int 0 0, .int 0 0, .int 3 0, .ref 102, .bool true, .int 181 0, .ref 103, .none, .ref 104, .ref 105, .ref 106, .int 312 0, .int 64 0, .str (Str.ofString "/claim/cut.py") 313], #[]⟩) ::
  (nat_lit 108, o108) ::
  (nat_lit 114, ⟨.type "code", none, .fields #[.str (Str.ofString "normcase") 315, .str (Str.ofString "normcase") 316, .str (Str.ofString "/claim/cut.py") 317, .int 69 0, .int 1 0, .int 0 0, .int 0 0, .int 3 0, .ref 109, .bool true, .int 181 0, .ref 110, .none, .ref 111, .ref 112, .ref 113, .int 319 0, .int 69 0, .str (Str.ofString "/claim/cut.py") 320], #[]⟩) ::
  (nat_lit 115, o115) ::
  (nat_lit 121, ⟨.type "code", none, .fields #[.str (Str.ofString "isabs") 322, .str (Str.ofString "isabs") 323, .str (Str.ofString "/claim/cut.py") 324, .int 71 0, .int 1 0, .int 0 0, .int 0 0, .int 3 0, .ref 116, .bool true, .int 181 0, .ref 117, .none, .ref 118, .ref 119, .ref 120, .int 327 0, .int 71 0, .str (Str.ofString "/claim/cut.py") 328], #[]⟩) ::
  (nat_lit 122, o122) ::
  (nat_lit 128, ⟨.type "code", none, .fields #[.str (Str.ofString "join") 330, .str (Str.ofString "join") 331, .str (Str.ofString "/claim/cut.py") 332, .int 75 0, .int 1 0, .int 0 0, .int 0 0, .int 7 0, .ref 123, .bool true, .int 181 0, .ref 124, .none, .ref 125, .ref 126, .ref 127, .int 338 0, .int 75 0, .str (Str.ofString "/claim/cut.py") 339], #[]⟩) ::
  (nat_lit 129, o129) ::
  (nat_lit 135, ⟨.type "code", none, .fields #[.str (Str.ofString "split") 341, .str (Str.ofString "split") 342, .str (Str.ofString "/claim/cut.py") 343, .int 92 0, .int 1 0, .int 0 0, .int 0 0, .int 3 0, .ref 130, .bool true, .int 181 0, .ref 131, .none, .ref 132, .ref 133, .ref 134, .int 349 0, .int 92 0, .str (Str.ofString "/claim/cut.py") 350], #[]⟩) ::
  (nat_lit 136, o136) ::
  (nat_lit 142, ⟨.type "code", none, .fields #[.str (Str.ofString "splitdrive") 352, .str (Str.ofString "splitdrive") 353, .str (Str.ofString "/claim/cut.py") 354, .int 100 0, .int 1 0, .int 0 0, .int 0 0, .int 3 0, .ref 137, .bool true, .int 181 0, .ref 138, .none, .ref 139, .ref 140, .ref 141, .int 356 0, .int 100 0, .str (Str.ofString "/claim/cut.py") 357], #[]⟩) ::
  (nat_lit 143, o143) ::
  (nat_lit 149, ⟨.type "code", none, .fields #[.str (Str.ofString "splitroot") 359, .str (Str.ofString "splitroot") 360, .str (Str.ofString "/claim/cut.py") 361, .int 103 0, .int 1 0, .int 0 0, .int 0 0, .int 3 0, .ref 144, .bool true, .int 181 0, .ref 145, .none, .ref 146, .ref 147, .ref 148, .int 365 0, .int 103 0, .str (Str.ofString "/claim/cut.py") 366], #[]⟩) ::
  (nat_lit 150, o150) ::
  (nat_lit 156, ⟨.type "code", none, .fields #[.str (Str.ofString "basename") 368, .str (Str.ofString "basename") 369, .str (Str.ofString "/claim/cut.py") 370, .int 117 0, .int 1 0, .int 0 0, .int 0 0, .int 3 0, .ref 151, .bool true, .int 181 0, .ref 152, .none, .ref 153, .ref 154, .ref 155, .int 374 0, .int 117 0, .str (Str.ofString "/claim/cut.py") 375], #[]⟩) ::
  (nat_lit 157, o157) ::
  (nat_lit 163, ⟨.type "code", none, .fields #[.str (Str.ofString "normpath") 377, .str (Str.ofString "normpath") 378, .str (Str.ofString "/claim/cut.py") 379, .int 122 0, .int 1 0, .int 0 0, .int 0 0, .int 3 0, .ref 158, .bool true, .int 181 0, .ref 159, .none, .ref 160, .ref 161, .ref 162, .int 389 0, .int 122 0, .str (Str.ofString "/claim/cut.py") 390], #[]⟩) ::
  (nat_lit 164, o164) ::
  (nat_lit 170, ⟨.type "code", none, .fields #[.str (Str.ofString "_law_path") 394, .str (Str.ofString "_law_path") 395, .str (Str.ofString "/claim/cut.py") 396, .int 148 0, .int 1 0, .int 0 0, .int 0 0, .int 3 0, .ref 165, .bool true, .int 181 0, .ref 166, .none, .ref 167, .ref 168, .ref 169, .int 399 0, .int 148 0, .str (Str.ofString "/claim/cut.py") 400], #[]⟩) ::
  (nat_lit 171, o171) ::
  (nat_lit 177, ⟨.type "code", none, .fields #[.str (Str.ofString "_law_front") 402, .str (Str.ofString "_law_front") 403, .str (Str.ofString "/claim/cut.py") 404, .int 155 0, .int 1 0, .int 0 0, .int 0 0, .int 3 0, .ref 172, .bool true, .int 181 0, .ref 173, .none, .ref 174, .ref 175, .ref 176, .int 407 0, .int 155 0, .str (Str.ofString "/claim/cut.py") 408], #[]⟩) ::
  (nat_lit 178, o178) ::
  (nat_lit 184, ⟨.type "code", none, .fields #[.str (Str.ofString "_law_roots") 410, .str (Str.ofString "_law_roots") 411, .str (Str.ofString "/claim/cut.py") 412, .int 160 0, .int 1 0, .int 0 0, .int 0 0, .int 3 0, .ref 179, .bool true, .int 181 0, .ref 180, .none, .ref 181, .ref 182, .ref 183, .int 418 0, .int 160 0, .str (Str.ofString "/claim/cut.py") 419], #[]⟩) ::
  (nat_lit 185, o185) ::
  (nat_lit 191, ⟨.type "code", none, .fields #[.str (Str.ofString "_law_refused") 421, .str (Str.ofString "_law_refused") 422, .str (Str.ofString "/claim/cut.py") 423, .int 169 0, .int 2 0, .int 0 0, .int 0 0, .int 3 0, .ref 186, .bool true, .int 181 0, .ref 187, .none, .ref 188, .ref 189, .ref 190, .int 427 0, .int 169 0, .str (Str.ofString "/claim/cut.py") 428], #[]⟩) ::
  (nat_lit 192, o192) ::
  (nat_lit 196, ⟨.type "code", none, .fields #[.str (Str.ofString "law") 430, .str (Str.ofString "law") 431, .str (Str.ofString "/claim/cut.py") 432, .int 186 0, .int 1 0, .int 0 0, .int 0 0, .int 3 0, .ref 193, .bool true, .int 181 0, .ref 194, .none, .none, .none, .ref 195, .int 433 0, .int 186 0, .str (Str.ofString "/claim/cut.py") 434], #[]⟩) ::
  (nat_lit 197, o197) :: [] : Frag))
  (by dsimp only [fobj, topS, PySem.Challenge.pw_pd0089_01, nthS, defParS, defBodyS, defScopeS, List.getElem?_cons_succ, List.getElem?_cons_zero])
  (by dsimp only [fobj, topS, PySem.Challenge.pw_pd0089_01, nthS, defParS, defBodyS, defScopeS, List.getElem?_cons_succ, List.getElem?_cons_zero])
  (by dsimp only [fobj, topS, PySem.Challenge.pw_pd0089_01, nthS, defParS, defBodyS, defScopeS, List.getElem?_cons_succ, List.getElem?_cons_zero])
  (by dsimp only [fobj, topS, PySem.Challenge.pw_pd0089_01, nthS, defParS, defBodyS, defScopeS, List.getElem?_cons_succ, List.getElem?_cons_zero])
  (by dsimp only [fobj, topS, PySem.Challenge.pw_pd0089_01, nthS, defParS, defBodyS, defScopeS, List.getElem?_cons_succ, List.getElem?_cons_zero])
  (by dsimp only [fobj, topS, PySem.Challenge.pw_pd0089_01, nthS, defParS, defBodyS, defScopeS, List.getElem?_cons_succ, List.getElem?_cons_zero])
  (by dsimp only [fobj, topS, PySem.Challenge.pw_pd0089_01, nthS, defParS, defBodyS, defScopeS, List.getElem?_cons_succ, List.getElem?_cons_zero])
  (by dsimp only [fobj, topS, PySem.Challenge.pw_pd0089_01, nthS, defParS, defBodyS, defScopeS, List.getElem?_cons_succ, List.getElem?_cons_zero])
  (by dsimp only [fobj, topS, PySem.Challenge.pw_pd0089_01, nthS, defParS, defBodyS, defScopeS, List.getElem?_cons_succ, List.getElem?_cons_zero])
  (by dsimp only [fobj, topS, PySem.Challenge.pw_pd0089_01, nthS, defParS, defBodyS, defScopeS, List.getElem?_cons_succ, List.getElem?_cons_zero])
  (by dsimp only [fobj, topS, PySem.Challenge.pw_pd0089_01, nthS, defParS, defBodyS, defScopeS, List.getElem?_cons_succ, List.getElem?_cons_zero])
  (by dsimp only [fobj, topS, PySem.Challenge.pw_pd0089_01, nthS, defParS, defBodyS, defScopeS, List.getElem?_cons_succ, List.getElem?_cons_zero])
  (by dsimp only [fobj, topS, PySem.Challenge.pw_pd0089_01, nthS, defParS, defBodyS, defScopeS, List.getElem?_cons_succ, List.getElem?_cons_zero])
  (by dsimp only [fobj, topS, PySem.Challenge.pw_pd0089_01, nthS, defParS, defBodyS, defScopeS, List.getElem?_cons_succ, List.getElem?_cons_zero])
  (by dsimp only [fobj, topS, PySem.Challenge.pw_pd0089_01, nthS, defParS, defBodyS, defScopeS, List.getElem?_cons_succ, List.getElem?_cons_zero])
  (by dsimp only [fobj, topS, PySem.Challenge.pw_pd0089_01, nthS, defParS, defBodyS, defScopeS, List.getElem?_cons_succ, List.getElem?_cons_zero])
  (by dsimp only [fobj, topS, PySem.Challenge.pw_pd0089_01, nthS, defParS, defBodyS, defScopeS, List.getElem?_cons_succ, List.getElem?_cons_zero])
  (by dsimp only [fobj, topS, PySem.Challenge.pw_pd0089_01, nthS, defParS, defBodyS, defScopeS, List.getElem?_cons_succ, List.getElem?_cons_zero])
noncomputable def viewT : Program := { PySem.Challenge.pw_pd0089_01 with main := { PySem.Challenge.pw_pd0089_01.main with body := [topS 0, topS 2, topS 4, topS 6, topS 7, topS 9, topS 11, topS 13, topS 14, topS 15, topS 16, topS 17, topS 18, topS 19, topS 20, topS 21, topS 23, topS 24, topS 25, topS 26, topS 27] } }
noncomputable def V0 : Program := (fun {n : Program} (_ : viewT = n) => n) (by
  unfold viewT
  dsimp only [topS, PySem.Challenge.pw_pd0089_01, nthS, List.getElem?_cons_succ, List.getElem?_cons_zero])
abbrev K0A : List Addr := [2, 3, 27, 28, 86, 87, 93, 94, 100, 101, 107, 108, 114, 115, 121, 122, 128, 129, 135, 136, 142, 143, 149, 150, 156, 157, 163, 164, 170, 171, 177, 178, 184, 185, 191, 192, 196, 197]
theorem K0A_eq : ∀ P, K0A = (K0 P).map (·.1) := fun _ => by kernel_rfl
theorem left_of {p q : Program} {loose : List Str} {Xt : Shared → Bool} {α : Type} {Yf : Shared → α} {Ya : World → α} {N : Nat} {H : World → Heap} {d : Drawn} {k : Nat} {R : World → OsState → Option Shared}
    (hb : ∀ w, (fencedOpening treeTable p w N).map (fun s => (s.heap, s.gens, s.drawn, s.toks)) = some (H w, Array.mk [], d, k)) (hz : ∀ w, ((H w).isNs mainGlobals && (Array.mk [] : Array GenState).size == 0) = true)
    (hr : ∀ w os, topRun treeTable p w (H w).objs.size ((H w).nsMap mainGlobals "__annotations__") N ⟨H w, Array.mk [], d, k, os⟩ (topStub p) = R w os)
    (ha : ∀ w os, (R w os).map (fun s₁ => (staticsOk (importedModules p.main.body) (H w) s₁.heap && namesBound p s₁.heap && gensDone s₁ && laidKept (H w) s₁.heap, Yf s₁)) = some (true, Ya w))
    (hB : ∀ w os, (R w os).map (fun s => openSeen q loose (importedModules p.main.body) Xt true s) = some (openGood q loose)) : LeftO p q loose Xt Yf Ya N := by
  intro w
  obtain ⟨⟨h, gs, d, k, os⟩, e, e'⟩ := Option.map_eq_some_iff.mp (hb w)
  obtain ⟨rfl, rfl, rfl, rfl⟩ : h = H w ∧ gs = Array.mk [] ∧ _ ∧ _ := by simpa using e'
  obtain ⟨s, hs, a⟩ := Option.map_eq_some_iff.mp (ha w os)
  obtain ⟨a, c⟩ := Prod.mk.inj a
  have b := hB w os
  rw [hs] at b
  replace b := Option.some.inj b
  dsimp only at b
  have t : topFrom treeTable p w N ⟨H w, Array.mk [], d, k, os⟩ = some s := by
    unfold topFrom
    dsimp only
    rw [hz, hr, hs]
    dsimp only [Option.bind]
    rw [a]
  unfold openEnds
  rw [e]
  show (topFrom treeTable p w N _).map _ = _
  rw [t]
  show some (_, _) = _
  rw [b, c]
theorem boot0 : ∀ w : World, (fencedOpening treeTable Challenge.rw_pd0089_01.row.prog w 2460).map (fun s => (s.heap, s.gens, s.drawn, s.toks)) = some (boot_heap w.params, Array.mk [], boot_drawn, boot_toks) :=
  boot_open (by kernel_rfl) (by decide +kernel) (fun s => by kernel_rfl)
/-- the run of the top, behind the boot, by the library's quick tables -/
noncomputable def runE (w : World) (os : OsState) : Option Shared :=
  PySem.W.Fast.tw14082659384304107361 PySem.W.Fast.tw14364793385576792824 Challenge.rw_pd0089_01.row.prog w (boot_heap w.params).objs.size ((boot_heap w.params).nsMap mainGlobals "__annotations__") 2460
    ⟨boot_heap w.params, Array.mk [], boot_drawn, boot_toks, os⟩ (topStub Challenge.rw_pd0089_01.row.prog)
theorem runE_eq (w : World) (os : OsState) : topRun treeTable Challenge.rw_pd0089_01.row.prog w (boot_heap w.params).objs.size ((boot_heap w.params).nsMap mainGlobals "__annotations__") 2460
    ⟨boot_heap w.params, Array.mk [], boot_drawn, boot_toks, os⟩ (topStub Challenge.rw_pd0089_01.row.prog) = runE w os := by
  unfold runE
  rw [PySem.W.Fast.te14082659384304107361, PySem.W.Fast.te14364793385576792824]
noncomputable abbrev rowX : Shared → Bool := fun s => xlAt V0 [] s && recOk Challenge.rw_pd0089_01.row.records s
theorem size0 (w : World) : (Heap.isNs (boot_heap w.params) mainGlobals && (Array.mk [] : Array GenState).size == 0) = true := by kernel_rfl
theorem run_a (w : World) (os : OsState) : (runE w os).map (fun s₁ => (staticsOk (importedModules Challenge.rw_pd0089_01.row.prog.main.body) (boot_heap w.params) s₁.heap && namesBound Challenge.rw_pd0089_01.row.prog s₁.heap && gensDone s₁ && laidKept (boot_heap w.params) s₁.heap,
    (kHook K0 K0A K0A_eq).obs s₁)) = some (true, (kHook K0 K0A K0A_eq).val w) := by kernel_rfl
theorem run_b (w : World) (os : OsState) : (runE w os).map (fun s => openSeen V0 [] (importedModules Challenge.rw_pd0089_01.row.prog.main.body) rowX true s) = some (openGood V0 []) := by
  rw [PySem.W.Fast.te4187177175401517315]
  kernel_rfl
theorem left0 : LeftO Challenge.rw_pd0089_01.row.prog V0 [] rowX (kHook K0 K0A K0A_eq).obs (kHook K0 K0A K0A_eq).val 2460 := left_of boot0 size0 runE_eq run_a run_b

theorem said_law (h : Challenge.rw_pd0089_01.row.wellSaid = true → Challenge.rw_pd0089_01.row.Holds) : Challenge.rw_pd0089_01.Holds := by
  o_law
  exact h ‹_›
theorem law_from {d : DefRec} {kwd : List (Str × Expr)} (hdef : defOf V0 Challenge.rw_pd0089_01.row.name = some (d, kwd)) (hp : Challenge.rw_pd0089_01.row.prog.theDef Challenge.rw_pd0089_01.row.name = some (d.params, d.body, d.scope))
    (hk : kwWritten? d.params.kwonlyargs d.params.kw_defaults = some kwd) (hc : WalkO V0 [] (XL V0 []) (kHook K0 K0A K0A_eq).says Challenge.rw_pd0089_01.row.toRowW d kwd fun f vs => PySem.call f vs) : Challenge.rw_pd0089_01.Holds := by
  refine said_law fun said => ?_
  exact holds_open (q := V0) (loose := []) (Xt := rowX) (XP := XL V0 []) (Yf := (kHook K0 K0A K0A_eq).obs) (Ya := (kHook K0 K0A K0A_eq).val) (YP := (kHook K0 K0A K0A_eq).says) (N := 2460) left0 (kHook K0 K0A K0A_eq).of (kHook K0 K0A K0A_eq).keeps
    (fun s e => xl_of s (Bool.and_eq_true_iff.mp e).1) XL.keeps hdef hp hk (fun s e => recFacts_of (Bool.and_eq_true_iff.mp e).2) (by rfl) said (by decide +kernel) ⟨rfl, rfl, rfl, rfl, rfl, by decide +kernel⟩ ⟨[WData.list []], by decide +kernel, by decide +kernel⟩ hc
theorem below_here {A A₀ : Around} {base h₀ h : Heap} {outer : List Env} {L : Addr} {m : Str → Option Value} {env : Env}
    (B : Below A₀ base outer h₀) (F : Fr h₀ L h m) (hA : A.frames = some (env :: outer)) (hf : env.frame = some L) (hke : env.scope.kind = .function) :
    Below A base (env :: outer) h := by
  have hnew : base.get? L = none := by
    cases hq : base.get? L with
    | none => rfl
    | some o => exact absurd (Nat.lt_of_lt_of_le (Heap.lt_size (B.stays L o hq)) F.above) (Nat.lt_irrefl _)
  refine ⟨hA, fun b o e => F.keep b o (B.stays b o e), ?_⟩
  exact .cons (by rw [hke]; decide) hf F.ns hnew (B.frames.of_keeps fun b o e _ => ⟨o, F.keep b o e, rfl⟩)

theorem enter_def {prog : Program} {w : World} {A : Around} {base : Heap} {outer : List Env} {s : Shared} {K : Frag} {p : Program} {loose : List Str} {mean : ExcName → Option Value} {mg mb : Str → Option Value}
    {R : Result → Shared → Prop} {name qual : Str} {params : Arguments} {body : List Stmt} {scope : Scope} {dV kV doc pm cdv ct oc : Value} {an od : Option Addr} {osl : Array (Option Value)} {f : Addr} {args : Args} {binds : List (Str × Value)}
    (B : Below A base outer s.heap) (X : K.In s.heap) (T : Top p loose mean mg mb s.heap)
    (ho : K.lookup f = some ⟨oc, od, .func (fnOf name qual params body scope dV kV doc pm an cdv ct), osl⟩) (hcd : codeIn K cdv qual = true) (hroom : A.depth < recursionLimit)
    (hbind : BindsTo s (fnOf name qual params body scope dV kV doc pm an cdv ct) args binds) (hloc : ∀ y ∈ binds, scope.names.lookup y.1 = some .local)
    (h : ∀ L' h₁, Fr s.heap L' h₁ (fun y => binds.reverse.lookup y) → News s.heap L' h₁ [] →
      wpAny (model prog w) (A.deeper (envOf qual scope L' f cdv)) (execs body (envOf qual scope L' f cdv))
        (fun fl s' => R (.ok (.ret (match fl with | .ret v => v | _ => .none))) s')
        (fun e s' => wpAny (model prog w) (A.deeper (envOf qual scope L' f cdv)) (leaving (envOf qual scope L' f cdv) e) (fun _ s'' => R (.error e) s'') (fun e' s'' => R (.error e') s'') s')
        { s with heap := h₁, toks := s.toks + binds.length })
    (hco : scope.isCoroutine = false) (hgen : scope.isGenerator = false) (hk : scope.kind = .function)
    (hcell : ∀ x ∈ scope.names, x.2 ≠ .cell) : codeAny (model prog w) A (.call (.ref f) args) R s := by
  refine codeAny_call_def (fd := fnOf name qual params body scope dV kV doc pm an cdv ct) (body := body) (binds := binds) hroom (X _ _ ho) rfl T.nolimit (codeRec_of X hcd) rfl hbind hcell hloc (fun h₁ hns hk₁ => ?_) hco hgen hk
  exact h _ h₁ ⟨hns, hk₁, Nat.le_refl _⟩ (fun _ hp => nomatch hp)
section
variable {prog : Program} {w : World} {A : Around} {E : Value → Shared → Prop} {s : Shared}
theorem tt_of {T : String} (hm : ((Manifest.find? T).elim "type" fun x => x.metatype) = "type") : typeOf (.type T) = pure (.type "type") := by
  show (pure (Value.type ((Manifest.find? T).elim "type" fun x => x.metatype)) : Sem Value) = _
  rw [hm]
theorem tt_str : typeOf (.type "str") = pure (.type "type") := tt_of (by decide +kernel)
theorem tt_bytes : typeOf (.type "bytes") = pure (.type "type") := tt_of (by decide +kernel)
theorem isub_one {X Y : String} {dep : Int} {tk : Tok} {b : Bool} {Q : Fin → Shared → Prop} (hX : typeOf (.type X) = pure (.type "type")) (hY : typeOf (.type Y) = pure (.type "type"))
    (hsub : isSubtype (.type X) (.type Y) = pure b) (hq : Q (.done (.ret (.bool b))) s) :
    wpAny (model prog w) A (Builtin.«issubclass.nested» ⟨[.type X, .type Y, .int dep tk], []⟩) Q E s := by
  have h2 : isSubtype (.type "type") (.type "type") = pure true := by rw [isSubtype_type]; kernel_rfl
  repeat (any_goals (first | assumption | (rw [hY]) | (rw [hX]) | (rw [h2]) | (rw [hsub]) | wp_step))

theorem kind_isub_nested : builtinKind "issubclass.nested" = none := by decide +kernel
theorem plain_isub_nested : plainId "issubclass.nested" = true := by decide +kernel
theorem args_isub_nested (a b c : Value) : argsOk "issubclass.nested" ⟨[a, b, c], []⟩ := by unfold argsOk; kernel_rfl

theorem isub_items {X : String} {dep : Int} (hX : typeOf (.type X) = pure (.type "type")) : ∀ (cs : List (String × Bool)) (s : Shared) (Q : Option Fin × Unit → Shared → Prop),
    (∀ c ∈ cs, typeOf (.type c.1) = pure (.type "type") ∧ isSubtype (.type X) (.type c.1) = pure c.2) → (∀ tk, Q (if cs.any (·.2) then some (.done (.ret (.bool true))) else none, ()) { s with toks := tk }) →
    wpAny (model prog w) A (forIn (cs.map fun c => Value.type c.1) ((none : Option Fin), ()) fun c _ => do
      if ← truthy (← call (.builtin "issubclass.nested") [.type X, c, rawInt (dep + 1)]) then
        let r ← ret (.bool true)
        pure (ForInStep.done (some r, ()))
      else pure (ForInStep.yield (none, ()))) Q E s
  | [], s, Q, _, h => wpAny_pure (h s.toks)
  | (Y, v) :: cs, s, Q, ha, h => by
    rw [List.map_cons, List.forIn_cons]
    have h1 := ha _ (List.Mem.head _)
    refine wpAny_bind (wpAny_bind (call_function_meets (S := fun _ R s => R (.ok (.ret (.bool v))) s) kind_isub_nested plain_isub_nested F.entry_issubclass_nested (args_isub_nested _ _ _) (fun _ _ _ _ _ hs => isub_one hX h1.1 h1.2 hs) ?_))
    show wpAny _ _ (truthy (.bool v) >>= _) _ _ _
    refine wpAny_bind (m := truthy (.bool v)) (wpAny_pure ?_)
    cases v with
    | true => exact wpAny_bind (wpAny_pure (wpAny_pure (wpAny_pure (h s.toks))))
    | false => exact wpAny_pure (isub_items hX cs _ Q (fun c hc => ha c (.tail _ hc)) fun tk => h tk)

theorem isub_tuple_nested {X : String} {tp : Addr} {cs : List (String × Bool)} {tk : Tok} {Q : Fin → Shared → Prop} (hX : typeOf (.type X) = pure (.type "type"))
    (ha : ∀ c ∈ cs, typeOf (.type c.1) = pure (.type "type") ∧ isSubtype (.type X) (.type c.1) = pure c.2)
    (htp : s.heap.get? tp = some { cls := .type "tuple", data := .seq (cs.map fun c => Value.type c.1).toArray })
    (hq : ∀ tk', Q (.done (.ret (.bool (cs.any (·.2))))) { s with toks := tk' }) :
    wpAny (model prog w) A (Builtin.«issubclass.nested» ⟨[.type X, .ref tp, .int 0 tk], []⟩) Q E s := by
  obtain ⟨h, g, d, t, os⟩ := s
  have hT2 : (⟨h, g, d, t, os⟩ : Shared).TypeIs (.ref tp) "tuple" := ⟨_, htp, rfl⟩
  have f1 := F.isi_sub_tuple
  repeat (any_goals (first | assumption | wp_step))
  refine wpAny_arrayLoop ?_
  simp only [Option.getD_some, List.toList_toArray]
  refine isub_items (dep := 0) hX cs _ _ ha fun tk' => ?_
  cases hv : cs.any (·.2) with
  | true =>
    simp only [if_true]
    repeat (any_goals (first | assumption | wp_step))
    exact hv ▸ hq tk'
  | false =>
    simp only [Bool.false_eq_true, if_false]
    repeat (any_goals (first | assumption | wp_step))
    exact hv ▸ hq tk'

theorem isub_tuple {X : String} {tp : Addr} {cs : List (String × Bool)} {Q : Value → Shared → Prop} (hX : typeOf (.type X) = pure (.type "type"))
    (ha : ∀ c ∈ cs, typeOf (.type c.1) = pure (.type "type") ∧ isSubtype (.type X) (.type c.1) = pure c.2)
    (htp : s.heap.get? tp = some { cls := .type "tuple", data := .seq (cs.map fun c => Value.type c.1).toArray })
    (hq : ∀ tk', Q (.bool (cs.any (·.2))) { s with toks := tk' }) :
    wpAny (model prog w) A (call (.builtin "issubclass") [.type X, .ref tp]) Q E s :=
  call_issubclass (S := fun _ R s => s.heap.get? tp = some { cls := .type "tuple", data := .seq (cs.map fun c => Value.type c.1).toArray } ∧ ∀ tk', R (.ok (.ret (.bool (cs.any (·.2))))) { s with toks := tk' })
    (fun _ _ _ _ _ hs => issubclass_outer (isub_tuple_nested hX ha hs.1 hs.2)) ⟨htp, hq⟩

theorem isub_sb {X : String} {b1 b2 : Bool} {tp : Addr} {Q : Value → Shared → Prop} (hX : typeOf (.type X) = pure (.type "type")) (h1 : isSubtype (.type X) (.type "str") = pure b1) (h2 : isSubtype (.type X) (.type "bytes") = pure b2)
    {h₀ : Heap} {L : Addr} {news : List (Addr × Obj)} (N : News h₀ L s.heap news)
    (htp : (tp, { cls := .type "tuple", data := .seq #[.type "str", .type "bytes"] }) ∈ news)
    (hq : ∀ tk', Q (.bool (b1 || b2)) { s with toks := tk' }) :
    wpAny (model prog w) A (call (.builtin "issubclass") [.type X, .ref tp]) Q E s := by
  refine isub_tuple (cs := [("str", b1), ("bytes", b2)]) hX ?_ (N _ htp).1 (fun tk' => by simpa using hq tk')
  intro c hc
  simp only [List.mem_cons, List.not_mem_nil, or_false] at hc
  rcases hc with rfl | rfl
  · exact ⟨tt_str, h1⟩
  · exact ⟨tt_bytes, h2⟩
end

section
variable {prog : Program} {w : World} {A : Around} {E : Value → Shared → Prop} {s : Shared} {tp : Addr} {Q : Value → Shared → Prop} {h₀ : Heap} {L : Addr} {news : List (Addr × Obj)}
theorem isub_of_str (N : News h₀ L s.heap news) (htp : (tp, { cls := .type "tuple", data := .seq #[.type "str", .type "bytes"] }) ∈ news) (hq : ∀ tk', Q (.bool true) { s with toks := tk' }) :
    wpAny (model prog w) A (call (.builtin "issubclass") [.type "str", .ref tp]) Q E s :=
  isub_sb (b1 := true) (b2 := false) tt_str (by rw [isSubtype_type]; kernel_rfl) (by rw [isSubtype_type]; kernel_rfl) N htp hq
theorem isub_of_bytes (N : News h₀ L s.heap news) (htp : (tp, { cls := .type "tuple", data := .seq #[.type "str", .type "bytes"] }) ∈ news) (hq : ∀ tk', Q (.bool true) { s with toks := tk' }) :
    wpAny (model prog w) A (call (.builtin "issubclass") [.type "bytes", .ref tp]) Q E s :=
  isub_sb (b1 := false) (b2 := true) tt_bytes (by rw [isSubtype_type]; kernel_rfl) (by rw [isSubtype_type]; kernel_rfl) N htp hq
theorem isub_of_none (N : News h₀ L s.heap news) (htp : (tp, { cls := .type "tuple", data := .seq #[.type "str", .type "bytes"] }) ∈ news) (hq : ∀ tk', Q (.bool false) { s with toks := tk' }) {X : String} (hX : typeOf (.type X) = pure (.type "type")) (h1 : isSubtype (.type X) (.type "str") = pure false) (h2 : isSubtype (.type X) (.type "bytes") = pure false) :
    wpAny (model prog w) A (call (.builtin "issubclass") [.type X, .ref tp]) Q E s :=
  isub_sb (b1 := false) (b2 := false) hX h1 h2 N htp hq
end
abbrev AA (dp un : Nat) (gd : Option (List Code)) (outer : List Env) : Around := { handled := none, depth := dp, frames := some outer, guards := gd, units := un }

/-- what a call of the def at f with vs does: n frames of room; P of the heap ahead, the value, the heap behind -/
noncomputable def Ct (w : World) (s₀ : Shared) (mg mb : Str → Option Value) (n : Nat) (f : Addr) (vs : List Value) (P : Heap → Value → Heap → Prop) : Prop :=
  ∀ (dp un : Nat) (gd : Option (List Code)) (base : Heap) (outer : List Env) (s : Shared) (Q E : Value → Shared → Prop),
    Below (AA dp un gd outer) base outer s.heap → (K0 w.params).In s.heap → Top V0 (looseW V0 []) (ExcName.means s₀.heap) mg mb s.heap →
    dp + n < recursionLimit → un + (4 * n + 20) < cLine →
    (∀ v h' tk', s.heap.StaysIn h' → P s.heap v h' → Q v { s with heap := h', toks := tk' }) →
    wpAny (model Challenge.rw_pd0089_01.row.prog w) (AA dp un gd outer) (call (.ref f) vs) Q E s

/-- results -/
abbrev RStr (x : Str) : Heap → Value → Heap → Prop := fun _ v _ => ∃ t, v = .str x t
abbrev RBytes (x : Array UInt8) : Heap → Value → Heap → Prop := fun _ v _ => ∃ t, v = .bytes x t
abbrev RInt (x : Int) : Heap → Value → Heap → Prop := fun _ v _ => ∃ t, v = .int x t
abbrev RBool (x : Bool) : Heap → Value → Heap → Prop := fun _ v _ => v = .bool x
abbrev tupO (vs : List Value) : Obj := { cls := .type "tuple", data := .seq vs.toArray }
abbrev lstO (vs : List Value) (n : Nat) : Obj := { cls := .type "list", data := .seq vs.toArray n }
abbrev RTupS (x y z : Str) : Heap → Value → Heap → Prop := fun h v h' => ∃ a t1 t2 t3, v = .ref a ∧ h.get? a = none ∧ h'.get? a = some (tupO [.str x t1, .str y t2, .str z t3])
abbrev RTupB (x y z : Array UInt8) : Heap → Value → Heap → Prop := fun h v h' => ∃ a t1 t2 t3, v = .ref a ∧ h.get? a = none ∧ h'.get? a = some (tupO [.bytes x t1, .bytes y t2, .bytes z t3])
abbrev RPairS (x y : Str) : Heap → Value → Heap → Prop := fun h v h' => ∃ a t1 t2, v = .ref a ∧ h.get? a = none ∧ h'.get? a = some (tupO [.str x t1, .str y t2])
abbrev RPairB (x y : Array UInt8) : Heap → Value → Heap → Prop := fun h v h' => ∃ a t1 t2, v = .ref a ∧ h.get? a = none ∧ h'.get? a = some (tupO [.bytes x t1, .bytes y t2])

theorem fr_stays {h₀ h h' : Heap} {L : Addr} {m : Str → Option Value} (F : Fr h₀ L h m) (k : h.StaysIn h') : Fr h₀ L h' m := by
  obtain ⟨o, es, ep, hL, r⟩ := F.ns
  exact ⟨⟨o, es, ep, k _ _ hL, r⟩, fun b o e => k b o (F.keep b o e), F.above⟩
theorem news_stays {h₀ h h' : Heap} {L : Addr} {news : List (Addr × Obj)} (N : News h₀ L h news) (k : h.StaysIn h') : News h₀ L h' news :=
  fun p hp => ⟨k _ _ (N p hp).1, (N p hp).2⟩
noncomputable def AllNe (d : Nat) : List (Addr × Obj) → Prop
  | [] => True
  | p :: r => @Ne Nat p.1 d ∧ AllNe d r
theorem allNe_of {d : Addr} : ∀ {l : List (Addr × Obj)}, (∀ p ∈ l, p.1 ≠ d) → AllNe d l
  | [], _ => trivial
  | p :: _, h => ⟨h p (.head _), allNe_of fun q hq => h q (.tail _ hq)⟩
theorem news_more {h₀ h h' : Heap} {L a : Addr} {o : Obj} {m : Str → Option Value} {news : List (Addr × Obj)} (F : Fr h₀ L h m) (N : News h₀ L h news) (k : h.StaysIn h') (ha : h.get? a = none) (ho : h'.get? a = some o) :
    News h₀ L h' ((a, o) :: news) ∧ ∀ p ∈ news, p.1 ≠ a := by
  refine ⟨fun p hp => ?_, fun p hp e => ?_⟩
  · rcases List.mem_cons.mp hp with rfl | hp
    · refine ⟨ho, ?_, ?_⟩
      · rintro rfl
        obtain ⟨o, es, ep, hL, r⟩ := F.ns
        exact absurd (ha.symm.trans hL) (by simp)
      · show h₀.get? a = none
        cases q : h₀.get? a with
        | none => rfl
        | some o => exact absurd (ha.symm.trans (F.keep _ _ q)) (by simp)
    · exact ⟨k _ _ (N p hp).1, (N p hp).2⟩
  · exact absurd ((e ▸ ha : h.get? p.1 = none).symm.trans (N p hp).1) (by simp)

section
variable {w : World} {s₀ : Shared} {mg mb : Str → Option Value} {n : Nat} {f : Addr} {vs : List Value} {A A₀ : Around} {base h₀ : Heap} {outer : List Env} {L : Addr} {m : Str → Option Value} {news : List (Addr × Obj)} {s : Shared} {Q E : Value → Shared → Prop}
  {dp un : Nat} {gd : Option (List Code)} {env : Env}

theorem Ct.at {P : Heap → Value → Heap → Prop} (C : Ct w s₀ mg mb n f vs P) (B : Below A₀ base outer h₀) (F : Fr h₀ L s.heap m) (N : News h₀ L s.heap news) (X : (K0 w.params).In h₀)
    (T : Top V0 (looseW V0 []) (ExcName.means s₀.heap) mg mb h₀) (hf : env.frame = some L) (hke : env.scope.kind = .function)
    (hdp : dp + n < recursionLimit) (hun : un + (4 * n + 20) < cLine)
    (k : ∀ v h' tk', Fr h₀ L h' m → News h₀ L h' news → s.heap.StaysIn h' → P s.heap v h' → Q v { s with heap := h', toks := tk' }) :
    wpAny (model Challenge.rw_pd0089_01.row.prog w) (AA dp un gd (env :: outer)) (call (.ref f) vs) Q E s :=
  C dp un gd base (env :: outer) s Q E (below_here B F rfl hf hke) (X.keeps F.keep) (T.keeps F.keep) hdp hun fun v h' tk' st p => k v h' tk' (fr_stays F st) (news_stays N st) st p

theorem Ct.atStr {x : Str} (C : Ct w s₀ mg mb n f vs (RStr x)) (B : Below A₀ base outer h₀) (F : Fr h₀ L s.heap m) (N : News h₀ L s.heap news) (X : (K0 w.params).In h₀)
    (T : Top V0 (looseW V0 []) (ExcName.means s₀.heap) mg mb h₀) (hf : env.frame = some L) (hke : env.scope.kind = .function)
    (hdp : dp + n < recursionLimit) (hun : un + (4 * n + 20) < cLine)
    (k : ∀ t h' tk', Fr h₀ L h' m → News h₀ L h' news → Q (.str x t) { s with heap := h', toks := tk' }) :
    wpAny (model Challenge.rw_pd0089_01.row.prog w) (AA dp un gd (env :: outer)) (call (.ref f) vs) Q E s :=
  C.at B F N X T hf hke hdp hun fun _ h' tk' F' N' _ ⟨t, e⟩ => e ▸ k t h' tk' F' N'
theorem Ct.atBytes {x : Array UInt8} (C : Ct w s₀ mg mb n f vs (RBytes x)) (B : Below A₀ base outer h₀) (F : Fr h₀ L s.heap m) (N : News h₀ L s.heap news) (X : (K0 w.params).In h₀)
    (T : Top V0 (looseW V0 []) (ExcName.means s₀.heap) mg mb h₀) (hf : env.frame = some L) (hke : env.scope.kind = .function)
    (hdp : dp + n < recursionLimit) (hun : un + (4 * n + 20) < cLine)
    (k : ∀ t h' tk', Fr h₀ L h' m → News h₀ L h' news → Q (.bytes x t) { s with heap := h', toks := tk' }) :
    wpAny (model Challenge.rw_pd0089_01.row.prog w) (AA dp un gd (env :: outer)) (call (.ref f) vs) Q E s :=
  C.at B F N X T hf hke hdp hun fun _ h' tk' F' N' _ ⟨t, e⟩ => e ▸ k t h' tk' F' N'
theorem Ct.atInt {x : Int} (C : Ct w s₀ mg mb n f vs (RInt x)) (B : Below A₀ base outer h₀) (F : Fr h₀ L s.heap m) (N : News h₀ L s.heap news) (X : (K0 w.params).In h₀)
    (T : Top V0 (looseW V0 []) (ExcName.means s₀.heap) mg mb h₀) (hf : env.frame = some L) (hke : env.scope.kind = .function)
    (hdp : dp + n < recursionLimit) (hun : un + (4 * n + 20) < cLine)
    (k : ∀ t h' tk', Fr h₀ L h' m → News h₀ L h' news → Q (.int x t) { s with heap := h', toks := tk' }) :
    wpAny (model Challenge.rw_pd0089_01.row.prog w) (AA dp un gd (env :: outer)) (call (.ref f) vs) Q E s :=
  C.at B F N X T hf hke hdp hun fun _ h' tk' F' N' _ ⟨t, e⟩ => e ▸ k t h' tk' F' N'
theorem Ct.atBool {x : Bool} (C : Ct w s₀ mg mb n f vs (RBool x)) (B : Below A₀ base outer h₀) (F : Fr h₀ L s.heap m) (N : News h₀ L s.heap news) (X : (K0 w.params).In h₀)
    (T : Top V0 (looseW V0 []) (ExcName.means s₀.heap) mg mb h₀) (hf : env.frame = some L) (hke : env.scope.kind = .function)
    (hdp : dp + n < recursionLimit) (hun : un + (4 * n + 20) < cLine)
    (k : ∀ h' tk', Fr h₀ L h' m → News h₀ L h' news → Q (.bool x) { s with heap := h', toks := tk' }) :
    wpAny (model Challenge.rw_pd0089_01.row.prog w) (AA dp un gd (env :: outer)) (call (.ref f) vs) Q E s :=
  C.at B F N X T hf hke hdp hun fun _ h' tk' F' N' _ e => e ▸ k h' tk' F' N'
theorem Ct.atTupS {x y z : Str} (C : Ct w s₀ mg mb n f vs (RTupS x y z)) (B : Below A₀ base outer h₀) (F : Fr h₀ L s.heap m) (N : News h₀ L s.heap news) (X : (K0 w.params).In h₀)
    (T : Top V0 (looseW V0 []) (ExcName.means s₀.heap) mg mb h₀) (hf : env.frame = some L) (hke : env.scope.kind = .function)
    (hdp : dp + n < recursionLimit) (hun : un + (4 * n + 20) < cLine)
    (k : ∀ a t1 t2 t3 h' tk', Fr h₀ L h' m → News h₀ L h' ((a, tupO [.str x t1, .str y t2, .str z t3]) :: news) → (∀ p ∈ news, p.1 ≠ a) → Q (.ref a) { s with heap := h', toks := tk' }) :
    wpAny (model Challenge.rw_pd0089_01.row.prog w) (AA dp un gd (env :: outer)) (call (.ref f) vs) Q E s :=
  C.at B F N X T hf hke hdp hun fun _ h' tk' F' N' st ⟨a, t1, t2, t3, e, hs, ho⟩ => e ▸ k a t1 t2 t3 h' tk' F' (news_more F N st hs ho).1 (news_more F N st hs ho).2
theorem Ct.atTupB {x y z : Array UInt8} (C : Ct w s₀ mg mb n f vs (RTupB x y z)) (B : Below A₀ base outer h₀) (F : Fr h₀ L s.heap m) (N : News h₀ L s.heap news) (X : (K0 w.params).In h₀)
    (T : Top V0 (looseW V0 []) (ExcName.means s₀.heap) mg mb h₀) (hf : env.frame = some L) (hke : env.scope.kind = .function)
    (hdp : dp + n < recursionLimit) (hun : un + (4 * n + 20) < cLine)
    (k : ∀ a t1 t2 t3 h' tk', Fr h₀ L h' m → News h₀ L h' ((a, tupO [.bytes x t1, .bytes y t2, .bytes z t3]) :: news) → (∀ p ∈ news, p.1 ≠ a) → Q (.ref a) { s with heap := h', toks := tk' }) :
    wpAny (model Challenge.rw_pd0089_01.row.prog w) (AA dp un gd (env :: outer)) (call (.ref f) vs) Q E s :=
  C.at B F N X T hf hke hdp hun fun _ h' tk' F' N' st ⟨a, t1, t2, t3, e, hs, ho⟩ => e ▸ k a t1 t2 t3 h' tk' F' (news_more F N st hs ho).1 (news_more F N st hs ho).2
theorem Ct.atPairS {x y : Str} (C : Ct w s₀ mg mb n f vs (RPairS x y)) (B : Below A₀ base outer h₀) (F : Fr h₀ L s.heap m) (N : News h₀ L s.heap news) (X : (K0 w.params).In h₀)
    (T : Top V0 (looseW V0 []) (ExcName.means s₀.heap) mg mb h₀) (hf : env.frame = some L) (hke : env.scope.kind = .function)
    (hdp : dp + n < recursionLimit) (hun : un + (4 * n + 20) < cLine)
    (k : ∀ a t1 t2 h' tk', Fr h₀ L h' m → News h₀ L h' ((a, tupO [.str x t1, .str y t2]) :: news) → (∀ p ∈ news, p.1 ≠ a) → Q (.ref a) { s with heap := h', toks := tk' }) :
    wpAny (model Challenge.rw_pd0089_01.row.prog w) (AA dp un gd (env :: outer)) (call (.ref f) vs) Q E s :=
  C.at B F N X T hf hke hdp hun fun _ h' tk' F' N' st ⟨a, t1, t2, e, hs, ho⟩ => e ▸ k a t1 t2 h' tk' F' (news_more F N st hs ho).1 (news_more F N st hs ho).2
theorem Ct.atPairB {x y : Array UInt8} (C : Ct w s₀ mg mb n f vs (RPairB x y)) (B : Below A₀ base outer h₀) (F : Fr h₀ L s.heap m) (N : News h₀ L s.heap news) (X : (K0 w.params).In h₀)
    (T : Top V0 (looseW V0 []) (ExcName.means s₀.heap) mg mb h₀) (hf : env.frame = some L) (hke : env.scope.kind = .function)
    (hdp : dp + n < recursionLimit) (hun : un + (4 * n + 20) < cLine)
    (k : ∀ a t1 t2 h' tk', Fr h₀ L h' m → News h₀ L h' ((a, tupO [.bytes x t1, .bytes y t2]) :: news) → (∀ p ∈ news, p.1 ≠ a) → Q (.ref a) { s with heap := h', toks := tk' }) :
    wpAny (model Challenge.rw_pd0089_01.row.prog w) (AA dp un gd (env :: outer)) (call (.ref f) vs) Q E s :=
  C.at B F N X T hf hke hdp hun fun _ h' tk' F' N' st ⟨a, t1, t2, e, hs, ho⟩ => e ▸ k a t1 t2 h' tk' F' (news_more F N st hs ho).1 (news_more F N st hs ho).2
end

local macro_rules | `(tactic| cell_enter) => `(tactic| (refine' enter_def ?k1 ?k3 ?k5 ?k6 ?k7 ?k8 ?k9 ?kB ?_ ?c2 ?c3 ?c4 ?c5; (case k1 => k_asm); (case k3 => k_asm); (case k5 => k_asm); (case k6 => k_is); (case k7 => k_is); (case k8 => ktr_room); (case k9 => exact BindsTo.of_eq rfl); (case c5 => decide); (case kB => exact locs rfl); (case c2 => exact rfl); (case c3 => exact rfl); (case c4 => exact rfl); k_whole; intro L' h' F' N'; (try dsimp only); (try k_fold)))

local macro_rules | `(tactic| walk_at "eval Name") => `(tactic| (k_here; (first | (with_reducible show wpAny _ _ (eval (Expr.Name (Str.ofString "issubclass") _) _) _ _ _) | (with_reducible show wpAny _ _ (eval (Expr.Name (Str.ofString "complex") _) _) _ _ _) | (with_reducible show wpAny _ _ (eval (Expr.Name (Str.ofString "bytearray") _) _) _ _ _)); (with_reducible rename Fr _ _ _ _ => kF); k_dflt (refine' name_B kF ?k1 ?k2 ?k3 ?k4 ?k5 ?_; (case k1 => k_asm); (case k2 => k_asm); (case k3 => k_is); (case k4 => boot_by_name); (case k5 => decide); k_whole)))
local macro_rules | `(tactic| walk_at "call builtin:issubclass") => `(tactic| (k_here; (with_reducible show wpAny _ _ (call _ [Value.type _, Value.ref _]) _ _ _); k_dflt (first
  | (refine' isub_of_str ?k3 ?k4 ?_; (case k3 => k_asm); (case k4 => k_mem); k_whole; intro tk')
  | (refine' isub_of_bytes ?k3 ?k4 ?_; (case k3 => k_asm); (case k4 => k_mem); k_whole; intro tk')
  | (refine' isub_of_none ?k3 ?k4 ?_ ?k0 ?k1 ?k2; (case k3 => k_asm); (case k4 => k_mem); (case k0 => with_unfolding_all rfl); (case k1 => (rw [isSubtype_type]; kernel_rfl)); (case k2 => (rw [isSubtype_type]; kernel_rfl)); k_whole; intro tk'))))

local macro_rules | `(tactic| walk_at "call type:type") => `(tactic| ((with_reducible show wpAny _ _ (call _ [Value.bytes _ _]) _ _ _); refine call_type_of (Tx := "bytes") rfl (by decide +kernel) ?_))

section
variable {w : World} {s₀ : Shared} {mg mb : Str → Option Value}
theorem fspath_str (x : Str) (t : Tok) : Ct w s₀ mg mb 2 94 [.str x t] (RStr x) := by
  intro dp un gd base outer s Q E B X T hdp hun k
  (revert X; k_fill; intro X)
  refine wpAny_call ?_
  k_dflt cell_enter
  k_steps
  all_goals ((try dsimp only); (rename Fr _ _ _ _ => F9); exact k _ _ _ F9.keep ⟨_, rfl⟩)
theorem fspath_bytes (x : Array UInt8) (t : Tok) : Ct w s₀ mg mb 2 94 [.bytes x t] (RBytes x) := by
  intro dp un gd base outer s Q E B X T hdp hun k
  (revert X; k_fill; intro X)
  refine wpAny_call ?_
  k_dflt cell_enter
  k_steps
  all_goals ((try dsimp only); (rename Fr _ _ _ _ => F9); exact k _ _ _ F9.keep ⟨_, rfl⟩)
end
local macro_rules | `(tactic| walk_at "call ref") => `(tactic| (k_here; (with_reducible show wpAny _ _ (call (Value.ref 94) [Value.str _ _]) _ _ _); k_dflt (refine' Ct.atStr (fspath_str _ _) ?k1 ?k2 ?k3 ?k4 ?k5 ?k6 ?k7 ?k8 ?k9 ?_; (case k1 => k_asm); (case k2 => k_asm); (case k3 => k_asm); (case k4 => k_asm); (case k5 => k_asm); (case k6 => exact rfl); (case k7 => exact rfl); (case k8 => ktr_room); (case k9 => ktr_units); k_whole; intro t9 h9 tk9 F9 N9; (try dsimp only); (try k_sweep))))
local macro_rules | `(tactic| walk_at "call ref") => `(tactic| (k_here; (with_reducible show wpAny _ _ (call (Value.ref 94) [Value.bytes _ _]) _ _ _); k_dflt (refine' Ct.atBytes (fspath_bytes _ _) ?k1 ?k2 ?k3 ?k4 ?k5 ?k6 ?k7 ?k8 ?k9 ?_; (case k1 => k_asm); (case k2 => k_asm); (case k3 => k_asm); (case k4 => k_asm); (case k5 => k_asm); (case k6 => exact rfl); (case k7 => exact rfl); (case k8 => ktr_room); (case k9 => ktr_units); k_whole; intro t9 h9 tk9 F9 N9; (try dsimp only); (try k_sweep))))
section
variable {w : World} {s₀ : Shared} {mg mb : Str → Option Value}
theorem sep_str (x : Str) (t : Tok) : Ct w s₀ mg mb 2 108 [.str x t] (RStr (Str.ofString "/")) := by
  intro dp un gd base outer s Q E B X T hdp hun k
  (revert X; k_fill; intro X)
  refine wpAny_call ?_
  k_dflt cell_enter
  k_steps
  all_goals ((try dsimp only); (rename Fr _ _ _ _ => F9); exact k _ _ _ F9.keep ⟨_, rfl⟩)
theorem sep_bytes (x : Array UInt8) (t : Tok) : Ct w s₀ mg mb 2 108 [.bytes x t] (RBytes #[47]) := by
  intro dp un gd base outer s Q E B X T hdp hun k
  (revert X; k_fill; intro X)
  refine wpAny_call ?_
  k_dflt cell_enter
  k_steps
  all_goals ((try dsimp only); (rename Fr _ _ _ _ => F9); exact k _ _ _ F9.keep ⟨_, rfl⟩)
theorem normcase_str (x : Str) (t : Tok) : Ct w s₀ mg mb 4 115 [.str x t] (RStr x) := by
  intro dp un gd base outer s Q E B X T hdp hun k
  (revert X; k_fill; intro X)
  refine wpAny_call ?_
  k_dflt cell_enter
  k_steps
  all_goals ((try dsimp only); (rename Fr _ _ _ _ => F9); exact k _ _ _ F9.keep ⟨_, rfl⟩)
theorem normcase_bytes (x : Array UInt8) (t : Tok) : Ct w s₀ mg mb 4 115 [.bytes x t] (RBytes x) := by
  intro dp un gd base outer s Q E B X T hdp hun k
  (revert X; k_fill; intro X)
  refine wpAny_call ?_
  k_dflt cell_enter
  k_steps
  all_goals ((try dsimp only); (rename Fr _ _ _ _ => F9); exact k _ _ _ F9.keep ⟨_, rfl⟩)
end
local macro_rules | `(tactic| walk_at "call ref") => `(tactic| (k_here; (with_reducible show wpAny _ _ (call (Value.ref 108) [Value.str _ _]) _ _ _); k_dflt (refine' Ct.atStr (sep_str _ _) ?k1 ?k2 ?k3 ?k4 ?k5 ?k6 ?k7 ?k8 ?k9 ?_; (case k1 => k_asm); (case k2 => k_asm); (case k3 => k_asm); (case k4 => k_asm); (case k5 => k_asm); (case k6 => exact rfl); (case k7 => exact rfl); (case k8 => ktr_room); (case k9 => ktr_units); k_whole; intro t9 h9 tk9 F9 N9; (try dsimp only); (try k_sweep))))
local macro_rules | `(tactic| walk_at "call ref") => `(tactic| (k_here; (with_reducible show wpAny _ _ (call (Value.ref 108) [Value.bytes _ _]) _ _ _); k_dflt (refine' Ct.atBytes (sep_bytes _ _) ?k1 ?k2 ?k3 ?k4 ?k5 ?k6 ?k7 ?k8 ?k9 ?_; (case k1 => k_asm); (case k2 => k_asm); (case k3 => k_asm); (case k4 => k_asm); (case k5 => k_asm); (case k6 => exact rfl); (case k7 => exact rfl); (case k8 => ktr_room); (case k9 => ktr_units); k_whole; intro t9 h9 tk9 F9 N9; (try dsimp only); (try k_sweep))))
local macro_rules | `(tactic| walk_at "call ref") => `(tactic| (k_here; (with_reducible show wpAny _ _ (call (Value.ref 115) [Value.str _ _]) _ _ _); k_dflt (refine' Ct.atStr (normcase_str _ _) ?k1 ?k2 ?k3 ?k4 ?k5 ?k6 ?k7 ?k8 ?k9 ?_; (case k1 => k_asm); (case k2 => k_asm); (case k3 => k_asm); (case k4 => k_asm); (case k5 => k_asm); (case k6 => exact rfl); (case k7 => exact rfl); (case k8 => ktr_room); (case k9 => ktr_units); k_whole; intro t9 h9 tk9 F9 N9; (try dsimp only); (try k_sweep))))
local macro_rules | `(tactic| walk_at "call ref") => `(tactic| (k_here; (with_reducible show wpAny _ _ (call (Value.ref 115) [Value.bytes _ _]) _ _ _); k_dflt (refine' Ct.atBytes (normcase_bytes _ _) ?k1 ?k2 ?k3 ?k4 ?k5 ?k6 ?k7 ?k8 ?k9 ?_; (case k1 => k_asm); (case k2 => k_asm); (case k3 => k_asm); (case k4 => k_asm); (case k5 => k_asm); (case k6 => exact rfl); (case k7 => exact rfl); (case k8 => ktr_room); (case k9 => ktr_units); k_whole; intro t9 h9 tk9 F9 N9; (try dsimp only); (try k_sweep))))
section
open PySem.SeqAt
section
variable {A : Around} {s : Shared}
theorem bytes_same (b : Array UInt8) (t u : Tok) : EqAt A s (.bytes b t) (.bytes b u) true := fun prog w E Q h => by
  unfold eqBool
  refine wpAny_holding ?_
  refine wpAny_ite_split (fun hab => ?_) (fun hab => ?_)
  · exact wpAny_bind (wpAny_rule (wpAny_pure h))
  · exact wpAny_bind (eq_bytes (wpAny_truthy_bool (by simpa using h)))
theorem str_same (x : Str) (t u : Tok) : EqAt A s (.str x t) (.str x u) true := by
  have := EqAt.str_str (A := A) (s := s) x t x u
  simpa using this
theorem bool_same (b : Bool) : EqAt A s (.bool b) (.bool b) true := EqAt.same _
noncomputable def All2 (R : Value → Value → Prop) : List Value → List Value → Prop
  | [], [] => True
  | v :: vs, u :: us => R v u ∧ All2 R vs us
  | _, _ => False
theorem All2.len {R : Value → Value → Prop} : ∀ {vs us : List Value}, All2 R vs us → vs.length = us.length
  | [], [], _ => rfl
  | _ :: _, _ :: _, h => congrArg (· + 1) h.2.len
  | [], _ :: _, h => h.elim
  | _ :: _, [], h => h.elim
theorem All2.get {R : Value → Value → Prop} : ∀ {vs us : List Value}, All2 R vs us → ∀ j (h1 : j < vs.length) (h2 : j < us.length), R vs[j] us[j]
  | [], [], _, j, h1, _ => absurd h1 (Nat.not_lt_zero _)
  | _ :: _, _ :: _, h, 0, _, _ => h.1
  | _ :: _, _ :: _, h, j + 1, h1, h2 => h.2.get j (Nat.lt_of_succ_lt_succ h1) (Nat.lt_of_succ_lt_succ h2)
  | [], _ :: _, h, _, _, _ => h.elim
  | _ :: _, [], h, _, _, _ => h.elim
theorem all_true (n : Nat) : (List.range n).all (fun _ => true) = true := by simp
variable {a b : Addr} {vs us : List Value}
theorem tup_same (h1 : s.heap.IsTuple a vs.toArray) (h2 : s.heap.IsTuple b us.toArray) (hu : A.units < cLine) (h : All2 (fun v u => EqAt A.in1 s v u true) vs us) : EqAt A s (.ref a) (.ref b) true := by
  by_cases e : a = b
  · subst e; exact EqAt.same _
  · refine EqAt.of_refs e ?_
    have := RcAt.tuples (e := fun _ => true) h1 h2 hu fun j j1 j2 => by
      have := h.get j (by simpa using j1) (by simpa using j2)
      simpa [all_true] using this
    simpa [h.len, all_true] using this
theorem tup_ne (h1 : s.heap.IsTuple a vs.toArray) (h2 : s.heap.IsTuple b us.toArray) (hu : A.units < cLine) (h : All2 (fun v u => EqAt A.in1 s v u true) vs us) : RcNeAt A s (.ref a) (.ref b) false := by
  have := RcNeAt.tuples (e := fun _ => true) h1 h2 hu fun j j1 j2 => by
    have := h.get j (by simpa using j1) (by simpa using j2)
    simpa [all_true] using this
  simpa [h.len, all_true] using this
theorem list_same (h1 : s.heap.IsList a vs.toArray) (h2 : s.heap.IsList b us.toArray) (hu : A.units < cLine) (h : All2 (fun v u => EqAt A.in1 s v u true) vs us) : EqAt A s (.ref a) (.ref b) true := by
  by_cases e : a = b
  · subst e; exact EqAt.same _
  · refine EqAt.of_refs e ?_
    have := RcAt.lists (e := fun _ => true) h1 h2 (by simpa using h.len) hu fun j j1 j2 => by
      have := h.get j (by simpa using j1) (by simpa using j2)
      simpa [all_true] using this
    simpa [all_true] using this
end
section
variable {prog : Program} {w : World} {A : Around} {E : Value → Shared → Prop} {s : Shared} {Q : Value → Shared → Prop} {h₀ : Heap} {L a b : Addr} {news : List (Addr × Obj)} {vs us : List Value} {n k : Nat}
theorem led_tup (N : News h₀ L s.heap news) (hm : (a, ({ cls := .type "tuple", data := .seq vs.toArray n } : Obj)) ∈ news) : s.heap.IsTuple a vs.toArray := ⟨_, (N _ hm).1, rfl, _, rfl⟩
theorem led_lst (N : News h₀ L s.heap news) (hm : (a, ({ cls := .type "list", data := .seq vs.toArray n } : Obj)) ∈ news) : s.heap.IsList a vs.toArray := ⟨_, (N _ hm).1, rfl, _, rfl⟩
theorem ne_tup (N : News h₀ L s.heap news) (h1 : (a, ({ cls := .type "tuple", data := .seq vs.toArray n } : Obj)) ∈ news) (h2 : (b, ({ cls := .type "tuple", data := .seq us.toArray k } : Obj)) ∈ news) (hu : A.units < cLine)
    (h : All2 (fun v u => EqAt A.in1 s v u true) vs us) (hq : Q (.bool false) s) : wpAny (model prog w) A (compareOp .NotEq (.ref a) (.ref b)) Q E s :=
  tup_ne (led_tup N h1) (led_tup N h2) hu h prog w E Q hq
theorem eq_lst (N : News h₀ L s.heap news) (h1 : (a, ({ cls := .type "list", data := .seq vs.toArray n } : Obj)) ∈ news) (h2 : (b, ({ cls := .type "list", data := .seq us.toArray k } : Obj)) ∈ news) (hu : A.units < cLine)
    (h : All2 (fun v u => EqAt A.in1 s v u true) vs us) (hq : Q (.bool true) s) : wpAny (model prog w) A (compareOp .Eq (.ref a) (.ref b)) Q E s := by
  have := RcAt.lists (A := A) (e := fun _ => true) (led_lst N h1) (led_lst N h2) (by simpa using h.len) hu fun j j1 j2 => by
    have := h.get j (by simpa using j1) (by simpa using j2)
    simpa [all_true] using this
  exact this prog w E Q (by simpa [all_true] using hq)
end
end
open Builtin
/-- a text by its signs -/
noncomputable def S (l : List Nat) : Str := ⟨l.toArray⟩
theorem S_cps (l : List Nat) : (S l).cps = l.toArray := rfl
theorem S_length (l : List Nat) : (S l).length = l.length := by show l.toArray.size = _; simp
theorem S_inj {a b : List Nat} : S a = S b ↔ a = b := by
  constructor
  · intro h
    have := congrArg (fun x : Str => x.cps.toList) h
    simpa [S] using this
  · rintro rfl; rfl
theorem S_of (x : Str) : S x.cps.toList = x := by cases x; simp [S]
theorem slash_S : Str.ofString "/" = S [47] := by decide +kernel
theorem empty_S : Str.ofString "" = S [] := by decide +kernel
theorem dot_S : Str.ofString "." = S [46] := by decide +kernel
theorem dotdot_S : Str.ofString ".." = S [46, 46] := by decide +kernel

theorem slice_S (l : List Nat) (lo hi : Option Int) :
    Txt.slice (S l) lo hi = S ((l.drop (lo.elim 0 (clipAt l.length))).take (hi.elim l.length (clipAt l.length) - lo.elim 0 (clipAt l.length))) := by
  have hi' : Builtin.Str.strSliceIndices lo hi 1 (S l).length = (List.range (hi.elim l.length (clipAt l.length) - lo.elim 0 (clipAt l.length))).map (lo.elim 0 (clipAt l.length) + ·) := by
    rw [S_length]
    rw [← sliceRange_one]
    unfold Builtin.Str.strSliceIndices
    cases lo <;> cases hi <;> simp [clipAt_cast]
  unfold Txt.slice
  rw [hi']
  have hp : ((List.range (hi.elim l.length (clipAt l.length) - lo.elim 0 (clipAt l.length))).map (lo.elim 0 (clipAt l.length) + ·)).filterMap ((S l).cps[·]?) = (l.drop (lo.elim 0 (clipAt l.length))).take (hi.elim l.length (clipAt l.length) - lo.elim 0 (clipAt l.length)) := by
    rw [pick_run]; simp [S]
  split
  · rename_i h
    simp only [beq_self_eq_true, Bool.true_and, beq_iff_eq, List.length_map, List.length_range, S_length] at h
    congr 1
    have h2 : hi.elim l.length (clipAt l.length) ≤ l.length := by
      cases hi with
      | none => exact Nat.le_refl _
      | some i => have := clipAt_cast l.length i; show clipAt l.length i ≤ _; omega
    have h3 : lo.elim 0 (clipAt l.length) = 0 ∨ l.length = 0 := by omega
    rcases h3 with h3 | h3
    · rw [h3, List.drop_zero, List.take_of_length_le (by omega)]
    · have : l = [] := List.eq_nil_of_length_eq_zero h3
      subst this; simp
  · exact congrArg S hp
theorem slice_S_ns (l : List Nat) (j : Nat) : Txt.slice (S l) none (some (j : Int)) = S (l.take j) := by
  rw [slice_S]; simp only [Option.elim, clipAt_nat, List.drop_zero, Nat.sub_zero]
  congr 1
  rcases Nat.le_total j l.length with h | h
  · rw [Nat.min_eq_left h]
  · rw [Nat.min_eq_right h, List.take_of_length_le (Nat.le_refl _), List.take_of_length_le h]
theorem slice_S_sn (l : List Nat) (j : Nat) : Txt.slice (S l) (some (j : Int)) none = S (l.drop j) := by
  rw [slice_S]; simp only [Option.elim, clipAt_nat]
  congr 1
  rw [List.take_of_length_le (by simp)]
  rcases Nat.le_total j l.length with h | h
  · rw [Nat.min_eq_left h]
  · rw [Nat.min_eq_right h, List.drop_of_length_le (Nat.le_refl _), List.drop_of_length_le h]
theorem slice_S_ss (l : List Nat) (i j : Nat) : Txt.slice (S l) (some (i : Int)) (some (j : Int)) = S ((l.drop i).take (j - i)) := by
  rw [slice_S]; simp only [Option.elim, clipAt_nat]
  congr 1
  rcases Nat.le_total i l.length with h | h
  · rw [Nat.min_eq_left h]
    rcases Nat.le_total j l.length with h' | h'
    · rw [Nat.min_eq_left h']
    · rw [Nat.min_eq_right h', List.take_of_length_le (by simp), List.take_of_length_le (by simp; omega)]
  · rw [Nat.min_eq_right h, List.drop_of_length_le (Nat.le_refl _), List.drop_of_length_le h]; simp
theorem cut_B_ns (l : List UInt8) (j : Nat) : KBy.picked l.toArray none (some (j : Int)) = (l.take j).toArray := by
  rw [KBc.picked_eq]; simp only [Option.elim, clipAt_nat, List.drop_zero, Nat.sub_zero, List.size_toArray]
  congr 1
  rcases Nat.le_total j l.length with h | h
  · rw [Nat.min_eq_left h]
  · rw [Nat.min_eq_right h, List.take_of_length_le (Nat.le_refl _), List.take_of_length_le h]
theorem cut_B_sn (l : List UInt8) (j : Nat) : KBy.picked l.toArray (some (j : Int)) none = (l.drop j).toArray := by
  rw [KBc.picked_eq]; simp only [Option.elim, clipAt_nat, List.size_toArray]
  congr 1
  rw [List.take_of_length_le (by simp)]
  rcases Nat.le_total j l.length with h | h
  · rw [Nat.min_eq_left h]
  · rw [Nat.min_eq_right h, List.drop_of_length_le (Nat.le_refl _), List.drop_of_length_le h]
theorem cut_B_ss (l : List UInt8) (i j : Nat) : KBy.picked l.toArray (some (i : Int)) (some (j : Int)) = ((l.drop i).take (j - i)).toArray := by
  rw [KBc.picked_eq]; simp only [Option.elim, clipAt_nat, List.size_toArray]
  congr 1
  rcases Nat.le_total i l.length with h | h
  · rw [Nat.min_eq_left h]
    rcases Nat.le_total j l.length with h' | h'
    · rw [Nat.min_eq_left h']
    · rw [Nat.min_eq_right h', List.take_of_length_le (by simp), List.take_of_length_le (by simp; omega)]
  · rw [Nat.min_eq_right h, List.drop_of_length_le (Nat.le_refl _), List.drop_of_length_le h]; simp
section
variable {α : Type} [DecidableEq α]
noncomputable def isabsL (c : α) (l : List α) : Bool := l.head? == some c
noncomputable def endsL (c : α) (l : List α) : Bool := l.getLast? == some c
noncomputable def rootL (c : α) (l : List α) : List α := if l.take 1 ≠ [c] then [] else if (l.drop 1).take 1 ≠ [c] then [c] else if (l.drop 2).take 1 = [c] then [c] else l.take 2
noncomputable def tailL (c : α) (l : List α) : List α := if l.take 1 ≠ [c] then l else if (l.drop 1).take 1 ≠ [c] then l.drop 1 else if (l.drop 2).take 1 = [c] then l.drop 1 else l.drop 2
noncomputable def joinL (c : α) (a b : List α) : List α := if isabsL c b = true then b else if a = [] then b else if endsL c a = true then a ++ b else a ++ ([c] ++ b)
end
theorem sl_n0 (l : List Nat) : Txt.slice (S l) none (some 0) = S [] := by have := slice_S_ns l 0; simpa using this
theorem sl_n1 (l : List Nat) : Txt.slice (S l) none (some 1) = S (l.take 1) := slice_S_ns l 1
theorem sl_n2 (l : List Nat) : Txt.slice (S l) none (some 2) = S (l.take 2) := slice_S_ns l 2
theorem sl_1n (l : List Nat) : Txt.slice (S l) (some 1) none = S (l.drop 1) := slice_S_sn l 1
theorem sl_2n (l : List Nat) : Txt.slice (S l) (some 2) none = S (l.drop 2) := slice_S_sn l 2
theorem sl_12 (l : List Nat) : Txt.slice (S l) (some 1) (some 2) = S ((l.drop 1).take 1) := slice_S_ss l 1 2
theorem sl_23 (l : List Nat) : Txt.slice (S l) (some 2) (some 3) = S ((l.drop 2).take 1) := slice_S_ss l 2 3
theorem bl_n0 (l : List UInt8) : KBy.picked l.toArray none (some 0) = #[] := by have := cut_B_ns l 0; simpa using this
theorem bl_n1 (l : List UInt8) : KBy.picked l.toArray none (some 1) = (l.take 1).toArray := cut_B_ns l 1
theorem bl_n2 (l : List UInt8) : KBy.picked l.toArray none (some 2) = (l.take 2).toArray := cut_B_ns l 2
theorem bl_1n (l : List UInt8) : KBy.picked l.toArray (some 1) none = (l.drop 1).toArray := cut_B_sn l 1
theorem bl_2n (l : List UInt8) : KBy.picked l.toArray (some 2) none = (l.drop 2).toArray := cut_B_sn l 2
theorem bl_12 (l : List UInt8) : KBy.picked l.toArray (some 1) (some 2) = ((l.drop 1).take 1).toArray := cut_B_ss l 1 2
theorem bl_23 (l : List UInt8) : KBy.picked l.toArray (some 2) (some 3) = ((l.drop 2).take 1).toArray := cut_B_ss l 2 3
theorem S_bne {a b : List Nat} : (S a != S b) = decide (a ≠ b) := by
  by_cases h : a = b
  · subst h; simp
  · have : S a ≠ S b := fun e => h (S_inj.mp e)
    simp [h, this]
theorem S_beq {a b : List Nat} : (S a == S b) = decide (a = b) := by
  by_cases h : a = b
  · subst h; simp
  · have : S a ≠ S b := fun e => h (S_inj.mp e)
    simp [h, this]
theorem starts_S (l : List Nat) : Txt.startswith (S l) (Str.ofString "/") = isabsL 47 l := by
  unfold Txt.startswith isabsL
  rw [slash_S, StrLaws.subAt_eq, S_length, S_length, S_cps, S_cps]
  cases l with
  | nil => rfl
  | cons a r => simp [Bool.beq_eq_decide_eq]
theorem ends_S (l : List Nat) : Txt.endswith (S l) (Str.ofString "/") = endsL 47 l := by
  unfold Txt.endswith endsL
  rw [slash_S, StrLaws.subAt_eq, S_length, S_length, S_cps, S_cps]
  rcases List.eq_nil_or_concat l with rfl | ⟨r, a, rfl⟩
  · rfl
  · simp [Bool.beq_eq_decide_eq]
theorem window_all (n : Nat) : Bytes.window n none none = (0, (n : Int)) := by
  unfold Bytes.window
  simp only [Option.getD_none, Int.lt_irrefl, if_false]
  rw [if_neg (by omega)]
  simp
theorem fits_start (l : List UInt8) : ((fun sub : Array UInt8 => if (Bytes.window l.toArray.size none none).snd - (Bytes.window l.toArray.size none none).fst < (sub.size : Int) then false else if false = true then l.toArray.extract ((Bytes.window l.toArray.size none none).snd.toNat - sub.size) (Bytes.window l.toArray.size none none).snd.toNat == sub else l.toArray.extract (Bytes.window l.toArray.size none none).fst.toNat ((Bytes.window l.toArray.size none none).fst.toNat + sub.size) == sub) #[47]) = isabsL 47 l := by
  cases l with
  | nil => rfl
  | cons a r =>
    simp only [window_all, List.size_toArray]
    simp [isabsL]
    try omega
theorem fits_end (l : List UInt8) : ((fun sub : Array UInt8 => if (Bytes.window l.toArray.size none none).snd - (Bytes.window l.toArray.size none none).fst < (sub.size : Int) then false else if true = true then l.toArray.extract ((Bytes.window l.toArray.size none none).snd.toNat - sub.size) (Bytes.window l.toArray.size none none).snd.toNat == sub else l.toArray.extract (Bytes.window l.toArray.size none none).fst.toNat ((Bytes.window l.toArray.size none none).fst.toNat + sub.size) == sub) #[47]) = endsL 47 l := by
  rcases List.eq_nil_or_concat l with rfl | ⟨r, a, rfl⟩
  · rfl
  · simp only [window_all, List.size_toArray]
    simp [endsL]
    try omega
section
open Builtin._codecs
noncomputable def toB (l : List Nat) : List UInt8 := l.map Nat.toUInt8
theorem toB_length (l : List Nat) : (toB l).length = l.length := List.length_map _
theorem fold_bytes : ∀ (l : List Nat) (acc : Array UInt8), l.foldl (fun acc y => acc ++ (asciiCodec.bytesOf y).toArray) acc = acc ++ (toB l).toArray
  | [], acc => by simp [toB]
  | a :: r, acc => by
    rw [List.foldl_cons, fold_bytes r]
    simp [toB, asciiCodec]
theorem loop_gen {σ : Type} (f : Nat → σ → Sem (ForInStep σ)) (s0 s1 : σ) (n : Nat) (h0 : f 0 s0 = pure (.yield s1)) (h1 : ∀ k, f k s1 = pure (.done s1)) : forIn (List.range' 0 (n + 1)) s0 f = pure s1 := by
  rw [List.range'_succ, List.forIn_cons, h0]
  show (forIn (List.range' (0 + 1) n) s1 f : Sem σ) = _
  cases n with
  | zero => rfl
  | succ n =>
    rw [List.range'_succ, List.forIn_cons, h1]
    rfl
theorem narrow_ascii (self : Value) (l : List Nat) (h : ∀ c ∈ l, c < 128) (hl : l.length ≤ 17) : encodeNarrow "str.encode" asciiCodec none self (S l) = pure (toB l).toArray := by
  have hf : (S l).cps.findIdx? asciiCodec.bad = none := by
    rw [S_cps]
    simp only [List.findIdx?_toArray, List.findIdx?_eq_none_iff]
    intro c hc
    have := h c hc
    simp [asciiCodec]; omega
  unfold encodeNarrow
  simp only [Std.Legacy.Range.forIn_eq_forIn_range', Std.Legacy.Range.size]
  cases l with
  | nil => rfl
  | cons a r =>
    have e : (S (a :: r)).length = r.length + 1 := by rw [S_length]; rfl
    rw [e]
    have en : (r.length + 1 - 0 + 1 - 1) / 1 = r.length + 1 := by simp
    rw [en]
    have hb : asciiCodec.bad a = false := by have := h a (.head _); simp [asciiCodec]; omega
    have hx : (S (a :: r)).cps.extract 0 = (S (a :: r)).cps := by simp
    have hsz : (S (a :: r)).cps.size = r.length + 1 := by simp [S]
    have h1 : ¬ (toB (a :: r)).toArray.size > sizeLine := by rw [sizeLine_eq, List.size_toArray, toB_length]; omega
    refine (congrArg (fun m => m >>= _) (loop_gen _ _ ((r.length + 1), (toB (a :: r)).toArray, ({} : Faults)) r.length ?_ ?_)).trans ?_
    · have e0 : (S (a :: r)).cps[0]? = some a := by simp [S]
      have hnil : ¬ (#[] : Array UInt8).size > sizeLine := by rw [sizeLine_eq]; simp
      simp only [if_neg hnil, e0, hb, Bool.not_false, if_true, hx, hf, Option.getD_none, Nat.zero_add, hsz]
      have e3 : (S (a :: r)).cps.extract 0 (r.length + 1) = (S (a :: r)).cps := by rw [← hsz]; simp
      have hfl : List.findIdx? asciiCodec.bad (a :: r) = none := by simpa [S] using hf
      rw [e3, S_cps, List.foldl_toArray, fold_bytes]
      simp [hfl]
    · intro k
      have e1 : (S (a :: r)).cps[r.length + 1]? = none := by rw [← hsz]; simp
      simp only [if_neg h1, e1]
    · rfl
theorem normal_ascii : (normalName (Str.ofString "ascii")).toString = "ascii" := by decide +kernel
theorem meets_encode (l : List Nat) (t u : Tok) (h : ∀ c ∈ l, c < 128) (hl : l.length ≤ 17) :
    Meets («str.encode» ⟨[.str (S l) t, .str (Str.ofString "ascii") u], []⟩) (fun _ R s => ∀ v, R (.ok (.ret (.bytes (toB l).toArray v))) { s with toks := s.toks + 1 }) := by
  refine .of_wp fun prog w A R s hS => ?_
  have hr : encodeRoad "str.encode" (.str (S l) t) (S l) (Str.ofString "ascii") none = (do mkBytes (← encodeNarrow "str.encode" asciiCodec none (.str (S l) t) (S l))) := by
    unfold encodeRoad
    rw [normal_ascii]
    rfl
  rw [narrow_ascii _ l h hl] at hr
  have ha1 : (Str.ofString "ascii").cps.any (fun x => decide (x ≥ 128)) = false := by decide +kernel
  have ha2 : (Str.ofString "ascii").cps.contains 0 = false := by decide +kernel
  have hsz : (toB l).toArray.size ≤ sizeLine := by rw [sizeLine_eq, List.size_toArray, toB_length]; omega
  have hc : Builtin.Str.codecArg "str.encode" "encode" "'encoding'" (some (.str (Str.ofString "ascii") u)) = pure (some (Str.ofString "ascii")) := by
    show (if (Str.ofString "ascii").cps.any (fun x => decide (x ≥ 128)) = true then _ else if (Str.ofString "ascii").cps.contains 0 = true then _ else pure (some (Str.ofString "ascii")) : Sem (Option Str)) = _
    rw [ha1, ha2]
    rfl
  have ht : «str.encode» ⟨[.str (S l) t, .str (Str.ofString "ascii") u], []⟩ = (do
      let e ← Builtin.Str.codecArg "str.encode" "encode" "'encoding'" (some (.str (Str.ofString "ascii") u))
      ret (← encodeRoad "str.encode" (.str (S l) t) (S l) (e.getD (Str.ofString "utf-8")) none)) := by rfl
  rw [ht, hc, pure_bind, Option.getD_some, hr, pure_bind]
  refine wpAny_bind (wpAny_mkBytes ?_ hsz)
  exact wpAny_pure ⟨_, rfl, hS _⟩
section
variable {prog : Program} {w : World} {A : Around} {E : Value → Shared → Prop} {s : Shared} {Q : Value → Shared → Prop}
theorem encode_call {l : List Nat} {t u : Tok} (hl : l.length ≤ 17) (h : ∀ c ∈ l, c < 128) (hq : ∀ v k, Q (.bytes (toB l).toArray v) { s with toks := k }) : wpAny (model prog w) A (call (.builtin "str.encode") [.str (S l) t, .str (Str.ofString "ascii") u]) Q E s :=
  call_meets F.slot_str_encode (typeIs_str _ _ _) F.entry_str_encode (F.args_str_encode_2 _ _) (meets_encode l t u h hl) fun v => hq v _
end
end
theorem meets_bstart (l : List UInt8) (t u : Tok) :
    Meets («bytes.startswith» ⟨[.bytes l.toArray t, .bytes #[47] u], []⟩) (fun _ R s => R (.ok (.ret (.bool (isabsL 47 l)))) s) := by
  refine .of_wp fun prog w A R s hS => ?_
  have hT : s.TypeIs (.bytes #[47] u) "bytes" := rfl
  have h2 : isSubtype (.type "bytes") (.type "tuple") = pure false := by rw [isSubtype_type]; kernel_rfl
  unfold «bytes.startswith»
  repeat (any_goals (first | assumption | ((with_reducible show wpAny _ _ (Bytes.buffer? _ _) _ _ _); refine wpAny_of_eq (KBy.buffer_eq (b := #[47]) (t := u)) ?_) | (with_reducible (first | refine wpAny_pure ?_ | refine wpAny_bind ?_ | refine wpAny_rule ?_ | refine wpAny_of_eq (by assumption) ?_ | refine wpAny_typeOf (by assumption) ?_ | refine wpAny_isInstance_val (by assumption) (by assumption) ?_ | refine wpAny_isInstance (by assumption) (by assumption) ?_)) | ((with_reducible apply wpAny_ite_false); focus (rfl; done)) | ((with_reducible apply wpAny_ite_true); focus (rfl; done)) | wp_delta | wp_step))
  rw [fits_start]
  exact ⟨_, rfl, hS⟩
theorem meets_bend (l : List UInt8) (t u : Tok) :
    Meets («bytes.endswith» ⟨[.bytes l.toArray t, .bytes #[47] u], []⟩) (fun _ R s => R (.ok (.ret (.bool (endsL 47 l)))) s) := by
  refine .of_wp fun prog w A R s hS => ?_
  have hT : s.TypeIs (.bytes #[47] u) "bytes" := rfl
  have h2 : isSubtype (.type "bytes") (.type "tuple") = pure false := by rw [isSubtype_type]; kernel_rfl
  unfold «bytes.endswith»
  repeat (any_goals (first | assumption | ((with_reducible show wpAny _ _ (Bytes.buffer? _ _) _ _ _); refine wpAny_of_eq (KBy.buffer_eq (b := #[47]) (t := u)) ?_) | (with_reducible (first | refine wpAny_pure ?_ | refine wpAny_bind ?_ | refine wpAny_rule ?_ | refine wpAny_of_eq (by assumption) ?_ | refine wpAny_typeOf (by assumption) ?_ | refine wpAny_isInstance_val (by assumption) (by assumption) ?_ | refine wpAny_isInstance (by assumption) (by assumption) ?_)) | ((with_reducible apply wpAny_ite_false); focus (rfl; done)) | ((with_reducible apply wpAny_ite_true); focus (rfl; done)) | wp_delta | wp_step))
  rw [fits_end]
  exact ⟨_, rfl, hS⟩
section
variable {prog : Program} {w : World} {A : Around} {E : Value → Shared → Prop} {s : Shared} {Q : Value → Shared → Prop}
theorem bstart {l : List UInt8} {t u : Tok} (h : Q (.bool (isabsL 47 l)) s) : wpAny (model prog w) A (call (.builtin "bytes.startswith") [.bytes l.toArray t, .bytes #[47] u]) Q E s :=
  call_meets FB.slot_bytes_startswith (typeIs_bytes _ _ _) FB.entry_bytes_startswith (FB.args_bytes_startswith_2 _ _) (meets_bstart l t u) h
theorem bend {l : List UInt8} {t u : Tok} (h : Q (.bool (endsL 47 l)) s) : wpAny (model prog w) A (call (.builtin "bytes.endswith") [.bytes l.toArray t, .bytes #[47] u]) Q E s :=
  call_meets FB.slot_bytes_endswith (typeIs_bytes _ _ _) FB.entry_bytes_endswith (FB.args_bytes_endswith_2 _ _) (meets_bend l t u) h
theorem bstart_m {M : Model} {b : Array UInt8} {t : Tok} {pl : Sem Bool} {Q : Value × List Value → Shared → Prop} (h : Q (.builtin "bytes.startswith", [.bytes b t]) s) : wpAny M A (getMethod (.bytes b t) "startswith" pl) Q E s := by
  with_reducible exact KBd.method_of (.bytes b t) (typeIs_bytes _ _ _) FB.slot_bytes_startswith FB.type_bytes_startswith KBd.noRef h
theorem bend_m {M : Model} {b : Array UInt8} {t : Tok} {pl : Sem Bool} {Q : Value × List Value → Shared → Prop} (h : Q (.builtin "bytes.endswith", [.bytes b t]) s) : wpAny M A (getMethod (.bytes b t) "endswith" pl) Q E s := by
  with_reducible exact KBd.method_of (.bytes b t) (typeIs_bytes _ _ _) FB.slot_bytes_endswith FB.type_bytes_endswith KBd.noRef h
end
local macro_rules | `(tactic| walk_at "getMethod bytes") => `(tactic| (k_here; (first | (with_reducible refine bstart_m ?_) | (with_reducible refine bend_m ?_))))
local macro_rules | `(tactic| walk_at "call builtin:bytes.startswith") => `(tactic| (k_here; k_dflt (refine bstart ?_)))
local macro_rules | `(tactic| walk_at "call builtin:bytes.endswith") => `(tactic| (k_here; k_dflt (refine bend ?_)))
local macro_rules | `(tactic| walk_at "subscriptTail") => `(tactic| (k_here; (with_reducible show wpAny _ _ (subscriptTail _ (Expr.Slice _ _ none _) (Value.bytes (List.toArray _) _) (Value.ref _)) _ _ _); (with_reducible rename Fr _ _ _ _ => F'); (with_reducible rename News _ _ _ _ => N'); (refine KBc.slice_K (s := ⟨_, _, _, _, _⟩) F' N' rfl (by constructor) (by constructor) (by (simp only [KBw.ints_length, List.size_toArray]; omega)) ?_); intro _ _ _ _ _ kbcK; clear kbcK))
section
variable {w : World} {s₀ : Shared} {mg mb : Str → Option Value}
theorem isabs_str (l : List Nat) (t : Tok) (hx : (S l).length ≤ 4096) : Ct w s₀ mg mb 5 122 [.str (S l) t] (RBool (isabsL 47 l)) := by
  intro dp un gd base outer s Q E B X T hdp hun k
  (revert X; k_fill; intro X)
  refine wpAny_call ?_
  k_dflt cell_enter
  k_steps
  all_goals ((try dsimp only); (try k_unfold); (try dsimp only); (rename Fr _ _ _ _ => F9); (try rw [starts_S]); exact k _ _ _ F9.keep rfl)
theorem isabs_bytes (l : List UInt8) (t : Tok) (hx : l.length ≤ 4096) : Ct w s₀ mg mb 5 122 [.bytes l.toArray t] (RBool (isabsL 47 l)) := by
  intro dp un gd base outer s Q E B X T hdp hun k
  (revert X; k_fill; intro X)
  refine wpAny_call ?_
  k_dflt cell_enter
  k_steps
  all_goals ((try dsimp only); (try k_unfold); (try dsimp only); (rename Fr _ _ _ _ => F9); exact k _ _ _ F9.keep rfl)
theorem splitdrive_str (l : List Nat) (t : Tok) (hx : (S l).length ≤ 4096) : Ct w s₀ mg mb 5 143 [.str (S l) t] (RPairS (S []) (S l)) := by
  intro dp un gd base outer s Q E B X T hdp hun k
  (revert X; k_fill; intro X)
  refine wpAny_call ?_
  k_dflt cell_enter
  k_steps
  all_goals ((try dsimp only); (try k_unfold); (try dsimp only); (rename Fr _ _ _ _ => F9); (rename News _ _ _ _ => N9); exact k _ _ _ F9.keep ⟨_, _, _, rfl, (N9 _ (.head _)).2.2, ((N9 _ (.head _)).1.trans (by rw [sl_n0]))⟩)
theorem splitdrive_bytes (l : List UInt8) (t : Tok) (hx : l.length ≤ 4096) : Ct w s₀ mg mb 5 143 [.bytes l.toArray t] (RPairB #[] l.toArray) := by
  intro dp un gd base outer s Q E B X T hdp hun k
  (revert X; k_fill; intro X)
  refine wpAny_call ?_
  k_dflt cell_enter
  k_steps
  all_goals ((try dsimp only); (try k_unfold); (try dsimp only); (rename Fr _ _ _ _ => F9); (rename News _ _ _ _ => N9); exact k _ _ _ F9.keep ⟨_, _, _, rfl, (N9 _ (.head _)).2.2, ((N9 _ (.head _)).1.trans (by rw [bl_n0]))⟩)
end
section
variable {α : Type} [DecidableEq α] {c : α} {l : List α}
theorem root_a (h1 : l.take 1 ≠ [c]) : rootL c l = [] ∧ tailL c l = l := by simp [rootL, tailL, h1]
theorem root_b (h1 : ¬ l.take 1 ≠ [c]) (h2 : (l.drop 1).take 1 ≠ [c]) : rootL c l = [c] ∧ tailL c l = l.drop 1 := by
  unfold rootL tailL; rw [if_neg h1, if_neg h1, if_pos h2, if_pos h2]; exact ⟨rfl, rfl⟩
theorem root_c (h1 : ¬ l.take 1 ≠ [c]) (h2 : ¬ (l.drop 1).take 1 ≠ [c]) (h3 : (l.drop 2).take 1 = [c]) : rootL c l = [c] ∧ tailL c l = l.drop 1 := by
  unfold rootL tailL; rw [if_neg h1, if_neg h1, if_neg h2, if_neg h2, if_pos h3, if_pos h3]; exact ⟨rfl, rfl⟩
theorem root_d (h1 : ¬ l.take 1 ≠ [c]) (h2 : ¬ (l.drop 1).take 1 ≠ [c]) (h3 : ¬ (l.drop 2).take 1 = [c]) : rootL c l = l.take 2 ∧ tailL c l = l.drop 2 := by
  unfold rootL tailL; rw [if_neg h1, if_neg h1, if_neg h2, if_neg h2, if_neg h3, if_neg h3]; exact ⟨rfl, rfl⟩
end
section
variable {l : List Nat}
theorem sc1 (h : (Txt.slice (S l) none (some 1) != Str.ofString "/") = true) : l.take 1 ≠ [47] := by rw [sl_n1, slash_S, S_bne] at h; simpa using h
theorem sc1' (h : (Txt.slice (S l) none (some 1) != Str.ofString "/") = false) : ¬ l.take 1 ≠ [47] := by rw [sl_n1, slash_S, S_bne] at h; simpa using h
theorem sc2 (h : (Txt.slice (S l) (some 1) (some 2) != Str.ofString "/") = true) : (l.drop 1).take 1 ≠ [47] := by rw [sl_12, slash_S, S_bne] at h; simpa using h
theorem sc2' (h : (Txt.slice (S l) (some 1) (some 2) != Str.ofString "/") = false) : ¬ (l.drop 1).take 1 ≠ [47] := by rw [sl_12, slash_S, S_bne] at h; simpa using h
theorem sc3 (h : (Txt.slice (S l) (some 2) (some 3) == Str.ofString "/") = true) : (l.drop 2).take 1 = [47] := by rw [sl_23, slash_S, S_beq] at h; simpa using h
theorem sc3' (h : (Txt.slice (S l) (some 2) (some 3) == Str.ofString "/") = false) : ¬ (l.drop 2).take 1 = [47] := by rw [sl_23, slash_S, S_beq] at h; simpa using h
end
section
variable {l : List UInt8}
theorem bc1 (h : ((KBy.picked l.toArray none (some 1)).toList != (#[47] : Array UInt8).toList) = true) : l.take 1 ≠ [47] := by rw [bl_n1] at h; simpa using h
theorem bc1' (h : ((KBy.picked l.toArray none (some 1)).toList != (#[47] : Array UInt8).toList) = false) : ¬ l.take 1 ≠ [47] := by rw [bl_n1] at h; simpa using h
theorem bc2 (h : ((KBy.picked l.toArray (some 1) (some 2)).toList != (#[47] : Array UInt8).toList) = true) : (l.drop 1).take 1 ≠ [47] := by rw [bl_12] at h; simpa using h
theorem bc2' (h : ((KBy.picked l.toArray (some 1) (some 2)).toList != (#[47] : Array UInt8).toList) = false) : ¬ (l.drop 1).take 1 ≠ [47] := by rw [bl_12] at h; simpa using h
theorem bc3 (h : ((KBy.picked l.toArray (some 2) (some 3)).toList == (#[47] : Array UInt8).toList) = true) : (l.drop 2).take 1 = [47] := by rw [bl_23] at h; simpa using h
theorem bc3' (h : ((KBy.picked l.toArray (some 2) (some 3)).toList == (#[47] : Array UInt8).toList) = false) : ¬ (l.drop 2).take 1 = [47] := by rw [bl_23] at h; simpa using h
end
section
variable {w : World} {s₀ : Shared} {mg mb : Str → Option Value}
theorem splitroot_str (l : List Nat) (t : Tok) (hx : (S l).length ≤ 4096) : Ct w s₀ mg mb 5 150 [.str (S l) t] (RTupS (S []) (S (rootL 47 l)) (S (tailL 47 l))) := by
  intro dp un gd base outer s Q E B X T hdp hun k
  (revert X; k_fill; intro X)
  refine wpAny_call ?_
  k_dflt cell_enter
  k_steps
  all_goals ((try dsimp only); (try k_unfold); (try dsimp only); (rename Fr _ _ _ _ => F9); (rename News _ _ _ _ => N9))
  · have hr := root_a (sc1 (by with_reducible assumption))
    exact k _ _ _ F9.keep ⟨_, _, _, _, rfl, (N9 _ (.head _)).2.2, ((N9 _ (.head _)).1.trans (by rw [hr.1, hr.2, empty_S]))⟩
  · have hr := root_b (sc1' (by with_reducible assumption)) (sc2 (by with_reducible assumption))
    exact k _ _ _ F9.keep ⟨_, _, _, _, rfl, (N9 _ (.head _)).2.2, ((N9 _ (.head _)).1.trans (by rw [hr.1, hr.2, empty_S, slash_S, sl_1n]))⟩
  · have hr := root_c (sc1' (by with_reducible assumption)) (sc2' (by with_reducible assumption)) (sc3 (by with_reducible assumption))
    exact k _ _ _ F9.keep ⟨_, _, _, _, rfl, (N9 _ (.head _)).2.2, ((N9 _ (.head _)).1.trans (by rw [hr.1, hr.2, empty_S, slash_S, sl_1n]))⟩
  · have hr := root_d (sc1' (by with_reducible assumption)) (sc2' (by with_reducible assumption)) (sc3' (by with_reducible assumption))
    exact k _ _ _ F9.keep ⟨_, _, _, _, rfl, (N9 _ (.head _)).2.2, ((N9 _ (.head _)).1.trans (by rw [hr.1, hr.2, empty_S, sl_2n, sl_n2]))⟩
theorem splitroot_bytes (l : List UInt8) (t : Tok) (hx : l.length ≤ 4096) : Ct w s₀ mg mb 5 150 [.bytes l.toArray t] (RTupB #[] (rootL 47 l).toArray (tailL 47 l).toArray) := by
  intro dp un gd base outer s Q E B X T hdp hun k
  (revert X; k_fill; intro X)
  refine wpAny_call ?_
  k_dflt cell_enter
  k_steps
  all_goals ((try dsimp only); (try k_unfold); (try dsimp only); (rename Fr _ _ _ _ => F9); (rename News _ _ _ _ => N9))
  · have hr := root_a (bc1 (by with_reducible assumption))
    exact k _ _ _ F9.keep ⟨_, _, _, _, rfl, (N9 _ (.head _)).2.2, ((N9 _ (.head _)).1.trans (by rw [hr.1, hr.2]))⟩
  · have hr := root_b (bc1' (by with_reducible assumption)) (bc2 (by with_reducible assumption))
    exact k _ _ _ F9.keep ⟨_, _, _, _, rfl, (N9 _ (.head _)).2.2, ((N9 _ (.head _)).1.trans (by rw [hr.1, hr.2, bl_1n]))⟩
  · have hr := root_c (bc1' (by with_reducible assumption)) (bc2' (by with_reducible assumption)) (bc3 (by with_reducible assumption))
    exact k _ _ _ F9.keep ⟨_, _, _, _, rfl, (N9 _ (.head _)).2.2, ((N9 _ (.head _)).1.trans (by rw [hr.1, hr.2, bl_1n]))⟩
  · have hr := root_d (bc1' (by with_reducible assumption)) (bc2' (by with_reducible assumption)) (bc3' (by with_reducible assumption))
    exact k _ _ _ F9.keep ⟨_, _, _, _, rfl, (N9 _ (.head _)).2.2, ((N9 _ (.head _)).1.trans (by rw [hr.1, hr.2, bl_2n, bl_n2]))⟩
end
theorem wp_peek1 {α : Type} {K : Frag} {M : Model} {A : Around} {E : Value → Shared → Prop} {Q : α → Shared → Prop} {s : Shared} {o : Obj} {r : Addr → α}
    (X : K.In s.heap) (q : Q (r s.heap.objs.size) { s with heap := s.heap.push o }) :
    ∀ (t : Sem α) (g : Addr → Option α), peek1 K ⟨M.prog, M.w.params⟩ t = some (o, g) → (∀ D, g D = some (r D)) → wpAny M A t Q E s := by
  intro t
  induction t with
  | rule _ k ih => intro g e hg Γ p hΓ; exact ih () g e hg Γ p hΓ
  | point _ k ih => intro g e hg Γ p hΓ; exact ih () g e hg Γ p hΓ
  | ask k ih => intro g e hg Γ p hΓ; exact ih _ g e hg Γ p hΓ
  | load a _ k ih =>
    intro g e hg Γ p hΓ
    simp only [peek1] at e
    split at e
    · rename_i ob ho; exact ⟨ob, X _ _ ho, ih ob g e hg Γ p hΓ⟩
    · cases e
  | alloc ob k _ =>
    intro g e hg
    have e : some (ob, fun D => peek K ⟨M.prog, M.w.params⟩ (k D)) = some (o, g) := e
    obtain ⟨e1, e2⟩ := Prod.mk.inj (Option.some.inj e)
    subst e1
    subst e2
    have X' : K.In (s.heap.push ob) := X.keeps fun b x hb => Heap.get?_push_of_some _ hb
    show wpAny M A (alloc ob >>= k) Q E s
    refine wpAny_bind (wpAny_alloc ?_)
    exact (Looks.of_peek (M := M) (h := s.heap.push ob) X' (hg s.heap.objs.size)).here (s := { s with heap := s.heap.push ob }) q
  | _ => intro g e; cases e

theorem enter_rest {prog : Program} {w : World} {A : Around} {base : Heap} {outer : List Env} {s : Shared} {K : Frag} {p : Program} {loose : List Str} {mean : ExcName → Option Value} {mg mb : Str → Option Value}
    {R : Result → Shared → Prop} {name qual : Str} {params : Arguments} {body : List Stmt} {scope : Scope} {dV kV doc pm cdv ct oc : Value} {an od : Option Addr} {osl : Array (Option Value)} {f : Addr} {args : Args} {vs : List Value} {g₁ : Addr → Option (List (Str × Value))} {binds : Addr → List (Str × Value)}
    (B : Below A base outer s.heap) (X : K.In s.heap) (T : Top p loose mean mg mb s.heap)
    (ho : K.lookup f = some ⟨oc, od, .func (fnOf name qual params body scope dV kV doc pm an cdv ct), osl⟩) (hcd : codeIn K cdv qual = true) (hroom : A.depth < recursionLimit)
    (hv : args.pos.drop (params.posonlyargs.length + params.args.length) = vs)
    (hp : peek1 K ⟨prog, w.params⟩ (bindArgs (fnOf name qual params body scope dV kV doc pm an cdv ct) args) = some (({ cls := .type "tuple", data := .seq vs.toArray } : Obj), g₁))
    (hg : ∀ D, g₁ D = some (binds D)) (hloc : ∀ D, ∀ y ∈ binds D, scope.names.lookup y.1 = some .local)
    (h : ∀ D L' h₁, Fr s.heap L' h₁ (fun y => (binds D).reverse.lookup y) → News s.heap L' h₁ [(D, ({ cls := .type "tuple", data := .seq vs.toArray } : Obj))] →
      wpAny (model prog w) (A.deeper (envOf qual scope L' f cdv)) (execs body (envOf qual scope L' f cdv))
        (fun fl s' => R (.ok (.ret (match fl with | .ret v => v | _ => .none))) s')
        (fun e s' => wpAny (model prog w) (A.deeper (envOf qual scope L' f cdv)) (leaving (envOf qual scope L' f cdv) e) (fun _ s'' => R (.error e) s'') (fun e' s'' => R (.error e') s'') s')
        { s with heap := h₁, toks := s.toks + (binds D).length })
    (hco : scope.isCoroutine = false) (hgen : scope.isGenerator = false) (hk : scope.kind = .function)
    (hcell : ∀ x ∈ scope.names, x.2 ≠ .cell) : codeAny (model prog w) A (.call (.ref f) args) R s := by
  have _ := hv
  refine codeAny_call_function (fd := fnOf name qual params body scope dV kV doc pm an cdv ct) (body := body) hroom (X _ _ ho) rfl hco hgen rfl (codeRec_of X hcd) ?_
  refine wp_peek1 (o := ({ cls := .type "tuple", data := .seq vs.toArray } : Obj)) X (r := binds) ?_ _ g₁ hp hg
  have hlim : (s.heap.push ({ cls := .type "tuple", data := .seq vs.toArray } : Obj)).NoLimit := T.nolimit.keeps fun b o e => Heap.get?_push_of_some _ e
  refine wpAny_newFunctionEnv hcell (hloc _) (fun h₀ hns₀ hsb₀ => ⟨hlim.fresh _ hsb₀, codeAny_func ?_⟩) hk
  have hk₁ : ∀ b o, (s.heap.push ({ cls := .type "tuple", data := .seq vs.toArray } : Obj)).get? b = some o → h₀.get? b = some o :=
    fun b o e => hsb₀.extBut b o (Nat.ne_of_lt (Heap.lt_size e)) (Heap.get?_push_of_some _ e)
  have hsz : (s.heap.push ({ cls := .type "tuple", data := .seq vs.toArray } : Obj)).objs.size = s.heap.objs.size + 1 := Heap.size_push _ _
  refine h s.heap.objs.size _ h₀ ⟨hns₀, fun b o e => hk₁ b o (Heap.get?_push_of_some _ e), ?_⟩ (fun q hq => ?_)
  · show s.heap.objs.size ≤ (s.heap.push _).objs.size
    rw [hsz]; exact Nat.le_succ _
  · rw [List.mem_singleton] at hq
    subst hq
    refine ⟨hk₁ _ _ (Heap.get?_push_size _ rfl), ?_, ?_⟩
    · show s.heap.objs.size ≠ (s.heap.push _).objs.size
      rw [hsz]; exact Nat.ne_of_lt (Nat.lt_succ_self _)
    · show s.heap.get? s.heap.objs.size = none
      cases q : s.heap.get? s.heap.objs.size with
      | none => rfl
      | some o => exact absurd (Heap.lt_size q) (Nat.lt_irrefl _)
local macro_rules | `(tactic| cell_enter) => `(tactic| (refine' enter_rest ?k1 ?k3 ?k5 ?k6 ?k7 ?k8 ?kV ?kP ?kG ?kB ?_ ?c2 ?c3 ?c4 ?c5; (case k1 => k_asm); (case k3 => k_asm); (case k5 => k_asm); (case k6 => k_is); (case k7 => k_is); (case k8 => ktr_room); (case kV => kl_lit); (case kP => exact rfl); (case kG => exact fun _ => rfl); (case c5 => decide); (case kB => exact fun _ => locs rfl); (case c2 => exact rfl); (case c3 => exact rfl); (case c4 => exact rfl); k_whole; intro D' L' h' F' N'; (try dsimp only); (try k_fold)))
section
variable {prog : Program} {w : World} {A : Around} {E : Value → Shared → Prop} {s : Shared} {Q : Value → Shared → Prop} {b c : List UInt8} {t u : Tok}
theorem badd (hsz : b.length + c.length ≤ 16777216) (h : ∀ t' k, Q (.bytes (b ++ c).toArray t') { s with toks := k }) : wpAny (model prog w) A (binaryOp .Add (.bytes b.toArray t) (.bytes c.toArray u)) Q E s :=
  KBy.add_bytes (by simpa using hsz) fun t' k => by rw [List.append_toArray]; exact h t' k
theorem noI_bytes_add : typeLookup (.type "bytes") (dunderI "add") = pure none := by rw [typeLookup_type, builtinLookup_eq_fast]; kernel_rfl
theorem biadd (hsz : b.length + c.length ≤ 16777216) (h : ∀ t' k, Q (.bytes (b ++ c).toArray t') { s with toks := k }) : wpAny (model prog w) A (inplaceOp .Add (.bytes b.toArray t) (.bytes c.toArray u)) Q E s := by
  have hsz' : b.toArray.size + c.toArray.size ≤ 16777216 := by simpa using hsz
  refine iconcat_gives (typeIs_bytes s _ t) (typeIs_bytes s _ u) noI_bytes_add KBy.noFill_bytes_add KBy.seq_bytes_add FB.slot_bytes_add FB.entry_bytes_add (FB.args_bytes_add_2 _ _) (KBy.gives_bytes_add (KBy.tooLong_not hsz')) ?_
  by_cases hb : b.toArray.isEmpty = true
  · rw [if_pos hb]
    have e : b = [] := by simpa using hb
    have h' := h u s.toks
    rw [e, List.nil_append] at h'
    exact h'
  · rw [if_neg hb]
    by_cases hc : c.toArray.isEmpty = true
    · rw [if_pos hc]
      have e : c = [] := by simpa using hc
      have h' := h t s.toks
      rw [e, List.append_nil] at h'
      exact h'
    · rw [if_neg hc]
      have h' := h s.toks (s.toks + 1)
      rw [← List.append_toArray] at h'
      exact ⟨by rw [Array.size_append, sizeLine_eq]; exact hsz', h'⟩
end
local macro_rules | `(tactic| walk_at "binaryOp Add bytes bytes") => `(tactic| (k_here; (with_reducible show wpAny _ _ (binaryOp Operator.Add (Value.bytes (List.toArray _) _) (Value.bytes (List.toArray _) _)) _ _ _); (refine badd (by ((try simp only [List.length_cons, List.length_nil, List.length_append]); omega)) ?_); intro _ _))
local macro_rules | `(tactic| walk_at "inplaceOp Add bytes bytes") => `(tactic| (k_here; (with_reducible show wpAny _ _ (inplaceOp Operator.Add (Value.bytes (List.toArray _) _) (Value.bytes (List.toArray _) _)) _ _ _); (refine biadd (by ((try simp only [List.length_cons, List.length_nil, List.length_append]); omega)) ?_); intro _ _))
theorem S_append (a b : List Nat) : S a ++ S b = S (a ++ b) := by
  show (⟨_ ++ _⟩ : Str) = _
  simp [S]
section
variable {l r : List Nat}
theorem js1 (h : Txt.startswith (S r) (Str.ofString "/") = true) : joinL 47 l r = r := by rw [starts_S] at h; simp [joinL, h]
theorem js2 (h : Txt.startswith (S r) (Str.ofString "/") = false) (h2 : ((S l).length : Int) ≠ 0) (h3 : Txt.endswith (S l) (Str.ofString "/") = true) : joinL 47 l r = l ++ r := by
  rw [starts_S] at h; rw [ends_S] at h3; rw [S_length] at h2
  have h4 : l ≠ [] := by rintro rfl; simp at h2
  simp [joinL, h, h3, h4]
theorem js3 (h : Txt.startswith (S r) (Str.ofString "/") = false) (h2 : ((S l).length : Int) ≠ 0) (h3 : Txt.endswith (S l) (Str.ofString "/") = false) : joinL 47 l r = l ++ ([47] ++ r) := by
  rw [starts_S] at h; rw [ends_S] at h3; rw [S_length] at h2
  have h4 : l ≠ [] := by rintro rfl; simp at h2
  simp [joinL, h, h3, h4]
theorem js4 (h : Txt.startswith (S r) (Str.ofString "/") = false) (h2 : ((S l).length : Int) = 0) : joinL 47 l r = r := by
  rw [starts_S] at h; rw [S_length] at h2
  have h4 : l = [] := List.eq_nil_of_length_eq_zero (by omega)
  simp [joinL, h, h4]
end
section
variable {l r : List UInt8}
theorem jb1 (h : isabsL 47 r = true) : joinL 47 l r = r := by simp [joinL, h]
theorem jb2 (h : isabsL 47 r = false) (h2 : (l.toArray.size : Int) ≠ 0) (h3 : endsL 47 l = true) : joinL 47 l r = l ++ r := by
  have h4 : l ≠ [] := by rintro rfl; simp at h2
  simp [joinL, h, h3, h4]
theorem jb3 (h : isabsL 47 r = false) (h2 : (l.toArray.size : Int) ≠ 0) (h3 : endsL 47 l = false) : joinL 47 l r = l ++ ([47] ++ r) := by
  have h4 : l ≠ [] := by rintro rfl; simp at h2
  simp [joinL, h, h3, h4]
theorem jb4 (h : isabsL 47 r = false) (h2 : (l.toArray.size : Int) = 0) : joinL 47 l r = r := by
  have h4 : l = [] := List.eq_nil_of_length_eq_zero (by simp at h2; simp [h2])
  simp [joinL, h, h4]
end
section
variable {w : World} {s₀ : Shared} {mg mb : Str → Option Value}
theorem join_str (l r : List Nat) (t u : Tok) (hx : (S l).length ≤ 4096) (hy : (S r).length ≤ 4096) : Ct w s₀ mg mb 5 129 [.str (S l) t, .str (S r) u] (RStr (S (joinL 47 l r))) := by
  intro dp un gd base outer s Q E B X T hdp hun k
  (revert X; k_fill; intro X)
  refine wpAny_call ?_
  k_dflt cell_enter
  k_steps
  all_goals ((try dsimp only); (try k_unfold); (try dsimp only); (rename Fr _ _ _ _ => F9))
  · exact k _ _ _ F9.keep ⟨_, by rw [js1 (by with_reducible assumption)]⟩
  · exact k _ _ _ F9.keep ⟨_, by rw [js2 (by with_reducible assumption) (by with_reducible assumption) (by with_reducible assumption), S_append]⟩
  · exact k _ _ _ F9.keep ⟨_, by rw [js3 (by with_reducible assumption) (by with_reducible assumption) (by with_reducible assumption), slash_S, S_append, S_append]⟩
  · exact k _ _ _ F9.keep ⟨_, by rw [js4 (by with_reducible assumption) (by with_reducible assumption)]⟩
theorem join_bytes (l r : List UInt8) (t u : Tok) (hx : l.length ≤ 4096) (hy : r.length ≤ 4096) : Ct w s₀ mg mb 5 129 [.bytes l.toArray t, .bytes r.toArray u] (RBytes (joinL 47 l r).toArray) := by
  intro dp un gd base outer s Q E B X T hdp hun k
  (revert X; k_fill; intro X)
  refine wpAny_call ?_
  k_dflt cell_enter
  k_steps
  all_goals ((try dsimp only); (try k_unfold); (try dsimp only); (rename Fr _ _ _ _ => F9))
  · exact k _ _ _ F9.keep ⟨_, by rw [jb1 (by with_reducible assumption)]⟩
  · exact k _ _ _ F9.keep ⟨_, by rw [jb2 (by with_reducible assumption) (by with_reducible assumption) (by with_reducible assumption)]⟩
  · exact k _ _ _ F9.keep ⟨_, by rw [jb3 (by with_reducible assumption) (by with_reducible assumption) (by with_reducible assumption)]⟩
  · exact k _ _ _ F9.keep ⟨_, by rw [jb4 (by with_reducible assumption) (by with_reducible assumption)]⟩
end
section
variable {prog : Program} {w : World} {A : Around} {E : Value → Shared → Prop} {s : Shared} {env : Env} {test : PySem.Expr} {body orelse : List Stmt} {Q : Flow → Shared → Prop}
/-- a turn's end: the word holds again, its measure lower -/
noncomputable def WEnd (h₀ : Heap) (L : Addr) (J : Nat → (Str → Option Value) → List (Addr × Obj) → Prop) (n : Nat) (s : Shared) (s₂ : Shared) : Prop :=
  ∃ n' h' tk' m' news', n' < n ∧ s₂ = { s with heap := h', toks := tk' } ∧ Fr h₀ L h' m' ∧ News h₀ L h' news' ∧ J n' m' news'
noncomputable def WPost (h₀ : Heap) (L : Addr) (J : Nat → (Str → Option Value) → List (Addr × Obj) → Prop) (n : Nat) (s : Shared) (Q : Flow → Shared → Prop) (f : Flow) (s₂ : Shared) : Prop :=
  match f with
  | .ret v => Q (.ret v) s₂
  | .brk => Q .next s₂
  | _ => WEnd h₀ L J n s s₂
theorem while_fr {h₀ : Heap} {L : Addr} {m₀ : Str → Option Value} {news₀ : List (Addr × Obj)} {pos : Pos} (F : Fr h₀ L s.heap m₀) (N : News h₀ L s.heap news₀)
    (J₀ : (Str → Option Value) → List (Addr × Obj) → Nat → (Str → Option Value) → List (Addr × Obj) → Prop) (n : Nat) (hj : J₀ m₀ news₀ n m₀ news₀)
    (step : ∀ n m news h tk, J₀ m₀ news₀ n m news → Fr h₀ L h m → News h₀ L h news →
      wpAny (model prog w) A (isTrue test env (eval test env)) (fun b s₂ => if b = true then wpAny (model prog w) A (execs body env) (WPost h₀ L (J₀ m₀ news₀) n s Q) (fun _ _ => False) s₂ else wpAny (model prog w) A (execs orelse env) Q (fun _ _ => False) s₂) (fun _ _ => False) { s with heap := h, toks := tk }) :
    wpAny (model prog w) A (exec (.While test body orelse pos) env) Q E s := by
  revert hj step
  generalize hJ₀ : J₀ m₀ news₀ = J
  intro hj step
  have key : ∀ N n m news h tk, n < N → J n m news → Fr h₀ L h m → News h₀ L h news → WhlRest prog w A (fun _ _ => False) env test body orelse Q 0 { s with heap := h, toks := tk } := by
    intro N
    induction N with
    | zero => intro n m news h tk hn; exact absurd hn (Nat.not_lt_zero _)
    | succ N ih =>
      intro n m news h tk hn hJ F N'
      refine whl_turn (k := 0) PassesOwn.never (wpAny_mono (step n m news h tk hJ F N') (fun b s₂ hb => ?_) fun _ _ e => e)
      cases b with
      | false => exact WhlIf.no rfl (by simpa using hb)
      | true =>
        refine WhlIf.yes rfl (wpAny_mono (by simpa using hb) (fun f s₃ hp => ?_) fun _ _ e => e)
        have fin : WEnd h₀ L J n s s₃ → WhlRest prog w A (fun _ _ => False) env test body orelse Q 0 s₃ := by
          rintro ⟨n', h', tk', m', news', hlt, rfl, F', N'', hJ'⟩
          exact ih n' m' news' h' tk' (by omega) hJ' F' N''
        cases f with
        | next => exact fin hp
        | cont => exact fin hp
        | brk => exact hp
        | ret v => exact hp
  refine wpAny_mono (whl_start 0 (E := fun _ _ => False) (key (n + 1) n m₀ news₀ s.heap s.toks (Nat.lt_succ_self _) hj F N)) (fun _ _ q => q) fun _ _ e => e.elim
end
theorem upd_self {m : Str → Option Value} {x : Str} {v : Value} (h : m x = some v) : m = fun y => if y = x then some v else m y := by
  funext y
  by_cases e : y = x
  · subst e; simp [h]
  · simp [e]
theorem upd_over {m : Str → Option Value} {x : Str} {v v' : Option Value} : (fun y => if y = x then v else if y = x then v' else m y) = fun y => if y = x then v else m y := by
  funext y
  by_cases e : y = x
  · simp [e]
  · simp [e]
noncomputable def frontL {α : Type} [DecidableEq α] (c : α) (l : List α) : Nat := (l.takeWhile (· = c)).length
theorem front_cut {α : Type} [DecidableEq α] (c : α) (l : List α) (i : Nat) (hi : i ≤ frontL c l) : (l.drop i).take 1 = [c] ↔ i < frontL c l := by
  unfold frontL at *
  induction l generalizing i with
  | nil => simp
  | cons a r ih =>
    by_cases ha : a = c
    · subst ha
      simp only [List.takeWhile_cons, decide_true, if_true, List.length_cons] at hi ⊢
      cases i with
      | zero => simp
      | succ i => simp only [List.drop_succ_cons]; rw [ih i (by omega)]; omega
    · simp only [List.takeWhile_cons, ha, decide_false, Bool.false_eq_true, if_false, List.length_nil, Nat.le_zero] at hi ⊢
      subst hi
      simp [ha]
theorem front_le {α : Type} [DecidableEq α] (c : α) (l : List α) : frontL c l ≤ l.length := (List.takeWhile_sublist _).length_le
theorem fs_yes {l : List Nat} {i : Nat} (hi : i ≤ frontL 47 l) (h : (Txt.slice (S l) (some (i : Int)) (some ((i : Int) + 1)) == Str.ofString "/") = true) : i < frontL 47 l := by
  have e : ((i : Int) + 1) = ((i + 1 : Nat) : Int) := by omega
  rw [e, slice_S_ss, slash_S, S_beq] at h
  rw [← front_cut 47 l i hi]
  simpa [Nat.add_sub_cancel_left] using h
theorem fs_no {l : List Nat} {i : Nat} (hi : i ≤ frontL 47 l) (h : (Txt.slice (S l) (some (i : Int)) (some ((i : Int) + 1)) == Str.ofString "/") = false) : i = frontL 47 l := by
  have e : ((i : Int) + 1) = ((i + 1 : Nat) : Int) := by omega
  rw [e, slice_S_ss, slash_S, S_beq] at h
  have h2 : ¬ i < frontL 47 l := by
    rw [← front_cut 47 l i hi]
    simpa [Nat.add_sub_cancel_left] using h
  omega
section
variable {w : World} {s₀ : Shared} {mg mb : Str → Option Value}
theorem front_str (l : List Nat) (t : Tok) (hx : (S l).length ≤ 4096) : Ct w s₀ mg mb 5 178 [.str (S l) t] (RInt (frontL 47 l)) := by
  intro dp un gd base outer s Q E B X T hdp hun k
  (revert X; k_fill; intro X)
  refine wpAny_call ?_
  k_dflt cell_enter
  have hfl := front_le 47 l
  have hx' := (S_length l) ▸ hx
  repeat' ((fail_if_success (with_reducible show wpAny _ _ (exec (Stmt.While _ _ _ _) _) _ _ _)); (first | (k_unfold; (try dsimp only)) | (k_end; kc_close) | walk1 | (dsimp only; walk1) | (leave1; (try dsimp only)) | fail "no step"))
  (rename Fr _ _ _ _ => F9)
  (rename News _ _ _ _ => N9)
  refine while_fr F9 N9 (fun m₀ _ n m news => news = [] ∧ ∃ (i : Nat) (z : Int) (t : Tok), z = i ∧ i + n = frontL 47 l ∧ m = fun y => if y = Str.ofString "front" then some (.int z t) else m₀ y) (frontL 47 l) ⟨rfl, 0, _, _, rfl, Nat.zero_add _, upd_self (if_pos rfl)⟩ ?_
  clear F9 N9
  rintro n m news h' tk' ⟨rfl, i, z, ti, rfl, hi, rfl⟩ F' N'
  (try dsimp only)
  k_steps
  · (rename Fr _ _ _ _ => F9); (rename News _ _ _ _ => N9)
    have hlt := fs_yes (l := l) (i := i) (by omega) (by with_reducible assumption)
    exact ⟨n - 1, _, _, _, _, by omega, rfl, F9, N9, rfl, i + 1, _, _, rfl, by omega, upd_over⟩
  · (rename Fr _ _ _ _ => F9)
    have he := fs_no (l := l) (i := i) (by omega) (by with_reducible assumption)
    ((try dsimp only); (try k_unfold); (try dsimp only))
    exact k _ _ _ F9.keep ⟨_, by rw [he]⟩
end
local macro_rules | `(tactic| walk_at "call ref") => `(tactic| (k_here; (with_reducible show wpAny _ _ (call (Value.ref 122) [Value.str _ _]) _ _ _); k_dflt (refine' Ct.atBool (isabs_str _ _ ?p0) ?k1 ?k2 ?k3 ?k4 ?k5 ?k6 ?k7 ?k8 ?k9 ?_; (case p0 => assumption); (case k1 => k_asm); (case k2 => k_asm); (case k3 => k_asm); (case k4 => k_asm); (case k5 => k_asm); (case k6 => exact rfl); (case k7 => exact rfl); (case k8 => ktr_room); (case k9 => ktr_units); k_whole; intro h9 tk9 F9 N9; (try dsimp only); (try k_sweep))))
local macro_rules | `(tactic| walk_at "call ref") => `(tactic| (k_here; (with_reducible show wpAny _ _ (call (Value.ref 178) [Value.str _ _]) _ _ _); k_dflt (refine' Ct.atInt (front_str _ _ ?p0) ?k1 ?k2 ?k3 ?k4 ?k5 ?k6 ?k7 ?k8 ?k9 ?_; (case p0 => assumption); (case k1 => k_asm); (case k2 => k_asm); (case k3 => k_asm); (case k4 => k_asm); (case k5 => k_asm); (case k6 => exact rfl); (case k7 => exact rfl); (case k8 => ktr_room); (case k9 => ktr_units); k_whole; intro t9 h9 tk9 F9 N9; (try dsimp only); (try k_sweep))))
/-- a text of plain signs, not long -/
noncomputable def Asc (l : List Nat) : Prop := l.length ≤ 17 ∧ ∀ c ∈ l, c < 128
abbrev RAsc : Heap → Value → Heap → Prop := fun _ v _ => ∃ l t, v = .str (S l) t ∧ Asc l
noncomputable def pw : Nat → Int
  | 0 => 1
  | n + 1 => 6 * pw n
noncomputable def PathIn (n : Nat) (z : Int) (l : List Nat) : Prop := 0 ≤ z ∧ z < pw n ∧ l.length + 3 * n ≤ 17 ∧ ∀ c ∈ l, c < 128
theorem upd_self2 {m : Str → Option Value} {x x' : Str} {v v' : Value} (h : m x = some v) (h' : m x' = some v') : m = fun y => if y = x then some v else if y = x' then some v' else m y := by
  funext y
  by_cases e : y = x
  · subst e; simp [h]
  · by_cases e' : y = x'
    · subst e'; simp [h', e]
    · simp [e, e']
theorem upd_over2 {m : Str → Option Value} {x x' : Str} {v v' u u' : Option Value} : (fun y => if y = x then v else if y = x' then v' else if y = x then u else if y = x' then u' else m y) = fun y => if y = x then v else if y = x' then v' else m y := by
  funext y
  by_cases e : y = x
  · simp [e]
  · by_cases e' : y = x'
    · simp [e']
    · simp [e, e']
theorem mul_S (k : Int) : Txt.mul (Str.ofString "/") k = S (List.replicate k.toNat 47) := by
  rw [slash_S, ← S_of (Txt.mul (S [47]) k)]
  exact congrArg S (mul_one_list 47 k)
theorem pathIn_start {z : Int} (h0 : 0 ≤ z) (h1 : z < 7776) : PathIn 4 (z.fdiv 6) (List.replicate (z.fmod 6).toNat 47) := by
  have f := fdiv_fmod_facts z 6
  refine ⟨by omega, ?_, ?_, ?_⟩
  · show _ < 6 * (6 * (6 * (6 * 1))); omega
  · rw [List.length_replicate]; omega
  · intro c hc; rw [(List.mem_replicate.mp hc).2]; decide
theorem pathIn_turn {n : Nat} {z : Int} {l r : List Nat} (h : PathIn n z l) (hz : 0 < z) (hr : r.length ≤ 3 ∧ ∀ c ∈ r, c < 128) : ∃ n', n' + 1 = n ∧ PathIn n' (z.fdiv 6) (l ++ r) := by
  obtain ⟨h0, h1, h2, h3⟩ := h
  cases n with
  | zero => have : z < 1 := h1; omega
  | succ n =>
    have h1' : z < 6 * pw n := h1
    have f := fdiv_fmod_facts z 6
    refine ⟨n, rfl, by omega, by omega, ?_, ?_⟩
    · rw [List.length_append]; omega
    · intro c hc
      rcases List.mem_append.mp hc with hc | hc
      · exact h3 c hc
      · exact hr.2 c hc
theorem lit_a : Str.ofString "//" = S [47, 47] := by decide +kernel
theorem lit_c : Str.ofString "b:/" = S [98, 58, 47] := by decide +kernel
theorem lit_d : Str.ofString "A\\" = S [65, 92] := by decide +kernel
section
variable {w : World} {s₀ : Shared} {mg mb : Str → Option Value}
theorem path_int (z : Int) (t : Tok) (h0 : 0 ≤ z) (h1 : z < 7776) : Ct w s₀ mg mb 5 171 [.int z t] RAsc := by
  intro dp un gd base outer s Q E B X T hdp hun k
  (revert X; k_fill; intro X)
  refine wpAny_call ?_
  k_dflt cell_enter
  repeat' ((fail_if_success (with_reducible show wpAny _ _ (exec (Stmt.While _ _ _ _) _) _ _ _)); (first | (k_unfold; (try dsimp only)) | (k_end; kc_close) | walk1 | (dsimp only; walk1) | (leave1; (try dsimp only)) | fail "no step"))
  (rename Fr _ _ _ _ => F9)
  (rename News _ _ _ _ => N9)
  rw [mul_S] at F9
  refine while_fr F9 N9 (fun m₀ _ n m news => news = [] ∧ ∃ (z : Int) (l : List Nat) (t u : Tok), PathIn n z l ∧ m = fun y => if y = Str.ofString "number" then some (.int z t) else if y = Str.ofString "path" then some (.str (S l) u) else m₀ y) 4 ⟨rfl, _, _, _, _, pathIn_start h0 h1, upd_self2 (if_pos rfl) ((if_neg (by decide +kernel)).trans (if_pos rfl))⟩ ?_
  clear F9 N9
  rintro n m news h' tk' ⟨rfl, z, l, ti, tl, hP, rfl⟩ F' N'
  have hb0 := hP.1
  have hb2 := hP.2.2.1
  have hSl := S_length l
  (try dsimp only)
  k_steps
  · (rename Fr _ _ _ _ => F9)
    rw [lit_a, S_append] at F9
    obtain ⟨n', hn', hP'⟩ := pathIn_turn (r := [47, 47]) hP (by with_reducible assumption) (by decide)
    exact ⟨n', _, _, _, [], by omega, rfl, F9, (fun _ hp => nomatch hp), rfl, _, _, _, _, hP', upd_over2⟩
  · (rename Fr _ _ _ _ => F9)
    rw [slash_S, S_append] at F9
    obtain ⟨n', hn', hP'⟩ := pathIn_turn (r := [47]) hP (by with_reducible assumption) (by decide)
    exact ⟨n', _, _, _, [], by omega, rfl, F9, (fun _ hp => nomatch hp), rfl, _, _, _, _, hP', upd_over2⟩
  · (rename Fr _ _ _ _ => F9)
    rw [dotdot_S, S_append] at F9
    obtain ⟨n', hn', hP'⟩ := pathIn_turn (r := [46, 46]) hP (by with_reducible assumption) (by decide)
    exact ⟨n', _, _, _, [], by omega, rfl, F9, (fun _ hp => nomatch hp), rfl, _, _, _, _, hP', upd_over2⟩
  · (rename Fr _ _ _ _ => F9)
    rw [dot_S, S_append] at F9
    obtain ⟨n', hn', hP'⟩ := pathIn_turn (r := [46]) hP (by with_reducible assumption) (by decide)
    exact ⟨n', _, _, _, [], by omega, rfl, F9, (fun _ hp => nomatch hp), rfl, _, _, _, _, hP', upd_over2⟩
  · (rename Fr _ _ _ _ => F9)
    rw [lit_c, S_append] at F9
    obtain ⟨n', hn', hP'⟩ := pathIn_turn (r := [98, 58, 47]) hP (by with_reducible assumption) (by decide)
    exact ⟨n', _, _, _, [], by omega, rfl, F9, (fun _ hp => nomatch hp), rfl, _, _, _, _, hP', upd_over2⟩
  · (rename Fr _ _ _ _ => F9)
    rw [lit_d, S_append] at F9
    obtain ⟨n', hn', hP'⟩ := pathIn_turn (r := [65, 92]) hP (by with_reducible assumption) (by decide)
    exact ⟨n', _, _, _, [], by omega, rfl, F9, (fun _ hp => nomatch hp), rfl, _, _, _, _, hP', upd_over2⟩
  · (rename Fr _ _ _ _ => F9)
    ((try dsimp only); (try k_unfold); (try dsimp only))
    exact k _ _ _ F9.keep ⟨_, _, rfl, by omega, hP.2.2.2⟩
end
section
variable {α : Type} [DecidableEq α]
noncomputable def rootsN (c : α) : Nat → List (List α)
  | 0 => []
  | 1 => [[c]]
  | 2 => [[c, c]]
  | n + 3 => [c] :: rootsN c (n + 2)
theorem rootsN_length (c : α) : ∀ n, (rootsN c n).length ≤ n
  | 0 => by simp [rootsN]
  | 1 => by simp [rootsN]
  | 2 => by simp [rootsN]
  | n + 3 => by have := rootsN_length c (n + 2); simp only [rootsN, List.length_cons]; omega
theorem front_zero {c : α} {l : List α} (h : frontL c l = 0) : rootL c l = [] ∧ tailL c l = l := by
  cases l with
  | nil => exact ⟨rfl, rfl⟩
  | cons a r =>
    have : a ≠ c := by rintro rfl; simp [frontL] at h
    simp [rootL, tailL, this]
theorem front_pos {c : α} {l : List α} (h : 0 < frontL c l) : rootL c l ≠ [] ∧ rootsN c (frontL c l) = rootL c l :: rootsN c (frontL c (tailL c l)) ∧ frontL c (tailL c l) < frontL c l ∧
    (tailL c l).drop (frontL c (tailL c l)) = l.drop (frontL c l) ∧ (tailL c l).length ≤ l.length := by
  match l with
  | [] => simp [frontL] at h
  | [a] =>
    have : a = c := by apply Decidable.byContradiction; intro e; simp [frontL, e] at h
    subst this
    simp [frontL, rootL, tailL, rootsN]
  | a :: b :: r =>
    have : a = c := by apply Decidable.byContradiction; intro e; simp [frontL, e] at h
    subst this
    by_cases hb : b = a
    · subst hb
      cases r with
      | nil => simp [frontL, rootL, tailL, rootsN]
      | cons d r =>
        by_cases hd : d = b
        · subst hd
          simp [frontL, rootL, tailL, rootsN]
        · simp [frontL, rootL, tailL, rootsN, hd]
    · simp [frontL, rootL, tailL, rootsN, hb]
end
noncomputable def StrL : List Value → List (List Nat) → Prop
  | [], [] => True
  | v :: vs, d :: ds => (∃ t, v = .str (S d) t) ∧ StrL vs ds
  | _, _ => False
theorem StrL.length : ∀ {vs : List Value} {ds : List (List Nat)}, StrL vs ds → vs.length = ds.length
  | [], [], _ => rfl
  | _ :: _, _ :: _, h => congrArg (· + 1) h.2.length
theorem StrL.push : ∀ {vs : List Value} {ds : List (List Nat)} {d : List Nat} {t : Tok}, StrL vs ds → StrL (vs ++ [.str (S d) t]) (ds ++ [d])
  | [], [], _, t, _ => ⟨⟨t, rfl⟩, trivial⟩
  | _ :: _, _ :: _, _, _, h => ⟨h.1, h.2.push⟩
noncomputable def BytL : List Value → List (List UInt8) → Prop
  | [], [] => True
  | v :: vs, d :: ds => (∃ t, v = .bytes d.toArray t) ∧ BytL vs ds
  | _, _ => False
theorem BytL.length : ∀ {vs : List Value} {ds : List (List UInt8)}, BytL vs ds → vs.length = ds.length
  | [], [], _ => rfl
  | _ :: _, _ :: _, h => congrArg (· + 1) h.2.length
theorem BytL.push : ∀ {vs : List Value} {ds : List (List UInt8)} {d : List UInt8} {t : Tok}, BytL vs ds → BytL (vs ++ [.bytes d.toArray t]) (ds ++ [d])
  | [], [], _, t, _ => ⟨⟨t, rfl⟩, trivial⟩
  | _ :: _, _ :: _, _, _, h => ⟨h.1, h.2.push⟩
local macro_rules | `(tactic| walk_at "call ref") => `(tactic| (k_here; (with_reducible show wpAny _ _ (call (Value.ref 150) [Value.str (S _) _]) _ _ _); k_dflt (refine' Ct.atTupS (splitroot_str _ _ ?p0) ?k1 ?k2 ?k3 ?k4 ?k5 ?k6 ?k7 ?k8 ?k9 ?_; (case p0 => assumption); (case k1 => k_asm); (case k2 => k_asm); (case k3 => k_asm); (case k4 => k_asm); (case k5 => k_asm); (case k6 => exact rfl); (case k7 => exact rfl); (case k8 => ktr_room); (case k9 => ktr_units); k_whole; intro a9 t9 u9 v9 h9 tk9 F9 N9 l9; (replace l9 := allNe_of l9); (try simp only [AllNe, and_true] at l9); (try dsimp only); (try k_sweep))))
local macro_rules | `(tactic| walk_at "call ref") => `(tactic| (k_here; (with_reducible show wpAny _ _ (call (Value.ref 150) [Value.bytes (List.toArray _) _]) _ _ _); k_dflt (refine' Ct.atTupB (splitroot_bytes _ _ ?p0) ?k1 ?k2 ?k3 ?k4 ?k5 ?k6 ?k7 ?k8 ?k9 ?_; (case p0 => (first | assumption | omega)); (case k1 => k_asm); (case k2 => k_asm); (case k3 => k_asm); (case k4 => k_asm); (case k5 => k_asm); (case k6 => exact rfl); (case k7 => exact rfl); (case k8 => ktr_room); (case k9 => ktr_units); k_whole; intro a9 t9 u9 v9 h9 tk9 F9 N9 l9; (replace l9 := allNe_of l9); (try simp only [AllNe, and_true] at l9); (try dsimp only); (try k_sweep))))
abbrev RRootsS (ds : List (List Nat)) (x y : Str) : Heap → Value → Heap → Prop := fun h v h' => ∃ a b vs e t1 t2, v = .ref a ∧ h.get? a = none ∧ h.get? b = none ∧ a ≠ b ∧ StrL vs ds ∧ h'.get? a = some (tupO [.ref b, .str x t1, .str y t2]) ∧ h'.get? b = some (W.listOf vs.toArray e)
abbrev RRootsB (ds : List (List UInt8)) (x y : Array UInt8) : Heap → Value → Heap → Prop := fun h v h' => ∃ a b vs e t1 t2, v = .ref a ∧ h.get? a = none ∧ h.get? b = none ∧ a ≠ b ∧ BytL vs ds ∧ h'.get? a = some (tupO [.ref b, .bytes x t1, .bytes y t2]) ∧ h'.get? b = some (W.listOf vs.toArray e)
theorem upd_self3 {m : Str → Option Value} {x x' x'' : Str} {v v' v'' : Value} (h : m x = some v) (h' : m x' = some v') (h'' : m x'' = some v'') : m = fun y => if y = x then some v else if y = x' then some v' else if y = x'' then some v'' else m y := by
  funext y
  by_cases e : y = x
  · subst e; simp [h]
  · by_cases e' : y = x'
    · subst e'; simp [h', e]
    · by_cases e'' : y = x''
      · subst e''; simp [h'', e, e']
      · simp [e, e', e'']
theorem upd_over3 {m : Str → Option Value} {x x' x'' : Str} {v v' v'' u u' u'' : Option Value} : (fun y => if y = x then v else if y = x' then v' else if y = x'' then v'' else if y = x then u else if y = x' then u' else if y = x'' then u'' else m y) = fun y => if y = x then v else if y = x' then v' else if y = x'' then v'' else m y := by
  funext y
  by_cases e : y = x
  · simp [e]
  · by_cases e' : y = x'
    · simp [e']
    · by_cases e'' : y = x''
      · simp [e'']
      · simp [e, e', e'']
theorem tail_le {α : Type} [DecidableEq α] (c : α) (l : List α) : (tailL c l).length ≤ l.length := by
  unfold tailL
  split
  · exact Nat.le_refl _
  · split
    · simp
    · split <;> simp
noncomputable def RootsIn {α : Type} [DecidableEq α] (c : α) (l : List α) (n : Nat) (cur : List α) (done : List (List α)) : Prop :=
  frontL c cur = n ∧ done ++ rootsN c n = rootsN c (frontL c l) ∧ cur.drop n = l.drop (frontL c l) ∧ cur.length ≤ l.length
theorem RootsIn.room {α : Type} [DecidableEq α] {c : α} {l : List α} {n : Nat} {cur : List α} {done : List (List α)} (h : RootsIn c l n cur done) : done.length ≤ l.length := by
  have h1 := congrArg List.length h.2.1
  have h2 := rootsN_length c (frontL c l)
  have h3 := front_le c l
  rw [List.length_append] at h1
  omega
theorem RootsIn.turn {α : Type} [DecidableEq α] {c : α} {l : List α} {n : Nat} {cur : List α} {done : List (List α)} (h : RootsIn c l n cur done) (hr : rootL c cur ≠ []) :
    ∃ n', n' < n ∧ RootsIn c l n' (tailL c cur) (done ++ [rootL c cur]) := by
  obtain ⟨rfl, h2, h3, h4⟩ := h
  have hp : 0 < frontL c cur := by
    rcases Nat.eq_zero_or_pos (frontL c cur) with e | e
    · exact absurd (front_zero e).1 hr
    · exact e
  obtain ⟨_, k2, k3, k4, k5⟩ := front_pos hp
  refine ⟨_, k3, rfl, ?_, by rw [k4, h3], by omega⟩
  rw [List.append_assoc, List.singleton_append, ← k2, h2]
theorem RootsIn.done {α : Type} [DecidableEq α] {c : α} {l : List α} {n : Nat} {cur : List α} {done : List (List α)} (h : RootsIn c l n cur done) (hr : rootL c cur = []) :
    done = rootsN c (frontL c l) ∧ tailL c cur = l.drop (frontL c l) := by
  obtain ⟨rfl, h2, h3, h4⟩ := h
  have hp : frontL c cur = 0 := by
    rcases Nat.eq_zero_or_pos (frontL c cur) with e | e
    · exact e
    · exact absurd hr (front_pos e).1
  rw [hp] at h2 h3
  refine ⟨by simpa [rootsN] using h2, ?_⟩
  rw [(front_zero hp).2, ← h3, List.drop_zero]
theorem rs_ne {a l : List Nat} (h : (S a != Txt.slice (S l) none (some 0)) = true) : a ≠ [] := by rw [sl_n0, S_bne] at h; simpa using h
theorem rs_eq {a l : List Nat} (h : (S a != Txt.slice (S l) none (some 0)) = false) : a = [] := by rw [sl_n0, S_bne] at h; simpa using h
theorem rb_ne {a l : List UInt8} (h : (a.toArray.toList != (KBy.picked l.toArray none (some 0)).toList) = true) : a ≠ [] := by rw [bl_n0] at h; simpa using h
theorem rb_eq {a l : List UInt8} (h : (a.toArray.toList != (KBy.picked l.toArray none (some 0)).toList) = false) : a = [] := by rw [bl_n0] at h; simpa using h
section
variable {w : World} {s₀ : Shared} {mg mb : Str → Option Value}
theorem roots_str (l : List Nat) (t : Tok) (hx : (S l).length ≤ 4096) : Ct w s₀ mg mb 8 185 [.str (S l) t] (RRootsS (rootsN 47 (frontL 47 l)) (S []) (S (l.drop (frontL 47 l)))) := by
  intro dp un gd base outer s Q E B X T hdp hun k
  (revert X; k_fill; intro X)
  refine wpAny_call ?_
  k_dflt cell_enter
  repeat' ((fail_if_success (with_reducible show wpAny _ _ (exec (Stmt.While _ _ _ _) _) _ _ _)); (first | (k_unfold; (try dsimp only)) | (k_end; kc_close) | walk1 | (dsimp only; walk1) | (leave1; (try dsimp only)) | fail "no step"))
  (rename Fr _ _ _ _ => F9)
  (rename News _ _ _ _ => N9)
  refine while_fr F9 (fun p hp => N9 p (.tail _ hp)) (fun m₀ news₀ n m news => ∃ cur done xs e t1 t2 t3, news = news₀.map (fun p => (p.1, W.listOf xs e)) ∧ RootsIn 47 l n cur done ∧ StrL xs.toList done ∧
    m = fun y => if y = Str.ofString "tail" then some (.str (S (tailL 47 cur)) t3) else if y = Str.ofString "root" then some (.str (S (rootL 47 cur)) t2) else if y = Str.ofString "drive" then some (.str (S []) t1) else m₀ y) (frontL 47 l)
    ⟨l, [], #[], 0, _, _, _, rfl, ⟨rfl, rfl, rfl, Nat.le_refl _⟩, trivial, upd_self3 (if_pos rfl) ((if_neg (by decide +kernel)).trans (if_pos rfl)) ((if_neg (by decide +kernel)).trans ((if_neg (by decide +kernel)).trans (if_pos rfl)))⟩ ?_
  clear F9 N9
  rintro n m news h' tk' ⟨cur, done, xs, e, t1, t2, t3, rfl, hR, hS, rfl⟩ F' N'
  have hx' := (S_length l) ▸ hx
  have hx2 : (S (tailL 47 cur)).length ≤ 4096 := by have := tail_le 47 cur; have := hR.2.2.2; rw [S_length]; omega
  have hxs : xs.size ≤ 4096 := by have := hS.length; have := hR.room; rw [← Array.length_toList]; omega
  dsimp only [List.map] at N'
  (try dsimp only)
  k_steps
  · exact absurd rfl (rs_ne (a := []) (l := l) (by with_reducible assumption))
  · (rename Fr _ _ _ _ => F9)
    (rename News _ _ _ _ => N9)
    obtain ⟨n', hn', hR'⟩ := hR.turn (rs_ne (l := l) (by with_reducible assumption))
    exact ⟨n', _, _, _, _, hn', rfl, F9, (fun p hp => N9 p (.tail _ hp)), _, _, xs.push _, e + 1, _, _, _, rfl, hR', (by rw [Array.toList_push]; exact hS.push), upd_over3⟩
  · (rename Fr _ _ _ _ => F9)
    (rename News _ _ _ _ => N9)
    have hd := hR.done (rs_eq (l := l) (by with_reducible assumption))
    ((try dsimp only); (try k_unfold); (try dsimp only))
    refine k _ _ _ F9.keep ⟨_, _, xs.toList, _, _, _, rfl, (N9 _ (.head _)).2.2, (N9 _ (.tail _ (.head _))).2.2, ?_, hd.1 ▸ hS, (N9 _ (.head _)).1.trans (by rw [hd.2]), (N9 _ (.tail _ (.head _))).1⟩
    (refine neN ?_; omega)
theorem roots_bytes (l : List UInt8) (t : Tok) (hx : l.length ≤ 4096) : Ct w s₀ mg mb 8 185 [.bytes l.toArray t] (RRootsB (rootsN 47 (frontL 47 l)) #[] (l.drop (frontL 47 l)).toArray) := by
  intro dp un gd base outer s Q E B X T hdp hun k
  (revert X; k_fill; intro X)
  refine wpAny_call ?_
  k_dflt cell_enter
  repeat' ((fail_if_success (with_reducible show wpAny _ _ (exec (Stmt.While _ _ _ _) _) _ _ _)); (first | (k_unfold; (try dsimp only)) | (k_end; kc_close) | walk1 | (dsimp only; walk1) | (leave1; (try dsimp only)) | fail "no step"))
  (rename Fr _ _ _ _ => F9)
  (rename News _ _ _ _ => N9)
  refine while_fr F9 (fun p hp => N9 p (.tail _ hp)) (fun m₀ news₀ n m news => ∃ cur done xs e t1 t2 t3, news = news₀.map (fun p => (p.1, W.listOf xs e)) ∧ RootsIn 47 l n cur done ∧ BytL xs.toList done ∧
    m = fun y => if y = Str.ofString "tail" then some (.bytes (tailL 47 cur).toArray t3) else if y = Str.ofString "root" then some (.bytes (rootL 47 cur).toArray t2) else if y = Str.ofString "drive" then some (.bytes #[] t1) else m₀ y) (frontL 47 l)
    ⟨l, [], #[], 0, _, _, _, rfl, ⟨rfl, rfl, rfl, Nat.le_refl _⟩, trivial, upd_self3 (if_pos rfl) ((if_neg (by decide +kernel)).trans (if_pos rfl)) ((if_neg (by decide +kernel)).trans ((if_neg (by decide +kernel)).trans (if_pos rfl)))⟩ ?_
  clear F9 N9
  rintro n m news h' tk' ⟨cur, done, xs, e, t1, t2, t3, rfl, hR, hS, rfl⟩ F' N'
  have hx2 : (tailL 47 cur).length ≤ 4096 := by have := tail_le 47 cur; have := hR.2.2.2; omega
  have hxs : xs.size ≤ 4096 := by have := hS.length; have := hR.room; rw [← Array.length_toList]; omega
  dsimp only [List.map] at N'
  (try dsimp only)
  k_steps
  · exact absurd rfl (rb_ne (a := []) (l := l) (by with_reducible assumption))
  · (rename Fr _ _ _ _ => F9)
    (rename News _ _ _ _ => N9)
    obtain ⟨n', hn', hR'⟩ := hR.turn (rb_ne (l := l) (by with_reducible assumption))
    exact ⟨n', _, _, _, _, hn', rfl, F9, (fun p hp => N9 p (.tail _ hp)), _, _, xs.push _, e + 1, _, _, _, rfl, hR', (by rw [Array.toList_push]; exact hS.push), upd_over3⟩
  · (rename Fr _ _ _ _ => F9)
    (rename News _ _ _ _ => N9)
    have hd := hR.done (rb_eq (l := l) (by with_reducible assumption))
    ((try dsimp only); (try k_unfold); (try dsimp only))
    refine k _ _ _ F9.keep ⟨_, _, xs.toList, _, _, _, rfl, (N9 _ (.head _)).2.2, (N9 _ (.tail _ (.head _))).2.2, ?_, hd.1 ▸ hS, (N9 _ (.head _)).1.trans (by rw [hd.2]), (N9 _ (.tail _ (.head _))).1⟩
    (refine neN ?_; omega)
end
section
variable {α : Type} [DecidableEq α]
noncomputable def splitC (c : α) : List α → List (List α)
  | [] => [[]]
  | a :: r => if a = c then [] :: splitC c r else
    match splitC c r with
    | [] => [[a]]
    | h :: t => (a :: h) :: t
noncomputable def joinC (c : α) : List (List α) → List α
  | [] => []
  | [x] => x
  | x :: y :: r => x ++ ([c] ++ joinC c (y :: r))
theorem splitC_ne (c : α) (l : List α) : splitC c l ≠ [] := by
  cases l with
  | nil => simp [splitC]
  | cons a r =>
    unfold splitC
    split
    · simp
    · split <;> simp
theorem splitC_free (c : α) : ∀ l : List α, ∀ p ∈ splitC c l, c ∉ p
  | [] => by intro p hp; simp [splitC] at hp; subst hp; simp
  | a :: r => by
    intro p hp
    have ih := splitC_free c r
    unfold splitC at hp
    split at hp
    · rcases List.mem_cons.mp hp with rfl | hp
      · simp
      · exact ih p hp
    · rename_i ha
      split at hp
      · simp only [List.mem_singleton] at hp
        subst hp
        simp only [List.mem_singleton]
        exact fun e => ha e.symm
      · rename_i h t e
        rw [e] at ih
        rcases List.mem_cons.mp hp with rfl | hp
        · simp only [List.mem_cons, not_or]
          exact ⟨fun e => ha e.symm, ih h (.head _)⟩
        · exact ih p (.tail _ hp)
theorem joinC_cons_head (c a : α) (h : List α) (t : List (List α)) : joinC c ((a :: h) :: t) = a :: joinC c (h :: t) := by
  cases t <;> rfl
theorem splitC_unique (c : α) : ∀ (l : List α) (ps : List (List α)), ps ≠ [] → (∀ p ∈ ps, c ∉ p) → joinC c ps = l → ps = splitC c l
  | [], ps, hne, hf, hj => by
    match ps with
    | [] => exact absurd rfl hne
    | [x] => simp only [joinC] at hj; subst hj; rfl
    | x :: y :: r => simp [joinC] at hj
  | a :: l, ps, hne, hf, hj => by
    match ps with
    | [] => exact absurd rfl hne
    | [] :: r =>
      cases r with
      | nil => simp [joinC] at hj
      | cons y r =>
        simp only [joinC, List.nil_append, List.singleton_append, List.cons.injEq] at hj
        obtain ⟨rfl, hj⟩ := hj
        have ih := splitC_unique c l (y :: r) (by simp) (fun p hp => hf p (.tail _ hp)) hj
        simp [splitC, ← ih]
    | (b :: h) :: r =>
      rw [joinC_cons_head] at hj
      simp only [List.cons.injEq] at hj
      obtain ⟨rfl, hj⟩ := hj
      have hb := hf (b :: h) (.head _)
      simp only [List.mem_cons, not_or] at hb
      have ih := splitC_unique c l (h :: r) (by simp) (fun p hp => by
        rcases List.mem_cons.mp hp with rfl | hp
        · exact hb.2
        · exact hf p (.tail _ hp)) hj
      have hbc : b ≠ c := fun e => hb.1 e.symm
      simp [splitC, ← ih, hbc]
noncomputable def stepN (dot dd : List α) (root : List α) (acc : List (List α)) (comp : List α) : List (List α) :=
  if comp = [] ∨ comp = dot then acc
  else if comp ≠ dd ∨ (root = [] ∧ acc = []) ∨ (acc ≠ [] ∧ acc.getLast? = some dd) then acc ++ [comp]
  else acc.dropLast
noncomputable def compsN (c : α) (dot dd : List α) (root t : List α) : List (List α) := (splitC c t).foldl (stepN dot dd root) []
noncomputable def normN (c : α) (dot dd : List α) (l : List α) : List α :=
  if l = [] then dot
  else if rootL c l ++ joinC c (compsN c dot dd (rootL c l) (tailL c l)) = [] then dot
  else rootL c l ++ joinC c (compsN c dot dd (rootL c l) (tailL c l))
/-- the parts kept are parts -/
theorem stepN_mem {dot dd root comp : List α} {acc : List (List α)} {p : List α} (h : p ∈ stepN dot dd root acc comp) : p ∈ acc ∨ (p = comp ∧ comp ≠ []) := by
  unfold stepN at h
  split at h
  · exact .inl h
  · rename_i hc
    split at h
    · rcases List.mem_append.mp h with h | h
      · exact .inl h
      · rw [List.mem_singleton] at h
        exact .inr ⟨h, fun e => hc (.inl e)⟩
    · exact .inl (List.dropLast_subset _ h)
theorem foldN_mem {dot dd root : List α} : ∀ {ds acc : List (List α)} {p : List α}, p ∈ ds.foldl (stepN dot dd root) acc → p ∈ acc ∨ (p ∈ ds ∧ p ≠ [])
  | [], _, _, h => .inl h
  | d :: ds, acc, p, h => by
    rcases foldN_mem (ds := ds) h with h | h
    · rcases stepN_mem h with h | ⟨rfl, hne⟩
      · exact .inl h
      · exact .inr ⟨.head _, hne⟩
    · exact .inr ⟨.tail _ h.1, h.2⟩
theorem compsN_mem {c : α} {dot dd root t p : List α} (h : p ∈ compsN c dot dd root t) : p ≠ [] ∧ c ∉ p := by
  rcases foldN_mem h with h | h
  · cases h
  · exact ⟨h.2, splitC_free c t p h.1⟩
theorem joinC_head {c : α} : ∀ {ps : List (List α)}, (∀ p ∈ ps, p ≠ [] ∧ c ∉ p) → (joinC c ps).head? ≠ some c
  | [], _ => by simp [joinC]
  | [x], h => by
    have := h x (.head _)
    cases x with
    | nil => simp [joinC]
    | cons a r =>
      simp only [joinC, List.head?_cons, ne_eq, Option.some.injEq]
      rintro rfl
      exact this.2 (.head _)
  | x :: y :: r, h => by
    have := h x (.head _)
    cases x with
    | nil => exact absurd rfl this.1
    | cons a r' =>
      simp only [joinC, List.cons_append, List.head?_cons, ne_eq, Option.some.injEq]
      rintro rfl
      exact this.2 (.head _)
/-- slashes in front of the tail do not count -/
theorem compsN_slash (c : α) (dot dd root t : List α) : compsN c dot dd root (c :: t) = compsN c dot dd root t := by
  unfold compsN
  simp [splitC, stepN]
end
theorem S_join (c : Nat) : ∀ ps : List (List Nat), Str.join (S [c]) (ps.map S) = S (joinC c ps)
  | [] => rfl
  | [x] => rfl
  | x :: y :: r => by
    show S x ++ S [c] ++ Str.join (S [c]) ((y :: r).map S) = S (x ++ ([c] ++ joinC c (y :: r)))
    rw [S_join c (y :: r), S_append, S_append, List.append_assoc]
theorem map_S (ps : List Str) : (ps.map fun p => p.cps.toList).map S = ps := by
  rw [List.map_map]
  conv => rhs; rw [← List.map_id ps]
  exact List.map_congr_left fun p _ => S_of p
theorem split_S (t : List Nat) : Txt.split (S t) (Str.ofString "/") = (splitC 47 t).map S := by
  rw [slash_S]
  have hj := StrLaws.join_split (S t) (S [47])
  have hf := StrLaws.split_free (S t) 47
  have e : (⟨#[47]⟩ : Str) = S [47] := rfl
  rw [e] at hf
  generalize hp : Txt.split (S t) (S [47]) = ps at hj hf
  have hne : ps ≠ [] := by
    rw [← hp]
    unfold Txt.split
    split
    · simp
    · split
      · simp
      · unfold Builtin.Str.partsBetween
        intro h
        have := congrArg List.length h
        simp at this
  rw [← map_S ps] at hj ⊢
  rw [S_join, S_inj] at hj
  rw [splitC_unique 47 t (ps.map fun p => p.cps.toList) (by simpa using hne) (fun p hp => by
    obtain ⟨q, hq, rfl⟩ := List.mem_map.mp hp
    exact hf q hq) hj]
section
variable {α : Type} [DecidableEq α] {c : α} {l o : List α}
theorem front_nil : frontL c ([] : List α) = 0 := rfl
theorem front_cons (a : α) (r : List α) : frontL c (a :: r) = if a = c then frontL c r + 1 else 0 := by
  unfold frontL; rw [List.takeWhile_cons]; by_cases h : a = c <;> simp [h]
theorem isabs_front : isabsL c l = decide (0 < frontL c l) := by
  cases l with
  | nil => simp [isabsL, frontL]
  | cons a r => by_cases h : a = c <;> simp [isabsL, front_cons, h]
theorem laid_eq : joinL c (rootL c l) (tailL c l) = if frontL c l < 3 then l else l.drop 1 := by
  match l with
  | [] => simp [joinL, rootL, tailL, isabsL, front_nil]
  | [a] =>
    by_cases ha : a = c
    · simp [joinL, rootL, tailL, isabsL, endsL, front_nil, front_cons, ha]
    · simp [joinL, rootL, tailL, isabsL, front_cons, ha]
  | [a, b] =>
    by_cases ha : a = c
    · by_cases hb : b = c
      · simp [joinL, rootL, tailL, isabsL, endsL, front_nil, front_cons, ha, hb]
      · simp [joinL, rootL, tailL, isabsL, endsL, front_nil, front_cons, ha, hb]
    · simp [joinL, rootL, tailL, isabsL, front_cons, ha]
  | a :: b :: d :: r =>
    by_cases ha : a = c
    · by_cases hb : b = c
      · by_cases hd : d = c
        · simp [joinL, rootL, tailL, isabsL, endsL, front_nil, front_cons, ha, hb, hd]
        · simp [joinL, rootL, tailL, isabsL, endsL, front_nil, front_cons, ha, hb, hd]
      · simp [joinL, rootL, tailL, isabsL, endsL, front_nil, front_cons, ha, hb]
    · simp [joinL, rootL, tailL, isabsL, front_cons, ha]
theorem join_abs (h : isabsL c o = true) : joinL c l o = o := by simp [joinL, h]
theorem join_not (h : isabsL c o = false) : joinL c l o = if l = [] then o else if endsL c l = true then l ++ o else l ++ ([c] ++ o) := by simp [joinL, h]
theorem join_root (h : isabsL c o = false) : rootL c (joinL c l o) = rootL c l ∧ tailL c (joinL c l o) = joinL c (tailL c l) o := by
  have ho : o.take 1 ≠ [c] := by
    cases o with
    | nil => simp
    | cons x r => simp [isabsL] at h; simpa using h
  have ho2 : rootL c o = [] ∧ tailL c o = o := by simp [rootL, tailL, ho]
  match l with
  | [] => rw [join_not h, if_pos rfl]; exact ⟨ho2.1, by rw [ho2.2]; simp [tailL, joinL, h]⟩
  | [a] =>
    by_cases ha : a = c
    · simp [joinL, rootL, tailL, endsL, h, ha, ho]
    · simp [joinL, rootL, tailL, endsL, h, ha]
  | [a, b] =>
    by_cases ha : a = c
    · by_cases hb : b = c
      · simp [joinL, rootL, tailL, endsL, h, ha, hb, ho]
      · simp [joinL, rootL, tailL, endsL, h, ha, hb]
    · by_cases hb : b = c
      · simp [joinL, rootL, tailL, endsL, h, ha, hb]
      · simp [joinL, rootL, tailL, endsL, h, ha, hb]
  | a :: b :: d :: r =>
    have he : endsL c (a :: b :: d :: r) = endsL c (d :: r) := by simp [endsL, List.getLast?_cons_cons]
    have he2 : endsL c (b :: d :: r) = endsL c (d :: r) := by simp [endsL, List.getLast?_cons_cons]
    by_cases ha : a = c
    · by_cases hb : b = c
      · by_cases hd : d = c
        · cases hz : endsL c (d :: r) <;> simp [joinL, rootL, tailL, h, he, he2, ha, hb, hd, hz] <;> simp_all
        · cases hz : endsL c (d :: r) <;> simp [joinL, rootL, tailL, h, he, he2, ha, hb, hd, hz] <;> simp_all
      · cases hz : endsL c (d :: r) <;> simp [joinL, rootL, tailL, h, he, he2, ha, hb, hz] <;> simp_all
    · cases hz : endsL c (d :: r) <;> simp [joinL, rootL, tailL, h, he, he2, ha, hz]
theorem join_len : (joinL c l o).length ≤ l.length + o.length + 1 := by
  unfold joinL
  split
  · omega
  · split
    · omega
    · split
      · rw [List.length_append]; omega
      · simp only [List.length_append, List.length_singleton]; omega
noncomputable def dueL (c : α) (n : Nat) : List (List α) := if 1 < n then List.replicate (n - 2) [c] ++ [[c, c]] else List.replicate n [c]
theorem due_eq (c : α) : ∀ n, rootsN c n = dueL c n
  | 0 => rfl
  | 1 => rfl
  | 2 => rfl
  | n + 3 => by
    rw [rootsN, due_eq c (n + 2)]
    simp [dueL, List.replicate_succ]
theorem norm_four {dot dd : List α} (h : 3 < frontL c l) : normN c dot dd (l.drop 1) = normN c dot dd l := by
  match l with
  | [] => simp [front_nil] at h
  | [a] => by_cases ha : a = c <;> simp [front_nil, front_cons, ha] at h
  | [a, b] => by_cases ha : a = c <;> by_cases hb : b = c <;> simp [front_nil, front_cons, ha, hb] at h
  | [a, b, d] => by_cases ha : a = c <;> by_cases hb : b = c <;> by_cases hd : d = c <;> simp [front_nil, front_cons, ha, hb, hd] at h
  | a :: b :: d :: e :: r =>
    have ha : a = c := by apply Decidable.byContradiction; intro hn; simp [front_cons, hn] at h
    have hb : b = c := by apply Decidable.byContradiction; intro hn; simp [front_cons, hn] at h; split at h <;> simp at h
    have hd : d = c := by apply Decidable.byContradiction; intro hn; simp [front_cons, ha, hb, hn] at h
    have he : e = c := by apply Decidable.byContradiction; intro hn; simp [front_cons, ha, hb, hd, hn] at h
    subst ha hb hd he
    have r1 : rootL e (e :: e :: e :: e :: r) = [e] := by simp [rootL]
    have t1 : tailL e (e :: e :: e :: e :: r) = e :: e :: e :: r := by simp [tailL]
    have r2 : rootL e (e :: e :: e :: r) = [e] := by simp [rootL]
    have t2 : tailL e (e :: e :: e :: r) = e :: e :: r := by simp [tailL]
    show normN e dot dd (e :: e :: e :: r) = _
    unfold normN
    rw [r1, t1, r2, t2, compsN_slash e dot dd [e] (e :: e :: r)]
    simp
theorem norm_three {dot dd : List α} (h : frontL c l = 3) : normN c dot dd (l.drop 1) ≠ normN c dot dd l := by
  match l with
  | [] => simp [front_nil] at h
  | [a] => by_cases ha : a = c <;> simp [front_nil, front_cons, ha] at h
  | [a, b] => by_cases ha : a = c <;> by_cases hb : b = c <;> simp [front_nil, front_cons, ha, hb] at h
  | a :: b :: d :: r =>
    have ha : a = c := by apply Decidable.byContradiction; intro hn; simp [front_cons, hn] at h
    have hb : b = c := by apply Decidable.byContradiction; intro hn; simp [front_cons, ha, hn] at h
    have hd : d = c := by apply Decidable.byContradiction; intro hn; simp [front_cons, ha, hb, hn] at h
    subst ha hb hd
    have hr : r.take 1 ≠ [d] := by
      cases r with
      | nil => simp
      | cons x r => intro e; simp at e; simp [front_cons, e] at h
    have r1 : rootL d (d :: d :: d :: r) = [d] := by simp [rootL]
    have t1 : tailL d (d :: d :: d :: r) = d :: d :: r := by simp [tailL]
    have r2 : rootL d (d :: d :: r) = [d, d] := by simp [rootL, hr]
    have t2 : tailL d (d :: d :: r) = r := by simp [tailL, hr]
    show normN d dot dd (d :: d :: r) ≠ _
    unfold normN
    rw [r1, t1, r2, t2]
    simp only [List.cons_append, List.nil_append, reduceCtorEq, if_false]
    intro e
    have hj := joinC_head (c := d) (ps := compsN d dot dd [d] (d :: d :: r)) (fun p hp => compsN_mem hp)
    simp only [List.cons.injEq, true_and] at e
    rw [← e] at hj
    simp at hj
theorem norm_laid {dot dd : List α} : decide (normN c dot dd (joinL c (rootL c l) (tailL c l)) = normN c dot dd l) = decide (frontL c l ≠ 3) := by
  rw [laid_eq]
  by_cases h3 : frontL c l < 3
  · rw [if_pos h3]; simp; omega
  · rw [if_neg h3]
    by_cases h : frontL c l = 3
    · rw [decide_eq_false (norm_three h)]; simp [h]
    · rw [norm_four (by omega)]; simp [h]
theorem root_len : (rootL c l).length ≤ 2 := by
  unfold rootL
  split
  · simp
  · split
    · simp
    · split
      · simp
      · rw [List.length_take]; omega
end
section
variable {prog : Program} {w : World} {A : Around} {E : Value → Shared → Prop} {s : Shared} {env : Env} {body : List Stmt} {Q : Flow → Shared → Prop}
abbrev FInv := List Value → List Value → (Str → Option Value) → List (Addr × Obj) → Prop
noncomputable def FEnd (h₀ : Heap) (L : Addr) (J : FInv) (done rest : List Value) (I : Addr) (it : Obj) (s : Shared) (s₂ : Shared) : Prop :=
  ∃ h' tk' m' news', s₂ = { s with heap := h', toks := tk' } ∧ Fr h₀ L h' m' ∧ News h₀ L h' ((I, it) :: news') ∧ (∀ p ∈ news', p.1 ≠ I) ∧ J done rest m' news'
noncomputable def FPost (h₀ : Heap) (L : Addr) (J : FInv) (done rest : List Value) (I : Addr) (it : Obj) (s : Shared) (Q : Flow → Shared → Prop) (f : Flow) (s₂ : Shared) : Prop :=
  match f with
  | .ret v => Q (.ret v) s₂
  | .brk => Q .next s₂
  | _ => FEnd h₀ L J done rest I it s s₂
theorem for_fr {h₀ : Heap} {m₀ : Str → Option Value} {news₀ : List (Addr × Obj)} {x : Str} {px pos : Pos} {iter : PySem.Expr} {ax : Addr} {lo : Obj} {vs : List Value} {n : Nat}
    (F : Fr h₀ env.locals s.heap m₀) (N : News h₀ env.locals s.heap news₀) (hh : A.handled = none) (hm : (ax, lo) ∈ news₀) (hc : lo.cls = .type "list") (hd : lo.data = .seq vs.toArray n)
    (hx : env.kindOf x = some .local) (hp : (env.scope.kind == .class || (env.scope.kind == .module && env.locals != env.globals)) = false)
    (hev : wpAny (model prog w) A (eval iter env) (fun v s₁ => v = .ref ax ∧ s₁ = s) (fun _ _ => False) s)
    (J₀ : (Str → Option Value) → List (Addr × Obj) → FInv) (hj : J₀ m₀ news₀ [] vs m₀ news₀) (hmem : ∀ done rest m news, J₀ m₀ news₀ done rest m news → (ax, lo) ∈ news)
    (step : ∀ done v rest m news I it h tk, J₀ m₀ news₀ done (v :: rest) m news → it.cls = .type "list_iterator" → (∀ p ∈ news, p.1 ≠ I) → Fr h₀ env.locals h (fun y => if y = x then some v else m y) → News h₀ env.locals h ((I, it) :: news) →
      wpAny (model prog w) A (execs body env) (FPost h₀ env.locals (J₀ m₀ news₀) (done ++ [v]) rest I it s Q) (fun _ _ => False) { s with heap := h, toks := tk })
    (fin : ∀ m news h tk, J₀ m₀ news₀ vs [] m news → Fr h₀ env.locals h m → News h₀ env.locals h news → Q .next { s with heap := h, toks := tk })
    (hs : ∀ x, foldedSetIterable iter env x = pure x := by intro _; rfl) :
    wpAny (model prog w) A (exec (.For (.Name x px) iter body [] pos) env) Q E s := by
  refine wpAny_mono (For_invV (E := fun _ _ => False) h₀ hx hp (wpAny_mono hev (fun v s₁ hv => ?_) fun _ _ e => e) hs PassesOwn.never) (fun _ _ q => q) (fun _ _ e => e.elim)
  obtain ⟨rfl, rfl⟩ := hv
  refine iter_listUnr hh F N hm hc hd (fun I hI => ?_)
  have key : ∀ rest done m news, J₀ m₀ news₀ done rest m news → done ++ rest = vs → (∀ p ∈ news, p.1 ≠ I) → ListRest prog w A (fun _ _ => False) h₀ env x body Q s₁ I (ax, lo) rest m news := by
    intro rest
    induction rest with
    | nil =>
      intro done m news hJ he _
      rw [List.append_nil] at he
      subst he
      exact ListRest.zero fun h tk F N => fin m news h tk hJ F N
    | cons v rest ih =>
      intro done m news hJ he hI
      refine ListRest.succ fun it h tk hit F' N' => ?_
      refine wpAny_mono (step done v rest m news I it h tk hJ hit hI F' N') (fun f s₂ hp => ?_) fun _ _ e => e
      have fin' : FEnd h₀ env.locals (J₀ m₀ news₀) (done ++ [v]) rest I it s₁ s₂ → UnrEnd h₀ env.locals { s₁ with heap := h, toks := tk } I it (fun m' n' => (ax, lo) ∈ n' ∧ ListRest prog w A (fun _ _ => False) h₀ env x body Q s₁ I (ax, lo) rest m' n') s₂ := by
        rintro ⟨h', tk', m', news', rfl, F'', N'', hoff, hJ'⟩
        exact ⟨h', tk', m', news', rfl, F'', N'', hoff, hmem _ _ _ _ hJ', ih _ _ _ hJ' (by rw [← he]; simp) hoff⟩
      cases f with
      | next => exact fin' hp
      | cont => exact fin' hp
      | brk => exact hp
      | ret v => exact hp
  exact key vs [] m₀ news₀ hj rfl fun p hp => Nat.ne_of_lt (hI p hp)
end
theorem upd_same {m : Str → Option Value} (x : Str) : m = fun y => if y = x then m x else m y := by
  funext y
  by_cases e : y = x
  · simp [e]
  · simp [e]
theorem strL_values : ∀ {l : List (Str × Tok)} {ds : List (List Nat)}, l.map (·.1) = ds.map S → StrL (strValues l) ds
  | [], [], _ => trivial
  | (x, t) :: l, d :: ds, h => by
    simp only [List.map_cons, List.cons.injEq] at h
    exact ⟨⟨t, by rw [← h.1]⟩, strL_values h.2⟩
  | [], _ :: _, h => by simp at h
  | _ :: _, [], h => by simp at h
section
variable {prog : Program} {w : World} {A : Around} {E : Value → Shared → Prop} {s : Shared} {h₀ : Heap} {L D : Addr} {m : Str → Option Value} {news news' : List (Addr × Obj)} {n : Nat} {p : List Value} {y : Value}
theorem led_list {its : Array Value} (N : News h₀ L s.heap news) (hm : (D, W.listOf its n) ∈ news) : s.heap.IsList D its := ⟨_, (N _ hm).1, rfl, n, rfl⟩
theorem led_truthy_no {Q : Bool → Shared → Prop} (N : News h₀ L s.heap news) (hm : (D, W.listOf #[] n) ∈ news) (h : ∀ tk, Q false { s with toks := tk }) : wpAny (model prog w) A (truthy (.ref D)) Q E s :=
  wpAny_truthy_list (led_list N hm) (by decide) (h _)
theorem led_truthy_yes {Q : Bool → Shared → Prop} (N : News h₀ L s.heap news) (hm : (D, W.listOf (p ++ [y]).toArray n) ∈ news) (hz : p.length ≤ 4096) (h : ∀ tk, Q true { s with toks := tk }) : wpAny (model prog w) A (truthy (.ref D)) Q E s := by
  refine wpAny_truthy_list (led_list N hm) (by simp; omega) ?_
  have e : (!(p ++ [y]).toArray.isEmpty) = true := by simp
  rw [e]; exact h _
theorem led_last {value slice : PySem.Expr} {u : Tok} {Q : Value → Shared → Prop} (N : News h₀ L s.heap news) (hm : (D, W.listOf (p ++ [y]).toArray n) ∈ news) (h : Q y s)
    (hs : subscripted slice false (.ref D) (.int (-1) u) = operate [.ref D, .int (-1) u] (getItem (.ref D) (.int (-1) u)) := by with_unfolding_all rfl) :
    wpAny (model prog w) A (subscriptTail value slice (.ref D) (.int (-1) u)) Q E s := by
  have hl := led_list N hm
  refine tail_any hl.typeIs slot_list_getitem.lookup (wpAny_getItem_list_neg hl (by decide) (by simp; omega) (by decide) (x := y) ?_ h) hs
  have e : ((-1 : Int) + ((p ++ [y]).toArray.size : Int)).toNat = p.length := by simp; omega
  rw [e]; simp
theorem led_pop {Q : Value → Shared → Prop} (F : Fr h₀ L s.heap m) (N : News h₀ L s.heap news) (U : Upd D (W.listOf (p ++ [y]).toArray n) (W.listOf p.toArray (n + 1)) news news')
    (hz : p.length ≤ 4096) (h : ∀ h', Fr h₀ L h' m → News h₀ L h' news' → Q y { s with heap := h' }) : wpAny (model prog w) A (call (.builtin "list.pop") [.ref D]) Q E s :=
  kl_pop F N (by simpa using kpa_last y p) U (by rw [sizeLine_eq]; simp; omega) h
end
local macro_rules | `(tactic| walk_at "truthy ref") => `(tactic| (k_here; k_dflt (first
  | (refine' led_truthy_no ?N ?m ?_; (case N => k_asm); (case m => k_mem); k_whole; intro tk')
  | (refine' led_truthy_yes ?N ?m ?z ?_; (case N => k_asm); (case m => k_mem); (case z => omega); k_whole; intro tk'))))
local macro_rules | `(tactic| walk_at "subscriptTail Name UnaryOp ref int") => `(tactic| (k_here; (with_reducible show wpAny _ _ (subscriptTail _ (Expr.UnaryOp _ _ _) (Value.ref _) (Value.int _ _)) _ _ _); k_dflt (refine' led_last ?N ?m ?_ ?hs; (case N => k_asm); (case m => k_mem); (case hs => with_unfolding_all rfl); k_whole)))
local macro_rules | `(tactic| walk_at "call builtin:list.pop") => `(tactic| (k_here; (with_reducible show wpAny _ _ (call (Value.builtin _) [Value.ref _]) _ _ _); k_dflt (refine' led_pop ?F ?N ?U ?z ?_; (case F => k_asm); (case N => k_asm); (case U => k_upd); (case z => omega); k_whole; intro h' F' N'; (try k_sweep))))
noncomputable def NormJS (l : List Nat) (m₀ : Str → Option Value) (news₀ : List (Addr × Obj)) : FInv := fun _ rest m news =>
  ∃ (xs : Array Value) (e : Nat) (acc ds : List (List Nat)) (u : Option Value), news = (match news₀ with | p :: r => (p.1, W.listOf xs e) :: r | [] => []) ∧ StrL rest ds ∧
    ds.foldl (stepN [46] [46, 46] (rootL 47 l)) acc = compsN 47 [46] [46, 46] (rootL 47 l) (tailL 47 l) ∧ StrL xs.toList acc ∧ acc.length + ds.length ≤ 1001 ∧ (∀ d ∈ acc, d.length ≤ 1000) ∧ (∀ d ∈ ds, d.length ≤ 1000) ∧ m = fun y => if y = Str.ofString "comp" then u else m₀ y
theorem splitC_length {α : Type} [DecidableEq α] (c : α) : ∀ l : List α, (splitC c l).length ≤ l.length + 1
  | [] => by simp [splitC]
  | a :: r => by
    have ih := splitC_length c r
    unfold splitC
    split
    · simp; omega
    · split
      · simp
      · rename_i h t e; rw [e] at ih; simp at ih ⊢; omega
theorem splitC_part {α : Type} [DecidableEq α] (c : α) : ∀ l : List α, ∀ p ∈ splitC c l, p.length ≤ l.length
  | [] => by intro p hp; simp [splitC] at hp; subst hp; simp
  | a :: r => by
    intro p hp
    have ih := splitC_part c r
    unfold splitC at hp
    split at hp
    · rcases List.mem_cons.mp hp with rfl | hp
      · simp
      · have := ih p hp; simp; omega
    · split at hp
      · simp only [List.mem_singleton] at hp; subst hp; simp
      · rename_i h t e
        rw [e] at ih
        rcases List.mem_cons.mp hp with rfl | hp
        · have := ih h (.head _); simp; omega
        · have := ih p (.tail _ hp); simp; omega
theorem root_le {α : Type} [DecidableEq α] (c : α) (l : List α) : (rootL c l).length ≤ 2 := by
  unfold rootL
  split
  · simp
  · split
    · simp
    · split
      · simp
      · rw [List.length_take]; omega
theorem StrL.unpush : ∀ {vs : List Value} {ds : List (List Nat)} {d : List Nat}, StrL vs (ds ++ [d]) → ∃ vs' t, vs = vs' ++ [.str (S d) t] ∧ StrL vs' ds
  | [v], [], d, h => by obtain ⟨⟨t, rfl⟩, _⟩ := h; exact ⟨[], t, rfl, trivial⟩
  | v :: vs, d' :: ds, d, h => by
    obtain ⟨vs', t, rfl, h'⟩ := StrL.unpush (vs := vs) (ds := ds) (d := d) h.2
    exact ⟨v :: vs', t, rfl, h.1, h'⟩
  | [], [], _, h => h.elim
  | [], _ :: _, _, h => h.elim
  | _ :: _ :: _, [], _, h => h.2.elim
theorem news_two {h₀ h : Heap} {L : Addr} {a b : Addr × Obj} {r : List (Addr × Obj)} (N : News h₀ L h (a :: b :: r)) : News h₀ L h [a, b] := fun p hp => N p (by
  rcases List.mem_cons.mp hp with rfl | hp
  · exact .head _
  · rw [List.mem_singleton.mp hp]; exact .tail _ (.head _))
section
variable {α : Type} [DecidableEq α] {dot dd root d q : List α} {acc a' : List (List α)}
theorem st_skip1 (h : d = []) : stepN dot dd root acc d = acc := by simp [stepN, h]
theorem st_skip2 (h : d = dot) : stepN dot dd root acc d = acc := by simp [stepN, h]
theorem st_push1 (h1 : d ≠ []) (h2 : d ≠ dot) (h3 : d ≠ dd) : stepN dot dd root acc d = acc ++ [d] := by simp [stepN, h1, h2, h3]
theorem st_push2 (h1 : d ≠ []) (h2 : d ≠ dot) (h3 : root = []) : stepN dot dd root [] d = [d] := by simp [stepN, h1, h2, h3]
theorem st_push3 (h1 : d ≠ []) (h2 : d ≠ dot) (h3 : q = dd) : stepN dot dd root (a' ++ [q]) d = (a' ++ [q]) ++ [d] := by simp [stepN, h1, h2, h3]
theorem st_none (h1 : d ≠ []) (h2 : d ≠ dot) (h3 : d = dd) (h4 : root ≠ []) : stepN dot dd root [] d = [] := by
  subst h3; simp [stepN, h1, h2, h4]
theorem st_pop (h1 : d ≠ []) (h2 : d ≠ dot) (h3 : d = dd) (h4 : q ≠ dd) : stepN dot dd root (a' ++ [q]) d = a' := by
  subst h3; simp [stepN, h1, h2, h4]
theorem stepN_length : (stepN dot dd root acc d).length ≤ acc.length + 1 := by
  unfold stepN
  split
  · omega
  · split
    · simp
    · simp; omega
end
theorem nS0 {d : List Nat} (h : ((S d).length : Int) = 0) : d = [] := by rw [S_length] at h; exact List.eq_nil_of_length_eq_zero (by omega)
theorem nS1 {d : List Nat} (h : ((S d).length : Int) ≠ 0) : d ≠ [] := by rw [S_length] at h; rintro rfl; simp at h
theorem nS2 {d : List Nat} (h : (S d == Str.ofString ".") = true) : d = [46] := by rw [dot_S, S_beq] at h; simpa using h
theorem nS3 {d : List Nat} (h : (S d == Str.ofString ".") = false) : d ≠ [46] := by rw [dot_S, S_beq] at h; simpa using h
theorem nS4 {d : List Nat} (h : (S d != Str.ofString "..") = true) : d ≠ [46, 46] := by rw [dotdot_S, S_bne] at h; simpa using h
theorem nS5 {d : List Nat} (h : (S d != Str.ofString "..") = false) : d = [46, 46] := by rw [dotdot_S, S_bne] at h; simpa using h
theorem nS6 {d : List Nat} (h : (S d == Str.ofString "..") = true) : d = [46, 46] := by rw [dotdot_S, S_beq] at h; simpa using h
theorem nS7 {d : List Nat} (h : (S d == Str.ofString "..") = false) : d ≠ [46, 46] := by rw [dotdot_S, S_beq] at h; simpa using h
theorem off_two {a b I : Addr} {o o' : Obj} (h1 : a ≠ I) (h2 : b ≠ I) : ∀ p ∈ [(a, o), (b, o')], p.1 ≠ I := by
  intro p hp
  rcases List.mem_cons.mp hp with rfl | hp
  · exact h1
  · rw [List.mem_singleton.mp hp]; exact h2
theorem normS_end {l : List Nat} {m₀ : Str → Option Value} {a b : Addr} {o o' : Obj} {rest : List Value} {d : List Nat} {ds acc acc₂ : List (List Nat)} {xs₂ : Array Value} {e₂ : Nat} {u v : Option Value} {done : List Value} {I : Addr} {it : Obj} {s : Shared} {h₀ h' : Heap} {L : Addr} {tk' : Nat}
    (hst : stepN [46] [46, 46] (rootL 47 l) acc d = acc₂) (hf : (d :: ds).foldl (stepN [46] [46, 46] (rootL 47 l)) acc = compsN 47 [46] [46, 46] (rootL 47 l) (tailL 47 l))
    (hS : StrL rest ds) (hA₂ : StrL xs₂.toList acc₂) (hlen : acc.length + (ds.length + 1) ≤ 1001) (hla : ∀ d ∈ acc, d.length ≤ 1000) (hld : ∀ d' ∈ d :: ds, d'.length ≤ 1000)
    (F : Fr h₀ L h' (fun y => if y = Str.ofString "comp" then v else if y = Str.ofString "comp" then u else m₀ y))
    (N : News h₀ L h' [(I, it), (a, W.listOf xs₂ e₂), (b, o')]) (h1 : a ≠ I) (h2 : b ≠ I) :
    FEnd h₀ L (NormJS l m₀ [(a, o), (b, o')]) done rest I it s { s with heap := h', toks := tk' } := by
  subst hst
  refine ⟨h', tk', _, _, rfl, F, N, off_two h1 h2, xs₂, e₂, _, ds, v, rfl, hS, hf, hA₂, ?_, ?_, fun d' hd => hld d' (.tail _ hd), upd_over⟩
  · have := stepN_length (dot := [46]) (dd := [46, 46]) (root := rootL 47 l) (acc := acc) (d := d); omega
  · intro p hp
    rcases stepN_mem hp with hp | ⟨rfl, _⟩
    · exact hla p hp
    · exact hld p (.head _)
theorem StrL.strsAre : ∀ {vs : List Value} {ds : List (List Nat)}, StrL vs ds → StrsAre vs (ds.map S)
  | [], [], _ => .nil
  | _ :: _, _ :: _, h => by
    obtain ⟨⟨t, rfl⟩, h'⟩ := h
    exact .cons _ _ h'.strsAre
theorem sum_le {α : Type} : ∀ {ds : List (List α)} {k : Nat}, (∀ d ∈ ds, d.length ≤ k) → (ds.map List.length).sum ≤ ds.length * k
  | [], _, _ => by simp
  | d :: ds, k, h => by
    have h1 := h d (.head _)
    have h2 := sum_le fun d' hd => h d' (.tail _ hd)
    simp only [List.map_cons, List.sum_cons, List.length_cons, Nat.succ_mul]
    omega
theorem joinC_length {α : Type} [DecidableEq α] (c : α) : ∀ ps : List (List α), (joinC c ps).length ≤ (ps.map List.length).sum + ps.length
  | [] => by simp [joinC]
  | [x] => by simp [joinC]
  | x :: y :: r => by
    have := joinC_length c (y :: r)
    simp only [joinC, List.length_append, List.length_cons, List.length_nil, List.map_cons, List.sum_cons] at this ⊢
    omega
theorem joinC_bound {α : Type} [DecidableEq α] {c : α} {acc : List (List α)} (hl : acc.length ≤ 1001) (hla : ∀ d ∈ acc, d.length ≤ 1000) : (joinC c acc).length ≤ 1002001 := by
  have h1 := joinC_length c acc
  have h2 := sum_le hla
  have h3 : acc.length * 1000 ≤ 1001 * 1000 := Nat.mul_le_mul_right _ hl
  omega
section
variable {prog : Program} {w : World} {A : Around} {E : Value → Shared → Prop} {s : Shared} {h₀ : Heap} {L D : Addr} {news : List (Addr × Obj)} {e : Nat} {xs : Array Value} {t : Tok}
theorem join_led {acc : List (List Nat)} {Q : Value → Shared → Prop} (N : News h₀ L s.heap news) (hm : (D, W.listOf xs e) ∈ news) (hA : StrL xs.toList acc) (hl : acc.length ≤ 1001) (hla : ∀ d ∈ acc, d.length ≤ 1000)
    (h : ∀ t' k, (S (joinC 47 acc)).length ≤ 1002001 → Q (.str (S (joinC 47 acc)) t') { s with toks := k }) : wpAny (model prog w) A (call (.builtin "str.join") [.str (Str.ofString "/") t, .ref D]) Q E s := by
  refine join_list (led_list N hm) hA.strsAre ?_ fun t' k => ?_
  · rw [List.length_map, List.map_map]
    have e1 : (List.length : List Nat → Nat) = ((fun x : Str => x.length) ∘ S) := by funext d; exact (S_length d).symm
    have e2 : (Str.ofString "/").length = 1 := by decide +kernel
    have h2 := sum_le hla
    rw [e1] at h2
    rw [e2, Nat.mul_one]
    have h3 : acc.length * 1000 ≤ 1001 * 1000 := Nat.mul_le_mul_right _ hl
    omega
  · have e3 : Txt.join (Str.ofString "/") (acc.map S) = S (joinC 47 acc) := by
      rw [slash_S, ← S_join]
      exact StrLaws.glued_eq_join _ _
    rw [e3]
    exact h t' k (by rw [S_length]; exact joinC_bound hl hla)
end
local macro_rules | `(tactic| walk_at "call builtin:str.join") => `(tactic| (k_here; (with_reducible rename StrL _ _ => hA'); k_dflt (refine' join_led ?N ?m hA' ?l ?d ?_; (case N => k_asm); (case m => k_mem); (case l => omega); (case d => assumption); k_whole; intro t' k' hj')))
theorem norm_a {α : Type} [DecidableEq α] {c : α} {dot dd l : List α} (h : l = []) : normN c dot dd l = dot := by simp [normN, h]
theorem norm_b {α : Type} [DecidableEq α] {c : α} {dot dd l : List α} (h : l ≠ []) (h2 : rootL c l ++ joinC c (compsN c dot dd (rootL c l) (tailL c l)) ≠ []) : normN c dot dd l = rootL c l ++ joinC c (compsN c dot dd (rootL c l) (tailL c l)) := by
  unfold normN; rw [if_neg h, if_neg h2]
theorem norm_c {α : Type} [DecidableEq α] {c : α} {dot dd l : List α} (h : l ≠ []) (h2 : rootL c l ++ joinC c (compsN c dot dd (rootL c l) (tailL c l)) = []) : normN c dot dd l = dot := by
  unfold normN; rw [if_neg h, if_pos h2]
local macro_rules | `(tactic| size_fits) => `(tactic| ((try simp only [List.size_toArray, List.length_append, List.length_cons, List.length_nil, PySem.sizeLine_eq]); omega))
section
variable {w : World} {s₀ : Shared} {mg mb : Str → Option Value}
theorem norm_str (l : List Nat) (t : Tok) (hx0 : l.length ≤ 1000) : Ct w s₀ mg mb 8 164 [.str (S l) t] (RStr (S (normN 47 [46] [46, 46] l))) := by
  intro dp un gd base outer s Q E B X T hdp hun k
  (revert X; k_fill; intro X)
  refine wpAny_call ?_
  k_dflt cell_enter
  have ht := tail_le 47 l
  have hx : (S l).length ≤ 4096 := by rw [S_length]; omega
  have hr : (S (tailL 47 l)).length ≤ 4096 := by rw [S_length]; omega
  have hrt : (S (rootL 47 l)).length ≤ 2 := by rw [S_length]; exact root_le 47 l
  repeat' ((fail_if_success (with_reducible show wpAny _ _ (exec (Stmt.For _ _ _ _ _) _) _ _ _)); (first | (k_unfold; (try dsimp only)) | (k_end; kc_close) | walk1 | (dsimp only; walk1) | (leave1; (try dsimp only)) | fail "no step"))
  rotate_left
  · (rename Fr _ _ _ _ => F9)
    ((try dsimp only); (try k_unfold); (try dsimp only))
    exact k _ _ _ F9.keep ⟨_, by rw [norm_a (nS0 (by with_reducible assumption)), dot_S]⟩
  · (rename Fr _ _ _ _ => F9)
    (rename News _ _ _ _ => N9)
    have hsp := strL_values (((by assumption : List.map _ _ = Txt.split (S (tailL 47 l)) (Str.ofString "/"))).trans (split_S _))
    refine for_fr F9 (news_two N9) rfl (List.mem_cons_of_mem _ (List.mem_singleton.mpr rfl)) rfl rfl rfl rfl ?ev
      (NormJS l) ⟨#[], 0, [], _, _, rfl, hsp, rfl, trivial, ?len, (fun _ h => nomatch h), ?part, upd_same _⟩ ?mem ?step ?fin
    case len => have := splitC_length 47 (tailL 47 l); simp only [List.length_nil]; omega
    case part => intro d hd; have := splitC_part 47 _ d hd; omega
    case mem => rintro done rest m news ⟨xs, e, acc, ds, u, rfl, _⟩; exact .tail _ (.head _)
    case ev =>
      clear hsp
      k_steps
      all_goals exact ⟨rfl, rfl⟩
    case step =>
      clear F9 N9
      rintro done v rest m news I it h' tk' ⟨xs, e, acc, ds, u, rfl, hS, hf, hA, hlen, hla, hld, rfl⟩ hit hI F' N'
      match ds, hS with
      | d :: ds, hS1 =>
      obtain ⟨⟨td, rfl⟩, hS2⟩ := hS1
      dsimp only at N' hI F' ⊢
      simp only [List.length_cons] at hlen
      replace hI := allNe_of hI
      simp only [AllNe, and_true] at hI
      have hd1 : (S d).length ≤ 1000 := by rw [S_length]; exact hld d (.head _)
      have hxs : xs.size ≤ 4097 := by have := hA.length; rw [← Array.length_toList]; omega
      rcases List.eq_nil_or_concat acc with rfl | ⟨acc', q, hacc⟩
      · have hxe : xs = #[] := by have := hA.length; exact Array.eq_empty_of_size_eq_zero (by rw [← Array.length_toList]; simpa using this)
        subst hxe
        k_steps
        all_goals ((try dsimp only); (rename Fr _ _ _ _ => F9); (rename News _ _ _ _ => N9))
        · exact normS_end (st_skip2 (nS2 (by with_reducible assumption))) hf hS2 hA hlen hla hld F9 N9 hI.1 hI.2
        · exact normS_end (st_push1 (nS1 (by with_reducible assumption)) (nS3 (by with_reducible assumption)) (nS4 (by with_reducible assumption))) hf hS2 (by exact ⟨⟨_, rfl⟩, trivial⟩) hlen hla hld F9 N9 hI.1 hI.2
        · exact normS_end (st_none (nS1 (by with_reducible assumption)) (nS3 (by with_reducible assumption)) (nS5 (by with_reducible assumption)) (nS1 (by with_reducible assumption))) hf hS2 hA hlen hla hld F9 N9 hI.1 hI.2
        · exact normS_end (st_push2 (nS1 (by with_reducible assumption)) (nS3 (by with_reducible assumption)) (nS0 (by with_reducible assumption))) hf hS2 (by exact ⟨⟨_, rfl⟩, trivial⟩) hlen hla hld F9 N9 hI.1 hI.2
        · exact normS_end (st_skip1 (nS0 (by with_reducible assumption))) hf hS2 hA hlen hla hld F9 N9 hI.1 hI.2
      · rw [List.concat_eq_append] at hacc
        subst hacc
        obtain ⟨vs', tq, hxe, hA'⟩ := hA.unpush
        have hxe' : xs = (vs' ++ [Value.str (S q) tq]).toArray := by rw [← hxe]
        subst hxe'
        have hvl : vs'.length ≤ 1000 := by have := hA'.length; rw [List.length_append] at hlen; omega
        k_steps
        all_goals ((try dsimp only); (rename Fr _ _ _ _ => F9); (rename News _ _ _ _ => N9))
        · exact normS_end (st_skip2 (nS2 (by with_reducible assumption))) hf hS2 hA hlen hla hld F9 N9 hI.1 hI.2
        · exact normS_end (st_push1 (nS1 (by with_reducible assumption)) (nS3 (by with_reducible assumption)) (nS4 (by with_reducible assumption))) hf hS2 (by rw [Array.toList_push]; exact hA.push) hlen hla hld F9 N9 hI.1 hI.2
        · exact normS_end (st_push3 (nS1 (by with_reducible assumption)) (nS3 (by with_reducible assumption)) (nS6 (by with_reducible assumption))) hf hS2 (by rw [Array.toList_push]; exact hA.push) hlen hla hld F9 N9 hI.1 hI.2
        · exact normS_end (st_pop (nS1 (by with_reducible assumption)) (nS3 (by with_reducible assumption)) (nS5 (by with_reducible assumption)) (nS7 (by with_reducible assumption))) hf hS2 hA' hlen hla hld F9 N9 hI.1 hI.2
        · exact normS_end (st_push3 (nS1 (by with_reducible assumption)) (nS3 (by with_reducible assumption)) (nS6 (by with_reducible assumption))) hf hS2 (by rw [Array.toList_push]; exact hA.push) hlen hla hld F9 N9 hI.1 hI.2
        · exact normS_end (st_pop (nS1 (by with_reducible assumption)) (nS3 (by with_reducible assumption)) (nS5 (by with_reducible assumption)) (nS7 (by with_reducible assumption))) hf hS2 hA' hlen hla hld F9 N9 hI.1 hI.2
        · exact normS_end (st_skip1 (nS0 (by with_reducible assumption))) hf hS2 hA hlen hla hld F9 N9 hI.1 hI.2
    case fin =>
      clear F9 N9
      rintro m news h' tk' ⟨xs, e, acc, ds, u, rfl, hS, hf, hA, hlen, hla, hld, rfl⟩ F' N'
      match ds, hS with
      | [], hS1 =>
      dsimp only at N' F' ⊢
      clear hsp hS hS1
      simp only [List.length_nil, Nat.add_zero] at hlen
      have hfa : acc = compsN 47 [46] [46, 46] (rootL 47 l) (tailL 47 l) := hf
      have hl0 := nS1 (d := l) (by with_reducible assumption)
      k_steps
      all_goals ((try dsimp only); (try k_unfold); (try dsimp only); (rename Fr _ _ _ _ => F9))
      · have hne := nS1 (d := rootL 47 l ++ joinC 47 acc) (by rw [← S_append]; assumption)
        exact k _ _ _ F9.keep ⟨_, by rw [S_append, hfa, norm_b hl0 (hfa ▸ hne)]⟩
      · have hne := nS0 (d := rootL 47 l ++ joinC 47 acc) (by rw [← S_append]; assumption)
        exact k _ _ _ F9.keep ⟨_, by rw [dot_S, norm_c hl0 (hfa ▸ hne)]⟩
end
noncomputable def glueH {α : Type} (q : List α) : List (List α) → List (List α)
  | [] => [q]
  | h :: t => (q ++ h) :: t
theorem glueH_nil {α : Type} [DecidableEq α] (c : α) (l : List α) : glueH [] (splitC c l) = splitC c l := by
  cases h : splitC c l with
  | nil => exact absurd h (splitC_ne c l)
  | cons a r => rfl
theorem occ_fold (p : Nat → Bool) : ∀ (n k f : Nat) (ps : List Nat), f ≤ k →
    ((List.range' k n).foldl (fun (acc : List Nat × Nat) i => if i ≥ acc.2 && p i then (i :: acc.1, i + 1) else acc) (ps, f)).1 = ((List.range' k n).filter p).reverse ++ ps
  | 0, k, f, ps, _ => by simp
  | n + 1, k, f, ps, h => by
    rw [List.range'_succ, List.foldl_cons]
    have hk : decide (k ≥ f) = true := decide_eq_true h
    by_cases hp : p k = true
    · simp only [hk, hp, Bool.and_self, if_true]
      rw [occ_fold p n (k + 1) (k + 1) (k :: ps) (Nat.le_refl _), List.filter_cons, if_pos hp]
      simp
    · have hp' : p k = false := by simpa using hp
      simp only [hp', Bool.and_false, Bool.false_eq_true, if_false]
      rw [occ_fold p n (k + 1) f ps (by omega), List.filter_cons, if_neg (by simp [hp'])]
noncomputable def at47 (l : List UInt8) (i : Nat) : Bool := l.toArray.extract i (i + 1) == #[47]
theorem at47_eq (l : List UInt8) (i : Nat) : at47 l i = decide ((l.drop i).take 1 = [47]) := by
  unfold at47
  rw [Bool.eq_iff_iff]
  simp only [beq_iff_eq, decide_eq_true_eq]
  rw [List.extract_toArray]
  constructor
  · intro h
    have := congrArg Array.toList h
    simpa [List.extract_eq_take_drop] using this
  · intro h
    simp [List.extract_eq_take_drop, h]
theorem occ_eq (l : List UInt8) : Bytes.occurrences l.toArray #[47] 0 l.toArray.size = (List.range' 0 l.length).filter (at47 l) := by
  unfold Bytes.occurrences
  have e : (List.range (l.toArray.size + 1 - (0 + (#[47] : Array UInt8).size))).map (· + 0) = List.range' 0 l.length := by
    simp [List.range_eq_range']
  rw [e]
  have := occ_fold (at47 l) l.length 0 0 [] (Nat.le_refl _)
  rw [List.append_nil] at this
  rw [← List.reverse_reverse ((List.range' 0 l.length).filter (at47 l)), ← this]
  rfl
theorem betw_fold (l : List UInt8) : ∀ (n k last : Nat) (parts : Array (Array UInt8)), k + n = l.length → last ≤ k →
    (let r := ((List.range' k n).filter (at47 l)).foldl (fun (x : Array (Array UInt8) × Nat) p => (x.1.push (l.toArray.extract x.2 p), p + 1)) (parts, last)
     (r.1.push (l.toArray.extract r.2 l.toArray.size)).toList) = parts.toList ++ (glueH ((l.drop last).take (k - last)) (splitC 47 (l.drop k))).map List.toArray
  | 0, k, last, parts, h1, h2 => by
    have hk : k = l.length := by omega
    subst hk
    simp [splitC, glueH, List.extract_eq_take_drop]
  | n + 1, k, last, parts, h1, h2 => by
    have hk : k < l.length := by omega
    have hd : l.drop k = l[k] :: l.drop (k + 1) := List.drop_eq_getElem_cons hk
    rw [List.range'_succ, List.filter_cons]
    by_cases hp : at47 l k = true
    · rw [if_pos hp, List.foldl_cons]
      have h47 : l[k] = 47 := by
        rw [at47_eq, decide_eq_true_eq, hd, List.take_succ_cons, List.take_zero] at hp
        exact (List.cons.inj hp).1
      have ih := betw_fold l n (k + 1) (k + 1) (parts.push (l.toArray.extract last k)) (by omega) (Nat.le_refl _)
      simp only at ih ⊢
      rw [ih, hd, h47]
      simp [splitC, glueH, glueH_nil, List.extract_eq_take_drop]
      cases hs : splitC 47 (l.drop (k + 1)) with
      | nil => exact absurd hs (splitC_ne _ _)
      | cons a r => simp [glueH]
    · rw [if_neg hp]
      have h47 : l[k] ≠ 47 := by
        rw [at47_eq, decide_eq_true_eq, hd, List.take_succ_cons, List.take_zero] at hp
        intro e
        exact hp (by rw [e])
      have ih := betw_fold l n (k + 1) last parts (by omega) (by omega)
      simp only at ih ⊢
      rw [ih, hd]
      have e : (l.drop last).take (k + 1 - last) = (l.drop last).take (k - last) ++ [l[k]] := by
        have e1 : k + 1 - last = (k - last) + 1 := by omega
        rw [e1, List.take_add_one]
        congr 1
        rw [List.getElem?_drop]
        have e2 : last + (k - last) = k := by omega
        rw [e2, List.getElem?_eq_getElem hk]
        rfl
      rw [e]
      simp only [splitC, h47, if_false]
      cases hs : splitC 47 (l.drop (k + 1)) with
      | nil => exact absurd hs (splitC_ne _ _)
      | cons a r => simp [glueH]
theorem betw_eq (l : List UInt8) : Bytes.between l.toArray (#[47] : Array UInt8).size ((List.range' 0 l.length).filter (at47 l)) = (splitC 47 l).map List.toArray := by
  have := betw_fold l l.length 0 0 #[] (by omega) (Nat.le_refl _)
  simp only [List.drop_zero, Nat.sub_self, List.take_zero, glueH_nil, Array.toList_empty, List.nil_append] at this
  rw [← this]
  rfl
theorem slot_bytes_split : Slot "bytes" "split" "bytes.split" :=
  .of (owner := "bytes") (n := "split") (by rw [typeLookup_type, builtinLookup_eq_fast]; kernel_rfl) (by decide +kernel) (by decide +kernel) (by decide +kernel)
    (by first | exact .inl (by decide +kernel) | exact .inr (by decide +kernel)) (by rw [isSubtype_type]; kernel_rfl)
theorem type_bytes_split : typeOf (.builtin "bytes.split") = pure (.type "method_descriptor") := by show builtinType _ = _; rw [builtinType_eq_fast]; kernel_rfl
theorem entry_bytes_split : entryFor table "bytes.split" = some Builtin.«bytes.split» := entryFor_of_tree (by kernel_rfl)
theorem args_bytes_split (a b : Value) : argsOk "bytes.split" ⟨[a, b], []⟩ := by
  unfold argsOk; rw [signature?_of (id := "bytes.split") (n := ['t', 'i', 'l', 'p', 's']) (o := ['s', 'e', 't', 'y', 'b']) (by kernel_rfl) FB.owner_bytes]; kernel_rfl
theorem slot_bytes_join : Slot "bytes" "join" "bytes.join" :=
  .of (owner := "bytes") (n := "join") (by rw [typeLookup_type, builtinLookup_eq_fast]; kernel_rfl) (by decide +kernel) (by decide +kernel) (by decide +kernel)
    (by first | exact .inl (by decide +kernel) | exact .inr (by decide +kernel)) (by rw [isSubtype_type]; kernel_rfl)
theorem type_bytes_join : typeOf (.builtin "bytes.join") = pure (.type "method_descriptor") := by show builtinType _ = _; rw [builtinType_eq_fast]; kernel_rfl
theorem entry_bytes_join : entryFor table "bytes.join" = some Builtin.«bytes.join» := entryFor_of_tree (by kernel_rfl)
theorem args_bytes_join (a b : Value) : argsOk "bytes.join" ⟨[a, b], []⟩ := by
  unfold argsOk; rw [signature?_of (id := "bytes.join") (n := ['n', 'i', 'o', 'j']) (o := ['s', 'e', 't', 'y', 'b']) (by kernel_rfl) FB.owner_bytes]; kernel_rfl
theorem mapM_bytes {M : Model} {A : Around} {E : Value → Shared → Prop} : ∀ (ds : List (List UInt8)) (s : Shared) (Q : List Value → Shared → Prop), (∀ d ∈ ds, d.length ≤ 4096) → (∀ vs tk, BytL vs ds → Q vs { s with toks := tk }) →
    wpAny M A ((ds.map List.toArray).mapM Bytes.Kind.bytes.new) Q E s
  | [], s, Q, _, h => by rw [List.map_nil, List.mapM_nil]; exact wpAny_pure (h [] s.toks trivial)
  | d :: ds, s, Q, hd, h => by
    rw [List.map_cons, List.mapM_cons]
    refine wpAny_bind ?_
    show wpAny M A (mkBytes d.toArray) _ E s
    refine wpAny_mkBytes (wpAny_bind (mapM_bytes ds _ _ (fun d' hd' => hd d' (.tail _ hd')) fun vs tk hv => wpAny_pure ?_)) (by have := hd d (.head _); rw [List.size_toArray, sizeLine_eq]; omega)
    exact h _ tk ⟨⟨_, rfl⟩, hv⟩
theorem meets_bsplit (l : List UInt8) (t u : Tok) (hl : l.length ≤ 4096) :
    Meets («bytes.split» ⟨[.bytes l.toArray t, .bytes #[47] u], []⟩) (fun _ R s => ∀ vs tk, BytL vs (splitC 47 l) → R (.ok (.ret (.ref s.heap.objs.size))) { s with heap := s.heap.push { cls := .type "list", data := .seq vs.toArray }, toks := tk }) := by
  refine .of_wp fun prog w A R s hS => ?_
  have hT : s.TypeIs (.bytes l.toArray t) "bytes" := rfl
  unfold «bytes.split»
  repeat (any_goals (first | assumption | ((with_reducible show wpAny _ _ (Bytes.bytesLike _ _) _ _ _); refine wpAny_of_eq (KBd.like_eq (b := #[47]) (t := u)) ?_) | wp_step))
  have ep : (if false = true then Bytes.occurrencesFromRight l.toArray #[47] (if (-1 : Int) < 0 then l.toArray.size + 1 else (-1 : Int).toNat) else List.take (if (-1 : Int) < 0 then l.toArray.size + 1 else (-1 : Int).toNat) (Bytes.occurrences l.toArray #[47] 0 l.toArray.size)) = (List.range' 0 l.length).filter (at47 l) := by
    rw [if_neg Bool.false_ne_true, if_pos (by decide), occ_eq]
    refine List.take_of_length_le ?_
    have := List.length_filter_le (at47 l) (List.range' 0 l.length)
    rw [List.length_range'] at this
    rw [List.size_toArray]; omega
  rw [ep]
  have hparts : ∀ d ∈ splitC 47 l, d.length ≤ 4096 := fun d hd => Nat.le_trans (splitC_part 47 l d hd) hl
  have hcount : (splitC 47 l).length ≤ 4097 := Nat.le_trans (splitC_length 47 l) (by omega)
  by_cases he : ((List.range' 0 l.length).filter (at47 l)).isEmpty = true
  · rw [if_pos he]
    have hone : splitC 47 l = [l] := by
      have e := betw_eq l
      rw [List.isEmpty_iff.mp he] at e
      have e2 : Bytes.between l.toArray (#[47] : Array UInt8).size [] = [l.toArray] := by
        show [l.toArray.extract 0 l.toArray.size] = _
        simp
      rw [e2] at e
      have e3 := congrArg (List.map Array.toList) e
      simpa [List.map_map, Function.comp_def] using e3.symm
    repeat (any_goals (first | assumption | wp_step))
    have h' := hS [.bytes l.toArray t] s.toks (by rw [hone]; exact ⟨⟨t, rfl⟩, trivial⟩)
    exact ⟨_, rfl, h'⟩
  · rw [if_neg he, betw_eq]
    refine wpAny_bind (mapM_bytes _ _ _ hparts fun vs tk hv => ?_)
    refine wpAny_bind (wpAny_newObj_type ?_ (by show vs.toArray.size ≤ sizeLine; rw [List.size_toArray, sizeLine_eq, hv.length]; omega))
    exact wpAny_pure ⟨_, rfl, hS vs tk hv⟩
section
variable {prog : Program} {w : World} {A : Around} {E : Value → Shared → Prop} {s : Shared} {h₀ : Heap} {L : Addr} {m : Str → Option Value} {news : List (Addr × Obj)}
theorem bsplit {l : List UInt8} {t u : Tok} {Q : Value → Shared → Prop} (F : Fr h₀ L s.heap m) (N : News h₀ L s.heap news) (hl : l.length ≤ 4096)
    (h : ∀ vs D h' tk, BytL vs (splitC 47 l) → Fr h₀ L h' m → News h₀ L h' ((D, W.listOf vs.toArray 0) :: news) → (∀ p ∈ news, p.1 < D) → Q (.ref D) { s with heap := h', toks := tk }) :
    wpAny (model prog w) A (call (.builtin "bytes.split") [.bytes l.toArray t, .bytes #[47] u]) Q E s :=
  call_meets slot_bytes_split (typeIs_bytes _ _ _) entry_bytes_split (args_bytes_split _ _) (meets_bsplit l t u hl) fun vs tk hv => h vs _ _ tk hv (F.push _) (News.push F N _ rfl) fun p hp => Heap.lt_size (N p hp).1
theorem bsplit_m {M : Model} {b : Array UInt8} {t : Tok} {pl : Sem Bool} {Q : Value × List Value → Shared → Prop} (h : Q (.builtin "bytes.split", [.bytes b t]) s) : wpAny M A (getMethod (.bytes b t) "split" pl) Q E s := by
  with_reducible exact KBd.method_of (.bytes b t) (typeIs_bytes _ _ _) slot_bytes_split type_bytes_split KBd.noRef h
theorem bjoin_m {M : Model} {b : Array UInt8} {t : Tok} {pl : Sem Bool} {Q : Value × List Value → Shared → Prop} (h : Q (.builtin "bytes.join", [.bytes b t]) s) : wpAny M A (getMethod (.bytes b t) "join" pl) Q E s := by
  with_reducible exact KBd.method_of (.bytes b t) (typeIs_bytes _ _ _) slot_bytes_join type_bytes_join KBd.noRef h
end
theorem take_eq {b : Array UInt8} {t : Tok} {id : String} : Bytes.takeBufferQuiet? id (.bytes b t) 0 = pure (some (b, none)) := by
  have h1 : Bytes.takeBuffer? id (.bytes b t) 0 = pure (some (b, none)) := by
    unfold Bytes.takeBuffer?
    rw [KBy.special_eq KBy.look_buffer, KBy.own_buffer]
    show (Bytes.buffer? id (.bytes b t) (full := ((0 : Int) == _)) >>= _) = _
    have e : Bytes.buffer? id (.bytes b t) (full := ((0 : Int) == Bytes.fullReadOnly)) = pure (some b) := KBy.buffer_eq
    rw [e]
    rfl
  unfold Bytes.takeBufferQuiet?
  rw [h1]
  rfl
theorem joinC_flat {α : Type} [DecidableEq α] (c : α) : ∀ (d : List α) (r : List (List α)), joinC c (d :: r) = d ++ r.flatMap (fun x => c :: x)
  | d, [] => by simp [joinC]
  | d, y :: r => by
    rw [show joinC c (d :: y :: r) = d ++ ([c] ++ joinC c (y :: r)) from rfl, joinC_flat c y r]
    simp
theorem joined_rest : ∀ (r : List (List UInt8)) (k : Nat) (out : Array UInt8), 0 < k →
    ((r.map List.toArray).zipIdx k).foldl (fun out (x : Array UInt8 × Nat) => (if x.2 > 0 then out ++ #[47] else out) ++ x.1) out = out ++ (r.flatMap (fun x => 47 :: x)).toArray
  | [], k, out, _ => by simp
  | d :: r, k, out, hk => by
    rw [List.map_cons, List.zipIdx_cons, List.foldl_cons, joined_rest r (k + 1) _ (by omega)]
    simp [hk]
theorem joined_eq (ds : List (List UInt8)) : Bytes.joined #[47] (ds.map List.toArray) = (joinC 47 ds).toArray := by
  cases ds with
  | nil => rfl
  | cons d r =>
    unfold Bytes.joined
    rw [List.map_cons, List.zipIdx_cons, List.foldl_cons]
    have := joined_rest r 1 d.toArray (by decide)
    simp only [Nat.lt_irrefl, gt_iff_lt, if_false, Nat.zero_add, Array.empty_append] at this ⊢
    rw [this, joinC_flat]
    simp
theorem range_loop {M : Model} {A : Around} {E : Value → Shared → Prop} {β : Type} {s : Shared} {F : Nat → β → Sem (ForInStep β)} (f : Nat → β) (n : Nat)
    (step : ∀ i (Q : ForInStep β → Shared → Prop), i < n → Q (.yield (f (i + 1))) s → wpAny M A (F i (f i)) Q E s) :
    ∀ (k i : Nat) (Q : β → Shared → Prop), i + k = n → Q (f n) s → wpAny M A (forIn (List.range' i k) (f i) F) Q E s
  | 0, i, Q, h, q => by
    have : i = n := by omega
    subst this
    simp only [List.range'_zero, List.forIn_nil]
    exact wpAny_pure q
  | k + 1, i, Q, h, q => by
    rw [List.range'_succ, List.forIn_cons]
    refine wpAny_bind (step i _ (by omega) ?_)
    exact range_loop f n step k (i + 1) Q (by omega) q
theorem letGo_all {M : Model} {A : Around} {E : Value → Shared → Prop} {s : Shared} {keep : List Value} : ∀ (vs : List Value) (Q : Unit → Shared → Prop), Q () s → wpAny M A (Bytes.joinLetGo (vs.map fun v => (v, none)) keep) Q E s
  | [], Q, h => wpAny_pure h
  | v :: vs, Q, h => by
    rw [List.map_cons]
    unfold Bytes.joinLetGo
    refine wpAny_bind (wpAny_letGo ?_)
    exact letGo_all vs Q h
theorem BytL.get : ∀ {vs : List Value} {ds : List (List UInt8)} {i : Nat} (h : BytL vs ds) (hi : i < vs.length), ∃ d t, ds[i]? = some d ∧ vs[i]? = some (.bytes d.toArray t)
  | [], [], i, _, hi => absurd hi (Nat.not_lt_zero _)
  | v :: vs, d :: ds, 0, h, _ => by obtain ⟨⟨t, rfl⟩, _⟩ := h; exact ⟨d, t, rfl, rfl⟩
  | v :: vs, d :: ds, i + 1, h, hi => by
    obtain ⟨d', t', h1, h2⟩ := BytL.get (i := i) h.2 (by simpa using hi)
    exact ⟨d', t', by simpa using h1, by simpa using h2⟩
theorem BytL.notHeap : ∀ {vs : List Value} {ds : List (List UInt8)}, BytL vs ds → ∀ v ∈ vs, v.onHeap = false
  | v :: vs, d :: ds, h, x, hx => by
    rcases List.mem_cons.mp hx with rfl | hx
    · obtain ⟨⟨t, rfl⟩, _⟩ := h; rfl
    · exact BytL.notHeap h.2 x hx
theorem foldl_sizes : ∀ (ds : List (List UInt8)) (k : Nat), (ds.map List.toArray).foldl (fun (a : Nat) (x : Array UInt8) => a + x.size) k = k + (ds.map List.length).sum
  | [], k => by simp
  | d :: ds, k => by
    rw [List.map_cons, List.foldl_cons, foldl_sizes ds]
    simp
    omega
theorem meets_bjoin (D : Addr) (vs : List Value) (n : Nat) (ds : List (List UInt8)) (t : Tok) (hv : BytL vs ds) (hl : ds.length ≤ 1001) (hd : ∀ d ∈ ds, d.length ≤ 1000) :
    Meets («bytes.join» ⟨[.bytes #[47] t, .ref D], []⟩) (fun _ R s => s.heap.get? D = some (W.listOf vs.toArray n) ∧ ∀ t' k, R (.ok (.ret (.bytes (joinC 47 ds).toArray t'))) { s with toks := k }) := by
  refine .of_wp fun prog w A R s hS => ?_
  obtain ⟨ho, h⟩ := hS
  have hT : s.TypeIs (.ref D) "list" := ⟨_, ho, rfl⟩
  have hlen := hv.length
  unfold «bytes.join»
  repeat (any_goals (first | assumption | wp_step))
  match vs, ds, hv with
  | [v], [d], hv =>
    obtain ⟨⟨tv, rfl⟩, _⟩ := hv
    repeat (any_goals (first | assumption | wp_step))
    exact ⟨_, rfl, h tv s.toks⟩
  | [], [], hv =>
    wp_step
    have hb : BytL ([] : List Value) [] := hv
    generalize hvs : ([] : List Value) = vs0 at hv ho hlen ⊢
    generalize hds : ([] : List (List UInt8)) = ds0 at hv hl hd h hlen ⊢
    refine wpAny_bind ?_
    rw [Std.Legacy.Range.forIn_eq_forIn_range']
    refine range_loop (fun i => (((ds0.take i).map List.toArray).toArray, (vs0.take i).map fun v => (v, none))) vs0.toArray.size ?step _ 0 _ ?len ?rest
    case step =>
      intro i Q hi q
      rw [List.size_toArray] at hi
      obtain ⟨di, ti, hdi, hvi⟩ := hv.get hi
      have hg : vs0.toArray.getD i .none = .bytes di.toArray ti := by
        rw [Array.getD_eq_getD_getElem?, List.getElem?_toArray, hvi]; rfl
      have hany : ((vs0.take i).map fun v => ((v, none) : Value × Option Value)).any (fun x => x.1.onHeap) = false := by
        rw [List.any_eq_false]
        intro x hx
        obtain ⟨y, hy, rfl⟩ := List.mem_map.mp hx
        have := hv.notHeap y (List.mem_of_mem_take hy)
        simp [this]
      have hnext : ((((ds0.take (i + 1)).map List.toArray).toArray, (vs0.take (i + 1)).map fun v => ((v, none) : Value × Option Value)) : Array (Array UInt8) × List (Value × Option Value)) = ((((ds0.take i).map List.toArray).toArray.push di.toArray), ((vs0.take i).map fun v => (v, none)) ++ [(.bytes di.toArray ti, none)]) := by
        rw [List.take_add_one, List.take_add_one, hdi, hvi]; simp
      refine wpAny_bind (wpAny_seqItems ho rfl ?_)
      dsimp only
      rw [hany, if_neg (by decide), hg]
      refine wpAny_bind (wpAny_holding (wpAny_of_eq take_eq ?_))
      dsimp only
      refine wpAny_bind (wpAny_seqItems ho rfl ?_)
      dsimp only
      rw [if_neg (by simp)]
      rw [hnext] at q
      exact wpAny_pure q
    case len => simp
    case rest =>
      have e1 : ds0.take vs0.toArray.size = ds0 := List.take_of_length_le (by rw [List.size_toArray]; omega)
      have e2 : vs0.take vs0.toArray.size = vs0 := List.take_of_length_le (by rw [List.size_toArray]; omega)
      rw [e1, e2]
      dsimp only
      refine wpAny_bind (wpAny_of_eq (a := #[47]) rfl ?_)
      have hsum := sum_le hd
      have h3 : ds0.length * 1000 ≤ 1001 * 1000 := Nat.mul_le_mul_right _ hl
      have hlong : Bytes.tooLong (Array.foldl (fun (x1 : Nat) (x2 : Array UInt8) => x1 + x2.size) ((#[47] : Array UInt8).size * ((ds0.map List.toArray).toArray.size - 1)) (ds0.map List.toArray).toArray) = false := by
        rw [List.foldl_toArray, foldl_sizes]
        refine KBy.tooLong_not ?_
        simp
        omega
      rw [hlong, if_neg Bool.false_ne_true]
      refine wpAny_bind ?_
      show wpAny _ _ (mkBytes (Bytes.joined #[47] (ds0.map List.toArray))) _ _ _
      rw [joined_eq]
      refine wpAny_mkBytes ?_ (by rw [List.size_toArray, sizeLine_eq]; have := joinC_bound (c := (47 : UInt8)) hl hd; omega)
      refine wpAny_bind (wpAny_holding (wpAny_point ?_))
      refine wpAny_bind (letGo_all vs0 _ ?_)
      exact wpAny_pure ⟨_, rfl, h _ _⟩
  | v :: v' :: r, d :: d' :: dr, hv =>
    wp_step
    generalize hvs : v :: v' :: r = vs0 at *
    generalize hds : d :: d' :: dr = ds0 at *
    refine wpAny_bind ?_
    rw [Std.Legacy.Range.forIn_eq_forIn_range']
    refine range_loop (fun i => (((ds0.take i).map List.toArray).toArray, (vs0.take i).map fun v => (v, none))) vs0.toArray.size ?step _ 0 _ ?len ?rest
    case step =>
      intro i Q hi q
      rw [List.size_toArray] at hi
      obtain ⟨di, ti, hdi, hvi⟩ := hv.get hi
      have hg : vs0.toArray.getD i .none = .bytes di.toArray ti := by
        rw [Array.getD_eq_getD_getElem?, List.getElem?_toArray, hvi]; rfl
      have hany : ((vs0.take i).map fun v => ((v, none) : Value × Option Value)).any (fun x => x.1.onHeap) = false := by
        rw [List.any_eq_false]
        intro x hx
        obtain ⟨y, hy, rfl⟩ := List.mem_map.mp hx
        have := hv.notHeap y (List.mem_of_mem_take hy)
        simp [this]
      have hnext : ((((ds0.take (i + 1)).map List.toArray).toArray, (vs0.take (i + 1)).map fun v => ((v, none) : Value × Option Value)) : Array (Array UInt8) × List (Value × Option Value)) = ((((ds0.take i).map List.toArray).toArray.push di.toArray), ((vs0.take i).map fun v => (v, none)) ++ [(.bytes di.toArray ti, none)]) := by
        rw [List.take_add_one, List.take_add_one, hdi, hvi]; simp
      refine wpAny_bind (wpAny_seqItems ho rfl ?_)
      dsimp only
      rw [hany, if_neg (by decide), hg]
      refine wpAny_bind (wpAny_holding (wpAny_of_eq take_eq ?_))
      dsimp only
      refine wpAny_bind (wpAny_seqItems ho rfl ?_)
      dsimp only
      rw [if_neg (by simp)]
      rw [hnext] at q
      exact wpAny_pure q
    case len => simp
    case rest =>
      have e1 : ds0.take vs0.toArray.size = ds0 := List.take_of_length_le (by rw [List.size_toArray]; omega)
      have e2 : vs0.take vs0.toArray.size = vs0 := List.take_of_length_le (by rw [List.size_toArray]; omega)
      rw [e1, e2]
      dsimp only
      refine wpAny_bind (wpAny_of_eq (a := #[47]) rfl ?_)
      have hsum := sum_le hd
      have h3 : ds0.length * 1000 ≤ 1001 * 1000 := Nat.mul_le_mul_right _ hl
      have hlong : Bytes.tooLong (Array.foldl (fun (x1 : Nat) (x2 : Array UInt8) => x1 + x2.size) ((#[47] : Array UInt8).size * ((ds0.map List.toArray).toArray.size - 1)) (ds0.map List.toArray).toArray) = false := by
        rw [List.foldl_toArray, foldl_sizes]
        refine KBy.tooLong_not ?_
        simp
        omega
      rw [hlong, if_neg Bool.false_ne_true]
      refine wpAny_bind ?_
      show wpAny _ _ (mkBytes (Bytes.joined #[47] (ds0.map List.toArray))) _ _ _
      rw [joined_eq]
      refine wpAny_mkBytes ?_ (by rw [List.size_toArray, sizeLine_eq]; have := joinC_bound (c := (47 : UInt8)) hl hd; omega)
      refine wpAny_bind (wpAny_holding (wpAny_point ?_))
      refine wpAny_bind (letGo_all vs0 _ ?_)
      exact wpAny_pure ⟨_, rfl, h _ _⟩
section
variable {prog : Program} {w : World} {A : Around} {E : Value → Shared → Prop} {s : Shared} {h₀ : Heap} {L D : Addr} {news : List (Addr × Obj)} {e : Nat} {xs : Array Value} {t : Tok}
theorem bjoin_led {acc : List (List UInt8)} {Q : Value → Shared → Prop} (N : News h₀ L s.heap news) (hm : (D, W.listOf xs e) ∈ news) (hA : BytL xs.toList acc) (hl : acc.length ≤ 1001) (hla : ∀ d ∈ acc, d.length ≤ 1000)
    (h : ∀ t' k, (joinC 47 acc).length ≤ 1002001 → Q (.bytes (joinC 47 acc).toArray t') { s with toks := k }) : wpAny (model prog w) A (call (.builtin "bytes.join") [.bytes #[47] t, .ref D]) Q E s :=
  call_meets slot_bytes_join (typeIs_bytes _ _ _) entry_bytes_join (args_bytes_join _ _) (meets_bjoin D xs.toList e acc t hA hl hla) ⟨by rw [Array.toArray_toList]; exact (N _ hm).1, fun t' k => h t' k (joinC_bound hl hla)⟩
end
local macro_rules | `(tactic| walk_at "getMethod bytes") => `(tactic| (k_here; (first | (with_reducible refine bsplit_m ?_) | (with_reducible refine bjoin_m ?_))))
local macro_rules | `(tactic| walk_at "call builtin:bytes.split") => `(tactic| (k_here; k_dflt (refine' bsplit ?F ?N ?l ?_; (case F => k_asm); (case N => k_asm); (case l => (first | assumption | omega)); k_whole; intro vs9 D9 h9 tk9 hB9 F9 N9 l9; (try k_lt l9); (try k_sweep))))
local macro_rules | `(tactic| walk_at "call builtin:bytes.join") => `(tactic| (k_here; (with_reducible rename BytL _ _ => hA'); k_dflt (refine' bjoin_led ?N ?m hA' ?l ?d ?_; (case N => k_asm); (case m => k_mem); (case l => omega); (case d => assumption); k_whole; intro t' k' hj')))
noncomputable def NormJB (l : List UInt8) (m₀ : Str → Option Value) (news₀ : List (Addr × Obj)) : FInv := fun _ rest m news =>
  ∃ (xs : Array Value) (e : Nat) (acc ds : List (List UInt8)) (u : Option Value), news = (match news₀ with | p :: r => (p.1, W.listOf xs e) :: r | [] => []) ∧ BytL rest ds ∧
    ds.foldl (stepN [46] [46, 46] (rootL 47 l)) acc = compsN 47 [46] [46, 46] (rootL 47 l) (tailL 47 l) ∧ BytL xs.toList acc ∧ acc.length + ds.length ≤ 1001 ∧ (∀ d ∈ acc, d.length ≤ 1000) ∧ (∀ d ∈ ds, d.length ≤ 1000) ∧ m = fun y => if y = Str.ofString "comp" then u else m₀ y
theorem BytL.unpush : ∀ {vs : List Value} {ds : List (List UInt8)} {d : List UInt8}, BytL vs (ds ++ [d]) → ∃ vs' t, vs = vs' ++ [.bytes d.toArray t] ∧ BytL vs' ds
  | [v], [], d, h => by obtain ⟨⟨t, rfl⟩, _⟩ := h; exact ⟨[], t, rfl, trivial⟩
  | v :: vs, d' :: ds, d, h => by
    obtain ⟨vs', t, rfl, h'⟩ := BytL.unpush (vs := vs) (ds := ds) (d := d) h.2
    exact ⟨v :: vs', t, rfl, h.1, h'⟩
  | [], [], _, h => h.elim
  | [], _ :: _, _, h => h.elim
  | _ :: _ :: _, [], _, h => h.2.elim
theorem nB0 {d : List UInt8} (h : (d.toArray.size : Int) = 0) : d = [] := by rw [List.size_toArray] at h; exact List.eq_nil_of_length_eq_zero (by omega)
theorem nB1 {d : List UInt8} (h : (d.toArray.size : Int) ≠ 0) : d ≠ [] := by rintro rfl; simp at h
theorem nB2 {d : List UInt8} (h : (d.toArray.toList == (#[46] : Array UInt8).toList) = true) : d = [46] := by simpa using h
theorem nB3 {d : List UInt8} (h : (d.toArray.toList == (#[46] : Array UInt8).toList) = false) : d ≠ [46] := by simpa using h
theorem nB4 {d : List UInt8} (h : (d.toArray.toList != (#[46, 46] : Array UInt8).toList) = true) : d ≠ [46, 46] := by simpa using h
theorem nB5 {d : List UInt8} (h : (d.toArray.toList != (#[46, 46] : Array UInt8).toList) = false) : d = [46, 46] := by simpa using h
theorem nB6 {d : List UInt8} (h : (d.toArray.toList == (#[46, 46] : Array UInt8).toList) = true) : d = [46, 46] := by simpa using h
theorem nB7 {d : List UInt8} (h : (d.toArray.toList == (#[46, 46] : Array UInt8).toList) = false) : d ≠ [46, 46] := by simpa using h
theorem normB_end {l : List UInt8} {m₀ : Str → Option Value} {a b : Addr} {o o' : Obj} {rest : List Value} {d : List UInt8} {ds acc acc₂ : List (List UInt8)} {xs₂ : Array Value} {e₂ : Nat} {u v : Option Value} {done : List Value} {I : Addr} {it : Obj} {s : Shared} {h₀ h' : Heap} {L : Addr} {tk' : Nat}
    (hst : stepN [46] [46, 46] (rootL 47 l) acc d = acc₂) (hf : (d :: ds).foldl (stepN [46] [46, 46] (rootL 47 l)) acc = compsN 47 [46] [46, 46] (rootL 47 l) (tailL 47 l))
    (hS : BytL rest ds) (hA₂ : BytL xs₂.toList acc₂) (hlen : acc.length + (ds.length + 1) ≤ 1001) (hla : ∀ d ∈ acc, d.length ≤ 1000) (hld : ∀ d' ∈ d :: ds, d'.length ≤ 1000)
    (F : Fr h₀ L h' (fun y => if y = Str.ofString "comp" then v else if y = Str.ofString "comp" then u else m₀ y))
    (N : News h₀ L h' [(I, it), (a, W.listOf xs₂ e₂), (b, o')]) (h1 : a ≠ I) (h2 : b ≠ I) :
    FEnd h₀ L (NormJB l m₀ [(a, o), (b, o')]) done rest I it s { s with heap := h', toks := tk' } := by
  subst hst
  refine ⟨h', tk', _, _, rfl, F, N, off_two h1 h2, xs₂, e₂, _, ds, v, rfl, hS, hf, hA₂, ?_, ?_, fun d' hd => hld d' (.tail _ hd), upd_over⟩
  · have := stepN_length (dot := [46]) (dd := [46, 46]) (root := rootL 47 l) (acc := acc) (d := d); omega
  · intro p hp
    rcases stepN_mem hp with hp | ⟨rfl, _⟩
    · exact hla p hp
    · exact hld p (.head _)
section
variable {w : World} {s₀ : Shared} {mg mb : Str → Option Value}
theorem norm_bytes (l : List UInt8) (t : Tok) (hx0 : l.length ≤ 1000) : Ct w s₀ mg mb 8 164 [.bytes l.toArray t] (RBytes (normN 47 [46] [46, 46] l).toArray) := by
  intro dp un gd base outer s Q E B X T hdp hun k
  (revert X; k_fill; intro X)
  refine wpAny_call ?_
  k_dflt cell_enter
  have ht := tail_le 47 l
  have hx : l.length ≤ 4096 := by omega
  have hr : (tailL 47 l).length ≤ 4096 := by omega
  have hrt := root_le 47 l
  repeat' ((fail_if_success (with_reducible show wpAny _ _ (exec (Stmt.For _ _ _ _ _) _) _ _ _)); (first | (k_unfold; (try dsimp only)) | (k_end; kc_close) | walk1 | (dsimp only; walk1) | (leave1; (try dsimp only)) | fail "no step"))
  rotate_left
  · (rename Fr _ _ _ _ => F9)
    ((try dsimp only); (try k_unfold); (try dsimp only))
    exact k _ _ _ F9.keep ⟨_, by rw [norm_a (nB0 (by assumption))]⟩
  · (rename Fr _ _ _ _ => F9)
    (rename News _ _ _ _ => N9)
    (rename BytL _ (splitC 47 (tailL 47 l)) => hsp)
    refine for_fr F9 (news_two N9) rfl (List.mem_cons_of_mem _ (List.mem_singleton.mpr rfl)) rfl rfl rfl rfl ?ev
      (NormJB l) ⟨#[], 0, [], _, _, rfl, hsp, rfl, trivial, ?len, (fun _ h => nomatch h), ?part, upd_same _⟩ ?mem ?step ?fin
    case len => have := splitC_length 47 (tailL 47 l); simp only [List.length_nil]; omega
    case part => intro d hd; have := splitC_part 47 _ d hd; omega
    case mem => rintro done rest m news ⟨xs, e, acc, ds, u, rfl, _⟩; exact .tail _ (.head _)
    case ev =>
      clear hsp
      k_steps
      all_goals exact ⟨rfl, rfl⟩
    case step =>
      clear F9 N9
      rintro done v rest m news I it h' tk' ⟨xs, e, acc, ds, u, rfl, hS, hf, hA, hlen, hla, hld, rfl⟩ hit hI F' N'
      match ds, hS with
      | d :: ds, hS1 =>
      obtain ⟨⟨td, rfl⟩, hS2⟩ := hS1
      dsimp only at N' hI F' ⊢
      simp only [List.length_cons] at hlen
      replace hI := allNe_of hI
      simp only [AllNe, and_true] at hI
      have hd1 : d.length ≤ 1000 := hld d (.head _)
      have hxs : xs.size ≤ 4097 := by have := hA.length; rw [← Array.length_toList]; omega
      rcases List.eq_nil_or_concat acc with rfl | ⟨acc', q, hacc⟩
      · have hxe : xs = #[] := by have := hA.length; exact Array.eq_empty_of_size_eq_zero (by rw [← Array.length_toList]; simpa using this)
        subst hxe
        k_steps
        all_goals ((try dsimp only); (rename Fr _ _ _ _ => F9); (rename News _ _ _ _ => N9))
        · exact normB_end (st_skip2 (nB2 (by assumption))) hf hS2 hA hlen hla hld F9 N9 hI.1 hI.2
        · exact normB_end (st_push1 (nB1 (by assumption)) (nB3 (by assumption)) (nB4 (by assumption))) hf hS2 (by exact ⟨⟨_, rfl⟩, trivial⟩) hlen hla hld F9 N9 hI.1 hI.2
        · exact normB_end (st_none (nB1 (by assumption)) (nB3 (by assumption)) (nB5 (by assumption)) (nB1 (by assumption))) hf hS2 hA hlen hla hld F9 N9 hI.1 hI.2
        · exact normB_end (st_push2 (nB1 (by assumption)) (nB3 (by assumption)) (nB0 (by assumption))) hf hS2 (by exact ⟨⟨_, rfl⟩, trivial⟩) hlen hla hld F9 N9 hI.1 hI.2
        · exact normB_end (st_skip1 (nB0 (by assumption))) hf hS2 hA hlen hla hld F9 N9 hI.1 hI.2
      · rw [List.concat_eq_append] at hacc
        subst hacc
        obtain ⟨vs', tq, hxe, hA'⟩ := hA.unpush
        have hxe' : xs = (vs' ++ [Value.bytes q.toArray tq]).toArray := by rw [← hxe]
        subst hxe'
        have hvl : vs'.length ≤ 1000 := by have := hA'.length; rw [List.length_append] at hlen; omega
        k_steps
        all_goals ((try dsimp only); (rename Fr _ _ _ _ => F9); (rename News _ _ _ _ => N9))
        · exact normB_end (st_skip2 (nB2 (by assumption))) hf hS2 hA hlen hla hld F9 N9 hI.1 hI.2
        · exact normB_end (st_push1 (nB1 (by assumption)) (nB3 (by assumption)) (nB4 (by assumption))) hf hS2 (by rw [Array.toList_push]; exact hA.push) hlen hla hld F9 N9 hI.1 hI.2
        · exact normB_end (st_push3 (nB1 (by assumption)) (nB3 (by assumption)) (nB6 (by assumption))) hf hS2 (by rw [Array.toList_push]; exact hA.push) hlen hla hld F9 N9 hI.1 hI.2
        · exact normB_end (st_pop (nB1 (by assumption)) (nB3 (by assumption)) (nB5 (by assumption)) (nB7 (by assumption))) hf hS2 hA' hlen hla hld F9 N9 hI.1 hI.2
        · exact normB_end (st_push3 (nB1 (by assumption)) (nB3 (by assumption)) (nB6 (by assumption))) hf hS2 (by rw [Array.toList_push]; exact hA.push) hlen hla hld F9 N9 hI.1 hI.2
        · exact normB_end (st_pop (nB1 (by assumption)) (nB3 (by assumption)) (nB5 (by assumption)) (nB7 (by assumption))) hf hS2 hA' hlen hla hld F9 N9 hI.1 hI.2
        · exact normB_end (st_skip1 (nB0 (by assumption))) hf hS2 hA hlen hla hld F9 N9 hI.1 hI.2
    case fin =>
      clear F9 N9
      rintro m news h' tk' ⟨xs, e, acc, ds, u, rfl, hS, hf, hA, hlen, hla, hld, rfl⟩ F' N'
      match ds, hS with
      | [], hS1 =>
      dsimp only at N' F' ⊢
      clear hsp hS hS1
      simp only [List.length_nil, Nat.add_zero] at hlen
      have hfa : acc = compsN 47 [46] [46, 46] (rootL 47 l) (tailL 47 l) := hf
      have hl0 := nB1 (d := l) (by assumption)
      have hj0 := joinC_bound (c := (47 : UInt8)) hlen hla
      have hsum : (rootL 47 l ++ joinC 47 acc).length ≤ 1002003 := by rw [List.length_append]; omega
      k_steps
      all_goals ((try dsimp only); (try k_unfold); (try dsimp only); (rename Fr _ _ _ _ => F9))
      · have hne := nB1 (d := rootL 47 l ++ joinC 47 acc) (by assumption)
        exact k _ _ _ F9.keep ⟨_, by rw [hfa, norm_b hl0 (hfa ▸ hne)]⟩
      · have hne := nB0 (d := rootL 47 l ++ joinC 47 acc) (by assumption)
        exact k _ _ _ F9.keep ⟨_, by rw [norm_c hl0 (hfa ▸ hne)]⟩
end
local macro_rules | `(tactic| walk_at "call ref") => `(tactic| (k_here; (with_reducible show wpAny _ _ (call (Value.ref 122) [Value.bytes (List.toArray _) _]) _ _ _); k_dflt (refine' Ct.atBool (isabs_bytes _ _ ?p0) ?k1 ?k2 ?k3 ?k4 ?k5 ?k6 ?k7 ?k8 ?k9 ?_; (case p0 => (first | assumption | omega)); (case k1 => k_asm); (case k2 => k_asm); (case k3 => k_asm); (case k4 => k_asm); (case k5 => k_asm); (case k6 => exact rfl); (case k7 => exact rfl); (case k8 => ktr_room); (case k9 => ktr_units); k_whole; intro h9 tk9 F9 N9; (try dsimp only); (try k_sweep))))
local macro_rules | `(tactic| walk_at "call ref") => `(tactic| (k_here; (with_reducible show wpAny _ _ (call (Value.ref 143) [Value.str (S _) _]) _ _ _); k_dflt (refine' Ct.atPairS (splitdrive_str _ _ ?p0) ?k1 ?k2 ?k3 ?k4 ?k5 ?k6 ?k7 ?k8 ?k9 ?_; (case p0 => (first | assumption | (rw [S_length]; omega))); (case k1 => k_asm); (case k2 => k_asm); (case k3 => k_asm); (case k4 => k_asm); (case k5 => k_asm); (case k6 => exact rfl); (case k7 => exact rfl); (case k8 => ktr_room); (case k9 => ktr_units); k_whole; intro a9 t9 u9 h9 tk9 F9 N9 l9; (replace l9 := allNe_of l9); (try simp only [AllNe, and_true] at l9); (try dsimp only); (try k_sweep))))
local macro_rules | `(tactic| walk_at "call ref") => `(tactic| (k_here; (with_reducible show wpAny _ _ (call (Value.ref 143) [Value.bytes (List.toArray _) _]) _ _ _); k_dflt (refine' Ct.atPairB (splitdrive_bytes _ _ ?p0) ?k1 ?k2 ?k3 ?k4 ?k5 ?k6 ?k7 ?k8 ?k9 ?_; (case p0 => (first | assumption | omega)); (case k1 => k_asm); (case k2 => k_asm); (case k3 => k_asm); (case k4 => k_asm); (case k5 => k_asm); (case k6 => exact rfl); (case k7 => exact rfl); (case k8 => ktr_room); (case k9 => ktr_units); k_whole; intro a9 t9 u9 h9 tk9 F9 N9 l9; (replace l9 := allNe_of l9); (try simp only [AllNe, and_true] at l9); (try dsimp only); (try k_sweep))))
local macro_rules | `(tactic| walk_at "call ref") => `(tactic| (k_here; (with_reducible show wpAny _ _ (call (Value.ref 129) [Value.str (S _) _, Value.str (S _) _]) _ _ _); k_dflt (refine' Ct.atStr (join_str _ _ _ _ ?p0 ?p1) ?k1 ?k2 ?k3 ?k4 ?k5 ?k6 ?k7 ?k8 ?k9 ?_; (case p0 => (first | assumption | (rw [S_length]; omega))); (case p1 => (first | assumption | (rw [S_length]; omega))); (case k1 => k_asm); (case k2 => k_asm); (case k3 => k_asm); (case k4 => k_asm); (case k5 => k_asm); (case k6 => exact rfl); (case k7 => exact rfl); (case k8 => ktr_room); (case k9 => ktr_units); k_whole; intro t9 h9 tk9 F9 N9; (try dsimp only); (try k_sweep))))
local macro_rules | `(tactic| walk_at "call ref") => `(tactic| (k_here; (with_reducible show wpAny _ _ (call (Value.ref 129) [Value.bytes (List.toArray _) _, Value.bytes (List.toArray _) _]) _ _ _); k_dflt (refine' Ct.atBytes (join_bytes _ _ _ _ ?p0 ?p1) ?k1 ?k2 ?k3 ?k4 ?k5 ?k6 ?k7 ?k8 ?k9 ?_; (case p0 => (first | assumption | omega)); (case p1 => (first | assumption | omega)); (case k1 => k_asm); (case k2 => k_asm); (case k3 => k_asm); (case k4 => k_asm); (case k5 => k_asm); (case k6 => exact rfl); (case k7 => exact rfl); (case k8 => ktr_room); (case k9 => ktr_units); k_whole; intro t9 h9 tk9 F9 N9; (try dsimp only); (try k_sweep))))
local macro_rules | `(tactic| walk_at "call ref") => `(tactic| (k_here; (with_reducible show wpAny _ _ (call (Value.ref 164) [Value.str (S _) _]) _ _ _); k_dflt (refine' Ct.atStr (norm_str _ _ ?p0) ?k1 ?k2 ?k3 ?k4 ?k5 ?k6 ?k7 ?k8 ?k9 ?_; (case p0 => (first | assumption | omega)); (case k1 => k_asm); (case k2 => k_asm); (case k3 => k_asm); (case k4 => k_asm); (case k5 => k_asm); (case k6 => exact rfl); (case k7 => exact rfl); (case k8 => ktr_room); (case k9 => ktr_units); k_whole; intro t9 h9 tk9 F9 N9; (try dsimp only); (try k_sweep))))
local macro_rules | `(tactic| walk_at "call ref") => `(tactic| (k_here; (with_reducible show wpAny _ _ (call (Value.ref 164) [Value.bytes (List.toArray _) _]) _ _ _); k_dflt (refine' Ct.atBytes (norm_bytes _ _ ?p0) ?k1 ?k2 ?k3 ?k4 ?k5 ?k6 ?k7 ?k8 ?k9 ?_; (case p0 => (first | assumption | omega)); (case k1 => k_asm); (case k2 => k_asm); (case k3 => k_asm); (case k4 => k_asm); (case k5 => k_asm); (case k6 => exact rfl); (case k7 => exact rfl); (case k8 => ktr_room); (case k9 => ktr_units); k_whole; intro t9 h9 tk9 F9 N9; (try dsimp only); (try k_sweep))))
/-- what a call of the def at f with vs raises: TypeError with the words -/
noncomputable def CtR (w : World) (s₀ : Shared) (mg mb : Str → Option Value) (n : Nat) (f : Addr) (vs : List Value) (pre : Heap → Prop) (words : Str) : Prop :=
  ∀ (dp un : Nat) (gd : Option (List Code)) (base : Heap) (outer : List Env) (s : Shared) (Q E : Value → Shared → Prop),
    Below (AA dp un gd outer) base outer s.heap → (K0 w.params).In s.heap → Top V0 (looseW V0 []) (ExcName.means s₀.heap) mg mb s.heap → KtsDicts (outer.filterMap (·.frame)) s.heap → pre s.heap →
    dp + n < recursionLimit → un + (4 * n + 20) < cLine →
    (∀ e t u h' tk', RaisedS base s.heap outer e (.type "TypeError") t [.str words u] [] h' → s.heap.UpToSlots h' → E (.ref e) { s with heap := h', toks := tk' }) →
    wpAny (model Challenge.rw_pd0089_01.row.prog w) (AA dp un gd outer) (call (.ref f) vs) Q E s
noncomputable def IsA (a : Addr) (T : String) (h : Heap) : Prop := ∃ o, h.get? a = some o ∧ o.cls = .type T
theorem IsA.stays {a : Addr} {T : String} {h h' : Heap} (x : IsA a T h) (k : ∀ b o, h.get? b = some o → h'.get? b = some o) : IsA a T h' := by
  obtain ⟨o, ho, hc⟩ := x
  exact ⟨o, k _ _ ho, hc⟩
theorem type_isA {prog : Program} {w : World} {A : Around} {E : Value → Shared → Prop} {s : Shared} {Q : Value → Shared → Prop} {a : Addr} {T : String} (x : IsA a T s.heap) (hn : (Value.type T == Value.type "builtin_function_or_method") = false) (hq : Q (.type T) s) :
    wpAny (model prog w) A (call (.type "type") [.ref a]) Q E s := by
  obtain ⟨o, ho, hc⟩ := x
  obtain ⟨hh, g, d, t, os⟩ := s
  exact call_type_obj ho (by rw [hc]; exact hn) (by rw [hc]; exact hq)
local macro_rules | `(tactic| walk_at "call type:type") => `(tactic| ((with_reducible show wpAny _ _ (call _ [Value.type _]) _ _ _); refine call_type_of (Tx := "type") rfl (by decide +kernel) ?_))
local macro_rules | `(tactic| walk_at "call type:type") => `(tactic| (k_here; (with_reducible show wpAny _ _ (call _ [Value.ref _]) _ _ _); (rename IsA _ _ _ => hI'); k_dflt (refine' type_isA (IsA.stays hI' (Fr.keep ?F)) ?n ?_; (case F => k_asm); (case n => decide +kernel); k_whole)))
local macro_rules | `(tactic| walk_at "call ref") => `(tactic| (k_here; (first | (with_reducible show wpAny _ _ (call (Value.ref 87) _) _ _ _) | (with_reducible show wpAny _ _ (call (Value.ref 28) _) _ _ _)); k_dflt (refine wpAny_call ?_; refine' code_def ?k1 ?k2 ?k3 ?k4 ?k5 ?kA ?kF ?kK ?k6 ?k7 ?k8 ?k9 ?kB ?_ ?c2 ?c3 ?c4 ?c5; (case kA => exact rfl); (case kF => exact rfl); (case kK => exact rfl); (case k1 => k_asm); (case k2 => k_asm); (case k3 => k_asm); (case k4 => k_asm); (case k5 => k_asm); (case k6 => k_is); (case k7 => k_is); (case k8 => ktr_room); (case k9 => exact BindsTo.of_eq rfl); (case c5 => decide); (case kB => exact locs rfl); (case c2 => exact rfl); (case c3 => exact rfl); (case c4 => exact rfl); k_whole; intro g' L' h' FG' F' N' B' X' T'; (try ((rename IsA _ _ _ => hI'); replace hI' := IsA.stays hI' (Fr.keep FG'))); (try dsimp only); (try k_lift B'); (try k_fold))))
theorem raise_attr {α : Type} {prog : Program} {w : World} {A : Around} {E : Value → Shared → Prop} {s : Shared} {msg : Str} {Q : α → Shared → Prop} (hh : A.handled = none)
    (h : ∀ h' tk e, Heap.NewExcOf s.heap h' e "AttributeError" → E (.ref e) { s with heap := h', toks := tk }) (hm : msg.length ≤ sizeLine) :
    wpAny (model prog w) A (raiseErrorStr "AttributeError" msg : Sem α) Q E s := by
  unfold raiseErrorStr
  refine wpAny_bind (wpAny_mkStr (wpAny_bind ?_) hm)
  unfold newExc newTuple
  refine wpAny_bind (wpAny_newObj_type ?_ (by size_fits))
  refine wpAny_bind (m := firstArgMember _ _) (wpAny_of_eq (a := Value.none) (by simp only [firstArgMember, attrError_no_first]; rfl) ?_)
  rw [ownMembersOf_AttributeError]
  refine wpAny_newObj_type ?_ (by size_fits)
  unfold raiseNew
  refine wpAny_bind (wpAny_handled ?_)
  rw [hh]
  first
    | refine wpAny_throw ?_
    | refine wpAny_bind (wpAny_pure (wpAny_throw ?_))
  dsimp only
  obtain ⟨hp, g, d, tk, os⟩ := s
  refine h _ _ _ ⟨fun b ob hb => Heap.get?_push_of_some _ (Heap.get?_push_of_some _ hb), Heap.get?_none_of_le (by simp), ?_⟩
  exact ⟨_, _, Heap.get?_push_size _ rfl, rfl, rfl, rfl⟩
set_option maxHeartbeats 400000
theorem miss_type : typeLookup (.type "type") (Str.ofString "__fspath__") = pure none := by rw [typeLookup_type, builtinLookup_eq_fast]; kernel_rfl
theorem tt_ofT {T : String} (hm : ((Manifest.find? T).elim "type" fun x => x.metatype) = "type") : typeOf (.type T) = pure (.type "type") := by
  show (pure (Value.type ((Manifest.find? T).elim "type" fun x => x.metatype)) : Sem Value) = _
  rw [hm]
theorem tn_of {T : String} (hm : ((Manifest.find? T).elim T fun x => x.tpName) = T) : typeNameCut 100 (.type T) = pure T := by
  show (pure ((Manifest.find? T).elim T fun x => x.tpName) : Sem String) = _
  rw [hm]
theorem tga_gen {T : String} (hT : typeOf (.type T) = pure (.type "type")) (hst : Manifest.isStub T = false) (hn : typeNameCut 100 (.type T) = pure T) (h3 : typeLookup (.type T) (Str.ofString "__fspath__") = pure none)
    (hmsg : ((Str.ofString (toString "type object '" ++ toString T ++ toString "' has no attribute '") ++ Str.ofString "__fspath__" ++ Str.ofString "'" : Str)).length ≤ sizeLine) (u : Tok) :
    Meets («type.__getattribute__» ⟨[.type T, .str (Str.ofString "__fspath__") u], []⟩) (fun A R s => A.handled = none ∧ ∀ h' tk e, Heap.NewExcOf s.heap h' e "AttributeError" → R (.error (.ref e)) { s with heap := h', toks := tk }) := by
  refine .of_wp fun prog w A R s hs => ?_
  have ho : opaqueClassAbove (.type T) = pure none := by
    show (pure (if Manifest.isStub T = true then some (Str.ofString T) else none) : Sem (Option Str)) = _
    rw [hst]; rfl
  unfold «type.__getattribute__»
  wp_step
  wp_step
  refine wpAny_pure ?_
  dsimp only
  refine wpAny_bind (wpAny_of_eq ho ?_)
  dsimp only
  refine wpAny_bind (wpAny_of_eq hT ?_)
  refine wpAny_bind (wpAny_of_eq miss_type ?_)
  dsimp only
  refine wpAny_bind (wpAny_pure ?_)
  refine wpAny_bind (wpAny_of_eq h3 ?_)
  dsimp only
  refine wpAny_bind ?_
  with_reducible refine wpAny_rule ?_
  refine wpAny_bind ?_
  with_reducible refine wpAny_of_eq hn ?_
  with_reducible refine raise_attr hs.1 ?_ hmsg
  exact hs.2
theorem miss_int : typeLookup (.type "int") (Str.ofString "__fspath__") = pure none := by rw [typeLookup_type, builtinLookup_eq_fast]; kernel_rfl
theorem miss_NoneType : typeLookup (.type "NoneType") (Str.ofString "__fspath__") = pure none := by rw [typeLookup_type, builtinLookup_eq_fast]; kernel_rfl
theorem miss_bool : typeLookup (.type "bool") (Str.ofString "__fspath__") = pure none := by rw [typeLookup_type, builtinLookup_eq_fast]; kernel_rfl
theorem miss_list : typeLookup (.type "list") (Str.ofString "__fspath__") = pure none := by rw [typeLookup_type, builtinLookup_eq_fast]; kernel_rfl
theorem miss_tuple : typeLookup (.type "tuple") (Str.ofString "__fspath__") = pure none := by rw [typeLookup_type, builtinLookup_eq_fast]; kernel_rfl
theorem miss_dict : typeLookup (.type "dict") (Str.ofString "__fspath__") = pure none := by rw [typeLookup_type, builtinLookup_eq_fast]; kernel_rfl
theorem slot_type_ga : Slot "type" "__getattribute__" "type.__getattribute__" :=
  .of (owner := "type") (n := "__getattribute__") (by rw [typeLookup_type, builtinLookup_eq_fast]; kernel_rfl) (by decide +kernel) (by decide +kernel) (by decide +kernel)
    (by first | exact .inl (by decide +kernel) | exact .inr (by decide +kernel)) (by rw [isSubtype_type]; kernel_rfl)
theorem entry_type_ga : entryFor table "type.__getattribute__" = some Builtin.«type.__getattribute__» := entryFor_of_tree (by kernel_rfl)
theorem args_type_ga (a b : Value) : argsOk "type.__getattribute__" ⟨[a, b], []⟩ := by unfold argsOk; kernel_rfl
theorem kind_ga : builtinKind "getattr" = none := by decide +kernel
theorem plain_ga : plainId "getattr" = true := by decide +kernel
theorem entry_ga : entryFor table "getattr" = some Builtin.«getattr» := entryFor_of_tree (by kernel_rfl)
theorem args_getattr_3 (a b c : Value) : argsOk "getattr" ⟨[a, b, c], []⟩ := by unfold argsOk; kernel_rfl
theorem type_getattr_none : typeLookup (.type "type") "__getattr__" = pure none := by rw [typeLookup_type, builtinLookup_eq_fast]; kernel_rfl
abbrev TgaOk (T : String) : Prop := ∀ u : Tok, Meets («type.__getattribute__» ⟨[.type T, .str (Str.ofString "__fspath__") u], []⟩) (fun A R s => A.handled = none ∧ ∀ h' tk e, Heap.NewExcOf s.heap h' e "AttributeError" → R (.error (.ref e)) { s with heap := h', toks := tk })
theorem gab {T : String} (hm : ((Manifest.find? T).elim "type" fun x => x.metatype) = "type") (hT : ∀ s' : Shared, s'.TypeIs (.type T) "type") (ht : TgaOk T) (hb : bindSpecial (.builtin "type.__getattribute__") (.type T) = pure (.builtin "type.__getattribute__", [.type T]))
    {prog : Program} {w : World} {A : Around} {E : Value → Shared → Prop} {s : Shared} {u : Tok} {Q : Value → Shared → Prop} (hA : A.handled = none)
    (h : ∀ h' tk e, Heap.NewExcOf s.heap h' e "AttributeError" → E (.ref e) { s with heap := h', toks := tk }) :
    wpAny (model prog w) A (getAttrBy (.type T) (.str (Str.ofString "__fspath__") u) false) Q E s := by
  obtain ⟨hp, g, d, tk, os⟩ := s
  have f1 := sub_AttributeError
  have f3 := slot_type_ga.lookup
  have f5 := type_getattr_none
  unfold getAttrBy
  iterate 4 wp_step
  rw [hm]
  repeat (any_goals (first | assumption | ((with_reducible show wpAny _ _ (call (Value.builtin "type.__getattribute__") _ _) _ _ _); refine call_meets slot_type_ga (hT _) entry_type_ga (args_type_ga _ _) (ht _) ⟨hA, fun h' tk' e hx => ?_⟩) | (with_reducible (first | refine wpAny_pure ?_ | refine wpAny_bind ?_ | refine wpAny_rule ?_ | refine wpAny_attempt ?_ | refine wpAny_holding ?_ | refine wpAny_throw ?_ | refine wpAny_specialOf_val (by assumption) (by assumption) ?_ | refine wpAny_specialOf (by assumption) (by assumption) ?_ | refine wpAny_of_eq (by assumption) ?_ | refine wpAny_typeOf (by assumption) ?_ | refine wpAny_isInstance_val (by assumption) (by assumption) ?_ | refine wpAny_isInstance (by assumption) (by assumption) ?_)) | ((with_reducible apply wpAny_ite_false); focus (rfl; done)) | ((with_reducible apply wpAny_ite_true); focus (rfl; done)) | wp_delta | wp_step))
  obtain ⟨ob, vs, he, hc, hd, hv⟩ := hx.there
  have hTe : (⟨h', g, d, tk', os⟩ : Shared).TypeIs (.ref e) "AttributeError" := ⟨_, he, hc⟩
  show wpAny _ _ (getattributeRaised _ _ _ _ _ _ _) _ _ _
  unfold getattributeRaised
  repeat (any_goals (first | assumption | (with_reducible (first | refine wpAny_pure ?_ | refine wpAny_bind ?_ | refine wpAny_rule ?_ | refine wpAny_attempt ?_ | refine wpAny_holding ?_ | refine wpAny_throw ?_ | refine wpAny_specialOf_val (by assumption) (by assumption) ?_ | refine wpAny_specialOf (by assumption) (by assumption) ?_ | refine wpAny_of_eq (by assumption) ?_ | refine wpAny_typeOf (by assumption) ?_ | refine wpAny_isInstance_val (by assumption) (by assumption) ?_ | refine wpAny_isInstance (by assumption) (by assumption) ?_)) | ((with_reducible apply wpAny_ite_false); focus (rfl; done)) | ((with_reducible apply wpAny_ite_true); focus (rfl; done)) | wp_delta | wp_step))
  exact h _ _ _ hx
theorem getattr_miss {T : String} (hm : ((Manifest.find? T).elim "type" fun x => x.metatype) = "type") (hT : ∀ s' : Shared, s'.TypeIs (.type T) "type") (ht : TgaOk T) (hb : bindSpecial (.builtin "type.__getattribute__") (.type T) = pure (.builtin "type.__getattribute__", [.type T]))
    {prog : Program} {w : World} {A : Around} {E : Value → Shared → Prop} {s : Shared} {u : Tok} {Q : Value → Shared → Prop} (hA : A.handled = none)
    (h : ∀ h' tk, s.heap.StaysIn h' → Q .none { s with heap := h', toks := tk }) :
    wpAny (model prog w) A (call (.builtin "getattr") [.type T, .str (Str.ofString "__fspath__") u, .none]) Q E s := by
  refine call_function_meets (S := fun A R s => A.handled = none ∧ ∀ h' tk, s.heap.StaysIn h' → R (.ok (.ret .none)) { s with heap := h', toks := tk }) kind_ga plain_ga entry_ga (args_getattr_3 _ _ _) ?_ ⟨hA, h⟩
  refine .of_wp fun prog w A R s hs => ?_
  have f1 := sub_AttributeError
  unfold «getattr»
  repeat (any_goals (first | assumption | ((with_reducible show wpAny _ _ (getAttrBy _ _ _) _ _ _); refine gab hm hT ht hb hs.1 fun h' tk' e hx => ?_) | (with_reducible (first | refine wpAny_pure ?_ | refine wpAny_bind ?_ | refine wpAny_rule ?_ | refine wpAny_attempt ?_ | refine wpAny_holding ?_ | refine wpAny_throw ?_ | refine wpAny_specialOf_val (by assumption) (by assumption) ?_ | refine wpAny_specialOf (by assumption) (by assumption) ?_ | refine wpAny_of_eq (by assumption) ?_ | refine wpAny_typeOf (by assumption) ?_ | refine wpAny_isInstance_val (by assumption) (by assumption) ?_ | refine wpAny_isInstance (by assumption) (by assumption) ?_)) | ((with_reducible apply wpAny_ite_false); focus (rfl; done)) | ((with_reducible apply wpAny_ite_true); focus (rfl; done)) | wp_delta | wp_step))
  obtain ⟨ob, vs, he, hc, hd, hv⟩ := hx.there
  refine wpAny_loadPart he ?_
  refine wpAny_pure ?_
  rw [hc]
  repeat (any_goals (first | assumption | (with_reducible (first | refine wpAny_pure ?_ | refine wpAny_bind ?_ | refine wpAny_rule ?_ | refine wpAny_attempt ?_ | refine wpAny_holding ?_ | refine wpAny_throw ?_ | refine wpAny_specialOf_val (by assumption) (by assumption) ?_ | refine wpAny_specialOf (by assumption) (by assumption) ?_ | refine wpAny_of_eq (by assumption) ?_ | refine wpAny_typeOf (by assumption) ?_ | refine wpAny_isInstance_val (by assumption) (by assumption) ?_ | refine wpAny_isInstance (by assumption) (by assumption) ?_)) | ((with_reducible apply wpAny_ite_false); focus (rfl; done)) | ((with_reducible apply wpAny_ite_true); focus (rfl; done)) | wp_delta | wp_step))
  exact ⟨_, rfl, hs.2 _ _ hx.keeps⟩
theorem tt_is {T : String} (hm : ((Manifest.find? T).elim "type" fun x => x.metatype) = "type") (s' : Shared) : s'.TypeIs (.type T) "type" := by
  show typeOf (.type T) = pure (.type "type")
  exact tt_ofT hm
theorem getattr_gen {T : String} (hm : ((Manifest.find? T).elim "type" fun x => x.metatype) = "type") (hst : Manifest.isStub T = false) (hn : ((Manifest.find? T).elim T fun x => x.tpName) = T) (h3 : typeLookup (.type T) (Str.ofString "__fspath__") = pure none)
    (hmsg : ((Str.ofString (toString "type object '" ++ toString T ++ toString "' has no attribute '") ++ Str.ofString "__fspath__" ++ Str.ofString "'" : Str)).length ≤ sizeLine)
    {prog : Program} {w : World} {A : Around} {E : Value → Shared → Prop} {s : Shared} {u : Tok} {Q : Value → Shared → Prop} (hA : A.handled = none)
    (h : ∀ h' tk, s.heap.StaysIn h' → Q .none { s with heap := h', toks := tk }) :
    wpAny (model prog w) A (call (.builtin "getattr") [.type T, .str (Str.ofString "__fspath__") u, .none]) Q E s :=
  getattr_miss (T := T) hm (tt_is hm) (tga_gen (tt_ofT hm) hst (tn_of hn) h3 hmsg) (slot_type_ga.bind (.type T)) hA h
theorem getattr_int {prog : Program} {w : World} {A : Around} {E : Value → Shared → Prop} {s : Shared} {u : Tok} {Q : Value → Shared → Prop} (hA : A.handled = none)
    (h : ∀ h' tk, s.heap.StaysIn h' → Q .none { s with heap := h', toks := tk }) :
    wpAny (model prog w) A (call (.builtin "getattr") [.type "int", .str (Str.ofString "__fspath__") u, .none]) Q E s :=
  getattr_gen (T := "int") (by decide +kernel) (by decide +kernel) (by decide +kernel) miss_int (by decide +kernel) hA h
theorem getattr_NoneType {prog : Program} {w : World} {A : Around} {E : Value → Shared → Prop} {s : Shared} {u : Tok} {Q : Value → Shared → Prop} (hA : A.handled = none)
    (h : ∀ h' tk, s.heap.StaysIn h' → Q .none { s with heap := h', toks := tk }) :
    wpAny (model prog w) A (call (.builtin "getattr") [.type "NoneType", .str (Str.ofString "__fspath__") u, .none]) Q E s :=
  getattr_gen (T := "NoneType") (by decide +kernel) (by decide +kernel) (by decide +kernel) miss_NoneType (by decide +kernel) hA h
theorem getattr_bool {prog : Program} {w : World} {A : Around} {E : Value → Shared → Prop} {s : Shared} {u : Tok} {Q : Value → Shared → Prop} (hA : A.handled = none)
    (h : ∀ h' tk, s.heap.StaysIn h' → Q .none { s with heap := h', toks := tk }) :
    wpAny (model prog w) A (call (.builtin "getattr") [.type "bool", .str (Str.ofString "__fspath__") u, .none]) Q E s :=
  getattr_gen (T := "bool") (by decide +kernel) (by decide +kernel) (by decide +kernel) miss_bool (by decide +kernel) hA h
theorem getattr_list {prog : Program} {w : World} {A : Around} {E : Value → Shared → Prop} {s : Shared} {u : Tok} {Q : Value → Shared → Prop} (hA : A.handled = none)
    (h : ∀ h' tk, s.heap.StaysIn h' → Q .none { s with heap := h', toks := tk }) :
    wpAny (model prog w) A (call (.builtin "getattr") [.type "list", .str (Str.ofString "__fspath__") u, .none]) Q E s :=
  getattr_gen (T := "list") (by decide +kernel) (by decide +kernel) (by decide +kernel) miss_list (by decide +kernel) hA h
theorem getattr_tuple {prog : Program} {w : World} {A : Around} {E : Value → Shared → Prop} {s : Shared} {u : Tok} {Q : Value → Shared → Prop} (hA : A.handled = none)
    (h : ∀ h' tk, s.heap.StaysIn h' → Q .none { s with heap := h', toks := tk }) :
    wpAny (model prog w) A (call (.builtin "getattr") [.type "tuple", .str (Str.ofString "__fspath__") u, .none]) Q E s :=
  getattr_gen (T := "tuple") (by decide +kernel) (by decide +kernel) (by decide +kernel) miss_tuple (by decide +kernel) hA h
theorem getattr_dict {prog : Program} {w : World} {A : Around} {E : Value → Shared → Prop} {s : Shared} {u : Tok} {Q : Value → Shared → Prop} (hA : A.handled = none)
    (h : ∀ h' tk, s.heap.StaysIn h' → Q .none { s with heap := h', toks := tk }) :
    wpAny (model prog w) A (call (.builtin "getattr") [.type "dict", .str (Str.ofString "__fspath__") u, .none]) Q E s :=
  getattr_gen (T := "dict") (by decide +kernel) (by decide +kernel) (by decide +kernel) miss_dict (by decide +kernel) hA h
set_option maxHeartbeats 8000000
/-- as Ct, under a premise of the heap ahead -/
noncomputable def CtP (w : World) (s₀ : Shared) (mg mb : Str → Option Value) (n : Nat) (f : Addr) (vs : List Value) (pre : Heap → Prop) (P : Heap → Value → Heap → Prop) : Prop :=
  ∀ (dp un : Nat) (gd : Option (List Code)) (base : Heap) (outer : List Env) (s : Shared) (Q E : Value → Shared → Prop),
    Below (AA dp un gd outer) base outer s.heap → (K0 w.params).In s.heap → Top V0 (looseW V0 []) (ExcName.means s₀.heap) mg mb s.heap → pre s.heap →
    dp + n < recursionLimit → un + (4 * n + 20) < cLine →
    (∀ v h' tk', s.heap.StaysIn h' → P s.heap v h' → Q v { s with heap := h', toks := tk' }) →
    wpAny (model Challenge.rw_pd0089_01.row.prog w) (AA dp un gd outer) (call (.ref f) vs) Q E s
/-- a value that is no path, of the built-in class T -/
structure Bad (w : World) (s₀ : Shared) (mg mb : Str → Option Value) (v : Value) (T : String) (pre : Heap → Prop) : Prop where
  stays : ∀ h h', (∀ b o, h.get? b = some o → h'.get? b = some o) → pre h → pre h'
  ty : ∀ {prog : Program} {w : World} {A : Around} {E : Value → Shared → Prop} {s : Shared} {Q : Value → Shared → Prop}, pre s.heap → Q (.type T) s → wpAny (model prog w) A (call (.type "type") [v]) Q E s
  tt : typeOf (.type T) = pure (.type "type")
  s1 : isSubtype (.type T) (.type "str") = pure false
  s2 : isSubtype (.type T) (.type "bytes") = pure false
  ga : ∀ {prog : Program} {w : World} {A : Around} {E : Value → Shared → Prop} {s : Shared} {u : Tok} {Q : Value → Shared → Prop}, A.handled = none →
    (∀ h' tk, s.heap.StaysIn h' → Q .none { s with heap := h', toks := tk }) → wpAny (model prog w) A (call (.builtin "getattr") [.type T, .str (Str.ofString "__fspath__") u, .none]) Q E s
  pn : ∀ u t, CtP w s₀ mg mb 2 28 [v, .str u t] pre (RStr (Str.ofString T))
  len : (Str.ofString T).length ≤ 10
section
variable {w : World} {s₀ : Shared} {mg mb : Str → Option Value} {A A₀ : Around} {base h₀ : Heap} {outer : List Env} {L : Addr} {m : Str → Option Value} {news : List (Addr × Obj)} {s : Shared} {Q E : Value → Shared → Prop}
  {dp un : Nat} {gd : Option (List Code)} {env : Env} {v : Value} {T : String} {pre : Heap → Prop}
theorem Bad.ty_at (C : Bad w s₀ mg mb v T pre) (hp : pre h₀) (F : Fr h₀ L s.heap m) {prog : Program} {w' : World} (hq : Q (.type T) s) : wpAny (model prog w') A (call (.type "type") [v]) Q E s :=
  C.ty (C.stays _ _ F.keep hp) hq
theorem Bad.isub_at (C : Bad w s₀ mg mb v T pre) {tp : Addr} (N : News h₀ L s.heap news) (htp : (tp, { cls := .type "tuple", data := .seq #[.type "str", .type "bytes"] }) ∈ news) (hq : ∀ tk', Q (.bool false) { s with toks := tk' }) {prog : Program} {w' : World} :
    wpAny (model prog w') A (call (.builtin "issubclass") [.type T, .ref tp]) Q E s := isub_of_none N htp hq C.tt C.s1 C.s2
theorem Bad.tt_at (C : Bad w s₀ mg mb v T pre) {prog : Program} {w' : World} (hq : Q (.type "type") s) : wpAny (model prog w') A (call (.type "type") [.type T]) Q E s :=
  call_type_of (Tx := "type") C.tt (by decide +kernel) hq
theorem Bad.ga_at (C : Bad w s₀ mg mb v T pre) (hA : A.handled = none) (F : Fr h₀ L s.heap m) (N : News h₀ L s.heap news) {u : Tok} {prog : Program} {w' : World}
    (h : ∀ h' tk, Fr h₀ L h' m → News h₀ L h' news → Q .none { s with heap := h', toks := tk }) : wpAny (model prog w') A (call (.builtin "getattr") [.type T, .str (Str.ofString "__fspath__") u, .none]) Q E s :=
  C.ga hA fun h' tk st => h h' tk (fr_stays F st) (news_stays N st)
theorem Bad.pn_at (C : Bad w s₀ mg mb v T pre) (hp : pre h₀) (B : Below A₀ base outer h₀) (F : Fr h₀ L s.heap m) (N : News h₀ L s.heap news) (X : (K0 w.params).In h₀)
    (TT : Top V0 (looseW V0 []) (ExcName.means s₀.heap) mg mb h₀) (hf : env.frame = some L) (hke : env.scope.kind = .function) {u : Str} {t : Tok}
    (hdp : dp + 2 < recursionLimit) (hun : un + (4 * 2 + 20) < cLine)
    (k : ∀ t h' tk', Fr h₀ L h' m → News h₀ L h' news → Q (.str (Str.ofString T) t) { s with heap := h', toks := tk' }) :
    wpAny (model Challenge.rw_pd0089_01.row.prog w) (AA dp un gd (env :: outer)) (call (.ref 28) [v, .str u t]) Q E s :=
  C.pn u t dp un gd base (env :: outer) s Q E (below_here B F rfl hf hke) (X.keeps F.keep) (TT.keeps F.keep) (C.stays _ _ F.keep hp) hdp hun fun _ h' tk' st ⟨t, e⟩ => e ▸ k t h' tk' (fr_stays F st) (news_stays N st)
end
theorem raisedS_drop {base G : Heap} {l : List Env} {e : Addr} {cls : Value} {t : Addr} {vs : List Value} {news : List (Addr × Obj)} {h : Heap} (R : RaisedS base G l e cls t vs news h) : RaisedS base G l e cls t vs [] h := by
  obtain ⟨⟨B, hB, hBG, hl, hfl, hnew⟩, htup⟩ := R
  exact ⟨⟨B, hB, hBG, (fun _ hq => nomatch hq), hfl, hnew⟩, htup⟩
local macro_rules | `(tactic| walk_at "call type:type") => `(tactic| (k_here; (with_reducible show wpAny _ _ (call _ [_]) _ _ _); (rename Bad _ _ _ _ _ _ _ => hBad'); (first
  | (refine (hBad'.tt_at ?_))
  | k_dflt (refine' hBad'.ty_at ?hp ?F ?_; (case F => k_asm); (case hp => assumption); k_whole))))
local macro_rules | `(tactic| walk_at "call builtin:issubclass") => `(tactic| (k_here; (with_reducible show wpAny _ _ (call _ [Value.type _, Value.ref _]) _ _ _); (rename Bad _ _ _ _ _ _ _ => hBad'); k_dflt (refine' hBad'.isub_at ?k3 ?k4 ?_; (case k3 => k_asm); (case k4 => k_mem); k_whole; intro tk')))
local macro_rules | `(tactic| walk_at "call builtin:getattr") => `(tactic| (k_here; (rename Bad _ _ _ _ _ _ _ => hBad'); k_dflt (refine' hBad'.ga_at ?hA ?F ?N ?_; (case hA => exact rfl); (case F => k_asm); (case N => k_asm); k_whole; intro h9 tk9 F9 N9; (try dsimp only); (try k_sweep))))
local macro_rules | `(tactic| walk_at "call ref") => `(tactic| (k_here; (with_reducible show wpAny _ _ (call (Value.ref 28) _) _ _ _); (rename Bad _ _ _ _ _ _ _ => hBad'); k_dflt (refine' hBad'.pn_at ?hp ?k1 ?k2 ?k3 ?k4 ?k5 ?k6 ?k7 ?k8 ?k9 ?_; (case k1 => k_asm); (case k2 => k_asm); (case k3 => k_asm); (case k4 => k_asm); (case k5 => k_asm); (case hp => assumption); (case k6 => exact rfl); (case k7 => exact rfl); (case k8 => ktr_room); (case k9 => ktr_units); k_whole; intro t9 h9 tk9 F9 N9; (have l9 := hBad'.len); (try dsimp only); (try k_sweep))))
abbrev wordsOf (T : String) : Str := Str.ofString "expected str, bytes or os.PathLike object, not " ++ Str.ofString T
section
variable {w : World} {s₀ : Shared} {mg mb : Str → Option Value}
theorem fspath_R (v : Value) (T : String) (pre : Heap → Prop) (hB : Bad w s₀ mg mb v T pre) : CtR w s₀ mg mb 4 94 [v] pre (wordsOf T) := by
  intro dp un gd base outer s Q E B X T D hpre hdp hun k
  (revert X; k_fill; intro X)
  refine wpAny_call ?_
  k_dflt cell_enter
  k_steps
  all_goals ((rename RaisedS _ _ _ _ _ _ _ _ _ => S9); (rename Heap.UpToSlots _ _ => U9); exact k _ _ _ _ _ (raisedS_drop S9) U9)
end
theorem kd_here {h₀ h : Heap} {outer : List Env} {env : Env} {L : Addr} {m : Str → Option Value} (D : KtsDicts (outer.filterMap (·.frame)) h₀) (F : Fr h₀ L h m) (hf : env.frame = some L) : KtsDicts ((env :: outer).filterMap (·.frame)) h := by
  intro b hb
  obtain ⟨env', he, hfe⟩ := List.mem_filterMap.mp hb
  rcases List.mem_cons.mp he with rfl | he
  · obtain rfl : L = b := Option.some.inj (hf.symm.trans hfe)
    obtain ⟨o, es, ep, hL, hd, _⟩ := F.ns
    exact ⟨o, es, ep, hL, hd⟩
  · obtain ⟨o, es, n, ho, hd⟩ := D b (List.mem_filterMap.mpr ⟨env', he, hfe⟩)
    exact ⟨o, es, n, F.keep _ _ ho, hd⟩
/-- a premise that a growing heap keeps -/
structure Stay (pre : Heap → Prop) : Prop where
  up : ∀ h h', (∀ b o, h.get? b = some o → h'.get? b = some o) → pre h → pre h'
section
variable {w : World} {s₀ : Shared} {mg mb : Str → Option Value} {n : Nat} {f : Addr} {vs : List Value} {A A₀ : Around} {base h₀ : Heap} {outer : List Env} {L : Addr} {m : Str → Option Value} {s : Shared} {Q E : Value → Shared → Prop}
  {dp un : Nat} {gd : Option (List Code)} {env : Env} {pre : Heap → Prop} {words : Str}
theorem CtR.at (C : CtR w s₀ mg mb n f vs pre words) (hst : Stay pre) (hp : pre h₀) (B : Below A₀ base outer h₀) (F : Fr h₀ L s.heap m) (X : (K0 w.params).In h₀)
    (T : Top V0 (looseW V0 []) (ExcName.means s₀.heap) mg mb h₀) (D : KtsDicts (outer.filterMap (·.frame)) h₀) (hf : env.frame = some L) (hke : env.scope.kind = .function)
    (hdp : dp + n < recursionLimit) (hun : un + (4 * n + 20) < cLine)
    (k : ∀ e t u h' tk', RaisedS base s.heap (env :: outer) e (.type "TypeError") t [.str words u] [] h' → s.heap.UpToSlots h' → E (.ref e) { s with heap := h', toks := tk' }) :
    wpAny (model Challenge.rw_pd0089_01.row.prog w) (AA dp un gd (env :: outer)) (call (.ref f) vs) Q E s :=
  C dp un gd base (env :: outer) s Q E (below_here B F rfl hf hke) (X.keeps F.keep) (T.keeps F.keep) (kd_here D F hf) (hst.up _ _ F.keep hp) hdp hun k
end
local macro_rules | `(tactic| walk_at "call ref") => `(tactic| (k_here; (with_reducible show wpAny _ _ (call (Value.ref 94) [_]) _ _ _); (rename CtR _ _ _ _ _ 94 _ _ _ => hC'); (rename Stay _ => hS'); k_dflt (refine' CtR.at hC' hS' ?hp ?k1 ?k2 ?k4 ?k5 ?kD ?k6 ?k7 ?k8 ?k9 ?_; (case k1 => k_asm); (case k2 => k_asm); (case k4 => k_asm); (case k5 => k_asm); (case kD => assumption); (case hp => assumption); (case k6 => exact rfl); (case k7 => exact rfl); (case k8 => ktr_room); (case k9 => ktr_units); k_whole; intro e9 t9 u9 h9 tk9 S9 U9; (try dsimp only))))
section
variable {w : World} {s₀ : Shared} {mg mb : Str → Option Value}
theorem normcase_R {v : Value} {pre : Heap → Prop} {words : Str} (hS : Stay pre) (hC : CtR w s₀ mg mb 4 94 [v] pre words) : CtR w s₀ mg mb 6 115 [v] pre words := by
  intro dp un gd base outer s Q E B X T D hpre hdp hun k
  (revert X; k_fill; intro X)
  refine wpAny_call ?_
  k_dflt cell_enter
  k_steps
  all_goals ((rename RaisedS _ _ _ _ _ _ _ _ _ => S9); (rename Heap.UpToSlots _ _ => U9); exact k _ _ _ _ _ S9 U9)
theorem isabs_R {v : Value} {pre : Heap → Prop} {words : Str} (hS : Stay pre) (hC : CtR w s₀ mg mb 4 94 [v] pre words) : CtR w s₀ mg mb 6 122 [v] pre words := by
  intro dp un gd base outer s Q E B X T D hpre hdp hun k
  (revert X; k_fill; intro X)
  refine wpAny_call ?_
  k_dflt cell_enter
  k_steps
  all_goals ((rename RaisedS _ _ _ _ _ _ _ _ _ => S9); (rename Heap.UpToSlots _ _ => U9); exact k _ _ _ _ _ S9 U9)
theorem splitdrive_R {v : Value} {pre : Heap → Prop} {words : Str} (hS : Stay pre) (hC : CtR w s₀ mg mb 4 94 [v] pre words) : CtR w s₀ mg mb 6 143 [v] pre words := by
  intro dp un gd base outer s Q E B X T D hpre hdp hun k
  (revert X; k_fill; intro X)
  refine wpAny_call ?_
  k_dflt cell_enter
  k_steps
  all_goals ((rename RaisedS _ _ _ _ _ _ _ _ _ => S9); (rename Heap.UpToSlots _ _ => U9); exact k _ _ _ _ _ S9 U9)
theorem splitroot_R {v : Value} {pre : Heap → Prop} {words : Str} (hS : Stay pre) (hC : CtR w s₀ mg mb 4 94 [v] pre words) : CtR w s₀ mg mb 6 150 [v] pre words := by
  intro dp un gd base outer s Q E B X T D hpre hdp hun k
  (revert X; k_fill; intro X)
  refine wpAny_call ?_
  k_dflt cell_enter
  k_steps
  all_goals ((rename RaisedS _ _ _ _ _ _ _ _ _ => S9); (rename Heap.UpToSlots _ _ => U9); exact k _ _ _ _ _ S9 U9)
theorem split_R {v : Value} {pre : Heap → Prop} {words : Str} (hS : Stay pre) (hC : CtR w s₀ mg mb 4 94 [v] pre words) : CtR w s₀ mg mb 6 136 [v] pre words := by
  intro dp un gd base outer s Q E B X T D hpre hdp hun k
  (revert X; k_fill; intro X)
  refine wpAny_call ?_
  k_dflt cell_enter
  k_steps
  all_goals ((rename RaisedS _ _ _ _ _ _ _ _ _ => S9); (rename Heap.UpToSlots _ _ => U9); exact k _ _ _ _ _ S9 U9)
theorem basename_R {v : Value} {pre : Heap → Prop} {words : Str} (hS : Stay pre) (hC : CtR w s₀ mg mb 4 94 [v] pre words) : CtR w s₀ mg mb 6 157 [v] pre words := by
  intro dp un gd base outer s Q E B X T D hpre hdp hun k
  (revert X; k_fill; intro X)
  refine wpAny_call ?_
  k_dflt cell_enter
  k_steps
  all_goals ((rename RaisedS _ _ _ _ _ _ _ _ _ => S9); (rename Heap.UpToSlots _ _ => U9); exact k _ _ _ _ _ S9 U9)
end
/-- as Ct, of a def that catches: the frames below may turn their slots -/
noncomputable def CtT (w : World) (s₀ : Shared) (mg mb : Str → Option Value) (n : Nat) (f : Addr) (vs : List Value) (pre : Heap → Prop) (x : Str) : Prop :=
  ∀ (dp un : Nat) (gd : Option (List Code)) (base : Heap) (outer : List Env) (s : Shared) (Q E : Value → Shared → Prop),
    Below (AA dp un gd outer) base outer s.heap → (K0 w.params).In s.heap → Top V0 (looseW V0 []) (ExcName.means s₀.heap) mg mb s.heap →
    (K0 w.params).In base → Top V0 (looseW V0 []) (ExcName.means s₀.heap) mg mb base → KtsDicts (outer.filterMap (·.frame)) s.heap → pre s.heap →
    dp + n < recursionLimit → un + (4 * n + 20) < cLine →
    (∀ t h' g' tk', KtsTurn (outer.filterMap (·.frame)) s.heap g' → g'.StaysIn h' → Q (.str x t) { s with heap := h', toks := tk' }) →
    wpAny (model Challenge.rw_pd0089_01.row.prog w) (AA dp un gd outer) (call (.ref f) vs) Q E s
local macro_rules | `(tactic| walk_at "call ref") => `(tactic| (k_here; (with_reducible show wpAny _ _ (call (Value.ref 115) [_]) _ _ _); (rename CtR _ _ _ _ _ 115 _ _ _ => hC'); (rename Stay _ => hS'); k_dflt (refine' CtR.at hC' hS' ?hp ?k1 ?k2 ?k4 ?k5 ?kD ?k6 ?k7 ?k8 ?k9 ?_; (case k1 => k_asm); (case k2 => k_asm); (case k4 => k_asm); (case k5 => k_asm); (case kD => assumption); (case hp => assumption); (case k6 => exact rfl); (case k7 => exact rfl); (case k8 => ktr_room); (case k9 => ktr_units); k_whole; intro e9 t9 u9 h9 tk9 S9 U9; (try dsimp only))))
local macro_rules | `(tactic| walk_at "call ref") => `(tactic| (k_here; (with_reducible show wpAny _ _ (call (Value.ref 122) [_]) _ _ _); (rename CtR _ _ _ _ _ 122 _ _ _ => hC'); (rename Stay _ => hS'); k_dflt (refine' CtR.at hC' hS' ?hp ?k1 ?k2 ?k4 ?k5 ?kD ?k6 ?k7 ?k8 ?k9 ?_; (case k1 => k_asm); (case k2 => k_asm); (case k4 => k_asm); (case k5 => k_asm); (case kD => assumption); (case hp => assumption); (case k6 => exact rfl); (case k7 => exact rfl); (case k8 => ktr_room); (case k9 => ktr_units); k_whole; intro e9 t9 u9 h9 tk9 S9 U9; (try dsimp only))))
local macro_rules | `(tactic| walk_at "call ref") => `(tactic| (k_here; (with_reducible show wpAny _ _ (call (Value.ref 143) [_]) _ _ _); (rename CtR _ _ _ _ _ 143 _ _ _ => hC'); (rename Stay _ => hS'); k_dflt (refine' CtR.at hC' hS' ?hp ?k1 ?k2 ?k4 ?k5 ?kD ?k6 ?k7 ?k8 ?k9 ?_; (case k1 => k_asm); (case k2 => k_asm); (case k4 => k_asm); (case k5 => k_asm); (case kD => assumption); (case hp => assumption); (case k6 => exact rfl); (case k7 => exact rfl); (case k8 => ktr_room); (case k9 => ktr_units); k_whole; intro e9 t9 u9 h9 tk9 S9 U9; (try dsimp only))))
local macro_rules | `(tactic| walk_at "call ref") => `(tactic| (k_here; (with_reducible show wpAny _ _ (call (Value.ref 150) [_]) _ _ _); (rename CtR _ _ _ _ _ 150 _ _ _ => hC'); (rename Stay _ => hS'); k_dflt (refine' CtR.at hC' hS' ?hp ?k1 ?k2 ?k4 ?k5 ?kD ?k6 ?k7 ?k8 ?k9 ?_; (case k1 => k_asm); (case k2 => k_asm); (case k4 => k_asm); (case k5 => k_asm); (case kD => assumption); (case hp => assumption); (case k6 => exact rfl); (case k7 => exact rfl); (case k8 => ktr_room); (case k9 => ktr_units); k_whole; intro e9 t9 u9 h9 tk9 S9 U9; (try dsimp only))))
local macro_rules | `(tactic| walk_at "call ref") => `(tactic| (k_here; (with_reducible show wpAny _ _ (call (Value.ref 136) [_]) _ _ _); (rename CtR _ _ _ _ _ 136 _ _ _ => hC'); (rename Stay _ => hS'); k_dflt (refine' CtR.at hC' hS' ?hp ?k1 ?k2 ?k4 ?k5 ?kD ?k6 ?k7 ?k8 ?k9 ?_; (case k1 => k_asm); (case k2 => k_asm); (case k4 => k_asm); (case k5 => k_asm); (case kD => assumption); (case hp => assumption); (case k6 => exact rfl); (case k7 => exact rfl); (case k8 => ktr_room); (case k9 => ktr_units); k_whole; intro e9 t9 u9 h9 tk9 S9 U9; (try dsimp only))))
local macro_rules | `(tactic| walk_at "call ref") => `(tactic| (k_here; (with_reducible show wpAny _ _ (call (Value.ref 157) [_]) _ _ _); (rename CtR _ _ _ _ _ 157 _ _ _ => hC'); (rename Stay _ => hS'); k_dflt (refine' CtR.at hC' hS' ?hp ?k1 ?k2 ?k4 ?k5 ?kD ?k6 ?k7 ?k8 ?k9 ?_; (case k1 => k_asm); (case k2 => k_asm); (case k4 => k_asm); (case k5 => k_asm); (case kD => assumption); (case hp => assumption); (case k6 => exact rfl); (case k7 => exact rfl); (case k8 => ktr_room); (case k9 => ktr_units); k_whole; intro e9 t9 u9 h9 tk9 S9 U9; (try dsimp only))))
section
variable {w : World} {s₀ : Shared} {mg mb : Str → Option Value}
theorem refused_T {v : Value} {pre : Heap → Prop} {words : Str} (z : Int) (t : Tok) (hS : Stay pre) (c1 : CtR w s₀ mg mb 6 115 [v] pre words) (c2 : CtR w s₀ mg mb 6 122 [v] pre words) (c3 : CtR w s₀ mg mb 6 143 [v] pre words)
    (c4 : CtR w s₀ mg mb 6 150 [v] pre words) (c5 : CtR w s₀ mg mb 6 136 [v] pre words) (c6 : CtR w s₀ mg mb 6 157 [v] pre words) : CtT w s₀ mg mb 8 192 [.int z t, v] pre words := by
  intro dp un gd base outer s Q E B X T XB TB D hpre hdp hun k
  (revert X; k_fill; intro X)
  refine wpAny_call ?_
  k_dflt cell_enter
  k_steps
  all_goals ((rename KtsTurn _ _ _ => T9); (rename Fr _ _ _ _ => F9); exact k _ _ _ _ T9 F9.keep)
end
section
variable {w : World} {s₀ : Shared} {mg mb : Str → Option Value}
theorem pn_int (z : Int) (t : Tok) (u : Str) (t' : Tok) : CtP w s₀ mg mb 2 28 [(.int z t), .str u t'] (fun _ => True) (RStr (Str.ofString "int")) := by
  intro dp un gd base outer s Q E B X T hpre hdp hun k
  (revert X; k_fill; intro X)
  refine wpAny_call ?_
  k_dflt cell_enter
  k_steps
  all_goals ((try dsimp only); (rename Fr _ _ _ _ => F9); exact k _ _ _ F9.keep ⟨_, rfl⟩)
theorem bad_int (z : Int) (t : Tok) : Bad w s₀ mg mb (.int z t) "int" (fun _ => True) where
  stays := fun _ _ _ x => x
  ty := fun _ q => call_type_of (Tx := "int") rfl (by decide +kernel) q
  tt := tt_of (by decide +kernel)
  s1 := by rw [isSubtype_type]; kernel_rfl
  s2 := by rw [isSubtype_type]; kernel_rfl
  ga := getattr_int
  pn := pn_int z t
  len := by decide +kernel
theorem pn_NoneType  (u : Str) (t' : Tok) : CtP w s₀ mg mb 2 28 [.none, .str u t'] (fun _ => True) (RStr (Str.ofString "NoneType")) := by
  intro dp un gd base outer s Q E B X T hpre hdp hun k
  (revert X; k_fill; intro X)
  refine wpAny_call ?_
  k_dflt cell_enter
  k_steps
  all_goals ((try dsimp only); (rename Fr _ _ _ _ => F9); exact k _ _ _ F9.keep ⟨_, rfl⟩)
theorem bad_NoneType  : Bad w s₀ mg mb .none "NoneType" (fun _ => True) where
  stays := fun _ _ _ x => x
  ty := fun _ q => call_type_of (Tx := "NoneType") rfl (by decide +kernel) q
  tt := tt_of (by decide +kernel)
  s1 := by rw [isSubtype_type]; kernel_rfl
  s2 := by rw [isSubtype_type]; kernel_rfl
  ga := getattr_NoneType
  pn := pn_NoneType 
  len := by decide +kernel
theorem pn_bool (b : Bool) (u : Str) (t' : Tok) : CtP w s₀ mg mb 2 28 [(.bool b), .str u t'] (fun _ => True) (RStr (Str.ofString "bool")) := by
  intro dp un gd base outer s Q E B X T hpre hdp hun k
  (revert X; k_fill; intro X)
  refine wpAny_call ?_
  k_dflt cell_enter
  k_steps
  all_goals ((try dsimp only); (rename Fr _ _ _ _ => F9); exact k _ _ _ F9.keep ⟨_, rfl⟩)
theorem bad_bool (b : Bool) : Bad w s₀ mg mb (.bool b) "bool" (fun _ => True) where
  stays := fun _ _ _ x => x
  ty := fun _ q => call_type_of (Tx := "bool") rfl (by decide +kernel) q
  tt := tt_of (by decide +kernel)
  s1 := by rw [isSubtype_type]; kernel_rfl
  s2 := by rw [isSubtype_type]; kernel_rfl
  ga := getattr_bool
  pn := pn_bool b
  len := by decide +kernel
theorem pn_list (a : Addr) (u : Str) (t' : Tok) : CtP w s₀ mg mb 2 28 [(.ref a), .str u t'] (IsA a "list") (RStr (Str.ofString "list")) := by
  intro dp un gd base outer s Q E B X T hpre hdp hun k
  (revert X; k_fill; intro X)
  refine wpAny_call ?_
  k_dflt cell_enter
  k_steps
  all_goals ((try dsimp only); (rename Fr _ _ _ _ => F9); exact k _ _ _ F9.keep ⟨_, rfl⟩)
theorem bad_list (a : Addr) : Bad w s₀ mg mb (.ref a) "list" (IsA a "list") where
  stays := fun _ _ k x => x.stays k
  ty := fun x q => type_isA x (by decide +kernel) q
  tt := tt_of (by decide +kernel)
  s1 := by rw [isSubtype_type]; kernel_rfl
  s2 := by rw [isSubtype_type]; kernel_rfl
  ga := getattr_list
  pn := pn_list a
  len := by decide +kernel
theorem pn_tuple (a : Addr) (u : Str) (t' : Tok) : CtP w s₀ mg mb 2 28 [(.ref a), .str u t'] (IsA a "tuple") (RStr (Str.ofString "tuple")) := by
  intro dp un gd base outer s Q E B X T hpre hdp hun k
  (revert X; k_fill; intro X)
  refine wpAny_call ?_
  k_dflt cell_enter
  k_steps
  all_goals ((try dsimp only); (rename Fr _ _ _ _ => F9); exact k _ _ _ F9.keep ⟨_, rfl⟩)
theorem bad_tuple (a : Addr) : Bad w s₀ mg mb (.ref a) "tuple" (IsA a "tuple") where
  stays := fun _ _ k x => x.stays k
  ty := fun x q => type_isA x (by decide +kernel) q
  tt := tt_of (by decide +kernel)
  s1 := by rw [isSubtype_type]; kernel_rfl
  s2 := by rw [isSubtype_type]; kernel_rfl
  ga := getattr_tuple
  pn := pn_tuple a
  len := by decide +kernel
theorem pn_dict (a : Addr) (u : Str) (t' : Tok) : CtP w s₀ mg mb 2 28 [(.ref a), .str u t'] (IsA a "dict") (RStr (Str.ofString "dict")) := by
  intro dp un gd base outer s Q E B X T hpre hdp hun k
  (revert X; k_fill; intro X)
  refine wpAny_call ?_
  k_dflt cell_enter
  k_steps
  all_goals ((try dsimp only); (rename Fr _ _ _ _ => F9); exact k _ _ _ F9.keep ⟨_, rfl⟩)
theorem bad_dict (a : Addr) : Bad w s₀ mg mb (.ref a) "dict" (IsA a "dict") where
  stays := fun _ _ k x => x.stays k
  ty := fun x q => type_isA x (by decide +kernel) q
  tt := tt_of (by decide +kernel)
  s1 := by rw [isSubtype_type]; kernel_rfl
  s2 := by rw [isSubtype_type]; kernel_rfl
  ga := getattr_dict
  pn := pn_dict a
  len := by decide +kernel
/-- what _law_refused says of such a value -/
theorem refused_bad {v : Value} {T : String} {pre : Heap → Prop} (z : Int) (t : Tok) (hB : Bad w s₀ mg mb v T pre) : CtT w s₀ mg mb 8 192 [.int z t, v] pre (wordsOf T) :=
  have hS : Stay pre := ⟨hB.stays⟩
  have hC := fspath_R v T pre hB
  refused_T z t hS (normcase_R hS hC) (isabs_R hS hC) (splitdrive_R hS hC) (splitroot_R hS hC) (split_R hS hC) (basename_R hS hC)
end
section
variable {prog : Program} {w : World} {A : Around} {h₀ : Heap} {L : Addr} {m : Str → Option Value} {env : Env} {elt : PySem.Expr} {x : Str} {scope : Scope} {cl : List (Str × Addr)} {s : Shared} {S : List (Addr × Obj) → Prop} {P : Nat → Value → Prop}
  {Fin : List Value → List (Addr × Obj) → Prop} {news : List (Addr × Obj)}
theorem compRest_inv (J : Nat → Value → Prop) (n : Nat)
    (turn : ∀ i v I oI C oC D m₂ h tk ys, i < n → P i v → LCg.NsObj oC m₂ → m₂ x = some v → Fr h₀ L h m → News h₀ L h ((I, oI) :: (C, oC) :: (D, LCg.lst ys) :: news) → LCg.Off3 I C D news → ((@Ne Nat I C) ∧ (@Ne Nat I D) ∧ (@Ne Nat C D)) →
      wpAny (model prog w) A (eval elt (compEnvC scope cl C env)) (LCg.CompEnd h₀ L m { s with heap := h, toks := tk } I oI C oC D (LCg.lst ys) S (fun y news' => news' = news ∧ J i y)) (fun _ _ => False) { s with heap := h, toks := tk })
    (fin : ∀ ys, ys.length = n → (∀ i y, ys[i]? = some y → J i y) → Fin ys news) : LCg.CompRest prog w A h₀ L m env elt x scope cl s S P Fin n 0 [] news := by
  have key : ∀ k i ys, i + k = n → ys.length = i → (∀ j y, ys[j]? = some y → J j y) → LCg.CompRest prog w A h₀ L m env elt x scope cl s S P Fin k i ys news := by
    intro k
    induction k with
    | zero => intro i ys hi hl hJ; exact fin ys (by omega) hJ
    | succ k ih =>
      intro i ys hi hl hJ
      refine LCg.CompRest.succ fun v I oI C oC D m₂ h tk E' hP hC hx F N off ne => ?_
      refine wpAny_mono (turn i v I oI C oC D m₂ h tk ys (by omega) hP hC hx F N off ne) (fun y s₂ hy => ?_) fun _ _ e => e.elim
      obtain ⟨h', tk', news', rfl, F', N', off', hS, rfl, hy⟩ := hy
      refine ⟨h', tk', news', rfl, F', N', off', hS, ih (i + 1) (ys ++ [y]) (by omega) (by rw [List.length_append, hl]; rfl) fun j z hz => ?_⟩
      rcases Nat.lt_or_ge j ys.length with hj | hj
      · rw [List.getElem?_append_left hj] at hz; exact hJ j z hz
      · rw [List.getElem?_append_right hj] at hz
        have : j - ys.length = 0 := by
          cases e : j - ys.length with
          | zero => rfl
          | succ q => rw [e] at hz; simp at hz
        rw [this] at hz
        simp at hz
        subst hz
        have : j = i := by omega
        subst this
        exact hy
  exact key n 0 [] (by omega) rfl (fun _ _ h => by simp at h)
end
section
variable {prog : Program} {w : World} {A : Around} {E : Value → Shared → Prop} {s : Shared} {h₀ : Heap} {L l : Addr} {m : Str → Option Value} {news : List (Addr × Obj)}
theorem sum_pick {ys : List Value} {ns : List Int} {lo hi st : Option Int} {Q : Value → Shared → Prop} (hh : A.handled = none) (F : Fr h₀ L s.heap m) (N : News h₀ L s.heap news)
    (hm : (l, ({ cls := .type "list", data := .seq (slicePick ys.toArray lo hi st) } : Obj)) ∈ news) (hi' : IntsAre ys ns)
    (h : ∀ z h' tk t', Fr h₀ L h' m → News h₀ L h' news → Q (.int z t') { s with heap := h', toks := tk }) : wpAny (model prog w) A (call (.builtin "sum") [.ref l]) Q E s := by
  have hp := hi'.pick lo hi st
  have hl : s.heap.IsList l (slicePick ys.toArray lo hi st) := ⟨_, (N _ hm).1, rfl, 0, rfl⟩
  obtain ⟨xs, hx⟩ := hp.allInts.items
  have hx' : slicePick ys.toArray lo hi st = intItems xs := by rw [← hx]
  rw [hx'] at hl
  exact sum_intListG hh hl fun h' tk t' hk => h _ h' tk t' (F.keeps hk) (N.grown hk)
end
local macro_rules | `(tactic| walk_at "call builtin:sum") => `(tactic| (k_here; (with_reducible show wpAny _ _ (call (Value.builtin "sum") [Value.ref _]) _ _ _); k_dflt (refine' sum_pick ?hh ?F ?N ?m ?i ?_; (case hh => exact rfl); (case F => k_asm); (case N => k_asm); (case m => k_mem); (case i => assumption); k_whole; intro z9 h9 tk9 t9 F9 N9; (try dsimp only))))
theorem mod_lo {z : Int} : 0 ≤ z.fmod 7776 := Int.fmod_nonneg_of_pos _ (by decide)
theorem mod_hi {z : Int} : z.fmod 7776 < 7776 := Int.fmod_lt_of_pos _ (by decide)
noncomputable def lawDefS : Stmt := nthS PySem.Challenge.pw_pd0089_01.main.body 27
noncomputable def octBody : List Stmt := forBodyS (nthS (defBodyS lawDefS) 2)
noncomputable def kBody : List Stmt := forBodyS (nthS octBody 3)
noncomputable def otherBody : List Stmt := forBodyS (nthS kBody 10)
noncomputable def whichBody : List Stmt := forBodyS (nthS (defBodyS lawDefS) 5)
noncomputable def wkBody : List Stmt := forBodyS (nthS whichBody 0)
noncomputable def lawEnv (L fa : Addr) (cv : Value) : Env := envOfC (Str.ofString "law") (defScopeS lawDefS) L fa cv
noncomputable def StEnd (h₀ : Heap) (L : Addr) (s : Shared) (P : (Str → Option Value) → List (Addr × Obj) → Prop) (f : Flow) (s' : Shared) : Prop :=
  f = .next ∧ ∃ h' tk' m news, s' = { s with heap := h', toks := tk' } ∧ Fr h₀ L h' m ∧ News h₀ L h' news ∧ P m news
theorem cut_stmt {M : Model} {A : Around} {E : Value → Shared → Prop} {s : Shared} {h₀ : Heap} {L : Addr} {st : Stmt} {env : Env} {Q : Flow → Shared → Prop} (P : (Str → Option Value) → List (Addr × Obj) → Prop)
    (h : wpAny M A (exec st env) (StEnd h₀ L s P) (fun _ _ => False) s)
    (k : ∀ h' tk' m news, Fr h₀ L h' m → News h₀ L h' news → P m news → Q .next { s with heap := h', toks := tk' }) : wpAny M A (exec st env) Q E s :=
  wpAny_mono h (fun f s' ⟨e, h', tk', m, news, es, F, N, p⟩ => e ▸ es ▸ k h' tk' m news F N p) fun _ _ e => e.elim
noncomputable def ovl : List (Str × Value) → (Str → Option Value) → Str → Option Value
  | [], m => m
  | p :: r, m => fun y => if y = p.1 then some p.2 else ovl r m y
noncomputable def Holds : List (Str × Value) → (Str → Option Value) → Prop
  | [], _ => True
  | p :: r, m => m p.1 = some p.2 ∧ Holds r m
theorem ovl_self {m : Str → Option Value} : ∀ {ps : List (Str × Value)}, Holds ps m → m = ovl ps m
  | [], _ => rfl
  | p :: r, h => by
    funext y
    show m y = if y = p.1 then some p.2 else ovl r m y
    by_cases e : y = p.1
    · rw [if_pos e, e]; exact h.1
    · rw [if_neg e]; exact congrFun (ovl_self h.2) y
theorem ov_x1 {x : Str} {v : Option Value} {m n : Str → Option Value} (e : m = n) : ∃ u, (fun y => if y = x then v else n y) = fun y => if y = x then u else m y := ⟨v, by rw [e]⟩
theorem ov_x2 {x : Str} {v v' : Option Value} {m n : Str → Option Value} (e : m = n) : ∃ u, (fun y => if y = x then v else if y = x then v' else n y) = fun y => if y = x then u else m y := ⟨v, by
  rw [e]; funext y
  by_cases hy : y = x
  · rw [if_pos hy, if_pos hy]
  · rw [if_neg hy, if_neg hy, if_neg hy]⟩
local macro_rules | `(tactic| walk_at "call ref") => `(tactic| (k_here; (with_reducible show wpAny _ _ (call (Value.ref 122) [Value.str (S _) _]) _ _ _); k_dflt (refine' Ct.atBool (isabs_str _ _ ?p0) ?k1 ?k2 ?k3 ?k4 ?k5 ?k6 ?k7 ?k8 ?k9 ?_; (case p0 => (first | assumption | (rw [S_length]; omega))); (case k1 => k_asm); (case k2 => k_asm); (case k3 => k_asm); (case k4 => k_asm); (case k5 => k_asm); (case k6 => exact rfl); (case k7 => exact rfl); (case k8 => ktr_room); (case k9 => ktr_units); k_whole; intro h9 tk9 F9 N9; (try dsimp only); (try k_sweep))))
section
variable {w : World} {s₀ : Shared} {mg mb : Str → Option Value} {h₀ h : Heap} {L fa : Addr} {cv : Value} {m : Str → Option Value} {news : List (Addr × Obj)} {tk : Nat} {s : Shared}
theorem other_S {l o : List Nat} {t1 t2 t3 t4 t5 : Tok} (B : Below callerA h₀ [] h₀) (X : (K0 w.params).In h₀) (T : Top V0 (looseW V0 []) (ExcName.means s₀.heap) mg mb h₀)
    (hl : l.length ≤ 17) (ho : o.length ≤ 17)
    (hm : Holds [(Str.ofString "other", .str (S o) t1), (Str.ofString "path", .str (S l) t2), (Str.ofString "none", .str (S []) t3), (Str.ofString "root", .str (S (rootL 47 l)) t4), (Str.ofString "tail", .str (S (tailL 47 l)) t5)] m)
    (F : Fr h₀ L h m) (N : News h₀ L h news) :
    wpAny (model Challenge.rw_pd0089_01.row.prog w) (callerA.deeper (lawEnv L fa cv)) (execs otherBody (lawEnv L fa cv))
      (StEnd h₀ L s (fun m' news' => news' = news ∧ ∃ u, m' = fun y => if y = Str.ofString "told" then u else m y))
      (fun _ _ => False) { s with heap := h, toks := tk } := by
  have hr := root_len (c := 47) (l := l)
  have ht := tail_le 47 l
  have hj : (S (joinL 47 l o)).length ≤ 4096 := by rw [S_length]; have := join_len (c := 47) (l := l) (o := o); omega
  have hoS : (S o).length ≤ 4096 := by rw [S_length]; omega
  have em := ovl_self hm
  rw [em] at F
  dsimp only [ovl] at F em
  (revert X; k_fill; intro X)
  unfold lawEnv
  unfold otherBody kBody octBody lawDefS PySem.Challenge.pw_pd0089_01
  dsimp only [nthS, forBodyS, defBodyS, defScopeS, List.getElem?_cons_succ, List.getElem?_cons_zero]
  repeat' ((fail_if_success (with_reducible show wpAny _ _ (compareOp CmpOp.NotEq _ _) _ _ _)); (first | (k_unfold; (try dsimp only)) | (k_end; kc_close) | walk1 | (dsimp only; walk1) | (leave1; (try dsimp only)) | fail "no step"))
  · (rename Fr _ _ _ _ => F9)
    (rename News _ _ _ _ => N9)
    rw [join_abs (by assumption)] at N9
    refine ne_tup N9 (.head _) (.tail _ (.head _)) (by ke_room) ⟨str_same _ _ _, str_same _ _ _, str_same _ _ _, trivial⟩ ?_
    k_steps
    all_goals ((try dsimp only); (try k_unfold); (try dsimp only))
    exact ⟨rfl, _, _, _, _, rfl, F9, (fun p hp => N9 p (.tail _ (.tail _ (.tail _ hp)))), rfl, ov_x2 em⟩
  · (rename Fr _ _ _ _ => F9)
    (rename News _ _ _ _ => N9)
    have hj2 := join_root (c := 47) (l := l) (o := o) (by assumption)
    rw [hj2.1, hj2.2] at N9
    refine ne_tup N9 (.head _) (.tail _ (.head _)) (by ke_room) ⟨str_same _ _ _, str_same _ _ _, str_same _ _ _, trivial⟩ ?_
    k_steps
    all_goals ((try dsimp only); (try k_unfold); (try dsimp only))
    exact ⟨rfl, _, _, _, _, rfl, F9, (fun p hp => N9 p (.tail _ (.tail _ hp))), rfl, ov_x1 em⟩
end
theorem cut_same {M : Model} {A : Around} {E : Value → Shared → Prop} {s : Shared} {h₀ : Heap} {L : Addr} {st : Stmt} {env : Env} {Q : Flow → Shared → Prop} {m : Str → Option Value} {news : List (Addr × Obj)} (_ : Fr h₀ L s.heap m) (_ : News h₀ L s.heap news)
    (h : wpAny M A (exec st env) (StEnd h₀ L s (fun m' n' => m' = m ∧ n' = news)) (fun _ _ => False) s)
    (k : ∀ h' tk', Fr h₀ L h' m → News h₀ L h' news → Q .next { s with heap := h', toks := tk' }) : wpAny M A (exec st env) Q E s :=
  cut_stmt _ h fun h' tk' _ _ F N p => k h' tk' (p.1 ▸ F) (p.2 ▸ N)
local macro_rules | `(tactic| walk_at "call ref") => `(tactic| (k_here; (with_reducible show wpAny _ _ (call (Value.ref 178) [Value.str (S _) _]) _ _ _); k_dflt (refine' Ct.atInt (front_str _ _ ?p0) ?k1 ?k2 ?k3 ?k4 ?k5 ?k6 ?k7 ?k8 ?k9 ?_; (case p0 => (first | assumption | (rw [S_length]; omega))); (case k1 => k_asm); (case k2 => k_asm); (case k3 => k_asm); (case k4 => k_asm); (case k5 => k_asm); (case k6 => exact rfl); (case k7 => exact rfl); (case k8 => ktr_room); (case k9 => ktr_units); k_whole; intro t9 h9 tk9 F9 N9; (try dsimp only); (try k_sweep))))
section
variable {prog : Program} {w : World} {A : Around} {E : Value → Shared → Prop} {s : Shared} {h₀ : Heap} {L D : Addr} {news : List (Addr × Obj)} {vs : List Value} {n : Nat} {k : Int} {u : Tok} {v : Value} {Q : Value → Shared → Prop}
theorem led_item {value slice : PySem.Expr} (N : News h₀ L s.heap news) (hm : (D, W.listOf vs.toArray n) ∈ news) (h0 : 0 ≤ k) (hhi : k < 2 ^ 63) (hx : vs[k.toNat]? = some v) (h : Q v s)
    (hs : subscripted slice false (.ref D) (.int k u) = operate [.ref D, .int k u] (getItem (.ref D) (.int k u)) := by with_unfolding_all rfl) :
    wpAny (model prog w) A (subscriptTail value slice (.ref D) (.int k u)) Q E s :=
  tail_any (led_list N hm).typeIs slot_list_getitem.lookup (wpAny_getItem_list (led_list N hm) h0 hhi (by simpa using hx) h) hs
end
local macro_rules | `(tactic| walk_at "subscriptTail") => `(tactic| (k_here; (with_reducible show wpAny _ _ (subscriptTail _ (Expr.Name _ _) (Value.ref _) (Value.int _ _)) _ _ _); k_dflt (refine' led_item ?N ?m ?h0 ?h1 ?hx ?_ ?hs; (case N => k_asm); (case m => (repeat (first | assumption | refine List.Mem.tail _ ?_))); (case h0 => omega); (case h1 => omega); (case hx => assumption); (case hs => with_unfolding_all rfl); k_whole)))
section
variable {prog : Program} {w : World} {A : Around} {E : Value → Shared → Prop} {s : Shared} {h₀ : Heap} {L l : Addr} {m : Str → Option Value} {news : List (Addr × Obj)} {Q : Value → Shared → Prop}
theorem fold_one (v : Value) : ∀ (n : Nat) (acc : Array Value), List.foldl (fun x1 x2 => x1 ++ x2) acc (List.replicate n #[v]) = acc ++ (List.replicate n v).toArray
  | 0, acc => by simp
  | n + 1, acc => by
    rw [List.replicate_succ, List.foldl_cons, fold_one v n, Array.append_assoc]
    congr 1
    apply Array.toList_inj.mp
    simp [List.replicate_succ]
theorem mul_one' {v : Value} {x : Int} {c : Nat} {u : Tok} (F : Fr h₀ L s.heap m) (N : News h₀ L s.heap news) (hm : (l, W.listOf #[v] c) ∈ news) (h1 : -(2 ^ 63 : Int) ≤ x) (h2 : x ≤ 64)
    (h : ∀ D h', Fr h₀ L h' m → News h₀ L h' ((D, W.listOf (List.replicate x.toNat v).toArray 0) :: news) → (∀ p ∈ news, p.1 < D) → Q (.ref D) { s with heap := h' }) :
    wpAny (model prog w) A (binaryOp .Mult (.ref l) (.int x u)) Q E s :=
  mul_list F N (N _ hm).1 h1 (by omega) (by simp; omega) fun h' F' N' => h _ h' F' (by
    have e : List.foldl (fun x1 x2 => x1 ++ x2) #[] (List.replicate (if (#[v] : Array Value).isEmpty = true then 0 else x.toNat) #[v]) = (List.replicate x.toNat v).toArray := by
      rw [if_neg (by simp), fold_one]; simp
    rw [e] at N'
    exact N') fun p hp => Heap.lt_size (N p hp).1
theorem ne_str_same {x y : Str} {t u : Tok} (e : x = y) (h : Q (.bool false) s) : wpAny (model prog w) A (compareOp .NotEq (.str x t) (.str y u)) Q E s := by
  have := PySem.SeqAt.RcNeAt.str_str (A := A) (s := s) x t y u
  rw [e, beq_self_eq_true] at this
  exact e ▸ this prog w E Q h
theorem ne_bool_same {x y : Bool} (e : x = y) (h : Q (.bool false) s) : wpAny (model prog w) A (compareOp .NotEq (.bool x) (.bool y)) Q E s := by
  subst e
  have := PySem.SeqAt.RcNeAt.bool_bool (A := A) (s := s) x x
  exact this prog w E Q (by simpa using h)
theorem ne_bytes_same {x y : Array UInt8} {t u : Tok} (e : x = y) (h : Q (.bool false) s) : wpAny (model prog w) A (compareOp .NotEq (.bytes x t) (.bytes y u)) Q E s := by
  subst e
  exact ne_bytes (by simpa using h)
end
local macro_rules | `(tactic| walk_at "binaryOp Mult ref int") => `(tactic| (k_here; (with_reducible show wpAny _ _ (binaryOp Operator.Mult (Value.ref _) (Value.int _ _)) _ _ _); k_dflt (refine' mul_one' ?F ?N ?m ?h1 ?h2 ?_; (case F => k_asm); (case N => k_asm); (case m => k_mem); (case h1 => omega); (case h2 => omega); k_whole; intro D' h' F' N' l1; (try k_lt l1); (try dsimp only); (try k_sweep))))
theorem StrL.append : ∀ {vs us : List Value} {ds es : List (List Nat)}, StrL vs ds → StrL us es → StrL (vs ++ us) (ds ++ es)
  | [], _, [], _, _, h => h
  | _ :: _, _, _ :: _, _, h, k => ⟨h.1, h.2.append k⟩
  | [], _, _ :: _, _, h, _ => h.elim
  | _ :: _, _, [], _, h, _ => h.elim
theorem StrL.rep {d : List Nat} {t : Tok} : ∀ n, StrL (List.replicate n (.str (S d) t)) (List.replicate n d)
  | 0 => trivial
  | n + 1 => ⟨⟨t, rfl⟩, StrL.rep n⟩
theorem StrL.all2 {A : Around} {s : Shared} : ∀ {vs us : List Value} {ds : List (List Nat)}, StrL vs ds → StrL us ds → All2 (fun v u => PySem.SeqAt.EqAt A s v u true) vs us
  | [], [], [], _, _ => trivial
  | _ :: _, _ :: _, _ :: _, ⟨⟨_, h⟩, hr⟩, ⟨⟨_, k⟩, kr⟩ => ⟨h ▸ k ▸ str_same _ _ _, hr.all2 kr⟩
  | [], _ :: _, [], _, h => h.elim
  | [], _, _ :: _, h, _ => h.elim
  | _ :: _, _, [], h, _ => h.elim
  | _ :: _, [], _ :: _, _, h => h.elim
theorem ov_two {x : Str} {v v' : Option Value} {n : Str → Option Value} : (fun y => if y = x then v else if y = x then v' else n y) = fun y => if y = x then v else n y := by
  funext y
  by_cases hy : y = x
  · rw [if_pos hy, if_pos hy]
  · rw [if_neg hy, if_neg hy, if_neg hy]
theorem news_pick {h₀ h : Heap} {L : Addr} {all n : List (Addr × Obj)} {x : Addr × Obj} (N : News h₀ L h all) (hx : x ∈ all) (hn : ∀ p ∈ n, p ∈ all) : News h₀ L h (x :: n) := fun p hp => by
  rcases List.mem_cons.mp hp with rfl | hp
  · exact N _ hx
  · exact N _ (hn p hp)
theorem due_big {n : Nat} (h : (1 : Int) < (n : Int)) : dueL (47 : Nat) n = List.replicate ((n : Int) - 2).toNat [47] ++ [[47, 47]] := by
  unfold dueL
  rw [if_pos (by omega)]
  have : ((n : Int) - 2).toNat = n - 2 := by omega
  rw [this]
theorem due_small {n : Nat} (h : ¬ (1 : Int) < (n : Int)) : dueL (47 : Nat) n = List.replicate (n : Int).toNat [47] := by
  unfold dueL
  rw [if_neg (by omega)]
  have : (n : Int).toNat = n := by omega
  rw [this]
section
variable {w : World} {s₀ : Shared} {mg mb : Str → Option Value} {n : Nat} {f : Addr} {vs : List Value} {A A₀ : Around} {base h₀ : Heap} {outer : List Env} {L : Addr} {m : Str → Option Value} {news : List (Addr × Obj)} {s : Shared} {Q E : Value → Shared → Prop}
  {dp un : Nat} {gd : Option (List Code)} {env : Env}
theorem Ct.atRootsS {ds : List (List Nat)} {x y : Str} (C : Ct w s₀ mg mb n f vs (RRootsS ds x y)) (B : Below A₀ base outer h₀) (F : Fr h₀ L s.heap m) (N : News h₀ L s.heap news) (X : (K0 w.params).In h₀)
    (T : Top V0 (looseW V0 []) (ExcName.means s₀.heap) mg mb h₀) (hf : env.frame = some L) (hke : env.scope.kind = .function)
    (hdp : dp + n < recursionLimit) (hun : un + (4 * n + 20) < cLine)
    (k : ∀ a b xs e t1 t2 h' tk', Fr h₀ L h' m → News h₀ L h' ((a, tupO [.ref b, .str x t1, .str y t2]) :: (b, W.listOf xs.toArray e) :: news) → StrL xs ds → @Ne Nat a b → (∀ p ∈ news, p.1 ≠ a) → (∀ p ∈ news, p.1 ≠ b) → Q (.ref a) { s with heap := h', toks := tk' }) :
    wpAny (model Challenge.rw_pd0089_01.row.prog w) (AA dp un gd (env :: outer)) (call (.ref f) vs) Q E s :=
  C.at B F N X T hf hke hdp hun fun _ h' tk' F' N' st ⟨a, b, xs, e, t1, t2, ev, g1, g2, hab, hS, o1, o2⟩ => ev ▸ k a b xs e t1 t2 h' tk' F'
    (fun p hp => by
      rcases List.mem_cons.mp hp with rfl | hp
      · exact (news_more F N st g1 o1).1 _ (.head _)
      · exact (news_more F N st g2 o2).1 p hp) hS hab (news_more F N st g1 o1).2 (news_more F N st g2 o2).2
end
local macro_rules | `(tactic| walk_at "call ref") => `(tactic| (k_here; (with_reducible show wpAny _ _ (call (Value.ref 185) [Value.str (S _) _]) _ _ _); k_dflt (refine' Ct.atRootsS (roots_str _ _ ?p0) ?k1 ?k2 ?k3 ?k4 ?k5 ?k6 ?k7 ?k8 ?k9 ?_; (case p0 => (first | assumption | (rw [S_length]; omega))); (case k1 => k_asm); (case k2 => k_asm); (case k3 => k_asm); (case k4 => k_asm); (case k5 => k_asm); (case k6 => exact rfl); (case k7 => exact rfl); (case k8 => ktr_room); (case k9 => ktr_units); k_whole; intro a9 b9 vs9 e9 t9 u9 h9 tk9 F9 N9 hS9 n9 l9 l8; (replace l9 := allNe_of l9); (replace l8 := allNe_of l8); (try simp only [AllNe, and_true] at l9 l8); (try dsimp only); (try k_sweep))))
theorem upd_same2 {m : Str → Option Value} {x x' : Str} : m = fun y => if y = x then m x else if y = x' then m x' else m y := by
  funext y
  by_cases e : y = x
  · rw [if_pos e, e]
  · by_cases e' : y = x'
    · rw [if_neg e, if_pos e', e']
    · rw [if_neg e, if_neg e']
theorem norm_test_S {l : List Nat} : (S (normN 47 [46] [46, 46] (joinL 47 (rootL 47 l) (tailL 47 l))) == S (normN 47 [46] [46, 46] l)) = (((frontL 47 l : Nat) : Int) != 3) := by
  rw [S_beq, norm_laid]
  by_cases h : frontL 47 l = 3
  · simp [h]
  · have : ((frontL 47 l : Nat) : Int) ≠ 3 := by omega
    simp [h, this]
theorem strL_big {n : Nat} {t u : Tok} (h : (1 : Int) < (n : Int)) : StrL (List.replicate ((n : Int) - 2).toNat (.str (S [47]) t) ++ [.str (Str.ofString "//") u]) (dueL 47 n) := by
  rw [due_big h, lit_a]
  exact (StrL.rep _).append ⟨⟨u, rfl⟩, trivial⟩
theorem strL_small {n : Nat} {t : Tok} (h : ¬ (1 : Int) < (n : Int)) : StrL (List.replicate (n : Int).toNat (.str (S [47]) t)) (dueL 47 n) := by
  rw [due_small h]
  exact StrL.rep _
local macro_rules | `(tactic| walk_at "call ref") => `(tactic| (k_here; (with_reducible show wpAny _ _ (call (Value.ref 143) [Value.str (S _) _]) _ _ _); k_dflt (refine' Ct.atPairS (splitdrive_str _ _ ?p0) ?k1 ?k2 ?k3 ?k4 ?k5 ?k6 ?k7 ?k8 ?k9 ?_; (case p0 => (first | assumption | (rw [S_length]; omega))); (case k1 => k_asm); (case k2 => k_asm); (case k3 => k_asm); (case k4 => k_asm); (case k5 => k_asm); (case k6 => exact rfl); (case k7 => exact rfl); (case k8 => ktr_room); (case k9 => ktr_units); k_whole; intro a9 t9 u9 h9 tk9 F9 N9 l9; (replace l9 := allNe_of l9); (try simp only [AllNe, and_true] at l9); (try dsimp only); (try k_sweep))))
local macro_rules | `(tactic| walk_at "call ref") => `(tactic| (k_here; (with_reducible show wpAny _ _ (call (Value.ref 150) [Value.str (S _) _]) _ _ _); k_dflt (refine' Ct.atTupS (splitroot_str _ _ ?p0) ?k1 ?k2 ?k3 ?k4 ?k5 ?k6 ?k7 ?k8 ?k9 ?_; (case p0 => (first | assumption | (rw [S_length]; omega))); (case k1 => k_asm); (case k2 => k_asm); (case k3 => k_asm); (case k4 => k_asm); (case k5 => k_asm); (case k6 => exact rfl); (case k7 => exact rfl); (case k8 => ktr_room); (case k9 => ktr_units); k_whole; intro a9 t9 u9 v9 h9 tk9 F9 N9 l9; (replace l9 := allNe_of l9); (try simp only [AllNe, and_true] at l9); (try dsimp only); (try k_sweep))))
section
variable {w : World} {s₀ : Shared} {mg mb : Str → Option Value} {h₀ h : Heap} {L fa : Addr} {cv : Value} {m : Str → Option Value} {news : List (Addr × Obj)} {tk : Nat} {s : Shared}
theorem kturn_S {l : List Nat} {k' : Int} {At Ar : Addr} {ts rs : List Value} {nt nr : Nat} {t1 t2 t3 t4 t5 : Tok} (B : Below callerA h₀ [] h₀) (X : (K0 w.params).In h₀) (T : Top V0 (looseW V0 []) (ExcName.means s₀.heap) mg mb h₀)
    (hl : l.length ≤ 17) (hk0 : 0 ≤ k') (hk3 : k' < 3)
    (hm : Holds [(Str.ofString "k", .int k' t1), (Str.ofString "texts", .ref At), (Str.ofString "row", .ref Ar), (Str.ofString "slash", .str (S [47]) t2), (Str.ofString "none", .str (S []) t3)] m)
    (hAt : (At, W.listOf ts.toArray nt) ∈ news) (hAr : (Ar, W.listOf rs.toArray nr) ∈ news) (hts : ts[k'.toNat]? = some (.str (S l) t4)) (hrs : rs[k'.toNat]? = some (.str (S l) t5))
    (hall : ∀ v ∈ rs, ∃ o t, v = .str (S o) t ∧ o.length ≤ 17)
    (F : Fr h₀ L h m) (N : News h₀ L h news) :
    wpAny (model Challenge.rw_pd0089_01.row.prog w) (callerA.deeper (lawEnv L fa cv)) (execs kBody (lawEnv L fa cv))
      (StEnd h₀ L s (fun m' news' => news' = news ∧ (m' (Str.ofString "texts") = some (.ref At) ∧ m' (Str.ofString "row") = some (.ref Ar) ∧ m' (Str.ofString "slash") = some (.str (S [47]) t2) ∧ m' (Str.ofString "none") = some (.str (S []) t3)) ∧ ∃ z t, m' (Str.ofString "front") = some (.int z t)))
      (fun _ _ => False) { s with heap := h, toks := tk } := by
  have hrt := root_len (c := 47) (l := l)
  have htl := tail_le 47 l
  have hfl := front_le 47 l
  have hjl : joinL 47 (rootL 47 l) (tailL 47 l) = if frontL 47 l < 3 then l else l.drop 1 := laid_eq
  have hjn : (joinL 47 (rootL 47 l) (tailL 47 l)).length ≤ 1000 := by have := join_len (c := 47) (l := rootL 47 l) (o := tailL 47 l); omega
  have hlS : (S l).length ≤ 4096 := by rw [S_length]; omega
  have em := ovl_self hm
  rw [em] at F
  dsimp only [ovl] at F em
  (revert X; k_fill; intro X)
  unfold lawEnv
  unfold kBody octBody lawDefS PySem.Challenge.pw_pd0089_01
  dsimp only [nthS, forBodyS, defBodyS, defScopeS, List.getElem?_cons_succ, List.getElem?_cons_zero]
  repeat' ((fail_if_success (with_reducible show wpAny _ _ (exec (Stmt.If _ _ _ _) _) _ _ _)); (first | (k_unfold; (try dsimp only)) | (k_end; kc_close) | walk1 | (dsimp only; walk1) | (leave1; (try dsimp only)) | fail "no step"))
  refine cut_stmt (h₀ := h₀) (L := L) (fun m' n' => news = n' ∧ ∃ tf, m' = ovl [(Str.ofString "front", .int (frontL 47 l) tf), (Str.ofString "path", .str (S l) t5), (Str.ofString "k", .int k' t1), (Str.ofString "texts", .ref At), (Str.ofString "row", .ref Ar), (Str.ofString "slash", .str (S [47]) t2), (Str.ofString "none", .str (S []) t3)] m) ?_ ?_
  · repeat' ((fail_if_success (with_reducible show wpAny _ _ (compareOp CmpOp.NotEq _ _) _ _ _)); (first | (k_unfold; (try dsimp only)) | (k_end; kc_close) | walk1 | (dsimp only; walk1) | (leave1; (try dsimp only)) | fail "no step"))
    (try clear F9 N9); (rename Fr _ _ _ _ => F9); (rename News _ _ _ _ => N9)
    have eb : decide (0 < ((frontL 47 l : Nat) : Int)) = isabsL 47 l := by rw [isabs_front]; simp
    rw [eb] at N9
    refine ne_tup N9 (.tail _ (.tail _ (.head _))) (.head _) (by ke_room) ⟨str_same _ _ _, PySem.SeqAt.EqAt.same _, tup_same (led_tup N9 (.tail _ (.tail _ (.tail _ (.head _))))) (led_tup N9 (.tail _ (.head _))) (by ke_room) ⟨str_same _ _ _, str_same _ _ _, trivial⟩, trivial⟩ ?_
    k_steps
    all_goals ((try dsimp only); (try k_unfold); (try dsimp only))
    exact ⟨rfl, _, _, _, _, rfl, F9, (fun p hp => N9 p (.tail _ (.tail _ (.tail _ (.tail _ hp))))), rfl, _, rfl⟩
  rintro h9 tk9 m9 n9 F9 N9 ⟨rfl, tf, rfl⟩
  dsimp only [ovl] at F9
  (try dsimp only)
  repeat' ((fail_if_success (with_reducible show wpAny _ _ (exec (Stmt.If _ _ _ _) _) _ _ _)); (first | (k_unfold; (try dsimp only)) | (k_end; kc_close) | walk1 | (dsimp only; walk1) | (leave1; (try dsimp only)) | fail "no step"))
  refine cut_stmt (h₀ := h₀) (L := L) (fun m' n' => ∃ D vs e, n' = (D, W.listOf (List.toArray vs) e) :: news ∧ StrL vs (dueL 47 (frontL 47 l)) ∧ m' = ovl [(Str.ofString "due", .ref D), (Str.ofString "front", .int (frontL 47 l) tf), (Str.ofString "path", .str (S l) t5), (Str.ofString "k", .int k' t1), (Str.ofString "texts", .ref At), (Str.ofString "row", .ref Ar), (Str.ofString "slash", .str (S [47]) t2), (Str.ofString "none", .str (S []) t3)] m) ?_ ?_
  · k_steps
    all_goals ((try dsimp only); (try k_unfold); (try dsimp only))
    · (try clear F9 N9); (rename Fr _ _ _ _ => F9); (rename News _ _ _ _ => N9)
      exact ⟨rfl, _, _, _, _, rfl, F9, news_pick N9 (.head _) (fun p hp => .tail _ (.tail _ (.tail _ (.tail _ (.tail _ (.tail _ hp)))))), _, _, _, rfl, strL_big (by assumption), ov_two⟩
    · (try clear F9 N9); (rename Fr _ _ _ _ => F9); (rename News _ _ _ _ => N9)
      exact ⟨rfl, _, _, _, _, rfl, F9, news_pick N9 (.head _) (fun p hp => .tail _ (.tail _ hp)), _, _, _, rfl, strL_small (by assumption), rfl⟩
  rintro h9 tk9 m9 n9' F9 N9 ⟨D, vs, e, rfl, hS, rfl⟩
  dsimp only [ovl] at F9
  (try dsimp only)
  repeat' ((fail_if_success (with_reducible show wpAny _ _ (exec (Stmt.If _ _ _ _) _) _ _ _)); (first | (k_unfold; (try dsimp only)) | (k_end; kc_close) | walk1 | (dsimp only; walk1) | (leave1; (try dsimp only)) | fail "no step"))
  refine cut_stmt (h₀ := h₀) (L := L) (fun m' n' => news = n' ∧ m' = ovl [(Str.ofString "due", .ref D), (Str.ofString "front", .int (frontL 47 l) tf), (Str.ofString "path", .str (S l) t5), (Str.ofString "k", .int k' t1), (Str.ofString "texts", .ref At), (Str.ofString "row", .ref Ar), (Str.ofString "slash", .str (S [47]) t2), (Str.ofString "none", .str (S []) t3)] m) ?_ ?_
  · repeat' ((fail_if_success (with_reducible show wpAny _ _ (compareOp CmpOp.NotEq _ _) _ _ _)); (first | (k_unfold; (try dsimp only)) | (k_end; kc_close) | walk1 | (dsimp only; walk1) | (leave1; (try dsimp only)) | fail "no step"))
    (try clear F9 N9); (rename Fr _ _ _ _ => F9); (rename News _ _ _ _ => N9)
    rw [slice_S_sn] at N9
    (rename StrL _ (rootsN _ _) => hS9')
    rw [due_eq] at hS9'
    refine ne_tup N9 (.tail _ (.head _)) (.head _) (by ke_room) ⟨list_same (led_lst N9 (.tail _ (.tail _ (.head _)))) (led_lst N9 (.tail _ (.tail _ (.tail _ (.head _))))) (by ke_room) (hS9'.all2 hS), str_same _ _ _, str_same _ _ _, trivial⟩ ?_
    k_steps
    all_goals ((try dsimp only); (try k_unfold); (try dsimp only))
    exact ⟨rfl, _, _, _, _, rfl, F9, (fun p hp => N9 p (.tail _ (.tail _ (.tail _ (.tail _ hp))))), rfl, rfl⟩
  rintro h9 tk9 m9 n9' F9 N9 ⟨rfl, rfl⟩
  dsimp only [ovl] at F9
  (try dsimp only)
  repeat' ((fail_if_success (with_reducible show wpAny _ _ (exec (Stmt.If _ _ _ _) _) _ _ _)); (first | (k_unfold; (try dsimp only)) | (k_end; kc_close) | walk1 | (dsimp only; walk1) | (leave1; (try dsimp only)) | fail "no step"))
  refine cut_stmt (h₀ := h₀) (L := L) (fun m' n' => news = n' ∧ ∃ ta tb tc td, m' = ovl [(Str.ofString "laid", .str (S (joinL 47 (rootL 47 l) (tailL 47 l))) ta), (Str.ofString "tail", .str (S (tailL 47 l)) tb), (Str.ofString "root", .str (S (rootL 47 l)) tc), (Str.ofString "drive", .str (S []) td), (Str.ofString "due", .ref D), (Str.ofString "front", .int (frontL 47 l) tf), (Str.ofString "path", .str (S l) t5), (Str.ofString "k", .int k' t1), (Str.ofString "texts", .ref At), (Str.ofString "row", .ref Ar), (Str.ofString "slash", .str (S [47]) t2), (Str.ofString "none", .str (S []) t3)] m) ?_ ?_
  · repeat' ((fail_if_success (with_reducible show wpAny _ _ (compareOp CmpOp.NotEq _ _) _ _ _)); (first | (k_unfold; (try dsimp only)) | (k_end; kc_close) | walk1 | (dsimp only; walk1) | (leave1; (try dsimp only)) | fail "no step"))
    · (try clear F9 N9); (rename Fr _ _ _ _ => F9); (rename News _ _ _ _ => N9)
      refine ne_str_same (by rw [hjl, if_pos (by omega)]) ?_
      k_steps
      all_goals ((try dsimp only); (try k_unfold); (try dsimp only))
      exact ⟨rfl, _, _, _, _, rfl, F9, (fun p hp => N9 p (.tail _ hp)), rfl, _, _, _, _, rfl⟩
    · (try clear F9 N9); (rename Fr _ _ _ _ => F9); (rename News _ _ _ _ => N9)
      refine ne_str_same (by rw [hjl, if_neg (by omega), sl_1n]) ?_
      k_steps
      all_goals ((try dsimp only); (try k_unfold); (try dsimp only))
      exact ⟨rfl, _, _, _, _, rfl, F9, (fun p hp => N9 p (.tail _ hp)), rfl, _, _, _, _, rfl⟩
  rintro h9 tk9 m9 n8 F9 N9 ⟨rfl, ta, tb, tc, td, rfl⟩
  dsimp only [ovl] at F9
  (try dsimp only)
  repeat' ((fail_if_success (with_reducible show wpAny _ _ (exec (Stmt.If _ _ _ _) _) _ _ _)); (first | (k_unfold; (try dsimp only)) | (k_end; kc_close) | walk1 | (dsimp only; walk1) | (leave1; (try dsimp only)) | fail "no step"))
  refine cut_stmt (h₀ := h₀) (L := L) (fun m' n' => news = n' ∧ m' = ovl [(Str.ofString "laid", .str (S (joinL 47 (rootL 47 l) (tailL 47 l))) ta), (Str.ofString "tail", .str (S (tailL 47 l)) tb), (Str.ofString "root", .str (S (rootL 47 l)) tc), (Str.ofString "drive", .str (S []) td), (Str.ofString "due", .ref D), (Str.ofString "front", .int (frontL 47 l) tf), (Str.ofString "path", .str (S l) t5), (Str.ofString "k", .int k' t1), (Str.ofString "texts", .ref At), (Str.ofString "row", .ref Ar), (Str.ofString "slash", .str (S [47]) t2), (Str.ofString "none", .str (S []) t3)] m) ?_ ?_
  · repeat' ((fail_if_success (with_reducible show wpAny _ _ (compareOp CmpOp.NotEq (Value.bool _) _) _ _ _)); (first | (k_unfold; (try dsimp only)) | (k_end; kc_close) | walk1 | (dsimp only; walk1) | (leave1; (try dsimp only)) | fail "no step"))
    (try clear F9 N9); (rename Fr _ _ _ _ => F9); (rename News _ _ _ _ => N9)
    refine ne_bool_same norm_test_S ?_
    k_steps
    all_goals ((try dsimp only); (try k_unfold); (try dsimp only))
    exact ⟨rfl, _, _, _, _, rfl, F9, N9, rfl, rfl⟩
  rintro h9 tk9 m9 n7 F9 N9 ⟨rfl, rfl⟩
  dsimp only [ovl] at F9
  (try dsimp only)
  repeat' ((fail_if_success (with_reducible show wpAny _ _ (exec (Stmt.For _ _ _ _ _) _) _ _ _)); (first | (k_unfold; (try dsimp only)) | (k_end; kc_close) | walk1 | (dsimp only; walk1) | (leave1; (try dsimp only)) | fail "no step"))
  refine for_fr F9 N9 rfl hAr rfl rfl rfl rfl ?ev (fun m₀ news₀ _ rest m news => news₀ = news ∧ (∀ v ∈ rest, ∃ o t, v = Value.str (S o) t ∧ o.length ≤ 17) ∧ ∃ u1 u2, m = fun y => if y = Str.ofString "told" then u1 else if y = Str.ofString "other" then u2 else m₀ y)
    ⟨rfl, hall, _, _, upd_same2⟩ ?mem ?step ?fin
  case ev =>
    k_steps
    all_goals exact ⟨rfl, rfl⟩
  case mem =>
    rintro done rest m news ⟨rfl, _⟩
    exact hAr
  case step =>
    rintro done v rest m news I it h' tk' ⟨rfl, hal, u1, u2, rfl⟩ hit hI F' N'
    obtain ⟨o, t, rfl, ho⟩ := hal _ (.head _)
    refine wpAny_mono (other_S (s := s) (fa := fa) (cv := cv) B X T hl ho ⟨if_pos rfl, (by (try dsimp only); repeat (first | with_reducible exact if_pos rfl | refine (if_neg (by decide +kernel)).trans ?_)), (by (try dsimp only); repeat (first | with_reducible exact if_pos rfl | refine (if_neg (by decide +kernel)).trans ?_)), (by (try dsimp only); repeat (first | with_reducible exact if_pos rfl | refine (if_neg (by decide +kernel)).trans ?_)), (by (try dsimp only); repeat (first | with_reducible exact if_pos rfl | refine (if_neg (by decide +kernel)).trans ?_)), trivial⟩ F' N') (fun f s₂ hs => ?_) (fun _ _ e => e)
    obtain ⟨rfl, h'', tk'', m', n', rfl, F'', N'', rfl, u, rfl⟩ := hs
    exact ⟨h'', tk'', _, _, rfl, F'', N'', hI, rfl, (fun v hv => hal v (.tail _ hv)), _, _, upd_over2⟩
  case fin =>
    rintro m news h' tk' ⟨rfl, _, u1, u2, rfl⟩ F' N'
    k_steps
    all_goals ((try dsimp only); (try k_unfold); (try dsimp only))
    exact ⟨rfl, _, _, _, _, rfl, F', N', rfl, ⟨(by (try dsimp only); repeat (first | with_reducible exact if_pos rfl | refine (if_neg (by decide +kernel)).trans ?_)), (by (try dsimp only); repeat (first | with_reducible exact if_pos rfl | refine (if_neg (by decide +kernel)).trans ?_)), (by (try dsimp only); repeat (first | with_reducible exact if_pos rfl | refine (if_neg (by decide +kernel)).trans ?_)), (by (try dsimp only); repeat (first | with_reducible exact if_pos rfl | refine (if_neg (by decide +kernel)).trans ?_))⟩, _, _, (by (try dsimp only); repeat (first | with_reducible exact if_pos rfl | refine (if_neg (by decide +kernel)).trans ?_))⟩
end
theorem BytL.append : ∀ {vs us : List Value} {ds es : List (List UInt8)}, BytL vs ds → BytL us es → BytL (vs ++ us) (ds ++ es)
  | [], _, [], _, _, h => h
  | _ :: _, _, _ :: _, _, h, k => ⟨h.1, h.2.append k⟩
  | [], _, _ :: _, _, h, _ => h.elim
  | _ :: _, _, [], _, h, _ => h.elim
theorem BytL.rep {d : List UInt8} {t : Tok} : ∀ n, BytL (List.replicate n (.bytes d.toArray t)) (List.replicate n d)
  | 0 => trivial
  | n + 1 => ⟨⟨t, rfl⟩, BytL.rep n⟩
theorem BytL.all2 {A : Around} {s : Shared} : ∀ {vs us : List Value} {ds : List (List UInt8)}, BytL vs ds → BytL us ds → All2 (fun v u => PySem.SeqAt.EqAt A s v u true) vs us
  | [], [], [], _, _ => trivial
  | _ :: _, _ :: _, _ :: _, ⟨⟨_, h⟩, hr⟩, ⟨⟨_, k⟩, kr⟩ => ⟨h ▸ k ▸ bytes_same _ _ _, hr.all2 kr⟩
  | [], _ :: _, [], _, h => h.elim
  | [], _, _ :: _, h, _ => h.elim
  | _ :: _, _, [], h, _ => h.elim
  | _ :: _, [], _ :: _, _, h => h.elim
theorem norm_test_B {l : List UInt8} : ((normN 47 [46] [46, 46] (joinL 47 (rootL 47 l) (tailL 47 l))).toArray.toList == (normN 47 [46] [46, 46] l).toArray.toList) = (((frontL 47 l : Nat) : Int) != 3) := by
  have e := norm_laid (c := (47 : UInt8)) (dot := [46]) (dd := [46, 46]) (l := l)
  have e2 : ((normN 47 [46] [46, 46] (joinL 47 (rootL 47 l) (tailL 47 l))).toArray.toList == (normN 47 [46] [46, 46] l).toArray.toList) = decide (normN 47 [46] [46, 46] (joinL 47 (rootL 47 l) (tailL 47 l)) = normN 47 [46] [46, 46] l) := by
    rw [Bool.beq_eq_decide_eq]
  rw [e2, e]
  by_cases h : frontL 47 l = 3
  · simp [h]
  · have : ((frontL 47 l : Nat) : Int) ≠ 3 := by omega
    simp [h, this]
theorem due_big_B {n : Nat} (h : (1 : Int) < (n : Int)) : dueL (47 : UInt8) n = List.replicate ((n : Int) - 2).toNat [47] ++ [[47, 47]] := by
  unfold dueL
  rw [if_pos (by omega)]
  have : ((n : Int) - 2).toNat = n - 2 := by omega
  rw [this]
theorem due_small_B {n : Nat} (h : ¬ (1 : Int) < (n : Int)) : dueL (47 : UInt8) n = List.replicate (n : Int).toNat [47] := by
  unfold dueL
  rw [if_neg (by omega)]
  have : (n : Int).toNat = n := by omega
  rw [this]
theorem bytL_big {n : Nat} {t u : Tok} (h : (1 : Int) < (n : Int)) : BytL (List.replicate ((n : Int) - 2).toNat (.bytes #[47] t) ++ [.bytes ([47] ++ [47] : List UInt8).toArray u]) (dueL 47 n) := by
  rw [due_big_B h]
  exact (BytL.rep (d := [47]) _).append ⟨⟨u, rfl⟩, trivial⟩
theorem bytL_small {n : Nat} {t : Tok} (h : ¬ (1 : Int) < (n : Int)) : BytL (List.replicate (n : Int).toNat (.bytes #[47] t)) (dueL 47 n) := by
  rw [due_small_B h]
  exact BytL.rep (d := [47]) _
section
variable {w : World} {s₀ : Shared} {mg mb : Str → Option Value} {n : Nat} {f : Addr} {vs : List Value} {A A₀ : Around} {base h₀ : Heap} {outer : List Env} {L : Addr} {m : Str → Option Value} {news : List (Addr × Obj)} {s : Shared} {Q E : Value → Shared → Prop}
  {dp un : Nat} {gd : Option (List Code)} {env : Env}
theorem Ct.atRootsB {ds : List (List UInt8)} {x y : Array UInt8} (C : Ct w s₀ mg mb n f vs (RRootsB ds x y)) (B : Below A₀ base outer h₀) (F : Fr h₀ L s.heap m) (N : News h₀ L s.heap news) (X : (K0 w.params).In h₀)
    (T : Top V0 (looseW V0 []) (ExcName.means s₀.heap) mg mb h₀) (hf : env.frame = some L) (hke : env.scope.kind = .function)
    (hdp : dp + n < recursionLimit) (hun : un + (4 * n + 20) < cLine)
    (k : ∀ a b xs e t1 t2 h' tk', Fr h₀ L h' m → News h₀ L h' ((a, tupO [.ref b, .bytes x t1, .bytes y t2]) :: (b, W.listOf xs.toArray e) :: news) → BytL xs ds → @Ne Nat a b → (∀ p ∈ news, p.1 ≠ a) → (∀ p ∈ news, p.1 ≠ b) → Q (.ref a) { s with heap := h', toks := tk' }) :
    wpAny (model Challenge.rw_pd0089_01.row.prog w) (AA dp un gd (env :: outer)) (call (.ref f) vs) Q E s :=
  C.at B F N X T hf hke hdp hun fun _ h' tk' F' N' st ⟨a, b, xs, e, t1, t2, ev, g1, g2, hab, hS, o1, o2⟩ => ev ▸ k a b xs e t1 t2 h' tk' F'
    (fun p hp => by
      rcases List.mem_cons.mp hp with rfl | hp
      · exact (news_more F N st g1 o1).1 _ (.head _)
      · exact (news_more F N st g2 o2).1 p hp) hS hab (news_more F N st g1 o1).2 (news_more F N st g2 o2).2
end
local macro_rules | `(tactic| walk_at "call ref") => `(tactic| (k_here; (with_reducible show wpAny _ _ (call (Value.ref 185) [Value.bytes (List.toArray _) _]) _ _ _); k_dflt (refine' Ct.atRootsB (roots_bytes _ _ ?p0) ?k1 ?k2 ?k3 ?k4 ?k5 ?k6 ?k7 ?k8 ?k9 ?_; (case p0 => (first | assumption | omega)); (case k1 => k_asm); (case k2 => k_asm); (case k3 => k_asm); (case k4 => k_asm); (case k5 => k_asm); (case k6 => exact rfl); (case k7 => exact rfl); (case k8 => ktr_room); (case k9 => ktr_units); k_whole; intro a9 b9 vs9 e9 t9 u9 h9 tk9 F9 N9 hS9 n9 l9 l8; (replace l9 := allNe_of l9); (replace l8 := allNe_of l8); (try simp only [AllNe, and_true] at l9 l8); (try dsimp only); (try k_sweep))))
local macro_rules | `(tactic| walk_at "call ref") => `(tactic| (k_here; (with_reducible show wpAny _ _ (call (Value.ref 143) [Value.bytes (List.toArray _) _]) _ _ _); k_dflt (refine' Ct.atPairB (splitdrive_bytes _ _ ?p0) ?k1 ?k2 ?k3 ?k4 ?k5 ?k6 ?k7 ?k8 ?k9 ?_; (case p0 => (first | assumption | omega)); (case k1 => k_asm); (case k2 => k_asm); (case k3 => k_asm); (case k4 => k_asm); (case k5 => k_asm); (case k6 => exact rfl); (case k7 => exact rfl); (case k8 => ktr_room); (case k9 => ktr_units); k_whole; intro a9 t9 u9 h9 tk9 F9 N9 l9; (replace l9 := allNe_of l9); (try simp only [AllNe, and_true] at l9); (try dsimp only); (try k_sweep))))
local macro_rules | `(tactic| walk_at "call ref") => `(tactic| (k_here; (with_reducible show wpAny _ _ (call (Value.ref 150) [Value.bytes (List.toArray _) _]) _ _ _); k_dflt (refine' Ct.atTupB (splitroot_bytes _ _ ?p0) ?k1 ?k2 ?k3 ?k4 ?k5 ?k6 ?k7 ?k8 ?k9 ?_; (case p0 => (first | assumption | omega)); (case k1 => k_asm); (case k2 => k_asm); (case k3 => k_asm); (case k4 => k_asm); (case k5 => k_asm); (case k6 => exact rfl); (case k7 => exact rfl); (case k8 => ktr_room); (case k9 => ktr_units); k_whole; intro a9 t9 u9 v9 h9 tk9 F9 N9 l9; (replace l9 := allNe_of l9); (try simp only [AllNe, and_true] at l9); (try dsimp only); (try k_sweep))))
section
variable {w : World} {s₀ : Shared} {mg mb : Str → Option Value} {h₀ h : Heap} {L fa : Addr} {cv : Value} {m : Str → Option Value} {news : List (Addr × Obj)} {tk : Nat} {s : Shared}
theorem other_B {l o : List UInt8} {t1 t2 t3 t4 t5 : Tok} (B : Below callerA h₀ [] h₀) (X : (K0 w.params).In h₀) (T : Top V0 (looseW V0 []) (ExcName.means s₀.heap) mg mb h₀)
    (hl : l.length ≤ 17) (ho : o.length ≤ 17)
    (hm : Holds [(Str.ofString "other", .bytes o.toArray t1), (Str.ofString "path", .bytes l.toArray t2), (Str.ofString "none", .bytes #[] t3), (Str.ofString "root", .bytes (rootL 47 l).toArray t4), (Str.ofString "tail", .bytes (tailL 47 l).toArray t5)] m)
    (F : Fr h₀ L h m) (N : News h₀ L h news) :
    wpAny (model Challenge.rw_pd0089_01.row.prog w) (callerA.deeper (lawEnv L fa cv)) (execs otherBody (lawEnv L fa cv))
      (StEnd h₀ L s (fun m' news' => news' = news ∧ ∃ u, m' = fun y => if y = Str.ofString "told" then u else m y))
      (fun _ _ => False) { s with heap := h, toks := tk } := by
  have hr := root_len (c := 47) (l := l)
  have ht := tail_le 47 l
  have hj : (joinL 47 l o).length ≤ 4096 := by have := join_len (c := 47) (l := l) (o := o); omega
  have hoS : o.length ≤ 4096 := by omega
  have em := ovl_self hm
  rw [em] at F
  dsimp only [ovl] at F em
  (revert X; k_fill; intro X)
  unfold lawEnv
  unfold otherBody kBody octBody lawDefS PySem.Challenge.pw_pd0089_01
  dsimp only [nthS, forBodyS, defBodyS, defScopeS, List.getElem?_cons_succ, List.getElem?_cons_zero]
  repeat' ((fail_if_success (with_reducible show wpAny _ _ (compareOp CmpOp.NotEq _ _) _ _ _)); (first | (k_unfold; (try dsimp only)) | (k_end; kc_close) | walk1 | (dsimp only; walk1) | (leave1; (try dsimp only)) | fail "no step"))
  · (rename Fr _ _ _ _ => F9)
    (rename News _ _ _ _ => N9)
    rw [join_abs (by assumption)] at N9
    refine ne_tup N9 (.head _) (.tail _ (.head _)) (by ke_room) ⟨bytes_same _ _ _, bytes_same _ _ _, bytes_same _ _ _, trivial⟩ ?_
    k_steps
    all_goals ((try dsimp only); (try k_unfold); (try dsimp only))
    exact ⟨rfl, _, _, _, _, rfl, F9, (fun p hp => N9 p (.tail _ (.tail _ (.tail _ hp)))), rfl, ov_x2 em⟩
  · (rename Fr _ _ _ _ => F9)
    (rename News _ _ _ _ => N9)
    have hj2 := join_root (c := 47) (l := l) (o := o) (by assumption)
    rw [hj2.1, hj2.2] at N9
    refine ne_tup N9 (.head _) (.tail _ (.head _)) (by ke_room) ⟨bytes_same _ _ _, bytes_same _ _ _, bytes_same _ _ _, trivial⟩ ?_
    k_steps
    all_goals ((try dsimp only); (try k_unfold); (try dsimp only))
    exact ⟨rfl, _, _, _, _, rfl, F9, (fun p hp => N9 p (.tail _ (.tail _ hp))), rfl, ov_x1 em⟩
end
section
variable {w : World} {s₀ : Shared} {mg mb : Str → Option Value} {h₀ h : Heap} {L fa : Addr} {cv : Value} {m : Str → Option Value} {news : List (Addr × Obj)} {tk : Nat} {s : Shared}
theorem kturn_B {lt : List Nat} {l : List UInt8} {k' : Int} {At Ar : Addr} {ts rs : List Value} {nt nr : Nat} {t1 t2 t3 t4 t5 : Tok} (B : Below callerA h₀ [] h₀) (X : (K0 w.params).In h₀) (T : Top V0 (looseW V0 []) (ExcName.means s₀.heap) mg mb h₀)
    (hl : l.length ≤ 17) (hlt : lt.length ≤ 17) (hfb : frontL 47 lt = frontL 47 l) (hk0 : 0 ≤ k') (hk3 : k' < 3)
    (hm : Holds [(Str.ofString "k", .int k' t1), (Str.ofString "texts", .ref At), (Str.ofString "row", .ref Ar), (Str.ofString "slash", .bytes #[47] t2), (Str.ofString "none", .bytes #[] t3)] m)
    (hAt : (At, W.listOf ts.toArray nt) ∈ news) (hAr : (Ar, W.listOf rs.toArray nr) ∈ news) (hts : ts[k'.toNat]? = some (.str (S lt) t4)) (hrs : rs[k'.toNat]? = some (.bytes l.toArray t5))
    (hall : ∀ v ∈ rs, ∃ (o : List UInt8) (t : Tok), v = .bytes o.toArray t ∧ o.length ≤ 17)
    (F : Fr h₀ L h m) (N : News h₀ L h news) :
    wpAny (model Challenge.rw_pd0089_01.row.prog w) (callerA.deeper (lawEnv L fa cv)) (execs kBody (lawEnv L fa cv))
      (StEnd h₀ L s (fun m' news' => news' = news ∧ (m' (Str.ofString "texts") = some (.ref At) ∧ m' (Str.ofString "row") = some (.ref Ar) ∧ m' (Str.ofString "slash") = some (.bytes #[47] t2) ∧ m' (Str.ofString "none") = some (.bytes #[] t3)) ∧ ∃ z t, m' (Str.ofString "front") = some (.int z t)))
      (fun _ _ => False) { s with heap := h, toks := tk } := by
  have hrt := root_len (c := 47) (l := l)
  have htl := tail_le 47 l
  have hfl := front_le 47 l
  have hjl : joinL 47 (rootL 47 l) (tailL 47 l) = if frontL 47 l < 3 then l else l.drop 1 := laid_eq
  have hjn : (joinL 47 (rootL 47 l) (tailL 47 l)).length ≤ 1000 := by have := join_len (c := 47) (l := rootL 47 l) (o := tailL 47 l); omega
  have hlS : l.length ≤ 4096 := by omega
  have hltS : (S lt).length ≤ 4096 := by rw [S_length]; omega
  have em := ovl_self hm
  rw [em] at F
  dsimp only [ovl] at F em
  (revert X; k_fill; intro X)
  unfold lawEnv
  unfold kBody octBody lawDefS PySem.Challenge.pw_pd0089_01
  dsimp only [nthS, forBodyS, defBodyS, defScopeS, List.getElem?_cons_succ, List.getElem?_cons_zero]
  repeat' ((fail_if_success (with_reducible show wpAny _ _ (exec (Stmt.If _ _ _ _) _) _ _ _)); (first | (k_unfold; (try dsimp only)) | (k_end; kc_close) | walk1 | (dsimp only; walk1) | (leave1; (try dsimp only)) | fail "no step"))
  (try clear F9 N9); (rename Fr _ _ _ _ => F9); (rename News _ _ _ _ => N9)
  rw [hfb] at F9
  refine cut_stmt (h₀ := h₀) (L := L) (fun m' n' => news = n' ∧ ∃ tf, m' = ovl [(Str.ofString "front", .int (frontL 47 l) tf), (Str.ofString "path", .bytes l.toArray t5), (Str.ofString "k", .int k' t1), (Str.ofString "texts", .ref At), (Str.ofString "row", .ref Ar), (Str.ofString "slash", .bytes #[47] t2), (Str.ofString "none", .bytes #[] t3)] m) ?_ ?_
  · repeat' ((fail_if_success (with_reducible show wpAny _ _ (compareOp CmpOp.NotEq _ _) _ _ _)); (first | (k_unfold; (try dsimp only)) | (k_end; kc_close) | walk1 | (dsimp only; walk1) | (leave1; (try dsimp only)) | fail "no step"))
    (try clear F9 N9); (rename Fr _ _ _ _ => F9); (rename News _ _ _ _ => N9)
    have eb : decide (0 < ((frontL 47 l : Nat) : Int)) = isabsL 47 l := by rw [isabs_front]; simp
    rw [eb] at N9
    refine ne_tup N9 (.tail _ (.tail _ (.head _))) (.head _) (by ke_room) ⟨bytes_same _ _ _, PySem.SeqAt.EqAt.same _, tup_same (led_tup N9 (.tail _ (.tail _ (.tail _ (.head _))))) (led_tup N9 (.tail _ (.head _))) (by ke_room) ⟨bytes_same _ _ _, bytes_same _ _ _, trivial⟩, trivial⟩ ?_
    k_steps
    all_goals ((try dsimp only); (try k_unfold); (try dsimp only))
    exact ⟨rfl, _, _, _, _, rfl, F9, (fun p hp => N9 p (.tail _ (.tail _ (.tail _ (.tail _ hp))))), rfl, _, rfl⟩
  rintro h9 tk9 m9 n9 F9 N9 ⟨rfl, tf, rfl⟩
  dsimp only [ovl] at F9
  (try dsimp only)
  repeat' ((fail_if_success (with_reducible show wpAny _ _ (exec (Stmt.If _ _ _ _) _) _ _ _)); (first | (k_unfold; (try dsimp only)) | (k_end; kc_close) | walk1 | (dsimp only; walk1) | (leave1; (try dsimp only)) | fail "no step"))
  refine cut_stmt (h₀ := h₀) (L := L) (fun m' n' => ∃ D vs e, n' = (D, W.listOf (List.toArray vs) e) :: news ∧ BytL vs (dueL 47 (frontL 47 l)) ∧ m' = ovl [(Str.ofString "due", .ref D), (Str.ofString "front", .int (frontL 47 l) tf), (Str.ofString "path", .bytes l.toArray t5), (Str.ofString "k", .int k' t1), (Str.ofString "texts", .ref At), (Str.ofString "row", .ref Ar), (Str.ofString "slash", .bytes #[47] t2), (Str.ofString "none", .bytes #[] t3)] m) ?_ ?_
  · k_steps
    all_goals ((try dsimp only); (try k_unfold); (try dsimp only))
    · (try clear F9 N9); (rename Fr _ _ _ _ => F9); (rename News _ _ _ _ => N9)
      exact ⟨rfl, _, _, _, _, rfl, F9, news_pick N9 (.head _) (fun p hp => .tail _ (.tail _ (.tail _ (.tail _ (.tail _ (.tail _ hp)))))), _, _, _, rfl, bytL_big (by assumption), ov_two⟩
    · (try clear F9 N9); (rename Fr _ _ _ _ => F9); (rename News _ _ _ _ => N9)
      exact ⟨rfl, _, _, _, _, rfl, F9, news_pick N9 (.head _) (fun p hp => .tail _ (.tail _ hp)), _, _, _, rfl, bytL_small (by assumption), rfl⟩
  rintro h9 tk9 m9 n9' F9 N9 ⟨D, vs, e, rfl, hS, rfl⟩
  dsimp only [ovl] at F9
  (try dsimp only)
  repeat' ((fail_if_success (with_reducible show wpAny _ _ (exec (Stmt.If _ _ _ _) _) _ _ _)); (first | (k_unfold; (try dsimp only)) | (k_end; kc_close) | walk1 | (dsimp only; walk1) | (leave1; (try dsimp only)) | fail "no step"))
  refine cut_stmt (h₀ := h₀) (L := L) (fun m' n' => news = n' ∧ m' = ovl [(Str.ofString "due", .ref D), (Str.ofString "front", .int (frontL 47 l) tf), (Str.ofString "path", .bytes l.toArray t5), (Str.ofString "k", .int k' t1), (Str.ofString "texts", .ref At), (Str.ofString "row", .ref Ar), (Str.ofString "slash", .bytes #[47] t2), (Str.ofString "none", .bytes #[] t3)] m) ?_ ?_
  · repeat' ((fail_if_success (with_reducible show wpAny _ _ (compareOp CmpOp.NotEq _ _) _ _ _)); (first | (k_unfold; (try dsimp only)) | (k_end; kc_close) | walk1 | (dsimp only; walk1) | (leave1; (try dsimp only)) | fail "no step"))
    (try clear F9 N9); (rename Fr _ _ _ _ => F9); (rename News _ _ _ _ => N9)
    rw [cut_B_sn] at N9
    (rename BytL _ (rootsN _ _) => hS9')
    rw [due_eq] at hS9'
    refine ne_tup N9 (.tail _ (.head _)) (.head _) (by ke_room) ⟨list_same (led_lst N9 (.tail _ (.tail _ (.head _)))) (led_lst N9 (.tail _ (.tail _ (.tail _ (.head _))))) (by ke_room) (hS9'.all2 hS), bytes_same _ _ _, bytes_same _ _ _, trivial⟩ ?_
    k_steps
    all_goals ((try dsimp only); (try k_unfold); (try dsimp only))
    exact ⟨rfl, _, _, _, _, rfl, F9, (fun p hp => N9 p (.tail _ (.tail _ (.tail _ (.tail _ hp))))), rfl, rfl⟩
  rintro h9 tk9 m9 n9' F9 N9 ⟨rfl, rfl⟩
  dsimp only [ovl] at F9
  (try dsimp only)
  repeat' ((fail_if_success (with_reducible show wpAny _ _ (exec (Stmt.If _ _ _ _) _) _ _ _)); (first | (k_unfold; (try dsimp only)) | (k_end; kc_close) | walk1 | (dsimp only; walk1) | (leave1; (try dsimp only)) | fail "no step"))
  refine cut_stmt (h₀ := h₀) (L := L) (fun m' n' => news = n' ∧ ∃ ta tb tc td, m' = ovl [(Str.ofString "laid", .bytes (joinL 47 (rootL 47 l) (tailL 47 l)).toArray ta), (Str.ofString "tail", .bytes (tailL 47 l).toArray tb), (Str.ofString "root", .bytes (rootL 47 l).toArray tc), (Str.ofString "drive", .bytes #[] td), (Str.ofString "due", .ref D), (Str.ofString "front", .int (frontL 47 l) tf), (Str.ofString "path", .bytes l.toArray t5), (Str.ofString "k", .int k' t1), (Str.ofString "texts", .ref At), (Str.ofString "row", .ref Ar), (Str.ofString "slash", .bytes #[47] t2), (Str.ofString "none", .bytes #[] t3)] m) ?_ ?_
  · repeat' ((fail_if_success (with_reducible show wpAny _ _ (compareOp CmpOp.NotEq _ _) _ _ _)); (first | (k_unfold; (try dsimp only)) | (k_end; kc_close) | walk1 | (dsimp only; walk1) | (leave1; (try dsimp only)) | fail "no step"))
    · (try clear F9 N9); (rename Fr _ _ _ _ => F9); (rename News _ _ _ _ => N9)
      refine ne_bytes_same (by rw [hjl, if_pos (by omega)]) ?_
      k_steps
      all_goals ((try dsimp only); (try k_unfold); (try dsimp only))
      exact ⟨rfl, _, _, _, _, rfl, F9, (fun p hp => N9 p (.tail _ hp)), rfl, _, _, _, _, rfl⟩
    · (try clear F9 N9); (rename Fr _ _ _ _ => F9); (rename News _ _ _ _ => N9)
      refine ne_bytes_same (by rw [hjl, if_neg (by omega), bl_1n]) ?_
      k_steps
      all_goals ((try dsimp only); (try k_unfold); (try dsimp only))
      exact ⟨rfl, _, _, _, _, rfl, F9, (fun p hp => N9 p (.tail _ hp)), rfl, _, _, _, _, rfl⟩
  rintro h9 tk9 m9 n8 F9 N9 ⟨rfl, ta, tb, tc, td, rfl⟩
  dsimp only [ovl] at F9
  (try dsimp only)
  repeat' ((fail_if_success (with_reducible show wpAny _ _ (exec (Stmt.If _ _ _ _) _) _ _ _)); (first | (k_unfold; (try dsimp only)) | (k_end; kc_close) | walk1 | (dsimp only; walk1) | (leave1; (try dsimp only)) | fail "no step"))
  refine cut_stmt (h₀ := h₀) (L := L) (fun m' n' => news = n' ∧ m' = ovl [(Str.ofString "laid", .bytes (joinL 47 (rootL 47 l) (tailL 47 l)).toArray ta), (Str.ofString "tail", .bytes (tailL 47 l).toArray tb), (Str.ofString "root", .bytes (rootL 47 l).toArray tc), (Str.ofString "drive", .bytes #[] td), (Str.ofString "due", .ref D), (Str.ofString "front", .int (frontL 47 l) tf), (Str.ofString "path", .bytes l.toArray t5), (Str.ofString "k", .int k' t1), (Str.ofString "texts", .ref At), (Str.ofString "row", .ref Ar), (Str.ofString "slash", .bytes #[47] t2), (Str.ofString "none", .bytes #[] t3)] m) ?_ ?_
  · repeat' ((fail_if_success (with_reducible show wpAny _ _ (compareOp CmpOp.NotEq (Value.bool _) _) _ _ _)); (first | (k_unfold; (try dsimp only)) | (k_end; kc_close) | walk1 | (dsimp only; walk1) | (leave1; (try dsimp only)) | fail "no step"))
    (try clear F9 N9); (rename Fr _ _ _ _ => F9); (rename News _ _ _ _ => N9)
    refine ne_bool_same norm_test_B ?_
    k_steps
    all_goals ((try dsimp only); (try k_unfold); (try dsimp only))
    exact ⟨rfl, _, _, _, _, rfl, F9, N9, rfl, rfl⟩
  rintro h9 tk9 m9 n7 F9 N9 ⟨rfl, rfl⟩
  dsimp only [ovl] at F9
  (try dsimp only)
  repeat' ((fail_if_success (with_reducible show wpAny _ _ (exec (Stmt.For _ _ _ _ _) _) _ _ _)); (first | (k_unfold; (try dsimp only)) | (k_end; kc_close) | walk1 | (dsimp only; walk1) | (leave1; (try dsimp only)) | fail "no step"))
  refine for_fr F9 N9 rfl hAr rfl rfl rfl rfl ?ev (fun m₀ news₀ _ rest m news => news₀ = news ∧ (∀ v ∈ rest, ∃ (o : List UInt8) (t : Tok), v = Value.bytes o.toArray t ∧ o.length ≤ 17) ∧ ∃ u1 u2, m = fun y => if y = Str.ofString "told" then u1 else if y = Str.ofString "other" then u2 else m₀ y)
    ⟨rfl, hall, _, _, upd_same2⟩ ?mem ?step ?fin
  case ev =>
    k_steps
    all_goals exact ⟨rfl, rfl⟩
  case mem =>
    rintro done rest m news ⟨rfl, _⟩
    exact hAr
  case step =>
    rintro done v rest m news I it h' tk' ⟨rfl, hal, u1, u2, rfl⟩ hit hI F' N'
    obtain ⟨o, t, rfl, ho⟩ := hal _ (.head _)
    refine wpAny_mono (other_B (s := s) (fa := fa) (cv := cv) B X T hl ho ⟨if_pos rfl, (by (try dsimp only); repeat (first | with_reducible exact if_pos rfl | refine (if_neg (by decide +kernel)).trans ?_)), (by (try dsimp only); repeat (first | with_reducible exact if_pos rfl | refine (if_neg (by decide +kernel)).trans ?_)), (by (try dsimp only); repeat (first | with_reducible exact if_pos rfl | refine (if_neg (by decide +kernel)).trans ?_)), (by (try dsimp only); repeat (first | with_reducible exact if_pos rfl | refine (if_neg (by decide +kernel)).trans ?_)), trivial⟩ F' N') (fun f s₂ hs => ?_) (fun _ _ e => e)
    obtain ⟨rfl, h'', tk'', m', n', rfl, F'', N'', rfl, u, rfl⟩ := hs
    exact ⟨h'', tk'', _, _, rfl, F'', N'', hI, rfl, (fun v hv => hal v (.tail _ hv)), _, _, upd_over2⟩
  case fin =>
    rintro m news h' tk' ⟨rfl, _, u1, u2, rfl⟩ F' N'
    k_steps
    all_goals ((try dsimp only); (try k_unfold); (try dsimp only))
    exact ⟨rfl, _, _, _, _, rfl, F', N', rfl, ⟨(by (try dsimp only); repeat (first | with_reducible exact if_pos rfl | refine (if_neg (by decide +kernel)).trans ?_)), (by (try dsimp only); repeat (first | with_reducible exact if_pos rfl | refine (if_neg (by decide +kernel)).trans ?_)), (by (try dsimp only); repeat (first | with_reducible exact if_pos rfl | refine (if_neg (by decide +kernel)).trans ?_)), (by (try dsimp only); repeat (first | with_reducible exact if_pos rfl | refine (if_neg (by decide +kernel)).trans ?_))⟩, _, _, (by (try dsimp only); repeat (first | with_reducible exact if_pos rfl | refine (if_neg (by decide +kernel)).trans ?_))⟩
end
section
variable {prog : Program} {w : World} {A : Around} {s : Shared} {env : Env} {body : List Stmt} {h₀ : Heap} {L : Addr}
abbrev GInv := Nat → (Str → Option Value) → List (Addr × Obj) → Prop
noncomputable def GEnd (h₀ : Heap) (L : Addr) (J : GInv) (i : Nat) (I : Addr) (it : Obj) (s : Shared) (s₂ : Shared) : Prop :=
  ∃ h' tk' m' news', s₂ = { s with heap := h', toks := tk' } ∧ Fr h₀ L h' m' ∧ News h₀ L h' ((I, it) :: news') ∧ (∀ p ∈ news', p.1 ≠ I) ∧ J i m' news'
noncomputable def GPost (h₀ : Heap) (L : Addr) (J : GInv) (i : Nat) (I : Addr) (it : Obj) (s : Shared) (Q : Flow → Shared → Prop) (f : Flow) (s₂ : Shared) : Prop :=
  match f with
  | .ret v => Q (.ret v) s₂
  | .brk => Q .next s₂
  | _ => GEnd h₀ L J i I it s s₂
theorem forLoop_G {E : Value → Shared → Prop} {Q : Flow → Shared → Prop} {tgt : PySem.Expr} {I : Addr} {fp : List Addr} {n : Nat} {P : Nat → Value → Prop} {St : Nat → Heap → Prop} {S : List (Addr × Obj) → Prop} {m : Str → Option Value} {news : List (Addr × Obj)} {cl : Value}
    (W : Walks prog w A I fp [I] n P St) (hIo : ∀ i h, St i h → ∃ o, h.get? I = some o ∧ o.cls = cl)
    (hSt : ∀ i h h' o nw, St i h → h.get? I = some o → h'.get? I = some o → (∀ b o, h₀.get? b = some o → h'.get? b = some o) → News h₀ L h' nw → S nw → St i h')
    (hst : St 0 s.heap) (F : Fr h₀ L s.heap m) (N : News h₀ L s.heap news) (hIL : L ≠ I) (hI₀ : h₀.get? I = none) (off : ∀ p ∈ news, p.1 ≠ I)
    (J : GInv) (hj : J 0 m news) (hS : ∀ i m news, J i m news → S news)
    (step : ∀ i v m news it h tk, i < n → P i v → J i m news → it.cls = cl → (∀ p ∈ news, p.1 ≠ I) → Fr h₀ L h m → News h₀ L h ((I, it) :: news) →
      wpAny (model prog w) A (assign tgt env v) (fun _ s₂ => wpAny (model prog w) A (execs body env) (GPost h₀ L J (i + 1) I it s Q) (fun _ _ => False) s₂) (fun _ _ => False) { s with heap := h, toks := tk })
    (fin : ∀ m news h tk, J n m news → Fr h₀ L h m → News h₀ L h news → Q .next { s with heap := h, toks := tk })
    (ht : ∀ v, letOwnedTupleGo tgt (.ref I) v = pure ()) :
    codeAny (model prog w) A (.forLoop tgt (.ref I) body [] env) (fun r s' => match r with | .ok f => Q f s' | .error e => cameBackBy (model prog w) A env E e s') s := by
  refine codeAny_forLoop
    (fun k s' => ∃ h' tk m' news' i, s' = { s with heap := h', toks := tk } ∧ St i h' ∧ Fr h₀ L h' m' ∧ News h₀ L h' news' ∧ (∀ p ∈ news', p.1 ≠ I) ∧ J i m' news' ∧ i ≤ n ∧ k = n + 1 - i) ?_ (n + 1)
    ⟨s.heap, s.toks, m, news, 0, rfl, hst, F, N, off, hj, Nat.zero_le _, rfl⟩ ht
  rintro k s' ⟨h', tk, m', news', i, rfl, hst', F', N', off', hJ, hi, rfl⟩
  have next : ∀ h₁ : Heap, (∀ b o, b ∉ [I] → h'.get? b = some o → h₁.get? b = some o) → Fr h₀ L h₁ m' ∧ News h₀ L h₁ news' := fun h₁ hk₁ =>
    ⟨LCg.fr_but F' hk₁ hIL hI₀, LCg.news_but N' hk₁ off'⟩
  by_cases hlt : i < n
  · refine W.item i _ _ _ hlt hst' fun v h₁ tk₁ hP hst₁ hk₁ => ?_
    obtain ⟨F₁, N₁⟩ := next h₁ hk₁
    obtain ⟨it, hit, hic⟩ := hIo _ _ hst₁
    have N₂ : News h₀ L h₁ ((I, it) :: news') := fun p hp => by
      rcases List.mem_cons.mp hp with rfl | hp
      · exact ⟨hit, Ne.symm hIL, hI₀⟩
      · exact N₁ p hp
    refine wpAny_mono (step i v m' news' it h₁ tk₁ hlt hP hJ hic off' F₁ N₂) (fun _ s₂ h₂ => wpAny_mono h₂ (fun f s₃ h₃ => ?_) fun _ _ e => e.elim) fun _ _ e => e.elim
    have fin' : GEnd h₀ L J (i + 1) I it s s₃ → ∃ k, k < n + 1 - i ∧ ∃ h' tk m' news' i, s₃ = { s with heap := h', toks := tk } ∧ St i h' ∧ Fr h₀ L h' m' ∧ News h₀ L h' news' ∧ (∀ p ∈ news', p.1 ≠ I) ∧ J i m' news' ∧ i ≤ n ∧ k = n + 1 - i := by
      rintro ⟨h₅, tk₃, m₃, news₃, rfl, F₃, N₃, off₃, hJ₃⟩
      have N₄ : News h₀ L h₅ news₃ := fun p hp => N₃ p (.tail _ hp)
      exact ⟨n + 1 - (i + 1), by omega, h₅, tk₃, m₃, news₃, i + 1, rfl, hSt _ _ _ _ _ hst₁ hit (N₃ _ (.head _)).1 F₃.keep N₄ (hS _ _ _ hJ₃), F₃, N₄, off₃, hJ₃, hlt, rfl⟩
    cases f with
    | next => exact fin' h₃
    | cont => exact fin' h₃
    | brk => exact h₃
    | ret v => exact h₃
  · have hin : i = n := by omega
    subst hin
    refine W.done _ _ _ hst' fun h₁ tk₁ hk₁ => wpAny_execs_nil ?_
    obtain ⟨F₁, N₁⟩ := next h₁ hk₁
    exact fin m' news' h₁ tk₁ hJ F₁ N₁

/-- over a list of the ledger -/
theorem pyIter_list_G {E : Value → Shared → Prop} {Q : Flow → Shared → Prop} {x : Str} {px : Pos} {m₀ : Str → Option Value} {news₀ : List (Addr × Obj)} {ax : Addr} {its : Array Value} {k : Nat}
    (F : Fr h₀ L s.heap m₀) (N : News h₀ L s.heap news₀) (hh : A.handled = none) (hm : (ax, W.listOf its k) ∈ news₀)
    (J : GInv) (hj : J 0 m₀ news₀) (hmem : ∀ i m news, J i m news → (ax, W.listOf its k) ∈ news)
    (step : ∀ i v m news I it h tk, i < its.size → its[i]? = some v → J i m news → it.cls = .type "list_iterator" → (∀ p ∈ news, p.1 ≠ I) → Fr h₀ L h m → News h₀ L h ((I, it) :: news) →
      wpAny (model prog w) A (assign (.Name x px) env v) (fun _ s₂ => wpAny (model prog w) A (execs body env) (GPost h₀ L J (i + 1) I it s Q) (fun _ _ => False) s₂) (fun _ _ => False) { s with heap := h, toks := tk })
    (fin : ∀ m news h tk, J its.size m news → Fr h₀ L h m → News h₀ L h news → Q .next { s with heap := h, toks := tk }) :
    wpAny (model prog w) A (pyIter (.ref ax)) (fun it s₂ => codeAny (model prog w) A (.forLoop (.Name x px) it body [] env) (fun r s' => match r with | .ok f => Q f s' | .error e => cameBackBy (model prog w) A env E e s') s₂) E s := by
  have hl : s.heap.IsList ax its := ⟨_, (N _ hm).1, rfl, k, rfl⟩
  have hlt : ax < s.heap.objs.size := Heap.lt_size (N _ hm).1
  refine wpAny_pyIter_list hl ?_
  have up : ∀ b o, s.heap.get? b = some o → (s.heap.push { cls := .type "list_iterator", data := .fields #[.ref ax, .int 0 0] }).get? b = some o := fun b o e => Heap.get?_push_of_some _ e
  refine forLoop_G (s := { s with heap := s.heap.push { cls := .type "list_iterator", data := .fields #[.ref ax, .int 0 0] } }) (cl := .type "list_iterator") (S := LCg.SrcAt h₀ ax its) (Walks.list hh s.heap.objs.size ax (Nat.ne_of_lt hlt) its) (fun i h st => by obtain ⟨o, e, hc, _⟩ := st.1; exact ⟨o, e, hc⟩) LCg.list_st
    ⟨⟨_, Heap.get?_push_size _ rfl, rfl, rfl⟩, hl.push _⟩ (F.keeps up) (N.grown up) (Nat.ne_of_lt F.ns.lt) (next_is_new F) (fun p hp => Nat.ne_of_lt (Heap.lt_size (N p hp).1)) J hj
    (fun i m news h => .inr ⟨_, hmem i m news h, rfl, k, rfl⟩) (fun i v m news it h tk hi hP hJ hc off F N => ?_) (fun m news h tk => fin m news h tk) (fun _ => rfl)
  exact step i v m news _ it h tk hi hP hJ hc off F N
/-- over a range -/
theorem pyIter_range_G {E : Value → Shared → Prop} {Q : Flow → Shared → Prop} {x : Str} {px : Pos} {m₀ : Str → Option Value} {news₀ : List (Addr × Obj)} {r : Addr} {b₀ : Int} {t₀ u₀ v₀ : Tok} {n : Nat}
    (F : Fr h₀ L s.heap m₀) (N : News h₀ L s.heap news₀) (hh : A.handled = none) (hr : IsRange s.heap r 0 b₀ 1 t₀ u₀ v₀) (hsm : Builtin.Range.small 0 b₀ 1 = true) (hn : Builtin.Range.rangeSize 0 b₀ 1 = (n : Int))
    (J : GInv) (hj : J 0 m₀ news₀)
    (step : ∀ (i : Nat) t m news I it h tk, i < n → J i m news → it.cls = .type "range_iterator" → (∀ p ∈ news, p.1 ≠ I) → Fr h₀ L h m → News h₀ L h ((I, it) :: news) →
      wpAny (model prog w) A (assign (.Name x px) env (.int (i : Int) t)) (fun _ s₂ => wpAny (model prog w) A (execs body env) (GPost h₀ L J (i + 1) I it s Q) (fun _ _ => False) s₂) (fun _ _ => False) { s with heap := h, toks := tk })
    (fin : ∀ m news h tk, J n m news → Fr h₀ L h m → News h₀ L h news → Q .next { s with heap := h, toks := tk }) :
    wpAny (model prog w) A (pyIter (.ref r)) (fun it s₂ => codeAny (model prog w) A (.forLoop (.Name x px) it body [] env) (fun r s' => match r with | .ok f => Q f s' | .error e => cameBackBy (model prog w) A env E e s') s₂) E s := by
  refine wpAny_pyIter_range hr hsm ?_
  have up : ∀ (o' : Obj) b o, s.heap.get? b = some o → (s.heap.push o').get? b = some o := fun o' b o e => Heap.get?_push_of_some _ e
  refine forLoop_G (cl := .type "range_iterator") (S := fun _ => True) (LCg.range_walks hh 0 n) (fun i h st => ⟨_, st, rfl⟩) LCg.range_st (by show IsRangeIter _ _ _ _ _; rw [hn]; simpa using Heap.get?_push_size _ rfl) (F.keeps (up _)) (N.grown (up _))
    (Nat.ne_of_lt F.ns.lt) (next_is_new F) (fun p hp => Nat.ne_of_lt (Heap.lt_size (N p hp).1)) J hj (fun _ _ _ _ => trivial) (fun i v m news it h tk hi hP hJ hc off F N => ?_) (fun m news h tk => fin m news h tk) (fun _ => rfl)
  obtain ⟨t, rfl⟩ := hP
  rw [Int.zero_add]
  exact step i t m news _ it h tk hi hJ hc off F N
end
section
variable {prog : Program} {w : World} {A : Around} {E : Value → Shared → Prop} {s : Shared} {env : Env} {body : List Stmt} {Q : Flow → Shared → Prop}
theorem range_J {h₀ : Heap} {m₀ : Str → Option Value} {news₀ : List (Addr × Obj)} {x : Str} {r : Addr} {b₀ : Int} {t₀ u₀ v₀ : Tok} (n : Nat) (hh : A.handled = none) (hr : IsRange s.heap r 0 b₀ 1 t₀ u₀ v₀)
    (hsmall : Builtin.Range.small 0 b₀ 1 = true) (hn : Builtin.Range.rangeSize 0 b₀ 1 = (n : Int)) (F : Fr h₀ env.locals s.heap m₀) (N : News h₀ env.locals s.heap news₀)
    (J : Nat → (Str → Option Value) → List (Addr × Obj) → Prop) (hj : J 0 m₀ news₀)
    (step : ∀ i m news I it t h tk, i < n → J i m news → (∀ p ∈ news, p.1 ≠ I) → Fr h₀ env.locals h (fun y => if y = x then some (.int (i : Int) t) else m y) → News h₀ env.locals h ((I, it) :: news) →
      wpAny (model prog w) A (execs body env) (StEnd h₀ env.locals s (fun m' n' => ∃ news', (I, it) :: news' = n' ∧ (∀ p ∈ news', p.1 ≠ I) ∧ J (i + 1) m' news')) (fun _ _ => False) { s with heap := h, toks := tk })
    (fin : ∀ m news h tk, J n m news → Fr h₀ env.locals h m → News h₀ env.locals h news → Q .next { s with heap := h, toks := tk }) :
    wpAny (model prog w) A (pyIter (.ref r)) (fun it s₂ => LoopAtV prog w A h₀ env x body Q E it s₂) E s := by
  refine iter_rangeUnr hh hr hsmall hn F N (fun I hI => ?_)
  have key : ∀ k i m news, i + k = n → J i m news → (∀ p ∈ news, p.1 ≠ I) → RangeRest prog w A E h₀ env x body Q s I 0 n k i m news := by
    intro k
    induction k with
    | zero =>
      intro i m news hi hJ _
      obtain rfl : i = n := by omega
      exact RangeRest.zero fun h tk F N => fin m news h tk hJ F N
    | succ k ih =>
      intro i m news hi hJ hI
      refine RangeRest.succ fun t h tk F' N' => ?_
      rw [Int.zero_add] at F'
      refine wpAny_mono (step i m news I _ t h tk (by omega) hJ hI F' N') (fun f s₂ hp => ?_) fun _ _ e => e.elim
      obtain ⟨rfl, h', tk', m', n', rfl, F'', N'', news', rfl, hoff, hJ'⟩ := hp
      exact ⟨h', tk', m', news', rfl, F'', N'', hoff, ih (i + 1) m' news' (by omega) hJ' hoff⟩
  exact key n 0 m₀ news₀ (by omega) hj fun p hp => Nat.ne_of_lt (hI p hp)
end
theorem encode_m {M : Model} {A : Around} {E : Value → Shared → Prop} {s : Shared} {x : Str} {t : Tok} {pl : Sem Bool} {Q : Value × List Value → Shared → Prop} (h : Q (.builtin "str.encode", [.str x t]) s) : wpAny M A (getMethod (.str x t) "encode" pl) Q E s := by
  with_reducible exact GM.of (.str x t) (typeIs_str _ _ _) F.slot_str_encode F.type_str_encode GM.noRef h
local macro_rules | `(tactic| walk_at "getMethod str") => `(tactic| (k_here; (with_reducible refine encode_m ?_)))
local macro_rules | `(tactic| walk_at "call builtin:str.encode") => `(tactic| (k_here; k_dflt (refine' encode_call ?a ?b ?_; (case a => assumption); (case b => assumption); k_whole; intro v9 k9; (try dsimp only))))
theorem toB_front {l : List Nat} (h : ∀ c ∈ l, c < 128) : frontL 47 l = frontL 47 (toB l) := by
  induction l with
  | nil => rfl
  | cons a r ih =>
    have ha := h a (.head _)
    have e : toB (a :: r) = a.toUInt8 :: toB r := rfl
    rw [e, front_cons, front_cons, ih fun c hc => h c (.tail _ hc)]
    have e2 : (a.toUInt8 = 47) ↔ a = 47 := by
      constructor
      · intro hh
        have := congrArg UInt8.toNat hh
        simp at this
        omega
      · rintro rfl; rfl
    by_cases ha' : a = 47
    · rw [if_pos ha', if_pos (e2.mpr ha')]
    · rw [if_neg ha', if_neg fun q => ha' (e2.mp q)]
theorem same_items {ys ts : List Value} (hl : ys.length = ts.length) (h : ∀ (i : Nat) (y : Value), ys[i]? = some y → ts[i]? = some y) : ys = ts := by
  refine List.ext_getElem? fun i => ?_
  rcases Nat.lt_or_ge i ys.length with hi | hi
  · rw [List.getElem?_eq_getElem hi, h i _ (List.getElem?_eq_getElem hi)]
  · rw [List.getElem?_eq_none hi, List.getElem?_eq_none (by omega)]
noncomputable def KInv (At Ar : Addr) (sl no : Value) (news₀ : List (Addr × Obj)) (i : Nat) (m : Str → Option Value) (news : List (Addr × Obj)) : Prop :=
  news₀ = news ∧ m (Str.ofString "texts") = some (.ref At) ∧ m (Str.ofString "row") = some (.ref Ar) ∧ m (Str.ofString "slash") = some sl ∧ m (Str.ofString "none") = some no ∧ (0 < i → ∃ z t, m (Str.ofString "front") = some (.int z t))
section
variable {w : World} {s₀ : Shared} {mg mb : Str → Option Value} {h₀ h : Heap} {L fa : Addr} {cv : Value} {m : Str → Option Value} {news : List (Addr × Obj)} {tk : Nat} {s : Shared}
theorem oct_S {At : Addr} {oc : Obj} {ts : List Value} {nt : Nat} (B : Below callerA h₀ [] h₀) (X : (K0 w.params).In h₀) (T : Top V0 (looseW V0 []) (ExcName.means s₀.heap) mg mb h₀)
    (hall : ∀ v ∈ ts, ∃ o t, v = .str (S o) t ∧ Asc o) (hlen : ts.length = 3) (hoc : oc.data = .cell (some (.bool false)))
    (hm : Holds [(Str.ofString "texts", .ref At)] m)
    (F : Fr h₀ L h m) (N : News h₀ L h ((L + 1 + 1, oc) :: (At, W.listOf ts.toArray nt) :: news)) :
    wpAny (model Challenge.rw_pd0089_01.row.prog w) (callerA.deeper (lawEnv L fa cv)) (execs octBody (lawEnv L fa cv))
      (StEnd h₀ L s (fun m' news' => (L + 1 + 1, oc) :: (At, W.listOf ts.toArray nt) :: news = news' ∧ m' (Str.ofString "texts") = some (.ref At) ∧ ∃ z t, m' (Str.ofString "front") = some (.int z t)))
      (fun _ _ => False) { s with heap := h, toks := tk } := by
  have em := ovl_self hm
  rw [em] at F
  dsimp only [ovl] at F em
  have hsz : ts.toArray.size ≤ sizeLine := by rw [sizeLine_eq, List.size_toArray]; omega
  (revert X; k_fill; intro X)
  unfold lawEnv
  unfold octBody lawDefS PySem.Challenge.pw_pd0089_01
  dsimp only [nthS, forBodyS, defBodyS, defScopeS, List.getElem?_cons_succ, List.getElem?_cons_zero]
  repeat' ((fail_if_success (with_reducible show wpAny _ _ (exec (Stmt.Assign _ (Expr.ListComp _ _ _ _) _) _) _ _ _)); (first | (k_unfold; (try dsimp only)) | (k_end; kc_close) | walk1 | (dsimp only; walk1) | (leave1; (try dsimp only)) | fail "no step"))
  (k_here; k_dflt (refine LCg.Assign_ListComp_U (F₀ := by k_asm) (by rfl) (by with_unfolding_all rfl) (by with_unfolding_all rfl) (by decide) (by rfl) (by decide) (by rfl) (by rfl) (by rfl) ?_))
  (iterate 1 (first | walk1 | (dsimp only; walk1)))
  (k_here; k_dflt (refine LCg.CompSrc.ledger (by rfl) (by k_asm) (by k_asm) (.tail _ (.head _)) hsz ?_; intro g'))
  (k_dflt (refine compRest_inv (fun i v => ts[i]? = some v) _ ?turn ?fin))
  case turn =>
    intro i v I' oI' C' oC' D' m' h' tk' ys hi hP hC' hx' F' N' off' ne'
    k_steps
    exact LCg.CompEnd.intro F' N' _ (fun p hp => hp) off' (.inr ⟨_, .tail _ (.head _), rfl, _, rfl⟩) ⟨rfl, by simpa using hP⟩
  intro ys hys hJ
  obtain rfl : ys = ts := same_items (by simpa using hys) hJ
  unfold LCg.FinA
  intro D' h' tk' F' N' o1'
  (try dsimp only)
  repeat' ((fail_if_success (with_reducible show wpAny _ _ (pyIter _) _ _ _)); (first | (k_unfold; (try dsimp only)) | (k_end; kc_close) | walk1 | (dsimp only; walk1) | (leave1; (try dsimp only)) | fail "no step"))
  (try clear F9 N9); (rename Fr _ _ _ _ => F9); (rename News _ _ _ _ => N9)
  rw [empty_S, slash_S] at F9
  refine range_J 3 rfl (by assumption) (by decide) (by rfl) F9 N9 (KInv At D' (.str (S [47]) _) (.str (S []) _) _) ⟨rfl, (by (try dsimp only); repeat (first | with_reducible exact if_pos rfl | refine (if_neg (by decide +kernel)).trans ?_)), (by (try dsimp only); repeat (first | with_reducible exact if_pos rfl | refine (if_neg (by decide +kernel)).trans ?_)), (by (try dsimp only); repeat (first | with_reducible exact if_pos rfl | refine (if_neg (by decide +kernel)).trans ?_)), (by (try dsimp only); repeat (first | with_reducible exact if_pos rfl | refine (if_neg (by decide +kernel)).trans ?_)), fun q => absurd q (Nat.lt_irrefl _)⟩ ?_ ?_
  · rintro i m news' I it t h tk hi ⟨rfl, g1, g2, g3, g4, _⟩ hI F'' N''
    have hi' : i < ys.length := by omega
    obtain ⟨o, to, ho, hA⟩ := hall _ (List.getElem_mem hi')
    have hget : ys[((i : Nat) : Int).toNat]? = some (.str (S o) to) := by rw [Int.toNat_natCast, List.getElem?_eq_getElem hi', ho]
    refine wpAny_mono (kturn_S (s := s) (fa := fa) (cv := cv) B X T hA.1 (by omega) (by omega) ⟨if_pos rfl, (by (try dsimp only); exact (if_neg (by decide +kernel)).trans g1), (by (try dsimp only); exact (if_neg (by decide +kernel)).trans g2), (by (try dsimp only); exact (if_neg (by decide +kernel)).trans g3), (by (try dsimp only); exact (if_neg (by decide +kernel)).trans g4), trivial⟩ (.tail _ (.tail _ (.tail _ (.head _)))) (.tail _ (.head _)) hget hget (fun v hv => let ⟨o, t, e, hA⟩ := hall v hv; ⟨o, t, e, hA.1⟩) F'' N'') (fun f s₂ hs => ?_) (fun _ _ e => e)
    obtain ⟨rfl, h3, tk3, m3, n3, rfl, F3, N3, rfl, ⟨k1, k2, k3, k4⟩, z, tz, k5⟩ := hs
    exact ⟨rfl, h3, tk3, m3, _, rfl, F3, N3, _, rfl, hI, rfl, k1, k2, k3, k4, fun _ => ⟨z, tz, k5⟩⟩
  · rintro m news' h tk ⟨rfl, g1, g2, g3, g4, g5⟩ F'' N''
    obtain ⟨z, tz, g6⟩ := g5 (by decide)
    k_steps
    all_goals ((try dsimp only); (try k_unfold); (try dsimp only))
    exact ⟨rfl, _, _, _, _, rfl, F'', (fun p hp => N'' p (.tail _ hp)), rfl, g1, z, tz, g6⟩
end
section
variable {w : World} {s₀ : Shared} {mg mb : Str → Option Value} {h₀ h : Heap} {L fa : Addr} {cv : Value} {m : Str → Option Value} {news : List (Addr × Obj)} {tk : Nat} {s : Shared}
theorem oct_B {At : Addr} {oc : Obj} {ts : List Value} {nt : Nat} (B : Below callerA h₀ [] h₀) (X : (K0 w.params).In h₀) (T : Top V0 (looseW V0 []) (ExcName.means s₀.heap) mg mb h₀)
    (hall : ∀ v ∈ ts, ∃ o t, v = .str (S o) t ∧ Asc o) (hlen : ts.length = 3) (hoc : oc.data = .cell (some (.bool true)))
    (hm : Holds [(Str.ofString "texts", .ref At)] m)
    (F : Fr h₀ L h m) (N : News h₀ L h ((L + 1 + 1, oc) :: (At, W.listOf ts.toArray nt) :: news)) :
    wpAny (model Challenge.rw_pd0089_01.row.prog w) (callerA.deeper (lawEnv L fa cv)) (execs octBody (lawEnv L fa cv))
      (StEnd h₀ L s (fun m' news' => (L + 1 + 1, oc) :: (At, W.listOf ts.toArray nt) :: news = news' ∧ m' (Str.ofString "texts") = some (.ref At) ∧ ∃ z t, m' (Str.ofString "front") = some (.int z t)))
      (fun _ _ => False) { s with heap := h, toks := tk } := by
  have em := ovl_self hm
  rw [em] at F
  dsimp only [ovl] at F em
  have hsz : ts.toArray.size ≤ sizeLine := by rw [sizeLine_eq, List.size_toArray]; omega
  (revert X; k_fill; intro X)
  unfold lawEnv
  unfold octBody lawDefS PySem.Challenge.pw_pd0089_01
  dsimp only [nthS, forBodyS, defBodyS, defScopeS, List.getElem?_cons_succ, List.getElem?_cons_zero]
  repeat' ((fail_if_success (with_reducible show wpAny _ _ (exec (Stmt.Assign _ (Expr.ListComp _ _ _ _) _) _) _ _ _)); (first | (k_unfold; (try dsimp only)) | (k_end; kc_close) | walk1 | (dsimp only; walk1) | (leave1; (try dsimp only)) | fail "no step"))
  (k_here; k_dflt (refine LCg.Assign_ListComp_U (F₀ := by k_asm) (by rfl) (by with_unfolding_all rfl) (by with_unfolding_all rfl) (by decide) (by rfl) (by decide) (by rfl) (by rfl) (by rfl) ?_))
  (iterate 1 (first | walk1 | (dsimp only; walk1)))
  (k_here; k_dflt (refine LCg.CompSrc.ledger (by rfl) (by k_asm) (by k_asm) (.tail _ (.head _)) hsz ?_; intro g'))
  (k_dflt (refine compRest_inv (fun i v => ∀ o t, ts[i]? = some (.str (S o) t) → ∃ t', v = .bytes (toB o).toArray t') _ ?turn ?fin))
  case turn =>
    intro i v I' oI' C' oC' D' m' h' tk' ys hi hP hC' hx' F' N' off' ne'
    have hP' : ts[i]? = some v := by simpa using hP
    obtain ⟨o, to, rfl, hA⟩ := hall v (List.mem_of_getElem? hP')
    have hA1 := hA.1
    have hA2 := hA.2
    k_steps
    all_goals ((try dsimp only); (try k_unfold); (try dsimp only))
    (try clear F9 N9); (rename Fr _ _ _ _ => F9); (rename News _ _ _ _ => N9)
    refine LCg.CompEnd.intro F9 N9 _ (fun p hp => hp) off' (.inr ⟨_, .tail _ (.head _), rfl, _, rfl⟩) ⟨rfl, fun o' t' h' => ?_⟩
    rw [hP'] at h'
    simp only [Option.some.injEq, Value.str.injEq, S_inj] at h'
    exact ⟨_, by rw [h'.1]⟩
  intro ys hys hJ
  have hys' : ys.length = 3 := by simpa [hlen] using hys
  have hitem : ∀ i : Nat, i < 3 → ∃ l t t', Asc l ∧ ts[i]? = some (.str (S l) t) ∧ ys[i]? = some (.bytes (toB l).toArray t') := by
    intro i hi
    have hi' : i < ts.length := by omega
    obtain ⟨o, to, ho, hA⟩ := hall _ (List.getElem_mem hi')
    have h1 : ts[i]? = some (.str (S o) to) := by rw [List.getElem?_eq_getElem hi', ho]
    obtain ⟨t', ht'⟩ := hJ i ys[i] (List.getElem?_eq_getElem (by omega)) o to h1
    exact ⟨o, to, t', hA, h1, by rw [List.getElem?_eq_getElem (by omega), ht']⟩
  have hallB : ∀ v ∈ ys, ∃ (o : List UInt8) (t : Tok), v = Value.bytes o.toArray t ∧ o.length ≤ 17 := by
    intro v hv
    obtain ⟨i, hi, rfl⟩ := List.mem_iff_getElem.mp hv
    obtain ⟨l, t, t', hA, _, hy⟩ := hitem i (by omega)
    rw [List.getElem?_eq_getElem hi] at hy
    exact ⟨_, t', Option.some.inj hy, by rw [toB_length]; exact hA.1⟩
  unfold LCg.FinA
  intro D' h' tk' F' N' o1'
  (try dsimp only)
  repeat' ((fail_if_success (with_reducible show wpAny _ _ (pyIter _) _ _ _)); (first | (k_unfold; (try dsimp only)) | (k_end; kc_close) | walk1 | (dsimp only; walk1) | (leave1; (try dsimp only)) | fail "no step"))
  (try clear F9 N9); (rename Fr _ _ _ _ => F9); (rename News _ _ _ _ => N9)
  rw [show KBy.picked (#[47] : Array UInt8) none (some 0) = #[] from bl_n0 [47]] at F9
  refine range_J 3 rfl (by assumption) (by decide) (by rfl) F9 N9 (KInv At D' (.bytes #[47] _) (.bytes #[] _) _) ⟨rfl, (by (try dsimp only); repeat (first | with_reducible exact if_pos rfl | refine (if_neg (by decide +kernel)).trans ?_)), (by (try dsimp only); repeat (first | with_reducible exact if_pos rfl | refine (if_neg (by decide +kernel)).trans ?_)), (by (try dsimp only); repeat (first | with_reducible exact if_pos rfl | refine (if_neg (by decide +kernel)).trans ?_)), (by (try dsimp only); repeat (first | with_reducible exact if_pos rfl | refine (if_neg (by decide +kernel)).trans ?_)), fun q => absurd q (Nat.lt_irrefl _)⟩ ?_ ?_
  · rintro i m news' I it t h tk hi ⟨rfl, g1, g2, g3, g4, _⟩ hI F'' N''
    obtain ⟨l, tt, tb, hA, h1, h2⟩ := hitem i hi
    have h1' : ts[((i : Nat) : Int).toNat]? = some (.str (S l) tt) := by rw [Int.toNat_natCast, h1]
    have h2' : ys[((i : Nat) : Int).toNat]? = some (.bytes (toB l).toArray tb) := by rw [Int.toNat_natCast, h2]
    refine wpAny_mono (kturn_B (s := s) (fa := fa) (cv := cv) B X T (by rw [toB_length]; exact hA.1) hA.1 (toB_front hA.2) (by omega) (by omega) ⟨if_pos rfl, (by (try dsimp only); exact (if_neg (by decide +kernel)).trans g1), (by (try dsimp only); exact (if_neg (by decide +kernel)).trans g2), (by (try dsimp only); exact (if_neg (by decide +kernel)).trans g3), (by (try dsimp only); exact (if_neg (by decide +kernel)).trans g4), trivial⟩ (.tail _ (.tail _ (.tail _ (.head _)))) (.tail _ (.head _)) h1' h2' hallB F'' N'') (fun f s₂ hs => ?_) (fun _ _ e => e)
    obtain ⟨rfl, h3, tk3, m3, n3, rfl, F3, N3, rfl, ⟨k1, k2, k3, k4⟩, z, tz, k5⟩ := hs
    exact ⟨rfl, h3, tk3, m3, _, rfl, F3, N3, _, rfl, hI, rfl, k1, k2, k3, k4, fun _ => ⟨z, tz, k5⟩⟩
  · rintro m news' h tk ⟨rfl, g1, g2, g3, g4, g5⟩ F'' N''
    obtain ⟨z, tz, g6⟩ := g5 (by decide)
    k_steps
    all_goals ((try dsimp only); (try k_unfold); (try dsimp only))
    exact ⟨rfl, _, _, _, _, rfl, F'', (fun p hp => N'' p (.tail _ hp)), rfl, g1, z, tz, g6⟩
end
theorem fr_turn {h₀ h g h' : Heap} {L : Addr} {m : Str → Option Value} (F : Fr h₀ L h m) (T : KtsTurn [L] h g) (k : g.StaysIn h') : Fr h₀ L h' m := by
  obtain ⟨o, es, ep, hL, hd, r⟩ := F.ns
  obtain ⟨sl, hs⟩ := T.frame L o hL (.head _)
  refine ⟨⟨_, es, ep, k _ _ hs, hd, r⟩, fun b o e => ?_, F.above⟩
  have hb : b ≠ L := by
    rintro rfl
    exact absurd (Heap.lt_size e) (Nat.not_lt.mpr F.above)
  exact k _ _ (T.other b o (F.keep b o e) (by simpa using hb))
theorem news_turn {h₀ h g h' : Heap} {L : Addr} {news : List (Addr × Obj)} (N : News h₀ L h news) (T : KtsTurn [L] h g) (k : g.StaysIn h') : News h₀ L h' news := fun p hp =>
  ⟨k _ _ (T.other _ _ (N p hp).1 (by simpa using (N p hp).2.1)), (N p hp).2⟩
section
variable {w : World} {s₀ : Shared} {mg mb : Str → Option Value} {n : Nat} {f : Addr} {vs : List Value} {A₀ : Around} {h₀ : Heap} {L : Addr} {m : Str → Option Value} {news : List (Addr × Obj)} {s : Shared} {Q E : Value → Shared → Prop}
  {dp un : Nat} {gd : Option (List Code)} {env : Env} {pre : Heap → Prop} {x : Str}
theorem CtT.at (C : CtT w s₀ mg mb n f vs pre x) (hp : pre s.heap) (B : Below A₀ h₀ [] h₀) (F : Fr h₀ L s.heap m) (N : News h₀ L s.heap news) (X : (K0 w.params).In h₀)
    (T : Top V0 (looseW V0 []) (ExcName.means s₀.heap) mg mb h₀) (hf : env.frame = some L) (hke : env.scope.kind = .function)
    (hdp : dp + n < recursionLimit) (hun : un + (4 * n + 20) < cLine)
    (k : ∀ t h' tk', Fr h₀ L h' m → News h₀ L h' news → Q (.str x t) { s with heap := h', toks := tk' }) :
    wpAny (model Challenge.rw_pd0089_01.row.prog w) (AA dp un gd [env]) (call (.ref f) vs) Q E s := by
  refine C dp un gd h₀ [env] s Q E (below_here B F rfl hf hke) (X.keeps F.keep) (T.keeps F.keep) X T (kd_here ktsDicts_nil F hf) hp hdp hun fun t h' g' tk' hT st => ?_
  have e : [env].filterMap (·.frame) = [L] := by simp [hf]
  rw [e] at hT
  exact k t h' tk' (fr_turn F hT st) (news_turn N hT st)
end
section
variable {w : World} {s₀ : Shared} {mg mb : Str → Option Value} {h₀ h : Heap} {L fa : Addr} {cv : Value} {m : Str → Option Value} {news : List (Addr × Obj)} {tk : Nat} {s : Shared}
theorem wk_turn {z k' : Int} {Ath Ak : Addr} {th kd : List Value} {nt nk : Nat} {t1 t2 t3 : Tok} {v : Value} {T : String} {pre : Heap → Prop} (B : Below callerA h₀ [] h₀) (X : (K0 w.params).In h₀) (TT : Top V0 (looseW V0 []) (ExcName.means s₀.heap) mg mb h₀)
    (hk0 : 0 ≤ k') (hk3 : k' < 6) (hB : Bad w s₀ mg mb v T pre) (hpre : ∀ h', News h₀ L h' news → pre h')
    (hm : Holds [(Str.ofString "k", .int k' t1), (Str.ofString "which", .int z t2), (Str.ofString "things", .ref Ath), (Str.ofString "kinds", .ref Ak)] m)
    (hAt : (Ath, W.listOf th.toArray nt) ∈ news) (hAk : (Ak, W.listOf kd.toArray nk) ∈ news) (hth : th[k'.toNat]? = some v) (hkd : kd[k'.toNat]? = some (.str (Str.ofString T) t3))
    (F : Fr h₀ L h m) (N : News h₀ L h news) :
    wpAny (model Challenge.rw_pd0089_01.row.prog w) (callerA.deeper (lawEnv L fa cv)) (execs wkBody (lawEnv L fa cv))
      (StEnd h₀ L s (fun m' n' => news = n' ∧ ∃ u, m' = fun y => if y = Str.ofString "words" then u else m y))
      (fun _ _ => False) { s with heap := h, toks := tk } := by
  have em := ovl_self hm
  rw [em] at F
  dsimp only [ovl] at F em
  have hlen := hB.len
  (revert X; k_fill; intro X)
  unfold lawEnv
  unfold wkBody whichBody lawDefS PySem.Challenge.pw_pd0089_01
  dsimp only [nthS, forBodyS, defBodyS, defScopeS, List.getElem?_cons_succ, List.getElem?_cons_zero]
  repeat' ((fail_if_success (with_reducible show wpAny _ _ (call (Value.ref 192) _) _ _ _)); (first | (k_unfold; (try dsimp only)) | (k_end; kc_close) | walk1 | (dsimp only; walk1) | (leave1; (try dsimp only)) | fail "no step"))
  (try clear F9 N9); (rename Fr _ _ _ _ => F9); (rename News _ _ _ _ => N9)
  (k_here; k_dflt (refine' CtT.at (refused_bad _ _ hB) ?hp ?k1 ?k2 ?k3 ?k4 ?k5 ?k6 ?k7 ?k8 ?k9 ?_; (case k1 => k_asm); (case k2 => k_asm); (case k3 => k_asm); (case k4 => k_asm); (case k5 => k_asm); (case hp => exact hpre _ N9); (case k6 => exact rfl); (case k7 => exact rfl); (case k8 => ktr_room); (case k9 => ktr_units); k_whole; intro t9 h9 tk9 F9 N9; (try dsimp only)))
  repeat' ((fail_if_success (with_reducible show wpAny _ _ (compareOp CmpOp.NotEq _ _) _ _ _)); (first | (k_unfold; (try dsimp only)) | (k_end; kc_close) | walk1 | (dsimp only; walk1) | (leave1; (try dsimp only)) | fail "no step"))
  refine ne_str_same rfl ?_
  k_steps
  all_goals ((try dsimp only); (try k_unfold); (try dsimp only))
  exact ⟨rfl, _, _, _, _, rfl, F9, N9, rfl, ov_x1 em⟩
end
noncomputable def Items (w : World) (s₀ : Shared) (mg mb : Str → Option Value) (h₀ : Heap) (L : Addr) (news : List (Addr × Obj)) (th kd : List Value) : Prop :=
  ∀ i : Nat, i < 6 → ∃ v T pre t3, th[i]? = some v ∧ kd[i]? = some (.str (Str.ofString T) t3) ∧ Bad w s₀ mg mb v T pre ∧ (∀ h' n', News h₀ L h' n' → (∀ p ∈ news, p ∈ n') → pre h')
noncomputable def WFact (Ath Ak At : Addr) (m : Str → Option Value) : Prop :=
  m (Str.ofString "things") = some (.ref Ath) ∧ m (Str.ofString "kinds") = some (.ref Ak) ∧ m (Str.ofString "texts") = some (.ref At)
section
variable {w : World} {s₀ : Shared} {mg mb : Str → Option Value} {h₀ h : Heap} {L fa : Addr} {cv : Value} {m : Str → Option Value} {news news₀ : List (Addr × Obj)} {tk : Nat} {s : Shared}
theorem which_turn {z : Int} {Ath Ak At : Addr} {th kd : List Value} {nt nk : Nat} {t2 : Tok} (B : Below callerA h₀ [] h₀) (X : (K0 w.params).In h₀) (TT : Top V0 (looseW V0 []) (ExcName.means s₀.heap) mg mb h₀)
    (hw : m (Str.ofString "which") = some (.int z t2)) (hm : WFact Ath Ak At m) (hit : Items w s₀ mg mb h₀ L news₀ th kd) (hsub : ∀ p ∈ news₀, p ∈ news)
    (hAt : (Ath, W.listOf th.toArray nt) ∈ news) (hAk : (Ak, W.listOf kd.toArray nk) ∈ news)
    (F : Fr h₀ L h m) (N : News h₀ L h news) :
    wpAny (model Challenge.rw_pd0089_01.row.prog w) (callerA.deeper (lawEnv L fa cv)) (execs whichBody (lawEnv L fa cv))
      (StEnd h₀ L s (fun m' n' => news = n' ∧ WFact Ath Ak At m'))
      (fun _ _ => False) { s with heap := h, toks := tk } := by
  (revert X; k_fill; intro X)
  unfold lawEnv
  unfold whichBody lawDefS PySem.Challenge.pw_pd0089_01
  dsimp only [nthS, forBodyS, defBodyS, defScopeS, List.getElem?_cons_succ, List.getElem?_cons_zero]
  repeat' ((fail_if_success (with_reducible show wpAny _ _ (pyIter _) _ _ _)); (first | (k_unfold; (try dsimp only)) | (k_end; kc_close) | walk1 | (dsimp only; walk1) | (leave1; (try dsimp only)) | fail "no step"))
  (try clear F9 N9); (rename Fr _ _ _ _ => F9); (rename News _ _ _ _ => N9)
  refine range_J 6 rfl (by assumption) (by decide) (by rfl) F9 N9 (fun _ m' n' => news = n' ∧ WFact Ath Ak At m' ∧ m' (Str.ofString "which") = some (.int z t2)) ⟨rfl, hm, hw⟩ ?_ ?_
  · rintro i m' n' I it t h tk hi ⟨rfl, ⟨g1, g2, g3⟩, g4⟩ hI F'' N''
    obtain ⟨v, T, pre, t3, h1, h2, hB, hp⟩ := hit i hi
    have h1' : th[((i : Nat) : Int).toNat]? = some v := by rw [Int.toNat_natCast, h1]
    have h2' : kd[((i : Nat) : Int).toNat]? = some (.str (Str.ofString T) t3) := by rw [Int.toNat_natCast, h2]
    refine wpAny_mono (wk_turn (s := s) (fa := fa) (cv := cv) B X TT (by omega) (by omega) hB (fun h' N => hp h' _ N fun p hp => .tail _ (hsub p hp)) ⟨if_pos rfl, (by (try dsimp only); exact (if_neg (by decide +kernel)).trans g4), (by (try dsimp only); exact (if_neg (by decide +kernel)).trans g1), (by (try dsimp only); exact (if_neg (by decide +kernel)).trans g2), trivial⟩ (.tail _ hAt) (.tail _ hAk) h1' h2' F'' N'') (fun f s₂ hs => ?_) (fun _ _ e => e)
    obtain ⟨rfl, h3, tk3, m3, n3, rfl, F3, N3, rfl, u, rfl⟩ := hs
    exact ⟨rfl, h3, tk3, _, _, rfl, F3, N3, _, rfl, hI, rfl, ⟨(by (try dsimp only); repeat (first | with_reducible exact if_pos rfl | assumption | refine (if_neg (by decide +kernel)).trans ?_)), (by (try dsimp only); repeat (first | with_reducible exact if_pos rfl | assumption | refine (if_neg (by decide +kernel)).trans ?_)), (by (try dsimp only); repeat (first | with_reducible exact if_pos rfl | assumption | refine (if_neg (by decide +kernel)).trans ?_))⟩, (by (try dsimp only); repeat (first | with_reducible exact if_pos rfl | assumption | refine (if_neg (by decide +kernel)).trans ?_))⟩
  · rintro m' n' h tk ⟨rfl, g1, g2⟩ F'' N''
    k_steps
    all_goals ((try dsimp only); (try k_unfold); (try dsimp only))
    exact ⟨rfl, _, _, _, _, rfl, F'', N'', rfl, g1⟩
theorem which_all {Ath Ak At : Addr} {th kd : List Value} {nt nk : Nat} (B : Below callerA h₀ [] h₀) (X : (K0 w.params).In h₀) (TT : Top V0 (looseW V0 []) (ExcName.means s₀.heap) mg mb h₀)
    (hm : WFact Ath Ak At m) (hit : Items w s₀ mg mb h₀ L news th kd)
    (hAt : (Ath, W.listOf th.toArray nt) ∈ news) (hAk : (Ak, W.listOf kd.toArray nk) ∈ news)
    (F : Fr h₀ L h m) (N : News h₀ L h news) :
    wpAny (model Challenge.rw_pd0089_01.row.prog w) (callerA.deeper (lawEnv L fa cv)) (exec (nthS (defBodyS lawDefS) 5) (lawEnv L fa cv))
      (StEnd h₀ L s (fun m' n' => news = n' ∧ WFact Ath Ak At m'))
      (fun _ _ => False) { s with heap := h, toks := tk } := by
  (revert X; k_fill; intro X)
  unfold lawEnv
  unfold lawDefS PySem.Challenge.pw_pd0089_01
  dsimp only [nthS, forBodyS, defBodyS, defScopeS, List.getElem?_cons_succ, List.getElem?_cons_zero]
  repeat' ((fail_if_success (with_reducible show wpAny _ _ (pyIter _) _ _ _)); (first | (k_unfold; (try dsimp only)) | (k_end; kc_close) | walk1 | (dsimp only; walk1) | (leave1; (try dsimp only)) | fail "no step"))
  (try clear F9 N9); (rename Fr _ _ _ _ => F9); (rename News _ _ _ _ => N9)
  refine range_J 6 rfl (by assumption) (by decide) (by rfl) F9 N9 (fun _ m' n' => news = n' ∧ WFact Ath Ak At m') ⟨rfl, hm⟩ ?_ ?_
  · rintro i m' n' I it t h tk hi ⟨rfl, ⟨g1, g2, g3⟩⟩ hI F'' N''
    refine wpAny_mono (which_turn (s := s) (fa := fa) (cv := cv) B X TT (if_pos rfl) ⟨(by (try dsimp only); exact (if_neg (by decide +kernel)).trans g1), (by (try dsimp only); exact (if_neg (by decide +kernel)).trans g2), (by (try dsimp only); exact (if_neg (by decide +kernel)).trans g3)⟩ hit (fun p hp => .tail _ hp) (.tail _ hAt) (.tail _ hAk) F'' N'') (fun f s₂ hs => ?_) (fun _ _ e => e)
    obtain ⟨rfl, h3, tk3, m3, n3, rfl, F3, N3, rfl, hF⟩ := hs
    exact ⟨rfl, h3, tk3, _, _, rfl, F3, N3, _, rfl, hI, rfl, hF⟩
  · rintro m' n' h tk ⟨rfl, g1⟩ F'' N''
    all_goals ((try dsimp only); (try k_unfold); (try dsimp only))
    exact ⟨rfl, _, _, _, _, rfl, F'', N'', rfl, g1⟩
end
theorem three {α : Type} {ys : List α} (h : ys.length = 3) : ∃ a b c, ys = [a, b, c] := by
  match ys, h with
  | [a, b, c], _ => exact ⟨a, b, c, rfl⟩
noncomputable def OInv (L At : Addr) (pre post : List (Addr × Obj)) (i : Nat) (m : Str → Option Value) (news : List (Addr × Obj)) : Prop :=
  ∃ oc x, oc.data = Data.cell x ∧ pre ++ (L + 1 + 1, oc) :: post = news ∧ m (Str.ofString "texts") = some (.ref At) ∧ (0 < i → ∃ z t, m (Str.ofString "front") = some (.int z t))
theorem news_oct {h₀ h : Heap} {L : Addr} {a b c d e f : Addr × Obj} (N : News h₀ L h [a, b, c, d, e, f]) : News h₀ L h (e :: c :: [a, b, d, f]) := fun p hp => N p (by
  simp only [List.mem_cons, List.not_mem_nil, or_false] at hp ⊢
  rcases hp with h | h | h | h | h | h <;> simp [h])
theorem news_back {h₀ h : Heap} {L : Addr} {a b c d e f : Addr × Obj} (N : News h₀ L h (e :: c :: [a, b, d, f])) : News h₀ L h (a :: ([b, c, d] ++ e :: [f])) := fun p hp => N p (by
  simp only [List.mem_cons, List.mem_append, List.not_mem_nil, or_false] at hp ⊢
  rcases hp with h | (h | h | h) | h | h <;> simp [h])
theorem off_back {I x : Addr} {b c d f : Addr × Obj} {o o' : Obj} (h : ∀ p ∈ [b, c, d] ++ (x, o) :: [f], p.1 ≠ I) : ∀ p ∈ [b, c, d] ++ (x, o') :: [f], p.1 ≠ I := fun p hp => by
  simp only [List.mem_cons, List.mem_append, List.not_mem_nil, or_false] at hp
  rcases hp with (e | e | e) | e | e
  · exact e ▸ h _ (by simp)
  · exact e ▸ h _ (by simp)
  · exact e ▸ h _ (by simp)
  · rw [e]; exact h (x, o) (by simp)
  · exact e ▸ h _ (by simp)
noncomputable def TailEnd (h₀ : Heap) (L : Addr) (s : Shared) (f : Flow) (s' : Shared) : Prop := f = .ret (.bool true) ∧ ∃ h' tk' m', s' = { s with heap := h', toks := tk' } ∧ Fr h₀ L h' m'
theorem isA_led {h₀ h' : Heap} {L a : Addr} {o : Obj} {T : String} {news n' : List (Addr × Obj)} (N : News h₀ L h' n') (hs : ∀ p ∈ news, p ∈ n') (hm : (a, o) ∈ news) (hc : o.cls = .type T) : IsA a T h' := ⟨o, (N _ (hs _ hm)).1, hc⟩
theorem dict_cls {K : Type} [DecidableEq K] {prog : Program} {w : World} {knd : KeyKind prog w K} {o : Obj} {kvs : List (K × Value)} (h : o.IsDictOf knd kvs) : o.cls = .type "dict" := by
  obtain ⟨es, ep, hx, _⟩ := h
  exact hx.1
noncomputable def restS : List Stmt := (defBodyS lawDefS).drop 2
section
variable {w : World} {s₀ : Shared} {mg mb : Str → Option Value} {h₀ h : Heap} {L fa : Addr} {cv : Value} {m : Str → Option Value} {news news₀ : List (Addr × Obj)} {tk : Nat} {s : Shared}
theorem law_tail {At Ad : Addr} {ts dv : List Value} {ns : List Int} {nt nd : Nat} {oc o1 : Obj} {x : Option Value} (B : Below callerA h₀ [] h₀) (X : (K0 w.params).In h₀) (T : Top V0 (looseW V0 []) (ExcName.means s₀.heap) mg mb h₀)
    (hall : ∀ v ∈ ts, ∃ o t, v = .str (S o) t ∧ Asc o) (hlen : ts.length = 3) (hint : IntsAre dv ns) (hoc : oc.data = Data.cell x) (ho1 : o1.data = Data.cell (some (.ref Ad)))
    (hm : m (Str.ofString "texts") = some (.ref At)) (hn1 : @Ne Nat At (L + 1 + 1)) (hn2 : @Ne Nat Ad (L + 1 + 1))
    (F : Fr h₀ L h m) (N : News h₀ L h [(At, W.listOf ts.toArray nt), (Ad, W.listOf dv.toArray nd), (L + 1 + 1, oc), (L + 1, o1)]) :
    wpAny (model Challenge.rw_pd0089_01.row.prog w) (callerA.deeper (lawEnv L fa cv)) (execs restS (lawEnv L fa cv))
      (TailEnd h₀ L s)
      (fun _ _ => False) { s with heap := h, toks := tk } := by
  (revert X; k_fill; intro X)
  unfold lawEnv
  unfold restS lawDefS PySem.Challenge.pw_pd0089_01
  dsimp only [nthS, forBodyS, defBodyS, defScopeS, List.getElem?_cons_succ, List.getElem?_cons_zero, List.drop_succ_cons, List.drop_zero]
  repeat' ((fail_if_success (with_reducible show wpAny _ _ (exec (Stmt.For _ _ _ _ _) _) _ _ _)); (first | (k_unfold; (try dsimp only)) | (k_end; kc_close) | walk1 | (dsimp only; walk1) | (leave1; (try dsimp only)) | fail "no step"))
  (k_dflt (refine wpAny_For ?_))
  repeat' ((fail_if_success (with_reducible show wpAny _ _ (pyIter _) _ _ _)); (first | (k_unfold; (try dsimp only)) | (k_end; kc_close) | walk1 | (dsimp only; walk1) | (leave1; (try dsimp only)) | fail "no step"))
  (rename Fr _ _ _ _ => F9)
  (rename News _ _ _ _ => N9)
  refine pyIter_list_G F9 N9 rfl (.head _) (OInv L At [_, _, _] [_]) ⟨_, _, hoc, rfl, hm, fun q => absurd q (Nat.lt_irrefl _)⟩ ?mem ?step ?fin
  case mem =>
    rintro i m news ⟨oc, x, _, rfl, _⟩
    exact .head _
  case step =>
    rintro i v m news I it h tk hi hv ⟨oc, x, hx, rfl, ht, _⟩ hit hI F' N'
    dsimp only [List.cons_append, List.nil_append] at N'
    have hi2 : i < 2 := hi
    have hI2 := allNe_of hI
    simp only [AllNe, and_true, List.cons_append, List.nil_append] at hI2
    rcases i with _ | _ | i
    · have hv' : v = .bool false := by simpa using hv.symm
      subst hv'
      repeat' ((fail_if_success (with_reducible show wpAny _ _ (execs _ _) _ _ _)); (first | (k_unfold; (try dsimp only)) | (k_end; kc_close) | walk1 | (dsimp only; walk1) | (leave1; (try dsimp only)) | fail "no step"))
      (rename Fr _ _ _ _ => F9)
      (rename News _ _ _ _ => N9)
      refine wpAny_mono (oct_S (s := s) (fa := fa) (cv := cv) B X T hall hlen (by assumption) ⟨ht, trivial⟩ F9 (news_oct N9)) (fun f s₂ hs => ?_) (fun _ _ e => e)
      obtain ⟨rfl, h3, tk3, m3, n3, rfl, F3, N3, rfl, k1, z, tz, k2⟩ := hs
      exact ⟨h3, tk3, m3, _, rfl, F3, news_back N3, off_back hI, _, _, by assumption, rfl, k1, fun _ => ⟨z, tz, k2⟩⟩
    · have hv' : v = .bool true := by simpa using hv.symm
      subst hv'
      repeat' ((fail_if_success (with_reducible show wpAny _ _ (execs _ _) _ _ _)); (first | (k_unfold; (try dsimp only)) | (k_end; kc_close) | walk1 | (dsimp only; walk1) | (leave1; (try dsimp only)) | fail "no step"))
      (rename Fr _ _ _ _ => F9)
      (rename News _ _ _ _ => N9)
      refine wpAny_mono (oct_B (s := s) (fa := fa) (cv := cv) B X T hall hlen (by assumption) ⟨ht, trivial⟩ F9 (news_oct N9)) (fun f s₂ hs => ?_) (fun _ _ e => e)
      obtain ⟨rfl, h3, tk3, m3, n3, rfl, F3, N3, rfl, k1, z, tz, k2⟩ := hs
      exact ⟨h3, tk3, m3, _, rfl, F3, news_back N3, off_back hI, _, _, by assumption, rfl, k1, fun _ => ⟨z, tz, k2⟩⟩
    · omega
  case fin =>
    rintro m news h tk ⟨oc, x, hx, rfl, ht, hfr⟩ F' N'
    dsimp only [List.cons_append, List.nil_append] at N'
    obtain ⟨z, tz, hz⟩ := hfr (by simp)
    obtain ⟨v0, v1, v2, rfl⟩ := three hlen
    obtain ⟨l0, t0, rfl, hA0⟩ := hall v0 (.head _)
    obtain ⟨l1, t1, rfl, hA1⟩ := hall v1 (.tail _ (.head _))
    obtain ⟨l2, t2, rfl, hA2⟩ := hall v2 (.tail _ (.tail _ (.head _)))
    have em := ovl_self (ps := [(Str.ofString "front", .int z tz), (Str.ofString "texts", .ref At)]) ⟨hz, ht, trivial⟩
    rw [em] at F'
    dsimp only [ovl] at F'
    (try dsimp only)
    repeat' ((fail_if_success (with_reducible show wpAny _ _ (exec (Stmt.For _ _ _ _ _) _) _ _ _)); (first | (k_unfold; (try dsimp only)) | (k_end; kc_close) | walk1 | (dsimp only; walk1) | (leave1; (try dsimp only)) | fail "no step"))
    (rename Fr _ _ _ _ => F9)
    (rename News _ _ _ _ => N9)
    refine wpAny_mono (which_all (s := s) (fa := fa) (cv := cv) B X T ⟨(by (try dsimp only); repeat (first | with_reducible exact if_pos rfl | assumption | refine (if_neg (by decide +kernel)).trans ?_)), (by (try dsimp only); repeat (first | with_reducible exact if_pos rfl | assumption | refine (if_neg (by decide +kernel)).trans ?_)), (by (try dsimp only); repeat (first | with_reducible exact if_pos rfl | assumption | refine (if_neg (by decide +kernel)).trans ?_))⟩ ?items (.tail _ (.head _)) (.head _) F9 N9) (fun f s₂ hs => ?_) (fun _ _ e => e.elim)
    case items =>
      intro i hi
      rcases i with _ | _ | _ | _ | _ | _ | i
      · exact ⟨_, "int", _, _, rfl, rfl, bad_int _ _, fun _ _ _ _ => trivial⟩
      · exact ⟨_, "NoneType", _, _, rfl, rfl, bad_NoneType, fun _ _ _ _ => trivial⟩
      · exact ⟨_, "bool", _, _, rfl, rfl, bad_bool _, fun _ _ _ _ => trivial⟩
      · exact ⟨_, "list", _, _, rfl, rfl, bad_list _, fun _ _ N hs => isA_led N hs (.tail _ (.tail _ (.tail _ (.tail _ (.head _))))) rfl⟩
      · exact ⟨_, "tuple", _, _, rfl, rfl, bad_tuple _, fun _ _ N hs => isA_led N hs (.tail _ (.tail _ (.tail _ (.head _)))) rfl⟩
      · exact ⟨_, "dict", _, _, rfl, rfl, bad_dict _, fun _ _ N hs => isA_led N hs (.tail _ (.tail _ (.head _))) (dict_cls (by assumption))⟩
      · omega
    obtain ⟨rfl, h3, tk3, m3, n3, rfl, F3, N3, rfl, g1, g2, g3⟩ := hs
    have em3 := ovl_self (ps := [(Str.ofString "things", _), (Str.ofString "texts", _)]) ⟨g1, g3, trivial⟩
    rw [em3] at F3
    dsimp only [ovl] at F3
    (try dsimp only)
    k_steps
    (rename Fr _ _ _ _ => F9)
    (rename News _ _ _ _ => N9)
    refine eq_lst N9 (.tail _ (.tail _ (.tail _ (.tail _ (.tail _ (.head _)))))) (.head _) (by ke_room) ⟨str_same _ _ _, trivial⟩ ?_
    k_steps
    (try clear F9)
    (rename Fr _ _ _ _ => F9)
    exact ⟨rfl, _, _, _, rfl, F9⟩
end
theorem news_drop3 {h₀ h : Heap} {L : Addr} {a b c d e : Addr × Obj} (N : News h₀ L h [a, b, c, d, e]) : News h₀ L h [a, b, d, e] := fun p hp => N p (by
  simp only [List.mem_cons, List.not_mem_nil, or_false] at hp ⊢
  rcases hp with h | h | h | h <;> simp [h])
theorem law_walk : PySem.Challenge.rw_pd0089_01.Holds := by
  refine law_from (by rfl) (by rfl) (by rfl) ?_
  w_strict (
    k_go0
    (all_goals try k_fold)
    (repeat' ((fail_if_success (with_reducible show wpAny _ _ (exec (Stmt.Assign _ (Expr.ListComp (Expr.Call _ _ _ _) _ _ _) _) _) _ _ _)); (first | (k_unfold; (try dsimp only)) | (k_end; kc_close) | walk1 | (dsimp only; walk1) | (leave1; (try dsimp only)) | fail "no step")))
    (k_here; k_dflt (refine LCg.Assign_ListComp_U (F₀ := by k_asm) (by rfl) (by with_unfolding_all rfl) (by with_unfolding_all rfl) (by decide) (by rfl) (by decide) (by rfl) (by rfl) (by rfl) ?_))
    (iterate 7 (first | walk1 | (dsimp only; walk1)))
    (k_here; k_dflt (refine LCg.CompSrc.range (by rfl) (by k_asm) (by k_asm) (by assumption) (by decide) (by rfl) (by size_fits) ?_; intro g'))
    (k_dflt (refine compRest_inv (fun i v => ∃ l t, v = .str (S l) t ∧ Asc l) _ ?turn ?fin))
    (case turn =>
      intro i v I' oI' C' oC' D' m' h' tk' ys hi hP hC' hx' F' N' off' ne'
      obtain ⟨t9', hv9'⟩ := hP
      subst hv9'
      replace hi : i < 3 := hi
      obtain ⟨k', hk', hlo', hhi'⟩ : ∃ k' : Int, 0 + (i : Int) = k' ∧ 0 ≤ k' ∧ k' < 3 := ⟨_, rfl, by omega, by omega⟩
      rw [hk'] at hx'
      clear hk' hi
      have off'' := off'
      (try simp only [LCg.Off3, and_true] at off')
      (repeat' ((fail_if_success (with_reducible show wpAny _ _ (call (Value.ref 171) _) _ _ _)); (first | (k_unfold; (try dsimp only)) | (k_end; kc_close) | walk1 | (dsimp only; walk1) | (leave1; (try dsimp only)) | fail "no step")))
      (k_here; k_dflt (refine' Ct.at (path_int _ _ mod_lo mod_hi) ?k1 ?k2 ?k3 ?k4 ?k5 ?k6 ?k7 ?k8 ?k9 ?_; (case k1 => k_asm); (case k2 => k_asm); (case k3 => k_asm); (case k4 => k_asm); (case k5 => k_asm); (case k6 => exact rfl); (case k7 => exact rfl); (case k8 => ktr_room); (case k9 => ktr_units); k_whole; intro v9 h9 tk9 F9 N9 st9 p9))
      obtain ⟨l, t, rfl, hA⟩ := p9
      ((try dsimp only); (try k_unfold); (try dsimp only))
      exact LCg.CompEnd.intro F9 N9 _ (fun p hp => .tail _ (.tail _ hp)) off'' trivial ⟨rfl, l, t, rfl, hA⟩)
    (intro ys hys hJ
     replace hys : ys.length = 3 := hys
     unfold LCg.FinA
     intro D' h' tk' F' N' o1'
     (try dsimp only)
     (simp only [LCg.Off1, and_true] at o1')
     (refine wpAny_mono (law_tail (by assumption) (by assumption) (by assumption) (fun v hv => let ⟨i, hi⟩ := List.mem_iff_getElem?.mp hv; hJ i v hi) hys (by assumption) (by assumption) (by assumption) (if_pos rfl) (by k_ne) (by k_ne) F' (news_drop3 N')) (fun f s₂ hs => ?_) (fun _ _ e => e.elim))
     (obtain ⟨rfl, h3, tk3, m3, rfl, F3⟩ := hs)
     ((try dsimp only); (try k_unfold); (try dsimp only))
     k_steps))
end Mine
theorem PySem.Challenge.cw_pd0089_01_holds : PySem.Challenge.rw_pd0089_01.Holds := by
  exact Mine.law_walk
