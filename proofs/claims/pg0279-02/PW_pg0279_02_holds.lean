import PyProof.Rows.All
import Wide.All
import OpenK.AllK
import Wide.FinOn
import PySem.Challenge.RW_pg0279_02
open PySem PySem.W PyProof.Rows
set_option Elab.async false
set_option compiler.extract_closed false
namespace Mine
noncomputable def nthS : List Stmt → Nat → Stmt
  | [], _ => .Pass ⟨0, 0, 0, 0⟩
  | s :: _, 0 => s
  | _ :: r, n + 1 => nthS r n
noncomputable def sBody : Stmt → List Stmt
  | .FunctionDef _ _ b _ _ _ _ _ _ _ => b
  | .ClassDef _ _ _ b _ _ _ _ _ _ _ => b
  | _ => []
noncomputable def sPar : Stmt → Arguments
  | .FunctionDef _ p _ _ _ _ _ _ _ _ => p
  | _ => ⟨[], [], none, [], [], none, []⟩
noncomputable def sScope : Stmt → Scope
  | .FunctionDef _ _ _ _ _ _ s _ _ _ => s
  | _ => ⟨.module, [], false, false, []⟩
noncomputable def atS (n : Nat) : Stmt := nthS PySem.Challenge.pw_pg0279_02.main.body n
set_option maxRecDepth 100000 in
set_option maxHeartbeats 0 in
noncomputable def KX : Params → Frag := by
  refine (?f : ∀ (p45 : Arguments) (_ : sPar (atS 4) = p45) (b45 : List Stmt) (_ : sBody (atS 4) = b45) (s45 : Scope) (_ : sScope (atS 4) = s45) (p59 : Arguments) (_ : sPar (nthS (sBody (atS 6)) 0) = p59) (b59 : List Stmt) (_ : sBody (nthS (sBody (atS 6)) 0) = b59) (s59 : Scope) (_ : sScope (nthS (sBody (atS 6)) 0) = s59) (p66 : Arguments) (_ : sPar (nthS (sBody (atS 6)) 1) = p66) (b66 : List Stmt) (_ : sBody (nthS (sBody (atS 6)) 1) = b66) (s66 : Scope) (_ : sScope (nthS (sBody (atS 6)) 1) = s66) (p73 : Arguments) (_ : sPar (nthS (sBody (atS 6)) 2) = p73) (b73 : List Stmt) (_ : sBody (nthS (sBody (atS 6)) 2) = b73) (s73 : Scope) (_ : sScope (nthS (sBody (atS 6)) 2) = s73) (p80 : Arguments) (_ : sPar (nthS (sBody (atS 6)) 3) = p80) (b80 : List Stmt) (_ : sBody (nthS (sBody (atS 6)) 3) = b80) (s80 : Scope) (_ : sScope (nthS (sBody (atS 6)) 3) = s80) (p125 : Arguments) (_ : sPar (nthS (sBody (atS 12)) 0) = p125) (b125 : List Stmt) (_ : sBody (nthS (sBody (atS 12)) 0) = b125) (s125 : Scope) (_ : sScope (nthS (sBody (atS 12)) 0) = s125) (p132 : Arguments) (_ : sPar (nthS (sBody (atS 12)) 1) = p132) (b132 : List Stmt) (_ : sBody (nthS (sBody (atS 12)) 1) = b132) (s132 : Scope) (_ : sScope (nthS (sBody (atS 12)) 1) = s132) (p180 : Arguments) (_ : sPar (nthS (sBody (atS 12)) 8) = p180) (b180 : List Stmt) (_ : sBody (nthS (sBody (atS 12)) 8) = b180) (s180 : Scope) (_ : sScope (nthS (sBody (atS 12)) 8) = s180) (p197 : Arguments) (_ : sPar (nthS (sBody (atS 12)) 11) = p197) (b197 : List Stmt) (_ : sBody (nthS (sBody (atS 12)) 11) = b197) (s197 : Scope) (_ : sScope (nthS (sBody (atS 12)) 11) = s197) (p230 : Arguments) (_ : sPar (nthS (sBody (atS 12)) 16) = p230) (b230 : List Stmt) (_ : sBody (nthS (sBody (atS 12)) 16) = b230) (s230 : Scope) (_ : sScope (nthS (sBody (atS 12)) 16) = s230) (p244 : Arguments) (_ : sPar (atS 14) = p244) (b244 : List Stmt) (_ : sBody (atS 14) = b244) (s244 : Scope) (_ : sScope (atS 14) = s244) (p249 : Arguments) (_ : sPar (atS 15) = p249) (b249 : List Stmt) (_ : sBody (atS 15) = b249) (s249 : Scope) (_ : sScope (atS 15) = s249) (p256 : Arguments) (_ : sPar (atS 16) = p256) (b256 : List Stmt) (_ : sBody (atS 16) = b256) (s256 : Scope) (_ : sScope (atS 16) = s256) (p263 : Arguments) (_ : sPar (atS 17) = p263) (b263 : List Stmt) (_ : sBody (atS 17) = b263) (s263 : Scope) (_ : sScope (atS 17) = s263) (p268 : Arguments) (_ : sPar (atS 18) = p268) (b268 : List Stmt) (_ : sBody (atS 18) = b268) (s268 : Scope) (_ : sScope (atS 18) = s268) , Params → Frag) _ (by conv => lhs; whnf) _ (by conv => lhs; whnf) _ (by conv => lhs; whnf) _ (by conv => lhs; whnf) _ (by conv => lhs; whnf) _ (by conv => lhs; whnf) _ (by conv => lhs; whnf) _ (by conv => lhs; whnf) _ (by conv => lhs; whnf) _ (by conv => lhs; whnf) _ (by conv => lhs; whnf) _ (by conv => lhs; whnf) _ (by conv => lhs; whnf) _ (by conv => lhs; whnf) _ (by conv => lhs; whnf) _ (by conv => lhs; whnf) _ (by conv => lhs; whnf) _ (by conv => lhs; whnf) _ (by conv => lhs; whnf) _ (by conv => lhs; whnf) _ (by conv => lhs; whnf) _ (by conv => lhs; whnf) _ (by conv => lhs; whnf) _ (by conv => lhs; whnf) _ (by conv => lhs; whnf) _ (by conv => lhs; whnf) _ (by conv => lhs; whnf) _ (by conv => lhs; whnf) _ (by conv => lhs; whnf) _ (by conv => lhs; whnf) _ (by conv => lhs; whnf) _ (by conv => lhs; whnf) _ (by conv => lhs; whnf) _ (by conv => lhs; whnf) _ (by conv => lhs; whnf) _ (by conv => lhs; whnf) _ (by conv => lhs; whnf) _ (by conv => lhs; whnf) _ (by conv => lhs; whnf) _ (by conv => lhs; whnf) _ (by conv => lhs; whnf) _ (by conv => lhs; whnf) _ (by conv => lhs; whnf) _ (by conv => lhs; whnf) _ (by conv => lhs; whnf)
  exact fun p45 _ b45 _ s45 _ p59 _ b59 _ s59 _ p66 _ b66 _ s66 _ p73 _ b73 _ s73 _ p80 _ b80 _ s80 _ p125 _ b125 _ s125 _ p132 _ b132 _ s132 _ p180 _ b180 _ s180 _ p197 _ b197 _ s197 _ p230 _ b230 _ s230 _ p244 _ b244 _ s244 _ p249 _ b249 _ s249 _ p256 _ b256 _ s256 _ p263 _ b263 _ s263 _ p268 _ b268 _ s268 _ P =>
  (nat_lit 2, ({ cls := PySem.Value.none, data := PySem.Data.dict #[{ hash := PySem.PyData.keyHash P (PySem.Str.ofString "\x69mport.loaded._sre"), key := PySem.Value.str (PySem.Str.ofString "\x69mport.loaded._sre") 183, val := PySem.Value.bool true }, { hash := PySem.PyData.keyHash P (PySem.Str.ofString "class._frozen_importlib.BuiltinImporter"), key := PySem.Value.str (PySem.Str.ofString "class._frozen_importlib.BuiltinImporter") 185, val := PySem.Value.ref 14 }, { hash := PySem.PyData.keyHash P (PySem.Str.ofString "watched.\x69mport"), key := PySem.Value.str (PySem.Str.ofString "watched.\x69mport") 206, val := PySem.Value.ref 18 }, { hash := PySem.PyData.keyHash P (PySem.Str.ofString "class._frozen_importlib.ModuleSpec"), key := PySem.Value.str (PySem.Str.ofString "class._frozen_importlib.ModuleSpec") 216, val := PySem.Value.ref 22 }, { hash := PySem.PyData.keyHash P (PySem.Str.ofString "sys.modules.booked-epoch"), key := PySem.Value.str (PySem.Str.ofString "sys.modules.booked-epoch") 245, val := PySem.Value.int 3 0 }, { hash := PySem.PyData.keyHash P (PySem.Str.ofString "\x69mport.later-laid._sre"), key := PySem.Value.str (PySem.Str.ofString "\x69mport.later-laid._sre") 270, val := PySem.Value.bool true }, { hash := PySem.PyData.keyHash P (PySem.Str.ofString "watched.library"), key := PySem.Value.str (PySem.Str.ofString "watched.library") 272, val := PySem.Value.ref 27 }, { hash := PySem.PyData.keyHash P (PySem.Str.ofString "watched.library-objects"), key := PySem.Value.str (PySem.Str.ofString "watched.library-objects") 0, val := PySem.Value.str (PySem.Str.ofString "\x0c") 0 }, { hash := PySem.PyData.keyHash P (PySem.Str.ofString "watched.library-deep._sre"), key := PySem.Value.str (PySem.Str.ofString "watched.library-deep._sre") 273, val := PySem.Value.str (PySem.Str.ofString "\x04\x00\x00\x0b\x04\x00\x00\x0b\x04\x00\x00\x03\x04\x00\x00\x0b\x08\x04dict\x02") 0 }] 9 } : Obj)) ::
  (nat_lit 3, ({ cls := PySem.Value.type "dict", data := PySem.Data.dict #[{ hash := PySem.PyData.keyHash P (PySem.Str.ofString "__name__"), key := PySem.Value.str (PySem.Str.ofString "__name__") 165, val := PySem.Value.str (PySem.Str.ofString "law_pg0279_02") 630 }, { hash := PySem.PyData.keyHash P (PySem.Str.ofString "__doc__"), key := PySem.Value.str (PySem.Str.ofString "__doc__") 166, val := PySem.Value.none }, { hash := PySem.PyData.keyHash P (PySem.Str.ofString "__package__"), key := PySem.Value.str (PySem.Str.ofString "__package__") 167, val := PySem.Value.none }, { hash := PySem.PyData.keyHash P (PySem.Str.ofString "__loader__"), key := PySem.Value.str (PySem.Str.ofString "__loader__") 168, val := PySem.Value.builtin "__main__.__loader__#opaque" }, { hash := PySem.PyData.keyHash P (PySem.Str.ofString "__spec__"), key := PySem.Value.str (PySem.Str.ofString "__spec__") 169, val := PySem.Value.none }, { hash := PySem.PyData.keyHash P (PySem.Str.ofString "__annotations__"), key := PySem.Value.str (PySem.Str.ofString "__annotations__") 170, val := PySem.Value.ref 6 }, { hash := PySem.PyData.keyHash P (PySem.Str.ofString "__builtins__"), key := PySem.Value.str (PySem.Str.ofString "__builtins__") 171, val := PySem.Value.ref 4 }, { hash := PySem.PyData.keyHash P (PySem.Str.ofString "__file__"), key := PySem.Value.str (PySem.Str.ofString "__file__") 173, val := PySem.Value.str (PySem.Str.ofString "/claim/cut.py") 172 }, { hash := PySem.PyData.keyHash P (PySem.Str.ofString "__cached__"), key := PySem.Value.str (PySem.Str.ofString "__cached__") 174, val := PySem.Value.none }, { hash := PySem.PyData.keyHash P (PySem.Str.ofString "_sre"), key := PySem.Value.str (PySem.Str.ofString "_sre") 275, val := PySem.Value.ref 12 }, { hash := PySem.PyData.keyHash P (PySem.Str.ofString "_wall"), key := PySem.Value.str (PySem.Str.ofString "_wall") 288, val := PySem.Value.ref 38 }, { hash := PySem.PyData.keyHash P (PySem.Str.ofString "ELLIPSIS_MARKER"), key := PySem.Value.str (PySem.Str.ofString "ELLIPSIS_MARKER") 292, val := PySem.Value.str (PySem.Str.ofString "...") 291 }, { hash := PySem.PyData.keyHash P (PySem.Str.ofString "_ellipsis_match"), key := PySem.Value.str (PySem.Str.ofString "_ellipsis_match") 304, val := PySem.Value.ref 45 }, { hash := PySem.PyData.keyHash P (PySem.Str.ofString "_netrclex"), key := PySem.Value.str (PySem.Str.ofString "_netrclex") 364, val := PySem.Value.ref 83 }, { hash := PySem.PyData.keyHash P (PySem.Str.ofString "tspecials"), key := PySem.Value.str (PySem.Str.ofString "tspecials") 400, val := PySem.Value.ref 92 }, { hash := PySem.PyData.keyHash P (PySem.Str.ofString "_name_disallowed_re"), key := PySem.Value.str (PySem.Str.ofString "_name_disallowed_re") 426, val := PySem.Value.ref 97 }, { hash := PySem.PyData.keyHash P (PySem.Str.ofString "_value_disallowed_re"), key := PySem.Value.str (PySem.Str.ofString "_value_disallowed_re") 460, val := PySem.Value.ref 102 }, { hash := PySem.PyData.keyHash P (PySem.Str.ofString "_formatparam"), key := PySem.Value.str (PySem.Str.ofString "_formatparam") 470, val := PySem.Value.ref 110 }, { hash := PySem.PyData.keyHash P (PySem.Str.ofString "Headers"), key := PySem.Value.str (PySem.Str.ofString "Headers") 629, val := PySem.Value.ref 233 }, { hash := PySem.PyData.keyHash P (PySem.Str.ofString "_law_lexer"), key := PySem.Value.str (PySem.Str.ofString "_law_lexer") 641, val := PySem.Value.ref 244 }, { hash := PySem.PyData.keyHash P (PySem.Str.ofString "_law_ends"), key := PySem.Value.str (PySem.Str.ofString "_law_ends") 647, val := PySem.Value.ref 249 }, { hash := PySem.PyData.keyHash P (PySem.Str.ofString "_law_plain"), key := PySem.Value.str (PySem.Str.ofString "_law_plain") 658, val := PySem.Value.ref 256 }, { hash := PySem.PyData.keyHash P (PySem.Str.ofString "_law_agree"), key := PySem.Value.str (PySem.Str.ofString "_law_agree") 669, val := PySem.Value.ref 263 }, { hash := PySem.PyData.keyHash P (PySem.Str.ofString "law"), key := PySem.Value.str (PySem.Str.ofString "law") 675, val := PySem.Value.ref 268 }] 24 } : Obj)) ::
  (nat_lit 32, ({ cls := PySem.Value.type "tuple", data := PySem.Data.seq #[] } : Obj)) ::
  (nat_lit 34, ({ cls := PySem.Value.type "tuple", data := PySem.Data.seq #[PySem.Value.str (PySem.Str.ofString "k") 285] } : Obj)) ::
  (nat_lit 35, ({ cls := PySem.Value.type "tuple", data := PySem.Data.seq #[] } : Obj)) ::
  (nat_lit 37, ({ cls := PySem.Value.type "code", data := PySem.Data.fields #[PySem.Value.str (PySem.Str.ofString "_wall") 282, PySem.Value.str (PySem.Str.ofString "_wall") 283, PySem.Value.str (PySem.Str.ofString "/claim/cut.py") 284, PySem.Value.int 2 0, PySem.Value.int 1 0, PySem.Value.int 0 0, PySem.Value.int 0 0, PySem.Value.int 3 0, PySem.Value.ref 32, PySem.Value.bool true, PySem.Value.int 276 0, PySem.Value.ref 33, PySem.Value.none, PySem.Value.ref 34, PySem.Value.ref 35, PySem.Value.ref 36, PySem.Value.int 286 0, PySem.Value.int 2 0, PySem.Value.str (PySem.Str.ofString "/claim/cut.py") 287] } : Obj)) ::
  (nat_lit 39, ({ cls := PySem.Value.type "tuple", data := PySem.Data.seq #[] } : Obj)) ::
  (nat_lit 41, ({ cls := PySem.Value.type "tuple", data := PySem.Data.seq #[PySem.Value.str (PySem.Str.ofString "want") 296, PySem.Value.str (PySem.Str.ofString "got") 297, PySem.Value.str (PySem.Str.ofString "ws") 298, PySem.Value.str (PySem.Str.ofString "startpos") 299, PySem.Value.str (PySem.Str.ofString "endpos") 300, PySem.Value.str (PySem.Str.ofString "w") 301] } : Obj)) ::
  (nat_lit 42, ({ cls := PySem.Value.type "tuple", data := PySem.Data.seq #[] } : Obj)) ::
  (nat_lit 44, ({ cls := PySem.Value.type "code", data := PySem.Data.fields #[PySem.Value.str (PySem.Str.ofString "_ellipsis_match") 293, PySem.Value.str (PySem.Str.ofString "_ellipsis_match") 294, PySem.Value.str (PySem.Str.ofString "/claim/cut.py") 295, PySem.Value.int 7 0, PySem.Value.int 2 0, PySem.Value.int 0 0, PySem.Value.int 0 0, PySem.Value.int 3 0, PySem.Value.ref 39, PySem.Value.bool true, PySem.Value.int 276 0, PySem.Value.ref 40, PySem.Value.none, PySem.Value.ref 41, PySem.Value.ref 42, PySem.Value.ref 43, PySem.Value.int 302 0, PySem.Value.int 7 0, PySem.Value.str (PySem.Str.ofString "/claim/cut.py") 303] } : Obj)) ::
  (nat_lit 45, ({ cls := PySem.Value.type "function", data := PySem.Data.func { name := PySem.Str.ofString "_ellipsis_match", qualname := PySem.Str.ofString "_ellipsis_match", params := p45, body := .stmts b45, scope := s45, globals := 3, closure := [], defaults := PySem.Value.none, kwdefaults := PySem.Value.none, pyModule := PySem.Value.str (PySem.Str.ofString "cpy313.doctest") 289, code := PySem.Value.ref 44 } } : Obj)) ::
  (nat_lit 53, ({ cls := PySem.Value.type "tuple", data := PySem.Data.seq #[] } : Obj)) ::
  (nat_lit 55, ({ cls := PySem.Value.type "tuple", data := PySem.Data.seq #[PySem.Value.str (PySem.Str.ofString "self") 322, PySem.Value.str (PySem.Str.ofString "fp") 323] } : Obj)) ::
  (nat_lit 56, ({ cls := PySem.Value.type "tuple", data := PySem.Data.seq #[] } : Obj)) ::
  (nat_lit 58, ({ cls := PySem.Value.type "code", data := PySem.Data.fields #[PySem.Value.str (PySem.Str.ofString "__init__") 319, PySem.Value.str (PySem.Str.ofString "_netrclex.__init__") 320, PySem.Value.str (PySem.Str.ofString "/claim/cut.py") 321, PySem.Value.int 38 0, PySem.Value.int 2 0, PySem.Value.int 0 0, PySem.Value.int 0 0, PySem.Value.int 3 0, PySem.Value.ref 53, PySem.Value.bool true, PySem.Value.int 276 0, PySem.Value.ref 54, PySem.Value.none, PySem.Value.ref 55, PySem.Value.ref 56, PySem.Value.ref 57, PySem.Value.int 324 0, PySem.Value.int 38 0, PySem.Value.str (PySem.Str.ofString "/claim/cut.py") 325] } : Obj)) ::
  (nat_lit 59, ({ cls := PySem.Value.type "function", data := PySem.Data.func { name := PySem.Str.ofString "__init__", qualname := PySem.Str.ofString "_netrclex.__init__", params := p59, body := .stmts b59, scope := s59, globals := 3, closure := [], defaults := PySem.Value.none, kwdefaults := PySem.Value.none, pyModule := PySem.Value.str (PySem.Str.ofString "cpy313.netrc") 305, code := PySem.Value.ref 58 } } : Obj)) ::
  (nat_lit 60, ({ cls := PySem.Value.type "tuple", data := PySem.Data.seq #[] } : Obj)) ::
  (nat_lit 62, ({ cls := PySem.Value.type "tuple", data := PySem.Data.seq #[PySem.Value.str (PySem.Str.ofString "self") 330, PySem.Value.str (PySem.Str.ofString "ch") 331] } : Obj)) ::
  (nat_lit 63, ({ cls := PySem.Value.type "tuple", data := PySem.Data.seq #[] } : Obj)) ::
  (nat_lit 65, ({ cls := PySem.Value.type "code", data := PySem.Data.fields #[PySem.Value.str (PySem.Str.ofString "_read_char") 327, PySem.Value.str (PySem.Str.ofString "_netrclex._read_char") 328, PySem.Value.str (PySem.Str.ofString "/claim/cut.py") 329, PySem.Value.int 44 0, PySem.Value.int 1 0, PySem.Value.int 0 0, PySem.Value.int 0 0, PySem.Value.int 3 0, PySem.Value.ref 60, PySem.Value.bool true, PySem.Value.int 276 0, PySem.Value.ref 61, PySem.Value.none, PySem.Value.ref 62, PySem.Value.ref 63, PySem.Value.ref 64, PySem.Value.int 332 0, PySem.Value.int 44 0, PySem.Value.str (PySem.Str.ofString "/claim/cut.py") 333] } : Obj)) ::
  (nat_lit 66, ({ cls := PySem.Value.type "function", data := PySem.Data.func { name := PySem.Str.ofString "_read_char", qualname := PySem.Str.ofString "_netrclex._read_char", params := p66, body := .stmts b66, scope := s66, globals := 3, closure := [], defaults := PySem.Value.none, kwdefaults := PySem.Value.none, pyModule := PySem.Value.str (PySem.Str.ofString "cpy313.netrc") 305, code := PySem.Value.ref 65 } } : Obj)) ::
  (nat_lit 67, ({ cls := PySem.Value.type "tuple", data := PySem.Data.seq #[] } : Obj)) ::
  (nat_lit 69, ({ cls := PySem.Value.type "tuple", data := PySem.Data.seq #[PySem.Value.str (PySem.Str.ofString "self") 338, PySem.Value.str (PySem.Str.ofString "token") 339, PySem.Value.str (PySem.Str.ofString "fiter") 340, PySem.Value.str (PySem.Str.ofString "ch") 341] } : Obj)) ::
  (nat_lit 70, ({ cls := PySem.Value.type "tuple", data := PySem.Data.seq #[] } : Obj)) ::
  (nat_lit 72, ({ cls := PySem.Value.type "code", data := PySem.Data.fields #[PySem.Value.str (PySem.Str.ofString "get_token") 335, PySem.Value.str (PySem.Str.ofString "_netrclex.get_token") 336, PySem.Value.str (PySem.Str.ofString "/claim/cut.py") 337, PySem.Value.int 50 0, PySem.Value.int 1 0, PySem.Value.int 0 0, PySem.Value.int 0 0, PySem.Value.int 3 0, PySem.Value.ref 67, PySem.Value.bool true, PySem.Value.int 276 0, PySem.Value.ref 68, PySem.Value.none, PySem.Value.ref 69, PySem.Value.ref 70, PySem.Value.ref 71, PySem.Value.int 342 0, PySem.Value.int 50 0, PySem.Value.str (PySem.Str.ofString "/claim/cut.py") 343] } : Obj)) ::
  (nat_lit 73, ({ cls := PySem.Value.type "function", data := PySem.Data.func { name := PySem.Str.ofString "get_token", qualname := PySem.Str.ofString "_netrclex.get_token", params := p73, body := .stmts b73, scope := s73, globals := 3, closure := [], defaults := PySem.Value.none, kwdefaults := PySem.Value.none, pyModule := PySem.Value.str (PySem.Str.ofString "cpy313.netrc") 305, code := PySem.Value.ref 72 } } : Obj)) ::
  (nat_lit 74, ({ cls := PySem.Value.type "tuple", data := PySem.Data.seq #[] } : Obj)) ::
  (nat_lit 76, ({ cls := PySem.Value.type "tuple", data := PySem.Data.seq #[PySem.Value.str (PySem.Str.ofString "self") 348, PySem.Value.str (PySem.Str.ofString "token") 349] } : Obj)) ::
  (nat_lit 77, ({ cls := PySem.Value.type "tuple", data := PySem.Data.seq #[] } : Obj)) ::
  (nat_lit 79, ({ cls := PySem.Value.type "code", data := PySem.Data.fields #[PySem.Value.str (PySem.Str.ofString "push_token") 345, PySem.Value.str (PySem.Str.ofString "_netrclex.push_token") 346, PySem.Value.str (PySem.Str.ofString "/claim/cut.py") 347, PySem.Value.int 77 0, PySem.Value.int 2 0, PySem.Value.int 0 0, PySem.Value.int 0 0, PySem.Value.int 3 0, PySem.Value.ref 74, PySem.Value.bool true, PySem.Value.int 276 0, PySem.Value.ref 75, PySem.Value.none, PySem.Value.ref 76, PySem.Value.ref 77, PySem.Value.ref 78, PySem.Value.int 350 0, PySem.Value.int 77 0, PySem.Value.str (PySem.Str.ofString "/claim/cut.py") 351] } : Obj)) ::
  (nat_lit 80, ({ cls := PySem.Value.type "function", data := PySem.Data.func { name := PySem.Str.ofString "push_token", qualname := PySem.Str.ofString "_netrclex.push_token", params := p80, body := .stmts b80, scope := s80, globals := 3, closure := [], defaults := PySem.Value.none, kwdefaults := PySem.Value.none, pyModule := PySem.Value.str (PySem.Str.ofString "cpy313.netrc") 305, code := PySem.Value.ref 79 } } : Obj)) ::
  (nat_lit 81, ({ cls := PySem.Value.type "tuple", data := PySem.Data.seq #[PySem.Value.str (PySem.Str.ofString "instream") 353, PySem.Value.str (PySem.Str.ofString "lineno") 354, PySem.Value.str (PySem.Str.ofString "pushback") 355, PySem.Value.str (PySem.Str.ofString "whitespace") 356] } : Obj)) ::
  (nat_lit 82, ({ cls := PySem.Value.type "dict", data := PySem.Data.dict #[{ hash := PySem.PyData.keyHash P (PySem.Str.ofString "__module__"), key := PySem.Value.str (PySem.Str.ofString "__module__") 314, val := PySem.Value.str (PySem.Str.ofString "cpy313.netrc") 305 }, { hash := PySem.PyData.keyHash P (PySem.Str.ofString "__firstlineno__"), key := PySem.Value.str (PySem.Str.ofString "__firstlineno__") 318, val := PySem.Value.int 36 317 }, { hash := PySem.PyData.keyHash P (PySem.Str.ofString "__init__"), key := PySem.Value.str (PySem.Str.ofString "__init__") 326, val := PySem.Value.ref 59 }, { hash := PySem.PyData.keyHash P (PySem.Str.ofString "_read_char"), key := PySem.Value.str (PySem.Str.ofString "_read_char") 334, val := PySem.Value.ref 66 }, { hash := PySem.PyData.keyHash P (PySem.Str.ofString "get_token"), key := PySem.Value.str (PySem.Str.ofString "get_token") 344, val := PySem.Value.ref 73 }, { hash := PySem.PyData.keyHash P (PySem.Str.ofString "push_token"), key := PySem.Value.str (PySem.Str.ofString "push_token") 352, val := PySem.Value.ref 80 }, { hash := PySem.PyData.keyHash P (PySem.Str.ofString "__static_attributes__"), key := PySem.Value.str (PySem.Str.ofString "__static_attributes__") 357, val := PySem.Value.ref 81 }, { hash := PySem.PyData.keyHash P (PySem.Str.ofString "__dict__"), key := PySem.Value.str (PySem.Str.ofString "__dict__") 359, val := PySem.Value.ref 84 }, { hash := PySem.PyData.keyHash P (PySem.Str.ofString "__weakref__"), key := PySem.Value.str (PySem.Str.ofString "__weakref__") 361, val := PySem.Value.ref 85 }, { hash := PySem.PyData.keyHash P (PySem.Str.ofString "__doc__"), key := PySem.Value.str (PySem.Str.ofString "__doc__") 362, val := PySem.Value.none }] 4 } : Obj)) ::
  (nat_lit 83, ({ cls := PySem.Value.type "type", data := PySem.Data.cls { name := PySem.Str.ofString "_netrclex", bases := [PySem.Value.type "object"], mro := [PySem.Value.ref 83, PySem.Value.type "object"], ns := 82, qualname := PySem.Str.ofString "_netrclex" }, slots := #[none, none, some (PySem.Value.str (PySem.Str.ofString "_netrclex") 307), some (PySem.Value.str (PySem.Str.ofString "_netrclex") 315), some (PySem.Value.builtin "object.__new__"), some (PySem.Value.bool true)] } : Obj)) ::
  (nat_lit 84, ({ cls := PySem.Value.type "getset_descriptor", data := PySem.Data.fields #[PySem.Value.str (PySem.Str.ofString "__dict__") 358, PySem.Value.ref 83, PySem.Value.builtin "function.__dict__", PySem.Value.builtin "function.__dict__#set"] } : Obj)) ::
  (nat_lit 85, ({ cls := PySem.Value.type "getset_descriptor", data := PySem.Data.fields #[PySem.Value.str (PySem.Str.ofString "__weakref__") 360, PySem.Value.ref 83, PySem.Value.builtin "ExceptionGroup.__weakref__", PySem.Value.none] } : Obj)) ::
  (nat_lit 91, ({ cls := PySem.Value.type "tuple", data := PySem.Data.seq #[PySem.Value.int 14 0, PySem.Value.int 14 0, PySem.Value.int 4 0, PySem.Value.int 1 0, PySem.Value.int 1 0, PySem.Value.int 9 0, PySem.Value.int 0 0, PySem.Value.int 4227896069 0, PySem.Value.int 939524097 0, PySem.Value.int 0 0, PySem.Value.int 0 0, PySem.Value.int 0 0, PySem.Value.int 0 0, PySem.Value.int 0 0, PySem.Value.int 0 0, PySem.Value.int 13 0, PySem.Value.int 11 0, PySem.Value.int 9 0, PySem.Value.int 0 0, PySem.Value.int 4227896069 0, PySem.Value.int 939524097 0, PySem.Value.int 0 0, PySem.Value.int 0 0, PySem.Value.int 0 0, PySem.Value.int 0 0, PySem.Value.int 0 0, PySem.Value.int 0 0, PySem.Value.int 1 0] } : Obj)) ::
  (nat_lit 92, ({ cls := PySem.Value.type "re.Pattern", data := PySem.Data.fields #[PySem.Value.str (PySem.Str.ofString "[ \\(\\)<>@,;:\\\\\"/\\[\\]\\?=]") 368, PySem.Value.int 32 399, PySem.Value.int 0 0, PySem.Value.none, PySem.Value.none, PySem.Value.ref 91, PySem.Value.int 0 0] } : Obj)) ::
  (nat_lit 96, ({ cls := PySem.Value.type "tuple", data := PySem.Data.seq #[PySem.Value.int 14 0, PySem.Value.int 10 0, PySem.Value.int 4 0, PySem.Value.int 1 0, PySem.Value.int 1 0, PySem.Value.int 22 0, PySem.Value.int 0 0, PySem.Value.int 31 0, PySem.Value.int 16 0, PySem.Value.int 127 0, PySem.Value.int 0 0, PySem.Value.int 13 0, PySem.Value.int 7 0, PySem.Value.int 22 0, PySem.Value.int 0 0, PySem.Value.int 31 0, PySem.Value.int 16 0, PySem.Value.int 127 0, PySem.Value.int 0 0, PySem.Value.int 1 0] } : Obj)) ::
  (nat_lit 97, ({ cls := PySem.Value.type "re.Pattern", data := PySem.Data.fields #[PySem.Value.str (PySem.Str.ofString "[\\x00-\\x1F\\x7F]") 402, PySem.Value.int 32 425, PySem.Value.int 0 0, PySem.Value.none, PySem.Value.none, PySem.Value.ref 96, PySem.Value.int 0 0] } : Obj)) ::
  (nat_lit 101, ({ cls := PySem.Value.type "tuple", data := PySem.Data.seq #[PySem.Value.int 14 0, PySem.Value.int 14 0, PySem.Value.int 4 0, PySem.Value.int 1 0, PySem.Value.int 1 0, PySem.Value.int 9 0, PySem.Value.int 4294966783 0, PySem.Value.int 0 0, PySem.Value.int 0 0, PySem.Value.int 2147483648 0, PySem.Value.int 0 0, PySem.Value.int 0 0, PySem.Value.int 0 0, PySem.Value.int 0 0, PySem.Value.int 0 0, PySem.Value.int 13 0, PySem.Value.int 11 0, PySem.Value.int 9 0, PySem.Value.int 4294966783 0, PySem.Value.int 0 0, PySem.Value.int 0 0, PySem.Value.int 2147483648 0, PySem.Value.int 0 0, PySem.Value.int 0 0, PySem.Value.int 0 0, PySem.Value.int 0 0, PySem.Value.int 0 0, PySem.Value.int 1 0] } : Obj)) ::
  (nat_lit 102, ({ cls := PySem.Value.type "re.Pattern", data := PySem.Data.fields #[PySem.Value.str (PySem.Str.ofString "[\\x00-\\x08\\x0A-\\x1F\\x7F]") 428, PySem.Value.int 32 459, PySem.Value.int 0 0, PySem.Value.none, PySem.Value.none, PySem.Value.ref 101, PySem.Value.int 0 0] } : Obj)) ::
  (nat_lit 103, ({ cls := PySem.Value.type "tuple", data := PySem.Data.seq #[PySem.Value.none, PySem.Value.int 1 461] } : Obj)) ::
  (nat_lit 104, ({ cls := PySem.Value.type "tuple", data := PySem.Data.seq #[] } : Obj)) ::
  (nat_lit 106, ({ cls := PySem.Value.type "tuple", data := PySem.Data.seq #[PySem.Value.str (PySem.Str.ofString "param") 465, PySem.Value.str (PySem.Str.ofString "value") 466, PySem.Value.str (PySem.Str.ofString "quote") 467] } : Obj)) ::
  (nat_lit 107, ({ cls := PySem.Value.type "tuple", data := PySem.Data.seq #[] } : Obj)) ::
  (nat_lit 109, ({ cls := PySem.Value.type "code", data := PySem.Data.fields #[PySem.Value.str (PySem.Str.ofString "_formatparam") 462, PySem.Value.str (PySem.Str.ofString "_formatparam") 463, PySem.Value.str (PySem.Str.ofString "/claim/cut.py") 464, PySem.Value.int 83 0, PySem.Value.int 3 0, PySem.Value.int 0 0, PySem.Value.int 0 0, PySem.Value.int 3 0, PySem.Value.ref 104, PySem.Value.bool true, PySem.Value.int 276 0, PySem.Value.ref 105, PySem.Value.none, PySem.Value.ref 106, PySem.Value.ref 107, PySem.Value.ref 108, PySem.Value.int 468 0, PySem.Value.int 83 0, PySem.Value.str (PySem.Str.ofString "/claim/cut.py") 469] } : Obj)) ::
  (nat_lit 118, ({ cls := PySem.Value.type "tuple", data := PySem.Data.seq #[PySem.Value.none] } : Obj)) ::
  (nat_lit 119, ({ cls := PySem.Value.type "tuple", data := PySem.Data.seq #[] } : Obj)) ::
  (nat_lit 121, ({ cls := PySem.Value.type "tuple", data := PySem.Data.seq #[PySem.Value.str (PySem.Str.ofString "self") 486, PySem.Value.str (PySem.Str.ofString "headers") 487, PySem.Value.str (PySem.Str.ofString "k") 488, PySem.Value.str (PySem.Str.ofString "v") 489] } : Obj)) ::
  (nat_lit 122, ({ cls := PySem.Value.type "tuple", data := PySem.Data.seq #[] } : Obj)) ::
  (nat_lit 124, ({ cls := PySem.Value.type "code", data := PySem.Data.fields #[PySem.Value.str (PySem.Str.ofString "__init__") 483, PySem.Value.str (PySem.Str.ofString "Headers.__init__") 484, PySem.Value.str (PySem.Str.ofString "/claim/cut.py") 485, PySem.Value.int 94 0, PySem.Value.int 2 0, PySem.Value.int 0 0, PySem.Value.int 0 0, PySem.Value.int 3 0, PySem.Value.ref 119, PySem.Value.bool true, PySem.Value.int 276 0, PySem.Value.ref 120, PySem.Value.none, PySem.Value.ref 121, PySem.Value.ref 122, PySem.Value.ref 123, PySem.Value.int 490 0, PySem.Value.int 94 0, PySem.Value.str (PySem.Str.ofString "/claim/cut.py") 491] } : Obj)) ::
  (nat_lit 125, ({ cls := PySem.Value.type "function", data := PySem.Data.func { name := PySem.Str.ofString "__init__", qualname := PySem.Str.ofString "Headers.__init__", params := p125, body := .stmts b125, scope := s125, globals := 3, closure := [], defaults := PySem.Value.ref 118, kwdefaults := PySem.Value.none, pyModule := PySem.Value.str (PySem.Str.ofString "cpy313.wsgiref.headers") 365, code := PySem.Value.ref 124 } } : Obj)) ::
  (nat_lit 126, ({ cls := PySem.Value.type "tuple", data := PySem.Data.seq #[] } : Obj)) ::
  (nat_lit 128, ({ cls := PySem.Value.type "tuple", data := PySem.Data.seq #[PySem.Value.str (PySem.Str.ofString "self") 496, PySem.Value.str (PySem.Str.ofString "value") 497, PySem.Value.str (PySem.Str.ofString "name") 498, PySem.Value.str (PySem.Str.ofString "regex") 499] } : Obj)) ::
  (nat_lit 129, ({ cls := PySem.Value.type "tuple", data := PySem.Data.seq #[] } : Obj)) ::
  (nat_lit 131, ({ cls := PySem.Value.type "code", data := PySem.Data.fields #[PySem.Value.str (PySem.Str.ofString "_convert_string_type") 493, PySem.Value.str (PySem.Str.ofString "Headers._convert_string_type") 494, PySem.Value.str (PySem.Str.ofString "/claim/cut.py") 495, PySem.Value.int 104 0, PySem.Value.int 2 0, PySem.Value.int 0 0, PySem.Value.int 1 0, PySem.Value.int 3 0, PySem.Value.ref 126, PySem.Value.bool true, PySem.Value.int 276 0, PySem.Value.ref 127, PySem.Value.none, PySem.Value.ref 128, PySem.Value.ref 129, PySem.Value.ref 130, PySem.Value.int 500 0, PySem.Value.int 104 0, PySem.Value.str (PySem.Str.ofString "/claim/cut.py") 501] } : Obj)) ::
  (nat_lit 132, ({ cls := PySem.Value.type "function", data := PySem.Data.func { name := PySem.Str.ofString "_convert_string_type", qualname := PySem.Str.ofString "Headers._convert_string_type", params := p132, body := .stmts b132, scope := s132, globals := 3, closure := [], defaults := PySem.Value.none, kwdefaults := PySem.Value.none, pyModule := PySem.Value.str (PySem.Str.ofString "cpy313.wsgiref.headers") 365, code := PySem.Value.ref 131 } } : Obj)) ::
  (nat_lit 133, ({ cls := PySem.Value.type "tuple", data := PySem.Data.seq #[] } : Obj)) ::
  (nat_lit 135, ({ cls := PySem.Value.type "tuple", data := PySem.Data.seq #[PySem.Value.str (PySem.Str.ofString "self") 506] } : Obj)) ::
  (nat_lit 136, ({ cls := PySem.Value.type "tuple", data := PySem.Data.seq #[] } : Obj)) ::
  (nat_lit 138, ({ cls := PySem.Value.type "code", data := PySem.Data.fields #[PySem.Value.str (PySem.Str.ofString "__len__") 503, PySem.Value.str (PySem.Str.ofString "Headers.__len__") 504, PySem.Value.str (PySem.Str.ofString "/claim/cut.py") 505, PySem.Value.int 112 0, PySem.Value.int 1 0, PySem.Value.int 0 0, PySem.Value.int 0 0, PySem.Value.int 3 0, PySem.Value.ref 133, PySem.Value.bool true, PySem.Value.int 276 0, PySem.Value.ref 134, PySem.Value.none, PySem.Value.ref 135, PySem.Value.ref 136, PySem.Value.ref 137, PySem.Value.int 507 0, PySem.Value.int 112 0, PySem.Value.str (PySem.Str.ofString "/claim/cut.py") 508] } : Obj)) ::
  (nat_lit 140, ({ cls := PySem.Value.type "tuple", data := PySem.Data.seq #[] } : Obj)) ::
  (nat_lit 142, ({ cls := PySem.Value.type "tuple", data := PySem.Data.seq #[PySem.Value.str (PySem.Str.ofString "self") 513, PySem.Value.str (PySem.Str.ofString "name") 514, PySem.Value.str (PySem.Str.ofString "val") 515] } : Obj)) ::
  (nat_lit 143, ({ cls := PySem.Value.type "tuple", data := PySem.Data.seq #[] } : Obj)) ::
  (nat_lit 145, ({ cls := PySem.Value.type "code", data := PySem.Data.fields #[PySem.Value.str (PySem.Str.ofString "__setitem__") 510, PySem.Value.str (PySem.Str.ofString "Headers.__setitem__") 511, PySem.Value.str (PySem.Str.ofString "/claim/cut.py") 512, PySem.Value.int 115 0, PySem.Value.int 3 0, PySem.Value.int 0 0, PySem.Value.int 0 0, PySem.Value.int 3 0, PySem.Value.ref 140, PySem.Value.bool true, PySem.Value.int 276 0, PySem.Value.ref 141, PySem.Value.none, PySem.Value.ref 142, PySem.Value.ref 143, PySem.Value.ref 144, PySem.Value.int 516 0, PySem.Value.int 115 0, PySem.Value.str (PySem.Str.ofString "/claim/cut.py") 517] } : Obj)) ::
  (nat_lit 147, ({ cls := PySem.Value.type "tuple", data := PySem.Data.seq #[] } : Obj)) ::
  (nat_lit 150, ({ cls := PySem.Value.type "code", data := PySem.Data.fields #[PySem.Value.str (PySem.Str.ofString "__delitem__") 519, PySem.Value.str (PySem.Str.ofString "Headers.__delitem__") 520, PySem.Value.str (PySem.Str.ofString "/claim/cut.py") 521, PySem.Value.int 119 0, PySem.Value.int 2 0, PySem.Value.int 0 0, PySem.Value.int 0 0, PySem.Value.int 3 0, PySem.Value.ref 147, PySem.Value.bool true, PySem.Value.int 276 0, PySem.Value.ref 148, PySem.Value.none, PySem.Value.none, PySem.Value.none, PySem.Value.ref 149, PySem.Value.int 522 0, PySem.Value.int 119 0, PySem.Value.str (PySem.Str.ofString "/claim/cut.py") 523] } : Obj)) ::
  (nat_lit 152, ({ cls := PySem.Value.type "tuple", data := PySem.Data.seq #[] } : Obj)) ::
  (nat_lit 154, ({ cls := PySem.Value.type "tuple", data := PySem.Data.seq #[PySem.Value.str (PySem.Str.ofString "self") 528, PySem.Value.str (PySem.Str.ofString "name") 529] } : Obj)) ::
  (nat_lit 155, ({ cls := PySem.Value.type "tuple", data := PySem.Data.seq #[] } : Obj)) ::
  (nat_lit 157, ({ cls := PySem.Value.type "code", data := PySem.Data.fields #[PySem.Value.str (PySem.Str.ofString "__getitem__") 525, PySem.Value.str (PySem.Str.ofString "Headers.__getitem__") 526, PySem.Value.str (PySem.Str.ofString "/claim/cut.py") 527, PySem.Value.int 123 0, PySem.Value.int 2 0, PySem.Value.int 0 0, PySem.Value.int 0 0, PySem.Value.int 3 0, PySem.Value.ref 152, PySem.Value.bool true, PySem.Value.int 276 0, PySem.Value.ref 153, PySem.Value.none, PySem.Value.ref 154, PySem.Value.ref 155, PySem.Value.ref 156, PySem.Value.int 530 0, PySem.Value.int 123 0, PySem.Value.str (PySem.Str.ofString "/claim/cut.py") 531] } : Obj)) ::
  (nat_lit 159, ({ cls := PySem.Value.type "tuple", data := PySem.Data.seq #[] } : Obj)) ::
  (nat_lit 161, ({ cls := PySem.Value.type "tuple", data := PySem.Data.seq #[PySem.Value.str (PySem.Str.ofString "self") 536, PySem.Value.str (PySem.Str.ofString "name") 537] } : Obj)) ::
  (nat_lit 162, ({ cls := PySem.Value.type "tuple", data := PySem.Data.seq #[] } : Obj)) ::
  (nat_lit 164, ({ cls := PySem.Value.type "code", data := PySem.Data.fields #[PySem.Value.str (PySem.Str.ofString "__contains__") 533, PySem.Value.str (PySem.Str.ofString "Headers.__contains__") 534, PySem.Value.str (PySem.Str.ofString "/claim/cut.py") 535, PySem.Value.int 126 0, PySem.Value.int 2 0, PySem.Value.int 0 0, PySem.Value.int 0 0, PySem.Value.int 3 0, PySem.Value.ref 159, PySem.Value.bool true, PySem.Value.int 276 0, PySem.Value.ref 160, PySem.Value.none, PySem.Value.ref 161, PySem.Value.ref 162, PySem.Value.ref 163, PySem.Value.int 538 0, PySem.Value.int 126 0, PySem.Value.str (PySem.Str.ofString "/claim/cut.py") 539] } : Obj)) ::
  (nat_lit 166, ({ cls := PySem.Value.type "tuple", data := PySem.Data.seq #[] } : Obj)) ::
  (nat_lit 168, ({ cls := PySem.Value.type "tuple", data := PySem.Data.seq #[PySem.Value.str (PySem.Str.ofString "self") 544, PySem.Value.str (PySem.Str.ofString "name") 545] } : Obj)) ::
  (nat_lit 169, ({ cls := PySem.Value.type "tuple", data := PySem.Data.seq #[] } : Obj)) ::
  (nat_lit 171, ({ cls := PySem.Value.type "code", data := PySem.Data.fields #[PySem.Value.str (PySem.Str.ofString "get_all") 541, PySem.Value.str (PySem.Str.ofString "Headers.get_all") 542, PySem.Value.str (PySem.Str.ofString "/claim/cut.py") 543, PySem.Value.int 129 0, PySem.Value.int 2 0, PySem.Value.int 0 0, PySem.Value.int 0 0, PySem.Value.int 3 0, PySem.Value.ref 166, PySem.Value.bool true, PySem.Value.int 276 0, PySem.Value.ref 167, PySem.Value.none, PySem.Value.ref 168, PySem.Value.ref 169, PySem.Value.ref 170, PySem.Value.int 546 0, PySem.Value.int 129 0, PySem.Value.str (PySem.Str.ofString "/claim/cut.py") 547] } : Obj)) ::
  (nat_lit 173, ({ cls := PySem.Value.type "tuple", data := PySem.Data.seq #[PySem.Value.none] } : Obj)) ::
  (nat_lit 174, ({ cls := PySem.Value.type "tuple", data := PySem.Data.seq #[] } : Obj)) ::
  (nat_lit 176, ({ cls := PySem.Value.type "tuple", data := PySem.Data.seq #[PySem.Value.str (PySem.Str.ofString "self") 552, PySem.Value.str (PySem.Str.ofString "name") 553, PySem.Value.str (PySem.Str.ofString "default") 554, PySem.Value.str (PySem.Str.ofString "k") 555, PySem.Value.str (PySem.Str.ofString "v") 556] } : Obj)) ::
  (nat_lit 177, ({ cls := PySem.Value.type "tuple", data := PySem.Data.seq #[] } : Obj)) ::
  (nat_lit 179, ({ cls := PySem.Value.type "code", data := PySem.Data.fields #[PySem.Value.str (PySem.Str.ofString "get") 549, PySem.Value.str (PySem.Str.ofString "Headers.get") 550, PySem.Value.str (PySem.Str.ofString "/claim/cut.py") 551, PySem.Value.int 132 0, PySem.Value.int 3 0, PySem.Value.int 0 0, PySem.Value.int 0 0, PySem.Value.int 3 0, PySem.Value.ref 174, PySem.Value.bool true, PySem.Value.int 276 0, PySem.Value.ref 175, PySem.Value.none, PySem.Value.ref 176, PySem.Value.ref 177, PySem.Value.ref 178, PySem.Value.int 557 0, PySem.Value.int 132 0, PySem.Value.str (PySem.Str.ofString "/claim/cut.py") 558] } : Obj)) ::
  (nat_lit 180, ({ cls := PySem.Value.type "function", data := PySem.Data.func { name := PySem.Str.ofString "get", qualname := PySem.Str.ofString "Headers.get", params := p180, body := .stmts b180, scope := s180, globals := 3, closure := [], defaults := PySem.Value.ref 173, kwdefaults := PySem.Value.none, pyModule := PySem.Value.str (PySem.Str.ofString "cpy313.wsgiref.headers") 365, code := PySem.Value.ref 179 } } : Obj)) ::
  (nat_lit 181, ({ cls := PySem.Value.type "tuple", data := PySem.Data.seq #[] } : Obj)) ::
  (nat_lit 184, ({ cls := PySem.Value.type "code", data := PySem.Data.fields #[PySem.Value.str (PySem.Str.ofString "keys") 560, PySem.Value.str (PySem.Str.ofString "Headers.keys") 561, PySem.Value.str (PySem.Str.ofString "/claim/cut.py") 562, PySem.Value.int 139 0, PySem.Value.int 1 0, PySem.Value.int 0 0, PySem.Value.int 0 0, PySem.Value.int 3 0, PySem.Value.ref 181, PySem.Value.bool true, PySem.Value.int 276 0, PySem.Value.ref 182, PySem.Value.none, PySem.Value.none, PySem.Value.none, PySem.Value.ref 183, PySem.Value.int 563 0, PySem.Value.int 139 0, PySem.Value.str (PySem.Str.ofString "/claim/cut.py") 564] } : Obj)) ::
  (nat_lit 186, ({ cls := PySem.Value.type "tuple", data := PySem.Data.seq #[] } : Obj)) ::
  (nat_lit 189, ({ cls := PySem.Value.type "code", data := PySem.Data.fields #[PySem.Value.str (PySem.Str.ofString "values") 566, PySem.Value.str (PySem.Str.ofString "Headers.values") 567, PySem.Value.str (PySem.Str.ofString "/claim/cut.py") 568, PySem.Value.int 142 0, PySem.Value.int 1 0, PySem.Value.int 0 0, PySem.Value.int 0 0, PySem.Value.int 3 0, PySem.Value.ref 186, PySem.Value.bool true, PySem.Value.int 276 0, PySem.Value.ref 187, PySem.Value.none, PySem.Value.none, PySem.Value.none, PySem.Value.ref 188, PySem.Value.int 569 0, PySem.Value.int 142 0, PySem.Value.str (PySem.Str.ofString "/claim/cut.py") 570] } : Obj)) ::
  (nat_lit 191, ({ cls := PySem.Value.type "tuple", data := PySem.Data.seq #[] } : Obj)) ::
  (nat_lit 193, ({ cls := PySem.Value.type "tuple", data := PySem.Data.seq #[PySem.Value.str (PySem.Str.ofString "self") 575] } : Obj)) ::
  (nat_lit 194, ({ cls := PySem.Value.type "tuple", data := PySem.Data.seq #[] } : Obj)) ::
  (nat_lit 196, ({ cls := PySem.Value.type "code", data := PySem.Data.fields #[PySem.Value.str (PySem.Str.ofString "items") 572, PySem.Value.str (PySem.Str.ofString "Headers.items") 573, PySem.Value.str (PySem.Str.ofString "/claim/cut.py") 574, PySem.Value.int 145 0, PySem.Value.int 1 0, PySem.Value.int 0 0, PySem.Value.int 0 0, PySem.Value.int 3 0, PySem.Value.ref 191, PySem.Value.bool true, PySem.Value.int 276 0, PySem.Value.ref 192, PySem.Value.none, PySem.Value.ref 193, PySem.Value.ref 194, PySem.Value.ref 195, PySem.Value.int 576 0, PySem.Value.int 145 0, PySem.Value.str (PySem.Str.ofString "/claim/cut.py") 577] } : Obj)) ::
  (nat_lit 197, ({ cls := PySem.Value.type "function", data := PySem.Data.func { name := PySem.Str.ofString "items", qualname := PySem.Str.ofString "Headers.items", params := p197, body := .stmts b197, scope := s197, globals := 3, closure := [], defaults := PySem.Value.none, kwdefaults := PySem.Value.none, pyModule := PySem.Value.str (PySem.Str.ofString "cpy313.wsgiref.headers") 365, code := PySem.Value.ref 196 } } : Obj)) ::
  (nat_lit 198, ({ cls := PySem.Value.type "tuple", data := PySem.Data.seq #[] } : Obj)) ::
  (nat_lit 200, ({ cls := PySem.Value.type "tuple", data := PySem.Data.seq #[PySem.Value.str (PySem.Str.ofString "self") 582] } : Obj)) ::
  (nat_lit 201, ({ cls := PySem.Value.type "tuple", data := PySem.Data.seq #[] } : Obj)) ::
  (nat_lit 203, ({ cls := PySem.Value.type "code", data := PySem.Data.fields #[PySem.Value.str (PySem.Str.ofString "__repr__") 579, PySem.Value.str (PySem.Str.ofString "Headers.__repr__") 580, PySem.Value.str (PySem.Str.ofString "/claim/cut.py") 581, PySem.Value.int 148 0, PySem.Value.int 1 0, PySem.Value.int 0 0, PySem.Value.int 0 0, PySem.Value.int 3 0, PySem.Value.ref 198, PySem.Value.bool true, PySem.Value.int 276 0, PySem.Value.ref 199, PySem.Value.none, PySem.Value.ref 200, PySem.Value.ref 201, PySem.Value.ref 202, PySem.Value.int 583 0, PySem.Value.int 148 0, PySem.Value.str (PySem.Str.ofString "/claim/cut.py") 584] } : Obj)) ::
  (nat_lit 205, ({ cls := PySem.Value.type "tuple", data := PySem.Data.seq #[] } : Obj)) ::
  (nat_lit 208, ({ cls := PySem.Value.type "code", data := PySem.Data.fields #[PySem.Value.str (PySem.Str.ofString "__str__") 586, PySem.Value.str (PySem.Str.ofString "Headers.__str__") 587, PySem.Value.str (PySem.Str.ofString "/claim/cut.py") 588, PySem.Value.int 151 0, PySem.Value.int 1 0, PySem.Value.int 0 0, PySem.Value.int 0 0, PySem.Value.int 3 0, PySem.Value.ref 205, PySem.Value.bool true, PySem.Value.int 276 0, PySem.Value.ref 206, PySem.Value.none, PySem.Value.none, PySem.Value.none, PySem.Value.ref 207, PySem.Value.int 589 0, PySem.Value.int 151 0, PySem.Value.str (PySem.Str.ofString "/claim/cut.py") 590] } : Obj)) ::
  (nat_lit 210, ({ cls := PySem.Value.type "tuple", data := PySem.Data.seq #[] } : Obj)) ::
  (nat_lit 212, ({ cls := PySem.Value.type "tuple", data := PySem.Data.seq #[PySem.Value.str (PySem.Str.ofString "self") 595] } : Obj)) ::
  (nat_lit 213, ({ cls := PySem.Value.type "tuple", data := PySem.Data.seq #[] } : Obj)) ::
  (nat_lit 215, ({ cls := PySem.Value.type "code", data := PySem.Data.fields #[PySem.Value.str (PySem.Str.ofString "__bytes__") 592, PySem.Value.str (PySem.Str.ofString "Headers.__bytes__") 593, PySem.Value.str (PySem.Str.ofString "/claim/cut.py") 594, PySem.Value.int 154 0, PySem.Value.int 1 0, PySem.Value.int 0 0, PySem.Value.int 0 0, PySem.Value.int 3 0, PySem.Value.ref 210, PySem.Value.bool true, PySem.Value.int 276 0, PySem.Value.ref 211, PySem.Value.none, PySem.Value.ref 212, PySem.Value.ref 213, PySem.Value.ref 214, PySem.Value.int 596 0, PySem.Value.int 154 0, PySem.Value.str (PySem.Str.ofString "/claim/cut.py") 597] } : Obj)) ::
  (nat_lit 217, ({ cls := PySem.Value.type "tuple", data := PySem.Data.seq #[] } : Obj)) ::
  (nat_lit 219, ({ cls := PySem.Value.type "tuple", data := PySem.Data.seq #[PySem.Value.str (PySem.Str.ofString "self") 602, PySem.Value.str (PySem.Str.ofString "name") 603, PySem.Value.str (PySem.Str.ofString "value") 604] } : Obj)) ::
  (nat_lit 220, ({ cls := PySem.Value.type "tuple", data := PySem.Data.seq #[] } : Obj)) ::
  (nat_lit 222, ({ cls := PySem.Value.type "code", data := PySem.Data.fields #[PySem.Value.str (PySem.Str.ofString "setdefault") 599, PySem.Value.str (PySem.Str.ofString "Headers.setdefault") 600, PySem.Value.str (PySem.Str.ofString "/claim/cut.py") 601, PySem.Value.int 157 0, PySem.Value.int 3 0, PySem.Value.int 0 0, PySem.Value.int 0 0, PySem.Value.int 3 0, PySem.Value.ref 217, PySem.Value.bool true, PySem.Value.int 276 0, PySem.Value.ref 218, PySem.Value.none, PySem.Value.ref 219, PySem.Value.ref 220, PySem.Value.ref 221, PySem.Value.int 605 0, PySem.Value.int 157 0, PySem.Value.str (PySem.Str.ofString "/claim/cut.py") 606] } : Obj)) ::
  (nat_lit 224, ({ cls := PySem.Value.type "tuple", data := PySem.Data.seq #[] } : Obj)) ::
  (nat_lit 226, ({ cls := PySem.Value.type "tuple", data := PySem.Data.seq #[PySem.Value.str (PySem.Str.ofString "self") 611, PySem.Value.str (PySem.Str.ofString "_name") 612, PySem.Value.str (PySem.Str.ofString "_value") 613, PySem.Value.str (PySem.Str.ofString "_params") 614, PySem.Value.str (PySem.Str.ofString "parts") 615, PySem.Value.str (PySem.Str.ofString "k") 616, PySem.Value.str (PySem.Str.ofString "v") 617] } : Obj)) ::
  (nat_lit 227, ({ cls := PySem.Value.type "tuple", data := PySem.Data.seq #[] } : Obj)) ::
  (nat_lit 229, ({ cls := PySem.Value.type "code", data := PySem.Data.fields #[PySem.Value.str (PySem.Str.ofString "add_header") 608, PySem.Value.str (PySem.Str.ofString "Headers.add_header") 609, PySem.Value.str (PySem.Str.ofString "/claim/cut.py") 610, PySem.Value.int 160 0, PySem.Value.int 3 0, PySem.Value.int 0 0, PySem.Value.int 0 0, PySem.Value.int 11 0, PySem.Value.ref 224, PySem.Value.bool true, PySem.Value.int 276 0, PySem.Value.ref 225, PySem.Value.none, PySem.Value.ref 226, PySem.Value.ref 227, PySem.Value.ref 228, PySem.Value.int 618 0, PySem.Value.int 160 0, PySem.Value.str (PySem.Str.ofString "/claim/cut.py") 619] } : Obj)) ::
  (nat_lit 230, ({ cls := PySem.Value.type "function", data := PySem.Data.func { name := PySem.Str.ofString "add_header", qualname := PySem.Str.ofString "Headers.add_header", params := p230, body := .stmts b230, scope := s230, globals := 3, closure := [], defaults := PySem.Value.none, kwdefaults := PySem.Value.none, pyModule := PySem.Value.str (PySem.Str.ofString "cpy313.wsgiref.headers") 365, code := PySem.Value.ref 229 } } : Obj)) ::
  (nat_lit 231, ({ cls := PySem.Value.type "tuple", data := PySem.Data.seq #[PySem.Value.str (PySem.Str.ofString "_headers") 621] } : Obj)) ::
  (nat_lit 232, ({ cls := PySem.Value.type "dict", data := PySem.Data.dict #[{ hash := PySem.PyData.keyHash P (PySem.Str.ofString "__module__"), key := PySem.Value.str (PySem.Str.ofString "__module__") 478, val := PySem.Value.str (PySem.Str.ofString "cpy313.wsgiref.headers") 365 }, { hash := PySem.PyData.keyHash P (PySem.Str.ofString "__firstlineno__"), key := PySem.Value.str (PySem.Str.ofString "__firstlineno__") 482, val := PySem.Value.int 92 481 }, { hash := PySem.PyData.keyHash P (PySem.Str.ofString "__init__"), key := PySem.Value.str (PySem.Str.ofString "__init__") 492, val := PySem.Value.ref 125 }, { hash := PySem.PyData.keyHash P (PySem.Str.ofString "_convert_string_type"), key := PySem.Value.str (PySem.Str.ofString "_convert_string_type") 502, val := PySem.Value.ref 132 }, { hash := PySem.PyData.keyHash P (PySem.Str.ofString "__len__"), key := PySem.Value.str (PySem.Str.ofString "__len__") 509, val := PySem.Value.ref 139 }, { hash := PySem.PyData.keyHash P (PySem.Str.ofString "__setitem__"), key := PySem.Value.str (PySem.Str.ofString "__setitem__") 518, val := PySem.Value.ref 146 }, { hash := PySem.PyData.keyHash P (PySem.Str.ofString "__delitem__"), key := PySem.Value.str (PySem.Str.ofString "__delitem__") 524, val := PySem.Value.ref 151 }, { hash := PySem.PyData.keyHash P (PySem.Str.ofString "__getitem__"), key := PySem.Value.str (PySem.Str.ofString "__getitem__") 532, val := PySem.Value.ref 158 }, { hash := PySem.PyData.keyHash P (PySem.Str.ofString "__contains__"), key := PySem.Value.str (PySem.Str.ofString "__contains__") 540, val := PySem.Value.ref 165 }, { hash := PySem.PyData.keyHash P (PySem.Str.ofString "get_all"), key := PySem.Value.str (PySem.Str.ofString "get_all") 548, val := PySem.Value.ref 172 }, { hash := PySem.PyData.keyHash P (PySem.Str.ofString "get"), key := PySem.Value.str (PySem.Str.ofString "get") 559, val := PySem.Value.ref 180 }, { hash := PySem.PyData.keyHash P (PySem.Str.ofString "keys"), key := PySem.Value.str (PySem.Str.ofString "keys") 565, val := PySem.Value.ref 185 }, { hash := PySem.PyData.keyHash P (PySem.Str.ofString "values"), key := PySem.Value.str (PySem.Str.ofString "values") 571, val := PySem.Value.ref 190 }, { hash := PySem.PyData.keyHash P (PySem.Str.ofString "items"), key := PySem.Value.str (PySem.Str.ofString "items") 578, val := PySem.Value.ref 197 }, { hash := PySem.PyData.keyHash P (PySem.Str.ofString "__repr__"), key := PySem.Value.str (PySem.Str.ofString "__repr__") 585, val := PySem.Value.ref 204 }, { hash := PySem.PyData.keyHash P (PySem.Str.ofString "__str__"), key := PySem.Value.str (PySem.Str.ofString "__str__") 591, val := PySem.Value.ref 209 }, { hash := PySem.PyData.keyHash P (PySem.Str.ofString "__bytes__"), key := PySem.Value.str (PySem.Str.ofString "__bytes__") 598, val := PySem.Value.ref 216 }, { hash := PySem.PyData.keyHash P (PySem.Str.ofString "setdefault"), key := PySem.Value.str (PySem.Str.ofString "setdefault") 607, val := PySem.Value.ref 223 }, { hash := PySem.PyData.keyHash P (PySem.Str.ofString "add_header"), key := PySem.Value.str (PySem.Str.ofString "add_header") 620, val := PySem.Value.ref 230 }, { hash := PySem.PyData.keyHash P (PySem.Str.ofString "__static_attributes__"), key := PySem.Value.str (PySem.Str.ofString "__static_attributes__") 622, val := PySem.Value.ref 231 }, { hash := PySem.PyData.keyHash P (PySem.Str.ofString "__dict__"), key := PySem.Value.str (PySem.Str.ofString "__dict__") 624, val := PySem.Value.ref 234 }, { hash := PySem.PyData.keyHash P (PySem.Str.ofString "__weakref__"), key := PySem.Value.str (PySem.Str.ofString "__weakref__") 626, val := PySem.Value.ref 235 }, { hash := PySem.PyData.keyHash P (PySem.Str.ofString "__doc__"), key := PySem.Value.str (PySem.Str.ofString "__doc__") 627, val := PySem.Value.none }] 4 } : Obj)) ::
  (nat_lit 233, ({ cls := PySem.Value.type "type", data := PySem.Data.cls { name := PySem.Str.ofString "Headers", bases := [PySem.Value.type "object"], mro := [PySem.Value.ref 233, PySem.Value.type "object"], ns := 232, qualname := PySem.Str.ofString "Headers" }, slots := #[none, none, some (PySem.Value.str (PySem.Str.ofString "Headers") 471), some (PySem.Value.str (PySem.Str.ofString "Headers") 479), some (PySem.Value.builtin "object.__new__"), some (PySem.Value.bool true)] } : Obj)) ::
  (nat_lit 234, ({ cls := PySem.Value.type "getset_descriptor", data := PySem.Data.fields #[PySem.Value.str (PySem.Str.ofString "__dict__") 623, PySem.Value.ref 233, PySem.Value.builtin "function.__dict__", PySem.Value.builtin "function.__dict__#set"] } : Obj)) ::
  (nat_lit 235, ({ cls := PySem.Value.type "getset_descriptor", data := PySem.Data.fields #[PySem.Value.str (PySem.Str.ofString "__weakref__") 625, PySem.Value.ref 233, PySem.Value.builtin "ExceptionGroup.__weakref__", PySem.Value.none] } : Obj)) ::
  (nat_lit 238, ({ cls := PySem.Value.type "tuple", data := PySem.Data.seq #[] } : Obj)) ::
  (nat_lit 240, ({ cls := PySem.Value.type "tuple", data := PySem.Data.seq #[PySem.Value.str (PySem.Str.ofString "text") 635, PySem.Value.str (PySem.Str.ofString "stream") 636, PySem.Value.str (PySem.Str.ofString "_law_next") 637] } : Obj)) ::
  (nat_lit 241, ({ cls := PySem.Value.type "tuple", data := PySem.Data.seq #[PySem.Value.str (PySem.Str.ofString "left") 638] } : Obj)) ::
  (nat_lit 243, ({ cls := PySem.Value.type "code", data := PySem.Data.fields #[PySem.Value.str (PySem.Str.ofString "_law_lexer") 632, PySem.Value.str (PySem.Str.ofString "_law_lexer") 633, PySem.Value.str (PySem.Str.ofString "/claim/cut.py") 634, PySem.Value.int 174 0, PySem.Value.int 1 0, PySem.Value.int 0 0, PySem.Value.int 0 0, PySem.Value.int 3 0, PySem.Value.ref 238, PySem.Value.bool true, PySem.Value.int 276 0, PySem.Value.ref 239, PySem.Value.none, PySem.Value.ref 240, PySem.Value.ref 241, PySem.Value.ref 242, PySem.Value.int 639 0, PySem.Value.int 174 0, PySem.Value.str (PySem.Str.ofString "/claim/cut.py") 640] } : Obj)) ::
  (nat_lit 244, ({ cls := PySem.Value.type "function", data := PySem.Data.func { name := PySem.Str.ofString "_law_lexer", qualname := PySem.Str.ofString "_law_lexer", params := p244, body := .stmts b244, scope := s244, globals := 3, closure := [], defaults := PySem.Value.none, kwdefaults := PySem.Value.none, pyModule := PySem.Value.str (PySem.Str.ofString "law_pg0279_02") 630, code := PySem.Value.ref 243 } } : Obj)) ::
  (nat_lit 245, ({ cls := PySem.Value.type "tuple", data := PySem.Data.seq #[] } : Obj)) ::
  (nat_lit 248, ({ cls := PySem.Value.type "code", data := PySem.Data.fields #[PySem.Value.str (PySem.Str.ofString "_law_ends") 642, PySem.Value.str (PySem.Str.ofString "_law_ends") 643, PySem.Value.str (PySem.Str.ofString "/claim/cut.py") 644, PySem.Value.int 182 0, PySem.Value.int 2 0, PySem.Value.int 0 0, PySem.Value.int 0 0, PySem.Value.int 3 0, PySem.Value.ref 245, PySem.Value.bool true, PySem.Value.int 276 0, PySem.Value.ref 246, PySem.Value.none, PySem.Value.none, PySem.Value.none, PySem.Value.ref 247, PySem.Value.int 645 0, PySem.Value.int 182 0, PySem.Value.str (PySem.Str.ofString "/claim/cut.py") 646] } : Obj)) ::
  (nat_lit 249, ({ cls := PySem.Value.type "function", data := PySem.Data.func { name := PySem.Str.ofString "_law_ends", qualname := PySem.Str.ofString "_law_ends", params := p249, body := .stmts b249, scope := s249, globals := 3, closure := [], defaults := PySem.Value.none, kwdefaults := PySem.Value.none, pyModule := PySem.Value.str (PySem.Str.ofString "law_pg0279_02") 630, code := PySem.Value.ref 248 } } : Obj)) ::
  (nat_lit 250, ({ cls := PySem.Value.type "tuple", data := PySem.Data.seq #[] } : Obj)) ::
  (nat_lit 252, ({ cls := PySem.Value.type "tuple", data := PySem.Data.seq #[PySem.Value.str (PySem.Str.ofString "rules") 651, PySem.Value.str (PySem.Str.ofString "word") 652, PySem.Value.str (PySem.Str.ofString "turn") 653, PySem.Value.str (PySem.Str.ofString "pair") 654, PySem.Value.str (PySem.Str.ofString "put") 655] } : Obj)) ::
  (nat_lit 253, ({ cls := PySem.Value.type "tuple", data := PySem.Data.seq #[] } : Obj)) ::
  (nat_lit 255, ({ cls := PySem.Value.type "code", data := PySem.Data.fields #[PySem.Value.str (PySem.Str.ofString "_law_plain") 648, PySem.Value.str (PySem.Str.ofString "_law_plain") 649, PySem.Value.str (PySem.Str.ofString "/claim/cut.py") 650, PySem.Value.int 197 0, PySem.Value.int 2 0, PySem.Value.int 0 0, PySem.Value.int 0 0, PySem.Value.int 3 0, PySem.Value.ref 250, PySem.Value.bool true, PySem.Value.int 276 0, PySem.Value.ref 251, PySem.Value.none, PySem.Value.ref 252, PySem.Value.ref 253, PySem.Value.ref 254, PySem.Value.int 656 0, PySem.Value.int 197 0, PySem.Value.str (PySem.Str.ofString "/claim/cut.py") 657] } : Obj)) ::
  (nat_lit 256, ({ cls := PySem.Value.type "function", data := PySem.Data.func { name := PySem.Str.ofString "_law_plain", qualname := PySem.Str.ofString "_law_plain", params := p256, body := .stmts b256, scope := s256, globals := 3, closure := [], defaults := PySem.Value.none, kwdefaults := PySem.Value.none, pyModule := PySem.Value.str (PySem.Str.ofString "law_pg0279_02") 630, code := PySem.Value.ref 255 } } : Obj)) ::
  (nat_lit 257, ({ cls := PySem.Value.type "tuple", data := PySem.Data.seq #[] } : Obj)) ::
  (nat_lit 259, ({ cls := PySem.Value.type "tuple", data := PySem.Data.seq #[PySem.Value.str (PySem.Str.ofString "rules") 662, PySem.Value.str (PySem.Str.ofString "pair") 663, PySem.Value.str (PySem.Str.ofString "put") 664, PySem.Value.str (PySem.Str.ofString "other") 665, PySem.Value.str (PySem.Str.ofString "laid") 666] } : Obj)) ::
  (nat_lit 260, ({ cls := PySem.Value.type "tuple", data := PySem.Data.seq #[] } : Obj)) ::
  (nat_lit 262, ({ cls := PySem.Value.type "code", data := PySem.Data.fields #[PySem.Value.str (PySem.Str.ofString "_law_agree") 659, PySem.Value.str (PySem.Str.ofString "_law_agree") 660, PySem.Value.str (PySem.Str.ofString "/claim/cut.py") 661, PySem.Value.int 202 0, PySem.Value.int 1 0, PySem.Value.int 0 0, PySem.Value.int 0 0, PySem.Value.int 3 0, PySem.Value.ref 257, PySem.Value.bool true, PySem.Value.int 276 0, PySem.Value.ref 258, PySem.Value.none, PySem.Value.ref 259, PySem.Value.ref 260, PySem.Value.ref 261, PySem.Value.int 667 0, PySem.Value.int 202 0, PySem.Value.str (PySem.Str.ofString "/claim/cut.py") 668] } : Obj)) ::
  (nat_lit 263, ({ cls := PySem.Value.type "function", data := PySem.Data.func { name := PySem.Str.ofString "_law_agree", qualname := PySem.Str.ofString "_law_agree", params := p263, body := .stmts b263, scope := s263, globals := 3, closure := [], defaults := PySem.Value.none, kwdefaults := PySem.Value.none, pyModule := PySem.Value.str (PySem.Str.ofString "law_pg0279_02") 630, code := PySem.Value.ref 262 } } : Obj)) ::
  (nat_lit 264, ({ cls := PySem.Value.type "tuple", data := PySem.Data.seq #[] } : Obj)) ::
  (nat_lit 267, ({ cls := PySem.Value.type "code", data := PySem.Data.fields #[PySem.Value.str (PySem.Str.ofString "law") 670, PySem.Value.str (PySem.Str.ofString "law") 671, PySem.Value.str (PySem.Str.ofString "/claim/cut.py") 672, PySem.Value.int 208 0, PySem.Value.int 1 0, PySem.Value.int 0 0, PySem.Value.int 0 0, PySem.Value.int 3 0, PySem.Value.ref 264, PySem.Value.bool true, PySem.Value.int 276 0, PySem.Value.ref 265, PySem.Value.none, PySem.Value.none, PySem.Value.none, PySem.Value.ref 266, PySem.Value.int 673 0, PySem.Value.int 208 0, PySem.Value.str (PySem.Str.ofString "/claim/cut.py") 674] } : Obj)) ::
  (nat_lit 268, ({ cls := PySem.Value.type "function", data := PySem.Data.func { name := PySem.Str.ofString "law", qualname := PySem.Str.ofString "law", params := p268, body := .stmts b268, scope := s268, globals := 3, closure := [], defaults := PySem.Value.none, kwdefaults := PySem.Value.none, pyModule := PySem.Value.str (PySem.Str.ofString "law_pg0279_02") 630, code := PySem.Value.ref 267 } } : Obj)) :: []
noncomputable def asX : List Addr := [2, 3, 32, 34, 35, 37, 39, 41, 42, 44, 45, 53, 55, 56, 58, 59, 60, 62, 63, 65, 66, 67, 69, 70, 72, 73, 74, 76, 77, 79, 80, 81, 82, 83, 84, 85, 91, 92, 96, 97, 101, 102, 103, 104, 106, 107, 109, 118, 119, 121, 122, 124, 125, 126, 128, 129, 131, 132, 133, 135, 136, 138, 140, 142, 143, 145, 147, 150, 152, 154, 155, 157, 159, 161, 162, 164, 166, 168, 169, 171, 173, 174, 176, 177, 179, 180, 181, 184, 186, 189, 191, 193, 194, 196, 197, 198, 200, 201, 203, 205, 208, 210, 212, 213, 215, 217, 219, 220, 222, 224, 226, 227, 229, 230, 231, 232, 233, 234, 235, 238, 240, 241, 243, 244, 245, 248, 249, 250, 252, 253, 255, 256, 257, 259, 260, 262, 263, 264, 267, 268]
set_option maxRecDepth 100000 in
noncomputable def vwX : Program := by
  refine (?f : ∀ (t0 : Stmt) (_ : atS 0 = t0) (t1 : Stmt) (_ : atS 1 = t1) (t3 : Stmt) (_ : atS 3 = t3) (t4 : Stmt) (_ : atS 4 = t4) (t6 : Stmt) (_ : atS 6 = t6) (t8 : Stmt) (_ : atS 8 = t8) (t9 : Stmt) (_ : atS 9 = t9) (t10 : Stmt) (_ : atS 10 = t10) (t12 : Stmt) (_ : atS 12 = t12) (t14 : Stmt) (_ : atS 14 = t14) (t15 : Stmt) (_ : atS 15 = t15) (t16 : Stmt) (_ : atS 16 = t16) (t17 : Stmt) (_ : atS 17 = t17) (t18 : Stmt) (_ : atS 18 = t18), Program) _ (by conv => lhs; whnf) _ (by conv => lhs; whnf) _ (by conv => lhs; whnf) _ (by conv => lhs; whnf) _ (by conv => lhs; whnf) _ (by conv => lhs; whnf) _ (by conv => lhs; whnf) _ (by conv => lhs; whnf) _ (by conv => lhs; whnf) _ (by conv => lhs; whnf) _ (by conv => lhs; whnf) _ (by conv => lhs; whnf) _ (by conv => lhs; whnf) _ (by conv => lhs; whnf)
  exact fun t0 _ t1 _ t3 _ t4 _ t6 _ t8 _ t9 _ t10 _ t12 _ t14 _ t15 _ t16 _ t17 _ t18 _ => { PySem.Challenge.pw_pg0279_02 with main := { PySem.Challenge.pw_pg0279_02.main with body := [t0, t1, t3, t4, t6, t8, t9, t10, t12, t14, t15, t16, t17, t18] } }
theorem asEX : ∀ P, asX = (KX P).map (·.1) := fun _ => by kernel_rfl
section PHD
theorem still_HD : True := by
  w_top off
  trivial
abbrev L4 : List Str := [Str.ofString "tspecials", Str.ofString "_name_disallowed_re", Str.ofString "_value_disallowed_re", Str.ofString "_formatparam"]
theorem saidX : PySem.Challenge.rw_pg0279_02.wellSaid = true := by decide +kernel
set_option maxRecDepth 1000000 in
set_option maxHeartbeats 0 in
theorem leftX : LeftO PySem.Challenge.rw_pg0279_02.row.prog vwX L4 (fun s => xlAt vwX [] s && recOk (RowW.records PySem.Challenge.rw_pg0279_02.row.toRowW) s) (Hook.obs (kmHook KX asX asEX [239])) (Hook.val (kmHook KX asX asEX [239])) 3260 := by intro w; kernel_rfl
end PHD
section PMB
theorem still_MB : True := by
  w_top off
  trivial
/-! ## small helpers -/
def Stop (P : Prop) : Prop := P
theorem Stop.mk {P : Prop} (h : Stop P) : P := h
theorem Stop.out {P : Prop} (h : P) : Stop P := h
def Hide (P : Prop) : Prop := P
theorem Hide.mk {P : Prop} (h : P) : Hide P := h
theorem Hide.out {P : Prop} (h : Hide P) : P := h
def Go (_ : Nat) : Prop := True
theorem Go.mk (n : Nat) : Go n := True.intro

def al : List (Str × Value) → (Str → Option Value) → Str → Option Value
  | [], m => m
  | p :: r, m => fun y => if y = p.1 then some p.2 else al r m y
theorem al_eq : ∀ (ps : List (Str × Value)) (m : Str → Option Value), (∀ p ∈ ps, m p.1 = some p.2) → al ps m = m
  | [], _, _ => rfl
  | p :: r, m, h => by
    funext y
    show (if y = p.1 then some p.2 else al r m y) = m y
    rw [al_eq r m fun q hq => h q (.tail _ hq)]
    split
    · rename_i e; rw [e, h p (.head _)]
    · rfl
theorem al_nil {m : Str → Option Value} : ∀ p ∈ ([] : List (Str × Value)), m p.1 = some p.2 := fun _ h => nomatch h
theorem al_cons {m : Str → Option Value} {k : Str} {v : Value} {r : List (Str × Value)} (h : m k = some v) (hr : ∀ p ∈ r, m p.1 = some p.2) : ∀ p ∈ (k, v) :: r, m p.1 = some p.2 := fun p hp => by
  rcases List.mem_cons.mp hp with rfl | hp
  · exact h
  · exact hr p hp
theorem Fr.al {h₀ h : Heap} {L : Addr} {m : Str → Option Value} (ps : List (Str × Value)) (F : Fr h₀ L h m) (hp : ∀ p ∈ ps, m p.1 = some p.2) : Fr h₀ L h (Mine.al ps m) := by rw [al_eq ps m hp]; exact F
theorem Fr.turn {h₀ h : Heap} {L : Addr} {m : Str → Option Value} {x : Str} {v : Value} (ps : List (Str × Value)) (F : Fr h₀ L h (fun y => if y = x then some v else m y)) (hp : ∀ p ∈ ps, m p.1 = some p.2) : Fr h₀ L h (fun y => if y = x then some v else Mine.al ps m y) := by rw [al_eq ps m hp]; exact F

/-! ## builtins without a line -/
def find4 (x y : Str) (i j : Int) : Int := match Builtin.Str.occurrences x y (fromIndex x.length i) (min (max 0 (if j < 0 then j + x.length else j)).toNat x.length) 1 with | k :: _ => (k : Int) | [] => -1
theorem gives_find4 (x y : Str) (i j : Int) (t u v z : Tok) : Gives (Builtin.«str.find» ⟨[.str x t, .str y u, .int i v, .int j z], []⟩) (.int (find4 x y i j)) := by
  show Gives (match Builtin.Str.occurrences x y (fromIndex x.length i) (min (max 0 (if j < 0 then j + x.length else j)).toNat x.length) 1 with | k :: _ => retInt k | [] => (do rule "str.find.not-found"; retInt (-1))) _
  unfold find4
  cases Builtin.Str.occurrences x y (fromIndex x.length i) (min (max 0 (if j < 0 then j + x.length else j)).toNat x.length) 1 with
  | nil => exact .rule (.of_eq rfl)
  | cons k _ => exact .of_eq rfl
theorem sc_find4 {prog : Program} {w : World} {A : Around} {E : Value → Shared → Prop} {s : Shared} {x y : Str} {t u v z : Tok} {i j : Int} {Q : Value → Shared → Prop} (hq : Q (.int (find4 x y i j) s.toks) { s with toks := s.toks + 1 }) : wpAny (model prog w) A (call (.builtin "str.find") [.str x t, .str y u, .int i v, .int j z]) Q E s :=
  call_gives F.slot_str_find (typeIs_str _ _ _) F.entry_str_find (F.args_str_find_4 _ _ _ _) (gives_find4 x y i j t u v z) hq
theorem pop0_K {prog : Program} {w : World} {A : Around} {E : Value → Shared → Prop} {s : Shared} {h₀ : Heap} {L D : Addr} {m : Str → Option Value} {news news' : List (Addr × Obj)} {v : Value} {vs : List Value} {n : Nat} {u : Tok} {Q : Value → Shared → Prop}
    (F : Fr h₀ L s.heap m) (N : News h₀ L s.heap news) (U : Upd D (listOf (v :: vs).toArray n) (listOf vs.toArray (n + 1)) news news') (hz : (v :: vs).length ≤ 1001)
    (h : ∀ h', Fr h₀ L h' m → News h₀ L h' news' → Q v { s with heap := h' }) : wpAny (model prog w) A (call (.builtin "list.pop") [.ref D, .int 0 u]) Q E s :=
  kl_popAt (i := 0) (k := 0) (p := []) (q := vs) (y := v) F N rfl (by simp [seqIndex?]) rfl U (by show (v :: vs).length ≤ sizeLine; exact Nat.le_trans hz (by decide)) h

theorem strs_of_carried : ∀ {ys : List Value} {ss : List Str}, CarriedAll ys (ss.map PyData.str) → ∃ l : List (Str × Tok), ys = strValues l ∧ l.map (·.1) = ss
  | _, [], .nil => ⟨[], rfl, rfl⟩
  | _, x :: r, .cons (v := v) h hr => by
    obtain ⟨l, rfl, hl⟩ := strs_of_carried hr
    cases h with
    | str x t => exact ⟨(x, t) :: l, rfl, by rw [List.map_cons, hl]⟩
theorem list_str_K {prog : Program} {w : World} {A : Around} {E : Value → Shared → Prop} {s : Shared} {h₀ : Heap} {L : Addr} {m : Str → Option Value} {news : List (Addr × Obj)} {x : Str} {t : Tok} {Q : Value → Shared → Prop}
    (hh : A.handled = none) (F : Fr h₀ L s.heap m) (N : News h₀ L s.heap news)
    (hQ : ∀ D h' tk (l : List (Str × Tok)) n, Fr h₀ L h' m → News h₀ L h' ((D, listOf (strValues l).toArray n) :: news) → (∀ p ∈ news, p.1 < D) → l.map (·.1) = signs x → Q (.ref D) { s with heap := h', toks := tk }) (hsz : x.length ≤ sizeLine := by size_fits) :
    wpAny (model prog w) A (call (.type "list") [.str x t]) Q E s := by
  refine list_strD hh F N (fun h' tk ys F' N' hk hn hI hP hC => ?_) hsz
  obtain ⟨l, rfl, hl⟩ := strs_of_carried hC
  obtain ⟨n, ho⟩ := hP.1
  refine hQ _ h' tk l n F' (fun p hp => ?_) (fun p hp => Heap.lt_size (N p hp).1) hl
  rcases List.mem_cons.mp hp with rfl | hp
  · refine ⟨ho, ?_, hn⟩
    have := F.ns.lt
    exact Nat.ne_of_gt this
  · exact N' p hp

theorem allLt_mono {d e : Nat} (hde : d ≤ e) : ∀ {l : List (Addr × Obj)}, AllLt d l → AllLt e l
  | [], _ => trivial
  | _ :: _, h => ⟨Nat.lt_of_lt_of_le h.1 hde, allLt_mono hde h.2⟩
theorem ne_of_allLt {d b : Nat} : ∀ {l : List (Addr × Obj)}, AllLt d l → d ≤ b → ∀ p ∈ l, p.1 ≠ b := fun h hb p hp => Nat.ne_of_lt (Nat.lt_of_lt_of_le (ktn_ltOf h p hp) hb)

theorem own_ne {b : Addr} {l : List (Addr × Obj)} (h : OwnOff l [b]) : ∀ p ∈ l, p.1 ≠ b := fun p hp => h p hp b (List.mem_singleton.mpr rfl)
theorem News.sub {h₀ h : Heap} {L : Addr} {old new : List (Addr × Obj)} (N : News h₀ L h old) (hs : ∀ p ∈ new, p ∈ old) : News h₀ L h new := fun p hp => N p (hs p hp)

theorem fm_cons {α : Type} {p : α → Prop} {a : α} {l : List α} (h : p a) (t : ∀ x ∈ l, p x) : ∀ x ∈ a :: l, p x := List.forall_mem_cons.mpr ⟨h, t⟩
/-! ## instance dicts, folded -/
abbrev lexO (P : Params) (t : Nat → Tok) (ln : Int) (st : Value) (pb : Addr) : Obj := dictOf [⟨PyData.keyHash P "lineno", .str "lineno" (t 1), .int ln (t 2)⟩, ⟨PyData.keyHash P "instream", .str "instream" (t 3), st⟩, ⟨PyData.keyHash P "whitespace", .str "whitespace" (t 4), .str "\n\t\r " (t 5)⟩, ⟨PyData.keyHash P "pushback", .str "pushback" (t 6), .ref pb⟩] 4
abbrev strO (P : Params) (t : Nat → Tok) (pb rd : Addr) : Obj := dictOf [⟨PyData.keyHash P "lineno", .str "lineno" (t 1), .int 1 (t 2)⟩, ⟨PyData.keyHash P "instream", .str "instream" (t 3), .none⟩, ⟨PyData.keyHash P "whitespace", .str "whitespace" (t 4), .str "\n\t\r " (t 5)⟩, ⟨PyData.keyHash P "pushback", .str "pushback" (t 6), .ref pb⟩, ⟨PyData.keyHash P "read", .str "read" (t 7), .ref rd⟩] 5
abbrev hdrO (P : Params) (tk : Tok) (hl : Addr) : Obj := dictOf [⟨PyData.keyHash P "_headers", .str "_headers" (tk), .ref hl⟩] 1
/-! ## contracts -/
def Con (w : World) (f : Value) (vs : List Value) (nd nu : Nat) (news : List (Addr × Obj)) (Post : List (Addr × Obj) → Value → Prop) : Prop :=
  ∀ (p : Program) (loose : List Str) (mean : ExcName → Option Value) (mg mb : Str → Option Value)
    (dp un : Nat) (gd : Option (List Code)) (cn : Str) (cs : Scope) (a : Addr) (ccd : Value) (cl : List (Str × Addr)) (outer : List Env) (A₀ : Around) (base h₀ : Heap) (L : Addr) (m : Str → Option Value) (s : Shared) (Q E : Value → Shared → Prop),
    Below A₀ base outer h₀ → Fr h₀ L s.heap m → (KX w.params).In h₀ → News h₀ L s.heap news → Top p loose mean mg mb h₀ → cs.kind = .function →
    dp + nd < recursionLimit → un + 8 * nu < cLine →
    (∀ r h' tk' news', Fr h₀ L h' m → News h₀ L h' news' → Post news' r → Q r { s with heap := h', toks := tk' }) →
    codeAny (model PySem.Challenge.rw_pg0279_02.row.prog w) (ktrTop dp un gd cn cs L a ccd cl outer) (.call f ⟨vs, []⟩) (fun r s' => match r with | .ok (.ret v) => Q v s' | .ok _ => False | .error e => E e s') s

theorem Con.use {w : World} {f : Value} {vs : List Value} {nd nu : Nat} {news : List (Addr × Obj)} {Post : List (Addr × Obj) → Value → Prop} (C : Con w f vs nd nu news Post)
    {p : Program} {loose : List Str} {mean : ExcName → Option Value} {mg mb : Str → Option Value}
    {dp un : Nat} {gd : Option (List Code)} {cn : Str} {cs : Scope} {a : Addr} {ccd : Value} {cl : List (Str × Addr)} {outer : List Env} {A₀ : Around} {base h₀ : Heap} {L : Addr} {m : Str → Option Value} {s : Shared} {Q E : Value → Shared → Prop}
    (B : Below A₀ base outer h₀) (F : Fr h₀ L s.heap m) (X : (KX w.params).In h₀) (N : News h₀ L s.heap news) (T : Top p loose mean mg mb h₀) (hk : cs.kind = .function)
    (h1 : dp + nd < recursionLimit) (h2 : un + 8 * nu < cLine)
    (ret : ∀ r h' tk' news', Fr h₀ L h' m → News h₀ L h' news' → Post news' r → Q r { s with heap := h', toks := tk' }) :
    wpAny (model PySem.Challenge.rw_pg0279_02.row.prog w) (ktrTop dp un gd cn cs L a ccd cl outer) (call f vs) Q E s :=
  wpAny_call (C p loose mean mg mb dp un gd cn cs a ccd cl outer A₀ base h₀ L m s Q E B F X N T hk h1 h2 ret)
theorem Con.useE {w : World} {f : Value} {vs : List Value} {nd nu : Nat} {news N1 : List (Addr × Obj)} {R1 : Value} (C : Con w f vs nd nu news (fun news' r => news' = N1 ∧ r = R1))
    {p : Program} {loose : List Str} {mean : ExcName → Option Value} {mg mb : Str → Option Value}
    {dp un : Nat} {gd : Option (List Code)} {cn : Str} {cs : Scope} {a : Addr} {ccd : Value} {cl : List (Str × Addr)} {outer : List Env} {A₀ : Around} {base h₀ : Heap} {L : Addr} {m : Str → Option Value} {s : Shared} {Q E : Value → Shared → Prop}
    (B : Below A₀ base outer h₀) (F : Fr h₀ L s.heap m) (X : (KX w.params).In h₀) (N : News h₀ L s.heap news) (T : Top p loose mean mg mb h₀) (hk : cs.kind = .function)
    (h1 : dp + nd < recursionLimit) (h2 : un + 8 * nu < cLine)
    (ret : ∀ h' tk', Fr h₀ L h' m → News h₀ L h' N1 → Q R1 { s with heap := h', toks := tk' }) :
    wpAny (model PySem.Challenge.rw_pg0279_02.row.prog w) (ktrTop dp un gd cn cs L a ccd cl outer) (call f vs) Q E s :=
  C.use B F X N T hk h1 h2 fun _ h' tk' _ F' N' e => e.2 ▸ ret h' tk' F' (e.1 ▸ N')
theorem Con.useX {w : World} {f : Value} {vs : List Value} {nd nu : Nat} {news N1 : List (Addr × Obj)} {α : Type} {R1 : α → Value} (C : Con w f vs nd nu news (fun news' r => news' = N1 ∧ ∃ t, r = R1 t))
    {p : Program} {loose : List Str} {mean : ExcName → Option Value} {mg mb : Str → Option Value}
    {dp un : Nat} {gd : Option (List Code)} {cn : Str} {cs : Scope} {a : Addr} {ccd : Value} {cl : List (Str × Addr)} {outer : List Env} {A₀ : Around} {base h₀ : Heap} {L : Addr} {m : Str → Option Value} {s : Shared} {Q E : Value → Shared → Prop}
    (B : Below A₀ base outer h₀) (F : Fr h₀ L s.heap m) (X : (KX w.params).In h₀) (N : News h₀ L s.heap news) (T : Top p loose mean mg mb h₀) (hk : cs.kind = .function)
    (h1 : dp + nd < recursionLimit) (h2 : un + 8 * nu < cLine)
    (ret : ∀ t h' tk', Fr h₀ L h' m → News h₀ L h' N1 → Q (R1 t) { s with heap := h', toks := tk' }) :
    wpAny (model PySem.Challenge.rw_pg0279_02.row.prog w) (ktrTop dp un gd cn cs L a ccd cl outer) (call f vs) Q E s :=
  C.use B F X N T hk h1 h2 fun _ h' tk' _ F' N' e => by
    obtain ⟨e1, t, e2⟩ := e
    rw [e2]
    exact ret t h' tk' F' (e1 ▸ N')
theorem Con.code {w : World} {f : Value} {vs : List Value} {nd nu : Nat} {news : List (Addr × Obj)} {Post : List (Addr × Obj) → Value → Prop} (C : Con w f vs nd nu news Post)
    {p : Program} {loose : List Str} {mean : ExcName → Option Value} {mg mb : Str → Option Value}
    {dp un : Nat} {gd : Option (List Code)} {cn : Str} {cs : Scope} {a : Addr} {ccd : Value} {cl : List (Str × Addr)} {outer : List Env} {A₀ : Around} {base h₀ : Heap} {L : Addr} {m : Str → Option Value} {s : Shared} {R : Result → Shared → Prop}
    (B : Below A₀ base outer h₀) (F : Fr h₀ L s.heap m) (X : (KX w.params).In h₀) (N : News h₀ L s.heap news) (T : Top p loose mean mg mb h₀) (hk : cs.kind = .function)
    (h1 : dp + nd < recursionLimit) (h2 : un + 8 * nu < cLine)
    (ret : ∀ r h' tk' news', Fr h₀ L h' m → News h₀ L h' news' → Post news' r → R (.ok (.ret r)) { s with heap := h', toks := tk' }) :
    codeAny (model PySem.Challenge.rw_pg0279_02.row.prog w) (ktrTop dp un gd cn cs L a ccd cl outer) (.call f ⟨vs, []⟩) R s :=
  codeAny_mono (C p loose mean mg mb dp un gd cn cs a ccd cl outer A₀ base h₀ L m s (fun v s' => R (.ok (.ret v)) s') (fun _ _ => False) B F X N T hk h1 h2 ret) fun r s' h => by
    match r, h with
    | .ok (.ret v), h => exact h
end PMB
section PMI
theorem still_MI : True := by
  w_top off
  trivial
open PySem.Spec
set_option maxRecDepth 100000

/-! ## the callable iterator: iter(f, sentinel) -/
theorem slot_ci_next : Slot "callable_iterator" "__next__" "callable_iterator.__next__" :=
  .of (owner := "callable_iterator") (n := "__next__") (by rw [typeLookup_type, builtinLookup_eq_fast]; kernel_rfl) (by decide +kernel) (by decide +kernel) (by decide +kernel)
    (by first | exact .inl (by decide +kernel) | exact .inr (by decide +kernel)) (by rw [isSubtype_type]; kernel_rfl)
theorem slot_ci_iter : Slot "callable_iterator" "__iter__" "callable_iterator.__iter__" :=
  .of (owner := "callable_iterator") (n := "__iter__") (by rw [typeLookup_type, builtinLookup_eq_fast]; kernel_rfl) (by decide +kernel) (by decide +kernel) (by decide +kernel)
    (by first | exact .inl (by decide +kernel) | exact .inr (by decide +kernel)) (by rw [isSubtype_type]; kernel_rfl)
theorem entry_ci_next : entryFor table "callable_iterator.__next__" = some Builtin.«callable_iterator.__next__» := entryFor_of_tree (by kernel_rfl)
theorem entry_ci_iter : entryFor table "callable_iterator.__iter__" = some Builtin.«dict_keyiterator.__iter__» :=
  entryFor_alias (id' := "dict_keyiterator.__iter__") (by kernel_rfl) rfl (by decide +kernel) (by kernel_rfl)
theorem args_ci_next (a : Value) : argsOk "callable_iterator.__next__" ⟨[a], []⟩ := by unfold argsOk; kernel_rfl
theorem args_ci_iter (a : Value) : argsOk "callable_iterator.__iter__" ⟨[a], []⟩ := by unfold argsOk; kernel_rfl
theorem slot_meth_call : Slot "method" "__call__" "method.__call__" :=
  .of (owner := "method") (n := "__call__") (by rw [typeLookup_type, builtinLookup_eq_fast]; kernel_rfl) (by decide +kernel) (by decide +kernel) (by decide +kernel)
    (by first | exact .inl (by decide +kernel) | exact .inr (by decide +kernel)) (by rw [isSubtype_type]; kernel_rfl)
theorem entry_iter : entryFor table "iter" = some Builtin.«iter» := entryFor_of_tree (by kernel_rfl)
theorem kind_iter : builtinKind "iter" = none := by decide +kernel
theorem plain_iter : plainId "iter" = true := by decide +kernel
theorem args_iter2 (a b : Value) : argsOk "iter" ⟨[a, b], []⟩ := by unfold argsOk; kernel_rfl

abbrev ciObj (q : Addr) (e : Str) (te : Tok) : Obj := { cls := .type "callable_iterator", data := .fields #[.ref q, .str e te, .bool false] }
section
variable {prog : Program} {w : World} {A : Around} {E : Value → Shared → Prop} {s : Shared}

theorem ci_iter {it q : Addr} {e : Str} {te : Tok} {Q : Value → Shared → Prop} (hit : s.heap.get? it = some (ciObj q e te)) (h : Q (.ref it) s) : wpAny (model prog w) A (pyIter (.ref it)) Q E s := by
  have hT : s.TypeIs (.ref it) "callable_iterator" := ⟨_, hit, rfl⟩
  refine wpAny_pyIter_slot hT slot_ci_iter (wpAny_call_entry slot_ci_iter hT entry_ci_iter ?_ (args_ci_iter _))
  show wpAny _ _ (ret (.ref it)) _ _ s
  exact wpAny_pure ⟨_, rfl, "callable_iterator", _, hT, slot_ci_next.lookup, h⟩

theorem iter2 {q : Addr} {f self : Value} {e : Str} {te : Tok} {Q : Value → Shared → Prop} (hq : s.heap.get? q = some (methodObj f self))
    (h : Q (.ref s.heap.objs.size) { s with heap := s.heap.push (ciObj q e te) }) : wpAny (model prog w) A (call (.builtin "iter") [.ref q, .str e te]) Q E s := by
  refine Calls.call_function_entry kind_iter plain_iter entry_iter (args_iter2 _ _) ?_
  show wpAny _ _ (specialOf (.ref q) "__call__" >>= _) _ _ s
  refine wpAny_bind (wpAny_specialOf ⟨_, hq, rfl⟩ slot_meth_call.lookup ?_)
  show wpAny _ _ (rule "iter.sentinel" >>= _) _ _ s
  refine wpAny_bind (wpAny_rule ?_)
  exact wpAny_bind (wpAny_newObj_type (wpAny_pure ⟨_, rfl, h⟩))

theorem callBorrowed_K {f : Value} {Q : Value → Shared → Prop} (hc : codeAny (model prog w) A (.call f ⟨[], []⟩) (fun r s' => match r with | .ok (.ret v) => Q v s' | .ok _ => False | .error e => E e s') s) : wpAny (model prog w) A (callBorrowed f []) Q E s :=
  fun Γ p hΓ => by
    unfold callBorrowed
    rw [Sem.wp_call]
    have hn : (none : Option Value) ≠ some byPass := by intro x; cases x
    refine wpCode_mono (fun r s' hr => ?_) (hc _ p rfl (hΓ.enter _ none p hn))
    match r, hr with
    | .ok (.ret v), hr => exact hr
    | .error e, hr => exact hr

theorem borrows_K {q f : Addr} {self : Value} {oc : Value} {od : Option Addr} {fd : FuncData} {sl : Array (Option Value)} {Q : Bool → Shared → Prop} (hq : s.heap.get? q = some (methodObj (.ref f) self)) (hf : s.heap.get? f = some ⟨oc, od, .func fd, sl⟩) (h : Q true s) :
    wpAny (model prog w) A (borrowsExactly (.ref q)) Q E s := by
  unfold borrowsExactly
  refine wpAny_bind (wpAny_load hq ?_)
  show wpAny _ _ (load f >>= _) _ _ s
  exact wpAny_bind (wpAny_load hf (wpAny_pure h))

theorem ci_next {it q f x : Addr} {e : Str} {te : Tok} {Q : Option Value → Shared → Prop} (hh : A.handled = none)
    (hit : s.heap.get? it = some (ciObj q e te)) (hq : s.heap.get? q = some (methodObj (.ref f) (.ref x))) (hf : FnAt f s.heap)
    (h : codeAny (model prog w) A.in1 (.call (.ref f) ⟨[.ref x], []⟩) (fun r s' => match r with
      | .ok (.ret v) => ∃ c tc, v = .str c tc ∧ s'.heap.get? it = some (ciObj q e te) ∧ s'.heap.get? q = some (methodObj (.ref f) (.ref x)) ∧ FnAt f s'.heap ∧
          (if e = c then (∀ h', Heap.ExtBut it s'.heap h' → Q none { s' with heap := h' }) else Q (some v) s')
      | _ => False) s) : wpAny (model prog w) A (pyNext (.ref it)) Q E s := by
  have hT : s.TypeIs (.ref it) "callable_iterator" := ⟨_, hit, rfl⟩
  obtain ⟨oc, od, fd, sl, hfo⟩ := hf
  unfold pyNext
  refine wpAny_bind (wpAny_attempt (wpAny_callSpecial?_slot (name := Str.ofString "__next__") hT slot_ci_next
    (wpAny_call_entry slot_ci_next hT entry_ci_next ?_ (args_ci_next _))))
  show wpAny _ _ (field (.ref it) 2 >>= _) _ _ s
  refine wpAny_bind (wpAny_field hit rfl (x := .bool false) rfl ?_)
  show wpAny _ _ (field (.ref it) 0 >>= _) _ _ s
  refine wpAny_bind (wpAny_field hit rfl (x := .ref q) rfl ?_)
  refine wpAny_bind (wpAny_attempt ?_)
  unfold callOutOfASlot
  refine wpAny_bind (borrows_K hq hfo ?_)
  show wpAny _ _ (callBorrowed (.ref q) []) _ _ s
  refine callBorrowed_K (method_call hq (codeAny_mono h fun r s' hr => ?_))
  match r, hr with
  | .ok (.ret v), ⟨c, tc, hv, hit', hq', hf', hQ⟩ =>
    subst hv
    obtain ⟨oc', od', fd', sl', hfo'⟩ := hf'
    dsimp only
    show wpAny _ _ (field (.ref it) 2 >>= _) _ _ s'
    refine wpAny_bind (wpAny_field hit' rfl (x := .bool false) rfl ?_)
    show wpAny _ _ (field (.ref it) 1 >>= _) _ _ s'
    refine wpAny_bind (wpAny_field hit' rfl (x := .str e te) rfl ?_)
    refine wpAny_bind (wpAny_holding (eqBool_str ?_))
    by_cases hec : e = c
    · rw [if_pos hec] at hQ
      have hb : (e == c) = true := by simpa using hec
      rw [hb]
      show wpAny _ _ (rule "callable_iterator.__next__.sentinel" >>= _) _ _ s'
      refine wpAny_bind (wpAny_rule ?_)
      refine wpAny_bind ?_
      show wpAny _ _ (field (.ref it) 0 >>= fun o => slotLetsGo "callable_iterator.__next__" o _ >>= fun _ => setField (.ref it) 0 .none >>= fun _ => setField (.ref it) 1 .none >>= fun _ => setField (.ref it) 2 (.bool true)) _ _ s'
      refine wpAny_bind (wpAny_field hit' rfl (x := .ref q) rfl ?_)
      refine wpAny_bind ?_
      show wpAny _ _ (borrowsExactly (.ref q) >>= _) _ _ s'
      refine wpAny_bind (borrows_K hq' hfo' (wpAny_pure ?_))
      refine wpAny_bind (wpAny_setField_rec hit' (by simp) fun h₁ e1 s1 => ?_)
      refine wpAny_bind (wpAny_setField_rec (cls := .type "callable_iterator") (vs := #[.none, .str e te, .bool false]) e1 (by simp) fun h₂ e2 s2 => ?_)
      refine wpAny_setField_rec (cls := .type "callable_iterator") (vs := #[.none, .none, .bool false]) e2 (by simp) fun h₃ e3 s3 => ?_
      show wpAny _ _ (newExc (.type "StopIteration") [] >>= _) _ _ _
      refine wpAny_bind ?_
      simp only [newExc, newTuple]
      refine wpAny_bind (wpAny_newObj_type ?_ (by size_fits))
      refine wpAny_bind (m := firstArgMember _ _) (wpAny_of_eq (a := Value.none) (by first | rfl | (simp only [firstArgMember]; rfl)) ?_)
      refine wpAny_newObj_type ?_ (by size_fits)
      simp only [raiseNew]
      refine wpAny_bind (wpAny_handled ?_)
      rw [show A.in1.handled = none from hh]
      refine wpAny_bind (wpAny_pure (wpAny_throw ?_))
      refine wpAny_bind (wpAny_isInstance (T := "StopIteration") (b := true) ⟨_, Heap.get?_push_size _ rfl, rfl⟩ isSubtype_stop ?_)
      have hs : Heap.ExtBut it s'.heap h₃ := fun b o hb eo => s3.extBut b o hb (s2.extBut b o hb (s1.extBut b o hb eo))
      exact wpAny_pure (hQ _ ((hs.push _).push _))
    · rw [if_neg hec] at hQ
      have hb : (e == c) = false := by simpa using hec
      rw [hb]
      show wpAny _ _ (ret (.str c tc)) _ _ s'
      exact wpAny_pure ⟨_, rfl, wpAny_pure hQ⟩
end
end PMI
section PC1
theorem still_C1 : True := by
  w_top off
  trivial
local macro_rules | `(tactic| walk_at "idle 0") => `(tactic| fail)
def findAll (got : Str) (e : Int) : List Str → Int → Bool
  | [], _ => true
  | w :: r, p => if find4 got w p e < 0 then false else findAll got e r (find4 got w p e + w.length)

local macro_rules | `(tactic| walk_at "call builtin:str.find") => `(tactic| refine sc_find4 ?_)
local macro_rules | `(tactic| walk_at "exec Assert") => `(tactic| ((fail_if_success (have : Go 0 := by assumption)); refine Stop.mk ?_))
local macro_rules | `(tactic| walk_at "exec For") => `(tactic| ((fail_if_success (have : Go 1 := by assumption)); refine Stop.mk ?_))
set_option maxRecDepth 100000 in
set_option maxHeartbeats 0 in
theorem em_con (w : World) (news : List (Addr × Obj)) (want got : Str) (tw tg : Tok) (mids : List Str) (hlw : want.length ≤ 1000) (hlg : got.length ≤ 1000) (hsp : Txt.split want "..." = Str.ofString "" :: mids ++ [Str.ofString ""])
    (hoc : (Builtin.Str.occurrences want ("...") 0 want.length 1).isEmpty = false) :
    Con w (.ref 45) [.str want tw, .str got tg] 1 1 news (fun news' r => news' = news ∧ r = .bool (findAll got got.length (Str.ofString "" :: mids ++ [Str.ofString ""]) 0)) := by
  obtain ⟨b, hfa⟩ : ∃ b, findAll got got.length (Str.ofString "" :: mids ++ [Str.ofString ""]) 0 = b := ⟨_, rfl⟩
  rw [hfa]
  unfold Con
  k_fill
  intro p loose mean mg mb dp un gd cn csc a ccd cl outer A₀ base h₀ L m s Q E hB hF hX hN hT hck hdp hun hret
  (refine' code_def (binds := [("want", .str want tw), ("got", .str got tg)]) ?k1 ?k2 ?k3 ?k4 ?k5 ?kA ?kF ?kK ?k6 ?k7 ?k8 ?k9 ?kB ?_ ?c2 ?c3 ?c4 ?c5; (case kA => exact rfl); (case kF => exact rfl); (case kK => assumption); (case k1 => k_asm); (case k2 => k_asm); (case k3 => k_asm); (case k4 => k_asm); (case k5 => k_asm); (case k6 => k_is); (case k7 => k_is); (case k8 => ktr_room); (case k9 => first | exact BindsTo.of_eq rfl | exact binds_K (by k_in) rfl (by k_is) rfl rfl rfl); (case c5 => decide); (case kB => exact locs rfl); (case c2 => exact rfl); (case c3 => exact rfl); (case c4 => exact rfl); k_whole; intro g' L' h' FG' F' N' B' X' T'; (try dsimp only); (try k_lift B'); (try k_fold))
  k_steps
  rename _ = Txt.split _ _ => hlook
  have hlook2 := hlook.trans hsp
  have hll := congrArg List.length hlook2
  simp only [List.length_map, List.length_append, List.length_cons, List.length_nil] at hll
  refine Stop.out ?_
  have hg0 := Go.mk 0
  k_steps
  · rename _ = some (_ : Str) => hy
    rename Str => y
    rename _ = Str.ofString "" :: mids ++ _ => hlook2
    have hy' : y = Str.ofString "" := by rw [hlook2] at hy; simpa using hy.symm
    subst hy'
    k_steps
    rename _ = Str.ofString "" :: mids ++ _ => hlook2
    have hlast : ∀ l : List (Str × Tok), l.map (fun x => x.fst) = Str.ofString "" :: mids ++ [Str.ofString ""] → (List.map (fun x : Str × Tok => x.fst) l).getD (-1 + ((List.map (fun x : Str × Tok => x.fst) l).length : Int)).toNat Str.empty = Str.ofString "" := by
      intro l h
      rw [h]
      have : (-1 + (((Str.ofString "" :: mids ++ [Str.ofString ""]).length : Nat) : Int)).toNat = mids.length + 1 := by simp only [List.length_append, List.length_cons, List.length_nil]; omega
      rw [this]
      simp
    rw [hlast _ hlook2]
    k_steps
    refine Stop.out ?_
    rename Fr g' L' _ _ => F9
    rename News g' L' _ _ => N9
    with_unfolding_all refine' For_invVF F9 ?k1 ?k2 ?_
    case k1 => exact rfl
    case k2 => exact rfl
    walk1
    rename List (Str × Tok) => l
    refine kdl_iter (l := h'.objs.size) (vs := strValues l) (nn := 0) (news := (h'.objs.size, listOf (strValues l).toArray 0) :: news) (fun i m₁ nx => ∃ pp tp te, m₁ "startpos" = some (.int pp tp) ∧ m₁ "got" = some (.str got tg) ∧ m₁ "endpos" = some (.int got.length te) ∧ findAll got got.length ((Str.ofString "" :: mids ++ [Str.ofString ""]).drop i) pp = b ∧ nx = (h'.objs.size, listOf (strValues l).toArray 0) :: news) rfl (List.Mem.head _) F9 (fun p hp => N9 p (List.Mem.tail _ hp)) ?_ ?_ ?_
    · refine ⟨0, _, _, rfl, rfl, rfl, ?_, rfl⟩
      rw [List.drop_zero]; exact hfa
    · rintro i v m₁ news₁ h tk own hv hoff _ hp90 F₁ N₁
      try k_fold
      obtain ⟨pp, tp, te, hm1, hm2, hm3, hb, rfl⟩ := hp90
      obtain ⟨⟨x, tx⟩, hlx, rfl⟩ : ∃ q : Str × Tok, l[i]? = some q ∧ v = .str q.1 q.2 := by
        simp only [strValues, List.getElem?_map, Option.map_eq_some_iff] at hv
        obtain ⟨q, h1, h2⟩ := hv
        exact ⟨q, h1, h2.symm⟩
      have hx : (Str.ofString "" :: mids ++ [Str.ofString ""])[i]? = some x := by
        rw [← hlook2, List.getElem?_map, hlx]; rfl
      have hd : (Str.ofString "" :: mids ++ [Str.ofString ""]).drop i = x :: (Str.ofString "" :: mids ++ [Str.ofString ""]).drop (i + 1) := by
        obtain ⟨hi, he⟩ := List.getElem?_eq_some_iff.mp hx
        rw [List.drop_eq_getElem_cons hi, he]
      rw [hd] at hb
      dsimp only at *
      have F2 := Fr.turn [("startpos", .int pp tp), ("got", .str got tg), ("endpos", .int got.length te)] F₁ (al_cons hm1 (al_cons hm2 (al_cons hm3 al_nil)))
      rename ∀ a, a ∈ List.map _ _ → _ ≤ _ => hle
      have hxl : x.length ≤ 1000 := Nat.le_trans (hle x (by rw [hlook2]; exact List.mem_of_getElem? hx)) hlw
      clear F₁ F9 N9
      k_steps
      · rename find4 _ _ _ _ < 0 => hneg
        have hb' : b = false := by rw [← hb]; show (if find4 got x pp got.length < 0 then false else _) = false; rw [if_pos hneg]
        exact hret _ _ _ _ (by assumption) (cb_drop (by assumption) fun p hp => List.mem_append_left _ (List.Mem.tail _ hp)) ⟨rfl, by rw [hb']⟩
      · rename ¬ find4 _ _ _ _ < 0 => hpos
        have hb' : findAll got got.length ((Str.ofString "" :: mids ++ [Str.ofString ""]).drop (i + 1)) (find4 got x pp got.length + x.length) = b := by
          rw [← hb]
          show _ = (if find4 got x pp got.length < 0 then false else _)
          rw [if_neg hpos]
        exact InvEndG.intro (by assumption) (by assumption) ⟨List.Mem.head _, _, _, _, rfl, rfl, rfl, hb', rfl⟩ hoff (fun p hp => List.mem_append_left _ hp) (fun p hp => List.mem_append_right _ hp)
    · rintro m₁ news₁ h tk hp90 F₁ N₁
      try k_fold
      obtain ⟨pp, tp, te, hm1, hm2, hm3, hb, rfl⟩ := hp90
      have hdl : (Str.ofString "" :: mids ++ [Str.ofString ""]).drop (strValues l).length = [] := by
        rw [List.drop_eq_nil_iff, ← hlook2]; simp [strValues]
      rw [hdl] at hb
      have hb' : b = true := hb.symm
      clear F9 N9
      dsimp only
      k_steps
      exact hret _ _ _ _ (by assumption) (cb_drop (by assumption) fun p hp => (List.Mem.tail _ hp)) ⟨rfl, by rw [hb']⟩
end PC1
local macro_rules | `(tactic| k_room) => `(tactic| ktr_room)
local macro_rules | `(tactic| k_units) => `(tactic| ktr_units)
local macro_rules | `(tactic| k_all) => `(tactic| first | exact List.forall_mem_nil _ | (refine' fm_cons ?a ?b; (case a => k_ne); (case b => k_all)) | exact own_ne (by assumption) | exact ne_of_allLt (by assumption) (by (first | omega | exact Nat.le_refl _)) | exact ne_of_allLt (And.right (by assumption)) (by (first | omega | exact Nat.le_refl _)) | exact ne_of_allLt (And.right (And.right (by assumption))) (by (first | omega | exact Nat.le_refl _)) | exact ne_of_allLt (And.right (And.right (And.right (by assumption)))) (by (first | omega | exact Nat.le_refl _))) 
local macro_rules | `(tactic| k_allIn) => `(tactic| (intro p hp; k_ownIn))
local macro_rules | `(tactic| k_steps) => `(tactic| repeat' ((fail_if_success (with_reducible show Stop _)); (fail_if_success (with_reducible show Hide _)); (fail_if_success (with_reducible show InvEndG _ _ _ _ _ _)); first | (k_unfold; (try dsimp only)) | (k_end; kc_close) | walk1 | (dsimp only; walk1) | (leave1; walk_say "STEP leave1"; (try dsimp only)) | fail "no step"))
local macro_rules | `(tactic| k_lt $h:ident) => `(tactic| (replace $h := allLt_of $h; dsimp only [AllLt] at $h:ident))
section PC2
theorem still_C2 : True := by
  w_top off
  trivial
local macro_rules | `(tactic| walk_at "idle 0") => `(tactic| fail)
local macro_rules | `(tactic| walk_at "idle 1") => `(tactic| fail)
local macro_rules | `(tactic| walk_at "idle 2") => `(tactic| fail)
local macro_rules | `(tactic| walk_at "idle 3") => `(tactic| fail)
local macro_rules | `(tactic| walk_at "idle 4") => `(tactic| fail)
/-! ## the lexer: what its stream's function does, one sign, a word pushed, a word popped -/
def NextSpec (w : World) (f la : Addr) (own : List (Addr × Obj)) : Prop :=
  (∀ (rest : List (Addr × Obj)) (c : Str) (tc : Tok) (cs : List (Str × Tok)) (k : Nat) (i : Int) (ti : Tok), cs.length ≤ 1000 → OwnOff rest [la] →
    Con w (.ref f) [.int i ti] 1 1 ((la, listOf (Value.str c tc :: strValues cs).toArray k) :: (own ++ rest)) (fun news' r => news' = (la, listOf (strValues cs).toArray (k + 1)) :: (own ++ rest) ∧ r = .str c tc)) ∧
  (∀ (rest : List (Addr × Obj)) (k : Nat) (i : Int) (ti : Tok),
    Con w (.ref f) [.int i ti] 1 1 ((la, listOf #[] k) :: (own ++ rest)) (fun news' r => news' = (la, listOf #[] k) :: (own ++ rest) ∧ ∃ t, r = .str (Str.ofString "") t))

local macro_rules | `(tactic| walk_at "call ref") => `(tactic| (refine Stop.mk ?_))
local macro_rules | `(tactic| walk_at "callWith ref") => `(tactic| (k_here; k_dflt (refine' callWith_F ?k1 ?_; (case k1 => exact FnAt.of (by k_asm) (by k_mem)); k_whole)))
local macro_rules | `(tactic| walk_at "getMethod ref") => `(tactic| (k_here; (with_reducible show wpAny _ _ (getMethod (Value.ref _) (PySem.Str.ofString "read") _) _ _ _); k_dflt (refine' kmu_own ?k1 ?k2 ?k3 ?k4 ?k5 ?_; (case k1 => k_asm); (case k2 => k_asm); (case k3 => k_inst); (case k4 => k_is); (case k5 => k_is); k_whole)))
local macro_rules | `(tactic| walk_at "call builtin:list.pop") => `(tactic| (k_here; k_dflt (refine' pop0_K ?F ?N ?U ?z ?_; (case F => k_asm); (case N => k_asm); (case U => k_upd); (case z => (first | assumption | (simp; omega)))); intro h' F' N'))

set_option maxRecDepth 100000 in
set_option maxHeartbeats 0 in
theorem push_con (w : World) (rest : List (Addr × Obj)) (x dx pb : Addr) (vs : List Value) (n : Nat) (t : Nat → Tok) (ln : Int) (st : Value) (tok : Str) (tt : Tok) (h1 : OwnOff rest [pb]) (hne1 : @Ne Nat pb x) (hne2 : @Ne Nat pb dx) (hl : vs.length ≤ 1000) :
   Con w (.ref 80) [.ref x, .str tok tt] 1 1 ((pb, listOf vs.toArray n) :: (dx, lexO w.params t (ln) (st) (pb)) :: (x, instObj 83 dx) :: rest)
     (fun news' r => news' = (pb, listOf (vs ++ [Value.str tok tt]).toArray (n + 1)) :: (dx, lexO w.params t (ln) (st) (pb)) :: (x, instObj 83 dx) :: rest ∧ r = Value.none) := by
  unfold Con
  k_fill
  intro p loose mean mg mb dp un gd cn csc a ccd cl outer A₀ base h₀ L m s Q E hB hF hX hN hT hck hdp hun hret
  (refine' code_def (binds := [("self", .ref x), ("token", .str tok tt)]) ?k1 ?k2 ?k3 ?k4 ?k5 ?kA ?kF ?kK ?k6 ?k7 ?k8 ?k9 ?kB ?_ ?c2 ?c3 ?c4 ?c5; (case kA => exact rfl); (case kF => exact rfl); (case kK => assumption); (case k1 => k_asm); (case k2 => k_asm); (case k3 => k_asm); (case k4 => k_asm); (case k5 => k_asm); (case k6 => k_is); (case k7 => k_is); (case k8 => ktr_room); (case k9 => first | exact BindsTo.of_eq rfl | exact binds_K (by k_in) rfl (by k_is) rfl rfl rfl); (case c5 => decide); (case kB => exact locs rfl); (case c2 => exact rfl); (case c3 => exact rfl); (case c4 => exact rfl); k_whole; intro g' L' h' FG' F' N' B' X' T'; (try dsimp only); (try k_lift B'); (try k_fold))
  k_steps
  exact hret _ _ _ _ (by assumption) (by assumption) ⟨by simp, rfl⟩
set_option maxRecDepth 100000 in
set_option maxHeartbeats 0 in
theorem pop_con (w : World) (rest : List (Addr × Obj)) (x dx pb : Addr) (v : Value) (vs : List Value) (n : Nat) (t : Nat → Tok) (ln : Int) (st : Value) (h1 : OwnOff rest [pb]) (hne1 : @Ne Nat pb x) (hne2 : @Ne Nat pb dx) (hl : (v :: vs).length ≤ 1001) :
   Con w (.ref 73) [.ref x] 1 1 ((pb, listOf (v :: vs).toArray n) :: (dx, lexO w.params t (ln) (st) (pb)) :: (x, instObj 83 dx) :: rest)
     (fun news' r => news' = (pb, listOf vs.toArray (n + 1)) :: (dx, lexO w.params t (ln) (st) (pb)) :: (x, instObj 83 dx) :: rest ∧ r = v) := by
  unfold Con
  k_fill
  intro p loose mean mg mb dp un gd cn csc a ccd cl outer A₀ base h₀ L m s Q E hB hF hX hN hT hck hdp hun hret
  (refine' code_def (binds := [("self", .ref x)]) ?k1 ?k2 ?k3 ?k4 ?k5 ?kA ?kF ?kK ?k6 ?k7 ?k8 ?k9 ?kB ?_ ?c2 ?c3 ?c4 ?c5; (case kA => exact rfl); (case kF => exact rfl); (case kK => assumption); (case k1 => k_asm); (case k2 => k_asm); (case k3 => k_asm); (case k4 => k_asm); (case k5 => k_asm); (case k6 => k_is); (case k7 => k_is); (case k8 => ktr_room); (case k9 => first | exact BindsTo.of_eq rfl | exact binds_K (by k_in) rfl (by k_is) rfl rfl rfl); (case c5 => decide); (case kB => exact locs rfl); (case c2 => exact rfl); (case c3 => exact rfl); (case c4 => exact rfl); k_whole; intro g' L' h' FG' F' N' B' X' T'; (try dsimp only); (try k_lift B'); (try k_fold))
  k_steps
  exact hret _ _ _ _ (by assumption) (by assumption) ⟨rfl, rfl⟩

set_option maxRecDepth 100000 in
set_option maxHeartbeats 0 in
theorem read_con (w : World) (rest : List (Addr × Obj)) (x dx pb xs dxs pb2 la f c' cell : Addr) (fc : Value) (fod : Option Addr) (fd : FuncData) (fsl : Array (Option Value)) (oc co : Obj) (c : Str) (tc : Tok) (cs : List (Str × Tok)) (k : Nat) (t u : Nat → Tok) (ln : Int)
   (hNS : NextSpec w f la [(f, (⟨fc, fod, .func fd, fsl⟩ : Obj)), (c', oc), (cell, co)]) (hoff : OwnOff rest [la]) (h1 : @Ne Nat la dx) (h2 : @Ne Nat la x) (h3 : @Ne Nat la dxs) (h4 : @Ne Nat la xs) (hl : cs.length ≤ 1000) (hc : c ≠ Str.ofString "\n") :
   Con w (.ref 66) [.ref x] 2 2 ((la, listOf (Value.str c tc :: strValues cs).toArray k) :: (f, (⟨fc, fod, .func fd, fsl⟩ : Obj)) :: (c', oc) :: (cell, co) :: (dx, lexO w.params t (ln) (.ref xs) (pb)) :: (x, instObj 83 dx) :: (dxs, strO w.params u (pb2) (f)) :: (xs, instObj 83 dxs) :: rest)
     (fun news' r => news' = (la, listOf (strValues cs).toArray (k + 1)) :: (f, (⟨fc, fod, .func fd, fsl⟩ : Obj)) :: (c', oc) :: (cell, co) :: (dx, lexO w.params t (ln) (.ref xs) (pb)) :: (x, instObj 83 dx) :: (dxs, strO w.params u (pb2) (f)) :: (xs, instObj 83 dxs) :: rest ∧ r = .str c tc) := by
  unfold Con
  k_fill
  intro p loose mean mg mb dp un gd cn csc a ccd cl outer A₀ base h₀ L m s Q E hB hF hX hN hT hck hdp hun hret
  (refine' code_def (binds := [("self", .ref x)]) ?k1 ?k2 ?k3 ?k4 ?k5 ?kA ?kF ?kK ?k6 ?k7 ?k8 ?k9 ?kB ?_ ?c2 ?c3 ?c4 ?c5; (case kA => exact rfl); (case kF => exact rfl); (case kK => assumption); (case k1 => k_asm); (case k2 => k_asm); (case k3 => k_asm); (case k4 => k_asm); (case k5 => k_asm); (case k6 => k_is); (case k7 => k_is); (case k8 => ktr_room); (case k9 => first | exact BindsTo.of_eq rfl | exact binds_K (by k_in) rfl (by k_is) rfl rfl rfl); (case c5 => decide); (case kB => exact locs rfl); (case c2 => exact rfl); (case c3 => exact rfl); (case c4 => exact rfl); k_whole; intro g' L' h' FG' F' N' B' X' T'; (try dsimp only); (try k_lift B'); (try k_fold))
  k_steps
  refine Stop.out ?_
  have hoff' : OwnOff ((dx, lexO w.params t (ln) (.ref xs) (pb)) :: (x, instObj 83 dx) :: (dxs, strO w.params u (pb2) (f)) :: (xs, instObj 83 dxs) :: rest) [la] := by
    intro p hp b hb
    rw [List.mem_singleton.mp hb]
    revert p
    k_all
  refine Con.use (hNS.1 _ c tc cs k _ _ hl hoff') (by k_asm) (by k_asm) (by k_asm) (by k_asm) (by k_asm) rfl (by ktr_room) (by ktr_units) ?_
  rintro r h9 tk9 news9 F9 N9 ⟨rfl, rfl⟩
  dsimp only [List.cons_append, List.nil_append] at N9
  k_steps
  · rename (c == _) = true => hq
    exact absurd (by simpa using hq) hc
  · exact hret _ _ _ _ (by assumption) (by assumption) ⟨rfl, rfl⟩
set_option maxRecDepth 100000 in
set_option maxHeartbeats 0 in
theorem read_con0 (w : World) (rest : List (Addr × Obj)) (x dx pb xs dxs pb2 la f c' cell : Addr) (fc : Value) (fod : Option Addr) (fd : FuncData) (fsl : Array (Option Value)) (oc co : Obj) (k : Nat) (t u : Nat → Tok) (ln : Int)
   (hNS : NextSpec w f la [(f, (⟨fc, fod, .func fd, fsl⟩ : Obj)), (c', oc), (cell, co)]) :
   Con w (.ref 66) [.ref x] 2 2 ((la, listOf #[] k) :: (f, (⟨fc, fod, .func fd, fsl⟩ : Obj)) :: (c', oc) :: (cell, co) :: (dx, lexO w.params t (ln) (.ref xs) (pb)) :: (x, instObj 83 dx) :: (dxs, strO w.params u (pb2) (f)) :: (xs, instObj 83 dxs) :: rest)
     (fun news' r => news' = (la, listOf #[] k) :: (f, (⟨fc, fod, .func fd, fsl⟩ : Obj)) :: (c', oc) :: (cell, co) :: (dx, lexO w.params t (ln) (.ref xs) (pb)) :: (x, instObj 83 dx) :: (dxs, strO w.params u (pb2) (f)) :: (xs, instObj 83 dxs) :: rest ∧ ∃ t, r = .str (Str.ofString "") t) := by
  unfold Con
  k_fill
  intro p loose mean mg mb dp un gd cn csc a ccd cl outer A₀ base h₀ L m s Q E hB hF hX hN hT hck hdp hun hret
  (refine' code_def (binds := [("self", .ref x)]) ?k1 ?k2 ?k3 ?k4 ?k5 ?kA ?kF ?kK ?k6 ?k7 ?k8 ?k9 ?kB ?_ ?c2 ?c3 ?c4 ?c5; (case kA => exact rfl); (case kF => exact rfl); (case kK => assumption); (case k1 => k_asm); (case k2 => k_asm); (case k3 => k_asm); (case k4 => k_asm); (case k5 => k_asm); (case k6 => k_is); (case k7 => k_is); (case k8 => ktr_room); (case k9 => first | exact BindsTo.of_eq rfl | exact binds_K (by k_in) rfl (by k_is) rfl rfl rfl); (case c5 => decide); (case kB => exact locs rfl); (case c2 => exact rfl); (case c3 => exact rfl); (case c4 => exact rfl); k_whole; intro g' L' h' FG' F' N' B' X' T'; (try dsimp only); (try k_lift B'); (try k_fold))
  k_steps
  refine Stop.out ?_
  refine Con.use (hNS.2 _ k _ _) (by k_asm) (by k_asm) (by k_asm) (by k_asm) (by k_asm) rfl (by ktr_room) (by ktr_units) ?_
  rintro r h9 tk9 news9 F9 N9 ⟨rfl, t9, rfl⟩
  dsimp only [List.cons_append, List.nil_append] at N9
  k_steps
  all_goals exact hret _ _ _ _ (by assumption) (by assumption) ⟨rfl, _, rfl⟩
end PC2
section PC3
theorem still_C3 : True := by
  w_top off
  trivial
/-! ## _law_lexer -/
/-- the code object that the first call makes -/
def NextCode (oc : Obj) : Prop := ∃ (vs : Array Value) (L' : Addr) (t : Tok), oc.data = .fields vs ∧ vs[1]? = some (.str (qualnameIn (envOfC "_law_lexer" default L' 244 (.ref 243)) "_law_next" "_law_next") t)
/-- what a call of _law_lexer leaves: the lexer, its stream, the signs that are left -/
def LexAt (w : World) (c' : Addr) (oc : Obj) (tail : List (Addr × Obj)) (l : List (Str × Tok)) (news' : List (Addr × Obj)) (r : Value) : Prop :=
  ∃ (x dx pb xs dxs pb2 la f cell : Addr) (fc : Value) (fod : Option Addr) (fd : FuncData) (fsl : Array (Option Value)) (co : Obj) (k : Nat) (t u : Nat → Tok),
    r = .ref x ∧ NextSpec w f la [(f, (⟨fc, fod, .func fd, fsl⟩ : Obj)), (c', oc), (cell, co)] ∧
    (AllLt cell tail ∧ @LT.lt Nat _ cell la ∧ @LT.lt Nat _ la dxs ∧ @LT.lt Nat _ dxs xs ∧ @LT.lt Nat _ xs f ∧ @LT.lt Nat _ f dx ∧ @LT.lt Nat _ dx x ∧ @LT.lt Nat _ x pb ∧ @Ne Nat la c' ∧ @Ne Nat pb c') ∧
    news' = (pb, listOf #[] 0) :: (la, listOf (strValues l).toArray k) :: (f, (⟨fc, fod, .func fd, fsl⟩ : Obj)) :: (cell, co) :: (dx, lexO w.params t (1) (.ref xs) (pb)) :: (x, instObj 83 dx) :: (dxs, strO w.params u (pb2) (f)) :: (xs, instObj 83 dxs) :: (c', oc) :: tail

theorem LexAt.elim {w : World} {c' : Addr} {oc : Obj} {tail : List (Addr × Obj)} {l : List (Str × Tok)} {news' : List (Addr × Obj)} {r : Value} {P : Prop} (H : LexAt w c' oc tail l news' r)
    (K : ∀ (x dx pb xs dxs pb2 la f cell : Addr) (fc : Value) (fod : Option Addr) (fd : FuncData) (fsl : Array (Option Value)) (co : Obj) (k : Nat) (t u : Nat → Tok),
    r = .ref x → NextSpec w f la [(f, (⟨fc, fod, .func fd, fsl⟩ : Obj)), (c', oc), (cell, co)] →
    (AllLt cell tail ∧ @LT.lt Nat _ cell la ∧ @LT.lt Nat _ la dxs ∧ @LT.lt Nat _ dxs xs ∧ @LT.lt Nat _ xs f ∧ @LT.lt Nat _ f dx ∧ @LT.lt Nat _ dx x ∧ @LT.lt Nat _ x pb ∧ @Ne Nat la c' ∧ @Ne Nat pb c') →
    news' = (pb, listOf #[] 0) :: (la, listOf (strValues l).toArray k) :: (f, (⟨fc, fod, .func fd, fsl⟩ : Obj)) :: (cell, co) :: (dx, lexO w.params t (1) (.ref xs) (pb)) :: (x, instObj 83 dx) :: (dxs, strO w.params u (pb2) (f)) :: (xs, instObj 83 dxs) :: (c', oc) :: tail → P) : P := by
  obtain ⟨x, dx, pb, xs, dxs, pb2, la, f, cell, fc, fod, fd, fsl, co, k, t, u, h1, h2, h3, h4⟩ := H
  exact K x dx pb xs dxs pb2 la f cell fc fod fd fsl co k t u h1 h2 h3 h4
theorem lex_build {w : World} {c' : Addr} {oc : Obj} {tail : List (Addr × Obj)} {l : List (Str × Tok)} {h₀ h : Heap} {L : Addr} {N0 : List (Addr × Obj)}
    {x dx pb xs dxs pb2 la f cell : Addr} {fc : Value} {fod : Option Addr} {fd : FuncData} {fsl : Array (Option Value)} {co : Obj} {k : Nat} {t1 t2 t3 t4 t5 t6 u1 u2 u3 u4 u5 u6 u7 : Tok}
    {vs9 : Array Value} (N : News h₀ L h N0) (_hoc : oc.data = .fields vs9) (_hco : co.data = .cell (some (.ref la)))
    (hs : ∀ p ∈ (pb, listOf #[] 0) :: (la, listOf (strValues l).toArray k) :: (f, (⟨fc, fod, .func fd, fsl⟩ : Obj)) :: (cell, co) :: (dx, dictOf [⟨PyData.keyHash w.params "lineno", .str "lineno" t1, .int 1 t2⟩, ⟨PyData.keyHash w.params "instream", .str "instream" t3, .ref xs⟩, ⟨PyData.keyHash w.params "whitespace", .str "whitespace" t4, .str "\n\t\r " t5⟩, ⟨PyData.keyHash w.params "pushback", .str "pushback" t6, .ref pb⟩] 4) :: (x, instObj 83 dx) :: (dxs, dictOf [⟨PyData.keyHash w.params "lineno", .str "lineno" u1, .int 1 u2⟩, ⟨PyData.keyHash w.params "instream", .str "instream" u3, .none⟩, ⟨PyData.keyHash w.params "whitespace", .str "whitespace" u4, .str "\n\t\r " u5⟩, ⟨PyData.keyHash w.params "pushback", .str "pushback" u6, .ref pb2⟩, ⟨PyData.keyHash w.params "read", .str "read" u7, .ref f⟩] 5) :: (xs, instObj 83 dxs) :: (c', oc) :: tail, p ∈ N0)
    (hNS : NextSpec w f la [(f, (⟨fc, fod, .func fd, fsl⟩ : Obj)), (c', oc), (cell, co)])
    (hlt : AllLt cell tail ∧ @LT.lt Nat _ cell la ∧ @LT.lt Nat _ la dxs ∧ @LT.lt Nat _ dxs xs ∧ @LT.lt Nat _ xs f ∧ @LT.lt Nat _ f dx ∧ @LT.lt Nat _ dx x ∧ @LT.lt Nat _ x pb ∧ @Ne Nat la c' ∧ @Ne Nat pb c') :
    ∃ news', News h₀ L h news' ∧ LexAt w c' oc tail l news' (.ref x) :=
  ⟨_, News.sub N hs, x, dx, pb, xs, dxs, pb2, la, f, cell, fc, fod, fd, fsl, co, k,
    (fun | 1 => t1 | 2 => t2 | 3 => t3 | 4 => t4 | 5 => t5 | _ => t6), (fun | 1 => u1 | 2 => u2 | 3 => u3 | 4 => u4 | 5 => u5 | 6 => u6 | _ => u7), rfl, hNS, hlt, rfl⟩

local macro_rules | `(tactic| walk_at "call type:list") => `(tactic| (k_here; (with_reducible show wpAny _ _ (call (Value.type _) [Value.str _ _]) _ _ _); k_dflt (refine' list_str_K ?h ?F ?N ?_ ?z; (case h => exact rfl); (case F => k_asm); (case N => k_asm); (case z => first | size_fits | (exact Nat.le_trans (by assumption) (by decide)))); intro D' h' tk' l' n' F' N' l1 hl'; (try k_lt l1); (try k_sweep)))
local macro_rules | `(tactic| walk_at "call builtin:list.pop") => `(tactic| (k_here; k_dflt (refine' pop0_K ?F ?N ?U ?z ?_; (case F => k_asm); (case N => k_asm); (case U => k_upd); (case z => (first | assumption | (simp; omega)))); intro h' F' N'))
set_option maxRecDepth 100000 in
set_option maxHeartbeats 0 in
theorem lex_con (w : World) (rest : List (Addr × Obj)) (text : Str) (tt : Tok) (ht : text.length ≤ 1000) (h1 : OwnOff rest [239]) :
   Con w (.ref 244) [.str text tt] 3 4 ((239, tabObj #[]) :: rest) (fun news' r => ∃ c' oc l, l.map (·.1) = signs text ∧ @LT.lt Nat _ 239 c' ∧ AllLt c' rest ∧ NextCode oc ∧ LexAt w c' oc ((239, tabObj #[rawInt 178, rawInt 4, .ref c']) :: rest) l news' r) := by
  unfold Con
  k_fill
  intro p loose mean mg mb dp un gd cn csc a ccd cl outer A₀ base h₀ L m s Q E hB hF hX hN hT hck hdp hun hret
  (refine' code_defC (binds := [("text", .str text tt)]) ?k1 ?k2 ?k3 ?k4 ?k5 ?kA ?kF ?kK ?k6 ?k7 ?k8 ?k9 ?kB ?kD ?_ ?c2 ?c3 ?c4; (case kA => exact rfl); (case kF => exact rfl); (case kK => assumption); (case k1 => k_asm); (case k2 => k_asm); (case k3 => k_asm); (case k4 => k_asm); (case k5 => k_asm); (case k6 => k_is); (case k7 => k_is); (case k8 => ktr_room); (case k9 => first | exact BindsTo.of_eq rfl | exact binds_K (by k_in) rfl (by k_is) rfl rfl rfl); (case kB => exact rfl); (case kD => decide +kernel); (case c2 => exact rfl); (case c3 => exact rfl); (case c4 => exact rfl); k_whole; intro g' L' h' tk' cells' FG' F' N' Y' B' X' T' l1; (try k_lt l1); k_cells Y'; (try simp only [List.cons_append, List.nil_append] at N'); (try dsimp only); (try k_lift B'); (try k_fold))
  have codeHd : CodeHd g' 243 239 := ⟨_, _, _, _, _, _, _, _, _, X' 243 _ (by k_is), rfl, rfl, rfl, rfl, rfl, rfl, rfl, rfl, by decide⟩
  k_steps
  rename Fr h₀ L _ m => F9
  rename News h₀ L _ _ => N9
  dsimp only at *
  rename _ = Data.fields _ => d1
  rename _ = some (Value.str (qualnameIn _ _ _) _) => d2
  rename _ = Data.cell (some (Value.ref _)) => d3
  rename List.map _ _ = signs text => hl9
  have hb := lex_build (w := w) (tail := (239, tabObj #[rawInt 178, rawInt 4, .ref _]) :: rest) N9 d1 d3 (by k_allIn) ?hNS ?hlt
  case hlt => refine ⟨⟨by omega, allLt_mono (by omega) l1.2⟩, ?_, ?_, ?_, ?_, ?_, ?_, ?_, ?_, ?_⟩ <;> omega
  case hNS => 
    clear N9 F9 hret hN hF
    refine ⟨?_, ?_⟩
    · intro rest c tc cs k i ti hcs hoff
      have hl9 : (Value.str c tc :: strValues cs).length ≤ 1001 := by simp only [strValues, List.length_cons, List.length_map]; omega
      unfold Con
      k_fill
      intro p loose mean mg mb dp un gd cn csc a ccd cl outer A₀ base h₀ L m s Q E hB hF hX hN hT hck hdp hun hret
      dsimp only [List.cons_append, List.nil_append] at hN
      k_dflt (refine' code_nest (binds := [("size", .int i ti)]) ?k1 ?k2 ?k3 ?k4 ?k5 ?kA ?kF ?kK ?k6 ?k7 ?k8 ?k9 ?kB ?_ ?c2 ?c3 ?c4 ?c5; (case kA => exact rfl); (case kF => exact rfl); (case kK => assumption); (case k1 => k_asm); (case k2 => k_asm); (case k3 => k_asm); (case k4 => k_asm); (case k5 => k_asm); (case k6 => k_mem); (case k7 => exact codeRec_news (by k_asm) (by k_mem) (by assumption) (by assumption)); (case k8 => ktr_room); (case k9 => exact BindsTo.of_eq rfl); (case c5 => decide); (case kB => exact locs rfl); (case c2 => exact rfl); (case c3 => exact rfl); (case c4 => exact rfl); k_whole; intro g' L' h' FG' F' N' B' X' T'; (try dsimp only); (try k_lift B'); (try k_fold))
      k_steps
      exact hret _ _ _ _ (by assumption) (by assumption) ⟨rfl, rfl⟩
    · intro rest k i ti
      unfold Con
      k_fill
      intro p loose mean mg mb dp un gd cn csc a ccd cl outer A₀ base h₀ L m s Q E hB hF hX hN hT hck hdp hun hret
      dsimp only [List.cons_append, List.nil_append] at hN
      k_dflt (refine' code_nest (binds := [("size", .int i ti)]) ?k1 ?k2 ?k3 ?k4 ?k5 ?kA ?kF ?kK ?k6 ?k7 ?k8 ?k9 ?kB ?_ ?c2 ?c3 ?c4 ?c5; (case kA => exact rfl); (case kF => exact rfl); (case kK => assumption); (case k1 => k_asm); (case k2 => k_asm); (case k3 => k_asm); (case k4 => k_asm); (case k5 => k_asm); (case k6 => k_mem); (case k7 => exact codeRec_news (by k_asm) (by k_mem) (by assumption) (by assumption)); (case k8 => ktr_room); (case k9 => exact BindsTo.of_eq rfl); (case c5 => decide); (case kB => exact locs rfl); (case c2 => exact rfl); (case c3 => exact rfl); (case c4 => exact rfl); k_whole; intro g' L' h' FG' F' N' B' X' T'; (try dsimp only); (try k_lift B'); (try k_fold))
      k_steps
      exact hret _ _ _ _ (by assumption) (by assumption) ⟨rfl, _, rfl⟩
  obtain ⟨news', N', P⟩ := hb
  exact hret _ _ _ _ F9 N' ⟨_, _, _, hl9, by omega, (by assumption : _ < _ ∧ _ < _ ∧ _ < _ ∧ _ < _ ∧ _ < _ ∧ _ < _ ∧ AllLt _ rest).2.2.2.2.2.2, ⟨_, L', _, d1, d2⟩, P⟩
set_option maxRecDepth 100000 in
set_option maxHeartbeats 0 in
theorem lex_con2 (w : World) (rest : List (Addr × Obj)) (c' : Addr) (oc : Obj) (hoc : NextCode oc) (text : Str) (tt : Tok) (ht : text.length ≤ 1000) (hc' : @Ne Nat c' 239) :
   Con w (.ref 244) [.str text tt] 3 4 ((239, tabObj #[rawInt 178, rawInt 4, .ref c']) :: (c', oc) :: rest) (fun news' r => ∃ l, l.map (·.1) = signs text ∧ LexAt w c' oc ((239, tabObj #[rawInt 178, rawInt 4, .ref c']) :: rest) l news' r) := by
  obtain ⟨vs8, L8, t8, d1, d2⟩ := hoc
  unfold Con
  k_fill
  intro p loose mean mg mb dp un gd cn csc a ccd cl outer A₀ base h₀ L m s Q E hB hF hX hN hT hck hdp hun hret
  (refine' code_defC (binds := [("text", .str text tt)]) ?k1 ?k2 ?k3 ?k4 ?k5 ?kA ?kF ?kK ?k6 ?k7 ?k8 ?k9 ?kB ?kD ?_ ?c2 ?c3 ?c4; (case kA => exact rfl); (case kF => exact rfl); (case kK => assumption); (case k1 => k_asm); (case k2 => k_asm); (case k3 => k_asm); (case k4 => k_asm); (case k5 => k_asm); (case k6 => k_is); (case k7 => k_is); (case k8 => ktr_room); (case k9 => first | exact BindsTo.of_eq rfl | exact binds_K (by k_in) rfl (by k_is) rfl rfl rfl); (case kB => exact rfl); (case kD => decide +kernel); (case c2 => exact rfl); (case c3 => exact rfl); (case c4 => exact rfl); k_whole; intro g' L' h' tk' cells' FG' F' N' Y' B' X' T' l1; (try k_lt l1); k_cells Y'; (try simp only [List.cons_append, List.nil_append] at N'); (try dsimp only); (try k_lift B'); (try k_fold))
  have codeHd : CodeHd g' 243 239 := ⟨_, _, _, _, _, _, _, _, _, X' 243 _ (by k_is), rfl, rfl, rfl, rfl, rfl, rfl, rfl, rfl, by decide⟩
  k_steps
  rename Fr h₀ L _ m => F9
  rename News h₀ L _ _ => N9
  dsimp only at *
  rename _ = Data.cell (some (Value.ref _)) => d3
  rename List.map _ _ = signs text => hl9
  have hb := lex_build (w := w) (tail := (239, tabObj #[rawInt 178, rawInt 4, .ref _]) :: rest) N9 d1 d3 (by k_allIn) ?hNS ?hlt
  case hlt => refine ⟨⟨by omega, allLt_mono (by omega) l1.2.2⟩, ?_, ?_, ?_, ?_, ?_, ?_, ?_, ?_, ?_⟩ <;> omega
  case hNS => 
    clear N9 F9 hret hN hF
    refine ⟨?_, ?_⟩
    · intro rest c tc cs k i ti hcs hoff
      have hl9 : (Value.str c tc :: strValues cs).length ≤ 1001 := by simp only [strValues, List.length_cons, List.length_map]; omega
      unfold Con
      k_fill
      intro p loose mean mg mb dp un gd cn csc a ccd cl outer A₀ base h₀ L m s Q E hB hF hX hN hT hck hdp hun hret
      dsimp only [List.cons_append, List.nil_append] at hN
      k_dflt (refine' code_nest (binds := [("size", .int i ti)]) ?k1 ?k2 ?k3 ?k4 ?k5 ?kA ?kF ?kK ?k6 ?k7 ?k8 ?k9 ?kB ?_ ?c2 ?c3 ?c4 ?c5; (case kA => exact rfl); (case kF => exact rfl); (case kK => assumption); (case k1 => k_asm); (case k2 => k_asm); (case k3 => k_asm); (case k4 => k_asm); (case k5 => k_asm); (case k6 => k_mem); (case k7 => exact codeRec_news (by k_asm) (by k_mem) (by assumption) (by assumption)); (case k8 => ktr_room); (case k9 => exact BindsTo.of_eq rfl); (case c5 => decide); (case kB => exact locs rfl); (case c2 => exact rfl); (case c3 => exact rfl); (case c4 => exact rfl); k_whole; intro g' L' h' FG' F' N' B' X' T'; (try dsimp only); (try k_lift B'); (try k_fold))
      k_steps
      exact hret _ _ _ _ (by assumption) (by assumption) ⟨rfl, rfl⟩
    · intro rest k i ti
      unfold Con
      k_fill
      intro p loose mean mg mb dp un gd cn csc a ccd cl outer A₀ base h₀ L m s Q E hB hF hX hN hT hck hdp hun hret
      dsimp only [List.cons_append, List.nil_append] at hN
      k_dflt (refine' code_nest (binds := [("size", .int i ti)]) ?k1 ?k2 ?k3 ?k4 ?k5 ?kA ?kF ?kK ?k6 ?k7 ?k8 ?k9 ?kB ?_ ?c2 ?c3 ?c4 ?c5; (case kA => exact rfl); (case kF => exact rfl); (case kK => assumption); (case k1 => k_asm); (case k2 => k_asm); (case k3 => k_asm); (case k4 => k_asm); (case k5 => k_asm); (case k6 => k_mem); (case k7 => exact codeRec_news (by k_asm) (by k_mem) (by assumption) (by assumption)); (case k8 => ktr_room); (case k9 => exact BindsTo.of_eq rfl); (case c5 => decide); (case kB => exact locs rfl); (case c2 => exact rfl); (case c3 => exact rfl); (case c4 => exact rfl); k_whole; intro g' L' h' FG' F' N' B' X' T'; (try dsimp only); (try k_lift B'); (try k_fold))
      k_steps
      exact hret _ _ _ _ (by assumption) (by assumption) ⟨rfl, _, rfl⟩
  obtain ⟨news', N', P⟩ := hb
  exact hret _ _ _ _ F9 N' ⟨_, hl9, P⟩
end PC3
section PC4
theorem still_C4 : True := by
  w_top off
  trivial
open PySem.Spec
/-! ## a for over the lexer's reading iterator -/
def RdPost (h₀ : Heap) (L : Addr) (s : Shared) (led : List (Str × Tok) → Nat → List (Addr × Obj)) (J : List (Str × Tok) → (Str → Option Value) → Prop) (n : Nat) (Q : Flow → Shared → Prop) (f : Flow) (s₂ : Shared) : Prop :=
  match f with
  | .ret v => Q (.ret v) s₂
  | .brk => Q .next s₂
  | _ => ∃ h' tk m' cs' k', s₂ = { s with heap := h', toks := tk } ∧ Fr h₀ L h' m' ∧ News h₀ L h' (led cs' k') ∧ J cs' m' ∧ cs'.length < n
section
variable {prog : Program} {w : World} {A : Around} {E : Value → Shared → Prop} {Q : Flow → Shared → Prop} {s : Shared} {env : Env} {h₀ : Heap} {x : Str} {body : List Stmt} {px : Pos}
theorem read_loop {it q f self : Addr} {te : Tok} {m₀ : Str → Option Value} {cs₀ : List (Str × Tok)} {k₀ : Nat} (led : List (Str × Tok) → Nat → List (Addr × Obj)) (fin : Nat → List (Addr × Obj)) (J : List (Str × Tok) → (Str → Option Value) → Prop)
    (hh : A.handled = none) (hx : env.kindOf x = some .local) (hp : (env.scope.kind == .class || (env.scope.kind == .module && env.locals != env.globals)) = false) (hE : PassesOwn (model prog w) A env E)
    (hit : ∀ cs k, (it, ciObj q (Str.ofString "") te) ∈ led cs k) (hq : ∀ cs k, (q, methodObj (.ref f) (.ref self)) ∈ led cs k) (hf : FnAt f h₀)
    (hfin : ∀ k, ∀ p ∈ fin k, p ∈ led [] k ∧ p.1 ≠ it)
    (F : Fr h₀ env.locals s.heap m₀) (N : News h₀ env.locals s.heap (led cs₀ k₀)) (hj : J cs₀ m₀) (hne : ∀ c t cs m, J ((c, t) :: cs) m → Str.ofString "" ≠ c)
    (read : ∀ c t cs k m h tk (R : Result → Shared → Prop), J ((c, t) :: cs) m → Fr h₀ env.locals h m → News h₀ env.locals h (led ((c, t) :: cs) k) →
      (∀ h' tk' k', Fr h₀ env.locals h' m → News h₀ env.locals h' (led cs k') → R (.ok (.ret (.str c t))) { s with heap := h', toks := tk' }) → codeAny (model prog w) A.in1 (.call (.ref f) ⟨[.ref self], []⟩) R { s with heap := h, toks := tk })
    (read0 : ∀ k m h tk (R : Result → Shared → Prop), Fr h₀ env.locals h m → News h₀ env.locals h (led [] k) →
      (∀ t h' tk' k', Fr h₀ env.locals h' m → News h₀ env.locals h' (led [] k') → R (.ok (.ret (.str (Str.ofString "") t))) { s with heap := h', toks := tk' }) → codeAny (model prog w) A.in1 (.call (.ref f) ⟨[.ref self], []⟩) R { s with heap := h, toks := tk })
    (turn : ∀ c t cs k m h tk, J ((c, t) :: cs) m → Fr h₀ env.locals h (fun y => if y = x then some (.str c t) else m y) → News h₀ env.locals h (led cs k) →
      wpAny (model prog w) A (execs body env) (RdPost h₀ env.locals s led J (cs.length + 1) Q) E { s with heap := h, toks := tk })
    (done : ∀ m h tk k, J [] m → Fr h₀ env.locals h m → News h₀ env.locals h (fin k) → Q .next { s with heap := h, toks := tk }) :
    wpAny (model prog w) A (pyIter (.ref it)) (fun iv s₂ => codeAny (model prog w) A (.forLoop (.Name x px) iv body [] env) (fun r s' => match r with | .ok f => Q f s' | .error e => cameBackBy (model prog w) A env E e s') s₂) E s := by
  refine ci_iter (N _ (hit cs₀ k₀)).1 ?_
  have hLi : ∀ {h} {cs k}, News h₀ env.locals h (led cs k) → env.locals ≠ it := fun N e => (N _ (hit _ _)).2.1 e.symm
  refine codeAny_forLoop (R := fun r s' => match r with | .ok f => Q f s' | .error e => cameBackBy (model prog w) A env E e s') (fun n s' => ∃ h tk m cs k, s' = { s with heap := h, toks := tk } ∧ Fr h₀ env.locals h m ∧ News h₀ env.locals h (led cs k) ∧ J cs m ∧ n = cs.length) ?_ cs₀.length
    ⟨s.heap, s.toks, m₀, cs₀, k₀, rfl, F, N, hj, rfl⟩
  rintro n s' ⟨h, tk, m, cs, k, rfl, F₁, N₁, hj₁, rfl⟩
  have hfn : ∀ {h m}, Fr h₀ env.locals h m → FnAt f h := fun F => let ⟨a, b, c, d, e⟩ := hf; ⟨a, b, c, d, F.keep _ _ e⟩
  cases cs with
  | nil =>
    refine ci_next hh (N₁ _ (hit [] k)).1 (N₁ _ (hq [] k)).1 (hfn F₁) (read0 k m h tk _ F₁ N₁ fun t h' tk' k' F₂ N₂ => ⟨_, t, rfl, (N₂ _ (hit [] k')).1, (N₂ _ (hq [] k')).1, hfn F₂, ?_⟩)
    rw [if_pos rfl]
    intro h₃ hx₃
    refine wpAny_execs_nil (done m h₃ tk' k' hj₁ ⟨F₂.ns.at' fun o e => hx₃ _ o (hLi N₂) e, fun b o e => hx₃ b o (fun (q : b = it) => ?_) (F₂.keep b o e), F₂.above⟩ fun p hp => ?_)
    · rw [q, (N₂ _ (hit [] k')).2.2] at e; cases e
    · have hm := hfin k' p hp
      exact ⟨hx₃ _ _ hm.2 (N₂ p hm.1).1, (N₂ p hm.1).2⟩
  | cons a r =>
    obtain ⟨c, t⟩ := a
    refine ci_next hh (N₁ _ (hit _ k)).1 (N₁ _ (hq _ k)).1 (hfn F₁) (read c t r k m h tk _ hj₁ F₁ N₁ fun h' tk' k' F₂ N₂ => ⟨_, t, rfl, (N₂ _ (hit r k')).1, (N₂ _ (hq r k')).1, hfn F₂, ?_⟩)
    rw [if_neg (hne c t r m hj₁)]
    refine wpAny_assign_Name (wpAny_storeName_local hx F₂.ns (fun h₃ hn hs => ?_) hp)
    refine wpAny_mono (wpAny_passesOwn hE (turn c t r k' m h₃ _ hj₁ (F₂.set hn hs) (N₂.set hs))) (fun fl s₃ hp₃ => ?_) fun _ _ e => e
    have go : (∃ h' tk m' cs' k', s₃ = { s with heap := h', toks := tk } ∧ Fr h₀ env.locals h' m' ∧ News h₀ env.locals h' (led cs' k') ∧ J cs' m' ∧ cs'.length < r.length + 1) →
        ∃ n', n' < (((c, t) :: r : List (Str × Tok))).length ∧ ∃ h tk m cs k, s₃ = { s with heap := h, toks := tk } ∧ Fr h₀ env.locals h m ∧ News h₀ env.locals h (led cs k) ∧ J cs m ∧ n' = cs.length := by
      rintro ⟨h', tk, m', cs', k', e, F', N', hj', hlt⟩
      exact ⟨cs'.length, hlt, h', tk, m', cs', k', e, F', N', hj', rfl⟩
    cases fl with
    | ret v => exact hp₃
    | brk => exact hp₃
    | next => exact go hp₃
    | cont => exact go hp₃
end
end PC4
section PC5
theorem still_C5 : True := by
  w_top off
  trivial
local macro_rules | `(tactic| walk_at "idle 0") => `(tactic| fail)
local macro_rules | `(tactic| walk_at "idle 1") => `(tactic| fail)
local macro_rules | `(tactic| walk_at "idle 2") => `(tactic| fail)
open PySem.Spec
/-! ## get_token: reading a quoted word -/
def skipB : List (Str × Tok) → Option (List (Str × Tok))
  | [] => none
  | (c, _) :: r => if c = Str.ofString " " then skipB r else if c = Str.ofString "\"" then some r else none
def bodyB : List (Str × Tok) → Str → Option (Str × List (Str × Tok))
  | [], _ => none
  | [(c, _)], acc => if c = Str.ofString "\"" then some (acc, []) else none
  | (c, _) :: (d, td) :: r, acc => if c = Str.ofString "\"" then some (acc, (d, td) :: r) else if c = Str.ofString "\\" then bodyB r (acc ++ d) else bodyB ((d, td) :: r) (acc ++ c)

theorem bodyB_q {t : Tok} {cs : List (Str × Tok)} {acc tok : Str} {r2 : List (Str × Tok)} (h : bodyB ((Str.ofString "\"", t) :: cs) acc = some (tok, r2)) : acc = tok ∧ cs = r2 := by
  cases cs with
  | nil => unfold bodyB at h; rw [if_pos rfl] at h; cases h; exact ⟨rfl, rfl⟩
  | cons d r => obtain ⟨d, td⟩ := d; unfold bodyB at h; rw [if_pos rfl] at h; cases h; exact ⟨rfl, rfl⟩
theorem bodyB_b {t : Tok} {cs : List (Str × Tok)} {acc : Str} {o : Str × List (Str × Tok)} (h : bodyB ((Str.ofString "\\", t) :: cs) acc = some o) : ∃ d td r, cs = (d, td) :: r ∧ bodyB r (acc ++ d) = some o := by
  have hn : ¬ Str.ofString "\\" = Str.ofString "\"" := by decide +kernel
  cases cs with
  | nil => unfold bodyB at h; rw [if_neg hn] at h; cases h
  | cons d r => obtain ⟨d, td⟩ := d; unfold bodyB at h; rw [if_neg hn, if_pos rfl] at h; exact ⟨d, td, r, rfl, h⟩
theorem bodyB_o {c : Str} {t : Tok} {cs : List (Str × Tok)} {acc : Str} {o : Str × List (Str × Tok)} (hq : ¬ c = Str.ofString "\"") (hb : ¬ c = Str.ofString "\\") (h : bodyB ((c, t) :: cs) acc = some o) : bodyB cs (acc ++ c) = some o := by
  cases cs with
  | nil => unfold bodyB at h; rw [if_neg hq] at h; cases h
  | cons d r => obtain ⟨d, td⟩ := d; unfold bodyB at h; rw [if_neg hq, if_neg hb] at h; exact h

theorem iter2_K {prog : Program} {w : World} {A : Around} {E : Value → Shared → Prop} {s : Shared} {h₀ : Heap} {L : Addr} {m : Str → Option Value} {news : List (Addr × Obj)} {q : Addr} {f self : Value} {e : Str} {te : Tok} {Q : Value → Shared → Prop}
    (F : Fr h₀ L s.heap m) (N : News h₀ L s.heap news) (hq : (q, methodObj f self) ∈ news)
    (h : ∀ it h', Fr h₀ L h' m → News h₀ L h' ((it, ciObj q e te) :: news) → (∀ p ∈ news, p.1 < it) → Q (.ref it) { s with heap := h' }) :
    wpAny (model prog w) A (call (.builtin "iter") [.ref q, .str e te]) Q E s :=
  iter2 (N _ hq).1 (h _ _ (F.push _) (N.push F _) fun p hp => Heap.lt_size (N p hp).1)

local macro_rules | `(tactic| walk_at "call builtin:iter") => `(tactic| (k_here; k_dflt (refine' iter2_K ?F ?N ?q ?_; (case F => k_asm); (case N => k_asm); (case q => k_mem)); intro i' h' F' N' l1; (try k_lt l1); (try k_sweep)))
local macro_rules | `(tactic| walk_at "exec For") => `(tactic| ((fail_if_success (have : Go 1 := by assumption)); refine Stop.mk ?_))
local macro_rules | `(tactic| walk_at "call ref") => `(tactic| (refine Stop.mk ?_))
set_option maxRecDepth 100000 in
set_option maxHeartbeats 0 in
theorem tok_con (w : World) (rest : List (Addr × Obj)) (x dx pb xs dxs pb2 la f c' cell : Addr) (fc : Value) (fod : Option Addr) (fd : FuncData) (fsl : Array (Option Value)) (oc co : Obj) (t u : Nat → Tok) (ln : Int) (k n : Nat) (cs r1 r2 : List (Str × Tok)) (tok : Str)
   (hNS : NextSpec w f la [(f, (⟨fc, fod, .func fd, fsl⟩ : Obj)), (c', oc), (cell, co)]) (hoff : OwnOff rest [la]) (h1 : @Ne Nat la dx) (h2 : @Ne Nat la x) (h3 : @Ne Nat la dxs) (h4 : @Ne Nat la xs) (h5 : @Ne Nat la pb) (hl : cs.length ≤ 1000)
   (hch : ∀ p ∈ cs, p.1.length = 1 ∧ p.1 ≠ Str.ofString "\n") (hs1 : skipB cs = some r1) (hs2 : bodyB r1 (Str.ofString "") = some (tok, r2)) :
   Con w (.ref 73) [.ref x] 4 4 ((la, listOf (strValues cs).toArray k) :: (f, (⟨fc, fod, .func fd, fsl⟩ : Obj)) :: (c', oc) :: (cell, co) :: (dx, lexO w.params t (ln) (.ref xs) (pb)) :: (x, instObj 83 dx) :: (dxs, strO w.params u (pb2) (f)) :: (xs, instObj 83 dxs) :: (pb, listOf #[] n) :: rest)
     (fun news' r => ∃ k' tt, news' = (la, listOf (strValues r2).toArray k') :: (f, (⟨fc, fod, .func fd, fsl⟩ : Obj)) :: (c', oc) :: (cell, co) :: (dx, lexO w.params t (ln) (.ref xs) (pb)) :: (x, instObj 83 dx) :: (dxs, strO w.params u (pb2) (f)) :: (xs, instObj 83 dxs) :: (pb, listOf #[] n) :: rest ∧ r = .str tok tt) := by
  unfold Con
  k_fill
  intro p loose mean mg mb dp un gd cn csc a ccd cl outer A₀ base h₀ L m s Q E hB hF hX hN hT hck hdp hun hret
  (refine' code_def (binds := [("self", .ref x)]) ?k1 ?k2 ?k3 ?k4 ?k5 ?kA ?kF ?kK ?k6 ?k7 ?k8 ?k9 ?kB ?_ ?c2 ?c3 ?c4 ?c5; (case kA => exact rfl); (case kF => exact rfl); (case kK => assumption); (case k1 => k_asm); (case k2 => k_asm); (case k3 => k_asm); (case k4 => k_asm); (case k5 => k_asm); (case k6 => k_is); (case k7 => k_is); (case k8 => ktr_room); (case k9 => first | exact BindsTo.of_eq rfl | exact binds_K (by k_in) rfl (by k_is) rfl rfl rfl); (case c5 => decide); (case kB => exact locs rfl); (case c2 => exact rfl); (case c3 => exact rfl); (case c4 => exact rfl); k_whole; intro g' L' h' FG' F' N' B' X' T'; (try dsimp only); (try k_lift B'); (try k_fold))
  k_steps
  refine Stop.out ?_
  rename Fr g' L' _ _ => F9
  rename News g' L' _ _ => N9
  with_unfolding_all refine' wpAny_For ?_ ?ks
  case ks => intro _; rfl
  walk1
  rename_i q9 _ l1a i9 _ l1b _
  obtain ⟨te9, N9⟩ : ∃ te9, News g' L' _ ((la, listOf (strValues cs).toArray k) :: (f, (⟨fc, fod, .func fd, fsl⟩ : Obj)) :: (c', oc) :: (cell, co) :: (dx, lexO w.params t (ln) (.ref xs) (pb)) :: (x, instObj 83 dx) :: (dxs, strO w.params u (pb2) (f)) :: (xs, instObj 83 dxs) :: (i9, ciObj q9 (Str.ofString "") te9) :: (q9, methodObj (.ref 66) (.ref x)) :: (pb, listOf #[] n) :: rest) := ⟨_, News.sub N9 (by k_allIn)⟩
  refine read_loop (q := q9) (f := 66) (self := x) (te := te9) (cs₀ := cs) (k₀ := k) (fun cs k => (la, listOf (strValues cs).toArray k) :: (f, (⟨fc, fod, .func fd, fsl⟩ : Obj)) :: (c', oc) :: (cell, co) :: (dx, lexO w.params t (ln) (.ref xs) (pb)) :: (x, instObj 83 dx) :: (dxs, strO w.params u (pb2) (f)) :: (xs, instObj 83 dxs) :: (i9, ciObj q9 (Str.ofString "") te9) :: (q9, methodObj (.ref 66) (.ref x)) :: (pb, listOf #[] n) :: rest)
    (fun k => (la, listOf #[] k) :: (f, (⟨fc, fod, .func fd, fsl⟩ : Obj)) :: (c', oc) :: (cell, co) :: (dx, lexO w.params t (ln) (.ref xs) (pb)) :: (x, instObj 83 dx) :: (dxs, strO w.params u (pb2) (f)) :: (xs, instObj 83 dxs) :: (q9, methodObj (.ref 66) (.ref x)) :: (pb, listOf #[] n) :: rest)
    (fun cs m => m "self" = some (.ref x) ∧ (∃ tt, m "token" = some (.str (Str.ofString "") tt)) ∧ m "fiter" = some (.ref i9) ∧ skipB cs = some r1 ∧ (∀ p ∈ cs, p.1.length = 1 ∧ p.1 ≠ Str.ofString "\n") ∧ cs.length ≤ 1000) rfl rfl rfl (by passes_own) ?hit ?hq ?hf ?hfin F9 N9 ?hj ?hne ?read ?read0 ?turn ?done
  case hit => intro cs k; k_memK
  case hq => intro cs k; k_memK
  case hf => exact ⟨_, _, _, _, X' 66 _ (by k_is)⟩
  case hfin => 
    intro k p hp
    refine ⟨?_, ?_⟩
    · revert p; k_allIn
    · revert p; k_all
  case hj => exact ⟨rfl, ⟨_, rfl⟩, rfl, hs1, hch, hl⟩
  case hne => 
    rintro c t cs m ⟨-, -, -, -, hc, -⟩ e
    have := (hc _ (.head _)).1
    rw [← e] at this
    cases this
  case read =>
    rintro c t cs k m h tk R ⟨-, -, -, -, hc, hl⟩ F N hR
    refine Con.code (read_con w ((i9, ciObj q9 (Str.ofString "") te9) :: (q9, methodObj (.ref 66) (.ref x)) :: (pb, listOf #[] n) :: rest) x dx pb xs dxs pb2 la f c' cell fc fod fd fsl oc co c t cs k _ u ln hNS ?_ h1 h2 h3 h4 ?_ ?_) B' F X' N T' rfl (by ktr_room) (by ktr_units) ?_
    · intro p hp b hb
      rw [List.mem_singleton.mp hb]
      revert p
      k_all
    · exact Nat.le_of_succ_le hl
    · exact (hc _ (.head _)).2
    · rintro r h' tk' news' F' N' hp90
      try k_fold
      obtain ⟨rfl, rfl⟩ := hp90
      exact hR h' tk' (k + 1) F' N'
  case read0 =>
    intro k m h tk R F N hR
    refine Con.code (read_con0 w ((i9, ciObj q9 (Str.ofString "") te9) :: (q9, methodObj (.ref 66) (.ref x)) :: (pb, listOf #[] n) :: rest) x dx pb xs dxs pb2 la f c' cell fc fod fd fsl oc co k _ u ln hNS) B' F X' N T' rfl (by ktr_room) (by ktr_units) ?_
    rintro r h' tk' news' F' N' hp90
    try k_fold
    obtain ⟨rfl, t', rfl⟩ := hp90
    exact hR t' h' tk' k F' N'
  case done =>
    rintro m h tk k ⟨-, -, -, hs, -⟩
    cases hs
  case turn =>
    rintro c tc cs k m h tk ⟨hm1, ⟨tt, hm2⟩, hm3, hs, hc, hl⟩ F N
    have F2 := Fr.turn [("self", .ref x), ("token", .str (Str.ofString "") tt), ("fiter", .ref i9)] F (al_cons hm1 (al_cons hm2 (al_cons hm3 al_nil)))
    clear F F9 N9 
    have hw1 : (Builtin.Str.occurrences "\n\t\r " " " 0 (Str.ofString "\n\t\r ").length 1).isEmpty = false := by decide +kernel
    have hw2 : (Builtin.Str.occurrences "\n\t\r " "\"" 0 (Str.ofString "\n\t\r ").length 1).isEmpty = true := by decide +kernel
    by_cases hcb : c = Str.ofString " "
    · subst hcb
      have hs' : skipB cs = some r1 := by simpa [skipB] using hs
      k_steps
      · exfalso
        refine Stop.out ?_
        rename _ = true => hq
        rw [hw1] at hq; cases hq
      · exact ⟨_, _, _, cs, k, rfl, by assumption, by assumption, ⟨rfl, ⟨_, rfl⟩, rfl, hs', fun p hp => hc p (.tail _ hp), Nat.le_of_succ_le hl⟩, Nat.lt_succ_self _⟩
    · have hcq : c = Str.ofString "\"" ∧ r1 = cs := by
        unfold skipB at hs
        rw [if_neg hcb] at hs
        split at hs
        · exact ⟨by assumption, by cases hs; rfl⟩
        · cases hs
      obtain ⟨rfl, rfl⟩ := hcq
      k_steps
      · refine Stop.out ?_
        rename Fr g' _ _ _ => F8
        rename News g' _ _ _ => N8
        with_unfolding_all refine' wpAny_For ?_ ?ks
        case ks => intro _; rfl
        walk1
        refine read_loop (q := q9) (f := 66) (self := x) (te := te9) (cs₀ := r1) (k₀ := k) (fun cs k => (la, listOf (strValues cs).toArray k) :: (f, (⟨fc, fod, .func fd, fsl⟩ : Obj)) :: (c', oc) :: (cell, co) :: (dx, lexO w.params t (ln) (.ref xs) (pb)) :: (x, instObj 83 dx) :: (dxs, strO w.params u (pb2) (f)) :: (xs, instObj 83 dxs) :: (i9, ciObj q9 (Str.ofString "") te9) :: (q9, methodObj (.ref 66) (.ref x)) :: (pb, listOf #[] n) :: rest)
          (fun k => (la, listOf #[] k) :: (f, (⟨fc, fod, .func fd, fsl⟩ : Obj)) :: (c', oc) :: (cell, co) :: (dx, lexO w.params t (ln) (.ref xs) (pb)) :: (x, instObj 83 dx) :: (dxs, strO w.params u (pb2) (f)) :: (xs, instObj 83 dxs) :: (q9, methodObj (.ref 66) (.ref x)) :: (pb, listOf #[] n) :: rest)
          (fun cs m => m "self" = some (.ref x) ∧ (∃ acc tt, m "token" = some (.str acc tt) ∧ bodyB cs acc = some (tok, r2) ∧ acc.length + cs.length ≤ 1000) ∧ m "fiter" = some (.ref i9) ∧ (∀ p ∈ cs, p.1.length = 1 ∧ p.1 ≠ Str.ofString "\n")) rfl rfl rfl (by passes_own) ?hit ?hq ?hf ?hfin F8 (News.sub N8 (by k_allIn)) ?hj ?hne ?read ?read0 ?turn ?done
        case hit => intro cs k; k_memK
        case hq => intro cs k; k_memK
        case hf => exact ⟨_, _, _, _, X' 66 _ (by k_is)⟩
        case hfin => 
          intro k p hp
          refine ⟨?_, ?_⟩
          · revert p; k_allIn
          · revert p; k_all
        case hj => exact ⟨rfl, ⟨_, _, rfl, hs2, by rw [show (Str.ofString "").length = 0 from rfl]; simp only [List.length_cons] at hl; omega⟩, rfl, fun p hp => hc p (.tail _ hp)⟩
        case hne => 
          rintro c t cs m ⟨-, -, -, hc⟩ e
          have := (hc _ (.head _)).1
          rw [← e] at this
          cases this
        case read =>
          rintro c t cs k m h tk R ⟨-, ⟨_, _, _, _, hl⟩, -, hc⟩ F N hR
          refine Con.code (read_con w ((i9, ciObj q9 (Str.ofString "") te9) :: (q9, methodObj (.ref 66) (.ref x)) :: (pb, listOf #[] n) :: rest) x dx pb xs dxs pb2 la f c' cell fc fod fd fsl oc co c t cs k _ u ln hNS ?_ h1 h2 h3 h4 ?_ ?_) B' F X' N T' rfl (by ktr_room) (by ktr_units) ?_
          · intro p hp b hb
            rw [List.mem_singleton.mp hb]
            revert p
            k_all
          · simp only [List.length_cons] at hl; omega
          · exact (hc _ (.head _)).2
          · rintro r h' tk' news' F' N' hp90
            try k_fold
            obtain ⟨rfl, rfl⟩ := hp90
            exact hR h' tk' (k + 1) F' N'
        case read0 =>
          intro k m h tk R F N hR
          refine Con.code (read_con0 w ((i9, ciObj q9 (Str.ofString "") te9) :: (q9, methodObj (.ref 66) (.ref x)) :: (pb, listOf #[] n) :: rest) x dx pb xs dxs pb2 la f c' cell fc fod fd fsl oc co k _ u ln hNS) B' F X' N T' rfl (by ktr_room) (by ktr_units) ?_
          rintro r h' tk' news' F' N' hp90
          try k_fold
          obtain ⟨rfl, t', rfl⟩ := hp90
          exact hR t' h' tk' k F' N'
        case done =>
          rintro m h tk k ⟨-, ⟨_, _, _, hs, _⟩, -⟩
          cases hs
        case turn =>
          rintro c t' cs k m h tk ⟨hm1, ⟨acc, tt, hm2, hb, hlen⟩, hm3, hc⟩ F N
          have F3 := Fr.turn [("self", .ref x), ("token", .str acc tt), ("fiter", .ref i9)] F (al_cons hm1 (al_cons hm2 (al_cons hm3 al_nil)))
          clear F F8 N8 
          have hl1 : c.length = 1 := (hc _ (.head _)).1
          have hz : acc.length + c.length ≤ sizeLine := by simp only [List.length_cons] at hlen; rw [sizeLine_eq]; omega
          by_cases hcq : c = Str.ofString "\""
          · subst hcq
            obtain ⟨rfl, rfl⟩ := bodyB_q hb
            k_steps
            dsimp only [RdPost]
            k_steps
            rename News h₀ _ _ _ => N7
            refine hret _ _ _ _ (by assumption) ?_ ⟨k, _, rfl, rfl⟩
            exact News.sub N7 (by k_allIn)
          · by_cases hcb : c = Str.ofString "\\"
            · subst hcb
              obtain ⟨d, td, r, rfl, hb'⟩ := bodyB_b hb
              have hl2 : d.length = 1 := (hc _ (.tail _ (.head _))).1
              have hz2 : acc.length + d.length ≤ sizeLine := by simp only [List.length_cons] at hlen; rw [sizeLine_eq]; omega
              k_steps
              refine Stop.out ?_
              rename Fr g' _ _ _ => F7
              rename News g' _ _ _ => N7
              refine Con.use (read_con w ((i9, ciObj q9 (Str.ofString "") te9) :: (q9, methodObj (.ref 66) (.ref x)) :: (pb, listOf #[] n) :: rest) x dx pb xs dxs pb2 la f c' cell fc fod fd fsl oc co d td r k _ u ln hNS ?_ h1 h2 h3 h4 ?_ ?_) B' F7 X' N7 T' rfl (by ktr_room) (by ktr_units) ?_
              · intro p hp b hb
                rw [List.mem_singleton.mp hb]
                revert p
                k_all
              · simp only [List.length_cons] at hlen; omega
              · exact (hc _ (.tail _ (.head _))).2
              · rintro rr h' tk' news' F6 N6 hp90
                try k_fold
                obtain ⟨rfl, rfl⟩ := hp90
                clear F7 N7
                k_steps
                exact ⟨_, _, _, r, k + 1, rfl, by assumption, by assumption, ⟨rfl, ⟨_, _, rfl, hb', by simp only [Str.length_append, List.length_cons] at hlen ⊢; omega⟩, rfl, fun p hp => hc p (.tail _ (.tail _ hp))⟩, by simp only [List.length_cons]; omega⟩
            · have hq1 : (c == Str.ofString "\"") = false := by simpa using hcq
              have hq2 : (c == Str.ofString "\\") = false := by simpa using hcb
              have hb' := bodyB_o hcq hcb hb
              k_steps
              exact ⟨_, _, _, cs, k, rfl, by assumption, by assumption, ⟨rfl, ⟨_, _, rfl, hb', by simp only [Str.length_append, List.length_cons] at hlen ⊢; omega⟩, rfl, fun p hp => hc p (.tail _ hp)⟩, Nat.lt_succ_self _⟩
      · exfalso
        rename _ = false => hq
        rw [hw2] at hq; cases hq
end PC5
section PC6
theorem still_C6 : True := by
  w_top off
  trivial
open PySem.Spec
/-! ## get_token: nothing pushed, nothing left -/
local macro_rules | `(tactic| walk_at "call builtin:iter") => `(tactic| (k_here; k_dflt (refine' iter2_K ?F ?N ?q ?_; (case F => k_asm); (case N => k_asm); (case q => k_mem)); intro i' h' F' N' l1; (try k_lt l1); (try k_sweep)))
local macro_rules | `(tactic| walk_at "exec For") => `(tactic| ((fail_if_success (have : Go 1 := by assumption)); refine Stop.mk ?_))
local macro_rules | `(tactic| walk_at "call ref") => `(tactic| (refine Stop.mk ?_))
set_option maxRecDepth 100000 in
set_option maxHeartbeats 0 in
theorem tok0_con (w : World) (rest : List (Addr × Obj)) (x dx pb xs dxs pb2 la f c' cell : Addr) (fc : Value) (fod : Option Addr) (fd : FuncData) (fsl : Array (Option Value)) (oc co : Obj) (t u : Nat → Tok) (ln : Int) (k n : Nat)
   (hNS : NextSpec w f la [(f, (⟨fc, fod, .func fd, fsl⟩ : Obj)), (c', oc), (cell, co)]) :
   Con w (.ref 73) [.ref x] 4 4 ((la, listOf #[] k) :: (f, (⟨fc, fod, .func fd, fsl⟩ : Obj)) :: (c', oc) :: (cell, co) :: (dx, lexO w.params t (ln) (.ref xs) (pb)) :: (x, instObj 83 dx) :: (dxs, strO w.params u (pb2) (f)) :: (xs, instObj 83 dxs) :: (pb, listOf #[] n) :: rest)
     (fun news' r => news' = (la, listOf #[] k) :: (f, (⟨fc, fod, .func fd, fsl⟩ : Obj)) :: (c', oc) :: (cell, co) :: (dx, lexO w.params t (ln) (.ref xs) (pb)) :: (x, instObj 83 dx) :: (dxs, strO w.params u (pb2) (f)) :: (xs, instObj 83 dxs) :: (pb, listOf #[] n) :: rest ∧ ∃ tt, r = .str (Str.ofString "") tt) := by
  unfold Con
  k_fill
  intro p loose mean mg mb dp un gd cn csc a ccd cl outer A₀ base h₀ L m s Q E hB hF hX hN hT hck hdp hun hret
  (refine' code_def (binds := [("self", .ref x)]) ?k1 ?k2 ?k3 ?k4 ?k5 ?kA ?kF ?kK ?k6 ?k7 ?k8 ?k9 ?kB ?_ ?c2 ?c3 ?c4 ?c5; (case kA => exact rfl); (case kF => exact rfl); (case kK => assumption); (case k1 => k_asm); (case k2 => k_asm); (case k3 => k_asm); (case k4 => k_asm); (case k5 => k_asm); (case k6 => k_is); (case k7 => k_is); (case k8 => ktr_room); (case k9 => first | exact BindsTo.of_eq rfl | exact binds_K (by k_in) rfl (by k_is) rfl rfl rfl); (case c5 => decide); (case kB => exact locs rfl); (case c2 => exact rfl); (case c3 => exact rfl); (case c4 => exact rfl); k_whole; intro g' L' h' FG' F' N' B' X' T'; (try dsimp only); (try k_lift B'); (try k_fold))
  k_steps
  refine Stop.out ?_
  rename Fr g' L' _ _ => F9
  rename News g' L' _ _ => N9
  with_unfolding_all refine' wpAny_For ?_ ?ks
  case ks => intro _; rfl
  walk1
  rename_i q9 _ l1a i9 _ l1b _
  obtain ⟨te9, N9⟩ : ∃ te9, News g' L' _ ((la, listOf #[] k) :: (f, (⟨fc, fod, .func fd, fsl⟩ : Obj)) :: (c', oc) :: (cell, co) :: (dx, lexO w.params t (ln) (.ref xs) (pb)) :: (x, instObj 83 dx) :: (dxs, strO w.params u (pb2) (f)) :: (xs, instObj 83 dxs) :: (i9, ciObj q9 (Str.ofString "") te9) :: (q9, methodObj (.ref 66) (.ref x)) :: (pb, listOf #[] n) :: rest) := ⟨_, News.sub N9 (by k_allIn)⟩
  refine read_loop (q := q9) (f := 66) (self := x) (te := te9) (cs₀ := []) (k₀ := k) (fun cs _ => (la, listOf (strValues cs).toArray k) :: (f, (⟨fc, fod, .func fd, fsl⟩ : Obj)) :: (c', oc) :: (cell, co) :: (dx, lexO w.params t (ln) (.ref xs) (pb)) :: (x, instObj 83 dx) :: (dxs, strO w.params u (pb2) (f)) :: (xs, instObj 83 dxs) :: (i9, ciObj q9 (Str.ofString "") te9) :: (q9, methodObj (.ref 66) (.ref x)) :: (pb, listOf #[] n) :: rest)
    (fun _ => (la, listOf #[] k) :: (f, (⟨fc, fod, .func fd, fsl⟩ : Obj)) :: (c', oc) :: (cell, co) :: (dx, lexO w.params t (ln) (.ref xs) (pb)) :: (x, instObj 83 dx) :: (dxs, strO w.params u (pb2) (f)) :: (xs, instObj 83 dxs) :: (q9, methodObj (.ref 66) (.ref x)) :: (pb, listOf #[] n) :: rest)
    (fun cs m => m "self" = some (.ref x) ∧ (∃ tt, m "token" = some (.str (Str.ofString "") tt)) ∧ m "fiter" = some (.ref i9) ∧ cs = []) rfl rfl rfl (by passes_own) ?hit ?hq ?hf ?hfin F9 N9 ?hj ?hne ?read ?read0 ?turn ?done
  case hit => intro cs k; k_memK
  case hq => intro cs k; k_memK
  case hf => exact ⟨_, _, _, _, X' 66 _ (by k_is)⟩
  case hfin => 
    intro k p hp
    refine ⟨?_, ?_⟩
    · revert p; k_allIn
    · revert p; k_all
  case hj => exact ⟨rfl, ⟨_, rfl⟩, rfl, rfl⟩
  case hne => 
    rintro c t cs m ⟨-, -, -, hc⟩ e
    cases hc
  case read =>
    rintro c t cs k' m h tk R ⟨-, -, -, hc⟩ F N hR
    cases hc
  case read0 =>
    intro k' m h tk R F N hR
    refine Con.code (read_con0 w ((i9, ciObj q9 (Str.ofString "") te9) :: (q9, methodObj (.ref 66) (.ref x)) :: (pb, listOf #[] n) :: rest) x dx pb xs dxs pb2 la f c' cell fc fod fd fsl oc co k _ u ln hNS) B' F X' N T' rfl (by ktr_room) (by ktr_units) ?_
    rintro r h' tk' news' F' N' hp90
    try k_fold
    obtain ⟨rfl, t', rfl⟩ := hp90
    exact hR t' h' tk' k' F' N'
  case turn =>
    rintro c tc cs k' m h tk ⟨-, -, -, hc⟩
    cases hc
  case done =>
    rintro m h tk k' ⟨hm1, ⟨tt, hm2⟩, hm3, -⟩ F N
    have F2 := Fr.al [("self", .ref x), ("token", .str (Str.ofString "") tt), ("fiter", .ref i9)] F (al_cons hm1 (al_cons hm2 (al_cons hm3 al_nil)))
    clear F F9 N9
    k_steps
    rename News h₀ _ _ _ => N7
    refine hret _ _ _ _ (by assumption) ?_ ⟨rfl, _, rfl⟩
    exact News.sub N7 (by k_allIn)
end PC6
section PC7
theorem still_C7 : True := by
  w_top off
  trivial
open PySem.Spec
/-! ## a regular expression that finds nothing -/
def ok1 (code : Array Nat) (c : Nat) : Prop := ∀ seen, ∃ seen', Sre.inSet code c code.size 5 true seen = .ok (false, seen')
def firstSet (code : Array Nat) : Bool := (match Sre.ops[code.getD 0 0]? with | some Sre.Op.INFO => true | _ => false) && code.getD 2 0 == 4
theorem admitted_none (m : Sre.M) (h : ∀ i, i < m.lim → ok1 m.code (m.text.getD i 0)) : ∀ fuel s seen, ∃ seen', m.admitted fuel s seen = .ok (none, seen')
  | 0, _, seen => ⟨seen, rfl⟩
  | fuel + 1, s, seen => by
    unfold Sre.M.admitted
    by_cases hs : s ≥ m.lim
    · rw [if_pos hs]; exact ⟨seen, rfl⟩
    · rw [if_neg hs]
      obtain ⟨seen', e⟩ := h s (by omega) seen
      rw [e]
      exact admitted_none m h fuel (s + 1) seen'
def Lost (m : Sre.M) : Prop := m.answer = some false ∧ m.frames = [] ∧ m.outcome = none
theorem attemptFrom_lost (m : Sre.M) (h : ∀ i, i < m.lim → ok1 m.code (m.text.getD i 0)) (hf : m.hasFirstSet = true) (h2 : m.frames = []) (h3 : m.outcome = none) (s : Nat) : Lost (m.attemptFrom s true) := by
  unfold Sre.M.attemptFrom
  rw [hf]
  obtain ⟨seen', e⟩ := admitted_none m h (m.lim + 1 - s) s m.seen
  rw [e]
  exact ⟨rfl, h2, h3⟩
theorem forSearch_lost (code text : Array Nat) (pos lim : Nat) (h : ∀ i, i < lim → ok1 code (text.getD i 0)) (hf : firstSet code = true) : Lost (Sre.forSearch code text 0 pos lim false) := by
  unfold Sre.forSearch
  dsimp only
  split
  · exact ⟨rfl, rfl, rfl⟩
  · refine attemptFrom_lost _ ?_ ?_ ?_ ?_ pos
    · exact h
    · exact hf
    · rfl
    · rfl
theorem runFor_lost (m : Sre.M) (h : Lost m) : m.runFor Builtin.Re.reTurnSteps = { m with outcome := some .failed } := by
  obtain ⟨h1, h2, h3⟩ := h
  cases m
  dsimp only at h1 h2 h3
  subst h1 h2 h3
  rfl
section
variable {prog : Program} {w : World} {A : Around} {E : Value → Shared → Prop} {s : Shared}
theorem drive_lost {m : Sre.M} {Q : Sre.M → Shared → Prop} (h : Lost m) (hQ : Q { m with outcome := some .failed } s) : wpAny (model prog w) A (Builtin.Re.reDrive (2 ^ 64) m) Q E s := by
  rw [show (2 : Nat) ^ 64 = 18446744073709551615 + 1 from rfl]
  have e : Builtin.Re.reDrive (18446744073709551615 + 1) m = (if (m.runFor Builtin.Re.reTurnSteps).outcome.isSome then pure (m.runFor Builtin.Re.reTurnSteps) else do rule "sre.turn"; Builtin.Re.reDrive 18446744073709551615 (m.runFor Builtin.Re.reTurnSteps)) := rfl
  rw [e, runFor_lost m h]
  exact wpAny_pure hQ
theorem run_lost {m : Sre.M} {Q : Option Sre.M → Shared → Prop} (h : Lost m) (hQ : Q none s) : wpAny (model prog w) A (Builtin.Re.reRunToEnd m) Q E s := by
  unfold Builtin.Re.reRunToEnd
  refine wpAny_bind (drive_lost h ?_)
  refine wpAny_bind (wpAny_forIn_list _ (fun _ _ s' => s' = s) _ ?_ ?_ _ _ rfl)
  · rintro i rest b s' rfl
    split
    · exact wpAny_bind (wpAny_rule (wpAny_pure rfl))
    · exact wpAny_pure rfl
  · rintro b s' rfl
    exact wpAny_pure hQ

theorem slot_re_search : Slot "re.Pattern" "search" "re.Pattern.search" :=
  .of (owner := "re.Pattern") (n := "search") (by rw [typeLookup_type, builtinLookup_eq_fast]; kernel_rfl) (by decide +kernel) (by decide +kernel) (by decide +kernel)
    (by first | exact .inl (by decide +kernel) | exact .inr (by decide +kernel)) (by rw [isSubtype_type]; kernel_rfl)
theorem entry_re_search : entryFor table "re.Pattern.search" = some Builtin.«re.Pattern.search» := entryFor_of_tree (by kernel_rfl)
theorem args_re_search (a b : Value) : argsOk "re.Pattern.search" ⟨[a, b], []⟩ := by unfold argsOk; kernel_rfl

def SafeIn (code : Array Nat) (x : Str) : Prop := (∀ i, i < x.cps.size → ok1 code (x.cps.getD i 0)) ∧ firstSet code = true
theorem plain_re : PlainAttrs "re.Pattern" :=
  ⟨⟨"object.__getattribute__", by rw [typeLookup_type, builtinLookup_eq_fast]; kernel_rfl, by decide +kernel⟩, by rw [typeLookup_type, builtinLookup_eq_fast]; kernel_rfl⟩
theorem type_re_search : typeOf (.builtin "re.Pattern.search") = pure (.type "method_descriptor") := by show builtinType _ = _; rw [builtinType_eq_fast]; kernel_rfl
theorem re_method {p : Addr} {o : Obj} {pl : Sem Bool} {Q : Value × List Value → Shared → Prop} (ho : s.heap.get? p = some o) (hc : o.cls = .type "re.Pattern") (hd : o.dict = none)
    (h : Q (.builtin "re.Pattern.search", [.ref p]) s) : wpAny (model prog w) A (getMethod (.ref p) "search" pl) Q E s :=
  getMethod_builtin ⟨_, ho, hc⟩ plain_re slot_re_search type_re_search (fun a e => by cases e; exact ⟨_, ho, hd⟩) h
theorem re_search_none {p l : Addr} {o lo : Obj} {fs items : Array Value} {n : Nat} {x : Str} {t : Tok} {Q : Value → Shared → Prop}
    (ho : s.heap.get? p = some o) (hc : o.cls = .type "re.Pattern") (hd : o.data = .fields fs) (h5 : fs.getD 5 .none = .ref l) (h6 : Builtin.Re.reRawNat (fs.getD 6 .none) = 0) (h2 : Builtin.Re.reRawNat (fs.getD 2 .none) = 0)
    (hl : s.heap.get? l = some lo) (hld : lo.data = .seq items n) {code : Array Nat} (hco : (items.map Builtin.Re.reRawOf).map (·.toNat) = code) (hS : SafeIn code x) (hQ : Q .none s) :
    wpAny (model prog w) A (call (.builtin "re.Pattern.search") [.ref p, .str x t]) Q E s := by
  have hT : s.TypeIs (.ref p) "re.Pattern" := ⟨_, ho, hc⟩
  refine wpAny_call_entry slot_re_search hT entry_re_search ?_ (args_re_search _ _)
  show wpAny _ _ (Builtin.Re.reTarget "re.Pattern.search" "search" ⟨[.ref p, .str x t], []⟩ >>= _) _ _ s
  refine wpAny_bind ?_
  unfold Builtin.Re.reTarget
  show wpAny _ _ (Builtin.Re.reNamed "re.Pattern.search" "search" ["string", "pos", "endpos"] 1 [.str x t] [] >>= _) _ _ s
  refine wpAny_bind (wpAny_of_eq (a := [some (.str x t), none, none]) rfl ?_)
  show wpAny _ _ (fieldsOf (.ref p) >>= _) _ _ s
  refine wpAny_bind (wpAny_fieldsOf ho hd ?_)
  show wpAny _ _ (Builtin.Re.reTextOf (.str x t) >>= _) _ _ s
  refine wpAny_bind (wpAny_of_eq (a := (x.cps, 0)) rfl ?_)
  rw [h6]
  show wpAny _ _ (Builtin.Re.reRawItems (fs.getD 5 .none) >>= _) _ _ s
  rw [h5]
  refine wpAny_bind ?_
  show wpAny _ _ (seqItems? (.ref l) >>= _) _ _ s
  refine wpAny_bind (wpAny_seqItems hl hld (wpAny_pure (wpAny_pure ?_)))
  show wpAny _ _ (Builtin.Re.reRunToEnd _ >>= _) _ _ s
  refine wpAny_bind (run_lost ?_ ?_)
  · rw [h2]
    dsimp only [Option.getD_some]
    rw [hco]
    exact forSearch_lost _ _ _ _ (fun i hi => hS.1 i (Nat.lt_of_lt_of_le hi (Nat.min_le_right _ _))) hS.2
  · exact wpAny_pure ⟨_, rfl, hQ⟩
end

def SafeStr (x : Str) : Prop := ∀ i, i < x.cps.size → x.cps.getD i 0 ∈ [32, 34, 92, 60, 62, 111, 110, 101, 100]
abbrev nameSet : Array Nat := #[14, 10, 4, 1, 1, 22, 0, 31, 16, 127, 0, 13, 7, 22, 0, 31, 16, 127, 0, 1]
abbrev valueSet : Array Nat := #[14, 14, 4, 1, 1, 9, 4294966783, 0, 0, 2147483648, 0, 0, 0, 0, 0, 13, 11, 9, 4294966783, 0, 0, 2147483648, 0, 0, 0, 0, 0, 1]
theorem safe_name {x : Str} (h : SafeStr x) : SafeIn nameSet x := ⟨fun i hi seen => ⟨((seen.add 22).add 16).add 0, by
  have := h i hi
  simp only [List.mem_cons, List.not_mem_nil, or_false] at this
  rcases this with e | e | e | e | e | e | e | e | e <;> (rw [e]; rfl)⟩, by rfl⟩
theorem safe_value {x : Str} (h : SafeStr x) : SafeIn valueSet x := ⟨fun i hi seen => ⟨(seen.add 9).add 0, by
  have := h i hi
  simp only [List.mem_cons, List.not_mem_nil, or_false] at this
  rcases this with e | e | e | e | e | e | e | e | e <;> (rw [e]; rfl)⟩, by rfl⟩

/-! ## contracts with named arguments -/
def ConK (w : World) (f : Value) (vs : List Value) (kw : List (Str × Value)) (nd nu : Nat) (news : List (Addr × Obj)) (Post : List (Addr × Obj) → Value → Prop) : Prop :=
  ∀ (p : Program) (loose : List Str) (mean : ExcName → Option Value) (mg mb : Str → Option Value)
    (dp un : Nat) (gd : Option (List Code)) (cn : Str) (cs : Scope) (a : Addr) (ccd : Value) (cl : List (Str × Addr)) (outer : List Env) (A₀ : Around) (base h₀ : Heap) (L : Addr) (m : Str → Option Value) (s : Shared) (Q E : Value → Shared → Prop),
    Below A₀ base outer h₀ → Fr h₀ L s.heap m → (KX w.params).In h₀ → News h₀ L s.heap news → Top p loose mean mg mb h₀ → cs.kind = .function →
    dp + nd < recursionLimit → un + 8 * nu < cLine →
    (∀ r h' tk' news', Fr h₀ L h' m → News h₀ L h' news' → Post news' r → Q r { s with heap := h', toks := tk' }) →
    codeAny (model PySem.Challenge.rw_pg0279_02.row.prog w) (ktrTop dp un gd cn cs L a ccd cl outer) (.call f ⟨vs, kw⟩) (fun r s' => match r with | .ok (.ret v) => Q v s' | .ok _ => False | .error e => E e s') s

theorem ConK.use {w : World} {f : Value} {vs : List Value} {kw : List (Str × Value)} {nd nu : Nat} {news : List (Addr × Obj)} {Post : List (Addr × Obj) → Value → Prop} (C : ConK w f vs kw nd nu news Post)
    {p : Program} {loose : List Str} {mean : ExcName → Option Value} {mg mb : Str → Option Value}
    {dp un : Nat} {gd : Option (List Code)} {cn : Str} {cs : Scope} {a : Addr} {ccd : Value} {cl : List (Str × Addr)} {outer : List Env} {A₀ : Around} {base h₀ : Heap} {L : Addr} {m : Str → Option Value} {s : Shared} {Q E : Value → Shared → Prop}
    (B : Below A₀ base outer h₀) (F : Fr h₀ L s.heap m) (X : (KX w.params).In h₀) (N : News h₀ L s.heap news) (T : Top p loose mean mg mb h₀) (hk : cs.kind = .function)
    (h1 : dp + nd < recursionLimit) (h2 : un + 8 * nu < cLine)
    (ret : ∀ r h' tk' news', Fr h₀ L h' m → News h₀ L h' news' → Post news' r → Q r { s with heap := h', toks := tk' }) :
    wpAny (model PySem.Challenge.rw_pg0279_02.row.prog w) (ktrTop dp un gd cn cs L a ccd cl outer) (call f vs kw) Q E s :=
  wpAny_call (C p loose mean mg mb dp un gd cn cs a ccd cl outer A₀ base h₀ L m s Q E B F X N T hk h1 h2 ret)

local macro_rules | `(tactic| walk_at "getMethod ref") => `(tactic| ((with_reducible show wpAny _ _ (getMethod (Value.ref _) (Str.ofString "search") _) _ _ _); refine Stop.mk ?_))
set_option maxRecDepth 100000 in
set_option maxHeartbeats 0 in
theorem cst_con (w : World) (news : List (Addr × Obj)) (hx : Addr) (v : Str) (tv : Tok) (b : Bool) (hs : SafeStr v) :
   ConK w (.ref 132) [.ref hx, .str v tv] [("name", .bool b)] 1 1 news (fun news' r => news' = news ∧ r = .str v tv) := by
  unfold ConK
  k_fill
  intro p loose mean mg mb dp un gd cn csc a ccd cl outer A₀ base h₀ L m s Q E hB hF hX hN hT hck hdp hun hret
  (refine' code_def (binds := [("self", .ref hx), ("value", .str v tv), ("name", .bool b)]) ?k1 ?k2 ?k3 ?k4 ?k5 ?kA ?kF ?kK ?k6 ?k7 ?k8 ?k9 ?kB ?_ ?c2 ?c3 ?c4 ?c5; (case kA => exact rfl); (case kF => exact rfl); (case kK => assumption); (case k1 => k_asm); (case k2 => k_asm); (case k3 => k_asm); (case k4 => k_asm); (case k5 => k_asm); (case k6 => k_is); (case k7 => k_is); (case k8 => ktr_room); (case k9 => (refine' kp_binds ?kx ?ke; (case kx => k_in); (case ke => exact fun _ => rfl))); (case c5 => decide); (case kB => exact locs rfl); (case c2 => exact rfl); (case c3 => exact rfl); (case c4 => exact rfl); k_whole; intro g' L' h' FG' F' N' B' X' T'; (try dsimp only); (try k_lift B'); (try k_fold))
  k_steps
  · refine Stop.out ?_
    rename Fr g' L' _ _ => F9
    have h97 := F9.keep _ _ (X' 97 _ (by k_is))
    have h96 := F9.keep _ _ (X' 96 _ (by k_is))
    refine re_method h97 rfl rfl ?_
    k_steps
    refine re_search_none h97 rfl rfl rfl rfl rfl h96 rfl (code := nameSet) (by simp [Builtin.Re.reRawOf]) (safe_name hs) ?_
    k_steps
    exact hret _ _ _ _ (by assumption) (by assumption) ⟨rfl, rfl⟩
  · refine Stop.out ?_
    rename Fr g' L' _ _ => F9
    have h97 := F9.keep _ _ (X' 102 _ (by k_is))
    have h96 := F9.keep _ _ (X' 101 _ (by k_is))
    refine re_method h97 rfl rfl ?_
    k_steps
    refine re_search_none h97 rfl rfl rfl rfl rfl h96 rfl (code := valueSet) (by simp [Builtin.Re.reRawOf]) (safe_value hs) ?_
    k_steps
    exact hret _ _ _ _ (by assumption) (by assumption) ⟨rfl, rfl⟩
end PC7
section PC8
theorem still_C8 : True := by
  w_top off
  trivial
local macro_rules | `(tactic| walk_at "idle 0") => `(tactic| fail)
local macro_rules | `(tactic| walk_at "idle 1") => `(tactic| fail)
open PySem.Spec
theorem News.tl {h₀ h : Heap} {L : Addr} {p : Addr × Obj} {l : List (Addr × Obj)} (N : News h₀ L h (p :: l)) : News h₀ L h l := fun q hq => N q (.tail _ hq)
abbrev tupO (a b : Value) : Obj := { cls := .type "tuple", data := .seq #[a, b] }
/-! ## Headers.add_header -/
def AddPost (hx hl : Addr) (r1 r2 : Addr × Obj) (rest : List (Addr × Obj)) (vs : List Value) (k : Nat) (x v : Str) (tx : Tok) (dx : Addr) (news' : List (Addr × Obj)) (r : Value) : Prop :=
  ∃ T t', news' = (hl, listOf (vs ++ [Value.ref T]).toArray (k + 1)) :: r1 :: r2 :: (T, tupO (.str x tx) (.str v t')) :: rest ∧ r = Value.none ∧ AllLt T rest ∧ @LT.lt Nat _ hl T ∧ @LT.lt Nat _ hx T ∧ @LT.lt Nat _ dx T
theorem add_build {hx dx hl T a b : Addr} {q1 q2 : Addr × Obj} {r1 r2 : Addr × Obj} {rest : List (Addr × Obj)} {vs : List Value} {k : Nat} {x v : Str} {tx t' : Tok} {h₀ h : Heap} {L : Addr}
    (N : News h₀ L h ((T, tupO (.str x tx) (.str (Txt.join "; " [v]) t')) :: q1 :: q2 :: (hl, listOf (vs.toArray.push (.ref T)) (k + 1)) :: r1 :: r2 :: rest))
    (l : @LT.lt Nat _ a T ∧ @LT.lt Nat _ b T ∧ @LT.lt Nat _ hl T ∧ @LT.lt Nat _ hx T ∧ @LT.lt Nat _ dx T ∧ AllLt T rest) : ∃ news', News h₀ L h news' ∧ AddPost hx hl r1 r2 rest vs k x v tx dx news' .none := by
  simp only [List.push_toArray] at N
  exact ⟨_, News.sub (new := (hl, listOf (vs ++ [Value.ref T]).toArray (k + 1)) :: r1 :: r2 :: (T, tupO (.str x tx) (.str v t')) :: rest) N (by k_allIn), T, t', rfl, rfl, l.2.2.2.2.2, l.2.2.1, l.2.2.2.1, l.2.2.2.2.1⟩
local macro_rules | `(tactic| walk_at "call ref") => `(tactic| (refine Stop.mk ?_))
set_option maxRecDepth 100000 in
set_option maxHeartbeats 0 in
theorem add_con (w : World) (rest : List (Addr × Obj)) (hx dx hl : Addr) (tk : Tok) (vs : List Value) (k : Nat) (x v : Str) (tx tv : Tok) (hs : SafeStr x) (hsv : SafeStr v) (hn1 : @Ne Nat hl hx) (hn2 : @Ne Nat hl dx) (hoff : OwnOff rest [hl]) (hlen : vs.length ≤ 1000) (hvl : v.length ≤ 1000) :
   Con w (.ref 230) [.ref hx, .str x tx, .str v tv] 2 2 ((hl, listOf vs.toArray k) :: (hx, instObj 233 dx) :: (dx, dictOf [⟨PyData.keyHash w.params "_headers", .str "_headers" tk, .ref hl⟩] 1) :: rest)
     (AddPost hx hl (hx, instObj 233 dx) (dx, dictOf [⟨PyData.keyHash w.params "_headers", .str "_headers" tk, .ref hl⟩] 1) rest vs k x v tx dx) := by
  unfold Con
  k_fill
  intro p loose mean mg mb dp un gd cn csc a ccd cl outer A₀ base h₀ L m s Q E hB hF hX hN hT hck hdp hun hret
  (refine' kp_more (front := [("self", .ref hx), ("_name", .str x tx), ("_value", .str v tv)]) ?k1 ?k2 ?k3 ?k4 ?k5 ?kA ?kF ?kK ?k6 ?k7 ?k8 ?kX ?kM ?kN ?kD ?kR ?kP ?kT ?kB ?_ ?c2 ?c3 ?c4 ?c5; (case kA => exact rfl); (case kF => exact rfl); (case kK => assumption); (case k1 => k_asm); (case k2 => k_asm); (case k3 => k_asm); (case k4 => k_asm); (case k5 => k_asm); (case k6 => k_is); (case k7 => k_is); (case k8 => ktr_room); (case kX => kp_lit); (case kM => exact rfl); (case kN => exact rfl); (case kD => kp_flats); (case kR => exact rfl); (case kP => exact rfl); (case kT => exact fun _ => rfl); (case kB => exact fun _ => locs rfl); (case c5 => decide); (case c2 => exact rfl); (case c3 => exact rfl); (case c4 => exact rfl); k_whole; intro D' o' g' L' h' tk' l1 lo' hs' fs' FG' F' N' B' X' T'; (try k_lt l1); (try dsimp only); (try k_lift B'); (try k_fold))
  k_steps
  refine Stop.out ?_
  rename Fr g' L' _ _ => F9
  rename News g' L' _ _ => N9
  k_dflt refine ConK.use (cst_con w _ hx v tv false hsv) B' F9 X' N9 T' rfl (by ktr_room) (by ktr_units) ?_
  rintro r h' tk' news' F' N' hp90
  try k_fold
  obtain ⟨rfl, rfl⟩ := hp90
  clear F9 N9
  k_steps
  refine Stop.out ?_
  rename Fr g' L' _ _ => F9
  rename News g' L' _ _ => N9
  have N9 := News.tl N9
  k_dflt refine ConK.use (cst_con w _ hx x tx true hs) B' F9 X' N9 T' rfl (by ktr_room) (by ktr_units) ?_
  rintro r h' tk' news' F' N' hp90
  try k_fold
  obtain ⟨rfl, rfl⟩ := hp90
  clear F9 N9
  k_steps
  rename News h₀ _ _ _ => N9
  obtain ⟨news', N', P⟩ := add_build N9 (by assumption)
  exact hret _ _ _ news' (by assumption) N' P
end PC8
section PC9
theorem still_C9 : True := by
  w_top off
  trivial
local macro_rules | `(tactic| walk_at "idle 0") => `(tactic| fail)
local macro_rules | `(tactic| walk_at "idle 1") => `(tactic| fail)
local macro_rules | `(tactic| walk_at "idle 2") => `(tactic| fail)
local macro_rules | `(tactic| walk_at "idle 3") => `(tactic| fail)
open PySem.Spec
/-! ## a for over a list of the ledger, any target -/
section
variable {prog : Program} {w : World} {A : Around} {E : Value → Shared → Prop} {s : Shared} {env : Env} {h₀ : Heap} {target : Expr} {body : List Stmt} {Q : Flow → Shared → Prop}
theorem kdt_iter {l : Addr} {vs : List Value} {nn : Nat} {m₀ : Str → Option Value} {news : List (Addr × Obj)} (J : Nat → (Str → Option Value) → List (Addr × Obj) → Prop)
    (hh : A.handled = none) (hl : (l, listOf vs.toArray nn) ∈ news) (F : Fr h₀ env.locals s.heap m₀) (N : News h₀ env.locals s.heap news) (hj : J 0 m₀ news)
    (turn : ∀ i v m₁ news₁ h tk own, vs[i]? = some v → OwnOff own (news₁.map (·.1)) → (l, listOf vs.toArray nn) ∈ news₁ → J i m₁ news₁ → Fr h₀ env.locals h m₁ → News h₀ env.locals h (news₁ ++ own) →
      wpAny (model prog w) A (assign target env v) (fun _ s₃ => wpAny (model prog w) A (execs body env) (InvPostG h₀ env.locals (fun m' nx => (l, listOf vs.toArray nn) ∈ nx ∧ J (i + 1) m' nx) own { s with heap := h, toks := tk } Q) E s₃) E { s with heap := h, toks := tk })
    (done : ∀ m₁ news₁ h tk, J vs.length m₁ news₁ → Fr h₀ env.locals h m₁ → News h₀ env.locals h news₁ → Q .next { s with heap := h, toks := tk }) :
    wpAny (model prog w) A (pyIter (.ref l)) (fun it s₂ => TurnsAt prog w A h₀ env target body Q E it s₂) E s := by
  have hol : s.heap.get? l = some (listOf vs.toArray nn) := (N _ hl).1
  have hls : s.heap.IsList l vs.toArray := ⟨_, hol, rfl, nn, rfl⟩
  have hne : l ≠ s.heap.objs.size := Nat.ne_of_lt (Heap.lt_size hol)
  refine wpAny_pyIter_list hls ?_
  have W := KTurns.ofWalks (target := target) (Walks.list (prog := prog) (w := w) hh s.heap.objs.size l hne vs.toArray) fun i v s Q E st q => letGo_listiter st.1 q
  have hlen : vs.toArray.size = vs.length := by simp
  rw [hlen] at W
  refine ⟨_, _, _, vs.length, _, _, _, m₀, news, (fun i m nx => (l, listOf vs.toArray nn) ∈ nx ∧ J i m nx), rfl, W, ?_, ?_, ?_, ⟨⟨_, Heap.get?_push_size _ rfl, rfl, rfl⟩, hls.at fun o e => Heap.get?_push_of_some _ e⟩, F.push _, (fun p hp => ⟨Heap.get?_push_of_some _ (N p hp).1, (N p hp).2⟩), ⟨hl, hj⟩, ?_, ?_⟩
  · intro hm
    rcases List.mem_cons.mp hm with e | hm
    · exact absurd F.ns.lt (e ▸ Nat.lt_irrefl _)
    · exact (N _ hl).2.1 ((List.mem_singleton.mp hm).symm)
  · intro b hb
    rw [List.mem_singleton.mp hb]
    exact next_is_new F
  · intro p hp hI
    exact absurd (Heap.lt_size (N p hp).1) ((List.mem_singleton.mp hI) ▸ Nat.lt_irrefl _)
  · rintro i v m₁ news₁ hh' tk' own hin hP hp90 hoff hown hget hfp hst F₁ N₁
    try k_fold
    obtain ⟨hl₁, hJ⟩ := hp90
    have hP' : vs[i]? = some v := by simpa using hP
    have hI0 : h₀.get? s.heap.objs.size = none := next_is_new F
    obtain ⟨⟨oI, hoI, _⟩, _⟩ := id hst
    have hIown : (s.heap.objs.size, oI) ∈ own.filter fun p => decide (p.1 = s.heap.objs.size) := List.mem_filter.mpr ⟨hfp _ (List.mem_cons.mpr (.inl rfl)) hI0 _ hoI, by simp⟩
    have hsep : OwnOff (own.filter fun p => decide (p.1 = s.heap.objs.size)) (news₁.map (·.1)) := by
      intro p hp b hb e
      obtain ⟨q, hq, rfl⟩ := List.mem_map.mp hb
      have h1 : p.1 = s.heap.objs.size := by simpa using (List.mem_filter.mp hp).2
      exact hoff q hq (List.mem_singleton.mpr (e ▸ h1))
    have N₂ : News h₀ env.locals hh' (news₁ ++ own.filter fun p => decide (p.1 = s.heap.objs.size)) := fun p hp => N₁ p ((List.mem_append.mp hp).elim (fun h => List.mem_append.mpr (.inr h)) fun h => List.mem_append.mpr (.inl ((List.mem_filter.mp h).1)))
    have hlo : hh'.get? l = some (listOf vs.toArray nn) := (N₁ _ (List.mem_append.mpr (.inr hl₁))).1
    refine wpAny_mono (turn i v m₁ news₁ hh' tk' _ hP' hsep hl₁ hJ F₁ N₂) (fun _ s₃ h₃ => wpAny_mono h₃ (fun f s₂ p => ?_) fun _ _ e => e) fun _ _ e => e
    have fin : InvEndG h₀ env.locals (fun m' nx => (l, listOf vs.toArray nn) ∈ nx ∧ J (i + 1) m' nx) (own.filter fun p => decide (p.1 = s.heap.objs.size)) { s with heap := hh', toks := tk' } s₂ →
        LoopStepU h₀ env.locals [s.heap.objs.size] own (fun m nx => (l, listOf vs.toArray nn) ∈ nx ∧ J (i + 1) m nx) { s with heap := hh', toks := tk' } .next s₂ := by
      rintro ⟨h', tk, m', news', nx, e, F', N', hn, ho, ha, hm⟩
      refine ⟨rfl, h', tk, m', nx, e, F', fun p hp => ?_, fun p hp hq => ?_, hm⟩
      · rcases List.mem_append.mp hp with h | h
        · by_cases hI : p.1 = s.heap.objs.size
          · exact N' p (ho p (List.mem_filter.mpr ⟨h, by simpa using hI⟩))
          · have h1 : p.1 = l := by
              rcases List.mem_cons.mp (hown p h) with h2 | h2
              · exact absurd h2 hI
              · exact List.mem_singleton.mp h2
            have h2 : hh'.get? p.1 = some p.2 := hget p h
            rw [h1, hlo] at h2
            have h3 : p = (l, listOf vs.toArray nn) := Prod.ext h1 (Option.some.inj h2).symm
            rw [h3]
            exact N' _ (hn _ hm.1)
        · exact N' p (hn p h)
      · exact ha _ hIown p.1 (List.mem_map.mpr ⟨p, hp, rfl⟩) (List.mem_singleton.mp hq).symm
    cases f with
    | ret v => exact .ret p
    | brk => exact .brk p
    | next => exact .next (fin p)
    | cont => exact .cont (fin p)
  · rintro h' tk m' news' F' N' _ ⟨_, hJ⟩
    exact done m' news' h' tk hJ F' N'
end
theorem lower_safe {x : Str} (h : SafeStr x) : Txt.lower x = x := by
  have hm : ∀ c ∈ x.cps.toList, c ∈ [32, 34, 92, 60, 62, 111, 110, 101, 100] := by
    intro c hc
    obtain ⟨i, hi, e⟩ := List.getElem_of_mem hc
    have hi' : i < x.cps.size := by simpa using hi
    have := h i hi'
    rwa [Array.getD_eq_getD_getElem?, Array.getElem?_eq_getElem hi', Option.getD_some, show x.cps[i] = c by simpa using e] at this
  rw [PyProof.Rows.lower_ascii fun c hc => ?_]
  · congr 1
    apply Array.toList_inj.mp
    rw [Array.toList_map]
    refine (List.map_congr_left fun c hc => ?_).trans (List.map_id _)
    have := hm c hc
    simp only [List.mem_cons, List.not_mem_nil, or_false] at this
    rcases this with e | e | e | e | e | e | e | e | e <;> (rw [e]; rfl)
  · have := hm c hc
    simp only [List.mem_cons, List.not_mem_nil, or_false] at this
    omega
theorem lower_K {prog : Program} {w : World} {A : Around} {E : Value → Shared → Prop} {s : Shared} {x : Str} {t : Tok} {Q : Value → Shared → Prop} (hs : SafeStr x) (hl : x.length ≤ 1000) (h : ∀ t' k, Q (.str x t') { s with toks := k }) :
    wpAny (model prog w) A (call (.builtin "str.lower") [.str x t]) Q E s :=
  PyProof.Rows.SCL.lower (Nat.le_trans hl (by decide)) fun _ => by rw [lower_safe hs]; exact h _ _
/-! ## Headers.get -/
def TabIs : List (Addr × Obj) → List (Str × Str) → Prop
  | [], [] => True
  | p :: r, q :: l => (∃ t1 t2, p.2 = tupO (.str q.1 t1) (.str q.2 t2)) ∧ TabIs r l
  | _, _ => False
theorem TabIs.len : ∀ {tups : List (Addr × Obj)} {l : List (Str × Str)}, TabIs tups l → tups.length = l.length
  | [], [], _ => rfl
  | _ :: _, _ :: _, h => congrArg (· + 1) h.2.len
theorem TabIs.at {p : Addr × Obj} : ∀ {tups : List (Addr × Obj)} {l : List (Str × Str)} {i : Nat}, TabIs tups l → tups[i]? = some p → ∃ q t1 t2, l[i]? = some q ∧ p.2 = tupO (.str q.1 t1) (.str q.2 t2) := by
  intro tups
  induction tups with
  | nil => intro l i _ e; simp at e
  | cons a r ih =>
    intro l i h e
    cases l with
    | nil => exact h.elim
    | cons q l =>
      cases i with
      | zero =>
        obtain ⟨t1, t2, h1⟩ := h.1
        rw [List.getElem?_cons_zero] at e
        exact ⟨q, t1, t2, rfl, (Option.some.inj e) ▸ h1⟩
      | succ i =>
        rw [List.getElem?_cons_succ] at e
        obtain ⟨q', t1, t2, h1, h2⟩ := ih h.2 e
        exact ⟨q', t1, t2, by rw [List.getElem?_cons_succ]; exact h1, h2⟩
theorem any_take_succ {α : Type} {l : List α} {i : Nat} {q : α} {f : α → Bool} (h : l[i]? = some q) : (l.take (i + 1)).any f = ((l.take i).any f || f q) := by
  rw [List.take_add_one, h, List.any_append]; simp
abbrev refsOf (tups : List (Addr × Obj)) : List Value := tups.map fun p => Value.ref p.1
local macro_rules | `(tactic| walk_at "call ref") => `(tactic| (refine Stop.mk ?_))
local macro_rules | `(tactic| walk_at "exec For") => `(tactic| ((fail_if_success (have : Go 1 := by assumption)); refine Stop.mk ?_))
local macro_rules | `(tactic| walk_at "call builtin:str.lower") => `(tactic| (k_dflt (refine lower_K (by assumption) (by assumption) ?_); intro _ _))
local macro_rules | `(tactic| walk_at "pyIter ref") => `(tactic| (refine Stop.mk ?_))
set_option maxRecDepth 100000 in
set_option maxHeartbeats 0 in
theorem get_con (w : World) (rest tups : List (Addr × Obj)) (l : List (Str × Str)) (hx dx hl : Addr) (tk1 : Tok) (k : Nat) (x : Str) (tx : Tok) (hs : SafeStr x) (ht : TabIs tups l) (hin : ∀ p ∈ tups, p ∈ rest) (hxl : x.length ≤ 1000) (hsl : ∀ p ∈ l, SafeStr p.1 ∧ p.1.length ≤ 1000) (hlen : l.length ≤ 1000) :
   Con w (.ref 180) [.ref hx, .str x tx] 2 2 ((hl, listOf (refsOf tups).toArray k) :: (hx, instObj 233 dx) :: (dx, dictOf [⟨PyData.keyHash w.params "_headers", .str "_headers" tk1, .ref hl⟩] 1) :: rest)
     (fun news' r => news' = (hl, listOf (refsOf tups).toArray k) :: (hx, instObj 233 dx) :: (dx, dictOf [⟨PyData.keyHash w.params "_headers", .str "_headers" tk1, .ref hl⟩] 1) :: rest ∧ (l.any (fun p => p.1 == x) = true → ∃ s t, r = .str s t) ∧ (l.any (fun p => p.1 == x) = false → r = .none)) := by
  unfold Con
  k_fill
  intro p loose mean mg mb dp un gd cn csc a ccd cl outer A₀ base h₀ L m s Q E hB hF hX hN hT hck hdp hun hret
  (refine' code_def (binds := [("self", .ref hx), ("name", .str x tx), ("default", .none)]) ?k1 ?k2 ?k3 ?k4 ?k5 ?kA ?kF ?kK ?k6 ?k7 ?k8 ?k9 ?kB ?_ ?c2 ?c3 ?c4 ?c5; (case kA => exact rfl); (case kF => exact rfl); (case kK => assumption); (case k1 => k_asm); (case k2 => k_asm); (case k3 => k_asm); (case k4 => k_asm); (case k5 => k_asm); (case k6 => k_is); (case k7 => k_is); (case k8 => ktr_room); (case k9 => first | exact BindsTo.of_eq rfl | exact binds_K (by k_in) rfl (by k_is) rfl rfl rfl); (case c5 => decide); (case kB => exact locs rfl); (case c2 => exact rfl); (case c3 => exact rfl); (case c4 => exact rfl); k_whole; intro g' L' h' FG' F' N' B' X' T'; (try dsimp only); (try k_lift B'); (try k_fold))
  k_steps
  refine Stop.out ?_
  rename Fr g' L' _ _ => F9
  rename News g' L' _ _ => N9
  k_dflt refine ConK.use (cst_con w _ hx x _ true hs) B' F9 X' N9 T' rfl (by ktr_room) (by ktr_units) ?_
  rintro r h' tk' news' F' N' hp90
  try k_fold
  obtain ⟨rfl, rfl⟩ := hp90
  clear F9 N9
  k_steps
  refine Stop.out ?_
  rename Fr g' L' _ _ => F9
  rename News g' L' _ _ => N9
  with_unfolding_all refine' For_turns F9 ?_ ?k1 ?k2
  case k1 => exact fun _ => rfl
  case k2 => passes_own
  k_steps
  refine Stop.out ?_
  refine kdt_iter (l := hl) (vs := refsOf tups) (nn := k) (news := (hl, listOf (refsOf tups).toArray k) :: (hx, instObj 233 dx) :: (dx, dictOf [⟨PyData.keyHash w.params "_headers", .str "_headers" tk1, .ref hl⟩] 1) :: rest) (fun i m nx => (∃ t, m "name" = some (.str x t)) ∧ m "default" = some .none ∧ (l.take i).any (fun p => p.1 == x) = false ∧ nx = (hl, listOf (refsOf tups).toArray k) :: (hx, instObj 233 dx) :: (dx, dictOf [⟨PyData.keyHash w.params "_headers", .str "_headers" tk1, .ref hl⟩] 1) :: rest) rfl (List.Mem.head _) F9 N9 ⟨⟨_, rfl⟩, rfl, rfl, rfl⟩ ?_ ?_
  · rintro i v m₁ news₁ h tk own hv hoff _ hp90 F₁ N₁
    try k_fold
    obtain ⟨⟨t, hm1⟩, hm2, ha, rfl⟩ := hp90
    obtain ⟨⟨T, oT⟩, hT1, rfl⟩ : ∃ p, tups[i]? = some p ∧ v = .ref p.1 := by
      simp only [refsOf, List.getElem?_map, Option.map_eq_some_iff] at hv
      obtain ⟨p, h1, h2⟩ := hv
      exact ⟨p, h1, h2.symm⟩
    obtain ⟨⟨kx, vx⟩, t1, t2, hl1, hT2⟩ := ht.at hT1
    dsimp only at hT2
    subst hT2
    have hmem : (T, tupO (.str kx t1) (.str vx t2)) ∈ tups := List.mem_of_getElem? hT1
    obtain ⟨hsk, hlk⟩ := hsl _ (List.mem_of_getElem? hl1)
    have F2 := Fr.al [("name", .str x t), ("default", .none)] F₁ (al_cons hm1 (al_cons hm2 al_nil))
    have N2 := News.sub (new := (T, tupO (.str kx t1) (.str vx t2)) :: ((hl, listOf (refsOf tups).toArray k) :: (hx, instObj 233 dx) :: (dx, dictOf [⟨PyData.keyHash w.params "_headers", .str "_headers" tk1, .ref hl⟩] 1) :: rest) ++ own) N₁ (fun p hp => by
      rcases List.mem_cons.mp hp with rfl | hp
      · exact List.mem_append_left _ (.tail _ (.tail _ (.tail _ (hin _ hmem))))
      · exact hp)
    have ha' := any_take_succ (f := fun p : Str × Str => p.1 == x) hl1
    rw [ha, Bool.false_or] at ha'
    clear F₁ F9 N9 N₁
    dsimp only at hsk hlk ha'
    k_steps
    · rename (kx == x) = true => hq
      have hany : l.any (fun p => p.1 == x) = true := List.any_eq_true.mpr ⟨_, List.mem_of_getElem? hl1, hq⟩
      refine hret _ _ _ _ (by assumption) (News.sub (by assumption) (fun p hp => .tail _ (List.mem_append_left _ hp))) ⟨rfl, fun _ => ⟨_, _, rfl⟩, fun e => (by rw [hany] at e; cases e)⟩
    · rename (kx == x) = false => hq
      exact InvEndG.intro (by assumption) (by assumption) ⟨List.Mem.head _, ⟨_, rfl⟩, rfl, by rw [ha', hq], rfl⟩ hoff (fun p hp => .tail _ (List.mem_append_left _ hp)) (fun p hp => .tail _ (List.mem_append_right _ hp))
  · rintro m₁ news₁ h tk hp90 F₁ N₁
    try k_fold
    obtain ⟨⟨t, hm1⟩, hm2, ha, rfl⟩ := hp90
    have F2 := Fr.al [("name", .str x t), ("default", .none)] F₁ (al_cons hm1 (al_cons hm2 al_nil))
    clear F₁ F9 N9
    rw [List.take_of_length_le (by rw [show (refsOf tups).length = tups.length from List.length_map .., ht.len]; exact Nat.le_refl _)] at ha
    dsimp only
    k_steps
    exact hret _ _ _ _ (by assumption) (by assumption) ⟨rfl, fun e => (by rw [ha] at e; cases e), fun _ => rfl⟩
end PC9
section PC10
theorem still_C10 : True := by
  w_top off
  trivial
open PySem.Spec PySem.Calls PyProof.Rows PyProof.Rows.LCg
/-! ## a comprehension with a pair, one test, over a list of the ledger of any length -/
section
variable {prog : Program} {w : World} {A : Around} {E : Value → Shared → Prop} {s : Shared} {h₀ : Heap} {L : Addr} {m : Str → Option Value} {env : Env}
def QEnd (h₀ : Heap) (L : Addr) (m : Str → Option Value) (s₁ : Shared) (all : List (Addr × Obj)) (j : Prop) (s₄ : Shared) : Prop := ∃ h' tk, s₄ = { s₁ with heap := h', toks := tk } ∧ Fr h₀ L h' m ∧ News h₀ L h' all ∧ j
theorem QEnd.intro {h₀ h' : Heap} {L : Addr} {m : Str → Option Value} {s₁ : Shared} {all : List (Addr × Obj)} {j : Prop} {tk : Nat} (F : Fr h₀ L h' m) (N : News h₀ L h' all) (hj : j) : QEnd h₀ L m s₁ all j { s₁ with heap := h', toks := tk } := ⟨h', tk, rfl, F, N, hj⟩
def SrcQ (prog : Program) (w : World) (A : Around) (h₀ : Heap) (L : Addr) (m : Str → Option Value) (env : Env) (c elt : PySem.Expr) (a b : Str) (scope : Scope) (cl : List (Str × Addr)) (Q : Value → Shared → Prop) (xv : Value) (s₁ : Shared) : Prop :=
  ∃ (ax : Addr) (vs : List Value) (k : Nat) (news : List (Addr × Obj)) (J : Nat → List Value → Prop), xv = .ref ax ∧ A.handled = none ∧ Fr h₀ L s₁.heap m ∧ News h₀ L s₁.heap news ∧ (ax, listOf vs.toArray k) ∈ news ∧ vs.length ≤ sizeLine ∧ J 0 [] ∧
    (∀ (i : Nat) (v : Value), vs[i]? = some v → ∃ (T : Addr) (v1 v2 : Value), v = .ref T ∧ (T, tupO v1 v2) ∈ news ∧
      ∀ ys I oI C oC D m₂ h tk (E' : Value → Shared → Prop), J i ys → ys.length ≤ i → NsObj oC m₂ → m₂ a = some v1 → m₂ b = some v2 → Fr h₀ L h m → News h₀ L h ((I, oI) :: (C, oC) :: (D, lst ys) :: news) → Off3 I C D news → ((@Ne Nat I C) ∧ (@Ne Nat I D) ∧ (@Ne Nat C D)) →
      wpAny (model prog w) A (isTrue c (compEnvC scope cl C env) (eval c (compEnvC scope cl C env))) (fun okb s₃ => if okb = true then
        wpAny (model prog w) A (eval elt (compEnvC scope cl C env)) (fun y s₄ => QEnd h₀ L m s₁ ((I, oI) :: (C, oC) :: (D, lst ys) :: news) (J (i + 1) (ys ++ [y])) s₄) E' s₃
        else QEnd h₀ L m s₁ ((I, oI) :: (C, oC) :: (D, lst ys) :: news) (J (i + 1) ys) s₃) E' { s₁ with heap := h, toks := tk }) ∧
    (∀ ys D h tk, J vs.length ys → Fr h₀ L h m → News h₀ L h ((D, lst ys) :: news) → (∀ p ∈ news, p.1 < D) → Q (.ref D) { s₁ with heap := h, toks := tk })

theorem blockQ {elt iter c : PySem.Expr} {a b : Str} {pa pb tp : Pos} {kk : Nat} {scope : Scope} {cl : List (Str × Addr)} {pos : Pos} {s₂ : Shared} {I ax : Addr} {vs : List Value} {k : Nat} {news : List (Addr × Obj)} {J : Nat → List Value → Prop} {RR : Value → Addr → Result → Shared → Prop}
    (hh : A.handled = none) (hne : ax ≠ I) (hsz : vs.length ≤ sizeLine) (hit : s₂.heap.IsListIter I ax 0) (hax : (ax, listOf vs.toArray k) ∈ news)
    (hcell : ∀ y ∈ scope.names, y.2 ≠ .cell) (hkind : scope.kind = .function) (hxa : scope.names.lookup a = some .local) (hxb : scope.names.lookup b = some .local) (hab : ¬ a = b)
    (F : Fr h₀ L s₂.heap m) (N : News h₀ L s₂.heap news) (hIL : L ≠ I) (hI₀ : h₀.get? I = none) (off : ∀ p ∈ news, p.1 ≠ I) (hJ0 : J 0 [])
    (turn : ∀ (i : Nat) (v : Value), vs[i]? = some v → ∃ (T : Addr) (v1 v2 : Value), v = .ref T ∧ (T, tupO v1 v2) ∈ news ∧
      ∀ ys I oI C oC D m₂ h tk (E' : Value → Shared → Prop), J i ys → ys.length ≤ i → NsObj oC m₂ → m₂ a = some v1 → m₂ b = some v2 → Fr h₀ L h m → News h₀ L h ((I, oI) :: (C, oC) :: (D, lst ys) :: news) → Off3 I C D news → ((@Ne Nat I C) ∧ (@Ne Nat I D) ∧ (@Ne Nat C D)) →
      wpAny (model prog w) A (isTrue c (compEnvC scope cl C env) (eval c (compEnvC scope cl C env))) (fun okb s₃ => if okb = true then
        wpAny (model prog w) A (eval elt (compEnvC scope cl C env)) (fun y s₄ => QEnd h₀ L m s₂ ((I, oI) :: (C, oC) :: (D, lst ys) :: news) (J (i + 1) (ys ++ [y])) s₄) E' s₃
        else QEnd h₀ L m s₂ ((I, oI) :: (C, oC) :: (D, lst ys) :: news) (J (i + 1) ys) s₃) E' { s₂ with heap := h, toks := tk })
    (hRR : ∀ D C h tk m' ys, Fr h₀ L h m → News h₀ L h ((D, lst ys) :: news) → (∀ p ∈ news, p.1 < D) → h.Ns C m' → h₀.get? C = none → C ≠ L → C ≠ D → (∀ p ∈ news, p.1 ≠ C) → J vs.length ys → RR (.ref D) C (.ok .next) { s₂ with heap := h, toks := tk }) :
    wpAny (model prog w) A (newList []) (fun acc s₃ => wpAny (model prog w) A (newFunctionEnv scope env.globals cl [] env.qual none .none (some env)) (fun cenv s₄ =>
      codeAny (model prog w) A (.compStart (.ListComp elt [⟨.Tuple [.Name a pa, .Name b pb] kk tp, iter, [c], 0⟩] scope pos) 0 (.ref I) acc { cenv with scope := relabel scope env }) (RR acc cenv.locals) s₄) E s₃) E s₂ := by
  refine wpAny_newObj_type (wpAny_newFunctionEnv hcell (by intro y hy; simp at hy) (fun h₁ hns₁ hsb₁ => ?_) hkind)
  dsimp only at hns₁ hsb₁ ⊢
  generalize hH2 : s₂.heap.push { cls := .type "list", dict := none, data := .seq ([] : List Value).toArray } = H2 at hns₁ hsb₁ ⊢
  have hCe : H2.objs.size = s₂.heap.objs.size + 1 := by rw [← hH2, Heap.size_push]
  generalize hCx : H2.objs.size = C at hns₁ hsb₁ hCe ⊢
  generalize hDe : s₂.heap.objs.size = D at hns₁ hsb₁ hCe ⊢
  have lt2 : ∀ {x : Addr} {o : Obj}, s₂.heap.get? x = some o → @LT.lt Nat _ x D := fun e => hDe ▸ Heap.lt_size e
  have up : ∀ x o, s₂.heap.get? x = some o → h₁.get? x = some o := fun x o e => hsb₁.extBut x o (show @Ne Nat x C from by have := lt2 e; omega) (Heap.get?_push_of_some _ (hH2 ▸ Heap.get?_push_of_some _ e))
  have none₀ : ∀ x : Addr, @LE.le Nat _ D x → h₀.get? x = none := fun x hx => by
    cases e : h₀.get? x with
    | none => rfl
    | some o => exact absurd (lt2 (F.keep x o e)) (Nat.not_lt.mpr hx)
  have hD₀ : h₀.get? D = none := none₀ D (Nat.le_refl _)
  have hC₀ : h₀.get? C = none := none₀ _ (show @LE.le Nat _ D C by omega)
  have hLlt : @LT.lt Nat _ L D := hDe ▸ F.ns.lt
  have hIlt : @LT.lt Nat _ I D := by obtain ⟨o, e, _⟩ := hit; exact lt2 e
  have nlt : ∀ p ∈ news, @LT.lt Nat _ p.1 D := fun p hp => lt2 (N p hp).1
  have hDL : D ≠ L := Nat.ne_of_gt hLlt
  have hCL : C ≠ L := show @Ne Nat C L by omega
  have hCI : I ≠ C := show @Ne Nat I C by omega
  have hDI : I ≠ D := Nat.ne_of_lt hIlt
  have hDC : D ≠ C := show @Ne Nat D C by omega
  have off₀ : Off3 I C D news := Off3.of fun p hp => ⟨off p hp, show @Ne Nat p.1 C by have := nlt p hp; omega, Nat.ne_of_lt (nlt p hp)⟩
  have off3 := off₀.mem
  have hacc : h₁.get? D = some (lst []) := hsb₁.extBut _ _ hDC (Heap.get?_push_of_some _ (by rw [← hH2, ← hDe]; exact Heap.get?_push_size _ rfl))
  have hit₁ : h₁.IsListIter I ax 0 := by obtain ⟨o, e, r⟩ := hit; exact ⟨o, up _ _ e, r⟩
  have W := Walks.list (prog := prog) (w := w) (A := A) hh I ax hne vs.toArray
  have hlen : vs.toArray.size = vs.length := by simp
  have loop : ∀ s₃ : Shared, s₃ = { s₂ with heap := h₁, toks := s₂.toks + ([] : List (Str × Value)).length } →
      codeAny (model prog w) A (.compLoop (.ListComp elt [⟨.Tuple [.Name a pa, .Name b pb] kk tp, iter, [c], 0⟩] scope pos) 0 (.ref I) (.ref D) (compEnvC scope cl C env)) (RR (.ref D) C) s₃ := by
    rintro s₃ rfl
    refine kct_loop (fun q s' => ∃ h' tk i ys m', s' = { s₂ with heap := h', toks := tk } ∧ i ≤ vs.length ∧ q = vs.length + 1 - i ∧ ys.length ≤ i ∧ h'.IsListIter I ax i ∧ Fr h₀ L h' m ∧ h'.Ns C m' ∧ News h₀ L h' ((D, lst ys) :: news) ∧ J i ys) ?_ (vs.length + 1)
      ⟨h₁, _, 0, [], _, rfl, Nat.zero_le _, rfl, Nat.le_refl _, hit₁, F.keeps up, hns₁, fun p hp => ?_, hJ0⟩
    · rintro q s' ⟨h', tk, i, ys, m', rfl, hi, rfl, hyl, hit', F', hn', N', hJ⟩
      have hls' : h'.IsList ax vs.toArray := ⟨_, (N' _ (.tail _ hax)).1, rfl, k, rfl⟩
      by_cases hlt : i < vs.length
      · refine W.item i _ _ _ (by rw [hlen]; exact hlt) ⟨hit', hls'⟩ fun v h₂ tk₂ hPv hst₂ hk₂ => ?_
        have hv : vs[i]? = some v := by simpa using hPv
        obtain ⟨T, v1, v2, rfl, hT, go⟩ := turn i v hv
        have up₂ : ∀ x o, x ≠ I → h'.get? x = some o → h₂.get? x = some o := fun x o hx e => hk₂ x o (by simpa using hx) e
        refine wpAny_letOwnedTupleGo_listiter hst₂.1 ?_
        refine kcp_assign (env := compEnvC scope cl C env) hh ⟨_, up₂ _ _ (off _ hT) (N' _ (.tail _ hT)).1, rfl, 0, rfl⟩ (lookup_relabel_local hxa) (lookup_relabel_local hxb) (by simp [compEnvC, relabel, hkind]) (hn'.at' fun o e => up₂ _ o (Ne.symm hCI) e) fun h₄ tk₄ hn₄ hs₄ => ?_
        have up₄ : ∀ x o, x ≠ I → x ≠ C → h'.get? x = some o → h₄.get? x = some o := fun x o h1 h2 e => hs₄ x o h2 (up₂ x o h1 e)
        obtain ⟨oI, heI, hoI⟩ := hst₂.1
        have heI₄ : h₄.get? I = some oI := hs₄ I _ hCI heI
        obtain ⟨oC, heC, hoC⟩ := ns_obj hn₄
        have F₄ : Fr h₀ L h₄ m := ⟨F'.ns.at' fun o e => up₄ _ o hIL (Ne.symm hCL) e, fun x o e => up₄ x o (fun q => by rw [q, hI₀] at e; cases e) (fun q => by rw [q, hC₀] at e; cases e) (F'.keep x o e), F'.above⟩
        have N₄ : News h₀ L h₄ ((I, oI) :: (C, oC) :: (D, lst ys) :: news) := fun q hq => by
          rcases List.mem_cons.mp hq with rfl | hq
          · exact ⟨heI₄, Ne.symm hIL, hI₀⟩
          · rcases List.mem_cons.mp hq with rfl | hq
            · exact ⟨heC, hCL, hC₀⟩
            · have z := N' q hq
              rcases List.mem_cons.mp hq with rfl | hq
              · exact ⟨up₄ _ _ (Ne.symm hDI) hDC z.1, z.2⟩
              · exact ⟨up₄ _ _ (off3 q hq).1 (off3 q hq).2.1 z.1, z.2⟩
        have fin : ∀ (ys' : List Value) (h₅ : Heap) (tk₅ : Nat), ys'.length ≤ i + 1 → Fr h₀ L h₅ m → News h₀ L h₅ ((I, oI) :: (C, oC) :: (D, lst ys') :: news) → J (i + 1) ys' →
            ∃ q', q' < vs.length + 1 - i ∧ (∃ h' tk i ys m', ({ s₂ with heap := h₅, toks := tk₅ } : Shared) = { s₂ with heap := h', toks := tk } ∧ i ≤ vs.length ∧ q' = vs.length + 1 - i ∧ ys.length ≤ i ∧ h'.IsListIter I ax i ∧ Fr h₀ L h' m ∧ h'.Ns C m' ∧ News h₀ L h' ((D, lst ys) :: news) ∧ J i ys) := by
          intro ys' h₅ tk₅ hl F₅ N₅ hJ₅
          exact ⟨vs.length + 1 - (i + 1), by omega, h₅, tk₅, i + 1, ys', _, rfl, hlt, rfl, hl, ⟨oI, (N₅ _ (.head _)).1, hoI⟩, F₅, hoC.ns (N₅ _ (.tail _ (.head _))).1, fun q hq => N₅ q (.tail _ (.tail _ hq)), hJ₅⟩
        refine wpAny_mono (go ys I oI C oC D _ h₄ tk₄ _ hJ hyl hoC (by simp [hab]) (by simp) F₄ N₄ off₀ ⟨hCI, hDI, Ne.symm hDC⟩) (fun okb s₅ h₅ => ?_) fun _ _ e => e
        cases okb with
        | false =>
          simp only [Bool.false_eq_true, if_false] at h₅ ⊢
          obtain ⟨h₅, tk₅, rfl, F₅, N₅, J₅⟩ := h₅
          exact fin ys h₅ tk₅ (Nat.le_succ_of_le hyl) F₅ N₅ J₅
        | true =>
          simp only [if_true] at h₅ ⊢
          refine wpAny_mono h₅ (fun y s₆ h₆ => ?_) fun _ _ e => e
          obtain ⟨h₅, tk₅, rfl, F₅, N₅, J₅⟩ := h₆
          refine append_at (hsz := by show ys.toArray.size ≤ sizeLine; rw [List.size_toArray]; exact Nat.le_trans hyl (Nat.le_trans hi hsz)) (N₅ _ (.tail _ (.tail _ (.head _)))).1 fun h₆ hs₆ hD₆ => ?_
          refine fin (ys ++ [y]) h₆ _ (by rw [List.length_append, List.length_singleton]; exact Nat.succ_le_succ hyl) (F₅.change hs₆ hDL hD₀) (fun q hq => ?_) J₅
          rcases List.mem_cons.mp hq with rfl | hq
          · exact ⟨hs₆.extBut I oI hDI (N₅ _ (.head _)).1, Ne.symm hIL, hI₀⟩
          rcases List.mem_cons.mp hq with rfl | hq
          · exact ⟨hs₆.extBut _ oC (Ne.symm hDC) (N₅ _ (.tail _ (.head _))).1, hCL, hC₀⟩
          rcases List.mem_cons.mp hq with rfl | hq
          · exact ⟨hD₆.trans (congrArg some (lst_snoc ys y)), hDL, hD₀⟩
          · exact ⟨hs₆.extBut _ _ (off3 q hq).2.2 (N₅ q (.tail _ (.tail _ (.tail _ hq)))).1, (N₅ q (.tail _ (.tail _ (.tail _ hq)))).2⟩
      · have hin : i = vs.length := Nat.le_antisymm hi (Nat.not_lt.mp hlt)
        subst hin
        refine W.done _ _ _ (by rw [hlen]; exact ⟨hit', hls'⟩) fun h₂ tk₂ hk₂ => ?_
        have up₂ : ∀ x o, x ≠ I → h'.get? x = some o → h₂.get? x = some o := fun x o hx e => hk₂ x o (by simpa using hx) e
        refine hRR _ _ h₂ tk₂ _ ys (fr_but F' hk₂ hIL hI₀) (fun q hq => ?_) nlt (hn'.at' fun o e => up₂ _ o (Ne.symm hCI) e) hC₀ hCL (Ne.symm hDC) (fun p hp => (off3 p hp).2.1) hJ
        have z := N' q hq
        rcases List.mem_cons.mp hq with rfl | hq
        · exact ⟨up₂ _ _ (Ne.symm hDI) z.1, z.2⟩
        · exact ⟨up₂ _ _ (off3 q hq).1 z.1, z.2⟩
    · rcases List.mem_cons.mp hp with rfl | hp
      · exact ⟨hacc, hDL, hD₀⟩
      · exact ⟨up _ _ (N p hp).1, (N p hp).2⟩
  exact codeAny_compStart_list (loop _ rfl) (W.self 0 _ _ _ ⟨hit₁, ⟨_, up _ _ (N _ hax).1, rfl, k, rfl⟩⟩ (loop _ rfl))
theorem ListComp_Q {elt iter c : PySem.Expr} {a b : Str} {pa pb tp : Pos} {kk : Nat} {scope : Scope} {cl : List (Str × Addr)} {pos : Pos} {Q : Value → Shared → Prop} (_F₀ : Fr h₀ L s.heap m)
    (hclos : closureFor scope env = pure cl) (hcell : ∀ y ∈ scope.names, y.2 ≠ .cell) (hkind : scope.kind = .function)
    (hnames : ∀ y ∈ scope.names, y.2 = .local → scope.names.lookup y.1 = some .local) (hxa : scope.names.lookup a = some .local) (hxb : scope.names.lookup b = some .local) (hab : ¬ a = b)
    (h : wpAny (model prog w) A (eval iter env) (SrcQ prog w A h₀ L m env c elt a b scope cl Q) E s)
    (hs : ∀ x, foldedSetIterable iter env x = pure x := by intro _; rfl) :
    wpAny (model prog w) A (eval (.ListComp elt [⟨.Tuple [.Name a pa, .Name b pb] kk tp, iter, [c], 0⟩] scope pos) env) Q E s := by
  rw [eval_ListComp]
  refine wpAny_comprehension_free (use := none) rfl hs hclos hkind hnames (wpAny_mono h (fun xv s₁ h₁ => ?_) fun _ _ e => e)
  obtain ⟨ax, vs, k, news, J, rfl, hh, F, N, hax, hsz, hJ0, turn, done⟩ := h₁
  have hol : s₁.heap.get? ax = some (listOf vs.toArray k) := (N _ hax).1
  have hls : s₁.heap.IsList ax vs.toArray := ⟨_, hol, rfl, k, rfl⟩
  refine wpAny_pyIter_list hls ?_
  refine blockQ (J := J) (k := k) (news := news) hh (Nat.ne_of_lt (Heap.lt_size hol)) hsz ⟨_, Heap.get?_push_size _ rfl, rfl, rfl⟩ hax hcell hkind hxa hxb hab (F.push _)
    (fun p hp => ⟨Heap.get?_push_of_some _ (N p hp).1, (N p hp).2⟩) (Nat.ne_of_lt F.ns.lt) (next_is_new F) (fun p hp => Nat.ne_of_lt (Heap.lt_size (N p hp).1)) hJ0 turn ?_
  intro D C h tk m' ys F' N' hlt hn hC₀ hCL hCD offC hJ
  refine ⟨m', hn, fun h'' hs'' => done ys D h'' tk hJ (F'.change hs'' hCL hC₀) (fun p hp => ?_) hlt⟩
  refine ⟨hs''.extBut _ _ ?_ (N' p hp).1, (N' p hp).2⟩
  rcases List.mem_cons.mp hp with rfl | hp
  · exact Ne.symm hCD
  · exact offC p hp
end
end PC10
section PC11
theorem still_C11 : True := by
  w_top off
  trivial
open PySem.Spec
/-! ## Headers.__init__ -/
local macro_rules | `(tactic| walk_at "exec For") => `(tactic| ((fail_if_success (have : Go 1 := by assumption)); refine Stop.mk ?_))
local macro_rules | `(tactic| walk_at "pyIter ref") => `(tactic| (refine Stop.mk ?_))
def InitPost (hx dx : Addr) (w : World) (rest news' : List (Addr × Obj)) (r : Value) : Prop :=
  ∃ hl tk, news' = (hl, listOf #[] 0) :: (hx, instObj 233 dx) :: (dx, dictOf [⟨PyData.keyHash w.params "_headers", .str "_headers" tk, .ref hl⟩] 1) :: rest ∧ r = Value.none ∧ AllLt hl rest ∧ @LT.lt Nat _ hx hl ∧ @LT.lt Nat _ dx hl
theorem init_build {hx dx hl : Addr} {w : World} {rest : List (Addr × Obj)} {tk : Tok} {h₀ h : Heap} {L : Addr}
    (N : News h₀ L h ((hl, listOf #[] 0) :: (hx, instObj 233 dx) :: (dx, dictOf [⟨PyData.keyHash w.params "_headers", .str "_headers" tk, .ref hl⟩] 1) :: rest)) (l : @LT.lt Nat _ hx hl ∧ @LT.lt Nat _ dx hl ∧ AllLt hl rest) :
    ∃ news', News h₀ L h news' ∧ InitPost hx dx w rest news' .none := ⟨_, N, hl, tk, rfl, rfl, l.2.2, l.1, l.2.1⟩
set_option maxRecDepth 100000 in
set_option maxHeartbeats 0 in
theorem init_con (w : World) (rest : List (Addr × Obj)) (hx dx : Addr) (h1 : OwnOff rest [dx]) (h2 : @Ne Nat dx hx) :
   Con w (.ref 125) [.ref hx] 1 1 ((hx, instObj 233 dx) :: (dx, dictOf [] 0) :: rest) (InitPost hx dx w rest) := by
  unfold Con
  k_fill
  intro p loose mean mg mb dp un gd cn csc a ccd cl outer A₀ base h₀ L m s Q E hB hF hX hN hT hck hdp hun hret
  (refine' code_def (binds := [("self", .ref hx), ("headers", .none)]) ?k1 ?k2 ?k3 ?k4 ?k5 ?kA ?kF ?kK ?k6 ?k7 ?k8 ?k9 ?kB ?_ ?c2 ?c3 ?c4 ?c5; (case kA => exact rfl); (case kF => exact rfl); (case kK => assumption); (case k1 => k_asm); (case k2 => k_asm); (case k3 => k_asm); (case k4 => k_asm); (case k5 => k_asm); (case k6 => k_is); (case k7 => k_is); (case k8 => ktr_room); (case k9 => first | exact BindsTo.of_eq rfl | exact binds_K (by k_in) rfl (by k_is) rfl rfl rfl); (case c5 => decide); (case kB => exact locs rfl); (case c2 => exact rfl); (case c3 => exact rfl); (case c4 => exact rfl); k_whole; intro g' L' h' FG' F' N' B' X' T'; (try dsimp only); (try k_lift B'); (try k_fold))
  k_steps
  refine Stop.out ?_
  rename Fr g' L' _ _ => F9
  rename News g' L' _ _ => N9
  with_unfolding_all refine' For_turns F9 ?_ ?k1 ?k2
  case k1 => exact fun _ => rfl
  case k2 => passes_own
  k_steps
  refine Stop.out ?_
  refine kdt_iter (vs := []) (nn := 0) (fun i m nx => m = _ ∧ nx = _) rfl (List.Mem.head _) F9 N9 ⟨rfl, rfl⟩ ?_ ?_
  · rintro i v m₁ news₁ h tk own hv
    simp at hv
  · rintro m₁ news₁ h tk hp90 F₁ N₁
    try k_fold
    obtain ⟨rfl, rfl⟩ := hp90
    clear F9 N9
    dsimp only
    k_steps
    rename News h₀ _ _ _ => N9
    obtain ⟨news', N', P⟩ := init_build N9 (by assumption)
    exact hret _ _ _ news' (by assumption) N' P
theorem Con.via {w : World} {f : Value} {vs : List Value} {nd nu : Nat} {L1 L2 : List (Addr × Obj)} {Post Post' : List (Addr × Obj) → Value → Prop} (C : Con w f vs nd nu L1 Post) (h : ∀ p ∈ L1, p ∈ L2)
    (hp : ∀ n r, Post n r → ∃ n', (∀ p ∈ n', p ∈ n) ∧ Post' n' r) : Con w f vs nd nu L2 Post' := by
  intro p loose mean mg mb dp un gd cn cs a ccd cl outer A₀ base h₀ L m s Q E hB hF hX hN hT hck hdp hun hret
  refine C p loose mean mg mb dp un gd cn cs a ccd cl outer A₀ base h₀ L m s Q E hB hF hX (News.sub hN h) hT hck hdp hun fun r h' tk' news' F N P => ?_
  obtain ⟨n', hs, P'⟩ := hp news' r P
  exact hret r h' tk' n' F (News.sub N hs) P'
theorem tok0_via (w : World) (L2 : List (Addr × Obj)) (x dx pb xs dxs pb2 la f c' cell : Addr) (fc : Value) (fod : Option Addr) (fd : FuncData) (fsl : Array (Option Value)) (oc co : Obj) (t u : Nat → Tok) (ln : Int) (k n : Nat) (hNS : NextSpec w f la [(f, (⟨fc, fod, .func fd, fsl⟩ : Obj)), (c', oc), (cell, co)])
    (hb : ∀ p ∈ (la, listOf #[] k) :: (f, (⟨fc, fod, .func fd, fsl⟩ : Obj)) :: (c', oc) :: (cell, co) :: (dx, lexO w.params t (ln) (.ref xs) (pb)) :: (x, instObj 83 dx) :: (dxs, strO w.params u (pb2) (f)) :: (xs, instObj 83 dxs) :: (pb, listOf #[] n) :: [], p ∈ L2) :
    Con w (.ref 73) [.ref x] 4 4 L2 (fun news' r => news' = L2 ∧ ∃ tt, r = .str (Str.ofString "") tt) := by
  refine Con.via (tok0_con w L2 x dx pb xs dxs pb2 la f c' cell fc fod fd fsl oc co t u ln k n hNS) (fun p hp => ?_) ?_
  · rcases List.mem_append.mp (show p ∈ ((la, listOf #[] k) :: (f, (⟨fc, fod, .func fd, fsl⟩ : Obj)) :: (c', oc) :: (cell, co) :: (dx, lexO w.params t (ln) (.ref xs) (pb)) :: (x, instObj 83 dx) :: (dxs, strO w.params u (pb2) (f)) :: (xs, instObj 83 dxs) :: (pb, listOf #[] n) :: []) ++ L2 from hp) with hp | hp
    · exact hb p hp
    · exact hp
  · rintro n' r ⟨rfl, tt⟩
    exact ⟨L2, fun p hp => List.mem_append_right ((la, listOf #[] k) :: (f, (⟨fc, fod, .func fd, fsl⟩ : Obj)) :: (c', oc) :: (cell, co) :: (dx, lexO w.params t (ln) (.ref xs) (pb)) :: (x, instObj 83 dx) :: (dxs, strO w.params u (pb2) (f)) :: (xs, instObj 83 dxs) :: (pb, listOf #[] n) :: []) hp, rfl, tt⟩
end PC11
section PC12
theorem still_C12 : True := by
  w_top off
  trivial
open PySem.Spec
/-! ## Headers.items -/
theorem pick_all (vs : List Value) : kms_pick vs.toArray.toList none none = vs := by
  simp [kms_pick, kms_lo, kms_hi]
local macro_rules | `(tactic| walk_at "subscriptTail Name Slice ref ref") => `(tactic| (k_here; k_dflt (refine' kms_slice_lit ?F ?N ?l ?p ?q ?e ?_ ?s ?t ?z; (case F => k_asm); (case N => k_asm); (case l => kmk_list); (case p => kmk_part); (case q => kmk_part); (case e => exact pick_all _); (case s => with_unfolding_all rfl); (case t => kmk_pure); (case z => (first | kmk_size | (simp; assumption)))); intro D' h' F' N' l1; (try k_lt l1); (try k_sweep)))
set_option maxRecDepth 100000 in
set_option maxHeartbeats 0 in
theorem items_con (w : World) (rest : List (Addr × Obj)) (hx dx hl : Addr) (tk1 : Tok) (vs : List Value) (k : Nat) (hz : vs.length ≤ sizeLine) :
   Con w (.ref 197) [.ref hx] 1 1 ((hl, listOf vs.toArray k) :: (hx, instObj 233 dx) :: (dx, hdrO w.params (tk1) (hl)) :: rest)
     (fun news' r => ∃ D, r = .ref D ∧ news' = (D, listOf vs.toArray 0) :: (hl, listOf vs.toArray k) :: (hx, instObj 233 dx) :: (dx, hdrO w.params (tk1) (hl)) :: rest) := by
  unfold Con
  k_fill
  intro p loose mean mg mb dp un gd cn csc a ccd cl outer A₀ base h₀ L m s Q E hB hF hX hN hT hck hdp hun hret
  (refine' code_def (binds := [("self", .ref hx)]) ?k1 ?k2 ?k3 ?k4 ?k5 ?kA ?kF ?kK ?k6 ?k7 ?k8 ?k9 ?kB ?_ ?c2 ?c3 ?c4 ?c5; (case kA => exact rfl); (case kF => exact rfl); (case kK => assumption); (case k1 => k_asm); (case k2 => k_asm); (case k3 => k_asm); (case k4 => k_asm); (case k5 => k_asm); (case k6 => k_is); (case k7 => k_is); (case k8 => ktr_room); (case k9 => first | exact BindsTo.of_eq rfl | exact binds_K (by k_in) rfl (by k_is) rfl rfl rfl); (case c5 => decide); (case kB => exact locs rfl); (case c2 => exact rfl); (case c3 => exact rfl); (case c4 => exact rfl); k_whole; intro g' L' h' FG' F' N' B' X' T'; (try dsimp only); (try k_lift B'); (try k_fold))
  k_steps
  exact hret _ _ _ _ (by assumption) (by assumption) ⟨_, rfl, rfl⟩
end PC12
section PC13
theorem still_C13 : True := by
  w_top off
  trivial
open PySem.Spec PyProof.Rows
/-! ## a for over a range -/
section
variable {prog : Program} {w : World} {A : Around} {E : Value → Shared → Prop} {s : Shared} {env : Env} {h₀ : Heap} {x : Str} {body : List Stmt} {Q : Flow → Shared → Prop}
theorem rng_iter {r : Addr} {a b : Int} {t₀ u₀ v₀ : Tok} (n : Nat) {m₀ : Str → Option Value} {news : List (Addr × Obj)} (J : Nat → (Str → Option Value) → List (Addr × Obj) → Prop)
    (hh : A.handled = none) (hr : IsRange s.heap r a b 1 t₀ u₀ v₀) (hsmall : Builtin.Range.small a b 1 = true) (hsz : Builtin.Range.rangeSize a b 1 = (n : Int)) (F : Fr h₀ env.locals s.heap m₀) (N : News h₀ env.locals s.heap news) (hj : J 0 m₀ news)
    (turn : ∀ i t m₁ news₁ h tk own, i < n → OwnOff own (news₁.map (·.1)) → J i m₁ news₁ → Fr h₀ env.locals h (fun y => if y = x then some (.int (a + (i : Int)) t) else m₁ y) → News h₀ env.locals h (news₁ ++ own) →
      wpAny (model prog w) A (execs body env) (InvPostG h₀ env.locals (J (i + 1)) own { s with heap := h, toks := tk } Q) E { s with heap := h, toks := tk })
    (done : ∀ m₁ news₁ h tk, J n m₁ news₁ → Fr h₀ env.locals h m₁ → News h₀ env.locals h news₁ → Q .next { s with heap := h, toks := tk }) :
    wpAny (model prog w) A (pyIter (.ref r)) (fun it s₂ => LoopAtV prog w A h₀ env x body Q E it s₂) E s := by
  refine wpAny_pyIter_range hr hsmall ?_
  have W : Walks prog w A s.heap.objs.size [s.heap.objs.size] [s.heap.objs.size] n (fun i v => i < n ∧ ∃ t, v = .int (a + i * 1) t)
      (fun i h => IsRangeIter h s.heap.objs.size (a + (i : Nat) * 1) ((n : Int) - (i : Nat)) 1) := (Walks.range hh _ a 1 n).bound
  refine kdr_loop J W (fun _ h => h) (fun _ h => h) ?_ ?_ ?_ ?_ (by show IsRangeIter _ _ _ _ _; rw [hsz]; simpa using Heap.get?_push_size _ rfl) (F.push _) (fun p hp => ⟨Heap.get?_push_of_some _ (N p hp).1, (N p hp).2⟩) hj ?_ ?_
  · intro i h hi b hb
    rw [List.mem_singleton.mp hb]
    exact ⟨_, hi⟩
  · intro hm
    exact absurd F.ns.lt ((List.mem_singleton.mp hm) ▸ Nat.lt_irrefl _)
  · intro b hb
    rw [List.mem_singleton.mp hb]
    exact next_is_new F
  · intro p hp hI
    exact absurd (Heap.lt_size (N p hp).1) ((List.mem_singleton.mp hI) ▸ Nat.lt_irrefl _)
  · rintro i v m₁ nx h tk own hi ⟨_, t, rfl⟩ hoff hJ F₁ N₁
    rw [Int.mul_one] at F₁
    exact turn i t m₁ nx h tk own hi hoff hJ F₁ N₁
  · exact done
theorem rng0_iter {r : Addr} {t₀ u₀ v₀ : Tok} {b : Int} (n : Nat) {m₀ : Str → Option Value} {news : List (Addr × Obj)} (J : Nat → (Str → Option Value) → List (Addr × Obj) → Prop)
    (hh : A.handled = none) (hr : IsRange s.heap r 0 b 1 t₀ u₀ v₀) (hb : b = (n : Int)) (hn : n ≤ 1000000) (F : Fr h₀ env.locals s.heap m₀) (N : News h₀ env.locals s.heap news) (hj : J 0 m₀ news)
    (turn : ∀ i t m₁ news₁ h tk own, i < n → OwnOff own (news₁.map (·.1)) → J i m₁ news₁ → Fr h₀ env.locals h (fun y => if y = x then some (.int (i : Int) t) else m₁ y) → News h₀ env.locals h (news₁ ++ own) →
      wpAny (model prog w) A (execs body env) (InvPostG h₀ env.locals (J (i + 1)) own { s with heap := h, toks := tk } Q) E { s with heap := h, toks := tk })
    (done : ∀ m₁ news₁ h tk, J n m₁ news₁ → Fr h₀ env.locals h m₁ → News h₀ env.locals h news₁ → Q .next { s with heap := h, toks := tk }) :
    wpAny (model prog w) A (pyIter (.ref r)) (fun it s₂ => LoopAtV prog w A h₀ env x body Q E it s₂) E s := by
  subst hb
  refine rng_iter n J hh hr (small_one (by decide) (by decide) (by omega) (by omega)) (by rw [rangeSize_nat]; omega) F N hj ?_ done
  intro i t m₁ news₁ h tk own hi ho hJ F₁ N₁
  refine turn i t m₁ news₁ h tk own hi ho hJ ?_ N₁
  rw [Int.zero_add] at F₁
  exact F₁
/-! ## the truth of a list -/
theorem truthy_led {L : Addr} {D : Addr} {vs : List Value} {n : Nat} {news : List (Addr × Obj)} {Q : Bool → Shared → Prop} (N : News h₀ L s.heap news) (hm : (D, listOf vs.toArray n) ∈ news) (hz : vs.length ≤ 1000000) (b : Bool) (hb : (!vs.isEmpty) = b) (h : Q b { s with toks := s.toks + 1 + 1 }) :
    wpAny (model prog w) A (truthy (.ref D)) Q E s := by
  have hl : s.heap.IsList D vs.toArray := ⟨_, (N _ hm).1, rfl, n, rfl⟩
  refine wpAny_truthy_list hl (by rw [List.size_toArray]; omega) ?_
  rw [List.isEmpty_toArray, hb]
  exact h
theorem cut_val {M : Model} {A : Around} {t : Sem Value} {E : Value → Shared → Prop} {Q : Value → Shared → Prop} {s : Shared} (P : Value → Shared → Prop) (h1 : wpAny M A t (fun v s' => Hide (P v s')) E s) (h2 : ∀ v s', P v s' → Q v s') : wpAny M A t Q E s :=
  wpAny_mono h1 (fun v s' h => h2 v s' h) fun _ _ e => e
theorem cut_next {M : Model} {A : Around} {t : Sem Flow} {E : Value → Shared → Prop} {Q : Flow → Shared → Prop} {s : Shared} (P : Shared → Prop) (h1 : wpAny M A t (fun f s' => f = .next ∧ Hide (P s')) E s) (h2 : ∀ s', P s' → Q .next s') : wpAny M A t Q E s :=
  wpAny_mono h1 (fun _ s' h => h.1 ▸ h2 s' h.2) fun _ _ e => e
end
end PC13
section PC14
theorem still_C14 : True := by
  w_top off
  trivial
open PySem.Spec PySem.Calls PyProof.Rows PyProof.Rows.LCg
/-! ## a comprehension, one name, any tests, any source, the ledger may change -/
section
variable {prog : Program} {w : World} {A : Around} {E : Value → Shared → Prop} {s : Shared} {h₀ : Heap} {L : Addr} {m : Str → Option Value} {env : Env}
def NEnd (h₀ : Heap) (L : Addr) (m : Str → Option Value) (s₁ : Shared) (I : Addr) (oI : Obj) (C : Addr) (oC : Obj) (D : Addr) (oD : Obj) (src : List (Addr × Obj)) (J : List (Addr × Obj) → Prop) (s₄ : Shared) : Prop :=
  ∃ h' tk nx, s₄ = { s₁ with heap := h', toks := tk } ∧ Fr h₀ L h' m ∧ News h₀ L h' ((I, oI) :: (C, oC) :: (D, oD) :: nx) ∧ (∀ p ∈ nx, p.1 ≠ I ∧ p.1 ≠ C ∧ p.1 ≠ D) ∧ (∀ p ∈ src, p ∈ nx) ∧ J nx
theorem NEnd.intro {I C D : Addr} {oI oC oD : Obj} {src : List (Addr × Obj)} {J : List (Addr × Obj) → Prop} {s₁ : Shared} {h' : Heap} {tk : Nat} {all nx : List (Addr × Obj)} (F : Fr h₀ L h' m) (N : News h₀ L h' all) (hs : ∀ p ∈ (I, oI) :: (C, oC) :: (D, oD) :: nx, p ∈ all)
    (ho : ∀ p ∈ nx, p.1 ≠ I ∧ p.1 ≠ C ∧ p.1 ≠ D) (hr : ∀ p ∈ src, p ∈ nx) (hj : J nx) : NEnd h₀ L m s₁ I oI C oC D oD src J { s₁ with heap := h', toks := tk } := ⟨h', tk, nx, rfl, F, fun p hp => N p (hs p hp), ho, hr, hj⟩
abbrev testsT (ifs : List PySem.Expr) (env : Env) : Sem Bool := forIn ifs true fun c r => if r = true then do let ok ← isTrue c env (eval c env); pure (ForInStep.yield ok) else pure (ForInStep.yield r)
def TurnN (prog : Program) (w : World) (A : Around) (h₀ : Heap) (L : Addr) (m : Str → Option Value) (env : Env) (ifs : List PySem.Expr) (elt : PySem.Expr) (x : Str) (scope : Scope) (cl : List (Str × Addr)) (s₁ : Shared) (n : Nat) (P : Nat → Value → Prop) (src : List (Addr × Obj)) (J : Nat → List Value → List (Addr × Obj) → Prop) : Prop :=
  ∀ (i : Nat) (v : Value) ys nx I oI C oC D m₂ h tk (E' : Value → Shared → Prop), i < n → P i v → J i ys nx → (∀ p ∈ src, p ∈ nx) → ys.length ≤ i → NsObj oC m₂ → m₂ x = some v → Fr h₀ L h m → News h₀ L h ((I, oI) :: (C, oC) :: (D, lst ys) :: nx) → (∀ p ∈ nx, p.1 ≠ I ∧ p.1 ≠ C ∧ p.1 ≠ D) → ((@Ne Nat I C) ∧ (@Ne Nat I D) ∧ (@Ne Nat C D)) →
    wpAny (model prog w) A (testsT ifs (compEnvC scope cl C env)) (fun okb s₃ => if okb = true then
      wpAny (model prog w) A (eval elt (compEnvC scope cl C env)) (fun y s₄ => NEnd h₀ L m s₁ I oI C oC D (lst ys) src (J (i + 1) (ys ++ [y])) s₄) E' s₃
      else NEnd h₀ L m s₁ I oI C oC D (lst ys) src (J (i + 1) ys) s₃) E' { s₁ with heap := h, toks := tk }
theorem TurnN.plain {ifs : List PySem.Expr} {elt : PySem.Expr} {x : Str} {scope : Scope} {cl : List (Str × Addr)} {s₁ : Shared} {n : Nat} {P : Nat → Value → Prop} {src : List (Addr × Obj)} {J : Nat → List Value → List (Addr × Obj) → Prop} (hn : ifs = [])
    (hh : ∀ (i : Nat) (v : Value) ys nx I oI C oC D m₂ h tk (E' : Value → Shared → Prop), i < n → P i v → J i ys nx → (∀ p ∈ src, p ∈ nx) → ys.length ≤ i → NsObj oC m₂ → m₂ x = some v → Fr h₀ L h m → News h₀ L h ((I, oI) :: (C, oC) :: (D, lst ys) :: nx) → (∀ p ∈ nx, p.1 ≠ I ∧ p.1 ≠ C ∧ p.1 ≠ D) → ((@Ne Nat I C) ∧ (@Ne Nat I D) ∧ (@Ne Nat C D)) →
      wpAny (model prog w) A (eval elt (compEnvC scope cl C env)) (fun y s₄ => NEnd h₀ L m s₁ I oI C oC D (lst ys) src (J (i + 1) (ys ++ [y])) s₄) E' { s₁ with heap := h, toks := tk }) :
    TurnN prog w A h₀ L m env ifs elt x scope cl s₁ n P src J := by
  subst hn
  intro i v ys nx I oI C oC D m₂ h tk E' a b c d e f g F N o n
  exact wpAny_tests_nil (by simp only [if_true]; exact hh i v ys nx I oI C oC D m₂ h tk E' a b c d e f g F N o n)
theorem TurnN.test {ifs : List PySem.Expr} {c elt : PySem.Expr} {x : Str} {scope : Scope} {cl : List (Str × Addr)} {s₁ : Shared} {n : Nat} {P : Nat → Value → Prop} {src : List (Addr × Obj)} {J : Nat → List Value → List (Addr × Obj) → Prop} (hn : ifs = [c])
    (hh : ∀ (i : Nat) (v : Value) ys nx I oI C oC D m₂ h tk (E' : Value → Shared → Prop), i < n → P i v → J i ys nx → (∀ p ∈ src, p ∈ nx) → ys.length ≤ i → NsObj oC m₂ → m₂ x = some v → Fr h₀ L h m → News h₀ L h ((I, oI) :: (C, oC) :: (D, lst ys) :: nx) → (∀ p ∈ nx, p.1 ≠ I ∧ p.1 ≠ C ∧ p.1 ≠ D) → ((@Ne Nat I C) ∧ (@Ne Nat I D) ∧ (@Ne Nat C D)) →
      wpAny (model prog w) A (isTrue c (compEnvC scope cl C env) (eval c (compEnvC scope cl C env))) (fun okb s₃ => if okb = true then
        wpAny (model prog w) A (eval elt (compEnvC scope cl C env)) (fun y s₄ => NEnd h₀ L m s₁ I oI C oC D (lst ys) src (J (i + 1) (ys ++ [y])) s₄) E' s₃
        else NEnd h₀ L m s₁ I oI C oC D (lst ys) src (J (i + 1) ys) s₃) E' { s₁ with heap := h, toks := tk }) :
    TurnN prog w A h₀ L m env ifs elt x scope cl s₁ n P src J := by
  subst hn
  intro i v ys nx I oI C oC D m₂ h tk E' a b c d e f g F N o n
  exact wpAny_tests_one (hh i v ys nx I oI C oC D m₂ h tk E' a b c d e f g F N o n)

theorem blockN {elt iter : PySem.Expr} {ifs : List PySem.Expr} {x : Str} {px : Pos} {scope : Scope} {cl : List (Str × Addr)} {pos : Pos} {s₂ : Shared} {I : Addr} {src news : List (Addr × Obj)} {n : Nat} {P : Nat → Value → Prop} {St : Nat → Heap → Prop} {J : Nat → List Value → List (Addr × Obj) → Prop} {RR : Value → Addr → Result → Shared → Prop}
    (W : Walks prog w A I (I :: src.map (·.1)) [I] n P St) (hob : ∀ i h, St i h → ∃ o, h.get? I = some o) (hsz : n ≤ sizeLine) (hst : St 0 s₂.heap) (hsrc : ∀ p ∈ src, p ∈ news)
    (hcell : ∀ y ∈ scope.names, y.2 ≠ .cell) (hkind : scope.kind = .function) (hx : scope.names.lookup x = some .local)
    (F : Fr h₀ L s₂.heap m) (N : News h₀ L s₂.heap news) (hIL : L ≠ I) (hI₀ : h₀.get? I = none) (off : ∀ p ∈ news, p.1 ≠ I) (hJ0 : J 0 [] news)
    (turn : TurnN prog w A h₀ L m env ifs elt x scope cl s₂ n P src J)
    (hRR : ∀ D C h tk m' ys nx, Fr h₀ L h m → News h₀ L h ((D, lst ys) :: nx) → (∀ p ∈ nx, p.1 ≠ D) → h.Ns C m' → h₀.get? C = none → C ≠ L → C ≠ D → (∀ p ∈ nx, p.1 ≠ C) → ys.length ≤ n → J n ys nx → RR (.ref D) C (.ok .next) { s₂ with heap := h, toks := tk }) :
    wpAny (model prog w) A (newList []) (fun acc s₃ => wpAny (model prog w) A (newFunctionEnv scope env.globals cl [] env.qual none .none (some env)) (fun cenv s₄ =>
      codeAny (model prog w) A (.compStart (.ListComp elt [⟨.Name x px, iter, ifs, 0⟩] scope pos) 0 (.ref I) acc { cenv with scope := relabel scope env }) (RR acc cenv.locals) s₄) E s₃) E s₂ := by
  refine wpAny_newObj_type (wpAny_newFunctionEnv hcell (by intro y hy; simp at hy) (fun h₁ hns₁ hsb₁ => ?_) hkind)
  dsimp only at hns₁ hsb₁ ⊢
  generalize hH2 : s₂.heap.push { cls := .type "list", dict := none, data := .seq ([] : List Value).toArray } = H2 at hns₁ hsb₁ ⊢
  have hCe : H2.objs.size = s₂.heap.objs.size + 1 := by rw [← hH2, Heap.size_push]
  generalize hCx : H2.objs.size = C at hns₁ hsb₁ hCe ⊢
  generalize hDe : s₂.heap.objs.size = D at hns₁ hsb₁ hCe ⊢
  have lt2 : ∀ {x : Addr} {o : Obj}, s₂.heap.get? x = some o → @LT.lt Nat _ x D := fun e => hDe ▸ Heap.lt_size e
  have up : ∀ x o, s₂.heap.get? x = some o → h₁.get? x = some o := fun x o e => hsb₁.extBut x o (show @Ne Nat x C from by have := lt2 e; omega) (Heap.get?_push_of_some _ (hH2 ▸ Heap.get?_push_of_some _ e))
  have none₀ : ∀ x : Addr, @LE.le Nat _ D x → h₀.get? x = none := fun x hx => by
    cases e : h₀.get? x with
    | none => rfl
    | some o => exact absurd (lt2 (F.keep x o e)) (Nat.not_lt.mpr hx)
  have hD₀ : h₀.get? D = none := none₀ D (Nat.le_refl _)
  have hC₀ : h₀.get? C = none := none₀ _ (show @LE.le Nat _ D C by omega)
  have hLlt : @LT.lt Nat _ L D := hDe ▸ F.ns.lt
  have hIlt : @LT.lt Nat _ I D := by obtain ⟨o, e⟩ := hob _ _ hst; exact lt2 e
  have nlt : ∀ p ∈ news, @LT.lt Nat _ p.1 D := fun p hp => lt2 (N p hp).1
  have hDL : D ≠ L := Nat.ne_of_gt hLlt
  have hCL : C ≠ L := show @Ne Nat C L by omega
  have hCI : I ≠ C := show @Ne Nat I C by omega
  have hDI : I ≠ D := Nat.ne_of_lt hIlt
  have hDC : D ≠ C := show @Ne Nat D C by omega
  have off₀ : ∀ p ∈ news, p.1 ≠ I ∧ p.1 ≠ C ∧ p.1 ≠ D := fun p hp => ⟨off p hp, show @Ne Nat p.1 C by have := nlt p hp; omega, Nat.ne_of_lt (nlt p hp)⟩
  have hacc : h₁.get? D = some (lst []) := hsb₁.extBut _ _ hDC (Heap.get?_push_of_some _ (by rw [← hH2, ← hDe]; exact Heap.get?_push_size _ rfl))
  have hst₁ : St 0 h₁ := W.frame _ _ _ hst fun b _ o e => up b o e
  have keepSt : ∀ i h h' nx, St i h → News h₀ L h nx → News h₀ L h' nx → (∀ p ∈ src, p ∈ nx) → (∀ o, h.get? I = some o → h'.get? I = some o) → St i h' := fun i h h' nx st N1 N2 hs hI => W.frame _ _ _ st fun b hb o e => by
    rcases List.mem_cons.mp hb with rfl | hb
    · exact hI o e
    · obtain ⟨p, hp, rfl⟩ := List.mem_map.mp hb
      have h1 := (N1 p (hs p hp)).1
      rw [e] at h1
      exact (Option.some.inj h1) ▸ (N2 p (hs p hp)).1
  have loop : ∀ s₃ : Shared, s₃ = { s₂ with heap := h₁, toks := s₂.toks + ([] : List (Str × Value)).length } →
      codeAny (model prog w) A (.compLoop (.ListComp elt [⟨.Name x px, iter, ifs, 0⟩] scope pos) 0 (.ref I) (.ref D) (compEnvC scope cl C env)) (RR (.ref D) C) s₃ := by
    rintro s₃ rfl
    refine codeAny_compLoop_tests (fun q s' => ∃ h' tk i ys m' nx, s' = { s₂ with heap := h', toks := tk } ∧ i ≤ n ∧ q = n + 1 - i ∧ ys.length ≤ i ∧ St i h' ∧ Fr h₀ L h' m ∧ h'.Ns C m' ∧ News h₀ L h' ((D, lst ys) :: nx) ∧ (∀ p ∈ nx, p.1 ≠ I ∧ p.1 ≠ C ∧ p.1 ≠ D) ∧ (∀ p ∈ src, p ∈ nx) ∧ J i ys nx) ?_ (n + 1)
      ⟨h₁, _, 0, [], _, news, rfl, Nat.zero_le _, rfl, Nat.le_refl _, hst₁, F.keeps up, hns₁, fun p hp => ?_, off₀, hsrc, hJ0⟩
    · rintro q s' ⟨h', tk, i, ys, m', nx, rfl, hi, rfl, hyl, hst', F', hn', N', off3, hsr, hJ⟩
      by_cases hlt : i < n
      · refine W.item i _ _ _ hlt hst' fun v h₂ tk₂ hPv hst₂ hk₂ => ?_
        have up₂ : ∀ x o, x ≠ I → h'.get? x = some o → h₂.get? x = some o := fun x o hx e => hk₂ x o (by simpa using hx) e
        refine wpAny_assign_Name (wpAny_storeName_local (lookup_relabel_local hx) (hn'.at' fun o e => up₂ _ o (Ne.symm hCI) e) (fun h₄ hn₄ hs₄ => ?_) (by simp [compEnvC, relabel, hkind]))
        have up₄ : ∀ x o, x ≠ I → x ≠ C → h'.get? x = some o → h₄.get? x = some o := fun x o h1 h2 e => hs₄.extBut x o h2 (up₂ x o h1 e)
        obtain ⟨oI, heI⟩ := hob _ _ hst₂
        have heI₄ : h₄.get? I = some oI := hs₄.extBut I _ hCI heI
        obtain ⟨oC, heC, hoC⟩ := ns_obj hn₄
        have F₄ : Fr h₀ L h₄ m := ⟨F'.ns.at' fun o e => up₄ _ o hIL (Ne.symm hCL) e, fun x o e => up₄ x o (fun q => by rw [q, hI₀] at e; cases e) (fun q => by rw [q, hC₀] at e; cases e) (F'.keep x o e), F'.above⟩
        have N₄ : News h₀ L h₄ ((I, oI) :: (C, oC) :: (D, lst ys) :: nx) := fun q hq => by
          rcases List.mem_cons.mp hq with rfl | hq
          · exact ⟨heI₄, Ne.symm hIL, hI₀⟩
          · rcases List.mem_cons.mp hq with rfl | hq
            · exact ⟨heC, hCL, hC₀⟩
            · have z := N' q hq
              rcases List.mem_cons.mp hq with rfl | hq
              · exact ⟨up₄ _ _ (Ne.symm hDI) hDC z.1, z.2⟩
              · exact ⟨up₄ _ _ (off3 q hq).1 (off3 q hq).2.1 z.1, z.2⟩
        have st₄ : St (i + 1) h₄ := keepSt (i + 1) h₂ h₄ nx hst₂ (fun p hp => ⟨up₂ _ _ (off3 p hp).1 (N' p (.tail _ hp)).1, (N' p (.tail _ hp)).2⟩) (fun p hp => N₄ p (.tail _ (.tail _ (.tail _ hp)))) hsr (fun o e => hs₄.extBut I _ hCI e)
        have fin : ∀ (ys' : List Value) (nx' : List (Addr × Obj)) (h₅ : Heap) (tk₅ : Nat), ys'.length ≤ i + 1 → Fr h₀ L h₅ m → News h₀ L h₅ ((I, oI) :: (C, oC) :: (D, lst ys') :: nx') → (∀ p ∈ nx', p.1 ≠ I ∧ p.1 ≠ C ∧ p.1 ≠ D) → (∀ p ∈ src, p ∈ nx') → J (i + 1) ys' nx' →
            ∃ q', q' < n + 1 - i ∧ (∃ h' tk i ys m' nx, ({ s₂ with heap := h₅, toks := tk₅ } : Shared) = { s₂ with heap := h', toks := tk } ∧ i ≤ n ∧ q' = n + 1 - i ∧ ys.length ≤ i ∧ St i h' ∧ Fr h₀ L h' m ∧ h'.Ns C m' ∧ News h₀ L h' ((D, lst ys) :: nx) ∧ (∀ p ∈ nx, p.1 ≠ I ∧ p.1 ≠ C ∧ p.1 ≠ D) ∧ (∀ p ∈ src, p ∈ nx) ∧ J i ys nx) := by
          intro ys' nx' h₅ tk₅ hl F₅ N₅ off₅ hs₅ hJ₅
          refine ⟨n + 1 - (i + 1), by omega, h₅, tk₅, i + 1, ys', _, nx', rfl, hlt, rfl, hl, ?_, F₅, hoC.ns (N₅ _ (.tail _ (.head _))).1, fun q hq => N₅ q (.tail _ (.tail _ hq)), off₅, hs₅, hJ₅⟩
          exact W.frame _ _ _ st₄ fun b hb o e => by
            rcases List.mem_cons.mp hb with rfl | hb
            · rw [heI₄] at e; exact (Option.some.inj e) ▸ (N₅ _ (.head _)).1
            · obtain ⟨p, hp, rfl⟩ := List.mem_map.mp hb
              have h1 := (N₄ p (.tail _ (.tail _ (.tail _ (hsr p hp))))).1
              rw [e] at h1
              exact (Option.some.inj h1) ▸ (N₅ p (.tail _ (.tail _ (.tail _ (hs₅ p hp))))).1
        refine wpAny_mono (turn i v ys nx I oI C oC D _ h₄ _ _ hlt hPv hJ hsr hyl hoC (by simp) F₄ N₄ off3 ⟨hCI, hDI, Ne.symm hDC⟩) (fun okb s₅ h₅ => ?_) fun _ _ e => e
        cases okb with
        | false =>
          simp only [Bool.false_eq_true, if_false] at h₅ ⊢
          obtain ⟨h₅, tk₅, nx₅, rfl, F₅, N₅, off₅, hs₅, J₅⟩ := h₅
          exact fin ys nx₅ h₅ tk₅ (Nat.le_succ_of_le hyl) F₅ N₅ off₅ hs₅ J₅
        | true =>
          simp only [if_true] at h₅ ⊢
          refine wpAny_mono h₅ (fun y s₆ h₆ => ?_) fun _ _ e => e
          obtain ⟨h₅, tk₅, nx₅, rfl, F₅, N₅, off₅, hs₅, J₅⟩ := h₆
          refine append_at (hsz := by show ys.toArray.size ≤ sizeLine; rw [List.size_toArray]; exact Nat.le_trans hyl (Nat.le_trans hi hsz)) (N₅ _ (.tail _ (.tail _ (.head _)))).1 fun h₆ hs₆ hD₆ => ?_
          refine fin (ys ++ [y]) nx₅ h₆ _ (by rw [List.length_append, List.length_singleton]; exact Nat.succ_le_succ hyl) (F₅.change hs₆ hDL hD₀) (fun q hq => ?_) off₅ hs₅ J₅
          rcases List.mem_cons.mp hq with rfl | hq
          · exact ⟨hs₆.extBut I oI hDI (N₅ _ (.head _)).1, Ne.symm hIL, hI₀⟩
          rcases List.mem_cons.mp hq with rfl | hq
          · exact ⟨hs₆.extBut _ oC (Ne.symm hDC) (N₅ _ (.tail _ (.head _))).1, hCL, hC₀⟩
          rcases List.mem_cons.mp hq with rfl | hq
          · exact ⟨hD₆.trans (congrArg some (lst_snoc ys y)), hDL, hD₀⟩
          · exact ⟨hs₆.extBut _ _ (off₅ q hq).2.2 (N₅ q (.tail _ (.tail _ (.tail _ hq)))).1, (N₅ q (.tail _ (.tail _ (.tail _ hq)))).2⟩
      · have hin : i = n := Nat.le_antisymm hi (Nat.not_lt.mp hlt)
        subst hin
        refine W.done _ _ _ hst' fun h₂ tk₂ hk₂ => ?_
        have up₂ : ∀ x o, x ≠ I → h'.get? x = some o → h₂.get? x = some o := fun x o hx e => hk₂ x o (by simpa using hx) e
        refine hRR _ _ h₂ tk₂ _ ys nx (fr_but F' hk₂ hIL hI₀) (fun q hq => ?_) (fun p hp => (off3 p hp).2.2) (hn'.at' fun o e => up₂ _ o (Ne.symm hCI) e) hC₀ hCL (Ne.symm hDC) (fun p hp => (off3 p hp).2.1) hyl hJ
        have z := N' q hq
        rcases List.mem_cons.mp hq with rfl | hq
        · exact ⟨up₂ _ _ (Ne.symm hDI) z.1, z.2⟩
        · exact ⟨up₂ _ _ (off3 q hq).1 z.1, z.2⟩
    · rcases List.mem_cons.mp hp with rfl | hp
      · exact ⟨hacc, hDL, hD₀⟩
      · exact ⟨up _ _ (N p hp).1, (N p hp).2⟩
  exact codeAny_compStart_list (loop _ rfl) (W.self 0 _ _ _ hst₁ (loop _ rfl))

def SrcN (prog : Program) (w : World) (A : Around) (E : Value → Shared → Prop) (h₀ : Heap) (L : Addr) (m : Str → Option Value) (env : Env) (ifs : List PySem.Expr) (elt : PySem.Expr) (x : Str) (scope : Scope) (cl : List (Str × Addr)) (Fin : Shared → Addr → List Value → List (Addr × Obj) → Heap → Nat → Prop) (xv : Value) (s₁ : Shared) : Prop :=
  ∃ (n : Nat) (src news : List (Addr × Obj)) (P : Nat → Value → Prop) (J : Nat → List Value → List (Addr × Obj) → Prop), n ≤ sizeLine ∧ Fr h₀ L s₁.heap m ∧ News h₀ L s₁.heap news ∧ (∀ p ∈ src, p ∈ news) ∧ J 0 [] news ∧
    (∀ (E' : Value → Shared → Prop) (Q' : Value → Shared → Prop), (∀ o (St : Nat → Heap → Prop), Walks prog w A s₁.heap.objs.size (s₁.heap.objs.size :: src.map (·.1)) [s₁.heap.objs.size] n P St → (∀ i h, St i h → ∃ o, h.get? s₁.heap.objs.size = some o) → St 0 (s₁.heap.push o) → Q' (.ref s₁.heap.objs.size) { s₁ with heap := s₁.heap.push o }) → wpAny (model prog w) A (pyIter xv) Q' E' s₁) ∧
    TurnN prog w A h₀ L m env ifs elt x scope cl s₁ n P src J ∧
    (∀ ys D nx h tk, J n ys nx → ys.length ≤ n → News h₀ L h ((D, lst ys) :: nx) → (∀ p ∈ nx, p.1 ≠ D) → Fin s₁ D ys nx h tk)
theorem SrcN.list {ifs : List PySem.Expr} {elt : PySem.Expr} {x : Str} {scope : Scope} {cl : List (Str × Addr)} {Fin : Shared → Addr → List Value → List (Addr × Obj) → Heap → Nat → Prop} {s₁ : Shared} {ax : Addr} {vs : List Value} {k : Nat} {news : List (Addr × Obj)} (J : Nat → List Value → List (Addr × Obj) → Prop)
    (hh : A.handled = none) (F : Fr h₀ L s₁.heap m) (N : News h₀ L s₁.heap news) (hm : (ax, listOf vs.toArray k) ∈ news) (hsz : vs.length ≤ sizeLine) (hj : J 0 [] news)
    (turn : TurnN prog w A h₀ L m env ifs elt x scope cl s₁ vs.length (fun i v => vs[i]? = some v) [(ax, listOf vs.toArray k)] J)
    (fin : ∀ ys D nx h tk, J vs.length ys nx → ys.length ≤ vs.length → News h₀ L h ((D, lst ys) :: nx) → (∀ p ∈ nx, p.1 ≠ D) → Fin s₁ D ys nx h tk) :
    SrcN prog w A E h₀ L m env ifs elt x scope cl Fin (.ref ax) s₁ := by
  have hol : s₁.heap.get? ax = some (listOf vs.toArray k) := (N _ hm).1
  have hls : s₁.heap.IsList ax vs.toArray := ⟨_, hol, rfl, k, rfl⟩
  refine ⟨vs.length, [(ax, listOf vs.toArray k)], news, _, J, hsz, F, N, fun p hp => (List.mem_singleton.mp hp) ▸ hm, hj, fun E' Q' hQ => ?_, turn, fin⟩
  have W := Walks.list (prog := prog) (w := w) (A := A) hh s₁.heap.objs.size ax (Nat.ne_of_lt (Heap.lt_size hol)) vs.toArray
  have hlen : vs.toArray.size = vs.length := by simp
  rw [hlen] at W
  have e : (fun (i : Nat) (v : Value) => vs.toArray[i]? = some v) = (fun i v => vs[i]? = some v) := by funext i v; simp
  rw [e] at W
  refine wpAny_pyIter_list hls ?_
  refine hQ _ _ W ?_ ⟨⟨_, Heap.get?_push_size _ rfl, rfl, rfl⟩, hls.at fun o e => Heap.get?_push_of_some _ e⟩
  rintro i h ⟨⟨o, e, _⟩, _⟩
  exact ⟨o, e⟩
theorem SrcN.range {ifs : List PySem.Expr} {elt : PySem.Expr} {x : Str} {scope : Scope} {cl : List (Str × Addr)} {Fin : Shared → Addr → List Value → List (Addr × Obj) → Heap → Nat → Prop} {s₁ : Shared} {r : Addr} {a b : Int} {t₀ u₀ v₀ : Tok} (n : Nat) {news : List (Addr × Obj)} (J : Nat → List Value → List (Addr × Obj) → Prop)
    (hh : A.handled = none) (F : Fr h₀ L s₁.heap m) (N : News h₀ L s₁.heap news) (hr : IsRange s₁.heap r a b 1 t₀ u₀ v₀) (hsmall : Builtin.Range.small a b 1 = true) (hn : Builtin.Range.rangeSize a b 1 = (n : Int)) (hsz : n ≤ sizeLine) (hj : J 0 [] news)
    (turn : TurnN prog w A h₀ L m env ifs elt x scope cl s₁ n (fun i v => ∃ t, v = .int (a + (i : Int)) t) [] J)
    (fin : ∀ ys D nx h tk, J n ys nx → ys.length ≤ n → News h₀ L h ((D, lst ys) :: nx) → (∀ p ∈ nx, p.1 ≠ D) → Fin s₁ D ys nx h tk) :
    SrcN prog w A E h₀ L m env ifs elt x scope cl Fin (.ref r) s₁ := by
  refine ⟨n, [], news, _, J, hsz, F, N, fun p hp => (nomatch hp), hj, fun E' Q' hQ => ?_, turn, fin⟩
  exact wpAny_pyIter_range hr hsmall (hQ _ _ (range_walks hh a n) (fun i h st => ⟨_, st⟩) (by show IsRangeIter _ _ _ _ _; rw [hn]; simpa using Heap.get?_push_size _ rfl))
theorem ListComp_N {elt iter : PySem.Expr} {ifs : List PySem.Expr} {x : Str} {px : Pos} {scope : Scope} {cl : List (Str × Addr)} {pos : Pos} {Q : Value → Shared → Prop} (_F₀ : Fr h₀ L s.heap m)
    (hclos : closureFor scope env = pure cl) (hcell : ∀ y ∈ scope.names, y.2 ≠ .cell) (hkind : scope.kind = .function)
    (hnames : ∀ y ∈ scope.names, y.2 = .local → scope.names.lookup y.1 = some .local) (hx : scope.names.lookup x = some .local)
    (h : wpAny (model prog w) A (eval iter env) (SrcN prog w A E h₀ L m env ifs elt x scope cl (fun s₁ D ys nx h tk => Fr h₀ L h m → Q (.ref D) { s₁ with heap := h, toks := tk })) E s)
    (hs : ∀ x, foldedSetIterable iter env x = pure x := by intro _; rfl) :
    wpAny (model prog w) A (eval (.ListComp elt [⟨.Name x px, iter, ifs, 0⟩] scope pos) env) Q E s := by
  rw [eval_ListComp]
  refine wpAny_comprehension_free (use := none) rfl hs hclos hkind hnames (wpAny_mono h (fun xv s₁ h₁ => ?_) fun _ _ e => e)
  obtain ⟨n, src, news, P, J, hsz, F, N, hsrc, hj, hit, turn, fin⟩ := h₁
  refine hit _ _ fun o St W hob hst => ?_
  refine blockN (src := src) (J := J) (news := news) W hob hsz hst hsrc hcell hkind hx (F.push _)
    (fun p hp => ⟨Heap.get?_push_of_some _ (N p hp).1, (N p hp).2⟩) (Nat.ne_of_lt F.ns.lt) (next_is_new F) (fun p hp => Nat.ne_of_lt (Heap.lt_size (N p hp).1)) hj turn ?_
  intro D C h tk m' ys nx F' N' hne hn hC₀ hCL hCD offC hyl hJ
  refine ⟨m', hn, fun h'' hs'' => fin ys D nx h'' tk hJ hyl (fun p hp => ?_) hne (F'.change hs'' hCL hC₀)⟩
  refine ⟨hs''.extBut _ _ ?_ (N' p hp).1, (N' p hp).2⟩
  rcases List.mem_cons.mp hp with rfl | hp
  · exact Ne.symm hCD
  · exact offC p hp
theorem Assign_ListComp_N {elt iter : PySem.Expr} {ifs : List PySem.Expr} {x y : Str} {px py : Pos} {scope : Scope} {cl : List (Str × Addr)} {pos spos : Pos} {Q : Flow → Shared → Prop} (_F₀ : Fr h₀ L s.heap m) (hLe : env.locals = L)
    (hsw : swapsWith (.ListComp elt [⟨.Name x px, iter, ifs, 0⟩] scope pos) (some (.Name y py)) spos.line env = pure true)
    (hclos : closureFor scope env = pure cl) (hcell : ∀ y ∈ scope.names, y.2 ≠ .cell) (hkind : scope.kind = .function)
    (hnames : ∀ y ∈ scope.names, y.2 = .local → scope.names.lookup y.1 = some .local) (hx : scope.names.lookup x = some .local)
    (hy : env.kindOf y = some .local) (hp : (env.scope.kind == .class || (env.scope.kind == .module && env.locals != env.globals)) = false)
    (h : wpAny (model prog w) A (eval iter env) (SrcN prog w A E h₀ L m env ifs elt x scope cl (fun s₁ D ys nx h tk => Fr h₀ L h (fun z => if z = y then some (.ref D) else m z) → Q .next { s₁ with heap := h, toks := tk })) E s)
    (hs : ∀ x, foldedSetIterable iter env x = pure x := by intro _; rfl) :
    wpAny (model prog w) A (exec (.Assign [.Name y py] (.ListComp elt [⟨.Name x px, iter, ifs, 0⟩] scope pos) spos) env) Q E s := by
  subst hLe
  rw [exec_Assign_Name_used _ _ _ _ hsw]
  refine wpAny_bind (wpAny_standAt (wpAny_bind ?_))
  show wpAny _ A (do let _ ← comprehension (.ListComp elt [⟨.Name x px, iter, ifs, 0⟩] scope pos) scope env _ (newList []) false (eval iter env) (some (assign (.Name y py) env))) _ _ s
  refine wpAny_bind (wpAny_mono (wpAny_comprehension_free (use := some (assign (.Name y py) env)) (Q := fun _ s' => Q .next s') rfl hs hclos hkind hnames
    (wpAny_mono h (fun xv s₁ h₁ => ?_) fun _ _ e => e)) (fun _ s' hq => wpAny_pure (wpAny_pure hq)) fun _ _ e => e)
  obtain ⟨n, src, news, P, J, hsz, F, N, hsrc, hj, hit, turn, fin⟩ := h₁
  refine hit _ _ fun o St W hob hst => ?_
  refine blockN (src := src) (J := J) (news := news) W hob hsz hst hsrc hcell hkind hx (F.push _)
    (fun p hp => ⟨Heap.get?_push_of_some _ (N p hp).1, (N p hp).2⟩) (Nat.ne_of_lt F.ns.lt) (next_is_new F) (fun p hp => Nat.ne_of_lt (Heap.lt_size (N p hp).1)) hj turn ?_
  intro D C h' tk m' ys nx F' N' hne hn hC₀ hCL hCD offC hyl hJ
  show wpAny _ A (assign (.Name y py) env (.ref D)) _ _ _
  refine wpAny_assign_Name (wpAny_storeName_local hy F'.ns (fun h₂ hn₂ hs₂ => ?_) hp)
  have hL₀ : h₀.get? env.locals = none := Heap.get?_none_of_le F'.above
  have F₂ : Fr h₀ env.locals h₂ (fun z => if z = y then some (.ref D) else m z) := ⟨hn₂, fun b o e => hs₂.extBut b o (fun q => by rw [q, hL₀] at e; cases e) (F'.keep b o e), F'.above⟩
  refine ⟨m', hn.sameBut hs₂ hCL, fun h'' hs'' => fin ys D nx h'' _ hJ hyl (fun p hp => ?_) hne (F₂.change hs'' hCL hC₀)⟩
  have z : h₂.get? p.1 = some p.2 := hs₂.extBut _ _ (N' p hp).2.1 (N' p hp).1
  refine ⟨hs''.extBut _ _ ?_ z, (N' p hp).2⟩
  rcases List.mem_cons.mp hp with rfl | hp
  · exact Ne.symm hCD
  · exact offC p hp
end
end PC14
section PP2
theorem still_P2 : True := by
  w_top off
  trivial
open PySem.Spec PyProof.Rows
/-! ## law 2: what _law_ends computes, on texts -/
def em1 (pair word : Str) : Bool := findAll word word.length (Str.ofString "" :: [pair] ++ [Str.ofString ""]) 0
def posts (pair put word : Str) : List Str := (List.range word.length).filterMap fun (k : Nat) =>
  if Txt.slice word (some (k : Int)) (some ((k : Int) + 2)) == pair then some (Txt.slice word none (some (k : Int)) ++ put ++ Txt.slice word (some ((k : Int) + 2)) none) else none
def postsTo (pair put word : Str) (n : Nat) : List Str := (List.range n).filterMap fun (k : Nat) =>
  if Txt.slice word (some (k : Int)) (some ((k : Int) + 2)) == pair then some (Txt.slice word none (some (k : Int)) ++ put ++ Txt.slice word (some ((k : Int) + 2)) none) else none
theorem posts_eq (pair put word : Str) : posts pair put word = postsTo pair put word word.length := rfl
theorem postsTo_zero (pair put word : Str) : postsTo pair put word 0 = [] := rfl
theorem postsTo_hit {pair put word : Str} {n : Nat} (h : (Txt.slice word (some (n : Int)) (some ((n : Int) + 2)) == pair) = true) : postsTo pair put word (n + 1) = postsTo pair put word n ++ [Txt.slice word none (some (n : Int)) ++ put ++ Txt.slice word (some ((n : Int) + 2)) none] := by
  unfold postsTo
  rw [List.range_succ, List.filterMap_append]
  simp only [List.filterMap_cons, List.filterMap_nil, h, if_true]
theorem postsTo_miss {pair put word : Str} {n : Nat} (h : (Txt.slice word (some (n : Int)) (some ((n : Int) + 2)) == pair) = false) : postsTo pair put word (n + 1) = postsTo pair put word n := by
  unfold postsTo
  rw [List.range_succ, List.filterMap_append]
  simp only [List.filterMap_cons, List.filterMap_nil, h, if_false, Bool.false_eq_true, List.append_nil]
theorem flat_take_succ {α β : Type} {l : List α} {i : Nat} {q : α} {f : α → List β} (h : l[i]? = some q) : (l.take (i + 1)).flatMap f = (l.take i).flatMap f ++ f q := by
  rw [List.take_add_one, h, List.flatMap_append]; simp
def safeB (x : Str) : Bool := (List.range x.cps.size).all fun i => [32, 34, 92, 60, 62, 111, 110, 101, 100].contains (x.cps.getD i 0)
theorem safe_of {x : Str} (h : safeB x = true) : SafeStr x := by
  intro i hi
  have := List.all_eq_true.mp h i (List.mem_range.mpr hi)
  simpa using this
def okB (l : List (Str × Str)) (ps : List Str) (word : Str) : Bool := decide (l.length ≤ 300) && decide (ps.length ≤ 500) && decide (word.length ≤ 20) && safeB word
def fitOf (rules : List (Str × Str)) (word : Str) : List (Str × Str) := rules.filter fun r => em1 r.1 word
def flagOf (fit : List (Str × Str)) : Str := if fit.isEmpty then Str.ofString "end" else Str.ofString "on"
def endsRun (rules : List (Str × Str)) : Nat → List (Str × Str) → List Str → Str → Option (List (Str × Str))
  | 0, _, _, _ => none
  | n + 1, l, ps, word =>
    if word = Str.ofString "" then some l
    else if okB l ps word then
      if l.any (fun p => p.1 == word) then
        match ps with
        | [] => endsRun rules n l [] (Str.ofString "")
        | v :: r => endsRun rules n l r v
      else
        match ps ++ (fitOf rules word).flatMap (fun r => posts r.1 r.2 word) with
        | [] => endsRun rules n (l ++ [(word, flagOf (fitOf rules word))]) [] (Str.ofString "")
        | v :: r => endsRun rules n (l ++ [(word, flagOf (fitOf rules word))]) r v
    else none
def endsNext (rules : List (Str × Str)) (n : Nat) (l : List (Str × Str)) : List Str → Option (List (Str × Str))
  | [] => endsRun rules n l [] (Str.ofString "")
  | v :: r => endsRun rules n l r v
theorem run_step {rules : List (Str × Str)} {n : Nat} {l fin : List (Str × Str)} {ps : List Str} {word : Str} (h : endsRun rules n l ps word = some fin) :
    (word = Str.ofString "" ∧ l = fin) ∨ (word ≠ Str.ofString "" ∧ okB l ps word = true ∧ ∃ n', n = n' + 1 ∧ (l.any (fun p => p.1 == word) = true → endsNext rules n' l ps = some fin) ∧
      (l.any (fun p => p.1 == word) = false → endsNext rules n' (l ++ [(word, flagOf (fitOf rules word))]) (ps ++ (fitOf rules word).flatMap (fun r => posts r.1 r.2 word)) = some fin)) := by
  cases n with
  | zero => exact absurd h (by simp [endsRun])
  | succ n =>
    unfold endsRun at h
    by_cases hw : word = Str.ofString ""
    · rw [if_pos hw] at h; exact .inl ⟨hw, Option.some.inj h⟩
    · rw [if_neg hw] at h
      by_cases ho : okB l ps word = true
      · rw [if_pos ho] at h
        refine .inr ⟨hw, ho, n, rfl, fun ha => ?_, fun ha => ?_⟩
        · rw [if_pos ha] at h
          unfold endsNext
          exact h
        · rw [if_neg (by rw [ha]; exact Bool.false_ne_true)] at h
          unfold endsNext
          exact h
      · rw [if_neg ho] at h; cases h
theorem len_ne {x : Str} (h : x ≠ Str.ofString "") : ((x.length : Int) != 0) = true := by
  have : x.length ≠ 0 := fun e => h (by
    obtain ⟨c⟩ := x
    have : c = #[] := Array.eq_empty_of_size_eq_zero e
    subst this
    decide +kernel)
  simpa using this
def endsOf (fin : List (Str × Str)) : List Str := (fin.filter fun p => p.2 == Str.ofString "end").map (·.1)
theorem endsOf_take {l : List (Str × Str)} {i : Nat} {kx vx : Str} (h : l[i]? = some (kx, vx)) : endsOf (l.take (i + 1)) = endsOf (l.take i) ++ (if vx == Str.ofString "end" then [kx] else []) := by
  unfold endsOf
  rw [List.take_add_one, h, List.filter_append, List.map_append]
  congr 1
  by_cases hv : (vx == Str.ofString "end") = true
  · simp [hv]
  · simp [hv]
def EmOk (p : Str) : Prop := Txt.split (Str.ofString "..." ++ p ++ Str.ofString "...") (Str.ofString "...") = Str.ofString "" :: [p] ++ [Str.ofString ""] ∧
  (Builtin.Str.occurrences (Str.ofString "..." ++ p ++ Str.ofString "...") (Str.ofString "...") 0 (Str.ofString "..." ++ p ++ Str.ofString "...").length 1).isEmpty = false ∧ p.length ≤ 10
end PP2
section PC15
theorem still_C15 : True := by
  w_top off
  trivial
open PySem.Spec
/-! ## push_token, the words pushed told by their texts -/
theorem strV_snoc (l : List (Str × Tok)) (x : Str) (t : Tok) : strValues l ++ [Value.str x t] = strValues (l ++ [(x, t)]) := by simp [strValues]
theorem push_str (w : World) (rest : List (Addr × Obj)) (x dx pb : Addr) (ps : List (Str × Tok)) (n : Nat) (t : Nat → Tok) (ln : Int) (st : Value) (tok : Str) (tt : Tok) (h1 : OwnOff rest [pb]) (hne1 : @Ne Nat pb x) (hne2 : @Ne Nat pb dx) (hl : ps.length ≤ 1000) :
   Con w (.ref 80) [.ref x, .str tok tt] 1 1 ((pb, listOf (strValues ps).toArray n) :: (dx, lexO w.params t (ln) (st) (pb)) :: (x, instObj 83 dx) :: rest)
     (fun news' r => ∃ psn : List (Str × Tok), psn.map (fun p : Str × Tok => p.1) = ps.map (fun p : Str × Tok => p.1) ++ [tok] ∧ psn.length = ps.length + 1 ∧ news' = (pb, listOf (strValues psn).toArray (n + 1)) :: (dx, lexO w.params t (ln) (st) (pb)) :: (x, instObj 83 dx) :: rest ∧ r = Value.none) := by
  refine Con.via (push_con w rest x dx pb (strValues ps) n t ln st tok tt h1 hne1 hne2 (by rw [strValues, List.length_map]; exact hl)) (fun _ h => h) ?_
  rintro n' r ⟨rfl, rfl⟩
  exact ⟨_, fun _ h => h, ps ++ [(tok, tt)], by simp, by simp, by rw [strV_snoc], rfl⟩
theorem own_of_off {own news : List (Addr × Obj)} {b : Addr} {o : Obj} (h : OwnOff own (news.map (·.1))) (hb : (b, o) ∈ news) : OwnOff own [b] := fun p hp c hc => by
  rw [List.mem_singleton.mp hc]; exact h p hp b (List.mem_map.mpr ⟨_, hb, rfl⟩)
theorem own_app {l r : List (Addr × Obj)} {b : Addr} (h : OwnOff l [b]) (h2 : OwnOff r [b]) : OwnOff (l ++ r) [b] := fun p hp => by
  rcases List.mem_append.mp hp with hp | hp
  · exact h p hp
  · exact h2 p hp
theorem own_cons {b : Addr} {p : Addr × Obj} {l : List (Addr × Obj)} (h : @Ne Nat p.1 b) (hl : OwnOff l [b]) : OwnOff (p :: l) [b] := fun q hq c hc => by
  rw [List.mem_singleton.mp hc]
  rcases List.mem_cons.mp hq with rfl | hq
  · exact h
  · exact hl q hq b (List.mem_singleton.mpr rfl)
theorem own_lt {b d : Addr} {l : List (Addr × Obj)} (h : AllLt d l) (hb : @LE.le Nat _ d b) : OwnOff l [b] := fun q hq c hc => by
  rw [List.mem_singleton.mp hc]
  exact ne_of_allLt h hb q hq
theorem TabIs.snoc {T : Addr} {p q : Str} {a b : Tok} {o : Obj} (e : o = tupO (.str p a) (.str q b)) : ∀ {tups : List (Addr × Obj)} {l : List (Str × Str)}, TabIs tups l → TabIs (tups ++ [(T, o)]) (l ++ [(p, q)])
  | [], [], _ => ⟨⟨a, b, e⟩, trivial⟩
  | _ :: _, _ :: _, h => ⟨h.1, h.2.snoc e⟩
end PC15
section PC16
theorem still_C16 : True := by
  w_top off
  trivial
open PySem.Spec PySem.Calls PyProof.Rows PyProof.Rows.LCg
/-! ## a comprehension of several generators, each one Name over a walked source, the element makes nothing -/
section
variable {prog : Program} {w : World} {A : Around} {E : Value → Shared → Prop} {s : Shared} {h₀ : Heap} {L : Addr} {m : Str → Option Value} {env : Env} {R : Result → Shared → Prop}
theorem compTurn_last {elt : PySem.Expr} {gens : List Comprehension} {x : Str} {px : Pos} {iter : PySem.Expr} {scope : Scope} {pos : Pos} {it acc : Value} {d : Nat} (hg : gens[d]? = some ⟨.Name x px, iter, [], 0⟩) (hn : gens[d + 1]? = none) :
    compTurn (.ListComp elt gens scope pos) d it acc env = (standAt iter.pos >>= fun _ => pyNext it >>= fun r => match r with
      | none => pure (.done .next)
      | some v => letOwnedTupleGo (.Name x px) it v >>= fun _ => assign (.Name x px) env v >>= fun _ =>
        (eval elt env >>= fun y => call (.builtin "list.append") [acc, y] >>= fun _ => pure ()) >>= fun _ =>
          again (.compLoop (.ListComp elt gens scope pos) d it acc env)) := by
  unfold compTurn
  dsimp only
  rw [hg, hn]
  rfl
theorem compTurn_mid {elt : PySem.Expr} {gens : List Comprehension} {x : Str} {px : Pos} {iter : PySem.Expr} {scope : Scope} {pos : Pos} {it acc : Value} {d : Nat} {t2 i2 : PySem.Expr} {f2 : List PySem.Expr} (hg : gens[d]? = some ⟨.Name x px, iter, [], 0⟩) (hn : gens[d + 1]? = some ⟨t2, i2, f2, 0⟩) :
    compTurn (.ListComp elt gens scope pos) d it acc env = (standAt iter.pos >>= fun _ => pyNext it >>= fun r => match r with
      | none => pure (.done .next)
      | some v => letOwnedTupleGo (.Name x px) it v >>= fun _ => assign (.Name x px) env v >>= fun _ =>
        (eval i2 env >>= fun xv => standAt i2.pos >>= fun _ => foldedSetIterable i2 env xv >>= fun xv => holding [xv] (pyIter xv) >>= fun it' => runOwn (.compStart (.ListComp elt gens scope pos) (d + 1) it' acc env) env >>= fun _ =>
          again (.compLoop (.ListComp elt gens scope pos) d it acc env))) := by
  unfold compTurn
  dsimp only
  rw [hg, hn]
  rfl
theorem compStart_at {elt target iter : PySem.Expr} {gens : List Comprehension} {ifs : List PySem.Expr} {scope : Scope} {pos : Pos} {it acc : Value} {d : Nat} (hg : gens[d]? = some ⟨target, iter, ifs, 0⟩)
    (h0 : codeAny (model prog w) A (.compLoop (.ListComp elt gens scope pos) d it acc env) R s)
    (h : wpAny (model prog w) A (pyIter it) (fun it' s' => codeAny (model prog w) A (.compLoop (.ListComp elt gens scope pos) d it' acc env) R s') (notedBy (model prog w) A env fun x s' => R (.error x) s') s) :
    codeAny (model prog w) A (.compStart (.ListComp elt gens scope pos) d it acc env) R s := by
  refine codeAny_of_tree ?_
  show wpAny _ _ ((compStart (.ListComp elt gens scope pos) d it acc env).onRaise (fun x => do noteFrame x env; standAt theWindowsPlace)) _ _ s
  refine wpAny_notedAt ?_
  unfold compStart
  rw [show (clausesOf (.ListComp elt gens scope pos))[d]? = some ⟨target, iter, ifs, 0⟩ from hg]
  show wpAny _ _ (ask >>= _) _ _ s
  refine wpAny_bind (wpAny_askSetting (wpAny_ite ?_))
  split
  · first
      | exact wpAny_bind (wpAny_pure (wpAny_pure (And.intro rfl h0)))
      | exact wpAny_pure (And.intro rfl h0)
  · first
      | exact wpAny_bind (wpAny_rule (wpAny_bind (wpAny_standAt (wpAny_bind (wpAny_mono h (fun it' s' h' => wpAny_pure (And.intro rfl h')) fun _ _ x => x)))))
      | (refine wpAny_bind (wpAny_rule ?_); show wpAny _ _ (standAt iter.pos >>= _) _ _ s; exact wpAny_bind (wpAny_standAt (wpAny_bind (wpAny_mono h (fun it' s' h' => wpAny_pure (And.intro rfl h')) fun _ _ x => x))))

/-- what a turn of the last level hands back -/
def LEnd (h₀ : Heap) (L : Addr) (m : Str → Option Value) (s₁ : Shared) (all : List (Addr × Obj)) (j : Prop) (s₄ : Shared) : Prop :=
  ∃ h' tk, s₄ = { s₁ with heap := h', toks := tk } ∧ Fr h₀ L h' m ∧ News h₀ L h' all ∧ j
theorem LEnd.intro {h' : Heap} {tk : Nat} {s₁ : Shared} {all : List (Addr × Obj)} {j : Prop} (F : Fr h₀ L h' m) (N : News h₀ L h' all) (hj : j) : LEnd h₀ L m s₁ all j { s₁ with heap := h', toks := tk } := ⟨h', tk, rfl, F, N, hj⟩
/-- what a whole inner level hands back -/
def MEnd (h₀ : Heap) (L : Addr) (m : Str → Option Value) (s₁ : Shared) (C D : Addr) (nx : List (Addr × Obj)) (Inv : (Str → Option Value) → Prop) (J : List Value → Prop) (r : Result) (s₄ : Shared) : Prop :=
  r = .ok .next ∧ ∃ h' tk ys oC m', s₄ = { s₁ with heap := h', toks := tk } ∧ Fr h₀ L h' m ∧ News h₀ L h' ((C, oC) :: (D, lst ys) :: nx) ∧ NsObj oC m' ∧ Inv m' ∧ J ys

theorem lvl_last {elt iter : PySem.Expr} {gens : List Comprehension} {d : Nat} {x : Str} {px : Pos} {scope : Scope} {cl : List (Str × Addr)} {pos : Pos} {I C D : Addr} {src nx : List (Addr × Obj)} {n : Nat} {P : Nat → Value → Prop} {St : Nat → Heap → Prop}
    (W : Walks prog w A I (I :: src.map (·.1)) [I] n P St) (hob : ∀ i h, St i h → ∃ o, h.get? I = some o) (hsrc : ∀ p ∈ src, p ∈ nx)
    (hg : gens[d]? = some ⟨.Name x px, iter, [], 0⟩) (hn : gens[d + 1]? = none) (hkind : scope.kind = .function) (hx : scope.names.lookup x = some .local)
    (hI₀ : h₀.get? I = none) (hIL : L ≠ I) (hCI : C ≠ I) (hDI : D ≠ I) (hCD : C ≠ D) (off : ∀ p ∈ nx, p.1 ≠ I ∧ p.1 ≠ C ∧ p.1 ≠ D)
    (Inv : (Str → Option Value) → Prop) (hInv : ∀ m' v, Inv m' → Inv (fun z => if z = x then some v else m' z)) (J : Nat → List Value → Prop) (hJl : ∀ i ys, J i ys → ys.length ≤ sizeLine)
    (turn : ∀ (i : Nat) (v : Value) ys oI oC m₂ h tk (E' : Value → Shared → Prop), i < n → P i v → J i ys → NsObj oC m₂ → Inv m₂ → m₂ x = some v → Fr h₀ L h m → News h₀ L h ((I, oI) :: (C, oC) :: (D, lst ys) :: nx) → @LT.lt Nat _ 0 tk →
      wpAny (model prog w) A (eval elt (compEnvC scope cl C env)) (fun y s₄ => LEnd h₀ L m s ((I, oI) :: (C, oC) :: (D, lst ys) :: nx) (J (i + 1) (ys ++ [y])) s₄) E' { s with heap := h, toks := tk })
    {h : Heap} {tk : Nat} {ys : List Value} {oC : Obj} {m' : Str → Option Value} (F : Fr h₀ L h m) (N : News h₀ L h ((C, oC) :: (D, lst ys) :: nx)) (hoC : NsObj oC m') (hi : Inv m') (hJ : J 0 ys) (hst : St 0 h)
    (hR : ∀ s', MEnd h₀ L m s C D nx Inv (J n) (.ok .next) s' → R (.ok .next) s') :
    codeAny (model prog w) A (.compLoop (.ListComp elt gens scope pos) d (.ref I) (.ref D) (compEnvC scope cl C env)) R { s with heap := h, toks := tk } := by
  refine codeAny_loop rfl (fun q s' => ∃ h' tk i ys oC m', s' = { s with heap := h', toks := tk } ∧ i ≤ n ∧ q = n + 1 - i ∧ St i h' ∧ Fr h₀ L h' m ∧ News h₀ L h' ((C, oC) :: (D, lst ys) :: nx) ∧ NsObj oC m' ∧ Inv m' ∧ J i ys) (fun q s' hI => ?_) (n + 1)
    ⟨h, tk, 0, ys, oC, m', rfl, Nat.zero_le _, rfl, hst, F, N, hoC, hi, hJ⟩
  clear hst F N hoC hi hJ
  obtain ⟨h', tk, i, ys, oC, m', rfl, hi, rfl, st, F, N, ho, hv, hJ⟩ := hI
  show wpAny _ A ((compTurn (.ListComp elt gens scope pos) d (.ref I) (.ref D) (compEnvC scope cl C env)).onRaise (fun x => do noteFrame x _; theTreesLotGoes x)) _ _ _
  refine wpAny_noted ?_
  rw [compTurn_last hg hn]
  refine wpAny_bind (wpAny_standAt (wpAny_bind ?_))
  have hC := N _ (.head _)
  have hD := N _ (.tail _ (.head _))
  by_cases hlt : i < n
  · refine W.item i _ _ _ hlt st fun v h₂ tk₂ hPv hst₂ hk₂ => ?_
    have up₂ : ∀ x o, x ≠ I → h'.get? x = some o → h₂.get? x = some o := fun x o hx e => hk₂ x o (by simpa using hx) e
    refine wpAny_bind (wpAny_of_eq (rfl : letOwnedTupleGo (.Name x px) (.ref I) v = pure ()) (wpAny_bind ?_))
    refine wpAny_assign_Name (wpAny_storeName_local (lookup_relabel_local hx) ((ho.ns hC.1).at' fun o e => up₂ _ o hCI e) (fun h₄ hn₄ hs₄ => ?_) (by simp [compEnvC, relabel, hkind]))
    have up₄ : ∀ x o, x ≠ I → x ≠ C → h'.get? x = some o → h₄.get? x = some o := fun x o h1 h2 e => hs₄.extBut x o h2 (up₂ x o h1 e)
    obtain ⟨oI, heI⟩ := hob _ _ hst₂
    have heI₄ : h₄.get? I = some oI := hs₄.extBut I _ (Ne.symm hCI) heI
    obtain ⟨oC4, heC, hoC4⟩ := ns_obj hn₄
    have F₄ : Fr h₀ L h₄ m := ⟨F.ns.at' fun o e => up₄ _ o hIL (Ne.symm hC.2.1) e, fun x o e => up₄ x o (fun q => by rw [q, hI₀] at e; cases e) (fun q => by rw [q, hC.2.2] at e; cases e) (F.keep x o e), F.above⟩
    have N₄ : News h₀ L h₄ ((I, oI) :: (C, oC4) :: (D, lst ys) :: nx) := fun q hq => by
      rcases List.mem_cons.mp hq with rfl | hq
      · exact ⟨heI₄, Ne.symm hIL, hI₀⟩
      · rcases List.mem_cons.mp hq with rfl | hq
        · exact ⟨heC, hC.2⟩
        · have z := N q (.tail _ hq)
          rcases List.mem_cons.mp hq with rfl | hq
          · exact ⟨up₄ _ _ hDI (Ne.symm hCD) z.1, z.2⟩
          · exact ⟨up₄ _ _ (off q hq).1 (off q hq).2.1 z.1, z.2⟩
    refine wpAny_bind (wpAny_bind (wpAny_mono (turn i v ys oI oC4 _ h₄ _ _ hlt hPv hJ hoC4 (hInv _ _ hv) (by simp) F₄ N₄ (Nat.succ_pos _)) (fun y s₅ h₅ => wpAny_bind ?_) fun _ _ e => e))
    obtain ⟨h₅, tk₅, rfl, F₅, N₅, J₅⟩ := h₅
    have hylen : ys.length ≤ sizeLine := hJl _ _ hJ
    refine append_at (hsz := by show ys.toArray.size ≤ sizeLine; rw [List.size_toArray]; exact hylen) (N₅ _ (.tail _ (.tail _ (.head _)))).1 fun h₆ hs₆ hD₆ => ?_
    refine wpAny_pure (wpAny_pure ⟨rfl, n + 1 - (i + 1), by omega, h₆, _, i + 1, ys ++ [y], oC4, _, rfl, hlt, rfl, ?_, F₅.change hs₆ hD.2.1 hD.2.2, ?_, hoC4, hInv _ _ hv, J₅⟩)
    · refine W.frame _ _ _ hst₂ fun b hb o e => ?_
      have hbD : b ≠ D := by
        rcases List.mem_cons.mp hb with rfl | hb
        · exact Ne.symm hDI
        · obtain ⟨p, hp, rfl⟩ := List.mem_map.mp hb
          exact (off p (hsrc p hp)).2.2
      refine hs₆.extBut _ _ hbD ?_
      rcases List.mem_cons.mp hb with rfl | hb
      · rw [heI] at e; exact (Option.some.inj e) ▸ (N₅ _ (.head _)).1
      · obtain ⟨p, hp, rfl⟩ := List.mem_map.mp hb
        have h1 := up₂ _ _ (off p (hsrc p hp)).1 (N p (.tail _ (.tail _ (hsrc p hp)))).1
        rw [e] at h1
        exact (Option.some.inj h1) ▸ (N₅ p (.tail _ (.tail _ (.tail _ (hsrc p hp))))).1
    · intro q hq
      rcases List.mem_cons.mp hq with rfl | hq
      · exact ⟨hs₆.extBut _ _ hCD (N₅ _ (.tail _ (.head _))).1, hC.2⟩
      rcases List.mem_cons.mp hq with rfl | hq
      · exact ⟨hD₆.trans (congrArg some (lst_snoc ys y)), hD.2⟩
      · exact ⟨hs₆.extBut _ _ (off q hq).2.2 (N₅ q (.tail _ (.tail _ (.tail _ hq)))).1, (N₅ q (.tail _ (.tail _ (.tail _ hq)))).2⟩
  · have hin : i = n := Nat.le_antisymm hi (Nat.not_lt.mp hlt)
    subst hin
    refine W.done _ _ _ st fun h₂ tk₂ hk₂ => wpAny_pure ?_
    have up₂ : ∀ x o, x ≠ I → h'.get? x = some o → h₂.get? x = some o := fun x o hx e => hk₂ x o (by simpa using hx) e
    refine hR _ ⟨rfl, h₂, tk₂, ys, oC, m', rfl, fr_but F hk₂ hIL hI₀, fun q hq => ?_, ho, hv, hJ⟩
    have z := N q hq
    rcases List.mem_cons.mp hq with rfl | hq
    · exact ⟨up₂ _ _ hCI z.1, z.2⟩
    rcases List.mem_cons.mp hq with rfl | hq
    · exact ⟨up₂ _ _ hDI z.1, z.2⟩
    · exact ⟨up₂ _ _ (off q hq).1 z.1, z.2⟩

theorem lvl_mid {elt iter : PySem.Expr} {gens : List Comprehension} {d : Nat} {x : Str} {px : Pos} {t2 i2 : PySem.Expr} {f2 : List PySem.Expr} {scope : Scope} {cl : List (Str × Addr)} {pos : Pos} {I C D : Addr} {src nx : List (Addr × Obj)} {n : Nat} {P : Nat → Value → Prop} {St : Nat → Heap → Prop}
    (W : Walks prog w A I (I :: src.map (·.1)) [I] n P St) (hob : ∀ i h, St i h → ∃ o, h.get? I = some o) (hsrc : ∀ p ∈ src, p ∈ nx)
    (hg : gens[d]? = some ⟨.Name x px, iter, [], 0⟩) (hn : gens[d + 1]? = some ⟨t2, i2, f2, 0⟩) (hkind : scope.kind = .function) (hx : scope.names.lookup x = some .local)
    (hs2 : ∀ x, foldedSetIterable i2 (compEnvC scope cl C env) x = pure x)
    (hI₀ : h₀.get? I = none) (hIL : L ≠ I) (hCI : C ≠ I) (hDI : D ≠ I) (hCD : C ≠ D) (off : ∀ p ∈ nx, p.1 ≠ I ∧ p.1 ≠ C ∧ p.1 ≠ D)
    (Inv : (Str → Option Value) → Prop) (hInv : ∀ m' v, Inv m' → Inv (fun z => if z = x then some v else m' z)) (Inv2 : Nat → (Str → Option Value) → Prop) (hInv2 : ∀ i m', Inv2 i m' → Inv m') (J : Nat → List Value → Prop)
    (turn : ∀ (i : Nat) (v : Value) ys oI oC m₂ h tk (E' : Value → Shared → Prop), i < n → P i v → J i ys → NsObj oC m₂ → Inv m₂ → m₂ x = some v → Fr h₀ L h m → News h₀ L h ((C, oC) :: (D, lst ys) :: (I, oI) :: nx) → @LT.lt Nat _ 0 tk →
      wpAny (model prog w) A (eval i2 (compEnvC scope cl C env)) (fun xv s₃ => wpAny (model prog w) A (pyIter xv) (fun it' s₄ =>
        codeAny (model prog w) A (.compStart (.ListComp elt gens scope pos) (d + 1) it' (.ref D) (compEnvC scope cl C env)) (MEnd h₀ L m s C D ((I, oI) :: nx) (Inv2 i) (J (i + 1))) s₄) E' s₃) E' { s with heap := h, toks := tk })
    {h : Heap} {tk : Nat} {ys : List Value} {oC : Obj} {m' : Str → Option Value} (F : Fr h₀ L h m) (N : News h₀ L h ((C, oC) :: (D, lst ys) :: nx)) (hoC : NsObj oC m') (hi : Inv m') (hJ : J 0 ys) (hst : St 0 h)
    (hR : ∀ s', MEnd h₀ L m s C D nx Inv (J n) (.ok .next) s' → R (.ok .next) s') :
    codeAny (model prog w) A (.compLoop (.ListComp elt gens scope pos) d (.ref I) (.ref D) (compEnvC scope cl C env)) R { s with heap := h, toks := tk } := by
  refine codeAny_loop rfl (fun q s' => ∃ h' tk i ys oC m', s' = { s with heap := h', toks := tk } ∧ i ≤ n ∧ q = n + 1 - i ∧ St i h' ∧ Fr h₀ L h' m ∧ News h₀ L h' ((C, oC) :: (D, lst ys) :: nx) ∧ NsObj oC m' ∧ Inv m' ∧ J i ys) (fun q s' hI => ?_) (n + 1)
    ⟨h, tk, 0, ys, oC, m', rfl, Nat.zero_le _, rfl, hst, F, N, hoC, hi, hJ⟩
  clear hst F N hoC hi hJ
  obtain ⟨h', tk, i, ys, oC, m', rfl, hi, rfl, st, F, N, ho, hv, hJ⟩ := hI
  show wpAny _ A ((compTurn (.ListComp elt gens scope pos) d (.ref I) (.ref D) (compEnvC scope cl C env)).onRaise (fun x => do noteFrame x _; theTreesLotGoes x)) _ _ _
  refine wpAny_noted ?_
  rw [compTurn_mid hg hn]
  refine wpAny_bind (wpAny_standAt (wpAny_bind ?_))
  have hC := N _ (.head _)
  have hD := N _ (.tail _ (.head _))
  by_cases hlt : i < n
  · refine W.item i _ _ _ hlt st fun v h₂ tk₂ hPv hst₂ hk₂ => ?_
    have up₂ : ∀ x o, x ≠ I → h'.get? x = some o → h₂.get? x = some o := fun x o hx e => hk₂ x o (by simpa using hx) e
    refine wpAny_bind (wpAny_of_eq (rfl : letOwnedTupleGo (.Name x px) (.ref I) v = pure ()) (wpAny_bind ?_))
    refine wpAny_assign_Name (wpAny_storeName_local (lookup_relabel_local hx) ((ho.ns hC.1).at' fun o e => up₂ _ o hCI e) (fun h₄ hn₄ hs₄ => ?_) (by simp [compEnvC, relabel, hkind]))
    have up₄ : ∀ x o, x ≠ I → x ≠ C → h'.get? x = some o → h₄.get? x = some o := fun x o h1 h2 e => hs₄.extBut x o h2 (up₂ x o h1 e)
    obtain ⟨oI, heI⟩ := hob _ _ hst₂
    have heI₄ : h₄.get? I = some oI := hs₄.extBut I _ (Ne.symm hCI) heI
    obtain ⟨oC4, heC, hoC4⟩ := ns_obj hn₄
    have F₄ : Fr h₀ L h₄ m := ⟨F.ns.at' fun o e => up₄ _ o hIL (Ne.symm hC.2.1) e, fun x o e => up₄ x o (fun q => by rw [q, hI₀] at e; cases e) (fun q => by rw [q, hC.2.2] at e; cases e) (F.keep x o e), F.above⟩
    have N₄ : News h₀ L h₄ ((C, oC4) :: (D, lst ys) :: (I, oI) :: nx) := fun q hq => by
      rcases List.mem_cons.mp hq with rfl | hq
      · exact ⟨heC, hC.2⟩
      · rcases List.mem_cons.mp hq with rfl | hq
        · have z := N _ (.tail _ (.head _))
          exact ⟨up₄ _ _ hDI (Ne.symm hCD) z.1, z.2⟩
        · rcases List.mem_cons.mp hq with rfl | hq
          · exact ⟨heI₄, Ne.symm hIL, hI₀⟩
          · have z := N q (.tail _ (.tail _ hq))
            exact ⟨up₄ _ _ (off q hq).1 (off q hq).2.1 z.1, z.2⟩
    refine wpAny_bind (wpAny_mono (turn i v ys oI oC4 _ h₄ _ _ hlt hPv hJ hoC4 (hInv _ _ hv) (by simp) F₄ N₄ (Nat.succ_pos _)) (fun xv s₅ h₅ => wpAny_bind (wpAny_standAt (wpAny_bind (wpAny_of_eq (hs2 xv) (wpAny_bind (wpAny_holding (wpAny_mono h₅ (fun it' s₆ h₆ => wpAny_bind (wpAny_runOwn (codeAny_mono h₆ fun r s₇ h₇ => ?_))) fun _ _ e => e))))))) fun _ _ e => e)
    obtain ⟨rfl, h₅, tk₅, ys5, oC5, m5, rfl, F₅, N₅, ho5, hv5, J₅⟩ := h₇
    refine wpAny_pure ⟨rfl, n + 1 - (i + 1), by omega, h₅, _, i + 1, ys5, oC5, m5, rfl, hlt, rfl, ?_, F₅, ?_, ho5, hInv2 _ _ hv5, J₅⟩
    · refine W.frame _ _ _ hst₂ fun b hb o e => ?_
      rcases List.mem_cons.mp hb with rfl | hb
      · rw [heI] at e; exact (Option.some.inj e) ▸ (N₅ _ (.tail _ (.tail _ (.head _)))).1
      · obtain ⟨p, hp, rfl⟩ := List.mem_map.mp hb
        have h1 := up₂ _ _ (off p (hsrc p hp)).1 (N p (.tail _ (.tail _ (hsrc p hp)))).1
        rw [e] at h1
        exact (Option.some.inj h1) ▸ (N₅ p (.tail _ (.tail _ (.tail _ (hsrc p hp))))).1
    · intro q hq
      rcases List.mem_cons.mp hq with rfl | hq
      · exact N₅ _ (.head _)
      rcases List.mem_cons.mp hq with rfl | hq
      · exact N₅ _ (.tail _ (.head _))
      · exact N₅ q (.tail _ (.tail _ (.tail _ hq)))
  · have hin : i = n := Nat.le_antisymm hi (Nat.not_lt.mp hlt)
    subst hin
    refine W.done _ _ _ st fun h₂ tk₂ hk₂ => wpAny_pure ?_
    have up₂ : ∀ x o, x ≠ I → h'.get? x = some o → h₂.get? x = some o := fun x o hx e => hk₂ x o (by simpa using hx) e
    refine hR _ ⟨rfl, h₂, tk₂, ys, oC, m', rfl, fr_but F hk₂ hIL hI₀, fun q hq => ?_, ho, hv, hJ⟩
    have z := N q hq
    rcases List.mem_cons.mp hq with rfl | hq
    · exact ⟨up₂ _ _ hCI z.1, z.2⟩
    rcases List.mem_cons.mp hq with rfl | hq
    · exact ⟨up₂ _ _ hDI z.1, z.2⟩
    · exact ⟨up₂ _ _ (off q hq).1 z.1, z.2⟩
end
end PC16
section PC17
theorem still_C17 : True := by
  w_top off
  trivial
open PySem.Spec PySem.Calls PyProof.Rows PyProof.Rows.LCg
section
variable {prog : Program} {w : World} {A : Around} {E : Value → Shared → Prop} {s : Shared} {h₀ : Heap} {L : Addr} {m : Str → Option Value} {env : Env} {R : Result → Shared → Prop}
/-- iter of a source that stands in the ledger -/
def Iters (prog : Program) (w : World) (A : Around) (xv : Value) (s₁ : Shared) (src : List (Addr × Obj)) (n : Nat) (P : Nat → Value → Prop) : Prop :=
  ∀ (E' Q' : Value → Shared → Prop), (∀ o (St : Nat → Heap → Prop), Walks prog w A s₁.heap.objs.size (s₁.heap.objs.size :: src.map (·.1)) [s₁.heap.objs.size] n P St → (∀ i h, St i h → ∃ o, h.get? s₁.heap.objs.size = some o) → St 0 (s₁.heap.push o) → Q' (.ref s₁.heap.objs.size) { s₁ with heap := s₁.heap.push o }) → wpAny (model prog w) A (pyIter xv) Q' E' s₁
theorem Iters.list {ax : Addr} {vs : List Value} {k : Nat} {news : List (Addr × Obj)} (hh : A.handled = none) (N : News h₀ L s.heap news) (hm : (ax, listOf vs.toArray k) ∈ news) :
    Iters prog w A (.ref ax) s [(ax, listOf vs.toArray k)] vs.length (fun i v => vs[i]? = some v) := by
  intro E' Q' hQ
  have hol : s.heap.get? ax = some (listOf vs.toArray k) := (N _ hm).1
  have hls : s.heap.IsList ax vs.toArray := ⟨_, hol, rfl, k, rfl⟩
  have W := Walks.list (prog := prog) (w := w) (A := A) hh s.heap.objs.size ax (Nat.ne_of_lt (Heap.lt_size hol)) vs.toArray
  have hlen : vs.toArray.size = vs.length := by simp
  rw [hlen] at W
  have e : (fun (i : Nat) (v : Value) => vs.toArray[i]? = some v) = (fun i v => vs[i]? = some v) := by funext i v; simp
  rw [e] at W
  refine wpAny_pyIter_list hls ?_
  refine hQ _ _ W ?_ ⟨⟨_, Heap.get?_push_size _ rfl, rfl, rfl⟩, hls.at fun o e => Heap.get?_push_of_some _ e⟩
  rintro i h ⟨⟨o, e, _⟩, _⟩
  exact ⟨o, e⟩
theorem Iters.tup {T : Addr} {a b : Value} {news : List (Addr × Obj)} (hh : A.handled = none) (N : News h₀ L s.heap news) (hm : (T, tupO a b) ∈ news) :
    Iters prog w A (.ref T) s [(T, tupO a b)] 2 (fun i v => [a, b][i]? = some v) := by
  intro E' Q' hQ
  have hol : s.heap.get? T = some (tupO a b) := (N _ hm).1
  have hls : s.heap.IsTuple T #[a, b] := ⟨_, hol, rfl, _, rfl⟩
  have W := Walks.tuple (prog := prog) (w := w) (A := A) hh s.heap.objs.size T (Nat.ne_of_lt (Heap.lt_size hol)) #[a, b]
  have e : (fun (i : Nat) (v : Value) => (#[a, b] : Array Value)[i]? = some v) = (fun i v => [a, b][i]? = some v) := by funext i v; simp
  rw [e] at W
  refine wpAny_pyIter_tuple hls ?_
  refine hQ _ _ W ?_ ⟨⟨_, Heap.get?_push_size _ rfl, rfl, rfl⟩, hls.at fun o e => Heap.get?_push_of_some _ e⟩
  rintro i h ⟨⟨o, e, _⟩, _⟩
  exact ⟨o, e⟩

theorem new_off {C D : Addr} {oC oD : Obj} {nx : List (Addr × Obj)} (N : News h₀ L s.heap ((C, oC) :: (D, oD) :: nx)) (off : ∀ p ∈ nx, p.1 ≠ C ∧ p.1 ≠ D) :
    C ≠ s.heap.objs.size ∧ D ≠ s.heap.objs.size ∧ ∀ p ∈ nx, p.1 ≠ s.heap.objs.size ∧ p.1 ≠ C ∧ p.1 ≠ D :=
  ⟨Nat.ne_of_lt (Heap.lt_size (N _ (.head _)).1), Nat.ne_of_lt (Heap.lt_size (N _ (.tail _ (.head _))).1), fun p hp => ⟨Nat.ne_of_lt (Heap.lt_size (N p (.tail _ (.tail _ hp))).1), off p hp⟩⟩

theorem MEnd.weak {C D : Addr} {nx : List (Addr × Obj)} {Inv Inv' : (Str → Option Value) → Prop} {J J' : List Value → Prop} {r : Result} {s' : Shared} (h : MEnd h₀ L m s C D nx Inv J r s') (hi : ∀ m', Inv m' → Inv' m') (hj : ∀ ys, J ys → J' ys) : MEnd h₀ L m s C D nx Inv' J' r s' := by
  obtain ⟨rfl, h', tk, ys, oC, m', rfl, F, N, ho, hv, hJ⟩ := h
  exact ⟨rfl, h', tk, ys, oC, m', rfl, F, N, ho, hi _ hv, hj _ hJ⟩

theorem inner_last {elt iter : PySem.Expr} {gens : List Comprehension} {d : Nat} {x : Str} {px : Pos} {scope : Scope} {cl : List (Str × Addr)} {pos : Pos} {C D : Addr} {src nx : List (Addr × Obj)} {n : Nat} {P : Nat → Value → Prop} {xv : Value}
    {ys : List Value} {oC : Obj} {m' : Str → Option Value} {s₁ : Shared}
    (hit : Iters prog w A xv s₁ src n P) (hsrc : ∀ p ∈ src, p ∈ nx)
    (hg : gens[d]? = some ⟨.Name x px, iter, [], 0⟩) (hn : gens[d + 1]? = none) (hkind : scope.kind = .function) (hx : scope.names.lookup x = some .local)
    (hCD : C ≠ D) (off : ∀ p ∈ nx, p.1 ≠ C ∧ p.1 ≠ D)
    (Inv : (Str → Option Value) → Prop) (hInv : ∀ m' v, Inv m' → Inv (fun z => if z = x then some v else m' z)) (J : Nat → List Value → Prop) (hJl : ∀ i ys, J i ys → ys.length ≤ sizeLine)
    (hs₁ : ∃ h tk, s₁ = { s with heap := h, toks := tk }) (F : Fr h₀ L s₁.heap m) (N : News h₀ L s₁.heap ((C, oC) :: (D, lst ys) :: nx)) (hoC : NsObj oC m') (hi : Inv m') (hJ : J 0 ys)
    (turn : ∀ (i : Nat) (v : Value) ys I oI oC m₂ h tk (E' : Value → Shared → Prop), i < n → P i v → J i ys → NsObj oC m₂ → Inv m₂ → m₂ x = some v → Fr h₀ L h m → News h₀ L h ((I, oI) :: (C, oC) :: (D, lst ys) :: nx) → @LT.lt Nat _ 0 tk →
      wpAny (model prog w) A (eval elt (compEnvC scope cl C env)) (fun y s₄ => LEnd h₀ L m s ((I, oI) :: (C, oC) :: (D, lst ys) :: nx) (J (i + 1) (ys ++ [y])) s₄) E' { s with heap := h, toks := tk }) :
    wpAny (model prog w) A (pyIter xv) (fun it' s₄ => codeAny (model prog w) A (.compStart (.ListComp elt gens scope pos) d it' (.ref D) (compEnvC scope cl C env)) (MEnd h₀ L m s C D nx Inv (J n)) s₄) E s₁ := by
  obtain ⟨h, tk, rfl⟩ := hs₁
  obtain ⟨o1, o2, o3⟩ := new_off (s := { s with heap := h, toks := tk }) N off
  refine hit _ _ fun o St W hob hst => ?_
  have loop : codeAny (model prog w) A (.compLoop (.ListComp elt gens scope pos) d (.ref h.objs.size) (.ref D) (compEnvC scope cl C env)) (MEnd h₀ L m s C D nx Inv (J n)) { s with heap := h.push o, toks := tk } :=
    lvl_last W hob hsrc hg hn hkind hx (next_is_new F) (Nat.ne_of_lt F.ns.lt) o1 o2 hCD o3 Inv hInv J hJl (fun i v ys oI oC m₂ h tk E' => turn i v ys _ oI oC m₂ h tk E') (F.push _) (fun p hp => ⟨Heap.get?_push_of_some _ (N p hp).1, (N p hp).2⟩) hoC hi hJ hst (fun s' h => h)
  exact compStart_at hg loop (W.self 0 _ _ _ hst loop)

theorem inner_mid {elt iter : PySem.Expr} {gens : List Comprehension} {d : Nat} {x : Str} {px : Pos} {t2 i2 : PySem.Expr} {f2 : List PySem.Expr} {scope : Scope} {cl : List (Str × Addr)} {pos : Pos} {C D : Addr} {src nx : List (Addr × Obj)} {n : Nat} {P : Nat → Value → Prop} {xv : Value}
    {ys : List Value} {oC : Obj} {m' : Str → Option Value} {s₁ : Shared}
    (hit : Iters prog w A xv s₁ src n P) (hsrc : ∀ p ∈ src, p ∈ nx)
    (hg : gens[d]? = some ⟨.Name x px, iter, [], 0⟩) (hn : gens[d + 1]? = some ⟨t2, i2, f2, 0⟩) (hkind : scope.kind = .function) (hx : scope.names.lookup x = some .local)
    (hs2 : ∀ x, foldedSetIterable i2 (compEnvC scope cl C env) x = pure x)
    (hCD : C ≠ D) (off : ∀ p ∈ nx, p.1 ≠ C ∧ p.1 ≠ D)
    (Inv : (Str → Option Value) → Prop) (hInv : ∀ m' v, Inv m' → Inv (fun z => if z = x then some v else m' z)) (Inv2 : Nat → (Str → Option Value) → Prop) (hInv2 : ∀ i m', Inv2 i m' → Inv m') (J : Nat → List Value → Prop)
    (hs₁ : ∃ h tk, s₁ = { s with heap := h, toks := tk }) (F : Fr h₀ L s₁.heap m) (N : News h₀ L s₁.heap ((C, oC) :: (D, lst ys) :: nx)) (hoC : NsObj oC m') (hi : Inv m') (hJ : J 0 ys)
    (turn : ∀ (i : Nat) (v : Value) ys I oI oC m₂ h tk (E' : Value → Shared → Prop), i < n → P i v → J i ys → NsObj oC m₂ → Inv m₂ → m₂ x = some v → I ≠ C → I ≠ D → Fr h₀ L h m → News h₀ L h ((C, oC) :: (D, lst ys) :: (I, oI) :: nx) → @LT.lt Nat _ 0 tk →
      wpAny (model prog w) A (eval i2 (compEnvC scope cl C env)) (fun xv s₃ => wpAny (model prog w) A (pyIter xv) (fun it' s₄ =>
        codeAny (model prog w) A (.compStart (.ListComp elt gens scope pos) (d + 1) it' (.ref D) (compEnvC scope cl C env)) (MEnd h₀ L m s C D ((I, oI) :: nx) (Inv2 i) (J (i + 1))) s₄) E' s₃) E' { s with heap := h, toks := tk }) :
    wpAny (model prog w) A (pyIter xv) (fun it' s₄ => codeAny (model prog w) A (.compStart (.ListComp elt gens scope pos) d it' (.ref D) (compEnvC scope cl C env)) (MEnd h₀ L m s C D nx Inv (J n)) s₄) E s₁ := by
  obtain ⟨h, tk, rfl⟩ := hs₁
  obtain ⟨o1, o2, o3⟩ := new_off (s := { s with heap := h, toks := tk }) N off
  refine hit _ _ fun o St W hob hst => ?_
  have loop : codeAny (model prog w) A (.compLoop (.ListComp elt gens scope pos) d (.ref h.objs.size) (.ref D) (compEnvC scope cl C env)) (MEnd h₀ L m s C D nx Inv (J n)) { s with heap := h.push o, toks := tk } :=
    lvl_mid W hob hsrc hg hn hkind hx hs2 (next_is_new F) (Nat.ne_of_lt F.ns.lt) o1 o2 hCD o3 Inv hInv Inv2 hInv2 J (fun i v ys oI oC m₂ h tk E' a b c d e f => turn i v ys _ oI oC m₂ h tk E' a b c d e f (Ne.symm o1) (Ne.symm o2)) (F.push _) (fun p hp => ⟨Heap.get?_push_of_some _ (N p hp).1, (N p hp).2⟩) hoC hi hJ hst (fun s' h => h)
  exact compStart_at hg loop (W.self 0 _ _ _ hst loop)

/-- the outermost level, two or more generators, the list bound to a name -/
def SrcT (prog : Program) (w : World) (A : Around) (h₀ : Heap) (L : Addr) (m : Str → Option Value) (env : Env) (elt : PySem.Expr) (gens : List Comprehension) (x : Str) (i2 : PySem.Expr) (scope : Scope) (pos : Pos) (cl : List (Str × Addr)) (Fin : Shared → Addr → List Value → List (Addr × Obj) → Heap → Nat → Prop) (xv : Value) (s₁ : Shared) : Prop :=
  ∃ (n : Nat) (src nx : List (Addr × Obj)) (P : Nat → Value → Prop) (J : Nat → List Value → Prop) (Inv : (Str → Option Value) → Prop), Fr h₀ L s₁.heap m ∧ News h₀ L s₁.heap nx ∧ (∀ p ∈ src, p ∈ nx) ∧ J 0 [] ∧ Inv (fun _ => none) ∧ (∀ m' v, Inv m' → Inv (fun z => if z = x then some v else m' z)) ∧
    Iters prog w A xv s₁ src n P ∧
    (∀ C D, C ≠ D → (∀ p ∈ nx, p.1 ≠ C ∧ p.1 ≠ D) → ∃ Inv2 : Nat → (Str → Option Value) → Prop, (∀ i m', Inv2 i m' → Inv m') ∧ ∀ (i : Nat) (v : Value) ys I oI oC m₂ h tk (E' : Value → Shared → Prop), i < n → P i v → J i ys → NsObj oC m₂ → Inv m₂ → m₂ x = some v → I ≠ C → I ≠ D → (∀ p ∈ nx, p.1 ≠ I) → Fr h₀ L h m → News h₀ L h ((C, oC) :: (D, lst ys) :: (I, oI) :: nx) → @LT.lt Nat _ 0 tk →
      wpAny (model prog w) A (eval i2 (compEnvC scope cl C env)) (fun xv s₃ => wpAny (model prog w) A (pyIter xv) (fun it' s₄ =>
        codeAny (model prog w) A (.compStart (.ListComp elt gens scope pos) 1 it' (.ref D) (compEnvC scope cl C env)) (MEnd h₀ L m s₁ C D ((I, oI) :: nx) (Inv2 i) (J (i + 1))) s₄) E' s₃) E' { s₁ with heap := h, toks := tk }) ∧
    (∀ ys D h tk, J n ys → News h₀ L h ((D, lst ys) :: nx) → (∀ p ∈ nx, @LT.lt Nat _ p.1 D) → Fin s₁ D ys nx h tk)

theorem Assign_ListComp_T {elt iter : PySem.Expr} {rest : List Comprehension} {x y : Str} {px py : Pos} {t2 i2 : PySem.Expr} {f2 : List PySem.Expr} {scope : Scope} {cl : List (Str × Addr)} {pos spos : Pos} {Q : Flow → Shared → Prop} (_F₀ : Fr h₀ L s.heap m) (hLe : env.locals = L)
    (hsw : swapsWith (.ListComp elt (⟨.Name x px, iter, [], 0⟩ :: ⟨t2, i2, f2, 0⟩ :: rest) scope pos) (some (.Name y py)) spos.line env = pure true)
    (hclos : closureFor scope env = pure cl) (hcell : ∀ y ∈ scope.names, y.2 ≠ .cell) (hkind : scope.kind = .function)
    (hnames : ∀ y ∈ scope.names, y.2 = .local → scope.names.lookup y.1 = some .local) (hx : scope.names.lookup x = some .local)
    (hy : env.kindOf y = some .local) (hp : (env.scope.kind == .class || (env.scope.kind == .module && env.locals != env.globals)) = false)
    (hs2 : ∀ C x, foldedSetIterable i2 (compEnvC scope cl C env) x = pure x)
    (h : wpAny (model prog w) A (eval iter env) (SrcT prog w A h₀ L m env elt (⟨.Name x px, iter, [], 0⟩ :: ⟨t2, i2, f2, 0⟩ :: rest) x i2 scope pos cl (fun s₁ D ys nx h tk => Fr h₀ L h (fun z => if z = y then some (.ref D) else m z) → Q .next { s₁ with heap := h, toks := tk })) E s)
    (hs : ∀ x, foldedSetIterable iter env x = pure x := by intro _; rfl) :
    wpAny (model prog w) A (exec (.Assign [.Name y py] (.ListComp elt (⟨.Name x px, iter, [], 0⟩ :: ⟨t2, i2, f2, 0⟩ :: rest) scope pos) spos) env) Q E s := by
  subst hLe
  rw [exec_Assign_Name_used _ _ _ _ hsw]
  refine wpAny_bind (wpAny_standAt (wpAny_bind ?_))
  show wpAny _ A (do let _ ← comprehension (.ListComp elt (⟨.Name x px, iter, [], 0⟩ :: ⟨t2, i2, f2, 0⟩ :: rest) scope pos) scope env _ (newList []) false (eval iter env) (some (assign (.Name y py) env))) _ _ s
  refine wpAny_bind (wpAny_mono (wpAny_comprehension_free (use := some (assign (.Name y py) env)) (Q := fun _ s' => Q .next s') rfl hs hclos hkind hnames
    (wpAny_mono h (fun xv s₁ h₁ => ?_) fun _ _ e => e)) (fun _ s' hq => wpAny_pure (wpAny_pure hq)) fun _ _ e => e)
  obtain ⟨n, src, nx, P, J, Inv, F, N, hsrc, hj, hinv0, hinv, hit, turn, fin⟩ := h₁
  refine hit _ _ fun o St W hob hst => ?_
  have hI₀ := next_is_new F
  have hIL := Nat.ne_of_lt F.ns.lt
  have hnI : ∀ p ∈ nx, p.1 ≠ s₁.heap.objs.size := fun p hp => Nat.ne_of_lt (Heap.lt_size (N p hp).1)
  generalize hIe : s₁.heap.objs.size = I at W hob hst hI₀ hIL hnI ⊢
  have F1 := F.push o
  have N1 : News h₀ env.locals (s₁.heap.push o) nx := fun p hp => ⟨Heap.get?_push_of_some _ (N p hp).1, (N p hp).2⟩
  have hIs : @LT.lt Nat _ I (s₁.heap.push o).objs.size := by rw [Heap.size_push, hIe]; exact Nat.lt_succ_self _
  generalize hH1 : s₁.heap.push o = H1 at F1 N1 hIs hst ⊢
  refine wpAny_newObj_type (wpAny_newFunctionEnv hcell (by intro y hy; simp at hy) (fun h₁ hns₁ hsb₁ => ?_) hkind)
  dsimp only at hns₁ hsb₁ ⊢
  generalize hH2 : H1.push { cls := .type "list", dict := none, data := .seq ([] : List Value).toArray } = H2 at hns₁ hsb₁ ⊢
  have hCe : H2.objs.size = H1.objs.size + 1 := by rw [← hH2, Heap.size_push]
  generalize hCx : H2.objs.size = C at hns₁ hsb₁ hCe ⊢
  generalize hDe : H1.objs.size = D at hns₁ hsb₁ hCe hIs ⊢
  have lt2 : ∀ {x : Addr} {o : Obj}, H1.get? x = some o → @LT.lt Nat _ x D := fun e => hDe ▸ Heap.lt_size e
  have up : ∀ x o, H1.get? x = some o → h₁.get? x = some o := fun x o e => hsb₁.extBut x o (show @Ne Nat x C from by have := lt2 e; omega) (Heap.get?_push_of_some _ (hH2 ▸ Heap.get?_push_of_some _ e))
  have none₀ : ∀ x : Addr, @LE.le Nat _ D x → h₀.get? x = none := fun x hx => by
    cases e : h₀.get? x with
    | none => rfl
    | some o => exact absurd (lt2 (F1.keep x o e)) (Nat.not_lt.mpr hx)
  have hD₀ : h₀.get? D = none := none₀ D (Nat.le_refl _)
  have hC₀ : h₀.get? C = none := none₀ _ (show @LE.le Nat _ D C by omega)
  have hLlt : @LT.lt Nat _ env.locals D := hDe ▸ F1.ns.lt
  have nlt : ∀ p ∈ nx, @LT.lt Nat _ p.1 D := fun p hp => lt2 (N1 p hp).1
  have hDL : D ≠ env.locals := Nat.ne_of_gt hLlt
  have hCL : C ≠ env.locals := show @Ne Nat C env.locals by omega
  have hCI : C ≠ I := show @Ne Nat C I by omega
  have hDI : D ≠ I := Nat.ne_of_gt hIs
  have hDC : D ≠ C := show @Ne Nat D C by omega
  have off₀ : ∀ p ∈ nx, p.1 ≠ I ∧ p.1 ≠ C ∧ p.1 ≠ D := fun p hp => ⟨hnI p hp, show @Ne Nat p.1 C by have := nlt p hp; omega, Nat.ne_of_lt (nlt p hp)⟩
  have hacc : h₁.get? D = some (lst []) := hsb₁.extBut _ _ hDC (Heap.get?_push_of_some _ (by rw [← hH2, ← hDe]; exact Heap.get?_push_size _ rfl))
  have hst₁ : St 0 h₁ := W.frame _ _ _ hst fun b _ o e => up b o e
  obtain ⟨oC, heC, hoC⟩ := ns_obj hns₁
  obtain ⟨Inv2, hInv2, turn⟩ := turn C D (Ne.symm hDC) fun p hp => (off₀ p hp).2
  have hcl0 : (fun x => ([] : List (Str × Value)).reverse.lookup x) = fun _ => none := by funext x; rfl
  rw [hcl0] at hoC
  have F2 : Fr h₀ env.locals h₁ m := F1.keeps up
  have N2 : News h₀ env.locals h₁ ((C, oC) :: (D, lst []) :: nx) := fun q hq => by
    rcases List.mem_cons.mp hq with rfl | hq
    · exact ⟨heC, hCL, hC₀⟩
    rcases List.mem_cons.mp hq with rfl | hq
    · exact ⟨hacc, hDL, hD₀⟩
    · exact ⟨up _ _ (N1 q hq).1, (N1 q hq).2⟩
  have loop : codeAny (model prog w) A (.compLoop (.ListComp elt (⟨.Name x px, iter, [], 0⟩ :: ⟨t2, i2, f2, 0⟩ :: rest) scope pos) 0 (.ref I) (.ref D) (compEnvC scope cl C env)) (compPost (model prog w) A E (some (assign (.Name y py) env)) (fun _ s' => Q .next s') (.ref D) C) { s₁ with heap := h₁, toks := s₁.toks + ([] : List (Str × Value)).length } := by
    refine lvl_mid (s := s₁) (Inv2 := Inv2) W hob hsrc rfl rfl hkind hx (hs2 C) hI₀ hIL hCI hDI (Ne.symm hDC) off₀ Inv hinv hInv2 J (fun i v ys oI oC m₂ h tk E' a b c d e f F' N' => turn i v ys I oI oC m₂ h tk E' a b c d e f (Ne.symm hCI) (Ne.symm hDI) (fun p hp => (off₀ p hp).1) F' N') F2 N2 hoC hinv0 hj hst₁ ?_
    rintro s' ⟨-, h', tk', ys', oC', m', rfl, F', N', hoC', -, hJ'⟩
    show wpAny _ A (assign (.Name y py) env (.ref D)) _ _ _
    refine wpAny_assign_Name (wpAny_storeName_local hy F'.ns (fun h₂ hn₂ hs₂ => ?_) hp)
    have hL₀ : h₀.get? env.locals = none := Heap.get?_none_of_le F'.above
    have F₂ : Fr h₀ env.locals h₂ (fun z => if z = y then some (.ref D) else m z) := ⟨hn₂, fun b o e => hs₂.extBut b o (fun q => by rw [q, hL₀] at e; cases e) (F'.keep b o e), F'.above⟩
    refine ⟨m', (hoC'.ns (N' _ (.head _)).1).sameBut hs₂ hCL, fun h'' hs'' => fin ys' D h'' _ hJ' (fun p hp => ?_) nlt (F₂.change hs'' hCL hC₀)⟩
    have z : h₂.get? p.1 = some p.2 := hs₂.extBut _ _ (N' p (.tail _ hp)).2.1 (N' p (.tail _ hp)).1
    refine ⟨hs''.extBut _ _ ?_ z, (N' p (.tail _ hp)).2⟩
    rcases List.mem_cons.mp hp with rfl | hp
    · exact hDC
    · exact (off₀ p hp).2.1
  exact compStart_at rfl loop (W.self 0 _ _ _ hst₁ loop)
end
end PC17
section PD1
theorem still_D1 : True := by
  w_top off
  trivial
local macro_rules | `(tactic| walk_at "idle 0") => `(tactic| fail)
local macro_rules | `(tactic| walk_at "idle 1") => `(tactic| fail)
open PySem.Spec PyProof.Rows
/-! ## law 2: _law_ends -/
theorem tl_off {la f c' cell dxs xs pb hl cw d a : Addr} {o1 o2 o3 o4 o5 o6 o7 : Obj} {rest : List (Addr × Obj)} (hr : AllLt d rest)
    (h : @LE.le Nat _ d cw ∧ @LT.lt Nat _ a cw ∧ @LT.lt Nat _ c' cw ∧ @LT.lt Nat _ cw hl ∧ @LT.lt Nat _ hl cell ∧ @LT.lt Nat _ cell la ∧ @LT.lt Nat _ la dxs ∧ @LT.lt Nat _ dxs xs ∧ @LT.lt Nat _ xs f ∧ @LT.lt Nat _ f pb) :
    OwnOff ((la, o1) :: (f, o2) :: (c', o3) :: (cell, o4) :: (dxs, o5) :: (xs, o6) :: (a, o7) :: rest) [pb] ∧ OwnOff ((la, o1) :: (f, o2) :: (c', o3) :: (cell, o4) :: (dxs, o5) :: (xs, o6) :: (a, o7) :: rest) [hl] ∧ OwnOff ((la, o1) :: (f, o2) :: (c', o3) :: (cell, o4) :: (dxs, o5) :: (xs, o6) :: (a, o7) :: rest) [cw] := by
  refine ⟨?_, ?_, ?_⟩ <;> (refine own_cons (show @Ne Nat la _ by omega) (own_cons (show @Ne Nat f _ by omega) (own_cons (show @Ne Nat c' _ by omega) (own_cons (show @Ne Nat cell _ by omega) (own_cons (show @Ne Nat dxs _ by omega) (own_cons (show @Ne Nat xs _ by omega) (own_cons (show @Ne Nat a _ by omega) (own_lt hr (by omega)))))))))
local macro_rules | `(tactic| walk_at "call ref") => `(tactic| ((first | (with_reducible show wpAny _ _ (call (Value.ref 244) _) _ _ _) | (with_reducible show wpAny _ _ (call (Value.ref 244) _ _) _ _ _) | (with_reducible show wpAny _ _ (call (Value.ref 180) _) _ _ _) | (with_reducible show wpAny _ _ (call (Value.ref 180) _ _) _ _ _) | (with_reducible show wpAny _ _ (call (Value.ref 230) _) _ _ _) | (with_reducible show wpAny _ _ (call (Value.ref 230) _ _) _ _ _) | (with_reducible show wpAny _ _ (call (Value.ref 73) _) _ _ _) | (with_reducible show wpAny _ _ (call (Value.ref 73) _ _) _ _ _) | (with_reducible show wpAny _ _ (call (Value.ref 80) _) _ _ _) | (with_reducible show wpAny _ _ (call (Value.ref 80) _ _) _ _ _) | (with_reducible show wpAny _ _ (call (Value.ref 45) _) _ _ _) | (with_reducible show wpAny _ _ (call (Value.ref 45) _ _) _ _ _) | (with_reducible show wpAny _ _ (call (Value.ref 197) _) _ _ _) | (with_reducible show wpAny _ _ (call (Value.ref 197) _ _) _ _ _)); refine Stop.mk ?_))
local macro_rules | `(tactic| walk_at "exec For") => `(tactic| ((fail_if_success (have : Go 1 := by assumption)); refine Stop.mk ?_))
local macro_rules | `(tactic| walk_at "exec While") => `(tactic| ((fail_if_success (have : Go 1 := by assumption)); refine Stop.mk ?_))
local macro_rules | `(tactic| walk_at "eval IfExp Name") => `(tactic| ((fail_if_success (have : Go 3 := by assumption)); refine Stop.mk ?_))
local macro_rules | `(tactic| walk_at "eval ListComp") => `(tactic| (refine Stop.mk ?_))
local macro_rules | `(tactic| walk_at "exec Assign cons ListComp") => `(tactic| ((fail_if_success (have : Go 2 := by assumption)); refine Stop.mk ?_))
theorem flag_nil : ∀ {l : List (Str × Str)}, TabIs [] l → flagOf l = Str.ofString "end"
  | [], _ => rfl
theorem flag_cons {p : Addr × Obj} {r : List (Addr × Obj)} : ∀ {l : List (Str × Str)}, TabIs (p :: r) l → flagOf l = Str.ofString "on"
  | _ :: _, _ => rfl
theorem flag_safe (l : List (Str × Str)) : SafeStr (flagOf l) ∧ (flagOf l).length ≤ 1000 := by
  unfold flagOf
  split
  · exact ⟨safe_of (by decide +kernel), by decide +kernel⟩
  · exact ⟨safe_of (by decide +kernel), by decide +kernel⟩
theorem fitOf_take {rules : List (Str × Str)} {word p q : Str} {i : Nat} (h : rules[i]? = some (p, q)) : fitOf (rules.take (i + 1)) word = fitOf (rules.take i) word ++ (if em1 p word then [(p, q)] else []) := by
  unfold fitOf
  rw [List.take_add_one, h, List.filter_append]
  cases e : em1 p word
  · have : ¬ em1 (p, q).1 word = true := by rw [show (p, q).1 = p from rfl, e]; exact Bool.false_ne_true
    simp [e]
  · have : em1 (p, q).1 word = true := e
    simp [e]
local macro_rules | `(tactic| walk_at "truthy ref") => `(tactic| ((have : Go 3 := by assumption); refine Stop.mk ?_))
local macro_rules | `(tactic| walk_at "pyIter ref") => `(tactic| ((fail_if_success (have : Go 1 := by assumption)); refine Stop.mk ?_))
set_option maxRecDepth 100000 in
set_option maxHeartbeats 0 in
theorem ends_con (w : World) (rest : List (Addr × Obj)) (c' : Addr) (oc : Obj) (hoc : NextCode oc) (hc' : @Ne Nat c' 239) (R T1 T2 : Addr) (kR : Nat) (p1 q1 p2 q2 start : Str) (a1 b1 a2 b2 ts : Tok) (hst : start.length ≤ 10) (he1 : EmOk p1) (he2 : EmOk p2) (hq1 : q1.length ≤ 10) (hq2 : q2.length ≤ 10) (fuel : Nat) (fin : List (Str × Str)) (hrun : endsRun [(p1, q1), (p2, q2)] fuel [] [] (Str.ofString "<" ++ start ++ Str.ofString ">") = some fin) :
   Con w (.ref 249) [.ref R, .str start ts] 6 6 ((239, tabObj #[rawInt 178, rawInt 4, .ref c']) :: (c', oc) :: (R, listOf #[.ref T1, .ref T2] kR) :: (T1, tupO (.str p1 a1) (.str q1 b1)) :: (T2, tupO (.str p2 a2) (.str q2 b2)) :: rest)
     (fun news' r => ∃ D n yl, r = .ref D ∧ List.map (fun p : Str × Tok => p.1) yl = endsOf fin ∧ news' = (D, listOf (strValues yl).toArray n) :: (239, tabObj #[rawInt 178, rawInt 4, .ref c']) :: (c', oc) :: (R, listOf #[.ref T1, .ref T2] kR) :: (T1, tupO (.str p1 a1) (.str q1 b1)) :: (T2, tupO (.str p2 a2) (.str q2 b2)) :: rest) := by
  unfold Con
  k_fill
  intro p loose mean mg mb dp un gd cn csc a ccd cl outer A₀ base h₀ L m s Q E hB hF hX hN hT hck hdp hun hret
  (refine' code_defC (binds := [("rules", .ref R), ("start", .str start ts)]) ?k1 ?k2 ?k3 ?k4 ?k5 ?kA ?kF ?kK ?k6 ?k7 ?k8 ?k9 ?kB ?kD ?_ ?c2 ?c3 ?c4; (case kA => exact rfl); (case kF => exact rfl); (case kK => assumption); (case k1 => k_asm); (case k2 => k_asm); (case k3 => k_asm); (case k4 => k_asm); (case k5 => k_asm); (case k6 => k_is); (case k7 => k_is); (case k8 => ktr_room); (case k9 => first | exact BindsTo.of_eq rfl | exact binds_K (by k_in) rfl (by k_is) rfl rfl rfl); (case kB => exact rfl); (case kD => decide +kernel); (case c2 => exact rfl); (case c3 => exact rfl); (case c4 => exact rfl); k_whole; intro g' L' h' tk' cells' FG' F' N' Y' B' X' T' l1; (try k_lt l1); k_cells Y'; (try simp only [List.cons_append, List.nil_append] at N'); (try dsimp only); (try k_lift B'); (try k_fold))
  k_steps
  refine Stop.out ?_
  rename Fr _ _ _ _ => F9
  rename News _ _ _ _ => N9
  with_unfolding_all refine' For_turns F9 ?_ ?k1 ?k2
  case k1 => exact fun _ => rfl
  case k2 => passes_own
  k_steps
  refine Stop.out ?_
  refine kdt_iter (vs := []) (nn := 0) (fun i m nx => m = _ ∧ nx = _) rfl (List.Mem.head _) F9 N9 ⟨rfl, rfl⟩ ?_ ?_
  · rintro i v m₁ news₁ h tk own hv
    simp at hv
  rintro m₁ news₁ h tk hp90 F₁ N₁
  try k_fold
  obtain ⟨rfl, rfl⟩ := hp90
  clear F9 N9
  dsimp only
  k_steps
  refine Stop.out ?_
  rename_i o1 d1 hx dx _ l1x l2x _ _ _ _ _ _ _ hl _ l3x _ _ _ _ _ _ _ _ F9 N9
  clear F₁ N₁
  obtain ⟨tkh, N9⟩ : ∃ tkh, News g' L' _ ((hl, listOf #[] 0) :: (hx, instObj 233 dx) :: (dx, hdrO w.params (tkh) (hl)) :: (L' + 1, o1) :: (239, tabObj #[rawInt 178, rawInt 4, .ref c']) :: (c', oc) :: (R, listOf #[.ref T1, .ref T2] kR) :: (T1, tupO (.str p1 a1) (.str q1 b1)) :: (T2, tupO (.str p2 a2) (.str q2 b2)) :: rest) := ⟨_, N9⟩
  refine Con.use (lex_con2 w ((hl, listOf #[] 0) :: (hx, instObj 233 dx) :: (dx, hdrO w.params (tkh) (hl)) :: (L' + 1, o1) :: (R, listOf #[.ref T1, .ref T2] kR) :: (T1, tupO (.str p1 a1) (.str q1 b1)) :: (T2, tupO (.str p2 a2) (.str q2 b2)) :: rest) c' oc hoc (Str.ofString "") _ (by decide) hc') B' F9 X' (News.sub N9 (by k_allIn)) T' rfl (by ktr_room) (by ktr_units) ?_
  rintro r h' tk' news' F' N' hp90
  try k_fold
  obtain ⟨l, hl0, hLX⟩ := hp90
  refine hLX.elim ?_
  clear hLX
  rintro x dxl pb xs dxs pb2 la f cell fc fod fd fsl co kl t u rfl hNS hlt rfl
  obtain rfl : l = [] := List.map_eq_nil_iff.mp (hl0.trans (show signs (Str.ofString "") = [] by decide +kernel))
  dsimp only [AllLt] at hlt
  clear F9 N9
  k_steps
  refine Stop.out ?_
  rename Fr g' L' _ _ => F9
  rename News g' L' _ _ => N9
  obtain ⟨tl, htl⟩ : ∃ tl, tl = (la, listOf #[] kl) :: (f, (⟨fc, fod, .func fd, fsl⟩ : Obj)) :: (c', oc) :: (cell, co) :: (dxs, strO w.params u (pb2) (f)) :: (xs, instObj 83 dxs) :: (239, tabObj #[rawInt 178, rawInt 4, .ref c']) :: rest := ⟨_, rfl⟩
  have N9 := News.sub (new := (pb, listOf #[] 0) :: (dxl, lexO w.params t (1) (.ref xs) (pb)) :: (x, instObj 83 dxl) :: (hl, listOf #[] 0) :: (hx, instObj 233 dx) :: (dx, hdrO w.params (tkh) (hl)) :: (L' + 1, o1) :: (R, listOf #[.ref T1, .ref T2] kR) :: (T1, tupO (.str p1 a1) (.str q1 b1)) :: (T2, tupO (.str p2 a2) (.str q2 b2)) :: tl) N9 (by rw [htl]; k_allIn)
  have ord : @LT.lt Nat _ R L' ∧ @LT.lt Nat _ T1 L' ∧ @LT.lt Nat _ T2 L' ∧ @LT.lt Nat _ (L' + 1) dx ∧ @LT.lt Nat _ dx hx ∧ @LT.lt Nat _ hx hl ∧ @LT.lt Nat _ hl dxl ∧ @LT.lt Nat _ dxl x ∧ @LT.lt Nat _ x pb := by omega
  obtain ⟨hf1, hf2, hf3⟩ : OwnOff tl [pb] ∧ OwnOff tl [hl] ∧ OwnOff tl [L' + 1] := htl ▸ tl_off (cw := L' + 1) l1.2.2.2.2.2 (by omega)
  have hbase : ∀ p ∈ (la, listOf #[] kl) :: (f, (⟨fc, fod, .func fd, fsl⟩ : Obj)) :: (c', oc) :: (cell, co) :: (dxs, strO w.params u (pb2) (f)) :: (xs, instObj 83 dxs) :: (239, tabObj #[rawInt 178, rawInt 4, .ref c']) :: rest, p ∈ tl := htl ▸ fun p hp => hp
  clear htl l1 l1x l2x l3x hlt
  refine Con.useE (push_con w ((hl, listOf #[] 0) :: (hx, instObj 233 dx) :: (dx, hdrO w.params (tkh) (hl)) :: (L' + 1, o1) :: (R, listOf #[.ref T1, .ref T2] kR) :: (T1, tupO (.str p1 a1) (.str q1 b1)) :: (T2, tupO (.str p2 a2) (.str q2 b2)) :: tl) x dxl pb [] 0 t 1 (.ref xs) _ _ ?h1 ?h2 ?h3 (by decide)) B' F9 X' N9 T' rfl (by ktr_room) (by ktr_units) ?_
  case h1 =>
    intro p hp b hb
    rw [List.mem_singleton.mp hb]
    revert p
    k_all
  case h2 => omega
  case h3 => omega
  intro h' tk' F' N'
  try k_fold
  clear F9 N9
  k_steps
  refine Stop.out ?_
  rename Fr g' L' _ _ => F9
  rename News g' L' _ _ => N9
  refine Con.useE (pop_con w ((hl, listOf #[] 0) :: (hx, instObj 233 dx) :: (dx, hdrO w.params (tkh) (hl)) :: (L' + 1, o1) :: (R, listOf #[.ref T1, .ref T2] kR) :: (T1, tupO (.str p1 a1) (.str q1 b1)) :: (T2, tupO (.str p2 a2) (.str q2 b2)) :: tl) x dxl pb (.str _ _) [] 1 t 1 (.ref xs) ?h1 ?h2 ?h3 (by simp)) B' F9 X' N9 T' rfl (by ktr_room) (by ktr_units) ?_
  case h1 =>
    intro p hp b hb
    rw [List.mem_singleton.mp hb]
    revert p
    k_all
  case h2 => omega
  case h3 => omega
  intro h' tk' F' N'
  try k_fold
  clear F9 N9
  k_steps
  refine Stop.out ?_
  rename Fr g' L' _ _ => F9
  rename News g' L' _ _ => N9
  rename _ = Data.cell _ => d9
  refine While_inv2 (n₀ := fuel) (fun n m nx => ∀ Z : Prop, (∀ (tups tl' : List (Addr × Obj)) (l : List (Str × Str)) (kk np : Nat) (ps : List (Str × Tok)) (word : Str) (tw : Tok) (o2 : Obj),
      (m "rules" = some (.ref R) ∧ m "table" = some (.ref hx) ∧ m "lexer" = some (.ref x)) → o2.data = .cell (some (.str word tw)) → TabIs tups l → (l.length ≤ 301 ∧ ∀ p ∈ l, SafeStr p.1 ∧ p.1.length ≤ 1000) → (∀ p ∈ tups, p ∈ tl') → (∀ p ∈ tl, p ∈ tl') → (OwnOff tl' [pb] ∧ OwnOff tl' [hl] ∧ OwnOff tl' [L' + 1]) →
      endsRun [(p1, q1), (p2, q2)] n l (ps.map (·.1)) word = some fin →
      nx = (pb, listOf (strValues ps).toArray np) :: (dxl, lexO w.params t (1) (.ref xs) (pb)) :: (x, instObj 83 dxl) :: (hl, listOf (refsOf tups).toArray kk) :: (hx, instObj 233 dx) :: (dx, hdrO w.params (tkh) (hl)) :: (L' + 1, o2) :: (R, listOf #[.ref T1, .ref T2] kR) :: (T1, tupO (.str p1 a1) (.str q1 b1)) :: (T2, tupO (.str p2 a2) (.str q2 b2)) :: tl' → Z) → Z) F9 N9 ?hj ?turn (by passes_own)
  case hj => exact fun _ k => k [] tl [] 0 2 [] _ _ _ ⟨rfl, rfl, rfl⟩ d9 trivial ⟨Nat.zero_le _, (fun _ h => nomatch h)⟩ (fun _ h => nomatch h) (fun _ h => h) ⟨hf1, hf2, hf3⟩ hrun rfl
  case turn =>
    clear hf1 hf2 hf3
    intro n m₁ news₁ h₁ tk₁ F₁ N₁ hJ9
    try k_fold
    refine hJ9 _ ?_
    clear hJ9
    rintro tups tl' l kk np ps word tw o2 ⟨hm1, hm2, hm3⟩ hd2 hT2 ⟨hll, hsl⟩ hin hbs ⟨hf1, hf2, hf3⟩ hr rfl
    clear F9 N9 d9
    have F2 := Fr.al [("rules", .ref R), ("table", .ref hx), ("lexer", .ref x)] F₁ (al_cons hm1 (al_cons hm2 (al_cons hm3 al_nil)))
    clear F₁
    rcases run_step hr with ⟨rfl, rfl⟩ | ⟨hw, hok, n', rfl, hy, hn⟩
    · ((try k_fold); k_steps)
      refine Stop.out ?_
      rename Fr g' L' _ _ => F9
      k_dflt refine ListComp_Q F9 rfl (by decide) rfl (by decide) rfl rfl (by decide) ?_
      ((try k_fold); k_steps)
      refine Stop.out ?_
      rename Fr g' L' _ _ => F9
      rename News g' L' _ _ => N9
      refine Con.use (items_con w ((pb, listOf (strValues ps).toArray np) :: (dxl, lexO w.params t (1) (.ref xs) (pb)) :: (x, instObj 83 dxl) :: (L' + 1, o2) :: (R, listOf #[.ref T1, .ref T2] kR) :: (T1, tupO (.str p1 a1) (.str q1 b1)) :: (T2, tupO (.str p2 a2) (.str q2 b2)) :: tl') hx dx hl tkh (refsOf tups) kk ?hz) B' F9 X' (News.sub N9 (by k_allIn)) T' rfl (by ktr_room) (by ktr_units) ?_
      case hz => rw [show (refsOf tups).length = l.length from (List.length_map ..).trans hT2.len, sizeLine_eq]; omega
      rintro r h' tk' news' F' N' hp90
      try k_fold
      obtain ⟨D, rfl, rfl⟩ := hp90
      clear F9 N9
      ((try k_fold); k_steps)
      refine ⟨D, refsOf tups, 0, _, fun i ys => ∃ yt : List (Str × Tok), ys = strValues yt ∧ yt.map (·.1) = endsOf (l.take i), rfl, rfl, F', N', List.Mem.head _, by rw [show (refsOf tups).length = l.length from (List.length_map ..).trans hT2.len, sizeLine_eq]; omega, ⟨[], rfl, rfl⟩, ?_, ?_⟩
      · intro i v hv
        obtain ⟨⟨T, oT⟩, hT1, rfl⟩ : ∃ p, tups[i]? = some p ∧ v = .ref p.1 := by
          simp only [refsOf, List.getElem?_map, Option.map_eq_some_iff] at hv
          obtain ⟨p, h1, h2⟩ := hv
          exact ⟨p, h1, h2.symm⟩
        obtain ⟨⟨kx, vx⟩, t1, t2, hl1, hT3⟩ := hT2.at hT1
        dsimp only at hT3
        subst hT3
        have hmem : (T, tupO (.str kx t1) (.str vx t2)) ∈ tl' := hin _ (List.mem_of_getElem? hT1)
        refine ⟨T, .str kx t1, .str vx t2, rfl, ?_, ?_⟩
        · repeat' (first | exact hmem | refine List.Mem.tail _ ?_)
        intro ys I oI C oC D9 m₂ h9 tk9 E' ⟨yt, hys, hyt⟩ hyl hC' hx' hy' F'' N'' off' ne'
        clear F' N'
        have het := endsOf_take hl1
        ((try k_fold); k_steps)
        · rename (vx == _) = true => hq
          rw [hq, if_pos rfl] at het
          exact QEnd.intro (by assumption) (by assumption) ⟨yt ++ [(kx, t1)], by rw [hys]; simp [strValues], by rw [List.map_append, hyt, het]; rfl⟩
        · rename (vx == _) = false => hq
          rw [hq, if_neg Bool.false_ne_true, List.append_nil] at het
          exact QEnd.intro (by assumption) (by assumption) ⟨yt, hys, by rw [hyt, het]⟩
      · intro ys D9 h9 tk9 ⟨yt, hys, hyt⟩ F'' N'' hlt9
        clear F' N'
        rw [List.take_of_length_le (by rw [show (refsOf tups).length = tups.length from List.length_map .., hT2.len]; exact Nat.le_refl _)] at hyt
        ((try k_fold); k_steps)
        rename News h₀ _ _ _ => N9
        subst hys
        refine hret _ _ _ _ (by assumption) (News.sub N9 ?_) ⟨D9, (strValues yt).length, yt, rfl, hyt, rfl⟩
        have hq1 : (239, tabObj #[rawInt 178, rawInt 4, .ref c']) ∈ tl' := hbs _ (hbase _ (by k_memK))
        have hq2 : (c', oc) ∈ tl' := hbs _ (hbase _ (by k_memK))
        have hq3 : ∀ p ∈ rest, p ∈ tl' := fun p hp => hbs p (hbase p (.tail _ (.tail _ (.tail _ (.tail _ (.tail _ (.tail _ (.tail _ hp))))))))
        refine fm_cons (.head _) (fm_cons (?_) (fm_cons (?_) (fm_cons (by k_memK) (fm_cons (by k_memK) (fm_cons (by k_memK) (fun p hp => ?_))))))
        · repeat' (first | exact hq1 | refine List.Mem.tail _ ?_)
        · repeat' (first | exact hq2 | refine List.Mem.tail _ ?_)
        · have hq4 := hq3 p hp
          repeat' (first | exact hq4 | refine List.Mem.tail _ ?_)
    · have hwne := len_ne hw
      have hok' := hok
      simp only [okB, Bool.and_eq_true, decide_eq_true_eq] at hok'
      obtain ⟨⟨⟨hol, hop⟩, how⟩, hos⟩ := hok'
      have hos := safe_of hos
      clear hB hF hN hl0
      ((try k_fold); k_steps)
      refine Stop.out ?_
      rename Fr g' L' _ _ => F9
      rename News g' L' _ _ => N9
      refine Con.use (get_con w ((pb, listOf (strValues ps).toArray np) :: (dxl, lexO w.params t (1) (.ref xs) (pb)) :: (x, instObj 83 dxl) :: (L' + 1, o2) :: (R, listOf #[.ref T1, .ref T2] kR) :: (T1, tupO (.str p1 a1) (.str q1 b1)) :: (T2, tupO (.str p2 a2) (.str q2 b2)) :: tl') tups l hx dx hl tkh kk word tw hos hT2 (fun p hp => .tail _ (.tail _ (.tail _ (.tail _ (.tail _ (.tail _ (.tail _ (hin p hp)))))))) (by omega) hsl (by omega)) B' F9 X' (News.sub N9 (by k_allIn)) T' rfl (by ktr_room) (by ktr_units) ?_
      rintro r h' tk' news' F' N' hp90
      try k_fold
      obtain ⟨rfl, hr1, hr2⟩ := hp90
      clear F9 N9
      cases hany : l.any (fun p => p.1 == word) with
      | true =>
        obtain ⟨sv, tv, rfl⟩ := hr1 hany
        have hy := hy hany
        clear hr1 hr2 hn
        ((try k_fold); k_steps)
        refine Stop.out ?_
        rename Fr g' L' _ _ => F9
        rename News g' L' _ _ => N9
        have ha : ∀ p ∈ (la, listOf #[] kl) :: (f, (⟨fc, fod, .func fd, fsl⟩ : Obj)) :: (c', oc) :: (cell, co) :: (dxs, strO w.params u (pb2) (f)) :: (xs, instObj 83 dxs) :: (239, tabObj #[rawInt 178, rawInt 4, .ref c']) :: rest, p ∈ tl' := fun p hp => hbs p (hbase p hp)
        cases ps with
        | nil =>
          refine Con.useX (tok0_via w ((pb, listOf #[] np) :: (dxl, lexO w.params t (1) (.ref xs) (pb)) :: (x, instObj 83 dxl) :: (hl, listOf (refsOf tups).toArray kk) :: (hx, instObj 233 dx) :: (dx, hdrO w.params (tkh) (hl)) :: (L' + 1, o2) :: (R, listOf #[.ref T1, .ref T2] kR) :: (T1, tupO (.str p1 a1) (.str q1 b1)) :: (T2, tupO (.str p2 a2) (.str q2 b2)) :: tl') x dxl pb xs dxs pb2 la f c' cell fc fod fd fsl oc co t u 1 kl np hNS ?hb) B' F9 X' (News.sub N9 (by k_allIn)) T' rfl (by ktr_room) (by ktr_units) ?_
          case hb =>
            have hm : ∀ p ∈ tl', p ∈ ((pb, listOf #[] np) :: (dxl, lexO w.params t (1) (.ref xs) (pb)) :: (x, instObj 83 dxl) :: (hl, listOf (refsOf tups).toArray kk) :: (hx, instObj 233 dx) :: (dx, hdrO w.params (tkh) (hl)) :: (L' + 1, o2) :: (R, listOf #[.ref T1, .ref T2] kR) :: (T1, tupO (.str p1 a1) (.str q1 b1)) :: (T2, tupO (.str p2 a2) (.str q2 b2)) :: tl') := fun p hp => by repeat' (first | exact hp | refine List.Mem.tail _ ?_)
            exact fm_cons (hm _ (ha _ (by k_memK))) (fm_cons (hm _ (ha _ (by k_memK))) (fm_cons (hm _ (ha _ (by k_memK))) (fm_cons (hm _ (ha _ (by k_memK))) (fm_cons (by k_memK) (fm_cons (by k_memK) (fm_cons (hm _ (ha _ (by k_memK))) (fm_cons (hm _ (ha _ (by k_memK))) (fm_cons (by k_memK) (fun _ h => nomatch h)))))))))
          intro tt h' tk' F' N'
          try k_fold
          clear F9 N9
          ((try k_fold); k_steps)
          rename Fr g' L' _ _ => F9
          rename News g' L' _ _ => N9
          rename _ = Data.cell _ => d9
          exact ⟨_, _, _, _, n', rfl, F9, N9, Nat.lt_succ_self _, fun _ k => k tups tl' l (kk) (np) [] _ _ _ ⟨rfl, rfl, rfl⟩ d9 hT2 ⟨hll, hsl⟩ hin hbs ⟨hf1, hf2, hf3⟩ hy rfl⟩
        | cons v r =>
          obtain ⟨v, tv⟩ := v
          refine Con.useE (pop_con w ((hl, listOf (refsOf tups).toArray kk) :: (hx, instObj 233 dx) :: (dx, hdrO w.params (tkh) (hl)) :: (L' + 1, o2) :: (R, listOf #[.ref T1, .ref T2] kR) :: (T1, tupO (.str p1 a1) (.str q1 b1)) :: (T2, tupO (.str p2 a2) (.str q2 b2)) :: tl') x dxl pb (.str v tv) (strValues r) np t 1 (.ref xs) ?h1 ?h2 ?h3 ?h4) B' F9 X' (News.sub N9 (by k_allIn)) T' rfl (by ktr_room) (by ktr_units) ?_
          case h1 =>
            intro p hp b hb
            rw [List.mem_singleton.mp hb]
            revert p
            k_all
          case h2 => omega
          case h3 => omega
          case h4 => simp [strValues] at hop ⊢; omega
          intro h' tk' F' N'
          try k_fold
          clear F9 N9
          ((try k_fold); k_steps)
          rename Fr g' L' _ _ => F9
          rename News g' L' _ _ => N9
          rename _ = Data.cell _ => d9
          exact ⟨_, _, _, _, n', rfl, F9, N9, Nat.lt_succ_self _, fun _ k => k tups tl' l (kk) (np + 1) r _ _ _ ⟨rfl, rfl, rfl⟩ d9 hT2 ⟨hll, hsl⟩ hin hbs ⟨hf1, hf2, hf3⟩ hy rfl⟩
      | false =>
        obtain rfl := hr2 hany
        have hn := hn hany
        clear hr1 hr2 hy
        ((try k_fold); k_steps)
        refine Stop.out ?_
        rename Fr g' L' _ _ => F9
        rename News g' L' _ _ => N9
        obtain ⟨nx0, hnx0⟩ : ∃ nx0, nx0 = (pb, listOf (strValues ps).toArray np) :: (dxl, lexO w.params t (1) (.ref xs) (pb)) :: (x, instObj 83 dxl) :: (hl, listOf (refsOf tups).toArray kk) :: (hx, instObj 233 dx) :: (dx, hdrO w.params (tkh) (hl)) :: (L' + 1, o2) :: (R, listOf #[.ref T1, .ref T2] kR) :: (T1, tupO (.str p1 a1) (.str q1 b1)) :: (T2, tupO (.str p2 a2) (.str q2 b2)) :: tl' := ⟨_, rfl⟩
        replace N9 := News.sub (new := nx0) N9 (by rw [hnx0]; k_allIn)
        refine cut_next (fun s' => ∃ D ftups h tk, s' = { s with heap := h, toks := tk } ∧ Fr g' L' h (fun y => if y = "fit" then some (.ref D) else al [("rules", .ref R), ("table", .ref hx), ("lexer", .ref x)] m₁ y) ∧
          News g' L' h ((D, LCg.lst (refsOf ftups)) :: nx0) ∧ TabIs ftups (fitOf [(p1, q1), (p2, q2)] word) ∧ (∀ p ∈ ftups, p = (T1, tupO (.str p1 a1) (.str q1 b1)) ∨ p = (T2, tupO (.str p2 a2) (.str q2 b2))) ∧ (∀ p ∈ nx0, p.1 ≠ D)) ?comp ?after
        case comp =>
          have hp1 := he1.2.2
          have hp2 := he2.2.2
          have hR1 : (R, listOf #[.ref T1, .ref T2] kR) ∈ nx0 := hnx0 ▸ (by k_memK)
          have hc1 : (L' + 1, o2) ∈ nx0 := hnx0 ▸ (by k_memK)
          have ht1 : (T1, tupO (.str p1 a1) (.str q1 b1)) ∈ nx0 := hnx0 ▸ (by k_memK)
          have ht2 : (T2, tupO (.str p2 a2) (.str q2 b2)) ∈ nx0 := hnx0 ▸ (by k_memK)
          clear hnx0
          k_dflt refine Assign_ListComp_N (_F₀ := F9) rfl (by with_unfolding_all rfl) (by with_unfolding_all rfl) (by decide) rfl (by decide) rfl rfl rfl ?_
          have hl3 : (Str.ofString "...").length = 3 := by decide +kernel
          ((try k_fold); k_steps)
          rename Fr g' L' _ _ => F8
          rename News g' L' _ _ => N8
          refine SrcN.list (vs := [.ref T1, .ref T2]) (k := kR) (news := nx0) (fun i ys nx => nx = nx0 ∧ ∃ ft, ys = refsOf ft ∧ TabIs ft (fitOf ([(p1, q1), (p2, q2)].take i) word) ∧ ∀ p ∈ ft, p = (T1, tupO (.str p1 a1) (.str q1 b1)) ∨ p = (T2, tupO (.str p2 a2) (.str q2 b2))) rfl F8 N8 hR1 (Nat.le_of_ble_eq_true rfl) ⟨rfl, [], rfl, trivial, (fun _ h => nomatch h)⟩ ?turn2 ?fin2
          case turn2 =>
            clear F8 N8
            refine TurnN.test rfl ?_
            rintro i v ys nx I oI C oC D m₂ h tk E' hi hv hp90 hsr hyl hC' hx' F' N' off' ne'
            try k_fold
            obtain ⟨rfl, ft, rfl, htab, hft⟩ := hp90
            obtain ⟨T, p, q, a0, b0, rfl, hT, hem, hri, hor⟩ : ∃ T p q a b, v = .ref T ∧ (T, tupO (.str p a) (.str q b)) ∈ nx ∧ EmOk p ∧ [(p1, q1), (p2, q2)][i]? = some (p, q) ∧ ((T, tupO (.str p a) (.str q b)) = (T1, tupO (.str p1 a1) (.str q1 b1)) ∨ (T, tupO (.str p a) (.str q b)) = (T2, tupO (.str p2 a2) (.str q2 b2))) := by
              match i, hv with
              | 0, hv => exact ⟨_, _, _, _, _, (Option.some.inj hv).symm, ht1, he1, rfl, .inl rfl⟩
              | 1, hv => exact ⟨_, _, _, _, _, (Option.some.inj hv).symm, ht2, he2, rfl, .inr rfl⟩
            have hp0 := hem.2.2
            have N2 := News.sub (new := (T, tupO (.str p a0) (.str q b0)) :: (L' + 1, o2) :: (I, oI) :: (C, oC) :: (D, LCg.lst (refsOf ft)) :: nx) N' (fm_cons (.tail _ (.tail _ (.tail _ hT))) (fm_cons (.tail _ (.tail _ (.tail _ hc1))) (fun _ h => h)))
            clear N'
            have htk := fitOf_take (word := word) hri
            ((try k_fold); k_steps)
            refine Stop.out ?_
            rename Fr g' L' _ _ => F9
            rename News g' L' _ _ => N9
            refine Con.useE (em_con w _ _ word _ tw [p] (by simp only [Str.length_append]; omega) (by omega) hem.1 hem.2.1) B' F9 X' N9 T' rfl (by ktr_room) (by ktr_units) ?_
            intro h' tk' F' N'
            try k_fold
            rw [show findAll word word.length (Str.ofString "" :: [p] ++ [Str.ofString ""]) 0 = em1 p word from rfl]
            obtain ⟨e1, he1b⟩ : ∃ b, em1 p word = b := ⟨_, rfl⟩
            rw [he1b] at htk ⊢
            clear F9 N9
            ((try k_fold); k_steps)
            · rename e1 = true => he
              rename Fr g' L' _ _ => F9
              rename News g' L' _ _ => N9
              rw [he, if_pos rfl] at htk
              refine NEnd.intro F9 N9 (fm_cons (by k_memK) (fm_cons (by k_memK) (fm_cons (by k_memK) (fun p hp => .tail _ (.tail _ (.tail _ (.tail _ (.tail _ hp)))))))) off' hsr ⟨rfl, ft ++ [(T, tupO (.str p a0) (.str q b0))], by simp [refsOf], by rw [htk]; exact htab.snoc rfl, fun x hx => ?_⟩
              rcases List.mem_append.mp hx with hx | hx
              · exact hft x hx
              · rw [List.mem_singleton.mp hx]; exact hor
            · rename e1 = false => he
              rename Fr g' L' _ _ => F9
              rename News g' L' _ _ => N9
              rw [he, if_neg Bool.false_ne_true, List.append_nil] at htk
              exact NEnd.intro F9 N9 (fm_cons (by k_memK) (fm_cons (by k_memK) (fm_cons (by k_memK) (fun p hp => .tail _ (.tail _ (.tail _ (.tail _ (.tail _ hp)))))))) off' hsr ⟨rfl, ft, rfl, by rw [htk]; exact htab, hft⟩
          case fin2 =>
            rintro ys D nx h tk ⟨rfl, ft, rfl, htab, hft⟩ - N' hne F'
            exact ⟨rfl, Hide.mk ⟨D, ft, h, tk, rfl, F', N', htab, hft, hne⟩⟩
        case after =>
          rintro s' ⟨D, ft, h, tk, rfl, F', N', htab, hft, hne⟩
          clear F9 N9
          subst hnx0
          dsimp only
          ((try k_fold); k_steps)
          refine Stop.out ?_
          refine cut_val (fun v s' => ∃ tf h tk, v = .str (flagOf (fitOf [(p1, q1), (p2, q2)] word)) tf ∧ s' = { s with heap := h, toks := tk } ∧ Fr g' L' h (fun y => if y = "fit" then some (.ref D) else al [("rules", .ref R), ("table", .ref hx), ("lexer", .ref x)] m₁ y) ∧
            News g' L' h ((D, LCg.lst (refsOf ft)) :: (pb, listOf (strValues ps).toArray np) :: (dxl, lexO w.params t (1) (.ref xs) (pb)) :: (x, instObj 83 dxl) :: (hl, listOf (refsOf tups).toArray kk) :: (hx, instObj 233 dx) :: (dx, hdrO w.params (tkh) (hl)) :: (L' + 1, o2) :: (R, listOf #[.ref T1, .ref T2] kR) :: (T1, tupO (.str p1 a1) (.str q1 b1)) :: (T2, tupO (.str p2 a2) (.str q2 b2)) :: tl')) ?flag ?after2
          case flag =>
            have g3 := Go.mk 3
            clear hft hne hn
            have hsz : (refsOf ft).length ≤ 1000000 := by
              rw [show (refsOf ft).length = (fitOf [(p1, q1), (p2, q2)] word).length from (List.length_map ..).trans htab.len]
              exact Nat.le_trans (List.length_filter_le _ _) (show 2 ≤ 1000000 by decide)
            cases ft with
            | nil =>
              rw [show flagOf (fitOf [(p1, q1), (p2, q2)] word) = Str.ofString "end" from flag_nil htab]
              ((try k_fold); k_steps)
              refine Stop.out (truthy_led N' (.head _) hsz false rfl ?_)
              ((try k_fold); k_steps)
              exact Hide.mk ⟨_, _, _, rfl, rfl, F', N'⟩
            | cons q r =>
              rw [show flagOf (fitOf [(p1, q1), (p2, q2)] word) = Str.ofString "on" from flag_cons htab]
              ((try k_fold); k_steps)
              refine Stop.out (truthy_led N' (.head _) hsz true rfl ?_)
              ((try k_fold); k_steps)
              exact Hide.mk ⟨_, _, _, rfl, rfl, F', N'⟩
          case after2 =>
            have hfl : (fitOf [(p1, q1), (p2, q2)] word).length ≤ 2 := Nat.le_trans (List.length_filter_le _ _) (show 2 ≤ 2 by decide)
            clear N' F'
            rintro v s' ⟨tf, h, tk, rfl, rfl, F', N'⟩
            ((try k_fold); k_steps)
            refine Stop.out ?_
            rename Fr g' L' _ _ => F9
            rename News g' L' _ _ => N9
            have hD1 : @Ne Nat D hl := fun e => hne (hl, _) (by k_memK) e.symm
            have hD2 : @Ne Nat D pb := fun e => hne (pb, _) (by k_memK) e.symm
            have hD3 : @Ne Nat D (L' + 1) := fun e => hne (L' + 1, _) (by k_memK) e.symm
            have hfs : SafeStr (flagOf (fitOf [(p1, q1), (p2, q2)] word)) ∧ (flagOf (fitOf [(p1, q1), (p2, q2)] word)).length ≤ 1000 := flag_safe _
            refine Con.use (add_con w ((D, LCg.lst (refsOf ft)) :: (pb, listOf (strValues ps).toArray np) :: (dxl, lexO w.params t (1) (.ref xs) (pb)) :: (x, instObj 83 dxl) :: (L' + 1, o2) :: (R, listOf #[.ref T1, .ref T2] kR) :: (T1, tupO (.str p1 a1) (.str q1 b1)) :: (T2, tupO (.str p2 a2) (.str q2 b2)) :: tl') hx dx hl tkh (refsOf tups) kk word _ tw tf hos hfs.1 ?n1 ?n2 ?off ?len hfs.2) B' F9 X' (News.sub N9 (by k_allIn)) T' rfl (by ktr_room) (by ktr_units) ?_
            case n1 => omega
            case n2 => omega
            case off =>
              intro p hp b hb
              rw [List.mem_singleton.mp hb]
              revert p
              k_all
            case len => rw [show (refsOf tups).length = l.length from (List.length_map ..).trans hT2.len]; omega
            rintro r h' tk' news' F' N' hp90
            try k_fold
            obtain ⟨T, t9, rfl, rfl, hlt9, hlt1, hlt2, hlt3⟩ := hp90
            dsimp only [AllLt] at hlt9
            clear F9 N9
            ((try k_fold); k_steps)
            refine Stop.out ?_
            rename Fr g' L' _ _ => F9
            rename News g' L' _ _ => N9
            with_unfolding_all refine' For_turns F9 ?_ ?k1 ?k2
            case k1 => exact fun _ => rfl
            case k2 => passes_own
            ((try k_fold); k_steps)
            refine Stop.out ?_
            have hT3 := hT2.snoc (T := T) (o := tupO (.str word tw) (.str (flagOf (fitOf [(p1, q1), (p2, q2)] word)) t9)) rfl
            have hrf : refsOf tups ++ [Value.ref T] = refsOf (tups ++ [(T, tupO (.str word tw) (.str (flagOf (fitOf [(p1, q1), (p2, q2)] word)) t9))]) := by simp [refsOf]
            rw [hrf] at N9
            obtain ⟨tups', htu⟩ : ∃ z, z = tups ++ [(T, tupO (.str word tw) (.str (flagOf (fitOf [(p1, q1), (p2, q2)] word)) t9))] := ⟨_, rfl⟩
            obtain ⟨tl2, htl2⟩ : ∃ z, z = (T, tupO (.str word tw) (.str (flagOf (fitOf [(p1, q1), (p2, q2)] word)) t9)) :: tl' := ⟨_, rfl⟩
            rw [← htu] at hT3 N9
            have hin2 : ∀ p ∈ tups', p ∈ tl2 := by
              rw [htu, htl2]
              intro p hp
              rcases List.mem_append.mp hp with hp | hp
              · exact .tail _ (hin p hp)
              · rw [List.mem_singleton.mp hp]; exact .head _
            have hbs2 : ∀ p ∈ tl, p ∈ tl2 := htl2 ▸ fun p hp => .tail _ (hbs p hp)
            have hg1 : OwnOff tl2 [pb] := htl2 ▸ own_cons (show @Ne Nat T pb by omega) hf1
            have hg2 : OwnOff tl2 [hl] := htl2 ▸ own_cons (show @Ne Nat T hl by omega) hf2
            have hg3 : OwnOff tl2 [L' + 1] := htl2 ▸ own_cons (show @Ne Nat T (L' + 1) by omega) hf3
            have hkeep : ∀ p ∈ tl', p ∈ tl2 := htl2 ▸ fun p hp => .tail _ hp
            replace N9 := News.sub (new := (D, LCg.lst (refsOf ft)) :: (pb, listOf (strValues ps).toArray np) :: (dxl, lexO w.params t (1) (.ref xs) (pb)) :: (x, instObj 83 dxl) :: (hl, listOf (refsOf tups').toArray (kk + 1)) :: (hx, instObj 233 dx) :: (dx, hdrO w.params (tkh) (hl)) :: (L' + 1, o2) :: (R, listOf #[.ref T1, .ref T2] kR) :: (T1, tupO (.str p1 a1) (.str q1 b1)) :: (T2, tupO (.str p2 a2) (.str q2 b2)) :: tl2) N9 (by rw [htl2]; k_allIn)
            have hl4 : (l ++ [(word, flagOf (fitOf [(p1, q1), (p2, q2)] word))]).length ≤ 301 ∧ ∀ p ∈ l ++ [(word, flagOf (fitOf [(p1, q1), (p2, q2)] word))], SafeStr p.1 ∧ p.1.length ≤ 1000 := by
              refine ⟨by rw [List.length_append, List.length_singleton]; omega, fun p hp => ?_⟩
              rcases List.mem_append.mp hp with hp | hp
              · exact hsl p hp
              · rw [List.mem_singleton.mp hp]; exact ⟨hos, by show word.length ≤ 1000; omega⟩
            clear htl2 htu hrf hT2 hsl hin hbs hf1 hf2 hf3 hne hlt9 hlt1 hlt2 hlt3 hfs hll
            refine kdt_iter (l := D) (vs := refsOf ft) (nn := (refsOf ft).length) (news := (D, LCg.lst (refsOf ft)) :: (pb, listOf (strValues ps).toArray np) :: (dxl, lexO w.params t (1) (.ref xs) (pb)) :: (x, instObj 83 dxl) :: (hl, listOf (refsOf tups').toArray (kk + 1)) :: (hx, instObj 233 dx) :: (dx, hdrO w.params (tkh) (hl)) :: (L' + 1, o2) :: (R, listOf #[.ref T1, .ref T2] kR) :: (T1, tupO (.str p1 a1) (.str q1 b1)) :: (T2, tupO (.str p2 a2) (.str q2 b2)) :: tl2)
              (fun i m nx => (m "rules" = some (.ref R) ∧ m "table" = some (.ref hx) ∧ m "lexer" = some (.ref x)) ∧ ∃ psi npi, psi.map (fun p : Str × Tok => p.1) = ps.map (fun p : Str × Tok => p.1) ++ ((fitOf [(p1, q1), (p2, q2)] word).take i).flatMap (fun r => posts r.1 r.2 word) ∧ psi.length ≤ 500 + 20 * i ∧
                nx = (D, LCg.lst (refsOf ft)) :: (pb, listOf (strValues psi).toArray npi) :: (dxl, lexO w.params t (1) (.ref xs) (pb)) :: (x, instObj 83 dxl) :: (hl, listOf (refsOf tups').toArray (kk + 1)) :: (hx, instObj 233 dx) :: (dx, hdrO w.params (tkh) (hl)) :: (L' + 1, o2) :: (R, listOf #[.ref T1, .ref T2] kR) :: (T1, tupO (.str p1 a1) (.str q1 b1)) :: (T2, tupO (.str p2 a2) (.str q2 b2)) :: tl2) rfl (.head _) F9 N9 ⟨⟨rfl, rfl, rfl⟩, ps, np, by rw [List.take_zero]; simp, by rw [List.length_map] at hop; omega, rfl⟩ ?turn3 ?done3
            case turn3 =>
              rintro i v m₁ news₁ h tk own hv hoff _ hp90 F₁ N₁
              try k_fold
              obtain ⟨⟨hm1, hm2, hm3⟩, psi, npi, hpsi, hplen, rfl⟩ := hp90
              obtain ⟨⟨T0, oT⟩, hT1, rfl⟩ : ∃ p, ft[i]? = some p ∧ v = .ref p.1 := by
                simp only [refsOf, List.getElem?_map, Option.map_eq_some_iff] at hv
                obtain ⟨p, h1, h2⟩ := hv
                exact ⟨p, h1, h2.symm⟩
              obtain ⟨⟨p, q⟩, a0, b0, hl1, hT4⟩ := htab.at hT1
              dsimp only at hT4
              subst hT4
              have hi2 : i < 2 := Nat.lt_of_lt_of_le (List.getElem?_eq_some_iff.mp hl1).1 hfl
              have hmem : (T0, tupO (.str p a0) (.str q b0)) = (T1, tupO (.str p1 a1) (.str q1 b1)) ∨ (T0, tupO (.str p a0) (.str q b0)) = (T2, tupO (.str p2 a2) (.str q2 b2)) := hft _ (List.mem_of_getElem? hT1)
              have hp0 : p.length ≤ 10 ∧ q.length ≤ 10 := by
                rcases hmem with e | e <;> (simp only [tupO, Prod.mk.injEq, Obj.mk.injEq, Data.seq.injEq, Array.mk.injEq, List.cons.injEq, Value.str.injEq] at e; obtain ⟨_, _, _, e, _⟩ := e; first | (rw [e.1.1.1, e.1.2.1.1]; exact ⟨he1.2.2, hq1⟩) | (rw [e.1.1.1, e.1.2.1.1]; exact ⟨he2.2.2, hq2⟩) | skip)
              obtain ⟨hpl, hql⟩ := hp0
              have F2 := Fr.al [("rules", .ref R), ("table", .ref hx), ("lexer", .ref x)] F₁ (al_cons hm1 (al_cons hm2 (al_cons hm3 al_nil)))
              have N2 := News.sub (new := (T0, tupO (.str p a0) (.str q b0)) :: ((D, LCg.lst (refsOf ft)) :: (pb, listOf (strValues psi).toArray npi) :: (dxl, lexO w.params t (1) (.ref xs) (pb)) :: (x, instObj 83 dxl) :: (hl, listOf (refsOf tups').toArray (kk + 1)) :: (hx, instObj 233 dx) :: (dx, hdrO w.params (tkh) (hl)) :: (L' + 1, o2) :: (R, listOf #[.ref T1, .ref T2] kR) :: (T1, tupO (.str p1 a1) (.str q1 b1)) :: (T2, tupO (.str p2 a2) (.str q2 b2)) :: tl2) ++ own) N₁ (fun z hz => by
                rcases List.mem_cons.mp hz with rfl | hz
                · rcases hmem with e | e
                  · rw [e]; exact List.mem_append_left _ (by k_memK)
                  · rw [e]; exact List.mem_append_left _ (by k_memK)
                · exact hz)
              clear F₁ F9 N9 N₁ hmem hT1 hft
              ((try k_fold); k_steps)
              refine Stop.out ?_
              rename Fr g' L' _ _ => F9
              rename News g' L' _ _ => N9
              replace N9 := News.sub (new := ((D, LCg.lst (refsOf ft)) :: (pb, listOf (strValues psi).toArray npi) :: (dxl, lexO w.params t (1) (.ref xs) (pb)) :: (x, instObj 83 dxl) :: (hl, listOf (refsOf tups').toArray (kk + 1)) :: (hx, instObj 233 dx) :: (dx, hdrO w.params (tkh) (hl)) :: (L' + 1, o2) :: (R, listOf #[.ref T1, .ref T2] kR) :: (T1, tupO (.str p1 a1) (.str q1 b1)) :: (T2, tupO (.str p2 a2) (.str q2 b2)) :: (tl2 ++ own))) N9 (fun z hz => .tail _ hz)
              refine rng0_iter word.length (fun k m nx => (m "rules" = some (.ref R) ∧ m "table" = some (.ref hx) ∧ m "lexer" = some (.ref x) ∧ m "pair" = some (.str p a0) ∧ m "put" = some (.str q b0)) ∧ ∃ psk npk, psk.map (fun p : Str × Tok => p.1) = psi.map (fun p : Str × Tok => p.1) ++ postsTo p q word k ∧ psk.length ≤ psi.length + k ∧
                nx = ((D, LCg.lst (refsOf ft)) :: (pb, listOf (strValues psk).toArray npk) :: (dxl, lexO w.params t (1) (.ref xs) (pb)) :: (x, instObj 83 dxl) :: (hl, listOf (refsOf tups').toArray (kk + 1)) :: (hx, instObj 233 dx) :: (dx, hdrO w.params (tkh) (hl)) :: (L' + 1, o2) :: (R, listOf #[.ref T1, .ref T2] kR) :: (T1, tupO (.str p1 a1) (.str q1 b1)) :: (T2, tupO (.str p2 a2) (.str q2 b2)) :: (tl2 ++ own))) rfl (by assumption) rfl (by omega) F9 N9 ⟨⟨rfl, rfl, rfl, rfl, rfl⟩, psi, npi, by rw [postsTo_zero, List.append_nil], by omega, rfl⟩ ?turn4 ?done4
              case turn4 =>
                rintro k tk4 m4 news4 h4 tkk own4 hk hoff4 hp90 F4 N4
                try k_fold
                obtain ⟨⟨g1, g2, g3, g4, g5⟩, psk, npk, hpsk, hklen, rfl⟩ := hp90
                have F5 := Fr.turn [("rules", .ref R), ("table", .ref hx), ("lexer", .ref x), ("pair", .str p a0), ("put", .str q b0)] F4 (al_cons g1 (al_cons g2 (al_cons g3 (al_cons g4 (al_cons g5 al_nil)))))
                clear F4 F9 N9
                have hoff9 : OwnOff (tl2 ++ own ++ own4) [pb] := by
                  have h1 := own_of_off (b := pb) hoff (.tail _ (.head _))
                  have h2 := own_of_off (b := pb) hoff4 (.tail _ (.head _))
                  exact own_app (own_app hg1 h1) h2
                have hq0 : ((Str.ofString "").length : Int) = 0 := rfl
                ((try k_fold); k_steps)
                · refine Stop.out ?_
                  rename (Txt.slice _ _ _ == _) = true => hhit
                  rename Fr g' L' _ _ => F9
                  rename News g' L' _ _ => N9
                  refine Con.use (push_str w ((D, LCg.lst (refsOf ft)) :: (hl, listOf (refsOf tups').toArray (kk + 1)) :: (hx, instObj 233 dx) :: (dx, hdrO w.params (tkh) (hl)) :: (L' + 1, o2) :: (R, listOf #[.ref T1, .ref T2] kR) :: (T1, tupO (.str p1 a1) (.str q1 b1)) :: (T2, tupO (.str p2 a2) (.str q2 b2)) :: (tl2 ++ own ++ own4)) x dxl pb psk npk t 1 (.ref xs) _ _ ?h1 ?h2 ?h3 (by omega)) B' F9 X' (News.sub N9 (by k_allIn)) T' rfl (by ktr_room) (by ktr_units) ?_
                  case h1 =>
                    intro p hp b hb
                    rw [List.mem_singleton.mp hb]
                    revert p
                    k_all
                  case h2 => omega
                  case h3 => omega
                  rintro r9 h' tk' news' F' N' hp90
                  try k_fold
                  obtain ⟨psn, hn1, hn2, rfl, rfl⟩ := hp90
                  clear F9 N9
                  ((try k_fold); k_steps)
                  rename Fr g' L' _ _ => F9
                  rename News g' L' _ _ => N9
                  refine InvEndG.intro (nx := (D, LCg.lst (refsOf ft)) :: (pb, listOf (strValues psn).toArray (npk + 1)) :: (dxl, lexO w.params t (1) (.ref xs) (pb)) :: (x, instObj 83 dxl) :: (hl, listOf (refsOf tups').toArray (kk + 1)) :: (hx, instObj 233 dx) :: (dx, hdrO w.params (tkh) (hl)) :: (L' + 1, o2) :: (R, listOf #[.ref T1, .ref T2] kR) :: (T1, tupO (.str p1 a1) (.str q1 b1)) :: (T2, tupO (.str p2 a2) (.str q2 b2)) :: (tl2 ++ own)) F9 (News.sub (new := ((D, LCg.lst (refsOf ft)) :: (pb, listOf (strValues psn).toArray (npk + 1)) :: (dxl, lexO w.params t (1) (.ref xs) (pb)) :: (x, instObj 83 dxl) :: (hl, listOf (refsOf tups').toArray (kk + 1)) :: (hx, instObj 233 dx) :: (dx, hdrO w.params (tkh) (hl)) :: (L' + 1, o2) :: (R, listOf #[.ref T1, .ref T2] kR) :: (T1, tupO (.str p1 a1) (.str q1 b1)) :: (T2, tupO (.str p2 a2) (.str q2 b2)) :: (tl2 ++ own)) ++ own4) N9 (by k_allIn)) ⟨⟨rfl, rfl, rfl, rfl, rfl⟩, psn, npk + 1, by rw [hn1, hpsk, postsTo_hit hhit, List.append_assoc], by omega, rfl⟩ hoff4 (fun z hz => List.mem_append_left own4 hz) (fun z hz => List.mem_append_right ((D, LCg.lst (refsOf ft)) :: (pb, listOf (strValues psn).toArray (npk + 1)) :: (dxl, lexO w.params t (1) (.ref xs) (pb)) :: (x, instObj 83 dxl) :: (hl, listOf (refsOf tups').toArray (kk + 1)) :: (hx, instObj 233 dx) :: (dx, hdrO w.params (tkh) (hl)) :: (L' + 1, o2) :: (R, listOf #[.ref T1, .ref T2] kR) :: (T1, tupO (.str p1 a1) (.str q1 b1)) :: (T2, tupO (.str p2 a2) (.str q2 b2)) :: (tl2 ++ own)) hz)
                · rename (Txt.slice _ _ _ == _) = false => hmiss
                  rename Fr g' L' _ _ => F9
                  rename News g' L' _ _ => N9
                  refine InvEndG.intro (nx := (D, LCg.lst (refsOf ft)) :: (pb, listOf (strValues psk).toArray npk) :: (dxl, lexO w.params t (1) (.ref xs) (pb)) :: (x, instObj 83 dxl) :: (hl, listOf (refsOf tups').toArray (kk + 1)) :: (hx, instObj 233 dx) :: (dx, hdrO w.params (tkh) (hl)) :: (L' + 1, o2) :: (R, listOf #[.ref T1, .ref T2] kR) :: (T1, tupO (.str p1 a1) (.str q1 b1)) :: (T2, tupO (.str p2 a2) (.str q2 b2)) :: (tl2 ++ own)) F9 N9 ⟨⟨rfl, rfl, rfl, rfl, rfl⟩, psk, npk, by rw [postsTo_miss hmiss]; exact hpsk, by omega, rfl⟩ hoff4 (fun z hz => List.mem_append_left own4 hz) (fun z hz => List.mem_append_right ((D, LCg.lst (refsOf ft)) :: (pb, listOf (strValues psk).toArray npk) :: (dxl, lexO w.params t (1) (.ref xs) (pb)) :: (x, instObj 83 dxl) :: (hl, listOf (refsOf tups').toArray (kk + 1)) :: (hx, instObj 233 dx) :: (dx, hdrO w.params (tkh) (hl)) :: (L' + 1, o2) :: (R, listOf #[.ref T1, .ref T2] kR) :: (T1, tupO (.str p1 a1) (.str q1 b1)) :: (T2, tupO (.str p2 a2) (.str q2 b2)) :: (tl2 ++ own)) hz)
              case done4 =>
                rintro m4 news4 h4 tkk hp90 F4 N4
                try k_fold
                obtain ⟨⟨g1, g2, g3, g4, g5⟩, psk, npk, hpsk, hklen, rfl⟩ := hp90
                clear F9 N9
                ((try k_fold); k_steps)
                refine InvEndG.intro (nx := (D, LCg.lst (refsOf ft)) :: (pb, listOf (strValues psk).toArray npk) :: (dxl, lexO w.params t (1) (.ref xs) (pb)) :: (x, instObj 83 dxl) :: (hl, listOf (refsOf tups').toArray (kk + 1)) :: (hx, instObj 233 dx) :: (dx, hdrO w.params (tkh) (hl)) :: (L' + 1, o2) :: (R, listOf #[.ref T1, .ref T2] kR) :: (T1, tupO (.str p1 a1) (.str q1 b1)) :: (T2, tupO (.str p2 a2) (.str q2 b2)) :: tl2) F4 N4 ⟨List.Mem.head _, ⟨g1, g2, g3⟩, psk, npk, ?e1, by omega, rfl⟩ hoff ?e2 ?e3
                case e1 => rw [flat_take_succ hl1, hpsk, hpsi, List.append_assoc, posts_eq]
                case e2 =>
                  intro z hz
                  have : z ∈ ((D, LCg.lst (refsOf ft)) :: (pb, listOf (strValues psk).toArray npk) :: (dxl, lexO w.params t (1) (.ref xs) (pb)) :: (x, instObj 83 dxl) :: (hl, listOf (refsOf tups').toArray (kk + 1)) :: (hx, instObj 233 dx) :: (dx, hdrO w.params (tkh) (hl)) :: (L' + 1, o2) :: (R, listOf #[.ref T1, .ref T2] kR) :: (T1, tupO (.str p1 a1) (.str q1 b1)) :: (T2, tupO (.str p2 a2) (.str q2 b2)) :: tl2) ++ own := List.mem_append_left _ hz
                  exact this
                case e3 =>
                  intro z hz
                  have : z ∈ ((D, LCg.lst (refsOf ft)) :: (pb, listOf (strValues psk).toArray npk) :: (dxl, lexO w.params t (1) (.ref xs) (pb)) :: (x, instObj 83 dxl) :: (hl, listOf (refsOf tups').toArray (kk + 1)) :: (hx, instObj 233 dx) :: (dx, hdrO w.params (tkh) (hl)) :: (L' + 1, o2) :: (R, listOf #[.ref T1, .ref T2] kR) :: (T1, tupO (.str p1 a1) (.str q1 b1)) :: (T2, tupO (.str p2 a2) (.str q2 b2)) :: tl2) ++ own := List.mem_append_right _ hz
                  exact this
            case done3 =>
              rintro m₁ news₁ h tk hp90 F₁ N₁
              try k_fold
              obtain ⟨⟨hm1, hm2, hm3⟩, psi, npi, hpsi, hplen, rfl⟩ := hp90
              rw [List.take_of_length_le (show (fitOf [(p1, q1), (p2, q2)] word).length ≤ (refsOf ft).length by rw [show (refsOf ft).length = ft.length from List.length_map .., htab.len]; exact Nat.le_refl _)] at hpsi
              rw [← hpsi] at hn
              have F2 := Fr.al [("rules", .ref R), ("table", .ref hx), ("lexer", .ref x)] F₁ (al_cons hm1 (al_cons hm2 (al_cons hm3 al_nil)))
              obtain ⟨tl3, htl3⟩ : ∃ z, z = (D, LCg.lst (refsOf ft)) :: tl2 := ⟨_, rfl⟩
              have N2 := News.sub (new := (pb, listOf (strValues psi).toArray npi) :: (dxl, lexO w.params t (1) (.ref xs) (pb)) :: (x, instObj 83 dxl) :: (hl, listOf (refsOf tups').toArray (kk + 1)) :: (hx, instObj 233 dx) :: (dx, hdrO w.params (tkh) (hl)) :: (L' + 1, o2) :: (R, listOf #[.ref T1, .ref T2] kR) :: (T1, tupO (.str p1 a1) (.str q1 b1)) :: (T2, tupO (.str p2 a2) (.str q2 b2)) :: tl3) N₁ (by rw [htl3]; k_allIn)
              have hin3 : ∀ p ∈ tups', p ∈ tl3 := htl3 ▸ fun p hp => .tail _ (hin2 p hp)
              have hbs3 : ∀ p ∈ tl, p ∈ tl3 := htl3 ▸ fun p hp => .tail _ (hbs2 p hp)
              have hk1 : OwnOff tl3 [pb] := htl3 ▸ own_cons hD2 hg1
              have hk2 : OwnOff tl3 [hl] := htl3 ▸ own_cons hD1 hg2
              have hk3 : OwnOff tl3 [L' + 1] := htl3 ▸ own_cons hD3 hg3
              clear F₁ N₁ F9 N9 htl3 hg1 hg2 hg3 hin2 hbs2
              ((try k_fold); k_steps)
              refine Stop.out ?_
              rename Fr g' L' _ _ => F9
              rename News g' L' _ _ => N9
              have ha : ∀ p ∈ (la, listOf #[] kl) :: (f, (⟨fc, fod, .func fd, fsl⟩ : Obj)) :: (c', oc) :: (cell, co) :: (dxs, strO w.params u (pb2) (f)) :: (xs, instObj 83 dxs) :: (239, tabObj #[rawInt 178, rawInt 4, .ref c']) :: rest, p ∈ tl3 := fun p hp => hbs3 p (hbase p hp)
              cases psi with
              | nil =>
                refine Con.useX (tok0_via w ((pb, listOf #[] npi) :: (dxl, lexO w.params t (1) (.ref xs) (pb)) :: (x, instObj 83 dxl) :: (hl, listOf (refsOf tups').toArray (kk + 1)) :: (hx, instObj 233 dx) :: (dx, hdrO w.params (tkh) (hl)) :: (L' + 1, o2) :: (R, listOf #[.ref T1, .ref T2] kR) :: (T1, tupO (.str p1 a1) (.str q1 b1)) :: (T2, tupO (.str p2 a2) (.str q2 b2)) :: tl3) x dxl pb xs dxs pb2 la f c' cell fc fod fd fsl oc co t u 1 kl npi hNS ?hb) B' F9 X' (News.sub N9 (by k_allIn)) T' rfl (by ktr_room) (by ktr_units) ?_
                case hb =>
                  have hm : ∀ p ∈ tl3, p ∈ ((pb, listOf #[] npi) :: (dxl, lexO w.params t (1) (.ref xs) (pb)) :: (x, instObj 83 dxl) :: (hl, listOf (refsOf tups').toArray (kk + 1)) :: (hx, instObj 233 dx) :: (dx, hdrO w.params (tkh) (hl)) :: (L' + 1, o2) :: (R, listOf #[.ref T1, .ref T2] kR) :: (T1, tupO (.str p1 a1) (.str q1 b1)) :: (T2, tupO (.str p2 a2) (.str q2 b2)) :: tl3) := fun p hp => by repeat' (first | exact hp | refine List.Mem.tail _ ?_)
                  exact fm_cons (hm _ (ha _ (by k_memK))) (fm_cons (hm _ (ha _ (by k_memK))) (fm_cons (hm _ (ha _ (by k_memK))) (fm_cons (hm _ (ha _ (by k_memK))) (fm_cons (by k_memK) (fm_cons (by k_memK) (fm_cons (hm _ (ha _ (by k_memK))) (fm_cons (hm _ (ha _ (by k_memK))) (fm_cons (by k_memK) (fun _ h => nomatch h)))))))))
                intro tt h' tk' F' N'
                try k_fold
                clear F9 N9
                ((try k_fold); k_steps)
                rename Fr g' L' _ _ => F9
                rename News g' L' _ _ => N9
                rename _ = Data.cell _ => d9
                exact ⟨_, _, _, _, n', rfl, F9, N9, Nat.lt_succ_self _, fun _ k => k tups' tl3 _ (kk + 1) (npi) [] _ _ _ ⟨rfl, rfl, rfl⟩ d9 hT3 hl4 hin3 hbs3 ⟨hk1, hk2, hk3⟩ hn rfl⟩
              | cons v r =>
                obtain ⟨v, tv⟩ := v
                refine Con.useE (pop_con w ((hl, listOf (refsOf tups').toArray (kk + 1)) :: (hx, instObj 233 dx) :: (dx, hdrO w.params (tkh) (hl)) :: (L' + 1, o2) :: (R, listOf #[.ref T1, .ref T2] kR) :: (T1, tupO (.str p1 a1) (.str q1 b1)) :: (T2, tupO (.str p2 a2) (.str q2 b2)) :: tl3) x dxl pb (.str v tv) (strValues r) npi t 1 (.ref xs) ?h1 ?h2 ?h3 ?h4) B' F9 X' (News.sub N9 (by k_allIn)) T' rfl (by ktr_room) (by ktr_units) ?_
                case h1 =>
                  intro p hp b hb
                  rw [List.mem_singleton.mp hb]
                  revert p
                  k_all
                case h2 => omega
                case h3 => omega
                case h4 =>
                  have hfl2 : (refsOf ft).length ≤ 2 := by rw [show (refsOf ft).length = ft.length from List.length_map .., htab.len]; exact hfl
                  simp only [List.length_cons] at hplen
                  simp only [strValues, List.length_cons, List.length_map]
                  omega
                intro h' tk' F' N'
                try k_fold
                clear F9 N9
                ((try k_fold); k_steps)
                rename Fr g' L' _ _ => F9
                rename News g' L' _ _ => N9
                rename _ = Data.cell _ => d9
                exact ⟨_, _, _, _, n', rfl, F9, N9, Nat.lt_succ_self _, fun _ k => k tups' tl3 _ (kk + 1) (npi + 1) r _ _ _ ⟨rfl, rfl, rfl⟩ d9 hT3 hl4 hin3 hbs3 ⟨hk1, hk2, hk3⟩ hn rfl⟩
end PD1
section PD2
theorem still_D2 : True := by
  w_top off
  trivial
open PySem.Spec PyProof.Rows PySem.Builtin PySem.Builtin.Str
/-! ## str.replace, once -/
def rep1 (x y z : Str) : Str := if ((occurrences x y 0 x.length 1).isEmpty || (y.length == 0 && z.length == 0)) = true then x else glued z (partsBetween x (occurrences x y 0 x.length 1) y.length)
theorem rep1_len (x y z : Str) (h : z.length ≤ y.length) : (rep1 x y z).length ≤ x.length := by
  unfold rep1
  split
  · exact Nat.le_refl _
  · have hy : (glued y (partsBetween x (occurrences x y 0 x.length 1) y.length)).length = x.length := by rw [StrLaws.glued_between_self]
    rw [size_glued, length_partsBetween, Nat.add_sub_cancel] at hy
    rw [size_glued, length_partsBetween, Nat.add_sub_cancel]
    have h2 : (occurrences x y 0 x.length 1).length * z.length ≤ (occurrences x y 0 x.length 1).length * y.length := Nat.mul_le_mul_left _ h
    omega
theorem gives_rep1 (x y z : Str) (t u v k : Tok) (h0 : (u == 0 || v == 0) = false) (huv : (u == v) = false) (hyz : (y == z) = false) (hl : tooLong (x.length + (occurrences x y 0 x.length 1).length * z.length) = false) :
    Gives (Builtin.«str.replace» ⟨[.str x t, .str y u, .str z v, .int 1 k], []⟩) (if ((occurrences x y 0 x.length 1).isEmpty || (y.length == 0 && z.length == 0)) = true then .val (.str x t) else .str (glued z (partsBetween x (occurrences x y 0 x.length 1) y.length))) := by
  show Gives (if ((occurrences x y 0 x.length 1).isEmpty || (y.length == 0 && z.length == 0)) = true then (do rule "str.replace.nothing"; ret (.str x t)) else
          (do let same ← isSame (.str y u) (.str z v)
              if same = true then (do rule "str.replace.old-is-new"; ret (.str x t)) else
              if tooLong (x.length + (occurrences x y 0 x.length 1).length * z.length) = true then unsupported "str.replace:memory" else
              retStr (glued z (partsBetween x (occurrences x y 0 x.length 1) y.length)))) _
  cases hc : ((occurrences x y 0 x.length 1).isEmpty || (y.length == 0 && z.length == 0))
  · rw [isSame_str_other y z u v h0 huv hyz, hl]
    exact .of_eq rfl
  · exact .rule (.of_eq rfl)
theorem replace1_K {prog : Program} {w : World} {A : Around} {E : Value → Shared → Prop} {s : Shared} {x y z : Str} {t u v k : Tok} {Q : Value → Shared → Prop} (hu : u ≠ 0) (hv : v ≠ 0) (huv : u ≠ v) (hyz : (y == z) = false) (hx : x.length ≤ 1000) (hz : z.length ≤ y.length) (hy : y.length ≤ 1000)
    (hq : ∀ t' k, Q (.str (rep1 x y z) t') { s with toks := k }) : wpAny (model prog w) A (call (.builtin "str.replace") [.str x t, .str y u, .str z v, .int 1 k]) Q E s := by
  have h1 := StrLaws.occ_length_le x y 0 x.length 1
  have h2 : (occurrences x y 0 x.length 1).length * z.length ≤ 1 * z.length := Nat.mul_le_mul_right _ h1
  have hl : tooLong (x.length + (occurrences x y 0 x.length 1).length * z.length) = false := by
    unfold tooLong
    rw [sizeLine_eq]
    exact decide_eq_false (by omega)
  refine call_gives F.slot_str_replace (typeIs_str _ _ _) F.entry_str_replace (F.args_str_replace_4 _ _ _ _)
    (gives_rep1 x y z t u v k (by simp [hu, hv]) (by simp [huv]) hyz hl) (post_val_or_made (fun hc => ?_) hq)
  have h3 := rep1_len x y z hz
  unfold rep1 at h3
  rw [if_neg hc] at h3
  rw [sizeLine_eq]; omega
def plainTurn (rules : List (Str × Str)) (word : Str) : Str := rules.foldl (fun x r => rep1 x r.1 r.2) word
def plainTo (rules : List (Str × Str)) (word : Str) : Nat → Str
  | 0 => word
  | n + 1 => plainTurn rules (plainTo rules word n)
def plainOf (rules : List (Str × Str)) (word : Str) : Str := plainTo rules word word.length
theorem foldl_take_succ {α β : Type} {l : List α} {i : Nat} {q : α} {f : β → α → β} {b : β} (h : l[i]? = some q) : (l.take (i + 1)).foldl f b = f ((l.take i).foldl f b) q := by
  rw [List.take_add_one, h, List.foldl_append]; rfl
/-- a rule as the ledger bears it -/
def RuleOk (p q : Str) (a b : Tok) : Prop := a ≠ 0 ∧ b ≠ 0 ∧ a ≠ b ∧ (p == q) = false ∧ q.length ≤ p.length ∧ p.length ≤ 10
local macro_rules | `(tactic| walk_at "exec For") => `(tactic| ((fail_if_success (have : Go 1 := by assumption)); refine Stop.mk ?_))
local macro_rules | `(tactic| walk_at "exec While") => `(tactic| ((fail_if_success (have : Go 1 := by assumption)); refine Stop.mk ?_))
local macro_rules | `(tactic| walk_at "pyIter ref") => `(tactic| (refine Stop.mk ?_))
local macro_rules | `(tactic| walk_at "call builtin:str.replace") => `(tactic| ((k_dflt refine replace1_K ?r1 ?r2 ?r3 ?r4 ?r5 ?r6 ?r7 ?_); (case r1 => assumption); (case r2 => assumption); (case r3 => assumption); (case r4 => assumption); (case r5 => omega); (case r6 => omega); (case r7 => omega); intro _ _))
set_option maxRecDepth 100000 in
set_option maxHeartbeats 0 in
theorem plain_con (w : World) (rest : List (Addr × Obj)) (R T1 T2 : Addr) (kR : Nat) (p1 q1 p2 q2 word : Str) (a1 b1 a2 b2 tw : Tok) (hr1 : RuleOk p1 q1 a1 b1) (hr2 : RuleOk p2 q2 a2 b2) (hw : word.length ≤ 20) :
   Con w (.ref 256) [.ref R, .str word tw] 1 1 ((R, listOf #[.ref T1, .ref T2] kR) :: (T1, tupO (.str p1 a1) (.str q1 b1)) :: (T2, tupO (.str p2 a2) (.str q2 b2)) :: rest)
     (fun news' r => news' = (R, listOf #[.ref T1, .ref T2] kR) :: (T1, tupO (.str p1 a1) (.str q1 b1)) :: (T2, tupO (.str p2 a2) (.str q2 b2)) :: rest ∧ ∃ t, r = .str (plainOf [(p1, q1), (p2, q2)] word) t) := by
  unfold Con
  k_fill
  intro p loose mean mg mb dp un gd cn csc a ccd cl outer A₀ base h₀ L m s Q E hB hF hX hN hT hck hdp hun hret
  (refine' code_def (binds := [("rules", .ref R), ("word", .str word tw)]) ?k1 ?k2 ?k3 ?k4 ?k5 ?kA ?kF ?kK ?k6 ?k7 ?k8 ?k9 ?kB ?_ ?c2 ?c3 ?c4 ?c5; (case kA => exact rfl); (case kF => exact rfl); (case kK => assumption); (case k1 => k_asm); (case k2 => k_asm); (case k3 => k_asm); (case k4 => k_asm); (case k5 => k_asm); (case k6 => k_is); (case k7 => k_is); (case k8 => ktr_room); (case k9 => first | exact BindsTo.of_eq rfl | exact binds_K (by k_in) rfl (by k_is) rfl rfl rfl); (case c5 => decide); (case kB => exact locs rfl); (case c2 => exact rfl); (case c3 => exact rfl); (case c4 => exact rfl); k_whole; intro g' L' h' FG' F' N' B' X' T'; (try dsimp only); (try k_lift B'); (try k_fold))
  k_steps
  refine Stop.out ?_
  rename Fr _ _ _ _ => F9
  rename News _ _ _ _ => N9
  refine rng0_iter word.length (fun k m nx => m "rules" = some (.ref R) ∧ ∃ wk tk, m "word" = some (.str wk tk) ∧ wk = plainTo [(p1, q1), (p2, q2)] word k ∧ wk.length ≤ word.length ∧ nx = (R, listOf #[.ref T1, .ref T2] kR) :: (T1, tupO (.str p1 a1) (.str q1 b1)) :: (T2, tupO (.str p2 a2) (.str q2 b2)) :: rest) rfl (by assumption) rfl (by omega) F9 N9 ⟨rfl, _, _, rfl, rfl, Nat.le_refl _, rfl⟩ ?turn ?done
  case turn =>
    rintro k tk4 m4 news4 h4 tkk own4 hk hoff4 hp90 F4 N4
    try k_fold
    obtain ⟨g1, wk, tk, g2, hwk, hwl, rfl⟩ := hp90
    have F5 := Fr.turn [("rules", .ref R), ("word", .str wk tk)] F4 (al_cons g1 (al_cons g2 al_nil))
    clear F4 F9 N9
    k_steps
    refine Stop.out ?_
    rename Fr g' L' _ _ => F9
    rename News g' L' _ _ => N9
    with_unfolding_all refine' For_turns F9 ?_ ?k1 ?k2
    case k1 => exact fun _ => rfl
    case k2 => passes_own
    k_steps
    refine Stop.out ?_
    refine kdt_iter (l := R) (vs := [.ref T1, .ref T2]) (nn := kR) (news := ((R, listOf #[.ref T1, .ref T2] kR) :: (T1, tupO (.str p1 a1) (.str q1 b1)) :: (T2, tupO (.str p2 a2) (.str q2 b2)) :: rest) ++ own4) (fun i m nx => m "rules" = some (.ref R) ∧ ∃ wi ti, m "word" = some (.str wi ti) ∧ wi = ([(p1, q1), (p2, q2)].take i).foldl (fun x r => rep1 x r.1 r.2) wk ∧ wi.length ≤ wk.length ∧
      nx = ((R, listOf #[.ref T1, .ref T2] kR) :: (T1, tupO (.str p1 a1) (.str q1 b1)) :: (T2, tupO (.str p2 a2) (.str q2 b2)) :: rest) ++ own4) rfl (.head _) F9 N9 ⟨rfl, _, _, rfl, rfl, Nat.le_refl _, rfl⟩ ?turn2 ?done2
    case turn2 =>
      rintro i v m₁ news₁ h tk own hv hoff _ hp90 F₁ N₁
      try k_fold
      obtain ⟨g1, wi, ti, g2, hwi, hil, rfl⟩ := hp90
      obtain ⟨T, p, q, a, b, rfl, hT, hro, hri⟩ : ∃ T p q a b, v = .ref T ∧ (T, tupO (.str p a) (.str q b)) ∈ (R, listOf #[.ref T1, .ref T2] kR) :: (T1, tupO (.str p1 a1) (.str q1 b1)) :: (T2, tupO (.str p2 a2) (.str q2 b2)) :: rest ∧ RuleOk p q a b ∧ [(p1, q1), (p2, q2)][i]? = some (p, q) := by
        match i, hv with
        | 0, hv => exact ⟨_, _, _, _, _, (Option.some.inj hv).symm, .tail _ (.head _), hr1, rfl⟩
        | 1, hv => exact ⟨_, _, _, _, _, (Option.some.inj hv).symm, .tail _ (.tail _ (.head _)), hr2, rfl⟩
      have htk := foldl_take_succ (f := fun (x : Str) (r : Str × Str) => rep1 x r.1 r.2) (b := wk) hri
      rw [← hwi] at htk
      dsimp only at htk
      obtain ⟨r1, r2, r3, r4, r5, r6⟩ := hro
      have hrl := rep1_len wi p q r5
      have F2 := Fr.al [("rules", .ref R), ("word", .str wi ti)] F₁ (al_cons g1 (al_cons g2 al_nil))
      have N2 := News.sub (new := (T, tupO (.str p a) (.str q b)) :: (((R, listOf #[.ref T1, .ref T2] kR) :: (T1, tupO (.str p1 a1) (.str q1 b1)) :: (T2, tupO (.str p2 a2) (.str q2 b2)) :: rest) ++ own4) ++ own) N₁ (fun z hz => by
        rcases List.mem_cons.mp hz with rfl | hz
        · exact List.mem_append_left _ (List.mem_append_left _ hT)
        · exact hz)
      clear F₁ F9 N9 N₁
      k_steps
      exact InvEndG.intro (nx := ((R, listOf #[.ref T1, .ref T2] kR) :: (T1, tupO (.str p1 a1) (.str q1 b1)) :: (T2, tupO (.str p2 a2) (.str q2 b2)) :: rest) ++ own4) (by assumption) (by assumption) ⟨List.Mem.head _, rfl, _, _, rfl, htk.symm, by omega, rfl⟩ hoff (fun z hz => .tail _ (List.mem_append_left own hz)) (fun z hz => .tail _ (List.mem_append_right _ hz))
    case done2 =>
      rintro m₁ news₁ h tk hp90 F₁ N₁
      try k_fold
      obtain ⟨g1, wi, ti, g2, hwi, hil, rfl⟩ := hp90
      clear F9 N9
      k_steps
      exact InvEndG.intro (nx := (R, listOf #[.ref T1, .ref T2] kR) :: (T1, tupO (.str p1 a1) (.str q1 b1)) :: (T2, tupO (.str p2 a2) (.str q2 b2)) :: rest) F₁ N₁ ⟨g1, wi, ti, g2, by rw [hwi, hwk]; rfl, by omega, rfl⟩ hoff4 (fun z hz => List.mem_append_left own4 hz) (fun z hz => List.mem_append_right _ hz)
  case done =>
    rintro m4 news4 h4 tkk hp90 F4 N4
    try k_fold
    obtain ⟨g1, wk, tk, g2, hwk, hwl, rfl⟩ := hp90
    have F5 := Fr.al [("rules", .ref R), ("word", .str wk tk)] F4 (al_cons g1 (al_cons g2 al_nil))
    clear F4 F9 N9
    k_steps
    exact hret _ _ _ _ (by assumption) (by assumption) ⟨rfl, _, by rw [hwk]; rfl⟩
end PD2
section PD3
theorem still_D3 : True := by
  w_top off
  trivial
local macro_rules | `(tactic| walk_at "idle 0") => `(tactic| fail)
local macro_rules | `(tactic| walk_at "idle 1") => `(tactic| fail)
local macro_rules | `(tactic| walk_at "idle 2") => `(tactic| fail)
local macro_rules | `(tactic| walk_at "idle 3") => `(tactic| fail)
local macro_rules | `(tactic| walk_at "idle 4") => `(tactic| fail)
open PySem.Spec PyProof.Rows
/-! ## _law_agree -/
def agree1 (rules : List (Str × Str)) (r r' : Str × Str) : Bool := !(Txt.item r.1 1 == Txt.item r'.1 0 && !(plainOf rules (r.2 ++ Txt.item r'.1 1) == plainOf rules (Txt.item r.1 0 ++ r'.2)))
def agreeOf (rules : List (Str × Str)) : Bool := rules.all fun r => rules.all fun r' => agree1 rules r r'
theorem all_take_succ {α : Type} {l : List α} {i : Nat} {q : α} {f : α → Bool} (h : l[i]? = some q) : (l.take (i + 1)).all f = ((l.take i).all f && f q) := by
  rw [List.take_add_one, h, List.all_append]; simp
theorem agree_no {rules : List (Str × Str)} {i j : Nat} {r r' : Str × Str} (h : rules[i]? = some r) (h' : rules[j]? = some r') (ha : agree1 rules r r' = false) : agreeOf rules = false := by
  cases e : agreeOf rules with
  | false => rfl
  | true =>
    have h1 := List.all_eq_true.mp e r (List.mem_of_getElem? h)
    have h2 := List.all_eq_true.mp h1 r' (List.mem_of_getElem? h')
    rw [ha] at h2; cases h2
local macro_rules | `(tactic| walk_at "exec For") => `(tactic| ((fail_if_success (have : Go 1 := by assumption)); refine Stop.mk ?_))
local macro_rules | `(tactic| walk_at "exec While") => `(tactic| ((fail_if_success (have : Go 1 := by assumption)); refine Stop.mk ?_))
local macro_rules | `(tactic| walk_at "call ref") => `(tactic| ((first | (with_reducible show wpAny _ _ (call (Value.ref 256) _) _ _ _) | (with_reducible show wpAny _ _ (call (Value.ref 256) _ _) _ _ _)); refine Stop.mk ?_))
local macro_rules | `(tactic| walk_at "pyIter ref") => `(tactic| (refine Stop.mk ?_))
set_option maxRecDepth 100000 in
set_option maxHeartbeats 0 in
theorem agree_con (w : World) (rest : List (Addr × Obj)) (R T1 T2 : Addr) (kR : Nat) (p1 q1 p2 q2 : Str) (a1 b1 a2 b2 : Tok) (hr1 : RuleOk p1 q1 a1 b1) (hr2 : RuleOk p2 q2 a2 b2) (hp1 : p1.length = 2) (hp2 : p2.length = 2) :
   Con w (.ref 263) [.ref R] 3 3 ((R, listOf #[.ref T1, .ref T2] kR) :: (T1, tupO (.str p1 a1) (.str q1 b1)) :: (T2, tupO (.str p2 a2) (.str q2 b2)) :: rest)
     (fun news' r => news' = (R, listOf #[.ref T1, .ref T2] kR) :: (T1, tupO (.str p1 a1) (.str q1 b1)) :: (T2, tupO (.str p2 a2) (.str q2 b2)) :: rest ∧ r = .bool (agreeOf [(p1, q1), (p2, q2)])) := by
  obtain ⟨LED, hLED⟩ : ∃ z, z = (R, listOf #[.ref T1, .ref T2] kR) :: (T1, tupO (.str p1 a1) (.str q1 b1)) :: (T2, tupO (.str p2 a2) (.str q2 b2)) :: rest := ⟨_, rfl⟩
  have hR : (R, listOf #[.ref T1, .ref T2] kR) ∈ LED := hLED ▸ .head _
  have hpick : ∀ (i : Nat) v, [Value.ref T1, Value.ref T2][i]? = some v → ∃ T p q a b, v = .ref T ∧ (T, tupO (.str p a) (.str q b)) ∈ LED ∧ RuleOk p q a b ∧ p.length = 2 ∧ [(p1, q1), (p2, q2)][i]? = some (p, q) := by
    intro i v hv
    rw [hLED]
    match i, hv with
    | 0, hv => exact ⟨_, _, _, _, _, (Option.some.inj hv).symm, .tail _ (.head _), hr1, hp1, rfl⟩
    | 1, hv => exact ⟨_, _, _, _, _, (Option.some.inj hv).symm, .tail _ (.tail _ (.head _)), hr2, hp2, rfl⟩
  have ht1 : (T1, tupO (.str p1 a1) (.str q1 b1)) ∈ LED := hLED ▸ .tail _ (.head _)
  have ht2 : (T2, tupO (.str p2 a2) (.str q2 b2)) ∈ LED := hLED ▸ .tail _ (.tail _ (.head _))
  obtain ⟨RL, hRL⟩ : ∃ z, z = [(p1, q1), (p2, q2)] := ⟨_, rfl⟩
  rw [← hRL] at hpick
  rw [← hLED, ← hRL]
  have hlen : RL.length = 2 := by rw [hRL]; rfl
  have hpl : ∀ (rest : List (Addr × Obj)) (word : Str) (tw : Tok), word.length ≤ 20 → Con w (.ref 256) [.ref R, .str word tw] 1 1 ((R, listOf #[.ref T1, .ref T2] kR) :: (T1, tupO (.str p1 a1) (.str q1 b1)) :: (T2, tupO (.str p2 a2) (.str q2 b2)) :: rest) (fun news' r => news' = (R, listOf #[.ref T1, .ref T2] kR) :: (T1, tupO (.str p1 a1) (.str q1 b1)) :: (T2, tupO (.str p2 a2) (.str q2 b2)) :: rest ∧ ∃ t, r = .str (plainOf RL word) t) := fun rest word tw hw => hRL ▸ plain_con w rest R T1 T2 kR p1 q1 p2 q2 word a1 b1 a2 b2 tw hr1 hr2 hw
  unfold Con
  k_fill
  intro p loose mean mg mb dp un gd cn csc a ccd cl outer A₀ base h₀ L m s Q E hB hF hX hN hT hck hdp hun hret
  (refine' code_def (binds := [("rules", .ref R)]) ?k1 ?k2 ?k3 ?k4 ?k5 ?kA ?kF ?kK ?k6 ?k7 ?k8 ?k9 ?kB ?_ ?c2 ?c3 ?c4 ?c5; (case kA => exact rfl); (case kF => exact rfl); (case kK => assumption); (case k1 => k_asm); (case k2 => k_asm); (case k3 => k_asm); (case k4 => k_asm); (case k5 => k_asm); (case k6 => k_is); (case k7 => k_is); (case k8 => ktr_room); (case k9 => first | exact BindsTo.of_eq rfl | exact binds_K (by k_in) rfl (by k_is) rfl rfl rfl); (case c5 => decide); (case kB => exact locs rfl); (case c2 => exact rfl); (case c3 => exact rfl); (case c4 => exact rfl); k_whole; intro g' L' h' FG' F' N' B' X' T'; (try dsimp only); (try k_lift B'); (try k_fold))
  k_steps
  refine Stop.out ?_
  rename Fr _ _ _ _ => F9
  rename News _ _ _ _ => N9
  with_unfolding_all refine' For_turns F9 ?_ ?k1 ?k2
  case k1 => exact fun _ => rfl
  case k2 => passes_own
  k_steps
  refine Stop.out ?_
  refine kdt_iter (l := R) (vs := [.ref T1, .ref T2]) (nn := kR) (news := LED) (fun i m nx => m "rules" = some (.ref R) ∧ (RL.take i).all (fun r => RL.all fun r' => agree1 RL r r') = true ∧ nx = LED) rfl hR F9 N9 ⟨rfl, by rw [List.take_zero]; rfl, rfl⟩ ?turn ?done
  case turn =>
    rintro i v m₁ news₁ h tk own hv hoff _ hp90 F₁ N₁
    try k_fold
    obtain ⟨g1, hal, rfl⟩ := hp90
    obtain ⟨T, p, q, a, b, rfl, hT, hro, hp2, hri⟩ := hpick i v hv
    have F2 := Fr.al [("rules", .ref R)] F₁ (al_cons g1 al_nil)
    have N2 := News.sub (new := (T, tupO (.str p a) (.str q b)) :: news₁ ++ own) N₁ (fun z hz => by
      rcases List.mem_cons.mp hz with rfl | hz
      · exact List.mem_append_left _ hT
      · exact hz)
    clear F₁ F9 N9 N₁
    k_steps
    refine Stop.out ?_
    rename Fr g' L' _ _ => F9
    rename News g' L' _ _ => N9
    with_unfolding_all refine' For_turns F9 ?_ ?k1 ?k2
    case k1 => exact fun _ => rfl
    case k2 => passes_own
    k_steps
    refine Stop.out ?_
    refine kdt_iter (l := R) (vs := [.ref T1, .ref T2]) (nn := kR) (news := news₁ ++ own) (fun j m nx => m "rules" = some (.ref R) ∧ m "pair" = some (.str p a) ∧ m "put" = some (.str q b) ∧ (RL.take j).all (fun r' => agree1 RL (p, q) r') = true ∧ nx = news₁ ++ own) rfl (List.mem_append_left _ hR) F9 (fun p hp => N9 p (.tail _ hp)) ⟨rfl, rfl, rfl, by rw [List.take_zero]; rfl, rfl⟩ ?turn2 ?done2
    case turn2 =>
      rintro j v m₁ news₂ h tk own2 hv2 hoff2 _ hp90 F₁ N₁
      try k_fold
      obtain ⟨g1, g2, g3, hal2, rfl⟩ := hp90
      obtain ⟨Ta, p', q', a', b', rfl, hT', hro', hp2', hri'⟩ := hpick j v hv2
      have F2 := Fr.al [("rules", .ref R), ("pair", .str p a), ("put", .str q b)] F₁ (al_cons g1 (al_cons g2 (al_cons g3 al_nil)))
      have N2 := News.sub (new := (Ta, tupO (.str p' a') (.str q' b')) :: (news₁ ++ own) ++ own2) N₁ (fun z hz => by
        rcases List.mem_cons.mp hz with rfl | hz
        · exact List.mem_append_left _ (List.mem_append_left _ hT')
        · exact hz)
      clear F₁ F9 N9 N₁
      have e1 := hro.2.2.2.2.1
      have e2 := hro'.2.2.2.2.1
      have e3 : (Txt.item p' 1).length = 1 := rfl
      have e4 : (Txt.item p 0).length = 1 := rfl
      have htk := all_take_succ (f := fun r' => agree1 RL (p, q) r') hri'
      rw [hal2, Bool.true_and] at htk
      (try dsimp only at htk)
      k_steps
      · refine Stop.out ?_
        rename (Txt.item p 1 == _) = true => hc1
        rename Fr g' L' _ _ => F9
        rename News g' L' _ _ => N9
        refine Con.useX (hpl _ _ _ (by simp only [Str.length_append]; omega)) B' F9 X' (News.sub (new := (R, listOf #[.ref T1, .ref T2] kR) :: (T1, tupO (.str p1 a1) (.str q1 b1)) :: (T2, tupO (.str p2 a2) (.str q2 b2)) :: (Ta, tupO (.str p' a') (.str q' b')) :: (T, tupO (.str p a) (.str q b)) :: (news₁ ++ own ++ own2)) N9 ?s1) T' rfl (by ktr_room) (by ktr_units) ?_
        case s1 =>
          exact fm_cons (.tail _ (List.mem_append_left _ (List.mem_append_left _ hR))) (fm_cons (.tail _ (List.mem_append_left _ (List.mem_append_left _ ht1))) (fm_cons (.tail _ (List.mem_append_left _ (List.mem_append_left _ ht2))) (fm_cons (.head _) (fm_cons (.tail _ (List.mem_append_left _ (List.mem_append_left _ hT))) (fun _ h => .tail _ h)))))
        intro t1 h' tk' F' N'
        try k_fold
        clear F9 N9
        k_steps
        refine Stop.out ?_
        rename Fr g' L' _ _ => F9
        rename News g' L' _ _ => N9
        refine Con.useX (hpl _ _ _ (by simp only [Str.length_append]; omega)) B' F9 X' N9 T' rfl (by ktr_room) (by ktr_units) ?_
        intro t2 h' tk' F' N'
        try k_fold
        clear F9 N9
        obtain ⟨x1, hx1⟩ : ∃ z, z = plainOf RL (q ++ Txt.item p' 1) := ⟨_, rfl⟩
        obtain ⟨x2, hx2⟩ : ∃ z, z = plainOf RL (Txt.item p 0 ++ q') := ⟨_, rfl⟩
        try k_unfold
        try dsimp only
        rw [← hx1, ← hx2]
        have hag : agree1 RL (p, q) (p', q') = (x1 == x2) := by
          unfold agree1
          rw [show (p, q).1 = p from rfl, show (p', q').1 = p' from rfl, show (p, q).2 = q from rfl, show (p', q').2 = q' from rfl, hc1, ← hx1, ← hx2]
          simp
        k_steps
        · rename (x1 != x2) = true => hne
          have hf : agree1 RL (p, q) (p', q') = false := by rw [hag]; simpa using hne
          exact hret _ _ _ _ (by assumption) (News.sub (by assumption) (fun z hz => .tail _ (.tail _ (.tail _ (.tail _ (.tail _ (List.mem_append_left _ (List.mem_append_left _ hz)))))))) ⟨rfl, by rw [agree_no hri hri' hf]⟩
        · rename (x1 != x2) = false => hne
          have hf : agree1 RL (p, q) (p', q') = true := by rw [hag]; simpa using hne
          exact InvEndG.intro (nx := news₁ ++ own) (by assumption) (by assumption) ⟨List.mem_append_left _ hR, rfl, rfl, rfl, by rw [htk, hf], rfl⟩ hoff2 (fun z hz => .tail _ (.tail _ (.tail _ (.tail _ (.tail _ (List.mem_append_left own2 hz)))))) (fun z hz => .tail _ (.tail _ (.tail _ (.tail _ (.tail _ (List.mem_append_right _ hz))))))
      · rename (Txt.item p 1 == _) = false => hc1
        exact InvEndG.intro (nx := news₁ ++ own) (by assumption) (by assumption) ⟨List.mem_append_left _ hR, rfl, rfl, rfl, by rw [htk]; unfold agree1; rw [hc1]; rfl, rfl⟩ hoff2 (fun z hz => .tail _ (List.mem_append_left own2 hz)) (fun z hz => .tail _ (List.mem_append_right _ hz))
    case done2 =>
      rintro m₁ news₂ h tk hp90 F₁ N₁
      try k_fold
      obtain ⟨g1, g2, g3, hal2, rfl⟩ := hp90
      clear F9 N9
      rw [List.take_of_length_le (by rw [hlen]; exact Nat.le_refl _)] at hal2
      k_steps
      exact InvEndG.intro (nx := news₁) F₁ N₁ ⟨hR, g1, by rw [all_take_succ hri, hal, hal2]; rfl, rfl⟩ hoff (fun z hz => List.mem_append_left own hz) (fun z hz => List.mem_append_right _ hz)
  case done =>
    rintro m₁ news₁ h tk hp90 F₁ N₁
    try k_fold
    obtain ⟨g1, hal, rfl⟩ := hp90
    rw [List.take_of_length_le (by rw [hlen]; exact Nat.le_refl _)] at hal
    have F2 := Fr.al [("rules", .ref R)] F₁ (al_cons g1 al_nil)
    clear F9 N9 F₁
    k_steps
    exact hret _ _ _ _ (by assumption) (by assumption) ⟨rfl, by rw [show agreeOf RL = true from hal]⟩
end PD3
section PP3
theorem still_P3 : True := by
  w_top off
  trivial
open PySem.Spec PyProof.Rows
set_option maxRecDepth 100000
/-! ## plain law 2, on lists of bools (true: the mark) -/
def cB (b : Bool) : Nat := if b then 34 else 32
def encW (w : List Bool) : Str := ⟨((60 : Nat) :: (w.map cB ++ [62])).toArray⟩
def encP (p : Bool × Bool) : Str := ⟨#[cB p.1, cB p.2]⟩
def encQ (q : Option Bool) : Str := ⟨(q.toList.map cB).toArray⟩
abbrev RB := (Bool × Bool) × Option Bool
def encR (r : RB) : Str × Str := (encP r.1, encQ r.2)
def encL (p : List Bool × Bool) : Str × Str := (encW p.1, if p.2 then Str.ofString "end" else Str.ofString "on")
def encO : Option (List Bool) → Str
  | none => Str.ofString ""
  | some w => encW w
def postsB (p : Bool × Bool) (q : Option Bool) : List Bool → List Bool → List (List Bool)
  | pre, a :: b :: r => (if a == p.1 && b == p.2 then [pre ++ q.toList ++ r] else []) ++ postsB p q (pre ++ [a]) (b :: r)
  | _, _ => []
def emB (p : Bool × Bool) : List Bool → Bool
  | a :: b :: r => (a == p.1 && b == p.2) || emB p (b :: r)
  | _ => false
def runB (rules : List RB) : Nat → List (List Bool × Bool) → List (List Bool) → Option (List Bool) → Option (List (List Bool × Bool))
  | 0, _, _, _ => none
  | _ + 1, l, _, none => some l
  | n + 1, l, ps, some w =>
    if Nat.ble l.length 300 && Nat.ble ps.length 500 && Nat.ble w.length 5 then
      if l.any (fun p => p.1 == w) then
        match ps with
        | [] => runB rules n l [] none
        | v :: r => runB rules n l r (some v)
      else
        match ps ++ (rules.filter fun r => emB r.1 w).flatMap (fun r => postsB r.1 r.2 [] w) with
        | [] => runB rules n (l ++ [(w, (rules.filter fun r => emB r.1 w).isEmpty)]) [] none
        | v :: r => runB rules n (l ++ [(w, (rules.filter fun r => emB r.1 w).isEmpty)]) r (some v)
    else none
def allW : Nat → List (List Bool)
  | 0 => [[]]
  | n + 1 => [] :: (allW n).flatMap fun w => [false :: w, true :: w]
theorem mem_allW : ∀ {n : Nat} {w : List Bool}, w.length ≤ n → w ∈ allW n
  | 0, [], _ => .head _
  | _ + 1, [], _ => .head _
  | n + 1, b :: w, h => by
    refine .tail _ (List.mem_flatMap.mpr ⟨w, mem_allW (by simpa using h), ?_⟩)
    cases b
    · exact .head _
    · exact .tail _ (.head _)
def allP : List (Bool × Bool) := [(false, false), (false, true), (true, false), (true, true)]
def allQ : List (Option Bool) := [none, some false, some true]
theorem mem_allP : ∀ p : Bool × Bool, p ∈ allP := by rintro ⟨a, b⟩; cases a <;> cases b <;> simp [allP]
theorem mem_allQ : ∀ q : Option Bool, q ∈ allQ := by intro q; cases q with | none => simp [allQ] | some b => cases b <;> simp [allQ]
theorem tabE : (allW 5).all (fun w => safeB (encW w) && allP.all fun p => em1 (encP p) (encW w) == emB p w) = true := by decide +kernel
theorem tabP : (allW 5).all (fun w => allP.all fun p => allQ.all fun q => posts (encP p) (encQ q) (encW w) == (postsB p q [] w).map encW) = true := by decide +kernel
theorem em_enc {w : List Bool} (h : w.length ≤ 5) (p : Bool × Bool) : em1 (encP p) (encW w) = emB p w := by
  have h1 := List.all_eq_true.mp tabE w (mem_allW h)
  rw [Bool.and_eq_true] at h1
  exact eq_of_beq (List.all_eq_true.mp h1.2 p (mem_allP p))
theorem safe_enc {w : List Bool} (h : w.length ≤ 5) : safeB (encW w) = true := by
  have h1 := List.all_eq_true.mp tabE w (mem_allW h)
  rw [Bool.and_eq_true] at h1
  exact h1.1
theorem posts_enc {w : List Bool} (h : w.length ≤ 5) (p : Bool × Bool) (q : Option Bool) : posts (encP p) (encQ q) (encW w) = (postsB p q [] w).map encW :=
  eq_of_beq (List.all_eq_true.mp (List.all_eq_true.mp (List.all_eq_true.mp tabP w (mem_allW h)) p (mem_allP p)) q (mem_allQ q))
theorem encW_len (w : List Bool) : (encW w).length = w.length + 2 := by simp [encW, Str.length]
theorem cB_inj {a b : Bool} (h : cB a = cB b) : a = b := by cases a <;> cases b <;> first | rfl | (exact absurd h (by decide))
theorem encW_inj {v w : List Bool} (h : encW v = encW w) : v = w := by
  have h1 := congrArg (fun s : Str => s.cps.toList) h
  simp only [encW] at h1
  have h2 : v.map cB ++ [62] = w.map cB ++ [62] := (List.cons.inj h1).2
  have h3 := List.append_cancel_right h2
  exact (List.map_inj_right (f := cB) (fun _ _ => cB_inj)).mp h3
theorem encW_beq (v w : List Bool) : (encW v == encW w) = (v == w) := by
  by_cases h : v = w
  · subst h; simp
  · have h1 : ¬ encW v = encW w := fun e => h (encW_inj e)
    rw [beq_eq_false_iff_ne.mpr h1, beq_eq_false_iff_ne.mpr h]
theorem encW_ne (w : List Bool) : encW w ≠ Str.ofString "" := fun h => by
  have := congrArg Str.length h
  rw [encW_len] at this
  exact absurd this (by rw [show (Str.ofString "").length = 0 from rfl]; omega)
theorem any_enc (l : List (List Bool × Bool)) (w : List Bool) : (l.map encL).any (fun p => p.1 == encW w) = l.any (fun p => p.1 == w) := by
  rw [List.any_map]
  congr 1
  funext p
  exact encW_beq p.1 w
theorem fit_enc {w : List Bool} (h : w.length ≤ 5) (rules : List RB) : fitOf (rules.map encR) (encW w) = (rules.filter fun r => emB r.1 w).map encR := by
  unfold fitOf
  rw [List.filter_map]
  congr 1
  refine List.filter_congr fun r _ => ?_
  exact em_enc h r.1
theorem flag_enc (fit : List RB) : flagOf (fit.map encR) = if fit.isEmpty then Str.ofString "end" else Str.ofString "on" := by
  unfold flagOf
  rw [List.isEmpty_map]
theorem flat_enc {w : List Bool} (h : w.length ≤ 5) (fit : List RB) : (fit.map encR).flatMap (fun r => posts r.1 r.2 (encW w)) = (fit.flatMap fun r => postsB r.1 r.2 [] w).map encW := by
  rw [List.flatMap_map, List.map_flatMap]
  congr 1
  funext r
  exact posts_enc h r.1 r.2
theorem run_enc (rules : List RB) : ∀ (n : Nat) (l : List (List Bool × Bool)) (ps : List (List Bool)) (w : Option (List Bool)) (fin : List (List Bool × Bool)), runB rules n l ps w = some fin →
    endsRun (rules.map encR) n (l.map encL) (ps.map encW) (encO w) = some (fin.map encL)
  | 0, _, _, _, _, h => by cases h
  | n + 1, l, ps, none, fin, h => by
    unfold runB at h
    unfold endsRun
    rw [show encO none = Str.ofString "" from rfl, if_pos rfl, Option.some.inj h]
  | n + 1, l, ps, some w, fin, h => by
    unfold runB at h
    by_cases hc : (Nat.ble l.length 300 && Nat.ble ps.length 500 && Nat.ble w.length 5) = true
    · rw [if_pos hc] at h
      simp only [Bool.and_eq_true, Nat.ble_eq] at hc
      obtain ⟨⟨h1, h2⟩, h3⟩ := hc
      have hok : okB (l.map encL) (ps.map encW) (encW w) = true := by
        simp only [okB, Bool.and_eq_true, decide_eq_true_eq, List.length_map, encW_len]
        exact ⟨⟨⟨h1, h2⟩, by omega⟩, safe_enc h3⟩
      unfold endsRun
      rw [show encO (some w) = encW w from rfl, if_neg (encW_ne w), if_pos hok, any_enc]
      by_cases ha : l.any (fun p => p.1 == w) = true
      · rw [if_pos ha] at h ⊢
        cases ps with
        | nil => exact run_enc rules n l [] none fin h
        | cons v r => exact run_enc rules n l r (some v) fin h
      · rw [if_neg ha] at h ⊢
        rw [fit_enc h3, flag_enc, flat_enc h3, ← List.map_append]
        have hl : ∀ e : Bool, l.map encL ++ [(encW w, if e = true then Str.ofString "end" else Str.ofString "on")] = (l ++ [(w, e)]).map encL := fun e => by rw [List.map_append]; rfl
        rw [hl]
        generalize ps ++ (rules.filter fun r => emB r.1 w).flatMap (fun r => postsB r.1 r.2 [] w) = z at h ⊢
        cases z with
        | nil => exact run_enc rules n _ [] none fin h
        | cons v r => exact run_enc rules n _ r (some v) fin h
    · rw [if_neg hc] at h; cases h
def sg2 : List Bool := [false, true]
def starts3 : List (List Bool) := sg2.flatMap fun a => sg2.flatMap fun b => sg2.map fun c => [a, b, c]
def longs5 : List (List Bool) := sg2.flatMap fun e => sg2.flatMap fun d => sg2.flatMap fun c => sg2.flatMap fun b => sg2.map fun a => [a, b, c, d, e]
def runOf (rules : List RB) (w : List Bool) : Option (List (List Bool × Bool)) := runB rules 40 [] [] (some w)
def endsB (fin : List (List Bool × Bool)) : List (List Bool) := (fin.filter fun p => p.2).map (·.1)
def oneB (rules : List RB) (w : List Bool) : Bool := match runOf rules w with | some fin => (endsB fin).length == 1 | none => false
/-- plain replacing on bools -/
def repB (p : Bool × Bool) (q : Option Bool) : List Bool → List Bool
  | a :: b :: r => if a == p.1 && b == p.2 then q.toList ++ r else a :: repB p q (b :: r)
  | w => w
def turnB (rules : List RB) (w : List Bool) : List Bool := rules.foldl (fun x r => repB r.1 r.2 x) w
def plainB (rules : List RB) (w : List Bool) : Nat → List Bool
  | 0 => w
  | n + 1 => turnB rules (plainB rules w n)
def plainW (rules : List RB) (w : List Bool) : List Bool := plainB rules w w.length
def agreeB (rules : List RB) : Bool := rules.all fun r => rules.all fun r' => !(r.1.2 == r'.1.1 && !(plainW rules (r.2.toList ++ [r'.1.2]) == plainW rules ([r.1.1] ++ r'.2.toList)))
def chk (rules : List RB) : Bool := (starts3.all fun w => (runOf rules w).isSome) && ((starts3.all (oneB rules)) == agreeB rules) && (!(agreeB rules) || longs5.all fun l => match runOf rules l with | some fin => endsB fin == [plainW rules l] | none => false)
def pB (f : Nat) : Bool × Bool := (f / 2 == 1, f % 2 == 1)
def qB (p : Nat) : Option Bool := if p = 0 then none else some (p == 2)
def rulesB (f s p q : Nat) : List RB := [(pB f, qB p), (pB ((f + 1 + s) % 4), qB q)]
theorem chk0 : (List.range 3).all (fun s => (List.range 3).all fun p => (List.range 3).all fun q => chk (rulesB 0 s p q)) = true := by decide +kernel
theorem chk1 : (List.range 3).all (fun s => (List.range 3).all fun p => (List.range 3).all fun q => chk (rulesB 1 s p q)) = true := by decide +kernel
theorem chk2 : (List.range 3).all (fun s => (List.range 3).all fun p => (List.range 3).all fun q => chk (rulesB 2 s p q)) = true := by decide +kernel
theorem chk3 : (List.range 3).all (fun s => (List.range 3).all fun p => (List.range 3).all fun q => chk (rulesB 3 s p q)) = true := by decide +kernel
end PP3
section PP4
theorem still_P4 : True := by
  w_top off
  trivial
open PySem.Spec PyProof.Rows
set_option maxRecDepth 100000
def encS (w : List Bool) : Str := ⟨(w.map cB).toArray⟩
theorem encS_inj {v w : List Bool} (h : encS v = encS w) : v = w := by
  have h1 := congrArg (fun s : Str => s.cps.toList) h
  simp only [encS] at h1
  exact (List.map_inj_right (f := cB) (fun _ _ => cB_inj)).mp h1
theorem encS_beq (v w : List Bool) : (encS v == encS w) = (v == w) := by
  by_cases h : v = w
  · subst h; simp
  · have h1 : ¬ encS v = encS w := fun e => h (encS_inj e)
    rw [beq_eq_false_iff_ne.mpr h1, beq_eq_false_iff_ne.mpr h]
theorem encS_len (w : List Bool) : (encS w).length = w.length := by simp [encS, Str.length]
theorem encS_app (v w : List Bool) : encS v ++ encS w = encS (v ++ w) := by
  show (⟨(v.map cB).toArray ++ (w.map cB).toArray⟩ : Str) = ⟨((v ++ w).map cB).toArray⟩
  rw [List.map_append, List.append_toArray]
theorem encW_eq (w : List Bool) : Str.ofString "<" ++ encS w ++ Str.ofString ">" = encW w := by
  have h1 : Str.ofString "<" = ⟨[60].toArray⟩ := by decide +kernel
  have h2 : Str.ofString ">" = ⟨[62].toArray⟩ := by decide +kernel
  rw [h1, h2]
  show (⟨[60].toArray ++ (w.map cB).toArray ++ [62].toArray⟩ : Str) = ⟨(60 :: (w.map cB ++ [62])).toArray⟩
  simp
theorem tabR : (allW 5).all (fun w => allP.all fun p => allQ.all fun q => rep1 (encS w) (encP p) (encQ q) == encS (repB p q w)) = true := by decide +kernel
theorem rep_enc {w : List Bool} (h : w.length ≤ 5) (p : Bool × Bool) (q : Option Bool) : rep1 (encS w) (encP p) (encQ q) = encS (repB p q w) :=
  eq_of_beq (List.all_eq_true.mp (List.all_eq_true.mp (List.all_eq_true.mp tabR w (mem_allW h)) p (mem_allP p)) q (mem_allQ q))
theorem toList_le (q : Option Bool) : q.toList.length ≤ 1 := by cases q <;> simp
theorem repB_len (p : Bool × Bool) (q : Option Bool) : ∀ w : List Bool, (repB p q w).length ≤ w.length
  | [] => Nat.le_refl _
  | [_] => Nat.le_refl _
  | a :: b :: r => by
    unfold repB
    split
    · have := toList_le q
      simp only [List.length_append, List.length_cons]; omega
    · have := repB_len p q (b :: r)
      simp only [List.length_cons] at this ⊢; omega
theorem turn_enc (rules : List RB) : ∀ {w : List Bool}, w.length ≤ 5 → plainTurn (rules.map encR) (encS w) = encS (turnB rules w) ∧ (turnB rules w).length ≤ w.length := by
  induction rules with
  | nil => intro w h; exact ⟨rfl, Nat.le_refl _⟩
  | cons r rs ih =>
    intro w h
    have h1 := repB_len r.1 r.2 w
    obtain ⟨h2, h3⟩ := ih (w := repB r.1 r.2 w) (by omega)
    refine ⟨?_, by show (turnB rs (repB r.1 r.2 w)).length ≤ _; omega⟩
    show plainTurn (rs.map encR) (rep1 (encS w) (encP r.1) (encQ r.2)) = _
    rw [rep_enc h, h2]
    rfl
theorem to_enc (rules : List RB) {w : List Bool} (h : w.length ≤ 5) : ∀ n, plainTo (rules.map encR) (encS w) n = encS (plainB rules w n) ∧ (plainB rules w n).length ≤ 5
  | 0 => ⟨rfl, h⟩
  | n + 1 => by
    obtain ⟨h1, h2⟩ := to_enc rules h n
    obtain ⟨h3, h4⟩ := turn_enc rules h2
    refine ⟨?_, by show (turnB rules (plainB rules w n)).length ≤ 5; omega⟩
    show plainTurn _ (plainTo _ _ n) = _
    rw [h1, h3]
    rfl
theorem plain_enc (rules : List RB) {w : List Bool} (h : w.length ≤ 5) : plainOf (rules.map encR) (encS w) = encS (plainW rules w) := by
  unfold plainOf plainW
  rw [encS_len]
  exact (to_enc rules h _).1
theorem tabI : allP.all (fun p => Txt.item (encP p) 0 == encS [p.1] && Txt.item (encP p) 1 == encS [p.2]) = true := by decide +kernel
theorem item_enc (p : Bool × Bool) : Txt.item (encP p) 0 = encS [p.1] ∧ Txt.item (encP p) 1 = encS [p.2] := by
  have h := List.all_eq_true.mp tabI p (mem_allP p)
  rw [Bool.and_eq_true] at h
  exact ⟨eq_of_beq h.1, eq_of_beq h.2⟩
theorem encQ_eq (q : Option Bool) : encQ q = encS q.toList := rfl
theorem agree_enc (rules : List RB) : agreeOf (rules.map encR) = agreeB rules := by
  unfold agreeOf agreeB
  rw [List.all_map]
  congr 1
  funext r
  show (rules.map encR).all (fun r' => agree1 (rules.map encR) (encR r) r') = _
  rw [List.all_map]
  congr 1
  funext r'
  have h1 := toList_le r.2
  have h2 := toList_le r'.2
  show agree1 (rules.map encR) (encR r) (encR r') = _
  unfold agree1
  show (!(Txt.item (encP r.1) 1 == Txt.item (encP r'.1) 0 && !(plainOf (rules.map encR) (encQ r.2 ++ Txt.item (encP r'.1) 1) == plainOf (rules.map encR) (Txt.item (encP r.1) 0 ++ encQ r'.2)))) = _
  rw [(item_enc r.1).1, (item_enc r.1).2, (item_enc r'.1).1, (item_enc r'.1).2, encQ_eq, encQ_eq, encS_app, encS_app,
    plain_enc rules (by simp only [List.length_append, List.length_cons, List.length_nil]; omega), plain_enc rules (by simp only [List.length_append, List.length_cons, List.length_nil]; omega), encS_beq, encS_beq]
  simp
/-! ## what the law asks, for each of the 108 pairs of rules -/
theorem chk_all {f s p q : Nat} (hf : f < 4) (hs : s < 3) (hp : p < 3) (hq : q < 3) : chk (rulesB f s p q) = true := by
  have go : ∀ {g : Nat}, (List.range 3).all (fun s => (List.range 3).all fun p => (List.range 3).all fun q => chk (rulesB g s p q)) = true → chk (rulesB g s p q) = true := fun h =>
    List.all_eq_true.mp (List.all_eq_true.mp (List.all_eq_true.mp h s (List.mem_range.mpr hs)) p (List.mem_range.mpr hp)) q (List.mem_range.mpr hq)
  match f, hf with
  | 0, _ => exact go chk0
  | 1, _ => exact go chk1
  | 2, _ => exact go chk2
  | 3, _ => exact go chk3
def singleB (rules : List RB) : Bool := starts3.all (oneB rules)
theorem ends_enc (fin : List (List Bool × Bool)) : endsOf (fin.map encL) = (endsB fin).map encW := by
  unfold endsOf endsB
  rw [List.filter_map, List.map_map, List.map_map]
  congr 1
  refine List.filter_congr fun p _ => ?_
  show ((if p.2 = true then Str.ofString "end" else Str.ofString "on") == Str.ofString "end") = p.2
  cases p.2
  · exact (by decide +kernel : (Str.ofString "on" == Str.ofString "end") = false)
  · exact (by decide +kernel : (Str.ofString "end" == Str.ofString "end") = true)
theorem run_word {rules : List RB} {w : List Bool} {fin : List (List Bool × Bool)} (h : runOf rules w = some fin) : endsRun (rules.map encR) 40 [] [] (Str.ofString "<" ++ encS w ++ Str.ofString ">") = some (fin.map encL) := by
  rw [encW_eq]
  exact run_enc rules 40 [] [] (some w) fin h
theorem start_runs {rules : List RB} (hc : chk rules = true) {w : List Bool} (hw : w ∈ starts3) : ∃ fin, endsRun (rules.map encR) 40 [] [] (Str.ofString "<" ++ encS w ++ Str.ofString ">") = some fin ∧ ((endsOf fin).length == 1) = oneB rules w := by
  simp only [chk, Bool.and_eq_true] at hc
  have h1 := List.all_eq_true.mp hc.1.1 w hw
  obtain ⟨fin, hf⟩ := Option.isSome_iff_exists.mp h1
  refine ⟨_, run_word hf, ?_⟩
  rw [ends_enc, List.length_map]
  unfold oneB
  rw [hf]
theorem single_agree {rules : List RB} (hc : chk rules = true) : singleB rules = agreeOf (rules.map encR) := by
  simp only [chk, Bool.and_eq_true] at hc
  rw [agree_enc]
  exact eq_of_beq hc.1.2
theorem long_runs {rules : List RB} (hc : chk rules = true) (hs : singleB rules = true) {w : List Bool} (hw : w ∈ longs5) (hl : w.length ≤ 5) : ∃ fin, endsRun (rules.map encR) 40 [] [] (Str.ofString "<" ++ encS w ++ Str.ofString ">") = some fin ∧ endsOf fin = [Str.ofString "<" ++ plainOf (rules.map encR) (encS w) ++ Str.ofString ">"] := by
  have ha := single_agree hc
  rw [hs, agree_enc] at ha
  simp only [chk, Bool.and_eq_true] at hc
  have h2 := hc.2
  rw [← ha] at h2
  simp only [Bool.not_true, Bool.false_or] at h2
  have h3 := List.all_eq_true.mp h2 w hw
  cases hr : runOf rules w with
  | none => rw [hr] at h3; cases h3
  | some fin =>
    rw [hr] at h3
    refine ⟨_, run_word hr, ?_⟩
    rw [ends_enc, eq_of_beq h3, plain_enc rules hl, encW_eq]
    rfl
end PP4
section PP5
theorem still_P5 : True := by
  w_top off
  trivial
open PySem.Spec PyProof.Rows
/-- a fact kept out of sight of `assumption` -/
structure Box (P : Prop) : Prop where
  out : P
/-! ## texts in a list; the lexer's signs without tokens -/
def Texts (l : List Str) (ys : List Value) : Prop := ∃ yl : List (Str × Tok), ys = strValues yl ∧ yl.map (·.1) = l
theorem Texts.nil : Texts [] [] := ⟨[], rfl, rfl⟩
theorem Texts.snoc {l : List Str} {ys : List Value} {x : Str} {t : Tok} (h : Texts l ys) : Texts (l ++ [x]) (ys ++ [.str x t]) := by
  obtain ⟨yl, rfl, rfl⟩ := h
  exact ⟨yl ++ [(x, t)], by simp [strValues], by simp⟩
theorem Texts.len {l : List Str} {ys : List Value} (h : Texts l ys) : ys.length = l.length := by
  obtain ⟨yl, rfl, rfl⟩ := h
  simp [strValues]
def skipS : List Str → Option (List Str)
  | [] => none
  | c :: r => if c = Str.ofString " " then skipS r else if c = Str.ofString "\"" then some r else none
def bodyS : List Str → Str → Option (Str × List Str)
  | [], _ => none
  | [c], acc => if c = Str.ofString "\"" then some (acc, []) else none
  | c :: d :: r, acc => if c = Str.ofString "\"" then some (acc, d :: r) else if c = Str.ofString "\\" then bodyS r (acc ++ d) else bodyS (d :: r) (acc ++ c)
theorem skip_of : ∀ {l : List (Str × Tok)} {r : List Str}, skipS (l.map (·.1)) = some r → ∃ r1, skipB l = some r1 ∧ r1.map (·.1) = r
  | [], _, h => by cases h
  | (c, t) :: l, r, h => by
    unfold skipB
    simp only [List.map_cons, skipS] at h
    by_cases h1 : c = Str.ofString " "
    · rw [if_pos h1] at h ⊢; exact skip_of h
    · rw [if_neg h1] at h ⊢
      by_cases h2 : c = Str.ofString "\""
      · rw [if_pos h2] at h ⊢; exact ⟨l, rfl, Option.some.inj h⟩
      · rw [if_neg h2] at h; cases h
theorem body_of : ∀ {l : List (Str × Tok)} {acc tok : Str} {r : List Str}, bodyS (l.map (·.1)) acc = some (tok, r) → ∃ r2, bodyB l acc = some (tok, r2) ∧ r2.map (·.1) = r
  | [], _, _, _, h => by cases h
  | [(c, t)], acc, tok, r, h => by
    unfold bodyB
    simp only [List.map_cons, List.map_nil, bodyS] at h
    by_cases h1 : c = Str.ofString "\""
    · rw [if_pos h1] at h ⊢; cases h; exact ⟨[], rfl, rfl⟩
    · rw [if_neg h1] at h; cases h
  | (c, t) :: (d, td) :: l, acc, tok, r, h => by
    unfold bodyB
    simp only [List.map_cons, bodyS] at h
    by_cases h1 : c = Str.ofString "\""
    · rw [if_pos h1] at h ⊢; cases h; exact ⟨_, rfl, rfl⟩
    · rw [if_neg h1] at h ⊢
      by_cases h2 : c = Str.ofString "\\"
      · rw [if_pos h2] at h ⊢; exact body_of h
      · rw [if_neg h2] at h ⊢; exact body_of (l := (d, td) :: l) h
def tokS (cs : List Str) : Option (Str × List Str) := match skipS cs with | some r => bodyS r (Str.ofString "") | none => none
theorem tok_of {l : List (Str × Tok)} {tok : Str} {r : List Str} (h : tokS (l.map (·.1)) = some (tok, r)) : ∃ r1 r2, skipB l = some r1 ∧ bodyB r1 (Str.ofString "") = some (tok, r2) ∧ r2.map (·.1) = r := by
  unfold tokS at h
  cases e : skipS (l.map (·.1)) with
  | none => rw [e] at h; cases h
  | some r0 =>
    rw [e] at h
    obtain ⟨r1, h1, rfl⟩ := skip_of e
    obtain ⟨r2, h2, h3⟩ := body_of h
    exact ⟨r1, r2, h1, h2, h3⟩
/-! ## the rules' words written out -/
def esc (x : Str) : Str := Txt.replace x "\"" "\\\""
def wr2 (d : List (Str × Str)) : List Str := d.flatMap fun r => [esc r.1, esc r.2]
theorem wr2_len (d : List (Str × Str)) : (wr2 d).length = 2 * d.length := by
  induction d with
  | nil => rfl
  | cons r rs ih =>
    show ([esc r.1, esc r.2] ++ wr2 rs).length = _
    rw [List.length_append, ih]; simp only [List.length_cons, List.length_nil]; omega
theorem wr2_small (a b : Str × Str) (l : List Str) (i j : Nat) (h : l.length ≤ 2) : (wr2 ([a, b].take i) ++ l.take j).length ≤ sizeLine := by
  rw [List.length_append, wr2_len, List.length_take, List.length_take]
  have : 6 ≤ sizeLine := by rw [sizeLine_eq]; decide
  simp only [List.length_cons, List.length_nil]
  omega
theorem texts4 {a b c d : Str} {ys : List Value} (h : Texts [a, b, c, d] ys) : ∃ t1 t2 t3 t4, ys = [.str a t1, .str b t2, .str c t3, .str d t4] := by
  obtain ⟨yl, rfl, h⟩ := h
  match yl, h with
  | [(_, t1), (_, t2), (_, t3), (_, t4)], h => cases h; exact ⟨t1, t2, t3, t4, rfl⟩
theorem wr2_succ {d : List (Str × Str)} {i : Nat} {r : Str × Str} (h : d[i]? = some r) : wr2 (d.take (i + 1)) = wr2 (d.take i) ++ [esc r.1, esc r.2] := flat_take_succ h
theorem join_texts {prog : Program} {w : World} {A : Around} {E : Value → Shared → Prop} {s : Shared} {h₀ : Heap} {L : Addr} {x : Str} {t : Tok} {Q : Value → Shared → Prop} {D : Addr} {ys : List Value} {l : List Str} {news : List (Addr × Obj)} (N : News h₀ L s.heap news) (hm : (D, LCg.lst ys) ∈ news) (hT : Texts l ys) (hok : JoinOk x l = true)
    (hq : ∀ t' k, Q (.str (Txt.join x l) t') { s with toks := k }) : wpAny (model prog w) A (call (.builtin "str.join") [.str x t, .ref D]) Q E s := by
  obtain ⟨yl, rfl, rfl⟩ := hT
  exact SC.join ⟨_, (N _ hm).1, rfl, _, rfl⟩ rfl hok hq
def okC (c : Str) : Bool := c.length == 1 && !(c == Str.ofString "\n")
def rd : List Str → List Str → Bool
  | [], _ => true
  | t :: ts, cs => cs.all okC && Nat.ble cs.length 1000 && match tokS cs with | some (t', r) => t' == t && rd ts r | none => false
theorem rd_cons {t : Str} {ts : List Str} {cs : List (Str × Tok)} (h : rd (t :: ts) (cs.map (·.1)) = true) : (∀ p ∈ cs, p.1.length = 1 ∧ p.1 ≠ Str.ofString "\n") ∧ cs.length ≤ 1000 ∧ ∃ r1 r2, skipB cs = some r1 ∧ bodyB r1 (Str.ofString "") = some (t, r2) ∧ rd ts (r2.map (·.1)) = true := by
  unfold rd at h
  simp only [Bool.and_eq_true, Nat.ble_eq, List.length_map, List.all_map] at h
  obtain ⟨⟨h1, h2⟩, h3⟩ := h
  refine ⟨fun p hp => ?_, h2, ?_⟩
  · have := List.all_eq_true.mp h1 p hp
    simp only [Function.comp, okC, Bool.and_eq_true, beq_iff_eq, Bool.not_eq_true', beq_eq_false_iff_ne] at this
    exact this
  · cases e : tokS (cs.map (·.1)) with
    | none => rw [e] at h3; cases h3
    | some o =>
      obtain ⟨t', r⟩ := o
      rw [e] at h3
      simp only [Bool.and_eq_true, beq_iff_eq] at h3
      obtain ⟨rfl, h4⟩ := h3
      obtain ⟨r1, r2, a, b, c⟩ := tok_of e
      exact ⟨r1, r2, a, b, c ▸ h4⟩
def wtext (l : List Str) : Str := Str.ofString "\"" ++ Txt.join (Str.ofString "\" \"") l ++ Str.ofString "\""
def rdOk (d1 d2 : Str × Str) : Bool := JoinOk (Str.ofString "\" \"") (wr2 [d1, d2]) && Nat.ble (Txt.join (Str.ofString "\" \"") (wr2 [d1, d2])).length 900 && rd [d1.1, d1.2, d2.1, d2.2] (signs (wtext (wr2 [d1, d2])))
set_option maxRecDepth 100000
def drawS (d : Nat × Nat) : Str × Str := (encP (pB d.1), encQ (qB d.2))
theorem rd_tab0 : (List.range 3).all (fun p => (List.range 4).all fun g => (List.range 3).all fun q => rdOk (drawS (0, p)) (drawS (g, q))) = true := by decide +kernel
theorem rd_tab1 : (List.range 3).all (fun p => (List.range 4).all fun g => (List.range 3).all fun q => rdOk (drawS (1, p)) (drawS (g, q))) = true := by decide +kernel
theorem rd_tab2 : (List.range 3).all (fun p => (List.range 4).all fun g => (List.range 3).all fun q => rdOk (drawS (2, p)) (drawS (g, q))) = true := by decide +kernel
theorem rd_tab3 : (List.range 3).all (fun p => (List.range 4).all fun g => (List.range 3).all fun q => rdOk (drawS (3, p)) (drawS (g, q))) = true := by decide +kernel
theorem rd_all {f p g q : Nat} (hf : f < 4) (hp : p < 3) (hg : g < 4) (hq : q < 3) : rdOk (drawS (f, p)) (drawS (g, q)) = true := by
  have go : ∀ {f : Nat}, (List.range 3).all (fun p => (List.range 4).all fun g => (List.range 3).all fun q => rdOk (drawS (f, p)) (drawS (g, q))) = true → rdOk (drawS (f, p)) (drawS (g, q)) = true := fun h =>
    List.all_eq_true.mp (List.all_eq_true.mp (List.all_eq_true.mp h p (List.mem_range.mpr hp)) g (List.mem_range.mpr hg)) q (List.mem_range.mpr hq)
  match f, hf with
  | 0, _ => exact go rd_tab0
  | 1, _ => exact go rd_tab1
  | 2, _ => exact go rd_tab2
  | 3, _ => exact go rd_tab3
def pick3 (a b c : List (Str × Tok)) : Nat → List (Str × Tok)
  | 0 => a
  | 1 => b
  | _ => c
theorem rd_steps {d1 d2 : Str × Str} {l : List (Str × Tok)} (h : rd [d1.1, d1.2, d2.1, d2.2] (l.map (·.1)) = true) : ∃ cs1 cs2 : List (Str × Tok), ∀ i, i < 2 → ∃ csM r1 r2 q,
    (∀ p ∈ pick3 l cs1 cs2 i, p.1.length = 1 ∧ p.1 ≠ Str.ofString "\n") ∧ (pick3 l cs1 cs2 i).length ≤ 1000 ∧ skipB (pick3 l cs1 cs2 i) = some r1 ∧ bodyB r1 (Str.ofString "") = some (q.1, csM) ∧
    (∀ p ∈ csM, p.1.length = 1 ∧ p.1 ≠ Str.ofString "\n") ∧ csM.length ≤ 1000 ∧ skipB csM = some r2 ∧ bodyB r2 (Str.ofString "") = some (q.2, pick3 l cs1 cs2 (i + 1)) ∧ [d1, d2][i]? = some q := by
  obtain ⟨c0, n0, a0, m0, s0, b0, h⟩ := rd_cons h
  obtain ⟨c1, n1, a1, m1, s1, b1, h⟩ := rd_cons h
  obtain ⟨c2, n2, a2, m2, s2, b2, h⟩ := rd_cons h
  obtain ⟨c3, n3, a3, m3, s3, b3, h⟩ := rd_cons h
  refine ⟨m1, m3, fun i hi => ?_⟩
  match i, hi with
  | 0, _ => exact ⟨m0, a0, a1, d1, c0, n0, s0, b0, c1, n1, s1, b1, rfl⟩
  | 1, _ => exact ⟨m2, a2, a3, d2, c2, n2, s2, b2, c3, n3, s3, b3, rfl⟩
def AllGt (d : Nat) : List (Addr × Obj) → Prop
  | [] => True
  | p :: r => @LT.lt Nat _ d p.1 ∧ AllGt d r
theorem tabis_two {d : Nat} {q1 q2 : Str × Str} {ts : List (Addr × Obj)} (h : TabIs ts [q1, q2]) (g : AllGt d ts) : ∃ (U1 U2 : Addr) (x1 y1 x2 y2 : Tok), ts = [(U1, tupO (.str q1.1 x1) (.str q1.2 y1)), (U2, tupO (.str q2.1 x2) (.str q2.2 y2))] ∧ @LT.lt Nat _ d U1 ∧ @LT.lt Nat _ d U2 := by
  cases ts with
  | nil => exact h.elim
  | cons p r =>
    obtain ⟨⟨x1, y1, e1⟩, h2⟩ := h
    cases r with
    | nil => exact h2.elim
    | cons p2 r2 =>
      obtain ⟨⟨x2, y2, e2⟩, h3⟩ := h2
      cases r2 with
      | cons _ _ => exact h3.elim
      | nil => exact ⟨p.1, p2.1, x1, y1, x2, y2, by rw [← e1, ← e2], g.1, g.2.1⟩
theorem shaped4 {p q : Str × Str} (hp : (PyData.strOk p.1 && PyData.strOk p.2) = true) (hq : (PyData.strOk q.1 && PyData.strOk q.2) = true) : SeqAt.shaped (.list [.tuple [.str p.1, .str p.2], .tuple [.str q.1, .str q.2]]) = true := by
  rw [Bool.and_eq_true] at hp hq
  simp [SeqAt.shaped, PyData.canLay0, PyData.canLayAll0, PyData.depth, PyData.depthAll, hp.1, hp.2, hq.1, hq.2]
theorem draw_sok : (List.range 4).all (fun x => (List.range 3).all fun y => PyData.strOk (drawS (x, y)).1 && PyData.strOk (drawS (x, y)).2) = true := by decide +kernel
theorem draw_strOk {x y : Nat} (hx : x < 4) (hy : y < 3) : (PyData.strOk (drawS (x, y)).1 && PyData.strOk (drawS (x, y)).2) = true := List.all_eq_true.mp (List.all_eq_true.mp draw_sok x (List.mem_range.mpr hx)) y (List.mem_range.mpr hy)
/-! ## the eight starts -/
def st1 (a : Bool) : List Str := sg2.flatMap fun b => sg2.map fun c => encS [a, b, c]
def st2 (a b : Bool) : List Str := sg2.map fun c => encS [a, b, c]
def st0 : List Str := sg2.flatMap st1
theorem st0_eq : st0 = starts3.map encS := rfl
theorem st0_succ {i : Nat} {a : Bool} (h : sg2[i]? = some a) : (sg2.take (i + 1)).flatMap st1 = (sg2.take i).flatMap st1 ++ st1 a := flat_take_succ h
theorem st1_succ {a b : Bool} {i : Nat} (h : sg2[i]? = some b) : (sg2.take (i + 1)).flatMap (st2 a) = (sg2.take i).flatMap (st2 a) ++ st2 a b := flat_take_succ h
theorem st2_succ {a b c : Bool} {i : Nat} (h : sg2[i]? = some c) : (sg2.take (i + 1)).map (fun c => encS [a, b, c]) = (sg2.take i).map (fun c => encS [a, b, c]) ++ [encS [a, b, c]] := by
  rw [List.take_add_one, h, List.map_append]; rfl
theorem sgn_pick {s1 s2 : Tok} (i : Nat) (v : Value) (h : [Value.str (Str.ofString " ") s1, Value.str (Str.ofString "\"") s2][i]? = some v) : ∃ a t, v = .str (encS [a]) t ∧ sg2[i]? = some a := by
  match i, h with
  | 0, h => exact ⟨false, s1, by rw [← Option.some.inj h]; rfl, rfl⟩
  | 1, h => exact ⟨true, s2, by rw [← Option.some.inj h]; rfl, rfl⟩
theorem st_small (a b : Bool) (i j k : Nat) : ((sg2.take i).flatMap st1 ++ (sg2.take j).flatMap (st2 a) ++ (sg2.take k).map (fun c => encS [a, b, c])).length ≤ sizeLine := by
  have h1 : ∀ i, ((sg2.take i).flatMap st1).length ≤ 8 := fun i => by
    match i with
    | 0 => decide
    | 1 => decide
    | n + 2 => rw [List.take_of_length_le (show sg2.length ≤ n + 2 from Nat.le_add_left 2 n)]; decide
  have h2 : ∀ j, ((sg2.take j).flatMap (st2 a)).length ≤ 4 := fun j => by
    match j with
    | 0 => exact Nat.zero_le _
    | 1 => exact (by decide : 2 ≤ 4)
    | n + 2 => rw [List.take_of_length_le (show sg2.length ≤ n + 2 from Nat.le_add_left 2 n)]; exact Nat.le_refl 4
  have h3 : ((sg2.take k).map (fun c => encS [a, b, c])).length ≤ 2 := by
    rw [List.length_map, List.length_take]; exact Nat.min_le_right _ _
  have h4 := h1 i
  have h5 := h2 j
  have : 14 ≤ sizeLine := by rw [sizeLine_eq]; decide
  rw [List.length_append, List.length_append]
  omega
end PP5
section PC18
theorem still_C18 : True := by
  w_top off
  trivial
open PySem.Spec PyProof.Rows
/-! ## two lists of texts compared -/
theorem lay_texts : ∀ l : List Str, l.all PyData.strOk = true → PyData.canLayAll0 (l.map PyData.str) = true
  | [], _ => rfl
  | x :: r, h => by
    simp only [List.all_cons, Bool.and_eq_true] at h
    simp only [List.map_cons, PyData.canLayAll0, PyData.canLay0, h.1, lay_texts r h.2, Bool.and_self]
theorem depth_texts : ∀ l : List Str, PyData.depthAll (l.map PyData.str) = 0
  | [] => rfl
  | x :: r => by simp [PyData.depthAll, PyData.depth, depth_texts r]
theorem shaped_texts {l : List Str} (h : l.all PyData.strOk = true) : SeqAt.shaped (.list (l.map PyData.str)) = true := by
  simp [SeqAt.shaped, PyData.canLay0, PyData.depth, depth_texts, lay_texts l h]
theorem eqv_texts : ∀ l r : List Str, PyData.eqvAll (l.map PyData.str) (r.map PyData.str) = (l == r)
  | [], [] => rfl
  | [], _ :: _ => rfl
  | _ :: _, [] => rfl
  | a :: r, b :: t => by
    simp only [List.map_cons, PyData.eqvAll, PyData.eqv, eqv_texts r t, List.cons_beq_cons]
theorem reads_texts {h : Heap} : ∀ {l : List Str} {ys : List Value}, Texts l ys → ReadsAll h ys (l.map PyData.str) []
  | [], _, ⟨yl, e, hl⟩ => by
    cases yl with
    | nil => subst e; exact ReadsAll.nil
    | cons _ _ => cases hl
  | x :: r, _, ⟨yl, e, hl⟩ => by
    cases yl with
    | nil => cases hl
    | cons y yl =>
      obtain ⟨y, t⟩ := y
      subst e
      simp only [List.map_cons, List.cons.injEq] at hl
      obtain ⟨rfl, hl⟩ := hl
      exact readsAll_cons_val (Reads.str _ _) (reads_texts ⟨yl, rfl, hl⟩)
theorem reads_lst {h₀ h : Heap} {L a : Addr} {ys : List Value} {n : Nat} {l : List Str} {news : List (Addr × Obj)} (N : News h₀ L h news) (hm : (a, listOf ys.toArray n) ∈ news) (hT : Texts l ys) : Reads h (.ref a) (.list (l.map PyData.str)) [a] :=
  reads_list_at (News.get N hm) rfl rfl (by simpa using reads_texts hT)
section
variable {prog : Program} {w : World} {A : Around} {E : Value → Shared → Prop} {s : Shared} {h₀ : Heap} {L : Addr} {Q : Value → Shared → Prop}
theorem eq_texts {a b : Addr} {ys zs : List Value} {n m : Nat} {l r : List Str} {news : List (Addr × Obj)} (N : News h₀ L s.heap news) (ha : (a, listOf ys.toArray n) ∈ news) (hb : (b, listOf zs.toArray m) ∈ news) (hT : Texts l ys) (hU : Texts r zs) (hl : l.all PyData.strOk = true) (hr : r.all PyData.strOk = true) (hu : A.units + 64 < cLine)
    (h : Q (.bool (l == r)) s) : wpAny (model prog w) A (compareOp .Eq (.ref a) (.ref b)) Q E s :=
  eq_dataH (reads_lst N ha hT) (reads_lst N hb hU) (shaped_texts hl) (shaped_texts hr) hu (by rw [show PyData.eqv (.list (l.map PyData.str)) (.list (r.map PyData.str)) = (l == r) from eqv_texts l r]; exact h)
theorem ne_texts {a b : Addr} {ys zs : List Value} {n m : Nat} {l r : List Str} {news : List (Addr × Obj)} (N : News h₀ L s.heap news) (ha : (a, listOf ys.toArray n) ∈ news) (hb : (b, listOf zs.toArray m) ∈ news) (hT : Texts l ys) (hU : Texts r zs) (hl : l.all PyData.strOk = true) (hr : r.all PyData.strOk = true) (hu : A.units + 64 < cLine)
    (h : Q (.bool (!(l == r))) s) : wpAny (model prog w) A (compareOp .NotEq (.ref a) (.ref b)) Q E s :=
  ne_dataH (reads_lst N ha hT) (reads_lst N hb hU) (shaped_texts hl) (shaped_texts hr) hu (by rw [show PyData.eqv (.list (l.map PyData.str)) (.list (r.map PyData.str)) = (l == r) from eqv_texts l r]; exact h)
end
/-! ## single: the starts with more than one end -/
def badS (rules : List RB) (l : List (List Bool)) : List Str := (l.filter fun w => !oneB rules w).map encS
theorem badS_succ {rules : List RB} {l : List (List Bool)} {i : Nat} {w : List Bool} (h : l[i]? = some w) : badS rules (l.take (i + 1)) = badS rules (l.take i) ++ (if oneB rules w then [] else [encS w]) := by
  unfold badS
  rw [List.take_add_one, h, List.filter_append, List.map_append]
  cases e : oneB rules w <;> simp [e]
theorem badS_nil (rules : List RB) : (badS rules starts3 == []) = singleB rules := by
  unfold badS singleB
  cases e : starts3.all (oneB rules) with
  | true =>
    rw [List.all_eq_true] at e
    rw [List.filter_eq_nil_iff.mpr (fun w hw => by rw [e w hw]; decide)]
    rfl
  | false =>
    rw [List.all_eq_false] at e
    obtain ⟨w, hw, h⟩ := e
    have : w ∈ starts3.filter fun w => !oneB rules w := List.mem_filter.mpr ⟨hw, by simpa using h⟩
    cases e2 : starts3.filter fun w => !oneB rules w with
    | nil => rw [e2] at this; cases this
    | cons a r => rfl
theorem starts_sok : starts3.all (fun w => PyData.strOk (encS w)) = true := by decide +kernel
theorem bad_sok (rules : List RB) : (badS rules starts3).all PyData.strOk = true := by
  unfold badS
  rw [List.all_map]
  refine List.all_eq_true.mpr fun w hw => ?_
  exact List.all_eq_true.mp starts_sok w (List.mem_filter.mp hw).1
theorem starts_len {w : List Bool} (h : w ∈ starts3) : (encS w).length ≤ 10 := by
  have h1 : starts3.all (fun w => Nat.ble w.length 10) = true := by decide +kernel
  rw [encS_len]
  exact Nat.le_of_ble_eq_true (List.all_eq_true.mp h1 w h)
theorem bad_small (rules : List RB) (i : Nat) : (badS rules (starts3.take i)).length ≤ 8 := by
  unfold badS
  rw [List.length_map]
  exact Nat.le_trans (List.length_filter_le _ _) (by rw [List.length_take]; exact Nat.min_le_right _ _)
/-- the n-th text of a list of texts -/
theorem Texts.at : ∀ {l : List Str} {ys : List Value} {i : Nat} {v : Value}, Texts l ys → ys[i]? = some v → ∃ x t, v = .str x t ∧ l[i]? = some x
  | _, _, i, v, ⟨yl, rfl, rfl⟩, h => by
    simp only [strValues, List.getElem?_map, Option.map_eq_some_iff] at h
    obtain ⟨p, hp, rfl⟩ := h
    exact ⟨p.1, p.2, rfl, by rw [List.getElem?_map, hp]; rfl⟩
theorem em_tab : (List.range 4).all (fun x => Txt.split (Str.ofString "..." ++ encP (pB x) ++ Str.ofString "...") (Str.ofString "...") == Str.ofString "" :: [encP (pB x)] ++ [Str.ofString ""] &&
  !(Builtin.Str.occurrences (Str.ofString "..." ++ encP (pB x) ++ Str.ofString "...") (Str.ofString "...") 0 (Str.ofString "..." ++ encP (pB x) ++ Str.ofString "...").length 1).isEmpty && Nat.ble (encP (pB x)).length 10) = true := by decide +kernel
theorem draw_em {x y : Nat} (hx : x < 4) : EmOk (drawS (x, y)).1 := by
  have h := List.all_eq_true.mp em_tab x (List.mem_range.mpr hx)
  simp only [Bool.and_eq_true, Nat.ble_eq, Bool.not_eq_true', beq_iff_eq] at h
  exact ⟨h.1.1, h.1.2, h.2⟩
theorem draw_two {x y : Nat} : (drawS (x, y)).1.length = 2 := rfl
theorem run_len {rules : List (Str × Str)} : ∀ {n : Nat} {l fin : List (Str × Str)} {ps : List Str} {word : Str}, endsRun rules n l ps word = some fin → fin.length ≤ l.length + n
  | n, l, fin, ps, word, h => by
    rcases run_step h with ⟨-, rfl⟩ | ⟨-, -, n', rfl, h1, h2⟩
    · exact Nat.le_add_right _ _
    · have next : ∀ {l' : List (Str × Str)} {qs : List Str}, endsNext rules n' l' qs = some fin → fin.length ≤ l'.length + n' := fun {l'} {qs} e => by
        cases qs with
        | nil => exact run_len e
        | cons v r => exact run_len e
      cases e : l.any (fun p => p.1 == word) with
      | true => have := next (h1 e); omega
      | false =>
        have := next (h2 e)
        rw [List.length_append, List.length_singleton] at this
        omega
theorem ends_small {rules : List (Str × Str)} {fin : List (Str × Str)} {ps : List Str} {word : Str} (h : endsRun rules 40 [] ps word = some fin) : (endsOf fin).length ≤ 40 := by
  have h1 := run_len h
  unfold endsOf
  rw [List.length_map]
  exact Nat.le_trans (List.length_filter_le _ _) (by simpa using h1)
/-! ## the long word -/
theorem mem_longs : ∀ w : List Bool, w.length = 5 → w ∈ longs5
  | [a, b, c, d, e], _ => by cases a <;> cases b <;> cases c <;> cases d <;> cases e <;> decide
theorem long_tab : longs5.all (fun w => JoinOk (Str.ofString "") (w.map fun b => encS [b]) && (Txt.join (Str.ofString "") (w.map fun b => encS [b]) == encS w) && PyData.strOk (Str.ofString "<" ++ encS w ++ Str.ofString ">")) = true := by decide +kernel
theorem long_ok {w : List Bool} (h : w.length = 5) : JoinOk (Str.ofString "") (w.map fun b => encS [b]) = true ∧ Txt.join (Str.ofString "") (w.map fun b => encS [b]) = encS w := by
  have h1 := List.all_eq_true.mp long_tab w (mem_longs w h)
  simp only [Bool.and_eq_true, beq_iff_eq] at h1
  exact h1.1
theorem item_two {prog : Program} {w : World} {A : Around} {E : Value → Shared → Prop} {s : Shared} {value slice : PySem.Expr} {l : Addr} {s1 s2 : Tok} {k : Int} {u : Tok} {Q : Value → Shared → Prop}
    (hl : s.heap.IsList l #[.str (Str.ofString " ") s1, .str (Str.ofString "\"") s2]) (hk : k = 0 ∨ k = 1)
    (hs : subscripted slice false (.ref l) (.int k u) = operate [.ref l, .int k u] (getItem (.ref l) (.int k u))) (h : ∀ b t, Q (.str (encS [b]) t) s) :
    wpAny (model prog w) A (subscriptTail value slice (.ref l) (.int k u)) Q E s := by
  refine kba_turn (value' := PySem.Expr.Name (PySem.Str.ofString "_") ⟨0, 0, 0, 0⟩) (fun _ => rfl) ?_
  rcases hk with rfl | rfl
  · exact tail_any hl.typeIs slot_list_getitem.lookup (wpAny_getItem_list hl (by decide) (by decide) rfl (h false s1)) hs
  · exact tail_any hl.typeIs slot_list_getitem.lookup (wpAny_getItem_list hl (by decide) (by decide) rfl (h true s2)) hs
theorem fmod_two (x : Int) : x.fmod 2 = 0 ∨ x.fmod 2 = 1 := by rw [Int.fmod_eq_emod_of_nonneg _ (by decide)]; omega
theorem encW_tab : (allW 5).all (fun w => PyData.strOk (encW w)) = true := by decide +kernel
theorem plain_word (rules : List RB) {w : List Bool} (h : w.length = 5) : (plainOf (rules.map encR) (encS w)).length ≤ 5 ∧ PyData.strOk (Str.ofString "<" ++ plainOf (rules.map encR) (encS w) ++ Str.ofString ">") = true := by
  have h1 := (to_enc rules (show w.length ≤ 5 by omega) w.length).2
  rw [plain_enc rules (show w.length ≤ 5 by omega), encS_len, encW_eq]
  exact ⟨h1, List.all_eq_true.mp encW_tab _ (mem_allW h1)⟩
end PC18
section PL2
theorem still_L2 : True := by
  w_top off
  trivial
local macro_rules | `(tactic| walk_at "idle 0") => `(tactic| fail)
local macro_rules | `(tactic| walk_at "idle 1") => `(tactic| fail)
local macro_rules | `(tactic| walk_at "idle 2") => `(tactic| fail)
local macro_rules | `(tactic| walk_at "idle 3") => `(tactic| fail)
local macro_rules | `(tactic| walk_at "idle 4") => `(tactic| fail)
local macro_rules | `(tactic| walk_at "idle 5") => `(tactic| fail)
local macro_rules | `(tactic| walk_at "idle 6") => `(tactic| fail)
local macro_rules | `(tactic| walk_at "idle 7") => `(tactic| fail)
local macro_rules | `(tactic| walk_at "idle 8") => `(tactic| fail)
local macro_rules | `(tactic| walk_at "idle 9") => `(tactic| fail)
open PySem.Spec PyProof.Rows
open PySem.Builtin PySem.Builtin.Str in
theorem add_fresh {prog : Program} {w : World} {A : Around} {E : Value → Shared → Prop} {s : Shared} {x y : Str} {t u : Tok} {Q : Value → Shared → Prop} (hx : (x.length == 0) = false) (hy : (y.length == 0) = false) (hz : (x ++ y).length ≤ sizeLine) (h : Q (.str (x ++ y) s.toks) { s with toks := s.toks + 1 }) :
    wpAny (model prog w) A (binaryOp .Add (.str x t) (.str y u)) Q E s := by
  refine PySem.P.add_str ?_
  rw [hx, hy]
  exact ⟨hz, h⟩
theorem item_led {prog : Program} {w : World} {A : Around} {E : Value → Shared → Prop} {s : Shared} {value slice : PySem.Expr} {l : Addr} {vs : List Value} {k : Int} {u : Tok} {v : Value} {Q : Value → Shared → Prop}
    (hl : s.heap.IsList l vs.toArray) (h0 : 0 ≤ k) (hhi : k < 2 ^ 63) (hx : vs[k.toNat]? = some v)
    (hs : subscripted slice false (.ref l) (.int k u) = operate [.ref l, .int k u] (getItem (.ref l) (.int k u))) (h : Q v s) :
    wpAny (model prog w) A (subscriptTail value slice (.ref l) (.int k u)) Q E s := by
  refine kba_turn (value' := PySem.Expr.Name (PySem.Str.ofString "_") ⟨0, 0, 0, 0⟩) (fun _ => rfl) ?_
  exact tail_any hl.typeIs slot_list_getitem.lookup (wpAny_getItem_list hl h0 hhi (by simpa using hx) h) hs
def TabOk : List (Addr × Obj) → List (Str × Str) → Prop
  | [], [] => True
  | p :: r, q :: l => (∃ t1 t2, p.2 = tupO (.str q.1 t1) (.str q.2 t2) ∧ RuleOk q.1 q.2 t1 t2) ∧ TabOk r l
  | _, _ => False
theorem TabOk.snoc {T : Addr} {q : Str × Str} {a b : Tok} {o : Obj} (e : o = tupO (.str q.1 a) (.str q.2 b)) (hr : RuleOk q.1 q.2 a b) : ∀ {tups : List (Addr × Obj)} {l : List (Str × Str)}, TabOk tups l → TabOk (tups ++ [(T, o)]) (l ++ [q])
  | [], [], _ => ⟨⟨a, b, e, hr⟩, trivial⟩
  | _ :: _, _ :: _, h => ⟨h.1, TabOk.snoc e hr h.2⟩
theorem own_gt {d b : Nat} (hb : b ≤ d) : ∀ {l : List (Addr × Obj)}, AllGt d l → OwnOff l [b]
  | [], _ => fun _ h => nomatch h
  | _ :: _, h => own_cons (show @Ne Nat _ _ from by have := h.1; omega) (own_gt hb h.2)
theorem allGt_snoc {d : Nat} {T : Addr} {o : Obj} (h : @LT.lt Nat _ d T) : ∀ {l : List (Addr × Obj)}, AllGt d l → AllGt d (l ++ [(T, o)])
  | [], _ => ⟨h, trivial⟩
  | _ :: _, g => ⟨g.1, allGt_snoc h g.2⟩
theorem draw_tab : (List.range 4).all (fun x => (List.range 3).all fun y => !((drawS (x, y)).1 == (drawS (x, y)).2) && Nat.ble (drawS (x, y)).2.length (drawS (x, y)).1.length && Nat.ble (drawS (x, y)).1.length 10) = true := by decide +kernel
theorem draw_ok {x y : Nat} (hx : x < 4) (hy : y < 3) : ((drawS (x, y)).1 == (drawS (x, y)).2) = false ∧ (drawS (x, y)).2.length ≤ (drawS (x, y)).1.length ∧ (drawS (x, y)).1.length ≤ 10 := by
  have h := List.all_eq_true.mp (List.all_eq_true.mp draw_tab x (List.mem_range.mpr hx)) y (List.mem_range.mpr hy)
  simp only [Bool.and_eq_true, Nat.ble_eq, Bool.not_eq_true'] at h
  exact ⟨h.1.1, h.1.2, h.2⟩
theorem allLt_right {d : Nat} {r : List (Addr × Obj)} : ∀ {l : List (Addr × Obj)}, AllLt d (l ++ r) → AllLt d r
  | [], h => h
  | _ :: _, h => allLt_right h.2
theorem tab_two {d : Nat} {q1 q2 : Str × Str} {ts : List (Addr × Obj)} (h : TabOk ts [q1, q2]) (g : AllGt d ts) : ∃ T1 T2 a1 b1 a2 b2, ts = [(T1, tupO (.str q1.1 a1) (.str q1.2 b1)), (T2, tupO (.str q2.1 a2) (.str q2.2 b2))] ∧ RuleOk q1.1 q1.2 a1 b1 ∧ RuleOk q2.1 q2.2 a2 b2 ∧ @LT.lt Nat _ d T1 ∧ @LT.lt Nat _ d T2 := by
  cases ts with
  | nil => exact h.elim
  | cons p r =>
    obtain ⟨⟨a1, b1, e1, r1⟩, h2⟩ := h
    cases r with
    | nil => exact h2.elim
    | cons p2 r2 =>
      obtain ⟨⟨a2, b2, e2, r2'⟩, h3⟩ := h2
      cases r2 with
      | cons _ _ => exact h3.elim
      | nil => exact ⟨p.1, p2.1, a1, b1, a2, b2, by rw [← e1, ← e2], r1, r2', g.1, g.2.1⟩
theorem nums5 {vs : List Value} {ns : List Int} (h : IntsAre vs ns) (t1 t2 t3 t4 t5 : Tok) : ∃ (n0 n1 n2 n3 n4 : Int) (u0 u1 u2 u3 u4 : Tok), (listOf (kms_pick vs.toArray.toList none (some 5)).toArray 0).data = (listOf (kms_pick vs.toArray.toList none (some 5)).toArray 0).data ∧
    (kms_pick vs.toArray.toList none (some 5)).toArray.toList ++ (kms_pick #[Value.int 1 t1, Value.int 0 t2, Value.int 0 t3, Value.int 0 t4, Value.int 21 t5].toList (some (ns.length : Int)) none).toArray.toList = [.int n0 u0, .int n1 u1, .int n2 u2, .int n3 u3, .int n4 u4] := by
  cases h with
  | nil => exact ⟨_, _, _, _, _, _, _, _, _, _, rfl, rfl⟩
  | cons a ta h =>
  cases h with
  | nil => exact ⟨_, _, _, _, _, _, _, _, _, _, rfl, rfl⟩
  | cons b tb h =>
  cases h with
  | nil => exact ⟨_, _, _, _, _, _, _, _, _, _, rfl, rfl⟩
  | cons c tc h =>
  cases h with
  | nil => exact ⟨_, _, _, _, _, _, _, _, _, _, rfl, rfl⟩
  | cons d td h =>
  cases h with
  | nil => exact ⟨_, _, _, _, _, _, _, _, _, _, rfl, rfl⟩
  | cons e te h =>
    rename_i vs ns
    refine ⟨a, b, c, d, e, ta, tb, tc, td, te, rfl, ?_⟩
    have h1 : kms_lo (some (((a :: b :: c :: d :: e :: ns).length : Nat) : Int)) 5 = 5 := by
      simp only [kms_lo, List.length_cons]
      rw [if_neg (by omega)]
      omega
    have h2 : kms_pick [Value.int 1 t1, Value.int 0 t2, Value.int 0 t3, Value.int 0 t4, Value.int 21 t5] (some (((a :: b :: c :: d :: e :: ns).length : Nat) : Int)) none = [] := by
      unfold kms_pick
      rw [show [Value.int 1 t1, Value.int 0 t2, Value.int 0 t3, Value.int 0 t4, Value.int 21 t5].length = 5 from rfl, h1]
      rfl
    have h3 : kms_pick (Value.int a ta :: Value.int b tb :: Value.int c tc :: Value.int d td :: Value.int e te :: vs) none (some 5) = [Value.int a ta, Value.int b tb, Value.int c tc, Value.int d td, Value.int e te] := by
      have h4 : kms_hi (some 5) (vs.length + 5) = 5 := by
        simp only [kms_hi]
        rw [if_neg (by omega)]
        omega
      unfold kms_pick
      rw [show (Value.int a ta :: Value.int b tb :: Value.int c tc :: Value.int d td :: Value.int e te :: vs).length = vs.length + 5 from rfl, h4]
      rfl
    show (kms_pick (Value.int a ta :: Value.int b tb :: Value.int c tc :: Value.int d td :: Value.int e te :: vs) none (some 5)) ++ kms_pick [Value.int 1 t1, Value.int 0 t2, Value.int 0 t3, Value.int 0 t4, Value.int 21 t5] (some (((a :: b :: c :: d :: e :: ns).length : Nat) : Int)) none = _
    rw [h2, h3]
    rfl
local macro_rules | `(tactic| walk_at "exec For") => `(tactic| ((fail_if_success (have : Go 1 := by assumption)); refine Stop.mk ?_))
local macro_rules | `(tactic| walk_at "exec While") => `(tactic| ((fail_if_success (have : Go 1 := by assumption)); refine Stop.mk ?_))
local macro_rules | `(tactic| walk_at "call ref") => `(tactic| ((first | (with_reducible show wpAny _ _ (call (Value.ref 244) _) _ _ _) | (with_reducible show wpAny _ _ (call (Value.ref 244) _ _) _ _ _) | (with_reducible show wpAny _ _ (call (Value.ref 256) _) _ _ _) | (with_reducible show wpAny _ _ (call (Value.ref 256) _ _) _ _ _) | (with_reducible show wpAny _ _ (call (Value.ref 263) _) _ _ _) | (with_reducible show wpAny _ _ (call (Value.ref 263) _ _) _ _ _) | (with_reducible show wpAny _ _ (call (Value.ref 249) _) _ _ _) | (with_reducible show wpAny _ _ (call (Value.ref 249) _ _) _ _ _) | (with_reducible show wpAny _ _ (call (Value.ref 73) _) _ _ _) | (with_reducible show wpAny _ _ (call (Value.ref 73) _ _) _ _ _) | (with_reducible show wpAny _ _ (call (Value.ref 45) _) _ _ _) | (with_reducible show wpAny _ _ (call (Value.ref 45) _ _) _ _ _)); refine Stop.mk ?_))
local macro_rules | `(tactic| walk_at "eval ListComp") => `(tactic| (refine Stop.mk ?_))
local macro_rules | `(tactic| walk_at "exec Assign cons ListComp") => `(tactic| (refine Stop.mk ?_))
local macro_rules | `(tactic| walk_at "exec For Tuple List cons nil") => `(tactic| (refine Stop.mk ?_))
local macro_rules | `(tactic| walk_at "exec Assign cons BinOp") => `(tactic| ((fail_if_success (have : Go 4 := by assumption)); refine Stop.mk ?_))
local macro_rules | `(tactic| walk_at "subscriptTail Name Slice ref ref") => `(tactic| (k_here; k_dflt (refine' kms_slice_lit ?F ?N ?l ?p ?q ?e ?_ ?s ?t ?z; (case F => k_asm); (case N => k_asm); (case l => kmk_list); (case p => kmk_part); (case q => kmk_part); (case e => exact rfl); (case s => with_unfolding_all rfl); (case t => kmk_pure); (case z => (first | kmk_size | (simp; omega)))); intro D' h' F' N' l1; (try k_lt l1); (try k_sweep)))
local macro_rules | `(tactic| walk_at "subscriptTail List cons Slice ref ref") => `(tactic| (k_here; (refine kba_turn (value' := PySem.Expr.Name (PySem.Str.ofString "_") ⟨0, 0, 0, 0⟩) (fun _ => rfl) ?_); k_dflt (refine' kms_slice_lit ?F ?N ?l ?p ?q ?e ?_ ?s ?t ?z; (case F => k_asm); (case N => k_asm); (case l => kmk_list); (case p => kmk_part); (case q => kmk_part); (case e => exact rfl); (case s => with_unfolding_all rfl); (case t => kmk_pure); (case z => (first | kmk_size | (simp; omega)))); intro D' h' F' N' l1; (try k_lt l1); (try k_sweep)))
local macro_rules | `(tactic| walk_at "binaryOp Add ref ref") => `(tactic| (refine Stop.mk ?_))
local macro_rules | `(tactic| walk_at "execs cons Assign cons") => `(tactic| ((with_reducible refine wpAny_execs_cons ?_); (try dsimp only)))
local macro_rules | `(tactic| walk_at "pyIter ref") => `(tactic| (refine Stop.mk ?_))
local macro_rules | `(tactic| walk_at "binaryOp Add str str") => `(tactic| (k_here; refine add_fresh (by first | rfl | decide +kernel) (by first | rfl | decide +kernel) (by first | exact Nat.le_of_ble_eq_true rfl | size_fits) ?_))
local macro_rules | `(tactic| walk_at "subscriptTail Name BinOp ref int") => `(tactic| (k_here; k_dflt (refine' item_led ?k1 ?k2 ?k3 ?k4 ?k6 ?_; (case k1 => kmk_list); (case k2 => decide); (case k3 => decide); (case k4 => exact rfl); (case k6 => with_unfolding_all rfl))))
local macro_rules | `(tactic| walk_at "subscriptTail List cons Name ref int") => `(tactic| (k_here; k_dflt (refine' item_led ?k1 ?k2 ?k3 ?k4 ?k6 ?_; (case k1 => kmk_list); (case k2 => decide); (case k3 => decide); (case k4 => exact rfl); (case k6 => with_unfolding_all rfl))))
local macro_rules | `(tactic| walk_at "compareOp Eq ref ref") => `(tactic| (refine Stop.mk ?_))
local macro_rules | `(tactic| walk_at "compareOp NotEq ref ref") => `(tactic| (refine Stop.mk ?_))
local macro_rules | `(tactic| walk_at "call builtin:len") => `(tactic| (k_here; (with_reducible show wpAny _ _ (call _ [Value.ref _]) _ _ _); (with_reducible rename NextCode _ => kN); refine Stop.mk ?_))
local macro_rules | `(tactic| walk_at "callWith ref") => `(tactic| (k_here; (with_reducible rename Fr _ _ _ _ => kF); (with_reducible rename Frag.In _ _ => kX); k_dflt (refine' callWith_K0 (Frag.In.keeps kX (Fr.keep kF)) ?k2 ?_; (case k2 => k_is); k_whole)))
local macro_rules | `(tactic| walk_at "callWith ref") => `(tactic| (k_here; (with_reducible show wpAny _ _ (callWith _ _ _ (backTo _ (starEach (_ :: _) _)) []) _ _ _); (with_reducible rename Frag.In _ _ => kX); k_dflt (refine' callWith_K kX ?k2 ?_; (case k2 => k_is); k_whole)))
local macro_rules | `(tactic| walk_at "call builtin:str.join") => `(tactic| (refine Stop.mk ?_))
local macro_rules | `(tactic| walk_at "call builtin:str.replace") => `(tactic| (k_here; refine SC.replaceW (show @Ne Nat _ 0 by omega) (show @Ne Nat _ 0 by omega) (show @Ne Nat _ _ by omega) (by decide +kernel) (by omega) (by decide +kernel) ?_; intro _ _))
set_option maxRecDepth 100000 in
set_option maxHeartbeats 0 in
theorem law2 : PySem.Challenge.rw_pg0279_02.Holds := by
  w_on
  refine holds_law saidX fun said => ?_
  refine holds_open (q := vwX) (loose := L4) (Xt := fun s => xlAt vwX [] s && recOk (RowW.records PySem.Challenge.rw_pg0279_02.row.toRowW) s) (XP := XL vwX []) (Yf := Hook.obs (kmHook KX asX asEX [239])) (Ya := Hook.val (kmHook KX asX asEX [239])) (YP := Hook.says (kmHook KX asX asEX [239])) (N := 3260) leftX (Hook.of (kmHook KX asX asEX [239])) (Hook.keeps (kmHook KX asX asEX [239])) (fun s e => xl_of s (Bool.and_eq_true_iff.mp e).1) XL.keeps (by rfl) (by rfl) (by rfl) (fun s e => recFacts_of (Bool.and_eq_true_iff.mp e).2) (by rfl) (by first | assumption | decide +kernel) (by decide +kernel) ⟨rfl, rfl, rfl, rfl, rfl, by decide +kernel⟩ ?hw ?hc
  case hw => w_witness2
  clear said
  k_go0
  all_goals try k_fold
  k_steps
  refine Stop.out ?_
  rename IntsAre _ _ => hI
  rename (KX _).In _ => X9
  rename World => w
  rename Top _ _ _ _ _ _ => T9
  rename Below _ _ _ _ => K9
  have g4 := Go.mk 4
  rename Fr _ _ _ _ => F9
  rename News _ _ _ _ => N9
  k_steps
  refine Stop.out ?_
  obtain ⟨n0, n1, n2, n3, n4, u0, u1, u2, u3, u4, -, hnum⟩ := nums5 hI _ _ _ _ _
  k_here
  refine' kmk_add_lit ?zF ?zN ?za ?zb hnum ?_ ?zz
  case zF => k_asm
  case zN => k_asm
  case za => kmk_list
  case zb => kmk_list
  case zz => rw [← List.length_append, hnum]; exact Nat.le_of_ble_eq_true rfl
  intro D' h' F' N' l1
  (try k_lt l1)
  (try k_sweep)
  k_steps
  refine Stop.out ?_
  rename Fr _ _ _ _ => F9
  rename News _ _ _ _ => N9
  with_unfolding_all refine' For_turns F9 ?_ ?zk1 ?zk2
  case zk1 => exact fun _ => rfl
  case zk2 => passes_own
  k_steps
  refine Stop.out ?_
  rename Fr _ _ _ _ => F9
  rename News _ _ _ _ => N9
  rename Shared => sh
  rename_i o1 d1 S _ lS _ o2 d2 _ _ _ _ R _ lR _ _ TA _ lTA _ TB _ lTB l0 _ lL
  obtain ⟨j1, j2, j3, o4, o3, tf, tp, tg, tq, s1, s2, N9, d3, d4⟩ : ∃ (j1 j2 j3 : Addr × Obj) (o4 o3 : Obj) (tf tp tg tq s1 s2 : Tok), News (ghostOf sh.heap [(243, 239)]) sh.heap.objs.size _
      [(l0, listOf #[.ref TA, .ref TB] 0), (TB, tupO (.int ((n0.fmod 4 + 1 + n1.fmod 3).fmod 4) tg) (.int (n3.fmod 3) tq)), (TA, tupO (.int (n0.fmod 4) tf) (.int (n2.fmod 3) tp)), (R, listOf #[] 0), (S, listOf #[.str " " s1, .str "\"" s2] 0), (D', listOf #[.int n0 u0, .int n1 u1, .int n2 u2, .int n3 u3, .int n4 u4] 0), j1, j2, j3,
        (sh.heap.objs.size + 1 + 1 + 1 + 1, o4), (sh.heap.objs.size + 1 + 1 + 1, o3), (sh.heap.objs.size + 1 + 1, o2), (sh.heap.objs.size + 1, o1), (239, tabObj #[])] ∧ o3.data = .cell none ∧ o4.data = .cell none :=
    ⟨_, _, _, _, _, _, _, _, _, _, _, N9, by assumption, by assumption⟩
  obtain ⟨NL, hNL⟩ : ∃ NL, NL = D' := ⟨_, rfl⟩
  have ord : @LT.lt Nat _ 239 sh.heap.objs.size ∧ @LT.lt Nat _ (sh.heap.objs.size + 1 + 1 + 1 + 1) NL ∧ @LT.lt Nat _ NL S ∧ @LT.lt Nat _ S R ∧ @LT.lt Nat _ R TA ∧ @LT.lt Nat _ TA TB ∧ @LT.lt Nat _ TB l0 := by rw [hNL]; omega
  rw [← hNL] at N9 d1
  obtain ⟨f, hf, hf4⟩ : ∃ f : Nat, n0.fmod 4 = (f : Int) ∧ f < 4 := ⟨(n0.fmod 4).toNat, by rw [Int.fmod_eq_emod_of_nonneg _ (by decide)]; omega, by rw [Int.fmod_eq_emod_of_nonneg _ (by decide)]; omega⟩
  obtain ⟨sn, hsn, hs3⟩ : ∃ s : Nat, n1.fmod 3 = (s : Int) ∧ s < 3 := ⟨(n1.fmod 3).toNat, by rw [Int.fmod_eq_emod_of_nonneg _ (by decide)]; omega, by rw [Int.fmod_eq_emod_of_nonneg _ (by decide)]; omega⟩
  obtain ⟨p, hp, hp3⟩ : ∃ s : Nat, n2.fmod 3 = (s : Int) ∧ s < 3 := ⟨(n2.fmod 3).toNat, by rw [Int.fmod_eq_emod_of_nonneg _ (by decide)]; omega, by rw [Int.fmod_eq_emod_of_nonneg _ (by decide)]; omega⟩
  obtain ⟨q, hq, hq3⟩ : ∃ s : Nat, n3.fmod 3 = (s : Int) ∧ s < 3 := ⟨(n3.fmod 3).toNat, by rw [Int.fmod_eq_emod_of_nonneg _ (by decide)]; omega, by rw [Int.fmod_eq_emod_of_nonneg _ (by decide)]; omega⟩
  obtain ⟨g, hg, hg4⟩ : ∃ g : Nat, ((f : Int) + 1 + (sn : Int)).fmod 4 = (g : Int) ∧ g = (f + 1 + sn) % 4 := ⟨_, by rw [Int.fmod_eq_emod_of_nonneg _ (by decide)]; omega, rfl⟩
  have hgl : g < 4 := by omega
  rw [hf, hsn, hp, hq, hg] at N9
  clear lS lR lTA lTB lL
  refine kdt_iter (l := l0) (vs := [.ref TA, .ref TB]) (nn := 0) (news := (l0, listOf #[.ref TA, .ref TB] 0) :: (TB, tupO (.int (g : Int) tg) (.int (q : Int) tq)) :: (TA, tupO (.int (f : Int) tf) (.int (p : Int) tp)) :: (R, listOf (refsOf []).toArray 0) :: (S, listOf #[.str " " s1, .str "\"" s2] 0) :: (NL, listOf #[.int n0 u0, .int n1 u1, .int n2 u2, .int n3 u3, .int n4 u4] 0) :: (sh.heap.objs.size + 1 + 1 + 1 + 1, o4) :: (sh.heap.objs.size + 1 + 1 + 1, o3) :: (sh.heap.objs.size + 1 + 1, o2) :: (sh.heap.objs.size + 1, o1) :: (239, tabObj #[]) :: [])
    (fun i m nx => m "rules" = some (.ref R) ∧ ∃ (ts : List (Addr × Obj)) (kr : Nat), ts.length = i ∧ TabOk ts (([(f, p), (g, q)].take i).map drawS) ∧ AllGt l0 ts ∧ nx = (l0, listOf #[.ref TA, .ref TB] 0) :: (TB, tupO (.int (g : Int) tg) (.int (q : Int) tq)) :: (TA, tupO (.int (f : Int) tf) (.int (p : Int) tp)) :: (R, listOf (refsOf ts).toArray kr) :: (S, listOf #[.str " " s1, .str "\"" s2] 0) :: (NL, listOf #[.int n0 u0, .int n1 u1, .int n2 u2, .int n3 u3, .int n4 u4] 0) :: (sh.heap.objs.size + 1 + 1 + 1 + 1, o4) :: (sh.heap.objs.size + 1 + 1 + 1, o3) :: (sh.heap.objs.size + 1 + 1, o2) :: (sh.heap.objs.size + 1, o1) :: (239, tabObj #[]) :: ts) rfl (.head _) F9 (News.sub N9 (by k_allIn)) ⟨?hm0, [], 0, rfl, trivial, trivial, rfl⟩ ?turn ?done
  case hm0 => rfl
  case turn =>
    rintro i v m₁ news₁ h tk own hv hoff _ hp90 F₁ N₁
    try k_fold
    obtain ⟨g1, ts, kr, hlen, htab, hgt, rfl⟩ := hp90
    obtain ⟨T0, x, y, tx, ty, rfl, hx4, hy3, hT, hdi⟩ : ∃ (T0 : Addr) (x y : Nat) (tx ty : Tok), v = .ref T0 ∧ x < 4 ∧ y < 3 ∧ ((T0 = TA ∧ tupO (.int (x : Int) tx) (.int (y : Int) ty) = tupO (.int (f : Int) tf) (.int (p : Int) tp)) ∨ (T0 = TB ∧ tupO (.int (x : Int) tx) (.int (y : Int) ty) = tupO (.int (g : Int) tg) (.int (q : Int) tq))) ∧ [(f, p), (g, q)][i]? = some (x, y) := by
      match i, hv with
      | 0, hv => exact ⟨_, f, p, tf, tp, (Option.some.inj hv).symm, hf4, hp3, .inl ⟨rfl, rfl⟩, rfl⟩
      | 1, hv => exact ⟨_, g, q, tg, tq, (Option.some.inj hv).symm, hgl, hq3, .inr ⟨rfl, rfl⟩, rfl⟩
    have hi2 : i < 2 := (List.getElem?_eq_some_iff.mp hdi).1
    have F2 := Fr.al [("rules", .ref R)] F₁ (al_cons g1 al_nil)
    obtain ⟨tl9, htl9⟩ : ∃ z, z = ts ++ own := ⟨_, rfl⟩
    obtain ⟨TL, hTL⟩ : ∃ z, z = (l0, listOf #[.ref TA, .ref TB] 0) :: (TB, tupO (.int (g : Int) tg) (.int (q : Int) tq)) :: (TA, tupO (.int (f : Int) tf) (.int (p : Int) tp)) :: (NL, listOf #[.int n0 u0, .int n1 u1, .int n2 u2, .int n3 u3, .int n4 u4] 0) :: (sh.heap.objs.size + 1 + 1 + 1 + 1, o4) :: (sh.heap.objs.size + 1 + 1 + 1, o3) :: (sh.heap.objs.size + 1, o1) :: (239, tabObj #[]) :: tl9 := ⟨_, rfl⟩
    have N2 := News.sub (new := (T0, tupO (.int (x : Int) tx) (.int (y : Int) ty)) :: (R, listOf (refsOf ts).toArray kr) :: (S, listOf #[.str " " s1, .str "\"" s2] 0) :: (sh.heap.objs.size + 1 + 1, o2) :: TL) (News.sub (new := (T0, tupO (.int (x : Int) tx) (.int (y : Int) ty)) :: (l0, listOf #[.ref TA, .ref TB] 0) :: (TB, tupO (.int (g : Int) tg) (.int (q : Int) tq)) :: (TA, tupO (.int (f : Int) tf) (.int (p : Int) tp)) :: (R, listOf (refsOf ts).toArray kr) :: (S, listOf #[.str " " s1, .str "\"" s2] 0) :: (NL, listOf #[.int n0 u0, .int n1 u1, .int n2 u2, .int n3 u3, .int n4 u4] 0) :: (sh.heap.objs.size + 1 + 1 + 1 + 1, o4) :: (sh.heap.objs.size + 1 + 1 + 1, o3) :: (sh.heap.objs.size + 1 + 1, o2) :: (sh.heap.objs.size + 1, o1) :: (239, tabObj #[]) :: tl9) N₁ (fun z hz => by
      rcases List.mem_cons.mp hz with rfl | hz
      · rcases hT with ⟨e1, e2⟩ | ⟨e1, e2⟩
        · rw [e1, e2]; exact List.mem_append_left _ (by k_memK)
        · rw [e1, e2]; exact List.mem_append_left _ (by k_memK)
      · rw [htl9] at hz
        exact hz)) (by rw [hTL]; k_allIn)
    have hl9 : (refsOf ts).length = i := (List.length_map ..).trans hlen
    have hl10 : (refsOf ts).length ≤ 1000 := by omega
    have hT0 : @LT.lt Nat _ R T0 ∧ @LT.lt Nat _ T0 l0 := by
      rcases hT with ⟨e, -⟩ | ⟨e, -⟩
      · rw [e]; omega
      · rw [e]; omega
    clear F₁ N₁ F9 N9 hT
    have hof : OwnOff ts [R] := own_gt (by omega) hgt
    have hof2 : OwnOff own [R] := own_of_off (o := listOf (refsOf ts).toArray kr) hoff (.tail _ (.tail _ (.tail _ (.head _))))
    have hof3 : OwnOff TL [R] := by
      rw [hTL]
      exact own_cons (show @Ne Nat l0 R by omega) (own_cons (show @Ne Nat TB R by omega) (own_cons (show @Ne Nat TA R by omega) (own_cons (show @Ne Nat NL R by omega) (own_cons (show @Ne Nat (sh.heap.objs.size + 1 + 1 + 1 + 1) R by omega) (own_cons (show @Ne Nat (sh.heap.objs.size + 1 + 1 + 1) R by omega) (own_cons (show @Ne Nat (sh.heap.objs.size + 1) R by omega) (own_cons (show @Ne Nat 239 R by omega) (htl9 ▸ own_app hof hof2))))))))
    have rule_end : ∀ {DT : Addr} {P Q : Str} {t1 t2 : Tok} {J T9 : Addr × Obj} {h8 : Heap} {tk8 : Nat} {m8 : Str → Option Value}, P = (drawS (x, y)).1 → Q = (drawS (x, y)).2 → @Ne Nat t1 0 → @Ne Nat t2 0 → @Ne Nat t1 t2 → m8 "rules" = some (.ref R) → AllLt DT TL →
        Fr (ghostOf sh.heap [(243, 239)]) sh.heap.objs.size h8 m8 → News (ghostOf sh.heap [(243, 239)]) sh.heap.objs.size h8 ((DT, tupO (.str P t1) (.str Q t2)) :: J :: T9 :: (R, listOf ((refsOf ts).toArray.push (.ref DT)) (kr + 1)) :: (S, listOf #[.str " " s1, .str "\"" s2] 0) :: (sh.heap.objs.size + 1 + 1, o2) :: TL) → ∀ s8 : Shared,
        InvEndG (ghostOf sh.heap [(243, 239)]) sh.heap.objs.size (fun m' nx => (l0, listOf #[.ref TA, .ref TB] 0) ∈ nx ∧ m' "rules" = some (.ref R) ∧ ∃ (ts : List (Addr × Obj)) (kr : Nat), ts.length = i + 1 ∧ TabOk ts (([(f, p), (g, q)].take (i + 1)).map drawS) ∧ AllGt l0 ts ∧ nx = (l0, listOf #[.ref TA, .ref TB] 0) :: (TB, tupO (.int (g : Int) tg) (.int (q : Int) tq)) :: (TA, tupO (.int (f : Int) tf) (.int (p : Int) tp)) :: (R, listOf (refsOf ts).toArray kr) :: (S, listOf #[.str " " s1, .str "\"" s2] 0) :: (NL, listOf #[.int n0 u0, .int n1 u1, .int n2 u2, .int n3 u3, .int n4 u4] 0) :: (sh.heap.objs.size + 1 + 1 + 1 + 1, o4) :: (sh.heap.objs.size + 1 + 1 + 1, o3) :: (sh.heap.objs.size + 1 + 1, o2) :: (sh.heap.objs.size + 1, o1) :: (239, tabObj #[]) :: ts) own s8 { s8 with heap := h8, toks := tk8 } := by
      intro DT P Q t1 t2 J T9 h8 tk8 m8 hP hQ ht1 ht2 ht3 hm hlo F8 N8 s8
      rw [hTL] at hlo
      have hDT : @LT.lt Nat _ l0 DT := hlo.1
      have hlo : AllLt DT own := allLt_right (htl9 ▸ hlo.2.2.2.2.2.2.2.2)
      have N8 := News.sub (new := (DT, tupO (.str P t1) (.str Q t2)) :: J :: T9 :: (l0, listOf #[.ref TA, .ref TB] 0) :: (TB, tupO (.int (g : Int) tg) (.int (q : Int) tq)) :: (TA, tupO (.int (f : Int) tf) (.int (p : Int) tp)) :: (R, listOf ((refsOf ts).toArray.push (.ref DT)) (kr + 1)) :: (S, listOf #[.str " " s1, .str "\"" s2] 0) :: (NL, listOf #[.int n0 u0, .int n1 u1, .int n2 u2, .int n3 u3, .int n4 u4] 0) :: (sh.heap.objs.size + 1 + 1 + 1 + 1, o4) :: (sh.heap.objs.size + 1 + 1 + 1, o3) :: (sh.heap.objs.size + 1 + 1, o2) :: (sh.heap.objs.size + 1, o1) :: (239, tabObj #[]) :: tl9) N8 (by rw [hTL]; k_allIn)
      have hpush : (refsOf ts).toArray.push (.ref DT) = (refsOf (ts ++ [(DT, tupO (.str P t1) (.str Q t2))])).toArray := by simp [refsOf]
      rw [hpush, htl9] at N8
      have htk : ([(f, p), (g, q)].take (i + 1)).map drawS = ([(f, p), (g, q)].take i).map drawS ++ [drawS (x, y)] := by rw [List.take_add_one, hdi, List.map_append]; rfl
      refine InvEndG.intro (nx := (l0, listOf #[.ref TA, .ref TB] 0) :: (TB, tupO (.int (g : Int) tg) (.int (q : Int) tq)) :: (TA, tupO (.int (f : Int) tf) (.int (p : Int) tp)) :: (R, listOf (refsOf (ts ++ [(DT, tupO (.str P t1) (.str Q t2))])).toArray (kr + 1)) :: (S, listOf #[.str " " s1, .str "\"" s2] 0) :: (NL, listOf #[.int n0 u0, .int n1 u1, .int n2 u2, .int n3 u3, .int n4 u4] 0) :: (sh.heap.objs.size + 1 + 1 + 1 + 1, o4) :: (sh.heap.objs.size + 1 + 1 + 1, o3) :: (sh.heap.objs.size + 1 + 1, o2) :: (sh.heap.objs.size + 1, o1) :: (239, tabObj #[]) :: ts ++ [(DT, tupO (.str P t1) (.str Q t2))]) F8 N8 ⟨.head _, hm, ts ++ [(DT, tupO (.str P t1) (.str Q t2))], kr + 1, by simp [hlen], ?e1, allGt_snoc hDT hgt, rfl⟩ ?e2 ?e3 ?e4
      case e1 => rw [htk]; exact htab.snoc (by rw [hP, hQ]) ⟨ht1, ht2, ht3, draw_ok hx4 hy3⟩
      case e2 =>
        intro z hz b hb
        rw [List.map_append] at hb
        have hold : ∀ b' ∈ [l0, TB, TA, R, S, NL, sh.heap.objs.size + 1 + 1 + 1 + 1, sh.heap.objs.size + 1 + 1 + 1, sh.heap.objs.size + 1 + 1, sh.heap.objs.size + 1, 239] ++ ts.map (·.1), z.1 ≠ b' := fun b' hb' => hoff z hz b' hb'
        have hb2 : b ∈ ([l0, TB, TA, R, S, NL, sh.heap.objs.size + 1 + 1 + 1 + 1, sh.heap.objs.size + 1 + 1 + 1, sh.heap.objs.size + 1 + 1, sh.heap.objs.size + 1, 239] ++ ts.map (·.1)) ++ [DT] := by
          exact hb
        rcases List.mem_append.mp hb2 with h | h
        · exact hold b h
        · rw [List.mem_singleton.mp h]; exact Nat.ne_of_lt (ktn_ltOf hlo z hz)
      case e3 =>
        intro z hz
        have hz2 : z ∈ ((l0, listOf #[.ref TA, .ref TB] 0) :: (TB, tupO (.int (g : Int) tg) (.int (q : Int) tq)) :: (TA, tupO (.int (f : Int) tf) (.int (p : Int) tp)) :: (R, listOf (refsOf (ts ++ [(DT, tupO (.str P t1) (.str Q t2))])).toArray (kr + 1)) :: (S, listOf #[.str " " s1, .str "\"" s2] 0) :: (NL, listOf #[.int n0 u0, .int n1 u1, .int n2 u2, .int n3 u3, .int n4 u4] 0) :: (sh.heap.objs.size + 1 + 1 + 1 + 1, o4) :: (sh.heap.objs.size + 1 + 1 + 1, o3) :: (sh.heap.objs.size + 1 + 1, o2) :: (sh.heap.objs.size + 1, o1) :: (239, tabObj #[]) :: ts) ++ [(DT, tupO (.str P t1) (.str Q t2))] := hz
        rcases List.mem_append.mp hz2 with h | h
        · have h3 : z ∈ ((l0, listOf #[.ref TA, .ref TB] 0) :: (TB, tupO (.int (g : Int) tg) (.int (q : Int) tq)) :: (TA, tupO (.int (f : Int) tf) (.int (p : Int) tp)) :: (R, listOf (refsOf (ts ++ [(DT, tupO (.str P t1) (.str Q t2))])).toArray (kr + 1)) :: (S, listOf #[.str " " s1, .str "\"" s2] 0) :: (NL, listOf #[.int n0 u0, .int n1 u1, .int n2 u2, .int n3 u3, .int n4 u4] 0) :: (sh.heap.objs.size + 1 + 1 + 1 + 1, o4) :: (sh.heap.objs.size + 1 + 1 + 1, o3) :: (sh.heap.objs.size + 1 + 1, o2) :: (sh.heap.objs.size + 1, o1) :: (239, tabObj #[]) :: ts) ++ own := List.mem_append_left _ h
          exact .tail _ (.tail _ (.tail _ h3))
        · rw [List.mem_singleton.mp h]; exact .head _
      case e4 =>
        intro z hz
        have h3 : z ∈ ((l0, listOf #[.ref TA, .ref TB] 0) :: (TB, tupO (.int (g : Int) tg) (.int (q : Int) tq)) :: (TA, tupO (.int (f : Int) tf) (.int (p : Int) tp)) :: (R, listOf (refsOf (ts ++ [(DT, tupO (.str P t1) (.str Q t2))])).toArray (kr + 1)) :: (S, listOf #[.str " " s1, .str "\"" s2] 0) :: (NL, listOf #[.int n0 u0, .int n1 u1, .int n2 u2, .int n3 u3, .int n4 u4] 0) :: (sh.heap.objs.size + 1 + 1 + 1 + 1, o4) :: (sh.heap.objs.size + 1 + 1 + 1, o3) :: (sh.heap.objs.size + 1 + 1, o2) :: (sh.heap.objs.size + 1, o1) :: (239, tabObj #[]) :: ts) ++ own := List.mem_append_right _ hz
        exact .tail _ (.tail _ (.tail _ h3))
    clear htl9 hof hof2 hgt htab
    match x, hx4 with
    | 0, _ =>
      match y, hy3 with
      | 0, _ =>
        ((try k_fold); k_steps)
        rename Fr (ghostOf sh.heap _) _ _ _ => F8
        rename News (ghostOf sh.heap _) _ _ _ => N8
        exact rule_end (by decide +kernel) (by decide +kernel) (by omega) (by omega) (by omega) rfl (by first | exact (by assumption : _ < _ ∧ _ < _ ∧ _ < _ ∧ _ < _ ∧ AllLt _ TL).2.2.2.2 | exact (by assumption : _ < _ ∧ _ < _ ∧ _ < _ ∧ _ < _ ∧ _ < _ ∧ AllLt _ TL).2.2.2.2.2) F8 N8 _
      | 1, _ =>
        ((try k_fold); k_steps)
        rename Fr (ghostOf sh.heap _) _ _ _ => F8
        rename News (ghostOf sh.heap _) _ _ _ => N8
        exact rule_end (by decide +kernel) (by decide +kernel) (by omega) (by omega) (by omega) rfl (by first | exact (by assumption : _ < _ ∧ _ < _ ∧ _ < _ ∧ _ < _ ∧ AllLt _ TL).2.2.2.2 | exact (by assumption : _ < _ ∧ _ < _ ∧ _ < _ ∧ _ < _ ∧ _ < _ ∧ AllLt _ TL).2.2.2.2.2) F8 N8 _
      | 2, _ =>
        ((try k_fold); k_steps)
        rename Fr (ghostOf sh.heap _) _ _ _ => F8
        rename News (ghostOf sh.heap _) _ _ _ => N8
        exact rule_end (by decide +kernel) (by decide +kernel) (by omega) (by omega) (by omega) rfl (by first | exact (by assumption : _ < _ ∧ _ < _ ∧ _ < _ ∧ _ < _ ∧ AllLt _ TL).2.2.2.2 | exact (by assumption : _ < _ ∧ _ < _ ∧ _ < _ ∧ _ < _ ∧ _ < _ ∧ AllLt _ TL).2.2.2.2.2) F8 N8 _
    | 1, _ =>
      match y, hy3 with
      | 0, _ =>
        ((try k_fold); k_steps)
        rename Fr (ghostOf sh.heap _) _ _ _ => F8
        rename News (ghostOf sh.heap _) _ _ _ => N8
        exact rule_end (by decide +kernel) (by decide +kernel) (by omega) (by omega) (by omega) rfl (by first | exact (by assumption : _ < _ ∧ _ < _ ∧ _ < _ ∧ _ < _ ∧ AllLt _ TL).2.2.2.2 | exact (by assumption : _ < _ ∧ _ < _ ∧ _ < _ ∧ _ < _ ∧ _ < _ ∧ AllLt _ TL).2.2.2.2.2) F8 N8 _
      | 1, _ =>
        ((try k_fold); k_steps)
        rename Fr (ghostOf sh.heap _) _ _ _ => F8
        rename News (ghostOf sh.heap _) _ _ _ => N8
        exact rule_end (by decide +kernel) (by decide +kernel) (by omega) (by omega) (by omega) rfl (by first | exact (by assumption : _ < _ ∧ _ < _ ∧ _ < _ ∧ _ < _ ∧ AllLt _ TL).2.2.2.2 | exact (by assumption : _ < _ ∧ _ < _ ∧ _ < _ ∧ _ < _ ∧ _ < _ ∧ AllLt _ TL).2.2.2.2.2) F8 N8 _
      | 2, _ =>
        ((try k_fold); k_steps)
        rename Fr (ghostOf sh.heap _) _ _ _ => F8
        rename News (ghostOf sh.heap _) _ _ _ => N8
        exact rule_end (by decide +kernel) (by decide +kernel) (by omega) (by omega) (by omega) rfl (by first | exact (by assumption : _ < _ ∧ _ < _ ∧ _ < _ ∧ _ < _ ∧ AllLt _ TL).2.2.2.2 | exact (by assumption : _ < _ ∧ _ < _ ∧ _ < _ ∧ _ < _ ∧ _ < _ ∧ AllLt _ TL).2.2.2.2.2) F8 N8 _
    | 2, _ =>
      match y, hy3 with
      | 0, _ =>
        ((try k_fold); k_steps)
        rename Fr (ghostOf sh.heap _) _ _ _ => F8
        rename News (ghostOf sh.heap _) _ _ _ => N8
        exact rule_end (by decide +kernel) (by decide +kernel) (by omega) (by omega) (by omega) rfl (by first | exact (by assumption : _ < _ ∧ _ < _ ∧ _ < _ ∧ _ < _ ∧ AllLt _ TL).2.2.2.2 | exact (by assumption : _ < _ ∧ _ < _ ∧ _ < _ ∧ _ < _ ∧ _ < _ ∧ AllLt _ TL).2.2.2.2.2) F8 N8 _
      | 1, _ =>
        ((try k_fold); k_steps)
        rename Fr (ghostOf sh.heap _) _ _ _ => F8
        rename News (ghostOf sh.heap _) _ _ _ => N8
        exact rule_end (by decide +kernel) (by decide +kernel) (by omega) (by omega) (by omega) rfl (by first | exact (by assumption : _ < _ ∧ _ < _ ∧ _ < _ ∧ _ < _ ∧ AllLt _ TL).2.2.2.2 | exact (by assumption : _ < _ ∧ _ < _ ∧ _ < _ ∧ _ < _ ∧ _ < _ ∧ AllLt _ TL).2.2.2.2.2) F8 N8 _
      | 2, _ =>
        ((try k_fold); k_steps)
        rename Fr (ghostOf sh.heap _) _ _ _ => F8
        rename News (ghostOf sh.heap _) _ _ _ => N8
        exact rule_end (by decide +kernel) (by decide +kernel) (by omega) (by omega) (by omega) rfl (by first | exact (by assumption : _ < _ ∧ _ < _ ∧ _ < _ ∧ _ < _ ∧ AllLt _ TL).2.2.2.2 | exact (by assumption : _ < _ ∧ _ < _ ∧ _ < _ ∧ _ < _ ∧ _ < _ ∧ AllLt _ TL).2.2.2.2.2) F8 N8 _
    | 3, _ =>
      match y, hy3 with
      | 0, _ =>
        ((try k_fold); k_steps)
        rename Fr (ghostOf sh.heap _) _ _ _ => F8
        rename News (ghostOf sh.heap _) _ _ _ => N8
        exact rule_end (by decide +kernel) (by decide +kernel) (by omega) (by omega) (by omega) rfl (by first | exact (by assumption : _ < _ ∧ _ < _ ∧ _ < _ ∧ _ < _ ∧ AllLt _ TL).2.2.2.2 | exact (by assumption : _ < _ ∧ _ < _ ∧ _ < _ ∧ _ < _ ∧ _ < _ ∧ AllLt _ TL).2.2.2.2.2) F8 N8 _
      | 1, _ =>
        ((try k_fold); k_steps)
        rename Fr (ghostOf sh.heap _) _ _ _ => F8
        rename News (ghostOf sh.heap _) _ _ _ => N8
        exact rule_end (by decide +kernel) (by decide +kernel) (by omega) (by omega) (by omega) rfl (by first | exact (by assumption : _ < _ ∧ _ < _ ∧ _ < _ ∧ _ < _ ∧ AllLt _ TL).2.2.2.2 | exact (by assumption : _ < _ ∧ _ < _ ∧ _ < _ ∧ _ < _ ∧ _ < _ ∧ AllLt _ TL).2.2.2.2.2) F8 N8 _
      | 2, _ =>
        ((try k_fold); k_steps)
        rename Fr (ghostOf sh.heap _) _ _ _ => F8
        rename News (ghostOf sh.heap _) _ _ _ => N8
        exact rule_end (by decide +kernel) (by decide +kernel) (by omega) (by omega) (by omega) rfl (by first | exact (by assumption : _ < _ ∧ _ < _ ∧ _ < _ ∧ _ < _ ∧ AllLt _ TL).2.2.2.2 | exact (by assumption : _ < _ ∧ _ < _ ∧ _ < _ ∧ _ < _ ∧ _ < _ ∧ AllLt _ TL).2.2.2.2.2) F8 N8 _
  case done =>
    rintro m₁ news₁ h tk hp90 F₁ N₁
    try k_fold
    obtain ⟨g1, ts, kr, hlen, htab, hgt, rfl⟩ := hp90
    obtain ⟨T1, T2, a1, b1, a2, b2, rfl, hr1, hr2, hT1, hT2⟩ := tab_two htab hgt
    have F2 := Fr.al [("rules", .ref R)] F₁ (al_cons g1 al_nil)
    obtain ⟨dr1, hdr1⟩ : ∃ z, z = drawS (f, p) := ⟨_, rfl⟩
    obtain ⟨dr2, hdr2⟩ : ∃ z, z = drawS (g, q) := ⟨_, rfl⟩
    obtain ⟨RL, hRLc, hRLe⟩ : ∃ RL, chk RL = true ∧ RL.map encR = [(dr1.1, dr1.2), (dr2.1, dr2.2)] := ⟨rulesB f sn p q, chk_all hf4 hs3 hp3 hq3, by rw [hdr1, hdr2, hg4]; rfl⟩
    rw [← hdr1] at hr1 N₁ 
    rw [← hdr2] at hr2 N₁
    have N2 := News.sub (new := (R, listOf #[.ref T1, .ref T2] kr) :: (T1, tupO (.str dr1.1 a1) (.str dr1.2 b1)) :: (T2, tupO (.str dr2.1 a2) (.str dr2.2 b2)) :: (S, listOf #[.str " " s1, .str "\"" s2] 0) :: (NL, listOf #[.int n0 u0, .int n1 u1, .int n2 u2, .int n3 u3, .int n4 u4] 0) :: (sh.heap.objs.size + 1 + 1 + 1 + 1, o4) :: (sh.heap.objs.size + 1 + 1 + 1, o3) :: (sh.heap.objs.size + 1 + 1, o2) :: (sh.heap.objs.size + 1, o1) :: (239, tabObj #[]) :: []) N₁ (by k_allIn)
    have hem1 : EmOk dr1.1 := hdr1 ▸ draw_em hf4
    have hem2 : EmOk dr2.1 := hdr2 ▸ draw_em hgl
    have htw1 : dr1.1.length = 2 := hdr1 ▸ draw_two
    have htw2 : dr2.1.length = 2 := hdr2 ▸ draw_two
    have hso1 : (PyData.strOk dr1.1 && PyData.strOk dr1.2) = true := hdr1 ▸ draw_strOk hf4 hp3
    have hso2 : (PyData.strOk dr2.1 && PyData.strOk dr2.2) = true := hdr2 ▸ draw_strOk hgl hq3
    clear F₁ F9 N9 hgt htab hlen g1 N₁
    k_steps
    refine Stop.out ?_
    rename Fr (ghostOf sh.heap _) _ _ _ => F9
    rename News (ghostOf sh.heap _) _ _ _ => N9
    obtain ⟨base, hbase⟩ : ∃ z, z = (R, listOf #[.ref T1, .ref T2] kr) :: (T1, tupO (.str dr1.1 a1) (.str dr1.2 b1)) :: (T2, tupO (.str dr2.1 a2) (.str dr2.2 b2)) :: (S, listOf #[.str " " s1, .str "\"" s2] 0) :: (NL, listOf #[.int n0 u0, .int n1 u1, .int n2 u2, .int n3 u3, .int n4 u4] 0) :: (sh.heap.objs.size + 1 + 1 + 1 + 1, o4) :: (sh.heap.objs.size + 1 + 1 + 1, o3) :: (sh.heap.objs.size + 1 + 1, o2) :: (sh.heap.objs.size + 1, o1) :: (239, tabObj #[]) :: [] := ⟨_, rfl⟩
    have hmR : (R, listOf #[.ref T1, .ref T2] kr) ∈ base := hbase ▸ .head _
    have hmT1 : (T1, tupO (.str dr1.1 a1) (.str dr1.2 b1)) ∈ base := hbase ▸ .tail _ (.head _)
    have hmT2 : (T2, tupO (.str dr2.1 a2) (.str dr2.2 b2)) ∈ base := hbase ▸ .tail _ (.tail _ (.head _))
    have N9 : News (ghostOf sh.heap [(243, 239)]) sh.heap.objs.size _ base := hbase ▸ N9
    k_dflt refine Assign_ListComp_T (_F₀ := F9) rfl (by with_unfolding_all rfl) (by with_unfolding_all rfl) (by decide) rfl (by decide) rfl rfl rfl (fun _ _ => rfl) ?_
    k_steps
    rename Fr (ghostOf sh.heap _) _ _ _ => F8
    rename News (ghostOf sh.heap _) _ _ base => N8
    refine ⟨2, [(R, listOf #[.ref T1, .ref T2] kr)], base, _, fun i => Texts (wr2 ([dr1, dr2].take i)), fun _ => True, F8, N8, (fun p hp => (List.mem_singleton.mp hp) ▸ hmR), Texts.nil, trivial, (fun _ _ _ => trivial), Iters.list (vs := [.ref T1, .ref T2]) rfl N8 hmR, ?turn, ?fin⟩
    case turn =>
      intro C D hCD off
      refine ⟨fun _ _ => True, fun _ _ _ => trivial, ?_⟩
      intro i v ys I oI oC m₂ h tk E' hi hv hys hoC _ hm2 hIC hID hoI F' N' _
      obtain ⟨T, r, a, b, rfl, hT, hri, hrl⟩ : ∃ T r a b, v = .ref T ∧ (T, tupO (.str r.1 a) (.str r.2 b)) ∈ base ∧ [dr1, dr2][i]? = some r ∧ RuleOk r.1 r.2 a b := by
        match i, hv with
        | 0, hv => exact ⟨_, _, _, _, (Option.some.inj hv).symm, hmT1, rfl, hr1⟩
        | 1, hv => exact ⟨_, _, _, _, (Option.some.inj hv).symm, hmT2, rfl, hr2⟩
      obtain ⟨-, -, -, -, hrl1, hrl2⟩ := hrl
      dsimp only
      rw [wr2_succ hri]
      clear F8 N8
      k_steps
      refine Stop.out ?_
      rename Fr (ghostOf sh.heap _) _ _ _ => F8
      rename News (ghostOf sh.heap _) _ _ ((C, oC) :: (D, _) :: (I, oI) :: base) => N8
      refine inner_last (d := 1) (n := 2) (Iters.tup rfl N8 (.tail _ (.tail _ (.tail _ hT)))) (fun p hp => (List.mem_singleton.mp hp) ▸ .tail _ hT) rfl rfl rfl (by decide) hCD (fm_cons (⟨hIC, hID⟩) (off)) (fun _ => True) (fun _ _ _ => trivial) (fun j => Texts (wr2 ([dr1, dr2].take i) ++ [esc r.1, esc r.2].take j)) (fun j ys h => h.len ▸ wr2_small dr1 dr2 _ i j (Nat.le_refl _)) ⟨_, _, rfl⟩ F8 N8 hoC trivial (by simpa using hys) ?_
      clear F8 N8
      intro j v ys I2 oI2 oC m₂ h tk E' hj hv hys hoC _ hm2 F' N' htk0
      obtain ⟨x, tx, rfl, hx, hxl⟩ : ∃ x tx, v = .str x tx ∧ [esc r.1, esc r.2][j]? = some (esc x) ∧ x.length ≤ 1000 := by
        match j, hv with
        | 0, hv => exact ⟨_, _, (Option.some.inj hv).symm, rfl, by omega⟩
        | 1, hv => exact ⟨_, _, (Option.some.inj hv).symm, rfl, by omega⟩
      k_steps
      rename Fr (ghostOf sh.heap _) _ _ _ => F8
      rename News (ghostOf sh.heap _) _ _ _ => N8
      refine LEnd.intro F8 N8 ?_
      rw [List.take_add_one, hx, ← List.append_assoc]
      exact hys.snoc
    case fin =>
      rintro ys D h tk hys N' hlt F'
      have hys : Texts (wr2 [dr1, dr2]) ys := hys
      have hrd := rd_all hf4 hp3 hgl hq3
      rw [← hdr1, ← hdr2] at hrd
      simp only [rdOk, Bool.and_eq_true, Nat.ble_eq] at hrd
      obtain ⟨⟨hjk, hjl⟩, hrd⟩ := hrd
      subst hbase
      k_lt hlt
      have N' : News (ghostOf sh.heap [(243, 239)]) sh.heap.objs.size _ ((D, LCg.lst ys) :: (R, listOf #[.ref T1, .ref T2] kr) :: (T1, tupO (.str dr1.1 a1) (.str dr1.2 b1)) :: (T2, tupO (.str dr2.1 a2) (.str dr2.2 b2)) :: (S, listOf #[.str " " s1, .str "\"" s2] 0) :: (NL, listOf #[.int n0 u0, .int n1 u1, .int n2 u2, .int n3 u3, .int n4 u4] 0) :: (sh.heap.objs.size + 1 + 1 + 1 + 1, o4) :: (sh.heap.objs.size + 1 + 1 + 1, o3) :: (sh.heap.objs.size + 1 + 1, o2) :: (sh.heap.objs.size + 1, o1) :: (239, tabObj #[]) :: []) := N'
      clear hmR hmT1 hmT2 N8 F8
      dsimp only
      k_steps
      refine Stop.out ?_
      rename Fr (ghostOf sh.heap _) _ _ _ => F9
      rename News (ghostOf sh.heap _) _ _ _ => N9
      refine join_texts N9 (.head _) hys hjk ?_
      intro tj kj
      obtain ⟨jt, hjt⟩ : ∃ z, z = Txt.join (Str.ofString "\" \"") (wr2 [dr1, dr2]) := ⟨_, rfl⟩
      unfold wtext at hrd
      rw [← hjt] at hjl hrd ⊢
      clear hjk hys
      k_steps
      refine Stop.out ?_
      rename Fr (ghostOf sh.heap _) _ _ _ => F9
      rename News (ghostOf sh.heap _) _ _ _ => N9
      have htl : (Str.ofString "\"" ++ jt ++ Str.ofString "\"").length ≤ 1000 := by
        rw [Str.length_append, Str.length_append, show (Str.ofString "\"").length = 1 from by decide +kernel]; omega
      rename (KX _).In _ => X9
      refine Con.use (lex_con w ((D, LCg.lst ys) :: (R, listOf #[.ref T1, .ref T2] kr) :: (T1, tupO (.str dr1.1 a1) (.str dr1.2 b1)) :: (T2, tupO (.str dr2.1 a2) (.str dr2.2 b2)) :: (S, listOf #[.str " " s1, .str "\"" s2] 0) :: (NL, listOf #[.int n0 u0, .int n1 u1, .int n2 u2, .int n3 u3, .int n4 u4] 0) :: (sh.heap.objs.size + 1 + 1 + 1 + 1, o4) :: (sh.heap.objs.size + 1 + 1 + 1, o3) :: (sh.heap.objs.size + 1 + 1, o2) :: (sh.heap.objs.size + 1, o1) :: []) (Str.ofString "\"" ++ jt ++ Str.ofString "\"") _ htl ?h1) K9 F9 X9 (News.sub N9 (by k_allIn)) T9 rfl (by ktr_room) (by ktr_units) ?_
      case h1 =>
        intro p hp b hb
        rw [List.mem_singleton.mp hb]
        revert p
        k_all
      rintro r9 h' tk' news' F' N' hp90
      try k_fold
      obtain ⟨c', oc, l, hl, hc', hac, hoc, hLX⟩ := hp90
      refine hLX.elim ?_
      clear hLX
      rintro x dx pb xs dxs pb2 la f cell fc fod fd fsl co kl t u rfl hNS hord rfl
      simp only [AllLt] at hac hord
      clear F9 N9 hjt
      k_steps
      refine Stop.out ?_
      rename Fr (ghostOf sh.heap _) _ _ _ => F9
      rename News (ghostOf sh.heap _) _ _ _ => N9
      rename _ = Data.cell (some (Value.ref x)) => d3'
      obtain ⟨o3', d3', N9⟩ : ∃ o3' : Obj, o3'.data = .cell (some (.ref x)) ∧ News (ghostOf sh.heap [(243, 239)]) sh.heap.objs.size _ ((pb, listOf #[] 0) :: (la, listOf (strValues l).toArray kl) :: (f, (⟨fc, fod, .func fd, fsl⟩ : Obj)) :: (c', oc) :: (cell, co) :: (dx, lexO w.params t (1) (.ref xs) (pb)) :: (x, instObj 83 dx) :: (dxs, strO w.params u (pb2) (f)) :: (xs, instObj 83 dxs) :: (239, tabObj #[rawInt 178, rawInt 4, .ref c']) :: (D, LCg.lst ys) :: (R, listOf #[.ref T1, .ref T2] kr) :: (T1, tupO (.str dr1.1 a1) (.str dr1.2 b1)) :: (T2, tupO (.str dr2.1 a2) (.str dr2.2 b2)) :: (S, listOf #[.str " " s1, .str "\"" s2] 0) :: (NL, listOf #[.int n0 u0, .int n1 u1, .int n2 u2, .int n3 u3, .int n4 u4] 0) :: (sh.heap.objs.size + 1 + 1 + 1 + 1, o4) :: (sh.heap.objs.size + 1 + 1 + 1, o3') :: (sh.heap.objs.size + 1 + 1, o2) :: (sh.heap.objs.size + 1, o1) :: []) := ⟨_, d3', News.sub N9 (by k_allIn)⟩
      clear d3
      rw [← hl] at hrd
      obtain ⟨cs1, cs2, hstep⟩ := rd_steps hrd
      clear hrd hl
      refine wpAny_Assign_Name ?_ (by with_unfolding_all rfl)
      k_dflt refine ListComp_N (_F₀ := F9) (by with_unfolding_all rfl) (by decide) rfl (by decide) rfl ?_
      k_steps
      rename Fr (ghostOf sh.heap _) _ _ _ => F8
      rename News (ghostOf sh.heap _) _ _ _ => N8
      refine SrcN.list (vs := [.ref T1, .ref T2]) (k := kr) (news := (pb, listOf #[] 0) :: (la, listOf (strValues l).toArray kl) :: (f, (⟨fc, fod, .func fd, fsl⟩ : Obj)) :: (c', oc) :: (cell, co) :: (dx, lexO w.params t (1) (.ref xs) (pb)) :: (x, instObj 83 dx) :: (dxs, strO w.params u (pb2) (f)) :: (xs, instObj 83 dxs) :: (239, tabObj #[rawInt 178, rawInt 4, .ref c']) :: (D, LCg.lst ys) :: (R, listOf #[.ref T1, .ref T2] kr) :: (T1, tupO (.str dr1.1 a1) (.str dr1.2 b1)) :: (T2, tupO (.str dr2.1 a2) (.str dr2.2 b2)) :: (S, listOf #[.str " " s1, .str "\"" s2] 0) :: (NL, listOf #[.int n0 u0, .int n1 u1, .int n2 u2, .int n3 u3, .int n4 u4] 0) :: (sh.heap.objs.size + 1 + 1 + 1 + 1, o4) :: (sh.heap.objs.size + 1 + 1 + 1, o3') :: (sh.heap.objs.size + 1 + 1, o2) :: (sh.heap.objs.size + 1, o1) :: []) (fun i yz nx => ∃ kl ts, yz = refsOf ts ∧ TabIs ts ([dr1, dr2].take i) ∧ AllGt pb ts ∧ nx = ts ++ ((pb, listOf #[] 0) :: (la, listOf (strValues (pick3 l cs1 cs2 i)).toArray kl) :: (f, (⟨fc, fod, .func fd, fsl⟩ : Obj)) :: (c', oc) :: (cell, co) :: (dx, lexO w.params t (1) (.ref xs) (pb)) :: (x, instObj 83 dx) :: (dxs, strO w.params u (pb2) (f)) :: (xs, instObj 83 dxs) :: (239, tabObj #[rawInt 178, rawInt 4, .ref c']) :: (D, LCg.lst ys) :: (R, listOf #[.ref T1, .ref T2] kr) :: (T1, tupO (.str dr1.1 a1) (.str dr1.2 b1)) :: (T2, tupO (.str dr2.1 a2) (.str dr2.2 b2)) :: (S, listOf #[.str " " s1, .str "\"" s2] 0) :: (NL, listOf #[.int n0 u0, .int n1 u1, .int n2 u2, .int n3 u3, .int n4 u4] 0) :: (sh.heap.objs.size + 1 + 1 + 1 + 1, o4) :: (sh.heap.objs.size + 1 + 1 + 1, o3') :: (sh.heap.objs.size + 1 + 1, o2) :: (sh.heap.objs.size + 1, o1) :: [])) rfl F8 N8 (by k_memK) (Nat.le_of_ble_eq_true rfl) ⟨kl, [], rfl, trivial, trivial, rfl⟩ ?turn2 ?fin2
      case turn2 =>
        clear F8 N8
        refine TurnN.plain rfl ?_
        rintro i v ysX nx I oI C oC DX m₂ h tk E' hi hv hp90 hsr hyl hC' hx' F' N' off' ne'
        try k_fold
        obtain ⟨kl, ts, rfl, htab, hgt, rfl⟩ := hp90
        obtain ⟨csM, r1, r2, q, hch1, hcl1, hsk1, hbd1, hch2, hcl2, hsk2, hbd2, hqi⟩ := hstep i hi
        clear hstep
        obtain ⟨tl, htl⟩ : ∃ z, z = (I, oI) :: (DX, LCg.lst (refsOf ts)) :: (ts ++ (239, tabObj #[rawInt 178, rawInt 4, .ref c']) :: (D, LCg.lst ys) :: (R, listOf #[.ref T1, .ref T2] kr) :: (T1, tupO (.str dr1.1 a1) (.str dr1.2 b1)) :: (T2, tupO (.str dr2.1 a2) (.str dr2.2 b2)) :: (S, listOf #[.str " " s1, .str "\"" s2] 0) :: (NL, listOf #[.int n0 u0, .int n1 u1, .int n2 u2, .int n3 u3, .int n4 u4] 0) :: (sh.heap.objs.size + 1 + 1 + 1 + 1, o4) :: (sh.heap.objs.size + 1 + 1 + 1, o3') :: (sh.heap.objs.size + 1 + 1, o2) :: (sh.heap.objs.size + 1, o1) :: []) := ⟨_, rfl⟩
        have hla := off' (la, listOf (strValues (pick3 l cs1 cs2 i)).toArray kl) (List.mem_append_right _ (.tail _ (.head _)))
        have hoff : OwnOff tl [la] := by
          rw [htl]
          refine own_cons (Ne.symm hla.1) (own_cons (Ne.symm hla.2.2) (own_app (own_gt (by omega) hgt) ?_))
          intro p hp b hb
          rw [List.mem_singleton.mp hb]
          revert p
          k_all
        have hsub1 : ∀ z ∈ (sh.heap.objs.size + 1 + 1 + 1, o3') :: (la, listOf (strValues (pick3 l cs1 cs2 i)).toArray kl) :: (f, (⟨fc, fod, .func fd, fsl⟩ : Obj)) :: (c', oc) :: (cell, co) :: (dx, lexO w.params t (1) (.ref xs) (pb)) :: (x, instObj 83 dx) :: (dxs, strO w.params u (pb2) (f)) :: (xs, instObj 83 dxs) :: (pb, listOf #[] 0) :: [], z ∈ (pb, listOf #[] 0) :: (la, listOf (strValues (pick3 l cs1 cs2 i)).toArray kl) :: (f, (⟨fc, fod, .func fd, fsl⟩ : Obj)) :: (c', oc) :: (cell, co) :: (dx, lexO w.params t (1) (.ref xs) (pb)) :: (x, instObj 83 dx) :: (dxs, strO w.params u (pb2) (f)) :: (xs, instObj 83 dxs) :: (239, tabObj #[rawInt 178, rawInt 4, .ref c']) :: (D, LCg.lst ys) :: (R, listOf #[.ref T1, .ref T2] kr) :: (T1, tupO (.str dr1.1 a1) (.str dr1.2 b1)) :: (T2, tupO (.str dr2.1 a2) (.str dr2.2 b2)) :: (S, listOf #[.str " " s1, .str "\"" s2] 0) :: (NL, listOf #[.int n0 u0, .int n1 u1, .int n2 u2, .int n3 u3, .int n4 u4] 0) :: (sh.heap.objs.size + 1 + 1 + 1 + 1, o4) :: (sh.heap.objs.size + 1 + 1 + 1, o3') :: (sh.heap.objs.size + 1 + 1, o2) :: (sh.heap.objs.size + 1, o1) :: [] := by k_allIn
        have hsub2 : ∀ z ∈ (239, tabObj #[rawInt 178, rawInt 4, .ref c']) :: (D, LCg.lst ys) :: (R, listOf #[.ref T1, .ref T2] kr) :: (T1, tupO (.str dr1.1 a1) (.str dr1.2 b1)) :: (T2, tupO (.str dr2.1 a2) (.str dr2.2 b2)) :: (S, listOf #[.str " " s1, .str "\"" s2] 0) :: (NL, listOf #[.int n0 u0, .int n1 u1, .int n2 u2, .int n3 u3, .int n4 u4] 0) :: (sh.heap.objs.size + 1 + 1 + 1 + 1, o4) :: (sh.heap.objs.size + 1 + 1 + 1, o3') :: (sh.heap.objs.size + 1 + 1, o2) :: (sh.heap.objs.size + 1, o1) :: [], z ∈ (pb, listOf #[] 0) :: (la, listOf (strValues (pick3 l cs1 cs2 i)).toArray kl) :: (f, (⟨fc, fod, .func fd, fsl⟩ : Obj)) :: (c', oc) :: (cell, co) :: (dx, lexO w.params t (1) (.ref xs) (pb)) :: (x, instObj 83 dx) :: (dxs, strO w.params u (pb2) (f)) :: (xs, instObj 83 dxs) :: (239, tabObj #[rawInt 178, rawInt 4, .ref c']) :: (D, LCg.lst ys) :: (R, listOf #[.ref T1, .ref T2] kr) :: (T1, tupO (.str dr1.1 a1) (.str dr1.2 b1)) :: (T2, tupO (.str dr2.1 a2) (.str dr2.2 b2)) :: (S, listOf #[.str " " s1, .str "\"" s2] 0) :: (NL, listOf #[.int n0 u0, .int n1 u1, .int n2 u2, .int n3 u3, .int n4 u4] 0) :: (sh.heap.objs.size + 1 + 1 + 1 + 1, o4) :: (sh.heap.objs.size + 1 + 1 + 1, o3') :: (sh.heap.objs.size + 1 + 1, o2) :: (sh.heap.objs.size + 1, o1) :: [] := by k_allIn
        have N2 := News.sub (new := (C, oC) :: (sh.heap.objs.size + 1 + 1 + 1, o3') :: (la, listOf (strValues (pick3 l cs1 cs2 i)).toArray kl) :: (f, (⟨fc, fod, .func fd, fsl⟩ : Obj)) :: (c', oc) :: (cell, co) :: (dx, lexO w.params t (1) (.ref xs) (pb)) :: (x, instObj 83 dx) :: (dxs, strO w.params u (pb2) (f)) :: (xs, instObj 83 dxs) :: (pb, listOf #[] 0) :: tl) N' (fun z hz => by
          rcases List.mem_cons.mp hz with rfl | hz
          · exact .tail _ (.head _)
          · have hz : z ∈ ((sh.heap.objs.size + 1 + 1 + 1, o3') :: (la, listOf (strValues (pick3 l cs1 cs2 i)).toArray kl) :: (f, (⟨fc, fod, .func fd, fsl⟩ : Obj)) :: (c', oc) :: (cell, co) :: (dx, lexO w.params t (1) (.ref xs) (pb)) :: (x, instObj 83 dx) :: (dxs, strO w.params u (pb2) (f)) :: (xs, instObj 83 dxs) :: (pb, listOf #[] 0) :: []) ++ tl := hz
            rcases List.mem_append.mp hz with hz | hz
            · have hz2 := hsub1 z hz
              exact .tail _ (.tail _ (.tail _ (List.mem_append_right _ hz2)))
            · rw [htl] at hz
              rcases List.mem_cons.mp hz with rfl | hz
              · exact .head _
              rcases List.mem_cons.mp hz with rfl | hz
              · exact .tail _ (.tail _ (.head _))
              rcases List.mem_append.mp hz with hz | hz
              · exact .tail _ (.tail _ (.tail _ (List.mem_append_left _ hz)))
              · have hz2 := hsub2 z hz
                exact .tail _ (.tail _ (.tail _ (List.mem_append_right _ hz2))))
        clear N' hsub1 hsub2
        replace hoff : Box _ := ⟨hoff⟩
        replace hch1 : Box _ := ⟨hch1⟩
        replace hch2 : Box _ := ⟨hch2⟩
        replace off' : Box _ := ⟨off'⟩
        replace hsr : Box _ := ⟨hsr⟩
        k_steps
        refine Stop.out ?_
        rename (KX _).In _ => X9
        rename Fr (ghostOf sh.heap _) _ _ _ => F9
        rename News (ghostOf sh.heap _) _ _ _ => N9
        refine Con.use (tok_con w ((C, oC) :: (sh.heap.objs.size + 1 + 1 + 1, o3') :: tl) x dx pb xs dxs pb2 la f c' cell fc fod fd fsl oc co t u 1 kl 0 (pick3 l cs1 cs2 i) r1 csM q.1 hNS ?ho ?h1 ?h2 ?h3 ?h4 ?h5 hcl1 hch1.out hsk1 hbd1) K9 F9 X9 (News.sub N9 (by k_allIn)) T9 rfl (by ktr_room) (by ktr_units) ?_
        case ho => exact own_cons (Ne.symm hla.2.1) (own_cons (show @Ne Nat (sh.heap.objs.size + 1 + 1 + 1) la by omega) hoff.out)
        case h1 => omega
        case h2 => omega
        case h3 => omega
        case h4 => omega
        case h5 => omega
        rintro r9 h' tk' news' F' N' hp90
        try k_fold
        obtain ⟨kl1, tt1, rfl, rfl⟩ := hp90
        clear F9 N9
        k_steps
        refine Stop.out ?_
        rename (KX _).In _ => X9
        rename Fr (ghostOf sh.heap _) _ _ _ => F9
        rename News (ghostOf sh.heap _) _ _ _ => N9
        refine Con.use (tok_con w ((C, oC) :: (sh.heap.objs.size + 1 + 1 + 1, o3') :: tl) x dx pb xs dxs pb2 la f c' cell fc fod fd fsl oc co t u 1 kl1 0 csM r2 (pick3 l cs1 cs2 (i + 1)) q.2 hNS ?ho ?h1 ?h2 ?h3 ?h4 ?h5 hcl2 hch2.out hsk2 hbd2) K9 F9 X9 (News.sub N9 (by k_allIn)) T9 rfl (by ktr_room) (by ktr_units) ?_
        case ho => exact own_cons (Ne.symm hla.2.1) (own_cons (show @Ne Nat (sh.heap.objs.size + 1 + 1 + 1) la by omega) hoff.out)
        case h1 => omega
        case h2 => omega
        case h3 => omega
        case h4 => omega
        case h5 => omega
        rintro r9 h' tk' news' F' N' hp90
        try k_fold
        obtain ⟨kl2, tt2, rfl, rfl⟩ := hp90
        clear F9 N9
        k_steps
        rename Fr (ghostOf sh.heap _) _ _ _ => F9
        rename News (ghostOf sh.heap _) _ _ _ => N9
        rename Addr => DT
        obtain ⟨N9, hpbD, hCD, htlD⟩ : News (ghostOf sh.heap [(243, 239)]) sh.heap.objs.size _ ((DT, tupO (.str q.1 tt1) (.str q.2 tt2)) :: (la, listOf (strValues (pick3 l cs1 cs2 (i + 1))).toArray kl2) :: (f, (⟨fc, fod, .func fd, fsl⟩ : Obj)) :: (c', oc) :: (cell, co) :: (dx, lexO w.params t (1) (.ref xs) (pb)) :: (x, instObj 83 dx) :: (dxs, strO w.params u (pb2) (f)) :: (xs, instObj 83 dxs) :: (pb, listOf #[] 0) :: (C, oC) :: (sh.heap.objs.size + 1 + 1 + 1, o3') :: tl) ∧ @LT.lt Nat _ pb DT ∧ @LT.lt Nat _ C DT ∧ AllLt DT tl := by
          have hlo := (by assumption : @LT.lt Nat _ la _ ∧ _ ∧ _ ∧ _ ∧ _ ∧ _ ∧ _ ∧ _ ∧ _ ∧ _ ∧ _ ∧ AllLt _ tl)
          exact ⟨N9, hlo.2.2.2.2.2.2.2.2.1, hlo.2.2.2.2.2.2.2.2.2.1, hlo.2.2.2.2.2.2.2.2.2.2.2⟩
        have hItl : (I, oI) ∈ tl := htl ▸ .head _
        have hDtl : (DX, LCg.lst (refsOf ts)) ∈ tl := htl ▸ .tail _ (.head _)
        have htsl : ∀ z ∈ ts, z ∈ tl := htl ▸ fun z hz => .tail _ (.tail _ (List.mem_append_left _ hz))
        have htal : ∀ z ∈ (239, tabObj #[rawInt 178, rawInt 4, .ref c']) :: (D, LCg.lst ys) :: (R, listOf #[.ref T1, .ref T2] kr) :: (T1, tupO (.str dr1.1 a1) (.str dr1.2 b1)) :: (T2, tupO (.str dr2.1 a2) (.str dr2.2 b2)) :: (S, listOf #[.str " " s1, .str "\"" s2] 0) :: (NL, listOf #[.int n0 u0, .int n1 u1, .int n2 u2, .int n3 u3, .int n4 u4] 0) :: (sh.heap.objs.size + 1 + 1 + 1 + 1, o4) :: (sh.heap.objs.size + 1 + 1 + 1, o3') :: (sh.heap.objs.size + 1 + 1, o2) :: (sh.heap.objs.size + 1, o1) :: [], z ∈ tl := htl ▸ fun z hz => .tail _ (.tail _ (List.mem_append_right _ hz))
        have hall : ∀ z ∈ tl, z ∈ (DT, tupO (.str q.1 tt1) (.str q.2 tt2)) :: (la, listOf (strValues (pick3 l cs1 cs2 (i + 1))).toArray kl2) :: (f, (⟨fc, fod, .func fd, fsl⟩ : Obj)) :: (c', oc) :: (cell, co) :: (dx, lexO w.params t (1) (.ref xs) (pb)) :: (x, instObj 83 dx) :: (dxs, strO w.params u (pb2) (f)) :: (xs, instObj 83 dxs) :: (pb, listOf #[] 0) :: (C, oC) :: (sh.heap.objs.size + 1 + 1 + 1, o3') :: tl := fun z hz => by repeat' (first | exact hz | refine List.Mem.tail _ ?_)
        have hexp : ∀ z ∈ (pb, listOf #[] 0) :: (la, listOf (strValues (pick3 l cs1 cs2 (i + 1))).toArray kl2) :: (f, (⟨fc, fod, .func fd, fsl⟩ : Obj)) :: (c', oc) :: (cell, co) :: (dx, lexO w.params t (1) (.ref xs) (pb)) :: (x, instObj 83 dx) :: (dxs, strO w.params u (pb2) (f)) :: (xs, instObj 83 dxs) :: [], z ∈ (DT, tupO (.str q.1 tt1) (.str q.2 tt2)) :: (la, listOf (strValues (pick3 l cs1 cs2 (i + 1))).toArray kl2) :: (f, (⟨fc, fod, .func fd, fsl⟩ : Obj)) :: (c', oc) :: (cell, co) :: (dx, lexO w.params t (1) (.ref xs) (pb)) :: (x, instObj 83 dx) :: (dxs, strO w.params u (pb2) (f)) :: (xs, instObj 83 dxs) :: (pb, listOf #[] 0) :: (C, oC) :: (sh.heap.objs.size + 1 + 1 + 1, o3') :: tl := by k_allIn
        refine NEnd.intro (nx := (ts ++ [(DT, tupO (.str q.1 tt1) (.str q.2 tt2))]) ++ ((pb, listOf #[] 0) :: (la, listOf (strValues (pick3 l cs1 cs2 (i + 1))).toArray kl2) :: (f, (⟨fc, fod, .func fd, fsl⟩ : Obj)) :: (c', oc) :: (cell, co) :: (dx, lexO w.params t (1) (.ref xs) (pb)) :: (x, instObj 83 dx) :: (dxs, strO w.params u (pb2) (f)) :: (xs, instObj 83 dxs) :: (239, tabObj #[rawInt 178, rawInt 4, .ref c']) :: (D, LCg.lst ys) :: (R, listOf #[.ref T1, .ref T2] kr) :: (T1, tupO (.str dr1.1 a1) (.str dr1.2 b1)) :: (T2, tupO (.str dr2.1 a2) (.str dr2.2 b2)) :: (S, listOf #[.str " " s1, .str "\"" s2] 0) :: (NL, listOf #[.int n0 u0, .int n1 u1, .int n2 u2, .int n3 u3, .int n4 u4] 0) :: (sh.heap.objs.size + 1 + 1 + 1 + 1, o4) :: (sh.heap.objs.size + 1 + 1 + 1, o3') :: (sh.heap.objs.size + 1 + 1, o2) :: (sh.heap.objs.size + 1, o1) :: [])) F9 N9 ?e1 ?e2 ?e3 ⟨kl2, ts ++ [(DT, tupO (.str q.1 tt1) (.str q.2 tt2))], by simp [refsOf], ?e4, allGt_snoc hpbD hgt, rfl⟩
        case e1 =>
          intro z hz
          rcases List.mem_cons.mp hz with rfl | hz
          · exact hall _ hItl
          rcases List.mem_cons.mp hz with rfl | hz
          · k_memK
          rcases List.mem_cons.mp hz with rfl | hz
          · exact hall _ hDtl
          rcases List.mem_append.mp hz with hz | hz
          · rcases List.mem_append.mp hz with hz | hz
            · exact hall _ (htsl z hz)
            · rw [List.mem_singleton.mp hz]; exact .head _
          · have hz : z ∈ ((pb, listOf #[] 0) :: (la, listOf (strValues (pick3 l cs1 cs2 (i + 1))).toArray kl2) :: (f, (⟨fc, fod, .func fd, fsl⟩ : Obj)) :: (c', oc) :: (cell, co) :: (dx, lexO w.params t (1) (.ref xs) (pb)) :: (x, instObj 83 dx) :: (dxs, strO w.params u (pb2) (f)) :: (xs, instObj 83 dxs) :: []) ++ ((239, tabObj #[rawInt 178, rawInt 4, .ref c']) :: (D, LCg.lst ys) :: (R, listOf #[.ref T1, .ref T2] kr) :: (T1, tupO (.str dr1.1 a1) (.str dr1.2 b1)) :: (T2, tupO (.str dr2.1 a2) (.str dr2.2 b2)) :: (S, listOf #[.str " " s1, .str "\"" s2] 0) :: (NL, listOf #[.int n0 u0, .int n1 u1, .int n2 u2, .int n3 u3, .int n4 u4] 0) :: (sh.heap.objs.size + 1 + 1 + 1 + 1, o4) :: (sh.heap.objs.size + 1 + 1 + 1, o3') :: (sh.heap.objs.size + 1 + 1, o2) :: (sh.heap.objs.size + 1, o1) :: []) := hz
            rcases List.mem_append.mp hz with hz | hz
            · exact hexp z hz
            · exact hall _ (htal z hz)
        case e2 =>
          intro z hz
          rcases List.mem_append.mp hz with hz | hz
          · rcases List.mem_append.mp hz with hz | hz
            · exact off'.out z (List.mem_append_left _ hz)
            · rw [List.mem_singleton.mp hz]
              exact ⟨Nat.ne_of_gt (ktn_ltOf htlD _ hItl), Nat.ne_of_gt hCD, Nat.ne_of_gt (ktn_ltOf htlD _ hDtl)⟩
          · rcases List.mem_cons.mp hz with rfl | hz
            · exact off'.out _ (List.mem_append_right _ (.head _))
            rcases List.mem_cons.mp hz with rfl | hz
            · exact hla
            · exact off'.out z (List.mem_append_right _ (.tail _ (.tail _ hz)))
        case e3 => exact fun p hp => (List.mem_singleton.mp hp) ▸ List.mem_append_right _ (by k_memK)
        case e4 =>
          rw [List.take_add_one, hqi]
          exact htab.snoc rfl
      case fin2 =>
        rintro yz RD nx h tk ⟨kl9, ts, rfl, htab, hgt, rfl⟩ - N' hne F'
        obtain ⟨U1, U2, x1, y1, x2, y2, rfl, hU1, hU2⟩ := tabis_two htab hgt
        have hRD4 : @Ne Nat (sh.heap.objs.size + 1 + 1 + 1 + 1) RD := hne (sh.heap.objs.size + 1 + 1 + 1 + 1, o4) (by k_memK)
        have N2 := News.sub (new := (239, tabObj #[rawInt 178, rawInt 4, .ref c']) :: (c', oc) :: (RD, listOf #[.ref U1, .ref U2] 2) :: (U1, tupO (.str dr1.1 x1) (.str dr1.2 y1)) :: (U2, tupO (.str dr2.1 x2) (.str dr2.2 y2)) :: (R, listOf #[.ref T1, .ref T2] kr) :: (T1, tupO (.str dr1.1 a1) (.str dr1.2 b1)) :: (T2, tupO (.str dr2.1 a2) (.str dr2.2 b2)) :: (S, listOf #[.str " " s1, .str "\"" s2] 0) :: (NL, listOf #[.int n0 u0, .int n1 u1, .int n2 u2, .int n3 u3, .int n4 u4] 0) :: (sh.heap.objs.size + 1 + 1 + 1 + 1, o4) :: (sh.heap.objs.size + 1 + 1, o2) :: (sh.heap.objs.size + 1, o1) :: []) N' (by k_allIn)
        have F2 := Fr.al (m := fun z => if z = Str.ofString "written" then some (Value.ref D) else al [("rules", .ref R)] m₁ z) [("rules", .ref R)] F' (fun p hp => by rw [List.mem_singleton.mp hp]; with_unfolding_all rfl)
        have hc2 : @LT.lt Nat _ sh.heap.objs.size c' ∧ @LT.lt Nat _ (sh.heap.objs.size + 1 + 1 + 1 + 1) c' := by omega
        have hU3 : @LT.lt Nat _ (sh.heap.objs.size + 1 + 1 + 1 + 1) U1 ∧ @LT.lt Nat _ (sh.heap.objs.size + 1 + 1 + 1 + 1) U2 := by omega
        have hT3 : @LT.lt Nat _ l0 T1 ∧ @LT.lt Nat _ l0 T2 := ⟨hT1, hT2⟩
        clear F' N' F8 N8 hne hgt htab hord hac hstep hNS d3' hU1 hU2 hT1 hT2
        dsimp only
        k_steps
        refine Stop.out ?_
        k_here
        dsimp only
        rename Fr (ghostOf sh.heap _) _ _ _ => F9
        rename News (ghostOf sh.heap _) _ _ _ => N9
        have hr1 := reads_tuple_at (News.get (a := U1) (o := tupO (.str dr1.1 x1) (.str dr1.2 y1)) N9 (by k_memK)) rfl rfl (ReadsAll.cons (Reads.str _ _) (ReadsAll.cons (Reads.str _ _) ReadsAll.nil))
        have hr2 := reads_tuple_at (News.get (a := U2) (o := tupO (.str dr2.1 x2) (.str dr2.2 y2)) N9 (by k_memK)) rfl rfl (ReadsAll.cons (Reads.str _ _) (ReadsAll.cons (Reads.str _ _) ReadsAll.nil))
        have hr3 := reads_tuple_at (News.get (a := T1) (o := tupO (.str dr1.1 a1) (.str dr1.2 b1)) N9 (by k_memK)) rfl rfl (ReadsAll.cons (Reads.str _ _) (ReadsAll.cons (Reads.str _ _) ReadsAll.nil))
        have hr4 := reads_tuple_at (News.get (a := T2) (o := tupO (.str dr2.1 a2) (.str dr2.2 b2)) N9 (by k_memK)) rfl rfl (ReadsAll.cons (Reads.str _ _) (ReadsAll.cons (Reads.str _ _) ReadsAll.nil))
        have hr5 := reads_list_at (News.get (a := RD) (o := listOf #[.ref U1, .ref U2] 2) N9 (by k_memK)) rfl rfl (ReadsAll.cons hr1 (ReadsAll.cons hr2 ReadsAll.nil))
        have hr6 := reads_list_at (News.get (a := R) (o := listOf #[.ref T1, .ref T2] kr) N9 (by k_memK)) rfl rfl (ReadsAll.cons hr3 (ReadsAll.cons hr4 ReadsAll.nil))
        k_dflt (refine ne_dataH hr5 hr6 (shaped4 hso1 hso2) (shaped4 hso1 hso2) (by ke_room) ?_)
        ked_norm
        clear hr1 hr2 hr3 hr4 hr5 hr6
        k_steps
        refine Stop.out ?_
        rename Fr (ghostOf sh.heap _) _ _ _ => F9
        rename News (ghostOf sh.heap _) _ _ _ => N9
        rename _ = Data.cell (some (Value.ref RD)) => d4'
        obtain ⟨o4', d4', N9⟩ : ∃ o4' : Obj, o4'.data = .cell (some (.ref RD)) ∧ News (ghostOf sh.heap [(243, 239)]) sh.heap.objs.size _ ((239, tabObj #[rawInt 178, rawInt 4, .ref c']) :: (c', oc) :: (RD, listOf #[.ref U1, .ref U2] 2) :: (U1, tupO (.str dr1.1 x1) (.str dr1.2 y1)) :: (U2, tupO (.str dr2.1 x2) (.str dr2.2 y2)) :: (R, listOf #[.ref T1, .ref T2] kr) :: (T1, tupO (.str dr1.1 a1) (.str dr1.2 b1)) :: (T2, tupO (.str dr2.1 a2) (.str dr2.2 b2)) :: (S, listOf #[.str " " s1, .str "\"" s2] 0) :: (NL, listOf #[.int n0 u0, .int n1 u1, .int n2 u2, .int n3 u3, .int n4 u4] 0) :: (sh.heap.objs.size + 1 + 1 + 1 + 1, o4') :: (sh.heap.objs.size + 1 + 1, o2) :: (sh.heap.objs.size + 1, o1) :: []) := ⟨_, d4', News.sub N9 (by k_allIn)⟩
        clear d4
        obtain ⟨bs, hbs⟩ : ∃ z, z = (239, tabObj #[rawInt 178, rawInt 4, .ref c']) :: (c', oc) :: (RD, listOf #[.ref U1, .ref U2] 2) :: (U1, tupO (.str dr1.1 x1) (.str dr1.2 y1)) :: (U2, tupO (.str dr2.1 x2) (.str dr2.2 y2)) :: (R, listOf #[.ref T1, .ref T2] kr) :: (T1, tupO (.str dr1.1 a1) (.str dr1.2 b1)) :: (T2, tupO (.str dr2.1 a2) (.str dr2.2 b2)) :: (S, listOf #[.str " " s1, .str "\"" s2] 0) :: (NL, listOf #[.int n0 u0, .int n1 u1, .int n2 u2, .int n3 u3, .int n4 u4] 0) :: (sh.heap.objs.size + 1 + 1 + 1 + 1, o4') :: (sh.heap.objs.size + 1 + 1, o2) :: (sh.heap.objs.size + 1, o1) :: [] := ⟨_, rfl⟩
        have hmS : (S, listOf #[.str " " s1, .str "\"" s2] 0) ∈ bs := hbs ▸ (by k_memK)
        have hmo2 : (sh.heap.objs.size + 1 + 1, o2) ∈ bs := hbs ▸ (by k_memK)
        have N9 : News (ghostOf sh.heap [(243, 239)]) sh.heap.objs.size _ ((sh.heap.objs.size + 1 + 1, o2) :: bs) := News.sub N9 (by rw [← hbs]; exact fm_cons (hmo2) (fun _ h => h))
        k_dflt refine Assign_ListComp_T (_F₀ := F9) rfl (by with_unfolding_all rfl) (by with_unfolding_all rfl) (by decide) rfl (by decide) rfl rfl rfl (fun _ _ => rfl) ?_
        k_steps
        rename Fr (ghostOf sh.heap _) _ _ _ => F8
        rename News (ghostOf sh.heap _) _ _ _ => N8
        refine ⟨2, [(S, listOf #[.str " " s1, .str "\"" s2] 0)], (sh.heap.objs.size + 1 + 1, o2) :: bs, _, fun i => Texts ((sg2.take i).flatMap st1), fun _ => True, F8, N8, (fun p hp => (List.mem_singleton.mp hp) ▸ .tail _ hmS), Texts.nil, trivial, (fun _ _ _ => trivial), Iters.list (vs := [.str " " s1, .str "\"" s2]) rfl N8 (.tail _ hmS), ?turn3, ?fin3⟩
        case turn3 =>
          intro C D hCD off
          refine ⟨fun _ _ => True, fun _ _ _ => trivial, ?_⟩
          intro i v ys I oI oC m₂ h tk E' hi hv hys hoC _ hm2 hIC hID hoI F' N' _
          obtain ⟨a, ta, rfl, ha⟩ := sgn_pick i v hv
          clear F8 N8
          replace off : Box _ := ⟨off⟩
          k_steps
          refine Stop.out ?_
          rename Fr (ghostOf sh.heap _) _ _ _ => F8
          rename News (ghostOf sh.heap _) _ _ ((C, oC) :: (D, _) :: (I, oI) :: _) => N8
          try dsimp only
          rw [st0_succ ha]
          refine wpAny_mono (inner_mid (d := 1) (n := 2) (x := Str.ofString "two") (Iters.list (vs := [.str " " s1, .str "\"" s2]) rfl N8 (.tail _ (.tail _ (.tail _ (.tail _ hmS))))) (fun p hp => (List.mem_singleton.mp hp) ▸ .tail _ (.tail _ hmS)) rfl rfl rfl (by decide) (fun _ => rfl) hCD (fm_cons (⟨hIC, hID⟩) (off.out))
            (fun m' => m' (Str.ofString "one") = some (.str (encS [a]) ta)) (fun m' v h => by show (if Str.ofString "one" = Str.ofString "two" then _ else _) = _; rw [if_neg (by decide +kernel)]; exact h) (fun _ m' => m' (Str.ofString "one") = some (.str (encS [a]) ta)) (fun _ _ h => h) (fun j => Texts ((sg2.take i).flatMap st1 ++ (sg2.take j).flatMap (st2 a))) ⟨_, _, rfl⟩ F8 N8 hoC hm2 (by simpa using hys) ?_)
            (fun it s h => codeAny_mono h fun r s' h => h.weak (fun _ _ => trivial) (fun ys h => h)) (fun _ _ e => e)
          clear F8 N8
          intro j v ys I1 oI1 oC m₂ h tk E' hj hv hys hoC hone htwo hIC1 hID1 F' N' _
          obtain ⟨b, tb, rfl, hb⟩ := sgn_pick j v hv
          k_steps
          refine Stop.out ?_
          rename Fr (ghostOf sh.heap _) _ _ _ => F8
          rename News (ghostOf sh.heap _) _ _ ((C, oC) :: (D, _) :: (I1, oI1) :: _) => N8
          try dsimp only
          rw [st1_succ hb, ← List.append_assoc]
          refine wpAny_mono (inner_last (d := 2) (n := 2) (x := Str.ofString "three") (Iters.list (vs := [.str " " s1, .str "\"" s2]) rfl N8 (.tail _ (.tail _ (.tail _ (.tail _ (.tail _ hmS)))))) (fun p hp => (List.mem_singleton.mp hp) ▸ .tail _ (.tail _ (.tail _ hmS))) rfl rfl rfl (by decide) hCD (fm_cons (⟨hIC1, hID1⟩) (fm_cons (⟨hIC, hID⟩) (off.out)))
            (fun m' => m' (Str.ofString "one") = some (.str (encS [a]) ta) ∧ m' (Str.ofString "two") = some (.str (encS [b]) tb)) (fun m' v h => by show (if Str.ofString "one" = Str.ofString "three" then _ else _) = _ ∧ (if Str.ofString "two" = Str.ofString "three" then _ else _) = _; rw [if_neg (by decide +kernel), if_neg (by decide +kernel)]; exact h) (fun k => Texts ((sg2.take i).flatMap st1 ++ (sg2.take j).flatMap (st2 a) ++ (sg2.take k).map fun c => encS [a, b, c])) (fun k ys h => h.len ▸ st_small a b i j k) ⟨_, _, rfl⟩ F8 N8 hoC ⟨hone, htwo⟩ (by simpa using hys) ?_)
            (fun it s h => codeAny_mono h fun r s' h => h.weak (fun _ h => h.1) (fun ys h => h)) (fun _ _ e => e)
          clear F8 N8
          intro k v ys I2 oI2 oC m₂ h tk E' hk hv hys hoC htwo3 hthree F' N' _
          obtain ⟨hone3, htwo3⟩ := htwo3
          obtain ⟨c, tc, rfl, hc⟩ := sgn_pick k v hv
          k_steps
          rename Fr (ghostOf sh.heap _) _ _ _ => F8
          rename News (ghostOf sh.heap _) _ _ _ => N8
          refine LEnd.intro F8 N8 ?_
          rw [st2_succ hc, encS_app, encS_app, ← List.append_assoc]
          exact hys.snoc
        case fin3 =>
          rintro ys SD h tk hys N' hlt F'
          have hys : Texts (starts3.map encS) ys := hys
          subst hbs
          k_lt hlt
          have N2 := News.sub (new := (SD, LCg.lst ys) :: (239, tabObj #[rawInt 178, rawInt 4, .ref c']) :: (c', oc) :: (RD, listOf #[.ref U1, .ref U2] 2) :: (U1, tupO (.str dr1.1 x1) (.str dr1.2 y1)) :: (U2, tupO (.str dr2.1 x2) (.str dr2.2 y2)) :: (R, listOf #[.ref T1, .ref T2] kr) :: (T1, tupO (.str dr1.1 a1) (.str dr1.2 b1)) :: (T2, tupO (.str dr2.1 a2) (.str dr2.2 b2)) :: (S, listOf #[.str " " s1, .str "\"" s2] 0) :: (NL, listOf #[.int n0 u0, .int n1 u1, .int n2 u2, .int n3 u3, .int n4 u4] 0) :: (sh.heap.objs.size + 1 + 1 + 1 + 1, o4') :: (sh.heap.objs.size + 1 + 1, o2) :: (sh.heap.objs.size + 1, o1) :: []) N' (by k_allIn)
          have F2 := Fr.al [("rules", .ref R), ("starts", .ref SD)] F' (fun p hp => by
            rcases List.mem_cons.mp hp with rfl | hp
            · with_unfolding_all rfl
            · rw [List.mem_singleton.mp hp]; with_unfolding_all rfl)
          clear F' N' F8 N8 hmS hmo2
          dsimp only
          k_steps
          refine Stop.out ?_
          rename Fr (ghostOf sh.heap _) _ _ _ => F9
          rename News (ghostOf sh.heap _) _ _ _ => N9
          obtain ⟨nx0, hnx⟩ : ∃ z, z = (SD, LCg.lst ys) :: (239, tabObj #[rawInt 178, rawInt 4, .ref c']) :: (c', oc) :: (RD, listOf #[.ref U1, .ref U2] 2) :: (U1, tupO (.str dr1.1 x1) (.str dr1.2 y1)) :: (U2, tupO (.str dr2.1 x2) (.str dr2.2 y2)) :: (R, listOf #[.ref T1, .ref T2] kr) :: (T1, tupO (.str dr1.1 a1) (.str dr1.2 b1)) :: (T2, tupO (.str dr2.1 a2) (.str dr2.2 b2)) :: (S, listOf #[.str " " s1, .str "\"" s2] 0) :: (NL, listOf #[.int n0 u0, .int n1 u1, .int n2 u2, .int n3 u3, .int n4 u4] 0) :: (sh.heap.objs.size + 1 + 1 + 1 + 1, o4') :: (sh.heap.objs.size + 1 + 1, o2) :: (sh.heap.objs.size + 1, o1) :: [] := ⟨_, rfl⟩
          have N9 := News.sub (new := nx0) N9 (by rw [hnx]; k_allIn)
          have hmSD : (SD, LCg.lst ys) ∈ nx0 := hnx ▸ .head _
          have hexp : ∀ z ∈ (239, tabObj #[rawInt 178, rawInt 4, .ref c']) :: (c', oc) :: (RD, listOf #[.ref U1, .ref U2] 2) :: (U1, tupO (.str dr1.1 x1) (.str dr1.2 y1)) :: (U2, tupO (.str dr2.1 x2) (.str dr2.2 y2)) :: (sh.heap.objs.size + 1 + 1 + 1 + 1, o4') :: [], z ∈ nx0 := by rw [hnx]; k_allIn
          k_dflt refine ListComp_N (_F₀ := F9) (by with_unfolding_all rfl) (by decide) rfl (by decide) rfl ?_
          k_steps
          rename Fr (ghostOf sh.heap _) _ _ _ => F8
          rename News (ghostOf sh.heap _) _ _ _ => N8
          have hysl : ys.length ≤ sizeLine := by rw [hys.len, sizeLine_eq]; decide
          refine SrcN.list (vs := ys) (k := ys.length) (news := nx0) (fun i yz nx => nx = nx0 ∧ Texts (badS RL (starts3.take i)) yz) rfl F8 N8 hmSD hysl ⟨rfl, Texts.nil⟩ ?turn4 ?fin4
          case turn4 =>
            clear F8 N8
            refine TurnN.test rfl ?_
            rintro i v yz nx I oI C oC DX m₂ h tk E' hi hv hp90 hsr hyl hC' hx' F' N' off' ne'
            try k_fold
            obtain ⟨rfl, hyz⟩ := hp90
            obtain ⟨w0, hw0, hwi⟩ : ∃ w0, (∃ t0, v = .str (encS w0) t0) ∧ starts3[i]? = some w0 := by
              obtain ⟨x0, t0, rfl, h0⟩ := hys.at hv
              rw [List.getElem?_map, Option.map_eq_some_iff] at h0
              obtain ⟨w0, h1, rfl⟩ := h0
              exact ⟨w0, ⟨t0, rfl⟩, h1⟩
            obtain ⟨t0, rfl⟩ := hw0
            have hwm := List.mem_of_getElem? hwi
            obtain ⟨fin, hrun, hone⟩ := start_runs hRLc hwm
            rw [hRLe] at hrun
            have hbad := badS_succ (rules := RL) hwi
            obtain ⟨tl, htl⟩ : ∃ z, z = (I, oI) :: (DX, LCg.lst yz) :: nx := ⟨_, rfl⟩
            have N2 := News.sub (new := (239, tabObj #[rawInt 178, rawInt 4, .ref c']) :: (c', oc) :: (RD, listOf #[.ref U1, .ref U2] 2) :: (U1, tupO (.str dr1.1 x1) (.str dr1.2 y1)) :: (U2, tupO (.str dr2.1 x2) (.str dr2.2 y2)) :: (sh.heap.objs.size + 1 + 1 + 1 + 1, o4') :: (C, oC) :: tl) N' (fun z hz => by
              have hz : z ∈ ((239, tabObj #[rawInt 178, rawInt 4, .ref c']) :: (c', oc) :: (RD, listOf #[.ref U1, .ref U2] 2) :: (U1, tupO (.str dr1.1 x1) (.str dr1.2 y1)) :: (U2, tupO (.str dr2.1 x2) (.str dr2.2 y2)) :: (sh.heap.objs.size + 1 + 1 + 1 + 1, o4') :: []) ++ ((C, oC) :: tl) := hz
              rcases List.mem_append.mp hz with hz | hz
              · exact .tail _ (.tail _ (.tail _ (hexp z hz)))
              rcases List.mem_cons.mp hz with rfl | hz
              · exact .tail _ (.head _)
              rw [htl] at hz
              rcases List.mem_cons.mp hz with rfl | hz
              · exact .head _
              rcases List.mem_cons.mp hz with rfl | hz
              · exact .tail _ (.tail _ (.head _))
              · exact .tail _ (.tail _ (.tail _ hz)))
            have hs1 : ∀ z ∈ (I, oI) :: (C, oC) :: (DX, LCg.lst yz) :: nx, z ∈ (C, oC) :: tl := fun z hz => by
              rcases List.mem_cons.mp hz with rfl | hz
              · exact .tail _ (htl ▸ .head _)
              rcases List.mem_cons.mp hz with rfl | hz
              · exact .head _
              · exact .tail _ (htl ▸ .tail _ hz)
            clear N'
            replace hexp : Box _ := ⟨hexp⟩
            replace off' : Box _ := ⟨off'⟩
            replace hsr : Box _ := ⟨hsr⟩
            k_steps
            refine Stop.out ?_
            rename (KX _).In _ => X9
            rename Fr (ghostOf sh.heap _) _ _ _ => F9
            rename News (ghostOf sh.heap _) _ _ _ => N9
            refine Con.use (ends_con w ((sh.heap.objs.size + 1 + 1 + 1 + 1, o4') :: (C, oC) :: tl) c' oc hoc (show @Ne Nat c' 239 by omega) RD U1 U2 2 dr1.1 dr1.2 dr2.1 dr2.2 (encS w0) x1 y1 x2 y2 t0 (starts_len hwm) hem1 hem2 (Nat.le_trans hr1.2.2.2.2.1 hr1.2.2.2.2.2) (Nat.le_trans hr2.2.2.2.2.1 hr2.2.2.2.2.2) 40 fin hrun) K9 F9 X9 (News.sub N9 (by k_allIn)) T9 rfl (by ktr_room) (by ktr_units) ?_
            rintro r9 h' tk' news' F' N' hp90
            try k_fold
            obtain ⟨DE, nE, yl, rfl, hyl, rfl⟩ := hp90
            have hens := ends_small hrun
            clear F9 N9 hrun
            have hlen : yl.length = (endsOf fin).length := by rw [← hyl, List.length_map]
            k_steps
            refine Stop.out ?_
            rename (KX _).In _ => X9
            rename Fr (ghostOf sh.heap _) _ _ _ => F9
            rename News (ghostOf sh.heap _) _ _ _ => N9
            have hsz9 : (strValues yl).toArray.size = (endsOf fin).length := by simp [strValues, hlen]
            refine PySem.Calls.call_len_list (items := (strValues yl).toArray) ⟨_, (N9 _ (.head _)).1, rfl, _, rfl⟩ (by rw [hsz9]; omega) ?_
            rw [hsz9]
            obtain ⟨n9, hn9⟩ : ∃ n, n = (endsOf fin).length := ⟨_, rfl⟩
            rw [← hn9] at hone hens ⊢
            clear hsz9 hlen hyl hn9
            k_steps
            all_goals (rename Fr (ghostOf sh.heap _) _ _ _ => F9)
            all_goals (rename News (ghostOf sh.heap _) _ _ _ => N9)
            · have hn1 : ¬ n9 = 1 := by omega
              have hf0 : oneB RL w0 = false := by rw [← hone]; exact beq_eq_false_iff_ne.mpr hn1
              refine NEnd.intro (nx := nx) F9 N9 (fun z hz => ?_) off'.out hsr.out ⟨rfl, ?_⟩
              · have hz2 := hs1 z hz
                repeat' (first | exact hz2 | refine List.Mem.tail _ ?_)
              · rw [hbad, hf0]
                exact hyz.snoc
            · have hn1 : n9 = 1 := by omega
              have hf0 : oneB RL w0 = true := by rw [← hone, hn1]; rfl
              refine NEnd.intro (nx := nx) F9 N9 (fun z hz => ?_) off'.out hsr.out ⟨rfl, ?_⟩
              · have hz2 := hs1 z hz
                repeat' (first | exact hz2 | refine List.Mem.tail _ ?_)
              · rw [hbad, hf0, if_pos rfl, List.append_nil]
                exact hyz
          case fin4 =>
            rintro yz BD nx h tk ⟨rfl, hyz⟩ - N' hne F'
            have hyz : Texts (badS RL starts3) yz := by
              rw [List.take_of_length_le (show starts3.length ≤ ys.length by rw [hys.len, List.length_map]; exact Nat.le_refl _)] at hyz
              exact hyz
            subst hnx
            clear hne hmSD hexp F8 N8 hysl
            dsimp only
            k_steps
            refine Stop.out ?_
            rename Fr (ghostOf sh.heap _) _ _ _ => F9
            rename News (ghostOf sh.heap _) _ _ _ => N9
            refine eq_texts N9 (ys := yz) (zs := []) (by k_memK) (by k_memK) hyz Texts.nil (bad_sok RL) rfl (by ke_room) ?_
            rw [badS_nil]
            have hag := single_agree hRLc
            rw [hRLe] at hag
            obtain ⟨sb, hsb⟩ : ∃ sb, sb = singleB RL := ⟨_, rfl⟩
            rw [← hsb] at hag ⊢
            have N2 := News.sub (new := (239, tabObj #[rawInt 178, rawInt 4, .ref c']) :: (c', oc) :: (RD, listOf #[.ref U1, .ref U2] 2) :: (U1, tupO (.str dr1.1 x1) (.str dr1.2 y1)) :: (U2, tupO (.str dr2.1 x2) (.str dr2.2 y2)) :: (R, listOf #[.ref T1, .ref T2] kr) :: (T1, tupO (.str dr1.1 a1) (.str dr1.2 b1)) :: (T2, tupO (.str dr2.1 a2) (.str dr2.2 b2)) :: (S, listOf #[.str " " s1, .str "\"" s2] 0) :: (NL, listOf #[.int n0 u0, .int n1 u1, .int n2 u2, .int n3 u3, .int n4 u4] 0) :: (sh.heap.objs.size + 1 + 1 + 1 + 1, o4') :: (sh.heap.objs.size + 1 + 1, o2) :: (sh.heap.objs.size + 1, o1) :: []) N9 (by k_allIn)
            clear N9 hyz hys
            k_steps
            refine Stop.out ?_
            rename (KX _).In _ => X9
            rename Fr (ghostOf sh.heap _) _ _ _ => F9
            rename News (ghostOf sh.heap _) _ _ _ => N9
            refine Con.useE (agree_con w ((239, tabObj #[rawInt 178, rawInt 4, .ref c']) :: (c', oc) :: (RD, listOf #[.ref U1, .ref U2] 2) :: (U1, tupO (.str dr1.1 x1) (.str dr1.2 y1)) :: (U2, tupO (.str dr2.1 x2) (.str dr2.2 y2)) :: (S, listOf #[.str " " s1, .str "\"" s2] 0) :: (NL, listOf #[.int n0 u0, .int n1 u1, .int n2 u2, .int n3 u3, .int n4 u4] 0) :: (sh.heap.objs.size + 1 + 1 + 1 + 1, o4') :: (sh.heap.objs.size + 1 + 1, o2) :: (sh.heap.objs.size + 1, o1) :: []) R T1 T2 kr dr1.1 dr1.2 dr2.1 dr2.2 a1 b1 a2 b2 hr1 hr2 htw1 htw2) K9 F9 X9 (News.sub N9 (by k_allIn)) T9 rfl (by ktr_room) (by ktr_units) ?_
            intro h' tk' F' N'
            try k_fold
            rw [← hag]
            clear F9 N9
            k_steps
            refine Stop.out ?_
            rename Fr (ghostOf sh.heap _) _ _ _ => F9
            rename News (ghostOf sh.heap _) _ _ _ => N9
            obtain ⟨nx0, hnx⟩ : ∃ z, z = (239, tabObj #[rawInt 178, rawInt 4, .ref c']) :: (c', oc) :: (RD, listOf #[.ref U1, .ref U2] 2) :: (U1, tupO (.str dr1.1 x1) (.str dr1.2 y1)) :: (U2, tupO (.str dr2.1 x2) (.str dr2.2 y2)) :: (R, listOf #[.ref T1, .ref T2] kr) :: (T1, tupO (.str dr1.1 a1) (.str dr1.2 b1)) :: (T2, tupO (.str dr2.1 a2) (.str dr2.2 b2)) :: (S, listOf #[.str " " s1, .str "\"" s2] 0) :: (NL, listOf #[.int n0 u0, .int n1 u1, .int n2 u2, .int n3 u3, .int n4 u4] 0) :: (sh.heap.objs.size + 1 + 1 + 1 + 1, o4') :: (sh.heap.objs.size + 1 + 1, o2) :: (sh.heap.objs.size + 1, o1) :: [] := ⟨_, rfl⟩
            have N9 := News.sub (new := nx0) N9 (by rw [hnx]; k_allIn)
            have hexp : ∀ z ∈ (NL, listOf #[.int n0 u0, .int n1 u1, .int n2 u2, .int n3 u3, .int n4 u4] 0) :: (S, listOf #[.str " " s1, .str "\"" s2] 0) :: (sh.heap.objs.size + 1 + 1, o2) :: (sh.heap.objs.size + 1, o1) :: [], z ∈ nx0 := by rw [hnx]; k_allIn
            k_dflt refine ListComp_N (_F₀ := F9) (by with_unfolding_all rfl) (by decide) rfl (by decide) rfl ?_
            k_steps
            rename Fr (ghostOf sh.heap _) _ _ _ => F8
            rename News (ghostOf sh.heap _) _ _ _ => N8
            refine SrcN.range 5 (fun i yz nx => nx = nx0 ∧ ∃ bl : List Bool, bl.length = i ∧ Texts (bl.map fun b => encS [b]) yz) rfl F8 (News.sub (new := nx0) N8 (fun z hz => by repeat' (first | exact hz | refine List.Mem.tail _ ?_))) (by assumption) (by decide) (by decide) (by rw [sizeLine_eq]; decide) ⟨rfl, [], rfl, Texts.nil⟩ ?turn5 ?fin5
            case turn5 =>
              clear F8 N8
              refine TurnN.plain rfl ?_
              rintro i v yz nx I oI C oC DX m₂ h tk E' hi hp90 hp91 hsr hyl hC' hx' F' N' off' ne'
              try k_fold
              obtain ⟨tv, rfl⟩ := hp90
              obtain ⟨rfl, bl, hbl, hyz⟩ := hp91
              obtain ⟨tl, htl⟩ : ∃ z, z = (I, oI) :: (DX, LCg.lst yz) :: nx := ⟨_, rfl⟩
              have N2 := News.sub (new := (NL, listOf #[.int n0 u0, .int n1 u1, .int n2 u2, .int n3 u3, .int n4 u4] 0) :: (S, listOf #[.str " " s1, .str "\"" s2] 0) :: (sh.heap.objs.size + 1 + 1, o2) :: (sh.heap.objs.size + 1, o1) :: (C, oC) :: tl) N' (fun z hz => by
                have hz : z ∈ ((NL, listOf #[.int n0 u0, .int n1 u1, .int n2 u2, .int n3 u3, .int n4 u4] 0) :: (S, listOf #[.str " " s1, .str "\"" s2] 0) :: (sh.heap.objs.size + 1 + 1, o2) :: (sh.heap.objs.size + 1, o1) :: []) ++ ((C, oC) :: tl) := hz
                rcases List.mem_append.mp hz with hz | hz
                · exact .tail _ (.tail _ (.tail _ (hexp z hz)))
                rcases List.mem_cons.mp hz with rfl | hz
                · exact .tail _ (.head _)
                rw [htl] at hz
                rcases List.mem_cons.mp hz with rfl | hz
                · exact .head _
                rcases List.mem_cons.mp hz with rfl | hz
                · exact .tail _ (.tail _ (.head _))
                · exact .tail _ (.tail _ (.tail _ hz)))
              have hs1 : ∀ z ∈ (I, oI) :: (C, oC) :: (DX, LCg.lst yz) :: nx, z ∈ (C, oC) :: tl := fun z hz => by
                rcases List.mem_cons.mp hz with rfl | hz
                · exact .tail _ (htl ▸ .head _)
                rcases List.mem_cons.mp hz with rfl | hz
                · exact .head _
                · exact .tail _ (htl ▸ .tail _ hz)
              clear N'
              replace hs1 : Box _ := ⟨hs1⟩
              replace hexp : Box _ := ⟨hexp⟩
              replace off' : Box _ := ⟨off'⟩
              replace hsr : Box _ := ⟨hsr⟩
              have long_end : ∀ {b : Bool} {t : Tok} {h8 : Heap} {tk8 : Nat} {all : List (Addr × Obj)} {s8 : Shared}, (∀ z ∈ (C, oC) :: tl, z ∈ all) → Fr (ghostOf sh.heap [(243, 239)]) sh.heap.objs.size h8 (fun z => if z = Str.ofString "single" then some (Value.bool sb) else al [("rules", .ref R), ("starts", .ref SD)] (fun z => if z = Str.ofString "starts" then some (Value.ref SD) else al [("rules", .ref R)] (fun z => if z = Str.ofString "written" then some (Value.ref D) else al [("rules", .ref R)] m₁ z) z) z) → News (ghostOf sh.heap [(243, 239)]) sh.heap.objs.size h8 all →
                  NEnd (ghostOf sh.heap [(243, 239)]) sh.heap.objs.size (fun z => if z = Str.ofString "single" then some (Value.bool sb) else al [("rules", .ref R), ("starts", .ref SD)] (fun z => if z = Str.ofString "starts" then some (Value.ref SD) else al [("rules", .ref R)] (fun z => if z = Str.ofString "written" then some (Value.ref D) else al [("rules", .ref R)] m₁ z) z) z) s8 I oI C oC DX (LCg.lst yz) [] (fun nx' => nx' = nx ∧ ∃ bl : List Bool, bl.length = i + 1 ∧ Texts (bl.map fun b => encS [b]) (yz ++ [.str (encS [b]) t])) { s8 with heap := h8, toks := tk8 } := by
                intro b t h8 tk8 all s8 ha F8 N8
                exact NEnd.intro (nx := nx) F8 N8 (fun z hz => ha z (hs1.out z hz)) off'.out hsr.out ⟨rfl, bl ++ [b], by rw [List.length_append, hbl]; rfl, by rw [List.map_append]; exact hyz.snoc⟩
              rcases (show i = 0 ∨ i = 1 ∨ i = 2 ∨ i = 3 ∨ i = 4 by omega) with rfl | rfl | rfl | rfl | rfl
              all_goals k_steps
              all_goals (rename Fr (ghostOf sh.heap _) _ _ _ => F9)
              all_goals (rename News (ghostOf sh.heap _) _ _ _ => N9)
              all_goals (first | exact long_end (b := true) (fun z hz => by repeat' (first | exact hz | refine List.Mem.tail _ ?_)) F9 N9 | exact long_end (b := false) (fun z hz => by repeat' (first | exact hz | refine List.Mem.tail _ ?_)) F9 N9)
            case fin5 =>
              rintro yz LD nx h tk ⟨rfl, bl, hbl, hyz⟩ - N' hne F'
              subst hnx
              clear F8 N8 hexp hne
              obtain ⟨hjk, hjt⟩ := long_ok hbl
              dsimp only
              k_steps
              refine Stop.out ?_
              rename Fr (ghostOf sh.heap _) _ _ _ => F9
              rename News (ghostOf sh.heap _) _ _ _ => N9
              refine join_texts N9 (.head _) hyz hjk ?_
              intro tj kj
              rw [hjt]
              have N2 := News.sub (new := (239, tabObj #[rawInt 178, rawInt 4, .ref c']) :: (c', oc) :: (RD, listOf #[.ref U1, .ref U2] 2) :: (U1, tupO (.str dr1.1 x1) (.str dr1.2 y1)) :: (U2, tupO (.str dr2.1 x2) (.str dr2.2 y2)) :: (R, listOf #[.ref T1, .ref T2] kr) :: (T1, tupO (.str dr1.1 a1) (.str dr1.2 b1)) :: (T2, tupO (.str dr2.1 a2) (.str dr2.2 b2)) :: (S, listOf #[.str " " s1, .str "\"" s2] 0) :: (NL, listOf #[.int n0 u0, .int n1 u1, .int n2 u2, .int n3 u3, .int n4 u4] 0) :: (sh.heap.objs.size + 1 + 1 + 1 + 1, o4') :: (sh.heap.objs.size + 1 + 1, o2) :: (sh.heap.objs.size + 1, o1) :: []) N9 (by k_allIn)
              clear N9 hjk hjt hyz
              cases sb with
              | false => k_steps
              | true =>
                obtain ⟨fin, hrun, hfin⟩ := long_runs hRLc hsb.symm (mem_longs bl hbl) (show bl.length ≤ 5 by omega)
                obtain ⟨hpl, hpo⟩ := plain_word RL hbl
                rw [hRLe] at hrun hfin hpl hpo
                have hbl5 : (encS bl).length ≤ 10 := by rw [encS_len]; omega
                k_steps
                refine Stop.out ?_
                rename (KX _).In _ => X9
                rename Fr (ghostOf sh.heap _) _ _ _ => F9
                rename News (ghostOf sh.heap _) _ _ _ => N9
                refine Con.use (ends_con w ((R, listOf #[.ref T1, .ref T2] kr) :: (T1, tupO (.str dr1.1 a1) (.str dr1.2 b1)) :: (T2, tupO (.str dr2.1 a2) (.str dr2.2 b2)) :: []) c' oc hoc (show @Ne Nat c' 239 by omega) RD U1 U2 2 dr1.1 dr1.2 dr2.1 dr2.2 (encS bl) x1 y1 x2 y2 _ hbl5 hem1 hem2 (Nat.le_trans hr1.2.2.2.2.1 hr1.2.2.2.2.2) (Nat.le_trans hr2.2.2.2.2.1 hr2.2.2.2.2.2) 40 fin hrun) K9 F9 X9 (News.sub N9 (by k_allIn)) T9 rfl (by ktr_room) (by ktr_units) ?_
                rintro r9 h' tk' news' F' N' hp90
                try k_fold
                obtain ⟨DE, nE, yl, rfl, hyl, rfl⟩ := hp90
                rw [hfin] at hyl
                clear F9 N9 hrun hfin
                k_steps
                refine Stop.out ?_
                rename (KX _).In _ => X9
                rename Fr (ghostOf sh.heap _) _ _ _ => F9
                rename News (ghostOf sh.heap _) _ _ _ => N9
                refine Con.useX (plain_con w ((DE, listOf (strValues yl).toArray nE) :: (239, tabObj #[rawInt 178, rawInt 4, .ref c']) :: (c', oc) :: []) R T1 T2 kr dr1.1 dr1.2 dr2.1 dr2.2 (encS bl) a1 b1 a2 b2 _ hr1 hr2 (show (encS bl).length ≤ 20 by omega)) K9 F9 X9 (News.sub N9 (by k_allIn)) T9 rfl (by ktr_room) (by ktr_units) ?_
                intro tp h' tk' F' N'
                try k_fold
                obtain ⟨pw, hpw⟩ : ∃ z, z = plainOf [(dr1.1, dr1.2), (dr2.1, dr2.2)] (encS bl) := ⟨_, rfl⟩
                rw [← hpw] at hyl hpl hpo ⊢
                clear F9 N9 hpw
                k_steps
                refine Stop.out ?_
                rename Fr (ghostOf sh.heap _) _ _ _ => F9
                rename News (ghostOf sh.heap _) _ _ _ => N9
                refine eq_texts N9 (ys := strValues yl) (zs := [.str (Str.ofString "<" ++ pw ++ Str.ofString ">") _]) (l := [Str.ofString "<" ++ pw ++ Str.ofString ">"]) (by k_memK) (by k_memK) ⟨yl, rfl, hyl⟩ Texts.nil.snoc (by simpa using hpo) (by simpa using hpo) (by ke_room) ?_
                rw [List.nil_append, beq_self_eq_true]
                clear hyl hpl hpo hbl5 hbl hem1 hem2 hso1 hso2 htw1 htw2 hr1 hr2 hdr1 hdr2 hsb hag hRLc hRLe
                k_steps
end PL2
end Mine
theorem PySem.Challenge.cw_pg0279_02_holds : PySem.Challenge.rw_pg0279_02.Holds :=
  Mine.law2
