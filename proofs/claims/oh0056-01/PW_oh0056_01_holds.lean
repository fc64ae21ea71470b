import PyProof.Rows.All
import Wide.All
import OpenK.AllK
import Wide.FinOn
import PySem.Challenge.RW_oh0056_01
set_option Elab.async false
set_option maxRecDepth 100000
set_option maxHeartbeats 0
set_option linter.all false
section
open PySem PySem.W PySem.W.X PySem.W.ZRun PyProof.Rows PySem.Calls PySem.Spec
namespace Mine
/-- the i-th statement of the text -/
noncomputable def topS (i : Nat) : Stmt := PySem.Challenge.pw_oh0056_01.main.body.getD i (.Pass ⟨0, 0, 0, 0⟩)
noncomputable def clsBody : Stmt → List Stmt
  | .ClassDef _ _ _ body .. => body
  | _ => []
noncomputable def inS (i j : Nat) : Stmt := (clsBody (topS i)).getD j (.Pass ⟨0, 0, 0, 0⟩)
noncomputable def fParams : Stmt → Arguments
  | .FunctionDef _ args .. => args
  | _ => { posonlyargs := [], args := [], vararg := none, kwonlyargs := [], kw_defaults := [], kwarg := none, defaults := [] }
noncomputable def fBody : Stmt → List Stmt
  | .FunctionDef _ _ body .. => body
  | _ => []
noncomputable def fScope : Stmt → Scope
  | .FunctionDef (scope := scope) .. => scope
  | _ => { kind := .function, names := [], isGenerator := false, isCoroutine := false, more := [] }
/-- a def's object; its three written parts are found by evaluation -/
noncomputable def mkFn (st : Stmt) (name qual : Str) (dV kV doc pm cdv ct : Value) (params : Arguments) (body : List Stmt) (scope : Scope) (_ : fParams st = params) (_ : fBody st = body) (_ : fScope st = scope) : Obj :=
  ⟨.type "function", none, .func (fnOf name qual params body scope dV kV doc pm none cdv ct), #[]⟩
noncomputable def K : Params → Frag := by
  intro P
  refine' (
    (nat_lit 2, ⟨.none, none, .dict #[] 0, #[]⟩) ::
    (nat_lit 3, ⟨(.type "dict"), none, .dict #[⟨PyData.keyHash P (Str.ofString "__name__"), .str (Str.ofString "__name__") 165, (.str (Str.ofString "law_oh0056_01") 515)⟩, ⟨PyData.keyHash P (Str.ofString "__doc__"), .str (Str.ofString "__doc__") 166, .none⟩, ⟨PyData.keyHash P (Str.ofString "__package__"), .str (Str.ofString "__package__") 167, .none⟩, ⟨PyData.keyHash P (Str.ofString "__loader__"), .str (Str.ofString "__loader__") 168, (.builtin "__main__.__loader__#opaque")⟩, ⟨PyData.keyHash P (Str.ofString "__spec__"), .str (Str.ofString "__spec__") 169, .none⟩, ⟨PyData.keyHash P (Str.ofString "__annotations__"), .str (Str.ofString "__annotations__") 170, (.ref 6)⟩, ⟨PyData.keyHash P (Str.ofString "__builtins__"), .str (Str.ofString "__builtins__") 171, (.ref 4)⟩, ⟨PyData.keyHash P (Str.ofString "__file__"), .str (Str.ofString "__file__") 173, (.str (Str.ofString "/claim/cut.py") 172)⟩, ⟨PyData.keyHash P (Str.ofString "__cached__"), .str (Str.ofString "__cached__") 174, .none⟩, ⟨PyData.keyHash P (Str.ofString "_wall"), .str (Str.ofString "_wall") 193, (.ref 21)⟩, ⟨PyData.keyHash P (Str.ofString "sep"), .str (Str.ofString "sep") 195, (.str (Str.ofString "/") 194)⟩, ⟨PyData.keyHash P (Str.ofString "_kind"), .str (Str.ofString "_kind") 206, (.ref 28)⟩, ⟨PyData.keyHash P (Str.ofString "_fspath"), .str (Str.ofString "_fspath") 215, (.ref 35)⟩, ⟨PyData.keyHash P (Str.ofString "splitext"), .str (Str.ofString "splitext") 227, (.ref 42)⟩, ⟨PyData.keyHash P (Str.ofString "_c_path"), .str (Str.ofString "_c_path") 240, (.ref 49)⟩, ⟨PyData.keyHash P (Str.ofString "_splitroot"), .str (Str.ofString "_splitroot") 249, (.ref 56)⟩, ⟨PyData.keyHash P (Str.ofString "basename"), .str (Str.ofString "basename") 257, (.ref 63)⟩, ⟨PyData.keyHash P (Str.ofString "_normpath"), .str (Str.ofString "_normpath") 272, (.ref 70)⟩, ⟨PyData.keyHash P (Str.ofString "normpath"), .str (Str.ofString "normpath") 280, (.ref 77)⟩, ⟨PyData.keyHash P (Str.ofString "_Ignore"), .str (Str.ofString "_Ignore") 322, (.ref 100)⟩, ⟨PyData.keyHash P (Str.ofString "_modname"), .str (Str.ofString "_modname") 332, (.ref 111)⟩, ⟨PyData.keyHash P (Str.ofString "_NODE_OUT"), .str (Str.ofString "_NODE_OUT") 337, (.int (-1) 336)⟩, ⟨PyData.keyHash P (Str.ofString "_NODE_DONE"), .str (Str.ofString "_NODE_DONE") 340, (.int (-2) 339)⟩, ⟨PyData.keyHash P (Str.ofString "_NodeInfo"), .str (Str.ofString "_NodeInfo") 377, (.ref 130)⟩, ⟨PyData.keyHash P (Str.ofString "CycleError"), .str (Str.ofString "CycleError") 395, (.ref 145)⟩, ⟨PyData.keyHash P (Str.ofString "TopologicalSorter"), .str (Str.ofString "TopologicalSorter") 514, (.ref 227)⟩, ⟨PyData.keyHash P (Str.ofString "_law_place"), .str (Str.ofString "_law_place") 522, (.ref 236)⟩, ⟨PyData.keyHash P (Str.ofString "_law_written"), .str (Str.ofString "_law_written") 530, (.ref 243)⟩, ⟨PyData.keyHash P (Str.ofString "_law_out"), .str (Str.ofString "_law_out") 536, (.ref 248)⟩, ⟨PyData.keyHash P (Str.ofString "_law_told"), .str (Str.ofString "_law_told") 554, (.ref 255)⟩, ⟨PyData.keyHash P (Str.ofString "_law_given"), .str (Str.ofString "_law_given") 564, (.ref 262)⟩, ⟨PyData.keyHash P (Str.ofString "_law_all"), .str (Str.ofString "_law_all") 570, (.ref 267)⟩, ⟨PyData.keyHash P (Str.ofString "_law_first"), .str (Str.ofString "_law_first") 576, (.ref 272)⟩, ⟨PyData.keyHash P (Str.ofString "law"), .str (Str.ofString "law") 582, (.ref 277)⟩] 34, #[]⟩) ::
    (nat_lit 20, ⟨(.type "code"), none, .fields #[(.str (Str.ofString "_wall") 187), (.str (Str.ofString "_wall") 188), (.str (Str.ofString "/claim/cut.py") 189), (.int 1 0), (.int 1 0), (.int 0 0), (.int 0 0), (.int 3 0), (.ref 15), (.bool true), (.int 181 0), (.ref 16), .none, (.ref 17), (.ref 18), (.ref 19), (.int 191 0), (.int 1 0), (.str (Str.ofString "/claim/cut.py") 192)], #[]⟩) ::
    (nat_lit 21, mkFn (topS 0) (Str.ofString "_wall") (Str.ofString "_wall") .none .none .none (.str (Str.ofString "__main__") 164) (.ref 20) .none _ _ _ _ _ _) ::
    (nat_lit 27, ⟨(.type "code"), none, .fields #[(.str (Str.ofString "_kind") 198), (.str (Str.ofString "_kind") 199), (.str (Str.ofString "/claim/cut.py") 200), (.int 6 0), (.int 2 0), (.int 0 0), (.int 0 0), (.int 3 0), (.ref 22), (.bool true), (.int 181 0), (.ref 23), .none, (.ref 24), (.ref 25), (.ref 26), (.int 204 0), (.int 6 0), (.str (Str.ofString "/claim/cut.py") 205)], #[]⟩) ::
    (nat_lit 28, mkFn (topS 3) (Str.ofString "_kind") (Str.ofString "_kind") .none .none .none (.str (Str.ofString "os.path") 196) (.ref 27) .none _ _ _ _ _ _) ::
    (nat_lit 34, ⟨(.type "code"), none, .fields #[(.str (Str.ofString "_fspath") 207), (.str (Str.ofString "_fspath") 208), (.str (Str.ofString "/claim/cut.py") 209), (.int 27 0), (.int 2 0), (.int 0 0), (.int 0 0), (.int 3 0), (.ref 29), (.bool true), (.int 181 0), (.ref 30), .none, (.ref 31), (.ref 32), (.ref 33), (.int 213 0), (.int 27 0), (.str (Str.ofString "/claim/cut.py") 214)], #[]⟩) ::
    (nat_lit 35, mkFn (topS 4) (Str.ofString "_fspath") (Str.ofString "_fspath") .none .none .none (.str (Str.ofString "os.path") 196) (.ref 34) .none _ _ _ _ _ _) ::
    (nat_lit 41, ⟨(.type "code"), none, .fields #[(.str (Str.ofString "splitext") 216), (.str (Str.ofString "splitext") 217), (.str (Str.ofString "/claim/cut.py") 218), (.int 32 0), (.int 1 0), (.int 0 0), (.int 0 0), (.int 3 0), (.ref 36), (.bool true), (.int 181 0), (.ref 37), .none, (.ref 38), (.ref 39), (.ref 40), (.int 225 0), (.int 32 0), (.str (Str.ofString "/claim/cut.py") 226)], #[]⟩) ::
    (nat_lit 42, mkFn (topS 5) (Str.ofString "splitext") (Str.ofString "splitext") .none .none .none (.str (Str.ofString "os.path") 196) (.ref 41) .none _ _ _ _ _ _) ::
    (nat_lit 48, ⟨(.type "code"), none, .fields #[(.str (Str.ofString "_c_path") 228), (.str (Str.ofString "_c_path") 229), (.str (Str.ofString "/claim/cut.py") 230), (.int 45 0), (.int 5 0), (.int 0 0), (.int 0 0), (.int 3 0), (.ref 43), (.bool true), (.int 181 0), (.ref 44), .none, (.ref 45), (.ref 46), (.ref 47), (.int 238 0), (.int 45 0), (.str (Str.ofString "/claim/cut.py") 239)], #[]⟩) ::
    (nat_lit 49, mkFn (topS 6) (Str.ofString "_c_path") (Str.ofString "_c_path") .none .none .none (.str (Str.ofString "os.path") 196) (.ref 48) .none _ _ _ _ _ _) ::
    (nat_lit 55, ⟨(.type "code"), none, .fields #[(.str (Str.ofString "_splitroot") 241), (.str (Str.ofString "_splitroot") 242), (.str (Str.ofString "/claim/cut.py") 243), (.int 56 0), (.int 1 0), (.int 0 0), (.int 0 0), (.int 3 0), (.ref 50), (.bool true), (.int 181 0), (.ref 51), .none, (.ref 52), (.ref 53), (.ref 54), (.int 247 0), (.int 56 0), (.str (Str.ofString "/claim/cut.py") 248)], #[]⟩) ::
    (nat_lit 56, mkFn (topS 7) (Str.ofString "_splitroot") (Str.ofString "_splitroot") .none .none .none (.str (Str.ofString "os.path") 196) (.ref 55) .none _ _ _ _ _ _) ::
    (nat_lit 62, ⟨(.type "code"), none, .fields #[(.str (Str.ofString "basename") 250), (.str (Str.ofString "basename") 251), (.str (Str.ofString "/claim/cut.py") 252), (.int 65 0), (.int 1 0), (.int 0 0), (.int 0 0), (.int 3 0), (.ref 57), (.bool true), (.int 181 0), (.ref 58), .none, (.ref 59), (.ref 60), (.ref 61), (.int 255 0), (.int 65 0), (.str (Str.ofString "/claim/cut.py") 256)], #[]⟩) ::
    (nat_lit 63, mkFn (topS 8) (Str.ofString "basename") (Str.ofString "basename") .none .none .none (.str (Str.ofString "os.path") 196) (.ref 62) .none _ _ _ _ _ _) ::
    (nat_lit 69, ⟨(.type "code"), none, .fields #[(.str (Str.ofString "_normpath") 258), (.str (Str.ofString "_normpath") 259), (.str (Str.ofString "/claim/cut.py") 260), (.int 69 0), (.int 1 0), (.int 0 0), (.int 0 0), (.int 3 0), (.ref 64), (.bool true), (.int 181 0), (.ref 65), .none, (.ref 66), (.ref 67), (.ref 68), (.int 270 0), (.int 69 0), (.str (Str.ofString "/claim/cut.py") 271)], #[]⟩) ::
    (nat_lit 70, mkFn (topS 9) (Str.ofString "_normpath") (Str.ofString "_normpath") .none .none .none (.str (Str.ofString "os.path") 196) (.ref 69) .none _ _ _ _ _ _) ::
    (nat_lit 76, ⟨(.type "code"), none, .fields #[(.str (Str.ofString "normpath") 273), (.str (Str.ofString "normpath") 274), (.str (Str.ofString "/claim/cut.py") 275), (.int 88 0), (.int 0 0), (.int 0 0), (.int 0 0), (.int 15 0), (.ref 71), (.bool true), (.int 181 0), (.ref 72), .none, (.ref 73), (.ref 74), (.ref 75), (.int 278 0), (.int 88 0), (.str (Str.ofString "/claim/cut.py") 279)], #[]⟩) ::
    (nat_lit 77, mkFn (topS 10) (Str.ofString "normpath") (Str.ofString "normpath") .none .none .none (.str (Str.ofString "os.path") 196) (.ref 76) .none _ _ _ _ _ _) ::
    (nat_lit 85, ⟨(.type "tuple"), none, .seq #[.none, .none] 0, #[]⟩) ::
    (nat_lit 89, ⟨(.type "code"), none, .fields #[(.str (Str.ofString "__init__") 295), (.str (Str.ofString "_Ignore.__init__") 296), (.str (Str.ofString "/claim/cut.py") 297), (.int 93 0), (.int 3 0), (.int 0 0), (.int 0 0), (.int 3 0), (.ref 86), (.bool true), (.int 181 0), (.ref 87), .none, .none, .none, (.ref 88), (.int 298 0), (.int 93 0), (.str (Str.ofString "/claim/cut.py") 299)], #[]⟩) ::
    (nat_lit 90, mkFn (inS 12 0) (Str.ofString "__init__") (Str.ofString "_Ignore.__init__") (.ref 85) .none .none (.str (Str.ofString "cpy313.trace") 281) (.ref 89) .none _ _ _ _ _ _) ::
    (nat_lit 96, ⟨(.type "code"), none, .fields #[(.str (Str.ofString "names") 301), (.str (Str.ofString "_Ignore.names") 302), (.str (Str.ofString "/claim/cut.py") 303), (.int 98 0), (.int 3 0), (.int 0 0), (.int 0 0), (.int 3 0), (.ref 91), (.bool true), (.int 181 0), (.ref 92), .none, (.ref 93), (.ref 94), (.ref 95), (.int 309 0), (.int 98 0), (.str (Str.ofString "/claim/cut.py") 310)], #[]⟩) ::
    (nat_lit 97, mkFn (inS 12 1) (Str.ofString "names") (Str.ofString "_Ignore.names") .none .none .none (.str (Str.ofString "cpy313.trace") 281) (.ref 96) .none _ _ _ _ _ _) ::
    (nat_lit 99, ⟨(.type "dict"), none, .dict #[⟨PyData.keyHash P (Str.ofString "__module__"), .str (Str.ofString "__module__") 290, (.str (Str.ofString "cpy313.trace") 281)⟩, ⟨PyData.keyHash P (Str.ofString "__firstlineno__"), .str (Str.ofString "__firstlineno__") 294, (.int 91 293)⟩, ⟨PyData.keyHash P (Str.ofString "__init__"), .str (Str.ofString "__init__") 300, (.ref 90)⟩, ⟨PyData.keyHash P (Str.ofString "names"), .str (Str.ofString "names") 311, (.ref 97)⟩, ⟨PyData.keyHash P (Str.ofString "__static_attributes__"), .str (Str.ofString "__static_attributes__") 315, (.ref 98)⟩, ⟨PyData.keyHash P (Str.ofString "__dict__"), .str (Str.ofString "__dict__") 317, (.ref 101)⟩, ⟨PyData.keyHash P (Str.ofString "__weakref__"), .str (Str.ofString "__weakref__") 319, (.ref 102)⟩, ⟨PyData.keyHash P (Str.ofString "__doc__"), .str (Str.ofString "__doc__") 320, .none⟩] 4, #[]⟩) ::
    (nat_lit 100, ⟨(.type "type"), none, .cls { name := (Str.ofString "_Ignore"), bases := [(.type "object")], mro := [(.ref 100), (.type "object")], ns := 99, qualname := (Str.ofString "_Ignore"), hasDict := true, slotNames := [], subclasses := [], abstract := false, collection := none, hasDel := false }, #[none, none, some (.str (Str.ofString "_Ignore") 283), some (.str (Str.ofString "_Ignore") 291), some (.builtin "object.__new__"), some (.bool true)]⟩) ::
    (nat_lit 101, ⟨(.type "getset_descriptor"), none, .fields #[(.str (Str.ofString "__dict__") 316), (.ref 100), (.builtin "function.__dict__"), (.builtin "function.__dict__#set")], #[]⟩) ::
    (nat_lit 102, ⟨(.type "getset_descriptor"), none, .fields #[(.str (Str.ofString "__weakref__") 318), (.ref 100), (.builtin "ExceptionGroup.__weakref__"), .none], #[]⟩) ::
    (nat_lit 110, ⟨(.type "code"), none, .fields #[(.str (Str.ofString "_modname") 323), (.str (Str.ofString "_modname") 324), (.str (Str.ofString "/claim/cut.py") 325), (.int 117 0), (.int 1 0), (.int 0 0), (.int 0 0), (.int 3 0), (.ref 105), (.bool true), (.int 181 0), (.ref 106), .none, (.ref 107), (.ref 108), (.ref 109), (.int 330 0), (.int 117 0), (.str (Str.ofString "/claim/cut.py") 331)], #[]⟩) ::
    (nat_lit 111, mkFn (topS 13) (Str.ofString "_modname") (Str.ofString "_modname") .none .none .none (.str (Str.ofString "cpy313.trace") 281) (.ref 110) .none _ _ _ _ _ _) ::
    (nat_lit 119, ⟨(.type "tuple"), none, .seq #[(.str (Str.ofString "node") 353), (.str (Str.ofString "npredecessors") 354), (.str (Str.ofString "successors") 355)] 0, #[]⟩) ::
    (nat_lit 125, ⟨(.type "code"), none, .fields #[(.str (Str.ofString "__init__") 357), (.str (Str.ofString "_NodeInfo.__init__") 358), (.str (Str.ofString "/claim/cut.py") 359), (.int 127 0), (.int 2 0), (.int 0 0), (.int 0 0), (.int 3 0), (.ref 120), (.bool true), (.int 181 0), (.ref 121), .none, (.ref 122), (.ref 123), (.ref 124), (.int 362 0), (.int 127 0), (.str (Str.ofString "/claim/cut.py") 363)], #[]⟩) ::
    (nat_lit 126, mkFn (inS 17 1) (Str.ofString "__init__") (Str.ofString "_NodeInfo.__init__") .none .none .none (.str (Str.ofString "cpy313.graphlib") 333) (.ref 125) .none _ _ _ _ _ _) ::
    (nat_lit 129, ⟨(.type "dict"), none, .dict #[⟨PyData.keyHash P (Str.ofString "__module__"), .str (Str.ofString "__module__") 348, (.str (Str.ofString "cpy313.graphlib") 333)⟩, ⟨PyData.keyHash P (Str.ofString "__firstlineno__"), .str (Str.ofString "__firstlineno__") 352, (.int 124 351)⟩, ⟨PyData.keyHash P (Str.ofString "__slots__"), .str (Str.ofString "__slots__") 356, (.ref 119)⟩, ⟨PyData.keyHash P (Str.ofString "__init__"), .str (Str.ofString "__init__") 364, (.ref 126)⟩, ⟨PyData.keyHash P (Str.ofString "__static_attributes__"), .str (Str.ofString "__static_attributes__") 368, (.ref 127)⟩, ⟨PyData.keyHash P (Str.ofString "node"), .str (Str.ofString "node") 370, (.ref 131)⟩, ⟨PyData.keyHash P (Str.ofString "npredecessors"), .str (Str.ofString "npredecessors") 372, (.ref 132)⟩, ⟨PyData.keyHash P (Str.ofString "successors"), .str (Str.ofString "successors") 374, (.ref 133)⟩, ⟨PyData.keyHash P (Str.ofString "__doc__"), .str (Str.ofString "__doc__") 375, .none⟩] 5, #[]⟩) ::
    (nat_lit 130, ⟨(.type "type"), none, .cls { name := (Str.ofString "_NodeInfo"), bases := [(.type "object")], mro := [(.ref 130), (.type "object")], ns := 129, qualname := (Str.ofString "_NodeInfo"), hasDict := false, slotNames := [(Str.ofString "node"), (Str.ofString "npredecessors"), (Str.ofString "successors")], subclasses := [], abstract := false, collection := none, hasDel := false }, #[none, none, some (.str (Str.ofString "_NodeInfo") 341), some (.str (Str.ofString "_NodeInfo") 349), some (.builtin "object.__new__"), some (.bool false)]⟩) ::
    (nat_lit 131, ⟨(.type "member_descriptor"), none, .fields #[(.str (Str.ofString "node") 369), (.ref 130), (.builtin "proto.slot"), (.builtin "proto.slot#set"), (.int 2 0)], #[]⟩) ::
    (nat_lit 132, ⟨(.type "member_descriptor"), none, .fields #[(.str (Str.ofString "npredecessors") 371), (.ref 130), (.builtin "proto.slot"), (.builtin "proto.slot#set"), (.int 1 0)], #[]⟩) ::
    (nat_lit 133, ⟨(.type "member_descriptor"), none, .fields #[(.str (Str.ofString "successors") 373), (.ref 130), (.builtin "proto.slot"), (.builtin "proto.slot#set"), (.int 0 0)], #[]⟩) ::
    (nat_lit 144, ⟨(.type "dict"), none, .dict #[⟨PyData.keyHash P (Str.ofString "__module__"), .str (Str.ofString "__module__") 385, (.str (Str.ofString "cpy313.graphlib") 333)⟩, ⟨PyData.keyHash P (Str.ofString "__firstlineno__"), .str (Str.ofString "__firstlineno__") 389, (.int 131 388)⟩, ⟨PyData.keyHash P (Str.ofString "__static_attributes__"), .str (Str.ofString "__static_attributes__") 390, (.ref 143)⟩, ⟨PyData.keyHash P (Str.ofString "__weakref__"), .str (Str.ofString "__weakref__") 392, (.ref 146)⟩, ⟨PyData.keyHash P (Str.ofString "__doc__"), .str (Str.ofString "__doc__") 393, .none⟩] 3, #[]⟩) ::
    (nat_lit 145, ⟨(.type "type"), none, .cls { name := (Str.ofString "CycleError"), bases := [(.type "ValueError")], mro := [(.ref 145), (.type "ValueError"), (.type "Exception"), (.type "BaseException"), (.type "object")], ns := 144, qualname := (Str.ofString "CycleError"), hasDict := true, slotNames := [], subclasses := [], abstract := false, collection := none, hasDel := false }, #[some (.ref 136), none, some (.str (Str.ofString "CycleError") 378), some (.str (Str.ofString "CycleError") 386), some (.builtin "ValueError.__new__"), some (.bool true)]⟩) ::
    (nat_lit 146, ⟨(.type "getset_descriptor"), none, .fields #[(.str (Str.ofString "__weakref__") 391), (.ref 145), (.builtin "ExceptionGroup.__weakref__"), .none], #[]⟩) ::
    (nat_lit 156, ⟨(.type "tuple"), none, .seq #[.none] 0, #[]⟩) ::
    (nat_lit 162, ⟨(.type "code"), none, .fields #[(.str (Str.ofString "__init__") 408), (.str (Str.ofString "TopologicalSorter.__init__") 409), (.str (Str.ofString "/claim/cut.py") 410), (.int 135 0), (.int 2 0), (.int 0 0), (.int 0 0), (.int 3 0), (.ref 157), (.bool true), (.int 181 0), (.ref 158), .none, (.ref 159), (.ref 160), (.ref 161), (.int 415 0), (.int 135 0), (.str (Str.ofString "/claim/cut.py") 416)], #[]⟩) ::
    (nat_lit 163, mkFn (inS 19 0) (Str.ofString "__init__") (Str.ofString "TopologicalSorter.__init__") (.ref 156) .none .none (.str (Str.ofString "cpy313.graphlib") 333) (.ref 162) .none _ _ _ _ _ _) ::
    (nat_lit 169, ⟨(.type "code"), none, .fields #[(.str (Str.ofString "_get_nodeinfo") 418), (.str (Str.ofString "TopologicalSorter._get_nodeinfo") 419), (.str (Str.ofString "/claim/cut.py") 420), (.int 144 0), (.int 2 0), (.int 0 0), (.int 0 0), (.int 3 0), (.ref 164), (.bool true), (.int 181 0), (.ref 165), .none, (.ref 166), (.ref 167), (.ref 168), (.int 424 0), (.int 144 0), (.str (Str.ofString "/claim/cut.py") 425)], #[]⟩) ::
    (nat_lit 170, mkFn (inS 19 1) (Str.ofString "_get_nodeinfo") (Str.ofString "TopologicalSorter._get_nodeinfo") .none .none .none (.str (Str.ofString "cpy313.graphlib") 333) (.ref 169) .none _ _ _ _ _ _) ::
    (nat_lit 176, ⟨(.type "code"), none, .fields #[(.str (Str.ofString "add") 427), (.str (Str.ofString "TopologicalSorter.add") 428), (.str (Str.ofString "/claim/cut.py") 429), (.int 149 0), (.int 2 0), (.int 0 0), (.int 0 0), (.int 7 0), (.ref 171), (.bool true), (.int 181 0), (.ref 172), .none, (.ref 173), (.ref 174), (.ref 175), (.int 436 0), (.int 149 0), (.str (Str.ofString "/claim/cut.py") 437)], #[]⟩) ::
    (nat_lit 177, mkFn (inS 19 2) (Str.ofString "add") (Str.ofString "TopologicalSorter.add") .none .none .none (.str (Str.ofString "cpy313.graphlib") 333) (.ref 176) .none _ _ _ _ _ _) ::
    (nat_lit 181, ⟨(.type "code"), none, .fields #[(.str (Str.ofString "prepare") 439), (.str (Str.ofString "TopologicalSorter.prepare") 440), (.str (Str.ofString "/claim/cut.py") 441), (.int 158 0), (.int 1 0), (.int 0 0), (.int 0 0), (.int 3 0), (.ref 178), (.bool true), (.int 181 0), (.ref 179), .none, .none, .none, (.ref 180), (.int 442 0), (.int 158 0), (.str (Str.ofString "/claim/cut.py") 443)], #[]⟩) ::
    (nat_lit 182, mkFn (inS 19 3) (Str.ofString "prepare") (Str.ofString "TopologicalSorter.prepare") .none .none .none (.str (Str.ofString "cpy313.graphlib") 333) (.ref 181) .none _ _ _ _ _ _) ::
    (nat_lit 188, ⟨(.type "code"), none, .fields #[(.str (Str.ofString "get_ready") 445), (.str (Str.ofString "TopologicalSorter.get_ready") 446), (.str (Str.ofString "/claim/cut.py") 447), (.int 166 0), (.int 1 0), (.int 0 0), (.int 0 0), (.int 3 0), (.ref 183), (.bool true), (.int 181 0), (.ref 184), .none, (.ref 185), (.ref 186), (.ref 187), (.int 452 0), (.int 166 0), (.str (Str.ofString "/claim/cut.py") 453)], #[]⟩) ::
    (nat_lit 189, mkFn (inS 19 4) (Str.ofString "get_ready") (Str.ofString "TopologicalSorter.get_ready") .none .none .none (.str (Str.ofString "cpy313.graphlib") 333) (.ref 188) .none _ _ _ _ _ _) ::
    (nat_lit 195, ⟨(.type "code"), none, .fields #[(.str (Str.ofString "is_active") 455), (.str (Str.ofString "TopologicalSorter.is_active") 456), (.str (Str.ofString "/claim/cut.py") 457), (.int 177 0), (.int 1 0), (.int 0 0), (.int 0 0), (.int 3 0), (.ref 190), (.bool true), (.int 181 0), (.ref 191), .none, (.ref 192), (.ref 193), (.ref 194), (.int 459 0), (.int 177 0), (.str (Str.ofString "/claim/cut.py") 460)], #[]⟩) ::
    (nat_lit 196, mkFn (inS 19 5) (Str.ofString "is_active") (Str.ofString "TopologicalSorter.is_active") .none .none .none (.str (Str.ofString "cpy313.graphlib") 333) (.ref 195) .none _ _ _ _ _ _) ::
    (nat_lit 202, ⟨(.type "code"), none, .fields #[(.str (Str.ofString "__bool__") 462), (.str (Str.ofString "TopologicalSorter.__bool__") 463), (.str (Str.ofString "/claim/cut.py") 464), (.int 182 0), (.int 1 0), (.int 0 0), (.int 0 0), (.int 3 0), (.ref 197), (.bool true), (.int 181 0), (.ref 198), .none, (.ref 199), (.ref 200), (.ref 201), (.int 466 0), (.int 182 0), (.str (Str.ofString "/claim/cut.py") 467)], #[]⟩) ::
    (nat_lit 203, mkFn (inS 19 6) (Str.ofString "__bool__") (Str.ofString "TopologicalSorter.__bool__") .none .none .none (.str (Str.ofString "cpy313.graphlib") 333) (.ref 202) .none _ _ _ _ _ _) ::
    (nat_lit 209, ⟨(.type "code"), none, .fields #[(.str (Str.ofString "done") 469), (.str (Str.ofString "TopologicalSorter.done") 470), (.str (Str.ofString "/claim/cut.py") 471), (.int 185 0), (.int 1 0), (.int 0 0), (.int 0 0), (.int 7 0), (.ref 204), (.bool true), (.int 181 0), (.ref 205), .none, (.ref 206), (.ref 207), (.ref 208), (.int 480 0), (.int 185 0), (.str (Str.ofString "/claim/cut.py") 481)], #[]⟩) ::
    (nat_lit 210, mkFn (inS 19 7) (Str.ofString "done") (Str.ofString "TopologicalSorter.done") .none .none .none (.str (Str.ofString "cpy313.graphlib") 333) (.ref 209) .none _ _ _ _ _ _) ::
    (nat_lit 216, ⟨(.type "code"), none, .fields #[(.str (Str.ofString "_find_cycle") 483), (.str (Str.ofString "TopologicalSorter._find_cycle") 484), (.str (Str.ofString "/claim/cut.py") 485), (.int 208 0), (.int 1 0), (.int 0 0), (.int 0 0), (.int 3 0), (.ref 211), (.bool true), (.int 181 0), (.ref 212), .none, (.ref 213), (.ref 214), (.ref 215), (.int 493 0), (.int 208 0), (.str (Str.ofString "/claim/cut.py") 494)], #[]⟩) ::
    (nat_lit 217, mkFn (inS 19 8) (Str.ofString "_find_cycle") (Str.ofString "TopologicalSorter._find_cycle") .none .none .none (.str (Str.ofString "cpy313.graphlib") 333) (.ref 216) .none _ _ _ _ _ _) ::
    (nat_lit 223, ⟨(.type "code"), none, .fields #[(.str (Str.ofString "static_order") 496), (.str (Str.ofString "TopologicalSorter.static_order") 497), (.str (Str.ofString "/claim/cut.py") 498), (.int 237 0), (.int 1 0), (.int 0 0), (.int 0 0), (.int 3 0), (.ref 218), (.bool true), (.int 181 0), (.ref 219), .none, (.ref 220), (.ref 221), (.ref 222), (.int 500 0), (.int 237 0), (.str (Str.ofString "/claim/cut.py") 501)], #[]⟩) ::
    (nat_lit 224, mkFn (inS 19 9) (Str.ofString "static_order") (Str.ofString "TopologicalSorter.static_order") .none .none .none (.str (Str.ofString "cpy313.graphlib") 333) (.ref 223) .none _ _ _ _ _ _) ::
    (nat_lit 226, ⟨(.type "dict"), none, .dict #[⟨PyData.keyHash P (Str.ofString "__module__"), .str (Str.ofString "__module__") 403, (.str (Str.ofString "cpy313.graphlib") 333)⟩, ⟨PyData.keyHash P (Str.ofString "__firstlineno__"), .str (Str.ofString "__firstlineno__") 407, (.int 133 406)⟩, ⟨PyData.keyHash P (Str.ofString "__init__"), .str (Str.ofString "__init__") 417, (.ref 163)⟩, ⟨PyData.keyHash P (Str.ofString "_get_nodeinfo"), .str (Str.ofString "_get_nodeinfo") 426, (.ref 170)⟩, ⟨PyData.keyHash P (Str.ofString "add"), .str (Str.ofString "add") 438, (.ref 177)⟩, ⟨PyData.keyHash P (Str.ofString "prepare"), .str (Str.ofString "prepare") 444, (.ref 182)⟩, ⟨PyData.keyHash P (Str.ofString "get_ready"), .str (Str.ofString "get_ready") 454, (.ref 189)⟩, ⟨PyData.keyHash P (Str.ofString "is_active"), .str (Str.ofString "is_active") 461, (.ref 196)⟩, ⟨PyData.keyHash P (Str.ofString "__bool__"), .str (Str.ofString "__bool__") 468, (.ref 203)⟩, ⟨PyData.keyHash P (Str.ofString "done"), .str (Str.ofString "done") 482, (.ref 210)⟩, ⟨PyData.keyHash P (Str.ofString "_find_cycle"), .str (Str.ofString "_find_cycle") 495, (.ref 217)⟩, ⟨PyData.keyHash P (Str.ofString "static_order"), .str (Str.ofString "static_order") 502, (.ref 224)⟩, ⟨PyData.keyHash P (Str.ofString "__static_attributes__"), .str (Str.ofString "__static_attributes__") 507, (.ref 225)⟩, ⟨PyData.keyHash P (Str.ofString "__dict__"), .str (Str.ofString "__dict__") 509, (.ref 228)⟩, ⟨PyData.keyHash P (Str.ofString "__weakref__"), .str (Str.ofString "__weakref__") 511, (.ref 229)⟩, ⟨PyData.keyHash P (Str.ofString "__doc__"), .str (Str.ofString "__doc__") 512, .none⟩] 4, #[]⟩) ::
    (nat_lit 227, ⟨(.type "type"), none, .cls { name := (Str.ofString "TopologicalSorter"), bases := [(.type "object")], mro := [(.ref 227), (.type "object")], ns := 226, qualname := (Str.ofString "TopologicalSorter"), hasDict := true, slotNames := [], subclasses := [], abstract := false, collection := none, hasDel := false }, #[none, none, some (.str (Str.ofString "TopologicalSorter") 396), some (.str (Str.ofString "TopologicalSorter") 404), some (.builtin "object.__new__"), some (.bool true)]⟩) ::
    (nat_lit 228, ⟨(.type "getset_descriptor"), none, .fields #[(.str (Str.ofString "__dict__") 508), (.ref 227), (.builtin "function.__dict__"), (.builtin "function.__dict__#set")], #[]⟩) ::
    (nat_lit 229, ⟨(.type "getset_descriptor"), none, .fields #[(.str (Str.ofString "__weakref__") 510), (.ref 227), (.builtin "ExceptionGroup.__weakref__"), .none], #[]⟩) ::
    (nat_lit 235, ⟨(.type "code"), none, .fields #[(.str (Str.ofString "_law_place") 517), (.str (Str.ofString "_law_place") 518), (.str (Str.ofString "/claim/cut.py") 519), (.int 240 0), (.int 1 0), (.int 0 0), (.int 0 0), (.int 3 0), (.ref 232), (.bool true), (.int 181 0), (.ref 233), .none, .none, .none, (.ref 234), (.int 520 0), (.int 240 0), (.str (Str.ofString "/claim/cut.py") 521)], #[]⟩) ::
    (nat_lit 236, mkFn (topS 21) (Str.ofString "_law_place") (Str.ofString "_law_place") .none .none .none (.str (Str.ofString "law_oh0056_01") 515) (.ref 235) .none _ _ _ _ _ _) ::
    (nat_lit 242, ⟨(.type "code"), none, .fields #[(.str (Str.ofString "_law_written") 523), (.str (Str.ofString "_law_written") 524), (.str (Str.ofString "/claim/cut.py") 525), (.int 242 0), (.int 2 0), (.int 0 0), (.int 0 0), (.int 3 0), (.ref 237), (.bool true), (.int 181 0), (.ref 238), .none, (.ref 239), (.ref 240), (.ref 241), (.int 528 0), (.int 242 0), (.str (Str.ofString "/claim/cut.py") 529)], #[]⟩) ::
    (nat_lit 243, mkFn (topS 22) (Str.ofString "_law_written") (Str.ofString "_law_written") .none .none .none (.str (Str.ofString "law_oh0056_01") 515) (.ref 242) .none _ _ _ _ _ _) ::
    (nat_lit 247, ⟨(.type "code"), none, .fields #[(.str (Str.ofString "_law_out") 531), (.str (Str.ofString "_law_out") 532), (.str (Str.ofString "/claim/cut.py") 533), (.int 250 0), (.int 2 0), (.int 0 0), (.int 0 0), (.int 3 0), (.ref 244), (.bool true), (.int 181 0), (.ref 245), .none, .none, .none, (.ref 246), (.int 534 0), (.int 250 0), (.str (Str.ofString "/claim/cut.py") 535)], #[]⟩) ::
    (nat_lit 248, mkFn (topS 23) (Str.ofString "_law_out") (Str.ofString "_law_out") .none .none .none (.str (Str.ofString "law_oh0056_01") 515) (.ref 247) .none _ _ _ _ _ _) ::
    (nat_lit 254, ⟨(.type "code"), none, .fields #[(.str (Str.ofString "_law_told") 537), (.str (Str.ofString "_law_told") 538), (.str (Str.ofString "/claim/cut.py") 539), (.int 252 0), (.int 3 0), (.int 0 0), (.int 0 0), (.int 3 0), (.ref 249), (.bool true), (.int 181 0), (.ref 250), .none, (.ref 251), (.ref 252), (.ref 253), (.int 552 0), (.int 252 0), (.str (Str.ofString "/claim/cut.py") 553)], #[]⟩) ::
    (nat_lit 255, mkFn (topS 24) (Str.ofString "_law_told") (Str.ofString "_law_told") .none .none .none (.str (Str.ofString "law_oh0056_01") 515) (.ref 254) .none _ _ _ _ _ _) ::
    (nat_lit 261, ⟨(.type "code"), none, .fields #[(.str (Str.ofString "_law_given") 555), (.str (Str.ofString "_law_given") 556), (.str (Str.ofString "/claim/cut.py") 557), (.int 273 0), (.int 1 0), (.int 0 0), (.int 0 0), (.int 3 0), (.ref 256), (.bool true), (.int 181 0), (.ref 257), .none, (.ref 258), (.ref 259), (.ref 260), (.int 562 0), (.int 273 0), (.str (Str.ofString "/claim/cut.py") 563)], #[]⟩) ::
    (nat_lit 262, mkFn (topS 25) (Str.ofString "_law_given") (Str.ofString "_law_given") .none .none .none (.str (Str.ofString "law_oh0056_01") 515) (.ref 261) .none _ _ _ _ _ _) ::
    (nat_lit 266, ⟨(.type "code"), none, .fields #[(.str (Str.ofString "_law_all") 565), (.str (Str.ofString "_law_all") 566), (.str (Str.ofString "/claim/cut.py") 567), (.int 285 0), (.int 2 0), (.int 0 0), (.int 0 0), (.int 3 0), (.ref 263), (.bool true), (.int 181 0), (.ref 264), .none, .none, .none, (.ref 265), (.int 568 0), (.int 285 0), (.str (Str.ofString "/claim/cut.py") 569)], #[]⟩) ::
    (nat_lit 267, mkFn (topS 26) (Str.ofString "_law_all") (Str.ofString "_law_all") .none .none .none (.str (Str.ofString "law_oh0056_01") 515) (.ref 266) .none _ _ _ _ _ _) ::
    (nat_lit 271, ⟨(.type "code"), none, .fields #[(.str (Str.ofString "_law_first") 571), (.str (Str.ofString "_law_first") 572), (.str (Str.ofString "/claim/cut.py") 573), (.int 287 0), (.int 2 0), (.int 0 0), (.int 0 0), (.int 3 0), (.ref 268), (.bool true), (.int 181 0), (.ref 269), .none, .none, .none, (.ref 270), (.int 574 0), (.int 287 0), (.str (Str.ofString "/claim/cut.py") 575)], #[]⟩) ::
    (nat_lit 272, mkFn (topS 27) (Str.ofString "_law_first") (Str.ofString "_law_first") .none .none .none (.str (Str.ofString "law_oh0056_01") 515) (.ref 271) .none _ _ _ _ _ _) ::
    (nat_lit 276, ⟨(.type "code"), none, .fields #[(.str (Str.ofString "law") 577), (.str (Str.ofString "law") 578), (.str (Str.ofString "/claim/cut.py") 579), (.int 290 0), (.int 1 0), (.int 0 0), (.int 0 0), (.int 3 0), (.ref 273), (.bool true), (.int 181 0), (.ref 274), .none, .none, .none, (.ref 275), (.int 580 0), (.int 290 0), (.str (Str.ofString "/claim/cut.py") 581)], #[]⟩) ::
    (nat_lit 277, mkFn (topS 28) (Str.ofString "law") (Str.ofString "law") .none .none .none (.str (Str.ofString "law_oh0056_01") 515) (.ref 276) .none _ _ _ _ _ _) :: [])
  any_goals (conv => lhs; whnf)
noncomputable abbrev asK : List Nat := [nat_lit 2, nat_lit 3, nat_lit 20, nat_lit 21, nat_lit 27, nat_lit 28, nat_lit 34, nat_lit 35, nat_lit 41, nat_lit 42, nat_lit 48, nat_lit 49, nat_lit 55, nat_lit 56, nat_lit 62, nat_lit 63, nat_lit 69, nat_lit 70, nat_lit 76, nat_lit 77, nat_lit 85, nat_lit 89, nat_lit 90, nat_lit 96, nat_lit 97, nat_lit 99, nat_lit 100, nat_lit 101, nat_lit 102, nat_lit 110, nat_lit 111, nat_lit 119, nat_lit 125, nat_lit 126, nat_lit 129, nat_lit 130, nat_lit 131, nat_lit 132, nat_lit 133, nat_lit 144, nat_lit 145, nat_lit 146, nat_lit 156, nat_lit 162, nat_lit 163, nat_lit 169, nat_lit 170, nat_lit 176, nat_lit 177, nat_lit 181, nat_lit 182, nat_lit 188, nat_lit 189, nat_lit 195, nat_lit 196, nat_lit 202, nat_lit 203, nat_lit 209, nat_lit 210, nat_lit 216, nat_lit 217, nat_lit 223, nat_lit 224, nat_lit 226, nat_lit 227, nat_lit 228, nat_lit 229, nat_lit 235, nat_lit 236, nat_lit 242, nat_lit 243, nat_lit 247, nat_lit 248, nat_lit 254, nat_lit 255, nat_lit 261, nat_lit 262, nat_lit 266, nat_lit 267, nat_lit 271, nat_lit 272, nat_lit 276, nat_lit 277]
end Mine
end
section
open PySem PySem.W PySem.W.X PySem.W.ZRun PyProof.Rows PySem.Calls PySem.Spec
namespace Mine
/-! the top's run in pieces: the heap behind the 18th and the 20th statement, written out -/
/-- a def's object, its three written parts read off the text -/
noncomputable def mkFnE (cls : Value) (st : Stmt) (name qual : Str) (gl : Addr) (dV kV doc pm : Value) (ann : Option Addr) (cdv ct : Value) (bi : Addr) : Obj :=
  ⟨cls, none, .func { name := name, qualname := qual, params := fParams st, body := .stmts (fBody st), scope := fScope st, globals := gl, closure := [], defaults := dV, kwdefaults := kV, doc := doc, pyModule := pm, annotations := ann, code := cdv, closureTuple := ct, builtins := bi }, #[]⟩
noncomputable def sV (x : String) (t : Nat) : Value := .str (Str.ofString x) t
noncomputable def kE (P : Params) (x : String) (t : Nat) (v : Value) : DictEntry := ⟨PyData.keyHash P (Str.ofString x), .str (Str.ofString x) t, v⟩
noncomputable def ha (P : Params) : Heap := ⟨⟨
  (boot_o_0 P) ::
  (boot_o_1 P) ::
  (boot_o_2 P) ::
  (boot_o_3 P) ::
  (boot_o_4 P) ::
  (boot_o_5 P) ::
  (boot_o_6 P) ::
  (boot_o_7 P) ::
  (boot_o_8 P) ::
  (boot_o_9 P) ::
  (boot_o_10 P) ::
  (⟨(.type "tuple"), none, .seq #[] 0, #[]⟩) ::
  (⟨.none, none, .fields #[], #[]⟩) ::
  (⟨(.type "code"), none, .fields #[(sV "<module>" 182), (sV "<module>" 183), (sV "/claim/cut.py" 184), (.int 1 0), (.int 0 0), (.int 0 0), (.int 0 0), (.int 0 0), (.ref 11), (.bool false), (.int 181 0), (.ref 12), .none, .none, .none, .none, (.int 185 0), (.int 1 0), (sV "/claim/cut.py" 186)], #[]⟩) ::
  (⟨(.type "frame"), none, .plain, #[some (.ref 13), some (.ref 3), some (.ref 3), none, some (sV "__main__" 164), none, some (.ref 0)]⟩) ::
  []⟩, (boot_heap P).life⟩
noncomputable def hc17 (P : Params) : Heap := ⟨⟨
  (boot_o_0 P) ::
  (boot_o_1 P) ::
  (boot_o_2 P) ::
  (⟨(.type "dict"), none, .dict #[kE P "__name__" 165 (sV "cpy313.graphlib" 333), kE P "__doc__" 166 .none, kE P "__package__" 167 .none, kE P "__loader__" 168 (.builtin "__main__.__loader__#opaque"), kE P "__spec__" 169 .none, kE P "__annotations__" 170 (.ref 6), kE P "__builtins__" 171 (.ref 4), kE P "__file__" 173 (sV "/claim/cut.py" 172), kE P "__cached__" 174 .none, kE P "_wall" 193 (.ref 21), kE P "sep" 195 (sV "/" 194), kE P "_kind" 206 (.ref 28), kE P "_fspath" 215 (.ref 35), kE P "splitext" 227 (.ref 42), kE P "_c_path" 240 (.ref 49), kE P "_splitroot" 249 (.ref 56), kE P "basename" 257 (.ref 63), kE P "_normpath" 272 (.ref 70), kE P "normpath" 280 (.ref 77), kE P "_Ignore" 322 (.ref 100), kE P "_modname" 332 (.ref 111), kE P "_NODE_OUT" 337 (.int (-1) 336), kE P "_NODE_DONE" 340 (.int (-2) 339), kE P "_NodeInfo" 377 (.ref 130)] 24, #[]⟩) ::
  (boot_o_4 P) ::
  (boot_o_5 P) ::
  (boot_o_6 P) ::
  (boot_o_7 P) ::
  (boot_o_8 P) ::
  (boot_o_9 P) ::
  (boot_o_10 P) ::
  (⟨(.type "tuple"), none, .seq #[] 0, #[]⟩) ::
  (⟨.none, none, .fields #[(.int 1 0), (.int 0 0), (.ref 20), (.int 6 0), (.int 0 0), (.ref 27), (.int 27 0), (.int 0 0), (.ref 34), (.int 32 0), (.int 0 0), (.ref 41), (.int 45 0), (.int 0 0), (.ref 48), (.int 56 0), (.int 0 0), (.ref 55), (.int 65 0), (.int 0 0), (.ref 62), (.int 69 0), (.int 0 0), (.ref 69), (.int 88 0), (.int 0 0), (.ref 76), (.int 91 0), (.int 0 0), (.ref 83), (.int 117 0), (.int 0 0), (.ref 110), (.int 124 0), (.int 0 0), (.ref 117)], #[]⟩) ::
  (⟨(.type "code"), none, .fields #[(sV "<module>" 182), (sV "<module>" 183), (sV "/claim/cut.py" 184), (.int 1 0), (.int 0 0), (.int 0 0), (.int 0 0), (.int 0 0), (.ref 11), (.bool false), (.int 181 0), (.ref 12), .none, .none, .none, .none, (.int 185 0), (.int 1 0), (sV "/claim/cut.py" 186)], #[]⟩) ::
  (⟨(.type "frame"), none, .plain, #[some (.ref 13), some (.ref 3), some (.ref 3), none, some (sV "__main__" 164), none, some (.ref 0)]⟩) ::
  (⟨(.type "tuple"), none, .seq #[] 0, #[]⟩) ::
  (⟨.none, none, .fields #[], #[]⟩) ::
  (⟨(.type "tuple"), none, .seq #[(sV "k" 190)] 0, #[]⟩) ::
  (⟨(.type "tuple"), none, .seq #[] 0, #[]⟩) ::
  (mkFnE .none (topS 0) (Str.ofString "_wall") (Str.ofString "_wall") 0 .none .none .none .none none .none .none 0) ::
  (⟨(.type "code"), none, .fields #[(sV "_wall" 187), (sV "_wall" 188), (sV "/claim/cut.py" 189), (.int 1 0), (.int 1 0), (.int 0 0), (.int 0 0), (.int 3 0), (.ref 15), (.bool true), (.int 181 0), (.ref 16), .none, (.ref 17), (.ref 18), (.ref 19), (.int 191 0), (.int 1 0), (sV "/claim/cut.py" 192)], #[]⟩) ::
  (mkFnE (.type "function") (topS 0) (Str.ofString "_wall") (Str.ofString "_wall") 3 .none .none .none (sV "__main__" 164) none (.ref 20) .none 0) ::
  (⟨(.type "tuple"), none, .seq #[] 0, #[]⟩) ::
  (⟨.none, none, .fields #[], #[]⟩) ::
  (⟨(.type "tuple"), none, .seq #[(sV "name" 201), (sV "x" 202), (sV "t" 203)] 0, #[]⟩) ::
  (⟨(.type "tuple"), none, .seq #[] 0, #[]⟩) ::
  (mkFnE .none (topS 3) (Str.ofString "_kind") (Str.ofString "_kind") 0 .none .none .none .none none .none .none 0) ::
  (⟨(.type "code"), none, .fields #[(sV "_kind" 198), (sV "_kind" 199), (sV "/claim/cut.py" 200), (.int 6 0), (.int 2 0), (.int 0 0), (.int 0 0), (.int 3 0), (.ref 22), (.bool true), (.int 181 0), (.ref 23), .none, (.ref 24), (.ref 25), (.ref 26), (.int 204 0), (.int 6 0), (sV "/claim/cut.py" 205)], #[]⟩) ::
  (mkFnE (.type "function") (topS 3) (Str.ofString "_kind") (Str.ofString "_kind") 3 .none .none .none (sV "os.path" 196) none (.ref 27) .none 0) ::
  (⟨(.type "tuple"), none, .seq #[] 0, #[]⟩) ::
  (⟨.none, none, .fields #[], #[]⟩) ::
  (⟨(.type "tuple"), none, .seq #[(sV "name" 210), (sV "x" 211), (sV "k" 212)] 0, #[]⟩) ::
  (⟨(.type "tuple"), none, .seq #[] 0, #[]⟩) ::
  (mkFnE .none (topS 4) (Str.ofString "_fspath") (Str.ofString "_fspath") 0 .none .none .none .none none .none .none 0) ::
  (⟨(.type "code"), none, .fields #[(sV "_fspath" 207), (sV "_fspath" 208), (sV "/claim/cut.py" 209), (.int 27 0), (.int 2 0), (.int 0 0), (.int 0 0), (.int 3 0), (.ref 29), (.bool true), (.int 181 0), (.ref 30), .none, (.ref 31), (.ref 32), (.ref 33), (.int 213 0), (.int 27 0), (sV "/claim/cut.py" 214)], #[]⟩) ::
  (mkFnE (.type "function") (topS 4) (Str.ofString "_fspath") (Str.ofString "_fspath") 3 .none .none .none (sV "os.path" 196) none (.ref 34) .none 0) ::
  (⟨(.type "tuple"), none, .seq #[] 0, #[]⟩) ::
  (⟨.none, none, .fields #[], #[]⟩) ::
  (⟨(.type "tuple"), none, .seq #[(sV "p" 219), (sV "sep" 220), (sV "extsep" 221), (sV "sepIndex" 222), (sV "dotIndex" 223), (sV "filenameIndex" 224)] 0, #[]⟩) ::
  (⟨(.type "tuple"), none, .seq #[] 0, #[]⟩) ::
  (mkFnE .none (topS 5) (Str.ofString "splitext") (Str.ofString "splitext") 0 .none .none .none .none none .none .none 0) ::
  (⟨(.type "code"), none, .fields #[(sV "splitext" 216), (sV "splitext" 217), (sV "/claim/cut.py" 218), (.int 32 0), (.int 1 0), (.int 0 0), (.int 0 0), (.int 3 0), (.ref 36), (.bool true), (.int 181 0), (.ref 37), .none, (.ref 38), (.ref 39), (.ref 40), (.int 225 0), (.int 32 0), (sV "/claim/cut.py" 226)], #[]⟩) ::
  (mkFnE (.type "function") (topS 5) (Str.ofString "splitext") (Str.ofString "splitext") 3 .none .none .none (sV "os.path" 196) none (.ref 41) .none 0) ::
  (⟨(.type "tuple"), none, .seq #[] 0, #[]⟩) ::
  (⟨.none, none, .fields #[], #[]⟩) ::
  (⟨(.type "tuple"), none, .seq #[(sV "name" 231), (sV "cname" 232), (sV "argname" 233), (sV "args" 234), (sV "kwargs" 235), (sV "x" 236), (sV "k" 237)] 0, #[]⟩) ::
  (⟨(.type "tuple"), none, .seq #[] 0, #[]⟩) ::
  (mkFnE .none (topS 6) (Str.ofString "_c_path") (Str.ofString "_c_path") 0 .none .none .none .none none .none .none 0) ::
  (⟨(.type "code"), none, .fields #[(sV "_c_path" 228), (sV "_c_path" 229), (sV "/claim/cut.py" 230), (.int 45 0), (.int 5 0), (.int 0 0), (.int 0 0), (.int 3 0), (.ref 43), (.bool true), (.int 181 0), (.ref 44), .none, (.ref 45), (.ref 46), (.ref 47), (.int 238 0), (.int 45 0), (sV "/claim/cut.py" 239)], #[]⟩) ::
  (mkFnE (.type "function") (topS 6) (Str.ofString "_c_path") (Str.ofString "_c_path") 3 .none .none .none (sV "os.path" 196) none (.ref 48) .none 0) ::
  (⟨(.type "tuple"), none, .seq #[] 0, #[]⟩) ::
  (⟨.none, none, .fields #[], #[]⟩) ::
  (⟨(.type "tuple"), none, .seq #[(sV "p" 244), (sV "sep" 245), (sV "empty" 246)] 0, #[]⟩) ::
  (⟨(.type "tuple"), none, .seq #[] 0, #[]⟩) ::
  (mkFnE .none (topS 7) (Str.ofString "_splitroot") (Str.ofString "_splitroot") 0 .none .none .none .none none .none .none 0) ::
  (⟨(.type "code"), none, .fields #[(sV "_splitroot" 241), (sV "_splitroot" 242), (sV "/claim/cut.py" 243), (.int 56 0), (.int 1 0), (.int 0 0), (.int 0 0), (.int 3 0), (.ref 50), (.bool true), (.int 181 0), (.ref 51), .none, (.ref 52), (.ref 53), (.ref 54), (.int 247 0), (.int 56 0), (sV "/claim/cut.py" 248)], #[]⟩) ::
  (mkFnE (.type "function") (topS 7) (Str.ofString "_splitroot") (Str.ofString "_splitroot") 3 .none .none .none (sV "os.path" 196) none (.ref 55) .none 0) ::
  (⟨(.type "tuple"), none, .seq #[] 0, #[]⟩) ::
  (⟨.none, none, .fields #[], #[]⟩) ::
  (⟨(.type "tuple"), none, .seq #[(sV "p" 253), (sV "i" 254)] 0, #[]⟩) ::
  (⟨(.type "tuple"), none, .seq #[] 0, #[]⟩) ::
  (mkFnE .none (topS 8) (Str.ofString "basename") (Str.ofString "basename") 0 .none .none .none .none none .none .none 0) ::
  (⟨(.type "code"), none, .fields #[(sV "basename" 250), (sV "basename" 251), (sV "/claim/cut.py" 252), (.int 65 0), (.int 1 0), (.int 0 0), (.int 0 0), (.int 3 0), (.ref 57), (.bool true), (.int 181 0), (.ref 58), .none, (.ref 59), (.ref 60), (.ref 61), (.int 255 0), (.int 65 0), (sV "/claim/cut.py" 256)], #[]⟩) ::
  (mkFnE (.type "function") (topS 8) (Str.ofString "basename") (Str.ofString "basename") 3 .none .none .none (sV "os.path" 196) none (.ref 62) .none 0) ::
  (⟨(.type "tuple"), none, .seq #[] 0, #[]⟩) ::
  (⟨.none, none, .fields #[], #[]⟩) ::
  (⟨(.type "tuple"), none, .seq #[(sV "path" 261), (sV "sep" 262), (sV "dot" 263), (sV "dotdot" 264), (sV "_" 265), (sV "initial_slashes" 266), (sV "comps" 267), (sV "new_comps" 268), (sV "comp" 269)] 0, #[]⟩) ::
  (⟨(.type "tuple"), none, .seq #[] 0, #[]⟩) ::
  (mkFnE .none (topS 9) (Str.ofString "_normpath") (Str.ofString "_normpath") 0 .none .none .none .none none .none .none 0) ::
  (⟨(.type "code"), none, .fields #[(sV "_normpath" 258), (sV "_normpath" 259), (sV "/claim/cut.py" 260), (.int 69 0), (.int 1 0), (.int 0 0), (.int 0 0), (.int 3 0), (.ref 64), (.bool true), (.int 181 0), (.ref 65), .none, (.ref 66), (.ref 67), (.ref 68), (.int 270 0), (.int 69 0), (sV "/claim/cut.py" 271)], #[]⟩) ::
  (mkFnE (.type "function") (topS 9) (Str.ofString "_normpath") (Str.ofString "_normpath") 3 .none .none .none (sV "os.path" 196) none (.ref 69) .none 0) ::
  (⟨(.type "tuple"), none, .seq #[] 0, #[]⟩) ::
  (⟨.none, none, .fields #[], #[]⟩) ::
  (⟨(.type "tuple"), none, .seq #[(sV "args" 276), (sV "kwargs" 277)] 0, #[]⟩) ::
  (⟨(.type "tuple"), none, .seq #[] 0, #[]⟩) ::
  (mkFnE .none (topS 10) (Str.ofString "normpath") (Str.ofString "normpath") 0 .none .none .none .none none .none .none 0) ::
  (⟨(.type "code"), none, .fields #[(sV "normpath" 273), (sV "normpath" 274), (sV "/claim/cut.py" 275), (.int 88 0), (.int 0 0), (.int 0 0), (.int 0 0), (.int 15 0), (.ref 71), (.bool true), (.int 181 0), (.ref 72), .none, (.ref 73), (.ref 74), (.ref 75), (.int 278 0), (.int 88 0), (sV "/claim/cut.py" 279)], #[]⟩) ::
  (mkFnE (.type "function") (topS 10) (Str.ofString "normpath") (Str.ofString "normpath") 3 .none .none .none (sV "os.path" 196) none (.ref 76) .none 0) ::
  (⟨(.type "tuple"), none, .seq #[] 0, #[]⟩) ::
  (⟨(.type "builtin_function_or_method"), none, .fields #[(.builtin "type.__prepare__"), (.type "type")], #[]⟩) ::
  (⟨(.type "dict"), none, .dict #[kE P "__module__" 290 (sV "cpy313.trace" 281), kE P "__qualname__" 292 (sV "_Ignore" 291), kE P "__firstlineno__" 294 (.int 91 293), kE P "__init__" 300 (.ref 90), kE P "names" 311 (.ref 97), kE P "__static_attributes__" 315 (.ref 98)] 6, #[]⟩) ::
  (⟨(.type "tuple"), none, .seq #[] 0, #[]⟩) ::
  (⟨.none, none, .fields #[(.int 93 0), (.int 4 0), (.ref 89), (.int 98 0), (.int 4 0), (.ref 96)], #[]⟩) ::
  (⟨(.type "code"), none, .fields #[(sV "_Ignore" 285), (sV "_Ignore" 286), (sV "/claim/cut.py" 287), (.int 91 0), (.int 0 0), (.int 0 0), (.int 0 0), (.int 0 0), (.ref 81), (.bool false), (.int 181 0), (.ref 82), .none, .none, .none, .none, (.int 288 0), (.int 91 0), (sV "/claim/cut.py" 289)], #[]⟩) ::
  (⟨(.type "frame"), none, .plain, #[some (.ref 83), some (.ref 3), some (.ref 80), none, some (sV "cpy313.trace" 281), none, some (.ref 0)]⟩) ::
  (⟨(.type "tuple"), none, .seq #[.none, .none] 0, #[]⟩) ::
  (⟨(.type "tuple"), none, .seq #[] 0, #[]⟩) ::
  (⟨.none, none, .fields #[], #[]⟩) ::
  (mkFnE .none (inS 12 0) (Str.ofString "__init__") (Str.ofString "_Ignore.__init__") 0 .none .none .none .none none .none .none 0) ::
  (⟨(.type "code"), none, .fields #[(sV "__init__" 295), (sV "_Ignore.__init__" 296), (sV "/claim/cut.py" 297), (.int 93 0), (.int 3 0), (.int 0 0), (.int 0 0), (.int 3 0), (.ref 86), (.bool true), (.int 181 0), (.ref 87), .none, .none, .none, (.ref 88), (.int 298 0), (.int 93 0), (sV "/claim/cut.py" 299)], #[]⟩) ::
  (mkFnE (.type "function") (inS 12 0) (Str.ofString "__init__") (Str.ofString "_Ignore.__init__") 3 (.ref 85) .none .none (sV "cpy313.trace" 281) none (.ref 89) .none 0) ::
  (⟨(.type "tuple"), none, .seq #[] 0, #[]⟩) ::
  (⟨.none, none, .fields #[], #[]⟩) ::
  (⟨(.type "tuple"), none, .seq #[(sV "self" 304), (sV "filename" 305), (sV "modulename" 306), (sV "mod" 307), (sV "d" 308)] 0, #[]⟩) ::
  (⟨(.type "tuple"), none, .seq #[] 0, #[]⟩) ::
  (mkFnE .none (inS 12 1) (Str.ofString "names") (Str.ofString "_Ignore.names") 0 .none .none .none .none none .none .none 0) ::
  (⟨(.type "code"), none, .fields #[(sV "names" 301), (sV "_Ignore.names" 302), (sV "/claim/cut.py" 303), (.int 98 0), (.int 3 0), (.int 0 0), (.int 0 0), (.int 3 0), (.ref 91), (.bool true), (.int 181 0), (.ref 92), .none, (.ref 93), (.ref 94), (.ref 95), (.int 309 0), (.int 98 0), (sV "/claim/cut.py" 310)], #[]⟩) ::
  (mkFnE (.type "function") (inS 12 1) (Str.ofString "names") (Str.ofString "_Ignore.names") 3 .none .none .none (sV "cpy313.trace" 281) none (.ref 96) .none 0) ::
  (⟨(.type "tuple"), none, .seq #[(sV "_dirs" 312), (sV "_ignore" 313), (sV "_mods" 314)] 0, #[]⟩) ::
  (⟨(.type "dict"), none, .dict #[kE P "__module__" 290 (sV "cpy313.trace" 281), kE P "__firstlineno__" 294 (.int 91 293), kE P "__init__" 300 (.ref 90), kE P "names" 311 (.ref 97), kE P "__static_attributes__" 315 (.ref 98), kE P "__dict__" 317 (.ref 101), kE P "__weakref__" 319 (.ref 102), kE P "__doc__" 320 .none] 4, #[]⟩) ::
  (⟨(.type "type"), none, .cls { name := (Str.ofString "_Ignore"), bases := [(.type "object")], mro := [(.ref 100), (.type "object")], ns := 99, qualname := (Str.ofString "_Ignore"), hasDict := true, slotNames := [], subclasses := [], abstract := false, collection := none, hasDel := false }, #[none, none, some (sV "_Ignore" 283), some (sV "_Ignore" 291), some (.builtin "object.__new__"), some (.bool true)]⟩) ::
  (⟨(.type "getset_descriptor"), none, .fields #[(sV "__dict__" 316), (.ref 100), (.builtin "function.__dict__"), (.builtin "function.__dict__#set")], #[]⟩) ::
  (⟨(.type "getset_descriptor"), none, .fields #[(sV "__weakref__" 318), (.ref 100), (.builtin "ExceptionGroup.__weakref__"), .none], #[]⟩) ::
  (⟨(.type "super"), none, .fields #[(.ref 100), (.ref 100), (.ref 100)], #[]⟩) ::
  (⟨(.type "builtin_function_or_method"), none, .fields #[(.builtin "object.__init_subclass__"), (.ref 100)], #[]⟩) ::
  (⟨(.type "tuple"), none, .seq #[] 0, #[]⟩) ::
  (⟨.none, none, .fields #[], #[]⟩) ::
  (⟨(.type "tuple"), none, .seq #[(sV "path" 326), (sV "base" 327), (sV "filename" 328), (sV "ext" 329)] 0, #[]⟩) ::
  (⟨(.type "tuple"), none, .seq #[] 0, #[]⟩) ::
  (mkFnE .none (topS 13) (Str.ofString "_modname") (Str.ofString "_modname") 0 .none .none .none .none none .none .none 0) ::
  (⟨(.type "code"), none, .fields #[(sV "_modname" 323), (sV "_modname" 324), (sV "/claim/cut.py" 325), (.int 117 0), (.int 1 0), (.int 0 0), (.int 0 0), (.int 3 0), (.ref 105), (.bool true), (.int 181 0), (.ref 106), .none, (.ref 107), (.ref 108), (.ref 109), (.int 330 0), (.int 117 0), (sV "/claim/cut.py" 331)], #[]⟩) ::
  (mkFnE (.type "function") (topS 13) (Str.ofString "_modname") (Str.ofString "_modname") 3 .none .none .none (sV "cpy313.trace" 281) none (.ref 110) .none 0) ::
  (⟨(.type "tuple"), none, .seq #[] 0, #[]⟩) ::
  (⟨(.type "builtin_function_or_method"), none, .fields #[(.builtin "type.__prepare__"), (.type "type")], #[]⟩) ::
  (⟨(.type "dict"), none, .dict #[kE P "__module__" 348 (sV "cpy313.graphlib" 333), kE P "__qualname__" 350 (sV "_NodeInfo" 349), kE P "__firstlineno__" 352 (.int 124 351), kE P "__slots__" 356 (.ref 119), kE P "__init__" 364 (.ref 126), kE P "__static_attributes__" 368 (.ref 127)] 6, #[]⟩) ::
  (⟨(.type "tuple"), none, .seq #[] 0, #[]⟩) ::
  (⟨.none, none, .fields #[(.int 127 0), (.int 4 0), (.ref 125)], #[]⟩) ::
  (⟨(.type "code"), none, .fields #[(sV "_NodeInfo" 343), (sV "_NodeInfo" 344), (sV "/claim/cut.py" 345), (.int 124 0), (.int 0 0), (.int 0 0), (.int 0 0), (.int 0 0), (.ref 115), (.bool false), (.int 181 0), (.ref 116), .none, .none, .none, .none, (.int 346 0), (.int 124 0), (sV "/claim/cut.py" 347)], #[]⟩) ::
  (⟨(.type "frame"), none, .plain, #[some (.ref 117), some (.ref 3), some (.ref 114), none, some (sV "cpy313.graphlib" 333), none, some (.ref 0)]⟩) ::
  (⟨(.type "tuple"), none, .seq #[(sV "node" 353), (sV "npredecessors" 354), (sV "successors" 355)] 0, #[]⟩) ::
  (⟨(.type "tuple"), none, .seq #[] 0, #[]⟩) ::
  (⟨.none, none, .fields #[], #[]⟩) ::
  (⟨(.type "tuple"), none, .seq #[(sV "self" 360), (sV "node" 361)] 0, #[]⟩) ::
  (⟨(.type "tuple"), none, .seq #[] 0, #[]⟩) ::
  (mkFnE .none (inS 17 1) (Str.ofString "__init__") (Str.ofString "_NodeInfo.__init__") 0 .none .none .none .none none .none .none 0) ::
  (⟨(.type "code"), none, .fields #[(sV "__init__" 357), (sV "_NodeInfo.__init__" 358), (sV "/claim/cut.py" 359), (.int 127 0), (.int 2 0), (.int 0 0), (.int 0 0), (.int 3 0), (.ref 120), (.bool true), (.int 181 0), (.ref 121), .none, (.ref 122), (.ref 123), (.ref 124), (.int 362 0), (.int 127 0), (sV "/claim/cut.py" 363)], #[]⟩) ::
  (mkFnE (.type "function") (inS 17 1) (Str.ofString "__init__") (Str.ofString "_NodeInfo.__init__") 3 .none .none .none (sV "cpy313.graphlib" 333) none (.ref 125) .none 0) ::
  (⟨(.type "tuple"), none, .seq #[(sV "node" 365), (sV "npredecessors" 366), (sV "successors" 367)] 0, #[]⟩) ::
  (⟨(.type "list"), none, .seq #[(sV "node" 353), (sV "npredecessors" 354), (sV "successors" 355)] 1, #[]⟩) ::
  (⟨(.type "dict"), none, .dict #[kE P "__module__" 348 (sV "cpy313.graphlib" 333), kE P "__firstlineno__" 352 (.int 124 351), kE P "__slots__" 356 (.ref 119), kE P "__init__" 364 (.ref 126), kE P "__static_attributes__" 368 (.ref 127), kE P "node" 370 (.ref 131), kE P "npredecessors" 372 (.ref 132), kE P "successors" 374 (.ref 133), kE P "__doc__" 375 .none] 5, #[]⟩) ::
  (⟨(.type "type"), none, .cls { name := (Str.ofString "_NodeInfo"), bases := [(.type "object")], mro := [(.ref 130), (.type "object")], ns := 129, qualname := (Str.ofString "_NodeInfo"), hasDict := false, slotNames := [(Str.ofString "node"), (Str.ofString "npredecessors"), (Str.ofString "successors")], subclasses := [], abstract := false, collection := none, hasDel := false }, #[none, none, some (sV "_NodeInfo" 341), some (sV "_NodeInfo" 349), some (.builtin "object.__new__"), some (.bool false)]⟩) ::
  (⟨(.type "member_descriptor"), none, .fields #[(sV "node" 369), (.ref 130), (.builtin "proto.slot"), (.builtin "proto.slot#set"), (.int 2 0)], #[]⟩) ::
  (⟨(.type "member_descriptor"), none, .fields #[(sV "npredecessors" 371), (.ref 130), (.builtin "proto.slot"), (.builtin "proto.slot#set"), (.int 1 0)], #[]⟩) ::
  (⟨(.type "member_descriptor"), none, .fields #[(sV "successors" 373), (.ref 130), (.builtin "proto.slot"), (.builtin "proto.slot#set"), (.int 0 0)], #[]⟩) ::
  (⟨(.type "super"), none, .fields #[(.ref 130), (.ref 130), (.ref 130)], #[]⟩) ::
  (⟨(.type "builtin_function_or_method"), none, .fields #[(.builtin "object.__init_subclass__"), (.ref 130)], #[]⟩) ::
  []⟩, (boot_heap P).life⟩
noncomputable def hc19 (P : Params) : Heap := ⟨⟨(((hc17 P).objs.toList.set 3 (⟨(.type "dict"), none, .dict #[kE P "__name__" 165 (sV "cpy313.graphlib" 333), kE P "__doc__" 166 .none, kE P "__package__" 167 .none, kE P "__loader__" 168 (.builtin "__main__.__loader__#opaque"), kE P "__spec__" 169 .none, kE P "__annotations__" 170 (.ref 6), kE P "__builtins__" 171 (.ref 4), kE P "__file__" 173 (sV "/claim/cut.py" 172), kE P "__cached__" 174 .none, kE P "_wall" 193 (.ref 21), kE P "sep" 195 (sV "/" 194), kE P "_kind" 206 (.ref 28), kE P "_fspath" 215 (.ref 35), kE P "splitext" 227 (.ref 42), kE P "_c_path" 240 (.ref 49), kE P "_splitroot" 249 (.ref 56), kE P "basename" 257 (.ref 63), kE P "_normpath" 272 (.ref 70), kE P "normpath" 280 (.ref 77), kE P "_Ignore" 322 (.ref 100), kE P "_modname" 332 (.ref 111), kE P "_NODE_OUT" 337 (.int (-1) 336), kE P "_NODE_DONE" 340 (.int (-2) 339), kE P "_NodeInfo" 377 (.ref 130), kE P "CycleError" 395 (.ref 145), kE P "TopologicalSorter" 514 (.ref 227)] 26, #[]⟩)).set 12 (⟨.none, none, .fields #[(.int 1 0), (.int 0 0), (.ref 20), (.int 6 0), (.int 0 0), (.ref 27), (.int 27 0), (.int 0 0), (.ref 34), (.int 32 0), (.int 0 0), (.ref 41), (.int 45 0), (.int 0 0), (.ref 48), (.int 56 0), (.int 0 0), (.ref 55), (.int 65 0), (.int 0 0), (.ref 62), (.int 69 0), (.int 0 0), (.ref 69), (.int 88 0), (.int 0 0), (.ref 76), (.int 91 0), (.int 0 0), (.ref 83), (.int 117 0), (.int 0 0), (.ref 110), (.int 124 0), (.int 0 0), (.ref 117), (.int 131 0), (.int 0 0), (.ref 141), (.int 133 0), (.int 0 0), (.ref 154)], #[]⟩)) ++
  (⟨(.type "tuple"), none, .seq #[(.type "ValueError")] 0, #[]⟩) ::
  (⟨(.type "builtin_function_or_method"), none, .fields #[(.builtin "type.__prepare__"), (.type "type")], #[]⟩) ::
  (⟨(.type "dict"), none, .dict #[kE P "__module__" 385 (sV "cpy313.graphlib" 333), kE P "__qualname__" 387 (sV "CycleError" 386), kE P "__firstlineno__" 389 (.int 131 388), kE P "__static_attributes__" 390 (.ref 143)] 4, #[]⟩) ::
  (⟨(.type "tuple"), none, .seq #[] 0, #[]⟩) ::
  (⟨.none, none, .fields #[], #[]⟩) ::
  (⟨(.type "code"), none, .fields #[(sV "CycleError" 380), (sV "CycleError" 381), (sV "/claim/cut.py" 382), (.int 131 0), (.int 0 0), (.int 0 0), (.int 0 0), (.int 0 0), (.ref 139), (.bool false), (.int 181 0), (.ref 140), .none, .none, .none, .none, (.int 383 0), (.int 131 0), (sV "/claim/cut.py" 384)], #[]⟩) ::
  (⟨(.type "frame"), none, .plain, #[some (.ref 141), some (.ref 3), some (.ref 138), none, some (sV "cpy313.graphlib" 333), none, some (.ref 0)]⟩) ::
  (⟨(.type "tuple"), none, .seq #[] 0, #[]⟩) ::
  (⟨(.type "dict"), none, .dict #[kE P "__module__" 385 (sV "cpy313.graphlib" 333), kE P "__firstlineno__" 389 (.int 131 388), kE P "__static_attributes__" 390 (.ref 143), kE P "__weakref__" 392 (.ref 146), kE P "__doc__" 393 .none] 3, #[]⟩) ::
  (⟨(.type "type"), none, .cls { name := (Str.ofString "CycleError"), bases := [(.type "ValueError")], mro := [(.ref 145), (.type "ValueError"), (.type "Exception"), (.type "BaseException"), (.type "object")], ns := 144, qualname := (Str.ofString "CycleError"), hasDict := true, slotNames := [], subclasses := [], abstract := false, collection := none, hasDel := false }, #[some (.ref 136), none, some (sV "CycleError" 378), some (sV "CycleError" 386), some (.builtin "ValueError.__new__"), some (.bool true)]⟩) ::
  (⟨(.type "getset_descriptor"), none, .fields #[(sV "__weakref__" 391), (.ref 145), (.builtin "ExceptionGroup.__weakref__"), .none], #[]⟩) ::
  (⟨(.type "super"), none, .fields #[(.ref 145), (.ref 145), (.ref 145)], #[]⟩) ::
  (⟨(.type "builtin_function_or_method"), none, .fields #[(.builtin "object.__init_subclass__"), (.ref 145)], #[]⟩) ::
  (⟨(.type "tuple"), none, .seq #[] 0, #[]⟩) ::
  (⟨(.type "builtin_function_or_method"), none, .fields #[(.builtin "type.__prepare__"), (.type "type")], #[]⟩) ::
  (⟨(.type "dict"), none, .dict #[kE P "__module__" 403 (sV "cpy313.graphlib" 333), kE P "__qualname__" 405 (sV "TopologicalSorter" 404), kE P "__firstlineno__" 407 (.int 133 406), kE P "__init__" 417 (.ref 163), kE P "_get_nodeinfo" 426 (.ref 170), kE P "add" 438 (.ref 177), kE P "prepare" 444 (.ref 182), kE P "get_ready" 454 (.ref 189), kE P "is_active" 461 (.ref 196), kE P "__bool__" 468 (.ref 203), kE P "done" 482 (.ref 210), kE P "_find_cycle" 495 (.ref 217), kE P "static_order" 502 (.ref 224), kE P "__static_attributes__" 507 (.ref 225)] 14, #[]⟩) ::
  (⟨(.type "tuple"), none, .seq #[] 0, #[]⟩) ::
  (⟨.none, none, .fields #[(.int 135 0), (.int 4 0), (.ref 162), (.int 144 0), (.int 4 0), (.ref 169), (.int 149 0), (.int 4 0), (.ref 176), (.int 158 0), (.int 4 0), (.ref 181), (.int 166 0), (.int 4 0), (.ref 188), (.int 177 0), (.int 4 0), (.ref 195), (.int 182 0), (.int 4 0), (.ref 202), (.int 185 0), (.int 4 0), (.ref 209), (.int 208 0), (.int 4 0), (.ref 216), (.int 237 0), (.int 4 0), (.ref 223)], #[]⟩) ::
  (⟨(.type "code"), none, .fields #[(sV "TopologicalSorter" 398), (sV "TopologicalSorter" 399), (sV "/claim/cut.py" 400), (.int 133 0), (.int 0 0), (.int 0 0), (.int 0 0), (.int 0 0), (.ref 152), (.bool false), (.int 181 0), (.ref 153), .none, .none, .none, .none, (.int 401 0), (.int 133 0), (sV "/claim/cut.py" 402)], #[]⟩) ::
  (⟨(.type "frame"), none, .plain, #[some (.ref 154), some (.ref 3), some (.ref 151), none, some (sV "cpy313.graphlib" 333), none, some (.ref 0)]⟩) ::
  (⟨(.type "tuple"), none, .seq #[.none] 0, #[]⟩) ::
  (⟨(.type "tuple"), none, .seq #[] 0, #[]⟩) ::
  (⟨.none, none, .fields #[], #[]⟩) ::
  (⟨(.type "tuple"), none, .seq #[(sV "self" 411), (sV "graph" 412), (sV "node" 413), (sV "predecessors" 414)] 0, #[]⟩) ::
  (⟨(.type "tuple"), none, .seq #[] 0, #[]⟩) ::
  (mkFnE .none (inS 19 0) (Str.ofString "__init__") (Str.ofString "TopologicalSorter.__init__") 0 .none .none .none .none none .none .none 0) ::
  (⟨(.type "code"), none, .fields #[(sV "__init__" 408), (sV "TopologicalSorter.__init__" 409), (sV "/claim/cut.py" 410), (.int 135 0), (.int 2 0), (.int 0 0), (.int 0 0), (.int 3 0), (.ref 157), (.bool true), (.int 181 0), (.ref 158), .none, (.ref 159), (.ref 160), (.ref 161), (.int 415 0), (.int 135 0), (sV "/claim/cut.py" 416)], #[]⟩) ::
  (mkFnE (.type "function") (inS 19 0) (Str.ofString "__init__") (Str.ofString "TopologicalSorter.__init__") 3 (.ref 156) .none .none (sV "cpy313.graphlib" 333) none (.ref 162) .none 0) ::
  (⟨(.type "tuple"), none, .seq #[] 0, #[]⟩) ::
  (⟨.none, none, .fields #[], #[]⟩) ::
  (⟨(.type "tuple"), none, .seq #[(sV "self" 421), (sV "node" 422), (sV "result" 423)] 0, #[]⟩) ::
  (⟨(.type "tuple"), none, .seq #[] 0, #[]⟩) ::
  (mkFnE .none (inS 19 1) (Str.ofString "_get_nodeinfo") (Str.ofString "TopologicalSorter._get_nodeinfo") 0 .none .none .none .none none .none .none 0) ::
  (⟨(.type "code"), none, .fields #[(sV "_get_nodeinfo" 418), (sV "TopologicalSorter._get_nodeinfo" 419), (sV "/claim/cut.py" 420), (.int 144 0), (.int 2 0), (.int 0 0), (.int 0 0), (.int 3 0), (.ref 164), (.bool true), (.int 181 0), (.ref 165), .none, (.ref 166), (.ref 167), (.ref 168), (.int 424 0), (.int 144 0), (sV "/claim/cut.py" 425)], #[]⟩) ::
  (mkFnE (.type "function") (inS 19 1) (Str.ofString "_get_nodeinfo") (Str.ofString "TopologicalSorter._get_nodeinfo") 3 .none .none .none (sV "cpy313.graphlib" 333) none (.ref 169) .none 0) ::
  (⟨(.type "tuple"), none, .seq #[] 0, #[]⟩) ::
  (⟨.none, none, .fields #[], #[]⟩) ::
  (⟨(.type "tuple"), none, .seq #[(sV "self" 430), (sV "node" 431), (sV "predecessors" 432), (sV "nodeinfo" 433), (sV "pred" 434), (sV "pred_info" 435)] 0, #[]⟩) ::
  (⟨(.type "tuple"), none, .seq #[] 0, #[]⟩) ::
  (mkFnE .none (inS 19 2) (Str.ofString "add") (Str.ofString "TopologicalSorter.add") 0 .none .none .none .none none .none .none 0) ::
  (⟨(.type "code"), none, .fields #[(sV "add" 427), (sV "TopologicalSorter.add" 428), (sV "/claim/cut.py" 429), (.int 149 0), (.int 2 0), (.int 0 0), (.int 0 0), (.int 7 0), (.ref 171), (.bool true), (.int 181 0), (.ref 172), .none, (.ref 173), (.ref 174), (.ref 175), (.int 436 0), (.int 149 0), (sV "/claim/cut.py" 437)], #[]⟩) ::
  (mkFnE (.type "function") (inS 19 2) (Str.ofString "add") (Str.ofString "TopologicalSorter.add") 3 .none .none .none (sV "cpy313.graphlib" 333) none (.ref 176) .none 0) ::
  (⟨(.type "tuple"), none, .seq #[] 0, #[]⟩) ::
  (⟨.none, none, .fields #[], #[]⟩) ::
  (mkFnE .none (inS 19 3) (Str.ofString "prepare") (Str.ofString "TopologicalSorter.prepare") 0 .none .none .none .none none .none .none 0) ::
  (⟨(.type "code"), none, .fields #[(sV "prepare" 439), (sV "TopologicalSorter.prepare" 440), (sV "/claim/cut.py" 441), (.int 158 0), (.int 1 0), (.int 0 0), (.int 0 0), (.int 3 0), (.ref 178), (.bool true), (.int 181 0), (.ref 179), .none, .none, .none, (.ref 180), (.int 442 0), (.int 158 0), (sV "/claim/cut.py" 443)], #[]⟩) ::
  (mkFnE (.type "function") (inS 19 3) (Str.ofString "prepare") (Str.ofString "TopologicalSorter.prepare") 3 .none .none .none (sV "cpy313.graphlib" 333) none (.ref 181) .none 0) ::
  (⟨(.type "tuple"), none, .seq #[] 0, #[]⟩) ::
  (⟨.none, none, .fields #[], #[]⟩) ::
  (⟨(.type "tuple"), none, .seq #[(sV "self" 448), (sV "result" 449), (sV "n2i" 450), (sV "node" 451)] 0, #[]⟩) ::
  (⟨(.type "tuple"), none, .seq #[] 0, #[]⟩) ::
  (mkFnE .none (inS 19 4) (Str.ofString "get_ready") (Str.ofString "TopologicalSorter.get_ready") 0 .none .none .none .none none .none .none 0) ::
  (⟨(.type "code"), none, .fields #[(sV "get_ready" 445), (sV "TopologicalSorter.get_ready" 446), (sV "/claim/cut.py" 447), (.int 166 0), (.int 1 0), (.int 0 0), (.int 0 0), (.int 3 0), (.ref 183), (.bool true), (.int 181 0), (.ref 184), .none, (.ref 185), (.ref 186), (.ref 187), (.int 452 0), (.int 166 0), (sV "/claim/cut.py" 453)], #[]⟩) ::
  (mkFnE (.type "function") (inS 19 4) (Str.ofString "get_ready") (Str.ofString "TopologicalSorter.get_ready") 3 .none .none .none (sV "cpy313.graphlib" 333) none (.ref 188) .none 0) ::
  (⟨(.type "tuple"), none, .seq #[] 0, #[]⟩) ::
  (⟨.none, none, .fields #[], #[]⟩) ::
  (⟨(.type "tuple"), none, .seq #[(sV "self" 458)] 0, #[]⟩) ::
  (⟨(.type "tuple"), none, .seq #[] 0, #[]⟩) ::
  (mkFnE .none (inS 19 5) (Str.ofString "is_active") (Str.ofString "TopologicalSorter.is_active") 0 .none .none .none .none none .none .none 0) ::
  (⟨(.type "code"), none, .fields #[(sV "is_active" 455), (sV "TopologicalSorter.is_active" 456), (sV "/claim/cut.py" 457), (.int 177 0), (.int 1 0), (.int 0 0), (.int 0 0), (.int 3 0), (.ref 190), (.bool true), (.int 181 0), (.ref 191), .none, (.ref 192), (.ref 193), (.ref 194), (.int 459 0), (.int 177 0), (sV "/claim/cut.py" 460)], #[]⟩) ::
  (mkFnE (.type "function") (inS 19 5) (Str.ofString "is_active") (Str.ofString "TopologicalSorter.is_active") 3 .none .none .none (sV "cpy313.graphlib" 333) none (.ref 195) .none 0) ::
  (⟨(.type "tuple"), none, .seq #[] 0, #[]⟩) ::
  (⟨.none, none, .fields #[], #[]⟩) ::
  (⟨(.type "tuple"), none, .seq #[(sV "self" 465)] 0, #[]⟩) ::
  (⟨(.type "tuple"), none, .seq #[] 0, #[]⟩) ::
  (mkFnE .none (inS 19 6) (Str.ofString "__bool__") (Str.ofString "TopologicalSorter.__bool__") 0 .none .none .none .none none .none .none 0) ::
  (⟨(.type "code"), none, .fields #[(sV "__bool__" 462), (sV "TopologicalSorter.__bool__" 463), (sV "/claim/cut.py" 464), (.int 182 0), (.int 1 0), (.int 0 0), (.int 0 0), (.int 3 0), (.ref 197), (.bool true), (.int 181 0), (.ref 198), .none, (.ref 199), (.ref 200), (.ref 201), (.int 466 0), (.int 182 0), (sV "/claim/cut.py" 467)], #[]⟩) ::
  (mkFnE (.type "function") (inS 19 6) (Str.ofString "__bool__") (Str.ofString "TopologicalSorter.__bool__") 3 .none .none .none (sV "cpy313.graphlib" 333) none (.ref 202) .none 0) ::
  (⟨(.type "tuple"), none, .seq #[] 0, #[]⟩) ::
  (⟨.none, none, .fields #[], #[]⟩) ::
  (⟨(.type "tuple"), none, .seq #[(sV "self" 472), (sV "nodes" 473), (sV "n2i" 474), (sV "node" 475), (sV "nodeinfo" 476), (sV "stat" 477), (sV "successor" 478), (sV "successor_info" 479)] 0, #[]⟩) ::
  (⟨(.type "tuple"), none, .seq #[] 0, #[]⟩) ::
  (mkFnE .none (inS 19 7) (Str.ofString "done") (Str.ofString "TopologicalSorter.done") 0 .none .none .none .none none .none .none 0) ::
  (⟨(.type "code"), none, .fields #[(sV "done" 469), (sV "TopologicalSorter.done" 470), (sV "/claim/cut.py" 471), (.int 185 0), (.int 1 0), (.int 0 0), (.int 0 0), (.int 7 0), (.ref 204), (.bool true), (.int 181 0), (.ref 205), .none, (.ref 206), (.ref 207), (.ref 208), (.int 480 0), (.int 185 0), (sV "/claim/cut.py" 481)], #[]⟩) ::
  (mkFnE (.type "function") (inS 19 7) (Str.ofString "done") (Str.ofString "TopologicalSorter.done") 3 .none .none .none (sV "cpy313.graphlib" 333) none (.ref 209) .none 0) ::
  (⟨(.type "tuple"), none, .seq #[] 0, #[]⟩) ::
  (⟨.none, none, .fields #[], #[]⟩) ::
  (⟨(.type "tuple"), none, .seq #[(sV "self" 486), (sV "n2i" 487), (sV "stack" 488), (sV "itstack" 489), (sV "seen" 490), (sV "node2stacki" 491), (sV "node" 492)] 0, #[]⟩) ::
  (⟨(.type "tuple"), none, .seq #[] 0, #[]⟩) ::
  (mkFnE .none (inS 19 8) (Str.ofString "_find_cycle") (Str.ofString "TopologicalSorter._find_cycle") 0 .none .none .none .none none .none .none 0) ::
  (⟨(.type "code"), none, .fields #[(sV "_find_cycle" 483), (sV "TopologicalSorter._find_cycle" 484), (sV "/claim/cut.py" 485), (.int 208 0), (.int 1 0), (.int 0 0), (.int 0 0), (.int 3 0), (.ref 211), (.bool true), (.int 181 0), (.ref 212), .none, (.ref 213), (.ref 214), (.ref 215), (.int 493 0), (.int 208 0), (sV "/claim/cut.py" 494)], #[]⟩) ::
  (mkFnE (.type "function") (inS 19 8) (Str.ofString "_find_cycle") (Str.ofString "TopologicalSorter._find_cycle") 3 .none .none .none (sV "cpy313.graphlib" 333) none (.ref 216) .none 0) ::
  (⟨(.type "tuple"), none, .seq #[] 0, #[]⟩) ::
  (⟨.none, none, .fields #[], #[]⟩) ::
  (⟨(.type "tuple"), none, .seq #[(sV "self" 499)] 0, #[]⟩) ::
  (⟨(.type "tuple"), none, .seq #[] 0, #[]⟩) ::
  (mkFnE .none (inS 19 9) (Str.ofString "static_order") (Str.ofString "TopologicalSorter.static_order") 0 .none .none .none .none none .none .none 0) ::
  (⟨(.type "code"), none, .fields #[(sV "static_order" 496), (sV "TopologicalSorter.static_order" 497), (sV "/claim/cut.py" 498), (.int 237 0), (.int 1 0), (.int 0 0), (.int 0 0), (.int 3 0), (.ref 218), (.bool true), (.int 181 0), (.ref 219), .none, (.ref 220), (.ref 221), (.ref 222), (.int 500 0), (.int 237 0), (sV "/claim/cut.py" 501)], #[]⟩) ::
  (mkFnE (.type "function") (inS 19 9) (Str.ofString "static_order") (Str.ofString "TopologicalSorter.static_order") 3 .none .none .none (sV "cpy313.graphlib" 333) none (.ref 223) .none 0) ::
  (⟨(.type "tuple"), none, .seq #[(sV "_nfinished" 503), (sV "_node2info" 504), (sV "_npassedout" 505), (sV "_ready_nodes" 506)] 0, #[]⟩) ::
  (⟨(.type "dict"), none, .dict #[kE P "__module__" 403 (sV "cpy313.graphlib" 333), kE P "__firstlineno__" 407 (.int 133 406), kE P "__init__" 417 (.ref 163), kE P "_get_nodeinfo" 426 (.ref 170), kE P "add" 438 (.ref 177), kE P "prepare" 444 (.ref 182), kE P "get_ready" 454 (.ref 189), kE P "is_active" 461 (.ref 196), kE P "__bool__" 468 (.ref 203), kE P "done" 482 (.ref 210), kE P "_find_cycle" 495 (.ref 217), kE P "static_order" 502 (.ref 224), kE P "__static_attributes__" 507 (.ref 225), kE P "__dict__" 509 (.ref 228), kE P "__weakref__" 511 (.ref 229), kE P "__doc__" 512 .none] 4, #[]⟩) ::
  (⟨(.type "type"), none, .cls { name := (Str.ofString "TopologicalSorter"), bases := [(.type "object")], mro := [(.ref 227), (.type "object")], ns := 226, qualname := (Str.ofString "TopologicalSorter"), hasDict := true, slotNames := [], subclasses := [], abstract := false, collection := none, hasDel := false }, #[none, none, some (sV "TopologicalSorter" 396), some (sV "TopologicalSorter" 404), some (.builtin "object.__new__"), some (.bool true)]⟩) ::
  (⟨(.type "getset_descriptor"), none, .fields #[(sV "__dict__" 508), (.ref 227), (.builtin "function.__dict__"), (.builtin "function.__dict__#set")], #[]⟩) ::
  (⟨(.type "getset_descriptor"), none, .fields #[(sV "__weakref__" 510), (.ref 227), (.builtin "ExceptionGroup.__weakref__"), .none], #[]⟩) ::
  (⟨(.type "super"), none, .fields #[(.ref 227), (.ref 227), (.ref 227)], #[]⟩) ::
  (⟨(.type "builtin_function_or_method"), none, .fields #[(.builtin "object.__init_subclass__"), (.ref 227)], #[]⟩) ::
  []⟩, (boot_heap P).life⟩
noncomputable abbrev PW : Program := PySem.Challenge.pw_oh0056_01
noncomputable def topEnv : Env := { scope := PW.main.scope, locals := mainNs, globals := mainNs, cells := [], code := .ref 13, frame := some 14 }
noncomputable def topCode : Code := .body (behindTheImports PW) topEnv
noncomputable def pos0 : Pos := ⟨0, 0, 0, 0⟩
noncomputable def pos1 : Pos := ⟨124, 0, 130, 28⟩
noncomputable def pos2 : Pos := ⟨133, 0, 238, 16⟩
noncomputable def sa (w : World) (os : OsState) : Shared := ⟨ha w.params, Array.mk [], boot_drawn, 187, os⟩
noncomputable def sc17 (w : World) (os : OsState) : Shared := ⟨hc17 w.params, Array.mk [], boot_drawn, 378, os⟩
noncomputable def sc19 (w : World) (os : OsState) : Shared := ⟨hc19 w.params, Array.mk [], boot_drawn, 515, os⟩
theorem boot0 (w : World) : (fencedOpening treeTable PW w 3840).map (fun s => (s.heap, s.gens, s.drawn, s.toks)) = some (boot_heap w.params, Array.mk [], boot_drawn, boot_toks) :=
  boot_open (p := PW) (N := 3840) (by kernel_rfl) (by rfl) (fun s => by kernel_rfl) w
theorem size0 (w : World) : ((boot_heap w.params).isNs mainGlobals && (Array.mk ([] : List GenState)).size == 0, (boot_heap w.params).objs.size, (boot_heap w.params).nsMap mainGlobals "__annotations__") = (true, 11, some (.ref 6)) := by kernel_rfl
theorem piece0 (w : World) (os : OsState) : topGo treeTable PW w 11 (some (.ref 6)) 12 ⟨boot_heap w.params, Array.mk [], boot_drawn, boot_toks, os⟩ (topStub PW) = some (sa w os, ⟨denote treeTable topCode, topCode, pos0, [topFrame pos0]⟩) := by kernel_rfl
theorem piece1 (w : World) (os : OsState) : segRun treeTable PW w 11 (some (.ref 6)) 1 1 (sa w os) (blockOf (behindTheImports PW) topEnv topCode pos0 [topFrame pos0]) = some (.next, sa w os, topCode, pos0) := by kernel_rfl
theorem piece2 (w : World) (os : OsState) : segRun treeTable PW w 11 (some (.ref 6)) 1 904 (sa w os) (piecesOf ((behindTheImports PW).take 18) topEnv topCode pos0 [topFrame pos0]) = some (.next, sc17 w os, topCode, pos1) := by kernel_rfl
theorem piece3 (w : World) (os : OsState) : segRun treeTable PW w 11 (some (.ref 6)) 1 714 (sc17 w os) (piecesOf (((behindTheImports PW).drop 18).take 2) topEnv topCode pos1 [topFrame pos0]) = some (.next, sc19 w os, topCode, pos2) := by kernel_rfl
theorem chain {w : World} {os : OsState} {N : Nat} {r : Shared} (k : topRun treeTable PW w 11 (some (.ref 6)) N (sc19 w os) (restOf (((behindTheImports PW).drop 18).drop 2) topEnv topCode pos2 [topFrame pos0]) = some r) :
    topRun treeTable PW w 11 (some (.ref 6)) (12 + (1 + (904 + (714 + N)))) ⟨boot_heap w.params, Array.mk [], boot_drawn, boot_toks, os⟩ (topStub PW) = some r := by
  have b := piece_app (piece3 w os) k
  rw [List.take_append_drop] at b
  have a := piece_app (piece2 w os) b
  rw [List.take_append_drop] at a
  exact go_top (piece0 w os) (piece_block (piece1 w os) a)
theorem left_abs {p q : Program} {loose : List Str} {Xt : Shared → Bool} {α : Type} {Yf : Shared → α} {Ya : World → α} {N M m₀ : Nat} {ann : Option Value} {H₀ : Params → Heap} {gs₀ : Array GenState} {d₀ : Drawn} {k₀ : Nat}
    (open_ : ∀ w : World, (fencedOpening treeTable p w N).map (fun s => (s.heap, s.gens, s.drawn, s.toks)) = some (H₀ w.params, gs₀, d₀, k₀))
    (size : ∀ w : World, ((H₀ w.params).isNs mainGlobals && gs₀.size == 0, (H₀ w.params).objs.size, (H₀ w.params).nsMap mainGlobals "__annotations__") = (true, m₀, ann)) (le : M ≤ N)
    (run : ∀ w os, ((topRun treeTable p w m₀ ann M ⟨H₀ w.params, gs₀, d₀, k₀, os⟩ (topStub p)).bind fun s₁ =>
      match staticsOk (importedModules p.main.body) (H₀ w.params) s₁.heap && namesBound p s₁.heap && gensDone s₁ && laidKept (H₀ w.params) s₁.heap with
      | true => some s₁
      | false => none).map (fun s => (openSeen q loose (importedModules p.main.body) Xt true s, Yf s)) = some (openGood q loose, Ya w)) : LeftO p q loose Xt Yf Ya N := fun w => by
  obtain ⟨⟨h, gs, d, k, os⟩, e, e'⟩ := Option.map_eq_some_iff.mp (open_ w)
  obtain ⟨rfl, rfl, rfl, rfl⟩ : h = H₀ w.params ∧ gs = gs₀ ∧ d = d₀ ∧ k = k₀ := by simpa using e'
  obtain ⟨z1, z2, z3⟩ : _ ∧ _ ∧ _ := by simpa only [Prod.mk.injEq] using size w
  have hh := run w os
  unfold openEnds
  rw [e]
  show (topFrom treeTable p w N ⟨H₀ w.params, gs, d, k, os⟩).map _ = _
  cases hr : topRun treeTable p w m₀ ann M ⟨H₀ w.params, gs, d, k, os⟩ (topStub p) with
  | none => rw [hr] at hh; cases hh
  | some r =>
    rw [hr] at hh
    have r' := topRun_mono (N - M) _ _ _ _ hr
    rw [show M + (N - M) = N by omega] at r'
    unfold topFrom
    dsimp only
    rw [z1, z2, z3, r']
    exact hh
theorem bind_of {β : Type} {a b : Option Shared} {F : Shared → Option Shared} {G : Shared → β} {c : β} (h : ∀ r, a = some r → b = some r) (e : (a.bind F).map G = some c) : (b.bind F).map G = some c := by
  cases a with
  | none => cases e
  | some r => rw [h r rfl]; exact e
end Mine
end
section
open PySem PySem.W PySem.W.X PySem.W.ZRun PyProof.Rows PySem.Calls PySem.Spec
namespace Mine
/-- the objects at the rising places `as`, in one pass -/
noncomputable def pick : List Nat → Nat → List Obj → List (Option Obj)
  | _, _, [] => []
  | [], _, _ :: _ => []
  | a :: as, i, o :: l => match Nat.beq a i with
    | true => some o :: pick as (i + 1) l
    | false => pick (a :: as) (i + 1) l
noncomputable def frees : List (Nat × Obj) → Bool
  | [] => true
  | p :: l => !p.2.isFreed && frees l
noncomputable def gets (h : Heap) : List (Nat × Obj) → Prop
  | [] => True
  | p :: l => h.get? p.1 = some p.2 ∧ gets h l
theorem get_of {h : Heap} {a : Nat} {o : Obj} (e : h.objs[a]? = some o) (hf : o.isFreed = false) : h.get? a = some o := by
  unfold Heap.get?
  rw [e]
  obtain ⟨c, d, da, s⟩ := o
  cases da <;> first | rfl | cases hf
theorem pick_sound (h : Heap) : ∀ (fr : List (Nat × Obj)) (i : Nat) (l : List Obj), (∀ j, l[j]? = h.objs[i + j]?) → frees fr = true → pick (fr.map (·.1)) i l = fr.map (fun p => some p.2) → gets h fr
  | [], _, _, _, _, _ => trivial
  | p :: fr, i, [], _, _, e => by cases e
  | p :: fr, i, o :: l, hl, hf, e => by
    have hl' : ∀ j, l[j]? = h.objs[i + 1 + j]? := fun j => by
      have := hl (j + 1)
      rw [List.getElem?_cons_succ] at this
      rw [this]; congr 1; omega
    rw [List.map_cons, List.map_cons] at e
    unfold pick at e
    rw [frees, Bool.and_eq_true] at hf
    cases hb : Nat.beq p.1 i with
    | true =>
      rw [hb] at e
      obtain ⟨e1, e2⟩ := List.cons.inj e
      have ha : p.1 = i := Nat.eq_of_beq_eq_true hb
      refine ⟨?_, pick_sound h fr (i + 1) l hl' hf.2 e2⟩
      have := hl 0
      rw [List.getElem?_cons_zero, Nat.add_zero, Option.some.inj e1] at this
      rw [ha]
      exact get_of this.symm (by simpa using hf.1)
    | false =>
      rw [hb] at e
      exact pick_sound h (p :: fr) (i + 1) l hl' (by rw [frees, Bool.and_eq_true]; exact hf) e
theorem gets_in {h : Heap} : ∀ {fr : List (Nat × Obj)}, gets h fr → (fr.map (·.1)).map h.get? = fr.map (fun p => some p.2)
  | [], _ => rfl
  | p :: fr, ⟨a, b⟩ => by rw [List.map_cons, List.map_cons, List.map_cons, a]; exact congrArg _ (gets_in b)
theorem K_keys (P : Params) : asK = (K P).map (·.1) := by kernel_rfl
theorem K_frees (P : Params) : frees (K P) = true := by kernel_rfl
noncomputable def hook : Hook where
  α := List (Option Obj)
  obs s := pick asK 0 s.heap.objs.toList
  val w := (K w.params).map fun p => some p.2
  says := InK K
  of := fun w s e => InK.of K_keys w s (by
    rw [K_keys w.params] at e ⊢
    exact gets_in (pick_sound s.heap (K w.params) 0 _ (fun j => by rw [Nat.zero_add, Array.getElem?_toList]) (K_frees _) e))
  keeps := InK.keeps
noncomputable def q56 : Program := view PySem.Challenge.pw_oh0056_01 [0, 1, 3, 4, 5, 6, 7, 8, 9, 10, 12, 13, 15, 16, 17, 18, 19, 21, 22, 23, 24, 25, 26, 27, 28]
noncomputable abbrev rr : RowW := PySem.Challenge.rw_oh0056_01.row.toRowW
theorem half2 (w : World) (os : OsState) : ((topRun treeTable PW w 11 (some (.ref 6)) 300 (sc19 w os) (restOf (((behindTheImports PW).drop 18).drop 2) topEnv topCode pos2 [topFrame pos0])).bind fun s₁ =>
      match staticsOk (importedModules PW.main.body) (boot_heap w.params) s₁.heap && namesBound PW s₁.heap && gensDone s₁ && laidKept (boot_heap w.params) s₁.heap with
      | true => some s₁
      | false => none).map (fun s => (openSeen q56 [Str.ofString "_NodeInfo"] (importedModules PW.main.body) (fun s => xlAt q56 [] s && recOk (RowW.records rr) s) true s, hook.obs s)) = some (openGood q56 [Str.ofString "_NodeInfo"], hook.val w) := by
  kernel_rfl
theorem left : LeftO PW q56 [Str.ofString "_NodeInfo"] (fun s => xlAt q56 [] s && recOk (RowW.records rr) s) hook.obs hook.val 3840 :=
  left_abs boot0 size0 (M := 12 + (1 + (904 + (714 + 300)))) (by decide) fun w os => bind_of (fun _ k => chain k) (half2 w os)
end Mine
end
section
open PySem PySem.W PySem.W.X PySem.W.ZRun PyProof.Rows PySem.Calls PySem.Spec
namespace Mine
theorem and_i {a b : Bool} (h1 : a = true) (h2 : b = true) : (a && b) = true := by rw [h1, h2]; rfl
theorem said_row : PySem.Challenge.rw_oh0056_01.row.wellSaid = true := by kernel_rfl
theorem said : PySem.Challenge.rw_oh0056_01.wellSaid = true := by
  unfold OpenLaw.wellSaid
  repeat' (with_reducible refine and_i ?_ ?_)
  all_goals (first | (with_reducible exact said_row) | kernel_rfl)
end Mine
end
section
open PySem PySem.W PyProof.Rows PySem.Calls PySem.Spec
namespace Mine
theorem hideG {P : Prop} (h : ∀ G : Prop, (P → G) → G) : P := h P id
/-! the ledger as a finite map -/
noncomputable abbrev Led := List (Addr × Obj)
noncomputable def Ok (l : Led) : Prop := (l.map (·.1)).Nodup
noncomputable def setAt (l : Led) (a : Addr) (o : Obj) : Led := l.map fun p => if p.1 = a then (a, o) else p
theorem setAt_keys (l : Led) (a : Addr) (o : Obj) : (setAt l a o).map (·.1) = l.map (·.1) := by
  unfold setAt
  rw [List.map_map]
  refine List.map_congr_left fun p _ => ?_
  show (if p.1 = a then (a, o) else p).1 = p.1
  split
  · rename_i e; exact e.symm
  · rfl
theorem Ok.nil : Ok [] := List.nodup_nil
theorem Ok.setAt {l : Led} (h : Ok l) (a : Addr) (o : Obj) : Ok (setAt l a o) := by
  unfold Ok; rw [setAt_keys]; exact h
theorem Ok.cons {l : Led} (h : Ok l) {x : Addr} {o : Obj} (l1 : ∀ p ∈ l, p.1 < x) : Ok ((x, o) :: l) := by
  unfold Ok
  rw [List.map_cons, List.nodup_cons]
  refine ⟨fun hm => ?_, h⟩
  obtain ⟨p, hp, e⟩ := List.mem_map.mp hm
  exact absurd (l1 p hp) (by rw [e]; exact Nat.lt_irrefl _)
theorem Ok.cons_ne {l : Led} (h : Ok l) {x : Addr} {o : Obj} (l1 : ∀ p ∈ l, p.1 ≠ x) : Ok ((x, o) :: l) := by
  unfold Ok
  rw [List.map_cons, List.nodup_cons]
  refine ⟨fun hm => ?_, h⟩
  obtain ⟨p, hp, e⟩ := List.mem_map.mp hm
  exact absurd e (l1 p hp)
theorem Ok.same {l : Led} (h : Ok l) {a : Addr} {o o' : Obj} (h1 : (a, o) ∈ l) (h2 : (a, o') ∈ l) : o = o' := by
  have := X.key_unique h h1 h2 rfl
  exact (Prod.mk.inj this).2
theorem Ok.ne {l : Led} (h : Ok l) {a b : Addr} {o o' : Obj} (h1 : (a, o) ∈ l) (h2 : (b, o') ∈ l) (hn : o ≠ o') : a ≠ b := by
  rintro rfl
  exact hn (h.same h1 h2)
theorem mem_set_self {l : Led} {a : Addr} {o o0 : Obj} (h : (a, o0) ∈ l) : (a, o) ∈ setAt l a o :=
  List.mem_map.mpr ⟨_, h, if_pos rfl⟩
theorem mem_set_ne {l : Led} {a b : Addr} {o ob : Obj} (hn : b ≠ a) (h : (b, ob) ∈ l) : (b, ob) ∈ setAt l a o :=
  List.mem_map.mpr ⟨_, h, if_neg hn⟩
theorem mem_set_inv {l : Led} {a b : Addr} {o ob : Obj} (h : (b, ob) ∈ setAt l a o) : (b = a ∧ ob = o) ∨ (b ≠ a ∧ (b, ob) ∈ l) := by
  obtain ⟨p, hp, e⟩ := List.mem_map.mp h
  split at e
  · cases e; exact .inl ⟨rfl, rfl⟩
  · rename_i hn; cases e; exact .inr ⟨hn, hp⟩
theorem setAt_absent {l : Led} {a : Addr} {o : Obj} (h : ∀ p ∈ l, p.1 ≠ a) : setAt l a o = l := by
  unfold setAt
  conv => rhs; rw [← List.map_id l]
  refine List.map_congr_left fun p hp => ?_
  rw [if_neg (h p hp)]; rfl
theorem updF_of {a : Addr} {o : Obj} : ∀ {l : Led}, Ok l → (a, o) ∈ l → UpdF a o l (fun o' => setAt l a o')
  | (p :: r), h, hm => by
    have hr : Ok r := (List.nodup_cons.mp h).2
    have hp : p.1 ∉ r.map (·.1) := (List.nodup_cons.mp h).1
    by_cases e : p.1 = a
    · have hpa : p = (a, o) := X.key_unique h (.head _) hm e
      subst hpa
      have hno : ∀ q ∈ r, q.1 ≠ a := fun q hq e' => hp (List.mem_map.mpr ⟨q, hq, e'⟩)
      have : (fun o' => setAt ((a, o) :: r) a o') = fun o' => (a, o') :: r := by
        funext o'
        show (if a = a then (a, o') else (a, o)) :: setAt r a o' = _
        rw [if_pos rfl, setAt_absent hno]
      rw [this]
      exact .head hno
    · have hm' : (a, o) ∈ r := by
        rcases List.mem_cons.mp hm with rfl | hm'
        · exact absurd rfl e
        · exact hm'
      have : (fun o' => setAt (p :: r) a o') = fun o' => p :: setAt r a o' := by
        funext o'
        show (if p.1 = a then (a, o') else p) :: setAt r a o' = _
        rw [if_neg e]
      rw [this]
      exact .tail e (updF_of hr hm')
theorem upd_of {a : Addr} {o o' : Obj} : ∀ {l : Led}, Ok l → (a, o) ∈ l → Upd a o o' l (setAt l a o')
  | (p :: r), h, hm => by
    have hr : Ok r := (List.nodup_cons.mp h).2
    have hp : p.1 ∉ r.map (·.1) := (List.nodup_cons.mp h).1
    by_cases e : p.1 = a
    · have hpa : p = (a, o) := X.key_unique h (.head _) hm e
      subst hpa
      have hno : ∀ q ∈ r, q.1 ≠ a := fun q hq e' => hp (List.mem_map.mpr ⟨q, hq, e'⟩)
      have : setAt ((a, o) :: r) a o' = (a, o') :: r := by
        show (if a = a then (a, o') else (a, o)) :: setAt r a o' = _
        rw [if_pos rfl, setAt_absent hno]
      rw [this]
      exact .head hno
    · have hm' : (a, o) ∈ r := by
        rcases List.mem_cons.mp hm with rfl | hm'
        · exact absurd rfl e
        · exact hm'
      have : setAt (p :: r) a o' = p :: setAt r a o' := by
        show (if p.1 = a then (a, o') else p) :: setAt r a o' = _
        rw [if_neg e]
      rw [this]
      exact .tail e (upd_of hr hm')
theorem lt_allLt {x : Addr} {l : Led} (h : AllLt x l) : ∀ p ∈ l, p.1 < x := by
  induction l with
  | nil => intro p hp; cases hp
  | cons q r ih =>
    intro p hp
    rcases List.mem_cons.mp hp with e | hp
    · rw [e]; exact h.1
    · exact ih h.2 p hp
theorem allLt_set {x a : Addr} {o : Obj} {l : Led} (h : AllLt x l) : AllLt x (setAt l a o) := allLt_of fun p hp => by
  obtain ⟨q, hq, e⟩ := List.mem_map.mp hp
  have := lt_allLt h q hq
  split at e
  · rename_i ea; rw [← e, ← ea]; exact this
  · rw [← e]; exact this
theorem allLt_up {l : Led} {d x : Addr} (h : ∀ p ∈ l, p.1 < d) (hd : @LT.lt Nat _ d x) : AllLt x l := allLt_of fun p hp => Nat.lt_trans (h p hp) hd
theorem nes_lt {l : Led} {x : Addr} (h : AllLt x l) : ∀ p ∈ l, p.1 ≠ x := fun p hp => Nat.ne_of_lt (lt_allLt h p hp)
theorem nes_set {l : Led} {x a : Addr} {o : Obj} (h : ∀ p ∈ l, p.1 ≠ x) : ∀ p ∈ setAt l a o, p.1 ≠ x := fun p hp => by
  obtain ⟨q, hq, e⟩ := List.mem_map.mp hp
  have := h q hq
  split at e
  · rename_i ea; rw [← e, ← ea]; exact this
  · rw [← e]; exact this
theorem ne_all1 {l : Led} {x a : Addr} {o : Obj} (m : (a, o) ∈ l) (h : AllLt x l) : a ≠ x := Nat.ne_of_lt (lt_allLt h _ m)
theorem ne_all2 {l : Led} {x a : Addr} {o : Obj} (m : (a, o) ∈ l) (h : AllLt x l) : x ≠ a := Nat.ne_of_gt (lt_allLt h _ m)
theorem ne_lt1 {l : Led} {x a : Addr} {o : Obj} (h : ∀ p ∈ l, p.1 < x) (m : (a, o) ∈ l) : a ≠ x := Nat.ne_of_lt (h _ m)
theorem ne_lt2 {l : Led} {x a : Addr} {o : Obj} (h : ∀ p ∈ l, p.1 < x) (m : (a, o) ∈ l) : x ≠ a := Nat.ne_of_gt (h _ m)
theorem upd_tail {q9d : Addr} {q9o q9o' : Obj} {q9p : Addr × Obj} {q9r q9r' : Led} (q9ne : q9p.1 ≠ q9d) (q9u : Upd q9d q9o q9o' q9r q9r') : Upd q9d q9o q9o' (q9p :: q9r) (q9p :: q9r') := .tail q9ne q9u
theorem updF_tail {q9d : Addr} {q9o : Obj} {q9p : Addr × Obj} {q9r : Led} {q9g : Obj → Led} (q9ne : q9p.1 ≠ q9d) (q9u : UpdF q9d q9o q9r q9g) : UpdF q9d q9o (q9p :: q9r) (fun q9o' => q9p :: q9g q9o') := .tail q9ne q9u
theorem ne_z1 {q9l : Led} {q9x q9a : Addr} {q9o : Obj} (q9m : (q9a, q9o) ∈ q9l) (q9h : AllLt q9x q9l) : q9a ≠ q9x := ne_all1 q9m q9h
theorem ne_z2 {q9l : Led} {q9x q9a : Addr} {q9o : Obj} (q9m : (q9a, q9o) ∈ q9l) (q9h : AllLt q9x q9l) : q9x ≠ q9a := ne_all2 q9m q9h
theorem mset_z {q9l : Led} {q9a : Addr} {q9o q9o0 : Obj} (q9x : (q9a, q9o0) ∈ q9l) : (q9a, q9o) ∈ setAt q9l q9a q9o := mem_set_self q9x
theorem anyTk {α : Type} {M : Model} {A : Around} {t : Sem α} {Q : α → Shared → Prop} {E : Value → Shared → Prop} {h : Heap} {g} {d} {T : Nat} {o} (H : ∀ tk, wpAny M A t Q E ⟨h, g, d, tk, o⟩) : wpAny M A t Q E ⟨h, g, d, T, o⟩ := H T
noncomputable def NextQ (M : Model) (A : Around) (rest : List Stmt) (env : Env) (Q : Flow → Shared → Prop) (E : Value → Shared → Prop) (f : Flow) (s' : Shared) : Prop := match f with | .next => wpAny M A (execs rest env) Q E s' | f => Q f s'
theorem NextQ.cons {M : Model} {A : Around} {env : Env} {E : Value → Shared → Prop} {s : Shared} {st : Stmt} {rest : List Stmt} {Q : Flow → Shared → Prop} (h : wpAny M A (exec st env) (NextQ M A rest env Q E) E s) : wpAny M A (execs (st :: rest) env) Q E s := wpAny_execs_cons h
theorem NextQ.nx {M : Model} {A : Around} {env : Env} {E : Value → Shared → Prop} {s : Shared} {rest : List Stmt} {Q : Flow → Shared → Prop} (h : wpAny M A (execs rest env) Q E s) : NextQ M A rest env Q E .next s := h
theorem NextQ.rt {M : Model} {A : Around} {env : Env} {E : Value → Shared → Prop} {s : Shared} {rest : List Stmt} {v : Value} {Q : Flow → Shared → Prop} (h : Q (.ret v) s) : NextQ M A rest env Q E (.ret v) s := h
theorem NextQ.bk {M : Model} {A : Around} {env : Env} {E : Value → Shared → Prop} {s : Shared} {rest : List Stmt} {Q : Flow → Shared → Prop} (h : Q .brk s) : NextQ M A rest env Q E .brk s := h
theorem NextQ.ct {M : Model} {A : Around} {env : Env} {E : Value → Shared → Prop} {s : Shared} {rest : List Stmt} {Q : Flow → Shared → Prop} (h : Q .cont s) : NextQ M A rest env Q E .cont s := h
theorem upd_z {q9a : Addr} {q9o q9o' : Obj} {q9l : Led} (q9k : Ok q9l) (q9m : (q9a, q9o) ∈ q9l) : Upd q9a q9o q9o' q9l (setAt q9l q9a q9o') := upd_of q9k q9m
theorem updF_z {q9a : Addr} {q9o : Obj} {q9l : Led} (q9k : Ok q9l) (q9m : (q9a, q9o) ∈ q9l) : UpdF q9a q9o q9l (fun q9o' => setAt q9l q9a q9o') := updF_of q9k q9m
theorem mset_ne_z {q9l : Led} {q9a q9b : Addr} {q9o q9ob : Obj} (q9n : q9b ≠ q9a) (q9x : (q9b, q9ob) ∈ q9l) : (q9b, q9ob) ∈ setAt q9l q9a q9o := mem_set_ne q9n q9x
theorem News.sub {h₀ h : Heap} {L : Addr} {l l' : Led} (N : News h₀ L h l') (hs : ∀ p ∈ l, p ∈ l') : News h₀ L h l := fun p hp => N p (hs p hp)

theorem noE {α : Type} {M : Model} {A : Around} {t : Sem α} {Q : α → Shared → Prop} {E : Value → Shared → Prop} {s : Shared} (h : wpAny M A t Q (fun _ _ => False) s) : wpAny M A t Q E s := wpAny_mono h (fun _ _ x => x) fun _ _ x => x.elim
inductive Ex1 {α0 : Type} (P : α0 → Prop) : Prop
  | mk (x0 : α0) : P x0 → Ex1 P
inductive Ex2 {α0 : Type} {α1 : Type} (P : α0 → α1 → Prop) : Prop
  | mk (x0 : α0) (x1 : α1) : P x0 x1 → Ex2 P
inductive Ex3 {α0 : Type} {α1 : Type} {α2 : Type} (P : α0 → α1 → α2 → Prop) : Prop
  | mk (x0 : α0) (x1 : α1) (x2 : α2) : P x0 x1 x2 → Ex3 P
inductive Ex4 {α0 : Type} {α1 : Type} {α2 : Type} {α3 : Type} (P : α0 → α1 → α2 → α3 → Prop) : Prop
  | mk (x0 : α0) (x1 : α1) (x2 : α2) (x3 : α3) : P x0 x1 x2 x3 → Ex4 P
inductive Ex5 {α0 : Type} {α1 : Type} {α2 : Type} {α3 : Type} {α4 : Type} (P : α0 → α1 → α2 → α3 → α4 → Prop) : Prop
  | mk (x0 : α0) (x1 : α1) (x2 : α2) (x3 : α3) (x4 : α4) : P x0 x1 x2 x3 x4 → Ex5 P
inductive Ex8 {α0 : Type} {α1 : Type} {α2 : Type} {α3 : Type} {α4 : Type} {α5 : Type} {α6 : Type} {α7 : Type} (P : α0 → α1 → α2 → α3 → α4 → α5 → α6 → α7 → Prop) : Prop
  | mk (x0 : α0) (x1 : α1) (x2 : α2) (x3 : α3) (x4 : α4) (x5 : α5) (x6 : α6) (x7 : α7) : P x0 x1 x2 x3 x4 x5 x6 x7 → Ex8 P
inductive All3 (p0 p1 p2 : Prop) : Prop
  | mk : p0 → p1 → p2 → All3 p0 p1 p2
inductive All4 (p0 p1 p2 p3 : Prop) : Prop
  | mk : p0 → p1 → p2 → p3 → All4 p0 p1 p2 p3
inductive All5 (p0 p1 p2 p3 p4 : Prop) : Prop
  | mk : p0 → p1 → p2 → p3 → p4 → All5 p0 p1 p2 p3 p4
inductive All6 (p0 p1 p2 p3 p4 p5 : Prop) : Prop
  | mk : p0 → p1 → p2 → p3 → p4 → p5 → All6 p0 p1 p2 p3 p4 p5
inductive All8 (p0 p1 p2 p3 p4 p5 p6 p7 : Prop) : Prop
  | mk : p0 → p1 → p2 → p3 → p4 → p5 → p6 → p7 → All8 p0 p1 p2 p3 p4 p5 p6 p7
inductive All9 (p0 p1 p2 p3 p4 p5 p6 p7 p8 : Prop) : Prop
  | mk : p0 → p1 → p2 → p3 → p4 → p5 → p6 → p7 → p8 → All9 p0 p1 p2 p3 p4 p5 p6 p7 p8
inductive All10 (p0 p1 p2 p3 p4 p5 p6 p7 p8 p9 : Prop) : Prop
  | mk : p0 → p1 → p2 → p3 → p4 → p5 → p6 → p7 → p8 → p9 → All10 p0 p1 p2 p3 p4 p5 p6 p7 p8 p9
inductive All12 (p0 p1 p2 p3 p4 p5 p6 p7 p8 p9 p10 p11 : Prop) : Prop
  | mk : p0 → p1 → p2 → p3 → p4 → p5 → p6 → p7 → p8 → p9 → p10 → p11 → All12 p0 p1 p2 p3 p4 p5 p6 p7 p8 p9 p10 p11
inductive All14 (p0 p1 p2 p3 p4 p5 p6 p7 p8 p9 p10 p11 p12 p13 : Prop) : Prop
  | mk : p0 → p1 → p2 → p3 → p4 → p5 → p6 → p7 → p8 → p9 → p10 → p11 → p12 → p13 → All14 p0 p1 p2 p3 p4 p5 p6 p7 p8 p9 p10 p11 p12 p13
theorem room_of {d a b n : Nat} (h : d + a < n) (hb : Nat.ble b a = true) : d + b < n := Nat.lt_of_le_of_lt (Nat.add_le_add_left (Nat.le_of_ble_eq_true hb) d) h
/-- an end that is laid aside -/
noncomputable def HQ {α : Type} (Q Q' : α → Shared → Prop) : Prop := ∀ f s', Q f s' → Q' f s'
theorem hideQ {α : Type} {M : Model} {A : Around} {t : Sem α} {E : Value → Shared → Prop} {s : Shared} {Q : α → Shared → Prop} (h : ∀ Q', HQ Q Q' → wpAny M A t Q' E s) : wpAny M A t Q E s := h Q fun _ _ x => x
theorem HQ.use {α : Type} {Q Q' : α → Shared → Prop} {f : α} {s' : Shared} (h : HQ Q Q') (x : Q f s') : Q' f s' := h f s' x
theorem HQ.use_z {q9A : Type} {q9Q q9Q' : q9A → Shared → Prop} {q9f : q9A} {q9s : Shared} (q9h : HQ q9Q q9Q') (q9g : q9Q q9f q9s) : q9Q' q9f q9s := q9h q9f q9s q9g
/-- a goal that the walk leaves alone -/
noncomputable def Stop (P : Prop) : Prop := P
theorem stop_intro {P : Prop} (h : Stop P) : P := h
theorem Stop.of {P : Prop} (h : P) : Stop P := h
theorem newTuple_is {vs : List Value} (h : vs.length ≤ sizeLine) : newTuple vs = Sem.alloc { cls := .type "tuple", data := .seq vs.toArray } fun D => Sem.pure (.ref D) := by
  have hn : ¬ vs.toArray.size > sizeLine := by rw [List.size_toArray]; exact Nat.not_lt.mpr h
  unfold newTuple newObj
  simp only [if_neg hn]
  rfl
theorem peek_tuple {K : Frag} {S : Setting} {vs : List Value} (h : vs.length ≤ sizeLine) {t : Sem (List (Str × Value))} {b : Value → List (Str × Value)} (e : t = Sem.bind (newTuple vs) fun v => Sem.pure (b v)) :
    peek1 K S t = some (({ cls := .type "tuple", data := .seq vs.toArray } : Obj), fun D => some (b (.ref D))) := by
  rw [e, newTuple_is h]
  rfl
theorem know {h₀ h : Heap} {L : Addr} {m : Str → Option Value} (F : Fr h₀ L h m) {y : Str} {v : Value} (e : m y = some v) : Fr h₀ L h (fun z => if z = y then some v else m z) := by
  have : (fun z => if z = y then some v else m z) = m := by
    funext z
    by_cases h : z = y
    · rw [if_pos h, h, e]
    · rw [if_neg h]
  rw [this]; exact F
/-! a for by its invariant over the turn's number, the frame's map and the ledger -/
inductive TurnGo (h₀ : Heap) (L I l : Addr) (lo : Obj) (own : Led) (J : (Str → Option Value) → Led → Prop) (s₁ s₂ : Shared) : Prop
  | mk (h' : Heap) (tk : Nat) (m' : Str → Option Value) (news' : Led) : s₂ = { s₁ with heap := h', toks := tk } → Fr h₀ L h' m' → News h₀ L h' (own ++ news') → (l, lo) ∈ news' → (∀ p ∈ news', p.1 ≠ I) → J m' news' → TurnGo h₀ L I l lo own J s₁ s₂
noncomputable def TurnPost (h₀ : Heap) (L I l : Addr) (lo : Obj) (own : Led) (J : (Str → Option Value) → Led → Prop) (s₁ : Shared) (Q : Flow → Shared → Prop) (f : Flow) (s₂ : Shared) : Prop :=
  match f with
  | .ret v => Q (.ret v) s₂
  | .brk => Q .next s₂
  | _ => TurnGo h₀ L I l lo own J s₁ s₂
section
variable {prog : Program} {w : World} {A : Around} {E : Value → Shared → Prop} {s : Shared} {env : Env} {h₀ : Heap} {x : Str} {body : List Stmt} {Q : Flow → Shared → Prop}
theorem loop_walk {I l : Addr} {lo : Obj} {n : Nat} {P : Nat → Value → Prop} {St : Nat → Heap → Prop} {m₀ : Str → Option Value} {news : Led} (W : Walks prog w A I [I, l] [I] n P St) (hex : ∀ i h, St i h → ∃ o, h.get? I = some o)
    (hst : St 0 s.heap) (hI : h₀.get? I = none) (hIL : I ≠ env.locals) (F : Fr h₀ env.locals s.heap m₀) (N : News h₀ env.locals s.heap news) (hl : (l, lo) ∈ news) (hnI : ∀ p ∈ news, p.1 ≠ I)
    (J : Nat → (Str → Option Value) → Led → Prop) (hj : J 0 m₀ news)
    (turn : ∀ i v m₁ news₁ h tk io, i < n → P i v → J i m₁ news₁ → (l, lo) ∈ news₁ → (∀ p ∈ news₁, p.1 ≠ I) → Fr h₀ env.locals h (fun y => if y = x then some v else m₁ y) → News h₀ env.locals h ((I, io) :: news₁) →
      wpAny (model prog w) A (execs body env) (TurnPost h₀ env.locals I l lo [(I, io)] (J (i + 1)) { s with heap := h, toks := tk } Q) E { s with heap := h, toks := tk })
    (done : ∀ m₁ news₁ h tk, J n m₁ news₁ → (l, lo) ∈ news₁ → Fr h₀ env.locals h m₁ → News h₀ env.locals h news₁ → Q .next { s with heap := h, toks := tk }) :
    LoopAtV prog w A h₀ env x body Q E (.ref I) s := by
  have hlL : l ≠ env.locals := (N _ hl).2.1
  refine ⟨I, [I, l], [I], n, P, St, m₀, news, fun i m₁ news₁ => (l, lo) ∈ news₁ ∧ J i m₁ news₁, rfl, W, ?_, ?_, ?_, hst, F, N, ⟨hl, hj⟩, ?_, ?_⟩
  · intro hm
    rcases List.mem_cons.mp hm with e | hm
    · exact hIL e.symm
    · exact hlL (List.mem_singleton.mp hm).symm
  · intro b hb; rw [List.mem_singleton.mp hb]; exact hI
  · intro p hp hm; exact hnI p hp (List.mem_singleton.mp hm)
  · intro i v m₁ news₁ s₁ own zr1 hin hP zr2 hoff hown howng hcov hst₁ F₁ N₁
    refine hideG fun zG zK => ?_
    obtain ⟨hh', tk', rfl⟩ := zr1
    obtain ⟨hl₁, hJ⟩ := zr2
    have hoff' : ∀ p ∈ news₁, p.1 ≠ I := fun p hp e => hoff p hp (List.mem_singleton.mpr e)
    have hl₂ : hh'.get? l = some lo := (N₁ (l, lo) (List.mem_append_right _ hl₁)).1
    obtain ⟨io, q⟩ := hex _ _ hst₁
    refine zK ?_
    clear zK zG
    have hsub : ∀ p ∈ [(I, io)], p ∈ own := fun p hp => by rw [List.mem_singleton.mp hp]; exact hcov I (.head _) hI io q
    have hsup : ∀ p ∈ own, p.1 = I → p ∈ [(I, io)] := fun p hp e => by
      have := howng p hp
      have this : hh'.get? p.1 = some p.2 := this
      rw [e, q] at this
      obtain ⟨p1, p2⟩ := p
      cases e; cases this
      exact List.mem_singleton.mpr rfl
    have N₂ : News h₀ env.locals hh' ((I, io) :: news₁) := fun p hp => by
      rcases List.mem_cons.mp hp with hp | hp
      · exact N₁ p (List.mem_append_left _ (hsub p (List.mem_singleton.mpr hp)))
      · exact N₁ p (List.mem_append_right _ hp)
    refine wpAny_mono (turn i v m₁ news₁ hh' tk' io hin hP hJ hl₁ hoff' F₁ N₂) (fun f s₂ p => ?_) fun _ _ e => e
    have fin : TurnGo h₀ env.locals I l lo [(I, io)] (J (i + 1)) { s with heap := hh', toks := tk' } s₂ →
        LoopStepU h₀ env.locals [I] own (fun m₁ news₁ => (l, lo) ∈ news₁ ∧ J (i + 1) m₁ news₁) { s with heap := hh', toks := tk' } .next s₂ := by
      intro zr3
      refine hideG fun zG zK => ?_
      obtain ⟨h', tk, m', news', e, F', N', hl', hn', hj'⟩ := zr3
      refine zK ?_
      clear zK zG
      refine ⟨rfl, h', tk, m', news', e, F', fun p hp => ?_, (fun p hp hm => hn' p hp (List.mem_singleton.mp hm)), hl', hj'⟩
      rcases List.mem_append.mp hp with hp | hp
      · rcases List.mem_cons.mp (hown p hp) with e1 | e1
        · exact N' p (List.mem_append_left _ (hsup p hp e1))
        · have e2 := List.mem_singleton.mp e1
          have e3 : hh'.get? p.1 = some p.2 := howng p hp
          rw [e2, hl₂] at e3
          have : p = (l, lo) := by obtain ⟨p1, p2⟩ := p; cases e2; cases e3; rfl
          rw [this]
          exact N' _ (List.mem_append_right _ hl')
      · exact N' p (List.mem_append_right _ hp)
    cases f with
    | ret v => exact .ret p
    | brk => exact .brk p
    | next => exact .next (fin p)
    | cont => exact .cont (fin p)
  · rintro h' tk m' news' F' N' _ ⟨hl', hJ⟩
    exact done m' news' h' tk hJ hl' F' N'
noncomputable abbrev seqObj (t : String) (vs : List Value) (n : Nat) : Obj := { cls := .type t, data := .seq vs.toArray n }
theorem new_facts {L : Addr} {h : Heap} {m : Str → Option Value} {news : Led} (F : Fr h₀ L h m) (N : News h₀ L h news) (o : Obj) : h₀.get? h.objs.size = none ∧ h.objs.size ≠ L ∧ (∀ p ∈ news, p.1 ≠ h.objs.size) ∧ Fr h₀ L (h.push o) m ∧ News h₀ L (h.push o) news := by
  refine ⟨?_, Nat.ne_of_gt F.ns.lt, fun p hp => Nat.ne_of_lt (Heap.lt_size (N p hp).1), F.push _, fun p hp => ⟨Heap.get?_push_of_some _ (N p hp).1, (N p hp).2⟩⟩
  cases hq : h₀.get? h.objs.size with
  | none => rfl
  | some o' => exact absurd (Heap.lt_size (F.keep _ _ hq)) (Nat.lt_irrefl _)
/-- over a list of the ledger's -/
theorem iter_list {l : Addr} {vs : List Value} {n : Nat} {m₀ : Str → Option Value} {news : Led} (J : Nat → (Str → Option Value) → Led → Prop)
    (hh : A.handled = none) (F : Fr h₀ env.locals s.heap m₀) (N : News h₀ env.locals s.heap news) (hl : (l, seqObj "list" vs n) ∈ news) (hj : J 0 m₀ news)
    (turn : ∀ i v m₁ news₁ h tk I io, vs[i]? = some v → J i m₁ news₁ → (l, seqObj "list" vs n) ∈ news₁ → (∀ p ∈ news₁, p.1 ≠ I) → Fr h₀ env.locals h (fun y => if y = x then some v else m₁ y) → News h₀ env.locals h ((I, io) :: news₁) →
      wpAny (model prog w) A (execs body env) (TurnPost h₀ env.locals I l (seqObj "list" vs n) [(I, io)] (J (i + 1)) { s with heap := h, toks := tk } Q) E { s with heap := h, toks := tk })
    (done : ∀ m₁ news₁ h tk, J vs.length m₁ news₁ → (l, seqObj "list" vs n) ∈ news₁ → Fr h₀ env.locals h m₁ → News h₀ env.locals h news₁ → Q .next { s with heap := h, toks := tk }) :
    wpAny (model prog w) A (pyIter (.ref l)) (fun it s₂ => LoopAtV prog w A h₀ env x body Q E it s₂) E s := by
  have hls : s.heap.IsList l vs.toArray := ⟨_, (N _ hl).1, rfl, n, rfl⟩
  refine wpAny_pyIter_list hls ?_
  refine hideG fun zG zK => ?_
  obtain ⟨a, b, c, F', N'⟩ := new_facts F N { cls := .type "list_iterator", data := .fields #[.ref l, .int 0 0] }
  refine zK ?_
  clear zK zG
  have W := Walks.list (prog := prog) (w := w) hh s.heap.objs.size l (c _ hl) vs.toArray
  have hlen : vs.toArray.size = vs.length := by simp
  rw [hlen] at W
  refine loop_walk (s := { s with heap := s.heap.push _ }) W (fun _ _ st => ⟨_, st.1.choose_spec.1⟩) ⟨⟨_, Heap.get?_push_size _ rfl, rfl, rfl⟩, hls.at fun o e => Heap.get?_push_of_some _ e⟩ a b F' N' hl c J hj ?_ ?_
  · intro i v m₁ news₁ h tk io hi hP hJ h1 h2 F₁ N₁
    exact turn i v m₁ news₁ h tk _ io (by simpa using hP) hJ h1 h2 F₁ N₁
  · intro m₁ news₁ h tk hJ h1 F₁ N₁
    exact done m₁ news₁ h tk hJ h1 F₁ N₁
/-- over a tuple of the ledger's -/
theorem iter_tuple {l : Addr} {vs : List Value} {n : Nat} {m₀ : Str → Option Value} {news : Led} (J : Nat → (Str → Option Value) → Led → Prop)
    (hh : A.handled = none) (F : Fr h₀ env.locals s.heap m₀) (N : News h₀ env.locals s.heap news) (hl : (l, seqObj "tuple" vs n) ∈ news) (hj : J 0 m₀ news)
    (turn : ∀ i v m₁ news₁ h tk I io, vs[i]? = some v → J i m₁ news₁ → (l, seqObj "tuple" vs n) ∈ news₁ → (∀ p ∈ news₁, p.1 ≠ I) → Fr h₀ env.locals h (fun y => if y = x then some v else m₁ y) → News h₀ env.locals h ((I, io) :: news₁) →
      wpAny (model prog w) A (execs body env) (TurnPost h₀ env.locals I l (seqObj "tuple" vs n) [(I, io)] (J (i + 1)) { s with heap := h, toks := tk } Q) E { s with heap := h, toks := tk })
    (done : ∀ m₁ news₁ h tk, J vs.length m₁ news₁ → (l, seqObj "tuple" vs n) ∈ news₁ → Fr h₀ env.locals h m₁ → News h₀ env.locals h news₁ → Q .next { s with heap := h, toks := tk }) :
    wpAny (model prog w) A (pyIter (.ref l)) (fun it s₂ => LoopAtV prog w A h₀ env x body Q E it s₂) E s := by
  have hls : s.heap.IsTuple l vs.toArray := ⟨_, (N _ hl).1, rfl, n, rfl⟩
  refine wpAny_pyIter_tuple hls ?_
  refine hideG fun zG zK => ?_
  obtain ⟨a, b, c, F', N'⟩ := new_facts F N { cls := .type "tuple_iterator", data := .fields #[.ref l, .int 0 0] }
  refine zK ?_
  clear zK zG
  have W := Walks.tuple (prog := prog) (w := w) hh s.heap.objs.size l (c _ hl) vs.toArray
  have hlen : vs.toArray.size = vs.length := by simp
  rw [hlen] at W
  refine loop_walk (s := { s with heap := s.heap.push _ }) W (fun _ _ st => ⟨_, st.1.choose_spec.1⟩) ⟨⟨_, Heap.get?_push_size _ rfl, rfl, rfl⟩, ⟨_, Heap.get?_push_of_some _ (N _ hl).1, rfl, n, rfl⟩⟩ a b F' N' hl c J hj ?_ ?_
  · intro i v m₁ news₁ h tk io hi hP hJ h1 h2 F₁ N₁
    exact turn i v m₁ news₁ h tk _ io (by simpa using hP) hJ h1 h2 F₁ N₁
  · intro m₁ news₁ h tk hJ h1 F₁ N₁
    exact done m₁ news₁ h tk hJ h1 F₁ N₁
/-- over the keys of a dict of the ledger's, the keys strs -/
theorem iter_keys {l : Addr} {lo : Obj} {kvs : List (Str × Value)} {m₀ : Str → Option Value} {news : Led} (J : Nat → (Str → Option Value) → Led → Prop)
    (hh : A.handled = none) (F : Fr h₀ env.locals s.heap m₀) (N : News h₀ env.locals s.heap news) (hl : (l, lo) ∈ news) (hd : lo.IsDictOf (PySem.strKind prog w) kvs) (low : (l == sysModules) = false) (hj : J 0 m₀ news)
    (turn : ∀ i k t m₁ news₁ h tk I io, (∃ v, kvs[i]? = some (k, v)) → J i m₁ news₁ → (l, lo) ∈ news₁ → (∀ p ∈ news₁, p.1 ≠ I) → Fr h₀ env.locals h (fun y => if y = x then some (.str k t) else m₁ y) → News h₀ env.locals h ((I, io) :: news₁) →
      wpAny (model prog w) A (execs body env) (TurnPost h₀ env.locals I l lo [(I, io)] (J (i + 1)) { s with heap := h, toks := tk } Q) E { s with heap := h, toks := tk })
    (done : ∀ m₁ news₁ h tk, J kvs.length m₁ news₁ → (l, lo) ∈ news₁ → Fr h₀ env.locals h m₁ → News h₀ env.locals h news₁ → Q .next { s with heap := h, toks := tk }) :
    wpAny (model prog w) A (pyIter (.ref l)) (fun it s₂ => LoopAtV prog w A h₀ env x body Q E it s₂) E s := by
  obtain ⟨es, ep, r⟩ := hd
  have hm : s.heap.DictAt (PySem.strKind prog w) l kvs ep := ⟨lo, es, (N _ hl).1, r⟩
  refine wpAny_pyIter_dict low hm ?_
  refine hideG fun zG zK => ?_
  obtain ⟨a, b, c, F', N'⟩ := new_facts F N { cls := .type "dict_keyiterator", data := .fields #[.ref l, .int 0 0, .int kvs.length 0, .int ep 0] }
  refine zK ?_
  clear zK zG
  have W := Walks.dictKeys (prog := prog) (w := w) (knd := PySem.strKind prog w) hh s.heap.objs.size l (c _ hl) kvs ep
  refine loop_walk (s := { s with heap := s.heap.push _ }) W (fun _ _ st => ⟨_, st.1.choose_spec.1⟩) ⟨⟨_, Heap.get?_push_size _ rfl, rfl, rfl⟩, ⟨lo, es, Heap.get?_push_of_some _ (N _ hl).1, r⟩⟩ a b F' N' hl c J hj ?_ ?_
  · intro i v m₁ news₁ h tk io hi zr4 hJ h1 h2 F₁ N₁
    refine hideG fun zG zK => ?_
    obtain ⟨k, v', hk, hv⟩ := zr4
    obtain ⟨t, rfl⟩ : ∃ t, v = .str k t := by
      cases v with
      | str y t =>
        have hv' : Value.isStrOf k (.str y t) = true := hv
        simp only [Value.isStrOf, beq_iff_eq, decide_eq_true_eq] at hv'
        exact ⟨t, by rw [hv']⟩
      | _ => simp [PySem.strKind, Value.isStrOf] at hv
    refine zK ?_
    clear zK zG
    exact turn i k t m₁ news₁ h tk _ io ⟨v', hk⟩ hJ h1 h2 F₁ N₁
  · intro m₁ news₁ h tk hJ h1 F₁ N₁
    exact done m₁ news₁ h tk hJ h1 F₁ N₁
theorem len_tup {A : Around} {QV : Value → Shared → Prop} {L l : Addr} {vs : List Value} {n : Nat} {news : Led} (N : News h₀ L s.heap news) (hm : (l, seqObj "tuple" vs n) ∈ news) (hl : vs.length ≤ 1000000) (h : QV (.int vs.length (s.toks + 1)) { s with toks := s.toks + 1 + 1 }) :
    wpAny (model prog w) A (call (.builtin "len") [.ref l]) QV E s :=
  len_tuple (items := vs.toArray) ⟨_, (N _ hm).1, rfl, n, rfl⟩ (by rw [List.size_toArray]; omega) (by rw [List.size_toArray]; exact h)
theorem len_lst {A : Around} {QV : Value → Shared → Prop} {L l : Addr} {vs : List Value} {n : Nat} {news : Led} (N : News h₀ L s.heap news) (hm : (l, seqObj "list" vs n) ∈ news) (hl : vs.length ≤ 1000000) (h : QV (.int vs.length (s.toks + 1)) { s with toks := s.toks + 1 + 1 }) :
    wpAny (model prog w) A (call (.builtin "len") [.ref l]) QV E s :=
  len_list (items := vs.toArray) ⟨_, (N _ hm).1, rfl, n, rfl⟩ (by rw [List.size_toArray]; omega) (by rw [List.size_toArray]; exact h)
theorem meets_bool_list (l : Addr) : Meets (Builtin.«bool.__new__» ⟨[.type "bool", .ref l], []⟩) (fun _ R s => ∃ items : Array Value, s.heap.IsList l items ∧ (items.size : Int) < 2 ^ 63 ∧ R (.ok (.ret (.bool (!items.isEmpty)))) { s with toks := s.toks + 1 + 1 }) :=
  Meets.of_wp fun prog w A R s hs => by
    refine hideG fun zG zK => ?_
    obtain ⟨items, hl, hfit, hs⟩ := hs
    obtain ⟨hp, g, d, tk, os⟩ := s
    refine zK ?_
    clear zK zG
    have f1 := F.conv_sub_bool
    repeat (any_goals (first | assumption | (with_reducible refine wpAny_truthy_list hl hfit ?_) | wp_step))
    all_goals first | exact ⟨_, rfl, hs⟩ | exact hs | skip
theorem call_bool_list {A : Around} {QV : Value → Shared → Prop} {L l : Addr} {vs : List Value} {n : Nat} {news : Led} (N : News h₀ L s.heap news) (hm : (l, seqObj "list" vs n) ∈ news) (hl : vs.length ≤ 1000000) (h : QV (.bool (!vs.isEmpty)) { s with toks := s.toks + 1 + 1 }) :
    wpAny (model prog w) A (call (.type "bool") [.ref l]) QV E s :=
  call_bool_1 (meets_bool_list l) ⟨vs.toArray, ⟨_, (N _ hm).1, rfl, n, rfl⟩, by rw [List.size_toArray]; omega, show wants (fun obj s₁ => s₁.TypeIs obj "bool" ∧ QV obj s₁) E _ _ from ⟨rfl, by rw [List.isEmpty_toArray]; exact h⟩⟩
/-! the iterator's own entry laid aside -/
noncomputable def dropI (l : Led) (I : Addr) : Led := l.filter fun p => decide (p.1 ≠ I)
theorem mem_dropI {l : Led} {I : Addr} {p : Addr × Obj} : p ∈ dropI l I ↔ p ∈ l ∧ p.1 ≠ I := by
  unfold dropI; rw [List.mem_filter, decide_eq_true_eq]
theorem Ok.dropI {l : Led} (h : Ok l) (I : Addr) : Ok (dropI l I) := by
  unfold Ok Mine.dropI
  exact List.Nodup.sublist (List.Sublist.map _ List.filter_sublist) h
theorem turn_next {L I l : Addr} {lo io : Obj} {nl : Led} {J : (Str → Option Value) → Led → Prop} {s₁ : Shared} {m' : Str → Option Value} {h' : Heap} {tk : Nat} (F : Fr h₀ L h' m') (N : News h₀ L h' nl) (ho : (I, io) ∈ nl) (hl : (l, lo) ∈ nl) (hlI : l ≠ I) (hJ : J m' (dropI nl I)) :
    TurnPost h₀ L I l lo [(I, io)] J s₁ Q .next { s₁ with heap := h', toks := tk } := by
  refine ⟨h', tk, m', dropI nl I, rfl, F, fun p hp => ?_, mem_dropI.mpr ⟨hl, hlI⟩, fun p hp => (mem_dropI.mp hp).2, hJ⟩
  rcases List.mem_append.mp hp with hp | hp
  · rw [List.mem_singleton.mp hp]; exact N _ ho
  · exact N p (mem_dropI.mp hp).1
end
end Mine
end
section
open PySem PySem.W PyProof.Rows PySem.Calls PySem.Spec
namespace Mine
section
variable {prog : Program} {w : World} {A₀ A : Around} {s : Shared} {base h₀ : Heap} {L : Addr} {m : Str → Option Value} {news : Led} {Kf : Frag} {p : Program} {loose : List Str} {mean : ExcName → Option Value} {mg mb : Str → Option Value}
    {R : Result → Shared → Prop} {name qual : Str} {params : Arguments} {body : List Stmt} {scope : Scope} {dV kV doc pm cdv ct oc : Value} {an od : Option Addr} {osl : Array (Option Value)} {f : Addr} {args : Args} {binds : List (Str × Value)} {env : Env}
/-- a def that catches, called by a frame with cells that nothing stands above -/
theorem code_defX0 (B : Below A₀ base [] h₀) (F : Fr h₀ L s.heap m) (X₀ : Kf.In h₀) (N : News h₀ L s.heap news) (T : Top p loose mean mg mb h₀) (hA : A.frames = some [env]) (hf : env.frame = some L) (hke : env.scope.kind = .function)
    (ho : Kf.lookup f = some ⟨oc, od, .func (fnOf name qual params body scope dV kV doc pm an cdv ct), osl⟩) (hcd : codeIn Kf cdv qual = true) (hroom : A.depth < recursionLimit)
    (hbind : BindsTo s (fnOf name qual params body scope dV kV doc pm an cdv ct) args binds) (hloc : ∀ y ∈ binds, scope.names.lookup y.1 = some .local)
    (h : ∀ g L' h₁, Fr h₀ L g m → Fr g L' h₁ (fun y => binds.reverse.lookup y) → News g L' h₁ news → Below A base [env] g → Kf.In g → Top p loose mean mg mb g → KtsDicts ([env].filterMap (·.frame)) g →
      wpAny (model prog w) (A.deeper (envOf qual scope L' f cdv)) (execs body (envOf qual scope L' f cdv))
        (fun fl s' => LeaveS0 ([env].filterMap (·.frame)) h₀ L m g R (match fl with | .ret v => v | _ => .none) s')
        (fun e s' => wpAny (model prog w) (A.deeper (envOf qual scope L' f cdv)) (leaving (envOf qual scope L' f cdv) e) (fun _ s'' => R (.error e) s'') (fun e' s'' => R (.error e') s'') s')
        { s with heap := h₁, toks := s.toks + binds.length })
    (hco : scope.isCoroutine = false) (hgen : scope.isGenerator = false) (hk : scope.kind = .function)
    (hcell : ∀ x ∈ scope.names, x.2 ≠ .cell) : codeAny (model prog w) A (.call (.ref f) args) R s := by
  have X := X₀.keeps F.keep
  have hfm : [env].filterMap (·.frame) = [L] := by rw [List.filterMap_cons, hf]; rfl
  rw [hfm] at h
  refine codeAny_call_def (fd := fnOf name qual params body scope dV kV doc pm an cdv ct) (body := body) (binds := binds) hroom (X _ _ ho) rfl (T.nolimit.keeps F.keep) (codeRec_of X hcd) rfl hbind hcell hloc (fun h₁ hns up => ?_) hco hgen hk
  have off : ∀ b o, h₀.get? b = some o → b ∉ news.map (·.1) := fun b o e q => by
    obtain ⟨p, hp, rfl⟩ := List.mem_map.mp q
    rw [(N p hp).2.2] at e; cases e
  have st : h₀.StaysIn (hideAll s.heap (news.map (·.1))) := fun b o e => hideAll_get _ (F.keep b o e) (off b o e)
  have nL₀ : h₀.get? L = none := kts_self F
  refine hideG fun zG zK => ?_
  obtain ⟨oL, es, ep, hL, hLd, hLk, hLf⟩ := F.ns
  refine zK ?_
  clear zK zG
  have nL : L ∉ news.map (·.1) := fun q => by
    obtain ⟨p, hp, e⟩ := List.mem_map.mp q
    exact (N p hp).2.1 e
  have hLg := hideAll_get (news.map (·.1)) hL nL
  have FG : Fr h₀ L (hideAll s.heap (news.map (·.1))) m := ⟨⟨oL, es, ep, hLg, hLd, hLk, hLf⟩, st, F.above⟩
  have B₁ := pushX B FG hf hke
  refine wpAny_mono (h _ s.heap.objs.size h₁ FG ⟨hns, fun b o e => up b o (of_hideAll _ e), Nat.le_of_eq (hideAll_size _ _)⟩
    (fun p hp => ⟨up _ _ (N p hp).1, Nat.ne_of_lt (Heap.lt_size (N p hp).1), hideAll_none _ (List.mem_map_of_mem hp)⟩) ⟨hA, B₁.stays, B₁.frames⟩ (X₀.keeps st) (T.keeps st) (fun b hb => ?_)) (fun fl s' hl => ?_) fun _ _ y => y
  · rw [List.mem_singleton.mp hb]
    exact ⟨oL, es, ep, hLg, hLd⟩
  refine hideG fun zG zK => ?_
  obtain ⟨g', L', m', news', T', F', N', k⟩ := hl
  obtain ⟨sl, hs⟩ := T'.up hLg
  refine zK ?_
  clear zK zG
  refine k ⟨⟨_, es, ep, F'.keep _ _ hs, hLd, hLk, hLf⟩, fun b o e => F'.keep b o (T'.other b o (st b o e) fun q => ?_), F.above⟩ fun p hp => ⟨(N' p hp).1, fun q => ?_, ?_⟩
  · rw [List.mem_singleton.mp q, nL₀] at e; cases e
  · have := (N' p hp).2.2; rw [q, hs] at this; cases this
  · cases q : h₀.get? p.1 with
    | none => rfl
    | some o =>
      obtain ⟨sl', hs'⟩ := T'.up (st _ _ q)
      have := (N' p hp).2.2
      rw [hs'] at this
      cases this
end
end Mine
end
section
open PySem PySem.W PyProof.Rows PySem.Calls PySem.Spec
namespace Mine
open TI
/-! the outer frames as a part of the ledger: a def that catches an exception of its own may be called from anywhere -/
theorem frs_of {g base : Heap} : ∀ {l : List Env}, g.FunFrames base l → KtsDicts (l.filterMap (·.frame)) g → ∃ frs, Frs l frs ∧ (∀ p ∈ frs, g.get? p.1 = some p.2) ∧ ∀ p ∈ frs, base.get? p.1 = none
  | [], _, _ => ⟨[], trivial, fun _ h => (nomatch h), fun _ h => (nomatch h)⟩
  | env :: rest, ⟨hk, ⟨L, o, hf, hn, ho, _⟩, hr⟩, D => by
    have e : (env :: rest).filterMap (·.frame) = L :: rest.filterMap (·.frame) := by rw [List.filterMap_cons, hf]
    rw [e] at D
    refine hideG fun zG zK => ?_
    obtain ⟨frs, h1, h2, h3⟩ := frs_of hr fun b hb => D b (List.mem_cons_of_mem _ hb)
    obtain ⟨o', es, n, ho', hd⟩ := D L (.head _)
    refine zK ?_
    clear zK zG
    rw [ho] at ho'
    cases ho'
    refine ⟨(L, o) :: frs, ⟨hk, hf, ⟨es, n, hd⟩, h1⟩, fun p hp => ?_, fun p hp => ?_⟩
    · rcases List.mem_cons.mp hp with rfl | hp
      · exact ho
      · exact h2 p hp
    · rcases List.mem_cons.mp hp with rfl | hp
      · exact hn
      · exact h3 p hp
/-- one entry an address -/
noncomputable def once : Led → Led
  | [] => []
  | p :: r => if p.1 ∈ (once r).map (·.1) then once r else p :: once r
theorem once_ok : ∀ l, Ok (once l)
  | [] => Ok.nil
  | p :: r => by
    unfold once
    split
    · exact once_ok r
    · rename_i h; exact List.nodup_cons.mpr ⟨h, once_ok r⟩
theorem once_sub : ∀ {l : Led} {p}, p ∈ once l → p ∈ l
  | [], _, h => h
  | q :: r, p, h => by
    unfold once at h
    split at h
    · exact List.mem_cons_of_mem _ (once_sub h)
    · rcases List.mem_cons.mp h with rfl | h
      · exact .head _
      · exact List.mem_cons_of_mem _ (once_sub h)
theorem once_all {h : Heap} : ∀ {l : Led}, (∀ p ∈ l, h.get? p.1 = some p.2) → ∀ p ∈ l, p ∈ once l
  | [], _, _, hp => hp
  | q :: r, hh, p, hp => by
    have ih := once_all (l := r) fun x hx => hh x (List.mem_cons_of_mem _ hx)
    unfold once
    split
    · rename_i hm
      rcases List.mem_cons.mp hp with rfl | hp
      · obtain ⟨x, hx, e⟩ := List.mem_map.mp hm
        have h1 := hh x (List.mem_cons_of_mem _ (once_sub hx))
        have h2 := hh p (.head _)
        rw [e, h2] at h1
        have : x = p := by
          obtain ⟨x1, x2⟩ := x; obtain ⟨p1, p2⟩ := p
          simp only at e h1
          cases h1; subst e; rfl
        rw [← this]; exact hx
      · exact ih p hp
    · rcases List.mem_cons.mp hp with rfl | hp
      · exact .head _
      · exact List.mem_cons_of_mem _ (ih p hp)
theorem Ok.app {l l' : Led} (h : Ok l) (h' : Ok l') (hd : ∀ p ∈ l, ∀ q ∈ l', p.1 ≠ q.1) : Ok (l ++ l') := by
  unfold Ok
  rw [List.map_append, List.nodup_append]
  refine ⟨h, h', fun a ha b hb => ?_⟩
  refine hideG fun zG zK => ?_
  obtain ⟨p, hp, rfl⟩ := List.mem_map.mp ha
  obtain ⟨q, hq, rfl⟩ := List.mem_map.mp hb
  refine zK ?_
  clear zK zG
  exact hd p hp q hq
/-- the ledger with these frames' new forms -/
noncomputable def upFr (news frs : Led) : Led := news.map fun p => (frs.find? fun q => q.1 == p.1).getD p
theorem upFr_keys (news frs : Led) : (upFr news frs).map (·.1) = news.map (·.1) := by
  unfold upFr
  rw [List.map_map]
  refine List.map_congr_left fun p _ => ?_
  show ((frs.find? fun q => q.1 == p.1).getD p).1 = p.1
  cases h : frs.find? fun q => q.1 == p.1 with
  | none => rfl
  | some q =>
    have e := List.find?_some h
    exact beq_iff_eq.mp e
theorem Ok.upFr {news : Led} (h : Ok news) (frs : Led) : Ok (upFr news frs) := by unfold Ok; rw [upFr_keys]; exact h
theorem mem_upFr_out {news frs : Led} {p : Addr × Obj} (hp : p ∈ news) (hn : p.1 ∉ frs.map (·.1)) : p ∈ upFr news frs := by
  refine List.mem_map.mpr ⟨p, hp, ?_⟩
  have : frs.find? (fun q => q.1 == p.1) = none := List.find?_eq_none.mpr fun q hq e => hn (List.mem_map.mpr ⟨q, hq, beq_iff_eq.mp e⟩)
  rw [this]; rfl
theorem mem_upFr_inv {news frs : Led} {p : Addr × Obj} (hp : p ∈ upFr news frs) : p ∈ frs ∨ (p ∈ news ∧ p.1 ∉ frs.map (·.1)) := by
  obtain ⟨q, hq, e⟩ := List.mem_map.mp hp
  cases h : frs.find? fun x => x.1 == q.1 with
  | none =>
    rw [h] at e
    have e' : q = p := e
    subst e'
    refine .inr ⟨hq, fun hm => ?_⟩
    obtain ⟨x, hx, e2⟩ := List.mem_map.mp hm
    exact List.find?_eq_none.mp h x hx (beq_iff_eq.mpr e2)
  | some x =>
    rw [h] at e
    have e' : x = p := e
    subst e'
    exact .inl (List.mem_of_find?_eq_some h)
theorem mem_upFr_in {h : Heap} {news frs : Led} {p : Addr × Obj} (hh : ∀ q ∈ frs, h.get? q.1 = some q.2) (hp : p ∈ frs) (hk : p.1 ∈ news.map (·.1)) : p ∈ upFr news frs := by
  obtain ⟨q, hq, e⟩ := List.mem_map.mp hk
  refine List.mem_map.mpr ⟨q, hq, ?_⟩
  cases hf : frs.find? fun x => x.1 == q.1 with
  | none => exact absurd (beq_iff_eq.mpr e.symm) (List.find?_eq_none.mp hf p hp)
  | some x =>
    have e0 := List.find?_some hf
    have e1 : x.1 = p.1 := (beq_iff_eq.mp e0).trans e
    have h1 := hh x (List.mem_of_find?_eq_some hf)
    have h2 := hh p hp
    show x = p
    obtain ⟨x1, x2⟩ := x; obtain ⟨p1, p2⟩ := p
    simp only at e1 h1 h2
    subst e1
    rw [h1] at h2
    cases h2; rfl
theorem SameUp.keys {a : Led} : ∀ {b : Led}, SameUp a b → b.map (·.1) = a.map (·.1) := by
  induction a with
  | nil =>
    intro b h
    cases b with
    | nil => rfl
    | cons _ _ => exact False.elim h
  | cons p ps ih =>
    intro b h
    cases b with
    | nil => exact False.elim h
    | cons q qs =>
      obtain ⟨e, _, h⟩ := h
      rw [List.map_cons, List.map_cons, e, ih h]
section
variable {prog : Program} {w : World} {A₀ : Around} {E : Value → Shared → Prop} {s' : Shared} {hb h : Heap} {L a e : Addr} {m : Str → Option Value} {name : Str} {scope : Scope} {cd : Value} {Q : Flow → Shared → Prop} {X : String} {l : List Env} {frs news : Led}
  {p : Program} {loose : List Str} {mean : ExcName → Option Value} {mg mb : Str → Option Value} {b₀ : Stmt} {suite : List Stmt} {pos np : Pos} {rest : List ExceptHandler} {x : Str}
theorem catch_here (FS : Frs l frs) (hfr : A₀.frames = some l) (hx : Heap.NewExc h s'.heap e X) (F : Fr hb L h m) (N : News hb L h news) (hfs : ∀ p ∈ frs, p ∈ news) (T : Top p loose mean mg mb hb)
    (k : ∀ h' frs', SameUp frs frs' → Frs l frs' → Fr hb L h' m → News hb L h' (upFr news frs') → (∀ p ∈ frs', p ∈ upFr news frs') →
      wpAny (model prog w) ((A₀.deeper (envOf name scope L a cd)).mark (some (.ref e))) (execs (b₀ :: suite) (envOf name scope L a cd)) Q E { s' with heap := h' })
    (t1 : x ∉ startupNames := by decide +kernel) (t2 : x ∉ loose := by decide +kernel) (t3 : x ∉ (recsOf p).map (·.name) := by decide +kernel) (t4 : x ∉ (litsOf p).map (·.1) := by decide +kernel) (t5 : x ∉ (clssOf p loose).map (·.name) := by decide +kernel)
    (h3 : subB X (.type x.toString) = some true := by decide +kernel) (hv : bootBuiltins x = some (.type x.toString) := by decide +kernel) (h1 : subB x.toString (.type "BaseException") = some true := by decide +kernel)
    (h2 : subB ((Manifest.find? x.toString).elim "type" fun y => y.metatype) (.type "tuple") = some false := by decide +kernel) (hn : x ≠ "__name__" := by decide)
    (hk : scope.kind = .function := by rfl) (hxk : (envOf name scope L a cd).kindOf x = some .globalImplicit := by rfl) (hdb : (x == ("__debug__" : Str)) = false := by decide)
    (hE : PassesOwnAt (model prog w) ((A₀.deeper (envOf name scope L a cd)).mark (some (.ref e))) (A₀.deeper (envOf name scope L a cd)) (envOf name scope L a cd) E := by passes_own) :
    wpAny (model prog w) (A₀.deeper (envOf name scope L a cd)) (noteFrame (.ref e) (envOf name scope L a cd))
      (fun _ s₂ => wpAny (model prog w) (A₀.deeper (envOf name scope L a cd)) (setFlight (.ref e) none) (fun _ s₃ =>
        wpAny (model prog w) (A₀.deeper (envOf name scope L a cd)) (handleBy (.ref e) (envOf name scope L a cd) (.ExceptHandler (some (.Name x np)) none (b₀ :: suite) pos :: rest)) Q E s₃) E s₂) E s' := by
  have Nn : News hb L h (news.filter (fun p => p.1 ∉ frs.map (·.1)) ++ frs) := fun p hp => by
    rcases List.mem_append.mp hp with hp | hp
    · exact N p (List.mem_filter.mp hp).1
    · exact N p (hfs p hp)
  have hap : ∀ p ∈ news.filter (fun p => p.1 ∉ frs.map (·.1)), p.1 ∉ L :: frs.map (·.1) := fun p hp hm => by
    obtain ⟨hp1, hp2⟩ := List.mem_filter.mp hp
    rcases List.mem_cons.mp hm with e | hm
    · exact (N p hp1).2.1 e
    · exact of_decide_eq_true hp2 hm
  refine TLg.noted_newA hfr FS hx F Nn hap (fun h₁ frs' SU FS' H => ?_) hk
  refine TT.HeldNA.land H fun h₂ H₂ => ?_
  refine TT.clause_hitTN H₂ T t1 t2 t3 t4 t5 (fun h₃ F₃ N₃ => ?_) h3 hv h1 h2 hn hk hxk hdb hE
  have hk' := SameUp.keys SU
  refine k h₃ frs' SU FS' F₃ (fun p hp => ?_) fun p hp => ?_
  · rcases mem_upFr_inv hp with hp | ⟨hp, hn'⟩
    · exact N₃ p (List.mem_append_right _ hp)
    · refine N₃ p (List.mem_append_left _ (List.mem_filter.mpr ⟨hp, decide_eq_true ?_⟩))
      rw [← hk']; exact hn'
  · refine mem_upFr_in (h := h₃) (fun q hq => (N₃ q (List.mem_append_right _ hq)).1) hp ?_
    have : p.1 ∈ frs'.map (·.1) := List.mem_map.mpr ⟨p, hp, rfl⟩
    rw [hk'] at this
    obtain ⟨q, hq, e⟩ := List.mem_map.mp this
    exact List.mem_map.mpr ⟨q, hfs q hq, e⟩
end
section
variable {A : Around} {base g h : Heap} {l : List Env} {L : Addr} {m : Str → Option Value} {news : Led} {K : Frag} {p : Program} {loose : List Str} {mean : ExcName → Option Value} {mg mb : Str → Option Value}
/-- on entering: the outer frames go into the ledger -/
theorem enter_frames (B : Below A base l g) (F : Fr g L h m) (N : News g L h news) (ok : Ok news) (D : KtsDicts (l.filterMap (·.frame)) g) (XB : K.In base) (TB : Top p loose mean mg mb base) :
    ∃ frs, Frs l frs ∧ Fr (gone g (l.filterMap (·.frame))) L h m ∧ News (gone g (l.filterMap (·.frame))) L h (once frs ++ news) ∧ Ok (once frs ++ news) ∧ (∀ p ∈ frs, p ∈ once frs ++ news) ∧
      K.In (gone g (l.filterMap (·.frame))) ∧ Top p loose mean mg mb (gone g (l.filterMap (·.frame))) ∧ (∀ p ∈ news, p.1 ∉ l.filterMap (·.frame)) ∧ (∀ p ∈ frs, g.get? p.1 = some p.2) ∧ frs.map (·.1) = l.filterMap (·.frame) := by
  refine hideG fun zG zK => ?_
  obtain ⟨frs, h1, h2, h3⟩ := frs_of B.frames D
  refine zK ?_
  clear zK zG
  have ha := h1.addrs
  have st : base.StaysIn (gone g (l.filterMap (·.frame))) := fun b o e => (gone_get fun hm => by rw [(B.frames.mem hm).1] at e; cases e).trans (B.stays b o e)
  have hnf : ∀ p ∈ news, p.1 ∉ l.filterMap (·.frame) := fun p hp hm => by
    obtain ⟨o, ho, _⟩ := (B.frames.mem hm).2
    rw [(N p hp).2.2] at ho; cases ho
  have hsz : (gone g (l.filterMap (·.frame))).objs.size = g.objs.size := by
    generalize l.filterMap (·.frame) = fs
    induction fs with
    | nil => rfl
    | cons b r ih =>
      show ((gone g r).update b _).objs.size = _
      rw [Heap.size_after_update]; exact ih
  refine ⟨frs, h1, ⟨F.ns, fun b o e => F.keep b o (gone_some e).2, by rw [hsz]; exact F.above⟩, fun p hp => ?_, Ok.app (once_ok _) ok fun p hp q hq e => ?_, fun p hp => List.mem_append_left _ (once_all h2 p hp), XB.keeps st, TB.keeps st, hnf, h2, ha.symm⟩
  · rcases List.mem_append.mp hp with hp | hp
    · have hp' := once_sub hp
      refine ⟨F.keep _ _ (h2 p hp'), fun q => ?_, gone_none (by rw [ha]; exact List.mem_map.mpr ⟨p, hp', rfl⟩)⟩
      have := h2 p hp'
      rw [q, kts_self F] at this; cases this
    · exact ⟨(N p hp).1, (N p hp).2.1, (gone_get (hnf p hp)).trans (N p hp).2.2⟩
  · refine hnf q hq ?_
    rw [← e, ha]
    exact List.mem_map.mpr ⟨p, once_sub hp, rfl⟩
/-- on leaving: the ground with the frames' new slots -/
theorem leave_frames {frs frs' news' : Led} {h' : Heap} {L' : Addr} {m' : Str → Option Value} (hg : ∀ p ∈ frs, g.get? p.1 = some p.2) (ha : frs.map (·.1) = l.filterMap (·.frame)) (SU : SameUp frs frs')
    (F' : Fr (gone g (l.filterMap (·.frame))) L' h' m') (N' : News (gone g (l.filterMap (·.frame))) L' h' news') (hf : ∀ p ∈ frs', p ∈ news') (hab : g.objs.size ≤ L') :
    ∃ g', KtsTurn (l.filterMap (·.frame)) g g' ∧ Fr g' L' h' m' ∧ News g' L' h' (news'.filter fun p => p.1 ∉ l.filterMap (·.frame)) := by
  have hup : ∀ b o, g.get? b = some o → b ∈ l.filterMap (·.frame) → ∃ sl, h'.get? b = some { o with slots := sl } := fun b o e hm => by
    rw [← ha] at hm
    refine hideG fun zG zK => ?_
    obtain ⟨p, hp, rfl⟩ := List.mem_map.mp hm
    refine zK ?_
    clear zK zG
    rw [hg p hp] at e
    cases e
    obtain ⟨sl, hs⟩ := SU.back p hp
    exact ⟨sl, (N' _ (hf _ hs)).1⟩
  obtain ⟨T₁, S₁⟩ := kts_turn_at (h := h') (fs := l.filterMap (·.frame)) (g := g)
    (fun b hb => by
      rw [← ha] at hb
      refine hideG fun zG zK => ?_
      obtain ⟨p, hp, rfl⟩ := List.mem_map.mp hb
      refine zK ?_
      clear zK zG
      exact ⟨_, hg p hp⟩)
    (fun b o e nm => F'.keep b o ((gone_get nm).trans e)) hup
  refine ⟨_, T₁, ⟨F'.ns, S₁, by rw [T₁.size]; exact hab⟩, fun p hp => ?_⟩
  obtain ⟨hp1, hp2⟩ := List.mem_filter.mp hp
  refine ⟨(N' p hp1).1, (N' p hp1).2.1, T₁.none_ _ ?_⟩
  exact (gone_get (of_decide_eq_true hp2)).symm.trans (N' p hp1).2.2
end
end Mine
end
section
open PySem PySem.W PyProof.Rows PySem.Calls PySem.Spec
namespace Mine
open LCg LCt
theorem off1_mem {D : Addr} : ∀ {l : Led}, Off1 D l → ∀ p ∈ l, p.1 ≠ D
  | [], _, _, h => nomatch h
  | _ :: _, x, p, h => by
    rcases List.mem_cons.mp h with rfl | h
    · exact x.1
    · exact off1_mem x.2 p h
section
variable {prog : Program} {w : World} {A : Around} {E : Value → Shared → Prop} {s : Shared} {h₀ : Heap} {L : Addr} {m : Str → Option Value} {env : Env}
/-- a comprehension by an invariant -/
theorem comp_inv {elt : Expr} {x : Str} {scope : Scope} {cl : List (Str × Addr)} {S : Led → Prop} {P : Nat → Value → Prop} {Fin : List Value → Led → Prop} {n : Nat} (J : Nat → List Value → Led → Prop)
    (turn : ∀ i ys news v I oI C oC D m₂ h tk (E' : Value → Shared → Prop), i < n → P i v → J i ys news → S news → NsObj oC m₂ → m₂ x = some v → Fr h₀ L h m → News h₀ L h ((I, oI) :: (C, oC) :: (D, lst ys) :: news) → (∀ p ∈ news, p.1 ≠ I ∧ p.1 ≠ C ∧ p.1 ≠ D) → I ≠ C → I ≠ D → C ≠ D →
      wpAny (model prog w) A (eval elt (compEnvC scope cl C env)) (CompEnd h₀ L m { s with heap := h, toks := tk } I oI C oC D (lst ys) S (fun y news' => J (i + 1) (ys ++ [y]) news')) E' { s with heap := h, toks := tk })
    (fin : ∀ ys news, J n ys news → Fin ys news) : ∀ k i ys news, i + k = n → J i ys news → S news → CompRest prog w A h₀ L m env elt x scope cl s S P Fin k i ys news
  | 0, i, ys, news, e, hJ, _ => fin ys news (by have : i = n := by omega
                                                subst this; exact hJ)
  | k + 1, i, ys, news, e, hJ, hS => by
    refine CompRest.succ ?_
    intro v I oI C oC D m₂ h tk E' hP hC hx F N off ne
    refine wpAny_mono (turn i ys news v I oI C oC D m₂ h tk E' (by omega) hP hJ hS hC hx F N off.mem ne.1 ne.2.1 ne.2.2) ?_ fun _ _ z => z
    intro y s₂ zr1
    refine hideG fun zG zK => ?_
    obtain ⟨h', tk', news', e1, F', N', off', hS', hJ'⟩ := zr1
    refine zK ?_
    clear zK zG
    exact ⟨h', tk', news', e1, F', N', off', hS', comp_inv J turn fin k (i + 1) (ys ++ [y]) news' (by omega) hJ' hS'⟩
theorem comp_invT {ct elt : Expr} {x : Str} {scope : Scope} {cl : List (Str × Addr)} {S : Led → Prop} {P : Nat → Value → Prop} {Fin : List Value → Led → Prop} {n : Nat} (J : Nat → List Value → Led → Prop)
    (turn : ∀ i ys news v I oI C oC D m₂ h tk (E' : Value → Shared → Prop), i < n → P i v → J i ys news → S news → NsObj oC m₂ → m₂ x = some v → Fr h₀ L h m → News h₀ L h ((I, oI) :: (C, oC) :: (D, lst ys) :: news) → (∀ p ∈ news, p.1 ≠ I ∧ p.1 ≠ C ∧ p.1 ≠ D) → I ≠ C → I ≠ D → C ≠ D →
      wpAny (model prog w) A (isTrue ct (compEnvC scope cl C env) (eval ct (compEnvC scope cl C env))) (fun ok s' => if ok = true then
        wpAny (model prog w) A (eval elt (compEnvC scope cl C env)) (CompEnd h₀ L m { s with heap := h, toks := tk } I oI C oC D (lst ys) S (fun y news' => J (i + 1) (ys ++ [y]) news')) E' s'
        else CompEnd h₀ L m { s with heap := h, toks := tk } I oI C oC D (lst ys) S (fun _ news' => J (i + 1) ys news') Value.none s') E' { s with heap := h, toks := tk })
    (fin : ∀ ys news, J n ys news → Fin ys news) : ∀ k i ys news, i + k = n → J i ys news → S news → CompRestT prog w A h₀ L m env ct elt x scope cl s S P Fin k i ys news
  | 0, i, ys, news, e, hJ, _ => fin ys news (by have : i = n := by omega
                                                subst this; exact hJ)
  | k + 1, i, ys, news, e, hJ, hS => by
    refine CompRestT.succ ?_
    intro v I oI C oC D m₂ h tk E' hP hC hx F N off ne
    refine wpAny_mono (turn i ys news v I oI C oC D m₂ h tk E' (by omega) hP hJ hS hC hx F N off.mem ne.1 ne.2.1 ne.2.2) ?_ fun _ _ z => z
    intro ok s' hok
    cases ok with
    | true =>
      simp only [if_true] at hok ⊢
      refine wpAny_mono hok ?_ fun _ _ z => z
      intro y s₂ zr2
      refine hideG fun zG zK => ?_
      obtain ⟨h', tk', news', e1, F', N', off', hS', hJ'⟩ := zr2
      refine zK ?_
      clear zK zG
      exact ⟨h', tk', news', e1, F', N', off', hS', comp_invT J turn fin k (i + 1) (ys ++ [y]) news' (by omega) hJ' hS'⟩
    | false =>
      simp only [Bool.false_eq_true, if_false] at hok ⊢
      refine hideG fun zG zK => ?_
      obtain ⟨h', tk', news', e1, F', N', off', hS', hJ'⟩ := hok
      refine zK ?_
      clear zK zG
      exact ⟨h', tk', news', e1, F', N', off', hS', comp_invT J turn fin k (i + 1) ys news' (by omega) hJ' hS'⟩
/-- a source that is a dict's values -/
noncomputable def SrcVT (prog : Program) (w : World) (A : Around) (h₀ : Heap) (L : Addr) (m : Str → Option Value) (env : Env) (ct elt : Expr) (x : Str) (scope : Scope) (cl : List (Str × Addr)) (Fin : Shared → List Value → Led → Prop) (xv : Value) (s₁ : Shared) : Prop :=
  ∃ (v d : Addr) (o : Obj) (kvs : List (Str × Value)) (news : Led), xv = .ref v ∧ A.handled = none ∧ Fr h₀ L s₁.heap m ∧ News h₀ L s₁.heap news ∧ (v, { cls := .type "dict_values", data := .fields #[.ref d] }) ∈ news ∧ (d, o) ∈ news ∧ o.IsDictOf (PySem.strKind prog w) kvs ∧ kvs.length ≤ sizeLine ∧
    ∀ g, CompRestT prog w A h₀ L m env ct elt x scope cl { s₁ with heap := g } (fun nw => (d, o) ∈ nw) (fun i v => ∃ k, kvs[i]? = some (k, v)) (Fin { s₁ with heap := g }) kvs.length 0 [] news
theorem ListComp_VT {ct elt iter : Expr} {x : Str} {px : Pos} {scope : Scope} {cl : List (Str × Addr)} {pos : Pos} {Q : Value → Shared → Prop} (F₀ : Fr h₀ L s.heap m)
    (hclos : closureFor scope env = pure cl) (hcell : ∀ y ∈ scope.names, y.2 ≠ .cell) (hkind : scope.kind = .function)
    (hnames : ∀ y ∈ scope.names, y.2 = .local → scope.names.lookup y.1 = some .local) (hx : scope.names.lookup x = some .local)
    (h : wpAny (model prog w) A (eval iter env) (SrcVT prog w A h₀ L m env ct elt x scope cl (fun s₂ => FinE h₀ L m s₂ Q)) E s)
    (hs : ∀ x, foldedSetIterable iter env x = pure x := by intro _; rfl) :
    wpAny (model prog w) A (eval (.ListComp elt [⟨.Name x px, iter, [ct], 0⟩] scope pos) env) Q E s := by
  rw [eval_ListComp]
  refine wpAny_comprehension_free (use := none) rfl hs hclos hkind hnames (wpAny_mono h (fun xv s₁ h₁ => ?_) fun _ _ e => e)
  refine hideG fun zG zK => ?_
  obtain ⟨v, d, o, kvs, news, rfl, hh, F, N, hv, hd, ⟨es, ep, hD⟩, hsz, R⟩ := h₁
  refine zK ?_
  clear zK zG
  have hDA : s₁.heap.DictAt (PySem.strKind prog w) d kvs ep := ⟨o, es, (N _ hd).1, hD⟩
  have hlt : d < s₁.heap.objs.size := Heap.lt_size (N _ hd).1
  refine wpAny_pyIter_values ⟨_, (N _ hv).1, rfl, rfl⟩ hDA ?_
  have up : ∀ b o, s₁.heap.get? b = some o → (s₁.heap.push { cls := .type "dict_valueiterator", data := .fields #[.ref d, .int 0 0, .int kvs.length 0, .int ep 0] }).get? b = some o := fun b o e => Heap.get?_push_of_some _ e
  refine block_T (Walks.dictValues (knd := PySem.strKind prog w) hh s₁.heap.objs.size d (Nat.ne_of_lt hlt) kvs ep) hsz (fun i h st => by obtain ⟨o, e, _⟩ := st.1; exact ⟨o, e⟩) ?_ hcell hkind hx ⟨⟨_, Heap.get?_push_size _ rfl, rfl, rfl⟩, ⟨o, es, up _ _ (N _ hd).1, hD⟩⟩ (fun b hb => ?_)
      (F.keeps up) (N.grown up) (Nat.ne_of_lt F.ns.lt) (next_is_new F) (fun p hp => Nat.ne_of_lt (Heap.lt_size (N p hp).1)) hd (R _) ?_
  · intro i h h' o' nw st e e' k N' S
    refine ⟨?_, ⟨o, es, (N' _ S).1, hD⟩⟩
    obtain ⟨o'', q, r⟩ := st.1
    rw [e] at q; cases q
    exact ⟨o', e', r⟩
  · show b < (s₁.heap.push _).objs.size
    rw [Heap.size_push]
    rcases List.mem_cons.mp hb with rfl | hb
    · exact Nat.lt_succ_self _
    · rw [List.mem_singleton.mp hb]; exact Nat.lt_succ_of_lt hlt
  · intro D C h tk m' ys news' F' N' o1 hn hC₀ hD₀ hCL hDL hCD offC fin
    refine ⟨m', hn, fun h'' hs'' => fin D h'' tk (F'.change hs'' hCL hC₀) (fun p hp => ?_) o1⟩
    refine ⟨hs''.extBut _ _ ?_ (N' p hp).1, (N' p hp).2⟩
    rcases List.mem_cons.mp hp with rfl | hp
    · exact Ne.symm hCD
    · exact offC p hp
end
end Mine
end
section
open PySem PySem.W PyProof.Rows PySem.Calls PySem.Spec
namespace Mine
/-! the sorter's state: plain, and in the ledger -/
structure G where
  nodes : List Str
  np : Str → Int
  succ : Str → List Str
structure SA where
  self : Addr
  ds : Addr
  d2 : Addr
  ia : Str → Addr
  dd : Str → Addr
  la : Str → Addr
noncomputable def Strs (vs : List Value) (xs : List Str) : Prop := vs.length = xs.length ∧ ∀ (i : Nat) (x : Str), xs[i]? = some x → ∃ t, vs[i]? = some (Value.str x t)
theorem Strs.nil : Strs [] [] := ⟨rfl, fun _ _ h => by simp at h⟩
theorem Strs.push {vs : List Value} {xs : List Str} (h : Strs vs xs) (x : Str) (t : Tok) : Strs (vs ++ [Value.str x t]) (xs ++ [x]) := by
  refine ⟨by simp [h.1], fun i y hy => ?_⟩
  by_cases hi : i < xs.length
  · rw [List.getElem?_append_left hi] at hy
    obtain ⟨t', ht⟩ := h.2 i y hy
    exact ⟨t', by rw [List.getElem?_append_left (by rw [h.1]; exact hi)]; exact ht⟩
  · have hi' : xs.length ≤ i := Nat.le_of_not_lt hi
    rw [List.getElem?_append_right hi'] at hy
    cases hk : i - xs.length with
    | zero =>
      rw [hk] at hy
      simp at hy
      exact ⟨t, by rw [List.getElem?_append_right (by rw [h.1]; exact hi'), h.1, hk, hy]; rfl⟩
    | succ k => rw [hk] at hy; simp at hy
noncomputable abbrev niObj (dd la : Addr) (x : Str) (tx : Tok) (n : Int) (tn : Tok) : Obj := { cls := .ref 130, dict := some dd, slots := #[some (.str x tx), some (.int n tn), some (.ref la)] }
noncomputable def SA.foot (A : SA) (g : G) (b : Addr) : Prop := b = A.self ∨ b = A.ds ∨ b = A.d2 ∨ ∃ x ∈ g.nodes, b = A.ia x ∨ b = A.dd x ∨ b = A.la x
structure NodeAt (l : Led) (A : SA) (g : G) (x : Str) : Prop where
  info : ∃ tx tn, (A.ia x, niObj (A.dd x) (A.la x) x tx (g.np x) tn) ∈ l
  dict : (A.dd x, dictOf [] 0) ∈ l
  lst : ∃ vs n, (A.la x, listOf vs.toArray n) ∈ l ∧ Strs vs (g.succ x)
structure SAt (prog : Program) (w : World) (l : Led) (A : SA) (g : G) (rv : Value) (pv fv : Int) : Prop where
  ok : Ok l
  inst : (A.self, instObj 227 A.ds) ∈ l
  dict : ∃ e1 e2 e3 e4 t1 t2 t3 t4 t5 t6, (A.ds, dictOf [⟨e1, .str (Str.ofString "_node2info") t1, .ref A.d2⟩, ⟨e2, .str (Str.ofString "_ready_nodes") t2, rv⟩, ⟨e3, .str (Str.ofString "_npassedout") t3, .int pv t5⟩, ⟨e4, .str (Str.ofString "_nfinished") t4, .int fv t6⟩] 4) ∈ l
  d2 : ∃ o2, (A.d2, o2) ∈ l ∧ o2.IsDictOf (PySem.strKind prog w) (g.nodes.map fun x => (x, Value.ref (A.ia x)))
  lo2 : (A.d2 == sysModules) = false
  node : ∀ x ∈ g.nodes, NodeAt l A g x
  dsd2 : A.ds ≠ A.d2
  d2dd : ∀ x ∈ g.nodes, A.d2 ≠ A.dd x
  laInj : ∀ x ∈ g.nodes, ∀ y ∈ g.nodes, A.la x = A.la y → x = y
theorem valueAt_nodes (f : Str → Value) (x : Str) : ∀ xs : List Str, valueAt (xs.map fun y => (y, f y)) x = if x ∈ xs then some (f x) else none
  | [] => rfl
  | y :: xs => by
    have ih := valueAt_nodes f x xs
    unfold valueAt at ih ⊢
    rw [List.map_cons, List.find?_cons]
    by_cases e : y = x
    · subst e
      simp
    · have e' : ¬ x = y := fun h => e h.symm
      simp only [e, decide_false, List.mem_cons, e', false_or]
      exact ih
theorem stored_nodes (f : Str → Value) (x : Str) (v : Value) {xs : List Str} (h : x ∉ xs) : stored (xs.map fun y => (y, f y)) x v = (xs.map fun y => (y, f y)) ++ [(x, v)] := by
  unfold stored
  rw [if_neg]
  intro h'
  refine hideG fun zG zK => ?_
  obtain ⟨p, hp, e⟩ := List.any_eq_true.mp h'
  obtain ⟨y, hy, rfl⟩ := List.mem_map.mp hp
  refine zK ?_
  clear zK zG
  exact h ((of_decide_eq_true e) ▸ hy)
section
variable {prog : Program} {w : World} {l l' : Led} {A : SA} {g : G} {rv : Value} {pv fv : Int}
theorem NodeAt.sub {x : Str} (h : NodeAt l A g x) (hs : ∀ p ∈ l, p.1 = A.ia x ∨ p.1 = A.dd x ∨ p.1 = A.la x → p ∈ l') : NodeAt l' A g x := by
  refine hideG fun zG zK => ?_
  obtain ⟨⟨tx, tn, a⟩, b, vs, n, c, d⟩ := h
  refine zK ?_
  clear zK zG
  exact ⟨⟨tx, tn, hs _ a (.inl rfl)⟩, hs _ b (.inr (.inl rfl)), vs, n, hs _ c (.inr (.inr rfl)), d⟩
theorem SAt.sub (S : SAt prog w l A g rv pv fv) (ok : Ok l') (hs : ∀ p ∈ l, A.foot g p.1 → p ∈ l') : SAt prog w l' A g rv pv fv := by
  refine hideG fun zG zK => ?_
  obtain ⟨e1, e2, e3, e4, t1, t2, t3, t4, t5, t6, hd⟩ := S.dict
  obtain ⟨o2, ho, hd2⟩ := S.d2
  refine zK ?_
  clear zK zG
  exact ⟨ok, hs _ S.inst (.inl rfl), ⟨e1, e2, e3, e4, t1, t2, t3, t4, t5, t6, hs _ hd (.inr (.inl rfl))⟩, ⟨o2, hs _ ho (.inr (.inr (.inl rfl))), hd2⟩, S.lo2,
    fun x hx => (S.node x hx).sub fun p hp h => hs p hp (.inr (.inr (.inr ⟨x, hx, h⟩))), S.dsd2, S.d2dd, S.laInj⟩
theorem SAt.cons (S : SAt prog w l A g rv pv fv) {x : Addr} {o : Obj} (h : ∀ p ∈ l, p.1 ≠ x) : SAt prog w ((x, o) :: l) A g rv pv fv :=
  S.sub (S.ok.cons_ne h) fun _ hp _ => .tail _ hp
/-! distinctness -/
theorem SAt.ds_ne_ia (S : SAt prog w l A g rv pv fv) {x : Str} (hx : x ∈ g.nodes) : A.ds ≠ A.ia x := by
  refine hideG fun zG zK => ?_
  obtain ⟨_, _, _, _, _, _, _, _, _, _, hd⟩ := S.dict
  obtain ⟨⟨_, _, a⟩, _⟩ := S.node x hx
  refine zK ?_
  clear zK zG
  exact S.ok.ne hd a (by intro e; injection e with e _; cases e)
theorem SAt.ds_ne_la (S : SAt prog w l A g rv pv fv) {x : Str} (hx : x ∈ g.nodes) : A.ds ≠ A.la x := by
  refine hideG fun zG zK => ?_
  obtain ⟨_, _, _, _, _, _, _, _, _, _, hd⟩ := S.dict
  obtain ⟨_, _, vs, n, a, _⟩ := S.node x hx
  refine zK ?_
  clear zK zG
  exact S.ok.ne hd a (by intro e; injection e with e _; injection e with e; exact absurd e (by decide))
theorem SAt.ds_ne_dd (S : SAt prog w l A g rv pv fv) {x : Str} (hx : x ∈ g.nodes) : A.ds ≠ A.dd x := by
  refine hideG fun zG zK => ?_
  obtain ⟨_, _, _, _, _, _, _, _, _, _, hd⟩ := S.dict
  obtain ⟨_, a, _⟩ := S.node x hx
  refine zK ?_
  clear zK zG
  exact S.ok.ne hd a (by intro e; injection e with _ _ e _; injection e with e _; injection e with e; cases e)
theorem SAt.self_ne_ds (S : SAt prog w l A g rv pv fv) : A.self ≠ A.ds := by
  refine hideG fun zG zK => ?_
  obtain ⟨_, _, _, _, _, _, _, _, _, _, hd⟩ := S.dict
  refine zK ?_
  clear zK zG
  exact S.ok.ne S.inst hd (by intro e; injection e with e _; cases e)
theorem isDict_cls {o : Obj} {kvs : List (Str × Value)} (h : o.IsDictOf (PySem.strKind prog w) kvs) : o.cls = .type "dict" := h.choose_spec.choose_spec.1.1
theorem SAt.self_ne_d2 (S : SAt prog w l A g rv pv fv) : A.self ≠ A.d2 := by
  obtain ⟨o2, h2, hd⟩ := S.d2
  exact S.ok.ne S.inst h2 (by intro e; have := isDict_cls hd; rw [← e] at this; cases this)
theorem SAt.d2_ne_ia (S : SAt prog w l A g rv pv fv) {x : Str} (hx : x ∈ g.nodes) : A.d2 ≠ A.ia x := by
  refine hideG fun zG zK => ?_
  obtain ⟨o2, h2, hd⟩ := S.d2
  obtain ⟨⟨_, _, a⟩, _⟩ := S.node x hx
  refine zK ?_
  clear zK zG
  exact S.ok.ne h2 a (by intro e; have := isDict_cls hd; rw [e] at this; cases this)
theorem SAt.d2_ne_la (S : SAt prog w l A g rv pv fv) {x : Str} (hx : x ∈ g.nodes) : A.d2 ≠ A.la x := by
  refine hideG fun zG zK => ?_
  obtain ⟨o2, h2, hd⟩ := S.d2
  obtain ⟨_, _, vs, n, a, _⟩ := S.node x hx
  refine zK ?_
  clear zK zG
  exact S.ok.ne h2 a (by intro e; have := isDict_cls hd; rw [e] at this; injection this with e; exact absurd e (by decide))
theorem SAt.self_ne_ia (S : SAt prog w l A g rv pv fv) {x : Str} (hx : x ∈ g.nodes) : A.self ≠ A.ia x := by
  refine hideG fun zG zK => ?_
  obtain ⟨⟨_, _, a⟩, _⟩ := S.node x hx
  refine zK ?_
  clear zK zG
  exact S.ok.ne S.inst a (by intro e; injection e with e _; cases e)
theorem SAt.self_ne_la (S : SAt prog w l A g rv pv fv) {x : Str} (hx : x ∈ g.nodes) : A.self ≠ A.la x := by
  refine hideG fun zG zK => ?_
  obtain ⟨_, _, vs, n, a, _⟩ := S.node x hx
  refine zK ?_
  clear zK zG
  exact S.ok.ne S.inst a (by intro e; injection e with e _; cases e)
theorem SAt.ia_inj (S : SAt prog w l A g rv pv fv) {x y : Str} (hx : x ∈ g.nodes) (hy : y ∈ g.nodes) (e : A.ia x = A.ia y) : x = y := by
  refine hideG fun zG zK => ?_
  obtain ⟨⟨_, _, a⟩, _⟩ := S.node x hx
  obtain ⟨⟨_, _, b⟩, _⟩ := S.node y hy
  refine zK ?_
  clear zK zG
  rw [e] at a
  have := S.ok.same a b
  injection this with _ _ _ h
  injection h with h
  injection h with h
  injection h with h
  injection h with h
theorem SAt.ia_ne_dd (S : SAt prog w l A g rv pv fv) {x y : Str} (hx : x ∈ g.nodes) (hy : y ∈ g.nodes) : A.ia x ≠ A.dd y := by
  refine hideG fun zG zK => ?_
  obtain ⟨⟨_, _, a⟩, _⟩ := S.node x hx
  obtain ⟨_, b, _⟩ := S.node y hy
  refine zK ?_
  clear zK zG
  exact S.ok.ne a b (by intro e; injection e with e _; cases e)
theorem SAt.ia_ne_la (S : SAt prog w l A g rv pv fv) {x y : Str} (hx : x ∈ g.nodes) (hy : y ∈ g.nodes) : A.ia x ≠ A.la y := by
  refine hideG fun zG zK => ?_
  obtain ⟨⟨_, _, a⟩, _⟩ := S.node x hx
  obtain ⟨_, _, vs, n, b, _⟩ := S.node y hy
  refine zK ?_
  clear zK zG
  exact S.ok.ne a b (by intro e; injection e with e _; cases e)
theorem SAt.dd_ne_la (S : SAt prog w l A g rv pv fv) {x y : Str} (hx : x ∈ g.nodes) (hy : y ∈ g.nodes) : A.dd x ≠ A.la y := by
  refine hideG fun zG zK => ?_
  obtain ⟨_, a, _⟩ := S.node x hx
  obtain ⟨_, _, vs, n, b, _⟩ := S.node y hy
  refine zK ?_
  clear zK zG
  exact S.ok.ne a b (by intro e; injection e with e _; injection e with e; exact absurd e (by decide))
theorem SAt.not_foot (S : SAt prog w l A g rv pv fv) {b : Addr} (h : ∀ p ∈ l, p.1 ≠ b) : ¬ A.foot g b := by
  rintro (e | e | e | ⟨x, hx, e | e | e⟩)
  · exact h _ S.inst e.symm
  · refine hideG fun zG zK => ?_
    obtain ⟨_, _, _, _, _, _, _, _, _, _, hd⟩ := S.dict
    refine zK ?_
    clear zK zG
    exact h _ hd e.symm
  · obtain ⟨o2, ho, _⟩ := S.d2
    exact h _ ho e.symm
  · refine hideG fun zG zK => ?_
    obtain ⟨⟨_, _, a⟩, _⟩ := S.node x hx
    refine zK ?_
    clear zK zG
    exact h _ a e.symm
  · exact h _ (S.node x hx).dict e.symm
  · refine hideG fun zG zK => ?_
    obtain ⟨vs, n, c, _⟩ := (S.node x hx).lst
    refine zK ?_
    clear zK zG
    exact h _ c e.symm
/-! changes -/
noncomputable def setNp (g : G) (x : Str) (n : Int) : G := { g with np := fun y => if y = x then n else g.np y }
noncomputable def setSucc (g : G) (x : Str) (ss : List Str) : G := { g with succ := fun y => if y = x then ss else g.succ y }
theorem SAt.setInfo (S : SAt prog w l A g rv pv fv) {x : Str} (hx : x ∈ g.nodes) (tx tn : Tok) (n : Int) :
    SAt prog w (setAt l (A.ia x) (niObj (A.dd x) (A.la x) x tx n tn)) A (setNp g x n) rv pv fv := by
  refine hideG fun zG zK => ?_
  obtain ⟨e1, e2, e3, e4, t1, t2, t3, t4, t5, t6, hd⟩ := S.dict
  obtain ⟨o2, ho, hd2⟩ := S.d2
  refine zK ?_
  clear zK zG
  refine ⟨S.ok.setAt _ _, mem_set_ne (S.self_ne_ia hx) S.inst, ⟨e1, e2, e3, e4, t1, t2, t3, t4, t5, t6, mem_set_ne (S.ds_ne_ia hx) hd⟩, ⟨o2, mem_set_ne (S.d2_ne_ia hx) ho, hd2⟩, S.lo2, fun y hy => ?_, S.dsd2, S.d2dd, S.laInj⟩
  refine hideG fun zG zK => ?_
  obtain ⟨⟨ty, tm, a⟩, b, vs, k, c, d⟩ := S.node y hy
  refine zK ?_
  clear zK zG
  refine ⟨?_, mem_set_ne (S.ia_ne_dd hx hy).symm b, vs, k, mem_set_ne (S.ia_ne_la hx hy).symm c, d⟩
  by_cases e : y = x
  · subst e
    exact ⟨tx, tn, by show (A.ia y, niObj _ _ _ _ (if y = y then n else g.np y) _) ∈ _; rw [if_pos rfl]; exact mem_set_self a⟩
  · exact ⟨ty, tm, by show (A.ia y, niObj _ _ _ _ (if y = x then n else g.np y) _) ∈ _; rw [if_neg e]; exact mem_set_ne (fun h => e (S.ia_inj hy hx h)) a⟩
theorem SAt.setLst (S : SAt prog w l A g rv pv fv) {x : Str} (hx : x ∈ g.nodes) {vs : List Value} {n : Nat} {ss : List Str} (h : Strs vs ss) :
    SAt prog w (setAt l (A.la x) (listOf vs.toArray n)) A (setSucc g x ss) rv pv fv := by
  refine hideG fun zG zK => ?_
  obtain ⟨e1, e2, e3, e4, t1, t2, t3, t4, t5, t6, hd⟩ := S.dict
  obtain ⟨o2, ho, hd2⟩ := S.d2
  refine zK ?_
  clear zK zG
  refine ⟨S.ok.setAt _ _, mem_set_ne (S.self_ne_la hx) S.inst, ⟨e1, e2, e3, e4, t1, t2, t3, t4, t5, t6, mem_set_ne (S.ds_ne_la hx) hd⟩, ⟨o2, mem_set_ne (S.d2_ne_la hx) ho, hd2⟩, S.lo2, fun y hy => ?_, S.dsd2, S.d2dd, S.laInj⟩
  refine hideG fun zG zK => ?_
  obtain ⟨⟨ty, tm, a⟩, b, us, k, c, d⟩ := S.node y hy
  refine zK ?_
  clear zK zG
  refine ⟨⟨ty, tm, mem_set_ne (S.ia_ne_la hy hx) a⟩, mem_set_ne (S.dd_ne_la hy hx) b, ?_⟩
  by_cases e : y = x
  · subst e
    exact ⟨vs, n, mem_set_self c, by show Strs vs (if y = y then ss else g.succ y); rw [if_pos rfl]; exact h⟩
  · exact ⟨us, k, mem_set_ne (fun h => e (S.laInj y hy x hx h)) c, by show Strs us (if y = x then ss else g.succ y); rw [if_neg e]; exact d⟩
theorem SAt.setDs (S : SAt prog w l A g rv pv fv) {rv' : Value} {pv' fv' : Int} {e1 e2 e3 e4 : Int} {t1 t2 t3 t4 t5 t6 : Tok} :
    SAt prog w (setAt l A.ds (dictOf [⟨e1, .str (Str.ofString "_node2info") t1, .ref A.d2⟩, ⟨e2, .str (Str.ofString "_ready_nodes") t2, rv'⟩, ⟨e3, .str (Str.ofString "_npassedout") t3, .int pv' t5⟩, ⟨e4, .str (Str.ofString "_nfinished") t4, .int fv' t6⟩] 4)) A g rv' pv' fv' := by
  refine hideG fun zG zK => ?_
  obtain ⟨_, _, _, _, _, _, _, _, _, _, hd⟩ := S.dict
  obtain ⟨o2, ho, hd2⟩ := S.d2
  refine zK ?_
  clear zK zG
  refine ⟨S.ok.setAt _ _, mem_set_ne S.self_ne_ds S.inst, ⟨e1, e2, e3, e4, t1, t2, t3, t4, t5, t6, mem_set_self hd⟩, ⟨o2, mem_set_ne S.dsd2.symm ho, hd2⟩, S.lo2, fun y hy => ?_, S.dsd2, S.d2dd, S.laInj⟩
  refine hideG fun zG zK => ?_
  obtain ⟨⟨ty, tm, a⟩, b, us, k, c, d⟩ := S.node y hy
  refine zK ?_
  clear zK zG
  exact ⟨⟨ty, tm, mem_set_ne (S.ds_ne_ia hy).symm a⟩, mem_set_ne (S.ds_ne_dd hy).symm b, us, k, mem_set_ne (S.ds_ne_la hy).symm c, d⟩
noncomputable def G.touch (g : G) (x : Str) : G := if x ∈ g.nodes then g else { nodes := g.nodes ++ [x], np := fun y => if y = x then 0 else g.np y, succ := fun y => if y = x then [] else g.succ y }
theorem touch_in {x : Str} (h : x ∈ g.nodes) : g.touch x = g := if_pos h
theorem touch_out {x : Str} (h : x ∉ g.nodes) : g.touch x = { nodes := g.nodes ++ [x], np := fun y => if y = x then 0 else g.np y, succ := fun y => if y = x then [] else g.succ y } := if_neg h
theorem mem_touch (g : G) (x : Str) : x ∈ (g.touch x).nodes := by
  by_cases h : x ∈ g.nodes
  · rw [touch_in h]; exact h
  · rw [touch_out h]; exact List.mem_append_right _ (.head _)
theorem mem_touch_of (g : G) (x : Str) {y : Str} (hy : y ∈ g.nodes) : y ∈ (g.touch x).nodes := by
  by_cases h : x ∈ g.nodes
  · rw [touch_in h]; exact hy
  · rw [touch_out h]; exact List.mem_append_left _ hy
noncomputable def G.add (g : G) (x : Str) (ys : List Str) : G := ys.foldl (fun g y => setSucc (g.touch y) y ((g.touch y).succ y ++ [x])) (setNp (g.touch x) x ((g.touch x).np x + ys.length))
noncomputable def addStep (x : Str) (g : G) (y : Str) : G := setSucc (g.touch y) y ((g.touch y).succ y ++ [x])
theorem G.len_touch (g : G) (x : Str) : (g.touch x).nodes.length ≤ g.nodes.length + 1 := by
  by_cases h : x ∈ g.nodes
  · rw [touch_in h]; omega
  · rw [touch_out h]; simp
theorem G.succ_touch (g : G) (x y : Str) : ((g.touch x).succ y).length ≤ (g.succ y).length := by
  by_cases h : x ∈ g.nodes
  · rw [touch_in h]; omega
  · rw [touch_out h]
    show (if y = x then [] else g.succ y).length ≤ _
    split
    · exact Nat.zero_le _
    · exact Nat.le_refl _
theorem fold_nodes (x : Str) : ∀ (ys : List Str) (g : G), (ys.foldl (addStep x) g).nodes.length ≤ g.nodes.length + ys.length
  | [], g => Nat.le_refl _
  | y :: ys, g => by
    rw [List.foldl_cons]
    refine Nat.le_trans (fold_nodes x ys _) ?_
    have : (addStep x g y).nodes.length ≤ g.nodes.length + 1 := g.len_touch y
    rw [List.length_cons]; omega
theorem fold_succ (x : Str) : ∀ (ys : List Str) (g : G) (z : Str), ((ys.foldl (addStep x) g).succ z).length ≤ (g.succ z).length + ys.length
  | [], g, z => Nat.le_refl _
  | y :: ys, g, z => by
    rw [List.foldl_cons]
    refine Nat.le_trans (fold_succ x ys _ z) ?_
    have h1 : ((addStep x g y).succ z).length ≤ (g.succ z).length + 1 := by
      show (if z = y then (g.touch y).succ y ++ [x] else (g.touch y).succ z).length ≤ _
      split
      · rename_i e; subst e
        rw [List.length_append]
        have := g.succ_touch z z
        simp; omega
      · have := g.succ_touch y z
        omega
    rw [List.length_cons]; omega
theorem SAt.new (S : SAt prog w l A g rv pv fv) {x : Str} (hx : x ∉ g.nodes) {a d b : Addr} {o2 : Obj} {tx tn : Tok} {n : Nat} (hd : ∀ p ∈ l, p.1 ≠ d) (ha : ∀ p ∈ l, p.1 ≠ a) (hb : ∀ p ∈ l, p.1 ≠ b) (had : a ≠ d) (hba : b ≠ a) (hbd : b ≠ d)
    (h2 : o2.IsDictOf (PySem.strKind prog w) ((g.nodes.map fun x => (x, Value.ref (A.ia x))) ++ [(x, .ref a)])) :
    SAt prog w ((b, listOf #[] n) :: (a, niObj d b x tx 0 tn) :: (d, dictOf [] 0) :: setAt l A.d2 o2) { A with ia := fun y => if y = x then a else A.ia y, dd := fun y => if y = x then d else A.dd y, la := fun y => if y = x then b else A.la y } (g.touch x) rv pv fv := by
  refine hideG fun zG zK => ?_
  obtain ⟨e1, e2, e3, e4, t1, t2, t3, t4, t5, t6, hdi⟩ := S.dict
  obtain ⟨o2', ho, _⟩ := S.d2
  refine zK ?_
  clear zK zG
  have ok1 : Ok ((d, dictOf [] 0) :: setAt l A.d2 o2) := (S.ok.setAt _ _).cons_ne (nes_set hd)
  have ok2 : Ok ((a, niObj d b x tx 0 tn) :: (d, dictOf [] 0) :: setAt l A.d2 o2) := ok1.cons_ne (List.forall_mem_cons.mpr ⟨had.symm, nes_set ha⟩)
  have ok3 : Ok ((b, listOf #[] n) :: (a, niObj d b x tx 0 tn) :: (d, dictOf [] 0) :: setAt l A.d2 o2) := ok2.cons_ne (List.forall_mem_cons.mpr ⟨hba.symm, List.forall_mem_cons.mpr ⟨hbd.symm, nes_set hb⟩⟩)
  have up : ∀ {p : Addr × Obj}, p ∈ setAt l A.d2 o2 → p ∈ (b, listOf #[] n) :: (a, niObj d b x tx 0 tn) :: (d, dictOf [] 0) :: setAt l A.d2 o2 := fun h => .tail _ (.tail _ (.tail _ h))
  rw [touch_out hx]
  refine ⟨ok3, up (mem_set_ne S.self_ne_d2 S.inst), ⟨e1, e2, e3, e4, t1, t2, t3, t4, t5, t6, up (mem_set_ne S.dsd2 hdi)⟩, ⟨o2, up (mem_set_self ho), ?_⟩, S.lo2, fun y hy => ?_, S.dsd2, fun y hy => ?_, fun y hy z hz => ?_⟩
  · have e : (g.nodes ++ [x]).map (fun y => (y, Value.ref (if y = x then a else A.ia y))) = (g.nodes.map fun x => (x, Value.ref (A.ia x))) ++ [(x, .ref a)] := by
      rw [List.map_append]
      congr 1
      · refine List.map_congr_left fun y hy => ?_
        rw [if_neg (fun e : y = x => hx (e ▸ hy))]
      · simp
    show o2.IsDictOf _ ((g.nodes ++ [x]).map (fun y => (y, Value.ref (if y = x then a else A.ia y))))
    rw [e]; exact h2
  · by_cases e : y = x
    · subst e
      refine ⟨⟨tx, tn, ?_⟩, ?_, [], n, ?_, ?_⟩
      · show ((if y = y then a else A.ia y), niObj (if y = y then d else A.dd y) (if y = y then b else A.la y) y tx (if y = y then 0 else g.np y) tn) ∈ _
        simp only [if_pos]
        exact .tail _ (.head _)
      · show ((if y = y then d else A.dd y), dictOf [] 0) ∈ _
        simp only [if_pos]
        exact .tail _ (.tail _ (.head _))
      · show ((if y = y then b else A.la y), listOf #[] n) ∈ _
        simp only [if_pos]
        exact .head _
      · show Strs [] (if y = y then [] else g.succ y)
        simp only [if_pos]
        exact Strs.nil
    · have hy' : y ∈ g.nodes := by
        rcases List.mem_append.mp hy with h | h
        · exact h
        · exact absurd (List.mem_singleton.mp h) e
      refine hideG fun zG zK => ?_
      obtain ⟨⟨ty, tm, a'⟩, b', us, k, c', d'⟩ := S.node y hy'
      refine zK ?_
      clear zK zG
      refine ⟨⟨ty, tm, ?_⟩, ?_, us, k, ?_, ?_⟩
      · show ((if y = x then a else A.ia y), niObj (if y = x then d else A.dd y) (if y = x then b else A.la y) y ty (if y = x then 0 else g.np y) tm) ∈ _
        simp only [if_neg e]
        exact up (mem_set_ne (S.d2_ne_ia hy').symm a')
      · show ((if y = x then d else A.dd y), dictOf [] 0) ∈ _
        simp only [if_neg e]
        exact up (mem_set_ne (S.d2dd y hy').symm b')
      · show ((if y = x then b else A.la y), listOf us.toArray k) ∈ _
        simp only [if_neg e]
        exact up (mem_set_ne (S.d2_ne_la hy').symm c')
      · show Strs us (if y = x then [] else g.succ y)
        simp only [if_neg e]
        exact d'
  · show A.d2 ≠ (if y = x then d else A.dd y)
    by_cases e : y = x
    · rw [if_pos e]; exact hd _ ho
    · rw [if_neg e]
      refine S.d2dd y ?_
      rcases List.mem_append.mp hy with h | h
      · exact h
      · exact absurd (List.mem_singleton.mp h) e
  · show (if y = x then b else A.la y) = (if z = x then b else A.la z) → y = z
    have old : ∀ {y : Str}, y ∈ g.nodes ++ [x] → y ≠ x → y ∈ g.nodes := fun hy e => by
      rcases List.mem_append.mp hy with h | h
      · exact h
      · exact absurd (List.mem_singleton.mp h) e
    by_cases e : y = x
    · by_cases e' : z = x
      · intro _; rw [e, e']
      · rw [if_pos e, if_neg e']
        intro q
        refine hideG fun zG zK => ?_
        obtain ⟨_, _, us, k, c', _⟩ := S.node z (old hz e')
        refine zK ?_
        clear zK zG
        exact absurd q.symm (hb _ c')
    · by_cases e' : z = x
      · rw [if_neg e, if_pos e']
        intro q
        refine hideG fun zG zK => ?_
        obtain ⟨_, _, us, k, c', _⟩ := S.node y (old hy e)
        refine zK ?_
        clear zK zG
        exact absurd q (hb _ c')
      · rw [if_neg e, if_neg e']
        exact S.laInj y (old hy e) z (old hz e')
theorem keep_new {x : Str} (hx : x ∉ g.nodes) {a d b : Addr} {o o1 o2 o3 : Obj} {p : Addr × Obj} (hp : p ∈ l) (hf : ¬ A.foot g p.1) (ha : p.1 ≠ a) (hd : p.1 ≠ d) (hb : p.1 ≠ b) :
    p ∈ ((b, o1) :: (a, o2) :: (d, o3) :: setAt l A.d2 o) ∧ ¬ ({ A with ia := fun y => if y = x then a else A.ia y, dd := fun y => if y = x then d else A.dd y, la := fun y => if y = x then b else A.la y } : SA).foot (g.touch x) p.1 := by
  refine ⟨.tail _ (.tail _ (.tail _ (mem_set_ne (fun e => hf (.inr (.inr (.inl e)))) hp))), ?_⟩
  rw [touch_out hx]
  rintro (e | e | e | ⟨y, hy, e⟩)
  · exact hf (.inl e)
  · exact hf (.inr (.inl e))
  · exact hf (.inr (.inr (.inl e)))
  · have e : p.1 = (if y = x then a else A.ia y) ∨ p.1 = (if y = x then d else A.dd y) ∨ p.1 = (if y = x then b else A.la y) := e
    by_cases h : y = x
    · simp only [if_pos h] at e
      rcases e with e | e | e
      · exact ha e
      · exact hd e
      · exact hb e
    · simp only [if_neg h] at e
      have hy' : y ∈ g.nodes := by
        rcases List.mem_append.mp hy with h' | h'
        · exact h'
        · exact absurd (List.mem_singleton.mp h') h
      exact hf (.inr (.inr (.inr ⟨y, hy', e⟩)))
/-- the ready list beside -/
structure RAt (prog : Program) (w : World) (l : Led) (A : SA) (g : G) (R : List Str) (rl : Addr) (pv fv : Int) : Prop where
  S : SAt prog w l A g (.ref rl) pv fv
  lst : ∃ vs n, (rl, listOf vs.toArray n) ∈ l ∧ Strs vs R
  nf : ¬ A.foot g rl
theorem SAt.valueAt (S : SAt prog w l A g rv pv fv) {x : Str} (hx : x ∈ g.nodes) : valueAt (g.nodes.map fun x => (x, Value.ref (A.ia x))) x = some (.ref (A.ia x)) := by
  rw [valueAt_nodes (fun x => Value.ref (A.ia x)), if_pos hx]
noncomputable def outs (R : List Str) (g : G) : G := R.foldl (fun g x => setNp g x (-1)) g
theorem outs_nodes (R : List Str) (g : G) : (outs R g).nodes = g.nodes := by
  unfold outs
  induction R generalizing g with
  | nil => rfl
  | cons x R ih => rw [List.foldl_cons, ih]; rfl
theorem foot_nodes {g g' : G} (e : g'.nodes = g.nodes) (b : Addr) : A.foot g' b ↔ A.foot g b := by unfold SA.foot; rw [e]
theorem outs_snoc {R : List Str} {i : Nat} {y : Str} (h : R[i]? = some y) (g : G) : outs (R.take (i + 1)) g = setNp (outs (R.take i) g) y (-1) := by
  unfold outs
  rw [List.take_add_one, h, Option.toList_some, List.foldl_append]; rfl
end
end Mine
end
section
open PySem PySem.W PyProof.Rows PySem.Calls PySem.Spec
namespace Mine
open LCg
/-! a comprehension over a list of pairs whose element may draw from the world -/
inductive EndD (h₀ : Heap) (L : Addr) (m : Str → Option Value) (s₁ : Shared) (I : Addr) (oI : Obj) (C : Addr) (oC : Obj) (D : Addr) (oD : Obj) (S : Value → Led → Prop) (y : Value) (s₂ : Shared) : Prop
  | mk (h' : Heap) (tk : Nat) (dr : Drawn) (news' : Led) : s₂ = { s₁ with heap := h', toks := tk, drawn := dr } → Fr h₀ L h' m → News h₀ L h' ((I, oI) :: (C, oC) :: (D, oD) :: news') → Off3 I C D news' → S y news' → EndD h₀ L m s₁ I oI C oC D oD S y s₂
inductive PGo (s : Shared) (h₀ : Heap) (L : Addr) (m : Str → Option Value) (I C D ax : Addr) (its : List Value) (k0 : Nat) (J : Nat → List Value → Led → Prop) (k : Nat) (s' : Shared) : Prop
  | mk (h : Heap) (tk : Nat) (dr : Drawn) (i : Nat) (ys : List Value) (m' : Str → Option Value) (nw : Led) : (s' = { s with heap := h, toks := tk, drawn := dr }) → (i ≤ its.length) → (k = its.length + 1 - i) → (ys.length = i) → ((h.IsListIter I ax i ∧ h.IsList ax its.toArray)) → (Fr h₀ L h m) → (h.Ns C m') → (News h₀ L h ((D, lst ys) :: nw)) → (Off3 I C D nw) → (J i ys nw) → ((ax, seqObj "list" its k0) ∈ nw) → PGo s h₀ L m I C D ax its k0 J k s'
section
variable {prog : Program} {w : World} {A : Around} {E : Value → Shared → Prop} {s : Shared} {h₀ : Heap} {L : Addr} {m : Str → Option Value} {env : Env}
theorem pairs_go {elt iter : Expr} {x x₂ : Str} {px px₂ tp : Pos} {tk} {scope : Scope} {cl : List (Str × Addr)} {pos : Pos} {ax : Addr} {its : List Value} {k0 : Nat} {news : Led} {Q : Value → Shared → Prop} (J : Nat → List Value → Led → Prop) (Pv : Nat → Value → Value → Prop)
    (hclos : closureFor scope env = pure cl) (hcell : ∀ y ∈ scope.names, y.2 ≠ .cell) (hkind : scope.kind = .function)
    (hnames : ∀ y ∈ scope.names, y.2 = .local → scope.names.lookup y.1 = some .local) (hx : scope.names.lookup x = some .local) (hx₂ : scope.names.lookup x₂ = some .local) (hxx : x ≠ x₂)
    (hh : A.handled = none)
    (hi : wpAny (model prog w) A (eval iter env) (fun xv s₁ => xv = .ref ax ∧ Fr h₀ L s₁.heap m ∧ News h₀ L s₁.heap news ∧ ∃ h tk, s₁ = { s with heap := h, toks := tk }) E s)
    (hl : (ax, seqObj "list" its k0) ∈ news) (hsz : its.length ≤ 1000) (hj : J 0 [] news)
    (pair : ∀ i ys nw, i < its.length → J i ys nw → (ax, seqObj "list" its k0) ∈ nw ∧ ∃ t v₁ v₂ n, its[i]? = some (.ref t) ∧ (t, seqObj "tuple" [v₁, v₂] n) ∈ nw ∧ Pv i v₁ v₂)
    (turn : ∀ i ys nw v₁ v₂ I oI C oC D m₂ s₁ (E' : Value → Shared → Prop), i < its.length → Pv i v₁ v₂ → J i ys nw → NsObj oC m₂ → m₂ x = some v₁ → m₂ x₂ = some v₂ → Fr h₀ L s₁.heap m → News h₀ L s₁.heap ((I, oI) :: (C, oC) :: (D, lst ys) :: nw) → Off3 I C D nw → ((@Ne Nat I C) ∧ (@Ne Nat I D) ∧ (@Ne Nat C D)) →
      wpAny (model prog w) A (eval elt (compEnvC scope cl C env)) (EndD h₀ L m s₁ I oI C oC D (lst ys) fun y nw' => (ax, seqObj "list" its k0) ∈ nw' ∧ J (i + 1) (ys ++ [y]) nw') E' s₁)
    (fin : ∀ D ys nw h tk dr, J its.length ys nw → Fr h₀ L h m → News h₀ L h ((D, lst ys) :: nw) → Off1 D nw → Q (.ref D) { s with heap := h, toks := tk, drawn := dr })
    (hs : ∀ x, foldedSetIterable iter env x = pure x) :
    wpAny (model prog w) A (eval (.ListComp elt [⟨.Tuple [.Name x px, .Name x₂ px₂] tk tp, iter, [], 0⟩] scope pos) env) Q E s := by
  rw [eval_ListComp]
  refine wpAny_comprehension_free (use := none) rfl hs hclos hkind hnames (wpAny_mono hi (fun xv s₁ h₁ => ?_) fun _ _ e => e)
  refine hideG fun zG zK => ?_
  obtain ⟨rfl, F1, N1, hb1, tb1, rfl⟩ := h₁
  refine zK ?_
  clear zK zG
  have hls : Heap.IsList hb1 ax its.toArray := ⟨_, (N1 _ hl).1, rfl, k0, rfl⟩
  refine wpAny_pyIter_list hls ?_
  refine hideG fun zG zK => ?_
  obtain ⟨a, b, c, F', N'⟩ := new_facts F1 N1 { cls := .type "list_iterator", data := .fields #[.ref ax, .int 0 0] }
  refine zK ?_
  clear zK zG
  have W := Walks.list (prog := prog) (w := w) hh hb1.objs.size ax (c _ hl) its.toArray
  have hlen : its.toArray.size = its.length := by simp
  rw [hlen] at W
  have hst0 : (hb1.push { cls := .type "list_iterator", data := .fields #[.ref ax, .int 0 0] }).IsListIter hb1.objs.size ax 0 ∧ (hb1.push { cls := .type "list_iterator", data := .fields #[.ref ax, .int 0 0] }).IsList ax its.toArray := ⟨⟨_, Heap.get?_push_size _ rfl, rfl, rfl⟩, hls.at fun o e => Heap.get?_push_of_some _ e⟩
  have hIlt : hb1.objs.size < (hb1.push { cls := .type "list_iterator", data := .fields #[.ref ax, .int 0 0] }).objs.size := by rw [Heap.size_push]; exact Nat.lt_succ_self _
  dsimp only at F' N' a b c ⊢
  generalize (hb1.push { cls := .type "list_iterator", data := .fields #[.ref ax, .int 0 0] }) = g1 at F' N' hst0 hIlt ⊢
  generalize hb1.objs.size = I at a b c W hst0 hIlt ⊢
  clear hls F1 N1
  -- the list that grows, then the frame
  refine wpAny_newObj_type (wpAny_newFunctionEnv hcell (by intro y hy; simp at hy) (fun g3 hns hsb => ?_) hkind)
  refine hideG fun zG zK => ?_
  obtain ⟨d1, d2, d3, F2, N2⟩ := new_facts F' N' (lst [])
  refine zK ?_
  clear zK zG
  have hD : (g1.push (lst [])).get? g1.objs.size = some (lst []) := Heap.get?_push_size _ rfl
  have hIg : ∀ o, g1.get? I = some o → (g1.push (lst [])).get? I = some o := fun o e => Heap.get?_push_of_some _ e
  have hst2 : (g1.push (lst [])).IsListIter I ax 0 ∧ (g1.push (lst [])).IsList ax its.toArray := ⟨hst0.1.at hIg, hst0.2.at fun o e => Heap.get?_push_of_some _ e⟩
  have hDI : I ≠ g1.objs.size := Nat.ne_of_lt hIlt
  have hsz2 : (g1.push (lst [])).objs.size = g1.objs.size + 1 := Heap.size_push ..
  have hCD : (g1.push (lst [])).objs.size ≠ g1.objs.size := by rw [hsz2]; exact Nat.ne_of_gt (Nat.lt_succ_self _)
  have hCI : I ≠ (g1.push (lst [])).objs.size := by rw [hsz2]; exact Nat.ne_of_lt (Nat.lt_succ_of_lt hIlt)
  have e0 : ({ cls := .type "list", dict := none, data := .seq ([] : List Value).toArray } : Obj) = lst [] := rfl
  dsimp only at hns hsb ⊢
  rw [e0] at hns hsb ⊢
  generalize hC : (g1.push (lst [])).objs.size = C at hns hsb hCD hCI hsz2 ⊢
  generalize hg2 : g1.push (lst []) = g2 at *
  generalize g1.objs.size = D at *
  have hIe : ∃ o, g2.get? I = some o := ⟨_, hst2.1.choose_spec.1⟩
  have hCL : C ≠ L := by rw [← hC]; exact Nat.ne_of_gt F2.ns.lt
  have hC0 : h₀.get? C = none := by rw [← hC]; exact next_is_new F2
  have hnC : ∀ p ∈ news, p.1 ≠ C := fun p hp => by rw [← hC]; exact Nat.ne_of_lt (Heap.lt_size (N2 p hp).1)
  have up : ∀ b o, g2.get? b = some o → g3.get? b = some o := fun b o e => hsb.extBut b o (by rw [← hC]; exact Nat.ne_of_lt (Heap.lt_size e)) (Heap.get?_push_of_some _ e)
  have F3 := F2.keeps up
  have ST : PGo s h₀ L m I C D ax its k0 J (its.length + 1) ({ s with heap := g3, toks := tb1 + 0 } : Shared) :=
    ⟨g3, _, s.drawn, 0, [], _, news, rfl, Nat.zero_le _, rfl, rfl, ⟨hst2.1.at fun o e => up _ o e, hst2.2.at fun o e => up _ o e⟩, F3, hns, fun p hp => by
      rcases List.mem_cons.mp hp with rfl | hp
      · exact ⟨up _ _ hD, d2, d1⟩
      · exact ⟨up _ _ (N2 p hp).1, (N2 p hp).2⟩, Off3.of fun p hp => ⟨c p hp, hnC p hp, d3 p hp⟩, hj, hl⟩
  have loop : codeAny (model prog w) A (.compLoop (.ListComp elt [⟨.Tuple [.Name x px, .Name x₂ px₂] tk tp, iter, [], 0⟩] scope pos) 0 (.ref I) (.ref D) (compEnvC scope cl C env)) (compPost (model prog w) A E none Q (.ref D) C) { s with heap := g3, toks := tb1 + 0 } := by
    refine LCp.codeAny_compLoop_pair (fun k s' => PGo s h₀ L m I C D ax its k0 J k s') ?_ (its.length + 1) ST
    intro k s' zr1
    refine hideG fun zG zK => ?_
    obtain ⟨h, tk1, dr, i, ys, m', nw, rfl, hin, rfl, hyl, st, F4, hn4, N4, off4, hJ, hax⟩ := zr1
    refine zK ?_
    clear zK zG
    have off4m := off4.mem
    have hcD : ∀ p ∈ (D, lst ys) :: nw, p.1 ≠ I := fun p hp => by
      rcases List.mem_cons.mp hp with rfl | hp
      · exact Ne.symm hDI
      · exact (off4m p hp).1
    by_cases hlt : i < its.length
    · refine W.item i _ _ _ hlt st fun v h2 tk2 hPv st2 up2 => ?_
      refine hideG fun zG zK => ?_
      obtain ⟨_, t, v₁, v₂, nt, hit, htm, hP⟩ := pair i ys nw hlt hJ
      refine zK ?_
      clear zK zG
      have hv : its.toArray[i]? = some v := hPv
      rw [List.getElem?_toArray, hit] at hv
      cases hv
      have N5 : News h₀ L h2 ((D, lst ys) :: nw) := news_but N4 up2 hcD
      have F5 : Fr h₀ L h2 m := fr_but F4 up2 (Ne.symm b) a
      have ht : IsTup h2 t #[v₁, v₂] := ⟨_, (N5 _ (.tail _ htm)).1, rfl, nt, rfl⟩
      refine wpAny_letOwnedTupleGo_listiter st2.1 ?_
      refine assign_Tuple_tuple hh ht rfl rfl fun h5 he => ?_
      have he' : ∀ b o, h2.get? b = some o → h5.get? b = some o := fun b o e => he b o (Nat.ne_of_lt (Heap.lt_size e)) e
      have hn5 := (hn4.at' fun o e => up2 _ o (by simpa using Ne.symm hCI) e).at' fun o e => he' _ o e
      refine assignInOrder_cons (wpAny_assign_Name (wpAny_storeName_local (lookup_relabel_local hx) hn5 (fun h6 hn6 hs6 => ?_) (by simp [compEnvC, relabel, hkind])))
      refine assignInOrder_cons (wpAny_assign_Name (wpAny_storeName_local (lookup_relabel_local hx₂) hn6 (fun h7 hn7 hs7 => ?_) (by simp [compEnvC, relabel, hkind])))
      refine assignInOrder_nil ?_
      have up7 : ∀ b o, b ≠ C → h2.get? b = some o → h7.get? b = some o := fun b o hb e => hs7.extBut b o hb (hs6.extBut b o hb (he' b o e))
      refine hideG fun zG zK => ?_
      obtain ⟨oC, heC, hoC⟩ := ns_obj hn7
      obtain ⟨oI, heI, _, _⟩ := st2.1
      refine zK ?_
      clear zK zG
      have heI7 := up7 I _ hCI heI
      have F7 : Fr h₀ L h7 m := ((F5.keeps he').change hs6 hCL hC0).change hs7 hCL hC0
      have N7 : News h₀ L h7 ((I, oI) :: (C, oC) :: (D, lst ys) :: nw) := fun p hp => by
        rcases List.mem_cons.mp hp with rfl | hp
        · exact ⟨heI7, b, a⟩
        rcases List.mem_cons.mp hp with rfl | hp
        · exact ⟨heC, hCL, hC0⟩
        refine ⟨up7 _ _ ?_ (N5 p hp).1, (N5 p hp).2⟩
        rcases List.mem_cons.mp hp with rfl | hp
        · exact Ne.symm hCD
        · exact (off4m p hp).2.1
      refine wpAny_mono (turn i ys nw v₁ v₂ I oI C oC D _ _ _ hlt hP hJ hoC (by simp [hxx]) (by simp) F7 N7 off4 ⟨hCI, hDI, hCD⟩) (fun y s4 h4 => ?_) fun _ _ e => e
      refine hideG fun zG zK => ?_
      obtain ⟨h8, tk8, dr8, nw8, rfl, F8, N8, off8, hax8, hJ8⟩ := h4
      refine zK ?_
      clear zK zG
      have zI := (N8 (I, oI) (.head _)).1
      have zC := (N8 (C, oC) (.tail _ (.head _))).1
      have zD := (N8 (D, lst ys) (.tail _ (.tail _ (.head _)))).1
      have N8' : News h₀ L h8 nw8 := fun p hp => N8 p (.tail _ (.tail _ (.tail _ hp)))
      refine append_at (hsz := by show ys.toArray.size ≤ sizeLine; rw [List.size_toArray, hyl, sizeLine_eq]; exact Nat.le_trans (Nat.le_of_lt (Nat.lt_of_lt_of_le hlt hsz)) (Nat.le_of_ble_eq_true rfl)) zD fun h9 hs9 hD9 => ?_
      have off8m := off8.mem
      refine ⟨its.length + 1 - (i + 1), Nat.sub_lt_sub_left (Nat.lt_succ_of_lt hlt) (Nat.lt_succ_self i), h9, tk8, dr8, i + 1, ys ++ [y], _, nw8, rfl, hlt, rfl, by rw [List.length_append, List.length_singleton, hyl], ⟨?_, ?_⟩, F8.change hs9 d2 d1, (hoC.ns zC).sameBut hs9 hCD, fun p hp => ?_, off8, hJ8, hax8⟩
      · exact (st2.1.at fun o e => by rw [heI] at e; cases e; exact hs9.extBut _ _ hDI zI)
      · exact ⟨_, hs9.extBut _ _ (off8m _ hax8).2.2 (N8' _ hax8).1, rfl, k0, rfl⟩
      · rcases List.mem_cons.mp hp with rfl | hp
        · exact ⟨hD9.trans (congrArg some (lst_snoc ys y)), d2, d1⟩
        · exact ⟨hs9.extBut _ _ (off8m p hp).2.2 (N8' p hp).1, (N8' p hp).2⟩
    · obtain rfl : i = its.length := Nat.le_antisymm hin (Nat.not_lt.mp hlt)
      refine W.done _ _ _ st fun h2 tk2 up2 => ?_
      refine ⟨_, hn4.at' fun o e => up2 _ o (by simpa using Ne.symm hCI) e, fun h'' hs'' => ?_⟩
      refine fin D ys nw h'' tk2 dr hJ ((fr_but F4 up2 (Ne.symm b) a).change hs'' hCL hC0) (fun p hp => ?_) off4.one
      have N5 := news_but N4 up2 hcD p hp
      refine ⟨hs''.extBut _ _ ?_ N5.1, N5.2⟩
      rcases List.mem_cons.mp hp with rfl | hp
      · exact Ne.symm hCD
      · exact (off4m p hp).2.1
  have stI : g3.IsListIter I ax 0 := hst2.1.at fun o e => up _ o e
  exact codeAny_compStart_list loop (W.self 0 _ _ _ ⟨stI, hst2.2.at fun o e => up _ o e⟩ loop)
end
end Mine
end
section
open PySem PySem.W PyProof.Rows PySem.Calls PySem.Spec
namespace Mine
/-! a for with any target, by its invariant -/
noncomputable def TurnPostU (h₀ : Heap) (L I l : Addr) (lo : Obj) (own : Led) (J : (Str → Option Value) → Led → Prop) (s₁ : Shared) (f : Flow) (s₂ : Shared) : Prop :=
  f = .next ∧ TurnPost h₀ L I l lo own J s₁ (fun _ _ => False) .next s₂
section
variable {prog : Program} {w : World} {A : Around} {E : Value → Shared → Prop} {s : Shared} {env : Env} {h₀ : Heap} {target : Expr} {body : List Stmt} {Q : Flow → Shared → Prop}
theorem iter_listT {l : Addr} {vs : List Value} {n : Nat} {m₀ : Str → Option Value} {news : Led} (J : Nat → (Str → Option Value) → Led → Prop)
    (hh : A.handled = none) (F : Fr h₀ env.locals s.heap m₀) (N : News h₀ env.locals s.heap news) (hl : (l, seqObj "list" vs n) ∈ news) (hj : J 0 m₀ news)
    (turn : ∀ i v m₁ news₁ s₁ I io, vs[i]? = some v → J i m₁ news₁ → (l, seqObj "list" vs n) ∈ news₁ → (∀ p ∈ news₁, p.1 ≠ I) → Fr h₀ env.locals s₁.heap m₁ → News h₀ env.locals s₁.heap ((I, io) :: news₁) →
      wpAny (model prog w) A (assign target env v) (fun _ s₂ => wpAny (model prog w) A (execs body env) (TurnPostU h₀ env.locals I l (seqObj "list" vs n) [(I, io)] (J (i + 1)) s₁) E s₂) E s₁)
    (done : ∀ m₁ news₁ h tk, J vs.length m₁ news₁ → (l, seqObj "list" vs n) ∈ news₁ → Fr h₀ env.locals h m₁ → News h₀ env.locals h news₁ → Q .next { s with heap := h, toks := tk }) :
    wpAny (model prog w) A (pyIter (.ref l)) (fun it s₂ => LoopAtT prog w A h₀ env target body Q E it s₂) E s := by
  have hls : s.heap.IsList l vs.toArray := ⟨_, (N _ hl).1, rfl, n, rfl⟩
  refine wpAny_pyIter_list hls ?_
  obtain ⟨a, b, c, F', N'⟩ := new_facts F N { cls := .type "list_iterator", data := .fields #[.ref l, .int 0 0] }
  have W := Walks.list (prog := prog) (w := w) hh s.heap.objs.size l (c _ hl) vs.toArray
  have hlen : vs.toArray.size = vs.length := by simp
  rw [hlen] at W
  have hlL : l ≠ env.locals := (N _ hl).2.1
  generalize hI : s.heap.objs.size = I at *
  refine ⟨I, [I, l], [I], vs.length, _, _, m₀, news, fun i m₁ news₁ => (l, seqObj "list" vs n) ∈ news₁ ∧ J i m₁ news₁, rfl, W, ?_, ?_, ?_, ⟨⟨_, by rw [← hI]; exact Heap.get?_push_size _ rfl, rfl, rfl⟩, hls.at fun o e => Heap.get?_push_of_some _ e⟩, F', N', fun i s' v Q' st hQ' => letGo_listiter st.1 hQ', ⟨hl, hj⟩, ?_, ?_⟩
  · intro hm
    rcases List.mem_cons.mp hm with e | hm
    · exact b e.symm
    · exact hlL (List.mem_singleton.mp hm).symm
  · intro x hx; rw [List.mem_singleton.mp hx]; exact a
  · intro p hp hm; exact c p hp (List.mem_singleton.mp hm)
  · rintro i v m₁ news₁ s₁ own hin hP ⟨hl₁, hJ⟩ hoff hown howng hcov hst₁ F₁ N₁
    have hoff' : ∀ p ∈ news₁, p.1 ≠ I := fun p hp e => hoff p hp (List.mem_singleton.mpr e)
    have hl₂ : s₁.heap.get? l = some (seqObj "list" vs n) := (N₁ (l, _) (List.mem_append_right _ hl₁)).1
    obtain ⟨io, q⟩ : ∃ o, s₁.heap.get? I = some o := ⟨_, hst₁.1.choose_spec.1⟩
    have hsub : (I, io) ∈ own := hcov I (.head _) a io q
    have N₂ : News h₀ env.locals s₁.heap ((I, io) :: news₁) := fun p hp => by
      rcases List.mem_cons.mp hp with rfl | hp
      · exact N₁ _ (List.mem_append_left _ hsub)
      · exact N₁ p (List.mem_append_right _ hp)
    refine wpAny_mono (turn i v m₁ news₁ s₁ I io (by simpa using hP) hJ hl₁ hoff' F₁ N₂) (fun _ s₂ h₂ => wpAny_mono h₂ (fun f s₃ h₃ => ?_) fun _ _ e => e) fun _ _ e => e
    obtain ⟨rfl, h', tk, m', news', e, F', N', hl', hn', hj'⟩ := h₃
    refine ⟨rfl, h', tk, m', news', e, F', fun p hp => ?_, (fun p hp hm => hn' p hp (List.mem_singleton.mp hm)), hl', hj'⟩
    rcases List.mem_append.mp hp with hp | hp
    · have e3 : s₁.heap.get? p.1 = some p.2 := howng p hp
      rcases List.mem_cons.mp (hown p hp) with e1 | e1
      · rw [e1, q] at e3
        have : p = (I, io) := by obtain ⟨p1, p2⟩ := p; cases e1; cases e3; rfl
        rw [this]; exact N' _ (.head _)
      · have e2 := List.mem_singleton.mp e1
        rw [e2, hl₂] at e3
        have : p = (l, seqObj "list" vs n) := by obtain ⟨p1, p2⟩ := p; cases e2; cases e3; rfl
        rw [this]
        exact N' _ (List.mem_append_right _ hl')
    · exact N' p (List.mem_append_right _ hp)
  · rintro h' tk m' news' F' N' _ ⟨hl', hJ⟩
    exact done m' news' h' tk hJ hl' F' N'
theorem turn_nextU {L I l : Addr} {lo io : Obj} {nl : Led} {J : (Str → Option Value) → Led → Prop} {s₁ : Shared} {m' : Str → Option Value} {h' : Heap} {tk : Nat} (F : Fr h₀ L h' m') (N : News h₀ L h' nl) (ho : (I, io) ∈ nl) (hl : (l, lo) ∈ nl) (hlI : l ≠ I) (hJ : J m' (dropI nl I)) :
    TurnPostU h₀ L I l lo [(I, io)] J s₁ .next { s₁ with heap := h', toks := tk } := ⟨rfl, turn_next F N ho hl hlI hJ⟩
/-! joining -/
theorem Strs.pairs {vs : List Value} {xs : List Str} (h : Strs vs xs) : ∃ l : List (Str × Tok), strValues l = vs ∧ l.map (·.1) = xs := by
  obtain ⟨hl, h⟩ := h
  induction vs generalizing xs with
  | nil =>
    have : xs = [] := List.eq_nil_of_length_eq_zero hl.symm
    subst this
    exact ⟨[], rfl, rfl⟩
  | cons v vs ih =>
    cases xs with
    | nil => simp at hl
    | cons x xs =>
      obtain ⟨t, ht⟩ := h 0 x rfl
      simp at ht
      subst ht
      obtain ⟨l, e1, e2⟩ := ih (xs := xs) (by simpa using hl) fun i y hy => h (i + 1) y (by simpa using hy)
      exact ⟨(x, t) :: l, by unfold strValues at e1 ⊢; rw [List.map_cons, e1], by rw [List.map_cons, e2]⟩
theorem sum_le {xs : List Str} {B : Nat} (h : ∀ x ∈ xs, x.length ≤ B) : (xs.map (·.length)).sum ≤ xs.length * B := by
  induction xs with
  | nil => simp
  | cons x xs ih =>
    have h1 := h x (.head _)
    have h2 := ih fun y hy => h y (.tail _ hy)
    rw [List.map_cons, List.sum_cons, List.length_cons, Nat.succ_mul]
    omega
theorem join_lst {Q : Value → Shared → Prop} {L l : Addr} {vs : List Value} {n : Nat} {news : Led} {xs : List Str} {sep : Str} {t : Tok} (N : News h₀ L s.heap news) (hm : (l, seqObj "list" vs n) ∈ news) (hv : Strs vs xs) (hx : ∀ x ∈ xs, x.length ≤ 100) (hn : xs.length ≤ 10) (hs : sep.length ≤ 10)
    (h : ∀ t' k, (Str.join sep xs).length ≤ 1200 → Q (.str (Str.join sep xs) t') { s with toks := k }) : wpAny (model prog w) A (call (.builtin "str.join") [.str sep t, .ref l]) Q E s := by
  obtain ⟨ps, e1, e2⟩ := hv.pairs
  have hw := sum_le hx
  refine SC.join (l := ps) (texts := xs) ⟨_, (N _ hm).1, rfl, n, by rw [e1]⟩ e2 (joinOk_of_weight (by omega) (by omega)) fun t' k => ?_
  have e3 : Txt.join sep xs = Str.join sep xs := by unfold Txt.join; exact StrLaws.glued_eq_join sep xs
  rw [e3]
  refine h t' k ?_
  have := StrLaws.join_length_le sep xs
  have h1 : xs.length * 100 ≤ 10 * 100 := Nat.mul_le_mul_right _ hn
  have h2 : xs.length * sep.length ≤ 10 * 10 := Nat.mul_le_mul hn hs
  omega
end
end Mine
end
section
open PySem PySem.W PyProof.Rows PySem.Calls PySem.Spec
namespace Mine
/-! a for over a list, whose turns may draw from the world -/
inductive TurnDGo (h₀ : Heap) (L I : Addr) (io : Obj) (J : (Str → Option Value) → Led → Prop) (s₁ s₂ : Shared) : Prop
  | mk (h' : Heap) (tk : Nat) (dr : Drawn) (m' : Str → Option Value) (news' : Led) : s₂ = { s₁ with heap := h', toks := tk, drawn := dr } → Fr h₀ L h' m' → News h₀ L h' ((I, io) :: news') → (∀ p ∈ news', p.1 ≠ I) → J m' news' → TurnDGo h₀ L I io J s₁ s₂
noncomputable def TurnD (h₀ : Heap) (L I : Addr) (io : Obj) (J : (Str → Option Value) → Led → Prop) (s₁ : Shared) (f : Flow) (s₂ : Shared) : Prop :=
  f = .next ∧ TurnDGo h₀ L I io J s₁ s₂
inductive FGo (s : Shared) (h₀ : Heap) (L I l : Addr) (vs : List Value) (J : Nat → (Str → Option Value) → Led → Prop) (k : Nat) (s' : Shared) : Prop
  | mk (h : Heap) (tk : Nat) (dr : Drawn) (i : Nat) (m' : Str → Option Value) (nw : Led) : (s' = { s with heap := h, toks := tk, drawn := dr }) → (i ≤ vs.length) → (k = vs.length + 1 - i) → ((h.IsListIter I l i ∧ h.IsList l vs.toArray)) → (Fr h₀ L h m') → (News h₀ L h nw) → ((∀ p ∈ nw, p.1 ≠ I)) → (J i m' nw) → FGo s h₀ L I l vs J k s'
inductive ForPlan (prog : Program) (w : World) (A : Around) (E : Value → Shared → Prop) (s : Shared) (env : Env) (h₀ : Heap) (target : Expr) (body : List Stmt) (Q : Flow → Shared → Prop) (xv : Value) (s₁ : Shared) : Prop
  | mk (l : Addr) (vs : List Value) (k0 : Nat) (m₀ : Str → Option Value) (news : Led) (J : Nat → (Str → Option Value) → Led → Prop) : (xv = .ref l) → (Fr h₀ env.locals s₁.heap m₀) → (News h₀ env.locals s₁.heap news) → ((∃ h tk, s₁ = { s with heap := h, toks := tk })) → ((l, seqObj "list" vs k0) ∈ news) → (J 0 m₀ news) → ((∀ i m nw, J i m nw → (l, seqObj "list" vs k0) ∈ nw)) → ((∀ i v m₁ nw s₁ I io, vs[i]? = some v → J i m₁ nw → (∀ p ∈ nw, p.1 ≠ I) → Fr h₀ env.locals s₁.heap m₁ → News h₀ env.locals s₁.heap ((I, io) :: nw) →
        wpAny (model prog w) A (assign target env v) (fun _ s₂ => wpAny (model prog w) A (execs body env) (TurnD h₀ env.locals I io (J (i + 1)) s₁) E s₂) E s₁)) → ((∀ m₁ nw h tk dr, J vs.length m₁ nw → Fr h₀ env.locals h m₁ → News h₀ env.locals h nw → Q .next { s with heap := h, toks := tk, drawn := dr })) → ForPlan prog w A E s env h₀ target body Q xv s₁
section
variable {prog : Program} {w : World} {A : Around} {E : Value → Shared → Prop} {s : Shared} {env : Env} {h₀ : Heap} {Q : Flow → Shared → Prop}
theorem for_any {target iter : Expr} {pos : Pos} {body : List Stmt}
    (hh : A.handled = none)
    (hi : wpAny (model prog w) A (eval iter env) (fun xv s₁ => ForPlan prog w A E s env h₀ target body Q xv s₁) E s)
    (hs : ∀ x, foldedSetIterable iter env x = pure x) (hE : PassesOwn (model prog w) A env E) :
    wpAny (model prog w) A (exec (.For target iter body [] pos) env) Q E s := by
  refine wpAny_For (wpAny_mono hi (fun xv s₁ h₁ => ?_) fun _ _ e => e) hs
  obtain ⟨l, vs, k0, m₀, news, J, rfl, F1, N1, ⟨hb1, tb1, rfl⟩, hl, hj, hJl, turn, done⟩ := h₁
  have hls : Heap.IsList hb1 l vs.toArray := ⟨_, (N1 _ hl).1, rfl, k0, rfl⟩
  refine wpAny_pyIter_list hls ?_
  obtain ⟨a, b, c, F', N'⟩ := new_facts F1 N1 { cls := .type "list_iterator", data := .fields #[.ref l, .int 0 0] }
  have W := Walks.list (prog := prog) (w := w) hh hb1.objs.size l (c _ hl) vs.toArray
  have hlen : vs.toArray.size = vs.length := by simp
  rw [hlen] at W
  have hst0 : (hb1.push { cls := .type "list_iterator", data := .fields #[.ref l, .int 0 0] }).IsListIter hb1.objs.size l 0 ∧ (hb1.push { cls := .type "list_iterator", data := .fields #[.ref l, .int 0 0] }).IsList l vs.toArray := ⟨⟨_, Heap.get?_push_size _ rfl, rfl, rfl⟩, hls.at fun o e => Heap.get?_push_of_some _ e⟩
  dsimp only at F' N' a b c ⊢
  generalize (hb1.push { cls := .type "list_iterator", data := .fields #[.ref l, .int 0 0] }) = g1 at F' N' hst0 ⊢
  generalize hb1.objs.size = I at a b c W hst0 ⊢
  refine codeAny_forLoop_any
    (fun k s' => FGo s h₀ env.locals I l vs J k s') ?_ (vs.length + 1)
    ⟨g1, tb1, s.drawn, 0, m₀, news, rfl, Nat.zero_le _, rfl, hst0, F', N', c, hj⟩
  rintro k s' ⟨h, tk1, dr, i, m', nw, rfl, hin, rfl, st, F4, N4, hnI, hJ⟩
  by_cases hlt : i < vs.length
  · refine W.item i _ _ _ hlt st fun v h2 tk2 hPv st2 up2 => ?_
    have hv : vs.toArray[i]? = some v := hPv
    rw [List.getElem?_toArray] at hv
    have F5 : Fr h₀ env.locals h2 m' := LCg.fr_but F4 up2 (Ne.symm b) a
    have N5 : News h₀ env.locals h2 nw := LCg.news_but N4 up2 hnI
    obtain ⟨io, heI, _, _⟩ := st2.1
    have N6 : News h₀ env.locals h2 ((I, io) :: nw) := fun p hp => by
      rcases List.mem_cons.mp hp with rfl | hp
      · exact ⟨heI, b, a⟩
      · exact N5 p hp
    refine wpAny_passesOwn hE (letGo_listiter st2.1 ?_)
    refine wpAny_mono (turn i v m' nw { s with heap := h2, toks := tk2, drawn := dr } I io hv hJ hnI F5 N6) (fun _ s₂ h₂ => wpAny_passesOwn hE (wpAny_mono h₂ (fun f s₃ h₃ => ?_) fun _ _ e => e)) hE
    obtain ⟨rfl, h8, tk8, dr8, m8, nw8, rfl, F8, N8, hn8, hJ8⟩ := h₃
    refine ⟨vs.length + 1 - (i + 1), by omega, h8, tk8, dr8, i + 1, m8, nw8, rfl, hlt, rfl, ⟨?_, ?_⟩, F8, fun p hp => N8 p (.tail _ hp), hn8, hJ8⟩
    · exact st2.1.at fun o e => by rw [heI] at e; cases e; exact (N8 _ (.head _)).1
    · exact ⟨_, (N8 _ (.tail _ (hJl _ _ _ hJ8))).1, rfl, k0, rfl⟩
  · obtain rfl : i = vs.length := Nat.le_antisymm hin (Nat.not_lt.mp hlt)
    refine W.done _ _ _ st fun h2 tk2 up2 => wpAny_execs_nil ?_
    exact done m' nw h2 tk2 dr hJ (LCg.fr_but F4 up2 (Ne.symm b) a) (LCg.news_but N4 up2 hnI)
theorem for_go {target iter : Expr} {pos : Pos} {body : List Stmt} {l : Addr} {vs : List Value} {k0 : Nat} {m₀ : Str → Option Value} {news : Led} (J : Nat → (Str → Option Value) → Led → Prop)
    (hh : A.handled = none)
    (hi : wpAny (model prog w) A (eval iter env) (fun xv s₁ => xv = .ref l ∧ Fr h₀ env.locals s₁.heap m₀ ∧ News h₀ env.locals s₁.heap news ∧ ∃ h tk, s₁ = { s with heap := h, toks := tk }) E s)
    (hl : (l, seqObj "list" vs k0) ∈ news) (hj : J 0 m₀ news) (hJl : ∀ i m nw, J i m nw → (l, seqObj "list" vs k0) ∈ nw)
    (turn : ∀ i v m₁ nw s₁ I io, vs[i]? = some v → J i m₁ nw → (∀ p ∈ nw, p.1 ≠ I) → Fr h₀ env.locals s₁.heap m₁ → News h₀ env.locals s₁.heap ((I, io) :: nw) →
      wpAny (model prog w) A (assign target env v) (fun _ s₂ => wpAny (model prog w) A (execs body env) (TurnD h₀ env.locals I io (J (i + 1)) s₁) E s₂) E s₁)
    (done : ∀ m₁ nw h tk dr, J vs.length m₁ nw → Fr h₀ env.locals h m₁ → News h₀ env.locals h nw → Q .next { s with heap := h, toks := tk, drawn := dr })
    (hs : ∀ x, foldedSetIterable iter env x = pure x) (hE : PassesOwn (model prog w) A env E) :
    wpAny (model prog w) A (exec (.For target iter body [] pos) env) Q E s := by
  refine for_any (h₀ := h₀) hh (wpAny_mono hi (fun xv s₁ h₁ => ?_) fun _ _ e => e) hs hE
  obtain ⟨rfl, F1, N1, e1⟩ := h₁
  exact ⟨l, vs, k0, m₀, news, J, rfl, F1, N1, e1, hl, hj, hJl, turn, done⟩
end
end Mine
end
section
open PySem PySem.W PyProof.Rows PySem.Calls PySem.Spec
namespace Mine
/-! a set of strs: what it holds and how its table stands -/
theorem orStandIn_flags (t : SetTable) (n : Nat) : (t.orStandIn n).led = t.led ∧ ((t.orStandIn n).plain = t.plain ∨ (t.orStandIn n).plain = false) := by
  unfold SetTable.orStandIn
  split
  · exact ⟨rfl, .inl rfl⟩
  · exact ⟨rfl, .inr rfl⟩
theorem layNew_flags (t : SetTable) (es : Array (Int × Value)) (h : Int) (x : Value) : (layNew t es h x).2.1.led = t.led ∧ ((layNew t es h x).2.1.plain = t.plain ∨ (layNew t es h x).2.1.plain = false) := by
  unfold layNew
  split
  · exact orStandIn_flags _ _
  · exact ⟨rfl, .inr rfl⟩
theorem laid_flags {mask finger moves : Nat} {led plain : Bool} {hs : Array Int} {t : SetTable} {o : Array Nat} (e : SetTable.laid mask finger moves led plain hs = some (t, o)) : t.led = led ∧ t.plain = plain := by
  unfold SetTable.laid at e
  cases h : SetTable.layClean mask hs with
  | none => rw [h] at e; cases e
  | some ow =>
    rw [h] at e
    cases e
    exact ⟨rfl, rfl⟩
theorem relayAll_flags (t : SetTable) (es : Array (Int × Value)) (n : Nat) : (relayAll t es n).2.1.led = t.led ∧ ((relayAll t es n).2.1.plain = t.plain ∨ (relayAll t es n).2.1.plain = false) := by
  unfold relayAll
  split
  · rename_i t' order e
    have := laid_flags e
    dsimp only
    split
    · exact ⟨this.1, .inl this.2⟩
    · exact ⟨rfl, .inr rfl⟩
  · exact ⟨rfl, .inr rfl⟩
noncomputable def byText (w : World) : Bool := w.params.followText "set-order"
/-- the entries hold the strs ys -/
noncomputable def Holds (es : Array (Int × Value)) (ys : List Str) : Prop := Strs (es.toList.map (·.2)) ys
structure SSet (prog : Program) (w : World) (o : Obj) (xs : List Str) (es : Array (Int × Value)) (ep : Nat) (t : SetTable) : Prop where
  ex : o.ExactSet
  data : o.data = .set es ep t
  el : ElemsOf (PySem.strKind prog w) es.toList
  mem : ∀ k, k ∈ xs ↔ ∃ e ∈ es.toList, (PySem.strKind prog w).is k e.2 = true
  size : es.size = xs.length
  fits : t.fits es.size = true
  led : xs ≠ [] → t.led = !byText w
  plain : xs ≠ [] → t.plain = false
noncomputable def LedOk (w : World) (o : Obj) : Prop := ∀ es ep t, o.data = .set es ep t → t.led = !byText w
noncomputable def StrSet (prog : Program) (w : World) (o : Obj) (xs : List Str) : Prop := ∃ es ep t, SSet prog w o xs es ep t
theorem StrSet.obj {prog : Program} {w : World} {o : Obj} {xs : List Str} (h : StrSet prog w o xs) : o.SetObjOf (PySem.strKind prog w) (fun k => decide (k ∈ xs)) xs.length := by
  obtain ⟨es, ep, t, H⟩ := h
  exact ⟨H.ex, es, ep, t, H.data, H.el, fun k => by rw [decide_eq_true_eq]; exact H.mem k, H.size, H.fits⟩
section
variable {prog : Program} {w : World} {A : Around} {E : Value → Shared → Prop} {s : Shared}
theorem setAdd_new {a : Addr} {o : Obj} {xs : List Str} {k : Str} {tk : Tok} {Q : Bool → Shared → Prop} (ho : s.heap.get? a = some o) (H : StrSet prog w o xs) (hL : LedOk w o) (hk : k ∉ xs) (hn : xs.length < 1000)
    (h : ∀ h' o', Heap.SameBut a s.heap h' → h'.get? a = some o' → StrSet prog w o' (xs ++ [k]) → LedOk w o' → Q true { s with heap := h' }) :
    wpAny (model prog w) A (setAddHashed a (.str k tk) ((PySem.strKind prog w).hash k)) Q E s := by
  obtain ⟨es, ep, t, H⟩ := H
  have hkey : (PySem.strKind prog w).is k (.str k tk) = true := strKind_is _ _ _ _
  have hb : es.size < scanBound := by have := H.size; have : scanBound = 4096 := rfl; omega
  unfold setAddHashed setAddHashedIn
  refine wpAny_holding (wpAny_bind (wpAny_setState_of ho H.data H.fits ?_))
  dsimp only
  rw [byScan_of rfl hb H.el]
  simp only [↓reduceIte]
  unfold setAddByScan
  refine wpAny_bind (wpAny_bind (wpAny_rule ?_))
  refine wpAny_bind (wpAny_setScan_of hkey ho H.data H.fits H.el ?_)
  cases hr : List.findIdx? (fun e => (PySem.strKind prog w).is k e.2) es.toList with
  | some j =>
    obtain ⟨hj, hpj, _⟩ := List.findIdx?_eq_some_iff_getElem.mp hr
    exact absurd ((H.mem k).mpr ⟨es.toList[j], List.getElem_mem hj, hpj⟩) hk
  | none =>
    dsimp only
    have hgw : ∀ (b : Bool) {s₁ : Shared} {Q' : Unit → Shared → Prop}, Q' () s₁ → wpAny (model prog w) A (match b with | true => rule "set.scan.the-table-gave-way" | false => pure ()) Q' E s₁ :=
      fun b s₁ Q' hq => by cases b <;> first | exact wpAny_pure hq | exact wpAny_rule hq
    have P1 := layNew_perm t es ((PySem.strKind prog w).hash k) (.str k tk)
    have F1 := layNew_fits t es ((PySem.strKind prog w).hash k) (.str k tk)
    have G1 := layNew_flags t es ((PySem.strKind prog w).hash k) (.str k tk)
    generalize layNew t es ((PySem.strKind prog w).hash k) (.str k tk) = R at P1 F1 G1 ⊢
    obtain ⟨es1, t1, dm, gv⟩ := R
    dsimp only at P1 F1 G1 ⊢
    rw [Array.toList_push] at P1
    have el1 : ElemsOf (PySem.strKind prog w) es1.toList := (H.el.push hkey rfl).perm P1
    have m1 : ∀ k', k' ∈ xs ++ [k] ↔ ∃ e ∈ es1.toList, (PySem.strKind prog w).is k' e.2 = true := fun k' => by
      have := mem_push_iff (S := fun k => decide (k ∈ xs)) hkey (fun k' => by rw [decide_eq_true_eq]; exact H.mem k') P1 k'
      rw [← this, Bool.or_eq_true, decide_eq_true_eq, decide_eq_true_eq, List.mem_append, List.mem_singleton]
    have n1 : es1.size = (xs ++ [k]).length := by rw [← Array.length_toList, P1.length_eq, List.length_append, Array.length_toList, H.size, List.length_append]; rfl
    have b1 : es1.size < scanBound := by have : scanBound = 4096 := rfl; rw [n1, List.length_append, List.length_singleton]; omega
    have led1 : t1.led = !byText w := G1.1.trans (hL _ _ _ H.data)
    -- the end of both ways
    have tail : ∀ t2 : SetTable, t2.fits es1.size = true → t2.led = !byText w → t2.plain = false → wpAny (model prog w) A (do
          storeSet a es1 t2
          if (!dm && t2.tooFull) = true then do
              (match (relayAll t2 es1 (SetTable.grown es1.size)).2.2 with | true => rule "set.scan.the-table-gave-way" | false => pure ())
              storeSet a (relayAll t2 es1 (SetTable.grown es1.size)).1 (relayAll t2 es1 (SetTable.grown es1.size)).2.1
              pure (some true)
            else pure (some true)) (fun b s' => b = some true ∧ ∃ h' o', s' = { s with heap := h' } ∧ Heap.SameBut a s.heap h' ∧ h'.get? a = some o' ∧ StrSet prog w o' (xs ++ [k]) ∧ LedOk w o') E s := by
      intro t2 f2 l2 p2
      refine wpAny_bind (wpAny_storeSet_of ho H.data ?_ (fits_of_scanBound b1))
      obtain ⟨ho1, _⟩ := SetOf_store (knd := PySem.strKind prog w) (S' := fun k' => decide (k' ∈ xs ++ [k])) ho H.ex H.data el1 (fun k' => by rw [decide_eq_true_eq]; exact m1 k') b1 f2
      have sb1 := Heap.SameBut.update s.heap a (Obj.putSet es1 t2)
      split
      · have P2 := relayAll_perm t2 es1 (SetTable.grown es1.size)
        have F2 := relayAll_fits t2 es1 (SetTable.grown es1.size)
        have G2 := relayAll_flags t2 es1 (SetTable.grown es1.size)
        generalize relayAll t2 es1 (SetTable.grown es1.size) = R2 at P2 F2 G2 ⊢
        obtain ⟨es2, t3, gv2⟩ := R2
        dsimp only at P2 F2 G2 ⊢
        have el2 : ElemsOf (PySem.strKind prog w) es2.toList := el1.perm P2
        have n2 : es2.size = es1.size := by rw [← Array.length_toList, P2.length_eq, Array.length_toList]
        have m2 : ∀ k', k' ∈ xs ++ [k] ↔ ∃ e ∈ es2.toList, (PySem.strKind prog w).is k' e.2 = true := fun k' => (m1 k').trans ⟨fun ⟨e, he, q⟩ => ⟨e, P2.mem_iff.mpr he, q⟩, fun ⟨e, he, q⟩ => ⟨e, P2.mem_iff.mp he, q⟩⟩
        refine wpAny_bind (hgw _ ?_)
        refine wpAny_bind (wpAny_storeSet_of ho1 rfl ?_ (fits_of_scanBound (n2 ▸ b1)))
        obtain ⟨ho2, _⟩ := SetOf_store (knd := PySem.strKind prog w) (S' := fun k' => decide (k' ∈ xs ++ [k])) ho1 H.ex rfl el2 (fun k' => by rw [decide_eq_true_eq]; exact m2 k') (n2 ▸ b1) F2
        refine wpAny_pure ⟨rfl, _, _, rfl, sb1.trans (Heap.SameBut.update _ a _), ho2, ⟨es2, _, t3, H.ex, rfl, el2, m2, n2.trans n1, F2, fun _ => G2.1.trans l2, fun _ => ?_⟩, fun _ _ _ e => by cases e; exact G2.1.trans l2⟩
        rcases G2.2 with e | e
        · exact e.trans p2
        · exact e
      · exact wpAny_pure ⟨rfl, _, _, rfl, sb1, ho1, ⟨es1, _, t2, H.ex, rfl, el1, m1, n1, f2, fun _ => l2, fun _ => p2⟩, fun _ _ _ e => by cases e; exact l2⟩
    have fin : ∀ t2 : SetTable, t2.fits es1.size = true → t2.led = !byText w → t2.plain = false → wpAny (model prog w) A (do
          storeSet a es1 t2
          if (!dm && t2.tooFull) = true then do
              (match (relayAll t2 es1 (SetTable.grown es1.size)).2.2 with | true => rule "set.scan.the-table-gave-way" | false => pure ())
              storeSet a (relayAll t2 es1 (SetTable.grown es1.size)).1 (relayAll t2 es1 (SetTable.grown es1.size)).2.1
              pure (some true)
            else pure (some true)) (fun b s' => wpAny (model prog w) A (match b with | some added => pure added | none => setAddHashedIn a (.str k tk) ((PySem.strKind prog w).hash k) 99999) Q E s') E s := fun t2 f2 l2 p2 =>
      wpAny_mono (tail t2 f2 l2 p2) (fun b s' hb => by
        obtain ⟨rfl, h', o', rfl, sb, hg, hS, hL'⟩ := hb
        exact wpAny_pure (h h' o' sb hg hS hL')) fun _ _ e => e
    refine wpAny_bind (hgw _ ?_)
    split
    · refine wpAny_bind ?_
      rw [hashByValue_scannable 8 rfl]
      refine wpAny_pure ?_
      exact fin _ (SetTable.fits_plain_off F1) led1 rfl
    · rename_i hp
      refine wpAny_bind (wpAny_pure ?_)
      simp only [↓reduceIte]
      exact fin _ F1 led1 (by simpa using hp)
end
end Mine
end
section
open PySem PySem.W PyProof.Rows PySem.Calls PySem.Spec
namespace Mine
namespace MW
theorem slot_ga : Slot "list_iterator" "__getattribute__" "object.__getattribute__" :=
  .of (owner := "object") (n := "__getattribute__") (by rw [typeLookup_type, builtinLookup_eq_fast]; kernel_rfl) (by decide +kernel) (by decide +kernel) (by decide +kernel)
    (by first | exact .inl (by decide +kernel) | exact .inr (by decide +kernel)) (by rw [isSubtype_type]; kernel_rfl)
theorem entry_ga : entryFor table "object.__getattribute__" = some Builtin.«object.__getattribute__» := entryFor_of_tree (by kernel_rfl)
theorem args_ga (a b : Value) : argsOk "object.__getattribute__" ⟨[a, b], []⟩ := by unfold argsOk; kernel_rfl
theorem lk_next : typeLookup (.type "list_iterator") "__next__" = pure (some (.builtin "list_iterator.__next__")) := by rw [typeLookup_type, builtinLookup_eq_fast]; kernel_rfl
theorem type_next : typeOf (.builtin "list_iterator.__next__") = pure (.type "wrapper_descriptor") := by show builtinType _ = _; rw [builtinType_eq_fast]; kernel_rfl
theorem slot_get : Slot "wrapper_descriptor" "__get__" "wrapper_descriptor.__get__" :=
  .of (owner := "wrapper_descriptor") (n := "__get__") (by rw [typeLookup_type, builtinLookup_eq_fast]; kernel_rfl) (by decide +kernel) (by decide +kernel) (by decide +kernel)
    (by first | exact .inl (by decide +kernel) | exact .inr (by decide +kernel)) (by rw [isSubtype_type]; kernel_rfl)
theorem lk_set : typeLookup (.type "wrapper_descriptor") "__set__" = pure none := by rw [typeLookup_type, builtinLookup_eq_fast]; kernel_rfl
theorem lk_del : typeLookup (.type "wrapper_descriptor") "__delete__" = pure none := by rw [typeLookup_type, builtinLookup_eq_fast]; kernel_rfl
theorem entry_get : entryFor table "wrapper_descriptor.__get__" = some Builtin.«wrapper_descriptor.__get__» := entryFor_of_tree (by kernel_rfl)
theorem args_get (a b c : Value) : argsOk "wrapper_descriptor.__get__" ⟨[a, b, c], []⟩ := by unfold argsOk; kernel_rfl
theorem owner_next : ".".intercalate ("list_iterator.__next__".cutAt '.').dropLast = "list_iterator" := by decide +kernel
theorem sub_owner : isSubtype (.type "list_iterator") (.type (".".intercalate ("list_iterator.__next__".cutAt '.').dropLast)) = pure true := by rw [owner_next, isSubtype_type]; kernel_rfl
section
variable {prog : Program} {w : World} {A : Around} {E : Value → Shared → Prop} {h : Heap} {g : Array GenState} {d : Drawn} {t : Nat} {os : OsState} {a : Addr} {o : Obj}
noncomputable abbrev mwObj (it : Addr) : Obj := { cls := .type "method-wrapper", data := .fields #[.builtin "list_iterator.__next__", .ref it] }
noncomputable abbrev itObj (l : Addr) (i : Nat) : Obj := { cls := .type "list_iterator", data := .fields #[.ref l, .int i 0] }
theorem next_entry {tk : Tok} {l : Addr} {i : Nat} {Q : Fin → Shared → Prop} (hx : h.get? a = some (itObj l i)) (hq : Q (.done (.ret (.ref h.objs.size))) ⟨h.push (mwObj a), g, d, t, os⟩) :
    wpAny (model prog w) A (Builtin.«object.__getattribute__» ⟨[.ref a, .str "__next__" tk], []⟩) Q E ⟨h, g, d, t, os⟩ := by
  have hT : (⟨h, g, d, t, os⟩ : Shared).TypeIs (.ref a) "list_iterator" := ⟨_, hx, rfl⟩
  have hT5 : (⟨h, g, d, t, os⟩ : Shared).TypeIs (.builtin "list_iterator.__next__") "wrapper_descriptor" := type_next
  have f4 := lk_next
  have f5 := type_next
  have f6 := slot_get.lookup
  have f7 := lk_set
  have f8 := lk_del
  repeat (any_goals (first | assumption | wp_step))
  refine codeAny_call_builtin slot_get.plain entry_get (slot_get.check _ _ _ _ _ _ _ _ hT5 (args_get _ _ _) ?_)
  have f9 := sub_owner
  repeat (any_goals (first | assumption | wp_step))
theorem next_call {tk : Tok} {l : Addr} {i : Nat} {R : Result → Shared → Prop} (hx : h.get? a = some (itObj l i)) (hq : R (.ok (.ret (.ref h.objs.size))) ⟨h.push (mwObj a), g, d, t, os⟩) :
    codeAny (model prog w) A (.call (.builtin "object.__getattribute__") ⟨[.ref a, .str "__next__" tk], []⟩) R ⟨h, g, d, t, os⟩ :=
  codeAny_call_builtin slot_ga.plain entry_ga (slot_ga.check _ _ _ _ _ _ _ _ (show (⟨h, g, d, t, os⟩ : Shared).TypeIs (.ref a) "list_iterator" from ⟨_, hx, rfl⟩) (args_ga _ _) (next_entry hx hq))
theorem next_by {tk : Tok} {l : Addr} {i : Nat} {Q : Value → Shared → Prop} (hx : h.get? a = some (itObj l i)) (hq : Q (.ref h.objs.size) ⟨h.push (mwObj a), g, d, t, os⟩) : wpAny (model prog w) A (getAttrBy (.ref a) (.str "__next__" tk) true true) Q E ⟨h, g, d, t, os⟩ := by
  have hT : (⟨h, g, d, t, os⟩ : Shared).TypeIs (.ref a) "list_iterator" := ⟨_, hx, rfl⟩
  have f2 := slot_ga.lookup
  have f3 := slot_ga.bind (.ref a)
  repeat (any_goals (first | assumption | wp_step))
  refine next_call hx ?_
  repeat (any_goals (first | assumption | wp_step))
theorem next_attr {l : Addr} {i : Nat} {Q : Value → Shared → Prop} {s : Shared} {h₀ : Heap} {L : Addr} {m : Str → Option Value} {news : Led} (F : Fr h₀ L s.heap m) (N : News h₀ L s.heap news) (hm : (a, itObj l i) ∈ news)
    (h : ∀ x h', Fr h₀ L h' m → News h₀ L h' ((x, mwObj a) :: news) → (∀ p ∈ news, p.1 < x) → Q (.ref x) { s with heap := h', toks := s.toks + 1 }) :
    wpAny (model prog w) A (getAttr (.ref a) (Str.ofString "__next__") true) Q E s := by
  unfold getAttr
  refine wpAny_bind (wpAny_mkText ?_)
  obtain ⟨hp, g, d, t, os⟩ := s
  exact next_by (N _ hm).1 (h _ _ (F.push _) (News.push F N _) fun p hp => Heap.lt_size (N p hp).1)
end
end MW
end Mine
end
section
open PySem PySem.W PyProof.Rows PySem.Calls PySem.Spec
namespace Mine
/-! going through a set -/
theorem owner_set_iterator : Manifest.owners.lookup (String.ofList ['r', 'o', 't', 'a', 'r', 'e', 't', 'i', '_', 't', 'e', 's'].reverse) = some Manifest.sig_set_iterator := by kernel_rfl
theorem entry_set_iter : entryFor table "set.__iter__" = some Builtin.«frozenset.__iter__» :=
  entryFor_alias (id' := "frozenset.__iter__") (by kernel_rfl) rfl (by decide +kernel) (by kernel_rfl)
theorem slot_setit_next : Slot "set_iterator" "__next__" "set_iterator.__next__" :=
  .of (owner := "set_iterator") (n := "__next__") (by rw [typeLookup_type, builtinLookup_eq_fast]; kernel_rfl) (by decide +kernel) (by decide +kernel) (by decide +kernel)
    (by first | exact .inl (by decide +kernel) | exact .inr (by decide +kernel)) (by rw [isSubtype_type]; kernel_rfl)
theorem entry_setit_next : entryFor table "set_iterator.__next__" = some Builtin.«set_iterator.__next__» := entryFor_of_tree (by kernel_rfl)
theorem args_setit_next (a : Value) : argsOk "set_iterator.__next__" ⟨[a], []⟩ := by
  unfold argsOk
  rw [signature?_of (id := "set_iterator.__next__") (n := ['_', '_', 't', 'x', 'e', 'n', '_', '_']) (o := ['r', 'o', 't', 'a', 'r', 'e', 't', 'i', '_', 't', 'e', 's']) (by kernel_rfl) owner_set_iterator]
  kernel_rfl
/-! the orders -/
theorem eraseIdx_perm {α : Type} : ∀ {l : List α} {i : Nat} {x : α}, l[i]? = some x → (x :: l.eraseIdx i).Perm l
  | [], _, _, h => by simp at h
  | a :: l, 0, x, h => by simp at h; subst h; exact List.Perm.refl _
  | a :: l, i + 1, x, h => by
    simp only [List.getElem?_cons_succ] at h
    rw [List.eraseIdx_cons_succ]
    exact (List.Perm.swap a x _).trans ((eraseIdx_perm h).cons a)
theorem pick_go {α : Type} (f : Nat → Nat) : ∀ (n k : Nat) (l : List α) (out : Array α), l.length = n → (pickOrder.go f n k l out).toList.Perm (out.toList ++ l)
  | 0, k, l, out, h => by
    rw [List.eq_nil_of_length_eq_zero h, List.append_nil]; exact List.Perm.refl _
  | n + 1, k, l, out, h => by
    have hlt : f k % l.length < l.length := Nat.mod_lt _ (by omega)
    have e : l[f k % l.length]? = some l[f k % l.length] := List.getElem?_eq_getElem hlt
    unfold pickOrder.go
    rw [e]
    dsimp only
    refine (pick_go f n (k + 1) _ _ (by rw [List.length_eraseIdx]; split <;> omega)).trans ?_
    rw [Array.toList_push, List.append_assoc]
    exact List.Perm.append_left _ (eraseIdx_perm e)
theorem pick_perm {α : Type} (f : Nat → Nat) (xs : Array α) : (pickOrder f xs).toList.Perm xs.toList := by
  have := pick_go f xs.size 0 xs.toList #[] (Array.length_toList)
  simpa [pickOrder] using this
section
variable {prog : Program} {w : World} {A : Around} {E : Value → Shared → Prop} {s : Shared}
theorem wp_choose_any {src : Source} {n : Nat} {Q : Nat → Shared → Prop} (hn : n ≠ 0) (h : ∀ i d, i < n → Q i { s with drawn := d }) : wpAny (model prog w) A (choose src n) Q E s :=
  fun _ _ _ => ⟨hn, h _ _ (Nat.mod_lt _ (by omega))⟩
theorem draw_any {α : Type} : ∀ (n : Nat) (xs : List α) (s : Shared) {Q : List α → Shared → Prop}, xs.length = n → (∀ ys d, ys.Perm xs → Q ys { s with drawn := d }) → wpAny (model prog w) A (drawOrder n xs) Q E s
  | 0, xs, s, Q, hn, h => by
    have : xs = [] := List.eq_nil_of_length_eq_zero hn
    subst this
    exact wpAny_pure (h [] s.drawn (List.Perm.refl _))
  | n + 1, [], s, Q, hn, h => by cases hn
  | n + 1, x :: xs, s, Q, hn, h => by
    unfold drawOrder
    refine wpAny_bind (wp_choose_any (by simp) fun i d hi => ?_)
    have e : (x :: xs)[i]? = some (x :: xs)[i] := List.getElem?_eq_getElem hi
    rw [e]
    dsimp only
    refine wpAny_bind (draw_any n _ _ (by rw [List.length_eraseIdx]; split <;> simp_all) fun ys d' hp => wpAny_pure ?_)
    exact h _ d' ((hp.cons _).trans (eraseIdx_perm e))
/-! the iterator -/
noncomputable def setitO (first : Value) (i : Int) (sa : Addr) (n : Nat) (ep : Nat) : Obj := { cls := .type "set_iterator", data := .fields #[first, .int i 0, .ref sa, .int n 0, .int ep 0] }
/-- how a set iterator finds its way; kl: what else it reads -/
inductive Way (w : World) (sa : Addr) (es : Array (Int × Value)) (ep : Nat) (t : SetTable) (zs : List (Int × Value)) : (Nat → Value) → Led → Prop
  | text : byText w = true → zs = (pickOrder (w.params.setOrder sa ep) es).toList → Way w sa es ep t zs (fun _ => .int 0 0) []
  | none : byText w = false → es.size = 0 → zs = [] → Way w sa es ep t zs (fun _ => .int 0 0) []
  | one (j : Nat) : byText w = false → t.led = true → es.size = 1 → t.place = #[j] → zs = es.toList → Way w sa es ep t zs (fun i => .int (if i = 0 then 0 else (j : Int) + 1) 0) []
  | drawn (T : Addr) (ps : List Nat) : ps.length = es.size → (∀ (i : Nat) (p : Nat), ps[i]? = some p → es[p]? = zs[i]?) → zs.length = es.size → Way w sa es ep t zs (fun _ => .ref T) [(T, { cls := .type "tuple", data := .seq (ps.map fun (i : Nat) => rawInt i).toArray })]
theorem setIter_go {sa : Addr} {o : Obj} {xs : List Str} {es : Array (Int × Value)} {ep : Nat} {t : SetTable} {Q : Value → Shared → Prop} (ho : s.heap.get? sa = some o) (H : SSet prog w o xs es ep t) (hn : xs.length < 1000)
    (h : ∀ zs first kl hp d, zs.Perm es.toList → Way w sa es ep t zs first kl → ((kl = [] ∧ hp = s.heap) ∨ ∃ to : Obj, to.isFreed = false ∧ kl = [(s.heap.objs.size, to)] ∧ hp = s.heap.push to) →
      Q (.ref hp.objs.size) { s with heap := hp.push (setitO (first 0) 0 sa es.size ep), drawn := d }) :
    wpAny (model prog w) A (pyIter (.ref sa)) Q E s := by
  have hT : s.TypeIs (.ref sa) "set" := ⟨_, ho, H.ex.1⟩
  have hsz : es.size < 1000 := by rw [H.size]; exact hn
  refine wpAny_pyIter_slot hT F.slot_set_iter (wpAny_call_entry F.slot_set_iter hT entry_set_iter ?_ (F.args_set_iter_1 _))
  unfold Builtin.«frozenset.__iter__» Builtin.Frozenset.slot0 slotArgs
  simp only [List.isEmpty_nil, Bool.not_true, Bool.false_eq_true, ↓reduceIte, bind_assoc, List.length_nil, bne_self_eq_false]
  unfold Builtin.Frozenset.addrOf Builtin.Frozenset.sizeOf
  refine wpAny_bind (wpAny_pure ?_)
  try dsimp only
  refine wpAny_bind (wpAny_pure ?_)
  refine wpAny_bind (wpAny_bind (wpAny_setEntries_of ho H.data H.fits (wpAny_pure ?_)))
  unfold setDrawn setsByText
  refine wpAny_bind (wpAny_bind (wpAny_setState_of ho H.data H.fits ?_))
  dsimp only
  refine wpAny_bind (wpAny_bind (wpAny_askSetting (wpAny_pure (wpAny_pure ?_))))
  have fin : ∀ zs first kl hp d, zs.Perm es.toList → Way w sa es ep t zs first kl → ((kl = [] ∧ hp = s.heap) ∨ ∃ to : Obj, to.isFreed = false ∧ kl = [(s.heap.objs.size, to)] ∧ hp = s.heap.push to) → hp.get? sa = some o →
      wpAny (model prog w) A.in1 (do
        let e ← setEpoch sa
        ret (← newFields "set_iterator" [first 0, rawInt 0, .ref sa, rawInt es.size, rawInt e])) (fun fin s' => ∃ v, fin = Fin.done (Flow.ret v) ∧ ∃ T' r, s'.TypeIs v T' ∧ typeLookup (.type T') "__next__" = pure (some r) ∧ Q v s') E { s with heap := hp, drawn := d } := by
    intro zs first kl hp d hp1 hw hk hg
    refine wpAny_bind (wpAny_setEpoch_of (s := { s with heap := hp, drawn := d }) hg H.data H.fits ?_)
    unfold newFields
    exact wpAny_bind (wpAny_newObj_type (wpAny_pure ⟨_, rfl, "set_iterator", _, ⟨_, Heap.get?_push_size _ rfl, rfl⟩, slot_setit_next.lookup, h zs first kl hp d hp1 hw hk⟩))
  show wpAny _ _ (if (!byText w && (!t.plain && decide (es.size > 1))) = true then _ else _) _ _ s
  have e0 : s = { s with heap := s.heap, drawn := s.drawn } := by cases s; rfl
  cases hb : byText w with
  | true =>
    simp only [Bool.not_true, Bool.false_and, Bool.false_eq_true, ↓reduceIte]
    refine wpAny_bind (wpAny_pure ?_)
    exact fin _ (fun _ => Value.int 0 0) [] s.heap s.drawn (pick_perm _ _) (.text hb rfl) (.inl ⟨rfl, rfl⟩) ho
  | false =>
    by_cases h2 : es.size > 1
    · have hx : xs ≠ [] := by intro e; rw [e] at H; have := H.size; simp at this; rw [this] at h2; simp at h2
      have hp := H.plain hx
      simp only [hp, Bool.not_false, Bool.true_and, decide_eq_true h2, ↓reduceIte]
      refine wpAny_bind (draw_any _ _ _ (List.length_range) fun ps d hps => ?_)
      have hpl : ps.length = es.size := by rw [hps.length_eq, List.length_range]
      rw [newTuple_is (by rw [List.length_map, hpl, sizeLine_eq]; omega)]
      have ht : ({ cls := .type "tuple", data := .seq (ps.map fun (i : Nat) => rawInt i).toArray } : Obj).isFreed = false := rfl
      generalize hto : ({ cls := .type "tuple", data := .seq (ps.map fun (i : Nat) => rawInt i).toArray } : Obj) = to at ht
      refine wpAny_bind ?_
      show wpAny _ _ (alloc to >>= fun D => pure (Value.ref D)) _ _ _
      refine wpAny_bind (wpAny_alloc (wpAny_pure ?_))
      · skip
        have hm : ∀ (i p : Nat), ps[i]? = some p → p < es.size := fun i p hi => by
          have := hps.mem_iff.mp (List.mem_of_getElem? hi)
          simpa using this
        refine fin (ps.map fun p => es.getD p (0, .none)) (fun _ => .ref s.heap.objs.size) [(s.heap.objs.size, to)] (s.heap.push to) d ?_ (hto ▸ .drawn _ ps hpl (fun i p hi => ?_) (by rw [List.length_map, hpl])) (.inr ⟨to, ht, rfl, rfl⟩) (Heap.get?_push_of_some _ ho)
        · have e1 : es.toList = (List.range es.size).map fun p => es.getD p (0, .none) := by
            apply List.ext_getElem
            · simp
            · intro i h1 h2
              simp at h1
              simp [Array.getD, h1]
          rw [e1]
          exact hps.map _
        · have := hm i p hi
          rw [List.getElem?_map, hi]
          simp [Array.getD, this]
    · have hd : decide (es.size > 1) = false := decide_eq_false h2
      simp only [hd, Bool.and_false, Bool.false_eq_true, ↓reduceIte]
      refine wpAny_bind (wpAny_pure ?_)
      by_cases h0 : es.size = 0
      · have : es.toList = [] := List.eq_nil_of_length_eq_zero (by rw [Array.length_toList]; exact h0)
        exact fin [] (fun _ => Value.int 0 0) [] s.heap s.drawn (by rw [this]) (.none hb h0 rfl) (.inl ⟨rfl, rfl⟩) ho
      · have h1 : es.size = 1 := by omega
        have hf := H.fits
        unfold SetTable.fits at hf
        rw [Bool.and_eq_true, beq_iff_eq, h1] at hf
        have hj : t.place = #[t.place[0]'(by omega)] := by
          apply Array.ext
          · simp [hf.1]
          · intro i hi1 hi2
            simp at hi2
            subst hi2; rfl
        exact fin es.toList (fun i => .int (if i = 0 then 0 else (t.place[0]'(by omega) : Int) + 1) 0) [] s.heap s.drawn (List.Perm.refl _) (.one _ hb (by rw [H.led (by intro e; subst e; have := H.size; rw [h1] at this; cases this), hb]; rfl) h1 hj rfl) (.inl ⟨rfl, rfl⟩) ho
end
end Mine
end
section
open PySem PySem.W PyProof.Rows PySem.Calls PySem.Spec
namespace Mine
namespace MW
theorem check_next {it : Addr} : checkBoundCall "list_iterator.__next__" ⟨[.ref it], []⟩ = pure () := by first | kernel_rfl | rfl
theorem quiet_next {as : Args} : (Code.builtin "list_iterator.__next__" as).quiet = true := Code.quiet_builtin _ (by decide +kernel)
noncomputable abbrev endObj (i : Nat) : Obj := { cls := .type "list_iterator", data := .fields #[.none, .int i 0] }
section
variable {prog : Program} {w : World} {A : Around} {E : Value → Shared → Prop} {s : Shared} {h₀ : Heap} {L : Addr} {m : Str → Option Value} {news : Led} {x it l : Addr} {i n : Nat} {vs : List Value}
theorem call_mw {Q : Value → Shared → Prop} (ho : s.heap.get? x = some (mwObj it))
    (h : wpAny (model prog w) (A.under (.builtin "list_iterator.__next__" ⟨[.ref it], []⟩)) (Builtin.«list_iterator.__next__» ⟨[.ref it], []⟩) (fun fin s' => ∃ v, fin = .done (.ret v) ∧ Q v s') E s) :
    wpAny (model prog w) A (call (.ref x) []) Q E s := by
  refine wpAny_call (codeAny_of_tree ?_)
  show wpAny _ A.in1 (callAny (.ref x) ⟨[], []⟩) _ _ s
  simp only [callAny]
  refine wpAny_bind (wpAny_load ho ?_)
  simp only [show (Value.type "method-wrapper" == Value.type "method" || Value.type "method-wrapper" == Value.type "builtin_function_or_method" || Value.type "method-wrapper" == Value.type "method-wrapper") = true by decide, if_true]
  refine KFB.if_so (by decide) ?_
  refine wpAny_bind (wpAny_of_eq (a := ()) check_next ?_)
  refine wpAny_bind (wpAny_pure (wpAny_pure ?_))
  refine ⟨quiet_next, codeAny_builtin entry_listiter_next (wpAny_mono h (fun fin s' hq => ?_) fun _ _ y => y)⟩
  obtain ⟨v, rfl, hv⟩ := hq
  exact hv
theorem News.fieldsAt {h : Heap} (F : Fr h₀ L h m) (N : News h₀ L h news) (hm : (it, itObj l i) ∈ news) {j : Nat} {v : Value} {o' : Obj} (ho : Obj.mapFields (·.setIfInBounds j v) (itObj l i) = o') (hf : o'.isFreed = false) :
    Fr h₀ L (h.update it (Obj.mapFields (·.setIfInBounds j v))) m ∧ News h₀ L (h.update it (Obj.mapFields (·.setIfInBounds j v))) (setAt news it o') := by
  have hs : Heap.SameBut it h (h.update it (Obj.mapFields (·.setIfInBounds j v))) := Heap.SameBut.update ..
  have hg : (h.update it (Obj.mapFields (·.setIfInBounds j v))).get? it = some o' := by
    have := Heap.get?_update_self (Obj.mapFields (·.setIfInBounds j v)) (N _ hm).1 (by rw [ho]; exact hf)
    rw [this, ho]
  obtain ⟨oL, es, ep, hL, hLd, hLk, hLf⟩ := F.ns
  exact ⟨⟨⟨oL, es, ep, (hs.2 L (Ne.symm (N _ hm).2.1)).trans hL, hLd, hLk, hLf⟩, fun b o e => (hs.2 b (fun q => by have := (N _ hm).2.2; rw [← q, e] at this; cases this)).trans (F.keep b o e), F.above⟩, News.update N hm hs hg⟩
theorem call_item {Q : Value → Shared → Prop} {v : Value} (F : Fr h₀ L s.heap m) (N : News h₀ L s.heap news) (hx : (x, mwObj it) ∈ news) (hi : (it, itObj l i) ∈ news) (hl : (l, seqObj "list" vs n) ∈ news) (hv : vs[i]? = some v)
    (h : ∀ h', Fr h₀ L h' m → News h₀ L h' (setAt news it (itObj l (i + 1))) → Q v { s with heap := h' }) : wpAny (model prog w) A (call (.ref x) []) Q E s := by
  refine call_mw (N _ hx).1 ?_
  show wpAny _ _ (field (.ref it) 0 >>= _) _ _ s
  refine wpAny_bind (wpAny_field (N _ hi).1 rfl (x := .ref l) rfl ?_)
  show wpAny _ _ (if (Value.ref l == Value.none) = true then _ else _) _ _ s
  rw [if_neg (show ¬ ((Value.ref l == Value.none) = true) from Bool.false_ne_true)]
  show wpAny _ _ (field (.ref it) 1 >>= _) _ _ s
  refine wpAny_bind (wpAny_field (N _ hi).1 rfl (x := .int i 0) rfl ?_)
  show wpAny _ _ (seqItems? (.ref l) >>= _) _ _ s
  refine wpAny_bind (wpAny_seqItems (N _ hl).1 rfl ?_)
  simp only [Int.toNat_natCast, List.getElem?_toArray, hv]
  obtain ⟨F', N'⟩ := News.fieldsAt (j := 1) (v := rawInt ((i : Int) + 1)) (o' := itObj l (i + 1)) F N hi (by simp [Obj.mapFields, rawInt]) rfl
  exact wpAny_bind (wpAny_setField (N _ hi).1 rfl (by simp) (wpAny_pure ⟨v, rfl, h _ F' N'⟩))
theorem call_end {Q : Value → Shared → Prop} (F : Fr h₀ L s.heap m) (N : News h₀ L s.heap news) (hh : A.handled = none) (hx : (x, mwObj it) ∈ news) (hi : (it, itObj l i) ∈ news) (hl : (l, seqObj "list" vs n) ∈ news) (hv : vs[i]? = none)
    (h : ∀ h₁ h' e, Fr h₀ L h₁ m → News h₀ L h₁ (setAt news it (endObj i)) → Heap.NewExc h₁ h' e "StopIteration" → E (.ref e) { s with heap := h' }) : wpAny (model prog w) A (call (.ref x) []) Q E s := by
  refine call_mw (N _ hx).1 ?_
  show wpAny _ _ (field (.ref it) 0 >>= _) _ _ s
  refine wpAny_bind (wpAny_field (N _ hi).1 rfl (x := .ref l) rfl ?_)
  show wpAny _ _ (if (Value.ref l == Value.none) = true then _ else _) _ _ s
  rw [if_neg (show ¬ ((Value.ref l == Value.none) = true) from Bool.false_ne_true)]
  show wpAny _ _ (field (.ref it) 1 >>= _) _ _ s
  refine wpAny_bind (wpAny_field (N _ hi).1 rfl (x := .int i 0) rfl ?_)
  show wpAny _ _ (seqItems? (.ref l) >>= _) _ _ s
  refine wpAny_bind (wpAny_seqItems (N _ hl).1 rfl ?_)
  simp only [Int.toNat_natCast, List.getElem?_toArray, hv]
  obtain ⟨F', N'⟩ := News.fieldsAt (j := 0) (v := .none) (o' := endObj i) F N hi (by simp [Obj.mapFields]) rfl
  refine wpAny_bind (wpAny_rule (wpAny_bind (wpAny_setField (N _ hi).1 rfl (by simp) ?_)))
  show wpAny _ _ (newExc (.type "StopIteration") [] >>= _) _ _ _
  refine wpAny_bind ?_
  simp only [newExc, newTuple]
  refine wpAny_bind (wpAny_newObj_type ?_ (by size_fits))
  refine wpAny_bind (m := firstArgMember _ _) (wpAny_of_eq (a := Value.none) (by first | rfl | (simp only [firstArgMember]; rfl)) ?_)
  refine wpAny_newObj_type ?_ (by size_fits)
  simp only [raiseNew]
  refine wpAny_bind (wpAny_handled ?_)
  rw [show (A.under _).handled = none from hh]
  refine wpAny_bind (wpAny_pure (wpAny_throw ?_))
  refine h _ _ _ F' N' ⟨fun b o e => Heap.get?_push_of_some _ (Heap.get?_push_of_some _ e), ?_, _, _, Heap.get?_push_size _ rfl, rfl, rfl⟩
  have e1 : ∀ (h : Heap) (o : Obj), (h.push o).objs.size = h.objs.size + 1 := fun h o => by simp [Heap.push]
  cases q : (s.heap.update it (Obj.mapFields (·.setIfInBounds 0 .none))).get? ((s.heap.update it (Obj.mapFields (·.setIfInBounds 0 .none))).push { cls := .type "tuple", data := .seq ([] : List Value).toArray }).objs.size with
  | none => rfl
  | some o =>
    have := Heap.lt_size q
    rw [e1] at this
    exact absurd (show _ < _ from this) (Nat.not_lt.mpr (Nat.le_succ _))
end
end MW
end Mine
end
section
open PySem PySem.W PyProof.Rows PySem.Calls PySem.Spec
namespace Mine
theorem slot_setit_iter : Slot "set_iterator" "__iter__" "set_iterator.__iter__" :=
  .of (owner := "set_iterator") (n := "__iter__") (by rw [typeLookup_type, builtinLookup_eq_fast]; kernel_rfl) (by decide +kernel) (by decide +kernel) (by decide +kernel)
    (by first | exact .inl (by decide +kernel) | exact .inr (by decide +kernel)) (by rw [isSubtype_type]; kernel_rfl)
theorem entry_setit_iter : entryFor table "set_iterator.__iter__" = some Builtin.«dict_keyiterator.__iter__» :=
  entryFor_alias (id' := "dict_keyiterator.__iter__") (by kernel_rfl) rfl (by decide +kernel) (by kernel_rfl)
theorem args_setit_iter (a : Value) : argsOk "set_iterator.__iter__" ⟨[a], []⟩ := by
  unfold argsOk
  rw [signature?_of (id := "set_iterator.__iter__") (n := ['_', '_', 'r', 'e', 't', 'i', '_', '_']) (o := ['r', 'o', 't', 'a', 'r', 'e', 't', 'i', '_', 't', 'e', 's']) (by kernel_rfl) owner_set_iterator]
  kernel_rfl
section
variable {prog : Program} {w : World} {A : Around} {E : Value → Shared → Prop} {s : Shared}
structure SetItAt (w : World) (sa : Addr) (es : Array (Int × Value)) (ep : Nat) (t : SetTable) (zs : List (Int × Value)) (first : Nat → Value) (kl : Led) (o : Obj) (I : Addr) (i : Nat) (h : Heap) : Prop where
  it : h.get? I = some (setitO (first i) i sa es.size ep)
  set : h.get? sa = some o
  kl : ∀ p ∈ kl, h.get? p.1 = some p.2
theorem below_one (j k : Nat) : SetTable.below #[j] k = if j < k then 1 else 0 := by
  unfold SetTable.below
  show SetTable.below.go #[j] k 1 0 1 = _
  unfold SetTable.below.go
  simp only [Nat.zero_lt_one, ↓reduceIte]
  show (if (#[j] : Array Nat).getD ((0 + 1) / 2) k < k then _ else _) = _
  have : (#[j] : Array Nat).getD ((0 + 1) / 2) k = j := rfl
  rw [this]
  split
  · unfold SetTable.below.go; rfl
  · unfold SetTable.below.go; rfl
/-- what setNext finds, where the way is no tuple -/
theorem setNext_of {sa : Addr} {o : Obj} {xs : List Str} {es : Array (Int × Value)} {ep : Nat} {t : SetTable} {zs : List (Int × Value)} {first : Nat → Value} {kl : Led} {i : Nat} {slot : Int} {tk : Tok} {Q : Option (Value × Nat) → Shared → Prop}
    (W : Way w sa es ep t zs first kl) (H : SSet prog w o xs es ep t) (ho : s.heap.get? sa = some o) (hf : first i = .int slot tk) (hi : i ≤ zs.length)
    (h : ∀ r, (match zs[i]? with | some e => ∃ nx : Nat, r = some (e.2, nx) ∧ first (i + 1) = .int nx 0 | none => r = none) → Q r s) :
    wpAny (model prog w) A (setNext sa slot.toNat (Int.toNat (i : Int)) (Int.toNat (ep : Int))) Q E s := by
  unfold setNext setsByText
  refine wpAny_bind (wpAny_setState_of ho H.data H.fits ?_)
  dsimp only
  refine wpAny_bind (wpAny_bind (wpAny_askSetting (wpAny_pure ?_)))
  simp only [Int.toNat_natCast]
  cases W with
  | text hb hz =>
    have hb' : (model prog w).w.params.followText "set-order" = true := hb
    cases hf
    simp only [hb', ↓reduceIte, bne_self_eq_false, Bool.false_eq_true]
    unfold setWalk setsByText
    refine wpAny_bind (wpAny_bind (wpAny_setState_of ho H.data H.fits ?_))
    dsimp only
    refine wpAny_bind (wpAny_bind (wpAny_askSetting (wpAny_pure ?_)))
    simp only [hb', ↓reduceIte]
    refine wpAny_bind (wpAny_askSetting (wpAny_pure (wpAny_pure (h _ ?_))))
    have e : (pickOrder (w.params.setOrder sa ep) es)[i]? = zs[i]? := by rw [hz, Array.getElem?_toList]
    show (match zs[i]? with | some e => _ | none => _)
    have e' : (pickOrder ((model prog w).w.params.setOrder sa ep) es)[i]? = zs[i]? := e
    rw [e']
    cases zs[i]? with
    | none => rfl
    | some e => exact ⟨0, rfl, rfl⟩
  | none hb h0 hz =>
    have hb' : (model prog w).w.params.followText "set-order" = false := hb
    cases hf
    subst hz
    have he : es = #[] := Array.eq_empty_of_size_eq_zero h0
    subst he
    simp only [hb', Bool.false_eq_true, ↓reduceIte]
    show wpAny _ _ (if (!t.plain && decide ((#[] : Array (Int × Value)).size > 1)) = true then _ else _) _ _ s
    rw [if_neg (by simp)]
    show wpAny _ _ ((if (!t.led && !(#[] : Array (Int × Value)).isEmpty) = true then unsupported _ else pure PUnit.unit) >>= _) _ _ s
    rw [if_neg (by simp)]
    refine wpAny_bind (wpAny_pure (wpAny_pure (h _ ?_)))
    simp
  | one j hb hl h1 hp hz =>
    have hb' : (model prog w).w.params.followText "set-order" = false := hb
    subst hz
    rw [Array.length_toList, h1] at hi
    obtain ⟨e, rfl⟩ : ∃ e, es = #[e] := ⟨es[0]'(by omega), by
      apply Array.ext
      · simp [h1]
      · intro k hk1 hk2
        simp at hk2
        subst hk2; rfl⟩
    simp only [hb', Bool.false_eq_true, ↓reduceIte]
    show wpAny _ _ (if (!t.plain && decide ((#[e] : Array (Int × Value)).size > 1)) = true then _ else _) _ _ s
    rw [if_neg (by simp)]
    show wpAny _ _ ((if (!t.led && !(#[e] : Array (Int × Value)).isEmpty) = true then unsupported _ else pure PUnit.unit) >>= _) _ _ s
    rw [if_neg (by simp [hl])]
    refine wpAny_bind (wpAny_pure (wpAny_pure (h _ ?_)))
    rw [hp, below_one]
    have hi' : i = 0 ∨ i = 1 := by omega
    rcases hi' with rfl | rfl
    · cases hf
      simp
    · cases hf
      have : j < ((j : Int) + 1).toNat := by omega
      simp [this]
  | drawn T ps h1 h2 h3 => cases hf
theorem fields_set (I : Addr) {h : Heap} {vs : Array Value} {k : Nat} {x : Value} (ho : h.get? I = some { cls := .type "set_iterator", data := .fields vs }) :
    (h.update I (Obj.mapFields (·.setIfInBounds k x))).get? I = some { cls := .type "set_iterator", data := .fields (vs.setIfInBounds k x) } :=
  Heap.get?_update_self _ ho rfl
theorem setNext_go {sa I : Addr} {o : Obj} {xs : List Str} {es : Array (Int × Value)} {ep : Nat} {t : SetTable} {zs : List (Int × Value)} {first : Nat → Value} {kl : Led} {i : Nat} {Q : Option Value → Shared → Prop} (hh : A.handled = none)
    (W : Way w sa es ep t zs first kl) (H : SSet prog w o xs es ep t) (S : SetItAt w sa es ep t zs first kl o I i s.heap) (hi : i ≤ zs.length)
    (h1 : ∀ e h', zs[i]? = some e → h'.get? I = some (setitO (first (i + 1)) ((i + 1 : Nat) : Int) sa es.size ep) → Heap.SameBut I s.heap h' → Q (some e.2) { s with heap := h' })
    (h2 : zs[i]? = none → ∀ h', Heap.ExtBut I s.heap h' → Q none { s with heap := h' }) :
    wpAny (model prog w) A (pyNext (.ref I)) Q E s := by
  have hT : s.TypeIs (.ref I) "set_iterator" := ⟨_, S.it, rfl⟩
  unfold pyNext
  refine wpAny_bind (wpAny_attempt (wpAny_callSpecial?_slot (name := Str.ofString "__next__") hT slot_setit_next
    (wpAny_call_entry slot_setit_next hT entry_setit_next ?_ (args_setit_next _))))
  unfold Builtin.«set_iterator.__next__» slotArgs
  simp only [List.isEmpty_nil, Bool.not_true, Bool.false_eq_true, ↓reduceIte, bind_assoc, List.length_nil, bne_self_eq_false]
  refine wpAny_bind (wpAny_pure ?_)
  try dsimp only
  refine wpAny_bind (wpAny_fieldsOf S.it rfl ?_)
  have hset : sa ≠ I := fun e => by
    have := S.set
    rw [e, S.it] at this
    cases this
    have := H.ex.1
    simp [setitO] at this
  dsimp only
  refine wpAny_bind (wpAny_setEntries_of S.set H.data H.fits ?_)
  rw [if_neg (by simp)]
  have stop : zs[i]? = none → ∀ h1, Heap.ExtBut I s.heap h1 → wpAny (model prog w) A.in1 (newExc (Value.type "StopIteration") [] >>= fun e => (raiseNew e : Sem Fin))
      (fun fin s' => ∃ v, fin = Fin.done (Flow.ret v) ∧ wpAny (model prog w) A (pure (some v)) Q E s')
      (fun e s' => wpAny (model prog w) A (do
          let __do_lift ← isInstance e (Value.type "StopIteration")
          if __do_lift = true then pure none else throw e) Q E s') { s with heap := h1 } := by
    intro hz h1 hx
    refine wpAny_bind ?_
    simp only [newExc, newTuple]
    refine wpAny_bind (wpAny_newObj_type ?_ (by size_fits))
    refine wpAny_bind (m := firstArgMember _ _) (wpAny_of_eq (a := Value.none) (by first | rfl | (simp only [firstArgMember]; rfl)) ?_)
    refine wpAny_newObj_type ?_ (by size_fits)
    simp only [raiseNew]
    refine wpAny_bind (wpAny_handled ?_)
    rw [show A.in1.handled = none from hh]
    refine wpAny_bind (wpAny_pure (wpAny_throw ?_))
    refine wpAny_bind (wpAny_isInstance (T := "StopIteration") (b := true) ⟨_, Heap.get?_push_size _ rfl, rfl⟩ isSubtype_stop ?_)
    exact wpAny_pure (h2 hz _ ((hx.push _).push _))
  have hset' : ∀ h', Heap.SameBut I s.heap h' → h'.get? sa = some o := fun h' hs => by rw [hs.2 _ hset]; exact S.set
  have intsW : ∀ slot tk, first i = .int slot tk → wpAny (model prog w) A.in1 (setNext sa slot.toNat (Int.toNat (i : Int)) (Int.toNat (ep : Int)) >>= fun r => match r with
        | some (x, next) => do
          setField (Value.ref I) 0 (rawInt ↑next)
          setField (Value.ref I) 1 (rawInt (↑i + 1))
          ret x
        | none => do
          setField (Value.ref I) 2 Value.none
          let __do_lift ← newExc (Value.type "StopIteration") []
          raiseNew __do_lift) (fun fin s' => ∃ v, fin = Fin.done (Flow.ret v) ∧ wpAny (model prog w) A (pure (some v)) Q E s')
      (fun e s' => wpAny (model prog w) A (do
          let __do_lift ← isInstance e (Value.type "StopIteration")
          if __do_lift = true then pure none else throw e) Q E s') s := by
    intro slot tk hf
    refine wpAny_bind (setNext_of W H S.set hf hi fun r hr => ?_)
    cases hz : zs[i]? with
    | some e =>
      rw [hz] at hr
      refine hideG fun zG zK => ?_
      obtain ⟨nx, rfl, hnx⟩ := hr
      refine zK ?_
      clear zK zG
      dsimp only
      refine wpAny_bind (wpAny_setField S.it rfl (by simp) ?_)
      have g1 := fields_set I (k := 0) (x := rawInt (nx : Int)) S.it
      refine wpAny_bind (wpAny_setField g1 rfl (by simp) ?_)
      have g2 := fields_set I (k := 1) (x := rawInt ((i : Int) + 1)) g1
      refine wpAny_pure ⟨_, rfl, wpAny_pure (h1 e _ hz ?_ ((Heap.SameBut.update ..).trans (Heap.SameBut.update ..)))⟩
      rw [g2, hnx]
      rfl
    | none =>
      rw [hz] at hr
      subst hr
      dsimp only
      refine wpAny_bind (wpAny_setField S.it rfl (by simp) ?_)
      exact stop hz _ (Heap.SameBut.update ..).extBut
  cases W with
  | text hb hz => exact intsW _ _ rfl
  | none hb h0 hz => exact intsW _ _ rfl
  | one j hb hl h1 hp hz => exact intsW _ _ rfl
  | drawn T ps p1 p2 p3 =>
    have hTup := S.kl _ (.head _)
    show wpAny _ _ (seqItems? (.ref T) >>= _) _ _ s
    refine wpAny_bind (wpAny_seqItems hTup rfl ?_)
    dsimp only
    simp only [Int.toNat_natCast]
    cases hz : zs[i]? with
    | some e =>
      have hlt : i < zs.length := (List.getElem?_eq_some_iff.mp hz).1
      have hp : ps[i]? = some ps[i] := List.getElem?_eq_getElem (by omega)
      have hpl : (ps.map fun (i : Nat) => rawInt i).toArray[i]? = some (rawInt (ps[i]'(by omega) : Nat)) := by simp [hp]
      rw [hpl]
      show wpAny _ _ (setNextDrawn sa (Int.toNat ((ps[i]'(by omega) : Nat) : Int)) ep >>= _) _ _ s
      rw [Int.toNat_natCast]
      have he := p2 i _ hp
      rw [hz] at he
      refine wpAny_bind ?_
      unfold setNextDrawn
      refine wpAny_bind (wpAny_setState_of S.set H.data H.fits ?_)
      dsimp only
      simp only [bne_self_eq_false, Bool.false_eq_true, ↓reduceIte, he]
      refine wpAny_pure ?_
      refine wpAny_bind (wpAny_setField S.it rfl (by simp) ?_)
      have g2 := fields_set I (k := 1) (x := rawInt ((i : Int) + 1)) S.it
      refine wpAny_pure ⟨_, rfl, wpAny_pure (h1 e _ hz ?_ (Heap.SameBut.update ..))⟩
      rw [g2]
      rfl
    | none =>
      have hge : zs.length ≤ i := List.getElem?_eq_none_iff.mp hz
      have hpl : (ps.map fun (i : Nat) => rawInt i).toArray[i]? = none := by simp; omega
      rw [hpl]
      dsimp only
      refine wpAny_bind (wpAny_setField S.it rfl (by simp) ?_)
      have g1 := fields_set I (k := 0) (x := rawInt 0) S.it
      refine wpAny_bind (wpAny_setField g1 rfl (by simp) ?_)
      exact stop hz _ ((Heap.SameBut.update ..).trans (Heap.SameBut.update ..)).extBut
theorem setWalks {sa I : Addr} {o : Obj} {xs : List Str} {es : Array (Int × Value)} {ep : Nat} {t : SetTable} {zs : List (Int × Value)} {first : Nat → Value} {kl : Led} (hh : A.handled = none)
    (W : Way w sa es ep t zs first kl) (H : SSet prog w o xs es ep t) (hs : sa ≠ I) (hk : ∀ p ∈ kl, p.1 ≠ I) :
    Walks prog w A I (I :: ((sa, o) :: kl).map (·.1)) [I] zs.length (fun i v => ∃ e, zs[i]? = some e ∧ v = e.2) (fun i h => SetItAt w sa es ep t zs first kl o I i h) where
  sub := fun b hb => by rw [List.mem_singleton.mp hb]; exact .head _
  frame := fun i h h' st up => ⟨up I (.head _) _ st.it, up sa (.tail _ (.head _)) _ st.set, fun p hp => up p.1 (.tail _ (.tail _ (List.mem_map_of_mem hp))) _ (st.kl p hp)⟩
  item := fun i s Q E hi st hQ => by
    refine setNext_go hh W H st (Nat.le_of_lt hi) (fun e h' he hg hsb => ?_) (fun hz => absurd (List.getElem?_eq_none_iff.mp hz) (by omega))
    refine hQ _ h' s.toks ⟨e, he, rfl⟩ ⟨hg, by rw [hsb.2 _ hs]; exact st.set, fun p hp => by rw [hsb.2 _ (hk p hp)]; exact st.kl p hp⟩ fun b o' hb e' => ?_
    rw [hsb.2 b (fun h => hb (List.mem_singleton.mpr h))]; exact e'
  done := fun s Q E st hQ => by
    refine setNext_go hh W H st (Nat.le_refl _) (fun e h' he _ _ => absurd (List.getElem?_eq_some_iff.mp he).1 (by omega)) fun _ h' hx => ?_
    exact hQ h' s.toks fun b o' hb e' => hx b o' (fun h => hb (List.mem_singleton.mpr h)) e'
  self := fun i s Q E st hQ => by
    have hT : s.TypeIs (.ref I) "set_iterator" := ⟨_, st.it, rfl⟩
    refine wpAny_pyIter_slot hT slot_setit_iter (wpAny_call_entry slot_setit_iter hT entry_setit_iter ?_ (args_setit_iter _))
    show wpAny _ _ (ret (.ref I)) _ _ s
    exact wpAny_pure ⟨_, rfl, "set_iterator", _, hT, slot_setit_next.lookup, hQ⟩
end
/-! a for over a set -/
inductive TurnGoK (h₀ : Heap) (L I : Addr) (io : Obj) (kl : Led) (J : (Str → Option Value) → Led → Prop) (s₁ s₂ : Shared) : Prop
  | mk (h' : Heap) (tk : Nat) (m' : Str → Option Value) (news' : Led) : s₂ = { s₁ with heap := h', toks := tk } → Fr h₀ L h' m' → News h₀ L h' ((I, io) :: news') → (∀ p ∈ kl, p ∈ news') → (∀ p ∈ news', p.1 ≠ I) → J m' news' → TurnGoK h₀ L I io kl J s₁ s₂
noncomputable def TurnPostK (h₀ : Heap) (L I : Addr) (io : Obj) (kl : Led) (J : (Str → Option Value) → Led → Prop) (s₁ : Shared) (Q : Flow → Shared → Prop) (f : Flow) (s₂ : Shared) : Prop :=
  match f with
  | .ret v => Q (.ret v) s₂
  | .brk => Q .next s₂
  | _ => TurnGoK h₀ L I io kl J s₁ s₂
section
variable {prog : Program} {w : World} {A : Around} {E : Value → Shared → Prop} {s : Shared} {env : Env} {h₀ : Heap} {x : Str} {body : List Stmt} {Q : Flow → Shared → Prop}
theorem loop_walkK {I : Addr} {kl : Led} {n : Nat} {P : Nat → Value → Prop} {St : Nat → Heap → Prop} {m₀ : Str → Option Value} {news : Led} (W : Walks prog w A I (I :: kl.map (·.1)) [I] n P St) (hex : ∀ i h, St i h → ∃ o, h.get? I = some o)
    (hst : St 0 s.heap) (hI : h₀.get? I = none) (hIL : I ≠ env.locals) (F : Fr h₀ env.locals s.heap m₀) (N : News h₀ env.locals s.heap news) (hl : ∀ p ∈ kl, p ∈ news) (hnI : ∀ p ∈ news, p.1 ≠ I)
    (J : Nat → (Str → Option Value) → Led → Prop) (hj : J 0 m₀ news)
    (turn : ∀ i v m₁ news₁ h tk io, i < n → P i v → J i m₁ news₁ → (∀ p ∈ kl, p ∈ news₁) → (∀ p ∈ news₁, p.1 ≠ I) → Fr h₀ env.locals h (fun y => if y = x then some v else m₁ y) → News h₀ env.locals h ((I, io) :: news₁) →
      wpAny (model prog w) A (execs body env) (TurnPostK h₀ env.locals I io kl (J (i + 1)) { s with heap := h, toks := tk } Q) E { s with heap := h, toks := tk })
    (done : ∀ m₁ news₁ h tk, J n m₁ news₁ → (∀ p ∈ kl, p ∈ news₁) → Fr h₀ env.locals h m₁ → News h₀ env.locals h news₁ → Q .next { s with heap := h, toks := tk }) :
    LoopAtV prog w A h₀ env x body Q E (.ref I) s := by
  refine ⟨I, I :: kl.map (·.1), [I], n, P, St, m₀, news, fun i m₁ news₁ => (∀ p ∈ kl, p ∈ news₁) ∧ J i m₁ news₁, rfl, W, ?_, ?_, ?_, hst, F, N, ⟨hl, hj⟩, ?_, ?_⟩
  · intro hm
    rcases List.mem_cons.mp hm with e | hm
    · exact hIL e.symm
    · obtain ⟨p, hp, e⟩ := List.mem_map.mp hm
      exact (N _ (hl p hp)).2.1 e
  · intro b hb; rw [List.mem_singleton.mp hb]; exact hI
  · intro p hp hm; exact hnI p hp (List.mem_singleton.mp hm)
  · intro i v m₁ news₁ s₁ own zr1 hin hP zr2 hoff hown howng hcov hst₁ F₁ N₁
    refine hideG fun zG zK => ?_
    obtain ⟨hh', tk', rfl⟩ := zr1
    obtain ⟨hl₁, hJ⟩ := zr2
    have hoff' : ∀ p ∈ news₁, p.1 ≠ I := fun p hp e => hoff p hp (List.mem_singleton.mpr e)
    obtain ⟨io, q⟩ := hex _ _ hst₁
    refine zK ?_
    clear zK zG
    have hsub : (I, io) ∈ own := hcov I (.head _) hI io q
    have N₂ : News h₀ env.locals hh' ((I, io) :: news₁) := fun p hp => by
      rcases List.mem_cons.mp hp with rfl | hp
      · exact N₁ _ (List.mem_append_left _ hsub)
      · exact N₁ p (List.mem_append_right _ hp)
    refine wpAny_mono (turn i v m₁ news₁ hh' tk' io hin hP hJ hl₁ hoff' F₁ N₂) (fun f s₂ p => ?_) fun _ _ e => e
    have fin : TurnGoK h₀ env.locals I io kl (J (i + 1)) { s with heap := hh', toks := tk' } s₂ →
        LoopStepU h₀ env.locals [I] own (fun m₁ news₁ => (∀ p ∈ kl, p ∈ news₁) ∧ J (i + 1) m₁ news₁) { s with heap := hh', toks := tk' } .next s₂ := by
      intro zr3
      refine hideG fun zG zK => ?_
      obtain ⟨h', tk, m', news', e, F', N', hl', hn', hj'⟩ := zr3
      refine zK ?_
      clear zK zG
      refine ⟨rfl, h', tk, m', news', e, F', fun p hp => ?_, (fun p hp hm => hn' p hp (List.mem_singleton.mp hm)), hl', hj'⟩
      rcases List.mem_append.mp hp with hp | hp
      · have e3 : hh'.get? p.1 = some p.2 := howng p hp
        rcases List.mem_cons.mp (hown p hp) with e1 | e1
        · rw [e1, q] at e3
          have : p = (I, io) := by obtain ⟨p1, p2⟩ := p; cases e1; cases e3; rfl
          rw [this]; exact N' _ (.head _)
        · obtain ⟨p', hp', e2⟩ := List.mem_map.mp e1
          have h3 := (N₁ p' (List.mem_append_right _ (hl₁ p' hp'))).1
          have h3' : hh'.get? p'.1 = some p'.2 := h3
          rw [← e2, h3'] at e3
          have : p = p' := by obtain ⟨p1, p2⟩ := p; obtain ⟨q1, q2⟩ := p'; cases e2; cases e3; rfl
          rw [this]
          exact N' _ (.tail _ (hl' p' hp'))
      · exact N' p (.tail _ hp)
    cases f with
    | ret v => exact .ret p
    | brk => exact .brk p
    | next => exact .next (fin p)
    | cont => exact .cont (fin p)
  · rintro h' tk m' news' F' N' _ ⟨hl', hJ⟩
    exact done m' news' h' tk hJ hl' F' N'
/-- over a set of strs, in the world's order -/
theorem iter_set {sa : Addr} {so : Obj} {xs : List Str} {m₀ : Str → Option Value} {news : Led} (J : List Str → (Str → Option Value) → Led → Prop)
    (hh : A.handled = none) (F : Fr h₀ env.locals s.heap m₀) (N : News h₀ env.locals s.heap news) (hl : (sa, so) ∈ news) (H : StrSet prog w so xs) (hn : xs.length < 1000) (hj : ∀ l : Led, Ok l → (∀ p ∈ l, ∀ q ∈ news, q.1 ≠ p.1) → J [] m₀ (l ++ news))
    (turn : ∀ pre y ty m₁ news₁ s₁ I io kl, y ∈ xs → J pre m₁ news₁ → (sa, so) ∈ kl → (∀ p ∈ kl, p ∈ news₁) → (∀ p ∈ news₁, p.1 ≠ I) → (∃ h tk d, s₁ = { s with heap := h, toks := tk, drawn := d }) → Fr h₀ env.locals s₁.heap (fun z => if z = x then some (.str y ty) else m₁ z) → News h₀ env.locals s₁.heap ((I, io) :: news₁) →
      wpAny (model prog w) A (execs body env) (TurnPostK h₀ env.locals I io kl (J (pre ++ [y])) s₁ Q) E s₁)
    (done : ∀ pre m₁ news₁ h tk d, (∀ y ∈ xs, y ∈ pre) → J pre m₁ news₁ → (sa, so) ∈ news₁ → Fr h₀ env.locals h m₁ → News h₀ env.locals h news₁ → Q .next { s with heap := h, toks := tk, drawn := d }) :
    wpAny (model prog w) A (pyIter (.ref sa)) (fun it s₂ => LoopAtV prog w A h₀ env x body Q E it s₂) E s := by
  refine hideG fun zG zK => ?_
  obtain ⟨es, ep, t, H⟩ := H
  refine zK ?_
  clear zK zG
  refine setIter_go (N _ hl).1 H hn fun zs first kl hp d hperm hW hk => ?_
  have key : Ok kl → ∀ hp : Heap, Fr h₀ env.locals hp m₀ → News h₀ env.locals hp (kl ++ news) → (∀ p ∈ kl, ∀ q ∈ news, q.1 ≠ p.1) → LoopAtV prog w A h₀ env x body Q E (.ref hp.objs.size) { s with heap := hp.push (setitO (first 0) 0 sa es.size ep), drawn := d } := by
    intro okl hp F1 N1 hoff
    refine hideG fun zG zK => ?_
    obtain ⟨a, b, c, F', N'⟩ := new_facts F1 N1 (setitO (first 0) 0 sa es.size ep)
    refine zK ?_
    clear zK zG
    have hkI : ∀ p ∈ kl, p.1 ≠ hp.objs.size := fun p hp' => c p (List.mem_append_left _ hp')
    have hkeys : ∀ e ∈ zs, ∃ y ty, e.2 = .str y ty ∧ y ∈ xs := fun e he => by
      refine hideG fun zG zK => ?_
      obtain ⟨⟨y, hy, _⟩, _⟩ := H.el e (hperm.mem_iff.mp he)
      obtain ⟨e1, e2⟩ := e
      refine zK ?_
      clear zK zG
      cases e2 with
      | str z tz =>
        have hv' : Value.isStrOf y (.str z tz) = true := hy
        simp only [Value.isStrOf, beq_iff_eq, decide_eq_true_eq] at hv'
        exact ⟨z, tz, rfl, (H.mem z).mpr ⟨_, hperm.mem_iff.mp he, by rw [hv'] at hy ⊢; exact hy⟩⟩
      | _ => simp [PySem.strKind, Value.isStrOf] at hy
    have hso : hp.get? sa = some so := (N1 _ (List.mem_append_right _ hl)).1
    refine loop_walkK (s := { s with heap := hp.push (setitO (first 0) 0 sa es.size ep), drawn := d }) (kl := (sa, so) :: kl) (setWalks hh hW H (c _ (List.mem_append_right _ hl)) hkI) (fun _ _ st => ⟨_, st.it⟩)
      ⟨Heap.get?_push_size _ rfl, Heap.get?_push_of_some _ hso, fun p hp' => Heap.get?_push_of_some _ (N1 p (List.mem_append_left _ hp')).1⟩ a b F' N' (List.forall_mem_cons.mpr ⟨List.mem_append_right _ hl, fun p hp' => List.mem_append_left _ hp'⟩) c
      (fun i m₁ n₁ => ∃ pre, J pre m₁ n₁ ∧ ∀ e ∈ zs.take i, ∀ y ty, e.2 = .str y ty → y ∈ pre) ⟨[], hj kl okl hoff, fun e he => by simp at he⟩ ?_ ?_
    · intro i v m₁ n₁ h tk io hi zr4 zr5 hkl hnI F₁ N₁
      refine hideG fun zG zK => ?_
      obtain ⟨e, he, rfl⟩ := zr4
      obtain ⟨pre, hJ, hpre⟩ := zr5
      obtain ⟨y, ty, ey, hy⟩ := hkeys e (List.mem_of_getElem? he)
      refine zK ?_
      clear zK zG
      rw [ey] at F₁
      refine wpAny_mono (turn pre y ty m₁ n₁ _ _ io _ hy hJ (.head _) hkl hnI ⟨_, _, d, rfl⟩ F₁ N₁) (fun f s₂ hf => ?_) fun _ _ e => e
      have fin : ∀ {s₁ : Shared}, TurnGoK h₀ env.locals hp.objs.size io ((sa, so) :: kl) (J (pre ++ [y])) s₁ s₂ → TurnGoK h₀ env.locals hp.objs.size io ((sa, so) :: kl) (fun m' news' => ∃ pre, J pre m' news' ∧ ∀ e ∈ zs.take (i + 1), ∀ y ty, e.2 = .str y ty → y ∈ pre) s₁ s₂ := by
        intro s₁ zr6
        refine hideG fun zG zK => ?_
        obtain ⟨h', tk', m', news', e1, F2, N2, hl2, hn2, hJ2⟩ := zr6
        refine zK ?_
        clear zK zG
        refine ⟨h', tk', m', news', e1, F2, N2, hl2, hn2, _, hJ2, fun e' he' y' ty' ey' => ?_⟩
        rw [List.take_add_one, he, Option.toList_some] at he'
        rcases List.mem_append.mp he' with h1 | h1
        · exact List.mem_append_left _ (hpre e' h1 y' ty' ey')
        · rw [List.mem_singleton.mp h1, ey] at ey'
          cases ey'
          exact List.mem_append_right _ (List.mem_singleton.mpr rfl)
      cases f with
      | ret v => exact hf
      | brk => exact hf
      | next => exact fin hf
      | cont => exact fin hf
    · rintro m₁ n₁ h tk ⟨pre, hJ, hpre⟩ hkl F₁ N₁
      rw [List.take_length] at hpre
      refine done pre m₁ n₁ h tk d (fun y hy => ?_) hJ (hkl _ (.head _)) F₁ N₁
      refine hideG fun zG zK => ?_
      obtain ⟨e, he, hk⟩ := (H.mem y).mp hy
      obtain ⟨z, tz, ez, hz⟩ := hkeys e (hperm.mem_iff.mpr he)
      refine zK ?_
      clear zK zG
      rw [ez] at hk
      have hv' : Value.isStrOf y (.str z tz) = true := hk
      simp only [Value.isStrOf, beq_iff_eq, decide_eq_true_eq] at hv'
      rw [← hv']
      exact hpre e (hperm.mem_iff.mpr he) z tz ez
  rcases hk with ⟨rfl, rfl⟩ | ⟨to, hto, rfl, rfl⟩
  · exact key Ok.nil s.heap F N fun p hp => nomatch hp
  · refine hideG fun zG zK => ?_
    obtain ⟨a, b, c, F', N'⟩ := new_facts F N to
    refine zK ?_
    clear zK zG
    refine key (Ok.cons_ne Ok.nil fun p hp => nomatch hp) _ F' (fun p hp => ?_) fun p hp q hq => ?_
    · rcases List.mem_cons.mp hp with rfl | hp
      · exact ⟨Heap.get?_push_size _ hto, b, a⟩
      · exact N' p hp
    · rw [List.mem_singleton.mp hp]; exact c q hq
end
end Mine
end
section
open PySem PySem.W PyProof.Rows PySem.Calls PySem.Spec
namespace Mine
/-! what is told, plain -/
structure File where
  parts : List Str
  base : Str
  name : Str
noncomputable def slash : Str := Str.ofString "/"
noncomputable def dot : Str := Str.ofString "."
noncomputable def dirS (ps : List Str) : Str := slash ++ Str.join slash ps
noncomputable def nameS (ps : List Str) : Str := Str.join dot ps
noncomputable def File.path (f : File) : Str := dirS (f.parts ++ [f.base])
noncomputable def File.ask (f : File) : Str := f.path ++ Str.ofString "?"
noncomputable def pieces (f : File) : List Str := Txt.split f.name dot
noncomputable def addUp (j : List Str → Str) (g : G) : List Str → G
  | [a, b] => g.add (j [a, b]) [j [a]]
  | _ => g
/-- the first ask of each name -/
noncomputable abbrev Firsts := List (Str × Str)
noncomputable def Firsts.get (fs : Firsts) (n : Str) : Option Str := (fs.find? fun p => decide (p.1 = n)).map (·.2)
noncomputable def tellG (st : G × Firsts) (f : File) : G := (addUp nameS (addUp dirS st.1 f.parts) (pieces f)).add f.path [dirS f.parts]
noncomputable def tell (st : G × Firsts) (f : File) : G × Firsts := match st.2.get f.name with
  | none => ((tellG st f).add f.ask [f.path, f.name], st.2 ++ [(f.name, f.ask)])
  | some q => if q = f.ask then (tellG st f, st.2) else ((tellG st f).add f.ask [q], st.2)
noncomputable def G0 : G := ⟨[], fun _ => 0, fun _ => []⟩
noncomputable def toldG (fs : List File) (ps : List (List Str)) (ms : List Str) : G := ms.foldl (fun g x => g.add x [x]) (ps.foldl (fun g p => g.add (dirS p) [dirS p]) (fs.foldl tell (G0, [])).1)
/-! bounds -/
theorem add_nodes (g : G) (x : Str) (ys : List Str) : (g.add x ys).nodes.length ≤ g.nodes.length + 1 + ys.length := by
  have := fold_nodes x ys (setNp (g.touch x) x ((g.touch x).np x + ys.length))
  have h2 : (setNp (g.touch x) x ((g.touch x).np x + ys.length)).nodes.length ≤ g.nodes.length + 1 := g.len_touch x
  have : (g.add x ys).nodes.length ≤ (setNp (g.touch x) x ((g.touch x).np x + ys.length)).nodes.length + ys.length := this
  omega
theorem add_succ (g : G) (x : Str) (ys : List Str) (z : Str) : ((g.add x ys).succ z).length ≤ (g.succ z).length + ys.length := by
  have := fold_succ x ys (setNp (g.touch x) x ((g.touch x).np x + ys.length)) z
  have h2 : ((setNp (g.touch x) x ((g.touch x).np x + ys.length)).succ z).length ≤ (g.succ z).length := g.succ_touch x z
  have : ((g.add x ys).succ z).length ≤ ((setNp (g.touch x) x ((g.touch x).np x + ys.length)).succ z).length + ys.length := this
  omega
structure Room (g : G) (k : Nat) : Prop where
  nodes : g.nodes.length ≤ 3 * k
  succ : ∀ z, (g.succ z).length ≤ 3 * k
theorem Room.add {g : G} {k : Nat} (h : Room g k) (x : Str) (ys : List Str) (hy : ys.length ≤ 2) : Room (g.add x ys) (k + 1) :=
  ⟨by have := add_nodes g x ys; have := h.nodes; omega, fun z => by have := add_succ g x ys z; have := h.succ z; omega⟩
theorem Room.mono {g : G} {k k' : Nat} (h : Room g k) (hk : k ≤ k') : Room g k' := ⟨by have := h.nodes; omega, fun z => by have := h.succ z; omega⟩
theorem Room.up {g : G} {k : Nat} (h : Room g k) (j : List Str → Str) (ps : List Str) : Room (addUp j g ps) (k + 1) := by
  unfold addUp
  split
  · exact h.add _ _ (by simp)
  · exact h.mono (Nat.le_succ _)
theorem Room.tell {st : G × Firsts} {k : Nat} (h : Room st.1 k) (f : File) : Room (tell st f).1 (k + 4) := by
  have h1 : Room (tellG st f) (k + 3) := ((h.up dirS f.parts).up nameS (pieces f)).add _ _ (by simp)
  unfold Mine.tell
  split
  · exact h1.add _ _ (by simp)
  · split
    · exact h1.mono (Nat.le_succ _)
    · exact h1.add _ _ (by simp)
theorem Room.tells {st : G × Firsts} {k : Nat} (h : Room st.1 k) : ∀ fs : List File, Room (fs.foldl Mine.tell st).1 (k + 4 * fs.length)
  | [] => h
  | f :: fs => by
    rw [List.foldl_cons]
    exact (Room.tells (h.tell f) fs).mono (by rw [List.length_cons]; omega)
/-! the data in the ledger -/
noncomputable def PartsAt (l : Led) (v : Value) (xs : List Str) : Prop := ∃ a vs n, v = .ref a ∧ (a, seqObj "list" vs n) ∈ l ∧ Strs vs xs
noncomputable def FileAt (l : Led) (v : Value) (f : File) : Prop := ∃ t pv tb tn n, v = .ref t ∧ (t, seqObj "tuple" [pv, .str f.base tb, .str f.name tn] n) ∈ l ∧ PartsAt l pv f.parts
noncomputable def AllAt {α : Type} (R : Value → α → Prop) (vs : List Value) (xs : List α) : Prop := vs.length = xs.length ∧ ∀ (i : Nat) (x : α), xs[i]? = some x → ∃ v, vs[i]? = some v ∧ R v x
theorem PartsAt.sub {l l' : Led} {v : Value} {xs : List Str} (h : PartsAt l v xs) (hs : ∀ p ∈ l, p ∈ l') : PartsAt l' v xs := by
  obtain ⟨a, vs, n, e, hm, hv⟩ := h
  exact ⟨a, vs, n, e, hs _ hm, hv⟩
theorem FileAt.sub {l l' : Led} {v : Value} {f : File} (h : FileAt l v f) (hs : ∀ p ∈ l, p ∈ l') : FileAt l' v f := by
  obtain ⟨t, pv, tb, tn, n, e, hm, hp⟩ := h
  exact ⟨t, pv, tb, tn, n, e, hs _ hm, hp.sub hs⟩
theorem AllAt.sub {α : Type} {R R' : Value → α → Prop} {vs : List Value} {xs : List α} (h : AllAt R vs xs) (hs : ∀ v x, R v x → R' v x) : AllAt R' vs xs :=
  ⟨h.1, fun i x hx => by obtain ⟨v, a, b⟩ := h.2 i x hx; exact ⟨v, a, hs _ _ b⟩⟩
theorem AllAt.at {α : Type} {R : Value → α → Prop} {vs : List Value} {xs : List α} (h : AllAt R vs xs) {i : Nat} {v : Value} (hv : vs[i]? = some v) : ∃ x, xs[i]? = some x ∧ R v x := by
  have hi : i < xs.length := by rw [← h.1]; exact (List.getElem?_eq_some_iff.mp hv).1
  obtain ⟨v', a, b⟩ := h.2 i xs[i] (by simp [hi])
  rw [hv] at a; cases a
  exact ⟨xs[i], by simp [hi], b⟩
theorem AllAt.nil {α : Type} {R : Value → α → Prop} : AllAt R [] ([] : List α) := ⟨rfl, fun _ _ h => by simp at h⟩
theorem AllAt.push {α : Type} {R : Value → α → Prop} {vs : List Value} {xs : List α} (h : AllAt R vs xs) {v : Value} {x : α} (hx : R v x) : AllAt R (vs ++ [v]) (xs ++ [x]) := by
  refine ⟨by simp [h.1], fun i y hy => ?_⟩
  by_cases hi : i < xs.length
  · rw [List.getElem?_append_left hi] at hy
    obtain ⟨t', ht, hr⟩ := h.2 i y hy
    exact ⟨t', by rw [List.getElem?_append_left (by rw [h.1]; exact hi)]; exact ht, hr⟩
  · have hi' : xs.length ≤ i := Nat.le_of_not_lt hi
    rw [List.getElem?_append_right hi'] at hy
    cases hk : i - xs.length with
    | zero =>
      rw [hk] at hy
      simp at hy
      exact ⟨v, by rw [List.getElem?_append_right (by rw [h.1]; exact hi'), h.1, hk]; rfl, hy ▸ hx⟩
    | succ k => rw [hk] at hy; simp at hy
structure FileOk (f : File) : Prop where
  len : f.parts.length = 1 ∨ f.parts.length = 2
  short : ∀ x ∈ f.parts, x.length ≤ 20
  base : f.base.length ≤ 20
  name : f.name.length ≤ 20
  pl : (pieces f).length = 1 ∨ (pieces f).length = 2
theorem Strs.one {vs : List Value} {x : Str} (h : Strs vs [x]) : ∃ t, vs = [.str x t] := by
  obtain ⟨hl, h⟩ := h
  obtain ⟨t, ht⟩ := h 0 x rfl
  cases vs with
  | nil => cases hl
  | cons v r =>
    cases r with
    | nil => exact ⟨t, congrArg (fun z => [z]) (Option.some.inj ht)⟩
    | cons _ _ => cases hl
theorem Strs.two {vs : List Value} {x y : Str} (h : Strs vs [x, y]) : ∃ t u, vs = [.str x t, .str y u] := by
  obtain ⟨hl, h⟩ := h
  obtain ⟨t, ht⟩ := h 0 x rfl
  obtain ⟨u, hu⟩ := h 1 y rfl
  cases vs with
  | nil => cases hl
  | cons v r =>
    cases r with
    | nil => cases hl
    | cons w q =>
      cases q with
      | nil =>
        obtain rfl : v = .str x t := Option.some.inj ht
        obtain rfl : w = .str y u := Option.some.inj hu
        exact ⟨t, u, rfl⟩
      | cons _ _ => cases hl
theorem Strs.mk1 (x : Str) (t : Tok) : Strs [.str x t] [x] := Strs.nil.push x t
theorem Strs.mk2 (x y : Str) (t u : Tok) : Strs [.str x t, .str y u] [x, y] := (Strs.mk1 x t).push y u
theorem Strs.mk3 (x y z : Str) (t u v : Tok) : Strs [.str x t, .str y u, .str z v] [x, y, z] := (Strs.mk2 x y t u).push z v
theorem Strs.mkV {l : List (Str × Tok)} {xs : List Str} (h : l.map (·.1) = xs) : Strs (strValues l) xs := by
  subst h
  refine ⟨by unfold strValues; simp, fun i x hx => ?_⟩
  rw [List.getElem?_map] at hx
  cases q : l[i]? with
  | none => rw [q] at hx; cases hx
  | some p =>
    rw [q] at hx
    simp at hx
    refine ⟨p.2, ?_⟩
    unfold strValues
    rw [List.getElem?_map, q]
    simp [hx]
theorem len1 {α : Type} {l : List α} (h : l.length = 1) : ∃ a, l = [a] := by
  match l, h with
  | [a], _ => exact ⟨a, rfl⟩
theorem len2 {α : Type} {l : List α} (h : l.length = 2) : ∃ a b, l = [a, b] := by
  match l, h with
  | [a, b], _ => exact ⟨a, b, rfl⟩
section
variable {prog : Program} {w : World} {A : Around} {E : Value → Shared → Prop} {s : Shared} {h₀ : Heap} {L : Addr} {m : Str → Option Value} {news : Led}
theorem my_add {Q : Value → Shared → Prop} {x y : Str} {t u : Tok} (hs : x.length + y.length ≤ 10000) (h : ∀ t' k, (x ++ y).length = x.length + y.length → Q (.str (x ++ y) t') { s with toks := k }) : wpAny (model prog w) A (binaryOp .Add (.str x t) (.str y u)) Q E s :=
  KXadd.add (K := x.length) (L := y.length) (Nat.le_refl _) (Nat.le_refl _) (by omega) fun t' k hk => h t' k (by omega)
theorem split_lst {Q : Value → Shared → Prop} {x y : Str} {t u : Tok} (F : Fr h₀ L s.heap m) (N : News h₀ L s.heap news) (hy : (y.length == 0) = false) (hx : x.length ≤ 1000)
    (h : ∀ D vs h' k, Strs vs (Txt.split x y) → (∀ a ∈ Txt.split x y, a.length ≤ x.length) → Fr h₀ L h' m → News h₀ L h' ((D, seqObj "list" vs 0) :: news) → (∀ p ∈ news, p.1 < D) → Q (.ref D) { s with heap := h', toks := k }) :
    wpAny (model prog w) A (call (.builtin "str.split") [.str x t, .str y u]) Q E s :=
  splitN1A F N hy (fun l h' k e _ hl _ F' N' => h _ (strValues l) h' k (Strs.mkV e) (by rw [← e]; exact hl) F' N' fun p hp => Heap.lt_size (N p hp).1) (by rw [sizeLine_eq]; omega)
end
end Mine
end
section
open PySem PySem.W PyProof.Rows PySem.Calls PySem.Spec
namespace Mine
/-! the graph that a sorter is told, plain -/
structure GOkE (g : G) (x : Str) (n : Nat) : Prop where
  nodup : g.nodes.Nodup
  cl : ∀ y ∈ g.nodes, ∀ z ∈ g.succ y, z ∈ g.nodes
  out : ∀ y, y ∉ g.nodes → g.succ y = []
  np : ∀ y ∈ g.nodes, g.np y = ((g.nodes.flatMap g.succ).count y : Int) + (if y = x then (n : Int) else 0)
  mem : x ∈ g.nodes
structure GOk (g : G) : Prop where
  nodup : g.nodes.Nodup
  cl : ∀ y ∈ g.nodes, ∀ z ∈ g.succ y, z ∈ g.nodes
  out : ∀ y, y ∉ g.nodes → g.succ y = []
  np : ∀ y ∈ g.nodes, g.np y = ((g.nodes.flatMap g.succ).count y : Int)
theorem GOk.zero : GOk G0 := ⟨List.nodup_nil, (fun _ h => nomatch h), fun _ _ => rfl, fun _ h => nomatch h⟩
theorem flat_congr {f f' : Str → List Str} : ∀ {l : List Str}, (∀ y ∈ l, f y = f' y) → l.flatMap f = l.flatMap f'
  | [], _ => rfl
  | a :: l, h => by rw [List.flatMap_cons, List.flatMap_cons, h a (.head _), flat_congr fun y hy => h y (.tail _ hy)]
theorem touch_nodes (g : G) (y z : Str) : z ∈ (g.touch y).nodes ↔ z ∈ g.nodes ∨ z = y := by
  by_cases h : y ∈ g.nodes
  · rw [touch_in h]
    exact ⟨.inl, fun h' => h'.elim id fun e => e ▸ h⟩
  · rw [touch_out h]
    simp
theorem touch_succ {g : G} (ho : ∀ y, y ∉ g.nodes → g.succ y = []) (y z : Str) : (g.touch y).succ z = g.succ z := by
  by_cases h : y ∈ g.nodes
  · rw [touch_in h]
  · rw [touch_out h]
    show (if z = y then [] else g.succ z) = _
    split
    · rename_i e; rw [e, ho y h]
    · rfl
theorem touch_ok {g : G} {e : Str → Int} (hn : g.nodes.Nodup) (hc : ∀ y ∈ g.nodes, ∀ z ∈ g.succ y, z ∈ g.nodes) (ho : ∀ y, y ∉ g.nodes → g.succ y = []) (hp : ∀ y ∈ g.nodes, g.np y = ((g.nodes.flatMap g.succ).count y : Int) + e y) (y : Str) (he : y ∉ g.nodes → e y = 0) :
    (g.touch y).nodes.Nodup ∧ (∀ u ∈ (g.touch y).nodes, ∀ z ∈ (g.touch y).succ u, z ∈ (g.touch y).nodes) ∧ (∀ u, u ∉ (g.touch y).nodes → (g.touch y).succ u = []) ∧ ∀ u ∈ (g.touch y).nodes, (g.touch y).np u = (((g.touch y).nodes.flatMap (g.touch y).succ).count u : Int) + e u := by
  by_cases h : y ∈ g.nodes
  · rw [touch_in h]; exact ⟨hn, hc, ho, hp⟩
  · have hs := touch_succ ho y
    refine ⟨?_, fun u hu z hz => ?_, fun u hu => ?_, fun u hu => ?_⟩
    · rw [touch_out h]
      show (g.nodes ++ [y]).Nodup
      rw [List.nodup_append]
      exact ⟨hn, by simp, fun a ha b hb e => h (by rw [List.mem_singleton.mp hb] at e; exact e ▸ ha)⟩
    · rw [hs] at hz
      have hu' : u ∈ g.nodes := by
        by_cases h' : u ∈ g.nodes
        · exact h'
        · rw [ho u h'] at hz; cases hz
      exact (touch_nodes g y z).mpr (.inl (hc u hu' z hz))
    · rw [hs]
      exact ho u fun h' => hu ((touch_nodes g y u).mpr (.inl h'))
    · have hfl : (g.touch y).nodes.flatMap (g.touch y).succ = g.nodes.flatMap g.succ := by
        rw [flat_congr (f' := g.succ) fun z _ => hs z, touch_out h]
        show (g.nodes ++ [y]).flatMap g.succ = _
        rw [List.flatMap_append, List.flatMap_singleton, ho y h, List.append_nil]
      rw [hfl]
      rcases (touch_nodes g y u).mp hu with hu' | rfl
      · rw [← hp u hu', touch_out h]
        show (if u = y then 0 else g.np u) = _
        rw [if_neg fun e : u = y => h (e ▸ hu')]
      · rw [he h, touch_out h]
        show (if u = u then 0 else g.np u) = _
        rw [if_pos rfl]
        have : (g.nodes.flatMap g.succ).count u = 0 := List.count_eq_zero.mpr fun hm => by
          obtain ⟨w, hw, hz⟩ := List.mem_flatMap.mp hm
          exact h (hc w hw u hz)
        rw [this]; rfl
theorem count_set {f : Str → List Str} {x y z : Str} : ∀ {l : List Str}, l.Nodup → y ∈ l → (l.flatMap fun w => if w = y then f y ++ [x] else f w).count z = (l.flatMap f).count z + (if z = x then 1 else 0)
  | [], _, h => nomatch h
  | a :: l, hn, h => by
    obtain ⟨ha, hl⟩ := List.nodup_cons.mp hn
    rw [List.flatMap_cons, List.flatMap_cons, List.count_append, List.count_append]
    by_cases e : a = y
    · subst e
      rw [if_pos rfl, List.count_append, flat_congr (f' := f) (l := l) fun w hw => if_neg fun e : w = a => ha (e ▸ hw)]
      have : List.count z [x] = if z = x then 1 else 0 := by
        rw [List.count_singleton]
        by_cases q : z = x
        · simp [q]
        · have : ¬ x = z := fun e => q e.symm
          simp [q, this]
      omega
    · have hy : y ∈ l := by
        rcases List.mem_cons.mp h with h | h
        · exact absurd h.symm e
        · exact h
      rw [if_neg e, count_set hl hy]
      omega
theorem step_ok {g : G} {x : Str} {n : Nat} (H : GOkE g x (n + 1)) (y : Str) : GOkE (addStep x g y) x n ∧ (∀ z, z ∈ (addStep x g y).nodes ↔ z ∈ g.nodes ∨ z = y) ∧ ∀ u z, z ∈ (addStep x g y).succ u ↔ z ∈ g.succ u ∨ (z = x ∧ u = y) := by
  refine hideG fun zG zK => ?_
  obtain ⟨a, b, c, d⟩ := touch_ok (e := fun u => if u = x then ((n + 1 : Nat) : Int) else 0) H.nodup H.cl H.out H.np y (fun h => by
    show (if y = x then _ else _) = _
    rw [if_neg fun e : y = x => h (e ▸ H.mem)])
  refine zK ?_
  clear zK zG
  have hs := touch_succ H.out y
  have hy := mem_touch g y
  have hx : x ∈ (g.touch y).nodes := (touch_nodes g y x).mpr (.inl H.mem)
  refine ⟨⟨a, fun u hu z hz => ?_, fun u hu => ?_, fun u hu => ?_, hx⟩, touch_nodes g y, fun u z => ?_⟩
  · have hz' : z ∈ (if u = y then (g.touch y).succ y ++ [x] else (g.touch y).succ u) := hz
    split at hz'
    · rename_i e
      rcases List.mem_append.mp hz' with hz' | hz'
      · exact b y hy z hz'
      · rw [List.mem_singleton.mp hz']; exact hx
    · exact b u hu z hz'
  · show (if u = y then (g.touch y).succ y ++ [x] else (g.touch y).succ u) = []
    rw [if_neg fun e : u = y => hu (e ▸ hy)]
    exact c u hu
  · show (g.touch y).np u = _
    rw [d u hu]
    show _ = ((((g.touch y).nodes.flatMap fun w => if w = y then (g.touch y).succ y ++ [x] else (g.touch y).succ w).count u : Nat) : Int) + _
    rw [count_set a hy]
    split <;> (simp only [Int.natCast_add]; omega)
  · show z ∈ (if u = y then (g.touch y).succ y ++ [x] else (g.touch y).succ u) ↔ _
    split
    · rename_i e
      rw [List.mem_append, List.mem_singleton, hs, e]
      exact ⟨fun h => h.imp id fun h => ⟨h, rfl⟩, fun h => h.imp id (·.1)⟩
    · rename_i e
      rw [hs]
      exact ⟨.inl, fun h => h.elim id fun h => absurd h.2 e⟩
theorem steps_ok (x : Str) : ∀ (ys : List Str) (g : G), GOkE g x ys.length → GOkE (ys.foldl (addStep x) g) x 0 ∧ (∀ z, z ∈ (ys.foldl (addStep x) g).nodes ↔ z ∈ g.nodes ∨ z ∈ ys) ∧ ∀ u z, z ∈ (ys.foldl (addStep x) g).succ u ↔ z ∈ g.succ u ∨ (z = x ∧ u ∈ ys)
  | [], g, H => ⟨H, fun z => by simp, fun u z => by simp⟩
  | y :: ys, g, H => by
    refine hideG fun zG zK => ?_
    obtain ⟨a, b, c⟩ := step_ok (n := ys.length) H y
    obtain ⟨a', b', c'⟩ := steps_ok x ys _ a
    refine zK ?_
    clear zK zG
    rw [List.foldl_cons]
    refine ⟨a', fun z => ?_, fun u z => ?_⟩
    · rw [b', b, List.mem_cons, or_assoc]
    · rw [c', c, List.mem_cons, or_assoc]
      refine or_congr Iff.rfl ?_
      exact ⟨fun h => h.elim (fun h => ⟨h.1, .inl h.2⟩) fun h => ⟨h.1, .inr h.2⟩, fun h => h.2.elim (fun e => .inl ⟨h.1, e⟩) fun e => .inr ⟨h.1, e⟩⟩
theorem GOk.add {g : G} (H : GOk g) (x : Str) (ys : List Str) : GOk (g.add x ys) ∧ (∀ z, z ∈ (g.add x ys).nodes ↔ z ∈ g.nodes ∨ z = x ∨ z ∈ ys) ∧ ∀ u z, z ∈ (g.add x ys).succ u ↔ z ∈ g.succ u ∨ (z = x ∧ u ∈ ys) := by
  refine hideG fun zG zK => ?_
  obtain ⟨a, b, c, d⟩ := touch_ok (e := fun _ => 0) H.nodup H.cl H.out (fun y hy => by rw [H.np y hy]; simp) x fun _ => rfl
  have hx := mem_touch g x
  have E : GOkE (setNp (g.touch x) x ((g.touch x).np x + ys.length)) x ys.length := by
    refine ⟨a, b, c, fun u hu => ?_, hx⟩
    show (if u = x then (g.touch x).np x + ys.length else (g.touch x).np u) = _
    have := d u hu
    simp only [Int.add_zero] at this
    split
    · rename_i e; subst e; rw [this]; rfl
    · rw [this]; simp; rfl
  obtain ⟨a', b', c'⟩ := steps_ok x ys _ E
  refine zK ?_
  clear zK zG
  refine ⟨⟨a'.nodup, a'.cl, a'.out, fun y hy => by have h9 := a'.np y hy; rw [show (if y = x then ((0 : Nat) : Int) else 0) = 0 by split <;> rfl, Int.add_zero] at h9; exact h9⟩, fun z => ?_, fun u z => ?_⟩
  · refine (b' z).trans ?_
    show (z ∈ (g.touch x).nodes ∨ _) ↔ _
    rw [touch_nodes, or_assoc]
  · refine (c' u z).trans ?_
    show (z ∈ (g.touch x).succ u ∨ _) ↔ _
    rw [touch_succ H.out]
end Mine
end
section
open PySem PySem.W PyProof.Rows PySem.Calls PySem.Spec
namespace Mine
/-! the edges of what is told -/
noncomputable def Up (j : List Str → Str) (ps : List Str) (y x : Str) : Prop := ∃ a b, ps = [a, b] ∧ y = j [a] ∧ x = j [a, b]
theorem up_ok {g : G} (H : GOk g) (j : List Str → Str) (ps : List Str) : GOk (addUp j g ps) ∧ ∀ u z, z ∈ (addUp j g ps).succ u ↔ z ∈ g.succ u ∨ Up j ps u z := by
  unfold addUp
  split
  · rename_i a b
    obtain ⟨h1, _, h2⟩ := H.add (j [a, b]) [j [a]]
    refine ⟨h1, fun u z => (h2 u z).trans (or_congr Iff.rfl ?_)⟩
    rw [List.mem_singleton]
    exact ⟨fun h => ⟨a, b, rfl, h.2, h.1⟩, fun ⟨a', b', e, h1, h2⟩ => by cases e; exact ⟨h2, h1⟩⟩
  · rename_i hne
    exact ⟨H, fun u z => ⟨.inl, fun h => h.elim id fun ⟨a, b, e, _⟩ => absurd e (hne a b)⟩⟩
noncomputable def firstOf (fs : List File) (n : Str) : Option File := fs.find? fun f => decide (f.name = n)
theorem firstOf_some {fs : List File} {n : Str} {f : File} (h : firstOf fs n = some f) : f ∈ fs ∧ f.name = n :=
  ⟨List.mem_of_find?_eq_some h, by simpa using List.find?_some h⟩
noncomputable def FileE (f : File) (y x : Str) : Prop := Up dirS f.parts y x ∨ Up nameS (pieces f) y x ∨ (y = dirS f.parts ∧ x = f.path)
noncomputable def AskE (fs : List File) (f : File) (y x : Str) : Prop := ∃ f0, firstOf fs f.name = some f0 ∧ x = f.ask ∧ ((f0.ask = f.ask ∧ (y = f0.path ∨ y = f0.name)) ∨ (f0.ask ≠ f.ask ∧ y = f0.ask))
noncomputable def Ed (fs : List File) (y x : Str) : Prop := (∃ f ∈ fs, FileE f y x) ∨ ∃ f ∈ fs, AskE fs f y x
structure Told (fs : List File) (st : G × Firsts) : Prop where
  ok : GOk st.1
  ed : ∀ y x, x ∈ st.1.succ y ↔ Ed fs y x
  first : ∀ n, st.2.get n = (firstOf fs n).map File.ask
theorem first_snoc (fs : List File) (f : File) (n : Str) : firstOf (fs ++ [f]) n = match firstOf fs n with | some g => some g | none => if f.name = n then some f else none := by
  unfold firstOf
  rw [List.find?_append]
  cases List.find? (fun f => decide (f.name = n)) fs with
  | some g => rfl
  | none =>
    by_cases h : f.name = n
    · simp [h]
    · simp [h]
theorem get_snoc (fs : Firsts) (a b n : Str) : Firsts.get (fs ++ [(a, b)]) n = match fs.get n with | some q => some q | none => if a = n then some b else none := by
  unfold Firsts.get
  rw [List.find?_append]
  cases List.find? (fun p => decide (p.1 = n)) fs with
  | some g => rfl
  | none =>
    by_cases h : a = n
    · simp [h]
    · simp [h]
theorem ask_old {fs : List File} {f g : File} (hg : g ∈ fs) (y x : Str) : AskE (fs ++ [f]) g y x ↔ AskE fs g y x := by
  have : ∃ f0, firstOf fs g.name = some f0 := by
    cases h : firstOf fs g.name with
    | some f0 => exact ⟨f0, rfl⟩
    | none =>
      have := List.find?_eq_none.mp h g hg
      simp at this
  obtain ⟨f0, h0⟩ := this
  unfold AskE
  rw [first_snoc, h0]
theorem Told.step {fs : List File} {st : G × Firsts} (H : Told fs st) (f : File) : Told (fs ++ [f]) (tell st f) := by
  obtain ⟨h1, e1⟩ := up_ok H.ok dirS f.parts
  obtain ⟨h2, e2⟩ := up_ok h1 nameS (pieces f)
  obtain ⟨h3, _, e3⟩ := h2.add f.path [dirS f.parts]
  have e4 : ∀ y x, x ∈ (tellG st f).succ y ↔ Ed fs y x ∨ FileE f y x := fun y x => by
    refine (e3 y x).trans ?_
    rw [e2, e1, H.ed, List.mem_singleton]
    unfold FileE
    constructor
    · rintro (((h | h) | h) | h)
      · exact .inl h
      · exact .inr (.inl h)
      · exact .inr (.inr (.inl h))
      · exact .inr (.inr (.inr ⟨h.2, h.1⟩))
    · rintro (h | h | h | h)
      · exact .inl (.inl (.inl h))
      · exact .inl (.inl (.inr h))
      · exact .inl (.inr h)
      · exact .inr ⟨h.2, h.1⟩
  -- all edges but the new file's ask
  have fin : ∀ y x, Ed (fs ++ [f]) y x ↔ (Ed fs y x ∨ FileE f y x) ∨ AskE (fs ++ [f]) f y x := fun y x => by
    unfold Ed
    constructor
    · rintro (⟨g, hg, h⟩ | ⟨g, hg, h⟩)
      · rcases List.mem_append.mp hg with hg | hg
        · exact .inl (.inl (.inl ⟨g, hg, h⟩))
        · rw [List.mem_singleton.mp hg] at h; exact .inl (.inr h)
      · rcases List.mem_append.mp hg with hg | hg
        · exact .inl (.inl (.inr ⟨g, hg, (ask_old hg y x).mp h⟩))
        · rw [List.mem_singleton.mp hg] at h; exact .inr h
    · rintro (((⟨g, hg, h⟩ | ⟨g, hg, h⟩) | h) | h)
      · exact .inl ⟨g, List.mem_append_left _ hg, h⟩
      · exact .inr ⟨g, List.mem_append_left _ hg, (ask_old hg y x).mpr h⟩
      · exact .inl ⟨f, List.mem_append_right _ (.head _), h⟩
      · exact .inr ⟨f, List.mem_append_right _ (.head _), h⟩
  have hget := H.first f.name
  unfold tell
  cases h0 : firstOf fs f.name with
  | none =>
    rw [h0] at hget
    rw [hget]
    obtain ⟨h5, _, e5⟩ := h3.add f.ask [f.path, f.name]
    refine ⟨h5, fun y x => ?_, fun n => ?_⟩
    · refine (e5 y x).trans ?_
      rw [fin]
      refine or_congr (e4 y x) ?_
      unfold AskE
      rw [first_snoc, h0]
      simp only [if_true, List.mem_cons, List.not_mem_nil, or_false]
      constructor
      · rintro ⟨rfl, h⟩
        exact ⟨f, rfl, rfl, .inl ⟨rfl, h⟩⟩
      · rintro ⟨f0, e, rfl, h⟩
        cases e
        rcases h with h | h
        · exact ⟨rfl, h.2⟩
        · exact absurd rfl h.1
    · show Firsts.get (st.2 ++ [(f.name, f.ask)]) n = _
      rw [get_snoc, H.first, first_snoc]
      cases firstOf fs n with
      | some g => rfl
      | none =>
        dsimp only [Option.map_none]
        split <;> rfl
  | some f0 =>
    rw [h0] at hget
    have hf : ∀ n, Firsts.get st.2 n = (firstOf (fs ++ [f]) n).map File.ask := fun n => by
      rw [H.first, first_snoc]
      cases hn : firstOf fs n with
      | some g => rfl
      | none =>
        dsimp only
        rw [if_neg fun e : f.name = n => by rw [e, hn] at h0; cases h0]
    rw [hget]
    dsimp only [Option.map_some]
    by_cases hq : f0.ask = f.ask
    · rw [if_pos hq]
      refine ⟨h3, fun y x => ?_, hf⟩
      rw [fin]
      refine (e4 y x).trans ⟨.inl, ?_⟩
      rintro (h | h)
      · exact h
      · obtain ⟨f1, e, rfl, h⟩ := h
        rw [first_snoc, h0] at e
        cases e
        rcases h with h | h
        · obtain ⟨m0, n0⟩ := firstOf_some h0
          exact .inl (.inr ⟨f0, m0, f0, by rw [n0]; exact h0, hq.symm, .inl ⟨rfl, h.2⟩⟩)
        · exact absurd hq h.1
    · rw [if_neg hq]
      obtain ⟨h5, _, e5⟩ := h3.add f.ask [f0.ask]
      refine ⟨h5, fun y x => ?_, hf⟩
      refine (e5 y x).trans ?_
      rw [fin]
      refine or_congr (e4 y x) ?_
      unfold AskE
      rw [first_snoc, h0]
      rw [List.mem_singleton]
      constructor
      · rintro ⟨rfl, rfl⟩
        exact ⟨f0, rfl, rfl, .inr ⟨hq, rfl⟩⟩
      · rintro ⟨f1, e, rfl, h⟩
        cases e
        rcases h with h | h
        · exact absurd h.1 hq
        · exact ⟨rfl, h.2⟩
theorem Told.all : ∀ (gs fs : List File) (st : G × Firsts), Told fs st → Told (fs ++ gs) (gs.foldl tell st)
  | [], fs, st, H => by rw [List.append_nil]; exact H
  | g :: gs, fs, st, H => by
    have := Told.all gs (fs ++ [g]) _ (H.step g)
    rw [List.append_assoc] at this
    exact this
theorem selfs_ok {α : Type} (j : α → Str) : ∀ (ps : List α) (g : G), GOk g → GOk (ps.foldl (fun g p => g.add (j p) [j p]) g) ∧ ∀ y x, x ∈ (ps.foldl (fun g p => g.add (j p) [j p]) g).succ y ↔ x ∈ g.succ y ∨ ∃ p ∈ ps, y = j p ∧ x = j p
  | [], g, H => ⟨H, fun y x => by simp⟩
  | p :: ps, g, H => by
    obtain ⟨h1, _, e1⟩ := H.add (j p) [j p]
    obtain ⟨h2, e2⟩ := selfs_ok j ps _ h1
    rw [List.foldl_cons]
    refine ⟨h2, fun y x => (e2 y x).trans ?_⟩
    rw [e1, List.mem_singleton]
    constructor
    · rintro ((h | h) | ⟨q, hq, h⟩)
      · exact .inl h
      · exact .inr ⟨p, .head _, h.2, h.1⟩
      · exact .inr ⟨q, .tail _ hq, h⟩
    · rintro (h | ⟨q, hq, h⟩)
      · exact .inl (.inl h)
      · rcases List.mem_cons.mp hq with rfl | hq
        · exact .inl (.inr ⟨h.2, h.1⟩)
        · exact .inr ⟨q, hq, h⟩
theorem told_all (fs : List File) (ps : List (List Str)) (ms : List Str) : GOk (toldG fs ps ms) ∧ ∀ y x, x ∈ (toldG fs ps ms).succ y ↔ Ed fs y x ∨ (∃ p ∈ ps, y = dirS p ∧ x = dirS p) ∨ ∃ m ∈ ms, y = m ∧ x = m := by
  have H : Told fs (fs.foldl tell (G0, [])) := Told.all fs [] (G0, []) ⟨GOk.zero, fun y x => ⟨(fun h => nomatch h), fun h => by rcases h with ⟨_, h, _⟩ | ⟨_, h, _⟩ <;> cases h⟩, fun n => rfl⟩
  obtain ⟨h1, e1⟩ := selfs_ok dirS ps _ H.ok
  obtain ⟨h2, e2⟩ := selfs_ok id ms _ h1
  refine ⟨h2, fun y x => (e2 y x).trans ?_⟩
  rw [e1, H.ed, or_assoc]
  exact Iff.rfl
end Mine
end
namespace Mine
section
open PySem PySem.W PyProof.Rows PySem.Calls PySem.Spec
theorem fill_all : PySem.Challenge.rw_oh0056_01 = PySem.Challenge.rw_oh0056_01 ∧ K = K := by
  k_fill
  exact ⟨rfl, rfl⟩
local macro_rules | `(tactic| walk_at "pyIter ref") => `(tactic| k_extra "mine pyIter")
local macro_rules | `(tactic| ktr_room) => `(tactic| k_extra "mine room")
local macro_rules | `(tactic| k_room) => `(tactic| k_extra "mine room")
local macro_rules | `(tactic| k_mem) => `(tactic| k_extra "mine mem")
local macro_rules | `(tactic| k_upd) => `(tactic| k_extra "mine upd")
local macro_rules | `(tactic| k_updF) => `(tactic| k_extra "mine updF")
local macro_rules | `(tactic| leave1) => `(tactic| k_extra "mine leave")
local macro_rules | `(tactic| walk_at $s:str) => `(tactic| k_extra $s)
section
open PySem PySem.W PyProof.Rows PySem.Calls PySem.Spec
theorem words_Srt1 : True := by
  k_with_none
  k_with "mine room" => ((try simp only [depth_under_make, depth_under_kw, depth_in1, depth_deeper, depth_caller]); (try dsimp only [ktrTop]); omega)
  k_with "mine all" => (first | (with_reducible assumption) | (with_reducible exact allLt_of (by assumption)) | (refine And.intro ?_ ?_; (first | assumption | ((try dsimp only at *); omega)); k_extra "mine all") | (exact allLt_up (by assumption) (by omega)) | (refine allLt_set ?_; k_extra "mine all") | fail)
  k_with "mine lt" => (first | assumption | (refine lt_allLt ?_; k_extra "mine all") | fail)
  k_with "mine ok" => (first | assumption | (refine Ok.setAt ?_ _ _; k_extra "mine ok") | (refine Ok.cons ?_ ?_; (k_extra "mine ok"); (k_extra "mine lt")) | fail)
  k_with "mine ne" => ((try dsimp only); first | assumption | (refine Ne.symm ?_; assumption) | (refine neN ?_; omega) | (apply ne_z1; (case q9m => assumption); (case q9h => k_extra "mine all")) | (apply ne_z2; (case q9m => assumption); (case q9h => k_extra "mine all")) | fail)
  k_with "mine nes" => (first | assumption | exact List.forall_mem_nil _ | (refine List.forall_mem_cons.mpr ⟨?_, ?_⟩; (k_extra "mine ne"); (k_extra "mine nes")) | (refine nes_set ?_; k_extra "mine nes") | (refine nes_lt ?_; k_extra "mine all") | fail)
  k_with "mine mem" => (first | (with_reducible assumption) | ktr_member | (with_reducible exact List.mem_cons_self) | (with_reducible apply mset_z; k_mem) | (with_reducible apply mset_ne_z; (case q9n => k_extra "mine ne"); (case q9x => k_mem)) | (with_reducible refine List.mem_cons_of_mem _ ?_; k_mem) | fail)
  k_with "mine upd" => (first | (with_reducible refine Upd.head ?_; k_extra "mine nes") | (with_reducible apply upd_tail; (case q9ne => k_extra "mine ne"); (case q9u => k_upd)) | (apply upd_z; (case q9k => k_extra "mine ok"); (case q9m => k_mem)) | fail)
  k_with "mine updF" => (first | (with_reducible refine UpdF.head ?_; k_extra "mine nes") | (with_reducible apply updF_tail; (case q9ne => k_extra "mine ne"); (case q9u => k_updF)) | (apply updF_z; (case q9k => k_extra "mine ok"); (case q9m => k_mem)) | fail)
  k_with "mine sub" => (first | exact (fun p hp => hp) | exact (fun p hp => List.mem_cons_of_mem _ hp) | exact (fun p hp => List.mem_cons_of_mem _ (List.mem_cons_of_mem _ hp)) | exact (fun p hp => List.mem_cons_of_mem _ (List.mem_cons_of_mem _ (List.mem_cons_of_mem _ hp))) | (refine List.forall_mem_cons.mpr ⟨?_, ?_⟩; k_mem; k_extra "mine sub") | (intro p hp; (repeat (first | exact hp | refine List.mem_cons_of_mem _ ?_))) | fail)
  k_with "mine units" => ((try simp only [units_in1, units_deeper]); (try dsimp only [ktrTop]); omega)
  k_with "mine leave" => (with_reducible apply HQ.use_z; (case q9h => with_reducible assumption))
  k_with "getMethod ref" => ((k_here; (with_reducible show wpAny _ _ (getMethod (Value.ref _) (Str.ofString "get") _) _ _ _); k_dflt (refine kdg_method (knd := PySem.strKind _ _) (by k_asm) (by k_mem) (by assumption) ?_)))
  k_with "call builtin:dict.get" => ((k_here; (with_reducible show wpAny _ _ (call (Value.builtin "dict.get") [Value.ref _, Value.str _ _]) _ _ _); k_dflt (refine kdg_get1 (knd := PySem.strKind _ _) (by k_asm) (by k_mem) (by assumption) (by assumption) (strKind_is _ _ _ _) _ (by first | assumption | rfl) ?_); (try dsimp only [Option.getD]); (try k_fold)))
  k_with "setItem ref str" => ((k_here; (with_reducible show wpAny _ _ (setItem (Value.ref _) (Value.str _ _) _) _ _ _); k_dflt (refine kda_set (knd := PySem.strKind _ _) (by k_asm) (by k_asm) (by k_updF) (by assumption) (strKind_is _ _ _ _) (by first | omega | (rw [sizeLine_eq]; omega)) ?_); intro _ _ _ N'zz; (try dsimp only at N'zz); revert N'zz; intro _ _; (try k_fold)))
  k_with "execs cons" => (k_here; (with_reducible refine NextQ.cons ?_); (try dsimp only); (try (with_reducible refine anyTk fun _ => ?_)))
  k_with "NextQ" => (with_reducible first | refine NextQ.nx ?_ | refine NextQ.rt ?_ | refine NextQ.bk ?_ | refine NextQ.ct ?_ | fail)
  trivial
section
variable {prog : Program} {w : World} {p : Program} {loose : List Str} {mean : ExcName → Option Value} {mg mb : Str → Option Value} {dp un : Nat} {gd : Option (List Code)} {cn : Str} {cs : Scope} {a : Addr} {ccd : Value} {cl : List (Str × Addr)} {outer : List Env} {A₀ : Around} {base h₀ : Heap} {L : Addr} {m : Str → Option Value} {news : Led} {s : Shared} {Q E : Value → Shared → Prop}
theorem getInfo (B : Below A₀ base outer h₀) (F : Fr h₀ L s.heap m) (X : (K w.params).In h₀) (N : News h₀ L s.heap news) (T : Top p loose mean mg mb h₀) (hk : cs.kind = .function) (hdp : dp + 10 < recursionLimit)
    {A : SA} {g : G} {rv : Value} {pv fv : Int} (S : SAt prog w news A g rv pv fv) (hn : g.nodes.length ≤ 200) {x : Str} {tx : Tok} {self : Addr} (hs : A.self = self)
    (ret : ∀ A' news' h' tk', Fr h₀ L h' m → News h₀ L h' news' → SAt prog w news' A' (g.touch x) rv pv fv → A'.self = self → (∀ p ∈ news, ¬ A.foot g p.1 → p ∈ news' ∧ ¬ A'.foot (g.touch x) p.1) → Q (.ref (A'.ia x)) { s with heap := h', toks := tk' }) :
    wpAny (model prog w) (ktrTop dp un gd cn cs L a ccd cl outer) (call (.ref 170) [.ref self, .str x tx]) Q E s := by
  subst hs
  refine hideG fun zG zK => ?_
  obtain ⟨e1, e2, e3, e4, t1, t2, t3, t4, t5, t6, m2⟩ := S.dict
  obtain ⟨o2, m3, hd2⟩ := S.d2
  refine zK ?_
  clear zK zG
  have m1 := S.inst
  have lo2 := S.lo2
  have ok := S.ok
  refine wpAny_call ?_
  refine' code_def (binds := [(Str.ofString "self", .ref A.self), (Str.ofString "node", .str x tx)]) B F X N T rfl rfl hk ?k6 ?k7 ?k8 ?k9 ?kB ?_ ?c2 ?c3 ?c4 ?c5
  (case k6 => k_is)
  (case k7 => k_is)
  (case k8 => ktr_room)
  (case k9 => exact BindsTo.of_eq rfl)
  (case c5 => decide)
  (case kB => exact locs rfl)
  (case c2 => exact rfl)
  (case c3 => exact rfl)
  (case c4 => exact rfl)
  intro g' L' h' FG' F' N' B' X' T'
  refine noE ?_
  refine hideQ fun _ _ => ?_
  have ret' : ∀ r A' news' h' tk', Fr h₀ L h' m → News h₀ L h' news' → SAt prog w news' A' (g.touch x) rv pv fv → A'.self = A.self → (∀ p ∈ news, ¬ A.foot g p.1 → p ∈ news' ∧ ¬ A'.foot (g.touch x) p.1) → r = .ref (A'.ia x) → Q r { s with heap := h', toks := tk' } := by
    intro r A' news' h' tk' a1 a2 a3 a4 a5 a6
    rw [a6]
    exact ret A' news' h' tk' a1 a2 a3 a4 a5
  clear ret
  by_cases hx : x ∈ g.nodes
  · have hv : valueAt (g.nodes.map fun x => (x, Value.ref (A.ia x))) x = some (.ref (A.ia x)) := by
      rw [valueAt_nodes (fun x => Value.ref (A.ia x)), if_pos hx]
    k_steps
    exact ret' _ A news _ _ (by k_asm) (by k_asm) (by rw [touch_in hx]; exact S) rfl (fun p hp hf => ⟨hp, by rw [touch_in hx]; exact hf⟩) rfl
  · have hv : valueAt (g.nodes.map fun x => (x, Value.ref (A.ia x))) x = none := by
      rw [valueAt_nodes (fun x => Value.ref (A.ia x)), if_neg hx]
    have hst : ∀ v, stored (g.nodes.map fun x => (x, Value.ref (A.ia x))) x v = (g.nodes.map fun x => (x, Value.ref (A.ia x))) ++ [(x, v)] := fun v => stored_nodes (fun x => Value.ref (A.ia x)) x v hx
    have hl9 : (g.nodes.map fun x => (x, Value.ref (A.ia x))).length ≤ 200 := by rw [List.length_map]; exact hn
    k_steps
    refine' ret' _ _ _ _ _ ?F ?N ?S ?e ?k ?r
    (case F => k_asm)
    (case N => k_asm)
    (case S =>
      refine' SAt.new S hx ?a1 ?a2 ?a3 ?a4 ?a5 ?a6 ?a7
      (case a1 => k_extra "mine nes")
      (case a2 => k_extra "mine nes")
      (case a3 => k_extra "mine nes")
      (case a4 => k_extra "mine ne")
      (case a5 => k_extra "mine ne")
      (case a6 => k_extra "mine ne")
      (case a7 => rw [← hst]; assumption))
    (case e => rfl)
    (case k =>
      intro p hp hf
      refine keep_new hx hp hf ?_ ?_ ?_
      · exact (show ∀ p ∈ news, p.1 ≠ _ from (by k_extra "mine nes")) p hp
      · exact (show ∀ p ∈ news, p.1 ≠ _ from (by k_extra "mine nes")) p hp
      · exact (show ∀ p ∈ news, p.1 ≠ _ from (by k_extra "mine nes")) p hp)
    (case r => simp)

end
end
section
open PySem PySem.W PyProof.Rows PySem.Calls PySem.Spec
theorem words_Srt2 : True := by
  k_with_none
  k_with "mine room" => ((try simp only [depth_under_make, depth_under_kw, depth_in1, depth_deeper, depth_caller]); (try dsimp only [ktrTop]); omega)
  k_with "mine all" => (first | (with_reducible assumption) | (with_reducible exact allLt_of (by assumption)) | (refine And.intro ?_ ?_; (first | assumption | ((try dsimp only at *); omega)); k_extra "mine all") | (exact allLt_up (by assumption) (by omega)) | (refine allLt_set ?_; k_extra "mine all") | fail)
  k_with "mine lt" => (first | assumption | (refine lt_allLt ?_; k_extra "mine all") | fail)
  k_with "mine ok" => (first | assumption | (refine Ok.setAt ?_ _ _; k_extra "mine ok") | (refine Ok.cons ?_ ?_; (k_extra "mine ok"); (k_extra "mine lt")) | fail)
  k_with "mine ne" => ((try dsimp only); first | assumption | (refine Ne.symm ?_; assumption) | (refine neN ?_; omega) | (apply ne_z1; (case q9m => assumption); (case q9h => k_extra "mine all")) | (apply ne_z2; (case q9m => assumption); (case q9h => k_extra "mine all")) | fail)
  k_with "mine nes" => (first | assumption | exact List.forall_mem_nil _ | (refine List.forall_mem_cons.mpr ⟨?_, ?_⟩; (k_extra "mine ne"); (k_extra "mine nes")) | (refine nes_set ?_; k_extra "mine nes") | (refine nes_lt ?_; k_extra "mine all") | fail)
  k_with "mine mem" => (first | (with_reducible assumption) | ktr_member | (with_reducible exact List.mem_cons_self) | (with_reducible apply mset_z; k_mem) | (with_reducible apply mset_ne_z; (case q9n => k_extra "mine ne"); (case q9x => k_mem)) | (with_reducible refine List.mem_cons_of_mem _ ?_; k_mem) | fail)
  k_with "mine upd" => (first | (with_reducible refine Upd.head ?_; k_extra "mine nes") | (with_reducible apply upd_tail; (case q9ne => k_extra "mine ne"); (case q9u => k_upd)) | (apply upd_z; (case q9k => k_extra "mine ok"); (case q9m => k_mem)) | fail)
  k_with "mine updF" => (first | (with_reducible refine UpdF.head ?_; k_extra "mine nes") | (with_reducible apply updF_tail; (case q9ne => k_extra "mine ne"); (case q9u => k_updF)) | (apply updF_z; (case q9k => k_extra "mine ok"); (case q9m => k_mem)) | fail)
  k_with "mine sub" => (first | exact (fun p hp => hp) | exact (fun p hp => List.mem_cons_of_mem _ hp) | exact (fun p hp => List.mem_cons_of_mem _ (List.mem_cons_of_mem _ hp)) | exact (fun p hp => List.mem_cons_of_mem _ (List.mem_cons_of_mem _ (List.mem_cons_of_mem _ hp))) | (refine List.forall_mem_cons.mpr ⟨?_, ?_⟩; k_mem; k_extra "mine sub") | (intro p hp; (repeat (first | exact hp | refine List.mem_cons_of_mem _ ?_))) | fail)
  k_with "mine units" => ((try simp only [units_in1, units_deeper]); (try dsimp only [ktrTop]); omega)
  k_with "mine leave" => (with_reducible apply HQ.use_z; (case q9h => with_reducible assumption))
  k_with "call builtin:len" => ((k_here; (with_reducible show wpAny _ _ (call (Value.builtin "len") [Value.ref _]) _ _ _); k_dflt (first | (refine len_tup (by k_asm) (by k_mem) (by omega) ?_) | (refine len_lst (by k_asm) (by k_mem) (by omega) ?_))))
  k_with "execs cons" => (k_here; (with_reducible refine NextQ.cons ?_); (try dsimp only); (try (with_reducible refine anyTk fun _ => ?_)))
  k_with "NextQ" => (with_reducible first | refine NextQ.nx ?_ | refine NextQ.rt ?_ | refine NextQ.bk ?_ | refine NextQ.ct ?_ | fail)
  trivial
section
variable {prog : Program} {w : World} {p : Program} {loose : List Str} {mean : ExcName → Option Value} {mg mb : Str → Option Value} {dp un : Nat} {gd : Option (List Code)} {cn : Str} {cs : Scope} {a : Addr} {ccd : Value} {cl : List (Str × Addr)} {outer : List Env} {A₀ : Around} {base h₀ : Heap} {L : Addr} {m : Str → Option Value} {news : Led} {s : Shared} {Q E : Value → Shared → Prop}
theorem words_srt2_1 : True := by
  k_with "call ref" => (((with_reducible show wpAny _ _ (call (Value.ref 170) _) _ _ _); refine stop_intro ?_))
  trivial
theorem addS (B : Below A₀ base outer h₀) (F : Fr h₀ L s.heap m) (X : (K w.params).In h₀) (N : News h₀ L s.heap news) (T : Top p loose mean mg mb h₀) (hk : cs.kind = .function) (hdp : dp + 15 < recursionLimit)
    {A : SA} {g : G} {pv fv : Int} (S : SAt prog w news A g .none pv fv) (hn : g.nodes.length ≤ 150) (hb : ∀ x, (g.succ x).length ≤ 150) {x : Str} {tx : Tok} {vs : List Value} {ys : List Str} (hv : Strs vs ys) (hys : ys.length ≤ 5) {self : Addr} (hs : A.self = self)
    (ret : ∀ A' news' h' tk', Fr h₀ L h' m → News h₀ L h' news' → SAt prog w news' A' (g.add x ys) .none pv fv → A'.self = self → (∀ p ∈ news, ¬ A.foot g p.1 → p ∈ news' ∧ ¬ A'.foot (g.add x ys) p.1) → Q .none { s with heap := h', toks := tk' }) :
    wpAny (model prog w) (ktrTop dp un gd cn cs L a ccd cl outer) (call (.ref 177) (.ref self :: .str x tx :: vs)) Q E s := by
  refine hideG fun zG zK => ?_
  obtain ⟨e1, e2, e3, e4, t1, t2, t3, t4, t5, t6, m2⟩ := S.dict
  refine zK ?_
  clear zK zG
  have m1 := S.inst
  have ok := S.ok
  subst hs
  refine wpAny_call ?_
  refine' kp_rest (vs := vs) (binds := fun D => [(Str.ofString "self", .ref A.self), (Str.ofString "node", .str x tx), (Str.ofString "predecessors", .ref D)]) B F X N T rfl rfl hk ?k6 ?k7 ?k8 ?kV ?kP ?kG ?kB ?_ ?c2 ?c3 ?c4 ?c5
  (case k6 => k_is)
  (case k7 => k_is)
  (case k8 => ktr_room)
  (case kV => exact rfl)
  (case kP => exact peek_tuple (b := fun v => [(Str.ofString "self", .ref A.self), (Str.ofString "node", .str x tx), (Str.ofString "predecessors", v)]) (by rw [sizeLine_eq]; have := hv.1; omega) (by cases vs <;> rfl))
  (case kG => exact fun _ => rfl)
  (case c5 => decide)
  (case kB => exact fun _ => locs rfl)
  (case c2 => exact rfl)
  (case c3 => exact rfl)
  (case c4 => exact rfl)
  intro D' g' L' h' l1 FG' F' N' B' X' T'
  refine noE ?_
  refine hideQ fun _ _ => ?_
  k_steps
  refine Stop.of ?_
  have S1 : SAt prog w ((D', { cls := .type "tuple", data := .seq vs.toArray }) :: news) A g .none pv fv := S.cons (by k_extra "mine nes")
  refine' getInfo ?k1 ?k2 ?k3 ?k4 ?k5 ?kK ?kd S1 (by omega) rfl ?_
  (case k1 => k_asm)
  (case k2 => k_asm)
  (case k3 => k_asm)
  (case k4 => k_asm)
  (case k5 => k_asm)
  (case kK => exact rfl)
  (case kd => ktr_room)
  intro A1 news1 h1 tk1 F1 N1 S1' hA1 hk1
  have hx1 := mem_touch g x
  refine hideG fun zG zK => ?_
  obtain ⟨tx1, tn1, mi1⟩ := (S1'.node x hx1).info
  have md1 := (S1'.node x hx1).dict
  have mS1 := S1'.inst
  rw [hA1] at mS1
  obtain ⟨f1, f2, f3, f4, u1, u2, u3, u4, u5, u6, mD1⟩ := S1'.dict
  refine zK ?_
  clear zK zG
  have mT1 := (hk1 (D', _) (.head _) (S.not_foot (by k_extra "mine nes"))).1
  have fT1 := (hk1 (D', _) (.head _) (S.not_foot (by k_extra "mine nes"))).2
  have ne1 : A.self ≠ A1.ia x := hA1 ▸ S1'.self_ne_ia hx1
  have ne2 := S1'.ds_ne_ia hx1
  have ne3 : D' ≠ A1.ia x := fun e => fT1 (.inr (.inr (.inr ⟨x, hx1, .inl e⟩)))
  have ok1 := S1'.ok
  have hvl := hv.1
  k_steps
  trace "AT THE LOOP"
  refine For_invV g' rfl rfl ?_
  refine' ld ?q1 ?q2 ?_
  (case q1 => k_asm)
  (case q2 => exact rfl)
  refine' iter_tuple (fun i m₁ news₁ => Ex1 fun A₁ => All6 (SAt prog w news₁ A₁ ((ys.take i).foldl (addStep x) (setNp (g.touch x) x ((g.touch x).np x + ys.length))) .none pv fv) (A₁.self = A.self) (m₁ (Str.ofString "self") = some (.ref A.self)) (m₁ (Str.ofString "node") = some (.str x tx)) ((∀ p ∈ news, ¬ A.foot g p.1 → p ∈ news₁ ∧ ¬ A₁.foot ((ys.take i).foldl (addStep x) (setNp (g.touch x) x ((g.touch x).np x + ys.length))) p.1)) (¬ A₁.foot ((ys.take i).foldl (addStep x) (setNp (g.touch x) x ((g.touch x).np x + ys.length))) D')) rfl ?F ?N ?M ?j0 ?turn ?done
  (case F => k_asm)
  (case N => k_asm)
  (case M => k_mem)
  (case j0 =>
    refine ⟨A1, ?_, hA1, rfl, rfl, fun p hp hf => ?_, fT1⟩
    · rw [← hvl]
      exact S1'.setInfo hx1 _ _ _
    · have := hk1 p (.tail _ hp) hf
      exact ⟨mem_set_ne (fun e => this.2 (.inr (.inr (.inr ⟨x, hx1, .inl e⟩)))) this.1, this.2⟩)
  (case turn =>
    intro i v m₁ news₁ h tk I io hvi hJ hl hnI F₁ N₁
    refine hideG fun zG zK => ?_
    obtain ⟨A2, S2, hA2, hm1, hm2, hk2, fD2⟩ := hJ
    obtain ⟨y, hy⟩ : ∃ y, ys[i]? = some y := by
      have : i < ys.length := by
        rw [← hvl]
        exact (List.getElem?_eq_some_iff.mp hvi).1
      exact ⟨ys[i], by simp [this]⟩
    obtain ⟨ty, hvy⟩ := hv.2 i y hy
    rw [hvi] at hvy
    obtain rfl := Option.some.inj hvy
    refine zK ?_
    clear zK zG
    have hlen2 := fold_nodes x (ys.take i) (setNp (g.touch x) x ((g.touch x).np x + ys.length))
    have hlen3 := fold_succ x (ys.take i) (setNp (g.touch x) x ((g.touch x).np x + ys.length))
    have hlen4 : (setNp (g.touch x) x ((g.touch x).np x + ys.length)).nodes.length ≤ g.nodes.length + 1 := g.len_touch x
    have hlen5 : ∀ z, ((setNp (g.touch x) x ((g.touch x).np x + ys.length)).succ z).length ≤ (g.succ z).length := g.succ_touch x
    have htake : (ys.take i).length ≤ 5 := by rw [List.length_take]; omega
    have hfold : (ys.take (i + 1)).foldl (addStep x) (setNp (g.touch x) x ((g.touch x).np x + ys.length)) = addStep x ((ys.take i).foldl (addStep x) (setNp (g.touch x) x ((g.touch x).np x + ys.length))) y := by
      rw [List.take_add_one, hy, Option.toList_some, List.foldl_append]; rfl
    rw [hfold]
    generalize (ys.take i).foldl (addStep x) (setNp (g.touch x) x ((g.touch x).np x + ys.length)) = g2 at S2 hk2 fD2 hlen2 hlen3 ⊢
    refine hideG fun zG zK => ?_
    obtain ⟨nl, hnl⟩ : ∃ nl, nl = (I, io) :: news₁ := ⟨_, rfl⟩
    rw [← hnl] at N₁
    have sub2 : ∀ p ∈ news₁, p ∈ nl := fun p hp => hnl ▸ .tail _ hp
    have own2 : (I, io) ∈ nl := hnl ▸ .head _
    have okl : Ok nl := hnl ▸ S2.ok.cons_ne hnI
    have S3 : SAt prog w nl A2 g2 .none pv fv := S2.sub okl fun p hp _ => sub2 p hp
    have fI : ¬ A2.foot g2 I := S2.not_foot hnI
    have hl3 := sub2 _ hl
    have mS3 := S3.inst
    rw [hA2] at mS3
    obtain ⟨f1, f2, f3, f4, u1, u2, u3, u4, u5, u6, mD3⟩ := S3.dict
    refine zK ?_
    clear zK zG
    have F2 := know F₁ (y := Str.ofString "self") (v := .ref A.self) hm1
    have F3 := know F2 (y := Str.ofString "node") (v := .str x tx) hm2
    clear F₁ F2
    refine hideQ fun _ _ => ?_
    k_steps
    refine Stop.of ?_
    refine' getInfo ?k1 ?k2 ?k3 ?k4 ?k5 ?kK ?kd S3 (by omega) hA2 ?_
    (case k1 => k_asm)
    (case k2 => k_asm)
    (case k3 => k_asm)
    (case k4 => k_asm)
    (case k5 => k_asm)
    (case kK => exact rfl)
    (case kd => ktr_room)
    intro A4 news4 h4 tk4 F4 N4 S4 hA4 hk4
    have hy4 := mem_touch g2 y
    refine hideG fun zG zK => ?_
    obtain ⟨tx4, tn4, mi4⟩ := (S4.node y hy4).info
    have md4 := (S4.node y hy4).dict
    obtain ⟨vs4, n4, ml4, hs4⟩ := (S4.node y hy4).lst
    refine zK ?_
    clear zK zG
    have ok4 := S4.ok
    have hvs4 : vs4.length ≤ 200 := by
      rw [hs4.1]
      have := g2.succ_touch y y
      have := hlen3 y
      have := hlen5 y
      have := hb y
      omega
    k_steps
    have e5 : vs4.toArray.push (Value.str x tx) = (vs4 ++ [Value.str x tx]).toArray := by simp
    have S5 := S4.setLst (n := n4 + 1) hy4 (hs4.push x tx)
    rw [← e5] at S5
    have kI := hk4 (I, io) own2 fI
    have fI4 : ¬ A4.foot (addStep x g2 y) I := kI.2
    have kD := hk4 (D', _) hl3 fD2
    have la_ne : ∀ {b : Addr}, ¬ A4.foot (g2.touch y) b → b ≠ A4.la y := fun hf e => hf (.inr (.inr (.inr ⟨y, hy4, .inr (.inr e)⟩)))
    refine' turn_next ?F ?N (mem_set_ne (la_ne kI.2) kI.1) (mem_set_ne (la_ne kD.2) kD.1) (hnI _ hl) ?J
    (case F => k_asm)
    (case N => k_asm)
    refine ⟨A4, S5.sub (S5.ok.dropI I) (fun p hp hf => mem_dropI.mpr ⟨hp, fun e => fI4 (e ▸ hf)⟩), hA4, rfl, rfl, fun p hp hf => ?_, kD.2⟩
    have k2 := hk2 p hp hf
    have k4 := hk4 p (sub2 p k2.1) k2.2
    exact ⟨mem_dropI.mpr ⟨mem_set_ne (la_ne k4.2) k4.1, hnI p k2.1⟩, k4.2⟩)
  (case done =>
    intro m₁ news₁ h tk hJ hlD F₁ N₁
    refine hideG fun zG zK => ?_
    obtain ⟨A2, S2, hA2, hm1, hm2, hk2, fD2⟩ := hJ
    refine zK ?_
    clear zK zG
    rw [hvl, List.take_length] at S2 hk2
    k_steps
    exact ret A2 news₁ _ _ (by k_asm) (by k_asm) S2 hA2 hk2)

end
end
section
open PySem PySem.W PyProof.Rows PySem.Calls PySem.Spec
theorem words_Srt3 : True := by
  k_with_none
  k_with "mine room" => ((try simp only [depth_under_make, depth_under_kw, depth_in1, depth_deeper, depth_caller]); (try dsimp only [ktrTop]); omega)
  k_with "mine all" => (first | (with_reducible assumption) | (with_reducible exact allLt_of (by assumption)) | (refine And.intro ?_ ?_; (first | assumption | ((try dsimp only at *); omega)); k_extra "mine all") | (exact allLt_up (by assumption) (by omega)) | (refine allLt_set ?_; k_extra "mine all") | fail)
  k_with "mine lt" => (first | assumption | (refine lt_allLt ?_; k_extra "mine all") | fail)
  k_with "mine ok" => (first | assumption | (refine Ok.setAt ?_ _ _; k_extra "mine ok") | (refine Ok.cons ?_ ?_; (k_extra "mine ok"); (k_extra "mine lt")) | fail)
  k_with "mine ne" => ((try dsimp only); first | assumption | (refine Ne.symm ?_; assumption) | (refine neN ?_; omega) | (apply ne_z1; (case q9m => assumption); (case q9h => k_extra "mine all")) | (apply ne_z2; (case q9m => assumption); (case q9h => k_extra "mine all")) | fail)
  k_with "mine nes" => (first | assumption | exact List.forall_mem_nil _ | (refine List.forall_mem_cons.mpr ⟨?_, ?_⟩; (k_extra "mine ne"); (k_extra "mine nes")) | (refine nes_set ?_; k_extra "mine nes") | (refine nes_lt ?_; k_extra "mine all") | fail)
  k_with "mine mem" => (first | (with_reducible assumption) | ktr_member | (with_reducible exact List.mem_cons_self) | (with_reducible apply mset_z; k_mem) | (with_reducible apply mset_ne_z; (case q9n => k_extra "mine ne"); (case q9x => k_mem)) | (with_reducible refine List.mem_cons_of_mem _ ?_; k_mem) | fail)
  k_with "mine upd" => (first | (with_reducible refine Upd.head ?_; k_extra "mine nes") | (with_reducible apply upd_tail; (case q9ne => k_extra "mine ne"); (case q9u => k_upd)) | (apply upd_z; (case q9k => k_extra "mine ok"); (case q9m => k_mem)) | fail)
  k_with "mine updF" => (first | (with_reducible refine UpdF.head ?_; k_extra "mine nes") | (with_reducible apply updF_tail; (case q9ne => k_extra "mine ne"); (case q9u => k_updF)) | (apply updF_z; (case q9k => k_extra "mine ok"); (case q9m => k_mem)) | fail)
  k_with "mine sub" => (first | exact (fun p hp => hp) | exact (fun p hp => List.mem_cons_of_mem _ hp) | exact (fun p hp => List.mem_cons_of_mem _ (List.mem_cons_of_mem _ hp)) | exact (fun p hp => List.mem_cons_of_mem _ (List.mem_cons_of_mem _ (List.mem_cons_of_mem _ hp))) | (refine List.forall_mem_cons.mpr ⟨?_, ?_⟩; k_mem; k_extra "mine sub") | (intro p hp; (repeat (first | exact hp | refine List.mem_cons_of_mem _ ?_))) | fail)
  k_with "mine units" => ((try simp only [units_in1, units_deeper]); (try dsimp only [ktrTop]); omega)
  k_with "mine leave" => (with_reducible apply HQ.use_z; (case q9h => with_reducible assumption))
  k_with "call builtin:len" => ((k_here; (with_reducible show wpAny _ _ (call (Value.builtin "len") [Value.ref _]) _ _ _); k_dflt (first | (refine len_tup (by k_asm) (by k_mem) (by omega) ?_) | (refine len_lst (by k_asm) (by k_mem) (by omega) ?_))))
  k_with "subscriptTail" => ((k_here; (with_reducible show wpAny _ _ (subscriptTail _ _ (Value.ref _) (Value.str _ _)) _ _ _); k_dflt (refine kda_item (knd := PySem.strKind _ _) (by k_asm) (by k_mem) (by assumption) (strKind_is _ _ _ _) (by assumption) ?_)))
  k_with "call type:tuple" => ((k_here; (with_reducible show wpAny _ _ (call (Value.type _) [Value.ref _]) _ _ _); k_dflt (refine kde_tupleOf (by k_asm) (by k_asm) (by exact News.isList (by k_asm) (by k_mem)) (by (rw [List.size_toArray]; omega)) (by exact List.toList_toArray ..) ?_; k_whole); intro _ _ _ _ l1zz; (try k_lt l1zz); revert l1zz; intro _))
  k_with "call builtin:list.clear" => ((k_here; (with_reducible show wpAny _ _ (call (Value.builtin _) [Value.ref _]) _ _ _); k_dflt (refine kl_clear (by k_asm) (by k_asm) (by k_upd) (by (rw [List.toList_toArray]; omega)) (by (rw [List.toList_toArray, sizeLine_eq]; omega)) ?_); intro _ _ _))
  k_with "execs cons" => (k_here; (with_reducible refine NextQ.cons ?_); (try dsimp only); (try (with_reducible refine anyTk fun _ => ?_)))
  k_with "NextQ" => (with_reducible first | refine NextQ.nx ?_ | refine NextQ.rt ?_ | refine NextQ.bk ?_ | refine NextQ.ct ?_ | fail)
  trivial
section
variable {prog : Program} {w : World} {p : Program} {loose : List Str} {mean : ExcName → Option Value} {mg mb : Str → Option Value} {dp un : Nat} {gd : Option (List Code)} {cn : Str} {cs : Scope} {a : Addr} {ccd : Value} {cl : List (Str × Addr)} {outer : List Env} {A₀ : Around} {base h₀ : Heap} {L : Addr} {m : Str → Option Value} {news : Led} {s : Shared} {Q E : Value → Shared → Prop}
theorem words_srt3_1 : True := by
  k_with "call type:tuple" => ((refine stop_intro ?_))
  trivial
theorem getReady (B : Below A₀ base outer h₀) (F : Fr h₀ L s.heap m) (X : (K w.params).In h₀) (N : News h₀ L s.heap news) (T : Top p loose mean mg mb h₀) (hk : cs.kind = .function) (hdp : dp + 10 < recursionLimit)
    {A : SA} {g : G} {R : List Str} {rl : Addr} {pv fv : Int} (S : RAt prog w news A g R rl pv fv) (hR : ∀ x ∈ R, x ∈ g.nodes) (hn : R.length ≤ 1000) (hne : R ≠ []) {self : Addr} (hs : A.self = self)
    (ret : ∀ t vs n news' h' tk', Fr h₀ L h' m → News h₀ L h' news' → RAt prog w news' A (outs R g) [] rl (pv + R.length) fv → (t, seqObj "tuple" vs n) ∈ news' → Strs vs R → ¬ A.foot g t → t ≠ rl → (∀ p ∈ news, ¬ A.foot g p.1 → p.1 ≠ rl → p ∈ news') → Q (.ref t) { s with heap := h', toks := tk' }) :
    wpAny (model prog w) (ktrTop dp un gd cn cs L a ccd cl outer) (call (.ref 189) [.ref self]) Q E s := by
  refine hideG fun zG zK => ?_
  obtain ⟨S, ⟨vs, n0, ml, hvs⟩, nf⟩ := S
  obtain ⟨e1, e2, e3, e4, t1, t2, t3, t4, t5, t6, m2⟩ := S.dict
  obtain ⟨o2, m3, hd2⟩ := S.d2
  refine zK ?_
  clear zK zG
  have m1 := S.inst
  have lo2 := S.lo2
  have ok := S.ok
  subst hs
  have hvl := hvs.1
  refine wpAny_call ?_
  refine' code_def (binds := [(Str.ofString "self", .ref A.self)]) B F X N T rfl rfl hk ?k6 ?k7 ?k8 ?k9 ?kB ?_ ?c2 ?c3 ?c4 ?c5
  (case k6 => k_is)
  (case k7 => k_is)
  (case k8 => ktr_room)
  (case k9 => exact BindsTo.of_eq rfl)
  (case c5 => decide)
  (case kB => exact locs rfl)
  (case c2 => exact rfl)
  (case c3 => exact rfl)
  (case c4 => exact rfl)
  intro g' L' h' FG' F' N' B' X' T'
  refine noE ?_
  refine hideQ fun _ _ => ?_
  have hl9 : vs.length ≠ 0 := by rw [hvl]; exact fun e => hne (List.length_eq_zero_iff.mp e)
  k_steps
  refine Stop.of ?_
  refine' kde_tupleOf (zs := vs) ?k1 ?k2 ?k3 ?k4 ?k5 ?_
  (case k1 => k_asm)
  (case k2 => k_asm)
  (case k3 => exact News.isList (by k_asm) (by k_mem))
  (case k4 => (rw [List.size_toArray]; omega))
  (case k5 => exact List.toList_toArray ..)
  intro D5 h5 F5 N5 l5
  k_steps
  have S5 : SAt prog w ((D5, seqObj "tuple" vs 0) :: news) A g (.ref rl) pv fv := S.cons (fun p hp => Nat.ne_of_lt (l5 p hp))
  have fD5 : ¬ A.foot g D5 := S.not_foot (fun p hp => Nat.ne_of_lt (l5 p hp))
  have nD5 : D5 ≠ rl := (Nat.ne_of_lt (l5 _ ml)).symm
  refine For_invV g' rfl rfl ?_
  refine' ld ?q1 ?q2 ?_
  (case q1 => k_asm)
  (case q2 => exact rfl)
  refine' iter_tuple (vs := vs) (n := 0) (fun i m₁ news₁ => All5 (SAt prog w news₁ A (outs (R.take i) g) (.ref rl) pv fv) (m₁ (Str.ofString "self") = some (.ref A.self)) (m₁ (Str.ofString "n2i") = some (.ref A.d2)) (m₁ (Str.ofString "result") = some (.ref D5)) ((∀ p ∈ news, ¬ A.foot g p.1 → p ∈ news₁))) rfl ?F ?N ?M ?j0 ?turn ?done
  (case F => k_asm)
  (case N => k_asm)
  (case M => exact .head _)
  (case j0 => exact ⟨S5, rfl, rfl, rfl, fun p hp _ => .tail _ hp⟩)
  (case turn =>
    intro i v m₁ news₁ h tk I io hvi hJ hl hnI F₁ N₁
    refine hideG fun zG zK => ?_
    obtain ⟨S2, hm1, hm2, hm3, hk2⟩ := hJ
    obtain ⟨y, hy⟩ : ∃ y, R[i]? = some y := by
      have : i < R.length := by
        rw [← hvl]
        exact (List.getElem?_eq_some_iff.mp hvi).1
      exact ⟨R[i], by simp [this]⟩
    obtain ⟨ty, hvy⟩ := hvs.2 i y hy
    rw [hvi] at hvy
    obtain rfl := Option.some.inj hvy
    refine zK ?_
    clear zK zG
    rw [outs_snoc hy]
    have hnod := outs_nodes (R.take i) g
    generalize outs (R.take i) g = g2 at S2 hnod ⊢
    have S3 : SAt prog w ((I, io) :: news₁) A g2 (.ref rl) pv fv := S2.cons hnI
    have fI : ¬ A.foot g2 I := S2.not_foot hnI
    have okl := S2.ok
    have hy2 : y ∈ g2.nodes := by rw [hnod]; exact hR y (List.mem_of_getElem? hy)
    refine hideG fun zG zK => ?_
    obtain ⟨tx3, tn3, mi3⟩ := (S2.node y hy2).info
    have md3 := (S2.node y hy2).dict
    obtain ⟨o3, m33, hd3⟩ := S2.d2
    refine zK ?_
    clear zK zG
    have hv3 := S2.valueAt hy2
    have neI : I ≠ A.ia y := fun e => fI (.inr (.inr (.inr ⟨y, hy2, .inl e⟩)))
    have F2 := know F₁ (y := Str.ofString "n2i") (v := .ref A.d2) hm2
    clear F₁
    refine hideQ fun _ _ => ?_
    k_steps
    refine' turn_next ?F ?N (.head _) (.tail _ (mem_set_ne ?neD hl)) (hnI _ hl) ?J
    (case F => k_asm)
    (case N => k_asm)
    (case neD => exact fun e => fD5 (.inr (.inr (.inr ⟨y, hnod ▸ hy2, .inl e⟩))))
    have S6 := fun tn => (S2.setInfo hy2 tx3 tn (-1)).cons (o := io) (nes_set hnI)
    refine ⟨(S6 _).sub ((S6 _).ok.dropI I) (fun p hp hf => mem_dropI.mpr ⟨hp, fun e => fI (e ▸ hf)⟩), ?_, rfl, ?_, fun p hp hf => ?_⟩
    · exact hm1
    · exact hm3
    · have k2 := hk2 p hp hf
      exact mem_dropI.mpr ⟨.tail _ (mem_set_ne (fun e => hf (.inr (.inr (.inr ⟨y, hnod ▸ hy2, .inl e⟩)))) k2), hnI p k2⟩)
  (case done =>
    intro m₁ news₁ h tk hJ hlD F₁ N₁
    refine hideG fun zG zK => ?_
    obtain ⟨S2, hm1, hm2, hm3, hk2⟩ := hJ
    rw [hvl, List.take_length] at S2
    have hnod := outs_nodes R g
    have ml2 := hk2 _ ml nf
    obtain ⟨f1, f2, f3, f4, u1, u2, u3, u4, u5, u6, mD2⟩ := S2.dict
    refine zK ?_
    clear zK zG
    have mS2 := S2.inst
    have ok2 := S2.ok
    have F2 := know F₁ (y := Str.ofString "self") (v := .ref A.self) hm1
    have F3 := know F2 (y := Str.ofString "result") (v := .ref D5) hm3
    have ner : rl ≠ A.ds := fun e => nf (.inr (.inl e))
    have ner2 : rl ≠ A.self := fun e => nf (.inl e)
    clear F₁ F2
    k_steps
    have nf2 : ¬ A.foot (outs R g) rl := fun h => nf ((foot_nodes hnod rl).mp h)
    have S7 : ∀ o, SAt prog w (setAt news₁ rl o) A (outs R g) (.ref rl) pv fv := fun o => S2.sub (S2.ok.setAt _ _) fun p hp hf => mem_set_ne (fun e => nf2 (e ▸ hf)) hp
    rw [hvl] at *
    refine' ret D5 vs 0 _ _ _ ?F ?N ⟨(S7 _).setDs, ⟨[], _, mem_set_ne ner (mem_set_self ml2), Strs.nil⟩, nf2⟩ ?mt hvs fD5 nD5 ?k
    (case F => k_asm)
    (case N => k_asm)
    (case mt => exact mem_set_ne (fun e => fD5 (.inr (.inl e))) (mem_set_ne nD5 hlD))
    (case k => exact fun p hp hf hr => mem_set_ne (fun e => hf (.inr (.inl e))) (mem_set_ne hr (hk2 p hp hf))))

end
end
section
open PySem PySem.W PyProof.Rows PySem.Calls PySem.Spec
theorem words_Srt4 : True := by
  k_with_none
  k_with "mine room" => ((try simp only [depth_under_make, depth_under_kw, depth_in1, depth_deeper, depth_caller]); (try dsimp only [ktrTop]); omega)
  k_with "mine all" => (first | (with_reducible assumption) | (with_reducible exact allLt_of (by assumption)) | (refine And.intro ?_ ?_; (first | assumption | ((try dsimp only at *); omega)); k_extra "mine all") | (exact allLt_up (by assumption) (by omega)) | (refine allLt_set ?_; k_extra "mine all") | fail)
  k_with "mine lt" => (first | assumption | (refine lt_allLt ?_; k_extra "mine all") | fail)
  k_with "mine ok" => (first | assumption | (refine Ok.setAt ?_ _ _; k_extra "mine ok") | (refine Ok.cons ?_ ?_; (k_extra "mine ok"); (k_extra "mine lt")) | fail)
  k_with "mine ne" => ((try dsimp only); first | assumption | (refine Ne.symm ?_; assumption) | (refine neN ?_; omega) | (apply ne_z1; (case q9m => assumption); (case q9h => k_extra "mine all")) | (apply ne_z2; (case q9m => assumption); (case q9h => k_extra "mine all")) | fail)
  k_with "mine nes" => (first | assumption | exact List.forall_mem_nil _ | (refine List.forall_mem_cons.mpr ⟨?_, ?_⟩; (k_extra "mine ne"); (k_extra "mine nes")) | (refine nes_set ?_; k_extra "mine nes") | (refine nes_lt ?_; k_extra "mine all") | fail)
  k_with "mine mem" => (first | (with_reducible assumption) | ktr_member | (with_reducible exact List.mem_cons_self) | (with_reducible apply mset_z; k_mem) | (with_reducible apply mset_ne_z; (case q9n => k_extra "mine ne"); (case q9x => k_mem)) | (with_reducible refine List.mem_cons_of_mem _ ?_; k_mem) | fail)
  k_with "mine upd" => (first | (with_reducible refine Upd.head ?_; k_extra "mine nes") | (with_reducible apply upd_tail; (case q9ne => k_extra "mine ne"); (case q9u => k_upd)) | (apply upd_z; (case q9k => k_extra "mine ok"); (case q9m => k_mem)) | fail)
  k_with "mine updF" => (first | (with_reducible refine UpdF.head ?_; k_extra "mine nes") | (with_reducible apply updF_tail; (case q9ne => k_extra "mine ne"); (case q9u => k_updF)) | (apply updF_z; (case q9k => k_extra "mine ok"); (case q9m => k_mem)) | fail)
  k_with "mine sub" => (first | exact (fun p hp => hp) | exact (fun p hp => List.mem_cons_of_mem _ hp) | exact (fun p hp => List.mem_cons_of_mem _ (List.mem_cons_of_mem _ hp)) | exact (fun p hp => List.mem_cons_of_mem _ (List.mem_cons_of_mem _ (List.mem_cons_of_mem _ hp))) | (refine List.forall_mem_cons.mpr ⟨?_, ?_⟩; k_mem; k_extra "mine sub") | (intro p hp; (repeat (first | exact hp | refine List.mem_cons_of_mem _ ?_))) | fail)
  k_with "mine units" => ((try simp only [units_in1, units_deeper]); (try dsimp only [ktrTop]); omega)
  k_with "mine leave" => (with_reducible apply HQ.use_z; (case q9h => with_reducible assumption))
  k_with "call type:bool" => ((k_here; (with_reducible show wpAny _ _ (call (Value.type "bool") [Value.ref _]) _ _ _); k_dflt (refine call_bool_list (by k_asm) (by k_mem) (by omega) ?_)))
  trivial
section
variable {prog : Program} {w : World} {p : Program} {loose : List Str} {mean : ExcName → Option Value} {mg mb : Str → Option Value} {dp un : Nat} {gd : Option (List Code)} {cn : Str} {cs : Scope} {a : Addr} {ccd : Value} {cl : List (Str × Addr)} {outer : List Env} {A₀ : Around} {base h₀ : Heap} {L : Addr} {m : Str → Option Value} {news : Led} {s : Shared} {Q E : Value → Shared → Prop}
theorem isActive (B : Below A₀ base outer h₀) (F : Fr h₀ L s.heap m) (X : (K w.params).In h₀) (N : News h₀ L s.heap news) (T : Top p loose mean mg mb h₀) (hk : cs.kind = .function) (hdp : dp + 10 < recursionLimit)
    {A : SA} {g : G} {R : List Str} {rl : Addr} {pv fv : Int} (S : RAt prog w news A g R rl pv fv) (hn : R.length ≤ 100000) {self : Addr} (hs : A.self = self)
    (ret : ∀ h' tk', Fr h₀ L h' m → News h₀ L h' news → Q (.bool (decide (fv < pv) || !R.isEmpty)) { s with heap := h', toks := tk' }) :
    wpAny (model prog w) (ktrTop dp un gd cn cs L a ccd cl outer) (call (.ref 196) [.ref self]) Q E s := by
  refine hideG fun zG zK => ?_
  obtain ⟨S, ⟨vs, n0, ml, hvs⟩, nf⟩ := S
  obtain ⟨e1, e2, e3, e4, t1, t2, t3, t4, t5, t6, m2⟩ := S.dict
  refine zK ?_
  clear zK zG
  have m1 := S.inst
  have ok := S.ok
  subst hs
  have hvl := hvs.1
  refine wpAny_call ?_
  refine' code_def (binds := [(Str.ofString "self", .ref A.self)]) B F X N T rfl rfl hk ?k6 ?k7 ?k8 ?k9 ?kB ?_ ?c2 ?c3 ?c4 ?c5
  (case k6 => k_is)
  (case k7 => k_is)
  (case k8 => ktr_room)
  (case k9 => exact BindsTo.of_eq rfl)
  (case c5 => decide)
  (case kB => exact locs rfl)
  (case c2 => exact rfl)
  (case c3 => exact rfl)
  (case c4 => exact rfl)
  intro g' L' h' FG' F' N' B' X' T'
  refine noE ?_
  refine hideQ fun _ _ => ?_
  have he : vs.isEmpty = R.isEmpty := by
    cases vs <;> cases R <;> simp_all
  have ret' : ∀ b h' tk', Fr h₀ L h' m → News h₀ L h' news → b = (decide (fv < pv) || !R.isEmpty) → Q (.bool b) { s with heap := h', toks := tk' } := by
    intro b h' tk' a1 a2 a3
    rw [a3]; exact ret h' tk' a1 a2
  clear ret
  k_steps
  · exact ret' _ _ _ (by k_asm) (by k_asm) (by simp_all)
  · exact ret' _ _ _ (by k_asm) (by k_asm) (by rw [decide_eq_false (by assumption), he, Bool.false_or])

noncomputable def decr (st : G × List Str) (z : Str) : G × List Str := (setNp st.1 z (st.1.np z - 1), if st.1.np z - 1 = 0 then st.2 ++ [z] else st.2)
noncomputable def doneOne (st : G × List Str) (x : Str) : G × List Str := (st.1.succ x).foldl decr (setNp st.1 x (-2), st.2)
noncomputable def doneAll (st : G × List Str) (xs : List Str) : G × List Str := xs.foldl doneOne st
theorem decr_shape (st : G × List Str) : ∀ (zs : List Str), (zs.foldl decr st).1.nodes = st.1.nodes ∧ (zs.foldl decr st).1.succ = st.1.succ ∧ (zs.foldl decr st).2.length ≤ st.2.length + zs.length := by
  intro zs
  induction zs generalizing st with
  | nil => exact ⟨rfl, rfl, Nat.le_refl _⟩
  | cons z zs ih =>
    obtain ⟨a, b, c⟩ := ih (decr st z)
    rw [List.foldl_cons]
    refine ⟨a, b, Nat.le_trans c ?_⟩
    have : (decr st z).2.length ≤ st.2.length + 1 := by
      show (if st.1.np z - 1 = 0 then st.2 ++ [z] else st.2).length ≤ _
      split <;> simp
    rw [List.length_cons]; omega
theorem doneOne_shape (st : G × List Str) (x : Str) : (doneOne st x).1.nodes = st.1.nodes ∧ (doneOne st x).1.succ = st.1.succ ∧ (doneOne st x).2.length ≤ st.2.length + (st.1.succ x).length := decr_shape _ _
theorem doneAll_shape (B : Nat) (st : G × List Str) (hB : ∀ x, (st.1.succ x).length ≤ B) : ∀ xs : List Str, (doneAll st xs).1.nodes = st.1.nodes ∧ (doneAll st xs).1.succ = st.1.succ ∧ (doneAll st xs).2.length ≤ st.2.length + xs.length * B := by
  intro xs
  induction xs generalizing st with
  | nil => exact ⟨rfl, rfl, by simp [doneAll]⟩
  | cons x xs ih =>
    refine hideG fun zG zK => ?_
    obtain ⟨a1, b1, c1⟩ := doneOne_shape st x
    obtain ⟨a, b, c⟩ := ih (doneOne st x) (fun y => by rw [b1]; exact hB y)
    refine zK ?_
    clear zK zG
    refine ⟨a.trans a1, b.trans b1, Nat.le_trans c ?_⟩
    have := hB x
    rw [List.length_cons, Nat.succ_mul]; omega

end
end
section
open PySem PySem.W PyProof.Rows PySem.Calls PySem.Spec
theorem words_Srt5 : True := by
  k_with_none
  k_with "mine room" => ((try simp only [depth_under_make, depth_under_kw, depth_in1, depth_deeper, depth_caller]); (try dsimp only [ktrTop]); omega)
  k_with "mine all" => (first | (with_reducible assumption) | (with_reducible exact allLt_of (by assumption)) | (refine And.intro ?_ ?_; (first | assumption | ((try dsimp only at *); omega)); k_extra "mine all") | (exact allLt_up (by assumption) (by omega)) | (refine allLt_set ?_; k_extra "mine all") | fail)
  k_with "mine lt" => (first | assumption | (refine lt_allLt ?_; k_extra "mine all") | fail)
  k_with "mine ok" => (first | assumption | (refine Ok.setAt ?_ _ _; k_extra "mine ok") | (refine Ok.cons ?_ ?_; (k_extra "mine ok"); (k_extra "mine lt")) | fail)
  k_with "mine ne" => ((try dsimp only); first | assumption | (refine Ne.symm ?_; assumption) | (refine neN ?_; omega) | (apply ne_z1; (case q9m => assumption); (case q9h => k_extra "mine all")) | (apply ne_z2; (case q9m => assumption); (case q9h => k_extra "mine all")) | fail)
  k_with "mine nes" => (first | assumption | exact List.forall_mem_nil _ | (refine List.forall_mem_cons.mpr ⟨?_, ?_⟩; (k_extra "mine ne"); (k_extra "mine nes")) | (refine nes_set ?_; k_extra "mine nes") | (refine nes_lt ?_; k_extra "mine all") | fail)
  k_with "mine mem" => (first | (with_reducible assumption) | ktr_member | (with_reducible exact List.mem_cons_self) | (with_reducible apply mset_z; k_mem) | (with_reducible apply mset_ne_z; (case q9n => k_extra "mine ne"); (case q9x => k_mem)) | (with_reducible refine List.mem_cons_of_mem _ ?_; k_mem) | fail)
  k_with "mine upd" => (first | (with_reducible refine Upd.head ?_; k_extra "mine nes") | (with_reducible apply upd_tail; (case q9ne => k_extra "mine ne"); (case q9u => k_upd)) | (apply upd_z; (case q9k => k_extra "mine ok"); (case q9m => k_mem)) | fail)
  k_with "mine updF" => (first | (with_reducible refine UpdF.head ?_; k_extra "mine nes") | (with_reducible apply updF_tail; (case q9ne => k_extra "mine ne"); (case q9u => k_updF)) | (apply updF_z; (case q9k => k_extra "mine ok"); (case q9m => k_mem)) | fail)
  k_with "mine sub" => (first | exact (fun p hp => hp) | exact (fun p hp => List.mem_cons_of_mem _ hp) | exact (fun p hp => List.mem_cons_of_mem _ (List.mem_cons_of_mem _ hp)) | exact (fun p hp => List.mem_cons_of_mem _ (List.mem_cons_of_mem _ (List.mem_cons_of_mem _ hp))) | (refine List.forall_mem_cons.mpr ⟨?_, ?_⟩; k_mem; k_extra "mine sub") | (intro p hp; (repeat (first | exact hp | refine List.mem_cons_of_mem _ ?_))) | fail)
  k_with "mine units" => ((try simp only [units_in1, units_deeper]); (try dsimp only [ktrTop]); omega)
  k_with "mine leave" => (with_reducible apply HQ.use_z; (case q9h => with_reducible assumption))
  k_with "getMethod ref" => ((k_here; (with_reducible show wpAny _ _ (getMethod (Value.ref _) (Str.ofString "get") _) _ _ _); k_dflt (refine kdg_method (knd := PySem.strKind _ _) (by k_asm) (by k_mem) (by assumption) ?_)))
  k_with "call builtin:dict.get" => ((k_here; (with_reducible show wpAny _ _ (call (Value.builtin "dict.get") [Value.ref _, Value.str _ _]) _ _ _); k_dflt (refine kdg_get1 (knd := PySem.strKind _ _) (by k_asm) (by k_mem) (by assumption) (by assumption) (strKind_is _ _ _ _) _ (by first | assumption | rfl) ?_); (try dsimp only [Option.getD]); (try k_fold)))
  k_with "subscriptTail" => ((k_here; (with_reducible show wpAny _ _ (subscriptTail _ _ (Value.ref _) (Value.str _ _)) _ _ _); k_dflt (refine kda_item (knd := PySem.strKind _ _) (by k_asm) (by k_mem) (by assumption) (strKind_is _ _ _ _) (by assumption) ?_)))
  k_with "execs cons" => (k_here; (with_reducible refine NextQ.cons ?_); (try dsimp only); (try (with_reducible refine anyTk fun _ => ?_)))
  k_with "NextQ" => (with_reducible first | refine NextQ.nx ?_ | refine NextQ.rt ?_ | refine NextQ.bk ?_ | refine NextQ.ct ?_ | fail)
  trivial
section
variable {prog : Program} {w : World} {p : Program} {loose : List Str} {mean : ExcName → Option Value} {mg mb : Str → Option Value} {dp un : Nat} {gd : Option (List Code)} {cn : Str} {cs : Scope} {a : Addr} {ccd : Value} {cl : List (Str × Addr)} {outer : List Env} {A₀ : Around} {base h₀ : Heap} {L : Addr} {m : Str → Option Value} {news : Led} {s : Shared} {Q E : Value → Shared → Prop}
theorem words_Srt5_m1 : True := by
  k_with "mine pyIter" => ((with_reducible show wpAny _ _ (pyIter _) _ _ _); refine stop_intro ?_)
  trivial
theorem SAt.setOut {l : Led} {A : SA} {g : G} {rv : Value} {pv fv : Int} (S : SAt prog w l A g rv pv fv) {b : Addr} (hb : ¬ A.foot g b) (o : Obj) : SAt prog w (setAt l b o) A g rv pv fv :=
  S.sub (S.ok.setAt _ _) fun p hp hf => mem_set_ne (fun e => hb (e ▸ hf)) hp
theorem doneS (B : Below A₀ base outer h₀) (F : Fr h₀ L s.heap m) (X : (K w.params).In h₀) (N : News h₀ L s.heap news) (T : Top p loose mean mg mb h₀) (hk : cs.kind = .function) (hdp : dp + 10 < recursionLimit)
    {A : SA} {g : G} {R : List Str} {rl : Addr} {pv fv : Int} (S : RAt prog w news A g R rl pv fv) {vs : List Value} {xs : List Str} (hv : Strs vs xs) (hys : xs.length ≤ 200) (hB : ∀ x, (g.succ x).length ≤ 200) (hR : R.length ≤ 1000)
    (hcl : ∀ x ∈ g.nodes, ∀ z ∈ g.succ x, z ∈ g.nodes) (hok : ∀ (i : Nat) (x : Str), xs[i]? = some x → x ∈ g.nodes ∧ (doneAll (g, R) (xs.take i)).1.np x = -1) {self : Addr} (hs : A.self = self)
    (ret : ∀ news' h' tk', Fr h₀ L h' m → News h₀ L h' news' → RAt prog w news' A (doneAll (g, R) xs).1 (doneAll (g, R) xs).2 rl pv (fv + xs.length) → (∀ p ∈ news, ¬ A.foot g p.1 → p.1 ≠ rl → p ∈ news') → Q .none { s with heap := h', toks := tk' }) :
    codeAny (model prog w) (ktrTop dp un gd cn cs L a ccd cl outer) (.call (.ref 210) ⟨.ref self :: vs, []⟩) (fun r s' => match r with | .ok (.ret v) => Q v s' | .ok _ => False | .error e => E e s') s := by
  refine hideG fun zG zK => ?_
  obtain ⟨S, ⟨vsR0, n0, mlR, hvR0⟩, nf⟩ := S
  obtain ⟨e1, e2, e3, e4, t1, t2, t3, t4, t5, t6, m2⟩ := S.dict
  refine zK ?_
  clear zK zG
  have m1 := S.inst
  have ok := S.ok
  subst hs
  have hvl := hv.1
  refine' kp_rest (vs := vs) (binds := fun D => [(Str.ofString "self", .ref A.self), (Str.ofString "nodes", .ref D)]) B F X N T rfl rfl hk ?k6 ?k7 ?k8 ?kV ?kP ?kG ?kB ?_ ?c2 ?c3 ?c4 ?c5
  (case k6 => k_is)
  (case k7 => k_is)
  (case k8 => ktr_room)
  (case kV => exact rfl)
  (case kP => exact peek_tuple (b := fun v => [(Str.ofString "self", .ref A.self), (Str.ofString "nodes", v)]) (by rw [sizeLine_eq]; have := hv.1; omega) (by cases vs <;> rfl))
  (case kG => exact fun _ => rfl)
  (case c5 => decide)
  (case kB => exact fun _ => locs rfl)
  (case c2 => exact rfl)
  (case c3 => exact rfl)
  (case c4 => exact rfl)
  intro D' g' L' h' l1 FG' F' N' B' X' T'
  refine noE ?_
  refine hideQ fun _ _ => ?_
  have fD : ¬ A.foot g D' := S.not_foot (fun p hp => Nat.ne_of_lt (l1 p hp))
  have nD : D' ≠ rl := (Nat.ne_of_lt (l1 _ mlR)).symm
  have S1 : SAt prog w ((D', seqObj "tuple" vs 0) :: news) A g (.ref rl) pv fv := S.cons (fun p hp => Nat.ne_of_lt (l1 p hp))
  k_steps
  refine For_invV g' rfl rfl ?_
  refine' ld ?q1 ?q2 ?_
  (case q1 => k_asm)
  (case q2 => exact rfl)
  refine' iter_tuple (vs := vs) (n := 0) (fun i m₁ news₁ => All5 (SAt prog w news₁ A (doneAll (g, R) (xs.take i)).1 (.ref rl) pv (fv + i)) ((∃ vsR n, (rl, listOf vsR.toArray n) ∈ news₁ ∧ Strs vsR (doneAll (g, R) (xs.take i)).2)) (m₁ (Str.ofString "self") = some (.ref A.self)) (m₁ (Str.ofString "n2i") = some (.ref A.d2)) ((∀ p ∈ news, ¬ A.foot g p.1 → p.1 ≠ rl → p ∈ news₁))) rfl ?F ?N ?M ?j0 ?turn ?done
  (case F => k_asm)
  (case N => k_asm)
  (case M => exact .head _)
  (case j0 =>
    refine ⟨?_, ⟨vsR0, n0, .tail _ mlR, hvR0⟩, rfl, rfl, fun p hp _ _ => .tail _ hp⟩
    have : fv + ((0 : Nat) : Int) = fv := by omega
    rw [this]; exact S1)
  (case turn =>
    intro i v m₁ news₁ h tk I io hvi hJ hl hnI F₁ N₁
    refine hideG fun zG zK => ?_
    obtain ⟨S2, ⟨vsR2, nR2, mR2, hsR2⟩, hm1, hm2, hk2⟩ := hJ
    obtain ⟨x, hx⟩ : ∃ x, xs[i]? = some x := by
      have : i < xs.length := by
        rw [← hvl]
        exact (List.getElem?_eq_some_iff.mp hvi).1
      exact ⟨xs[i], by simp [this]⟩
    obtain ⟨tx, hvx⟩ := hv.2 i x hx
    rw [hvi] at hvx
    obtain rfl := Option.some.inj hvx
    obtain ⟨hxg, hnp⟩ := hok i x hx
    refine zK ?_
    clear zK zG
    have hfold : doneAll (g, R) (xs.take (i + 1)) = doneOne (doneAll (g, R) (xs.take i)) x := by
      unfold doneAll
      rw [List.take_add_one, hx, Option.toList_some, List.foldl_append]; rfl
    rw [hfold]
    obtain ⟨sh1, sh2, sh3⟩ := doneAll_shape 200 (g, R) hB (xs.take i)
    have htake : (xs.take i).length ≤ 200 := by rw [List.length_take]; omega
    generalize doneAll (g, R) (xs.take i) = st at S2 hsR2 hnp sh1 sh2 sh3 ⊢
    refine hideG fun zG zK => ?_
    obtain ⟨g2, R2⟩ := st
    dsimp only at S2 hsR2 hnp sh1 sh2 sh3
    have hx2 : x ∈ g2.nodes := by rw [sh1]; exact hxg
    have fI : ¬ A.foot g2 I := S2.not_foot hnI
    have ft : ∀ b, A.foot g2 b ↔ A.foot g b := foot_nodes sh1
    have okl := S2.ok
    obtain ⟨tx3, tn3, mi3⟩ := (S2.node x hx2).info
    rw [hnp] at mi3
    have md3 := (S2.node x hx2).dict
    obtain ⟨vsx, nx, ml3, hs3⟩ := (S2.node x hx2).lst
    obtain ⟨o3, m33, hd3⟩ := S2.d2
    refine zK ?_
    clear zK zG
    have lo3 := S2.lo2
    have hv3 := S2.valueAt hx2
    have neI : I ≠ A.ia x := fun e => fI (.inr (.inr (.inr ⟨x, hx2, .inl e⟩)))
    have nela : A.la x ≠ A.ia x := (S2.ia_ne_la hx2 hx2).symm
    have nedd : A.dd x ≠ A.ia x := (S2.ia_ne_dd hx2 hx2).symm
    have F2 := know F₁ (y := Str.ofString "n2i") (v := .ref A.d2) hm2
    have F3 := know F2 (y := Str.ofString "self") (v := .ref A.self) hm1
    clear F₁ F2
    refine hideQ fun _ _ => ?_
    k_steps
    refine Stop.of ?_
    have S3 : ∀ tn, SAt prog w ((I, io) :: setAt news₁ (A.ia x) (niObj (A.dd x) (A.la x) x tx3 (-2) tn)) A (setNp g2 x (-2)) (.ref rl) pv (fv + i) := fun tn => (S2.setInfo hx2 tx3 tn (-2)).cons (nes_set hnI)
    refine' iter_list (vs := vsx) (n := nx) (fun j m₂ news₂ => All5 (SAt prog w news₂ A (((g2.succ x).take j).foldl decr (setNp g2 x (-2), R2)).1 (.ref rl) pv (fv + i)) ((∃ vsR n, (rl, listOf vsR.toArray n) ∈ news₂ ∧ Strs vsR (((g2.succ x).take j).foldl decr (setNp g2 x (-2), R2)).2)) (m₂ (Str.ofString "self") = some (.ref A.self)) (m₂ (Str.ofString "n2i") = some (.ref A.d2)) ((∀ p ∈ (I, io) :: news₁, ¬ A.foot g p.1 → p.1 ≠ rl → p ∈ news₂))) rfl ?Fb ?Nb ?Mb ?jb ?turnb ?doneb
    (case Fb => k_asm)
    (case Nb => k_asm)
    (case Mb => exact .tail _ (mem_set_ne nela ml3))
    (case jb =>
      refine ⟨S3 _, ⟨vsR2, nR2, .tail _ (mem_set_ne (fun e => nf ((ft rl).mp (.inr (.inr (.inr ⟨x, hx2, .inl e⟩))))) mR2), hsR2⟩, rfl, rfl, fun p hp hf _ => ?_⟩
      rcases List.mem_cons.mp hp with rfl | hp
      · exact .head _
      · exact .tail _ (mem_set_ne (fun e => hf ((ft p.1).mp (.inr (.inr (.inr ⟨x, hx2, .inl e⟩))))) hp))
    (case turnb =>
      intro j v m₂ news₂ h tk I2 io2 hvj hJ2 hl2 hnI2 F₂ N₂
      refine hideG fun zG zK => ?_
      obtain ⟨S4, ⟨vsR4, nR4, mR4, hsR4⟩, hm3, hm4, hk4⟩ := hJ2
      obtain ⟨z, hz⟩ : ∃ z, (g2.succ x)[j]? = some z := by
        have : j < (g2.succ x).length := by
          rw [← hs3.1]
          exact (List.getElem?_eq_some_iff.mp hvj).1
        exact ⟨(g2.succ x)[j], by simp [this]⟩
      obtain ⟨tz, hvz⟩ := hs3.2 j z hz
      rw [hvj] at hvz
      obtain rfl := Option.some.inj hvz
      refine zK ?_
      clear zK zG
      have hfold2 : ((g2.succ x).take (j + 1)).foldl decr (setNp g2 x (-2), R2) = decr (((g2.succ x).take j).foldl decr (setNp g2 x (-2), R2)) z := by
        rw [List.take_add_one, hz, Option.toList_some, List.foldl_append]; rfl
      rw [hfold2]
      obtain ⟨th1, th2, th3⟩ := decr_shape (setNp g2 x (-2), R2) ((g2.succ x).take j)
      have hzs : z ∈ g.nodes := hcl x hxg z (by rw [← sh2]; exact List.mem_of_getElem? hz)
      have hlen : ((g2.succ x).take j).length ≤ 200 := by
        have := hB x
        rw [← sh2] at this
        rw [List.length_take]; omega
      generalize ((g2.succ x).take j).foldl decr (setNp g2 x (-2), R2) = st2 at S4 hsR4 th1 th2 th3 ⊢
      refine hideG fun zG zK => ?_
      obtain ⟨g4, R4⟩ := st2
      dsimp only at S4 hsR4 th1 th2 th3
      have th1' : g4.nodes = g2.nodes := th1
      have hz4 : z ∈ g4.nodes := by rw [th1', sh1]; exact hzs
      have fI2 : ¬ A.foot g4 I2 := S4.not_foot hnI2
      have ft4 : ∀ b, A.foot g4 b ↔ A.foot g b := foot_nodes (th1'.trans sh1)
      have ok4 := S4.ok
      obtain ⟨ty4, tn4, mi4⟩ := (S4.node z hz4).info
      have md4 := (S4.node z hz4).dict
      obtain ⟨o4, m44, hd4⟩ := S4.d2
      have hv4 := S4.valueAt hz4
      obtain ⟨f1, f2, f3, f4, u1, u2, u3, u4, u5, u6, mD4⟩ := S4.dict
      refine zK ?_
      clear zK zG
      have mS4 := S4.inst
      have ne41 : I2 ≠ A.ia z := fun e => fI2 (.inr (.inr (.inr ⟨z, hz4, .inl e⟩)))
      have ne42 : A.dd z ≠ A.ia z := (S4.ia_ne_dd hz4 hz4).symm
      have ne43 : A.self ≠ A.ia z := S4.self_ne_ia hz4
      have ne44 : A.ds ≠ A.ia z := S4.ds_ne_ia hz4
      have nf4 : ¬ A.foot g4 rl := fun hf => nf ((ft4 rl).mp hf)
      have ne45 : rl ≠ A.ia z := fun e => nf4 (.inr (.inr (.inr ⟨z, hz4, .inl e⟩)))
      have ne46 : I2 ≠ rl := fun e => hnI2 _ mR4 e.symm
      have hvR4 : vsR4.length ≤ 100000 := by rw [hsR4.1]; omega
      have F4 := know F₂ (y := Str.ofString "n2i") (v := .ref A.d2) hm4
      have F5 := know F4 (y := Str.ofString "self") (v := .ref A.self) hm3
      clear F₂ F4 F3
      have hxg4 : x ∈ g4.nodes := by rw [th1']; exact hx2
      have ne47 : A.la x ≠ A.ia z := (S4.ia_ne_la hz4 hxg4).symm
      have ne48 : A.la x ≠ rl := fun e => nf4 (.inr (.inr (.inr ⟨x, hxg4, .inr (.inr e.symm)⟩)))
      have S5 := fun tn => S4.setInfo hz4 ty4 tn (g4.np z - 1)
      have kp : ∀ p ∈ (I, io) :: news₁, ¬ A.foot g p.1 → p.1 ≠ rl → p ∈ news₂ ∧ p.1 ≠ A.ia z ∧ p.1 ≠ I2 := fun p hp hf hr => by
        have k4 := hk4 p hp hf hr
        exact ⟨k4, fun e => hf ((ft4 p.1).mp (.inr (.inr (.inr ⟨z, hz4, .inl e⟩)))), hnI2 p k4⟩
      refine hideQ fun _ _ => ?_
      k_steps
      · rename (g4.np z - 1 = 0) => hz0
        have e5 : vsR4.toArray.push (Value.str z tz) = (vsR4 ++ [Value.str z tz]).toArray := by simp
        refine' turn_next ?Fc1 ?Nc1 (.head _) (.tail _ (mem_set_ne ne48 (mem_set_ne ne47 hl2))) (hnI2 _ hl2) ?Jc1
        (case Fc1 => k_asm)
        (case Nc1 => k_asm)
        have S6 := fun tn o => ((S5 tn).setOut (b := rl) nf4 o).cons (x := I2) (o := io2) (nes_set (nes_set hnI2))
        refine ⟨(S6 _ _).sub ((S6 _ _).ok.dropI I2) (fun p hp hf => mem_dropI.mpr ⟨hp, fun e => fI2 (e ▸ hf)⟩), ⟨vsR4 ++ [Value.str z tz], nR4 + 1, ?_, ?_⟩, rfl, rfl, fun p hp hf hr => ?_⟩
        · rw [← e5]
          exact mem_dropI.mpr ⟨.tail _ (mem_set_self (mem_set_ne ne45 mR4)), ne46.symm⟩
        · show Strs _ (if g4.np z - 1 = 0 then R4 ++ [z] else R4)
          rw [if_pos hz0]
          exact hsR4.push z tz
        · obtain ⟨k1, k2, k3⟩ := kp p hp hf hr
          exact mem_dropI.mpr ⟨.tail _ (mem_set_ne hr (mem_set_ne k2 k1)), k3⟩
      · rename (¬ (g4.np z - 1 = 0)) => hz0
        refine' turn_next ?Fc2 ?Nc2 (.head _) (.tail _ (mem_set_ne ne47 hl2)) (hnI2 _ hl2) ?Jc2
        (case Fc2 => k_asm)
        (case Nc2 => k_asm)
        have S6 := fun tn => (S5 tn).cons (x := I2) (o := io2) (nes_set hnI2)
        refine ⟨(S6 _).sub ((S6 _).ok.dropI I2) (fun p hp hf => mem_dropI.mpr ⟨hp, fun e => fI2 (e ▸ hf)⟩), ⟨vsR4, nR4, ?_, ?_⟩, rfl, rfl, fun p hp hf hr => ?_⟩
        · exact mem_dropI.mpr ⟨.tail _ (mem_set_ne ne45 mR4), ne46.symm⟩
        · show Strs _ (if g4.np z - 1 = 0 then R4 ++ [z] else R4)
          rw [if_neg hz0]
          exact hsR4
        · obtain ⟨k1, k2, k3⟩ := kp p hp hf hr
          exact mem_dropI.mpr ⟨.tail _ (mem_set_ne k2 k1), k3⟩)
    (case doneb =>
      intro m₂ news₂ h tk hJ2 hlD2 F₂ N₂
      refine hideG fun zG zK => ?_
      obtain ⟨S4, ⟨vsR4, nR4, mR4, hsR4⟩, hm3, hm4, hk4⟩ := hJ2
      rw [hs3.1, List.take_length] at S4 hsR4
      obtain ⟨f1, f2, f3, f4, u1, u2, u3, u4, u5, u6, mD4⟩ := S4.dict
      refine zK ?_
      clear zK zG
      have mS4 := S4.inst
      have ok4 := S4.ok
      have F4 := know F₂ (y := Str.ofString "self") (v := .ref A.self) hm3
      clear F₂
      have sh4 := (doneOne_shape (g2, R2) x).1
      have ft5 : ∀ b, A.foot ((g2.succ x).foldl decr (setNp g2 x (-2), R2)).1 b ↔ A.foot g b := foot_nodes (sh4.trans sh1)
      have fIg : ¬ A.foot g I := fun hf => fI ((ft I).mpr hf)
      have kI := hk4 (I, io) (.head _) fIg (fun e => hnI _ mR2 e.symm)
      have kD := hk4 (D', _) (.tail _ hl) fD nD
      have nds : ∀ {b : Addr}, ¬ A.foot g b → b ≠ A.ds := fun hf e => hf (.inr (.inl e))
      have eci : fv + ((i + 1 : Nat) : Int) = fv + (i : Int) + 1 := by omega
      k_steps
      refine' turn_next ?Fc3 ?Nc3 (mem_set_ne (nds fIg) kI) (mem_set_ne (nds fD) kD) (hnI _ hl) ?Jc3
      (case Fc3 => k_asm)
      (case Nc3 => k_asm)
      rw [eci]
      refine ⟨S4.setDs.sub (S4.setDs.ok.dropI I) (fun p hp hf => mem_dropI.mpr ⟨hp, fun e => fIg ((ft5 I).mp (e ▸ hf))⟩), ⟨vsR4, nR4, mem_dropI.mpr ⟨mem_set_ne (nds nf) mR4, fun e => hnI _ mR2 e⟩, hsR4⟩, rfl, ?_, fun p hp hf hr => ?_⟩
      · exact hm4
      · have k2 := hk2 p hp hf hr
        exact mem_dropI.mpr ⟨mem_set_ne (nds hf) (hk4 p (.tail _ k2) hf hr), hnI p k2⟩))
  (case done =>
    intro m₁ news₁ h tk hJ hlD F₁ N₁
    refine hideG fun zG zK => ?_
    obtain ⟨S2, ⟨vsR2, nR2, mR2, hsR2⟩, hm1, hm2, hk2⟩ := hJ
    refine zK ?_
    clear zK zG
    rw [hvl, List.take_length] at S2 hsR2
    have sh := (doneAll_shape 200 (g, R) hB xs).1
    k_steps
    exact ret news₁ _ _ (by k_asm) (by k_asm) ⟨S2, ⟨vsR2, nR2, mR2, hsR2⟩, fun hf => nf ((foot_nodes sh rl).mp hf)⟩ hk2)

end
end
section
open PySem
/-! the plain law: what the rounds give out -/
noncomputable def live (g : G) (D : List Str) : List Str := g.nodes.filter fun y => decide (y ∉ D)
noncomputable def pend (g : G) (D : List Str) : List Str := (live g D).flatMap g.succ
structure Kahn (g g' : G) (R D : List Str) : Prop where
  nodes : g'.nodes = g.nodes
  succ : g'.succ = g.succ
  dn : D.Nodup
  dsub : ∀ x ∈ D, x ∈ g.nodes
  rn : R.Nodup
  rsub : ∀ x ∈ R, x ∈ g.nodes
  rd : ∀ x ∈ R, x ∉ D
  np : ∀ x ∈ g.nodes, x ∉ D → g'.np x = ((pend g D).count x : Int)
  ready : ∀ x ∈ g.nodes, x ∉ D → (x ∈ R ↔ g'.np x = 0)
  down : ∀ x ∈ D, ∀ y ∈ g.nodes, x ∈ g.succ y → y ∈ D
/-- the decrements of one list of targets, `rest` what is still to come -/
theorem decr_fold (T : Str → Prop) (rest : List Str) : ∀ (zs : List Str) (st : G × List Str), (∀ z, T z → st.1.np z = ((zs ++ rest).count z : Int)) → (∀ z ∈ zs, T z) → (∀ z, T z → (z ∈ st.2 ↔ st.1.np z = 0)) → st.2.Nodup → (∀ z ∈ st.2, T z) →
    (∀ z, T z → (zs.foldl decr st).1.np z = (rest.count z : Int)) ∧ (∀ z, T z → (z ∈ (zs.foldl decr st).2 ↔ (zs.foldl decr st).1.np z = 0)) ∧ (zs.foldl decr st).2.Nodup ∧ (∀ z ∈ (zs.foldl decr st).2, T z) ∧ (∀ y, ¬ T y → (zs.foldl decr st).1.np y = st.1.np y)
  | [], st, h1, _, h3, h4, h5 => ⟨h1, h3, h4, h5, fun _ _ => rfl⟩
  | z :: zs, st, h1, h2, h3, h4, h5 => by
    have hz : T z := h2 z (.head _)
    have hnp : st.1.np z = ((zs ++ rest).count z : Int) + 1 := by
      rw [h1 z hz, List.cons_append, List.count_cons_self]; omega
    have hzR : z ∉ st.2 := fun hm => by
      have := (h3 z hz).mp hm
      omega
    have key := decr_fold T rest zs (decr st z) ?_ (fun y hy => h2 y (.tail _ hy)) ?_ ?_ ?_
    · refine hideG fun zG zK => ?_
      obtain ⟨a, b, c, d, e⟩ := key
      refine zK ?_
      clear zK zG
      refine ⟨a, b, c, d, fun y hy => (e y hy).trans ?_⟩
      show (if y = z then st.1.np z - 1 else st.1.np y) = _
      rw [if_neg (fun q => hy (by rw [q]; exact hz))]
    · intro y hy
      show (if y = z then st.1.np z - 1 else st.1.np y) = _
      by_cases q : y = z
      · subst q; rw [if_pos rfl, hnp]; omega
      · rw [if_neg q, h1 y hy, List.cons_append, List.count_cons_of_ne (fun e => q e.symm)]
    · intro y hy
      show (y ∈ (if st.1.np z - 1 = 0 then st.2 ++ [z] else st.2)) ↔ (if y = z then st.1.np z - 1 else st.1.np y) = 0
      by_cases q : y = z
      · subst q
        rw [if_pos rfl]
        split
        · rename_i e; simp [e]
        · rename_i e; exact ⟨fun hm => absurd hm hzR, fun h => absurd h e⟩
      · rw [if_neg q, ← h3 y hy]
        split
        · simp [q]
        · exact Iff.rfl
    · show (if st.1.np z - 1 = 0 then st.2 ++ [z] else st.2).Nodup
      split
      · exact List.nodup_append.mpr ⟨h4, by simp, fun a ha b hb => by rw [List.mem_singleton.mp hb]; exact fun e => hzR (e ▸ ha)⟩
      · exact h4
    · show ∀ y ∈ (if st.1.np z - 1 = 0 then st.2 ++ [z] else st.2), T y
      split
      · intro y hy
        rcases List.mem_append.mp hy with h | h
        · exact h5 y h
        · rw [List.mem_singleton.mp h]; exact hz
      · exact h5
theorem mem_live {g : G} {D : List Str} {y : Str} : y ∈ live g D ↔ y ∈ g.nodes ∧ y ∉ D := by
  unfold live; rw [List.mem_filter, decide_eq_true_eq]
theorem live_perm {g : G} (hn : g.nodes.Nodup) {D : List Str} {x : Str} (hx : x ∈ live g D) : (live g D).Perm (x :: live g (D ++ [x])) := by
  have h1 : (live g D).Nodup := List.Nodup.sublist List.filter_sublist hn
  have h2 : live g (D ++ [x]) = (live g D).filter fun y => decide (y ≠ x) := by
    unfold live
    rw [List.filter_filter]
    refine List.filter_congr fun y _ => ?_
    by_cases a : y ∈ D <;> by_cases b : y = x <;> simp [a, b]
  rw [h2]
  have h3 : (live g D).filter (fun y => decide (y ≠ x)) = (live g D).erase x := by
    rw [List.Nodup.erase_eq_filter h1]
    refine List.filter_congr fun y _ => ?_
    by_cases b : y = x <;> simp [b]
  rw [h3]
  exact List.perm_cons_erase hx
theorem pend_count {g : G} (hn : g.nodes.Nodup) {D : List Str} {x : Str} (hx : x ∈ live g D) (z : Str) : (pend g D).count z = (g.succ x ++ pend g (D ++ [x])).count z := by
  have := (live_perm hn hx).flatMap_right g.succ
  exact this.count_eq z
theorem mem_pend {g : G} {D : List Str} {y z : Str} (hy : y ∈ live g D) (hz : z ∈ g.succ y) : (pend g D).count z ≠ 0 := by
  have : z ∈ pend g D := List.mem_flatMap.mpr ⟨y, hy, hz⟩
  exact Nat.ne_of_gt (List.count_pos_iff.mpr this)
theorem outs_np (R : List Str) : ∀ (g : G) (y : Str), (outs R g).np y = if y ∈ R then -1 else g.np y := by
  induction R with
  | nil => intro g y; simp [outs]
  | cons x R ih =>
    intro g y
    have : outs (x :: R) g = outs R (setNp g x (-1)) := rfl
    rw [this, ih]
    show (if y ∈ R then -1 else (if y = x then -1 else g.np y)) = _
    by_cases a : y ∈ R <;> by_cases b : y = x <;> simp [a, b]
theorem outs_succ (R : List Str) (g : G) : (outs R g).succ = g.succ := by
  unfold outs
  induction R generalizing g with
  | nil => rfl
  | cons x R ih => rw [List.foldl_cons, ih]; rfl
structure Mid (g g' : G) (R D : List Str) (i : Nat) (st : G × List Str) : Prop where
  nodes : st.1.nodes = g.nodes
  succ : st.1.succ = g.succ
  left : ∀ y ∈ R, y ∉ R.take i → st.1.np y = -1
  np : ∀ z, (z ∈ g.nodes ∧ z ∉ D ∧ z ∉ R) → st.1.np z = ((pend g (D ++ R.take i)).count z : Int)
  ready : ∀ z, (z ∈ g.nodes ∧ z ∉ D ∧ z ∉ R) → (z ∈ st.2 ↔ st.1.np z = 0)
  rn : st.2.Nodup
  rsub : ∀ z ∈ st.2, z ∈ g.nodes ∧ z ∉ D ∧ z ∉ R
theorem Kahn.mid {g g' : G} {R D : List Str} (hn : g.nodes.Nodup) (hcl : ∀ x ∈ g.nodes, ∀ z ∈ g.succ x, z ∈ g.nodes) (k : Kahn g g' R D) : ∀ i, i ≤ R.length → Mid g g' R D i (doneAll (outs R g', []) (R.take i))
  | 0, _ => by
    rw [List.take_zero]
    refine ⟨(outs_nodes R g').trans k.nodes, (outs_succ R g').trans k.succ, fun y hy _ => ?_, fun z hz => ?_, fun z hz => ?_, List.nodup_nil, fun z hz => nomatch hz⟩
    · show (outs R g').np y = -1
      rw [outs_np, if_pos hy]
    · show (outs R g').np z = _
      rw [outs_np, if_neg hz.2.2, List.take_zero, List.append_nil]
      exact k.np z hz.1 hz.2.1
    · refine ⟨fun h => (nomatch h), fun h => ?_⟩
      have h : (outs R g').np z = 0 := h
      rw [outs_np, if_neg hz.2.2] at h
      exact absurd ((k.ready z hz.1 hz.2.1).mpr h) hz.2.2
  | i + 1, hi => by
    have m := Kahn.mid hn hcl k i (Nat.le_of_succ_le hi)
    obtain ⟨x, hx⟩ : ∃ x, R[i]? = some x := ⟨R[i], by simp [hi]⟩
    have htake : R.take (i + 1) = R.take i ++ [x] := by rw [List.take_add_one, hx]; rfl
    have hxR : x ∈ R := List.mem_of_getElem? hx
    have hxi : x ∉ R.take i := by
      intro hm
      obtain ⟨j, hj⟩ := List.getElem?_of_mem hm
      rw [List.getElem?_take] at hj
      split at hj
      · rename_i hji
        have := (List.getElem?_inj (i := j) (j := i) (by omega) k.rn).mp (hj.trans hx.symm)
        omega
      · cases hj
    have hfold : doneAll (outs R g', []) (R.take (i + 1)) = doneOne (doneAll (outs R g', []) (R.take i)) x := by
      unfold doneAll
      rw [htake, List.foldl_append]; rfl
    rw [hfold]
    generalize doneAll (outs R g', []) (R.take i) = st at m ⊢
    obtain ⟨gi, Ri⟩ := st
    have hxg := k.rsub x hxR
    have hxD := k.rd x hxR
    have hlive : x ∈ live g (D ++ R.take i) := mem_live.mpr ⟨hxg, fun h => (List.mem_append.mp h).elim hxD hxi⟩
    have hlive0 : x ∈ live g D := mem_live.mpr ⟨hxg, hxD⟩
    have hT : ∀ z ∈ g.succ x, z ∈ g.nodes ∧ z ∉ D ∧ z ∉ R := fun z hz => by
      refine ⟨hcl x hxg z hz, fun hzD => hxD (k.down z hzD x hxg hz), fun hzR => ?_⟩
      have h0 := (k.ready z (k.rsub z hzR) (k.rd z hzR)).mp hzR
      have h1 := k.np z (k.rsub z hzR) (k.rd z hzR)
      have h2 := mem_pend hlive0 hz
      omega
    have hne : ∀ z, (z ∈ g.nodes ∧ z ∉ D ∧ z ∉ R) → z ≠ x := fun z hz e => hz.2.2 (e ▸ hxR)
    have hsx : gi.succ x = g.succ x := by have := m.succ; dsimp only at this; rw [this]
    have key := decr_fold (fun z => z ∈ g.nodes ∧ z ∉ D ∧ z ∉ R) (pend g (D ++ R.take i ++ [x])) (g.succ x) (setNp gi x (-2), Ri) (fun z hz => ?_) hT (fun z hz => ?_) m.rn m.rsub
    · have hone : doneOne (gi, Ri) x = (g.succ x).foldl decr (setNp gi x (-2), Ri) := by
        show (gi.succ x).foldl decr _ = _
        rw [hsx]
      refine hideG fun zG zK => ?_
      obtain ⟨a, b, c, d, e⟩ := key
      obtain ⟨s1, s2, _⟩ := doneOne_shape (gi, Ri) x
      refine zK ?_
      clear zK zG
      rw [hone] at s1 s2 ⊢
      refine ⟨s1.trans m.nodes, s2.trans m.succ, fun y hy hyi => ?_, fun z hz => ?_, b, c, d⟩
      · have hyx : y ≠ x := fun q => hyi (by rw [htake, q]; exact List.mem_append_right _ (.head _))
        refine (e y (fun h => h.2.2 hy)).trans ?_
        show (if y = x then -2 else gi.np y) = -1
        rw [if_neg hyx]
        exact m.left y hy (fun h => hyi (by rw [htake]; exact List.mem_append_left _ h))
      · rw [htake, ← List.append_assoc]
        exact a z hz
    · show (if z = x then -2 else gi.np z) = _
      rw [if_neg (hne z hz), ← pend_count hn hlive z]
      exact m.np z hz
    · show z ∈ Ri ↔ (if z = x then -2 else gi.np z) = 0
      rw [if_neg (hne z hz)]
      exact m.ready z hz
theorem Kahn.round {g g' : G} {R D : List Str} (hn : g.nodes.Nodup) (hcl : ∀ x ∈ g.nodes, ∀ z ∈ g.succ x, z ∈ g.nodes) (k : Kahn g g' R D) :
    (∀ (i : Nat) (x : Str), R[i]? = some x → x ∈ (outs R g').nodes ∧ (doneAll (outs R g', []) (R.take i)).1.np x = -1) ∧ Kahn g (doneAll (outs R g', []) R).1 (doneAll (outs R g', []) R).2 (D ++ R) := by
  constructor
  · intro i x hx
    have hi : i < R.length := (List.getElem?_eq_some_iff.mp hx).1
    have m := k.mid hn hcl i (Nat.le_of_lt hi)
    have hxR := List.mem_of_getElem? hx
    refine ⟨by rw [outs_nodes, k.nodes]; exact k.rsub x hxR, m.left x hxR fun hm => ?_⟩
    obtain ⟨j, hj⟩ := List.getElem?_of_mem hm
    rw [List.getElem?_take] at hj
    split at hj
    · rename_i hji
      have := (List.getElem?_inj (i := j) (j := i) (by omega) k.rn).mp (hj.trans hx.symm)
      omega
    · cases hj
  · have m := k.mid hn hcl R.length (Nat.le_refl _)
    rw [List.take_length] at m
    generalize doneAll (outs R g', []) R = st at m ⊢
    refine ⟨m.nodes, m.succ, List.nodup_append.mpr ⟨k.dn, k.rn, fun a ha b hb e => k.rd b hb (e ▸ ha)⟩, fun x hx => ?_, m.rn, fun x hx => (m.rsub x hx).1, fun x hx => ?_, fun x hx hxd => ?_, fun x hx hxd => ?_, fun x hx y hy hxy => ?_⟩
    · exact (List.mem_append.mp hx).elim (k.dsub x) (k.rsub x)
    · exact fun h => (List.mem_append.mp h).elim (m.rsub x hx).2.1 (m.rsub x hx).2.2
    · have := m.np x ⟨hx, fun h => hxd (List.mem_append_left _ h), fun h => hxd (List.mem_append_right _ h)⟩
      rw [List.take_length] at this
      exact this
    · exact m.ready x ⟨hx, fun h => hxd (List.mem_append_left _ h), fun h => hxd (List.mem_append_right _ h)⟩
    · rcases List.mem_append.mp hx with h | h
      · exact List.mem_append_left _ (k.down x h y hy hxy)
      · by_cases hyD : y ∈ D
        · exact List.mem_append_left _ hyD
        · have h0 := (k.ready x (k.rsub x h) (k.rd x h)).mp h
          have h1 := k.np x (k.rsub x h) (k.rd x h)
          have h2 := mem_pend (mem_live.mpr ⟨hy, hyD⟩) hxy
          omega
theorem Kahn.fin {g g' : G} {D : List Str} (k : Kahn g g' [] D) {x : Str} (hx : x ∈ g.nodes) : x ∈ D ↔ ∀ y ∈ g.nodes, x ∈ g.succ y → y ∈ D := by
  refine ⟨fun h y hy hxy => k.down x h y hy hxy, fun h => ?_⟩
  by_cases hd : x ∈ D
  · exact hd
  · exfalso
    have h0 : g'.np x ≠ 0 := fun e => by
      have := (k.ready x hx hd).mpr e
      cases this
    have h1 := k.np x hx hd
    have h2 : x ∈ pend g D := by
      by_cases q : x ∈ pend g D
      · exact q
      · rw [List.count_eq_zero_of_not_mem q] at h1
        exact absurd h1 h0
    obtain ⟨y, hy, hxy⟩ := List.mem_flatMap.mp h2
    have hy' := mem_live.mp hy
    exact hy'.2 (h y hy'.1 hxy)
theorem Kahn.start {g : G} (hn : g.nodes.Nodup) (hnp : ∀ x ∈ g.nodes, g.np x = ((g.nodes.flatMap g.succ).count x : Int)) : Kahn g g (g.nodes.filter fun x => decide (g.np x = 0)) [] := by
  have hl : live g [] = g.nodes := by unfold live; simp
  refine ⟨rfl, rfl, List.nodup_nil, fun x hx => (nomatch hx), List.Nodup.sublist List.filter_sublist hn, fun x hx => (List.mem_filter.mp hx).1, fun x _ h => (nomatch h), fun x hx _ => ?_, fun x hx _ => ?_, fun x hx => (nomatch hx)⟩
  · unfold pend; rw [hl]; exact hnp x hx
  · rw [List.mem_filter, decide_eq_true_eq]; exact ⟨fun h => h.2, fun h => ⟨hx, h⟩⟩
theorem len_le : ∀ (l m : List Str), l.Nodup → (∀ x ∈ l, x ∈ m) → l.length ≤ m.length
  | [], _, _, _ => Nat.zero_le _
  | a :: l, m, hn, hs => by
    have ha : a ∈ m := hs a (.head _)
    obtain ⟨hal, hl⟩ := List.nodup_cons.mp hn
    have := len_le l (m.erase a) hl fun x hx => (List.mem_erase_of_ne (fun e => hal (by rw [← e]; exact hx))).mpr (hs x (.tail _ hx))
    rw [List.length_erase_of_mem ha] at this
    have hpos : 0 < m.length := List.length_pos_of_mem ha
    rw [List.length_cons]; omega
/-- the rounds go on only while something is left -/
theorem Kahn.less {g g' : G} {R D : List Str} (k : Kahn g g' R D) : D.length + R.length ≤ g.nodes.length := by
  have hnd : (D ++ R).Nodup := List.nodup_append.mpr ⟨k.dn, k.rn, fun a ha b hb e => k.rd b hb (e ▸ ha)⟩
  rw [← List.length_append]
  exact len_le _ _ hnd fun x hx => (List.mem_append.mp hx).elim (k.dsub x) (k.rsub x)
end
section
open PySem PySem.W PyProof.Rows PySem.Calls PySem.Spec
open MW
theorem foot_la {A : SA} {g : G} {y : Str} (h : y ∈ g.nodes) : A.foot g (A.la y) := .inr (.inr (.inr ⟨y, h, .inr (.inr rfl)⟩))
theorem addr_lt3 {a b c d : Addr} (h1 : a < b) (h2 : b < c) (h3 : c < d) : a < d := Nat.lt_trans h1 (Nat.lt_trans h2 h3)
/-- the fixed places of the search for a cycle -/
structure FA where
  sa : Addr
  ia : Addr
  se : Addr
  nd : Addr
  I : Addr
  io : Obj
/-- its state -/
structure FI (prog : Program) (w : World) (l : Led) (A : SA) (g : G) (rv : Value) (pv fv : Int) (frs kpl : Led) (B : FA) (xa ti : Str → Addr) (stk : List Str) (sn : Str → Bool) (P : Str → Nat) : Prop where
  S : SAt prog w l A g rv pv fv
  fr : ∀ p ∈ frs, p ∈ l
  low : ∀ b, A.foot g b → b < B.sa
  lowf : ∀ p ∈ frs, p.1 < B.sa
  frf : ∀ p ∈ frs, ¬ A.foot g p.1
  kp : ∀ p ∈ kpl, p ∈ l
  lowk : ∀ p ∈ kpl, p.1 < B.sa
  frk : ∀ p ∈ kpl, ∀ q ∈ frs, q.1 ≠ p.1
  o1 : B.sa < B.ia
  o2 : B.ia < B.se
  o3 : B.se < B.nd
  stack : ∃ vs n, (B.sa, seqObj "list" vs n) ∈ l ∧ Strs vs stk
  its : ∃ n, (B.ia, seqObj "list" (stk.map fun y => Value.ref (xa y)) n) ∈ l
  it : ∀ y ∈ stk, B.nd < xa y ∧ B.nd < ti y ∧ xa y ≠ B.I ∧ ti y ≠ B.I ∧ (xa y, mwObj (ti y)) ∈ l ∧ (ti y, itObj (A.la y) (P y)) ∈ l
  seen : ∃ o k, (B.se, o) ∈ l ∧ Obj.SetObjOf (PySem.strKind prog w) o sn k ∧ k ≤ (g.nodes.filter sn).length
  n2s : ∃ (o : Obj) (kvs : List (Str × Value)), (B.nd, o) ∈ l ∧ o.IsDictOf (PySem.strKind prog w) kvs ∧ kvs.map (·.1) = stk ∧ ∀ (i : Nat) (y : Str), stk[i]? = some y → ∃ t, kvs[i]? = some (y, Value.int (i : Int) t)
  lnd : (B.nd == sysModules) = false
  hI : (B.I, B.io) ∈ l
  iI : B.sa ≠ B.I ∧ B.ia ≠ B.I ∧ B.se ≠ B.I ∧ B.nd ≠ B.I ∧ (¬ A.foot g B.I) ∧ (∀ p ∈ frs, p.1 ≠ B.I) ∧ ∀ p ∈ kpl, p.1 ≠ B.I
  nodup : stk.Nodup
  sub : ∀ x ∈ stk, sn x = true
  node : ∀ x, sn x = true → x ∈ g.nodes
  p0 : ∀ x, sn x = false → P x = 0
  pd : ∀ x, sn x = true → x ∉ stk → (g.succ x).length ≤ P x
section
variable {prog : Program} {w : World} {l l' : Led} {A : SA} {g : G} {rv : Value} {pv fv : Int} {frs frs' kpl : Led} {B : FA} {xa ti : Str → Addr} {stk : List Str} {sn : Str → Bool} {P : Str → Nat} {y : Str}
theorem FI.sand (H : FI prog w l A g rv pv fv frs kpl B xa ti stk sn P) : B.sa < B.nd := addr_lt3 H.o1 H.o2 H.o3
theorem FI.iand (H : FI prog w l A g rv pv fv frs kpl B xa ti stk sn P) : B.ia < B.nd := Nat.lt_trans H.o2 H.o3
theorem FI.foot_ne (H : FI prog w l A g rv pv fv frs kpl B xa ti stk sn P) {b c : Addr} (hf : A.foot g b) (hc : B.sa ≤ c) : b ≠ c := fun e => absurd (H.low b hf) (Nat.not_lt.mpr (by rw [e]; exact hc))
theorem FI.fr_ne (H : FI prog w l A g rv pv fv frs kpl B xa ti stk sn P) {p : Addr × Obj} {c : Addr} (hp : p ∈ frs) (hc : B.sa ≤ c) : p.1 ≠ c := fun e => absurd (H.lowf p hp) (Nat.not_lt.mpr (by rw [e]; exact hc))
theorem FI.kp_ne (H : FI prog w l A g rv pv fv frs kpl B xa ti stk sn P) {p : Addr × Obj} {c : Addr} (hp : p ∈ kpl) (hc : B.sa ≤ c) : p.1 ≠ c := fun e => absurd (H.lowk p hp) (Nat.not_lt.mpr (by rw [e]; exact hc))
theorem FI.ti_ne (H : FI prog w l A g rv pv fv frs kpl B xa ti stk sn P) {y z : Str} (hy : y ∈ stk) (hz : z ∈ stk) (h : z ≠ y) : ti z ≠ ti y := by
  refine H.S.ok.ne (H.it z hz).2.2.2.2.2 (H.it y hy).2.2.2.2.2 fun q => h ?_
  have h1 : Data.fields #[.ref (A.la z), .int (P z) 0] = Data.fields #[.ref (A.la y), .int (P y) 0] := congrArg Obj.data q
  injection h1 with h1
  have h2 := congrArg (·[0]?) h1
  simp at h2
  exact H.S.laInj z (H.node z (H.sub z hz)) y (H.node y (H.sub y hy)) h2
theorem FI.xa_ne_ti (H : FI prog w l A g rv pv fv frs kpl B xa ti stk sn P) {y z : Str} (hy : y ∈ stk) (hz : z ∈ stk) : xa z ≠ ti y :=
  H.S.ok.ne (H.it z hz).2.2.2.2.1 (H.it y hy).2.2.2.2.2 fun q => by have := congrArg Obj.cls q; simp [mwObj, itObj] at this
/-- the top's iterator has moved on -/
theorem FI.read (H : FI prog w l A g rv pv fv frs kpl B xa ti stk sn P) (ok : Ok l') (hy : y ∈ stk)
    (keep : ∀ p ∈ l, p.1 ≠ ti y → p ∈ l') (new : (ti y, itObj (A.la y) (P y + 1)) ∈ l') : FI prog w l' A g rv pv fv frs kpl B xa ti stk sn (fun z => if z = y then P y + 1 else P z) := by
  refine hideG fun zG zK => ?_
  obtain ⟨f1, f2, f3, f4, f5, f6⟩ := H.it y hy
  have lt : B.sa ≤ ti y := Nat.le_of_lt (Nat.lt_trans H.sand f2)
  have ne : ∀ {b : Addr}, b ≤ B.nd → b ≠ ti y := fun hb e => absurd f2 (Nat.not_lt.mpr (by rw [← e]; exact hb))
  obtain ⟨vs, n, a1, a2⟩ := H.stack
  obtain ⟨n', b1⟩ := H.its
  obtain ⟨so, k, c1, c2, c3⟩ := H.seen
  obtain ⟨do_, kvs, d1, d2, d3, d4⟩ := H.n2s
  refine zK ?_
  clear zK zG
  refine ⟨H.S.sub ok fun p hp hf => keep p hp (H.foot_ne hf lt), fun p hp => keep p (H.fr p hp) (H.fr_ne hp lt),
    H.low, H.lowf, H.frf, fun p hp => keep p (H.kp p hp) (H.kp_ne hp lt), H.lowk, H.frk, H.o1, H.o2, H.o3, ⟨vs, n, keep _ a1 (ne (Nat.le_of_lt H.sand)), a2⟩, ⟨n', keep _ b1 (ne (Nat.le_of_lt H.iand))⟩, fun z hz => ?_, ⟨so, k, keep _ c1 (ne (Nat.le_of_lt H.o3)), c2, c3⟩,
    ⟨do_, kvs, keep _ d1 (ne (Nat.le_refl _)), d2, d3, d4⟩, H.lnd, keep _ H.hI (Ne.symm f4), H.iI, H.nodup, H.sub, H.node, ?_, ?_⟩
  · refine hideG fun zG zK => ?_
    obtain ⟨e1, e2, e3, e4, e5, e6⟩ := H.it z hz
    refine zK ?_
    clear zK zG
    refine ⟨e1, e2, e3, e4, keep _ e5 (H.xa_ne_ti hy hz), ?_⟩
    by_cases q : z = y
    · subst q; rw [if_pos rfl]; exact new
    · rw [if_neg q]; exact keep _ e6 (H.ti_ne hy hz q)
  · intro z hz
    have q : z ≠ y := fun q => by subst q; rw [H.sub z hy] at hz; cases hz
    rw [if_neg q]; exact H.p0 z hz
  · intro z hz hn
    have q : z ≠ y := fun q => hn (q ▸ hy)
    rw [if_neg q]; exact H.pd z hz hn
/-- a node goes onto the stack -/
theorem FI.push (H : FI prog w l A g rv pv fv frs kpl B xa ti stk sn P) (ok : Ok l') (hs : sn y = false) (hy : y ∈ g.nodes) {x it : Addr} {t ti' : Tok} {so : Obj} {k n1 n2 : Nat} {do_ : Obj} {vs : List Value} {kvs : List (Str × Value)}
    (keep : ∀ p ∈ l, p.1 ≠ B.sa → p.1 ≠ B.ia → p.1 ≠ B.se → p.1 ≠ B.nd → p ∈ l') (hvs : Strs vs stk) (m1 : (B.sa, seqObj "list" (vs ++ [.str y t]) n1) ∈ l') (m2 : (B.ia, seqObj "list" (stk.map (fun y => Value.ref (xa y)) ++ [.ref x]) n2) ∈ l')
    (m3 : (B.se, so) ∈ l') (hso : Obj.SetObjOf (PySem.strKind prog w) so (fun z => sn z || decide (z = y)) (k + 1)) (hk : k ≤ (g.nodes.filter sn).length) (m4 : (B.nd, do_) ∈ l') (hdo : do_.IsDictOf (PySem.strKind prog w) (kvs ++ [(y, .int (stk.length : Nat) ti')]))
    (hkv : kvs.map (·.1) = stk) (hkv' : ∀ (i : Nat) (y : Str), stk[i]? = some y → ∃ t, kvs[i]? = some (y, Value.int (i : Int) t)) (m5 : (x, mwObj it) ∈ l') (m6 : (it, itObj (A.la y) 0) ∈ l') (hx : B.nd < x) (hit : B.nd < it) (hxI : x ≠ B.I) (htI : it ≠ B.I) (hnd : g.nodes.Nodup) :
    FI prog w l' A g rv pv fv frs kpl B (fun z => if z = y then x else xa z) (fun z => if z = y then it else ti z) (stk ++ [y]) (fun z => sn z || decide (z = y)) P := by
  have hyn : y ∉ stk := fun h => by rw [H.sub y h] at hs; cases hs
  have ge1 : B.sa ≤ B.ia := Nat.le_of_lt H.o1
  have ge2 : B.sa ≤ B.se := Nat.le_of_lt (Nat.lt_trans H.o1 H.o2)
  have ge3 : B.sa ≤ B.nd := Nat.le_of_lt H.sand
  refine hideG fun zG zK => ?_
  obtain ⟨i1, i2, i3, i4, i5, i6, i7⟩ := H.iI
  refine zK ?_
  clear zK zG
  have big : ∀ {b : Addr} {o : Obj}, (b, o) ∈ l → B.nd < b → (b, o) ∈ l' := fun {b o} hm hb => keep _ hm (Ne.symm (Nat.ne_of_lt (Nat.lt_trans H.sand hb))) (Ne.symm (Nat.ne_of_lt (Nat.lt_trans H.iand hb))) (Ne.symm (Nat.ne_of_lt (Nat.lt_trans H.o3 hb))) (Ne.symm (Nat.ne_of_lt hb))
  refine ⟨H.S.sub ok fun p hp hf => keep p hp (H.foot_ne hf (Nat.le_refl _)) (H.foot_ne hf ge1) (H.foot_ne hf ge2) (H.foot_ne hf ge3), fun p hp => keep p (H.fr p hp) (H.fr_ne hp (Nat.le_refl _)) (H.fr_ne hp ge1) (H.fr_ne hp ge2) (H.fr_ne hp ge3),
    H.low, H.lowf, H.frf, fun p hp => keep p (H.kp p hp) (H.kp_ne hp (Nat.le_refl _)) (H.kp_ne hp ge1) (H.kp_ne hp ge2) (H.kp_ne hp ge3), H.lowk, H.frk, H.o1, H.o2, H.o3, ⟨_, n1, m1, hvs.push y t⟩, ⟨n2, ?_⟩, fun z hz => ?_, ⟨so, k + 1, m3, hso, ?_⟩, ⟨do_, _, m4, hdo, ?_, ?_⟩, H.lnd, keep _ H.hI (Ne.symm i1) (Ne.symm i2) (Ne.symm i3) (Ne.symm i4), H.iI, ?_, ?_, ?_, ?_, ?_⟩
  · have : (stk ++ [y]).map (fun z => Value.ref (if z = y then x else xa z)) = stk.map (fun y => Value.ref (xa y)) ++ [.ref x] := by
      rw [List.map_append, List.map_cons, List.map_nil, if_pos rfl]
      congr 1
      refine List.map_congr_left fun z hz => ?_
      rw [if_neg (show ¬ z = y from fun q => hyn (q ▸ hz))]
    rw [this]; exact m2
  · rcases List.mem_append.mp hz with hz | hz
    · have q : z ≠ y := fun q => hyn (q ▸ hz)
      refine hideG fun zG zK => ?_
      obtain ⟨e1, e2, e3, e4, e5, e6⟩ := H.it z hz
      refine zK ?_
      clear zK zG
      simp only [if_neg q]
      exact ⟨e1, e2, e3, e4, big e5 e1, big e6 e2⟩
    · have q : z = y := List.mem_singleton.mp hz
      subst q
      simp only [if_pos]
      rw [H.p0 z hs]
      exact ⟨hx, hit, hxI, htI, m5, m6⟩
  · have h1 : ∀ (xs : List Str), y ∈ xs → xs.Nodup → (xs.filter fun z => sn z || decide (z = y)).length = (xs.filter sn).length + 1 := by
      intro xs
      induction xs with
      | nil => intro h; cases h
      | cons z r ih =>
        intro hm hn
        obtain ⟨hz, hr⟩ := List.nodup_cons.mp hn
        by_cases q : z = y
        · subst q
          have e2 : (r.filter fun x => sn x || decide (x = z)) = r.filter sn := List.filter_congr fun x hx => by
            have : x ≠ z := fun e => hz (e ▸ hx)
            simp [this]
          rw [List.filter_cons, List.filter_cons]
          simp [hs, e2]
        · have := ih ((List.mem_cons.mp hm).resolve_left fun e => q e.symm) hr
          rw [List.filter_cons, List.filter_cons]
          simp only [q, decide_false, Bool.or_false]
          split <;> simp [this]
    rw [h1 _ hy hnd]
    exact Nat.succ_le_succ hk
  · rw [List.map_append, hkv]; rfl
  · intro i z hz
    have hlen : kvs.length = stk.length := by rw [← hkv, List.length_map]
    rcases Nat.lt_trichotomy i stk.length with h | h | h
    · rw [List.getElem?_append_left h] at hz
      rw [List.getElem?_append_left (by rw [hlen]; exact h)]
      exact hkv' i z hz
    · subst h
      rw [List.getElem?_append_right (Nat.le_refl _)] at hz
      simp at hz
      subst hz
      refine ⟨ti', ?_⟩
      rw [← hlen, List.getElem?_append_right (Nat.le_refl _)]
      simp
    · rw [List.getElem?_eq_none (by simp; omega)] at hz; cases hz
  · rw [List.nodup_append]
    exact ⟨H.nodup, List.nodup_cons.mpr ⟨List.not_mem_nil, List.nodup_nil⟩, fun a ha b hb e => hyn (by rw [List.mem_singleton.mp hb] at e; exact e ▸ ha)⟩
  · intro z hz
    rcases List.mem_append.mp hz with hz | hz
    · rw [H.sub z hz]; rfl
    · rw [List.mem_singleton.mp hz]; simp
  · intro z hz
    by_cases q : z = y
    · rw [q]; exact hy
    · simp [q] at hz; exact H.node z hz
  · intro z hz
    have hz' : sn z = false := by
      cases h : sn z with
      | false => rfl
      | true => rw [h] at hz; cases hz
    exact H.p0 z hz'
  · intro z hz hn
    have q : z ≠ y := fun q => hn (List.mem_append_right _ (by rw [q]; exact .head _))
    simp [q] at hz
    exact H.pd z hz fun h => hn (List.mem_append_left _ h)
/-- the top leaves the stack -/
theorem FI.pop (H : FI prog w l A g rv pv fv frs kpl B xa ti (stk ++ [y]) sn P) (ok : Ok l') (SU : TI.SameUp frs frs') (hP : (g.succ y).length ≤ P y) {n1 n2 : Nat} {do_ : Obj} {vs : List Value} {kvs : List (Str × Value)}
    (keep : ∀ p ∈ l, p.1 ≠ B.sa → p.1 ≠ B.ia → p.1 ≠ B.nd → p.1 ≠ ti y → p.1 ∉ frs.map (·.1) → p ∈ l') (hfr : ∀ p ∈ frs', p ∈ l') (hvs : Strs vs stk) (m1 : (B.sa, seqObj "list" vs n1) ∈ l') (m2 : (B.ia, seqObj "list" (stk.map (fun y => Value.ref (xa y))) n2) ∈ l')
    (m4 : (B.nd, do_) ∈ l') (hdo : do_.IsDictOf (PySem.strKind prog w) kvs) (hkv : kvs.map (·.1) = stk) (hkv' : ∀ (i : Nat) (y : Str), stk[i]? = some y → ∃ t, kvs[i]? = some (y, Value.int (i : Int) t)) :
    FI prog w l' A g rv pv fv frs' kpl B xa ti stk sn P := by
  have hy : y ∈ stk ++ [y] := List.mem_append_right _ (.head _)
  have hno := H.nodup
  rw [List.nodup_append] at hno
  have hyn : y ∉ stk := fun h => hno.2.2 y h y (.head _) rfl
  have hks := SameUp.keys SU
  have hfk : ∀ p ∈ frs', ∃ q ∈ frs, q.1 = p.1 := fun p hp => by
    have : p.1 ∈ frs'.map (·.1) := List.mem_map.mpr ⟨p, hp, rfl⟩
    rw [hks] at this
    exact List.mem_map.mp this
  have hlf : ∀ {b : Addr}, B.sa ≤ b → b ∉ frs.map (·.1) := fun hb hm => by
    obtain ⟨p, hp, e⟩ := List.mem_map.mp hm
    exact H.fr_ne hp hb e
  refine hideG fun zG zK => ?_
  obtain ⟨f1, f2, f3, f4, f5, f6⟩ := H.it y hy
  have lt : B.sa ≤ ti y := Nat.le_of_lt (Nat.lt_trans H.sand f2)
  have ge1 : B.sa ≤ B.ia := Nat.le_of_lt H.o1
  have ge2 : B.sa ≤ B.se := Nat.le_of_lt (Nat.lt_trans H.o1 H.o2)
  have ge3 : B.sa ≤ B.nd := Nat.le_of_lt H.sand
  obtain ⟨i1, i2, i3, i4, i5, i6, i7⟩ := H.iI
  obtain ⟨so, k, c1, c2, c3⟩ := H.seen
  refine zK ?_
  clear zK zG
  have big : ∀ {b : Addr} {o : Obj}, (b, o) ∈ l → B.nd < b → b ≠ ti y → (b, o) ∈ l' := fun {b o} hm hb hn => keep _ hm (Ne.symm (Nat.ne_of_lt (Nat.lt_trans H.sand hb))) (Ne.symm (Nat.ne_of_lt (Nat.lt_trans H.iand hb))) (Ne.symm (Nat.ne_of_lt hb)) hn (hlf (Nat.le_of_lt (Nat.lt_trans H.sand hb)))
  have up : ∀ z ∈ stk, z ∈ stk ++ [y] := fun z hz => List.mem_append_left _ hz
  refine ⟨H.S.sub ok fun p hp hf => keep p hp (H.foot_ne hf (Nat.le_refl _)) (H.foot_ne hf ge1) (H.foot_ne hf ge3) (H.foot_ne hf lt) (fun hm => ?_), hfr,
    H.low, fun p hp => ?_, fun p hp => ?_, fun p hp => keep p (H.kp p hp) (H.kp_ne hp (Nat.le_refl _)) (H.kp_ne hp ge1) (H.kp_ne hp ge3) (H.kp_ne hp lt) (fun hm => ?_), H.lowk, fun p hp q hq => ?_, H.o1, H.o2, H.o3, ⟨_, n1, m1, hvs⟩, ⟨n2, m2⟩, fun z hz => ?_, ⟨so, k, keep _ c1 ?_ ?_ ?_ ?_ (hlf ge2), c2, c3⟩, ⟨do_, _, m4, hdo, hkv, hkv'⟩, H.lnd, keep _ H.hI (Ne.symm i1) (Ne.symm i2) (Ne.symm i4) (Ne.symm f4) (fun hm => ?_), ⟨i1, i2, i3, i4, i5, fun p hp => ?_, i7⟩, hno.1, fun z hz => H.sub z (up z hz), H.node, H.p0, fun z hz hn => ?_⟩
  · obtain ⟨q, hq, e⟩ := List.mem_map.mp hm
    exact H.frf q hq (by rw [e]; exact hf)
  · obtain ⟨q, hq, e⟩ := hfk p hp
    rw [← e]; exact H.lowf q hq
  · obtain ⟨q, hq, e⟩ := hfk p hp
    rw [← e]; exact H.frf q hq
  · obtain ⟨q, hq, e⟩ := List.mem_map.mp hm
    exact H.frk p hp q hq e
  · obtain ⟨q', hq', e⟩ := hfk q hq
    rw [← e]; exact H.frk p hp q' hq'
  · refine hideG fun zG zK => ?_
    obtain ⟨e1, e2, e3, e4, e5, e6⟩ := H.it z (up z hz)
    refine zK ?_
    clear zK zG
    exact ⟨e1, e2, e3, e4, big e5 e1 (H.xa_ne_ti hy (up z hz)), big e6 e2 (H.ti_ne hy (up z hz) fun q => hyn (q ▸ hz))⟩
  · exact Ne.symm (Nat.ne_of_lt (Nat.lt_trans H.o1 H.o2))
  · exact Ne.symm (Nat.ne_of_lt H.o2)
  · exact Nat.ne_of_lt H.o3
  · exact Nat.ne_of_lt (Nat.lt_trans H.o3 f2)
  · obtain ⟨q, hq, e⟩ := List.mem_map.mp hm
    exact i6 q hq e
  · obtain ⟨q, hq, e⟩ := hfk p hp
    rw [← e]; exact i6 q hq
  · by_cases q : z = y
    · rw [q]; exact hP
    · refine H.pd z hz fun hm => ?_
      rcases List.mem_append.mp hm with hm | hm
      · exact hn hm
      · exact q (List.mem_singleton.mp hm)
end
end
section
open PySem PySem.W PyProof.Rows PySem.Calls PySem.Spec
open MW
section
variable {prog : Program} {w : World} {A : Around} {E : Value → Shared → Prop} {Q : Flow → Shared → Prop} {s : Shared} {env : Env} {h₀ : Heap} {L : Addr}
/-- a while with an else, by its invariant over a number that falls -/
theorem While_else {test : Expr} {body orelse : List Stmt} {pos : Pos} {m : Str → Option Value} {news : Led} (J : Nat → (Str → Option Value) → Led → Prop) {n₀ : Nat}
    (F : Fr h₀ L s.heap m) (N : News h₀ L s.heap news) (hJ : J n₀ m news)
    (turn : ∀ n m₁ news₁ h₁ tk₁, Fr h₀ L h₁ m₁ → News h₀ L h₁ news₁ → J n m₁ news₁ →
      wpAny (model prog w) A (isTrue test env (eval test env)) (fun b s₂ =>
        if b = true then wpAny (model prog w) A (execs body env) (WhileStep2 h₀ L s J Q n) E s₂ else wpAny (model prog w) A (execs orelse env) Q E s₂) E { s with heap := h₁, toks := tk₁ })
    (hE : PassesOwn (model prog w) A env E := by passes_own) :
    wpAny (model prog w) A (exec (.While test body orelse pos) env) Q E s := by
  refine wpAny_While (codeAny_whileLoop (fun n s' => ∃ h₁ tk₁ m₁ news₁, s' = { s with heap := h₁, toks := tk₁ } ∧ Fr h₀ L h₁ m₁ ∧ News h₀ L h₁ news₁ ∧ J n m₁ news₁) ?_ n₀ ⟨s.heap, s.toks, m, news, rfl, F, N, hJ⟩)
  intro n s' zr1
  refine hideG fun zG zK => ?_
  obtain ⟨h₁, tk₁, m₁, news₁, rfl, F₁, N₁, J₁⟩ := zr1
  refine zK ?_
  clear zK zG
  refine wpAny_mono (turn n m₁ news₁ h₁ tk₁ F₁ N₁ J₁) (fun b s₂ h₂ => ?_) hE
  cases b with
  | false =>
    simp only [Bool.false_eq_true, if_false] at h₂ ⊢
    exact wpAny_mono h₂ (fun _ _ x => x) hE
  | true =>
    simp only [if_true] at h₂ ⊢
    refine wpAny_mono h₂ (fun f s₃ h₃ => ?_) hE
    cases f with
    | next =>
      refine hideG fun zG zK => ?_
      obtain ⟨h', tk, m₂, news₂, n', rfl, F₂, N₂, hn, J₂⟩ := h₃
      refine zK ?_
      clear zK zG
      exact ⟨n', hn, h', tk, m₂, news₂, rfl, F₂, N₂, J₂⟩
    | cont =>
      refine hideG fun zG zK => ?_
      obtain ⟨h', tk, m₂, news₂, n', rfl, F₂, N₂, hn, J₂⟩ := h₃
      refine zK ?_
      clear zK zG
      exact ⟨n', hn, h', tk, m₂, news₂, rfl, F₂, N₂, J₂⟩
    | brk => exact h₃
    | ret v => exact h₃
end
/-- the state between two turns of the search's for -/
structure FJ (prog : Program) (w : World) (l : Led) (A : SA) (g : G) (rv : Value) (pv fv : Int) (frs kpl : Led) (sa ia se nd : Addr) (sn : Str → Bool) (P : Str → Nat) : Prop where
  S : SAt prog w l A g rv pv fv
  fr : ∀ p ∈ frs, p ∈ l
  low : ∀ b, A.foot g b → b < sa
  lowf : ∀ p ∈ frs, p.1 < sa
  frf : ∀ p ∈ frs, ¬ A.foot g p.1
  kp : ∀ p ∈ kpl, p ∈ l
  lowk : ∀ p ∈ kpl, p.1 < sa
  frk : ∀ p ∈ kpl, ∀ q ∈ frs, q.1 ≠ p.1
  o1 : sa < ia
  o2 : ia < se
  o3 : se < nd
  stack : ∃ n, (sa, seqObj "list" [] n) ∈ l
  its : ∃ n, (ia, seqObj "list" [] n) ∈ l
  seen : ∃ o k, (se, o) ∈ l ∧ Obj.SetObjOf (PySem.strKind prog w) o sn k ∧ k ≤ (g.nodes.filter sn).length
  n2s : ∃ (o : Obj), (nd, o) ∈ l ∧ o.IsDictOf (PySem.strKind prog w) ([] : List (Str × Value))
  lnd : (nd == sysModules) = false
  node : ∀ x, sn x = true → x ∈ g.nodes
  p0 : ∀ x, sn x = false → P x = 0
  pd : ∀ x, sn x = true → (g.succ x).length ≤ P x
  nl : ∀ x, x ∉ (g.succ x).take (P x)
section
variable {prog : Program} {w : World} {l l' : Led} {A : SA} {g : G} {rv : Value} {pv fv : Int} {frs frs' kpl : Led} {sa ia se nd I : Addr} {io : Obj} {xa ti : Str → Addr} {stk : List Str} {sn : Str → Bool} {P : Str → Nat} {y : Str}
theorem FJ.into (H : FJ prog w l A g rv pv fv frs kpl sa ia se nd sn P) (h : ∀ p ∈ l, p.1 ≠ I) : FI prog w ((I, io) :: l) A g rv pv fv frs kpl ⟨sa, ia, se, nd, I, io⟩ xa ti [] sn P := by
  refine hideG fun zG zK => ?_
  obtain ⟨n1, a1⟩ := H.stack
  obtain ⟨n2, a2⟩ := H.its
  obtain ⟨o, k, c1, c2, c3⟩ := H.seen
  obtain ⟨o', d1, d2⟩ := H.n2s
  refine zK ?_
  clear zK zG
  exact ⟨H.S.cons h, fun p hp => .tail _ (H.fr p hp), H.low, H.lowf, H.frf, fun p hp => .tail _ (H.kp p hp), H.lowk, H.frk, H.o1, H.o2, H.o3, ⟨[], n1, .tail _ a1, Strs.nil⟩, ⟨n2, .tail _ a2⟩, (fun y hy => (nomatch hy)), ⟨o, k, .tail _ c1, c2, c3⟩, ⟨o', [], .tail _ d1, d2, rfl, fun i y hy => by simp at hy⟩, H.lnd, .head _,
    ⟨h _ a1, h _ a2, h _ c1, h _ d1, H.S.not_foot h, fun p hp => h _ (H.fr p hp), fun p hp => h _ (H.kp p hp)⟩, List.nodup_nil, (fun x hx => (nomatch hx)), H.node, H.p0, fun x hx _ => H.pd x hx⟩
theorem FI.out (H : FI prog w l A g rv pv fv frs kpl ⟨sa, ia, se, nd, I, io⟩ xa ti [] sn P) (hnl : ∀ x, x ∉ (g.succ x).take (P x)) : FJ prog w (dropI l I) A g rv pv fv frs kpl sa ia se nd sn P := by
  refine hideG fun zG zK => ?_
  obtain ⟨vs, n1, a1, a1'⟩ := H.stack
  obtain ⟨n2, a2⟩ := H.its
  obtain ⟨o, k, c1, c2, c3⟩ := H.seen
  obtain ⟨o', kvs, d1, d2, d3, _⟩ := H.n2s
  obtain ⟨i1, i2, i3, i4, i5, i6, i7⟩ := H.iI
  refine zK ?_
  clear zK zG
  have hv : vs = [] := List.eq_nil_of_length_eq_zero (by rw [a1'.1]; rfl)
  subst hv
  have hk : kvs = [] := List.map_eq_nil_iff.mp d3
  subst hk
  have ok : Ok (dropI l I) := by
    unfold Ok dropI
    exact List.Nodup.sublist (List.Sublist.map _ List.filter_sublist) H.S.ok
  exact ⟨H.S.sub ok fun p hp hf => mem_dropI.mpr ⟨hp, fun e => i5 (e ▸ hf)⟩, fun p hp => mem_dropI.mpr ⟨H.fr p hp, i6 p hp⟩, H.low, H.lowf, H.frf, fun p hp => mem_dropI.mpr ⟨H.kp p hp, i7 p hp⟩, H.lowk, H.frk, H.o1, H.o2, H.o3, ⟨n1, mem_dropI.mpr ⟨a1, i1⟩⟩, ⟨n2, mem_dropI.mpr ⟨a2, i2⟩⟩,
    ⟨o, k, mem_dropI.mpr ⟨c1, i3⟩, c2, c3⟩, ⟨o', mem_dropI.mpr ⟨d1, i4⟩, d2⟩, H.lnd, H.node, H.p0, fun x hx => H.pd x hx List.not_mem_nil, hnl⟩
noncomputable def meas (g : G) (P : Str → Nat) : Nat := (g.nodes.map fun x => (g.succ x).length - P x).sum
theorem meas_lt (hy : y ∈ g.nodes) (h : P y < (g.succ y).length) : meas g (fun z => if z = y then P y + 1 else P z) < meas g P := by
  unfold meas
  have le : ∀ xs : List Str, (xs.map fun x => (g.succ x).length - (if x = y then P y + 1 else P x)).sum ≤ (xs.map fun x => (g.succ x).length - P x).sum := by
    intro xs
    induction xs with
    | nil => exact Nat.le_refl _
    | cons z r ih =>
      rw [List.map_cons, List.map_cons, List.sum_cons, List.sum_cons]
      refine Nat.add_le_add ?_ ih
      by_cases q : z = y
      · subst q; rw [if_pos rfl]; omega
      · rw [if_neg q]; exact Nat.le_refl _
  have lt : ∀ xs : List Str, y ∈ xs → (xs.map fun x => (g.succ x).length - (if x = y then P y + 1 else P x)).sum < (xs.map fun x => (g.succ x).length - P x).sum := by
    intro xs
    induction xs with
    | nil => intro h; cases h
    | cons z r ih =>
      intro hm
      rw [List.map_cons, List.map_cons, List.sum_cons, List.sum_cons]
      by_cases q : z = y
      · subst q; rw [if_pos rfl]
        have := le r
        omega
      · rw [if_neg q]
        have := ih ((List.mem_cons.mp hm).resolve_left fun e => q e.symm)
        omega
  exact lt _ hy
theorem take_read {x : Str} {xs : List Str} {k : Nat} {z : Str} (h : x ∉ xs.take k) (hz : xs[k]? = some z) (hne : z ≠ x) : x ∉ xs.take (k + 1) := by
  rw [List.take_add_one, hz]
  intro hm
  rcases List.mem_append.mp hm with hm | hm
  · exact h hm
  · simp at hm
    exact hne hm.symm
theorem turn_cont {h₀ : Heap} {L I l : Addr} {lo io : Obj} {nl : Led} {J : (Str → Option Value) → Led → Prop} {s₁ : Shared} {m' : Str → Option Value} {h' : Heap} {tk : Nat} {Q : Flow → Shared → Prop} (F : Fr h₀ L h' m') (N : News h₀ L h' nl) (ho : (I, io) ∈ nl) (hl : (l, lo) ∈ nl) (hlI : l ≠ I) (hJ : J m' (dropI nl I)) :
    TurnPost h₀ L I l lo [(I, io)] J s₁ Q .cont { s₁ with heap := h', toks := tk } := turn_next (Q := Q) F N ho hl hlI hJ
end
section
variable {prog : Program} {w : World} {A : Around} {E : Value → Shared → Prop} {s : Shared} {h₀ : Heap} {L : Addr} {m : Str → Option Value} {news : Led}
/-- iter of a list of the ledger's -/
theorem iter_call {Q : Value → Shared → Prop} {l : Addr} {vs : List Value} {n : Nat} (F : Fr h₀ L s.heap m) (N : News h₀ L s.heap news) (hp : (l, seqObj "list" vs n) ∈ news)
    (h : ∀ (x : Addr) h', Fr h₀ L h' m → News h₀ L h' ((x, itObj l 0) :: news) → (∀ p ∈ news, p.1 < x) → Q (.ref x) { s with heap := h' }) :
    wpAny (model prog w) A (call (.builtin "iter") [.ref l]) Q E s := by
  have hls : s.heap.IsList l vs.toArray := ⟨_, (N _ hp).1, rfl, n, rfl⟩
  refine call_function_entry (by decide +kernel) (by decide +kernel) kdk_entry_iter (kdk_args_iter _) ?_
  unfold Builtin.«iter»
  refine wpAny_bind (m := someArgs "iter" 1 2 _) (wpAny_of_eq (a := [Value.ref l]) (by first | rfl | kernel_rfl!) ?_)
  show wpAny _ _ (pyIter (.ref l) >>= _) _ _ _
  refine wpAny_bind (wpAny_pyIter_list hls ?_)
  exact wpAny_pure ⟨_, rfl, h _ _ (F.push _) (News.push F N _ rfl) (fun q hq => Heap.lt_size (N q hq).1)⟩
theorem valueAt_keys {kvs : List (Str × Value)} {stk : List Str} (h : kvs.map (·.1) = stk) (z : Str) : (valueAt kvs z).isSome = decide (z ∈ stk) := by
  subst h
  unfold valueAt
  induction kvs with
  | nil => rfl
  | cons p r ih =>
    rw [List.find?_cons]
    by_cases q : p.1 = z
    · simp [q]
    · have q' : ¬ z = p.1 := fun e => q e.symm
      simp only [q, decide_false, List.map_cons, List.mem_cons, q', false_or]
      exact ih
theorem nodup_le : ∀ {xs ys : List Str}, xs.Nodup → (∀ x ∈ xs, x ∈ ys) → xs.length ≤ ys.length
  | [], _, _, _ => Nat.zero_le _
  | x :: xs, ys, h, hs => by
    obtain ⟨h1, h2⟩ := List.nodup_cons.mp h
    have hx := hs x (.head _)
    have := nodup_le (ys := ys.erase x) h2 fun z hz => (List.mem_erase_of_ne (show z ≠ x from fun e => h1 (e ▸ hz))).mpr (hs z (.tail _ hz))
    rw [List.length_erase_of_mem hx] at this
    have := List.length_pos_of_mem hx
    rw [List.length_cons]
    omega
theorem FI.len {l : Led} {A : SA} {g : G} {rv : Value} {pv fv : Int} {frs kpl : Led} {B : FA} {xa ti : Str → Addr} {stk : List Str} {sn : Str → Bool} {P : Str → Nat} (H : FI prog w l A g rv pv fv frs kpl B xa ti stk sn P) : stk.length ≤ g.nodes.length :=
  nodup_le H.nodup fun x hx => H.node x (H.sub x hx)
theorem stored_out {kvs : List (Str × Value)} {stk : List Str} (h : kvs.map (·.1) = stk) {z : Str} (hz : z ∉ stk) (v : Value) : stored kvs z v = kvs ++ [(z, v)] := by
  subst h
  unfold stored
  rw [if_neg]
  intro h'
  obtain ⟨p, hp, e⟩ := List.any_eq_true.mp h'
  exact hz ((of_decide_eq_true e) ▸ List.mem_map.mpr ⟨p, hp, rfl⟩)
theorem valueAt_mem {z : Str} {v : Value} : ∀ {kvs : List (Str × Value)}, (kvs.map (·.1)).Nodup → (z, v) ∈ kvs → valueAt kvs z = some v
  | [], _, h => by cases h
  | p :: r, hn, h => by
    obtain ⟨h1, h2⟩ := List.nodup_cons.mp hn
    unfold valueAt
    rw [List.find?_cons]
    rcases List.mem_cons.mp h with e | h
    · rw [← e]; simp
    · have q : p.1 ≠ z := fun e => h1 (List.mem_map.mpr ⟨_, h, e.symm⟩)
      have := valueAt_mem h2 h
      unfold valueAt at this
      simp only [q, decide_false]
      exact this
theorem valueAt_idx {kvs : List (Str × Value)} {stk : List Str} (h : kvs.map (·.1) = stk) (hn : stk.Nodup) (h' : ∀ (i : Nat) (y : Str), stk[i]? = some y → ∃ t, kvs[i]? = some (y, Value.int (i : Int) t)) {z : Str} (hz : z ∈ stk) :
    ∃ (i : Nat) (t : Tok), i < stk.length ∧ valueAt kvs z = some (.int (i : Int) t) := by
  obtain ⟨i, hi⟩ := List.getElem?_of_mem hz
  obtain ⟨t, ht⟩ := h' i z hi
  exact ⟨i, t, (List.getElem?_eq_some_iff.mp hi).1, valueAt_mem (by rw [h]; exact hn) (List.mem_of_getElem? ht)⟩
end
end
section
open PySem PySem.W PyProof.Rows PySem.Calls PySem.Spec
theorem words_Fw : True := by
  k_with_none
  k_with "mine room" => ((try simp only [depth_under_make, depth_under_kw, depth_in1, depth_deeper, depth_caller]); (try dsimp only [ktrTop]); omega)
  k_with "mine all" => (first | (with_reducible assumption) | (with_reducible exact allLt_of (by assumption)) | (refine And.intro ?_ ?_; (first | assumption | ((try dsimp only at *); omega)); k_extra "mine all") | (exact allLt_up (by assumption) (by omega)) | (refine allLt_set ?_; k_extra "mine all") | fail)
  k_with "mine lt" => (first | assumption | (refine lt_allLt ?_; k_extra "mine all") | fail)
  k_with "mine ok" => (first | assumption | (refine Ok.setAt ?_ _ _; k_extra "mine ok") | (refine Ok.cons ?_ ?_; (k_extra "mine ok"); (k_extra "mine lt")) | fail)
  k_with "mine ne" => ((try dsimp only); first | assumption | (refine Ne.symm ?_; assumption) | (refine neN ?_; omega) | (apply ne_z1; (case q9m => assumption); (case q9h => k_extra "mine all")) | (apply ne_z2; (case q9m => assumption); (case q9h => k_extra "mine all")) | fail)
  k_with "mine nes" => (first | assumption | exact List.forall_mem_nil _ | (refine List.forall_mem_cons.mpr ⟨?_, ?_⟩; (k_extra "mine ne"); (k_extra "mine nes")) | (refine nes_set ?_; k_extra "mine nes") | (refine nes_lt ?_; k_extra "mine all") | fail)
  k_with "mine mem" => (first | (with_reducible assumption) | ktr_member | (with_reducible exact List.mem_cons_self) | (with_reducible apply mset_z; k_mem) | (with_reducible apply mset_ne_z; (case q9n => k_extra "mine ne"); (case q9x => k_mem)) | (with_reducible refine List.mem_cons_of_mem _ ?_; k_mem) | fail)
  k_with "mine upd" => (first | (with_reducible refine Upd.head ?_; k_extra "mine nes") | (with_reducible apply upd_tail; (case q9ne => k_extra "mine ne"); (case q9u => k_upd)) | (apply upd_z; (case q9k => k_extra "mine ok"); (case q9m => k_mem)) | fail)
  k_with "mine updF" => (first | (with_reducible refine UpdF.head ?_; k_extra "mine nes") | (with_reducible apply updF_tail; (case q9ne => k_extra "mine ne"); (case q9u => k_updF)) | (apply updF_z; (case q9k => k_extra "mine ok"); (case q9m => k_mem)) | fail)
  k_with "mine sub" => (first | exact (fun p hp => hp) | exact (fun p hp => List.mem_cons_of_mem _ hp) | exact (fun p hp => List.mem_cons_of_mem _ (List.mem_cons_of_mem _ hp)) | exact (fun p hp => List.mem_cons_of_mem _ (List.mem_cons_of_mem _ (List.mem_cons_of_mem _ hp))) | (refine List.forall_mem_cons.mpr ⟨?_, ?_⟩; k_mem; k_extra "mine sub") | (intro p hp; (repeat (first | exact hp | refine List.mem_cons_of_mem _ ?_))) | fail)
  k_with "mine units" => ((try simp only [units_in1, units_deeper]); (try dsimp only [ktrTop]); omega)
  k_with "mine leave" => (with_reducible apply HQ.use_z; (case q9h => with_reducible assumption))
  trivial
section
variable {prog : Program} {w : World} {p : Program} {loose : List Str} {mean : ExcName → Option Value} {mg mb : Str → Option Value} {dp un : Nat} {gd : Option (List Code)} {cn : Str} {cs : Scope} {a : Addr} {ccd : Value} {cl : List (Str × Addr)} {outer : List Env} {A₀ : Around} {base h₀ : Heap} {L : Addr} {m : Str → Option Value} {news : Led} {s : Shared} {Q E : Value → Shared → Prop}
open MW
noncomputable def fcBody : List Stmt := fBody (inS 19 8)
noncomputable def stAt (l : List Stmt) (i : Nat) : Stmt := l.getD i (.Pass ⟨0, 0, 0, 0⟩)
noncomputable def forBody : Stmt → List Stmt
  | .For _ _ b _ _ => b
  | _ => []
noncomputable def whBody : Stmt → List Stmt
  | .While _ b _ _ => b
  | _ => []
noncomputable def fcInW : Stmt := stAt (whBody (stAt (forBody (stAt fcBody 5)) 1)) 1
theorem words_fw_1 : True := by
  k_with "exec Try" => (((with_reducible show wpAny _ _ (exec (Stmt.Try _ _ _ _ _) _) _ _ _); refine stop_intro ?_))
  k_with "call ref" => (((with_reducible show wpAny _ _ (call (Value.ref _) []) _ _ _); refine stop_intro ?_))
  trivial
theorem truthy_lst {A : Around} {Q : Bool → Shared → Prop} {E : Value → Shared → Prop} {a : Addr} {vs : List Value} {n : Nat} (N : News h₀ L s.heap news) (hm : (a, seqObj "list" vs n) ∈ news) (hfit : vs.length < 1000000)
    (h : Q (!vs.isEmpty) { s with toks := s.toks + 1 + 1 }) : wpAny (model prog w) A (truthy (.ref a)) Q E s := kgr_truthy N hm rfl rfl (by omega) h
theorem words_fw_2 : True := by
  k_with "truthy ref" => ((k_here; (with_reducible show wpAny _ _ (truthy (Value.ref _)) _ _ _); k_dflt (refine truthy_lst (by k_asm) (by k_mem) (by first | omega | (simp only [List.length_append, List.length_cons, List.length_nil]; omega)) ?_)))
  k_with "subscriptTail Name UnaryOp ref int" => ((k_here; (with_reducible show wpAny _ _ (subscriptTail _ _ (Value.ref _) (Value.int _ _)) _ _ _); k_dflt (refine kde_neg (vs := _) (by exact News.isList (by k_asm) (by k_mem)) (by decide) (by decide) (by assumption) (by assumption) ?_)))
  trivial
theorem kl_last_snoc (us : List Value) (v : Value) : kl_last (us ++ [v]).toArray.toList = some (us, v) := by
  rw [List.toList_toArray]
  induction us with
  | nil => rfl
  | cons a r ih =>
    rw [List.cons_append]
    unfold kl_last
    cases r <;> simp_all
noncomputable def Free (p : Program) (loose : List Str) (x : Str) : Prop := x ∉ loose ∧ x ∉ (recsOf p).map (·.name) ∧ x ∉ (litsOf p).map (·.1) ∧ x ∉ (clssOf p loose).map (·.name)
theorem words_fw_3 : True := by
  k_with "call builtin:list.pop" => ((k_here; (with_reducible show wpAny _ _ (call (Value.builtin "list.pop") [Value.ref _]) _ _ _); k_dflt (refine kl_pop (by k_asm) (by k_asm) (kl_last_snoc _ _) (by k_upd) (by (simp only [List.toList_toArray, List.length_append, List.length_cons, List.length_nil, List.length_map]; rw [sizeLine_eq]; omega)) ?_); intro _ _ _))
  trivial
theorem words_Fw_m1 : True := by
  k_with "delItem" => ((k_here; (with_reducible show wpAny _ _ (delItem (Value.ref _) (Value.str _ _)) _ _ _); k_dflt (refine kob_del (knd := PySem.strKind _ _) (by k_asm) (by k_asm) (by k_updF) (by assumption) (strKind_is _ _ _ _) (by assumption) (by (rw [sizeLine_eq]; omega)) ?_); intro _ _ _ N'zz; (try dsimp only at N'zz); revert N'zz; intro _ _))
  trivial
theorem callWith_mw {A : Around} {E : Value → Shared → Prop} {pos : Pos} {env : Env} {x it : Addr} {Q : Value → Shared → Prop} (ho : s.heap.get? x = some (mwObj it))
    (hc : wpAny (model prog w) A (call (.ref x) []) Q E s) : wpAny (model prog w) A (callWith pos (.ref x) [] (backTo pos (starEach [] env)) []) Q E s := by
  unfold callWith
  refine wpAny_bind (wpAny_holding ?_)
  show wpAny _ _ (evalArgs (.ref x) true [] []) _ _ _
  refine PyProof.Rows.evalArgs_none ?_
  refine wpAny_bind (wpAny_standAt ?_)
  refine wpAny_bind (m := keeperOf (.ref x)) ?_
  unfold keeperOf
  refine wpAny_bind (wpAny_load ho ?_)
  simp only [mwObj, show (Value.type "method-wrapper" != Value.type "method") = true by decide, show (Value.type "method-wrapper" == Value.type "builtin_function_or_method" || Value.type "method-wrapper" == Value.type "method-wrapper") = true by decide, if_true]
  refine wpAny_pure ?_
  exact wpAny_bind (wpAny_mono hc (fun r s₂ hr => wpAny_bind (wpAny_holding (wpAny_point (wpAny_pure hr)))) fun _ _ x => x)
theorem Strs.snoc {vs : List Value} {xs : List Str} {y : Str} (h : Strs vs (xs ++ [y])) : ∃ us t, vs = us ++ [Value.str y t] ∧ Strs us xs := by
  rcases List.eq_nil_or_concat vs with rfl | ⟨us, v, e⟩
  · have := h.1; simp at this
  · rw [List.concat_eq_append] at e
    subst e
    have hl : us.length = xs.length := by have := h.1; simp at this; exact this
    obtain ⟨t, ht⟩ := h.2 xs.length y (by simp)
    rw [List.getElem?_append_right (by rw [hl]; exact Nat.le_refl _), hl] at ht
    simp at ht
    subst ht
    refine ⟨us, t, rfl, hl, fun i x hx => ?_⟩
    have hi : i < xs.length := (List.getElem?_eq_some_iff.mp hx).1
    obtain ⟨t', ht'⟩ := h.2 i x (by rw [List.getElem?_append_left hi]; exact hx)
    rw [List.getElem?_append_left (by rw [hl]; exact hi)] at ht'
    exact ⟨t', ht'⟩
theorem last_ix {α : Type} (us : List α) (v : α) : seqIndex? (-1) (us ++ [v]).length = some us.length := by
  unfold seqIndex?
  rw [List.length_append, List.length_singleton]
  simp
  omega
theorem last_at {α : Type} (us : List α) (v : α) : (us ++ [v])[us.length]? = some v := by simp
theorem without_last {kvs : List (Str × Value)} {stk : List Str} {y : Str} (h : kvs.map (·.1) = stk ++ [y]) (hn : (stk ++ [y]).Nodup) (h' : ∀ (i : Nat) (x : Str), (stk ++ [y])[i]? = some x → ∃ t, kvs[i]? = some (x, Value.int (i : Int) t)) :
    (without kvs y).map (·.1) = stk ∧ ∀ (i : Nat) (x : Str), stk[i]? = some x → ∃ t, (without kvs y)[i]? = some (x, Value.int (i : Int) t) := by
  have hyn : y ∉ stk := fun hm => (List.nodup_append.mp hn).2.2 y hm y (.head _) rfl
  rcases List.eq_nil_or_concat kvs with rfl | ⟨r, q, e⟩
  · simp at h
  · rw [List.concat_eq_append] at e
    subst e
    rw [List.map_append, List.map_cons, List.map_nil] at h
    obtain ⟨h1, h2⟩ := List.append_inj' h rfl
    have hq : q.1 = y := by simpa using h2
    have hr : without r y = r := without_of_not_mem _ _ (by rw [h1]; exact hyn)
    have hw : without (r ++ [q]) y = r := by
      unfold without at hr ⊢
      rw [List.filter_append, hr]
      simp [hq]
    rw [hw]
    refine ⟨h1, fun i x hx => ?_⟩
    have hi : i < stk.length := (List.getElem?_eq_some_iff.mp hx).1
    obtain ⟨t, ht⟩ := h' i x (by rw [List.getElem?_append_left hi]; exact hx)
    rw [List.getElem?_append_left (by rw [← List.length_map (f := fun (x : Str × Value) => x.1), h1]; exact hi)] at ht
    exact ⟨t, ht⟩
theorem fcInner {hb : Heap} {L' : Addr} {m : Str → Option Value} {nl frs news : Led} {A : SA} {g : G} {rv : Value} {pv fv : Int} {sa ia se nd I : Addr} {io : Obj} {xa ti : Str → Addr} {stk : List Str} {sn : Str → Bool} {P : Str → Nat} {sc : Scope} {wh : Stmt} {Q : Flow → Shared → Prop}
    (hwh : fcInW = wh) (hsc : fScope (inS 19 8) = sc) (F : Fr hb L' s.heap m) (N : News hb L' s.heap nl) (X : (K w.params).In hb) (T : Top p loose mean mg mb hb) (FS : TI.Frs (envOf cn cs L a ccd :: outer) frs)
    (H : FI prog w nl A g rv pv fv frs news ⟨sa, ia, se, nd, I, io⟩ xa ti stk sn P) (hfree : Free p loose (Str.ofString "StopIteration")) (hno : ∀ x, x ∉ (g.succ x).take (P x)) (hnl : g.nodes.length ≤ 1000) (hcl : ∀ x ∈ g.nodes, ∀ z ∈ g.succ x, z ∈ g.nodes)
    (hm1 : m (Str.ofString "n2i") = some (.ref A.d2)) (hm2 : m (Str.ofString "stack") = some (.ref sa)) (hm3 : m (Str.ofString "itstack") = some (.ref ia)) (hm4 : m (Str.ofString "seen") = some (.ref se)) (hm5 : m (Str.ofString "node2stacki") = some (.ref nd))
    (k1 : ∀ h' tk' m' nl' frs' P' stk' z tz, Fr hb L' h' m' → News hb L' h' nl' → TI.SameUp frs frs' → TI.Frs (envOf cn cs L a ccd :: outer) frs' → FI prog w nl' A g rv pv fv frs' news ⟨sa, ia, se, nd, I, io⟩ xa ti stk' sn P' → meas g P' < meas g P → z ∈ g.nodes → (z ∈ stk' ∨ ∀ x, x ∉ (g.succ x).take (P' x)) →
      m' (Str.ofString "node") = some (.str z tz) → m' (Str.ofString "n2i") = some (.ref A.d2) → m' (Str.ofString "stack") = some (.ref sa) → m' (Str.ofString "itstack") = some (.ref ia) → m' (Str.ofString "seen") = some (.ref se) → m' (Str.ofString "node2stacki") = some (.ref nd) → Q .next { s with heap := h', toks := tk' })
    (k2 : ∀ h' tk' m' nl' frs', Fr hb L' h' m' → News hb L' h' nl' → TI.SameUp frs frs' → TI.Frs (envOf cn cs L a ccd :: outer) frs' → FI prog w nl' A g rv pv fv frs' news ⟨sa, ia, se, nd, I, io⟩ xa ti [] sn P →
      m' (Str.ofString "n2i") = some (.ref A.d2) → m' (Str.ofString "stack") = some (.ref sa) → m' (Str.ofString "itstack") = some (.ref ia) → m' (Str.ofString "seen") = some (.ref se) → m' (Str.ofString "node2stacki") = some (.ref nd) → Q .brk { s with heap := h', toks := tk' }) :
    wpAny (model prog w) ((ktrTop dp un gd cn cs L a ccd [] outer).deeper (envOf (Str.ofString "TopologicalSorter._find_cycle") sc L' 217 (.ref 216))) (exec wh (envOf (Str.ofString "TopologicalSorter._find_cycle") sc L' 217 (.ref 216))) Q
      (fun _ _ => False) s := by
  (conv at hwh => lhs; whnf)
  (conv at hsc => lhs; whnf)
  subst hwh
  subst hsc
  refine While_else (fun n m₁ nl₁ => Ex2 fun frs' stk' => All9 (TI.SameUp frs frs') (TI.Frs (envOf cn cs L a ccd :: outer) frs') (FI prog w nl₁ A g rv pv fv frs' news ⟨sa, ia, se, nd, I, io⟩ xa ti stk' sn P) (n = stk'.length) (m₁ (Str.ofString "n2i") = some (.ref A.d2)) (m₁ (Str.ofString "stack") = some (.ref sa)) (m₁ (Str.ofString "itstack") = some (.ref ia)) (m₁ (Str.ofString "seen") = some (.ref se)) (m₁ (Str.ofString "node2stacki") = some (.ref nd))) F N ⟨frs, stk, TI.SameUp.refl _, FS, H, rfl, hm1, hm2, hm3, hm4, hm5⟩ ?_
  clear F N FS H hm1 hm2 hm3 hm4 hm5
  intro n m₁ nl₁ h₁ tk₁ F₁ N₁ hJ
  refine hideG fun zG zK => ?_
  obtain ⟨frs1, stk1, SU1, FS1, H1, hn1, hm1, hm2, hm3, hm4, hm5⟩ := hJ
  obtain ⟨vs2, n2, ma, hvs2⟩ := H1.stack
  obtain ⟨n2', mi⟩ := H1.its
  refine zK ?_
  clear zK zG
  dsimp only at ma mi
  have hlen := Nat.le_trans H1.len hnl
  have hvl2 := hvs2.1
  have F3 := know (know (know (know (know F₁ (y := Str.ofString "node2stacki") (v := .ref nd) hm5) (y := Str.ofString "seen") (v := .ref se) hm4) (y := Str.ofString "itstack") (v := .ref ia) hm3) (y := Str.ofString "stack") (v := .ref sa) hm2) (y := Str.ofString "n2i") (v := .ref A.d2) hm1
  clear F₁
  refine hideQ fun _ _ => ?_
  rcases List.eq_nil_or_concat stk1 with rfl | ⟨stk2, y, e⟩
  · have hv0 : vs2 = [] := List.eq_nil_of_length_eq_zero (by rw [hvl2]; rfl)
    subst hv0
    have hl0 : ([] : List Value).length < 1000000 := by decide
    k_steps
    exact k2 _ _ _ _ _ F3 (by k_asm) SU1 FS1 H1 rfl rfl rfl rfl rfl
  · rw [List.concat_eq_append] at e
    subst e
    refine hideG fun zG zK => ?_
    obtain ⟨us, ty, rfl, hus⟩ := hvs2.snoc
    refine zK ?_
    clear zK zG
    rw [List.map_append, List.map_cons, List.map_nil] at mi
    have hl9 : us.length ≤ 1000 := by have := hus.1; simp at hlen; omega
    have hb1 : (!(us ++ [Value.str y ty]).isEmpty) = true := by simp
    have hix := last_ix (stk2.map fun y => Value.ref (xa y)) (Value.ref (xa y))
    have hat := last_at (stk2.map fun y => Value.ref (xa y)) (Value.ref (xa y))
    k_steps
    refine Stop.of (wpAny_Try_except ?_)
    have hystk : y ∈ stk2 ++ [y] := List.mem_append_right _ (.head _)
    refine hideG fun zG zK => ?_
    obtain ⟨i1, i2, i3, i4, i5, i6⟩ := H1.it y hystk
    have hyn : y ∈ g.nodes := H1.node y (H1.sub y hystk)
    obtain ⟨vz, nz, mlz, hvz⟩ := (H1.S.node y hyn).lst
    refine zK ?_
    clear zK zG
    dsimp only at i1 i2 i3 i4
    k_steps
    refine callWith_mw (N₁ _ i5).1 ?_
    by_cases hlt : P y < (g.succ y).length
    · obtain ⟨z, hz⟩ : ∃ z, (g.succ y)[P y]? = some z := ⟨(g.succ y)[P y], by simp [hlt]⟩
      obtain ⟨tz, htz⟩ := hvz.2 _ _ hz
      refine call_item F3 N₁ i5 i6 mlz htz ?_
      intro h2 F4 N4
      k_steps
      show Q .next _
      have hzn : z ∈ g.nodes := hcl y hyn z (List.mem_of_getElem? hz)
      refine k1 _ _ _ _ _ _ _ z tz (by k_asm) (by k_asm) SU1 FS1 (H1.read (y := y) (H1.S.ok.setAt _ _) hystk (fun p hp h => mem_set_ne h hp) (mem_set_self i6)) (meas_lt hyn hlt) hzn ?_ rfl rfl rfl rfl rfl rfl
      by_cases hzy : z = y
      · exact .inl (hzy ▸ hystk)
      · refine .inr fun x => ?_
        by_cases hxy : x = y
        · subst hxy; rw [if_pos rfl]; exact take_read (hno x) hz hzy
        · rw [if_neg hxy]; exact hno x
    · have hnone : vz[P y]? = none := List.getElem?_eq_none (by rw [hvz.1]; omega)
      refine call_end F3 N₁ rfl i5 i6 mlz hnone ?_
      intro h2 h3 e F4 N4 HX
      refine catch_here (frs := frs1) FS1 rfl HX F4 N4 ?_ T ?_ (t2 := hfree.1) (t3 := hfree.2.1) (t4 := hfree.2.2.1) (t5 := hfree.2.2.2)
      · exact fun p hp => mem_set_ne (H1.fr_ne hp (Nat.le_of_lt (Nat.lt_trans H1.sand i2))) (H1.fr p hp)
      intro h5 frs5 SU5 FS5 F5 N5 hfs5
      have hks := SameUp.keys SU5
      have hk5 : ∀ p ∈ nl₁, p.1 ≠ ti y → p.1 ∉ frs1.map (·.1) → p ∈ upFr (setAt nl₁ (ti y) (endObj (P y))) frs5 := fun p hp h1 h2 => mem_upFr_out (mem_set_ne h1 hp) (by rw [hks]; exact h2)
      have ok5 : Ok (upFr (setAt nl₁ (ti y) (endObj (P y))) frs5) := (H1.S.ok.setAt _ _).upFr _
      generalize upFr (setAt nl₁ (ti y) (endObj (P y))) frs5 = nl5 at N5 hfs5 hk5 ok5
      have hnf : ∀ {b : Addr}, sa ≤ b → b ∉ frs1.map (·.1) := fun hb hm => by
        obtain ⟨p, hp, e⟩ := List.mem_map.mp hm
        exact H1.fr_ne hp hb e
      refine hideG fun zG zK => ?_
      obtain ⟨do2, kvs, md, hdo, hkv, hkv'⟩ := H1.n2s
      refine zK ?_
      clear zK zG
      dsimp only at md
      have oo1 : @LT.lt Nat _ sa ia := H1.o1
      have oo2 : @LT.lt Nat _ ia se := H1.o2
      have oo3 : @LT.lt Nat _ se nd := H1.o3
      have i2' : @LT.lt Nat _ nd (ti y) := i2
      have ma5 := hk5 _ ma (neN (by dsimp only; omega)) (hnf (Nat.le_refl _))
      have mi5 := hk5 _ mi (neN (by dsimp only; omega)) (hnf (Nat.le_of_lt oo1))
      have md5 := hk5 _ md (neN (by dsimp only; omega)) (hnf (Nat.le_of_lt (Nat.lt_trans oo1 (Nat.lt_trans oo2 oo3))))
      have ne1 : sa ≠ ia := neN (by omega)
      have ne2 : sa ≠ nd := neN (by omega)
      have ne3 : ia ≠ nd := neN (by omega)
      have hks2 : (valueAt kvs y).isSome = true := by rw [valueAt_keys hkv]; simp
      have hkl : kvs.length = stk2.length + 1 := by have := congrArg List.length hkv; simp at this; exact this
      have hsl : stk2.length ≤ 1000 := by simp at hlen; omega
      k_steps
      rename_i h6 F6 N6 h7 o7 F7 N7 D7 h8 F8 N8
      obtain ⟨w1, w2⟩ := without_last hkv H1.nodup hkv'
      have hfs8 : ∀ p ∈ frs5, p.1 < sa := fun p hp => by
        have : p.1 ∈ frs5.map (·.1) := List.mem_map.mpr ⟨p, hp, rfl⟩
        rw [hks] at this
        obtain ⟨q, hq, e⟩ := List.mem_map.mp this
        rw [← e]; exact H1.lowf q hq
      refine ⟨_, _, _, _, stk2.length, rfl, F8, N8, by rw [hn1]; simp, frs5, stk2, TI.SameUp.trans SU1 SU5, FS5, H1.pop (n1 := n2 + 1) (n2 := n2' + 1) (kvs := without kvs y) (do_ := o7) (vs := us) ?ok SU5 (Nat.le_of_not_lt hlt) ?keep ?hfr hus ?m1 ?m2 ?m4 D7 w1 w2, rfl, rfl, rfl, rfl, rfl, rfl⟩
      case ok => k_extra "mine ok"
      case keep => exact fun p hp h1 h2 h3 h4 h5 => mem_set_ne h2 (mem_set_ne h3 (mem_set_ne h1 (hk5 p hp h4 h5)))
      case hfr => exact fun p hp => mem_set_ne (Nat.ne_of_lt (Nat.lt_trans (hfs8 p hp) oo1)) (mem_set_ne (Nat.ne_of_lt (Nat.lt_trans (hfs8 p hp) (Nat.lt_trans oo1 (Nat.lt_trans oo2 oo3)))) (mem_set_ne (Nat.ne_of_lt (hfs8 p hp)) (hfs5 p hp)))
      case m1 => k_mem
      case m2 => k_mem
      case m4 => k_mem

end
end
section
open PySem PySem.W PyProof.Rows PySem.Calls PySem.Spec
theorem words_Fc : True := by
  k_with_none
  k_with "mine room" => ((try simp only [depth_under_make, depth_under_kw, depth_in1, depth_deeper, depth_caller]); (try dsimp only [ktrTop]); omega)
  k_with "mine all" => (first | (with_reducible assumption) | (with_reducible exact allLt_of (by assumption)) | (refine And.intro ?_ ?_; (first | assumption | ((try dsimp only at *); omega)); k_extra "mine all") | (exact allLt_up (by assumption) (by omega)) | (refine allLt_set ?_; k_extra "mine all") | fail)
  k_with "mine lt" => (first | assumption | (refine lt_allLt ?_; k_extra "mine all") | fail)
  k_with "mine ok" => (first | assumption | (refine Ok.setAt ?_ _ _; k_extra "mine ok") | (refine Ok.cons ?_ ?_; (k_extra "mine ok"); (k_extra "mine lt")) | fail)
  k_with "mine ne" => ((try dsimp only); first | assumption | (refine Ne.symm ?_; assumption) | (refine neN ?_; omega) | (apply ne_z1; (case q9m => assumption); (case q9h => k_extra "mine all")) | (apply ne_z2; (case q9m => assumption); (case q9h => k_extra "mine all")) | fail)
  k_with "mine nes" => (first | assumption | exact List.forall_mem_nil _ | (refine List.forall_mem_cons.mpr ⟨?_, ?_⟩; (k_extra "mine ne"); (k_extra "mine nes")) | (refine nes_set ?_; k_extra "mine nes") | (refine nes_lt ?_; k_extra "mine all") | fail)
  k_with "mine mem" => (first | (with_reducible assumption) | ktr_member | (with_reducible exact List.mem_cons_self) | (with_reducible apply mset_z; k_mem) | (with_reducible apply mset_ne_z; (case q9n => k_extra "mine ne"); (case q9x => k_mem)) | (with_reducible refine List.mem_cons_of_mem _ ?_; k_mem) | fail)
  k_with "mine upd" => (first | (with_reducible refine Upd.head ?_; k_extra "mine nes") | (with_reducible apply upd_tail; (case q9ne => k_extra "mine ne"); (case q9u => k_upd)) | (apply upd_z; (case q9k => k_extra "mine ok"); (case q9m => k_mem)) | fail)
  k_with "mine updF" => (first | (with_reducible refine UpdF.head ?_; k_extra "mine nes") | (with_reducible apply updF_tail; (case q9ne => k_extra "mine ne"); (case q9u => k_updF)) | (apply updF_z; (case q9k => k_extra "mine ok"); (case q9m => k_mem)) | fail)
  k_with "mine sub" => (first | exact (fun p hp => hp) | exact (fun p hp => List.mem_cons_of_mem _ hp) | exact (fun p hp => List.mem_cons_of_mem _ (List.mem_cons_of_mem _ hp)) | exact (fun p hp => List.mem_cons_of_mem _ (List.mem_cons_of_mem _ (List.mem_cons_of_mem _ hp))) | (refine List.forall_mem_cons.mpr ⟨?_, ?_⟩; k_mem; k_extra "mine sub") | (intro p hp; (repeat (first | exact hp | refine List.mem_cons_of_mem _ ?_))) | fail)
  k_with "mine units" => ((try simp only [units_in1, units_deeper]); (try dsimp only [ktrTop]); omega)
  k_with "mine leave" => (with_reducible apply HQ.use_z; (case q9h => with_reducible assumption))
  k_with "setItem ref str" => ((k_here; (with_reducible show wpAny _ _ (setItem (Value.ref _) (Value.str _ _) _) _ _ _); k_dflt (refine kda_set (knd := PySem.strKind _ _) (by k_asm) (by k_asm) (by k_updF) (by assumption) (strKind_is _ _ _ _) (by first | omega | (rw [sizeLine_eq]; omega)) ?_); intro _ _ _ N'zz; (try dsimp only at N'zz); revert N'zz; intro _ _; (try k_fold)))
  k_with "call builtin:len" => ((k_here; (with_reducible show wpAny _ _ (call (Value.builtin "len") [Value.ref _]) _ _ _); k_dflt (first | (refine len_tup (by k_asm) (by k_mem) (by omega) ?_) | (refine len_lst (by k_asm) (by k_mem) (by omega) ?_))))
  k_with "subscriptTail" => ((k_here; (with_reducible show wpAny _ _ (subscriptTail _ _ (Value.ref _) (Value.str _ _)) _ _ _); k_dflt (refine kda_item (knd := PySem.strKind _ _) (by k_asm) (by k_mem) (by assumption) (strKind_is _ _ _ _) (by assumption) ?_)))
  trivial
section
variable {prog : Program} {w : World} {p : Program} {loose : List Str} {mean : ExcName → Option Value} {mg mb : Str → Option Value} {dp un : Nat} {gd : Option (List Code)} {cn : Str} {cs : Scope} {a : Addr} {ccd : Value} {cl : List (Str × Addr)} {outer : List Env} {A₀ : Around} {base h₀ : Heap} {L : Addr} {m : Str → Option Value} {news : Led} {s : Shared} {Q E : Value → Shared → Prop}
open MW
theorem words_Fc_m1 : True := by
  k_with "mine pyIter" => ((with_reducible show wpAny _ _ (pyIter _) _ _ _); refine stop_intro ?_)
  trivial
theorem words_fc_1 : True := by
  k_with "exec While" => (((with_reducible show wpAny _ _ (exec (Stmt.While _ _ _ _) _) _ _ _); refine stop_intro ?_))
  k_with "exec For" => (((with_reducible show wpAny _ _ (exec (Stmt.For _ _ _ _ _) _) _ _ _); refine stop_intro ?_))
  k_with "compareOp" => ((k_here; (with_reducible show wpAny _ _ (compareOp CmpOp.In (Value.str _ _) (Value.ref _)) _ _ _); k_dflt (refine kse_in (knd := PySem.strKind _ _) (by k_asm) (by k_updF) (by assumption) (by (have : scanBound = 4096 := rfl; omega)) (strKind_is _ _ _ _) (by rfl) ?_)))
  k_with "compareOp" => ((k_here; (with_reducible show wpAny _ _ (compareOp CmpOp.In (Value.str _ _) (Value.ref _)) _ _ _); k_dflt (refine kda_in (knd := PySem.strKind _ _) (by k_asm) (by k_mem) (by assumption) (by assumption) (strKind_is _ _ _ _) _ (by assumption) ?_)))
  trivial
theorem words_Fc_m2 : True := by
  k_with "call builtin:iter" => (k_here; (with_reducible show wpAny _ _ (call (Value.builtin "iter") [Value.ref _]) _ _ _); k_dflt (refine iter_call (by k_asm) (by k_asm) (by k_mem) ?_); intro _ _ _ _ l1zz; have l2zz := allLt_of l1zz; revert l1zz l2zz; intro _ _)
  trivial
theorem words_Fc_m3 : True := by
  k_with "getAttr ref" => (k_here; (with_reducible show wpAny _ _ (getAttr (Value.ref _) (Str.ofString "__next__") _) _ _ _); k_dflt (refine MW.next_attr (by k_asm) (by k_asm) (by k_mem) ?_); intro _ _ _ _ l1zz; k_lt l1zz; have l2zz := l1zz.2; have l3zz := l1zz.1; revert l1zz l2zz l3zz; intro _ _ _)
  trivial
theorem words_Fc_m4 : True := by
  k_with "mine ne" => ((try dsimp only); first | (apply ne_z1; (case q9h => with_reducible assumption); (case q9m => k_mem)) | (apply ne_z2; (case q9h => with_reducible assumption); (case q9m => k_mem)) | fail)
  trivial
theorem words_fc_2 : True := by
  k_with "call builtin:list.append" => ((k_here; (with_reducible show wpAny _ _ (call (Value.builtin _) [Value.ref _, _]) _ _ _); k_dflt (refine append_K (by k_asm) (by k_asm) (by k_upd) ?_ (by (simp only [List.size_toArray, List.length_map]; rw [sizeLine_eq]; omega)); k_whole); intro _ _ _; (try k_sweep)))
  k_with "exec If" => (((with_reducible show wpAny _ _ (exec (Stmt.If _ _ (_ :: _) _) _) _ _ _); refine stop_intro ?_))
  k_with "subscriptTail Name Slice ref ref" => ((k_here; (with_reducible show wpAny _ _ (subscriptTail _ (PySem.Expr.Slice _ _ none _) (Value.ref _) (Value.ref _)) _ _ _); k_dflt (refine kms_slice_lit (by k_asm) (by k_asm) (by exact News.isList (by k_asm) (by k_mem)) (by kmk_part) (by kmk_part) rfl ?_ (by with_unfolding_all rfl) (by kmk_pure) (by (rw [List.size_toArray, sizeLine_eq]; omega))); intro _ _ _ _ _))
  trivial
theorem kms_pick_le (l : List Value) (lo hi : Option Int) : (kms_pick l lo hi).length ≤ l.length := by
  unfold kms_pick
  rw [List.length_take, List.length_drop]
  omega
theorem words_fc_3 : True := by
  k_with "binaryOp Add ref ref" => (((with_reducible show wpAny _ _ (binaryOp _ (Value.ref _) (Value.ref _)) _ _ _); refine stop_intro ?_))
  trivial
theorem findCycle (B : Below A₀ base outer h₀) (F : Fr h₀ L s.heap m) (X : (K w.params).In h₀) (N : News h₀ L s.heap news) (T : Top p loose mean mg mb h₀) (hk : cs.kind = .function) (hdp : dp + 15 < recursionLimit) (XB : (K w.params).In base) (TB : Top p loose mean mg mb base) (D : KtsDicts (outer.filterMap (·.frame)) h₀)
    {A : SA} {g : G} {pv fv : Int} {rv : Value} (S : SAt prog w news A g rv pv fv) {self : Addr} (hs : A.self = self) (hnod : g.nodes.Nodup) (hnl : g.nodes.length ≤ 1000) (hcl : ∀ x ∈ g.nodes, ∀ z ∈ g.succ x, z ∈ g.nodes) (hfree : Free p loose (Str.ofString "StopIteration")) (hself : ∃ x ∈ g.nodes, x ∈ g.succ x)
    (ret : ∀ h₀' D vs news' h' tk', KtsTurn (outer.filterMap (·.frame)) h₀ h₀' → Fr h₀' L h' m → News h₀' L h' news' → Below A₀ base outer h₀' → (K w.params).In h₀' → Top p loose mean mg mb h₀' → KtsDicts (outer.filterMap (·.frame)) h₀' →
      Ok news' → (∀ p ∈ news, p ∈ news') → (∀ p ∈ news, p.1 < D) → (D, seqObj "list" vs 0) ∈ news' → 0 < vs.length → vs.length ≤ 2000 → Q (.ref D) { s with heap := h', toks := tk' }) :
    wpAny (model prog w) (ktrTop dp un gd cn cs L a ccd [] outer) (call (.ref 217) [.ref self]) Q E s := by
  subst hs
  refine wpAny_call ?_
  refine' code_defS (g₀ := h₀) (binds := [(Str.ofString "self", .ref A.self)]) B F X N T XB TB D KtsTurn.refl rfl ?k6 ?k7 ?k8 ?k9 ?kB ?_ hk ?c2 ?c3 ?c4 ?c5
  (case k6 => k_is)
  (case k7 => k_is)
  (case k8 => ktr_room)
  (case k9 => exact BindsTo.of_eq rfl)
  (case c5 => decide)
  (case kB => exact locs rfl)
  (case c2 => exact rfl)
  (case c3 => exact rfl)
  (case c4 => exact rfl)
  intro g' L' h' FG' F' N' B' X' T' D'
  refine noE ?_
  refine hideQ fun _ _ => ?_
  refine hideG fun zG zK => ?_
  obtain ⟨frs, FS, Fa, Na, oka, hfs, Xa, Ta, hnf, hg, ha⟩ := enter_frames B' F' N' S.ok D' XB TB
  have Sa : SAt prog w (once frs ++ news) A g rv pv fv := S.sub oka fun p hp _ => List.mem_append_right _ hp
  have hab := F'.above
  have hfr := B'.stack
  have hkn : ∀ p ∈ news, p ∈ once frs ++ news := fun p hp => List.mem_append_right _ hp
  have hkf : ∀ p ∈ news, ∀ q ∈ frs, q.1 ≠ p.1 := fun p hp q hq e => hnf p hp (by rw [← ha, ← e]; exact List.mem_map.mpr ⟨q, hq, rfl⟩)
  have hff : ∀ p ∈ frs, ¬ A.foot g p.1 := fun p hp hf => by
    have : ∀ q ∈ news, q.1 ≠ p.1 := fun q hq e => hkf q hq p hp e.symm
    exact S.not_foot this hf
  obtain ⟨o2, m3n, hd2⟩ := S.d2
  refine zK ?_
  clear zK zG
  have m3 := hkn _ m3n
  clear F' N' X' T' N F
  generalize ehb : TI.gone g' _ = hb at *
  generalize once frs ++ news = nw at *
  refine hideG fun zG zK => ?_
  obtain ⟨e1, e2, e3, e4, t1, t2, t3, t4, t5, t6, m2⟩ := Sa.dict
  refine zK ?_
  clear zK zG
  have lo2 := Sa.lo2
  have m1 := Sa.inst
  have ok := Sa.ok
  k_steps
  rename_i hh1 sa hh2 ls hh3 tk3 ia hh4 ls4 hh5 se hh6 led hsi hss lse hh7 nd hh8 o8 lnd hds fps hdi fpi lnd8 hh9 F9 N9
  refine Stop.of ?_
  have lsa : ∀ p ∈ nw, p.1 < sa := ls
  have hfoot : ∀ b, A.foot g b → b < sa := fun b hf => by
    refine Nat.not_le.mp fun hle => ?_
    refine Sa.not_foot (b := b) (fun p hp e => ?_) hf
    exact absurd (lsa p hp) (Nat.not_lt.mpr (by rw [e]; exact hle))
  have J0 : FJ prog w ((nd, o8) :: (se, { cls := Value.type "set", data := Data.set #[] 0 (SetTable.fresh 0 0 led) }) :: (ia, W.listOf #[] 0) :: (sa, W.listOf #[] 0) :: nw) A g rv pv fv frs news sa ia se nd (fun _ => false) (fun _ => 0) := by
    refine ⟨Sa.sub ?ok1 (fun p hp _ => .tail _ (.tail _ (.tail _ (.tail _ hp)))), fun p hp => .tail _ (.tail _ (.tail _ (.tail _ (hfs p hp)))), hfoot, fun p hp => lsa p (hfs p hp), hff, fun p hp => .tail _ (.tail _ (.tail _ (.tail _ (hkn p hp)))), fun p hp => lsa p (hkn p hp), hkf, ls4.1, lse.1, lnd8.1,
      ⟨0, .tail _ (.tail _ (.tail _ (.head _)))⟩, ⟨0, .tail _ (.tail _ (.head _))⟩, ⟨_, 0, .tail _ (.head _), hss, Nat.zero_le _⟩, ⟨o8, .head _, hds⟩, lnd, (fun x hx => by cases hx), (fun _ _ => rfl), (fun x hx => by cases hx), (fun x hx => by simp at hx)⟩
    case ok1 => k_extra "mine ok"
  refine For_invV hb rfl rfl ?_
  refine' ld ?q1 ?q2 ?_
  (case q1 => k_asm)
  (case q2 => exact rfl)
  refine' iter_keys (kvs := g.nodes.map fun x => (x, Value.ref (A.ia x))) (fun i m₁ nl => Ex3 fun frs' sn P => All9 (TI.SameUp frs frs') (TI.Frs (envOf cn cs L a ccd :: outer) frs') (FJ prog w nl A g rv pv fv frs' news sa ia se nd sn P) ((∀ j y, j < i → g.nodes[j]? = some y → sn y = true)) (m₁ (Str.ofString "n2i") = some (.ref A.d2)) (m₁ (Str.ofString "stack") = some (.ref sa)) (m₁ (Str.ofString "itstack") = some (.ref ia)) (m₁ (Str.ofString "seen") = some (.ref se)) (m₁ (Str.ofString "node2stacki") = some (.ref nd))) rfl ?F ?N ?M hd2 lo2 ?j0 ?turn ?done
  (case F => k_asm)
  (case N => k_asm)
  (case M => exact .tail _ (.tail _ (.tail _ (.tail _ m3))))
  (case j0 => exact ⟨frs, _, _, TI.SameUp.refl _, FS, J0, fun j y hj => absurd hj (Nat.not_lt_zero _), rfl, rfl, rfl, rfl, rfl⟩)
  (case turn =>
    clear F9 N9 J0 lse ls ls4 lnd8 hsi hss hds hdi fps fpi
    intro i y ty m₁ nl h tk I io hvi hJ hl hnI F₁ N₁
    refine hideG fun zG zK => ?_
    obtain ⟨frs1, sn, P, SU, FS1, J, hsn, hm1, hm2, hm3, hm4, hm5⟩ := hJ
    have H := J.into (io := io) (xa := fun _ => 0) (ti := fun _ => 0) hnI
    have hy : g.nodes[i]? = some y := by
      obtain ⟨v, hv⟩ := hvi
      rw [List.getElem?_map] at hv
      cases q : g.nodes[i]? with
      | none => rw [q] at hv; cases hv
      | some z => rw [q] at hv; cases hv; rfl
    obtain ⟨so, ks, ms, hso, hks⟩ := H.seen
    refine zK ?_
    clear zK zG
    have hks2 : ks ≤ 1000 := Nat.le_trans hks (Nat.le_trans (List.length_filter_le _ _) hnl)
    have okl := H.S.ok
    have F2 := know F₁ (y := Str.ofString "seen") (v := .ref se) hm4
    clear F₁
    generalize hnl' : (I, io) :: nl = nl1 at *
    refine hideQ fun _ _ => ?_
    k_steps
    · subst hnl'
      refine turn_cont F2 N₁ (.head _) (.tail _ hl) (hnI _ hl) ⟨frs1, sn, P, SU, FS1, ?_, ?_, ?_, ?_, ?_, ?_, ?_⟩
      · exact H.out J.nl
      · intro j z hj hz
        rcases Nat.lt_succ_iff_lt_or_eq.mp hj with hj | rfl
        · exact hsn j z hj hz
        · rw [hy] at hz; cases hz; assumption
      · exact hm1
      · exact hm2
      · exact hm3
      · rfl
      · exact hm5
    rename (sn y = false) => hsy
    refine Stop.of ?_
    have hyn : y ∈ g.nodes := List.mem_of_getElem? hy
    refine While_inv2 (fun n m₂ nl2 => Ex8 fun frs2 sn2 P2 stk xa ti z tz => All14 (TI.SameUp frs frs2) (TI.Frs (envOf cn cs L a ccd :: outer) frs2) (FI prog w nl2 A g rv pv fv frs2 news ⟨sa, ia, se, nd, I, io⟩ xa ti stk sn2 P2) (n = meas g P2) (z ∈ g.nodes) ((z ∈ stk ∨ ∀ x, x ∉ (g.succ x).take (P2 x))) ((∀ x, sn x = true → sn2 x = true)) ((sn2 y = true ∨ z = y)) (m₂ (Str.ofString "node") = some (.str z tz)) (m₂ (Str.ofString "n2i") = some (.ref A.d2)) (m₂ (Str.ofString "stack") = some (.ref sa)) (m₂ (Str.ofString "itstack") = some (.ref ia)) (m₂ (Str.ofString "seen") = some (.ref se)) (m₂ (Str.ofString "node2stacki") = some (.ref nd)))
      F2 N₁ ⟨frs1, sn, P, [], _, _, y, ty, SU, FS1, H, rfl, hyn, .inr J.nl, fun _ h => h, .inr rfl, rfl, hm1, hm2, hm3, rfl, hm5⟩ ?_
    clear F2 N₁ H J hso ms hks okl hm1 hm2 hm3 hm4 hm5 FS1 SU
    intro n m₂ nl2 h2 tk2 F₂ N₂ hJ2
    refine hideG fun zG zK => ?_
    obtain ⟨frs2, sn2, P2, stk, xa, ti, z, tz, SU2, FS2, H2, hn2, hzn, hzs, hsub2, hsy2, hm0, hm1, hm2, hm3, hm4, hm5⟩ := hJ2
    obtain ⟨so, ks, ms, hso, hks⟩ := H2.seen
    have hks2 : ks ≤ 1000 := Nat.le_trans hks (Nat.le_trans (List.length_filter_le _ _) hnl)
    have ok2 := H2.S.ok
    obtain ⟨do2, kvs, md, hdo, hkv, hkv'⟩ := H2.n2s
    have lnd2 := H2.lnd
    obtain ⟨vs2, n2, ma, hvs2⟩ := H2.stack
    obtain ⟨n2', mi⟩ := H2.its
    have oo1 : @LT.lt Nat _ sa ia := H2.o1
    have oo2 : @LT.lt Nat _ ia se := H2.o2
    have oo3 : @LT.lt Nat _ se nd := H2.o3
    dsimp only at ms md lnd2 ma mi
    have hin := valueAt_keys hkv z
    have hlen := Nat.le_trans H2.len hnl
    have hvl2 := hvs2.1
    have hkl : kvs.length = stk.length := by rw [← hkv, List.length_map]
    obtain ⟨txz, tnz, miz⟩ := (H2.S.node z hzn).info
    have mdz := (H2.S.node z hzn).dict
    obtain ⟨vz, nz, mlz, hvzs⟩ := (H2.S.node z hzn).lst
    obtain ⟨o3, m33, hd3⟩ := H2.S.d2
    refine zK ?_
    clear zK zG
    have hvz := H2.S.valueAt hzn
    have fz1 : @LT.lt Nat _ (A.ia z) sa := H2.low _ (.inr (.inr (.inr ⟨z, hzn, .inl rfl⟩)))
    have fz2 : @LT.lt Nat _ (A.la z) sa := H2.low _ (foot_la hzn)
    have fz3 : @LT.lt Nat _ A.d2 sa := H2.low _ (.inr (.inr (.inl rfl)))
    have fz4 : @LT.lt Nat _ (A.dd z) sa := H2.low _ (.inr (.inr (.inr ⟨z, hzn, .inr (.inl rfl)⟩)))
    have F3 := know (know (know (know (know (know F₂ (y := Str.ofString "node2stacki") (v := .ref nd) hm5) (y := Str.ofString "seen") (v := .ref se) hm4) (y := Str.ofString "itstack") (v := .ref ia) hm3) (y := Str.ofString "stack") (v := .ref sa) hm2) (y := Str.ofString "n2i") (v := .ref A.d2) hm1) (y := Str.ofString "node") (v := .str z tz) hm0
    clear F₂
    refine hideQ fun _ _ => ?_
    k_steps
    refine Stop.of ?_
    refine wpAny_mono (Q := fun f s' => match f with
      | .ret v => Stop (∃ D vs h3 tk3 m3 nl3, v = .ref D ∧ s' = { s with heap := h3, toks := tk3 } ∧ Fr hb L' h3 m3 ∧ News hb L' h3 nl3 ∧ Ok nl3 ∧ (D, seqObj "list" vs 0) ∈ nl3 ∧ (∀ p ∈ nl2, p ∈ nl3) ∧ (∀ p ∈ nl2, p.1 < D) ∧ 0 < vs.length ∧ vs.length ≤ 2000)
      | .next => Stop (∃ h3 tk3 m3 nl3 sn3 stk3 xa3 ti3, s' = { s with heap := h3, toks := tk3 } ∧ Fr hb L' h3 m3 ∧ News hb L' h3 nl3 ∧ FI prog w nl3 A g rv pv fv frs2 news ⟨sa, ia, se, nd, I, io⟩ xa3 ti3 stk3 sn3 P2 ∧ (∀ x, x ∉ (g.succ x).take (P2 x)) ∧ (∀ x, sn x = true → sn3 x = true) ∧ sn3 y = true ∧
        m3 (Str.ofString "n2i") = some (.ref A.d2) ∧ m3 (Str.ofString "stack") = some (.ref sa) ∧ m3 (Str.ofString "itstack") = some (.ref ia) ∧ m3 (Str.ofString "seen") = some (.ref se) ∧ m3 (Str.ofString "node2stacki") = some (.ref nd))
      | _ => False) ?_ ?_ (fun _ _ e => e)
    · refine wpAny_If ?_
      refine hideQ fun _ _ => ?_
      k_steps
      · have hzk : z ∈ stk := by first | assumption | simp_all
        refine hideG fun zG zK => ?_
        obtain ⟨i5, t5', hi5, hv5⟩ := valueAt_idx hkv H2.nodup hkv' hzk
        refine zK ?_
        clear zK zG
        k_steps
        refine Stop.of ?_
        refine' kmk_add_lit ?Fa ?Na ?aa ?ba rfl ?_ ?za
        (case Fa => k_asm)
        (case Na => k_asm)
        (case aa => exact News.isList (by k_asm) (by k_mem))
        (case ba => exact News.isList (by k_asm) (by k_mem))
        (case za =>
          have := kms_pick_le vs2 (some (i5 : Int)) none
          simp only [List.toList_toArray, List.length_cons, List.length_nil]
          rw [sizeLine_eq]
          omega)
        intro D6 h6 F6 N6 l6
        have := kms_pick_le vs2 (some (i5 : Int)) none
        refine ⟨D6, _, h6, _, _, _, rfl, rfl, F6, N6, ?_, .head _, fun p hp => .tail _ (.tail _ (.tail _ hp)), fun p hp => l6 p (.tail _ (.tail _ hp)), ?_, ?_⟩
        · k_extra "mine ok"
        · simp
        · simp only [List.toList_toArray, List.length_append, List.length_cons, List.length_nil]
          omega
      · have hzk : z ∉ stk := by first | assumption | simp_all
        refine ⟨_, _, _, nl2, sn2, stk, xa, ti, rfl, F3, N₂, H2, hzs.resolve_left hzk, hsub2, ?_, rfl, rfl, rfl, rfl, rfl⟩
        rcases hsy2 with h | h
        · exact h
        · rw [← h]; assumption
      · rename (sn2 z = false) => hsz
        have hzk : z ∉ stk := fun h => by rw [H2.sub z h] at hsz; cases hsz
        rename_i tkA hA oA hsA tkB it hB l1B l2B x hC l1C l2C l3C hD tkD hE oE DE tkE hF FF NF
        rw [if_neg (by rw [hsz]; decide)] at hsA
        rw [stored_out hkv hzk, hvl2] at DE
        rw [List.push_toArray, List.push_toArray] at NF
        refine hideG fun zG zK => ?_
        obtain ⟨i1, i2, i3, i4, i5, i6, i7⟩ := H2.iI
        refine zK ?_
        clear zK zG
        have ln : nd < it := l1B (nd, do2) (mem_set_ne (Nat.ne_of_gt oo3) md)
        have lI : I < it := l1B (I, io) (mem_set_ne (Ne.symm i3) H2.hI)
        refine ⟨_, _, _, _, _, _, _, _, rfl, FF, NF, H2.push (n1 := n2 + 1) (n2 := n2' + 1) (t := tz) ?ok hsz hzn ?keep hvs2 ?m1 ?m2 ?m3 hsA hks ?m4 DE hkv hkv' (.head _) (.tail _ (.head _)) (Nat.lt_trans ln l3C) ln (Nat.ne_of_gt (Nat.lt_trans lI l3C)) (Nat.ne_of_gt lI) hnod, hzs.resolve_left hzk, ?_, ?_, rfl, rfl, rfl, rfl, rfl⟩
        case ok => k_extra "mine ok"
        case keep => exact fun p hp h1 h2 h3 h4 => .tail _ (.tail _ (mem_set_ne h1 (mem_set_ne h4 (mem_set_ne h2 (mem_set_ne h3 hp)))))
        case m1 => k_mem
        case m2 => k_mem
        case m3 => k_mem
        case m4 => k_mem
        · intro x hx; rw [hsub2 x hx]; rfl
        · rcases hsy2 with h | h
          · rw [h]; rfl
          · rw [h]; simp
    · intro f s' hf
      cases f with
      | brk => exact False.elim hf
      | cont => exact False.elim hf
      | next =>
        refine hideG fun zG zK => ?_
        obtain ⟨h3, tk3, m3, nl3, sn3, stk3, xa3, ti3, rfl, F3', N3', H3, hno3, hsub3, hsy3, g1, g2, g3, g4, g5⟩ := hf
        refine zK ?_
        clear zK zG
        k_steps
        refine Stop.of ?_
        refine fcInner rfl rfl F3' N3' Xa Ta FS2 H3 hfree hno3 hnl hcl g1 g2 g3 g4 g5 ?k1 ?k2
        case k1 =>
          intro h7 tk7 m7 nl7 frs7 P7 stk7 z7 tz7 F7 N7 SU7 FS7 H7 hlt7 hz7 hor7 q0 q1 q2 q3 q4 q5
          k_steps
          exact ⟨h7, tk7, m7, nl7, _, rfl, F7, N7, by rw [hn2]; exact hlt7, frs7, sn3, P7, stk7, xa3, ti3, z7, tz7, TI.SameUp.trans SU2 SU7, FS7, H7, rfl, hz7, hor7, hsub3, .inl hsy3, q0, q1, q2, q3, q4, q5⟩
        case k2 =>
          intro h7 tk7 m7 nl7 frs7 F7 N7 SU7 FS7 H7 q1 q2 q3 q4 q5
          show wpAny _ _ (execs [] _) _ _ _
          k_steps
          refine turn_next F7 N7 H7.hI (H7.kp _ m3n) (hnI _ hl) ⟨frs7, sn3, P2, TI.SameUp.trans SU2 SU7, FS7, H7.out hno3, fun j z hj hz => ?_, q1, q2, q3, q4, q5⟩
          rcases Nat.lt_succ_iff_lt_or_eq.mp hj with hj | rfl
          · exact hsub3 _ (hsn j z hj hz)
          · rw [hy] at hz; cases hz; exact hsy3
      | ret v =>
        refine hideG fun zG zK => ?_
        obtain ⟨D6, vs6, h6, tk6, m6, nl6, rfl, rfl, F6, N6, ok6, mD, k6, l6, lp, lq⟩ := hf
        have hfk := SameUp.keys SU2
        subst ehb
        obtain ⟨g1, T1, Fg, Ng⟩ := leave_frames hg ha SU2 F6 N6 (fun p hp => k6 p (H2.fr p hp)) hab
        refine zK ?_
        clear zK zG
        refine HQ.use (by assumption) ?_
        dsimp only [WhileStep2, TurnPost]
        refine HQ.use (by assumption) ?_
        dsimp only
        refine leaveS_r Fg Ng T1 fun h₀' a1 a2 a3 a4 a5 a6 a7 => ?_
        refine ret h₀' D6 vs6 _ _ _ a1 a2 a3 a4 a5 a6 a7 ?_ (fun p hp => ?_) (fun p hp => l6 p (H2.kp p hp)) ?_ lp lq
        · exact List.Nodup.sublist (List.Sublist.map _ List.filter_sublist) ok6
        · exact List.mem_filter.mpr ⟨k6 p (H2.kp p hp), decide_eq_true (hnf p hp)⟩
        · refine List.mem_filter.mpr ⟨mD, decide_eq_true fun hm => ?_⟩
          rw [← ha, ← hfk] at hm
          obtain ⟨q, hq, e⟩ := List.mem_map.mp hm
          exact absurd e (Nat.ne_of_lt (l6 q (H2.fr q hq))))
  (case done =>
    intro m₁ nl h tk hJ hlD F₁ N₁
    exfalso
    refine hideG fun zG zK => ?_
    obtain ⟨frs1, sn, P, SU, FS1, J, hsn, hm1, hm2, hm3, hm4, hm5⟩ := hJ
    obtain ⟨x, hx, hxx⟩ := hself
    obtain ⟨i, hi⟩ := List.getElem?_of_mem hx
    refine zK ?_
    clear zK zG
    have hs := hsn i x (by rw [List.length_map]; exact (List.getElem?_eq_some_iff.mp hi).1) hi
    refine J.nl x ?_
    rw [List.take_of_length_le (J.pd x hs)]
    exact hxx)

end
end
section
open PySem PySem.W PyProof.Rows PySem.Calls PySem.Spec
theorem words_Md : True := by
  k_with_none
  k_with "mine room" => ((try simp only [depth_under_make, depth_under_kw, depth_in1, depth_deeper, depth_caller]); (try dsimp only [ktrTop]); omega)
  k_with "mine all" => (first | (with_reducible assumption) | (with_reducible exact allLt_of (by assumption)) | (refine And.intro ?_ ?_; (first | assumption | ((try dsimp only at *); omega)); k_extra "mine all") | (exact allLt_up (by assumption) (by omega)) | (refine allLt_set ?_; k_extra "mine all") | fail)
  k_with "mine lt" => (first | assumption | (refine lt_allLt ?_; k_extra "mine all") | fail)
  k_with "mine ok" => (first | assumption | (refine Ok.setAt ?_ _ _; k_extra "mine ok") | (refine Ok.cons ?_ ?_; (k_extra "mine ok"); (k_extra "mine lt")) | fail)
  k_with "mine ne" => ((try dsimp only); first | assumption | (refine Ne.symm ?_; assumption) | (refine neN ?_; omega) | (apply ne_z1; (case q9m => assumption); (case q9h => k_extra "mine all")) | (apply ne_z2; (case q9m => assumption); (case q9h => k_extra "mine all")) | fail)
  k_with "mine nes" => (first | assumption | exact List.forall_mem_nil _ | (refine List.forall_mem_cons.mpr ⟨?_, ?_⟩; (k_extra "mine ne"); (k_extra "mine nes")) | (refine nes_set ?_; k_extra "mine nes") | (refine nes_lt ?_; k_extra "mine all") | fail)
  k_with "mine mem" => (first | (with_reducible assumption) | ktr_member | (with_reducible exact List.mem_cons_self) | (with_reducible apply mset_z; k_mem) | (with_reducible apply mset_ne_z; (case q9n => k_extra "mine ne"); (case q9x => k_mem)) | (with_reducible refine List.mem_cons_of_mem _ ?_; k_mem) | fail)
  k_with "mine upd" => (first | (with_reducible refine Upd.head ?_; k_extra "mine nes") | (with_reducible apply upd_tail; (case q9ne => k_extra "mine ne"); (case q9u => k_upd)) | (apply upd_z; (case q9k => k_extra "mine ok"); (case q9m => k_mem)) | fail)
  k_with "mine updF" => (first | (with_reducible refine UpdF.head ?_; k_extra "mine nes") | (with_reducible apply updF_tail; (case q9ne => k_extra "mine ne"); (case q9u => k_updF)) | (apply updF_z; (case q9k => k_extra "mine ok"); (case q9m => k_mem)) | fail)
  k_with "mine sub" => (first | exact (fun p hp => hp) | exact (fun p hp => List.mem_cons_of_mem _ hp) | exact (fun p hp => List.mem_cons_of_mem _ (List.mem_cons_of_mem _ hp)) | exact (fun p hp => List.mem_cons_of_mem _ (List.mem_cons_of_mem _ (List.mem_cons_of_mem _ hp))) | (refine List.forall_mem_cons.mpr ⟨?_, ?_⟩; k_mem; k_extra "mine sub") | (intro p hp; (repeat (first | exact hp | refine List.mem_cons_of_mem _ ?_))) | fail)
  k_with "mine units" => ((try simp only [units_in1, units_deeper]); (try dsimp only [ktrTop]); omega)
  k_with "mine leave" => (with_reducible apply HQ.use_z; (case q9h => with_reducible assumption))
  k_with "execs cons" => (k_here; (with_reducible refine NextQ.cons ?_); (try dsimp only); (try (with_reducible refine anyTk fun _ => ?_)))
  k_with "NextQ" => (with_reducible first | refine NextQ.nx ?_ | refine NextQ.rt ?_ | refine NextQ.bk ?_ | refine NextQ.ct ?_ | fail)
  trivial
section
variable {prog : Program} {w : World} {p : Program} {loose : List Str} {mean : ExcName → Option Value} {mg mb : Str → Option Value} {dp un : Nat} {gd : Option (List Code)} {cn : Str} {cs : Scope} {a : Addr} {ccd : Value} {cl : List (Str × Addr)} {outer : List Env} {A₀ : Around} {base h₀ : Heap} {L : Addr} {m : Str → Option Value} {news : Led} {s : Shared} {Q E : Value → Shared → Prop}
theorem fspathS (B : Below A₀ base outer h₀) (F : Fr h₀ L s.heap m) (X : (K w.params).In h₀) (N : News h₀ L s.heap news) (T : Top p loose mean mg mb h₀) (hk : cs.kind = .function) (hdp : dp + 12 < recursionLimit) {nm x : Str} {tn tx : Tok}
    (ret : ∀ h' tk', Fr h₀ L h' m → News h₀ L h' news → Q (.str x tx) { s with heap := h', toks := tk' }) :
    wpAny (model prog w) (ktrTop dp un gd cn cs L a ccd cl outer) (call (.ref 35) [.str nm tn, .str x tx]) Q E s := by
  refine wpAny_call ?_
  refine' code_def (binds := [(Str.ofString "name", .str nm tn), (Str.ofString "x", .str x tx)]) B F X N T rfl rfl hk ?k6 ?k7 ?k8 ?k9 ?kB ?_ ?c2 ?c3 ?c4 ?c5
  (case k6 => k_is)
  (case k7 => k_is)
  (case k8 => ktr_room)
  (case k9 => exact BindsTo.of_eq rfl)
  (case c5 => decide)
  (case kB => exact locs rfl)
  (case c2 => exact rfl)
  (case c3 => exact rfl)
  (case c4 => exact rfl)
  intro g' L' h' FG' F' N' B' X' T'
  refine noE ?_
  refine hideQ fun _ _ => ?_
  k_steps
  exact ret _ _ (by assumption) (by assumption)
theorem words_md_1 : True := by
  k_with "call ref" => ((k_here; (with_reducible show wpAny _ _ (call (Value.ref 35) [Value.str _ _, Value.str _ _]) _ _ _); k_dflt (refine fspathS (by k_asm) (by k_asm) (by k_asm) (by k_asm) (by k_asm) rfl (by ktr_room) ?_); intro _ _ _ _))
  trivial
noncomputable def baseOf (x : Str) : Str := Txt.slice x (some (Txt.rfind x (Str.ofString "/") + 1)) none
theorem basenameS (B : Below A₀ base outer h₀) (F : Fr h₀ L s.heap m) (X : (K w.params).In h₀) (N : News h₀ L s.heap news) (T : Top p loose mean mg mb h₀) (hk : cs.kind = .function) (hdp : dp + 14 < recursionLimit) {x : Str} {tx : Tok} (hx : x.length ≤ 1000)
    (ret : ∀ t h' tk', Fr h₀ L h' m → News h₀ L h' news → Q (.str (baseOf x) t) { s with heap := h', toks := tk' }) :
    wpAny (model prog w) (ktrTop dp un gd cn cs L a ccd cl outer) (call (.ref 63) [.str x tx]) Q E s := by
  refine wpAny_call ?_
  refine' code_def (binds := [(Str.ofString "p", .str x tx)]) B F X N T rfl rfl hk ?k6 ?k7 ?k8 ?k9 ?kB ?_ ?c2 ?c3 ?c4 ?c5
  (case k6 => k_is)
  (case k7 => k_is)
  (case k8 => ktr_room)
  (case k9 => exact BindsTo.of_eq rfl)
  (case c5 => decide)
  (case kB => exact locs rfl)
  (case c2 => exact rfl)
  (case c3 => exact rfl)
  (case c4 => exact rfl)
  intro g' L' h' FG' F' N' B' X' T'
  refine noE ?_
  refine hideQ fun _ _ => ?_
  k_steps
  exact ret _ _ _ (by assumption) (by assumption)
noncomputable def bases5 : List (Str × Str) := [(Str.ofString "m.py", Str.ofString "m"), (Str.ofString "m.pyc", Str.ofString "m"), (Str.ofString "n.py", Str.ofString "n"), (Str.ofString "x.y.py", Str.ofString "x.y"), (Str.ofString ".rc", Str.ofString ".rc")]
theorem bases_cases {b nm : Str} {P : Str → Str → Prop} (h : (b, nm) ∈ bases5) (h1 : P (Str.ofString "m.py") (Str.ofString "m")) (h2 : P (Str.ofString "m.pyc") (Str.ofString "m")) (h3 : P (Str.ofString "n.py") (Str.ofString "n")) (h4 : P (Str.ofString "x.y.py") (Str.ofString "x.y")) (h5 : P (Str.ofString ".rc") (Str.ofString ".rc")) : P b nm := by
  unfold bases5 at h
  simp only [List.mem_cons, List.not_mem_nil, or_false, Prod.mk.injEq] at h
  rcases h with ⟨rfl, rfl⟩ | ⟨rfl, rfl⟩ | ⟨rfl, rfl⟩ | ⟨rfl, rfl⟩ | ⟨rfl, rfl⟩ <;> assumption
theorem splitext_facts : ∀ bn ∈ bases5, Txt.rfind bn.1 (Str.ofString "/") = -1 ∧ bn.1.length ≤ 20 ∧ ((Txt.rfind bn.1 (Str.ofString ".") = 0 ∧ bn.1 = bn.2) ∨ (0 < Txt.rfind bn.1 (Str.ofString ".") ∧ (Txt.slice bn.1 (some 0) (some 1) != Str.ofString ".") = true ∧ Txt.slice bn.1 none (some (Txt.rfind bn.1 (Str.ofString "."))) = bn.2)) := by decide +kernel
theorem splitextS (B : Below A₀ base outer h₀) (F : Fr h₀ L s.heap m) (X : (K w.params).In h₀) (N : News h₀ L s.heap news) (T : Top p loose mean mg mb h₀) (hk : cs.kind = .function) (hdp : dp + 14 < recursionLimit) {b nm : Str} (hb : (b, nm) ∈ bases5) {tx : Tok}
    (ret : ∀ D v1 t1 n h' tk', Fr h₀ L h' m → News h₀ L h' ((D, seqObj "tuple" [.str nm t1, v1] n) :: news) → (∀ p ∈ news, p.1 < D) → Q (.ref D) { s with heap := h', toks := tk' }) :
    wpAny (model prog w) (ktrTop dp un gd cn cs L a ccd cl outer) (call (.ref 42) [.str b tx]) Q E s := by
  obtain ⟨hr, hlen, hd⟩ := splitext_facts (b, nm) hb
  dsimp only at hr hlen hd
  have hl : b.length ≤ 1000 := Nat.le_trans hlen (by decide)
  have k1 : decide (Txt.rfind b (Str.ofString ".") > Txt.rfind b (Str.ofString "/")) = true := decide_eq_true (by
    rcases hd with h | h
    · rw [hr, h.1]; decide
    · rw [hr]; have := h.1; omega)
  refine wpAny_call ?_
  refine' code_def (binds := [(Str.ofString "p", .str b tx)]) B F X N T rfl rfl hk ?k6 ?k7 ?k8 ?k9 ?kB ?_ ?c2 ?c3 ?c4 ?c5
  (case k6 => k_is)
  (case k7 => k_is)
  (case k8 => ktr_room)
  (case k9 => exact BindsTo.of_eq rfl)
  (case c5 => decide)
  (case kB => exact locs rfl)
  (case c2 => exact rfl)
  (case c3 => exact rfl)
  (case c4 => exact rfl)
  intro g' L' h' FG' F' N' B' X' T'
  refine noE ?_
  refine hideQ fun _ _ => ?_
  k_steps
  · rename (_ < Txt.rfind b (Str.ofString ".")) => hc
    rename (0 ≤ _) => h0
    rcases hd with ⟨e1, _⟩ | ⟨_, _, e3⟩
    · exfalso
      rw [hr, e1] at hc
      omega
    · rename (Fr h₀ L _ m) => kF
      rename (∀ p ∈ news, p.1 < _) => kl
      rename (News h₀ L _ _) => kN
      rw [e3] at kN
      exact ret _ _ _ _ _ _ kF kN kl
  · rename (Txt.rfind b (Str.ofString ".") ≤ _) => hc
    rename (0 ≤ _) => h0
    rename (Passed _ _ _) => hp
    rcases hd with ⟨e1, e2⟩ | ⟨e1, e2, _⟩
    · rename (Fr h₀ L _ m) => kF
      rename (∀ p ∈ news, p.1 < _) => kl
      rename (News h₀ L _ _) => kN
      rw [e2] at kN
      exact ret _ _ _ _ _ _ kF kN kl
    · exfalso
      rw [hr] at hc
      have := (hp 0 (Int.le_refl _) (by omega)).2
      rw [hr] at this
      simp only [Int.mul_zero, Int.add_zero] at this
      have e : (-1 + 1 : Int) = 0 := rfl
      rw [e] at this
      rw [show (0 + 1 : Int) = 1 from rfl, if_pos e2] at this
      cases this
theorem words_md_2 : True := by
  k_with "call ref" => (((with_reducible show wpAny _ _ (call (Value.ref _) _) _ _ _); refine stop_intro ?_))
  trivial
theorem modnameS (B : Below A₀ base outer h₀) (F : Fr h₀ L s.heap m) (X : (K w.params).In h₀) (N : News h₀ L s.heap news) (T : Top p loose mean mg mb h₀) (hk : cs.kind = .function) (hdp : dp + 16 < recursionLimit) {x b nm : Str} (hx : x.length ≤ 1000) (hb : (b, nm) ∈ bases5) (he : baseOf x = b) {tx : Tok}
    (ret : ∀ t h' tk', Fr h₀ L h' m → News h₀ L h' news → Q (.str nm t) { s with heap := h', toks := tk' }) :
    wpAny (model prog w) (ktrTop dp un gd cn cs L a ccd cl outer) (call (.ref 111) [.str x tx]) Q E s := by
  refine wpAny_call ?_
  refine' code_def (binds := [(Str.ofString "path", .str x tx)]) B F X N T rfl rfl hk ?k6 ?k7 ?k8 ?k9 ?kB ?_ ?c2 ?c3 ?c4 ?c5
  (case k6 => k_is)
  (case k7 => k_is)
  (case k8 => ktr_room)
  (case k9 => exact BindsTo.of_eq rfl)
  (case c5 => decide)
  (case kB => exact locs rfl)
  (case c2 => exact rfl)
  (case c3 => exact rfl)
  (case c4 => exact rfl)
  intro g' L' h' FG' F' N' B' X' T'
  refine noE ?_
  refine hideQ fun _ _ => ?_
  k_steps
  refine Stop.of ?_
  refine' basenameS B' ?k2 X' ?k4 T' rfl ?kd hx ?_
  (case k2 => k_asm)
  (case k4 => k_asm)
  (case kd => ktr_room)
  intro t1 h1 tk1 F1 N1
  rw [he]
  k_steps
  refine Stop.of ?_
  refine' splitextS B' ?k2 X' ?k4 T' rfl ?kd hb ?_
  (case k2 => k_asm)
  (case k4 => k_asm)
  (case kd => ktr_room)
  intro D v1 t2 n2 h2 tk2 F2 N2 l2
  k_steps
  rename_i kF kN _ _
  exact ret _ _ _ kF (News.sub kN (by k_extra "mine sub"))

end
end
section
open PySem PySem.W PyProof.Rows PySem.Calls PySem.Spec
theorem words_Nq : True := by
  k_with_none
  k_with "mine room" => ((try simp only [depth_under_make, depth_under_kw, depth_in1, depth_deeper, depth_caller]); (try dsimp only [ktrTop]); omega)
  k_with "mine all" => (first | (with_reducible assumption) | (with_reducible exact allLt_of (by assumption)) | (refine And.intro ?_ ?_; (first | assumption | ((try dsimp only at *); omega)); k_extra "mine all") | (exact allLt_up (by assumption) (by omega)) | (refine allLt_set ?_; k_extra "mine all") | fail)
  k_with "mine lt" => (first | assumption | (refine lt_allLt ?_; k_extra "mine all") | fail)
  k_with "mine ok" => (first | assumption | (refine Ok.setAt ?_ _ _; k_extra "mine ok") | (refine Ok.cons ?_ ?_; (k_extra "mine ok"); (k_extra "mine lt")) | fail)
  k_with "mine ne" => ((try dsimp only); first | assumption | (refine Ne.symm ?_; assumption) | (refine neN ?_; omega) | (apply ne_z1; (case q9m => assumption); (case q9h => k_extra "mine all")) | (apply ne_z2; (case q9m => assumption); (case q9h => k_extra "mine all")) | fail)
  k_with "mine nes" => (first | assumption | exact List.forall_mem_nil _ | (refine List.forall_mem_cons.mpr ⟨?_, ?_⟩; (k_extra "mine ne"); (k_extra "mine nes")) | (refine nes_set ?_; k_extra "mine nes") | (refine nes_lt ?_; k_extra "mine all") | fail)
  k_with "mine mem" => (first | (with_reducible assumption) | ktr_member | (with_reducible exact List.mem_cons_self) | (with_reducible apply mset_z; k_mem) | (with_reducible apply mset_ne_z; (case q9n => k_extra "mine ne"); (case q9x => k_mem)) | (with_reducible refine List.mem_cons_of_mem _ ?_; k_mem) | fail)
  k_with "mine upd" => (first | (with_reducible refine Upd.head ?_; k_extra "mine nes") | (with_reducible apply upd_tail; (case q9ne => k_extra "mine ne"); (case q9u => k_upd)) | (apply upd_z; (case q9k => k_extra "mine ok"); (case q9m => k_mem)) | fail)
  k_with "mine updF" => (first | (with_reducible refine UpdF.head ?_; k_extra "mine nes") | (with_reducible apply updF_tail; (case q9ne => k_extra "mine ne"); (case q9u => k_updF)) | (apply updF_z; (case q9k => k_extra "mine ok"); (case q9m => k_mem)) | fail)
  k_with "mine sub" => (first | exact (fun p hp => hp) | exact (fun p hp => List.mem_cons_of_mem _ hp) | exact (fun p hp => List.mem_cons_of_mem _ (List.mem_cons_of_mem _ hp)) | exact (fun p hp => List.mem_cons_of_mem _ (List.mem_cons_of_mem _ (List.mem_cons_of_mem _ hp))) | (refine List.forall_mem_cons.mpr ⟨?_, ?_⟩; k_mem; k_extra "mine sub") | (intro p hp; (repeat (first | exact hp | refine List.mem_cons_of_mem _ ?_))) | fail)
  k_with "mine units" => ((try simp only [units_in1, units_deeper]); (try dsimp only [ktrTop]); omega)
  k_with "mine leave" => (with_reducible apply HQ.use_z; (case q9h => with_reducible assumption))
  k_with "execs cons" => (k_here; (with_reducible refine NextQ.cons ?_); (try dsimp only); (try (with_reducible refine anyTk fun _ => ?_)))
  k_with "NextQ" => (with_reducible first | refine NextQ.nx ?_ | refine NextQ.rt ?_ | refine NextQ.bk ?_ | refine NextQ.ct ?_ | fail)
  trivial
section
variable {prog : Program} {w : World} {p : Program} {loose : List Str} {mean : ExcName → Option Value} {mg mb : Str → Option Value} {dp un : Nat} {gd : Option (List Code)} {cn : Str} {cs : Scope} {a : Addr} {ccd : Value} {cl : List (Str × Addr)} {outer : List Env} {A₀ : Around} {base h₀ : Heap} {L : Addr} {m : Str → Option Value} {news : Led} {s : Shared} {Q E : Value → Shared → Prop}
theorem splitrootS (B : Below A₀ base outer h₀) (F : Fr h₀ L s.heap m) (X : (K w.params).In h₀) (N : News h₀ L s.heap news) (T : Top p loose mean mg mb h₀) (hk : cs.kind = .function) (hdp : dp + 14 < recursionLimit) {x : Str} (hx : x.length ≤ 1000) {tx : Tok} (h1 : Txt.slice x none (some 1) = Str.ofString "/") (h2 : (Txt.slice x (some 1) (some 2) == Str.ofString "/") = false)
    (ret : ∀ D t1 t2 t3 h' tk', Fr h₀ L h' m → News h₀ L h' ((D, seqObj "tuple" [.str (Str.ofString "") t1, .str (Str.ofString "/") t2, .str (Txt.slice x (some 1) none) t3] 0) :: news) → (∀ p ∈ news, p.1 < D) → Q (.ref D) { s with heap := h', toks := tk' }) :
    wpAny (model prog w) (ktrTop dp un gd cn cs L a ccd cl outer) (call (.ref 56) [.str x tx]) Q E s := by
  have h3 : (Txt.slice x (some 1) (some 2) != Str.ofString "/") = true := by unfold bne; rw [h2]; rfl
  refine wpAny_call ?_
  refine' code_def (binds := [(Str.ofString "p", .str x tx)]) B F X N T rfl rfl hk ?k6 ?k7 ?k8 ?k9 ?kB ?_ ?c2 ?c3 ?c4 ?c5
  (case k6 => k_is)
  (case k7 => k_is)
  (case k8 => ktr_room)
  (case k9 => exact BindsTo.of_eq rfl)
  (case c5 => decide)
  (case kB => exact locs rfl)
  (case c2 => exact rfl)
  (case c3 => exact rfl)
  (case c4 => exact rfl)
  intro g' L' h' FG' F' N' B' X' T'
  refine noE ?_
  refine hideQ fun _ _ => ?_
  k_steps
  all_goals (first | (exfalso; rename ((Txt.slice x none (some 1) != _) = true) => hh; rw [h1] at hh; revert hh; decide) | skip)
  all_goals (first | (exfalso; rename (¬ ((Txt.slice x (some 1) (some 2) != _) = true)) => hh; exact hh h3) | skip)
  exact ret _ _ _ _ _ _ (by assumption) (by assumption) (by assumption)

end
end
section
open PySem PySem.W PyProof.Rows PySem.Calls PySem.Spec
theorem words_Nr : True := by
  k_with_none
  k_with "mine room" => ((try simp only [depth_under_make, depth_under_kw, depth_in1, depth_deeper, depth_caller]); (try dsimp only [ktrTop]); omega)
  k_with "mine all" => (first | (with_reducible assumption) | (with_reducible exact allLt_of (by assumption)) | (refine And.intro ?_ ?_; (first | assumption | ((try dsimp only at *); omega)); k_extra "mine all") | (exact allLt_up (by assumption) (by omega)) | (refine allLt_set ?_; k_extra "mine all") | fail)
  k_with "mine lt" => (first | assumption | (refine lt_allLt ?_; k_extra "mine all") | fail)
  k_with "mine ok" => (first | assumption | (refine Ok.setAt ?_ _ _; k_extra "mine ok") | (refine Ok.cons ?_ ?_; (k_extra "mine ok"); (k_extra "mine lt")) | fail)
  k_with "mine ne" => ((try dsimp only); first | assumption | (refine Ne.symm ?_; assumption) | (refine neN ?_; omega) | (apply ne_z1; (case q9m => assumption); (case q9h => k_extra "mine all")) | (apply ne_z2; (case q9m => assumption); (case q9h => k_extra "mine all")) | fail)
  k_with "mine nes" => (first | assumption | exact List.forall_mem_nil _ | (refine List.forall_mem_cons.mpr ⟨?_, ?_⟩; (k_extra "mine ne"); (k_extra "mine nes")) | (refine nes_set ?_; k_extra "mine nes") | (refine nes_lt ?_; k_extra "mine all") | fail)
  k_with "mine mem" => (first | (with_reducible assumption) | ktr_member | (with_reducible exact List.mem_cons_self) | (with_reducible apply mset_z; k_mem) | (with_reducible apply mset_ne_z; (case q9n => k_extra "mine ne"); (case q9x => k_mem)) | (with_reducible refine List.mem_cons_of_mem _ ?_; k_mem) | fail)
  k_with "mine upd" => (first | (with_reducible refine Upd.head ?_; k_extra "mine nes") | (with_reducible apply upd_tail; (case q9ne => k_extra "mine ne"); (case q9u => k_upd)) | (apply upd_z; (case q9k => k_extra "mine ok"); (case q9m => k_mem)) | fail)
  k_with "mine updF" => (first | (with_reducible refine UpdF.head ?_; k_extra "mine nes") | (with_reducible apply updF_tail; (case q9ne => k_extra "mine ne"); (case q9u => k_updF)) | (apply updF_z; (case q9k => k_extra "mine ok"); (case q9m => k_mem)) | fail)
  k_with "mine sub" => (first | exact (fun p hp => hp) | exact (fun p hp => List.mem_cons_of_mem _ hp) | exact (fun p hp => List.mem_cons_of_mem _ (List.mem_cons_of_mem _ hp)) | exact (fun p hp => List.mem_cons_of_mem _ (List.mem_cons_of_mem _ (List.mem_cons_of_mem _ hp))) | (refine List.forall_mem_cons.mpr ⟨?_, ?_⟩; k_mem; k_extra "mine sub") | (intro p hp; (repeat (first | exact hp | refine List.mem_cons_of_mem _ ?_))) | fail)
  k_with "mine units" => ((try simp only [units_in1, units_deeper]); (try dsimp only [ktrTop]); omega)
  k_with "mine leave" => (with_reducible apply HQ.use_z; (case q9h => with_reducible assumption))
  k_with "execs cons" => (k_here; (with_reducible refine NextQ.cons ?_); (try dsimp only); (try (with_reducible refine anyTk fun _ => ?_)))
  k_with "NextQ" => (with_reducible first | refine NextQ.nx ?_ | refine NextQ.rt ?_ | refine NextQ.bk ?_ | refine NextQ.ct ?_ | fail)
  trivial
section
variable {prog : Program} {w : World} {p : Program} {loose : List Str} {mean : ExcName → Option Value} {mg mb : Str → Option Value} {dp un : Nat} {gd : Option (List Code)} {cn : Str} {cs : Scope} {a : Addr} {ccd : Value} {cl : List (Str × Addr)} {outer : List Env} {A₀ : Around} {base h₀ : Heap} {L : Addr} {m : Str → Option Value} {news : Led} {s : Shared} {Q E : Value → Shared → Prop}
noncomputable def normStep (acc : List Str) (c : Str) : List Str := if c = Str.ofString "" ∨ c = Str.ofString "." then acc else if c = Str.ofString ".." then acc.dropLast else acc ++ [c]
noncomputable def normL (cs : List Str) : List Str := cs.foldl normStep []
noncomputable def normP (x : Str) : Str := Str.ofString "/" ++ Str.join (Str.ofString "/") (normL (Txt.split (Txt.slice x (some 1) none) (Str.ofString "/")))
structure NormAcc (cs : List Str) (i : Nat) (acc : List Str) : Prop where
  eq : acc = normL (cs.take i)
  sub : ∀ x ∈ acc, x ∈ cs
  no : ∀ x ∈ acc, x ≠ Str.ofString ".."
  len : acc.length ≤ i
theorem NormAcc.nil (cs : List Str) : NormAcc cs 0 [] := ⟨rfl, (fun _ h => nomatch h), (fun _ h => nomatch h), Nat.le_refl _⟩
theorem NormAcc.step {cs : List Str} {i : Nat} {acc : List Str} {c : Str} (h : NormAcc cs i acc) (hc : cs[i]? = some c) : NormAcc cs (i + 1) (normStep acc c) := by
  have e : normL (cs.take (i + 1)) = normStep acc c := by
    unfold normL
    rw [List.take_add_one, hc, Option.toList_some, List.foldl_append]
    show normStep (normL (cs.take i)) c = _
    rw [← h.eq]
  refine ⟨e.symm, fun x hx => ?_, fun x hx => ?_, ?_⟩
  · unfold normStep at hx
    split at hx
    · exact h.sub x hx
    · split at hx
      · exact h.sub x (List.dropLast_subset _ hx)
      · rcases List.mem_append.mp hx with hx | hx
        · exact h.sub x hx
        · rw [List.mem_singleton.mp hx]; exact List.mem_of_getElem? hc
  · unfold normStep at hx
    split at hx
    · exact h.no x hx
    · split at hx
      · exact h.no x (List.dropLast_subset _ hx)
      · rename_i hn
        rcases List.mem_append.mp hx with hx | hx
        · exact h.no x hx
        · rw [List.mem_singleton.mp hx]; exact hn
  · have := h.len
    unfold normStep
    split
    · omega
    · split
      · rw [List.length_dropLast]; omega
      · rw [List.length_append, List.length_singleton]; omega
theorem dropI_head {l : Led} {I : Addr} {io : Obj} (h : ∀ p ∈ l, p.1 ≠ I) : dropI ((I, io) :: l) I = l := by
  unfold dropI
  rw [List.filter_cons_of_neg (by simp), List.filter_eq_self]
  intro p hp
  exact decide_eq_true (h p hp)
theorem Strs.at {vs : List Value} {xs : List Str} (h : Strs vs xs) {i : Nat} {v : Value} (hv : vs[i]? = some v) : ∃ x t, xs[i]? = some x ∧ v = .str x t := by
  have hi : i < xs.length := by rw [← h.1]; exact (List.getElem?_eq_some_iff.mp hv).1
  obtain ⟨t, ht⟩ := h.2 i xs[i] (by simp [hi])
  rw [hv] at ht
  exact ⟨xs[i], t, by simp [hi], Option.some.inj ht⟩
theorem len_pos_of {c : Str} (h : ¬ c = Str.ofString "") : ((c.length : Int) != 0) = true := by
  have : c.length ≠ 0 := fun e => h (by
    obtain ⟨a⟩ := c
    have : a = #[] := Array.eq_empty_of_size_eq_zero e
    rw [this]; decide)
  simp only [bne_iff_ne, ne_eq]
  omega
theorem ite_yes {b : Bool} {P Q : Prop} (hb : b = true) (h : P) : if b = true then P else Q := by rw [if_pos hb]; exact h
theorem ite_no {b : Bool} {P Q : Prop} (hb : b = false) (h : Q) : if b = true then P else Q := by rw [hb]; exact h
theorem words_nr_1 : True := by
  k_with "ite" => (first | (with_reducible refine ite_yes (by with_reducible assumption) ?_) | (with_reducible refine ite_no (by with_reducible assumption) ?_))
  k_with "truthy ref" => ((k_here; (with_reducible show wpAny _ _ (truthy (Value.ref _)) _ _ _); k_dflt (refine truthy_lst (by k_asm) (by k_mem) (by first | omega | (simp only [List.length_append, List.length_cons, List.length_nil]; omega)) ?_)))
  k_with "subscriptTail Name UnaryOp ref int" => ((k_here; (with_reducible show wpAny _ _ (subscriptTail _ _ (Value.ref _) (Value.int _ _)) _ _ _); k_dflt (refine kde_neg (vs := _) (by exact News.isList (by k_asm) (by k_mem)) (by decide) (by decide) (by assumption) (by assumption) ?_)))
  k_with "call builtin:list.pop" => ((k_here; (with_reducible show wpAny _ _ (call (Value.builtin "list.pop") [Value.ref _]) _ _ _); k_dflt (refine kl_pop (by k_asm) (by k_asm) (kl_last_snoc _ _) (by k_upd) (by (simp only [List.toList_toArray, List.length_append, List.length_cons, List.length_nil, List.length_map]; rw [sizeLine_eq]; omega)) ?_); intro _ _ _))
  k_with "call builtin:list.append" => ((k_here; (with_reducible show wpAny _ _ (call (Value.builtin _) [Value.ref _, _]) _ _ _); k_dflt (refine append_K (by k_asm) (by k_asm) (by k_upd) ?_ (by (simp only [List.size_toArray, List.length_map]; rw [sizeLine_eq]; omega)); k_whole); intro _ _ _; (try k_sweep)))
  k_with "call ref" => (((with_reducible show wpAny _ _ (call (Value.ref 56) _) _ _ _); refine stop_intro ?_))
  k_with "exec For" => (((with_reducible show wpAny _ _ (exec (Stmt.For _ _ _ _ _) _) _ _ _); refine stop_intro ?_))
  k_with "call builtin:str.join" => ((k_here; (with_reducible show wpAny _ _ (call (Value.builtin "str.join") [Value.str _ _, Value.ref _]) _ _ _); k_dflt (refine join_lst (by k_asm) (by k_mem) (by assumption) (by assumption) (by omega) (by decide +kernel) ?_); intro _ _ _))
  k_with "binaryOp Add str str" => ((k_here; (with_reducible show wpAny _ _ (binaryOp Operator.Add (Value.str _ _) (Value.str _ _)) _ _ _); k_dflt (refine my_add (by omega) ?_); intro _ _ _))
  trivial
theorem normS (B : Below A₀ base outer h₀) (F : Fr h₀ L s.heap m) (X : (K w.params).In h₀) (N : News h₀ L s.heap news) (T : Top p loose mean mg mb h₀) (hk : cs.kind = .function) (hdp : dp + 16 < recursionLimit) {x : Str} (hx : x.length ≤ 100) {tx : Tok} (h0 : x.length ≠ 0) (h1 : Txt.slice x none (some 1) = Str.ofString "/") (h2 : (Txt.slice x (some 1) (some 2) == Str.ofString "/") = false) (h3 : (Txt.slice x (some 1) none).length ≤ 100)
    (hn : (Txt.split (Txt.slice x (some 1) none) (Str.ofString "/")).length ≤ 10) (ret : ∀ t h' tk', Fr h₀ L h' m → News h₀ L h' news → Q (.str (normP x) t) { s with heap := h', toks := tk' }) :
    wpAny (model prog w) (ktrTop dp un gd cn cs L a ccd cl outer) (call (.ref 70) [.str x tx]) Q E s := by
  have l1 : (Str.ofString "/").length = 1 := by decide +kernel
  refine wpAny_call ?_
  refine' code_def (binds := [(Str.ofString "path", .str x tx)]) B F X N T rfl rfl hk ?k6 ?k7 ?k8 ?k9 ?kB ?_ ?c2 ?c3 ?c4 ?c5
  (case k6 => k_is)
  (case k7 => k_is)
  (case k8 => ktr_room)
  (case k9 => exact BindsTo.of_eq rfl)
  (case c5 => decide)
  (case kB => exact locs rfl)
  (case c2 => exact rfl)
  (case c3 => exact rfl)
  (case c4 => exact rfl)
  intro g' L' h' FG' F' N' B' X' T'
  refine noE ?_
  refine hideQ fun _ _ => ?_
  k_steps
  all_goals (first | (exfalso; omega) | skip)
  refine Stop.of ?_
  refine' splitrootS B' ?k2 X' ?k4 T' rfl ?kd (Nat.le_trans hx (by decide)) h1 h2 ?_
  (case k2 => k_asm)
  (case k4 => k_asm)
  (case kd => ktr_room)
  intro D t1 t2 t3 h4 tk2 F2 N2 l2
  k_steps
  refine Stop.of ?_
  rename (Fr g' L' _ _) => F4
  rename (News g' L' _ _) => N4
  rename (List.map (fun x : Str × Tok => x.fst) _ = Txt.split _ _) => e4
  rename (∀ a : Str, a ∈ List.map _ _ → a.length ≤ _) => b4
  rename (_ ∧ D < _ ∧ AllLt _ news) => l4
  have hS := Strs.mkV e4
  rw [e4] at b4
  clear e4
  refine hideG fun zG zK => ?_
  obtain ⟨la, ca, cvs, restN, mm, td, tdd, ts, N5, F5, mc, hne, hsub, hS5, w0, w1, w2, w3, w4, w5⟩ : ∃ la ca cvs restN mm td tdd ts, News g' L' _ ((la, seqObj "list" [] 0) :: restN) ∧ Fr g' L' _ mm ∧ (ca, seqObj "list" cvs 0) ∈ restN ∧ (∀ p ∈ restN, p.1 ≠ la) ∧ (∀ p ∈ news, p ∈ restN) ∧ Strs cvs (Txt.split (Txt.slice x (some 1) none) (Str.ofString "/")) ∧
      mm (Str.ofString "comps") = some (.ref ca) ∧ mm (Str.ofString "new_comps") = some (.ref la) ∧ mm (Str.ofString "dot") = some (.str (Str.ofString ".") td) ∧ mm (Str.ofString "dotdot") = some (.str (Str.ofString "..") tdd) ∧ mm (Str.ofString "initial_slashes") = some (.str (Str.ofString "/") t2) ∧ mm (Str.ofString "sep") = some (.str (Str.ofString "/") ts) :=
    ⟨_, _, _, _, _, _, _, _, N4, F4, List.mem_cons_self, by k_extra "mine nes", by k_extra "mine sub", hS, rfl, rfl, rfl, rfl, rfl, rfl⟩
  refine zK ?_
  clear zK zG
  clear N4 F4 hS l4
  generalize hcs : Txt.split (Txt.slice x (some 1) none) (Str.ofString "/") = cs' at *
  have F6 := know F5 w0
  refine For_invV g' rfl rfl ?_
  refine' ld ?u1 ?u2 ?_
  (case u1 => exact F6)
  (case u2 => exact rfl)
  refine' iter_list (fun i m₁ nl => Ex3 fun n vs acc => All8 (nl = (la, seqObj "list" vs n) :: restN) (Strs vs acc) (NormAcc cs' i acc) (m₁ (Str.ofString "new_comps") = some (.ref la)) (m₁ (Str.ofString "dot") = some (.str (Str.ofString ".") td)) (m₁ (Str.ofString "dotdot") = some (.str (Str.ofString "..") tdd)) (m₁ (Str.ofString "initial_slashes") = some (.str (Str.ofString "/") t2)) (m₁ (Str.ofString "sep") = some (.str (Str.ofString "/") ts))) rfl F5 N5 ?M ?j ?turn ?done
  (case M => exact List.mem_cons_of_mem _ mc)
  (case j => exact ⟨0, [], [], rfl, Strs.nil, NormAcc.nil _, w1, w2, w3, w4, w5⟩)
  (case turn =>
    clear F5 F6 N5
    intro i v m₁ nl h5 tk5 I io hv hJ hl5 hnI F5 N5
    refine hideG fun zG zK => ?_
    obtain ⟨n, vs, acc, rfl, hvs, hacc, v1, v2, v3, v4, v5⟩ := hJ
    obtain ⟨c, tc, hc, rfl⟩ := hS5.at hv
    refine zK ?_
    clear zK zG
    have hcl : c.length ≤ 100 := Nat.le_trans (b4 c (List.mem_of_getElem? hc)) h3
    have hi : i < 10 := Nat.lt_of_lt_of_le (List.getElem?_eq_some_iff.mp hc).1 hn
    have hal := hacc.len
    have hvl := hvs.1
    have hst := hacc.step hc
    have hIl : la ≠ I := hnI _ (.head _)
    have hIr : ∀ p ∈ restN, p.1 ≠ I := fun p hp => hnI p (.tail _ hp)
    have hl5' : ∀ o, (ca, seqObj "list" cvs 0) ∈ (la, o) :: restN := fun o => .tail _ mc
    have hnI' : ∀ o, ∀ p ∈ (la, (o : Obj)) :: restN, p.1 ≠ I := fun o => List.forall_mem_cons.mpr ⟨hIl, hIr⟩
    have F6 := know (know (know (know F5 (y := Str.ofString "new_comps") v1) (y := Str.ofString "dot") v2) (y := Str.ofString "dotdot") v3) (y := Str.ofString "initial_slashes") v4
    clear F5
    refine hideQ fun _ _ => ?_
    by_cases c0 : c = Str.ofString ""
    · subst c0
      k_steps
      have e : normStep acc (Str.ofString "") = acc := if_pos (.inl rfl)
      rw [e] at hst
      rename (Fr g' _ _ _) => F7
      rename (News g' _ _ _) => N7
      exact turn_next (Q := fun _ _ => False) F7 N7 (.head _) (.tail _ hl5) (hnI _ hl5) (by rw [dropI_head hnI]; exact ⟨n, vs, acc, rfl, hvs, hst, rfl, rfl, rfl, rfl, v5⟩)
    by_cases c1 : c = Str.ofString "."
    · subst c1
      k_steps
      have e : normStep acc (Str.ofString ".") = acc := if_pos (.inr rfl)
      rw [e] at hst
      rename (Fr g' _ _ _) => F7
      rename (News g' _ _ _) => N7
      exact turn_next (Q := fun _ _ => False) F7 N7 (.head _) (.tail _ hl5) (hnI _ hl5) (by rw [dropI_head hnI]; exact ⟨n, vs, acc, rfl, hvs, hst, rfl, rfl, rfl, rfl, v5⟩)
    by_cases c2 : c = Str.ofString ".."
    · subst c2
      have e : normStep acc (Str.ofString "..") = acc.dropLast := rfl
      rw [e] at hst
      rcases List.eq_nil_or_concat acc with rfl | ⟨ys, y, ea⟩
      · obtain rfl : vs = [] := List.eq_nil_of_length_eq_zero hvl
        have ke : ([] : List Value).isEmpty = true := rfl
        k_steps
        rename (Fr g' _ _ _) => F7
        rename (News g' _ _ _) => N7
        exact turn_next (Q := fun _ _ => False) F7 N7 (.head _) (.tail _ hl5) (hnI _ hl5) (by rw [dropI_head hnI]; exact ⟨n, [], [], rfl, hvs, hst, rfl, rfl, rfl, rfl, v5⟩)
      · rw [List.concat_eq_append] at ea
        subst ea
        refine hideG fun zG zK => ?_
        obtain ⟨us, ty, rfl, hus⟩ := hvs.snoc
        refine zK ?_
        clear zK zG
        have hy := hacc.no y (by simp)
        have ky : (y == Str.ofString "..") = false := by simpa using hy
        have ke : (us ++ [Value.str y ty]).isEmpty = false := by simp
        have hj := last_ix us (Value.str y ty)
        have hx5 : (us ++ [Value.str y ty])[us.length]? = some (Value.str y ty) := by simp
        have hul : us.length < 10 := by simp at hvl hal; omega
        k_steps
        rw [List.dropLast_concat] at hst
        rename (Fr g' _ _ _) => F7
        rename (News g' _ _ (_ :: (_, W.listOf us.toArray _) :: _)) => N7
        exact turn_next (Q := fun _ _ => False) F7 N7 (.head _) (.tail _ (hl5' _)) (hnI _ hl5) (by rw [dropI_head (hnI' _)]; exact ⟨n + 1, us, ys, rfl, hus, hst, rfl, rfl, rfl, rfl, v5⟩)
    have e : normStep acc c = acc ++ [c] := by
      unfold normStep
      rw [if_neg (by intro h; rcases h with h | h; exact c0 h; exact c1 h), if_neg c2]
    rw [e] at hst
    have hvb : vs.length < 10 := by omega
    have k0 : ((c.length : Int) != 0) = true := len_pos_of c0
    have k1 : (c == Str.ofString ".") = false := by simpa using c1
    have k2 : (c != Str.ofString "..") = true := by simpa using c2
    k_steps
    rename (Fr g' _ _ _) => F7
    rename (News g' _ _ (_ :: (_, W.listOf (Array.push _ _) _) :: _)) => N7
    rw [List.push_toArray] at N7
    exact turn_next (Q := fun _ _ => False) F7 N7 (.head _) (.tail _ (hl5' _)) (hnI _ hl5) (by rw [dropI_head (hnI' _)]; exact ⟨n + 1, vs ++ [.str c tc], acc ++ [c], rfl, hvs.push c tc, hst, rfl, rfl, rfl, rfl, v5⟩))
  (case done =>
    clear F5 F6 N5
    intro m₁ nl h5 tk5 hJ hl5 F5 N5
    refine hideG fun zG zK => ?_
    obtain ⟨n, vs, acc, rfl, hvs, hacc, v1, v2, v3, v4, v5⟩ := hJ
    refine zK ?_
    clear zK zG
    have hlen : cvs.length = cs'.length := hS5.1
    have hal := hacc.len
    have hacc' : acc = normL cs' := by rw [hacc.eq, hlen, List.take_length]
    have hxs : ∀ x ∈ acc, x.length ≤ 100 := fun x hx => Nat.le_trans (b4 x (hacc.sub x hx)) h3
    have F6 := know (know (know F5 (y := Str.ofString "new_comps") v1) (y := Str.ofString "sep") v5) (y := Str.ofString "initial_slashes") v4
    clear F5
    k_steps
    rename (Fr h₀ L _ m) => kF
    rename (News h₀ L _ ((la, _) :: restN)) => kN
    have e : normP x = Str.ofString "/" ++ (Str.ofString "/").join acc := by unfold normP; rw [hcs, hacc']
    rw [← e]
    exact ret _ _ _ kF (News.sub kN fun p hp => .tail _ (hsub p hp)))

end
end
section
open PySem PySem.W PyProof.Rows PySem.Calls PySem.Spec
theorem words_Np : True := by
  k_with_none
  k_with "mine room" => ((try simp only [depth_under_make, depth_under_kw, depth_in1, depth_deeper, depth_caller]); (try dsimp only [ktrTop]); omega)
  k_with "mine all" => (first | (with_reducible assumption) | (with_reducible exact allLt_of (by assumption)) | (refine And.intro ?_ ?_; (first | assumption | ((try dsimp only at *); omega)); k_extra "mine all") | (exact allLt_up (by assumption) (by omega)) | (refine allLt_set ?_; k_extra "mine all") | fail)
  k_with "mine lt" => (first | assumption | (refine lt_allLt ?_; k_extra "mine all") | fail)
  k_with "mine ok" => (first | assumption | (refine Ok.setAt ?_ _ _; k_extra "mine ok") | (refine Ok.cons ?_ ?_; (k_extra "mine ok"); (k_extra "mine lt")) | fail)
  k_with "mine ne" => ((try dsimp only); first | assumption | (refine Ne.symm ?_; assumption) | (refine neN ?_; omega) | (apply ne_z1; (case q9m => assumption); (case q9h => k_extra "mine all")) | (apply ne_z2; (case q9m => assumption); (case q9h => k_extra "mine all")) | fail)
  k_with "mine nes" => (first | assumption | exact List.forall_mem_nil _ | (refine List.forall_mem_cons.mpr ⟨?_, ?_⟩; (k_extra "mine ne"); (k_extra "mine nes")) | (refine nes_set ?_; k_extra "mine nes") | (refine nes_lt ?_; k_extra "mine all") | fail)
  k_with "mine mem" => (first | (with_reducible assumption) | ktr_member | (with_reducible exact List.mem_cons_self) | (with_reducible apply mset_z; k_mem) | (with_reducible apply mset_ne_z; (case q9n => k_extra "mine ne"); (case q9x => k_mem)) | (with_reducible refine List.mem_cons_of_mem _ ?_; k_mem) | fail)
  k_with "mine upd" => (first | (with_reducible refine Upd.head ?_; k_extra "mine nes") | (with_reducible apply upd_tail; (case q9ne => k_extra "mine ne"); (case q9u => k_upd)) | (apply upd_z; (case q9k => k_extra "mine ok"); (case q9m => k_mem)) | fail)
  k_with "mine updF" => (first | (with_reducible refine UpdF.head ?_; k_extra "mine nes") | (with_reducible apply updF_tail; (case q9ne => k_extra "mine ne"); (case q9u => k_updF)) | (apply updF_z; (case q9k => k_extra "mine ok"); (case q9m => k_mem)) | fail)
  k_with "mine sub" => (first | exact (fun p hp => hp) | exact (fun p hp => List.mem_cons_of_mem _ hp) | exact (fun p hp => List.mem_cons_of_mem _ (List.mem_cons_of_mem _ hp)) | exact (fun p hp => List.mem_cons_of_mem _ (List.mem_cons_of_mem _ (List.mem_cons_of_mem _ hp))) | (refine List.forall_mem_cons.mpr ⟨?_, ?_⟩; k_mem; k_extra "mine sub") | (intro p hp; (repeat (first | exact hp | refine List.mem_cons_of_mem _ ?_))) | fail)
  k_with "mine units" => ((try simp only [units_in1, units_deeper]); (try dsimp only [ktrTop]); omega)
  k_with "mine leave" => (with_reducible apply HQ.use_z; (case q9h => with_reducible assumption))
  trivial
section
variable {prog : Program} {w : World} {p : Program} {loose : List Str} {mean : ExcName → Option Value} {mg mb : Str → Option Value} {dp un : Nat} {gd : Option (List Code)} {cn : Str} {cs : Scope} {a : Addr} {ccd : Value} {cl : List (Str × Addr)} {outer : List Env} {A₀ : Around} {base h₀ : Heap} {L : Addr} {m : Str → Option Value} {news : Led} {s : Shared} {Q E : Value → Shared → Prop}
theorem kindS (B : Below A₀ base outer h₀) (F : Fr h₀ L s.heap m) (X : (K w.params).In h₀) (N : News h₀ L s.heap news) (T : Top p loose mean mg mb h₀) (hk : cs.kind = .function) (hdp : dp + 12 < recursionLimit) {nm x : Str} {tn tx : Tok}
    (ret : ∀ t h' tk', Fr h₀ L h' m → News h₀ L h' news → Q (.str (Str.ofString "") t) { s with heap := h', toks := tk' }) :
    wpAny (model prog w) (ktrTop dp un gd cn cs L a ccd cl outer) (call (.ref 28) [.str nm tn, .str x tx]) Q E s := by
  refine wpAny_call ?_
  refine' code_def (binds := [(Str.ofString "name", .str nm tn), (Str.ofString "x", .str x tx)]) B F X N T rfl rfl hk ?k6 ?k7 ?k8 ?k9 ?kB ?_ ?c2 ?c3 ?c4 ?c5
  (case k6 => k_is)
  (case k7 => k_is)
  (case k8 => ktr_room)
  (case k9 => exact BindsTo.of_eq rfl)
  (case c5 => decide)
  (case kB => exact locs rfl)
  (case c2 => exact rfl)
  (case c3 => exact rfl)
  (case c4 => exact rfl)
  intro g' L' h' FG' F' N' B' X' T'
  refine noE ?_
  refine hideQ fun _ _ => ?_
  k_steps
  exact ret _ _ _ (by assumption) (by assumption)
theorem words_np_1 : True := by
  k_with "call ref" => ((k_here; (with_reducible show wpAny _ _ (call (Value.ref 28) [Value.str _ _, Value.str _ _]) _ _ _); k_dflt (refine kindS (by k_asm) (by k_asm) (by k_asm) (by k_asm) (by k_asm) rfl (by ktr_room) ?_); intro _ _ _ _ _))
  k_with "call ref" => (((with_reducible show wpAny _ _ (call (Value.ref 70) _) _ _ _); refine stop_intro ?_))
  trivial
theorem normpathS (B : Below A₀ base outer h₀) (F : Fr h₀ L s.heap m) (X : (K w.params).In h₀) (N : News h₀ L s.heap news) (T : Top p loose mean mg mb h₀) (hk : cs.kind = .function) (hdp : dp + 20 < recursionLimit) {x : Str} (hx : x.length ≤ 100) {tx : Tok} (h0 : x.length ≠ 0) (h1 : Txt.slice x none (some 1) = Str.ofString "/") (h2 : (Txt.slice x (some 1) (some 2) == Str.ofString "/") = false) (h3 : (Txt.slice x (some 1) none).length ≤ 100)
    (hn : (Txt.split (Txt.slice x (some 1) none) (Str.ofString "/")).length ≤ 10) (ret : ∀ t h' tk', Fr h₀ L h' m → News h₀ L h' news → Q (.str (normP x) t) { s with heap := h', toks := tk' }) :
    wpAny (model prog w) (ktrTop dp un gd cn cs L a ccd cl outer) (call (.ref 77) [.str x tx]) Q E s := by
  refine wpAny_call ?_
  refine' kp_both (vs := [.str x tx]) (front := []) (ex := []) B F X N T rfl rfl hk ?k6 ?k7 ?k8 ?kV ?kX ?kQ ?kM ?kN ?kD ?kR ?kP ?kS ?kT ?kB ?_ ?c2 ?c3 ?c4 ?c5
  (case k6 => k_is)
  (case k7 => k_is)
  (case k8 => ktr_room)
  (case kV => exact rfl)
  (case kX => exact rfl)
  (case kQ => exact rfl)
  (case kM => exact rfl)
  (case kN => exact rfl)
  (case kD => kp_flats)
  (case kR => exact rfl)
  (case kP => exact rfl)
  (case kS => exact fun _ => rfl)
  (case kT => exact fun _ _ => rfl)
  (case kB => exact fun _ _ => locs rfl)
  (case c5 => decide)
  (case c2 => exact rfl)
  (case c3 => exact rfl)
  (case c4 => exact rfl)
  intro C' D' o' g' L' h' tk' l1 l2 lo' hs' fs' FG' F' N' B' X' T'
  k_steps
  refine Stop.of ?_
  refine' normS B' ?kF X' ?kN T' rfl ?kd hx h0 h1 h2 h3 hn ?_
  (case kF => k_asm)
  (case kN => k_asm)
  (case kd => ktr_room)
  intro t5 h5 tk5 F5 N5
  k_steps
  rename (Fr h₀ L _ m) => kF
  rename (News h₀ L _ _) => kN
  exact ret _ _ _ kF (News.sub kN fun p hp => .tail _ (.tail _ hp))

end
end
section
open PySem PySem.W PyProof.Rows PySem.Calls PySem.Spec
/-! set(list) over distinct strs -/
theorem strSet_fresh (prog : Program) (w : World) (led : Bool) : StrSet prog w { cls := .type "set", dict := none, data := .set #[] 0 (.fresh 0 0 led) } [] :=
  ⟨#[], 0, _, ⟨rfl, rfl, rfl⟩, rfl, fun e he => by simp at he, fun k => by simp, rfl, rfl, fun h => absurd rfl h, fun h => absurd rfl h⟩
section
variable {prog : Program} {w : World} {A : Around} {E : Value → Shared → Prop} {s : Shared}
theorem set_new_1 (a : Value) {Q₁ : Value → Shared → Prop} (h : Q₁ (.ref s.heap.objs.size) { s with heap := s.heap.push { cls := .type "set", dict := none, data := .set #[] 0 (.fresh 0 0 (!byText w)) } }) :
    codeAny (model prog w) A (.call (.builtin "set.__new__") ⟨[.type "set", a], []⟩) (wants Q₁ E) s := by
  refine codeAny_of_tree ?_
  show wpAny _ A.in1 (do checkBuiltinCall "set.__new__" ⟨[.type "set", a], []⟩; again (.builtin "set.__new__" ⟨[.type "set", a], []⟩)) _ _ s
  refine wpAny_bind (wpAny_of_eq (F.newCall_set_1 a) (wpAny_pure ⟨plainId_quiet F.plain_set_new _, codeAny_builtin F.entry_set_new ?_⟩))
  rw [Around.under_plainId F.plain_set_new _]
  unfold Builtin.«set.__new__» Builtin.Frozenset.newClass
  have hsub := sub_set_self
  obtain ⟨hp, g, d, tk, os⟩ := s
  dsimp only
  wp_walk
  refine wpAny_askSetting (wpAny_pure ?_)
  dsimp only
  simp only [newObj]
  refine wpAny_bind (wpAny_alloc (wpAny_pure ?_))
  exact wpAny_pure h
theorem set_loop {R : Result → Shared → Prop} {I S : Addr} {fp wr : List Addr} {G : Array GenState → Array GenState → Prop} {P : Nat → Value → Prop} {St : Nat → Shared → Prop} {xs : List Str}
    (W : WalksS prog w A.in1 I fp wr G xs.length P St) (hSf : S ∉ fp) (hval : ∀ i v, P i v → ∃ x t, v = .str x t ∧ xs[i]? = some x) (hnd : xs.Nodup) (hb : xs.length < 1000) :
    ∀ (k i : Nat) (s : Shared), xs.length - i = k → i ≤ xs.length → St i s → (∃ o, s.heap.get? S = some o ∧ StrSet prog w o (xs.take i) ∧ LedOk w o) →
      (∀ s' o, Moved (S :: wr) G s s' → s'.heap.get? S = some o → StrSet prog w o xs → R (.ok (.ret .none)) s') →
      codeAny (model prog w) A (.builtin "set.update.loop" ⟨[.ref S, .ref I], []⟩) R s := by
  have hSw : S ∉ wr := fun h => hSf (W.sub _ h)
  have hsub : ∀ b ∈ wr, b ∈ S :: wr := fun b hb => List.mem_cons_of_mem _ hb
  intro k
  induction k with
  | zero =>
    intro i s hk hi hst hS hR
    have hin : i = xs.length := by omega
    subst hin
    obtain ⟨o, ho, hS, hL⟩ := hS
    rw [List.take_length] at hS
    refine codeAny_builtin F.entry_set_update_loop ?_
    rw [Around.under_plainId F.plain_set_update_loop _]
    show wpAny _ A.in1 (pyNext (.ref I) >>= _) _ _ s
    refine wpAny_bind (W.done s _ _ hst fun s' hm => ?_)
    show wpAny _ A.in1 (ret Value.none) _ _ s'
    exact wpAny_pure (hR s' o (hm.mono hsub) (hm.heap S _ hSw ho) hS)
  | succ k ih =>
    intro i s hk hi hst hS hR
    have hlt : i < xs.length := by omega
    obtain ⟨o, ho, hS, hL⟩ := hS
    refine codeAny_builtin F.entry_set_update_loop ?_
    rw [Around.under_plainId F.plain_set_update_loop _]
    show wpAny _ A.in1 (pyNext (.ref I) >>= _) _ _ s
    refine wpAny_bind (W.item i s _ _ hlt hst fun v s' hP hst' hm => ?_)
    obtain ⟨x, t, rfl, hx⟩ := hval i v hP
    have hxi : xs[i] = x := by rw [List.getElem?_eq_getElem hlt] at hx; exact Option.some.inj hx
    have hnew : x ∉ xs.take i := by
      have h1 := hnd.sublist (List.take_sublist (i + 1) xs)
      rw [List.take_add_one, hx, Option.toList_some, List.nodup_append] at h1
      intro hm
      exact h1.2.2 x hm x (List.mem_singleton.mpr rfl) rfl
    show wpAny _ A.in1 (holding [Value.str x t] (setAdd S (.str x t)) >>= _) _ _ s'
    refine wpAny_bind (wpAny_holding ?_)
    unfold setAdd
    refine wpAny_holding ?_
    refine wpAny_bind ((PySem.strKind prog w).pyHash (k := x) (strKind_is _ _ _ _) ?_)
    refine setAdd_new (s := { s' with toks := s'.toks + 1 }) (hm.heap S _ hSw ho) hS hL hnew (by rw [List.length_take]; omega) fun h' o' hsb ho' hS' hL' => ?_
    have e2 : xs.take i ++ [x] = xs.take (i + 1) := by rw [List.take_add_one, hx]; rfl
    rw [e2] at hS'
    refine wpAny_pure ⟨plainId_quiet F.plain_set_update_loop _, ih (i + 1) _ (by omega) hlt (W.frame _ s' _ _ hst' (Nat.le_succ _) fun b hb o e => ?_) ⟨o', ho', hS', hL'⟩ fun s'' o'' hm'' hS'' => ?_⟩
    · rw [hsb.2 b (fun h : b = S => hSf (by rw [← h]; exact hb))]; exact e
    · refine hR s'' o'' (Moved.trans W.gtrans ((hm.mono hsub).then_heap (Nat.le_succ _) fun b o hb e => ?_) hm'') hS''
      rw [hsb.2 b (fun h : b = S => hb (by rw [h]; exact List.mem_cons_self))]; exact e
theorem set_of_list {l : Addr} {items : Array Value} {xs : List Str} {Q : Value → Shared → Prop}
    (hh : A.handled = none) (hl : s.heap.IsList l items) (hi : Strs items.toList xs) (hnd : xs.Nodup) (hb : xs.length < 1000)
    (h : ∀ (h' : Heap) (tk : Nat) o, h'.get? s.heap.objs.size = some o → StrSet prog w o xs →
      (∀ b o, b < s.heap.objs.size → s.heap.get? b = some o → h'.get? b = some o) → Q (.ref s.heap.objs.size) { s with heap := h', toks := tk }) :
    wpAny (model prog w) A (call (.type "set") [.ref l]) Q E s := by
  obtain ⟨c, tl, hmro⟩ := F.called_set.mro
  have hmade := F.called_set.made
  have hsub := F.called_set.sub
  have hlen : items.size = xs.length := by rw [← Array.length_toList]; exact hi.1
  refine wpAny_call (codeAny_of_tree ?_)
  show wpAny _ _ (callAny (.type "set") _) _ _ _
  refine wpAny_pure ⟨Code.quiet_builtin _ (by decide +kernel), codeAny_builtin F.entry_type_call ?_⟩
  rw [Around.under_plain (weight_type_call_type "set" [.ref l] []) rfl]
  have h1 := F.called_set.notType
  have h2 := F.called_set.canCreate
  have hct := F.typeCall_set_1 (.ref l)
  repeat (any_goals (first | assumption | wp_step))
  refine codeAny_mono (set_new_1 (.ref l) (E := E) (Q₁ := fun obj s₁ => obj = .ref s.heap.objs.size ∧ s₁ = { s with heap := s.heap.push { cls := .type "set", dict := none, data := .set #[] 0 (.fresh 0 0 (!byText w)) } }) ⟨rfl, rfl⟩) fun r s₁ hr => ?_
  cases r with
  | error e => exact hr
  | ok fl =>
    cases fl with
    | ret obj =>
      obtain ⟨rfl, rfl⟩ := hr
      have hS0 := strSet_fresh prog w (!byText w)
      generalize ho : ({ cls := .type "set", dict := none, data := .set #[] 0 (.fresh 0 0 (!byText w)) } : Obj) = so at hS0 ⊢
      have hcl : so.cls = .type "set" := by rw [← ho]
      have hdat : so.data = .set #[] 0 (.fresh 0 0 (!byText w)) := by rw [← ho]
      have hfr : so.isFreed = false := by rw [← ho]; rfl
      have hS : (s.heap.push so).get? s.heap.objs.size = some so := Heap.get?_push_size _ hfr
      have hT : Shared.TypeIs { s with heap := s.heap.push so } (.ref s.heap.objs.size) "set" := ⟨_, hS, hcl⟩
      have hli := F.called_set.init.lookup
      have hbi := F.called_set.init.bind (.ref s.heap.objs.size)
      repeat (any_goals (first | assumption | wp_step))
      refine codeAny_mono (codeAny_call_builtin (R := wants (fun r s₂ => r = .none ∧ ∃ h' tk o, s₂ = { s with heap := h', toks := tk } ∧ h'.get? s.heap.objs.size = some o ∧ StrSet prog w o xs ∧
          (∀ b o, b < s.heap.objs.size → s.heap.get? b = some o → h'.get? b = some o)) E) F.called_set.init.plain F.entry_set_init (check_set_init_1 hT ?_)) fun r₂ s₂ hr₂ => ?_
      · obtain ⟨ol, hol, hcl', nl, hdl⟩ := hl
        have hTl : Shared.TypeIs { s with heap := s.heap.push so } (.ref l) "list" := ⟨_, Heap.get?_push_of_some _ hol, hcl'⟩
        have hl1 : (s.heap.push so).IsList l items := ⟨_, Heap.get?_push_of_some _ hol, hcl', nl, hdl⟩
        obtain ⟨ocls, odict, odata, oslots⟩ := ol
        simp only at hcl' hdl
        subst hcl'; subst hdl
        have hol' : (s.heap.push so).get? l = some { cls := .type "list", dict := odict, data := .seq items nl, slots := oslots } := Heap.get?_push_of_some _ hol
        have hsls := F.sub_list_set
        have hslf := F.sub_list_frozenset
        have hne : (Value.type "list" == Value.type "dict") = false := by decide
        subst ho
        unfold Builtin.«set.__init__» noKeywords Builtin.Frozenset.updateFrom
        generalize hPI : pyIter = PI
        wp_walk
        subst hPI
        refine wpAny_pyIter_list hl1 ?_
        refine wpAny_bind (wpAny_runValue ?_)
        have hlS : l < s.heap.objs.size := Heap.lt_size hol
        have hh3 : A.in1.in1.in1.handled = none := by simp [hh]
        have hsz : (s.heap.push { cls := .type "set", dict := none, data := .set #[] 0 (.fresh 0 0 (!byText w)) }).objs.size = s.heap.objs.size + 1 := Heap.size_push ..
        have hneI : l ≠ (s.heap.push { cls := .type "set", dict := none, data := .set #[] 0 (.fresh 0 0 (!byText w)) }).objs.size := by
          rw [hsz]; exact Nat.ne_of_lt (Nat.lt_succ_of_lt hlS)
        have hSf : s.heap.objs.size ∉ [(s.heap.push { cls := .type "set", dict := none, data := .set #[] 0 (.fresh 0 0 (!byText w)) }).objs.size, l] := by
          rw [hsz]; simp only [List.mem_cons, List.not_mem_nil, or_false, not_or]
          exact ⟨Nat.ne_of_lt (Nat.lt_succ_self _), Nat.ne_of_gt hlS⟩
        have W := (Walks.list (prog := prog) (w := w) hh3 _ l hneI items).toS
        rw [hlen] at W
        refine set_loop W hSf (fun i v hv => ?_) hnd hb (xs.length - 0) 0 _ (by omega) (Nat.zero_le _) ⟨⟨_, Heap.get?_push_size _ rfl, rfl, rfl⟩, (hl1.push _)⟩ ⟨_, Heap.get?_push_of_some _ hS, by simpa using hS0, fun _ _ _ e => by cases e; rfl⟩ ?hR
        · have hi' : i < xs.length := by rw [← hlen]; exact (Array.getElem?_eq_some_iff.mp hv).1
          obtain ⟨t, ht⟩ := hi.2 i xs[i] (by simp [hi'])
          rw [Array.getElem?_toList] at ht
          have hv' : items[i]? = some v := hv
          rw [hv'] at ht
          exact ⟨xs[i], t, Option.some.inj ht, by simp [hi']⟩
        case hR =>
          intro s' o' hm ho' hS'
          obtain ⟨h', g', d', tk', os'⟩ := s'
          have eg : g' = s.gens := hm.gens
          have ed : d' = s.drawn := hm.drawn
          have eo : os' = s.os := hm.os
          subst eg; subst ed; subst eo
          show wpAny _ _ _ _ _ _
          refine wpAny_pure ?_
          show wpAny _ _ (ret Value.none) _ _ _
          refine wpAny_pure ⟨rfl, h', tk', o', rfl, ho', hS', fun b o hb e => ?_⟩
          refine hm.heap b o ?_ (Heap.get?_push_of_some _ (Heap.get?_push_of_some _ e))
          rw [hsz]
          simp only [List.mem_cons, List.not_mem_nil, or_false, not_or]
          exact ⟨Nat.ne_of_lt hb, Nat.ne_of_lt (Nat.lt_succ_of_lt hb)⟩
      · cases r₂ with
        | error e => exact hr₂
        | ok fl₂ =>
          cases fl₂ with
          | ret r =>
            obtain ⟨rfl, h', tk, o, rfl, ho', hS', hk'⟩ := hr₂
            repeat (any_goals (first | assumption | wp_step))
            exact h _ _ _ ho' hS' hk'
          | _ => exact hr₂.elim
    | _ => exact hr.elim
end
end
section
open PySem PySem.W PyProof.Rows PySem.Calls PySem.Spec
theorem words_Told : True := by
  k_with_none
  k_with "mine room" => ((try simp only [depth_under_make, depth_under_kw, depth_in1, depth_deeper, depth_caller]); (try dsimp only [ktrTop]); omega)
  k_with "mine all" => (first | (with_reducible assumption) | (with_reducible exact allLt_of (by assumption)) | (refine And.intro ?_ ?_; (first | assumption | ((try dsimp only at *); omega)); k_extra "mine all") | (exact allLt_up (by assumption) (by omega)) | (refine allLt_set ?_; k_extra "mine all") | fail)
  k_with "mine lt" => (first | assumption | (refine lt_allLt ?_; k_extra "mine all") | fail)
  k_with "mine ok" => (first | assumption | (refine Ok.setAt ?_ _ _; k_extra "mine ok") | (refine Ok.cons ?_ ?_; (k_extra "mine ok"); (k_extra "mine lt")) | fail)
  k_with "mine ne" => ((try dsimp only); first | assumption | (refine Ne.symm ?_; assumption) | (refine neN ?_; omega) | (apply ne_z1; (case q9m => assumption); (case q9h => k_extra "mine all")) | (apply ne_z2; (case q9m => assumption); (case q9h => k_extra "mine all")) | fail)
  k_with "mine nes" => (first | assumption | exact List.forall_mem_nil _ | (refine List.forall_mem_cons.mpr ⟨?_, ?_⟩; (k_extra "mine ne"); (k_extra "mine nes")) | (refine nes_set ?_; k_extra "mine nes") | (refine nes_lt ?_; k_extra "mine all") | fail)
  k_with "mine mem" => (first | (with_reducible assumption) | ktr_member | (with_reducible exact List.mem_cons_self) | (with_reducible apply mset_z; k_mem) | (with_reducible apply mset_ne_z; (case q9n => k_extra "mine ne"); (case q9x => k_mem)) | (with_reducible refine List.mem_cons_of_mem _ ?_; k_mem) | fail)
  k_with "mine upd" => (first | (with_reducible refine Upd.head ?_; k_extra "mine nes") | (with_reducible apply upd_tail; (case q9ne => k_extra "mine ne"); (case q9u => k_upd)) | (apply upd_z; (case q9k => k_extra "mine ok"); (case q9m => k_mem)) | fail)
  k_with "mine updF" => (first | (with_reducible refine UpdF.head ?_; k_extra "mine nes") | (with_reducible apply updF_tail; (case q9ne => k_extra "mine ne"); (case q9u => k_updF)) | (apply updF_z; (case q9k => k_extra "mine ok"); (case q9m => k_mem)) | fail)
  k_with "mine sub" => (first | exact (fun p hp => hp) | exact (fun p hp => List.mem_cons_of_mem _ hp) | exact (fun p hp => List.mem_cons_of_mem _ (List.mem_cons_of_mem _ hp)) | exact (fun p hp => List.mem_cons_of_mem _ (List.mem_cons_of_mem _ (List.mem_cons_of_mem _ hp))) | (refine List.forall_mem_cons.mpr ⟨?_, ?_⟩; k_mem; k_extra "mine sub") | (intro p hp; (repeat (first | exact hp | refine List.mem_cons_of_mem _ ?_))) | fail)
  k_with "mine units" => ((try simp only [units_in1, units_deeper]); (try dsimp only [ktrTop]); omega)
  k_with "mine leave" => (with_reducible apply HQ.use_z; (case q9h => with_reducible assumption))
  k_with "setItem ref str" => ((k_here; (with_reducible show wpAny _ _ (setItem (Value.ref _) (Value.str _ _) _) _ _ _); k_dflt (refine kda_set (knd := PySem.strKind _ _) (by k_asm) (by k_asm) (by k_updF) (by assumption) (strKind_is _ _ _ _) (by first | omega | (rw [sizeLine_eq]; omega)) ?_); intro _ _ _ N'zz; (try dsimp only at N'zz); revert N'zz; intro _ _; (try k_fold)))
  k_with "subscriptTail" => ((k_here; (with_reducible show wpAny _ _ (subscriptTail _ _ (Value.ref _) (Value.str _ _)) _ _ _); k_dflt (refine kda_item (knd := PySem.strKind _ _) (by k_asm) (by k_mem) (by assumption) (strKind_is _ _ _ _) (by assumption) ?_)))
  k_with "execs cons" => (k_here; (with_reducible refine NextQ.cons ?_); (try dsimp only); (try (with_reducible refine anyTk fun _ => ?_)))
  k_with "NextQ" => (with_reducible first | refine NextQ.nx ?_ | refine NextQ.rt ?_ | refine NextQ.bk ?_ | refine NextQ.ct ?_ | fail)
  trivial
section
variable {prog : Program} {w : World} {p : Program} {loose : List Str} {mean : ExcName → Option Value} {mg mb : Str → Option Value} {dp un : Nat} {gd : Option (List Code)} {cn : Str} {cs : Scope} {a : Addr} {ccd : Value} {cl : List (Str × Addr)} {outer : List Env} {A₀ : Around} {base h₀ : Heap} {L : Addr} {m : Str → Option Value} {news : Led} {s : Shared} {Q E : Value → Shared → Prop}
/-- the state of _law_told -/
structure TS (prog : Program) (w : World) (nl : Led) (A : SA) (g : G) (sa fa : Addr) (kvs : List (Str × Value)) (kpl : Led) : Prop where
  S : SAt prog w nl A g .none 0 0
  self : A.self = sa
  fd : ∃ fo, (fa, fo) ∈ nl ∧ fo.IsDictOf (PySem.strKind prog w) kvs
  lo : (fa == sysModules) = false
  ff : ¬ A.foot g fa
  kp : ∀ p ∈ kpl, p ∈ nl ∧ ¬ A.foot g p.1 ∧ p.1 ≠ fa
theorem TS.more {nl nl' : Led} {A : SA} {g : G} {sa fa : Addr} {kvs : List (Str × Value)} {kpl : Led} (H : TS prog w nl A g sa fa kvs kpl) (ok : Ok nl') (hs : ∀ p ∈ nl, p ∈ nl') : TS prog w nl' A g sa fa kvs kpl := by
  obtain ⟨fo, a, b⟩ := H.fd
  exact ⟨H.S.sub ok fun p hp _ => hs p hp, H.self, ⟨fo, hs _ a, b⟩, H.lo, H.ff, fun p hp => ⟨hs p (H.kp p hp).1, (H.kp p hp).2⟩⟩
theorem TS.add {nl nl' : Led} {A A' : SA} {g g' : G} {sa fa : Addr} {kvs : List (Str × Value)} {kpl : Led} (H : TS prog w nl A g sa fa kvs kpl) (S : SAt prog w nl' A' g' .none 0 0) (hs : A'.self = sa)
    (hk : ∀ p ∈ nl, ¬ A.foot g p.1 → p ∈ nl' ∧ ¬ A'.foot g' p.1) : TS prog w nl' A' g' sa fa kvs kpl := by
  obtain ⟨fo, a, b⟩ := H.fd
  refine ⟨S, hs, ⟨fo, (hk _ a H.ff).1, b⟩, H.lo, (hk _ a H.ff).2, fun p hp => ?_⟩
  obtain ⟨h1, h2, h3⟩ := H.kp p hp
  exact ⟨(hk p h1 h2).1, (hk p h1 h2).2, h3⟩
theorem addT (B : Below A₀ base outer h₀) (F : Fr h₀ L s.heap m) (X : (K w.params).In h₀) (N : News h₀ L s.heap news) (T : Top p loose mean mg mb h₀) (hk : cs.kind = .function) (hdp : dp + 16 < recursionLimit) {nl : Led} {A : SA} {g : G} {sa fa : Addr} {kvs : List (Str × Value)} {kpl : Led} {k : Nat} {x : Str} {tx : Tok} {vs : List Value} {ys : List Str} (H : TS prog w nl A g sa fa kvs kpl) (ok : Ok news) (hs : ∀ p ∈ nl, p ∈ news) (hr : Room g k) (hk' : k ≤ 45) (hv : Strs vs ys) (hy : ys.length ≤ 2)
    (ret : ∀ A' news' h' tk', Fr h₀ L h' m → News h₀ L h' news' → TS prog w news' A' (g.add x ys) sa fa kvs kpl → (∀ p ∈ news, ¬ A.foot g p.1 → p ∈ news' ∧ ¬ A'.foot (g.add x ys) p.1) → Q .none { s with heap := h', toks := tk' }) :
    wpAny (model prog w) (ktrTop dp un gd cn cs L a ccd cl outer) (call (.ref 177) (.ref sa :: .str x tx :: vs)) Q E s := by
  have H1 := H.more ok hs
  refine addS B F X N T hk (by omega) H1.S (by have := hr.nodes; omega) (fun x => by have := hr.succ x; omega) hv (by omega) H1.self ?_
  intro A3 news3 h3 tk3 F3 N3 S3 hs3 hk3
  exact ret A3 news3 h3 tk3 F3 N3 (H1.add S3 hs3 hk3) hk3
theorem words_Told_m1 : True := by
  k_with "mine sub" => (intro p hp; (repeat (first | exact hp | refine List.mem_cons_of_mem _ ?_)))
  trivial
theorem TS.drop {nl : Led} {A : SA} {g : G} {sa fa : Addr} {kvs : List (Str × Value)} {kpl : Led} (H : TS prog w nl A g sa fa kvs kpl) {I : Addr} (h1 : ¬ A.foot g I) (h2 : fa ≠ I) (h3 : ∀ p ∈ kpl, p.1 ≠ I) : TS prog w (dropI nl I) A g sa fa kvs kpl := by
  obtain ⟨fo, a, b⟩ := H.fd
  exact ⟨H.S.sub (H.S.ok.dropI I) fun p hp hf => mem_dropI.mpr ⟨hp, fun e => h1 (e ▸ hf)⟩, H.self, ⟨fo, mem_dropI.mpr ⟨a, h2⟩, b⟩, H.lo, H.ff, fun p hp => ⟨mem_dropI.mpr ⟨(H.kp p hp).1, h3 p hp⟩, (H.kp p hp).2⟩⟩
theorem unr_end {I : Addr} {it : Obj} {rest : (Str → Option Value) → List (Addr × Obj) → Prop} {s₁ : Shared} {h' : Heap} {tk : Nat} {m' : Str → Option Value} {all : Led} (F : Fr h₀ L h' m') (N : News h₀ L h' all) (hI : (I, it) ∈ all) (r : rest m' (dropI all I)) :
    UnrEnd h₀ L s₁ I it rest { s₁ with heap := h', toks := tk } :=
  UnrEnd.intro F N (dropI all I) (List.forall_mem_cons.mpr ⟨hI, fun p hp => (mem_dropI.mp hp).1⟩) (fun p hp => (mem_dropI.mp hp).2) r
noncomputable def tdBody : List Stmt := match stAt (fBody (topS 24)) 2 with | .For _ _ b _ _ => b | _ => []
theorem words_told_1 : True := by
  k_with "call ref" => (((with_reducible show wpAny _ _ (call (Value.ref 177) _) _ _ _); refine stop_intro ?_))
  trivial
theorem words_Told_m2 : True := by
  k_with "mine short" => (first | assumption | (simp only [List.mem_cons, List.mem_append, List.not_mem_nil, or_false, forall_eq_or_imp, forall_eq]; omega) | fail)
  trivial
theorem words_Told_m3 : True := by
  k_with "mine strs" => (first | assumption | exact Strs.mk1 _ _ | exact Strs.mk2 _ _ _ _ | exact Strs.mk3 _ _ _ _ _ _ | fail)
  trivial
theorem words_told_2 : True := by
  k_with "call builtin:str.join" => ((k_here; (with_reducible show wpAny _ _ (call (Value.builtin "str.join") [Value.str _ _, Value.ref _]) _ _ _); k_dflt (refine join_lst (by k_asm) (by k_mem) (by k_extra "mine strs") (by k_extra "mine short") (by first | exact Nat.le_of_ble_eq_true rfl | omega) (by omega) ?_); intro _ _ _))
  k_with "binaryOp Add str str" => ((k_here; (with_reducible show wpAny _ _ (binaryOp Operator.Add (Value.str _ _) (Value.str _ _)) _ _ _); k_dflt (refine my_add (by omega) ?_); intro _ _ _))
  k_with "call builtin:str.split" => ((k_here; (with_reducible show wpAny _ _ (call (Value.builtin "str.split") [Value.str _ _, Value.str _ _]) _ _ _); k_dflt (refine split_lst (by k_asm) (by k_asm) (by decide +kernel) (by omega) ?_); refine stop_intro ?_))
  k_with "exec If" => (((with_reducible show wpAny _ _ (exec (Stmt.If _ _ (_ :: _) _) _) _ _ _); refine stop_intro ?_))
  trivial
theorem words_Told_m4 : True := by
  k_with "mine same" => (intro y hy; (try simp only [if_neg hy]); (repeat' split); all_goals (first | rfl | (rename_i e; rw [e]; symm; assumption) | (subst_vars; symm; assumption) | simp_all))
  trivial
theorem toldFor1 (B : Below (ktrTop dp un gd cn cs L a ccd cl outer) base (envX cn cs L a ccd cl :: outer) h₀) {L' : Addr} (F : Fr h₀ L' s.heap m) (X : (K w.params).In h₀) (N : News h₀ L' s.heap news) (T : Top p loose mean mg mb h₀) (hdp : dp + 20 < recursionLimit)
    {sc : Scope} {st : Stmt} {kpl : Led} {A : SA} {g : G} {sa fa : Addr} {kvs : List (Str × Value)} {QF : Flow → Shared → Prop} {ps : List Str} {k : Nat} {pa : Addr} {pvs : List Value} {np : Nat}
    (hst : stAt tdBody 0 = st) (hsc : fScope (topS 24) = sc) (hl : ps.length = 1 ∨ ps.length = 2) (hsh : ∀ x ∈ ps, x.length ≤ 20) (hroom : Room g k) (hk' : k ≤ 30) (H : TS prog w news A g sa fa kvs kpl) (hp : (pa, seqObj "list" pvs np) ∈ kpl) (hpv : Strs pvs ps)
    (hm1 : m (Str.ofString "sorter") = some (.ref sa)) (hm2 : m (Str.ofString "parts") = some (.ref pa))
    (ret : ∀ A' news' h' tk' m', (∀ y, y ≠ Str.ofString "k" → m' y = m y) → Fr h₀ L' h' m' → News h₀ L' h' news' → TS prog w news' A' (addUp dirS g ps) sa fa kvs kpl → QF .next { s with heap := h', toks := tk' }) :
    wpAny (model prog w) ((ktrTop dp un gd cn cs L a ccd cl outer).deeper (envOf (Str.ofString "_law_told") sc L' 255 (.ref 254))) (exec st (envOf (Str.ofString "_law_told") sc L' 255 (.ref 254))) QF
      (fun _ _ => False) s := by
  (conv at hst => lhs; whnf)
  (conv at hsc => lhs; whnf)
  subst hst
  subst hsc
  have l1 : (Str.ofString "/").length = 1 := by decide +kernel
  have hpa := (H.kp _ hp).1
  have mS := H.S.inst
  rw [H.self] at mS
  have ok := H.S.ok
  refine hideG fun zG zK => ?_
  obtain ⟨e1, e2, e3, e4, t1, t2, t3, t4, t5, t6, mD⟩ := H.S.dict
  refine zK ?_
  clear zK zG
  have F2 := know (know F (y := Str.ofString "parts") (v := .ref pa) hm2) (y := Str.ofString "sorter") (v := .ref sa) hm1
  clear F
  rcases hl with hl | hl
  · refine hideG fun zG zK => ?_
    obtain ⟨q1, rfl⟩ := len1 hl
    obtain ⟨u1, rfl⟩ := hpv.one
    refine zK ?_
    clear zK zG
    k_steps
    refine ret A _ _ _ _ ?_ (by k_asm) (by k_asm) ?_
    · k_extra "mine same"
    · exact H.more (by k_extra "mine ok") (by k_extra "mine sub")
  · refine hideG fun zG zK => ?_
    obtain ⟨q1, q2, rfl⟩ := len2 hl
    obtain ⟨u1, u2, rfl⟩ := hpv.two
    refine zK ?_
    clear zK zG
    have hq1 := hsh q1 (.head _)
    have hq2 := hsh q2 (.tail _ (.head _))
    k_steps
    refine Stop.of ?_
    refine' addT B ?Fa ?Xa ?Na ?Ta rfl ?da H ?oa ?sa hroom (by omega) (Strs.mk1 _ _) (by simp) ?_
    (case Fa => k_asm)
    (case Xa => k_asm)
    (case Na => k_asm)
    (case Ta => k_asm)
    (case da => ktr_room)
    (case oa => k_extra "mine ok")
    (case sa => k_extra "mine sub")
    intro A3 news3 h3 tk3 F3 N3 H3 hk3
    k_steps
    refine unr_end F3 N3 (hk3 (_, _) (.tail _ (.tail _ (.head _))) (H.S.not_foot (by k_extra "mine nes"))).1 ?_
    have H4 : ∀ I, (∀ p ∈ news, p.1 ≠ I) → ¬ A3.foot _ I → TS prog w (dropI news3 I) A3 _ sa fa kvs kpl := fun I h1 h2 => H3.drop h2 (by obtain ⟨fo, a, b⟩ := H.fd; exact h1 _ a) (fun p hp => h1 p (H.kp p hp).1)
    k_steps
    refine ret A3 _ _ _ _ ?_ (by k_asm) (by k_asm) (H4 _ (by k_extra "mine nes") (hk3 (_, _) (.tail _ (.tail _ (.head _))) (H.S.not_foot (by k_extra "mine nes"))).2)
    k_extra "mine same"
theorem toldFor2 (B : Below (ktrTop dp un gd cn cs L a ccd cl outer) base (envX cn cs L a ccd cl :: outer) h₀) {L' : Addr} (F : Fr h₀ L' s.heap m) (X : (K w.params).In h₀) (N : News h₀ L' s.heap news) (T : Top p loose mean mg mb h₀) (hdp : dp + 20 < recursionLimit)
    {sc : Scope} {st : Stmt} {kpl : Led} {A : SA} {g : G} {sa fa : Addr} {kvs : List (Str × Value)} {QF : Flow → Shared → Prop} {ps : List Str} {k : Nat} {pa : Addr} {pvs : List Value} {np : Nat}
    (hst : stAt tdBody 2 = st) (hsc : fScope (topS 24) = sc) (hl : ps.length = 1 ∨ ps.length = 2) (hsh : ∀ x ∈ ps, x.length ≤ 20) (hroom : Room g k) (hk' : k ≤ 30) (H : TS prog w news A g sa fa kvs kpl) (hpa : (pa, seqObj "list" pvs np) ∈ news) (hpv : Strs pvs ps)
    (hm1 : m (Str.ofString "sorter") = some (.ref sa)) (hm2 : m (Str.ofString "pieces") = some (.ref pa))
    (ret : ∀ A' news' h' tk' m', (∀ y, y ≠ Str.ofString "k" → m' y = m y) → Fr h₀ L' h' m' → News h₀ L' h' news' → TS prog w news' A' (addUp nameS g ps) sa fa kvs kpl → QF .next { s with heap := h', toks := tk' }) :
    wpAny (model prog w) ((ktrTop dp un gd cn cs L a ccd cl outer).deeper (envOf (Str.ofString "_law_told") sc L' 255 (.ref 254))) (exec st (envOf (Str.ofString "_law_told") sc L' 255 (.ref 254))) QF
      (fun _ _ => False) s := by
  (conv at hst => lhs; whnf)
  (conv at hsc => lhs; whnf)
  subst hst
  subst hsc
  have l1 : (Str.ofString ".").length = 1 := by decide +kernel
  have mS := H.S.inst
  rw [H.self] at mS
  have ok := H.S.ok
  refine hideG fun zG zK => ?_
  obtain ⟨e1, e2, e3, e4, t1, t2, t3, t4, t5, t6, mD⟩ := H.S.dict
  refine zK ?_
  clear zK zG
  have F2 := know (know F (y := Str.ofString "pieces") (v := .ref pa) hm2) (y := Str.ofString "sorter") (v := .ref sa) hm1
  clear F
  rcases hl with hl | hl
  · refine hideG fun zG zK => ?_
    obtain ⟨q1, rfl⟩ := len1 hl
    obtain ⟨u1, rfl⟩ := hpv.one
    refine zK ?_
    clear zK zG
    k_steps
    refine ret A _ _ _ _ ?_ (by k_asm) (by k_asm) ?_
    · k_extra "mine same"
    · exact H.more (by k_extra "mine ok") (by k_extra "mine sub")
  · refine hideG fun zG zK => ?_
    obtain ⟨q1, q2, rfl⟩ := len2 hl
    obtain ⟨u1, u2, rfl⟩ := hpv.two
    refine zK ?_
    clear zK zG
    have hq1 := hsh q1 (.head _)
    have hq2 := hsh q2 (.tail _ (.head _))
    k_steps
    refine Stop.of ?_
    refine' addT B ?Fa ?Xa ?Na ?Ta rfl ?da H ?oa ?sa hroom (by omega) (Strs.mk1 _ _) (by simp) ?_
    (case Fa => k_asm)
    (case Xa => k_asm)
    (case Na => k_asm)
    (case Ta => k_asm)
    (case da => ktr_room)
    (case oa => k_extra "mine ok")
    (case sa => k_extra "mine sub")
    intro A3 news3 h3 tk3 F3 N3 H3 hk3
    k_steps
    refine unr_end F3 N3 (hk3 (_, _) (.tail _ (.tail _ (.head _))) (H.S.not_foot (by k_extra "mine nes"))).1 ?_
    have H4 : ∀ I, (∀ p ∈ news, p.1 ≠ I) → ¬ A3.foot _ I → TS prog w (dropI news3 I) A3 _ sa fa kvs kpl := fun I h1 h2 => H3.drop h2 (by obtain ⟨fo, a, b⟩ := H.fd; exact h1 _ a) (fun p hp => h1 p (H.kp p hp).1)
    k_steps
    refine ret A3 _ _ _ _ ?_ (by k_asm) (by k_asm) (H4 _ (by k_extra "mine nes") (hk3 (_, _) (.tail _ (.tail _ (.head _))) (H.S.not_foot (by k_extra "mine nes"))).2)
    k_extra "mine same"
noncomputable def KV : List (Str × Value) → Firsts → Prop
  | [], [] => True
  | (n, v) :: r, (n', q) :: r' => n = n' ∧ (∃ t, v = Value.str q t) ∧ KV r r'
  | _, _ => False
theorem KV.none {n : Str} : ∀ {kvs : List (Str × Value)} {fs : Firsts}, KV kvs fs → fs.get n = none → valueAt kvs n = none
  | [], [], _, _ => rfl
  | (a, v) :: r, (b, q) :: r', ⟨e, _, h⟩, hn => by
    subst e
    unfold Firsts.get at hn
    unfold valueAt
    rw [List.find?_cons] at hn ⊢
    by_cases q : a = n
    · simp [q] at hn
    · simp only [q, decide_false] at hn ⊢
      exact KV.none h hn
theorem KV.some {n x : Str} : ∀ {kvs : List (Str × Value)} {fs : Firsts}, KV kvs fs → fs.get n = some x → ∃ t, valueAt kvs n = some (.str x t)
  | [], [], _, hn => by cases hn
  | (a, v) :: r, (b, q) :: r', ⟨e, ⟨t, ht⟩, h⟩, hn => by
    subst e
    unfold Firsts.get at hn
    unfold valueAt
    rw [List.find?_cons] at hn ⊢
    by_cases q : a = n
    · simp [q] at hn ⊢
      subst hn
      exact ⟨t, ht⟩
    · simp only [q, decide_false] at hn ⊢
      exact KV.some h hn
theorem KV.push {n x : Str} {t : Tok} : ∀ {kvs : List (Str × Value)} {fs : Firsts}, KV kvs fs → KV (kvs ++ [(n, .str x t)]) (fs ++ [(n, x)])
  | [], [], _ => ⟨rfl, ⟨t, rfl⟩, trivial⟩
  | (a, v) :: r, (b, q) :: r', ⟨e, ht, h⟩ => ⟨e, ht, h.push⟩
theorem stored_new {kvs : List (Str × Value)} {z : Str} (h : valueAt kvs z = none) (v : Value) : stored kvs z v = kvs ++ [(z, v)] := by
  unfold stored
  rw [if_neg]
  intro h'
  unfold valueAt at h
  obtain ⟨p, hp, e⟩ := List.any_eq_true.mp h'
  have : kvs.find? (fun x => decide (x.1 = z)) ≠ none := fun hn => (List.find?_eq_none.mp hn) p hp e
  cases hq : kvs.find? (fun x => decide (x.1 = z)) with
  | none => exact this hq
  | some y => rw [hq] at h; cases h
theorem KV.len : ∀ {kvs : List (Str × Value)} {fs : Firsts}, KV kvs fs → kvs.length = fs.length
  | [], [], _ => rfl
  | (a, v) :: r, (b, q) :: r', ⟨_, _, h⟩ => by rw [List.length_cons, List.length_cons, h.len]
theorem TS.setF {nl : Led} {A : SA} {g : G} {sa fa : Addr} {kvs kvs' : List (Str × Value)} {kpl : Led} (H : TS prog w nl A g sa fa kvs kpl) {o : Obj} (ho : o.IsDictOf (PySem.strKind prog w) kvs') : TS prog w (setAt nl fa o) A g sa fa kvs' kpl := by
  obtain ⟨fo, a, b⟩ := H.fd
  exact ⟨H.S.sub (H.S.ok.setAt _ _) fun p hp hf => mem_set_ne (fun e => H.ff (e ▸ hf)) hp, H.self, ⟨o, mem_set_self a, ho⟩, H.lo, H.ff, fun p hp => ⟨mem_set_ne (H.kp p hp).2.2 (H.kp p hp).1, (H.kp p hp).2⟩⟩
theorem words_told_3 : True := by
  k_with "compareOp" => ((k_here; (with_reducible show wpAny _ _ (compareOp CmpOp.NotIn (Value.str _ _) (Value.ref _)) _ _ _); k_dflt (refine kdg_notin (knd := PySem.strKind _ _) (by k_asm) (by k_mem) (by assumption) (by assumption) (strKind_is _ _ _ _) _ (by assumption) ?_)))
  trivial
theorem words_Told_m5 : True := by
  k_with "binaryOp Add ref ref" => ((k_here; (with_reducible show wpAny _ _ (binaryOp _ (Value.ref _) (Value.ref _)) _ _ _); k_dflt (refine kmk_add_lit (by k_asm) (by k_asm) (by exact News.isList (by k_asm) (by k_mem)) (by exact News.isList (by k_asm) (by k_mem)) rfl ?_ (by (simp only [List.toList_toArray, List.length_cons, List.length_nil]; rw [sizeLine_eq]; omega))); intro _ _ _ N'zz l1zz; (try simp only [List.toList_toArray] at N'zz); (try k_lt l1zz); revert N'zz l1zz; intro _ _))
  trivial
theorem toldRest (B : Below (ktrTop dp un gd cn cs L a ccd cl outer) base (envX cn cs L a ccd cl :: outer) h₀) {L' : Addr} (F : Fr h₀ L' s.heap m) (X : (K w.params).In h₀) (N : News h₀ L' s.heap news) (T : Top p loose mean mg mb h₀) (hdp : dp + 20 < recursionLimit)
    {sc : Scope} {st : List Stmt} {kpl : Led} {A : SA} {g : G} {sa fa : Addr} {kvs : List (Str × Value)} {fs : Firsts} {QF : Flow → Shared → Prop} {f : File} {k : Nat} {pa : Addr} {pvs : List Value} {np : Nat} {tb tn : Tok}
    (hst : tdBody.drop 3 = st) (hsc : fScope (topS 24) = sc) (hok : FileOk f) (hroom : Room g k) (hk' : k ≤ 30) (H : TS prog w news A g sa fa kvs kpl) (hp : (pa, seqObj "list" pvs np) ∈ kpl) (hpv : Strs pvs f.parts) (hkv : KV kvs fs) (hfl : fs.length ≤ 20) (hfq : ∀ n q, fs.get n = some q → q.length ≤ 1500)
    (hm1 : m (Str.ofString "sorter") = some (.ref sa)) (hm2 : m (Str.ofString "parts") = some (.ref pa)) (hm3 : m (Str.ofString "base") = some (.str f.base tb)) (hm4 : m (Str.ofString "name") = some (.str f.name tn)) (hm5 : m (Str.ofString "first") = some (.ref fa))
    (ret : ∀ A' news' h' tk' m' kvs' g' fs', (∀ y, y ≠ Str.ofString "path" → m' y = m y) → Fr h₀ L' h' m' → News h₀ L' h' news' → TS prog w news' A' g' sa fa kvs' kpl → KV kvs' fs' →
      (g', fs') = (match fs.get f.name with
        | none => ((g.add f.path [dirS f.parts]).add f.ask [f.path, f.name], fs ++ [(f.name, f.ask)])
        | some q => if q = f.ask then (g.add f.path [dirS f.parts], fs) else ((g.add f.path [dirS f.parts]).add f.ask [q], fs)) → QF .next { s with heap := h', toks := tk' }) :
    wpAny (model prog w) ((ktrTop dp un gd cn cs L a ccd cl outer).deeper (envOf (Str.ofString "_law_told") sc L' 255 (.ref 254))) (execs st (envOf (Str.ofString "_law_told") sc L' 255 (.ref 254))) QF
      (fun _ _ => False) s := by
  (conv at hst => lhs; whnf)
  (conv at hsc => lhs; whnf)
  subst hst
  subst hsc
  have l1 : (Str.ofString "/").length = 1 := by decide +kernel
  have l2 : (Str.ofString "?").length = 1 := by decide +kernel
  have hpa := (H.kp _ hp).1
  have mS := H.S.inst
  rw [H.self] at mS
  have ok := H.S.ok
  refine hideG fun zG zK => ?_
  obtain ⟨e1, e2, e3, e4, t1, t2, t3, t4, t5, t6, mD⟩ := H.S.dict
  refine zK ?_
  clear zK zG
  have hb1 := hok.base
  have hn1 := hok.name
  have F2 := know (know (know (know (know F (y := Str.ofString "base") (v := .str f.base tb) hm3) (y := Str.ofString "name") (v := .str f.name tn) hm4) (y := Str.ofString "first") (v := .ref fa) hm5) (y := Str.ofString "parts") (v := .ref pa) hm2) (y := Str.ofString "sorter") (v := .ref sa) hm1
  clear F
  have hsh : ∀ x ∈ f.parts, x.length ≤ 100 := fun x hx => Nat.le_trans (hok.short x hx) (by omega)
  have hsh2 : ∀ x ∈ f.parts ++ [f.base], x.length ≤ 100 := fun x hx => by
    rcases List.mem_append.mp hx with h | h
    · exact hsh x h
    · rw [List.mem_singleton.mp h]; omega
  have hln : f.parts.length ≤ 10 := by rcases hok.len with h | h <;> omega
  have hln2 : (f.parts ++ [f.base]).length ≤ 10 := by rw [List.length_append]; rcases hok.len with h | h <;> (simp only [h, List.length_cons, List.length_nil]; omega)
  have hpv2 := hpv.push f.base tb
  have hpl : pvs.length ≤ 10 := by rw [hpv.1]; exact hln
  k_steps
  refine Stop.of ?_
  refine' addT B ?Fa ?Xa ?Na ?Ta rfl ?da H ?oa ?sa hroom (by omega) (Strs.mk1 _ _) (by simp) ?_
  (case Fa => k_asm)
  (case Xa => k_asm)
  (case Na => k_asm)
  (case Ta => k_asm)
  (case da => ktr_room)
  (case oa => k_extra "mine ok")
  (case sa => k_extra "mine sub")
  intro A3 news3 h3 tk3 F3 N3 H3 hk3
  have hroom3 := hroom.add f.path [dirS f.parts] (by simp)
  clear hk3
  have mS3 := H3.S.inst
  rw [H3.self] at mS3
  have ok3 := H3.S.ok
  refine hideG fun zG zK => ?_
  obtain ⟨e1', e2', e3', e4', t1', t2', t3', t4', t5', t6', mD3⟩ := H3.S.dict
  obtain ⟨fo, mf, hfo⟩ := H3.fd
  refine zK ?_
  clear zK zG
  have lo := H3.lo
  have nsf : sa ≠ fa := fun e => H3.ff (by rw [← e, ← H3.self]; exact .inl rfl)
  have ndf : A3.ds ≠ fa := fun e => H3.ff (by rw [← e]; exact .inr (.inl rfl))
  have hkl := hkv.len
  have lpath : (Str.ofString "/" ++ (Str.ofString "/").join (f.parts ++ [f.base])).length ≤ 1300 := by omega
  skip
  cases hget : fs.get f.name with
  | none =>
    rw [hget] at ret
    have hv := hkv.none hget
    have hvs : (valueAt kvs f.name).isSome = false := by rw [hv]; rfl
    k_steps
    refine Stop.of (wpAny_If ?_)
    k_steps
    refine Stop.of ?_
    rename Obj.IsDictOf _ _ (stored _ _ _) => D5
    rw [stored_new hv] at D5
    have H4 := H3.setF D5
    refine' addT B ?Fb ?Xb ?Nb ?Tb rfl ?db H4 ?ob ?sb hroom3 (by omega) (Strs.mk2 _ _ _ _) (by simp) ?_
    (case Fb => k_asm)
    (case Xb => k_asm)
    (case Nb => k_asm)
    (case Tb => k_asm)
    (case db => ktr_room)
    (case ob => k_extra "mine ok")
    (case sb => k_extra "mine sub")
    intro A5 news5 h5 tk5 F5 N5 H5 hk5
    clear hk5
    k_steps
    refine ret A5 news5 _ _ _ _ _ _ ?_ (by k_asm) N5 H5 hkv.push rfl
    k_extra "mine same"
  | some q =>
    rw [hget] at ret
    obtain ⟨tq, hv⟩ := hkv.some hget
    have hvs : (valueAt kvs f.name).isSome = true := by rw [hv]; rfl
    have lq := hfq _ _ hget
    k_steps
    refine Stop.of (wpAny_If ?_)
    k_steps
    · refine Stop.of ?_
      rename ((q != _) = true) => hne0
      have hne : ¬ q = f.ask := bne_iff_ne.mp hne0
      refine' addT B ?Fb ?Xb ?Nb ?Tb rfl ?db H3 ?ob ?sb hroom3 (by omega) (Strs.mk1 _ _) (by simp) ?_
      (case Fb => k_asm)
      (case Xb => k_asm)
      (case Nb => k_asm)
      (case Tb => k_asm)
      (case db => ktr_room)
      (case ob => k_extra "mine ok")
      (case sb => k_extra "mine sub")
      intro A5 news5 h5 tk5 F5 N5 H5 hk5
      clear hk5
      k_steps
      refine ret A5 news5 _ _ _ _ _ _ ?_ (by k_asm) N5 H5 hkv (by show _ = (if q = f.ask then (g.add f.path [dirS f.parts], fs) else ((g.add f.path [dirS f.parts]).add f.ask [q], fs)); rw [if_neg hne]; rfl)
      k_extra "mine same"
    · refine ret A3 news3 _ _ _ _ _ _ ?_ (by k_asm) N3 H3 hkv ?_
      · k_extra "mine same"
      · rename ((q != _) = false) => hne0
        have hq : q = f.ask := Decidable.byContradiction fun h => Bool.false_ne_true (hne0.symm.trans (bne_iff_ne.mpr h))
        show _ = (if q = f.ask then (g.add f.path [dirS f.parts], fs) else ((g.add f.path [dirS f.parts]).add f.ask [q], fs))
        rw [if_pos hq]; rfl

end
end
section
open PySem PySem.W PyProof.Rows PySem.Calls PySem.Spec
theorem words_News : True := by
  k_with_none
  k_with "mine room" => ((try simp only [depth_under_make, depth_under_kw, depth_in1, depth_deeper, depth_caller]); (try dsimp only [ktrTop]); omega)
  k_with "mine all" => (first | (with_reducible assumption) | (with_reducible exact allLt_of (by assumption)) | (refine And.intro ?_ ?_; (first | assumption | ((try dsimp only at *); omega)); k_extra "mine all") | (exact allLt_up (by assumption) (by omega)) | (refine allLt_set ?_; k_extra "mine all") | fail)
  k_with "mine lt" => (first | assumption | (refine lt_allLt ?_; k_extra "mine all") | fail)
  k_with "mine ok" => (first | assumption | (refine Ok.setAt ?_ _ _; k_extra "mine ok") | (refine Ok.cons ?_ ?_; (k_extra "mine ok"); (k_extra "mine lt")) | fail)
  k_with "mine ne" => ((try dsimp only); first | assumption | (refine Ne.symm ?_; assumption) | (refine neN ?_; omega) | (apply ne_z1; (case q9m => assumption); (case q9h => k_extra "mine all")) | (apply ne_z2; (case q9m => assumption); (case q9h => k_extra "mine all")) | fail)
  k_with "mine nes" => (first | assumption | exact List.forall_mem_nil _ | (refine List.forall_mem_cons.mpr ⟨?_, ?_⟩; (k_extra "mine ne"); (k_extra "mine nes")) | (refine nes_set ?_; k_extra "mine nes") | (refine nes_lt ?_; k_extra "mine all") | fail)
  k_with "mine mem" => (first | (with_reducible assumption) | ktr_member | (with_reducible exact List.mem_cons_self) | (with_reducible apply mset_z; k_mem) | (with_reducible apply mset_ne_z; (case q9n => k_extra "mine ne"); (case q9x => k_mem)) | (with_reducible refine List.mem_cons_of_mem _ ?_; k_mem) | fail)
  k_with "mine upd" => (first | (with_reducible refine Upd.head ?_; k_extra "mine nes") | (with_reducible apply upd_tail; (case q9ne => k_extra "mine ne"); (case q9u => k_upd)) | (apply upd_z; (case q9k => k_extra "mine ok"); (case q9m => k_mem)) | fail)
  k_with "mine updF" => (first | (with_reducible refine UpdF.head ?_; k_extra "mine nes") | (with_reducible apply updF_tail; (case q9ne => k_extra "mine ne"); (case q9u => k_updF)) | (apply updF_z; (case q9k => k_extra "mine ok"); (case q9m => k_mem)) | fail)
  k_with "mine sub" => (first | exact (fun p hp => hp) | exact (fun p hp => List.mem_cons_of_mem _ hp) | exact (fun p hp => List.mem_cons_of_mem _ (List.mem_cons_of_mem _ hp)) | exact (fun p hp => List.mem_cons_of_mem _ (List.mem_cons_of_mem _ (List.mem_cons_of_mem _ hp))) | (refine List.forall_mem_cons.mpr ⟨?_, ?_⟩; k_mem; k_extra "mine sub") | (intro p hp; (repeat (first | exact hp | refine List.mem_cons_of_mem _ ?_))) | fail)
  k_with "mine units" => ((try simp only [units_in1, units_deeper]); (try dsimp only [ktrTop]); omega)
  k_with "mine leave" => (with_reducible apply HQ.use_z; (case q9h => with_reducible assumption))
  trivial
section
variable {prog : Program} {w : World} {p : Program} {loose : List Str} {mean : ExcName → Option Value} {mg mb : Str → Option Value} {dp un : Nat} {gd : Option (List Code)} {cn : Str} {cs : Scope} {a : Addr} {ccd : Value} {cl : List (Str × Addr)} {outer : List Env} {A₀ : Around} {base h₀ : Heap} {L : Addr} {m : Str → Option Value} {news : Led} {s : Shared} {Q E : Value → Shared → Prop}
theorem newSorter {L₁ : Addr} {sc : Scope} (B : Below (ktrTop dp un gd cn cs L₁ a ccd cl outer) base (envX cn cs L₁ a ccd cl :: outer) h₀) (F : Fr h₀ L s.heap m) (X : (K w.params).In h₀) (N : News h₀ L s.heap news) (T : Top p loose mean mg mb h₀) (hdp : dp + 20 < recursionLimit) (ok : Ok news) (hsc : fScope (topS 24) = sc)
    (ret : ∀ A news' h' tk', Fr h₀ L h' m → News h₀ L h' news' → SAt prog w news' A G0 .none 0 0 → (∀ p ∈ news, p ∈ news' ∧ ¬ A.foot G0 p.1) → Q (.ref A.self) { s with heap := h', toks := tk' }) :
    wpAny (model prog w) ((ktrTop dp un gd cn cs L₁ a ccd cl outer).deeper (envOf (Str.ofString "_law_told") sc L 255 (.ref 254))) (call (.ref 227) []) Q E s := by
  (conv at hsc => lhs; whnf)
  subst hsc
  have ret' : ∀ x ds d2 o2 e1 e2 e3 e4 t1 t2 t3 t4 t5 t6 h' tk' nl, Fr h₀ L h' m → News h₀ L h' nl → (x, instObj 227 ds) ∈ nl → (ds, dictOf [⟨e1, .str (Str.ofString "_node2info") t1, .ref d2⟩, ⟨e2, .str (Str.ofString "_ready_nodes") t2, .none⟩, ⟨e3, .str (Str.ofString "_npassedout") t3, .int 0 t5⟩, ⟨e4, .str (Str.ofString "_nfinished") t4, .int 0 t6⟩] 4) ∈ nl → (d2, o2) ∈ nl → (∀ p ∈ news, p ∈ nl) → o2.IsDictOf (PySem.strKind prog w) ([] : List (Str × Value)) → (d2 == sysModules) = false →
      (∀ p ∈ news, p.1 ≠ x) → (∀ p ∈ news, p.1 ≠ ds) → (∀ p ∈ news, p.1 ≠ d2) → x ≠ ds → x ≠ d2 → ds ≠ d2 → Q (.ref x) { s with heap := h', toks := tk' } := by
    intro x ds d2 o2 e1 e2 e3 e4 t1 t2 t3 t4 t5 t6 h' tk' nl F' Nn mx mds md2 sub ho lo o1 o2' o3 n1 n2 n3
    have off : ∀ p ∈ news, p.1 ≠ x ∧ p.1 ≠ ds ∧ p.1 ≠ d2 := fun p hp => ⟨o1 p hp, o2' p hp, o3 p hp⟩
    have N' : News h₀ L h' ((x, instObj 227 ds) :: (d2, o2) :: (ds, dictOf [⟨e1, .str (Str.ofString "_node2info") t1, .ref d2⟩, ⟨e2, .str (Str.ofString "_ready_nodes") t2, .none⟩, ⟨e3, .str (Str.ofString "_npassedout") t3, .int 0 t5⟩, ⟨e4, .str (Str.ofString "_nfinished") t4, .int 0 t6⟩] 4) :: news) := by
      intro p hp
      rcases List.mem_cons.mp hp with rfl | hp
      · exact Nn _ mx
      rcases List.mem_cons.mp hp with rfl | hp
      · exact Nn _ md2
      rcases List.mem_cons.mp hp with rfl | hp
      · exact Nn _ mds
      · exact Nn _ (sub p hp)
    refine ret ⟨x, ds, d2, fun _ => 0, fun _ => 0, fun _ => 0⟩ _ h' tk' F' N' ⟨?_, .head _, ⟨e1, e2, e3, e4, t1, t2, t3, t4, t5, t6, .tail _ (.tail _ (.head _))⟩, ⟨o2, .tail _ (.head _), ho⟩, lo, fun y hy => (nomatch hy), n3, fun y hy => (nomatch hy), fun y hy => (nomatch hy)⟩ fun p hp => ⟨.tail _ (.tail _ (.tail _ hp)), ?_⟩
    · refine Ok.cons_ne (Ok.cons_ne (Ok.cons_ne ok fun p hp => (off p hp).2.1) ?_) ?_
      · exact List.forall_mem_cons.mpr ⟨n3, fun p hp => (off p hp).2.2⟩
      · exact List.forall_mem_cons.mpr ⟨Ne.symm n2, List.forall_mem_cons.mpr ⟨Ne.symm n1, fun p hp => (off p hp).1⟩⟩
    · rintro (e | e | e | ⟨y, hy, _⟩)
      · exact (off p hp).1 e
      · exact (off p hp).2.1 e
      · exact (off p hp).2.2 e
      · exact nomatch hy
  clear ret
  k_steps
  refine' ret' _ _ _ _ _ _ _ _ _ _ _ _ _ _ _ _ _ ?F ?N ?mx ?mds ?md2 ?sub ?ho ?lo ?o1 ?o2 ?o3 ?n1 ?n2 ?n3
  (case F => k_asm)
  (case N => k_asm)
  (case mx => k_mem)
  (case mds => k_mem)
  (case ho => assumption)
  (case md2 => k_mem)
  (case sub => (intro p hp; (repeat (first | exact hp | refine List.mem_cons_of_mem _ ?_))))
  (case lo => assumption)
  (case o1 => k_extra "mine nes")
  (case o2 => k_extra "mine nes")
  (case o3 => k_extra "mine nes")
  (case n1 => k_extra "mine ne")
  (case n2 => k_extra "mine ne")
  (case n3 => k_extra "mine ne")

end
end
section
open PySem PySem.W PyProof.Rows PySem.Calls PySem.Spec
theorem words_Told2 : True := by
  k_with_none
  k_with "mine room" => ((try simp only [depth_under_make, depth_under_kw, depth_in1, depth_deeper, depth_caller]); (try dsimp only [ktrTop]); omega)
  k_with "mine all" => (first | (with_reducible assumption) | (with_reducible exact allLt_of (by assumption)) | (refine And.intro ?_ ?_; (first | assumption | ((try dsimp only at *); omega)); k_extra "mine all") | (exact allLt_up (by assumption) (by omega)) | (refine allLt_set ?_; k_extra "mine all") | fail)
  k_with "mine lt" => (first | assumption | (refine lt_allLt ?_; k_extra "mine all") | fail)
  k_with "mine ok" => (first | assumption | (refine Ok.setAt ?_ _ _; k_extra "mine ok") | (refine Ok.cons ?_ ?_; (k_extra "mine ok"); (k_extra "mine lt")) | fail)
  k_with "mine ne" => ((try dsimp only); first | assumption | (refine Ne.symm ?_; assumption) | (refine neN ?_; omega) | (apply ne_z1; (case q9m => assumption); (case q9h => k_extra "mine all")) | (apply ne_z2; (case q9m => assumption); (case q9h => k_extra "mine all")) | fail)
  k_with "mine nes" => (first | assumption | exact List.forall_mem_nil _ | (refine List.forall_mem_cons.mpr ⟨?_, ?_⟩; (k_extra "mine ne"); (k_extra "mine nes")) | (refine nes_set ?_; k_extra "mine nes") | (refine nes_lt ?_; k_extra "mine all") | fail)
  k_with "mine mem" => (first | (with_reducible assumption) | ktr_member | (with_reducible exact List.mem_cons_self) | (with_reducible apply mset_z; k_mem) | (with_reducible apply mset_ne_z; (case q9n => k_extra "mine ne"); (case q9x => k_mem)) | (with_reducible refine List.mem_cons_of_mem _ ?_; k_mem) | fail)
  k_with "mine upd" => (first | (with_reducible refine Upd.head ?_; k_extra "mine nes") | (with_reducible apply upd_tail; (case q9ne => k_extra "mine ne"); (case q9u => k_upd)) | (apply upd_z; (case q9k => k_extra "mine ok"); (case q9m => k_mem)) | fail)
  k_with "mine updF" => (first | (with_reducible refine UpdF.head ?_; k_extra "mine nes") | (with_reducible apply updF_tail; (case q9ne => k_extra "mine ne"); (case q9u => k_updF)) | (apply updF_z; (case q9k => k_extra "mine ok"); (case q9m => k_mem)) | fail)
  k_with "mine sub" => (first | exact (fun p hp => hp) | exact (fun p hp => List.mem_cons_of_mem _ hp) | exact (fun p hp => List.mem_cons_of_mem _ (List.mem_cons_of_mem _ hp)) | exact (fun p hp => List.mem_cons_of_mem _ (List.mem_cons_of_mem _ (List.mem_cons_of_mem _ hp))) | (refine List.forall_mem_cons.mpr ⟨?_, ?_⟩; k_mem; k_extra "mine sub") | (intro p hp; (repeat (first | exact hp | refine List.mem_cons_of_mem _ ?_))) | fail)
  k_with "mine units" => ((try simp only [units_in1, units_deeper]); (try dsimp only [ktrTop]); omega)
  k_with "mine leave" => (with_reducible apply HQ.use_z; (case q9h => with_reducible assumption))
  trivial
section
variable {prog : Program} {w : World} {p : Program} {loose : List Str} {mean : ExcName → Option Value} {mg mb : Str → Option Value} {dp un : Nat} {gd : Option (List Code)} {cn : Str} {cs : Scope} {a : Addr} {ccd : Value} {cl : List (Str × Addr)} {outer : List Env} {A₀ : Around} {base h₀ : Heap} {L : Addr} {m : Str → Option Value} {news : Led} {s : Shared} {Q E : Value → Shared → Prop}
theorem words_told2_1 : True := by
  k_with "exec For Name Call cons nil" => (((with_reducible show wpAny _ _ (exec (Stmt.For _ _ _ _ _) _) _ _ _); refine stop_intro ?_))
  k_with "exec For" => (((with_reducible show wpAny _ _ (exec (Stmt.For _ _ _ _ _) _) _ _ _); refine stop_intro ?_))
  k_with "call builtin:str.split" => ((k_here; (with_reducible show wpAny _ _ (call (Value.builtin "str.split") [Value.str _ _, Value.str _ _]) _ _ _); k_dflt (refine split_lst (by k_asm) (by k_asm) (by decide +kernel) (by omega) ?_); intro _ _ _ _ _ _ _ _ _))
  trivial
theorem toldTurn (B : Below (ktrTop dp un gd cn cs L a ccd cl outer) base (envX cn cs L a ccd cl :: outer) h₀) {L' : Addr} (F : Fr h₀ L' s.heap m) (X : (K w.params).In h₀) (N : News h₀ L' s.heap news) (T : Top p loose mean mg mb h₀) (hdp : dp + 20 < recursionLimit)
    {sc : Scope} {body : List Stmt} {kpl : Led} {A : SA} {g : G} {sa fa : Addr} {kvs : List (Str × Value)} {fs : Firsts} {QF : Flow → Shared → Prop} {f : File} {k : Nat} {pa : Addr} {pvs : List Value} {np : Nat} {tb tn : Tok}
    (hbody : tdBody = body) (hsc : fScope (topS 24) = sc) (hok : FileOk f) (hroom : Room g k) (hk' : k ≤ 26) (H : TS prog w news A g sa fa kvs kpl) (hp : (pa, seqObj "list" pvs np) ∈ kpl) (hpv : Strs pvs f.parts) (hkv : KV kvs fs) (hfl : fs.length ≤ 20) (hfq : ∀ n q, fs.get n = some q → q.length ≤ 1500)
    (hm1 : m (Str.ofString "sorter") = some (.ref sa)) (hm2 : m (Str.ofString "parts") = some (.ref pa)) (hm3 : m (Str.ofString "base") = some (.str f.base tb)) (hm4 : m (Str.ofString "name") = some (.str f.name tn)) (hm5 : m (Str.ofString "first") = some (.ref fa))
    (ret : ∀ A' news' h' tk' m' kvs', (∀ y, y ≠ Str.ofString "path" → y ≠ Str.ofString "k" → y ≠ Str.ofString "pieces" → m' y = m y) → Fr h₀ L' h' m' → News h₀ L' h' news' → TS prog w news' A' (tell (g, fs) f).1 sa fa kvs' kpl → KV kvs' (tell (g, fs) f).2 → QF .next { s with heap := h', toks := tk' }) :
    wpAny (model prog w) ((ktrTop dp un gd cn cs L a ccd cl outer).deeper (envOf (Str.ofString "_law_told") sc L' 255 (.ref 254))) (execs body (envOf (Str.ofString "_law_told") sc L' 255 (.ref 254))) QF
      (fun _ _ => False) s := by
  (conv at hbody => lhs; whnf)
  (conv at hsc => lhs; whnf)
  subst hbody
  subst hsc
  have hn1 := hok.name
  k_steps
  refine Stop.of ?_
  refine toldFor1 B F X N T hdp rfl rfl hok.len hok.short hroom (by omega) H hp hpv hm1 hm2 ?_
  intro A1 news1 h1 tk1 m1 hm' F1 N1 H1
  have q1 := (hm' (Str.ofString "sorter") (by decide +kernel)).trans hm1
  have q2 := (hm' (Str.ofString "parts") (by decide +kernel)).trans hm2
  have q3 := (hm' (Str.ofString "base") (by decide +kernel)).trans hm3
  have q4 := (hm' (Str.ofString "name") (by decide +kernel)).trans hm4
  have q5 := (hm' (Str.ofString "first") (by decide +kernel)).trans hm5
  have F1' := know F1 (y := Str.ofString "name") (v := .str f.name tn) q4
  clear F1 F N
  have ok1 := H1.S.ok
  k_steps
  refine Stop.of ?_
  rename_i D2 vs2 h2 k2 hv2 hl2 l2 h3 F3 N3
  obtain ⟨m3, hm3e⟩ : ∃ m3, m3 = (fun y => if y = Str.ofString "pieces" then some (Value.ref D2) else if y = Str.ofString "name" then some (Value.str f.name tn) else m1 y) := ⟨_, rfl⟩
  rw [← hm3e] at F3
  have hpcs : m3 (Str.ofString "pieces") = some (.ref D2) := by rw [hm3e]; rfl
  have hm2' : ∀ y, y ≠ Str.ofString "pieces" → m3 y = m1 y := by
    intro y hy
    rw [hm3e]
    dsimp only
    rw [if_neg hy]
    split
    · rename_i e; rw [e]; exact q4.symm
    · rfl
  have H2 := H1.more (nl' := (D2, seqObj "list" vs2 0) :: news1) (H1.S.ok.cons l2) (fun p hp => .tail _ hp)
  refine toldFor2 B F3 X N3 T hdp rfl rfl hok.pl (fun x hx => Nat.le_trans (hl2 x hx) hn1) (hroom.up dirS f.parts) (by omega) H2 (.head _) hv2 ((hm2' _ (by decide +kernel)).trans q1) hpcs ?_
  intro A4 news4 h4 tk4 m4 hm4' F4 N4 H4
  have hm5' : ∀ y, y ≠ Str.ofString "k" → y ≠ Str.ofString "pieces" → m4 y = m y := fun y h1 h2 => (hm4' y h1).trans ((hm2' y h2).trans (hm' y h1))
  refine toldRest B F4 X N4 T hdp rfl rfl hok ((hroom.up dirS f.parts).up nameS (pieces f)) (by omega) H4 hp hpv hkv hfl hfq ((hm5' _ (by decide +kernel) (by decide +kernel)).trans hm1) ((hm5' _ (by decide +kernel) (by decide +kernel)).trans hm2) ((hm5' _ (by decide +kernel) (by decide +kernel)).trans hm3) ((hm5' _ (by decide +kernel) (by decide +kernel)).trans hm4) ((hm5' _ (by decide +kernel) (by decide +kernel)).trans hm5) ?_
  intro A6 news6 h6 tk6 m6 kvs6 g6 fs6 hm6 F6 N6 H6 hkv6 e6
  have e7 : (g6, fs6) = tell (g, fs) f := e6.trans (by unfold tell tellG; rfl)
  refine ret A6 news6 h6 tk6 m6 kvs6 (fun y h1 h2 h3 => (hm6 y h1).trans (hm5' y h2 h3)) F6 N6 ?_ ?_
  · rw [← e7]; exact H6
  · rw [← e7]; exact hkv6

end
end
section
open PySem PySem.W PyProof.Rows PySem.Calls PySem.Spec
theorem words_Told3 : True := by
  k_with_none
  k_with "mine room" => ((try simp only [depth_under_make, depth_under_kw, depth_in1, depth_deeper, depth_caller]); (try dsimp only [ktrTop]); omega)
  k_with "mine all" => (first | (with_reducible assumption) | (with_reducible exact allLt_of (by assumption)) | (refine And.intro ?_ ?_; (first | assumption | ((try dsimp only at *); omega)); k_extra "mine all") | (exact allLt_up (by assumption) (by omega)) | (refine allLt_set ?_; k_extra "mine all") | fail)
  k_with "mine lt" => (first | assumption | (refine lt_allLt ?_; k_extra "mine all") | fail)
  k_with "mine ok" => (first | assumption | (refine Ok.setAt ?_ _ _; k_extra "mine ok") | (refine Ok.cons ?_ ?_; (k_extra "mine ok"); (k_extra "mine lt")) | fail)
  k_with "mine ne" => ((try dsimp only); first | assumption | (refine Ne.symm ?_; assumption) | (refine neN ?_; omega) | (apply ne_z1; (case q9m => assumption); (case q9h => k_extra "mine all")) | (apply ne_z2; (case q9m => assumption); (case q9h => k_extra "mine all")) | fail)
  k_with "mine nes" => (first | assumption | exact List.forall_mem_nil _ | (refine List.forall_mem_cons.mpr ⟨?_, ?_⟩; (k_extra "mine ne"); (k_extra "mine nes")) | (refine nes_set ?_; k_extra "mine nes") | (refine nes_lt ?_; k_extra "mine all") | fail)
  k_with "mine mem" => (first | (with_reducible assumption) | ktr_member | (with_reducible exact List.mem_cons_self) | (with_reducible apply mset_z; k_mem) | (with_reducible apply mset_ne_z; (case q9n => k_extra "mine ne"); (case q9x => k_mem)) | (with_reducible refine List.mem_cons_of_mem _ ?_; k_mem) | fail)
  k_with "mine upd" => (first | (with_reducible refine Upd.head ?_; k_extra "mine nes") | (with_reducible apply upd_tail; (case q9ne => k_extra "mine ne"); (case q9u => k_upd)) | (apply upd_z; (case q9k => k_extra "mine ok"); (case q9m => k_mem)) | fail)
  k_with "mine updF" => (first | (with_reducible refine UpdF.head ?_; k_extra "mine nes") | (with_reducible apply updF_tail; (case q9ne => k_extra "mine ne"); (case q9u => k_updF)) | (apply updF_z; (case q9k => k_extra "mine ok"); (case q9m => k_mem)) | fail)
  k_with "mine sub" => (first | exact (fun p hp => hp) | exact (fun p hp => List.mem_cons_of_mem _ hp) | exact (fun p hp => List.mem_cons_of_mem _ (List.mem_cons_of_mem _ hp)) | exact (fun p hp => List.mem_cons_of_mem _ (List.mem_cons_of_mem _ (List.mem_cons_of_mem _ hp))) | (refine List.forall_mem_cons.mpr ⟨?_, ?_⟩; k_mem; k_extra "mine sub") | (intro p hp; (repeat (first | exact hp | refine List.mem_cons_of_mem _ ?_))) | fail)
  k_with "mine units" => ((try simp only [units_in1, units_deeper]); (try dsimp only [ktrTop]); omega)
  k_with "mine leave" => (with_reducible apply HQ.use_z; (case q9h => with_reducible assumption))
  trivial
section
variable {prog : Program} {w : World} {p : Program} {loose : List Str} {mean : ExcName → Option Value} {mg mb : Str → Option Value} {dp un : Nat} {gd : Option (List Code)} {cn : Str} {cs : Scope} {a : Addr} {ccd : Value} {cl : List (Str × Addr)} {outer : List Env} {A₀ : Around} {base h₀ : Heap} {L : Addr} {m : Str → Option Value} {news : Led} {s : Shared} {Q E : Value → Shared → Prop}
theorem ask_len {f : File} (h : FileOk f) : f.ask.length ≤ 1500 := by
  have l1 : (Str.ofString "/").length = 1 := by decide +kernel
  have l2 : (Str.ofString "?").length = 1 := by decide +kernel
  have hx : ∀ x ∈ f.parts ++ [f.base], x.length ≤ 20 := fun x hx => by
    rcases List.mem_append.mp hx with q | q
    · exact h.short x q
    · rw [List.mem_singleton.mp q]; exact h.base
  have hs := sum_le hx
  have hl : (f.parts ++ [f.base]).length ≤ 3 := by rw [List.length_append]; rcases h.len with q | q <;> (simp only [q, List.length_cons, List.length_nil]; omega)
  have hj := StrLaws.join_length_le (Str.ofString "/") (f.parts ++ [f.base])
  have h1 : (f.parts ++ [f.base]).length * 20 ≤ 3 * 20 := Nat.mul_le_mul_right _ hl
  have h2 : (f.parts ++ [f.base]).length * (Str.ofString "/").length ≤ 3 * 1 := by rw [l1]; exact Nat.mul_le_mul_right _ hl
  show ((Str.ofString "/" ++ Str.join (Str.ofString "/") (f.parts ++ [f.base])) ++ Str.ofString "?").length ≤ 1500
  rw [Str.length_append, Str.length_append, l1, l2]
  omega
theorem firsts_of : ∀ (fs : List File) (st : G × Firsts), ∀ p ∈ (fs.foldl tell st).2, p ∈ st.2 ∨ ∃ f ∈ fs, p = (f.name, f.ask)
  | [], _, p, hp => .inl hp
  | f :: fs, st, p, hp => by
    rw [List.foldl_cons] at hp
    rcases firsts_of fs _ p hp with h | ⟨f', hf', e⟩
    · unfold tell at h
      split at h
      · rcases List.mem_append.mp h with h | h
        · exact .inl h
        · exact .inr ⟨f, .head _, List.mem_singleton.mp h⟩
      · split at h <;> exact .inl h
    · exact .inr ⟨f', .tail _ hf', e⟩
theorem firsts_len : ∀ (fs : List File) (st : G × Firsts), (fs.foldl tell st).2.length ≤ st.2.length + fs.length
  | [], _ => Nat.le_refl _
  | f :: fs, st => by
    rw [List.foldl_cons]
    refine Nat.le_trans (firsts_len fs _) ?_
    have : (tell st f).2.length ≤ st.2.length + 1 := by
      unfold tell
      split
      · simp
      · split <;> exact Nat.le_succ _
    rw [List.length_cons]; omega
theorem get_mem {fs : Firsts} {n q : Str} (h : fs.get n = some q) : (n, q) ∈ fs := by
  unfold Firsts.get at h
  refine hideG fun zG zK => ?_
  obtain ⟨p, hp, e⟩ := Option.map_eq_some_iff.mp h
  have h1 := List.find?_some hp
  have h2 := List.mem_of_find?_eq_some hp
  rw [decide_eq_true_eq] at h1
  obtain ⟨p1, p2⟩ := p
  refine zK ?_
  clear zK zG
  cases h1; cases e
  exact h2
theorem TS.kpl {nl : Led} {A : SA} {g : G} {sa fa : Addr} {kvs : List (Str × Value)} {kpl kpl' : Led} (H : TS prog w nl A g sa fa kvs kpl) (hs : ∀ p ∈ kpl', p ∈ kpl) : TS prog w nl A g sa fa kvs kpl' :=
  ⟨H.S, H.self, H.fd, H.lo, H.ff, fun p hp => H.kp p (hs p hp)⟩
theorem TS.iter {nl : Led} {A : SA} {g : G} {sa fa : Addr} {kvs : List (Str × Value)} {kpl : Led} (H : TS prog w nl A g sa fa kvs kpl) {I : Addr} {io : Obj} (h : ∀ p ∈ nl, p.1 ≠ I) : TS prog w ((I, io) :: nl) A g sa fa kvs ((I, io) :: kpl) := by
  obtain ⟨fo, mf, hfo⟩ := H.fd
  refine ⟨H.S.cons h, H.self, ⟨fo, .tail _ mf, hfo⟩, H.lo, H.ff, fun p hp => ?_⟩
  rcases List.mem_cons.mp hp with rfl | hp
  · exact ⟨.head _, H.S.not_foot h, Ne.symm (h _ mf)⟩
  · exact ⟨.tail _ (H.kp p hp).1, (H.kp p hp).2⟩
theorem words_told3_1 : True := by
  k_with "exec For" => (((with_reducible show wpAny _ _ (exec (Stmt.For _ _ _ _ _) _) _ _ _); refine stop_intro ?_))
  k_with "call ref" => (((with_reducible show wpAny _ _ (call (Value.ref 227) _) _ _ _); refine stop_intro ?_))
  k_with "call ref" => (((with_reducible show wpAny _ _ (call (Value.ref 177) _) _ _ _); refine stop_intro ?_))
  k_with "call builtin:str.join" => ((k_here; (with_reducible show wpAny _ _ (call (Value.builtin "str.join") [Value.str _ _, Value.ref _]) _ _ _); k_dflt (refine join_lst (by k_asm) (by k_mem) (by assumption) (by assumption) (by omega) (by omega) ?_); intro _ _ _))
  k_with "binaryOp Add str str" => ((k_here; (with_reducible show wpAny _ _ (binaryOp Operator.Add (Value.str _ _) (Value.str _ _)) _ _ _); k_dflt (refine my_add (by omega) ?_); intro _ _ _))
  trivial
theorem toldS (B : Below A₀ base outer h₀) (F : Fr h₀ L s.heap m) (X : (K w.params).In h₀) (N : News h₀ L s.heap news) (T : Top p loose mean mg mb h₀) (hk : cs.kind = .function) (hdp : dp + 25 < recursionLimit) {fl pl ml : Addr} {fvs pvs mvs : List Value} {n1 n2 n3 : Nat} {fs : List File} {ps : List (List Str)} {ms : List Str}
    (hfl : (fl, seqObj "list" fvs n1) ∈ news) (hpl : (pl, seqObj "list" pvs n2) ∈ news) (hml : (ml, seqObj "list" mvs n3) ∈ news) (hfs : AllAt (FileAt news) fvs fs) (hps : AllAt (PartsAt news) pvs ps) (hms : Strs mvs ms) (ok : Ok news)
    (hfo : ∀ f ∈ fs, FileOk f) (hf6 : fs.length ≤ 6) (hp2 : ps.length ≤ 2) (hm2 : ms.length ≤ 2) (hpsh : ∀ q ∈ ps, q.length ≤ 5 ∧ ∀ x ∈ q, x.length ≤ 20) (hmsh : ∀ x ∈ ms, x.length ≤ 20)
    (ret : ∀ A news' h' tk', Fr h₀ L h' m → News h₀ L h' news' → SAt prog w news' A (toldG fs ps ms) .none 0 0 → (∀ p ∈ news, p ∈ news' ∧ ¬ A.foot (toldG fs ps ms) p.1) → Q (.ref A.self) { s with heap := h', toks := tk' }) :
    wpAny (model prog w) (ktrTop dp un gd cn cs L a ccd cl outer) (call (.ref 255) [.ref fl, .ref pl, .ref ml]) Q E s := by
  refine wpAny_call ?_
  refine' code_def (binds := [(Str.ofString "files", .ref fl), (Str.ofString "places", .ref pl), (Str.ofString "mods", .ref ml)]) B F X N T rfl rfl hk ?k6 ?k7 ?k8 ?k9 ?kB ?_ ?c2 ?c3 ?c4 ?c5
  (case k6 => k_is)
  (case k7 => k_is)
  (case k8 => ktr_room)
  (case k9 => exact BindsTo.of_eq rfl)
  (case c5 => decide)
  (case kB => exact locs rfl)
  (case c2 => exact rfl)
  (case c3 => exact rfl)
  (case c4 => exact rfl)
  intro g' L' h' FG' F' N' B' X' T'
  refine noE ?_
  refine hideQ fun _ _ => ?_
  k_steps
  refine Stop.of ?_
  refine' newSorter B' ?Fs ?Xs ?Ns ?Ts (by omega) ok rfl ?_
  (case Fs => k_asm)
  (case Xs => k_asm)
  (case Ns => k_asm)
  (case Ts => k_asm)
  intro A1 news1 h1 tk1 F1 N1 S1 hk1
  clear F' N'
  have ok1 := S1.ok
  k_steps
  refine Stop.of ?_
  rename_i h2 fa h3 fo l3 lo3 hs3 fs3 hi3 fi3 h4 F4 N4
  have T0 : TS prog w ((fa, fo) :: news1) A1 G0 A1.self fa [] news := ⟨S1.cons (fun p hp => Nat.ne_of_lt (l3 p hp)), rfl, ⟨fo, .head _, hs3⟩, lo3, S1.not_foot (fun p hp => Nat.ne_of_lt (l3 p hp)), fun p hp => ⟨.tail _ (hk1 p hp).1, (hk1 p hp).2, Nat.ne_of_lt (l3 p (hk1 p hp).1)⟩⟩
  refine For_invT g' ?_ (by intro _; rfl)
  refine' ld ?q1 ?q2 ?_
  (case q1 => k_asm)
  (case q2 => exact rfl)
  refine' iter_listT (fun i m₁ nl => Ex2 fun A kvs => All6 (TS prog w nl A ((fs.take i).foldl tell (G0, [])).1 A1.self fa kvs news) (KV kvs ((fs.take i).foldl tell (G0, [])).2) (m₁ (Str.ofString "sorter") = some (.ref A1.self)) (m₁ (Str.ofString "first") = some (.ref fa)) (m₁ (Str.ofString "places") = some (.ref pl)) (m₁ (Str.ofString "mods") = some (.ref ml))) rfl F4 N4 ?M ?j0 ?turn ?done
  (case M => exact .tail _ (hk1 _ hfl).1)
  (case j0 => exact ⟨A1, [], T0, trivial, rfl, rfl, rfl, rfl⟩)
  (case turn =>
    clear F4 N4
    intro i v m₁ nl s₁ I io hv hJ hl hnI F₁ N₁
    refine hideG fun zG zK => ?_
    obtain ⟨A2, kvs, H, hkv, q1, q2, q3, q4⟩ := hJ
    obtain ⟨f, hf, t0, pv, tb, tn, nt, rfl, mt, pa, pvs, np, rfl, mpa, hpv⟩ := hfs.at hv
    have hfm : f ∈ fs := List.mem_of_getElem? hf
    have HI := H.iter (io := io) hnI
    have mt' : (t0, seqObj "tuple" [Value.ref pa, Value.str f.base tb, Value.str f.name tn] nt) ∈ (I, io) :: nl := .tail _ (H.kp _ mt).1
    obtain ⟨hh, gg, dd, tt, oo⟩ := s₁
    refine zK ?_
    clear zK zG
    refine wpAny_mono (Q := fun _ s₂ => Stop (∃ h' tk', s₂ = (⟨h', gg, dd, tk', oo⟩ : Shared) ∧ Fr g' L' h' (fun y => if y = Str.ofString "name" then some (.str f.name tn) else if y = Str.ofString "base" then some (.str f.base tb) else if y = Str.ofString "parts" then some (.ref pa) else m₁ y) ∧ News g' L' h' ((I, io) :: nl))) ?as ?bd (fun _ _ e => e)
    case as =>
      k_steps
      exact ⟨_, _, rfl, by k_asm, by k_asm⟩
    case bd =>
      intro _ s₂ zr1
      refine hideG fun zG zK => ?_
      obtain ⟨h5, tk5, rfl, F5, N5⟩ := zr1
      obtain ⟨m5, e5⟩ : ∃ m5, m5 = (fun y => if y = Str.ofString "name" then some (Value.str f.name tn) else if y = Str.ofString "base" then some (Value.str f.base tb) else if y = Str.ofString "parts" then some (Value.ref pa) else m₁ y) := ⟨_, rfl⟩
      rw [← e5] at F5
      have p1 : m5 (Str.ofString "sorter") = some (.ref A1.self) := by rw [e5]; exact q1
      have p2 : m5 (Str.ofString "parts") = some (.ref pa) := by rw [e5]; rfl
      have p3 : m5 (Str.ofString "base") = some (.str f.base tb) := by rw [e5]; rfl
      have p4 : m5 (Str.ofString "name") = some (.str f.name tn) := by rw [e5]; rfl
      have p5 : m5 (Str.ofString "first") = some (.ref fa) := by rw [e5]; exact q2
      have p6 : m5 (Str.ofString "places") = some (.ref pl) := by rw [e5]; exact q3
      have p7 : m5 (Str.ofString "mods") = some (.ref ml) := by rw [e5]; exact q4
      have hi : i < fs.length := (List.getElem?_eq_some_iff.mp hf).1
      have htk : (fs.take i).length ≤ 5 := by rw [List.length_take]; omega
      have hroom : Room ((fs.take i).foldl tell (G0, [])).1 (0 + 4 * (fs.take i).length) := Room.tells (st := (G0, [])) ⟨Nat.le_refl _, fun z => Nat.le_refl _⟩ _
      have hfold : (fs.take (i + 1)).foldl tell (G0, []) = tell ((fs.take i).foldl tell (G0, [])) f := by
        rw [List.take_add_one, hf, Option.toList_some, List.foldl_append]; rfl
      have hfl2 := firsts_len (fs.take i) (G0, [])
      have hfq : ∀ n q, ((fs.take i).foldl tell (G0, [])).2.get n = some q → q.length ≤ 1500 := fun n q hq => by
        rcases firsts_of (fs.take i) (G0, []) _ (get_mem hq) with h | ⟨f', hf', e⟩
        · cases h
        · cases e; exact ask_len (hfo f' (List.mem_of_mem_take hf'))
      obtain ⟨stp, hstp⟩ : ∃ stp, stp = (fs.take i).foldl tell (G0, []) := ⟨_, rfl⟩
      rw [← hstp] at HI hkv hroom hfold hfl2 hfq
      obtain ⟨gq, fq⟩ := stp
      refine zK ?_
      clear zK zG
      refine toldTurn (f := f) B' F5 X' N5 T' (by omega) rfl rfl (hfo f hfm) hroom (by omega) HI (.tail _ mpa) hpv hkv (by show fq.length ≤ 20; have : ([] : Firsts).length = 0 := rfl; dsimp only at hfl2; omega) hfq p1 p2 p3 p4 p5 ?_
      intro A6 news6 h6 tk6 m6 kvs6 hm6 F6 N6 H6 hkv6
      refine turn_nextU F6 N6 (H6.kp _ (.head _)).1 (H6.kp _ (.tail _ hfl)).1 (hnI _ hl) ⟨A6, kvs6, ?_, by rw [hfold]; exact hkv6, (hm6 _ (by decide +kernel) (by decide +kernel) (by decide +kernel)).trans p1, (hm6 _ (by decide +kernel) (by decide +kernel) (by decide +kernel)).trans p5, (hm6 _ (by decide +kernel) (by decide +kernel) (by decide +kernel)).trans p6, (hm6 _ (by decide +kernel) (by decide +kernel) (by decide +kernel)).trans p7⟩
      rw [hfold]
      have hI6 := H6.kp _ (.head _)
      refine (H6.kpl (kpl' := news) fun p hp => .tail _ hp).drop hI6.2.1 (Ne.symm hI6.2.2) fun p hp => hnI p (H.kp p hp).1)
  (case done =>
    clear F4 N4
    intro m₁ nl h tk hJ hl F₁ N₁
    refine hideG fun zG zK => ?_
    obtain ⟨A2, kvs, H, hkv, q1, q2, q3, q4⟩ := hJ
    rw [hfs.1, List.take_length] at H hkv
    have hroom0 : Room (fs.foldl tell (G0, [])).1 (0 + 4 * fs.length) := Room.tells (st := (G0, [])) ⟨Nat.le_refl _, fun z => Nat.le_refl _⟩ _
    have hroom : Room (fs.foldl tell (G0, [])).1 24 := hroom0.mono (by omega)
    obtain ⟨gF, hgF⟩ : ∃ gF, gF = (fs.foldl tell (G0, [])).1 := ⟨_, rfl⟩
    refine zK ?_
    clear zK zG
    have htold : toldG fs ps ms = ms.foldl (fun g x => g.add x [x]) (ps.foldl (fun g p => g.add (dirS p) [dirS p]) gF) := by rw [hgF]; rfl
    rw [← hgF] at H hroom
    have l1 : (Str.ofString "/").length = 1 := by decide +kernel
    have F2 := know (know (know F₁ (y := Str.ofString "mods") (v := .ref ml) q4) (y := Str.ofString "places") (v := .ref pl) q3) (y := Str.ofString "sorter") (v := .ref A1.self) q1
    clear F₁ hkv hgF hroom0
    refine hideQ fun _ _ => ?_
    k_steps
    refine Stop.of ?_
    refine For_invV g' rfl rfl ?_
    refine' ld ?r1 ?r2 ?_
    (case r1 => k_asm)
    (case r2 => exact rfl)
    refine' iter_list (fun i m₁ nl => Ex1 fun A => All4 (TS prog w nl A ((ps.take i).foldl (fun g p => g.add (dirS p) [dirS p]) gF) A1.self fa kvs news) (Room ((ps.take i).foldl (fun g p => g.add (dirS p) [dirS p]) gF) (24 + i)) (m₁ (Str.ofString "sorter") = some (.ref A1.self)) (m₁ (Str.ofString "mods") = some (.ref ml))) rfl F2 N₁ ?M2 ?j2 ?turn2 ?done2
    (case M2 => exact (H.kp _ hpl).1)
    (case j2 => exact ⟨A2, H, hroom, rfl, rfl⟩)
    (case turn2 =>
      clear F2 N₁
      intro i v m₃ nl3 h3 tk3 I io hv hJ hl3 hnI F₃ N₃
      refine hideG fun zG zK => ?_
      obtain ⟨A3, H3, hroom3, w1, w2⟩ := hJ
      obtain ⟨q, hq, pa, pvs', np, rfl, mpa, hpv⟩ := hps.at hv
      have hqm := List.mem_of_getElem? hq
      obtain ⟨hql, hqs⟩ := hpsh q hqm
      refine zK ?_
      clear zK zG
      have hqs' : ∀ x ∈ q, x.length ≤ 100 := fun x hx => Nat.le_trans (hqs x hx) (by omega)
      have hi : i < ps.length := (List.getElem?_eq_some_iff.mp hq).1
      have HI := H3.iter (io := io) hnI
      have hfold : (ps.take (i + 1)).foldl (fun g p => g.add (dirS p) [dirS p]) gF = ((ps.take i).foldl (fun g p => g.add (dirS p) [dirS p]) gF).add (dirS q) [dirS q] := by
        rw [List.take_add_one, hq, Option.toList_some, List.foldl_append]; rfl
      rw [hfold]
      generalize (ps.take i).foldl (fun g p => g.add (dirS p) [dirS p]) gF = g3 at H3 HI hroom3 ⊢
      have mpa' : (pa, seqObj "list" pvs' np) ∈ (I, io) :: nl3 := .tail _ (H3.kp _ mpa).1
      have mS := HI.S.inst
      rw [HI.self] at mS
      refine hideG fun zG zK => ?_
      obtain ⟨e1, e2, e3, e4, t1, t2, t3, t4, t5, t6, mD⟩ := HI.S.dict
      refine zK ?_
      clear zK zG
      have okI := HI.S.ok
      have F4 := know F₃ (y := Str.ofString "sorter") (v := .ref A1.self) w1
      clear F₃
      generalize hnl' : (I, io) :: nl3 = nl4 at *
      refine hideQ fun _ _ => ?_
      k_steps
      refine Stop.of ?_
      refine' addT B' ?Fa ?Xa ?Na ?Ta rfl ?da HI ?oa ?sa hroom3 (by omega) (Strs.mk1 _ _) (by simp) ?_
      (case Fa => k_asm)
      (case Xa => k_asm)
      (case Na => k_asm)
      (case Ta => k_asm)
      (case da => ktr_room)
      (case oa => exact okI)
      (case sa => exact fun p hp => hp)
      intro A6 news6 h6 tk6 F6 N6 H6 hk6
      k_steps
      have hI6 := H6.kp _ (.head _)
      refine turn_next F6 N6 hI6.1 (H6.kp _ (.tail _ hpl)).1 (hnI _ hl3) ⟨A6, (H6.kpl (kpl' := news) fun p hp => .tail _ hp).drop hI6.2.1 (Ne.symm hI6.2.2) fun p hp => hnI p (H3.kp p hp).1, hroom3.add _ _ (by simp), rfl, w2⟩)
    (case done2 =>
      clear F2 N₁
      intro m₃ nl3 h3 tk3 hJ hl3 F₃ N₃
      refine hideG fun zG zK => ?_
      obtain ⟨A3, H3, hroom3, w1, w2⟩ := hJ
      refine zK ?_
      clear zK zG
      rw [hps.1, List.take_length] at H3 hroom3
      have hroom4 := hroom3.mono (k' := 26) (by omega)
      generalize ps.foldl (fun g p => g.add (dirS p) [dirS p]) gF = gP at H3 hroom4 htold
      have F4 := know (know F₃ (y := Str.ofString "mods") (v := .ref ml) w2) (y := Str.ofString "sorter") (v := .ref A1.self) w1
      clear F₃ hroom3
      k_steps
      refine Stop.of ?_
      refine For_invV g' rfl rfl ?_
      refine' ld ?u1 ?u2 ?_
      (case u1 => k_asm)
      (case u2 => exact rfl)
      refine' iter_list (fun i m₁ nl => Ex1 fun A => All3 (TS prog w nl A ((ms.take i).foldl (fun g x => g.add x [x]) gP) A1.self fa kvs news) (Room ((ms.take i).foldl (fun g x => g.add x [x]) gP) (26 + i)) (m₁ (Str.ofString "sorter") = some (.ref A1.self))) rfl F4 N₃ ?M3 ?j3 ?turn3 ?done3
      (case M3 => exact (H3.kp _ hml).1)
      (case j3 => exact ⟨A3, H3, hroom4, rfl⟩)
      (case turn3 =>
        clear F4 N₃
        intro i v m₅ nl5 h5 tk5 I io hv hJ hl5 hnI F₅ N₅
        refine hideG fun zG zK => ?_
        obtain ⟨A5, H5, hroom5, w3⟩ := hJ
        have hi : i < ms.length := by rw [← hms.1]; exact (List.getElem?_eq_some_iff.mp hv).1
        obtain ⟨x, hx⟩ : ∃ x, ms[i]? = some x := ⟨ms[i], by simp [hi]⟩
        obtain ⟨tx, hvx⟩ := hms.2 i x hx
        rw [hv] at hvx
        obtain rfl := Option.some.inj hvx
        refine zK ?_
        clear zK zG
        have HI := H5.iter (io := io) hnI
        have hfold : (ms.take (i + 1)).foldl (fun g x => g.add x [x]) gP = ((ms.take i).foldl (fun g x => g.add x [x]) gP).add x [x] := by
          rw [List.take_add_one, hx, Option.toList_some, List.foldl_append]; rfl
        rw [hfold]
        generalize (ms.take i).foldl (fun g x => g.add x [x]) gP = g5 at H5 HI hroom5 ⊢
        have mS := HI.S.inst
        rw [HI.self] at mS
        refine hideG fun zG zK => ?_
        obtain ⟨e1, e2, e3, e4, t1, t2, t3, t4, t5, t6, mD⟩ := HI.S.dict
        refine zK ?_
        clear zK zG
        have okI := HI.S.ok
        have F6 := know F₅ (y := Str.ofString "sorter") (v := .ref A1.self) w3
        clear F₅
        generalize hnl' : (I, io) :: nl5 = nl6 at *
        refine hideQ fun _ _ => ?_
        k_steps
        refine Stop.of ?_
        refine' addT B' ?Fb ?Xb ?Nb ?Tb rfl ?db HI ?ob ?sb hroom5 (by omega) (Strs.mk1 _ _) (by simp) ?_
        (case Fb => k_asm)
        (case Xb => k_asm)
        (case Nb => k_asm)
        (case Tb => k_asm)
        (case db => ktr_room)
        (case ob => exact okI)
        (case sb => exact fun p hp => hp)
        intro A7 news7 h7 tk7 F7 N7 H7 hk7
        k_steps
        have hI7 := H7.kp _ (.head _)
        refine turn_next F7 N7 hI7.1 (H7.kp _ (.tail _ hml)).1 (hnI _ hl5) ⟨A7, (H7.kpl (kpl' := news) fun p hp => .tail _ hp).drop hI7.2.1 (Ne.symm hI7.2.2) fun p hp => hnI p (H5.kp p hp).1, hroom5.add _ _ (by simp), rfl⟩)
      (case done3 =>
        clear F4 N₃
        intro m₅ nl5 h5 tk5 hJ hl5 F₅ N₅
        refine hideG fun zG zK => ?_
        obtain ⟨A5, H5, hroom5, w3⟩ := hJ
        refine zK ?_
        clear zK zG
        rw [hms.1, List.take_length, ← htold] at H5
        have F6 := know F₅ (y := Str.ofString "sorter") (v := .ref A1.self) w3
        clear F₅
        have hself := H5.self
        k_steps
        rw [← hself]
        exact ret A5 nl5 _ _ (by assumption) (by assumption) H5.S fun p hp => ⟨(H5.kp p hp).1, (H5.kp p hp).2.1⟩)))

end
end
section
open PySem PySem.W PyProof.Rows PySem.Calls PySem.Spec
theorem words_Pr : True := by
  k_with_none
  k_with "mine room" => ((try simp only [depth_under_make, depth_under_kw, depth_in1, depth_deeper, depth_caller]); (try dsimp only [ktrTop]); omega)
  k_with "mine all" => (first | (with_reducible assumption) | (with_reducible exact allLt_of (by assumption)) | (refine And.intro ?_ ?_; (first | assumption | ((try dsimp only at *); omega)); k_extra "mine all") | (exact allLt_up (by assumption) (by omega)) | (refine allLt_set ?_; k_extra "mine all") | fail)
  k_with "mine lt" => (first | assumption | (refine lt_allLt ?_; k_extra "mine all") | fail)
  k_with "mine ok" => (first | assumption | (refine Ok.setAt ?_ _ _; k_extra "mine ok") | (refine Ok.cons ?_ ?_; (k_extra "mine ok"); (k_extra "mine lt")) | fail)
  k_with "mine ne" => ((try dsimp only); first | assumption | (refine Ne.symm ?_; assumption) | (refine neN ?_; omega) | (apply ne_z1; (case q9m => assumption); (case q9h => k_extra "mine all")) | (apply ne_z2; (case q9m => assumption); (case q9h => k_extra "mine all")) | fail)
  k_with "mine nes" => (first | assumption | exact List.forall_mem_nil _ | (refine List.forall_mem_cons.mpr ⟨?_, ?_⟩; (k_extra "mine ne"); (k_extra "mine nes")) | (refine nes_set ?_; k_extra "mine nes") | (refine nes_lt ?_; k_extra "mine all") | fail)
  k_with "mine mem" => (first | (with_reducible assumption) | ktr_member | (with_reducible exact List.mem_cons_self) | (with_reducible apply mset_z; k_mem) | (with_reducible apply mset_ne_z; (case q9n => k_extra "mine ne"); (case q9x => k_mem)) | (with_reducible refine List.mem_cons_of_mem _ ?_; k_mem) | fail)
  k_with "mine upd" => (first | (with_reducible refine Upd.head ?_; k_extra "mine nes") | (with_reducible apply upd_tail; (case q9ne => k_extra "mine ne"); (case q9u => k_upd)) | (apply upd_z; (case q9k => k_extra "mine ok"); (case q9m => k_mem)) | fail)
  k_with "mine updF" => (first | (with_reducible refine UpdF.head ?_; k_extra "mine nes") | (with_reducible apply updF_tail; (case q9ne => k_extra "mine ne"); (case q9u => k_updF)) | (apply updF_z; (case q9k => k_extra "mine ok"); (case q9m => k_mem)) | fail)
  k_with "mine sub" => (first | exact (fun p hp => hp) | exact (fun p hp => List.mem_cons_of_mem _ hp) | exact (fun p hp => List.mem_cons_of_mem _ (List.mem_cons_of_mem _ hp)) | exact (fun p hp => List.mem_cons_of_mem _ (List.mem_cons_of_mem _ (List.mem_cons_of_mem _ hp))) | (refine List.forall_mem_cons.mpr ⟨?_, ?_⟩; k_mem; k_extra "mine sub") | (intro p hp; (repeat (first | exact hp | refine List.mem_cons_of_mem _ ?_))) | fail)
  k_with "mine units" => ((try simp only [units_in1, units_deeper]); (try dsimp only [ktrTop]); omega)
  k_with "mine leave" => (with_reducible apply HQ.use_z; (case q9h => with_reducible assumption))
  k_with "getMethod ref" => ((k_here; (with_reducible show wpAny _ _ (getMethod (Value.ref _) (Str.ofString "get") _) _ _ _); k_dflt (refine kdg_method (knd := PySem.strKind _ _) (by k_asm) (by k_mem) (by assumption) ?_)))
  trivial
section
variable {prog : Program} {w : World} {p : Program} {loose : List Str} {mean : ExcName → Option Value} {mg mb : Str → Option Value} {dp un : Nat} {gd : Option (List Code)} {cn : Str} {cs : Scope} {a : Addr} {ccd : Value} {cl : List (Str × Addr)} {outer : List Env} {A₀ : Around} {base h₀ : Heap} {L : Addr} {m : Str → Option Value} {news : Led} {s : Shared} {Q E : Value → Shared → Prop}
open LCg LCt
theorem words_pr_1 : True := by
  k_with "truthy ref" => ((k_here; (with_reducible show wpAny _ _ (truthy (Value.ref _)) _ _ _); k_dflt (refine truthy_lst (by k_asm) (by k_mem) (by first | omega | (simp only [List.length_append, List.length_cons, List.length_nil]; omega)) ?_)))
  k_with "eval ListComp" => (((with_reducible show wpAny _ _ (eval (Expr.ListComp _ _ _ _) _) _ _ _); refine stop_intro ?_))
  k_with "call ref" => (((with_reducible show wpAny _ _ (call (Value.ref 217) _) _ _ _); refine stop_intro ?_))
  k_with "getMethod ref" => ((k_here; (with_reducible show wpAny _ _ (getMethod (Value.ref _) (Str.ofString "values") _) _ _ _); k_dflt (refine kdl_method (knd := PySem.strKind _ _) PySem.F.slot_dict_values PySem.F.type_dict_values (by k_asm) (by k_mem) (by assumption) ?_)))
  k_with "call builtin:dict.values" => ((k_here; (with_reducible show wpAny _ _ (call (Value.builtin "dict.values") [Value.ref _]) _ _ _); k_dflt (refine kdl_view_values (knd := PySem.strKind _ _) (by k_asm) (by k_asm) (by k_mem) (by assumption) (by assumption) ?_); intro _ _ _ _ l1zz; (try k_lt l1zz); revert l1zz; intro _))
  k_with "CompEnd" => (((with_reducible show CompEnd _ _ _ _ _ _ _ _ _ _ _ _ _ _); refine stop_intro ?_))
  k_with "SrcVT" => (((with_reducible show SrcVT _ _ _ _ _ _ _ _ _ _ _ _ _ _ _); refine stop_intro ?_))
  trivial
theorem turn_frame {g' g4 : Heap} (B : Below A₀ base outer h₀) (F : Fr h₀ L g' m) (T : KtsTurn ((envOf cn cs L a ccd :: outer).filterMap (·.frame)) g' g4) (D : KtsDicts (outer.filterMap (·.frame)) h₀) :
    ∃ h₀', KtsTurn (outer.filterMap (·.frame)) h₀ h₀' ∧ Fr h₀' L g4 m ∧ Below A₀ base outer h₀' ∧ KtsDicts (outer.filterMap (·.frame)) h₀' := by
  have nL₀ : h₀.get? L = none := kts_self F
  refine hideG fun zG zK => ?_
  obtain ⟨oL, es, ep, hL, hLd, hLk, hLf⟩ := F.ns
  obtain ⟨sl, hs⟩ := T.up hL
  obtain ⟨T₁, S₁⟩ := kts_turn_at (h := g4) (fs := outer.filterMap (·.frame)) (g := h₀)
    (fun b hb => by
      obtain ⟨_, o, ho', _⟩ := B.frames.mem hb
      exact ⟨o, ho'⟩)
    (fun b o e nmem => T.other b o (F.keep b o e) (fun q => by
      rcases kts_mem q with z | z
      · rw [z, nL₀] at e
        cases e
      · exact nmem z))
    (fun b o e hm => T.up (F.keep b o e))
  refine zK ?_
  clear zK zG
  refine ⟨_, T₁, ⟨⟨_, es, ep, hs, hLd, hLk, hLf⟩, S₁, by rw [T₁.size]; exact F.above⟩, ⟨B.stack, fun b o e => T₁.other b o (B.stays b o e) (fun hm => by
    rw [(B.frames.mem hm).1] at e
    cases e), B.frames.of_keeps fun b o e _ => ?_⟩, D.turn T₁⟩
  obtain ⟨sl', hs'⟩ := T₁.up e
  exact ⟨_, hs', rfl⟩
theorem Strs.filt {vs : List Value} {xs : List Str} {f : Str → Bool} {i : Nat} {x : Str} (h : Strs vs ((xs.take i).filter f)) (hx : xs[i]? = some x) (hf : f x = false) : Strs vs ((xs.take (i + 1)).filter f) := by
  rw [List.take_add_one, hx, Option.toList_some, List.filter_append]
  simpa [hf] using h
theorem Strs.filt1 {vs : List Value} {xs : List Str} {f : Str → Bool} {i : Nat} {x : Str} {t : Tok} (h : Strs vs ((xs.take i).filter f)) (hx : xs[i]? = some x) (hf : f x = true) : Strs (vs ++ [.str x t]) ((xs.take (i + 1)).filter f) := by
  rw [List.take_add_one, hx, Option.toList_some, List.filter_append]
  have := h.push x t
  simpa [hf] using this
theorem prepareS (B : Below A₀ base outer h₀) (F : Fr h₀ L s.heap m) (X : (K w.params).In h₀) (N : News h₀ L s.heap news) (T : Top p loose mean mg mb h₀) (hk : cs.kind = .function) (hdp : dp + 20 < recursionLimit) (XB : (K w.params).In base) (TB : Top p loose mean mg mb base) (D : KtsDicts (outer.filterMap (·.frame)) h₀)
    {A : SA} {g : G} {pv fv : Int} (S : SAt prog w news A g .none pv fv) {self : Addr} (hs : A.self = self) (hnod : g.nodes.Nodup) (hnl : g.nodes.length ≤ 1000) (hcl : ∀ x ∈ g.nodes, ∀ z ∈ g.succ x, z ∈ g.nodes) (hfree : Free p loose (Str.ofString "StopIteration")) (hself : ∃ x ∈ g.nodes, x ∈ g.succ x)
    (exc : ∀ h₀' G' e t vs news' h' tk' rl, KtsTurn (outer.filterMap (·.frame)) h₀ h₀' → Fr h₀' L G' m → Below A₀ base outer h₀' → KtsDicts (outer.filterMap (·.frame)) h₀' → RaisedS base G' (envOf cn cs L a ccd :: outer) e (.ref 145) t vs news' h' → G'.UpToSlots h' →
      RAt prog w news' A g (g.nodes.filter fun x => decide (g.np x = 0)) rl pv fv → (∀ p ∈ news, ¬ A.foot g p.1 → p ∈ news' ∧ p.1 ≠ rl) → E (.ref e) { s with heap := h', toks := tk' }) :
    wpAny (model prog w) (ktrTop dp un gd cn cs L a ccd [] outer) (call (.ref 182) [.ref self]) Q E s := by
  subst hs
  refine hideG fun zG zK => ?_
  obtain ⟨e1, e2, e3, e4, t1, t2, t3, t4, t5, t6, m2⟩ := S.dict
  have m1 := S.inst
  have ok := S.ok
  obtain ⟨o2, m3, hd2⟩ := S.d2
  refine zK ?_
  clear zK zG
  have lo2 := S.lo2
  refine wpAny_call ?_
  refine' code_defS (g₀ := h₀) (binds := [(Str.ofString "self", .ref A.self)]) B F X N T XB TB D KtsTurn.refl rfl ?k6 ?k7 ?k8 ?k9 ?kB ?_ hk ?c2 ?c3 ?c4 ?c5
  (case k6 => k_is)
  (case k7 => k_is)
  (case k8 => ktr_room)
  (case k9 => exact BindsTo.of_eq rfl)
  (case c5 => decide)
  (case kB => exact locs rfl)
  (case c2 => exact rfl)
  (case c3 => exact rfl)
  (case c4 => exact rfl)
  intro g' L' h' FG' F' N' B' X' T' D'
  k_steps
  refine Stop.of ?_
  refine ListComp_VT (by k_asm) (by rfl) (by decide) (by rfl) (by decide) (by rfl) ?_
  k_steps
  refine Stop.of ?_
  rename_i v' hV' FV NV lV'
  refine ⟨v', A.d2, o2, g.nodes.map fun x => (x, Value.ref (A.ia x)), _, rfl, rfl, FV, NV, .head _, .tail _ m3, hd2, (by rw [List.length_map, sizeLine_eq]; omega), fun g2 => ?_⟩
  refine comp_invT (fun i ys nl => nl = (v', { cls := .type "dict_values", data := .fields #[.ref A.d2] }) :: news ∧ Strs ys ((g.nodes.take i).filter fun x => decide (g.np x = 0))) ?turn ?fin _ 0 [] _ (Nat.zero_add _) ⟨rfl, Strs.nil⟩ (.tail _ m3)
  case turn =>
    intro i ys nl v I oI C oC D m₂ h tk E' hi zr1 zr2 hS hC hx F₂ N₂ off n1 n2 n3
    refine hideG fun zG zK => ?_
    obtain ⟨k, hk⟩ := zr1
    obtain ⟨rfl, hys⟩ := zr2
    have hy : g.nodes[i]? = some k ∧ v = Value.ref (A.ia k) := by
      rw [List.getElem?_map] at hk
      cases q : g.nodes[i]? with
      | none => rw [q] at hk; cases hk
      | some z => rw [q] at hk; cases hk; exact ⟨rfl, rfl⟩
    obtain ⟨hy, rfl⟩ := hy
    have hkn : k ∈ g.nodes := List.mem_of_getElem? hy
    obtain ⟨tx, tn, mi⟩ := (S.node k hkn).info
    refine zK ?_
    clear zK zG
    have md := (S.node k hkn).dict
    k_steps
    · rename (g.np k = 0) => h0
      exact ⟨_, _, _, rfl, F₂, N₂, Off3.of off, hS, rfl, hys.filt1 hy (decide_eq_true h0)⟩
    · rename (¬ g.np k = 0) => h0
      exact ⟨_, _, _, rfl, F₂, N₂, Off3.of off, hS, rfl, hys.filt hy (decide_eq_false h0)⟩
  case fin =>
    rintro ys nl ⟨rfl, hys⟩ Dl h tk F₂ N₂ off
    rw [List.length_map, List.take_length] at hys
    have offm := off1_mem off
    have okD : Ok ((Dl, lst ys) :: (v', { cls := .type "dict_values", data := .fields #[.ref A.d2] }) :: news) := (ok.cons lV').cons_ne offm
    have neD : A.ds ≠ Dl := offm _ (.tail _ m2)
    clear FV NV F' N'
    generalize hnl2 : (Dl, lst ys) :: (v', { cls := .type "dict_values", data := .fields #[.ref A.d2] }) :: news = nl2 at *
    have sub2 : ∀ p ∈ news, p ∈ nl2 := fun p hp => by rw [← hnl2]; exact .tail _ (.tail _ hp)
    have S2 : SAt prog w nl2 A g .none pv fv := S.sub okD fun p hp _ => sub2 p hp
    have m1' := sub2 _ m1
    have m2' := sub2 _ m2
    have nsd := S.self_ne_ds
    k_steps
    rename_i h3 F3 N3
    have nD : (Dl, lst ys) ∈ nl2 := by rw [← hnl2]; exact .head _
    have S3 := S2.setDs (rv' := .ref Dl) (pv' := pv) (fv' := fv) (e1 := e1) (e2 := e2) (e3 := e3) (e4 := e4) (t1 := t1) (t2 := t2) (t3 := t3) (t4 := t4) (t5 := t5) (t6 := t6)
    have nD3 : (Dl, lst ys) ∈ setAt nl2 A.ds (dictOf [⟨e1, .str (Str.ofString "_node2info") t1, .ref A.d2⟩, ⟨e2, .str (Str.ofString "_ready_nodes") t2, .ref Dl⟩, ⟨e3, .str (Str.ofString "_npassedout") t3, .int pv t5⟩, ⟨e4, .str (Str.ofString "_nfinished") t4, .int fv t6⟩] 4) := mem_set_ne neD.symm nD
    have hfD : ¬ A.foot g Dl := S.not_foot fun p hp => offm p (.tail _ hp)
    have sub3 : ∀ p ∈ news, ¬ A.foot g p.1 → p ∈ setAt nl2 A.ds (dictOf [⟨e1, .str (Str.ofString "_node2info") t1, .ref A.d2⟩, ⟨e2, .str (Str.ofString "_ready_nodes") t2, .ref Dl⟩, ⟨e3, .str (Str.ofString "_npassedout") t3, .int pv t5⟩, ⟨e4, .str (Str.ofString "_nfinished") t4, .int fv t6⟩] 4) := fun p hp hf => mem_set_ne (fun e => hf (.inr (.inl e))) (sub2 p hp)
    refine Stop.of ?_
    generalize setAt nl2 A.ds _ = nl3 at *
    refine' findCycle ?k1 ?k2 ?k3 ?k4 ?k5 rfl ?kd XB TB D' S3 rfl hnod hnl hcl hfree hself ?_
    (case k1 => exact B')
    (case k2 => exact F3)
    (case k3 => exact X')
    (case k4 => exact N3)
    (case k5 => exact T')
    (case kd => ktr_room)
    intro g4 D4 vs4 news4 h4 tk4 T4 F4 N4 B4 X4 P4 KD4 ok4 sub4 lt4 mD4 ps4 le4
    have S4 : SAt prog w news4 A g (.ref Dl) pv fv := S3.sub ok4 fun p hp _ => sub4 p hp
    clear F3 N3
    have hb4 : (!vs4.isEmpty) = true := by cases vs4 with | nil => simp at ps4 | cons _ _ => rfl
    k_steps
    rename_i tk5 h5 e5 hm5 h6 t6' S6 R6 U6
    refine hideG fun zG zK => ?_
    obtain ⟨h₀', a1, a2, a3, a4⟩ := turn_frame B FG' T4 D
    refine zK ?_
    clear zK zG
    refine exc h₀' g4 e5 t6' _ news4 _ _ Dl a1 a2 a3 a4 S6 U6 ⟨S4, ⟨ys, ys.length, sub4 _ nD3, hys⟩, hfD⟩ fun p hp hf => ⟨sub4 p (sub3 p hp hf), offm p (.tail _ hp)⟩

end
end
section
open PySem PySem.W PyProof.Rows PySem.Calls PySem.Spec
theorem words_Giv : True := by
  k_with_none
  k_with "mine room" => ((try simp only [depth_under_make, depth_under_kw, depth_in1, depth_deeper, depth_caller]); (try dsimp only [ktrTop]); omega)
  k_with "mine all" => (first | (with_reducible assumption) | (with_reducible exact allLt_of (by assumption)) | (refine And.intro ?_ ?_; (first | assumption | ((try dsimp only at *); omega)); k_extra "mine all") | (exact allLt_up (by assumption) (by omega)) | (refine allLt_set ?_; k_extra "mine all") | fail)
  k_with "mine lt" => (first | assumption | (refine lt_allLt ?_; k_extra "mine all") | fail)
  k_with "mine ok" => (first | assumption | (refine Ok.setAt ?_ _ _; k_extra "mine ok") | (refine Ok.cons ?_ ?_; (k_extra "mine ok"); (k_extra "mine lt")) | fail)
  k_with "mine ne" => ((try dsimp only); first | assumption | (refine Ne.symm ?_; assumption) | (refine neN ?_; omega) | (apply ne_z1; (case q9m => assumption); (case q9h => k_extra "mine all")) | (apply ne_z2; (case q9m => assumption); (case q9h => k_extra "mine all")) | fail)
  k_with "mine nes" => (first | assumption | exact List.forall_mem_nil _ | (refine List.forall_mem_cons.mpr ⟨?_, ?_⟩; (k_extra "mine ne"); (k_extra "mine nes")) | (refine nes_set ?_; k_extra "mine nes") | (refine nes_lt ?_; k_extra "mine all") | fail)
  k_with "mine mem" => (first | (with_reducible assumption) | ktr_member | (with_reducible exact List.mem_cons_self) | (with_reducible apply mset_z; k_mem) | (with_reducible apply mset_ne_z; (case q9n => k_extra "mine ne"); (case q9x => k_mem)) | (with_reducible refine List.mem_cons_of_mem _ ?_; k_mem) | fail)
  k_with "mine upd" => (first | (with_reducible refine Upd.head ?_; k_extra "mine nes") | (with_reducible apply upd_tail; (case q9ne => k_extra "mine ne"); (case q9u => k_upd)) | (apply upd_z; (case q9k => k_extra "mine ok"); (case q9m => k_mem)) | fail)
  k_with "mine updF" => (first | (with_reducible refine UpdF.head ?_; k_extra "mine nes") | (with_reducible apply updF_tail; (case q9ne => k_extra "mine ne"); (case q9u => k_updF)) | (apply updF_z; (case q9k => k_extra "mine ok"); (case q9m => k_mem)) | fail)
  k_with "mine sub" => (first | exact (fun p hp => hp) | exact (fun p hp => List.mem_cons_of_mem _ hp) | exact (fun p hp => List.mem_cons_of_mem _ (List.mem_cons_of_mem _ hp)) | exact (fun p hp => List.mem_cons_of_mem _ (List.mem_cons_of_mem _ (List.mem_cons_of_mem _ hp))) | (refine List.forall_mem_cons.mpr ⟨?_, ?_⟩; k_mem; k_extra "mine sub") | (intro p hp; (repeat (first | exact hp | refine List.mem_cons_of_mem _ ?_))) | fail)
  k_with "mine units" => ((try simp only [units_in1, units_deeper]); (try dsimp only [ktrTop]); omega)
  k_with "mine leave" => (with_reducible apply HQ.use_z; (case q9h => with_reducible assumption))
  trivial
section
variable {prog : Program} {w : World} {p : Program} {loose : List Str} {mean : ExcName → Option Value} {mg mb : Str → Option Value} {dp un : Nat} {gd : Option (List Code)} {cn : Str} {cs : Scope} {a : Addr} {ccd : Value} {cl : List (Str × Addr)} {outer : List Env} {A₀ : Around} {base h₀ : Heap} {L : Addr} {m : Str → Option Value} {news : Led} {s : Shared} {Q E : Value → Shared → Prop}
theorem words_giv_1 : True := by
  k_with "exec Try" => (((with_reducible show wpAny _ _ (exec (Stmt.Try _ _ _ _ _) _) _ _ _); refine stop_intro ?_))
  k_with "exec While" => (((with_reducible show wpAny _ _ (exec (Stmt.While _ _ _ _) _) _ _ _); refine stop_intro ?_))
  k_with "call ref" => (((with_reducible show wpAny _ _ (call (Value.ref _) _) _ _ _); refine stop_intro ?_))
  trivial
theorem MethodCallS {A : Around} {env : Env} {o : Expr} {name : Str} {apos pos sp : Pos} {e : Expr} {Q E : Value → Shared → Prop}
    (h : wpAny (model prog w) A (eval o env) (fun ov s₁ => wpAny (model prog w) A (getAttr ov name true) (fun f s₂ => wpAny (model prog w) A (callWith pos f [] (backTo pos (starEach [.Starred e sp] env)) []) Q E s₂) E s₁) E s)
    (he : eval (.Call (.Attribute o name apos) [.Starred e sp] [] pos) env = (do
      let ov ← eval o env
      standAt apos.atName
      let fx ← holding [ov] (do pure (← getAttr ov name true, ([] : List Value)))
      callWith pos fx.1 fx.2 (backTo pos (starEach [.Starred e sp] env)) []) := by rfl) :
    wpAny (model prog w) A (eval (.Call (.Attribute o name apos) [.Starred e sp] [] pos) env) Q E s := by
  rw [he]
  exact wpAny_bind (wpAny_mono h (fun ov s₁ h₁ => wpAny_bind (wpAny_standAt (wpAny_bind (wpAny_holding (wpAny_bind (wpAny_mono h₁ (fun f s₂ h₂ => wpAny_pure h₂) fun _ _ x => x)))))) fun _ _ x => x)
theorem callWith_MS {A : Around} {env : Env} {pos sp : Pos} {q f : Addr} {self : Value} {e : Expr} {Q E : Value → Shared → Prop} (hf : fnIn (K w.params) f = true)
    (h : wpAny (model prog w) A (eval e env) (fun v s₁ => StarOf (model prog w) A E v (fun vs s₂ => MethP (K w.params) q f self s₂.heap ∧ wpAny (model prog w) A (call (.ref q) ([] ++ vs)) Q E s₂) s₁) E s)
    (he : starEach [.Starred e sp] env = [(true, eval e env)] := by rfl) :
    wpAny (model prog w) A (callWith pos (.ref q) [] (backTo pos (starEach [.Starred e sp] env)) []) Q E s := by
  rw [he]
  exact ks_call rfl (keeps_M hf) (ks_lone h)
theorem Strs.app {us vs : List Value} {xs ys : List Str} (h : Strs us xs) (h' : Strs vs ys) : Strs (us ++ vs) (xs ++ ys) := by
  refine ⟨by rw [List.length_append, List.length_append, h.1, h'.1], fun i x hx => ?_⟩
  by_cases hi : i < xs.length
  · rw [List.getElem?_append_left hi] at hx
    rw [List.getElem?_append_left (by rw [h.1]; exact hi)]
    exact h.2 i x hx
  · rw [List.getElem?_append_right (Nat.le_of_not_lt hi)] at hx
    rw [List.getElem?_append_right (by rw [h.1]; exact Nat.le_of_not_lt hi), h.1]
    exact h'.2 _ x hx
theorem Kahn.noloop {g g' : G} {R D : List Str} (k : Kahn g g' R D) : ∀ x ∈ R, x ∉ g.succ x := fun x hx hm => by
  have h0 := (k.ready x (k.rsub x hx) (k.rd x hx)).mp hx
  have h1 := k.np x (k.rsub x hx) (k.rd x hx)
  have h2 := mem_pend (mem_live.mpr ⟨k.rsub x hx, k.rd x hx⟩) hm
  omega
theorem givenS (B : Below A₀ base [] h₀) (F : Fr h₀ L s.heap m) (X : (K w.params).In h₀) (N : News h₀ L s.heap news) (T : Top p loose mean mg mb h₀) (hk : cs.kind = .function) (hdp : dp + 30 < recursionLimit) (XB : (K w.params).In base) (TB : Top p loose mean mg mb base)
    {A : SA} {g : G} (S : SAt prog w news A g .none 0 0) {self : Addr} (hs : A.self = self) (hnod : g.nodes.Nodup) (hnl : g.nodes.length ≤ 150) (hcl : ∀ x ∈ g.nodes, ∀ z ∈ g.succ x, z ∈ g.nodes) (hfree : Free p loose (Str.ofString "StopIteration")) (hself : ∃ x ∈ g.nodes, x ∈ g.succ x)
    (hB : ∀ x, (g.succ x).length ≤ 200) (hnp : ∀ x ∈ g.nodes, g.np x = ((g.nodes.flatMap g.succ).count x : Int))
    (ret : ∀ D' ga vsG nG gv news' h' tk', Fr h₀ L h' m → News h₀ L h' news' → (D', seqObj "tuple" [.ref ga, .bool true] 0) ∈ news' → (ga, seqObj "list" vsG nG) ∈ news' → Strs vsG gv → gv.Nodup → (∀ x ∈ gv, x ∈ g.nodes) → (∀ x ∈ gv, x ∉ g.succ x) → (∀ x ∈ g.nodes, (x ∈ gv ↔ ∀ y ∈ g.nodes, x ∈ g.succ y → y ∈ gv)) →
      (∀ p ∈ news, ¬ A.foot g p.1 → p ∈ news') → Q (.ref D') { s with heap := h', toks := tk' }) :
    wpAny (model prog w) (ktrTop dp un gd cn cs L a ccd cl []) (call (.ref 262) [.ref self]) Q E s := by
  subst hs
  refine wpAny_call ?_
  refine' code_defX0 (binds := [(Str.ofString "sorter", .ref A.self)]) B F X N T rfl rfl hk ?k6 ?k7 ?k8 ?k9 ?kB ?_ ?c2 ?c3 ?c4 ?c5
  (case k6 => k_is)
  (case k7 => k_is)
  (case k8 => ktr_room)
  (case k9 => exact BindsTo.of_eq rfl)
  (case c5 => decide)
  (case kB => exact locs rfl)
  (case c2 => exact rfl)
  (case c3 => exact rfl)
  (case c4 => exact rfl)
  intro g' L' h' FG' F' N' B' X' T' D'
  refine hideG fun zG zK => ?_
  obtain ⟨e1, e2, e3, e4, t1, t2, t3, t4, t5, t6, m2⟩ := S.dict
  refine zK ?_
  clear zK zG
  have m1 := S.inst
  have ok := S.ok
  k_steps
  refine Stop.of (wpAny_Try_except ?_)
  k_steps
  rename_i h3 F3 N3
  refine Stop.of ?_
  refine' prepareS ?k1 ?k2 ?k3 ?k4 ?k5 rfl ?kd XB TB D' S rfl hnod (by omega) hcl hfree hself ?_
  (case k1 => exact B')
  (case k2 => exact F3)
  (case k3 => exact X')
  (case k4 => exact N3)
  (case k5 => exact T')
  (case kd => ktr_room)
  intro g4 G4 e4' t4' vs4 news4 h4 tk4 rl T4 F4 B4 D4 R4 U4 RA hk4
  refine caught_SO0 (C := 145) (x := Str.ofString "CycleError") R4 F4 B4 U4 XB TB D4 T4 (by k_is) (by kts_isx) ?_
  intro h5 g5 news5 T5 F5 N5n Got5 N5 B5 X5 P5 KD5
  clear F3 N3 N5n Got5
  k_steps
  rename_i tk6 h6 ga h7 l7 h8 F8 N8
  refine Stop.of ?_
  have l7' : ∀ p ∈ news4, p.1 ≠ ga := fun p hp => Nat.ne_of_lt (l7 p hp)
  have hfga : ¬ A.foot g ga := RA.S.not_foot l7'
  have hgarl : ga ≠ rl := by
    refine hideG fun zG zK => ?_
    obtain ⟨vr, nr, mr, _⟩ := RA.lst
    refine zK ?_
    clear zK zG
    exact Ne.symm (l7' _ mr)
  have RA0 : RAt prog w ((ga, W.listOf #[] 0) :: news4) A g (g.nodes.filter fun x => decide (g.np x = 0)) rl 0 0 := by
    refine hideG fun zG zK => ?_
    obtain ⟨a1, ⟨vr, nr, mr, hr⟩, a3⟩ := RA
    refine zK ?_
    clear zK zG
    exact ⟨a1.cons l7', ⟨vr, nr, .tail _ mr, hr⟩, a3⟩
  refine While_inv2 (fun n m₂ nl => Ex5 fun gg R D vsG nG => All10 (RAt prog w nl A gg R rl (D.length : Int) (D.length : Int)) (Kahn g gg R D) ((∀ x ∈ D, x ∉ g.succ x)) ((ga, seqObj "list" vsG nG) ∈ nl) (Strs vsG D) ((∀ p ∈ news, ¬ A.foot g p.1 → p ∈ nl)) (n = g.nodes.length - D.length) (m₂ (Str.ofString "sorter") = some (.ref A.self)) (m₂ (Str.ofString "given") = some (.ref ga)) (m₂ (Str.ofString "ring") = some (.bool true)))
      F8 N8 ⟨g, _, [], [], 0, RA0, Kahn.start hnod hnp, (fun x hx => (nomatch hx)), .head _, Strs.nil, (fun p hp hf => .tail _ (hk4 p hp hf).1), rfl, rfl, rfl, rfl⟩ ?_
  clear F8 N8 RA0
  intro n m₂ nl h2 tk2 F₂ N₂ hJ
  refine hideG fun zG zK => ?_
  obtain ⟨gg, R, D, vsG, nG, RA2, KA, hD, mG, hsG, hk2, hn2, hm1, hm2, hm3⟩ := hJ
  have hgn : gg.nodes = g.nodes := KA.nodes
  have ftg : ∀ b, A.foot gg b ↔ A.foot g b := foot_nodes hgn
  have hless := KA.less
  obtain ⟨f1, f2, f3, f4, u1, u2, u3, u4, u5, u6, mD2⟩ := RA2.S.dict
  refine zK ?_
  clear zK zG
  have mS2 := RA2.S.inst
  have ok2 := RA2.S.ok
  have F3 := know (know (know F₂ (y := Str.ofString "ring") (v := .bool true) hm3) (y := Str.ofString "given") (v := .ref ga) hm2) (y := Str.ofString "sorter") (v := .ref A.self) hm1
  clear F₂
  k_steps
  refine Stop.of ?_
  refine' isActive ?k1b ?k2b ?k3b ?k4b ?k5b rfl ?kdb RA2 (by omega) rfl ?_
  (case k1b => exact B5)
  (case k2b => exact F3)
  (case k3b => exact X5)
  (case k4b => exact N₂)
  (case k5b => exact P5)
  (case kdb => ktr_room)
  intro h9 tk9 F9 N9
  have hlt : ¬ ((D.length : Int) < (D.length : Int)) := by omega
  rw [decide_eq_false hlt, Bool.false_or]
  clear F3 N₂
  by_cases hR : R = []
  · subst hR
    k_steps
    rename_i D14 h14 F14 N14 l14 kF kN _ _
    exact ret D14 ga vsG nG D _ _ _ kF kN (.head _) (.tail _ mG) hsG KA.dn KA.dsub hD (fun x hx => KA.fin hx) (fun p hp hf => .tail _ (hk2 p hp hf))
  · have hRe : (!R.isEmpty) = true := by cases R with | nil => exact absurd rfl hR | cons _ _ => rfl
    rw [hRe]
    k_steps
    refine Stop.of ?_
    refine' getReady ?k1c ?k2c ?k3c ?k4c ?k5c rfl ?kdc RA2 (fun x hx => by rw [hgn]; exact KA.rsub x hx) (by omega) hR rfl ?_
    (case k1c => exact B5)
    (case k2c => exact F9)
    (case k3c => exact X5)
    (case k4c => exact N9)
    (case k5c => exact P5)
    (case kdc => ktr_room)
    intro t vsR nR nl3 h3 tk3 Fc Nc RA3 mT hsR fT neT hk3
    clear F9 N9
    have mG3 := hk3 _ mG (fun hf => hfga ((ftg _).mp hf)) hgarl
    have ok3 := RA3.S.ok
    refine hideG fun zG zK => ?_
    obtain ⟨f1, f2, f3, f4, u1, u2, u3, u4, u5, u6, mD3⟩ := RA3.S.dict
    refine zK ?_
    clear zK zG
    have mS3 := RA3.S.inst
    have hvlG := hsG.1
    have hvlR := hsR.1
    have hRne : R.length ≠ 0 := fun e => hR (List.eq_nil_of_length_eq_zero e)
    k_steps
    refine' kup_extend (its := vsG.toArray) (its2 := vsR.toArray) ?Fe ?Ne ?be rfl ?ne ?Ue ?de ?ze ?ye ?_
    (case Fe => k_asm)
    (case Ne => k_asm)
    (case be => exact mT)
    (case ne => rw [List.toList_toArray, hvlR]; exact hRne)
    (case Ue => exact upd_of ok3 mG3)
    (case de => simp only [Builtin.List.listTooLong, List.size_toArray, Bool.and_eq_true, decide_eq_true_eq, sizeLine_eq]; omega)
    (case ze => rw [List.toList_toArray, sizeLine_eq]; omega)
    (case ye => rw [List.size_toArray, List.size_toArray, sizeLine_eq]; omega)
    intro h10 F10 N10
    have fga3 : ¬ A.foot (outs R gg) ga := fun hf => hfga ((ftg ga).mp ((foot_nodes (outs_nodes R gg) ga).mp hf))
    have nga : ∀ {b : Addr}, A.foot (outs R gg) b → b ≠ ga := fun hf e => fga3 (e ▸ hf)
    have tga : t ≠ ga := fun e => by
      subst e
      have := ok3.same mT mG3
      injection this with e _
      injection e with e
      exact absurd e (by decide)
    simp only [List.toList_toArray] at N10
    have RA4 : RAt prog w (setAt nl3 ga (W.listOf (vsG ++ vsR).toArray (nG + 1))) A (outs R gg) [] rl ((D.length : Int) + R.length) (D.length : Int) := by
      refine hideG fun zG zK => ?_
      obtain ⟨a1, ⟨vr, nr, mr, hr⟩, a3⟩ := RA3
      refine zK ?_
      clear zK zG
      exact ⟨a1.sub (ok3.setAt _ _) fun p hp hf => mem_set_ne (nga hf) hp, ⟨vr, nr, mem_set_ne (Ne.symm hgarl) mr, hr⟩, a3⟩
    have mT4 : (t, seqObj "tuple" vsR nR) ∈ setAt nl3 ga (W.listOf (vsG ++ vsR).toArray (nG + 1)) := mem_set_ne tga mT
    have mG4 : (ga, W.listOf (vsG ++ vsR).toArray (nG + 1)) ∈ setAt nl3 ga (W.listOf (vsG ++ vsR).toArray (nG + 1)) := mem_set_self mG3
    have mS4 := RA4.S.inst
    have ok4 := RA4.S.ok
    have hk5 : ∀ p ∈ nl3, p.1 ≠ ga → p ∈ setAt nl3 ga (W.listOf (vsG ++ vsR).toArray (nG + 1)) := fun p hp hne => mem_set_ne hne hp
    generalize setAt nl3 ga (W.listOf (vsG ++ vsR).toArray (nG + 1)) = nl4 at *
    refine hideG fun zG zK => ?_
    obtain ⟨f1', f2', f3', f4', u1', u2', u3', u4', u5', u6', mD4⟩ := RA4.S.dict
    refine zK ?_
    clear zK zG
    k_steps
    refine MethodCallS ?_
    k_steps
    rename_i q11 h11 F11 N11 l11
    refine callWith_MS (q := q11) (f := 210) (self := .ref A.self) (by k_is) ?_
    k_steps
    refine' star_seq (o := seqObj "tuple" vsR nR) (its := vsR.toArray) ?Fs ?Ns ?ms rfl rfl (.inr rfl) rfl ?zs ?_
    (case Fs => k_asm)
    (case Ns => k_asm)
    (case ms => exact .tail _ mT4)
    (case zs => rw [List.size_toArray, sizeLine_eq]; omega)
    intro h12 F12 N12
    refine ⟨⟨(N12 _ (.head _)).1, X5.keeps F12.keep⟩, ?_⟩
    refine call_meth N12 (.head _) ?_
    have KR := KA.round hnod hcl
    have RA5 : RAt prog w ((q11, methodObj (.ref 210) (.ref A.self)) :: nl4) A (outs R gg) [] rl ((D.length : Int) + R.length) (D.length : Int) := by
      refine hideG fun zG zK => ?_
      obtain ⟨a1, ⟨vr, nr, mr, hr⟩, a3⟩ := RA4
      refine zK ?_
      clear zK zG
      exact ⟨a1.cons (fun p hp => Nat.ne_of_lt (l11 p hp)), ⟨vr, nr, .tail _ mr, hr⟩, a3⟩
    have hsucc : (outs R gg).succ = g.succ := (outs_succ R gg).trans KA.succ
    have hnodes : (outs R gg).nodes = g.nodes := (outs_nodes R gg).trans hgn
    simp only [List.toList_toArray, List.nil_append]
    refine' doneS ?k1d ?k2d ?k3d ?k4d ?k5d rfl ?kdd RA5 hsR (by omega) (fun x => by rw [hsucc]; exact hB x) (Nat.zero_le _) (fun x hx z hz => by rw [hnodes] at hx ⊢; rw [hsucc] at hz; exact hcl x hx z hz) KR.1 rfl ?_
    (case k1d => exact B5)
    (case k2d => exact F12)
    (case k3d => exact X5)
    (case k4d => exact N12)
    (case k5d => exact P5)
    (case kdd => ktr_room)
    intro nl6 h13 tk13 F13 N13 RA6 hk6
    clear F12 N12 F11 N11
    k_steps
    have hne : D.length < (D ++ R).length := by rw [List.length_append]; omega
    have h1 := KR.2.less
    have foot' : ∀ b, A.foot (outs R gg) b ↔ A.foot g b := foot_nodes hnodes
    refine ⟨_, _, _, nl6, g.nodes.length - (D ++ R).length, rfl, F13, N13, by omega, _, _, D ++ R, vsG ++ vsR, nG + 1, ?_, KR.2, ?_, ?_, hsG.app hsR, ?_, rfl, rfl, rfl, rfl⟩
    · have e1 : ((D ++ R).length : Int) = (D.length : Int) + R.length := by rw [List.length_append]; omega
      rw [e1]; exact RA6
    · intro x hx
      exact (List.mem_append.mp hx).elim (hD x) (KA.noloop x)
    · exact hk6 _ (.tail _ mG4) fga3 hgarl
    · intro p hp hf
      have hp1 := hk2 p hp hf
      have hp2 := hk3 p hp1 (fun h => hf ((ftg _).mp h)) (hk4 p hp hf).2
      have hpg : p.1 ≠ ga := fun e => l7' p (hk4 p hp hf).1 e
      exact hk6 p (.tail _ (hk5 p hp2 hpg)) (fun h => hf ((foot' _).mp h)) (hk4 p hp hf).2

end
end
section
open PySem PySem.W PyProof.Rows PySem.Calls PySem.Spec
theorem words_Place : True := by
  k_with_none
  k_with "mine room" => ((try simp only [depth_under_make, depth_under_kw, depth_in1, depth_deeper, depth_caller]); (try dsimp only [ktrTop]); omega)
  k_with "mine all" => (first | (with_reducible assumption) | (with_reducible exact allLt_of (by assumption)) | (refine And.intro ?_ ?_; (first | assumption | ((try dsimp only at *); omega)); k_extra "mine all") | (exact allLt_up (by assumption) (by omega)) | (refine allLt_set ?_; k_extra "mine all") | fail)
  k_with "mine lt" => (first | assumption | (refine lt_allLt ?_; k_extra "mine all") | fail)
  k_with "mine ok" => (first | assumption | (refine Ok.setAt ?_ _ _; k_extra "mine ok") | (refine Ok.cons ?_ ?_; (k_extra "mine ok"); (k_extra "mine lt")) | fail)
  k_with "mine ne" => ((try dsimp only); first | assumption | (refine Ne.symm ?_; assumption) | (refine neN ?_; omega) | (apply ne_z1; (case q9m => assumption); (case q9h => k_extra "mine all")) | (apply ne_z2; (case q9m => assumption); (case q9h => k_extra "mine all")) | fail)
  k_with "mine nes" => (first | assumption | exact List.forall_mem_nil _ | (refine List.forall_mem_cons.mpr ⟨?_, ?_⟩; (k_extra "mine ne"); (k_extra "mine nes")) | (refine nes_set ?_; k_extra "mine nes") | (refine nes_lt ?_; k_extra "mine all") | fail)
  k_with "mine mem" => (first | (with_reducible assumption) | ktr_member | (with_reducible exact List.mem_cons_self) | (with_reducible apply mset_z; k_mem) | (with_reducible apply mset_ne_z; (case q9n => k_extra "mine ne"); (case q9x => k_mem)) | (with_reducible refine List.mem_cons_of_mem _ ?_; k_mem) | fail)
  k_with "mine upd" => (first | (with_reducible refine Upd.head ?_; k_extra "mine nes") | (with_reducible apply upd_tail; (case q9ne => k_extra "mine ne"); (case q9u => k_upd)) | (apply upd_z; (case q9k => k_extra "mine ok"); (case q9m => k_mem)) | fail)
  k_with "mine updF" => (first | (with_reducible refine UpdF.head ?_; k_extra "mine nes") | (with_reducible apply updF_tail; (case q9ne => k_extra "mine ne"); (case q9u => k_updF)) | (apply updF_z; (case q9k => k_extra "mine ok"); (case q9m => k_mem)) | fail)
  k_with "mine sub" => (first | exact (fun p hp => hp) | exact (fun p hp => List.mem_cons_of_mem _ hp) | exact (fun p hp => List.mem_cons_of_mem _ (List.mem_cons_of_mem _ hp)) | exact (fun p hp => List.mem_cons_of_mem _ (List.mem_cons_of_mem _ (List.mem_cons_of_mem _ hp))) | (refine List.forall_mem_cons.mpr ⟨?_, ?_⟩; k_mem; k_extra "mine sub") | (intro p hp; (repeat (first | exact hp | refine List.mem_cons_of_mem _ ?_))) | fail)
  k_with "mine units" => ((try simp only [units_in1, units_deeper]); (try dsimp only [ktrTop]); omega)
  k_with "mine leave" => (with_reducible apply HQ.use_z; (case q9h => with_reducible assumption))
  k_with "subscriptTail" => ((k_here; (with_reducible show wpAny _ _ (subscriptTail _ _ (Value.ref _) (Value.str _ _)) _ _ _); k_dflt (refine kda_item (knd := PySem.strKind _ _) (by k_asm) (by k_mem) (by assumption) (strKind_is _ _ _ _) (by assumption) ?_)))
  trivial
section
variable {prog : Program} {w : World} {p : Program} {loose : List Str} {mean : ExcName → Option Value} {mg mb : Str → Option Value} {dp un : Nat} {gd : Option (List Code)} {cn : Str} {cs : Scope} {a : Addr} {ccd : Value} {cl : List (Str × Addr)} {outer : List Env} {A₀ : Around} {base h₀ : Heap} {L : Addr} {m : Str → Option Value} {news : Led} {s : Shared} {Q E : Value → Shared → Prop}
theorem item_strs {A : Around} {value slice : PySem.Expr} {QV : Value → Shared → Prop} {l : Addr} {vs : List Value} {n : Nat} {xs : List Str} {k : Int} {u : Tok} (N : News h₀ L s.heap news) (hm : (l, seqObj "list" vs n) ∈ news) (hv : Strs vs xs) (h0 : 0 ≤ k) (hk : k < xs.length) (hx : xs.length ≤ 1000)
    (h : ∀ x t, xs[k.toNat]? = some x → QV (.str x t) s)
    (hs : subscripted slice false (.ref l) (.int k u) = operate [.ref l, .int k u] (getItem (.ref l) (.int k u)) := by with_unfolding_all rfl) :
    wpAny (model prog w) A (subscriptTail value slice (.ref l) (.int k u)) QV E s := by
  have hl : s.heap.IsList l vs.toArray := ⟨_, (N _ hm).1, rfl, n, rfl⟩
  have hi : k.toNat < xs.length := by omega
  obtain ⟨t, ht⟩ := hv.2 k.toNat xs[k.toNat] (by simp [hi])
  exact tail_any hl.typeIs slot_list_getitem.lookup (wpAny_getItem_list hl h0 (by omega) (by simpa using ht) (h _ _ (by simp [hi]))) hs
theorem fmod3_lo (e : Int) : 0 ≤ e.fmod 3 := Int.fmod_nonneg_of_pos _ (by decide)
theorem fmod3_hi (e : Int) : e.fmod 3 < 3 := Int.fmod_lt_of_pos _ (by decide)
theorem words_place_1 : True := by
  k_with "subscriptTail" => ((k_here; (with_reducible show wpAny _ _ (subscriptTail _ _ (Value.ref _) (Value.int (Int.fmod _ 3) _)) _ _ _); k_dflt (refine item_strs (by k_asm) (by k_mem) (Strs.mk3 _ _ _ _ _ _) (fmod3_lo _) (fmod3_hi _) (Nat.le_of_ble_eq_true rfl) ?_); intro _ _ _))
  k_with "eval ListComp" => (((with_reducible show wpAny _ _ (eval (Expr.ListComp _ _ _ _) _) _ _ _); refine stop_intro ?_))
  k_with "CompSrc" => ((refine stop_intro ?_))
  k_with "CompEnd" => ((refine stop_intro ?_))
  trivial
noncomputable def dg (d : Int) : Str := if d = 0 then Str.ofString "lib" else if d = 1 then Str.ofString "li" else Str.ofString "b.d"
noncomputable def placeParts (z : Int) : List Str := if z.fmod 2 = 0 then [dg ((z.fdiv 2).fmod 3)] else [dg ((z.fdiv 2).fmod 3), dg (((z.fdiv 2).fdiv 3).fmod 3)]
theorem dg_of {e : Int} {x : Str} (h : [Str.ofString "lib", Str.ofString "li", Str.ofString "b.d"][(e.fmod 3).toNat]? = some x) : x = dg (e.fmod 3) := by
  have h1 := fmod3_lo e
  have h2 := fmod3_hi e
  generalize e.fmod 3 = d at *
  have : d = 0 ∨ d = 1 ∨ d = 2 := by omega
  rcases this with rfl | rfl | rfl <;> (simp at h; subst h; rfl)
theorem comp_end {s₁ : Shared} {I C D : Addr} {oI oC oD : Obj} {S : Led → Prop} {rest : Value → Led → Prop} {y : Value} {h' : Heap} {tk : Nat} {all : Led} (nw : Led) (F : Fr h₀ L h' m) (N : News h₀ L h' all) (hs : ∀ p ∈ (I, oI) :: (C, oC) :: (D, oD) :: nw, p ∈ all) (ho : LCg.Off3 I C D nw) (hS : S nw) (r : rest y nw) :
    LCg.CompEnd h₀ L m s₁ I oI C oC D oD S rest y { s₁ with heap := h', toks := tk } := LCg.CompEnd.intro F N nw hs ho hS r
theorem placeS (B : Below A₀ base outer h₀) (F : Fr h₀ L s.heap m) (X : (K w.params).In h₀) (N : News h₀ L s.heap news) (T : Top p loose mean mg mb h₀) (hk : cs.kind = .function) (hdp : dp + 12 < recursionLimit) {z : Int} {tz : Tok}
    (ret : ∀ D vs n h' tk', Strs vs (placeParts z) → Fr h₀ L h' m → News h₀ L h' ((D, seqObj "list" vs n) :: news) → (∀ p ∈ news, p.1 ≠ D) → Q (.ref D) { s with heap := h', toks := tk' }) :
    wpAny (model prog w) (ktrTop dp un gd cn cs L a ccd cl outer) (call (.ref 236) [.int z tz]) Q E s := by
  refine wpAny_call ?_
  refine' code_defC (binds := [(Str.ofString "z", .int z tz)]) B F X N T rfl rfl hk ?k6 ?k7 ?k8 ?k9 ?kB ?kD ?_ ?c2 ?c3 ?c4
  (case k6 => k_is)
  (case k7 => k_is)
  (case k8 => ktr_room)
  (case k9 => exact BindsTo.of_eq rfl)
  (case kB => exact rfl)
  (case kD => decide +kernel)
  (case c2 => exact rfl)
  (case c3 => exact rfl)
  (case c4 => exact rfl)
  intro g' L' h' tk' cells' FG' F' N' Y' B' X' T' l1
  refine noE ?_
  refine hideQ fun _ _ => ?_
  (try k_lt l1)
  k_cells Y'
  (try simp only [List.cons_append, List.nil_append] at N')
  (try dsimp only)
  (try k_fold)
  k_steps
  refine Stop.of ?_
  refine LCg.ListComp_U (F₀ := by k_asm) (by with_unfolding_all rfl) (by decide) (by rfl) (by decide) (by rfl) ?_
  k_steps
  refine Stop.of ?_
  have h2 : z.fmod 2 = 0 ∨ z.fmod 2 = 1 := by
    have h1 := Int.fmod_nonneg_of_pos z (b := 2) (by decide)
    have h2 := Int.fmod_lt_of_pos z (b := 2) (by decide)
    omega
  rename_i oc _ _ _ _ _ _ _ _ _ _ _
  rename (IsRange _ _ _ _ _ _ _ _) => hr
  rcases h2 with h2 | h2
  · have hlen : 1 + z.fmod 2 = 1 := by omega
    rw [hlen] at hr
    refine LCg.CompSrc.range (n := 1) (by rfl) (by k_asm) (by k_asm) hr (by decide) (by decide) (by decide) ?_
    intro g2
    k_steps
    refine Stop.of (comp_end ((L' + 1, oc) :: news) (by k_asm) (by k_asm) (by k_extra "mine sub") (by assumption) trivial ?_)
    k_steps
    rename_i x1 t1 hx1 D1 h3 tk3 F3 N3 o3 kF kN _ _
    refine ret D1 _ _ _ _ ?_ kF (News.sub kN (by k_extra "mine sub")) (off1_mem o3.2)
    have e1 := dg_of hx1
    unfold placeParts
    rw [if_pos h2, e1]
    have e2 : (z.fdiv 2).fdiv (3 ^ (0 + ((0 : Nat) : Int)).toNat) = z.fdiv 2 := by
      show (z.fdiv 2).fdiv 1 = _
      exact Int.fdiv_one _
    rw [e2]
    exact Strs.mk1 _ _
  · have hlen : 1 + z.fmod 2 = 2 := by omega
    rw [hlen] at hr
    refine LCg.CompSrc.range (n := 2) (by rfl) (by k_asm) (by k_asm) hr (by decide) (by decide) (by decide) ?_
    intro g2
    k_steps
    refine Stop.of (comp_end ((L' + 1, oc) :: news) (by k_asm) (by k_asm) (by k_extra "mine sub") (by assumption) trivial ?_)
    rename_i x1 t1 hx1
    k_steps
    refine Stop.of (comp_end ((L' + 1, oc) :: news) (by k_asm) (by k_asm) (by k_extra "mine sub") (by assumption) trivial ?_)
    k_steps
    rename_i x2 t2 hx2 D1 h3 tk3 F3 N3 o3 kF kN _ _
    refine ret D1 _ _ _ _ ?_ kF (News.sub kN (by k_extra "mine sub")) (off1_mem o3.2)
    have e1 := dg_of hx1
    have e2 := dg_of hx2
    have e3 : (z.fdiv 2).fdiv (3 ^ (0 + ((0 : Nat) : Int)).toNat) = z.fdiv 2 := by
      show (z.fdiv 2).fdiv 1 = _
      exact Int.fdiv_one _
    unfold placeParts
    rw [if_neg (by omega), e1, e2, e3]
    exact Strs.mk2 _ _ _ _

end
end
section
open PySem PySem.W PyProof.Rows PySem.Calls PySem.Spec
theorem words_Written : True := by
  k_with_none
  k_with "mine room" => ((try simp only [depth_under_make, depth_under_kw, depth_in1, depth_deeper, depth_caller]); (try dsimp only [ktrTop]); omega)
  k_with "mine all" => (first | (with_reducible assumption) | (with_reducible exact allLt_of (by assumption)) | (refine And.intro ?_ ?_; (first | assumption | ((try dsimp only at *); omega)); k_extra "mine all") | (exact allLt_up (by assumption) (by omega)) | (refine allLt_set ?_; k_extra "mine all") | fail)
  k_with "mine lt" => (first | assumption | (refine lt_allLt ?_; k_extra "mine all") | fail)
  k_with "mine ok" => (first | assumption | (refine Ok.setAt ?_ _ _; k_extra "mine ok") | (refine Ok.cons ?_ ?_; (k_extra "mine ok"); (k_extra "mine lt")) | fail)
  k_with "mine ne" => ((try dsimp only); first | assumption | (refine Ne.symm ?_; assumption) | (refine neN ?_; omega) | (apply ne_z1; (case q9m => assumption); (case q9h => k_extra "mine all")) | (apply ne_z2; (case q9m => assumption); (case q9h => k_extra "mine all")) | fail)
  k_with "mine nes" => (first | assumption | exact List.forall_mem_nil _ | (refine List.forall_mem_cons.mpr ⟨?_, ?_⟩; (k_extra "mine ne"); (k_extra "mine nes")) | (refine nes_set ?_; k_extra "mine nes") | (refine nes_lt ?_; k_extra "mine all") | fail)
  k_with "mine mem" => (first | (with_reducible assumption) | ktr_member | (with_reducible exact List.mem_cons_self) | (with_reducible apply mset_z; k_mem) | (with_reducible apply mset_ne_z; (case q9n => k_extra "mine ne"); (case q9x => k_mem)) | (with_reducible refine List.mem_cons_of_mem _ ?_; k_mem) | fail)
  k_with "mine upd" => (first | (with_reducible refine Upd.head ?_; k_extra "mine nes") | (with_reducible apply upd_tail; (case q9ne => k_extra "mine ne"); (case q9u => k_upd)) | (apply upd_z; (case q9k => k_extra "mine ok"); (case q9m => k_mem)) | fail)
  k_with "mine updF" => (first | (with_reducible refine UpdF.head ?_; k_extra "mine nes") | (with_reducible apply updF_tail; (case q9ne => k_extra "mine ne"); (case q9u => k_updF)) | (apply updF_z; (case q9k => k_extra "mine ok"); (case q9m => k_mem)) | fail)
  k_with "mine sub" => (first | exact (fun p hp => hp) | exact (fun p hp => List.mem_cons_of_mem _ hp) | exact (fun p hp => List.mem_cons_of_mem _ (List.mem_cons_of_mem _ hp)) | exact (fun p hp => List.mem_cons_of_mem _ (List.mem_cons_of_mem _ (List.mem_cons_of_mem _ hp))) | (refine List.forall_mem_cons.mpr ⟨?_, ?_⟩; k_mem; k_extra "mine sub") | (intro p hp; (repeat (first | exact hp | refine List.mem_cons_of_mem _ ?_))) | fail)
  k_with "mine units" => ((try simp only [units_in1, units_deeper]); (try dsimp only [ktrTop]); omega)
  k_with "mine leave" => (with_reducible apply HQ.use_z; (case q9h => with_reducible assumption))
  trivial
section
variable {prog : Program} {w : World} {p : Program} {loose : List Str} {mean : ExcName → Option Value} {mg mb : Str → Option Value} {dp un : Nat} {gd : Option (List Code)} {cn : Str} {cs : Scope} {a : Addr} {ccd : Value} {cl : List (Str × Addr)} {outer : List Env} {A₀ : Around} {base h₀ : Heap} {L : Addr} {m : Str → Option Value} {news : Led} {s : Shared} {Q E : Value → Shared → Prop}
noncomputable def writ (ps : List Str) (k : Int) : Str :=
  if k = 1 then (slash ++ Str.join (Str.ofString "//") ps) ++ slash
  else if k = 2 then slash ++ Str.join (Str.ofString "/./") ps
  else if k = 3 then (slash ++ Str.join (Str.ofString "/q/../") ps) ++ Str.ofString "/q/.."
  else dirS ps
theorem words_written_1 : True := by
  k_with "call builtin:str.join" => ((k_here; (with_reducible show wpAny _ _ (call (Value.builtin "str.join") [Value.str _ _, Value.ref _]) _ _ _); k_dflt (refine join_lst (by k_asm) (by k_mem) (by assumption) (by assumption) (by omega) (by decide +kernel) ?_); intro _ _ _))
  k_with "binaryOp Add str str" => ((k_here; (with_reducible show wpAny _ _ (binaryOp Operator.Add (Value.str _ _) (Value.str _ _)) _ _ _); k_dflt (refine my_add (by omega) ?_); intro _ _ _))
  trivial
theorem writtenS (B : Below A₀ base outer h₀) (F : Fr h₀ L s.heap m) (X : (K w.params).In h₀) (N : News h₀ L s.heap news) (T : Top p loose mean mg mb h₀) (hk : cs.kind = .function) (hdp : dp + 12 < recursionLimit) {pa : Addr} {vs : List Value} {n : Nat} {ps : List Str} {k : Int} {tk : Tok} (hm : (pa, seqObj "list" vs n) ∈ news) (hv : Strs vs ps) (hx : ∀ x ∈ ps, x.length ≤ 100) (hl : ps.length ≤ 10)
    (ret : ∀ t h' tk', (writ ps k).length ≤ 1300 → Fr h₀ L h' m → News h₀ L h' news → Q (.str (writ ps k) t) { s with heap := h', toks := tk' }) :
    wpAny (model prog w) (ktrTop dp un gd cn cs L a ccd cl outer) (call (.ref 243) [.ref pa, .int k tk]) Q E s := by
  have l1 : (Str.ofString "/").length = 1 := by decide +kernel
  have l2 : (Str.ofString "/q/..").length = 5 := by decide +kernel
  refine wpAny_call ?_
  refine' code_def (binds := [(Str.ofString "parts", .ref pa), (Str.ofString "how", .int k tk)]) B F X N T rfl rfl hk ?k6 ?k7 ?k8 ?k9 ?kB ?_ ?c2 ?c3 ?c4 ?c5
  (case k6 => k_is)
  (case k7 => k_is)
  (case k8 => ktr_room)
  (case k9 => exact BindsTo.of_eq rfl)
  (case c5 => decide)
  (case kB => exact locs rfl)
  (case c2 => exact rfl)
  (case c3 => exact rfl)
  (case c4 => exact rfl)
  intro g' L' h' FG' F' N' B' X' T'
  refine noE ?_
  refine hideQ fun _ _ => ?_
  k_steps
  all_goals (unfold writ dirS slash at ret; (repeat (first | rw [if_pos (by assumption)] at ret | rw [if_neg (by assumption)] at ret)); exact ret _ _ _ (by omega) (by assumption) (by assumption))

end
end
section
open PySem PySem.W PyProof.Rows PySem.Calls PySem.Spec
theorem words_Out : True := by
  k_with_none
  k_with "mine room" => ((try simp only [depth_under_make, depth_under_kw, depth_in1, depth_deeper, depth_caller]); (try dsimp only [ktrTop]); omega)
  k_with "mine all" => (first | (with_reducible assumption) | (with_reducible exact allLt_of (by assumption)) | (refine And.intro ?_ ?_; (first | assumption | ((try dsimp only at *); omega)); k_extra "mine all") | (exact allLt_up (by assumption) (by omega)) | (refine allLt_set ?_; k_extra "mine all") | fail)
  k_with "mine lt" => (first | assumption | (refine lt_allLt ?_; k_extra "mine all") | fail)
  k_with "mine ok" => (first | assumption | (refine Ok.setAt ?_ _ _; k_extra "mine ok") | (refine Ok.cons ?_ ?_; (k_extra "mine ok"); (k_extra "mine lt")) | fail)
  k_with "mine ne" => ((try dsimp only); first | assumption | (refine Ne.symm ?_; assumption) | (refine neN ?_; omega) | (apply ne_z1; (case q9m => assumption); (case q9h => k_extra "mine all")) | (apply ne_z2; (case q9m => assumption); (case q9h => k_extra "mine all")) | fail)
  k_with "mine nes" => (first | assumption | exact List.forall_mem_nil _ | (refine List.forall_mem_cons.mpr ⟨?_, ?_⟩; (k_extra "mine ne"); (k_extra "mine nes")) | (refine nes_set ?_; k_extra "mine nes") | (refine nes_lt ?_; k_extra "mine all") | fail)
  k_with "mine mem" => (first | (with_reducible assumption) | ktr_member | (with_reducible exact List.mem_cons_self) | (with_reducible apply mset_z; k_mem) | (with_reducible apply mset_ne_z; (case q9n => k_extra "mine ne"); (case q9x => k_mem)) | (with_reducible refine List.mem_cons_of_mem _ ?_; k_mem) | fail)
  k_with "mine upd" => (first | (with_reducible refine Upd.head ?_; k_extra "mine nes") | (with_reducible apply upd_tail; (case q9ne => k_extra "mine ne"); (case q9u => k_upd)) | (apply upd_z; (case q9k => k_extra "mine ok"); (case q9m => k_mem)) | fail)
  k_with "mine updF" => (first | (with_reducible refine UpdF.head ?_; k_extra "mine nes") | (with_reducible apply updF_tail; (case q9ne => k_extra "mine ne"); (case q9u => k_updF)) | (apply updF_z; (case q9k => k_extra "mine ok"); (case q9m => k_mem)) | fail)
  k_with "mine sub" => (first | exact (fun p hp => hp) | exact (fun p hp => List.mem_cons_of_mem _ hp) | exact (fun p hp => List.mem_cons_of_mem _ (List.mem_cons_of_mem _ hp)) | exact (fun p hp => List.mem_cons_of_mem _ (List.mem_cons_of_mem _ (List.mem_cons_of_mem _ hp))) | (refine List.forall_mem_cons.mpr ⟨?_, ?_⟩; k_mem; k_extra "mine sub") | (intro p hp; (repeat (first | exact hp | refine List.mem_cons_of_mem _ ?_))) | fail)
  k_with "mine units" => ((try simp only [units_in1, units_deeper]); (try dsimp only [ktrTop]); omega)
  k_with "mine leave" => (with_reducible apply HQ.use_z; (case q9h => with_reducible assumption))
  trivial
section
variable {prog : Program} {w : World} {p : Program} {loose : List Str} {mean : ExcName → Option Value} {mg mb : Str → Option Value} {dp un : Nat} {gd : Option (List Code)} {cn : Str} {cs : Scope} {a : Addr} {ccd : Value} {cl : List (Str × Addr)} {outer : List Env} {A₀ : Around} {base h₀ : Heap} {L : Addr} {m : Str → Option Value} {news : Led} {s : Shared} {Q E : Value → Shared → Prop}
theorem Strs.dat {vs : List Value} {xs : List Str} (h : Strs vs xs) : DatAll news vs (xs.map Dat.str) := by
  refine hideG fun zG zK => ?_
  obtain ⟨l, rfl, rfl⟩ := h.pairs
  refine zK ?_
  clear zK zG
  clear h
  induction l with
  | nil => exact .nil
  | cons p l ih => exact .cons (.str _ _) ih
noncomputable def datL (q : List Str) : Dat := .list (q.map Dat.str)
theorem AllAt.cons_inv {α : Type} {R : Value → α → Prop} {v : Value} {vs : List Value} {xs : List α} (h : AllAt R (v :: vs) xs) : ∃ x ys, xs = x :: ys ∧ R v x ∧ AllAt R vs ys := by
  cases xs with
  | nil => have := h.1; simp at this
  | cons x ys =>
    obtain ⟨v', e, r⟩ := h.2 0 x rfl
    simp at e
    subst e
    exact ⟨x, ys, rfl, r, by simpa using h.1, fun i y hy => by simpa using h.2 (i + 1) y (by simpa using hy)⟩
theorem heads_dat : ∀ {vs : List Value} {hs : List (List Str)}, AllAt (PartsAt news) vs hs → DatAll news vs (hs.map datL)
  | [], hs, h => by
    have : hs = [] := List.eq_nil_of_length_eq_zero h.1.symm
    subst this; exact .nil
  | v :: vs, hs, h => by
    refine hideG fun zG zK => ?_
    obtain ⟨x, ys, rfl, ⟨a, us, n, rfl, hm, hu⟩, h'⟩ := h.cons_inv
    refine zK ?_
    clear zK zG
    exact .cons (.list hm hu.dat) (heads_dat h')
noncomputable def StrOk (q : List Str) : Prop := ∀ x ∈ q, PyData.strOk x = true
theorem ok_strs {q : List Str} (h : StrOk q) (n : Nat) : ∀ d ∈ q.map Dat.str, kqdOk n d = true := fun d hd => by
  refine hideG fun zG zK => ?_
  obtain ⟨x, hx, rfl⟩ := List.mem_map.mp hd
  refine zK ?_
  clear zK zG
  cases n <;> exact h x hx
theorem ok_list {q : List Str} (h : StrOk q) (n : Nat) : kqdOk (n + 1) (datL q) = true := by
  show (q.map Dat.str).all (kqdOk n) = true
  exact List.all_eq_true.mpr (ok_strs h n)
theorem datL_inj {p q : List Str} (h : datL p = datL q) : p = q := by
  unfold datL at h
  have := Dat.list.inj h
  exact List.map_inj_right (fun _ _ e => Dat.str.inj e) |>.mp this
theorem in_heads {A : Around} {QV : Value → Shared → Prop} {a b : Addr} {vs us : List Value} {n k : Nat} {hs : List (List Str)} {q : List Str} (N : News h₀ L s.heap news) (ma : (a, seqObj "list" vs n) ∈ news) (Da : AllAt (PartsAt news) vs hs) (mb : (b, seqObj "list" us k) ∈ news) (Db : Strs us q)
    (ha : ∀ x ∈ hs, StrOk x) (hb : StrOk q) (hu : A.units + 64 < cLine) (h : QV (.bool (decide (q ∈ hs))) s) : wpAny (model prog w) A (compareOp .In (.ref b) (.ref a)) QV E s := by
  refine kqd_isIn N ma rfl rfl (heads_dat Da) (fun _ hp => hp) (DatIn.list mb Db.dat) (fun _ hp => hp) (fun d hd => ?_) (ok_list hb 7) hu ?_
  · refine hideG fun zG zK => ?_
    obtain ⟨x, hx, rfl⟩ := List.mem_map.mp hd
    refine zK ?_
    clear zK zG
    exact ok_list (ha x hx) 7
  · have : (Dat.list (q.map Dat.str) ∈ hs.map datL) ↔ q ∈ hs := by
      constructor
      · intro hm
        obtain ⟨x, hx, e⟩ := List.mem_map.mp hm
        rw [← datL_inj e]; exact hx
      · intro hm
        exact List.mem_map.mpr ⟨q, hm, rfl⟩
    rw [decide_eq_decide.mpr this]; exact h
theorem ok_head {x y : Str} (h : StrOk [x, y]) : StrOk [x] := fun z hz => h z (by rw [List.mem_singleton.mp hz]; exact .head _)
theorem heads_sub {l l' : Led} {vs : List Value} {hs : List (List Str)} (h : AllAt (PartsAt l) vs hs) (hl : ∀ p ∈ l, p ∈ l') : AllAt (PartsAt l') vs hs := AllAt.sub h fun _ _ hx => PartsAt.sub hx hl
theorem readsAll_bools {h : Heap} : ∀ bs : List Bool, ReadsAll h (bs.map Value.bool) (bs.map PyData.bool) []
  | [] => .nil
  | b :: bs => .cons (.bool b) (readsAll_bools bs)
theorem lay_bools : ∀ bs : List Bool, PyData.canLayAll0 (bs.map PyData.bool) = true
  | [] => rfl
  | _ :: bs => lay_bools bs
theorem any_bools : ∀ bs : List Bool, ((bs.map PyData.bool).any fun y => PyData.eqv y (.bool true)) = bs.any id
  | [] => rfl
  | b :: bs => by
    rw [List.map_cons, List.any_cons, List.any_cons, any_bools bs]
    cases b <;> rfl
theorem in_bools {A : Around} {QV : Value → Shared → Prop} {l : Addr} {vs : List Value} {n : Nat} (bs : List Bool) (N : News h₀ L s.heap news) (hm : (l, seqObj "list" vs n) ∈ news) (hv : vs = bs.map Value.bool) (hu : A.units + 64 < cLine) (h : QV (.bool (bs.any id)) s) :
    wpAny (model prog w) A (compareOp .In (.bool true) (.ref l)) QV E s := by
  subst hv
  refine SeqAt.in_list_reads (reads_list_at (N.get hm) rfl rfl (readsAll_bools bs)) (.bool true) (lay_bools bs) rfl ?_ (by rw [any_bools]; exact h)
  have := Nat.min_le_right (PyData.depthAll (bs.map PyData.bool)) (PyData.bool true).depth
  have h2 : (PyData.bool true).depth = 0 := rfl
  omega
theorem words_out_1 : True := by
  k_with "compareOp In ref ref" => ((k_here; k_dflt (refine in_heads (by k_asm) (by k_mem) (by exact heads_sub (by assumption) (by k_extra "mine sub")) (by k_mem) (by first | assumption | exact Strs.mk1 _ _ | exact Strs.mk2 _ _ _ _) (by assumption) (by first | assumption | exact ok_head (by assumption)) (by k_extra "mine units") ?_)))
  k_with "eval ListComp" => (((with_reducible show wpAny _ _ (eval (Expr.ListComp _ _ _ _) _) _ _ _); refine stop_intro ?_))
  k_with "CompSrc" => ((refine stop_intro ?_))
  k_with "CompEnd" => ((refine stop_intro ?_))
  trivial
noncomputable def outP (ps : List Str) (hs : List (List Str)) : Bool := ((List.range ps.length).map fun k => decide (ps.take (k + 1) ∈ hs)).any id
theorem outS (B : Below A₀ base outer h₀) (F : Fr h₀ L s.heap m) (X : (K w.params).In h₀) (N : News h₀ L s.heap news) (T : Top p loose mean mg mb h₀) (hk : cs.kind = .function) (hdp : dp + 12 < recursionLimit) {pa ha : Addr} {vs us : List Value} {n1 n2 : Nat} {ps : List Str} {hs : List (List Str)} (hu : un + 100 < cLine) (mp : (pa, seqObj "list" vs n1) ∈ news) (hv : Strs vs ps) (mh : (ha, seqObj "list" us n2) ∈ news) (hh : AllAt (PartsAt news) us hs) (h1 : StrOk ps) (h2 : ∀ x ∈ hs, StrOk x) (hl : ps.length = 1 ∨ ps.length = 2)
    (ret : ∀ h' tk', Fr h₀ L h' m → News h₀ L h' news → Q (.bool (outP ps hs)) { s with heap := h', toks := tk' }) :
    wpAny (model prog w) (ktrTop dp un gd cn cs L a ccd cl outer) (call (.ref 248) [.ref pa, .ref ha]) Q E s := by
  refine wpAny_call ?_
  refine' code_defC (binds := [(Str.ofString "parts", .ref pa), (Str.ofString "heads", .ref ha)]) B F X N T rfl rfl hk ?k6 ?k7 ?k8 ?k9 ?kB ?kD ?_ ?c2 ?c3 ?c4
  (case k6 => k_is)
  (case k7 => k_is)
  (case k8 => ktr_room)
  (case k9 => exact BindsTo.of_eq rfl)
  (case kB => exact rfl)
  (case kD => decide +kernel)
  (case c2 => exact rfl)
  (case c3 => exact rfl)
  (case c4 => exact rfl)
  intro g' L' h' tk' cells' FG' F' N' Y' B' X' T' l1
  refine noE ?_
  refine hideQ fun _ _ => ?_
  (try k_lt l1)
  k_cells Y'
  (try simp only [List.cons_append, List.nil_append] at N')
  (try dsimp only)
  (try k_fold)
  rename_i oc2 oc1 _ _
  rcases hl with hl | hl
  · refine hideG fun zG zK => ?_
    obtain ⟨q1, rfl⟩ := len1 hl
    obtain ⟨u1, rfl⟩ := hv.one
    refine zK ?_
    clear zK zG
    k_steps
    refine Stop.of ?_
    refine LCg.ListComp_U (F₀ := by k_asm) (by with_unfolding_all rfl) (by decide) (by rfl) (by decide) (by rfl) ?_
    k_steps
    refine Stop.of ?_
    rename (IsRange _ _ _ _ _ _ _ _) => hr
    refine LCg.CompSrc.range (n := 1) (by rfl) (by k_asm) (by k_asm) hr (by decide) (by decide) (by decide) ?_
    intro g2
    k_steps
    refine Stop.of (comp_end ((L' + 1 + 1, oc2) :: (L' + 1, oc1) :: news) (by k_asm) (by k_asm) (by k_extra "mine sub") (by assumption) trivial ?_)
    k_steps
    refine' in_bools (vs := [.bool (decide ([q1] ∈ hs))]) [decide ([q1] ∈ hs)] ?N2 ?M2 rfl ?u2 ?_
    (case N2 => k_asm)
    (case M2 => k_mem)
    (case u2 => k_extra "mine units")
    k_steps
    rename_i kF kN _ _
    exact ret _ _ kF (News.sub kN (by k_extra "mine sub"))
  · refine hideG fun zG zK => ?_
    obtain ⟨q1, q2, rfl⟩ := len2 hl
    obtain ⟨u1, u2, rfl⟩ := hv.two
    refine zK ?_
    clear zK zG
    k_steps
    refine Stop.of ?_
    refine LCg.ListComp_U (F₀ := by k_asm) (by with_unfolding_all rfl) (by decide) (by rfl) (by decide) (by rfl) ?_
    k_steps
    refine Stop.of ?_
    rename (IsRange _ _ _ _ _ _ _ _) => hr
    refine LCg.CompSrc.range (n := 2) (by rfl) (by k_asm) (by k_asm) hr (by decide) (by decide) (by decide) ?_
    intro g2
    k_steps
    refine Stop.of (comp_end ((L' + 1 + 1, oc2) :: (L' + 1, oc1) :: news) (by k_asm) (by k_asm) (by k_extra "mine sub") (by assumption) trivial ?_)
    k_steps
    refine Stop.of (comp_end ((L' + 1 + 1, oc2) :: (L' + 1, oc1) :: news) (by k_asm) (by k_asm) (by k_extra "mine sub") (by assumption) trivial ?_)
    k_steps
    refine' in_bools (vs := [.bool (decide ([q1] ∈ hs)), .bool (decide ([q1, q2] ∈ hs))]) [decide ([q1] ∈ hs), decide ([q1, q2] ∈ hs)] ?N2 ?M2 rfl ?u2 ?_
    (case N2 => k_asm)
    (case M2 => k_mem)
    (case u2 => k_extra "mine units")
    k_steps
    rename_i kF kN _ _
    exact ret _ _ kF (News.sub kN (by k_extra "mine sub"))

end
end
section
open PySem PySem.W PyProof.Rows PySem.Calls PySem.Spec
theorem words_Ign : True := by
  k_with_none
  k_with "mine room" => ((try simp only [depth_under_make, depth_under_kw, depth_in1, depth_deeper, depth_caller]); (try dsimp only [ktrTop]); omega)
  k_with "mine all" => (first | (with_reducible assumption) | (with_reducible exact allLt_of (by assumption)) | (refine And.intro ?_ ?_; (first | assumption | ((try dsimp only at *); omega)); k_extra "mine all") | (exact allLt_up (by assumption) (by omega)) | (refine allLt_set ?_; k_extra "mine all") | fail)
  k_with "mine lt" => (first | assumption | (refine lt_allLt ?_; k_extra "mine all") | fail)
  k_with "mine ok" => (first | assumption | (refine Ok.setAt ?_ _ _; k_extra "mine ok") | (refine Ok.cons ?_ ?_; (k_extra "mine ok"); (k_extra "mine lt")) | fail)
  k_with "mine ne" => ((try dsimp only); first | assumption | (refine Ne.symm ?_; assumption) | (refine neN ?_; omega) | (apply ne_z1; (case q9m => assumption); (case q9h => k_extra "mine all")) | (apply ne_z2; (case q9m => assumption); (case q9h => k_extra "mine all")) | fail)
  k_with "mine nes" => (first | assumption | exact List.forall_mem_nil _ | (refine List.forall_mem_cons.mpr ⟨?_, ?_⟩; (k_extra "mine ne"); (k_extra "mine nes")) | (refine nes_set ?_; k_extra "mine nes") | (refine nes_lt ?_; k_extra "mine all") | fail)
  k_with "mine mem" => (first | (with_reducible assumption) | ktr_member | (with_reducible exact List.mem_cons_self) | (with_reducible apply mset_z; k_mem) | (with_reducible apply mset_ne_z; (case q9n => k_extra "mine ne"); (case q9x => k_mem)) | (with_reducible refine List.mem_cons_of_mem _ ?_; k_mem) | fail)
  k_with "mine upd" => (first | (with_reducible refine Upd.head ?_; k_extra "mine nes") | (with_reducible apply upd_tail; (case q9ne => k_extra "mine ne"); (case q9u => k_upd)) | (apply upd_z; (case q9k => k_extra "mine ok"); (case q9m => k_mem)) | fail)
  k_with "mine updF" => (first | (with_reducible refine UpdF.head ?_; k_extra "mine nes") | (with_reducible apply updF_tail; (case q9ne => k_extra "mine ne"); (case q9u => k_updF)) | (apply updF_z; (case q9k => k_extra "mine ok"); (case q9m => k_mem)) | fail)
  k_with "mine sub" => (first | exact (fun p hp => hp) | exact (fun p hp => List.mem_cons_of_mem _ hp) | exact (fun p hp => List.mem_cons_of_mem _ (List.mem_cons_of_mem _ hp)) | exact (fun p hp => List.mem_cons_of_mem _ (List.mem_cons_of_mem _ (List.mem_cons_of_mem _ hp))) | (refine List.forall_mem_cons.mpr ⟨?_, ?_⟩; k_mem; k_extra "mine sub") | (intro p hp; (repeat (first | exact hp | refine List.mem_cons_of_mem _ ?_))) | fail)
  k_with "mine units" => ((try simp only [units_in1, units_deeper]); (try dsimp only [ktrTop]); omega)
  k_with "mine leave" => (with_reducible apply HQ.use_z; (case q9h => with_reducible assumption))
  k_with "setItem ref str" => ((k_here; (with_reducible show wpAny _ _ (setItem (Value.ref _) (Value.str _ _) _) _ _ _); k_dflt (refine kda_set (knd := PySem.strKind _ _) (by k_asm) (by k_asm) (by k_updF) (by assumption) (strKind_is _ _ _ _) (by first | omega | (rw [sizeLine_eq]; omega)) ?_); intro _ _ _ N'zz; (try dsimp only at N'zz); revert N'zz; intro _ _; (try k_fold)))
  k_with "subscriptTail" => ((k_here; (with_reducible show wpAny _ _ (subscriptTail _ _ (Value.ref _) (Value.str _ _)) _ _ _); k_dflt (refine kda_item (knd := PySem.strKind _ _) (by k_asm) (by k_mem) (by assumption) (strKind_is _ _ _ _) (by assumption) ?_)))
  k_with "execs cons" => (k_here; (with_reducible refine NextQ.cons ?_); (try dsimp only); (try (with_reducible refine anyTk fun _ => ?_)))
  k_with "NextQ" => (with_reducible first | refine NextQ.nx ?_ | refine NextQ.rt ?_ | refine NextQ.bk ?_ | refine NextQ.ct ?_ | fail)
  trivial
section
variable {prog : Program} {w : World} {p : Program} {loose : List Str} {mean : ExcName → Option Value} {mg mb : Str → Option Value} {dp un : Nat} {gd : Option (List Code)} {cn : Str} {cs : Scope} {a : Addr} {ccd : Value} {cl : List (Str × Addr)} {outer : List Env} {A₀ : Around} {base h₀ : Heap} {L : Addr} {m : Str → Option Value} {news : Led} {s : Shared} {Q E : Value → Shared → Prop}
structure Ig where
  self : Addr
  ds : Addr
  set : Addr
  dirs : Addr
  ign : Addr
structure IgAt (prog : Program) (w : World) (nl : Led) (R : Ig) (ms ds : List Str) (kvs : List (Str × Value)) : Prop where
  ok : Ok nl
  inst : (R.self, instObj 100 R.ds) ∈ nl
  dict : ∃ e1 e2 e3 t1 t2 t3, (R.ds, dictOf [⟨e1, .str (Str.ofString "_mods") t1, .ref R.set⟩, ⟨e2, .str (Str.ofString "_dirs") t2, .ref R.dirs⟩, ⟨e3, .str (Str.ofString "_ignore") t3, .ref R.ign⟩] 3) ∈ nl
  set : ∃ so, (R.set, so) ∈ nl ∧ StrSet prog w so ms
  dirs : ∃ vs n, (R.dirs, seqObj "list" vs n) ∈ nl ∧ Strs vs ds
  ign : ∃ go, (R.ign, go) ∈ nl ∧ go.IsDictOf (PySem.strKind prog w) kvs
  lo : (R.ign == sysModules) = false
  ne : R.ds ≠ R.ign
theorem ok_app {l l' : Led} (h : Ok l) (h' : Ok l') (hd : ∀ p ∈ l, ∀ q ∈ l', q.1 ≠ p.1) : Ok (l ++ l') := by
  unfold Ok
  rw [List.map_append, List.nodup_append]
  refine ⟨h, h', fun a ha b hb e => ?_⟩
  refine hideG fun zG zK => ?_
  obtain ⟨p, hp, rfl⟩ := List.mem_map.mp ha
  obtain ⟨q, hq, rfl⟩ := List.mem_map.mp hb
  refine zK ?_
  clear zK zG
  exact hd p hp q hq e.symm
noncomputable def Starts (x y : Str) : Bool := Txt.startswith x y
noncomputable def ignV (ms ds : List Str) (path nm : Str) : Bool := decide (nm ∈ ms) || ms.any (fun y => Starts nm (y ++ Str.ofString ".")) || ds.any (fun d => Starts path (d ++ Str.ofString "/"))
theorem words_ign_1 : True := by
  k_with "ite" => (first | (with_reducible refine ite_yes (by with_reducible assumption) ?_) | (with_reducible refine ite_no (by with_reducible assumption) ?_))
  k_with "exec For" => (((with_reducible show wpAny _ _ (exec (Stmt.For _ _ _ _ _) _) _ _ _); refine stop_intro ?_))
  k_with "compareOp" => ((k_here; (with_reducible show wpAny _ _ (compareOp CmpOp.In (Value.str _ _) (Value.ref _)) _ _ _); k_dflt (refine kse_in (knd := PySem.strKind _ _) (by k_asm) (by k_updF) (by assumption) (by (have : scanBound = 4096 := rfl; omega)) (strKind_is _ _ _ _) (by rfl) ?_)))
  k_with "compareOp" => ((k_here; (with_reducible show wpAny _ _ (compareOp CmpOp.In (Value.str _ _) (Value.ref _)) _ _ _); k_dflt (refine kda_in (knd := PySem.strKind _ _) (by k_asm) (by k_mem) (by assumption) (by assumption) (strKind_is _ _ _ _) _ (by assumption) ?_)))
  k_with "call builtin:str.startswith" => ((k_here; (with_reducible show wpAny _ _ (call (Value.builtin "str.startswith") [Value.str _ _, Value.str _ _]) _ _ _); (refine SC.startswith ?_)))
  k_with "binaryOp Add str str" => ((k_here; (with_reducible show wpAny _ _ (binaryOp Operator.Add (Value.str _ _) (Value.str _ _)) _ _ _); k_dflt (refine my_add (by omega) ?_); intro _ _ _))
  trivial
theorem IgAt.put {nl : Led} {R : Ig} {ms ds : List Str} {kvs kvs' : List (Str × Value)} {go : Obj} (H : IgAt prog w nl R ms ds kvs) (hg : go.IsDictOf (PySem.strKind prog w) kvs') : IgAt prog w (setAt nl R.ign go) R ms ds kvs' := by
  refine hideG fun zG zK => ?_
  obtain ⟨g0, mG, _⟩ := H.ign
  obtain ⟨e1, e2, e3, t1, t2, t3, mD⟩ := H.dict
  obtain ⟨so, mS, hS⟩ := H.set
  obtain ⟨dvs, nd, mL, hL⟩ := H.dirs
  refine zK ?_
  clear zK zG
  have nd1 : ∀ {b : Addr} {o : Obj}, (b, o) ∈ nl → o.cls ≠ .type "dict" → b ≠ R.ign := fun hb hn e => by
    subst e
    have := H.ok.same hb mG
    rw [this] at hn
    exact hn (isDict_cls ‹_›)
  refine ⟨H.ok.setAt _ _, mem_set_ne (nd1 H.inst (by show Value.ref 100 ≠ _; intro e; cases e)) H.inst, ⟨e1, e2, e3, t1, t2, t3, mem_set_ne H.ne mD⟩, ⟨so, mem_set_ne (nd1 mS ?_) mS, hS⟩, ⟨dvs, nd, mem_set_ne (nd1 mL (by show Value.type "list" ≠ _; decide)) mL, hL⟩, ⟨go, mem_set_self mG, hg⟩, H.lo, H.ne⟩
  refine hideG fun zG zK => ?_
  obtain ⟨es, ep, t, S⟩ := hS
  refine zK ?_
  clear zK zG
  rw [S.ex.1]; decide
theorem IgAt.sub {nl nl' : Led} {R : Ig} {ms ds : List Str} {kvs : List (Str × Value)} (H : IgAt prog w nl R ms ds kvs) (ok : Ok nl') (hs : ∀ p ∈ nl, p ∈ nl') : IgAt prog w nl' R ms ds kvs := by
  refine hideG fun zG zK => ?_
  obtain ⟨g0, mG, hG⟩ := H.ign
  obtain ⟨e1, e2, e3, t1, t2, t3, mD⟩ := H.dict
  obtain ⟨so, mS, hS⟩ := H.set
  obtain ⟨dvs, nd, mL, hL⟩ := H.dirs
  refine zK ?_
  clear zK zG
  exact ⟨ok, hs _ H.inst, ⟨e1, e2, e3, t1, t2, t3, hs _ mD⟩, ⟨so, hs _ mS, hS⟩, ⟨dvs, nd, hs _ mL, hL⟩, ⟨g0, hs _ mG, hG⟩, H.lo, H.ne⟩
theorem namesS (B : Below A₀ base outer h₀) (F : Fr h₀ L s.heap m) (X : (K w.params).In h₀) (N : News h₀ L s.heap news) (T : Top p loose mean mg mb h₀) (hk : cs.kind = .function) (hdp : dp + 16 < recursionLimit) {R : Ig} {ms ds : List Str} {kvs : List (Str × Value)} {path nm : Str} {tp tn : Tok} (H : IgAt prog w news R ms ds kvs) (hm : ms.length < 1000) (hk1 : kvs.length < 1000) (hp : path.length ≤ 1000) (hn : nm.length ≤ 1000) (hms : ∀ y ∈ ms, y.length ≤ 100) (hds : ∀ y ∈ ds, y.length ≤ 100) (hdl : ds.length < 1000)
    (hkv : ∀ v, valueAt kvs nm = some v → ∃ k t, v = .int k t)
    (hold : ∀ v h' tk', valueAt kvs nm = some v → Fr h₀ L h' m → News h₀ L h' news → Q v { s with heap := h', toks := tk' })
    (ret : valueAt kvs nm = none → ∀ t u h' tk' dr news', Fr h₀ L h' m → News h₀ L h' news' → IgAt prog w news' R ms ds (stored kvs nm (.int (if ignV ms ds path nm then 1 else 0) u)) → (∀ p ∈ news, p.1 ≠ R.ign → p ∈ news') → Q (.int (if ignV ms ds path nm then 1 else 0) t) { s with heap := h', toks := tk', drawn := dr }) :
    wpAny (model prog w) (ktrTop dp un gd cn cs L a ccd cl outer) (call (.ref 97) [.ref R.self, .str path tp, .str nm tn]) Q E s := by
  refine hideG fun zG zK => ?_
  obtain ⟨e1, e2, e3, t1, t2, t3, mD⟩ := H.dict
  obtain ⟨so, mS, hS⟩ := H.set
  obtain ⟨dvs, nd, mL, hL⟩ := H.dirs
  obtain ⟨go, mG, hG⟩ := H.ign
  refine zK ?_
  clear zK zG
  have mI := H.inst
  have ok := H.ok
  have hSo := hS.obj
  have lo := H.lo
  have l1 : (Str.ofString "/").length = 1 := by decide +kernel
  have l2 : (Str.ofString ".").length = 1 := by decide +kernel
  refine wpAny_call ?_
  refine' code_def (binds := [(Str.ofString "self", .ref R.self), (Str.ofString "filename", .str path tp), (Str.ofString "modulename", .str nm tn)]) B F X N T rfl rfl hk ?k6 ?k7 ?k8 ?k9 ?kB ?_ ?c2 ?c3 ?c4 ?c5
  (case k6 => k_is)
  (case k7 => k_is)
  (case k8 => ktr_room)
  (case k9 => exact BindsTo.of_eq rfl)
  (case c5 => decide)
  (case kB => exact locs rfl)
  (case c2 => exact rfl)
  (case c3 => exact rfl)
  (case c4 => exact rfl)
  intro g' L' h' FG' F' N' B' X' T'
  refine noE ?_
  refine hideQ fun _ _ => ?_
  cases hv : valueAt kvs nm with
  | some v =>
    have hvs : (valueAt kvs nm).isSome = true := by rw [hv]; rfl
    k_steps
    rename (Fr h₀ L _ m) => kF
    rename (News h₀ L _ _) => kN
    exact hold v _ _ hv kF kN
  | none =>
    have hvs : (valueAt kvs nm).isSome = false := by rw [hv]; rfl
    by_cases h1 : nm ∈ ms
    · have kb : decide (nm ∈ ms) = true := decide_eq_true h1
      k_steps
      rename (Fr h₀ L _ m) => kF
      rename (News h₀ L _ _) => kN
      rename (Obj.IsDictOf _ _ (stored _ _ _)) => hD
      have e : ignV ms ds path nm = true := by unfold ignV; rw [kb]; rfl
      rw [e] at ret
      exact ret hv _ _ _ _ _ _ kF kN (H.put hD) fun p hp hne => mem_set_ne hne hp
    have kb : decide (nm ∈ ms) = false := decide_eq_false h1
    k_steps
    rename (Fr g' L' _ _) => F3
    rename (News g' L' _ _) => N3
    refine iter_set (fun pre m₁ nl => All6 ((∀ y ∈ pre, Starts nm (y ++ Str.ofString ".") = false)) ((∀ p ∈ news, p ∈ nl)) (Ok nl) (m₁ (Str.ofString "self") = some (.ref R.self)) (m₁ (Str.ofString "filename") = some (.str path tp)) (m₁ (Str.ofString "modulename") = some (.str nm tn))) rfl F3 N3 mS hS hm ?j ?turn ?done
    case j => exact fun l okl hd => ⟨(fun y hy => nomatch hy), (fun p hp => List.mem_append_right _ hp), ok_app okl ok hd, rfl, rfl, rfl⟩
    case turn =>
      clear F3 N3
      intro pre y ty m₁ nl _ I io kl hy zr1 hkl hkl2 hnI zr2 F5 N5
      refine hideG fun zG zK => ?_
      obtain ⟨hpre, hsub, ok1, w1, w2, w3⟩ := zr1
      obtain ⟨h5, tk5, d5, rfl⟩ := zr2
      have F6 := know (know (know F5 (y := Str.ofString "self") w1) (y := Str.ofString "filename") w2) (y := Str.ofString "modulename") w3
      clear F5
      have hy1 := hms y hy
      have H1 := H.sub ok1 hsub
      obtain ⟨go1, mG1, hG1⟩ := H1.ign
      have mI1 := H1.inst
      obtain ⟨f1, f2, f3, u1, u2, u3, mD1⟩ := H1.dict
      refine zK ?_
      clear zK zG
      have ok2 : Ok ((I, io) :: nl) := Ok.cons_ne ok1 hnI
      generalize hnl : (I, io) :: nl = nl2 at *
      have sub2 : ∀ p ∈ nl, p ∈ nl2 := by rw [← hnl]; exact fun p hp => .tail _ hp
      have mI2 := sub2 _ mI1
      have mD2 := sub2 _ mD1
      have mG2 := sub2 _ mG1
      refine hideQ fun _ _ => ?_
      by_cases hst : Starts nm (y ++ Str.ofString ".") = true
      · have kst : Txt.startswith nm (y ++ Str.ofString ".") = true := hst
        k_steps
        (try unfold TurnPostK)
        (try dsimp only)
        k_steps
        rename (Obj.IsDictOf _ _ (stored _ _ _)) => hD
        have e : ignV ms ds path nm = true := by
          unfold ignV
          have : ms.any (fun y => Starts nm (y ++ Str.ofString ".")) = true := List.any_eq_true.mpr ⟨y, hy, hst⟩
          rw [this]; simp
        rw [e] at ret
        refine' ret hv _ _ _ _ _ _ ?F ?N ((H1.sub ok2 sub2).put hD) fun p hp hne => mem_set_ne hne (sub2 p (hsub p hp))
        (case F => k_asm)
        (case N => k_asm)
      have kst : Txt.startswith nm (y ++ Str.ofString ".") = false := by simpa [Starts] using hst
      k_steps
      rename (Fr g' _ _ _) => F7
      rename (News g' _ _ _) => N7
      refine ⟨_, _, _, nl, rfl, F7, hnl ▸ N7, hkl2, hnI, fun z hz => ?_, hsub, ok1, rfl, rfl, rfl⟩
      rcases List.mem_append.mp hz with hz | hz
      · exact hpre z hz
      · rw [List.mem_singleton.mp hz]; exact kst
    case done =>
      clear F3 N3
      intro pre m₁ nl h5 tk5 d5 hall zr3 hset F5 N5
      refine hideG fun zG zK => ?_
      obtain ⟨hpre, hsub, ok1, w1, w2, w3⟩ := zr3
      have F6 := know (know (know F5 (y := Str.ofString "self") w1) (y := Str.ofString "filename") w2) (y := Str.ofString "modulename") w3
      clear F5
      have H1 := H.sub ok1 hsub
      obtain ⟨go1, mG1, hG1⟩ := H1.ign
      have mI1 := H1.inst
      obtain ⟨f1, f2, f3, u1, u2, u3, mD1⟩ := H1.dict
      refine zK ?_
      clear zK zG
      have mL1 := hsub _ mL
      have hno : ms.any (fun y => Starts nm (y ++ Str.ofString ".")) = false := List.any_eq_false.mpr fun y hy => by rw [hpre y (hall y hy)]; exact Bool.false_ne_true
      k_steps
      rename (Fr g' _ _ _) => F3
      rename (News g' _ _ _) => N3
      refine iter_list (fun i m₁ nl' => All5 (nl' = nl) ((∀ d ∈ ds.take i, Starts path (d ++ Str.ofString "/") = false)) (m₁ (Str.ofString "self") = some (.ref R.self)) (m₁ (Str.ofString "filename") = some (.str path tp)) (m₁ (Str.ofString "modulename") = some (.str nm tn))) rfl F3 N3 mL1 ?j2 ?turn2 ?done2
      case j2 => exact ⟨rfl, (fun d hd => by simp at hd), rfl, rfl, rfl⟩
      case turn2 =>
        clear F3 N3
        intro i v m₂ nl' h6 tk6 I io hvi zr4 hl6 hnI F5 N5
        refine hideG fun zG zK => ?_
        obtain ⟨e6, hpre2, w1, w2, w3⟩ := zr4
        obtain rfl : nl = nl' := e6.symm
        obtain ⟨d, td, hdi, rfl⟩ := hL.at hvi
        refine zK ?_
        clear zK zG
        have hd1 := hds d (List.mem_of_getElem? hdi)
        have F6 := know (know (know F5 (y := Str.ofString "self") w1) (y := Str.ofString "filename") w2) (y := Str.ofString "modulename") w3
        clear F5
        have ok2 : Ok ((I, io) :: nl) := Ok.cons_ne ok1 hnI
        generalize hnl : (I, io) :: nl = nl2 at *
        have sub2 : ∀ p ∈ nl, p ∈ nl2 := by rw [← hnl]; exact fun p hp => .tail _ hp
        have mI2 := sub2 _ mI1
        have mD2 := sub2 _ mD1
        have mG2 := sub2 _ mG1
        refine hideQ fun _ _ => ?_
        by_cases hst : Starts path (d ++ Str.ofString "/") = true
        · have kst : Txt.startswith path (d ++ Str.ofString "/") = true := hst
          k_steps
          (try unfold TurnPost)
          (try dsimp only)
          k_steps
          rename (Obj.IsDictOf _ _ (stored _ _ _)) => hD
          have e : ignV ms ds path nm = true := by
            unfold ignV
            have : ds.any (fun y => Starts path (y ++ Str.ofString "/")) = true := List.any_eq_true.mpr ⟨d, List.mem_of_getElem? hdi, hst⟩
            rw [this]; simp
          rw [e] at ret
          refine' ret hv _ _ _ _ _ _ ?Fb ?Nb ((H1.sub ok2 sub2).put hD) fun p hp hne => mem_set_ne hne (sub2 p (hsub p hp))
          (case Fb => k_asm)
          (case Nb => k_asm)
        have kst : Txt.startswith path (d ++ Str.ofString "/") = false := by simpa [Starts] using hst
        k_steps
        rename (Fr g' _ _ _) => F7
        rename (News g' _ _ _) => N7
        refine turn_next F7 (hnl ▸ N7) (.head _) (.tail _ hl6) (hnI _ hl6) ?_
        rw [dropI_head hnI]
        refine ⟨rfl, fun z hz => ?_, rfl, rfl, rfl⟩
        rw [List.take_add_one, hdi, Option.toList_some] at hz
        rcases List.mem_append.mp hz with hz | hz
        · exact hpre2 z hz
        · rw [List.mem_singleton.mp hz]; exact kst
      case done2 =>
        clear F3 N3
        intro m₂ nl' h6 tk6 zr5 hl6 F5 N5
        refine hideG fun zG zK => ?_
        obtain ⟨e6, hpre2, w1, w2, w3⟩ := zr5
        obtain rfl : nl = nl' := e6.symm
        refine zK ?_
        clear zK zG
        have F6 := know (know (know F5 (y := Str.ofString "self") w1) (y := Str.ofString "filename") w2) (y := Str.ofString "modulename") w3
        clear F5
        k_steps
        rename_i kF kN _ _
        rename (Obj.IsDictOf _ _ (stored _ _ _)) => hD
        have e : ignV ms ds path nm = false := by
          unfold ignV
          have : ds.any (fun y => Starts path (y ++ Str.ofString "/")) = false := List.any_eq_false.mpr fun d hd => by
            rw [hL.1, List.take_length] at hpre2
            rw [hpre2 d hd]; exact Bool.false_ne_true
          rw [this, hno, kb]; rfl
        rw [e] at ret
        exact ret hv _ _ _ _ _ _ kF kN (H1.put hD) fun p hp hne => mem_set_ne hne (hsub p hp)

end
end
section
open PySem PySem.W PyProof.Rows PySem.Calls PySem.Spec
theorem words_All : True := by
  k_with_none
  k_with "mine room" => ((try simp only [depth_under_make, depth_under_kw, depth_in1, depth_deeper, depth_caller]); (try dsimp only [ktrTop]); omega)
  k_with "mine all" => (first | (with_reducible assumption) | (with_reducible exact allLt_of (by assumption)) | (refine And.intro ?_ ?_; (first | assumption | ((try dsimp only at *); omega)); k_extra "mine all") | (exact allLt_up (by assumption) (by omega)) | (refine allLt_set ?_; k_extra "mine all") | fail)
  k_with "mine lt" => (first | assumption | (refine lt_allLt ?_; k_extra "mine all") | fail)
  k_with "mine ok" => (first | assumption | (refine Ok.setAt ?_ _ _; k_extra "mine ok") | (refine Ok.cons ?_ ?_; (k_extra "mine ok"); (k_extra "mine lt")) | fail)
  k_with "mine ne" => ((try dsimp only); first | assumption | (refine Ne.symm ?_; assumption) | (refine neN ?_; omega) | (apply ne_z1; (case q9m => assumption); (case q9h => k_extra "mine all")) | (apply ne_z2; (case q9m => assumption); (case q9h => k_extra "mine all")) | fail)
  k_with "mine nes" => (first | assumption | exact List.forall_mem_nil _ | (refine List.forall_mem_cons.mpr ⟨?_, ?_⟩; (k_extra "mine ne"); (k_extra "mine nes")) | (refine nes_set ?_; k_extra "mine nes") | (refine nes_lt ?_; k_extra "mine all") | fail)
  k_with "mine mem" => (first | (with_reducible assumption) | ktr_member | (with_reducible exact List.mem_cons_self) | (with_reducible apply mset_z; k_mem) | (with_reducible apply mset_ne_z; (case q9n => k_extra "mine ne"); (case q9x => k_mem)) | (with_reducible refine List.mem_cons_of_mem _ ?_; k_mem) | fail)
  k_with "mine upd" => (first | (with_reducible refine Upd.head ?_; k_extra "mine nes") | (with_reducible apply upd_tail; (case q9ne => k_extra "mine ne"); (case q9u => k_upd)) | (apply upd_z; (case q9k => k_extra "mine ok"); (case q9m => k_mem)) | fail)
  k_with "mine updF" => (first | (with_reducible refine UpdF.head ?_; k_extra "mine nes") | (with_reducible apply updF_tail; (case q9ne => k_extra "mine ne"); (case q9u => k_updF)) | (apply updF_z; (case q9k => k_extra "mine ok"); (case q9m => k_mem)) | fail)
  k_with "mine sub" => (first | exact (fun p hp => hp) | exact (fun p hp => List.mem_cons_of_mem _ hp) | exact (fun p hp => List.mem_cons_of_mem _ (List.mem_cons_of_mem _ hp)) | exact (fun p hp => List.mem_cons_of_mem _ (List.mem_cons_of_mem _ (List.mem_cons_of_mem _ hp))) | (refine List.forall_mem_cons.mpr ⟨?_, ?_⟩; k_mem; k_extra "mine sub") | (intro p hp; (repeat (first | exact hp | refine List.mem_cons_of_mem _ ?_))) | fail)
  k_with "mine units" => ((try simp only [units_in1, units_deeper]); (try dsimp only [ktrTop]); omega)
  k_with "mine leave" => (with_reducible apply HQ.use_z; (case q9h => with_reducible assumption))
  trivial
section
variable {prog : Program} {w : World} {p : Program} {loose : List Str} {mean : ExcName → Option Value} {mg mb : Str → Option Value} {dp un : Nat} {gd : Option (List Code)} {cn : Str} {cs : Scope} {a : Addr} {ccd : Value} {cl : List (Str × Addr)} {outer : List Env} {A₀ : Around} {base h₀ : Heap} {L : Addr} {m : Str → Option Value} {news : Led} {s : Shared} {Q E : Value → Shared → Prop}
noncomputable abbrev Memo := List (Str × Int)
noncomputable def Memo.get (fs : Memo) (n : Str) : Option Int := (fs.find? fun p => decide (p.1 = n)).map (·.2)
noncomputable def KI : List (Str × Value) → Memo → Prop
  | [], [] => True
  | (n, v) :: r, (n', q) :: r' => n = n' ∧ (∃ t, v = Value.int q t) ∧ KI r r'
  | _, _ => False
theorem KI.none {n : Str} : ∀ {kvs : List (Str × Value)} {fs : Memo}, KI kvs fs → fs.get n = none → valueAt kvs n = none
  | [], [], _, _ => rfl
  | (a, v) :: r, (b, q) :: r', ⟨e, _, h⟩, hn => by
    subst e
    unfold Memo.get at hn
    unfold valueAt
    rw [List.find?_cons] at hn ⊢
    by_cases q : a = n
    · simp [q] at hn
    · simp only [q, decide_false] at hn ⊢
      exact KI.none h hn
theorem KI.some {n : Str} {x : Int} : ∀ {kvs : List (Str × Value)} {fs : Memo}, KI kvs fs → fs.get n = some x → ∃ t, valueAt kvs n = some (.int x t)
  | [], [], _, hn => by cases hn
  | (a, v) :: r, (b, q) :: r', ⟨e, ⟨t, ht⟩, h⟩, hn => by
    subst e
    unfold Memo.get at hn
    unfold valueAt
    rw [List.find?_cons] at hn ⊢
    by_cases q : a = n
    · simp [q] at hn ⊢
      subst hn
      exact ⟨t, ht⟩
    · simp only [q, decide_false] at hn ⊢
      exact KI.some h hn
theorem KI.push {n : Str} {x : Int} {t : Tok} : ∀ {kvs : List (Str × Value)} {fs : Memo}, KI kvs fs → KI (kvs ++ [(n, .int x t)]) (fs ++ [(n, x)])
  | [], [], _ => ⟨rfl, ⟨t, rfl⟩, trivial⟩
  | (a, v) :: r, (b, q) :: r', ⟨e, ht, h⟩ => ⟨e, ht, h.push⟩
theorem KI.len : ∀ {kvs : List (Str × Value)} {fs : Memo}, KI kvs fs → kvs.length = fs.length
  | [], [], _ => rfl
  | (a, v) :: r, (b, q) :: r', ⟨_, _, h⟩ => by rw [List.length_cons, List.length_cons, h.len]
noncomputable def b2 (b : Bool) : Int := if b then 1 else 0
noncomputable def ask1 (ms ds : List Str) (st : Memo × List Int) (p : Str × Str) : Memo × List Int := match st.1.get p.2 with
  | some n => (st.1, st.2 ++ [n])
  | none => (st.1 ++ [(p.2, b2 (ignV ms ds p.1 p.2))], st.2 ++ [b2 (ignV ms ds p.1 p.2)])
theorem ask1_len (ms ds : List Str) (st : Memo × List Int) (p : Str × Str) : (ask1 ms ds st p).1.length ≤ st.1.length + 1 := by
  unfold ask1
  split
  · exact Nat.le_succ _
  · simp
theorem asks_len (ms ds : List Str) : ∀ (ps : List (Str × Str)) (st : Memo × List Int), (ps.foldl (ask1 ms ds) st).1.length ≤ st.1.length + ps.length
  | [], _ => Nat.le_refl _
  | p :: ps, st => by
    have h1 := asks_len ms ds ps (ask1 ms ds st p)
    have h2 := ask1_len ms ds st p
    rw [List.foldl_cons, List.length_cons]
    omega
noncomputable def PairAt (nl : Led) (v : Value) (p : Str × Str) : Prop := ∃ t t1 t2 n, v = .ref t ∧ (t, seqObj "tuple" [.str p.1 t1, .str p.2 t2] n) ∈ nl
theorem PairAt.sub {nl nl' : Led} {v : Value} {p : Str × Str} (h : PairAt nl v p) (hs : ∀ q ∈ nl, q ∈ nl') : PairAt nl' v p := by
  refine hideG fun zG zK => ?_
  obtain ⟨t, t1, t2, n, e, hm⟩ := h
  refine zK ?_
  clear zK zG
  exact ⟨t, t1, t2, n, e, hs _ hm⟩
noncomputable def IsInt (v : Value) (k : Int) : Prop := ∃ t, v = .int k t
/-- what the reader leaves alone -/
noncomputable def Kept (R : Ig) (nl nl' : Led) : Prop := ∀ p ∈ nl, p.1 ≠ R.ign → p ∈ nl'
theorem IgAt.tuple_ne {nl : Led} {R : Ig} {ms ds : List Str} {kvs : List (Str × Value)} (H : IgAt prog w nl R ms ds kvs) {b : Addr} {o : Obj} (hb : (b, o) ∈ nl) (hn : o.cls ≠ .type "dict") : b ≠ R.ign := fun e => by
  subst e
  obtain ⟨g0, mG, hg⟩ := H.ign
  have := H.ok.same hb mG
  rw [this] at hn
  exact hn (isDict_cls hg)
theorem words_all_1 : True := by
  k_with "call ref" => (((with_reducible show wpAny _ _ (call (Value.ref 97) _) _ _ _); refine stop_intro ?_))
  k_with "eval ListComp" => (((with_reducible show wpAny _ _ (eval (Expr.ListComp _ _ _ _) _) _ _ _); refine stop_intro ?_))
  trivial
theorem allS (B : Below A₀ base outer h₀) (F : Fr h₀ L s.heap m) (X : (K w.params).In h₀) (N : News h₀ L s.heap news) (T : Top p loose mean mg mb h₀) (hk : cs.kind = .function) (hdp : dp + 30 < recursionLimit) {R : Ig} {ms ds : List Str} {kvs : List (Str × Value)} {mem : Memo} {al : Addr} {its : List Value} {k0 : Nat} {ps : List (Str × Str)} (H : IgAt prog w news R ms ds kvs) (hK : KI kvs mem) (hm : ms.length < 1000) (hmem : mem.length ≤ 100) (hms : ∀ y ∈ ms, y.length ≤ 100) (hds : ∀ y ∈ ds, y.length ≤ 100) (hdl : ds.length < 1000)
    (ma : (al, seqObj "list" its k0) ∈ news) (hits : AllAt (PairAt news) its ps) (hpl : ps.length ≤ 100) (hpb : ∀ p ∈ ps, p.1.length ≤ 1000 ∧ p.2.length ≤ 1000)
    (ret : ∀ D ys h' tk' dr news', Fr h₀ L h' m → News h₀ L h' ((D, LCg.lst ys) :: news') → AllAt IsInt ys (ps.foldl (ask1 ms ds) (mem, [])).2 → Kept R news news' → (∀ p ∈ news, p.1 ≠ D) → Q (.ref D) { s with heap := h', toks := tk', drawn := dr }) :
    wpAny (model prog w) (ktrTop dp un gd cn cs L a ccd cl outer) (call (.ref 267) [.ref R.self, .ref al]) Q E s := by
  refine wpAny_call ?_
  refine' code_defC (binds := [(Str.ofString "reader", .ref R.self), (Str.ofString "asks", .ref al)]) B F X N T rfl rfl hk ?k6 ?k7 ?k8 ?k9 ?kB ?kD ?_ ?c2 ?c3 ?c4
  (case k6 => k_is)
  (case k7 => k_is)
  (case k8 => ktr_room)
  (case k9 => exact BindsTo.of_eq rfl)
  (case kB => exact rfl)
  (case kD => decide +kernel)
  (case c2 => exact rfl)
  (case c3 => exact rfl)
  (case c4 => exact rfl)
  intro g' L' h' tk' cells' FG' F' N' Y' B' X' T' l1
  refine noE ?_
  refine hideQ fun _ _ => ?_
  (try k_lt l1)
  k_cells Y'
  (try simp only [List.cons_append, List.nil_append] at N')
  (try dsimp only)
  (try k_fold)
  k_steps
  refine Stop.of ?_
  rename_i oc hoc
  have okc : Ok ((L' + 1, oc) :: news) := Ok.cons_ne H.ok fun p hp => Nat.ne_of_lt (Nat.lt_succ_of_lt (l1 p hp))
  have subc : ∀ p ∈ news, p ∈ (L' + 1, oc) :: news := fun p hp => .tail _ hp
  obtain ⟨mm, Fm, hma⟩ : ∃ mm, Fr g' L' h' mm ∧ mm (Str.ofString "asks") = some (.ref al) := ⟨_, F', rfl⟩
  have hoc' : oc.data = .cell (some (.ref R.self)) := hoc
  clear F' hoc
  refine pairs_go (m := mm) (news := (L' + 1, oc) :: news) (its := its) (k0 := k0) (ax := al) (h₀ := g') (L := L')
    (fun i ys nw => ∃ kvs' mem' outs, IgAt prog w nw R ms ds kvs' ∧ KI kvs' mem' ∧ (ps.take i).foldl (ask1 ms ds) (mem, []) = (mem', outs) ∧ AllAt IsInt ys outs ∧ Kept R ((L' + 1, oc) :: news) nw)
    (fun i v₁ v₂ => ∃ p t1 t2, ps[i]? = some p ∧ v₁ = .str p.1 t1 ∧ v₂ = .str p.2 t2)
    (by with_unfolding_all rfl) (by decide) (by rfl) (by decide) (by rfl) (by rfl) (by decide) rfl ?hi (subc _ ma) (by rw [hits.1]; omega) ?hj ?pair ?turn ?fin (by intro _; rfl)
  case hi =>
    have Fk := know Fm hma
    k_steps
    all_goals first | exact Fm | exact N' | exact ⟨h', tk', rfl⟩ | exact ⟨Fm, N', h', tk', rfl⟩ | exact ⟨N', h', tk', rfl⟩ | exact rfl
  case hj => exact ⟨kvs, mem, [], H.sub okc subc, hK, rfl, AllAt.nil, fun p hp _ => hp⟩
  case pair =>
    intro i ys nw hi zr1
    refine hideG fun zG zK => ?_
    obtain ⟨kvs', mem', outs, H', hK', hfold, hout, hkeep⟩ := zr1
    obtain ⟨p, hp⟩ : ∃ p, ps[i]? = some p := ⟨ps[i]'(by rw [← hits.1]; exact hi), by simp [← hits.1, hi]⟩
    obtain ⟨v, hv, t, t1, t2, n, rfl, hmt⟩ := hits.2 i p hp
    refine zK ?_
    clear zK zG
    exact ⟨hkeep _ (subc _ ma) (H.tuple_ne ma (by show Value.type "list" ≠ _; decide)), t, _, _, n, hv, hkeep _ (subc _ hmt) (H.tuple_ne hmt (by show Value.type "tuple" ≠ _; decide)), p, t1, t2, hp, rfl, rfl⟩
  case turn =>
    intro i ys nw _ _ I oI C oC D m₂ s₁ E' hi zr2 zr3 hoC hm1 hm2 F1 N1 off ne
    refine hideG fun zG zK => ?_
    obtain ⟨p, t1, t2, hp, rfl, rfl⟩ := zr2
    obtain ⟨kvs', mem', outs, H', hK', hfold, hout, hkeep⟩ := zr3
    have mI := H'.inst
    obtain ⟨e1, e2, e3, u1, u2, u3, mD⟩ := H'.dict
    have mcell : (L' + 1, oc) ∈ nw := hkeep _ (.head _) (by
      obtain ⟨g0, mG, _⟩ := H.ign
      exact Ne.symm (Nat.ne_of_lt (Nat.lt_succ_of_lt (l1 _ mG))))
    have offm := off.mem
    have okf : Ok ((I, oI) :: (C, oC) :: (D, LCg.lst ys) :: nw) := Ok.cons_ne (Ok.cons_ne (Ok.cons_ne H'.ok fun q hq => (offm q hq).2.2) (List.forall_mem_cons.mpr ⟨Ne.symm ne.2.2, fun q hq => (offm q hq).2.1⟩)) (List.forall_mem_cons.mpr ⟨Ne.symm ne.1, List.forall_mem_cons.mpr ⟨Ne.symm ne.2.1, fun q hq => (offm q hq).1⟩⟩)
    have subf : ∀ q ∈ nw, q ∈ (I, oI) :: (C, oC) :: (D, LCg.lst ys) :: nw := fun q hq => .tail _ (.tail _ (.tail _ hq))
    obtain ⟨g9, mG9, _⟩ := H'.ign
    refine zK ?_
    clear zK zG
    have hgn := offm _ mG9
    have hfl := asks_len ms ds (ps.take i) (mem, [])
    rw [hfold] at hfl
    have hmem' : mem'.length ≤ 200 := by
      have h1 : (ps.take i).length ≤ 100 := by rw [List.length_take]; omega
      have h2 : mem'.length ≤ mem.length + (ps.take i).length := hfl
      omega
    have hfold' : (ps.take (i + 1)).foldl (ask1 ms ds) (mem, []) = ask1 ms ds (mem', outs) p := by
      rw [List.take_add_one, hp, Option.toList_some, List.foldl_append, hfold]; rfl
    -- the end of a turn, from the whole ledger
    have fin1 : ∀ (nl : Led) (y : Value) (kv2 : List (Str × Value)) (mem2 : Memo) (k : Int) (h8 : Heap) (tk8 : Nat) (dr8 : Drawn), Fr g' L' h8 mm → News g' L' h8 nl → IgAt prog w nl R ms ds kv2 → KI kv2 mem2 → ask1 ms ds (mem', outs) p = (mem2, outs ++ [k]) → IsInt y k →
        Kept R ((I, oI) :: (C, oC) :: (D, LCg.lst ys) :: nw) nl → EndD g' L' mm s₁ I oI C oC D (LCg.lst ys) (fun y nw' => (al, seqObj "list" its k0) ∈ nw' ∧ ∃ kvs' mem' outs, IgAt prog w nw' R ms ds kvs' ∧ KI kvs' mem' ∧ (ps.take (i + 1)).foldl (ask1 ms ds) (mem, []) = (mem', outs) ∧ AllAt IsInt (ys ++ [y]) outs ∧ Kept R ((L' + 1, oc) :: news) nw') y { s₁ with heap := h8, toks := tk8, drawn := dr8 } := by
      intro nl y kv2 mem2 k h8 tk8 dr8 F8 N8 H8 K8 e8 hy hk8
      have kI : (I, oI) ∈ nl := hk8 _ (.head _) (Ne.symm hgn.1)
      have kC : (C, oC) ∈ nl := hk8 _ (.tail _ (.head _)) (Ne.symm hgn.2.1)
      have kD : (D, LCg.lst ys) ∈ nl := hk8 _ (.tail _ (.tail _ (.head _))) (Ne.symm hgn.2.2)
      have keep : ∀ q ∈ nl, q.1 ≠ I → q.1 ≠ C → q.1 ≠ D → q ∈ dropI (dropI (dropI nl I) C) D := fun q hq h1 h2 h3 => mem_dropI.mpr ⟨mem_dropI.mpr ⟨mem_dropI.mpr ⟨hq, h1⟩, h2⟩, h3⟩
      have keep2 : ∀ q ∈ nw, q.1 ≠ R.ign → q ∈ dropI (dropI (dropI nl I) C) D := fun q hq hne => keep q (hk8 q (subf q hq) hne) (offm q hq).1 (offm q hq).2.1 (offm q hq).2.2
      have keep3 : Kept R ((L' + 1, oc) :: news) (dropI (dropI (dropI nl I) C) D) := fun q hq hne => keep2 q (hkeep q hq hne) hne
      have hIg : R.self ≠ R.ign := H'.tuple_ne mI (by show Value.ref 100 ≠ _; intro e; cases e)
      refine hideG fun zG zK => ?_
      obtain ⟨so, mS, hS⟩ := H'.set
      have hSg : R.set ≠ R.ign := H'.tuple_ne mS (by obtain ⟨es, ep, t, S⟩ := hS; rw [S.ex.1]; decide)
      obtain ⟨dvs, nd, mL, hL⟩ := H'.dirs
      have hLg : R.dirs ≠ R.ign := H'.tuple_ne mL (by show Value.type "list" ≠ _; decide)
      obtain ⟨go8, mG8, hG8⟩ := H8.ign
      refine zK ?_
      clear zK zG
      refine ⟨h8, tk8, dr8, dropI (dropI (dropI nl I) C) D, rfl, F8, fun q hq => ?_, LCg.Off3.of fun q hq => ?_, keep3 _ (subc _ ma) (H.tuple_ne ma (by show Value.type "list" ≠ _; decide)), kv2, mem2, outs ++ [k], ?_, K8, hfold'.trans e8, hout.push hy, keep3⟩
      · rcases List.mem_cons.mp hq with rfl | hq
        · exact N8 _ kI
        rcases List.mem_cons.mp hq with rfl | hq
        · exact N8 _ kC
        rcases List.mem_cons.mp hq with rfl | hq
        · exact N8 _ kD
        · exact N8 _ (mem_dropI.mp (mem_dropI.mp (mem_dropI.mp hq).1).1).1
      · exact ⟨(mem_dropI.mp (mem_dropI.mp (mem_dropI.mp hq).1).1).2, (mem_dropI.mp (mem_dropI.mp hq).1).2, (mem_dropI.mp hq).2⟩
      · exact ⟨((H8.ok.dropI _).dropI _).dropI _, keep2 _ mI hIg, ⟨e1, e2, e3, u1, u2, u3, keep2 _ mD H'.ne⟩, ⟨so, keep2 _ mS hSg, hS⟩, ⟨dvs, nd, keep2 _ mL hLg, hL⟩, ⟨go8, keep _ mG8 hgn.1 hgn.2.1 hgn.2.2, hG8⟩, H'.lo, H'.ne⟩
    refine hideQ fun _ _ => ?_
    k_steps
    refine Stop.of ?_
    refine' namesS B' ?nF X' ?nN T' rfl ?nd (H'.sub okf subf) hm (by rw [hK'.len]; omega) (hpb p (List.mem_of_getElem? hp)).1 (hpb p (List.mem_of_getElem? hp)).2 hms hds hdl ?nv ?nh ?nr
    (case nF => exact F1)
    (case nN => exact N1)
    (case nd => ktr_room)
    (case nv =>
      intro v hv
      cases hg : mem'.get p.2 with
      | none => rw [hK'.none hg] at hv; cases hv
      | some k => obtain ⟨t, ht⟩ := hK'.some hg; rw [ht] at hv; exact ⟨k, t, (Option.some.inj hv).symm⟩)
    (case nh =>
      intro v h8 tk8 hv F8 N8
      cases hg : mem'.get p.2 with
      | none => rw [hK'.none hg] at hv; cases hv
      | some k =>
        obtain ⟨t, ht⟩ := hK'.some hg
        rw [ht] at hv
        obtain rfl := Option.some.inj hv
        refine HQ.use (by assumption) ?_
        exact fin1 _ _ kvs' mem' k h8 tk8 _ F8 N8 (H'.sub okf subf) hK' (by unfold ask1; rw [hg]) ⟨t, rfl⟩ fun q hq _ => hq)
    (case nr =>
      intro hv t u h8 tk8 dr8 nl F8 N8 H8 hk8
      cases hg : mem'.get p.2 with
      | some k => obtain ⟨t, ht⟩ := hK'.some hg; rw [ht] at hv; cases hv
      | none =>
        rw [stored_new hv] at H8
        refine HQ.use (by assumption) ?_
        exact fin1 nl _ _ (mem' ++ [(p.2, b2 (ignV ms ds p.1 p.2))]) (b2 (ignV ms ds p.1 p.2)) h8 tk8 dr8 F8 N8 H8 hK'.push (by unfold ask1; rw [hg]) ⟨t, rfl⟩ hk8)
  case fin =>
    intro D ys nw h tk dr zr4 F1 N1 off
    refine hideG fun zG zK => ?_
    obtain ⟨kvs', mem', outs, H', hK', hfold, hout, hkeep⟩ := zr4
    refine zK ?_
    clear zK zG
    have off1 := off1_mem off
    k_steps
    rename_i kF kN _ _
    rw [hits.1, List.take_length] at hfold
    refine ret D ys _ _ _ nw kF kN (by rw [hfold]; exact hout) (fun p hp hne => hkeep p (subc p hp) hne) fun p hp => ?_
    by_cases hne : p.1 = R.ign
    · obtain ⟨g0, mG, _⟩ := H'.ign
      rw [hne]; exact off1 _ mG
    · exact off1 _ (hkeep p (subc p hp) hne)

end
end
section
open PySem PySem.W PyProof.Rows PySem.Calls PySem.Spec
theorem words_First : True := by
  k_with_none
  k_with "mine room" => ((try simp only [depth_under_make, depth_under_kw, depth_in1, depth_deeper, depth_caller]); (try dsimp only [ktrTop]); omega)
  k_with "mine all" => (first | (with_reducible assumption) | (with_reducible exact allLt_of (by assumption)) | (refine And.intro ?_ ?_; (first | assumption | ((try dsimp only at *); omega)); k_extra "mine all") | (exact allLt_up (by assumption) (by omega)) | (refine allLt_set ?_; k_extra "mine all") | fail)
  k_with "mine lt" => (first | assumption | (refine lt_allLt ?_; k_extra "mine all") | fail)
  k_with "mine ok" => (first | assumption | (refine Ok.setAt ?_ _ _; k_extra "mine ok") | (refine Ok.cons ?_ ?_; (k_extra "mine ok"); (k_extra "mine lt")) | fail)
  k_with "mine ne" => ((try dsimp only); first | assumption | (refine Ne.symm ?_; assumption) | (refine neN ?_; omega) | (apply ne_z1; (case q9m => assumption); (case q9h => k_extra "mine all")) | (apply ne_z2; (case q9m => assumption); (case q9h => k_extra "mine all")) | fail)
  k_with "mine nes" => (first | assumption | exact List.forall_mem_nil _ | (refine List.forall_mem_cons.mpr ⟨?_, ?_⟩; (k_extra "mine ne"); (k_extra "mine nes")) | (refine nes_set ?_; k_extra "mine nes") | (refine nes_lt ?_; k_extra "mine all") | fail)
  k_with "mine mem" => (first | (with_reducible assumption) | ktr_member | (with_reducible exact List.mem_cons_self) | (with_reducible apply mset_z; k_mem) | (with_reducible apply mset_ne_z; (case q9n => k_extra "mine ne"); (case q9x => k_mem)) | (with_reducible refine List.mem_cons_of_mem _ ?_; k_mem) | fail)
  k_with "mine upd" => (first | (with_reducible refine Upd.head ?_; k_extra "mine nes") | (with_reducible apply upd_tail; (case q9ne => k_extra "mine ne"); (case q9u => k_upd)) | (apply upd_z; (case q9k => k_extra "mine ok"); (case q9m => k_mem)) | fail)
  k_with "mine updF" => (first | (with_reducible refine UpdF.head ?_; k_extra "mine nes") | (with_reducible apply updF_tail; (case q9ne => k_extra "mine ne"); (case q9u => k_updF)) | (apply updF_z; (case q9k => k_extra "mine ok"); (case q9m => k_mem)) | fail)
  k_with "mine sub" => (first | exact (fun p hp => hp) | exact (fun p hp => List.mem_cons_of_mem _ hp) | exact (fun p hp => List.mem_cons_of_mem _ (List.mem_cons_of_mem _ hp)) | exact (fun p hp => List.mem_cons_of_mem _ (List.mem_cons_of_mem _ (List.mem_cons_of_mem _ hp))) | (refine List.forall_mem_cons.mpr ⟨?_, ?_⟩; k_mem; k_extra "mine sub") | (intro p hp; (repeat (first | exact hp | refine List.mem_cons_of_mem _ ?_))) | fail)
  k_with "mine units" => ((try simp only [units_in1, units_deeper]); (try dsimp only [ktrTop]); omega)
  k_with "mine leave" => (with_reducible apply HQ.use_z; (case q9h => with_reducible assumption))
  k_with "getMethod ref" => ((k_here; (with_reducible show wpAny _ _ (getMethod (Value.ref _) (Str.ofString "get") _) _ _ _); k_dflt (refine kdg_method (knd := PySem.strKind _ _) (by k_asm) (by k_mem) (by assumption) ?_)))
  k_with "subscriptTail" => ((k_here; (with_reducible show wpAny _ _ (subscriptTail _ _ (Value.ref _) (Value.str _ _)) _ _ _); k_dflt (refine kda_item (knd := PySem.strKind _ _) (by k_asm) (by k_mem) (by assumption) (strKind_is _ _ _ _) (by assumption) ?_)))
  trivial
section
variable {prog : Program} {w : World} {p : Program} {loose : List Str} {mean : ExcName → Option Value} {mg mb : Str → Option Value} {dp un : Nat} {gd : Option (List Code)} {cn : Str} {cs : Scope} {a : Addr} {ccd : Value} {cl : List (Str × Addr)} {outer : List Env} {A₀ : Around} {base h₀ : Heap} {L : Addr} {m : Str → Option Value} {news : Led} {s : Shared} {Q E : Value → Shared → Prop}
theorem str_index {A : Around} {QV : Value → Shared → Prop} {D : Addr} {vs : List Value} {n : Nat} {xs : List Str} {k : Str} {t : Tok} {j : Nat} (N : News h₀ L s.heap news) (hm : (D, seqObj "list" vs n) ∈ news) (hv : Strs vs xs) (hj : xs[j]? = some k) (hf : ∀ i, i < j → xs[i]? ≠ some k) (hz : xs.length ≤ 1000)
    (h : QV (.int j s.toks) { s with toks := s.toks + 1 }) : wpAny (model prog w) A (call (.builtin "list.index") [.ref D, .str k t]) QV E s := by
  have hlt : j < xs.length := (List.getElem?_eq_some_iff.mp hj).1
  have hlen := hv.1
  have hat : ∀ i (hi : i < xs.length), ∃ t, vs[i]'(by omega) = .str xs[i] t := fun i hi => by
    obtain ⟨t, ht⟩ := hv.2 i xs[i] (by simp [hi])
    exact ⟨t, (List.getElem?_eq_some_iff.mp ht).2⟩
  refine call_meets PySem.F.slot_list_index ⟨_, (N _ hm).1, rfl⟩ PySem.F.entry_list_index (PySem.F.args_list_index_2 _ _)
    (MeetsSeq.list_index D vs.toArray n (.str k t) (fun y => match y with | .str x _ => x.cps.toList == k.cps.toList | _ => false) (fun y hy => ?_) j (by simp; omega) (by simp; omega) ?_ (fun i hi hlt => ?_)) ⟨(N _ hm).1, h⟩
  · refine hideG fun zG zK => ?_
    obtain ⟨i, hi, rfl⟩ := List.mem_iff_getElem.mp (List.mem_toArray.mp hy)
    obtain ⟨u, hu⟩ := hat i (by omega)
    refine zK ?_
    clear zK zG
    rw [hu]
    exact SeqRoads2.EqGives.str _ _ _ _
  · obtain ⟨u, hu⟩ := hat j hlt
    have : xs[j] = k := (List.getElem?_eq_some_iff.mp hj).2
    simp only [List.getElem_toArray, hu, this]
    simp
  · have hi' : i < xs.length := by simp at hi; omega
    obtain ⟨u, hu⟩ := hat i hi'
    have hne : xs[i] ≠ k := fun e => hf i hlt (by rw [List.getElem?_eq_getElem hi', e])
    simp only [List.getElem_toArray, hu]
    have : xs[i].cps ≠ k.cps := fun e => hne (by
      generalize xs[i] = z at e
      obtain ⟨a⟩ := z; obtain ⟨b⟩ := k
      exact congrArg _ e)
    simpa using this
theorem meth_index {A : Around} {D : Addr} {vs : List Value} {n : Nat} {pl : Sem Bool} {QV : Value × List Value → Shared → Prop} (N : News h₀ L s.heap news) (hm : (D, seqObj "list" vs n) ∈ news)
    (h : QV (.builtin "list.index", [.ref D]) s) : wpAny (model prog w) A (getMethod (.ref D) (Str.ofString "index") pl) QV E s :=
  kf_method (its := vs.toArray) (n := n) N hm PySem.F.slot_list_index PySem.F.type_list_index h
theorem item_int {A : Around} {value slice : PySem.Expr} {QV : Value → Shared → Prop} {l : Addr} {vs : List Value} {n : Nat} {xs : List Int} {j : Nat} {k : Int} {u : Tok} (N : News h₀ L s.heap news) (hm : (l, seqObj "list" vs n) ∈ news) (hv : AllAt IsInt vs xs) (hk : xs[j]? = some k) (hx : xs.length ≤ 1000)
    (h : ∀ t, QV (.int k t) s)
    (hs : subscripted slice false (.ref l) (.int j u) = operate [.ref l, .int j u] (getItem (.ref l) (.int j u)) := by with_unfolding_all rfl) :
    wpAny (model prog w) A (subscriptTail value slice (.ref l) (.int j u)) QV E s := by
  have hl : s.heap.IsList l vs.toArray := ⟨_, (N _ hm).1, rfl, n, rfl⟩
  have hlt : j < xs.length := (List.getElem?_eq_some_iff.mp hk).1
  refine hideG fun zG zK => ?_
  obtain ⟨v, hv', t, rfl⟩ := hv.2 j k hk
  refine zK ?_
  clear zK zG
  exact tail_any hl.typeIs slot_list_getitem.lookup (wpAny_getItem_list hl (Int.natCast_nonneg _) (by omega) (by simpa using hv') (h t)) hs
noncomputable def firstIx (ns : List Str) (n : Str) : Nat := ns.findIdx fun x => decide (x = n)
theorem firstIx_at {ns : List Str} {n : Str} (h : n ∈ ns) : ns[firstIx ns n]? = some n ∧ ∀ i, i < firstIx ns n → ns[i]? ≠ some n := by
  have hlt : firstIx ns n < ns.length := List.findIdx_lt_length_of_exists ⟨n, h, by simp⟩
  refine ⟨?_, fun i hi e => ?_⟩
  · rw [List.getElem?_eq_getElem hlt]
    have h3 : decide (ns[firstIx ns n] = n) = true := List.findIdx_getElem (w := hlt)
    rw [of_decide_eq_true h3]
  · have h2 := List.not_of_lt_findIdx hi
    have hi2 : i < ns.length := Nat.lt_trans hi hlt
    rw [List.getElem?_eq_getElem hi2] at e
    have e' := Option.some.inj e
    simp [e'] at h2
noncomputable def dueOf (ps : List (Str × Str)) (own : List Int) : List Int := (ps.map (·.2)).map fun n => own.getD (firstIx (ps.map (·.2)) n) 0
theorem words_first_1 : True := by
  k_with "eval ListComp" => (((with_reducible show wpAny _ _ (eval (Expr.ListComp _ _ _ _) _) _ _ _); refine stop_intro ?_))
  k_with "exec Assign cons ListComp" => (((with_reducible show wpAny _ _ (exec (Stmt.Assign _ (Expr.ListComp _ _ _ _) _) _) _ _ _); refine stop_intro ?_))
  k_with "CompSrc" => ((refine stop_intro ?_))
  k_with "CompEnd" => ((refine stop_intro ?_))
  k_with "getMethod ref" => ((k_here; (with_reducible show wpAny _ _ (getMethod (Value.ref _) (Str.ofString "index") _) _ _ _); k_dflt (refine meth_index (by k_asm) (by k_mem) ?_)))
  k_with "call builtin:list.index" => ((k_here; (with_reducible show wpAny _ _ (call (Value.builtin "list.index") [Value.ref _, Value.str _ _]) _ _ _); k_dflt (refine str_index (by k_asm) (by k_mem) (by assumption) (by assumption) (by assumption) (by assumption) ?_)))
  k_with "subscriptTail" => ((k_here; (with_reducible show wpAny _ _ (subscriptTail _ _ (Value.ref _) (Value.int (Nat.cast _) _)) _ _ _); k_dflt (refine item_int (by k_asm) (by k_mem) (by assumption) (by assumption) (by assumption) ?_); intro _))
  trivial
theorem firstS (B : Below A₀ base outer h₀) (F : Fr h₀ L s.heap m) (X : (K w.params).In h₀) (N : News h₀ L s.heap news) (T : Top p loose mean mg mb h₀) (hk : cs.kind = .function) (hdp : dp + 30 < recursionLimit) {al ol : Addr} {its ovs : List Value} {k0 k1 : Nat} {ps : List (Str × Str)} {own : List Int} (ok : Ok news)
    (ma : (al, seqObj "list" its k0) ∈ news) (hits : AllAt (PairAt news) its ps) (hpl : ps.length ≤ 100) (mo : (ol, seqObj "list" ovs k1) ∈ news) (how : AllAt IsInt ovs own) (hol : own.length = ps.length)
    (ret : ∀ D ys h' tk' dr, Fr h₀ L h' m → News h₀ L h' ((D, LCg.lst ys) :: news) → AllAt IsInt ys (dueOf ps own) → (∀ p ∈ news, p.1 ≠ D) → Q (.ref D) { s with heap := h', toks := tk', drawn := dr }) :
    wpAny (model prog w) (ktrTop dp un gd cn cs L a ccd cl outer) (call (.ref 272) [.ref al, .ref ol]) Q E s := by
  refine wpAny_call ?_
  refine' code_defC (binds := [(Str.ofString "asks", .ref al), (Str.ofString "own", .ref ol)]) B F X N T rfl rfl hk ?k6 ?k7 ?k8 ?k9 ?kB ?kD ?_ ?c2 ?c3 ?c4
  (case k6 => k_is)
  (case k7 => k_is)
  (case k8 => ktr_room)
  (case k9 => exact BindsTo.of_eq rfl)
  (case kB => exact rfl)
  (case kD => decide +kernel)
  (case c2 => exact rfl)
  (case c3 => exact rfl)
  (case c4 => exact rfl)
  intro g' L' h' tk' cells' FG' F' N' Y' B' X' T' l1
  refine noE ?_
  refine hideQ fun _ _ => ?_
  (try k_lt l1)
  k_cells Y'
  (try simp only [List.cons_append, List.nil_append] at N')
  (try dsimp only)
  (try k_fold)
  rename_i oc2 oc1 hoc2 hoc1
  obtain ⟨mm, Fm, hma⟩ : ∃ mm, Fr g' L' h' mm ∧ mm (Str.ofString "asks") = some (.ref al) := ⟨_, F', rfl⟩
  have hoc1' : oc1.data = .cell (some (.ref ol)) := hoc1
  have hoc2' : oc2.data = .cell none := hoc2
  clear F' hoc1 hoc2
  k_steps
  refine Stop.of ?_
  refine wpAny_Assign_Name ?_ (by with_unfolding_all rfl)
  have subc : ∀ p ∈ news, p ∈ (L' + 1 + 1, oc2) :: (L' + 1, oc1) :: news := fun p hp => .tail _ (.tail _ hp)
  refine pairs_go (m := mm) (news := (L' + 1 + 1, oc2) :: (L' + 1, oc1) :: news) (its := its) (k0 := k0) (ax := al) (h₀ := g') (L := L')
    (fun i ys nw => nw = (L' + 1 + 1, oc2) :: (L' + 1, oc1) :: news ∧ Strs ys ((ps.take i).map (·.2)))
    (fun i v₁ v₂ => Ex3 fun p t1 t2 => All3 (ps[i]? = some p) (v₁ = .str p.1 t1) (v₂ = .str p.2 t2))
    (by with_unfolding_all rfl) (by decide) (by rfl) (by decide) (by rfl) (by rfl) (by decide) rfl ?hi (subc _ ma) (by rw [hits.1]; omega) ⟨rfl, Strs.nil⟩ ?pair ?turn ?fin (by intro _; rfl)
  case hi =>
    have Fk := know Fm hma
    k_steps
    all_goals first | exact Fm | exact N' | exact ⟨h', tk', rfl⟩ | exact ⟨Fm, N', h', tk', rfl⟩ | exact ⟨N', h', tk', rfl⟩ | exact rfl
  case pair =>
    intro i ys nw hi zr1
    refine hideG fun zG zK => ?_
    obtain ⟨rfl, hys⟩ := zr1
    obtain ⟨p, hp⟩ : ∃ p, ps[i]? = some p := ⟨ps[i]'(by rw [← hits.1]; exact hi), by simp [← hits.1, hi]⟩
    obtain ⟨v, hv, t, t1, t2, n, rfl, hmt⟩ := hits.2 i p hp
    refine zK ?_
    clear zK zG
    exact ⟨subc _ ma, t, _, _, n, hv, subc _ hmt, p, t1, t2, hp, rfl, rfl⟩
  case turn =>
    intro i ys nw _ _ I oI C oC D m₂ s₁ E' hi zr2 zr3 hoC hm1 hm2 F1 N1 off ne
    refine hideG fun zG zK => ?_
    obtain ⟨p, t1, t2, hp, rfl, rfl⟩ := zr2
    obtain ⟨rfl, hys⟩ := zr3
    refine zK ?_
    clear zK zG
    refine hideQ fun _ _ => ?_
    k_steps
    refine ⟨_, _, _, _, rfl, F1, N1, off, subc _ ma, rfl, ?_⟩
    rw [List.take_add_one, hp, Option.toList_some, List.map_append]
    exact hys.push _ _
  case fin =>
    rintro D ys nw h tk dr ⟨rfl, hys⟩ F1 N1 off
    have off1 := off1_mem off
    have dn2 : D ≠ L' + 1 + 1 := Ne.symm (off1 _ (.head _))
    have dn1 : D ≠ L' + 1 := Ne.symm (off1 _ (.tail _ (.head _)))
    have ln : (L' + 1 : Nat) ≠ L' + 1 + 1 := Nat.ne_of_lt (Nat.lt_succ_self _)
    have nl : ∀ p ∈ news, p.1 ≠ L' + 1 + 1 := fun p hp => Nat.ne_of_lt (Nat.lt_succ_of_lt (Nat.lt_succ_of_lt (l1 p hp)))
    have nl2 : ∀ p ∈ (L' + 1, oc1) :: news, p.1 ≠ L' + 1 + 1 := List.forall_mem_cons.mpr ⟨ln, nl⟩
    have hl0 : LCg.lst ys = seqObj "list" ys ys.length := rfl
    rw [hl0] at N1
    k_steps
    rename_i h8 oc3 F8 N8 d8
    refine Stop.of ?_
    refine LCg.ListComp_U (F₀ := F8) (by with_unfolding_all rfl) (by decide) (by rfl) (by decide) (by rfl) ?_
    k_steps
    refine Stop.of ?_
    rw [hits.1, List.take_length] at hys
    have hyl : ys.length = (ps.map (·.2)).length := hys.1
    have hpl' : (ps.map (·.2)).length ≤ 1000 := by rw [List.length_map]; omega
    have hol' : own.length ≤ 1000 := by omega
    refine LCg.CompSrc.ledger (its := ys.toArray) (k := ys.length) rfl F8 N8 (.head _) (by rw [List.size_toArray, hyl, List.length_map, sizeLine_eq]; omega) fun g => ?_
    generalize hns : ps.map (·.2) = ns at *
    refine comp_inv (n := ys.toArray.size) (fun i zs nw => nw = (D, seqObj "list" ys ys.length) :: (L' + 1 + 1, oc3) :: (L' + 1, oc1) :: news ∧ AllAt IsInt zs ((ns.take i).map fun n => own.getD (firstIx ns n) 0)) ?turn2 ?fin2 _ 0 [] _ (Nat.zero_add _) ⟨rfl, AllAt.nil⟩ (.inr ⟨_, .head _, rfl, _, rfl⟩)
    case turn2 =>
      intro i zs nw v I oI C oC D2 m₂ h9 tk9 E' hi hv zr4 hS hoC hm1 F9 N9 off9 n1 n2 n3
      refine hideG fun zG zK => ?_
      obtain ⟨rfl, hz⟩ := zr4
      have hv' : ys.toArray[i]? = some v := hv
      rw [List.getElem?_toArray] at hv'
      obtain ⟨x, tx, hx, rfl⟩ := hys.at hv'
      obtain ⟨hj, hf⟩ := firstIx_at (List.mem_of_getElem? hx)
      refine zK ?_
      clear zK zG
      have hlt : firstIx ns x < own.length := by
        have := (List.getElem?_eq_some_iff.mp hj).1
        rw [hol, ← List.length_map (f := (·.2)), hns]; exact this
      have hk : own[firstIx ns x]? = some (own.getD (firstIx ns x) 0) := by simp [List.getElem?_eq_getElem hlt, List.getD]
      generalize hkk : own.getD (firstIx ns x) 0 = kk at hk
      generalize hjj : firstIx ns x = jj at hj hf hk hkk
      refine hideQ fun _ _ => ?_
      k_steps
      refine Stop.of (comp_end _ F9 N9 (fun p hp => hp) (LCg.Off3.of off9) hS ⟨rfl, ?_⟩)
      rw [List.take_add_one, hx, Option.toList_some, List.map_append]
      exact hz.push ⟨_, by rw [← hkk, ← hjj]⟩
    case fin2 =>
      rintro zs nw ⟨rfl, hz⟩ D2 h9 tk9 F9 N9 off9
      have hsz : ys.toArray.size = ns.length := by rw [List.size_toArray, hyl]
      rw [hsz, List.take_length] at hz
      have off9' := off1_mem off9
      k_steps
      rename_i kF kN _ _
      exact ret D2 zs _ _ _ kF (News.sub kN (List.forall_mem_cons.mpr ⟨.head _, fun p hp => .tail _ (.tail _ (.tail _ (.tail _ hp)))⟩)) (by unfold dueOf; rw [hns]; exact hz) fun p hp => off9' p (.tail _ (.tail _ (.tail _ hp)))

end
end
section
open PySem PySem.W PyProof.Rows PySem.Calls PySem.Spec
theorem words_Ini : True := by
  k_with_none
  k_with "mine room" => ((try simp only [depth_under_make, depth_under_kw, depth_in1, depth_deeper, depth_caller]); (try dsimp only [ktrTop]); omega)
  k_with "mine all" => (first | (with_reducible assumption) | (with_reducible exact allLt_of (by assumption)) | (refine And.intro ?_ ?_; (first | assumption | ((try dsimp only at *); omega)); k_extra "mine all") | (exact allLt_up (by assumption) (by omega)) | (refine allLt_set ?_; k_extra "mine all") | fail)
  k_with "mine lt" => (first | assumption | (refine lt_allLt ?_; k_extra "mine all") | fail)
  k_with "mine ok" => (first | assumption | (refine Ok.setAt ?_ _ _; k_extra "mine ok") | (refine Ok.cons ?_ ?_; (k_extra "mine ok"); (k_extra "mine lt")) | fail)
  k_with "mine ne" => ((try dsimp only); first | assumption | (refine Ne.symm ?_; assumption) | (refine neN ?_; omega) | (apply ne_z1; (case q9m => assumption); (case q9h => k_extra "mine all")) | (apply ne_z2; (case q9m => assumption); (case q9h => k_extra "mine all")) | fail)
  k_with "mine nes" => (first | assumption | exact List.forall_mem_nil _ | (refine List.forall_mem_cons.mpr ⟨?_, ?_⟩; (k_extra "mine ne"); (k_extra "mine nes")) | (refine nes_set ?_; k_extra "mine nes") | (refine nes_lt ?_; k_extra "mine all") | fail)
  k_with "mine mem" => (first | (with_reducible assumption) | ktr_member | (with_reducible exact List.mem_cons_self) | (with_reducible apply mset_z; k_mem) | (with_reducible apply mset_ne_z; (case q9n => k_extra "mine ne"); (case q9x => k_mem)) | (with_reducible refine List.mem_cons_of_mem _ ?_; k_mem) | fail)
  k_with "mine upd" => (first | (with_reducible refine Upd.head ?_; k_extra "mine nes") | (with_reducible apply upd_tail; (case q9ne => k_extra "mine ne"); (case q9u => k_upd)) | (apply upd_z; (case q9k => k_extra "mine ok"); (case q9m => k_mem)) | fail)
  k_with "mine updF" => (first | (with_reducible refine UpdF.head ?_; k_extra "mine nes") | (with_reducible apply updF_tail; (case q9ne => k_extra "mine ne"); (case q9u => k_updF)) | (apply updF_z; (case q9k => k_extra "mine ok"); (case q9m => k_mem)) | fail)
  k_with "mine sub" => (first | exact (fun p hp => hp) | exact (fun p hp => List.mem_cons_of_mem _ hp) | exact (fun p hp => List.mem_cons_of_mem _ (List.mem_cons_of_mem _ hp)) | exact (fun p hp => List.mem_cons_of_mem _ (List.mem_cons_of_mem _ (List.mem_cons_of_mem _ hp))) | (refine List.forall_mem_cons.mpr ⟨?_, ?_⟩; k_mem; k_extra "mine sub") | (intro p hp; (repeat (first | exact hp | refine List.mem_cons_of_mem _ ?_))) | fail)
  k_with "mine units" => ((try simp only [units_in1, units_deeper]); (try dsimp only [ktrTop]); omega)
  k_with "mine leave" => (with_reducible apply HQ.use_z; (case q9h => with_reducible assumption))
  trivial
section
variable {prog : Program} {w : World} {p : Program} {loose : List Str} {mean : ExcName → Option Value} {mg mb : Str → Option Value} {dp un : Nat} {gd : Option (List Code)} {cn : Str} {cs : Scope} {a : Addr} {ccd : Value} {cl : List (Str × Addr)} {outer : List Env} {A₀ : Around} {base h₀ : Heap} {L : Addr} {m : Str → Option Value} {news : Led} {s : Shared} {Q E : Value → Shared → Prop}
theorem newSetS {A : Around} {QV : Value → Shared → Prop} {ml : Addr} {mvs : List Value} {nm : Nat} {ms : List Str} (hh : A.handled = none) (F : Fr h₀ L s.heap m) (N : News h₀ L s.heap news) (hm : (ml, seqObj "list" mvs nm) ∈ news) (hv : Strs mvs ms) (hnd : ms.Nodup) (hb : ms.length < 1000)
    (h : ∀ D o h' tk, Fr h₀ L h' m → News h₀ L h' ((D, o) :: news) → (∀ p ∈ news, p.1 < D) → StrSet prog w o ms → QV (.ref D) { s with heap := h', toks := tk }) :
    wpAny (model prog w) A (call (.type "set") [.ref ml]) QV E s := by
  refine set_of_list hh (items := mvs.toArray) ⟨_, (N _ hm).1, rfl, nm, rfl⟩ (by simpa using hv) hnd hb fun h' tk o ho hS hk => ?_
  refine hideG fun zG zK => ?_
  obtain ⟨oL, _, _, hL, _⟩ := F.ns
  refine zK ?_
  clear zK zG
  have hLlt : L < s.heap.objs.size := Heap.lt_size hL
  refine h _ o h' tk ⟨F.ns.at' fun o' e => hk L o' hLlt e, fun b o' e => hk b o' (Heap.lt_size (F.keep b o' e)) (F.keep b o' e), F.above⟩ (fun p hp => ?_) (fun p hp => Heap.lt_size (N p hp).1) hS
  rcases List.mem_cons.mp hp with rfl | hp
  · exact ⟨ho, Nat.ne_of_gt hLlt, by
      cases hq : h₀.get? s.heap.objs.size with
      | none => rfl
      | some o' => exact absurd (Heap.lt_size (F.keep _ _ hq)) (Nat.lt_irrefl _)⟩
  · exact ⟨hk _ _ (Heap.lt_size (N p hp).1) (N p hp).1, (N p hp).2⟩
structure NormOk (x : Str) : Prop where
  len : x.length ≤ 100
  ne : x.length ≠ 0
  one : Txt.slice x none (some 1) = Str.ofString "/"
  two : (Txt.slice x (some 1) (some 2) == Str.ofString "/") = false
  tail : (Txt.slice x (some 1) none).length ≤ 100
  parts : (Txt.split (Txt.slice x (some 1) none) (Str.ofString "/")).length ≤ 10
theorem words_ini_1 : True := by
  k_with "truthy ref" => ((k_here; (with_reducible show wpAny _ _ (truthy (Value.ref _)) _ _ _); k_dflt (refine truthy_lst (by k_asm) (by k_mem) (by first | omega | (simp only [List.length_append, List.length_cons, List.length_nil]; omega)) ?_)))
  k_with "call ref" => (((with_reducible show wpAny _ _ (call (Value.ref 77) _) _ _ _); refine stop_intro ?_))
  k_with "eval ListComp" => (((with_reducible show wpAny _ _ (eval (Expr.ListComp _ _ _ _) _) _ _ _); refine stop_intro ?_))
  k_with "CompSrc" => ((refine stop_intro ?_))
  k_with "CompEnd" => ((refine stop_intro ?_))
  k_with "ite" => (first | (with_reducible refine ite_yes (by with_reducible assumption) ?_) | (with_reducible refine ite_no (by with_reducible assumption) ?_))
  trivial
theorem words_Ini_m1 : True := by
  k_with "call type:set cons nil" => ((k_here; (with_reducible show wpAny _ _ (call (Value.type "set") [Value.ref _]) _ _ _); k_dflt (refine newSetS rfl (by k_asm) (by k_asm) (by k_mem) (by assumption) (by assumption) (by assumption) ?_); intro _ _ _ _ _ _ l1zz hSzz; (try k_lt l1zz); revert hSzz l1zz; intro _ _))
  trivial
theorem named {h : Heap} {l : Led} (N : News h₀ L h l) : ∃ l', l' = l ∧ News h₀ L h l' := ⟨l, rfl, N⟩
theorem newIgnore {sc : Scope} (B : Below A₀ base [] h₀) (F : Fr h₀ L s.heap m) (X : (K w.params).In h₀) (N : News h₀ L s.heap news) (T : Top p loose mean mg mb h₀) (hdp : dp + 40 < recursionLimit) (ok : Ok news) (hsc : fScope (topS 28) = sc)
    {ml dl : Addr} {mvs : List Value} {nm nd : Nat} {ms : List Str} {w1 w2 : Str} {t1 t2 : Tok} (hm : (ml, seqObj "list" mvs nm) ∈ news) (hmv : Strs mvs ms) (hnd : ms.Nodup) (hml : ms.length < 1000) (hd : (dl, seqObj "list" [.str w1 t1, .str w2 t2] nd) ∈ news) (h1 : NormOk w1) (h2 : NormOk w2)
    (ret : ∀ R kvs h' tk' nl, Fr h₀ L h' m → News h₀ L h' nl → IgAt prog w nl R ms [normP w1, normP w2] kvs → KI kvs [(Str.ofString "<string>", 1)] → (∀ p ∈ news, p ∈ nl ∧ p.1 ≠ R.ign) → Q (.ref R.self) { s with heap := h', toks := tk' }) :
    wpAny (model prog w) (ktrTop dp un gd (Str.ofString "law") sc L a ccd cl []) (call (.ref 100) [.ref ml, .ref dl]) Q E s := by
  (conv at hsc => lhs; whnf)
  subst hsc
  have hmvl : mvs.length = ms.length := hmv.1
  have hde : [Value.str w1 t1, Value.str w2 t2].isEmpty = false := rfl
  by_cases hme : ms = []
  · subst hme
    obtain rfl : mvs = [] := List.eq_nil_of_length_eq_zero hmvl
    k_steps
    rename_i xa da hA FA NA lA l2A g1 L1 hB FG B1 X1 T1 sa hC led hs hz lC h9 F9 N9
    have hS := strSet_fresh prog w led
    have lC1 := lC.2.1
    refine hideG fun zG zK => ?_
    obtain ⟨so, hso⟩ : ∃ o : Obj, o = { cls := .type "set", data := .set #[] 0 (.fresh 0 0 led) } := ⟨_, rfl⟩
    rw [← hso] at N9 hS
    obtain ⟨led9, hled, N10⟩ := named N9
    refine zK ?_
    clear zK zG
    have mdl : (dl, seqObj "list" [.str w1 t1, .str w2 t2] nd) ∈ led9 := by rw [hled]; exact .tail _ (.tail _ (.tail _ hd))
    refine Stop.of ?_
    refine LCg.ListComp_U (F₀ := F9) (by with_unfolding_all rfl) (by decide) (by rfl) (by decide) (by rfl) ?_
    k_steps
    refine Stop.of ?_
    refine LCg.CompSrc.ledger (its := #[.str w1 t1, .str w2 t2]) (k := nd) rfl F9 N10 mdl (by rw [sizeLine_eq]; exact Nat.le_of_ble_eq_true rfl) fun g => ?_
    refine comp_inv (n := 2) (fun i zs nw => nw = led9 ∧ Strs zs (([w1, w2].take i).map normP)) ?tu1 ?fi1 _ 0 [] _ (Nat.zero_add _) ⟨rfl, Strs.nil⟩ (.inr ⟨_, mdl, rfl, _, rfl⟩)
    case tu1 =>
      intro i zs nw v I oI C oC D2 m₂ h6 tk6 E' hi hv zr1 hS6 hoC hm1 F6 N6 off6 n1 n2 n3
      refine hideG fun zG zK => ?_
      obtain ⟨e6, hz6⟩ := zr1
      obtain rfl : led9 = nw := e6.symm
      obtain ⟨x, tx, hx, hok, rfl⟩ : ∃ x tx, [w1, w2][i]? = some x ∧ NormOk x ∧ v = .str x tx := by
        have hi2 : i = 0 ∨ i = 1 := by omega
        rcases hi2 with rfl | rfl
        · cases hv; exact ⟨w1, t1, rfl, h1, rfl⟩
        · cases hv; exact ⟨w2, t2, rfl, h2, rfl⟩
      refine zK ?_
      clear zK zG
      refine hideQ fun _ _ => ?_
      k_steps
      refine Stop.of ?_
      refine' normpathS B1 ?nF1 X1 ?nN1 T1 rfl ?nd1 hok.len hok.ne hok.one hok.two hok.tail hok.parts ?_
      (case nF1 => exact F6)
      (case nN1 => exact N6)
      (case nd1 => ktr_room)
      intro t7 h7 tk7 F7 N7
      k_steps
      refine Stop.of (comp_end _ F7 N7 (fun p hp => hp) (LCg.Off3.of off6) hS6 ⟨rfl, ?_⟩)
      rw [List.take_add_one, hx, Option.toList_some, List.map_append]
      exact hz6.push _ _
    case fi1 =>
      rintro zs nw ⟨e6, hz6⟩ D2 h6 tk6 F6 N6 off6
      obtain rfl : led9 = nw := e6.symm
      have off6' := off1_mem off6
      rw [hled] at N6 off6'
      have hl0 : LCg.lst zs = seqObj "list" zs zs.length := rfl
      rw [hl0] at N6
      have q1 := off6' _ (.head _)
      have q2 := off6' _ (.tail _ (.head _))
      have q3 := off6' _ (.tail _ (.tail _ (.head _)))
      have q4 : ∀ p ∈ news, p.1 ≠ D2 := fun p hp => off6' p (.tail _ (.tail _ (.tail _ hp)))
      dsimp only at q1 q2 q3
      have r1 : xa ≠ sa := Nat.ne_of_lt lC.1
      have r2 : da ≠ sa := Nat.ne_of_lt lC1
      have r3 : da ≠ xa := Nat.ne_of_lt l2A
      have r4 : ∀ p ∈ news, p.1 ≠ da := fun p hp => Nat.ne_of_lt (lA p hp)
      k_steps
      rename_i gH hY go lo9 hd9 hf9 ap9 l9 hZ FZ NZ kF kN _ _
      obtain ⟨nl, hnl, kN2⟩ := named kN
      have lg := lt_allLt l9.2.2.2.2
      have hz7 : Strs zs [normP w1, normP w2] := hz6
      have okn : Ok nl := by
        rw [hnl]
        refine Ok.cons_ne (Ok.cons_ne (Ok.cons_ne (Ok.cons_ne (Ok.cons_ne ok r4) (List.forall_mem_cons.mpr ⟨r3, fun p hp => Nat.ne_of_lt (Nat.lt_trans (lA p hp) l2A)⟩)) (List.forall_mem_cons.mpr ⟨r1, List.forall_mem_cons.mpr ⟨r2, fun p hp => Nat.ne_of_lt (Nat.lt_trans (lA p hp) lC1)⟩⟩)) (List.forall_mem_cons.mpr ⟨q1, List.forall_mem_cons.mpr ⟨q2, List.forall_mem_cons.mpr ⟨q3, q4⟩⟩⟩)) ?_
        exact List.forall_mem_cons.mpr ⟨Nat.ne_of_lt l9.1, List.forall_mem_cons.mpr ⟨Nat.ne_of_lt l9.2.1, List.forall_mem_cons.mpr ⟨Nat.ne_of_lt l9.2.2.1, List.forall_mem_cons.mpr ⟨Nat.ne_of_lt l9.2.2.2.1, fun p hp => Nat.ne_of_lt (lg p hp)⟩⟩⟩⟩
      refine ret ⟨xa, da, sa, D2, gH.objs.size⟩ _ _ _ nl kF kN2 ⟨okn, by rw [hnl]; exact .tail _ (.tail _ (.tail _ (.head _))), ⟨_, _, _, _, _, _, by rw [hnl]; exact .tail _ (.tail _ (.tail _ (.tail _ (.head _))))⟩, ⟨so, by rw [hnl]; exact .tail _ (.tail _ (.head _)), hS⟩, ⟨zs, _, by rw [hnl]; exact .tail _ (.head _), hz7⟩, ⟨go, by rw [hnl]; exact .head _, hd9⟩, lo9, Nat.ne_of_lt l9.2.2.2.1⟩ ⟨rfl, ⟨_, rfl⟩, trivial⟩ fun p hp => ⟨by rw [hnl]; exact .tail _ (.tail _ (.tail _ (.tail _ (.tail _ hp)))), Nat.ne_of_lt (lg p hp)⟩
  · have hmve : mvs.isEmpty = false := by
      cases mvs with
      | nil => exact absurd (List.eq_nil_of_length_eq_zero hmvl.symm) hme
      | cons => rfl
    k_steps
    rename_i xa da hA FA NA lA l2A g1 L1 hB FG B1 X1 T1 tkq sa so hC tkr hS lC h9 F9 N9
    have lC1 := lC.2.1
    obtain ⟨led9, hled, N10⟩ := named N9
    have mdl : (dl, seqObj "list" [.str w1 t1, .str w2 t2] nd) ∈ led9 := by rw [hled]; exact .tail _ (.tail _ (.tail _ hd))
    refine Stop.of ?_
    refine LCg.ListComp_U (F₀ := F9) (by with_unfolding_all rfl) (by decide) (by rfl) (by decide) (by rfl) ?_
    k_steps
    refine Stop.of ?_
    refine LCg.CompSrc.ledger (its := #[.str w1 t1, .str w2 t2]) (k := nd) rfl F9 N10 mdl (by rw [sizeLine_eq]; exact Nat.le_of_ble_eq_true rfl) fun g => ?_
    refine comp_inv (n := 2) (fun i zs nw => nw = led9 ∧ Strs zs (([w1, w2].take i).map normP)) ?tu2 ?fi2 _ 0 [] _ (Nat.zero_add _) ⟨rfl, Strs.nil⟩ (.inr ⟨_, mdl, rfl, _, rfl⟩)
    case tu2 =>
      intro i zs nw v I oI C oC D2 m₂ h6 tk6 E' hi hv zr2 hS6 hoC hm1 F6 N6 off6 n1 n2 n3
      refine hideG fun zG zK => ?_
      obtain ⟨e6, hz6⟩ := zr2
      obtain rfl : led9 = nw := e6.symm
      obtain ⟨x, tx, hx, hok, rfl⟩ : ∃ x tx, [w1, w2][i]? = some x ∧ NormOk x ∧ v = .str x tx := by
        have hi2 : i = 0 ∨ i = 1 := by omega
        rcases hi2 with rfl | rfl
        · cases hv; exact ⟨w1, t1, rfl, h1, rfl⟩
        · cases hv; exact ⟨w2, t2, rfl, h2, rfl⟩
      refine zK ?_
      clear zK zG
      refine hideQ fun _ _ => ?_
      k_steps
      refine Stop.of ?_
      refine' normpathS B1 ?nF2 X1 ?nN2 T1 rfl ?nd2 hok.len hok.ne hok.one hok.two hok.tail hok.parts ?_
      (case nF2 => exact F6)
      (case nN2 => exact N6)
      (case nd2 => ktr_room)
      intro t7 h7 tk7 F7 N7
      k_steps
      refine Stop.of (comp_end _ F7 N7 (fun p hp => hp) (LCg.Off3.of off6) hS6 ⟨rfl, ?_⟩)
      rw [List.take_add_one, hx, Option.toList_some, List.map_append]
      exact hz6.push _ _
    case fi2 =>
      rintro zs nw ⟨e6, hz6⟩ D2 h6 tk6 F6 N6 off6
      obtain rfl : led9 = nw := e6.symm
      have off6' := off1_mem off6
      rw [hled] at N6 off6'
      have hl0 : LCg.lst zs = seqObj "list" zs zs.length := rfl
      rw [hl0] at N6
      have q1 := off6' _ (.head _)
      have q2 := off6' _ (.tail _ (.head _))
      have q3 := off6' _ (.tail _ (.tail _ (.head _)))
      have q4 : ∀ p ∈ news, p.1 ≠ D2 := fun p hp => off6' p (.tail _ (.tail _ (.tail _ hp)))
      dsimp only at q1 q2 q3
      have r1 : xa ≠ sa := Nat.ne_of_lt lC.1
      have r2 : da ≠ sa := Nat.ne_of_lt lC1
      have r3 : da ≠ xa := Nat.ne_of_lt l2A
      have r4 : ∀ p ∈ news, p.1 ≠ da := fun p hp => Nat.ne_of_lt (lA p hp)
      k_steps
      rename_i gH hY go lo9 hd9 hf9 ap9 l9 hZ FZ NZ kF kN _ _
      obtain ⟨nl, hnl, kN2⟩ := named kN
      have lg := lt_allLt l9.2.2.2.2
      have hz7 : Strs zs [normP w1, normP w2] := hz6
      have okn : Ok nl := by
        rw [hnl]
        refine Ok.cons_ne (Ok.cons_ne (Ok.cons_ne (Ok.cons_ne (Ok.cons_ne ok r4) (List.forall_mem_cons.mpr ⟨r3, fun p hp => Nat.ne_of_lt (Nat.lt_trans (lA p hp) l2A)⟩)) (List.forall_mem_cons.mpr ⟨r1, List.forall_mem_cons.mpr ⟨r2, fun p hp => Nat.ne_of_lt (Nat.lt_trans (lA p hp) lC1)⟩⟩)) (List.forall_mem_cons.mpr ⟨q1, List.forall_mem_cons.mpr ⟨q2, List.forall_mem_cons.mpr ⟨q3, q4⟩⟩⟩)) ?_
        exact List.forall_mem_cons.mpr ⟨Nat.ne_of_lt l9.1, List.forall_mem_cons.mpr ⟨Nat.ne_of_lt l9.2.1, List.forall_mem_cons.mpr ⟨Nat.ne_of_lt l9.2.2.1, List.forall_mem_cons.mpr ⟨Nat.ne_of_lt l9.2.2.2.1, fun p hp => Nat.ne_of_lt (lg p hp)⟩⟩⟩⟩
      refine ret ⟨xa, da, sa, D2, gH.objs.size⟩ _ _ _ nl kF kN2 ⟨okn, by rw [hnl]; exact .tail _ (.tail _ (.tail _ (.head _))), ⟨_, _, _, _, _, _, by rw [hnl]; exact .tail _ (.tail _ (.tail _ (.tail _ (.head _))))⟩, ⟨so, by rw [hnl]; exact .tail _ (.tail _ (.head _)), hS⟩, ⟨zs, _, by rw [hnl]; exact .tail _ (.head _), hz7⟩, ⟨go, by rw [hnl]; exact .head _, hd9⟩, lo9, Nat.ne_of_lt l9.2.2.2.1⟩ ⟨rfl, ⟨_, rfl⟩, trivial⟩ fun p hp => ⟨by rw [hnl]; exact .tail _ (.tail _ (.tail _ (.tail _ (.tail _ hp)))), Nat.ne_of_lt (lg p hp)⟩

end
end
section
open PySem PySem.W PyProof.Rows PySem.Calls PySem.Spec
/-! the strings of the law, by cases -/
noncomputable def dgs : List Str := [Str.ofString "lib", Str.ofString "li", Str.ofString "b.d"]
noncomputable def partsAll : List (List Str) := (dgs.map fun a => [a]) ++ dgs.flatMap fun a => dgs.map fun b => [a, b]
theorem dg_mem (d : Int) : dg d ∈ dgs := by
  unfold dg
  split
  · exact .head _
  · split
    · exact .tail _ (.head _)
    · exact .tail _ (.tail _ (.head _))
theorem place_mem (z : Int) : placeParts z ∈ partsAll := by
  unfold placeParts partsAll
  split
  · exact List.mem_append_left _ (List.mem_map_of_mem (dg_mem _))
  · exact List.mem_append_right _ (List.mem_flatMap.mpr ⟨_, dg_mem _, List.mem_map_of_mem (dg_mem _)⟩)
theorem base_writ : ∀ p ∈ partsAll, ∀ k ∈ [(0 : Int), 1, 2], ∀ bn ∈ bases5, baseOf ((writ p k ++ Str.ofString "/") ++ bn.1) = bn.1 ∧ ((writ p k ++ Str.ofString "/") ++ bn.1).length ≤ 1000 := by decide +kernel
theorem base_path : ∀ p ∈ partsAll, ∀ bn ∈ bases5, baseOf (dirS (p ++ [bn.1])) = bn.1 ∧ (dirS (p ++ [bn.1])).length ≤ 100 := by decide +kernel
theorem norm_writ : ∀ p ∈ partsAll, ∀ k ∈ [(0 : Int), 1, 2, 3], (writ p k).length ≤ 100 ∧ (writ p k).length ≠ 0 ∧ Txt.slice (writ p k) none (some 1) = Str.ofString "/" ∧ (Txt.slice (writ p k) (some 1) (some 2) == Str.ofString "/") = false ∧ (Txt.slice (writ p k) (some 1) none).length ≤ 100 ∧
    (Txt.split (Txt.slice (writ p k) (some 1) none) (Str.ofString "/")).length ≤ 10 ∧ normP (writ p k) = dirS p := by decide +kernel
noncomputable def modsAll : List (List Str) := [[], [Str.ofString "x"], [Str.ofString "m"], [Str.ofString "n", Str.ofString "x"]]
theorem starts_path : ∀ p ∈ partsAll, ∀ bn ∈ bases5, ∀ q ∈ partsAll, Starts (dirS (p ++ [bn.1])) (dirS q ++ Str.ofString "/") = outP p [q] := by decide +kernel
theorem mods_out : ∀ ms ∈ modsAll, ∀ bn ∈ bases5, (decide (bn.2 ∈ ms) || ms.any (fun y => Starts bn.2 (y ++ Str.ofString "."))) = outP (Txt.split bn.2 (Str.ofString ".")) (ms.map fun x => [x]) := by decide +kernel
end
section
open PySem PySem.W PyProof.Rows PySem.Calls PySem.Spec
theorem words_LawA : True := by
  k_with_none
  k_with "mine room" => ((try simp only [depth_under_make, depth_under_kw, depth_in1, depth_deeper, depth_caller]); (try dsimp only [ktrTop]); omega)
  k_with "mine all" => (first | (with_reducible assumption) | (with_reducible exact allLt_of (by assumption)) | (refine And.intro ?_ ?_; (first | assumption | ((try dsimp only at *); omega)); k_extra "mine all") | (exact allLt_up (by assumption) (by omega)) | (refine allLt_set ?_; k_extra "mine all") | fail)
  k_with "mine lt" => (first | assumption | (refine lt_allLt ?_; k_extra "mine all") | fail)
  k_with "mine ok" => (first | assumption | (refine Ok.setAt ?_ _ _; k_extra "mine ok") | (refine Ok.cons ?_ ?_; (k_extra "mine ok"); (k_extra "mine lt")) | fail)
  k_with "mine ne" => ((try dsimp only); first | assumption | (refine Ne.symm ?_; assumption) | (refine neN ?_; omega) | (apply ne_z1; (case q9m => assumption); (case q9h => k_extra "mine all")) | (apply ne_z2; (case q9m => assumption); (case q9h => k_extra "mine all")) | fail)
  k_with "mine nes" => (first | assumption | exact List.forall_mem_nil _ | (refine List.forall_mem_cons.mpr ⟨?_, ?_⟩; (k_extra "mine ne"); (k_extra "mine nes")) | (refine nes_set ?_; k_extra "mine nes") | (refine nes_lt ?_; k_extra "mine all") | fail)
  k_with "mine mem" => (first | (with_reducible assumption) | ktr_member | (with_reducible exact List.mem_cons_self) | (with_reducible apply mset_z; k_mem) | (with_reducible apply mset_ne_z; (case q9n => k_extra "mine ne"); (case q9x => k_mem)) | (with_reducible refine List.mem_cons_of_mem _ ?_; k_mem) | fail)
  k_with "mine upd" => (first | (with_reducible refine Upd.head ?_; k_extra "mine nes") | (with_reducible apply upd_tail; (case q9ne => k_extra "mine ne"); (case q9u => k_upd)) | (apply upd_z; (case q9k => k_extra "mine ok"); (case q9m => k_mem)) | fail)
  k_with "mine updF" => (first | (with_reducible refine UpdF.head ?_; k_extra "mine nes") | (with_reducible apply updF_tail; (case q9ne => k_extra "mine ne"); (case q9u => k_updF)) | (apply updF_z; (case q9k => k_extra "mine ok"); (case q9m => k_mem)) | fail)
  k_with "mine sub" => (first | exact (fun p hp => hp) | exact (fun p hp => List.mem_cons_of_mem _ hp) | exact (fun p hp => List.mem_cons_of_mem _ (List.mem_cons_of_mem _ hp)) | exact (fun p hp => List.mem_cons_of_mem _ (List.mem_cons_of_mem _ (List.mem_cons_of_mem _ hp))) | (refine List.forall_mem_cons.mpr ⟨?_, ?_⟩; k_mem; k_extra "mine sub") | (intro p hp; (repeat (first | exact hp | refine List.mem_cons_of_mem _ ?_))) | fail)
  k_with "mine units" => ((try simp only [units_in1, units_deeper]); (try dsimp only [ktrTop]); omega)
  k_with "mine leave" => (with_reducible apply HQ.use_z; (case q9h => with_reducible assumption))
  k_with "call builtin:len" => ((k_here; (with_reducible show wpAny _ _ (call (Value.builtin "len") [Value.ref _]) _ _ _); k_dflt (first | (refine len_tup (by k_asm) (by k_mem) (by omega) ?_) | (refine len_lst (by k_asm) (by k_mem) (by omega) ?_))))
  k_with "subscriptTail" => ((k_here; (with_reducible show wpAny _ _ (subscriptTail _ _ (Value.ref _) (Value.str _ _)) _ _ _); k_dflt (refine kda_item (knd := PySem.strKind _ _) (by k_asm) (by k_mem) (by assumption) (strKind_is _ _ _ _) (by assumption) ?_)))
  trivial
section
variable {prog : Program} {w : World} {p : Program} {loose : List Str} {mean : ExcName → Option Value} {mg mb : Str → Option Value} {dp un : Nat} {gd : Option (List Code)} {cn : Str} {cs : Scope} {a : Addr} {ccd : Value} {cl : List (Str × Addr)} {outer : List Env} {A₀ : Around} {base h₀ : Heap} {L : Addr} {m : Str → Option Value} {news : Led} {s : Shared} {Q E : Value → Shared → Prop}
theorem ints_all : ∀ {vs : List Value} {ns : List Int}, IntsAre vs ns → AllAt IsInt vs ns
  | _, _, .nil => AllAt.nil
  | _, _, .cons n t hr => by
    have h := ints_all hr
    refine ⟨by simp [h.1], fun i x hx => ?_⟩
    cases i with
    | zero => simp at hx; exact ⟨_, rfl, t, by rw [hx]⟩
    | succ i => exact h.2 i x (by simpa using hx)
theorem words_la_1 : True := by
  k_with "ite" => (first | (with_reducible refine ite_yes (by with_reducible assumption) ?_) | (with_reducible refine ite_no (by with_reducible assumption) ?_))
  k_with "CompSrc" => ((refine stop_intro ?_))
  k_with "CompEnd" => ((refine stop_intro ?_))
  k_with "subscriptTail" => ((k_here; (with_reducible show wpAny _ _ (subscriptTail _ _ (Value.ref _) (Value.int (Nat.cast _) _)) _ _ _); k_dflt (refine item_int (by k_asm) (by k_mem) (by assumption) (by assumption) (by first | assumption | decide) ?_); intro _))
  k_with "exec Assign cons ListComp" => (((with_reducible show wpAny _ _ (exec (Stmt.Assign _ (Expr.ListComp _ _ _ _) _) _) _ _ _); refine stop_intro ?_))
  trivial
theorem segA {sc : Scope} {cg ce cw : Addr} {QF : Flow → Shared → Prop} (B : Below A₀ base [] h₀) (F : Fr h₀ L s.heap m) (X : (K w.params).In h₀) (N : News h₀ L s.heap news) (T : Top p loose mean mg mb h₀) (XB : (K w.params).In base) (TB : Top p loose mean mg mb base) (hdp : dp + 100 < recursionLimit) (hun : un + 100 < cLine) (hsc : fScope (topS 28) = sc) {st : List Stmt} (hst : (fBody (topS 28)).take 3 = st) {sl : Addr} {items : Array Value} {ns : List Int} (hsl : h₀.IsList sl items) (hints : IntsAre items.toList ns) (hnl : ns.length ≤ 63) (hm1 : m (Str.ofString "script") = some (.ref sl))
    {og oe ow : Obj} (hnews : news = [(cg, og), (ce, oe), (cw, ow)]) (d1 : og.data = .cell none) (d2 : oe.data = .cell none) (d3 : ow.data = .cell none) (n1 : cw ≠ ce) (n2 : cw ≠ cg) (n3 : ce ≠ cg)
    (ret : ∀ nl vs zs h' tk' m', zs.length = 9 → AllAt IsInt vs zs → m' (Str.ofString "numbers") = some (.ref nl) → nl ≠ cg → Fr h₀ L h' m' → News h₀ L h' [(nl, seqObj "list" vs vs.length), (cg, og)] → QF .next { s with heap := h', toks := tk' }) :
    wpAny (model prog w) (ktrTop dp un gd (Str.ofString "law") sc L a ccd [(Str.ofString "given", cg), (Str.ofString "seeds", ce), (Str.ofString "drawn", cw)] []) (execs st (envX (Str.ofString "law") sc L a ccd [(Str.ofString "given", cg), (Str.ofString "seeds", ce), (Str.ofString "drawn", cw)])) QF (fun _ _ => False) s := by
  (conv at hst => lhs; whnf)
  (conv at hsc => lhs; whnf)
  subst hst
  subst hsc
  subst hnews
  have F2 := know F (y := Str.ofString "script") (v := .ref sl) hm1
  clear F
  have m1 := Ne.symm n1
  have m2 := Ne.symm n2
  have m3 := Ne.symm n3
  k_steps
  rename_i D ws hA hI hC hL l1 hB o1 dd l' hD l2 h9 o2 F9 N9 d9
  have hW := ints_all hI
  have hwl : ws.length = (ns.take 9).length := hW.1
  have hwl2 : (ns.take 9).length ≤ 9 := List.length_take_le _ _
  refine hideG fun zG zK => ?_
  obtain ⟨sv, svn, hsv, hS⟩ : ∃ sv svn, W.listOf _ _ = seqObj "list" sv svn ∧ AllAt IsInt sv [0, 31, 38, 58, 49, 77, 67, 20, 1] := ⟨_, 0, rfl, ints_all (.cons _ _ (.cons _ _ (.cons _ _ (.cons _ _ (.cons _ _ (.cons _ _ (.cons _ _ (.cons _ _ (.cons _ _ .nil)))))))))⟩
  rw [hsv] at N9
  have hDl : W.listOf ws.toArray 0 = seqObj "list" ws 0 := rfl
  rw [hDl] at N9
  obtain ⟨led, hled, N10⟩ := named N9
  refine zK ?_
  clear zK zG
  have kl : (l', seqObj "list" sv svn) ∈ led := by rw [hled]; exact .head _
  have kD : (D, seqObj "list" ws 0) ∈ led := by rw [hled]; exact .tail _ (.head _)
  have kg : (cg, og) ∈ led := by rw [hled]; exact .tail _ (.tail _ (.head _))
  have ke : (ce, o2) ∈ led := by rw [hled]; exact .tail _ (.tail _ (.tail _ (.head _)))
  have kw : (cw, o1) ∈ led := by rw [hled]; exact .tail _ (.tail _ (.tail _ (.tail _ (.head _))))
  clear N9 hled
  refine Stop.of ?_
  refine LCg.Assign_ListComp_U (F₀ := F9) rfl (by with_unfolding_all rfl) (by with_unfolding_all rfl) (by decide) (by rfl) (by decide) (by rfl) (by rfl) (by rfl) ?_
  k_steps
  refine Stop.of ?_
  rename (IsRange _ _ _ _ _ _ _ _) => hr
  refine LCg.CompSrc.range (n := 9) (by rfl) (by k_asm) (by k_asm) hr (by decide) (by decide) (by decide) fun g2 => ?_
  refine comp_inv (n := 9) (fun i ys nw => (∀ p ∈ led, p ∈ nw) ∧ ∃ zs : List Int, zs.length = i ∧ AllAt IsInt ys zs) ?turn ?fin _ 0 [] _ (Nat.zero_add _) ⟨by k_extra "mine sub", [], rfl, AllAt.nil⟩ trivial
  case turn =>
    intro i ys nw v I oI C oC D2 m₂ h6 tk6 E' hi zr1 zr2 hS6 hoC hm1 F6 N6 off6 q1 q2 q3
    refine hideG fun zG zK => ?_
    obtain ⟨tv, rfl⟩ := zr1
    obtain ⟨hsub, zs, hzl, hz⟩ := zr2
    rw [Int.zero_add] at hm1
    have el := hsub _ kl
    have eD := hsub _ kD
    have ee := hsub _ ke
    have ew := hsub _ kw
    obtain ⟨k0, hk0⟩ : ∃ k0 : Int, ([0, 31, 38, 58, 49, 77, 67, 20, 1] : List Int)[i]? = some k0 := ⟨_, List.getElem?_eq_getElem (by simpa using hi)⟩
    refine zK ?_
    clear zK zG
    refine hideQ fun _ _ => ?_
    by_cases hlt : i < (ns.take 9).length
    · have hk1 : (ns.take 9)[i]? = some (ns.take 9)[i] := List.getElem?_eq_getElem hlt
      have kb : decide ((i : Int) < (ws.length : Int)) = true := decide_eq_true (by omega)
      k_steps
      exact Stop.of (comp_end _ F6 N6 (fun p hp => hp) (LCg.Off3.of off6) trivial ⟨hsub, zs ++ [_], by rw [List.length_append, hzl]; rfl, hz.push ⟨_, rfl⟩⟩)
    · have kb : decide ((i : Int) < (ws.length : Int)) = false := decide_eq_false (by omega)
      k_steps
      exact Stop.of (comp_end _ F6 N6 (fun p hp => hp) (LCg.Off3.of off6) trivial ⟨hsub, zs ++ [_], by rw [List.length_append, hzl]; rfl, hz.push ⟨_, rfl⟩⟩)
  case fin =>
    intro ys nw zr3 D2 h6 tk6 F6 N6 off6
    refine hideG fun zG zK => ?_
    obtain ⟨hsub, zs, hzl, hz⟩ := zr3
    refine zK ?_
    clear zK zG
    dsimp only
    refine wpAny_execs_nil ?_
    refine ret D2 ys zs _ _ _ hzl hz ?_ (Ne.symm (off1_mem off6 _ (hsub _ kg))) F6 (News.sub N6 fun p hp => ?_)
    · rfl
    · rcases List.mem_cons.mp hp with rfl | hp
      · exact .head _
      · rw [List.mem_singleton.mp hp]; exact .tail _ (hsub _ kg)

end
end
section
open PySem PySem.W PyProof.Rows PySem.Calls PySem.Spec
theorem words_LawB : True := by
  k_with_none
  k_with "mine room" => ((try simp only [depth_under_make, depth_under_kw, depth_in1, depth_deeper, depth_caller]); (try dsimp only [ktrTop]); omega)
  k_with "mine all" => (first | (with_reducible assumption) | (with_reducible exact allLt_of (by assumption)) | (refine And.intro ?_ ?_; (first | assumption | ((try dsimp only at *); omega)); k_extra "mine all") | (exact allLt_up (by assumption) (by omega)) | (refine allLt_set ?_; k_extra "mine all") | fail)
  k_with "mine lt" => (first | assumption | (refine lt_allLt ?_; k_extra "mine all") | fail)
  k_with "mine ok" => (first | assumption | (refine Ok.setAt ?_ _ _; k_extra "mine ok") | (refine Ok.cons ?_ ?_; (k_extra "mine ok"); (k_extra "mine lt")) | fail)
  k_with "mine ne" => ((try dsimp only); first | assumption | (refine Ne.symm ?_; assumption) | (refine neN ?_; omega) | (apply ne_z1; (case q9m => assumption); (case q9h => k_extra "mine all")) | (apply ne_z2; (case q9m => assumption); (case q9h => k_extra "mine all")) | fail)
  k_with "mine nes" => (first | assumption | exact List.forall_mem_nil _ | (refine List.forall_mem_cons.mpr ⟨?_, ?_⟩; (k_extra "mine ne"); (k_extra "mine nes")) | (refine nes_set ?_; k_extra "mine nes") | (refine nes_lt ?_; k_extra "mine all") | fail)
  k_with "mine mem" => (first | (with_reducible assumption) | ktr_member | (with_reducible exact List.mem_cons_self) | (with_reducible apply mset_z; k_mem) | (with_reducible apply mset_ne_z; (case q9n => k_extra "mine ne"); (case q9x => k_mem)) | (with_reducible refine List.mem_cons_of_mem _ ?_; k_mem) | fail)
  k_with "mine upd" => (first | (with_reducible refine Upd.head ?_; k_extra "mine nes") | (with_reducible apply upd_tail; (case q9ne => k_extra "mine ne"); (case q9u => k_upd)) | (apply upd_z; (case q9k => k_extra "mine ok"); (case q9m => k_mem)) | fail)
  k_with "mine updF" => (first | (with_reducible refine UpdF.head ?_; k_extra "mine nes") | (with_reducible apply updF_tail; (case q9ne => k_extra "mine ne"); (case q9u => k_updF)) | (apply updF_z; (case q9k => k_extra "mine ok"); (case q9m => k_mem)) | fail)
  k_with "mine sub" => (first | exact (fun p hp => hp) | exact (fun p hp => List.mem_cons_of_mem _ hp) | exact (fun p hp => List.mem_cons_of_mem _ (List.mem_cons_of_mem _ hp)) | exact (fun p hp => List.mem_cons_of_mem _ (List.mem_cons_of_mem _ (List.mem_cons_of_mem _ hp))) | (refine List.forall_mem_cons.mpr ⟨?_, ?_⟩; k_mem; k_extra "mine sub") | (intro p hp; (repeat (first | exact hp | refine List.mem_cons_of_mem _ ?_))) | fail)
  k_with "mine units" => ((try simp only [units_in1, units_deeper]); (try dsimp only [ktrTop]); omega)
  k_with "mine leave" => (with_reducible apply HQ.use_z; (case q9h => with_reducible assumption))
  k_with "subscriptTail" => ((k_here; (with_reducible show wpAny _ _ (subscriptTail _ _ (Value.ref _) (Value.str _ _)) _ _ _); k_dflt (refine kda_item (knd := PySem.strKind _ _) (by k_asm) (by k_mem) (by assumption) (strKind_is _ _ _ _) (by assumption) ?_)))
  trivial
section
variable {prog : Program} {w : World} {p : Program} {loose : List Str} {mean : ExcName → Option Value} {mg mb : Str → Option Value} {dp un : Nat} {gd : Option (List Code)} {cn : Str} {cs : Scope} {a : Addr} {ccd : Value} {cl : List (Str × Addr)} {outer : List Env} {A₀ : Around} {base h₀ : Heap} {L : Addr} {m : Str → Option Value} {news : Led} {s : Shared} {Q E : Value → Shared → Prop}
theorem Strs.mk5 (a b c d e : Str) (t1 t2 t3 t4 t5 : Tok) : Strs [.str a t1, .str b t2, .str c t3, .str d t4, .str e t5] [a, b, c, d, e] := (((Strs.mk3 a b c t1 t2 t3).push d t4).push e t5)
theorem fmod5_lo (e : Int) : 0 ≤ e.fmod 5 := Int.fmod_nonneg_of_pos _ (by decide)
theorem fmod5_hi (e : Int) : e.fmod 5 < 5 := Int.fmod_lt_of_pos _ (by decide)
theorem ints_cons {v : Value} {vs : List Value} {n : Nat} {zs : List Int} (h : AllAt IsInt vs zs) (hl : zs.length = n + 1) : ∃ k t us ks, vs = .int k t :: us ∧ zs = k :: ks ∧ AllAt IsInt us ks ∧ ks.length = n := by
  cases vs with
  | nil => have := h.1; simp at this; omega
  | cons v us =>
    refine hideG fun zG zK => ?_
    obtain ⟨k, ks, rfl, ⟨t, rfl⟩, h'⟩ := h.cons_inv
    refine zK ?_
    clear zK zG
    exact ⟨k, t, us, ks, rfl, rfl, h', by simpa using hl⟩
theorem bases_at {k : Nat} {b n : Str} (hb : [Str.ofString "m.py", Str.ofString "m.pyc", Str.ofString "n.py", Str.ofString "x.y.py", Str.ofString ".rc"][k]? = some b) (hn : [Str.ofString "m", Str.ofString "m", Str.ofString "n", Str.ofString "x.y", Str.ofString ".rc"][k]? = some n) : (b, n) ∈ bases5 := by
  unfold bases5
  match k with
  | 0 => cases hb; cases hn; exact .head _
  | 1 => cases hb; cases hn; exact .tail _ (.head _)
  | 2 => cases hb; cases hn; exact .tail _ (.tail _ (.head _))
  | 3 => cases hb; cases hn; exact .tail _ (.tail _ (.tail _ (.head _)))
  | 4 => cases hb; cases hn; exact .tail _ (.tail _ (.tail _ (.tail _ (.head _))))
  | k + 5 => simp at hb
theorem Ok.tail_ne {l : Led} {a : Addr} {o : Obj} (h : Ok ((a, o) :: l)) : ∀ p ∈ l, p.1 ≠ a := fun p hp e => (List.nodup_cons.mp h).1 (List.mem_map.mpr ⟨p, hp, e⟩)
theorem Ok.tail {l : Led} {p : Addr × Obj} (h : Ok (p :: l)) : Ok l := (List.nodup_cons.mp h).2
structure Good (f : File) : Prop where
  parts : f.parts ∈ partsAll
  base : (f.base, f.name) ∈ bases5
theorem file_ok : ∀ p ∈ partsAll, ∀ bn ∈ bases5, (p.length = 1 ∨ p.length = 2) ∧ (∀ x ∈ p, x.length ≤ 20) ∧ bn.1.length ≤ 20 ∧ bn.2.length ≤ 20 ∧ ((Txt.split bn.2 dot).length = 1 ∨ (Txt.split bn.2 dot).length = 2) := by decide +kernel
theorem Good.ok {f : File} (h : Good f) : FileOk f := by
  refine hideG fun zG zK => ?_
  obtain ⟨a, b, c, d, e⟩ := file_ok _ h.parts _ h.base
  refine zK ?_
  clear zK zG
  exact ⟨a, b, c, d, e⟩
theorem words_lb_1 : True := by
  k_with "subscriptTail" => ((k_here; (with_reducible show wpAny _ _ (subscriptTail _ _ (Value.ref _) (Value.int (Int.fmod _ 5) _)) _ _ _); k_dflt (refine item_strs (by k_asm) (by k_mem) (Strs.mk5 _ _ _ _ _ _ _ _ _ _) (fmod5_lo _) (fmod5_hi _) (Nat.le_of_ble_eq_true rfl) ?_); intro _ _ _))
  k_with "call ref" => (((with_reducible show wpAny _ _ (call (Value.ref 236) _) _ _ _); refine stop_intro ?_))
  k_with "exec For" => (((with_reducible show wpAny _ _ (exec (Stmt.For _ _ _ _ _) _) _ _ _); refine stop_intro ?_))
  trivial
theorem words_LawB_m1 : True := by
  k_with "mine pyIter" => ((with_reducible show wpAny _ _ (pyIter _) _ _ _); refine stop_intro ?_)
  trivial
theorem segB {sc : Scope} {cg ce cw : Addr} {QF : Flow → Shared → Prop} (B : Below A₀ base [] h₀) (F : Fr h₀ L s.heap m) (X : (K w.params).In h₀) (N : News h₀ L s.heap news) (T : Top p loose mean mg mb h₀) (XB : (K w.params).In base) (TB : Top p loose mean mg mb base) (hdp : dp + 100 < recursionLimit) (hun : un + 100 < cLine) (hsc : fScope (topS 28) = sc) {st : List Stmt} (hst : ((fBody (topS 28)).drop 3).take 3 = st) {nl : Addr} {og : Obj} {z0 z1 z2 z3 z4 z5 z6 z7 z8 : Int} {t0 t1 t2 t3 t4 t5 t6 t7 t8 : Tok} {k0 : Nat} (hm1 : m (Str.ofString "numbers") = some (.ref nl)) (hne : nl ≠ cg)
    (hnews : news = [(nl, seqObj "list" [.int z0 t0, .int z1 t1, .int z2 t2, .int z3 t3, .int z4 t4, .int z5 t5, .int z6 t6, .int z7 t7, .int z8 t8] k0), (cg, og)])
    (ret : ∀ fl fvs fn fs rest h' tk' m', AllAt (FileAt rest) fvs fs → fs.length = 6 → (∀ f ∈ fs, Good f) → (∀ p ∈ news, p ∈ rest) → Ok ((fl, seqObj "list" fvs fn) :: rest) → m' (Str.ofString "numbers") = some (.ref nl) → m' (Str.ofString "files") = some (.ref fl) → Fr h₀ L h' m' → News h₀ L h' ((fl, seqObj "list" fvs fn) :: rest) → QF .next { s with heap := h', toks := tk' }) :
    wpAny (model prog w) (ktrTop dp un gd (Str.ofString "law") sc L a ccd [(Str.ofString "given", cg), (Str.ofString "seeds", ce), (Str.ofString "drawn", cw)] []) (execs st (envX (Str.ofString "law") sc L a ccd [(Str.ofString "given", cg), (Str.ofString "seeds", ce), (Str.ofString "drawn", cw)])) QF (fun _ _ => False) s := by
  (conv at hst => lhs; whnf)
  (conv at hsc => lhs; whnf)
  subst hst
  subst hsc
  subst hnews
  have F2 := know F (y := Str.ofString "numbers") (v := .ref nl) hm1
  clear F
  have hne' := Ne.symm hne
  k_steps
  refine Stop.of ?_
  refine For_invV h₀ rfl rfl ?_
  k_steps
  rename_i bl hA l1 hB fl hC l2 hD D1 h9 F9 N9 lC
  refine Stop.of ?_
  have hb : W.listOf #[] 0 = seqObj "list" [] 0 := rfl
  rw [hb] at N9
  have hd6 : W.listOf #[Value.int z0 t0, Value.int z1 t1, Value.int z2 t2, Value.int z3 t3, Value.int z4 t4, Value.int z5 t5] 0 = seqObj "list" [.int z0 t0, .int z1 t1, .int z2 t2, .int z3 t3, .int z4 t4, .int z5 t5] 0 := rfl
  rw [hd6] at N9
  have hsix : AllAt IsInt [.int z0 t0, .int z1 t1, .int z2 t2, .int z3 t3, .int z4 t4, .int z5 t5] [z0, z1, z2, z3, z4, z5] := ints_all (.cons _ _ (.cons _ _ (.cons _ _ (.cons _ _ (.cons _ _ (.cons _ _ .nil))))))
  generalize hsv : [Value.int z0 t0, Value.int z1 t1, Value.int z2 t2, Value.int z3 t3, Value.int z4 t4, Value.int z5 t5] = sv at *
  have hsl : sv.length = 6 := by rw [← hsv]; rfl
  refine hideG fun zG zK => ?_
  obtain ⟨no, hno⟩ : ∃ o : Obj, o = seqObj "list" [.int z0 t0, .int z1 t1, .int z2 t2, .int z3 t3, .int z4 t4, .int z5 t5, .int z6 t6, .int z7 t7, .int z8 t8] k0 := ⟨_, rfl⟩
  rw [← hno] at N9 ret
  obtain ⟨s1, s2, s3, s4, s5, bs, hbs, N10⟩ : ∃ s1 s2 s3 s4 s5 bs, bs = [(D1, seqObj "list" sv 0), (bl, W.listOf #[Value.str (Str.ofString "m.py") s1, Value.str (Str.ofString "m.pyc") s2, Value.str (Str.ofString "n.py") s3, Value.str (Str.ofString "x.y.py") s4, Value.str (Str.ofString ".rc") s5] 0), (nl, no), (cg, og)] ∧ News h₀ L h9 ((fl, seqObj "list" [] 0) :: bs) :=
    ⟨_, _, _, _, _, _, rfl, News.sub N9 (List.forall_mem_cons.mpr ⟨.tail _ (.head _), List.forall_mem_cons.mpr ⟨.head _, fun p hp => .tail _ (.tail _ hp)⟩⟩)⟩
  refine zK ?_
  clear zK zG
  have k1 : (D1, seqObj "list" sv 0) ∈ bs := by rw [hbs]; exact .head _
  have k2 : (bl, W.listOf #[Value.str (Str.ofString "m.py") s1, Value.str (Str.ofString "m.pyc") s2, Value.str (Str.ofString "n.py") s3, Value.str (Str.ofString "x.y.py") s4, Value.str (Str.ofString ".rc") s5] 0) ∈ bs := by rw [hbs]; exact .tail _ (.head _)
  have k3 : (nl, no) ∈ bs := by rw [hbs]; exact .tail _ (.tail _ (.head _))
  have k4 : (cg, og) ∈ bs := by rw [hbs]; exact .tail _ (.tail _ (.tail _ (.head _)))
  have kne : ∀ p ∈ bs, p.1 ≠ fl := by
    rw [hbs]
    exact List.forall_mem_cons.mpr ⟨Nat.ne_of_gt lC.1, List.forall_mem_cons.mpr ⟨Nat.ne_of_lt l2.1, List.forall_mem_cons.mpr ⟨Nat.ne_of_lt l2.2.1, List.forall_mem_cons.mpr ⟨Nat.ne_of_lt l2.2.2, List.forall_mem_nil _⟩⟩⟩⟩
  have okb : Ok bs := by
    rw [hbs]
    refine Ok.cons_ne (Ok.cons_ne (Ok.cons_ne (Ok.cons_ne Ok.nil (List.forall_mem_nil _)) ?_) ?_) ?_
    · exact List.forall_mem_cons.mpr ⟨hne', List.forall_mem_nil _⟩
    · exact List.forall_mem_cons.mpr ⟨Nat.ne_of_lt l1.1, List.forall_mem_cons.mpr ⟨Nat.ne_of_lt l1.2, List.forall_mem_nil _⟩⟩
    · exact List.forall_mem_cons.mpr ⟨Nat.ne_of_lt lC.2.1, List.forall_mem_cons.mpr ⟨Nat.ne_of_lt lC.2.2.1, List.forall_mem_cons.mpr ⟨Nat.ne_of_lt lC.2.2.2, List.forall_mem_nil _⟩⟩⟩
  clear N9
  refine iter_list (fun i m₁ nw => Ex4 fun fvs n fs rest => All9 (nw = (fl, seqObj "list" fvs n) :: rest) (AllAt (FileAt rest) fvs fs) (fs.length = i) ((∀ f ∈ fs, Good f)) ((∀ p ∈ bs, p ∈ rest)) (Ok nw) (m₁ (Str.ofString "numbers") = some (.ref nl)) (m₁ (Str.ofString "bases") = some (.ref bl)) (m₁ (Str.ofString "files") = some (.ref fl))) rfl F9 N10 (.tail _ k1) ⟨[], 0, [], bs, rfl, AllAt.nil, rfl, (fun f hf => nomatch hf), fun p hp => hp, Ok.cons_ne okb kne, rfl, rfl, rfl⟩ ?turn ?done
  case turn =>
    clear F9 N10
    intro i v m₁ nw h6 tk6 I io hv zr1 hl6 hnI F6 N6
    refine hideG fun zG zK => ?_
    obtain ⟨fvs, n, fs, rest, rfl, hfs, hfl, hgood, hbr, okn, w1, w2, w3⟩ := zr1
    obtain ⟨z, hz, t, rfl⟩ := hsix.at hv
    refine zK ?_
    clear zK zG
    have F7 := know (know (know F6 (y := Str.ofString "numbers") w1) (y := Str.ofString "bases") w2) (y := Str.ofString "files") w3
    clear F6
    have hi6 : i < 6 := by have := (List.getElem?_eq_some_iff.mp hv).1; omega
    have r2 := hbr _ k2
    have hfvl : fvs.length = fs.length := hfs.1
    have fI : fl ≠ I := hnI _ (.head _)
    have fI' := Ne.symm fI
    have rne : ∀ p ∈ rest, p.1 ≠ fl := (okn.tail_ne)
    refine hideQ fun _ _ => ?_
    k_steps
    refine Stop.of ?_
    refine' placeS B ?nF X ?nN T rfl ?nd ?_
    (case nF => k_asm)
    (case nN => k_asm)
    (case nd => ktr_room)
    intro D2 pvs pn h8 tk8 hpv F8 N8 off8
    have dI := Ne.symm (off8 _ (.head _))
    have dI' := off8 _ (.head _)
    have df := off8 _ (.tail _ (.head _))
    have df' := Ne.symm df
    k_steps
    rename_i xb tb hxb l' hZ1 lD xn tn hxn D3 hZ2 lE hZ3 F9 N9
    rw [List.push_toArray] at N9
    have lr := lt_allLt lE.2.2.2.2
    have e2 : ∀ p ∈ (D2, seqObj "list" pvs pn) :: rest, p.1 ≠ D3 := List.forall_mem_cons.mpr ⟨Nat.ne_of_lt lE.2.1, fun p hp => Nat.ne_of_lt (lr p hp)⟩
    have e1 : ∀ p ∈ rest, p.1 ≠ D2 := fun p hp => off8 p (.tail _ (.tail _ hp))
    have ok3 : Ok ((D3, seqObj "tuple" [.ref D2, .str xb tb, .str xn tn] 0) :: (D2, seqObj "list" pvs pn) :: rest) := Ok.cons_ne (Ok.cons_ne okn.tail e1) e2
    have nf : ∀ p ∈ (D3, seqObj "tuple" [.ref D2, .str xb tb, .str xn tn] 0) :: (D2, seqObj "list" pvs pn) :: rest, p.1 ≠ fl := List.forall_mem_cons.mpr ⟨Nat.ne_of_gt lE.2.2.2.1, List.forall_mem_cons.mpr ⟨df', rne⟩⟩
    have sub3 : ∀ p ∈ rest, p ∈ (D3, seqObj "tuple" [.ref D2, .str xb tb, .str xn tn] 0) :: (D2, seqObj "list" pvs pn) :: rest := fun p hp => .tail _ (.tail _ hp)
    refine ⟨_, _, _, (fl, seqObj "list" (fvs ++ [.ref D3]) (n + 1)) :: (D3, seqObj "tuple" [.ref D2, .str xb tb, .str xn tn] 0) :: (D2, seqObj "list" pvs pn) :: rest, rfl, F9, ?_, .tail _ (sub3 _ (hbr _ k1)), ?_, fvs ++ [.ref D3], n + 1, fs ++ [⟨placeParts z, xb, xn⟩], _, rfl, (hfs.sub fun v x h => h.sub sub3).push ⟨D3, .ref D2, tb, tn, 0, rfl, .head _, D2, pvs, pn, rfl, .tail _ (.head _), hpv⟩, by rw [List.length_append, hfl]; rfl, fun f hf => ?_, fun p hp => sub3 p (hbr p hp), Ok.cons_ne ok3 nf, rfl, rfl, rfl⟩
    · refine News.sub N9 (List.forall_mem_cons.mpr ⟨.tail _ (.tail _ (.tail _ (.head _))), List.forall_mem_cons.mpr ⟨.tail _ (.tail _ (.tail _ (.tail _ (.head _)))), List.forall_mem_cons.mpr ⟨.head _, List.forall_mem_cons.mpr ⟨.tail _ (.tail _ (.head _)), fun p hp => .tail _ (.tail _ (.tail _ (.tail _ (.tail _ hp))))⟩⟩⟩⟩)
    · exact List.forall_mem_cons.mpr ⟨fI, List.forall_mem_cons.mpr ⟨Nat.ne_of_gt lE.2.2.1, List.forall_mem_cons.mpr ⟨dI, fun p hp => hnI p (.tail _ hp)⟩⟩⟩
    · rcases List.mem_append.mp hf with hf | hf
      · exact hgood f hf
      · rw [List.mem_singleton.mp hf]
        exact ⟨place_mem z, bases_at hxb hxn⟩
  case done =>
    clear F9 N10
    intro m₁ nw h6 tk6 zr2 hl6 F6 N6
    refine hideG fun zG zK => ?_
    obtain ⟨fvs, n, fs, rest, rfl, hfs, hfl, hgood, hbr, okn, w1, w2, w3⟩ := zr2
    refine zK ?_
    clear zK zG
    dsimp only
    refine wpAny_execs_nil ?_
    exact ret fl fvs n fs rest _ _ _ hfs (by rw [hfl, hsl]) hgood (List.forall_mem_cons.mpr ⟨hbr _ k3, List.forall_mem_cons.mpr ⟨hbr _ k4, List.forall_mem_nil _⟩⟩) okn w1 w3 F6 N6

end
end
section
open PySem PySem.W PyProof.Rows PySem.Calls PySem.Spec
theorem words_LawC : True := by
  k_with_none
  k_with "mine room" => ((try simp only [depth_under_make, depth_under_kw, depth_in1, depth_deeper, depth_caller]); (try dsimp only [ktrTop]); omega)
  k_with "mine all" => (first | (with_reducible assumption) | (with_reducible exact allLt_of (by assumption)) | (refine And.intro ?_ ?_; (first | assumption | ((try dsimp only at *); omega)); k_extra "mine all") | (exact allLt_up (by assumption) (by omega)) | (refine allLt_set ?_; k_extra "mine all") | fail)
  k_with "mine lt" => (first | assumption | (refine lt_allLt ?_; k_extra "mine all") | fail)
  k_with "mine ok" => (first | assumption | (refine Ok.setAt ?_ _ _; k_extra "mine ok") | (refine Ok.cons ?_ ?_; (k_extra "mine ok"); (k_extra "mine lt")) | fail)
  k_with "mine ne" => ((try dsimp only); first | assumption | (refine Ne.symm ?_; assumption) | (refine neN ?_; omega) | (apply ne_z1; (case q9m => assumption); (case q9h => k_extra "mine all")) | (apply ne_z2; (case q9m => assumption); (case q9h => k_extra "mine all")) | fail)
  k_with "mine nes" => (first | assumption | exact List.forall_mem_nil _ | (refine List.forall_mem_cons.mpr ⟨?_, ?_⟩; (k_extra "mine ne"); (k_extra "mine nes")) | (refine nes_set ?_; k_extra "mine nes") | (refine nes_lt ?_; k_extra "mine all") | fail)
  k_with "mine mem" => (first | (with_reducible assumption) | ktr_member | (with_reducible exact List.mem_cons_self) | (with_reducible apply mset_z; k_mem) | (with_reducible apply mset_ne_z; (case q9n => k_extra "mine ne"); (case q9x => k_mem)) | (with_reducible refine List.mem_cons_of_mem _ ?_; k_mem) | fail)
  k_with "mine upd" => (first | (with_reducible refine Upd.head ?_; k_extra "mine nes") | (with_reducible apply upd_tail; (case q9ne => k_extra "mine ne"); (case q9u => k_upd)) | (apply upd_z; (case q9k => k_extra "mine ok"); (case q9m => k_mem)) | fail)
  k_with "mine updF" => (first | (with_reducible refine UpdF.head ?_; k_extra "mine nes") | (with_reducible apply updF_tail; (case q9ne => k_extra "mine ne"); (case q9u => k_updF)) | (apply updF_z; (case q9k => k_extra "mine ok"); (case q9m => k_mem)) | fail)
  k_with "mine sub" => (first | exact (fun p hp => hp) | exact (fun p hp => List.mem_cons_of_mem _ hp) | exact (fun p hp => List.mem_cons_of_mem _ (List.mem_cons_of_mem _ hp)) | exact (fun p hp => List.mem_cons_of_mem _ (List.mem_cons_of_mem _ (List.mem_cons_of_mem _ hp))) | (refine List.forall_mem_cons.mpr ⟨?_, ?_⟩; k_mem; k_extra "mine sub") | (intro p hp; (repeat (first | exact hp | refine List.mem_cons_of_mem _ ?_))) | fail)
  k_with "mine units" => ((try simp only [units_in1, units_deeper]); (try dsimp only [ktrTop]); omega)
  k_with "mine leave" => (with_reducible apply HQ.use_z; (case q9h => with_reducible assumption))
  trivial
section
variable {prog : Program} {w : World} {p : Program} {loose : List Str} {mean : ExcName → Option Value} {mg mb : Str → Option Value} {dp un : Nat} {gd : Option (List Code)} {cn : Str} {cs : Scope} {a : Addr} {ccd : Value} {cl : List (Str × Addr)} {outer : List Env} {A₀ : Around} {base h₀ : Heap} {L : Addr} {m : Str → Option Value} {news : Led} {s : Shared} {Q E : Value → Shared → Prop}
theorem words_lc_1 : True := by
  k_with "exec Assign cons ListComp" => (((with_reducible show wpAny _ _ (exec (Stmt.Assign _ (Expr.ListComp _ _ _ _) _) _) _ _ _); refine stop_intro ?_))
  k_with "CompSrc" => ((refine stop_intro ?_))
  k_with "CompEnd" => ((refine stop_intro ?_))
  k_with "call ref" => (((with_reducible show wpAny _ _ (call (Value.ref 236) _) _ _ _); refine stop_intro ?_))
  k_with "call ref" => (((with_reducible show wpAny _ _ (call (Value.ref 243) _) _ _ _); refine stop_intro ?_))
  trivial
theorem fmod4_lo (e : Int) : 0 ≤ e.fmod 4 := Int.fmod_nonneg_of_pos _ (by decide)
theorem fmod4_hi (e : Int) : e.fmod 4 < 4 := Int.fmod_lt_of_pos _ (by decide)
theorem place_short : ∀ p ∈ partsAll, (∀ x ∈ p, x.length ≤ 100) ∧ p.length ≤ 10 := by decide +kernel
noncomputable def wayOf (z : Int) : Str := writ (placeParts z) ((z.fdiv 18).fmod 4)
theorem words_LawC_m1 : True := by
  k_with "mine same" => (((try simp only [if_neg hy]); (repeat' split); all_goals (first | rfl | (rename_i e; rw [e]; symm; assumption) | (subst_vars; symm; assumption) | simp_all)))
  trivial
theorem segC1 {sc : Scope} {cg ce cw : Addr} {QF : Flow → Shared → Prop} (B : Below A₀ base [] h₀) (F : Fr h₀ L s.heap m) (X : (K w.params).In h₀) (N : News h₀ L s.heap news) (T : Top p loose mean mg mb h₀) (XB : (K w.params).In base) (TB : Top p loose mean mg mb base) (hdp : dp + 100 < recursionLimit) (hun : un + 100 < cLine) (hsc : fScope (topS 28) = sc) {st : Stmt} (hst : stAt (fBody (topS 28)) 6 = st) {nl : Addr} {z0 z1 z2 z3 z4 z5 z6 z7 z8 : Int} {t0 t1 t2 t3 t4 t5 t6 t7 t8 : Tok} {k0 : Nat} (hm1 : m (Str.ofString "numbers") = some (.ref nl)) (ok : Ok news)
    (hnl : (nl, seqObj "list" [.int z0 t0, .int z1 t1, .int z2 t2, .int z3 t3, .int z4 t4, .int z5 t5, .int z6 t6, .int z7 t7, .int z8 t8] k0) ∈ news)
    (ret : ∀ pl pvs rest h' tk' m', AllAt (PartsAt rest) pvs [placeParts z6, placeParts z7] → (∀ p ∈ news, p ∈ rest) → Ok ((pl, LCg.lst pvs) :: rest) → (∀ y, y ≠ Str.ofString "places" → m' y = m y) → m' (Str.ofString "places") = some (.ref pl) → Fr h₀ L h' m' → News h₀ L h' ((pl, LCg.lst pvs) :: rest) → QF .next { s with heap := h', toks := tk' }) :
    wpAny (model prog w) (ktrTop dp un gd (Str.ofString "law") sc L a ccd [(Str.ofString "given", cg), (Str.ofString "seeds", ce), (Str.ofString "drawn", cw)] []) (exec st (envX (Str.ofString "law") sc L a ccd [(Str.ofString "given", cg), (Str.ofString "seeds", ce), (Str.ofString "drawn", cw)])) QF (fun _ _ => False) s := by
  (conv at hst => lhs; whnf)
  (conv at hsc => lhs; whnf)
  subst hst
  subst hsc
  have F2 := know F (y := Str.ofString "numbers") (v := .ref nl) hm1
  clear F
  k_steps
  refine Stop.of ?_
  refine LCg.Assign_ListComp_U (F₀ := F2) rfl (by with_unfolding_all rfl) (by with_unfolding_all rfl) (by decide) (by rfl) (by decide) (by rfl) (by rfl) (by rfl) ?_
  k_steps
  rename_i D hZ F9 N9 l9
  refine Stop.of ?_
  have hD : W.listOf #[Value.int z6 t6, Value.int z7 t7] 0 = seqObj "list" [.int z6 t6, .int z7 t7] 0 := rfl
  rw [hD] at N9
  obtain ⟨led, hled, N10⟩ := named N9
  have kD : (D, seqObj "list" [.int z6 t6, .int z7 t7] 0) ∈ led := by rw [hled]; exact .head _
  have okl : Ok led := by rw [hled]; exact Ok.cons_ne ok fun p hp => Nat.ne_of_lt (l9 p hp)
  have subl : ∀ p ∈ news, p ∈ led := by rw [hled]; exact fun p hp => .tail _ hp
  refine LCg.CompSrc.ledger (its := #[.int z6 t6, .int z7 t7]) (k := 0) rfl F9 N10 kD (by rw [sizeLine_eq]; exact Nat.le_of_ble_eq_true rfl) fun g => ?_
  refine comp_inv (n := 2) (fun i ys nw => All3 ((∀ p ∈ led, p ∈ nw)) (Ok nw) (AllAt (PartsAt nw) ys ([placeParts z6, placeParts z7].take i))) ?turn ?fin _ 0 [] _ (Nat.zero_add _) ⟨fun p hp => hp, okl, AllAt.nil⟩ (.inr ⟨_, kD, rfl, _, rfl⟩)
  case turn =>
    intro i ys nw v I oI C oC D2 m₂ h6 tk6 E' hi hv zr1 hS6 hoC hm1 F6 N6 off6 q1 q2 q3
    refine hideG fun zG zK => ?_
    obtain ⟨hsub, oknw, hys⟩ := zr1
    obtain ⟨z, tz, hx, rfl⟩ : ∃ z tz, [placeParts z6, placeParts z7][i]? = some (placeParts z) ∧ v = .int z tz := by
      have hi2 : i = 0 ∨ i = 1 := by omega
      rcases hi2 with rfl | rfl
      · cases hv; exact ⟨z6, t6, rfl, rfl⟩
      · cases hv; exact ⟨z7, t7, rfl, rfl⟩
    refine zK ?_
    clear zK zG
    refine hideQ fun _ _ => ?_
    k_steps
    refine Stop.of ?_
    refine' placeS B ?nF X ?nN T rfl ?nd ?_
    (case nF => k_asm)
    (case nN => k_asm)
    (case nd => ktr_room)
    intro D3 pvs pn h8 tk8 hpv F8 N8 off8
    k_steps
    have o1 := off8 _ (.head _)
    have o2 := off8 _ (.tail _ (.head _))
    have o3 := off8 _ (.tail _ (.tail _ (.head _)))
    have o4 : ∀ p ∈ nw, p.1 ≠ D3 := fun p hp => off8 p (.tail _ (.tail _ (.tail _ hp)))
    refine Stop.of (comp_end ((D3, seqObj "list" pvs pn) :: nw) F8 N8 (List.forall_mem_cons.mpr ⟨.tail _ (.head _), List.forall_mem_cons.mpr ⟨.tail _ (.tail _ (.head _)), List.forall_mem_cons.mpr ⟨.tail _ (.tail _ (.tail _ (.head _))), List.forall_mem_cons.mpr ⟨.head _, fun p hp => .tail _ (.tail _ (.tail _ (.tail _ hp)))⟩⟩⟩⟩)
      (LCg.Off3.of (List.forall_mem_cons.mpr ⟨⟨Ne.symm o1, Ne.symm o2, Ne.symm o3⟩, off6⟩)) (.inr ⟨_, .tail _ (hsub _ kD), rfl, _, rfl⟩) ⟨fun p hp => .tail _ (hsub p hp), Ok.cons_ne oknw o4, ?_⟩)
    rw [List.take_add_one, hx, Option.toList_some]
    exact (hys.sub fun v x h => h.sub fun p hp => .tail _ hp).push ⟨D3, pvs, pn, rfl, .head _, hpv⟩
  case fin =>
    rintro ys nw ⟨hsub, oknw, hys⟩ D2 h6 tk6 F6 N6 off6
    have F7 := F6
    refine ret D2 ys nw _ _ _ hys (fun p hp => hsub p (subl p hp)) (Ok.cons_ne oknw (off1_mem off6)) (fun y hy => ?_) rfl F6 N6
    k_extra "mine same"

end
end
section
open PySem PySem.W PyProof.Rows PySem.Calls PySem.Spec
theorem words_LawD : True := by
  k_with_none
  k_with "mine room" => ((try simp only [depth_under_make, depth_under_kw, depth_in1, depth_deeper, depth_caller]); (try dsimp only [ktrTop]); omega)
  k_with "mine all" => (first | (with_reducible assumption) | (with_reducible exact allLt_of (by assumption)) | (refine And.intro ?_ ?_; (first | assumption | ((try dsimp only at *); omega)); k_extra "mine all") | (exact allLt_up (by assumption) (by omega)) | (refine allLt_set ?_; k_extra "mine all") | fail)
  k_with "mine lt" => (first | assumption | (refine lt_allLt ?_; k_extra "mine all") | fail)
  k_with "mine ok" => (first | assumption | (refine Ok.setAt ?_ _ _; k_extra "mine ok") | (refine Ok.cons ?_ ?_; (k_extra "mine ok"); (k_extra "mine lt")) | fail)
  k_with "mine ne" => ((try dsimp only); first | assumption | (refine Ne.symm ?_; assumption) | (refine neN ?_; omega) | (apply ne_z1; (case q9m => assumption); (case q9h => k_extra "mine all")) | (apply ne_z2; (case q9m => assumption); (case q9h => k_extra "mine all")) | fail)
  k_with "mine nes" => (first | assumption | exact List.forall_mem_nil _ | (refine List.forall_mem_cons.mpr ⟨?_, ?_⟩; (k_extra "mine ne"); (k_extra "mine nes")) | (refine nes_set ?_; k_extra "mine nes") | (refine nes_lt ?_; k_extra "mine all") | fail)
  k_with "mine mem" => (first | (with_reducible assumption) | ktr_member | (with_reducible exact List.mem_cons_self) | (with_reducible apply mset_z; k_mem) | (with_reducible apply mset_ne_z; (case q9n => k_extra "mine ne"); (case q9x => k_mem)) | (with_reducible refine List.mem_cons_of_mem _ ?_; k_mem) | fail)
  k_with "mine upd" => (first | (with_reducible refine Upd.head ?_; k_extra "mine nes") | (with_reducible apply upd_tail; (case q9ne => k_extra "mine ne"); (case q9u => k_upd)) | (apply upd_z; (case q9k => k_extra "mine ok"); (case q9m => k_mem)) | fail)
  k_with "mine updF" => (first | (with_reducible refine UpdF.head ?_; k_extra "mine nes") | (with_reducible apply updF_tail; (case q9ne => k_extra "mine ne"); (case q9u => k_updF)) | (apply updF_z; (case q9k => k_extra "mine ok"); (case q9m => k_mem)) | fail)
  k_with "mine sub" => (first | exact (fun p hp => hp) | exact (fun p hp => List.mem_cons_of_mem _ hp) | exact (fun p hp => List.mem_cons_of_mem _ (List.mem_cons_of_mem _ hp)) | exact (fun p hp => List.mem_cons_of_mem _ (List.mem_cons_of_mem _ (List.mem_cons_of_mem _ hp))) | (refine List.forall_mem_cons.mpr ⟨?_, ?_⟩; k_mem; k_extra "mine sub") | (intro p hp; (repeat (first | exact hp | refine List.mem_cons_of_mem _ ?_))) | fail)
  k_with "mine units" => ((try simp only [units_in1, units_deeper]); (try dsimp only [ktrTop]); omega)
  k_with "mine leave" => (with_reducible apply HQ.use_z; (case q9h => with_reducible assumption))
  trivial
section
variable {prog : Program} {w : World} {p : Program} {loose : List Str} {mean : ExcName → Option Value} {mg mb : Str → Option Value} {dp un : Nat} {gd : Option (List Code)} {cn : Str} {cs : Scope} {a : Addr} {ccd : Value} {cl : List (Str × Addr)} {outer : List Env} {A₀ : Around} {base h₀ : Heap} {L : Addr} {m : Str → Option Value} {news : Led} {s : Shared} {Q E : Value → Shared → Prop}
theorem words_ld_1 : True := by
  k_with "exec Assign cons ListComp" => (((with_reducible show wpAny _ _ (exec (Stmt.Assign _ (Expr.ListComp _ _ _ _) _) _) _ _ _); refine stop_intro ?_))
  k_with "CompSrc" => ((refine stop_intro ?_))
  k_with "CompEnd" => ((refine stop_intro ?_))
  k_with "call ref" => (((with_reducible show wpAny _ _ (call (Value.ref 236) _) _ _ _); refine stop_intro ?_))
  k_with "call ref" => (((with_reducible show wpAny _ _ (call (Value.ref 243) _) _ _ _); refine stop_intro ?_))
  trivial
theorem words_LawD_m1 : True := by
  k_with "mine same" => (((try simp only [if_neg hy]); (repeat' split); all_goals (first | rfl | (rename_i e; rw [e]; symm; assumption) | (subst_vars; symm; assumption) | simp_all)))
  trivial
theorem segC2 {sc : Scope} {cg ce cw : Addr} {QF : Flow → Shared → Prop} (B : Below A₀ base [] h₀) (F : Fr h₀ L s.heap m) (X : (K w.params).In h₀) (N : News h₀ L s.heap news) (T : Top p loose mean mg mb h₀) (XB : (K w.params).In base) (TB : Top p loose mean mg mb base) (hdp : dp + 100 < recursionLimit) (hun : un + 100 < cLine) (hsc : fScope (topS 28) = sc) {st : Stmt} (hst : stAt (fBody (topS 28)) 7 = st) {nl : Addr} {z0 z1 z2 z3 z4 z5 z6 z7 z8 : Int} {t0 t1 t2 t3 t4 t5 t6 t7 t8 : Tok} {k0 : Nat} (hm1 : m (Str.ofString "numbers") = some (.ref nl)) (ok : Ok news)
    (hnl : (nl, seqObj "list" [.int z0 t0, .int z1 t1, .int z2 t2, .int z3 t3, .int z4 t4, .int z5 t5, .int z6 t6, .int z7 t7, .int z8 t8] k0) ∈ news)
    (ret : ∀ pl pvs rest h' tk' m', Strs pvs [wayOf z6, wayOf z7] → (∀ p ∈ news, p ∈ rest) → Ok ((pl, LCg.lst pvs) :: rest) → (∀ y, y ≠ Str.ofString "dirs" → m' y = m y) → m' (Str.ofString "dirs") = some (.ref pl) → Fr h₀ L h' m' → News h₀ L h' ((pl, LCg.lst pvs) :: rest) → QF .next { s with heap := h', toks := tk' }) :
    wpAny (model prog w) (ktrTop dp un gd (Str.ofString "law") sc L a ccd [(Str.ofString "given", cg), (Str.ofString "seeds", ce), (Str.ofString "drawn", cw)] []) (exec st (envX (Str.ofString "law") sc L a ccd [(Str.ofString "given", cg), (Str.ofString "seeds", ce), (Str.ofString "drawn", cw)])) QF (fun _ _ => False) s := by
  (conv at hst => lhs; whnf)
  (conv at hsc => lhs; whnf)
  subst hst
  subst hsc
  have F2 := know F (y := Str.ofString "numbers") (v := .ref nl) hm1
  clear F
  k_steps
  refine Stop.of ?_
  refine LCg.Assign_ListComp_U (F₀ := F2) rfl (by with_unfolding_all rfl) (by with_unfolding_all rfl) (by decide) (by rfl) (by decide) (by rfl) (by rfl) (by rfl) ?_
  k_steps
  rename_i D hZ F9 N9 l9
  refine Stop.of ?_
  have hD : W.listOf #[Value.int z6 t6, Value.int z7 t7] 0 = seqObj "list" [.int z6 t6, .int z7 t7] 0 := rfl
  rw [hD] at N9
  obtain ⟨led, hled, N10⟩ := named N9
  have kD : (D, seqObj "list" [.int z6 t6, .int z7 t7] 0) ∈ led := by rw [hled]; exact .head _
  have okl : Ok led := by rw [hled]; exact Ok.cons_ne ok fun p hp => Nat.ne_of_lt (l9 p hp)
  have subl : ∀ p ∈ news, p ∈ led := by rw [hled]; exact fun p hp => .tail _ hp
  refine LCg.CompSrc.ledger (its := #[.int z6 t6, .int z7 t7]) (k := 0) rfl F9 N10 kD (by rw [sizeLine_eq]; exact Nat.le_of_ble_eq_true rfl) fun g => ?_
  refine comp_inv (n := 2) (fun i ys nw => All3 ((∀ p ∈ led, p ∈ nw)) (Ok nw) (Strs ys ([wayOf z6, wayOf z7].take i))) ?turn ?fin _ 0 [] _ (Nat.zero_add _) ⟨fun p hp => hp, okl, Strs.nil⟩ (.inr ⟨_, kD, rfl, _, rfl⟩)
  case turn =>
    intro i ys nw v I oI C oC D2 m₂ h6 tk6 E' hi hv zr1 hS6 hoC hm1 F6 N6 off6 q1 q2 q3
    refine hideG fun zG zK => ?_
    obtain ⟨hsub, oknw, hys⟩ := zr1
    obtain ⟨z, tz, hx, rfl⟩ : ∃ z tz, [wayOf z6, wayOf z7][i]? = some (wayOf z) ∧ v = .int z tz := by
      have hi2 : i = 0 ∨ i = 1 := by omega
      rcases hi2 with rfl | rfl
      · cases hv; exact ⟨z6, t6, rfl, rfl⟩
      · cases hv; exact ⟨z7, t7, rfl, rfl⟩
    refine zK ?_
    clear zK zG
    refine hideQ fun _ _ => ?_
    k_steps
    refine Stop.of ?_
    refine' placeS B ?nF X ?nN T rfl ?nd ?_
    (case nF => k_asm)
    (case nN => k_asm)
    (case nd => ktr_room)
    intro D3 pvs pn h8 tk8 hpv F8 N8 off8
    obtain ⟨hsh, hln⟩ := place_short _ (place_mem z)
    k_steps
    refine Stop.of ?_
    refine' writtenS B ?nF2 X ?nN2 T rfl ?nd2 (.head _) hpv hsh hln ?_
    (case nF2 => k_asm)
    (case nN2 => k_asm)
    (case nd2 => ktr_room)
    intro t9 h9 tk9 hw9 F9 N9
    k_steps
    have o1 := off8 _ (.head _)
    have o2 := off8 _ (.tail _ (.head _))
    have o3 := off8 _ (.tail _ (.tail _ (.head _)))
    have o4 : ∀ p ∈ nw, p.1 ≠ D3 := fun p hp => off8 p (.tail _ (.tail _ (.tail _ hp)))
    refine Stop.of (comp_end ((D3, seqObj "list" pvs pn) :: nw) F9 N9 (List.forall_mem_cons.mpr ⟨.tail _ (.head _), List.forall_mem_cons.mpr ⟨.tail _ (.tail _ (.head _)), List.forall_mem_cons.mpr ⟨.tail _ (.tail _ (.tail _ (.head _))), List.forall_mem_cons.mpr ⟨.head _, fun p hp => .tail _ (.tail _ (.tail _ (.tail _ hp)))⟩⟩⟩⟩)
      (LCg.Off3.of (List.forall_mem_cons.mpr ⟨⟨Ne.symm o1, Ne.symm o2, Ne.symm o3⟩, off6⟩)) (.inr ⟨_, .tail _ (hsub _ kD), rfl, _, rfl⟩) ⟨fun p hp => .tail _ (hsub p hp), Ok.cons_ne oknw o4, ?_⟩)
    rw [List.take_add_one, hx, Option.toList_some]
    exact hys.push _ _
  case fin =>
    rintro ys nw ⟨hsub, oknw, hys⟩ D2 h6 tk6 F6 N6 off6
    have F7 := F6
    refine ret D2 ys nw _ _ _ hys (fun p hp => hsub p (subl p hp)) (Ok.cons_ne oknw (off1_mem off6)) (fun y hy => ?_) rfl F6 N6
    k_extra "mine same"

end
end
section
open PySem PySem.W PyProof.Rows PySem.Calls PySem.Spec
theorem words_LawE : True := by
  k_with_none
  k_with "mine room" => ((try simp only [depth_under_make, depth_under_kw, depth_in1, depth_deeper, depth_caller]); (try dsimp only [ktrTop]); omega)
  k_with "mine all" => (first | (with_reducible assumption) | (with_reducible exact allLt_of (by assumption)) | (refine And.intro ?_ ?_; (first | assumption | ((try dsimp only at *); omega)); k_extra "mine all") | (exact allLt_up (by assumption) (by omega)) | (refine allLt_set ?_; k_extra "mine all") | fail)
  k_with "mine lt" => (first | assumption | (refine lt_allLt ?_; k_extra "mine all") | fail)
  k_with "mine ok" => (first | assumption | (refine Ok.setAt ?_ _ _; k_extra "mine ok") | (refine Ok.cons ?_ ?_; (k_extra "mine ok"); (k_extra "mine lt")) | fail)
  k_with "mine ne" => ((try dsimp only); first | assumption | (refine Ne.symm ?_; assumption) | (refine neN ?_; omega) | (apply ne_z1; (case q9m => assumption); (case q9h => k_extra "mine all")) | (apply ne_z2; (case q9m => assumption); (case q9h => k_extra "mine all")) | fail)
  k_with "mine nes" => (first | assumption | exact List.forall_mem_nil _ | (refine List.forall_mem_cons.mpr ⟨?_, ?_⟩; (k_extra "mine ne"); (k_extra "mine nes")) | (refine nes_set ?_; k_extra "mine nes") | (refine nes_lt ?_; k_extra "mine all") | fail)
  k_with "mine mem" => (first | (with_reducible assumption) | ktr_member | (with_reducible exact List.mem_cons_self) | (with_reducible apply mset_z; k_mem) | (with_reducible apply mset_ne_z; (case q9n => k_extra "mine ne"); (case q9x => k_mem)) | (with_reducible refine List.mem_cons_of_mem _ ?_; k_mem) | fail)
  k_with "mine upd" => (first | (with_reducible refine Upd.head ?_; k_extra "mine nes") | (with_reducible apply upd_tail; (case q9ne => k_extra "mine ne"); (case q9u => k_upd)) | (apply upd_z; (case q9k => k_extra "mine ok"); (case q9m => k_mem)) | fail)
  k_with "mine updF" => (first | (with_reducible refine UpdF.head ?_; k_extra "mine nes") | (with_reducible apply updF_tail; (case q9ne => k_extra "mine ne"); (case q9u => k_updF)) | (apply updF_z; (case q9k => k_extra "mine ok"); (case q9m => k_mem)) | fail)
  k_with "mine sub" => (first | exact (fun p hp => hp) | exact (fun p hp => List.mem_cons_of_mem _ hp) | exact (fun p hp => List.mem_cons_of_mem _ (List.mem_cons_of_mem _ hp)) | exact (fun p hp => List.mem_cons_of_mem _ (List.mem_cons_of_mem _ (List.mem_cons_of_mem _ hp))) | (refine List.forall_mem_cons.mpr ⟨?_, ?_⟩; k_mem; k_extra "mine sub") | (intro p hp; (repeat (first | exact hp | refine List.mem_cons_of_mem _ ?_))) | fail)
  k_with "mine units" => ((try simp only [units_in1, units_deeper]); (try dsimp only [ktrTop]); omega)
  k_with "mine leave" => (with_reducible apply HQ.use_z; (case q9h => with_reducible assumption))
  k_with "subscriptTail" => ((k_here; (with_reducible show wpAny _ _ (subscriptTail _ _ (Value.ref _) (Value.str _ _)) _ _ _); k_dflt (refine kda_item (knd := PySem.strKind _ _) (by k_asm) (by k_mem) (by assumption) (strKind_is _ _ _ _) (by assumption) ?_)))
  trivial
section
variable {prog : Program} {w : World} {p : Program} {loose : List Str} {mean : ExcName → Option Value} {mg mb : Str → Option Value} {dp un : Nat} {gd : Option (List Code)} {cn : Str} {cs : Scope} {a : Addr} {ccd : Value} {cl : List (Str × Addr)} {outer : List Env} {A₀ : Around} {base h₀ : Heap} {L : Addr} {m : Str → Option Value} {news : Led} {s : Shared} {Q E : Value → Shared → Prop}
theorem item_any {A : Around} {value slice : PySem.Expr} {QV : Value → Shared → Prop} {l : Addr} {vs : List Value} {n : Nat} {k : Int} {u : Tok} (N : News h₀ L s.heap news) (hm : (l, seqObj "list" vs n) ∈ news) (h0 : 0 ≤ k) (hk : k < vs.length) (hx : vs.length ≤ 1000)
    (h : ∀ v, vs[k.toNat]? = some v → QV v s)
    (hs : subscripted slice false (.ref l) (.int k u) = operate [.ref l, .int k u] (getItem (.ref l) (.int k u)) := by with_unfolding_all rfl) :
    wpAny (model prog w) A (subscriptTail value slice (.ref l) (.int k u)) QV E s := by
  have hl : s.heap.IsList l vs.toArray := ⟨_, (N _ hm).1, rfl, n, rfl⟩
  have hi : k.toNat < vs.length := by omega
  have hv : vs[k.toNat]? = some vs[k.toNat] := List.getElem?_eq_getElem hi
  exact tail_any hl.typeIs slot_list_getitem.lookup (wpAny_getItem_list hl h0 (by omega) (by simpa using hv) (h _ hv)) hs
theorem item_lit {A : Around} {value slice : PySem.Expr} {QV : Value → Shared → Prop} {l : Addr} {vs : List Value} {n : Nat} {k : Int} {u : Tok} {v : Value} (N : News h₀ L s.heap news) (hm : (l, seqObj "list" vs n) ∈ news) (h0 : 0 ≤ k) (hk : k < vs.length) (hx : vs.length ≤ 1000) (hv : vs[k.toNat]? = some v)
    (h : QV v s)
    (hs : subscripted slice false (.ref l) (.int k u) = operate [.ref l, .int k u] (getItem (.ref l) (.int k u)) := by with_unfolding_all rfl) :
    wpAny (model prog w) A (subscriptTail value slice (.ref l) (.int k u)) QV E s := item_any N hm h0 hk hx (fun v' hv' => by rw [hv] at hv'; cases hv'; exact h) hs
theorem words_le_1 : True := by
  k_with "subscriptTail" => ((k_here; (with_reducible show wpAny _ _ (subscriptTail _ _ (Value.ref _) (Value.int 8 _)) _ _ _); k_dflt (refine item_lit (vs := [_, _, _, _, _, _, _, _, _]) (by k_asm) (by k_mem) (by decide) (by show (8 : Int) < ((9 : Nat) : Int); decide) (Nat.le_of_ble_eq_true rfl) rfl ?_)))
  k_with "subscriptTail" => ((k_here; (with_reducible show wpAny _ _ (subscriptTail _ _ (Value.ref _) (Value.int (Int.fmod _ 4) _)) _ _ _); k_dflt (refine item_any (vs := [_, _, _, _]) (by k_asm) (by k_mem) (fmod4_lo _) (fmod4_hi _) (Nat.le_of_ble_eq_true rfl) ?_); refine stop_intro ?_))
  trivial
theorem list_of {A : Around} {QV : Value → Shared → Prop} {b : Addr} {vs : List Value} {n : Nat} (F : Fr h₀ L s.heap m) (N : News h₀ L s.heap news) (hb : (b, seqObj "list" vs n) ∈ news) (hz : vs.length ≤ 1000)
    (h : ∀ D c h', Fr h₀ L h' m → News h₀ L h' ((D, seqObj "list" vs c) :: news) → (∀ q ∈ news, q.1 < D) → QV (.ref D) { s with heap := h' }) : wpAny (model prog w) A (call (.type "list") [.ref b]) QV E s :=
  kup_listOf (its2 := vs.toArray) (n2 := n) F N hb rfl (fun D c h' F' N' l => h D c h' F' (by simpa using N') l) (by simp; rw [sizeLine_eq]; omega)
theorem words_le_2 : True := by
  k_with "call type:list" => ((k_here; (with_reducible show wpAny _ _ (call (Value.type "list") [Value.ref _]) _ _ _); k_dflt (refine list_of (by k_asm) (by k_asm) (by k_mem) (by first | exact Nat.le_of_ble_eq_true rfl | omega) ?_); intro _ _ _ _ _ l1zz; (try k_lt l1zz); revert l1zz; intro _))
  trivial
theorem segC3 {sc : Scope} {cg ce cw : Addr} {QF : Flow → Shared → Prop} (B : Below A₀ base [] h₀) (F : Fr h₀ L s.heap m) (X : (K w.params).In h₀) (N : News h₀ L s.heap news) (T : Top p loose mean mg mb h₀) (XB : (K w.params).In base) (TB : Top p loose mean mg mb base) (hdp : dp + 100 < recursionLimit) (hun : un + 100 < cLine) (hsc : fScope (topS 28) = sc) {st : List Stmt} (hst : ((fBody (topS 28)).drop 8).take 4 = st) {nl dl : Addr} {z0 z1 z2 z3 z4 z5 z6 z7 z8 : Int} {t0 t1 t2 t3 t4 t5 t6 t7 t8 : Tok} {k0 k1 : Nat} {w1 w2 : Str} {u1 u2 : Tok} (hm1 : m (Str.ofString "numbers") = some (.ref nl)) (hm2 : m (Str.ofString "dirs") = some (.ref dl)) (ok : Ok news)
    (hnl : (nl, seqObj "list" [.int z0 t0, .int z1 t1, .int z2 t2, .int z3 t3, .int z4 t4, .int z5 t5, .int z6 t6, .int z7 t7, .int z8 t8] k0) ∈ news) (hdl : (dl, seqObj "list" [.str w1 u1, .str w2 u2] k1) ∈ news)
    (ret : ∀ ml mvs nm ms tl td tm c1 c2 al ol rest h' tk' m', ms ∈ modsAll → Strs mvs ms → (ml, seqObj "list" mvs nm) ∈ rest → (tl, seqObj "list" [.ref td, .ref tm] 0) ∈ rest → (td, seqObj "list" [.str w1 u1, .str w2 u2] c1) ∈ rest → (tm, seqObj "list" mvs c2) ∈ rest → (∀ p ∈ news, p ∈ rest) → Ok ((ol, seqObj "list" [] 0) :: (al, seqObj "list" [] 0) :: rest) →
      (∀ y, y ≠ Str.ofString "own" → y ≠ Str.ofString "asks" → y ≠ Str.ofString "told" → y ≠ Str.ofString "mods" → m' y = m y) → m' (Str.ofString "own") = some (.ref ol) → m' (Str.ofString "asks") = some (.ref al) → m' (Str.ofString "told") = some (.ref tl) → m' (Str.ofString "mods") = some (.ref ml) →
      Fr h₀ L h' m' → News h₀ L h' ((ol, seqObj "list" [] 0) :: (al, seqObj "list" [] 0) :: rest) → QF .next { s with heap := h', toks := tk' }) :
    wpAny (model prog w) (ktrTop dp un gd (Str.ofString "law") sc L a ccd [(Str.ofString "given", cg), (Str.ofString "seeds", ce), (Str.ofString "drawn", cw)] []) (execs st (envX (Str.ofString "law") sc L a ccd [(Str.ofString "given", cg), (Str.ofString "seeds", ce), (Str.ofString "drawn", cw)])) QF (fun _ _ => False) s := by
  (conv at hst => lhs; whnf)
  (conv at hsc => lhs; whnf)
  subst hst
  subst hsc
  have F2 := know (know F (y := Str.ofString "numbers") (v := .ref nl) hm1) (y := Str.ofString "dirs") (v := .ref dl) hm2
  clear F
  k_steps
  rename_i a1 g1 l1 a2 g2 l2 a3 g3 l3 a4 g4 l4 a5 g5 F9 N9 l5
  refine Stop.of fun v hv => ?_
  refine hideG fun zG zK => ?_
  obtain ⟨ml, mvs, nm, ms, rest, rfl, hms, hmv, hml, N10, hsub, okr⟩ : ∃ ml mvs nm ms rest, v = .ref ml ∧ ms ∈ modsAll ∧ Strs mvs ms ∧ (ml, seqObj "list" mvs nm) ∈ rest ∧ News h₀ L g5 rest ∧ (∀ p ∈ news, p ∈ rest) ∧ Ok rest := by
    obtain ⟨rest, hrest, N10⟩ := named N9
    have okr : Ok rest := by
      rw [hrest]
      exact Ok.cons (Ok.cons (Ok.cons (Ok.cons (Ok.cons ok l1) (List.forall_mem_cons.mpr ⟨l2.1, lt_allLt l2.2⟩)) (List.forall_mem_cons.mpr ⟨l3.1, List.forall_mem_cons.mpr ⟨l3.2.1, lt_allLt l3.2.2⟩⟩)) (List.forall_mem_cons.mpr ⟨l4.1, List.forall_mem_cons.mpr ⟨l4.2.1, List.forall_mem_cons.mpr ⟨l4.2.2.1, lt_allLt l4.2.2.2⟩⟩⟩))
        (List.forall_mem_cons.mpr ⟨l5.1, List.forall_mem_cons.mpr ⟨l5.2.1, List.forall_mem_cons.mpr ⟨l5.2.2.1, List.forall_mem_cons.mpr ⟨l5.2.2.2.1, lt_allLt l5.2.2.2.2⟩⟩⟩⟩)
    have hs : ∀ p ∈ news, p ∈ rest := by rw [hrest]; exact fun p hp => .tail _ (.tail _ (.tail _ (.tail _ (.tail _ hp))))
    generalize (z8.fmod 4).toNat = k at hv
    match k with
    | 0 => cases hv; exact ⟨a1, [], 0, [], rest, rfl, .head _, Strs.nil, by rw [hrest]; exact .tail _ (.tail _ (.tail _ (.tail _ (.head _)))), N10, hs, okr⟩
    | 1 => cases hv; exact ⟨a2, _, 0, [Str.ofString "x"], rest, rfl, .tail _ (.head _), Strs.mk1 _ _, by rw [hrest]; exact .tail _ (.tail _ (.tail _ (.head _))), N10, hs, okr⟩
    | 2 => cases hv; exact ⟨a3, _, 0, [Str.ofString "m"], rest, rfl, .tail _ (.tail _ (.head _)), Strs.mk1 _ _, by rw [hrest]; exact .tail _ (.tail _ (.head _)), N10, hs, okr⟩
    | 3 => cases hv; exact ⟨a4, _, 0, [Str.ofString "n", Str.ofString "x"], rest, rfl, .tail _ (.tail _ (.tail _ (.head _))), Strs.mk2 _ _ _ _, by rw [hrest]; exact .tail _ (.head _), N10, hs, okr⟩
    | k + 4 => simp at hv
  refine zK ?_
  clear zK zG
  clear N9 hv l1 l2 l3 l4 l5
  have hdl' := hsub _ hdl
  have hml0 : mvs.length = ms.length := hmv.1
  have hml1 : ms.length ≤ 2 := by
    have : ∀ ms ∈ modsAll, ms.length ≤ 2 := by decide +kernel
    exact this ms hms
  k_steps
  rename_i y1 td c1 y2 l1 tm c2 y3 l2 tl y4 l3 y5 al y6 l4 y7 ol y8 l5 y9 F9 N9
  dsimp only
  refine wpAny_execs_nil ?_
  obtain ⟨rs, hrs, N11⟩ : ∃ rs, rs = (tl, seqObj "list" [.ref td, .ref tm] 0) :: (tm, seqObj "list" mvs c2) :: (td, seqObj "list" [.str w1 u1, .str w2 u2] c1) :: rest ∧ News h₀ L y9 ((ol, seqObj "list" [] 0) :: (al, seqObj "list" [] 0) :: rs) := ⟨_, rfl, N9⟩
  refine ret ml mvs nm ms tl td tm c1 c2 al ol rs _ _ _ hms hmv ?_ ?_ ?_ ?_ ?_ ?_ (fun y e1 e2 e3 e4 => ?_) rfl rfl rfl rfl F9 N11
  · rw [hrs]; exact .tail _ (.tail _ (.tail _ hml))
  · rw [hrs]; exact .head _
  · rw [hrs]; exact .tail _ (.tail _ (.head _))
  · rw [hrs]; exact .tail _ (.head _)
  · rw [hrs]; exact fun p hp => .tail _ (.tail _ (.tail _ (hsub p hp)))
  · rw [hrs]
    exact Ok.cons (Ok.cons (Ok.cons (Ok.cons (Ok.cons okr l1) (List.forall_mem_cons.mpr ⟨l2.1, lt_allLt l2.2⟩)) (List.forall_mem_cons.mpr ⟨l3.1, List.forall_mem_cons.mpr ⟨l3.2.1, lt_allLt l3.2.2⟩⟩)) (List.forall_mem_cons.mpr ⟨l4.1, List.forall_mem_cons.mpr ⟨l4.2.1, List.forall_mem_cons.mpr ⟨l4.2.2.1, lt_allLt l4.2.2.2⟩⟩⟩))
      (List.forall_mem_cons.mpr ⟨l5.1, List.forall_mem_cons.mpr ⟨l5.2.1, List.forall_mem_cons.mpr ⟨l5.2.2.1, List.forall_mem_cons.mpr ⟨l5.2.2.2.1, lt_allLt l5.2.2.2.2⟩⟩⟩⟩)
  · simp only [if_neg e1, if_neg e2, if_neg e3, if_neg e4]
    (repeat' split) <;> first | rfl | (rename_i e; rw [e]; symm; assumption) | (subst_vars; symm; assumption)

end
end
section
open PySem PySem.W PyProof.Rows PySem.Calls PySem.Spec
theorem words_LawF : True := by
  k_with_none
  k_with "mine room" => ((try simp only [depth_under_make, depth_under_kw, depth_in1, depth_deeper, depth_caller]); (try dsimp only [ktrTop]); omega)
  k_with "mine all" => (first | (with_reducible assumption) | (with_reducible exact allLt_of (by assumption)) | (refine And.intro ?_ ?_; (first | assumption | ((try dsimp only at *); omega)); k_extra "mine all") | (exact allLt_up (by assumption) (by omega)) | (refine allLt_set ?_; k_extra "mine all") | fail)
  k_with "mine lt" => (first | assumption | (refine lt_allLt ?_; k_extra "mine all") | fail)
  k_with "mine ok" => (first | assumption | (refine Ok.setAt ?_ _ _; k_extra "mine ok") | (refine Ok.cons ?_ ?_; (k_extra "mine ok"); (k_extra "mine lt")) | fail)
  k_with "mine ne" => ((try dsimp only); first | assumption | (refine Ne.symm ?_; assumption) | (refine neN ?_; omega) | (apply ne_z1; (case q9m => assumption); (case q9h => k_extra "mine all")) | (apply ne_z2; (case q9m => assumption); (case q9h => k_extra "mine all")) | fail)
  k_with "mine nes" => (first | assumption | exact List.forall_mem_nil _ | (refine List.forall_mem_cons.mpr ⟨?_, ?_⟩; (k_extra "mine ne"); (k_extra "mine nes")) | (refine nes_set ?_; k_extra "mine nes") | (refine nes_lt ?_; k_extra "mine all") | fail)
  k_with "mine mem" => (first | (with_reducible assumption) | ktr_member | (with_reducible exact List.mem_cons_self) | (with_reducible apply mset_z; k_mem) | (with_reducible apply mset_ne_z; (case q9n => k_extra "mine ne"); (case q9x => k_mem)) | (with_reducible refine List.mem_cons_of_mem _ ?_; k_mem) | fail)
  k_with "mine upd" => (first | (with_reducible refine Upd.head ?_; k_extra "mine nes") | (with_reducible apply upd_tail; (case q9ne => k_extra "mine ne"); (case q9u => k_upd)) | (apply upd_z; (case q9k => k_extra "mine ok"); (case q9m => k_mem)) | fail)
  k_with "mine updF" => (first | (with_reducible refine UpdF.head ?_; k_extra "mine nes") | (with_reducible apply updF_tail; (case q9ne => k_extra "mine ne"); (case q9u => k_updF)) | (apply updF_z; (case q9k => k_extra "mine ok"); (case q9m => k_mem)) | fail)
  k_with "mine sub" => (first | exact (fun p hp => hp) | exact (fun p hp => List.mem_cons_of_mem _ hp) | exact (fun p hp => List.mem_cons_of_mem _ (List.mem_cons_of_mem _ hp)) | exact (fun p hp => List.mem_cons_of_mem _ (List.mem_cons_of_mem _ (List.mem_cons_of_mem _ hp))) | (refine List.forall_mem_cons.mpr ⟨?_, ?_⟩; k_mem; k_extra "mine sub") | (intro p hp; (repeat (first | exact hp | refine List.mem_cons_of_mem _ ?_))) | fail)
  k_with "mine units" => ((try simp only [units_in1, units_deeper]); (try dsimp only [ktrTop]); omega)
  k_with "mine leave" => (with_reducible apply HQ.use_z; (case q9h => with_reducible assumption))
  trivial
section
variable {prog : Program} {w : World} {p : Program} {loose : List Str} {mean : ExcName → Option Value} {mg mb : Str → Option Value} {dp un : Nat} {gd : Option (List Code)} {cn : Str} {cs : Scope} {a : Addr} {ccd : Value} {cl : List (Str × Addr)} {outer : List Env} {A₀ : Around} {base h₀ : Heap} {L : Addr} {m : Str → Option Value} {news : Led} {s : Shared} {Q E : Value → Shared → Prop}
noncomputable def lfBody : List Stmt := match stAt (fBody (topS 28)) 12 with | .For _ _ b _ _ => b | _ => []
theorem words_LawF_m1 : True := by
  k_with "mine short" => (first | assumption | (simp only [List.mem_cons, List.mem_append, List.not_mem_nil, or_false, forall_eq_or_imp, forall_eq]; omega) | fail)
  trivial
theorem words_LawF_m2 : True := by
  k_with "mine strs" => (first | assumption | exact Strs.mk1 _ _ | exact Strs.mk2 _ _ _ _ | exact Strs.mk3 _ _ _ _ _ _ | fail)
  trivial
theorem words_lf_1 : True := by
  k_with "call builtin:str.join" => ((k_here; (with_reducible show wpAny _ _ (call (Value.builtin "str.join") [Value.str _ _, Value.ref _]) _ _ _); k_dflt (refine join_lst (by k_asm) (by k_mem) (by k_extra "mine strs") (by k_extra "mine short") (by first | exact Nat.le_of_ble_eq_true rfl | omega) (by omega) ?_); intro _ _ _))
  k_with "binaryOp Add str str" => ((k_here; (with_reducible show wpAny _ _ (binaryOp Operator.Add (Value.str _ _) (Value.str _ _)) _ _ _); k_dflt (refine my_add (by omega) ?_); intro _ _ _))
  k_with "ite" => (first | (with_reducible refine ite_yes (by with_reducible assumption) ?_) | (with_reducible refine ite_no (by with_reducible assumption) ?_))
  k_with "call ref" => (((with_reducible show wpAny _ _ (call (Value.ref 243) _) _ _ _); refine stop_intro ?_))
  k_with "call ref" => (((with_reducible show wpAny _ _ (call (Value.ref 111) _) _ _ _); refine stop_intro ?_))
  trivial
theorem words_LawF_m3 : True := by
  k_with "binaryOp Add ref ref" => ((k_here; (with_reducible show wpAny _ _ (binaryOp _ (Value.ref _) (Value.ref _)) _ _ _); k_dflt (refine kmk_add_lit (by k_asm) (by k_asm) (by exact News.isList (by k_asm) (by k_mem)) (by exact News.isList (by k_asm) (by k_mem)) rfl ?_ (by (simp only [List.toList_toArray, List.length_cons, List.length_nil]; rw [sizeLine_eq]; omega))); intro _ _ _ N'zz l1zz; (try simp only [List.toList_toArray] at N'zz); (try k_lt l1zz); revert N'zz l1zz; intro _ _))
  trivial
theorem segF1 {sc : Scope} {cg ce cw : Addr} {QF : Flow → Shared → Prop} (B : Below A₀ base [] h₀) (F : Fr h₀ L s.heap m) (X : (K w.params).In h₀) (N : News h₀ L s.heap news) (T : Top p loose mean mg mb h₀) (XB : (K w.params).In base) (TB : Top p loose mean mg mb base) (hdp : dp + 100 < recursionLimit) (hun : un + 100 < cLine) (hsc : fScope (topS 28) = sc) {st : List Stmt} (hst : lfBody.take 2 = st) {f : File} {pa : Addr} {pvs : List Value} {pn : Nat} {tb tn : Tok} (hg : Good f) (ok : Ok news) (hpa : (pa, seqObj "list" pvs pn) ∈ news) (hpv : Strs pvs f.parts)
    (hm1 : m (Str.ofString "parts") = some (.ref pa)) (hm2 : m (Str.ofString "base") = some (.str f.base tb)) (hm3 : m (Str.ofString "name") = some (.str f.name tn))
    (ret : ∀ tp h' tk' m', m' (Str.ofString "path") = some (.str f.path tp) → (∀ y, y ≠ Str.ofString "path" → y ≠ Str.ofString "how" → m' y = m y) → Fr h₀ L h' m' → News h₀ L h' news → QF .next { s with heap := h', toks := tk' }) :
    wpAny (model prog w) (ktrTop dp un gd (Str.ofString "law") sc L a ccd [(Str.ofString "given", cg), (Str.ofString "seeds", ce), (Str.ofString "drawn", cw)] []) (execs st (envX (Str.ofString "law") sc L a ccd [(Str.ofString "given", cg), (Str.ofString "seeds", ce), (Str.ofString "drawn", cw)])) QF (fun _ _ => False) s := by
  (conv at hst => lhs; whnf)
  (conv at hsc => lhs; whnf)
  subst hst
  subst hsc
  have F2 := know (know (know F (y := Str.ofString "parts") hm1) (y := Str.ofString "base") hm2) (y := Str.ofString "name") hm3
  clear F
  have l1 : (Str.ofString "/").length = 1 := by decide +kernel
  have kb : (f.name != f.name) = false := by simp
  have hfo := hg.ok
  obtain ⟨hsh, hln⟩ := place_short _ hg.parts
  have hbl := hfo.base
  have hpvl : pvs.length = f.parts.length := hpv.1
  have hjv : Strs (pvs ++ [.str f.base tb]) (f.parts ++ [f.base]) := hpv.push _ _
  have hjx : ∀ x ∈ f.parts ++ [f.base], x.length ≤ 100 := fun x hx => by
    rcases List.mem_append.mp hx with hx | hx
    · exact hsh x hx
    · rw [List.mem_singleton.mp hx]; omega
  have hjn : (f.parts ++ [f.base]).length ≤ 10 := by
    have := hfo.len
    rw [List.length_append, List.length_singleton]; omega
  k_steps
  refine Stop.of ?_
  refine writtenS B (by k_asm) X (by k_asm) T rfl (by ktr_room) (by k_mem) hpv hsh hln ?_
  intro t0 h0 tk0 hw0 F0 N0
  obtain ⟨hb0, hl0⟩ := base_writ f.parts hg.parts (0 + ((0 : Nat) : Int)) (by decide) (f.base, f.name) hg.base
  dsimp only at hb0 hl0
  k_steps
  refine Stop.of ?_
  refine modnameS B (by k_asm) X (by k_asm) T rfl (by ktr_room) hl0 hg.base hb0 ?_
  intro u0 h0a tk0a F0a N0a
  k_steps
  refine UnrEnd.intro F0a N0a (_ :: _ :: news) (fun p hp => hp) (by k_extra "mine nes") ?_
  k_steps
  refine Stop.of ?_
  refine writtenS B (by k_asm) X (by k_asm) T rfl (by ktr_room) (by k_mem) hpv hsh hln ?_
  intro t1 h1 tk1 hw1 F1 N1
  obtain ⟨hb1, hl1⟩ := base_writ f.parts hg.parts (0 + ((1 : Nat) : Int)) (by decide) (f.base, f.name) hg.base
  dsimp only at hb1 hl1
  k_steps
  refine Stop.of ?_
  refine modnameS B (by k_asm) X (by k_asm) T rfl (by ktr_room) hl1 hg.base hb1 ?_
  intro u1 h1a tk1a F1a N1a
  k_steps
  refine UnrEnd.intro F1a N1a (_ :: _ :: news) (fun p hp => hp) (by k_extra "mine nes") ?_
  k_steps
  refine Stop.of ?_
  refine writtenS B (by k_asm) X (by k_asm) T rfl (by ktr_room) (by k_mem) hpv hsh hln ?_
  intro t2 h2 tk2 hw2 F2 N2
  obtain ⟨hb2, hl2⟩ := base_writ f.parts hg.parts (0 + ((2 : Nat) : Int)) (by decide) (f.base, f.name) hg.base
  dsimp only at hb2 hl2
  k_steps
  refine Stop.of ?_
  refine modnameS B (by k_asm) X (by k_asm) T rfl (by ktr_room) hl2 hg.base hb2 ?_
  intro u2 h2a tk2a F2a N2a
  k_steps
  refine UnrEnd.intro F2a N2a (_ :: _ :: news) (fun p hp => hp) (by k_extra "mine nes") ?_
  k_steps
  dsimp only
  refine wpAny_execs_nil ?_
  rename (News h₀ L _ _) => NZ
  rename (Fr h₀ L _ _) => FZ
  refine ret _ _ _ _ rfl (fun y e1 e2 => ?_) FZ (News.sub NZ (by k_extra "mine sub"))
  simp only [if_neg e1, if_neg e2]
  (repeat' split) <;> first | rfl | (rename_i e; rw [e]; symm; assumption) | (subst_vars; symm; assumption)

end
end
section
open PySem PySem.W PyProof.Rows PySem.Calls PySem.Spec
theorem words_LawG : True := by
  k_with_none
  k_with "mine room" => ((try simp only [depth_under_make, depth_under_kw, depth_in1, depth_deeper, depth_caller]); (try dsimp only [ktrTop]); omega)
  k_with "mine all" => (first | (with_reducible assumption) | (with_reducible exact allLt_of (by assumption)) | (refine And.intro ?_ ?_; (first | assumption | ((try dsimp only at *); omega)); k_extra "mine all") | (exact allLt_up (by assumption) (by omega)) | (refine allLt_set ?_; k_extra "mine all") | fail)
  k_with "mine lt" => (first | assumption | (refine lt_allLt ?_; k_extra "mine all") | fail)
  k_with "mine ok" => (first | assumption | (refine Ok.setAt ?_ _ _; k_extra "mine ok") | (refine Ok.cons ?_ ?_; (k_extra "mine ok"); (k_extra "mine lt")) | fail)
  k_with "mine ne" => ((try dsimp only); first | assumption | (refine Ne.symm ?_; assumption) | (refine neN ?_; omega) | (apply ne_z1; (case q9m => assumption); (case q9h => k_extra "mine all")) | (apply ne_z2; (case q9m => assumption); (case q9h => k_extra "mine all")) | fail)
  k_with "mine nes" => (first | assumption | exact List.forall_mem_nil _ | (refine List.forall_mem_cons.mpr ⟨?_, ?_⟩; (k_extra "mine ne"); (k_extra "mine nes")) | (refine nes_set ?_; k_extra "mine nes") | (refine nes_lt ?_; k_extra "mine all") | fail)
  k_with "mine mem" => (first | (with_reducible assumption) | ktr_member | (with_reducible exact List.mem_cons_self) | (with_reducible apply mset_z; k_mem) | (with_reducible apply mset_ne_z; (case q9n => k_extra "mine ne"); (case q9x => k_mem)) | (with_reducible refine List.mem_cons_of_mem _ ?_; k_mem) | fail)
  k_with "mine upd" => (first | (with_reducible refine Upd.head ?_; k_extra "mine nes") | (with_reducible apply upd_tail; (case q9ne => k_extra "mine ne"); (case q9u => k_upd)) | (apply upd_z; (case q9k => k_extra "mine ok"); (case q9m => k_mem)) | fail)
  k_with "mine updF" => (first | (with_reducible refine UpdF.head ?_; k_extra "mine nes") | (with_reducible apply updF_tail; (case q9ne => k_extra "mine ne"); (case q9u => k_updF)) | (apply updF_z; (case q9k => k_extra "mine ok"); (case q9m => k_mem)) | fail)
  k_with "mine sub" => (first | exact (fun p hp => hp) | exact (fun p hp => List.mem_cons_of_mem _ hp) | exact (fun p hp => List.mem_cons_of_mem _ (List.mem_cons_of_mem _ hp)) | exact (fun p hp => List.mem_cons_of_mem _ (List.mem_cons_of_mem _ (List.mem_cons_of_mem _ hp))) | (refine List.forall_mem_cons.mpr ⟨?_, ?_⟩; k_mem; k_extra "mine sub") | (intro p hp; (repeat (first | exact hp | refine List.mem_cons_of_mem _ ?_))) | fail)
  k_with "mine units" => ((try simp only [units_in1, units_deeper]); (try dsimp only [ktrTop]); omega)
  k_with "mine leave" => (with_reducible apply HQ.use_z; (case q9h => with_reducible assumption))
  trivial
section
variable {prog : Program} {w : World} {p : Program} {loose : List Str} {mean : ExcName → Option Value} {mg mb : Str → Option Value} {dp un : Nat} {gd : Option (List Code)} {cn : Str} {cs : Scope} {a : Addr} {ccd : Value} {cl : List (Str × Addr)} {outer : List Env} {A₀ : Around} {base h₀ : Heap} {L : Addr} {m : Str → Option Value} {news : Led} {s : Shared} {Q E : Value → Shared → Prop}
theorem words_lg_1 : True := by
  k_with "call ref" => (((with_reducible show wpAny _ _ (call (Value.ref 248) _) _ _ _); refine stop_intro ?_))
  k_with "eval ListComp" => (((with_reducible show wpAny _ _ (eval (Expr.ListComp _ _ _ _) _) _ _ _); refine stop_intro ?_))
  k_with "CompSrc" => ((refine stop_intro ?_))
  k_with "CompEnd" => ((refine stop_intro ?_))
  k_with "ite" => (first | (with_reducible refine ite_yes (by with_reducible assumption) ?_) | (with_reducible refine ite_no (by with_reducible assumption) ?_))
  k_with "call builtin:str.split" => ((k_here; (with_reducible show wpAny _ _ (call (Value.builtin "str.split") [Value.str _ _, Value.str _ _]) _ _ _); k_dflt (refine split_lst (by k_asm) (by k_asm) (by decide +kernel) (by omega) ?_); intro _ _ _ _ _ _ _ _ _))
  trivial
noncomputable def outOf (f : File) (qs : List (List Str)) (ms : List Str) : Bool := outP f.parts qs || outP (pieces f) (ms.map fun x => [x])
theorem strok_parts : ∀ p ∈ partsAll, ∀ x ∈ p, PyData.strOk x = true := by decide +kernel
theorem strok_names : ∀ bn ∈ bases5, ∀ x ∈ Txt.split bn.2 dot, PyData.strOk x = true := by decide +kernel
theorem strok_mods : ∀ ms ∈ modsAll, ∀ x ∈ ms, PyData.strOk x = true := by decide +kernel
theorem segF2 {sc : Scope} {cg ce cw : Addr} {QF : Flow → Shared → Prop} (B : Below A₀ base [] h₀) (F : Fr h₀ L s.heap m) (X : (K w.params).In h₀) (N : News h₀ L s.heap news) (T : Top p loose mean mg mb h₀) (XB : (K w.params).In base) (TB : Top p loose mean mg mb base) (hdp : dp + 100 < recursionLimit) (hun : un + 100 < cLine) (hsc : fScope (topS 28) = sc) {st : Stmt} (hst : stAt lfBody 2 = st) {f : File} {pa pl ml : Addr} {pvs qvs mvs : List Value} {pn qn mn : Nat} {tn : Tok} {qs : List (List Str)} {ms : List Str} (hg : Good f) (ok : Ok news) (hpa : (pa, seqObj "list" pvs pn) ∈ news) (hpv : Strs pvs f.parts) (hpl : (pl, seqObj "list" qvs qn) ∈ news) (hqv : AllAt (PartsAt news) qvs qs) (hml : (ml, seqObj "list" mvs mn) ∈ news) (hmv : Strs mvs ms) (hqs : ∀ q ∈ qs, q ∈ partsAll) (hms : ms ∈ modsAll)
    (hm1 : m (Str.ofString "parts") = some (.ref pa)) (hm2 : m (Str.ofString "places") = some (.ref pl)) (hm3 : m (Str.ofString "name") = some (.str f.name tn)) (hm4 : m (Str.ofString "mods") = some (.ref ml))
    (ret : ∀ h' tk' m' rest, m' (Str.ofString "out") = some (.bool (outOf f qs ms)) → (∀ y, y ≠ Str.ofString "out" → m' y = m y) → (∀ p ∈ news, p ∈ rest) → Ok rest → Fr h₀ L h' m' → News h₀ L h' rest → QF .next { s with heap := h', toks := tk' }) :
    wpAny (model prog w) (ktrTop dp un gd (Str.ofString "law") sc L a ccd [(Str.ofString "given", cg), (Str.ofString "seeds", ce), (Str.ofString "drawn", cw)] []) (exec st (envX (Str.ofString "law") sc L a ccd [(Str.ofString "given", cg), (Str.ofString "seeds", ce), (Str.ofString "drawn", cw)])) QF (fun _ _ => False) s := by
  (conv at hst => lhs; whnf)
  (conv at hsc => lhs; whnf)
  subst hst
  subst hsc
  have F2 := know (know (know (know F (y := Str.ofString "parts") hm1) (y := Str.ofString "places") hm2) (y := Str.ofString "name") hm3) (y := Str.ofString "mods") hm4
  clear F
  have hfo := hg.ok
  have hnl := hfo.name
  k_steps
  refine Stop.of ?_
  have hso : ∀ p ∈ partsAll, StrOk p := fun p hp => strok_parts p hp
  refine outS B (by k_asm) X (by k_asm) T rfl (by ktr_room) hun hpa hpv hpl hqv (hso _ hg.parts) (fun q hq => hso q (hqs q hq)) hfo.len ?_
  intro h1 tk1 F1 N1
  cases hb1 : outP f.parts qs with
  | true =>
    k_steps
    rename (News h₀ L _ _) => NZ
    rename (Fr h₀ L _ fun y => if y = Str.ofString "out" then _ else _) => FZ
    refine ret _ _ _ news (by show some (Value.bool true) = _; unfold outOf; rw [hb1]; rfl) (fun y hy => ?_) (fun p hp => hp) ok FZ NZ
    simp only [if_neg hy]
    (repeat' split) <;> first | rfl | (rename_i e; rw [e]; symm; assumption) | (subst_vars; symm; assumption)
  | false =>
    k_steps
    rename_i D vs hA kA hsp hlp FA NA lD
    refine Stop.of ?_
    obtain ⟨led, hled, N10⟩ := named NA
    have kD : (D, seqObj "list" vs 0) ∈ led := by rw [hled]; exact .head _
    have subl : ∀ p ∈ news, p ∈ led := by rw [hled]; exact fun p hp => .tail _ hp
    have okl : Ok led := by rw [hled]; exact Ok.cons ok lD
    have kml := subl _ hml
    have hmvl : mvs.length = ms.length := hmv.1
    have hm2l : ms.length ≤ 2 := by
      have : ∀ ms ∈ modsAll, ms.length ≤ 2 := by decide +kernel
      exact this ms hms
    clear NA
    refine LCg.ListComp_U (F₀ := FA) (by with_unfolding_all rfl) (by decide) (by rfl) (by decide) (by rfl) ?_
    k_steps
    refine Stop.of ?_
    refine LCg.CompSrc.ledger (its := mvs.toArray) (k := mn) rfl FA N10 kml (by rw [List.size_toArray, sizeLine_eq]; omega) fun g => ?_
    refine comp_inv (n := mvs.toArray.size) (fun i ys nw => All3 ((∀ p ∈ led, p ∈ nw)) (Ok nw) (AllAt (PartsAt nw) ys ((ms.take i).map fun x => [x]))) ?turn ?fin _ 0 [] _ (Nat.zero_add _) ⟨fun p hp => hp, okl, AllAt.nil⟩ (.inr ⟨_, kml, rfl, _, rfl⟩)
    case turn =>
      rintro i ys nw v I oI C oC D2 m₂ h6 tk6 E' hi hv ⟨hsub, oknw, hys⟩ hS6 hoC hmx F6 N6 off6 q1 q2 q3
      have hv' : mvs.toArray[i]? = some v := hv
      rw [List.getElem?_toArray] at hv'
      obtain ⟨x, tx, hx, rfl⟩ := hmv.at hv'
      refine hideQ fun _ _ => ?_
      k_steps
      rename_i lx g8 F8 N8 l8
      have lw := lt_allLt l8.2.2.2
      refine Stop.of (comp_end ((lx, seqObj "list" [.str x tx] 0) :: nw) F8 N8 (List.forall_mem_cons.mpr ⟨.tail _ (.head _), List.forall_mem_cons.mpr ⟨.tail _ (.tail _ (.head _)), List.forall_mem_cons.mpr ⟨.tail _ (.tail _ (.tail _ (.head _))), List.forall_mem_cons.mpr ⟨.head _, fun p hp => .tail _ (.tail _ (.tail _ (.tail _ hp)))⟩⟩⟩⟩)
        (LCg.Off3.of (List.forall_mem_cons.mpr ⟨⟨Nat.ne_of_gt l8.1, Nat.ne_of_gt l8.2.1, Nat.ne_of_gt l8.2.2.1⟩, off6⟩)) (.inr ⟨_, .tail _ (hsub _ kml), rfl, _, rfl⟩) ⟨fun p hp => .tail _ (hsub p hp), Ok.cons oknw lw, ?_⟩)
      rw [List.take_add_one, hx, Option.toList_some, List.map_append]
      exact (hys.sub fun v x h => h.sub fun p hp => .tail _ hp).push ⟨lx, _, 0, rfl, .head _, Strs.mk1 _ _⟩
    case fin =>
      rintro ys nw ⟨hsub, oknw, hys⟩ D2 h6 tk6 F6 N6 off6
      have hsz : mvs.toArray.size = ms.length := by rw [List.size_toArray, hmvl]
      rw [hsz, List.take_length] at hys
      k_steps
      refine Stop.of ?_
      refine outS B (by k_asm) X (by k_asm) T rfl (by ktr_room) hun (.tail _ (hsub _ kD)) hsp (.head _) (hys.sub fun v x h => h.sub fun p hp => .tail _ hp) (strok_names _ hg.base) (fun q hq => ?_) hfo.pl ?_
      · obtain ⟨x, hx, rfl⟩ := List.mem_map.mp hq
        intro y hy
        rw [List.mem_singleton.mp hy]
        exact strok_mods _ hms x hx
      intro h2 tk2 F2 N2
      k_steps
      rename (News h₀ L _ _) => NZ
      rename (Fr h₀ L _ fun y => if y = Str.ofString "out" then _ else _) => FZ
      refine ret _ _ _ _ (by show some (Value.bool (outP (pieces f) _)) = _; unfold outOf; rw [hb1]; rfl) (fun y hy => ?_) (fun p hp => .tail _ (hsub p (subl p hp))) (Ok.cons_ne oknw (off1_mem off6)) FZ NZ
      simp only [if_neg hy]
      (repeat' split) <;> first | rfl | (rename_i e; rw [e]; symm; assumption) | (subst_vars; symm; assumption)

end
end
section
open PySem PySem.W PyProof.Rows PySem.Calls PySem.Spec
/-! what is given out, plain -/
/-- the kinds of the nodes: 0 a name, 1 a directory, 2 a file, 3 an ask -/
noncomputable def kindX (x : Str) : Nat := match x.cps.toList with
  | 47 :: r => if r.getLast? = some 63 then 3 else if (partsAll.any fun p => decide (dirS p = x)) then 1 else 2
  | _ => 0
noncomputable def dirOf (x : Str) : Str := ⟨((x.cps.toList.reverse.dropWhile fun c => c != 47).drop 1).reverse.toArray⟩
theorem kind_dir : ∀ p ∈ partsAll, kindX (dirS p) = 1 := by decide +kernel
theorem kind_path : ∀ p ∈ partsAll, ∀ bn ∈ bases5, kindX (dirS (p ++ [bn.1])) = 2 ∧ kindX (dirS (p ++ [bn.1]) ++ Str.ofString "?") = 3 ∧ dirOf (dirS (p ++ [bn.1])) = dirS p := by decide +kernel
theorem kind_name : ∀ bn ∈ bases5, kindX bn.2 = 0 ∧ nameS (Txt.split bn.2 dot) = bn.2 ∧ (∀ a ∈ Txt.split bn.2 dot, kindX (nameS [a]) = 0) := by decide +kernel
theorem kind_mod : ∀ ms ∈ modsAll, ∀ x ∈ ms, kindX x = 0 := by decide +kernel
theorem dir_inj : ∀ p ∈ partsAll, ∀ q ∈ partsAll, dirS p = dirS q → p = q := by decide +kernel
theorem parts_head : ∀ p ∈ partsAll, p.take 1 ∈ partsAll := by decide +kernel
theorem base_name : ∀ b ∈ bases5, ∀ c ∈ bases5, b.1 = c.1 → b.2 = c.2 := by decide +kernel
theorem piece_out : ∀ ms ∈ modsAll, ∀ bn ∈ bases5, outP (Txt.split bn.2 dot) (ms.map fun x => [x]) = (decide (bn.2 ∈ ms) || ((Txt.split bn.2 dot).length == 2 && decide (nameS ((Txt.split bn.2 dot).take 1) ∈ ms))) := by decide +kernel
theorem piece_ne : ∀ b ∈ bases5, ∀ c ∈ bases5, (Txt.split b.2 dot).length = 2 → (Txt.split c.2 dot).length = 2 → nameS ((Txt.split b.2 dot).take 1) ≠ c.2 := by decide +kernel
theorem parts_out1 (a : Str) (qs : List (List Str)) : outP [a] qs = decide ([a] ∈ qs) := by
  show List.any [decide ([a] ∈ qs)] id = _
  simp
theorem parts_out2 (a b : Str) (qs : List (List Str)) : outP [a, b] qs = (decide ([a] ∈ qs) || decide ([a, b] ∈ qs)) := by
  show List.any [decide ([a] ∈ qs), decide ([a, b] ∈ qs)] id = _
  simp
theorem app_cancel {x y z : Str} (h : x ++ z = y ++ z) : x = y := by
  obtain ⟨a⟩ := x
  obtain ⟨b⟩ := y
  obtain ⟨c⟩ := z
  have h' : a ++ c = b ++ c := congrArg Str.cps h
  have h2 := congrArg Array.toList h'
  rw [Array.toList_append, Array.toList_append] at h2
  rw [Array.toList_inj.mp (List.append_cancel_right h2)]
theorem Good.path_base {f : File} (h : Good f) : baseOf f.path = f.base := (base_path f.parts h.parts (f.base, f.name) h.base).1
theorem Good.kpath {f : File} (h : Good f) : kindX f.path = 2 := (kind_path f.parts h.parts (f.base, f.name) h.base).1
theorem Good.kask {f : File} (h : Good f) : kindX f.ask = 3 := (kind_path f.parts h.parts (f.base, f.name) h.base).2.1
theorem Good.dir {f : File} (h : Good f) : dirOf f.path = dirS f.parts := (kind_path f.parts h.parts (f.base, f.name) h.base).2.2
theorem Good.kname {f : File} (h : Good f) : kindX f.name = 0 := (kind_name (f.base, f.name) h.base).1
theorem Good.joined {f : File} (h : Good f) : nameS (pieces f) = f.name := (kind_name (f.base, f.name) h.base).2.1
theorem Good.kpiece {f : File} (h : Good f) : ∀ a ∈ pieces f, kindX (nameS [a]) = 0 := (kind_name (f.base, f.name) h.base).2.2
theorem Good.kdir {f : File} (h : Good f) : kindX (dirS f.parts) = 1 := kind_dir _ h.parts
theorem ask_path {f g : File} (h : f.ask = g.ask) : f.path = g.path := app_cancel h
theorem ask_name {f g : File} (hf : Good f) (hg : Good g) (h : f.ask = g.ask) : f.name = g.name := by
  have h1 : f.base = g.base := by rw [← hf.path_base, ← hg.path_base, ask_path h]
  exact base_name (f.base, f.name) hf.base (g.base, g.name) hg.base h1
/-- the edges into a node, by its kind -/
structure Laid (fs : List File) (qs : List (List Str)) (ms : List Str) (nodes gv : List Str) (succ : Str → List Str) : Prop where
  good : ∀ f ∈ fs, Good f
  pl : ∀ q ∈ qs, q ∈ partsAll
  md : ms ∈ modsAll
  cl : ∀ y ∈ nodes, ∀ z ∈ succ y, z ∈ nodes
  out : ∀ y, y ∉ nodes → succ y = []
  ed : ∀ y x, x ∈ succ y ↔ Ed fs y x ∨ (∃ p ∈ qs, y = dirS p ∧ x = dirS p) ∨ ∃ m ∈ ms, y = m ∧ x = m
  nol : ∀ x ∈ gv, x ∉ succ x
  fix : ∀ x ∈ nodes, (x ∈ gv ↔ ∀ y ∈ nodes, x ∈ succ y → y ∈ gv)
section
variable {fs : List File} {qs : List (List Str)} {ms nodes gv : List Str} {succ : Str → List Str}
theorem Laid.node {x y : Str} (H : Laid fs qs ms nodes gv succ) (h : x ∈ succ y) : x ∈ nodes ∧ y ∈ nodes := by
  have hy : y ∈ nodes := by
    by_cases hy : y ∈ nodes
    · exact hy
    · rw [H.out y hy] at h; cases h
  exact ⟨H.cl y hy x h, hy⟩
theorem Laid.is {x : Str} (H : Laid fs qs ms nodes gv succ) (hx : x ∈ nodes) : x ∈ gv ↔ ∀ y, x ∈ succ y → y ∈ gv :=
  (H.fix x hx).trans ⟨fun h y hy => h y (H.node hy).2 hy, fun h y _ hy => h y hy⟩
theorem Laid.file {f : File} (H : Laid fs qs ms nodes gv succ) (hf : f ∈ fs) {y x : Str} (h : FileE f y x) : x ∈ succ y := (H.ed y x).mpr (.inl (.inl ⟨f, hf, h⟩))
/-- a directory -/
theorem Laid.dir1 {a : Str} (H : Laid fs qs ms nodes gv succ) (hp : [a] ∈ partsAll) (hn : dirS [a] ∈ nodes) : dirS [a] ∈ gv ↔ [a] ∉ qs := by
  refine ⟨fun h hq => ?_, fun hq => ?_⟩
  · exact H.nol _ h ((H.ed _ _).mpr (.inr (.inl ⟨[a], hq, rfl, rfl⟩)))
  · refine (H.is hn).mpr fun y hy => ?_
    rcases (H.ed _ _).mp hy with (⟨f, hf, h⟩ | ⟨f, hf, h⟩) | ⟨p, hp2, h1, h2⟩ | ⟨m, hm, h1, h2⟩
    · have hg := H.good f hf
      rcases h with ⟨b, c, e1, e2, e3⟩ | ⟨b, c, e1, e2, e3⟩ | ⟨e1, e2⟩
      · have := dir_inj _ hp _ (e1 ▸ hg.parts) e3
        cases this
      · have k1 := kind_dir _ hp
        rw [e3, ← e1, hg.joined, hg.kname] at k1
        cases k1
      · have k1 := kind_dir _ hp
        rw [e2, hg.kpath] at k1
        cases k1
    · obtain ⟨f0, _, e, _⟩ := h
      have k1 := kind_dir _ hp
      rw [e, (H.good f hf).kask] at k1
      cases k1
    · exact absurd (dir_inj _ hp _ (H.pl p hp2) h2 ▸ hp2) hq
    · have k1 := kind_dir _ hp
      rw [h2, kind_mod _ H.md m hm] at k1
      cases k1
theorem Laid.dir {f : File} (H : Laid fs qs ms nodes gv succ) (hf : f ∈ fs) : dirS f.parts ∈ gv ↔ outP f.parts qs = false := by
  have hg := H.good f hf
  have hn : dirS f.parts ∈ nodes := (H.node (H.file hf (.inr (.inr ⟨rfl, rfl⟩)))).2
  have hp := hg.parts
  rcases hg.ok.len with hl | hl
  · obtain ⟨a, ha⟩ := len1 hl
    rw [ha] at hn hp ⊢
    rw [H.dir1 hp hn, parts_out1]
    simp
  · obtain ⟨a, b, ha⟩ := len2 hl
    have he : dirS [a, b] ∈ succ (dirS [a]) := H.file hf (.inl ⟨a, b, ha, rfl, rfl⟩)
    rw [ha] at hn hp ⊢
    have hp1 : [a] ∈ partsAll := parts_head _ hp
    have h1 := H.dir1 hp1 (H.node he).2
    rw [parts_out2]
    simp only [Bool.or_eq_false_iff, decide_eq_false_iff_not]
    refine ⟨fun h => ⟨h1.mp ((H.is hn).mp h _ he), fun hq => ?_⟩, fun h => (H.is hn).mpr fun y hy => ?_⟩
    · exact H.nol _ h ((H.ed _ _).mpr (.inr (.inl ⟨[a, b], hq, rfl, rfl⟩)))
    · rcases (H.ed _ _).mp hy with (⟨f', hf', h'⟩ | ⟨f', hf', h'⟩) | ⟨p, hp2, e1, e2⟩ | ⟨m, hm, e1, e2⟩
      · have hg' := H.good f' hf'
        rcases h' with ⟨b', c', e1, e2, e3⟩ | ⟨b', c', e1, e2, e3⟩ | ⟨e1, e2⟩
        · have := dir_inj _ hp _ (e1 ▸ hg'.parts) e3
          cases this
          rw [e2]
          exact h1.mpr h.1
        · have k1 := kind_dir _ hp
          rw [e3, ← e1, hg'.joined, hg'.kname] at k1
          cases k1
        · have k1 := kind_dir _ hp
          rw [e2, hg'.kpath] at k1
          cases k1
      · obtain ⟨f0, _, e, _⟩ := h'
        have k1 := kind_dir _ hp
        rw [e, (H.good f' hf').kask] at k1
        cases k1
      · exact absurd (dir_inj _ hp _ (H.pl p hp2) e2 ▸ hp2) h.2
      · have k1 := kind_dir _ hp
        rw [e2, kind_mod _ H.md m hm] at k1
        cases k1
/-- a file -/
theorem Laid.path {f : File} (H : Laid fs qs ms nodes gv succ) (hf : f ∈ fs) : f.path ∈ gv ↔ outP f.parts qs = false := by
  rw [← H.dir hf]
  have hg := H.good f hf
  have he : f.path ∈ succ (dirS f.parts) := H.file hf (.inr (.inr ⟨rfl, rfl⟩))
  have hk := hg.kpath
  refine ⟨fun h => (H.is (H.node he).1).mp h _ he, fun h => (H.is (H.node he).1).mpr fun y hy => ?_⟩
  rcases (H.ed _ _).mp hy with (⟨f', hf', h'⟩ | ⟨f', hf', h'⟩) | ⟨p, hp2, e1, e2⟩ | ⟨m, hm, e1, e2⟩
  · have hg' := H.good f' hf'
    rcases h' with ⟨b', c', e1, e2, e3⟩ | ⟨b', c', e1, e2, e3⟩ | ⟨e1, e2⟩
    · rw [e3, ← e1, hg'.kdir] at hk
      cases hk
    · rw [e3, ← e1, hg'.joined, hg'.kname] at hk
      cases hk
    · rw [e1, ← hg'.dir, ← e2, hg.dir]
      exact h
  · obtain ⟨f0, _, e, _⟩ := h'
    rw [e, (H.good f' hf').kask] at hk
    cases hk
  · rw [e2, kind_dir _ (H.pl p hp2)] at hk
    cases hk
  · rw [e2, kind_mod _ H.md m hm] at hk
    cases hk
/-- a name's first piece -/
theorem Laid.piece {f : File} {a b : Str} (H : Laid fs qs ms nodes gv succ) (hf : f ∈ fs) (hab : pieces f = [a, b]) : nameS [a] ∈ gv ↔ nameS [a] ∉ ms := by
  have hg := H.good f hf
  have he : f.name ∈ succ (nameS [a]) := H.file hf (.inr (.inl ⟨a, b, hab, rfl, by rw [← hab, hg.joined]⟩))
  have hk := hg.kpiece a (by rw [hab]; exact .head _)
  have hsp : Txt.split f.name dot = [a, b] := hab
  refine ⟨fun h hq => H.nol _ h ((H.ed _ _).mpr (.inr (.inr ⟨_, hq, rfl, rfl⟩))), fun h => (H.is (H.node he).2).mpr fun y hy => ?_⟩
  rcases (H.ed _ _).mp hy with (⟨f', hf', h'⟩ | ⟨f', hf', h'⟩) | ⟨p, hp2, e1, e2⟩ | ⟨m, hm, e1, e2⟩
  · have hg' := H.good f' hf'
    rcases h' with ⟨b', c', e1, e2, e3⟩ | ⟨b', c', e1, e2, e3⟩ | ⟨e1, e2⟩
    · rw [e3, ← e1, hg'.kdir] at hk
      cases hk
    · have hsp' : Txt.split f'.name dot = [b', c'] := e1
      have := piece_ne (f.base, f.name) hg.base (f'.base, f'.name) hg'.base (by dsimp only; rw [hsp]; rfl) (by dsimp only; rw [hsp']; rfl)
      dsimp only at this
      rw [hsp] at this
      exact absurd (by rw [← hg'.joined, e1, ← e3]; rfl) this
    · rw [e2, hg'.kpath] at hk
      cases hk
  · obtain ⟨f0, _, e, _⟩ := h'
    rw [e, (H.good f' hf').kask] at hk
    cases hk
  · rw [e2, kind_dir _ (H.pl p hp2)] at hk
    cases hk
  · exact absurd (e2 ▸ hm) h
/-- a module name -/
theorem Laid.name {f : File} (H : Laid fs qs ms nodes gv succ) (hf : f ∈ fs) (hn : f.name ∈ nodes) : f.name ∈ gv ↔ outP (pieces f) (ms.map fun x => [x]) = false := by
  have hg := H.good f hf
  have hk := hg.kname
  have ho : outP (pieces f) (ms.map fun x => [x]) = _ := piece_out ms H.md (f.base, f.name) hg.base
  rw [ho]
  simp only [Bool.or_eq_false_iff, Bool.and_eq_false_iff, decide_eq_false_iff_not]
  have into : ∀ y, f.name ∈ succ y → (∃ a b, pieces f = [a, b] ∧ y = nameS [a]) ∨ f.name ∈ ms ∧ y = f.name := fun y hy => by
    rcases (H.ed _ _).mp hy with (⟨f', hf', h'⟩ | ⟨f', hf', h'⟩) | ⟨p, hp2, e1, e2⟩ | ⟨m, hm, e1, e2⟩
    · have hg' := H.good f' hf'
      rcases h' with ⟨b', c', e1, e2, e3⟩ | ⟨b', c', e1, e2, e3⟩ | ⟨e1, e2⟩
      · rw [e3, ← e1, hg'.kdir] at hk
        cases hk
      · have hnn : f.name = f'.name := by rw [e3, ← e1, hg'.joined]
        exact .inl ⟨b', c', by unfold pieces at e1 ⊢; rw [hnn]; exact e1, e2⟩
      · rw [e2, hg'.kpath] at hk
        cases hk
    · obtain ⟨f0, _, e, _⟩ := h'
      rw [e, (H.good f' hf').kask] at hk
      cases hk
    · rw [e2, kind_dir _ (H.pl p hp2)] at hk
      cases hk
    · exact .inr ⟨e2 ▸ hm, e1.trans e2.symm⟩
  refine ⟨fun h => ⟨fun hq => H.nol _ h ((H.ed _ _).mpr (.inr (.inr ⟨_, hq, rfl, rfl⟩))), ?_⟩, fun h => (H.is hn).mpr fun y hy => ?_⟩
  · by_cases hl : (Txt.split f.name dot).length = 2
    · right
      obtain ⟨a, b, hab⟩ := len2 hl
      rw [hab]
      have he : f.name ∈ succ (nameS [a]) := H.file hf (.inr (.inl ⟨a, b, hab, rfl, by rw [← hg.joined]; show _ = nameS [a, b]; rw [← hab]; rfl⟩))
      exact (H.piece hf hab).mp ((H.is hn).mp h _ he)
    · left
      simpa using hl
  · rcases into y hy with ⟨a, b, hab, ey⟩ | ⟨hm, _⟩
    · have hab' : Txt.split f.name dot = [a, b] := hab
      rw [ey]
      refine (H.piece hf hab).mpr ?_
      rcases h.2 with h2 | h2
      · rw [hab'] at h2; cases h2
      · rw [hab'] at h2; exact h2
    · exact absurd hm h.1
/-- an ask -/
theorem Laid.ask {f f0 : File} (H : Laid fs qs ms nodes gv succ) (hf : f ∈ fs) (h0 : firstOf fs f.name = some f0) : f.ask ∈ gv ↔ outOf f0 qs ms = false := by
  have hg := H.good f hf
  obtain ⟨m0, n0⟩ := firstOf_some h0
  have hg0 := H.good f0 m0
  have h00 : firstOf fs f0.name = some f0 := by rw [n0]; exact h0
  -- into an ask
  have into : ∀ {g : File}, g ∈ fs → ∀ y, g.ask ∈ succ y → AskE fs g y g.ask := fun {g} hgm y hy => by
    have hgg := H.good g hgm
    have hk := hgg.kask
    rcases (H.ed _ _).mp hy with (⟨f', hf', h'⟩ | ⟨f', hf', h'⟩) | ⟨p, hp2, e1, e2⟩ | ⟨m, hm, e1, e2⟩
    · have hg' := H.good f' hf'
      rcases h' with ⟨b', c', e1, e2, e3⟩ | ⟨b', c', e1, e2, e3⟩ | ⟨e1, e2⟩
      · rw [e3, ← e1, hg'.kdir] at hk
        cases hk
      · rw [e3, ← e1, hg'.joined, hg'.kname] at hk
        cases hk
      · rw [e2, hg'.kpath] at hk
        cases hk
    · obtain ⟨f1, e, e2, h2⟩ := h'
      have hnn := ask_name hgg (H.good f' hf') e2
      exact ⟨f1, by rw [hnn]; exact e, rfl, by rw [e2]; exact h2⟩
    · rw [e2, kind_dir _ (H.pl p hp2)] at hk
      cases hk
    · rw [e2, kind_mod _ H.md m hm] at hk
      cases hk
  have first : f0.ask ∈ gv ↔ outOf f0 qs ms = false := by
    have e1 : f0.ask ∈ succ f0.path := (H.ed _ _).mpr (.inl (.inr ⟨f0, m0, f0, h00, rfl, .inl ⟨rfl, .inl rfl⟩⟩))
    have e2 : f0.ask ∈ succ f0.name := (H.ed _ _).mpr (.inl (.inr ⟨f0, m0, f0, h00, rfl, .inl ⟨rfl, .inr rfl⟩⟩))
    have hn := (H.node e1).1
    have hp := H.path m0
    have hq := H.name m0 (H.node e2).2
    unfold outOf
    rw [Bool.or_eq_false_iff, ← hp, ← hq]
    refine ⟨fun h => ⟨(H.is hn).mp h _ e1, (H.is hn).mp h _ e2⟩, fun h => (H.is hn).mpr fun y hy => ?_⟩
    obtain ⟨f1, e, _, h2⟩ := into m0 y hy
    rw [h00] at e
    cases e
    rcases h2 with ⟨_, rfl | rfl⟩ | ⟨hne, _⟩
    · exact h.1
    · exact h.2
    · exact absurd rfl hne
  by_cases hq : f0.ask = f.ask
  · rw [← hq]; exact first
  · have e1 : f.ask ∈ succ f0.ask := (H.ed _ _).mpr (.inl (.inr ⟨f, hf, f0, h0, rfl, .inr ⟨hq, rfl⟩⟩))
    have hn := (H.node e1).1
    rw [← first]
    refine ⟨fun h => (H.is hn).mp h _ e1, fun h => (H.is hn).mpr fun y hy => ?_⟩
    obtain ⟨f1, e, _, h2⟩ := into hf y hy
    rw [h0] at e
    cases e
    rcases h2 with ⟨hne, _⟩ | ⟨_, rfl⟩
    · exact absurd hne hq
    · exact h
end
/-! the answers -/
noncomputable def due1 (fs : List File) (qs : List (List Str)) (ms : List Str) (f : File) : Int := match firstOf fs f.name with | some f0 => b2 (outOf f0 qs ms) | none => 0
theorem first_ix {qs : List (List Str)} {ms : List Str} {n : Str} : ∀ {fs : List File} {f0 : File}, firstOf fs n = some f0 → (fs.map fun f => b2 (outOf f qs ms)).getD (firstIx (fs.map (·.name)) n) 0 = b2 (outOf f0 qs ms)
  | [], _, h => by cases h
  | f :: fs, f0, h => by
    unfold firstOf at h
    rw [List.find?_cons] at h
    unfold firstIx
    rw [List.map_cons, List.map_cons, List.findIdx_cons]
    by_cases e : f.name = n
    · simp only [e, decide_true] at h ⊢
      cases h
      rfl
    · simp only [e, decide_false] at h ⊢
      show List.getD (_ :: _) (_ + 1) 0 = _
      rw [List.getD_cons_succ]
      exact first_ix h
theorem firstOf_mem {fs : List File} {f : File} (h : f ∈ fs) : ∃ f0, firstOf fs f.name = some f0 := by
  cases h0 : firstOf fs f.name with
  | some f0 => exact ⟨f0, rfl⟩
  | none =>
    have := List.find?_eq_none.mp h0 f h
    simp at this
theorem due_is (fs : List File) (qs : List (List Str)) (ms : List Str) : dueOf (fs.map fun f => (f.path, f.name)) (fs.map fun f => b2 (outOf f qs ms)) = fs.map (due1 fs qs ms) := by
  have e : (fs.map fun f => (f.path, f.name)).map (·.2) = fs.map (·.name) := by rw [List.map_map]; rfl
  unfold dueOf
  rw [e, List.map_map]
  refine List.map_congr_left fun f hf => ?_
  obtain ⟨f0, h0⟩ := firstOf_mem hf
  unfold due1
  rw [h0]
  exact first_ix h0
theorem memo_snoc (mem : Memo) (a : Str) (k : Int) (n : Str) : Memo.get (mem ++ [(a, k)]) n = match mem.get n with | some q => some q | none => if a = n then some k else none := by
  unfold Memo.get
  rw [List.find?_append]
  cases List.find? (fun p => decide (p.1 = n)) mem with
  | some g => rfl
  | none =>
    by_cases h : a = n
    · simp [h]
    · simp [h]
theorem asks_all {qs : List (List Str)} {ms ds : List Str} {mem0 : Memo} : ∀ (gs fs : List File) (mem : Memo) (outs : List Int), (∀ f ∈ gs, mem0.get f.name = none) → (∀ f ∈ gs, ignV ms ds f.path f.name = outOf f qs ms) → (∀ n, mem0.get n = none → mem.get n = (firstOf fs n).map fun f => b2 (outOf f qs ms)) →
    ((gs.map fun f => (f.path, f.name)).foldl (ask1 ms ds) (mem, outs)).2 = outs ++ gs.map (due1 (fs ++ gs) qs ms)
  | [], fs, mem, outs, _, _, _ => by simp
  | g :: gs, fs, mem, outs, hn, hi, hm => by
    rw [List.map_cons, List.foldl_cons, List.map_cons]
    have hg := hm _ (hn g (.head _))
    have e : fs ++ g :: gs = (fs ++ [g]) ++ gs := by rw [List.append_assoc]; rfl
    have hd : due1 (fs ++ g :: gs) qs ms g = match firstOf fs g.name with | some f0 => b2 (outOf f0 qs ms) | none => b2 (outOf g qs ms) := by
      unfold due1 firstOf
      rw [List.find?_append]
      cases List.find? (fun f => decide (f.name = g.name)) fs with
      | some f0 => rfl
      | none => simp
    unfold ask1
    dsimp only
    rw [hg]
    cases h0 : firstOf fs g.name with
    | some f0 =>
      dsimp only [Option.map_some]
      rw [h0] at hd
      refine (asks_all gs (fs ++ [g]) mem _ (fun f hf => hn f (.tail _ hf)) (fun f hf => hi f (.tail _ hf)) fun n h => ?_).trans ?_
      · rw [hm n h, first_snoc]
        cases h1 : firstOf fs n with
        | some f1 => rfl
        | none =>
          dsimp only
          rw [if_neg fun e : g.name = n => by rw [e, h1] at h0; cases h0]
      · rw [e] at hd ⊢
        rw [hd, List.append_assoc]; rfl
    | none =>
      dsimp only [Option.map_none]
      rw [h0] at hd
      rw [hi g (.head _)]
      refine (asks_all gs (fs ++ [g]) _ _ (fun f hf => hn f (.tail _ hf)) (fun f hf => hi f (.tail _ hf)) fun n h => ?_).trans ?_
      · rw [memo_snoc, hm n h, first_snoc]
        cases h1 : firstOf fs n with
        | some f1 => rfl
        | none =>
          dsimp only [Option.map_none]
          split <;> rfl
      · rw [e] at hd ⊢
        rw [hd, List.append_assoc]; rfl
theorem answers_are (fs : List File) (qs : List (List Str)) (ms ds : List Str) (hg : ∀ f ∈ fs, Good f) (hi : ∀ f ∈ fs, outOf f qs ms = ignV ms ds f.path f.name) :
    ((fs.map fun f => (f.path, f.name)).foldl (ask1 ms ds) ([(Str.ofString "<string>", 1)], [])).2 = fs.map (due1 fs qs ms) := by
  have hfresh : ∀ bn ∈ bases5, Memo.get [(Str.ofString "<string>", 1)] bn.2 = none := by decide +kernel
  have := asks_all (mem0 := [(Str.ofString "<string>", 1)]) (qs := qs) fs [] [(Str.ofString "<string>", 1)] [] (fun f hf => hfresh (f.base, f.name) (hg f hf).base) (fun f hf => (hi f hf).symm) fun n h => by rw [h]; rfl
  rw [this]; rfl
theorem given_is {fs : List File} {qs : List (List Str)} {ms nodes gv : List Str} {succ : Str → List Str} (H : Laid fs qs ms nodes gv succ) : (fs.map fun f => if f.ask ∈ gv then (0 : Int) else 1) = fs.map (due1 fs qs ms) := by
  refine List.map_congr_left fun f hf => ?_
  obtain ⟨f0, h0⟩ := firstOf_mem hf
  have h := H.ask hf h0
  unfold due1
  rw [h0]
  dsimp only
  cases ho : outOf f0 qs ms with
  | true =>
    rw [ho] at h
    rw [if_neg fun hm => by have := h.mp hm; cases this]
    rfl
  | false =>
    rw [if_pos (h.mpr ho)]
    rfl
theorem outP_app (p : List Str) (q r : List Str) : outP p [q, r] = (outP p [q] || outP p [r]) := by
  unfold outP
  generalize List.range p.length = ks
  induction ks with
  | nil => rfl
  | cons k ks ih =>
    rw [List.map_cons, List.map_cons, List.map_cons, List.any_cons, List.any_cons, List.any_cons, ih]
    simp only [id, List.mem_cons, List.not_mem_nil, or_false]
    by_cases h1 : p.take (k + 1) = q <;> by_cases h2 : p.take (k + 1) = r <;> simp [h1, h2]
theorem ign_is {f : File} (hg : Good f) {ms q r : List Str} (hq : q ∈ partsAll) (hr : r ∈ partsAll) (hms : ms ∈ modsAll) : outOf f [q, r] ms = ignV ms [dirS q, dirS r] f.path f.name := by
  have h1 := starts_path f.parts hg.parts (f.base, f.name) hg.base q hq
  have h2 := starts_path f.parts hg.parts (f.base, f.name) hg.base r hr
  have h3 := mods_out ms hms (f.base, f.name) hg.base
  unfold outOf ignV
  rw [outP_app, List.any_cons, List.any_cons, List.any_nil, Bool.or_false, h3]
  have h1' : Starts f.path (dirS q ++ Str.ofString "/") = outP f.parts [q] := h1
  have h2' : Starts f.path (dirS r ++ Str.ofString "/") = outP f.parts [r] := h2
  rw [h1', h2', Bool.or_comm]
  rfl
end
section
open PySem PySem.W PyProof.Rows PySem.Calls PySem.Spec
theorem words_LawH : True := by
  k_with_none
  k_with "mine room" => ((try simp only [depth_under_make, depth_under_kw, depth_in1, depth_deeper, depth_caller]); (try dsimp only [ktrTop]); omega)
  k_with "mine all" => (first | (with_reducible assumption) | (with_reducible exact allLt_of (by assumption)) | (refine And.intro ?_ ?_; (first | assumption | ((try dsimp only at *); omega)); k_extra "mine all") | (exact allLt_up (by assumption) (by omega)) | (refine allLt_set ?_; k_extra "mine all") | fail)
  k_with "mine lt" => (first | assumption | (refine lt_allLt ?_; k_extra "mine all") | fail)
  k_with "mine ok" => (first | assumption | (refine Ok.setAt ?_ _ _; k_extra "mine ok") | (refine Ok.cons ?_ ?_; (k_extra "mine ok"); (k_extra "mine lt")) | fail)
  k_with "mine ne" => ((try dsimp only); first | assumption | (refine Ne.symm ?_; assumption) | (refine neN ?_; omega) | (apply ne_z1; (case q9m => assumption); (case q9h => k_extra "mine all")) | (apply ne_z2; (case q9m => assumption); (case q9h => k_extra "mine all")) | fail)
  k_with "mine nes" => (first | assumption | exact List.forall_mem_nil _ | (refine List.forall_mem_cons.mpr ⟨?_, ?_⟩; (k_extra "mine ne"); (k_extra "mine nes")) | (refine nes_set ?_; k_extra "mine nes") | (refine nes_lt ?_; k_extra "mine all") | fail)
  k_with "mine mem" => (first | (with_reducible assumption) | ktr_member | (with_reducible exact List.mem_cons_self) | (with_reducible apply mset_z; k_mem) | (with_reducible apply mset_ne_z; (case q9n => k_extra "mine ne"); (case q9x => k_mem)) | (with_reducible refine List.mem_cons_of_mem _ ?_; k_mem) | fail)
  k_with "mine upd" => (first | (with_reducible refine Upd.head ?_; k_extra "mine nes") | (with_reducible apply upd_tail; (case q9ne => k_extra "mine ne"); (case q9u => k_upd)) | (apply upd_z; (case q9k => k_extra "mine ok"); (case q9m => k_mem)) | fail)
  k_with "mine updF" => (first | (with_reducible refine UpdF.head ?_; k_extra "mine nes") | (with_reducible apply updF_tail; (case q9ne => k_extra "mine ne"); (case q9u => k_updF)) | (apply updF_z; (case q9k => k_extra "mine ok"); (case q9m => k_mem)) | fail)
  k_with "mine sub" => (first | exact (fun p hp => hp) | exact (fun p hp => List.mem_cons_of_mem _ hp) | exact (fun p hp => List.mem_cons_of_mem _ (List.mem_cons_of_mem _ hp)) | exact (fun p hp => List.mem_cons_of_mem _ (List.mem_cons_of_mem _ (List.mem_cons_of_mem _ hp))) | (refine List.forall_mem_cons.mpr ⟨?_, ?_⟩; k_mem; k_extra "mine sub") | (intro p hp; (repeat (first | exact hp | refine List.mem_cons_of_mem _ ?_))) | fail)
  k_with "mine units" => ((try simp only [units_in1, units_deeper]); (try dsimp only [ktrTop]); omega)
  k_with "mine leave" => (with_reducible apply HQ.use_z; (case q9h => with_reducible assumption))
  trivial
section
variable {prog : Program} {w : World} {p : Program} {loose : List Str} {mean : ExcName → Option Value} {mg mb : Str → Option Value} {dp un : Nat} {gd : Option (List Code)} {cn : Str} {cs : Scope} {a : Addr} {ccd : Value} {cl : List (Str × Addr)} {outer : List Env} {A₀ : Around} {base h₀ : Heap} {L : Addr} {m : Str → Option Value} {news : Led} {s : Shared} {Q E : Value → Shared → Prop}
theorem words_lh_1 : True := by
  k_with "ite" => (first | (with_reducible refine ite_yes (by with_reducible assumption) ?_) | (with_reducible refine ite_no (by with_reducible assumption) ?_))
  k_with "call builtin:list.append" => ((k_here; (with_reducible show wpAny _ _ (call (Value.builtin _) [Value.ref _, _]) _ _ _); k_dflt (refine append_K (by k_asm) (by k_asm) (by k_upd) ?_ (by (simp only [List.size_toArray, List.length_map]; rw [sizeLine_eq]; omega)); k_whole); intro _ _ _; (try k_sweep)))
  trivial
theorem unknow {h : Heap} {y : Str} {v : Value} (F : Fr h₀ L h (fun z => if z = y then some v else m z)) (e : m y = some v) : Fr h₀ L h m := by
  have : (fun z => if z = y then some v else m z) = m := by
    funext z
    by_cases h : z = y
    · rw [if_pos h, h, e]
    · rw [if_neg h]
  rw [this] at F; exact F
/-- own.append(1 if out else 0) -/
theorem segF3 {sc : Scope} {cg ce cw : Addr} {QF : Flow → Shared → Prop} (B : Below A₀ base [] h₀) (F : Fr h₀ L s.heap m) (X : (K w.params).In h₀) (N : News h₀ L s.heap news) (T : Top p loose mean mg mb h₀) (XB : (K w.params).In base) (TB : Top p loose mean mg mb base) (hdp : dp + 100 < recursionLimit) (hun : un + 100 < cLine) (hsc : fScope (topS 28) = sc) {st : Stmt} (hst : stAt lfBody 3 = st) {ol : Addr} {ovs : List Value} {on : Nat} {rest : Led} {b : Bool} (hnews : news = (ol, seqObj "list" ovs on) :: rest) (hne : ∀ p ∈ rest, p.1 ≠ ol) (hov : ovs.length ≤ 100)
    (hm1 : m (Str.ofString "own") = some (.ref ol)) (hm2 : m (Str.ofString "out") = some (.bool b))
    (ret : ∀ t h' tk', Fr h₀ L h' m → News h₀ L h' ((ol, seqObj "list" (ovs ++ [.int (b2 b) t]) (on + 1)) :: rest) → QF .next { s with heap := h', toks := tk' }) :
    wpAny (model prog w) (ktrTop dp un gd (Str.ofString "law") sc L a ccd [(Str.ofString "given", cg), (Str.ofString "seeds", ce), (Str.ofString "drawn", cw)] []) (exec st (envX (Str.ofString "law") sc L a ccd [(Str.ofString "given", cg), (Str.ofString "seeds", ce), (Str.ofString "drawn", cw)])) QF (fun _ _ => False) s := by
  (conv at hst => lhs; whnf)
  (conv at hsc => lhs; whnf)
  subst hst
  subst hsc
  subst hnews
  cases b with
  | true =>
    have F2 := know (know F (y := Str.ofString "own") hm1) (y := Str.ofString "out") hm2
    clear F
    k_steps
    rename (Fr h₀ L _ _) => FZ
    rename (News h₀ L _ _) => NZ
    rw [List.push_toArray] at NZ
    exact ret _ _ _ (unknow (unknow FZ hm2) hm1) NZ
  | false =>
    have F2 := know (know F (y := Str.ofString "own") hm1) (y := Str.ofString "out") hm2
    clear F
    k_steps
    rename (Fr h₀ L _ _) => FZ
    rename (News h₀ L _ _) => NZ
    rw [List.push_toArray] at NZ
    exact ret _ _ _ (unknow (unknow FZ hm2) hm1) NZ

end
end
section
open PySem PySem.W PyProof.Rows PySem.Calls PySem.Spec
theorem words_LawI : True := by
  k_with_none
  k_with "mine room" => ((try simp only [depth_under_make, depth_under_kw, depth_in1, depth_deeper, depth_caller]); (try dsimp only [ktrTop]); omega)
  k_with "mine all" => (first | (with_reducible assumption) | (with_reducible exact allLt_of (by assumption)) | (refine And.intro ?_ ?_; (first | assumption | ((try dsimp only at *); omega)); k_extra "mine all") | (exact allLt_up (by assumption) (by omega)) | (refine allLt_set ?_; k_extra "mine all") | fail)
  k_with "mine lt" => (first | assumption | (refine lt_allLt ?_; k_extra "mine all") | fail)
  k_with "mine ok" => (first | assumption | (refine Ok.setAt ?_ _ _; k_extra "mine ok") | (refine Ok.cons ?_ ?_; (k_extra "mine ok"); (k_extra "mine lt")) | fail)
  k_with "mine ne" => ((try dsimp only); first | assumption | (refine Ne.symm ?_; assumption) | (refine neN ?_; omega) | (apply ne_z1; (case q9m => assumption); (case q9h => k_extra "mine all")) | (apply ne_z2; (case q9m => assumption); (case q9h => k_extra "mine all")) | fail)
  k_with "mine nes" => (first | assumption | exact List.forall_mem_nil _ | (refine List.forall_mem_cons.mpr ⟨?_, ?_⟩; (k_extra "mine ne"); (k_extra "mine nes")) | (refine nes_set ?_; k_extra "mine nes") | (refine nes_lt ?_; k_extra "mine all") | fail)
  k_with "mine mem" => (first | (with_reducible assumption) | ktr_member | (with_reducible exact List.mem_cons_self) | (with_reducible apply mset_z; k_mem) | (with_reducible apply mset_ne_z; (case q9n => k_extra "mine ne"); (case q9x => k_mem)) | (with_reducible refine List.mem_cons_of_mem _ ?_; k_mem) | fail)
  k_with "mine upd" => (first | (with_reducible refine Upd.head ?_; k_extra "mine nes") | (with_reducible apply upd_tail; (case q9ne => k_extra "mine ne"); (case q9u => k_upd)) | (apply upd_z; (case q9k => k_extra "mine ok"); (case q9m => k_mem)) | fail)
  k_with "mine updF" => (first | (with_reducible refine UpdF.head ?_; k_extra "mine nes") | (with_reducible apply updF_tail; (case q9ne => k_extra "mine ne"); (case q9u => k_updF)) | (apply updF_z; (case q9k => k_extra "mine ok"); (case q9m => k_mem)) | fail)
  k_with "mine sub" => (first | exact (fun p hp => hp) | exact (fun p hp => List.mem_cons_of_mem _ hp) | exact (fun p hp => List.mem_cons_of_mem _ (List.mem_cons_of_mem _ hp)) | exact (fun p hp => List.mem_cons_of_mem _ (List.mem_cons_of_mem _ (List.mem_cons_of_mem _ hp))) | (refine List.forall_mem_cons.mpr ⟨?_, ?_⟩; k_mem; k_extra "mine sub") | (intro p hp; (repeat (first | exact hp | refine List.mem_cons_of_mem _ ?_))) | fail)
  k_with "mine units" => ((try simp only [units_in1, units_deeper]); (try dsimp only [ktrTop]); omega)
  k_with "mine leave" => (with_reducible apply HQ.use_z; (case q9h => with_reducible assumption))
  trivial
section
variable {prog : Program} {w : World} {p : Program} {loose : List Str} {mean : ExcName → Option Value} {mg mb : Str → Option Value} {dp un : Nat} {gd : Option (List Code)} {cn : Str} {cs : Scope} {a : Addr} {ccd : Value} {cl : List (Str × Addr)} {outer : List Env} {A₀ : Around} {base h₀ : Heap} {L : Addr} {m : Str → Option Value} {news : Led} {s : Shared} {Q E : Value → Shared → Prop}
theorem words_li_1 : True := by
  k_with "ite" => (first | (with_reducible refine ite_yes (by with_reducible assumption) ?_) | (with_reducible refine ite_no (by with_reducible assumption) ?_))
  k_with "call ref" => (((with_reducible show wpAny _ _ (call (Value.ref 100) _) _ _ _); refine stop_intro ?_))
  k_with "call ref" => (((with_reducible show wpAny _ _ (call (Value.ref 111) _) _ _ _); refine stop_intro ?_))
  k_with "call ref" => (((with_reducible show wpAny _ _ (call (Value.ref 97) _) _ _ _); refine stop_intro ?_))
  k_with "subscriptTail Name UnaryOp ref int" => ((k_here; (with_reducible show wpAny _ _ (subscriptTail _ _ (Value.ref _) (Value.int _ _)) _ _ _); k_dflt (refine kde_neg (vs := _) (by exact News.isList (by k_asm) (by k_mem)) (by decide) (by decide) (by assumption) (by assumption) ?_)))
  trivial
/-- the fresh reader's answer -/
theorem segF4 {sc : Scope} {cg ce cw : Addr} {QF : Flow → Shared → Prop} (B : Below A₀ base [] h₀) (F : Fr h₀ L s.heap m) (X : (K w.params).In h₀) (N : News h₀ L s.heap news) (T : Top p loose mean mg mb h₀) (XB : (K w.params).In base) (TB : Top p loose mean mg mb base) (hdp : dp + 100 < recursionLimit) (hun : un + 100 < cLine) (hsc : fScope (topS 28) = sc) {st : Stmt} (hst : stAt lfBody 4 = st) {ml dl ol : Addr} {mvs ovs : List Value} {mn dn on : Nat} {ms : List Str} {w1 w2 : Str} {u1 u2 tp to : Tok} {f : File} {k : Int} (hg : Good f) (ok : Ok news) (hml : (ml, seqObj "list" mvs mn) ∈ news) (hmv : Strs mvs ms) (hms : ms ∈ modsAll) (hdl : (dl, seqObj "list" [.str w1 u1, .str w2 u2] dn) ∈ news) (h1 : NormOk w1) (h2 : NormOk w2)
    (hol : (ol, seqObj "list" (ovs ++ [.int k to]) on) ∈ news) (hk : k = b2 (ignV ms [normP w1, normP w2] f.path f.name)) (hov : ovs.length ≤ 100) (hn1 : (normP w1).length ≤ 100) (hn2 : (normP w2).length ≤ 100)
    (hm1 : m (Str.ofString "mods") = some (.ref ml)) (hm2 : m (Str.ofString "dirs") = some (.ref dl)) (hm3 : m (Str.ofString "path") = some (.str f.path tp)) (hm4 : m (Str.ofString "own") = some (.ref ol))
    (ret : ∀ h' tk' dr rest, (∀ p ∈ news, p ∈ rest) → Ok rest → Fr h₀ L h' m → News h₀ L h' rest → QF .next { s with heap := h', toks := tk', drawn := dr }) :
    wpAny (model prog w) (ktrTop dp un gd (Str.ofString "law") sc L a ccd [(Str.ofString "given", cg), (Str.ofString "seeds", ce), (Str.ofString "drawn", cw)] []) (exec st (envX (Str.ofString "law") sc L a ccd [(Str.ofString "given", cg), (Str.ofString "seeds", ce), (Str.ofString "drawn", cw)])) QF (fun _ _ => False) s := by
  (conv at hst => lhs; whnf)
  have hsc' := hsc
  (conv at hsc => lhs; whnf)
  subst hst
  subst hsc
  have F2 := know (know (know (know F (y := Str.ofString "mods") hm1) (y := Str.ofString "dirs") hm2) (y := Str.ofString "path") hm3) (y := Str.ofString "own") hm4
  clear F
  k_steps
  refine Stop.of ?_
  have hnd : ms.Nodup := (show ∀ ms ∈ modsAll, ms.Nodup by decide +kernel) ms hms
  have hm2l : ms.length ≤ 2 := (show ∀ ms ∈ modsAll, ms.length ≤ 2 by decide +kernel) ms hms
  refine newIgnore B (by k_asm) X (by k_asm) T (by omega) ok hsc' hml hmv hnd (by omega) hdl h1 h2 ?_
  intro R kvs h8 tk8 nl F8 N8 H8 K8 hkp
  have mI8 := H8.inst
  refine hideG fun zG zK => ?_
  obtain ⟨e1, e2, e3, v1, v2, v3, mD8⟩ := H8.dict
  obtain ⟨hbp, hlp⟩ := base_path f.parts hg.parts (f.base, f.name) hg.base
  refine zK ?_
  clear zK zG
  have hfp : f.path.length ≤ 1000 := Nat.le_trans hlp (by decide)
  k_steps
  refine Stop.of ?_
  refine modnameS B (by k_asm) X (by k_asm) T rfl (by ktr_room) hfp hg.base hbp ?_
  intro t9 h9 tk9 F9 N9
  k_steps
  refine Stop.of ?_
  have hmb : ∀ y ∈ ms, y.length ≤ 100 := (show ∀ ms ∈ modsAll, ∀ y ∈ ms, y.length ≤ 100 by decide +kernel) ms hms
  have hfresh : Memo.get [(Str.ofString "<string>", 1)] f.name = none := (show ∀ bn ∈ bases5, Memo.get [(Str.ofString "<string>", 1)] bn.2 = none by decide +kernel) (f.base, f.name) hg.base
  have hvn := K8.none hfresh
  have hfl := hg.ok.name
  have hj := last_ix ovs (Value.int k to)
  have hx5 : (ovs ++ [Value.int k to])[ovs.length]? = some (Value.int k to) := by simp
  have kb : ((if ignV ms [normP w1, normP w2] f.path f.name = true then (1 : Int) else 0) != k) = false := by rw [hk]; unfold b2; simp
  refine namesS B (by k_asm) X (by k_asm) T rfl (by ktr_room) H8 (by omega) (by rw [K8.len]; decide) hfp (by omega) hmb (List.forall_mem_cons.mpr ⟨hn1, List.forall_mem_cons.mpr ⟨hn2, List.forall_mem_nil _⟩⟩) (by show 2 < 1000; decide) (fun v hv => by rw [hvn] at hv; cases hv) (fun v h' tk' hv => by rw [hvn] at hv; cases hv) ?_
  intro _ t u h10 tk10 dr nl10 F10 N10 H10 hk10
  have hol10 := hk10 _ (hkp _ hol).1 (hkp _ hol).2
  k_steps
  rename (Fr h₀ L _ _) => FZ
  rename (News h₀ L _ _) => NZ
  exact ret _ _ _ _ (fun p hp => hk10 p (hkp p hp).1 (hkp p hp).2) H10.ok (unknow (unknow (unknow (unknow FZ hm4) hm3) hm2) hm1) NZ

end
end
section
open PySem PySem.W PyProof.Rows PySem.Calls PySem.Spec
theorem words_LawJ : True := by
  k_with_none
  k_with "mine room" => ((try simp only [depth_under_make, depth_under_kw, depth_in1, depth_deeper, depth_caller]); (try dsimp only [ktrTop]); omega)
  k_with "mine all" => (first | (with_reducible assumption) | (with_reducible exact allLt_of (by assumption)) | (refine And.intro ?_ ?_; (first | assumption | ((try dsimp only at *); omega)); k_extra "mine all") | (exact allLt_up (by assumption) (by omega)) | (refine allLt_set ?_; k_extra "mine all") | fail)
  k_with "mine lt" => (first | assumption | (refine lt_allLt ?_; k_extra "mine all") | fail)
  k_with "mine ok" => (first | assumption | (refine Ok.setAt ?_ _ _; k_extra "mine ok") | (refine Ok.cons ?_ ?_; (k_extra "mine ok"); (k_extra "mine lt")) | fail)
  k_with "mine ne" => ((try dsimp only); first | assumption | (refine Ne.symm ?_; assumption) | (refine neN ?_; omega) | (apply ne_z1; (case q9m => assumption); (case q9h => k_extra "mine all")) | (apply ne_z2; (case q9m => assumption); (case q9h => k_extra "mine all")) | fail)
  k_with "mine nes" => (first | assumption | exact List.forall_mem_nil _ | (refine List.forall_mem_cons.mpr ⟨?_, ?_⟩; (k_extra "mine ne"); (k_extra "mine nes")) | (refine nes_set ?_; k_extra "mine nes") | (refine nes_lt ?_; k_extra "mine all") | fail)
  k_with "mine mem" => (first | (with_reducible assumption) | ktr_member | (with_reducible exact List.mem_cons_self) | (with_reducible apply mset_z; k_mem) | (with_reducible apply mset_ne_z; (case q9n => k_extra "mine ne"); (case q9x => k_mem)) | (with_reducible refine List.mem_cons_of_mem _ ?_; k_mem) | fail)
  k_with "mine upd" => (first | (with_reducible refine Upd.head ?_; k_extra "mine nes") | (with_reducible apply upd_tail; (case q9ne => k_extra "mine ne"); (case q9u => k_upd)) | (apply upd_z; (case q9k => k_extra "mine ok"); (case q9m => k_mem)) | fail)
  k_with "mine updF" => (first | (with_reducible refine UpdF.head ?_; k_extra "mine nes") | (with_reducible apply updF_tail; (case q9ne => k_extra "mine ne"); (case q9u => k_updF)) | (apply updF_z; (case q9k => k_extra "mine ok"); (case q9m => k_mem)) | fail)
  k_with "mine sub" => (first | exact (fun p hp => hp) | exact (fun p hp => List.mem_cons_of_mem _ hp) | exact (fun p hp => List.mem_cons_of_mem _ (List.mem_cons_of_mem _ hp)) | exact (fun p hp => List.mem_cons_of_mem _ (List.mem_cons_of_mem _ (List.mem_cons_of_mem _ hp))) | (refine List.forall_mem_cons.mpr ⟨?_, ?_⟩; k_mem; k_extra "mine sub") | (intro p hp; (repeat (first | exact hp | refine List.mem_cons_of_mem _ ?_))) | fail)
  k_with "mine units" => ((try simp only [units_in1, units_deeper]); (try dsimp only [ktrTop]); omega)
  k_with "mine leave" => (with_reducible apply HQ.use_z; (case q9h => with_reducible assumption))
  trivial
section
variable {prog : Program} {w : World} {p : Program} {loose : List Str} {mean : ExcName → Option Value} {mg mb : Str → Option Value} {dp un : Nat} {gd : Option (List Code)} {cn : Str} {cs : Scope} {a : Addr} {ccd : Value} {cl : List (Str × Addr)} {outer : List Env} {A₀ : Around} {base h₀ : Heap} {L : Addr} {m : Str → Option Value} {news : Led} {s : Shared} {Q E : Value → Shared → Prop}
theorem words_lj_1 : True := by
  k_with "call builtin:list.append" => ((k_here; (with_reducible show wpAny _ _ (call (Value.builtin _) [Value.ref _, _]) _ _ _); k_dflt (refine append_K (by k_asm) (by k_asm) (by k_upd) ?_ (by (simp only [List.size_toArray, List.length_map]; rw [sizeLine_eq]; omega)); k_whole); intro _ _ _; (try k_sweep)))
  trivial
/-- asks.append((path, name)) -/
theorem segF5 {sc : Scope} {cg ce cw : Addr} {QF : Flow → Shared → Prop} (B : Below A₀ base [] h₀) (F : Fr h₀ L s.heap m) (X : (K w.params).In h₀) (N : News h₀ L s.heap news) (T : Top p loose mean mg mb h₀) (XB : (K w.params).In base) (TB : Top p loose mean mg mb base) (hdp : dp + 100 < recursionLimit) (hun : un + 100 < cLine) (hsc : fScope (topS 28) = sc) {st : Stmt} (hst : stAt lfBody 5 = st) {al : Addr} {avs : List Value} {an : Nat} {rest : Led} {x y : Str} {tx ty : Tok} (hnews : news = (al, seqObj "list" avs an) :: rest) (hne : ∀ p ∈ rest, p.1 ≠ al) (hav : avs.length ≤ 100)
    (hm1 : m (Str.ofString "asks") = some (.ref al)) (hm2 : m (Str.ofString "path") = some (.str x tx)) (hm3 : m (Str.ofString "name") = some (.str y ty))
    (ret : ∀ D h' tk', (∀ p ∈ rest, p.1 < D) → al < D → Fr h₀ L h' m → News h₀ L h' ((D, seqObj "tuple" [.str x tx, .str y ty] 0) :: (al, seqObj "list" (avs ++ [.ref D]) (an + 1)) :: rest) → QF .next { s with heap := h', toks := tk' }) :
    wpAny (model prog w) (ktrTop dp un gd (Str.ofString "law") sc L a ccd [(Str.ofString "given", cg), (Str.ofString "seeds", ce), (Str.ofString "drawn", cw)] []) (exec st (envX (Str.ofString "law") sc L a ccd [(Str.ofString "given", cg), (Str.ofString "seeds", ce), (Str.ofString "drawn", cw)])) QF (fun _ _ => False) s := by
  (conv at hst => lhs; whnf)
  (conv at hsc => lhs; whnf)
  subst hst
  subst hsc
  subst hnews
  have F2 := know (know (know F (y := Str.ofString "asks") hm1) (y := Str.ofString "path") hm2) (y := Str.ofString "name") hm3
  clear F
  k_steps
  rename_i D hA lA hB FZ NZ
  rw [List.push_toArray] at NZ
  exact ret D _ _ (lt_allLt lA.2) lA.1 (unknow (unknow (unknow FZ hm3) hm2) hm1) NZ

end
end
section
open PySem PySem.W PyProof.Rows PySem.Calls PySem.Spec
theorem words_LawK : True := by
  k_with_none
  k_with "mine room" => ((try simp only [depth_under_make, depth_under_kw, depth_in1, depth_deeper, depth_caller]); (try dsimp only [ktrTop]); omega)
  k_with "mine all" => (first | (with_reducible assumption) | (with_reducible exact allLt_of (by assumption)) | (refine And.intro ?_ ?_; (first | assumption | ((try dsimp only at *); omega)); k_extra "mine all") | (exact allLt_up (by assumption) (by omega)) | (refine allLt_set ?_; k_extra "mine all") | fail)
  k_with "mine lt" => (first | assumption | (refine lt_allLt ?_; k_extra "mine all") | fail)
  k_with "mine ok" => (first | assumption | (refine Ok.setAt ?_ _ _; k_extra "mine ok") | (refine Ok.cons ?_ ?_; (k_extra "mine ok"); (k_extra "mine lt")) | fail)
  k_with "mine ne" => ((try dsimp only); first | assumption | (refine Ne.symm ?_; assumption) | (refine neN ?_; omega) | (apply ne_z1; (case q9m => assumption); (case q9h => k_extra "mine all")) | (apply ne_z2; (case q9m => assumption); (case q9h => k_extra "mine all")) | fail)
  k_with "mine nes" => (first | assumption | exact List.forall_mem_nil _ | (refine List.forall_mem_cons.mpr ⟨?_, ?_⟩; (k_extra "mine ne"); (k_extra "mine nes")) | (refine nes_set ?_; k_extra "mine nes") | (refine nes_lt ?_; k_extra "mine all") | fail)
  k_with "mine mem" => (first | (with_reducible assumption) | ktr_member | (with_reducible exact List.mem_cons_self) | (with_reducible apply mset_z; k_mem) | (with_reducible apply mset_ne_z; (case q9n => k_extra "mine ne"); (case q9x => k_mem)) | (with_reducible refine List.mem_cons_of_mem _ ?_; k_mem) | fail)
  k_with "mine upd" => (first | (with_reducible refine Upd.head ?_; k_extra "mine nes") | (with_reducible apply upd_tail; (case q9ne => k_extra "mine ne"); (case q9u => k_upd)) | (apply upd_z; (case q9k => k_extra "mine ok"); (case q9m => k_mem)) | fail)
  k_with "mine updF" => (first | (with_reducible refine UpdF.head ?_; k_extra "mine nes") | (with_reducible apply updF_tail; (case q9ne => k_extra "mine ne"); (case q9u => k_updF)) | (apply updF_z; (case q9k => k_extra "mine ok"); (case q9m => k_mem)) | fail)
  k_with "mine sub" => (first | exact (fun p hp => hp) | exact (fun p hp => List.mem_cons_of_mem _ hp) | exact (fun p hp => List.mem_cons_of_mem _ (List.mem_cons_of_mem _ hp)) | exact (fun p hp => List.mem_cons_of_mem _ (List.mem_cons_of_mem _ (List.mem_cons_of_mem _ hp))) | (refine List.forall_mem_cons.mpr ⟨?_, ?_⟩; k_mem; k_extra "mine sub") | (intro p hp; (repeat (first | exact hp | refine List.mem_cons_of_mem _ ?_))) | fail)
  k_with "mine units" => ((try simp only [units_in1, units_deeper]); (try dsimp only [ktrTop]); omega)
  k_with "mine leave" => (with_reducible apply HQ.use_z; (case q9h => with_reducible assumption))
  trivial
section
variable {prog : Program} {w : World} {p : Program} {loose : List Str} {mean : ExcName → Option Value} {mg mb : Str → Option Value} {dp un : Nat} {gd : Option (List Code)} {cn : Str} {cs : Scope} {a : Addr} {ccd : Value} {cl : List (Str × Addr)} {outer : List Env} {A₀ : Around} {base h₀ : Heap} {L : Addr} {m : Str → Option Value} {news : Led} {s : Shared} {Q E : Value → Shared → Prop}
theorem execs_wp {M : Model} {Γ : PySem.Ctx} {env : Env} {l2 : List Stmt} {Q : Flow → Pos → Shared → Prop} {E : Value → Pos → Shared → Prop} : ∀ {l1 : List Stmt} {p : Pos} {s : Shared}, Sem.wp M Γ (execs l1 env) (fun f p' s' => match f with | .next => Sem.wp M Γ (execs l2 env) Q E p' s' | f => Q f p' s') E p s → Sem.wp M Γ (execs (l1 ++ l2) env) Q E p s
  | [], _, _, h => h
  | st :: l1, p, s, h => by
    rw [List.cons_append, execs_cons, Sem.wp_bind']
    rw [execs_cons, Sem.wp_bind'] at h
    refine Sem.wp_mono M Γ _ (fun f p' s' h' => ?_) (fun _ _ _ h' => h') _ _ h
    cases f with
    | next => exact execs_wp h'
    | _ => exact h'
theorem execs_two {M : Model} {A : Around} {E : Value → Shared → Prop} {env : Env} {l1 l2 : List Stmt} {Q : Flow → Shared → Prop} {s : Shared} (h : wpAny M A (execs l1 env) (fun f s' => match f with | .next => wpAny M A (execs l2 env) Q E s' | f => Q f s') E s) : wpAny M A (execs (l1 ++ l2) env) Q E s := fun Γ p hΓ => by
  refine execs_wp (Sem.wp_mono M Γ _ (fun f p' s' h' => ?_) (fun _ _ _ h' => h') _ _ (h Γ p hΓ))
  cases f with
  | next => exact h' Γ p' hΓ
  | _ => exact h'
noncomputable def lfTgt : Expr := match stAt (fBody (topS 28)) 12 with | .For t _ _ _ _ => t | _ => .Constant .none 0 ⟨0, 0, 0, 0⟩
noncomputable def lfIter : Expr := match stAt (fBody (topS 28)) 12 with | .For _ t _ _ _ => t | _ => .Constant .none 0 ⟨0, 0, 0, 0⟩
noncomputable def lfPos : Pos := match stAt (fBody (topS 28)) 12 with | .For _ _ _ _ q => q | _ => ⟨0, 0, 0, 0⟩
theorem lf_is : stAt (fBody (topS 28)) 12 = .For lfTgt lfIter lfBody [] lfPos := by with_unfolding_all rfl
theorem lf_iter {sc : Scope} {cg ce cw : Addr} {QF : Flow → Shared → Prop} (B : Below A₀ base [] h₀) (F : Fr h₀ L s.heap m) (X : (K w.params).In h₀) (N : News h₀ L s.heap news) (T : Top p loose mean mg mb h₀) (XB : (K w.params).In base) (TB : Top p loose mean mg mb base) (hdp : dp + 100 < recursionLimit) (hun : un + 100 < cLine) (hsc : fScope (topS 28) = sc) {st : Expr} (hst : lfIter = st) {fl : Addr} {QV : Value → Shared → Prop} (hm1 : m (Str.ofString "files") = some (.ref fl)) (ret : ∀ h' tk', Fr h₀ L h' m → News h₀ L h' news → QV (.ref fl) { s with heap := h', toks := tk' }) :
    wpAny (model prog w) (ktrTop dp un gd (Str.ofString "law") sc L a ccd [(Str.ofString "given", cg), (Str.ofString "seeds", ce), (Str.ofString "drawn", cw)] []) (eval st (envX (Str.ofString "law") sc L a ccd [(Str.ofString "given", cg), (Str.ofString "seeds", ce), (Str.ofString "drawn", cw)])) QV (fun _ _ => False) s := by
  (conv at hst => lhs; whnf)
  (conv at hsc => lhs; whnf)
  subst hst
  subst hsc
  have Fk := know F (y := Str.ofString "files") hm1
  clear F
  k_steps
  exact ret _ _ (unknow Fk hm1) N
theorem lf_asg {sc : Scope} {cg ce cw : Addr} {QF : Flow → Shared → Prop} (B : Below A₀ base [] h₀) (F : Fr h₀ L s.heap m) (X : (K w.params).In h₀) (N : News h₀ L s.heap news) (T : Top p loose mean mg mb h₀) (XB : (K w.params).In base) (TB : Top p loose mean mg mb base) (hdp : dp + 100 < recursionLimit) (hun : un + 100 < cLine) (hsc : fScope (topS 28) = sc) {st : Expr} (hst : lfTgt = st) {t pa : Addr} {x y : Str} {tx ty : Tok} {n : Nat} {QU : Unit → Shared → Prop} (hmt : (t, seqObj "tuple" [.ref pa, .str x tx, .str y ty] n) ∈ news)
    (ret : ∀ h' tk' m', m' (Str.ofString "parts") = some (.ref pa) → m' (Str.ofString "base") = some (.str x tx) → m' (Str.ofString "name") = some (.str y ty) → (∀ z, z ≠ Str.ofString "parts" → z ≠ Str.ofString "base" → z ≠ Str.ofString "name" → m' z = m z) → Fr h₀ L h' m' → News h₀ L h' news → QU () { s with heap := h', toks := tk' }) :
    wpAny (model prog w) (ktrTop dp un gd (Str.ofString "law") sc L a ccd [(Str.ofString "given", cg), (Str.ofString "seeds", ce), (Str.ofString "drawn", cw)] []) (assign st (envX (Str.ofString "law") sc L a ccd [(Str.ofString "given", cg), (Str.ofString "seeds", ce), (Str.ofString "drawn", cw)]) (.ref t)) QU (fun _ _ => False) s := by
  (conv at hst => lhs; whnf)
  (conv at hsc => lhs; whnf)
  subst hst
  subst hsc
  refine wpAny_mono (Q := fun _ s₂ => Stop (∃ h' tk', s₂ = { s with heap := h', toks := tk' } ∧ Fr h₀ L h' (fun z => if z = Str.ofString "name" then some (.str y ty) else if z = Str.ofString "base" then some (.str x tx) else if z = Str.ofString "parts" then some (.ref pa) else m z) ∧ News h₀ L h' news)) ?as ?bd (fun _ _ e => e)
  case as =>
    refine hideG fun zG zK => ?_
    obtain ⟨hh, gg, dd, tt, oo⟩ := s
    refine zK ?_
    clear zK zG
    k_steps
    exact ⟨_, _, rfl, by k_asm, by k_asm⟩
  case bd =>
    intro _ s₂ zr1
    refine hideG fun zG zK => ?_
    obtain ⟨h5, tk5, rfl, F5, N5⟩ := zr1
    refine zK ?_
    clear zK zG
    refine ret h5 tk5 _ ?_ ?_ ?_ (fun z e1 e2 e3 => ?_) F5 N5
    · rfl
    · rfl
    · rfl
    · simp only [if_neg e1, if_neg e2, if_neg e3]
theorem lf_parts : lfBody = lfBody.take 2 ++ [stAt lfBody 2, stAt lfBody 3, stAt lfBody 4, stAt lfBody 5] := by with_unfolding_all rfl
theorem segF {sc : Scope} {cg ce cw : Addr} {QF : Flow → Shared → Prop} (B : Below A₀ base [] h₀) (F : Fr h₀ L s.heap m) (X : (K w.params).In h₀) (N : News h₀ L s.heap news) (T : Top p loose mean mg mb h₀) (XB : (K w.params).In base) (TB : Top p loose mean mg mb base) (hdp : dp + 100 < recursionLimit) (hun : un + 100 < cLine) (hsc : fScope (topS 28) = sc) {fl pl dl ml ol al : Addr} {fvs qvs mvs : List Value} {fn qn mn dn : Nat} {rest : Led} {fs : List File} {qs : List (List Str)} {ms : List Str} {w1 w2 : Str} {u1 u2 : Tok} (hnews : news = (ol, seqObj "list" [] 0) :: (al, seqObj "list" [] 0) :: rest) (ok : Ok news)
    (hfl : (fl, seqObj "list" fvs fn) ∈ rest) (hfs : AllAt (FileAt rest) fvs fs) (hgood : ∀ f ∈ fs, Good f) (hfn : fs.length ≤ 6) (hpl : (pl, seqObj "list" qvs qn) ∈ rest) (hqv : AllAt (PartsAt rest) qvs qs) (hqs : ∀ q ∈ qs, q ∈ partsAll) (hml : (ml, seqObj "list" mvs mn) ∈ rest) (hmv : Strs mvs ms) (hms : ms ∈ modsAll)
    (hdl : (dl, seqObj "list" [.str w1 u1, .str w2 u2] dn) ∈ rest) (nk1 : NormOk w1) (nk2 : NormOk w2) (hn1 : (normP w1).length ≤ 100) (hn2 : (normP w2).length ≤ 100) (hign : ∀ f ∈ fs, outOf f qs ms = ignV ms [normP w1, normP w2] f.path f.name)
    (m1 : m (Str.ofString "files") = some (.ref fl)) (m2 : m (Str.ofString "places") = some (.ref pl)) (m3 : m (Str.ofString "mods") = some (.ref ml)) (m4 : m (Str.ofString "dirs") = some (.ref dl)) (m5 : m (Str.ofString "asks") = some (.ref al)) (m6 : m (Str.ofString "own") = some (.ref ol))
    (ret : ∀ h' tk' dr m' ovs on avs an rs, (∀ p ∈ rest, p ∈ rs) → Ok ((ol, seqObj "list" ovs on) :: (al, seqObj "list" avs an) :: rs) → AllAt IsInt ovs (fs.map fun f => b2 (outOf f qs ms)) → AllAt (PairAt rs) avs (fs.map fun f => (f.path, f.name)) →
      m' (Str.ofString "places") = some (.ref pl) → m' (Str.ofString "mods") = some (.ref ml) → m' (Str.ofString "dirs") = some (.ref dl) → m' (Str.ofString "asks") = some (.ref al) → m' (Str.ofString "own") = some (.ref ol) → m' (Str.ofString "files") = some (.ref fl) → m' (Str.ofString "told") = m (Str.ofString "told") →
      Fr h₀ L h' m' → News h₀ L h' ((ol, seqObj "list" ovs on) :: (al, seqObj "list" avs an) :: rs) → QF .next { s with heap := h', toks := tk', drawn := dr }) :
    wpAny (model prog w) (ktrTop dp un gd (Str.ofString "law") sc L a ccd [(Str.ofString "given", cg), (Str.ofString "seeds", ce), (Str.ofString "drawn", cw)] []) (exec (stAt (fBody (topS 28)) 12) (envX (Str.ofString "law") sc L a ccd [(Str.ofString "given", cg), (Str.ofString "seeds", ce), (Str.ofString "drawn", cw)])) QF (fun _ _ => False) s := by
  rw [lf_is]
  refine for_go (h₀ := h₀) (l := fl) (vs := fvs) (k0 := fn) (m₀ := m) (news := news) (fun i m₁ nw => ∃ ovs on avs an rs, nw = (ol, seqObj "list" ovs on) :: (al, seqObj "list" avs an) :: rs ∧ (∀ p ∈ rest, p ∈ rs) ∧ Ok nw ∧ AllAt IsInt ovs ((fs.take i).map fun f => b2 (outOf f qs ms)) ∧ AllAt (PairAt rs) avs ((fs.take i).map fun f => (f.path, f.name)) ∧
      m₁ (Str.ofString "places") = some (.ref pl) ∧ m₁ (Str.ofString "mods") = some (.ref ml) ∧ m₁ (Str.ofString "dirs") = some (.ref dl) ∧ m₁ (Str.ofString "asks") = some (.ref al) ∧ m₁ (Str.ofString "own") = some (.ref ol) ∧ m₁ (Str.ofString "files") = some (.ref fl) ∧ m₁ (Str.ofString "told") = m (Str.ofString "told")) rfl ?hi (by rw [hnews]; exact .tail _ (.tail _ hfl)) ⟨[], 0, [], 0, rest, hnews, fun p hp => hp, ok, AllAt.nil, AllAt.nil, m2, m3, m4, m5, m6, m1, rfl⟩ ?hJ ?turn ?done (by intro _; rfl) (by passes_own)
  case hi => exact lf_iter (QF := fun _ _ => True) B F X N T XB TB hdp hun hsc rfl m1 fun h' tk' F' N' => ⟨rfl, F', N', h', tk', rfl⟩
  case hJ =>
    intro i m₁ nw zr2
    refine hideG fun zG zK => ?_
    obtain ⟨ovs, on, avs, an, rs, rfl, hsub, _⟩ := zr2
    refine zK ?_
    clear zK zG
    exact .tail _ (.tail _ (hsub _ hfl))
  case turn =>
    intro i v m₁ nw s₁ I io hv zr3 hnI F1 N1
    refine hideG fun zG zK => ?_
    obtain ⟨ovs, on, avs, an, rs, rfl, hsub, okn, hov, hav, g1, g2, g3, g4, g5, g6, g7⟩ := zr3
    obtain ⟨f, hf, t, pv, tb, tn, n, rfl, hmt, pa, pvs, pn, rfl, hpa, hpv⟩ := hfs.at hv
    refine zK ?_
    clear zK zG
    have hfm : f ∈ fs := List.mem_of_getElem? hf
    have hg := hgood f hfm
    have hi : i < fs.length := (List.getElem?_eq_some_iff.mp hf).1
    have sub2 : ∀ p ∈ rest, p ∈ (I, io) :: (ol, seqObj "list" ovs on) :: (al, seqObj "list" avs an) :: rs := fun p hp => .tail _ (.tail _ (.tail _ (hsub p hp)))
    have ok1 : Ok ((I, io) :: (ol, seqObj "list" ovs on) :: (al, seqObj "list" avs an) :: rs) := Ok.cons_ne okn hnI
    have hol : ovs.length ≤ 6 := by rw [hov.1, List.length_map, List.length_take]; omega
    have hal : avs.length ≤ 6 := by rw [hav.1, List.length_map, List.length_take]; omega
    have ht1 : (fs.take (i + 1)).map (fun f => b2 (outOf f qs ms)) = (fs.take i).map (fun f => b2 (outOf f qs ms)) ++ [b2 (outOf f qs ms)] := by
      rw [List.take_add_one, hf, Option.toList_some, List.map_append]; rfl
    have ht2 : (fs.take (i + 1)).map (fun f => (f.path, f.name)) = (fs.take i).map (fun f => (f.path, f.name)) ++ [(f.path, f.name)] := by
      rw [List.take_add_one, hf, Option.toList_some, List.map_append]; rfl
    refine lf_asg (QF := fun _ _ => True) B F1 X N1 T XB TB hdp hun hsc rfl (sub2 _ hmt) fun h2 tk2 m2' a1 a2 a3 a4 F2 N2 => ?_
    rw [lf_parts]
    refine execs_two ?_
    refine segF1 B F2 X N2 T XB TB hdp hun hsc rfl hg ok1 (sub2 _ hpa) hpv a1 a2 a3 fun tp h3 tk3 m3' b1 b0 F3 N3 => ?_
    dsimp only
    have g3' : ∀ z, z ≠ Str.ofString "parts" → z ≠ Str.ofString "base" → z ≠ Str.ofString "name" → z ≠ Str.ofString "path" → z ≠ Str.ofString "how" → m3' z = m₁ z := fun z e1 e2 e3 e4 e5 => (b0 z e4 e5).trans (a4 z e1 e2 e3)
    have k1 : m3' (Str.ofString "parts") = some (.ref pa) := (b0 _ (by decide +kernel) (by decide +kernel)).trans a1
    have k2 : m3' (Str.ofString "name") = some (.str f.name tn) := (b0 _ (by decide +kernel) (by decide +kernel)).trans a3
    have q1 : m3' (Str.ofString "places") = some (.ref pl) := (g3' _ (by decide +kernel) (by decide +kernel) (by decide +kernel) (by decide +kernel) (by decide +kernel)).trans g1
    have q2 : m3' (Str.ofString "mods") = some (.ref ml) := (g3' _ (by decide +kernel) (by decide +kernel) (by decide +kernel) (by decide +kernel) (by decide +kernel)).trans g2
    have q3 : m3' (Str.ofString "dirs") = some (.ref dl) := (g3' _ (by decide +kernel) (by decide +kernel) (by decide +kernel) (by decide +kernel) (by decide +kernel)).trans g3
    have q4 : m3' (Str.ofString "asks") = some (.ref al) := (g3' _ (by decide +kernel) (by decide +kernel) (by decide +kernel) (by decide +kernel) (by decide +kernel)).trans g4
    have q5 : m3' (Str.ofString "own") = some (.ref ol) := (g3' _ (by decide +kernel) (by decide +kernel) (by decide +kernel) (by decide +kernel) (by decide +kernel)).trans g5
    have q6 : m3' (Str.ofString "files") = some (.ref fl) := (g3' _ (by decide +kernel) (by decide +kernel) (by decide +kernel) (by decide +kernel) (by decide +kernel)).trans g6
    have q7 : m3' (Str.ofString "told") = m (Str.ofString "told") := (g3' _ (by decide +kernel) (by decide +kernel) (by decide +kernel) (by decide +kernel) (by decide +kernel)).trans g7
    refine wpAny_execs_cons ?_
    refine segF2 B F3 X N3 T XB TB hdp hun hsc rfl hg ok1 (sub2 _ hpa) hpv (sub2 _ hpl) (hqv.sub fun v x h => h.sub sub2) (sub2 _ hml) hmv hqs hms k1 q1 k2 q2 fun h4 tk4 m4' r4 c1 c0 c4 ok4 F4 N4 => ?_
    dsimp only
    have eol : ∀ y, y ≠ Str.ofString "out" → m4' y = m3' y := c0
    refine hideG fun zG zK => ?_
    obtain ⟨rx, okx, nx, sx, eqx⟩ : ∃ rx, Ok ((ol, seqObj "list" ovs on) :: rx) ∧ (∀ p ∈ r4, p.1 ≠ ol → p ∈ rx) ∧ (∀ p ∈ rx, p ∈ r4) ∧ News h₀ L h4 ((ol, seqObj "list" ovs on) :: rx) := by
      have mo := c4 _ (.tail _ (.head _))
      refine ⟨dropI r4 ol, Ok.cons_ne (ok4.dropI _) fun p hp => (mem_dropI.mp hp).2, fun p hp hn => mem_dropI.mpr ⟨hp, hn⟩, fun p hp => (mem_dropI.mp hp).1, News.sub N4 (List.forall_mem_cons.mpr ⟨mo, fun p hp => (mem_dropI.mp hp).1⟩)⟩
    refine zK ?_
    clear zK zG
    have nol : ∀ p ∈ rx, p.1 ≠ ol := okx.tail_ne
    refine wpAny_execs_cons ?_
    refine segF3 B F4 X eqx T XB TB hdp hun hsc rfl rfl nol (by omega) ((eol _ (by decide +kernel)).trans q5) c1 fun to h5 tk5 F5 N5 => ?_
    dsimp only
    have okn2 := okn.tail_ne
    have okn1 := ok1.tail_ne
    have inx : ∀ p ∈ (I, io) :: (al, seqObj "list" avs an) :: rs, p ∈ rx := fun p hp => by
      refine nx p (c4 p ?_) ?_
      · rcases List.mem_cons.mp hp with rfl | hp
        · exact .head _
        · exact .tail _ (.tail _ hp)
      · rcases List.mem_cons.mp hp with rfl | hp
        · exact fun e => okn1 _ (.head _) e.symm
        · exact okn2 p hp
    have ok5 : Ok ((ol, seqObj "list" (ovs ++ [.int (b2 (outOf f qs ms)) to]) (on + 1)) :: rx) := Ok.cons_ne okx.tail nol
    have sub5 : ∀ p ∈ rest, p ∈ (ol, seqObj "list" (ovs ++ [.int (b2 (outOf f qs ms)) to]) (on + 1)) :: rx := fun p hp => .tail _ (inx p (.tail _ (.tail _ (hsub p hp))))
    refine wpAny_execs_cons ?_
    refine segF4 B F5 X N5 T XB TB hdp hun hsc rfl hg ok5 (sub5 _ hml) hmv hms (sub5 _ hdl) nk1 nk2 (.head _) (by rw [hign f hfm]) (by omega) hn1 hn2 ((eol _ (by decide +kernel)).trans q2) ((eol _ (by decide +kernel)).trans q3) ((eol _ (by decide +kernel)).trans b1) ((eol _ (by decide +kernel)).trans q5) fun h6 tk6 dr6 r6 c6 ok6 F6 N6 => ?_
    dsimp only
    have ma := c6 _ (.tail _ (inx _ (.tail _ (.head _))))
    have N7 : News h₀ L h6 ((al, seqObj "list" avs an) :: dropI r6 al) := News.sub N6 (List.forall_mem_cons.mpr ⟨ma, fun p hp => (mem_dropI.mp hp).1⟩)
    refine wpAny_execs_cons ?_
    refine segF5 B F6 X N7 T XB TB hdp hun hsc rfl rfl (fun p hp => (mem_dropI.mp hp).2) (by omega) ((eol _ (by decide +kernel)).trans q4) ((eol _ (by decide +kernel)).trans b1) ((eol _ (by decide +kernel)).trans k2) fun D h7 tk7 lD la F7 N8 => ?_
    dsimp only
    refine wpAny_execs_nil ?_
    have nIa : I ≠ al := fun e => okn1 _ (.tail _ (.head _)) e.symm
    have nIo : I ≠ ol := fun e => okn1 _ (.head _) e.symm
    have nao : al ≠ ol := okn2 _ (.head _)
    have mI6 : (I, io) ∈ dropI r6 al := mem_dropI.mpr ⟨c6 _ (.tail _ (inx _ (.head _))), nIa⟩
    have mo6 : (ol, seqObj "list" (ovs ++ [.int (b2 (outOf f qs ms)) to]) (on + 1)) ∈ dropI r6 al := mem_dropI.mpr ⟨c6 _ (.head _), Ne.symm nao⟩
    have nrs : ∀ p ∈ rs, p.1 ≠ al := okn.tail.tail_ne
    have nro : ∀ p ∈ rs, p.1 ≠ ol := fun p hp => okn2 p (.tail _ hp)
    have nrI : ∀ p ∈ rs, p.1 ≠ I := fun p hp => hnI p (.tail _ (.tail _ hp))
    have mrs : ∀ p ∈ rs, p ∈ dropI r6 al := fun p hp => mem_dropI.mpr ⟨c6 _ (.tail _ (inx _ (.tail _ (.tail _ hp)))), nrs p hp⟩
    have kD : ∀ p ∈ dropI r6 al, p.1 < D := lD
    have nDI : D ≠ I := Nat.ne_of_gt (kD _ mI6)
    have nDo : D ≠ ol := Nat.ne_of_gt (kD _ mo6)
    have nDr : ∀ p ∈ rs, p.1 ≠ D := fun p hp => Nat.ne_of_lt (kD p (mrs p hp))
    have nDa : D ≠ al := Nat.ne_of_gt la
    have okr : Ok rs := okn.tail.tail
    refine ⟨rfl, h7, tk7, dr6, m4', (ol, seqObj "list" (ovs ++ [.int (b2 (outOf f qs ms)) to]) (on + 1)) :: (al, seqObj "list" (avs ++ [.ref D]) (an + 1)) :: (D, seqObj "tuple" [.str f.path tp, .str f.name tn] 0) :: rs, rfl, F7, ?_, ?_, ovs ++ [.int (b2 (outOf f qs ms)) to], on + 1, avs ++ [.ref D], an + 1, (D, seqObj "tuple" [.str f.path tp, .str f.name tn] 0) :: rs, rfl, fun p hp => .tail _ (hsub p hp), ?_, ?_, ?_, ?_⟩
    · refine News.sub N8 (List.forall_mem_cons.mpr ⟨.tail _ (.tail _ mI6), List.forall_mem_cons.mpr ⟨.tail _ (.tail _ mo6), List.forall_mem_cons.mpr ⟨.tail _ (.head _), List.forall_mem_cons.mpr ⟨.head _, fun p hp => .tail _ (.tail _ (mrs p hp))⟩⟩⟩⟩)
    · exact List.forall_mem_cons.mpr ⟨Ne.symm nIo, List.forall_mem_cons.mpr ⟨Ne.symm nIa, List.forall_mem_cons.mpr ⟨nDI, nrI⟩⟩⟩
    · refine Ok.cons_ne (Ok.cons_ne (Ok.cons_ne okr nDr) (List.forall_mem_cons.mpr ⟨nDa, nrs⟩)) (List.forall_mem_cons.mpr ⟨nao, List.forall_mem_cons.mpr ⟨nDo, nro⟩⟩)
    · rw [ht1]; exact hov.push ⟨_, rfl⟩
    · rw [ht2]; exact (hav.sub fun v x h => h.sub fun p hp => .tail _ hp).push ⟨D, _, _, _, rfl, .head _⟩
    · exact ⟨(eol _ (by decide +kernel)).trans q1, (eol _ (by decide +kernel)).trans q2, (eol _ (by decide +kernel)).trans q3, (eol _ (by decide +kernel)).trans q4, (eol _ (by decide +kernel)).trans q5, (eol _ (by decide +kernel)).trans q6, (eol _ (by decide +kernel)).trans q7⟩
  case done =>
    intro m₁ nw h tk dr zr4 F1 N1
    refine hideG fun zG zK => ?_
    obtain ⟨ovs, on, avs, an, rs, rfl, hsub, okn, hov, hav, g1, g2, g3, g4, g5, g6, g7⟩ := zr4
    refine zK ?_
    clear zK zG
    rw [hfs.1, List.take_length] at hov hav
    exact ret h tk dr m₁ ovs on avs an rs hsub okn hov hav g1 g2 g3 g4 g5 g6 g7 F1 N1

end
end
section
open PySem PySem.W PyProof.Rows PySem.Calls PySem.Spec
theorem words_LawM : True := by
  k_with_none
  k_with "mine room" => ((try simp only [depth_under_make, depth_under_kw, depth_in1, depth_deeper, depth_caller]); (try dsimp only [ktrTop]); omega)
  k_with "mine all" => (first | (with_reducible assumption) | (with_reducible exact allLt_of (by assumption)) | (refine And.intro ?_ ?_; (first | assumption | ((try dsimp only at *); omega)); k_extra "mine all") | (exact allLt_up (by assumption) (by omega)) | (refine allLt_set ?_; k_extra "mine all") | fail)
  k_with "mine lt" => (first | assumption | (refine lt_allLt ?_; k_extra "mine all") | fail)
  k_with "mine ok" => (first | assumption | (refine Ok.setAt ?_ _ _; k_extra "mine ok") | (refine Ok.cons ?_ ?_; (k_extra "mine ok"); (k_extra "mine lt")) | fail)
  k_with "mine ne" => ((try dsimp only); first | assumption | (refine Ne.symm ?_; assumption) | (refine neN ?_; omega) | (apply ne_z1; (case q9m => assumption); (case q9h => k_extra "mine all")) | (apply ne_z2; (case q9m => assumption); (case q9h => k_extra "mine all")) | fail)
  k_with "mine nes" => (first | assumption | exact List.forall_mem_nil _ | (refine List.forall_mem_cons.mpr ⟨?_, ?_⟩; (k_extra "mine ne"); (k_extra "mine nes")) | (refine nes_set ?_; k_extra "mine nes") | (refine nes_lt ?_; k_extra "mine all") | fail)
  k_with "mine mem" => (first | (with_reducible assumption) | ktr_member | (with_reducible exact List.mem_cons_self) | (with_reducible apply mset_z; k_mem) | (with_reducible apply mset_ne_z; (case q9n => k_extra "mine ne"); (case q9x => k_mem)) | (with_reducible refine List.mem_cons_of_mem _ ?_; k_mem) | fail)
  k_with "mine upd" => (first | (with_reducible refine Upd.head ?_; k_extra "mine nes") | (with_reducible apply upd_tail; (case q9ne => k_extra "mine ne"); (case q9u => k_upd)) | (apply upd_z; (case q9k => k_extra "mine ok"); (case q9m => k_mem)) | fail)
  k_with "mine updF" => (first | (with_reducible refine UpdF.head ?_; k_extra "mine nes") | (with_reducible apply updF_tail; (case q9ne => k_extra "mine ne"); (case q9u => k_updF)) | (apply updF_z; (case q9k => k_extra "mine ok"); (case q9m => k_mem)) | fail)
  k_with "mine sub" => (first | exact (fun p hp => hp) | exact (fun p hp => List.mem_cons_of_mem _ hp) | exact (fun p hp => List.mem_cons_of_mem _ (List.mem_cons_of_mem _ hp)) | exact (fun p hp => List.mem_cons_of_mem _ (List.mem_cons_of_mem _ (List.mem_cons_of_mem _ hp))) | (refine List.forall_mem_cons.mpr ⟨?_, ?_⟩; k_mem; k_extra "mine sub") | (intro p hp; (repeat (first | exact hp | refine List.mem_cons_of_mem _ ?_))) | fail)
  k_with "mine units" => ((try simp only [units_in1, units_deeper]); (try dsimp only [ktrTop]); omega)
  k_with "mine leave" => (with_reducible apply HQ.use_z; (case q9h => with_reducible assumption))
  trivial
section
variable {prog : Program} {w : World} {p : Program} {loose : List Str} {mean : ExcName → Option Value} {mg mb : Str → Option Value} {dp un : Nat} {gd : Option (List Code)} {cn : Str} {cs : Scope} {a : Addr} {ccd : Value} {cl : List (Str × Addr)} {outer : List Env} {A₀ : Around} {base h₀ : Heap} {L : Addr} {m : Str → Option Value} {news : Led} {s : Shared} {Q E : Value → Shared → Prop}
theorem words_lm_1 : True := by
  k_with "ite" => (first | (with_reducible refine ite_yes (by with_reducible assumption) ?_) | (with_reducible refine ite_no (by with_reducible assumption) ?_))
  k_with "call ref" => (((with_reducible show wpAny _ _ (call (Value.ref 255) _) _ _ _); refine stop_intro ?_))
  k_with "call ref" => (((with_reducible show wpAny _ _ (call (Value.ref 262) _) _ _ _); refine stop_intro ?_))
  trivial
noncomputable def lrBody : List Stmt := match stAt (fBody (topS 28)) 13 with | .For _ _ b _ _ => b | _ => []
/-- a new entry beside a ledger -/
theorem ok_ins {h : Heap} {l l₂ : Led} {x : Addr} {o : Obj} (ok : Ok l) (N : News h₀ L h l) (N2 : News h₀ L h l₂) (hx : (x, o) ∈ l₂) : ∃ l', Ok l' ∧ (∀ p ∈ l, p ∈ l') ∧ (x, o) ∈ l' ∧ News h₀ L h l' := by
  by_cases hm : ∃ p ∈ l, p.1 = x
  · refine hideG fun zG zK => ?_
    obtain ⟨⟨y, o'⟩, hp, e⟩ := hm
    refine zK ?_
    clear zK zG
    cases e
    have h1 := (N _ hp).1
    have h2 := (N2 _ hx).1
    dsimp only at h1 h2
    rw [h1] at h2
    cases h2
    exact ⟨l, ok, fun p hp => hp, hp, N⟩
  · refine ⟨(x, o) :: l, Ok.cons_ne ok fun p hp e => hm ⟨p, hp, e⟩, fun p hp => .tail _ hp, .head _, fun p hp => ?_⟩
    rcases List.mem_cons.mp hp with rfl | hp
    · exact N2 _ hx
    · exact N p hp
theorem room_selfs {α : Type} (j : α → Str) : ∀ (ps : List α) (g : G) (k : Nat), Room g k → Room (ps.foldl (fun g p => g.add (j p) [j p]) g) (k + ps.length)
  | [], _, _, h => h
  | p :: ps, g, k, h => by
    rw [List.foldl_cons]
    exact (room_selfs j ps _ (k + 1) (h.add _ _ (by simp))).mono (by rw [List.length_cons]; omega)
theorem room_told {fs : List File} {qs : List (List Str)} {ms : List Str} (h1 : fs.length ≤ 6) (h2 : qs.length ≤ 2) (h3 : ms.length ≤ 2) : Room (toldG fs qs ms) 28 := by
  have r0 : Room (fs.foldl tell (G0, [])).1 (0 + 4 * fs.length) := Room.tells (st := (G0, [])) ⟨Nat.le_refl _, fun z => Nat.le_refl _⟩ _
  exact (room_selfs id ms _ _ (room_selfs dirS qs _ _ r0)).mono (by omega)
/-- given, ring = _law_given(_law_told(row, places, mods)) -/
theorem segR0 {sc : Scope} {cg ce cw : Addr} {QF : Flow → Shared → Prop} (B : Below A₀ base [] h₀) (F : Fr h₀ L s.heap m) (X : (K w.params).In h₀) (N : News h₀ L s.heap news) (T : Top p loose mean mg mb h₀) (XB : (K w.params).In base) (TB : Top p loose mean mg mb base) (hdp : dp + 100 < recursionLimit) (hun : un + 100 < cLine) (hsc : fScope (topS 28) = sc) (hfree : Free p loose (Str.ofString "StopIteration")) {st : Stmt} (hst : stAt lrBody 0 = st) {fl pl ml : Addr} {fvs qvs mvs : List Value} {fn qn mn : Nat} {fs : List File} {qs : List (List Str)} {ms : List Str} (ok : Ok news)
    (hfl : (fl, seqObj "list" fvs fn) ∈ news) (hfs : AllAt (FileAt news) fvs fs) (hgood : ∀ f ∈ fs, Good f) (hfn : fs.length ≤ 6) (hpl : (pl, seqObj "list" qvs qn) ∈ news) (hqv : AllAt (PartsAt news) qvs qs) (hqs : ∀ q ∈ qs, q ∈ partsAll) (hql : qs.length = 2) (hml : (ml, seqObj "list" mvs mn) ∈ news) (hmv : Strs mvs ms) (hms : ms ∈ modsAll)
    {og : Obj} {gx : Option Value} (hcg : (cg, og) ∈ news) (hog : og.data = .cell gx)
    (m1 : m (Str.ofString "row") = some (.ref fl)) (m2 : m (Str.ofString "places") = some (.ref pl)) (m3 : m (Str.ofString "mods") = some (.ref ml))
    (ret : ∀ ga vsG nG gv oc nl h' tk' m', (ga, seqObj "list" vsG nG) ∈ nl → Strs vsG gv → (∀ x ∈ gv, x ∈ (toldG fs qs ms).nodes) → Laid fs qs ms (toldG fs qs ms).nodes gv (toldG fs qs ms).succ → (cg, oc) ∈ nl → oc.data = .cell (some (.ref ga)) → Ok nl → (∀ p ∈ news, p.1 ≠ cg → p ∈ nl) →
      m' (Str.ofString "ring") = some (.bool true) → (∀ y, y ≠ Str.ofString "ring" → m' y = m y) → Fr h₀ L h' m' → News h₀ L h' nl → QF .next { s with heap := h', toks := tk' }) :
    wpAny (model prog w) (ktrTop dp un gd (Str.ofString "law") sc L a ccd [(Str.ofString "given", cg), (Str.ofString "seeds", ce), (Str.ofString "drawn", cw)] []) (exec st (envX (Str.ofString "law") sc L a ccd [(Str.ofString "given", cg), (Str.ofString "seeds", ce), (Str.ofString "drawn", cw)])) QF (fun _ _ => False) s := by
  (conv at hst => lhs; whnf)
  (conv at hsc => lhs; whnf)
  subst hst
  subst hsc
  have F2 := know (know (know F (y := Str.ofString "row") m1) (y := Str.ofString "places") m2) (y := Str.ofString "mods") m3
  clear F
  k_steps
  refine Stop.of ?_
  have hm2l : ms.length ≤ 2 := (show ∀ ms ∈ modsAll, ms.length ≤ 2 by decide +kernel) ms hms
  have hqsh : ∀ q ∈ qs, q.length ≤ 5 ∧ ∀ x ∈ q, x.length ≤ 20 := fun q hq => (show ∀ q ∈ partsAll, q.length ≤ 5 ∧ ∀ x ∈ q, x.length ≤ 20 by decide +kernel) q (hqs q hq)
  have hmsh : ∀ x ∈ ms, x.length ≤ 20 := (show ∀ ms ∈ modsAll, ∀ x ∈ ms, x.length ≤ 20 by decide +kernel) ms hms
  refine toldS B (by k_asm) X (by k_asm) T rfl (by ktr_room) hfl hpl hml hfs hqv hmv ok (fun f hf => (hgood f hf).ok) hfn (by omega) hm2l hqsh hmsh ?_
  intro A news1 h1 tk1 F1 N1 S1 hk1
  obtain ⟨hG, hE⟩ := told_all fs qs ms
  have hroom : Room (toldG fs qs ms) 30 := (room_told hfn (by omega) hm2l).mono (by omega)
  k_steps
  refine Stop.of ?_
  refine givenS B (by k_asm) X (by k_asm) T rfl (by ktr_room) XB TB S1 rfl hG.nodup (by have := hroom.nodes; omega) hG.cl hfree ?hself (fun x => by have := hroom.succ x; omega) hG.np ?_
  case hself =>
    obtain ⟨q, hq⟩ : ∃ q, q ∈ qs := by
      cases qs with
      | nil => cases hql
      | cons q _ => exact ⟨q, .head _⟩
    have he : dirS q ∈ (toldG fs qs ms).succ (dirS q) := (hE _ _).mpr (.inr (.inl ⟨q, hq, rfl, rfl⟩))
    refine ⟨dirS q, ?_, he⟩
    by_cases hy : dirS q ∈ (toldG fs qs ms).nodes
    · exact hy
    · rw [hG.out _ hy] at he; cases he
  intro D' ga vsG nG gv news2 h2 tk2 F3 N3 hD' hga hsG hgd hgn hnol hfix hk2
  have nfoot : ∀ p ∈ news, p ∈ news2 := fun p hp => hk2 p (hk1 p hp).1 (hk1 p hp).2
  refine hideG fun zG zK => ?_
  obtain ⟨l1, okl1, sub1, mG1, Nl1⟩ := ok_ins ok (News.sub N3 nfoot) N3 hga
  obtain ⟨l2, okl2, sub2, mD2, Nl2⟩ := ok_ins okl1 Nl1 N3 hD'
  refine zK ?_
  clear zK zG
  have mG2 := sub2 _ mG1
  have mc2 := sub2 _ (sub1 _ hcg)
  clear N3
  have hne : ga ≠ cg := okl2.ne mG2 mc2 fun e => by
    rw [← e] at hog
    cases hog
  k_steps
  rename_i h8 h9 o3 d3 h10 FZ NZ
  refine ret ga vsG nG gv o3 (setAt l2 cg o3) _ _ _ (mem_set_ne hne mG2) hsG hgn ⟨hgood, hqs, hms, hG.cl, hG.out, hE, hnol, hfix⟩ (mem_set_self mc2) d3 (okl2.setAt _ _) (fun p hp hn => mem_set_ne hn (sub2 _ (sub1 _ hp))) rfl (fun y hy => ?_) FZ NZ
  simp only [if_neg hy]
  (repeat' split) <;> first | rfl | (rename_i e; rw [e]; symm; assumption) | (subst_vars; symm; assumption)

end
end
section
open PySem PySem.W PyProof.Rows PySem.Calls PySem.Spec
theorem words_LawN : True := by
  k_with_none
  k_with "mine room" => ((try simp only [depth_under_make, depth_under_kw, depth_in1, depth_deeper, depth_caller]); (try dsimp only [ktrTop]); omega)
  k_with "mine all" => (first | (with_reducible assumption) | (with_reducible exact allLt_of (by assumption)) | (refine And.intro ?_ ?_; (first | assumption | ((try dsimp only at *); omega)); k_extra "mine all") | (exact allLt_up (by assumption) (by omega)) | (refine allLt_set ?_; k_extra "mine all") | fail)
  k_with "mine lt" => (first | assumption | (refine lt_allLt ?_; k_extra "mine all") | fail)
  k_with "mine ok" => (first | assumption | (refine Ok.setAt ?_ _ _; k_extra "mine ok") | (refine Ok.cons ?_ ?_; (k_extra "mine ok"); (k_extra "mine lt")) | fail)
  k_with "mine ne" => ((try dsimp only); first | assumption | (refine Ne.symm ?_; assumption) | (refine neN ?_; omega) | (apply ne_z1; (case q9m => assumption); (case q9h => k_extra "mine all")) | (apply ne_z2; (case q9m => assumption); (case q9h => k_extra "mine all")) | fail)
  k_with "mine nes" => (first | assumption | exact List.forall_mem_nil _ | (refine List.forall_mem_cons.mpr ⟨?_, ?_⟩; (k_extra "mine ne"); (k_extra "mine nes")) | (refine nes_set ?_; k_extra "mine nes") | (refine nes_lt ?_; k_extra "mine all") | fail)
  k_with "mine mem" => (first | (with_reducible assumption) | ktr_member | (with_reducible exact List.mem_cons_self) | (with_reducible apply mset_z; k_mem) | (with_reducible apply mset_ne_z; (case q9n => k_extra "mine ne"); (case q9x => k_mem)) | (with_reducible refine List.mem_cons_of_mem _ ?_; k_mem) | fail)
  k_with "mine upd" => (first | (with_reducible refine Upd.head ?_; k_extra "mine nes") | (with_reducible apply upd_tail; (case q9ne => k_extra "mine ne"); (case q9u => k_upd)) | (apply upd_z; (case q9k => k_extra "mine ok"); (case q9m => k_mem)) | fail)
  k_with "mine updF" => (first | (with_reducible refine UpdF.head ?_; k_extra "mine nes") | (with_reducible apply updF_tail; (case q9ne => k_extra "mine ne"); (case q9u => k_updF)) | (apply updF_z; (case q9k => k_extra "mine ok"); (case q9m => k_mem)) | fail)
  k_with "mine sub" => (first | exact (fun p hp => hp) | exact (fun p hp => List.mem_cons_of_mem _ hp) | exact (fun p hp => List.mem_cons_of_mem _ (List.mem_cons_of_mem _ hp)) | exact (fun p hp => List.mem_cons_of_mem _ (List.mem_cons_of_mem _ (List.mem_cons_of_mem _ hp))) | (refine List.forall_mem_cons.mpr ⟨?_, ?_⟩; k_mem; k_extra "mine sub") | (intro p hp; (repeat (first | exact hp | refine List.mem_cons_of_mem _ ?_))) | fail)
  k_with "mine units" => ((try simp only [units_in1, units_deeper]); (try dsimp only [ktrTop]); omega)
  k_with "mine leave" => (with_reducible apply HQ.use_z; (case q9h => with_reducible assumption))
  trivial
section
variable {prog : Program} {w : World} {p : Program} {loose : List Str} {mean : ExcName → Option Value} {mg mb : Str → Option Value} {dp un : Nat} {gd : Option (List Code)} {cn : Str} {cs : Scope} {a : Addr} {ccd : Value} {cl : List (Str × Addr)} {outer : List Env} {A₀ : Around} {base h₀ : Heap} {L : Addr} {m : Str → Option Value} {news : Led} {s : Shared} {Q E : Value → Shared → Prop}
theorem words_ln_1 : True := by
  k_with "ite" => (first | (with_reducible refine ite_yes (by with_reducible assumption) ?_) | (with_reducible refine ite_no (by with_reducible assumption) ?_))
  k_with "call ref" => (((with_reducible show wpAny _ _ (call (Value.ref 272) _) _ _ _); refine stop_intro ?_))
  k_with "call ref" => (((with_reducible show wpAny _ _ (call (Value.ref 267) _) _ _ _); refine stop_intro ?_))
  k_with "call ref" => (((with_reducible show wpAny _ _ (call (Value.ref 100) _) _ _ _); refine stop_intro ?_))
  trivial
/-- due = _law_first(pairs, each) -/
theorem segR1 {sc : Scope} {cg ce cw : Addr} {QF : Flow → Shared → Prop} (B : Below A₀ base [] h₀) (F : Fr h₀ L s.heap m) (X : (K w.params).In h₀) (N : News h₀ L s.heap news) (T : Top p loose mean mg mb h₀) (XB : (K w.params).In base) (TB : Top p loose mean mg mb base) (hdp : dp + 100 < recursionLimit) (hun : un + 100 < cLine) (hsc : fScope (topS 28) = sc) {st : Stmt} (hst : stAt lrBody 1 = st) {al ol : Addr} {avs ovs : List Value} {an on : Nat} {ps : List (Str × Str)} {own : List Int} (ok : Ok news) (hal : (al, seqObj "list" avs an) ∈ news) (hav : AllAt (PairAt news) avs ps) (hpl : ps.length ≤ 100) (hol : (ol, seqObj "list" ovs on) ∈ news) (hov : AllAt IsInt ovs own) (hown : own.length = ps.length)
    (m1 : m (Str.ofString "pairs") = some (.ref al)) (m2 : m (Str.ofString "each") = some (.ref ol))
    (ret : ∀ D ys h' tk' dr m', AllAt IsInt ys (dueOf ps own) → (∀ p ∈ news, p.1 ≠ D) → m' (Str.ofString "due") = some (.ref D) → (∀ y, y ≠ Str.ofString "due" → m' y = m y) → Fr h₀ L h' m' → News h₀ L h' ((D, LCg.lst ys) :: news) → QF .next { s with heap := h', toks := tk', drawn := dr }) :
    wpAny (model prog w) (ktrTop dp un gd (Str.ofString "law") sc L a ccd [(Str.ofString "given", cg), (Str.ofString "seeds", ce), (Str.ofString "drawn", cw)] []) (exec st (envX (Str.ofString "law") sc L a ccd [(Str.ofString "given", cg), (Str.ofString "seeds", ce), (Str.ofString "drawn", cw)])) QF (fun _ _ => False) s := by
  (conv at hst => lhs; whnf)
  (conv at hsc => lhs; whnf)
  subst hst
  subst hsc
  have F2 := know (know F (y := Str.ofString "pairs") m1) (y := Str.ofString "each") m2
  clear F
  k_steps
  refine Stop.of ?_
  refine firstS B (by k_asm) X (by k_asm) T rfl (by ktr_room) ok hal hav hpl hol hov hown ?_
  intro D ys h1 tk1 dr F1 N1 hys off
  k_steps
  rename (Fr h₀ L _ _) => FZ
  rename (News h₀ L _ _) => NZ
  refine ret D ys _ _ _ _ hys off rfl (fun y hy => ?_) FZ NZ
  simp only [if_neg hy]
  (repeat' split) <;> first | rfl | (rename_i e; rw [e]; symm; assumption) | (subst_vars; symm; assumption)
/-- answers = _law_all(_Ignore(mods, dirs), pairs) -/
theorem segR2 {sc : Scope} {cg ce cw : Addr} {QF : Flow → Shared → Prop} (B : Below A₀ base [] h₀) (F : Fr h₀ L s.heap m) (X : (K w.params).In h₀) (N : News h₀ L s.heap news) (T : Top p loose mean mg mb h₀) (XB : (K w.params).In base) (TB : Top p loose mean mg mb base) (hdp : dp + 100 < recursionLimit) (hun : un + 100 < cLine) (hsc : fScope (topS 28) = sc) {st : Stmt} (hst : stAt lrBody 2 = st) {ml dl al : Addr} {mvs avs : List Value} {mn dn an : Nat} {ms : List Str} {w1 w2 : Str} {u1 u2 : Tok} {ps : List (Str × Str)} (ok : Ok news) (hml : (ml, seqObj "list" mvs mn) ∈ news) (hmv : Strs mvs ms) (hms : ms ∈ modsAll) (hdl : (dl, seqObj "list" [.str w1 u1, .str w2 u2] dn) ∈ news) (nk1 : NormOk w1) (nk2 : NormOk w2) (hn1 : (normP w1).length ≤ 100) (hn2 : (normP w2).length ≤ 100)
    (hal : (al, seqObj "list" avs an) ∈ news) (hav : AllAt (PairAt news) avs ps) (hpl : ps.length ≤ 100) (hpb : ∀ p ∈ ps, p.1.length ≤ 1000 ∧ p.2.length ≤ 1000)
    (m1 : m (Str.ofString "mods") = some (.ref ml)) (m2 : m (Str.ofString "dirs") = some (.ref dl)) (m3 : m (Str.ofString "pairs") = some (.ref al))
    (ret : ∀ D ys h' tk' dr m' nl, AllAt IsInt ys (ps.foldl (ask1 ms [normP w1, normP w2]) ([(Str.ofString "<string>", 1)], [])).2 → (D, LCg.lst ys) ∈ nl → (∀ p ∈ news, p ∈ nl) → Ok nl → m' (Str.ofString "answers") = some (.ref D) → (∀ y, y ≠ Str.ofString "answers" → m' y = m y) → Fr h₀ L h' m' → News h₀ L h' nl → QF .next { s with heap := h', toks := tk', drawn := dr }) :
    wpAny (model prog w) (ktrTop dp un gd (Str.ofString "law") sc L a ccd [(Str.ofString "given", cg), (Str.ofString "seeds", ce), (Str.ofString "drawn", cw)] []) (exec st (envX (Str.ofString "law") sc L a ccd [(Str.ofString "given", cg), (Str.ofString "seeds", ce), (Str.ofString "drawn", cw)])) QF (fun _ _ => False) s := by
  (conv at hst => lhs; whnf)
  have hsc' := hsc
  (conv at hsc => lhs; whnf)
  subst hst
  subst hsc
  have F2 := know (know (know F (y := Str.ofString "mods") m1) (y := Str.ofString "dirs") m2) (y := Str.ofString "pairs") m3
  clear F
  k_steps
  refine Stop.of ?_
  have hnd : ms.Nodup := (show ∀ ms ∈ modsAll, ms.Nodup by decide +kernel) ms hms
  have hm2l : ms.length ≤ 2 := (show ∀ ms ∈ modsAll, ms.length ≤ 2 by decide +kernel) ms hms
  have hmb : ∀ y ∈ ms, y.length ≤ 100 := (show ∀ ms ∈ modsAll, ∀ y ∈ ms, y.length ≤ 100 by decide +kernel) ms hms
  refine newIgnore B (by k_asm) X (by k_asm) T (by omega) ok hsc' hml hmv hnd (by omega) hdl nk1 nk2 ?_
  intro R kvs h8 tk8 nl F8 N8 H8 K8 hkp
  have subn : ∀ p ∈ news, p ∈ nl := fun p hp => (hkp p hp).1
  k_steps
  refine Stop.of ?_
  refine allS B (by k_asm) X (by k_asm) T rfl (by ktr_room) H8 K8 (by omega) (by decide) hmb (List.forall_mem_cons.mpr ⟨hn1, List.forall_mem_cons.mpr ⟨hn2, List.forall_mem_nil _⟩⟩) (by show 2 < 1000; decide) (subn _ hal) (hav.sub fun v x h => h.sub subn) hpl hpb ?_
  intro D ys h9 tk9 dr nl9 F9 N9 hys hk9 off9
  have sub9 : ∀ p ∈ news, p ∈ (D, LCg.lst ys) :: nl9 := fun p hp => .tail _ (hk9 p (subn p hp) (hkp p hp).2)
  have ok9 : Ok ((D, LCg.lst ys) :: news) := Ok.cons_ne ok fun p hp => off9 p (subn p hp)
  have N10 : News h₀ L h9 ((D, LCg.lst ys) :: news) := News.sub N9 (List.forall_mem_cons.mpr ⟨.head _, sub9⟩)
  clear N9
  k_steps
  rename (Fr h₀ L _ _) => FZ
  rename (News h₀ L _ _) => NZ
  refine ret D ys _ _ _ _ _ hys (.head _) (fun p hp => .tail _ hp) ok9 rfl (fun y hy => ?_) FZ NZ
  simp only [if_neg hy]
  (repeat' split) <;> first | rfl | (rename_i e; rw [e]; symm; assumption) | (subst_vars; symm; assumption)

end
end
section
open PySem PySem.W PyProof.Rows PySem.Calls PySem.Spec
theorem words_LawO : True := by
  k_with_none
  k_with "mine room" => ((try simp only [depth_under_make, depth_under_kw, depth_in1, depth_deeper, depth_caller]); (try dsimp only [ktrTop]); omega)
  k_with "mine all" => (first | (with_reducible assumption) | (with_reducible exact allLt_of (by assumption)) | (refine And.intro ?_ ?_; (first | assumption | ((try dsimp only at *); omega)); k_extra "mine all") | (exact allLt_up (by assumption) (by omega)) | (refine allLt_set ?_; k_extra "mine all") | fail)
  k_with "mine lt" => (first | assumption | (refine lt_allLt ?_; k_extra "mine all") | fail)
  k_with "mine ok" => (first | assumption | (refine Ok.setAt ?_ _ _; k_extra "mine ok") | (refine Ok.cons ?_ ?_; (k_extra "mine ok"); (k_extra "mine lt")) | fail)
  k_with "mine ne" => ((try dsimp only); first | assumption | (refine Ne.symm ?_; assumption) | (refine neN ?_; omega) | (apply ne_z1; (case q9m => assumption); (case q9h => k_extra "mine all")) | (apply ne_z2; (case q9m => assumption); (case q9h => k_extra "mine all")) | fail)
  k_with "mine nes" => (first | assumption | exact List.forall_mem_nil _ | (refine List.forall_mem_cons.mpr ⟨?_, ?_⟩; (k_extra "mine ne"); (k_extra "mine nes")) | (refine nes_set ?_; k_extra "mine nes") | (refine nes_lt ?_; k_extra "mine all") | fail)
  k_with "mine mem" => (first | (with_reducible assumption) | ktr_member | (with_reducible exact List.mem_cons_self) | (with_reducible apply mset_z; k_mem) | (with_reducible apply mset_ne_z; (case q9n => k_extra "mine ne"); (case q9x => k_mem)) | (with_reducible refine List.mem_cons_of_mem _ ?_; k_mem) | fail)
  k_with "mine upd" => (first | (with_reducible refine Upd.head ?_; k_extra "mine nes") | (with_reducible apply upd_tail; (case q9ne => k_extra "mine ne"); (case q9u => k_upd)) | (apply upd_z; (case q9k => k_extra "mine ok"); (case q9m => k_mem)) | fail)
  k_with "mine updF" => (first | (with_reducible refine UpdF.head ?_; k_extra "mine nes") | (with_reducible apply updF_tail; (case q9ne => k_extra "mine ne"); (case q9u => k_updF)) | (apply updF_z; (case q9k => k_extra "mine ok"); (case q9m => k_mem)) | fail)
  k_with "mine sub" => (first | exact (fun p hp => hp) | exact (fun p hp => List.mem_cons_of_mem _ hp) | exact (fun p hp => List.mem_cons_of_mem _ (List.mem_cons_of_mem _ hp)) | exact (fun p hp => List.mem_cons_of_mem _ (List.mem_cons_of_mem _ (List.mem_cons_of_mem _ hp))) | (refine List.forall_mem_cons.mpr ⟨?_, ?_⟩; k_mem; k_extra "mine sub") | (intro p hp; (repeat (first | exact hp | refine List.mem_cons_of_mem _ ?_))) | fail)
  k_with "mine units" => ((try simp only [units_in1, units_deeper]); (try dsimp only [ktrTop]); omega)
  k_with "mine leave" => (with_reducible apply HQ.use_z; (case q9h => with_reducible assumption))
  trivial
section
variable {prog : Program} {w : World} {p : Program} {loose : List Str} {mean : ExcName → Option Value} {mg mb : Str → Option Value} {dp un : Nat} {gd : Option (List Code)} {cn : Str} {cs : Scope} {a : Addr} {ccd : Value} {cl : List (Str × Addr)} {outer : List Env} {A₀ : Around} {base h₀ : Heap} {L : Addr} {m : Str → Option Value} {news : Led} {s : Shared} {Q E : Value → Shared → Prop}
theorem ints_dat : ∀ {vs : List Value} {ks : List Int}, AllAt IsInt vs ks → DatAll news vs (ks.map Dat.int)
  | [], ks, h => by
    have : ks = [] := List.eq_nil_of_length_eq_zero h.1.symm
    subst this; exact .nil
  | v :: vs, ks, h => by
    refine hideG fun zG zK => ?_
    obtain ⟨k, ys, rfl, ⟨t, rfl⟩, h'⟩ := h.cons_inv
    refine zK ?_
    clear zK zG
    exact .cons (.int k t) (ints_dat h')
theorem ok_ints (ks : List Int) : ∀ d ∈ ks.map Dat.int, kqdOk 8 d = true := fun d hd => by
  refine hideG fun zG zK => ?_
  obtain ⟨k, _, rfl⟩ := List.mem_map.mp hd
  refine zK ?_
  clear zK zG
  rfl
theorem ne_ints {A : Around} {QV : Value → Shared → Prop} {x y : Addr} {vs us : List Value} {n k : Nat} {ks : List Int} (N : News h₀ L s.heap news) (ma : (x, seqObj "list" vs n) ∈ news) (Da : AllAt IsInt vs ks) (mb : (y, seqObj "list" us k) ∈ news) (Db : AllAt IsInt us ks)
    (hu : A.units + 64 < cLine) (h : QV (.bool false) s) : wpAny (model prog w) A (compareOp .NotEq (.ref x) (.ref y)) QV E s := by
  refine kqd_ne N ma rfl rfl (ints_dat Da) (fun _ hp => hp) mb rfl rfl (ints_dat Db) (fun _ hp => hp) (ok_ints ks) (ok_ints ks) hu ?_
  simpa using h
theorem words_lo_1 : True := by
  k_with "ite" => (first | (with_reducible refine ite_yes (by with_reducible assumption) ?_) | (with_reducible refine ite_no (by with_reducible assumption) ?_))
  k_with "compareOp NotEq ref ref" => ((k_here; k_dflt (refine ne_ints (by k_asm) (by k_mem) (by assumption) (by k_mem) (by assumption) (by k_extra "mine units") ?_)))
  k_with "eval ListComp" => (((with_reducible show wpAny _ _ (eval (Expr.ListComp _ _ _ _) _) _ _ _); refine stop_intro ?_))
  k_with "CompSrc" => ((refine stop_intro ?_))
  k_with "CompEnd" => ((refine stop_intro ?_))
  k_with "compareOp In bool ref" => (((with_reducible show wpAny _ _ (compareOp _ _ _) _ _ _); refine stop_intro ?_))
  trivial
/-- if not ring or answers != due or True in [isinstance(answer, bool) for answer in answers]: return False -/
theorem segR3 {sc : Scope} {cg ce cw : Addr} {QF : Flow → Shared → Prop} (B : Below A₀ base [] h₀) (F : Fr h₀ L s.heap m) (X : (K w.params).In h₀) (N : News h₀ L s.heap news) (T : Top p loose mean mg mb h₀) (XB : (K w.params).In base) (TB : Top p loose mean mg mb base) (hdp : dp + 100 < recursionLimit) (hun : un + 100 < cLine) (hsc : fScope (topS 28) = sc) {st : Stmt} (hst : stAt lrBody 3 = st) {da aa : Addr} {dvs avs : List Value} {dn an : Nat} {ks : List Int} (ok : Ok news) (hda : (da, seqObj "list" dvs dn) ∈ news) (hdv : AllAt IsInt dvs ks) (haa : (aa, seqObj "list" avs an) ∈ news) (hav : AllAt IsInt avs ks) (hkl : ks.length ≤ 100)
    (m1 : m (Str.ofString "ring") = some (.bool true)) (m2 : m (Str.ofString "answers") = some (.ref aa)) (m3 : m (Str.ofString "due") = some (.ref da))
    (ret : ∀ h' tk', Fr h₀ L h' m → News h₀ L h' news → QF .next { s with heap := h', toks := tk' }) :
    wpAny (model prog w) (ktrTop dp un gd (Str.ofString "law") sc L a ccd [(Str.ofString "given", cg), (Str.ofString "seeds", ce), (Str.ofString "drawn", cw)] []) (exec st (envX (Str.ofString "law") sc L a ccd [(Str.ofString "given", cg), (Str.ofString "seeds", ce), (Str.ofString "drawn", cw)])) QF (fun _ _ => False) s := by
  (conv at hst => lhs; whnf)
  (conv at hsc => lhs; whnf)
  subst hst
  subst hsc
  have F2 := know (know (know F (y := Str.ofString "ring") m1) (y := Str.ofString "answers") m2) (y := Str.ofString "due") m3
  clear F
  k_steps
  refine Stop.of ?_
  have hal : avs.length = ks.length := hav.1
  refine LCg.ListComp_U (F₀ := F2) (by with_unfolding_all rfl) (by decide) (by rfl) (by decide) (by rfl) ?_
  k_steps
  refine Stop.of ?_
  refine LCg.CompSrc.ledger (its := avs.toArray) (k := an) rfl F2 (by k_asm) haa (by rw [List.size_toArray, hal, sizeLine_eq]; omega) fun g => ?_
  refine comp_inv (n := avs.toArray.size) (fun i zs nw => nw = news ∧ zs = (List.replicate i false).map Value.bool) ?turn2 ?fin2 _ 0 [] _ (Nat.zero_add _) ⟨rfl, rfl⟩ (.inr ⟨_, haa, rfl, _, rfl⟩)
  case turn2 =>
    intro i zs nw v I oI C oC D2 m₂ h9 tk9 E' hi hv zr1 hS hoC hm1 F9 N9 off9 n1 n2 n3
    refine hideG fun zG zK => ?_
    obtain ⟨rfl, hz⟩ := zr1
    have hv' : avs.toArray[i]? = some v := hv
    rw [List.getElem?_toArray] at hv'
    obtain ⟨x, hx, tx, rfl⟩ := hav.at hv'
    refine zK ?_
    clear zK zG
    refine hideQ fun _ _ => ?_
    k_steps
    refine Stop.of (comp_end _ F9 N9 (fun p hp => hp) (LCg.Off3.of off9) hS ⟨rfl, ?_⟩)
    rw [hz, List.replicate_succ', List.map_append]; rfl
  case fin2 =>
    rintro zs nw ⟨rfl, hz⟩ D2 h9 tk9 F9 N9 off9
    k_steps
    refine Stop.of ?_
    refine in_bools (List.replicate avs.toArray.size false) N9 (.head _) hz (by k_extra "mine units") ?_
    have hany : (List.replicate avs.toArray.size false).any id = false := by
      rw [List.any_eq_false]
      intro b hb
      rw [(List.mem_replicate.mp hb).2]
      simp
    rw [hany]
    k_steps
    exact ret _ _ (unknow (unknow (unknow F9 m3) m2) m1) (News.sub N9 fun p hp => .tail _ hp)
theorem in_strs {A : Around} {QV : Value → Shared → Prop} {x : Addr} {vs : List Value} {n : Nat} {xs : List Str} {q : Str} {t : Tok} (N : News h₀ L s.heap news) (ma : (x, seqObj "list" vs n) ∈ news) (Da : Strs vs xs) (ha : StrOk xs) (hq : PyData.strOk q = true)
    (hu : A.units + 64 < cLine) (h : QV (.bool (decide (q ∈ xs))) s) : wpAny (model prog w) A (compareOp .In (.str q t) (.ref x)) QV E s := by
  refine kqd_isIn N ma rfl rfl Da.dat (fun _ hp => hp) (n₂ := news) (DatIn.str q t) (fun _ hp => hp) (ok_strs ha 8) hq hu ?_
  have : (Dat.str q ∈ xs.map Dat.str) ↔ q ∈ xs := by
    constructor
    · intro hm
      obtain ⟨y, hy, e⟩ := List.mem_map.mp hm
      rw [← Dat.str.inj e]; exact hy
    · intro hm
      exact List.mem_map.mpr ⟨q, hm, rfl⟩
  rw [decide_eq_decide.mpr this]; exact h
/-! every node is a text of characters -/
structure GP (g : G) : Prop where
  ok : GOk g
  str : ∀ z ∈ g.nodes, PyData.strOk z = true
theorem GP.add {g : G} (H : GP g) {x : Str} {ys : List Str} (hx : PyData.strOk x = true) (hy : ∀ y ∈ ys, PyData.strOk y = true) : GP (g.add x ys) := by
  obtain ⟨h1, h2, _⟩ := H.ok.add x ys
  refine ⟨h1, fun z hz => ?_⟩
  rcases (h2 z).mp hz with h | rfl | h
  · exact H.str z h
  · exact hx
  · exact hy z h
theorem str_dirs : ∀ q ∈ partsAll, PyData.strOk (dirS q) = true ∧ PyData.strOk (dirS (q.take 1)) = true := by decide +kernel
theorem str_file : ∀ q ∈ partsAll, ∀ bn ∈ bases5, PyData.strOk (dirS (q ++ [bn.1])) = true ∧ PyData.strOk (dirS (q ++ [bn.1]) ++ Str.ofString "?") = true := by decide +kernel
theorem str_name : ∀ bn ∈ bases5, PyData.strOk bn.2 = true ∧ PyData.strOk (nameS (Txt.split bn.2 dot)) = true ∧ PyData.strOk (nameS ((Txt.split bn.2 dot).take 1)) = true := by decide +kernel
theorem GP.up {g : G} (H : GP g) {j : List Str → Str} {ps : List Str} (h1 : PyData.strOk (j ps) = true) (h2 : PyData.strOk (j (ps.take 1)) = true) : GP (addUp j g ps) := by
  unfold addUp
  split
  · exact H.add h1 fun y hy => by rw [List.mem_singleton.mp hy]; exact h2
  · exact H
theorem GP.tell {st : G × Firsts} (H : GP st.1) (hs : ∀ q ∈ st.2, PyData.strOk q.2 = true) {f : File} (hg : Good f) : GP (tell st f).1 ∧ ∀ q ∈ (tell st f).2, PyData.strOk q.2 = true := by
  refine hideG fun zG zK => ?_
  obtain ⟨d1, d2⟩ := str_dirs _ hg.parts
  obtain ⟨f1, f2⟩ := str_file _ hg.parts _ hg.base
  obtain ⟨n1, n2, n3⟩ := str_name _ hg.base
  refine zK ?_
  clear zK zG
  have h1 : GP (tellG st f) := ((H.up d1 d2).up n2 n3).add f1 fun y hy => by rw [List.mem_singleton.mp hy]; exact d1
  unfold Mine.tell
  split
  · refine ⟨h1.add f2 (List.forall_mem_cons.mpr ⟨f1, List.forall_mem_cons.mpr ⟨n1, List.forall_mem_nil _⟩⟩), fun q hq => ?_⟩
    rcases List.mem_append.mp hq with hq | hq
    · exact hs q hq
    · rw [List.mem_singleton.mp hq]; exact f2
  · rename_i q hq
    split
    · exact ⟨h1, hs⟩
    · exact ⟨h1.add f2 fun y hy => by rw [List.mem_singleton.mp hy]; exact hs _ (get_mem hq), hs⟩
theorem GP.tells : ∀ {fs : List File} {st : G × Firsts}, GP st.1 → (∀ q ∈ st.2, PyData.strOk q.2 = true) → (∀ f ∈ fs, Good f) → GP (fs.foldl Mine.tell st).1
  | [], _, H, _, _ => H
  | f :: fs, st, H, hs, hg => by
    obtain ⟨h1, h2⟩ := H.tell hs (hg f (.head _))
    rw [List.foldl_cons]
    exact GP.tells h1 h2 fun f hf => hg f (.tail _ hf)
theorem GP.selfs {α : Type} {j : α → Str} : ∀ {ps : List α} {g : G}, GP g → (∀ q ∈ ps, PyData.strOk (j q) = true) → GP (ps.foldl (fun g p => g.add (j p) [j p]) g)
  | [], _, H, _ => H
  | q :: ps, g, H, h => by
    rw [List.foldl_cons]
    have hq := h q (.head _)
    exact GP.selfs (H.add hq fun y hy => by rw [List.mem_singleton.mp hy]; exact hq) fun q hq => h q (.tail _ hq)
theorem told_str {fs : List File} {qs : List (List Str)} {ms : List Str} (hg : ∀ f ∈ fs, Good f) (hq : ∀ q ∈ qs, q ∈ partsAll) (hm : ms ∈ modsAll) : StrOk (toldG fs qs ms).nodes := by
  have h0 : GP (G0, ([] : Firsts)).1 := ⟨GOk.zero, fun z hz => nomatch hz⟩
  have h1 := GP.tells (fs := fs) h0 (fun q hq => nomatch hq) hg
  have h2 := h1.selfs (j := dirS) (ps := qs) fun q h => (str_dirs q (hq q h)).1
  exact (h2.selfs (j := id) (ps := ms) fun x h => strok_mods ms hm x h).str
theorem words_lo_2 : True := by
  k_with "binaryOp Add str str" => ((k_here; (with_reducible show wpAny _ _ (binaryOp Operator.Add (Value.str _ _) (Value.str _ _)) _ _ _); k_dflt (refine my_add (by omega) ?_); intro _ _ _))
  k_with "compareOp In str ref" => ((k_here; k_dflt (refine in_strs (by k_asm) (by k_mem) (by assumption) (by assumption) (by assumption) (by k_extra "mine units") ?_)))
  trivial
/-- if [0 if path + '?' in given else 1 for path, name in pairs] != due: return False -/
theorem segR4 {sc : Scope} {cg ce cw : Addr} {QF : Flow → Shared → Prop} (B : Below A₀ base [] h₀) (F : Fr h₀ L s.heap m) (X : (K w.params).In h₀) (N : News h₀ L s.heap news) (T : Top p loose mean mg mb h₀) (XB : (K w.params).In base) (TB : Top p loose mean mg mb base) (hdp : dp + 100 < recursionLimit) (hun : un + 100 < cLine) (hsc : fScope (topS 28) = sc) {st : Stmt} (hst : stAt lrBody 4 = st) {da al ga : Addr} {dvs avs vsG : List Value} {dn an nG : Nat} {ps : List (Str × Str)} {gv : List Str} {oc : Obj} (ok : Ok news) (hda : (da, seqObj "list" dvs dn) ∈ news) (hdv : AllAt IsInt dvs (ps.map fun q => if q.1 ++ Str.ofString "?" ∈ gv then (0 : Int) else 1)) (hal : (al, seqObj "list" avs an) ∈ news) (hav : AllAt (PairAt news) avs ps) (hpl : ps.length ≤ 100) (hpb : ∀ q ∈ ps, q.1.length ≤ 1000 ∧ PyData.strOk (q.1 ++ Str.ofString "?") = true)
    (hga : (ga, seqObj "list" vsG nG) ∈ news) (hsG : Strs vsG gv) (hso : StrOk gv) (hcg : (cg, oc) ∈ news) (hoc : oc.data = .cell (some (.ref ga)))
    (m1 : m (Str.ofString "pairs") = some (.ref al)) (m2 : m (Str.ofString "due") = some (.ref da))
    (ret : ∀ h' tk' dr, Fr h₀ L h' m → News h₀ L h' news → QF .next { s with heap := h', toks := tk', drawn := dr }) :
    wpAny (model prog w) (ktrTop dp un gd (Str.ofString "law") sc L a ccd [(Str.ofString "given", cg), (Str.ofString "seeds", ce), (Str.ofString "drawn", cw)] []) (exec st (envX (Str.ofString "law") sc L a ccd [(Str.ofString "given", cg), (Str.ofString "seeds", ce), (Str.ofString "drawn", cw)])) QF (fun _ _ => False) s := by
  (conv at hst => lhs; whnf)
  (conv at hsc => lhs; whnf)
  subst hst
  subst hsc
  have F2 := know (know F (y := Str.ofString "pairs") m1) (y := Str.ofString "due") m2
  have l2 : (Str.ofString "?").length = 1 := by decide +kernel
  refine hideG fun zG zK => ?_
  obtain ⟨mm, Fm, ma1, ma2⟩ : ∃ mm, Fr h₀ L s.heap mm ∧ mm (Str.ofString "pairs") = some (.ref al) ∧ mm = m := ⟨m, F, m1, rfl⟩
  refine zK ?_
  clear zK zG
  k_steps
  refine Stop.of ?_
  clear F2 F
  refine pairs_go (m := mm) (news := news) (its := avs) (k0 := an) (ax := al) (h₀ := h₀) (L := L)
    (fun i ys nw => nw = news ∧ AllAt IsInt ys ((ps.take i).map fun q => if q.1 ++ Str.ofString "?" ∈ gv then (0 : Int) else 1))
    (fun i v₁ v₂ => Ex3 fun q t1 t2 => All3 (ps[i]? = some q) (v₁ = .str q.1 t1) (v₂ = .str q.2 t2))
    (by with_unfolding_all rfl) (by decide) (by rfl) (by decide) (by rfl) (by rfl) (by decide) rfl ?hi hal (by rw [hav.1]; omega) ⟨rfl, AllAt.nil⟩ ?pair ?turn ?fin (by intro _; rfl)
  case hi =>
    have Fk := know Fm ma1
    k_steps
    all_goals first | exact Fm | exact N | exact ⟨_, _, rfl⟩ | exact ⟨Fm, N, _, _, rfl⟩ | exact ⟨N, _, _, rfl⟩ | exact rfl
  case pair =>
    intro i ys nw hi zr2
    refine hideG fun zG zK => ?_
    obtain ⟨rfl, hys⟩ := zr2
    obtain ⟨q, hq⟩ : ∃ q, ps[i]? = some q := ⟨ps[i]'(by rw [← hav.1]; exact hi), by simp [← hav.1, hi]⟩
    obtain ⟨v, hv, t, t1, t2, n, rfl, hmt⟩ := hav.2 i q hq
    refine zK ?_
    clear zK zG
    exact ⟨hal, t, _, _, n, hv, hmt, q, t1, t2, hq, rfl, rfl⟩
  case turn =>
    intro i ys nw _ _ I oI C oC D m₂ s₁ E' hi zr3 zr4 hoC hm1 hm2 F1 N1 off ne
    refine hideG fun zG zK => ?_
    obtain ⟨q, t1, t2, hq, rfl, rfl⟩ := zr3
    obtain ⟨rfl, hys⟩ := zr4
    obtain ⟨hb1, hb2⟩ := hpb q (List.mem_of_getElem? hq)
    refine zK ?_
    clear zK zG
    refine hideQ fun _ _ => ?_
    by_cases hin : q.1 ++ Str.ofString "?" ∈ gv
    · have kb : decide (q.1 ++ Str.ofString "?" ∈ gv) = true := decide_eq_true hin
      k_steps
      refine ⟨_, _, _, _, rfl, F1, N1, off, hal, rfl, ?_⟩
      rw [List.take_add_one, hq, Option.toList_some, List.map_append]
      exact hys.push (by dsimp only; rw [if_pos hin]; exact ⟨_, rfl⟩)
    · have kb : decide (q.1 ++ Str.ofString "?" ∈ gv) = false := decide_eq_false hin
      k_steps
      refine ⟨_, _, _, _, rfl, F1, N1, off, hal, rfl, ?_⟩
      rw [List.take_add_one, hq, Option.toList_some, List.map_append]
      exact hys.push (by dsimp only; rw [if_neg hin]; exact ⟨_, rfl⟩)
  case fin =>
    rintro D ys nw h tk dr ⟨rfl, hys⟩ F1 N1 off
    rw [hav.1, List.take_length] at hys
    have F2 := know F1 (y := Str.ofString "due") (by rw [ma2]; exact m2)
    k_steps
    subst ma2
    exact ret _ _ _ F1 (News.sub N1 fun p hp => .tail _ hp)

end
end
section
open PySem PySem.W PyProof.Rows PySem.Calls PySem.Spec
theorem words_LawP : True := by
  k_with_none
  k_with "mine room" => ((try simp only [depth_under_make, depth_under_kw, depth_in1, depth_deeper, depth_caller]); (try dsimp only [ktrTop]); omega)
  k_with "mine all" => (first | (with_reducible assumption) | (with_reducible exact allLt_of (by assumption)) | (refine And.intro ?_ ?_; (first | assumption | ((try dsimp only at *); omega)); k_extra "mine all") | (exact allLt_up (by assumption) (by omega)) | (refine allLt_set ?_; k_extra "mine all") | fail)
  k_with "mine lt" => (first | assumption | (refine lt_allLt ?_; k_extra "mine all") | fail)
  k_with "mine ok" => (first | assumption | (refine Ok.setAt ?_ _ _; k_extra "mine ok") | (refine Ok.cons ?_ ?_; (k_extra "mine ok"); (k_extra "mine lt")) | fail)
  k_with "mine ne" => ((try dsimp only); first | assumption | (refine Ne.symm ?_; assumption) | (refine neN ?_; omega) | (apply ne_z1; (case q9m => assumption); (case q9h => k_extra "mine all")) | (apply ne_z2; (case q9m => assumption); (case q9h => k_extra "mine all")) | fail)
  k_with "mine nes" => (first | assumption | exact List.forall_mem_nil _ | (refine List.forall_mem_cons.mpr ⟨?_, ?_⟩; (k_extra "mine ne"); (k_extra "mine nes")) | (refine nes_set ?_; k_extra "mine nes") | (refine nes_lt ?_; k_extra "mine all") | fail)
  k_with "mine mem" => (first | (with_reducible assumption) | ktr_member | (with_reducible exact List.mem_cons_self) | (with_reducible apply mset_z; k_mem) | (with_reducible apply mset_ne_z; (case q9n => k_extra "mine ne"); (case q9x => k_mem)) | (with_reducible refine List.mem_cons_of_mem _ ?_; k_mem) | fail)
  k_with "mine upd" => (first | (with_reducible refine Upd.head ?_; k_extra "mine nes") | (with_reducible apply upd_tail; (case q9ne => k_extra "mine ne"); (case q9u => k_upd)) | (apply upd_z; (case q9k => k_extra "mine ok"); (case q9m => k_mem)) | fail)
  k_with "mine updF" => (first | (with_reducible refine UpdF.head ?_; k_extra "mine nes") | (with_reducible apply updF_tail; (case q9ne => k_extra "mine ne"); (case q9u => k_updF)) | (apply updF_z; (case q9k => k_extra "mine ok"); (case q9m => k_mem)) | fail)
  k_with "mine sub" => (first | exact (fun p hp => hp) | exact (fun p hp => List.mem_cons_of_mem _ hp) | exact (fun p hp => List.mem_cons_of_mem _ (List.mem_cons_of_mem _ hp)) | exact (fun p hp => List.mem_cons_of_mem _ (List.mem_cons_of_mem _ (List.mem_cons_of_mem _ hp))) | (refine List.forall_mem_cons.mpr ⟨?_, ?_⟩; k_mem; k_extra "mine sub") | (intro p hp; (repeat (first | exact hp | refine List.mem_cons_of_mem _ ?_))) | fail)
  k_with "mine units" => ((try simp only [units_in1, units_deeper]); (try dsimp only [ktrTop]); omega)
  k_with "mine leave" => (with_reducible apply HQ.use_z; (case q9h => with_reducible assumption))
  k_with "subscriptTail" => ((k_here; (with_reducible show wpAny _ _ (subscriptTail _ _ (Value.ref _) (Value.str _ _)) _ _ _); k_dflt (refine kda_item (knd := PySem.strKind _ _) (by k_asm) (by k_mem) (by assumption) (strKind_is _ _ _ _) (by assumption) ?_)))
  trivial
section
variable {prog : Program} {w : World} {p : Program} {loose : List Str} {mean : ExcName → Option Value} {mg mb : Str → Option Value} {dp un : Nat} {gd : Option (List Code)} {cn : Str} {cs : Scope} {a : Addr} {ccd : Value} {cl : List (Str × Addr)} {outer : List Env} {A₀ : Around} {base h₀ : Heap} {L : Addr} {m : Str → Option Value} {news : Led} {s : Shared} {Q E : Value → Shared → Prop}
theorem words_lp_1 : True := by
  k_with "ite" => (first | (with_reducible refine ite_yes (by with_reducible assumption) ?_) | (with_reducible refine ite_no (by with_reducible assumption) ?_))
  trivial
noncomputable def lrTgt : Expr := match stAt (fBody (topS 28)) 13 with | .For t _ _ _ _ => t | _ => .Constant .none 0 ⟨0, 0, 0, 0⟩
noncomputable def lrIter : Expr := match stAt (fBody (topS 28)) 13 with | .For _ t _ _ _ => t | _ => .Constant .none 0 ⟨0, 0, 0, 0⟩
noncomputable def lrPos : Pos := match stAt (fBody (topS 28)) 13 with | .For _ _ _ _ q => q | _ => ⟨0, 0, 0, 0⟩
theorem lr_is : stAt (fBody (topS 28)) 13 = .For lrTgt lrIter lrBody [] lrPos := by with_unfolding_all rfl
theorem lr_asg {sc : Scope} {cg ce cw : Addr} {QF : Flow → Shared → Prop} (B : Below A₀ base [] h₀) (F : Fr h₀ L s.heap m) (X : (K w.params).In h₀) (N : News h₀ L s.heap news) (T : Top p loose mean mg mb h₀) (XB : (K w.params).In base) (TB : Top p loose mean mg mb base) (hdp : dp + 100 < recursionLimit) (hun : un + 100 < cLine) (hsc : fScope (topS 28) = sc) {st : Expr} (hst : lrTgt = st) {t x y z : Addr} {n : Nat} {QU : Unit → Shared → Prop} (hmt : (t, seqObj "tuple" [.ref x, .ref y, .ref z] n) ∈ news)
    (ret : ∀ h' tk' m', m' (Str.ofString "row") = some (.ref x) → m' (Str.ofString "pairs") = some (.ref y) → m' (Str.ofString "each") = some (.ref z) → (∀ z, z ≠ Str.ofString "row" → z ≠ Str.ofString "pairs" → z ≠ Str.ofString "each" → m' z = m z) → Fr h₀ L h' m' → News h₀ L h' news → QU () { s with heap := h', toks := tk' }) :
    wpAny (model prog w) (ktrTop dp un gd (Str.ofString "law") sc L a ccd [(Str.ofString "given", cg), (Str.ofString "seeds", ce), (Str.ofString "drawn", cw)] []) (assign st (envX (Str.ofString "law") sc L a ccd [(Str.ofString "given", cg), (Str.ofString "seeds", ce), (Str.ofString "drawn", cw)]) (.ref t)) QU (fun _ _ => False) s := by
  (conv at hst => lhs; whnf)
  (conv at hsc => lhs; whnf)
  subst hst
  subst hsc
  refine wpAny_mono (Q := fun _ s₂ => Stop (∃ h' tk', s₂ = { s with heap := h', toks := tk' } ∧ Fr h₀ L h' (fun q => if q = Str.ofString "each" then some (.ref z) else if q = Str.ofString "pairs" then some (.ref y) else if q = Str.ofString "row" then some (.ref x) else m q) ∧ News h₀ L h' news)) ?as ?bd (fun _ _ e => e)
  case as =>
    refine hideG fun zG zK => ?_
    obtain ⟨hh, gg, dd, tt, oo⟩ := s
    refine zK ?_
    clear zK zG
    k_steps
    exact ⟨_, _, rfl, by k_asm, by k_asm⟩
  case bd =>
    intro _ s₂ zr1
    refine hideG fun zG zK => ?_
    obtain ⟨h5, tk5, rfl, F5, N5⟩ := zr1
    refine zK ?_
    clear zK zG
    refine ret h5 tk5 _ ?_ ?_ ?_ (fun z e1 e2 e3 => ?_) F5 N5
    · rfl
    · rfl
    · rfl
    · simp only [if_neg e1, if_neg e2, if_neg e3]
theorem rev_lst {A : Around} {value slice : PySem.Expr} {QV : Value → Shared → Prop} {l : Addr} {vs ops : List Value} {vk : Value} {n : Nat} (F : Fr h₀ L s.heap m) (N : News h₀ L s.heap news) (hm : (l, seqObj "list" vs n) ∈ news) (pk : IsPart vk (some (-1))) (hz : vs.length ≤ 1000)
    (h : ∀ D h', Fr h₀ L h' m → News h₀ L h' ((D, seqObj "list" vs.reverse 0) :: news) → (∀ p ∈ news, p.1 < D) → QV (.ref D) { s with heap := h' })
    (hs : subscripted slice false (.ref l) (.ref s.heap.objs.size) = operate ops (getItem (.ref l) (.ref s.heap.objs.size))) (ht : ∀ r, letTemporaryGo value (.ref l) r = pure ()) :
    wpAny (model prog w) A (subscriptTail value slice (.ref l) (.ref s.heap.objs.size)) QV E { s with heap := s.heap.push { cls := .type "slice", data := .fields #[.none, .none, vk] } } :=
  krv_lit (its := vs.toArray) (zs := vs.reverse) F N ⟨_, (N _ hm).1, rfl, n, rfl⟩ pk rfl h hs ht (by rw [List.size_toArray, sizeLine_eq]; omega)
theorem words_lp_2 : True := by
  k_with "subscriptTail" => ((k_here; (with_reducible show wpAny _ _ (subscriptTail _ (PySem.Expr.Slice none none (some _) _) (Value.ref _) (Value.ref _)) _ _ _); k_dflt (refine rev_lst (by k_asm) (by k_asm) (by k_mem) (by exact IsPart.int _ _) (by omega) ?_ (by with_unfolding_all rfl) (by kmk_pure)); intro _ _ _ _ l1zz; (try k_lt l1zz); revert l1zz; intro _; (try k_sweep)))
  trivial
theorem lr_iter {sc : Scope} {cg ce cw : Addr} {QF : Flow → Shared → Prop} (B : Below A₀ base [] h₀) (F : Fr h₀ L s.heap m) (X : (K w.params).In h₀) (N : News h₀ L s.heap news) (T : Top p loose mean mg mb h₀) (XB : (K w.params).In base) (TB : Top p loose mean mg mb base) (hdp : dp + 100 < recursionLimit) (hun : un + 100 < cLine) (hsc : fScope (topS 28) = sc) {st : Expr} (hst : lrIter = st) {fl al ol : Addr} {fvs avs ovs : List Value} {fn an on : Nat} {QV : Value → Shared → Prop} (ok : Ok news) (hfl : (fl, seqObj "list" fvs fn) ∈ news) (hal : (al, seqObj "list" avs an) ∈ news) (hol : (ol, seqObj "list" ovs on) ∈ news)
    (h1 : fvs.length ≤ 6) (h2 : avs.length ≤ 6) (h3 : ovs.length ≤ 6) (m1 : m (Str.ofString "files") = some (.ref fl)) (m2 : m (Str.ofString "asks") = some (.ref al)) (m3 : m (Str.ofString "own") = some (.ref ol))
    (ret : ∀ l t1 t2 x y z led h' tk', (l, seqObj "list" [.ref t1, .ref t2] 0) ∈ led → (t1, seqObj "tuple" [.ref fl, .ref al, .ref ol] 0) ∈ led → (t2, seqObj "tuple" [.ref x, .ref y, .ref z] 0) ∈ led → (x, seqObj "list" fvs.reverse 0) ∈ led → (y, seqObj "list" avs.reverse 0) ∈ led → (z, seqObj "list" ovs.reverse 0) ∈ led → (∀ p ∈ news, p ∈ led) → Ok led → Fr h₀ L h' m → News h₀ L h' led → QV (.ref l) { s with heap := h', toks := tk' }) :
    wpAny (model prog w) (ktrTop dp un gd (Str.ofString "law") sc L a ccd [(Str.ofString "given", cg), (Str.ofString "seeds", ce), (Str.ofString "drawn", cw)] []) (eval st (envX (Str.ofString "law") sc L a ccd [(Str.ofString "given", cg), (Str.ofString "seeds", ce), (Str.ofString "drawn", cw)])) QV (fun _ _ => False) s := by
  (conv at hst => lhs; whnf)
  (conv at hsc => lhs; whnf)
  subst hst
  subst hsc
  have Fk := know (know (know F (y := Str.ofString "files") m1) (y := Str.ofString "asks") m2) (y := Str.ofString "own") m3
  clear F
  k_steps
  rename_i t1 g1 l1 x g2 l2 y g3 l3 z g4 l4 t2 g5 l5 l g6 FZ NZ l6
  refine ret l t1 t2 x y z _ _ _ (.head _) (.tail _ (.tail _ (.tail _ (.tail _ (.tail _ (.head _)))))) (.tail _ (.head _)) (.tail _ (.tail _ (.tail _ (.tail _ (.head _))))) (.tail _ (.tail _ (.tail _ (.head _)))) (.tail _ (.tail _ (.head _))) (fun p hp => .tail _ (.tail _ (.tail _ (.tail _ (.tail _ (.tail _ hp)))))) ?_ (unknow (unknow (unknow FZ m3) m2) m1) NZ
  exact Ok.cons (Ok.cons (Ok.cons (Ok.cons (Ok.cons (Ok.cons ok l1) (List.forall_mem_cons.mpr ⟨l2.1, lt_allLt l2.2⟩)) (List.forall_mem_cons.mpr ⟨l3.1, List.forall_mem_cons.mpr ⟨l3.2.1, lt_allLt l3.2.2⟩⟩)) (List.forall_mem_cons.mpr ⟨l4.1, List.forall_mem_cons.mpr ⟨l4.2.1, List.forall_mem_cons.mpr ⟨l4.2.2.1, lt_allLt l4.2.2.2⟩⟩⟩))
    (List.forall_mem_cons.mpr ⟨l5.1, List.forall_mem_cons.mpr ⟨l5.2.1, List.forall_mem_cons.mpr ⟨l5.2.2.1, List.forall_mem_cons.mpr ⟨l5.2.2.2.1, lt_allLt l5.2.2.2.2⟩⟩⟩⟩))
    (List.forall_mem_cons.mpr ⟨l6.1, List.forall_mem_cons.mpr ⟨l6.2.1, List.forall_mem_cons.mpr ⟨l6.2.2.1, List.forall_mem_cons.mpr ⟨l6.2.2.2.1, List.forall_mem_cons.mpr ⟨l6.2.2.2.2.1, lt_allLt l6.2.2.2.2.2⟩⟩⟩⟩⟩)
theorem AllAt.rev {α : Type} {R : Value → α → Prop} : ∀ {vs : List Value} {xs : List α}, AllAt R vs xs → AllAt R vs.reverse xs.reverse
  | [], xs, h => by
    have : xs = [] := List.eq_nil_of_length_eq_zero h.1.symm
    subst this; exact AllAt.nil
  | v :: vs, xs, h => by
    refine hideG fun zG zK => ?_
    obtain ⟨x, ys, rfl, hx, h'⟩ := h.cons_inv
    refine zK ?_
    clear zK zG
    rw [List.reverse_cons, List.reverse_cons]
    exact h'.rev.push hx
/-- the entries of l that stand in l' too: the sequences -/
noncomputable def SeqSub (l l' : Led) : Prop := ∀ x t vs n, (x, seqObj t vs n) ∈ l → (x, seqObj t vs n) ∈ l'
theorem PartsAt.seq {l l' : Led} {v : Value} {xs : List Str} (h : PartsAt l v xs) (hs : SeqSub l l') : PartsAt l' v xs := by
  refine hideG fun zG zK => ?_
  obtain ⟨a, vs, n, e, hm, hv⟩ := h
  refine zK ?_
  clear zK zG
  exact ⟨a, vs, n, e, hs _ _ _ _ hm, hv⟩
theorem FileAt.seq {l l' : Led} {v : Value} {f : File} (h : FileAt l v f) (hs : SeqSub l l') : FileAt l' v f := by
  refine hideG fun zG zK => ?_
  obtain ⟨t, pv, tb, tn, n, e, hm, hp⟩ := h
  refine zK ?_
  clear zK zG
  exact ⟨t, pv, tb, tn, n, e, hs _ _ _ _ hm, hp.seq hs⟩
theorem PairAt.seq {l l' : Led} {v : Value} {q : Str × Str} (h : PairAt l v q) (hs : SeqSub l l') : PairAt l' v q := by
  refine hideG fun zG zK => ?_
  obtain ⟨t, t1, t2, n, e, hm⟩ := h
  refine zK ?_
  clear zK zG
  exact ⟨t, t1, t2, n, e, hs _ _ _ _ hm⟩
theorem Good.plen {f : File} (h : Good f) : f.path.length ≤ 1000 ∧ f.name.length ≤ 1000 ∧ PyData.strOk (f.path ++ Str.ofString "?") = true :=
  ⟨Nat.le_trans (base_path f.parts h.parts (f.base, f.name) h.base).2 (by decide), by have := h.ok.name; omega, (str_file _ h.parts _ h.base).2⟩
theorem lr_parts : lrBody = [stAt lrBody 0, stAt lrBody 1, stAt lrBody 2, stAt lrBody 3, stAt lrBody 4] := by with_unfolding_all rfl
/-- a turn of the loop over the two rows, from its names on -/
theorem segRB {sc : Scope} {cg ce cw : Addr} {QF : Flow → Shared → Prop} (B : Below A₀ base [] h₀) (F : Fr h₀ L s.heap m) (X : (K w.params).In h₀) (N : News h₀ L s.heap news) (T : Top p loose mean mg mb h₀) (XB : (K w.params).In base) (TB : Top p loose mean mg mb base) (hdp : dp + 100 < recursionLimit) (hun : un + 100 < cLine) (hsc : fScope (topS 28) = sc) (hfree : Free p loose (Str.ofString "StopIteration")) (hQ : ∀ f s', QF f s' → f = .next) {fl pl ml dl al ol : Addr} {fvs qvs mvs avs ovs : List Value} {fn qn mn dn an on : Nat} {fs : List File} {qs : List (List Str)} {ms : List Str} {w1 w2 : Str} {u1 u2 : Tok} (ok : Ok news)
    (hfl : (fl, seqObj "list" fvs fn) ∈ news) (hfs : AllAt (FileAt news) fvs fs) (hgood : ∀ f ∈ fs, Good f) (hfn : fs.length ≤ 6) (hpl : (pl, seqObj "list" qvs qn) ∈ news) (hqv : AllAt (PartsAt news) qvs qs) (hqs : ∀ q ∈ qs, q ∈ partsAll) (hql : qs.length = 2) (hml : (ml, seqObj "list" mvs mn) ∈ news) (hmv : Strs mvs ms) (hms : ms ∈ modsAll)
    (hdl : (dl, seqObj "list" [.str w1 u1, .str w2 u2] dn) ∈ news) (nk1 : NormOk w1) (nk2 : NormOk w2) (hn1 : (normP w1).length ≤ 100) (hn2 : (normP w2).length ≤ 100) (hign : ∀ f ∈ fs, outOf f qs ms = ignV ms [normP w1, normP w2] f.path f.name)
    (hal : (al, seqObj "list" avs an) ∈ news) (hav : AllAt (PairAt news) avs (fs.map fun f => (f.path, f.name))) (hol : (ol, seqObj "list" ovs on) ∈ news) (hov : AllAt IsInt ovs (fs.map fun f => b2 (outOf f qs ms)))
    {og : Obj} {gx : Option Value} (hcg : (cg, og) ∈ news) (hog : og.data = .cell gx)
    (m1 : m (Str.ofString "row") = some (.ref fl)) (m2 : m (Str.ofString "places") = some (.ref pl)) (m3 : m (Str.ofString "mods") = some (.ref ml)) (m4 : m (Str.ofString "dirs") = some (.ref dl)) (m5 : m (Str.ofString "pairs") = some (.ref al)) (m6 : m (Str.ofString "each") = some (.ref ol))
    (ret : ∀ h' tk' dr m' nl oc x, (cg, oc) ∈ nl → oc.data = .cell (some x) → Ok nl → (∀ p ∈ news, p.1 ≠ cg → p ∈ nl) → (∀ y, y ≠ Str.ofString "ring" → y ≠ Str.ofString "due" → y ≠ Str.ofString "answers" → m' y = m y) → Fr h₀ L h' m' → News h₀ L h' nl → QF .next { s with heap := h', toks := tk', drawn := dr }) :
    wpAny (model prog w) (ktrTop dp un gd (Str.ofString "law") sc L a ccd [(Str.ofString "given", cg), (Str.ofString "seeds", ce), (Str.ofString "drawn", cw)] []) (execs lrBody (envX (Str.ofString "law") sc L a ccd [(Str.ofString "given", cg), (Str.ofString "seeds", ce), (Str.ofString "drawn", cw)])) QF (fun _ _ => False) s := by
  have hps : ∀ q ∈ fs.map (fun f => (f.path, f.name)), q.1.length ≤ 1000 ∧ q.2.length ≤ 1000 ∧ PyData.strOk (q.1 ++ Str.ofString "?") = true := fun q hq => by
    refine hideG fun zG zK => ?_
    obtain ⟨f, hf, rfl⟩ := List.mem_map.mp hq
    refine zK ?_
    clear zK zG
    exact (hgood f hf).plen
  have hpl6 : (fs.map fun f => (f.path, f.name)).length ≤ 100 := by rw [List.length_map]; omega
  have sne : ∀ {l : Led} {oc : Obj} {gx : Option Value}, Ok l → (cg, oc) ∈ l → oc.data = .cell gx → ∀ {x : Addr} {t : String} {vs : List Value} {n : Nat}, (x, seqObj t vs n) ∈ l → x ≠ cg := fun okl hc hd x t vs n hx => okl.ne hx hc fun e => by
    rw [← e] at hd
    cases hd
  have seq0 : ∀ {nl : Led}, (∀ p ∈ news, p.1 ≠ cg → p ∈ nl) → SeqSub news nl := fun h x t vs n hx => h _ hx (sne ok hcg hog hx)
  rw [lr_parts]
  refine wpAny_execs_cons ?_
  refine segR0 B F X N T XB TB hdp hun hsc hfree rfl ok hfl hfs hgood hfn hpl hqv hqs hql hml hmv hms hcg hog m1 m2 m3 fun ga vsG nG gv oc nl0 h0 tk0 m0' mG hsG hgn HL mc hoc ok0 sub0 r1 r0 F0 N0 => ?_
  dsimp only
  have ss0 := seq0 sub0
  have hal0 := ss0 _ _ _ _ hal
  have hav0 : AllAt (PairAt nl0) avs (fs.map fun f => (f.path, f.name)) := hav.sub fun v x h => h.seq ss0
  refine wpAny_execs_cons ?_
  refine segR1 B F0 X N0 T XB TB hdp hun hsc rfl ok0 hal0 hav0 hpl6 (ss0 _ _ _ _ hol) hov (by rw [List.length_map, List.length_map]) ((r0 _ (by decide +kernel)).trans m5) ((r0 _ (by decide +kernel)).trans m6) fun D1 ys1 h1 tk1 dr1 m1' hy1 off1 e1 e0 F1 N1 => ?_
  dsimp only
  rw [due_is] at hy1
  have ok1 : Ok ((D1, LCg.lst ys1) :: nl0) := Ok.cons_ne ok0 off1
  have sub1 : ∀ p ∈ news, p.1 ≠ cg → p ∈ (D1, LCg.lst ys1) :: nl0 := fun p hp hn => .tail _ (sub0 p hp hn)
  have ss1 := seq0 sub1
  have r1' : ∀ y, y ≠ Str.ofString "ring" → y ≠ Str.ofString "due" → m1' y = m y := fun y q1 q2 => (e0 y q2).trans (r0 y q1)
  refine wpAny_execs_cons ?_
  refine segR2 B F1 X N1 T XB TB hdp hun hsc rfl ok1 (ss1 _ _ _ _ hml) hmv hms (ss1 _ _ _ _ hdl) nk1 nk2 hn1 hn2 (ss1 _ _ _ _ hal) (hav.sub fun v x h => h.seq ss1) hpl6 (fun q hq => ⟨(hps q hq).1, (hps q hq).2.1⟩)
    ((r1' _ (by decide +kernel) (by decide +kernel)).trans m3) ((r1' _ (by decide +kernel) (by decide +kernel)).trans m4) ((r1' _ (by decide +kernel) (by decide +kernel)).trans m5) fun D2 ys2 h2 tk2 dr2 m2' nl2 hy2 mD2 sub2 ok2 a1 a0 F2 N2 => ?_
  dsimp only
  rw [answers_are fs qs ms _ hgood hign] at hy2
  have hks : (fs.map (due1 fs qs ms)).length ≤ 100 := by rw [List.length_map]; omega
  refine wpAny_execs_cons ?_
  refine segR3 B F2 X N2 T XB TB hdp hun hsc rfl ok2 (sub2 _ (.head _)) hy1 mD2 hy2 hks ((a0 _ (by decide +kernel)).trans ((e0 _ (by decide +kernel)).trans r1)) a1 ((a0 _ (by decide +kernel)).trans e1) fun h3 tk3 F3 N3 => ?_
  dsimp only
  have sub3 : ∀ p ∈ news, p.1 ≠ cg → p ∈ nl2 := fun p hp hn => sub2 p (sub1 p hp hn)
  have ss3 := seq0 sub3
  have hstr := told_str hgood hqs hms
  have hgi := given_is HL
  have hdv : AllAt IsInt ys1 ((fs.map fun f => (f.path, f.name)).map fun q => if q.1 ++ Str.ofString "?" ∈ gv then (0 : Int) else 1) := by
    rw [List.map_map]
    rw [← hgi] at hy1
    exact hy1
  refine wpAny_execs_cons ?_
  refine segR4 B F3 X N3 T XB TB hdp hun hsc rfl ok2 (sub2 _ (.head _)) hdv (ss3 _ _ _ _ hal) (hav.sub fun v x h => h.seq ss3) hpl6 (fun q hq => ⟨(hps q hq).1, (hps q hq).2.2⟩) (sub2 _ (.tail _ mG)) hsG (fun x hx => hstr x (hgn x hx)) (sub2 _ (.tail _ mc)) hoc
    ((a0 _ (by decide +kernel)).trans ((r1' _ (by decide +kernel) (by decide +kernel)).trans m5)) ((a0 _ (by decide +kernel)).trans e1) fun h4 tk4 dr4 F4 N4 => ?_
  dsimp only
  refine wpAny_execs_nil ?_
  exact ret h4 tk4 dr4 m2' nl2 oc _ (sub2 _ (.tail _ mc)) hoc ok2 sub3 (fun y q1 q2 q3 => (a0 y q3).trans (r1' y q1 q2)) F4 N4
/-- the loop over the two rows -/
theorem segR {sc : Scope} {cg ce cw : Addr} {QF : Flow → Shared → Prop} (B : Below A₀ base [] h₀) (F : Fr h₀ L s.heap m) (X : (K w.params).In h₀) (N : News h₀ L s.heap news) (T : Top p loose mean mg mb h₀) (XB : (K w.params).In base) (TB : Top p loose mean mg mb base) (hdp : dp + 100 < recursionLimit) (hun : un + 100 < cLine) (hsc : fScope (topS 28) = sc) (hfree : Free p loose (Str.ofString "StopIteration")) {fl pl ml dl al ol : Addr} {fvs qvs mvs avs ovs : List Value} {fn qn mn dn an on : Nat} {fs : List File} {qs : List (List Str)} {ms : List Str} {w1 w2 : Str} {u1 u2 : Tok} (ok : Ok news)
    (hfl : (fl, seqObj "list" fvs fn) ∈ news) (hfs : AllAt (FileAt news) fvs fs) (hgood : ∀ f ∈ fs, Good f) (hfn : fs.length ≤ 6) (hpl : (pl, seqObj "list" qvs qn) ∈ news) (hqv : AllAt (PartsAt news) qvs qs) (hqs : ∀ q ∈ qs, q ∈ partsAll) (hql : qs.length = 2) (hml : (ml, seqObj "list" mvs mn) ∈ news) (hmv : Strs mvs ms) (hms : ms ∈ modsAll)
    (hdl : (dl, seqObj "list" [.str w1 u1, .str w2 u2] dn) ∈ news) (nk1 : NormOk w1) (nk2 : NormOk w2) (hn1 : (normP w1).length ≤ 100) (hn2 : (normP w2).length ≤ 100) (hign : ∀ f ∈ fs, outOf f qs ms = ignV ms [normP w1, normP w2] f.path f.name)
    (hal : (al, seqObj "list" avs an) ∈ news) (hav : AllAt (PairAt news) avs (fs.map fun f => (f.path, f.name))) (hol : (ol, seqObj "list" ovs on) ∈ news) (hov : AllAt IsInt ovs (fs.map fun f => b2 (outOf f qs ms)))
    {og : Obj} {gx : Option Value} (hcg : (cg, og) ∈ news) (hog : og.data = .cell gx)
    (m1 : m (Str.ofString "files") = some (.ref fl)) (m2 : m (Str.ofString "places") = some (.ref pl)) (m3 : m (Str.ofString "mods") = some (.ref ml)) (m4 : m (Str.ofString "dirs") = some (.ref dl)) (m5 : m (Str.ofString "asks") = some (.ref al)) (m6 : m (Str.ofString "own") = some (.ref ol))
    (ret : ∀ h' tk' dr m' nl, (∀ p ∈ news, p.1 ≠ cg → p ∈ nl) → Ok nl → m' (Str.ofString "told") = m (Str.ofString "told") → m' (Str.ofString "dirs") = some (.ref dl) → m' (Str.ofString "mods") = some (.ref ml) → Fr h₀ L h' m' → News h₀ L h' nl → QF .next { s with heap := h', toks := tk', drawn := dr }) :
    wpAny (model prog w) (ktrTop dp un gd (Str.ofString "law") sc L a ccd [(Str.ofString "given", cg), (Str.ofString "seeds", ce), (Str.ofString "drawn", cw)] []) (exec (stAt (fBody (topS 28)) 13) (envX (Str.ofString "law") sc L a ccd [(Str.ofString "given", cg), (Str.ofString "seeds", ce), (Str.ofString "drawn", cw)])) QF (fun _ _ => False) s := by
  have hfl6 : fvs.length ≤ 6 := by rw [hfs.1]; exact hfn
  have hal6 : avs.length ≤ 6 := by rw [hav.1, List.length_map]; exact hfn
  have hol6 : ovs.length ≤ 6 := by rw [hov.1, List.length_map]; exact hfn
  rw [lr_is]
  refine for_any (h₀ := h₀) rfl (lr_iter (QF := fun _ _ => True) B F X N T XB TB hdp hun hsc rfl ok hfl hal hol hfl6 hal6 hol6 m1 m5 m6 fun l t1 t2 x y z led h' tk' kl k1 k2 kx ky kz subn okl F' N' => ?_) (by intro _; rfl) (by passes_own)
  have mc := subn _ hcg
  have sne : ∀ {x : Addr} {t : String} {vs : List Value} {n : Nat}, (x, seqObj t vs n) ∈ led → x ≠ cg := fun hx => okl.ne hx mc fun e => by
    rw [← e] at hog
    cases hog
  refine ⟨l, [.ref t1, .ref t2], 0, m, led, fun i m₁ nw => Ok nw ∧ (∃ oc g, (cg, oc) ∈ nw ∧ oc.data = .cell g) ∧ (∀ p ∈ led, p.1 ≠ cg → p ∈ nw) ∧ m₁ (Str.ofString "places") = some (.ref pl) ∧ m₁ (Str.ofString "mods") = some (.ref ml) ∧ m₁ (Str.ofString "dirs") = some (.ref dl) ∧ m₁ (Str.ofString "told") = m (Str.ofString "told"), rfl, F', N', ⟨h', tk', rfl⟩, kl, ⟨okl, ⟨og, gx, mc, hog⟩, fun p hp _ => hp, m2, m3, m4, rfl⟩, fun i m nw hJ => hJ.2.2.1 _ kl (sne kl), ?turn, ?done⟩
  case turn =>
    intro i v m₁ nw s₁ I io hv zr2 hnI F1 N1
    refine hideG fun zG zK => ?_
    obtain ⟨okn, ⟨oc, g, mcn, hdc⟩, subw, g2, g3, g4, g5⟩ := zr2
    have ok1 : Ok ((I, io) :: nw) := Ok.cons_ne okn hnI
    have ss : SeqSub led ((I, io) :: nw) := fun x t vs n hx => .tail _ (subw _ hx (sne hx))
    have ssn : SeqSub news ((I, io) :: nw) := fun x t vs n hx => ss _ _ _ _ (subn _ hx)
    have nIc : I ≠ cg := Ne.symm (hnI _ mcn)
    obtain ⟨t, x', y', z', fvs', avs', ovs', n1, n2, n3, fs', rfl, kt, kx', ky', kz', hfs', hav', hov', hfn', hmem⟩ : ∃ t x' y' z' fvs' avs' ovs' n1 n2 n3 fs', v = .ref t ∧ (t, seqObj "tuple" [.ref x', .ref y', .ref z'] 0) ∈ led ∧ (x', seqObj "list" fvs' n1) ∈ led ∧ (y', seqObj "list" avs' n2) ∈ led ∧ (z', seqObj "list" ovs' n3) ∈ led ∧
        AllAt (FileAt news) fvs' fs' ∧ AllAt (PairAt news) avs' (fs'.map fun f => (f.path, f.name)) ∧ AllAt IsInt ovs' (fs'.map fun f => b2 (outOf f qs ms)) ∧ fs'.length ≤ 6 ∧ ∀ f ∈ fs', f ∈ fs := by
      match i, hv with
      | 0, hv => cases hv; exact ⟨t1, fl, al, ol, fvs, avs, ovs, fn, an, on, fs, rfl, k1, subn _ hfl, subn _ hal, subn _ hol, hfs, hav, hov, hfn, fun f hf => hf⟩
      | 1, hv =>
        cases hv
        refine ⟨t2, x, y, z, fvs.reverse, avs.reverse, ovs.reverse, 0, 0, 0, fs.reverse, rfl, k2, kx, ky, kz, hfs.rev, ?_, ?_, by rw [List.length_reverse]; exact hfn, fun f hf => List.mem_reverse.mp hf⟩
        · rw [List.map_reverse]; exact hav.rev
        · rw [List.map_reverse]; exact hov.rev
      | i + 2, hv => simp at hv
    refine zK ?_
    clear zK zG
    refine lr_asg (QF := fun _ _ => True) B F1 X N1 T XB TB hdp hun hsc rfl (ss _ _ _ _ kt) fun h2 tk2 m2' a1 a2 a3 a0 F2 N2 => ?_
    refine segRB B F2 X N2 T XB TB hdp hun hsc hfree (fun f s' h => h.1) ok1 (ss _ _ _ _ kx') (hfs'.sub fun v x h => h.seq ssn) (fun f hf => hgood f (hmem f hf)) hfn' (ssn _ _ _ _ hpl) (hqv.sub fun v x h => h.seq ssn) hqs hql (ssn _ _ _ _ hml) hmv hms (ssn _ _ _ _ hdl) nk1 nk2 hn1 hn2 (fun f hf => hign f (hmem f hf))
      (ss _ _ _ _ ky') (hav'.sub fun v x h => h.seq ssn) (ss _ _ _ _ kz') hov' (.tail _ mcn) hdc a1 ((a0 _ (by decide +kernel) (by decide +kernel) (by decide +kernel)).trans g2) ((a0 _ (by decide +kernel) (by decide +kernel) (by decide +kernel)).trans g3) ((a0 _ (by decide +kernel) (by decide +kernel) (by decide +kernel)).trans g4) a2 a3 fun h3 tk3 dr3 m3' nl oc3 x3 mc3 hd3 ok3 sub3 b0 F3 N3 => ?_
    have mI : (I, io) ∈ nl := sub3 _ (.head _) nIc
    have b1 : ∀ y, y ≠ Str.ofString "ring" → y ≠ Str.ofString "due" → y ≠ Str.ofString "answers" → y ≠ Str.ofString "row" → y ≠ Str.ofString "pairs" → y ≠ Str.ofString "each" → m3' y = m₁ y := fun y q1 q2 q3 q4 q5 q6 => (b0 y q1 q2 q3).trans (a0 y q4 q5 q6)
    refine ⟨rfl, h3, tk3, dr3, m3', dropI nl I, rfl, F3, fun p hp => ?_, fun p hp => (mem_dropI.mp hp).2, ok3.dropI _, ⟨oc3, _, mem_dropI.mpr ⟨mc3, Ne.symm nIc⟩, hd3⟩, fun p hp hn => ?_, ?_, ?_, ?_, ?_⟩
    · rcases List.mem_cons.mp hp with rfl | hp
      · exact N3 _ mI
      · exact N3 _ (mem_dropI.mp hp).1
    · have hw := subw p hp hn
      exact mem_dropI.mpr ⟨sub3 p (.tail _ hw) hn, hnI p hw⟩
    · exact (b1 _ (by decide +kernel) (by decide +kernel) (by decide +kernel) (by decide +kernel) (by decide +kernel) (by decide +kernel)).trans g2
    · exact (b1 _ (by decide +kernel) (by decide +kernel) (by decide +kernel) (by decide +kernel) (by decide +kernel) (by decide +kernel)).trans g3
    · exact (b1 _ (by decide +kernel) (by decide +kernel) (by decide +kernel) (by decide +kernel) (by decide +kernel) (by decide +kernel)).trans g4
    · exact (b1 _ (by decide +kernel) (by decide +kernel) (by decide +kernel) (by decide +kernel) (by decide +kernel) (by decide +kernel)).trans g5
  case done =>
    intro m₁ nw h tk dr zr3 F1 N1
    refine hideG fun zG zK => ?_
    obtain ⟨okn, _, subw, g2, g3, g4, g5⟩ := zr3
    refine zK ?_
    clear zK zG
    exact ret h tk dr m₁ nw (fun p hp hn => subw p (subn p hp) hn) okn g5 g4 g3 F1 N1

end
end
section
open PySem PySem.W PyProof.Rows PySem.Calls PySem.Spec
theorem words_LawQ : True := by
  k_with_none
  k_with "mine room" => ((try simp only [depth_under_make, depth_under_kw, depth_in1, depth_deeper, depth_caller]); (try dsimp only [ktrTop]); omega)
  k_with "mine all" => (first | (with_reducible assumption) | (with_reducible exact allLt_of (by assumption)) | (refine And.intro ?_ ?_; (first | assumption | ((try dsimp only at *); omega)); k_extra "mine all") | (exact allLt_up (by assumption) (by omega)) | (refine allLt_set ?_; k_extra "mine all") | fail)
  k_with "mine lt" => (first | assumption | (refine lt_allLt ?_; k_extra "mine all") | fail)
  k_with "mine ok" => (first | assumption | (refine Ok.setAt ?_ _ _; k_extra "mine ok") | (refine Ok.cons ?_ ?_; (k_extra "mine ok"); (k_extra "mine lt")) | fail)
  k_with "mine ne" => ((try dsimp only); first | assumption | (refine Ne.symm ?_; assumption) | (refine neN ?_; omega) | (apply ne_z1; (case q9m => assumption); (case q9h => k_extra "mine all")) | (apply ne_z2; (case q9m => assumption); (case q9h => k_extra "mine all")) | fail)
  k_with "mine nes" => (first | assumption | exact List.forall_mem_nil _ | (refine List.forall_mem_cons.mpr ⟨?_, ?_⟩; (k_extra "mine ne"); (k_extra "mine nes")) | (refine nes_set ?_; k_extra "mine nes") | (refine nes_lt ?_; k_extra "mine all") | fail)
  k_with "mine mem" => (first | (with_reducible assumption) | ktr_member | (with_reducible exact List.mem_cons_self) | (with_reducible apply mset_z; k_mem) | (with_reducible apply mset_ne_z; (case q9n => k_extra "mine ne"); (case q9x => k_mem)) | (with_reducible refine List.mem_cons_of_mem _ ?_; k_mem) | fail)
  k_with "mine upd" => (first | (with_reducible refine Upd.head ?_; k_extra "mine nes") | (with_reducible apply upd_tail; (case q9ne => k_extra "mine ne"); (case q9u => k_upd)) | (apply upd_z; (case q9k => k_extra "mine ok"); (case q9m => k_mem)) | fail)
  k_with "mine updF" => (first | (with_reducible refine UpdF.head ?_; k_extra "mine nes") | (with_reducible apply updF_tail; (case q9ne => k_extra "mine ne"); (case q9u => k_updF)) | (apply updF_z; (case q9k => k_extra "mine ok"); (case q9m => k_mem)) | fail)
  k_with "mine sub" => (first | exact (fun p hp => hp) | exact (fun p hp => List.mem_cons_of_mem _ hp) | exact (fun p hp => List.mem_cons_of_mem _ (List.mem_cons_of_mem _ hp)) | exact (fun p hp => List.mem_cons_of_mem _ (List.mem_cons_of_mem _ (List.mem_cons_of_mem _ hp))) | (refine List.forall_mem_cons.mpr ⟨?_, ?_⟩; k_mem; k_extra "mine sub") | (intro p hp; (repeat (first | exact hp | refine List.mem_cons_of_mem _ ?_))) | fail)
  k_with "mine units" => ((try simp only [units_in1, units_deeper]); (try dsimp only [ktrTop]); omega)
  k_with "mine leave" => (with_reducible apply HQ.use_z; (case q9h => with_reducible assumption))
  trivial
section
variable {prog : Program} {w : World} {p : Program} {loose : List Str} {mean : ExcName → Option Value} {mg mb : Str → Option Value} {dp un : Nat} {gd : Option (List Code)} {cn : Str} {cs : Scope} {a : Addr} {ccd : Value} {cl : List (Str × Addr)} {outer : List Env} {A₀ : Around} {base h₀ : Heap} {L : Addr} {m : Str → Option Value} {news : Led} {s : Shared} {Q E : Value → Shared → Prop}
theorem words_lq_1 : True := by
  k_with "compareOp Eq ref ref" => (((with_reducible show wpAny _ _ (compareOp _ _ _) _ _ _); refine stop_intro ?_))
  trivial
theorem str_writ : ∀ q ∈ partsAll, ∀ k ∈ [(0 : Int), 1, 2, 3], PyData.strOk (writ q k) = true := by decide +kernel
/-- return told == [dirs, mods] -/
theorem segT {sc : Scope} {cg ce cw : Addr} {QF : Flow → Shared → Prop} (B : Below A₀ base [] h₀) (F : Fr h₀ L s.heap m) (X : (K w.params).In h₀) (N : News h₀ L s.heap news) (T : Top p loose mean mg mb h₀) (XB : (K w.params).In base) (TB : Top p loose mean mg mb base) (hdp : dp + 100 < recursionLimit) (hun : un + 100 < cLine) (hsc : fScope (topS 28) = sc) {st : Stmt} (hst : stAt (fBody (topS 28)) 14 = st) {tl td tm dl ml : Addr} {mvs : List Value} {ms : List Str} {w1 w2 : Str} {u1 u2 u3 u4 : Tok} {c0 c1 c2 c3 c4 : Nat} (ok : Ok news) (htl : (tl, seqObj "list" [.ref td, .ref tm] c0) ∈ news) (htd : (td, seqObj "list" [.str w1 u1, .str w2 u2] c1) ∈ news) (htm : (tm, seqObj "list" mvs c2) ∈ news) (hdl : (dl, seqObj "list" [.str w1 u3, .str w2 u4] c3) ∈ news) (hml : (ml, seqObj "list" mvs c4) ∈ news) (hmv : Strs mvs ms) (hms : StrOk ms) (hw1 : PyData.strOk w1 = true) (hw2 : PyData.strOk w2 = true)
    (m1 : m (Str.ofString "told") = some (.ref tl)) (m2 : m (Str.ofString "dirs") = some (.ref dl)) (m3 : m (Str.ofString "mods") = some (.ref ml))
    (ret : ∀ h' tk' m' nl, (∀ p ∈ news, p ∈ nl) → Fr h₀ L h' m' → News h₀ L h' nl → QF (.ret (.bool true)) { s with heap := h', toks := tk' }) :
    wpAny (model prog w) (ktrTop dp un gd (Str.ofString "law") sc L a ccd [(Str.ofString "given", cg), (Str.ofString "seeds", ce), (Str.ofString "drawn", cw)] []) (exec st (envX (Str.ofString "law") sc L a ccd [(Str.ofString "given", cg), (Str.ofString "seeds", ce), (Str.ofString "drawn", cw)])) QF (fun _ _ => False) s := by
  (conv at hst => lhs; whnf)
  (conv at hsc => lhs; whnf)
  subst hst
  subst hsc
  have Fk := know (know (know F (y := Str.ofString "told") m1) (y := Str.ofString "dirs") m2) (y := Str.ofString "mods") m3
  clear F
  k_steps
  rename_i l h5 FZ NZ lz
  refine Stop.of ?_
  have ok2 : StrOk [w1, w2] := List.forall_mem_cons.mpr ⟨hw1, List.forall_mem_cons.mpr ⟨hw2, List.forall_mem_nil _⟩⟩
  have okd : ∀ d ∈ [datL [w1, w2], datL ms], kqdOk 8 d = true := List.forall_mem_cons.mpr ⟨ok_list ok2 7, List.forall_mem_cons.mpr ⟨ok_list hms 7, List.forall_mem_nil _⟩⟩
  have d1 : DatAll news [.ref td, .ref tm] [datL [w1, w2], datL ms] := .cons (.list htd (Strs.mk2 _ _ _ _).dat) (.cons (.list htm hmv.dat) .nil)
  have d2 : DatAll news [.ref dl, .ref ml] [datL [w1, w2], datL ms] := .cons (.list hdl (Strs.mk2 _ _ _ _).dat) (.cons (.list hml hmv.dat) .nil)
  refine kqd_eq NZ (.tail _ htl) rfl rfl d1 (fun _ hp => .tail _ hp) (.head _) rfl rfl d2 (fun _ hp => .tail _ hp) okd okd (by k_extra "mine units") ?_
  simp only [decide_true]
  exact ret _ _ _ _ (fun p hp => .tail _ hp) FZ NZ

end
end
section
open PySem PySem.W PyProof.Rows PySem.Calls PySem.Spec
theorem words_LawR : True := by
  k_with_none
  k_with "mine room" => ((try simp only [depth_under_make, depth_under_kw, depth_in1, depth_deeper, depth_caller]); (try dsimp only [ktrTop]); omega)
  k_with "mine all" => (first | (with_reducible assumption) | (with_reducible exact allLt_of (by assumption)) | (refine And.intro ?_ ?_; (first | assumption | ((try dsimp only at *); omega)); k_extra "mine all") | (exact allLt_up (by assumption) (by omega)) | (refine allLt_set ?_; k_extra "mine all") | fail)
  k_with "mine lt" => (first | assumption | (refine lt_allLt ?_; k_extra "mine all") | fail)
  k_with "mine ok" => (first | assumption | (refine Ok.setAt ?_ _ _; k_extra "mine ok") | (refine Ok.cons ?_ ?_; (k_extra "mine ok"); (k_extra "mine lt")) | fail)
  k_with "mine ne" => ((try dsimp only); first | assumption | (refine Ne.symm ?_; assumption) | (refine neN ?_; omega) | (apply ne_z1; (case q9m => assumption); (case q9h => k_extra "mine all")) | (apply ne_z2; (case q9m => assumption); (case q9h => k_extra "mine all")) | fail)
  k_with "mine nes" => (first | assumption | exact List.forall_mem_nil _ | (refine List.forall_mem_cons.mpr ⟨?_, ?_⟩; (k_extra "mine ne"); (k_extra "mine nes")) | (refine nes_set ?_; k_extra "mine nes") | (refine nes_lt ?_; k_extra "mine all") | fail)
  k_with "mine mem" => (first | (with_reducible assumption) | ktr_member | (with_reducible exact List.mem_cons_self) | (with_reducible apply mset_z; k_mem) | (with_reducible apply mset_ne_z; (case q9n => k_extra "mine ne"); (case q9x => k_mem)) | (with_reducible refine List.mem_cons_of_mem _ ?_; k_mem) | fail)
  k_with "mine upd" => (first | (with_reducible refine Upd.head ?_; k_extra "mine nes") | (with_reducible apply upd_tail; (case q9ne => k_extra "mine ne"); (case q9u => k_upd)) | (apply upd_z; (case q9k => k_extra "mine ok"); (case q9m => k_mem)) | fail)
  k_with "mine updF" => (first | (with_reducible refine UpdF.head ?_; k_extra "mine nes") | (with_reducible apply updF_tail; (case q9ne => k_extra "mine ne"); (case q9u => k_updF)) | (apply updF_z; (case q9k => k_extra "mine ok"); (case q9m => k_mem)) | fail)
  k_with "mine sub" => (first | exact (fun p hp => hp) | exact (fun p hp => List.mem_cons_of_mem _ hp) | exact (fun p hp => List.mem_cons_of_mem _ (List.mem_cons_of_mem _ hp)) | exact (fun p hp => List.mem_cons_of_mem _ (List.mem_cons_of_mem _ (List.mem_cons_of_mem _ hp))) | (refine List.forall_mem_cons.mpr ⟨?_, ?_⟩; k_mem; k_extra "mine sub") | (intro p hp; (repeat (first | exact hp | refine List.mem_cons_of_mem _ ?_))) | fail)
  k_with "mine units" => ((try simp only [units_in1, units_deeper]); (try dsimp only [ktrTop]); omega)
  k_with "mine leave" => (with_reducible apply HQ.use_z; (case q9h => with_reducible assumption))
  trivial
section
variable {prog : Program} {w : World} {p : Program} {loose : List Str} {mean : ExcName → Option Value} {mg mb : Str → Option Value} {dp un : Nat} {gd : Option (List Code)} {cn : Str} {cs : Scope} {a : Addr} {ccd : Value} {cl : List (Str × Addr)} {outer : List Env} {A₀ : Around} {base h₀ : Heap} {L : Addr} {m : Str → Option Value} {news : Led} {s : Shared} {Q E : Value → Shared → Prop}
theorem law_parts : fBody (topS 28) = (fBody (topS 28)).take 3 ++ (((fBody (topS 28)).drop 3).take 3 ++ (stAt (fBody (topS 28)) 6 :: stAt (fBody (topS 28)) 7 :: (((fBody (topS 28)).drop 8).take 4 ++ [stAt (fBody (topS 28)) 12, stAt (fBody (topS 28)) 13, stAt (fBody (topS 28)) 14]))) := by with_unfolding_all rfl
theorem way_mem (z : Int) : (z.fdiv 18).fmod 4 ∈ [(0 : Int), 1, 2, 3] := by
  have h1 := fmod4_lo (z.fdiv 18)
  have h2 := fmod4_hi (z.fdiv 18)
  have : (z.fdiv 18).fmod 4 = 0 ∨ (z.fdiv 18).fmod 4 = 1 ∨ (z.fdiv 18).fmod 4 = 2 ∨ (z.fdiv 18).fmod 4 = 3 := by omega
  simpa using this
theorem way_ok (z : Int) : NormOk (wayOf z) ∧ normP (wayOf z) = dirS (placeParts z) ∧ PyData.strOk (wayOf z) = true := by
  refine hideG fun zG zK => ?_
  obtain ⟨a, b, c, d, e, f, g⟩ := norm_writ _ (place_mem z) _ (way_mem z)
  refine zK ?_
  clear zK zG
  exact ⟨⟨a, b, c, d, e, f⟩, g, str_writ _ (place_mem z) _ (way_mem z)⟩
theorem dir_short : ∀ q ∈ partsAll, (dirS q).length ≤ 100 := by decide +kernel
theorem lawS {sc : Scope} {cg ce cw : Addr} {QF : Flow → Shared → Prop} (B : Below A₀ base [] h₀) (F : Fr h₀ L s.heap m) (X : (K w.params).In h₀) (N : News h₀ L s.heap news) (T : Top p loose mean mg mb h₀) (XB : (K w.params).In base) (TB : Top p loose mean mg mb base) (hdp : dp + 100 < recursionLimit) (hun : un + 100 < cLine) (hsc : fScope (topS 28) = sc) (hfree : Free p loose (Str.ofString "StopIteration")) {sl : Addr} {items : Array Value} {ns : List Int} (hsl : h₀.IsList sl items) (hints : IntsAre items.toList ns) (hnl : ns.length ≤ 63) (hm1 : m (Str.ofString "script") = some (.ref sl))
    {og oe ow : Obj} (hnews : news = [(cg, og), (ce, oe), (cw, ow)]) (d1 : og.data = .cell none) (d2 : oe.data = .cell none) (d3 : ow.data = .cell none) (n1 : cw ≠ ce) (n2 : cw ≠ cg) (n3 : ce ≠ cg)
    (ret : ∀ h' tk' dr m' nl, Fr h₀ L h' m' → News h₀ L h' nl → QF (.ret (.bool true)) { s with heap := h', toks := tk', drawn := dr }) :
    wpAny (model prog w) (ktrTop dp un gd (Str.ofString "law") sc L a ccd [(Str.ofString "given", cg), (Str.ofString "seeds", ce), (Str.ofString "drawn", cw)] []) (execs (fBody (topS 28)) (envX (Str.ofString "law") sc L a ccd [(Str.ofString "given", cg), (Str.ofString "seeds", ce), (Str.ofString "drawn", cw)])) QF (fun _ _ => False) s := by
  rw [law_parts]
  generalize hl1 : (fBody (topS 28)).take 3 = l1
  generalize hl2 : ((fBody (topS 28)).drop 3).take 3 = l2
  generalize hl3 : ((fBody (topS 28)).drop 8).take 4 = l3
  generalize hl6 : stAt (fBody (topS 28)) 6 = l6
  generalize hl7 : stAt (fBody (topS 28)) 7 = l7
  generalize hl14 : stAt (fBody (topS 28)) 14 = l14
  refine execs_two ?_
  refine segA B F X N T XB TB hdp hun hsc hl1 hsl hints hnl hm1 hnews d1 d2 d3 n1 n2 n3 fun nl vs zs hA tkA mA hzl hz a1 ane FA NA => ?_
  dsimp only
  clear N F hm1 hnews
  refine hideG fun zG zK => ?_
  obtain ⟨z0, t0, vs, zs, rfl, rfl, hz, hzl⟩ := ints_cons (v := .none) hz hzl
  obtain ⟨z1, t1, vs, zs, rfl, rfl, hz, hzl⟩ := ints_cons (v := .none) hz hzl
  obtain ⟨z2, t2, vs, zs, rfl, rfl, hz, hzl⟩ := ints_cons (v := .none) hz hzl
  obtain ⟨z3, t3, vs, zs, rfl, rfl, hz, hzl⟩ := ints_cons (v := .none) hz hzl
  obtain ⟨z4, t4, vs, zs, rfl, rfl, hz, hzl⟩ := ints_cons (v := .none) hz hzl
  obtain ⟨z5, t5, vs, zs, rfl, rfl, hz, hzl⟩ := ints_cons (v := .none) hz hzl
  obtain ⟨z6, t6, vs, zs, rfl, rfl, hz, hzl⟩ := ints_cons (v := .none) hz hzl
  obtain ⟨z7, t7, vs, zs, rfl, rfl, hz, hzl⟩ := ints_cons (v := .none) hz hzl
  obtain ⟨z8, t8, vs, zs, rfl, rfl, hz, hzl⟩ := ints_cons (v := .none) hz hzl
  obtain rfl : zs = [] := List.eq_nil_of_length_eq_zero hzl
  obtain rfl : vs = [] := List.eq_nil_of_length_eq_zero hz.1
  refine zK ?_
  clear zK zG
  refine execs_two ?_
  refine segB B FA X NA T XB TB hdp hun hsc hl2 a1 ane rfl fun fl fvs fn fs r1 hB tkB mB hfs hfl hgood sub1 ok1 b1 b2 FB NB => ?_
  dsimp only
  have sub1' : ∀ p ∈ r1, p ∈ (fl, seqObj "list" fvs fn) :: r1 := fun p hp => .tail _ hp
  refine wpAny_execs_cons ?_
  refine segC1 B FB X NB T XB TB hdp hun hsc hl6 b1 ok1 (sub1' _ (sub1 _ (.head _))) fun pl qvs r2 hC tkC mC hqv sub2 ok2 c0 c1 FC NC => ?_
  dsimp only
  have sub2' : ∀ p ∈ r2, p ∈ (pl, LCg.lst qvs) :: r2 := fun p hp => .tail _ hp
  refine wpAny_execs_cons ?_
  refine segC2 B FC X NC T XB TB hdp hun hsc hl7 ((c0 _ (by decide +kernel)).trans b1) ok2 (sub2' _ (sub2 _ (sub1' _ (sub1 _ (.head _))))) fun dl dvs r3 hD tkD mD hdv sub3 ok3 e0 e1 FD ND => ?_
  dsimp only
  refine hideG fun zG zK => ?_
  obtain ⟨u1, u2, rfl⟩ := hdv.two
  refine zK ?_
  clear zK zG
  have sub3' : ∀ p ∈ r3, p ∈ (dl, LCg.lst [Value.str (wayOf z6) u1, Value.str (wayOf z7) u2]) :: r3 := fun p hp => .tail _ hp
  refine execs_two ?_
  refine segC3 B FD X ND T XB TB hdp hun hsc hl3 ((e0 _ (by decide +kernel)).trans ((c0 _ (by decide +kernel)).trans b1)) e1 ok3 (sub3' _ (sub3 _ (sub2' _ (sub2 _ (sub1' _ (sub1 _ (.head _))))))) (.head _)
    fun ml mvs nm ms tl td tm c3 c4 al ol r4 hE tkE mE hms hmv hml htl htd htm sub4 ok4 f0 f1 f2 f3 f4 FE NE => ?_
  dsimp only
  have mf : mE (Str.ofString "files") = some (.ref fl) := (f0 _ (by decide +kernel) (by decide +kernel) (by decide +kernel) (by decide +kernel)).trans ((e0 _ (by decide +kernel)).trans ((c0 _ (by decide +kernel)).trans b2))
  have mp : mE (Str.ofString "places") = some (.ref pl) := (f0 _ (by decide +kernel) (by decide +kernel) (by decide +kernel) (by decide +kernel)).trans ((e0 _ (by decide +kernel)).trans c1)
  have md : mE (Str.ofString "dirs") = some (.ref dl) := (f0 _ (by decide +kernel) (by decide +kernel) (by decide +kernel) (by decide +kernel)).trans e1
  have s34 : ∀ p ∈ r3, p ∈ r4 := fun p hp => sub4 p (sub3' p hp)
  have s24 : ∀ p ∈ r2, p ∈ r4 := fun p hp => s34 p (sub3 p (sub2' p hp))
  have s14 : ∀ p ∈ r1, p ∈ r4 := fun p hp => s24 p (sub2 p (sub1' p hp))
  have kfl : (fl, seqObj "list" fvs fn) ∈ r4 := s24 _ (sub2 _ (.head _))
  have kpl : (pl, LCg.lst qvs) ∈ r4 := s34 _ (sub3 _ (.head _))
  have kdl : (dl, LCg.lst [Value.str (wayOf z6) u1, Value.str (wayOf z7) u2]) ∈ r4 := sub4 _ (.head _)
  have kcg : (cg, og) ∈ r4 := s14 _ (sub1 _ (.tail _ (.head _)))
  refine hideG fun zG zK => ?_
  obtain ⟨w6, v6, q6⟩ := way_ok z6
  obtain ⟨w7, v7, q7⟩ := way_ok z7
  refine zK ?_
  clear zK zG
  have ln6 : (normP (wayOf z6)).length ≤ 100 := by rw [v6]; exact dir_short _ (place_mem z6)
  have ln7 : (normP (wayOf z7)).length ≤ 100 := by rw [v7]; exact dir_short _ (place_mem z7)
  have hqs : ∀ q ∈ [placeParts z6, placeParts z7], q ∈ partsAll := List.forall_mem_cons.mpr ⟨place_mem z6, List.forall_mem_cons.mpr ⟨place_mem z7, List.forall_mem_nil _⟩⟩
  have hign : ∀ f ∈ fs, outOf f [placeParts z6, placeParts z7] ms = ignV ms [normP (wayOf z6), normP (wayOf z7)] f.path f.name := fun f hf => by
    rw [v6, v7]
    exact ign_is (hgood f hf) (place_mem z6) (place_mem z7) hms
  refine wpAny_execs_cons ?_
  refine segF B FE X NE T XB TB hdp hun hsc rfl ok4 kfl (hfs.sub fun v x h => h.sub s14) hgood (by omega) kpl (hqv.sub fun v x h => h.sub s24) hqs hml hmv hms kdl w6 w7 ln6 ln7 hign mf mp f4 md f2 f1
    fun hF tkF drF mF ovs on avs an rs subF okF hov hav g1 g2 g3 g4 g5 g6 g7 FF NF => ?_
  dsimp only
  have kk : ∀ p ∈ r4, p ∈ (ol, seqObj "list" ovs on) :: (al, seqObj "list" avs an) :: rs := fun p hp => .tail _ (.tail _ (subF p hp))
  refine wpAny_execs_cons ?_
  refine segR B FF X NF T XB TB hdp hun hsc hfree okF (kk _ kfl) (hfs.sub fun v x h => h.sub fun p hp => kk p (s14 p hp)) hgood (by omega) (kk _ kpl) (hqv.sub fun v x h => h.sub fun p hp => kk p (s24 p hp)) hqs rfl (kk _ hml) hmv hms (kk _ kdl) w6 w7 ln6 ln7 hign
    (.tail _ (.head _)) (hav.sub fun v x h => h.sub fun p hp => .tail _ (.tail _ hp)) (.head _) hov (kk _ kcg) d1 g6 g1 g2 g3 g4 g5 fun hG tkG drG mG nl9 sub9 ok9 i1 i2 i3 FG NG => ?_
  dsimp only
  have ss : SeqSub r4 nl9 := fun x t vs n hx => sub9 _ (kk _ hx) (okF.ne (kk _ hx) (kk _ kcg) fun e => by
    rw [← e] at d1
    cases d1)
  have hstr : StrOk ms := fun x hx => strok_mods ms hms x hx
  refine wpAny_execs_cons ?_
  refine segT B FG X NG T XB TB hdp hun hsc hl14 ok9 (ss _ _ _ _ htl) (ss _ _ _ _ htd) (ss _ _ _ _ htm) (ss _ _ _ _ kdl) (ss _ _ _ _ hml) hmv hstr q6 q7 (i1.trans (g7.trans f3)) i2 i3 fun hH tkH mH nlH _ FH NH => ?_
  exact ret hH tkH drG mH nlH FH NH

end
end
section
open PySem PySem.W PySem.W.X PySem.W.ZRun PyProof.Rows PySem.Calls PySem.Spec
local macro_rules | `(tactic| k_qdec) => `(tactic| decide +kernel)
theorem main0 : PySem.Challenge.rw_oh0056_01.Holds := by
  w_on
  refine holds_law said fun said => ?_
  refine holds_open (q := q56) (loose := [Str.ofString "_NodeInfo"]) (Xt := fun s => xlAt q56 [] s && recOk (RowW.records rr) s) (XP := XL q56 []) (Yf := hook.obs) (Ya := hook.val) (YP := hook.says) (N := 3840) left hook.of hook.keeps (fun s e => xl_of s (Bool.and_eq_true_iff.mp e).1) XL.keeps (by rfl) (by rfl) (by rfl) (fun s e => recFacts_of (Bool.and_eq_true_iff.mp e).2) (by rfl) (by first | assumption | decide +kernel) (by decide +kernel) ⟨rfl, rfl, rfl, rfl, rfl, by decide +kernel⟩ ?hw ?hc
  case hw => w_witness2
  case hc =>
    k_fill
    intro w s₀ s₁ mg mb G Y fa o pm cd doc dV kV ho hd hcd hD hmg hg args vals as hpre hlay hrd hwl hlo
    have KX : (K w.params).In s₁.heap := Y
    k_behind G ho hd hcd hD hmg hpre hlay hrd hwl hlo cd
    rename_i h1 tk1 F1 o3 o2 o1 d3 d2 d1 N1 X1
    rename (Top _ _ _ _ _ _) => T1
    rename (Below _ _ _ _) => B1
    rename (IntsAre _ _) => I1
    rename (Heap.IsList _ _ _) => L1
    rename (¬ _ < _) => hlen
    refine noE ?_
    refine lawS (h₀ := s₁.heap) (m := _) (base := s₁.heap) (A₀ := callerA) (below_caller _) F1 KX N1 T1 KX T1 ?zdp ?zun rfl ?zfree L1 I1 ?znl ?zm1 rfl ?ze1 ?ze2 ?ze3 ?zn1 ?zn2 ?zn3 ?zret

    case zdp => first | decide | (simp only [depth_deeper, depth_caller, recursionLimit]; omega)
    case zun => first | decide | (simp only [units_deeper]; decide)
    case zfree => exact ⟨by decide +kernel, by decide +kernel, by decide +kernel, by decide +kernel⟩
    case znl => omega
    case zm1 => with_unfolding_all rfl
    case ze1 => exact d3
    case ze2 => exact d2
    case ze3 => exact d1
    case zn1 => exact Nat.ne_of_lt (Nat.lt_succ_self _)
    case zn2 => exact Nat.ne_of_lt (Nat.lt_succ_of_lt (Nat.lt_succ_self _))
    case zn3 => exact Nat.ne_of_lt (Nat.lt_succ_self _)
    case zret =>
      intro h' tk' dr m' nl FZ NZ
      dsimp only
      k_end
      wrow_close
end
end
end Mine
theorem PySem.Challenge.cw_oh0056_01_holds : PySem.Challenge.rw_oh0056_01.Holds := by
  exact Mine.main0
