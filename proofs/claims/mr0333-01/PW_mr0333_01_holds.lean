import PyProof.Rows.All
import Wide.All
import OpenK.AllK
import Wide.FinOn
import PySem.Challenge.RW_mr0333_01
set_option Elab.async false
set_option maxRecDepth 100000
set_option maxHeartbeats 8000000
set_option pp.maxSteps 5000
set_option rowWalk.seconds 0
-- HeadA
namespace Mine
open PySem PySem.W PyProof.Rows
abbrev hdRow : OpenLaw := PySem.Challenge.rw_mr0333_01
noncomputable def hdSt (i : Nat) : Stmt := (PySem.Challenge.pw_mr0333_01.main.body[i]?).getD (.Pass default)
noncomputable def hdIn : Stmt → Nat → Stmt
  | .ClassDef _ _ _ body _ _ _ _ _ _ _, j => (body[j]?).getD (.Pass default)
  | s, _ => s
noncomputable def hdP : Stmt → Arguments
  | .FunctionDef _ a _ _ _ _ _ _ _ _ => a
  | _ => default
noncomputable def hdB : Stmt → List Stmt
  | .FunctionDef _ _ b _ _ _ _ _ _ _ => b
  | _ => []
noncomputable def hdS : Stmt → Scope
  | .FunctionDef _ _ _ _ _ _ s _ _ _ => s
  | _ => default
noncomputable def hd.heap_39 : PySem.Params → PySem.W.Frag := by
  refine' (?f : (p21 : PySem.Arguments) → p21 = hdP (hdSt 0) → (b21 : List PySem.Stmt) → b21 = hdB (hdSt 0) → (s21 : PySem.Scope) → s21 = hdS (hdSt 0) → (p30 : PySem.Arguments) → p30 = hdP (hdSt 2) → (b30 : List PySem.Stmt) → b30 = hdB (hdSt 2) → (s30 : PySem.Scope) → s30 = hdS (hdSt 2) → (p39 : PySem.Arguments) → p39 = hdP (hdSt 3) → (b39 : List PySem.Stmt) → b39 = hdB (hdSt 3) → (s39 : PySem.Scope) → s39 = hdS (hdSt 3) → (p48 : PySem.Arguments) → p48 = hdP (hdSt 4) → (b48 : List PySem.Stmt) → b48 = hdB (hdSt 4) → (s48 : PySem.Scope) → s48 = hdS (hdSt 4) → (p63 : PySem.Arguments) → p63 = hdP (hdIn (hdSt 8) 1) → (b63 : List PySem.Stmt) → b63 = hdB (hdIn (hdSt 8) 1) → (s63 : PySem.Scope) → s63 = hdS (hdIn (hdSt 8) 1) → (p100 : PySem.Arguments) → p100 = hdP (hdIn (hdSt 10) 0) → (b100 : List PySem.Stmt) → b100 = hdB (hdIn (hdSt 10) 0) → (s100 : PySem.Scope) → s100 = hdS (hdIn (hdSt 10) 0) → (p107 : PySem.Arguments) → p107 = hdP (hdIn (hdSt 10) 1) → (b107 : List PySem.Stmt) → b107 = hdB (hdIn (hdSt 10) 1) → (s107 : PySem.Scope) → s107 = hdS (hdIn (hdSt 10) 1) → (p114 : PySem.Arguments) → p114 = hdP (hdIn (hdSt 10) 2) → (b114 : List PySem.Stmt) → b114 = hdB (hdIn (hdSt 10) 2) → (s114 : PySem.Scope) → s114 = hdS (hdIn (hdSt 10) 2) → (p119 : PySem.Arguments) → p119 = hdP (hdIn (hdSt 10) 3) → (b119 : List PySem.Stmt) → b119 = hdB (hdIn (hdSt 10) 3) → (s119 : PySem.Scope) → s119 = hdS (hdIn (hdSt 10) 3) → (p126 : PySem.Arguments) → p126 = hdP (hdIn (hdSt 10) 4) → (b126 : List PySem.Stmt) → b126 = hdB (hdIn (hdSt 10) 4) → (s126 : PySem.Scope) → s126 = hdS (hdIn (hdSt 10) 4) → (p133 : PySem.Arguments) → p133 = hdP (hdIn (hdSt 10) 5) → (b133 : List PySem.Stmt) → b133 = hdB (hdIn (hdSt 10) 5) → (s133 : PySem.Scope) → s133 = hdS (hdIn (hdSt 10) 5) → (p140 : PySem.Arguments) → p140 = hdP (hdIn (hdSt 10) 6) → (b140 : List PySem.Stmt) → b140 = hdB (hdIn (hdSt 10) 6) → (s140 : PySem.Scope) → s140 = hdS (hdIn (hdSt 10) 6) → (p147 : PySem.Arguments) → p147 = hdP (hdIn (hdSt 10) 7) → (b147 : List PySem.Stmt) → b147 = hdB (hdIn (hdSt 10) 7) → (s147 : PySem.Scope) → s147 = hdS (hdIn (hdSt 10) 7) → (p154 : PySem.Arguments) → p154 = hdP (hdIn (hdSt 10) 8) → (b154 : List PySem.Stmt) → b154 = hdB (hdIn (hdSt 10) 8) → (s154 : PySem.Scope) → s154 = hdS (hdIn (hdSt 10) 8) → (p161 : PySem.Arguments) → p161 = hdP (hdIn (hdSt 10) 9) → (b161 : List PySem.Stmt) → b161 = hdB (hdIn (hdSt 10) 9) → (s161 : PySem.Scope) → s161 = hdS (hdIn (hdSt 10) 9) → (p175 : PySem.Arguments) → p175 = hdP (hdSt 12) → (b175 : List PySem.Stmt) → b175 = hdB (hdSt 12) → (s175 : PySem.Scope) → s175 = hdS (hdSt 12) → (p182 : PySem.Arguments) → p182 = hdP (hdSt 13) → (b182 : List PySem.Stmt) → b182 = hdB (hdSt 13) → (s182 : PySem.Scope) → s182 = hdS (hdSt 13) → (p187 : PySem.Arguments) → p187 = hdP (hdSt 14) → (b187 : List PySem.Stmt) → b187 = hdB (hdSt 14) → (s187 : PySem.Scope) → s187 = hdS (hdSt 14) → (p192 : PySem.Arguments) → p192 = hdP (hdSt 15) → (b192 : List PySem.Stmt) → b192 = hdB (hdSt 15) → (s192 : PySem.Scope) → s192 = hdS (hdSt 15) → (p199 : PySem.Arguments) → p199 = hdP (hdSt 16) → (b199 : List PySem.Stmt) → b199 = hdB (hdSt 16) → (s199 : PySem.Scope) → s199 = hdS (hdSt 16) → (p206 : PySem.Arguments) → p206 = hdP (hdSt 17) → (b206 : List PySem.Stmt) → b206 = hdB (hdSt 17) → (s206 : PySem.Scope) → s206 = hdS (hdSt 17) → PySem.Params → PySem.W.Frag) ?xp21 ?hp21 ?xb21 ?hb21 ?xs21 ?hs21 ?xp30 ?hp30 ?xb30 ?hb30 ?xs30 ?hs30 ?xp39 ?hp39 ?xb39 ?hb39 ?xs39 ?hs39 ?xp48 ?hp48 ?xb48 ?hb48 ?xs48 ?hs48 ?xp63 ?hp63 ?xb63 ?hb63 ?xs63 ?hs63 ?xp100 ?hp100 ?xb100 ?hb100 ?xs100 ?hs100 ?xp107 ?hp107 ?xb107 ?hb107 ?xs107 ?hs107 ?xp114 ?hp114 ?xb114 ?hb114 ?xs114 ?hs114 ?xp119 ?hp119 ?xb119 ?hb119 ?xs119 ?hs119 ?xp126 ?hp126 ?xb126 ?hb126 ?xs126 ?hs126 ?xp133 ?hp133 ?xb133 ?hb133 ?xs133 ?hs133 ?xp140 ?hp140 ?xb140 ?hb140 ?xs140 ?hs140 ?xp147 ?hp147 ?xb147 ?hb147 ?xs147 ?hs147 ?xp154 ?hp154 ?xb154 ?hb154 ?xs154 ?hs154 ?xp161 ?hp161 ?xb161 ?hb161 ?xs161 ?hs161 ?xp175 ?hp175 ?xb175 ?hb175 ?xs175 ?hs175 ?xp182 ?hp182 ?xb182 ?hb182 ?xs182 ?hs182 ?xp187 ?hp187 ?xb187 ?hb187 ?xs187 ?hs187 ?xp192 ?hp192 ?xb192 ?hb192 ?xs192 ?hs192 ?xp199 ?hp199 ?xb199 ?hb199 ?xs199 ?hs199 ?xp206 ?hp206 ?xb206 ?hb206 ?xs206 ?hs206
  case f => exact fun p21 _ b21 _ s21 _ p30 _ b30 _ s30 _ p39 _ b39 _ s39 _ p48 _ b48 _ s48 _ p63 _ b63 _ s63 _ p100 _ b100 _ s100 _ p107 _ b107 _ s107 _ p114 _ b114 _ s114 _ p119 _ b119 _ s119 _ p126 _ b126 _ s126 _ p133 _ b133 _ s133 _ p140 _ b140 _ s140 _ p147 _ b147 _ s147 _ p154 _ b154 _ s154 _ p161 _ b161 _ s161 _ p175 _ b175 _ s175 _ p182 _ b182 _ s182 _ p187 _ b187 _ s187 _ p192 _ b192 _ s192 _ p199 _ b199 _ s199 _ p206 _ b206 _ s206 _ P => (
@Prod.mk Nat PySem.Obj (nat_lit 2) (
    { cls := Value.none, data := Data.dict #[] } : PySem.Obj) ::
    @Prod.mk Nat PySem.Obj (nat_lit 3) (
    { cls := Value.type "dict",
      data :=
        Data.dict
          #[{ hash := PyData.keyHash P (Str.ofString "__name__"), key := Value.str (Str.ofString "__name__") 165, val := Value.str (Str.ofString "law_mr0333_01") 419 },
            { hash := PyData.keyHash P (Str.ofString "__doc__"), key := Value.str (Str.ofString "__doc__") 166, val := Value.none },
            { hash := PyData.keyHash P (Str.ofString "__package__"), key := Value.str (Str.ofString "__package__") 167, val := Value.none },
            { hash := PyData.keyHash P (Str.ofString "__loader__"), key := Value.str (Str.ofString "__loader__") 168, val := Value.builtin "__main__.__loader__#opaque" },
            { hash := PyData.keyHash P (Str.ofString "__spec__"), key := Value.str (Str.ofString "__spec__") 169, val := Value.none },
            { hash := PyData.keyHash P (Str.ofString "__annotations__"), key := Value.str (Str.ofString "__annotations__") 170, val := Value.ref 6 },
            { hash := PyData.keyHash P (Str.ofString "__builtins__"), key := Value.str (Str.ofString "__builtins__") 171, val := Value.ref 4 },
            { hash := PyData.keyHash P (Str.ofString "__file__"), key := Value.str (Str.ofString "__file__") 173, val := Value.str (Str.ofString "/claim/cut.py") 172 },
            { hash := PyData.keyHash P (Str.ofString "__cached__"), key := Value.str (Str.ofString "__cached__") 174, val := Value.none },
            { hash := PyData.keyHash P (Str.ofString "_wall"), key := Value.str (Str.ofString "_wall") 193, val := Value.ref 21 },
            { hash := PyData.keyHash P (Str.ofString "bisect_right"), key := Value.str (Str.ofString "bisect_right") 209, val := Value.ref 30 },
            { hash := PyData.keyHash P (Str.ofString "insort_left"), key := Value.str (Str.ofString "insort_left") 222, val := Value.ref 39 },
            { hash := PyData.keyHash P (Str.ofString "bisect_left"), key := Value.str (Str.ofString "bisect_left") 236, val := Value.ref 48 },
            { hash := PyData.keyHash P (Str.ofString "_NODE_OUT"), key := Value.str (Str.ofString "_NODE_OUT") 241, val := Value.int (-1) 240 },
            { hash := PyData.keyHash P (Str.ofString "_NODE_DONE"), key := Value.str (Str.ofString "_NODE_DONE") 244, val := Value.int (-2) 243 },
            { hash := PyData.keyHash P (Str.ofString "_NodeInfo"), key := Value.str (Str.ofString "_NodeInfo") 281, val := Value.ref 67 },
            { hash := PyData.keyHash P (Str.ofString "CycleError"), key := Value.str (Str.ofString "CycleError") 299, val := Value.ref 82 },
            { hash := PyData.keyHash P (Str.ofString "TopologicalSorter"), key := Value.str (Str.ofString "TopologicalSorter") 418, val := Value.ref 164 },
            { hash := PyData.keyHash P (Str.ofString "_law_comes"), key := Value.str (Str.ofString "_law_comes") 431, val := Value.ref 175 },
            { hash := PyData.keyHash P (Str.ofString "_law_deeds"), key := Value.str (Str.ofString "_law_deeds") 447, val := Value.ref 182 },
            { hash := PyData.keyHash P (Str.ofString "_law_chains"), key := Value.str (Str.ofString "_law_chains") 453, val := Value.ref 187 },
            { hash := PyData.keyHash P (Str.ofString "_law_given"), key := Value.str (Str.ofString "_law_given") 459, val := Value.ref 192 },
            { hash := PyData.keyHash P (Str.ofString "_law_back"), key := Value.str (Str.ofString "_law_back") 471, val := Value.ref 199 },
            { hash := PyData.keyHash P (Str.ofString "law"), key := Value.str (Str.ofString "law") 481, val := Value.ref 206 }]
          24 } : PySem.Obj) ::
    @Prod.mk Nat PySem.Obj (nat_lit 15) (
    { cls := Value.type "tuple", data := Data.seq #[] } : PySem.Obj) ::
    @Prod.mk Nat PySem.Obj (nat_lit 17) (
    { cls := Value.type "tuple", data := Data.seq #[Value.str (Str.ofString "k") 190] } : PySem.Obj) ::
    @Prod.mk Nat PySem.Obj (nat_lit 18) (
    { cls := Value.type "tuple", data := Data.seq #[] } : PySem.Obj) ::
    @Prod.mk Nat PySem.Obj (nat_lit 20) (
    { cls := Value.type "code",
      data :=
        Data.fields
          #[Value.str (Str.ofString "_wall") 187, Value.str (Str.ofString "_wall") 188, Value.str (Str.ofString "/claim/cut.py") 189, Value.int 1 0, Value.int 1 0, Value.int 0 0, Value.int 0 0, Value.int 3 0, Value.ref 15, Value.bool true,
            Value.int 181 0, Value.ref 16, Value.none, Value.ref 17, Value.ref 18, Value.ref 19, Value.int 191 0, Value.int 1 0, Value.str (Str.ofString "/claim/cut.py") 192] } : PySem.Obj) ::
    @Prod.mk Nat PySem.Obj (nat_lit 21) (
    { cls := Value.type "function",
      data :=
        Data.func
          { name := Str.ofString "_wall", qualname := Str.ofString "_wall", params := p21, body := FuncBody.stmts b21, scope := s21, globals := 3, closure := [], defaults := Value.none, kwdefaults := Value.none,
            pyModule := Value.str (Str.ofString "__main__") 164, code := Value.ref 20 } } : PySem.Obj) ::
    @Prod.mk Nat PySem.Obj (nat_lit 22) (
    { cls := Value.type "tuple", data := Data.seq #[Value.int 0 196, Value.none] } : PySem.Obj) ::
    @Prod.mk Nat PySem.Obj (nat_lit 23) (
    { cls := Value.type "dict", data := Data.dict #[{ hash := PyData.keyHash P (Str.ofString "key"), key := Value.str (Str.ofString "key") 197, val := Value.none }] 1 } : PySem.Obj) ::
    @Prod.mk Nat PySem.Obj (nat_lit 24) (
    { cls := Value.type "tuple", data := Data.seq #[] } : PySem.Obj) ::
    @Prod.mk Nat PySem.Obj (nat_lit 26) (
    { cls := Value.type "tuple",
      data := Data.seq #[Value.str (Str.ofString "a") 201, Value.str (Str.ofString "x") 202, Value.str (Str.ofString "lo") 203, Value.str (Str.ofString "hi") 204, Value.str (Str.ofString "key") 205, Value.str (Str.ofString "mid") 206] } : PySem.Obj) ::
    @Prod.mk Nat PySem.Obj (nat_lit 27) (
    { cls := Value.type "tuple", data := Data.seq #[] } : PySem.Obj) ::
    @Prod.mk Nat PySem.Obj (nat_lit 29) (
    { cls := Value.type "code",
      data :=
        Data.fields
          #[Value.str (Str.ofString "bisect_right") 198, Value.str (Str.ofString "bisect_right") 199, Value.str (Str.ofString "/claim/cut.py") 200, Value.int 5 0, Value.int 4 0, Value.int 0 0, Value.int 1 0, Value.int 3 0, Value.ref 24,
            Value.bool true, Value.int 181 0, Value.ref 25, Value.none, Value.ref 26, Value.ref 27, Value.ref 28, Value.int 207 0, Value.int 5 0, Value.str (Str.ofString "/claim/cut.py") 208] } : PySem.Obj) ::
    @Prod.mk Nat PySem.Obj (nat_lit 30) (
    { cls := Value.type "function",
      data :=
        Data.func
          { name := Str.ofString "bisect_right", qualname := Str.ofString "bisect_right", params := p30, body := FuncBody.stmts b30, scope := s30, globals := 3, closure := [], defaults := Value.ref 22, kwdefaults := Value.ref 23,
            pyModule := Value.str (Str.ofString "cpy313.bisect") 194, code := Value.ref 29 } } : PySem.Obj) ::
    @Prod.mk Nat PySem.Obj (nat_lit 31) (
    { cls := Value.type "tuple", data := Data.seq #[Value.int 0 210, Value.none] } : PySem.Obj) ::
    @Prod.mk Nat PySem.Obj (nat_lit 32) (
    { cls := Value.type "dict", data := Data.dict #[{ hash := PyData.keyHash P (Str.ofString "key"), key := Value.str (Str.ofString "key") 211, val := Value.none }] 1 } : PySem.Obj) ::
    @Prod.mk Nat PySem.Obj (nat_lit 33) (
    { cls := Value.type "tuple", data := Data.seq #[] } : PySem.Obj) ::
    @Prod.mk Nat PySem.Obj (nat_lit 35) (
    { cls := Value.type "tuple", data := Data.seq #[Value.str (Str.ofString "a") 215, Value.str (Str.ofString "x") 216, Value.str (Str.ofString "lo") 217, Value.str (Str.ofString "hi") 218, Value.str (Str.ofString "key") 219] } : PySem.Obj) ::
    @Prod.mk Nat PySem.Obj (nat_lit 36) (
    { cls := Value.type "tuple", data := Data.seq #[] } : PySem.Obj) ::
    @Prod.mk Nat PySem.Obj (nat_lit 38) (
    { cls := Value.type "code",
      data :=
        Data.fields
          #[Value.str (Str.ofString "insort_left") 212, Value.str (Str.ofString "insort_left") 213, Value.str (Str.ofString "/claim/cut.py") 214, Value.int 25 0, Value.int 4 0, Value.int 0 0, Value.int 1 0, Value.int 3 0, Value.ref 33,
            Value.bool true, Value.int 181 0, Value.ref 34, Value.none, Value.ref 35, Value.ref 36, Value.ref 37, Value.int 220 0, Value.int 25 0, Value.str (Str.ofString "/claim/cut.py") 221] } : PySem.Obj) ::
    @Prod.mk Nat PySem.Obj (nat_lit 39) (
    { cls := Value.type "function",
      data :=
        Data.func
          { name := Str.ofString "insort_left", qualname := Str.ofString "insort_left", params := p39, body := FuncBody.stmts b39, scope := s39, globals := 3, closure := [], defaults := Value.ref 31, kwdefaults := Value.ref 32,
            pyModule := Value.str (Str.ofString "cpy313.bisect") 194, code := Value.ref 38 } } : PySem.Obj) ::
    @Prod.mk Nat PySem.Obj (nat_lit 40) (
    { cls := Value.type "tuple", data := Data.seq #[Value.int 0 223, Value.none] } : PySem.Obj) ::
    @Prod.mk Nat PySem.Obj (nat_lit 41) (
    { cls := Value.type "dict", data := Data.dict #[{ hash := PyData.keyHash P (Str.ofString "key"), key := Value.str (Str.ofString "key") 224, val := Value.none }] 1 } : PySem.Obj) ::
    @Prod.mk Nat PySem.Obj (nat_lit 42) (
    { cls := Value.type "tuple", data := Data.seq #[] } : PySem.Obj) ::
    @Prod.mk Nat PySem.Obj (nat_lit 44) (
    { cls := Value.type "tuple",
      data := Data.seq #[Value.str (Str.ofString "a") 228, Value.str (Str.ofString "x") 229, Value.str (Str.ofString "lo") 230, Value.str (Str.ofString "hi") 231, Value.str (Str.ofString "key") 232, Value.str (Str.ofString "mid") 233] } : PySem.Obj) ::
    @Prod.mk Nat PySem.Obj (nat_lit 45) (
    { cls := Value.type "tuple", data := Data.seq #[] } : PySem.Obj) ::
    @Prod.mk Nat PySem.Obj (nat_lit 47) (
    { cls := Value.type "code",
      data :=
        Data.fields
          #[Value.str (Str.ofString "bisect_left") 225, Value.str (Str.ofString "bisect_left") 226, Value.str (Str.ofString "/claim/cut.py") 227, Value.int 31 0, Value.int 4 0, Value.int 0 0, Value.int 1 0, Value.int 3 0, Value.ref 42,
            Value.bool true, Value.int 181 0, Value.ref 43, Value.none, Value.ref 44, Value.ref 45, Value.ref 46, Value.int 234 0, Value.int 31 0, Value.str (Str.ofString "/claim/cut.py") 235] } : PySem.Obj) ::
    @Prod.mk Nat PySem.Obj (nat_lit 48) (
    { cls := Value.type "function",
      data :=
        Data.func
          { name := Str.ofString "bisect_left", qualname := Str.ofString "bisect_left", params := p48, body := FuncBody.stmts b48, scope := s48, globals := 3, closure := [], defaults := Value.ref 40, kwdefaults := Value.ref 41,
            pyModule := Value.str (Str.ofString "cpy313.bisect") 194, code := Value.ref 47 } } : PySem.Obj) ::
    @Prod.mk Nat PySem.Obj (nat_lit 56) (
    { cls := Value.type "tuple", data := Data.seq #[Value.str (Str.ofString "node") 257, Value.str (Str.ofString "npredecessors") 258, Value.str (Str.ofString "successors") 259] } : PySem.Obj) ::
    @Prod.mk Nat PySem.Obj (nat_lit 57) (
    { cls := Value.type "tuple", data := Data.seq #[] } : PySem.Obj) ::
    @Prod.mk Nat PySem.Obj (nat_lit 59) (
    { cls := Value.type "tuple", data := Data.seq #[Value.str (Str.ofString "self") 264, Value.str (Str.ofString "node") 265] } : PySem.Obj) ::
    @Prod.mk Nat PySem.Obj (nat_lit 60) (
    { cls := Value.type "tuple", data := Data.seq #[] } : PySem.Obj) ::
    @Prod.mk Nat PySem.Obj (nat_lit 62) (
    { cls := Value.type "code",
      data :=
        Data.fields
          #[Value.str (Str.ofString "__init__") 261, Value.str (Str.ofString "_NodeInfo.__init__") 262, Value.str (Str.ofString "/claim/cut.py") 263, Value.int 57 0, Value.int 2 0, Value.int 0 0, Value.int 0 0, Value.int 3 0, Value.ref 57,
            Value.bool true, Value.int 181 0, Value.ref 58, Value.none, Value.ref 59, Value.ref 60, Value.ref 61, Value.int 266 0, Value.int 57 0, Value.str (Str.ofString "/claim/cut.py") 267] } : PySem.Obj) ::
    @Prod.mk Nat PySem.Obj (nat_lit 63) (
    { cls := Value.type "function",
      data :=
        Data.func
          { name := Str.ofString "__init__", qualname := Str.ofString "_NodeInfo.__init__", params := p63, body := FuncBody.stmts b63, scope := s63, globals := 3, closure := [], defaults := Value.none, kwdefaults := Value.none,
            pyModule := Value.str (Str.ofString "cpy313.graphlib") 237, code := Value.ref 62 } } : PySem.Obj) ::
    @Prod.mk Nat PySem.Obj (nat_lit 64) (
    { cls := Value.type "tuple", data := Data.seq #[Value.str (Str.ofString "node") 269, Value.str (Str.ofString "npredecessors") 270, Value.str (Str.ofString "successors") 271] } : PySem.Obj) ::
    @Prod.mk Nat PySem.Obj (nat_lit 66) (
    { cls := Value.type "dict",
      data :=
        Data.dict
          #[{ hash := PyData.keyHash P (Str.ofString "__module__"), key := Value.str (Str.ofString "__module__") 252, val := Value.str (Str.ofString "cpy313.graphlib") 237 },
            { hash := PyData.keyHash P (Str.ofString "__firstlineno__"), key := Value.str (Str.ofString "__firstlineno__") 256, val := Value.int 54 255 },
            { hash := PyData.keyHash P (Str.ofString "__slots__"), key := Value.str (Str.ofString "__slots__") 260, val := Value.ref 56 },
            { hash := PyData.keyHash P (Str.ofString "__init__"), key := Value.str (Str.ofString "__init__") 268, val := Value.ref 63 },
            { hash := PyData.keyHash P (Str.ofString "__static_attributes__"), key := Value.str (Str.ofString "__static_attributes__") 272, val := Value.ref 64 },
            { hash := PyData.keyHash P (Str.ofString "node"), key := Value.str (Str.ofString "node") 274, val := Value.ref 68 },
            { hash := PyData.keyHash P (Str.ofString "npredecessors"), key := Value.str (Str.ofString "npredecessors") 276, val := Value.ref 69 },
            { hash := PyData.keyHash P (Str.ofString "successors"), key := Value.str (Str.ofString "successors") 278, val := Value.ref 70 },
            { hash := PyData.keyHash P (Str.ofString "__doc__"), key := Value.str (Str.ofString "__doc__") 279, val := Value.none }]
          5 } : PySem.Obj) ::
    @Prod.mk Nat PySem.Obj (nat_lit 67) (
    { cls := Value.type "type",
      data :=
        Data.cls
          { name := Str.ofString "_NodeInfo", bases := [Value.type "object"], mro := [Value.ref 67, Value.type "object"], ns := 66, qualname := Str.ofString "_NodeInfo", hasDict := false,
            slotNames := [Str.ofString "node", Str.ofString "npredecessors", Str.ofString "successors"] },
      slots := #[none, none, some (Value.str (Str.ofString "_NodeInfo") 245), some (Value.str (Str.ofString "_NodeInfo") 253), some (Value.builtin "object.__new__"), some (Value.bool false)] } : PySem.Obj) ::
    @Prod.mk Nat PySem.Obj (nat_lit 68) (
    { cls := Value.type "member_descriptor", data := Data.fields #[Value.str (Str.ofString "node") 273, Value.ref 67, Value.builtin "proto.slot", Value.builtin "proto.slot#set", Value.int 2 0] } : PySem.Obj) ::
    @Prod.mk Nat PySem.Obj (nat_lit 69) (
    { cls := Value.type "member_descriptor", data := Data.fields #[Value.str (Str.ofString "npredecessors") 275, Value.ref 67, Value.builtin "proto.slot", Value.builtin "proto.slot#set", Value.int 1 0] } : PySem.Obj) ::
    @Prod.mk Nat PySem.Obj (nat_lit 70) (
    { cls := Value.type "member_descriptor", data := Data.fields #[Value.str (Str.ofString "successors") 277, Value.ref 67, Value.builtin "proto.slot", Value.builtin "proto.slot#set", Value.int 0 0] } : PySem.Obj) ::
    @Prod.mk Nat PySem.Obj (nat_lit 73) (
    { cls := Value.type "tuple", data := Data.seq #[Value.type "ValueError"] } : PySem.Obj) ::
    @Prod.mk Nat PySem.Obj (nat_lit 80) (
    { cls := Value.type "tuple", data := Data.seq #[] } : PySem.Obj) ::
    @Prod.mk Nat PySem.Obj (nat_lit 81) (
    { cls := Value.type "dict",
      data :=
        Data.dict
          #[{ hash := PyData.keyHash P (Str.ofString "__module__"), key := Value.str (Str.ofString "__module__") 289, val := Value.str (Str.ofString "cpy313.graphlib") 237 },
            { hash := PyData.keyHash P (Str.ofString "__firstlineno__"), key := Value.str (Str.ofString "__firstlineno__") 293, val := Value.int 61 292 },
            { hash := PyData.keyHash P (Str.ofString "__static_attributes__"), key := Value.str (Str.ofString "__static_attributes__") 294, val := Value.ref 80 },
            { hash := PyData.keyHash P (Str.ofString "__weakref__"), key := Value.str (Str.ofString "__weakref__") 296, val := Value.ref 83 },
            { hash := PyData.keyHash P (Str.ofString "__doc__"), key := Value.str (Str.ofString "__doc__") 297, val := Value.none }]
          3 } : PySem.Obj) ::
    @Prod.mk Nat PySem.Obj (nat_lit 82) (
    { cls := Value.type "type",
      data :=
        Data.cls
          { name := Str.ofString "CycleError", bases := [Value.type "ValueError"], mro := [Value.ref 82, Value.type "ValueError", Value.type "Exception", Value.type "BaseException", Value.type "object"], ns := 81,
            qualname := Str.ofString "CycleError" },
      slots := #[some (Value.ref 73), none, some (Value.str (Str.ofString "CycleError") 282), some (Value.str (Str.ofString "CycleError") 290), some (Value.builtin "ValueError.__new__"), some (Value.bool true)] } : PySem.Obj) ::
    @Prod.mk Nat PySem.Obj (nat_lit 83) (
    { cls := Value.type "getset_descriptor", data := Data.fields #[Value.str (Str.ofString "__weakref__") 295, Value.ref 82, Value.builtin "ExceptionGroup.__weakref__", Value.none] } : PySem.Obj) ::
    @Prod.mk Nat PySem.Obj (nat_lit 93) (
    { cls := Value.type "tuple", data := Data.seq #[Value.none] } : PySem.Obj) ::
    @Prod.mk Nat PySem.Obj (nat_lit 94) (
    { cls := Value.type "tuple", data := Data.seq #[] } : PySem.Obj) ::
    @Prod.mk Nat PySem.Obj (nat_lit 96) (
    { cls := Value.type "tuple", data := Data.seq #[Value.str (Str.ofString "self") 315, Value.str (Str.ofString "graph") 316, Value.str (Str.ofString "node") 317, Value.str (Str.ofString "predecessors") 318] } : PySem.Obj) ::
    @Prod.mk Nat PySem.Obj (nat_lit 97) (
    { cls := Value.type "tuple", data := Data.seq #[] } : PySem.Obj) ::
    @Prod.mk Nat PySem.Obj (nat_lit 99) (
    { cls := Value.type "code",
      data :=
        Data.fields
          #[Value.str (Str.ofString "__init__") 312, Value.str (Str.ofString "TopologicalSorter.__init__") 313, Value.str (Str.ofString "/claim/cut.py") 314, Value.int 65 0, Value.int 2 0, Value.int 0 0, Value.int 0 0, Value.int 3 0,
            Value.ref 94, Value.bool true, Value.int 181 0, Value.ref 95, Value.none, Value.ref 96, Value.ref 97, Value.ref 98, Value.int 319 0, Value.int 65 0, Value.str (Str.ofString "/claim/cut.py") 320] } : PySem.Obj) ::
    @Prod.mk Nat PySem.Obj (nat_lit 100) (
    { cls := Value.type "function",
      data :=
        Data.func
          { name := Str.ofString "__init__", qualname := Str.ofString "TopologicalSorter.__init__", params := p100, body := FuncBody.stmts b100, scope := s100, globals := 3, closure := [], defaults := Value.ref 93, kwdefaults := Value.none,
            pyModule := Value.str (Str.ofString "cpy313.graphlib") 237, code := Value.ref 99 } } : PySem.Obj) ::
    @Prod.mk Nat PySem.Obj (nat_lit 101) (
    { cls := Value.type "tuple", data := Data.seq #[] } : PySem.Obj) ::
    @Prod.mk Nat PySem.Obj (nat_lit 103) (
    { cls := Value.type "tuple", data := Data.seq #[Value.str (Str.ofString "self") 325, Value.str (Str.ofString "node") 326, Value.str (Str.ofString "result") 327] } : PySem.Obj) ::
    @Prod.mk Nat PySem.Obj (nat_lit 104) (
    { cls := Value.type "tuple", data := Data.seq #[] } : PySem.Obj) ::
    @Prod.mk Nat PySem.Obj (nat_lit 106) (
    { cls := Value.type "code",
      data :=
        Data.fields
          #[Value.str (Str.ofString "_get_nodeinfo") 322, Value.str (Str.ofString "TopologicalSorter._get_nodeinfo") 323, Value.str (Str.ofString "/claim/cut.py") 324, Value.int 74 0, Value.int 2 0, Value.int 0 0, Value.int 0 0, Value.int 3 0,
            Value.ref 101, Value.bool true, Value.int 181 0, Value.ref 102, Value.none, Value.ref 103, Value.ref 104, Value.ref 105, Value.int 328 0, Value.int 74 0, Value.str (Str.ofString "/claim/cut.py") 329] } : PySem.Obj) ::
    @Prod.mk Nat PySem.Obj (nat_lit 107) (
    { cls := Value.type "function",
      data :=
        Data.func
          { name := Str.ofString "_get_nodeinfo", qualname := Str.ofString "TopologicalSorter._get_nodeinfo", params := p107, body := FuncBody.stmts b107, scope := s107, globals := 3, closure := [], defaults := Value.none,
            kwdefaults := Value.none, pyModule := Value.str (Str.ofString "cpy313.graphlib") 237, code := Value.ref 106 } } : PySem.Obj) ::
    @Prod.mk Nat PySem.Obj (nat_lit 108) (
    { cls := Value.type "tuple", data := Data.seq #[] } : PySem.Obj) ::
    @Prod.mk Nat PySem.Obj (nat_lit 110) (
    { cls := Value.type "tuple",
      data :=
        Data.seq
          #[Value.str (Str.ofString "self") 334, Value.str (Str.ofString "node") 335, Value.str (Str.ofString "predecessors") 336, Value.str (Str.ofString "nodeinfo") 337, Value.str (Str.ofString "pred") 338,
            Value.str (Str.ofString "pred_info") 339] } : PySem.Obj) ::
    @Prod.mk Nat PySem.Obj (nat_lit 111) (
    { cls := Value.type "tuple", data := Data.seq #[] } : PySem.Obj) ::
    @Prod.mk Nat PySem.Obj (nat_lit 113) (
    { cls := Value.type "code",
      data :=
        Data.fields
          #[Value.str (Str.ofString "add") 331, Value.str (Str.ofString "TopologicalSorter.add") 332, Value.str (Str.ofString "/claim/cut.py") 333, Value.int 79 0, Value.int 2 0, Value.int 0 0, Value.int 0 0, Value.int 7 0, Value.ref 108,
            Value.bool true, Value.int 181 0, Value.ref 109, Value.none, Value.ref 110, Value.ref 111, Value.ref 112, Value.int 340 0, Value.int 79 0, Value.str (Str.ofString "/claim/cut.py") 341] } : PySem.Obj) ::
    @Prod.mk Nat PySem.Obj (nat_lit 114) (
    { cls := Value.type "function",
      data :=
        Data.func
          { name := Str.ofString "add", qualname := Str.ofString "TopologicalSorter.add", params := p114, body := FuncBody.stmts b114, scope := s114, globals := 3, closure := [], defaults := Value.none, kwdefaults := Value.none,
            pyModule := Value.str (Str.ofString "cpy313.graphlib") 237, code := Value.ref 113 } } : PySem.Obj) ::
    @Prod.mk Nat PySem.Obj (nat_lit 115) (
    { cls := Value.type "tuple", data := Data.seq #[] } : PySem.Obj) ::
    @Prod.mk Nat PySem.Obj (nat_lit 118) (
    { cls := Value.type "code",
      data :=
        Data.fields
          #[Value.str (Str.ofString "prepare") 343, Value.str (Str.ofString "TopologicalSorter.prepare") 344, Value.str (Str.ofString "/claim/cut.py") 345, Value.int 88 0, Value.int 1 0, Value.int 0 0, Value.int 0 0, Value.int 3 0,
            Value.ref 115, Value.bool true, Value.int 181 0, Value.ref 116, Value.none, Value.none, Value.none, Value.ref 117, Value.int 346 0, Value.int 88 0, Value.str (Str.ofString "/claim/cut.py") 347] } : PySem.Obj) ::
    @Prod.mk Nat PySem.Obj (nat_lit 119) (
    { cls := Value.type "function",
      data :=
        Data.func
          { name := Str.ofString "prepare", qualname := Str.ofString "TopologicalSorter.prepare", params := p119, body := FuncBody.stmts b119, scope := s119, globals := 3, closure := [], defaults := Value.none, kwdefaults := Value.none,
            pyModule := Value.str (Str.ofString "cpy313.graphlib") 237, code := Value.ref 118 } } : PySem.Obj) ::
    @Prod.mk Nat PySem.Obj (nat_lit 120) (
    { cls := Value.type "tuple", data := Data.seq #[] } : PySem.Obj) ::
    @Prod.mk Nat PySem.Obj (nat_lit 122) (
    { cls := Value.type "tuple", data := Data.seq #[Value.str (Str.ofString "self") 352, Value.str (Str.ofString "result") 353, Value.str (Str.ofString "n2i") 354, Value.str (Str.ofString "node") 355] } : PySem.Obj) ::
    @Prod.mk Nat PySem.Obj (nat_lit 123) (
    { cls := Value.type "tuple", data := Data.seq #[] } : PySem.Obj) ::
    @Prod.mk Nat PySem.Obj (nat_lit 125) (
    { cls := Value.type "code",
      data :=
        Data.fields
          #[Value.str (Str.ofString "get_ready") 349, Value.str (Str.ofString "TopologicalSorter.get_ready") 350, Value.str (Str.ofString "/claim/cut.py") 351, Value.int 96 0, Value.int 1 0, Value.int 0 0, Value.int 0 0, Value.int 3 0,
            Value.ref 120, Value.bool true, Value.int 181 0, Value.ref 121, Value.none, Value.ref 122, Value.ref 123, Value.ref 124, Value.int 356 0, Value.int 96 0, Value.str (Str.ofString "/claim/cut.py") 357] } : PySem.Obj) ::
    @Prod.mk Nat PySem.Obj (nat_lit 126) (
    { cls := Value.type "function",
      data :=
        Data.func
          { name := Str.ofString "get_ready", qualname := Str.ofString "TopologicalSorter.get_ready", params := p126, body := FuncBody.stmts b126, scope := s126, globals := 3, closure := [], defaults := Value.none, kwdefaults := Value.none,
            pyModule := Value.str (Str.ofString "cpy313.graphlib") 237, code := Value.ref 125 } } : PySem.Obj) ::
    @Prod.mk Nat PySem.Obj (nat_lit 127) (
    { cls := Value.type "tuple", data := Data.seq #[] } : PySem.Obj) ::
    @Prod.mk Nat PySem.Obj (nat_lit 129) (
    { cls := Value.type "tuple", data := Data.seq #[Value.str (Str.ofString "self") 362] } : PySem.Obj) ::
    @Prod.mk Nat PySem.Obj (nat_lit 130) (
    { cls := Value.type "tuple", data := Data.seq #[] } : PySem.Obj) ::
    @Prod.mk Nat PySem.Obj (nat_lit 132) (
    { cls := Value.type "code",
      data :=
        Data.fields
          #[Value.str (Str.ofString "is_active") 359, Value.str (Str.ofString "TopologicalSorter.is_active") 360, Value.str (Str.ofString "/claim/cut.py") 361, Value.int 107 0, Value.int 1 0, Value.int 0 0, Value.int 0 0, Value.int 3 0,
            Value.ref 127, Value.bool true, Value.int 181 0, Value.ref 128, Value.none, Value.ref 129, Value.ref 130, Value.ref 131, Value.int 363 0, Value.int 107 0, Value.str (Str.ofString "/claim/cut.py") 364] } : PySem.Obj) ::
    @Prod.mk Nat PySem.Obj (nat_lit 133) (
    { cls := Value.type "function",
      data :=
        Data.func
          { name := Str.ofString "is_active", qualname := Str.ofString "TopologicalSorter.is_active", params := p133, body := FuncBody.stmts b133, scope := s133, globals := 3, closure := [], defaults := Value.none, kwdefaults := Value.none,
            pyModule := Value.str (Str.ofString "cpy313.graphlib") 237, code := Value.ref 132 } } : PySem.Obj) ::
    @Prod.mk Nat PySem.Obj (nat_lit 134) (
    { cls := Value.type "tuple", data := Data.seq #[] } : PySem.Obj) ::
    @Prod.mk Nat PySem.Obj (nat_lit 136) (
    { cls := Value.type "tuple", data := Data.seq #[Value.str (Str.ofString "self") 369] } : PySem.Obj) ::
    @Prod.mk Nat PySem.Obj (nat_lit 137) (
    { cls := Value.type "tuple", data := Data.seq #[] } : PySem.Obj) ::
    @Prod.mk Nat PySem.Obj (nat_lit 139) (
    { cls := Value.type "code",
      data :=
        Data.fields
          #[Value.str (Str.ofString "__bool__") 366, Value.str (Str.ofString "TopologicalSorter.__bool__") 367, Value.str (Str.ofString "/claim/cut.py") 368, Value.int 112 0, Value.int 1 0, Value.int 0 0, Value.int 0 0, Value.int 3 0,
            Value.ref 134, Value.bool true, Value.int 181 0, Value.ref 135, Value.none, Value.ref 136, Value.ref 137, Value.ref 138, Value.int 370 0, Value.int 112 0, Value.str (Str.ofString "/claim/cut.py") 371] } : PySem.Obj) ::
    @Prod.mk Nat PySem.Obj (nat_lit 140) (
    { cls := Value.type "function",
      data :=
        Data.func
          { name := Str.ofString "__bool__", qualname := Str.ofString "TopologicalSorter.__bool__", params := p140, body := FuncBody.stmts b140, scope := s140, globals := 3, closure := [], defaults := Value.none, kwdefaults := Value.none,
            pyModule := Value.str (Str.ofString "cpy313.graphlib") 237, code := Value.ref 139 } } : PySem.Obj) ::
    @Prod.mk Nat PySem.Obj (nat_lit 141) (
    { cls := Value.type "tuple", data := Data.seq #[] } : PySem.Obj) ::
    @Prod.mk Nat PySem.Obj (nat_lit 143) (
    { cls := Value.type "tuple",
      data :=
        Data.seq
          #[Value.str (Str.ofString "self") 376, Value.str (Str.ofString "nodes") 377, Value.str (Str.ofString "n2i") 378, Value.str (Str.ofString "node") 379, Value.str (Str.ofString "nodeinfo") 380, Value.str (Str.ofString "stat") 381,
            Value.str (Str.ofString "successor") 382, Value.str (Str.ofString "successor_info") 383] } : PySem.Obj) ::
    @Prod.mk Nat PySem.Obj (nat_lit 144) (
    { cls := Value.type "tuple", data := Data.seq #[] } : PySem.Obj) ::
    @Prod.mk Nat PySem.Obj (nat_lit 146) (
    { cls := Value.type "code",
      data :=
        Data.fields
          #[Value.str (Str.ofString "done") 373, Value.str (Str.ofString "TopologicalSorter.done") 374, Value.str (Str.ofString "/claim/cut.py") 375, Value.int 115 0, Value.int 1 0, Value.int 0 0, Value.int 0 0, Value.int 7 0, Value.ref 141,
            Value.bool true, Value.int 181 0, Value.ref 142, Value.none, Value.ref 143, Value.ref 144, Value.ref 145, Value.int 384 0, Value.int 115 0, Value.str (Str.ofString "/claim/cut.py") 385] } : PySem.Obj) ::
    @Prod.mk Nat PySem.Obj (nat_lit 147) (
    { cls := Value.type "function",
      data :=
        Data.func
          { name := Str.ofString "done", qualname := Str.ofString "TopologicalSorter.done", params := p147, body := FuncBody.stmts b147, scope := s147, globals := 3, closure := [], defaults := Value.none, kwdefaults := Value.none,
            pyModule := Value.str (Str.ofString "cpy313.graphlib") 237, code := Value.ref 146 } } : PySem.Obj) ::
    @Prod.mk Nat PySem.Obj (nat_lit 148) (
    { cls := Value.type "tuple", data := Data.seq #[] } : PySem.Obj) ::
    @Prod.mk Nat PySem.Obj (nat_lit 150) (
    { cls := Value.type "tuple",
      data :=
        Data.seq
          #[Value.str (Str.ofString "self") 390, Value.str (Str.ofString "n2i") 391, Value.str (Str.ofString "stack") 392, Value.str (Str.ofString "itstack") 393, Value.str (Str.ofString "seen") 394, Value.str (Str.ofString "node2stacki") 395,
            Value.str (Str.ofString "node") 396] } : PySem.Obj) ::
    @Prod.mk Nat PySem.Obj (nat_lit 151) (
    { cls := Value.type "tuple", data := Data.seq #[] } : PySem.Obj) ::
    @Prod.mk Nat PySem.Obj (nat_lit 153) (
    { cls := Value.type "code",
      data :=
        Data.fields
          #[Value.str (Str.ofString "_find_cycle") 387, Value.str (Str.ofString "TopologicalSorter._find_cycle") 388, Value.str (Str.ofString "/claim/cut.py") 389, Value.int 138 0, Value.int 1 0, Value.int 0 0, Value.int 0 0, Value.int 3 0,
            Value.ref 148, Value.bool true, Value.int 181 0, Value.ref 149, Value.none, Value.ref 150, Value.ref 151, Value.ref 152, Value.int 397 0, Value.int 138 0, Value.str (Str.ofString "/claim/cut.py") 398] } : PySem.Obj) ::
    @Prod.mk Nat PySem.Obj (nat_lit 154) (
    { cls := Value.type "function",
      data :=
        Data.func
          { name := Str.ofString "_find_cycle", qualname := Str.ofString "TopologicalSorter._find_cycle", params := p154, body := FuncBody.stmts b154, scope := s154, globals := 3, closure := [], defaults := Value.none, kwdefaults := Value.none,
            pyModule := Value.str (Str.ofString "cpy313.graphlib") 237, code := Value.ref 153 } } : PySem.Obj) ::
    @Prod.mk Nat PySem.Obj (nat_lit 155) (
    { cls := Value.type "tuple", data := Data.seq #[] } : PySem.Obj) ::
    @Prod.mk Nat PySem.Obj (nat_lit 157) (
    { cls := Value.type "tuple", data := Data.seq #[Value.str (Str.ofString "self") 403] } : PySem.Obj) ::
    @Prod.mk Nat PySem.Obj (nat_lit 158) (
    { cls := Value.type "tuple", data := Data.seq #[] } : PySem.Obj) ::
    @Prod.mk Nat PySem.Obj (nat_lit 160) (
    { cls := Value.type "code",
      data :=
        Data.fields
          #[Value.str (Str.ofString "static_order") 400, Value.str (Str.ofString "TopologicalSorter.static_order") 401, Value.str (Str.ofString "/claim/cut.py") 402, Value.int 167 0, Value.int 1 0, Value.int 0 0, Value.int 0 0, Value.int 3 0,
            Value.ref 155, Value.bool true, Value.int 181 0, Value.ref 156, Value.none, Value.ref 157, Value.ref 158, Value.ref 159, Value.int 404 0, Value.int 167 0, Value.str (Str.ofString "/claim/cut.py") 405] } : PySem.Obj) ::
    @Prod.mk Nat PySem.Obj (nat_lit 161) (
    { cls := Value.type "function",
      data :=
        Data.func
          { name := Str.ofString "static_order", qualname := Str.ofString "TopologicalSorter.static_order", params := p161, body := FuncBody.stmts b161, scope := s161, globals := 3, closure := [], defaults := Value.none,
            kwdefaults := Value.none, pyModule := Value.str (Str.ofString "cpy313.graphlib") 237, code := Value.ref 160 } } : PySem.Obj) ::
    @Prod.mk Nat PySem.Obj (nat_lit 162) (
    { cls := Value.type "tuple", data := Data.seq #[Value.str (Str.ofString "_nfinished") 407, Value.str (Str.ofString "_node2info") 408, Value.str (Str.ofString "_npassedout") 409, Value.str (Str.ofString "_ready_nodes") 410] } : PySem.Obj) ::
    @Prod.mk Nat PySem.Obj (nat_lit 163) (
    { cls := Value.type "dict",
      data :=
        Data.dict
          #[{ hash := PyData.keyHash P (Str.ofString "__module__"), key := Value.str (Str.ofString "__module__") 307, val := Value.str (Str.ofString "cpy313.graphlib") 237 },
            { hash := PyData.keyHash P (Str.ofString "__firstlineno__"), key := Value.str (Str.ofString "__firstlineno__") 311, val := Value.int 63 310 },
            { hash := PyData.keyHash P (Str.ofString "__init__"), key := Value.str (Str.ofString "__init__") 321, val := Value.ref 100 },
            { hash := PyData.keyHash P (Str.ofString "_get_nodeinfo"), key := Value.str (Str.ofString "_get_nodeinfo") 330, val := Value.ref 107 },
            { hash := PyData.keyHash P (Str.ofString "add"), key := Value.str (Str.ofString "add") 342, val := Value.ref 114 },
            { hash := PyData.keyHash P (Str.ofString "prepare"), key := Value.str (Str.ofString "prepare") 348, val := Value.ref 119 },
            { hash := PyData.keyHash P (Str.ofString "get_ready"), key := Value.str (Str.ofString "get_ready") 358, val := Value.ref 126 },
            { hash := PyData.keyHash P (Str.ofString "is_active"), key := Value.str (Str.ofString "is_active") 365, val := Value.ref 133 },
            { hash := PyData.keyHash P (Str.ofString "__bool__"), key := Value.str (Str.ofString "__bool__") 372, val := Value.ref 140 },
            { hash := PyData.keyHash P (Str.ofString "done"), key := Value.str (Str.ofString "done") 386, val := Value.ref 147 },
            { hash := PyData.keyHash P (Str.ofString "_find_cycle"), key := Value.str (Str.ofString "_find_cycle") 399, val := Value.ref 154 },
            { hash := PyData.keyHash P (Str.ofString "static_order"), key := Value.str (Str.ofString "static_order") 406, val := Value.ref 161 },
            { hash := PyData.keyHash P (Str.ofString "__static_attributes__"), key := Value.str (Str.ofString "__static_attributes__") 411, val := Value.ref 162 },
            { hash := PyData.keyHash P (Str.ofString "__dict__"), key := Value.str (Str.ofString "__dict__") 413, val := Value.ref 165 },
            { hash := PyData.keyHash P (Str.ofString "__weakref__"), key := Value.str (Str.ofString "__weakref__") 415, val := Value.ref 166 },
            { hash := PyData.keyHash P (Str.ofString "__doc__"), key := Value.str (Str.ofString "__doc__") 416, val := Value.none }]
          4 } : PySem.Obj) ::
    @Prod.mk Nat PySem.Obj (nat_lit 164) (
    { cls := Value.type "type", data := Data.cls { name := Str.ofString "TopologicalSorter", bases := [Value.type "object"], mro := [Value.ref 164, Value.type "object"], ns := 163, qualname := Str.ofString "TopologicalSorter" },
      slots := #[none, none, some (Value.str (Str.ofString "TopologicalSorter") 300), some (Value.str (Str.ofString "TopologicalSorter") 308), some (Value.builtin "object.__new__"), some (Value.bool true)] } : PySem.Obj) ::
    @Prod.mk Nat PySem.Obj (nat_lit 165) (
    { cls := Value.type "getset_descriptor", data := Data.fields #[Value.str (Str.ofString "__dict__") 412, Value.ref 164, Value.builtin "function.__dict__", Value.builtin "function.__dict__#set"] } : PySem.Obj) ::
    @Prod.mk Nat PySem.Obj (nat_lit 166) (
    { cls := Value.type "getset_descriptor", data := Data.fields #[Value.str (Str.ofString "__weakref__") 414, Value.ref 164, Value.builtin "ExceptionGroup.__weakref__", Value.none] } : PySem.Obj) ::
    @Prod.mk Nat PySem.Obj (nat_lit 169) (
    { cls := Value.type "tuple", data := Data.seq #[] } : PySem.Obj) ::
    @Prod.mk Nat PySem.Obj (nat_lit 171) (
    { cls := Value.type "tuple", data := Data.seq #[Value.str (Str.ofString "row") 424, Value.str (Str.ofString "value") 425, Value.str (Str.ofString "sorter") 426, Value.str (Str.ofString "place") 427, Value.str (Str.ofString "upper") 428] } : PySem.Obj) ::
    @Prod.mk Nat PySem.Obj (nat_lit 172) (
    { cls := Value.type "tuple", data := Data.seq #[] } : PySem.Obj) ::
    @Prod.mk Nat PySem.Obj (nat_lit 174) (
    { cls := Value.type "code",
      data :=
        Data.fields
          #[Value.str (Str.ofString "_law_comes") 421, Value.str (Str.ofString "_law_comes") 422, Value.str (Str.ofString "/claim/cut.py") 423, Value.int 170 0, Value.int 3 0, Value.int 0 0, Value.int 0 0, Value.int 3 0, Value.ref 169,
            Value.bool true, Value.int 181 0, Value.ref 170, Value.none, Value.ref 171, Value.ref 172, Value.ref 173, Value.int 429 0, Value.int 170 0, Value.str (Str.ofString "/claim/cut.py") 430] } : PySem.Obj) ::
    @Prod.mk Nat PySem.Obj (nat_lit 175) (
    { cls := Value.type "function",
      data :=
        Data.func
          { name := Str.ofString "_law_comes", qualname := Str.ofString "_law_comes", params := p175, body := FuncBody.stmts b175, scope := s175, globals := 3, closure := [], defaults := Value.none, kwdefaults := Value.none,
            pyModule := Value.str (Str.ofString "law_mr0333_01") 419, code := Value.ref 174 } } : PySem.Obj) ::
    @Prod.mk Nat PySem.Obj (nat_lit 176) (
    { cls := Value.type "tuple", data := Data.seq #[] } : PySem.Obj) ::
    @Prod.mk Nat PySem.Obj (nat_lit 178) (
    { cls := Value.type "tuple",
      data :=
        Data.seq
          #[Value.str (Str.ofString "numbers") 435, Value.str (Str.ofString "sorter") 436, Value.str (Str.ofString "row") 437, Value.str (Str.ofString "inside") 438, Value.str (Str.ofString "mates") 439, Value.str (Str.ofString "deeds") 440,
            Value.str (Str.ofString "number") 441, Value.str (Str.ofString "value") 442, Value.str (Str.ofString "place") 443, Value.str (Str.ofString "other") 444] } : PySem.Obj) ::
    @Prod.mk Nat PySem.Obj (nat_lit 179) (
    { cls := Value.type "tuple", data := Data.seq #[] } : PySem.Obj) ::
    @Prod.mk Nat PySem.Obj (nat_lit 181) (
    { cls := Value.type "code",
      data :=
        Data.fields
          #[Value.str (Str.ofString "_law_deeds") 432, Value.str (Str.ofString "_law_deeds") 433, Value.str (Str.ofString "/claim/cut.py") 434, Value.int 177 0, Value.int 2 0, Value.int 0 0, Value.int 0 0, Value.int 3 0, Value.ref 176,
            Value.bool true, Value.int 181 0, Value.ref 177, Value.none, Value.ref 178, Value.ref 179, Value.ref 180, Value.int 445 0, Value.int 177 0, Value.str (Str.ofString "/claim/cut.py") 446] } : PySem.Obj) ::
    @Prod.mk Nat PySem.Obj (nat_lit 182) (
    { cls := Value.type "function",
      data :=
        Data.func
          { name := Str.ofString "_law_deeds", qualname := Str.ofString "_law_deeds", params := p182, body := FuncBody.stmts b182, scope := s182, globals := 3, closure := [], defaults := Value.none, kwdefaults := Value.none,
            pyModule := Value.str (Str.ofString "law_mr0333_01") 419, code := Value.ref 181 } } : PySem.Obj) ::
    @Prod.mk Nat PySem.Obj (nat_lit 183) (
    { cls := Value.type "tuple", data := Data.seq #[] } : PySem.Obj) ::
    @Prod.mk Nat PySem.Obj (nat_lit 186) (
    { cls := Value.type "code",
      data :=
        Data.fields
          #[Value.str (Str.ofString "_law_chains") 448, Value.str (Str.ofString "_law_chains") 449, Value.str (Str.ofString "/claim/cut.py") 450, Value.int 200 0, Value.int 1 0, Value.int 0 0, Value.int 0 0, Value.int 3 0, Value.ref 183,
            Value.bool true, Value.int 181 0, Value.ref 184, Value.none, Value.none, Value.none, Value.ref 185, Value.int 451 0, Value.int 200 0, Value.str (Str.ofString "/claim/cut.py") 452] } : PySem.Obj) ::
    @Prod.mk Nat PySem.Obj (nat_lit 187) (
    { cls := Value.type "function",
      data :=
        Data.func
          { name := Str.ofString "_law_chains", qualname := Str.ofString "_law_chains", params := p187, body := FuncBody.stmts b187, scope := s187, globals := 3, closure := [], defaults := Value.none, kwdefaults := Value.none,
            pyModule := Value.str (Str.ofString "law_mr0333_01") 419, code := Value.ref 186 } } : PySem.Obj) ::
    @Prod.mk Nat PySem.Obj (nat_lit 188) (
    { cls := Value.type "tuple", data := Data.seq #[] } : PySem.Obj) ::
    @Prod.mk Nat PySem.Obj (nat_lit 191) (
    { cls := Value.type "code",
      data :=
        Data.fields
          #[Value.str (Str.ofString "_law_given") 454, Value.str (Str.ofString "_law_given") 455, Value.str (Str.ofString "/claim/cut.py") 456, Value.int 205 0, Value.int 2 0, Value.int 0 0, Value.int 0 0, Value.int 3 0, Value.ref 188,
            Value.bool true, Value.int 181 0, Value.ref 189, Value.none, Value.none, Value.none, Value.ref 190, Value.int 457 0, Value.int 205 0, Value.str (Str.ofString "/claim/cut.py") 458] } : PySem.Obj) ::
    @Prod.mk Nat PySem.Obj (nat_lit 192) (
    { cls := Value.type "function",
      data :=
        Data.func
          { name := Str.ofString "_law_given", qualname := Str.ofString "_law_given", params := p192, body := FuncBody.stmts b192, scope := s192, globals := 3, closure := [], defaults := Value.none, kwdefaults := Value.none,
            pyModule := Value.str (Str.ofString "law_mr0333_01") 419, code := Value.ref 191 } } : PySem.Obj) ::
    @Prod.mk Nat PySem.Obj (nat_lit 193) (
    { cls := Value.type "tuple", data := Data.seq #[] } : PySem.Obj) ::
    @Prod.mk Nat PySem.Obj (nat_lit 195) (
    { cls := Value.type "tuple", data := Data.seq #[Value.str (Str.ofString "deeds") 463, Value.str (Str.ofString "turns") 464, Value.str (Str.ofString "value") 465, Value.str (Str.ofString "place") 466, Value.str (Str.ofString "row") 467] } : PySem.Obj) ::
    @Prod.mk Nat PySem.Obj (nat_lit 196) (
    { cls := Value.type "tuple", data := Data.seq #[Value.str (Str.ofString "turns") 468] } : PySem.Obj) ::
    @Prod.mk Nat PySem.Obj (nat_lit 198) (
    { cls := Value.type "code",
      data :=
        Data.fields
          #[Value.str (Str.ofString "_law_back") 460, Value.str (Str.ofString "_law_back") 461, Value.str (Str.ofString "/claim/cut.py") 462, Value.int 217 0, Value.int 2 0, Value.int 0 0, Value.int 0 0, Value.int 3 0, Value.ref 193,
            Value.bool true, Value.int 181 0, Value.ref 194, Value.none, Value.ref 195, Value.ref 196, Value.ref 197, Value.int 469 0, Value.int 217 0, Value.str (Str.ofString "/claim/cut.py") 470] } : PySem.Obj) ::
    @Prod.mk Nat PySem.Obj (nat_lit 199) (
    { cls := Value.type "function",
      data :=
        Data.func
          { name := Str.ofString "_law_back", qualname := Str.ofString "_law_back", params := p199, body := FuncBody.stmts b199, scope := s199, globals := 3, closure := [], defaults := Value.none, kwdefaults := Value.none,
            pyModule := Value.str (Str.ofString "law_mr0333_01") 419, code := Value.ref 198 } } : PySem.Obj) ::
    @Prod.mk Nat PySem.Obj (nat_lit 200) (
    { cls := Value.type "tuple", data := Data.seq #[] } : PySem.Obj) ::
    @Prod.mk Nat PySem.Obj (nat_lit 202) (
    { cls := Value.type "tuple", data := Data.seq #[Value.str (Str.ofString "script") 475, Value.str (Str.ofString "sorter") 476, Value.str (Str.ofString "run") 477, Value.str (Str.ofString "steps") 478] } : PySem.Obj) ::
    @Prod.mk Nat PySem.Obj (nat_lit 203) (
    { cls := Value.type "tuple", data := Data.seq #[] } : PySem.Obj) ::
    @Prod.mk Nat PySem.Obj (nat_lit 205) (
    { cls := Value.type "code",
      data :=
        Data.fields
          #[Value.str (Str.ofString "law") 472, Value.str (Str.ofString "law") 473, Value.str (Str.ofString "/claim/cut.py") 474, Value.int 226 0, Value.int 1 0, Value.int 0 0, Value.int 0 0, Value.int 3 0, Value.ref 200, Value.bool true,
            Value.int 181 0, Value.ref 201, Value.none, Value.ref 202, Value.ref 203, Value.ref 204, Value.int 479 0, Value.int 226 0, Value.str (Str.ofString "/claim/cut.py") 480] } : PySem.Obj) ::
    @Prod.mk Nat PySem.Obj (nat_lit 206) (
    { cls := Value.type "function",
      data :=
        Data.func
          { name := Str.ofString "law", qualname := Str.ofString "law", params := p206, body := FuncBody.stmts b206, scope := s206, globals := 3, closure := [], defaults := Value.none, kwdefaults := Value.none,
            pyModule := Value.str (Str.ofString "law_mr0333_01") 419, code := Value.ref 205 } } : PySem.Obj) :: [])
  case hp21 => (conv => rhs; whnf); (try exact rfl)
  case hb21 => (conv => rhs; whnf); (try exact rfl)
  case hs21 => (conv => rhs; whnf); (try exact rfl)
  case hp30 => (conv => rhs; whnf); (try exact rfl)
  case hb30 => (conv => rhs; whnf); (try exact rfl)
  case hs30 => (conv => rhs; whnf); (try exact rfl)
  case hp39 => (conv => rhs; whnf); (try exact rfl)
  case hb39 => (conv => rhs; whnf); (try exact rfl)
  case hs39 => (conv => rhs; whnf); (try exact rfl)
  case hp48 => (conv => rhs; whnf); (try exact rfl)
  case hb48 => (conv => rhs; whnf); (try exact rfl)
  case hs48 => (conv => rhs; whnf); (try exact rfl)
  case hp63 => (conv => rhs; whnf); (try exact rfl)
  case hb63 => (conv => rhs; whnf); (try exact rfl)
  case hs63 => (conv => rhs; whnf); (try exact rfl)
  case hp100 => (conv => rhs; whnf); (try exact rfl)
  case hb100 => (conv => rhs; whnf); (try exact rfl)
  case hs100 => (conv => rhs; whnf); (try exact rfl)
  case hp107 => (conv => rhs; whnf); (try exact rfl)
  case hb107 => (conv => rhs; whnf); (try exact rfl)
  case hs107 => (conv => rhs; whnf); (try exact rfl)
  case hp114 => (conv => rhs; whnf); (try exact rfl)
  case hb114 => (conv => rhs; whnf); (try exact rfl)
  case hs114 => (conv => rhs; whnf); (try exact rfl)
  case hp119 => (conv => rhs; whnf); (try exact rfl)
  case hb119 => (conv => rhs; whnf); (try exact rfl)
  case hs119 => (conv => rhs; whnf); (try exact rfl)
  case hp126 => (conv => rhs; whnf); (try exact rfl)
  case hb126 => (conv => rhs; whnf); (try exact rfl)
  case hs126 => (conv => rhs; whnf); (try exact rfl)
  case hp133 => (conv => rhs; whnf); (try exact rfl)
  case hb133 => (conv => rhs; whnf); (try exact rfl)
  case hs133 => (conv => rhs; whnf); (try exact rfl)
  case hp140 => (conv => rhs; whnf); (try exact rfl)
  case hb140 => (conv => rhs; whnf); (try exact rfl)
  case hs140 => (conv => rhs; whnf); (try exact rfl)
  case hp147 => (conv => rhs; whnf); (try exact rfl)
  case hb147 => (conv => rhs; whnf); (try exact rfl)
  case hs147 => (conv => rhs; whnf); (try exact rfl)
  case hp154 => (conv => rhs; whnf); (try exact rfl)
  case hb154 => (conv => rhs; whnf); (try exact rfl)
  case hs154 => (conv => rhs; whnf); (try exact rfl)
  case hp161 => (conv => rhs; whnf); (try exact rfl)
  case hb161 => (conv => rhs; whnf); (try exact rfl)
  case hs161 => (conv => rhs; whnf); (try exact rfl)
  case hp175 => (conv => rhs; whnf); (try exact rfl)
  case hb175 => (conv => rhs; whnf); (try exact rfl)
  case hs175 => (conv => rhs; whnf); (try exact rfl)
  case hp182 => (conv => rhs; whnf); (try exact rfl)
  case hb182 => (conv => rhs; whnf); (try exact rfl)
  case hs182 => (conv => rhs; whnf); (try exact rfl)
  case hp187 => (conv => rhs; whnf); (try exact rfl)
  case hb187 => (conv => rhs; whnf); (try exact rfl)
  case hs187 => (conv => rhs; whnf); (try exact rfl)
  case hp192 => (conv => rhs; whnf); (try exact rfl)
  case hb192 => (conv => rhs; whnf); (try exact rfl)
  case hs192 => (conv => rhs; whnf); (try exact rfl)
  case hp199 => (conv => rhs; whnf); (try exact rfl)
  case hb199 => (conv => rhs; whnf); (try exact rfl)
  case hs199 => (conv => rhs; whnf); (try exact rfl)
  case hp206 => (conv => rhs; whnf); (try exact rfl)
  case hb206 => (conv => rhs; whnf); (try exact rfl)
  case hs206 => (conv => rhs; whnf); (try exact rfl)

noncomputable def hd.view_39 : Program := by
  refine' (?f : (s0 : Stmt) → s0 = hdSt 0 → (s6 : Stmt) → s6 = hdSt 6 → (s7 : Stmt) → s7 = hdSt 7 → (s8 : Stmt) → s8 = hdSt 8 → (s9 : Stmt) → s9 = hdSt 9 → (s10 : Stmt) → s10 = hdSt 10 → (s12 : Stmt) → s12 = hdSt 12 → (s13 : Stmt) → s13 = hdSt 13 → (s14 : Stmt) → s14 = hdSt 14 → (s15 : Stmt) → s15 = hdSt 15 → (s16 : Stmt) → s16 = hdSt 16 → (s17 : Stmt) → s17 = hdSt 17 → Program) ?x0 ?h0 ?x6 ?h6 ?x7 ?h7 ?x8 ?h8 ?x9 ?h9 ?x10 ?h10 ?x12 ?h12 ?x13 ?h13 ?x14 ?h14 ?x15 ?h15 ?x16 ?h16 ?x17 ?h17
  case f => exact fun s0 _ s6 _ s7 _ s8 _ s9 _ s10 _ s12 _ s13 _ s14 _ s15 _ s16 _ s17 _ => { PySem.Challenge.pw_mr0333_01 with main := { PySem.Challenge.pw_mr0333_01.main with body := [s0, s6, s7, s8, s9, s10, s12, s13, s14, s15, s16, s17] } }
  case h0 => (conv => rhs; whnf); (try exact rfl)
  case h6 => (conv => rhs; whnf); (try exact rfl)
  case h7 => (conv => rhs; whnf); (try exact rfl)
  case h8 => (conv => rhs; whnf); (try exact rfl)
  case h9 => (conv => rhs; whnf); (try exact rfl)
  case h10 => (conv => rhs; whnf); (try exact rfl)
  case h12 => (conv => rhs; whnf); (try exact rfl)
  case h13 => (conv => rhs; whnf); (try exact rfl)
  case h14 => (conv => rhs; whnf); (try exact rfl)
  case h15 => (conv => rhs; whnf); (try exact rfl)
  case h16 => (conv => rhs; whnf); (try exact rfl)
  case h17 => (conv => rhs; whnf); (try exact rfl)

noncomputable def hdAs : List Addr := [2, 3, 15, 17, 18, 20, 21, 22, 23, 24, 26, 27, 29, 30, 31, 32, 33, 35, 36, 38, 39, 40, 41, 42, 44, 45, 47, 48, 56, 57, 59, 60, 62, 63, 64, 66, 67, 68, 69, 70, 73, 80, 81, 82, 83, 93, 94, 96, 97, 99, 100, 101, 103, 104, 106, 107, 108, 110, 111, 113, 114, 115, 118, 119, 120, 122, 123, 125, 126, 127, 129, 130, 132, 133, 134, 136, 137, 139, 140, 141, 143, 144, 146, 147, 148, 150, 151, 153, 154, 155, 157, 158, 160, 161, 162, 163, 164, 165, 166, 169, 171, 172, 174, 175, 176, 178, 179, 181, 182, 183, 186, 187, 188, 191, 192, 193, 195, 196, 198, 199, 200, 202, 203, 205, 206]
noncomputable def hdLoose : List Str := [Str.ofString "bisect_right", Str.ofString "insort_left", Str.ofString "bisect_left", Str.ofString "_NodeInfo"]
theorem hd_keys (P : Params) : hdAs = (hd.heap_39 P).map (·.1) := by kernel_rfl
noncomputable def hdHook : Hook := kmHook hd.heap_39 hdAs hd_keys [194]
theorem hd_said : PySem.Challenge.rw_mr0333_01.wellSaid = true := by
  rw [show OpenLaw.wellSaid = PySem.W.Fast.tw9446332074065402090 from PySem.W.Fast.te9446332074065402090]
  kernel_rfl
theorem hd_o1 : opening PySem.Challenge.pw_mr0333_01 = plainProg PySem.Challenge.pw_mr0333_01.main.scope.names := by kernel_rfl
theorem hd_o2 (s : Shared) : fenceModules? PySem.Challenge.pw_mr0333_01 s = some s := by kernel_rfl
theorem hd_open : ∀ w : World, (fencedOpening treeTable PySem.Challenge.pw_mr0333_01 w 2868).map (fun s => (s.heap, s.gens, s.drawn, s.toks)) = some (boot_heap w.params, Array.mk [], boot_drawn, boot_toks) :=
  boot_open hd_o1 (by decide +kernel) hd_o2

noncomputable def hdO (P : Params) (i : Nat) : Obj := ((hd.heap_39 P).lookup i).getD ⟨.none, none, .plain, #[]⟩
noncomputable def hdH1 (P : PySem.Params) : PySem.Heap := PySem.Heap.mk (Array.mk (
    PySem.W.boot_o_0 P ::
    PySem.W.boot_o_1 P ::
    PySem.W.boot_o_2 P ::
    hdO P 3 ::
    PySem.W.boot_o_4 P ::
    PySem.W.boot_o_5 P ::
    PySem.W.boot_o_6 P ::
    PySem.W.boot_o_7 P ::
    PySem.W.boot_o_8 P ::
    PySem.W.boot_o_9 P ::
    PySem.W.boot_o_10 P ::
    (
    { cls := PySem.Value.type "tuple", data := PySem.Data.seq #[] } : PySem.Obj) ::
    (
    { cls := PySem.Value.none,
      data :=
        PySem.Data.fields
          #[PySem.Value.int 1 0, PySem.Value.int 0 0, PySem.Value.ref 20, PySem.Value.int 5 0, PySem.Value.int 0 0, PySem.Value.ref 29, PySem.Value.int 25 0, PySem.Value.int 0 0, PySem.Value.ref 38, PySem.Value.int 31 0, PySem.Value.int 0 0,
            PySem.Value.ref 47, PySem.Value.int 54 0, PySem.Value.int 0 0, PySem.Value.ref 54, PySem.Value.int 61 0, PySem.Value.int 0 0, PySem.Value.ref 78, PySem.Value.int 63 0, PySem.Value.int 0 0, PySem.Value.ref 91, PySem.Value.int 170 0,
            PySem.Value.int 0 0, PySem.Value.ref 174, PySem.Value.int 177 0, PySem.Value.int 0 0, PySem.Value.ref 181, PySem.Value.int 200 0, PySem.Value.int 0 0, PySem.Value.ref 186, PySem.Value.int 205 0, PySem.Value.int 0 0,
            PySem.Value.ref 191, PySem.Value.int 217 0, PySem.Value.int 0 0, PySem.Value.ref 198, PySem.Value.int 226 0, PySem.Value.int 0 0, PySem.Value.ref 205] } : PySem.Obj) ::
    (
    { cls := PySem.Value.type "code",
      data :=
        PySem.Data.fields
          #[PySem.Value.str (PySem.Str.ofString "<module>") 182, PySem.Value.str (PySem.Str.ofString "<module>") 183, PySem.Value.str (PySem.Str.ofString "/claim/cut.py") 184, PySem.Value.int 1 0, PySem.Value.int 0 0, PySem.Value.int 0 0,
            PySem.Value.int 0 0, PySem.Value.int 0 0, PySem.Value.ref 11, PySem.Value.bool false, PySem.Value.int 181 0, PySem.Value.ref 12, PySem.Value.none, PySem.Value.none, PySem.Value.none, PySem.Value.none, PySem.Value.int 185 0,
            PySem.Value.int 1 0, PySem.Value.str (PySem.Str.ofString "/claim/cut.py") 186] } : PySem.Obj) ::
    (
    { cls := PySem.Value.type "frame", slots := #[some (PySem.Value.ref 13), some (PySem.Value.ref 3), some (PySem.Value.ref 3), none, some (PySem.Value.str (PySem.Str.ofString "__main__") 164), none, some (PySem.Value.ref 0)] } : PySem.Obj) ::
    hdO P 15 ::
    (
    { cls := PySem.Value.none, data := PySem.Data.fields #[] } : PySem.Obj) ::
    hdO P 17 ::
    hdO P 18 ::
    (
    { cls := PySem.Value.none,
      data :=
        PySem.Data.func
          { name := PySem.Str.ofString "_wall", qualname := PySem.Str.ofString "_wall", params := (hdP (hdSt 0)), body := PySem.FuncBody.stmts (hdB (hdSt 0)), scope := (hdS (hdSt 0)), globals := 0, closure := [], defaults := PySem.Value.none, kwdefaults := PySem.Value.none } } : PySem.Obj) ::
    hdO P 20 ::
    hdO P 21 ::
    hdO P 22 ::
    hdO P 23 ::
    hdO P 24 ::
    (
    { cls := PySem.Value.none, data := PySem.Data.fields #[] } : PySem.Obj) ::
    hdO P 26 ::
    hdO P 27 ::
    (
    { cls := PySem.Value.none,
      data :=
        PySem.Data.func
          { name := PySem.Str.ofString "bisect_right", qualname := PySem.Str.ofString "bisect_right", params := (hdP (hdSt 2)), body := PySem.FuncBody.stmts (hdB (hdSt 2)), scope := (hdS (hdSt 2)), globals := 0, closure := [], defaults := PySem.Value.none,
            kwdefaults := PySem.Value.none } } : PySem.Obj) ::
    hdO P 29 ::
    hdO P 30 ::
    hdO P 31 ::
    hdO P 32 ::
    hdO P 33 ::
    (
    { cls := PySem.Value.none, data := PySem.Data.fields #[] } : PySem.Obj) ::
    hdO P 35 ::
    hdO P 36 ::
    (
    { cls := PySem.Value.none,
      data :=
        PySem.Data.func
          { name := PySem.Str.ofString "insort_left", qualname := PySem.Str.ofString "insort_left", params := (hdP (hdSt 3)), body := PySem.FuncBody.stmts (hdB (hdSt 3)), scope := (hdS (hdSt 3)), globals := 0, closure := [], defaults := PySem.Value.none,
            kwdefaults := PySem.Value.none } } : PySem.Obj) ::
    hdO P 38 ::
    hdO P 39 ::
    hdO P 40 ::
    hdO P 41 ::
    hdO P 42 ::
    (
    { cls := PySem.Value.none, data := PySem.Data.fields #[] } : PySem.Obj) ::
    hdO P 44 ::
    hdO P 45 ::
    (
    { cls := PySem.Value.none,
      data :=
        PySem.Data.func
          { name := PySem.Str.ofString "bisect_left", qualname := PySem.Str.ofString "bisect_left", params := (hdP (hdSt 4)), body := PySem.FuncBody.stmts (hdB (hdSt 4)), scope := (hdS (hdSt 4)), globals := 0, closure := [], defaults := PySem.Value.none,
            kwdefaults := PySem.Value.none } } : PySem.Obj) ::
    hdO P 47 ::
    hdO P 48 ::
    (
    { cls := PySem.Value.type "tuple", data := PySem.Data.seq #[] } : PySem.Obj) ::
    (
    { cls := PySem.Value.type "builtin_function_or_method", data := PySem.Data.fields #[PySem.Value.builtin "type.__prepare__", PySem.Value.type "type"] } : PySem.Obj) ::
    (
    { cls := PySem.Value.type "dict",
      data :=
        PySem.Data.dict
          #[{ hash := PySem.PyData.keyHash P (PySem.Str.ofString "__module__"), key := PySem.Value.str (PySem.Str.ofString "__module__") 252, val := PySem.Value.str (PySem.Str.ofString "cpy313.graphlib") 237 },
            { hash := PySem.PyData.keyHash P (PySem.Str.ofString "__qualname__"), key := PySem.Value.str (PySem.Str.ofString "__qualname__") 254, val := PySem.Value.str (PySem.Str.ofString "_NodeInfo") 253 },
            { hash := PySem.PyData.keyHash P (PySem.Str.ofString "__firstlineno__"), key := PySem.Value.str (PySem.Str.ofString "__firstlineno__") 256, val := PySem.Value.int 54 255 },
            { hash := PySem.PyData.keyHash P (PySem.Str.ofString "__slots__"), key := PySem.Value.str (PySem.Str.ofString "__slots__") 260, val := PySem.Value.ref 56 },
            { hash := PySem.PyData.keyHash P (PySem.Str.ofString "__init__"), key := PySem.Value.str (PySem.Str.ofString "__init__") 268, val := PySem.Value.ref 63 },
            { hash := PySem.PyData.keyHash P (PySem.Str.ofString "__static_attributes__"), key := PySem.Value.str (PySem.Str.ofString "__static_attributes__") 272, val := PySem.Value.ref 64 }]
          6 } : PySem.Obj) ::
    (
    { cls := PySem.Value.type "tuple", data := PySem.Data.seq #[] } : PySem.Obj) ::
    (
    { cls := PySem.Value.none, data := PySem.Data.fields #[PySem.Value.int 57 0, PySem.Value.int 4 0, PySem.Value.ref 62] } : PySem.Obj) ::
    (
    { cls := PySem.Value.type "code",
      data :=
        PySem.Data.fields
          #[PySem.Value.str (PySem.Str.ofString "_NodeInfo") 247, PySem.Value.str (PySem.Str.ofString "_NodeInfo") 248, PySem.Value.str (PySem.Str.ofString "/claim/cut.py") 249, PySem.Value.int 54 0, PySem.Value.int 0 0, PySem.Value.int 0 0,
            PySem.Value.int 0 0, PySem.Value.int 0 0, PySem.Value.ref 52, PySem.Value.bool false, PySem.Value.int 181 0, PySem.Value.ref 53, PySem.Value.none, PySem.Value.none, PySem.Value.none, PySem.Value.none, PySem.Value.int 250 0,
            PySem.Value.int 54 0, PySem.Value.str (PySem.Str.ofString "/claim/cut.py") 251] } : PySem.Obj) ::
    (
    { cls := PySem.Value.type "frame", slots := #[some (PySem.Value.ref 54), some (PySem.Value.ref 3), some (PySem.Value.ref 51), none, some (PySem.Value.str (PySem.Str.ofString "cpy313.graphlib") 237), none, some (PySem.Value.ref 0)] } : PySem.Obj) ::
    hdO P 56 ::
    hdO P 57 ::
    (
    { cls := PySem.Value.none, data := PySem.Data.fields #[] } : PySem.Obj) ::
    hdO P 59 ::
    hdO P 60 ::
    (
    { cls := PySem.Value.none,
      data :=
        PySem.Data.func
          { name := PySem.Str.ofString "__init__", qualname := PySem.Str.ofString "_NodeInfo.__init__", params := (hdP (hdIn (hdSt 8) 1)), body := PySem.FuncBody.stmts (hdB (hdIn (hdSt 8) 1)), scope := (hdS (hdIn (hdSt 8) 1)), globals := 0, closure := [], defaults := PySem.Value.none,
            kwdefaults := PySem.Value.none } } : PySem.Obj) ::
    hdO P 62 ::
    hdO P 63 ::
    hdO P 64 ::
    (
    { cls := PySem.Value.type "list", data := PySem.Data.seq #[PySem.Value.str (PySem.Str.ofString "node") 257, PySem.Value.str (PySem.Str.ofString "npredecessors") 258, PySem.Value.str (PySem.Str.ofString "successors") 259] 1 } : PySem.Obj) ::
    hdO P 66 ::
    hdO P 67 ::
    hdO P 68 ::
    hdO P 69 ::
    hdO P 70 ::
    (
    { cls := PySem.Value.type "super", data := PySem.Data.fields #[PySem.Value.ref 67, PySem.Value.ref 67, PySem.Value.ref 67] } : PySem.Obj) ::
    (
    { cls := PySem.Value.type "builtin_function_or_method", data := PySem.Data.fields #[PySem.Value.builtin "object.__init_subclass__", PySem.Value.ref 67] } : PySem.Obj) ::
    hdO P 73 ::
    (
    { cls := PySem.Value.type "builtin_function_or_method", data := PySem.Data.fields #[PySem.Value.builtin "type.__prepare__", PySem.Value.type "type"] } : PySem.Obj) ::
    (
    { cls := PySem.Value.type "dict",
      data :=
        PySem.Data.dict
          #[{ hash := PySem.PyData.keyHash P (PySem.Str.ofString "__module__"), key := PySem.Value.str (PySem.Str.ofString "__module__") 289, val := PySem.Value.str (PySem.Str.ofString "cpy313.graphlib") 237 },
            { hash := PySem.PyData.keyHash P (PySem.Str.ofString "__qualname__"), key := PySem.Value.str (PySem.Str.ofString "__qualname__") 291, val := PySem.Value.str (PySem.Str.ofString "CycleError") 290 },
            { hash := PySem.PyData.keyHash P (PySem.Str.ofString "__firstlineno__"), key := PySem.Value.str (PySem.Str.ofString "__firstlineno__") 293, val := PySem.Value.int 61 292 },
            { hash := PySem.PyData.keyHash P (PySem.Str.ofString "__static_attributes__"), key := PySem.Value.str (PySem.Str.ofString "__static_attributes__") 294, val := PySem.Value.ref 80 }]
          4 } : PySem.Obj) ::
    (
    { cls := PySem.Value.type "tuple", data := PySem.Data.seq #[] } : PySem.Obj) ::
    (
    { cls := PySem.Value.none, data := PySem.Data.fields #[] } : PySem.Obj) ::
    (
    { cls := PySem.Value.type "code",
      data :=
        PySem.Data.fields
          #[PySem.Value.str (PySem.Str.ofString "CycleError") 284, PySem.Value.str (PySem.Str.ofString "CycleError") 285, PySem.Value.str (PySem.Str.ofString "/claim/cut.py") 286, PySem.Value.int 61 0, PySem.Value.int 0 0, PySem.Value.int 0 0,
            PySem.Value.int 0 0, PySem.Value.int 0 0, PySem.Value.ref 76, PySem.Value.bool false, PySem.Value.int 181 0, PySem.Value.ref 77, PySem.Value.none, PySem.Value.none, PySem.Value.none, PySem.Value.none, PySem.Value.int 287 0,
            PySem.Value.int 61 0, PySem.Value.str (PySem.Str.ofString "/claim/cut.py") 288] } : PySem.Obj) ::
    (
    { cls := PySem.Value.type "frame", slots := #[some (PySem.Value.ref 78), some (PySem.Value.ref 3), some (PySem.Value.ref 75), none, some (PySem.Value.str (PySem.Str.ofString "cpy313.graphlib") 237), none, some (PySem.Value.ref 0)] } : PySem.Obj) ::
    hdO P 80 ::
    hdO P 81 ::
    hdO P 82 ::
    hdO P 83 ::
    (
    { cls := PySem.Value.type "super", data := PySem.Data.fields #[PySem.Value.ref 82, PySem.Value.ref 82, PySem.Value.ref 82] } : PySem.Obj) ::
    (
    { cls := PySem.Value.type "builtin_function_or_method", data := PySem.Data.fields #[PySem.Value.builtin "object.__init_subclass__", PySem.Value.ref 82] } : PySem.Obj) ::
    (
    { cls := PySem.Value.type "tuple", data := PySem.Data.seq #[] } : PySem.Obj) ::
    (
    { cls := PySem.Value.type "builtin_function_or_method", data := PySem.Data.fields #[PySem.Value.builtin "type.__prepare__", PySem.Value.type "type"] } : PySem.Obj) ::
    (
    { cls := PySem.Value.type "dict",
      data :=
        PySem.Data.dict
          #[{ hash := PySem.PyData.keyHash P (PySem.Str.ofString "__module__"), key := PySem.Value.str (PySem.Str.ofString "__module__") 307, val := PySem.Value.str (PySem.Str.ofString "cpy313.graphlib") 237 },
            { hash := PySem.PyData.keyHash P (PySem.Str.ofString "__qualname__"), key := PySem.Value.str (PySem.Str.ofString "__qualname__") 309, val := PySem.Value.str (PySem.Str.ofString "TopologicalSorter") 308 },
            { hash := PySem.PyData.keyHash P (PySem.Str.ofString "__firstlineno__"), key := PySem.Value.str (PySem.Str.ofString "__firstlineno__") 311, val := PySem.Value.int 63 310 },
            { hash := PySem.PyData.keyHash P (PySem.Str.ofString "__init__"), key := PySem.Value.str (PySem.Str.ofString "__init__") 321, val := PySem.Value.ref 100 },
            { hash := PySem.PyData.keyHash P (PySem.Str.ofString "_get_nodeinfo"), key := PySem.Value.str (PySem.Str.ofString "_get_nodeinfo") 330, val := PySem.Value.ref 107 },
            { hash := PySem.PyData.keyHash P (PySem.Str.ofString "add"), key := PySem.Value.str (PySem.Str.ofString "add") 342, val := PySem.Value.ref 114 },
            { hash := PySem.PyData.keyHash P (PySem.Str.ofString "prepare"), key := PySem.Value.str (PySem.Str.ofString "prepare") 348, val := PySem.Value.ref 119 },
            { hash := PySem.PyData.keyHash P (PySem.Str.ofString "get_ready"), key := PySem.Value.str (PySem.Str.ofString "get_ready") 358, val := PySem.Value.ref 126 },
            { hash := PySem.PyData.keyHash P (PySem.Str.ofString "is_active"), key := PySem.Value.str (PySem.Str.ofString "is_active") 365, val := PySem.Value.ref 133 },
            { hash := PySem.PyData.keyHash P (PySem.Str.ofString "__bool__"), key := PySem.Value.str (PySem.Str.ofString "__bool__") 372, val := PySem.Value.ref 140 },
            { hash := PySem.PyData.keyHash P (PySem.Str.ofString "done"), key := PySem.Value.str (PySem.Str.ofString "done") 386, val := PySem.Value.ref 147 },
            { hash := PySem.PyData.keyHash P (PySem.Str.ofString "_find_cycle"), key := PySem.Value.str (PySem.Str.ofString "_find_cycle") 399, val := PySem.Value.ref 154 },
            { hash := PySem.PyData.keyHash P (PySem.Str.ofString "static_order"), key := PySem.Value.str (PySem.Str.ofString "static_order") 406, val := PySem.Value.ref 161 },
            { hash := PySem.PyData.keyHash P (PySem.Str.ofString "__static_attributes__"), key := PySem.Value.str (PySem.Str.ofString "__static_attributes__") 411, val := PySem.Value.ref 162 }]
          14 } : PySem.Obj) ::
    (
    { cls := PySem.Value.type "tuple", data := PySem.Data.seq #[] } : PySem.Obj) ::
    (
    { cls := PySem.Value.none,
      data :=
        PySem.Data.fields
          #[PySem.Value.int 65 0, PySem.Value.int 4 0, PySem.Value.ref 99, PySem.Value.int 74 0, PySem.Value.int 4 0, PySem.Value.ref 106, PySem.Value.int 79 0, PySem.Value.int 4 0, PySem.Value.ref 113, PySem.Value.int 88 0,
            PySem.Value.int 4 0, PySem.Value.ref 118, PySem.Value.int 96 0, PySem.Value.int 4 0, PySem.Value.ref 125, PySem.Value.int 107 0, PySem.Value.int 4 0, PySem.Value.ref 132, PySem.Value.int 112 0, PySem.Value.int 4 0,
            PySem.Value.ref 139, PySem.Value.int 115 0, PySem.Value.int 4 0, PySem.Value.ref 146, PySem.Value.int 138 0, PySem.Value.int 4 0, PySem.Value.ref 153, PySem.Value.int 167 0, PySem.Value.int 4 0, PySem.Value.ref 160] } : PySem.Obj) ::
    (
    { cls := PySem.Value.type "code",
      data :=
        PySem.Data.fields
          #[PySem.Value.str (PySem.Str.ofString "TopologicalSorter") 302, PySem.Value.str (PySem.Str.ofString "TopologicalSorter") 303, PySem.Value.str (PySem.Str.ofString "/claim/cut.py") 304, PySem.Value.int 63 0, PySem.Value.int 0 0,
            PySem.Value.int 0 0, PySem.Value.int 0 0, PySem.Value.int 0 0, PySem.Value.ref 89, PySem.Value.bool false, PySem.Value.int 181 0, PySem.Value.ref 90, PySem.Value.none, PySem.Value.none, PySem.Value.none, PySem.Value.none,
            PySem.Value.int 305 0, PySem.Value.int 63 0, PySem.Value.str (PySem.Str.ofString "/claim/cut.py") 306] } : PySem.Obj) ::
    (
    { cls := PySem.Value.type "frame", slots := #[some (PySem.Value.ref 91), some (PySem.Value.ref 3), some (PySem.Value.ref 88), none, some (PySem.Value.str (PySem.Str.ofString "cpy313.graphlib") 237), none, some (PySem.Value.ref 0)] } : PySem.Obj) ::
    hdO P 93 ::
    hdO P 94 ::
    (
    { cls := PySem.Value.none, data := PySem.Data.fields #[] } : PySem.Obj) ::
    hdO P 96 ::
    hdO P 97 ::
    (
    { cls := PySem.Value.none,
      data :=
        PySem.Data.func
          { name := PySem.Str.ofString "__init__", qualname := PySem.Str.ofString "TopologicalSorter.__init__", params := (hdP (hdIn (hdSt 10) 0)), body := PySem.FuncBody.stmts (hdB (hdIn (hdSt 10) 0)), scope := (hdS (hdIn (hdSt 10) 0)), globals := 0, closure := [], defaults := PySem.Value.none,
            kwdefaults := PySem.Value.none } } : PySem.Obj) ::
    hdO P 99 ::
    hdO P 100 ::
    hdO P 101 ::
    (
    { cls := PySem.Value.none, data := PySem.Data.fields #[] } : PySem.Obj) ::
    hdO P 103 ::
    hdO P 104 ::
    (
    { cls := PySem.Value.none,
      data :=
        PySem.Data.func
          { name := PySem.Str.ofString "_get_nodeinfo", qualname := PySem.Str.ofString "TopologicalSorter._get_nodeinfo", params := (hdP (hdIn (hdSt 10) 1)), body := PySem.FuncBody.stmts (hdB (hdIn (hdSt 10) 1)), scope := (hdS (hdIn (hdSt 10) 1)), globals := 0, closure := [], defaults := PySem.Value.none,
            kwdefaults := PySem.Value.none } } : PySem.Obj) ::
    hdO P 106 ::
    hdO P 107 ::
    hdO P 108 ::
    (
    { cls := PySem.Value.none, data := PySem.Data.fields #[] } : PySem.Obj) ::
    hdO P 110 ::
    hdO P 111 ::
    (
    { cls := PySem.Value.none,
      data :=
        PySem.Data.func
          { name := PySem.Str.ofString "add", qualname := PySem.Str.ofString "TopologicalSorter.add", params := (hdP (hdIn (hdSt 10) 2)), body := PySem.FuncBody.stmts (hdB (hdIn (hdSt 10) 2)), scope := (hdS (hdIn (hdSt 10) 2)), globals := 0, closure := [], defaults := PySem.Value.none,
            kwdefaults := PySem.Value.none } } : PySem.Obj) ::
    hdO P 113 ::
    hdO P 114 ::
    hdO P 115 ::
    (
    { cls := PySem.Value.none, data := PySem.Data.fields #[] } : PySem.Obj) ::
    (
    { cls := PySem.Value.none,
      data :=
        PySem.Data.func
          { name := PySem.Str.ofString "prepare", qualname := PySem.Str.ofString "TopologicalSorter.prepare", params := (hdP (hdIn (hdSt 10) 3)), body := PySem.FuncBody.stmts (hdB (hdIn (hdSt 10) 3)), scope := (hdS (hdIn (hdSt 10) 3)), globals := 0, closure := [], defaults := PySem.Value.none,
            kwdefaults := PySem.Value.none } } : PySem.Obj) ::
    hdO P 118 ::
    hdO P 119 ::
    hdO P 120 ::
    (
    { cls := PySem.Value.none, data := PySem.Data.fields #[] } : PySem.Obj) ::
    hdO P 122 ::
    hdO P 123 ::
    (
    { cls := PySem.Value.none,
      data :=
        PySem.Data.func
          { name := PySem.Str.ofString "get_ready", qualname := PySem.Str.ofString "TopologicalSorter.get_ready", params := (hdP (hdIn (hdSt 10) 4)), body := PySem.FuncBody.stmts (hdB (hdIn (hdSt 10) 4)), scope := (hdS (hdIn (hdSt 10) 4)), globals := 0, closure := [], defaults := PySem.Value.none,
            kwdefaults := PySem.Value.none } } : PySem.Obj) ::
    hdO P 125 ::
    hdO P 126 ::
    hdO P 127 ::
    (
    { cls := PySem.Value.none, data := PySem.Data.fields #[] } : PySem.Obj) ::
    hdO P 129 ::
    hdO P 130 ::
    (
    { cls := PySem.Value.none,
      data :=
        PySem.Data.func
          { name := PySem.Str.ofString "is_active", qualname := PySem.Str.ofString "TopologicalSorter.is_active", params := (hdP (hdIn (hdSt 10) 5)), body := PySem.FuncBody.stmts (hdB (hdIn (hdSt 10) 5)), scope := (hdS (hdIn (hdSt 10) 5)), globals := 0, closure := [], defaults := PySem.Value.none,
            kwdefaults := PySem.Value.none } } : PySem.Obj) ::
    hdO P 132 ::
    hdO P 133 ::
    hdO P 134 ::
    (
    { cls := PySem.Value.none, data := PySem.Data.fields #[] } : PySem.Obj) ::
    hdO P 136 ::
    hdO P 137 ::
    (
    { cls := PySem.Value.none,
      data :=
        PySem.Data.func
          { name := PySem.Str.ofString "__bool__", qualname := PySem.Str.ofString "TopologicalSorter.__bool__", params := (hdP (hdIn (hdSt 10) 6)), body := PySem.FuncBody.stmts (hdB (hdIn (hdSt 10) 6)), scope := (hdS (hdIn (hdSt 10) 6)), globals := 0, closure := [], defaults := PySem.Value.none,
            kwdefaults := PySem.Value.none } } : PySem.Obj) ::
    hdO P 139 ::
    hdO P 140 ::
    hdO P 141 ::
    (
    { cls := PySem.Value.none, data := PySem.Data.fields #[] } : PySem.Obj) ::
    hdO P 143 ::
    hdO P 144 ::
    (
    { cls := PySem.Value.none,
      data :=
        PySem.Data.func
          { name := PySem.Str.ofString "done", qualname := PySem.Str.ofString "TopologicalSorter.done", params := (hdP (hdIn (hdSt 10) 7)), body := PySem.FuncBody.stmts (hdB (hdIn (hdSt 10) 7)), scope := (hdS (hdIn (hdSt 10) 7)), globals := 0, closure := [], defaults := PySem.Value.none,
            kwdefaults := PySem.Value.none } } : PySem.Obj) ::
    hdO P 146 ::
    hdO P 147 ::
    hdO P 148 ::
    (
    { cls := PySem.Value.none, data := PySem.Data.fields #[] } : PySem.Obj) ::
    hdO P 150 ::
    hdO P 151 ::
    (
    { cls := PySem.Value.none,
      data :=
        PySem.Data.func
          { name := PySem.Str.ofString "_find_cycle", qualname := PySem.Str.ofString "TopologicalSorter._find_cycle", params := (hdP (hdIn (hdSt 10) 8)), body := PySem.FuncBody.stmts (hdB (hdIn (hdSt 10) 8)), scope := (hdS (hdIn (hdSt 10) 8)), globals := 0, closure := [], defaults := PySem.Value.none,
            kwdefaults := PySem.Value.none } } : PySem.Obj) ::
    hdO P 153 ::
    hdO P 154 ::
    hdO P 155 ::
    (
    { cls := PySem.Value.none, data := PySem.Data.fields #[] } : PySem.Obj) ::
    hdO P 157 ::
    hdO P 158 ::
    (
    { cls := PySem.Value.none,
      data :=
        PySem.Data.func
          { name := PySem.Str.ofString "static_order", qualname := PySem.Str.ofString "TopologicalSorter.static_order", params := (hdP (hdIn (hdSt 10) 9)), body := PySem.FuncBody.stmts (hdB (hdIn (hdSt 10) 9)), scope := (hdS (hdIn (hdSt 10) 9)), globals := 0, closure := [], defaults := PySem.Value.none,
            kwdefaults := PySem.Value.none } } : PySem.Obj) ::
    hdO P 160 ::
    hdO P 161 ::
    hdO P 162 ::
    hdO P 163 ::
    hdO P 164 ::
    hdO P 165 ::
    hdO P 166 ::
    (
    { cls := PySem.Value.type "super", data := PySem.Data.fields #[PySem.Value.ref 164, PySem.Value.ref 164, PySem.Value.ref 164] } : PySem.Obj) ::
    (
    { cls := PySem.Value.type "builtin_function_or_method", data := PySem.Data.fields #[PySem.Value.builtin "object.__init_subclass__", PySem.Value.ref 164] } : PySem.Obj) ::
    hdO P 169 ::
    (
    { cls := PySem.Value.none, data := PySem.Data.fields #[] } : PySem.Obj) ::
    hdO P 171 ::
    hdO P 172 ::
    (
    { cls := PySem.Value.none,
      data :=
        PySem.Data.func
          { name := PySem.Str.ofString "_law_comes", qualname := PySem.Str.ofString "_law_comes", params := (hdP (hdSt 12)), body := PySem.FuncBody.stmts (hdB (hdSt 12)), scope := (hdS (hdSt 12)), globals := 0, closure := [], defaults := PySem.Value.none,
            kwdefaults := PySem.Value.none } } : PySem.Obj) ::
    hdO P 174 ::
    hdO P 175 ::
    hdO P 176 ::
    (
    { cls := PySem.Value.none, data := PySem.Data.fields #[] } : PySem.Obj) ::
    hdO P 178 ::
    hdO P 179 ::
    (
    { cls := PySem.Value.none,
      data :=
        PySem.Data.func
          { name := PySem.Str.ofString "_law_deeds", qualname := PySem.Str.ofString "_law_deeds", params := (hdP (hdSt 13)), body := PySem.FuncBody.stmts (hdB (hdSt 13)), scope := (hdS (hdSt 13)), globals := 0, closure := [], defaults := PySem.Value.none,
            kwdefaults := PySem.Value.none } } : PySem.Obj) ::
    hdO P 181 ::
    hdO P 182 ::
    hdO P 183 ::
    (
    { cls := PySem.Value.none, data := PySem.Data.fields #[] } : PySem.Obj) ::
    (
    { cls := PySem.Value.none,
      data :=
        PySem.Data.func
          { name := PySem.Str.ofString "_law_chains", qualname := PySem.Str.ofString "_law_chains", params := (hdP (hdSt 14)), body := PySem.FuncBody.stmts (hdB (hdSt 14)), scope := (hdS (hdSt 14)), globals := 0, closure := [], defaults := PySem.Value.none,
            kwdefaults := PySem.Value.none } } : PySem.Obj) ::
    hdO P 186 ::
    hdO P 187 ::
    hdO P 188 ::
    (
    { cls := PySem.Value.none, data := PySem.Data.fields #[] } : PySem.Obj) ::
    (
    { cls := PySem.Value.none,
      data :=
        PySem.Data.func
          { name := PySem.Str.ofString "_law_given", qualname := PySem.Str.ofString "_law_given", params := (hdP (hdSt 15)), body := PySem.FuncBody.stmts (hdB (hdSt 15)), scope := (hdS (hdSt 15)), globals := 0, closure := [], defaults := PySem.Value.none,
            kwdefaults := PySem.Value.none } } : PySem.Obj) ::
    hdO P 191 ::
    hdO P 192 ::
    hdO P 193 ::
    (
    { cls := PySem.Value.none, data := PySem.Data.fields #[] } : PySem.Obj) ::
    hdO P 195 ::
    hdO P 196 ::
    (
    { cls := PySem.Value.none,
      data :=
        PySem.Data.func
          { name := PySem.Str.ofString "_law_back", qualname := PySem.Str.ofString "_law_back", params := (hdP (hdSt 16)), body := PySem.FuncBody.stmts (hdB (hdSt 16)), scope := (hdS (hdSt 16)), globals := 0, closure := [], defaults := PySem.Value.none,
            kwdefaults := PySem.Value.none } } : PySem.Obj) ::
    hdO P 198 ::
    hdO P 199 ::
    hdO P 200 ::
    (
    { cls := PySem.Value.none, data := PySem.Data.fields #[] } : PySem.Obj) ::
    hdO P 202 ::
    hdO P 203 ::
    (
    { cls := PySem.Value.none,
      data :=
        PySem.Data.func
          { name := PySem.Str.ofString "law", qualname := PySem.Str.ofString "law", params := (hdP (hdSt 17)), body := PySem.FuncBody.stmts (hdB (hdSt 17)), scope := (hdS (hdSt 17)), globals := 0, closure := [], defaults := PySem.Value.none, kwdefaults := PySem.Value.none } } : PySem.Obj) ::
    hdO P 205 ::
    hdO P 206 :: [])) {}
theorem hd_size (w : World) : ((boot_heap w.params).isNs mainGlobals && (Array.mk [] : Array GenState).size == 0, (boot_heap w.params).objs.size, (boot_heap w.params).nsMap mainGlobals "__annotations__") = (true, 11, some (.ref 6)) := by kernel_rfl
theorem hd_run (w : World) (os : OsState) : topRun treeTable PySem.Challenge.pw_mr0333_01 w 11 (some (.ref 6)) 1391 ⟨boot_heap w.params, Array.mk [], boot_drawn, boot_toks, os⟩ (topStub PySem.Challenge.pw_mr0333_01) = some ⟨hdH1 w.params, Array.mk [], {}, 482, os⟩ := by
  rw [PySem.W.Fast.te14082659384304107361, PySem.W.Fast.te14364793385576792824]
  kernel_rfl
theorem hd_look1 (w : World) (os : OsState) : (staticsOk (importedModules PySem.Challenge.pw_mr0333_01.main.body) (boot_heap w.params) (hdH1 w.params) && namesBound PySem.Challenge.pw_mr0333_01 (hdH1 w.params) && gensDone ⟨hdH1 w.params, Array.mk [], {}, 482, os⟩ && laidKept (boot_heap w.params) (hdH1 w.params)) = true := by kernel_rfl
theorem hd_look2 (w : World) (os : OsState) : openSeen hd.view_39 hdLoose (importedModules PySem.Challenge.pw_mr0333_01.main.body) (fun s => xlAt hd.view_39 [] s && recOk (RowW.records PySem.Challenge.rw_mr0333_01.row.toRowW) s) true ⟨hdH1 w.params, Array.mk [], {}, 482, os⟩ = openGood hd.view_39 hdLoose := by
  rw [show @openSeen = PySem.W.Fast.tw4187177175401517315 from PySem.W.Fast.te4187177175401517315]
  kernel_rfl
theorem hd_look3 (w : World) (os : OsState) : hdHook.obs ⟨hdH1 w.params, Array.mk [], {}, 482, os⟩ = hdHook.val w := by kernel_rfl
theorem hd_left : LeftO PySem.Challenge.pw_mr0333_01 hd.view_39 hdLoose (fun s => xlAt hd.view_39 [] s && recOk (RowW.records PySem.Challenge.rw_mr0333_01.row.toRowW) s) hdHook.obs hdHook.val 2868 :=
  LeftO.of_pieces hd_open hd_size hd_run (by decide) fun w => funext fun os => looks_pair (hd_look1 w os) (looks_pair (hd_look2 w os) (hd_look3 w os))
theorem hd {d : DefRec} {kwd : List (Str × Expr)} (hdef : defOf hd.view_39 PySem.Challenge.rw_mr0333_01.row.name = some (d, kwd))
    (hp : PySem.Challenge.rw_mr0333_01.row.prog.theDef PySem.Challenge.rw_mr0333_01.row.name = some (d.params, d.body, d.scope)) (hk : kwWritten? d.params.kwonlyargs d.params.kw_defaults = some kwd)
    (call : WalkO hd.view_39 [Str.ofString "bisect_right", Str.ofString "insort_left", Str.ofString "bisect_left", Str.ofString "_NodeInfo"] (XL hd.view_39 []) (kmHook hd.heap_39 hdAs hd_keys [194]).says PySem.Challenge.rw_mr0333_01.row.toRowW d kwd fun f vs => PySem.call f vs) :
    PySem.Challenge.rw_mr0333_01.Holds := by
  refine holds_law hd_said fun said => holds_open (q := hd.view_39) (loose := hdLoose) (Xt := fun s => xlAt hd.view_39 [] s && recOk (RowW.records PySem.Challenge.rw_mr0333_01.row.toRowW) s) (XP := XL hd.view_39 []) (Yf := Hook.obs hdHook) (Ya := Hook.val hdHook) (YP := Hook.says hdHook) (N := 2868)
    hd_left (Hook.of hdHook) (Hook.keeps hdHook) (fun s e => xl_of s (Bool.and_eq_true_iff.mp e).1) XL.keeps hdef hp hk (fun s e => recFacts_of (Bool.and_eq_true_iff.mp e).2) (by rfl) said (by decide +kernel) ⟨rfl, rfl, rfl, rfl, rfl, by decide +kernel⟩ ?hw call
  case hw => w_witness2
end Mine
-- B0
namespace Mine
open PySem PySem.W PyProof.Rows
section
variable {prog : Program} {w : World} {A A₀ : Around} {s : Shared} {K : Frag} {L : Addr} {h₀ base : Heap} {m mg mb : Str → Option Value} {news : List (Addr × Obj)} {p : Program} {loose : List Str} {mean : ExcName → Option Value}

/-- a def entered; nothing comes out as an exception -/
theorem enterD {env : Env} {outer : List Env} {R : Result → Shared → Prop} {name qual : Str} {params : Arguments} {body : List Stmt} {scope : Scope} {dV kV doc pm cdv ct oc : Value} {an od : Option Addr} {osl : Array (Option Value)} {f : Addr} {args : Args} {binds : List (Str × Value)}
    (B : Below A₀ base outer h₀) (F : Fr h₀ L s.heap m) (X₀ : K.In h₀) (N : News h₀ L s.heap news) (T : Top p loose mean mg mb h₀) (hA : A.frames = some (env :: outer)) (hf : env.frame = some L) (hke : env.scope.kind = .function)
    (ho : K.lookup f = some ⟨oc, od, .func (fnOf name qual params body scope dV kV doc pm an cdv ct), osl⟩) (hcd : codeIn K cdv qual = true) (hroom : A.depth < recursionLimit)
    (hbind : BindsTo s (fnOf name qual params body scope dV kV doc pm an cdv ct) args binds) (hloc : ∀ y ∈ binds, scope.names.lookup y.1 = some .local)
    (h : ∀ g L' h₁, Fr h₀ L g m → Fr g L' h₁ (fun y => binds.reverse.lookup y) → News g L' h₁ news → Below A base (env :: outer) g → K.In g → Top p loose mean mg mb g →
      (A.deeper (envOf qual scope L' f cdv)).frames = some (envOf qual scope L' f cdv :: env :: outer) →
      wpAny (model prog w) (A.deeper (envOf qual scope L' f cdv)) (execs body (envOf qual scope L' f cdv))
        (fun fl s' => LeaveK h₀ L m g R (match fl with | .ret v => v | _ => .none) s')
        (fun _ _ => False)
        { s with heap := h₁, toks := s.toks + binds.length })
    (hco : scope.isCoroutine = false) (hgen : scope.isGenerator = false) (hk : scope.kind = .function)
    (hcell : ∀ x ∈ scope.names, x.2 ≠ .cell) : codeAny (model prog w) A (.call (.ref f) args) R s :=
  code_def B F X₀ N T hA hf hke ho hcd hroom hbind hloc (fun g L' h₁ a b c d e t => wpAny_mono (h g L' h₁ a b c d e t (by show A.frames.map _ = _; rw [hA]; rfl)) (fun _ _ x => x) fun _ _ x => x.elim) hco hgen hk hcell

def WPost {σ : Type} (I : σ → Heap → Prop) (μ : σ → Nat) (c : σ) (s : Shared) (Q : Flow → Shared → Prop) (f : Flow) (s₃ : Shared) : Prop := match f with
  | .brk => Q .next s₃
  | .ret v => Q (.ret v) s₃
  | _ => ∃ c' h' tk', s₃ = { s with heap := h', toks := tk' } ∧ μ c' < μ c ∧ I c' h'

theorem while_inv {σ : Type} {env : Env} {test : Expr} {body orelse : List Stmt} {pos : Pos} {Q : Flow → Shared → Prop} (I : σ → Heap → Prop) (μ : σ → Nat) (c₀ : σ) (h0 : I c₀ s.heap)
    (turn : ∀ c h tk, I c h → wpAny (model prog w) A (isTrue test env (eval test env)) (fun b s₂ =>
        if b = true then wpAny (model prog w) A (execs body env) (WPost I μ c s Q) (fun _ _ => False) s₂
        else wpAny (model prog w) A (execs orelse env) Q (fun _ _ => False) s₂) (fun _ _ => False) { s with heap := h, toks := tk }) :
    wpAny (model prog w) A (exec (.While test body orelse pos) env) Q (fun _ _ => False) s := by
  refine wpAny_While (codeAny_whileLoop (fun n s' => ∃ c h tk, s' = { s with heap := h, toks := tk } ∧ μ c = n ∧ I c h) ?_ (μ c₀) ⟨c₀, s.heap, s.toks, rfl, rfl, h0⟩)
  rintro n s' ⟨c, h, tk, rfl, rfl, hI⟩
  refine wpAny_mono (turn c h tk hI) (fun b s₂ h₂ => ?_) (fun _ _ x => x.elim)
  cases b with
  | false =>
    simp only [Bool.false_eq_true, if_false] at h₂ ⊢
    exact wpAny_mono h₂ (fun _ _ x => x) fun _ _ x => x.elim
  | true =>
    simp only [if_true] at h₂ ⊢
    refine wpAny_mono h₂ (fun f s₃ h₃ => ?_) fun _ _ x => x.elim
    cases f with
    | next => obtain ⟨c', h', tk', e, l, i⟩ := h₃; exact ⟨μ c', l, c', h', tk', e, rfl, i⟩
    | cont => obtain ⟨c', h', tk', e, l, i⟩ := h₃; exact ⟨μ c', l, c', h', tk', e, rfl, i⟩
    | brk => exact h₃
    | ret v => exact h₃
end
end Mine
-- B1
namespace Mine
open PySem PySem.W PyProof.Rows
/-- where a def of the text is called from: a frame of a def, its ground, its ledger -/
structure Cx (w : World) (A A₀ : Around) (env : Env) (outer : List Env) (base h₀ : Heap) (L : Addr) (m mg mb : Str → Option Value) (p : Program) (loose : List Str) (mean : ExcName → Option Value) (h : Heap) (news : List (Addr × Obj)) (d : Nat) : Prop where
  B : Below A₀ base outer h₀
  F : Fr h₀ L h m
  X : (hd.heap_39 w.params).In h₀
  N : News h₀ L h news
  T : Top p loose mean mg mb h₀
  hA : A.frames = some (env :: outer)
  hf : env.frame = some L
  hke : env.scope.kind = .function
  dep : A.depth ≤ d
  hh : A.handled = none

section
variable {prog : Program} {w : World} {A : Around} {E : Value → Shared → Prop} {s : Shared} {h₀ : Heap} {L l : Addr} {news : List (Addr × Obj)}
theorem my_len {us : List Value} {c : Nat} {Q : Value → Shared → Prop} (N : News h₀ L s.heap news) (hm : (l, W.listOf us.toArray c) ∈ news) (hz : us.length < 2 ^ 63)
    (h : ∀ t tk, Q (.int us.length t) { s with toks := tk }) : wpAny (model prog w) A (call (.builtin "len") [.ref l]) Q E s :=
  kst_len N hm rfl (by omega) (h _ _)
theorem my_item {value slice : Expr} {us : List Value} {xs : List Int} {c : Nat} {k : Int} {u : Tok} {Q : Value → Shared → Prop} (N : News h₀ L s.heap news) (hm : (l, W.listOf us.toArray c) ∈ news) (hi : IntsAre us xs)
    (h0 : 0 ≤ k) (h1 : k < xs.length) (hz : us.length < 2 ^ 63) (h : ∀ t, Q (.int (xs.getD k.toNat 0) t) s)
    (hs : subscripted slice false (.ref l) (.int k u) = operate [.ref l, .int k u] (getItem (.ref l) (.int k u)) := by with_unfolding_all rfl) :
    wpAny (model prog w) A (subscriptTail value slice (.ref l) (.int k u)) Q E s := by
  have hl := hi.length
  have hlt : k.toNat < us.length := by omega
  obtain ⟨t, ht⟩ := hi.int_at k.toNat us[k.toNat] (by simp [hlt])
  exact item_litK (v := .int (xs.getD k.toNat 0) t) (News.isList N hm) h0 (by omega) (by rw [List.getElem?_eq_getElem hlt, ht]) (h t) hs
end

/-- a row in rising order -/
def Rising (xs : List Int) : Prop := ∀ i j, i < j → j < xs.length → xs.getD i 0 < xs.getD j 0

end Mine
-- B2
namespace Mine
open PySem PySem.W PyProof.Rows
theorem ne_of_nm {a : Addr} {l : List (Addr × Obj)} (h : a ∉ l.map (·.1)) : ∀ p ∈ l, p.1 ≠ a := fun p hp e => h (List.mem_map.mpr ⟨p, hp, e⟩)
theorem ne_of_lt {a : Addr} {l : List (Addr × Obj)} (h : ∀ p ∈ l, p.1 < a) : ∀ p ∈ l, p.1 ≠ a := fun p hp => Nat.ne_of_lt (h p hp)
theorem ne_of_allLt {a : Addr} {l : List (Addr × Obj)} (h : AllLt a l) : ∀ p ∈ l, p.1 ≠ a := fun p hp => Nat.ne_of_lt (kst_ltOf h p hp)
theorem news_rot3 {h₀ h : Heap} {L : Addr} {a b c : Addr × Obj} {r : List (Addr × Obj)} (N : News h₀ L h (a :: b :: c :: r)) : News h₀ L h (b :: c :: a :: r) := fun p hp => N p (by
  simp only [List.mem_cons] at hp ⊢
  rcases hp with h | h | h | h
  · exact .inr (.inl h)
  · exact .inr (.inr (.inl h))
  · exact .inl h
  · exact .inr (.inr (.inr h)))
theorem kl_ins_at {vs : List Value} {k : Nat} {y : Value} (hk : k ≤ vs.length) : kl_ins vs (k : Int) y = vs.take k ++ y :: vs.drop k := by
  unfold kl_ins
  have e : ¬ ((k : Int) < 0) := by omega
  simp only [e, if_false, Int.toNat_natCast, Nat.min_eq_left hk]
theorem IntsAre.insAt {vs : List Value} {xs : List Int} {k : Nat} {y : Int} {t : Tok} (h : IntsAre vs xs) : IntsAre (vs.take k ++ .int y t :: vs.drop k) (xs.take k ++ y :: xs.drop k) :=
  IntsAre.append (h.take k) (.cons _ _ (h.drop k))
section
variable {prog : Program} {w : World} {A : Around} {E : Value → Shared → Prop} {s : Shared} {h₀ : Heap} {L D : Addr} {m : Str → Option Value} {news news' : List (Addr × Obj)}
theorem my_insert {vs : List Value} {n k : Nat} {u : Tok} {y : Value} {Q : Value → Shared → Prop} (F : Fr h₀ L s.heap m) (N : News h₀ L s.heap news)
    (U : Upd D (W.listOf vs.toArray n) (W.listOf (vs.take k ++ y :: vs.drop k).toArray (n + 1)) news news') (hk : k ≤ vs.length) (hz : vs.length ≤ 10000) (h : ∀ h', Fr h₀ L h' m → News h₀ L h' news' → Q .none { s with heap := h' }) :
    wpAny (model prog w) A (call (.builtin "list.insert") [.ref D, .int (k : Int) u, y]) Q E s := by
  refine kl_insert F N ?_ (kl_ins_at (vs := vs) (y := y) hk) U (by show vs.length ≤ _; rw [sizeLine_eq]; omega) h
  unfold Builtin.List.listFitsIndex
  simp; omega
end
end Mine
-- G0
namespace Mine
open PySem PySem.W PyProof.Rows
/-- one node of the sorter's table: its info object, the info's dict, its list of successors -/
structure NodeR where
  key : Int
  kt : Tok
  info : Addr
  idict : Addr
  succ : Addr
  np : Int
  nt : Tok
  svs : List Value
  ss : List Int
  sn : Nat

abbrev infoO (idict succ : Addr) (np : Int) (nt : Tok) (key : Int) (kt : Tok) : Obj := ⟨.ref 67, some idict, .plain, [some (.int key kt), some (.int np nt), some (.ref succ)].toArray⟩
abbrev nseg (r : NodeR) : List (Addr × Obj) := [(r.info, infoO r.idict r.succ r.np r.nt r.key r.kt), (r.idict, dictOf [] 0), (r.succ, W.listOf r.svs.toArray r.sn)]
abbrev kvG (G : List NodeR) : List (Int × Value) := G.map fun r => (r.key, .ref r.info)
abbrev sattr (P : Params) (t1 t2 t3 t4 : Tok) (D : Addr) (rv : Value) (po : Int) (tp : Tok) (nf : Int) (tf : Tok) : Obj :=
  dictOf [⟨PyData.keyHash P (Str.ofString "_node2info"), .str (Str.ofString "_node2info") t1, .ref D⟩, ⟨PyData.keyHash P (Str.ofString "_ready_nodes"), .str (Str.ofString "_ready_nodes") t2, rv⟩,
    ⟨PyData.keyHash P (Str.ofString "_npassedout"), .str (Str.ofString "_npassedout") t3, .int po tp⟩, ⟨PyData.keyHash P (Str.ofString "_nfinished"), .str (Str.ofString "_nfinished") t4, .int nf tf⟩] 4

/-- no two entries at one address -/
abbrev ND (l : List (Addr × Obj)) : Prop := (l.map (·.1)).Nodup

theorem valueAt_kvG_none {G : List NodeR} {v : Int} : valueAt (kvG G) v = none ↔ ∀ r ∈ G, r.key ≠ v := by
  unfold valueAt kvG
  simp [List.find?_eq_none]
theorem valueAt_kvG_some {G : List NodeR} {v : Int} {x : Value} (h : valueAt (kvG G) v = some x) : ∃ r ∈ G, r.key = v ∧ x = .ref r.info := by
  unfold valueAt kvG at h
  rw [Option.map_eq_some_iff] at h
  obtain ⟨⟨k, y⟩, h1, h2⟩ := h
  have hm := List.mem_of_find?_eq_some h1
  have hp := List.find?_some h1
  obtain ⟨r, hr, e⟩ := List.mem_map.mp hm
  cases e
  exact ⟨r, hr, by simpa using hp, h2.symm⟩
theorem valueAt_kvG_of {G : List NodeR} {r : NodeR} (hn : ((kvG G).map (·.1)).Nodup) (hr : r ∈ G) : valueAt (kvG G) r.key = some (.ref r.info) := by
  obtain ⟨i, hi, e⟩ := List.mem_iff_getElem.mp hr
  exact valueAt_of_get hn (i := i) (by simp [kvG, hi, e])
theorem stored_kvG_new {G : List NodeR} {v : Int} {x : Value} (h : ∀ r ∈ G, r.key ≠ v) : stored (kvG G) v x = kvG G ++ [(v, x)] := by
  unfold stored
  rw [if_neg]
  simpa using h

/-- the sorter's fixed parts: the object, its dict, its table; the tokens of its dict's keys -/
structure Srt where
  S : Addr
  dS : Addr
  D : Addr
  t1 : Tok
  t2 : Tok
  t3 : Tok
  t4 : Tok
abbrev gl (w : World) (σ : Srt) (rv : Value) (po : Int) (tp : Tok) (nf : Int) (tf : Tok) (oD : Obj) (G : List NodeR) (rest : List (Addr × Obj)) : List (Addr × Obj) :=
  (σ.S, instObj 164 σ.dS) :: (σ.dS, sattr w.params σ.t1 σ.t2 σ.t3 σ.t4 σ.D rv po tp nf tf) :: (σ.D, oD) :: (G.flatMap nseg ++ rest)
abbrev dG (w : World) (oD : Obj) (G : List NodeR) : Prop := oD.IsDictOf (intKind PySem.Challenge.rw_mr0333_01.row.prog w) (kvG G)

structure GlNd (σ : Srt) (tl : List (Addr × Obj)) : Prop where
  a : σ.S ≠ σ.dS
  b : σ.S ≠ σ.D
  c : σ.dS ≠ σ.D
  sS : σ.S ∉ tl.map (·.1)
  sd : σ.dS ∉ tl.map (·.1)
  sD : σ.D ∉ tl.map (·.1)
  nd : ND tl
theorem gl_nd {w : World} {σ : Srt} {rv : Value} {po nf : Int} {tp tf : Tok} {oD : Obj} {G : List NodeR} {rest : List (Addr × Obj)} : ND (gl w σ rv po tp nf tf oD G rest) ↔ GlNd σ (G.flatMap nseg ++ rest) := by
  show (σ.S :: σ.dS :: σ.D :: (G.flatMap nseg ++ rest).map (·.1)).Nodup ↔ _
  simp only [List.nodup_cons, List.mem_cons, not_or]
  constructor
  · rintro ⟨⟨a, b, c⟩, ⟨d, e⟩, f, g⟩; exact ⟨a, b, d, c, e, f, g⟩
  · rintro ⟨a, b, d, c, e, f, g⟩; exact ⟨⟨a, b, c⟩, ⟨d, e⟩, f, g⟩

theorem gl_add_news {w : World} {σ : Srt} {rv : Value} {po nf : Int} {tp tf : Tok} {oD : Obj} {G : List NodeR} {rest : List (Addr × Obj)} {r : NodeR} {h₀ h : Heap} {L : Addr}
    (N : News h₀ L h ((r.info, infoO r.idict r.succ r.np r.nt r.key r.kt) :: (r.idict, dictOf [] 0) :: (r.succ, W.listOf r.svs.toArray r.sn) :: gl w σ rv po tp nf tf oD G rest)) : News h₀ L h (gl w σ rv po tp nf tf oD (G ++ [r]) rest) := by
  intro p hp
  refine N p ?_
  simp only [gl, List.flatMap_append, List.flatMap_cons, List.flatMap_nil, List.append_nil, List.mem_cons, List.mem_append, List.not_mem_nil, or_false] at hp ⊢
  rcases hp with h | h | h | (h | (h | h | h)) | h <;> simp only [h, true_or, or_true]
theorem gl_add_nd {σ : Srt} {G : List NodeR} {rest : List (Addr × Obj)} {r : NodeR} (g : GlNd σ (G.flatMap nseg ++ rest)) (l0 : σ.S < r.idict ∧ σ.dS < r.idict ∧ σ.D < r.idict) (l1 : ∀ p ∈ G.flatMap nseg ++ rest, p.1 < r.idict) (l2 : r.idict < r.info) (l3 : r.info < r.succ) :
    GlNd σ ((G ++ [r]).flatMap nseg ++ rest) := by
  have hp : List.Perm (((G ++ [r]).flatMap nseg ++ rest).map (·.1)) (r.info :: r.idict :: r.succ :: (G.flatMap nseg ++ rest).map (·.1)) := by
    simp only [List.flatMap_append, List.flatMap_cons, List.flatMap_nil, List.append_nil, List.map_append, List.map_cons, List.map_nil, List.append_assoc]
    exact List.perm_append_comm_assoc _ [r.info, r.idict, r.succ] _
  have lm : ∀ a ∈ (G.flatMap nseg ++ rest).map (·.1), a < r.idict := fun a ha => by obtain ⟨p, hp, rfl⟩ := List.mem_map.mp ha; exact l1 p hp
  have out : ∀ a, a < r.idict → a ∉ (G.flatMap nseg ++ rest).map (·.1) → a ∉ ((G ++ [r]).flatMap nseg ++ rest).map (·.1) := by
    intro a ha hn hm
    have := hp.mem_iff.mp hm
    simp only [List.mem_cons] at this
    rcases this with h | h | h | h
    · exact absurd (h ▸ ha) (Nat.not_lt.mpr (Nat.le_of_lt l2))
    · exact absurd (h ▸ ha) (Nat.lt_irrefl _)
    · exact absurd (h ▸ ha) (Nat.not_lt.mpr (Nat.le_of_lt (Nat.lt_trans l2 l3)))
    · exact hn h
  refine ⟨g.a, g.b, g.c, out _ l0.1 g.sS, out _ l0.2.1 g.sd, out _ l0.2.2 g.sD, ?_⟩
  show (((G ++ [r]).flatMap nseg ++ rest).map (·.1)).Nodup
  rw [hp.nodup_iff]
  simp only [List.nodup_cons, List.mem_cons, not_or]
  exact ⟨⟨Nat.ne_of_gt l2, Nat.ne_of_lt l3, fun h => absurd (lm _ h) (Nat.not_lt.mpr (Nat.le_of_lt l2))⟩, ⟨Nat.ne_of_lt (Nat.lt_trans l2 l3), fun h => absurd (lm _ h) (Nat.lt_irrefl _)⟩,
    fun h => absurd (lm _ h) (Nat.not_lt.mpr (Nat.le_of_lt (Nat.lt_trans l2 l3))), g.nd⟩
theorem kvG_add {w : World} {oD : Obj} {G : List NodeR} {r : NodeR} (hn : ∀ q ∈ G, q.key ≠ r.key) (h : oD.IsDictOf (intKind PySem.Challenge.rw_mr0333_01.row.prog w) (stored (kvG G) r.key (.ref r.info))) : dG w oD (G ++ [r]) := by
  rw [stored_kvG_new hn] at h
  show oD.IsDictOf _ (kvG (G ++ [r]))
  unfold kvG at h ⊢
  rw [List.map_append]; exact h
end Mine
-- B3
namespace Mine
open PySem PySem.W PyProof.Rows
section
variable {prog : Program} {w : World} {A : Around} {s : Shared} {env : Env} {h₀ : Heap} {target : Expr} {body : List Stmt} {Q : Flow → Shared → Prop} {m : Str → Option Value} {news : List (Addr × Obj)}

/-- a turn's end: the iterator and its source stand as they stood -/
def FPost (h₀ : Heap) (L I : Addr) (oI : Obj) (src : List (Addr × Obj)) (Jn : (Str → Option Value) → List (Addr × Obj) → Prop) (s₀ : Shared) (Q : Flow → Shared → Prop) (f : Flow) (s' : Shared) : Prop := match f with
  | .brk => Q .next s'
  | .ret v => Q (.ret v) s'
  | _ => ∃ h' tk' m' news', s' = { s₀ with heap := h', toks := tk' } ∧ Fr h₀ L h' m' ∧ News h₀ L h' ((I, oI) :: news') ∧ (∀ p ∈ src, p ∈ news') ∧ I ∉ news'.map (·.1) ∧ Jn m' news'

def ForL (prog : Program) (w : World) (A : Around) (env : Env) (target : Expr) (body : List Stmt) (Q : Flow → Shared → Prop) (xv : Value) (s : Shared) : Prop :=
  wpAny (model prog w) A (pyIter xv) (fun it s₂ => codeAny (model prog w) A (.forLoop target it body [] env) (fun r s' => match r with | .ok f => Q f s' | .error e => cameBackBy (model prog w) A env (fun _ _ => False) e s') s₂) (fun _ _ => False) s

theorem For_start {iter : Expr} {pos : Pos} (h : wpAny (model prog w) A (eval iter env) (fun xv s₁ => ForL prog w A env target body Q xv s₁) (fun _ _ => False) s)
    (hs : ∀ x, foldedSetIterable iter env x = pure x := by intro _; rfl) : wpAny (model prog w) A (exec (.For target iter body [] pos) env) Q (fun _ _ => False) s := wpAny_For h hs

theorem for_led {I : Addr} {src : List (Addr × Obj)} {n : Nat} {P : Nat → Value → Prop} {St : Nat → Heap → Prop} (W : Walks prog w A I (I :: src.map (·.1)) [I] n P St) (hI : h₀.get? I = none) (hIL : I ≠ env.locals)
    (hlive : ∀ i h, St i h → ∃ oI, h.get? I = some oI) (hst : St 0 s.heap) (F : Fr h₀ env.locals s.heap m) (N : News h₀ env.locals s.heap news) (hsrc : ∀ p ∈ src, p ∈ news) (hnI : I ∉ news.map (·.1))
    (J : Nat → (Str → Option Value) → List (Addr × Obj) → Prop) (h0 : J 0 m news) (ht : ∀ v, letOwnedTupleGo target (.ref I) v = pure ())
    (turn : ∀ i v m₁ news₁ oI h tk, i < n → P i v → J i m₁ news₁ → (∀ p ∈ src, p ∈ news₁) → I ∉ news₁.map (·.1) → Fr h₀ env.locals h m₁ → News h₀ env.locals h ((I, oI) :: news₁) →
      wpAny (model prog w) A (assign target env v) (fun _ s₂ => wpAny (model prog w) A (execs body env) (FPost h₀ env.locals I oI src (J (i + 1)) s Q) (fun _ _ => False) s₂) (fun _ _ => False) { s with heap := h, toks := tk })
    (done : ∀ m' news' h tk, Fr h₀ env.locals h m' → News h₀ env.locals h news' → (∀ p ∈ src, p ∈ news') → J n m' news' → Q .next { s with heap := h, toks := tk }) :
    codeAny (model prog w) A (.forLoop target (.ref I) body [] env) (fun r s' => match r with | .ok f => Q f s' | .error e => cameBackBy (model prog w) A env (fun _ _ => False) e s') s := by
  refine codeAny_forLoop (fun k s' => ∃ h' tk m' news' i, s' = { s with heap := h', toks := tk } ∧ St i h' ∧ Fr h₀ env.locals h' m' ∧ News h₀ env.locals h' news' ∧ (∀ p ∈ src, p ∈ news') ∧ I ∉ news'.map (·.1) ∧ J i m' news' ∧ i ≤ n ∧ k = n + 1 - i) ?_ (n + 1)
    ⟨s.heap, s.toks, m, news, 0, rfl, hst, F, N, hsrc, hnI, h0, Nat.zero_le _, rfl⟩ ht
  rintro k s' ⟨h', tk, m', news', i, rfl, hst', F', N', hsrc', hnI', hJ, hi, rfl⟩
  have next : ∀ h₁ : Heap, (∀ b o, b ∉ [I] → h'.get? b = some o → h₁.get? b = some o) → Fr h₀ env.locals h₁ m' ∧ News h₀ env.locals h₁ news' := fun h₁ hk₁ =>
    ⟨⟨F'.ns.at' fun o e => hk₁ _ o (by simpa using fun e => hIL e.symm) e, fun b o e => hk₁ b o (fun q => by rw [List.mem_singleton.mp q, hI] at e; cases e) (F'.keep b o e), F'.above⟩,
     fun p hp => ⟨hk₁ _ _ (fun q => hnI' (List.mem_map.mpr ⟨p, hp, List.mem_singleton.mp q⟩)) (N' p hp).1, (N' p hp).2⟩⟩
  by_cases hlt : i < n
  · refine W.item i _ _ _ hlt hst' fun v h₁ tk₁ hP hst₁ hk₁ => ?_
    obtain ⟨F₁, N₁⟩ := next h₁ hk₁
    obtain ⟨oI, hoI⟩ := hlive _ _ hst₁
    have N₂ : News h₀ env.locals h₁ ((I, oI) :: news') := fun p hp => by
      rcases List.mem_cons.mp hp with rfl | hp
      · exact ⟨hoI, hIL, hI⟩
      · exact N₁ p hp
    refine wpAny_mono (turn i v m' news' oI h₁ tk₁ hlt hP hJ hsrc' hnI' F₁ N₂) (fun _ s₂ h₂ => wpAny_mono h₂ (fun f s₃ h₃ => ?_) fun _ _ x => x.elim) fun _ _ x => x.elim
    have fin : (∃ h' tk' m' news', s₃ = { s with heap := h', toks := tk' } ∧ Fr h₀ env.locals h' m' ∧ News h₀ env.locals h' ((I, oI) :: news') ∧ (∀ p ∈ src, p ∈ news') ∧ I ∉ news'.map (·.1) ∧ J (i + 1) m' news') →
        ∃ m_1, m_1 < n + 1 - i ∧ ∃ h' tk m' news' i, s₃ = { s with heap := h', toks := tk } ∧ St i h' ∧ Fr h₀ env.locals h' m' ∧ News h₀ env.locals h' news' ∧ (∀ p ∈ src, p ∈ news') ∧ I ∉ news'.map (·.1) ∧ J i m' news' ∧ i ≤ n ∧ m_1 = n + 1 - i := by
      rintro ⟨h₃', tk₃, m₂, news₂, rfl, F₃, N₃, hs₃, hn₃, hJ₃⟩
      refine ⟨n + 1 - (i + 1), by omega, h₃', tk₃, m₂, news₂, i + 1, rfl, ?_, F₃, fun p hp => N₃ p (.tail _ hp), hs₃, hn₃, hJ₃, hlt, rfl⟩
      refine W.frame _ _ _ hst₁ fun b hb o e => ?_
      rcases List.mem_cons.mp hb with rfl | hb
      · rw [hoI] at e; cases e; exact (N₃ _ (.head _)).1
      · obtain ⟨p, hp, rfl⟩ := List.mem_map.mp hb
        have := (N₁ p (hsrc' p hp)).1
        rw [this] at e; cases e
        exact (N₃ _ (.tail _ (hs₃ p hp))).1
    cases f with
    | ret v => exact h₃
    | brk => exact h₃
    | cont => exact fin h₃
    | next => exact fin h₃
  · have hin : i = n := by omega
    subst hin
    refine W.done _ _ _ hst' fun h₁ tk₁ hk₁ => wpAny_execs_nil ?_
    obtain ⟨F₁, N₁⟩ := next h₁ hk₁
    exact done m' news' h₁ tk₁ F₁ N₁ hsrc' hJ

theorem ForL.list {ax : Addr} {items : List Value} {c : Nat} (hh : A.handled = none) (F : Fr h₀ env.locals s.heap m) (N : News h₀ env.locals s.heap news) (hax : (ax, W.listOf items.toArray c) ∈ news)
    (J : Nat → (Str → Option Value) → List (Addr × Obj) → Prop) (h0 : J 0 m news) (ht : ∀ I v, letOwnedTupleGo target (.ref I) v = pure ())
    (turn : ∀ I i v m₁ news₁ oI h tk, items[i]? = some v → J i m₁ news₁ → (ax, W.listOf items.toArray c) ∈ news₁ → I ∉ news₁.map (·.1) → (∀ p ∈ news, p.1 < I) → Fr h₀ env.locals h m₁ → News h₀ env.locals h ((I, oI) :: news₁) →
      wpAny (model prog w) A (assign target env v) (fun _ s₂ => wpAny (model prog w) A (execs body env) (FPost h₀ env.locals I oI [(ax, W.listOf items.toArray c)] (J (i + 1)) s Q) (fun _ _ => False) s₂) (fun _ _ => False) { s with heap := h, toks := tk })
    (done : ∀ m' news' h tk, Fr h₀ env.locals h m' → News h₀ env.locals h news' → (ax, W.listOf items.toArray c) ∈ news' → J items.length m' news' → Q .next { s with heap := h, toks := tk }) :
    ForL prog w A env target body Q (.ref ax) s := by
  have hls : s.heap.IsList ax items.toArray := News.isList N hax
  have hne : ax ≠ s.heap.objs.size := Nat.ne_of_lt (Heap.lt_size (N _ hax).1)
  unfold ForL
  refine wpAny_pyIter_list hls ?_
  have Wk := Walks.list (prog := prog) (w := w) hh s.heap.objs.size ax hne items.toArray
  have hlt : ∀ p ∈ news, p.1 < s.heap.objs.size := fun p hp => Heap.lt_size (N p hp).1
  refine for_led (s := { s with heap := s.heap.push { cls := .type "list_iterator", data := .fields #[.ref ax, .int 0 0] } }) (src := [(ax, W.listOf items.toArray c)]) Wk (next_is_new F) (Nat.ne_of_gt F.ns.lt) ?_ ⟨⟨_, Heap.get?_push_size _ rfl, rfl, rfl⟩, hls.at fun o e => Heap.get?_push_of_some _ e⟩ (F.push _)
    (fun p hp => ⟨Heap.get?_push_of_some _ (N p hp).1, (N p hp).2⟩) (by simpa using hax) (fun q => by obtain ⟨p, hp, e⟩ := List.mem_map.mp q; exact absurd (hlt p hp) (e ▸ Nat.lt_irrefl _)) J h0 (ht _) ?_ ?_
  · rintro i h ⟨⟨o, ho, _⟩, _⟩; exact ⟨o, ho⟩
  · intro i v m₁ news₁ oI h tk _ hP hJ hs hI F₁ N₁
    exact turn _ i v m₁ news₁ oI h tk (by simpa using hP) hJ (hs _ (.head _)) hI hlt F₁ N₁
  · intro m' news' h tk F' N' hs hJ
    exact done m' news' h tk F' N' (hs _ (.head _)) (by simpa using hJ)

theorem ForL.tuple {ax : Addr} {items : List Value} {c : Nat} (hh : A.handled = none) (F : Fr h₀ env.locals s.heap m) (N : News h₀ env.locals s.heap news) (hax : (ax, ({ cls := .type "tuple", data := .seq items.toArray c } : Obj)) ∈ news)
    (J : Nat → (Str → Option Value) → List (Addr × Obj) → Prop) (h0 : J 0 m news) (ht : ∀ I v, letOwnedTupleGo target (.ref I) v = pure ())
    (turn : ∀ I i v m₁ news₁ oI h tk, items[i]? = some v → J i m₁ news₁ → (ax, ({ cls := .type "tuple", data := .seq items.toArray c } : Obj)) ∈ news₁ → I ∉ news₁.map (·.1) → (∀ p ∈ news, p.1 < I) → Fr h₀ env.locals h m₁ → News h₀ env.locals h ((I, oI) :: news₁) →
      wpAny (model prog w) A (assign target env v) (fun _ s₂ => wpAny (model prog w) A (execs body env) (FPost h₀ env.locals I oI [(ax, ({ cls := .type "tuple", data := .seq items.toArray c } : Obj))] (J (i + 1)) s Q) (fun _ _ => False) s₂) (fun _ _ => False) { s with heap := h, toks := tk })
    (done : ∀ m' news' h tk, Fr h₀ env.locals h m' → News h₀ env.locals h news' → (ax, ({ cls := .type "tuple", data := .seq items.toArray c } : Obj)) ∈ news' → J items.length m' news' → Q .next { s with heap := h, toks := tk }) :
    ForL prog w A env target body Q (.ref ax) s := by
  have hls : s.heap.IsTuple ax items.toArray := ⟨_, (N _ hax).1, rfl, _, rfl⟩
  have hne : ax ≠ s.heap.objs.size := Nat.ne_of_lt (Heap.lt_size (N _ hax).1)
  unfold ForL
  refine wpAny_pyIter_tuple hls ?_
  have Wk := Walks.tuple (prog := prog) (w := w) hh s.heap.objs.size ax hne items.toArray
  have hlt : ∀ p ∈ news, p.1 < s.heap.objs.size := fun p hp => Heap.lt_size (N p hp).1
  refine for_led (s := { s with heap := s.heap.push { cls := .type "tuple_iterator", data := .fields #[.ref ax, .int 0 0] } }) (src := [(ax, ({ cls := .type "tuple", data := .seq items.toArray c } : Obj))]) Wk (next_is_new F) (Nat.ne_of_gt F.ns.lt) ?_ ⟨⟨_, Heap.get?_push_size _ rfl, rfl, rfl⟩, hls.at fun o e => Heap.get?_push_of_some _ e⟩ (F.push _)
    (fun p hp => ⟨Heap.get?_push_of_some _ (N p hp).1, (N p hp).2⟩) (by simpa using hax) (fun q => by obtain ⟨p, hp, e⟩ := List.mem_map.mp q; exact absurd (hlt p hp) (e ▸ Nat.lt_irrefl _)) J h0 (ht _) ?_ ?_
  · rintro i h ⟨⟨o, ho, _⟩, _⟩; exact ⟨o, ho⟩
  · intro i v m₁ news₁ oI h tk _ hP hJ hs hI F₁ N₁
    exact turn _ i v m₁ news₁ oI h tk (by simpa using hP) hJ (hs _ (.head _)) hI hlt F₁ N₁
  · intro m' news' h tk F' N' hs hJ
    exact done m' news' h tk F' N' (hs _ (.head _)) (by simpa using hJ)

theorem ForL.dict {ax : Addr} {o : Obj} {kvs : List (Int × Value)} (hh : A.handled = none) (F : Fr h₀ env.locals s.heap m) (N : News h₀ env.locals s.heap news) (hax : (ax, o) ∈ news) (hd : o.IsDictOf (intKind prog w) kvs) (lo : (ax == sysModules) = false)
    (J : Nat → (Str → Option Value) → List (Addr × Obj) → Prop) (h0 : J 0 m news) (ht : ∀ I v, letOwnedTupleGo target (.ref I) v = pure ())
    (turn : ∀ I i v t x m₁ news₁ oI h tk, kvs[i]? = some (v, x) → J i m₁ news₁ → (ax, o) ∈ news₁ → I ∉ news₁.map (·.1) → (∀ p ∈ news, p.1 < I) → Fr h₀ env.locals h m₁ → News h₀ env.locals h ((I, oI) :: news₁) →
      wpAny (model prog w) A (assign target env (.int v t)) (fun _ s₂ => wpAny (model prog w) A (execs body env) (FPost h₀ env.locals I oI [(ax, o)] (J (i + 1)) s Q) (fun _ _ => False) s₂) (fun _ _ => False) { s with heap := h, toks := tk })
    (done : ∀ m' news' h tk, Fr h₀ env.locals h m' → News h₀ env.locals h news' → (ax, o) ∈ news' → J kvs.length m' news' → Q .next { s with heap := h, toks := tk }) :
    ForL prog w A env target body Q (.ref ax) s := by
  obtain ⟨ep, hls⟩ := (Heap.dictOf_iff.mpr ⟨o, (N _ hax).1, hd⟩ : s.heap.DictOf _ ax kvs).dictAt
  have hne : ax ≠ s.heap.objs.size := Nat.ne_of_lt (Heap.lt_size (N _ hax).1)
  unfold ForL
  refine wpAny_pyIter_dict lo hls ?_
  have Wk := Walks.dictKeys (prog := prog) (w := w) (knd := intKind prog w) hh s.heap.objs.size ax hne kvs ep
  have hlt : ∀ p ∈ news, p.1 < s.heap.objs.size := fun p hp => Heap.lt_size (N p hp).1
  refine for_led (s := { s with heap := s.heap.push { cls := .type "dict_keyiterator", data := .fields #[.ref ax, .int 0 0, .int kvs.length 0, .int ep 0] } }) (src := [(ax, o)]) Wk (next_is_new F) (Nat.ne_of_gt F.ns.lt) ?_ ⟨⟨_, Heap.get?_push_size _ rfl, rfl, rfl⟩, hls.push _⟩ (F.push _)
    (fun p hp => ⟨Heap.get?_push_of_some _ (N p hp).1, (N p hp).2⟩) (by simpa using hax) (fun q => by obtain ⟨p, hp, e⟩ := List.mem_map.mp q; exact absurd (hlt p hp) (e ▸ Nat.lt_irrefl _)) J h0 (ht _) ?_ ?_
  · rintro i h ⟨⟨o, ho, _⟩, _⟩; exact ⟨o, ho⟩
  · rintro i v m₁ news₁ oI h tk _ ⟨k, x, hP, hk⟩ hJ hs hI F₁ N₁
    obtain ⟨t, rfl⟩ := Value.isInt_shape hk
    exact turn _ i k t x m₁ news₁ oI h tk hP hJ (hs _ (.head _)) hI hlt F₁ N₁
  · intro m' news' h tk F' N' hs hJ
    exact done m' news' h tk F' N' (hs _ (.head _)) hJ
end
end Mine
-- G1
namespace Mine
open PySem PySem.W PyProof.Rows
theorem News.sub {h₀ h : Heap} {L : Addr} {l l' : List (Addr × Obj)} (N : News h₀ L h l) (hs : ∀ p ∈ l', p ∈ l) : News h₀ L h l' := fun p hp => N p (hs p hp)
theorem News.perm {h₀ h : Heap} {L : Addr} {l l' : List (Addr × Obj)} (N : News h₀ L h l) (hs : l.Perm l') : News h₀ L h l' := fun p hp => N p (hs.mem_iff.mpr hp)
theorem ND.perm {l l' : List (Addr × Obj)} (N : ND l) (hs : l.Perm l') : ND l' := (hs.map _).nodup_iff.mp N

theorem gl_perm {w : World} {σ : Srt} {rv : Value} {po nf : Int} {tp tf : Tok} {oD : Obj} {Ga Gb : List NodeR} {r : NodeR} {rest : List (Addr × Obj)} :
    (gl w σ rv po tp nf tf oD (Ga ++ r :: Gb) rest).Perm (nseg r ++ gl w σ rv po tp nf tf oD (Ga ++ Gb) rest) := by
  have e : (Ga ++ r :: Gb).flatMap nseg ++ rest = Ga.flatMap nseg ++ (nseg r ++ (Gb.flatMap nseg ++ rest)) := by simp [List.flatMap_append]
  have e' : (Ga ++ Gb).flatMap nseg ++ rest = Ga.flatMap nseg ++ (Gb.flatMap nseg ++ rest) := by simp [List.flatMap_append]
  have p1 : ((Ga ++ r :: Gb).flatMap nseg ++ rest).Perm (nseg r ++ ((Ga ++ Gb).flatMap nseg ++ rest)) := by
    rw [e, e']
    exact List.perm_append_comm_assoc _ _ _
  refine (((p1.cons _).cons _).cons _).trans ?_
  exact List.perm_append_comm_assoc [_, _, _] (nseg r) _

/-- a node's abstract content -/
structure ANode where
  key : Int
  np : Int
  ss : List Int
def NodeR.abs (r : NodeR) : ANode := ⟨r.key, r.np, r.ss⟩
def ens (v : Int) (G : List ANode) : List ANode := if G.any (fun r => r.key = v) then G else G ++ [⟨v, 0, []⟩]
def addNp (v k : Int) (G : List ANode) : List ANode := G.map fun r => if r.key = v then { r with np := r.np + k } else r
def addSucc (u v : Int) (G : List ANode) : List ANode := G.map fun r => if r.key = u then { r with ss := r.ss ++ [v] } else r

structure GOK (w : World) (σ : Srt) (oD : Obj) (G : List NodeR) (rest : List (Addr × Obj)) (b : Nat) : Prop where
  gn : GlNd σ (G.flatMap nseg ++ rest)
  dg : dG w oD G
  gw : ∀ r ∈ G, IntsAre r.svs r.ss
  lo : (σ.D == sysModules) = false
  ln : G.length ≤ b
  ls : ∀ r ∈ G, r.ss.length ≤ b

theorem GOK.keys {w : World} {σ : Srt} {oD : Obj} {G : List NodeR} {rest : List (Addr × Obj)} {b : Nat} (h : GOK w σ oD G rest b) : (G.map (·.key)).Nodup := by
  obtain ⟨es, ep, _, _, _, _, hn⟩ := h.dg
  unfold kvG at hn
  rw [List.map_map] at hn
  exact hn

theorem GOK.mem_eq {w : World} {σ : Srt} {oD : Obj} {G : List NodeR} {rest : List (Addr × Obj)} {b : Nat} (h : GOK w σ oD G rest b) {r q : NodeR} (hr : r ∈ G) (hq : q ∈ G) (e : r.key = q.key) : r = q := by
  have hn := h.keys
  obtain ⟨i, hi, rfl⟩ := List.mem_iff_getElem.mp hr
  obtain ⟨j, hj, rfl⟩ := List.mem_iff_getElem.mp hq
  have hij : i = j := (List.getElem_inj (h₀ := by simpa using hi) (h₁ := by simpa using hj) hn).mp (by simpa using e)
  subst hij; rfl

/-- one node changed, its key and its addresses kept -/
theorem GOK.set {w : World} {σ : Srt} {oD : Obj} {Ga Gb : List NodeR} {r r' : NodeR} {rest : List (Addr × Obj)} {b b' : Nat} (h : GOK w σ oD (Ga ++ r :: Gb) rest b) (hk : r'.key = r.key) (hi : r'.info = r.info) (hd : r'.idict = r.idict) (hs : r'.succ = r.succ)
    (hw : IntsAre r'.svs r'.ss) (hb : b ≤ b') (hl : r'.ss.length ≤ b') : GOK w σ oD (Ga ++ r' :: Gb) rest b' := by
  have ea : (((Ga ++ r' :: Gb).flatMap nseg ++ rest).map (·.1)) = (((Ga ++ r :: Gb).flatMap nseg ++ rest).map (·.1)) := by
    simp [List.flatMap_append, hi, hd, hs]
  obtain ⟨⟨a, b1, c, d, e, f, g⟩, dg, gw, lo, ln, ls⟩ := h
  refine ⟨⟨a, b1, c, ea ▸ d, ea ▸ e, ea ▸ f, by unfold ND at g ⊢; rw [ea]; exact g⟩, ?_, ?_, lo, ?_, ?_⟩
  · have : kvG (Ga ++ r' :: Gb) = kvG (Ga ++ r :: Gb) := by simp [kvG, hk, hi]
    unfold dG; rw [this]; exact dg
  · intro q hq
    rcases List.mem_append.mp hq with hq | hq
    · exact gw q (List.mem_append_left _ hq)
    · rcases List.mem_cons.mp hq with rfl | hq
      · exact hw
      · exact gw q (List.mem_append_right _ (.tail _ hq))
  · simp only [List.length_append, List.length_cons] at ln ⊢; omega
  · intro q hq
    rcases List.mem_append.mp hq with hq | hq
    · exact Nat.le_trans (ls q (List.mem_append_left _ hq)) hb
    · rcases List.mem_cons.mp hq with rfl | hq
      · exact hl
      · exact Nat.le_trans (ls q (List.mem_append_right _ (.tail _ hq))) hb
theorem abs_set {Ga Gb : List NodeR} {r r' : NodeR} (f : ANode → ANode) (hn : ((Ga ++ r :: Gb).map (·.key)).Nodup) (hf : ∀ a : ANode, a.key ≠ r.key → f a = a) (hr : r'.abs = f r.abs) :
    (Ga ++ r' :: Gb).map NodeR.abs = ((Ga ++ r :: Gb).map NodeR.abs).map f := by
  simp only [List.map_append, List.map_cons, List.nodup_append, List.nodup_cons, List.mem_cons] at hn
  simp only [List.map_append, List.map_cons, hr]
  congr 1
  · rw [List.map_map]
    refine List.map_congr_left fun q hq => ?_
    exact (hf _ (fun e => hn.2.2 q.key (List.mem_map.mpr ⟨q, hq, rfl⟩) r.key (.inl rfl) e)).symm
  · congr 1
    rw [List.map_map]
    refine List.map_congr_left fun q hq => ?_
    exact (hf _ (fun e => hn.2.1.1 (List.mem_map.mpr ⟨q, hq, e⟩))).symm

section
variable {w : World} {σ : Srt} {rv : Value} {po nf : Int} {tp tf : Tok} {oD : Obj} {G Ga Gb : List NodeR} {r : NodeR} {rest : List (Addr × Obj)} {b : Nat} {h₀ h : Heap} {L D : Addr} {o : Obj}
theorem gl_push_perm {x : Addr × Obj} : (x :: gl w σ rv po tp nf tf oD G rest).Perm (gl w σ rv po tp nf tf oD G (x :: rest)) := by
  have p1 : (x :: (G.flatMap nseg ++ rest)).Perm (G.flatMap nseg ++ x :: rest) := List.perm_middle.symm
  refine List.Perm.trans ?_ (((p1.cons _).cons _).cons _)
  exact List.perm_append_comm_assoc [x] [_, _, _] _
theorem GOK.push (g : GOK w σ oD G rest b) (l : ∀ p ∈ gl w σ rv po tp nf tf oD G rest, p.1 < D) : GOK w σ oD G ((D, o) :: rest) b := by
  refine ⟨?_, g.dg, g.gw, g.lo, g.ln, g.ls⟩
  have nd := gl_nd (w := w) (rv := rv) (po := po) (nf := nf) (tp := tp) (tf := tf) (oD := oD).mpr g.gn
  have nd2 : ND ((D, o) :: gl w σ rv po tp nf tf oD G rest) := List.nodup_cons.mpr ⟨fun q => by obtain ⟨p, hp, e⟩ := List.mem_map.mp q; exact absurd (l p hp) (e ▸ Nat.lt_irrefl _), nd⟩
  exact gl_nd (w := w) (rv := rv) (po := po) (nf := nf) (tp := tp) (tf := tf) (oD := oD).mp (nd2.perm gl_push_perm)
theorem GOK.push' (g : GOK w σ oD G rest b) (l : D ∉ (gl w σ rv po tp nf tf oD G rest).map (·.1)) : GOK w σ oD G ((D, o) :: rest) b := by
  refine ⟨?_, g.dg, g.gw, g.lo, g.ln, g.ls⟩
  have nd := gl_nd (w := w) (rv := rv) (po := po) (nf := nf) (tp := tp) (tf := tf) (oD := oD).mpr g.gn
  have nd2 : ND ((D, o) :: gl w σ rv po tp nf tf oD G rest) := List.nodup_cons.mpr ⟨l, nd⟩
  exact gl_nd (w := w) (rv := rv) (po := po) (nf := nf) (tp := tp) (tf := tf) (oD := oD).mp (nd2.perm gl_push_perm)
theorem GOK.nm (g : GOK w σ oD G ((D, o) :: rest) b) (rv : Value) (po : Int) (tp : Tok) (nf : Int) (tf : Tok) : D ∉ (gl w σ rv po tp nf tf oD G rest).map (·.1) := by
  have nd := (gl_nd (w := w) (rv := rv) (po := po) (nf := nf) (tp := tp) (tf := tf) (oD := oD).mpr g.gn).perm gl_push_perm.symm
  exact (List.nodup_cons.mp nd).1
theorem GOK.sub {rest' : List (Addr × Obj)} (g : GOK w σ oD G rest b) (l : (rest'.map (·.1)).Sublist (rest.map (·.1))) : GOK w σ oD G rest' b := by
  have hs : (((G.flatMap nseg ++ rest').map (·.1))).Sublist ((G.flatMap nseg ++ rest).map (·.1)) := by
    rw [List.map_append, List.map_append]; exact (List.Sublist.refl _).append l
  obtain ⟨⟨a, b1, c, d, e, f, g⟩, dg, gw, lo, ln, ls⟩ := g
  exact ⟨⟨a, b1, c, fun q => d (hs.subset q), fun q => e (hs.subset q), fun q => f (hs.subset q), hs.nodup g⟩, dg, gw, lo, ln, ls⟩
theorem GOK.mono {b' : Nat} (g : GOK w σ oD G rest b) (hb : b ≤ b') : GOK w σ oD G rest b' := ⟨g.gn, g.dg, g.gw, g.lo, Nat.le_trans g.ln hb, fun r hr => Nat.le_trans (g.ls r hr) hb⟩
theorem GOK.tail {x : Addr × Obj} (g : GOK w σ oD G (x :: rest) b) : GOK w σ oD G rest b := g.sub (List.sublist_cons_self _ _)
structure OutNd (r : NodeR) (tl : List (Addr × Obj)) : Prop where
  a : r.info ≠ r.idict
  b : r.info ≠ r.succ
  c : r.idict ≠ r.succ
  i : r.info ∉ tl.map (·.1)
  d : r.idict ∉ tl.map (·.1)
  s : r.succ ∉ tl.map (·.1)
theorem GOK.out (g : GOK w σ oD (Ga ++ r :: Gb) rest b) (rv : Value) (po : Int) (tp : Tok) (nf : Int) (tf : Tok) : OutNd r (gl w σ rv po tp nf tf oD (Ga ++ Gb) rest) := by
  have nd := (gl_nd (w := w) (rv := rv) (po := po) (nf := nf) (tp := tp) (tf := tf) (oD := oD).mpr g.gn).perm gl_perm
  have nd2 : (r.info :: r.idict :: r.succ :: (gl w σ rv po tp nf tf oD (Ga ++ Gb) rest).map (·.1)).Nodup := nd
  simp only [List.nodup_cons, List.mem_cons, not_or] at nd2
  obtain ⟨⟨a, b, c⟩, ⟨d, e⟩, f, _⟩ := nd2
  exact ⟨a, b, d, c, e, f⟩
theorem gl_out (N : News h₀ L h (gl w σ rv po tp nf tf oD (Ga ++ r :: Gb) rest)) : News h₀ L h ((r.info, infoO r.idict r.succ r.np r.nt r.key r.kt) :: (r.idict, dictOf [] 0) :: (r.succ, W.listOf r.svs.toArray r.sn) :: gl w σ rv po tp nf tf oD (Ga ++ Gb) rest) := News.perm N gl_perm
theorem gl_in (r : NodeR) (N : News h₀ L h ((r.info, infoO r.idict r.succ r.np r.nt r.key r.kt) :: (r.idict, dictOf [] 0) :: (r.succ, W.listOf r.svs.toArray r.sn) :: gl w σ rv po tp nf tf oD (Ga ++ Gb) rest)) : News h₀ L h (gl w σ rv po tp nf tf oD (Ga ++ r :: Gb) rest) := News.perm N gl_perm.symm

theorem gl_setnp {np' : Int} {nt' : Tok} (g : GOK w σ oD (Ga ++ r :: Gb) rest b) (N : News h₀ L h ((r.info, infoO r.idict r.succ np' nt' r.key r.kt) :: (r.idict, dictOf [] 0) :: (r.succ, W.listOf r.svs.toArray r.sn) :: gl w σ rv po tp nf tf oD (Ga ++ Gb) rest)) :
    ∃ G', News h₀ L h (gl w σ rv po tp nf tf oD G' rest) ∧ GOK w σ oD G' rest b ∧ G'.length = (Ga ++ r :: Gb).length ∧ (∀ f : ANode → ANode, (∀ a, a.key ≠ r.key → f a = a) → f r.abs = ⟨r.key, np', r.ss⟩ → G'.map NodeR.abs = ((Ga ++ r :: Gb).map NodeR.abs).map f) :=
  ⟨Ga ++ ⟨r.key, r.kt, r.info, r.idict, r.succ, np', nt', r.svs, r.ss, r.sn⟩ :: Gb, gl_in ⟨r.key, r.kt, r.info, r.idict, r.succ, np', nt', r.svs, r.ss, r.sn⟩ N,
    g.set (r' := ⟨r.key, r.kt, r.info, r.idict, r.succ, np', nt', r.svs, r.ss, r.sn⟩) rfl rfl rfl rfl (g.gw r (by simp)) (Nat.le_refl _) (g.ls r (by simp)), by simp,
    fun f hf hr => abs_set (r' := ⟨r.key, r.kt, r.info, r.idict, r.succ, np', nt', r.svs, r.ss, r.sn⟩) f g.keys hf hr.symm⟩
theorem gl_setss {svs' : List Value} {ss' : List Int} {sn' : Nat} (g : GOK w σ oD (Ga ++ r :: Gb) rest b) (hs : IntsAre svs' ss') (hl : ss'.length ≤ b + 1)
    (N : News h₀ L h ((r.info, infoO r.idict r.succ r.np r.nt r.key r.kt) :: (r.idict, dictOf [] 0) :: (r.succ, W.listOf svs'.toArray sn') :: gl w σ rv po tp nf tf oD (Ga ++ Gb) rest)) :
    ∃ G', News h₀ L h (gl w σ rv po tp nf tf oD G' rest) ∧ GOK w σ oD G' rest (b + 1) ∧ G'.length = (Ga ++ r :: Gb).length ∧ (∀ f : ANode → ANode, (∀ a, a.key ≠ r.key → f a = a) → f r.abs = ⟨r.key, r.np, ss'⟩ → G'.map NodeR.abs = ((Ga ++ r :: Gb).map NodeR.abs).map f) :=
  ⟨Ga ++ ⟨r.key, r.kt, r.info, r.idict, r.succ, r.np, r.nt, svs', ss', sn'⟩ :: Gb, gl_in ⟨r.key, r.kt, r.info, r.idict, r.succ, r.np, r.nt, svs', ss', sn'⟩ N,
    g.set (r' := ⟨r.key, r.kt, r.info, r.idict, r.succ, r.np, r.nt, svs', ss', sn'⟩) rfl rfl rfl rfl hs (Nat.le_succ _) hl, by simp,
    fun f hf hr => abs_set (r' := ⟨r.key, r.kt, r.info, r.idict, r.succ, r.np, r.nt, svs', ss', sn'⟩) f g.keys hf hr.symm⟩
end
end Mine
-- B4
namespace Mine
open PySem PySem.W PyProof.Rows
section
variable {prog : Program} {w : World} {A A₀ : Around} {s : Shared} {K : Frag} {L : Addr} {h₀ base : Heap} {m mg mb : Str → Option Value} {news : List (Addr × Obj)} {p : Program} {loose : List Str} {mean : ExcName → Option Value}
abbrev tupO (vs : List Value) : Obj := { cls := .type "tuple", data := .seq vs.toArray }
/-- a def with *rest entered -/
theorem enterR {env : Env} {outer : List Env} {R : Result → Shared → Prop} {name qual : Str} {params : Arguments} {body : List Stmt} {scope : Scope} {dV kV doc pm cdv ct oc : Value} {an od : Option Addr} {osl : Array (Option Value)} {f : Addr} {args : Args} {vs : List Value} {g₁ : Addr → Option (List (Str × Value))} {binds : Addr → List (Str × Value)}
    (B : Below A₀ base outer h₀) (F : Fr h₀ L s.heap m) (X₀ : K.In h₀) (N : News h₀ L s.heap news) (T : Top p loose mean mg mb h₀) (hA : A.frames = some (env :: outer)) (hf : env.frame = some L) (hke : env.scope.kind = .function)
    (ho : K.lookup f = some ⟨oc, od, .func (fnOf name qual params body scope dV kV doc pm an cdv ct), osl⟩) (hcd : codeIn K cdv qual = true) (hroom : A.depth < recursionLimit)
    (hv : args.pos.drop (params.posonlyargs.length + params.args.length) = vs)
    (hp : peek1 K ⟨prog, w.params⟩ (bindArgs (fnOf name qual params body scope dV kV doc pm an cdv ct) args) = some (tupO vs, g₁))
    (hg : ∀ D, g₁ D = some (binds D)) (hloc : ∀ D, ∀ y ∈ binds D, scope.names.lookup y.1 = some .local)
    (h : ∀ D g L' h₁, (∀ p ∈ news, p.1 < D) → Fr h₀ L g m → Fr g L' h₁ (fun y => (binds D).reverse.lookup y) → News g L' h₁ ((D, tupO vs) :: news) → Below A base (env :: outer) g → K.In g → Top p loose mean mg mb g →
      (A.deeper (envOf qual scope L' f cdv)).frames = some (envOf qual scope L' f cdv :: env :: outer) →
      wpAny (model prog w) (A.deeper (envOf qual scope L' f cdv)) (execs body (envOf qual scope L' f cdv))
        (fun fl s' => LeaveK h₀ L m g R (match fl with | .ret v => v | _ => .none) s') (fun _ _ => False)
        { s with heap := h₁, toks := s.toks + (binds D).length })
    (hco : scope.isCoroutine = false) (hgen : scope.isGenerator = false) (hk : scope.kind = .function)
    (hcell : ∀ x ∈ scope.names, x.2 ≠ .cell) : codeAny (model prog w) A (.call (.ref f) args) R s :=
  kp_rest B F X₀ N T hA hf hke ho hcd hroom hv hp hg hloc (fun D g L' h₁ l a b c d e t => wpAny_mono (h D g L' h₁ l a b c d e t (by show A.frames.map _ = _; rw [hA]; rfl)) (fun _ _ x => x) fun _ _ x => x.elim) hco hgen hk hcell
theorem my_lenT {l : Addr} {us : List Value} {E : Value → Shared → Prop} {Q : Value → Shared → Prop} (N : News h₀ L s.heap news) (hm : (l, tupO us) ∈ news) (hz : us.length < 2 ^ 63)
    (h : ∀ t tk, Q (.int us.length t) { s with toks := tk }) : wpAny (model prog w) A (call (.builtin "len") [.ref l]) Q E s :=
  len_tuple (News.isTup N hm) (by rw [List.size_toArray]; omega) (by rw [List.size_toArray]; exact h _ _)
end
end Mine
-- B5
namespace Mine
open PySem PySem.W PySem.Calls PyProof.Rows
section
variable {M : Model} {A : Around} {E : Value → Shared → Prop} {s : Shared} {env : Env} {Q : Value → Shared → Prop} {K : Frag} {h₀ : Heap} {L : Addr} {news : List (Addr × Obj)}
theorem star_method {o : Expr} {name : Str} {apos pos : Pos} {args : List Expr}
    (h : wpAny M A (eval o env) (fun ov s₁ => wpAny M A (getAttr ov name true) (fun f s₂ => wpAny M A (callWith pos f [] (backTo pos (starEach args env)) []) Q E s₂) E s₁) E s)
    (he : eval (.Call (.Attribute o name apos) args [] pos) env = (do
      let ov ← eval o env
      standAt apos.atName
      let fx ← holding [ov] (do pure (← getAttr ov name true, ([] : List Value)))
      callWith pos fx.1 fx.2 (backTo pos (starEach args env)) []) := by rfl) :
    wpAny M A (eval (.Call (.Attribute o name apos) args [] pos) env) Q E s := by
  rw [he]
  exact wpAny_bind (wpAny_mono h (fun ov s₁ h₁ => wpAny_bind (wpAny_standAt (wpAny_bind (wpAny_holding (wpAny_bind (wpAny_mono h₁ (fun fx s₂ h₂ => wpAny_pure h₂) fun _ _ x => x)))))) fun _ _ x => x)
theorem callWith_MS {q g : Addr} {self : Value} {first : List Value} {pos p : Pos} {e : Expr} (_X : K.In h₀) (_N : News h₀ L s.heap news) (_q : (q, methodObj (.ref g) self) ∈ news) (hf : fnIn K g = true)
    (h : wpAny M A (eval e env) (fun v s₁ => StarOf M A E v (fun vs s₂ => MethP K q g self s₂.heap ∧ wpAny M A (call (.ref q) (first ++ vs)) Q E s₂) s₁) E s)
    (he : starEach [.Starred e p] env = [(true, eval e env)] := by rfl) :
    wpAny M A (callWith pos (.ref q) first (backTo pos (starEach [.Starred e p] env)) []) Q E s := by
  rw [he]
  exact ks_call rfl (keeps_M hf) (ks_lone h)
theorem callWith_MS2 {q g : Addr} {self : Value} {first : List Value} {pos : Pos} {e : Expr} {rest : List Expr} (_X : K.In h₀) (_N : News h₀ L s.heap news) (_q : (q, methodObj (.ref g) self) ∈ news) (hf : fnIn K g = true)
    (h : wpAny M A (spliced (backTo pos (starEach (e :: rest) env))) (fun vs s₁ => MethP K q g self s₁.heap ∧ wpAny M A (call (.ref q) (first ++ vs)) Q E s₁) E s)
    (he : starEach (e :: rest) env = (false, eval e env) :: starEach rest env := by rfl) (hst : (backTo pos (starEach rest env)).any (·.1) = true := by rfl) :
    wpAny M A (callWith pos (.ref q) first (backTo pos (starEach (e :: rest) env)) []) Q E s := by
  rw [he] at h ⊢
  exact ks_call (by show (false || (backTo pos (starEach rest env)).any (·.1)) = true; rw [hst]; rfl) (keeps_M hf) (evalArgs_plain h)
end
section
variable {prog : Program} {w : World} {A : Around} {E : Value → Shared → Prop} {s : Shared} {h₀ : Heap} {L a : Addr} {m : Str → Option Value} {news : List (Addr × Obj)}
theorem my_star {us : List Value} {ys : List Int} {c : Nat} {Q : List Value → Shared → Prop} (F : Fr h₀ L s.heap m) (N : News h₀ L s.heap news) (ha : (a, W.listOf us.toArray c) ∈ news) (hi : IntsAre us ys) (hz : ys.length ≤ 10000)
    (h : ∀ h', Fr h₀ L h' m → News h₀ L h' news → Q us { s with heap := h' }) : StarOf (model prog w) A E (.ref a) Q s :=
  star_seq F N ha rfl rfl (.inl rfl) rfl (by have := hi.length; rw [sizeLine_eq, List.size_toArray]; omega) h
theorem my_starT {us : List Value} {ys : List Int} {Q : List Value → Shared → Prop} (F : Fr h₀ L s.heap m) (N : News h₀ L s.heap news) (ha : (a, tupO us) ∈ news) (hi : IntsAre us ys) (hz : ys.length ≤ 10000)
    (h : ∀ h', Fr h₀ L h' m → News h₀ L h' news → Q us { s with heap := h' }) : StarOf (model prog w) A E (.ref a) Q s :=
  star_seq F N ha rfl rfl (.inr rfl) rfl (by have := hi.length; rw [sizeLine_eq, List.size_toArray]; omega) h
end
end Mine
-- B6
namespace Mine
open PySem PySem.W PySem.Calls PyProof.Rows
abbrev iterO (l : Addr) (i : Nat) : Obj := { cls := .type "list_iterator", data := .fields #[.ref l, .int i 0] }
abbrev wrapO (it : Addr) : Obj := { cls := .type "method-wrapper", data := .fields #[.builtin "list_iterator.__next__", .ref it] }
theorem mw_slot_ga : Slot "list_iterator" "__getattribute__" "object.__getattribute__" :=
  .of (owner := "object") (n := "__getattribute__") (by rw [typeLookup_type, builtinLookup_eq_fast]; kernel_rfl) (by decide +kernel) (by decide +kernel) (by decide +kernel)
    (by first | exact .inl (by decide +kernel) | exact .inr (by decide +kernel)) (by rw [isSubtype_type]; kernel_rfl)
theorem mw_entry_ga : entryFor table "object.__getattribute__" = some Builtin.«object.__getattribute__» := entryFor_of_tree (by kernel_rfl)
theorem mw_args_ga (a b : Value) : argsOk "object.__getattribute__" ⟨[a, b], []⟩ := by unfold argsOk; kernel_rfl
theorem mw_slot_get : Slot "wrapper_descriptor" "__get__" "wrapper_descriptor.__get__" :=
  .of (owner := "wrapper_descriptor") (n := "__get__") (by rw [typeLookup_type, builtinLookup_eq_fast]; kernel_rfl) (by decide +kernel) (by decide +kernel) (by decide +kernel)
    (by first | exact .inl (by decide +kernel) | exact .inr (by decide +kernel)) (by rw [isSubtype_type]; kernel_rfl)
theorem mw_entry_get : entryFor table "wrapper_descriptor.__get__" = some Builtin.«wrapper_descriptor.__get__» := entryFor_of_tree (by kernel_rfl)
theorem mw_args_get (a b c : Value) : argsOk "wrapper_descriptor.__get__" ⟨[a, b, c], []⟩ := by unfold argsOk; kernel_rfl
theorem mw_type_next : typeOf (.builtin "list_iterator.__next__") = pure (.type "wrapper_descriptor") := by show builtinType _ = _; rw [builtinType_eq_fast]; kernel_rfl
theorem mw_look_next : typeLookup (.type "list_iterator") "__next__" = pure (some (.builtin "list_iterator.__next__")) := by rw [typeLookup_type, builtinLookup_eq_fast]; kernel_rfl
theorem mw_no_hook : typeLookup (.type "list_iterator") "__getattr__" = pure none := by rw [typeLookup_type, builtinLookup_eq_fast]; kernel_rfl
theorem mw_sub : isSubtype (.type "list_iterator") (.type "list_iterator") = pure true := by rw [isSubtype_type]; kernel_rfl
theorem mw_owner : (kfb_private% "ownerAndName") "list_iterator.__next__" = ("list_iterator", "__next__") := by first | decide +kernel | kernel_rfl
theorem mw_nac : (kfb_private% "nameAndClass") (.builtin "list_iterator.__next__") = pure ((Str.ofString "__next__"), .type "list_iterator") := by first | kernel_rfl | rfl
theorem mw_run_get {M : Model} {A : Around} {E : Value → Shared → Prop} {s : Shared} {it : Addr} {P : PySem.Fin → Shared → Prop} (hT : s.TypeIs (.ref it) "list_iterator") (h : P (.done (.ret (.ref s.heap.objs.size))) { s with heap := s.heap.push (wrapO it) }) :
    wpAny M A (Builtin.«wrapper_descriptor.__get__» ⟨[.builtin "list_iterator.__next__", .ref it, .type "list_iterator"], []⟩) P E s := by
  unfold Builtin.«wrapper_descriptor.__get__»
  refine wpAny_bind (wpAny_of_eq (a := (.builtin "list_iterator.__next__", some (.ref it), some (.type "list_iterator"))) (by first | rfl | kernel_rfl) ?_)
  show wpAny _ _ ((kfb_private% "checkInstance") (.builtin "list_iterator.__next__") (.ref it) >>= fun _ => newFields "method-wrapper" [.builtin "list_iterator.__next__", .ref it] >>= fun v => ret v) _ _ _
  refine wpAny_bind ?_
  refine wpAny_bind (wpAny_of_eq mw_nac ?_)
  refine wpAny_bind (wpAny_isInstance (T := "list_iterator") (b := true) hT mw_sub ?_)
  refine wpAny_pure ?_
  exact wpAny_bind (wpAny_newObj_type (wpAny_pure h))
section
variable {prog : Program} {w : World} {M : Model} {A : Around} {E : Value → Shared → Prop} {s : Shared} {h₀ : Heap} {L : Addr} {m : Str → Option Value} {news : List (Addr × Obj)}
theorem my_iter {l : Addr} {us : List Value} {c : Nat} {Q : Value → Shared → Prop} (F : Fr h₀ L s.heap m) (N : News h₀ L s.heap news) (hm : (l, W.listOf us.toArray c) ∈ news)
    (h : ∀ x h', Fr h₀ L h' m → News h₀ L h' ((x, iterO l 0) :: news) → (∀ p ∈ news, p.1 < x) → Q (.ref x) { s with heap := h' }) :
    wpAny (model prog w) A (call (.builtin "iter") [.ref l]) Q E s := by
  refine Calls.call_function_entry (by decide +kernel) (by decide +kernel) kdk_entry_iter (kdk_args_iter _) ?_
  unfold Builtin.«iter»
  refine wpAny_bind (m := someArgs "iter" 1 2 _) (wpAny_of_eq (a := [Value.ref l]) (by first | rfl | kernel_rfl!) ?_)
  show wpAny _ _ (pyIter (.ref l) >>= _) _ _ _
  refine wpAny_bind (wpAny_pyIter_list (News.isList N hm) ?_)
  exact wpAny_pure ⟨_, rfl, h _ _ (F.push _) (News.push F N _ rfl) (fun q hq => Heap.lt_size (N q hq).1)⟩

theorem mw_getattr {it l : Addr} {i : Nat} {Q : Value → Shared → Prop} (F : Fr h₀ L s.heap m) (N : News h₀ L s.heap news) (hm : (it, iterO l i) ∈ news)
    (h : ∀ x h' tk, Fr h₀ L h' m → News h₀ L h' ((x, wrapO it) :: news) → (∀ p ∈ news, p.1 < x) → Q (.ref x) { s with heap := h', toks := tk }) :
    wpAny (model prog w) A (getAttr (.ref it) "__next__" true) Q E s := by
  have hx := (N _ hm).1
  obtain ⟨hp, g, d, tk, os⟩ := s
  have hT : ∀ tk', (⟨hp, g, d, tk', os⟩ : Shared).TypeIs (.ref it) "list_iterator" := fun _ => ⟨_, hx, rfl⟩
  have f3 := mw_slot_ga.lookup
  have f4 := mw_slot_ga.bind (.ref it)
  have f5 := mw_no_hook
  have f6 := mw_look_next
  have f7 := mw_type_next
  have f8 := mw_slot_get.lookup
  have f9 : typeLookup (.type "wrapper_descriptor") "__set__" = pure none := by rw [typeLookup_type, builtinLookup_eq_fast]; kernel_rfl
  have f10 : typeLookup (.type "wrapper_descriptor") "__delete__" = pure none := by rw [typeLookup_type, builtinLookup_eq_fast]; kernel_rfl
  unfold getAttr getAttrBy
  repeat (any_goals (first | assumption | exact hT _ | ((with_reducible show wpAny _ _ (call (Value.builtin "wrapper_descriptor.__get__") _ _) _ _ _); refine wpAny_call_entry mw_slot_get mw_type_next mw_entry_get (mw_run_get (hT _) ?_) (mw_args_get _ _ _)) | ((with_reducible show wpAny _ _ (call (Value.builtin "object.__getattribute__") _ _) _ _ _); refine wpAny_call_entry mw_slot_ga (hT _) mw_entry_ga ?_ (mw_args_ga _ _)) | wp_step))
  refine ⟨_, rfl, wpAny_pure ⟨_, rfl, ?_⟩⟩
  show wpAny _ _ (handedOut (.ref hp.objs.size)) _ _ _
  exact wpAny_pure (h _ _ _ (F.push _) (News.push F N _ rfl) (fun q hq => Heap.lt_size (N q hq).1))

theorem mw_check (it : Addr) : checkBoundCall "list_iterator.__next__" ⟨[.ref it], []⟩ = pure () := by first | kernel_rfl | rfl
theorem mw_plain : plainId "list_iterator.__next__" = true := by decide +kernel
theorem mw_call {mw it : Addr} {Q : Value → Shared → Prop} (hmw : s.heap.get? mw = some (wrapO it))
    (h : wpAny (model prog w) A.in1 (Builtin.«list_iterator.__next__» ⟨[.ref it], []⟩) (fun fin s' => ∃ v, fin = .done (.ret v) ∧ Q v s') E s) :
    wpAny (model prog w) A (call (.ref mw) [] []) Q E s := by
  refine wpAny_call (codeAny_of_tree ?_)
  show wpAny _ _ (callAny (.ref mw) _) _ _ _
  refine nd_load hmw ?_
  show wpAny _ _ (checkBoundCall "list_iterator.__next__" ⟨[.ref it], []⟩ >>= fun _ => (again (.builtin "list_iterator.__next__" ⟨[.ref it], []⟩) : Sem PySem.Fin)) _ _ _
  refine wpAny_bind (wpAny_of_eq (mw_check it) (wpAny_pure ⟨plainId_quiet mw_plain _, ?_⟩))
  refine codeAny_builtin entry_listiter_next ?_
  rw [Around.under_plainId mw_plain]
  refine wpAny_mono h (fun fin s' hf => ?_) fun _ _ x => x
  obtain ⟨v, rfl, hv⟩ := hf
  exact hv

theorem mw_item {mw it l : Addr} {us : List Value} {c i : Nat} {x : Value} {news' : List (Addr × Obj)} {Q : Value → Shared → Prop} (F : Fr h₀ L s.heap m) (N : News h₀ L s.heap news) (hmw : (mw, wrapO it) ∈ news) (hl : (l, W.listOf us.toArray c) ∈ news) (U : Upd it (iterO l i) (iterO l (i + 1)) news news') (hx : us[i]? = some x)
    (h : ∀ h', Fr h₀ L h' m → News h₀ L h' news' → Q x { s with heap := h' }) : wpAny (model prog w) A (call (.ref mw) [] []) Q E s := by
  obtain ⟨pre, post, rfl, rfl, a, b⟩ := U.split
  have ho := (N (it, iterO l i) (by simp)).1
  have hol := (N _ hl).1
  refine mw_call (N _ hmw).1 ?_
  show wpAny _ _ (field (.ref it) 0 >>= _) _ _ s
  refine wpAny_bind (wpAny_field ho rfl (x := .ref l) rfl ?_)
  show wpAny _ _ (if (Value.ref l == Value.none) = true then _ else _) _ _ s
  rw [if_neg (show ¬ ((Value.ref l == Value.none) = true) from Bool.false_ne_true)]
  show wpAny _ _ (field (.ref it) 1 >>= _) _ _ s
  refine wpAny_bind (wpAny_field ho rfl (x := .int i 0) rfl ?_)
  show wpAny _ _ (seqItems? (.ref l) >>= _) _ _ s
  refine wpAny_bind (wpAny_seqItems hol rfl ?_)
  simp only [Int.toNat_natCast, List.getElem?_toArray, hx]
  obtain ⟨F', N'⟩ := news_upd (f := Obj.mapFields (·.setIfInBounds 1 (rawInt ((i : Int) + 1)))) F N a b (o' := iterO l (i + 1)) rfl rfl
  exact wpAny_bind (wpAny_setField ho rfl (by simp) (wpAny_pure ⟨x, rfl, h _ F' N'⟩))

/-- a new exception of a built-in class, not noted yet -/
structure NewX (h h' : Heap) (e : Addr) (cls : String) : Prop where
  keeps : ∀ b o, h.get? b = some o → h'.get? b = some o
  new : h.get? e = none
  there : ∃ ob vs t, h'.get? e = some ob ∧ ob.cls = .type cls ∧ ob.data = .fields vs ∧ vs[0]? = some t ∧ vs[1]? = some .none

abbrev iterEnd (i : Nat) : Obj := { cls := .type "list_iterator", data := .fields #[.none, .int i 0] }
theorem mw_end {mw it l : Addr} {us : List Value} {c i : Nat} {news' : List (Addr × Obj)} {Q : Value → Shared → Prop} (hh : A.handled = none) (F : Fr h₀ L s.heap m) (N : News h₀ L s.heap news) (hmw : (mw, wrapO it) ∈ news) (hl : (l, W.listOf us.toArray c) ∈ news) (U : Upd it (iterO l i) (iterEnd i) news news') (hx : us[i]? = none)
    (h : ∀ e h₁ h₂, Fr h₀ L h₁ m → News h₀ L h₁ news' → NewX h₁ h₂ e "StopIteration" → E (.ref e) { s with heap := h₂ }) : wpAny (model prog w) A (call (.ref mw) [] []) Q E s := by
  obtain ⟨pre, post, rfl, rfl, a, b⟩ := U.split
  have ho := (N (it, iterO l i) (by simp)).1
  have hol := (N _ hl).1
  refine mw_call (N _ hmw).1 ?_
  show wpAny _ _ (field (.ref it) 0 >>= _) _ _ s
  refine wpAny_bind (wpAny_field ho rfl (x := .ref l) rfl ?_)
  show wpAny _ _ (if (Value.ref l == Value.none) = true then _ else _) _ _ s
  rw [if_neg (show ¬ ((Value.ref l == Value.none) = true) from Bool.false_ne_true)]
  show wpAny _ _ (field (.ref it) 1 >>= _) _ _ s
  refine wpAny_bind (wpAny_field ho rfl (x := .int i 0) rfl ?_)
  show wpAny _ _ (seqItems? (.ref l) >>= _) _ _ s
  refine wpAny_bind (wpAny_seqItems hol rfl ?_)
  simp only [Int.toNat_natCast, List.getElem?_toArray, hx]
  obtain ⟨F', N'⟩ := news_upd (f := Obj.mapFields (·.setIfInBounds 0 .none)) F N a b (o' := iterEnd i) rfl rfl
  refine wpAny_bind (wpAny_rule (wpAny_bind (wpAny_setField ho rfl (by simp) ?_)))
  show wpAny _ _ (newExc (.type "StopIteration") [] >>= _) _ _ _
  refine wpAny_bind ?_
  simp only [newExc, newTuple]
  refine wpAny_bind (wpAny_newObj_type ?_ (by size_fits))
  refine wpAny_bind (m := firstArgMember _ _) (wpAny_of_eq (a := Value.none) (by first | rfl | (simp only [firstArgMember]; rfl)) ?_)
  refine wpAny_newObj_type ?_ (by size_fits)
  simp only [raiseNew]
  refine wpAny_bind (wpAny_handled ?_)
  rw [show A.in1.handled = none from hh]
  refine wpAny_bind (wpAny_pure (wpAny_throw ?_))
  refine h _ _ _ F' N' ⟨fun b o e => Heap.get?_push_of_some _ (Heap.get?_push_of_some _ e), ?_, ?_⟩
  · rw [Heap.size_push]
    cases hq : (s.heap.update it (Obj.mapFields fun x => x.setIfInBounds 0 Value.none)).get? ((s.heap.update it (Obj.mapFields fun x => x.setIfInBounds 0 Value.none)).objs.size + 1) with
    | none => rfl
    | some o => exact absurd (Heap.lt_size hq) (Nat.not_lt.mpr (Nat.le_succ _))
  · exact ⟨_, _, _, Heap.get?_push_size _ rfl, rfl, rfl, by rw [Array.getElem?_append_left (by simp)]; rfl, by rw [Array.getElem?_append_left (by simp)]; rfl⟩
end

section
variable {M : Model} {A : Around} {E : Value → Shared → Prop} {s : Shared}
theorem noteFrame_firstW {base : Heap} {env : Env} {outer : List Env} {L e : Addr} {oe : Obj} {vs : Array Value} {a0 : Value} {Q : Unit → Shared → Prop}
    (hfr : A.frames = some (env :: outer)) (hl : s.heap.FunFrames base (env :: outer)) (hf : env.frame = some L)
    (he : s.heap.get? e = some oe) (hkb : base.StaysIn s.heap) (hen : base.get? e = none) (hd : oe.data = .fields vs) (h1 : vs[1]? = some .none) (h0 : vs[0]? = some a0)
    (h : ∀ h', Heap.NotedW base (env :: outer) e oe.cls a0 (rawInt L) s.heap h' → Q () { s with heap := h' }) : wpAny M A (noteFrame (.ref e) env) Q E s := by
  unfold noteFrame
  simp only [hf]
  refine wpAny_bind (wpAny_field he hd h1 ?_)
  rw [if_neg (by decide)]
  exact wpAny_entryW hfr hl hf he hkb hen hd (Array.getElem?_eq_some_iff.mp h1).1 h0 h
end

section
variable {prog : Program} {w : World} {A₀ : Around} {E : Value → Shared → Prop} {s' : Shared} {base g h : Heap} {outer : List Env} {L a e : Addr} {m : Str → Option Value} {name : Str} {scope : Scope} {cd : Value}
  {b₀ : Stmt} {suite : List Stmt} {pos np : Pos} {rest : List ExceptHandler} {Q : Flow → Shared → Prop} {news : List (Addr × Obj)} {KF : Frag}
  {p : Program} {loose : List Str} {mean : ExcName → Option Value} {mg mb : Str → Option Value} {x : Str} {X T' : String}

/-- raised in the frame itself by a built-in, taken by the frame's own clause: the frames below turn in their slots alone -/
theorem catch_here (K : Below A₀ base outer g) (hX : NewX h s'.heap e X) (F : Fr g L h m) (N : News g L h news) (XB : KF.In base) (TB : Top p loose mean mg mb base) (D : KtsDicts (outer.filterMap (·.frame)) g)
    (ex : nsIn KF mainGlobals x = some none) (hv : bootBuiltins x = some (.type T')) (hn' : x ≠ "__name__")
    (hexc : isSubtype (.type T') (.type "BaseException") = pure true) (hnt : isSubtype (.type ((Manifest.find? T').elim "type" fun y => y.metatype)) (.type "tuple") = pure false) (hsub : isSubtype (.type X) (.type T') = pure true)
    (k : ∀ h' g', KtsTurn (outer.filterMap (·.frame)) g g' → Fr g' L h' m → News g' L h' news → Below A₀ base outer g' → KF.In g' → Top p loose mean mg mb g' → KtsDicts (outer.filterMap (·.frame)) g' →
      wpAny (model prog w) ((A₀.deeper (envOf name scope L a cd)).mark (some (.ref e))) (execs (b₀ :: suite) (envOf name scope L a cd)) Q E { s' with heap := h' })
    (hk : scope.kind = .function := by rfl) (hx : (envOf name scope L a cd).kindOf x = some .globalImplicit := by rfl) (hd : (x == ("__debug__" : Str)) = false := by decide)
    (hE : PassesOwnAt (model prog w) ((A₀.deeper (envOf name scope L a cd)).mark (some (.ref e))) (A₀.deeper (envOf name scope L a cd)) (envOf name scope L a cd) E) :
    wpAny (model prog w) (A₀.deeper (envOf name scope L a cd)) (noteFrame (.ref e) (envOf name scope L a cd))
      (fun _ s₂ => wpAny (model prog w) (A₀.deeper (envOf name scope L a cd)) (setFlight (.ref e) none) (fun _ s₃ =>
        wpAny (model prog w) (A₀.deeper (envOf name scope L a cd)) (handleBy (.ref e) (envOf name scope L a cd) (.ExceptHandler (some (.Name x np)) none (b₀ :: suite) pos :: rest)) Q E s₃) E s₂) E s' := by
  have K' := K.push (name := name) (a := a) (cd := cd) F hk
  have hin : ∀ env ∈ (envOf name scope L a cd :: outer), ∀ b, env.frame = some b → b ∈ (envOf name scope L a cd :: outer).filterMap (·.frame) := fun env he b hb => List.mem_filterMap.mpr ⟨env, he, hb⟩
  have hBG : ∀ b o, h.get? b = some o → b ∉ (envOf name scope L a cd :: outer).filterMap (·.frame) → (hideAll h ((envOf name scope L a cd :: outer).filterMap (·.frame))).get? b = some o := fun b o q nm => hideAll_get _ q nm
  have hl : ∀ q ∈ news, (hideAll h ((envOf name scope L a cd :: outer).filterMap (·.frame))).get? q.1 = some q.2 := fun q hq => by
    refine hideAll_get _ (N q hq).1 fun hm => ?_
    obtain ⟨env, he, hf⟩ := List.mem_filterMap.mp hm
    rcases List.mem_cons.mp he with rfl | he
    · exact (N q hq).2.1 (Option.some.inj hf).symm
    · obtain ⟨o, ho, _⟩ := (K.frames.mem (List.mem_filterMap.mpr ⟨env, he, hf⟩)).2
      rw [(N q hq).2.2] at ho; cases ho
  have hL : (hideAll h ((envOf name scope L a cd :: outer).filterMap (·.frame))).get? L = none := hideAll_none _ (List.mem_filterMap.mpr ⟨_, .head _, rfl⟩)
  obtain ⟨ob, vs, t, he, hcls, hdd, h0, h1⟩ := hX.there
  have hen : (hideAll h ((envOf name scope L a cd :: outer).filterMap (·.frame))).get? e = none := by
    cases q : (hideAll h ((envOf name scope L a cd :: outer).filterMap (·.frame))).get? e with
    | none => rfl
    | some o => have := of_hideAll _ q; rw [hX.new] at this; cases this
  refine noteFrame_firstW (a0 := t) K'.stack ((funFrames_hide K'.frames hin).of_keeps fun b o hb _ => ⟨o, hX.keeps b o hb, rfl⟩) rfl he (fun b o hb => hX.keeps b o (of_hideAll _ hb)) hen hdd h1 h0 fun h₄ hN => ?_
  obtain ⟨x1, x2, x3, x4⟩ := hN
  rw [hcls] at x3
  have hsm₄ : h.UpToSlots h₄ := (Heap.UpToSlots.of_keeps hX.keeps).trans x4
  refine wpAny_landsW ⟨x1, hen, x2, x3⟩ fun h₅ hheld hsm₅' => ?_
  have hsm₅ := hsm₄.trans hsm₅'
  obtain ⟨g₅, T₅, F₅, K₅⟩ := kts_ground K F hBG hheld.1 hsm₅
  have X₅ : KF.In g₅ := XB.keeps K₅.stays
  have P₅ : TopRead p loose mg mb g₅ := topRead_of (TB.keeps K₅.stays)
  obtain ⟨ob', hob, hobc⟩ := hheld.there
  refine wpAny_handleBy_builtin (X := X) (T := T') (b := true) hexc hnt hsub (name_B F₅ X₅ P₅ ex hv hn' ⟨rfl, ⟨ob', hob, hobc⟩, ?_⟩ hk hx hd)
  refine lands_againW hheld fun h₆ hfl₆ hsm₆ => ?_
  obtain ⟨g₆, T₆, F₆, K₆⟩ := kts_ground K F hBG hfl₆.1 (hsm₅.trans hsm₆)
  have Nl : News g₆ L h₆ news := fun q hq => ⟨hfl₆.1 _ _ (hl q hq), (N q hq).2.1, T₆.none_ _ (N q hq).2.2⟩
  exact wpAny_passesOwnAt hE (k h₆ g₆ T₆ F₆ Nl K₆ (XB.keeps K₆.stays) (TB.keeps K₆.stays) (D.turn T₆))
end
end Mine
-- B7
namespace Mine
open PySem PySem.W PySem.Calls PyProof.Rows
section
variable {prog : Program} {w : World} {A : Around} {E : Value → Shared → Prop} {s : Shared} {h₀ : Heap} {L D : Addr} {m : Str → Option Value} {news news' : List (Addr × Obj)}
theorem my_truthy {us : List Value} {c : Nat} {Q : Bool → Shared → Prop} (N : News h₀ L s.heap news) (hm : (D, W.listOf us.toArray c) ∈ news) (hz : us.length < 2 ^ 63) (b : Bool) (hb : (!us.isEmpty) = b)
    (h : ∀ tk, Q b { s with toks := tk }) : wpAny (model prog w) A (truthy (.ref D)) Q E s :=
  wpAny_truthy_list (News.isList N hm) (by rw [List.size_toArray]; omega) (by
    have e : us.toArray.isEmpty = us.isEmpty := by cases us <;> rfl
    rw [e, hb]; exact h _)
theorem my_last {value slice : Expr} {p : List Value} {y : Value} {c : Nat} {u : Tok} {Q : Value → Shared → Prop} (N : News h₀ L s.heap news) (hm : (D, W.listOf (p ++ [y]).toArray c) ∈ news) (hz : p.length < 2 ^ 60) (h : Q y s)
    (hs : subscripted slice false (.ref D) (.int (-1) u) = operate [.ref D, .int (-1) u] (getItem (.ref D) (.int (-1) u)) := by with_unfolding_all rfl) :
    wpAny (model prog w) A (subscriptTail value slice (.ref D) (.int (-1) u)) Q E s := by
  have hl := News.isList N hm
  refine tail_any hl.typeIs slot_list_getitem.lookup (wpAny_getItem_list_neg hl (by decide) ?_ (by decide) ?_ h) hs
  · rw [List.size_toArray, List.length_append, List.length_singleton]; omega
  · have e : ((-1 : Int) + ((p ++ [y]).toArray.size : Nat)).toNat = p.length := by rw [List.size_toArray, List.length_append, List.length_singleton]; omega
    rw [e]; simp
theorem my_pop {p : List Value} {y : Value} {n : Nat} {Q : Value → Shared → Prop} (F : Fr h₀ L s.heap m) (N : News h₀ L s.heap news) (U : Upd D (W.listOf (p ++ [y]).toArray n) (W.listOf p.toArray (n + 1)) news news') (hz : p.length ≤ 10000)
    (h : ∀ h', Fr h₀ L h' m → News h₀ L h' news' → Q y { s with heap := h' }) : wpAny (model prog w) A (call (.builtin "list.pop") [.ref D]) Q E s :=
  kl_pop F N (kpa_last y p) U (by show (p ++ [y]).length ≤ _; rw [List.length_append, List.length_singleton, sizeLine_eq]; omega) h
end

section
variable {prog : Program} {w : World} {A : Around} {s : Shared} {env : Env} {target : Expr} {body : List Stmt} {Q : Flow → Shared → Prop} {m : Str → Option Value} {news : List (Addr × Obj)} {g₀ : Heap}
def FPostG (L I : Addr) (oI : Obj) (src : List (Addr × Obj)) (Jn : Heap → (Str → Option Value) → List (Addr × Obj) → Prop) (s₀ : Shared) (Q : Flow → Shared → Prop) (f : Flow) (s' : Shared) : Prop := match f with
  | .brk => Q .next s'
  | .ret v => Q (.ret v) s'
  | _ => ∃ h' tk' g' m' news', s' = { s₀ with heap := h', toks := tk' } ∧ Fr g' L h' m' ∧ News g' L h' ((I, oI) :: news') ∧ (∀ p ∈ src, p ∈ news') ∧ I ∉ news'.map (·.1) ∧ Jn g' m' news'

theorem for_ledG {I : Addr} {src : List (Addr × Obj)} {n : Nat} {P : Nat → Value → Prop} {St : Nat → Heap → Prop} (W : Walks prog w A I (I :: src.map (·.1)) [I] n P St) (hI : g₀.get? I = none) (hIL : I ≠ env.locals)
    (hlive : ∀ i h, St i h → ∃ oI, h.get? I = some oI) (hst : St 0 s.heap) (F : Fr g₀ env.locals s.heap m) (N : News g₀ env.locals s.heap news) (hsrc : ∀ p ∈ src, p ∈ news) (hnI : I ∉ news.map (·.1))
    (J : Nat → Heap → (Str → Option Value) → List (Addr × Obj) → Prop) (h0 : J 0 g₀ m news) (ht : ∀ v, letOwnedTupleGo target (.ref I) v = pure ())
    (turn : ∀ i v g₁ m₁ news₁ oI h tk, i < n → P i v → J i g₁ m₁ news₁ → (∀ p ∈ src, p ∈ news₁) → I ∉ news₁.map (·.1) → Fr g₁ env.locals h m₁ → News g₁ env.locals h ((I, oI) :: news₁) →
      wpAny (model prog w) A (assign target env v) (fun _ s₂ => wpAny (model prog w) A (execs body env) (FPostG env.locals I oI src (J (i + 1)) s Q) (fun _ _ => False) s₂) (fun _ _ => False) { s with heap := h, toks := tk })
    (done : ∀ g₁ m' news' h tk, Fr g₁ env.locals h m' → News g₁ env.locals h news' → (∀ p ∈ src, p ∈ news') → J n g₁ m' news' → Q .next { s with heap := h, toks := tk }) :
    codeAny (model prog w) A (.forLoop target (.ref I) body [] env) (fun r s' => match r with | .ok f => Q f s' | .error e => cameBackBy (model prog w) A env (fun _ _ => False) e s') s := by
  refine codeAny_forLoop (fun k s' => ∃ h' tk g' m' news' i, s' = { s with heap := h', toks := tk } ∧ g'.get? I = none ∧ St i h' ∧ Fr g' env.locals h' m' ∧ News g' env.locals h' news' ∧ (∀ p ∈ src, p ∈ news') ∧ I ∉ news'.map (·.1) ∧ J i g' m' news' ∧ i ≤ n ∧ k = n + 1 - i) ?_ (n + 1)
    ⟨s.heap, s.toks, g₀, m, news, 0, rfl, hI, hst, F, N, hsrc, hnI, h0, Nat.zero_le _, rfl⟩ ht
  rintro k s' ⟨h', tk, g', m', news', i, rfl, hI', hst', F', N', hsrc', hnI', hJ, hi, rfl⟩
  have next : ∀ h₁ : Heap, (∀ b o, b ∉ [I] → h'.get? b = some o → h₁.get? b = some o) → Fr g' env.locals h₁ m' ∧ News g' env.locals h₁ news' := fun h₁ hk₁ =>
    ⟨⟨F'.ns.at' fun o e => hk₁ _ o (by simpa using fun e => hIL e.symm) e, fun b o e => hk₁ b o (fun q => by rw [List.mem_singleton.mp q, hI'] at e; cases e) (F'.keep b o e), F'.above⟩,
     fun p hp => ⟨hk₁ _ _ (fun q => hnI' (List.mem_map.mpr ⟨p, hp, List.mem_singleton.mp q⟩)) (N' p hp).1, (N' p hp).2⟩⟩
  by_cases hlt : i < n
  · refine W.item i _ _ _ hlt hst' fun v h₁ tk₁ hP hst₁ hk₁ => ?_
    obtain ⟨F₁, N₁⟩ := next h₁ hk₁
    obtain ⟨oI, hoI⟩ := hlive _ _ hst₁
    have N₂ : News g' env.locals h₁ ((I, oI) :: news') := fun p hp => by
      rcases List.mem_cons.mp hp with rfl | hp
      · exact ⟨hoI, hIL, hI'⟩
      · exact N₁ p hp
    refine wpAny_mono (turn i v g' m' news' oI h₁ tk₁ hlt hP hJ hsrc' hnI' F₁ N₂) (fun _ s₂ h₂ => wpAny_mono h₂ (fun f s₃ h₃ => ?_) fun _ _ x => x.elim) fun _ _ x => x.elim
    have fin : (∃ h' tk' g' m' news', s₃ = { s with heap := h', toks := tk' } ∧ Fr g' env.locals h' m' ∧ News g' env.locals h' ((I, oI) :: news') ∧ (∀ p ∈ src, p ∈ news') ∧ I ∉ news'.map (·.1) ∧ J (i + 1) g' m' news') →
        ∃ m_1, m_1 < n + 1 - i ∧ ∃ h' tk g' m' news' i, s₃ = { s with heap := h', toks := tk } ∧ g'.get? I = none ∧ St i h' ∧ Fr g' env.locals h' m' ∧ News g' env.locals h' news' ∧ (∀ p ∈ src, p ∈ news') ∧ I ∉ news'.map (·.1) ∧ J i g' m' news' ∧ i ≤ n ∧ m_1 = n + 1 - i := by
      rintro ⟨h₃', tk₃, g₂, m₂, news₂, rfl, F₃, N₃, hs₃, hn₃, hJ₃⟩
      refine ⟨n + 1 - (i + 1), by omega, h₃', tk₃, g₂, m₂, news₂, i + 1, rfl, (N₃ _ (.head _)).2.2, ?_, F₃, fun p hp => N₃ p (.tail _ hp), hs₃, hn₃, hJ₃, hlt, rfl⟩
      refine W.frame _ _ _ hst₁ fun b hb o e => ?_
      rcases List.mem_cons.mp hb with rfl | hb
      · rw [hoI] at e; cases e; exact (N₃ _ (.head _)).1
      · obtain ⟨p, hp, rfl⟩ := List.mem_map.mp hb
        have := (N₁ p (hsrc' p hp)).1
        rw [this] at e; cases e
        exact (N₃ _ (.tail _ (hs₃ p hp))).1
    cases f with
    | ret v => exact h₃
    | brk => exact h₃
    | cont => exact fin h₃
    | next => exact fin h₃
  · have hin : i = n := by omega
    subst hin
    refine W.done _ _ _ hst' fun h₁ tk₁ hk₁ => wpAny_execs_nil ?_
    obtain ⟨F₁, N₁⟩ := next h₁ hk₁
    exact done g' m' news' h₁ tk₁ F₁ N₁ hsrc' hJ

theorem ForL.dictG {ax : Addr} {o : Obj} {kvs : List (Int × Value)} (hh : A.handled = none) (F : Fr g₀ env.locals s.heap m) (N : News g₀ env.locals s.heap news) (hax : (ax, o) ∈ news) (hd : o.IsDictOf (intKind prog w) kvs) (lo : (ax == sysModules) = false)
    (J : Nat → Heap → (Str → Option Value) → List (Addr × Obj) → Prop) (h0 : J 0 g₀ m news) (ht : ∀ I v, letOwnedTupleGo target (.ref I) v = pure ())
    (turn : ∀ I i v t x g₁ m₁ news₁ oI h tk, kvs[i]? = some (v, x) → J i g₁ m₁ news₁ → (ax, o) ∈ news₁ → I ∉ news₁.map (·.1) → Fr g₁ env.locals h m₁ → News g₁ env.locals h ((I, oI) :: news₁) →
      wpAny (model prog w) A (assign target env (.int v t)) (fun _ s₂ => wpAny (model prog w) A (execs body env) (FPostG env.locals I oI [(ax, o)] (J (i + 1)) s Q) (fun _ _ => False) s₂) (fun _ _ => False) { s with heap := h, toks := tk })
    (done : ∀ g₁ m' news' h tk, Fr g₁ env.locals h m' → News g₁ env.locals h news' → (ax, o) ∈ news' → J kvs.length g₁ m' news' → Q .next { s with heap := h, toks := tk }) :
    ForL prog w A env target body Q (.ref ax) s := by
  obtain ⟨ep, hls⟩ := (Heap.dictOf_iff.mpr ⟨o, (N _ hax).1, hd⟩ : s.heap.DictOf _ ax kvs).dictAt
  have hne : ax ≠ s.heap.objs.size := Nat.ne_of_lt (Heap.lt_size (N _ hax).1)
  unfold ForL
  refine wpAny_pyIter_dict lo hls ?_
  have Wk := Walks.dictKeys (prog := prog) (w := w) (knd := intKind prog w) hh s.heap.objs.size ax hne kvs ep
  have hlt : ∀ p ∈ news, p.1 < s.heap.objs.size := fun p hp => Heap.lt_size (N p hp).1
  refine for_ledG (s := { s with heap := s.heap.push { cls := .type "dict_keyiterator", data := .fields #[.ref ax, .int 0 0, .int kvs.length 0, .int ep 0] } }) (src := [(ax, o)]) Wk (next_is_new F) (Nat.ne_of_gt F.ns.lt) ?_ ⟨⟨_, Heap.get?_push_size _ rfl, rfl, rfl⟩, hls.push _⟩ (F.push _)
    (fun p hp => ⟨Heap.get?_push_of_some _ (N p hp).1, (N p hp).2⟩) (by simpa using hax) (fun q => by obtain ⟨p, hp, e⟩ := List.mem_map.mp q; exact absurd (hlt p hp) (e ▸ Nat.lt_irrefl _)) J h0 (ht _) ?_ ?_
  · rintro i h ⟨⟨o, ho, _⟩, _⟩; exact ⟨o, ho⟩
  · rintro i v g₁ m₁ news₁ oI h tk _ ⟨k, x, hP, hk⟩ hJ hs hI F₁ N₁
    obtain ⟨t, rfl⟩ := Value.isInt_shape hk
    exact turn _ i k t x g₁ m₁ news₁ oI h tk hP hJ (hs _ (.head _)) hI F₁ N₁
  · intro g₁ m' news' h tk F' N' hs hJ
    exact done g₁ m' news' h tk F' N' (hs _ (.head _)) hJ
end

section
variable {prog : Program} {w : World} {A A₀ : Around} {s : Shared} {K : Frag} {L a : Addr} {h₀ base : Heap} {m mg mb : Str → Option Value} {news : List (Addr × Obj)} {p : Program} {loose : List Str} {mean : ExcName → Option Value} {cn : Str} {cs : Scope} {ccd : Value}
/-- the frames that stand below -/
abbrev frs (l : List Env) : List Addr := l.filterMap (·.frame)
/-- a def entered that takes exceptions: at its end the frames below may have turned in their slots -/
def LeaveM (A₀ : Around) (base : Heap) (outer : List Env) (K : Frag) (p : Program) (loose : List Str) (mean : ExcName → Option Value) (mg mb : Str → Option Value) (h₀ : Heap) (L : Addr) (m : Str → Option Value) (fs : List Addr) (g : Heap) (R : Result → Shared → Prop) (v : Value) (s' : Shared) : Prop :=
  ∃ g' L' m' news', KtsTurn fs g g' ∧ Fr g' L' s'.heap m' ∧ News g' L' s'.heap news' ∧ ∀ h₀', KtsTurn (frs outer) h₀ h₀' → Fr h₀' L s'.heap m → News h₀' L s'.heap news' → Below A₀ base outer h₀' → K.In h₀' → Top p loose mean mg mb h₀' →
    KtsDicts (frs outer) h₀' → R (.ok (.ret v)) s'
theorem enterS {outer : List Env} {R : Result → Shared → Prop} {name qual : Str} {params : Arguments} {body : List Stmt} {scope : Scope} {dV kV doc pm cdv ct oc : Value} {an od : Option Addr} {osl : Array (Option Value)} {f : Addr} {args : Args} {binds : List (Str × Value)}
    (B : Below A₀ base outer h₀) (F : Fr h₀ L s.heap m) (X₀ : K.In h₀) (N : News h₀ L s.heap news) (T : Top p loose mean mg mb h₀) (XB : K.In base) (TB : Top p loose mean mg mb base) (D : KtsDicts (frs outer) h₀) (hA : A.frames = some (envOf cn cs L a ccd :: outer))
    (hck : cs.kind = .function)
    (ho : K.lookup f = some ⟨oc, od, .func (fnOf name qual params body scope dV kV doc pm an cdv ct), osl⟩) (hcd : codeIn K cdv qual = true) (hroom : A.depth < recursionLimit)
    (hbind : BindsTo s (fnOf name qual params body scope dV kV doc pm an cdv ct) args binds) (hloc : ∀ y ∈ binds, scope.names.lookup y.1 = some .local)
    (h : ∀ g L' h₁, Fr h₀ L g m → Fr g L' h₁ (fun y => binds.reverse.lookup y) → News g L' h₁ news → Below A base (envOf cn cs L a ccd :: outer) g → K.In g → Top p loose mean mg mb g → KtsDicts (frs (envOf cn cs L a ccd :: outer)) g →
      (A.deeper (envOf qual scope L' f cdv)).frames = some (envOf qual scope L' f cdv :: envOf cn cs L a ccd :: outer) →
      wpAny (model prog w) (A.deeper (envOf qual scope L' f cdv)) (execs body (envOf qual scope L' f cdv))
        (fun fl s' => LeaveM A₀ base outer K p loose mean mg mb h₀ L m (frs (envOf cn cs L a ccd :: outer)) g R (match fl with | .ret v => v | _ => .none) s') (fun _ _ => False)
        { s with heap := h₁, toks := s.toks + binds.length })
    (hco : scope.isCoroutine = false) (hgen : scope.isGenerator = false) (hk : scope.kind = .function)
    (hcell : ∀ x ∈ scope.names, x.2 ≠ .cell) : codeAny (model prog w) A (.call (.ref f) args) R s :=
  code_defS B F X₀ N T XB TB D KtsTurn.refl hA ho hcd hroom hbind hloc (fun g L' h₁ a b c d e t dd => wpAny_mono (h g L' h₁ a b c d e t dd (by show A.frames.map _ = _; rw [hA]; rfl)) (fun _ _ x => .inr x) fun _ _ x => x.elim) hck hco hgen hk hcell
end
end Mine
-- B8
namespace Mine
open PySem PySem.W PySem.Calls PyProof.Rows
section
variable {prog : Program} {w : World} {A A₀ : Around} {s : Shared} {K : Frag} {L : Addr} {h₀ base : Heap} {m mg mb : Str → Option Value} {news : List (Addr × Obj)} {p : Program} {loose : List Str} {mean : ExcName → Option Value} {env : Env} {outer : List Env}
/-- the ground of the caller, once the def has ended over frames that turned -/
theorem turn_back {g g' h L' news' m'} {R : Result → Shared → Prop} {v : Value} {s' : Shared} (hs : s'.heap = h) (B : Below A₀ base outer h₀) (FG : Fr h₀ L g m) (XB : K.In base) (TB : Top p loose mean mg mb base) (D : KtsDicts (frs outer) h₀) (hf : env.frame = some L) (T' : KtsTurn (frs (env :: outer)) g g') (F' : Fr g' L' h m') (N' : News g' L' h news')
    (k : ∀ h₀', KtsTurn (frs outer) h₀ h₀' → Fr h₀' L s'.heap m → News h₀' L s'.heap news' → Below A₀ base outer h₀' → K.In h₀' → Top p loose mean mg mb h₀' → KtsDicts (frs outer) h₀' → R (.ok (.ret v)) s') : R (.ok (.ret v)) s' := by
  subst hs
  have ef : frs (env :: outer) = L :: frs outer := by show List.filterMap _ (env :: outer) = _; rw [List.filterMap_cons]; simp only [hf]
  obtain ⟨h₀', T₁, F₁, B₁⟩ := kts_ground (name := default) (scope := env.scope) (a := 0) (cd := .none) (B := g') (h₅ := s'.heap) B FG
    (fun b o e nm => T'.other b o e (by rw [ef]; exact nm)) F'.keep (fun b o e _ => by obtain ⟨sl, q⟩ := T'.up e; exact ⟨sl, F'.keep _ _ q⟩)
  refine k h₀' T₁ F₁ (fun q hq => ⟨(N' q hq).1, fun e => ?_, T₁.none_ _ ?_⟩) B₁ (XB.keeps B₁.stays) (TB.keeps B₁.stays) (D.turn T₁)
  · obtain ⟨oL, es, ep, hL, _⟩ := FG.ns
    obtain ⟨sl, q'⟩ := T'.up hL
    have := (N' q hq).2.2
    rw [e, q'] at this; cases this
  · cases e : h₀.get? q.1 with
    | none => rfl
    | some o =>
      obtain ⟨sl, q'⟩ := T'.up (FG.keep _ _ e)
      have := (N' q hq).2.2
      rw [q'] at this; cases this
theorem frs_dicts {g : Heap} (hf : env.frame = some L) (FG : Fr h₀ L g m) (D : KtsDicts (frs outer) h₀) : KtsDicts (frs (env :: outer)) g := by
  have ef : frs (env :: outer) = L :: frs outer := by show List.filterMap _ (env :: outer) = _; rw [List.filterMap_cons]; simp only [hf]
  rw [ef]
  intro b hb
  rcases List.mem_cons.mp hb with rfl | hb
  · obtain ⟨oL, es, ep, hL, hd, _⟩ := FG.ns
    exact ⟨oL, es, ep, hL, hd⟩
  · obtain ⟨o, es, n, ho, hd⟩ := D b hb
    exact ⟨o, es, n, FG.keep _ _ ho, hd⟩

variable {R : Result → Shared → Prop} {name qual : Str} {params : Arguments} {body : List Stmt} {scope : Scope} {dV kV doc pm cdv ct oc : Value} {an od : Option Addr} {osl : Array (Option Value)} {f : Addr} {args : Args} {binds : List (Str × Value)}
/-- a def entered from any frame of a def, in which exceptions are taken -/
theorem enterT (B : Below A₀ base outer h₀) (F : Fr h₀ L s.heap m) (X₀ : K.In h₀) (N : News h₀ L s.heap news) (T : Top p loose mean mg mb h₀) (XB : K.In base) (TB : Top p loose mean mg mb base) (D : KtsDicts (frs outer) h₀) (hA : A.frames = some (env :: outer)) (hf : env.frame = some L) (hke : env.scope.kind = .function)
    (ho : K.lookup f = some ⟨oc, od, .func (fnOf name qual params body scope dV kV doc pm an cdv ct), osl⟩) (hcd : codeIn K cdv qual = true) (hroom : A.depth < recursionLimit)
    (hbind : BindsTo s (fnOf name qual params body scope dV kV doc pm an cdv ct) args binds) (hloc : ∀ y ∈ binds, scope.names.lookup y.1 = some .local)
    (h : ∀ g L' h₁, Fr h₀ L g m → Fr g L' h₁ (fun y => binds.reverse.lookup y) → News g L' h₁ news → Below A base (env :: outer) g → K.In g → Top p loose mean mg mb g → KtsDicts (frs (env :: outer)) g →
      (A.deeper (envOf qual scope L' f cdv)).frames = some (envOf qual scope L' f cdv :: env :: outer) →
      wpAny (model prog w) (A.deeper (envOf qual scope L' f cdv)) (execs body (envOf qual scope L' f cdv))
        (fun fl s' => LeaveM A₀ base outer K p loose mean mg mb h₀ L m (frs (env :: outer)) g R (match fl with | .ret v => v | _ => .none) s') (fun _ _ => False)
        { s with heap := h₁, toks := s.toks + binds.length })
    (hco : scope.isCoroutine = false) (hgen : scope.isGenerator = false) (hk : scope.kind = .function)
    (hcell : ∀ x ∈ scope.names, x.2 ≠ .cell) : codeAny (model prog w) A (.call (.ref f) args) R s := by
  have X := X₀.keeps F.keep
  obtain ⟨FG, BG, st, -⟩ := groundX (R := R) B F N hA hf hke
  refine codeAny_call_def (fd := fnOf name qual params body scope dV kV doc pm an cdv ct) (body := body) (binds := binds) hroom (X _ _ ho) rfl (T.nolimit.keeps F.keep) (codeRec_of X hcd) rfl hbind hcell hloc (fun h₁ hns hk₁ => ?_) hco hgen hk
  refine wpAny_mono (h _ s.heap.objs.size h₁ FG ⟨hns, fun b o e => hk₁ b o (of_hideAll _ e), Nat.le_of_eq (hideAll_size _ _)⟩
    (fun q hq => ⟨hk₁ _ _ (N q hq).1, Nat.ne_of_lt (Heap.lt_size (N q hq).1), hideAll_none _ (List.mem_map_of_mem hq)⟩) BG (X₀.keeps st) (T.keeps st) (frs_dicts hf FG D) (by show A.frames.map _ = _; rw [hA]; rfl)) (fun fl s' hl => ?_) fun _ _ y => y.elim
  obtain ⟨g', L', m', news', T', F', N', k⟩ := hl
  exact turn_back rfl B FG XB TB D hf T' F' N' k
/-- the same for a def with cells -/
theorem enterTC (B : Below A₀ base outer h₀) (F : Fr h₀ L s.heap m) (X₀ : K.In h₀) (N : News h₀ L s.heap news) (T : Top p loose mean mg mb h₀) (XB : K.In base) (TB : Top p loose mean mg mb base) (D : KtsDicts (frs outer) h₀) (hA : A.frames = some (env :: outer)) (hf : env.frame = some L) (hke : env.scope.kind = .function)
    (ho : K.lookup f = some ⟨oc, od, .func (fnOf name qual params body scope dV kV doc pm an cdv ct), osl⟩) (hcd : codeIn K cdv qual = true) (hroom : A.depth < recursionLimit)
    (hbind : BindsTo s (fnOf name qual params body scope dV kV doc pm an cdv ct) args binds) (hkind : (binds.all fun y => scope.names.lookup y.1 == some .local || scope.names.lookup y.1 == some .cell) = true)
    (hnd : ((cellsFrom 0 scope.names []).map (·.1)).Nodup)
    (h : ∀ g L' h₁ tk cells, Fr h₀ L g m → Fr g L' h₁ (bindL (envOfC qual scope L' f cdv).kindOf binds fun _ => none) → News g L' h₁ (cells ++ news) →
      CellsAre (bindC (envOfC qual scope L' f cdv).kindOf binds fun _ => none) (cellsFrom (L' + 1) scope.names []) cells → Below A base (env :: outer) g → K.In g → Top p loose mean mg mb g → KtsDicts (frs (env :: outer)) g → (∀ p ∈ news, p.1 < L') →
      (A.deeper (envOfC qual scope L' f cdv)).frames = some (envOfC qual scope L' f cdv :: env :: outer) →
      wpAny (model prog w) (A.deeper (envOfC qual scope L' f cdv)) (execs body (envOfC qual scope L' f cdv))
        (fun fl s' => LeaveM A₀ base outer K p loose mean mg mb h₀ L m (frs (env :: outer)) g R (match fl with | .ret v => v | _ => .none) s') (fun _ _ => False)
        { s with heap := h₁, toks := tk })
    (hco : scope.isCoroutine = false) (hgen : scope.isGenerator = false) (hk : scope.kind = .function) : codeAny (model prog w) A (.call (.ref f) args) R s := by
  have X := X₀.keeps F.keep
  obtain ⟨FG, BG, st, -⟩ := groundX (R := R) B F N hA hf hke
  refine codeAny_call_function hroom (X _ _ ho) rfl hco hgen rfl (codeRec_of X hcd) (hbind _ _ _ _ ?_)
  refine wpAny_newFunctionEnv_cells hk (kindsX hkind _) fun env' he s' x => ?_
  subst he
  refine ⟨(T.nolimit.keeps F.keep).keeps x.toInCall.keep, codeAny_func ?_⟩
  obtain ⟨h₁, tk, rfl, _⟩ := x.done
  have hk₁ := x.toInCall.keep
  obtain ⟨cells, NC, Y⟩ := Cl.news (h₀ := s.heap) (Nat.le_refl _) fun n c hm => ⟨x.cell n c (lookup_of_mem_nodup (cellsFrom_names scope.names 0 (s.heap.objs.size + 1) [] [] rfl ▸ hnd) hm), x.above n c hm⟩
  have NN : News (hideAll s.heap (news.map (·.1))) s.heap.objs.size h₁ (cells ++ news) := fun q hq => by
    rcases List.mem_append.mp hq with hq | hq
    · refine ⟨(NC q hq).1, (NC q hq).2.1, ?_⟩
      cases e : (hideAll s.heap (news.map (·.1))).get? q.1 with
      | none => rfl
      | some o => have := of_hideAll _ e; rw [(NC q hq).2.2] at this; cases this
    · exact ⟨hk₁ _ _ (N q hq).1, Nat.ne_of_lt (Heap.lt_size (N q hq).1), hideAll_none _ (List.mem_map_of_mem hq)⟩
  refine wpAny_mono (h _ s.heap.objs.size h₁ tk cells FG ⟨x.toInCall.ns, fun b o e => hk₁ b o (of_hideAll _ e), Nat.le_of_eq (hideAll_size _ _)⟩ NN Y BG (X₀.keeps st) (T.keeps st) (frs_dicts hf FG D) (fun q hq => Heap.lt_size (N q hq).1) (by show A.frames.map _ = _; rw [hA]; rfl)) (fun fl s' hl => ?_) fun _ _ y => y.elim
  obtain ⟨g', L', m', news', T', F', N', k⟩ := hl
  exact turn_back rfl B FG XB TB D hf T' F' N' k
/-- a def with cells entered; nothing comes out as an exception -/
theorem enterC (B : Below A₀ base outer h₀) (F : Fr h₀ L s.heap m) (X₀ : K.In h₀) (N : News h₀ L s.heap news) (T : Top p loose mean mg mb h₀) (hA : A.frames = some (env :: outer)) (hf : env.frame = some L) (hke : env.scope.kind = .function)
    (ho : K.lookup f = some ⟨oc, od, .func (fnOf name qual params body scope dV kV doc pm an cdv ct), osl⟩) (hcd : codeIn K cdv qual = true) (hroom : A.depth < recursionLimit)
    (hbind : BindsTo s (fnOf name qual params body scope dV kV doc pm an cdv ct) args binds) (hkind : (binds.all fun y => scope.names.lookup y.1 == some .local || scope.names.lookup y.1 == some .cell) = true)
    (hnd : ((cellsFrom 0 scope.names []).map (·.1)).Nodup)
    (h : ∀ g L' h₁ tk cells, Fr h₀ L g m → Fr g L' h₁ (bindL (envOfC qual scope L' f cdv).kindOf binds fun _ => none) → News g L' h₁ (cells ++ news) →
      CellsAre (bindC (envOfC qual scope L' f cdv).kindOf binds fun _ => none) (cellsFrom (L' + 1) scope.names []) cells → Below A base (env :: outer) g → K.In g → Top p loose mean mg mb g → (∀ p ∈ news, p.1 < L') →
      (A.deeper (envOfC qual scope L' f cdv)).frames = some (envOfC qual scope L' f cdv :: env :: outer) →
      wpAny (model prog w) (A.deeper (envOfC qual scope L' f cdv)) (execs body (envOfC qual scope L' f cdv))
        (fun fl s' => LeaveK h₀ L m g R (match fl with | .ret v => v | _ => .none) s') (fun _ _ => False)
        { s with heap := h₁, toks := tk })
    (hco : scope.isCoroutine = false) (hgen : scope.isGenerator = false) (hk : scope.kind = .function) : codeAny (model prog w) A (.call (.ref f) args) R s :=
  code_defC B F X₀ N T hA hf hke ho hcd hroom hbind hkind hnd (fun g L' h₁ tk cells a b c d e x t l => wpAny_mono (h g L' h₁ tk cells a b c d e x t l (by show A.frames.map _ = _; rw [hA]; rfl)) (fun _ _ y => y) fun _ _ y => y.elim) hco hgen hk
end
end Mine
-- G2
namespace Mine
open PySem PySem.W PySem.Calls PyProof.Rows
/-- one station of the search: the node, the tokens, its iterator and the bound next -/
structure FrR where
  r : NodeR
  t : Tok
  it : Addr
  mw : Addr
  pos : Nat
  ix : Value
structure DAd where
  ns : Addr
  seen : Addr
  itk : Addr
  stk : Addr
abbrev fseg (f : FrR) : List (Addr × Obj) := [(f.it, iterO f.r.succ f.pos), (f.mw, wrapO f.it)]
abbrev stV (Fs : List FrR) : List Value := Fs.map fun f => .int f.r.key f.t
abbrev itV (Fs : List FrR) : List Value := Fs.map fun f => .ref f.mw
abbrev kvF (Fs : List FrR) : List (Int × Value) := Fs.map fun f => (f.r.key, f.ix)
abbrev dfsL (a : DAd) (oNs oSeen : Obj) (n1 n2 : Nat) (Fs : List FrR) (T : List (Addr × Obj)) : List (Addr × Obj) :=
  (a.ns, oNs) :: (a.seen, oSeen) :: (a.itk, W.listOf (itV Fs).toArray n2) :: (a.stk, W.listOf (stV Fs).toArray n1) :: (Fs.flatMap fseg ++ T)

/-- how much is not seen yet -/
def unS (G : List NodeR) (seen : Int → Bool) (c : NodeR → Nat) : Nat := (G.map fun r => if seen r.key then 0 else c r).sum
theorem unS_add {G : List NodeR} {seen : Int → Bool} {c : NodeR → Nat} {r : NodeR} (hr : r ∈ G) (hs : seen r.key = false) : unS G (fun k => seen k || decide (k = r.key)) c + c r ≤ unS G seen c := by
  unfold unS
  induction G with
  | nil => cases hr
  | cons q G ih =>
    have le : ∀ l : List NodeR, (l.map fun r' => if (seen r'.key || decide (r'.key = r.key)) = true then 0 else c r').sum ≤ (l.map fun r => if seen r.key = true then 0 else c r).sum := by
      intro l
      induction l with
      | nil => exact Nat.le_refl _
      | cons x l ih =>
        simp only [List.map_cons, List.sum_cons]
        refine Nat.add_le_add ?_ ih
        cases h1 : seen x.key <;> simp
        split <;> omega
    rcases List.mem_cons.mp hr with rfl | hr
    · simp only [List.map_cons, List.sum_cons, hs]
      have := le G
      simp at this ⊢
      omega
    · have := ih hr
      have one : (if (seen q.key || decide (q.key = r.key)) = true then 0 else c q) ≤ (if seen q.key = true then 0 else c q) := by
        by_cases h1 : seen q.key = true
        · simp [h1]
        · simp [h1]; split <;> omega
      simp only [List.map_cons, List.sum_cons]
      simp only [] at this
      omega

def remF (Fs : List FrR) : Nat := (Fs.map fun f => f.r.ss.length - f.pos + 1).sum
theorem remF_snoc {Fs : List FrR} {f : FrR} : remF (Fs ++ [f]) = remF Fs + (f.r.ss.length - f.pos + 1) := by
  unfold remF; simp

structure DI (w : World) (G : List NodeR) (a : DAd) (oNs oSeen : Obj) (Fs : List FrR) (seen : Int → Bool) (T : List (Addr × Obj)) : Prop where
  nd : ND (dfsL a oNs oSeen 0 0 Fs T)
  ds : oNs.IsDictOf (intKind PySem.Challenge.rw_mr0333_01.row.prog w) (kvF Fs)
  sn : ∃ n, oSeen.SetObjOf (intKind PySem.Challenge.rw_mr0333_01.row.prog w) seen n ∧ n + unS G seen (fun _ => 1) ≤ G.length
  mem : ∀ f ∈ Fs, f.r ∈ G ∧ f.pos ≤ f.r.ss.length ∧ seen f.r.key = true
  ch : (Fs.map (·.r.key)).Pairwise (· < ·)
  lo : (a.ns == sysModules) = false
  ln : Fs.length + unS G seen (fun _ => 1) ≤ G.length

structure DNe (a : DAd) (tl : List (Addr × Obj)) : Prop where
  q1 : (a.ns : Nat) ≠ a.seen
  q2 : (a.ns : Nat) ≠ a.itk
  q3 : (a.ns : Nat) ≠ a.stk
  q4 : (a.seen : Nat) ≠ a.itk
  q5 : (a.seen : Nat) ≠ a.stk
  q6 : (a.itk : Nat) ≠ a.stk
  m1 : a.ns ∉ tl.map (·.1)
  m2 : a.seen ∉ tl.map (·.1)
  m3 : a.itk ∉ tl.map (·.1)
  m4 : a.stk ∉ tl.map (·.1)
  nt : ND tl
theorem dne_iff {a : DAd} {oNs oSeen : Obj} {n1 n2 : Nat} {Fs : List FrR} {T : List (Addr × Obj)} : ND (dfsL a oNs oSeen n1 n2 Fs T) ↔ DNe a (Fs.flatMap fseg ++ T) := by
  show (a.ns :: a.seen :: a.itk :: a.stk :: (Fs.flatMap fseg ++ T).map (·.1)).Nodup ↔ _
  simp only [List.nodup_cons, List.mem_cons, not_or]
  constructor
  · rintro ⟨⟨x1, x2, x3, x4⟩, ⟨x5, x6, x7⟩, ⟨x8, x9⟩, x10, x11⟩; exact ⟨x1, x2, x3, x5, x6, x8, x4, x7, x9, x10, x11⟩
  · rintro ⟨x1, x2, x3, x5, x6, x8, x4, x7, x9, x10, x11⟩; exact ⟨⟨x1, x2, x3, x4⟩, ⟨x5, x6, x7⟩, ⟨x8, x9⟩, x10, x11⟩

theorem nd_cons {a : Addr} {o : Obj} {l : List (Addr × Obj)} (nd : ND l) (h : AllLt a l) : ND ((a, o) :: l) :=
  List.nodup_cons.mpr ⟨fun q => by obtain ⟨p, hp, e⟩ := List.mem_map.mp q; exact absurd (kst_ltOf h p hp) (e ▸ Nat.lt_irrefl _), nd⟩

theorem unS_len (G : List NodeR) (seen : Int → Bool) : unS G seen (fun _ => 1) ≤ G.length := by
  unfold unS
  induction G with
  | nil => exact Nat.le_refl _
  | cons q G ih =>
    have one : (if seen q.key = true then 0 else 1) ≤ 1 := by split <;> decide
    simp only [List.map_cons, List.sum_cons, List.length_cons] at ih ⊢
    omega

theorem GOK.keys' {w : World} {σ : Srt} {oD : Obj} {G : List NodeR} {rest : List (Addr × Obj)} {b : Nat} (h : GOK w σ oD G rest b) : ((kvG G).map (·.1)).Nodup := by
  obtain ⟨es, ep, _, _, _, _, hn⟩ := h.dg
  exact hn

theorem itV_snoc (Fs : List FrR) (f : FrR) : itV (Fs ++ [f]) = itV Fs ++ [.ref f.mw] := by simp [itV]
theorem stV_snoc (Fs : List FrR) (f : FrR) : stV (Fs ++ [f]) = stV Fs ++ [.int f.r.key f.t] := by simp [stV]
theorem kvF_snoc (Fs : List FrR) (f : FrR) : kvF (Fs ++ [f]) = kvF Fs ++ [(f.r.key, f.ix)] := by simp [kvF]
abbrev dfsX (a : DAd) (oNs oSeen o1 o2 : Obj) (Fs : List FrR) (T : List (Addr × Obj)) : List (Addr × Obj) :=
  (a.ns, oNs) :: (a.seen, oSeen) :: (a.itk, o2) :: (a.stk, o1) :: (Fs.flatMap fseg ++ T)
theorem dfs_out {a : DAd} {oNs oSeen : Obj} {n1 n2 : Nat} {Fs : List FrR} {f : FrR} {T : List (Addr × Obj)} {g h : Heap} {L : Addr} (N : News g L h (dfsL a oNs oSeen n1 n2 (Fs ++ [f]) T)) :
    News g L h ((f.it, iterO f.r.succ f.pos) :: (f.mw, wrapO f.it) :: dfsX a oNs oSeen (W.listOf (stV Fs ++ [Value.int f.r.key f.t]).toArray n1) (W.listOf (itV Fs ++ [Value.ref f.mw]).toArray n2) Fs T) := by
  rw [dfsL, itV_snoc, stV_snoc] at N
  refine News.sub N fun q hq => ?_
  simp only [dfsX, List.flatMap_append, List.flatMap_cons, List.flatMap_nil, List.append_nil, List.mem_cons, List.mem_append, List.not_mem_nil, or_false] at hq ⊢
  rcases hq with h | h | h | h | h | h | h | h <;> simp only [h, true_or, or_true]
theorem dfs_in {a : DAd} {oNs oSeen : Obj} {n1 n2 : Nat} {Fs : List FrR} {f : FrR} {T : List (Addr × Obj)} {g h : Heap} {L : Addr}
    (N : News g L h ((f.it, iterO f.r.succ f.pos) :: (f.mw, wrapO f.it) :: dfsX a oNs oSeen (W.listOf (stV Fs ++ [Value.int f.r.key f.t]).toArray n1) (W.listOf (itV Fs ++ [Value.ref f.mw]).toArray n2) Fs T)) : News g L h (dfsL a oNs oSeen n1 n2 (Fs ++ [f]) T) := by
  rw [dfsL, itV_snoc, stV_snoc]
  refine News.sub N fun q hq => ?_
  simp only [dfsX, List.flatMap_append, List.flatMap_cons, List.flatMap_nil, List.append_nil, List.mem_cons, List.mem_append, List.not_mem_nil, or_false] at hq ⊢
  rcases hq with h | h | h | h | (h | (h | h)) | h <;> simp only [h, true_or, or_true]
structure DOut (a : DAd) (f : FrR) (tl : List (Addr × Obj)) : Prop where
  e1 : @Ne Nat f.it f.mw
  e2 : @Ne Nat f.it a.ns
  e3 : @Ne Nat f.it a.seen
  e4 : @Ne Nat f.it a.itk
  e5 : @Ne Nat f.it a.stk
  e6 : f.it ∉ tl.map (·.1)
  f2 : @Ne Nat f.mw a.ns
  f3 : @Ne Nat f.mw a.seen
  f4 : @Ne Nat f.mw a.itk
  f5 : @Ne Nat f.mw a.stk
  f6 : f.mw ∉ tl.map (·.1)
  m1 : a.ns ∉ tl.map (·.1)
  m2 : a.seen ∉ tl.map (·.1)
  m3 : a.itk ∉ tl.map (·.1)
  m4 : a.stk ∉ tl.map (·.1)
theorem d_perm {Fs : List FrR} {f : FrR} {T : List (Addr × Obj)} : (((Fs ++ [f]).flatMap fseg ++ T).map (·.1)).Perm (f.it :: f.mw :: (Fs.flatMap fseg ++ T).map (·.1)) := by
  simp only [List.flatMap_append, List.flatMap_cons, List.flatMap_nil, List.append_nil, List.map_append, List.map_cons, List.map_nil, List.append_assoc]
  exact List.perm_append_comm_assoc _ [f.it, f.mw] _
theorem DI.out {w : World} {G : List NodeR} {a : DAd} {oNs oSeen : Obj} {Fs : List FrR} {f : FrR} {seen : Int → Bool} {T : List (Addr × Obj)} (d : DI w G a oNs oSeen (Fs ++ [f]) seen T) : DOut a f (Fs.flatMap fseg ++ T) := by
  have dn := dne_iff.mp d.nd
  have p := d_perm (Fs := Fs) (f := f) (T := T)
  have nt : (f.it :: f.mw :: (Fs.flatMap fseg ++ T).map (·.1)).Nodup := p.nodup_iff.mp dn.nt
  have out : ∀ x, x ∉ ((Fs ++ [f]).flatMap fseg ++ T).map (·.1) → x ≠ f.it ∧ x ≠ f.mw ∧ x ∉ (Fs.flatMap fseg ++ T).map (·.1) := by
    intro x hx
    have h2 : x ∉ f.it :: f.mw :: (Fs.flatMap fseg ++ T).map (·.1) := fun q => hx (p.mem_iff.mpr q)
    simp only [List.mem_cons, not_or] at h2
    exact h2
  simp only [List.nodup_cons, List.mem_cons, not_or] at nt
  have o1 := out _ dn.m1
  have o2 := out _ dn.m2
  have o3 := out _ dn.m3
  have o4 := out _ dn.m4
  exact ⟨nt.1.1, fun e => o1.1 e.symm, fun e => o2.1 e.symm, fun e => o3.1 e.symm, fun e => o4.1 e.symm, nt.1.2, fun e => o1.2.1 e.symm, fun e => o2.2.1 e.symm, fun e => o3.2.1 e.symm, fun e => o4.2.1 e.symm, nt.2.1, o1.2.2, o2.2.2, o3.2.2, o4.2.2⟩
theorem DI.popNd {w : World} {G : List NodeR} {a : DAd} {oNs oSeen oNs' : Obj} {Fs : List FrR} {f : FrR} {seen : Int → Bool} {T : List (Addr × Obj)} (d : DI w G a oNs oSeen (Fs ++ [f]) seen T) : ND (dfsL a oNs' oSeen 0 0 Fs T) := by
  have dn := dne_iff.mp d.nd
  have o := d.out
  have p := d_perm (Fs := Fs) (f := f) (T := T)
  have nt : (f.it :: f.mw :: (Fs.flatMap fseg ++ T).map (·.1)).Nodup := p.nodup_iff.mp dn.nt
  simp only [List.nodup_cons] at nt
  exact dne_iff.mpr ⟨dn.q1, dn.q2, dn.q3, dn.q4, dn.q5, dn.q6, o.m1, o.m2, o.m3, o.m4, nt.2.2⟩
/-- the station at the top is let go -/
theorem DI.pop {w : World} {G : List NodeR} {a : DAd} {oNs oSeen oNs' : Obj} {Fs : List FrR} {f : FrR} {seen : Int → Bool} {T : List (Addr × Obj)} (d : DI w G a oNs oSeen (Fs ++ [f]) seen T) (hd : oNs'.IsDictOf (intKind PySem.Challenge.rw_mr0333_01.row.prog w) (without (kvF (Fs ++ [f])) f.r.key)) : DI w G a oNs' oSeen Fs seen T := by
  have hn : f.r.key ∉ (kvF Fs).map (·.1) := by
    intro q
    obtain ⟨x, hx, e⟩ := List.mem_map.mp q
    obtain ⟨y, hy, rfl⟩ := List.mem_map.mp hx
    have hc := d.ch
    rw [List.map_append, List.pairwise_append] at hc
    have := hc.2.2 y.r.key (List.mem_map.mpr ⟨y, hy, rfl⟩) f.r.key (by simp)
    have e' : y.r.key = f.r.key := e
    omega
  have e : without (kvF (Fs ++ [f])) f.r.key = kvF Fs := by
    rw [kvF_snoc]
    unfold without
    rw [List.filter_append]
    have h1 := without_of_not_mem (kvF Fs) f.r.key hn
    unfold without at h1
    rw [h1]; simp
  rw [e] at hd
  have hc := d.ch
  rw [List.map_append, List.pairwise_append] at hc
  have hl := d.ln
  rw [List.length_append, List.length_singleton] at hl
  exact ⟨d.popNd, hd, d.sn, fun x hx => d.mem x (List.mem_append_left _ hx), hc.1, d.lo, by omega⟩
/-- one successor of the top's taken -/
theorem DI.step {w : World} {G : List NodeR} {a : DAd} {oNs oSeen : Obj} {Fs : List FrR} {f : FrR} {seen : Int → Bool} {T : List (Addr × Obj)} (d : DI w G a oNs oSeen (Fs ++ [f]) seen T) (hp : f.pos < f.r.ss.length) : DI w G a oNs oSeen (Fs ++ [{ f with pos := f.pos + 1 }]) seen T := by
  refine ⟨?_, ?_, d.sn, ?_, ?_, d.lo, ?_⟩
  · have : (dfsL a oNs oSeen 0 0 (Fs ++ [{ f with pos := f.pos + 1 }]) T).map (·.1) = (dfsL a oNs oSeen 0 0 (Fs ++ [f]) T).map (·.1) := by simp [dfsL, List.flatMap_append]
    unfold ND; rw [this]; exact d.nd
  · rw [kvF_snoc]; have := d.ds; rw [kvF_snoc] at this; exact this
  · intro x hx
    rcases List.mem_append.mp hx with h | h
    · exact d.mem x (List.mem_append_left _ h)
    · rw [List.mem_singleton.mp h]
      have := d.mem f (by simp)
      exact ⟨this.1, hp, this.2.2⟩
  · have := d.ch; simpa using this
  · have := d.ln; simpa using this
section
variable {M : Model} {A : Around} {E : Value → Shared → Prop} {s : Shared} {env : Env} {Q : Value → Shared → Prop} {h₀ : Heap} {L : Addr} {news : List (Addr × Obj)}
theorem callWith_W {q it : Addr} {first : List Value} {pos : Pos} (N : News h₀ L s.heap news) (hq : (q, wrapO it) ∈ news) (h : wpAny M A (call (.ref q) (first ++ [])) Q E s) : wpAny M A (callWith pos (.ref q) first (backTo pos (starEach [] env)) []) Q E s :=
  callWith_of (P := fun h => h.get? q = some (wrapO it)) rfl (fun h X => ⟨.machine, .inr (.inl rfl), (Looks.ld (part := none) X).andThen .now⟩) (evalArgs_nil3 ⟨(N _ hq).1, h⟩)
end
end Mine
-- G3
namespace Mine
open PySem PySem.W PySem.Calls PyProof.Rows
theorem DI.below {w : World} {G : List NodeR} {a : DAd} {oNs oSeen : Obj} {Fs : List FrR} {sn : Int → Bool} {T : List (Addr × Obj)} {x : Int} {P : Prop} (d : DI w G a oNs oSeen Fs sn T)
    (h : (Fs = [] ∧ P) ∨ ∃ Fs' f, Fs = Fs' ++ [f] ∧ f.r.key < x) : ∀ f ∈ Fs, f.r.key < x := by
  intro f hf
  rcases h with ⟨e, _⟩ | ⟨Fs', f', e, hx⟩
  · rw [e] at hf; cases hf
  · subst e
    rcases List.mem_append.mp hf with h | h
    · have hc := d.ch
      rw [List.map_append, List.pairwise_append] at hc
      have := hc.2.2 f.r.key (List.mem_map.mpr ⟨f, h, rfl⟩) f'.r.key (by simp)
      omega
    · rw [List.mem_singleton.mp h]; exact hx
theorem kvF_none {Fs : List FrR} {x : Int} (h : ∀ f ∈ Fs, f.r.key < x) : valueAt (kvF Fs) x = none :=
  valueAt_none_of_not_mem fun q => by
    obtain ⟨y, hy, e⟩ := List.mem_map.mp q
    obtain ⟨z, hz, rfl⟩ := List.mem_map.mp hy
    have := h z hz
    have e' : z.r.key = x := e
    omega
theorem DI.push {w : World} {G : List NodeR} {a : DAd} {oNs oSeen o' oS' : Obj} {Fs : List FrR} {sn : Int → Bool} {T : List (Addr × Obj)} {r : NodeR} {tx : Tok} {it mw : Addr} {ix : Value} {ns : Nat} (d : DI w G a oNs oSeen Fs sn T) (hr : r ∈ G) (hs : sn r.key = false) (hb : ∀ f ∈ Fs, f.r.key < r.key)
    (l1 : a.ns < it ∧ a.seen < it ∧ a.itk < it ∧ a.stk < it ∧ AllLt it (Fs.flatMap fseg ++ T)) (l2 : it < mw ∧ a.ns < mw ∧ a.seen < mw ∧ a.itk < mw ∧ a.stk < mw ∧ AllLt mw (Fs.flatMap fseg ++ T))
    (hnl : ns + unS G sn (fun _ => 1) ≤ G.length) (hS : oS'.SetObjOf (intKind PySem.Challenge.rw_mr0333_01.row.prog w) (fun k' => sn k' || decide (k' = r.key)) (if sn r.key = true then ns else ns + 1)) (hD : o'.IsDictOf (intKind PySem.Challenge.rw_mr0333_01.row.prog w) (stored (kvF Fs) r.key ix)) :
    DI w G a o' oS' (Fs ++ [⟨r, tx, it, mw, 0, ix⟩]) (fun k' => sn k' || decide (k' = r.key)) T := by
  have hu := unS_add (c := fun _ => 1) hr hs
  rw [hs, if_neg (by decide)] at hS
  have dn := dne_iff.mp d.nd
  have p := d_perm (Fs := Fs) (f := ⟨r, tx, it, mw, 0, ix⟩) (T := T)
  have mem : ∀ x : Addr, x ∉ (Fs.flatMap fseg ++ T).map (·.1) → x < it → x < mw → x ∉ ((Fs ++ [(⟨r, tx, it, mw, 0, ix⟩ : FrR)]).flatMap fseg ++ T).map (·.1) := by
    intro x h1 h2 h3 q
    rcases List.mem_cons.mp (p.mem_iff.mp q) with h | h
    · exact absurd h2 (h ▸ Nat.lt_irrefl _)
    · rcases List.mem_cons.mp h with h | h
      · exact absurd h3 (h ▸ Nat.lt_irrefl _)
      · exact h1 h
  have out : ∀ x : Addr, AllLt x (Fs.flatMap fseg ++ T) → x ∉ (Fs.flatMap fseg ++ T).map (·.1) := fun x hx q => by
    obtain ⟨p, hp, e⟩ := List.mem_map.mp q
    exact absurd (kst_ltOf hx p hp) (e ▸ Nat.lt_irrefl _)
  refine ⟨dne_iff.mpr ⟨dn.q1, dn.q2, dn.q3, dn.q4, dn.q5, dn.q6, mem _ dn.m1 l1.1 l2.2.1, mem _ dn.m2 l1.2.1 l2.2.2.1, mem _ dn.m3 l1.2.2.1 l2.2.2.2.1, mem _ dn.m4 l1.2.2.2.1 l2.2.2.2.2.1, ?_⟩, ?_, ⟨ns + 1, hS, by omega⟩, ?_, ?_, d.lo, ?_⟩
  · refine p.nodup_iff.mpr (List.nodup_cons.mpr ⟨?_, List.nodup_cons.mpr ⟨out _ l2.2.2.2.2.2, dn.nt⟩⟩)
    intro q
    rcases List.mem_cons.mp q with h | h
    · have h' : it = mw := h
      exact absurd l2.1 (h' ▸ Nat.lt_irrefl _)
    · exact out _ l1.2.2.2.2 h
  · rw [kvF_snoc]; rwa [stored_absent (kvF_none hb)] at hD
  · intro f hf
    rcases List.mem_append.mp hf with h | h
    · have := d.mem f h
      exact ⟨this.1, this.2.1, by simp [this.2.2]⟩
    · rw [List.mem_singleton.mp h]; exact ⟨hr, Nat.zero_le _, by simp⟩
  · rw [List.map_append, List.pairwise_append]
    refine ⟨d.ch, by simp, fun x hx y hy => ?_⟩
    obtain ⟨f, hf, rfl⟩ := List.mem_map.mp hx
    simp only [List.map_cons, List.map_nil, List.mem_singleton] at hy
    rw [hy]; exact hb f hf
  · have := d.ln
    rw [List.length_append, List.length_singleton]; omega
theorem dfs_push {a : DAd} {o' oS' : Obj} {n1 n2 : Nat} {Fs : List FrR} {T : List (Addr × Obj)} {g h : Heap} {L : Addr} {r : NodeR} {tx : Tok} {it mw : Addr} {ix : Value}
    (N : News g L h ((mw, wrapO it) :: (it, iterO r.succ 0) :: (a.ns, o') :: (a.seen, oS') :: (a.itk, W.listOf ((itV Fs).toArray.push (.ref mw)) n2) :: (a.stk, W.listOf ((stV Fs).toArray.push (.int r.key tx)) n1) :: (Fs.flatMap fseg ++ T))) :
    News g L h (dfsL a o' oS' n1 n2 (Fs ++ [⟨r, tx, it, mw, 0, ix⟩]) T) := by
  rw [List.push_toArray, List.push_toArray] at N
  refine dfs_in (News.sub N fun q hq => ?_)
  simp only [dfsX, List.mem_cons] at hq ⊢
  rcases hq with h | h | h | h | h | h | h <;> simp only [h, true_or, or_true]

theorem cutIn {M : Model} {A : Around} {α : Type} {x : Sem α} {Q : α → Shared → Prop} {E : Value → Shared → Prop} (s : Shared) (I : Heap → Prop) {goal : Prop}
    (h1 : ∀ h tk, I h → wpAny M A x Q E { s with heap := h, toks := tk }) (h2 : (∀ h tk, I h → wpAny M A x Q E { s with heap := h, toks := tk }) → goal) : goal := h2 h1
theorem ints_at {vs : List Value} {xs : List Int} (h : IntsAre vs xs) : ∀ {i : Nat} {x : Int}, xs[i]? = some x → ∃ t, vs[i]? = some (.int x t) := by
  induction h with
  | nil => intro i x e; simp at e
  | cons n t h ih =>
    intro i x e
    cases i with
    | zero => simp at e; subst e; exact ⟨_, rfl⟩
    | succ i => simp at e; obtain ⟨t, ht⟩ := ih e; exact ⟨t, by simpa using ht⟩
theorem ints_no {vs : List Value} {xs : List Int} (h : IntsAre vs xs) {i : Nat} (hi : xs.length ≤ i) : vs[i]? = none := by
  have : vs.length = xs.length := by
    clear hi
    induction h with
    | nil => rfl
    | cons n t h ih => simp [ih]
  exact List.getElem?_eq_none (by omega)
theorem list_snoc {α : Type} (l : List α) : l = [] ∨ ∃ i x, l = i ++ [x] := by
  rcases List.eq_nil_or_concat l with h | ⟨i, x, h⟩
  · exact .inl h
  · exact .inr ⟨i, x, by simpa using h⟩
end Mine
-- G4
namespace Mine
open PySem PySem.W PyProof.Rows
section
variable {w : World} {σ : Srt} {rv : Value} {po nf : Int} {tp tf : Tok} {oD : Obj} {G Ga Gb : List NodeR} {r : NodeR} {rest : List (Addr × Obj)} {b : Nat} {h₀ h : Heap} {L a : Addr} {o o' : Obj}
theorem gl_push2 {x y : Addr × Obj} : (x :: gl w σ rv po tp nf tf oD G (y :: rest)).Perm (gl w σ rv po tp nf tf oD G (y :: x :: rest)) :=
  (gl_push_perm.symm.cons _).trans ((List.Perm.swap _ _ _).trans ((gl_push_perm.cons _).trans gl_push_perm))
theorem GOK.swap {x y : Addr × Obj} (g : GOK w σ oD G (x :: y :: rest) b) : GOK w σ oD G (y :: x :: rest) b := by
  refine ⟨?_, g.dg, g.gw, g.lo, g.ln, g.ls⟩
  have nd := gl_nd (w := w) (rv := .none) (po := 0) (nf := 0) (tp := 0) (tf := 0) (oD := oD).mpr g.gn
  refine gl_nd (w := w) (rv := .none) (po := 0) (nf := 0) (tp := 0) (tf := 0) (oD := oD).mp (nd.perm ?_)
  exact gl_push_perm.symm.trans gl_push2
/-- what a node shares with its later form -/
structure SameN (q q' : NodeR) : Prop where
  key : q'.key = q.key
  info : q'.info = q.info
  idict : q'.idict = q.idict
  succ : q'.succ = q.succ
  svs : q'.svs = q.svs
  ss : q'.ss = q.ss
  sn : q'.sn = q.sn
theorem SameN.refl (q : NodeR) : SameN q q := ⟨rfl, rfl, rfl, rfl, rfl, rfl, rfl⟩
theorem SameN.trans {q q' q'' : NodeR} (x : SameN q q') (y : SameN q' q'') : SameN q q'' := ⟨y.key.trans x.key, y.info.trans x.info, y.idict.trans x.idict, y.succ.trans x.succ, y.svs.trans x.svs, y.ss.trans x.ss, y.sn.trans x.sn⟩
/-- the node list with nothing but counts changed -/
def SameG (G G' : List NodeR) : Prop := (∀ q ∈ G, ∃ q' ∈ G', SameN q q') ∧ ∀ q' ∈ G', ∃ q ∈ G, SameN q q'
theorem SameG.refl (G : List NodeR) : SameG G G := ⟨fun q h => ⟨q, h, .refl q⟩, fun q h => ⟨q, h, .refl q⟩⟩
theorem SameG.trans {G G' G'' : List NodeR} (x : SameG G G') (y : SameG G' G'') : SameG G G'' :=
  ⟨fun q h => by obtain ⟨q', h', s⟩ := x.1 q h; obtain ⟨q'', h'', s'⟩ := y.1 q' h'; exact ⟨q'', h'', s.trans s'⟩,
   fun q h => by obtain ⟨q', h', s⟩ := y.2 q h; obtain ⟨q'', h'', s'⟩ := x.2 q' h'; exact ⟨q'', h'', s'.trans s⟩⟩
theorem SameG.has {G G' : List NodeR} (x : SameG G G') {u : Int} (h : ∃ q ∈ G, q.key = u) : ∃ q ∈ G', q.key = u := by
  obtain ⟨q, hq, rfl⟩ := h
  obtain ⟨q', h', s⟩ := x.1 q hq
  exact ⟨q', h', s.key⟩
theorem SameG.list {G G' : List NodeR} (x : SameG G G') {q : NodeR} (hq : q ∈ G) (l : List (Addr × Obj)) : (q.succ, W.listOf q.svs.toArray q.sn) ∈ G'.flatMap nseg ++ l := by
  obtain ⟨q', h', s⟩ := x.1 q hq
  refine List.mem_append_left _ (List.mem_flatMap.mpr ⟨q', h', ?_⟩)
  rw [← s.succ, ← s.svs, ← s.sn]
  exact .tail _ (.tail _ (.head _))
theorem SameG.set {np' : Int} {nt' : Tok} : SameG (Ga ++ r :: Gb) (Ga ++ ⟨r.key, r.kt, r.info, r.idict, r.succ, np', nt', r.svs, r.ss, r.sn⟩ :: Gb) := by
  constructor
  · intro q hq
    rcases List.mem_append.mp hq with h | h
    · exact ⟨q, List.mem_append_left _ h, .refl q⟩
    · rcases List.mem_cons.mp h with rfl | h
      · exact ⟨_, List.mem_append_right _ (.head _), ⟨rfl, rfl, rfl, rfl, rfl, rfl, rfl⟩⟩
      · exact ⟨q, List.mem_append_right _ (.tail _ h), .refl q⟩
  · intro q hq
    rcases List.mem_append.mp hq with h | h
    · exact ⟨q, List.mem_append_left _ h, .refl q⟩
    · rcases List.mem_cons.mp h with rfl | h
      · exact ⟨_, List.mem_append_right _ (.head _), ⟨rfl, rfl, rfl, rfl, rfl, rfl, rfl⟩⟩
      · exact ⟨q, List.mem_append_right _ (.tail _ h), .refl q⟩

/-- a node and the ready list out of the ledger -/
abbrev wl (w : World) (σ : Srt) (rv : Value) (po : Int) (tp : Tok) (nf : Int) (tf : Tok) (oD : Obj) (r : NodeR) (np : Int) (nt : Tok) (a : Addr) (o : Obj) (G : List NodeR) (rest : List (Addr × Obj)) : List (Addr × Obj) :=
  (r.info, infoO r.idict r.succ np nt r.key r.kt) :: (r.idict, dictOf [] 0) :: (r.succ, W.listOf r.svs.toArray r.sn) :: (a, o) :: gl w σ rv po tp nf tf oD G rest
theorem wl_perm : (gl w σ rv po tp nf tf oD (Ga ++ r :: Gb) ((a, o) :: rest)).Perm (wl w σ rv po tp nf tf oD r r.np r.nt a o (Ga ++ Gb) rest) :=
  gl_perm.trans (((gl_push_perm.symm.cons _).cons _).cons _)
structure WlNd (r : NodeR) (a : Addr) (tl : List (Addr × Obj)) : Prop where
  k1 : @Ne Nat r.info r.idict
  k2 : @Ne Nat r.info r.succ
  k3 : @Ne Nat r.idict r.succ
  k4 : @Ne Nat r.info a
  k5 : @Ne Nat r.idict a
  k6 : @Ne Nat r.succ a
  n1 : r.info ∉ tl.map (·.1)
  n2 : r.idict ∉ tl.map (·.1)
  n3 : r.succ ∉ tl.map (·.1)
  n4 : a ∉ tl.map (·.1)
theorem GOK.wl (g : GOK w σ oD (Ga ++ r :: Gb) ((a, o) :: rest) b) (rv : Value) (po : Int) (tp : Tok) (nf : Int) (tf : Tok) : WlNd r a (gl w σ rv po tp nf tf oD (Ga ++ Gb) rest) := by
  have nd := (gl_nd (w := w) (rv := rv) (po := po) (nf := nf) (tp := tp) (tf := tf) (oD := oD).mpr g.gn).perm wl_perm
  have nd2 : (r.info :: r.idict :: r.succ :: a :: (gl w σ rv po tp nf tf oD (Ga ++ Gb) rest).map (·.1)).Nodup := nd
  simp only [List.nodup_cons, List.mem_cons, not_or] at nd2
  obtain ⟨⟨h1, h2, h3, h4⟩, ⟨h5, h6, h7⟩, ⟨h8, h9⟩, h10, _⟩ := nd2
  exact ⟨h1, h2, h5, h3, h6, h8, h4, h7, h9, h10⟩
theorem wl_in {np' : Int} {nt' : Tok} (g : GOK w σ oD (Ga ++ r :: Gb) ((a, o) :: rest) b) (N : News h₀ L h (Mine.wl w σ rv po tp nf tf oD r np' nt' a o' (Ga ++ Gb) rest)) :
    ∃ G', News h₀ L h (gl w σ rv po tp nf tf oD G' ((a, o') :: rest)) ∧ GOK w σ oD G' ((a, o') :: rest) b ∧ SameG (Ga ++ r :: Gb) G' ∧
      (∀ f : ANode → ANode, (∀ a, a.key ≠ r.key → f a = a) → f r.abs = ⟨r.key, np', r.ss⟩ → G'.map NodeR.abs = ((Ga ++ r :: Gb).map NodeR.abs).map f) := by
  refine ⟨Ga ++ ⟨r.key, r.kt, r.info, r.idict, r.succ, np', nt', r.svs, r.ss, r.sn⟩ :: Gb, ?_, ?_, .set, fun f hf hr => abs_set (r' := ⟨r.key, r.kt, r.info, r.idict, r.succ, np', nt', r.svs, r.ss, r.sn⟩) f g.keys hf hr.symm⟩
  · exact News.perm N (wl_perm (r := ⟨r.key, r.kt, r.info, r.idict, r.succ, np', nt', r.svs, r.ss, r.sn⟩)).symm
  · exact GOK.sub (g.set (r' := ⟨r.key, r.kt, r.info, r.idict, r.succ, np', nt', r.svs, r.ss, r.sn⟩) rfl rfl rfl rfl (g.gw r (by simp)) (Nat.le_refl _) (g.ls r (by simp))) (List.Sublist.refl _)
end
end Mine
-- B9
namespace Mine
open PySem PySem.W PySem.Calls PyProof.Rows
section
variable {prog : Program} {w : World} {A : Around} {E : Value → Shared → Prop} {s : Shared} {h₀ : Heap} {L : Addr} {m : Str → Option Value} {env : Env} {ct elt iter : Expr} {x : Str} {px pos : Pos} {scope : Scope} {cl : List (Str × Addr)} {Q : Value → Shared → Prop} {news : List (Addr × Obj)}
/-- a list comprehension with one test, once its iterable stands -/
def LcL (prog : Program) (w : World) (A : Around) (env : Env) (ct elt iter : Expr) (x : Str) (px : Pos) (scope : Scope) (cl : List (Str × Addr)) (pos : Pos) (Q : Value → Shared → Prop) (E : Value → Shared → Prop) (xv : Value) (s₁ : Shared) : Prop :=
  wpAny (model prog w) A (pyIter xv) (fun it s₂ => wpAny (model prog w) A (newList []) (fun acc s₃ => wpAny (model prog w) A (newFunctionEnv scope env.globals cl [] env.qual none .none (some env)) (fun cenv s₄ =>
    codeAny (model prog w) A (.compStart (.ListComp elt [⟨.Name x px, iter, [ct], 0⟩] scope pos) 0 it acc { cenv with scope := relabel scope env }) (compPost (model prog w) A E none Q acc cenv.locals) s₄) E s₃) E s₂) E s₁
theorem Lc_start (hclos : closureFor scope env = pure cl) (hkind : scope.kind = .function) (hnames : ∀ y ∈ scope.names, y.2 = .local → scope.names.lookup y.1 = some .local)
    (h : wpAny (model prog w) A (eval iter env) (LcL prog w A env ct elt iter x px scope cl pos Q E) E s) (hs : ∀ x, foldedSetIterable iter env x = pure x := by intro _; rfl) :
    wpAny (model prog w) A (eval (.ListComp elt [⟨.Name x px, iter, [ct], 0⟩] scope pos) env) Q E s := by
  rw [eval_ListComp]
  exact wpAny_comprehension_free (use := none) rfl hs hclos hkind hnames h

/-- the end of a turn that leaves the ledger as it was -/
def LcEnd (h₀ : Heap) (L : Addr) (m : Str → Option Value) (s : Shared) (all : List (Addr × Obj)) (P : Prop) (s' : Shared) : Prop :=
  ∃ h' tk', s' = { s with heap := h', toks := tk' } ∧ Fr h₀ L h' m ∧ News h₀ L h' all ∧ P
def LcTurn (prog : Program) (w : World) (A : Around) (h₀ : Heap) (L : Addr) (m : Str → Option Value) (env : Env) (ct elt : Expr) (x : Str) (scope : Scope) (cl : List (Str × Addr)) (s : Shared) (P : Nat → Value → Prop) (J : Nat → List Value → Prop) (news : List (Addr × Obj)) : Prop :=
  ∀ i v I oI C oC D ys m₂ h tk (E' : Value → Shared → Prop), P i v → J i ys → LCg.NsObj oC m₂ → m₂ x = some v → Fr h₀ L h m → News h₀ L h ((I, oI) :: (C, oC) :: (D, LCg.lst ys) :: news) →
    wpAny (model prog w) A (isTrue ct (compEnvC scope cl C env) (eval ct (compEnvC scope cl C env))) (fun ok s' => if ok = true then
      wpAny (model prog w) A (eval elt (compEnvC scope cl C env)) (fun y s'' => LcEnd h₀ L m { s with heap := h, toks := tk } ((I, oI) :: (C, oC) :: (D, LCg.lst ys) :: news) (J (i + 1) (ys ++ [y])) s'') E' s'
      else LcEnd h₀ L m { s with heap := h, toks := tk } ((I, oI) :: (C, oC) :: (D, LCg.lst ys) :: news) (J (i + 1) ys) s') E' { s with heap := h, toks := tk }
theorem lc_rest {S : List (Addr × Obj) → Prop} {P : Nat → Value → Prop} {Fin : List Value → List (Addr × Obj) → Prop} {J : Nat → List Value → Prop} {n : Nat} (hS : S news) (turn : LcTurn prog w A h₀ L m env ct elt x scope cl s P J news) (fin : ∀ ys, J n ys → Fin ys news) :
    ∀ k i ys, i + k = n → J i ys → LCt.CompRestT prog w A h₀ L m env ct elt x scope cl s S P Fin k i ys news
  | 0, i, ys, e, j => by
    have : i = n := by omega
    exact fin ys (this ▸ j)
  | k + 1, i, ys, e, j => by
    refine LCt.CompRestT.succ fun v I oI C oC D m₂ h tk E' hP hC hx F N off _ => ?_
    refine wpAny_mono (turn i v I oI C oC D ys m₂ h tk E' hP j hC hx F N) (fun ok s' h₁ => ?_) fun _ _ z => z
    cases ok with
    | true =>
      simp only [if_true] at h₁ ⊢
      refine wpAny_mono h₁ (fun y s'' h₂ => ?_) fun _ _ z => z
      obtain ⟨h', tk', rfl, F', N', j'⟩ := h₂
      exact ⟨h', tk', news, rfl, F', N', off, hS, lc_rest hS turn fin k (i + 1) _ (by omega) j'⟩
    | false =>
      simp only [Bool.false_eq_true, if_false] at h₁ ⊢
      obtain ⟨h', tk', rfl, F', N', j'⟩ := h₁
      exact ⟨h', tk', news, rfl, F', N', off, hS, lc_rest hS turn fin k (i + 1) _ (by omega) j'⟩

def LcFin (h₀ : Heap) (L : Addr) (m : Str → Option Value) (s : Shared) (Q : Value → Shared → Prop) (news : List (Addr × Obj)) (ys : List Value) : Prop :=
  ∀ D h tk, Fr h₀ L h m → News h₀ L h ((D, W.listOf ys.toArray ys.length) :: news) → D ∉ news.map (·.1) → Q (.ref D) { s with heap := h, toks := tk }
theorem off_not {D : Addr} : ∀ {l : List (Addr × Obj)}, LCg.Off1 D l → D ∉ l.map (·.1)
  | [], _, q => by cases q
  | p :: l, h, q => by
    rcases List.mem_cons.mp q with e | e
    · exact h.1 e.symm
    · exact off_not h.2 e

theorem LcL.vals {v d : Addr} {o : Obj} {kvs : List (Int × Value)} (J : Nat → List Value → Prop) (hh : A.handled = none) (F : Fr h₀ L s.heap m) (N : News h₀ L s.heap news) (hv : (v, ({ cls := .type "dict_values", data := .fields #[.ref d] } : Obj)) ∈ news) (hd : (d, o) ∈ news) (hk : o.IsDictOf (intKind prog w) kvs) (hz : kvs.length ≤ sizeLine)
    (hcell : ∀ y ∈ scope.names, y.2 ≠ .cell) (hkind : scope.kind = .function) (hx : scope.names.lookup x = some .local) (h0 : J 0 [])
    (turn : ∀ g, LcTurn prog w A h₀ L m env ct elt x scope cl { s with heap := g } (fun i v => ∃ k, kvs[i]? = some (k, v)) J news) (fin : ∀ g ys, J kvs.length ys → LcFin h₀ L m { s with heap := g } Q news ys) :
    LcL prog w A env ct elt iter x px scope cl pos Q E (.ref v) s := by
  obtain ⟨ep, hat⟩ := (Heap.dictOf_iff.mpr ⟨o, (N _ hd).1, hk⟩ : s.heap.DictOf _ d kvs).dictAt
  have hlt : d < s.heap.objs.size := Heap.lt_size (N _ hd).1
  unfold LcL
  refine wpAny_pyIter_values ⟨_, (N _ hv).1, rfl, rfl⟩ hat ?_
  refine LCt.block_T (S := fun nw => (d, o) ∈ nw) (Fin := fun ys nw => LCg.FinE h₀ L m { s with heap := s.heap.push { cls := .type "dict_valueiterator", data := .fields #[.ref d, .int 0 0, .int kvs.length 0, .int ep 0] } } Q ys nw) (Walks.dictValues hh s.heap.objs.size d (Nat.ne_of_lt hlt) kvs ep) hz (fun i h st => by obtain ⟨o, e, _⟩ := st.1; exact ⟨o, e⟩) ?_ hcell hkind hx
    ⟨⟨_, Heap.get?_push_size _ rfl, rfl, rfl⟩, hat.push _⟩ (fun b hb => ?_) (F.push _) (fun p hp => ⟨Heap.get?_push_of_some _ (N p hp).1, (N p hp).2⟩) (Nat.ne_of_lt F.ns.lt) (next_is_new F) (fun p hp => Nat.ne_of_lt (Heap.lt_size (N p hp).1)) hd
    (lc_rest (n := kvs.length) hd (turn _) (fun ys j D h tk Fh Nh off => fin _ ys j D h tk Fh Nh (off_not off)) kvs.length 0 [] (Nat.zero_add _) h0) ?_
  · intro i h h' oi nw st e1 e2 _ N' hm
    refine ⟨st.1.at fun o e => ?_, hat.at' fun o' e => ?_⟩
    · rw [e1] at e; cases e; exact e2
    · rw [(N _ hd).1] at e; cases e; exact (N' _ hm).1
  · show b < (s.heap.push _).objs.size
    rw [Heap.size_push]
    rcases List.mem_cons.mp hb with rfl | hb
    · exact Nat.lt_succ_self _
    · rw [List.mem_singleton.mp hb]; exact Nat.lt_succ_of_lt hlt
  · intro D C h tk m' ys news' F' N' o1 hn hC₀ hD₀ hCL hDL hCD offC fin'
    refine ⟨m', hn, fun h'' hs'' => fin' D h'' tk (F'.change hs'' hCL hC₀) (fun p hp => ?_) o1⟩
    refine ⟨hs''.extBut _ _ ?_ (N' p hp).1, (N' p hp).2⟩
    rcases List.mem_cons.mp hp with rfl | hp
    · exact Ne.symm hCD
    · exact offC p hp

theorem LcL.list {ax : Addr} {us : List Value} {c : Nat} (J : Nat → List Value → Prop) (hh : A.handled = none) (F : Fr h₀ L s.heap m) (N : News h₀ L s.heap news) (hd : (ax, W.listOf us.toArray c) ∈ news) (hz : us.length ≤ sizeLine)
    (hcell : ∀ y ∈ scope.names, y.2 ≠ .cell) (hkind : scope.kind = .function) (hx : scope.names.lookup x = some .local) (h0 : J 0 [])
    (turn : ∀ g, LcTurn prog w A h₀ L m env ct elt x scope cl { s with heap := g } (fun i v => us[i]? = some v) J news) (fin : ∀ g ys, J us.length ys → LcFin h₀ L m { s with heap := g } Q news ys) :
    LcL prog w A env ct elt iter x px scope cl pos Q E (.ref ax) s := by
  have hl := News.isList N hd
  have hlt : ax < s.heap.objs.size := Heap.lt_size (N _ hd).1
  have hsz : us.toArray.size = us.length := List.size_toArray ..
  unfold LcL
  refine wpAny_pyIter_list hl ?_
  refine LCt.block_T (S := fun nw => (ax, W.listOf us.toArray c) ∈ nw) (Fin := fun ys nw => LCg.FinE h₀ L m { s with heap := s.heap.push { cls := .type "list_iterator", data := .fields #[.ref ax, .int 0 0] } } Q ys nw) (Walks.list hh s.heap.objs.size ax (Nat.ne_of_lt hlt) us.toArray) (by rw [hsz]; exact hz) (fun i h st => by obtain ⟨o, e, _⟩ := st.1; exact ⟨o, e⟩) ?_ hcell hkind hx
    ⟨⟨_, Heap.get?_push_size _ rfl, rfl, rfl⟩, hl.push _⟩ (fun b hb => ?_) (F.push _) (fun p hp => ⟨Heap.get?_push_of_some _ (N p hp).1, (N p hp).2⟩) (Nat.ne_of_lt F.ns.lt) (next_is_new F) (fun p hp => Nat.ne_of_lt (Heap.lt_size (N p hp).1)) hd
    (lc_rest (n := us.toArray.size) (P := fun i v => us.toArray[i]? = some v) hd (fun i v I oI C oC D ys m₂ h tk E' hP => turn _ i v I oI C oC D ys m₂ h tk E' (by simpa using hP)) (fun ys j D h tk Fh Nh off => fin _ ys (hsz ▸ j) D h tk Fh Nh (off_not off)) us.toArray.size 0 [] (Nat.zero_add _) h0) ?_
  · intro i h h' oi nw st e1 e2 _ N' hm
    refine ⟨?_, _, (N' _ hm).1, rfl, _, rfl⟩
    obtain ⟨o, e, r⟩ := st.1
    rw [e1] at e; cases e
    exact ⟨_, e2, r⟩
  · show b < (s.heap.push _).objs.size
    rw [Heap.size_push]
    rcases List.mem_cons.mp hb with rfl | hb
    · exact Nat.lt_succ_self _
    · rw [List.mem_singleton.mp hb]; exact Nat.lt_succ_of_lt hlt
  · intro D C h tk m' ys news' F' N' o1 hn hC₀ hD₀ hCL hDL hCD offC fin'
    refine ⟨m', hn, fun h'' hs'' => fin' D h'' tk (F'.change hs'' hCL hC₀) (fun p hp => ?_) o1⟩
    refine ⟨hs''.extBut _ _ ?_ (N' p hp).1, (N' p hp).2⟩
    rcases List.mem_cons.mp hp with rfl | hp
    · exact Ne.symm hCD
    · exact offC p hp
end
end Mine
-- B10
namespace Mine
open PySem PySem.W PySem.Calls PyProof.Rows
theorem meets_bool_list (l : Addr) : Meets (Builtin.«bool.__new__» ⟨[.type "bool", .ref l], []⟩) (fun _ R s => ∃ items, s.heap.IsList l items ∧ (items.size : Int) < 2 ^ 63 ∧ R (.ok (.ret (.bool (!items.isEmpty)))) { s with toks := s.toks + 1 + 1 }) :=
  Meets.of_wp fun prog w A R s hs => by
    obtain ⟨items, hl, hz, hs⟩ := hs
    obtain ⟨hp, g, d, tk, os⟩ := s
    have f1 := F.conv_sub_bool
    repeat (any_goals (first | assumption | (with_reducible refine wpAny_truthy_list hl hz ?_) | wp_step))
    all_goals first | exact ⟨_, rfl, hs⟩ | exact hs | skip
section
variable {prog : Program} {w : World} {A : Around} {E : Value → Shared → Prop} {s : Shared} {h₀ : Heap} {L D : Addr} {m : Str → Option Value} {news news' : List (Addr × Obj)}
theorem my_bool {us : List Value} {c : Nat} {Q : Value → Shared → Prop} (N : News h₀ L s.heap news) (hm : (D, W.listOf us.toArray c) ∈ news) (hz : us.length < 2 ^ 63) (b : Bool) (hb : (!us.isEmpty) = b)
    (h : ∀ tk, Q (.bool b) { s with toks := tk }) : wpAny (model prog w) A (call (.type "bool") [.ref D]) Q E s :=
  call_bool_1 (meets_bool_list D) ⟨us.toArray, News.isList N hm, by rw [List.size_toArray]; omega, by
    have e : us.toArray.isEmpty = us.isEmpty := by cases us <;> rfl
    show wants _ _ _ _
    rw [e, hb]; exact ⟨rfl, h _⟩⟩
theorem my_clear {us : List Value} {n : Nat} {Q : Value → Shared → Prop} (F : Fr h₀ L s.heap m) (N : News h₀ L s.heap news) (U : Upd D (W.listOf us.toArray n) (W.listOf ([] : List Value).toArray (if us.isEmpty then n else n + 1)) news news') (hz : us.length ≤ 10000)
    (h : ∀ h', Fr h₀ L h' m → News h₀ L h' news' → Q .none { s with heap := h' }) : wpAny (model prog w) A (call (.builtin "list.clear") [.ref D]) Q E s := by
  cases us with
  | cons x us => exact kl_clear F N U (by simp) (by rw [sizeLine_eq]; simp at hz ⊢; omega) h
  | nil =>
    obtain ⟨pre, post, rfl, rfl, a, c⟩ := U.split
    have z := N (D, W.listOf ([] : List Value).toArray n) (List.mem_append.mpr (.inr (.head _)))
    refine call_meets PySem.F.slot_list_clear ⟨_, z.1, rfl⟩ PySem.F.entry_list_clear (PySem.F.args_list_clear_1 _) (PySem.AutoSeq1.list_clear_list_0 D _ n (by simp)) ⟨z.1, h _ (F.change (Heap.SameBut.update ..) z.2.1 z.2.2) ?_⟩
    exact kl_turn0 (fun _ => #[]) N a c rfl rfl
theorem my_tupleOf {us : List Value} {c : Nat} {Q : Value → Shared → Prop} (F : Fr h₀ L s.heap m) (N : News h₀ L s.heap news) (hm : (D, W.listOf us.toArray c) ∈ news) (hz : us.length ≤ 10000)
    (h : ∀ D' h', Fr h₀ L h' m → News h₀ L h' ((D', tupO us) :: news) → (∀ p ∈ news, p.1 < D') → Q (.ref D') { s with heap := h' }) : wpAny (model prog w) A (call (.type "tuple") [.ref D]) Q E s :=
  kde_tupleOf F N (News.isList N hm) (by rw [List.size_toArray]; omega) rfl h
end
end Mine
-- B11
namespace Mine
open PySem PySem.W PySem.Calls PyProof.Rows
section
variable {prog : Program} {w : World} {A : Around} {E : Value → Shared → Prop} {s : Shared} {h₀ : Heap} {L D D2 : Addr} {m : Str → Option Value} {news news' : List (Addr × Obj)} {us vs : List Value} {xs ys : List Int} {c c2 : Nat}
theorem my_notin {v : Int} {t : Tok} {Q : Value → Shared → Prop} (N : News h₀ L s.heap news) (hm : (D, W.listOf us.toArray c) ∈ news) (hi : IntsAre us xs) (h : Q (.bool (!decide (v ∈ xs))) s) : wpAny (model prog w) A (compareOp .NotIn (.int v t) (.ref D)) Q E s :=
  notin_list_ints (News.isList N hm) hi (by
    have e : (xs.any fun x => x == v) = decide (v ∈ xs) := by
      rw [Bool.eq_iff_iff]; simp
    rw [e]; exact h)
theorem my_sorted {Q : Value → Shared → Prop} (F : Fr h₀ L s.heap m) (N : News h₀ L s.heap news) (hm : (D, W.listOf us.toArray c) ∈ news) (hi : IntsAre us xs) (hz : xs.length < 64)
    (h : ∀ D' vs' ns' c' h', Fr h₀ L h' m → News h₀ L h' ((D', W.listOf vs'.toArray c') :: news) → (∀ q ∈ news, q.1 < D') → IntsAre vs' ns' → ns'.Perm xs → ns'.Pairwise (· ≤ ·) → Q (.ref D') { s with heap := h' }) :
    wpAny (model prog w) A (call (.builtin "sorted") [.ref D]) Q E s :=
  kso_sorted F N (News.isList N hm) hi hz fun D' vs' ns' c' h' a b l i _ p o _ => h D' vs' ns' c' h' a b l i p o
theorem my_addL {Q : Value → Shared → Prop} (F : Fr h₀ L s.heap m) (N : News h₀ L s.heap news) (hm : (D, W.listOf us.toArray c) ∈ news) (hm2 : (D2, W.listOf vs.toArray c2) ∈ news) (hz : us.length + vs.length ≤ 10000)
    (h : ∀ D' h', Fr h₀ L h' m → News h₀ L h' ((D', W.listOf (us ++ vs).toArray 0) :: news) → (∀ p ∈ news, p.1 < D') → Q (.ref D') { s with heap := h' }) : wpAny (model prog w) A (binaryOp .Add (.ref D) (.ref D2)) Q E s :=
  kmk_add_lit F N (News.isList N hm) (News.isList N hm2) rfl h (by rw [sizeLine_eq]; simp; omega)
theorem my_copy {Q : Value → Shared → Prop} (F : Fr h₀ L s.heap m) (N : News h₀ L s.heap news) (hm : (D, W.listOf us.toArray c) ∈ news) (hz : us.length ≤ 10000)
    (h : ∀ D' c' h', Fr h₀ L h' m → News h₀ L h' ((D', W.listOf us.toArray c') :: news) → (∀ p ∈ news, p.1 < D') → Q (.ref D') { s with heap := h' }) : wpAny (model prog w) A (call (.type "list") [.ref D]) Q E s :=
  kup_listOf F N hm rfl h (by rw [sizeLine_eq]; simp; omega)
theorem kl_cut_at {p q : List Value} {y : Value} : kl_cut (p ++ y :: q) p.length = some (p, y, q) := by
  induction p with
  | nil => rfl
  | cons x p ih => simp only [List.cons_append, List.length_cons, kl_cut, ih]
theorem my_popAt {p q : List Value} {y : Value} {n : Nat} {i : Int} {u : Tok} {Q : Value → Shared → Prop} (F : Fr h₀ L s.heap m) (N : News h₀ L s.heap news) (U : Upd D (W.listOf (p ++ y :: q).toArray n) (W.listOf (p ++ q).toArray (n + 1)) news news') (hi : i = p.length) (hz : (p ++ y :: q).length ≤ 10000)
    (h : ∀ h', Fr h₀ L h' m → News h₀ L h' news' → Q y { s with heap := h' }) : wpAny (model prog w) A (call (.builtin "list.pop") [.ref D, .int i u]) Q E s := by
  have hl : (p ++ y :: q).length = p.length + (q.length + 1) := by simp
  refine kl_popAt (k := p.length) F N ?_ ?_ kl_cut_at U (by rw [sizeLine_eq]; show (p ++ y :: q).length ≤ _; omega) h
  · subst hi
    unfold Builtin.List.listFitsIndex
    simp
    omega
  · subst hi
    unfold seqIndex?
    simp
    split <;> omega
theorem my_ne {Q : Value → Shared → Prop} (N : News h₀ L s.heap news) (hm : (D, W.listOf us.toArray c) ∈ news) (hm2 : (D2, W.listOf vs.toArray c2) ∈ news) (hi : IntsAre us xs) (hj : IntsAre vs ys) (hu : A.units + 64 < cLine) (h : Q (.bool (!decide (xs = ys))) s) :
    wpAny (model prog w) A (compareOp .NotEq (.ref D) (.ref D2)) Q E s := ke_ne_ints (News.isList N hm) (News.isList N hm2) hi hj hu h
end
end Mine
-- B12
namespace Mine
open PySem PySem.W PySem.Calls PyProof.Rows PyProof.V PySem.Spec
section
variable {prog : Program} {w : World} {A : Around} {E : Value → Shared → Prop} {s : Shared} {h₀ : Heap} {L D d v : Addr} {m : Str → Option Value} {news : List (Addr × Obj)} {us : List Value} {xs : List Int} {Q : Value → Shared → Prop}
theorem sort_new (F : Fr h₀ L s.heap m) (N : News h₀ L s.heap ((D, W.listOf us.toArray 0) :: news)) (l1 : ∀ q ∈ news, q.1 < D) (hi : IntsAre us xs) (hz : xs.length < 64)
    (h : ∀ vs' ns' c' h', Fr h₀ L h' m → News h₀ L h' ((D, W.listOf vs'.toArray c') :: news) → IntsAre vs' ns' → ns'.Perm xs → ns'.Pairwise (· ≤ ·) → Q (.ref D) { s with heap := h' }) :
    wpAny (model prog w) A (call (.builtin "list.sort") [.ref D]) (fun _ s' => Q (.ref D) s') E s :=
  ksk_lsort (news' := fun o => (D, o) :: news) F N (fun o => .head (fun p hp => Nat.ne_of_lt (l1 p hp))) (List.toList_toArray ..) hi hz fun vs' ns' c h' F' N' hi' _ hp ho _ => h vs' ns' c h' F' N' hi' hp ho
theorem ints_of_keys {kvs : List (Int × Value)} : ∀ {us : List Value}, us.length = kvs.length → (∀ (j : Nat) (v : Value), us[j]? = some v → ∃ k x, kvs[j]? = some (k, x) ∧ (intKind prog w).is k v = true) → IntsAre us (kvs.map (·.1)) := by
  induction kvs with
  | nil =>
    intro us hl _
    rw [List.eq_nil_of_length_eq_zero hl]; exact .nil
  | cons p kvs ih =>
    intro us hl hv
    rcases us with _ | ⟨u, us⟩
    · cases hl
    · obtain ⟨k, x, e, hk⟩ := hv 0 u rfl
      cases e
      obtain ⟨t, rfl⟩ := Value.isInt_shape hk
      exact .cons _ _ (ih (by simpa using hl) fun j v e => hv (j + 1) v e)
theorem my_sortedD {o : Obj} {kvs : List (Int × Value)} (hh : A.handled = none) (F : Fr h₀ L s.heap m) (N : News h₀ L s.heap news) (hm : (d, o) ∈ news) (hd : o.IsDictOf (intKind prog w) kvs) (lo : (d == sysModules) = false) (hz : kvs.length < 64)
    (h : ∀ D' vs' ns' c' h' tk, Fr h₀ L h' m → News h₀ L h' ((D', W.listOf vs'.toArray c') :: news) → (∀ q ∈ news, q.1 < D') → IntsAre vs' ns' → ns'.Perm (kvs.map (·.1)) → ns'.Pairwise (· ≤ ·) → Q (.ref D') { s with heap := h', toks := tk }) :
    wpAny (model prog w) A (call (.builtin "sorted") [.ref d]) Q E s := by
  obtain ⟨ep, hat⟩ := (Heap.dictOf_iff.mpr ⟨o, (N _ hm).1, hd⟩ : s.heap.DictOf _ d kvs).dictAt
  refine kdu_sorted (kdl_dict (knd := intKind prog w) (kvs := kvs) (ep := ep) lo) hh F N hat (by rw [sizeLine_eq]; omega) fun B h' tk vs F' N' l1 hl hv => ?_
  exact sort_new (A := A.in1) (s := { s with heap := h', toks := tk }) (E := E) F' N' l1 (ints_of_keys hl hv) (by rw [List.length_map]; exact hz) fun vs' ns' c' h2 F2 N2 hi hp ho => h B vs' ns' c' h2 tk F2 N2 l1 hi hp ho
theorem my_sortedT (F : Fr h₀ L s.heap m) (N : News h₀ L s.heap news) (hm : (D, tupO us) ∈ news) (hi : IntsAre us xs) (hz : xs.length < 64)
    (h : ∀ D' vs' ns' c' h', Fr h₀ L h' m → News h₀ L h' ((D', W.listOf vs'.toArray c') :: news) → (∀ q ∈ news, q.1 < D') → IntsAre vs' ns' → ns'.Perm xs → ns'.Pairwise (· ≤ ·) → Q (.ref D') { s with heap := h' }) :
    wpAny (model prog w) A (call (.builtin "sorted") [.ref D]) Q E s := by
  have hl := hi.length
  refine call_function_entry kind_sorted plain_sorted entry_sorted (args_sorted1 _) ?_
  unfold Builtin.«sorted»
  refine wpAny_bind (m := checkCount "sorted" 1 1 _) (wpAny_pure ?_)
  refine wpAny_bind (wpAny_collect_seq D (.inr rfl) (N _ hm).1 rfl rfl (fun h' hk => ?_) (by rw [List.size_toArray, sizeLine_eq]; omega))
  refine wpAny_bind (wpAny_newList ?_ (by rw [sizeLine_eq]; show us.length ≤ _; omega))
  have F' : Fr h₀ L h' m := F.keeps hk
  have N' : News h₀ L h' news := fun p hp => ⟨hk _ _ (N p hp).1, (N p hp).2⟩
  have l1 : ∀ q ∈ news, q.1 < h'.objs.size := fun q hq => Heap.lt_size (N' q hq).1
  refine wpAny_bind (wpAny_holding (wpAny_mono (sort_new (D := h'.objs.size) (news := news) (us := us) (s := { s with heap := h'.push { cls := .type "list", data := .seq us.toArray } }) (Q := Q) (E := E) (F'.push _) (News.push F' N' _ rfl) l1 hi hz fun vs' ns' c' h2 F2 N2 hi' hp ho => h _ vs' ns' c' h2 F2 N2 l1 hi' hp ho) (fun _ s' x => ?_) fun _ _ e => e))
  exact wpAny_pure ⟨_, rfl, x⟩
theorem my_maxV {o : Obj} {kvs : List (Int × Value)} (val : Int → Int) (hh : A.handled = none) (F : Fr h₀ L s.heap m) (N : News h₀ L s.heap news) (hv : (v, ({ cls := .type "dict_values", data := .fields #[.ref d] } : Obj)) ∈ news) (hm : (d, o) ∈ news) (hd : o.IsDictOf (intKind prog w) kvs) (hne : kvs ≠ [])
    (hval : ∀ p ∈ kvs, ∃ t, p.2 = Value.int (val p.1) t)
    (h : ∀ h' k t tk, Fr h₀ L h' m → News h₀ L h' news → k ∈ kvs.map (·.1) → (∀ p ∈ kvs, val p.1 ≤ val k) → Q (.int (val k) t) { s with heap := h', toks := tk }) :
    wpAny (model prog w) A (call (.builtin "max") [.ref v]) Q E s := by
  obtain ⟨ep, hat⟩ := (Heap.dictOf_iff.mpr ⟨o, (N _ hm).1, hd⟩ : s.heap.DictOf _ d kvs).dictAt
  have K := kdl_values (prog := prog) (w := w) (knd := intKind prog w) (r := v) (d := d) (kvs := kvs) (ep := ep)
  have hok : s.heap.IsValuesView v d ∧ s.heap.DictAt (intKind prog w) d kvs ep := ⟨⟨_, (N _ hv).1, rfl, rfl⟩, hat⟩
  have hn : 0 < kvs.length := List.length_pos_iff.mpr hne
  obtain ⟨oI, St, hit, W, st⟩ := K.iter A.in1 s hh hok
  let f : Nat → Int := fun i => val ((kvs.getD i (0, .none)).1)
  have hf : ∀ i v, (∃ k, kvs[i]? = some (k, v)) → ∃ t, v = Value.int (f i) t := by
    rintro i v ⟨k, hk⟩
    obtain ⟨t, ht⟩ := hval (k, v) (List.mem_of_getElem? hk)
    refine ⟨t, ?_⟩
    show v = Value.int (val ((kvs.getD i (0, .none)).1)) t
    rw [List.getD_eq_getElem?_getD, hk]; exact ht
  refine call_max_walkS (hit _ _ ⟨s.heap.objs.size, _, _, _, kvs.length, _, _, _, rfl, W.toS, st, fun b hb => ?_, hn, CmpOf.ints_gt f hf, fun u s' hP hmv => ?_⟩)
  · show b < (s.heap.push oI).objs.size
    rw [size_push']
    rcases List.mem_cons.mp hb with e | hb
    · rw [e]; exact Nat.lt_succ_self _
    · rw [List.mem_singleton.mp hb]; exact Nat.lt_succ_of_lt (K.there _ hok).2
  · have hk : ∀ b o, s.heap.get? b = some o → s'.heap.get? b = some o := fun b o e =>
      hmv.heap b o (fun hI => absurd (Heap.lt_size e) (by rw [List.mem_singleton.mp hI]; exact Nat.lt_irrefl _)) (Heap.get?_push_of_some _ e)
    obtain ⟨t, rfl⟩ := hf _ _ hP
    obtain ⟨k, hke⟩ := hP
    have hb := argBest_gt f (kvs.length - 1)
    have hkf : f (argBest (fun i j => decide (f i > f j)) (kvs.length - 1)) = val k := by
      show val ((kvs.getD _ (0, .none)).1) = val k
      rw [List.getD_eq_getElem?_getD, hke]; rfl
    rw [hkf] at hb hke ⊢
    rw [Moved.eq_with hmv]
    refine h s'.heap k t s'.toks (F.keeps hk) (fun p hp => ⟨hk _ _ (N p hp).1, (N p hp).2⟩) (List.mem_map.mpr ⟨_, List.mem_of_getElem? hke, rfl⟩) fun p hp => ?_
    obtain ⟨i, hi, rfl⟩ := List.mem_iff_getElem.mp hp
    have := hb.2 i (by omega)
    have e : f i = val kvs[i].1 := by
      show val ((kvs.getD i (0, .none)).1) = _
      rw [List.getD_eq_getElem?_getD, List.getElem?_eq_getElem hi]; rfl
    rw [e] at this; exact this
end
end Mine
-- B13
namespace Mine
open PySem PySem.W PySem.Calls PyProof.Rows PyProof.V PySem.Spec
section
variable {prog : Program} {w : World} {A : Around} {s : Shared} {env : Env} {h₀ : Heap} {target : Expr} {body : List Stmt} {Q : Flow → Shared → Prop} {m : Str → Option Value} {news : List (Addr × Obj)} {E : Value → Shared → Prop}
/-- for over range(n + 1), over a symbolic ledger -/
theorem ForL.range1 {n : Nat} {t : Tok} (hh : A.handled = none) (F : Fr h₀ env.locals s.heap m) (N : News h₀ env.locals s.heap news) (hn : n ≤ 1000)
    (J : Nat → (Str → Option Value) → List (Addr × Obj) → Prop) (h0 : J 0 m news) (ht : ∀ I v, letOwnedTupleGo target (.ref I) v = pure ())
    (turn : ∀ I i u m₁ news₁ oI h tk, i < n + 1 → J i m₁ news₁ → I ∉ news₁.map (·.1) → (∀ p ∈ news, p.1 < I) → Fr h₀ env.locals h m₁ → News h₀ env.locals h ((I, oI) :: news₁) →
      wpAny (model prog w) A (assign target env (.int i u)) (fun _ s₂ => wpAny (model prog w) A (execs body env) (FPost h₀ env.locals I oI [] (J (i + 1)) s Q) (fun _ _ => False) s₂) (fun _ _ => False) { s with heap := h, toks := tk })
    (done : ∀ m' news' h tk, Fr h₀ env.locals h m' → News h₀ env.locals h news' → J (n + 1) m' news' → Q .next { s with heap := h, toks := tk }) :
    wpAny (model prog w) A (call (.type "range") [.int ((n : Int) + 1) t]) (fun xv s₁ => ForL prog w A env target body Q xv s₁) E s := by
  have hsz : Builtin.Range.rangeSize 0 ((n : Int) + 1) 1 = ((n + 1 : Nat) : Int) := by rw [rangeSize_one]; split <;> omega
  refine call_range_1 ?_
  unfold ForL
  refine wpAny_pyIter_range (IsRange.new ..) (small_one (by decide) (by decide) (by omega) (by omega)) ?_
  have Wk := Walks.range (prog := prog) (w := w) hh (s.heap.push { cls := .type "range", data := .fields #[.int 0 s.toks, .int ((n : Int) + 1) t, .int 1 (s.toks + 1)] }).objs.size 0 1 (n + 1)
  have F1 := F.push { cls := .type "range", data := .fields #[.int 0 s.toks, .int ((n : Int) + 1) t, .int 1 (s.toks + 1)] }
  have F2 := F1.push { cls := .type "range_iterator", data := .fields #[rawInt 0, rawInt (Builtin.Range.rangeSize 0 ((n : Int) + 1) 1), rawInt 1] }
  have hlt : ∀ p ∈ news, p.1 < (s.heap.push { cls := .type "range", data := .fields #[.int 0 s.toks, .int ((n : Int) + 1) t, .int 1 (s.toks + 1)] }).objs.size := fun p hp => by
    rw [Heap.size_push]; exact Nat.lt_succ_of_lt (Heap.lt_size (N p hp).1)
  refine for_led (src := []) (P := fun i v => ∃ t, v = .int (0 + (i : Nat) * 1) t) (s := { s with heap := (s.heap.push { cls := .type "range", data := .fields #[.int 0 s.toks, .int ((n : Int) + 1) t, .int 1 (s.toks + 1)] }).push { cls := .type "range_iterator", data := .fields #[rawInt 0, rawInt (Builtin.Range.rangeSize 0 ((n : Int) + 1) 1), rawInt 1] }, toks := s.toks + 1 + 1 }) Wk (next_is_new F1) (Nat.ne_of_gt F1.ns.lt) ?_ ?_ F2
    (fun p hp => ⟨Heap.get?_push_of_some _ (Heap.get?_push_of_some _ (N p hp).1), (N p hp).2⟩) (fun p hp => nomatch hp) (fun q => by obtain ⟨p, hp, e⟩ := List.mem_map.mp q; exact absurd (hlt p hp) (e ▸ Nat.lt_irrefl _)) J h0 (ht _) ?_ ?_
  · intro i h st; exact ⟨_, st⟩
  · have e1 : (0 + ((0 : Nat) : Int) * 1) = 0 := by simp
    have e2 : (((n + 1 : Nat) : Int) - ((0 : Nat) : Int)) = Builtin.Range.rangeSize 0 ((n : Int) + 1) 1 := by rw [hsz]; simp
    rw [e1, e2]
    exact Heap.get?_push_size _ rfl
  · rintro i v m₁ news₁ oI h tk hi ⟨u, hv⟩ hJ _ hI F₁ N₁
    have e : (0 + (i : Int) * 1) = i := by omega
    rw [e] at hv
    subst hv
    exact turn _ i u m₁ news₁ oI h tk hi hJ hI hlt F₁ N₁
  · intro m' news' h tk F' N' _ hJ
    exact done m' news' h tk F' N' hJ
end
end Mine
-- B14
namespace Mine
open PySem PySem.W PySem.Calls PyProof.Rows
section
variable {prog : Program} {w : World} {A : Around} {s : Shared} {env : Env} {h₀ : Heap} {target : Expr} {body : List Stmt} {Q : Flow → Shared → Prop} {m : Str → Option Value} {news : List (Addr × Obj)}
theorem for_ledT {I : Addr} {src : List (Addr × Obj)} {n : Nat} {P : Nat → Value → Prop} {P' : Value → Prop} {St : Nat → Heap → Prop} (W : Walks prog w A I (I :: src.map (·.1)) [I] n P St) (hI : h₀.get? I = none) (hIL : I ≠ env.locals)
    (hlive : ∀ i h, St i h → ∃ oI, h.get? I = some oI) (hst : St 0 s.heap) (F : Fr h₀ env.locals s.heap m) (N : News h₀ env.locals s.heap news) (hsrc : ∀ p ∈ src, p ∈ news) (hnI : I ∉ news.map (·.1))
    (J : Nat → (Str → Option Value) → List (Addr × Obj) → Prop) (h0 : J 0 m news) (ht : ∀ i v s₁ (Q₁ : Unit → Shared → Prop) (E₁ : Value → Shared → Prop), St i s₁.heap → P' v → Q₁ () s₁ → wpAny (model prog w) A (letOwnedTupleGo target (.ref I) v) Q₁ E₁ s₁) (hP' : ∀ i v, P i v → P' v)
    (turn : ∀ i v m₁ news₁ oI h tk, i < n → P i v → J i m₁ news₁ → (∀ p ∈ src, p ∈ news₁) → I ∉ news₁.map (·.1) → Fr h₀ env.locals h m₁ → News h₀ env.locals h ((I, oI) :: news₁) →
      wpAny (model prog w) A (assign target env v) (fun _ s₂ => wpAny (model prog w) A (execs body env) (FPost h₀ env.locals I oI src (J (i + 1)) s Q) (fun _ _ => False) s₂) (fun _ _ => False) { s with heap := h, toks := tk })
    (done : ∀ m' news' h tk, Fr h₀ env.locals h m' → News h₀ env.locals h news' → (∀ p ∈ src, p ∈ news') → J n m' news' → Q .next { s with heap := h, toks := tk }) :
    codeAny (model prog w) A (.forLoop target (.ref I) body [] env) (fun r s' => match r with | .ok f => Q f s' | .error e => cameBackBy (model prog w) A env (fun _ _ => False) e s') s := by
  refine codeAny_forLoop_any (fun k s' => ∃ h' tk m' news' i, s' = { s with heap := h', toks := tk } ∧ St i h' ∧ Fr h₀ env.locals h' m' ∧ News h₀ env.locals h' news' ∧ (∀ p ∈ src, p ∈ news') ∧ I ∉ news'.map (·.1) ∧ J i m' news' ∧ i ≤ n ∧ k = n + 1 - i) ?_ (n + 1)
    ⟨s.heap, s.toks, m, news, 0, rfl, hst, F, N, hsrc, hnI, h0, Nat.zero_le _, rfl⟩
  rintro k s' ⟨h', tk, m', news', i, rfl, hst', F', N', hsrc', hnI', hJ, hi, rfl⟩
  have next : ∀ h₁ : Heap, (∀ b o, b ∉ [I] → h'.get? b = some o → h₁.get? b = some o) → Fr h₀ env.locals h₁ m' ∧ News h₀ env.locals h₁ news' := fun h₁ hk₁ =>
    ⟨⟨F'.ns.at' fun o e => hk₁ _ o (by simpa using fun e => hIL e.symm) e, fun b o e => hk₁ b o (fun q => by rw [List.mem_singleton.mp q, hI] at e; cases e) (F'.keep b o e), F'.above⟩,
     fun p hp => ⟨hk₁ _ _ (fun q => hnI' (List.mem_map.mpr ⟨p, hp, List.mem_singleton.mp q⟩)) (N' p hp).1, (N' p hp).2⟩⟩
  by_cases hlt : i < n
  · refine W.item i _ _ _ hlt hst' fun v h₁ tk₁ hP hst₁ hk₁ => ?_
    obtain ⟨F₁, N₁⟩ := next h₁ hk₁
    obtain ⟨oI, hoI⟩ := hlive _ _ hst₁
    have N₂ : News h₀ env.locals h₁ ((I, oI) :: news') := fun p hp => by
      rcases List.mem_cons.mp hp with rfl | hp
      · exact ⟨hoI, hIL, hI⟩
      · exact N₁ p hp
    refine ht (i + 1) v _ _ _ hst₁ (hP' i v hP) ?_
    refine wpAny_mono (turn i v m' news' oI h₁ tk₁ hlt hP hJ hsrc' hnI' F₁ N₂) (fun _ s₂ h₂ => wpAny_mono h₂ (fun f s₃ h₃ => ?_) fun _ _ x => x.elim) fun _ _ x => x.elim
    have fin : (∃ h' tk' m' news', s₃ = { s with heap := h', toks := tk' } ∧ Fr h₀ env.locals h' m' ∧ News h₀ env.locals h' ((I, oI) :: news') ∧ (∀ p ∈ src, p ∈ news') ∧ I ∉ news'.map (·.1) ∧ J (i + 1) m' news') →
        ∃ m_1, m_1 < n + 1 - i ∧ ∃ h' tk m' news' i, s₃ = { s with heap := h', toks := tk } ∧ St i h' ∧ Fr h₀ env.locals h' m' ∧ News h₀ env.locals h' news' ∧ (∀ p ∈ src, p ∈ news') ∧ I ∉ news'.map (·.1) ∧ J i m' news' ∧ i ≤ n ∧ m_1 = n + 1 - i := by
      rintro ⟨h₃', tk₃, m₂, news₂, rfl, F₃, N₃, hs₃, hn₃, hJ₃⟩
      refine ⟨n + 1 - (i + 1), by omega, h₃', tk₃, m₂, news₂, i + 1, rfl, ?_, F₃, fun p hp => N₃ p (.tail _ hp), hs₃, hn₃, hJ₃, hlt, rfl⟩
      refine W.frame _ _ _ hst₁ fun b hb o e => ?_
      rcases List.mem_cons.mp hb with rfl | hb
      · rw [hoI] at e; cases e; exact (N₃ _ (.head _)).1
      · obtain ⟨p, hp, rfl⟩ := List.mem_map.mp hb
        have := (N₁ p (hsrc' p hp)).1
        rw [this] at e; cases e
        exact (N₃ _ (.tail _ (hs₃ p hp))).1
    cases f with
    | ret v => exact h₃
    | brk => exact h₃
    | cont => exact fin h₃
    | next => exact fin h₃
  · have hin : i = n := by omega
    subst hin
    refine W.done _ _ _ hst' fun h₁ tk₁ hk₁ => wpAny_execs_nil ?_
    obtain ⟨F₁, N₁⟩ := next h₁ hk₁
    exact done m' news' h₁ tk₁ F₁ N₁ hsrc' hJ

theorem ForL.listT {ax : Addr} {items : List Value} {c : Nat} (hh : A.handled = none) (F : Fr h₀ env.locals s.heap m) (N : News h₀ env.locals s.heap news) (hax : (ax, W.listOf items.toArray c) ∈ news)
    (J : Nat → (Str → Option Value) → List (Addr × Obj) → Prop) (h0 : J 0 m news) (ht : ∃ elts x1 pos, target = .Tuple elts x1 pos) (hrf : ∀ v ∈ items, ∃ a, v = .ref a)
    (turn : ∀ I i v m₁ news₁ oI h tk, items[i]? = some v → J i m₁ news₁ → (ax, W.listOf items.toArray c) ∈ news₁ → I ∉ news₁.map (·.1) → (∀ p ∈ news, p.1 < I) → Fr h₀ env.locals h m₁ → News h₀ env.locals h ((I, oI) :: news₁) →
      wpAny (model prog w) A (assign target env v) (fun _ s₂ => wpAny (model prog w) A (execs body env) (FPost h₀ env.locals I oI [(ax, W.listOf items.toArray c)] (J (i + 1)) s Q) (fun _ _ => False) s₂) (fun _ _ => False) { s with heap := h, toks := tk })
    (done : ∀ m' news' h tk, Fr h₀ env.locals h m' → News h₀ env.locals h news' → (ax, W.listOf items.toArray c) ∈ news' → J items.length m' news' → Q .next { s with heap := h, toks := tk }) :
    ForL prog w A env target body Q (.ref ax) s := by
  have hls : s.heap.IsList ax items.toArray := News.isList N hax
  have hne : ax ≠ s.heap.objs.size := Nat.ne_of_lt (Heap.lt_size (N _ hax).1)
  unfold ForL
  refine wpAny_pyIter_list hls ?_
  have Wk := Walks.list (prog := prog) (w := w) hh s.heap.objs.size ax hne items.toArray
  have hlt : ∀ p ∈ news, p.1 < s.heap.objs.size := fun p hp => Heap.lt_size (N p hp).1
  obtain ⟨elts, x1, ps, rfl⟩ := ht
  refine for_ledT (P' := fun v => ∃ a, v = .ref a) (s := { s with heap := s.heap.push { cls := .type "list_iterator", data := .fields #[.ref ax, .int 0 0] } }) (src := [(ax, W.listOf items.toArray c)]) Wk (next_is_new F) (Nat.ne_of_gt F.ns.lt) ?_ ⟨⟨_, Heap.get?_push_size _ rfl, rfl, rfl⟩, hls.at fun o e => Heap.get?_push_of_some _ e⟩ (F.push _)
    (fun p hp => ⟨Heap.get?_push_of_some _ (N p hp).1, (N p hp).2⟩) (by simpa using hax) (fun q => by obtain ⟨p, hp, e⟩ := List.mem_map.mp q; exact absurd (hlt p hp) (e ▸ Nat.lt_irrefl _)) J h0 (fun i v s₁ Q₁ E₁ st hv hQ => by obtain ⟨a, rfl⟩ := hv; exact wpAny_letOwnedTupleGo_listiter st.1 hQ) (fun i v hP => hrf v (List.mem_of_getElem? (by simpa using hP))) ?_ ?_
  · rintro i h ⟨⟨o, ho, _⟩, _⟩; exact ⟨o, ho⟩
  · intro i v m₁ news₁ oI h tk _ hP hJ hs hI F₁ N₁
    exact turn _ i v m₁ news₁ oI h tk (by simpa using hP) hJ (hs _ (.head _)) hI hlt F₁ N₁
  · intro m' news' h tk F' N' hs hJ
    exact done m' news' h tk F' N' (hs _ (.head _)) (by simpa using hJ)

end
end Mine
-- B15
namespace Mine
open PySem PySem.W PySem.Calls PyProof.Rows
/-- what a walk may forget: Q is behind Q' -/
structure CutH {α : Type} (Q Q' : α → Shared → Prop) : Prop where
  out : ∀ a s, Q a s → Q' a s
structure CutG {α : Type} (Q Q' : α → Shared → Prop) (g₀ g : Array GenState) (d₀ d : Drawn) (o₀ o : OsState) : Prop where
  out : ∀ a h t, Q a ⟨h, g₀, d₀, t, o₀⟩ → Q' a ⟨h, g, d, t, o⟩
section
variable {M : Model} {A : Around} {E : Value → Shared → Prop} {s : Shared} {env : Env}
theorem execs_cut {st : Stmt} {rest : List Stmt} {Q : Flow → Shared → Prop} {h : Heap} {g₀ : Array GenState} {d₀ : Drawn} {t₀ : Nat} {o₀ : OsState}
    (k : ∀ Q₀, CutH Q Q₀ → ∀ g d t o Q', CutG (fun f s' => match f with | .next => wpAny M A (execs rest env) Q₀ (fun _ _ => False) s' | f => Q₀ f s') Q' g₀ g d₀ d o₀ o → wpAny M A (exec st env) Q' (fun _ _ => False) ⟨h, g, d, t, o⟩) :
    wpAny M A (execs (st :: rest) env) Q (fun _ _ => False) ⟨h, g₀, d₀, t₀, o₀⟩ :=
  wpAny_execs_cons (k Q ⟨fun _ _ x => x⟩ g₀ d₀ t₀ o₀ _ ⟨fun _ _ _ x => x⟩)
theorem execs_cut1 {st : Stmt} {rest : List Stmt} {Q₁ Q : Flow → Shared → Prop} {h : Heap} {g₀ : Array GenState} {d₀ : Drawn} {t₀ : Nat} {o₀ : OsState} (_c : CutH Q₁ Q)
    (k : ∀ g d o t Q', CutG (fun f s' => match f with | .next => wpAny M A (execs rest env) Q (fun _ _ => False) s' | f => Q f s') Q' g₀ g d₀ d o₀ o → wpAny M A (exec st env) Q' (fun _ _ => False) ⟨h, g, d, t, o⟩) :
    wpAny M A (execs (st :: rest) env) Q (fun _ _ => False) ⟨h, g₀, d₀, t₀, o₀⟩ :=
  wpAny_execs_cons (k g₀ d₀ o₀ t₀ _ ⟨fun _ _ _ x => x⟩)
theorem execs_cut2 {st : Stmt} {rest : List Stmt} {Q₁ Q : Flow → Shared → Prop} {h : Heap} {g₀ g₁ : Array GenState} {d₀ d₁ : Drawn} {t₀ : Nat} {o₀ o₁ : OsState} (_c : CutG Q₁ Q g₁ g₀ d₁ d₀ o₁ o₀)
    (k : ∀ t, wpAny M A (exec st env) (fun f s' => match f with | .next => wpAny M A (execs rest env) Q (fun _ _ => False) s' | f => Q f s') (fun _ _ => False) ⟨h, g₀, d₀, t, o₀⟩) :
    wpAny M A (execs (st :: rest) env) Q (fun _ _ => False) ⟨h, g₀, d₀, t₀, o₀⟩ :=
  wpAny_execs_cons (k t₀)
theorem cutQ2 {α β : Type} {m : Sem α} {x : Sem β} {A₂ : Around} {Q : β → Shared → Prop} {E₂ : Value → Shared → Prop} (k : ∀ Q', CutH Q Q' → wpAny M A m (fun _ s₂ => wpAny M A₂ x Q' E₂ s₂) E s) : wpAny M A m (fun _ s₂ => wpAny M A₂ x Q E₂ s₂) E s := k Q ⟨fun _ _ x => x⟩
theorem cutW {β : Type} {m : Sem Bool} {x y : Sem β} {A₂ : Around} {Q₁ Q₂ : β → Shared → Prop} {E₂ : Value → Shared → Prop} (k : ∀ Q' Q'', CutH Q₁ Q' → CutH Q₂ Q'' → wpAny M A m (fun b s₂ => if b = true then wpAny M A₂ x Q' E₂ s₂ else wpAny M A₂ y Q'' E₂ s₂) E s) : wpAny M A m (fun b s₂ => if b = true then wpAny M A₂ x Q₁ E₂ s₂ else wpAny M A₂ y Q₂ E₂ s₂) E s :=
  k Q₁ Q₂ ⟨fun _ _ x => x⟩ ⟨fun _ _ x => x⟩
theorem cutQ {α : Type} {m : Sem α} {Q : α → Shared → Prop} (k : ∀ Q', CutH Q Q' → wpAny M A m Q' E s) : wpAny M A m Q E s := k Q ⟨fun _ _ x => x⟩
end
theorem ne_new {l : List (Addr × Obj)} {a d : Addr} {o : Obj} (h : ∀ q ∈ l, q.1 < d) (m : (a, o) ∈ l) : a ≠ d := Nat.ne_of_lt (h _ m)
theorem ne_new' {l : List (Addr × Obj)} {a d : Addr} {o : Obj} (h : ∀ q ∈ l, q.1 < a) (m : (d, o) ∈ l) : a ≠ d := Nat.ne_of_gt (h _ m)
end Mine
open PySem PySem.W PyProof.Rows Mine
local macro_rules | `(tactic| k_mem) => `(tactic| assumption)
local macro_rules | `(tactic| k_all) => `(tactic| first | assumption | exact ne_of_nm (by assumption) | exact ne_of_lt (by assumption) | exact ne_of_allLt (by assumption))
local macro_rules | `(tactic| k_mem) => `(tactic| (refine List.mem_append_right _ ?_; k_mem))
local macro_rules | `(tactic| k_ne) => `(tactic| first | assumption | (refine Ne.symm ?_; assumption) | (refine ne_new (by assumption) ?_; k_mem) | (refine ne_new' (by assumption) ?_; k_mem) | (refine neN ?_; (try dsimp only); omega))
-- P1
namespace Mine
open PySem PySem.W PyProof.Rows
example : True := by
  k_with_none
  k_with "MYcall" => ((with_reducible show wpAny _ _ (call (Value.builtin "len") _ _) _ _ _); (refine' my_len ?zzk1 ?zzk2 ?zzk3 ?_; (case zzk1 => k_asm); (case zzk2 => k_mem); (case zzk3 => omega); intro _ _))
  k_with "MY subscriptTail" => ((with_reducible show wpAny _ _ (subscriptTail _ _ (Value.ref _) _) _ _ _); ((with_reducible show wpAny _ _ (subscriptTail _ _ (Value.ref _) (Value.int _ _)) _ _ _); with_unfolding_all refine' my_item ?zzk1 ?zzk2 ?zzk3 ?zzk4 ?zzk5 ?zzk6 ?_ ?zzk7; (case zzk1 => k_asm); (case zzk2 => k_mem); (case zzk3 => assumption); (case zzk4 => omega); (case zzk5 => omega); (case zzk6 => omega); (case zzk7 => with_unfolding_all rfl);  intro _))
  k_with "MY eval Name" => ((with_reducible show wpAny _ _ (eval (Expr.Name _ _) (envOf _ _ _ _ _)) _ _ _); (k_here; k_dflt (refine' ld ?zzk1 ?zzk2 ?_; (case zzk1 => k_asm); (case zzk2 => assumption); k_whole)))
  k_with "MYcall" => ((with_reducible show wpAny _ _ (call (Value.builtin "list.insert") _ _) _ _ _); (k_here; k_dflt (refine' my_insert ?zzF ?zzN ?zzU ?zzhk ?zzz ?_; (case zzF => k_asm); (case zzN => k_asm); (case zzU => k_upd); (case zzhk => omega); (case zzz => omega); k_whole); intro _ _ _; (try k_sweep)))
  k_with "MYcall" => ((with_reducible show wpAny _ _ (call (Value.builtin "dict.get") _ _) _ _ _); (k_here; k_dflt (first | refine kdg_get1 (knd := PySem.intKind _ _) (by k_asm) (by k_mem) (by assumption) (by assumption) (intKind_is _ _ _ _) none (by assumption) ?_ | refine kdg_get1 (knd := PySem.intKind _ _) (by k_asm) (by k_mem) (by assumption) (by assumption) (intKind_is _ _ _ _) (some _) (by assumption) ?_); (try dsimp only [Option.getD])))
  k_with "MY getMethod ref" => ((with_reducible show wpAny _ _ (getMethod (Value.ref _) _ _) _ _ _); (k_here; (with_reducible show wpAny _ _ (getMethod (Value.ref _) (Str.ofString "get") _) _ _ _); k_dflt (refine kdg_method (knd := PySem.intKind _ _) (by k_asm) (by k_mem) (by assumption) ?_)))
  k_with "MY setItem ref int" => ((with_reducible show wpAny _ _ (setItem (Value.ref _) (Value.int _ _) _) _ _ _); (k_here; k_dflt (refine' kda_set (knd := PySem.intKind _ _) ?zzF ?zzN ?zzU ?zzd (intKind_is _ _ _ _) ?zzz ?_; (case zzF => k_asm); (case zzN => k_asm); (case zzU => k_updF); (case zzd => assumption); (case zzz => assumption)); intro _ _ _ _ _; (try dsimp only at N'); (try k_sweep)))
  k_with "MYcall" => ((with_reducible show wpAny _ _ (call (Value.builtin "len") _ _) _ _ _); (refine' my_lenT ?zzk1 ?zzk2 ?zzk3 ?_; (case zzk1 => k_asm); (case zzk2 => k_mem); (case zzk3 => omega); intro _ _))
  k_with "MY eval Call Attribute" => ((with_reducible show wpAny _ _ (eval (Expr.Call (Expr.Attribute _ _ _) _ [] _) _) _ _ _); (k_here; (with_reducible show wpAny _ _ (eval (Expr.Call (Expr.Attribute _ _ _) _ [] _) _) _ _ _); ks_star; refine star_method ?_))
  k_with "MY callWith ref" => ((with_reducible show wpAny _ _ (callWith _ (Value.ref _) _ _ []) _ _ _); (k_here; (with_reducible show wpAny _ _ (callWith _ (Value.ref _) _ (backTo _ (starEach [Expr.Starred _ _] _)) []) _ _ _); k_dflt (refine' callWith_MS ?zzX ?zzN ?zzq ?zzk2 ?_; (case zzX => k_asm); (case zzN => k_asm); (case zzq => k_mem); (case zzk2 => k_is); k_whole)))
  k_with "MY callWith ref" => ((with_reducible show wpAny _ _ (callWith _ (Value.ref _) _ _ []) _ _ _); (k_here; (with_reducible show wpAny _ _ (callWith _ (Value.ref _) _ (backTo _ (starEach (_ :: _ :: _) _)) []) _ _ _); ks_star; k_dflt (refine' callWith_MS2 ?zzX ?zzN ?zzq ?zzk2 ?_; (case zzX => k_asm); (case zzN => k_asm); (case zzq => k_mem); (case zzk2 => k_is); k_whole)))
  k_with "MY StarOf ref" => ((with_reducible show StarOf _ _ _ (Value.ref _) _ _); (k_here; k_dflt (first | (refine' my_star ?zzF ?zzN ?zzm ?zzi ?zzz ?_; (case zzF => k_asm); (case zzN => k_asm); (case zzm => k_mem); (case zzi => assumption); (case zzz => omega); k_whole) | (refine' my_starT ?zzF ?zzN ?zzm ?zzi ?zzz ?_; (case zzF => k_asm); (case zzN => k_asm); (case zzm => k_mem); (case zzi => assumption); (case zzz => omega); k_whole)); intro _ _ _; (try k_sweep); (try dsimp only [List.nil_append, List.cons_append])))
  k_with "MY compareOp In int ref" => ((with_reducible show wpAny _ _ (compareOp CmpOp.In (Value.int _ _) (Value.ref _)) _ _ _); (k_here; k_dflt (first | (refine' kse_in (knd := PySem.intKind _ _) ?zzN ?zzU ?zzd ?zzz (intKind_is _ _ _ _) rfl ?_; (case zzN => k_asm); (case zzU => k_updF); (case zzd => assumption); (case zzz => (show _ < 4096; omega))) | (refine' kda_in (knd := PySem.intKind _ _) ?zzN ?zzm ?zzd ?zzlo (intKind_is _ _ _ _) false ?zzb ?_; (case zzN => k_asm); (case zzm => k_mem); (case zzd => assumption); (case zzlo => assumption); (case zzb => assumption))); (try dsimp only)))
  k_with "MY getMethod ref" => ((with_reducible show wpAny _ _ (getMethod (Value.ref _) _ _) _ _ _); (k_here; (with_reducible show wpAny _ _ (getMethod (Value.ref _) (Str.ofString "add") _) _ _ _); k_dflt (refine' kse_method (knd := PySem.intKind _ _) ?zzN ?zzU ?zzd ?zzz ?_; (case zzN => k_asm); (case zzU => k_updF); (case zzd => assumption); (case zzz => (show _ < 4096; omega)))))
  k_with "MYcall" => ((with_reducible show wpAny _ _ (call (Value.builtin "set.add") _ _) _ _ _); (k_here; k_dflt (refine' kse_add (knd := PySem.intKind _ _) ?zzF ?zzN ?zzU ?zzd ?zzz (intKind_is _ _ _ _) rfl ?_; (case zzF => k_asm); (case zzN => k_asm); (case zzU => k_updF); (case zzd => assumption); (case zzz => (show _ < 4096; omega))); intro _ _ _ _ _; (try dsimp only at N'); (try k_sweep)))
  k_with "MY subscriptTail" => ((with_reducible show wpAny _ _ (subscriptTail _ _ (Value.ref _) _) _ _ _); ((with_reducible show wpAny _ _ (subscriptTail _ _ (Value.ref _) (Value.int _ _)) _ _ _); with_unfolding_all refine' kda_item (knd := PySem.intKind _ _) ?zzk1 ?zzk2 ?zzk3 (intKind_is _ _ _ _) ?zzk4 ?_ ?zzk7 ?zzk8; (case zzk1 => k_asm); (case zzk2 => k_mem); (case zzk3 => assumption); (case zzk4 => assumption); (case zzk7 => with_unfolding_all rfl); (case zzk8 => (intro _; with_unfolding_all rfl))))
  k_with "MYcall" => ((with_reducible show wpAny _ _ (call (Value.builtin "iter") _ _) _ _ _); (k_here; k_dflt (refine' my_iter ?zzF ?zzN ?zzm ?_; (case zzF => k_asm); (case zzN => k_asm); (case zzm => k_mem)); intro _ _ _ _ zl; (try k_lt zl); (revert zl; intro _); (try k_sweep)))
  k_with "MY getAttr ref" => ((with_reducible show wpAny _ _ (getAttr (Value.ref _) _ _) _ _ _); (k_here; (with_reducible show wpAny _ _ (getAttr (Value.ref _) (Str.ofString "__next__") _) _ _ _); k_dflt (refine' mw_getattr ?zzF ?zzN ?zzm ?_; (case zzF => k_asm); (case zzN => k_asm); (case zzm => k_mem)); intro _ _ _ _ _ zl; (try k_lt zl); (revert zl; intro _); (try k_sweep)))
  k_with "MY truthy ref" => ((with_reducible show wpAny _ _ (truthy (Value.ref _)) _ _ _); (k_here; (with_reducible show wpAny _ _ (truthy (Value.ref _)) _ _ _); k_dflt (refine' my_truthy ?zzN ?zzm ?zzz _ ?zzb ?_; (case zzN => k_asm); (case zzm => k_mem); (case zzz => assumption); (case zzb => assumption)); intro _; (try dsimp only)))
  k_with "MY subscriptTail" => ((with_reducible show wpAny _ _ (subscriptTail _ _ (Value.ref _) _) _ _ _); ((with_reducible show wpAny _ _ (subscriptTail _ _ (Value.ref _) (Value.int (-1) _)) _ _ _); k_dflt (refine' my_last ?zzN ?zzm ?zzz ?_ ?zze; (case zzN => k_asm); (case zzm => k_mem); (case zzz => assumption); (case zze => with_unfolding_all rfl))))
  k_with "MY callWith ref" => ((with_reducible show wpAny _ _ (callWith _ (Value.ref _) _ _ []) _ _ _); (k_here; (with_reducible show wpAny _ _ (callWith _ (Value.ref _) _ (backTo _ (starEach [] _)) []) _ _ _); k_dflt (refine' callWith_W ?zzN ?zzq ?_; (case zzN => k_asm); (case zzq => k_mem)); (try dsimp only [List.nil_append])))
  k_with "MYcall" => ((with_reducible show wpAny _ _ (call (Value.builtin "list.pop") _ _) _ _ _); (k_here; k_dflt (refine' my_pop ?zzF ?zzN ?zzU ?zzz ?_; (case zzF => k_asm); (case zzN => k_asm); (case zzU => k_upd); (case zzz => omega)); intro _ _ _; (try k_sweep)))
  k_with "MY delItem ref int" => ((with_reducible show wpAny _ _ (delItem (Value.ref _) (Value.int _ _)) _ _ _); (k_here; k_dflt (refine' kob_del (knd := PySem.intKind _ _) ?zzF ?zzN ?zzU ?zzd (intKind_is _ _ _ _) ?zzl ?zzz ?_; (case zzF => k_asm); (case zzN => k_asm); (case zzU => k_updF); (case zzd => assumption); (case zzl => assumption); (case zzz => assumption)); intro _ _ _ _ _; (try dsimp only at N')))
  k_with "MY getMethod ref" => ((with_reducible show wpAny _ _ (getMethod (Value.ref _) _ _) _ _ _); (k_here; (with_reducible show wpAny _ _ (getMethod (Value.ref _) (Str.ofString "values") _) _ _ _); k_dflt (refine kdl_method (knd := PySem.intKind _ _) PySem.F.slot_dict_values PySem.F.type_dict_values (by k_asm) (by k_mem) (by assumption) ?_)))
  k_with "MYcall" => ((with_reducible show wpAny _ _ (call (Value.builtin "dict.values") _ _) _ _ _); (k_here; k_dflt (refine kdl_view_values (knd := PySem.intKind _ _) (by k_asm) (by k_asm) (by k_mem) (by assumption) (by assumption) ?_); intro _ _ _ _ zl; (try k_lt zl); (revert zl; intro _); (try k_sweep)))
  k_with "MYcall" => ((with_reducible show wpAny _ _ (call (Value.type "bool") _ _) _ _ _); (k_here; k_dflt (refine' my_bool ?zzN ?zzm ?zzz _ ?zzb ?_; (case zzN => k_asm); (case zzm => k_mem); (case zzz => assumption); (case zzb => assumption)); intro _; (try dsimp only)))
  k_with "MYcall" => ((with_reducible show wpAny _ _ (call (Value.type "tuple") _ _) _ _ _); (k_here; k_dflt (refine' my_tupleOf ?zzF ?zzN ?zzm ?zzz ?_; (case zzF => k_asm); (case zzN => k_asm); (case zzm => k_mem); (case zzz => omega)); intro _ _ _ _ zl; (revert zl; intro _); (try k_sweep)))
  k_with "MYcall" => ((with_reducible show wpAny _ _ (call (Value.builtin "list.clear") _ _) _ _ _); (k_here; k_dflt (refine' my_clear ?zzF ?zzN ?zzU ?zzz ?_; (case zzF => k_asm); (case zzN => k_asm); (case zzU => k_upd); (case zzz => omega)); intro _ _ _; (try k_sweep)))
  k_with "MY compareOp NotIn int ref" => ((with_reducible show wpAny _ _ (compareOp CmpOp.NotIn (Value.int _ _) (Value.ref _)) _ _ _); (k_here; k_dflt (refine' my_notin ?zzN ?zzm ?zzi ?_; (case zzN => k_asm); (case zzm => k_mem); (case zzi => assumption)); (try dsimp only)))
  k_with "MYcall" => ((with_reducible show wpAny _ _ (call (Value.builtin "sorted") _ _) _ _ _); (k_here; k_dflt (refine' my_sorted ?zzF ?zzN ?zzm ?zzi ?zzz ?_; (case zzF => k_asm); (case zzN => k_asm); (case zzm => k_mem); (case zzi => assumption); (case zzz => omega)); intro _ _ _ _ _ _ _ zl _ _ _; (try k_lt zl); (revert zl; intro _); (try k_sweep)))
  k_with "MY binaryOp Add ref ref" => ((with_reducible show wpAny _ _ (binaryOp Operator.Add (Value.ref _) (Value.ref _)) _ _ _); (k_here; k_dflt (refine' my_addL ?zzF ?zzN ?zzm ?zzm2 ?zzz ?_; (case zzF => k_asm); (case zzN => k_asm); (case zzm => k_mem); (case zzm2 => k_mem); (case zzz => assumption)); intro _ _ _ _ zl; (try k_lt zl); (revert zl; intro _); (try k_sweep)))
  k_with "MYcall" => ((with_reducible show wpAny _ _ (call (Value.type "list") _ _) _ _ _); (k_here; k_dflt (refine' my_copy ?zzF ?zzN ?zzm ?zzz ?_; (case zzF => k_asm); (case zzN => k_asm); (case zzm => k_mem); (case zzz => omega)); intro _ _ _ _ _ zl; (try k_lt zl); (revert zl; intro _); (try k_sweep)))
  k_with "MYcall" => ((with_reducible show wpAny _ _ (call (Value.builtin "list.pop") _ _) _ _ _); (k_here; (with_reducible show wpAny _ _ (call (Value.builtin _) [Value.ref _, Value.int _ _]) _ _ _); k_dflt (refine' my_popAt ?zzF ?zzN ?zzU ?zzi ?zzz ?_; (case zzF => k_asm); (case zzN => k_asm); (case zzU => k_upd); (case zzi => assumption); (case zzz => omega)); intro _ _ _; (try k_sweep)))
  k_with "MY compareOp NotEq ref ref" => ((with_reducible show wpAny _ _ (compareOp CmpOp.NotEq (Value.ref _) (Value.ref _)) _ _ _); (k_here; k_dflt (refine' my_ne ?zzN ?zzm ?zzm2 ?zzi ?zzj ?zzu ?_; (case zzN => k_asm); (case zzm => k_mem); (case zzm2 => k_mem); (case zzi => assumption); (case zzj => assumption); (case zzu => assumption)); (try dsimp only)))
  k_with "MINE" => ((with_reducible show wpAny _ _ (call _ _ _) _ _ _); k_extra "MYcall")
  k_with "MINE" => ((with_reducible show wpAny _ _ (subscriptTail _ _ (Value.ref _) _) _ _ _); k_extra "MY subscriptTail")
  k_with "MINE" => ((with_reducible show wpAny _ _ (eval (Expr.Name _ _) (envOf _ _ _ _ _)) _ _ _); k_extra "MY eval Name")
  k_with "MINE" => ((with_reducible show wpAny _ _ (getMethod (Value.ref _) _ _) _ _ _); k_extra "MY getMethod ref")
  k_with "MINE" => ((with_reducible show wpAny _ _ (setItem (Value.ref _) (Value.int _ _) _) _ _ _); k_extra "MY setItem ref int")
  k_with "MINE" => ((with_reducible show wpAny _ _ (eval (Expr.Call (Expr.Attribute _ _ _) _ [] _) _) _ _ _); k_extra "MY eval Call Attribute")
  k_with "MINE" => ((with_reducible show wpAny _ _ (callWith _ (Value.ref _) _ _ []) _ _ _); k_extra "MY callWith ref")
  k_with "MINE" => ((with_reducible show StarOf _ _ _ (Value.ref _) _ _); k_extra "MY StarOf ref")
  k_with "MINE" => ((with_reducible show wpAny _ _ (compareOp CmpOp.In (Value.int _ _) (Value.ref _)) _ _ _); k_extra "MY compareOp In int ref")
  k_with "MINE" => ((with_reducible show wpAny _ _ (getAttr (Value.ref _) _ _) _ _ _); k_extra "MY getAttr ref")
  k_with "MINE" => ((with_reducible show wpAny _ _ (truthy (Value.ref _)) _ _ _); k_extra "MY truthy ref")
  k_with "MINE" => ((with_reducible show wpAny _ _ (delItem (Value.ref _) (Value.int _ _)) _ _ _); k_extra "MY delItem ref int")
  k_with "MINE" => ((with_reducible show wpAny _ _ (compareOp CmpOp.NotIn (Value.int _ _) (Value.ref _)) _ _ _); k_extra "MY compareOp NotIn int ref")
  k_with "MINE" => ((with_reducible show wpAny _ _ (binaryOp Operator.Add (Value.ref _) (Value.ref _)) _ _ _); k_extra "MY binaryOp Add ref ref")
  k_with "MINE" => ((with_reducible show wpAny _ _ (compareOp CmpOp.NotEq (Value.ref _) (Value.ref _)) _ _ _); k_extra "MY compareOp NotEq ref ref")
  k_with "MINE steps" => (w_strict (repeat' (first | (k_unfold; (try dsimp only)) | ((fail_if_success (with_reducible show wpAny _ _ _ _ _ _)); refine CutG.out (by assumption) _ _ _ ?_; (try clear khb); (try clear kQb); (try clear ko); (try clear kd); (try clear kg); (try dsimp only)) | ((fail_if_success (with_reducible show wpAny _ _ _ _ _ _)); refine CutH.out (by assumption) _ _ ?_; (try clear kha); (try clear kQa)) | ((with_reducible show wpAny _ _ (execs (_ :: _) _) _ _ _); (first | (refine execs_cut1 (by assumption) ?_; intro kg kd ko _ kQb khb) | (refine execs_cut2 (by assumption) ?_; intro _) | (refine cutQ ?_; intro kQa kha))) | ((fail_if_success (with_reducible show wpAny _ _ (exec (Stmt.While _ _ _ _) _) _ _ _)); (fail_if_success (with_reducible show wpAny _ _ (eval (Expr.ListComp _ _ _ _) _) _ _ _)); (fail_if_success (with_reducible show wpAny _ _ (exec (Stmt.Try _ _ _ _ _) _) _ _ _)); (fail_if_success (with_reducible show wpAny _ _ (exec (Stmt.For _ _ _ _ _) _) _ _ _)); (first | k_extra "MINE" | walk1 | (dsimp only; walk1)))  | fail "no step")))
  k_with "MINE plain" => (w_strict (repeat' (first | (k_unfold; (try dsimp only)) | ((fail_if_success (with_reducible show wpAny _ _ _ _ _ _)); refine CutH.out (by assumption) _ _ ?_; (try clear kha); (try clear kQa)) | ((fail_if_success (with_reducible show wpAny _ _ (exec (Stmt.While _ _ _ _) _) _ _ _)); (fail_if_success (with_reducible show wpAny _ _ (eval (Expr.ListComp _ _ _ _) _) _ _ _)); (fail_if_success (with_reducible show wpAny _ _ (exec (Stmt.Try _ _ _ _ _) _) _ _ _)); (fail_if_success (with_reducible show wpAny _ _ (exec (Stmt.For _ _ _ _ _) _) _ _ _)); (first | k_extra "MINE" | walk1 | (dsimp only; walk1)))  | fail "no step")))
  trivial
def HasI (m : Str → Option Value) (x : Str) (i : Int) : Prop := ∃ t, m x = some (.int i t)
theorem HasI.of {m : Str → Option Value} {x : Str} {i j : Int} {t : Tok} (h : m x = some (.int i t)) (e : i = j) : HasI m x j := ⟨t, e ▸ h⟩
theorem bis_take {xs : List Int} {x : Int} {k : Nat} (hs : xs.Pairwise (· < ·)) (hk : k < xs.length) (hx : xs.getD k 0 < x) : ∀ y ∈ xs.take (k + 1), y < x := by
  intro y hy
  obtain ⟨i, hi, rfl⟩ := List.mem_take_iff_getElem.mp hy
  rw [List.getD_eq_getElem?_getD, List.getElem?_eq_getElem hk, Option.getD_some] at hx
  have hi' : i < k + 1 := by omega
  rcases Nat.lt_succ_iff_lt_or_eq.mp hi' with h | h
  · exact Int.lt_trans (List.pairwise_iff_getElem.mp hs i k (by omega) hk h) hx
  · subst h; exact hx
theorem bis_drop {xs : List Int} {x : Int} {k : Nat} (hs : xs.Pairwise (· < ·)) (hk : k < xs.length) (hx : x ≤ xs.getD k 0) : ∀ y ∈ xs.drop k, x ≤ y := by
  intro y hy
  obtain ⟨i, hi, rfl⟩ := List.mem_drop_iff_getElem.mp hy
  rw [List.getD_eq_getElem?_getD, List.getElem?_eq_getElem hk, Option.getD_some] at hx
  rcases Nat.eq_zero_or_pos i with h | h
  · subst h; exact hx
  · exact Int.le_trans hx (Int.le_of_lt (List.pairwise_iff_getElem.mp hs k (k + i) hk (by omega) (by omega)))

theorem bl_spec {w : World} {A A₀ : Around} {env : Env} {outer : List Env} {base h₀ : Heap} {L : Addr} {m mg mb : Str → Option Value} {p : Program} {loose : List Str} {mean : ExcName → Option Value} {s : Shared} {news : List (Addr × Obj)} {R : Result → Shared → Prop}
    {a : Addr} {vs : List Value} {xs : List Int} {n : Nat} {x : Int} {tx : Tok} {args : Args}
    (C : Cx w A A₀ env outer base h₀ L m mg mb p loose mean s.heap news 900) (hN : (a, W.listOf vs.toArray n) ∈ news) (hi : IntsAre vs xs) (hlen : xs.length ≤ 1000) (hs : xs.Pairwise (· < ·))
    (hargs : args = ⟨[.ref a, .int x tx], []⟩ ∨ ∃ t, args = ⟨[.ref a, .int x tx, .int 0 t, .none], []⟩)
    (hR : ∀ h' tk t' k, Fr h₀ L h' m → News h₀ L h' news → k ≤ xs.length → (∀ y ∈ xs.take k, y < x) → (∀ y ∈ xs.drop k, x ≤ y) → R (.ok (.ret (.int k t'))) { s with heap := h', toks := tk }) :
    codeAny (model PySem.Challenge.rw_mr0333_01.row.prog w) A (.call (.ref 48) args) R s := by
  obtain ⟨B, F, X, N, T, hA, hf, hke, hdep, hh⟩ := C
  revert X
  k_fill
  intro X
  have hl := hi.length
  rcases hargs with rfl | ⟨t0, rfl⟩
  refine' enterD (binds := [(Str.ofString "a", .ref a), (Str.ofString "x", .int x tx), (Str.ofString "lo", .int 0 223), (Str.ofString "hi", .none), (Str.ofString "key", .none)]) B F X N T hA hf hke (by k_is) (by k_is) (by show A.depth < 1000; omega) (kp_binds (by k_in) (fun _ => rfl)) (locs rfl) ?_ rfl rfl rfl (by decide)
  rotate_left
  refine' enterD (binds := [(Str.ofString "a", .ref a), (Str.ofString "x", .int x tx), (Str.ofString "lo", .int 0 t0), (Str.ofString "hi", .none), (Str.ofString "key", .none)]) B F X N T hA hf hke (by k_is) (by k_is) (by show A.depth < 1000; omega) (kp_binds (by k_in) (fun _ => rfl)) (locs rfl) ?_ rfl rfl rfl (by decide)
  all_goals (
    intro g' L' h' FG' F' N' B' X' T' hA'
    walk_at "MINE steps"
    refine' while_inv (fun (c : Nat × Nat) h => c.1 ≤ c.2 ∧ c.2 ≤ xs.length ∧ (∀ y ∈ xs.take c.1, y < x) ∧ (∀ y ∈ xs.drop c.2, x ≤ y) ∧ ∃ m', Fr g' L' h m' ∧ News g' L' h news ∧ m' (Str.ofString "a") = some (.ref a) ∧ m' (Str.ofString "x") = some (.int x tx) ∧ HasI m' (Str.ofString "lo") c.1 ∧ HasI m' (Str.ofString "hi") c.2) (fun c => c.2 - c.1) (0, xs.length) ?_ ?_)
  all_goals first
  | exact ⟨Nat.zero_le _, Nat.le_refl _, by simp, by simp, _, by assumption, by assumption, rfl, rfl, ⟨_, rfl⟩, HasI.of rfl (by dsimp only; omega)⟩
  | (rintro ⟨lo, hi'⟩ h tk ⟨h2, h3, h4, h5, m', F', N', ma, mx, ⟨t1, mlo⟩, ⟨t2, mhi⟩⟩
     dsimp only at *
     walk_at "MINE steps")
  all_goals first
  | exact hR _ _ _ lo (by assumption) (by assumption) (by omega) h4 ((show lo = hi' by omega) ▸ h5)
  | (have hm : (((lo : Int) + hi').fdiv 2) = (((lo + hi') / 2 : Nat) : Int) := by rw [Int.fdiv_eq_ediv_of_nonneg _ (by omega)]; omega
     have hx := (by assumption : xs.getD (((lo : Int) + hi').fdiv 2).toNat 0 < x)
     rw [hm, Int.toNat_natCast] at hx
     refine ⟨((lo + hi') / 2 + 1, hi'), _, _, rfl, (by dsimp only; omega), (by dsimp only; omega), h3, bis_take hs (by omega) hx, h5, _, by assumption, by assumption, ?_⟩
     exact ⟨ma, mx, HasI.of rfl (by dsimp only; omega), ⟨_, mhi⟩⟩)
  | (have hm : (((lo : Int) + hi').fdiv 2) = (((lo + hi') / 2 : Nat) : Int) := by rw [Int.fdiv_eq_ediv_of_nonneg _ (by omega)]; omega
     have hx := (by assumption : ¬ xs.getD (((lo : Int) + hi').fdiv 2).toNat 0 < x)
     rw [hm, Int.toNat_natCast] at hx
     refine ⟨(lo, (lo + hi') / 2), _, _, rfl, (by dsimp only; omega), (by dsimp only; omega), (by dsimp only; omega), h4, bis_drop hs (by dsimp only; omega) (Int.not_lt.mp hx), _, by assumption, by assumption, ?_⟩
     exact ⟨ma, mx, ⟨_, mlo⟩, HasI.of rfl (by dsimp only; omega)⟩)

end Mine
-- P2
namespace Mine
open PySem PySem.W PyProof.Rows
example : True := by
  k_with_none
  k_with "MYcall" => ((with_reducible show wpAny _ _ (call (Value.builtin "len") _ _) _ _ _); (refine' my_len ?zzk1 ?zzk2 ?zzk3 ?_; (case zzk1 => k_asm); (case zzk2 => k_mem); (case zzk3 => omega); intro _ _))
  k_with "MY subscriptTail" => ((with_reducible show wpAny _ _ (subscriptTail _ _ (Value.ref _) _) _ _ _); ((with_reducible show wpAny _ _ (subscriptTail _ _ (Value.ref _) (Value.int _ _)) _ _ _); with_unfolding_all refine' my_item ?zzk1 ?zzk2 ?zzk3 ?zzk4 ?zzk5 ?zzk6 ?_ ?zzk7; (case zzk1 => k_asm); (case zzk2 => k_mem); (case zzk3 => assumption); (case zzk4 => omega); (case zzk5 => omega); (case zzk6 => omega); (case zzk7 => with_unfolding_all rfl);  intro _))
  k_with "MY eval Name" => ((with_reducible show wpAny _ _ (eval (Expr.Name _ _) (envOf _ _ _ _ _)) _ _ _); (k_here; k_dflt (refine' ld ?zzk1 ?zzk2 ?_; (case zzk1 => k_asm); (case zzk2 => assumption); k_whole)))
  k_with "MYcall" => ((with_reducible show wpAny _ _ (call (Value.builtin "list.insert") _ _) _ _ _); (k_here; k_dflt (refine' my_insert ?zzF ?zzN ?zzU ?zzhk ?zzz ?_; (case zzF => k_asm); (case zzN => k_asm); (case zzU => k_upd); (case zzhk => omega); (case zzz => omega); k_whole); intro _ _ _; (try k_sweep)))
  k_with "MYcall" => ((with_reducible show wpAny _ _ (call (Value.builtin "dict.get") _ _) _ _ _); (k_here; k_dflt (first | refine kdg_get1 (knd := PySem.intKind _ _) (by k_asm) (by k_mem) (by assumption) (by assumption) (intKind_is _ _ _ _) none (by assumption) ?_ | refine kdg_get1 (knd := PySem.intKind _ _) (by k_asm) (by k_mem) (by assumption) (by assumption) (intKind_is _ _ _ _) (some _) (by assumption) ?_); (try dsimp only [Option.getD])))
  k_with "MY getMethod ref" => ((with_reducible show wpAny _ _ (getMethod (Value.ref _) _ _) _ _ _); (k_here; (with_reducible show wpAny _ _ (getMethod (Value.ref _) (Str.ofString "get") _) _ _ _); k_dflt (refine kdg_method (knd := PySem.intKind _ _) (by k_asm) (by k_mem) (by assumption) ?_)))
  k_with "MY setItem ref int" => ((with_reducible show wpAny _ _ (setItem (Value.ref _) (Value.int _ _) _) _ _ _); (k_here; k_dflt (refine' kda_set (knd := PySem.intKind _ _) ?zzF ?zzN ?zzU ?zzd (intKind_is _ _ _ _) ?zzz ?_; (case zzF => k_asm); (case zzN => k_asm); (case zzU => k_updF); (case zzd => assumption); (case zzz => assumption)); intro _ _ _ _ _; (try dsimp only at N'); (try k_sweep)))
  k_with "MYcall" => ((with_reducible show wpAny _ _ (call (Value.builtin "len") _ _) _ _ _); (refine' my_lenT ?zzk1 ?zzk2 ?zzk3 ?_; (case zzk1 => k_asm); (case zzk2 => k_mem); (case zzk3 => omega); intro _ _))
  k_with "MY eval Call Attribute" => ((with_reducible show wpAny _ _ (eval (Expr.Call (Expr.Attribute _ _ _) _ [] _) _) _ _ _); (k_here; (with_reducible show wpAny _ _ (eval (Expr.Call (Expr.Attribute _ _ _) _ [] _) _) _ _ _); ks_star; refine star_method ?_))
  k_with "MY callWith ref" => ((with_reducible show wpAny _ _ (callWith _ (Value.ref _) _ _ []) _ _ _); (k_here; (with_reducible show wpAny _ _ (callWith _ (Value.ref _) _ (backTo _ (starEach [Expr.Starred _ _] _)) []) _ _ _); k_dflt (refine' callWith_MS ?zzX ?zzN ?zzq ?zzk2 ?_; (case zzX => k_asm); (case zzN => k_asm); (case zzq => k_mem); (case zzk2 => k_is); k_whole)))
  k_with "MY callWith ref" => ((with_reducible show wpAny _ _ (callWith _ (Value.ref _) _ _ []) _ _ _); (k_here; (with_reducible show wpAny _ _ (callWith _ (Value.ref _) _ (backTo _ (starEach (_ :: _ :: _) _)) []) _ _ _); ks_star; k_dflt (refine' callWith_MS2 ?zzX ?zzN ?zzq ?zzk2 ?_; (case zzX => k_asm); (case zzN => k_asm); (case zzq => k_mem); (case zzk2 => k_is); k_whole)))
  k_with "MY StarOf ref" => ((with_reducible show StarOf _ _ _ (Value.ref _) _ _); (k_here; k_dflt (first | (refine' my_star ?zzF ?zzN ?zzm ?zzi ?zzz ?_; (case zzF => k_asm); (case zzN => k_asm); (case zzm => k_mem); (case zzi => assumption); (case zzz => omega); k_whole) | (refine' my_starT ?zzF ?zzN ?zzm ?zzi ?zzz ?_; (case zzF => k_asm); (case zzN => k_asm); (case zzm => k_mem); (case zzi => assumption); (case zzz => omega); k_whole)); intro _ _ _; (try k_sweep); (try dsimp only [List.nil_append, List.cons_append])))
  k_with "MY compareOp In int ref" => ((with_reducible show wpAny _ _ (compareOp CmpOp.In (Value.int _ _) (Value.ref _)) _ _ _); (k_here; k_dflt (first | (refine' kse_in (knd := PySem.intKind _ _) ?zzN ?zzU ?zzd ?zzz (intKind_is _ _ _ _) rfl ?_; (case zzN => k_asm); (case zzU => k_updF); (case zzd => assumption); (case zzz => (show _ < 4096; omega))) | (refine' kda_in (knd := PySem.intKind _ _) ?zzN ?zzm ?zzd ?zzlo (intKind_is _ _ _ _) false ?zzb ?_; (case zzN => k_asm); (case zzm => k_mem); (case zzd => assumption); (case zzlo => assumption); (case zzb => assumption))); (try dsimp only)))
  k_with "MY getMethod ref" => ((with_reducible show wpAny _ _ (getMethod (Value.ref _) _ _) _ _ _); (k_here; (with_reducible show wpAny _ _ (getMethod (Value.ref _) (Str.ofString "add") _) _ _ _); k_dflt (refine' kse_method (knd := PySem.intKind _ _) ?zzN ?zzU ?zzd ?zzz ?_; (case zzN => k_asm); (case zzU => k_updF); (case zzd => assumption); (case zzz => (show _ < 4096; omega)))))
  k_with "MYcall" => ((with_reducible show wpAny _ _ (call (Value.builtin "set.add") _ _) _ _ _); (k_here; k_dflt (refine' kse_add (knd := PySem.intKind _ _) ?zzF ?zzN ?zzU ?zzd ?zzz (intKind_is _ _ _ _) rfl ?_; (case zzF => k_asm); (case zzN => k_asm); (case zzU => k_updF); (case zzd => assumption); (case zzz => (show _ < 4096; omega))); intro _ _ _ _ _; (try dsimp only at N'); (try k_sweep)))
  k_with "MY subscriptTail" => ((with_reducible show wpAny _ _ (subscriptTail _ _ (Value.ref _) _) _ _ _); ((with_reducible show wpAny _ _ (subscriptTail _ _ (Value.ref _) (Value.int _ _)) _ _ _); with_unfolding_all refine' kda_item (knd := PySem.intKind _ _) ?zzk1 ?zzk2 ?zzk3 (intKind_is _ _ _ _) ?zzk4 ?_ ?zzk7 ?zzk8; (case zzk1 => k_asm); (case zzk2 => k_mem); (case zzk3 => assumption); (case zzk4 => assumption); (case zzk7 => with_unfolding_all rfl); (case zzk8 => (intro _; with_unfolding_all rfl))))
  k_with "MYcall" => ((with_reducible show wpAny _ _ (call (Value.builtin "iter") _ _) _ _ _); (k_here; k_dflt (refine' my_iter ?zzF ?zzN ?zzm ?_; (case zzF => k_asm); (case zzN => k_asm); (case zzm => k_mem)); intro _ _ _ _ zl; (try k_lt zl); (revert zl; intro _); (try k_sweep)))
  k_with "MY getAttr ref" => ((with_reducible show wpAny _ _ (getAttr (Value.ref _) _ _) _ _ _); (k_here; (with_reducible show wpAny _ _ (getAttr (Value.ref _) (Str.ofString "__next__") _) _ _ _); k_dflt (refine' mw_getattr ?zzF ?zzN ?zzm ?_; (case zzF => k_asm); (case zzN => k_asm); (case zzm => k_mem)); intro _ _ _ _ _ zl; (try k_lt zl); (revert zl; intro _); (try k_sweep)))
  k_with "MY truthy ref" => ((with_reducible show wpAny _ _ (truthy (Value.ref _)) _ _ _); (k_here; (with_reducible show wpAny _ _ (truthy (Value.ref _)) _ _ _); k_dflt (refine' my_truthy ?zzN ?zzm ?zzz _ ?zzb ?_; (case zzN => k_asm); (case zzm => k_mem); (case zzz => assumption); (case zzb => assumption)); intro _; (try dsimp only)))
  k_with "MY subscriptTail" => ((with_reducible show wpAny _ _ (subscriptTail _ _ (Value.ref _) _) _ _ _); ((with_reducible show wpAny _ _ (subscriptTail _ _ (Value.ref _) (Value.int (-1) _)) _ _ _); k_dflt (refine' my_last ?zzN ?zzm ?zzz ?_ ?zze; (case zzN => k_asm); (case zzm => k_mem); (case zzz => assumption); (case zze => with_unfolding_all rfl))))
  k_with "MY callWith ref" => ((with_reducible show wpAny _ _ (callWith _ (Value.ref _) _ _ []) _ _ _); (k_here; (with_reducible show wpAny _ _ (callWith _ (Value.ref _) _ (backTo _ (starEach [] _)) []) _ _ _); k_dflt (refine' callWith_W ?zzN ?zzq ?_; (case zzN => k_asm); (case zzq => k_mem)); (try dsimp only [List.nil_append])))
  k_with "MYcall" => ((with_reducible show wpAny _ _ (call (Value.builtin "list.pop") _ _) _ _ _); (k_here; k_dflt (refine' my_pop ?zzF ?zzN ?zzU ?zzz ?_; (case zzF => k_asm); (case zzN => k_asm); (case zzU => k_upd); (case zzz => omega)); intro _ _ _; (try k_sweep)))
  k_with "MY delItem ref int" => ((with_reducible show wpAny _ _ (delItem (Value.ref _) (Value.int _ _)) _ _ _); (k_here; k_dflt (refine' kob_del (knd := PySem.intKind _ _) ?zzF ?zzN ?zzU ?zzd (intKind_is _ _ _ _) ?zzl ?zzz ?_; (case zzF => k_asm); (case zzN => k_asm); (case zzU => k_updF); (case zzd => assumption); (case zzl => assumption); (case zzz => assumption)); intro _ _ _ _ _; (try dsimp only at N')))
  k_with "MY getMethod ref" => ((with_reducible show wpAny _ _ (getMethod (Value.ref _) _ _) _ _ _); (k_here; (with_reducible show wpAny _ _ (getMethod (Value.ref _) (Str.ofString "values") _) _ _ _); k_dflt (refine kdl_method (knd := PySem.intKind _ _) PySem.F.slot_dict_values PySem.F.type_dict_values (by k_asm) (by k_mem) (by assumption) ?_)))
  k_with "MYcall" => ((with_reducible show wpAny _ _ (call (Value.builtin "dict.values") _ _) _ _ _); (k_here; k_dflt (refine kdl_view_values (knd := PySem.intKind _ _) (by k_asm) (by k_asm) (by k_mem) (by assumption) (by assumption) ?_); intro _ _ _ _ zl; (try k_lt zl); (revert zl; intro _); (try k_sweep)))
  k_with "MYcall" => ((with_reducible show wpAny _ _ (call (Value.type "bool") _ _) _ _ _); (k_here; k_dflt (refine' my_bool ?zzN ?zzm ?zzz _ ?zzb ?_; (case zzN => k_asm); (case zzm => k_mem); (case zzz => assumption); (case zzb => assumption)); intro _; (try dsimp only)))
  k_with "MYcall" => ((with_reducible show wpAny _ _ (call (Value.type "tuple") _ _) _ _ _); (k_here; k_dflt (refine' my_tupleOf ?zzF ?zzN ?zzm ?zzz ?_; (case zzF => k_asm); (case zzN => k_asm); (case zzm => k_mem); (case zzz => omega)); intro _ _ _ _ zl; (revert zl; intro _); (try k_sweep)))
  k_with "MYcall" => ((with_reducible show wpAny _ _ (call (Value.builtin "list.clear") _ _) _ _ _); (k_here; k_dflt (refine' my_clear ?zzF ?zzN ?zzU ?zzz ?_; (case zzF => k_asm); (case zzN => k_asm); (case zzU => k_upd); (case zzz => omega)); intro _ _ _; (try k_sweep)))
  k_with "MY compareOp NotIn int ref" => ((with_reducible show wpAny _ _ (compareOp CmpOp.NotIn (Value.int _ _) (Value.ref _)) _ _ _); (k_here; k_dflt (refine' my_notin ?zzN ?zzm ?zzi ?_; (case zzN => k_asm); (case zzm => k_mem); (case zzi => assumption)); (try dsimp only)))
  k_with "MYcall" => ((with_reducible show wpAny _ _ (call (Value.builtin "sorted") _ _) _ _ _); (k_here; k_dflt (refine' my_sorted ?zzF ?zzN ?zzm ?zzi ?zzz ?_; (case zzF => k_asm); (case zzN => k_asm); (case zzm => k_mem); (case zzi => assumption); (case zzz => omega)); intro _ _ _ _ _ _ _ zl _ _ _; (try k_lt zl); (revert zl; intro _); (try k_sweep)))
  k_with "MY binaryOp Add ref ref" => ((with_reducible show wpAny _ _ (binaryOp Operator.Add (Value.ref _) (Value.ref _)) _ _ _); (k_here; k_dflt (refine' my_addL ?zzF ?zzN ?zzm ?zzm2 ?zzz ?_; (case zzF => k_asm); (case zzN => k_asm); (case zzm => k_mem); (case zzm2 => k_mem); (case zzz => assumption)); intro _ _ _ _ zl; (try k_lt zl); (revert zl; intro _); (try k_sweep)))
  k_with "MYcall" => ((with_reducible show wpAny _ _ (call (Value.type "list") _ _) _ _ _); (k_here; k_dflt (refine' my_copy ?zzF ?zzN ?zzm ?zzz ?_; (case zzF => k_asm); (case zzN => k_asm); (case zzm => k_mem); (case zzz => omega)); intro _ _ _ _ _ zl; (try k_lt zl); (revert zl; intro _); (try k_sweep)))
  k_with "MYcall" => ((with_reducible show wpAny _ _ (call (Value.builtin "list.pop") _ _) _ _ _); (k_here; (with_reducible show wpAny _ _ (call (Value.builtin _) [Value.ref _, Value.int _ _]) _ _ _); k_dflt (refine' my_popAt ?zzF ?zzN ?zzU ?zzi ?zzz ?_; (case zzF => k_asm); (case zzN => k_asm); (case zzU => k_upd); (case zzi => assumption); (case zzz => omega)); intro _ _ _; (try k_sweep)))
  k_with "MY compareOp NotEq ref ref" => ((with_reducible show wpAny _ _ (compareOp CmpOp.NotEq (Value.ref _) (Value.ref _)) _ _ _); (k_here; k_dflt (refine' my_ne ?zzN ?zzm ?zzm2 ?zzi ?zzj ?zzu ?_; (case zzN => k_asm); (case zzm => k_mem); (case zzm2 => k_mem); (case zzi => assumption); (case zzj => assumption); (case zzu => assumption)); (try dsimp only)))
  k_with "MINE" => ((with_reducible show wpAny _ _ (call _ _ _) _ _ _); k_extra "MYcall")
  k_with "MINE" => ((with_reducible show wpAny _ _ (subscriptTail _ _ (Value.ref _) _) _ _ _); k_extra "MY subscriptTail")
  k_with "MINE" => ((with_reducible show wpAny _ _ (eval (Expr.Name _ _) (envOf _ _ _ _ _)) _ _ _); k_extra "MY eval Name")
  k_with "MINE" => ((with_reducible show wpAny _ _ (getMethod (Value.ref _) _ _) _ _ _); k_extra "MY getMethod ref")
  k_with "MINE" => ((with_reducible show wpAny _ _ (setItem (Value.ref _) (Value.int _ _) _) _ _ _); k_extra "MY setItem ref int")
  k_with "MINE" => ((with_reducible show wpAny _ _ (eval (Expr.Call (Expr.Attribute _ _ _) _ [] _) _) _ _ _); k_extra "MY eval Call Attribute")
  k_with "MINE" => ((with_reducible show wpAny _ _ (callWith _ (Value.ref _) _ _ []) _ _ _); k_extra "MY callWith ref")
  k_with "MINE" => ((with_reducible show StarOf _ _ _ (Value.ref _) _ _); k_extra "MY StarOf ref")
  k_with "MINE" => ((with_reducible show wpAny _ _ (compareOp CmpOp.In (Value.int _ _) (Value.ref _)) _ _ _); k_extra "MY compareOp In int ref")
  k_with "MINE" => ((with_reducible show wpAny _ _ (getAttr (Value.ref _) _ _) _ _ _); k_extra "MY getAttr ref")
  k_with "MINE" => ((with_reducible show wpAny _ _ (truthy (Value.ref _)) _ _ _); k_extra "MY truthy ref")
  k_with "MINE" => ((with_reducible show wpAny _ _ (delItem (Value.ref _) (Value.int _ _)) _ _ _); k_extra "MY delItem ref int")
  k_with "MINE" => ((with_reducible show wpAny _ _ (compareOp CmpOp.NotIn (Value.int _ _) (Value.ref _)) _ _ _); k_extra "MY compareOp NotIn int ref")
  k_with "MINE" => ((with_reducible show wpAny _ _ (binaryOp Operator.Add (Value.ref _) (Value.ref _)) _ _ _); k_extra "MY binaryOp Add ref ref")
  k_with "MINE" => ((with_reducible show wpAny _ _ (compareOp CmpOp.NotEq (Value.ref _) (Value.ref _)) _ _ _); k_extra "MY compareOp NotEq ref ref")
  k_with "MINE steps" => (w_strict (repeat' (first | (k_unfold; (try dsimp only)) | ((fail_if_success (with_reducible show wpAny _ _ _ _ _ _)); refine CutG.out (by assumption) _ _ _ ?_; (try clear khb); (try clear kQb); (try clear ko); (try clear kd); (try clear kg); (try dsimp only)) | ((fail_if_success (with_reducible show wpAny _ _ _ _ _ _)); refine CutH.out (by assumption) _ _ ?_; (try clear kha); (try clear kQa)) | ((with_reducible show wpAny _ _ (execs (_ :: _) _) _ _ _); (first | (refine execs_cut1 (by assumption) ?_; intro kg kd ko _ kQb khb) | (refine execs_cut2 (by assumption) ?_; intro _) | (refine cutQ ?_; intro kQa kha))) | ((fail_if_success (with_reducible show wpAny _ _ (exec (Stmt.While _ _ _ _) _) _ _ _)); (fail_if_success (with_reducible show wpAny _ _ (eval (Expr.ListComp _ _ _ _) _) _ _ _)); (fail_if_success (with_reducible show wpAny _ _ (exec (Stmt.Try _ _ _ _ _) _) _ _ _)); (fail_if_success (with_reducible show wpAny _ _ (exec (Stmt.For _ _ _ _ _) _) _ _ _)); (first | k_extra "MINE" | walk1 | (dsimp only; walk1)))  | fail "no step")))
  k_with "MINE plain" => (w_strict (repeat' (first | (k_unfold; (try dsimp only)) | ((fail_if_success (with_reducible show wpAny _ _ _ _ _ _)); refine CutH.out (by assumption) _ _ ?_; (try clear kha); (try clear kQa)) | ((fail_if_success (with_reducible show wpAny _ _ (exec (Stmt.While _ _ _ _) _) _ _ _)); (fail_if_success (with_reducible show wpAny _ _ (eval (Expr.ListComp _ _ _ _) _) _ _ _)); (fail_if_success (with_reducible show wpAny _ _ (exec (Stmt.Try _ _ _ _ _) _) _ _ _)); (fail_if_success (with_reducible show wpAny _ _ (exec (Stmt.For _ _ _ _ _) _) _ _ _)); (first | k_extra "MINE" | walk1 | (dsimp only; walk1)))  | fail "no step")))
  trivial
theorem is_spec {w : World} {A A₀ : Around} {env : Env} {outer : List Env} {base h₀ : Heap} {L : Addr} {m mg mb : Str → Option Value} {p : Program} {loose : List Str} {mean : ExcName → Option Value} {s : Shared} {rest : List (Addr × Obj)} {R : Result → Shared → Prop}
    {a : Addr} {vs : List Value} {xs : List Int} {n : Nat} {x : Int} {tx : Tok}
    (C : Cx w A A₀ env outer base h₀ L m mg mb p loose mean s.heap ((a, W.listOf vs.toArray n) :: rest) 899) (hrest : a ∉ rest.map (·.1)) (hi : IntsAre vs xs) (hlen : xs.length ≤ 1000) (hs : xs.Pairwise (· < ·))
    (hR : ∀ h' tk k vs' n', Fr h₀ L h' m → News h₀ L h' ((a, W.listOf vs'.toArray n') :: rest) → IntsAre vs' (xs.take k ++ x :: xs.drop k) → k ≤ xs.length → (∀ y ∈ xs.take k, y < x) → (∀ y ∈ xs.drop k, x ≤ y) → R (.ok (.ret .none)) { s with heap := h', toks := tk }) :
    codeAny (model PySem.Challenge.rw_mr0333_01.row.prog w) A (.call (.ref 39) ⟨[.ref a, .int x tx], []⟩) R s := by
  obtain ⟨B, F, X, N, T, hA, hf, hke, hdep, hh⟩ := C
  revert X
  k_fill
  intro X
  have hl := hi.length
  refine' enterD (binds := [(Str.ofString "a", .ref a), (Str.ofString "x", .int x tx), (Str.ofString "lo", .int 0 210), (Str.ofString "hi", .none), (Str.ofString "key", .none)]) B F X N T hA hf hke (by k_is) (by k_is) (by show A.depth < 1000; omega) (kp_binds (by k_in) (fun _ => rfl)) (locs rfl) ?_ rfl rfl rfl (by decide)
  intro g' L' h' FG' F' N' B' X' T' hA'
  walk_at "MINE steps"
  refine wpAny_call (bl_spec ⟨B', F', X', N', T', hA', rfl, rfl, by show A.depth + 1 ≤ 900; omega, hh⟩ (List.Mem.head _) hi hlen hs (.inr ⟨_, rfl⟩) ?_)
  intro h2 tk2 t2 k F2 N2 hk h4 h5
  clear F' N'
  walk_at "MINE steps"
  exact hR _ _ k _ _ (by assumption) (by assumption) (IntsAre.insAt hi) hk h4 h5

end Mine
-- P4
namespace Mine
open PySem PySem.W PyProof.Rows
example : True := by
  k_with_none
  k_with "MYcall" => ((with_reducible show wpAny _ _ (call (Value.builtin "len") _ _) _ _ _); (refine' my_len ?zzk1 ?zzk2 ?zzk3 ?_; (case zzk1 => k_asm); (case zzk2 => k_mem); (case zzk3 => omega); intro _ _))
  k_with "MY subscriptTail" => ((with_reducible show wpAny _ _ (subscriptTail _ _ (Value.ref _) _) _ _ _); ((with_reducible show wpAny _ _ (subscriptTail _ _ (Value.ref _) (Value.int _ _)) _ _ _); with_unfolding_all refine' my_item ?zzk1 ?zzk2 ?zzk3 ?zzk4 ?zzk5 ?zzk6 ?_ ?zzk7; (case zzk1 => k_asm); (case zzk2 => k_mem); (case zzk3 => assumption); (case zzk4 => omega); (case zzk5 => omega); (case zzk6 => omega); (case zzk7 => with_unfolding_all rfl);  intro _))
  k_with "MY eval Name" => ((with_reducible show wpAny _ _ (eval (Expr.Name _ _) (envOf _ _ _ _ _)) _ _ _); (k_here; k_dflt (refine' ld ?zzk1 ?zzk2 ?_; (case zzk1 => k_asm); (case zzk2 => assumption); k_whole)))
  k_with "MYcall" => ((with_reducible show wpAny _ _ (call (Value.builtin "list.insert") _ _) _ _ _); (k_here; k_dflt (refine' my_insert ?zzF ?zzN ?zzU ?zzhk ?zzz ?_; (case zzF => k_asm); (case zzN => k_asm); (case zzU => k_upd); (case zzhk => omega); (case zzz => omega); k_whole); intro _ _ _; (try k_sweep)))
  k_with "MYcall" => ((with_reducible show wpAny _ _ (call (Value.builtin "dict.get") _ _) _ _ _); (k_here; k_dflt (first | refine kdg_get1 (knd := PySem.intKind _ _) (by k_asm) (by k_mem) (by assumption) (by assumption) (intKind_is _ _ _ _) none (by assumption) ?_ | refine kdg_get1 (knd := PySem.intKind _ _) (by k_asm) (by k_mem) (by assumption) (by assumption) (intKind_is _ _ _ _) (some _) (by assumption) ?_); (try dsimp only [Option.getD])))
  k_with "MY getMethod ref" => ((with_reducible show wpAny _ _ (getMethod (Value.ref _) _ _) _ _ _); (k_here; (with_reducible show wpAny _ _ (getMethod (Value.ref _) (Str.ofString "get") _) _ _ _); k_dflt (refine kdg_method (knd := PySem.intKind _ _) (by k_asm) (by k_mem) (by assumption) ?_)))
  k_with "MY setItem ref int" => ((with_reducible show wpAny _ _ (setItem (Value.ref _) (Value.int _ _) _) _ _ _); (k_here; k_dflt (refine' kda_set (knd := PySem.intKind _ _) ?zzF ?zzN ?zzU ?zzd (intKind_is _ _ _ _) ?zzz ?_; (case zzF => k_asm); (case zzN => k_asm); (case zzU => k_updF); (case zzd => assumption); (case zzz => assumption)); intro _ _ _ _ _; (try dsimp only at N'); (try k_sweep)))
  k_with "MYcall" => ((with_reducible show wpAny _ _ (call (Value.builtin "len") _ _) _ _ _); (refine' my_lenT ?zzk1 ?zzk2 ?zzk3 ?_; (case zzk1 => k_asm); (case zzk2 => k_mem); (case zzk3 => omega); intro _ _))
  k_with "MY eval Call Attribute" => ((with_reducible show wpAny _ _ (eval (Expr.Call (Expr.Attribute _ _ _) _ [] _) _) _ _ _); (k_here; (with_reducible show wpAny _ _ (eval (Expr.Call (Expr.Attribute _ _ _) _ [] _) _) _ _ _); ks_star; refine star_method ?_))
  k_with "MY callWith ref" => ((with_reducible show wpAny _ _ (callWith _ (Value.ref _) _ _ []) _ _ _); (k_here; (with_reducible show wpAny _ _ (callWith _ (Value.ref _) _ (backTo _ (starEach [Expr.Starred _ _] _)) []) _ _ _); k_dflt (refine' callWith_MS ?zzX ?zzN ?zzq ?zzk2 ?_; (case zzX => k_asm); (case zzN => k_asm); (case zzq => k_mem); (case zzk2 => k_is); k_whole)))
  k_with "MY callWith ref" => ((with_reducible show wpAny _ _ (callWith _ (Value.ref _) _ _ []) _ _ _); (k_here; (with_reducible show wpAny _ _ (callWith _ (Value.ref _) _ (backTo _ (starEach (_ :: _ :: _) _)) []) _ _ _); ks_star; k_dflt (refine' callWith_MS2 ?zzX ?zzN ?zzq ?zzk2 ?_; (case zzX => k_asm); (case zzN => k_asm); (case zzq => k_mem); (case zzk2 => k_is); k_whole)))
  k_with "MY StarOf ref" => ((with_reducible show StarOf _ _ _ (Value.ref _) _ _); (k_here; k_dflt (first | (refine' my_star ?zzF ?zzN ?zzm ?zzi ?zzz ?_; (case zzF => k_asm); (case zzN => k_asm); (case zzm => k_mem); (case zzi => assumption); (case zzz => omega); k_whole) | (refine' my_starT ?zzF ?zzN ?zzm ?zzi ?zzz ?_; (case zzF => k_asm); (case zzN => k_asm); (case zzm => k_mem); (case zzi => assumption); (case zzz => omega); k_whole)); intro _ _ _; (try k_sweep); (try dsimp only [List.nil_append, List.cons_append])))
  k_with "MY compareOp In int ref" => ((with_reducible show wpAny _ _ (compareOp CmpOp.In (Value.int _ _) (Value.ref _)) _ _ _); (k_here; k_dflt (first | (refine' kse_in (knd := PySem.intKind _ _) ?zzN ?zzU ?zzd ?zzz (intKind_is _ _ _ _) rfl ?_; (case zzN => k_asm); (case zzU => k_updF); (case zzd => assumption); (case zzz => (show _ < 4096; omega))) | (refine' kda_in (knd := PySem.intKind _ _) ?zzN ?zzm ?zzd ?zzlo (intKind_is _ _ _ _) false ?zzb ?_; (case zzN => k_asm); (case zzm => k_mem); (case zzd => assumption); (case zzlo => assumption); (case zzb => assumption))); (try dsimp only)))
  k_with "MY getMethod ref" => ((with_reducible show wpAny _ _ (getMethod (Value.ref _) _ _) _ _ _); (k_here; (with_reducible show wpAny _ _ (getMethod (Value.ref _) (Str.ofString "add") _) _ _ _); k_dflt (refine' kse_method (knd := PySem.intKind _ _) ?zzN ?zzU ?zzd ?zzz ?_; (case zzN => k_asm); (case zzU => k_updF); (case zzd => assumption); (case zzz => (show _ < 4096; omega)))))
  k_with "MYcall" => ((with_reducible show wpAny _ _ (call (Value.builtin "set.add") _ _) _ _ _); (k_here; k_dflt (refine' kse_add (knd := PySem.intKind _ _) ?zzF ?zzN ?zzU ?zzd ?zzz (intKind_is _ _ _ _) rfl ?_; (case zzF => k_asm); (case zzN => k_asm); (case zzU => k_updF); (case zzd => assumption); (case zzz => (show _ < 4096; omega))); intro _ _ _ _ _; (try dsimp only at N'); (try k_sweep)))
  k_with "MY subscriptTail" => ((with_reducible show wpAny _ _ (subscriptTail _ _ (Value.ref _) _) _ _ _); ((with_reducible show wpAny _ _ (subscriptTail _ _ (Value.ref _) (Value.int _ _)) _ _ _); with_unfolding_all refine' kda_item (knd := PySem.intKind _ _) ?zzk1 ?zzk2 ?zzk3 (intKind_is _ _ _ _) ?zzk4 ?_ ?zzk7 ?zzk8; (case zzk1 => k_asm); (case zzk2 => k_mem); (case zzk3 => assumption); (case zzk4 => assumption); (case zzk7 => with_unfolding_all rfl); (case zzk8 => (intro _; with_unfolding_all rfl))))
  k_with "MYcall" => ((with_reducible show wpAny _ _ (call (Value.builtin "iter") _ _) _ _ _); (k_here; k_dflt (refine' my_iter ?zzF ?zzN ?zzm ?_; (case zzF => k_asm); (case zzN => k_asm); (case zzm => k_mem)); intro _ _ _ _ zl; (try k_lt zl); (revert zl; intro _); (try k_sweep)))
  k_with "MY getAttr ref" => ((with_reducible show wpAny _ _ (getAttr (Value.ref _) _ _) _ _ _); (k_here; (with_reducible show wpAny _ _ (getAttr (Value.ref _) (Str.ofString "__next__") _) _ _ _); k_dflt (refine' mw_getattr ?zzF ?zzN ?zzm ?_; (case zzF => k_asm); (case zzN => k_asm); (case zzm => k_mem)); intro _ _ _ _ _ zl; (try k_lt zl); (revert zl; intro _); (try k_sweep)))
  k_with "MY truthy ref" => ((with_reducible show wpAny _ _ (truthy (Value.ref _)) _ _ _); (k_here; (with_reducible show wpAny _ _ (truthy (Value.ref _)) _ _ _); k_dflt (refine' my_truthy ?zzN ?zzm ?zzz _ ?zzb ?_; (case zzN => k_asm); (case zzm => k_mem); (case zzz => assumption); (case zzb => assumption)); intro _; (try dsimp only)))
  k_with "MY subscriptTail" => ((with_reducible show wpAny _ _ (subscriptTail _ _ (Value.ref _) _) _ _ _); ((with_reducible show wpAny _ _ (subscriptTail _ _ (Value.ref _) (Value.int (-1) _)) _ _ _); k_dflt (refine' my_last ?zzN ?zzm ?zzz ?_ ?zze; (case zzN => k_asm); (case zzm => k_mem); (case zzz => assumption); (case zze => with_unfolding_all rfl))))
  k_with "MY callWith ref" => ((with_reducible show wpAny _ _ (callWith _ (Value.ref _) _ _ []) _ _ _); (k_here; (with_reducible show wpAny _ _ (callWith _ (Value.ref _) _ (backTo _ (starEach [] _)) []) _ _ _); k_dflt (refine' callWith_W ?zzN ?zzq ?_; (case zzN => k_asm); (case zzq => k_mem)); (try dsimp only [List.nil_append])))
  k_with "MYcall" => ((with_reducible show wpAny _ _ (call (Value.builtin "list.pop") _ _) _ _ _); (k_here; k_dflt (refine' my_pop ?zzF ?zzN ?zzU ?zzz ?_; (case zzF => k_asm); (case zzN => k_asm); (case zzU => k_upd); (case zzz => omega)); intro _ _ _; (try k_sweep)))
  k_with "MY delItem ref int" => ((with_reducible show wpAny _ _ (delItem (Value.ref _) (Value.int _ _)) _ _ _); (k_here; k_dflt (refine' kob_del (knd := PySem.intKind _ _) ?zzF ?zzN ?zzU ?zzd (intKind_is _ _ _ _) ?zzl ?zzz ?_; (case zzF => k_asm); (case zzN => k_asm); (case zzU => k_updF); (case zzd => assumption); (case zzl => assumption); (case zzz => assumption)); intro _ _ _ _ _; (try dsimp only at N')))
  k_with "MY getMethod ref" => ((with_reducible show wpAny _ _ (getMethod (Value.ref _) _ _) _ _ _); (k_here; (with_reducible show wpAny _ _ (getMethod (Value.ref _) (Str.ofString "values") _) _ _ _); k_dflt (refine kdl_method (knd := PySem.intKind _ _) PySem.F.slot_dict_values PySem.F.type_dict_values (by k_asm) (by k_mem) (by assumption) ?_)))
  k_with "MYcall" => ((with_reducible show wpAny _ _ (call (Value.builtin "dict.values") _ _) _ _ _); (k_here; k_dflt (refine kdl_view_values (knd := PySem.intKind _ _) (by k_asm) (by k_asm) (by k_mem) (by assumption) (by assumption) ?_); intro _ _ _ _ zl; (try k_lt zl); (revert zl; intro _); (try k_sweep)))
  k_with "MYcall" => ((with_reducible show wpAny _ _ (call (Value.type "bool") _ _) _ _ _); (k_here; k_dflt (refine' my_bool ?zzN ?zzm ?zzz _ ?zzb ?_; (case zzN => k_asm); (case zzm => k_mem); (case zzz => assumption); (case zzb => assumption)); intro _; (try dsimp only)))
  k_with "MYcall" => ((with_reducible show wpAny _ _ (call (Value.type "tuple") _ _) _ _ _); (k_here; k_dflt (refine' my_tupleOf ?zzF ?zzN ?zzm ?zzz ?_; (case zzF => k_asm); (case zzN => k_asm); (case zzm => k_mem); (case zzz => omega)); intro _ _ _ _ zl; (revert zl; intro _); (try k_sweep)))
  k_with "MYcall" => ((with_reducible show wpAny _ _ (call (Value.builtin "list.clear") _ _) _ _ _); (k_here; k_dflt (refine' my_clear ?zzF ?zzN ?zzU ?zzz ?_; (case zzF => k_asm); (case zzN => k_asm); (case zzU => k_upd); (case zzz => omega)); intro _ _ _; (try k_sweep)))
  k_with "MY compareOp NotIn int ref" => ((with_reducible show wpAny _ _ (compareOp CmpOp.NotIn (Value.int _ _) (Value.ref _)) _ _ _); (k_here; k_dflt (refine' my_notin ?zzN ?zzm ?zzi ?_; (case zzN => k_asm); (case zzm => k_mem); (case zzi => assumption)); (try dsimp only)))
  k_with "MYcall" => ((with_reducible show wpAny _ _ (call (Value.builtin "sorted") _ _) _ _ _); (k_here; k_dflt (refine' my_sorted ?zzF ?zzN ?zzm ?zzi ?zzz ?_; (case zzF => k_asm); (case zzN => k_asm); (case zzm => k_mem); (case zzi => assumption); (case zzz => omega)); intro _ _ _ _ _ _ _ zl _ _ _; (try k_lt zl); (revert zl; intro _); (try k_sweep)))
  k_with "MY binaryOp Add ref ref" => ((with_reducible show wpAny _ _ (binaryOp Operator.Add (Value.ref _) (Value.ref _)) _ _ _); (k_here; k_dflt (refine' my_addL ?zzF ?zzN ?zzm ?zzm2 ?zzz ?_; (case zzF => k_asm); (case zzN => k_asm); (case zzm => k_mem); (case zzm2 => k_mem); (case zzz => assumption)); intro _ _ _ _ zl; (try k_lt zl); (revert zl; intro _); (try k_sweep)))
  k_with "MYcall" => ((with_reducible show wpAny _ _ (call (Value.type "list") _ _) _ _ _); (k_here; k_dflt (refine' my_copy ?zzF ?zzN ?zzm ?zzz ?_; (case zzF => k_asm); (case zzN => k_asm); (case zzm => k_mem); (case zzz => omega)); intro _ _ _ _ _ zl; (try k_lt zl); (revert zl; intro _); (try k_sweep)))
  k_with "MYcall" => ((with_reducible show wpAny _ _ (call (Value.builtin "list.pop") _ _) _ _ _); (k_here; (with_reducible show wpAny _ _ (call (Value.builtin _) [Value.ref _, Value.int _ _]) _ _ _); k_dflt (refine' my_popAt ?zzF ?zzN ?zzU ?zzi ?zzz ?_; (case zzF => k_asm); (case zzN => k_asm); (case zzU => k_upd); (case zzi => assumption); (case zzz => omega)); intro _ _ _; (try k_sweep)))
  k_with "MY compareOp NotEq ref ref" => ((with_reducible show wpAny _ _ (compareOp CmpOp.NotEq (Value.ref _) (Value.ref _)) _ _ _); (k_here; k_dflt (refine' my_ne ?zzN ?zzm ?zzm2 ?zzi ?zzj ?zzu ?_; (case zzN => k_asm); (case zzm => k_mem); (case zzm2 => k_mem); (case zzi => assumption); (case zzj => assumption); (case zzu => assumption)); (try dsimp only)))
  k_with "MINE" => ((with_reducible show wpAny _ _ (call _ _ _) _ _ _); k_extra "MYcall")
  k_with "MINE" => ((with_reducible show wpAny _ _ (subscriptTail _ _ (Value.ref _) _) _ _ _); k_extra "MY subscriptTail")
  k_with "MINE" => ((with_reducible show wpAny _ _ (eval (Expr.Name _ _) (envOf _ _ _ _ _)) _ _ _); k_extra "MY eval Name")
  k_with "MINE" => ((with_reducible show wpAny _ _ (getMethod (Value.ref _) _ _) _ _ _); k_extra "MY getMethod ref")
  k_with "MINE" => ((with_reducible show wpAny _ _ (setItem (Value.ref _) (Value.int _ _) _) _ _ _); k_extra "MY setItem ref int")
  k_with "MINE" => ((with_reducible show wpAny _ _ (eval (Expr.Call (Expr.Attribute _ _ _) _ [] _) _) _ _ _); k_extra "MY eval Call Attribute")
  k_with "MINE" => ((with_reducible show wpAny _ _ (callWith _ (Value.ref _) _ _ []) _ _ _); k_extra "MY callWith ref")
  k_with "MINE" => ((with_reducible show StarOf _ _ _ (Value.ref _) _ _); k_extra "MY StarOf ref")
  k_with "MINE" => ((with_reducible show wpAny _ _ (compareOp CmpOp.In (Value.int _ _) (Value.ref _)) _ _ _); k_extra "MY compareOp In int ref")
  k_with "MINE" => ((with_reducible show wpAny _ _ (getAttr (Value.ref _) _ _) _ _ _); k_extra "MY getAttr ref")
  k_with "MINE" => ((with_reducible show wpAny _ _ (truthy (Value.ref _)) _ _ _); k_extra "MY truthy ref")
  k_with "MINE" => ((with_reducible show wpAny _ _ (delItem (Value.ref _) (Value.int _ _)) _ _ _); k_extra "MY delItem ref int")
  k_with "MINE" => ((with_reducible show wpAny _ _ (compareOp CmpOp.NotIn (Value.int _ _) (Value.ref _)) _ _ _); k_extra "MY compareOp NotIn int ref")
  k_with "MINE" => ((with_reducible show wpAny _ _ (binaryOp Operator.Add (Value.ref _) (Value.ref _)) _ _ _); k_extra "MY binaryOp Add ref ref")
  k_with "MINE" => ((with_reducible show wpAny _ _ (compareOp CmpOp.NotEq (Value.ref _) (Value.ref _)) _ _ _); k_extra "MY compareOp NotEq ref ref")
  k_with "MINE steps" => (w_strict (repeat' (first | (k_unfold; (try dsimp only)) | ((fail_if_success (with_reducible show wpAny _ _ _ _ _ _)); refine CutG.out (by assumption) _ _ _ ?_; (try clear khb); (try clear kQb); (try clear ko); (try clear kd); (try clear kg); (try dsimp only)) | ((fail_if_success (with_reducible show wpAny _ _ _ _ _ _)); refine CutH.out (by assumption) _ _ ?_; (try clear kha); (try clear kQa)) | ((with_reducible show wpAny _ _ (execs (_ :: _) _) _ _ _); (first | (refine execs_cut1 (by assumption) ?_; intro kg kd ko _ kQb khb) | (refine execs_cut2 (by assumption) ?_; intro _) | (refine cutQ ?_; intro kQa kha))) | ((fail_if_success (with_reducible show wpAny _ _ (exec (Stmt.While _ _ _ _) _) _ _ _)); (fail_if_success (with_reducible show wpAny _ _ (eval (Expr.ListComp _ _ _ _) _) _ _ _)); (fail_if_success (with_reducible show wpAny _ _ (exec (Stmt.Try _ _ _ _ _) _) _ _ _)); (fail_if_success (with_reducible show wpAny _ _ (exec (Stmt.For _ _ _ _ _) _) _ _ _)); (first | k_extra "MINE" | walk1 | (dsimp only; walk1)))  | fail "no step")))
  k_with "MINE plain" => (w_strict (repeat' (first | (k_unfold; (try dsimp only)) | ((fail_if_success (with_reducible show wpAny _ _ _ _ _ _)); refine CutH.out (by assumption) _ _ ?_; (try clear kha); (try clear kQa)) | ((fail_if_success (with_reducible show wpAny _ _ (exec (Stmt.While _ _ _ _) _) _ _ _)); (fail_if_success (with_reducible show wpAny _ _ (eval (Expr.ListComp _ _ _ _) _) _ _ _)); (fail_if_success (with_reducible show wpAny _ _ (exec (Stmt.Try _ _ _ _ _) _) _ _ _)); (fail_if_success (with_reducible show wpAny _ _ (exec (Stmt.For _ _ _ _ _) _) _ _ _)); (first | k_extra "MINE" | walk1 | (dsimp only; walk1)))  | fail "no step")))
  trivial
theorem ni_spec {w : World} {A A₀ : Around} {env : Env} {outer : List Env} {base h₀ : Heap} {L : Addr} {m mg mb : Str → Option Value} {p : Program} {loose : List Str} {mean : ExcName → Option Value} {s : Shared} {news : List (Addr × Obj)} {Q : Value → Shared → Prop} {E : Value → Shared → Prop} {v : Int} {tv : Tok}
    (C : Cx w A A₀ env outer base h₀ L m mg mb p loose mean s.heap news 899)
    (hR : ∀ h' tk x dx sx nt sn, Fr h₀ L h' m → News h₀ L h' ((x, infoO dx sx 0 nt v tv) :: (dx, dictOf [] 0) :: (sx, W.listOf ([] : List Value).toArray sn) :: news) → (∀ p ∈ news, p.1 < dx) → dx < x → x < sx →
      Q (.ref x) { s with heap := h', toks := tk }) :
    wpAny (model PySem.Challenge.rw_mr0333_01.row.prog w) A (call (.ref 67) [.int v tv] []) Q E s := by
  obtain ⟨B, F, X, N, T, hA, hf, hke, hdep, hh⟩ := C
  revert X
  k_fill
  intro X
  refine' call_cls (fI := 63) F X N (by k_is) (by k_is) (by k_is) ?_
  intro x dx h2 F2 N2 l1 l2
  refine' enterD (binds := [(Str.ofString "self", .ref x), (Str.ofString "node", .int v tv)]) (A := A.under (.builtin "type.__call__" ⟨[.ref 67, .int v tv], []⟩)) B F2 X N2 T hA hf hke (by k_is) (by k_is) (by show A.depth + 1 < 1000; omega) (kp_binds (by k_in) (fun _ => rfl)) (locs rfl) ?_ rfl rfl rfl (by decide)
  intro g' L' h' FG' F' N' B' X' T' hA'
  have l3 : ∀ p ∈ news, p.1 ≠ x := fun p hp => Nat.ne_of_lt (Nat.lt_trans (l1 p hp) l2)
  have l4 := ltN l2
  walk_at "MINE steps"
  rename_i N4 _ _
  exact hR _ _ x dx _ _ _ (by assumption) (news_rot3 N4) l1 l2 (ltN (by omega))

end Mine
-- P3
namespace Mine
open PySem PySem.W PyProof.Rows
example : True := by
  k_with_none
  k_with "MYcall" => ((with_reducible show wpAny _ _ (call (Value.builtin "len") _ _) _ _ _); (refine' my_len ?zzk1 ?zzk2 ?zzk3 ?_; (case zzk1 => k_asm); (case zzk2 => k_mem); (case zzk3 => omega); intro _ _))
  k_with "MY subscriptTail" => ((with_reducible show wpAny _ _ (subscriptTail _ _ (Value.ref _) _) _ _ _); ((with_reducible show wpAny _ _ (subscriptTail _ _ (Value.ref _) (Value.int _ _)) _ _ _); with_unfolding_all refine' my_item ?zzk1 ?zzk2 ?zzk3 ?zzk4 ?zzk5 ?zzk6 ?_ ?zzk7; (case zzk1 => k_asm); (case zzk2 => k_mem); (case zzk3 => assumption); (case zzk4 => omega); (case zzk5 => omega); (case zzk6 => omega); (case zzk7 => with_unfolding_all rfl);  intro _))
  k_with "MY eval Name" => ((with_reducible show wpAny _ _ (eval (Expr.Name _ _) (envOf _ _ _ _ _)) _ _ _); (k_here; k_dflt (refine' ld ?zzk1 ?zzk2 ?_; (case zzk1 => k_asm); (case zzk2 => assumption); k_whole)))
  k_with "MYcall" => ((with_reducible show wpAny _ _ (call (Value.builtin "list.insert") _ _) _ _ _); (k_here; k_dflt (refine' my_insert ?zzF ?zzN ?zzU ?zzhk ?zzz ?_; (case zzF => k_asm); (case zzN => k_asm); (case zzU => k_upd); (case zzhk => omega); (case zzz => omega); k_whole); intro _ _ _; (try k_sweep)))
  k_with "MYcall" => ((with_reducible show wpAny _ _ (call (Value.builtin "dict.get") _ _) _ _ _); (k_here; k_dflt (first | refine kdg_get1 (knd := PySem.intKind _ _) (by k_asm) (by k_mem) (by assumption) (by assumption) (intKind_is _ _ _ _) none (by assumption) ?_ | refine kdg_get1 (knd := PySem.intKind _ _) (by k_asm) (by k_mem) (by assumption) (by assumption) (intKind_is _ _ _ _) (some _) (by assumption) ?_); (try dsimp only [Option.getD])))
  k_with "MY getMethod ref" => ((with_reducible show wpAny _ _ (getMethod (Value.ref _) _ _) _ _ _); (k_here; (with_reducible show wpAny _ _ (getMethod (Value.ref _) (Str.ofString "get") _) _ _ _); k_dflt (refine kdg_method (knd := PySem.intKind _ _) (by k_asm) (by k_mem) (by assumption) ?_)))
  k_with "MY setItem ref int" => ((with_reducible show wpAny _ _ (setItem (Value.ref _) (Value.int _ _) _) _ _ _); (k_here; k_dflt (refine' kda_set (knd := PySem.intKind _ _) ?zzF ?zzN ?zzU ?zzd (intKind_is _ _ _ _) ?zzz ?_; (case zzF => k_asm); (case zzN => k_asm); (case zzU => k_updF); (case zzd => assumption); (case zzz => assumption)); intro _ _ _ _ _; (try dsimp only at N'); (try k_sweep)))
  k_with "MYcall" => ((with_reducible show wpAny _ _ (call (Value.builtin "len") _ _) _ _ _); (refine' my_lenT ?zzk1 ?zzk2 ?zzk3 ?_; (case zzk1 => k_asm); (case zzk2 => k_mem); (case zzk3 => omega); intro _ _))
  k_with "MY eval Call Attribute" => ((with_reducible show wpAny _ _ (eval (Expr.Call (Expr.Attribute _ _ _) _ [] _) _) _ _ _); (k_here; (with_reducible show wpAny _ _ (eval (Expr.Call (Expr.Attribute _ _ _) _ [] _) _) _ _ _); ks_star; refine star_method ?_))
  k_with "MY callWith ref" => ((with_reducible show wpAny _ _ (callWith _ (Value.ref _) _ _ []) _ _ _); (k_here; (with_reducible show wpAny _ _ (callWith _ (Value.ref _) _ (backTo _ (starEach [Expr.Starred _ _] _)) []) _ _ _); k_dflt (refine' callWith_MS ?zzX ?zzN ?zzq ?zzk2 ?_; (case zzX => k_asm); (case zzN => k_asm); (case zzq => k_mem); (case zzk2 => k_is); k_whole)))
  k_with "MY callWith ref" => ((with_reducible show wpAny _ _ (callWith _ (Value.ref _) _ _ []) _ _ _); (k_here; (with_reducible show wpAny _ _ (callWith _ (Value.ref _) _ (backTo _ (starEach (_ :: _ :: _) _)) []) _ _ _); ks_star; k_dflt (refine' callWith_MS2 ?zzX ?zzN ?zzq ?zzk2 ?_; (case zzX => k_asm); (case zzN => k_asm); (case zzq => k_mem); (case zzk2 => k_is); k_whole)))
  k_with "MY StarOf ref" => ((with_reducible show StarOf _ _ _ (Value.ref _) _ _); (k_here; k_dflt (first | (refine' my_star ?zzF ?zzN ?zzm ?zzi ?zzz ?_; (case zzF => k_asm); (case zzN => k_asm); (case zzm => k_mem); (case zzi => assumption); (case zzz => omega); k_whole) | (refine' my_starT ?zzF ?zzN ?zzm ?zzi ?zzz ?_; (case zzF => k_asm); (case zzN => k_asm); (case zzm => k_mem); (case zzi => assumption); (case zzz => omega); k_whole)); intro _ _ _; (try k_sweep); (try dsimp only [List.nil_append, List.cons_append])))
  k_with "MY compareOp In int ref" => ((with_reducible show wpAny _ _ (compareOp CmpOp.In (Value.int _ _) (Value.ref _)) _ _ _); (k_here; k_dflt (first | (refine' kse_in (knd := PySem.intKind _ _) ?zzN ?zzU ?zzd ?zzz (intKind_is _ _ _ _) rfl ?_; (case zzN => k_asm); (case zzU => k_updF); (case zzd => assumption); (case zzz => (show _ < 4096; omega))) | (refine' kda_in (knd := PySem.intKind _ _) ?zzN ?zzm ?zzd ?zzlo (intKind_is _ _ _ _) false ?zzb ?_; (case zzN => k_asm); (case zzm => k_mem); (case zzd => assumption); (case zzlo => assumption); (case zzb => assumption))); (try dsimp only)))
  k_with "MY getMethod ref" => ((with_reducible show wpAny _ _ (getMethod (Value.ref _) _ _) _ _ _); (k_here; (with_reducible show wpAny _ _ (getMethod (Value.ref _) (Str.ofString "add") _) _ _ _); k_dflt (refine' kse_method (knd := PySem.intKind _ _) ?zzN ?zzU ?zzd ?zzz ?_; (case zzN => k_asm); (case zzU => k_updF); (case zzd => assumption); (case zzz => (show _ < 4096; omega)))))
  k_with "MYcall" => ((with_reducible show wpAny _ _ (call (Value.builtin "set.add") _ _) _ _ _); (k_here; k_dflt (refine' kse_add (knd := PySem.intKind _ _) ?zzF ?zzN ?zzU ?zzd ?zzz (intKind_is _ _ _ _) rfl ?_; (case zzF => k_asm); (case zzN => k_asm); (case zzU => k_updF); (case zzd => assumption); (case zzz => (show _ < 4096; omega))); intro _ _ _ _ _; (try dsimp only at N'); (try k_sweep)))
  k_with "MY subscriptTail" => ((with_reducible show wpAny _ _ (subscriptTail _ _ (Value.ref _) _) _ _ _); ((with_reducible show wpAny _ _ (subscriptTail _ _ (Value.ref _) (Value.int _ _)) _ _ _); with_unfolding_all refine' kda_item (knd := PySem.intKind _ _) ?zzk1 ?zzk2 ?zzk3 (intKind_is _ _ _ _) ?zzk4 ?_ ?zzk7 ?zzk8; (case zzk1 => k_asm); (case zzk2 => k_mem); (case zzk3 => assumption); (case zzk4 => assumption); (case zzk7 => with_unfolding_all rfl); (case zzk8 => (intro _; with_unfolding_all rfl))))
  k_with "MYcall" => ((with_reducible show wpAny _ _ (call (Value.builtin "iter") _ _) _ _ _); (k_here; k_dflt (refine' my_iter ?zzF ?zzN ?zzm ?_; (case zzF => k_asm); (case zzN => k_asm); (case zzm => k_mem)); intro _ _ _ _ zl; (try k_lt zl); (revert zl; intro _); (try k_sweep)))
  k_with "MY getAttr ref" => ((with_reducible show wpAny _ _ (getAttr (Value.ref _) _ _) _ _ _); (k_here; (with_reducible show wpAny _ _ (getAttr (Value.ref _) (Str.ofString "__next__") _) _ _ _); k_dflt (refine' mw_getattr ?zzF ?zzN ?zzm ?_; (case zzF => k_asm); (case zzN => k_asm); (case zzm => k_mem)); intro _ _ _ _ _ zl; (try k_lt zl); (revert zl; intro _); (try k_sweep)))
  k_with "MY truthy ref" => ((with_reducible show wpAny _ _ (truthy (Value.ref _)) _ _ _); (k_here; (with_reducible show wpAny _ _ (truthy (Value.ref _)) _ _ _); k_dflt (refine' my_truthy ?zzN ?zzm ?zzz _ ?zzb ?_; (case zzN => k_asm); (case zzm => k_mem); (case zzz => assumption); (case zzb => assumption)); intro _; (try dsimp only)))
  k_with "MY subscriptTail" => ((with_reducible show wpAny _ _ (subscriptTail _ _ (Value.ref _) _) _ _ _); ((with_reducible show wpAny _ _ (subscriptTail _ _ (Value.ref _) (Value.int (-1) _)) _ _ _); k_dflt (refine' my_last ?zzN ?zzm ?zzz ?_ ?zze; (case zzN => k_asm); (case zzm => k_mem); (case zzz => assumption); (case zze => with_unfolding_all rfl))))
  k_with "MY callWith ref" => ((with_reducible show wpAny _ _ (callWith _ (Value.ref _) _ _ []) _ _ _); (k_here; (with_reducible show wpAny _ _ (callWith _ (Value.ref _) _ (backTo _ (starEach [] _)) []) _ _ _); k_dflt (refine' callWith_W ?zzN ?zzq ?_; (case zzN => k_asm); (case zzq => k_mem)); (try dsimp only [List.nil_append])))
  k_with "MYcall" => ((with_reducible show wpAny _ _ (call (Value.builtin "list.pop") _ _) _ _ _); (k_here; k_dflt (refine' my_pop ?zzF ?zzN ?zzU ?zzz ?_; (case zzF => k_asm); (case zzN => k_asm); (case zzU => k_upd); (case zzz => omega)); intro _ _ _; (try k_sweep)))
  k_with "MY delItem ref int" => ((with_reducible show wpAny _ _ (delItem (Value.ref _) (Value.int _ _)) _ _ _); (k_here; k_dflt (refine' kob_del (knd := PySem.intKind _ _) ?zzF ?zzN ?zzU ?zzd (intKind_is _ _ _ _) ?zzl ?zzz ?_; (case zzF => k_asm); (case zzN => k_asm); (case zzU => k_updF); (case zzd => assumption); (case zzl => assumption); (case zzz => assumption)); intro _ _ _ _ _; (try dsimp only at N')))
  k_with "MY getMethod ref" => ((with_reducible show wpAny _ _ (getMethod (Value.ref _) _ _) _ _ _); (k_here; (with_reducible show wpAny _ _ (getMethod (Value.ref _) (Str.ofString "values") _) _ _ _); k_dflt (refine kdl_method (knd := PySem.intKind _ _) PySem.F.slot_dict_values PySem.F.type_dict_values (by k_asm) (by k_mem) (by assumption) ?_)))
  k_with "MYcall" => ((with_reducible show wpAny _ _ (call (Value.builtin "dict.values") _ _) _ _ _); (k_here; k_dflt (refine kdl_view_values (knd := PySem.intKind _ _) (by k_asm) (by k_asm) (by k_mem) (by assumption) (by assumption) ?_); intro _ _ _ _ zl; (try k_lt zl); (revert zl; intro _); (try k_sweep)))
  k_with "MYcall" => ((with_reducible show wpAny _ _ (call (Value.type "bool") _ _) _ _ _); (k_here; k_dflt (refine' my_bool ?zzN ?zzm ?zzz _ ?zzb ?_; (case zzN => k_asm); (case zzm => k_mem); (case zzz => assumption); (case zzb => assumption)); intro _; (try dsimp only)))
  k_with "MYcall" => ((with_reducible show wpAny _ _ (call (Value.type "tuple") _ _) _ _ _); (k_here; k_dflt (refine' my_tupleOf ?zzF ?zzN ?zzm ?zzz ?_; (case zzF => k_asm); (case zzN => k_asm); (case zzm => k_mem); (case zzz => omega)); intro _ _ _ _ zl; (revert zl; intro _); (try k_sweep)))
  k_with "MYcall" => ((with_reducible show wpAny _ _ (call (Value.builtin "list.clear") _ _) _ _ _); (k_here; k_dflt (refine' my_clear ?zzF ?zzN ?zzU ?zzz ?_; (case zzF => k_asm); (case zzN => k_asm); (case zzU => k_upd); (case zzz => omega)); intro _ _ _; (try k_sweep)))
  k_with "MY compareOp NotIn int ref" => ((with_reducible show wpAny _ _ (compareOp CmpOp.NotIn (Value.int _ _) (Value.ref _)) _ _ _); (k_here; k_dflt (refine' my_notin ?zzN ?zzm ?zzi ?_; (case zzN => k_asm); (case zzm => k_mem); (case zzi => assumption)); (try dsimp only)))
  k_with "MYcall" => ((with_reducible show wpAny _ _ (call (Value.builtin "sorted") _ _) _ _ _); (k_here; k_dflt (refine' my_sorted ?zzF ?zzN ?zzm ?zzi ?zzz ?_; (case zzF => k_asm); (case zzN => k_asm); (case zzm => k_mem); (case zzi => assumption); (case zzz => omega)); intro _ _ _ _ _ _ _ zl _ _ _; (try k_lt zl); (revert zl; intro _); (try k_sweep)))
  k_with "MY binaryOp Add ref ref" => ((with_reducible show wpAny _ _ (binaryOp Operator.Add (Value.ref _) (Value.ref _)) _ _ _); (k_here; k_dflt (refine' my_addL ?zzF ?zzN ?zzm ?zzm2 ?zzz ?_; (case zzF => k_asm); (case zzN => k_asm); (case zzm => k_mem); (case zzm2 => k_mem); (case zzz => assumption)); intro _ _ _ _ zl; (try k_lt zl); (revert zl; intro _); (try k_sweep)))
  k_with "MYcall" => ((with_reducible show wpAny _ _ (call (Value.type "list") _ _) _ _ _); (k_here; k_dflt (refine' my_copy ?zzF ?zzN ?zzm ?zzz ?_; (case zzF => k_asm); (case zzN => k_asm); (case zzm => k_mem); (case zzz => omega)); intro _ _ _ _ _ zl; (try k_lt zl); (revert zl; intro _); (try k_sweep)))
  k_with "MYcall" => ((with_reducible show wpAny _ _ (call (Value.builtin "list.pop") _ _) _ _ _); (k_here; (with_reducible show wpAny _ _ (call (Value.builtin _) [Value.ref _, Value.int _ _]) _ _ _); k_dflt (refine' my_popAt ?zzF ?zzN ?zzU ?zzi ?zzz ?_; (case zzF => k_asm); (case zzN => k_asm); (case zzU => k_upd); (case zzi => assumption); (case zzz => omega)); intro _ _ _; (try k_sweep)))
  k_with "MY compareOp NotEq ref ref" => ((with_reducible show wpAny _ _ (compareOp CmpOp.NotEq (Value.ref _) (Value.ref _)) _ _ _); (k_here; k_dflt (refine' my_ne ?zzN ?zzm ?zzm2 ?zzi ?zzj ?zzu ?_; (case zzN => k_asm); (case zzm => k_mem); (case zzm2 => k_mem); (case zzi => assumption); (case zzj => assumption); (case zzu => assumption)); (try dsimp only)))
  k_with "MINE" => ((with_reducible show wpAny _ _ (call _ _ _) _ _ _); k_extra "MYcall")
  k_with "MINE" => ((with_reducible show wpAny _ _ (subscriptTail _ _ (Value.ref _) _) _ _ _); k_extra "MY subscriptTail")
  k_with "MINE" => ((with_reducible show wpAny _ _ (eval (Expr.Name _ _) (envOf _ _ _ _ _)) _ _ _); k_extra "MY eval Name")
  k_with "MINE" => ((with_reducible show wpAny _ _ (getMethod (Value.ref _) _ _) _ _ _); k_extra "MY getMethod ref")
  k_with "MINE" => ((with_reducible show wpAny _ _ (setItem (Value.ref _) (Value.int _ _) _) _ _ _); k_extra "MY setItem ref int")
  k_with "MINE" => ((with_reducible show wpAny _ _ (eval (Expr.Call (Expr.Attribute _ _ _) _ [] _) _) _ _ _); k_extra "MY eval Call Attribute")
  k_with "MINE" => ((with_reducible show wpAny _ _ (callWith _ (Value.ref _) _ _ []) _ _ _); k_extra "MY callWith ref")
  k_with "MINE" => ((with_reducible show StarOf _ _ _ (Value.ref _) _ _); k_extra "MY StarOf ref")
  k_with "MINE" => ((with_reducible show wpAny _ _ (compareOp CmpOp.In (Value.int _ _) (Value.ref _)) _ _ _); k_extra "MY compareOp In int ref")
  k_with "MINE" => ((with_reducible show wpAny _ _ (getAttr (Value.ref _) _ _) _ _ _); k_extra "MY getAttr ref")
  k_with "MINE" => ((with_reducible show wpAny _ _ (truthy (Value.ref _)) _ _ _); k_extra "MY truthy ref")
  k_with "MINE" => ((with_reducible show wpAny _ _ (delItem (Value.ref _) (Value.int _ _)) _ _ _); k_extra "MY delItem ref int")
  k_with "MINE" => ((with_reducible show wpAny _ _ (compareOp CmpOp.NotIn (Value.int _ _) (Value.ref _)) _ _ _); k_extra "MY compareOp NotIn int ref")
  k_with "MINE" => ((with_reducible show wpAny _ _ (binaryOp Operator.Add (Value.ref _) (Value.ref _)) _ _ _); k_extra "MY binaryOp Add ref ref")
  k_with "MINE" => ((with_reducible show wpAny _ _ (compareOp CmpOp.NotEq (Value.ref _) (Value.ref _)) _ _ _); k_extra "MY compareOp NotEq ref ref")
  k_with "MINE steps" => (w_strict (repeat' (first | (k_unfold; (try dsimp only)) | ((fail_if_success (with_reducible show wpAny _ _ _ _ _ _)); refine CutG.out (by assumption) _ _ _ ?_; (try clear khb); (try clear kQb); (try clear ko); (try clear kd); (try clear kg); (try dsimp only)) | ((fail_if_success (with_reducible show wpAny _ _ _ _ _ _)); refine CutH.out (by assumption) _ _ ?_; (try clear kha); (try clear kQa)) | ((with_reducible show wpAny _ _ (execs (_ :: _) _) _ _ _); (first | (refine execs_cut1 (by assumption) ?_; intro kg kd ko _ kQb khb) | (refine execs_cut2 (by assumption) ?_; intro _) | (refine cutQ ?_; intro kQa kha))) | ((fail_if_success (with_reducible show wpAny _ _ (exec (Stmt.While _ _ _ _) _) _ _ _)); (fail_if_success (with_reducible show wpAny _ _ (eval (Expr.ListComp _ _ _ _) _) _ _ _)); (fail_if_success (with_reducible show wpAny _ _ (exec (Stmt.Try _ _ _ _ _) _) _ _ _)); (fail_if_success (with_reducible show wpAny _ _ (exec (Stmt.For _ _ _ _ _) _) _ _ _)); (first | k_extra "MINE" | walk1 | (dsimp only; walk1)))  | fail "no step")))
  k_with "MINE plain" => (w_strict (repeat' (first | (k_unfold; (try dsimp only)) | ((fail_if_success (with_reducible show wpAny _ _ _ _ _ _)); refine CutH.out (by assumption) _ _ ?_; (try clear kha); (try clear kQa)) | ((fail_if_success (with_reducible show wpAny _ _ (exec (Stmt.While _ _ _ _) _) _ _ _)); (fail_if_success (with_reducible show wpAny _ _ (eval (Expr.ListComp _ _ _ _) _) _ _ _)); (fail_if_success (with_reducible show wpAny _ _ (exec (Stmt.Try _ _ _ _ _) _) _ _ _)); (fail_if_success (with_reducible show wpAny _ _ (exec (Stmt.For _ _ _ _ _) _) _ _ _)); (first | k_extra "MINE" | walk1 | (dsimp only; walk1)))  | fail "no step")))
  trivial
theorem gn_spec {w : World} {A A₀ : Around} {env : Env} {outer : List Env} {base h₀ : Heap} {L : Addr} {m mg mb : Str → Option Value} {p : Program} {loose : List Str} {mean : ExcName → Option Value} {s : Shared} {rest : List (Addr × Obj)} {R : Result → Shared → Prop}
    {σ : Srt} {rv : Value} {po nf : Int} {tp tf : Tok} {oD : Obj} {G : List NodeR} {v : Int} {tv : Tok}
    (C : Cx w A A₀ env outer base h₀ L m mg mb p loose mean s.heap (gl w σ rv po tp nf tf oD G rest) 898) (nd : ND (gl w σ rv po tp nf tf oD G rest)) (hD : dG w oD G) (lo : (σ.D == sysModules) = false) (hlen : G.length ≤ 1000)
    (hR : ∀ h' tk oD' G' r, Fr h₀ L h' m → News h₀ L h' (gl w σ rv po tp nf tf oD' G' rest) → ND (gl w σ rv po tp nf tf oD' G' rest) → dG w oD' G' → (G' = G ∨ (G' = G ++ [r] ∧ (∀ r ∈ G, r.key ≠ v) ∧ r.np = 0 ∧ r.ss = [] ∧ r.svs = [])) → r ∈ G' → r.key = v →
      R (.ok (.ret (.ref r.info))) { s with heap := h', toks := tk }) :
    codeAny (model PySem.Challenge.rw_mr0333_01.row.prog w) A (.call (.ref 107) ⟨[.ref σ.S, .int v tv], []⟩) R s := by
  obtain ⟨B, F, X, N, T, hA, hf, hke, hdep, hh⟩ := C
  revert X
  k_fill
  intro X
  refine' enterD (binds := [(Str.ofString "self", .ref σ.S), (Str.ofString "node", .int v tv)]) B F X N T hA hf hke (by k_is) (by k_is) (by show A.depth < 1000; omega) (kp_binds (by k_in) (fun _ => rfl)) (locs rfl) ?_ rfl rfl rfl (by decide)
  intro g' L' h' FG' F' N' B' X' T' hA'
  have hz : (kvG G).length ≤ sizeLine := by rw [sizeLine_eq, List.length_map]; omega
  rcases hv : valueAt (kvG G) v with _ | x
  · walk_at "MINE steps"
    refine ni_spec ⟨B', by assumption, X', by assumption, T', hA', rfl, rfl, by show A.depth + 1 ≤ 899; omega, hh⟩ ?_
    intro h2 tk2 x dx sx nt sn F2 N2 l1 l2 l3
    have q1 := ltN (l1 (σ.D, oD) (by simp))
    have q2 := ltN l2
    have q3 := ltN l3
    obtain ⟨n1, n2, n3, n4, n5, n6, n7⟩ := gl_nd.mp nd
    have q4 := neN n2
    have q5 := neN n3
    walk_at "MINE steps"
    rename Obj.IsDictOf (intKind _ _) _ (stored _ _ _) => hd8
    rename News _ _ _ _ => N8
    have hnk := valueAt_kvG_none.mp hv
    refine hR _ _ _ (G ++ [⟨v, tv, x, dx, sx, 0, nt, [], [], sn⟩]) ⟨v, tv, x, dx, sx, 0, nt, [], [], sn⟩ (by assumption) (gl_add_news N8) (gl_nd.mpr (gl_add_nd (gl_nd.mp nd) ⟨l1 _ (.head _), l1 _ (.tail _ (.head _)), l1 _ (.tail _ (.tail _ (.head _)))⟩ (fun p hp => l1 p (.tail _ (.tail _ (.tail _ hp)))) l2 l3)) (kvG_add hnk hd8) (.inr ⟨rfl, hnk, rfl, rfl, rfl⟩) (by simp) rfl
  · obtain ⟨r, hr, hk, rfl⟩ := valueAt_kvG_some hv
    walk_at "MINE steps"
    exact hR _ _ oD G r (by assumption) (by assumption) nd hD (.inl rfl) hr hk

end Mine
-- P5
namespace Mine
open PySem PySem.W PyProof.Rows
example : True := by
  k_with_none
  k_with "MYcall" => ((with_reducible show wpAny _ _ (call (Value.builtin "len") _ _) _ _ _); (refine' my_len ?zzk1 ?zzk2 ?zzk3 ?_; (case zzk1 => k_asm); (case zzk2 => k_mem); (case zzk3 => omega); intro _ _))
  k_with "MY subscriptTail" => ((with_reducible show wpAny _ _ (subscriptTail _ _ (Value.ref _) _) _ _ _); ((with_reducible show wpAny _ _ (subscriptTail _ _ (Value.ref _) (Value.int _ _)) _ _ _); with_unfolding_all refine' my_item ?zzk1 ?zzk2 ?zzk3 ?zzk4 ?zzk5 ?zzk6 ?_ ?zzk7; (case zzk1 => k_asm); (case zzk2 => k_mem); (case zzk3 => assumption); (case zzk4 => omega); (case zzk5 => omega); (case zzk6 => omega); (case zzk7 => with_unfolding_all rfl);  intro _))
  k_with "MY eval Name" => ((with_reducible show wpAny _ _ (eval (Expr.Name _ _) (envOf _ _ _ _ _)) _ _ _); (k_here; k_dflt (refine' ld ?zzk1 ?zzk2 ?_; (case zzk1 => k_asm); (case zzk2 => assumption); k_whole)))
  k_with "MYcall" => ((with_reducible show wpAny _ _ (call (Value.builtin "list.insert") _ _) _ _ _); (k_here; k_dflt (refine' my_insert ?zzF ?zzN ?zzU ?zzhk ?zzz ?_; (case zzF => k_asm); (case zzN => k_asm); (case zzU => k_upd); (case zzhk => omega); (case zzz => omega); k_whole); intro _ _ _; (try k_sweep)))
  k_with "MYcall" => ((with_reducible show wpAny _ _ (call (Value.builtin "dict.get") _ _) _ _ _); (k_here; k_dflt (first | refine kdg_get1 (knd := PySem.intKind _ _) (by k_asm) (by k_mem) (by assumption) (by assumption) (intKind_is _ _ _ _) none (by assumption) ?_ | refine kdg_get1 (knd := PySem.intKind _ _) (by k_asm) (by k_mem) (by assumption) (by assumption) (intKind_is _ _ _ _) (some _) (by assumption) ?_); (try dsimp only [Option.getD])))
  k_with "MY getMethod ref" => ((with_reducible show wpAny _ _ (getMethod (Value.ref _) _ _) _ _ _); (k_here; (with_reducible show wpAny _ _ (getMethod (Value.ref _) (Str.ofString "get") _) _ _ _); k_dflt (refine kdg_method (knd := PySem.intKind _ _) (by k_asm) (by k_mem) (by assumption) ?_)))
  k_with "MY setItem ref int" => ((with_reducible show wpAny _ _ (setItem (Value.ref _) (Value.int _ _) _) _ _ _); (k_here; k_dflt (refine' kda_set (knd := PySem.intKind _ _) ?zzF ?zzN ?zzU ?zzd (intKind_is _ _ _ _) ?zzz ?_; (case zzF => k_asm); (case zzN => k_asm); (case zzU => k_updF); (case zzd => assumption); (case zzz => assumption)); intro _ _ _ _ _; (try dsimp only at N'); (try k_sweep)))
  k_with "MYcall" => ((with_reducible show wpAny _ _ (call (Value.builtin "len") _ _) _ _ _); (refine' my_lenT ?zzk1 ?zzk2 ?zzk3 ?_; (case zzk1 => k_asm); (case zzk2 => k_mem); (case zzk3 => omega); intro _ _))
  k_with "MY eval Call Attribute" => ((with_reducible show wpAny _ _ (eval (Expr.Call (Expr.Attribute _ _ _) _ [] _) _) _ _ _); (k_here; (with_reducible show wpAny _ _ (eval (Expr.Call (Expr.Attribute _ _ _) _ [] _) _) _ _ _); ks_star; refine star_method ?_))
  k_with "MY callWith ref" => ((with_reducible show wpAny _ _ (callWith _ (Value.ref _) _ _ []) _ _ _); (k_here; (with_reducible show wpAny _ _ (callWith _ (Value.ref _) _ (backTo _ (starEach [Expr.Starred _ _] _)) []) _ _ _); k_dflt (refine' callWith_MS ?zzX ?zzN ?zzq ?zzk2 ?_; (case zzX => k_asm); (case zzN => k_asm); (case zzq => k_mem); (case zzk2 => k_is); k_whole)))
  k_with "MY callWith ref" => ((with_reducible show wpAny _ _ (callWith _ (Value.ref _) _ _ []) _ _ _); (k_here; (with_reducible show wpAny _ _ (callWith _ (Value.ref _) _ (backTo _ (starEach (_ :: _ :: _) _)) []) _ _ _); ks_star; k_dflt (refine' callWith_MS2 ?zzX ?zzN ?zzq ?zzk2 ?_; (case zzX => k_asm); (case zzN => k_asm); (case zzq => k_mem); (case zzk2 => k_is); k_whole)))
  k_with "MY StarOf ref" => ((with_reducible show StarOf _ _ _ (Value.ref _) _ _); (k_here; k_dflt (first | (refine' my_star ?zzF ?zzN ?zzm ?zzi ?zzz ?_; (case zzF => k_asm); (case zzN => k_asm); (case zzm => k_mem); (case zzi => assumption); (case zzz => omega); k_whole) | (refine' my_starT ?zzF ?zzN ?zzm ?zzi ?zzz ?_; (case zzF => k_asm); (case zzN => k_asm); (case zzm => k_mem); (case zzi => assumption); (case zzz => omega); k_whole)); intro _ _ _; (try k_sweep); (try dsimp only [List.nil_append, List.cons_append])))
  k_with "MY compareOp In int ref" => ((with_reducible show wpAny _ _ (compareOp CmpOp.In (Value.int _ _) (Value.ref _)) _ _ _); (k_here; k_dflt (first | (refine' kse_in (knd := PySem.intKind _ _) ?zzN ?zzU ?zzd ?zzz (intKind_is _ _ _ _) rfl ?_; (case zzN => k_asm); (case zzU => k_updF); (case zzd => assumption); (case zzz => (show _ < 4096; omega))) | (refine' kda_in (knd := PySem.intKind _ _) ?zzN ?zzm ?zzd ?zzlo (intKind_is _ _ _ _) false ?zzb ?_; (case zzN => k_asm); (case zzm => k_mem); (case zzd => assumption); (case zzlo => assumption); (case zzb => assumption))); (try dsimp only)))
  k_with "MY getMethod ref" => ((with_reducible show wpAny _ _ (getMethod (Value.ref _) _ _) _ _ _); (k_here; (with_reducible show wpAny _ _ (getMethod (Value.ref _) (Str.ofString "add") _) _ _ _); k_dflt (refine' kse_method (knd := PySem.intKind _ _) ?zzN ?zzU ?zzd ?zzz ?_; (case zzN => k_asm); (case zzU => k_updF); (case zzd => assumption); (case zzz => (show _ < 4096; omega)))))
  k_with "MYcall" => ((with_reducible show wpAny _ _ (call (Value.builtin "set.add") _ _) _ _ _); (k_here; k_dflt (refine' kse_add (knd := PySem.intKind _ _) ?zzF ?zzN ?zzU ?zzd ?zzz (intKind_is _ _ _ _) rfl ?_; (case zzF => k_asm); (case zzN => k_asm); (case zzU => k_updF); (case zzd => assumption); (case zzz => (show _ < 4096; omega))); intro _ _ _ _ _; (try dsimp only at N'); (try k_sweep)))
  k_with "MY subscriptTail" => ((with_reducible show wpAny _ _ (subscriptTail _ _ (Value.ref _) _) _ _ _); ((with_reducible show wpAny _ _ (subscriptTail _ _ (Value.ref _) (Value.int _ _)) _ _ _); with_unfolding_all refine' kda_item (knd := PySem.intKind _ _) ?zzk1 ?zzk2 ?zzk3 (intKind_is _ _ _ _) ?zzk4 ?_ ?zzk7 ?zzk8; (case zzk1 => k_asm); (case zzk2 => k_mem); (case zzk3 => assumption); (case zzk4 => assumption); (case zzk7 => with_unfolding_all rfl); (case zzk8 => (intro _; with_unfolding_all rfl))))
  k_with "MYcall" => ((with_reducible show wpAny _ _ (call (Value.builtin "iter") _ _) _ _ _); (k_here; k_dflt (refine' my_iter ?zzF ?zzN ?zzm ?_; (case zzF => k_asm); (case zzN => k_asm); (case zzm => k_mem)); intro _ _ _ _ zl; (try k_lt zl); (revert zl; intro _); (try k_sweep)))
  k_with "MY getAttr ref" => ((with_reducible show wpAny _ _ (getAttr (Value.ref _) _ _) _ _ _); (k_here; (with_reducible show wpAny _ _ (getAttr (Value.ref _) (Str.ofString "__next__") _) _ _ _); k_dflt (refine' mw_getattr ?zzF ?zzN ?zzm ?_; (case zzF => k_asm); (case zzN => k_asm); (case zzm => k_mem)); intro _ _ _ _ _ zl; (try k_lt zl); (revert zl; intro _); (try k_sweep)))
  k_with "MY truthy ref" => ((with_reducible show wpAny _ _ (truthy (Value.ref _)) _ _ _); (k_here; (with_reducible show wpAny _ _ (truthy (Value.ref _)) _ _ _); k_dflt (refine' my_truthy ?zzN ?zzm ?zzz _ ?zzb ?_; (case zzN => k_asm); (case zzm => k_mem); (case zzz => assumption); (case zzb => assumption)); intro _; (try dsimp only)))
  k_with "MY subscriptTail" => ((with_reducible show wpAny _ _ (subscriptTail _ _ (Value.ref _) _) _ _ _); ((with_reducible show wpAny _ _ (subscriptTail _ _ (Value.ref _) (Value.int (-1) _)) _ _ _); k_dflt (refine' my_last ?zzN ?zzm ?zzz ?_ ?zze; (case zzN => k_asm); (case zzm => k_mem); (case zzz => assumption); (case zze => with_unfolding_all rfl))))
  k_with "MY callWith ref" => ((with_reducible show wpAny _ _ (callWith _ (Value.ref _) _ _ []) _ _ _); (k_here; (with_reducible show wpAny _ _ (callWith _ (Value.ref _) _ (backTo _ (starEach [] _)) []) _ _ _); k_dflt (refine' callWith_W ?zzN ?zzq ?_; (case zzN => k_asm); (case zzq => k_mem)); (try dsimp only [List.nil_append])))
  k_with "MYcall" => ((with_reducible show wpAny _ _ (call (Value.builtin "list.pop") _ _) _ _ _); (k_here; k_dflt (refine' my_pop ?zzF ?zzN ?zzU ?zzz ?_; (case zzF => k_asm); (case zzN => k_asm); (case zzU => k_upd); (case zzz => omega)); intro _ _ _; (try k_sweep)))
  k_with "MY delItem ref int" => ((with_reducible show wpAny _ _ (delItem (Value.ref _) (Value.int _ _)) _ _ _); (k_here; k_dflt (refine' kob_del (knd := PySem.intKind _ _) ?zzF ?zzN ?zzU ?zzd (intKind_is _ _ _ _) ?zzl ?zzz ?_; (case zzF => k_asm); (case zzN => k_asm); (case zzU => k_updF); (case zzd => assumption); (case zzl => assumption); (case zzz => assumption)); intro _ _ _ _ _; (try dsimp only at N')))
  k_with "MY getMethod ref" => ((with_reducible show wpAny _ _ (getMethod (Value.ref _) _ _) _ _ _); (k_here; (with_reducible show wpAny _ _ (getMethod (Value.ref _) (Str.ofString "values") _) _ _ _); k_dflt (refine kdl_method (knd := PySem.intKind _ _) PySem.F.slot_dict_values PySem.F.type_dict_values (by k_asm) (by k_mem) (by assumption) ?_)))
  k_with "MYcall" => ((with_reducible show wpAny _ _ (call (Value.builtin "dict.values") _ _) _ _ _); (k_here; k_dflt (refine kdl_view_values (knd := PySem.intKind _ _) (by k_asm) (by k_asm) (by k_mem) (by assumption) (by assumption) ?_); intro _ _ _ _ zl; (try k_lt zl); (revert zl; intro _); (try k_sweep)))
  k_with "MYcall" => ((with_reducible show wpAny _ _ (call (Value.type "bool") _ _) _ _ _); (k_here; k_dflt (refine' my_bool ?zzN ?zzm ?zzz _ ?zzb ?_; (case zzN => k_asm); (case zzm => k_mem); (case zzz => assumption); (case zzb => assumption)); intro _; (try dsimp only)))
  k_with "MYcall" => ((with_reducible show wpAny _ _ (call (Value.type "tuple") _ _) _ _ _); (k_here; k_dflt (refine' my_tupleOf ?zzF ?zzN ?zzm ?zzz ?_; (case zzF => k_asm); (case zzN => k_asm); (case zzm => k_mem); (case zzz => omega)); intro _ _ _ _ zl; (revert zl; intro _); (try k_sweep)))
  k_with "MYcall" => ((with_reducible show wpAny _ _ (call (Value.builtin "list.clear") _ _) _ _ _); (k_here; k_dflt (refine' my_clear ?zzF ?zzN ?zzU ?zzz ?_; (case zzF => k_asm); (case zzN => k_asm); (case zzU => k_upd); (case zzz => omega)); intro _ _ _; (try k_sweep)))
  k_with "MY compareOp NotIn int ref" => ((with_reducible show wpAny _ _ (compareOp CmpOp.NotIn (Value.int _ _) (Value.ref _)) _ _ _); (k_here; k_dflt (refine' my_notin ?zzN ?zzm ?zzi ?_; (case zzN => k_asm); (case zzm => k_mem); (case zzi => assumption)); (try dsimp only)))
  k_with "MYcall" => ((with_reducible show wpAny _ _ (call (Value.builtin "sorted") _ _) _ _ _); (k_here; k_dflt (refine' my_sorted ?zzF ?zzN ?zzm ?zzi ?zzz ?_; (case zzF => k_asm); (case zzN => k_asm); (case zzm => k_mem); (case zzi => assumption); (case zzz => omega)); intro _ _ _ _ _ _ _ zl _ _ _; (try k_lt zl); (revert zl; intro _); (try k_sweep)))
  k_with "MY binaryOp Add ref ref" => ((with_reducible show wpAny _ _ (binaryOp Operator.Add (Value.ref _) (Value.ref _)) _ _ _); (k_here; k_dflt (refine' my_addL ?zzF ?zzN ?zzm ?zzm2 ?zzz ?_; (case zzF => k_asm); (case zzN => k_asm); (case zzm => k_mem); (case zzm2 => k_mem); (case zzz => assumption)); intro _ _ _ _ zl; (try k_lt zl); (revert zl; intro _); (try k_sweep)))
  k_with "MYcall" => ((with_reducible show wpAny _ _ (call (Value.type "list") _ _) _ _ _); (k_here; k_dflt (refine' my_copy ?zzF ?zzN ?zzm ?zzz ?_; (case zzF => k_asm); (case zzN => k_asm); (case zzm => k_mem); (case zzz => omega)); intro _ _ _ _ _ zl; (try k_lt zl); (revert zl; intro _); (try k_sweep)))
  k_with "MYcall" => ((with_reducible show wpAny _ _ (call (Value.builtin "list.pop") _ _) _ _ _); (k_here; (with_reducible show wpAny _ _ (call (Value.builtin _) [Value.ref _, Value.int _ _]) _ _ _); k_dflt (refine' my_popAt ?zzF ?zzN ?zzU ?zzi ?zzz ?_; (case zzF => k_asm); (case zzN => k_asm); (case zzU => k_upd); (case zzi => assumption); (case zzz => omega)); intro _ _ _; (try k_sweep)))
  k_with "MY compareOp NotEq ref ref" => ((with_reducible show wpAny _ _ (compareOp CmpOp.NotEq (Value.ref _) (Value.ref _)) _ _ _); (k_here; k_dflt (refine' my_ne ?zzN ?zzm ?zzm2 ?zzi ?zzj ?zzu ?_; (case zzN => k_asm); (case zzm => k_mem); (case zzm2 => k_mem); (case zzi => assumption); (case zzj => assumption); (case zzu => assumption)); (try dsimp only)))
  k_with "MINE" => ((with_reducible show wpAny _ _ (call _ _ _) _ _ _); k_extra "MYcall")
  k_with "MINE" => ((with_reducible show wpAny _ _ (subscriptTail _ _ (Value.ref _) _) _ _ _); k_extra "MY subscriptTail")
  k_with "MINE" => ((with_reducible show wpAny _ _ (eval (Expr.Name _ _) (envOf _ _ _ _ _)) _ _ _); k_extra "MY eval Name")
  k_with "MINE" => ((with_reducible show wpAny _ _ (getMethod (Value.ref _) _ _) _ _ _); k_extra "MY getMethod ref")
  k_with "MINE" => ((with_reducible show wpAny _ _ (setItem (Value.ref _) (Value.int _ _) _) _ _ _); k_extra "MY setItem ref int")
  k_with "MINE" => ((with_reducible show wpAny _ _ (eval (Expr.Call (Expr.Attribute _ _ _) _ [] _) _) _ _ _); k_extra "MY eval Call Attribute")
  k_with "MINE" => ((with_reducible show wpAny _ _ (callWith _ (Value.ref _) _ _ []) _ _ _); k_extra "MY callWith ref")
  k_with "MINE" => ((with_reducible show StarOf _ _ _ (Value.ref _) _ _); k_extra "MY StarOf ref")
  k_with "MINE" => ((with_reducible show wpAny _ _ (compareOp CmpOp.In (Value.int _ _) (Value.ref _)) _ _ _); k_extra "MY compareOp In int ref")
  k_with "MINE" => ((with_reducible show wpAny _ _ (getAttr (Value.ref _) _ _) _ _ _); k_extra "MY getAttr ref")
  k_with "MINE" => ((with_reducible show wpAny _ _ (truthy (Value.ref _)) _ _ _); k_extra "MY truthy ref")
  k_with "MINE" => ((with_reducible show wpAny _ _ (delItem (Value.ref _) (Value.int _ _)) _ _ _); k_extra "MY delItem ref int")
  k_with "MINE" => ((with_reducible show wpAny _ _ (compareOp CmpOp.NotIn (Value.int _ _) (Value.ref _)) _ _ _); k_extra "MY compareOp NotIn int ref")
  k_with "MINE" => ((with_reducible show wpAny _ _ (binaryOp Operator.Add (Value.ref _) (Value.ref _)) _ _ _); k_extra "MY binaryOp Add ref ref")
  k_with "MINE" => ((with_reducible show wpAny _ _ (compareOp CmpOp.NotEq (Value.ref _) (Value.ref _)) _ _ _); k_extra "MY compareOp NotEq ref ref")
  k_with "MINE steps" => (w_strict (repeat' (first | (k_unfold; (try dsimp only)) | ((fail_if_success (with_reducible show wpAny _ _ _ _ _ _)); refine CutG.out (by assumption) _ _ _ ?_; (try clear khb); (try clear kQb); (try clear ko); (try clear kd); (try clear kg); (try dsimp only)) | ((fail_if_success (with_reducible show wpAny _ _ _ _ _ _)); refine CutH.out (by assumption) _ _ ?_; (try clear kha); (try clear kQa)) | ((with_reducible show wpAny _ _ (execs (_ :: _) _) _ _ _); (first | (refine execs_cut1 (by assumption) ?_; intro kg kd ko _ kQb khb) | (refine execs_cut2 (by assumption) ?_; intro _) | (refine cutQ ?_; intro kQa kha))) | ((fail_if_success (with_reducible show wpAny _ _ (exec (Stmt.While _ _ _ _) _) _ _ _)); (fail_if_success (with_reducible show wpAny _ _ (eval (Expr.ListComp _ _ _ _) _) _ _ _)); (fail_if_success (with_reducible show wpAny _ _ (exec (Stmt.Try _ _ _ _ _) _) _ _ _)); (fail_if_success (with_reducible show wpAny _ _ (exec (Stmt.For _ _ _ _ _) _) _ _ _)); (first | k_extra "MINE" | walk1 | (dsimp only; walk1)))  | fail "no step")))
  k_with "MINE plain" => (w_strict (repeat' (first | (k_unfold; (try dsimp only)) | ((fail_if_success (with_reducible show wpAny _ _ _ _ _ _)); refine CutH.out (by assumption) _ _ ?_; (try clear kha); (try clear kQa)) | ((fail_if_success (with_reducible show wpAny _ _ (exec (Stmt.While _ _ _ _) _) _ _ _)); (fail_if_success (with_reducible show wpAny _ _ (eval (Expr.ListComp _ _ _ _) _) _ _ _)); (fail_if_success (with_reducible show wpAny _ _ (exec (Stmt.Try _ _ _ _ _) _) _ _ _)); (fail_if_success (with_reducible show wpAny _ _ (exec (Stmt.For _ _ _ _ _) _) _ _ _)); (first | k_extra "MINE" | walk1 | (dsimp only; walk1)))  | fail "no step")))
  trivial
theorem gn_spec' {w : World} {A A₀ : Around} {env : Env} {outer : List Env} {base h₀ : Heap} {L : Addr} {m mg mb : Str → Option Value} {p : Program} {loose : List Str} {mean : ExcName → Option Value} {s : Shared} {rest : List (Addr × Obj)} {R : Result → Shared → Prop}
    {σ : Srt} {rv : Value} {po nf : Int} {tp tf : Tok} {oD : Obj} {G : List NodeR} {v : Int} {tv : Tok} {b : Nat}
    (C : Cx w A A₀ env outer base h₀ L m mg mb p loose mean s.heap (gl w σ rv po tp nf tf oD G rest) 898) (g : GOK w σ oD G rest b) (hb : b ≤ 1000)
    (hR : ∀ h' tk oD' G' r, Fr h₀ L h' m → News h₀ L h' (gl w σ rv po tp nf tf oD' G' rest) → GOK w σ oD' G' rest (b + 1) → G'.map NodeR.abs = ens v (G.map NodeR.abs) → r ∈ G' → r.key = v →
      R (.ok (.ret (.ref r.info))) { s with heap := h', toks := tk }) :
    codeAny (model PySem.Challenge.rw_mr0333_01.row.prog w) A (.call (.ref 107) ⟨[.ref σ.S, .int v tv], []⟩) R s := by
  refine gn_spec C (gl_nd.mpr g.gn) g.dg g.lo (Nat.le_trans g.ln hb) ?_
  intro h' tk oD' G' r F' N' nd' dg' hG hr hk
  refine hR h' tk oD' G' r F' N' ?_ ?_ hr hk
  · rcases hG with rfl | ⟨rfl, hn, h1, h2, h3⟩
    · exact ⟨gl_nd.mp nd', dg', g.gw, g.lo, Nat.le_succ_of_le g.ln, fun q hq => Nat.le_succ_of_le (g.ls q hq)⟩
    · refine ⟨gl_nd.mp nd', dg', ?_, g.lo, ?_, ?_⟩
      · intro q hq
        rcases List.mem_append.mp hq with hq | hq
        · exact g.gw q hq
        · rw [List.mem_singleton.mp hq, h2, h3]; exact .nil
      · rw [List.length_append, List.length_singleton]; exact Nat.succ_le_succ g.ln
      · intro q hq
        rcases List.mem_append.mp hq with hq | hq
        · exact Nat.le_succ_of_le (g.ls q hq)
        · rw [List.mem_singleton.mp hq, h2]; exact Nat.zero_le _
  · unfold ens
    rcases hG with rfl | ⟨rfl, hn, h1, h2, h3⟩
    · rw [if_pos]
      simp only [List.any_map, List.any_eq_true, Function.comp]
      exact ⟨r, hr, decide_eq_true hk⟩
    · rw [if_neg]
      · simp only [List.map_append, List.map_cons, List.map_nil, NodeR.abs, hk, h1, h2]
      · simp only [List.any_map, List.any_eq_true, Function.comp, not_exists, not_and]
        intro q hq
        intro e; exact hn q hq (of_decide_eq_true e)

end Mine
-- P6
namespace Mine
open PySem PySem.W PyProof.Rows
example : True := by
  k_with_none
  k_with "MYcall" => ((with_reducible show wpAny _ _ (call (Value.builtin "len") _ _) _ _ _); (refine' my_len ?zzk1 ?zzk2 ?zzk3 ?_; (case zzk1 => k_asm); (case zzk2 => k_mem); (case zzk3 => omega); intro _ _))
  k_with "MY subscriptTail" => ((with_reducible show wpAny _ _ (subscriptTail _ _ (Value.ref _) _) _ _ _); ((with_reducible show wpAny _ _ (subscriptTail _ _ (Value.ref _) (Value.int _ _)) _ _ _); with_unfolding_all refine' my_item ?zzk1 ?zzk2 ?zzk3 ?zzk4 ?zzk5 ?zzk6 ?_ ?zzk7; (case zzk1 => k_asm); (case zzk2 => k_mem); (case zzk3 => assumption); (case zzk4 => omega); (case zzk5 => omega); (case zzk6 => omega); (case zzk7 => with_unfolding_all rfl);  intro _))
  k_with "MY eval Name" => ((with_reducible show wpAny _ _ (eval (Expr.Name _ _) (envOf _ _ _ _ _)) _ _ _); (k_here; k_dflt (refine' ld ?zzk1 ?zzk2 ?_; (case zzk1 => k_asm); (case zzk2 => assumption); k_whole)))
  k_with "MYcall" => ((with_reducible show wpAny _ _ (call (Value.builtin "list.insert") _ _) _ _ _); (k_here; k_dflt (refine' my_insert ?zzF ?zzN ?zzU ?zzhk ?zzz ?_; (case zzF => k_asm); (case zzN => k_asm); (case zzU => k_upd); (case zzhk => omega); (case zzz => omega); k_whole); intro _ _ _; (try k_sweep)))
  k_with "MYcall" => ((with_reducible show wpAny _ _ (call (Value.builtin "dict.get") _ _) _ _ _); (k_here; k_dflt (first | refine kdg_get1 (knd := PySem.intKind _ _) (by k_asm) (by k_mem) (by assumption) (by assumption) (intKind_is _ _ _ _) none (by assumption) ?_ | refine kdg_get1 (knd := PySem.intKind _ _) (by k_asm) (by k_mem) (by assumption) (by assumption) (intKind_is _ _ _ _) (some _) (by assumption) ?_); (try dsimp only [Option.getD])))
  k_with "MY getMethod ref" => ((with_reducible show wpAny _ _ (getMethod (Value.ref _) _ _) _ _ _); (k_here; (with_reducible show wpAny _ _ (getMethod (Value.ref _) (Str.ofString "get") _) _ _ _); k_dflt (refine kdg_method (knd := PySem.intKind _ _) (by k_asm) (by k_mem) (by assumption) ?_)))
  k_with "MY setItem ref int" => ((with_reducible show wpAny _ _ (setItem (Value.ref _) (Value.int _ _) _) _ _ _); (k_here; k_dflt (refine' kda_set (knd := PySem.intKind _ _) ?zzF ?zzN ?zzU ?zzd (intKind_is _ _ _ _) ?zzz ?_; (case zzF => k_asm); (case zzN => k_asm); (case zzU => k_updF); (case zzd => assumption); (case zzz => assumption)); intro _ _ _ _ _; (try dsimp only at N'); (try k_sweep)))
  k_with "MYcall" => ((with_reducible show wpAny _ _ (call (Value.builtin "len") _ _) _ _ _); (refine' my_lenT ?zzk1 ?zzk2 ?zzk3 ?_; (case zzk1 => k_asm); (case zzk2 => k_mem); (case zzk3 => omega); intro _ _))
  k_with "MY eval Call Attribute" => ((with_reducible show wpAny _ _ (eval (Expr.Call (Expr.Attribute _ _ _) _ [] _) _) _ _ _); (k_here; (with_reducible show wpAny _ _ (eval (Expr.Call (Expr.Attribute _ _ _) _ [] _) _) _ _ _); ks_star; refine star_method ?_))
  k_with "MY callWith ref" => ((with_reducible show wpAny _ _ (callWith _ (Value.ref _) _ _ []) _ _ _); (k_here; (with_reducible show wpAny _ _ (callWith _ (Value.ref _) _ (backTo _ (starEach [Expr.Starred _ _] _)) []) _ _ _); k_dflt (refine' callWith_MS ?zzX ?zzN ?zzq ?zzk2 ?_; (case zzX => k_asm); (case zzN => k_asm); (case zzq => k_mem); (case zzk2 => k_is); k_whole)))
  k_with "MY callWith ref" => ((with_reducible show wpAny _ _ (callWith _ (Value.ref _) _ _ []) _ _ _); (k_here; (with_reducible show wpAny _ _ (callWith _ (Value.ref _) _ (backTo _ (starEach (_ :: _ :: _) _)) []) _ _ _); ks_star; k_dflt (refine' callWith_MS2 ?zzX ?zzN ?zzq ?zzk2 ?_; (case zzX => k_asm); (case zzN => k_asm); (case zzq => k_mem); (case zzk2 => k_is); k_whole)))
  k_with "MY StarOf ref" => ((with_reducible show StarOf _ _ _ (Value.ref _) _ _); (k_here; k_dflt (first | (refine' my_star ?zzF ?zzN ?zzm ?zzi ?zzz ?_; (case zzF => k_asm); (case zzN => k_asm); (case zzm => k_mem); (case zzi => assumption); (case zzz => omega); k_whole) | (refine' my_starT ?zzF ?zzN ?zzm ?zzi ?zzz ?_; (case zzF => k_asm); (case zzN => k_asm); (case zzm => k_mem); (case zzi => assumption); (case zzz => omega); k_whole)); intro _ _ _; (try k_sweep); (try dsimp only [List.nil_append, List.cons_append])))
  k_with "MY compareOp In int ref" => ((with_reducible show wpAny _ _ (compareOp CmpOp.In (Value.int _ _) (Value.ref _)) _ _ _); (k_here; k_dflt (first | (refine' kse_in (knd := PySem.intKind _ _) ?zzN ?zzU ?zzd ?zzz (intKind_is _ _ _ _) rfl ?_; (case zzN => k_asm); (case zzU => k_updF); (case zzd => assumption); (case zzz => (show _ < 4096; omega))) | (refine' kda_in (knd := PySem.intKind _ _) ?zzN ?zzm ?zzd ?zzlo (intKind_is _ _ _ _) false ?zzb ?_; (case zzN => k_asm); (case zzm => k_mem); (case zzd => assumption); (case zzlo => assumption); (case zzb => assumption))); (try dsimp only)))
  k_with "MY getMethod ref" => ((with_reducible show wpAny _ _ (getMethod (Value.ref _) _ _) _ _ _); (k_here; (with_reducible show wpAny _ _ (getMethod (Value.ref _) (Str.ofString "add") _) _ _ _); k_dflt (refine' kse_method (knd := PySem.intKind _ _) ?zzN ?zzU ?zzd ?zzz ?_; (case zzN => k_asm); (case zzU => k_updF); (case zzd => assumption); (case zzz => (show _ < 4096; omega)))))
  k_with "MYcall" => ((with_reducible show wpAny _ _ (call (Value.builtin "set.add") _ _) _ _ _); (k_here; k_dflt (refine' kse_add (knd := PySem.intKind _ _) ?zzF ?zzN ?zzU ?zzd ?zzz (intKind_is _ _ _ _) rfl ?_; (case zzF => k_asm); (case zzN => k_asm); (case zzU => k_updF); (case zzd => assumption); (case zzz => (show _ < 4096; omega))); intro _ _ _ _ _; (try dsimp only at N'); (try k_sweep)))
  k_with "MY subscriptTail" => ((with_reducible show wpAny _ _ (subscriptTail _ _ (Value.ref _) _) _ _ _); ((with_reducible show wpAny _ _ (subscriptTail _ _ (Value.ref _) (Value.int _ _)) _ _ _); with_unfolding_all refine' kda_item (knd := PySem.intKind _ _) ?zzk1 ?zzk2 ?zzk3 (intKind_is _ _ _ _) ?zzk4 ?_ ?zzk7 ?zzk8; (case zzk1 => k_asm); (case zzk2 => k_mem); (case zzk3 => assumption); (case zzk4 => assumption); (case zzk7 => with_unfolding_all rfl); (case zzk8 => (intro _; with_unfolding_all rfl))))
  k_with "MYcall" => ((with_reducible show wpAny _ _ (call (Value.builtin "iter") _ _) _ _ _); (k_here; k_dflt (refine' my_iter ?zzF ?zzN ?zzm ?_; (case zzF => k_asm); (case zzN => k_asm); (case zzm => k_mem)); intro _ _ _ _ zl; (try k_lt zl); (revert zl; intro _); (try k_sweep)))
  k_with "MY getAttr ref" => ((with_reducible show wpAny _ _ (getAttr (Value.ref _) _ _) _ _ _); (k_here; (with_reducible show wpAny _ _ (getAttr (Value.ref _) (Str.ofString "__next__") _) _ _ _); k_dflt (refine' mw_getattr ?zzF ?zzN ?zzm ?_; (case zzF => k_asm); (case zzN => k_asm); (case zzm => k_mem)); intro _ _ _ _ _ zl; (try k_lt zl); (revert zl; intro _); (try k_sweep)))
  k_with "MY truthy ref" => ((with_reducible show wpAny _ _ (truthy (Value.ref _)) _ _ _); (k_here; (with_reducible show wpAny _ _ (truthy (Value.ref _)) _ _ _); k_dflt (refine' my_truthy ?zzN ?zzm ?zzz _ ?zzb ?_; (case zzN => k_asm); (case zzm => k_mem); (case zzz => assumption); (case zzb => assumption)); intro _; (try dsimp only)))
  k_with "MY subscriptTail" => ((with_reducible show wpAny _ _ (subscriptTail _ _ (Value.ref _) _) _ _ _); ((with_reducible show wpAny _ _ (subscriptTail _ _ (Value.ref _) (Value.int (-1) _)) _ _ _); k_dflt (refine' my_last ?zzN ?zzm ?zzz ?_ ?zze; (case zzN => k_asm); (case zzm => k_mem); (case zzz => assumption); (case zze => with_unfolding_all rfl))))
  k_with "MY callWith ref" => ((with_reducible show wpAny _ _ (callWith _ (Value.ref _) _ _ []) _ _ _); (k_here; (with_reducible show wpAny _ _ (callWith _ (Value.ref _) _ (backTo _ (starEach [] _)) []) _ _ _); k_dflt (refine' callWith_W ?zzN ?zzq ?_; (case zzN => k_asm); (case zzq => k_mem)); (try dsimp only [List.nil_append])))
  k_with "MYcall" => ((with_reducible show wpAny _ _ (call (Value.builtin "list.pop") _ _) _ _ _); (k_here; k_dflt (refine' my_pop ?zzF ?zzN ?zzU ?zzz ?_; (case zzF => k_asm); (case zzN => k_asm); (case zzU => k_upd); (case zzz => omega)); intro _ _ _; (try k_sweep)))
  k_with "MY delItem ref int" => ((with_reducible show wpAny _ _ (delItem (Value.ref _) (Value.int _ _)) _ _ _); (k_here; k_dflt (refine' kob_del (knd := PySem.intKind _ _) ?zzF ?zzN ?zzU ?zzd (intKind_is _ _ _ _) ?zzl ?zzz ?_; (case zzF => k_asm); (case zzN => k_asm); (case zzU => k_updF); (case zzd => assumption); (case zzl => assumption); (case zzz => assumption)); intro _ _ _ _ _; (try dsimp only at N')))
  k_with "MY getMethod ref" => ((with_reducible show wpAny _ _ (getMethod (Value.ref _) _ _) _ _ _); (k_here; (with_reducible show wpAny _ _ (getMethod (Value.ref _) (Str.ofString "values") _) _ _ _); k_dflt (refine kdl_method (knd := PySem.intKind _ _) PySem.F.slot_dict_values PySem.F.type_dict_values (by k_asm) (by k_mem) (by assumption) ?_)))
  k_with "MYcall" => ((with_reducible show wpAny _ _ (call (Value.builtin "dict.values") _ _) _ _ _); (k_here; k_dflt (refine kdl_view_values (knd := PySem.intKind _ _) (by k_asm) (by k_asm) (by k_mem) (by assumption) (by assumption) ?_); intro _ _ _ _ zl; (try k_lt zl); (revert zl; intro _); (try k_sweep)))
  k_with "MYcall" => ((with_reducible show wpAny _ _ (call (Value.type "bool") _ _) _ _ _); (k_here; k_dflt (refine' my_bool ?zzN ?zzm ?zzz _ ?zzb ?_; (case zzN => k_asm); (case zzm => k_mem); (case zzz => assumption); (case zzb => assumption)); intro _; (try dsimp only)))
  k_with "MYcall" => ((with_reducible show wpAny _ _ (call (Value.type "tuple") _ _) _ _ _); (k_here; k_dflt (refine' my_tupleOf ?zzF ?zzN ?zzm ?zzz ?_; (case zzF => k_asm); (case zzN => k_asm); (case zzm => k_mem); (case zzz => omega)); intro _ _ _ _ zl; (revert zl; intro _); (try k_sweep)))
  k_with "MYcall" => ((with_reducible show wpAny _ _ (call (Value.builtin "list.clear") _ _) _ _ _); (k_here; k_dflt (refine' my_clear ?zzF ?zzN ?zzU ?zzz ?_; (case zzF => k_asm); (case zzN => k_asm); (case zzU => k_upd); (case zzz => omega)); intro _ _ _; (try k_sweep)))
  k_with "MY compareOp NotIn int ref" => ((with_reducible show wpAny _ _ (compareOp CmpOp.NotIn (Value.int _ _) (Value.ref _)) _ _ _); (k_here; k_dflt (refine' my_notin ?zzN ?zzm ?zzi ?_; (case zzN => k_asm); (case zzm => k_mem); (case zzi => assumption)); (try dsimp only)))
  k_with "MYcall" => ((with_reducible show wpAny _ _ (call (Value.builtin "sorted") _ _) _ _ _); (k_here; k_dflt (refine' my_sorted ?zzF ?zzN ?zzm ?zzi ?zzz ?_; (case zzF => k_asm); (case zzN => k_asm); (case zzm => k_mem); (case zzi => assumption); (case zzz => omega)); intro _ _ _ _ _ _ _ zl _ _ _; (try k_lt zl); (revert zl; intro _); (try k_sweep)))
  k_with "MY binaryOp Add ref ref" => ((with_reducible show wpAny _ _ (binaryOp Operator.Add (Value.ref _) (Value.ref _)) _ _ _); (k_here; k_dflt (refine' my_addL ?zzF ?zzN ?zzm ?zzm2 ?zzz ?_; (case zzF => k_asm); (case zzN => k_asm); (case zzm => k_mem); (case zzm2 => k_mem); (case zzz => assumption)); intro _ _ _ _ zl; (try k_lt zl); (revert zl; intro _); (try k_sweep)))
  k_with "MYcall" => ((with_reducible show wpAny _ _ (call (Value.type "list") _ _) _ _ _); (k_here; k_dflt (refine' my_copy ?zzF ?zzN ?zzm ?zzz ?_; (case zzF => k_asm); (case zzN => k_asm); (case zzm => k_mem); (case zzz => omega)); intro _ _ _ _ _ zl; (try k_lt zl); (revert zl; intro _); (try k_sweep)))
  k_with "MYcall" => ((with_reducible show wpAny _ _ (call (Value.builtin "list.pop") _ _) _ _ _); (k_here; (with_reducible show wpAny _ _ (call (Value.builtin _) [Value.ref _, Value.int _ _]) _ _ _); k_dflt (refine' my_popAt ?zzF ?zzN ?zzU ?zzi ?zzz ?_; (case zzF => k_asm); (case zzN => k_asm); (case zzU => k_upd); (case zzi => assumption); (case zzz => omega)); intro _ _ _; (try k_sweep)))
  k_with "MY compareOp NotEq ref ref" => ((with_reducible show wpAny _ _ (compareOp CmpOp.NotEq (Value.ref _) (Value.ref _)) _ _ _); (k_here; k_dflt (refine' my_ne ?zzN ?zzm ?zzm2 ?zzi ?zzj ?zzu ?_; (case zzN => k_asm); (case zzm => k_mem); (case zzm2 => k_mem); (case zzi => assumption); (case zzj => assumption); (case zzu => assumption)); (try dsimp only)))
  k_with "MINE" => ((with_reducible show wpAny _ _ (call _ _ _) _ _ _); k_extra "MYcall")
  k_with "MINE" => ((with_reducible show wpAny _ _ (subscriptTail _ _ (Value.ref _) _) _ _ _); k_extra "MY subscriptTail")
  k_with "MINE" => ((with_reducible show wpAny _ _ (eval (Expr.Name _ _) (envOf _ _ _ _ _)) _ _ _); k_extra "MY eval Name")
  k_with "MINE" => ((with_reducible show wpAny _ _ (getMethod (Value.ref _) _ _) _ _ _); k_extra "MY getMethod ref")
  k_with "MINE" => ((with_reducible show wpAny _ _ (setItem (Value.ref _) (Value.int _ _) _) _ _ _); k_extra "MY setItem ref int")
  k_with "MINE" => ((with_reducible show wpAny _ _ (eval (Expr.Call (Expr.Attribute _ _ _) _ [] _) _) _ _ _); k_extra "MY eval Call Attribute")
  k_with "MINE" => ((with_reducible show wpAny _ _ (callWith _ (Value.ref _) _ _ []) _ _ _); k_extra "MY callWith ref")
  k_with "MINE" => ((with_reducible show StarOf _ _ _ (Value.ref _) _ _); k_extra "MY StarOf ref")
  k_with "MINE" => ((with_reducible show wpAny _ _ (compareOp CmpOp.In (Value.int _ _) (Value.ref _)) _ _ _); k_extra "MY compareOp In int ref")
  k_with "MINE" => ((with_reducible show wpAny _ _ (getAttr (Value.ref _) _ _) _ _ _); k_extra "MY getAttr ref")
  k_with "MINE" => ((with_reducible show wpAny _ _ (truthy (Value.ref _)) _ _ _); k_extra "MY truthy ref")
  k_with "MINE" => ((with_reducible show wpAny _ _ (delItem (Value.ref _) (Value.int _ _)) _ _ _); k_extra "MY delItem ref int")
  k_with "MINE" => ((with_reducible show wpAny _ _ (compareOp CmpOp.NotIn (Value.int _ _) (Value.ref _)) _ _ _); k_extra "MY compareOp NotIn int ref")
  k_with "MINE" => ((with_reducible show wpAny _ _ (binaryOp Operator.Add (Value.ref _) (Value.ref _)) _ _ _); k_extra "MY binaryOp Add ref ref")
  k_with "MINE" => ((with_reducible show wpAny _ _ (compareOp CmpOp.NotEq (Value.ref _) (Value.ref _)) _ _ _); k_extra "MY compareOp NotEq ref ref")
  k_with "MINE steps" => (w_strict (repeat' (first | (k_unfold; (try dsimp only)) | ((fail_if_success (with_reducible show wpAny _ _ _ _ _ _)); refine CutG.out (by assumption) _ _ _ ?_; (try clear khb); (try clear kQb); (try clear ko); (try clear kd); (try clear kg); (try dsimp only)) | ((fail_if_success (with_reducible show wpAny _ _ _ _ _ _)); refine CutH.out (by assumption) _ _ ?_; (try clear kha); (try clear kQa)) | ((with_reducible show wpAny _ _ (execs (_ :: _) _) _ _ _); (first | (refine execs_cut1 (by assumption) ?_; intro kg kd ko _ kQb khb) | (refine execs_cut2 (by assumption) ?_; intro _) | (refine cutQ ?_; intro kQa kha))) | ((fail_if_success (with_reducible show wpAny _ _ (exec (Stmt.While _ _ _ _) _) _ _ _)); (fail_if_success (with_reducible show wpAny _ _ (eval (Expr.ListComp _ _ _ _) _) _ _ _)); (fail_if_success (with_reducible show wpAny _ _ (exec (Stmt.Try _ _ _ _ _) _) _ _ _)); (fail_if_success (with_reducible show wpAny _ _ (exec (Stmt.For _ _ _ _ _) _) _ _ _)); (first | k_extra "MINE" | walk1 | (dsimp only; walk1)))  | fail "no step")))
  k_with "MINE plain" => (w_strict (repeat' (first | (k_unfold; (try dsimp only)) | ((fail_if_success (with_reducible show wpAny _ _ _ _ _ _)); refine CutH.out (by assumption) _ _ ?_; (try clear kha); (try clear kQa)) | ((fail_if_success (with_reducible show wpAny _ _ (exec (Stmt.While _ _ _ _) _) _ _ _)); (fail_if_success (with_reducible show wpAny _ _ (eval (Expr.ListComp _ _ _ _) _) _ _ _)); (fail_if_success (with_reducible show wpAny _ _ (exec (Stmt.Try _ _ _ _ _) _) _ _ _)); (fail_if_success (with_reducible show wpAny _ _ (exec (Stmt.For _ _ _ _ _) _) _ _ _)); (first | k_extra "MINE" | walk1 | (dsimp only; walk1)))  | fail "no step")))
  trivial
theorem add_spec {w : World} {A A₀ : Around} {env : Env} {outer : List Env} {base h₀ : Heap} {L : Addr} {m mg mb : Str → Option Value} {p : Program} {loose : List Str} {mean : ExcName → Option Value} {s : Shared} {rest : List (Addr × Obj)} {R : Result → Shared → Prop}
    {σ : Srt} {po nf : Int} {tp tf : Tok} {oD : Obj} {G : List NodeR} {v : Int} {tv : Tok} {b : Nat} {us : List Value} {ys : List Int}
    (C : Cx w A A₀ env outer base h₀ L m mg mb p loose mean s.heap (gl w σ .none po tp nf tf oD G rest) 897) (g : GOK w σ oD G rest b) (hb : b + 2 * us.length + 1 ≤ 1000) (hu : IntsAre us ys) (h1 : us.length ≤ 1)
    (hR : ∀ h' tk oD' G', Fr h₀ L h' m → News h₀ L h' (gl w σ .none po tp nf tf oD' G' rest) → GOK w σ oD' G' rest (b + 2 * us.length + 1) →
      G'.map NodeR.abs = ys.foldl (fun a u => addSucc u v (ens u a)) (addNp v ys.length (ens v (G.map NodeR.abs))) → R (.ok (.ret .none)) { s with heap := h', toks := tk }) :
    codeAny (model PySem.Challenge.rw_mr0333_01.row.prog w) A (.call (.ref 114) ⟨.ref σ.S :: .int v tv :: us, []⟩) R s := by
  obtain ⟨B, F, X, N, T, hA, hf, hke, hdep, hh⟩ := C
  revert X
  k_fill
  intro X
  have hul := hu.length
  have ent : us = [] ∨ ∃ x, us = [x] := by
    rcases us with _ | ⟨x, _ | ⟨y, us⟩⟩
    · exact .inl rfl
    · exact .inr ⟨x, rfl⟩
    · simp at h1
  refine' enterR (binds := fun D => [(Str.ofString "self", .ref σ.S), (Str.ofString "node", .int v tv), (Str.ofString "predecessors", .ref D)]) (vs := us) (g₁ := fun D => some [(Str.ofString "self", .ref σ.S), (Str.ofString "node", .int v tv), (Str.ofString "predecessors", .ref D)]) B F X N T hA hf hke (by k_is) (by k_is) (by show A.depth < 1000; omega) rfl ?hp (fun _ => rfl) (fun _ => locs rfl) ?_ rfl rfl rfl (by decide)
  case hp => rcases ent with rfl | ⟨x, rfl⟩ <;> rfl
  intro D g' L' h' l1 FG' F' N' B' X' T' hA'
  walk_at "MINE steps"
  have N1 := News.perm N' gl_push_perm
  refine wpAny_call (gn_spec' ⟨B', F', X', N1, T', hA', rfl, rfl, by show A.depth + 1 ≤ 898; omega, hh⟩ (GOK.push g l1) (by omega) ?_)
  intro h2 tk2 oD1 G1 r F2 N2 g1 e1 hr hk
  obtain ⟨Ga, Gb, rfl⟩ := List.append_of_mem hr
  have N3 := gl_out N2
  obtain ⟨o1, o2, o3, o4, o5, o6⟩ := g1.out .none po tp nf tf
  have o1 := neN o1
  have o2 := neN o2
  have o3 := neN o3
  clear F' N' N1 N2
  walk_at "MINE steps"
  rename News _ _ _ _ => N5
  rename Fr _ _ _ _ => F5
  obtain ⟨G2, N6, g2, _, e2⟩ := gl_setnp g1 N5
  have e3 := e2 (fun a => if a.key = v then { a with np := a.np + us.length } else a) (fun a ha => if_neg (fun e => ha (e.trans hk.symm))) (by show (if r.key = v then _ else _) = _; rw [if_pos hk]; rfl)
  rw [e1, hul] at e3
  clear N5 e2 o1 o2 o3 o4 o5 o6
  refine For_start ?_
  walk_at "MINE steps"
  refine ForL.tuple hh F5 N6 (by k_mem) (fun i m₁ n₁ => ∃ oD3 G3, n₁ = gl w σ .none po tp nf tf oD3 G3 ((D, tupO us) :: rest) ∧ GOK w σ oD3 G3 ((D, tupO us) :: rest) (b + 1 + 2 * i) ∧
    G3.map NodeR.abs = (ys.take i).foldl (fun a u => addSucc u v (ens u a)) (addNp v ys.length (ens v (G.map NodeR.abs))) ∧ m₁ (Str.ofString "self") = some (.ref σ.S) ∧ m₁ (Str.ofString "node") = some (.int v tv)) ?_ (fun _ _ => rfl) ?_ ?_
  · exact ⟨oD1, G2, rfl, g2, e3, rfl, rfl⟩
  · rintro I i x m₁ n₁ oI h tk hx ⟨oD3, G3, rfl, g3, e3, ms, mn⟩ hD hI lI F6 N7
    obtain ⟨u, t, rfl, hu'⟩ := hu.at i x hx
    walk_at "MINE steps"
    rename News _ _ _ _ => N8
    rename Fr _ _ _ _ => F7
    have hlt : i < us.length := (List.getElem?_eq_some_iff.mp hx).1
    refine wpAny_call (gn_spec' ⟨B', F7, X', News.perm N8 gl_push_perm, T', hA', rfl, rfl, by show A.depth + 1 ≤ 898; omega, hh⟩ (GOK.push' g3 hI) (by omega) ?_)
    intro h4 tk4 oD5 G5 r5 F8 N9 g5 e5 hr5 hk5
    obtain ⟨Gc, Gd, rfl⟩ := List.append_of_mem hr5
    have N10 := gl_out N9
    obtain ⟨o1, o2, o3, o4, o5, o6⟩ := g5.out .none po tp nf tf
    have o1 := neN o1
    have o2 := neN o2
    have o3 := neN o3
    have hl5 := (g5.gw r5 hr5).length
    have hl6 := g5.ls r5 hr5
    clear F7 N8 N9
    walk_at "MINE steps"
    rename News _ _ _ _ => N11
    rename Fr _ _ _ _ => F9
    rw [List.push_toArray] at N11
    obtain ⟨G6, N12, g6, _, e6⟩ := gl_setss (ss' := r5.ss ++ [v]) g5 (IntsAre.append (g5.gw r5 hr5) (.cons _ _ .nil)) (by rw [List.length_append, List.length_singleton]; omega) N11
    have e7 := e6 (fun a => if a.key = u then { a with ss := a.ss ++ [v] } else a) (fun a ha => if_neg (fun e => ha (e.trans hk5.symm))) (by show (if r5.key = u then _ else _) = _; rw [if_pos hk5]; rfl)
    rw [e5, e3] at e7
    have hI' := g6.nm .none po tp nf tf
    refine ⟨_, _, _, gl w σ .none po tp nf tf oD5 G6 ((D, tupO us) :: rest), rfl, F9, News.perm N12 gl_push_perm.symm, ?_, hI', oD5, G6, rfl, g6.tail.mono (by omega), ?_, ms, mn⟩
    · intro q hq
      rw [List.mem_singleton.mp hq]
      k_mem
    · rw [e7, List.take_add_one, hu', List.foldl_append]; rfl
  · rintro m' n₁ h tk F6 N7 hD ⟨oD3, G3, rfl, g3, e3, ms, mn⟩
    rw [hul, List.take_length] at e3
    walk_at "MINE steps"
    rename News _ _ _ _ => N8
    exact hR _ _ oD3 G3 (by assumption) (News.sub N8 (fun q hq => gl_push_perm.mem_iff.mp (.tail _ hq))) (g3.tail.mono (by omega)) e3

end Mine
-- P7
namespace Mine
open PySem PySem.W PyProof.Rows
example : True := by
  k_with_none
  k_with "MYcall" => ((with_reducible show wpAny _ _ (call (Value.builtin "len") _ _) _ _ _); (refine' my_len ?zzk1 ?zzk2 ?zzk3 ?_; (case zzk1 => k_asm); (case zzk2 => k_mem); (case zzk3 => omega); intro _ _))
  k_with "MY subscriptTail" => ((with_reducible show wpAny _ _ (subscriptTail _ _ (Value.ref _) _) _ _ _); ((with_reducible show wpAny _ _ (subscriptTail _ _ (Value.ref _) (Value.int _ _)) _ _ _); with_unfolding_all refine' my_item ?zzk1 ?zzk2 ?zzk3 ?zzk4 ?zzk5 ?zzk6 ?_ ?zzk7; (case zzk1 => k_asm); (case zzk2 => k_mem); (case zzk3 => assumption); (case zzk4 => omega); (case zzk5 => omega); (case zzk6 => omega); (case zzk7 => with_unfolding_all rfl);  intro _))
  k_with "MY eval Name" => ((with_reducible show wpAny _ _ (eval (Expr.Name _ _) (envOf _ _ _ _ _)) _ _ _); (k_here; k_dflt (refine' ld ?zzk1 ?zzk2 ?_; (case zzk1 => k_asm); (case zzk2 => assumption); k_whole)))
  k_with "MYcall" => ((with_reducible show wpAny _ _ (call (Value.builtin "list.insert") _ _) _ _ _); (k_here; k_dflt (refine' my_insert ?zzF ?zzN ?zzU ?zzhk ?zzz ?_; (case zzF => k_asm); (case zzN => k_asm); (case zzU => k_upd); (case zzhk => omega); (case zzz => omega); k_whole); intro _ _ _; (try k_sweep)))
  k_with "MYcall" => ((with_reducible show wpAny _ _ (call (Value.builtin "dict.get") _ _) _ _ _); (k_here; k_dflt (first | refine kdg_get1 (knd := PySem.intKind _ _) (by k_asm) (by k_mem) (by assumption) (by assumption) (intKind_is _ _ _ _) none (by assumption) ?_ | refine kdg_get1 (knd := PySem.intKind _ _) (by k_asm) (by k_mem) (by assumption) (by assumption) (intKind_is _ _ _ _) (some _) (by assumption) ?_); (try dsimp only [Option.getD])))
  k_with "MY getMethod ref" => ((with_reducible show wpAny _ _ (getMethod (Value.ref _) _ _) _ _ _); (k_here; (with_reducible show wpAny _ _ (getMethod (Value.ref _) (Str.ofString "get") _) _ _ _); k_dflt (refine kdg_method (knd := PySem.intKind _ _) (by k_asm) (by k_mem) (by assumption) ?_)))
  k_with "MY setItem ref int" => ((with_reducible show wpAny _ _ (setItem (Value.ref _) (Value.int _ _) _) _ _ _); (k_here; k_dflt (refine' kda_set (knd := PySem.intKind _ _) ?zzF ?zzN ?zzU ?zzd (intKind_is _ _ _ _) ?zzz ?_; (case zzF => k_asm); (case zzN => k_asm); (case zzU => k_updF); (case zzd => assumption); (case zzz => assumption)); intro _ _ _ _ _; (try dsimp only at N'); (try k_sweep)))
  k_with "MYcall" => ((with_reducible show wpAny _ _ (call (Value.builtin "len") _ _) _ _ _); (refine' my_lenT ?zzk1 ?zzk2 ?zzk3 ?_; (case zzk1 => k_asm); (case zzk2 => k_mem); (case zzk3 => omega); intro _ _))
  k_with "MY eval Call Attribute" => ((with_reducible show wpAny _ _ (eval (Expr.Call (Expr.Attribute _ _ _) _ [] _) _) _ _ _); (k_here; (with_reducible show wpAny _ _ (eval (Expr.Call (Expr.Attribute _ _ _) _ [] _) _) _ _ _); ks_star; refine star_method ?_))
  k_with "MY callWith ref" => ((with_reducible show wpAny _ _ (callWith _ (Value.ref _) _ _ []) _ _ _); (k_here; (with_reducible show wpAny _ _ (callWith _ (Value.ref _) _ (backTo _ (starEach [Expr.Starred _ _] _)) []) _ _ _); k_dflt (refine' callWith_MS ?zzX ?zzN ?zzq ?zzk2 ?_; (case zzX => k_asm); (case zzN => k_asm); (case zzq => k_mem); (case zzk2 => k_is); k_whole)))
  k_with "MY callWith ref" => ((with_reducible show wpAny _ _ (callWith _ (Value.ref _) _ _ []) _ _ _); (k_here; (with_reducible show wpAny _ _ (callWith _ (Value.ref _) _ (backTo _ (starEach (_ :: _ :: _) _)) []) _ _ _); ks_star; k_dflt (refine' callWith_MS2 ?zzX ?zzN ?zzq ?zzk2 ?_; (case zzX => k_asm); (case zzN => k_asm); (case zzq => k_mem); (case zzk2 => k_is); k_whole)))
  k_with "MY StarOf ref" => ((with_reducible show StarOf _ _ _ (Value.ref _) _ _); (k_here; k_dflt (first | (refine' my_star ?zzF ?zzN ?zzm ?zzi ?zzz ?_; (case zzF => k_asm); (case zzN => k_asm); (case zzm => k_mem); (case zzi => assumption); (case zzz => omega); k_whole) | (refine' my_starT ?zzF ?zzN ?zzm ?zzi ?zzz ?_; (case zzF => k_asm); (case zzN => k_asm); (case zzm => k_mem); (case zzi => assumption); (case zzz => omega); k_whole)); intro _ _ _; (try k_sweep); (try dsimp only [List.nil_append, List.cons_append])))
  k_with "MY compareOp In int ref" => ((with_reducible show wpAny _ _ (compareOp CmpOp.In (Value.int _ _) (Value.ref _)) _ _ _); (k_here; k_dflt (first | (refine' kse_in (knd := PySem.intKind _ _) ?zzN ?zzU ?zzd ?zzz (intKind_is _ _ _ _) rfl ?_; (case zzN => k_asm); (case zzU => k_updF); (case zzd => assumption); (case zzz => (show _ < 4096; omega))) | (refine' kda_in (knd := PySem.intKind _ _) ?zzN ?zzm ?zzd ?zzlo (intKind_is _ _ _ _) false ?zzb ?_; (case zzN => k_asm); (case zzm => k_mem); (case zzd => assumption); (case zzlo => assumption); (case zzb => assumption))); (try dsimp only)))
  k_with "MY getMethod ref" => ((with_reducible show wpAny _ _ (getMethod (Value.ref _) _ _) _ _ _); (k_here; (with_reducible show wpAny _ _ (getMethod (Value.ref _) (Str.ofString "add") _) _ _ _); k_dflt (refine' kse_method (knd := PySem.intKind _ _) ?zzN ?zzU ?zzd ?zzz ?_; (case zzN => k_asm); (case zzU => k_updF); (case zzd => assumption); (case zzz => (show _ < 4096; omega)))))
  k_with "MYcall" => ((with_reducible show wpAny _ _ (call (Value.builtin "set.add") _ _) _ _ _); (k_here; k_dflt (refine' kse_add (knd := PySem.intKind _ _) ?zzF ?zzN ?zzU ?zzd ?zzz (intKind_is _ _ _ _) rfl ?_; (case zzF => k_asm); (case zzN => k_asm); (case zzU => k_updF); (case zzd => assumption); (case zzz => (show _ < 4096; omega))); intro _ _ _ _ _; (try dsimp only at N'); (try k_sweep)))
  k_with "MY subscriptTail" => ((with_reducible show wpAny _ _ (subscriptTail _ _ (Value.ref _) _) _ _ _); ((with_reducible show wpAny _ _ (subscriptTail _ _ (Value.ref _) (Value.int _ _)) _ _ _); with_unfolding_all refine' kda_item (knd := PySem.intKind _ _) ?zzk1 ?zzk2 ?zzk3 (intKind_is _ _ _ _) ?zzk4 ?_ ?zzk7 ?zzk8; (case zzk1 => k_asm); (case zzk2 => k_mem); (case zzk3 => assumption); (case zzk4 => assumption); (case zzk7 => with_unfolding_all rfl); (case zzk8 => (intro _; with_unfolding_all rfl))))
  k_with "MYcall" => ((with_reducible show wpAny _ _ (call (Value.builtin "iter") _ _) _ _ _); (k_here; k_dflt (refine' my_iter ?zzF ?zzN ?zzm ?_; (case zzF => k_asm); (case zzN => k_asm); (case zzm => k_mem)); intro _ _ _ _ zl; (try k_lt zl); (revert zl; intro _); (try k_sweep)))
  k_with "MY getAttr ref" => ((with_reducible show wpAny _ _ (getAttr (Value.ref _) _ _) _ _ _); (k_here; (with_reducible show wpAny _ _ (getAttr (Value.ref _) (Str.ofString "__next__") _) _ _ _); k_dflt (refine' mw_getattr ?zzF ?zzN ?zzm ?_; (case zzF => k_asm); (case zzN => k_asm); (case zzm => k_mem)); intro _ _ _ _ _ zl; (try k_lt zl); (revert zl; intro _); (try k_sweep)))
  k_with "MY truthy ref" => ((with_reducible show wpAny _ _ (truthy (Value.ref _)) _ _ _); (k_here; (with_reducible show wpAny _ _ (truthy (Value.ref _)) _ _ _); k_dflt (refine' my_truthy ?zzN ?zzm ?zzz _ ?zzb ?_; (case zzN => k_asm); (case zzm => k_mem); (case zzz => assumption); (case zzb => assumption)); intro _; (try dsimp only)))
  k_with "MY subscriptTail" => ((with_reducible show wpAny _ _ (subscriptTail _ _ (Value.ref _) _) _ _ _); ((with_reducible show wpAny _ _ (subscriptTail _ _ (Value.ref _) (Value.int (-1) _)) _ _ _); k_dflt (refine' my_last ?zzN ?zzm ?zzz ?_ ?zze; (case zzN => k_asm); (case zzm => k_mem); (case zzz => assumption); (case zze => with_unfolding_all rfl))))
  k_with "MY callWith ref" => ((with_reducible show wpAny _ _ (callWith _ (Value.ref _) _ _ []) _ _ _); (k_here; (with_reducible show wpAny _ _ (callWith _ (Value.ref _) _ (backTo _ (starEach [] _)) []) _ _ _); k_dflt (refine' callWith_W ?zzN ?zzq ?_; (case zzN => k_asm); (case zzq => k_mem)); (try dsimp only [List.nil_append])))
  k_with "MYcall" => ((with_reducible show wpAny _ _ (call (Value.builtin "list.pop") _ _) _ _ _); (k_here; k_dflt (refine' my_pop ?zzF ?zzN ?zzU ?zzz ?_; (case zzF => k_asm); (case zzN => k_asm); (case zzU => k_upd); (case zzz => omega)); intro _ _ _; (try k_sweep)))
  k_with "MY delItem ref int" => ((with_reducible show wpAny _ _ (delItem (Value.ref _) (Value.int _ _)) _ _ _); (k_here; k_dflt (refine' kob_del (knd := PySem.intKind _ _) ?zzF ?zzN ?zzU ?zzd (intKind_is _ _ _ _) ?zzl ?zzz ?_; (case zzF => k_asm); (case zzN => k_asm); (case zzU => k_updF); (case zzd => assumption); (case zzl => assumption); (case zzz => assumption)); intro _ _ _ _ _; (try dsimp only at N')))
  k_with "MY getMethod ref" => ((with_reducible show wpAny _ _ (getMethod (Value.ref _) _ _) _ _ _); (k_here; (with_reducible show wpAny _ _ (getMethod (Value.ref _) (Str.ofString "values") _) _ _ _); k_dflt (refine kdl_method (knd := PySem.intKind _ _) PySem.F.slot_dict_values PySem.F.type_dict_values (by k_asm) (by k_mem) (by assumption) ?_)))
  k_with "MYcall" => ((with_reducible show wpAny _ _ (call (Value.builtin "dict.values") _ _) _ _ _); (k_here; k_dflt (refine kdl_view_values (knd := PySem.intKind _ _) (by k_asm) (by k_asm) (by k_mem) (by assumption) (by assumption) ?_); intro _ _ _ _ zl; (try k_lt zl); (revert zl; intro _); (try k_sweep)))
  k_with "MYcall" => ((with_reducible show wpAny _ _ (call (Value.type "bool") _ _) _ _ _); (k_here; k_dflt (refine' my_bool ?zzN ?zzm ?zzz _ ?zzb ?_; (case zzN => k_asm); (case zzm => k_mem); (case zzz => assumption); (case zzb => assumption)); intro _; (try dsimp only)))
  k_with "MYcall" => ((with_reducible show wpAny _ _ (call (Value.type "tuple") _ _) _ _ _); (k_here; k_dflt (refine' my_tupleOf ?zzF ?zzN ?zzm ?zzz ?_; (case zzF => k_asm); (case zzN => k_asm); (case zzm => k_mem); (case zzz => omega)); intro _ _ _ _ zl; (revert zl; intro _); (try k_sweep)))
  k_with "MYcall" => ((with_reducible show wpAny _ _ (call (Value.builtin "list.clear") _ _) _ _ _); (k_here; k_dflt (refine' my_clear ?zzF ?zzN ?zzU ?zzz ?_; (case zzF => k_asm); (case zzN => k_asm); (case zzU => k_upd); (case zzz => omega)); intro _ _ _; (try k_sweep)))
  k_with "MY compareOp NotIn int ref" => ((with_reducible show wpAny _ _ (compareOp CmpOp.NotIn (Value.int _ _) (Value.ref _)) _ _ _); (k_here; k_dflt (refine' my_notin ?zzN ?zzm ?zzi ?_; (case zzN => k_asm); (case zzm => k_mem); (case zzi => assumption)); (try dsimp only)))
  k_with "MYcall" => ((with_reducible show wpAny _ _ (call (Value.builtin "sorted") _ _) _ _ _); (k_here; k_dflt (refine' my_sorted ?zzF ?zzN ?zzm ?zzi ?zzz ?_; (case zzF => k_asm); (case zzN => k_asm); (case zzm => k_mem); (case zzi => assumption); (case zzz => omega)); intro _ _ _ _ _ _ _ zl _ _ _; (try k_lt zl); (revert zl; intro _); (try k_sweep)))
  k_with "MY binaryOp Add ref ref" => ((with_reducible show wpAny _ _ (binaryOp Operator.Add (Value.ref _) (Value.ref _)) _ _ _); (k_here; k_dflt (refine' my_addL ?zzF ?zzN ?zzm ?zzm2 ?zzz ?_; (case zzF => k_asm); (case zzN => k_asm); (case zzm => k_mem); (case zzm2 => k_mem); (case zzz => assumption)); intro _ _ _ _ zl; (try k_lt zl); (revert zl; intro _); (try k_sweep)))
  k_with "MYcall" => ((with_reducible show wpAny _ _ (call (Value.type "list") _ _) _ _ _); (k_here; k_dflt (refine' my_copy ?zzF ?zzN ?zzm ?zzz ?_; (case zzF => k_asm); (case zzN => k_asm); (case zzm => k_mem); (case zzz => omega)); intro _ _ _ _ _ zl; (try k_lt zl); (revert zl; intro _); (try k_sweep)))
  k_with "MYcall" => ((with_reducible show wpAny _ _ (call (Value.builtin "list.pop") _ _) _ _ _); (k_here; (with_reducible show wpAny _ _ (call (Value.builtin _) [Value.ref _, Value.int _ _]) _ _ _); k_dflt (refine' my_popAt ?zzF ?zzN ?zzU ?zzi ?zzz ?_; (case zzF => k_asm); (case zzN => k_asm); (case zzU => k_upd); (case zzi => assumption); (case zzz => omega)); intro _ _ _; (try k_sweep)))
  k_with "MY compareOp NotEq ref ref" => ((with_reducible show wpAny _ _ (compareOp CmpOp.NotEq (Value.ref _) (Value.ref _)) _ _ _); (k_here; k_dflt (refine' my_ne ?zzN ?zzm ?zzm2 ?zzi ?zzj ?zzu ?_; (case zzN => k_asm); (case zzm => k_mem); (case zzm2 => k_mem); (case zzi => assumption); (case zzj => assumption); (case zzu => assumption)); (try dsimp only)))
  k_with "MINE" => ((with_reducible show wpAny _ _ (call _ _ _) _ _ _); k_extra "MYcall")
  k_with "MINE" => ((with_reducible show wpAny _ _ (subscriptTail _ _ (Value.ref _) _) _ _ _); k_extra "MY subscriptTail")
  k_with "MINE" => ((with_reducible show wpAny _ _ (eval (Expr.Name _ _) (envOf _ _ _ _ _)) _ _ _); k_extra "MY eval Name")
  k_with "MINE" => ((with_reducible show wpAny _ _ (getMethod (Value.ref _) _ _) _ _ _); k_extra "MY getMethod ref")
  k_with "MINE" => ((with_reducible show wpAny _ _ (setItem (Value.ref _) (Value.int _ _) _) _ _ _); k_extra "MY setItem ref int")
  k_with "MINE" => ((with_reducible show wpAny _ _ (eval (Expr.Call (Expr.Attribute _ _ _) _ [] _) _) _ _ _); k_extra "MY eval Call Attribute")
  k_with "MINE" => ((with_reducible show wpAny _ _ (callWith _ (Value.ref _) _ _ []) _ _ _); k_extra "MY callWith ref")
  k_with "MINE" => ((with_reducible show StarOf _ _ _ (Value.ref _) _ _); k_extra "MY StarOf ref")
  k_with "MINE" => ((with_reducible show wpAny _ _ (compareOp CmpOp.In (Value.int _ _) (Value.ref _)) _ _ _); k_extra "MY compareOp In int ref")
  k_with "MINE" => ((with_reducible show wpAny _ _ (getAttr (Value.ref _) _ _) _ _ _); k_extra "MY getAttr ref")
  k_with "MINE" => ((with_reducible show wpAny _ _ (truthy (Value.ref _)) _ _ _); k_extra "MY truthy ref")
  k_with "MINE" => ((with_reducible show wpAny _ _ (delItem (Value.ref _) (Value.int _ _)) _ _ _); k_extra "MY delItem ref int")
  k_with "MINE" => ((with_reducible show wpAny _ _ (compareOp CmpOp.NotIn (Value.int _ _) (Value.ref _)) _ _ _); k_extra "MY compareOp NotIn int ref")
  k_with "MINE" => ((with_reducible show wpAny _ _ (binaryOp Operator.Add (Value.ref _) (Value.ref _)) _ _ _); k_extra "MY binaryOp Add ref ref")
  k_with "MINE" => ((with_reducible show wpAny _ _ (compareOp CmpOp.NotEq (Value.ref _) (Value.ref _)) _ _ _); k_extra "MY compareOp NotEq ref ref")
  k_with "MINE steps" => (w_strict (repeat' (first | (k_unfold; (try dsimp only)) | ((fail_if_success (with_reducible show wpAny _ _ _ _ _ _)); refine CutG.out (by assumption) _ _ _ ?_; (try clear khb); (try clear kQb); (try clear ko); (try clear kd); (try clear kg); (try dsimp only)) | ((fail_if_success (with_reducible show wpAny _ _ _ _ _ _)); refine CutH.out (by assumption) _ _ ?_; (try clear kha); (try clear kQa)) | ((with_reducible show wpAny _ _ (execs (_ :: _) _) _ _ _); (first | (refine execs_cut1 (by assumption) ?_; intro kg kd ko _ kQb khb) | (refine execs_cut2 (by assumption) ?_; intro _) | (refine cutQ ?_; intro kQa kha))) | ((fail_if_success (with_reducible show wpAny _ _ (exec (Stmt.While _ _ _ _) _) _ _ _)); (fail_if_success (with_reducible show wpAny _ _ (eval (Expr.ListComp _ _ _ _) _) _ _ _)); (fail_if_success (with_reducible show wpAny _ _ (exec (Stmt.Try _ _ _ _ _) _) _ _ _)); (fail_if_success (with_reducible show wpAny _ _ (exec (Stmt.For _ _ _ _ _) _) _ _ _)); (first | k_extra "MINE" | walk1 | (dsimp only; walk1)))  | fail "no step")))
  k_with "MINE plain" => (w_strict (repeat' (first | (k_unfold; (try dsimp only)) | ((fail_if_success (with_reducible show wpAny _ _ _ _ _ _)); refine CutH.out (by assumption) _ _ ?_; (try clear kha); (try clear kQa)) | ((fail_if_success (with_reducible show wpAny _ _ (exec (Stmt.While _ _ _ _) _) _ _ _)); (fail_if_success (with_reducible show wpAny _ _ (eval (Expr.ListComp _ _ _ _) _) _ _ _)); (fail_if_success (with_reducible show wpAny _ _ (exec (Stmt.Try _ _ _ _ _) _) _ _ _)); (fail_if_success (with_reducible show wpAny _ _ (exec (Stmt.For _ _ _ _ _) _) _ _ _)); (first | k_extra "MINE" | walk1 | (dsimp only; walk1)))  | fail "no step")))
  k_with "MY subscriptTail Name Slice ref ref" => ((with_reducible show wpAny _ _ (subscriptTail _ (PySem.Expr.Slice _ _ none _) (Value.ref _) (Value.ref _)) _ _ _); (k_here; (with_reducible show wpAny _ _ (subscriptTail _ (PySem.Expr.Slice _ _ none _) (Value.ref _) (Value.ref _)) _ _ _); k_dflt (refine' kmk_slice_ints ?zzF ?zzN ?zzl ?zzp ?zzq ?zzi ?zzm ?zzc ?_ ?zzs ?zzt ?zzz; (case zzF => k_asm); (case zzN => k_asm); (case zzl => exact News.isList (by k_asm) (by k_mem)); (case zzp => kmk_part); (case zzq => kmk_part); (case zzi => assumption); (case zzm => first | with_reducible exact kmk_upto (by assumption) (by omega) | with_reducible exact kmk_run (by assumption) (by omega) (by omega) | with_reducible exact kmk_from_neg (by assumption) (by decide)); (case zzc => kmk_len); (case zzs => with_unfolding_all rfl); (case zzt => kmk_pure); (case zzz => (rw [List.size_toArray, sizeLine_eq]; omega))); intro _ _ _ _ _ zl _ _ _; (try k_lt zl); (revert zl; intro _); (try k_sweep)))
  k_with "MINE" => ((with_reducible show wpAny _ _ (subscriptTail _ (PySem.Expr.Slice _ _ none _) (Value.ref _) (Value.ref _)) _ _ _); k_extra "MY subscriptTail Name Slice ref ref")
  trivial
def lastOf (xs : List Int) : List Int := xs.drop (xs.length - 1)
def addsBelow (v : Int) (ps : List Int) (G : List ANode) : List ANode := ps.foldl (fun a u => addSucc u v (ens u a)) (addNp v ps.length (ens v G))
def addsAbove (v : Int) (us : List Int) (G : List ANode) : List ANode := us.foldl (fun a u => addsBelow u [v] a) G
theorem slice_one {xs : List Int} {k : Nat} (hk : k ≤ xs.length) : List.take (min ((k : Int) + 1).toNat xs.length - ((k : Int)).toNat) (List.drop ((k : Int)).toNat xs) = (xs.drop k).take 1 := by
  rw [Int.toNat_natCast, show ((k : Int) + 1).toNat = k + 1 by omega]
  rcases Nat.lt_or_ge k xs.length with h | h
  · rw [Nat.min_eq_left (by omega), show k + 1 - k = 1 by omega]
  · rw [List.drop_eq_nil_of_le h]; simp

theorem last1 (n : Nat) : n - (n - 1) ≤ 1 := by omega
theorem place_uniq {xs : List Int} {v : Int} {j k : Nat} (hj : j ≤ xs.length) (hk : k ≤ xs.length) (a1 : ∀ y ∈ xs.take j, y < v) (a2 : ∀ y ∈ xs.drop j, v ≤ y) (b1 : ∀ y ∈ xs.take k, y < v) (b2 : ∀ y ∈ xs.drop k, v ≤ y) : j = k := by
  rcases Nat.lt_trichotomy j k with h | h | h
  · have hx : j < xs.length := by omega
    have h1 := a2 xs[j] (List.mem_drop_iff_getElem.mpr ⟨0, by omega, rfl⟩)
    have h2 := b1 xs[j] (List.mem_take_iff_getElem.mpr ⟨j, by omega, rfl⟩)
    omega
  · exact h
  · have hx : k < xs.length := by omega
    have h1 := b2 xs[k] (List.mem_drop_iff_getElem.mpr ⟨0, by omega, rfl⟩)
    have h2 := a1 xs[k] (List.mem_take_iff_getElem.mpr ⟨k, by omega, rfl⟩)
    omega

theorem comes_spec {w : World} {A A₀ : Around} {env : Env} {outer : List Env} {base h₀ : Heap} {L : Addr} {m mg mb : Str → Option Value} {p : Program} {loose : List Str} {mean : ExcName → Option Value} {s : Shared} {rest : List (Addr × Obj)} {R : Result → Shared → Prop}
    {σ : Srt} {po nf : Int} {tp tf : Tok} {oD : Obj} {G : List NodeR} {v : Int} {tv : Tok} {b : Nat} {a : Addr} {vs : List Value} {xs : List Int} {n : Nat}
    (C : Cx w A A₀ env outer base h₀ L m mg mb p loose mean s.heap ((a, W.listOf vs.toArray n) :: gl w σ .none po tp nf tf oD G rest) 896) (ha : a ∉ (gl w σ .none po tp nf tf oD G rest).map (·.1)) (g : GOK w σ oD G rest b) (hb : b + 10 ≤ 1000) (hi : IntsAre vs xs) (hlen : xs.length ≤ 500) (hs : xs.Pairwise (· < ·)) 
    (hR : ∀ h' tk oD' G' k t vs' n', Fr h₀ L h' m → News h₀ L h' ((a, W.listOf vs'.toArray n') :: gl w σ .none po tp nf tf oD' G' rest) → a ∉ (gl w σ .none po tp nf tf oD' G' rest).map (·.1) → GOK w σ oD' G' rest (b + 10) → IntsAre vs' (xs.take k ++ v :: xs.drop k) → k ≤ xs.length → (∀ y ∈ xs.take k, y < v) → (∀ y ∈ xs.drop k, v ≤ y) →
      G'.map NodeR.abs = addsAbove v ((xs.drop k).take 1) (addsBelow v (lastOf (xs.take k)) (G.map NodeR.abs)) → R (.ok (.ret (.int k t))) { s with heap := h', toks := tk }) :
    codeAny (model PySem.Challenge.rw_mr0333_01.row.prog w) A (.call (.ref 175) ⟨[.ref a, .int v tv, .ref σ.S], []⟩) R s := by
  obtain ⟨B, F, X, N, T, hA, hf, hke, hdep, hh⟩ := C
  revert X
  k_fill
  intro X
  have hl := hi.length
  refine' enterD (binds := [(Str.ofString "row", .ref a), (Str.ofString "value", .int v tv), (Str.ofString "sorter", .ref σ.S)]) B F X N T hA hf hke (by k_is) (by k_is) (by show A.depth < 1000; omega) (kp_binds (by k_in) (fun _ => rfl)) (locs rfl) ?_ rfl rfl rfl (by decide)
  intro g' L' h' FG' F' N' B' X' T' hA'
  walk_at "MINE steps"
  refine wpAny_call (bl_spec ⟨B', F', X', N', T', hA', rfl, rfl, by show A.depth + 1 ≤ 900; omega, hh⟩ (List.Mem.head _) hi (by omega) hs (.inl rfl) ?_)
  intro h2 tk2 t2 k F2 N2 hk h4 h5
  clear F' N'
  walk_at "MINE steps"
  rename News _ _ _ _ => N3
  rename Fr _ _ _ _ => F3
  rename IntsAre _ _ => hI3
  have N4 : News g' L' _ ((a, W.listOf vs.toArray n) :: gl w σ .none po tp nf tf oD G rest) := News.sub N3 (fun q hq => .tail _ (.tail _ (.tail _ hq)))
  refine' call_meth N3 (by k_mem) ?_
  simp only [List.append_nil, Int.toNat_natCast] at hI3 ⊢
  have hl3 := hI3.length
  rw [List.length_drop] at hl3
  replace hl3 := Nat.le_trans (Nat.le_of_eq hl3) (last1 _)
  refine' add_spec ⟨B', F3, X', News.perm N4 gl_push_perm, T', hA', rfl, rfl, by show A.depth + 1 ≤ 897; omega, hh⟩ (GOK.push' g ha) (by omega) hI3 (by omega) ?_
  intro h6 tk6 oD1 G1 F6 N6 g1 e1
  clear N3 N4 F3
  walk_at "MINE steps"
  refine For_start ?_
  walk_at "MINE steps"
  rename News _ _ _ _ => N7
  rename Fr _ _ _ _ => F7
  rename IntsAre _ _ => hI7
  rename _ ∧ _ ∧ _ ∧ AllLt _ _ => l7
  rename Addr => D7
  rename List Value => ws7
  rw [slice_one hk] at hI7
  have hl7 := hI7.length
  have hl8 := List.length_take_le 1 (xs.drop k)
  have gD : GOK w σ oD1 G1 ((D7, W.listOf ws7.toArray 0) :: (a, W.listOf vs.toArray n) :: rest) (b + 3) := (GOK.push (rv := .none) (po := po) (nf := nf) (tp := tp) (tf := tf) g1 (by
    intro q hq
    rcases List.mem_cons.mp hq with rfl | hq
    · exact l7.1
    rcases List.mem_cons.mp hq with rfl | hq
    · exact l7.2.1
    rcases List.mem_cons.mp hq with rfl | hq
    · exact l7.2.2.1
    · exact kst_ltOf l7.2.2.2 q hq)).mono (by omega)
  refine ForL.list hh F7 (News.perm N7 gl_push_perm) (by k_mem) (fun i m₁ n₁ => ∃ oD3 G3, n₁ = gl w σ .none po tp nf tf oD3 G3 ((D7, W.listOf ws7.toArray 0) :: (a, W.listOf vs.toArray n) :: rest) ∧ GOK w σ oD3 G3 ((D7, W.listOf ws7.toArray 0) :: (a, W.listOf vs.toArray n) :: rest) (b + 3 + 3 * i) ∧
    G3.map NodeR.abs = addsAbove v (((xs.drop k).take 1).take i) (G1.map NodeR.abs) ∧ m₁ (Str.ofString "row") = some (.ref a) ∧ m₁ (Str.ofString "value") = some (.int v tv) ∧ m₁ (Str.ofString "sorter") = some (.ref σ.S) ∧ m₁ (Str.ofString "place") = some (.int k t2)) ?_ (fun _ _ => rfl) ?_ ?_
  · exact ⟨oD1, G1, rfl, gD, rfl, rfl, rfl, rfl, rfl⟩
  · rintro I i x m₁ n₁ oI h tk hx ⟨oD3, G3, rfl, g3, e3, mr, mv, ms, mp⟩ hD hI lI F8 N8
    obtain ⟨u, t, rfl, hu'⟩ := hI7.at i x hx
    have hlt : i < ws7.length := (List.getElem?_eq_some_iff.mp hx).1
    clear hI3 hl3 l7 N7 F7 e1 g1 gD
    walk_at "MINE steps"
    rename News _ _ _ _ => N9
    rename Fr _ _ _ _ => F9
    refine wpAny_call (add_spec (us := [.int v tv]) (ys := [v]) ⟨B', F9, X', News.perm N9 gl_push_perm, T', hA', rfl, rfl, by show A.depth + 1 ≤ 897; omega, hh⟩ (GOK.push' g3 hI) (by simp only [List.length_singleton]; omega) (.cons _ _ .nil) (Nat.le_refl _) ?_)
    intro h10 tk10 oD4 G4 F10 N10 g4 e4
    clear N9 F9
    walk_at "MINE steps"
    rename Fr _ _ _ _ => F11
    rename News _ _ _ _ => N11
    have hI' := g4.nm .none po tp nf tf
    refine ⟨_, _, _, gl w σ .none po tp nf tf oD4 G4 ((D7, W.listOf ws7.toArray 0) :: (a, W.listOf vs.toArray n) :: rest), rfl, F11, News.perm N11 gl_push_perm.symm, ?_, hI', oD4, G4, rfl, g4.tail.mono (by simp only [List.length_singleton]; omega), ?_, mr, mv, ms, mp⟩
    · intro q hq
      rw [List.mem_singleton.mp hq]
      k_mem
    · rw [e4, e3, addsAbove, addsAbove, List.take_add_one (i := i), hu', List.foldl_append]; rfl
  · rintro m' n₁ h tk F6 N7 hD ⟨oD3, G3, rfl, g3, e3, mr, mv, ms, mp⟩
    rw [hl7, List.take_length, e1] at e3
    clear hI3 hl3 l7 e1 g1 gD
    walk_at "MINE steps"
    rename News _ _ _ _ => N8
    rename Fr _ _ _ _ => F8
    have g9 := g3.tail
    have N9 : News g' L' _ ((a, W.listOf vs.toArray n) :: gl w σ .none po tp nf tf oD3 G3 rest) := News.perm (News.sub N8 (fun q hq => gl_push_perm.mem_iff.mp (.tail _ hq))) gl_push_perm.symm
    have ha9 := g9.nm .none po tp nf tf
    refine wpAny_call (is_spec ⟨B', F8, X', N9, T', hA', rfl, rfl, by show A.depth + 1 ≤ 899; omega, hh⟩ ha9 hi (by omega) hs ?_)
    intro h10 tk10 k' vs' n' F10 N10 hi' hk' b1 b2
    have ek := place_uniq hk' hk b1 b2 h4 h5
    subst ek
    clear N8 F8 N9
    walk_at "MINE steps"
    exact hR _ _ oD3 G3 k' t2 vs' n' (by assumption) (by assumption) ha9 (g9.tail.mono (by omega)) hi' hk' b1 b2 e3

end Mine
-- P8
namespace Mine
open PySem PySem.W PyProof.Rows
example : True := by
  k_with_none
  k_with "MYcall" => ((with_reducible show wpAny _ _ (call (Value.builtin "len") _ _) _ _ _); (refine' my_len ?zzk1 ?zzk2 ?zzk3 ?_; (case zzk1 => k_asm); (case zzk2 => k_mem); (case zzk3 => omega); intro _ _))
  k_with "MY subscriptTail" => ((with_reducible show wpAny _ _ (subscriptTail _ _ (Value.ref _) _) _ _ _); ((with_reducible show wpAny _ _ (subscriptTail _ _ (Value.ref _) (Value.int _ _)) _ _ _); with_unfolding_all refine' my_item ?zzk1 ?zzk2 ?zzk3 ?zzk4 ?zzk5 ?zzk6 ?_ ?zzk7; (case zzk1 => k_asm); (case zzk2 => k_mem); (case zzk3 => assumption); (case zzk4 => omega); (case zzk5 => omega); (case zzk6 => omega); (case zzk7 => with_unfolding_all rfl);  intro _))
  k_with "MY eval Name" => ((with_reducible show wpAny _ _ (eval (Expr.Name _ _) (envOf _ _ _ _ _)) _ _ _); (k_here; k_dflt (refine' ld ?zzk1 ?zzk2 ?_; (case zzk1 => k_asm); (case zzk2 => assumption); k_whole)))
  k_with "MYcall" => ((with_reducible show wpAny _ _ (call (Value.builtin "list.insert") _ _) _ _ _); (k_here; k_dflt (refine' my_insert ?zzF ?zzN ?zzU ?zzhk ?zzz ?_; (case zzF => k_asm); (case zzN => k_asm); (case zzU => k_upd); (case zzhk => omega); (case zzz => omega); k_whole); intro _ _ _; (try k_sweep)))
  k_with "MYcall" => ((with_reducible show wpAny _ _ (call (Value.builtin "dict.get") _ _) _ _ _); (k_here; k_dflt (first | refine kdg_get1 (knd := PySem.intKind _ _) (by k_asm) (by k_mem) (by assumption) (by assumption) (intKind_is _ _ _ _) none (by assumption) ?_ | refine kdg_get1 (knd := PySem.intKind _ _) (by k_asm) (by k_mem) (by assumption) (by assumption) (intKind_is _ _ _ _) (some _) (by assumption) ?_); (try dsimp only [Option.getD])))
  k_with "MY getMethod ref" => ((with_reducible show wpAny _ _ (getMethod (Value.ref _) _ _) _ _ _); (k_here; (with_reducible show wpAny _ _ (getMethod (Value.ref _) (Str.ofString "get") _) _ _ _); k_dflt (refine kdg_method (knd := PySem.intKind _ _) (by k_asm) (by k_mem) (by assumption) ?_)))
  k_with "MY setItem ref int" => ((with_reducible show wpAny _ _ (setItem (Value.ref _) (Value.int _ _) _) _ _ _); (k_here; k_dflt (refine' kda_set (knd := PySem.intKind _ _) ?zzF ?zzN ?zzU ?zzd (intKind_is _ _ _ _) ?zzz ?_; (case zzF => k_asm); (case zzN => k_asm); (case zzU => k_updF); (case zzd => assumption); (case zzz => assumption)); intro _ _ _ _ _; (try dsimp only at N'); (try k_sweep)))
  k_with "MYcall" => ((with_reducible show wpAny _ _ (call (Value.builtin "len") _ _) _ _ _); (refine' my_lenT ?zzk1 ?zzk2 ?zzk3 ?_; (case zzk1 => k_asm); (case zzk2 => k_mem); (case zzk3 => omega); intro _ _))
  k_with "MY eval Call Attribute" => ((with_reducible show wpAny _ _ (eval (Expr.Call (Expr.Attribute _ _ _) _ [] _) _) _ _ _); (k_here; (with_reducible show wpAny _ _ (eval (Expr.Call (Expr.Attribute _ _ _) _ [] _) _) _ _ _); ks_star; refine star_method ?_))
  k_with "MY callWith ref" => ((with_reducible show wpAny _ _ (callWith _ (Value.ref _) _ _ []) _ _ _); (k_here; (with_reducible show wpAny _ _ (callWith _ (Value.ref _) _ (backTo _ (starEach [Expr.Starred _ _] _)) []) _ _ _); k_dflt (refine' callWith_MS ?zzX ?zzN ?zzq ?zzk2 ?_; (case zzX => k_asm); (case zzN => k_asm); (case zzq => k_mem); (case zzk2 => k_is); k_whole)))
  k_with "MY callWith ref" => ((with_reducible show wpAny _ _ (callWith _ (Value.ref _) _ _ []) _ _ _); (k_here; (with_reducible show wpAny _ _ (callWith _ (Value.ref _) _ (backTo _ (starEach (_ :: _ :: _) _)) []) _ _ _); ks_star; k_dflt (refine' callWith_MS2 ?zzX ?zzN ?zzq ?zzk2 ?_; (case zzX => k_asm); (case zzN => k_asm); (case zzq => k_mem); (case zzk2 => k_is); k_whole)))
  k_with "MY StarOf ref" => ((with_reducible show StarOf _ _ _ (Value.ref _) _ _); (k_here; k_dflt (first | (refine' my_star ?zzF ?zzN ?zzm ?zzi ?zzz ?_; (case zzF => k_asm); (case zzN => k_asm); (case zzm => k_mem); (case zzi => assumption); (case zzz => omega); k_whole) | (refine' my_starT ?zzF ?zzN ?zzm ?zzi ?zzz ?_; (case zzF => k_asm); (case zzN => k_asm); (case zzm => k_mem); (case zzi => assumption); (case zzz => omega); k_whole)); intro _ _ _; (try k_sweep); (try dsimp only [List.nil_append, List.cons_append])))
  k_with "MY compareOp In int ref" => ((with_reducible show wpAny _ _ (compareOp CmpOp.In (Value.int _ _) (Value.ref _)) _ _ _); (k_here; k_dflt (first | (refine' kse_in (knd := PySem.intKind _ _) ?zzN ?zzU ?zzd ?zzz (intKind_is _ _ _ _) rfl ?_; (case zzN => k_asm); (case zzU => k_updF); (case zzd => assumption); (case zzz => (show _ < 4096; omega))) | (refine' kda_in (knd := PySem.intKind _ _) ?zzN ?zzm ?zzd ?zzlo (intKind_is _ _ _ _) false ?zzb ?_; (case zzN => k_asm); (case zzm => k_mem); (case zzd => assumption); (case zzlo => assumption); (case zzb => assumption))); (try dsimp only)))
  k_with "MY getMethod ref" => ((with_reducible show wpAny _ _ (getMethod (Value.ref _) _ _) _ _ _); (k_here; (with_reducible show wpAny _ _ (getMethod (Value.ref _) (Str.ofString "add") _) _ _ _); k_dflt (refine' kse_method (knd := PySem.intKind _ _) ?zzN ?zzU ?zzd ?zzz ?_; (case zzN => k_asm); (case zzU => k_updF); (case zzd => assumption); (case zzz => (show _ < 4096; omega)))))
  k_with "MYcall" => ((with_reducible show wpAny _ _ (call (Value.builtin "set.add") _ _) _ _ _); (k_here; k_dflt (refine' kse_add (knd := PySem.intKind _ _) ?zzF ?zzN ?zzU ?zzd ?zzz (intKind_is _ _ _ _) rfl ?_; (case zzF => k_asm); (case zzN => k_asm); (case zzU => k_updF); (case zzd => assumption); (case zzz => (show _ < 4096; omega))); intro _ _ _ _ _; (try dsimp only at N'); (try k_sweep)))
  k_with "MY subscriptTail" => ((with_reducible show wpAny _ _ (subscriptTail _ _ (Value.ref _) _) _ _ _); ((with_reducible show wpAny _ _ (subscriptTail _ _ (Value.ref _) (Value.int _ _)) _ _ _); with_unfolding_all refine' kda_item (knd := PySem.intKind _ _) ?zzk1 ?zzk2 ?zzk3 (intKind_is _ _ _ _) ?zzk4 ?_ ?zzk7 ?zzk8; (case zzk1 => k_asm); (case zzk2 => k_mem); (case zzk3 => assumption); (case zzk4 => assumption); (case zzk7 => with_unfolding_all rfl); (case zzk8 => (intro _; with_unfolding_all rfl))))
  k_with "MYcall" => ((with_reducible show wpAny _ _ (call (Value.builtin "iter") _ _) _ _ _); (k_here; k_dflt (refine' my_iter ?zzF ?zzN ?zzm ?_; (case zzF => k_asm); (case zzN => k_asm); (case zzm => k_mem)); intro _ _ _ _ zl; (try k_lt zl); (revert zl; intro _); (try k_sweep)))
  k_with "MY getAttr ref" => ((with_reducible show wpAny _ _ (getAttr (Value.ref _) _ _) _ _ _); (k_here; (with_reducible show wpAny _ _ (getAttr (Value.ref _) (Str.ofString "__next__") _) _ _ _); k_dflt (refine' mw_getattr ?zzF ?zzN ?zzm ?_; (case zzF => k_asm); (case zzN => k_asm); (case zzm => k_mem)); intro _ _ _ _ _ zl; (try k_lt zl); (revert zl; intro _); (try k_sweep)))
  k_with "MY truthy ref" => ((with_reducible show wpAny _ _ (truthy (Value.ref _)) _ _ _); (k_here; (with_reducible show wpAny _ _ (truthy (Value.ref _)) _ _ _); k_dflt (refine' my_truthy ?zzN ?zzm ?zzz _ ?zzb ?_; (case zzN => k_asm); (case zzm => k_mem); (case zzz => assumption); (case zzb => assumption)); intro _; (try dsimp only)))
  k_with "MY subscriptTail" => ((with_reducible show wpAny _ _ (subscriptTail _ _ (Value.ref _) _) _ _ _); ((with_reducible show wpAny _ _ (subscriptTail _ _ (Value.ref _) (Value.int (-1) _)) _ _ _); k_dflt (refine' my_last ?zzN ?zzm ?zzz ?_ ?zze; (case zzN => k_asm); (case zzm => k_mem); (case zzz => assumption); (case zze => with_unfolding_all rfl))))
  k_with "MY callWith ref" => ((with_reducible show wpAny _ _ (callWith _ (Value.ref _) _ _ []) _ _ _); (k_here; (with_reducible show wpAny _ _ (callWith _ (Value.ref _) _ (backTo _ (starEach [] _)) []) _ _ _); k_dflt (refine' callWith_W ?zzN ?zzq ?_; (case zzN => k_asm); (case zzq => k_mem)); (try dsimp only [List.nil_append])))
  k_with "MYcall" => ((with_reducible show wpAny _ _ (call (Value.builtin "list.pop") _ _) _ _ _); (k_here; k_dflt (refine' my_pop ?zzF ?zzN ?zzU ?zzz ?_; (case zzF => k_asm); (case zzN => k_asm); (case zzU => k_upd); (case zzz => omega)); intro _ _ _; (try k_sweep)))
  k_with "MY delItem ref int" => ((with_reducible show wpAny _ _ (delItem (Value.ref _) (Value.int _ _)) _ _ _); (k_here; k_dflt (refine' kob_del (knd := PySem.intKind _ _) ?zzF ?zzN ?zzU ?zzd (intKind_is _ _ _ _) ?zzl ?zzz ?_; (case zzF => k_asm); (case zzN => k_asm); (case zzU => k_updF); (case zzd => assumption); (case zzl => assumption); (case zzz => assumption)); intro _ _ _ _ _; (try dsimp only at N')))
  k_with "MY getMethod ref" => ((with_reducible show wpAny _ _ (getMethod (Value.ref _) _ _) _ _ _); (k_here; (with_reducible show wpAny _ _ (getMethod (Value.ref _) (Str.ofString "values") _) _ _ _); k_dflt (refine kdl_method (knd := PySem.intKind _ _) PySem.F.slot_dict_values PySem.F.type_dict_values (by k_asm) (by k_mem) (by assumption) ?_)))
  k_with "MYcall" => ((with_reducible show wpAny _ _ (call (Value.builtin "dict.values") _ _) _ _ _); (k_here; k_dflt (refine kdl_view_values (knd := PySem.intKind _ _) (by k_asm) (by k_asm) (by k_mem) (by assumption) (by assumption) ?_); intro _ _ _ _ zl; (try k_lt zl); (revert zl; intro _); (try k_sweep)))
  k_with "MYcall" => ((with_reducible show wpAny _ _ (call (Value.type "bool") _ _) _ _ _); (k_here; k_dflt (refine' my_bool ?zzN ?zzm ?zzz _ ?zzb ?_; (case zzN => k_asm); (case zzm => k_mem); (case zzz => assumption); (case zzb => assumption)); intro _; (try dsimp only)))
  k_with "MYcall" => ((with_reducible show wpAny _ _ (call (Value.type "tuple") _ _) _ _ _); (k_here; k_dflt (refine' my_tupleOf ?zzF ?zzN ?zzm ?zzz ?_; (case zzF => k_asm); (case zzN => k_asm); (case zzm => k_mem); (case zzz => omega)); intro _ _ _ _ zl; (revert zl; intro _); (try k_sweep)))
  k_with "MYcall" => ((with_reducible show wpAny _ _ (call (Value.builtin "list.clear") _ _) _ _ _); (k_here; k_dflt (refine' my_clear ?zzF ?zzN ?zzU ?zzz ?_; (case zzF => k_asm); (case zzN => k_asm); (case zzU => k_upd); (case zzz => omega)); intro _ _ _; (try k_sweep)))
  k_with "MY compareOp NotIn int ref" => ((with_reducible show wpAny _ _ (compareOp CmpOp.NotIn (Value.int _ _) (Value.ref _)) _ _ _); (k_here; k_dflt (refine' my_notin ?zzN ?zzm ?zzi ?_; (case zzN => k_asm); (case zzm => k_mem); (case zzi => assumption)); (try dsimp only)))
  k_with "MYcall" => ((with_reducible show wpAny _ _ (call (Value.builtin "sorted") _ _) _ _ _); (k_here; k_dflt (refine' my_sorted ?zzF ?zzN ?zzm ?zzi ?zzz ?_; (case zzF => k_asm); (case zzN => k_asm); (case zzm => k_mem); (case zzi => assumption); (case zzz => omega)); intro _ _ _ _ _ _ _ zl _ _ _; (try k_lt zl); (revert zl; intro _); (try k_sweep)))
  k_with "MY binaryOp Add ref ref" => ((with_reducible show wpAny _ _ (binaryOp Operator.Add (Value.ref _) (Value.ref _)) _ _ _); (k_here; k_dflt (refine' my_addL ?zzF ?zzN ?zzm ?zzm2 ?zzz ?_; (case zzF => k_asm); (case zzN => k_asm); (case zzm => k_mem); (case zzm2 => k_mem); (case zzz => assumption)); intro _ _ _ _ zl; (try k_lt zl); (revert zl; intro _); (try k_sweep)))
  k_with "MYcall" => ((with_reducible show wpAny _ _ (call (Value.type "list") _ _) _ _ _); (k_here; k_dflt (refine' my_copy ?zzF ?zzN ?zzm ?zzz ?_; (case zzF => k_asm); (case zzN => k_asm); (case zzm => k_mem); (case zzz => omega)); intro _ _ _ _ _ zl; (try k_lt zl); (revert zl; intro _); (try k_sweep)))
  k_with "MYcall" => ((with_reducible show wpAny _ _ (call (Value.builtin "list.pop") _ _) _ _ _); (k_here; (with_reducible show wpAny _ _ (call (Value.builtin _) [Value.ref _, Value.int _ _]) _ _ _); k_dflt (refine' my_popAt ?zzF ?zzN ?zzU ?zzi ?zzz ?_; (case zzF => k_asm); (case zzN => k_asm); (case zzU => k_upd); (case zzi => assumption); (case zzz => omega)); intro _ _ _; (try k_sweep)))
  k_with "MY compareOp NotEq ref ref" => ((with_reducible show wpAny _ _ (compareOp CmpOp.NotEq (Value.ref _) (Value.ref _)) _ _ _); (k_here; k_dflt (refine' my_ne ?zzN ?zzm ?zzm2 ?zzi ?zzj ?zzu ?_; (case zzN => k_asm); (case zzm => k_mem); (case zzm2 => k_mem); (case zzi => assumption); (case zzj => assumption); (case zzu => assumption)); (try dsimp only)))
  k_with "MINE" => ((with_reducible show wpAny _ _ (call _ _ _) _ _ _); k_extra "MYcall")
  k_with "MINE" => ((with_reducible show wpAny _ _ (subscriptTail _ _ (Value.ref _) _) _ _ _); k_extra "MY subscriptTail")
  k_with "MINE" => ((with_reducible show wpAny _ _ (eval (Expr.Name _ _) (envOf _ _ _ _ _)) _ _ _); k_extra "MY eval Name")
  k_with "MINE" => ((with_reducible show wpAny _ _ (getMethod (Value.ref _) _ _) _ _ _); k_extra "MY getMethod ref")
  k_with "MINE" => ((with_reducible show wpAny _ _ (setItem (Value.ref _) (Value.int _ _) _) _ _ _); k_extra "MY setItem ref int")
  k_with "MINE" => ((with_reducible show wpAny _ _ (eval (Expr.Call (Expr.Attribute _ _ _) _ [] _) _) _ _ _); k_extra "MY eval Call Attribute")
  k_with "MINE" => ((with_reducible show wpAny _ _ (callWith _ (Value.ref _) _ _ []) _ _ _); k_extra "MY callWith ref")
  k_with "MINE" => ((with_reducible show StarOf _ _ _ (Value.ref _) _ _); k_extra "MY StarOf ref")
  k_with "MINE" => ((with_reducible show wpAny _ _ (compareOp CmpOp.In (Value.int _ _) (Value.ref _)) _ _ _); k_extra "MY compareOp In int ref")
  k_with "MINE" => ((with_reducible show wpAny _ _ (getAttr (Value.ref _) _ _) _ _ _); k_extra "MY getAttr ref")
  k_with "MINE" => ((with_reducible show wpAny _ _ (truthy (Value.ref _)) _ _ _); k_extra "MY truthy ref")
  k_with "MINE" => ((with_reducible show wpAny _ _ (delItem (Value.ref _) (Value.int _ _)) _ _ _); k_extra "MY delItem ref int")
  k_with "MINE" => ((with_reducible show wpAny _ _ (compareOp CmpOp.NotIn (Value.int _ _) (Value.ref _)) _ _ _); k_extra "MY compareOp NotIn int ref")
  k_with "MINE" => ((with_reducible show wpAny _ _ (binaryOp Operator.Add (Value.ref _) (Value.ref _)) _ _ _); k_extra "MY binaryOp Add ref ref")
  k_with "MINE" => ((with_reducible show wpAny _ _ (compareOp CmpOp.NotEq (Value.ref _) (Value.ref _)) _ _ _); k_extra "MY compareOp NotEq ref ref")
  k_with "MINE steps" => (w_strict (repeat' (first | (k_unfold; (try dsimp only)) | ((fail_if_success (with_reducible show wpAny _ _ _ _ _ _)); refine CutG.out (by assumption) _ _ _ ?_; (try clear khb); (try clear kQb); (try clear ko); (try clear kd); (try clear kg); (try dsimp only)) | ((fail_if_success (with_reducible show wpAny _ _ _ _ _ _)); refine CutH.out (by assumption) _ _ ?_; (try clear kha); (try clear kQa)) | ((with_reducible show wpAny _ _ (execs (_ :: _) _) _ _ _); (first | (refine execs_cut1 (by assumption) ?_; intro kg kd ko _ kQb khb) | (refine execs_cut2 (by assumption) ?_; intro _) | (refine cutQ ?_; intro kQa kha))) | ((fail_if_success (with_reducible show wpAny _ _ (exec (Stmt.While _ _ _ _) _) _ _ _)); (fail_if_success (with_reducible show wpAny _ _ (eval (Expr.ListComp _ _ _ _) _) _ _ _)); (fail_if_success (with_reducible show wpAny _ _ (exec (Stmt.Try _ _ _ _ _) _) _ _ _)); (fail_if_success (with_reducible show wpAny _ _ (exec (Stmt.For _ _ _ _ _) _) _ _ _)); (first | k_extra "MINE" | walk1 | (dsimp only; walk1)))  | fail "no step")))
  k_with "MINE plain" => (w_strict (repeat' (first | (k_unfold; (try dsimp only)) | ((fail_if_success (with_reducible show wpAny _ _ _ _ _ _)); refine CutH.out (by assumption) _ _ ?_; (try clear kha); (try clear kQa)) | ((fail_if_success (with_reducible show wpAny _ _ (exec (Stmt.While _ _ _ _) _) _ _ _)); (fail_if_success (with_reducible show wpAny _ _ (eval (Expr.ListComp _ _ _ _) _) _ _ _)); (fail_if_success (with_reducible show wpAny _ _ (exec (Stmt.Try _ _ _ _ _) _) _ _ _)); (fail_if_success (with_reducible show wpAny _ _ (exec (Stmt.For _ _ _ _ _) _) _ _ _)); (first | k_extra "MINE" | walk1 | (dsimp only; walk1)))  | fail "no step")))
  trivial
/-- what holds between the turns of _find_cycle's loops: its own state, the frame, the ledger -/
inductive FcI (w : World) (A : Around) (base : Heap) (es : List Env) (p : Program) (loose : List Str) (mean : ExcName → Option Value) (mg mb : Str → Option Value) (g0 : Heap) (σ : Srt) (G : List NodeR) (a : DAd) (Tt : List (Addr × Obj)) (L' : Addr) (Fs : List FrR) (sn : Int → Bool) (h : Heap) (R : (Str → Option Value) → Prop) : Prop
  | mk (g₂ : Heap) (oNs oSeen : Obj) (n1 n2 : Nat) (m' : Str → Option Value) (di : DI w G a oNs oSeen Fs sn Tt) (t : KtsTurn (frs es) g0 g₂) (b : Below A base es g₂) (x : (hd.heap_39 w.params).In g₂) (tp : Top p loose mean mg mb g₂) (d : KtsDicts (frs es) g₂)
    (f : Fr g₂ L' h m') (n : News g₂ L' h (dfsL a oNs oSeen n1 n2 Fs Tt)) (mn : m' (Str.ofString "n2i") = some (.ref σ.D)) (mst : m' (Str.ofString "stack") = some (.ref a.stk)) (mit : m' (Str.ofString "itstack") = some (.ref a.itk)) (mse : m' (Str.ofString "seen") = some (.ref a.seen)) (mns : m' (Str.ofString "node2stacki") = some (.ref a.ns)) (r : R m')
inductive FcJ (w : World) (A : Around) (base : Heap) (es : List Env) (p : Program) (loose : List Str) (mean : ExcName → Option Value) (mg mb : Str → Option Value) (g0 : Heap) (σ : Srt) (G : List NodeR) (a : DAd) (Tt : List (Addr × Obj)) (g₁ : Heap) (m₁ : Str → Option Value) (n₁ : List (Addr × Obj)) : Prop
  | mk (oNs oSeen : Obj) (n1 n2 : Nat) (seen : Int → Bool) (e : n₁ = dfsL a oNs oSeen n1 n2 [] Tt) (di : DI w G a oNs oSeen [] seen Tt) (t : KtsTurn (frs es) g0 g₁) (b : Below A base es g₁) (x : (hd.heap_39 w.params).In g₁) (tp : Top p loose mean mg mb g₁) (d : KtsDicts (frs es) g₁)
    (mn : m₁ (Str.ofString "n2i") = some (.ref σ.D)) (mst : m₁ (Str.ofString "stack") = some (.ref a.stk)) (mit : m₁ (Str.ofString "itstack") = some (.ref a.itk)) (mse : m₁ (Str.ofString "seen") = some (.ref a.seen)) (mns : m₁ (Str.ofString "node2stacki") = some (.ref a.ns))
theorem fc_spec {w : World} {A A₀ : Around} {env : Env} {outer : List Env} {base h₀ : Heap} {L : Addr} {m mg mb : Str → Option Value} {p : Program} {loose : List Str} {mean : ExcName → Option Value} {s : Shared} {rest : List (Addr × Obj)} {R : Result → Shared → Prop}
    {σ : Srt} {rv : Value} {po nf : Int} {tp tf : Tok} {oD : Obj} {G : List NodeR} {b : Nat}
    (C : Cx w A A₀ env outer base h₀ L m mg mb p loose mean s.heap (gl w σ rv po tp nf tf oD G rest) 898) (XB : (hd.heap_39 w.params).In base) (TB : Top p loose mean mg mb base) (DD : KtsDicts (frs outer) h₀) (g : GOK w σ oD G rest b) (hb : b ≤ 1000)
    (up : ∀ r ∈ G, ∀ x ∈ r.ss, r.key < x ∧ ∃ q ∈ G, q.key = x)
    (hR : ∀ h' tk h₀', KtsTurn (frs outer) h₀ h₀' → Fr h₀' L h' m → News h₀' L h' (gl w σ rv po tp nf tf oD G rest) → Below A₀ base outer h₀' → (hd.heap_39 w.params).In h₀' → Top p loose mean mg mb h₀' → KtsDicts (frs outer) h₀' → R (.ok (.ret .none)) { s with heap := h', toks := tk }) :
    codeAny (model PySem.Challenge.rw_mr0333_01.row.prog w) A (.call (.ref 154) ⟨[.ref σ.S], []⟩) R s := by
  obtain ⟨B, F, X, N, T, hA, hf, hke, hdep, hh⟩ := C
  revert X
  k_fill
  intro X
  refine' enterT (binds := [(Str.ofString "self", .ref σ.S)]) B F X N T XB TB DD hA hf hke (by k_is) (by k_is) (by show A.depth < 1000; omega) (kp_binds (by k_in) (fun _ => rfl)) (locs rfl) ?_ rfl rfl rfl (by decide)
  intro g0 L' h' FG' F' N' B' X' T' D' hA'
  refine cutQ ?_
  intro kQ1 kha1
  walk_at "MINE plain"
  refine For_start ?_
  walk_at "MINE plain"
  rename News _ _ _ _ => N1
  rename Fr _ _ _ _ => F1
  rename Obj.SetObjOf (intKind _ _) _ _ _ => hs0
  rename Obj.IsDictOf (intKind _ _) _ _ => hd0
  rename (_ == sysModules) = false => lo0
  rename_i x1 x2 aSt x4 lA x6 x7 aIt x9 lB x11 aSeen x13 led x15 lC x17 aNs x19 oNs x21 x22 x23 lD x25
  clear x1 x2 x4 x6 x7 x9 x11 x13 x15 x17 x21 x22 x23 x19
  have nd1 : ND (dfsL ⟨aNs, aSeen, aIt, aSt⟩ oNs { cls := .type "set", data := .set #[] 0 (.fresh 0 0 led) } 0 0 [] (gl w σ rv po tp nf tf oD G rest)) := nd_cons (nd_cons (nd_cons (nd_cons (gl_nd.mpr g.gn) lA) lB) lC) lD
  have hGT : ∀ r ∈ G, ∀ q ∈ nseg r, q ∈ gl w σ rv po tp nf tf oD G rest := fun r hr q hq => .tail _ (.tail _ (.tail _ (List.mem_append_left _ (List.mem_flatMap.mpr ⟨r, hr, hq⟩))))
  have hDT : (σ.D, oD) ∈ gl w σ rv po tp nf tf oD G rest := .tail _ (.tail _ (.head _))
  have hTT : ∀ q ∈ gl w σ rv po tp nf tf oD G rest, q ∈ gl w σ rv po tp nf tf oD G rest := fun _ h => h
  have hun := unS_len G (fun _ => false)
  have di0 : DI w G ⟨aNs, aSeen, aIt, aSt⟩ oNs { cls := .type "set", data := .set #[] 0 (.fresh 0 0 led) } [] (fun _ => false) (gl w σ rv po tp nf tf oD G rest) := ⟨nd1, hd0, ⟨0, hs0, by omega⟩, by simp, by simp, lo0, by simpa using hun⟩
  refine ForL.dictG hh F1 N1 (by k_mem) g.dg g.lo (fun _ g₁ m₁ n₁ => FcJ w A base (env :: outer) p loose mean mg mb g0 σ G ⟨aNs, aSeen, aIt, aSt⟩ (gl w σ rv po tp nf tf oD G rest) g₁ m₁ n₁) ?_ (fun _ _ => rfl) ?_ ?_
  · exact ⟨_, _, 0, 0, _, rfl, di0, KtsTurn.refl, B', X', T', D', rfl, rfl, rfl, rfl, rfl⟩
  · rintro I i v t x g₁ m₁ n₁ oI h tk hx ⟨oNs1, oSeen1, n1, n2, seen, rfl, di, T1, B1, X1, P1, D1, mn, mst, mit, mse, mns⟩ hD hI F2 N2
    clear F1 N1 B' X' T' D' lA lB lC lD hs0 hd0 lo0 nd1 di0
    obtain ⟨Tt, hTt⟩ : ∃ Tt, Tt = (I, oI) :: gl w σ rv po tp nf tf oD G rest := ⟨_, rfl⟩
    have hGT' : ∀ r ∈ G, ∀ q ∈ nseg r, q ∈ Tt := fun r hr q hq => hTt ▸ .tail _ (hGT r hr q hq)
    have hDT' : (σ.D, oD) ∈ Tt := hTt ▸ .tail _ hDT
    have N3 : News g₁ L' h (dfsL ⟨aNs, aSeen, aIt, aSt⟩ oNs1 oSeen1 n1 n2 [] Tt) := by
      rw [hTt]
      exact News.perm N2 (List.perm_append_comm_assoc [(I, oI)] [_, _, _, _] _)
    have nd3 : ND (dfsL ⟨aNs, aSeen, aIt, aSt⟩ oNs1 oSeen1 0 0 [] Tt) := by
      rw [hTt]
      have q : ND ((I, oI) :: dfsL ⟨aNs, aSeen, aIt, aSt⟩ oNs1 oSeen1 0 0 [] (gl w σ rv po tp nf tf oD G rest)) := List.nodup_cons.mpr ⟨hI, di.nd⟩
      exact q.perm (List.perm_append_comm_assoc [(I, oI)] [_, _, _, _] _)
    have di' : DI w G ⟨aNs, aSeen, aIt, aSt⟩ oNs1 oSeen1 [] seen Tt := ⟨nd3, di.ds, di.sn, di.mem, di.ch, di.lo, di.ln⟩
    have back : ∀ g₂ h₂ oNs2 oSeen2 n3 n4 seen2, News g₂ L' h₂ (dfsL ⟨aNs, aSeen, aIt, aSt⟩ oNs2 oSeen2 n3 n4 [] Tt) → DI w G ⟨aNs, aSeen, aIt, aSt⟩ oNs2 oSeen2 [] seen2 Tt →
        News g₂ L' h₂ ((I, oI) :: dfsL ⟨aNs, aSeen, aIt, aSt⟩ oNs2 oSeen2 n3 n4 [] (gl w σ rv po tp nf tf oD G rest)) ∧ I ∉ (dfsL ⟨aNs, aSeen, aIt, aSt⟩ oNs2 oSeen2 n3 n4 [] (gl w σ rv po tp nf tf oD G rest)).map (·.1) ∧ DI w G ⟨aNs, aSeen, aIt, aSt⟩ oNs2 oSeen2 [] seen2 (gl w σ rv po tp nf tf oD G rest) := by
      intro g₂ h₂ oNs2 oSeen2 n3 n4 seen2 Nx dx
      rw [hTt] at Nx dx
      have q := dx.nd.perm (List.perm_append_comm_assoc [(I, oI)] [_, _, _, _] _).symm
      exact ⟨News.perm Nx (List.perm_append_comm_assoc [(I, oI)] [_, _, _, _] _).symm, (List.nodup_cons.mp q).1, ⟨(List.nodup_cons.mp q).2, dx.ds, dx.sn, dx.mem, dx.ch, dx.lo, dx.ln⟩⟩
    obtain ⟨ns, hns, hnl⟩ := di'.sn
    have hGl := g.ln
    have dn := dne_iff.mp di'.nd
    have q1 : @Ne Nat aNs aSeen := dn.q1
    have q2 : @Ne Nat aNs aIt := dn.q2
    have q3 : @Ne Nat aNs aSt := dn.q3
    have q4 : @Ne Nat aSeen aIt := dn.q4
    have q5 : @Ne Nat aSeen aSt := dn.q5
    have q6 : @Ne Nat aIt aSt := dn.q6
    have m2 : aSeen ∉ Tt.map (·.1) := dn.m2
    clear N2 hTT
    refine cutQ2 ?_
    intro kQ2 kha2
    walk_at "MINE plain"
    · rename News _ _ _ _ => N4
      rename Fr _ _ _ _ => F4
      obtain ⟨b1, b2, b3⟩ := back _ _ _ _ _ _ _ N4 di'
      refine ⟨_, _, g₁, _, _, rfl, F4, b1, ?_, b2, oNs1, oSeen1, n1, n2, seen, rfl, b3, T1, B1, X1, P1, D1, mn, mst, mit, mse, mns⟩
      intro q hq
      rw [List.mem_singleton.mp hq]
      exact .tail _ (.tail _ (.tail _ (.tail _ hDT)))
    · rename seen v = false => hsv
      rename News _ _ _ _ => N4
      rename Fr _ _ _ _ => F4
      have hvG : ∃ q ∈ G, q.key = v := by
        have := List.mem_of_getElem? hx
        obtain ⟨q, hq, e⟩ := List.mem_map.mp this
        cases e
        exact ⟨q, hq, rfl⟩
      (try clear dn)
      refine' while_inv (fun (c : List FrR × (Int → Bool) × Int) h => FcI w A base (env :: outer) p loose mean mg mb g0 σ G ⟨aNs, aSeen, aIt, aSt⟩ Tt L' c.1 c.2.1 h (fun m' => (∃ tx, m' (Str.ofString "node") = some (.int c.2.2 tx)) ∧ (∃ q ∈ G, q.key = c.2.2) ∧ ((c.1 = [] ∧ c.2.1 c.2.2 = false) ∨ ∃ Fs' f, c.1 = Fs' ++ [f] ∧ f.r.key < c.2.2))) (fun c => unS G c.2.1 (fun r => r.ss.length + 2) + remF c.1) ([], seen, v) ?_ ?_
      · exact ⟨g₁, oNs1, oSeen1, n1, n2, _, di', T1, B1, X1, P1, D1, F4, N4, mn, mst, mit, mse, mns, ⟨t, rfl⟩, hvG, .inl ⟨rfl, hsv⟩⟩
      · rintro ⟨Fs, sn, x⟩ h5 tk5 ⟨g₂, oNs, oSeen, k1, k2, m', di2, T2, B2, X2, P2, D2, F5, N5, mn, mst, mit, mse, mns, ⟨tx, mno⟩, hxG, hcase⟩
        clear F4 N4 T1 B1 X1 P1 D1 di di' nd3
        dsimp only at *
        obtain ⟨ns, hns, hnl⟩ := di2.sn
        have dn := dne_iff.mp di2.nd
        have m1 : aNs ∉ (Fs.flatMap fseg ++ Tt).map (·.1) := dn.m1
        have m2 : aSeen ∉ (Fs.flatMap fseg ++ Tt).map (·.1) := dn.m2
        have m3 : aIt ∉ (Fs.flatMap fseg ++ Tt).map (·.1) := dn.m3
        have m4 : aSt ∉ (Fs.flatMap fseg ++ Tt).map (·.1) := dn.m4
        have hds := di2.ds
        have hlo := di2.lo
        have hFl := di2.ln
        have hz : (kvF Fs).length ≤ sizeLine := by rw [sizeLine_eq, List.length_map]; omega
        obtain ⟨r, hr, hrx⟩ := hxG
        have hvr := valueAt_kvG_of (GOK.keys' g) hr
        have hri : (r.info, infoO r.idict r.succ r.np r.nt r.key r.kt) ∈ Tt := hGT' r hr _ (.head _)
        have hrd : (r.idict, dictOf [] 0) ∈ Tt := hGT' r hr _ (.tail _ (.head _))
        have hrs : (r.succ, W.listOf r.svs.toArray r.sn) ∈ Tt := hGT' r hr _ (.tail _ (.tail _ (.head _)))
        have hgd := g.dg
        have hlow := di2.below hcase
        have hnin : (valueAt (kvF Fs) x).isSome = false := by
          rw [kvF_none hlow]; rfl
        have hsl : (stV Fs).length = Fs.length := List.length_map ..
        have hil : (itV Fs).length = Fs.length := List.length_map ..
        subst hrx
        refine cutW ?_
        intro kQ3 kQ4 kha3 kha4
        refine' cutIn s (fun h => ∃ Fs2 sn2, FcI w A base (env :: outer) p loose mean mg mb g0 σ G ⟨aNs, aSeen, aIt, aSt⟩ Tt L' Fs2 sn2 h (fun _ => unS G sn2 (fun r => r.ss.length + 2) + remF Fs2 ≤ unS G sn (fun r => r.ss.length + 2) + remF Fs)) ?inn ?main
        case main =>
          intro inner
          walk_at "MINE plain"
          · rename News _ _ _ _ => N6
            rename Fr _ _ _ _ => F6
            exact inner _ _ ⟨Fs, sn, g₂, oNs, oSeen, k1, k2, m', di2, T2, B2, X2, P2, D2, F6, N6, mn, mst, mit, mse, mns, Nat.le_refl _⟩
          · rename News _ _ _ _ => N6
            rename Fr _ _ _ _ => F6
            rename sn r.key = false => hsr
            rename Obj.SetObjOf _ _ _ _ => hS
            rename Obj.IsDictOf _ _ (stored _ _ _) => hD'
            rename _ ∧ _ ∧ _ ∧ _ ∧ AllLt _ _ => la
            rename _ ∧ _ ∧ _ ∧ _ ∧ _ ∧ AllLt _ _ => lb
            have hu := unS_add (c := fun r => r.ss.length + 2) hr hsr
            refine inner _ _ ⟨_, _, g₂, _, _, _, _, m', di2.push hr hsr hlow la lb hnl hS hD', T2, B2, X2, P2, D2, F6, dfs_push N6, mn, mst, mit, mse, mns, ?_⟩
            rw [remF_snoc]
            dsimp only at hu ⊢
            omega
        case inn =>
          clear F5 N5 di2 hns hds
          rintro h6 tk6 ⟨Fs2, sn2, g₃, oNs3, oSeen3, n31, n32, m3', di3, T3, B3, X3, P3, D3, F3, N3, mn3, mst3, mit3, mse3, mns3, hμ⟩
          refine' while_inv (fun (c : List FrR) h => FcI w A base (env :: outer) p loose mean mg mb g0 σ G ⟨aNs, aSeen, aIt, aSt⟩ Tt L' c sn2 h (fun _ => unS G sn2 (fun r => r.ss.length + 2) + remF c ≤ unS G sn (fun r => r.ss.length + 2) + remF Fs)) remF Fs2 ?_ ?_
          · exact ⟨g₃, oNs3, oSeen3, n31, n32, m3', di3, T3, B3, X3, P3, D3, F3, N3, mn3, mst3, mit3, mse3, mns3, hμ⟩
          · clear mn mst mit mse mns mno T2 B2 X2 P2 D2 F3 N3 di3 T3 B3 X3 P3 D3 mn3 mst3 mit3 mse3 mns3 hμ dn m1 m2 m3 m4 hcase hlow hri hrd hrs hvr hsl hil hnin hz
            rintro c h7 tk7 ⟨g₄, oNs4, oSeen4, n41, n42, m4', di4, T4, B4, X4, P4, D4, F4, N4, mn, mst, mit, mse, mns, hμ⟩
            rcases list_snoc c with rfl | ⟨Fs', f, rfl⟩
            · have hbb : (!(stV ([] : List FrR)).isEmpty) = false := rfl
              have hz1 : (stV ([] : List FrR)).length < 2 ^ 63 := by decide
              walk_at "MINE plain"
              obtain ⟨b1, b2, b3⟩ := back _ _ _ _ _ _ _ N4 di4
              refine wpAny_execs_nil (kha2.out _ _ ⟨_, _, g₄, _, _, rfl, F4, b1, ?_, b2, oNs4, oSeen4, n41, n42, sn2, rfl, b3, T4, B4, X4, P4, D4, mn, mst, mit, mse, mns⟩)
              intro q hq
              rw [List.mem_singleton.mp hq]
              exact .tail _ (.tail _ (.tail _ (.tail _ hDT)))
            · have o := di4.out
              have N5 := dfs_out N4
              clear N4
              have hFl := di4.ln
              rw [List.length_append, List.length_singleton] at hFl
              have hbb : (!(stV Fs' ++ [Value.int f.r.key f.t]).isEmpty) = true := by simp
              have hz1 : (stV Fs' ++ [Value.int f.r.key f.t]).length < 2 ^ 63 := by simp; omega
              have hz2 : (itV Fs').length < 2 ^ 60 := by simp; omega
              have e1 : @Ne Nat f.it f.mw := o.e1
              have e2 : @Ne Nat f.it aNs := o.e2
              have e3 : @Ne Nat f.it aSeen := o.e3
              have e4 : @Ne Nat f.it aIt := o.e4
              have e5 : @Ne Nat f.it aSt := o.e5
              have e6 : f.it ∉ (Fs'.flatMap fseg ++ Tt).map (·.1) := o.e6
              have f2 : @Ne Nat f.mw aNs := o.f2
              have f3 : @Ne Nat f.mw aSeen := o.f3
              have f4 : @Ne Nat f.mw aIt := o.f4
              have f5 : @Ne Nat f.mw aSt := o.f5
              have f6 : f.mw ∉ (Fs'.flatMap fseg ++ Tt).map (·.1) := o.f6
              have m1 : aNs ∉ (Fs'.flatMap fseg ++ Tt).map (·.1) := o.m1
              have m2 : aSeen ∉ (Fs'.flatMap fseg ++ Tt).map (·.1) := o.m2
              have m3 : aIt ∉ (Fs'.flatMap fseg ++ Tt).map (·.1) := o.m3
              have m4 : aSt ∉ (Fs'.flatMap fseg ++ Tt).map (·.1) := o.m4
              obtain ⟨hfG, hfp, hfs⟩ := di4.mem f (by simp)
              have hsu : (f.r.succ, W.listOf f.r.svs.toArray f.r.sn) ∈ Tt := hGT' f.r hfG _ (.tail _ (.tail _ (.head _)))
              walk_at "MINE plain"
              refine wpAny_Try_except ?_
              by_cases hp : f.pos < f.r.ss.length
              · obtain ⟨ti, hti⟩ := ints_at (g.gw f.r hfG) (List.getElem?_eq_getElem hp)
                obtain ⟨up1, up2⟩ := up f.r hfG _ (List.getElem_mem hp)
                generalize f.r.ss[f.pos] = y at hti up1 up2
                walk_at "MINE plain"
                refine' mw_item ?F ?N ?q ?l ?U hti ?_
                case F => k_asm
                case N => k_asm
                case q => k_mem
                case l => k_mem
                case U => k_upd
                intro h8 F8 N8
                clear N5 F4
                walk_at "MINE plain"
                rename News _ _ _ _ => N9
                rename Fr _ _ _ _ => F9
                have N9' := dfs_in (f := { f with pos := f.pos + 1 }) N9
                refine wpAny_execs_nil (kha3.out _ _ ⟨(Fs' ++ [{ f with pos := f.pos + 1 }], sn2, y), _, _, rfl, ?_, g₄, oNs4, oSeen4, n41, n42, _, di4.step hp, T4, B4, X4, P4, D4, F9, N9', mn, mst, mit, mse, mns, ⟨ti, rfl⟩, up2, .inr ⟨Fs', _, rfl, up1⟩⟩)
                rw [remF_snoc] at hμ
                dsimp only
                rw [remF_snoc]
                dsimp only
                omega
              · have hnx := ints_no (g.gw f.r hfG) (Nat.le_of_not_lt hp)
                walk_at "MINE plain"
                refine' mw_end ?H ?F ?N ?q ?l ?U hnx ?_
                case H => exact hh
                case F => k_asm
                case N => k_asm
                case q => k_mem
                case l => k_mem
                case U => k_upd
                intro e h8 h9 F8 N8 hX
                clear N5 F4
                have hds4 := di4.ds
                have hvs : (valueAt (kvF (Fs' ++ [f])) f.r.key).isSome = true := by
                  rw [valueAt_isSome_eq_any]; simp
                have hzz : (kvF (Fs' ++ [f])).length ≤ sizeLine := by rw [sizeLine_eq, List.length_map, List.length_append, List.length_singleton]; omega
                have hl1 : (stV Fs').length = Fs'.length := List.length_map ..
                have hl2 : (itV Fs').length = Fs'.length := List.length_map ..
                refine' catch_here B4 hX F8 N8 XB TB D4 ?ex ?hv (by decide) ?h1 ?h2 ?h3 ?_ (hE := PassesOwnAt.never)
                case ex => k_is
                case hv => boot_by_name
                case h1 => (rw [isSubtype_type]; kernel_rfl)
                case h2 => (rw [isSubtype_type]; kernel_rfl)
                case h3 => (rw [isSubtype_type]; kernel_rfl)
                intro h10 g₅ T5 F10 N10 B5 X5 P5 D5
                clear X4 F8 N8 P4
                walk_at "MINE plain"
                rename News _ _ _ _ => N11
                rename Fr _ _ _ _ => F11
                rename Obj.IsDictOf _ _ (without _ _) => hD'
                have di5 := di4.pop hD'
                refine ⟨Fs', _, _, rfl, ?_, g₅, _, _, n41 + 1, n42 + 1, m4', di5, T4.trans T5, B5, X5, P5, D5, F11, News.sub N11 ?_, mn, mst, mit, mse, mns, ?_⟩
                · rw [remF_snoc]; omega
                · exact fun q hq => .tail _ (.tail _ hq)
                · rw [remF_snoc] at hμ; omega
  · rintro g₁ m' news' h tk Fz Nz - ⟨oNs9, oSeen9, n91, n92, seen9, rfl, di9, T9, B9, X9, P9, D9, -, -, -, -, -⟩
    clear F1 N1 B' X' T' D' lA lB lC lD hs0 hd0 lo0 nd1 di0
    walk_at "MINE plain"
    rename News _ _ _ _ => N11
    rename Fr _ _ _ _ => F11
    exact ⟨g₁, _, _, _, T9, F11, News.sub N11 fun q hq => .tail _ (.tail _ (.tail _ (.tail _ hq))), fun h₀' a b c d e f g => hR _ _ h₀' a b c d e f g⟩

end Mine
-- P9
namespace Mine
open PySem PySem.W PyProof.Rows
example : True := by
  k_with_none
  k_with "MYcall" => ((with_reducible show wpAny _ _ (call (Value.builtin "len") _ _) _ _ _); (refine' my_len ?zzk1 ?zzk2 ?zzk3 ?_; (case zzk1 => k_asm); (case zzk2 => k_mem); (case zzk3 => omega); intro _ _))
  k_with "MY subscriptTail" => ((with_reducible show wpAny _ _ (subscriptTail _ _ (Value.ref _) _) _ _ _); ((with_reducible show wpAny _ _ (subscriptTail _ _ (Value.ref _) (Value.int _ _)) _ _ _); with_unfolding_all refine' my_item ?zzk1 ?zzk2 ?zzk3 ?zzk4 ?zzk5 ?zzk6 ?_ ?zzk7; (case zzk1 => k_asm); (case zzk2 => k_mem); (case zzk3 => assumption); (case zzk4 => omega); (case zzk5 => omega); (case zzk6 => omega); (case zzk7 => with_unfolding_all rfl);  intro _))
  k_with "MY eval Name" => ((with_reducible show wpAny _ _ (eval (Expr.Name _ _) (envOf _ _ _ _ _)) _ _ _); (k_here; k_dflt (refine' ld ?zzk1 ?zzk2 ?_; (case zzk1 => k_asm); (case zzk2 => assumption); k_whole)))
  k_with "MYcall" => ((with_reducible show wpAny _ _ (call (Value.builtin "list.insert") _ _) _ _ _); (k_here; k_dflt (refine' my_insert ?zzF ?zzN ?zzU ?zzhk ?zzz ?_; (case zzF => k_asm); (case zzN => k_asm); (case zzU => k_upd); (case zzhk => omega); (case zzz => omega); k_whole); intro _ _ _; (try k_sweep)))
  k_with "MYcall" => ((with_reducible show wpAny _ _ (call (Value.builtin "dict.get") _ _) _ _ _); (k_here; k_dflt (first | refine kdg_get1 (knd := PySem.intKind _ _) (by k_asm) (by k_mem) (by assumption) (by assumption) (intKind_is _ _ _ _) none (by assumption) ?_ | refine kdg_get1 (knd := PySem.intKind _ _) (by k_asm) (by k_mem) (by assumption) (by assumption) (intKind_is _ _ _ _) (some _) (by assumption) ?_); (try dsimp only [Option.getD])))
  k_with "MY getMethod ref" => ((with_reducible show wpAny _ _ (getMethod (Value.ref _) _ _) _ _ _); (k_here; (with_reducible show wpAny _ _ (getMethod (Value.ref _) (Str.ofString "get") _) _ _ _); k_dflt (refine kdg_method (knd := PySem.intKind _ _) (by k_asm) (by k_mem) (by assumption) ?_)))
  k_with "MY setItem ref int" => ((with_reducible show wpAny _ _ (setItem (Value.ref _) (Value.int _ _) _) _ _ _); (k_here; k_dflt (refine' kda_set (knd := PySem.intKind _ _) ?zzF ?zzN ?zzU ?zzd (intKind_is _ _ _ _) ?zzz ?_; (case zzF => k_asm); (case zzN => k_asm); (case zzU => k_updF); (case zzd => assumption); (case zzz => assumption)); intro _ _ _ _ _; (try dsimp only at N'); (try k_sweep)))
  k_with "MYcall" => ((with_reducible show wpAny _ _ (call (Value.builtin "len") _ _) _ _ _); (refine' my_lenT ?zzk1 ?zzk2 ?zzk3 ?_; (case zzk1 => k_asm); (case zzk2 => k_mem); (case zzk3 => omega); intro _ _))
  k_with "MY eval Call Attribute" => ((with_reducible show wpAny _ _ (eval (Expr.Call (Expr.Attribute _ _ _) _ [] _) _) _ _ _); (k_here; (with_reducible show wpAny _ _ (eval (Expr.Call (Expr.Attribute _ _ _) _ [] _) _) _ _ _); ks_star; refine star_method ?_))
  k_with "MY callWith ref" => ((with_reducible show wpAny _ _ (callWith _ (Value.ref _) _ _ []) _ _ _); (k_here; (with_reducible show wpAny _ _ (callWith _ (Value.ref _) _ (backTo _ (starEach [Expr.Starred _ _] _)) []) _ _ _); k_dflt (refine' callWith_MS ?zzX ?zzN ?zzq ?zzk2 ?_; (case zzX => k_asm); (case zzN => k_asm); (case zzq => k_mem); (case zzk2 => k_is); k_whole)))
  k_with "MY callWith ref" => ((with_reducible show wpAny _ _ (callWith _ (Value.ref _) _ _ []) _ _ _); (k_here; (with_reducible show wpAny _ _ (callWith _ (Value.ref _) _ (backTo _ (starEach (_ :: _ :: _) _)) []) _ _ _); ks_star; k_dflt (refine' callWith_MS2 ?zzX ?zzN ?zzq ?zzk2 ?_; (case zzX => k_asm); (case zzN => k_asm); (case zzq => k_mem); (case zzk2 => k_is); k_whole)))
  k_with "MY StarOf ref" => ((with_reducible show StarOf _ _ _ (Value.ref _) _ _); (k_here; k_dflt (first | (refine' my_star ?zzF ?zzN ?zzm ?zzi ?zzz ?_; (case zzF => k_asm); (case zzN => k_asm); (case zzm => k_mem); (case zzi => assumption); (case zzz => omega); k_whole) | (refine' my_starT ?zzF ?zzN ?zzm ?zzi ?zzz ?_; (case zzF => k_asm); (case zzN => k_asm); (case zzm => k_mem); (case zzi => assumption); (case zzz => omega); k_whole)); intro _ _ _; (try k_sweep); (try dsimp only [List.nil_append, List.cons_append])))
  k_with "MY compareOp In int ref" => ((with_reducible show wpAny _ _ (compareOp CmpOp.In (Value.int _ _) (Value.ref _)) _ _ _); (k_here; k_dflt (first | (refine' kse_in (knd := PySem.intKind _ _) ?zzN ?zzU ?zzd ?zzz (intKind_is _ _ _ _) rfl ?_; (case zzN => k_asm); (case zzU => k_updF); (case zzd => assumption); (case zzz => (show _ < 4096; omega))) | (refine' kda_in (knd := PySem.intKind _ _) ?zzN ?zzm ?zzd ?zzlo (intKind_is _ _ _ _) false ?zzb ?_; (case zzN => k_asm); (case zzm => k_mem); (case zzd => assumption); (case zzlo => assumption); (case zzb => assumption))); (try dsimp only)))
  k_with "MY getMethod ref" => ((with_reducible show wpAny _ _ (getMethod (Value.ref _) _ _) _ _ _); (k_here; (with_reducible show wpAny _ _ (getMethod (Value.ref _) (Str.ofString "add") _) _ _ _); k_dflt (refine' kse_method (knd := PySem.intKind _ _) ?zzN ?zzU ?zzd ?zzz ?_; (case zzN => k_asm); (case zzU => k_updF); (case zzd => assumption); (case zzz => (show _ < 4096; omega)))))
  k_with "MYcall" => ((with_reducible show wpAny _ _ (call (Value.builtin "set.add") _ _) _ _ _); (k_here; k_dflt (refine' kse_add (knd := PySem.intKind _ _) ?zzF ?zzN ?zzU ?zzd ?zzz (intKind_is _ _ _ _) rfl ?_; (case zzF => k_asm); (case zzN => k_asm); (case zzU => k_updF); (case zzd => assumption); (case zzz => (show _ < 4096; omega))); intro _ _ _ _ _; (try dsimp only at N'); (try k_sweep)))
  k_with "MY subscriptTail" => ((with_reducible show wpAny _ _ (subscriptTail _ _ (Value.ref _) _) _ _ _); ((with_reducible show wpAny _ _ (subscriptTail _ _ (Value.ref _) (Value.int _ _)) _ _ _); with_unfolding_all refine' kda_item (knd := PySem.intKind _ _) ?zzk1 ?zzk2 ?zzk3 (intKind_is _ _ _ _) ?zzk4 ?_ ?zzk7 ?zzk8; (case zzk1 => k_asm); (case zzk2 => k_mem); (case zzk3 => assumption); (case zzk4 => assumption); (case zzk7 => with_unfolding_all rfl); (case zzk8 => (intro _; with_unfolding_all rfl))))
  k_with "MYcall" => ((with_reducible show wpAny _ _ (call (Value.builtin "iter") _ _) _ _ _); (k_here; k_dflt (refine' my_iter ?zzF ?zzN ?zzm ?_; (case zzF => k_asm); (case zzN => k_asm); (case zzm => k_mem)); intro _ _ _ _ zl; (try k_lt zl); (revert zl; intro _); (try k_sweep)))
  k_with "MY getAttr ref" => ((with_reducible show wpAny _ _ (getAttr (Value.ref _) _ _) _ _ _); (k_here; (with_reducible show wpAny _ _ (getAttr (Value.ref _) (Str.ofString "__next__") _) _ _ _); k_dflt (refine' mw_getattr ?zzF ?zzN ?zzm ?_; (case zzF => k_asm); (case zzN => k_asm); (case zzm => k_mem)); intro _ _ _ _ _ zl; (try k_lt zl); (revert zl; intro _); (try k_sweep)))
  k_with "MY truthy ref" => ((with_reducible show wpAny _ _ (truthy (Value.ref _)) _ _ _); (k_here; (with_reducible show wpAny _ _ (truthy (Value.ref _)) _ _ _); k_dflt (refine' my_truthy ?zzN ?zzm ?zzz _ ?zzb ?_; (case zzN => k_asm); (case zzm => k_mem); (case zzz => assumption); (case zzb => assumption)); intro _; (try dsimp only)))
  k_with "MY subscriptTail" => ((with_reducible show wpAny _ _ (subscriptTail _ _ (Value.ref _) _) _ _ _); ((with_reducible show wpAny _ _ (subscriptTail _ _ (Value.ref _) (Value.int (-1) _)) _ _ _); k_dflt (refine' my_last ?zzN ?zzm ?zzz ?_ ?zze; (case zzN => k_asm); (case zzm => k_mem); (case zzz => assumption); (case zze => with_unfolding_all rfl))))
  k_with "MY callWith ref" => ((with_reducible show wpAny _ _ (callWith _ (Value.ref _) _ _ []) _ _ _); (k_here; (with_reducible show wpAny _ _ (callWith _ (Value.ref _) _ (backTo _ (starEach [] _)) []) _ _ _); k_dflt (refine' callWith_W ?zzN ?zzq ?_; (case zzN => k_asm); (case zzq => k_mem)); (try dsimp only [List.nil_append])))
  k_with "MYcall" => ((with_reducible show wpAny _ _ (call (Value.builtin "list.pop") _ _) _ _ _); (k_here; k_dflt (refine' my_pop ?zzF ?zzN ?zzU ?zzz ?_; (case zzF => k_asm); (case zzN => k_asm); (case zzU => k_upd); (case zzz => omega)); intro _ _ _; (try k_sweep)))
  k_with "MY delItem ref int" => ((with_reducible show wpAny _ _ (delItem (Value.ref _) (Value.int _ _)) _ _ _); (k_here; k_dflt (refine' kob_del (knd := PySem.intKind _ _) ?zzF ?zzN ?zzU ?zzd (intKind_is _ _ _ _) ?zzl ?zzz ?_; (case zzF => k_asm); (case zzN => k_asm); (case zzU => k_updF); (case zzd => assumption); (case zzl => assumption); (case zzz => assumption)); intro _ _ _ _ _; (try dsimp only at N')))
  k_with "MY getMethod ref" => ((with_reducible show wpAny _ _ (getMethod (Value.ref _) _ _) _ _ _); (k_here; (with_reducible show wpAny _ _ (getMethod (Value.ref _) (Str.ofString "values") _) _ _ _); k_dflt (refine kdl_method (knd := PySem.intKind _ _) PySem.F.slot_dict_values PySem.F.type_dict_values (by k_asm) (by k_mem) (by assumption) ?_)))
  k_with "MYcall" => ((with_reducible show wpAny _ _ (call (Value.builtin "dict.values") _ _) _ _ _); (k_here; k_dflt (refine kdl_view_values (knd := PySem.intKind _ _) (by k_asm) (by k_asm) (by k_mem) (by assumption) (by assumption) ?_); intro _ _ _ _ zl; (try k_lt zl); (revert zl; intro _); (try k_sweep)))
  k_with "MYcall" => ((with_reducible show wpAny _ _ (call (Value.type "bool") _ _) _ _ _); (k_here; k_dflt (refine' my_bool ?zzN ?zzm ?zzz _ ?zzb ?_; (case zzN => k_asm); (case zzm => k_mem); (case zzz => assumption); (case zzb => assumption)); intro _; (try dsimp only)))
  k_with "MYcall" => ((with_reducible show wpAny _ _ (call (Value.type "tuple") _ _) _ _ _); (k_here; k_dflt (refine' my_tupleOf ?zzF ?zzN ?zzm ?zzz ?_; (case zzF => k_asm); (case zzN => k_asm); (case zzm => k_mem); (case zzz => omega)); intro _ _ _ _ zl; (revert zl; intro _); (try k_sweep)))
  k_with "MYcall" => ((with_reducible show wpAny _ _ (call (Value.builtin "list.clear") _ _) _ _ _); (k_here; k_dflt (refine' my_clear ?zzF ?zzN ?zzU ?zzz ?_; (case zzF => k_asm); (case zzN => k_asm); (case zzU => k_upd); (case zzz => omega)); intro _ _ _; (try k_sweep)))
  k_with "MY compareOp NotIn int ref" => ((with_reducible show wpAny _ _ (compareOp CmpOp.NotIn (Value.int _ _) (Value.ref _)) _ _ _); (k_here; k_dflt (refine' my_notin ?zzN ?zzm ?zzi ?_; (case zzN => k_asm); (case zzm => k_mem); (case zzi => assumption)); (try dsimp only)))
  k_with "MYcall" => ((with_reducible show wpAny _ _ (call (Value.builtin "sorted") _ _) _ _ _); (k_here; k_dflt (refine' my_sorted ?zzF ?zzN ?zzm ?zzi ?zzz ?_; (case zzF => k_asm); (case zzN => k_asm); (case zzm => k_mem); (case zzi => assumption); (case zzz => omega)); intro _ _ _ _ _ _ _ zl _ _ _; (try k_lt zl); (revert zl; intro _); (try k_sweep)))
  k_with "MY binaryOp Add ref ref" => ((with_reducible show wpAny _ _ (binaryOp Operator.Add (Value.ref _) (Value.ref _)) _ _ _); (k_here; k_dflt (refine' my_addL ?zzF ?zzN ?zzm ?zzm2 ?zzz ?_; (case zzF => k_asm); (case zzN => k_asm); (case zzm => k_mem); (case zzm2 => k_mem); (case zzz => assumption)); intro _ _ _ _ zl; (try k_lt zl); (revert zl; intro _); (try k_sweep)))
  k_with "MYcall" => ((with_reducible show wpAny _ _ (call (Value.type "list") _ _) _ _ _); (k_here; k_dflt (refine' my_copy ?zzF ?zzN ?zzm ?zzz ?_; (case zzF => k_asm); (case zzN => k_asm); (case zzm => k_mem); (case zzz => omega)); intro _ _ _ _ _ zl; (try k_lt zl); (revert zl; intro _); (try k_sweep)))
  k_with "MYcall" => ((with_reducible show wpAny _ _ (call (Value.builtin "list.pop") _ _) _ _ _); (k_here; (with_reducible show wpAny _ _ (call (Value.builtin _) [Value.ref _, Value.int _ _]) _ _ _); k_dflt (refine' my_popAt ?zzF ?zzN ?zzU ?zzi ?zzz ?_; (case zzF => k_asm); (case zzN => k_asm); (case zzU => k_upd); (case zzi => assumption); (case zzz => omega)); intro _ _ _; (try k_sweep)))
  k_with "MY compareOp NotEq ref ref" => ((with_reducible show wpAny _ _ (compareOp CmpOp.NotEq (Value.ref _) (Value.ref _)) _ _ _); (k_here; k_dflt (refine' my_ne ?zzN ?zzm ?zzm2 ?zzi ?zzj ?zzu ?_; (case zzN => k_asm); (case zzm => k_mem); (case zzm2 => k_mem); (case zzi => assumption); (case zzj => assumption); (case zzu => assumption)); (try dsimp only)))
  k_with "MINE" => ((with_reducible show wpAny _ _ (call _ _ _) _ _ _); k_extra "MYcall")
  k_with "MINE" => ((with_reducible show wpAny _ _ (subscriptTail _ _ (Value.ref _) _) _ _ _); k_extra "MY subscriptTail")
  k_with "MINE" => ((with_reducible show wpAny _ _ (eval (Expr.Name _ _) (envOf _ _ _ _ _)) _ _ _); k_extra "MY eval Name")
  k_with "MINE" => ((with_reducible show wpAny _ _ (getMethod (Value.ref _) _ _) _ _ _); k_extra "MY getMethod ref")
  k_with "MINE" => ((with_reducible show wpAny _ _ (setItem (Value.ref _) (Value.int _ _) _) _ _ _); k_extra "MY setItem ref int")
  k_with "MINE" => ((with_reducible show wpAny _ _ (eval (Expr.Call (Expr.Attribute _ _ _) _ [] _) _) _ _ _); k_extra "MY eval Call Attribute")
  k_with "MINE" => ((with_reducible show wpAny _ _ (callWith _ (Value.ref _) _ _ []) _ _ _); k_extra "MY callWith ref")
  k_with "MINE" => ((with_reducible show StarOf _ _ _ (Value.ref _) _ _); k_extra "MY StarOf ref")
  k_with "MINE" => ((with_reducible show wpAny _ _ (compareOp CmpOp.In (Value.int _ _) (Value.ref _)) _ _ _); k_extra "MY compareOp In int ref")
  k_with "MINE" => ((with_reducible show wpAny _ _ (getAttr (Value.ref _) _ _) _ _ _); k_extra "MY getAttr ref")
  k_with "MINE" => ((with_reducible show wpAny _ _ (truthy (Value.ref _)) _ _ _); k_extra "MY truthy ref")
  k_with "MINE" => ((with_reducible show wpAny _ _ (delItem (Value.ref _) (Value.int _ _)) _ _ _); k_extra "MY delItem ref int")
  k_with "MINE" => ((with_reducible show wpAny _ _ (compareOp CmpOp.NotIn (Value.int _ _) (Value.ref _)) _ _ _); k_extra "MY compareOp NotIn int ref")
  k_with "MINE" => ((with_reducible show wpAny _ _ (binaryOp Operator.Add (Value.ref _) (Value.ref _)) _ _ _); k_extra "MY binaryOp Add ref ref")
  k_with "MINE" => ((with_reducible show wpAny _ _ (compareOp CmpOp.NotEq (Value.ref _) (Value.ref _)) _ _ _); k_extra "MY compareOp NotEq ref ref")
  k_with "MINE steps" => (w_strict (repeat' (first | (k_unfold; (try dsimp only)) | ((fail_if_success (with_reducible show wpAny _ _ _ _ _ _)); refine CutG.out (by assumption) _ _ _ ?_; (try clear khb); (try clear kQb); (try clear ko); (try clear kd); (try clear kg); (try dsimp only)) | ((fail_if_success (with_reducible show wpAny _ _ _ _ _ _)); refine CutH.out (by assumption) _ _ ?_; (try clear kha); (try clear kQa)) | ((with_reducible show wpAny _ _ (execs (_ :: _) _) _ _ _); (first | (refine execs_cut1 (by assumption) ?_; intro kg kd ko _ kQb khb) | (refine execs_cut2 (by assumption) ?_; intro _) | (refine cutQ ?_; intro kQa kha))) | ((fail_if_success (with_reducible show wpAny _ _ (exec (Stmt.While _ _ _ _) _) _ _ _)); (fail_if_success (with_reducible show wpAny _ _ (eval (Expr.ListComp _ _ _ _) _) _ _ _)); (fail_if_success (with_reducible show wpAny _ _ (exec (Stmt.Try _ _ _ _ _) _) _ _ _)); (fail_if_success (with_reducible show wpAny _ _ (exec (Stmt.For _ _ _ _ _) _) _ _ _)); (first | k_extra "MINE" | walk1 | (dsimp only; walk1)))  | fail "no step")))
  k_with "MINE plain" => (w_strict (repeat' (first | (k_unfold; (try dsimp only)) | ((fail_if_success (with_reducible show wpAny _ _ _ _ _ _)); refine CutH.out (by assumption) _ _ ?_; (try clear kha); (try clear kQa)) | ((fail_if_success (with_reducible show wpAny _ _ (exec (Stmt.While _ _ _ _) _) _ _ _)); (fail_if_success (with_reducible show wpAny _ _ (eval (Expr.ListComp _ _ _ _) _) _ _ _)); (fail_if_success (with_reducible show wpAny _ _ (exec (Stmt.Try _ _ _ _ _) _) _ _ _)); (fail_if_success (with_reducible show wpAny _ _ (exec (Stmt.For _ _ _ _ _) _) _ _ _)); (first | k_extra "MINE" | walk1 | (dsimp only; walk1)))  | fail "no step")))
  trivial
abbrev rdyV (G : List NodeR) : List Value := (G.filter fun r => decide (r.np = 0)).map fun r => .int r.key r.kt
theorem rdyV_in {G : List NodeR} {i : Nat} {r : NodeR} (h : G[i]? = some r) (h0 : r.np = 0) : rdyV (G.take i) ++ [Value.int r.key r.kt] = rdyV (G.take (i + 1)) := by
  rw [List.take_succ, h]; simp [rdyV, h0]
theorem rdyV_out {G : List NodeR} {i : Nat} {r : NodeR} (h : G[i]? = some r) (h0 : r.np ≠ 0) : rdyV (G.take i) = rdyV (G.take (i + 1)) := by
  rw [List.take_succ, h]; simp [rdyV, h0]
theorem News.tail2 {g h : Heap} {L : Addr} {a b : Addr × Obj} {l : List (Addr × Obj)} (N : News g L h (a :: b :: l)) : News g L h (a :: l) :=
  News.sub N fun q hq => by
    rcases List.mem_cons.mp hq with rfl | hq
    · exact .head _
    · exact .tail _ (.tail _ hq)
theorem prep_spec {w : World} {A A₀ : Around} {env : Env} {outer : List Env} {base h₀ : Heap} {L : Addr} {m mg mb : Str → Option Value} {p : Program} {loose : List Str} {mean : ExcName → Option Value} {s : Shared} {rest : List (Addr × Obj)} {R : Result → Shared → Prop}
    {σ : Srt} {po nf : Int} {tp tf : Tok} {oD : Obj} {G : List NodeR} {b : Nat}
    (C : Cx w A A₀ env outer base h₀ L m mg mb p loose mean s.heap (gl w σ .none po tp nf tf oD G rest) 897) (XB : (hd.heap_39 w.params).In base) (TB : Top p loose mean mg mb base) (DD : KtsDicts (frs outer) h₀) (g : GOK w σ oD G rest b) (hb : b ≤ 1000)
    (up : ∀ r ∈ G, ∀ x ∈ r.ss, r.key < x ∧ ∃ q ∈ G, q.key = x)
    (hR : ∀ h' tk h₀' aR n, KtsTurn (frs outer) h₀ h₀' → Fr h₀' L h' m → News h₀' L h' (gl w σ (.ref aR) po tp nf tf oD G ((aR, W.listOf (rdyV G).toArray n) :: rest)) → GOK w σ oD G ((aR, W.listOf (rdyV G).toArray n) :: rest) b → Below A₀ base outer h₀' → (hd.heap_39 w.params).In h₀' → Top p loose mean mg mb h₀' → KtsDicts (frs outer) h₀' → R (.ok (.ret .none)) { s with heap := h', toks := tk }) :
    codeAny (model PySem.Challenge.rw_mr0333_01.row.prog w) A (.call (.ref 119) ⟨[.ref σ.S], []⟩) R s := by
  obtain ⟨B, F, X, N, T, hA, hf, hke, hdep, hh⟩ := C
  revert X
  k_fill
  intro X
  refine' enterT (binds := [(Str.ofString "self", .ref σ.S)]) B F X N T XB TB DD hA hf hke (by k_is) (by k_is) (by show A.depth < 1000; omega) (kp_binds (by k_in) (fun _ => rfl)) (locs rfl) ?_ rfl rfl rfl (by decide)
  intro g0 L' h' FG' F' N' B' X' T' D' hA'
  have hdg := g.dg
  have hlo := g.lo
  walk_at "MINE steps"
  refine Lc_start (cl := []) rfl rfl (by decide) ?_
  walk_at "MINE steps"
  rename News _ _ _ _ => N1
  rename Fr _ _ _ _ => F1
  have hGl := g.ln
  refine LcL.vals (fun i ys => ys = rdyV (G.take i)) hh F1 N1 (by k_mem) (by k_mem) hdg (by rw [sizeLine_eq, List.length_map]; omega) (by decide) rfl rfl rfl ?turn ?fin
  case turn =>
    rintro g i v I oI C oC D ys m₂ h tk E' ⟨k, hk⟩ hJ hC hx F N
    obtain ⟨r, hr, hre⟩ : ∃ r, G[i]? = some r ∧ (r.key, Value.ref r.info) = (k, v) := by
      rw [List.getElem?_map] at hk
      cases e : G[i]? with
      | none => rw [e] at hk; cases hk
      | some r => rw [e] at hk; exact ⟨r, rfl, Option.some.inj hk⟩
    cases hre
    have hrG := List.mem_of_getElem? hr
    have hri : (r.info, infoO r.idict r.succ r.np r.nt r.key r.kt) ∈ G.flatMap nseg ++ rest := List.mem_append_left _ (List.mem_flatMap.mpr ⟨r, hrG, .head _⟩)
    have hrd : (r.idict, dictOf [] 0) ∈ G.flatMap nseg ++ rest := List.mem_append_left _ (List.mem_flatMap.mpr ⟨r, hrG, .tail _ (.head _)⟩)
    have hrs : (r.succ, W.listOf r.svs.toArray r.sn) ∈ G.flatMap nseg ++ rest := List.mem_append_left _ (List.mem_flatMap.mpr ⟨r, hrG, .tail _ (.tail _ (.head _))⟩)
    clear F1 N1
    walk_at "MINE steps"
    · rename r.np = 0 => h0
      refine ⟨_, _, rfl, F, N, ?_⟩
      subst hJ
      exact rdyV_in hr h0
    · rename r.np ≠ 0 => h0
      refine ⟨_, _, rfl, F, N, ?_⟩
      subst hJ
      exact rdyV_out hr h0
  case fin =>
    intro gx ys hJ aR h tk F2 N2 haR
    rw [List.take_of_length_le (by rw [List.length_map]; exact Nat.le_refl _)] at hJ
    subst hJ
    clear F1 N1
    have hI : aR ∉ (gl w σ .none po tp nf tf oD G rest).map (·.1) := fun q => haR (.tail _ q)
    simp only [List.map_cons, List.mem_cons, not_or] at haR
    have z1 : @Ne Nat aR σ.S := haR.2.1
    have z2 : @Ne Nat aR σ.dS := haR.2.2.1
    have z3 : @Ne Nat aR σ.D := haR.2.2.2.1
    have z4 : aR ∉ (G.flatMap nseg ++ rest).map (·.1) := haR.2.2.2.2
    have N3 := News.tail2 N2
    clear N2 haR
    have y1 : @Ne Nat σ.S σ.dS := g.gn.a
    have y2 : @Ne Nat σ.S σ.D := g.gn.b
    have y3 : @Ne Nat σ.dS σ.D := g.gn.c
    have y4 : σ.S ∉ (G.flatMap nseg ++ rest).map (·.1) := g.gn.sS
    have y5 : σ.dS ∉ (G.flatMap nseg ++ rest).map (·.1) := g.gn.sd
    have y6 : σ.D ∉ (G.flatMap nseg ++ rest).map (·.1) := g.gn.sD
    walk_at "MINE steps"
    rename News _ _ _ _ => N4
    rename Fr _ _ _ _ => F4
    have g2 := GOK.push' (o := W.listOf (rdyV G).toArray (rdyV G).length) g hI
    refine wpAny_call (fc_spec (rv := .ref aR) ⟨B', F4, X', News.perm N4 gl_push_perm, T', hA', rfl, rfl, by show A.depth + 1 ≤ 898; omega, hh⟩ XB TB D' g2 hb up ?_)
    intro h5 tk5 g5 T5 F5 N5 B5 X5 P5 D5
    clear N4 F4 X' T'
    walk_at "MINE steps"
    rename News _ _ _ _ => N6
    rename Fr _ _ _ _ => F6
    exact ⟨g5, _, _, _, T5, F6, N6, fun h₀' a b c d e f k => hR _ _ h₀' aR _ a b c g2 d e f k⟩

end Mine
-- P10
namespace Mine
open PySem PySem.W PyProof.Rows
example : True := by
  k_with_none
  k_with "MYcall" => ((with_reducible show wpAny _ _ (call (Value.builtin "len") _ _) _ _ _); (refine' my_len ?zzk1 ?zzk2 ?zzk3 ?_; (case zzk1 => k_asm); (case zzk2 => k_mem); (case zzk3 => omega); intro _ _))
  k_with "MY subscriptTail" => ((with_reducible show wpAny _ _ (subscriptTail _ _ (Value.ref _) _) _ _ _); ((with_reducible show wpAny _ _ (subscriptTail _ _ (Value.ref _) (Value.int _ _)) _ _ _); with_unfolding_all refine' my_item ?zzk1 ?zzk2 ?zzk3 ?zzk4 ?zzk5 ?zzk6 ?_ ?zzk7; (case zzk1 => k_asm); (case zzk2 => k_mem); (case zzk3 => assumption); (case zzk4 => omega); (case zzk5 => omega); (case zzk6 => omega); (case zzk7 => with_unfolding_all rfl);  intro _))
  k_with "MY eval Name" => ((with_reducible show wpAny _ _ (eval (Expr.Name _ _) (envOf _ _ _ _ _)) _ _ _); (k_here; k_dflt (refine' ld ?zzk1 ?zzk2 ?_; (case zzk1 => k_asm); (case zzk2 => assumption); k_whole)))
  k_with "MYcall" => ((with_reducible show wpAny _ _ (call (Value.builtin "list.insert") _ _) _ _ _); (k_here; k_dflt (refine' my_insert ?zzF ?zzN ?zzU ?zzhk ?zzz ?_; (case zzF => k_asm); (case zzN => k_asm); (case zzU => k_upd); (case zzhk => omega); (case zzz => omega); k_whole); intro _ _ _; (try k_sweep)))
  k_with "MYcall" => ((with_reducible show wpAny _ _ (call (Value.builtin "dict.get") _ _) _ _ _); (k_here; k_dflt (first | refine kdg_get1 (knd := PySem.intKind _ _) (by k_asm) (by k_mem) (by assumption) (by assumption) (intKind_is _ _ _ _) none (by assumption) ?_ | refine kdg_get1 (knd := PySem.intKind _ _) (by k_asm) (by k_mem) (by assumption) (by assumption) (intKind_is _ _ _ _) (some _) (by assumption) ?_); (try dsimp only [Option.getD])))
  k_with "MY getMethod ref" => ((with_reducible show wpAny _ _ (getMethod (Value.ref _) _ _) _ _ _); (k_here; (with_reducible show wpAny _ _ (getMethod (Value.ref _) (Str.ofString "get") _) _ _ _); k_dflt (refine kdg_method (knd := PySem.intKind _ _) (by k_asm) (by k_mem) (by assumption) ?_)))
  k_with "MY setItem ref int" => ((with_reducible show wpAny _ _ (setItem (Value.ref _) (Value.int _ _) _) _ _ _); (k_here; k_dflt (refine' kda_set (knd := PySem.intKind _ _) ?zzF ?zzN ?zzU ?zzd (intKind_is _ _ _ _) ?zzz ?_; (case zzF => k_asm); (case zzN => k_asm); (case zzU => k_updF); (case zzd => assumption); (case zzz => assumption)); intro _ _ _ _ _; (try dsimp only at N'); (try k_sweep)))
  k_with "MYcall" => ((with_reducible show wpAny _ _ (call (Value.builtin "len") _ _) _ _ _); (refine' my_lenT ?zzk1 ?zzk2 ?zzk3 ?_; (case zzk1 => k_asm); (case zzk2 => k_mem); (case zzk3 => omega); intro _ _))
  k_with "MY eval Call Attribute" => ((with_reducible show wpAny _ _ (eval (Expr.Call (Expr.Attribute _ _ _) _ [] _) _) _ _ _); (k_here; (with_reducible show wpAny _ _ (eval (Expr.Call (Expr.Attribute _ _ _) _ [] _) _) _ _ _); ks_star; refine star_method ?_))
  k_with "MY callWith ref" => ((with_reducible show wpAny _ _ (callWith _ (Value.ref _) _ _ []) _ _ _); (k_here; (with_reducible show wpAny _ _ (callWith _ (Value.ref _) _ (backTo _ (starEach [Expr.Starred _ _] _)) []) _ _ _); k_dflt (refine' callWith_MS ?zzX ?zzN ?zzq ?zzk2 ?_; (case zzX => k_asm); (case zzN => k_asm); (case zzq => k_mem); (case zzk2 => k_is); k_whole)))
  k_with "MY callWith ref" => ((with_reducible show wpAny _ _ (callWith _ (Value.ref _) _ _ []) _ _ _); (k_here; (with_reducible show wpAny _ _ (callWith _ (Value.ref _) _ (backTo _ (starEach (_ :: _ :: _) _)) []) _ _ _); ks_star; k_dflt (refine' callWith_MS2 ?zzX ?zzN ?zzq ?zzk2 ?_; (case zzX => k_asm); (case zzN => k_asm); (case zzq => k_mem); (case zzk2 => k_is); k_whole)))
  k_with "MY StarOf ref" => ((with_reducible show StarOf _ _ _ (Value.ref _) _ _); (k_here; k_dflt (first | (refine' my_star ?zzF ?zzN ?zzm ?zzi ?zzz ?_; (case zzF => k_asm); (case zzN => k_asm); (case zzm => k_mem); (case zzi => assumption); (case zzz => omega); k_whole) | (refine' my_starT ?zzF ?zzN ?zzm ?zzi ?zzz ?_; (case zzF => k_asm); (case zzN => k_asm); (case zzm => k_mem); (case zzi => assumption); (case zzz => omega); k_whole)); intro _ _ _; (try k_sweep); (try dsimp only [List.nil_append, List.cons_append])))
  k_with "MY compareOp In int ref" => ((with_reducible show wpAny _ _ (compareOp CmpOp.In (Value.int _ _) (Value.ref _)) _ _ _); (k_here; k_dflt (first | (refine' kse_in (knd := PySem.intKind _ _) ?zzN ?zzU ?zzd ?zzz (intKind_is _ _ _ _) rfl ?_; (case zzN => k_asm); (case zzU => k_updF); (case zzd => assumption); (case zzz => (show _ < 4096; omega))) | (refine' kda_in (knd := PySem.intKind _ _) ?zzN ?zzm ?zzd ?zzlo (intKind_is _ _ _ _) false ?zzb ?_; (case zzN => k_asm); (case zzm => k_mem); (case zzd => assumption); (case zzlo => assumption); (case zzb => assumption))); (try dsimp only)))
  k_with "MY getMethod ref" => ((with_reducible show wpAny _ _ (getMethod (Value.ref _) _ _) _ _ _); (k_here; (with_reducible show wpAny _ _ (getMethod (Value.ref _) (Str.ofString "add") _) _ _ _); k_dflt (refine' kse_method (knd := PySem.intKind _ _) ?zzN ?zzU ?zzd ?zzz ?_; (case zzN => k_asm); (case zzU => k_updF); (case zzd => assumption); (case zzz => (show _ < 4096; omega)))))
  k_with "MYcall" => ((with_reducible show wpAny _ _ (call (Value.builtin "set.add") _ _) _ _ _); (k_here; k_dflt (refine' kse_add (knd := PySem.intKind _ _) ?zzF ?zzN ?zzU ?zzd ?zzz (intKind_is _ _ _ _) rfl ?_; (case zzF => k_asm); (case zzN => k_asm); (case zzU => k_updF); (case zzd => assumption); (case zzz => (show _ < 4096; omega))); intro _ _ _ _ _; (try dsimp only at N'); (try k_sweep)))
  k_with "MY subscriptTail" => ((with_reducible show wpAny _ _ (subscriptTail _ _ (Value.ref _) _) _ _ _); ((with_reducible show wpAny _ _ (subscriptTail _ _ (Value.ref _) (Value.int _ _)) _ _ _); with_unfolding_all refine' kda_item (knd := PySem.intKind _ _) ?zzk1 ?zzk2 ?zzk3 (intKind_is _ _ _ _) ?zzk4 ?_ ?zzk7 ?zzk8; (case zzk1 => k_asm); (case zzk2 => k_mem); (case zzk3 => assumption); (case zzk4 => assumption); (case zzk7 => with_unfolding_all rfl); (case zzk8 => (intro _; with_unfolding_all rfl))))
  k_with "MYcall" => ((with_reducible show wpAny _ _ (call (Value.builtin "iter") _ _) _ _ _); (k_here; k_dflt (refine' my_iter ?zzF ?zzN ?zzm ?_; (case zzF => k_asm); (case zzN => k_asm); (case zzm => k_mem)); intro _ _ _ _ zl; (try k_lt zl); (revert zl; intro _); (try k_sweep)))
  k_with "MY getAttr ref" => ((with_reducible show wpAny _ _ (getAttr (Value.ref _) _ _) _ _ _); (k_here; (with_reducible show wpAny _ _ (getAttr (Value.ref _) (Str.ofString "__next__") _) _ _ _); k_dflt (refine' mw_getattr ?zzF ?zzN ?zzm ?_; (case zzF => k_asm); (case zzN => k_asm); (case zzm => k_mem)); intro _ _ _ _ _ zl; (try k_lt zl); (revert zl; intro _); (try k_sweep)))
  k_with "MY truthy ref" => ((with_reducible show wpAny _ _ (truthy (Value.ref _)) _ _ _); (k_here; (with_reducible show wpAny _ _ (truthy (Value.ref _)) _ _ _); k_dflt (refine' my_truthy ?zzN ?zzm ?zzz _ ?zzb ?_; (case zzN => k_asm); (case zzm => k_mem); (case zzz => assumption); (case zzb => assumption)); intro _; (try dsimp only)))
  k_with "MY subscriptTail" => ((with_reducible show wpAny _ _ (subscriptTail _ _ (Value.ref _) _) _ _ _); ((with_reducible show wpAny _ _ (subscriptTail _ _ (Value.ref _) (Value.int (-1) _)) _ _ _); k_dflt (refine' my_last ?zzN ?zzm ?zzz ?_ ?zze; (case zzN => k_asm); (case zzm => k_mem); (case zzz => assumption); (case zze => with_unfolding_all rfl))))
  k_with "MY callWith ref" => ((with_reducible show wpAny _ _ (callWith _ (Value.ref _) _ _ []) _ _ _); (k_here; (with_reducible show wpAny _ _ (callWith _ (Value.ref _) _ (backTo _ (starEach [] _)) []) _ _ _); k_dflt (refine' callWith_W ?zzN ?zzq ?_; (case zzN => k_asm); (case zzq => k_mem)); (try dsimp only [List.nil_append])))
  k_with "MYcall" => ((with_reducible show wpAny _ _ (call (Value.builtin "list.pop") _ _) _ _ _); (k_here; k_dflt (refine' my_pop ?zzF ?zzN ?zzU ?zzz ?_; (case zzF => k_asm); (case zzN => k_asm); (case zzU => k_upd); (case zzz => omega)); intro _ _ _; (try k_sweep)))
  k_with "MY delItem ref int" => ((with_reducible show wpAny _ _ (delItem (Value.ref _) (Value.int _ _)) _ _ _); (k_here; k_dflt (refine' kob_del (knd := PySem.intKind _ _) ?zzF ?zzN ?zzU ?zzd (intKind_is _ _ _ _) ?zzl ?zzz ?_; (case zzF => k_asm); (case zzN => k_asm); (case zzU => k_updF); (case zzd => assumption); (case zzl => assumption); (case zzz => assumption)); intro _ _ _ _ _; (try dsimp only at N')))
  k_with "MY getMethod ref" => ((with_reducible show wpAny _ _ (getMethod (Value.ref _) _ _) _ _ _); (k_here; (with_reducible show wpAny _ _ (getMethod (Value.ref _) (Str.ofString "values") _) _ _ _); k_dflt (refine kdl_method (knd := PySem.intKind _ _) PySem.F.slot_dict_values PySem.F.type_dict_values (by k_asm) (by k_mem) (by assumption) ?_)))
  k_with "MYcall" => ((with_reducible show wpAny _ _ (call (Value.builtin "dict.values") _ _) _ _ _); (k_here; k_dflt (refine kdl_view_values (knd := PySem.intKind _ _) (by k_asm) (by k_asm) (by k_mem) (by assumption) (by assumption) ?_); intro _ _ _ _ zl; (try k_lt zl); (revert zl; intro _); (try k_sweep)))
  k_with "MYcall" => ((with_reducible show wpAny _ _ (call (Value.type "bool") _ _) _ _ _); (k_here; k_dflt (refine' my_bool ?zzN ?zzm ?zzz _ ?zzb ?_; (case zzN => k_asm); (case zzm => k_mem); (case zzz => assumption); (case zzb => assumption)); intro _; (try dsimp only)))
  k_with "MYcall" => ((with_reducible show wpAny _ _ (call (Value.type "tuple") _ _) _ _ _); (k_here; k_dflt (refine' my_tupleOf ?zzF ?zzN ?zzm ?zzz ?_; (case zzF => k_asm); (case zzN => k_asm); (case zzm => k_mem); (case zzz => omega)); intro _ _ _ _ zl; (revert zl; intro _); (try k_sweep)))
  k_with "MYcall" => ((with_reducible show wpAny _ _ (call (Value.builtin "list.clear") _ _) _ _ _); (k_here; k_dflt (refine' my_clear ?zzF ?zzN ?zzU ?zzz ?_; (case zzF => k_asm); (case zzN => k_asm); (case zzU => k_upd); (case zzz => omega)); intro _ _ _; (try k_sweep)))
  k_with "MY compareOp NotIn int ref" => ((with_reducible show wpAny _ _ (compareOp CmpOp.NotIn (Value.int _ _) (Value.ref _)) _ _ _); (k_here; k_dflt (refine' my_notin ?zzN ?zzm ?zzi ?_; (case zzN => k_asm); (case zzm => k_mem); (case zzi => assumption)); (try dsimp only)))
  k_with "MYcall" => ((with_reducible show wpAny _ _ (call (Value.builtin "sorted") _ _) _ _ _); (k_here; k_dflt (refine' my_sorted ?zzF ?zzN ?zzm ?zzi ?zzz ?_; (case zzF => k_asm); (case zzN => k_asm); (case zzm => k_mem); (case zzi => assumption); (case zzz => omega)); intro _ _ _ _ _ _ _ zl _ _ _; (try k_lt zl); (revert zl; intro _); (try k_sweep)))
  k_with "MY binaryOp Add ref ref" => ((with_reducible show wpAny _ _ (binaryOp Operator.Add (Value.ref _) (Value.ref _)) _ _ _); (k_here; k_dflt (refine' my_addL ?zzF ?zzN ?zzm ?zzm2 ?zzz ?_; (case zzF => k_asm); (case zzN => k_asm); (case zzm => k_mem); (case zzm2 => k_mem); (case zzz => assumption)); intro _ _ _ _ zl; (try k_lt zl); (revert zl; intro _); (try k_sweep)))
  k_with "MYcall" => ((with_reducible show wpAny _ _ (call (Value.type "list") _ _) _ _ _); (k_here; k_dflt (refine' my_copy ?zzF ?zzN ?zzm ?zzz ?_; (case zzF => k_asm); (case zzN => k_asm); (case zzm => k_mem); (case zzz => omega)); intro _ _ _ _ _ zl; (try k_lt zl); (revert zl; intro _); (try k_sweep)))
  k_with "MYcall" => ((with_reducible show wpAny _ _ (call (Value.builtin "list.pop") _ _) _ _ _); (k_here; (with_reducible show wpAny _ _ (call (Value.builtin _) [Value.ref _, Value.int _ _]) _ _ _); k_dflt (refine' my_popAt ?zzF ?zzN ?zzU ?zzi ?zzz ?_; (case zzF => k_asm); (case zzN => k_asm); (case zzU => k_upd); (case zzi => assumption); (case zzz => omega)); intro _ _ _; (try k_sweep)))
  k_with "MY compareOp NotEq ref ref" => ((with_reducible show wpAny _ _ (compareOp CmpOp.NotEq (Value.ref _) (Value.ref _)) _ _ _); (k_here; k_dflt (refine' my_ne ?zzN ?zzm ?zzm2 ?zzi ?zzj ?zzu ?_; (case zzN => k_asm); (case zzm => k_mem); (case zzm2 => k_mem); (case zzi => assumption); (case zzj => assumption); (case zzu => assumption)); (try dsimp only)))
  k_with "MINE" => ((with_reducible show wpAny _ _ (call _ _ _) _ _ _); k_extra "MYcall")
  k_with "MINE" => ((with_reducible show wpAny _ _ (subscriptTail _ _ (Value.ref _) _) _ _ _); k_extra "MY subscriptTail")
  k_with "MINE" => ((with_reducible show wpAny _ _ (eval (Expr.Name _ _) (envOf _ _ _ _ _)) _ _ _); k_extra "MY eval Name")
  k_with "MINE" => ((with_reducible show wpAny _ _ (getMethod (Value.ref _) _ _) _ _ _); k_extra "MY getMethod ref")
  k_with "MINE" => ((with_reducible show wpAny _ _ (setItem (Value.ref _) (Value.int _ _) _) _ _ _); k_extra "MY setItem ref int")
  k_with "MINE" => ((with_reducible show wpAny _ _ (eval (Expr.Call (Expr.Attribute _ _ _) _ [] _) _) _ _ _); k_extra "MY eval Call Attribute")
  k_with "MINE" => ((with_reducible show wpAny _ _ (callWith _ (Value.ref _) _ _ []) _ _ _); k_extra "MY callWith ref")
  k_with "MINE" => ((with_reducible show StarOf _ _ _ (Value.ref _) _ _); k_extra "MY StarOf ref")
  k_with "MINE" => ((with_reducible show wpAny _ _ (compareOp CmpOp.In (Value.int _ _) (Value.ref _)) _ _ _); k_extra "MY compareOp In int ref")
  k_with "MINE" => ((with_reducible show wpAny _ _ (getAttr (Value.ref _) _ _) _ _ _); k_extra "MY getAttr ref")
  k_with "MINE" => ((with_reducible show wpAny _ _ (truthy (Value.ref _)) _ _ _); k_extra "MY truthy ref")
  k_with "MINE" => ((with_reducible show wpAny _ _ (delItem (Value.ref _) (Value.int _ _)) _ _ _); k_extra "MY delItem ref int")
  k_with "MINE" => ((with_reducible show wpAny _ _ (compareOp CmpOp.NotIn (Value.int _ _) (Value.ref _)) _ _ _); k_extra "MY compareOp NotIn int ref")
  k_with "MINE" => ((with_reducible show wpAny _ _ (binaryOp Operator.Add (Value.ref _) (Value.ref _)) _ _ _); k_extra "MY binaryOp Add ref ref")
  k_with "MINE" => ((with_reducible show wpAny _ _ (compareOp CmpOp.NotEq (Value.ref _) (Value.ref _)) _ _ _); k_extra "MY compareOp NotEq ref ref")
  k_with "MINE steps" => (w_strict (repeat' (first | (k_unfold; (try dsimp only)) | ((fail_if_success (with_reducible show wpAny _ _ _ _ _ _)); refine CutG.out (by assumption) _ _ _ ?_; (try clear khb); (try clear kQb); (try clear ko); (try clear kd); (try clear kg); (try dsimp only)) | ((fail_if_success (with_reducible show wpAny _ _ _ _ _ _)); refine CutH.out (by assumption) _ _ ?_; (try clear kha); (try clear kQa)) | ((with_reducible show wpAny _ _ (execs (_ :: _) _) _ _ _); (first | (refine execs_cut1 (by assumption) ?_; intro kg kd ko _ kQb khb) | (refine execs_cut2 (by assumption) ?_; intro _) | (refine cutQ ?_; intro kQa kha))) | ((fail_if_success (with_reducible show wpAny _ _ (exec (Stmt.While _ _ _ _) _) _ _ _)); (fail_if_success (with_reducible show wpAny _ _ (eval (Expr.ListComp _ _ _ _) _) _ _ _)); (fail_if_success (with_reducible show wpAny _ _ (exec (Stmt.Try _ _ _ _ _) _) _ _ _)); (fail_if_success (with_reducible show wpAny _ _ (exec (Stmt.For _ _ _ _ _) _) _ _ _)); (first | k_extra "MINE" | walk1 | (dsimp only; walk1)))  | fail "no step")))
  k_with "MINE plain" => (w_strict (repeat' (first | (k_unfold; (try dsimp only)) | ((fail_if_success (with_reducible show wpAny _ _ _ _ _ _)); refine CutH.out (by assumption) _ _ ?_; (try clear kha); (try clear kQa)) | ((fail_if_success (with_reducible show wpAny _ _ (exec (Stmt.While _ _ _ _) _) _ _ _)); (fail_if_success (with_reducible show wpAny _ _ (eval (Expr.ListComp _ _ _ _) _) _ _ _)); (fail_if_success (with_reducible show wpAny _ _ (exec (Stmt.Try _ _ _ _ _) _) _ _ _)); (fail_if_success (with_reducible show wpAny _ _ (exec (Stmt.For _ _ _ _ _) _) _ _ _)); (first | k_extra "MINE" | walk1 | (dsimp only; walk1)))  | fail "no step")))
  trivial
theorem ia_spec {w : World} {A A₀ : Around} {env : Env} {outer : List Env} {base h₀ : Heap} {L : Addr} {m mg mb : Str → Option Value} {p : Program} {loose : List Str} {mean : ExcName → Option Value} {s : Shared} {rest : List (Addr × Obj)} {R : Result → Shared → Prop}
    {σ : Srt} {aR : Addr} {rl : List Value} {n : Nat} {po nf : Int} {tp tf : Tok} {oD : Obj} {G : List NodeR}
    (C : Cx w A A₀ env outer base h₀ L m mg mb p loose mean s.heap (gl w σ (.ref aR) po tp nf tf oD G ((aR, W.listOf rl.toArray n) :: rest)) 897) (hz : rl.length < 2 ^ 63)
    (hR : ∀ h' tk, Fr h₀ L h' m → News h₀ L h' (gl w σ (.ref aR) po tp nf tf oD G ((aR, W.listOf rl.toArray n) :: rest)) → R (.ok (.ret (.bool (decide (nf < po) || !rl.isEmpty)))) { s with heap := h', toks := tk }) :
    codeAny (model PySem.Challenge.rw_mr0333_01.row.prog w) A (.call (.ref 133) ⟨[.ref σ.S], []⟩) R s := by
  obtain ⟨B, F, X, N, T, hA, hf, hke, hdep, hh⟩ := C
  revert X
  k_fill
  intro X
  refine' enterD (binds := [(Str.ofString "self", .ref σ.S)]) B F X N T hA hf hke (by k_is) (by k_is) (by show A.depth < 1000; omega) (kp_binds (by k_in) (fun _ => rfl)) (locs rfl) ?_ rfl rfl rfl (by decide)
  intro g0 L' h' FG' F' N' B' X' T' hA'
  have hm : (aR, W.listOf rl.toArray n) ∈ G.flatMap nseg ++ (aR, W.listOf rl.toArray n) :: rest := List.mem_append_right _ (.head _)
  obtain ⟨bb, hbb⟩ : ∃ bb, (!rl.isEmpty) = bb := ⟨_, rfl⟩
  rw [hbb] at hR
  walk_at "MINE steps"
  · rename nf < po => hlt
    rw [show (decide (nf < po)) = true from decide_eq_true hlt]
    rw [show (decide (nf < po)) = true from decide_eq_true hlt] at hR
    exact hR _ _ (by assumption) (by assumption)
  · rename ¬ nf < po => hlt
    rw [show (decide (nf < po)) = false from decide_eq_false hlt, Bool.false_or] at hR
    exact hR _ _ (by assumption) (by assumption)

end Mine
-- P11
namespace Mine
open PySem PySem.W PyProof.Rows
example : True := by
  k_with_none
  k_with "MYcall" => ((with_reducible show wpAny _ _ (call (Value.builtin "len") _ _) _ _ _); (refine' my_len ?zzk1 ?zzk2 ?zzk3 ?_; (case zzk1 => k_asm); (case zzk2 => k_mem); (case zzk3 => omega); intro _ _))
  k_with "MY subscriptTail" => ((with_reducible show wpAny _ _ (subscriptTail _ _ (Value.ref _) _) _ _ _); ((with_reducible show wpAny _ _ (subscriptTail _ _ (Value.ref _) (Value.int _ _)) _ _ _); with_unfolding_all refine' my_item ?zzk1 ?zzk2 ?zzk3 ?zzk4 ?zzk5 ?zzk6 ?_ ?zzk7; (case zzk1 => k_asm); (case zzk2 => k_mem); (case zzk3 => assumption); (case zzk4 => omega); (case zzk5 => omega); (case zzk6 => omega); (case zzk7 => with_unfolding_all rfl);  intro _))
  k_with "MY eval Name" => ((with_reducible show wpAny _ _ (eval (Expr.Name _ _) (envOf _ _ _ _ _)) _ _ _); (k_here; k_dflt (refine' ld ?zzk1 ?zzk2 ?_; (case zzk1 => k_asm); (case zzk2 => assumption); k_whole)))
  k_with "MYcall" => ((with_reducible show wpAny _ _ (call (Value.builtin "list.insert") _ _) _ _ _); (k_here; k_dflt (refine' my_insert ?zzF ?zzN ?zzU ?zzhk ?zzz ?_; (case zzF => k_asm); (case zzN => k_asm); (case zzU => k_upd); (case zzhk => omega); (case zzz => omega); k_whole); intro _ _ _; (try k_sweep)))
  k_with "MYcall" => ((with_reducible show wpAny _ _ (call (Value.builtin "dict.get") _ _) _ _ _); (k_here; k_dflt (first | refine kdg_get1 (knd := PySem.intKind _ _) (by k_asm) (by k_mem) (by assumption) (by assumption) (intKind_is _ _ _ _) none (by assumption) ?_ | refine kdg_get1 (knd := PySem.intKind _ _) (by k_asm) (by k_mem) (by assumption) (by assumption) (intKind_is _ _ _ _) (some _) (by assumption) ?_); (try dsimp only [Option.getD])))
  k_with "MY getMethod ref" => ((with_reducible show wpAny _ _ (getMethod (Value.ref _) _ _) _ _ _); (k_here; (with_reducible show wpAny _ _ (getMethod (Value.ref _) (Str.ofString "get") _) _ _ _); k_dflt (refine kdg_method (knd := PySem.intKind _ _) (by k_asm) (by k_mem) (by assumption) ?_)))
  k_with "MY setItem ref int" => ((with_reducible show wpAny _ _ (setItem (Value.ref _) (Value.int _ _) _) _ _ _); (k_here; k_dflt (refine' kda_set (knd := PySem.intKind _ _) ?zzF ?zzN ?zzU ?zzd (intKind_is _ _ _ _) ?zzz ?_; (case zzF => k_asm); (case zzN => k_asm); (case zzU => k_updF); (case zzd => assumption); (case zzz => assumption)); intro _ _ _ _ _; (try dsimp only at N'); (try k_sweep)))
  k_with "MYcall" => ((with_reducible show wpAny _ _ (call (Value.builtin "len") _ _) _ _ _); (refine' my_lenT ?zzk1 ?zzk2 ?zzk3 ?_; (case zzk1 => k_asm); (case zzk2 => k_mem); (case zzk3 => omega); intro _ _))
  k_with "MY eval Call Attribute" => ((with_reducible show wpAny _ _ (eval (Expr.Call (Expr.Attribute _ _ _) _ [] _) _) _ _ _); (k_here; (with_reducible show wpAny _ _ (eval (Expr.Call (Expr.Attribute _ _ _) _ [] _) _) _ _ _); ks_star; refine star_method ?_))
  k_with "MY callWith ref" => ((with_reducible show wpAny _ _ (callWith _ (Value.ref _) _ _ []) _ _ _); (k_here; (with_reducible show wpAny _ _ (callWith _ (Value.ref _) _ (backTo _ (starEach [Expr.Starred _ _] _)) []) _ _ _); k_dflt (refine' callWith_MS ?zzX ?zzN ?zzq ?zzk2 ?_; (case zzX => k_asm); (case zzN => k_asm); (case zzq => k_mem); (case zzk2 => k_is); k_whole)))
  k_with "MY callWith ref" => ((with_reducible show wpAny _ _ (callWith _ (Value.ref _) _ _ []) _ _ _); (k_here; (with_reducible show wpAny _ _ (callWith _ (Value.ref _) _ (backTo _ (starEach (_ :: _ :: _) _)) []) _ _ _); ks_star; k_dflt (refine' callWith_MS2 ?zzX ?zzN ?zzq ?zzk2 ?_; (case zzX => k_asm); (case zzN => k_asm); (case zzq => k_mem); (case zzk2 => k_is); k_whole)))
  k_with "MY StarOf ref" => ((with_reducible show StarOf _ _ _ (Value.ref _) _ _); (k_here; k_dflt (first | (refine' my_star ?zzF ?zzN ?zzm ?zzi ?zzz ?_; (case zzF => k_asm); (case zzN => k_asm); (case zzm => k_mem); (case zzi => assumption); (case zzz => omega); k_whole) | (refine' my_starT ?zzF ?zzN ?zzm ?zzi ?zzz ?_; (case zzF => k_asm); (case zzN => k_asm); (case zzm => k_mem); (case zzi => assumption); (case zzz => omega); k_whole)); intro _ _ _; (try k_sweep); (try dsimp only [List.nil_append, List.cons_append])))
  k_with "MY compareOp In int ref" => ((with_reducible show wpAny _ _ (compareOp CmpOp.In (Value.int _ _) (Value.ref _)) _ _ _); (k_here; k_dflt (first | (refine' kse_in (knd := PySem.intKind _ _) ?zzN ?zzU ?zzd ?zzz (intKind_is _ _ _ _) rfl ?_; (case zzN => k_asm); (case zzU => k_updF); (case zzd => assumption); (case zzz => (show _ < 4096; omega))) | (refine' kda_in (knd := PySem.intKind _ _) ?zzN ?zzm ?zzd ?zzlo (intKind_is _ _ _ _) false ?zzb ?_; (case zzN => k_asm); (case zzm => k_mem); (case zzd => assumption); (case zzlo => assumption); (case zzb => assumption))); (try dsimp only)))
  k_with "MY getMethod ref" => ((with_reducible show wpAny _ _ (getMethod (Value.ref _) _ _) _ _ _); (k_here; (with_reducible show wpAny _ _ (getMethod (Value.ref _) (Str.ofString "add") _) _ _ _); k_dflt (refine' kse_method (knd := PySem.intKind _ _) ?zzN ?zzU ?zzd ?zzz ?_; (case zzN => k_asm); (case zzU => k_updF); (case zzd => assumption); (case zzz => (show _ < 4096; omega)))))
  k_with "MYcall" => ((with_reducible show wpAny _ _ (call (Value.builtin "set.add") _ _) _ _ _); (k_here; k_dflt (refine' kse_add (knd := PySem.intKind _ _) ?zzF ?zzN ?zzU ?zzd ?zzz (intKind_is _ _ _ _) rfl ?_; (case zzF => k_asm); (case zzN => k_asm); (case zzU => k_updF); (case zzd => assumption); (case zzz => (show _ < 4096; omega))); intro _ _ _ _ _; (try dsimp only at N'); (try k_sweep)))
  k_with "MY subscriptTail" => ((with_reducible show wpAny _ _ (subscriptTail _ _ (Value.ref _) _) _ _ _); ((with_reducible show wpAny _ _ (subscriptTail _ _ (Value.ref _) (Value.int _ _)) _ _ _); with_unfolding_all refine' kda_item (knd := PySem.intKind _ _) ?zzk1 ?zzk2 ?zzk3 (intKind_is _ _ _ _) ?zzk4 ?_ ?zzk7 ?zzk8; (case zzk1 => k_asm); (case zzk2 => k_mem); (case zzk3 => assumption); (case zzk4 => assumption); (case zzk7 => with_unfolding_all rfl); (case zzk8 => (intro _; with_unfolding_all rfl))))
  k_with "MYcall" => ((with_reducible show wpAny _ _ (call (Value.builtin "iter") _ _) _ _ _); (k_here; k_dflt (refine' my_iter ?zzF ?zzN ?zzm ?_; (case zzF => k_asm); (case zzN => k_asm); (case zzm => k_mem)); intro _ _ _ _ zl; (try k_lt zl); (revert zl; intro _); (try k_sweep)))
  k_with "MY getAttr ref" => ((with_reducible show wpAny _ _ (getAttr (Value.ref _) _ _) _ _ _); (k_here; (with_reducible show wpAny _ _ (getAttr (Value.ref _) (Str.ofString "__next__") _) _ _ _); k_dflt (refine' mw_getattr ?zzF ?zzN ?zzm ?_; (case zzF => k_asm); (case zzN => k_asm); (case zzm => k_mem)); intro _ _ _ _ _ zl; (try k_lt zl); (revert zl; intro _); (try k_sweep)))
  k_with "MY truthy ref" => ((with_reducible show wpAny _ _ (truthy (Value.ref _)) _ _ _); (k_here; (with_reducible show wpAny _ _ (truthy (Value.ref _)) _ _ _); k_dflt (refine' my_truthy ?zzN ?zzm ?zzz _ ?zzb ?_; (case zzN => k_asm); (case zzm => k_mem); (case zzz => assumption); (case zzb => assumption)); intro _; (try dsimp only)))
  k_with "MY subscriptTail" => ((with_reducible show wpAny _ _ (subscriptTail _ _ (Value.ref _) _) _ _ _); ((with_reducible show wpAny _ _ (subscriptTail _ _ (Value.ref _) (Value.int (-1) _)) _ _ _); k_dflt (refine' my_last ?zzN ?zzm ?zzz ?_ ?zze; (case zzN => k_asm); (case zzm => k_mem); (case zzz => assumption); (case zze => with_unfolding_all rfl))))
  k_with "MY callWith ref" => ((with_reducible show wpAny _ _ (callWith _ (Value.ref _) _ _ []) _ _ _); (k_here; (with_reducible show wpAny _ _ (callWith _ (Value.ref _) _ (backTo _ (starEach [] _)) []) _ _ _); k_dflt (refine' callWith_W ?zzN ?zzq ?_; (case zzN => k_asm); (case zzq => k_mem)); (try dsimp only [List.nil_append])))
  k_with "MYcall" => ((with_reducible show wpAny _ _ (call (Value.builtin "list.pop") _ _) _ _ _); (k_here; k_dflt (refine' my_pop ?zzF ?zzN ?zzU ?zzz ?_; (case zzF => k_asm); (case zzN => k_asm); (case zzU => k_upd); (case zzz => omega)); intro _ _ _; (try k_sweep)))
  k_with "MY delItem ref int" => ((with_reducible show wpAny _ _ (delItem (Value.ref _) (Value.int _ _)) _ _ _); (k_here; k_dflt (refine' kob_del (knd := PySem.intKind _ _) ?zzF ?zzN ?zzU ?zzd (intKind_is _ _ _ _) ?zzl ?zzz ?_; (case zzF => k_asm); (case zzN => k_asm); (case zzU => k_updF); (case zzd => assumption); (case zzl => assumption); (case zzz => assumption)); intro _ _ _ _ _; (try dsimp only at N')))
  k_with "MY getMethod ref" => ((with_reducible show wpAny _ _ (getMethod (Value.ref _) _ _) _ _ _); (k_here; (with_reducible show wpAny _ _ (getMethod (Value.ref _) (Str.ofString "values") _) _ _ _); k_dflt (refine kdl_method (knd := PySem.intKind _ _) PySem.F.slot_dict_values PySem.F.type_dict_values (by k_asm) (by k_mem) (by assumption) ?_)))
  k_with "MYcall" => ((with_reducible show wpAny _ _ (call (Value.builtin "dict.values") _ _) _ _ _); (k_here; k_dflt (refine kdl_view_values (knd := PySem.intKind _ _) (by k_asm) (by k_asm) (by k_mem) (by assumption) (by assumption) ?_); intro _ _ _ _ zl; (try k_lt zl); (revert zl; intro _); (try k_sweep)))
  k_with "MYcall" => ((with_reducible show wpAny _ _ (call (Value.type "bool") _ _) _ _ _); (k_here; k_dflt (refine' my_bool ?zzN ?zzm ?zzz _ ?zzb ?_; (case zzN => k_asm); (case zzm => k_mem); (case zzz => assumption); (case zzb => assumption)); intro _; (try dsimp only)))
  k_with "MYcall" => ((with_reducible show wpAny _ _ (call (Value.type "tuple") _ _) _ _ _); (k_here; k_dflt (refine' my_tupleOf ?zzF ?zzN ?zzm ?zzz ?_; (case zzF => k_asm); (case zzN => k_asm); (case zzm => k_mem); (case zzz => omega)); intro _ _ _ _ zl; (revert zl; intro _); (try k_sweep)))
  k_with "MYcall" => ((with_reducible show wpAny _ _ (call (Value.builtin "list.clear") _ _) _ _ _); (k_here; k_dflt (refine' my_clear ?zzF ?zzN ?zzU ?zzz ?_; (case zzF => k_asm); (case zzN => k_asm); (case zzU => k_upd); (case zzz => omega)); intro _ _ _; (try k_sweep)))
  k_with "MY compareOp NotIn int ref" => ((with_reducible show wpAny _ _ (compareOp CmpOp.NotIn (Value.int _ _) (Value.ref _)) _ _ _); (k_here; k_dflt (refine' my_notin ?zzN ?zzm ?zzi ?_; (case zzN => k_asm); (case zzm => k_mem); (case zzi => assumption)); (try dsimp only)))
  k_with "MYcall" => ((with_reducible show wpAny _ _ (call (Value.builtin "sorted") _ _) _ _ _); (k_here; k_dflt (refine' my_sorted ?zzF ?zzN ?zzm ?zzi ?zzz ?_; (case zzF => k_asm); (case zzN => k_asm); (case zzm => k_mem); (case zzi => assumption); (case zzz => omega)); intro _ _ _ _ _ _ _ zl _ _ _; (try k_lt zl); (revert zl; intro _); (try k_sweep)))
  k_with "MY binaryOp Add ref ref" => ((with_reducible show wpAny _ _ (binaryOp Operator.Add (Value.ref _) (Value.ref _)) _ _ _); (k_here; k_dflt (refine' my_addL ?zzF ?zzN ?zzm ?zzm2 ?zzz ?_; (case zzF => k_asm); (case zzN => k_asm); (case zzm => k_mem); (case zzm2 => k_mem); (case zzz => assumption)); intro _ _ _ _ zl; (try k_lt zl); (revert zl; intro _); (try k_sweep)))
  k_with "MYcall" => ((with_reducible show wpAny _ _ (call (Value.type "list") _ _) _ _ _); (k_here; k_dflt (refine' my_copy ?zzF ?zzN ?zzm ?zzz ?_; (case zzF => k_asm); (case zzN => k_asm); (case zzm => k_mem); (case zzz => omega)); intro _ _ _ _ _ zl; (try k_lt zl); (revert zl; intro _); (try k_sweep)))
  k_with "MYcall" => ((with_reducible show wpAny _ _ (call (Value.builtin "list.pop") _ _) _ _ _); (k_here; (with_reducible show wpAny _ _ (call (Value.builtin _) [Value.ref _, Value.int _ _]) _ _ _); k_dflt (refine' my_popAt ?zzF ?zzN ?zzU ?zzi ?zzz ?_; (case zzF => k_asm); (case zzN => k_asm); (case zzU => k_upd); (case zzi => assumption); (case zzz => omega)); intro _ _ _; (try k_sweep)))
  k_with "MY compareOp NotEq ref ref" => ((with_reducible show wpAny _ _ (compareOp CmpOp.NotEq (Value.ref _) (Value.ref _)) _ _ _); (k_here; k_dflt (refine' my_ne ?zzN ?zzm ?zzm2 ?zzi ?zzj ?zzu ?_; (case zzN => k_asm); (case zzm => k_mem); (case zzm2 => k_mem); (case zzi => assumption); (case zzj => assumption); (case zzu => assumption)); (try dsimp only)))
  k_with "MINE" => ((with_reducible show wpAny _ _ (call _ _ _) _ _ _); k_extra "MYcall")
  k_with "MINE" => ((with_reducible show wpAny _ _ (subscriptTail _ _ (Value.ref _) _) _ _ _); k_extra "MY subscriptTail")
  k_with "MINE" => ((with_reducible show wpAny _ _ (eval (Expr.Name _ _) (envOf _ _ _ _ _)) _ _ _); k_extra "MY eval Name")
  k_with "MINE" => ((with_reducible show wpAny _ _ (getMethod (Value.ref _) _ _) _ _ _); k_extra "MY getMethod ref")
  k_with "MINE" => ((with_reducible show wpAny _ _ (setItem (Value.ref _) (Value.int _ _) _) _ _ _); k_extra "MY setItem ref int")
  k_with "MINE" => ((with_reducible show wpAny _ _ (eval (Expr.Call (Expr.Attribute _ _ _) _ [] _) _) _ _ _); k_extra "MY eval Call Attribute")
  k_with "MINE" => ((with_reducible show wpAny _ _ (callWith _ (Value.ref _) _ _ []) _ _ _); k_extra "MY callWith ref")
  k_with "MINE" => ((with_reducible show StarOf _ _ _ (Value.ref _) _ _); k_extra "MY StarOf ref")
  k_with "MINE" => ((with_reducible show wpAny _ _ (compareOp CmpOp.In (Value.int _ _) (Value.ref _)) _ _ _); k_extra "MY compareOp In int ref")
  k_with "MINE" => ((with_reducible show wpAny _ _ (getAttr (Value.ref _) _ _) _ _ _); k_extra "MY getAttr ref")
  k_with "MINE" => ((with_reducible show wpAny _ _ (truthy (Value.ref _)) _ _ _); k_extra "MY truthy ref")
  k_with "MINE" => ((with_reducible show wpAny _ _ (delItem (Value.ref _) (Value.int _ _)) _ _ _); k_extra "MY delItem ref int")
  k_with "MINE" => ((with_reducible show wpAny _ _ (compareOp CmpOp.NotIn (Value.int _ _) (Value.ref _)) _ _ _); k_extra "MY compareOp NotIn int ref")
  k_with "MINE" => ((with_reducible show wpAny _ _ (binaryOp Operator.Add (Value.ref _) (Value.ref _)) _ _ _); k_extra "MY binaryOp Add ref ref")
  k_with "MINE" => ((with_reducible show wpAny _ _ (compareOp CmpOp.NotEq (Value.ref _) (Value.ref _)) _ _ _); k_extra "MY compareOp NotEq ref ref")
  k_with "MINE steps" => (w_strict (repeat' (first | (k_unfold; (try dsimp only)) | ((fail_if_success (with_reducible show wpAny _ _ _ _ _ _)); refine CutG.out (by assumption) _ _ _ ?_; (try clear khb); (try clear kQb); (try clear ko); (try clear kd); (try clear kg); (try dsimp only)) | ((fail_if_success (with_reducible show wpAny _ _ _ _ _ _)); refine CutH.out (by assumption) _ _ ?_; (try clear kha); (try clear kQa)) | ((with_reducible show wpAny _ _ (execs (_ :: _) _) _ _ _); (first | (refine execs_cut1 (by assumption) ?_; intro kg kd ko _ kQb khb) | (refine execs_cut2 (by assumption) ?_; intro _) | (refine cutQ ?_; intro kQa kha))) | ((fail_if_success (with_reducible show wpAny _ _ (exec (Stmt.While _ _ _ _) _) _ _ _)); (fail_if_success (with_reducible show wpAny _ _ (eval (Expr.ListComp _ _ _ _) _) _ _ _)); (fail_if_success (with_reducible show wpAny _ _ (exec (Stmt.Try _ _ _ _ _) _) _ _ _)); (fail_if_success (with_reducible show wpAny _ _ (exec (Stmt.For _ _ _ _ _) _) _ _ _)); (first | k_extra "MINE" | walk1 | (dsimp only; walk1)))  | fail "no step")))
  k_with "MINE plain" => (w_strict (repeat' (first | (k_unfold; (try dsimp only)) | ((fail_if_success (with_reducible show wpAny _ _ _ _ _ _)); refine CutH.out (by assumption) _ _ ?_; (try clear kha); (try clear kQa)) | ((fail_if_success (with_reducible show wpAny _ _ (exec (Stmt.While _ _ _ _) _) _ _ _)); (fail_if_success (with_reducible show wpAny _ _ (eval (Expr.ListComp _ _ _ _) _) _ _ _)); (fail_if_success (with_reducible show wpAny _ _ (exec (Stmt.Try _ _ _ _ _) _) _ _ _)); (fail_if_success (with_reducible show wpAny _ _ (exec (Stmt.For _ _ _ _ _) _) _ _ _)); (first | k_extra "MINE" | walk1 | (dsimp only; walk1)))  | fail "no step")))
  trivial
def setNp (u k : Int) (G : List ANode) : List ANode := G.map fun r => if r.key = u then { r with np := k } else r
theorem setNp_keys (u k : Int) (G : List ANode) : (setNp u k G).map (·.key) = G.map (·.key) := by
  unfold setNp
  rw [List.map_map]
  refine List.map_congr_left fun r _ => ?_
  show (if r.key = u then _ else _ : ANode).key = r.key
  split <;> rfl
theorem setNps_keys (k : Int) : ∀ (xs : List Int) (G : List ANode), (xs.foldl (fun a u => setNp u k a) G).map (·.key) = G.map (·.key)
  | [], _ => rfl
  | u :: xs, G => (setNps_keys k xs (setNp u k G)).trans (setNp_keys u k G)
theorem has_key {G G' : List NodeR} {xs : List Int} {k u : Int} (e : G'.map NodeR.abs = xs.foldl (fun a u => setNp u k a) (G.map NodeR.abs)) (h : ∃ q ∈ G, q.key = u) : ∃ q ∈ G', q.key = u := by
  have e2 : G'.map (·.key) = G.map (·.key) := by
    have := congrArg (List.map (·.key)) e
    rw [setNps_keys, List.map_map, List.map_map] at this
    exact this
  obtain ⟨q, hq, rfl⟩ := h
  have : q.key ∈ G'.map (·.key) := e2 ▸ List.mem_map_of_mem hq
  obtain ⟨q', hq', e'⟩ := List.mem_map.mp this
  exact ⟨q', hq', e'⟩
theorem gr_spec {w : World} {A A₀ : Around} {env : Env} {outer : List Env} {base h₀ : Heap} {L : Addr} {m mg mb : Str → Option Value} {p : Program} {loose : List Str} {mean : ExcName → Option Value} {s : Shared} {rest : List (Addr × Obj)} {R : Result → Shared → Prop}
    {σ : Srt} {aR : Addr} {rl : List Value} {xs : List Int} {n : Nat} {po nf : Int} {tp tf : Tok} {oD : Obj} {G : List NodeR} {b : Nat}
    (C : Cx w A A₀ env outer base h₀ L m mg mb p loose mean s.heap (gl w σ (.ref aR) po tp nf tf oD G ((aR, W.listOf rl.toArray n) :: rest)) 897) (g : GOK w σ oD G ((aR, W.listOf rl.toArray n) :: rest) b) (hi : IntsAre rl xs) (hz : xs.length ≤ 1000) (hk : ∀ u ∈ xs, ∃ q ∈ G, q.key = u)
    (hR : ∀ h' tk aT n' tp' G', Fr h₀ L h' m → News h₀ L h' (gl w σ (.ref aR) (po + xs.length) tp' nf tf oD G' ((aT, tupO rl) :: (aR, W.listOf ([] : List Value).toArray n') :: rest)) → GOK w σ oD G' ((aT, tupO rl) :: (aR, W.listOf ([] : List Value).toArray n') :: rest) b →
      G'.map NodeR.abs = xs.foldl (fun a u => setNp u (-1) a) (G.map NodeR.abs) → R (.ok (.ret (.ref aT))) { s with heap := h', toks := tk }) :
    codeAny (model PySem.Challenge.rw_mr0333_01.row.prog w) A (.call (.ref 126) ⟨[.ref σ.S], []⟩) R s := by
  obtain ⟨B, F, X, N, T, hA, hf, hke, hdep, hh⟩ := C
  revert X
  k_fill
  intro X
  refine' enterD (binds := [(Str.ofString "self", .ref σ.S)]) B F X N T hA hf hke (by k_is) (by k_is) (by show A.depth < 1000; omega) (kp_binds (by k_in) (fun _ => rfl)) (locs rfl) ?_ rfl rfl rfl (by decide)
  intro g0 L' h' FG' F' N' B' X' T' hA'
  have hm : (aR, W.listOf rl.toArray n) ∈ G.flatMap nseg ++ (aR, W.listOf rl.toArray n) :: rest := List.mem_append_right _ (.head _)
  have hil := hi.length
  walk_at "MINE steps"
  refine For_start ?_
  walk_at "MINE steps"
  rename News _ _ _ _ => N1
  rename Fr _ _ _ _ => F1
  rename_i aT _ lT _ _ _ _ _ _ _
  have g1 := GOK.push (o := tupO rl) g lT
  have N2 := News.perm N1 gl_push_perm
  have hmT : (aT, tupO rl) ∈ G.flatMap nseg ++ (aT, tupO rl) :: (aR, W.listOf rl.toArray n) :: rest := List.mem_append_right _ (.head _)
  refine ForL.tuple hh F1 N2 (by k_mem) (fun i m₁ n₁ => ∃ G3, n₁ = gl w σ (.ref aR) po tp nf tf oD G3 ((aT, tupO rl) :: (aR, W.listOf rl.toArray n) :: rest) ∧ GOK w σ oD G3 ((aT, tupO rl) :: (aR, W.listOf rl.toArray n) :: rest) b ∧
    G3.map NodeR.abs = (xs.take i).foldl (fun a u => setNp u (-1) a) (G.map NodeR.abs) ∧ m₁ (Str.ofString "self") = some (.ref σ.S) ∧ m₁ (Str.ofString "n2i") = some (.ref σ.D) ∧ m₁ (Str.ofString "result") = some (.ref aT)) ?_ (fun _ _ => rfl) ?_ ?_
  · exact ⟨G, rfl, g1, rfl, rfl, rfl, rfl⟩
  · rintro I i x m₁ n₁ oI h tk hx ⟨G3, rfl, g3, e3, ms, mn, mr⟩ hD hI lI F6 N7
    obtain ⟨u, t, rfl, hu'⟩ := hi.at i x hx
    obtain ⟨r, hr, hrk⟩ := has_key e3 (hk u (List.mem_of_getElem? hu'))
    subst hrk
    obtain ⟨Ga, Gb, rfl⟩ := List.append_of_mem hr
    have hvr := valueAt_kvG_of (GOK.keys' g3) hr
    have hdg := g3.dg
    have g4 := GOK.push' (o := oI) g3 hI
    have N8 := gl_out (News.perm N7 gl_push_perm)
    obtain ⟨o1, o2, o3, o4, o5, o6⟩ := g4.out (.ref aR) po tp nf tf
    have o1 := neN o1
    have o2 := neN o2
    have o3 := neN o3
    clear N7 F1 N1 N2
    walk_at "MINE steps"
    rename News _ _ _ _ => N11
    rename Fr _ _ _ _ => F9
    obtain ⟨G6, N12, g6, _, e6⟩ := gl_setnp g4 N11
    have e7 := e6 (fun a => if a.key = r.key then { a with np := -1 } else a) (fun a ha => if_neg ha) (by show (if r.key = r.key then _ else _) = _; rw [if_pos rfl]; rfl)
    rw [e3] at e7
    have hI' := g6.nm (.ref aR) po tp nf tf
    refine ⟨_, _, _, gl w σ (.ref aR) po tp nf tf oD G6 ((aT, tupO rl) :: (aR, W.listOf rl.toArray n) :: rest), rfl, F9, News.perm N12 gl_push_perm.symm, ?_, hI', G6, rfl, g6.tail, ?_, ms, mn, mr⟩
    · intro q hq
      rw [List.mem_singleton.mp hq]
      exact .tail _ (.tail _ (.tail _ (List.mem_append_right _ (.head _))))
    · rw [e7, List.take_add_one, hu', List.foldl_append]; rfl
  · rintro m' n₁ h tk F6 N7 hD ⟨G3, rfl, g3, e3, ms, mn, mr⟩
    rw [hil, List.take_length] at e3
    have hI1 := g3.nm (.ref aR) po tp nf tf
    have hI2 := g3.tail.nm (.ref aR) po tp nf tf
    have hI3 : aT ∉ (gl w σ (.ref aR) po tp nf tf oD G3 rest).map (·.1) ∧ @Ne Nat aT aR := by
      have p := (gl_push_perm (w := w) (σ := σ) (rv := .ref aR) (po := po) (tp := tp) (nf := nf) (tf := tf) (oD := oD) (G := G3) (rest := rest) (x := (aR, W.listOf rl.toArray n))).symm.map (·.1)
      exact ⟨fun q => hI1 (p.mem_iff.mpr (.tail _ q)), fun q => hI1 (p.mem_iff.mpr (q ▸ .head _))⟩
    obtain ⟨hI3, w0⟩ := hI3
    have N8 := News.perm N7 (gl_push_perm.symm.trans (gl_push_perm.symm.cons _))
    simp only [List.map_cons, List.mem_cons, not_or] at hI2 hI3
    have z1 : @Ne Nat aR σ.S := hI2.1
    have z2 : @Ne Nat aR σ.dS := hI2.2.1
    have z3 : @Ne Nat aR σ.D := hI2.2.2.1
    have z4 : aR ∉ (G3.flatMap nseg ++ rest).map (·.1) := hI2.2.2.2
    have w1 : @Ne Nat aT σ.S := hI3.1
    have w2 : @Ne Nat aT σ.dS := hI3.2.1
    have w3 : @Ne Nat aT σ.D := hI3.2.2.1
    have w4 : aT ∉ (G3.flatMap nseg ++ rest).map (·.1) := hI3.2.2.2
    have y1 : @Ne Nat σ.S σ.dS := g3.gn.a
    have y2 : @Ne Nat σ.S σ.D := g3.gn.b
    have y3 : @Ne Nat σ.dS σ.D := g3.gn.c
    have y4 : σ.S ∉ (G3.flatMap nseg ++ rest).map (·.1) := g3.tail.tail.gn.sS
    have y5 : σ.dS ∉ (G3.flatMap nseg ++ rest).map (·.1) := g3.tail.tail.gn.sd
    have y6 : σ.D ∉ (G3.flatMap nseg ++ rest).map (·.1) := g3.tail.tail.gn.sD
    clear N7 F1 N1 N2 hI1 hI2 hI3
    rw [← hil] at hR
    walk_at "MINE steps"
    rename News _ _ _ _ => N9
    rename Fr _ _ _ _ => F9
    exact hR _ _ aT _ _ G3 F9 (News.perm N9 (((gl_push_perm (w := w) (σ := σ)).cons _).trans gl_push_perm)) (g3.sub (List.Sublist.refl _)) e3

end Mine
-- P12
namespace Mine
open PySem PySem.W PyProof.Rows
example : True := by
  k_with_none
  k_with "MYcall" => ((with_reducible show wpAny _ _ (call (Value.builtin "len") _ _) _ _ _); (refine' my_len ?zzk1 ?zzk2 ?zzk3 ?_; (case zzk1 => k_asm); (case zzk2 => k_mem); (case zzk3 => omega); intro _ _))
  k_with "MY subscriptTail" => ((with_reducible show wpAny _ _ (subscriptTail _ _ (Value.ref _) _) _ _ _); ((with_reducible show wpAny _ _ (subscriptTail _ _ (Value.ref _) (Value.int _ _)) _ _ _); with_unfolding_all refine' my_item ?zzk1 ?zzk2 ?zzk3 ?zzk4 ?zzk5 ?zzk6 ?_ ?zzk7; (case zzk1 => k_asm); (case zzk2 => k_mem); (case zzk3 => assumption); (case zzk4 => omega); (case zzk5 => omega); (case zzk6 => omega); (case zzk7 => with_unfolding_all rfl);  intro _))
  k_with "MY eval Name" => ((with_reducible show wpAny _ _ (eval (Expr.Name _ _) (envOf _ _ _ _ _)) _ _ _); (k_here; k_dflt (refine' ld ?zzk1 ?zzk2 ?_; (case zzk1 => k_asm); (case zzk2 => assumption); k_whole)))
  k_with "MYcall" => ((with_reducible show wpAny _ _ (call (Value.builtin "list.insert") _ _) _ _ _); (k_here; k_dflt (refine' my_insert ?zzF ?zzN ?zzU ?zzhk ?zzz ?_; (case zzF => k_asm); (case zzN => k_asm); (case zzU => k_upd); (case zzhk => omega); (case zzz => omega); k_whole); intro _ _ _; (try k_sweep)))
  k_with "MYcall" => ((with_reducible show wpAny _ _ (call (Value.builtin "dict.get") _ _) _ _ _); (k_here; k_dflt (first | refine kdg_get1 (knd := PySem.intKind _ _) (by k_asm) (by k_mem) (by assumption) (by assumption) (intKind_is _ _ _ _) none (by assumption) ?_ | refine kdg_get1 (knd := PySem.intKind _ _) (by k_asm) (by k_mem) (by assumption) (by assumption) (intKind_is _ _ _ _) (some _) (by assumption) ?_); (try dsimp only [Option.getD])))
  k_with "MY getMethod ref" => ((with_reducible show wpAny _ _ (getMethod (Value.ref _) _ _) _ _ _); (k_here; (with_reducible show wpAny _ _ (getMethod (Value.ref _) (Str.ofString "get") _) _ _ _); k_dflt (refine kdg_method (knd := PySem.intKind _ _) (by k_asm) (by k_mem) (by assumption) ?_)))
  k_with "MY setItem ref int" => ((with_reducible show wpAny _ _ (setItem (Value.ref _) (Value.int _ _) _) _ _ _); (k_here; k_dflt (refine' kda_set (knd := PySem.intKind _ _) ?zzF ?zzN ?zzU ?zzd (intKind_is _ _ _ _) ?zzz ?_; (case zzF => k_asm); (case zzN => k_asm); (case zzU => k_updF); (case zzd => assumption); (case zzz => assumption)); intro _ _ _ _ _; (try dsimp only at N'); (try k_sweep)))
  k_with "MYcall" => ((with_reducible show wpAny _ _ (call (Value.builtin "len") _ _) _ _ _); (refine' my_lenT ?zzk1 ?zzk2 ?zzk3 ?_; (case zzk1 => k_asm); (case zzk2 => k_mem); (case zzk3 => omega); intro _ _))
  k_with "MY eval Call Attribute" => ((with_reducible show wpAny _ _ (eval (Expr.Call (Expr.Attribute _ _ _) _ [] _) _) _ _ _); (k_here; (with_reducible show wpAny _ _ (eval (Expr.Call (Expr.Attribute _ _ _) _ [] _) _) _ _ _); ks_star; refine star_method ?_))
  k_with "MY callWith ref" => ((with_reducible show wpAny _ _ (callWith _ (Value.ref _) _ _ []) _ _ _); (k_here; (with_reducible show wpAny _ _ (callWith _ (Value.ref _) _ (backTo _ (starEach [Expr.Starred _ _] _)) []) _ _ _); k_dflt (refine' callWith_MS ?zzX ?zzN ?zzq ?zzk2 ?_; (case zzX => k_asm); (case zzN => k_asm); (case zzq => k_mem); (case zzk2 => k_is); k_whole)))
  k_with "MY callWith ref" => ((with_reducible show wpAny _ _ (callWith _ (Value.ref _) _ _ []) _ _ _); (k_here; (with_reducible show wpAny _ _ (callWith _ (Value.ref _) _ (backTo _ (starEach (_ :: _ :: _) _)) []) _ _ _); ks_star; k_dflt (refine' callWith_MS2 ?zzX ?zzN ?zzq ?zzk2 ?_; (case zzX => k_asm); (case zzN => k_asm); (case zzq => k_mem); (case zzk2 => k_is); k_whole)))
  k_with "MY StarOf ref" => ((with_reducible show StarOf _ _ _ (Value.ref _) _ _); (k_here; k_dflt (first | (refine' my_star ?zzF ?zzN ?zzm ?zzi ?zzz ?_; (case zzF => k_asm); (case zzN => k_asm); (case zzm => k_mem); (case zzi => assumption); (case zzz => omega); k_whole) | (refine' my_starT ?zzF ?zzN ?zzm ?zzi ?zzz ?_; (case zzF => k_asm); (case zzN => k_asm); (case zzm => k_mem); (case zzi => assumption); (case zzz => omega); k_whole)); intro _ _ _; (try k_sweep); (try dsimp only [List.nil_append, List.cons_append])))
  k_with "MY compareOp In int ref" => ((with_reducible show wpAny _ _ (compareOp CmpOp.In (Value.int _ _) (Value.ref _)) _ _ _); (k_here; k_dflt (first | (refine' kse_in (knd := PySem.intKind _ _) ?zzN ?zzU ?zzd ?zzz (intKind_is _ _ _ _) rfl ?_; (case zzN => k_asm); (case zzU => k_updF); (case zzd => assumption); (case zzz => (show _ < 4096; omega))) | (refine' kda_in (knd := PySem.intKind _ _) ?zzN ?zzm ?zzd ?zzlo (intKind_is _ _ _ _) false ?zzb ?_; (case zzN => k_asm); (case zzm => k_mem); (case zzd => assumption); (case zzlo => assumption); (case zzb => assumption))); (try dsimp only)))
  k_with "MY getMethod ref" => ((with_reducible show wpAny _ _ (getMethod (Value.ref _) _ _) _ _ _); (k_here; (with_reducible show wpAny _ _ (getMethod (Value.ref _) (Str.ofString "add") _) _ _ _); k_dflt (refine' kse_method (knd := PySem.intKind _ _) ?zzN ?zzU ?zzd ?zzz ?_; (case zzN => k_asm); (case zzU => k_updF); (case zzd => assumption); (case zzz => (show _ < 4096; omega)))))
  k_with "MYcall" => ((with_reducible show wpAny _ _ (call (Value.builtin "set.add") _ _) _ _ _); (k_here; k_dflt (refine' kse_add (knd := PySem.intKind _ _) ?zzF ?zzN ?zzU ?zzd ?zzz (intKind_is _ _ _ _) rfl ?_; (case zzF => k_asm); (case zzN => k_asm); (case zzU => k_updF); (case zzd => assumption); (case zzz => (show _ < 4096; omega))); intro _ _ _ _ _; (try dsimp only at N'); (try k_sweep)))
  k_with "MY subscriptTail" => ((with_reducible show wpAny _ _ (subscriptTail _ _ (Value.ref _) _) _ _ _); ((with_reducible show wpAny _ _ (subscriptTail _ _ (Value.ref _) (Value.int _ _)) _ _ _); with_unfolding_all refine' kda_item (knd := PySem.intKind _ _) ?zzk1 ?zzk2 ?zzk3 (intKind_is _ _ _ _) ?zzk4 ?_ ?zzk7 ?zzk8; (case zzk1 => k_asm); (case zzk2 => k_mem); (case zzk3 => assumption); (case zzk4 => assumption); (case zzk7 => with_unfolding_all rfl); (case zzk8 => (intro _; with_unfolding_all rfl))))
  k_with "MYcall" => ((with_reducible show wpAny _ _ (call (Value.builtin "iter") _ _) _ _ _); (k_here; k_dflt (refine' my_iter ?zzF ?zzN ?zzm ?_; (case zzF => k_asm); (case zzN => k_asm); (case zzm => k_mem)); intro _ _ _ _ zl; (try k_lt zl); (revert zl; intro _); (try k_sweep)))
  k_with "MY getAttr ref" => ((with_reducible show wpAny _ _ (getAttr (Value.ref _) _ _) _ _ _); (k_here; (with_reducible show wpAny _ _ (getAttr (Value.ref _) (Str.ofString "__next__") _) _ _ _); k_dflt (refine' mw_getattr ?zzF ?zzN ?zzm ?_; (case zzF => k_asm); (case zzN => k_asm); (case zzm => k_mem)); intro _ _ _ _ _ zl; (try k_lt zl); (revert zl; intro _); (try k_sweep)))
  k_with "MY truthy ref" => ((with_reducible show wpAny _ _ (truthy (Value.ref _)) _ _ _); (k_here; (with_reducible show wpAny _ _ (truthy (Value.ref _)) _ _ _); k_dflt (refine' my_truthy ?zzN ?zzm ?zzz _ ?zzb ?_; (case zzN => k_asm); (case zzm => k_mem); (case zzz => assumption); (case zzb => assumption)); intro _; (try dsimp only)))
  k_with "MY subscriptTail" => ((with_reducible show wpAny _ _ (subscriptTail _ _ (Value.ref _) _) _ _ _); ((with_reducible show wpAny _ _ (subscriptTail _ _ (Value.ref _) (Value.int (-1) _)) _ _ _); k_dflt (refine' my_last ?zzN ?zzm ?zzz ?_ ?zze; (case zzN => k_asm); (case zzm => k_mem); (case zzz => assumption); (case zze => with_unfolding_all rfl))))
  k_with "MY callWith ref" => ((with_reducible show wpAny _ _ (callWith _ (Value.ref _) _ _ []) _ _ _); (k_here; (with_reducible show wpAny _ _ (callWith _ (Value.ref _) _ (backTo _ (starEach [] _)) []) _ _ _); k_dflt (refine' callWith_W ?zzN ?zzq ?_; (case zzN => k_asm); (case zzq => k_mem)); (try dsimp only [List.nil_append])))
  k_with "MYcall" => ((with_reducible show wpAny _ _ (call (Value.builtin "list.pop") _ _) _ _ _); (k_here; k_dflt (refine' my_pop ?zzF ?zzN ?zzU ?zzz ?_; (case zzF => k_asm); (case zzN => k_asm); (case zzU => k_upd); (case zzz => omega)); intro _ _ _; (try k_sweep)))
  k_with "MY delItem ref int" => ((with_reducible show wpAny _ _ (delItem (Value.ref _) (Value.int _ _)) _ _ _); (k_here; k_dflt (refine' kob_del (knd := PySem.intKind _ _) ?zzF ?zzN ?zzU ?zzd (intKind_is _ _ _ _) ?zzl ?zzz ?_; (case zzF => k_asm); (case zzN => k_asm); (case zzU => k_updF); (case zzd => assumption); (case zzl => assumption); (case zzz => assumption)); intro _ _ _ _ _; (try dsimp only at N')))
  k_with "MY getMethod ref" => ((with_reducible show wpAny _ _ (getMethod (Value.ref _) _ _) _ _ _); (k_here; (with_reducible show wpAny _ _ (getMethod (Value.ref _) (Str.ofString "values") _) _ _ _); k_dflt (refine kdl_method (knd := PySem.intKind _ _) PySem.F.slot_dict_values PySem.F.type_dict_values (by k_asm) (by k_mem) (by assumption) ?_)))
  k_with "MYcall" => ((with_reducible show wpAny _ _ (call (Value.builtin "dict.values") _ _) _ _ _); (k_here; k_dflt (refine kdl_view_values (knd := PySem.intKind _ _) (by k_asm) (by k_asm) (by k_mem) (by assumption) (by assumption) ?_); intro _ _ _ _ zl; (try k_lt zl); (revert zl; intro _); (try k_sweep)))
  k_with "MYcall" => ((with_reducible show wpAny _ _ (call (Value.type "bool") _ _) _ _ _); (k_here; k_dflt (refine' my_bool ?zzN ?zzm ?zzz _ ?zzb ?_; (case zzN => k_asm); (case zzm => k_mem); (case zzz => assumption); (case zzb => assumption)); intro _; (try dsimp only)))
  k_with "MYcall" => ((with_reducible show wpAny _ _ (call (Value.type "tuple") _ _) _ _ _); (k_here; k_dflt (refine' my_tupleOf ?zzF ?zzN ?zzm ?zzz ?_; (case zzF => k_asm); (case zzN => k_asm); (case zzm => k_mem); (case zzz => omega)); intro _ _ _ _ zl; (revert zl; intro _); (try k_sweep)))
  k_with "MYcall" => ((with_reducible show wpAny _ _ (call (Value.builtin "list.clear") _ _) _ _ _); (k_here; k_dflt (refine' my_clear ?zzF ?zzN ?zzU ?zzz ?_; (case zzF => k_asm); (case zzN => k_asm); (case zzU => k_upd); (case zzz => omega)); intro _ _ _; (try k_sweep)))
  k_with "MY compareOp NotIn int ref" => ((with_reducible show wpAny _ _ (compareOp CmpOp.NotIn (Value.int _ _) (Value.ref _)) _ _ _); (k_here; k_dflt (refine' my_notin ?zzN ?zzm ?zzi ?_; (case zzN => k_asm); (case zzm => k_mem); (case zzi => assumption)); (try dsimp only)))
  k_with "MYcall" => ((with_reducible show wpAny _ _ (call (Value.builtin "sorted") _ _) _ _ _); (k_here; k_dflt (refine' my_sorted ?zzF ?zzN ?zzm ?zzi ?zzz ?_; (case zzF => k_asm); (case zzN => k_asm); (case zzm => k_mem); (case zzi => assumption); (case zzz => omega)); intro _ _ _ _ _ _ _ zl _ _ _; (try k_lt zl); (revert zl; intro _); (try k_sweep)))
  k_with "MY binaryOp Add ref ref" => ((with_reducible show wpAny _ _ (binaryOp Operator.Add (Value.ref _) (Value.ref _)) _ _ _); (k_here; k_dflt (refine' my_addL ?zzF ?zzN ?zzm ?zzm2 ?zzz ?_; (case zzF => k_asm); (case zzN => k_asm); (case zzm => k_mem); (case zzm2 => k_mem); (case zzz => assumption)); intro _ _ _ _ zl; (try k_lt zl); (revert zl; intro _); (try k_sweep)))
  k_with "MYcall" => ((with_reducible show wpAny _ _ (call (Value.type "list") _ _) _ _ _); (k_here; k_dflt (refine' my_copy ?zzF ?zzN ?zzm ?zzz ?_; (case zzF => k_asm); (case zzN => k_asm); (case zzm => k_mem); (case zzz => omega)); intro _ _ _ _ _ zl; (try k_lt zl); (revert zl; intro _); (try k_sweep)))
  k_with "MYcall" => ((with_reducible show wpAny _ _ (call (Value.builtin "list.pop") _ _) _ _ _); (k_here; (with_reducible show wpAny _ _ (call (Value.builtin _) [Value.ref _, Value.int _ _]) _ _ _); k_dflt (refine' my_popAt ?zzF ?zzN ?zzU ?zzi ?zzz ?_; (case zzF => k_asm); (case zzN => k_asm); (case zzU => k_upd); (case zzi => assumption); (case zzz => omega)); intro _ _ _; (try k_sweep)))
  k_with "MY compareOp NotEq ref ref" => ((with_reducible show wpAny _ _ (compareOp CmpOp.NotEq (Value.ref _) (Value.ref _)) _ _ _); (k_here; k_dflt (refine' my_ne ?zzN ?zzm ?zzm2 ?zzi ?zzj ?zzu ?_; (case zzN => k_asm); (case zzm => k_mem); (case zzm2 => k_mem); (case zzi => assumption); (case zzj => assumption); (case zzu => assumption)); (try dsimp only)))
  k_with "MINE" => ((with_reducible show wpAny _ _ (call _ _ _) _ _ _); k_extra "MYcall")
  k_with "MINE" => ((with_reducible show wpAny _ _ (subscriptTail _ _ (Value.ref _) _) _ _ _); k_extra "MY subscriptTail")
  k_with "MINE" => ((with_reducible show wpAny _ _ (eval (Expr.Name _ _) (envOf _ _ _ _ _)) _ _ _); k_extra "MY eval Name")
  k_with "MINE" => ((with_reducible show wpAny _ _ (getMethod (Value.ref _) _ _) _ _ _); k_extra "MY getMethod ref")
  k_with "MINE" => ((with_reducible show wpAny _ _ (setItem (Value.ref _) (Value.int _ _) _) _ _ _); k_extra "MY setItem ref int")
  k_with "MINE" => ((with_reducible show wpAny _ _ (eval (Expr.Call (Expr.Attribute _ _ _) _ [] _) _) _ _ _); k_extra "MY eval Call Attribute")
  k_with "MINE" => ((with_reducible show wpAny _ _ (callWith _ (Value.ref _) _ _ []) _ _ _); k_extra "MY callWith ref")
  k_with "MINE" => ((with_reducible show StarOf _ _ _ (Value.ref _) _ _); k_extra "MY StarOf ref")
  k_with "MINE" => ((with_reducible show wpAny _ _ (compareOp CmpOp.In (Value.int _ _) (Value.ref _)) _ _ _); k_extra "MY compareOp In int ref")
  k_with "MINE" => ((with_reducible show wpAny _ _ (getAttr (Value.ref _) _ _) _ _ _); k_extra "MY getAttr ref")
  k_with "MINE" => ((with_reducible show wpAny _ _ (truthy (Value.ref _)) _ _ _); k_extra "MY truthy ref")
  k_with "MINE" => ((with_reducible show wpAny _ _ (delItem (Value.ref _) (Value.int _ _)) _ _ _); k_extra "MY delItem ref int")
  k_with "MINE" => ((with_reducible show wpAny _ _ (compareOp CmpOp.NotIn (Value.int _ _) (Value.ref _)) _ _ _); k_extra "MY compareOp NotIn int ref")
  k_with "MINE" => ((with_reducible show wpAny _ _ (binaryOp Operator.Add (Value.ref _) (Value.ref _)) _ _ _); k_extra "MY binaryOp Add ref ref")
  k_with "MINE" => ((with_reducible show wpAny _ _ (compareOp CmpOp.NotEq (Value.ref _) (Value.ref _)) _ _ _); k_extra "MY compareOp NotEq ref ref")
  k_with "MINE steps" => (w_strict (repeat' (first | (k_unfold; (try dsimp only)) | ((fail_if_success (with_reducible show wpAny _ _ _ _ _ _)); refine CutG.out (by assumption) _ _ _ ?_; (try clear khb); (try clear kQb); (try clear ko); (try clear kd); (try clear kg); (try dsimp only)) | ((fail_if_success (with_reducible show wpAny _ _ _ _ _ _)); refine CutH.out (by assumption) _ _ ?_; (try clear kha); (try clear kQa)) | ((with_reducible show wpAny _ _ (execs (_ :: _) _) _ _ _); (first | (refine execs_cut1 (by assumption) ?_; intro kg kd ko _ kQb khb) | (refine execs_cut2 (by assumption) ?_; intro _) | (refine cutQ ?_; intro kQa kha))) | ((fail_if_success (with_reducible show wpAny _ _ (exec (Stmt.While _ _ _ _) _) _ _ _)); (fail_if_success (with_reducible show wpAny _ _ (eval (Expr.ListComp _ _ _ _) _) _ _ _)); (fail_if_success (with_reducible show wpAny _ _ (exec (Stmt.Try _ _ _ _ _) _) _ _ _)); (fail_if_success (with_reducible show wpAny _ _ (exec (Stmt.For _ _ _ _ _) _) _ _ _)); (first | k_extra "MINE" | walk1 | (dsimp only; walk1)))  | fail "no step")))
  k_with "MINE plain" => (w_strict (repeat' (first | (k_unfold; (try dsimp only)) | ((fail_if_success (with_reducible show wpAny _ _ _ _ _ _)); refine CutH.out (by assumption) _ _ ?_; (try clear kha); (try clear kQa)) | ((fail_if_success (with_reducible show wpAny _ _ (exec (Stmt.While _ _ _ _) _) _ _ _)); (fail_if_success (with_reducible show wpAny _ _ (eval (Expr.ListComp _ _ _ _) _) _ _ _)); (fail_if_success (with_reducible show wpAny _ _ (exec (Stmt.Try _ _ _ _ _) _) _ _ _)); (fail_if_success (with_reducible show wpAny _ _ (exec (Stmt.For _ _ _ _ _) _) _ _ _)); (first | k_extra "MINE" | walk1 | (dsimp only; walk1)))  | fail "no step")))
  trivial
theorem tuple_small {us : List Value} (h : us.length ≤ sizeLine) : newTuple us = newObjAsIs (.type "tuple") (.seq us.toArray) := by
  unfold newTuple newObj
  dsimp only
  rw [if_neg (by rw [List.size_toArray]; exact Nat.not_lt.mpr h)]
/-- one successor let off -/
def relN (st : List ANode × List Int) (v : Int) : List ANode × List Int :=
  (addNp v (-1) st.1, if (st.1.any fun a => decide (a.key = v) && decide (a.np = 1)) then st.2 ++ [v] else st.2)
def succOf (u : Int) (G : List ANode) : List Int := ((G.find? fun a => decide (a.key = u)).map (·.ss)).getD []
def doneN (st : List ANode × List Int) (u : Int) : List ANode × List Int := (succOf u st.1).foldl relN (setNp u (-2) st.1, st.2)
theorem relN_in {st : List ANode × List Int} {v : Int} (h : (st.1.any fun a => decide (a.key = v) && decide (a.np = 1)) = true) : (relN st v).2 = st.2 ++ [v] := if_pos h
theorem relN_out {st : List ANode × List Int} {v : Int} (h : (st.1.any fun a => decide (a.key = v) && decide (a.np = 1)) = false) : (relN st v).2 = st.2 := if_neg (by rw [h]; decide)
theorem any_np {Gc Gd : List NodeR} {q : NodeR} (hn : ((Gc ++ q :: Gd).map (·.key)).Nodup) : (((Gc ++ q :: Gd).map NodeR.abs).any fun a => decide (a.key = q.key) && decide (a.np = 1)) = decide (q.np = 1) := by
  by_cases h : q.np = 1
  · rw [decide_eq_true h]
    rw [List.any_eq_true]
    exact ⟨q.abs, List.mem_map.mpr ⟨q, by simp, rfl⟩, by simp [NodeR.abs, h]⟩
  · rw [decide_eq_false h]
    rw [List.any_eq_false]
    intro a ha
    obtain ⟨q', hq', rfl⟩ := List.mem_map.mp ha
    simp only [Bool.and_eq_true, decide_eq_true_eq, not_and]
    intro e
    have e' : q'.key = q.key := e
    have : q' = q := by
      obtain ⟨i, hi, rfl⟩ := List.mem_iff_getElem.mp hq'
      obtain ⟨j, hj, e2⟩ := List.mem_iff_getElem.mp (show q ∈ Gc ++ q :: Gd by simp)
      have hij : i = j := (List.getElem_inj (h₀ := by simpa using hi) (h₁ := by simpa using hj) hn).mp (by simp only [List.getElem_map]; rw [e', e2])
      subst hij; exact e2
    rw [this]; exact h
theorem succ_of {Gc Gd : List NodeR} {q : NodeR} (hn : ((Gc ++ q :: Gd).map (·.key)).Nodup) : succOf q.key ((Gc ++ q :: Gd).map NodeR.abs) = q.ss := by
  unfold succOf
  have : ((Gc ++ q :: Gd).map NodeR.abs).find? (fun a => decide (a.key = q.key)) = some q.abs := by
    rw [List.map_append, List.find?_append]
    have h1 : (Gc.map NodeR.abs).find? (fun a => decide (a.key = q.key)) = none := by
      rw [List.find?_eq_none]
      intro a ha
      obtain ⟨q', hq', rfl⟩ := List.mem_map.mp ha
      rw [List.map_append, List.nodup_append] at hn
      have := hn.2.2 q'.key (List.mem_map.mpr ⟨q', hq', rfl⟩) q.key (by simp)
      show ¬ (decide (q'.key = q.key) = true)
      simpa using this
    rw [h1]
    simp [NodeR.abs]
  rw [this]; rfl
theorem dn_spec {w : World} {A A₀ : Around} {env : Env} {outer : List Env} {base h₀ : Heap} {L : Addr} {m mg mb : Str → Option Value} {p : Program} {loose : List Str} {mean : ExcName → Option Value} {s : Shared} {rest : List (Addr × Obj)} {R : Result → Shared → Prop}
    {σ : Srt} {aR : Addr} {rl us : List Value} {xs ys : List Int} {n : Nat} {po nf : Int} {tp tf : Tok} {oD : Obj} {G : List NodeR} {b : Nat}
    (C : Cx w A A₀ env outer base h₀ L m mg mb p loose mean s.heap (gl w σ (.ref aR) po tp nf tf oD G ((aR, W.listOf rl.toArray n) :: rest)) 897) (g : GOK w σ oD G ((aR, W.listOf rl.toArray n) :: rest) b) (hi : IntsAre us xs) (hz : xs.length ≤ 1000) (hr : IntsAre rl ys) (hy : ys.length ≤ 1000) (hb : b ≤ 1000)
    (hk : ∀ u ∈ xs, ∃ q ∈ G, q.key = u) (hs : ∀ r ∈ G, ∀ x ∈ r.ss, ∃ q ∈ G, q.key = x)
    (ho : ∀ i u, xs[i]? = some u → ∀ a ∈ ((xs.take i).foldl doneN (G.map NodeR.abs, ys)).1, a.key = u → a.np = -1)
    (hR : ∀ h' tk n' tf' G' rl', Fr h₀ L h' m → News h₀ L h' (gl w σ (.ref aR) po tp (nf + xs.length) tf' oD G' ((aR, W.listOf rl'.toArray n') :: rest)) → GOK w σ oD G' ((aR, W.listOf rl'.toArray n') :: rest) b →
      G'.map NodeR.abs = (xs.foldl doneN (G.map NodeR.abs, ys)).1 → IntsAre rl' (xs.foldl doneN (G.map NodeR.abs, ys)).2 → R (.ok (.ret .none)) { s with heap := h', toks := tk }) :
    codeAny (model PySem.Challenge.rw_mr0333_01.row.prog w) A (.call (.ref 147) ⟨.ref σ.S :: us, []⟩) R s := by
  obtain ⟨B, F, X, N, T, hA, hf, hke, hdep, hh⟩ := C
  revert X
  k_fill
  intro X
  refine' enterR (binds := fun D => [(Str.ofString "self", .ref σ.S), (Str.ofString "nodes", .ref D)]) (vs := us) (g₁ := fun D => some [(Str.ofString "self", .ref σ.S), (Str.ofString "nodes", .ref D)]) B F X N T hA hf hke (by k_is) (by k_is) (by show A.depth < 1000; omega) rfl ?hp (fun _ => rfl) (fun _ => locs rfl) ?_ rfl rfl rfl (by decide)
  case hp =>
    have sm := tuple_small (us := us) (by rw [hi.length, sizeLine_eq]; omega)
    rcases us with _ | ⟨x, us⟩
    · rfl
    · show peek1 _ _ (newTuple (x :: us) >>= fun v => pure [(Str.ofString "self", Value.ref σ.S), (Str.ofString "nodes", v)]) = _
      rw [sm]
      rfl
  intro aT g' L' h' lT FG' F' N' B' X' T' hA'
  have hil := hi.length
  have g1 := (GOK.push (o := tupO us) g lT).swap
  have N1 := News.perm N' gl_push2
  clear N'
  walk_at "MINE steps"
  refine For_start ?_
  walk_at "MINE steps"
  rename News _ _ _ _ => N1
  rename Fr _ _ _ _ => F1
  have hmT : ∀ (G : List NodeR) (o : Obj), (aT, tupO us) ∈ G.flatMap nseg ++ (aR, o) :: (aT, tupO us) :: rest := fun G o => List.mem_append_right _ (.tail _ (.head _))
  refine ForL.tuple hh F1 N1 (.tail _ (.tail _ (.tail _ (hmT _ _)))) (fun i m₁ n₁ => ∃ G3 rl3 n3 tf3, n₁ = gl w σ (.ref aR) po tp (nf + i) tf3 oD G3 ((aR, W.listOf rl3.toArray n3) :: (aT, tupO us) :: rest) ∧ GOK w σ oD G3 ((aR, W.listOf rl3.toArray n3) :: (aT, tupO us) :: rest) b ∧
    G3.map NodeR.abs = ((xs.take i).foldl doneN (G.map NodeR.abs, ys)).1 ∧ IntsAre rl3 ((xs.take i).foldl doneN (G.map NodeR.abs, ys)).2 ∧ rl3.length ≤ 1000 + 1000 * i ∧ SameG G G3 ∧ m₁ (Str.ofString "self") = some (.ref σ.S) ∧ m₁ (Str.ofString "n2i") = some (.ref σ.D)) ?_ (fun _ _ => rfl) ?_ ?_
  · exact ⟨G, rl, n, tf, by simp, g1, rfl, hr, by rw [hr.length]; omega, .refl G, rfl, rfl⟩
  · rintro I i x m₁ n₁ oI h tk hx ⟨G3, rl3, n3, tf3, rfl, g3, e3, hr3, hl3, sg3, ms, mn⟩ hD hI lI F6 N7
    obtain ⟨u, t, rfl, hu'⟩ := hi.at i x hx
    obtain ⟨r, hrG, hrk⟩ := sg3.has (hk u (List.mem_of_getElem? hu'))
    subst hrk
    have hnp : r.np = -1 := ho i r.key hu' r.abs (e3 ▸ List.mem_map.mpr ⟨r, hrG, rfl⟩) rfl
    have hss : ∀ v ∈ r.ss, ∃ q ∈ G, q.key = v := by
      obtain ⟨r0, hr0, sr⟩ := sg3.2 r hrG
      rw [sr.ss]; exact hs r0 hr0
    obtain ⟨Ga, Gb, rfl⟩ := List.append_of_mem hrG
    have hvr := valueAt_kvG_of (GOK.keys' g3) hrG
    have hdg := g3.dg
    have hlo := g3.lo
    have g4 := (GOK.push' (o := oI) g3 hI).swap
    have N8 := News.perm (News.perm N7 gl_push2) wl_perm
    rw [hnp] at N8
    obtain ⟨k1, k2, k3, k4, k5, k6, n1, n2, n3', n4⟩ := g4.wl (.ref aR) po tp (nf + i) tf3
    have hlt : i < xs.length := (List.getElem?_eq_some_iff.mp hu').1
    clear N7 F1 N1
    walk_at "MINE steps"
    refine For_start ?_
    walk_at "MINE steps"
    rename News _ _ _ _ => N9
    rename Fr _ _ _ _ => F9
    obtain ⟨G5, N10, g5, sg5, e5⟩ := wl_in g4 N9
    have e6 := e5 (fun a => if a.key = r.key then { a with np := -2 } else a) (fun a ha => if_neg ha) (by show (if r.key = r.key then _ else _) = _; rw [if_pos rfl]; rfl)
    rw [e3] at e6
    have hso : succOf r.key ((xs.take i).foldl doneN (G.map NodeR.abs, ys)).1 = r.ss := by rw [← e3]; exact succ_of g3.keys
    have hiss := g3.gw r hrG
    have hlss := g3.ls r hrG
    generalize hst : (xs.take i).foldl doneN (G.map NodeR.abs, ys) = st at *
    refine ForL.list hh F9 N10 (.tail _ (.tail _ (.tail _ (sg5.list hrG _)))) (fun j m₂ n₂ => ∃ G6 rl6 n6, n₂ = gl w σ (.ref aR) po tp (nf + i) tf3 oD G6 ((aR, W.listOf rl6.toArray n6) :: (I, oI) :: (aT, tupO us) :: rest) ∧ GOK w σ oD G6 ((aR, W.listOf rl6.toArray n6) :: (I, oI) :: (aT, tupO us) :: rest) b ∧
      G6.map NodeR.abs = ((r.ss.take j).foldl relN (setNp r.key (-2) st.1, st.2)).1 ∧ IntsAre rl6 ((r.ss.take j).foldl relN (setNp r.key (-2) st.1, st.2)).2 ∧ rl6.length ≤ 1000 + 1000 * i + j ∧ SameG (Ga ++ r :: Gb) G6 ∧ m₂ (Str.ofString "self") = some (.ref σ.S) ∧ m₂ (Str.ofString "n2i") = some (.ref σ.D)) ?_ (fun _ _ => rfl) ?_ ?_
    · exact ⟨G5, rl3, n3, rfl, g5, e6, hr3, hl3, sg5, ms, mn⟩
    · rintro I2 j x2 m₂ n₂ oI2 h2 tk2 hx2 ⟨G6, rl6, n6, rfl, g6, e7, hr6, hl6, sg6, ms6, mn6⟩ hD2 hI2 lI2 F7 N11
      obtain ⟨v, t2, rfl, hv'⟩ := hiss.at j x2 hx2
      obtain ⟨q, hqG, hqk⟩ := (sg3.trans sg6).has (hss v (List.mem_of_getElem? hv'))
      subst hqk
      obtain ⟨Gc, Gd, rfl⟩ := List.append_of_mem hqG
      have hvq := valueAt_kvG_of (GOK.keys' g6) hqG
      have hdg6 := g6.dg
      have hlo6 := g6.lo
      have g7 := (GOK.push' (o := oI2) g6 hI2).swap
      have N12 := News.perm (News.perm N11 gl_push2) wl_perm
      have hjl : j < r.ss.length := (List.getElem?_eq_some_iff.mp hv').1
      clear k1 k2 k3 k4 k5 k6 n1 n2 n3' n4
      obtain ⟨k1, k2, k3, k4, k5, k6, n1, n2, n3', n4⟩ := g7.wl (.ref aR) po tp (nf + i) tf3
      clear N11 F9 N9 N10
      walk_at "MINE steps"
      · rename News _ _ _ _ => N13
        rename Fr _ _ _ _ => F13
        rename q.np - 1 = 0 => hz0
        rw [List.push_toArray] at N13
        obtain ⟨G8, N14, g8, sg8, e8⟩ := wl_in (np' := q.np - 1) g7 N13
        have e9 := e8 (fun a => if a.key = q.key then { a with np := a.np + -1 } else a) (fun a ha => if_neg ha) (by show (if q.key = q.key then _ else _) = _; rw [if_pos rfl]; rfl)
        have hany := any_np g6.keys
        rw [e7] at e9 hany
        have hI3 := g8.swap.nm (.ref aR) po tp (nf + i) tf3
        have hst' : (r.ss.take (j + 1)).foldl relN (setNp r.key (-2) st.1, st.2) = relN ((r.ss.take j).foldl relN (setNp r.key (-2) st.1, st.2)) q.key := by rw [List.take_add_one, hv', List.foldl_append]; rfl
        have hq1 : q.np = 1 := by omega
        rw [decide_eq_true hq1] at hany
        refine ⟨_, _, _, gl w σ (.ref aR) po tp (nf + i) tf3 oD G8 ((aR, W.listOf (rl6 ++ [Value.int q.key t2]).toArray (n6 + 1)) :: (I, oI) :: (aT, tupO us) :: rest), rfl, F13, News.perm N14 gl_push2.symm, ?_, hI3, G8, _, _, rfl, g8.swap.tail, ?_, ?_, ?_, sg6.trans sg8, ms6, mn6⟩
        · intro z hz
          rw [List.mem_singleton.mp hz]
          exact .tail _ (.tail _ (.tail _ ((sg6.trans sg8).list hrG _)))
        · rw [hst', e9]; rfl
        · rw [hst', relN_in hany]
          exact IntsAre.append hr6 (.cons _ _ .nil)
        · rw [List.length_append, List.length_singleton]; omega
      · rename News _ _ _ _ => N13
        rename Fr _ _ _ _ => F13
        rename q.np - 1 ≠ 0 => hz0
        obtain ⟨G8, N14, g8, sg8, e8⟩ := wl_in (np' := q.np - 1) g7 N13
        have e9 := e8 (fun a => if a.key = q.key then { a with np := a.np + -1 } else a) (fun a ha => if_neg ha) (by show (if q.key = q.key then _ else _) = _; rw [if_pos rfl]; rfl)
        have hany := any_np g6.keys
        rw [e7] at e9 hany
        have hI3 := g8.swap.nm (.ref aR) po tp (nf + i) tf3
        have hst' : (r.ss.take (j + 1)).foldl relN (setNp r.key (-2) st.1, st.2) = relN ((r.ss.take j).foldl relN (setNp r.key (-2) st.1, st.2)) q.key := by rw [List.take_add_one, hv', List.foldl_append]; rfl
        have hq1 : ¬ q.np = 1 := by omega
        rw [decide_eq_false hq1] at hany
        refine ⟨_, _, _, gl w σ (.ref aR) po tp (nf + i) tf3 oD G8 ((aR, W.listOf rl6.toArray n6) :: (I, oI) :: (aT, tupO us) :: rest), rfl, F13, News.perm N14 gl_push2.symm, ?_, hI3, G8, _, _, rfl, g8.swap.tail, ?_, ?_, ?_, sg6.trans sg8, ms6, mn6⟩
        · intro z hz
          rw [List.mem_singleton.mp hz]
          exact .tail _ (.tail _ (.tail _ ((sg6.trans sg8).list hrG _)))
        · rw [hst', e9]; rfl
        · rw [hst', relN_out hany]
          exact hr6
        · omega
    · rintro m₂ n₂ h2 tk2 F7 N11 hD2 ⟨G6, rl6, n6, rfl, g6, e7, hr6, hl6, sg6, ms6, mn6⟩
      rw [hiss.length, List.take_length] at e7 hr6
      rw [hiss.length] at hl6
      have y1 : @Ne Nat σ.S σ.dS := g6.gn.a
      have y2 : @Ne Nat σ.S σ.D := g6.gn.b
      have y3 : @Ne Nat σ.dS σ.D := g6.gn.c
      have y5 := g6.gn.sd
      have y4 := g6.gn.sS
      have y6 := g6.gn.sD
      have hst' : (xs.take (i + 1)).foldl doneN (G.map NodeR.abs, ys) = doneN st r.key := by rw [List.take_add_one, hu', List.foldl_append, hst]; rfl
      have hdn : doneN st r.key = r.ss.foldl relN (setNp r.key (-2) st.1, st.2) := by unfold doneN; rw [hso]
      have hI3 := g6.swap.nm (.ref aR) po tp (nf + i) tf3
      clear F9 N9 N10 k1 k2 k3 k4 k5 k6 n1 n2 n3' n4
      walk_at "MINE steps"
      rename News _ _ _ _ => N13
      rename Fr _ _ _ _ => F13
      obtain ⟨tf4, N14⟩ : ∃ tf4, News _ _ _ (gl w σ (.ref aR) po tp (nf + i + 1) tf4 oD G6 ((aR, W.listOf rl6.toArray n6) :: (I, oI) :: (aT, tupO us) :: rest)) := ⟨_, N13⟩
      have ei : nf + ((i + 1 : Nat) : Int) = nf + i + 1 := by omega
      refine ⟨_, _, _, gl w σ (.ref aR) po tp (nf + i + 1) tf4 oD G6 ((aR, W.listOf rl6.toArray n6) :: (aT, tupO us) :: rest), rfl, F13, News.perm N14 gl_push2.symm, ?_, hI3, G6, rl6, n6, tf4, ?_, g6.swap.tail, ?_, ?_, ?_, sg3.trans sg6, ms6, mn6⟩
      · intro z hz
        rw [List.mem_singleton.mp hz]
        exact .tail _ (.tail _ (.tail _ (hmT _ _)))
      · rw [ei]
      · rw [hst', hdn, e7]
      · rw [hst', hdn]; exact hr6
      · omega
  · rintro m' n₁ h tk F6 N7 hD ⟨G3, rl3, n3, tf3, rfl, g3, e3, hr3, hl3, sg3, ms, mn⟩
    rw [hil, List.take_length] at e3 hr3
    rw [hil] at N7
    clear F1 N1
    walk_at "MINE steps"
    rename News _ _ _ _ => N13
    rename Fr _ _ _ _ => F13
    exact hR _ _ n3 tf3 G3 rl3 F13 (News.sub N13 fun q hq => gl_push2.mem_iff.mp (.tail _ hq)) g3.swap.tail e3 hr3

end Mine
-- P13
namespace Mine
open PySem PySem.W PyProof.Rows
example : True := by
  k_with_none
  k_with "MYcall" => ((with_reducible show wpAny _ _ (call (Value.builtin "len") _ _) _ _ _); (refine' my_len ?zzk1 ?zzk2 ?zzk3 ?_; (case zzk1 => k_asm); (case zzk2 => k_mem); (case zzk3 => omega); intro _ _))
  k_with "MY subscriptTail" => ((with_reducible show wpAny _ _ (subscriptTail _ _ (Value.ref _) _) _ _ _); ((with_reducible show wpAny _ _ (subscriptTail _ _ (Value.ref _) (Value.int _ _)) _ _ _); with_unfolding_all refine' my_item ?zzk1 ?zzk2 ?zzk3 ?zzk4 ?zzk5 ?zzk6 ?_ ?zzk7; (case zzk1 => k_asm); (case zzk2 => k_mem); (case zzk3 => assumption); (case zzk4 => omega); (case zzk5 => omega); (case zzk6 => omega); (case zzk7 => with_unfolding_all rfl);  intro _))
  k_with "MY eval Name" => ((with_reducible show wpAny _ _ (eval (Expr.Name _ _) (envOf _ _ _ _ _)) _ _ _); (k_here; k_dflt (refine' ld ?zzk1 ?zzk2 ?_; (case zzk1 => k_asm); (case zzk2 => assumption); k_whole)))
  k_with "MYcall" => ((with_reducible show wpAny _ _ (call (Value.builtin "list.insert") _ _) _ _ _); (k_here; k_dflt (refine' my_insert ?zzF ?zzN ?zzU ?zzhk ?zzz ?_; (case zzF => k_asm); (case zzN => k_asm); (case zzU => k_upd); (case zzhk => omega); (case zzz => omega); k_whole); intro _ _ _; (try k_sweep)))
  k_with "MYcall" => ((with_reducible show wpAny _ _ (call (Value.builtin "dict.get") _ _) _ _ _); (k_here; k_dflt (first | refine kdg_get1 (knd := PySem.intKind _ _) (by k_asm) (by k_mem) (by assumption) (by assumption) (intKind_is _ _ _ _) none (by assumption) ?_ | refine kdg_get1 (knd := PySem.intKind _ _) (by k_asm) (by k_mem) (by assumption) (by assumption) (intKind_is _ _ _ _) (some _) (by assumption) ?_); (try dsimp only [Option.getD])))
  k_with "MY getMethod ref" => ((with_reducible show wpAny _ _ (getMethod (Value.ref _) _ _) _ _ _); (k_here; (with_reducible show wpAny _ _ (getMethod (Value.ref _) (Str.ofString "get") _) _ _ _); k_dflt (refine kdg_method (knd := PySem.intKind _ _) (by k_asm) (by k_mem) (by assumption) ?_)))
  k_with "MY setItem ref int" => ((with_reducible show wpAny _ _ (setItem (Value.ref _) (Value.int _ _) _) _ _ _); (k_here; k_dflt (refine' kda_set (knd := PySem.intKind _ _) ?zzF ?zzN ?zzU ?zzd (intKind_is _ _ _ _) ?zzz ?_; (case zzF => k_asm); (case zzN => k_asm); (case zzU => k_updF); (case zzd => assumption); (case zzz => assumption)); intro _ _ _ _ _; (try dsimp only at N'); (try k_sweep)))
  k_with "MYcall" => ((with_reducible show wpAny _ _ (call (Value.builtin "len") _ _) _ _ _); (refine' my_lenT ?zzk1 ?zzk2 ?zzk3 ?_; (case zzk1 => k_asm); (case zzk2 => k_mem); (case zzk3 => omega); intro _ _))
  k_with "MY eval Call Attribute" => ((with_reducible show wpAny _ _ (eval (Expr.Call (Expr.Attribute _ _ _) _ [] _) _) _ _ _); (k_here; (with_reducible show wpAny _ _ (eval (Expr.Call (Expr.Attribute _ _ _) _ [] _) _) _ _ _); ks_star; refine star_method ?_))
  k_with "MY callWith ref" => ((with_reducible show wpAny _ _ (callWith _ (Value.ref _) _ _ []) _ _ _); (k_here; (with_reducible show wpAny _ _ (callWith _ (Value.ref _) _ (backTo _ (starEach [Expr.Starred _ _] _)) []) _ _ _); k_dflt (refine' callWith_MS ?zzX ?zzN ?zzq ?zzk2 ?_; (case zzX => k_asm); (case zzN => k_asm); (case zzq => k_mem); (case zzk2 => k_is); k_whole)))
  k_with "MY callWith ref" => ((with_reducible show wpAny _ _ (callWith _ (Value.ref _) _ _ []) _ _ _); (k_here; (with_reducible show wpAny _ _ (callWith _ (Value.ref _) _ (backTo _ (starEach (_ :: _ :: _) _)) []) _ _ _); ks_star; k_dflt (refine' callWith_MS2 ?zzX ?zzN ?zzq ?zzk2 ?_; (case zzX => k_asm); (case zzN => k_asm); (case zzq => k_mem); (case zzk2 => k_is); k_whole)))
  k_with "MY StarOf ref" => ((with_reducible show StarOf _ _ _ (Value.ref _) _ _); (k_here; k_dflt (first | (refine' my_star ?zzF ?zzN ?zzm ?zzi ?zzz ?_; (case zzF => k_asm); (case zzN => k_asm); (case zzm => k_mem); (case zzi => assumption); (case zzz => omega); k_whole) | (refine' my_starT ?zzF ?zzN ?zzm ?zzi ?zzz ?_; (case zzF => k_asm); (case zzN => k_asm); (case zzm => k_mem); (case zzi => assumption); (case zzz => omega); k_whole)); intro _ _ _; (try k_sweep); (try dsimp only [List.nil_append, List.cons_append])))
  k_with "MY compareOp In int ref" => ((with_reducible show wpAny _ _ (compareOp CmpOp.In (Value.int _ _) (Value.ref _)) _ _ _); (k_here; k_dflt (first | (refine' kse_in (knd := PySem.intKind _ _) ?zzN ?zzU ?zzd ?zzz (intKind_is _ _ _ _) rfl ?_; (case zzN => k_asm); (case zzU => k_updF); (case zzd => assumption); (case zzz => (show _ < 4096; omega))) | (refine' kda_in (knd := PySem.intKind _ _) ?zzN ?zzm ?zzd ?zzlo (intKind_is _ _ _ _) false ?zzb ?_; (case zzN => k_asm); (case zzm => k_mem); (case zzd => assumption); (case zzlo => assumption); (case zzb => assumption))); (try dsimp only)))
  k_with "MY getMethod ref" => ((with_reducible show wpAny _ _ (getMethod (Value.ref _) _ _) _ _ _); (k_here; (with_reducible show wpAny _ _ (getMethod (Value.ref _) (Str.ofString "add") _) _ _ _); k_dflt (refine' kse_method (knd := PySem.intKind _ _) ?zzN ?zzU ?zzd ?zzz ?_; (case zzN => k_asm); (case zzU => k_updF); (case zzd => assumption); (case zzz => (show _ < 4096; omega)))))
  k_with "MYcall" => ((with_reducible show wpAny _ _ (call (Value.builtin "set.add") _ _) _ _ _); (k_here; k_dflt (refine' kse_add (knd := PySem.intKind _ _) ?zzF ?zzN ?zzU ?zzd ?zzz (intKind_is _ _ _ _) rfl ?_; (case zzF => k_asm); (case zzN => k_asm); (case zzU => k_updF); (case zzd => assumption); (case zzz => (show _ < 4096; omega))); intro _ _ _ _ _; (try dsimp only at N'); (try k_sweep)))
  k_with "MY subscriptTail" => ((with_reducible show wpAny _ _ (subscriptTail _ _ (Value.ref _) _) _ _ _); ((with_reducible show wpAny _ _ (subscriptTail _ _ (Value.ref _) (Value.int _ _)) _ _ _); with_unfolding_all refine' kda_item (knd := PySem.intKind _ _) ?zzk1 ?zzk2 ?zzk3 (intKind_is _ _ _ _) ?zzk4 ?_ ?zzk7 ?zzk8; (case zzk1 => k_asm); (case zzk2 => k_mem); (case zzk3 => assumption); (case zzk4 => assumption); (case zzk7 => with_unfolding_all rfl); (case zzk8 => (intro _; with_unfolding_all rfl))))
  k_with "MYcall" => ((with_reducible show wpAny _ _ (call (Value.builtin "iter") _ _) _ _ _); (k_here; k_dflt (refine' my_iter ?zzF ?zzN ?zzm ?_; (case zzF => k_asm); (case zzN => k_asm); (case zzm => k_mem)); intro _ _ _ _ zl; (try k_lt zl); (revert zl; intro _); (try k_sweep)))
  k_with "MY getAttr ref" => ((with_reducible show wpAny _ _ (getAttr (Value.ref _) _ _) _ _ _); (k_here; (with_reducible show wpAny _ _ (getAttr (Value.ref _) (Str.ofString "__next__") _) _ _ _); k_dflt (refine' mw_getattr ?zzF ?zzN ?zzm ?_; (case zzF => k_asm); (case zzN => k_asm); (case zzm => k_mem)); intro _ _ _ _ _ zl; (try k_lt zl); (revert zl; intro _); (try k_sweep)))
  k_with "MY truthy ref" => ((with_reducible show wpAny _ _ (truthy (Value.ref _)) _ _ _); (k_here; (with_reducible show wpAny _ _ (truthy (Value.ref _)) _ _ _); k_dflt (refine' my_truthy ?zzN ?zzm ?zzz _ ?zzb ?_; (case zzN => k_asm); (case zzm => k_mem); (case zzz => assumption); (case zzb => assumption)); intro _; (try dsimp only)))
  k_with "MY subscriptTail" => ((with_reducible show wpAny _ _ (subscriptTail _ _ (Value.ref _) _) _ _ _); ((with_reducible show wpAny _ _ (subscriptTail _ _ (Value.ref _) (Value.int (-1) _)) _ _ _); k_dflt (refine' my_last ?zzN ?zzm ?zzz ?_ ?zze; (case zzN => k_asm); (case zzm => k_mem); (case zzz => assumption); (case zze => with_unfolding_all rfl))))
  k_with "MY callWith ref" => ((with_reducible show wpAny _ _ (callWith _ (Value.ref _) _ _ []) _ _ _); (k_here; (with_reducible show wpAny _ _ (callWith _ (Value.ref _) _ (backTo _ (starEach [] _)) []) _ _ _); k_dflt (refine' callWith_W ?zzN ?zzq ?_; (case zzN => k_asm); (case zzq => k_mem)); (try dsimp only [List.nil_append])))
  k_with "MYcall" => ((with_reducible show wpAny _ _ (call (Value.builtin "list.pop") _ _) _ _ _); (k_here; k_dflt (refine' my_pop ?zzF ?zzN ?zzU ?zzz ?_; (case zzF => k_asm); (case zzN => k_asm); (case zzU => k_upd); (case zzz => omega)); intro _ _ _; (try k_sweep)))
  k_with "MY delItem ref int" => ((with_reducible show wpAny _ _ (delItem (Value.ref _) (Value.int _ _)) _ _ _); (k_here; k_dflt (refine' kob_del (knd := PySem.intKind _ _) ?zzF ?zzN ?zzU ?zzd (intKind_is _ _ _ _) ?zzl ?zzz ?_; (case zzF => k_asm); (case zzN => k_asm); (case zzU => k_updF); (case zzd => assumption); (case zzl => assumption); (case zzz => assumption)); intro _ _ _ _ _; (try dsimp only at N')))
  k_with "MY getMethod ref" => ((with_reducible show wpAny _ _ (getMethod (Value.ref _) _ _) _ _ _); (k_here; (with_reducible show wpAny _ _ (getMethod (Value.ref _) (Str.ofString "values") _) _ _ _); k_dflt (refine kdl_method (knd := PySem.intKind _ _) PySem.F.slot_dict_values PySem.F.type_dict_values (by k_asm) (by k_mem) (by assumption) ?_)))
  k_with "MYcall" => ((with_reducible show wpAny _ _ (call (Value.builtin "dict.values") _ _) _ _ _); (k_here; k_dflt (refine kdl_view_values (knd := PySem.intKind _ _) (by k_asm) (by k_asm) (by k_mem) (by assumption) (by assumption) ?_); intro _ _ _ _ zl; (try k_lt zl); (revert zl; intro _); (try k_sweep)))
  k_with "MYcall" => ((with_reducible show wpAny _ _ (call (Value.type "bool") _ _) _ _ _); (k_here; k_dflt (refine' my_bool ?zzN ?zzm ?zzz _ ?zzb ?_; (case zzN => k_asm); (case zzm => k_mem); (case zzz => assumption); (case zzb => assumption)); intro _; (try dsimp only)))
  k_with "MYcall" => ((with_reducible show wpAny _ _ (call (Value.type "tuple") _ _) _ _ _); (k_here; k_dflt (refine' my_tupleOf ?zzF ?zzN ?zzm ?zzz ?_; (case zzF => k_asm); (case zzN => k_asm); (case zzm => k_mem); (case zzz => omega)); intro _ _ _ _ zl; (revert zl; intro _); (try k_sweep)))
  k_with "MYcall" => ((with_reducible show wpAny _ _ (call (Value.builtin "list.clear") _ _) _ _ _); (k_here; k_dflt (refine' my_clear ?zzF ?zzN ?zzU ?zzz ?_; (case zzF => k_asm); (case zzN => k_asm); (case zzU => k_upd); (case zzz => omega)); intro _ _ _; (try k_sweep)))
  k_with "MY compareOp NotIn int ref" => ((with_reducible show wpAny _ _ (compareOp CmpOp.NotIn (Value.int _ _) (Value.ref _)) _ _ _); (k_here; k_dflt (refine' my_notin ?zzN ?zzm ?zzi ?_; (case zzN => k_asm); (case zzm => k_mem); (case zzi => assumption)); (try dsimp only)))
  k_with "MYcall" => ((with_reducible show wpAny _ _ (call (Value.builtin "sorted") _ _) _ _ _); (k_here; k_dflt (refine' my_sorted ?zzF ?zzN ?zzm ?zzi ?zzz ?_; (case zzF => k_asm); (case zzN => k_asm); (case zzm => k_mem); (case zzi => assumption); (case zzz => omega)); intro _ _ _ _ _ _ _ zl _ _ _; (try k_lt zl); (revert zl; intro _); (try k_sweep)))
  k_with "MY binaryOp Add ref ref" => ((with_reducible show wpAny _ _ (binaryOp Operator.Add (Value.ref _) (Value.ref _)) _ _ _); (k_here; k_dflt (refine' my_addL ?zzF ?zzN ?zzm ?zzm2 ?zzz ?_; (case zzF => k_asm); (case zzN => k_asm); (case zzm => k_mem); (case zzm2 => k_mem); (case zzz => assumption)); intro _ _ _ _ zl; (try k_lt zl); (revert zl; intro _); (try k_sweep)))
  k_with "MYcall" => ((with_reducible show wpAny _ _ (call (Value.type "list") _ _) _ _ _); (k_here; k_dflt (refine' my_copy ?zzF ?zzN ?zzm ?zzz ?_; (case zzF => k_asm); (case zzN => k_asm); (case zzm => k_mem); (case zzz => omega)); intro _ _ _ _ _ zl; (try k_lt zl); (revert zl; intro _); (try k_sweep)))
  k_with "MYcall" => ((with_reducible show wpAny _ _ (call (Value.builtin "list.pop") _ _) _ _ _); (k_here; (with_reducible show wpAny _ _ (call (Value.builtin _) [Value.ref _, Value.int _ _]) _ _ _); k_dflt (refine' my_popAt ?zzF ?zzN ?zzU ?zzi ?zzz ?_; (case zzF => k_asm); (case zzN => k_asm); (case zzU => k_upd); (case zzi => assumption); (case zzz => omega)); intro _ _ _; (try k_sweep)))
  k_with "MY compareOp NotEq ref ref" => ((with_reducible show wpAny _ _ (compareOp CmpOp.NotEq (Value.ref _) (Value.ref _)) _ _ _); (k_here; k_dflt (refine' my_ne ?zzN ?zzm ?zzm2 ?zzi ?zzj ?zzu ?_; (case zzN => k_asm); (case zzm => k_mem); (case zzm2 => k_mem); (case zzi => assumption); (case zzj => assumption); (case zzu => assumption)); (try dsimp only)))
  k_with "MINE" => ((with_reducible show wpAny _ _ (call _ _ _) _ _ _); k_extra "MYcall")
  k_with "MINE" => ((with_reducible show wpAny _ _ (subscriptTail _ _ (Value.ref _) _) _ _ _); k_extra "MY subscriptTail")
  k_with "MINE" => ((with_reducible show wpAny _ _ (eval (Expr.Name _ _) (envOf _ _ _ _ _)) _ _ _); k_extra "MY eval Name")
  k_with "MINE" => ((with_reducible show wpAny _ _ (getMethod (Value.ref _) _ _) _ _ _); k_extra "MY getMethod ref")
  k_with "MINE" => ((with_reducible show wpAny _ _ (setItem (Value.ref _) (Value.int _ _) _) _ _ _); k_extra "MY setItem ref int")
  k_with "MINE" => ((with_reducible show wpAny _ _ (eval (Expr.Call (Expr.Attribute _ _ _) _ [] _) _) _ _ _); k_extra "MY eval Call Attribute")
  k_with "MINE" => ((with_reducible show wpAny _ _ (callWith _ (Value.ref _) _ _ []) _ _ _); k_extra "MY callWith ref")
  k_with "MINE" => ((with_reducible show StarOf _ _ _ (Value.ref _) _ _); k_extra "MY StarOf ref")
  k_with "MINE" => ((with_reducible show wpAny _ _ (compareOp CmpOp.In (Value.int _ _) (Value.ref _)) _ _ _); k_extra "MY compareOp In int ref")
  k_with "MINE" => ((with_reducible show wpAny _ _ (getAttr (Value.ref _) _ _) _ _ _); k_extra "MY getAttr ref")
  k_with "MINE" => ((with_reducible show wpAny _ _ (truthy (Value.ref _)) _ _ _); k_extra "MY truthy ref")
  k_with "MINE" => ((with_reducible show wpAny _ _ (delItem (Value.ref _) (Value.int _ _)) _ _ _); k_extra "MY delItem ref int")
  k_with "MINE" => ((with_reducible show wpAny _ _ (compareOp CmpOp.NotIn (Value.int _ _) (Value.ref _)) _ _ _); k_extra "MY compareOp NotIn int ref")
  k_with "MINE" => ((with_reducible show wpAny _ _ (binaryOp Operator.Add (Value.ref _) (Value.ref _)) _ _ _); k_extra "MY binaryOp Add ref ref")
  k_with "MINE" => ((with_reducible show wpAny _ _ (compareOp CmpOp.NotEq (Value.ref _) (Value.ref _)) _ _ _); k_extra "MY compareOp NotEq ref ref")
  k_with "MINE steps" => (w_strict (repeat' (first | (k_unfold; (try dsimp only)) | ((fail_if_success (with_reducible show wpAny _ _ _ _ _ _)); refine CutG.out (by assumption) _ _ _ ?_; (try clear khb); (try clear kQb); (try clear ko); (try clear kd); (try clear kg); (try dsimp only)) | ((fail_if_success (with_reducible show wpAny _ _ _ _ _ _)); refine CutH.out (by assumption) _ _ ?_; (try clear kha); (try clear kQa)) | ((with_reducible show wpAny _ _ (execs (_ :: _) _) _ _ _); (first | (refine execs_cut1 (by assumption) ?_; intro kg kd ko _ kQb khb) | (refine execs_cut2 (by assumption) ?_; intro _) | (refine cutQ ?_; intro kQa kha))) | ((fail_if_success (with_reducible show wpAny _ _ (exec (Stmt.While _ _ _ _) _) _ _ _)); (fail_if_success (with_reducible show wpAny _ _ (eval (Expr.ListComp _ _ _ _) _) _ _ _)); (fail_if_success (with_reducible show wpAny _ _ (exec (Stmt.Try _ _ _ _ _) _) _ _ _)); (fail_if_success (with_reducible show wpAny _ _ (exec (Stmt.For _ _ _ _ _) _) _ _ _)); (first | k_extra "MINE" | walk1 | (dsimp only; walk1)))  | fail "no step")))
  k_with "MINE plain" => (w_strict (repeat' (first | (k_unfold; (try dsimp only)) | ((fail_if_success (with_reducible show wpAny _ _ _ _ _ _)); refine CutH.out (by assumption) _ _ ?_; (try clear kha); (try clear kQa)) | ((fail_if_success (with_reducible show wpAny _ _ (exec (Stmt.While _ _ _ _) _) _ _ _)); (fail_if_success (with_reducible show wpAny _ _ (eval (Expr.ListComp _ _ _ _) _) _ _ _)); (fail_if_success (with_reducible show wpAny _ _ (exec (Stmt.Try _ _ _ _ _) _) _ _ _)); (fail_if_success (with_reducible show wpAny _ _ (exec (Stmt.For _ _ _ _ _) _) _ _ _)); (first | k_extra "MINE" | walk1 | (dsimp only; walk1)))  | fail "no step")))
  trivial
theorem ts_spec {w : World} {A A₀ : Around} {env : Env} {outer : List Env} {base h₀ : Heap} {L : Addr} {m mg mb : Str → Option Value} {p : Program} {loose : List Str} {mean : ExcName → Option Value} {s : Shared} {news : List (Addr × Obj)} {Q : Value → Shared → Prop} {E : Value → Shared → Prop}
    (C : Cx w A A₀ env outer base h₀ L m mg mb p loose mean s.heap news 899) (nd : ND news)
    (hR : ∀ h' tk σ tp tf oD, Fr h₀ L h' m → News h₀ L h' (gl w σ .none 0 tp 0 tf oD [] news) → GOK w σ oD [] news 0 → Q (.ref σ.S) { s with heap := h', toks := tk }) :
    wpAny (model PySem.Challenge.rw_mr0333_01.row.prog w) A (call (.ref 164) [] []) Q E s := by
  obtain ⟨B, F, X, N, T, hA, hf, hke, hdep, hh⟩ := C
  revert X
  k_fill
  intro X
  refine' call_cls (fI := 100) F X N (by k_is) (by k_is) (by k_is) ?_
  intro x dx h2 F2 N2 l1 l2
  refine' enterD (binds := [(Str.ofString "self", .ref x), (Str.ofString "graph", .none)]) (A := A.under (.builtin "type.__call__" ⟨[.ref 164], []⟩)) B F2 X N2 T hA hf hke (by k_is) (by k_is) (by show A.depth + 1 < 1000; omega) (kp_binds (by k_in) (fun _ => rfl)) (locs rfl) ?_ rfl rfl rfl (by decide)
  intro g' L' h' FG' F' N' B' X' T' hA'
  have l3 : ∀ p ∈ news, p.1 ≠ x := fun p hp => Nat.ne_of_lt (Nat.lt_trans (l1 p hp) l2)
  have l5 : ∀ p ∈ news, p.1 ≠ dx := fun p hp => Nat.ne_of_lt (l1 p hp)
  have l4 := ltN l2
  walk_at "MINE steps"
  rename News _ _ _ _ => N4
  rename Fr _ _ _ _ => F4
  rename Obj.IsDictOf (intKind _ _) _ _ => hi
  rename (_ == sysModules) = false => lo
  rename _ ∧ _ ∧ AllLt _ _ => la
  obtain ⟨t1, t2, t3, t4, tp, tf, N5⟩ : ∃ t1 t2 t3 t4 tp tf, News h₀ L _ (_ :: (x, instObj 164 dx) :: (dx, sattr w.params t1 t2 t3 t4 _ .none 0 tp 0 tf) :: news) := ⟨_, _, _, _, _, _, N4⟩
  refine hR _ _ ⟨x, dx, _, t1, t2, t3, t4⟩ tp tf _ (by assumption) (news_rot3 N5) ⟨⟨Nat.ne_of_gt l2, Nat.ne_of_lt la.1, Nat.ne_of_lt la.2.1, ?_, ?_, ?_, nd⟩, hi, (fun r hr => nomatch hr), lo, Nat.le_refl _, (fun r hr => nomatch hr)⟩
  · intro q
    obtain ⟨z, hz, e⟩ := List.mem_map.mp q
    exact l3 z hz e
  · intro q
    obtain ⟨z, hz, e⟩ := List.mem_map.mp q
    exact l5 z hz e
  · intro q
    obtain ⟨z, hz, e⟩ := List.mem_map.mp q
    exact absurd (kst_ltOf la.2.2 z hz) (e ▸ Nat.lt_irrefl _)

end Mine
-- D0
namespace Mine
open PySem PySem.W PyProof.Rows
/-- what the deeds have made so far, in plain numbers -/
structure DSt where
  row : List Int
  ins : List Int
  M : List (Int × List Int)
  Ds : List (Int × Nat × List Int)
  G : List ANode
def plc (row : List Int) (v : Int) : Nat := (row.takeWhile fun y => decide (y < v)).length
def getM (v : Int) (M : List (Int × List Int)) : List Int := ((M.find? fun p => decide (p.1 = v)).map (·.2)).getD []
def appM (ins : List Int) (v : Int) (M : List (Int × List Int)) : List (Int × List Int) := M.map fun p => if p.1 ∈ ins then (p.1, p.2 ++ [v]) else p
def setM (v : Int) (l : List Int) (M : List (Int × List Int)) : List (Int × List Int) := if M.any (fun p => decide (p.1 = v)) then M.map (fun p => if p.1 = v then (v, l) else p) else M ++ [(v, l)]
def stepA (v : Int) (st : DSt) : DSt :=
  { row := st.row.take (plc st.row v) ++ v :: st.row.drop (plc st.row v), ins := st.ins ++ [v], M := setM v (getM v st.M ++ st.ins) (appM st.ins v st.M)
    Ds := st.Ds ++ [(v, plc st.row v, st.row.take (plc st.row v) ++ v :: st.row.drop (plc st.row v))]
    G := addsAbove v ((st.row.drop (plc st.row v)).take 1) (addsBelow v (lastOf (st.row.take (plc st.row v))) st.G) }
def stepB (i : Nat) (st : DSt) : DSt :=
  let v := st.ins.getD i 0
  { st with row := st.row.take (plc st.row v) ++ st.row.drop (plc st.row v + 1), ins := st.ins.take i ++ st.ins.drop (i + 1), Ds := st.Ds ++ [(v, plc st.row v, st.row)] }
def stepD (st : DSt) (k : Int) : DSt :=
  if k.fmod 4 ≠ 3 then (if k.fdiv 4 ∈ st.ins then st else stepA (k.fdiv 4) st) else if st.ins = [] then st else stepB ((k.fdiv 4).fmod (st.ins.length : Int)).toNat st

/-- what the walk leans on -/
structure DOK (st : DSt) (n : Nat) : Prop where
  so : st.row.Pairwise (· < ·)
  pm : st.row.Perm st.ins
  inM : ∀ o ∈ st.ins, ∃ p ∈ st.M, p.1 = o
  nd : (st.M.map (·.1)).Nodup
  li : st.ins.length ≤ n
  lM : ∀ p ∈ st.M, p.2.length ≤ 100 * n
  lk : st.M.length ≤ n
  ld : st.Ds.length ≤ n

theorem plc_spec {row : List Int} {v : Int} (so : row.Pairwise (· < ·)) : plc row v ≤ row.length ∧ (∀ y ∈ row.take (plc row v), y < v) ∧ ∀ y ∈ row.drop (plc row v), v ≤ y := by
  unfold plc
  induction row with
  | nil => simp
  | cons x row ih =>
    obtain ⟨h1, h2⟩ := List.pairwise_cons.mp so
    obtain ⟨a, b, c⟩ := ih h2
    by_cases hx : x < v
    · rw [List.takeWhile_cons_of_pos (by simpa using hx)]
      refine ⟨by simpa using a, ?_, ?_⟩
      · intro y hy
        simp only [List.length_cons, List.take_succ_cons, List.mem_cons] at hy
        rcases hy with rfl | hy
        · exact hx
        · exact b y hy
      · intro y hy
        simp only [List.length_cons, List.drop_succ_cons] at hy
        exact c y hy
    · rw [List.takeWhile_cons_of_neg (by simpa using hx)]
      refine ⟨by simp, by simp, ?_⟩
      intro y hy
      simp only [List.length_nil, List.drop_zero, List.mem_cons] at hy
      rcases hy with rfl | hy
      · omega
      · have := h1 y hy; omega
theorem plc_uniq {row : List Int} {v : Int} {k : Nat} (so : row.Pairwise (· < ·)) (hk : k ≤ row.length) (h1 : ∀ y ∈ row.take k, y < v) (h2 : ∀ y ∈ row.drop k, v ≤ y) : k = plc row v := by
  obtain ⟨a, b, c⟩ := plc_spec (v := v) so
  exact place_uniq hk a h1 h2 b c
theorem setM_keys {v : Int} {l : List Int} {M : List (Int × List Int)} : (setM v l M).map (·.1) = if M.any (fun p => decide (p.1 = v)) then M.map (·.1) else M.map (·.1) ++ [v] := by
  unfold setM
  split
  · rw [List.map_map]
    refine List.map_congr_left fun p _ => ?_
    show (if p.1 = v then (v, l) else p).1 = p.1
    split
    · rename_i h; exact h.symm
    · rfl
  · simp
theorem appM_keys {ins : List Int} {v : Int} {M : List (Int × List Int)} : (appM ins v M).map (·.1) = M.map (·.1) := by
  unfold appM
  rw [List.map_map]
  refine List.map_congr_left fun p _ => ?_
  show (if p.1 ∈ ins then (p.1, p.2 ++ [v]) else p).1 = p.1
  split <;> rfl
theorem getM_len {v : Int} {M : List (Int × List Int)} {n : Nat} (h : ∀ p ∈ M, p.2.length ≤ n) : (getM v M).length ≤ n := by
  unfold getM
  cases e : M.find? (fun p => decide (p.1 = v)) with
  | none => simp
  | some p => simpa using h p (List.mem_of_find?_eq_some e)
theorem DOK.stepA {st : DSt} {n : Nat} {v : Int} (d : DOK st n) (hv : v ∉ st.ins) (hn : n < 50) : DOK (Mine.stepA v st) (n + 1) := by
  obtain ⟨hk, h1, h2⟩ := plc_spec (v := v) d.so
  have hnr : v ∉ st.row := fun q => hv (d.pm.mem_iff.mp q)
  have hlt : ∀ y ∈ st.row.drop (plc st.row v), v < y := fun y hy => by
    have := h2 y hy
    have : y ≠ v := fun e => hnr (e ▸ List.mem_of_mem_drop hy)
    omega
  have hkeys : ((setM v (getM v st.M ++ st.ins) (appM st.ins v st.M)).map (·.1)) = if (appM st.ins v st.M).any (fun p => decide (p.1 = v)) then st.M.map (·.1) else st.M.map (·.1) ++ [v] := by rw [setM_keys, appM_keys]
  have hmem : ∀ o, (o ∈ st.M.map (·.1) ∨ o = v) → o ∈ (setM v (getM v st.M ++ st.ins) (appM st.ins v st.M)).map (·.1) := by
    intro o ho
    rw [hkeys]
    split
    · rename_i ha
      rcases ho with ho | rfl
      · exact ho
      · obtain ⟨p, hp, e⟩ := List.any_eq_true.mp ha
        rw [← appM_keys (ins := st.ins) (v := o)]
        exact List.mem_map.mpr ⟨p, hp, by simpa using e⟩
    · rcases ho with ho | rfl <;> simp_all
  refine ⟨?_, ?_, ?_, ?_, ?_, ?_, ?_, ?_⟩
  · show (st.row.take (plc st.row v) ++ v :: st.row.drop (plc st.row v)).Pairwise (· < ·)
    rw [List.pairwise_append]
    have so := d.so
    rw [← List.take_append_drop (plc st.row v) st.row, List.pairwise_append] at so
    refine ⟨so.1, List.pairwise_cons.mpr ⟨hlt, so.2.1⟩, fun a ha b hb => ?_⟩
    rcases List.mem_cons.mp hb with rfl | hb
    · exact h1 a ha
    · exact so.2.2 a ha b hb
  · show (st.row.take (plc st.row v) ++ v :: st.row.drop (plc st.row v)).Perm (st.ins ++ [v])
    refine List.perm_middle.trans ?_
    rw [List.take_append_drop]
    exact (d.pm.cons v).trans (List.perm_append_singleton v st.ins).symm
  · intro o ho
    have ho' : o ∈ st.M.map (·.1) ∨ o = v := by
      rcases List.mem_append.mp ho with h | h
      · obtain ⟨p, hp, rfl⟩ := d.inM o h
        exact .inl (List.mem_map_of_mem hp)
      · exact .inr (List.mem_singleton.mp h)
    obtain ⟨p, hp, e⟩ := List.mem_map.mp (hmem o ho')
    exact ⟨p, hp, e⟩
  · show ((setM v (getM v st.M ++ st.ins) (appM st.ins v st.M)).map (·.1)).Nodup
    rw [hkeys]
    split
    · exact d.nd
    · rename_i ha
      rw [List.nodup_append]
      refine ⟨d.nd, by simp, fun a h b hb => ?_⟩
      rw [List.mem_singleton.mp hb]
      intro e
      subst e
      rw [← appM_keys (ins := st.ins) (v := a)] at h
      obtain ⟨p, hp, e⟩ := List.mem_map.mp h
      exact ha (List.any_eq_true.mpr ⟨p, hp, by simpa using e⟩)
  · show (st.ins ++ [v]).length ≤ n + 1
    have := d.li
    simp; omega
  · intro p hp
    have hin := d.li
    have hg := getM_len (v := v) d.lM
    have happ : ∀ q ∈ appM st.ins v st.M, q.2.length ≤ 100 * n + 1 := by
      intro q hq
      obtain ⟨z, hz, rfl⟩ := List.mem_map.mp hq
      have := d.lM z hz
      split
      · simp; omega
      · omega
    have hp' : p ∈ setM v (getM v st.M ++ st.ins) (appM st.ins v st.M) := hp
    unfold setM at hp'
    split at hp'
    · obtain ⟨z, hz, rfl⟩ := List.mem_map.mp hp'
      have := happ z hz
      split
      · simp; omega
      · omega
    · rcases List.mem_append.mp hp' with h | h
      · have := happ p h; omega
      · rw [List.mem_singleton.mp h]; simp; omega
  · have := congrArg List.length hkeys
    rw [List.length_map] at this
    show (setM v (getM v st.M ++ st.ins) (appM st.ins v st.M)).length ≤ n + 1
    rw [this]
    have := d.lk
    split <;> simp <;> omega
  · show (st.Ds ++ [_]).length ≤ n + 1
    have := d.ld
    simp; omega
end Mine
-- D1
namespace Mine
open PySem PySem.W PyProof.Rows
theorem plc_mem {row : List Int} {v : Int} (so : row.Pairwise (· < ·)) (hv : v ∈ row) : row.drop (plc row v) = v :: row.drop (plc row v + 1) := by
  obtain ⟨hk, h1, h2⟩ := plc_spec (v := v) so
  have hlt : plc row v < row.length := by
    rcases Nat.lt_or_ge (plc row v) row.length with h | h
    · exact h
    · rw [List.take_of_length_le h] at h1
      have := h1 v hv; omega
  rw [List.drop_eq_getElem_cons hlt]
  have hx : row[plc row v] = v := by
    rw [← List.take_append_drop (plc row v) row] at hv
    rcases List.mem_append.mp hv with h | h
    · have := h1 v h; omega
    · have hd := List.drop_eq_getElem_cons hlt
      have hge := h2 row[plc row v] (by rw [hd]; exact .head _)
      rw [hd] at h
      rcases List.mem_cons.mp h with e | h
      · exact e.symm
      · have sd := List.Pairwise.sublist (List.drop_sublist (plc row v) row) so
        rw [hd] at sd
        have := (List.pairwise_cons.mp sd).1 v h
        omega
  rw [hx]
theorem DOK.stepB {st : DSt} {n i : Nat} (d : DOK st n) (hi : i < st.ins.length) : DOK (Mine.stepB i st) (n + 1) := by
  have hv : st.ins.getD i 0 ∈ st.row := d.pm.mem_iff.mpr (by rw [List.getD_eq_getElem?_getD, List.getElem?_eq_getElem hi]; exact List.getElem_mem hi)
  have hd := plc_mem d.so hv
  have hre : st.row = st.row.take (plc st.row (st.ins.getD i 0)) ++ st.ins.getD i 0 :: st.row.drop (plc st.row (st.ins.getD i 0) + 1) := by rw [← hd, List.take_append_drop]
  have hie : st.ins = st.ins.take i ++ st.ins.getD i 0 :: st.ins.drop (i + 1) := by
    rw [List.getD_eq_getElem?_getD, List.getElem?_eq_getElem hi, Option.getD_some, ← List.drop_eq_getElem_cons hi, List.take_append_drop]
  refine ⟨?_, ?_, ?_, d.nd, ?_, fun p hp => Nat.le_trans (d.lM p hp) (by omega), Nat.le_succ_of_le d.lk, ?_⟩
  · show (st.row.take _ ++ st.row.drop _).Pairwise (· < ·)
    have so := d.so
    rw [hre] at so
    exact so.sublist ((List.Sublist.refl _).append (List.sublist_cons_self _ _))
  · show (st.row.take _ ++ st.row.drop _).Perm (st.ins.take i ++ st.ins.drop (i + 1))
    exact List.Perm.cons_inv (List.perm_middle.symm.trans ((List.Perm.of_eq hre.symm).trans (d.pm.trans ((List.Perm.of_eq hie).trans List.perm_middle))))
  · intro o ho
    refine d.inM o ?_
    rw [hie]
    rcases List.mem_append.mp ho with h | h
    · exact List.mem_append_left _ h
    · exact List.mem_append_right _ (.tail _ h)
  · show (st.ins.take i ++ st.ins.drop (i + 1)).length ≤ n + 1
    have := d.li
    simp; omega
  · show (st.Ds ++ [_]).length ≤ n + 1
    have := d.ld
    simp; omega
theorem DOK.mono {st : DSt} {n : Nat} (d : DOK st n) : DOK st (n + 1) :=
  ⟨d.so, d.pm, d.inM, d.nd, Nat.le_succ_of_le d.li, fun p hp => Nat.le_trans (d.lM p hp) (by omega), Nat.le_succ_of_le d.lk, Nat.le_succ_of_le d.ld⟩
theorem modlen0 {k : Int} {n : Nat} (h : 0 < n) : 0 ≤ k.fmod (n : Int) ∧ k.fmod (n : Int) < n := by
  rw [Int.fmod_eq_emod_of_nonneg _ (by omega)]
  have h1 := Int.emod_nonneg k (show (n : Int) ≠ 0 by omega)
  have h2 := Int.emod_lt_of_pos k (show (0 : Int) < n by omega)
  omega
theorem modlen {k : Int} {n : Nat} (h : 0 < n) : (k.fmod (n : Int)).toNat < n := by
  have := modlen0 (k := k) h
  omega
theorem DOK.stepD {st : DSt} {n : Nat} {k : Int} (d : DOK st n) (hn : n < 50) : DOK (Mine.stepD st k) (n + 1) := by
  unfold Mine.stepD
  split
  · split
    · exact d.mono
    · rename_i h; exact d.stepA h hn
  · split
    · exact d.mono
    · rename_i h
      exact d.stepB (modlen (by cases e : st.ins with | nil => exact absurd e h | cons => simp))
theorem sorted_uniq {l l' : List Int} (h : l.Perm l') (a : l.Pairwise (· < ·)) (b : l'.Pairwise (· ≤ ·)) : l = l' :=
  List.Perm.eq_of_pairwise (le := (· ≤ ·)) (fun x y _ _ h1 h2 => by omega) (a.imp fun h => Int.le_of_lt h) b h
end Mine
-- G5
namespace Mine
open PySem PySem.W PyProof.Rows
structure MateR where
  key : Int
  addr : Addr
  vs : List Value
  xs : List Int
  n : Nat
structure DeedR where
  tup : Addr
  lst : Addr
  v : Int
  tv : Tok
  k : Nat
  tk : Tok
  vs : List Value
  xs : List Int
  n : Nat
abbrev mseg (r : MateR) : Addr × Obj := (r.addr, W.listOf r.vs.toArray r.n)
abbrev kvM (Ms : List MateR) : List (Int × Value) := Ms.map fun r => (r.key, Value.ref r.addr)
def MateR.abs (r : MateR) : Int × List Int := (r.key, r.xs)
abbrev dseg (r : DeedR) : List (Addr × Obj) := [(r.tup, tupO [.int r.v r.tv, .int r.k r.tk, .ref r.lst]), (r.lst, W.listOf r.vs.toArray r.n)]
def DeedR.abs (r : DeedR) : Int × Nat × List Int := (r.v, r.k, r.xs)
abbrev deV (Ds : List DeedR) : List Value := Ds.map fun r => Value.ref r.tup
abbrev dtl (aN : Addr × Obj) (Ms : List MateR) (Ds : List DeedR) (rest : List (Addr × Obj)) : List (Addr × Obj) := aN :: (Ms.map mseg ++ (Ds.flatMap dseg ++ rest))
section
variable {w : World} {σ : Srt} {rv : Value} {po nf : Int} {tp tf : Tok} {oD : Obj} {G : List NodeR} {R R' rest : List (Addr × Obj)} {a b c d : Addr × Obj} {x : Addr × Obj}
theorem gl_congr (h : R.Perm R') : (gl w σ rv po tp nf tf oD G R).Perm (gl w σ rv po tp nf tf oD G R') := (((h.append_left _).cons _).cons _).cons _
theorem dl_in : (x :: a :: b :: c :: d :: gl w σ rv po tp nf tf oD G R).Perm (a :: b :: c :: d :: gl w σ rv po tp nf tf oD G (x :: R)) :=
  (List.perm_append_comm_assoc [x] [a, b, c, d] _).trans ((((gl_push_perm.cons _).cons _).cons _).cons _)
theorem dl_comes : (a :: b :: c :: d :: gl w σ rv po tp nf tf oD G R).Perm (d :: gl w σ rv po tp nf tf oD G (a :: b :: c :: R)) := by
  refine (List.perm_append_comm_assoc [a, b, c] [d] _).trans (List.Perm.cons _ ?_)
  refine List.Perm.trans ?_ gl_push_perm
  refine List.Perm.cons _ (List.Perm.trans ?_ gl_push_perm)
  exact List.Perm.cons _ gl_push_perm
theorem dl_out (h : R.Perm (x :: R')) : (a :: b :: c :: d :: gl w σ rv po tp nf tf oD G R).Perm (x :: a :: b :: c :: d :: gl w σ rv po tp nf tf oD G R') :=
  (((((gl_congr h).cons _).cons _).cons _).cons _).trans dl_in.symm
theorem mate_perm {aN : Addr × Obj} {Ma Mb : List MateR} {r : MateR} {Ds : List DeedR} : (dtl aN (Ma ++ r :: Mb) Ds rest).Perm (mseg r :: dtl aN (Ma ++ Mb) Ds rest) := by
  unfold dtl
  refine List.Perm.trans ?_ (List.Perm.swap _ _ _)
  refine List.Perm.cons _ ?_
  rw [List.map_append, List.map_append, List.map_cons, List.append_assoc, List.cons_append, List.append_assoc]
  exact List.perm_middle
theorem mate_add {aN : Addr × Obj} {Ms : List MateR} {r : MateR} {Ds : List DeedR} : (mseg r :: dtl aN Ms Ds rest).Perm (dtl aN (Ms ++ [r]) Ds rest) := by
  have := (mate_perm (aN := aN) (Ma := Ms) (Mb := []) (r := r) (Ds := Ds) (rest := rest)).symm
  rwa [List.append_nil] at this
theorem deed_add {aN : Addr × Obj} {Ms : List MateR} {r : DeedR} {Ds : List DeedR} : (dseg r ++ dtl aN Ms Ds rest).Perm (dtl aN Ms (Ds ++ [r]) rest) := by
  unfold dtl
  refine (List.perm_append_comm_assoc (dseg r) [aN] _).trans (List.Perm.cons _ ?_)
  refine (List.perm_append_comm_assoc (dseg r) _ _).trans (List.Perm.append_left _ ?_)
  rw [List.flatMap_append, List.append_assoc]
  refine (List.perm_append_comm_assoc (dseg r) _ _).trans (List.Perm.append_left _ ?_)
  simp
structure D4 (a b c d : Addr) (Z : List (Addr × Obj)) : Prop where
  q1 : @Ne Nat a b
  q2 : @Ne Nat a c
  q3 : @Ne Nat a d
  q4 : @Ne Nat b c
  q5 : @Ne Nat b d
  q6 : @Ne Nat c d
  m1 : a ∉ Z.map (·.1)
  m2 : b ∉ Z.map (·.1)
  m3 : c ∉ Z.map (·.1)
  m4 : d ∉ Z.map (·.1)
  nz : ND Z
theorem d4_iff {a b c d : Addr × Obj} {Z : List (Addr × Obj)} : ND (a :: b :: c :: d :: Z) ↔ D4 a.1 b.1 c.1 d.1 Z := by
  show (a.1 :: b.1 :: c.1 :: d.1 :: Z.map (·.1)).Nodup ↔ _
  simp only [List.nodup_cons, List.mem_cons, not_or]
  constructor
  · rintro ⟨⟨x1, x2, x3, x4⟩, ⟨x5, x6, x7⟩, ⟨x8, x9⟩, x10, x11⟩; exact ⟨x1, x2, x3, x5, x6, x8, x4, x7, x9, x10, x11⟩
  · rintro ⟨x1, x2, x3, x5, x6, x8, x4, x7, x9, x10, x11⟩; exact ⟨⟨x1, x2, x3, x4⟩, ⟨x5, x6, x7⟩, ⟨x8, x9⟩, x10, x11⟩
/-- the ground facts that GOK wants, out of the whole ledger's -/
theorem GOK.of {w : World} {G : List NodeR} {oD : Obj} {b : Nat} (g : GOK w σ oD G R b) (nd : ND (gl w σ rv po tp nf tf oD G R')) : GOK w σ oD G R' b := ⟨gl_nd.mp nd, g.dg, g.gw, g.lo, g.ln, g.ls⟩
end
end Mine
-- G6
namespace Mine
open PySem PySem.W PyProof.Rows
theorem dict_nodup {w : World} {o : Obj} {kvs : List (Int × Value)} (h : o.IsDictOf (intKind PySem.Challenge.rw_mr0333_01.row.prog w) kvs) : (kvs.map (·.1)).Nodup := by
  obtain ⟨es, ep, _, _, _, _, hn⟩ := h
  exact hn
theorem valueAt_kvM_none {Ms : List MateR} {v : Int} : valueAt (kvM Ms) v = none ↔ ∀ r ∈ Ms, r.key ≠ v := by
  unfold valueAt kvM
  simp [List.find?_eq_none]
theorem valueAt_kvM_some {Ms : List MateR} {v : Int} {x : Value} (h : valueAt (kvM Ms) v = some x) : ∃ r ∈ Ms, r.key = v ∧ x = .ref r.addr := by
  unfold valueAt kvM at h
  rw [Option.map_eq_some_iff] at h
  obtain ⟨⟨k, y⟩, h1, h2⟩ := h
  have hm := List.mem_of_find?_eq_some h1
  have hp := List.find?_some h1
  obtain ⟨r, hr, e⟩ := List.mem_map.mp hm
  cases e
  exact ⟨r, hr, by simpa using hp, h2.symm⟩
theorem valueAt_kvM_of {Ms : List MateR} {r : MateR} (hn : ((kvM Ms).map (·.1)).Nodup) (hr : r ∈ Ms) : valueAt (kvM Ms) r.key = some (.ref r.addr) := by
  obtain ⟨i, hi, e⟩ := List.mem_iff_getElem.mp hr
  exact valueAt_of_get hn (i := i) (by simp [kvM, hi, e])
theorem stored_kvM_new {Ms : List MateR} {r : MateR} (h : ∀ q ∈ Ms, q.key ≠ r.key) : stored (kvM Ms) r.key (.ref r.addr) = kvM (Ms ++ [r]) := by
  unfold stored
  rw [if_neg]
  · simp [kvM]
  · simpa using h
theorem kvM_ne {Ma Mb : List MateR} {r : MateR} (hn : ((kvM (Ma ++ r :: Mb)).map (·.1)).Nodup) : ∀ q ∈ Ma ++ Mb, q.key ≠ r.key := by
  have e : ((kvM (Ma ++ r :: Mb)).map (·.1)) = (Ma ++ r :: Mb).map MateR.key := by unfold kvM; rw [List.map_map]; rfl
  rw [e] at hn
  have h3 := (List.perm_middle.map MateR.key).nodup_iff.mp hn
  rw [List.map_cons, List.nodup_cons] at h3
  exact fun q hq e => h3.1 (List.mem_map.mpr ⟨q, hq, e⟩)
theorem stored_kvM_old {Ma Mb : List MateR} {r r' : MateR} (hn : ((kvM (Ma ++ r :: Mb)).map (·.1)).Nodup) (hk : r'.key = r.key) : stored (kvM (Ma ++ r :: Mb)) r'.key (.ref r'.addr) = kvM (Ma ++ r' :: Mb) := by
  have hne := kvM_ne hn
  unfold stored
  rw [if_pos]
  · rw [hk]
    simp only [kvM, List.map_append, List.map_cons, List.map_map]
    congr 1
    · refine List.map_congr_left fun q hq => ?_
      have := hne q (List.mem_append_left _ hq)
      simp [this]
    · congr 1
      · simp [hk]
      · refine List.map_congr_left fun q hq => ?_
        have := hne q (List.mem_append_right _ hq)
        simp [this]
  · simp [kvM, hk]
theorem kvM_set {Ma Mb : List MateR} {r r' : MateR} (hk : r'.key = r.key) (ha : r'.addr = r.addr) : kvM (Ma ++ r' :: Mb) = kvM (Ma ++ r :: Mb) := by simp [kvM, hk, ha]
theorem abs_setM {Ma Mb : List MateR} {r r' : MateR} (f : Int × List Int → Int × List Int) (hn : ((kvM (Ma ++ r :: Mb)).map (·.1)).Nodup) (hf : ∀ p : Int × List Int, p.1 ≠ r.key → f p = p) (hr : r'.abs = f r.abs) :
    (Ma ++ r' :: Mb).map MateR.abs = ((Ma ++ r :: Mb).map MateR.abs).map f := by
  have hne := kvM_ne hn
  simp only [List.map_append, List.map_cons, hr, List.map_map]
  congr 1
  · exact List.map_congr_left fun q hq => (hf _ (hne q (List.mem_append_left _ hq))).symm
  · congr 1
    exact List.map_congr_left fun q hq => (hf _ (hne q (List.mem_append_right _ hq))).symm
theorem appM_step {ins : List Int} {j : Nat} {o v : Int} {M : List (Int × List Int)} (hn : ins.Nodup) (hj : ins[j]? = some o) : appM (ins.take (j + 1)) v M = (appM (ins.take j) v M).map (fun p => if p.1 = o then (p.1, p.2 ++ [v]) else p) := by
  have hno : o ∉ ins.take j := by
    have h2 : (ins.take (j + 1)).Nodup := hn.sublist (List.take_sublist _ _)
    rw [List.take_add_one, hj] at h2
    have := List.nodup_append.mp h2
    intro h
    exact this.2.2 o h o (by simp) rfl
  unfold appM
  rw [List.map_map]
  refine List.map_congr_left fun p _ => ?_
  have ht : ins.take (j + 1) = ins.take j ++ [o] := by rw [List.take_add_one, hj]; rfl
  show (if p.1 ∈ ins.take (j + 1) then (p.1, p.2 ++ [v]) else p) = (if (if p.1 ∈ ins.take j then (p.1, p.2 ++ [v]) else p).1 = o then _ else _)
  rw [ht]
  by_cases h1 : p.1 ∈ ins.take j
  · have h2 : p.1 ≠ o := fun e => hno (e ▸ h1)
    simp [h1, h2]
  · by_cases h2 : p.1 = o
    · simp [h1, h2, hno]
    · simp [h1, h2]
theorem appM_nil {v : Int} {M : List (Int × List Int)} : appM [] v M = M := by
  unfold appM
  simp
theorem getM_appM {ins : List Int} {v : Int} {M : List (Int × List Int)} (hv : v ∉ ins) : getM v (appM ins v M) = getM v M := by
  unfold getM appM
  induction M with
  | nil => rfl
  | cons p M ih =>
    simp only [List.map_cons, List.find?_cons]
    by_cases h1 : p.1 ∈ ins
    · have h2 : p.1 ≠ v := fun e => hv (e ▸ h1)
      simp [h1, h2]
      simpa using ih
    · by_cases h2 : p.1 = v
      · simp [h2, hv]
      · simp [h1, h2]
        simpa using ih
theorem getM_mate {Ma Mb : List MateR} {r : MateR} (hn : ((kvM (Ma ++ r :: Mb)).map (·.1)).Nodup) : getM r.key ((Ma ++ r :: Mb).map MateR.abs) = r.xs := by
  have hne : ∀ q ∈ Ma, q.key ≠ r.key := fun q hq => kvM_ne hn q (List.mem_append_left _ hq)
  unfold getM
  rw [List.map_append, List.find?_append, List.find?_eq_none.mpr]
  · simp [MateR.abs]
  · intro p hp
    obtain ⟨q, hq, rfl⟩ := List.mem_map.mp hp
    exact fun e => hne q hq (of_decide_eq_true e)
theorem getM_none {Ms : List MateR} {v : Int} (h : ∀ r ∈ Ms, r.key ≠ v) : getM v (Ms.map MateR.abs) = [] := by
  unfold getM
  rw [List.find?_eq_none.mpr]
  · rfl
  · intro p hp
    obtain ⟨q, hq, rfl⟩ := List.mem_map.mp hp
    exact fun e => h q hq (of_decide_eq_true e)
theorem setM_new {Ms : List MateR} {r : MateR} (h : ∀ q ∈ Ms, q.key ≠ r.key) : (Ms ++ [r]).map MateR.abs = setM r.key r.xs (Ms.map MateR.abs) := by
  unfold setM
  rw [if_neg]
  · simp [MateR.abs]
  · simp only [List.any_eq_true, not_exists, not_and]
    intro p hp
    obtain ⟨q, hq, rfl⟩ := List.mem_map.mp hp
    exact fun e => h q hq (of_decide_eq_true e)
theorem setM_old {Ma Mb : List MateR} {r r' : MateR} (hn : ((kvM (Ma ++ r :: Mb)).map (·.1)).Nodup) (hk : r'.key = r.key) : (Ma ++ r' :: Mb).map MateR.abs = setM r.key r'.xs ((Ma ++ r :: Mb).map MateR.abs) := by
  unfold setM
  rw [if_pos]
  · refine abs_setM _ hn (fun p hp => if_neg hp) ?_
    show r'.abs = if r.key = r.key then _ else _
    rw [if_pos rfl]; unfold MateR.abs; rw [hk]
  · rw [List.any_eq_true]
    exact ⟨r.abs, List.mem_map.mpr ⟨r, by simp, rfl⟩, by simp [MateR.abs]⟩
end Mine
-- G7
namespace Mine
open PySem PySem.W PyProof.Rows
theorem pm7 {α : Type} (t l s a b c d : α) (Z : List α) : (t :: l :: s :: a :: b :: c :: d :: Z).Perm (a :: b :: c :: d :: t :: l :: s :: Z) := by
  classical
  rw [List.perm_iff_count]; intro x; simp only [List.count_cons]; omega
theorem pm9 {α : Type} (r d1 d2 t l a b c d : α) (Z : List α) : (r :: d1 :: d2 :: t :: l :: a :: b :: c :: d :: Z).Perm (d1 :: d2 :: d :: t :: l :: a :: b :: c :: r :: Z) := by
  classical
  rw [List.perm_iff_count]; intro x; simp only [List.count_cons]; omega
theorem pm4 {α : Type} (t l s i : α) (Z : List α) : (t :: l :: s :: i :: Z).Perm (i :: t :: l :: s :: Z) := by
  classical
  rw [List.perm_iff_count]; intro x; simp only [List.count_cons]; omega
theorem pm3 {α : Type} (t l i : α) (Z : List α) : (t :: l :: i :: Z).Perm (i :: t :: l :: Z) := by
  classical
  rw [List.perm_iff_count]; intro x; simp only [List.count_cons]; omega
theorem pm5 {α : Type} (p a b c d : α) (Z : List α) : (p :: a :: b :: c :: d :: Z).Perm (c :: d :: p :: b :: a :: Z) := by
  classical
  rw [List.perm_iff_count]; intro x; simp only [List.count_cons]; omega
section
variable {w : World} {σ : Srt} {rv : Value} {po nf : Int} {tp tf : Tok} {oD : Obj} {G : List NodeR} {rest : List (Addr × Obj)} {a b c d e d1 d2 i aN : Addr × Obj} {Ms Ma Mb : List MateR} {Dr : List DeedR} {r r2 : MateR} {dr : DeedR}
theorem dl_in3 {x y z : Addr × Obj} {R : List (Addr × Obj)} : (x :: y :: z :: a :: b :: c :: d :: gl w σ rv po tp nf tf oD G R).Perm (a :: b :: c :: d :: gl w σ rv po tp nf tf oD G (x :: y :: z :: R)) :=
  ((dl_in.cons _).cons _).trans ((dl_in.cons _).trans dl_in)
theorem dl_in2 {x y : Addr × Obj} {R : List (Addr × Obj)} : (x :: y :: a :: b :: c :: d :: gl w σ rv po tp nf tf oD G R).Perm (a :: b :: c :: d :: gl w σ rv po tp nf tf oD G (x :: y :: R)) :=
  (dl_in.cons _).trans dl_in
theorem a_new : ((dr.tup, tupO [.int dr.v dr.tv, .int dr.k dr.tk, .ref dr.lst]) :: (dr.lst, W.listOf dr.vs.toArray dr.n) :: mseg r :: a :: b :: c :: d :: gl w σ rv po tp nf tf oD G (i :: dtl aN Ms Dr rest)).Perm
    (i :: a :: b :: c :: d :: gl w σ rv po tp nf tf oD G (dtl aN (Ms ++ [r]) (Dr ++ [dr]) rest)) := by
  refine dl_in3.trans (List.Perm.trans ?_ dl_in.symm)
  refine ((((gl_congr ?_).cons _).cons _).cons _).cons _
  refine (pm4 _ _ _ _ _).trans (List.Perm.cons _ ?_)
  refine ((mate_add.cons _).cons _).trans ?_
  exact deed_add
theorem a_old : ((dr.tup, tupO [.int dr.v dr.tv, .int dr.k dr.tk, .ref dr.lst]) :: (dr.lst, W.listOf dr.vs.toArray dr.n) :: mseg r2 :: a :: b :: c :: d :: gl w σ rv po tp nf tf oD G (i :: dtl aN (Ma ++ r :: Mb) Dr rest)).Perm
    (mseg r :: i :: a :: b :: c :: d :: gl w σ rv po tp nf tf oD G (dtl aN (Ma ++ r2 :: Mb) (Dr ++ [dr]) rest)) := by
  refine dl_in3.trans (List.Perm.trans ?_ (dl_in2 (x := mseg r) (y := i)).symm)
  refine ((((gl_congr ?_).cons _).cons _).cons _).cons _
  refine (pm4 _ _ _ _ _).trans ((List.Perm.cons _ ?_).trans (List.Perm.swap _ _ _))
  refine (((mate_perm.cons _).cons _).cons _).trans ?_
  refine List.Perm.trans ?_ ((deed_add (r := dr)).cons _)
  refine List.Perm.trans ?_ (((mate_perm.cons _).cons _).cons _).symm
  exact pm4 _ _ _ _ _
theorem b_new : (e :: d1 :: d2 :: (dr.tup, tupO [.int dr.v dr.tv, .int dr.k dr.tk, .ref dr.lst]) :: (dr.lst, W.listOf dr.vs.toArray dr.n) :: a :: b :: c :: d :: gl w σ rv po tp nf tf oD G (i :: dtl aN Ms Dr rest)).Perm
    (d1 :: d2 :: d :: i :: a :: b :: c :: e :: gl w σ rv po tp nf tf oD G (dtl aN Ms (Dr ++ [dr]) rest)) := by
  refine (pm9 _ _ _ _ _ _ _ _ _ _).trans (((List.Perm.cons _ ?_).cons _).cons _)
  refine dl_in2.trans (List.Perm.trans ?_ dl_in.symm)
  refine ((((gl_congr ?_).cons _).cons _).cons _).cons _
  refine (pm3 _ _ _ _).trans (List.Perm.cons _ ?_)
  exact deed_add
theorem mate_up {i2 : Addr × Obj} : (i2 :: i :: dtl aN (Ma ++ r :: Mb) Dr rest).Perm (mseg r :: i2 :: i :: dtl aN (Ma ++ Mb) Dr rest) :=
  ((mate_perm.cons _).cons _).trans (pm3 _ _ _ _)
end
theorem appM_len {ins : List Int} {v : Int} {M : List (Int × List Int)} {b : Nat} (h : ∀ p ∈ M, p.2.length ≤ b) : ∀ p ∈ appM ins v M, p.2.length ≤ b + 1 := by
  intro q hq
  obtain ⟨z, hz, rfl⟩ := List.mem_map.mp hq
  have := h z hz
  split
  · simp; omega
  · omega
theorem mate_of {Ms : List MateR} {ins : List Int} {v o : Int} {M : List (Int × List Int)} (e : Ms.map MateR.abs = appM ins v M) (h : ∃ p ∈ M, p.1 = o) : ∃ r ∈ Ms, r.key = o := by
  obtain ⟨p, hp, rfl⟩ := h
  have h1 : p.1 ∈ (appM ins v M).map (·.1) := by rw [appM_keys]; exact List.mem_map_of_mem hp
  rw [← e, List.map_map] at h1
  obtain ⟨r, hr, e⟩ := List.mem_map.mp h1
  exact ⟨r, hr, e⟩
theorem ins_nodup {st : DSt} {n : Nat} (d : DOK st n) : st.ins.Nodup := d.pm.nodup_iff.mp (d.so.imp fun h => by omega)
theorem News.drop4 {g h : Heap} {L : Addr} {a b c d : Addr × Obj} {l : List (Addr × Obj)} (N : News g L h (a :: b :: c :: d :: l)) : News g L h (a :: b :: c :: l) :=
  News.sub N fun q hq => by
    rcases List.mem_cons.mp hq with rfl | hq
    · exact .head _
    rcases List.mem_cons.mp hq with rfl | hq
    · exact .tail _ (.head _)
    rcases List.mem_cons.mp hq with rfl | hq
    · exact .tail _ (.tail _ (.head _))
    · exact .tail _ (.tail _ (.tail _ (.tail _ hq)))
theorem ND.drop4 {a b c d : Addr × Obj} {l : List (Addr × Obj)} (N : ND (a :: b :: c :: d :: l)) : ND (a :: b :: c :: l) := by
  have h : (a :: b :: c :: l).Sublist (a :: b :: c :: d :: l) := (((List.sublist_cons_self d l).cons_cons c).cons_cons b).cons_cons a
  exact List.Nodup.sublist (h.map (·.1)) N
theorem ND.tail3 {a b c : Addr × Obj} {l : List (Addr × Obj)} (N : ND (a :: b :: c :: l)) : ND l := by
  have h : l.Sublist (a :: b :: c :: l) := (((List.Sublist.refl l).cons c).cons b).cons a
  exact List.Nodup.sublist (h.map (·.1)) N
end Mine
-- P14
namespace Mine
open PySem PySem.W PyProof.Rows
example : True := by
  k_with_none
  k_with "MYcall" => ((with_reducible show wpAny _ _ (call (Value.builtin "len") _ _) _ _ _); (refine' my_len ?zzk1 ?zzk2 ?zzk3 ?_; (case zzk1 => k_asm); (case zzk2 => k_mem); (case zzk3 => omega); intro _ _))
  k_with "MY subscriptTail" => ((with_reducible show wpAny _ _ (subscriptTail _ _ (Value.ref _) _) _ _ _); ((with_reducible show wpAny _ _ (subscriptTail _ _ (Value.ref _) (Value.int _ _)) _ _ _); with_unfolding_all refine' my_item ?zzk1 ?zzk2 ?zzk3 ?zzk4 ?zzk5 ?zzk6 ?_ ?zzk7; (case zzk1 => k_asm); (case zzk2 => k_mem); (case zzk3 => assumption); (case zzk4 => omega); (case zzk5 => omega); (case zzk6 => omega); (case zzk7 => with_unfolding_all rfl);  intro _))
  k_with "MY eval Name" => ((with_reducible show wpAny _ _ (eval (Expr.Name _ _) (envOf _ _ _ _ _)) _ _ _); (k_here; k_dflt (refine' ld ?zzk1 ?zzk2 ?_; (case zzk1 => k_asm); (case zzk2 => assumption); k_whole)))
  k_with "MYcall" => ((with_reducible show wpAny _ _ (call (Value.builtin "list.insert") _ _) _ _ _); (k_here; k_dflt (refine' my_insert ?zzF ?zzN ?zzU ?zzhk ?zzz ?_; (case zzF => k_asm); (case zzN => k_asm); (case zzU => k_upd); (case zzhk => omega); (case zzz => omega); k_whole); intro _ _ _; (try k_sweep)))
  k_with "MYcall" => ((with_reducible show wpAny _ _ (call (Value.builtin "dict.get") _ _) _ _ _); (k_here; k_dflt (first | refine kdg_get1 (knd := PySem.intKind _ _) (by k_asm) (by k_mem) (by assumption) (by assumption) (intKind_is _ _ _ _) none (by assumption) ?_ | refine kdg_get1 (knd := PySem.intKind _ _) (by k_asm) (by k_mem) (by assumption) (by assumption) (intKind_is _ _ _ _) (some _) (by assumption) ?_); (try dsimp only [Option.getD])))
  k_with "MY getMethod ref" => ((with_reducible show wpAny _ _ (getMethod (Value.ref _) _ _) _ _ _); (k_here; (with_reducible show wpAny _ _ (getMethod (Value.ref _) (Str.ofString "get") _) _ _ _); k_dflt (refine kdg_method (knd := PySem.intKind _ _) (by k_asm) (by k_mem) (by assumption) ?_)))
  k_with "MY setItem ref int" => ((with_reducible show wpAny _ _ (setItem (Value.ref _) (Value.int _ _) _) _ _ _); (k_here; k_dflt (refine' kda_set (knd := PySem.intKind _ _) ?zzF ?zzN ?zzU ?zzd (intKind_is _ _ _ _) ?zzz ?_; (case zzF => k_asm); (case zzN => k_asm); (case zzU => k_updF); (case zzd => assumption); (case zzz => assumption)); intro _ _ _ _ _; (try dsimp only at N'); (try k_sweep)))
  k_with "MYcall" => ((with_reducible show wpAny _ _ (call (Value.builtin "len") _ _) _ _ _); (refine' my_lenT ?zzk1 ?zzk2 ?zzk3 ?_; (case zzk1 => k_asm); (case zzk2 => k_mem); (case zzk3 => omega); intro _ _))
  k_with "MY eval Call Attribute" => ((with_reducible show wpAny _ _ (eval (Expr.Call (Expr.Attribute _ _ _) _ [] _) _) _ _ _); (k_here; (with_reducible show wpAny _ _ (eval (Expr.Call (Expr.Attribute _ _ _) _ [] _) _) _ _ _); ks_star; refine star_method ?_))
  k_with "MY callWith ref" => ((with_reducible show wpAny _ _ (callWith _ (Value.ref _) _ _ []) _ _ _); (k_here; (with_reducible show wpAny _ _ (callWith _ (Value.ref _) _ (backTo _ (starEach [Expr.Starred _ _] _)) []) _ _ _); k_dflt (refine' callWith_MS ?zzX ?zzN ?zzq ?zzk2 ?_; (case zzX => k_asm); (case zzN => k_asm); (case zzq => k_mem); (case zzk2 => k_is); k_whole)))
  k_with "MY callWith ref" => ((with_reducible show wpAny _ _ (callWith _ (Value.ref _) _ _ []) _ _ _); (k_here; (with_reducible show wpAny _ _ (callWith _ (Value.ref _) _ (backTo _ (starEach (_ :: _ :: _) _)) []) _ _ _); ks_star; k_dflt (refine' callWith_MS2 ?zzX ?zzN ?zzq ?zzk2 ?_; (case zzX => k_asm); (case zzN => k_asm); (case zzq => k_mem); (case zzk2 => k_is); k_whole)))
  k_with "MY StarOf ref" => ((with_reducible show StarOf _ _ _ (Value.ref _) _ _); (k_here; k_dflt (first | (refine' my_star ?zzF ?zzN ?zzm ?zzi ?zzz ?_; (case zzF => k_asm); (case zzN => k_asm); (case zzm => k_mem); (case zzi => assumption); (case zzz => omega); k_whole) | (refine' my_starT ?zzF ?zzN ?zzm ?zzi ?zzz ?_; (case zzF => k_asm); (case zzN => k_asm); (case zzm => k_mem); (case zzi => assumption); (case zzz => omega); k_whole)); intro _ _ _; (try k_sweep); (try dsimp only [List.nil_append, List.cons_append])))
  k_with "MY compareOp In int ref" => ((with_reducible show wpAny _ _ (compareOp CmpOp.In (Value.int _ _) (Value.ref _)) _ _ _); (k_here; k_dflt (first | (refine' kse_in (knd := PySem.intKind _ _) ?zzN ?zzU ?zzd ?zzz (intKind_is _ _ _ _) rfl ?_; (case zzN => k_asm); (case zzU => k_updF); (case zzd => assumption); (case zzz => (show _ < 4096; omega))) | (refine' kda_in (knd := PySem.intKind _ _) ?zzN ?zzm ?zzd ?zzlo (intKind_is _ _ _ _) false ?zzb ?_; (case zzN => k_asm); (case zzm => k_mem); (case zzd => assumption); (case zzlo => assumption); (case zzb => assumption))); (try dsimp only)))
  k_with "MY getMethod ref" => ((with_reducible show wpAny _ _ (getMethod (Value.ref _) _ _) _ _ _); (k_here; (with_reducible show wpAny _ _ (getMethod (Value.ref _) (Str.ofString "add") _) _ _ _); k_dflt (refine' kse_method (knd := PySem.intKind _ _) ?zzN ?zzU ?zzd ?zzz ?_; (case zzN => k_asm); (case zzU => k_updF); (case zzd => assumption); (case zzz => (show _ < 4096; omega)))))
  k_with "MYcall" => ((with_reducible show wpAny _ _ (call (Value.builtin "set.add") _ _) _ _ _); (k_here; k_dflt (refine' kse_add (knd := PySem.intKind _ _) ?zzF ?zzN ?zzU ?zzd ?zzz (intKind_is _ _ _ _) rfl ?_; (case zzF => k_asm); (case zzN => k_asm); (case zzU => k_updF); (case zzd => assumption); (case zzz => (show _ < 4096; omega))); intro _ _ _ _ _; (try dsimp only at N'); (try k_sweep)))
  k_with "MY subscriptTail" => ((with_reducible show wpAny _ _ (subscriptTail _ _ (Value.ref _) _) _ _ _); ((with_reducible show wpAny _ _ (subscriptTail _ _ (Value.ref _) (Value.int _ _)) _ _ _); with_unfolding_all refine' kda_item (knd := PySem.intKind _ _) ?zzk1 ?zzk2 ?zzk3 (intKind_is _ _ _ _) ?zzk4 ?_ ?zzk7 ?zzk8; (case zzk1 => k_asm); (case zzk2 => k_mem); (case zzk3 => assumption); (case zzk4 => assumption); (case zzk7 => with_unfolding_all rfl); (case zzk8 => (intro _; with_unfolding_all rfl))))
  k_with "MYcall" => ((with_reducible show wpAny _ _ (call (Value.builtin "iter") _ _) _ _ _); (k_here; k_dflt (refine' my_iter ?zzF ?zzN ?zzm ?_; (case zzF => k_asm); (case zzN => k_asm); (case zzm => k_mem)); intro _ _ _ _ zl; (try k_lt zl); (revert zl; intro _); (try k_sweep)))
  k_with "MY getAttr ref" => ((with_reducible show wpAny _ _ (getAttr (Value.ref _) _ _) _ _ _); (k_here; (with_reducible show wpAny _ _ (getAttr (Value.ref _) (Str.ofString "__next__") _) _ _ _); k_dflt (refine' mw_getattr ?zzF ?zzN ?zzm ?_; (case zzF => k_asm); (case zzN => k_asm); (case zzm => k_mem)); intro _ _ _ _ _ zl; (try k_lt zl); (revert zl; intro _); (try k_sweep)))
  k_with "MY truthy ref" => ((with_reducible show wpAny _ _ (truthy (Value.ref _)) _ _ _); (k_here; (with_reducible show wpAny _ _ (truthy (Value.ref _)) _ _ _); k_dflt (refine' my_truthy ?zzN ?zzm ?zzz _ ?zzb ?_; (case zzN => k_asm); (case zzm => k_mem); (case zzz => assumption); (case zzb => assumption)); intro _; (try dsimp only)))
  k_with "MY subscriptTail" => ((with_reducible show wpAny _ _ (subscriptTail _ _ (Value.ref _) _) _ _ _); ((with_reducible show wpAny _ _ (subscriptTail _ _ (Value.ref _) (Value.int (-1) _)) _ _ _); k_dflt (refine' my_last ?zzN ?zzm ?zzz ?_ ?zze; (case zzN => k_asm); (case zzm => k_mem); (case zzz => assumption); (case zze => with_unfolding_all rfl))))
  k_with "MY callWith ref" => ((with_reducible show wpAny _ _ (callWith _ (Value.ref _) _ _ []) _ _ _); (k_here; (with_reducible show wpAny _ _ (callWith _ (Value.ref _) _ (backTo _ (starEach [] _)) []) _ _ _); k_dflt (refine' callWith_W ?zzN ?zzq ?_; (case zzN => k_asm); (case zzq => k_mem)); (try dsimp only [List.nil_append])))
  k_with "MYcall" => ((with_reducible show wpAny _ _ (call (Value.builtin "list.pop") _ _) _ _ _); (k_here; k_dflt (refine' my_pop ?zzF ?zzN ?zzU ?zzz ?_; (case zzF => k_asm); (case zzN => k_asm); (case zzU => k_upd); (case zzz => omega)); intro _ _ _; (try k_sweep)))
  k_with "MY delItem ref int" => ((with_reducible show wpAny _ _ (delItem (Value.ref _) (Value.int _ _)) _ _ _); (k_here; k_dflt (refine' kob_del (knd := PySem.intKind _ _) ?zzF ?zzN ?zzU ?zzd (intKind_is _ _ _ _) ?zzl ?zzz ?_; (case zzF => k_asm); (case zzN => k_asm); (case zzU => k_updF); (case zzd => assumption); (case zzl => assumption); (case zzz => assumption)); intro _ _ _ _ _; (try dsimp only at N')))
  k_with "MY getMethod ref" => ((with_reducible show wpAny _ _ (getMethod (Value.ref _) _ _) _ _ _); (k_here; (with_reducible show wpAny _ _ (getMethod (Value.ref _) (Str.ofString "values") _) _ _ _); k_dflt (refine kdl_method (knd := PySem.intKind _ _) PySem.F.slot_dict_values PySem.F.type_dict_values (by k_asm) (by k_mem) (by assumption) ?_)))
  k_with "MYcall" => ((with_reducible show wpAny _ _ (call (Value.builtin "dict.values") _ _) _ _ _); (k_here; k_dflt (refine kdl_view_values (knd := PySem.intKind _ _) (by k_asm) (by k_asm) (by k_mem) (by assumption) (by assumption) ?_); intro _ _ _ _ zl; (try k_lt zl); (revert zl; intro _); (try k_sweep)))
  k_with "MYcall" => ((with_reducible show wpAny _ _ (call (Value.type "bool") _ _) _ _ _); (k_here; k_dflt (refine' my_bool ?zzN ?zzm ?zzz _ ?zzb ?_; (case zzN => k_asm); (case zzm => k_mem); (case zzz => assumption); (case zzb => assumption)); intro _; (try dsimp only)))
  k_with "MYcall" => ((with_reducible show wpAny _ _ (call (Value.type "tuple") _ _) _ _ _); (k_here; k_dflt (refine' my_tupleOf ?zzF ?zzN ?zzm ?zzz ?_; (case zzF => k_asm); (case zzN => k_asm); (case zzm => k_mem); (case zzz => omega)); intro _ _ _ _ zl; (revert zl; intro _); (try k_sweep)))
  k_with "MYcall" => ((with_reducible show wpAny _ _ (call (Value.builtin "list.clear") _ _) _ _ _); (k_here; k_dflt (refine' my_clear ?zzF ?zzN ?zzU ?zzz ?_; (case zzF => k_asm); (case zzN => k_asm); (case zzU => k_upd); (case zzz => omega)); intro _ _ _; (try k_sweep)))
  k_with "MY compareOp NotIn int ref" => ((with_reducible show wpAny _ _ (compareOp CmpOp.NotIn (Value.int _ _) (Value.ref _)) _ _ _); (k_here; k_dflt (refine' my_notin ?zzN ?zzm ?zzi ?_; (case zzN => k_asm); (case zzm => k_mem); (case zzi => assumption)); (try dsimp only)))
  k_with "MYcall" => ((with_reducible show wpAny _ _ (call (Value.builtin "sorted") _ _) _ _ _); (k_here; k_dflt (refine' my_sorted ?zzF ?zzN ?zzm ?zzi ?zzz ?_; (case zzF => k_asm); (case zzN => k_asm); (case zzm => k_mem); (case zzi => assumption); (case zzz => omega)); intro _ _ _ _ _ _ _ zl _ _ _; (try k_lt zl); (revert zl; intro _); (try k_sweep)))
  k_with "MY binaryOp Add ref ref" => ((with_reducible show wpAny _ _ (binaryOp Operator.Add (Value.ref _) (Value.ref _)) _ _ _); (k_here; k_dflt (refine' my_addL ?zzF ?zzN ?zzm ?zzm2 ?zzz ?_; (case zzF => k_asm); (case zzN => k_asm); (case zzm => k_mem); (case zzm2 => k_mem); (case zzz => assumption)); intro _ _ _ _ zl; (try k_lt zl); (revert zl; intro _); (try k_sweep)))
  k_with "MYcall" => ((with_reducible show wpAny _ _ (call (Value.type "list") _ _) _ _ _); (k_here; k_dflt (refine' my_copy ?zzF ?zzN ?zzm ?zzz ?_; (case zzF => k_asm); (case zzN => k_asm); (case zzm => k_mem); (case zzz => omega)); intro _ _ _ _ _ zl; (try k_lt zl); (revert zl; intro _); (try k_sweep)))
  k_with "MYcall" => ((with_reducible show wpAny _ _ (call (Value.builtin "list.pop") _ _) _ _ _); (k_here; (with_reducible show wpAny _ _ (call (Value.builtin _) [Value.ref _, Value.int _ _]) _ _ _); k_dflt (refine' my_popAt ?zzF ?zzN ?zzU ?zzi ?zzz ?_; (case zzF => k_asm); (case zzN => k_asm); (case zzU => k_upd); (case zzi => assumption); (case zzz => omega)); intro _ _ _; (try k_sweep)))
  k_with "MY compareOp NotEq ref ref" => ((with_reducible show wpAny _ _ (compareOp CmpOp.NotEq (Value.ref _) (Value.ref _)) _ _ _); (k_here; k_dflt (refine' my_ne ?zzN ?zzm ?zzm2 ?zzi ?zzj ?zzu ?_; (case zzN => k_asm); (case zzm => k_mem); (case zzm2 => k_mem); (case zzi => assumption); (case zzj => assumption); (case zzu => assumption)); (try dsimp only)))
  k_with "MINE" => ((with_reducible show wpAny _ _ (call _ _ _) _ _ _); k_extra "MYcall")
  k_with "MINE" => ((with_reducible show wpAny _ _ (subscriptTail _ _ (Value.ref _) _) _ _ _); k_extra "MY subscriptTail")
  k_with "MINE" => ((with_reducible show wpAny _ _ (eval (Expr.Name _ _) (envOf _ _ _ _ _)) _ _ _); k_extra "MY eval Name")
  k_with "MINE" => ((with_reducible show wpAny _ _ (getMethod (Value.ref _) _ _) _ _ _); k_extra "MY getMethod ref")
  k_with "MINE" => ((with_reducible show wpAny _ _ (setItem (Value.ref _) (Value.int _ _) _) _ _ _); k_extra "MY setItem ref int")
  k_with "MINE" => ((with_reducible show wpAny _ _ (eval (Expr.Call (Expr.Attribute _ _ _) _ [] _) _) _ _ _); k_extra "MY eval Call Attribute")
  k_with "MINE" => ((with_reducible show wpAny _ _ (callWith _ (Value.ref _) _ _ []) _ _ _); k_extra "MY callWith ref")
  k_with "MINE" => ((with_reducible show StarOf _ _ _ (Value.ref _) _ _); k_extra "MY StarOf ref")
  k_with "MINE" => ((with_reducible show wpAny _ _ (compareOp CmpOp.In (Value.int _ _) (Value.ref _)) _ _ _); k_extra "MY compareOp In int ref")
  k_with "MINE" => ((with_reducible show wpAny _ _ (getAttr (Value.ref _) _ _) _ _ _); k_extra "MY getAttr ref")
  k_with "MINE" => ((with_reducible show wpAny _ _ (truthy (Value.ref _)) _ _ _); k_extra "MY truthy ref")
  k_with "MINE" => ((with_reducible show wpAny _ _ (delItem (Value.ref _) (Value.int _ _)) _ _ _); k_extra "MY delItem ref int")
  k_with "MINE" => ((with_reducible show wpAny _ _ (compareOp CmpOp.NotIn (Value.int _ _) (Value.ref _)) _ _ _); k_extra "MY compareOp NotIn int ref")
  k_with "MINE" => ((with_reducible show wpAny _ _ (binaryOp Operator.Add (Value.ref _) (Value.ref _)) _ _ _); k_extra "MY binaryOp Add ref ref")
  k_with "MINE" => ((with_reducible show wpAny _ _ (compareOp CmpOp.NotEq (Value.ref _) (Value.ref _)) _ _ _); k_extra "MY compareOp NotEq ref ref")
  k_with "MINE steps" => (w_strict (repeat' (first | (k_unfold; (try dsimp only)) | ((fail_if_success (with_reducible show wpAny _ _ _ _ _ _)); refine CutG.out (by assumption) _ _ _ ?_; (try clear khb); (try clear kQb); (try clear ko); (try clear kd); (try clear kg); (try dsimp only)) | ((fail_if_success (with_reducible show wpAny _ _ _ _ _ _)); refine CutH.out (by assumption) _ _ ?_; (try clear kha); (try clear kQa)) | ((with_reducible show wpAny _ _ (execs (_ :: _) _) _ _ _); (first | (refine execs_cut1 (by assumption) ?_; intro kg kd ko _ kQb khb) | (refine execs_cut2 (by assumption) ?_; intro _) | (refine cutQ ?_; intro kQa kha))) | ((fail_if_success (with_reducible show wpAny _ _ (exec (Stmt.While _ _ _ _) _) _ _ _)); (fail_if_success (with_reducible show wpAny _ _ (eval (Expr.ListComp _ _ _ _) _) _ _ _)); (fail_if_success (with_reducible show wpAny _ _ (exec (Stmt.Try _ _ _ _ _) _) _ _ _)); (fail_if_success (with_reducible show wpAny _ _ (exec (Stmt.For _ _ _ _ _) _) _ _ _)); (first | k_extra "MINE" | walk1 | (dsimp only; walk1)))  | fail "no step")))
  k_with "MINE plain" => (w_strict (repeat' (first | (k_unfold; (try dsimp only)) | ((fail_if_success (with_reducible show wpAny _ _ _ _ _ _)); refine CutH.out (by assumption) _ _ ?_; (try clear kha); (try clear kQa)) | ((fail_if_success (with_reducible show wpAny _ _ (exec (Stmt.While _ _ _ _) _) _ _ _)); (fail_if_success (with_reducible show wpAny _ _ (eval (Expr.ListComp _ _ _ _) _) _ _ _)); (fail_if_success (with_reducible show wpAny _ _ (exec (Stmt.Try _ _ _ _ _) _) _ _ _)); (fail_if_success (with_reducible show wpAny _ _ (exec (Stmt.For _ _ _ _ _) _) _ _ _)); (first | k_extra "MINE" | walk1 | (dsimp only; walk1)))  | fail "no step")))
  k_with "MINE deeds" => (w_strict (repeat' (first | (k_unfold; (try dsimp only)) | ((fail_if_success (with_reducible show wpAny _ _ _ _ _ _)); refine CutH.out (by assumption) _ _ ?_; (try clear kha); (try clear kQa)) | ((fail_if_success (with_reducible show wpAny _ _ (exec (Stmt.While _ _ _ _) _) _ _ _)); (fail_if_success (with_reducible show wpAny _ _ (exec (Stmt.If (Expr.Compare (Expr.Name (Str.ofString "row") _) _ _ _) _ _ _) _) _ _ _)); (fail_if_success (with_reducible show wpAny _ _ (eval (Expr.ListComp _ _ _ _) _) _ _ _)); (fail_if_success (with_reducible show wpAny _ _ (exec (Stmt.Try _ _ _ _ _) _) _ _ _)); (fail_if_success (with_reducible show wpAny _ _ (exec (Stmt.For _ _ _ _ _) _) _ _ _)); (first | k_extra "MINE" | walk1 | (dsimp only; walk1)))  | fail "no step")))
  k_with "MY subscriptTail Name Slice ref ref" => ((with_reducible show wpAny _ _ (subscriptTail _ (PySem.Expr.Slice _ _ none _) (Value.ref _) (Value.ref _)) _ _ _); (k_here; (with_reducible show wpAny _ _ (subscriptTail _ (PySem.Expr.Slice _ _ none _) (Value.ref _) (Value.ref _)) _ _ _); k_dflt (refine' kmk_slice_ints ?zzF ?zzN ?zzl ?zzp ?zzq ?zzi ?zzm ?zzc ?_ ?zzs ?zzt ?zzz; (case zzF => k_asm); (case zzN => k_asm); (case zzl => exact News.isList (by k_asm) (by k_mem)); (case zzp => kmk_part); (case zzq => kmk_part); (case zzi => assumption); (case zzm => first | exact kmk_upto (by assumption) (by omega) | exact kmk_from (by assumption) (by omega)); (case zzc => kmk_len); (case zzs => with_unfolding_all rfl); (case zzt => kmk_pure); (case zzz => (rw [List.size_toArray, sizeLine_eq]; omega))); intro _ _ _ _ _ zl _ _ _; (try k_lt zl); (revert zl; intro _); (try k_sweep)))
  k_with "MINE" => ((with_reducible show wpAny _ _ (subscriptTail _ (PySem.Expr.Slice _ _ none _) (Value.ref _) (Value.ref _)) _ _ _); k_extra "MY subscriptTail Name Slice ref ref")
  k_with "MY binaryOp Add ref ref" => ((with_reducible show wpAny _ _ (binaryOp Operator.Add (Value.ref _) (Value.ref _)) _ _ _); (k_here; k_dflt (refine' kmk_add_ints ?zzF ?zzN ?zza ?zzb ?zzi ?zzj ?_ ?zzz; (case zzF => k_asm); (case zzN => k_asm); (case zza => exact News.isList (by k_asm) (by k_mem)); (case zzb => exact News.isList (by k_asm) (by k_mem)); (case zzi => first | assumption | exact IntsAre.nil); (case zzj => assumption); (case zzz => (simp only [sizeLine_eq, List.length_take, List.length_drop, List.length_nil]; omega))); intro _ _ _ _ _ zl _; (try k_lt zl); (revert zl; intro _); (try k_sweep)))
  k_with "MINE" => ((with_reducible show wpAny _ _ (binaryOp Operator.Add (Value.ref _) (Value.ref _)) _ _ _); k_extra "MY binaryOp Add ref ref")
  k_with "MYcall" => ((with_reducible show wpAny _ _ (call (Value.builtin "dict.get") _ _) _ _ _); (k_here; (with_reducible show wpAny _ _ (call (Value.builtin _) [Value.ref _, Value.int _ _, _]) _ _ _); k_dflt (first | refine kdg_get2 (knd := PySem.intKind _ _) (by k_asm) (by k_mem) (by assumption) (by assumption) (intKind_is _ _ _ _) none (by assumption) ?_ | refine kdg_get2 (knd := PySem.intKind _ _) (by k_asm) (by k_mem) (by assumption) (by assumption) (intKind_is _ _ _ _) (some _) (by assumption) ?_); (try dsimp only [Option.getD])))
  k_with "MINE" => ((with_reducible show wpAny _ _ (call (Value.builtin "dict.get") _ _) _ _ _); k_extra "MYcall")
  trivial
abbrev st0 : DSt := ⟨[], [], [], [], []⟩
theorem nd_new {a : Addr} {o : Obj} {l : List (Addr × Obj)} (nd : ND l) (h : a ∉ l.map (·.1)) : ND ((a, o) :: l) := List.nodup_cons.mpr ⟨h, nd⟩
theorem ints_split {vs : List Value} {xs : List Int} (h : IntsAre vs xs) {j : Nat} (hj : j < xs.length) : ∃ pv y tv qv, vs = pv ++ Value.int y tv :: qv ∧ pv.length = j ∧ IntsAre (pv ++ qv) (xs.take j ++ xs.drop (j + 1)) ∧ y = xs.getD j 0 := by
  induction h generalizing j with
  | nil => simp at hj
  | @cons n t vs ns h ih =>
    cases j with
    | zero => exact ⟨[], n, t, vs, rfl, rfl, h, rfl⟩
    | succ j =>
      obtain ⟨pv, y, tv, qv, rfl, e, hi, hy⟩ := ih (by simpa using hj)
      exact ⟨.int n t :: pv, y, tv, qv, rfl, by simp [e], .cons n t hi, by simpa using hy⟩
/-- the loop's own state -/
inductive DJ (w : World) (σ : Srt) (po : Int) (tp : Tok) (nf : Int) (tf : Tok) (aN : Addr × Obj) (rest : List (Addr × Obj)) (aDe aM aIn : Addr) (st : DSt) (b : Nat) (m₁ : Str → Option Value) (n₁ : List (Addr × Obj)) : Prop
  | mk (rowV : List Value) (nR : Nat) (aRow : Addr) (inV : List Value) (nI : Nat) (oM : Obj) (Ms : List MateR) (Dr : List DeedR) (nD : Nat) (oD : Obj) (G : List NodeR)
    (h0 : n₁ = (aDe, W.listOf (deV Dr).toArray nD) :: (aM, oM) :: (aIn, W.listOf inV.toArray nI) :: (aRow, W.listOf rowV.toArray nR) :: gl w σ .none po tp nf tf oD G (dtl aN Ms Dr rest)) (h1 : ND n₁) (h2 : GOK w σ oD G (dtl aN Ms Dr rest) b) (h3 : oM.IsDictOf (intKind PySem.Challenge.rw_mr0333_01.row.prog w) (kvM Ms)) (h4 : IntsAre rowV st.row) (h5 : IntsAre inV st.ins) (h6 : Ms.map MateR.abs = st.M) (h7 : (∀ r ∈ Ms, IntsAre r.vs r.xs)) (h8 : Dr.map DeedR.abs = st.Ds) (h9 : (∀ r ∈ Dr, IntsAre r.vs r.xs)) (h10 : G.map NodeR.abs = st.G) (h11 : m₁ (Str.ofString "row") = some (.ref aRow)) (h12 : m₁ (Str.ofString "inside") = some (.ref aIn)) (h13 : m₁ (Str.ofString "mates") = some (.ref aM)) (h14 : m₁ (Str.ofString "deeds") = some (.ref aDe)) (h15 : m₁ (Str.ofString "sorter") = some (.ref σ.S))
theorem dok_take {nums : List Int} (hz : nums.length ≤ 40) : ∀ i, i ≤ nums.length → DOK ((nums.take i).foldl stepD st0) i
  | 0, _ => ⟨.nil, .nil, (fun o ho => nomatch ho), .nil, Nat.le_refl _, (fun p hp => nomatch hp), Nat.le_refl _, Nat.le_refl _⟩
  | i + 1, h => by
    have hlt : i < nums.length := h
    rw [List.take_add_one, List.getElem?_eq_getElem hlt, List.foldl_append]
    exact (dok_take hz i (Nat.le_of_lt hlt)).stepD (by omega)
theorem dd_spec {w : World} {A A₀ : Around} {env : Env} {outer : List Env} {base h₀ : Heap} {L : Addr} {m mg mb : Str → Option Value} {p : Program} {loose : List Str} {mean : ExcName → Option Value} {s : Shared} {rest : List (Addr × Obj)} {R : Result → Shared → Prop}
    {σ : Srt} {po nf : Int} {tp tf : Tok} {oD : Obj} {aNum : Addr} {numV : List Value} {nums : List Int} {nN : Nat}
    (C : Cx w A A₀ env outer base h₀ L m mg mb p loose mean s.heap (gl w σ .none po tp nf tf oD [] ((aNum, W.listOf numV.toArray nN) :: rest)) 895) (g : GOK w σ oD [] ((aNum, W.listOf numV.toArray nN) :: rest) 0) (hi : IntsAre numV nums) (hz : nums.length ≤ 40) (hu : A.units + 100 < cLine)
    (hR : ∀ h' tk aP aM oM aDe nD oD' G' Ms Dr, Fr h₀ L h' m → News h₀ L h' ((aP, tupO [.ref aM, .ref aDe]) :: (aM, oM) :: (aDe, W.listOf (deV Dr).toArray nD) :: gl w σ .none po tp nf tf oD' G' (dtl (aNum, W.listOf numV.toArray nN) Ms Dr rest)) →
      ND ((aP, tupO [.ref aM, .ref aDe]) :: (aM, oM) :: (aDe, W.listOf (deV Dr).toArray nD) :: gl w σ .none po tp nf tf oD' G' (dtl (aNum, W.listOf numV.toArray nN) Ms Dr rest)) → GOK w σ oD' G' (dtl (aNum, W.listOf numV.toArray nN) Ms Dr rest) (10 * nums.length) →
      oM.IsDictOf (intKind PySem.Challenge.rw_mr0333_01.row.prog w) (kvM Ms) → (aM == sysModules) = false → Ms.map MateR.abs = (nums.foldl stepD st0).M → (∀ r ∈ Ms, IntsAre r.vs r.xs) → Dr.map DeedR.abs = (nums.foldl stepD st0).Ds → (∀ r ∈ Dr, IntsAre r.vs r.xs) → G'.map NodeR.abs = (nums.foldl stepD st0).G →
      R (.ok (.ret (.ref aP))) { s with heap := h', toks := tk }) :
    codeAny (model PySem.Challenge.rw_mr0333_01.row.prog w) A (.call (.ref 182) ⟨[.ref aNum, .ref σ.S], []⟩) R s := by
  obtain ⟨B, F, X, N, T, hA, hf, hke, hdep, hh⟩ := C
  revert X
  k_fill
  intro X
  refine' enterD (binds := [(Str.ofString "numbers", .ref aNum), (Str.ofString "sorter", .ref σ.S)]) B F X N T hA hf hke (by k_is) (by k_is) (by show A.depth < 1000; omega) (kp_binds (by k_in) (fun _ => rfl)) (locs rfl) ?_ rfl rfl rfl (by decide)
  intro g' L' h' FG' F' N' B' X' T' hA'
  have hil := hi.length
  refine cutQ ?_
  intro kQ1 kha1
  walk_at "MINE plain"
  refine For_start ?_
  walk_at "MINE plain"
  rename News _ _ _ _ => N1
  rename Fr _ _ _ _ => F1
  rename Obj.IsDictOf (intKind _ _) _ _ => hiM
  rename (_ == sysModules) = false => loM
  rename_i aRow0 x1 lA x2 x3 aIn x4 lB x5 x6 aM x7 oM0 x8 x9 x10 lC x11 aDe x12 lD x13
  clear x1 x2 x3 x4 x5 x6 x7 x8 x9 x10 x11 x12 
  have ndA : ND (gl w σ .none po tp nf tf oD [] ((aNum, W.listOf numV.toArray nN) :: rest)) := gl_nd.mpr g.gn
  have nd1 : ND ((aDe, W.listOf (deV []).toArray 0) :: (aM, oM0) :: (aIn, W.listOf ([] : List Value).toArray 0) :: (aRow0, W.listOf ([] : List Value).toArray 0) :: gl w σ .none po tp nf tf oD [] ((aNum, W.listOf numV.toArray nN) :: rest)) := nd_cons (nd_cons (nd_cons (nd_cons ndA lA) lB) lC) lD
  have hmN : ∀ (G : List NodeR) (Ms : List MateR) (Dr : List DeedR), (aNum, W.listOf numV.toArray nN) ∈ G.flatMap nseg ++ dtl (aNum, W.listOf numV.toArray nN) Ms Dr rest := fun G Ms Dr => List.mem_append_right _ (.head _)
  refine ForL.list hh F1 N1 (.tail _ (.tail _ (.tail _ (.tail _ (.tail _ (.tail _ (.tail _ (hmN _ [] []))))))) ) (fun i m₁ n₁ => DJ w σ po tp nf tf (aNum, W.listOf numV.toArray nN) rest aDe aM aIn ((nums.take i).foldl stepD st0) (10 * i) m₁ n₁) ?_ (fun _ _ => rfl) ?_ ?_
  · exact ⟨[], 0, aRow0, [], 0, oM0, [], [], 0, oD, [], rfl, nd1, g, hiM, .nil, .nil, rfl, (fun r hr => nomatch hr), rfl, (fun r hr => nomatch hr), rfl, rfl, rfl, rfl, rfl, rfl⟩
  · rintro I i x m₁ n₁ oI h tk hx ⟨rowV, nR, aRow, inV, nI, oM, Ms, Dr, nD, oD3, G3, rfl, nd, g3, hM, hrow, hin, eM, iM, eD, iD, eG, mr, mi, mm, md, ms⟩ hD hI lI F6 N7
    obtain ⟨k, t, rfl, hk'⟩ := hi.at i x hx
    have hlt : i < nums.length := (List.getElem?_eq_some_iff.mp hk').1
    have dk := dok_take hz i (Nat.le_of_lt hlt)
    have hst : (nums.take (i + 1)).foldl stepD st0 = stepD ((nums.take i).foldl stepD st0) k := by rw [List.take_add_one, hk', List.foldl_append]; rfl
    rw [hst]
    generalize (nums.take i).foldl stepD st0 = st at *
    have N8 := News.perm N7 dl_in
    have nd8 := ND.perm (nd_new (o := oI) nd hI) dl_in
    have d4 := d4_iff.mp nd8
    have q1 : (aDe : Addr) ≠ aM := d4.q1
    have q2 : (aDe : Addr) ≠ aIn := d4.q2
    have q3 : (aDe : Addr) ≠ aRow := d4.q3
    have q4 : (aM : Addr) ≠ aIn := d4.q4
    have q5 : (aM : Addr) ≠ aRow := d4.q5
    have q6 : (aIn : Addr) ≠ aRow := d4.q6
    have m1 : aDe ∉ (gl w σ .none po tp nf tf oD3 G3 ((I, oI) :: dtl (aNum, W.listOf numV.toArray nN) Ms Dr rest)).map (·.1) := d4.m1
    have m2 : aM ∉ (gl w σ .none po tp nf tf oD3 G3 ((I, oI) :: dtl (aNum, W.listOf numV.toArray nN) Ms Dr rest)).map (·.1) := d4.m2
    have m3 : aIn ∉ (gl w σ .none po tp nf tf oD3 G3 ((I, oI) :: dtl (aNum, W.listOf numV.toArray nN) Ms Dr rest)).map (·.1) := d4.m3
    have m4 : aRow ∉ (gl w σ .none po tp nf tf oD3 G3 ((I, oI) :: dtl (aNum, W.listOf numV.toArray nN) Ms Dr rest)).map (·.1) := d4.m4
    have nz := d4.nz
    have hld : (deV Dr).length ≤ 50 := by
      have h1 := congrArg List.length eD
      have h2 := dk.ld
      rw [List.length_map] at h1 ⊢
      omega
    have hli := hin.length
    have hlr := hrow.length
    have hlp := dk.pm.length_eq
    have hl1 := dk.li
    clear N7 F1 N1
    refine cutQ2 ?_
    intro kQ2 kha2
    refine' cutIn s (fun h => ∃ m₂ n₂, Fr g' L' h m₂ ∧ News g' L' h ((I, oI) :: n₂) ∧ I ∉ n₂.map (·.1) ∧ DJ w σ po tp nf tf (aNum, W.listOf numV.toArray nN) rest aDe aM aIn (stepD st k) (10 * (i + 1)) m₂ n₂) ?inn ?main
    case main =>
      intro tail
      walk_at "MINE deeds"
      · rename News _ _ _ _ => N9
        rename Fr _ _ _ _ => F9
        rename k.fdiv 4 ∈ st.ins => hin4
        rename k.fmod 4 ≠ 3 => hm4
        have e : stepD st k = st := by unfold stepD; rw [if_pos hm4, if_pos hin4]
        refine tail _ _ ⟨_, _, F9, News.perm N9 dl_in.symm, hI, ?_⟩
        rw [e]
        exact ⟨rowV, nR, aRow, inV, nI, oM, Ms, Dr, nD, oD3, G3, rfl, nd, g3.mono (by omega), hM, hrow, hin, eM, iM, eD, iD, eG, mr, mi, mm, md, ms⟩
      · rename News _ _ _ _ => N9
        rename Fr _ _ _ _ => F9
        rename ¬ k.fdiv 4 ∈ st.ins => hnin
        rename k.fmod 4 ≠ 3 => hm4
        have e : stepD st k = stepA (k.fdiv 4) st := by unfold stepD; rw [if_pos hm4, if_neg hnin]
        have ndc := List.nodup_cons.mp (ND.perm nd8 dl_comes)
        have gc := GOK.of (rv := .none) (po := po) (tp := tp) (nf := nf) (tf := tf) g3 ndc.2
        refine wpAny_call (comes_spec ⟨B', F9, X', News.perm N9 dl_comes, T', hA', rfl, rfl, by show A.depth + 1 ≤ 896; omega, hh⟩ ndc.1 gc (by omega) hrow (by omega) dk.so ?_)
        intro h2 tk2 oD4 G4 kk t2 rowV' nR' F2 N2 ha2 g4 hrow2 hkk h4 h5 eG4
        have ek := plc_uniq dk.so hkk h4 h5
        have nd2 := ND.perm (nd_new (o := W.listOf rowV'.toArray nR') (gl_nd (w := w) (rv := .none) (po := po) (nf := nf) (tp := tp) (tf := tf).mpr g4.gn) ha2) dl_comes.symm
        have N3 := News.perm N2 dl_comes.symm
        clear F9 N9 N2 N8 F6
        walk_at "MINE deeds"
        refine For_start ?_
        walk_at "MINE deeds"
        rename News _ _ _ _ => N4
        rename Fr _ _ _ _ => F4
        obtain ⟨tv, F4⟩ : ∃ tv, Fr g' L' _ (fun y => if y = Str.ofString "place" then some (Value.int kk t2) else if y = Str.ofString "value" then some (Value.int (k.fdiv 4) tv) else if y = Str.ofString "number" then some (Value.int k t) else m₁ y) := ⟨_, F4⟩
        generalize hv4 : k.fdiv 4 = v at *
        refine ForL.list hh F4 N4 (.tail _ (.tail _ (.head _))) (fun j m₂ n₂ => ∃ Ms', n₂ = (aDe, W.listOf (deV Dr).toArray nD) :: (aM, oM) :: (aIn, W.listOf inV.toArray nI) :: (aRow, W.listOf rowV'.toArray nR') :: gl w σ .none po tp nf tf oD4 G4 ((I, oI) :: dtl (aNum, W.listOf numV.toArray nN) Ms' Dr rest) ∧ ND n₂ ∧
          kvM Ms' = kvM Ms ∧ Ms'.map MateR.abs = appM (st.ins.take j) v st.M ∧ (∀ r ∈ Ms', IntsAre r.vs r.xs) ∧ m₂ (Str.ofString "row") = some (.ref aRow) ∧ m₂ (Str.ofString "inside") = some (.ref aIn) ∧ m₂ (Str.ofString "mates") = some (.ref aM) ∧ m₂ (Str.ofString "deeds") = some (.ref aDe) ∧ m₂ (Str.ofString "sorter") = some (.ref σ.S) ∧ m₂ (Str.ofString "value") = some (.int v tv) ∧ m₂ (Str.ofString "place") = some (.int kk t2)) ?_ (fun _ _ => rfl) ?_ ?_
        · exact ⟨Ms, rfl, nd2, rfl, by rw [List.take_zero, appM_nil]; exact eM, iM, mr, mi, mm, md, ms, rfl, rfl⟩
        · rintro I2 j x2 m₂ n₂ oI2 h3 tk3 hx2 ⟨Ms', rfl, nd5, ek5, eM5, iM5, mr5, mi5, mm5, md5, ms5, mv5, mp5⟩ hD2 hI2 lI2 F7 N11
          obtain ⟨o, t3, rfl, ho⟩ := hin.at j x2 hx2
          obtain ⟨r, hr, hrk⟩ := mate_of eM5 (dk.inM o (List.mem_of_getElem? ho))
          subst hrk
          obtain ⟨Ma, Mb, rfl⟩ := List.append_of_mem hr
          have hM5 : oM.IsDictOf (intKind PySem.Challenge.rw_mr0333_01.row.prog w) (kvM (Ma ++ r :: Mb)) := ek5 ▸ hM
          have hvr := valueAt_kvM_of (dict_nodup hM5) hr
          have N12 := News.perm (News.perm N11 dl_in) (dl_out mate_up)
          have nd12 := ND.perm (ND.perm (nd_new (o := oI2) nd5 hI2) dl_in) (dl_out mate_up)
          have n1 : r.addr ∉ ((aDe, W.listOf (deV Dr).toArray nD) :: (aM, oM) :: (aIn, W.listOf inV.toArray nI) :: (aRow, W.listOf rowV'.toArray nR') :: gl w σ .none po tp nf tf oD4 G4 ((I2, oI2) :: (I, oI) :: dtl (aNum, W.listOf numV.toArray nN) (Ma ++ Mb) Dr rest)).map (·.1) := (List.nodup_cons.mp nd12).1
          have hrl : r.vs.length ≤ 9000 := by
            have h1 := appM_len (ins := st.ins.take j) (v := v) dk.lM r.abs (eM5 ▸ List.mem_map_of_mem hr)
            have h2 : r.abs.2.length = r.vs.length := (iM5 r hr).length.symm
            omega
          clear N11 N4 F4 m1 m2 m3 m4 q1 q2 q3 q4 q5 q6 nz d4
          refine cutQ2 ?_
          intro kQ3 kha3
          walk_at "MINE deeds"
          rename News _ _ _ _ => N13
          rename Fr _ _ _ _ => F13
          rw [List.push_toArray] at N13
          have N14 := News.perm N13 ((dl_out (mate_up (r := ⟨r.key, r.addr, r.vs ++ [.int v tv], r.xs ++ [v], r.n + 1⟩))).symm.trans dl_in.symm)
          have nd13 : ND (mseg ⟨r.key, r.addr, r.vs ++ [.int v tv], r.xs ++ [v], r.n + 1⟩ :: (aDe, W.listOf (deV Dr).toArray nD) :: (aM, oM) :: (aIn, W.listOf inV.toArray nI) :: (aRow, W.listOf rowV'.toArray nR') :: gl w σ .none po tp nf tf oD4 G4 ((I2, oI2) :: (I, oI) :: dtl (aNum, W.listOf numV.toArray nN) (Ma ++ Mb) Dr rest)) := nd12
          have nd14a := ND.perm nd13 ((dl_out (mate_up (r := ⟨r.key, r.addr, r.vs ++ [.int v tv], r.xs ++ [v], r.n + 1⟩))).symm.trans dl_in.symm)
          have nd14 := List.nodup_cons.mp nd14a
          refine ⟨_, _, _, _, rfl, F13, N14, ?_, nd14.1, Ma ++ ⟨r.key, r.addr, r.vs ++ [.int v tv], r.xs ++ [v], r.n + 1⟩ :: Mb, rfl, nd14.2, (by rw [← ek5]; exact kvM_set rfl rfl), ?_, ?_, mr5, mi5, mm5, md5, ms5, mv5, mp5⟩
          · intro z hz
            rw [List.mem_singleton.mp hz]
            exact .tail _ (.tail _ (.head _))
          · rw [appM_step (ins_nodup dk) ho, ← eM5]
            exact abs_setM _ (dict_nodup hM5) (fun p hp => if_neg hp) (by show _ = if r.key = r.key then _ else _; rw [if_pos rfl]; rfl)
          · intro q hq
            rcases List.mem_append.mp hq with hq | hq
            · exact iM5 q (List.mem_append_left _ hq)
            · rcases List.mem_cons.mp hq with rfl | hq
              · exact IntsAre.append (iM5 r hr) (.cons _ _ .nil)
              · exact iM5 q (List.mem_append_right _ (.tail _ hq))
        · rintro m' n₂ h3 tk3 F7 N11 hD2 ⟨Ms1, rfl, nd5, ek5, eM5, iM5, mr5, mi5, mm5, md5, ms5, mv5, mp5⟩
          rw [hin.length, List.take_length] at eM5
          have hM1 : oM.IsDictOf (intKind PySem.Challenge.rw_mr0333_01.row.prog w) (kvM Ms1) := ek5 ▸ hM
          have hkl : (kvM Ms1).length ≤ sizeLine := by
            have h1 := congrArg List.length (appM_keys (ins := st.ins) (v := v) (M := st.M))
            have h2 := congrArg List.length eM5
            have h3 := dk.lk
            rw [List.length_map] at h1 h2
            rw [List.length_map] at h1
            rw [sizeLine_eq, List.length_map]
            omega
          have d5 := d4_iff.mp nd5
          have p1 : (aDe : Addr) ≠ aM := d5.q1
          have p2 : (aDe : Addr) ≠ aIn := d5.q2
          have p3 : (aDe : Addr) ≠ aRow := d5.q3
          have p4 : (aM : Addr) ≠ aIn := d5.q4
          have p5 : (aM : Addr) ≠ aRow := d5.q5
          have p6 : (aIn : Addr) ≠ aRow := d5.q6
          have s1 := d5.m1
          have s2 := d5.m2
          have s3 := d5.m3
          have s4 := d5.m4
          have hrl2 := hrow2.length
          have hrl3 : (List.take kk st.row ++ v :: List.drop kk st.row).length = st.row.length + 1 := by simp; omega
          dsimp only at s1 s2 s3 s4
          have mN4 : (st.ins ++ [v]).length = st.ins.length + 1 := by simp
          clear N4 F4 m1 m2 m3 m4 q1 q2 q3 q4 q5 q6 nz d4 d5
          rcases hvv : valueAt (kvM Ms1) v with _ | x
          · walk_at "MINE deeds"
            rename_i aE _ lE aS wsS _ hIS lS _ oM2 hd2 _ _ _ aL cL _ lL aT _ lT _ F9 N9
            have ed : deV Dr ++ [Value.ref aT] = deV (Dr ++ [⟨aT, aL, v, tv, kk, t2, rowV', List.take kk st.row ++ v :: List.drop kk st.row, cL⟩]) := by simp [deV]
            rw [List.push_toArray, List.push_toArray, ed] at N9
            have nd9 : ND ((aT, tupO [.int v tv, .int kk t2, .ref aL]) :: (aL, W.listOf rowV'.toArray cL) :: (aS, W.listOf wsS.toArray 0) :: (aE, W.listOf ([] : List Value).toArray 0) :: (aDe, W.listOf (deV (Dr ++ [⟨aT, aL, v, tv, kk, t2, rowV', List.take kk st.row ++ v :: List.drop kk st.row, cL⟩])).toArray (nD + 1)) :: (aM, oM2) :: (aIn, W.listOf (inV ++ [Value.int v tv]).toArray (nI + 1)) :: (aRow, W.listOf rowV'.toArray nR') :: gl w σ .none po tp nf tf oD4 G4 ((I, oI) :: dtl (aNum, W.listOf numV.toArray nN) Ms1 Dr rest)) := nd_cons (nd_cons (nd_cons (nd_cons nd5 lE) lS) lL) lT
            have hnone := valueAt_kvM_none.mp hvv
            have N10 := News.perm (News.drop4 N9) (a_new (dr := ⟨aT, aL, v, tv, kk, t2, rowV', List.take kk st.row ++ v :: List.drop kk st.row, cL⟩) (r := ⟨v, aS, wsS, [] ++ st.ins, 0⟩))
            have nd10 := ND.perm (ND.drop4 nd9) (a_new (dr := ⟨aT, aL, v, tv, kk, t2, rowV', List.take kk st.row ++ v :: List.drop kk st.row, cL⟩) (r := ⟨v, aS, wsS, [] ++ st.ins, 0⟩))
            have nd11 := List.nodup_cons.mp nd10
            refine tail _ _ ⟨_, _, F9, N10, nd11.1, ?_⟩
            rw [e]
            refine ⟨rowV', nR', aRow, inV ++ [.int v tv], nI + 1, oM2, _, _, nD + 1, oD4, G4, rfl, nd11.2, (GOK.of (rv := .none) (po := po) (tp := tp) (nf := nf) (tf := tf) g4 (d4_iff.mp nd11.2).nz).mono (by omega), ?_, ?_, IntsAre.append hin (.cons _ _ .nil), ?_, ?_, ?_, ?_, ?_, mr5, mi5, mm5, md5, ms5⟩
            · rw [← stored_kvM_new (r := ⟨v, aS, wsS, [] ++ st.ins, 0⟩) hnone]; exact hd2
            · show IntsAre rowV' (List.take (plc st.row v) st.row ++ v :: List.drop (plc st.row v) st.row)
              rw [← ek]; exact hrow2
            · rw [setM_new (r := ⟨v, aS, wsS, [] ++ st.ins, 0⟩) hnone]
              show setM v ([] ++ st.ins) _ = setM v (getM v st.M ++ st.ins) (appM st.ins v st.M)
              rw [← getM_appM hnin, ← eM5, getM_none hnone]
            · intro q hq
              rcases List.mem_append.mp hq with hq | hq
              · exact iM5 q hq
              · rw [List.mem_singleton.mp hq]; exact hIS
            · show _ = st.Ds ++ [(v, plc st.row v, List.take (plc st.row v) st.row ++ v :: List.drop (plc st.row v) st.row)]
              rw [← ek, List.map_append, eD]; rfl
            · intro q hq
              rcases List.mem_append.mp hq with hq | hq
              · exact iD q hq
              · rw [List.mem_singleton.mp hq]; exact hrow2
            · show _ = addsAbove v ((st.row.drop (plc st.row v)).take 1) (addsBelow v (lastOf (st.row.take (plc st.row v))) st.G)
              rw [eG4, ← ek, eG]
          · obtain ⟨r, hr, hrk, rfl⟩ := valueAt_kvM_some hvv
            obtain ⟨Ma, Mb, rfl⟩ := List.append_of_mem hr
            have hrl : r.xs.length ≤ 9000 := by
              have h1 := appM_len (ins := st.ins) (v := v) dk.lM r.abs (eM5 ▸ List.mem_map_of_mem hr)
              have h2 : r.abs.2.length = r.xs.length := rfl
              omega
            have hrx := iM5 r hr
            have hmr : (r.addr, W.listOf r.vs.toArray r.n) ∈ G4.flatMap nseg ++ (I, oI) :: dtl (aNum, W.listOf numV.toArray nN) (Ma ++ r :: Mb) Dr rest := List.mem_append_right _ (.tail _ (mate_perm.mem_iff.mpr (.head _)))
            subst hrk
            walk_at "MINE deeds"
            rename_i aE _ lE aS wsS _ hIS lS _ oM2 hd2 _ _ _ aL cL _ lL aT _ lT _ F9 N9
            have ed : deV Dr ++ [Value.ref aT] = deV (Dr ++ [⟨aT, aL, r.key, tv, kk, t2, rowV', List.take kk st.row ++ r.key :: List.drop kk st.row, cL⟩]) := by simp [deV]
            rw [List.push_toArray, List.push_toArray, ed] at N9
            have nd9 : ND ((aT, tupO [.int r.key tv, .int kk t2, .ref aL]) :: (aL, W.listOf rowV'.toArray cL) :: (aS, W.listOf wsS.toArray 0) :: (aE, W.listOf ([] : List Value).toArray 0) :: (aDe, W.listOf (deV (Dr ++ [⟨aT, aL, r.key, tv, kk, t2, rowV', List.take kk st.row ++ r.key :: List.drop kk st.row, cL⟩])).toArray (nD + 1)) :: (aM, oM2) :: (aIn, W.listOf (inV ++ [Value.int r.key tv]).toArray (nI + 1)) :: (aRow, W.listOf rowV'.toArray nR') :: gl w σ .none po tp nf tf oD4 G4 ((I, oI) :: dtl (aNum, W.listOf numV.toArray nN) (Ma ++ r :: Mb) Dr rest)) := nd_cons (nd_cons (nd_cons (nd_cons nd5 lE) lS) lL) lT
            have N10 := News.sub (News.perm (News.drop4 N9) (a_old (dr := ⟨aT, aL, r.key, tv, kk, t2, rowV', List.take kk st.row ++ r.key :: List.drop kk st.row, cL⟩) (r := r) (r2 := ⟨r.key, aS, wsS, r.xs ++ st.ins, 0⟩))) (fun q hq => .tail _ hq)
            have nd10a := ND.perm (ND.drop4 nd9) (a_old (dr := ⟨aT, aL, r.key, tv, kk, t2, rowV', List.take kk st.row ++ r.key :: List.drop kk st.row, cL⟩) (r := r) (r2 := ⟨r.key, aS, wsS, r.xs ++ st.ins, 0⟩))
            have nd10 := (List.nodup_cons.mp nd10a).2
            have nd11 := List.nodup_cons.mp nd10
            have hnk := dict_nodup hM1
            refine tail _ _ ⟨_, _, F9, N10, nd11.1, ?_⟩
            rw [e]
            refine ⟨rowV', nR', aRow, inV ++ [.int r.key tv], nI + 1, oM2, _, _, nD + 1, oD4, G4, rfl, nd11.2, (GOK.of (rv := .none) (po := po) (tp := tp) (nf := nf) (tf := tf) g4 (d4_iff.mp nd11.2).nz).mono (by omega), ?_, ?_, IntsAre.append hin (.cons _ _ .nil), ?_, ?_, ?_, ?_, ?_, mr5, mi5, mm5, md5, ms5⟩
            · rw [← stored_kvM_old (r' := ⟨r.key, aS, wsS, r.xs ++ st.ins, 0⟩) hnk rfl]; exact hd2
            · show IntsAre rowV' (List.take (plc st.row r.key) st.row ++ r.key :: List.drop (plc st.row r.key) st.row)
              rw [← ek]; exact hrow2
            · rw [setM_old (r := r) (r' := ⟨r.key, aS, wsS, r.xs ++ st.ins, 0⟩) hnk rfl]
              show setM r.key (r.xs ++ st.ins) _ = setM r.key (getM r.key st.M ++ st.ins) (appM st.ins r.key st.M)
              rw [← getM_appM hnin, ← eM5, getM_mate hnk]
            · intro q hq
              rcases List.mem_append.mp hq with hq | hq
              · exact iM5 q (List.mem_append_left _ hq)
              · rcases List.mem_cons.mp hq with rfl | hq
                · exact hIS
                · exact iM5 q (List.mem_append_right _ (.tail _ hq))
            · show _ = st.Ds ++ [(r.key, plc st.row r.key, List.take (plc st.row r.key) st.row ++ r.key :: List.drop (plc st.row r.key) st.row)]
              rw [← ek, List.map_append, eD]; rfl
            · intro q hq
              rcases List.mem_append.mp hq with hq | hq
              · exact iD q hq
              · rw [List.mem_singleton.mp hq]; exact hrow2
            · show _ = addsAbove r.key ((st.row.drop (plc st.row r.key)).take 1) (addsBelow r.key (lastOf (st.row.take (plc st.row r.key))) st.G)
              rw [eG4, ← ek, eG]
      · rename 0 < st.ins.length => hpos
        rename k.fmod 4 = 3 => hm4
        have hj := modlen (k := k.fdiv 4) hpos
        have hj0 := modlen0 (k := k.fdiv 4) hpos
        have e : stepD st k = stepB ((k.fdiv 4).fmod (st.ins.length : Int)).toNat st := by unfold stepD; rw [if_neg (by omega), if_neg (fun e => by rw [e] at hpos; cases hpos)]
        obtain ⟨pv, y, tv, qv, rfl, hpl, hiq, hyv⟩ := ints_split hin hj
        have hidx : (k.fdiv 4).fmod (st.ins.length : Int) = pv.length := by rw [hpl]; omega
        have hidx2 : (k.fdiv 4).fmod ((pv ++ Value.int y tv :: qv).length : Int) = pv.length := by rw [hin.length]; exact hidx
        generalize hjj : ((k.fdiv 4).fmod (st.ins.length : Int)).toNat = j at *
        walk_at "MINE deeds"
        rename News _ _ _ _ => N9
        rename Fr _ _ _ _ => F9
        refine wpAny_call (bl_spec ⟨B', F9, X', N9, T', hA', rfl, rfl, by show A.depth + 1 ≤ 900; omega, hh⟩ (.tail _ (.tail _ (.tail _ (.head _)))) hrow (by omega) dk.so (.inl rfl) ?_)
        intro h2 tk2 t2 kk F2 N2 hkk h4 h5
        have ek := plc_uniq dk.so hkk h4 h5
        have hrk : kk ≤ rowV.length := by omega
        clear F9 N9
        walk_at "MINE deeds"
        rename_i aL cL _ lL aT _ lT _ aU wsU _ hIU _ _ lU aV wsV _ hIV _ _ lV aW wsW _ hIW lW _ F9 N9
        have ed : deV Dr ++ [Value.ref aT] = deV (Dr ++ [⟨aT, aL, y, tv, kk, t2, rowV, st.row, cL⟩]) := by simp [deV]
        rw [List.push_toArray, ed] at N9
        have nd9 : ND ((aW, W.listOf wsW.toArray 0) :: (aV, W.listOf wsV.toArray 0) :: (aU, W.listOf wsU.toArray 0) :: (aT, tupO [.int y tv, .int kk t2, .ref aL]) :: (aL, W.listOf rowV.toArray cL) :: (aDe, W.listOf (deV (Dr ++ [⟨aT, aL, y, tv, kk, t2, rowV, st.row, cL⟩])).toArray (nD + 1)) :: (aM, oM) :: (aIn, W.listOf (pv ++ qv).toArray (nI + 1)) :: (aRow, W.listOf rowV.toArray nR) :: gl w σ .none po tp nf tf oD3 G3 ((I, oI) :: dtl (aNum, W.listOf numV.toArray nN) Ms Dr rest)) := nd_cons (nd_cons (nd_cons (nd_cons (nd_cons nd8 lL) lT) lU) lV) lW
        have N10 := News.sub (News.perm N9 (b_new (dr := ⟨aT, aL, y, tv, kk, t2, rowV, st.row, cL⟩))) (fun q hq => .tail _ (.tail _ (.tail _ hq)))
        have nd10a := ND.perm nd9 (b_new (dr := ⟨aT, aL, y, tv, kk, t2, rowV, st.row, cL⟩))
        have nd10 := ND.tail3 nd10a
        have nd11 := List.nodup_cons.mp nd10
        refine tail _ _ ⟨_, _, F9, N10, nd11.1, ?_⟩
        rw [e]
        refine ⟨wsW, 0, aW, pv ++ qv, nI + 1, oM, _, _, nD + 1, oD3, G3, rfl, nd11.2, (GOK.of (rv := .none) (po := po) (tp := tp) (nf := nf) (tf := tf) g3 (d4_iff.mp nd11.2).nz).mono (by omega), hM, ?_, hiq, eM, iM, ?_, ?_, eG, rfl, mi, mm, md, ms⟩
        · show IntsAre wsW (List.take (plc st.row (st.ins.getD j 0)) st.row ++ List.drop (plc st.row (st.ins.getD j 0) + 1) st.row)
          rw [← hyv, ← ek]
          rw [Int.toNat_natCast, show ((kk : Int) + 1).toNat = kk + 1 by omega] at hIW
          exact hIW
        · show _ = st.Ds ++ [(st.ins.getD j 0, plc st.row (st.ins.getD j 0), st.row)]
          rw [← hyv, ← ek, List.map_append, eD]; rfl
        · intro q hq
          rcases List.mem_append.mp hq with hq | hq
          · exact iD q hq
          · rw [List.mem_singleton.mp hq]; exact hrow
      · rename News _ _ _ _ => N9
        rename Fr _ _ _ _ => F9
        rename ¬ 0 < st.ins.length => hpos
        rename k.fmod 4 = 3 => hm4
        have e : stepD st k = st := by unfold stepD; rw [if_neg (by omega), if_pos (List.eq_nil_of_length_eq_zero (by omega))]
        refine tail _ _ ⟨_, _, F9, News.perm N9 dl_in.symm, hI, ?_⟩
        rw [e]
        exact ⟨rowV, nR, aRow, inV, nI, oM, Ms, Dr, nD, oD3, G3, rfl, nd, g3.mono (by omega), hM, hrow, hin, eM, iM, eD, iD, eG, mr, mi, mm, md, ms⟩
    case inn =>
      clear N8 F6
      rintro h2 tk2 ⟨m₂, n₂, F7, N9, hI2, rowV2, nR2, aRow2, inV2, nI2, oM2, Ms2, Dr2, nD2, oD4, G4, rfl, nd2, g4, hM2, hrow2, hin2, eM2, iM2, eD2, iD2, eG2, mr2, mi2, mm2, md2, ms2⟩
      have dk2 := dk.stepD (k := k) (by omega)
      have hl2 := hin2.length
      have hl3 := dk2.li
      clear mr mi mm md ms hM hrow hin eM iM eD iD eG g3 hld d4 nd8 m1 m2 m3 m4 nz q1 q2 q3 q4 q5 q6 nd
      walk_at "MINE plain"
      · rename News _ _ _ _ => N10
        rename Fr _ _ _ _ => F10
        refine ⟨_, _, _, _, rfl, F10, News.sub N10 (fun z hz => .tail _ hz), ?_, hI2, rowV2, nR2, aRow2, inV2, nI2, oM2, Ms2, Dr2, nD2, oD4, G4, rfl, nd2, g4, hM2, hrow2, hin2, eM2, iM2, eD2, iD2, eG2, mr2, mi2, mm2, md2, ms2⟩
        intro z hz
        rw [List.mem_singleton.mp hz]
        exact .tail _ (.tail _ (.tail _ (.tail _ (.tail _ (.tail _ (.tail _ (hmN _ _ _)))))))
      · rename List.Perm _ _ => hp
        rename List.Pairwise _ _ => ho
        rename ¬ _ = _ => hne
        exact absurd (sorted_uniq (dk2.pm.trans hp.symm) dk2.so ho) hne
  · rintro m' n₁ h tk F6 N7 hD ⟨rowV, nR, aRow, inV, nI, oM, Ms, Dr, nD, oD3, G3, rfl, nd, g3, hM, hrow, hin, eM, iM, eD, iD, eG, mr, mi, mm, md, ms⟩
    rw [hil, List.take_length] at eM eD eG
    clear F1 N1
    walk_at "MINE deeds"
    rename_i aP _ _ _ l1 F9 N9 _ _
    rw [hil] at g3
    have nd2 := ND.perm (nd_cons (o := tupO [.ref aM, .ref aDe]) nd l1) (pm5 _ _ _ _ _ _)
    have nd3 := (List.nodup_cons.mp (List.nodup_cons.mp nd2).2).2
    exact hR _ _ aP aM oM aDe nD oD3 G3 Ms Dr F9 (News.sub (News.perm N9 (pm5 _ _ _ _ _ _)) (fun q hq => .tail _ (.tail _ hq))) nd3 g3 hM loM eM iM eD iD eG


end Mine
-- P15
namespace Mine
open PySem PySem.W PyProof.Rows
example : True := by
  k_with_none
  k_with "MYcall" => ((with_reducible show wpAny _ _ (call (Value.builtin "len") _ _) _ _ _); (refine' my_len ?zzk1 ?zzk2 ?zzk3 ?_; (case zzk1 => k_asm); (case zzk2 => k_mem); (case zzk3 => omega); intro _ _))
  k_with "MY subscriptTail" => ((with_reducible show wpAny _ _ (subscriptTail _ _ (Value.ref _) _) _ _ _); ((with_reducible show wpAny _ _ (subscriptTail _ _ (Value.ref _) (Value.int _ _)) _ _ _); with_unfolding_all refine' my_item ?zzk1 ?zzk2 ?zzk3 ?zzk4 ?zzk5 ?zzk6 ?_ ?zzk7; (case zzk1 => k_asm); (case zzk2 => k_mem); (case zzk3 => assumption); (case zzk4 => omega); (case zzk5 => omega); (case zzk6 => omega); (case zzk7 => with_unfolding_all rfl);  intro _))
  k_with "MY eval Name" => ((with_reducible show wpAny _ _ (eval (Expr.Name _ _) (envOf _ _ _ _ _)) _ _ _); (k_here; k_dflt (refine' ld ?zzk1 ?zzk2 ?_; (case zzk1 => k_asm); (case zzk2 => assumption); k_whole)))
  k_with "MYcall" => ((with_reducible show wpAny _ _ (call (Value.builtin "list.insert") _ _) _ _ _); (k_here; k_dflt (refine' my_insert ?zzF ?zzN ?zzU ?zzhk ?zzz ?_; (case zzF => k_asm); (case zzN => k_asm); (case zzU => k_upd); (case zzhk => omega); (case zzz => omega); k_whole); intro _ _ _; (try k_sweep)))
  k_with "MYcall" => ((with_reducible show wpAny _ _ (call (Value.builtin "dict.get") _ _) _ _ _); (k_here; k_dflt (first | refine kdg_get1 (knd := PySem.intKind _ _) (by k_asm) (by k_mem) (by assumption) (by assumption) (intKind_is _ _ _ _) none (by assumption) ?_ | refine kdg_get1 (knd := PySem.intKind _ _) (by k_asm) (by k_mem) (by assumption) (by assumption) (intKind_is _ _ _ _) (some _) (by assumption) ?_); (try dsimp only [Option.getD])))
  k_with "MY getMethod ref" => ((with_reducible show wpAny _ _ (getMethod (Value.ref _) _ _) _ _ _); (k_here; (with_reducible show wpAny _ _ (getMethod (Value.ref _) (Str.ofString "get") _) _ _ _); k_dflt (refine kdg_method (knd := PySem.intKind _ _) (by k_asm) (by k_mem) (by assumption) ?_)))
  k_with "MY setItem ref int" => ((with_reducible show wpAny _ _ (setItem (Value.ref _) (Value.int _ _) _) _ _ _); (k_here; k_dflt (refine' kda_set (knd := PySem.intKind _ _) ?zzF ?zzN ?zzU ?zzd (intKind_is _ _ _ _) ?zzz ?_; (case zzF => k_asm); (case zzN => k_asm); (case zzU => k_updF); (case zzd => assumption); (case zzz => assumption)); intro _ _ _ _ _; (try dsimp only at N'); (try k_sweep)))
  k_with "MYcall" => ((with_reducible show wpAny _ _ (call (Value.builtin "len") _ _) _ _ _); (refine' my_lenT ?zzk1 ?zzk2 ?zzk3 ?_; (case zzk1 => k_asm); (case zzk2 => k_mem); (case zzk3 => omega); intro _ _))
  k_with "MY eval Call Attribute" => ((with_reducible show wpAny _ _ (eval (Expr.Call (Expr.Attribute _ _ _) _ [] _) _) _ _ _); (k_here; (with_reducible show wpAny _ _ (eval (Expr.Call (Expr.Attribute _ _ _) _ [] _) _) _ _ _); ks_star; refine star_method ?_))
  k_with "MY callWith ref" => ((with_reducible show wpAny _ _ (callWith _ (Value.ref _) _ _ []) _ _ _); (k_here; (with_reducible show wpAny _ _ (callWith _ (Value.ref _) _ (backTo _ (starEach [Expr.Starred _ _] _)) []) _ _ _); k_dflt (refine' callWith_MS ?zzX ?zzN ?zzq ?zzk2 ?_; (case zzX => k_asm); (case zzN => k_asm); (case zzq => k_mem); (case zzk2 => k_is); k_whole)))
  k_with "MY callWith ref" => ((with_reducible show wpAny _ _ (callWith _ (Value.ref _) _ _ []) _ _ _); (k_here; (with_reducible show wpAny _ _ (callWith _ (Value.ref _) _ (backTo _ (starEach (_ :: _ :: _) _)) []) _ _ _); ks_star; k_dflt (refine' callWith_MS2 ?zzX ?zzN ?zzq ?zzk2 ?_; (case zzX => k_asm); (case zzN => k_asm); (case zzq => k_mem); (case zzk2 => k_is); k_whole)))
  k_with "MY StarOf ref" => ((with_reducible show StarOf _ _ _ (Value.ref _) _ _); (k_here; k_dflt (first | (refine' my_star ?zzF ?zzN ?zzm ?zzi ?zzz ?_; (case zzF => k_asm); (case zzN => k_asm); (case zzm => k_mem); (case zzi => assumption); (case zzz => omega); k_whole) | (refine' my_starT ?zzF ?zzN ?zzm ?zzi ?zzz ?_; (case zzF => k_asm); (case zzN => k_asm); (case zzm => k_mem); (case zzi => assumption); (case zzz => omega); k_whole)); intro _ _ _; (try k_sweep); (try dsimp only [List.nil_append, List.cons_append])))
  k_with "MY compareOp In int ref" => ((with_reducible show wpAny _ _ (compareOp CmpOp.In (Value.int _ _) (Value.ref _)) _ _ _); (k_here; k_dflt (first | (refine' kse_in (knd := PySem.intKind _ _) ?zzN ?zzU ?zzd ?zzz (intKind_is _ _ _ _) rfl ?_; (case zzN => k_asm); (case zzU => k_updF); (case zzd => assumption); (case zzz => (show _ < 4096; omega))) | (refine' kda_in (knd := PySem.intKind _ _) ?zzN ?zzm ?zzd ?zzlo (intKind_is _ _ _ _) false ?zzb ?_; (case zzN => k_asm); (case zzm => k_mem); (case zzd => assumption); (case zzlo => assumption); (case zzb => assumption))); (try dsimp only)))
  k_with "MY getMethod ref" => ((with_reducible show wpAny _ _ (getMethod (Value.ref _) _ _) _ _ _); (k_here; (with_reducible show wpAny _ _ (getMethod (Value.ref _) (Str.ofString "add") _) _ _ _); k_dflt (refine' kse_method (knd := PySem.intKind _ _) ?zzN ?zzU ?zzd ?zzz ?_; (case zzN => k_asm); (case zzU => k_updF); (case zzd => assumption); (case zzz => (show _ < 4096; omega)))))
  k_with "MYcall" => ((with_reducible show wpAny _ _ (call (Value.builtin "set.add") _ _) _ _ _); (k_here; k_dflt (refine' kse_add (knd := PySem.intKind _ _) ?zzF ?zzN ?zzU ?zzd ?zzz (intKind_is _ _ _ _) rfl ?_; (case zzF => k_asm); (case zzN => k_asm); (case zzU => k_updF); (case zzd => assumption); (case zzz => (show _ < 4096; omega))); intro _ _ _ _ _; (try dsimp only at N'); (try k_sweep)))
  k_with "MY subscriptTail" => ((with_reducible show wpAny _ _ (subscriptTail _ _ (Value.ref _) _) _ _ _); ((with_reducible show wpAny _ _ (subscriptTail _ _ (Value.ref _) (Value.int _ _)) _ _ _); with_unfolding_all refine' kda_item (knd := PySem.intKind _ _) ?zzk1 ?zzk2 ?zzk3 (intKind_is _ _ _ _) ?zzk4 ?_ ?zzk7 ?zzk8; (case zzk1 => k_asm); (case zzk2 => k_mem); (case zzk3 => assumption); (case zzk4 => assumption); (case zzk7 => with_unfolding_all rfl); (case zzk8 => (intro _; with_unfolding_all rfl))))
  k_with "MYcall" => ((with_reducible show wpAny _ _ (call (Value.builtin "iter") _ _) _ _ _); (k_here; k_dflt (refine' my_iter ?zzF ?zzN ?zzm ?_; (case zzF => k_asm); (case zzN => k_asm); (case zzm => k_mem)); intro _ _ _ _ zl; (try k_lt zl); (revert zl; intro _); (try k_sweep)))
  k_with "MY getAttr ref" => ((with_reducible show wpAny _ _ (getAttr (Value.ref _) _ _) _ _ _); (k_here; (with_reducible show wpAny _ _ (getAttr (Value.ref _) (Str.ofString "__next__") _) _ _ _); k_dflt (refine' mw_getattr ?zzF ?zzN ?zzm ?_; (case zzF => k_asm); (case zzN => k_asm); (case zzm => k_mem)); intro _ _ _ _ _ zl; (try k_lt zl); (revert zl; intro _); (try k_sweep)))
  k_with "MY truthy ref" => ((with_reducible show wpAny _ _ (truthy (Value.ref _)) _ _ _); (k_here; (with_reducible show wpAny _ _ (truthy (Value.ref _)) _ _ _); k_dflt (refine' my_truthy ?zzN ?zzm ?zzz _ ?zzb ?_; (case zzN => k_asm); (case zzm => k_mem); (case zzz => assumption); (case zzb => assumption)); intro _; (try dsimp only)))
  k_with "MY subscriptTail" => ((with_reducible show wpAny _ _ (subscriptTail _ _ (Value.ref _) _) _ _ _); ((with_reducible show wpAny _ _ (subscriptTail _ _ (Value.ref _) (Value.int (-1) _)) _ _ _); k_dflt (refine' my_last ?zzN ?zzm ?zzz ?_ ?zze; (case zzN => k_asm); (case zzm => k_mem); (case zzz => assumption); (case zze => with_unfolding_all rfl))))
  k_with "MY callWith ref" => ((with_reducible show wpAny _ _ (callWith _ (Value.ref _) _ _ []) _ _ _); (k_here; (with_reducible show wpAny _ _ (callWith _ (Value.ref _) _ (backTo _ (starEach [] _)) []) _ _ _); k_dflt (refine' callWith_W ?zzN ?zzq ?_; (case zzN => k_asm); (case zzq => k_mem)); (try dsimp only [List.nil_append])))
  k_with "MYcall" => ((with_reducible show wpAny _ _ (call (Value.builtin "list.pop") _ _) _ _ _); (k_here; k_dflt (refine' my_pop ?zzF ?zzN ?zzU ?zzz ?_; (case zzF => k_asm); (case zzN => k_asm); (case zzU => k_upd); (case zzz => omega)); intro _ _ _; (try k_sweep)))
  k_with "MY delItem ref int" => ((with_reducible show wpAny _ _ (delItem (Value.ref _) (Value.int _ _)) _ _ _); (k_here; k_dflt (refine' kob_del (knd := PySem.intKind _ _) ?zzF ?zzN ?zzU ?zzd (intKind_is _ _ _ _) ?zzl ?zzz ?_; (case zzF => k_asm); (case zzN => k_asm); (case zzU => k_updF); (case zzd => assumption); (case zzl => assumption); (case zzz => assumption)); intro _ _ _ _ _; (try dsimp only at N')))
  k_with "MY getMethod ref" => ((with_reducible show wpAny _ _ (getMethod (Value.ref _) _ _) _ _ _); (k_here; (with_reducible show wpAny _ _ (getMethod (Value.ref _) (Str.ofString "values") _) _ _ _); k_dflt (refine kdl_method (knd := PySem.intKind _ _) PySem.F.slot_dict_values PySem.F.type_dict_values (by k_asm) (by k_mem) (by assumption) ?_)))
  k_with "MYcall" => ((with_reducible show wpAny _ _ (call (Value.builtin "dict.values") _ _) _ _ _); (k_here; k_dflt (refine kdl_view_values (knd := PySem.intKind _ _) (by k_asm) (by k_asm) (by k_mem) (by assumption) (by assumption) ?_); intro _ _ _ _ zl; (try k_lt zl); (revert zl; intro _); (try k_sweep)))
  k_with "MYcall" => ((with_reducible show wpAny _ _ (call (Value.type "bool") _ _) _ _ _); (k_here; k_dflt (refine' my_bool ?zzN ?zzm ?zzz _ ?zzb ?_; (case zzN => k_asm); (case zzm => k_mem); (case zzz => assumption); (case zzb => assumption)); intro _; (try dsimp only)))
  k_with "MYcall" => ((with_reducible show wpAny _ _ (call (Value.type "tuple") _ _) _ _ _); (k_here; k_dflt (refine' my_tupleOf ?zzF ?zzN ?zzm ?zzz ?_; (case zzF => k_asm); (case zzN => k_asm); (case zzm => k_mem); (case zzz => omega)); intro _ _ _ _ zl; (revert zl; intro _); (try k_sweep)))
  k_with "MYcall" => ((with_reducible show wpAny _ _ (call (Value.builtin "list.clear") _ _) _ _ _); (k_here; k_dflt (refine' my_clear ?zzF ?zzN ?zzU ?zzz ?_; (case zzF => k_asm); (case zzN => k_asm); (case zzU => k_upd); (case zzz => omega)); intro _ _ _; (try k_sweep)))
  k_with "MY compareOp NotIn int ref" => ((with_reducible show wpAny _ _ (compareOp CmpOp.NotIn (Value.int _ _) (Value.ref _)) _ _ _); (k_here; k_dflt (refine' my_notin ?zzN ?zzm ?zzi ?_; (case zzN => k_asm); (case zzm => k_mem); (case zzi => assumption)); (try dsimp only)))
  k_with "MYcall" => ((with_reducible show wpAny _ _ (call (Value.builtin "sorted") _ _) _ _ _); (k_here; k_dflt (refine' my_sorted ?zzF ?zzN ?zzm ?zzi ?zzz ?_; (case zzF => k_asm); (case zzN => k_asm); (case zzm => k_mem); (case zzi => assumption); (case zzz => omega)); intro _ _ _ _ _ _ _ zl _ _ _; (try k_lt zl); (revert zl; intro _); (try k_sweep)))
  k_with "MY binaryOp Add ref ref" => ((with_reducible show wpAny _ _ (binaryOp Operator.Add (Value.ref _) (Value.ref _)) _ _ _); (k_here; k_dflt (refine' my_addL ?zzF ?zzN ?zzm ?zzm2 ?zzz ?_; (case zzF => k_asm); (case zzN => k_asm); (case zzm => k_mem); (case zzm2 => k_mem); (case zzz => assumption)); intro _ _ _ _ zl; (try k_lt zl); (revert zl; intro _); (try k_sweep)))
  k_with "MYcall" => ((with_reducible show wpAny _ _ (call (Value.type "list") _ _) _ _ _); (k_here; k_dflt (refine' my_copy ?zzF ?zzN ?zzm ?zzz ?_; (case zzF => k_asm); (case zzN => k_asm); (case zzm => k_mem); (case zzz => omega)); intro _ _ _ _ _ zl; (try k_lt zl); (revert zl; intro _); (try k_sweep)))
  k_with "MYcall" => ((with_reducible show wpAny _ _ (call (Value.builtin "list.pop") _ _) _ _ _); (k_here; (with_reducible show wpAny _ _ (call (Value.builtin _) [Value.ref _, Value.int _ _]) _ _ _); k_dflt (refine' my_popAt ?zzF ?zzN ?zzU ?zzi ?zzz ?_; (case zzF => k_asm); (case zzN => k_asm); (case zzU => k_upd); (case zzi => assumption); (case zzz => omega)); intro _ _ _; (try k_sweep)))
  k_with "MY compareOp NotEq ref ref" => ((with_reducible show wpAny _ _ (compareOp CmpOp.NotEq (Value.ref _) (Value.ref _)) _ _ _); (k_here; k_dflt (refine' my_ne ?zzN ?zzm ?zzm2 ?zzi ?zzj ?zzu ?_; (case zzN => k_asm); (case zzm => k_mem); (case zzm2 => k_mem); (case zzi => assumption); (case zzj => assumption); (case zzu => assumption)); (try dsimp only)))
  k_with "MINE" => ((with_reducible show wpAny _ _ (call _ _ _) _ _ _); k_extra "MYcall")
  k_with "MINE" => ((with_reducible show wpAny _ _ (subscriptTail _ _ (Value.ref _) _) _ _ _); k_extra "MY subscriptTail")
  k_with "MINE" => ((with_reducible show wpAny _ _ (eval (Expr.Name _ _) (envOf _ _ _ _ _)) _ _ _); k_extra "MY eval Name")
  k_with "MINE" => ((with_reducible show wpAny _ _ (getMethod (Value.ref _) _ _) _ _ _); k_extra "MY getMethod ref")
  k_with "MINE" => ((with_reducible show wpAny _ _ (setItem (Value.ref _) (Value.int _ _) _) _ _ _); k_extra "MY setItem ref int")
  k_with "MINE" => ((with_reducible show wpAny _ _ (eval (Expr.Call (Expr.Attribute _ _ _) _ [] _) _) _ _ _); k_extra "MY eval Call Attribute")
  k_with "MINE" => ((with_reducible show wpAny _ _ (callWith _ (Value.ref _) _ _ []) _ _ _); k_extra "MY callWith ref")
  k_with "MINE" => ((with_reducible show StarOf _ _ _ (Value.ref _) _ _); k_extra "MY StarOf ref")
  k_with "MINE" => ((with_reducible show wpAny _ _ (compareOp CmpOp.In (Value.int _ _) (Value.ref _)) _ _ _); k_extra "MY compareOp In int ref")
  k_with "MINE" => ((with_reducible show wpAny _ _ (getAttr (Value.ref _) _ _) _ _ _); k_extra "MY getAttr ref")
  k_with "MINE" => ((with_reducible show wpAny _ _ (truthy (Value.ref _)) _ _ _); k_extra "MY truthy ref")
  k_with "MINE" => ((with_reducible show wpAny _ _ (delItem (Value.ref _) (Value.int _ _)) _ _ _); k_extra "MY delItem ref int")
  k_with "MINE" => ((with_reducible show wpAny _ _ (compareOp CmpOp.NotIn (Value.int _ _) (Value.ref _)) _ _ _); k_extra "MY compareOp NotIn int ref")
  k_with "MINE" => ((with_reducible show wpAny _ _ (binaryOp Operator.Add (Value.ref _) (Value.ref _)) _ _ _); k_extra "MY binaryOp Add ref ref")
  k_with "MINE" => ((with_reducible show wpAny _ _ (compareOp CmpOp.NotEq (Value.ref _) (Value.ref _)) _ _ _); k_extra "MY compareOp NotEq ref ref")
  k_with "MINE steps" => (w_strict (repeat' (first | (k_unfold; (try dsimp only)) | ((fail_if_success (with_reducible show wpAny _ _ _ _ _ _)); refine CutG.out (by assumption) _ _ _ ?_; (try clear khb); (try clear kQb); (try clear ko); (try clear kd); (try clear kg); (try dsimp only)) | ((fail_if_success (with_reducible show wpAny _ _ _ _ _ _)); refine CutH.out (by assumption) _ _ ?_; (try clear kha); (try clear kQa)) | ((with_reducible show wpAny _ _ (execs (_ :: _) _) _ _ _); (first | (refine execs_cut1 (by assumption) ?_; intro kg kd ko _ kQb khb) | (refine execs_cut2 (by assumption) ?_; intro _) | (refine cutQ ?_; intro kQa kha))) | ((fail_if_success (with_reducible show wpAny _ _ (exec (Stmt.While _ _ _ _) _) _ _ _)); (fail_if_success (with_reducible show wpAny _ _ (eval (Expr.ListComp _ _ _ _) _) _ _ _)); (fail_if_success (with_reducible show wpAny _ _ (exec (Stmt.Try _ _ _ _ _) _) _ _ _)); (fail_if_success (with_reducible show wpAny _ _ (exec (Stmt.For _ _ _ _ _) _) _ _ _)); (first | k_extra "MINE" | walk1 | (dsimp only; walk1)))  | fail "no step")))
  k_with "MINE plain" => (w_strict (repeat' (first | (k_unfold; (try dsimp only)) | ((fail_if_success (with_reducible show wpAny _ _ _ _ _ _)); refine CutH.out (by assumption) _ _ ?_; (try clear kha); (try clear kQa)) | ((fail_if_success (with_reducible show wpAny _ _ (exec (Stmt.While _ _ _ _) _) _ _ _)); (fail_if_success (with_reducible show wpAny _ _ (eval (Expr.ListComp _ _ _ _) _) _ _ _)); (fail_if_success (with_reducible show wpAny _ _ (exec (Stmt.Try _ _ _ _ _) _) _ _ _)); (fail_if_success (with_reducible show wpAny _ _ (exec (Stmt.For _ _ _ _ _) _) _ _ _)); (first | k_extra "MINE" | walk1 | (dsimp only; walk1)))  | fail "no step")))
  k_with "MINE cells" => ((walk_at "MINE steps"; all_goals (first | (with_reducible exact (Str.ofString "")) | (with_reducible exact (0 : Addr)) | (with_reducible exact Value.none) | skip)))
  k_with "MINE" => ((with_reducible show wpAny _ _ (eval (Expr.Name _ _) _) _ _ _); (k_here; (with_reducible show wpAny _ _ (eval (Expr.Name _ _) (envOfC _ _ _ _ _)) _ _ _); k_dflt (first
  | (refine' nameX_L ?zzF ?zzv ?_ ?zza ?zzb; (case zzF => k_asm); (case zza => rfl); (case zzb => rfl); (case zzv => first | assumption | exact rfl); k_whole)
  | (refine' nameX_C ?zzN ?zzc ?zzm ?zzd ?_ ?zza ?zzb; (case zza => rfl); (case zzb => rfl); (case zzN => k_asm); (case zzc => rfl); (case zzm => k_mem); (case zzd => k_asm); k_whole)
  | (refine' nameX_K ?zzF ?zzX ?zzT ?zze ?_ ?zza ?zzb; (case zzF => k_asm); (case zzX => k_asm); (case zzT => k_asm); (case zza => rfl); (case zzb => rfl); (case zze => k_is); k_whole)
  | (refine' nameX_B ?zzF ?zzX ?zzT ?zze ?zzv ?zzn ?_ ?zza ?zzb; (case zzF => k_asm); (case zzX => k_asm); (case zzT => k_asm); (case zza => rfl); (case zzb => rfl); (case zze => k_is); (case zzv => boot_fast); (case zzn => decide); k_whole))))
  k_with "MINE" => ((with_reducible show wpAny _ _ (eval (Expr.Name _ _) _) _ _ _); (k_here; (with_reducible show wpAny _ _ (eval (Expr.Name _ _) (compEnvC _ _ _ _)) _ _ _); k_dflt (first
  | refine LCgL.ld_own (by k_asm) (by k_mem) (by assumption) (by assumption) ?_
  | (refine' lcf_cell ?zzN ?zzc ?zzm ?zzd ?_ ?zza ?zzb; (case zza => rfl); (case zzb => rfl); (case zzN => k_asm); (case zzc => rfl); (case zzm => k_mem); (case zzd => k_asm); k_whole)
  | (refine' lcf_free ?zzN ?zzc ?zzm ?zzd ?_ ?zza ?zzb; (case zza => rfl); (case zzb => rfl); (case zzN => k_asm); (case zzc => rfl); (case zzm => k_mem); (case zzd => k_asm); k_whole)
  | refine LCgL.ld_built (by k_asm) (by k_asm) (by k_asm) (by k_is) (by boot_by_name) (by decide) ?_)))
  k_with "MINE cellsP" => ((walk_at "MINE plain"; all_goals (first | (with_reducible exact (Str.ofString "")) | (with_reducible exact (0 : Addr)) | (with_reducible exact Value.none) | skip)))
  k_with "MY binaryOp Add ref ref" => ((with_reducible show wpAny _ _ (binaryOp Operator.Add (Value.ref _) (Value.ref _)) _ _ _); (k_here; k_dflt (refine' kmk_add_ints ?zzF ?zzN ?zza ?zzb ?zzi ?zzj ?_ ?zzz; (case zzF => k_asm); (case zzN => k_asm); (case zza => exact News.isList (by k_asm) (by k_mem)); (case zzb => exact News.isList (by k_asm) (by k_mem)); (case zzi => first | assumption | exact IntsAre.nil); (case zzj => first | assumption | exact IntsAre.cons _ _ IntsAre.nil); (case zzz => (simp only [sizeLine_eq, List.length_take, List.length_drop, List.length_nil, List.length_cons]; omega))); intro _ _ _ _ _ zl _; (try k_lt zl); (revert zl; intro _); (try k_sweep)))
  k_with "MINE" => ((with_reducible show wpAny _ _ (binaryOp Operator.Add (Value.ref _) (Value.ref _)) _ _ _); k_extra "MY binaryOp Add ref ref")
  k_with "MYcall" => ((with_reducible show wpAny _ _ (call (Value.builtin "max") _ _) _ _ _); (k_here; k_dflt (refine' kso_max ?zzF ?zzN ?zzl ?zzi ?zzn ?zzh ?_; (case zzF => k_asm); (case zzN => k_asm); (case zzl => exact News.isList (by k_asm) (by k_mem)); (case zzi => assumption); (case zzn => (simp only [List.length_append, List.length_cons]; omega)); (case zzh => assumption)); intro _ _ _ _ _ _ _ _; (try k_sweep)))
  k_with "MINE" => ((with_reducible show wpAny _ _ (call (Value.builtin "max") _ _) _ _ _); k_extra "MYcall")
  trivial
abbrev kvI (S : List (Int × Int × Tok)) : List (Int × Value) := S.map fun p => (p.1, Value.int p.2.1 p.2.2)
/-- what each number's steps are, by those that were with it -/
def SOK (Ms : List MateR) (S : List (Int × Int × Tok)) : Prop := ∀ p ∈ S, ∀ r ∈ Ms, r.key = p.1 → (∀ o ∈ r.xs, o < p.1 → ∃ q ∈ S, q.1 = o ∧ q.2.1 + 1 ≤ p.2.1) ∧ 0 ≤ p.2.1 ∧ (p.2.1 = 0 ∨ ∃ o ∈ r.xs, o < p.1 ∧ ∃ q ∈ S, q.1 = o ∧ p.2.1 = q.2.1 + 1)
def stp (S : List (Int × Int × Tok)) (v : Int) : Int := ((S.find? fun p => decide (p.1 = v)).map (·.2.1)).getD 0
theorem kvI_find {S : List (Int × Int × Tok)} {v : Int} (h : v ∈ S.map (·.1)) : ∃ q ∈ S, q.1 = v ∧ stp S v = q.2.1 ∧ valueAt (kvI S) v = some (.int (stp S v) q.2.2) := by
  induction S with
  | nil => cases h
  | cons q S ih =>
    by_cases e : q.1 = v
    · refine ⟨q, .head _, e, ?_, ?_⟩
      · unfold stp; simp [e]
      · unfold valueAt stp; simp [e]
    · have h' : v ∈ S.map (·.1) := by
        rcases List.mem_cons.mp h with h | h
        · exact absurd h.symm e
        · exact h
      obtain ⟨q', hq, e1, e2, e3⟩ := ih h'
      have e4 : stp (q :: S) v = stp S v := by unfold stp; simp [e]
      refine ⟨q', .tail _ hq, e1, e4.trans e2, ?_⟩
      rw [e4, ← e3]
      unfold valueAt; simp [e]
theorem stored_kvI_new {S : List (Int × Int × Tok)} {v n : Int} {t : Tok} (h : v ∉ S.map (·.1)) : stored (kvI S) v (.int n t) = kvI (S ++ [(v, n, t)]) := by
  unfold stored
  rw [if_neg]
  · simp [kvI]
  · intro q
    simp only [kvI, List.any_map, List.any_eq_true, Function.comp] at q
    obtain ⟨p, hp, e⟩ := q
    exact h (List.mem_map.mpr ⟨p, hp, of_decide_eq_true e⟩)
theorem sok_add {Ms : List MateR} {S : List (Int × Int × Tok)} {r : MateR} {n : Int} {t : Tok} (sok : SOK Ms S) (hr : ∀ q ∈ Ms, q.key = r.key → q = r) (hin : ∀ o ∈ r.xs, o < r.key → o ∈ S.map (·.1))
    (hm : n ∈ ((r.xs.filter fun o => decide (o < r.key)).map fun o => stp S o + 1) ++ [0]) (hle : ∀ a, a ∈ ((r.xs.filter fun o => decide (o < r.key)).map fun o => stp S o + 1) ++ [0] → a ≤ n) : SOK Ms (S ++ [(r.key, n, t)]) := by
  intro p hp q hq e
  rcases List.mem_append.mp hp with hp | hp
  · obtain ⟨h1, h2, h3⟩ := sok p hp q hq e
    refine ⟨fun o ho hlt => ?_, h2, ?_⟩
    · obtain ⟨z, hz, a, b⟩ := h1 o ho hlt; exact ⟨z, List.mem_append_left _ hz, a, b⟩
    · rcases h3 with h3 | ⟨o, ho, hlt, z, hz, a, b⟩
      · exact .inl h3
      · exact .inr ⟨o, ho, hlt, z, List.mem_append_left _ hz, a, b⟩
  · rw [List.mem_singleton.mp hp] at e ⊢
    have := hr q hq e
    subst this
    refine ⟨fun o ho hlt => ?_, ?_, ?_⟩
    · obtain ⟨z, hz, a, b, _⟩ := kvI_find (hin o ho hlt)
      refine ⟨z, List.mem_append_left _ hz, a, ?_⟩
      rw [← b]
      exact hle _ (List.mem_append_left _ (List.mem_map.mpr ⟨o, List.mem_filter.mpr ⟨ho, decide_eq_true hlt⟩, rfl⟩))
    · exact hle 0 (List.mem_append_right _ (.head _))
    · rcases List.mem_append.mp hm with hm | hm
      · obtain ⟨o, ho, e⟩ := List.mem_map.mp hm
        obtain ⟨ho1, ho2⟩ := List.mem_filter.mp ho
        obtain ⟨z, hz, a, b, _⟩ := kvI_find (hin o ho1 (of_decide_eq_true ho2))
        exact .inr ⟨o, ho1, of_decide_eq_true ho2, z, List.mem_append_left _ hz, a, by rw [← b]; exact e.symm⟩
      · exact .inl (List.mem_singleton.mp hm)
theorem flt_in {xs : List Int} {i : Nat} {o b : Int} {f : Int → Int} (h : xs[i]? = some o) (h0 : o < b) : ((xs.take (i + 1)).filter fun o => decide (o < b)).map f = ((xs.take i).filter fun o => decide (o < b)).map f ++ [f o] := by
  rw [List.take_add_one, h]; simp [h0]
theorem flt_out {xs : List Int} {i : Nat} {o b : Int} {f : Int → Int} (h : xs[i]? = some o) (h0 : ¬ o < b) : ((xs.take (i + 1)).filter fun o => decide (o < b)).map f = ((xs.take i).filter fun o => decide (o < b)).map f := by
  rw [List.take_add_one, h]; simp [h0]
theorem ch_spec {w : World} {A A₀ : Around} {env : Env} {outer : List Env} {base h₀ : Heap} {L : Addr} {m mg mb : Str → Option Value} {p : Program} {loose : List Str} {mean : ExcName → Option Value} {s : Shared} {news : List (Addr × Obj)} {R : Result → Shared → Prop}
    {aM : Addr} {oM : Obj} {Ms : List MateR}
    (C : Cx w A A₀ env outer base h₀ L m mg mb p loose mean s.heap news 895) (hm : (aM, oM) ∈ news) (hM : oM.IsDictOf (intKind PySem.Challenge.rw_mr0333_01.row.prog w) (kvM Ms)) (lo : (aM == sysModules) = false) (hms : ∀ r ∈ Ms, mseg r ∈ news) (hi : ∀ r ∈ Ms, IntsAre r.vs r.xs) (hlen : Ms.length ≤ 40) (hlx : ∀ r ∈ Ms, r.xs.length ≤ 5000)
    (closed : ∀ r ∈ Ms, ∀ o ∈ r.xs, ∃ q ∈ Ms, q.key = o)
    (hR : ∀ h' tk aS oS S, Fr h₀ L h' m → News h₀ L h' ((aS, oS) :: news) → (∀ p ∈ news, p.1 < aS) → (aS == sysModules) = false → oS.IsDictOf (intKind PySem.Challenge.rw_mr0333_01.row.prog w) (kvI S) → (S.map (·.1)).Perm (Ms.map MateR.key) → SOK Ms S → R (.ok (.ret (.ref aS))) { s with heap := h', toks := tk }) :
    codeAny (model PySem.Challenge.rw_mr0333_01.row.prog w) A (.call (.ref 187) ⟨[.ref aM], []⟩) R s := by
  obtain ⟨B, F, X, N, T, hA, hf, hke, hdep, hh⟩ := C
  revert X
  k_fill
  intro X
  refine' enterC (binds := [(Str.ofString "mates", .ref aM)]) B F X N T hA hf hke (by k_is) (by k_is) (by show A.depth < 1000; omega) (kp_binds (by k_in) (fun _ => rfl)) rfl (by decide +kernel) ?_ rfl rfl rfl
  intro g' L' h' tk' cells FG' F' N' Y' B' X' T' lL hA'
  obtain ⟨oV, oS, rfl, hV, hS⟩ := CellsAre.two Y'
  replace N' : News g' L' h' ((L' + 1 + 1, oV) :: (L' + 1, oS) :: news) := N'
  replace F' : Fr g' L' h' (fun y => if y = Str.ofString "mates" then some (.ref aM) else none) := F'
  replace hV : oV.data = .cell none := hV
  replace hS : oS.data = .cell none := hS
  have lc1 : ∀ p ∈ news, p.1 < L' + 1 := fun p hp => Nat.lt_succ_of_lt (lL p hp)
  have lc2 : ∀ p ∈ news, p.1 < L' + 1 + 1 := fun p hp => Nat.lt_succ_of_lt (lc1 p hp)
  clear Y'
  walk_at "MINE plain"
  refine For_start ?_
  walk_at "MINE plain"
  rename_i aSt _ oSt0 loS _ _ hiS _ l1 _ oS2 F1 N1 hS2
  refine my_sortedD hh F1 N1 (by k_mem) hM lo (by rw [List.length_map]; omega) ?_
  intro aK ksV ns cK h2 tk2 F2 N2 lK hks hperm hsort
  have hkeys : ns.Perm (Ms.map MateR.key) := by
    have e : (kvM Ms).map (·.1) = Ms.map MateR.key := by unfold kvM; rw [List.map_map]; rfl
    rw [← e]; exact hperm
  have hnd : (Ms.map MateR.key).Nodup := by
    have e : (kvM Ms).map (·.1) = Ms.map MateR.key := by unfold kvM; rw [List.map_map]; rfl
    rw [← e]; exact dict_nodup hM
  have hnn : ns.Nodup := hkeys.nodup_iff.mpr hnd
  have hnl : ns.length ≤ 40 := by rw [hkeys.length_eq, List.length_map]; exact hlen
  have k1 := ltN (lK _ (.head _))
  have k2 := ltN l1.1
  have k3 := ltN l1.2.1
  have lc3 : ∀ p ∈ news, p.1 < aSt := fun p hp => kst_ltOf l1.2.2 p hp
  have lc4 : ∀ p ∈ news, p.1 < aK := fun p hp => lK p (.tail _ (.tail _ (.tail _ hp)))
  refine ForL.list hh F2 N2 (.head _) (fun j m₁ n₁ => ∃ oV oSt S vo, n₁ = (aK, W.listOf ksV.toArray cK) :: (aSt, oSt) :: (L' + 1 + 1, oV) :: (L' + 1, oS2) :: news ∧ oSt.IsDictOf (intKind PySem.Challenge.rw_mr0333_01.row.prog w) (kvI S) ∧ S.map (·.1) = ns.take j ∧ SOK Ms S ∧ oV.data = .cell vo ∧ m₁ (Str.ofString "mates") = some (.ref aM)) ?_ (fun _ _ => rfl) ?_ ?_
  · exact ⟨oV, oSt0, [], none, rfl, hiS, rfl, (fun p hp => nomatch hp), hV, rfl⟩
  · rintro I j x m₁ n₁ oI h tk hx ⟨oV3, oSt3, S, vo, rfl, hSt, eS, sok, hVd, mm⟩ hD hI lI F6 N7
    obtain ⟨v, t, rfl, hv⟩ := hks.at j x hx
    obtain ⟨r, hr, rfl⟩ := List.mem_map.mp (hkeys.mem_iff.mp (List.mem_of_getElem? hv))
    have hvr := valueAt_kvM_of (dict_nodup hM) hr
    have hrm := hms r hr
    have hri := hi r hr
    have hrx := hlx r hr
    have hrl := hri.length
    simp only [List.map_cons, List.mem_cons, not_or] at hI
    have z1 : @Ne Nat I aK := hI.1
    have z2 : @Ne Nat I aSt := hI.2.1
    have z3 : @Ne Nat I (L' + 1 + 1) := hI.2.2.1
    have z4 : @Ne Nat I (L' + 1) := hI.2.2.2.1
    have z5 : I ∉ news.map (·.1) := hI.2.2.2.2
    have hlt : j < ns.length := (List.getElem?_eq_some_iff.mp hv).1
    clear F2 N2 N1 F1
    have hno : r.key ∉ S.map (·.1) := by
      rw [eS]
      intro q
      have h2 : (ns.take (j + 1)).Nodup := hnn.sublist (List.take_sublist _ _)
      rw [List.take_add_one, hv] at h2
      exact (List.nodup_append.mp h2).2.2 r.key q r.key (by simp) rfl
    have hbel : ∀ o ∈ r.xs, o < r.key → o ∈ S.map (·.1) := by
      intro o ho hlo
      obtain ⟨q, hq, rfl⟩ := closed r hr o ho
      have hqn : q.key ∈ ns := hkeys.mem_iff.mpr (List.mem_map_of_mem hq)
      obtain ⟨i, hil, e⟩ := List.mem_iff_getElem.mp hqn
      rw [eS]
      refine List.mem_take_iff_getElem.mpr ⟨i, ?_, e⟩
      have hjn : ns[j] = r.key := (List.getElem?_eq_some_iff.mp hv).2
      rcases Nat.lt_or_ge i j with h | h
      · omega
      · rcases Nat.eq_or_lt_of_le h with h | h
        · subst h; omega
        · have := List.pairwise_iff_getElem.mp hsort j i hlt hil h
          omega
    have hsl : (kvI S).length ≤ sizeLine := by
      have := congrArg List.length eS
      rw [List.length_map, List.length_take] at this
      rw [sizeLine_eq, List.length_map]; omega
    walk_at "MINE cellsP"
    rename_i oV4 F8 N8 hV4
    refine Lc_start (cl := [(Str.ofString "value", L' + 1 + 1), (Str.ofString "steps", L' + 1)]) rfl rfl (by decide) ?_
    walk_at "MINE cellsP"
    refine LcL.list (fun i ys => IntsAre ys (((r.xs.take i).filter (fun o => decide (o < r.key))).map (fun o => stp S o + 1))) hh F8 N8 (by k_mem) (by rw [sizeLine_eq]; omega) (by decide) rfl rfl .nil ?turn ?fin
    case turn =>
      rintro g i v I2 oI2 C oC D ys m₂ h2 tk2 E' hx2 hJ hC hxv F N
      obtain ⟨o, t3, rfl, ho⟩ := hri.at i v hx2
      clear F8 N8
      have hom := List.mem_of_getElem? ho
      by_cases hlo : o < r.key
      · obtain ⟨q, hq, q1, q2, q3⟩ := kvI_find (hbel o hom hlo)
        walk_at "MINE cellsP"
        refine ⟨_, _, rfl, F, N, ?_⟩
        dsimp only
        rw [flt_in (f := fun o => stp S o + 1) ho hlo]
        exact IntsAre.append hJ (.cons _ _ .nil)
      · walk_at "MINE cellsP"
        refine ⟨_, _, rfl, F, N, ?_⟩
        dsimp only
        rw [flt_out (f := fun o => stp S o + 1) ho hlo]
        exact hJ
    case fin =>
      intro gx ys hJ aR h2 tk2 F2 N2 haR
      rw [hrl, List.take_length] at hJ
      have hzl : ((r.xs.filter fun o => decide (o < r.key)).map fun o => stp S o + 1).length ≤ 5000 := by rw [List.length_map]; exact Nat.le_trans (List.length_filter_le ..) hrx
      have hsa := fun n t => sok_add (n := n) (t := t) sok (fun q hq e => by
        obtain ⟨a, ha, rfl⟩ := List.mem_iff_getElem.mp hq
        obtain ⟨b, hb, rfl⟩ := List.mem_iff_getElem.mp hr
        have : a = b := (List.getElem_inj (h₀ := by simpa using ha) (h₁ := by simpa using hb) hnd).mp (by simpa using e)
        subst this; rfl) hbel
      generalize ((r.xs.filter fun o => decide (o < r.key)).map fun o => stp S o + 1) = zs at *
      simp only [List.map_cons, List.mem_cons, not_or] at haR
      have y1 : @Ne Nat aR I := haR.1
      have y2 : @Ne Nat aR aK := haR.2.1
      have y3 : @Ne Nat aR aSt := haR.2.2.1
      clear F8 N8
      walk_at "MINE cellsP"
      rename_i _ _ _ _ _ _ _ _ _ M' t' _ hmem hle _ o' F9 N9 hd9
      refine ⟨_, _, _, _, rfl, F9, News.sub N9 (fun q hq => .tail _ (.tail _ (.tail _ hq))), ?_, ?_, oV4, o', S ++ [(r.key, M', t')], _, rfl, ?_, ?_, hsa M' t' hmem hle, hV4, mm⟩
      · intro z hz
        rw [List.mem_singleton.mp hz]
        exact .head _
      · simp only [List.map_cons, List.mem_cons, not_or]
        exact hI
      · rw [← stored_kvI_new hno]; exact hd9
      · rw [List.map_append, eS, List.take_add_one, hv]; rfl
  · rintro m' n₁ h tk F6 N7 hD ⟨oV3, oSt3, S, vo, rfl, hSt, eS, sok, hVd, mm⟩
    rw [hks.length, List.take_length] at eS
    clear F2 N2 N1 F1
    walk_at "MINE cellsP"
    rename_i F9 N9 _ _
    refine hR _ _ aSt oSt3 S F9 (News.sub N9 ?_) lc3 loS hSt ?_ sok
    · intro q hq
      rcases List.mem_cons.mp hq with rfl | hq
      · exact .tail _ (.head _)
      · exact .tail _ (.tail _ (.tail _ (.tail _ hq)))
    · rw [eS]; exact hkeys

end Mine
-- K0
namespace Mine
open PySem PySem.W PyProof.Rows
/-- the sorter's turns in plain numbers: the nodes, the ready ones -/
def rdy (AG : List ANode) : List Int := (AG.filter fun a => decide (a.np = 0)).map (·.key)
def outN (r : List Int) (AG : List ANode) : List ANode := r.foldl (fun a u => setNp u (-1) a) AG
def turnN (st : List ANode × List Int) : List ANode × List Int := st.2.foldl doneN (outN st.2 st.1, [])
def stN (AG : List ANode) : Nat → List ANode × List Int
  | 0 => (AG, rdy AG)
  | t + 1 => turnN (stN AG t)
structure KOK (AG : List ANode) (f : Int → Int) (n : Nat) : Prop where
  lay : ∀ t, t ≤ n → (stN AG t).2.Perm ((AG.map (·.key)).filter fun v => decide (f v = t))
  ne : ∀ t, t ≤ n → (stN AG t).2 ≠ []
  fin : (stN AG (n + 1)).2 = []
  out : ∀ t, t ≤ n → ∀ (i : Nat) (u : Int), (stN AG t).2[i]? = some u → ∀ a ∈ (((stN AG t).2.take i).foldl doneN (outN (stN AG t).2 (stN AG t).1, [])).1, a.key = u → a.np = -1
/-- a node's key and successors -/
abbrev shp (AG : List ANode) : List (Int × List Int) := AG.map fun a => (a.key, a.ss)
theorem shp_setNp (u k : Int) (G : List ANode) : shp (setNp u k G) = shp G := by
  unfold shp setNp
  rw [List.map_map]
  refine List.map_congr_left fun r _ => ?_
  simp only [Function.comp]
  split <;> rfl
theorem shp_addNp (u k : Int) (G : List ANode) : shp (addNp u k G) = shp G := by
  unfold shp addNp
  rw [List.map_map]
  refine List.map_congr_left fun r _ => ?_
  simp only [Function.comp]
  split <;> rfl
theorem shp_rel (xs : List Int) (st : List ANode × List Int) : shp (xs.foldl relN st).1 = shp st.1 := by
  induction xs generalizing st with
  | nil => rfl
  | cons x xs ih => rw [List.foldl_cons, ih]; exact shp_addNp x (-1) st.1
theorem shp_done (u : Int) (st : List ANode × List Int) : shp (doneN st u).1 = shp st.1 := by
  unfold doneN
  rw [shp_rel]; exact shp_setNp u (-2) st.1
theorem shp_dones (xs : List Int) (st : List ANode × List Int) : shp (xs.foldl doneN st).1 = shp st.1 := by
  induction xs generalizing st with
  | nil => rfl
  | cons x xs ih => rw [List.foldl_cons, ih]; exact shp_done x st
theorem shp_out (xs : List Int) (G : List ANode) : shp (outN xs G) = shp G := by
  unfold outN
  induction xs generalizing G with
  | nil => rfl
  | cons x xs ih => rw [List.foldl_cons, ih]; exact shp_setNp x (-1) G
theorem shp_st (AG : List ANode) : ∀ t, shp (stN AG t).1 = shp AG
  | 0 => rfl
  | t + 1 => by
    show shp (turnN (stN AG t)).1 = _
    unfold turnN
    rw [shp_dones, shp_out, shp_st AG t]
theorem keys_of_shp {G G' : List ANode} (h : shp G = shp G') : G.map (·.key) = G'.map (·.key) := by
  have := congrArg (List.map (·.1)) h
  unfold shp at this
  rw [List.map_map, List.map_map] at this
  exact this
theorem rdy_ints (G : List NodeR) : IntsAre (rdyV G) (rdy (G.map NodeR.abs)) := by
  unfold rdyV rdy
  induction G with
  | nil => exact .nil
  | cons r G ih =>
    by_cases h : r.np = 0
    · simp only [List.map_cons, List.filter_cons, h, decide_true, if_true, NodeR.abs]
      exact .cons _ _ ih
    · have h' : ¬ r.abs.np = 0 := h
      simp only [List.map_cons, List.filter_cons, h, h', decide_false, Bool.false_eq_true, if_false]
      exact ih
/-- what the walk asks of the nodes at a turn -/
theorem key_at {G : List NodeR} {AG : List ANode} (h : shp (G.map NodeR.abs) = shp AG) {u : Int} (hu : u ∈ AG.map (·.key)) : ∃ q ∈ G, q.key = u := by
  rw [← keys_of_shp h, List.map_map] at hu
  obtain ⟨q, hq, e⟩ := List.mem_map.mp hu
  exact ⟨q, hq, e⟩
theorem succ_at {G : List NodeR} {AG : List ANode} (h : shp (G.map NodeR.abs) = shp AG) (hc : ∀ a ∈ AG, ∀ v ∈ a.ss, v ∈ AG.map (·.key)) : ∀ r ∈ G, ∀ v ∈ r.ss, ∃ q ∈ G, q.key = v := by
  intro r hr v hv
  have h1 : (r.key, r.ss) ∈ shp (G.map NodeR.abs) := List.mem_map.mpr ⟨r.abs, List.mem_map_of_mem hr, rfl⟩
  rw [h] at h1
  obtain ⟨a, ha, e⟩ := List.mem_map.mp h1
  have e2 : a.ss = r.ss := congrArg Prod.snd e
  exact key_at h (hc a ha v (e2 ▸ hv))
end Mine
-- P16
namespace Mine
open PySem PySem.W PyProof.Rows
example : True := by
  k_with_none
  k_with "MYcall" => ((with_reducible show wpAny _ _ (call (Value.builtin "len") _ _) _ _ _); (refine' my_len ?zzk1 ?zzk2 ?zzk3 ?_; (case zzk1 => k_asm); (case zzk2 => k_mem); (case zzk3 => omega); intro _ _))
  k_with "MY subscriptTail" => ((with_reducible show wpAny _ _ (subscriptTail _ _ (Value.ref _) _) _ _ _); ((with_reducible show wpAny _ _ (subscriptTail _ _ (Value.ref _) (Value.int _ _)) _ _ _); with_unfolding_all refine' my_item ?zzk1 ?zzk2 ?zzk3 ?zzk4 ?zzk5 ?zzk6 ?_ ?zzk7; (case zzk1 => k_asm); (case zzk2 => k_mem); (case zzk3 => assumption); (case zzk4 => omega); (case zzk5 => omega); (case zzk6 => omega); (case zzk7 => with_unfolding_all rfl);  intro _))
  k_with "MY eval Name" => ((with_reducible show wpAny _ _ (eval (Expr.Name _ _) (envOf _ _ _ _ _)) _ _ _); (k_here; k_dflt (refine' ld ?zzk1 ?zzk2 ?_; (case zzk1 => k_asm); (case zzk2 => assumption); k_whole)))
  k_with "MYcall" => ((with_reducible show wpAny _ _ (call (Value.builtin "list.insert") _ _) _ _ _); (k_here; k_dflt (refine' my_insert ?zzF ?zzN ?zzU ?zzhk ?zzz ?_; (case zzF => k_asm); (case zzN => k_asm); (case zzU => k_upd); (case zzhk => omega); (case zzz => omega); k_whole); intro _ _ _; (try k_sweep)))
  k_with "MYcall" => ((with_reducible show wpAny _ _ (call (Value.builtin "dict.get") _ _) _ _ _); (k_here; k_dflt (first | refine kdg_get1 (knd := PySem.intKind _ _) (by k_asm) (by k_mem) (by assumption) (by assumption) (intKind_is _ _ _ _) none (by assumption) ?_ | refine kdg_get1 (knd := PySem.intKind _ _) (by k_asm) (by k_mem) (by assumption) (by assumption) (intKind_is _ _ _ _) (some _) (by assumption) ?_); (try dsimp only [Option.getD])))
  k_with "MY getMethod ref" => ((with_reducible show wpAny _ _ (getMethod (Value.ref _) _ _) _ _ _); (k_here; (with_reducible show wpAny _ _ (getMethod (Value.ref _) (Str.ofString "get") _) _ _ _); k_dflt (refine kdg_method (knd := PySem.intKind _ _) (by k_asm) (by k_mem) (by assumption) ?_)))
  k_with "MY setItem ref int" => ((with_reducible show wpAny _ _ (setItem (Value.ref _) (Value.int _ _) _) _ _ _); (k_here; k_dflt (refine' kda_set (knd := PySem.intKind _ _) ?zzF ?zzN ?zzU ?zzd (intKind_is _ _ _ _) ?zzz ?_; (case zzF => k_asm); (case zzN => k_asm); (case zzU => k_updF); (case zzd => assumption); (case zzz => assumption)); intro _ _ _ _ _; (try dsimp only at N'); (try k_sweep)))
  k_with "MYcall" => ((with_reducible show wpAny _ _ (call (Value.builtin "len") _ _) _ _ _); (refine' my_lenT ?zzk1 ?zzk2 ?zzk3 ?_; (case zzk1 => k_asm); (case zzk2 => k_mem); (case zzk3 => omega); intro _ _))
  k_with "MY eval Call Attribute" => ((with_reducible show wpAny _ _ (eval (Expr.Call (Expr.Attribute _ _ _) _ [] _) _) _ _ _); (k_here; (with_reducible show wpAny _ _ (eval (Expr.Call (Expr.Attribute _ _ _) _ [] _) _) _ _ _); ks_star; refine star_method ?_))
  k_with "MY callWith ref" => ((with_reducible show wpAny _ _ (callWith _ (Value.ref _) _ _ []) _ _ _); (k_here; (with_reducible show wpAny _ _ (callWith _ (Value.ref _) _ (backTo _ (starEach [Expr.Starred _ _] _)) []) _ _ _); k_dflt (refine' callWith_MS ?zzX ?zzN ?zzq ?zzk2 ?_; (case zzX => k_asm); (case zzN => k_asm); (case zzq => k_mem); (case zzk2 => k_is); k_whole)))
  k_with "MY callWith ref" => ((with_reducible show wpAny _ _ (callWith _ (Value.ref _) _ _ []) _ _ _); (k_here; (with_reducible show wpAny _ _ (callWith _ (Value.ref _) _ (backTo _ (starEach (_ :: _ :: _) _)) []) _ _ _); ks_star; k_dflt (refine' callWith_MS2 ?zzX ?zzN ?zzq ?zzk2 ?_; (case zzX => k_asm); (case zzN => k_asm); (case zzq => k_mem); (case zzk2 => k_is); k_whole)))
  k_with "MY StarOf ref" => ((with_reducible show StarOf _ _ _ (Value.ref _) _ _); (k_here; k_dflt (first | (refine' my_star ?zzF ?zzN ?zzm ?zzi ?zzz ?_; (case zzF => k_asm); (case zzN => k_asm); (case zzm => k_mem); (case zzi => assumption); (case zzz => omega); k_whole) | (refine' my_starT ?zzF ?zzN ?zzm ?zzi ?zzz ?_; (case zzF => k_asm); (case zzN => k_asm); (case zzm => k_mem); (case zzi => assumption); (case zzz => omega); k_whole)); intro _ _ _; (try k_sweep); (try dsimp only [List.nil_append, List.cons_append])))
  k_with "MY compareOp In int ref" => ((with_reducible show wpAny _ _ (compareOp CmpOp.In (Value.int _ _) (Value.ref _)) _ _ _); (k_here; k_dflt (first | (refine' kse_in (knd := PySem.intKind _ _) ?zzN ?zzU ?zzd ?zzz (intKind_is _ _ _ _) rfl ?_; (case zzN => k_asm); (case zzU => k_updF); (case zzd => assumption); (case zzz => (show _ < 4096; omega))) | (refine' kda_in (knd := PySem.intKind _ _) ?zzN ?zzm ?zzd ?zzlo (intKind_is _ _ _ _) false ?zzb ?_; (case zzN => k_asm); (case zzm => k_mem); (case zzd => assumption); (case zzlo => assumption); (case zzb => assumption))); (try dsimp only)))
  k_with "MY getMethod ref" => ((with_reducible show wpAny _ _ (getMethod (Value.ref _) _ _) _ _ _); (k_here; (with_reducible show wpAny _ _ (getMethod (Value.ref _) (Str.ofString "add") _) _ _ _); k_dflt (refine' kse_method (knd := PySem.intKind _ _) ?zzN ?zzU ?zzd ?zzz ?_; (case zzN => k_asm); (case zzU => k_updF); (case zzd => assumption); (case zzz => (show _ < 4096; omega)))))
  k_with "MYcall" => ((with_reducible show wpAny _ _ (call (Value.builtin "set.add") _ _) _ _ _); (k_here; k_dflt (refine' kse_add (knd := PySem.intKind _ _) ?zzF ?zzN ?zzU ?zzd ?zzz (intKind_is _ _ _ _) rfl ?_; (case zzF => k_asm); (case zzN => k_asm); (case zzU => k_updF); (case zzd => assumption); (case zzz => (show _ < 4096; omega))); intro _ _ _ _ _; (try dsimp only at N'); (try k_sweep)))
  k_with "MY subscriptTail" => ((with_reducible show wpAny _ _ (subscriptTail _ _ (Value.ref _) _) _ _ _); ((with_reducible show wpAny _ _ (subscriptTail _ _ (Value.ref _) (Value.int _ _)) _ _ _); with_unfolding_all refine' kda_item (knd := PySem.intKind _ _) ?zzk1 ?zzk2 ?zzk3 (intKind_is _ _ _ _) ?zzk4 ?_ ?zzk7 ?zzk8; (case zzk1 => k_asm); (case zzk2 => k_mem); (case zzk3 => assumption); (case zzk4 => assumption); (case zzk7 => with_unfolding_all rfl); (case zzk8 => (intro _; with_unfolding_all rfl))))
  k_with "MYcall" => ((with_reducible show wpAny _ _ (call (Value.builtin "iter") _ _) _ _ _); (k_here; k_dflt (refine' my_iter ?zzF ?zzN ?zzm ?_; (case zzF => k_asm); (case zzN => k_asm); (case zzm => k_mem)); intro _ _ _ _ zl; (try k_lt zl); (revert zl; intro _); (try k_sweep)))
  k_with "MY getAttr ref" => ((with_reducible show wpAny _ _ (getAttr (Value.ref _) _ _) _ _ _); (k_here; (with_reducible show wpAny _ _ (getAttr (Value.ref _) (Str.ofString "__next__") _) _ _ _); k_dflt (refine' mw_getattr ?zzF ?zzN ?zzm ?_; (case zzF => k_asm); (case zzN => k_asm); (case zzm => k_mem)); intro _ _ _ _ _ zl; (try k_lt zl); (revert zl; intro _); (try k_sweep)))
  k_with "MY truthy ref" => ((with_reducible show wpAny _ _ (truthy (Value.ref _)) _ _ _); (k_here; (with_reducible show wpAny _ _ (truthy (Value.ref _)) _ _ _); k_dflt (refine' my_truthy ?zzN ?zzm ?zzz _ ?zzb ?_; (case zzN => k_asm); (case zzm => k_mem); (case zzz => assumption); (case zzb => assumption)); intro _; (try dsimp only)))
  k_with "MY subscriptTail" => ((with_reducible show wpAny _ _ (subscriptTail _ _ (Value.ref _) _) _ _ _); ((with_reducible show wpAny _ _ (subscriptTail _ _ (Value.ref _) (Value.int (-1) _)) _ _ _); k_dflt (refine' my_last ?zzN ?zzm ?zzz ?_ ?zze; (case zzN => k_asm); (case zzm => k_mem); (case zzz => assumption); (case zze => with_unfolding_all rfl))))
  k_with "MY callWith ref" => ((with_reducible show wpAny _ _ (callWith _ (Value.ref _) _ _ []) _ _ _); (k_here; (with_reducible show wpAny _ _ (callWith _ (Value.ref _) _ (backTo _ (starEach [] _)) []) _ _ _); k_dflt (refine' callWith_W ?zzN ?zzq ?_; (case zzN => k_asm); (case zzq => k_mem)); (try dsimp only [List.nil_append])))
  k_with "MYcall" => ((with_reducible show wpAny _ _ (call (Value.builtin "list.pop") _ _) _ _ _); (k_here; k_dflt (refine' my_pop ?zzF ?zzN ?zzU ?zzz ?_; (case zzF => k_asm); (case zzN => k_asm); (case zzU => k_upd); (case zzz => omega)); intro _ _ _; (try k_sweep)))
  k_with "MY delItem ref int" => ((with_reducible show wpAny _ _ (delItem (Value.ref _) (Value.int _ _)) _ _ _); (k_here; k_dflt (refine' kob_del (knd := PySem.intKind _ _) ?zzF ?zzN ?zzU ?zzd (intKind_is _ _ _ _) ?zzl ?zzz ?_; (case zzF => k_asm); (case zzN => k_asm); (case zzU => k_updF); (case zzd => assumption); (case zzl => assumption); (case zzz => assumption)); intro _ _ _ _ _; (try dsimp only at N')))
  k_with "MY getMethod ref" => ((with_reducible show wpAny _ _ (getMethod (Value.ref _) _ _) _ _ _); (k_here; (with_reducible show wpAny _ _ (getMethod (Value.ref _) (Str.ofString "values") _) _ _ _); k_dflt (refine kdl_method (knd := PySem.intKind _ _) PySem.F.slot_dict_values PySem.F.type_dict_values (by k_asm) (by k_mem) (by assumption) ?_)))
  k_with "MYcall" => ((with_reducible show wpAny _ _ (call (Value.builtin "dict.values") _ _) _ _ _); (k_here; k_dflt (refine kdl_view_values (knd := PySem.intKind _ _) (by k_asm) (by k_asm) (by k_mem) (by assumption) (by assumption) ?_); intro _ _ _ _ zl; (try k_lt zl); (revert zl; intro _); (try k_sweep)))
  k_with "MYcall" => ((with_reducible show wpAny _ _ (call (Value.type "bool") _ _) _ _ _); (k_here; k_dflt (refine' my_bool ?zzN ?zzm ?zzz _ ?zzb ?_; (case zzN => k_asm); (case zzm => k_mem); (case zzz => assumption); (case zzb => assumption)); intro _; (try dsimp only)))
  k_with "MYcall" => ((with_reducible show wpAny _ _ (call (Value.type "tuple") _ _) _ _ _); (k_here; k_dflt (refine' my_tupleOf ?zzF ?zzN ?zzm ?zzz ?_; (case zzF => k_asm); (case zzN => k_asm); (case zzm => k_mem); (case zzz => omega)); intro _ _ _ _ zl; (revert zl; intro _); (try k_sweep)))
  k_with "MYcall" => ((with_reducible show wpAny _ _ (call (Value.builtin "list.clear") _ _) _ _ _); (k_here; k_dflt (refine' my_clear ?zzF ?zzN ?zzU ?zzz ?_; (case zzF => k_asm); (case zzN => k_asm); (case zzU => k_upd); (case zzz => omega)); intro _ _ _; (try k_sweep)))
  k_with "MY compareOp NotIn int ref" => ((with_reducible show wpAny _ _ (compareOp CmpOp.NotIn (Value.int _ _) (Value.ref _)) _ _ _); (k_here; k_dflt (refine' my_notin ?zzN ?zzm ?zzi ?_; (case zzN => k_asm); (case zzm => k_mem); (case zzi => assumption)); (try dsimp only)))
  k_with "MYcall" => ((with_reducible show wpAny _ _ (call (Value.builtin "sorted") _ _) _ _ _); (k_here; k_dflt (refine' my_sorted ?zzF ?zzN ?zzm ?zzi ?zzz ?_; (case zzF => k_asm); (case zzN => k_asm); (case zzm => k_mem); (case zzi => assumption); (case zzz => omega)); intro _ _ _ _ _ _ _ zl _ _ _; (try k_lt zl); (revert zl; intro _); (try k_sweep)))
  k_with "MY binaryOp Add ref ref" => ((with_reducible show wpAny _ _ (binaryOp Operator.Add (Value.ref _) (Value.ref _)) _ _ _); (k_here; k_dflt (refine' my_addL ?zzF ?zzN ?zzm ?zzm2 ?zzz ?_; (case zzF => k_asm); (case zzN => k_asm); (case zzm => k_mem); (case zzm2 => k_mem); (case zzz => assumption)); intro _ _ _ _ zl; (try k_lt zl); (revert zl; intro _); (try k_sweep)))
  k_with "MYcall" => ((with_reducible show wpAny _ _ (call (Value.type "list") _ _) _ _ _); (k_here; k_dflt (refine' my_copy ?zzF ?zzN ?zzm ?zzz ?_; (case zzF => k_asm); (case zzN => k_asm); (case zzm => k_mem); (case zzz => omega)); intro _ _ _ _ _ zl; (try k_lt zl); (revert zl; intro _); (try k_sweep)))
  k_with "MYcall" => ((with_reducible show wpAny _ _ (call (Value.builtin "list.pop") _ _) _ _ _); (k_here; (with_reducible show wpAny _ _ (call (Value.builtin _) [Value.ref _, Value.int _ _]) _ _ _); k_dflt (refine' my_popAt ?zzF ?zzN ?zzU ?zzi ?zzz ?_; (case zzF => k_asm); (case zzN => k_asm); (case zzU => k_upd); (case zzi => assumption); (case zzz => omega)); intro _ _ _; (try k_sweep)))
  k_with "MY compareOp NotEq ref ref" => ((with_reducible show wpAny _ _ (compareOp CmpOp.NotEq (Value.ref _) (Value.ref _)) _ _ _); (k_here; k_dflt (refine' my_ne ?zzN ?zzm ?zzm2 ?zzi ?zzj ?zzu ?_; (case zzN => k_asm); (case zzm => k_mem); (case zzm2 => k_mem); (case zzi => assumption); (case zzj => assumption); (case zzu => assumption)); (try dsimp only)))
  k_with "MINE" => ((with_reducible show wpAny _ _ (call _ _ _) _ _ _); k_extra "MYcall")
  k_with "MINE" => ((with_reducible show wpAny _ _ (subscriptTail _ _ (Value.ref _) _) _ _ _); k_extra "MY subscriptTail")
  k_with "MINE" => ((with_reducible show wpAny _ _ (eval (Expr.Name _ _) (envOf _ _ _ _ _)) _ _ _); k_extra "MY eval Name")
  k_with "MINE" => ((with_reducible show wpAny _ _ (getMethod (Value.ref _) _ _) _ _ _); k_extra "MY getMethod ref")
  k_with "MINE" => ((with_reducible show wpAny _ _ (setItem (Value.ref _) (Value.int _ _) _) _ _ _); k_extra "MY setItem ref int")
  k_with "MINE" => ((with_reducible show wpAny _ _ (eval (Expr.Call (Expr.Attribute _ _ _) _ [] _) _) _ _ _); k_extra "MY eval Call Attribute")
  k_with "MINE" => ((with_reducible show wpAny _ _ (callWith _ (Value.ref _) _ _ []) _ _ _); k_extra "MY callWith ref")
  k_with "MINE" => ((with_reducible show StarOf _ _ _ (Value.ref _) _ _); k_extra "MY StarOf ref")
  k_with "MINE" => ((with_reducible show wpAny _ _ (compareOp CmpOp.In (Value.int _ _) (Value.ref _)) _ _ _); k_extra "MY compareOp In int ref")
  k_with "MINE" => ((with_reducible show wpAny _ _ (getAttr (Value.ref _) _ _) _ _ _); k_extra "MY getAttr ref")
  k_with "MINE" => ((with_reducible show wpAny _ _ (truthy (Value.ref _)) _ _ _); k_extra "MY truthy ref")
  k_with "MINE" => ((with_reducible show wpAny _ _ (delItem (Value.ref _) (Value.int _ _)) _ _ _); k_extra "MY delItem ref int")
  k_with "MINE" => ((with_reducible show wpAny _ _ (compareOp CmpOp.NotIn (Value.int _ _) (Value.ref _)) _ _ _); k_extra "MY compareOp NotIn int ref")
  k_with "MINE" => ((with_reducible show wpAny _ _ (binaryOp Operator.Add (Value.ref _) (Value.ref _)) _ _ _); k_extra "MY binaryOp Add ref ref")
  k_with "MINE" => ((with_reducible show wpAny _ _ (compareOp CmpOp.NotEq (Value.ref _) (Value.ref _)) _ _ _); k_extra "MY compareOp NotEq ref ref")
  k_with "MINE steps" => (w_strict (repeat' (first | (k_unfold; (try dsimp only)) | ((fail_if_success (with_reducible show wpAny _ _ _ _ _ _)); refine CutG.out (by assumption) _ _ _ ?_; (try clear khb); (try clear kQb); (try clear ko); (try clear kd); (try clear kg); (try dsimp only)) | ((fail_if_success (with_reducible show wpAny _ _ _ _ _ _)); refine CutH.out (by assumption) _ _ ?_; (try clear kha); (try clear kQa)) | ((with_reducible show wpAny _ _ (execs (_ :: _) _) _ _ _); (first | (refine execs_cut1 (by assumption) ?_; intro kg kd ko _ kQb khb) | (refine execs_cut2 (by assumption) ?_; intro _) | (refine cutQ ?_; intro kQa kha))) | ((fail_if_success (with_reducible show wpAny _ _ (exec (Stmt.While _ _ _ _) _) _ _ _)); (fail_if_success (with_reducible show wpAny _ _ (eval (Expr.ListComp _ _ _ _) _) _ _ _)); (fail_if_success (with_reducible show wpAny _ _ (exec (Stmt.Try _ _ _ _ _) _) _ _ _)); (fail_if_success (with_reducible show wpAny _ _ (exec (Stmt.For _ _ _ _ _) _) _ _ _)); (first | k_extra "MINE" | walk1 | (dsimp only; walk1)))  | fail "no step")))
  k_with "MINE plain" => (w_strict (repeat' (first | (k_unfold; (try dsimp only)) | ((fail_if_success (with_reducible show wpAny _ _ _ _ _ _)); refine CutH.out (by assumption) _ _ ?_; (try clear kha); (try clear kQa)) | ((fail_if_success (with_reducible show wpAny _ _ (exec (Stmt.While _ _ _ _) _) _ _ _)); (fail_if_success (with_reducible show wpAny _ _ (eval (Expr.ListComp _ _ _ _) _) _ _ _)); (fail_if_success (with_reducible show wpAny _ _ (exec (Stmt.Try _ _ _ _ _) _) _ _ _)); (fail_if_success (with_reducible show wpAny _ _ (exec (Stmt.For _ _ _ _ _) _) _ _ _)); (first | k_extra "MINE" | walk1 | (dsimp only; walk1)))  | fail "no step")))
  k_with "MINE cells" => ((walk_at "MINE steps"; all_goals (first | (with_reducible exact (Str.ofString "")) | (with_reducible exact (0 : Addr)) | (with_reducible exact Value.none) | skip)))
  k_with "MINE" => ((with_reducible show wpAny _ _ (eval (Expr.Name _ _) _) _ _ _); (k_here; (with_reducible show wpAny _ _ (eval (Expr.Name _ _) (envOfC _ _ _ _ _)) _ _ _); k_dflt (first
  | (refine' nameX_L ?zzF ?zzv ?_ ?zza ?zzb; (case zzF => k_asm); (case zza => rfl); (case zzb => rfl); (case zzv => first | assumption | exact rfl); k_whole)
  | (refine' nameX_C ?zzN ?zzc ?zzm ?zzd ?_ ?zza ?zzb; (case zza => rfl); (case zzb => rfl); (case zzN => k_asm); (case zzc => rfl); (case zzm => k_mem); (case zzd => k_asm); k_whole)
  | (refine' nameX_K ?zzF ?zzX ?zzT ?zze ?_ ?zza ?zzb; (case zzF => k_asm); (case zzX => k_asm); (case zzT => k_asm); (case zza => rfl); (case zzb => rfl); (case zze => k_is); k_whole)
  | (refine' nameX_B ?zzF ?zzX ?zzT ?zze ?zzv ?zzn ?_ ?zza ?zzb; (case zzF => k_asm); (case zzX => k_asm); (case zzT => k_asm); (case zza => rfl); (case zzb => rfl); (case zze => k_is); (case zzv => boot_fast); (case zzn => decide); k_whole))))
  k_with "MINE" => ((with_reducible show wpAny _ _ (eval (Expr.Name _ _) _) _ _ _); (k_here; (with_reducible show wpAny _ _ (eval (Expr.Name _ _) (compEnvC _ _ _ _)) _ _ _); k_dflt (first
  | refine LCgL.ld_own (by k_asm) (by k_mem) (by assumption) (by assumption) ?_
  | (refine' lcf_cell ?zzN ?zzc ?zzm ?zzd ?_ ?zza ?zzb; (case zza => rfl); (case zzb => rfl); (case zzN => k_asm); (case zzc => rfl); (case zzm => k_mem); (case zzd => k_asm); k_whole)
  | (refine' lcf_free ?zzN ?zzc ?zzm ?zzd ?_ ?zza ?zzb; (case zza => rfl); (case zzb => rfl); (case zzN => k_asm); (case zzc => rfl); (case zzm => k_mem); (case zzd => k_asm); k_whole)
  | refine LCgL.ld_built (by k_asm) (by k_asm) (by k_asm) (by k_is) (by boot_by_name) (by decide) ?_)))
  k_with "MINE cellsP" => ((walk_at "MINE plain"; all_goals (first | (with_reducible exact (Str.ofString "")) | (with_reducible exact (0 : Addr)) | (with_reducible exact Value.none) | skip)))
  k_with "MYcall" => ((with_reducible show wpAny _ _ (call (Value.builtin "sorted") _ _) _ _ _); (k_here; k_dflt (first
  | (refine' my_sortedT ?zzF ?zzN ?zzm ?zzi ?zzz ?_; (case zzF => k_asm); (case zzN => k_asm); (case zzm => k_mem); (case zzi => assumption); (case zzz => omega); k_whole; intro _ _ _ _ _ _ _ zl _ _ _)
  | (refine' my_sortedD ?zzhh ?zzF ?zzN ?zzm ?zzi ?zzlo ?zzz ?_; (case zzhh => assumption); (case zzF => k_asm); (case zzN => k_asm); (case zzm => k_mem); (case zzi => assumption); (case zzlo => assumption); (case zzz => assumption); k_whole; intro _ _ _ _ _ _ _ _ zl _ _ _)); (try k_lt zl); (revert zl; intro _); (try k_sweep)))
  k_with "MINE" => ((with_reducible show wpAny _ _ (call (Value.builtin "sorted") _ _) _ _ _); k_extra "MYcall")
  k_with "MINE given" => ((w_strict (repeat' (first | (k_unfold; (try dsimp only)) | ((fail_if_success (with_reducible show wpAny _ _ _ _ _ _)); refine CutG.out (by assumption) _ _ _ ?_; (try clear khb); (try clear kQb); (try clear ko); (try clear kd); (try clear kg); (try dsimp only)) | ((fail_if_success (with_reducible show wpAny _ _ _ _ _ _)); refine CutH.out (by assumption) _ _ ?_; (try clear kha); (try clear kQa)) | ((with_reducible show wpAny _ _ (execs (_ :: _) _) _ _ _); (first | (refine execs_cut1 (by assumption) ?_; intro kg kd ko _ kQb khb) | (refine execs_cut2 (by assumption) ?_; intro _) | (refine cutQ ?_; intro kQa kha))) | ((fail_if_success (with_reducible show wpAny _ _ (call (Value.type "range") _) _ _ _)); (fail_if_success (with_reducible show wpAny _ _ (eval (Expr.ListComp _ _ _ _) _) _ _ _)); (fail_if_success (with_reducible show wpAny _ _ (exec (Stmt.For _ _ _ _ _) _) _ _ _)); (first | k_extra "MINE" | walk1 | (dsimp only; walk1)))  | fail "no step")); all_goals (first | (with_reducible exact (Str.ofString "")) | (with_reducible exact (0 : Addr)) | (with_reducible exact Value.none) | skip)))
  trivial
theorem stp_of {S : List (Int × Int × Tok)} (hn : (S.map (·.1)).Nodup) {q : Int × Int × Tok} (hq : q ∈ S) : stp S q.1 = q.2.1 := by
  obtain ⟨q', hq', e, e2, _⟩ := kvI_find (List.mem_map_of_mem (f := (·.1)) hq)
  obtain ⟨i, hi, rfl⟩ := List.mem_iff_getElem.mp hq
  obtain ⟨j, hj, rfl⟩ := List.mem_iff_getElem.mp hq'
  have hij : i = j := (List.getElem_inj (h₀ := by simpa using hi) (h₁ := by simpa using hj) hn).mp (by simpa using e.symm)
  subst hij; exact e2
theorem gv_p1 {w : World} {σ : Srt} {rv : Value} {po nf : Int} {tp tf : Tok} {oD : Obj} {G : List NodeR} {X : List (Addr × Obj)} {i c a : Addr × Obj} : (i :: c :: gl w σ rv po tp nf tf oD G (a :: X)).Perm (gl w σ rv po tp nf tf oD G (a :: i :: c :: X)) :=
  (gl_push_perm.cons _).trans (gl_push_perm.trans (gl_congr (pm3 _ _ _ _)))
theorem gv_p2 {w : World} {σ : Srt} {rv : Value} {po nf : Int} {tp tf : Tok} {oD : Obj} {G : List NodeR} {X : List (Addr × Obj)} {c a : Addr × Obj} : (gl w σ rv po tp nf tf oD G (a :: c :: X)).Perm (c :: gl w σ rv po tp nf tf oD G (a :: X)) :=
  (gl_congr (List.Perm.swap _ _ _)).trans gl_push_perm.symm
theorem gv_p3 {w : World} {σ : Srt} {rv : Value} {po nf : Int} {tp tf : Tok} {oD : Obj} {G : List NodeR} {X : List (Addr × Obj)} {i c a t : Addr × Obj} : (gl w σ rv po tp nf tf oD G (a :: t :: i :: c :: X)).Perm (t :: i :: c :: gl w σ rv po tp nf tf oD G (a :: X)) :=
  (gl_congr (pm4 t i c a X).symm).trans ((((gl_push_perm.cons _).trans gl_push_perm).cons _).trans gl_push_perm).symm
theorem gv_spec {w : World} {A A₀ : Around} {env : Env} {outer : List Env} {base h₀ : Heap} {L : Addr} {m mg mb : Str → Option Value} {p : Program} {loose : List Str} {mean : ExcName → Option Value} {s : Shared} {rest : List (Addr × Obj)} {R : Result → Shared → Prop}
    {σ : Srt} {tp tf : Tok} {oD : Obj} {G : List NodeR} {b : Nat} {aS : Addr} {oS : Obj} {S : List (Int × Int × Tok)} {n : Nat}
    (C : Cx w A A₀ env outer base h₀ L m mg mb p loose mean s.heap (gl w σ .none 0 tp 0 tf oD G rest) 895) (XB : (hd.heap_39 w.params).In base) (TB : Top p loose mean mg mb base) (DD : KtsDicts (frs outer) h₀) (g : GOK w σ oD G rest b) (hb : b ≤ 1000)
    (up : ∀ r ∈ G, ∀ x ∈ r.ss, r.key < x ∧ ∃ q ∈ G, q.key = x) (hmS : (aS, oS) ∈ rest) (hS : oS.IsDictOf (intKind PySem.Challenge.rw_mr0333_01.row.prog w) (kvI S)) (loS : (aS == sysModules) = false) (hu : A.units + 100 < cLine)
    (hkeys : (S.map (·.1)).Perm (G.map NodeR.key)) (hG : G.length ≤ 40) (hn : n ≤ 1000) (hfn : ∃ q ∈ S, q.2.1 = n) (hfl : ∀ q ∈ S, q.2.1 ≤ n) (kok : KOK (G.map NodeR.abs) (stp S) n)
    (hR : ∀ h' tk h₀', KtsTurn (frs outer) h₀ h₀' → Fr h₀' L h' m → News h₀' L h' rest → Below A₀ base outer h₀' → (hd.heap_39 w.params).In h₀' → Top p loose mean mg mb h₀' → KtsDicts (frs outer) h₀' → R (.ok (.ret (.bool true))) { s with heap := h', toks := tk }) :
    codeAny (model PySem.Challenge.rw_mr0333_01.row.prog w) A (.call (.ref 192) ⟨[.ref σ.S, .ref aS], []⟩) R s := by
  obtain ⟨B, F, X, N, T, hA, hf, hke, hdep, hh⟩ := C
  revert X
  k_fill
  intro X
  refine' enterTC (binds := [(Str.ofString "sorter", .ref σ.S), (Str.ofString "steps", .ref aS)]) B F X N T XB TB DD hA hf hke (by k_is) (by k_is) (by show A.depth < 1000; omega) (kp_binds (by k_in) (fun _ => rfl)) rfl (by decide +kernel) ?_ rfl rfl rfl
  intro g' L' h' tk' cells FG' F' N' Y' B' X' T' D' lL hA'
  obtain ⟨oT, oC, rfl, hT, hC⟩ := CellsAre.two Y'
  replace N' : News g' L' h' ((L' + 1 + 1, oT) :: (L' + 1, oC) :: gl w σ .none 0 tp 0 tf oD G rest) := N'
  replace F' : Fr g' L' h' (fun y => if y = Str.ofString "sorter" then some (.ref σ.S) else none) := F'
  replace hT : oT.data = .cell none := hT
  replace hC : oC.data = .cell (some (.ref aS)) := hC
  clear Y'
  have lc1 : ∀ p ∈ gl w σ .none 0 tp 0 tf oD G rest, p.1 < L' + 1 := fun p hp => Nat.lt_succ_of_lt (lL p hp)
  have lc2 : ∀ p ∈ (L' + 1, oC) :: gl w σ .none 0 tp 0 tf oD G rest, p.1 < L' + 1 + 1 := fun p hp => by
    rcases List.mem_cons.mp hp with rfl | hp
    · exact Nat.lt_succ_self _
    · exact Nat.lt_succ_of_lt (lc1 p hp)
  have g1 := GOK.push (o := oC) g lc1
  have N1 := News.perm N' (gl_push_perm.cons _)
  have g2 : GOK w σ oD G ((L' + 1 + 1, oT) :: (L' + 1, oC) :: rest) b := GOK.push (rv := .none) (po := 0) (nf := 0) (tp := tp) (tf := tf) g1 (fun p hp => lc2 p (gl_push_perm.mem_iff.mpr hp))
  have N2 := News.perm N1 gl_push_perm
  clear N' N1
  walk_at "MINE given"
  refine wpAny_call (prep_spec ⟨B', F', X', N2, T', hA', rfl, rfl, by show A.depth + 1 ≤ 897; omega, hh⟩ XB TB D' g2 hb up ?_)
  intro h2 tk2 g3 aR nR T3 F3 N3 g4 B3 X3 P3 D3
  have hnd := dict_nodup hS
  have hnd2 : (S.map (·.1)).Nodup := by
    have e : (kvI S).map (·.1) = S.map (·.1) := by unfold kvI; rw [List.map_map]; rfl
    rw [← e]; exact hnd
  have hsz : (kvI S).length ≤ sizeLine := by
    have := hkeys.length_eq
    rw [List.length_map, List.length_map] at this
    rw [sizeLine_eq, List.length_map]; omega
  have hsz2 : (kvI S).length < 64 := by
    have := hkeys.length_eq
    rw [List.length_map, List.length_map] at this
    rw [List.length_map]; omega
  clear N2 F' X' T'
  walk_at "MINE given"
  refine For_start ?_
  walk_at "MINE given"
  rename News _ _ _ _ => N5
  rename Fr _ _ _ _ => F5
  refine my_maxV (stp S) hh F5 N5 (by k_mem) (by k_mem) hS (by obtain ⟨q, hq, _⟩ := hfn; intro e; rw [List.map_eq_nil_iff] at e; rw [e] at hq; cases hq) (by
    intro p hp
    obtain ⟨q, hq, rfl⟩ := List.mem_map.mp hp
    exact ⟨q.2.2, by show Value.int q.2.1 q.2.2 = Value.int (stp S q.1) q.2.2; rw [stp_of hnd2 hq]⟩) ?_
  intro h3 k3 t3 tk3 F6 N6 hk3 hle3
  have hM : stp S k3 = n := by
    obtain ⟨p, hp, rfl⟩ := List.mem_map.mp hk3
    obtain ⟨q, hq, rfl⟩ := List.mem_map.mp hp
    obtain ⟨q2, hq2, e2⟩ := hfn
    have h1 : stp S q.1 = q.2.1 := stp_of hnd2 hq
    have h2 := hle3 (q2.1, Value.int q2.2.1 q2.2.2) (List.mem_map.mpr ⟨q2, hq2, rfl⟩)
    have h3 : stp S q2.1 = q2.2.1 := stp_of hnd2 hq2
    have h4 := hfl q hq
    dsimp only at h2 ⊢
    omega
  rw [hM]
  clear F5 N5
  walk_at "MINE given"
  have g5 : GOK w σ oD G ((aR, W.listOf (rdyV G).toArray nR) :: (L' + 1, oC) :: rest) b := GOK.of (rv := .ref aR) (po := 0) (tp := tp) (nf := 0) (tf := tf) g4 ((List.nodup_cons.mp (ND.perm (gl_nd (w := w) (rv := .ref aR) (po := 0) (nf := 0) (tp := tp) (tf := tf).mpr g4.gn) gv_p2)).2)
  have hT5 := (List.nodup_cons.mp (ND.perm (gl_nd (w := w) (rv := .ref aR) (po := 0) (nf := 0) (tp := tp) (tf := tf) (oD := oD).mpr g4.gn) gv_p2)).1
  have N7 := News.perm (News.sub N6 (fun q hq => .tail _ hq)) gv_p2
  generalize hAG : G.map NodeR.abs = AG at *
  have hcl : ∀ a ∈ AG, ∀ v ∈ a.ss, v ∈ AG.map (·.key) := by
    subst hAG
    intro a ha v hv
    obtain ⟨r, hr, rfl⟩ := List.mem_map.mp ha
    obtain ⟨_, q, hq, e⟩ := up r hr v hv
    exact List.mem_map.mpr ⟨q.abs, List.mem_map_of_mem hq, e⟩
  have hkl : AG.length ≤ 40 := by rw [← hAG, List.length_map]; exact hG
  have hkk : (S.map (·.1)).Perm (AG.map (·.key)) := by rw [← hAG, List.map_map]; exact hkeys
  refine ForL.range1 hh F6 N7 hn (fun t m₁ n₁ => ∃ oT nR rl G3 po tp tf vo, n₁ = (L' + 1 + 1, oT) :: gl w σ (.ref aR) po tp po tf oD G3 ((aR, W.listOf rl.toArray nR) :: (L' + 1, oC) :: rest) ∧ GOK w σ oD G3 ((aR, W.listOf rl.toArray nR) :: (L' + 1, oC) :: rest) b ∧
    (L' + 1 + 1) ∉ (gl w σ (.ref aR) po tp po tf oD G3 ((aR, W.listOf rl.toArray nR) :: (L' + 1, oC) :: rest)).map (·.1) ∧ G3.map NodeR.abs = (stN AG t).1 ∧ IntsAre rl (stN AG t).2 ∧ oT.data = .cell vo ∧ m₁ (Str.ofString "sorter") = some (.ref σ.S)) ?_ (fun _ _ => rfl) ?_ ?_
  · exact ⟨oT, nR, rdyV G, G, 0, tp, tf, none, rfl, g5, hT5, hAG, hAG ▸ rdy_ints G, hT, rfl⟩
  · rintro I i u m₁ n₁ oI h4 tk4 hi ⟨oT3, nR3, rl, G3, po, tp3, tf3, vo, rfl, g6, hT6, e6, hr6, hTd, ms⟩ hI lI F7 N8
    have hi' : i ≤ n := by omega
    have hlay := kok.lay i hi'
    have hne := kok.ne i hi'
    have hxl : (stN AG i).2.length ≤ 40 := by
      have h1 := hlay.length_eq
      have h2 := List.length_filter_le (fun v => decide (stp S v = i)) (AG.map (·.key))
      rw [List.length_map] at h2
      omega
    have hrl := hr6.length
    have hshp : shp (G3.map NodeR.abs) = shp AG := by rw [e6]; exact shp_st AG i
    have hkx : ∀ u ∈ (stN AG i).2, ∃ q ∈ G3, q.key = u := fun u hu => key_at hshp ((List.mem_filter.mp (hlay.mem_iff.mp hu)).1)
    have ndA : ND ((I, oI) :: (L' + 1 + 1, oT3) :: gl w σ (.ref aR) po tp3 po tf3 oD G3 ((aR, W.listOf rl.toArray nR3) :: (L' + 1, oC) :: rest)) := nd_new (nd_new (gl_nd.mpr g6.gn) hT6) hI
    simp only [List.map_cons, List.mem_cons, not_or] at hI
    have z1 : @Ne Nat I (L' + 1 + 1) := hI.1
    clear N7 F6 N6
    walk_at "MINE given"
    rename Fr _ _ _ _ => F9
    rename News _ _ _ _ => N9
    rename Obj.data _ = Data.cell (some (Value.int _ _)) => hT4
    rename Obj => oT4
    have ndB : ND ((I, oI) :: (L' + 1 + 1, oT4) :: gl w σ (.ref aR) po tp3 po tf3 oD G3 ((aR, W.listOf rl.toArray nR3) :: (L' + 1, oC) :: rest)) := ndA
    have N10 := News.perm N9 gv_p1
    have g7 := GOK.of (rv := .ref aR) (po := po) (tp := tp3) (nf := po) (tf := tf3) g6 (ND.perm ndB gv_p1)
    refine wpAny_call (ia_spec ⟨B3, F9, X3, N10, P3, hA', rfl, rfl, by show A.depth + 1 ≤ 897; omega, hh⟩ (by omega) ?_)
    intro h5 tk5 F10 N11
    have hact : (decide (po < po) || !rl.isEmpty) = true := by
      cases rl with
      | nil => cases e : (stN AG i).2 with
        | nil => exact absurd e hne
        | cons x xs => rw [e] at hrl; cases hrl
      | cons => simp
    rw [hact]
    clear F9 N9 N10
    walk_at "MINE given"
    refine wpAny_call (gr_spec ⟨B3, F10, X3, N11, P3, hA', rfl, rfl, by show A.depth + 1 ≤ 897; omega, hh⟩ g7 hr6 (by omega) hkx ?_)
    intro h6 tk6 aT nR5 tp5 G5 F11 N12 g8 e8
    rw [e6] at e8
    have e8' : G5.map NodeR.abs = outN (stN AG i).2 (stN AG i).1 := e8
    clear F10 N11
    walk_at "MINE given"
    rename IntsAre _ _ => hks
    rename List.Perm _ _ => hkp
    rename List.Pairwise _ _ => hko
    rename List Int => ns
    refine Lc_start (cl := [(Str.ofString "turn", L' + 1 + 1), (Str.ofString "steps", L' + 1)]) rfl rfl (by decide) ?_
    walk_at "MINE given"
    rename Fr _ _ _ _ => F13
    rename News _ _ _ _ => N14
    rename IntsAre _ _ => hqs
    rename List.Perm _ _ => hqp
    rename List.Pairwise _ _ => hqo
    rename List Int => qs
    rename List Value => qV
    replace hqp : qs.Perm (S.map (·.1)) := by
      have e : (kvI S).map (·.1) = S.map (·.1) := by unfold kvI; rw [List.map_map]; rfl
      rw [← e]; exact hqp
    have hql : qV.length ≤ 40 := by
      have h1 := hqs.length
      have h2 := hqp.length_eq
      have h3 := hkk.length_eq
      rw [List.length_map, List.length_map] at h3
      rw [List.length_map] at h2
      omega
    refine LcL.list (fun j ys => IntsAre ys ((qs.take j).filter (fun v => decide (stp S v = i)))) hh F13 N14 (.head _) (by rw [sizeLine_eq]; omega) (by decide) rfl rfl .nil ?turn ?fin
    case turn =>
      rintro gg j v I2 oI2 C2 oC2 D2 ys m₂ h7 tk7 E' hx2 hJ hC2 hxv F14 N15
      obtain ⟨o, t3, rfl, ho⟩ := hqs.at j v hx2
      obtain ⟨q, hq, q1, q2, q3⟩ := kvI_find (hqp.mem_iff.mp (List.mem_of_getElem? ho))
      clear F13 N14
      walk_at "MINE given"
      · rename stp S o = _ => hlo
        refine ⟨_, _, rfl, F14, N15, ?_⟩
        dsimp only
        rw [List.take_add_one, ho]
        simp only [Option.toList_some, List.filter_append, List.filter_cons, List.filter_nil, hlo, decide_true, if_true]
        exact IntsAre.append hJ (.cons _ _ .nil)
      · rename stp S o ≠ _ => hlo
        refine ⟨_, _, rfl, F14, N15, ?_⟩
        dsimp only
        rw [List.take_add_one, ho]
        simp only [Option.toList_some, List.filter_append, List.filter_cons, List.filter_nil, hlo, decide_false, Bool.false_eq_true, if_false, List.append_nil]
        exact hJ
    case fin =>
      intro gx ys hJ aF h7 tk7 F14 N15 haF
      rw [hqs.length, List.take_length] at hJ
      have heq : ns = qs.filter (fun v => decide (stp S v = i)) := by
        refine List.Perm.eq_of_pairwise (le := (· ≤ ·)) (fun x y _ _ h1 h2 => Int.le_antisymm h1 h2) hko (hqo.filter _) ?_
        exact hkp.trans (hlay.trans ((hkk.symm.filter _).trans (hqp.symm.filter _)))
      rw [← heq] at hJ
      clear F13 N14
      walk_at "MINE given"
      rename Fr _ _ _ _ => F15
      rename News _ _ _ _ => N16
      have N17 : News g3 L' _ (gl w σ (.ref aR) (po + (stN AG i).2.length) tp5 po tf3 oD G5 ((aR, W.listOf ([] : List Value).toArray nR5) :: (aT, tupO rl) :: (I, oI) :: (L' + 1 + 1, oT4) :: (L' + 1, oC) :: rest)) := News.perm (News.sub N16 (fun q hq => .tail _ (.tail _ (.tail _ (.tail _ hq))))) (gl_congr (List.Perm.swap _ _ _))
      have hshp5 : shp (G5.map NodeR.abs) = shp AG := by rw [e8', shp_out]; exact shp_st AG i
      refine' call_meth N16 (.head _) ?_
      refine' dn_spec ⟨B3, F15, X3, N17, P3, hA', rfl, rfl, by show A.depth + 1 ≤ 897; omega, hh⟩ g8.swap hr6 (by omega) .nil (by show 0 ≤ 1000; omega) hb (fun u hu => key_at hshp5 (List.mem_filter.mp (hlay.mem_iff.mp hu)).1) (succ_at hshp5 hcl) (by rw [e8']; exact kok.out i hi') ?_
      intro h8 tk8 nR6 tf6 G6 rl6 F16 N18 g9 e9 hr9
      rw [e8'] at e9 hr9
      clear F15 N16 N17
      walk_at "MINE given"
      have N20 := News.perm N18 gv_p3
      have nd20 := ND.perm (gl_nd (w := w) (rv := .ref aR) (po := po + (stN AG i).2.length) (nf := po + (stN AG i).2.length) (tp := tp5) (tf := tf6) (oD := oD).mpr g9.gn) gv_p3
      have nd21 := List.nodup_cons.mp nd20
      have nd22 := List.nodup_cons.mp nd21.2
      have nd23 := List.nodup_cons.mp nd22.2
      refine ⟨_, _, _, _, rfl, F16, News.sub N20 (fun q hq => .tail _ hq), (fun q hq => nomatch hq), nd22.1, oT4, nR6, rl6, G6, po + (stN AG i).2.length, tp5, tf6, _, rfl, ?_, nd23.1, e9, hr9, hT4, ms⟩
      exact GOK.of (rv := .ref aR) (po := po + (stN AG i).2.length) (tp := tp5) (nf := po + (stN AG i).2.length) (tf := tf6) g9 nd23.2
  · rintro m' n₁ h4 tk4 F7 N8 ⟨oT3, nR3, rl, G3, po, tp3, tf3, vo, rfl, g6, hT6, e6, hr6, hTd, ms⟩
    rw [kok.fin] at hr6
    have hrl0 := IntsAre.nil_inv hr6
    subst hrl0
    clear N7 F6 N6
    have N9 := News.perm N8 gv_p2.symm
    have g7 := GOK.of (rv := .ref aR) (po := po) (tp := tp3) (nf := po) (tf := tf3) g6 (ND.perm (nd_new (o := oT3) (gl_nd.mpr g6.gn) hT6) gv_p2.symm)
    clear N8
    walk_at "MINE given"
    refine wpAny_call (ia_spec ⟨B3, F7, X3, N9, P3, hA', rfl, rfl, by show A.depth + 1 ≤ 897; omega, hh⟩ (by show 0 < 2 ^ 63; omega) ?_)
    intro h5 tk5 F10 N11
    have hact : (decide (po < po) || !([] : List Value).isEmpty) = false := by simp
    rw [hact]
    clear F7 N9
    walk_at "MINE given"
    refine wpAny_call (gr_spec ⟨B3, F10, X3, N11, P3, hA', rfl, rfl, by show A.depth + 1 ≤ 897; omega, hh⟩ g7 .nil (by show 0 ≤ 1000; omega) (fun u hu => nomatch hu) ?_)
    intro h6 tk6 aT nR5 tp5 G5 F11 N12 g8 e8
    clear F10 N11
    walk_at "MINE given"
    rename Fr _ _ _ _ => F12
    rename News _ _ _ _ => N13
    exact ⟨g3, _, _, rest, T3, F12, News.sub N13 (fun q hq => .tail _ (.tail _ (.tail _ (.tail _ (List.mem_append_right _ (.tail _ (.tail _ (.tail _ (.tail _ hq))))))))), fun h₀' a b c d e f k => hR _ _ h₀' a b c d e f k⟩

end Mine
-- P17
namespace Mine
open PySem PySem.W PyProof.Rows
example : True := by
  k_with_none
  k_with "MYcall" => ((with_reducible show wpAny _ _ (call (Value.builtin "len") _ _) _ _ _); (refine' my_len ?zzk1 ?zzk2 ?zzk3 ?_; (case zzk1 => k_asm); (case zzk2 => k_mem); (case zzk3 => omega); intro _ _))
  k_with "MY subscriptTail" => ((with_reducible show wpAny _ _ (subscriptTail _ _ (Value.ref _) _) _ _ _); ((with_reducible show wpAny _ _ (subscriptTail _ _ (Value.ref _) (Value.int _ _)) _ _ _); with_unfolding_all refine' my_item ?zzk1 ?zzk2 ?zzk3 ?zzk4 ?zzk5 ?zzk6 ?_ ?zzk7; (case zzk1 => k_asm); (case zzk2 => k_mem); (case zzk3 => assumption); (case zzk4 => omega); (case zzk5 => omega); (case zzk6 => omega); (case zzk7 => with_unfolding_all rfl);  intro _))
  k_with "MY eval Name" => ((with_reducible show wpAny _ _ (eval (Expr.Name _ _) (envOf _ _ _ _ _)) _ _ _); (k_here; k_dflt (refine' ld ?zzk1 ?zzk2 ?_; (case zzk1 => k_asm); (case zzk2 => assumption); k_whole)))
  k_with "MYcall" => ((with_reducible show wpAny _ _ (call (Value.builtin "list.insert") _ _) _ _ _); (k_here; k_dflt (refine' my_insert ?zzF ?zzN ?zzU ?zzhk ?zzz ?_; (case zzF => k_asm); (case zzN => k_asm); (case zzU => k_upd); (case zzhk => omega); (case zzz => omega); k_whole); intro _ _ _; (try k_sweep)))
  k_with "MYcall" => ((with_reducible show wpAny _ _ (call (Value.builtin "dict.get") _ _) _ _ _); (k_here; k_dflt (first | refine kdg_get1 (knd := PySem.intKind _ _) (by k_asm) (by k_mem) (by assumption) (by assumption) (intKind_is _ _ _ _) none (by assumption) ?_ | refine kdg_get1 (knd := PySem.intKind _ _) (by k_asm) (by k_mem) (by assumption) (by assumption) (intKind_is _ _ _ _) (some _) (by assumption) ?_); (try dsimp only [Option.getD])))
  k_with "MY getMethod ref" => ((with_reducible show wpAny _ _ (getMethod (Value.ref _) _ _) _ _ _); (k_here; (with_reducible show wpAny _ _ (getMethod (Value.ref _) (Str.ofString "get") _) _ _ _); k_dflt (refine kdg_method (knd := PySem.intKind _ _) (by k_asm) (by k_mem) (by assumption) ?_)))
  k_with "MY setItem ref int" => ((with_reducible show wpAny _ _ (setItem (Value.ref _) (Value.int _ _) _) _ _ _); (k_here; k_dflt (refine' kda_set (knd := PySem.intKind _ _) ?zzF ?zzN ?zzU ?zzd (intKind_is _ _ _ _) ?zzz ?_; (case zzF => k_asm); (case zzN => k_asm); (case zzU => k_updF); (case zzd => assumption); (case zzz => assumption)); intro _ _ _ _ _; (try dsimp only at N'); (try k_sweep)))
  k_with "MYcall" => ((with_reducible show wpAny _ _ (call (Value.builtin "len") _ _) _ _ _); (refine' my_lenT ?zzk1 ?zzk2 ?zzk3 ?_; (case zzk1 => k_asm); (case zzk2 => k_mem); (case zzk3 => omega); intro _ _))
  k_with "MY eval Call Attribute" => ((with_reducible show wpAny _ _ (eval (Expr.Call (Expr.Attribute _ _ _) _ [] _) _) _ _ _); (k_here; (with_reducible show wpAny _ _ (eval (Expr.Call (Expr.Attribute _ _ _) _ [] _) _) _ _ _); ks_star; refine star_method ?_))
  k_with "MY callWith ref" => ((with_reducible show wpAny _ _ (callWith _ (Value.ref _) _ _ []) _ _ _); (k_here; (with_reducible show wpAny _ _ (callWith _ (Value.ref _) _ (backTo _ (starEach [Expr.Starred _ _] _)) []) _ _ _); k_dflt (refine' callWith_MS ?zzX ?zzN ?zzq ?zzk2 ?_; (case zzX => k_asm); (case zzN => k_asm); (case zzq => k_mem); (case zzk2 => k_is); k_whole)))
  k_with "MY callWith ref" => ((with_reducible show wpAny _ _ (callWith _ (Value.ref _) _ _ []) _ _ _); (k_here; (with_reducible show wpAny _ _ (callWith _ (Value.ref _) _ (backTo _ (starEach (_ :: _ :: _) _)) []) _ _ _); ks_star; k_dflt (refine' callWith_MS2 ?zzX ?zzN ?zzq ?zzk2 ?_; (case zzX => k_asm); (case zzN => k_asm); (case zzq => k_mem); (case zzk2 => k_is); k_whole)))
  k_with "MY StarOf ref" => ((with_reducible show StarOf _ _ _ (Value.ref _) _ _); (k_here; k_dflt (first | (refine' my_star ?zzF ?zzN ?zzm ?zzi ?zzz ?_; (case zzF => k_asm); (case zzN => k_asm); (case zzm => k_mem); (case zzi => assumption); (case zzz => omega); k_whole) | (refine' my_starT ?zzF ?zzN ?zzm ?zzi ?zzz ?_; (case zzF => k_asm); (case zzN => k_asm); (case zzm => k_mem); (case zzi => assumption); (case zzz => omega); k_whole)); intro _ _ _; (try k_sweep); (try dsimp only [List.nil_append, List.cons_append])))
  k_with "MY compareOp In int ref" => ((with_reducible show wpAny _ _ (compareOp CmpOp.In (Value.int _ _) (Value.ref _)) _ _ _); (k_here; k_dflt (first | (refine' kse_in (knd := PySem.intKind _ _) ?zzN ?zzU ?zzd ?zzz (intKind_is _ _ _ _) rfl ?_; (case zzN => k_asm); (case zzU => k_updF); (case zzd => assumption); (case zzz => (show _ < 4096; omega))) | (refine' kda_in (knd := PySem.intKind _ _) ?zzN ?zzm ?zzd ?zzlo (intKind_is _ _ _ _) false ?zzb ?_; (case zzN => k_asm); (case zzm => k_mem); (case zzd => assumption); (case zzlo => assumption); (case zzb => assumption))); (try dsimp only)))
  k_with "MY getMethod ref" => ((with_reducible show wpAny _ _ (getMethod (Value.ref _) _ _) _ _ _); (k_here; (with_reducible show wpAny _ _ (getMethod (Value.ref _) (Str.ofString "add") _) _ _ _); k_dflt (refine' kse_method (knd := PySem.intKind _ _) ?zzN ?zzU ?zzd ?zzz ?_; (case zzN => k_asm); (case zzU => k_updF); (case zzd => assumption); (case zzz => (show _ < 4096; omega)))))
  k_with "MYcall" => ((with_reducible show wpAny _ _ (call (Value.builtin "set.add") _ _) _ _ _); (k_here; k_dflt (refine' kse_add (knd := PySem.intKind _ _) ?zzF ?zzN ?zzU ?zzd ?zzz (intKind_is _ _ _ _) rfl ?_; (case zzF => k_asm); (case zzN => k_asm); (case zzU => k_updF); (case zzd => assumption); (case zzz => (show _ < 4096; omega))); intro _ _ _ _ _; (try dsimp only at N'); (try k_sweep)))
  k_with "MY subscriptTail" => ((with_reducible show wpAny _ _ (subscriptTail _ _ (Value.ref _) _) _ _ _); ((with_reducible show wpAny _ _ (subscriptTail _ _ (Value.ref _) (Value.int _ _)) _ _ _); with_unfolding_all refine' kda_item (knd := PySem.intKind _ _) ?zzk1 ?zzk2 ?zzk3 (intKind_is _ _ _ _) ?zzk4 ?_ ?zzk7 ?zzk8; (case zzk1 => k_asm); (case zzk2 => k_mem); (case zzk3 => assumption); (case zzk4 => assumption); (case zzk7 => with_unfolding_all rfl); (case zzk8 => (intro _; with_unfolding_all rfl))))
  k_with "MYcall" => ((with_reducible show wpAny _ _ (call (Value.builtin "iter") _ _) _ _ _); (k_here; k_dflt (refine' my_iter ?zzF ?zzN ?zzm ?_; (case zzF => k_asm); (case zzN => k_asm); (case zzm => k_mem)); intro _ _ _ _ zl; (try k_lt zl); (revert zl; intro _); (try k_sweep)))
  k_with "MY getAttr ref" => ((with_reducible show wpAny _ _ (getAttr (Value.ref _) _ _) _ _ _); (k_here; (with_reducible show wpAny _ _ (getAttr (Value.ref _) (Str.ofString "__next__") _) _ _ _); k_dflt (refine' mw_getattr ?zzF ?zzN ?zzm ?_; (case zzF => k_asm); (case zzN => k_asm); (case zzm => k_mem)); intro _ _ _ _ _ zl; (try k_lt zl); (revert zl; intro _); (try k_sweep)))
  k_with "MY truthy ref" => ((with_reducible show wpAny _ _ (truthy (Value.ref _)) _ _ _); (k_here; (with_reducible show wpAny _ _ (truthy (Value.ref _)) _ _ _); k_dflt (refine' my_truthy ?zzN ?zzm ?zzz _ ?zzb ?_; (case zzN => k_asm); (case zzm => k_mem); (case zzz => assumption); (case zzb => assumption)); intro _; (try dsimp only)))
  k_with "MY subscriptTail" => ((with_reducible show wpAny _ _ (subscriptTail _ _ (Value.ref _) _) _ _ _); ((with_reducible show wpAny _ _ (subscriptTail _ _ (Value.ref _) (Value.int (-1) _)) _ _ _); k_dflt (refine' my_last ?zzN ?zzm ?zzz ?_ ?zze; (case zzN => k_asm); (case zzm => k_mem); (case zzz => assumption); (case zze => with_unfolding_all rfl))))
  k_with "MY callWith ref" => ((with_reducible show wpAny _ _ (callWith _ (Value.ref _) _ _ []) _ _ _); (k_here; (with_reducible show wpAny _ _ (callWith _ (Value.ref _) _ (backTo _ (starEach [] _)) []) _ _ _); k_dflt (refine' callWith_W ?zzN ?zzq ?_; (case zzN => k_asm); (case zzq => k_mem)); (try dsimp only [List.nil_append])))
  k_with "MYcall" => ((with_reducible show wpAny _ _ (call (Value.builtin "list.pop") _ _) _ _ _); (k_here; k_dflt (refine' my_pop ?zzF ?zzN ?zzU ?zzz ?_; (case zzF => k_asm); (case zzN => k_asm); (case zzU => k_upd); (case zzz => omega)); intro _ _ _; (try k_sweep)))
  k_with "MY delItem ref int" => ((with_reducible show wpAny _ _ (delItem (Value.ref _) (Value.int _ _)) _ _ _); (k_here; k_dflt (refine' kob_del (knd := PySem.intKind _ _) ?zzF ?zzN ?zzU ?zzd (intKind_is _ _ _ _) ?zzl ?zzz ?_; (case zzF => k_asm); (case zzN => k_asm); (case zzU => k_updF); (case zzd => assumption); (case zzl => assumption); (case zzz => assumption)); intro _ _ _ _ _; (try dsimp only at N')))
  k_with "MY getMethod ref" => ((with_reducible show wpAny _ _ (getMethod (Value.ref _) _ _) _ _ _); (k_here; (with_reducible show wpAny _ _ (getMethod (Value.ref _) (Str.ofString "values") _) _ _ _); k_dflt (refine kdl_method (knd := PySem.intKind _ _) PySem.F.slot_dict_values PySem.F.type_dict_values (by k_asm) (by k_mem) (by assumption) ?_)))
  k_with "MYcall" => ((with_reducible show wpAny _ _ (call (Value.builtin "dict.values") _ _) _ _ _); (k_here; k_dflt (refine kdl_view_values (knd := PySem.intKind _ _) (by k_asm) (by k_asm) (by k_mem) (by assumption) (by assumption) ?_); intro _ _ _ _ zl; (try k_lt zl); (revert zl; intro _); (try k_sweep)))
  k_with "MYcall" => ((with_reducible show wpAny _ _ (call (Value.type "bool") _ _) _ _ _); (k_here; k_dflt (refine' my_bool ?zzN ?zzm ?zzz _ ?zzb ?_; (case zzN => k_asm); (case zzm => k_mem); (case zzz => assumption); (case zzb => assumption)); intro _; (try dsimp only)))
  k_with "MYcall" => ((with_reducible show wpAny _ _ (call (Value.type "tuple") _ _) _ _ _); (k_here; k_dflt (refine' my_tupleOf ?zzF ?zzN ?zzm ?zzz ?_; (case zzF => k_asm); (case zzN => k_asm); (case zzm => k_mem); (case zzz => omega)); intro _ _ _ _ zl; (revert zl; intro _); (try k_sweep)))
  k_with "MYcall" => ((with_reducible show wpAny _ _ (call (Value.builtin "list.clear") _ _) _ _ _); (k_here; k_dflt (refine' my_clear ?zzF ?zzN ?zzU ?zzz ?_; (case zzF => k_asm); (case zzN => k_asm); (case zzU => k_upd); (case zzz => omega)); intro _ _ _; (try k_sweep)))
  k_with "MY compareOp NotIn int ref" => ((with_reducible show wpAny _ _ (compareOp CmpOp.NotIn (Value.int _ _) (Value.ref _)) _ _ _); (k_here; k_dflt (refine' my_notin ?zzN ?zzm ?zzi ?_; (case zzN => k_asm); (case zzm => k_mem); (case zzi => assumption)); (try dsimp only)))
  k_with "MYcall" => ((with_reducible show wpAny _ _ (call (Value.builtin "sorted") _ _) _ _ _); (k_here; k_dflt (refine' my_sorted ?zzF ?zzN ?zzm ?zzi ?zzz ?_; (case zzF => k_asm); (case zzN => k_asm); (case zzm => k_mem); (case zzi => assumption); (case zzz => omega)); intro _ _ _ _ _ _ _ zl _ _ _; (try k_lt zl); (revert zl; intro _); (try k_sweep)))
  k_with "MY binaryOp Add ref ref" => ((with_reducible show wpAny _ _ (binaryOp Operator.Add (Value.ref _) (Value.ref _)) _ _ _); (k_here; k_dflt (refine' my_addL ?zzF ?zzN ?zzm ?zzm2 ?zzz ?_; (case zzF => k_asm); (case zzN => k_asm); (case zzm => k_mem); (case zzm2 => k_mem); (case zzz => assumption)); intro _ _ _ _ zl; (try k_lt zl); (revert zl; intro _); (try k_sweep)))
  k_with "MYcall" => ((with_reducible show wpAny _ _ (call (Value.type "list") _ _) _ _ _); (k_here; k_dflt (refine' my_copy ?zzF ?zzN ?zzm ?zzz ?_; (case zzF => k_asm); (case zzN => k_asm); (case zzm => k_mem); (case zzz => omega)); intro _ _ _ _ _ zl; (try k_lt zl); (revert zl; intro _); (try k_sweep)))
  k_with "MYcall" => ((with_reducible show wpAny _ _ (call (Value.builtin "list.pop") _ _) _ _ _); (k_here; (with_reducible show wpAny _ _ (call (Value.builtin _) [Value.ref _, Value.int _ _]) _ _ _); k_dflt (refine' my_popAt ?zzF ?zzN ?zzU ?zzi ?zzz ?_; (case zzF => k_asm); (case zzN => k_asm); (case zzU => k_upd); (case zzi => assumption); (case zzz => omega)); intro _ _ _; (try k_sweep)))
  k_with "MY compareOp NotEq ref ref" => ((with_reducible show wpAny _ _ (compareOp CmpOp.NotEq (Value.ref _) (Value.ref _)) _ _ _); (k_here; k_dflt (refine' my_ne ?zzN ?zzm ?zzm2 ?zzi ?zzj ?zzu ?_; (case zzN => k_asm); (case zzm => k_mem); (case zzm2 => k_mem); (case zzi => assumption); (case zzj => assumption); (case zzu => assumption)); (try dsimp only)))
  k_with "MINE" => ((with_reducible show wpAny _ _ (call _ _ _) _ _ _); k_extra "MYcall")
  k_with "MINE" => ((with_reducible show wpAny _ _ (subscriptTail _ _ (Value.ref _) _) _ _ _); k_extra "MY subscriptTail")
  k_with "MINE" => ((with_reducible show wpAny _ _ (eval (Expr.Name _ _) (envOf _ _ _ _ _)) _ _ _); k_extra "MY eval Name")
  k_with "MINE" => ((with_reducible show wpAny _ _ (getMethod (Value.ref _) _ _) _ _ _); k_extra "MY getMethod ref")
  k_with "MINE" => ((with_reducible show wpAny _ _ (setItem (Value.ref _) (Value.int _ _) _) _ _ _); k_extra "MY setItem ref int")
  k_with "MINE" => ((with_reducible show wpAny _ _ (eval (Expr.Call (Expr.Attribute _ _ _) _ [] _) _) _ _ _); k_extra "MY eval Call Attribute")
  k_with "MINE" => ((with_reducible show wpAny _ _ (callWith _ (Value.ref _) _ _ []) _ _ _); k_extra "MY callWith ref")
  k_with "MINE" => ((with_reducible show StarOf _ _ _ (Value.ref _) _ _); k_extra "MY StarOf ref")
  k_with "MINE" => ((with_reducible show wpAny _ _ (compareOp CmpOp.In (Value.int _ _) (Value.ref _)) _ _ _); k_extra "MY compareOp In int ref")
  k_with "MINE" => ((with_reducible show wpAny _ _ (getAttr (Value.ref _) _ _) _ _ _); k_extra "MY getAttr ref")
  k_with "MINE" => ((with_reducible show wpAny _ _ (truthy (Value.ref _)) _ _ _); k_extra "MY truthy ref")
  k_with "MINE" => ((with_reducible show wpAny _ _ (delItem (Value.ref _) (Value.int _ _)) _ _ _); k_extra "MY delItem ref int")
  k_with "MINE" => ((with_reducible show wpAny _ _ (compareOp CmpOp.NotIn (Value.int _ _) (Value.ref _)) _ _ _); k_extra "MY compareOp NotIn int ref")
  k_with "MINE" => ((with_reducible show wpAny _ _ (binaryOp Operator.Add (Value.ref _) (Value.ref _)) _ _ _); k_extra "MY binaryOp Add ref ref")
  k_with "MINE" => ((with_reducible show wpAny _ _ (compareOp CmpOp.NotEq (Value.ref _) (Value.ref _)) _ _ _); k_extra "MY compareOp NotEq ref ref")
  k_with "MINE steps" => (w_strict (repeat' (first | (k_unfold; (try dsimp only)) | ((fail_if_success (with_reducible show wpAny _ _ _ _ _ _)); refine CutG.out (by assumption) _ _ _ ?_; (try clear khb); (try clear kQb); (try clear ko); (try clear kd); (try clear kg); (try dsimp only)) | ((fail_if_success (with_reducible show wpAny _ _ _ _ _ _)); refine CutH.out (by assumption) _ _ ?_; (try clear kha); (try clear kQa)) | ((with_reducible show wpAny _ _ (execs (_ :: _) _) _ _ _); (first | (refine execs_cut1 (by assumption) ?_; intro kg kd ko _ kQb khb) | (refine execs_cut2 (by assumption) ?_; intro _) | (refine cutQ ?_; intro kQa kha))) | ((fail_if_success (with_reducible show wpAny _ _ (exec (Stmt.While _ _ _ _) _) _ _ _)); (fail_if_success (with_reducible show wpAny _ _ (eval (Expr.ListComp _ _ _ _) _) _ _ _)); (fail_if_success (with_reducible show wpAny _ _ (exec (Stmt.Try _ _ _ _ _) _) _ _ _)); (fail_if_success (with_reducible show wpAny _ _ (exec (Stmt.For _ _ _ _ _) _) _ _ _)); (first | k_extra "MINE" | walk1 | (dsimp only; walk1)))  | fail "no step")))
  k_with "MINE plain" => (w_strict (repeat' (first | (k_unfold; (try dsimp only)) | ((fail_if_success (with_reducible show wpAny _ _ _ _ _ _)); refine CutH.out (by assumption) _ _ ?_; (try clear kha); (try clear kQa)) | ((fail_if_success (with_reducible show wpAny _ _ (exec (Stmt.While _ _ _ _) _) _ _ _)); (fail_if_success (with_reducible show wpAny _ _ (eval (Expr.ListComp _ _ _ _) _) _ _ _)); (fail_if_success (with_reducible show wpAny _ _ (exec (Stmt.Try _ _ _ _ _) _) _ _ _)); (fail_if_success (with_reducible show wpAny _ _ (exec (Stmt.For _ _ _ _ _) _) _ _ _)); (first | k_extra "MINE" | walk1 | (dsimp only; walk1)))  | fail "no step")))
  k_with "MINE cells" => ((walk_at "MINE steps"; all_goals (first | (with_reducible exact (Str.ofString "")) | (with_reducible exact (0 : Addr)) | (with_reducible exact Value.none) | skip)))
  k_with "MINE" => ((with_reducible show wpAny _ _ (eval (Expr.Name _ _) _) _ _ _); (k_here; (with_reducible show wpAny _ _ (eval (Expr.Name _ _) (envOfC _ _ _ _ _)) _ _ _); k_dflt (first
  | (refine' nameX_L ?zzF ?zzv ?_ ?zza ?zzb; (case zzF => k_asm); (case zza => rfl); (case zzb => rfl); (case zzv => first | assumption | exact rfl); k_whole)
  | (refine' nameX_C ?zzN ?zzc ?zzm ?zzd ?_ ?zza ?zzb; (case zza => rfl); (case zzb => rfl); (case zzN => k_asm); (case zzc => rfl); (case zzm => k_mem); (case zzd => k_asm); k_whole)
  | (refine' nameX_K ?zzF ?zzX ?zzT ?zze ?_ ?zza ?zzb; (case zzF => k_asm); (case zzX => k_asm); (case zzT => k_asm); (case zza => rfl); (case zzb => rfl); (case zze => k_is); k_whole)
  | (refine' nameX_B ?zzF ?zzX ?zzT ?zze ?zzv ?zzn ?_ ?zza ?zzb; (case zzF => k_asm); (case zzX => k_asm); (case zzT => k_asm); (case zza => rfl); (case zzb => rfl); (case zze => k_is); (case zzv => boot_fast); (case zzn => decide); k_whole))))
  k_with "MINE" => ((with_reducible show wpAny _ _ (eval (Expr.Name _ _) _) _ _ _); (k_here; (with_reducible show wpAny _ _ (eval (Expr.Name _ _) (compEnvC _ _ _ _)) _ _ _); k_dflt (first
  | refine LCgL.ld_own (by k_asm) (by k_mem) (by assumption) (by assumption) ?_
  | (refine' lcf_cell ?zzN ?zzc ?zzm ?zzd ?_ ?zza ?zzb; (case zza => rfl); (case zzb => rfl); (case zzN => k_asm); (case zzc => rfl); (case zzm => k_mem); (case zzd => k_asm); k_whole)
  | (refine' lcf_free ?zzN ?zzc ?zzm ?zzd ?_ ?zza ?zzb; (case zza => rfl); (case zzb => rfl); (case zzN => k_asm); (case zzc => rfl); (case zzm => k_mem); (case zzd => k_asm); k_whole)
  | refine LCgL.ld_built (by k_asm) (by k_asm) (by k_asm) (by k_is) (by boot_by_name) (by decide) ?_)))
  k_with "MINE cellsP" => ((walk_at "MINE plain"; all_goals (first | (with_reducible exact (Str.ofString "")) | (with_reducible exact (0 : Addr)) | (with_reducible exact Value.none) | skip)))
  trivial
abbrev lamB (p1 p2 p3 : Pos) : Expr := .Subscript (.Name (Str.ofString "turns") p1) (.Name (Str.ofString "other") p2) p3
abbrev lamA (p0 : Pos) : Arguments := { posonlyargs := [], args := [{ arg := Str.ofString "other", annotation := none, pos := p0 }], vararg := none, kwonlyargs := [], kw_defaults := [], kwarg := none, defaults := [] }
abbrev lamS : Scope := { kind := .function, names := [(Str.ofString "other", .local), (Str.ofString "turns", .free)], isGenerator := false, isCoroutine := false, more := [] }
/-- f is turns[..] as a function, over the dict S -/
structure LamIs (w : World) (news : List (Addr × Obj)) (f : Addr) (S : List (Int × Int × Tok)) : Prop where
  ex : ∃ name qual p0 p1 p2 p3 cT pm c' ctv oc vs t oT aS oS, (f, kla_obj name qual (lamA p0) (lamB p1 p2 p3) lamS [(Str.ofString "turns", cT)] pm c' ctv) ∈ news ∧ (c', oc) ∈ news ∧ oc.data = .fields vs ∧ vs[1]? = some (.str qual t) ∧
    (cT, oT) ∈ news ∧ oT.data = .cell (some (.ref aS)) ∧ (aS, oS) ∈ news ∧ oS.IsDictOf (intKind PySem.Challenge.rw_mr0333_01.row.prog w) (kvI S)
theorem lam_spec {w : World} {A A₀ : Around} {env : Env} {outer : List Env} {base h₀ : Heap} {L : Addr} {m mg mb : Str → Option Value} {p : Program} {loose : List Str} {mean : ExcName → Option Value} {s : Shared} {news : List (Addr × Obj)} {R : Result → Shared → Prop}
    {f : Addr} {S : List (Int × Int × Tok)} {v : Int} {tv : Tok}
    (C : Cx w A A₀ env outer base h₀ L m mg mb p loose mean s.heap news 900) (hl : LamIs w news f S) (hv : v ∈ S.map (·.1))
    (hR : ∀ h' tk t', Fr h₀ L h' m → News h₀ L h' news → R (.ok (.ret (.int (stp S v) t'))) { s with heap := h', toks := tk }) :
    codeAny (model PySem.Challenge.rw_mr0333_01.row.prog w) A (.call (.ref f) ⟨[.int v tv], []⟩) R s := by
  obtain ⟨B, F, X, N, T, hA, hf, hke, hdep, hh⟩ := C
  obtain ⟨name, qual, p0, p1, p2, p3, cT, pm, c', ctv, oc, vs, t, oT, aS, oS, hm, hc, hd1, hd2, hcT, hTd, hmS, hS⟩ := hl.ex
  obtain ⟨q, hq, q1, q2, q3⟩ := kvI_find hv
  refine' kla_code (binds := [(Str.ofString "other", .int v tv)]) B F X N T hA hf hke hm (codeRec_news N hc hd1 hd2) (by show A.depth < 1000; omega) rfl (locs rfl) ?_ rfl rfl rfl (by decide)
  intro g' L' h' FG' F' N' B' X' T'
  refine wpAny_mono (E := fun _ _ => False) ?_ (fun _ _ x => x) (fun _ _ x => x.elim)
  w_strict walk1
  refine nameX_F (o := oT) N' rfl hcT hTd ?_ rfl rfl
  refine nameX_L F' rfl ?_ rfl rfl
  refine kda_item (knd := intKind _ _) N' hmS hS (intKind_is _ _ _ _) q3 ?_ (by with_unfolding_all rfl) (by intro _; with_unfolding_all rfl)
  exact ⟨_, _, _, F', N', fun a b => hR _ _ _ a b⟩

end Mine
-- P18
namespace Mine
open PySem PySem.W PyProof.Rows
example : True := by
  k_with_none
  k_with "MYcall" => ((with_reducible show wpAny _ _ (call (Value.builtin "len") _ _) _ _ _); (refine' my_len ?zzk1 ?zzk2 ?zzk3 ?_; (case zzk1 => k_asm); (case zzk2 => k_mem); (case zzk3 => omega); intro _ _))
  k_with "MY subscriptTail" => ((with_reducible show wpAny _ _ (subscriptTail _ _ (Value.ref _) _) _ _ _); ((with_reducible show wpAny _ _ (subscriptTail _ _ (Value.ref _) (Value.int _ _)) _ _ _); with_unfolding_all refine' my_item ?zzk1 ?zzk2 ?zzk3 ?zzk4 ?zzk5 ?zzk6 ?_ ?zzk7; (case zzk1 => k_asm); (case zzk2 => k_mem); (case zzk3 => assumption); (case zzk4 => omega); (case zzk5 => omega); (case zzk6 => omega); (case zzk7 => with_unfolding_all rfl);  intro _))
  k_with "MY eval Name" => ((with_reducible show wpAny _ _ (eval (Expr.Name _ _) (envOf _ _ _ _ _)) _ _ _); (k_here; k_dflt (refine' ld ?zzk1 ?zzk2 ?_; (case zzk1 => k_asm); (case zzk2 => assumption); k_whole)))
  k_with "MYcall" => ((with_reducible show wpAny _ _ (call (Value.builtin "list.insert") _ _) _ _ _); (k_here; k_dflt (refine' my_insert ?zzF ?zzN ?zzU ?zzhk ?zzz ?_; (case zzF => k_asm); (case zzN => k_asm); (case zzU => k_upd); (case zzhk => omega); (case zzz => omega); k_whole); intro _ _ _; (try k_sweep)))
  k_with "MYcall" => ((with_reducible show wpAny _ _ (call (Value.builtin "dict.get") _ _) _ _ _); (k_here; k_dflt (first | refine kdg_get1 (knd := PySem.intKind _ _) (by k_asm) (by k_mem) (by assumption) (by assumption) (intKind_is _ _ _ _) none (by assumption) ?_ | refine kdg_get1 (knd := PySem.intKind _ _) (by k_asm) (by k_mem) (by assumption) (by assumption) (intKind_is _ _ _ _) (some _) (by assumption) ?_); (try dsimp only [Option.getD])))
  k_with "MY getMethod ref" => ((with_reducible show wpAny _ _ (getMethod (Value.ref _) _ _) _ _ _); (k_here; (with_reducible show wpAny _ _ (getMethod (Value.ref _) (Str.ofString "get") _) _ _ _); k_dflt (refine kdg_method (knd := PySem.intKind _ _) (by k_asm) (by k_mem) (by assumption) ?_)))
  k_with "MY setItem ref int" => ((with_reducible show wpAny _ _ (setItem (Value.ref _) (Value.int _ _) _) _ _ _); (k_here; k_dflt (refine' kda_set (knd := PySem.intKind _ _) ?zzF ?zzN ?zzU ?zzd (intKind_is _ _ _ _) ?zzz ?_; (case zzF => k_asm); (case zzN => k_asm); (case zzU => k_updF); (case zzd => assumption); (case zzz => assumption)); intro _ _ _ _ _; (try dsimp only at N'); (try k_sweep)))
  k_with "MYcall" => ((with_reducible show wpAny _ _ (call (Value.builtin "len") _ _) _ _ _); (refine' my_lenT ?zzk1 ?zzk2 ?zzk3 ?_; (case zzk1 => k_asm); (case zzk2 => k_mem); (case zzk3 => omega); intro _ _))
  k_with "MY eval Call Attribute" => ((with_reducible show wpAny _ _ (eval (Expr.Call (Expr.Attribute _ _ _) _ [] _) _) _ _ _); (k_here; (with_reducible show wpAny _ _ (eval (Expr.Call (Expr.Attribute _ _ _) _ [] _) _) _ _ _); ks_star; refine star_method ?_))
  k_with "MY callWith ref" => ((with_reducible show wpAny _ _ (callWith _ (Value.ref _) _ _ []) _ _ _); (k_here; (with_reducible show wpAny _ _ (callWith _ (Value.ref _) _ (backTo _ (starEach [Expr.Starred _ _] _)) []) _ _ _); k_dflt (refine' callWith_MS ?zzX ?zzN ?zzq ?zzk2 ?_; (case zzX => k_asm); (case zzN => k_asm); (case zzq => k_mem); (case zzk2 => k_is); k_whole)))
  k_with "MY callWith ref" => ((with_reducible show wpAny _ _ (callWith _ (Value.ref _) _ _ []) _ _ _); (k_here; (with_reducible show wpAny _ _ (callWith _ (Value.ref _) _ (backTo _ (starEach (_ :: _ :: _) _)) []) _ _ _); ks_star; k_dflt (refine' callWith_MS2 ?zzX ?zzN ?zzq ?zzk2 ?_; (case zzX => k_asm); (case zzN => k_asm); (case zzq => k_mem); (case zzk2 => k_is); k_whole)))
  k_with "MY StarOf ref" => ((with_reducible show StarOf _ _ _ (Value.ref _) _ _); (k_here; k_dflt (first | (refine' my_star ?zzF ?zzN ?zzm ?zzi ?zzz ?_; (case zzF => k_asm); (case zzN => k_asm); (case zzm => k_mem); (case zzi => assumption); (case zzz => omega); k_whole) | (refine' my_starT ?zzF ?zzN ?zzm ?zzi ?zzz ?_; (case zzF => k_asm); (case zzN => k_asm); (case zzm => k_mem); (case zzi => assumption); (case zzz => omega); k_whole)); intro _ _ _; (try k_sweep); (try dsimp only [List.nil_append, List.cons_append])))
  k_with "MY compareOp In int ref" => ((with_reducible show wpAny _ _ (compareOp CmpOp.In (Value.int _ _) (Value.ref _)) _ _ _); (k_here; k_dflt (first | (refine' kse_in (knd := PySem.intKind _ _) ?zzN ?zzU ?zzd ?zzz (intKind_is _ _ _ _) rfl ?_; (case zzN => k_asm); (case zzU => k_updF); (case zzd => assumption); (case zzz => (show _ < 4096; omega))) | (refine' kda_in (knd := PySem.intKind _ _) ?zzN ?zzm ?zzd ?zzlo (intKind_is _ _ _ _) false ?zzb ?_; (case zzN => k_asm); (case zzm => k_mem); (case zzd => assumption); (case zzlo => assumption); (case zzb => assumption))); (try dsimp only)))
  k_with "MY getMethod ref" => ((with_reducible show wpAny _ _ (getMethod (Value.ref _) _ _) _ _ _); (k_here; (with_reducible show wpAny _ _ (getMethod (Value.ref _) (Str.ofString "add") _) _ _ _); k_dflt (refine' kse_method (knd := PySem.intKind _ _) ?zzN ?zzU ?zzd ?zzz ?_; (case zzN => k_asm); (case zzU => k_updF); (case zzd => assumption); (case zzz => (show _ < 4096; omega)))))
  k_with "MYcall" => ((with_reducible show wpAny _ _ (call (Value.builtin "set.add") _ _) _ _ _); (k_here; k_dflt (refine' kse_add (knd := PySem.intKind _ _) ?zzF ?zzN ?zzU ?zzd ?zzz (intKind_is _ _ _ _) rfl ?_; (case zzF => k_asm); (case zzN => k_asm); (case zzU => k_updF); (case zzd => assumption); (case zzz => (show _ < 4096; omega))); intro _ _ _ _ _; (try dsimp only at N'); (try k_sweep)))
  k_with "MY subscriptTail" => ((with_reducible show wpAny _ _ (subscriptTail _ _ (Value.ref _) _) _ _ _); ((with_reducible show wpAny _ _ (subscriptTail _ _ (Value.ref _) (Value.int _ _)) _ _ _); with_unfolding_all refine' kda_item (knd := PySem.intKind _ _) ?zzk1 ?zzk2 ?zzk3 (intKind_is _ _ _ _) ?zzk4 ?_ ?zzk7 ?zzk8; (case zzk1 => k_asm); (case zzk2 => k_mem); (case zzk3 => assumption); (case zzk4 => assumption); (case zzk7 => with_unfolding_all rfl); (case zzk8 => (intro _; with_unfolding_all rfl))))
  k_with "MYcall" => ((with_reducible show wpAny _ _ (call (Value.builtin "iter") _ _) _ _ _); (k_here; k_dflt (refine' my_iter ?zzF ?zzN ?zzm ?_; (case zzF => k_asm); (case zzN => k_asm); (case zzm => k_mem)); intro _ _ _ _ zl; (try k_lt zl); (revert zl; intro _); (try k_sweep)))
  k_with "MY getAttr ref" => ((with_reducible show wpAny _ _ (getAttr (Value.ref _) _ _) _ _ _); (k_here; (with_reducible show wpAny _ _ (getAttr (Value.ref _) (Str.ofString "__next__") _) _ _ _); k_dflt (refine' mw_getattr ?zzF ?zzN ?zzm ?_; (case zzF => k_asm); (case zzN => k_asm); (case zzm => k_mem)); intro _ _ _ _ _ zl; (try k_lt zl); (revert zl; intro _); (try k_sweep)))
  k_with "MY truthy ref" => ((with_reducible show wpAny _ _ (truthy (Value.ref _)) _ _ _); (k_here; (with_reducible show wpAny _ _ (truthy (Value.ref _)) _ _ _); k_dflt (refine' my_truthy ?zzN ?zzm ?zzz _ ?zzb ?_; (case zzN => k_asm); (case zzm => k_mem); (case zzz => assumption); (case zzb => assumption)); intro _; (try dsimp only)))
  k_with "MY subscriptTail" => ((with_reducible show wpAny _ _ (subscriptTail _ _ (Value.ref _) _) _ _ _); ((with_reducible show wpAny _ _ (subscriptTail _ _ (Value.ref _) (Value.int (-1) _)) _ _ _); k_dflt (refine' my_last ?zzN ?zzm ?zzz ?_ ?zze; (case zzN => k_asm); (case zzm => k_mem); (case zzz => assumption); (case zze => with_unfolding_all rfl))))
  k_with "MY callWith ref" => ((with_reducible show wpAny _ _ (callWith _ (Value.ref _) _ _ []) _ _ _); (k_here; (with_reducible show wpAny _ _ (callWith _ (Value.ref _) _ (backTo _ (starEach [] _)) []) _ _ _); k_dflt (refine' callWith_W ?zzN ?zzq ?_; (case zzN => k_asm); (case zzq => k_mem)); (try dsimp only [List.nil_append])))
  k_with "MYcall" => ((with_reducible show wpAny _ _ (call (Value.builtin "list.pop") _ _) _ _ _); (k_here; k_dflt (refine' my_pop ?zzF ?zzN ?zzU ?zzz ?_; (case zzF => k_asm); (case zzN => k_asm); (case zzU => k_upd); (case zzz => omega)); intro _ _ _; (try k_sweep)))
  k_with "MY delItem ref int" => ((with_reducible show wpAny _ _ (delItem (Value.ref _) (Value.int _ _)) _ _ _); (k_here; k_dflt (refine' kob_del (knd := PySem.intKind _ _) ?zzF ?zzN ?zzU ?zzd (intKind_is _ _ _ _) ?zzl ?zzz ?_; (case zzF => k_asm); (case zzN => k_asm); (case zzU => k_updF); (case zzd => assumption); (case zzl => assumption); (case zzz => assumption)); intro _ _ _ _ _; (try dsimp only at N')))
  k_with "MY getMethod ref" => ((with_reducible show wpAny _ _ (getMethod (Value.ref _) _ _) _ _ _); (k_here; (with_reducible show wpAny _ _ (getMethod (Value.ref _) (Str.ofString "values") _) _ _ _); k_dflt (refine kdl_method (knd := PySem.intKind _ _) PySem.F.slot_dict_values PySem.F.type_dict_values (by k_asm) (by k_mem) (by assumption) ?_)))
  k_with "MYcall" => ((with_reducible show wpAny _ _ (call (Value.builtin "dict.values") _ _) _ _ _); (k_here; k_dflt (refine kdl_view_values (knd := PySem.intKind _ _) (by k_asm) (by k_asm) (by k_mem) (by assumption) (by assumption) ?_); intro _ _ _ _ zl; (try k_lt zl); (revert zl; intro _); (try k_sweep)))
  k_with "MYcall" => ((with_reducible show wpAny _ _ (call (Value.type "bool") _ _) _ _ _); (k_here; k_dflt (refine' my_bool ?zzN ?zzm ?zzz _ ?zzb ?_; (case zzN => k_asm); (case zzm => k_mem); (case zzz => assumption); (case zzb => assumption)); intro _; (try dsimp only)))
  k_with "MYcall" => ((with_reducible show wpAny _ _ (call (Value.type "tuple") _ _) _ _ _); (k_here; k_dflt (refine' my_tupleOf ?zzF ?zzN ?zzm ?zzz ?_; (case zzF => k_asm); (case zzN => k_asm); (case zzm => k_mem); (case zzz => omega)); intro _ _ _ _ zl; (revert zl; intro _); (try k_sweep)))
  k_with "MYcall" => ((with_reducible show wpAny _ _ (call (Value.builtin "list.clear") _ _) _ _ _); (k_here; k_dflt (refine' my_clear ?zzF ?zzN ?zzU ?zzz ?_; (case zzF => k_asm); (case zzN => k_asm); (case zzU => k_upd); (case zzz => omega)); intro _ _ _; (try k_sweep)))
  k_with "MY compareOp NotIn int ref" => ((with_reducible show wpAny _ _ (compareOp CmpOp.NotIn (Value.int _ _) (Value.ref _)) _ _ _); (k_here; k_dflt (refine' my_notin ?zzN ?zzm ?zzi ?_; (case zzN => k_asm); (case zzm => k_mem); (case zzi => assumption)); (try dsimp only)))
  k_with "MYcall" => ((with_reducible show wpAny _ _ (call (Value.builtin "sorted") _ _) _ _ _); (k_here; k_dflt (refine' my_sorted ?zzF ?zzN ?zzm ?zzi ?zzz ?_; (case zzF => k_asm); (case zzN => k_asm); (case zzm => k_mem); (case zzi => assumption); (case zzz => omega)); intro _ _ _ _ _ _ _ zl _ _ _; (try k_lt zl); (revert zl; intro _); (try k_sweep)))
  k_with "MY binaryOp Add ref ref" => ((with_reducible show wpAny _ _ (binaryOp Operator.Add (Value.ref _) (Value.ref _)) _ _ _); (k_here; k_dflt (refine' my_addL ?zzF ?zzN ?zzm ?zzm2 ?zzz ?_; (case zzF => k_asm); (case zzN => k_asm); (case zzm => k_mem); (case zzm2 => k_mem); (case zzz => assumption)); intro _ _ _ _ zl; (try k_lt zl); (revert zl; intro _); (try k_sweep)))
  k_with "MYcall" => ((with_reducible show wpAny _ _ (call (Value.type "list") _ _) _ _ _); (k_here; k_dflt (refine' my_copy ?zzF ?zzN ?zzm ?zzz ?_; (case zzF => k_asm); (case zzN => k_asm); (case zzm => k_mem); (case zzz => omega)); intro _ _ _ _ _ zl; (try k_lt zl); (revert zl; intro _); (try k_sweep)))
  k_with "MYcall" => ((with_reducible show wpAny _ _ (call (Value.builtin "list.pop") _ _) _ _ _); (k_here; (with_reducible show wpAny _ _ (call (Value.builtin _) [Value.ref _, Value.int _ _]) _ _ _); k_dflt (refine' my_popAt ?zzF ?zzN ?zzU ?zzi ?zzz ?_; (case zzF => k_asm); (case zzN => k_asm); (case zzU => k_upd); (case zzi => assumption); (case zzz => omega)); intro _ _ _; (try k_sweep)))
  k_with "MY compareOp NotEq ref ref" => ((with_reducible show wpAny _ _ (compareOp CmpOp.NotEq (Value.ref _) (Value.ref _)) _ _ _); (k_here; k_dflt (refine' my_ne ?zzN ?zzm ?zzm2 ?zzi ?zzj ?zzu ?_; (case zzN => k_asm); (case zzm => k_mem); (case zzm2 => k_mem); (case zzi => assumption); (case zzj => assumption); (case zzu => assumption)); (try dsimp only)))
  k_with "MINE" => ((with_reducible show wpAny _ _ (call _ _ _) _ _ _); k_extra "MYcall")
  k_with "MINE" => ((with_reducible show wpAny _ _ (subscriptTail _ _ (Value.ref _) _) _ _ _); k_extra "MY subscriptTail")
  k_with "MINE" => ((with_reducible show wpAny _ _ (eval (Expr.Name _ _) (envOf _ _ _ _ _)) _ _ _); k_extra "MY eval Name")
  k_with "MINE" => ((with_reducible show wpAny _ _ (getMethod (Value.ref _) _ _) _ _ _); k_extra "MY getMethod ref")
  k_with "MINE" => ((with_reducible show wpAny _ _ (setItem (Value.ref _) (Value.int _ _) _) _ _ _); k_extra "MY setItem ref int")
  k_with "MINE" => ((with_reducible show wpAny _ _ (eval (Expr.Call (Expr.Attribute _ _ _) _ [] _) _) _ _ _); k_extra "MY eval Call Attribute")
  k_with "MINE" => ((with_reducible show wpAny _ _ (callWith _ (Value.ref _) _ _ []) _ _ _); k_extra "MY callWith ref")
  k_with "MINE" => ((with_reducible show StarOf _ _ _ (Value.ref _) _ _); k_extra "MY StarOf ref")
  k_with "MINE" => ((with_reducible show wpAny _ _ (compareOp CmpOp.In (Value.int _ _) (Value.ref _)) _ _ _); k_extra "MY compareOp In int ref")
  k_with "MINE" => ((with_reducible show wpAny _ _ (getAttr (Value.ref _) _ _) _ _ _); k_extra "MY getAttr ref")
  k_with "MINE" => ((with_reducible show wpAny _ _ (truthy (Value.ref _)) _ _ _); k_extra "MY truthy ref")
  k_with "MINE" => ((with_reducible show wpAny _ _ (delItem (Value.ref _) (Value.int _ _)) _ _ _); k_extra "MY delItem ref int")
  k_with "MINE" => ((with_reducible show wpAny _ _ (compareOp CmpOp.NotIn (Value.int _ _) (Value.ref _)) _ _ _); k_extra "MY compareOp NotIn int ref")
  k_with "MINE" => ((with_reducible show wpAny _ _ (binaryOp Operator.Add (Value.ref _) (Value.ref _)) _ _ _); k_extra "MY binaryOp Add ref ref")
  k_with "MINE" => ((with_reducible show wpAny _ _ (compareOp CmpOp.NotEq (Value.ref _) (Value.ref _)) _ _ _); k_extra "MY compareOp NotEq ref ref")
  k_with "MINE steps" => (w_strict (repeat' (first | (k_unfold; (try dsimp only)) | ((fail_if_success (with_reducible show wpAny _ _ _ _ _ _)); refine CutG.out (by assumption) _ _ _ ?_; (try clear khb); (try clear kQb); (try clear ko); (try clear kd); (try clear kg); (try dsimp only)) | ((fail_if_success (with_reducible show wpAny _ _ _ _ _ _)); refine CutH.out (by assumption) _ _ ?_; (try clear kha); (try clear kQa)) | ((with_reducible show wpAny _ _ (execs (_ :: _) _) _ _ _); (first | (refine execs_cut1 (by assumption) ?_; intro kg kd ko _ kQb khb) | (refine execs_cut2 (by assumption) ?_; intro _) | (refine cutQ ?_; intro kQa kha))) | ((fail_if_success (with_reducible show wpAny _ _ (exec (Stmt.While _ _ _ _) _) _ _ _)); (fail_if_success (with_reducible show wpAny _ _ (eval (Expr.ListComp _ _ _ _) _) _ _ _)); (fail_if_success (with_reducible show wpAny _ _ (exec (Stmt.Try _ _ _ _ _) _) _ _ _)); (fail_if_success (with_reducible show wpAny _ _ (exec (Stmt.For _ _ _ _ _) _) _ _ _)); (first | k_extra "MINE" | walk1 | (dsimp only; walk1)))  | fail "no step")))
  k_with "MINE plain" => (w_strict (repeat' (first | (k_unfold; (try dsimp only)) | ((fail_if_success (with_reducible show wpAny _ _ _ _ _ _)); refine CutH.out (by assumption) _ _ ?_; (try clear kha); (try clear kQa)) | ((fail_if_success (with_reducible show wpAny _ _ (exec (Stmt.While _ _ _ _) _) _ _ _)); (fail_if_success (with_reducible show wpAny _ _ (eval (Expr.ListComp _ _ _ _) _) _ _ _)); (fail_if_success (with_reducible show wpAny _ _ (exec (Stmt.Try _ _ _ _ _) _) _ _ _)); (fail_if_success (with_reducible show wpAny _ _ (exec (Stmt.For _ _ _ _ _) _) _ _ _)); (first | k_extra "MINE" | walk1 | (dsimp only; walk1)))  | fail "no step")))
  k_with "MINE cells" => ((walk_at "MINE steps"; all_goals (first | (with_reducible exact (Str.ofString "")) | (with_reducible exact (0 : Addr)) | (with_reducible exact Value.none) | skip)))
  k_with "MINE" => ((with_reducible show wpAny _ _ (eval (Expr.Name _ _) _) _ _ _); (k_here; (with_reducible show wpAny _ _ (eval (Expr.Name _ _) (envOfC _ _ _ _ _)) _ _ _); k_dflt (first
  | (refine' nameX_L ?zzF ?zzv ?_ ?zza ?zzb; (case zzF => k_asm); (case zza => rfl); (case zzb => rfl); (case zzv => first | assumption | exact rfl); k_whole)
  | (refine' nameX_C ?zzN ?zzc ?zzm ?zzd ?_ ?zza ?zzb; (case zza => rfl); (case zzb => rfl); (case zzN => k_asm); (case zzc => rfl); (case zzm => k_mem); (case zzd => k_asm); k_whole)
  | (refine' nameX_K ?zzF ?zzX ?zzT ?zze ?_ ?zza ?zzb; (case zzF => k_asm); (case zzX => k_asm); (case zzT => k_asm); (case zza => rfl); (case zzb => rfl); (case zze => k_is); k_whole)
  | (refine' nameX_B ?zzF ?zzX ?zzT ?zze ?zzv ?zzn ?_ ?zza ?zzb; (case zzF => k_asm); (case zzX => k_asm); (case zzT => k_asm); (case zza => rfl); (case zzb => rfl); (case zze => k_is); (case zzv => boot_fast); (case zzn => decide); k_whole))))
  k_with "MINE" => ((with_reducible show wpAny _ _ (eval (Expr.Name _ _) _) _ _ _); (k_here; (with_reducible show wpAny _ _ (eval (Expr.Name _ _) (compEnvC _ _ _ _)) _ _ _); k_dflt (first
  | refine LCgL.ld_own (by k_asm) (by k_mem) (by assumption) (by assumption) ?_
  | (refine' lcf_cell ?zzN ?zzc ?zzm ?zzd ?_ ?zza ?zzb; (case zza => rfl); (case zzb => rfl); (case zzN => k_asm); (case zzc => rfl); (case zzm => k_mem); (case zzd => k_asm); k_whole)
  | (refine' lcf_free ?zzN ?zzc ?zzm ?zzd ?_ ?zza ?zzb; (case zza => rfl); (case zzb => rfl); (case zzN => k_asm); (case zzc => rfl); (case zzm => k_mem); (case zzd => k_asm); k_whole)
  | refine LCgL.ld_built (by k_asm) (by k_asm) (by k_asm) (by k_is) (by boot_by_name) (by decide) ?_)))
  k_with "MINE cellsP" => ((walk_at "MINE plain"; all_goals (first | (with_reducible exact (Str.ofString "")) | (with_reducible exact (0 : Addr)) | (with_reducible exact Value.none) | skip)))
  k_with "MY callWith ref" => ((with_reducible show wpAny _ _ (callWith _ (Value.ref _) _ _ []) _ _ _); (k_here; k_dflt (first
  | (refine' callWith_F ?zzk1 ?_; (case zzk1 => exact FnAt.of (by k_asm) (by assumption)); k_whole)
  | (refine' callWith_F0 ?zzk1 ?_; (case zzk1 => exact FnAt.of (by k_asm) (by assumption)); k_whole; try dsimp only [List.nil_append, List.cons_append]))))
  k_with "MINE" => ((with_reducible show wpAny _ _ (callWith _ (Value.ref _) _ _ []) _ _ _); k_extra "MY callWith ref")
  trivial
theorem getD_map {xs : List Int} {f : Int → Int} {k : Nat} (hk : k < xs.length) : (xs.map f).getD k 0 = f (xs.getD k 0) := by
  rw [List.getD_eq_getElem?_getD, List.getD_eq_getElem?_getD, List.getElem?_map, List.getElem?_eq_getElem hk]; rfl
theorem getD_mem' {xs : List Int} {k : Nat} (hk : k < xs.length) : xs.getD k 0 ∈ xs := by
  rw [List.getD_eq_getElem?_getD, List.getElem?_eq_getElem hk]; exact List.getElem_mem hk
theorem blk_spec {w : World} {A A₀ : Around} {env : Env} {outer : List Env} {base h₀ : Heap} {L : Addr} {m mg mb : Str → Option Value} {p : Program} {loose : List Str} {mean : ExcName → Option Value} {s : Shared} {news : List (Addr × Obj)} {R : Result → Shared → Prop}
    {a f : Addr} {vs : List Value} {xs : List Int} {n : Nat} {x : Int} {tx : Tok} {S : List (Int × Int × Tok)}
    (C : Cx w A A₀ env outer base h₀ L m mg mb p loose mean s.heap news 898) (hN : (a, W.listOf vs.toArray n) ∈ news) (hi : IntsAre vs xs) (hlen : xs.length ≤ 1000) (hl : LamIs w news f S) (hin : ∀ y ∈ xs, y ∈ S.map (·.1)) (hs : (xs.map (stp S)).Pairwise (· < ·))
    (hR : ∀ h' tk t' k, Fr h₀ L h' m → News h₀ L h' news → k ≤ xs.length → (∀ y ∈ (xs.map (stp S)).take k, y < x) → (∀ y ∈ (xs.map (stp S)).drop k, x ≤ y) → R (.ok (.ret (.int k t'))) { s with heap := h', toks := tk }) :
    codeAny (model PySem.Challenge.rw_mr0333_01.row.prog w) A (.call (.ref 48) ⟨[.ref a, .int x tx], [(Str.ofString "key", .ref f)]⟩) R s := by
  obtain ⟨B, F, X, N, T, hA, hf, hke, hdep, hh⟩ := C
  revert X
  k_fill
  intro X
  have hl2 := hl
  obtain ⟨name, qual, p0, p1, p2, p3, cT, pm, c', ctv, oc, vs', t, oT, aS, oS, hm, -⟩ := hl2.ex
  have hl' := hi.length
  refine' enterD (binds := [(Str.ofString "a", .ref a), (Str.ofString "x", .int x tx), (Str.ofString "lo", .int 0 223), (Str.ofString "hi", .none), (Str.ofString "key", .ref f)]) B F X N T hA hf hke (by k_is) (by k_is) (by show A.depth < 1000; omega) (kp_binds (by k_in) (fun _ => rfl)) (locs rfl) ?_ rfl rfl rfl (by decide)
  intro g' L' h' FG' F' N' B' X' T' hA'
  walk_at "MINE steps"
  refine' while_inv (fun (c : Nat × Nat) h => c.1 ≤ c.2 ∧ c.2 ≤ xs.length ∧ (∀ y ∈ (xs.map (stp S)).take c.1, y < x) ∧ (∀ y ∈ (xs.map (stp S)).drop c.2, x ≤ y) ∧ ∃ m', Fr g' L' h m' ∧ News g' L' h news ∧ m' (Str.ofString "a") = some (.ref a) ∧ m' (Str.ofString "x") = some (.int x tx) ∧ m' (Str.ofString "key") = some (.ref f) ∧ HasI m' (Str.ofString "lo") c.1 ∧ HasI m' (Str.ofString "hi") c.2) (fun c => c.2 - c.1) (0, xs.length) ?_ ?_
  · exact ⟨Nat.zero_le _, Nat.le_refl _, by simp, by rw [List.drop_eq_nil_of_le (by simp)]; simp, _, by assumption, by assumption, rfl, rfl, rfl, ⟨_, rfl⟩, HasI.of rfl (by dsimp only; omega)⟩
  · rintro ⟨lo, hi'⟩ h tk ⟨h2, h3, h4, h5, m', F', N', ma, mx, mk', ⟨t1, mlo⟩, ⟨t2, mhi⟩⟩
    dsimp only at *
    walk_at "MINE steps"
    · have hm2 : (((lo : Int) + hi').fdiv 2) = (((lo + hi') / 2 : Nat) : Int) := by rw [Int.fdiv_eq_ediv_of_nonneg _ (by omega)]; omega
      have hlt : lo < hi' := by omega
      have hmn : (((lo : Int) + hi').fdiv 2).toNat = (lo + hi') / 2 := by rw [hm2, Int.toNat_natCast]
      rename News _ _ _ _ => N6
      rename Fr _ _ _ _ => F6
      refine wpAny_call (lam_spec ⟨B', F6, X', N6, T', hA', rfl, rfl, by show A.depth + 1 ≤ 900; omega, hh⟩ hl (hin _ (getD_mem' (by omega))) ?_)
      intro h7 tk7 t7 F7 N7
      rw [hmn]
      generalize hz : stp S (xs.getD ((lo + hi') / 2) 0) = z at *
      clear F6 N6
      walk_at "MINE steps"
      · rename z < x => hx
        have hx2 : (xs.map (stp S)).getD ((lo + hi') / 2) 0 < x := by rw [getD_map (by omega), hz]; exact hx
        refine ⟨((lo + hi') / 2 + 1, hi'), _, _, rfl, (by dsimp only; omega), (by dsimp only; omega), h3, bis_take hs (by rw [List.length_map]; omega) hx2, h5, _, by assumption, by assumption, ?_⟩
        exact ⟨ma, mx, mk', HasI.of rfl (by dsimp only; omega), ⟨_, mhi⟩⟩
      · rename ¬ z < x => hx
        have hx2 : x ≤ (xs.map (stp S)).getD ((lo + hi') / 2) 0 := by rw [getD_map (by omega), hz]; exact Int.not_lt.mp hx
        refine ⟨(lo, (lo + hi') / 2), _, _, rfl, (by dsimp only; omega), (by dsimp only; omega), (by dsimp only; omega), h4, bis_drop hs (by rw [List.length_map]; dsimp only; omega) hx2, _, by assumption, by assumption, ?_⟩
        exact ⟨ma, mx, mk', ⟨_, mlo⟩, HasI.of rfl (by dsimp only; omega)⟩
    · exact hR _ _ _ lo (by assumption) (by assumption) (by omega) h4 ((show lo = hi' by omega) ▸ h5)

end Mine
-- P19
namespace Mine
open PySem PySem.W PyProof.Rows
example : True := by
  k_with_none
  k_with "MYcall" => ((with_reducible show wpAny _ _ (call (Value.builtin "len") _ _) _ _ _); (refine' my_len ?zzk1 ?zzk2 ?zzk3 ?_; (case zzk1 => k_asm); (case zzk2 => k_mem); (case zzk3 => omega); intro _ _))
  k_with "MY subscriptTail" => ((with_reducible show wpAny _ _ (subscriptTail _ _ (Value.ref _) _) _ _ _); ((with_reducible show wpAny _ _ (subscriptTail _ _ (Value.ref _) (Value.int _ _)) _ _ _); with_unfolding_all refine' my_item ?zzk1 ?zzk2 ?zzk3 ?zzk4 ?zzk5 ?zzk6 ?_ ?zzk7; (case zzk1 => k_asm); (case zzk2 => k_mem); (case zzk3 => assumption); (case zzk4 => omega); (case zzk5 => omega); (case zzk6 => omega); (case zzk7 => with_unfolding_all rfl);  intro _))
  k_with "MY eval Name" => ((with_reducible show wpAny _ _ (eval (Expr.Name _ _) (envOf _ _ _ _ _)) _ _ _); (k_here; k_dflt (refine' ld ?zzk1 ?zzk2 ?_; (case zzk1 => k_asm); (case zzk2 => assumption); k_whole)))
  k_with "MYcall" => ((with_reducible show wpAny _ _ (call (Value.builtin "list.insert") _ _) _ _ _); (k_here; k_dflt (refine' my_insert ?zzF ?zzN ?zzU ?zzhk ?zzz ?_; (case zzF => k_asm); (case zzN => k_asm); (case zzU => k_upd); (case zzhk => omega); (case zzz => omega); k_whole); intro _ _ _; (try k_sweep)))
  k_with "MYcall" => ((with_reducible show wpAny _ _ (call (Value.builtin "dict.get") _ _) _ _ _); (k_here; k_dflt (first | refine kdg_get1 (knd := PySem.intKind _ _) (by k_asm) (by k_mem) (by assumption) (by assumption) (intKind_is _ _ _ _) none (by assumption) ?_ | refine kdg_get1 (knd := PySem.intKind _ _) (by k_asm) (by k_mem) (by assumption) (by assumption) (intKind_is _ _ _ _) (some _) (by assumption) ?_); (try dsimp only [Option.getD])))
  k_with "MY getMethod ref" => ((with_reducible show wpAny _ _ (getMethod (Value.ref _) _ _) _ _ _); (k_here; (with_reducible show wpAny _ _ (getMethod (Value.ref _) (Str.ofString "get") _) _ _ _); k_dflt (refine kdg_method (knd := PySem.intKind _ _) (by k_asm) (by k_mem) (by assumption) ?_)))
  k_with "MY setItem ref int" => ((with_reducible show wpAny _ _ (setItem (Value.ref _) (Value.int _ _) _) _ _ _); (k_here; k_dflt (refine' kda_set (knd := PySem.intKind _ _) ?zzF ?zzN ?zzU ?zzd (intKind_is _ _ _ _) ?zzz ?_; (case zzF => k_asm); (case zzN => k_asm); (case zzU => k_updF); (case zzd => assumption); (case zzz => assumption)); intro _ _ _ _ _; (try dsimp only at N'); (try k_sweep)))
  k_with "MYcall" => ((with_reducible show wpAny _ _ (call (Value.builtin "len") _ _) _ _ _); (refine' my_lenT ?zzk1 ?zzk2 ?zzk3 ?_; (case zzk1 => k_asm); (case zzk2 => k_mem); (case zzk3 => omega); intro _ _))
  k_with "MY eval Call Attribute" => ((with_reducible show wpAny _ _ (eval (Expr.Call (Expr.Attribute _ _ _) _ [] _) _) _ _ _); (k_here; (with_reducible show wpAny _ _ (eval (Expr.Call (Expr.Attribute _ _ _) _ [] _) _) _ _ _); ks_star; refine star_method ?_))
  k_with "MY callWith ref" => ((with_reducible show wpAny _ _ (callWith _ (Value.ref _) _ _ []) _ _ _); (k_here; (with_reducible show wpAny _ _ (callWith _ (Value.ref _) _ (backTo _ (starEach [Expr.Starred _ _] _)) []) _ _ _); k_dflt (refine' callWith_MS ?zzX ?zzN ?zzq ?zzk2 ?_; (case zzX => k_asm); (case zzN => k_asm); (case zzq => k_mem); (case zzk2 => k_is); k_whole)))
  k_with "MY callWith ref" => ((with_reducible show wpAny _ _ (callWith _ (Value.ref _) _ _ []) _ _ _); (k_here; (with_reducible show wpAny _ _ (callWith _ (Value.ref _) _ (backTo _ (starEach (_ :: _ :: _) _)) []) _ _ _); ks_star; k_dflt (refine' callWith_MS2 ?zzX ?zzN ?zzq ?zzk2 ?_; (case zzX => k_asm); (case zzN => k_asm); (case zzq => k_mem); (case zzk2 => k_is); k_whole)))
  k_with "MY StarOf ref" => ((with_reducible show StarOf _ _ _ (Value.ref _) _ _); (k_here; k_dflt (first | (refine' my_star ?zzF ?zzN ?zzm ?zzi ?zzz ?_; (case zzF => k_asm); (case zzN => k_asm); (case zzm => k_mem); (case zzi => assumption); (case zzz => omega); k_whole) | (refine' my_starT ?zzF ?zzN ?zzm ?zzi ?zzz ?_; (case zzF => k_asm); (case zzN => k_asm); (case zzm => k_mem); (case zzi => assumption); (case zzz => omega); k_whole)); intro _ _ _; (try k_sweep); (try dsimp only [List.nil_append, List.cons_append])))
  k_with "MY compareOp In int ref" => ((with_reducible show wpAny _ _ (compareOp CmpOp.In (Value.int _ _) (Value.ref _)) _ _ _); (k_here; k_dflt (first | (refine' kse_in (knd := PySem.intKind _ _) ?zzN ?zzU ?zzd ?zzz (intKind_is _ _ _ _) rfl ?_; (case zzN => k_asm); (case zzU => k_updF); (case zzd => assumption); (case zzz => (show _ < 4096; omega))) | (refine' kda_in (knd := PySem.intKind _ _) ?zzN ?zzm ?zzd ?zzlo (intKind_is _ _ _ _) false ?zzb ?_; (case zzN => k_asm); (case zzm => k_mem); (case zzd => assumption); (case zzlo => assumption); (case zzb => assumption))); (try dsimp only)))
  k_with "MY getMethod ref" => ((with_reducible show wpAny _ _ (getMethod (Value.ref _) _ _) _ _ _); (k_here; (with_reducible show wpAny _ _ (getMethod (Value.ref _) (Str.ofString "add") _) _ _ _); k_dflt (refine' kse_method (knd := PySem.intKind _ _) ?zzN ?zzU ?zzd ?zzz ?_; (case zzN => k_asm); (case zzU => k_updF); (case zzd => assumption); (case zzz => (show _ < 4096; omega)))))
  k_with "MYcall" => ((with_reducible show wpAny _ _ (call (Value.builtin "set.add") _ _) _ _ _); (k_here; k_dflt (refine' kse_add (knd := PySem.intKind _ _) ?zzF ?zzN ?zzU ?zzd ?zzz (intKind_is _ _ _ _) rfl ?_; (case zzF => k_asm); (case zzN => k_asm); (case zzU => k_updF); (case zzd => assumption); (case zzz => (show _ < 4096; omega))); intro _ _ _ _ _; (try dsimp only at N'); (try k_sweep)))
  k_with "MY subscriptTail" => ((with_reducible show wpAny _ _ (subscriptTail _ _ (Value.ref _) _) _ _ _); ((with_reducible show wpAny _ _ (subscriptTail _ _ (Value.ref _) (Value.int _ _)) _ _ _); with_unfolding_all refine' kda_item (knd := PySem.intKind _ _) ?zzk1 ?zzk2 ?zzk3 (intKind_is _ _ _ _) ?zzk4 ?_ ?zzk7 ?zzk8; (case zzk1 => k_asm); (case zzk2 => k_mem); (case zzk3 => assumption); (case zzk4 => assumption); (case zzk7 => with_unfolding_all rfl); (case zzk8 => (intro _; with_unfolding_all rfl))))
  k_with "MYcall" => ((with_reducible show wpAny _ _ (call (Value.builtin "iter") _ _) _ _ _); (k_here; k_dflt (refine' my_iter ?zzF ?zzN ?zzm ?_; (case zzF => k_asm); (case zzN => k_asm); (case zzm => k_mem)); intro _ _ _ _ zl; (try k_lt zl); (revert zl; intro _); (try k_sweep)))
  k_with "MY getAttr ref" => ((with_reducible show wpAny _ _ (getAttr (Value.ref _) _ _) _ _ _); (k_here; (with_reducible show wpAny _ _ (getAttr (Value.ref _) (Str.ofString "__next__") _) _ _ _); k_dflt (refine' mw_getattr ?zzF ?zzN ?zzm ?_; (case zzF => k_asm); (case zzN => k_asm); (case zzm => k_mem)); intro _ _ _ _ _ zl; (try k_lt zl); (revert zl; intro _); (try k_sweep)))
  k_with "MY truthy ref" => ((with_reducible show wpAny _ _ (truthy (Value.ref _)) _ _ _); (k_here; (with_reducible show wpAny _ _ (truthy (Value.ref _)) _ _ _); k_dflt (refine' my_truthy ?zzN ?zzm ?zzz _ ?zzb ?_; (case zzN => k_asm); (case zzm => k_mem); (case zzz => assumption); (case zzb => assumption)); intro _; (try dsimp only)))
  k_with "MY subscriptTail" => ((with_reducible show wpAny _ _ (subscriptTail _ _ (Value.ref _) _) _ _ _); ((with_reducible show wpAny _ _ (subscriptTail _ _ (Value.ref _) (Value.int (-1) _)) _ _ _); k_dflt (refine' my_last ?zzN ?zzm ?zzz ?_ ?zze; (case zzN => k_asm); (case zzm => k_mem); (case zzz => assumption); (case zze => with_unfolding_all rfl))))
  k_with "MY callWith ref" => ((with_reducible show wpAny _ _ (callWith _ (Value.ref _) _ _ []) _ _ _); (k_here; (with_reducible show wpAny _ _ (callWith _ (Value.ref _) _ (backTo _ (starEach [] _)) []) _ _ _); k_dflt (refine' callWith_W ?zzN ?zzq ?_; (case zzN => k_asm); (case zzq => k_mem)); (try dsimp only [List.nil_append])))
  k_with "MYcall" => ((with_reducible show wpAny _ _ (call (Value.builtin "list.pop") _ _) _ _ _); (k_here; k_dflt (refine' my_pop ?zzF ?zzN ?zzU ?zzz ?_; (case zzF => k_asm); (case zzN => k_asm); (case zzU => k_upd); (case zzz => omega)); intro _ _ _; (try k_sweep)))
  k_with "MY delItem ref int" => ((with_reducible show wpAny _ _ (delItem (Value.ref _) (Value.int _ _)) _ _ _); (k_here; k_dflt (refine' kob_del (knd := PySem.intKind _ _) ?zzF ?zzN ?zzU ?zzd (intKind_is _ _ _ _) ?zzl ?zzz ?_; (case zzF => k_asm); (case zzN => k_asm); (case zzU => k_updF); (case zzd => assumption); (case zzl => assumption); (case zzz => assumption)); intro _ _ _ _ _; (try dsimp only at N')))
  k_with "MY getMethod ref" => ((with_reducible show wpAny _ _ (getMethod (Value.ref _) _ _) _ _ _); (k_here; (with_reducible show wpAny _ _ (getMethod (Value.ref _) (Str.ofString "values") _) _ _ _); k_dflt (refine kdl_method (knd := PySem.intKind _ _) PySem.F.slot_dict_values PySem.F.type_dict_values (by k_asm) (by k_mem) (by assumption) ?_)))
  k_with "MYcall" => ((with_reducible show wpAny _ _ (call (Value.builtin "dict.values") _ _) _ _ _); (k_here; k_dflt (refine kdl_view_values (knd := PySem.intKind _ _) (by k_asm) (by k_asm) (by k_mem) (by assumption) (by assumption) ?_); intro _ _ _ _ zl; (try k_lt zl); (revert zl; intro _); (try k_sweep)))
  k_with "MYcall" => ((with_reducible show wpAny _ _ (call (Value.type "bool") _ _) _ _ _); (k_here; k_dflt (refine' my_bool ?zzN ?zzm ?zzz _ ?zzb ?_; (case zzN => k_asm); (case zzm => k_mem); (case zzz => assumption); (case zzb => assumption)); intro _; (try dsimp only)))
  k_with "MYcall" => ((with_reducible show wpAny _ _ (call (Value.type "tuple") _ _) _ _ _); (k_here; k_dflt (refine' my_tupleOf ?zzF ?zzN ?zzm ?zzz ?_; (case zzF => k_asm); (case zzN => k_asm); (case zzm => k_mem); (case zzz => omega)); intro _ _ _ _ zl; (revert zl; intro _); (try k_sweep)))
  k_with "MYcall" => ((with_reducible show wpAny _ _ (call (Value.builtin "list.clear") _ _) _ _ _); (k_here; k_dflt (refine' my_clear ?zzF ?zzN ?zzU ?zzz ?_; (case zzF => k_asm); (case zzN => k_asm); (case zzU => k_upd); (case zzz => omega)); intro _ _ _; (try k_sweep)))
  k_with "MY compareOp NotIn int ref" => ((with_reducible show wpAny _ _ (compareOp CmpOp.NotIn (Value.int _ _) (Value.ref _)) _ _ _); (k_here; k_dflt (refine' my_notin ?zzN ?zzm ?zzi ?_; (case zzN => k_asm); (case zzm => k_mem); (case zzi => assumption)); (try dsimp only)))
  k_with "MYcall" => ((with_reducible show wpAny _ _ (call (Value.builtin "sorted") _ _) _ _ _); (k_here; k_dflt (refine' my_sorted ?zzF ?zzN ?zzm ?zzi ?zzz ?_; (case zzF => k_asm); (case zzN => k_asm); (case zzm => k_mem); (case zzi => assumption); (case zzz => omega)); intro _ _ _ _ _ _ _ zl _ _ _; (try k_lt zl); (revert zl; intro _); (try k_sweep)))
  k_with "MY binaryOp Add ref ref" => ((with_reducible show wpAny _ _ (binaryOp Operator.Add (Value.ref _) (Value.ref _)) _ _ _); (k_here; k_dflt (refine' my_addL ?zzF ?zzN ?zzm ?zzm2 ?zzz ?_; (case zzF => k_asm); (case zzN => k_asm); (case zzm => k_mem); (case zzm2 => k_mem); (case zzz => assumption)); intro _ _ _ _ zl; (try k_lt zl); (revert zl; intro _); (try k_sweep)))
  k_with "MYcall" => ((with_reducible show wpAny _ _ (call (Value.type "list") _ _) _ _ _); (k_here; k_dflt (refine' my_copy ?zzF ?zzN ?zzm ?zzz ?_; (case zzF => k_asm); (case zzN => k_asm); (case zzm => k_mem); (case zzz => omega)); intro _ _ _ _ _ zl; (try k_lt zl); (revert zl; intro _); (try k_sweep)))
  k_with "MYcall" => ((with_reducible show wpAny _ _ (call (Value.builtin "list.pop") _ _) _ _ _); (k_here; (with_reducible show wpAny _ _ (call (Value.builtin _) [Value.ref _, Value.int _ _]) _ _ _); k_dflt (refine' my_popAt ?zzF ?zzN ?zzU ?zzi ?zzz ?_; (case zzF => k_asm); (case zzN => k_asm); (case zzU => k_upd); (case zzi => assumption); (case zzz => omega)); intro _ _ _; (try k_sweep)))
  k_with "MY compareOp NotEq ref ref" => ((with_reducible show wpAny _ _ (compareOp CmpOp.NotEq (Value.ref _) (Value.ref _)) _ _ _); (k_here; k_dflt (refine' my_ne ?zzN ?zzm ?zzm2 ?zzi ?zzj ?zzu ?_; (case zzN => k_asm); (case zzm => k_mem); (case zzm2 => k_mem); (case zzi => assumption); (case zzj => assumption); (case zzu => assumption)); (try dsimp only)))
  k_with "MINE" => ((with_reducible show wpAny _ _ (call _ _ _) _ _ _); k_extra "MYcall")
  k_with "MINE" => ((with_reducible show wpAny _ _ (subscriptTail _ _ (Value.ref _) _) _ _ _); k_extra "MY subscriptTail")
  k_with "MINE" => ((with_reducible show wpAny _ _ (eval (Expr.Name _ _) (envOf _ _ _ _ _)) _ _ _); k_extra "MY eval Name")
  k_with "MINE" => ((with_reducible show wpAny _ _ (getMethod (Value.ref _) _ _) _ _ _); k_extra "MY getMethod ref")
  k_with "MINE" => ((with_reducible show wpAny _ _ (setItem (Value.ref _) (Value.int _ _) _) _ _ _); k_extra "MY setItem ref int")
  k_with "MINE" => ((with_reducible show wpAny _ _ (eval (Expr.Call (Expr.Attribute _ _ _) _ [] _) _) _ _ _); k_extra "MY eval Call Attribute")
  k_with "MINE" => ((with_reducible show wpAny _ _ (callWith _ (Value.ref _) _ _ []) _ _ _); k_extra "MY callWith ref")
  k_with "MINE" => ((with_reducible show StarOf _ _ _ (Value.ref _) _ _); k_extra "MY StarOf ref")
  k_with "MINE" => ((with_reducible show wpAny _ _ (compareOp CmpOp.In (Value.int _ _) (Value.ref _)) _ _ _); k_extra "MY compareOp In int ref")
  k_with "MINE" => ((with_reducible show wpAny _ _ (getAttr (Value.ref _) _ _) _ _ _); k_extra "MY getAttr ref")
  k_with "MINE" => ((with_reducible show wpAny _ _ (truthy (Value.ref _)) _ _ _); k_extra "MY truthy ref")
  k_with "MINE" => ((with_reducible show wpAny _ _ (delItem (Value.ref _) (Value.int _ _)) _ _ _); k_extra "MY delItem ref int")
  k_with "MINE" => ((with_reducible show wpAny _ _ (compareOp CmpOp.NotIn (Value.int _ _) (Value.ref _)) _ _ _); k_extra "MY compareOp NotIn int ref")
  k_with "MINE" => ((with_reducible show wpAny _ _ (binaryOp Operator.Add (Value.ref _) (Value.ref _)) _ _ _); k_extra "MY binaryOp Add ref ref")
  k_with "MINE" => ((with_reducible show wpAny _ _ (compareOp CmpOp.NotEq (Value.ref _) (Value.ref _)) _ _ _); k_extra "MY compareOp NotEq ref ref")
  k_with "MINE steps" => (w_strict (repeat' (first | (k_unfold; (try dsimp only)) | ((fail_if_success (with_reducible show wpAny _ _ _ _ _ _)); refine CutG.out (by assumption) _ _ _ ?_; (try clear khb); (try clear kQb); (try clear ko); (try clear kd); (try clear kg); (try dsimp only)) | ((fail_if_success (with_reducible show wpAny _ _ _ _ _ _)); refine CutH.out (by assumption) _ _ ?_; (try clear kha); (try clear kQa)) | ((with_reducible show wpAny _ _ (execs (_ :: _) _) _ _ _); (first | (refine execs_cut1 (by assumption) ?_; intro kg kd ko _ kQb khb) | (refine execs_cut2 (by assumption) ?_; intro _) | (refine cutQ ?_; intro kQa kha))) | ((fail_if_success (with_reducible show wpAny _ _ (exec (Stmt.While _ _ _ _) _) _ _ _)); (fail_if_success (with_reducible show wpAny _ _ (eval (Expr.ListComp _ _ _ _) _) _ _ _)); (fail_if_success (with_reducible show wpAny _ _ (exec (Stmt.Try _ _ _ _ _) _) _ _ _)); (fail_if_success (with_reducible show wpAny _ _ (exec (Stmt.For _ _ _ _ _) _) _ _ _)); (first | k_extra "MINE" | walk1 | (dsimp only; walk1)))  | fail "no step")))
  k_with "MINE plain" => (w_strict (repeat' (first | (k_unfold; (try dsimp only)) | ((fail_if_success (with_reducible show wpAny _ _ _ _ _ _)); refine CutH.out (by assumption) _ _ ?_; (try clear kha); (try clear kQa)) | ((fail_if_success (with_reducible show wpAny _ _ (exec (Stmt.While _ _ _ _) _) _ _ _)); (fail_if_success (with_reducible show wpAny _ _ (eval (Expr.ListComp _ _ _ _) _) _ _ _)); (fail_if_success (with_reducible show wpAny _ _ (exec (Stmt.Try _ _ _ _ _) _) _ _ _)); (fail_if_success (with_reducible show wpAny _ _ (exec (Stmt.For _ _ _ _ _) _) _ _ _)); (first | k_extra "MINE" | walk1 | (dsimp only; walk1)))  | fail "no step")))
  k_with "MINE cells" => ((walk_at "MINE steps"; all_goals (first | (with_reducible exact (Str.ofString "")) | (with_reducible exact (0 : Addr)) | (with_reducible exact Value.none) | skip)))
  k_with "MINE" => ((with_reducible show wpAny _ _ (eval (Expr.Name _ _) _) _ _ _); (k_here; (with_reducible show wpAny _ _ (eval (Expr.Name _ _) (envOfC _ _ _ _ _)) _ _ _); k_dflt (first
  | (refine' nameX_L ?zzF ?zzv ?_ ?zza ?zzb; (case zzF => k_asm); (case zza => rfl); (case zzb => rfl); (case zzv => first | assumption | exact rfl); k_whole)
  | (refine' nameX_C ?zzN ?zzc ?zzm ?zzd ?_ ?zza ?zzb; (case zza => rfl); (case zzb => rfl); (case zzN => k_asm); (case zzc => rfl); (case zzm => k_mem); (case zzd => k_asm); k_whole)
  | (refine' nameX_K ?zzF ?zzX ?zzT ?zze ?_ ?zza ?zzb; (case zzF => k_asm); (case zzX => k_asm); (case zzT => k_asm); (case zza => rfl); (case zzb => rfl); (case zze => k_is); k_whole)
  | (refine' nameX_B ?zzF ?zzX ?zzT ?zze ?zzv ?zzn ?_ ?zza ?zzb; (case zzF => k_asm); (case zzX => k_asm); (case zzT => k_asm); (case zza => rfl); (case zzb => rfl); (case zze => k_is); (case zzv => boot_fast); (case zzn => decide); k_whole))))
  k_with "MINE" => ((with_reducible show wpAny _ _ (eval (Expr.Name _ _) _) _ _ _); (k_here; (with_reducible show wpAny _ _ (eval (Expr.Name _ _) (compEnvC _ _ _ _)) _ _ _); k_dflt (first
  | refine LCgL.ld_own (by k_asm) (by k_mem) (by assumption) (by assumption) ?_
  | (refine' lcf_cell ?zzN ?zzc ?zzm ?zzd ?_ ?zza ?zzb; (case zza => rfl); (case zzb => rfl); (case zzN => k_asm); (case zzc => rfl); (case zzm => k_mem); (case zzd => k_asm); k_whole)
  | (refine' lcf_free ?zzN ?zzc ?zzm ?zzd ?_ ?zza ?zzb; (case zza => rfl); (case zzb => rfl); (case zzN => k_asm); (case zzc => rfl); (case zzm => k_mem); (case zzd => k_asm); k_whole)
  | refine LCgL.ld_built (by k_asm) (by k_asm) (by k_asm) (by k_is) (by boot_by_name) (by decide) ?_)))
  k_with "MINE cellsP" => ((walk_at "MINE plain"; all_goals (first | (with_reducible exact (Str.ofString "")) | (with_reducible exact (0 : Addr)) | (with_reducible exact Value.none) | skip)))
  k_with "MY callWith ref" => ((with_reducible show wpAny _ _ (callWith _ (Value.ref _) _ _ []) _ _ _); (k_here; k_dflt (first
  | (refine' callWith_F ?zzk1 ?_; (case zzk1 => exact FnAt.of (by k_asm) (by assumption)); k_whole)
  | (refine' callWith_F0 ?zzk1 ?_; (case zzk1 => exact FnAt.of (by k_asm) (by assumption)); k_whole; try dsimp only [List.nil_append, List.cons_append]))))
  k_with "MINE" => ((with_reducible show wpAny _ _ (callWith _ (Value.ref _) _ _ []) _ _ _); k_extra "MY callWith ref")
  trivial
theorem brk_spec {w : World} {A A₀ : Around} {env : Env} {outer : List Env} {base h₀ : Heap} {L : Addr} {m mg mb : Str → Option Value} {p : Program} {loose : List Str} {mean : ExcName → Option Value} {s : Shared} {news : List (Addr × Obj)} {R : Result → Shared → Prop}
    {a f : Addr} {vs : List Value} {xs : List Int} {n : Nat} {x : Int} {tx : Tok} {S : List (Int × Int × Tok)}
    (C : Cx w A A₀ env outer base h₀ L m mg mb p loose mean s.heap news 898) (hN : (a, W.listOf vs.toArray n) ∈ news) (hi : IntsAre vs xs) (hlen : xs.length ≤ 1000) (hl : LamIs w news f S) (hin : ∀ y ∈ xs, y ∈ S.map (·.1)) (hs : (xs.map (stp S)).Pairwise (· < ·))
    (hR : ∀ h' tk t' k, Fr h₀ L h' m → News h₀ L h' news → k ≤ xs.length → (∀ y ∈ (xs.map (stp S)).take k, y ≤ x) → (∀ y ∈ (xs.map (stp S)).drop k, x < y) → R (.ok (.ret (.int k t'))) { s with heap := h', toks := tk }) :
    codeAny (model PySem.Challenge.rw_mr0333_01.row.prog w) A (.call (.ref 30) ⟨[.ref a, .int x tx], [(Str.ofString "key", .ref f)]⟩) R s := by
  obtain ⟨B, F, X, N, T, hA, hf, hke, hdep, hh⟩ := C
  revert X
  k_fill
  intro X
  have hl2 := hl
  obtain ⟨name, qual, p0, p1, p2, p3, cT, pm, c', ctv, oc, vs', t, oT, aS, oS, hm, -⟩ := hl2.ex
  have hl' := hi.length
  refine' enterD (binds := [(Str.ofString "a", .ref a), (Str.ofString "x", .int x tx), (Str.ofString "lo", .int 0 196), (Str.ofString "hi", .none), (Str.ofString "key", .ref f)]) B F X N T hA hf hke (by k_is) (by k_is) (by show A.depth < 1000; omega) (kp_binds (by k_in) (fun _ => rfl)) (locs rfl) ?_ rfl rfl rfl (by decide)
  intro g' L' h' FG' F' N' B' X' T' hA'
  walk_at "MINE steps"
  refine' while_inv (fun (c : Nat × Nat) h => c.1 ≤ c.2 ∧ c.2 ≤ xs.length ∧ (∀ y ∈ (xs.map (stp S)).take c.1, y ≤ x) ∧ (∀ y ∈ (xs.map (stp S)).drop c.2, x < y) ∧ ∃ m', Fr g' L' h m' ∧ News g' L' h news ∧ m' (Str.ofString "a") = some (.ref a) ∧ m' (Str.ofString "x") = some (.int x tx) ∧ m' (Str.ofString "key") = some (.ref f) ∧ HasI m' (Str.ofString "lo") c.1 ∧ HasI m' (Str.ofString "hi") c.2) (fun c => c.2 - c.1) (0, xs.length) ?_ ?_
  · exact ⟨Nat.zero_le _, Nat.le_refl _, by simp, by rw [List.drop_eq_nil_of_le (by simp)]; simp, _, by assumption, by assumption, rfl, rfl, rfl, ⟨_, rfl⟩, HasI.of rfl (by dsimp only; omega)⟩
  · rintro ⟨lo, hi'⟩ h tk ⟨h2, h3, h4, h5, m', F', N', ma, mx, mk', ⟨t1, mlo⟩, ⟨t2, mhi⟩⟩
    dsimp only at *
    walk_at "MINE steps"
    · have hm2 : (((lo : Int) + hi').fdiv 2) = (((lo + hi') / 2 : Nat) : Int) := by rw [Int.fdiv_eq_ediv_of_nonneg _ (by omega)]; omega
      have hlt : lo < hi' := by omega
      have hmn : (((lo : Int) + hi').fdiv 2).toNat = (lo + hi') / 2 := by rw [hm2, Int.toNat_natCast]
      rename News _ _ _ _ => N6
      rename Fr _ _ _ _ => F6
      refine wpAny_call (lam_spec ⟨B', F6, X', N6, T', hA', rfl, rfl, by show A.depth + 1 ≤ 900; omega, hh⟩ hl (hin _ (getD_mem' (by omega))) ?_)
      intro h7 tk7 t7 F7 N7
      rw [hmn]
      generalize hz : stp S (xs.getD ((lo + hi') / 2) 0) = z at *
      clear F6 N6
      walk_at "MINE steps"
      · rename x < z => hx
        have hx2 : x + 1 ≤ (xs.map (stp S)).getD ((lo + hi') / 2) 0 := by rw [getD_map (by omega), hz]; exact hx
        refine ⟨(lo, (lo + hi') / 2), _, _, rfl, (by dsimp only; omega), (by dsimp only; omega), (by dsimp only; omega), h4, (fun y hy => Int.lt_of_add_one_le (bis_drop hs (by rw [List.length_map]; omega) hx2 y hy)), _, by assumption, by assumption, ?_⟩
        exact ⟨ma, mx, mk', ⟨_, mlo⟩, HasI.of rfl (by dsimp only; omega)⟩
      · rename ¬ x < z => hx
        have hx2 : (xs.map (stp S)).getD ((lo + hi') / 2) 0 < x + 1 := by rw [getD_map (by omega), hz]; omega
        refine ⟨((lo + hi') / 2 + 1, hi'), _, _, rfl, (by dsimp only; omega), (by dsimp only; omega), h3, (fun y hy => Int.le_of_lt_add_one (bis_take hs (by rw [List.length_map]; omega) hx2 y hy)), h5, _, by assumption, by assumption, ?_⟩
        exact ⟨ma, mx, mk', HasI.of rfl (by dsimp only; omega), ⟨_, mhi⟩⟩
    · exact hR _ _ _ lo (by assumption) (by assumption) (by omega) h4 ((show lo = hi' by omega) ▸ h5)

end Mine
-- P20
namespace Mine
open PySem PySem.W PyProof.Rows
example : True := by
  k_with_none
  k_with "MYcall" => ((with_reducible show wpAny _ _ (call (Value.builtin "len") _ _) _ _ _); (refine' my_len ?zzk1 ?zzk2 ?zzk3 ?_; (case zzk1 => k_asm); (case zzk2 => k_mem); (case zzk3 => omega); intro _ _))
  k_with "MY subscriptTail" => ((with_reducible show wpAny _ _ (subscriptTail _ _ (Value.ref _) _) _ _ _); ((with_reducible show wpAny _ _ (subscriptTail _ _ (Value.ref _) (Value.int _ _)) _ _ _); with_unfolding_all refine' my_item ?zzk1 ?zzk2 ?zzk3 ?zzk4 ?zzk5 ?zzk6 ?_ ?zzk7; (case zzk1 => k_asm); (case zzk2 => k_mem); (case zzk3 => assumption); (case zzk4 => omega); (case zzk5 => omega); (case zzk6 => omega); (case zzk7 => with_unfolding_all rfl);  intro _))
  k_with "MY eval Name" => ((with_reducible show wpAny _ _ (eval (Expr.Name _ _) (envOf _ _ _ _ _)) _ _ _); (k_here; k_dflt (refine' ld ?zzk1 ?zzk2 ?_; (case zzk1 => k_asm); (case zzk2 => assumption); k_whole)))
  k_with "MYcall" => ((with_reducible show wpAny _ _ (call (Value.builtin "list.insert") _ _) _ _ _); (k_here; k_dflt (refine' my_insert ?zzF ?zzN ?zzU ?zzhk ?zzz ?_; (case zzF => k_asm); (case zzN => k_asm); (case zzU => k_upd); (case zzhk => omega); (case zzz => omega); k_whole); intro _ _ _; (try k_sweep)))
  k_with "MYcall" => ((with_reducible show wpAny _ _ (call (Value.builtin "dict.get") _ _) _ _ _); (k_here; k_dflt (first | refine kdg_get1 (knd := PySem.intKind _ _) (by k_asm) (by k_mem) (by assumption) (by assumption) (intKind_is _ _ _ _) none (by assumption) ?_ | refine kdg_get1 (knd := PySem.intKind _ _) (by k_asm) (by k_mem) (by assumption) (by assumption) (intKind_is _ _ _ _) (some _) (by assumption) ?_); (try dsimp only [Option.getD])))
  k_with "MY getMethod ref" => ((with_reducible show wpAny _ _ (getMethod (Value.ref _) _ _) _ _ _); (k_here; (with_reducible show wpAny _ _ (getMethod (Value.ref _) (Str.ofString "get") _) _ _ _); k_dflt (refine kdg_method (knd := PySem.intKind _ _) (by k_asm) (by k_mem) (by assumption) ?_)))
  k_with "MY setItem ref int" => ((with_reducible show wpAny _ _ (setItem (Value.ref _) (Value.int _ _) _) _ _ _); (k_here; k_dflt (refine' kda_set (knd := PySem.intKind _ _) ?zzF ?zzN ?zzU ?zzd (intKind_is _ _ _ _) ?zzz ?_; (case zzF => k_asm); (case zzN => k_asm); (case zzU => k_updF); (case zzd => assumption); (case zzz => assumption)); intro _ _ _ _ _; (try dsimp only at N'); (try k_sweep)))
  k_with "MYcall" => ((with_reducible show wpAny _ _ (call (Value.builtin "len") _ _) _ _ _); (refine' my_lenT ?zzk1 ?zzk2 ?zzk3 ?_; (case zzk1 => k_asm); (case zzk2 => k_mem); (case zzk3 => omega); intro _ _))
  k_with "MY eval Call Attribute" => ((with_reducible show wpAny _ _ (eval (Expr.Call (Expr.Attribute _ _ _) _ [] _) _) _ _ _); (k_here; (with_reducible show wpAny _ _ (eval (Expr.Call (Expr.Attribute _ _ _) _ [] _) _) _ _ _); ks_star; refine star_method ?_))
  k_with "MY callWith ref" => ((with_reducible show wpAny _ _ (callWith _ (Value.ref _) _ _ []) _ _ _); (k_here; (with_reducible show wpAny _ _ (callWith _ (Value.ref _) _ (backTo _ (starEach [Expr.Starred _ _] _)) []) _ _ _); k_dflt (refine' callWith_MS ?zzX ?zzN ?zzq ?zzk2 ?_; (case zzX => k_asm); (case zzN => k_asm); (case zzq => k_mem); (case zzk2 => k_is); k_whole)))
  k_with "MY callWith ref" => ((with_reducible show wpAny _ _ (callWith _ (Value.ref _) _ _ []) _ _ _); (k_here; (with_reducible show wpAny _ _ (callWith _ (Value.ref _) _ (backTo _ (starEach (_ :: _ :: _) _)) []) _ _ _); ks_star; k_dflt (refine' callWith_MS2 ?zzX ?zzN ?zzq ?zzk2 ?_; (case zzX => k_asm); (case zzN => k_asm); (case zzq => k_mem); (case zzk2 => k_is); k_whole)))
  k_with "MY StarOf ref" => ((with_reducible show StarOf _ _ _ (Value.ref _) _ _); (k_here; k_dflt (first | (refine' my_star ?zzF ?zzN ?zzm ?zzi ?zzz ?_; (case zzF => k_asm); (case zzN => k_asm); (case zzm => k_mem); (case zzi => assumption); (case zzz => omega); k_whole) | (refine' my_starT ?zzF ?zzN ?zzm ?zzi ?zzz ?_; (case zzF => k_asm); (case zzN => k_asm); (case zzm => k_mem); (case zzi => assumption); (case zzz => omega); k_whole)); intro _ _ _; (try k_sweep); (try dsimp only [List.nil_append, List.cons_append])))
  k_with "MY compareOp In int ref" => ((with_reducible show wpAny _ _ (compareOp CmpOp.In (Value.int _ _) (Value.ref _)) _ _ _); (k_here; k_dflt (first | (refine' kse_in (knd := PySem.intKind _ _) ?zzN ?zzU ?zzd ?zzz (intKind_is _ _ _ _) rfl ?_; (case zzN => k_asm); (case zzU => k_updF); (case zzd => assumption); (case zzz => (show _ < 4096; omega))) | (refine' kda_in (knd := PySem.intKind _ _) ?zzN ?zzm ?zzd ?zzlo (intKind_is _ _ _ _) false ?zzb ?_; (case zzN => k_asm); (case zzm => k_mem); (case zzd => assumption); (case zzlo => assumption); (case zzb => assumption))); (try dsimp only)))
  k_with "MY getMethod ref" => ((with_reducible show wpAny _ _ (getMethod (Value.ref _) _ _) _ _ _); (k_here; (with_reducible show wpAny _ _ (getMethod (Value.ref _) (Str.ofString "add") _) _ _ _); k_dflt (refine' kse_method (knd := PySem.intKind _ _) ?zzN ?zzU ?zzd ?zzz ?_; (case zzN => k_asm); (case zzU => k_updF); (case zzd => assumption); (case zzz => (show _ < 4096; omega)))))
  k_with "MYcall" => ((with_reducible show wpAny _ _ (call (Value.builtin "set.add") _ _) _ _ _); (k_here; k_dflt (refine' kse_add (knd := PySem.intKind _ _) ?zzF ?zzN ?zzU ?zzd ?zzz (intKind_is _ _ _ _) rfl ?_; (case zzF => k_asm); (case zzN => k_asm); (case zzU => k_updF); (case zzd => assumption); (case zzz => (show _ < 4096; omega))); intro _ _ _ _ _; (try dsimp only at N'); (try k_sweep)))
  k_with "MY subscriptTail" => ((with_reducible show wpAny _ _ (subscriptTail _ _ (Value.ref _) _) _ _ _); ((with_reducible show wpAny _ _ (subscriptTail _ _ (Value.ref _) (Value.int _ _)) _ _ _); with_unfolding_all refine' kda_item (knd := PySem.intKind _ _) ?zzk1 ?zzk2 ?zzk3 (intKind_is _ _ _ _) ?zzk4 ?_ ?zzk7 ?zzk8; (case zzk1 => k_asm); (case zzk2 => k_mem); (case zzk3 => assumption); (case zzk4 => assumption); (case zzk7 => with_unfolding_all rfl); (case zzk8 => (intro _; with_unfolding_all rfl))))
  k_with "MYcall" => ((with_reducible show wpAny _ _ (call (Value.builtin "iter") _ _) _ _ _); (k_here; k_dflt (refine' my_iter ?zzF ?zzN ?zzm ?_; (case zzF => k_asm); (case zzN => k_asm); (case zzm => k_mem)); intro _ _ _ _ zl; (try k_lt zl); (revert zl; intro _); (try k_sweep)))
  k_with "MY getAttr ref" => ((with_reducible show wpAny _ _ (getAttr (Value.ref _) _ _) _ _ _); (k_here; (with_reducible show wpAny _ _ (getAttr (Value.ref _) (Str.ofString "__next__") _) _ _ _); k_dflt (refine' mw_getattr ?zzF ?zzN ?zzm ?_; (case zzF => k_asm); (case zzN => k_asm); (case zzm => k_mem)); intro _ _ _ _ _ zl; (try k_lt zl); (revert zl; intro _); (try k_sweep)))
  k_with "MY truthy ref" => ((with_reducible show wpAny _ _ (truthy (Value.ref _)) _ _ _); (k_here; (with_reducible show wpAny _ _ (truthy (Value.ref _)) _ _ _); k_dflt (refine' my_truthy ?zzN ?zzm ?zzz _ ?zzb ?_; (case zzN => k_asm); (case zzm => k_mem); (case zzz => assumption); (case zzb => assumption)); intro _; (try dsimp only)))
  k_with "MY subscriptTail" => ((with_reducible show wpAny _ _ (subscriptTail _ _ (Value.ref _) _) _ _ _); ((with_reducible show wpAny _ _ (subscriptTail _ _ (Value.ref _) (Value.int (-1) _)) _ _ _); k_dflt (refine' my_last ?zzN ?zzm ?zzz ?_ ?zze; (case zzN => k_asm); (case zzm => k_mem); (case zzz => assumption); (case zze => with_unfolding_all rfl))))
  k_with "MY callWith ref" => ((with_reducible show wpAny _ _ (callWith _ (Value.ref _) _ _ []) _ _ _); (k_here; (with_reducible show wpAny _ _ (callWith _ (Value.ref _) _ (backTo _ (starEach [] _)) []) _ _ _); k_dflt (refine' callWith_W ?zzN ?zzq ?_; (case zzN => k_asm); (case zzq => k_mem)); (try dsimp only [List.nil_append])))
  k_with "MYcall" => ((with_reducible show wpAny _ _ (call (Value.builtin "list.pop") _ _) _ _ _); (k_here; k_dflt (refine' my_pop ?zzF ?zzN ?zzU ?zzz ?_; (case zzF => k_asm); (case zzN => k_asm); (case zzU => k_upd); (case zzz => omega)); intro _ _ _; (try k_sweep)))
  k_with "MY delItem ref int" => ((with_reducible show wpAny _ _ (delItem (Value.ref _) (Value.int _ _)) _ _ _); (k_here; k_dflt (refine' kob_del (knd := PySem.intKind _ _) ?zzF ?zzN ?zzU ?zzd (intKind_is _ _ _ _) ?zzl ?zzz ?_; (case zzF => k_asm); (case zzN => k_asm); (case zzU => k_updF); (case zzd => assumption); (case zzl => assumption); (case zzz => assumption)); intro _ _ _ _ _; (try dsimp only at N')))
  k_with "MY getMethod ref" => ((with_reducible show wpAny _ _ (getMethod (Value.ref _) _ _) _ _ _); (k_here; (with_reducible show wpAny _ _ (getMethod (Value.ref _) (Str.ofString "values") _) _ _ _); k_dflt (refine kdl_method (knd := PySem.intKind _ _) PySem.F.slot_dict_values PySem.F.type_dict_values (by k_asm) (by k_mem) (by assumption) ?_)))
  k_with "MYcall" => ((with_reducible show wpAny _ _ (call (Value.builtin "dict.values") _ _) _ _ _); (k_here; k_dflt (refine kdl_view_values (knd := PySem.intKind _ _) (by k_asm) (by k_asm) (by k_mem) (by assumption) (by assumption) ?_); intro _ _ _ _ zl; (try k_lt zl); (revert zl; intro _); (try k_sweep)))
  k_with "MYcall" => ((with_reducible show wpAny _ _ (call (Value.type "bool") _ _) _ _ _); (k_here; k_dflt (refine' my_bool ?zzN ?zzm ?zzz _ ?zzb ?_; (case zzN => k_asm); (case zzm => k_mem); (case zzz => assumption); (case zzb => assumption)); intro _; (try dsimp only)))
  k_with "MYcall" => ((with_reducible show wpAny _ _ (call (Value.type "tuple") _ _) _ _ _); (k_here; k_dflt (refine' my_tupleOf ?zzF ?zzN ?zzm ?zzz ?_; (case zzF => k_asm); (case zzN => k_asm); (case zzm => k_mem); (case zzz => omega)); intro _ _ _ _ zl; (revert zl; intro _); (try k_sweep)))
  k_with "MYcall" => ((with_reducible show wpAny _ _ (call (Value.builtin "list.clear") _ _) _ _ _); (k_here; k_dflt (refine' my_clear ?zzF ?zzN ?zzU ?zzz ?_; (case zzF => k_asm); (case zzN => k_asm); (case zzU => k_upd); (case zzz => omega)); intro _ _ _; (try k_sweep)))
  k_with "MY compareOp NotIn int ref" => ((with_reducible show wpAny _ _ (compareOp CmpOp.NotIn (Value.int _ _) (Value.ref _)) _ _ _); (k_here; k_dflt (refine' my_notin ?zzN ?zzm ?zzi ?_; (case zzN => k_asm); (case zzm => k_mem); (case zzi => assumption)); (try dsimp only)))
  k_with "MYcall" => ((with_reducible show wpAny _ _ (call (Value.builtin "sorted") _ _) _ _ _); (k_here; k_dflt (refine' my_sorted ?zzF ?zzN ?zzm ?zzi ?zzz ?_; (case zzF => k_asm); (case zzN => k_asm); (case zzm => k_mem); (case zzi => assumption); (case zzz => omega)); intro _ _ _ _ _ _ _ zl _ _ _; (try k_lt zl); (revert zl; intro _); (try k_sweep)))
  k_with "MY binaryOp Add ref ref" => ((with_reducible show wpAny _ _ (binaryOp Operator.Add (Value.ref _) (Value.ref _)) _ _ _); (k_here; k_dflt (refine' my_addL ?zzF ?zzN ?zzm ?zzm2 ?zzz ?_; (case zzF => k_asm); (case zzN => k_asm); (case zzm => k_mem); (case zzm2 => k_mem); (case zzz => assumption)); intro _ _ _ _ zl; (try k_lt zl); (revert zl; intro _); (try k_sweep)))
  k_with "MYcall" => ((with_reducible show wpAny _ _ (call (Value.type "list") _ _) _ _ _); (k_here; k_dflt (refine' my_copy ?zzF ?zzN ?zzm ?zzz ?_; (case zzF => k_asm); (case zzN => k_asm); (case zzm => k_mem); (case zzz => omega)); intro _ _ _ _ _ zl; (try k_lt zl); (revert zl; intro _); (try k_sweep)))
  k_with "MYcall" => ((with_reducible show wpAny _ _ (call (Value.builtin "list.pop") _ _) _ _ _); (k_here; (with_reducible show wpAny _ _ (call (Value.builtin _) [Value.ref _, Value.int _ _]) _ _ _); k_dflt (refine' my_popAt ?zzF ?zzN ?zzU ?zzi ?zzz ?_; (case zzF => k_asm); (case zzN => k_asm); (case zzU => k_upd); (case zzi => assumption); (case zzz => omega)); intro _ _ _; (try k_sweep)))
  k_with "MY compareOp NotEq ref ref" => ((with_reducible show wpAny _ _ (compareOp CmpOp.NotEq (Value.ref _) (Value.ref _)) _ _ _); (k_here; k_dflt (refine' my_ne ?zzN ?zzm ?zzm2 ?zzi ?zzj ?zzu ?_; (case zzN => k_asm); (case zzm => k_mem); (case zzm2 => k_mem); (case zzi => assumption); (case zzj => assumption); (case zzu => assumption)); (try dsimp only)))
  k_with "MINE" => ((with_reducible show wpAny _ _ (call _ _ _) _ _ _); k_extra "MYcall")
  k_with "MINE" => ((with_reducible show wpAny _ _ (subscriptTail _ _ (Value.ref _) _) _ _ _); k_extra "MY subscriptTail")
  k_with "MINE" => ((with_reducible show wpAny _ _ (eval (Expr.Name _ _) (envOf _ _ _ _ _)) _ _ _); k_extra "MY eval Name")
  k_with "MINE" => ((with_reducible show wpAny _ _ (getMethod (Value.ref _) _ _) _ _ _); k_extra "MY getMethod ref")
  k_with "MINE" => ((with_reducible show wpAny _ _ (setItem (Value.ref _) (Value.int _ _) _) _ _ _); k_extra "MY setItem ref int")
  k_with "MINE" => ((with_reducible show wpAny _ _ (eval (Expr.Call (Expr.Attribute _ _ _) _ [] _) _) _ _ _); k_extra "MY eval Call Attribute")
  k_with "MINE" => ((with_reducible show wpAny _ _ (callWith _ (Value.ref _) _ _ []) _ _ _); k_extra "MY callWith ref")
  k_with "MINE" => ((with_reducible show StarOf _ _ _ (Value.ref _) _ _); k_extra "MY StarOf ref")
  k_with "MINE" => ((with_reducible show wpAny _ _ (compareOp CmpOp.In (Value.int _ _) (Value.ref _)) _ _ _); k_extra "MY compareOp In int ref")
  k_with "MINE" => ((with_reducible show wpAny _ _ (getAttr (Value.ref _) _ _) _ _ _); k_extra "MY getAttr ref")
  k_with "MINE" => ((with_reducible show wpAny _ _ (truthy (Value.ref _)) _ _ _); k_extra "MY truthy ref")
  k_with "MINE" => ((with_reducible show wpAny _ _ (delItem (Value.ref _) (Value.int _ _)) _ _ _); k_extra "MY delItem ref int")
  k_with "MINE" => ((with_reducible show wpAny _ _ (compareOp CmpOp.NotIn (Value.int _ _) (Value.ref _)) _ _ _); k_extra "MY compareOp NotIn int ref")
  k_with "MINE" => ((with_reducible show wpAny _ _ (binaryOp Operator.Add (Value.ref _) (Value.ref _)) _ _ _); k_extra "MY binaryOp Add ref ref")
  k_with "MINE" => ((with_reducible show wpAny _ _ (compareOp CmpOp.NotEq (Value.ref _) (Value.ref _)) _ _ _); k_extra "MY compareOp NotEq ref ref")
  k_with "MINE steps" => (w_strict (repeat' (first | (k_unfold; (try dsimp only)) | ((fail_if_success (with_reducible show wpAny _ _ _ _ _ _)); refine CutG.out (by assumption) _ _ _ ?_; (try clear khb); (try clear kQb); (try clear ko); (try clear kd); (try clear kg); (try dsimp only)) | ((fail_if_success (with_reducible show wpAny _ _ _ _ _ _)); refine CutH.out (by assumption) _ _ ?_; (try clear kha); (try clear kQa)) | ((with_reducible show wpAny _ _ (execs (_ :: _) _) _ _ _); (first | (refine execs_cut1 (by assumption) ?_; intro kg kd ko _ kQb khb) | (refine execs_cut2 (by assumption) ?_; intro _) | (refine cutQ ?_; intro kQa kha))) | ((fail_if_success (with_reducible show wpAny _ _ (exec (Stmt.While _ _ _ _) _) _ _ _)); (fail_if_success (with_reducible show wpAny _ _ (eval (Expr.ListComp _ _ _ _) _) _ _ _)); (fail_if_success (with_reducible show wpAny _ _ (exec (Stmt.Try _ _ _ _ _) _) _ _ _)); (fail_if_success (with_reducible show wpAny _ _ (exec (Stmt.For _ _ _ _ _) _) _ _ _)); (first | k_extra "MINE" | walk1 | (dsimp only; walk1)))  | fail "no step")))
  k_with "MINE plain" => (w_strict (repeat' (first | (k_unfold; (try dsimp only)) | ((fail_if_success (with_reducible show wpAny _ _ _ _ _ _)); refine CutH.out (by assumption) _ _ ?_; (try clear kha); (try clear kQa)) | ((fail_if_success (with_reducible show wpAny _ _ (exec (Stmt.While _ _ _ _) _) _ _ _)); (fail_if_success (with_reducible show wpAny _ _ (eval (Expr.ListComp _ _ _ _) _) _ _ _)); (fail_if_success (with_reducible show wpAny _ _ (exec (Stmt.Try _ _ _ _ _) _) _ _ _)); (fail_if_success (with_reducible show wpAny _ _ (exec (Stmt.For _ _ _ _ _) _) _ _ _)); (first | k_extra "MINE" | walk1 | (dsimp only; walk1)))  | fail "no step")))
  k_with "MINE cells" => ((walk_at "MINE steps"; all_goals (first | (with_reducible exact (Str.ofString "")) | (with_reducible exact (0 : Addr)) | (with_reducible exact Value.none) | skip)))
  k_with "MINE" => ((with_reducible show wpAny _ _ (eval (Expr.Name _ _) _) _ _ _); (k_here; (with_reducible show wpAny _ _ (eval (Expr.Name _ _) (envOfC _ _ _ _ _)) _ _ _); k_dflt (first
  | (refine' nameX_L ?zzF ?zzv ?_ ?zza ?zzb; (case zzF => k_asm); (case zza => rfl); (case zzb => rfl); (case zzv => first | assumption | exact rfl); k_whole)
  | (refine' nameX_C ?zzN ?zzc ?zzm ?zzd ?_ ?zza ?zzb; (case zza => rfl); (case zzb => rfl); (case zzN => k_asm); (case zzc => rfl); (case zzm => k_mem); (case zzd => k_asm); k_whole)
  | (refine' nameX_K ?zzF ?zzX ?zzT ?zze ?_ ?zza ?zzb; (case zzF => k_asm); (case zzX => k_asm); (case zzT => k_asm); (case zza => rfl); (case zzb => rfl); (case zze => k_is); k_whole)
  | (refine' nameX_B ?zzF ?zzX ?zzT ?zze ?zzv ?zzn ?_ ?zza ?zzb; (case zzF => k_asm); (case zzX => k_asm); (case zzT => k_asm); (case zza => rfl); (case zzb => rfl); (case zze => k_is); (case zzv => boot_fast); (case zzn => decide); k_whole))))
  k_with "MINE" => ((with_reducible show wpAny _ _ (eval (Expr.Name _ _) _) _ _ _); (k_here; (with_reducible show wpAny _ _ (eval (Expr.Name _ _) (compEnvC _ _ _ _)) _ _ _); k_dflt (first
  | refine LCgL.ld_own (by k_asm) (by k_mem) (by assumption) (by assumption) ?_
  | (refine' lcf_cell ?zzN ?zzc ?zzm ?zzd ?_ ?zza ?zzb; (case zza => rfl); (case zzb => rfl); (case zzN => k_asm); (case zzc => rfl); (case zzm => k_mem); (case zzd => k_asm); k_whole)
  | (refine' lcf_free ?zzN ?zzc ?zzm ?zzd ?_ ?zza ?zzb; (case zza => rfl); (case zzb => rfl); (case zzN => k_asm); (case zzc => rfl); (case zzm => k_mem); (case zzd => k_asm); k_whole)
  | refine LCgL.ld_built (by k_asm) (by k_asm) (by k_asm) (by k_is) (by boot_by_name) (by decide) ?_)))
  k_with "MINE cellsP" => ((walk_at "MINE plain"; all_goals (first | (with_reducible exact (Str.ofString "")) | (with_reducible exact (0 : Addr)) | (with_reducible exact Value.none) | skip)))
  k_with "MY subscriptTail Name Slice ref ref" => ((with_reducible show wpAny _ _ (subscriptTail _ (PySem.Expr.Slice _ _ none _) (Value.ref _) (Value.ref _)) _ _ _); (k_here; (with_reducible show wpAny _ _ (subscriptTail _ (PySem.Expr.Slice _ _ none _) (Value.ref _) (Value.ref _)) _ _ _); k_dflt (refine' kmk_slice_ints ?zzF ?zzN ?zzl ?zzp ?zzq ?zzi ?zzm ?zzc ?_ ?zzs ?zzt ?zzz; (case zzF => k_asm); (case zzN => k_asm); (case zzl => exact News.isList (by k_asm) (by k_mem)); (case zzp => kmk_part); (case zzq => kmk_part); (case zzi => assumption); (case zzm => exact kmk_run (by assumption) (by omega) (by omega)); (case zzc => kmk_len); (case zzs => with_unfolding_all rfl); (case zzt => kmk_pure); (case zzz => (rw [List.size_toArray, sizeLine_eq]; omega))); intro _ _ _ _ _ zl _ _ _; (try k_lt zl); (revert zl; intro _); (try k_sweep)))
  k_with "MINE" => ((with_reducible show wpAny _ _ (subscriptTail _ (PySem.Expr.Slice _ _ none _) (Value.ref _) (Value.ref _)) _ _ _); k_extra "MY subscriptTail Name Slice ref ref")
  trivial
abbrev qL : Str := ((Str.ofString "_law_back" ++ (".<locals>." : Str)) ++ Str.ofString "<lambda>")
abbrev tabA (c1 c2 : Addr) : Array Value := #[rawInt ((221 : Nat) : Int), rawInt ((46 : Nat) : Int), .ref c1, rawInt ((223 : Nat) : Int), rawInt ((47 : Nat) : Int), .ref c2]
/-- the laid-aside table of _law_back's code, and the two codes that it may hold -/
inductive TabS : Array Value → List (Addr × Obj) → Prop
  | fresh : TabS #[] []
  | full {c1 c2 : Addr} {o1 o2 : Obj} {v1 v2 : Array Value} {t1 t2 : Tok} : o1.data = .fields v1 → v1[1]? = some (.str qL t1) → o2.data = .fields v2 → v2[1]? = some (.str qL t2) → TabS (tabA c1 c2) [(c1, o1), (c2, o2)]
theorem key_place {zs : List Int} {x : Int} {k : Nat} (hs : zs.Pairwise (· < ·)) (hk : k < zs.length) (hz : zs.getD k 0 = x) : (∀ y ∈ zs.take k, y < x) ∧ (∀ y ∈ zs.drop k, x ≤ y) ∧ (∀ y ∈ zs.take (k + 1), y ≤ x) ∧ (∀ y ∈ zs.drop (k + 1), x < y) := by
  have h1 := bis_drop (x := x) hs hk (by omega)
  have h2 := bis_take (x := x + 1) hs hk (by omega)
  have hke : zs[k] = x := by rw [List.getD_eq_getElem?_getD, List.getElem?_eq_getElem hk] at hz; exact hz
  refine ⟨fun y hy => ?_, h1, fun y hy => by have := h2 y hy; omega, fun y hy => ?_⟩
  · obtain ⟨i, hi, rfl⟩ := List.mem_take_iff_getElem.mp hy
    have := List.pairwise_iff_getElem.mp hs i k (by omega) hk (by omega)
    omega
  · obtain ⟨i, hi, rfl⟩ := List.mem_drop_iff_getElem.mp hy
    have := List.pairwise_iff_getElem.mp hs k (k + 1 + i) hk (by omega) (by omega)
    omega
theorem place_uniq2 {xs : List Int} {v : Int} {j k : Nat} (hj : j ≤ xs.length) (hk : k ≤ xs.length) (a1 : ∀ y ∈ xs.take j, y ≤ v) (a2 : ∀ y ∈ xs.drop j, v < y) (b1 : ∀ y ∈ xs.take k, y ≤ v) (b2 : ∀ y ∈ xs.drop k, v < y) : j = k :=
  place_uniq (v := v + 1) hj hk (fun y hy => by have := a1 y hy; omega) (fun y hy => by have := a2 y hy; omega) (fun y hy => by have := b1 y hy; omega) (fun y hy => by have := b2 y hy; omega)
theorem LamIs.of {w : World} {news : List (Addr × Obj)} {h₀ h : Heap} {L f : Addr} {S : List (Int × Int × Tok)} {name qual : Str} {p0 p1 p2 p3 : Pos} {cT : Addr} {pm : Value} {c' : Addr} {ctv : Value} {oc : Obj} {vs : Array Value} {t : Tok} {oT : Obj} {aS : Addr} {oS : Obj} (_N : News h₀ L h news)
    (h1 : (f, kla_obj name qual (lamA p0) (lamB p1 p2 p3) lamS [(Str.ofString "turns", cT)] pm c' ctv) ∈ news) (h2 : (c', oc) ∈ news) (h3 : oc.data = .fields vs) (h4 : vs[1]? = some (.str qual t)) (h5 : (cT, oT) ∈ news) (h6 : oT.data = .cell (some (.ref aS))) (h7 : (aS, oS) ∈ news) (h8 : oS.IsDictOf (intKind PySem.Challenge.rw_mr0333_01.row.prog w) (kvI S)) : LamIs w news f S :=
  ⟨⟨name, qual, p0, p1, p2, p3, cT, pm, c', ctv, oc, vs, t, oT, aS, oS, h1, h2, h3, h4, h5, h6, h7, h8⟩⟩
theorem bk_spec {w : World} {A A₀ : Around} {env : Env} {outer : List Env} {base h₀ : Heap} {L : Addr} {m mg mb : Str → Option Value} {p : Program} {loose : List Str} {mean : ExcName → Option Value} {s : Shared} {news : List (Addr × Obj)} {R : Result → Shared → Prop}
    {aDe aS : Addr} {oS : Obj} {nD : Nat} {Dr : List DeedR} {S : List (Int × Int × Tok)}
    (C : Cx w A A₀ env outer base h₀ L m mg mb p loose mean s.heap ((194, tabObj #[]) :: news) 895) (hcd : CodeHd base 198 194) (h194 : 194 ∉ news.map (·.1)) (hmD : (aDe, W.listOf (deV Dr).toArray nD) ∈ news) (hmd : ∀ r ∈ Dr, ∀ q ∈ dseg r, q ∈ news) (hid : ∀ r ∈ Dr, IntsAre r.vs r.xs)
    (hmS : (aS, oS) ∈ news) (hS : oS.IsDictOf (intKind PySem.Challenge.rw_mr0333_01.row.prog w) (kvI S)) (hu : A.units + 100 < cLine)
    (hlen : ∀ r ∈ Dr, r.xs.length ≤ 500) (hk : ∀ r ∈ Dr, r.k < r.xs.length ∧ r.xs.getD r.k 0 = r.v) (hin : ∀ r ∈ Dr, ∀ y ∈ r.xs, y ∈ S.map (·.1)) (hs : ∀ r ∈ Dr, (r.xs.map (stp S)).Pairwise (· < ·))
    (hR : ∀ h' tk ps, Fr h₀ L h' m → News h₀ L h' [(194, tabObj ps)] → R (.ok (.ret (.bool true))) { s with heap := h', toks := tk }) :
    codeAny (model PySem.Challenge.rw_mr0333_01.row.prog w) A (.call (.ref 199) ⟨[.ref aDe, .ref aS], []⟩) R s := by
  obtain ⟨B, F, X, N, T, hA, hf, hke, hdep, hh⟩ := C
  revert X
  k_fill
  intro X
  refine' enterC (binds := [(Str.ofString "deeds", .ref aDe), (Str.ofString "turns", .ref aS)]) B F X N T hA hf hke (by k_is) (by k_is) (by show A.depth < 1000; omega) (kp_binds (by k_in) (fun _ => rfl)) rfl (by decide +kernel) ?_ rfl rfl rfl
  intro g' L' h' tk' cells FG' F' N' Y' B' X' T' lL hA'
  obtain ⟨oC, rfl, hC⟩ := CellsAre.one Y'
  replace N' : News g' L' h' ((L' + 1, oC) :: (194, tabObj #[]) :: news) := N'
  replace F' : Fr g' L' h' (fun y => if y = Str.ofString "deeds" then some (.ref aDe) else none) := F'
  replace hC : oC.data = .cell (some (.ref aS)) := hC
  clear Y'
  have hcd' : CodeHd g' 198 194 := CodeHd.keeps hcd B'.stays
  walk_at "MINE steps"
  refine For_start ?_
  walk_at "MINE cells"
  have hL194 : @Ne Nat (L' + 1) 194 := by
    have := ltN (lL _ (.head _))
    omega
  refine ForL.listT hh F' N' (.tail _ (.tail _ hmD)) (fun j m₁ n₁ => ∃ ps cs, n₁ = (L' + 1, oC) :: (194, tabObj ps) :: (cs ++ news) ∧ TabS ps cs ∧ 194 ∉ (cs ++ news).map (·.1)) ?_ ⟨_, _, _, rfl⟩ (fun v hv => by obtain ⟨r, _, rfl⟩ := List.mem_map.mp hv; exact ⟨_, rfl⟩) ?_ ?_
  · exact ⟨#[], [], rfl, .fresh, h194⟩
  · rintro I j x m₁ n₁ oI h tk hx ⟨ps, cs, rfl, hTab, hno⟩ hD hI lI F6 N7
    obtain ⟨r, hr, rfl⟩ : ∃ r ∈ Dr, Value.ref r.tup = x := by
      rw [List.getElem?_map] at hx
      cases e : Dr[j]? with
      | none => rw [e] at hx; cases hx
      | some r => rw [e] at hx; exact ⟨r, List.mem_of_getElem? e, Option.some.inj hx⟩
    have hrt := hmd r hr _ (.head _)
    have hrl := hmd r hr _ (.tail _ (.head _))
    have hri := hid r hr
    have hrlen := hri.length
    have hrx := hlen r hr
    obtain ⟨hk1, hk2⟩ := hk r hr
    have hrin := hin r hr
    have hrs := hs r hr
    obtain ⟨q, hq, q1, q2, q3⟩ := kvI_find (hrin r.v (hk2 ▸ getD_mem' hk1))
    simp only [List.map_cons, List.mem_cons, not_or] at hI
    have z1 : @Ne Nat I 194 := hI.2.1
    cases hTab with
    | fresh =>
      replace N7 : News g' L' h ((I, oI) :: (L' + 1, oC) :: (194, tabObj #[]) :: news) := N7
      clear N' F'
      refine unpackN_ F6 N7 (News.isTup N7 (.tail _ (.tail _ (.tail _ hrt)))) hh rfl rfl ?_
      intro h8 F8 N8
      clear N7 F6
      have kp := key_place (x := stp S r.v) hrs (by rw [List.length_map]; exact hk1) (by rw [getD_map hk1, hk2])
      have hsl : List.take (min ((r.k : Int) + 1).toNat r.xs.length - ((r.k : Int)).toNat) (List.drop ((r.k : Int)).toNat r.xs) = [r.v] := by
        rw [slice_one (by omega), List.drop_eq_getElem_cons hk1, List.take_succ_cons, List.take_zero]
        have hk3 : r.xs[r.k] = r.v := by rw [List.getD_eq_getElem?_getD, List.getElem?_eq_getElem hk1] at hk2; exact hk2
        rw [hk3]
      walk_at "MINE cells"
      · rename_i f1 c1 o1 v1 t1 ct1 _ _ F9 N9 d1 d2 l1 l2
        have hl1 := LamIs.of (S := S) N9 (.head _) (by k_mem) d1 d2 (by k_mem) hC (by k_mem) hS
        refine wpAny_call (blk_spec ⟨B', F9, X', N9, T', hA', rfl, rfl, by show A.depth + 1 ≤ 898; omega, hh⟩ (by k_mem) hri (by omega) hl1 hrin hrs ?_)
        intro h9 tk9 t9 k9 F10 N10 hk9 e1 e2
        have ek9 := place_uniq (by rw [List.length_map]; exact hk9) (by rw [List.length_map]; omega) e1 e2 kp.1 kp.2.1
        subst ek9
        clear F9 N9 hl1
        walk_at "MINE cells"
        · exfalso; omega
        rename_i f2 c2 o2 v2 t2 ct2 _ _ F11 N11 d3 d4 l3 l4
        have hl2 := LamIs.of (S := S) N11 (.head _) (by k_mem) d3 d4 (by k_mem) hC (by k_mem) hS
        refine wpAny_call (brk_spec ⟨B', F11, X', N11, T', hA', rfl, rfl, by show A.depth + 1 ≤ 898; omega, hh⟩ (by k_mem) hri (by omega) hl2 hrin hrs ?_)
        intro h11 tk11 t11 k11 F12 N12 hk11 e3 e4
        have ek11 := place_uniq2 (by rw [List.length_map]; exact hk11) (by rw [List.length_map]; omega) e3 e4 kp.2.2.1 kp.2.2.2
        subst ek11
        clear F11 N11 hl2
        walk_at "MINE cells"
        · exfalso; omega
        replace N12 : News g' L' h11 (_ :: _ :: _ :: _ :: _ :: _ :: _ :: _ :: (194, tabObj (tabA c1 c2)) :: news) := N12
        have N13 : News g' L' h11 ((I, oI) :: (L' + 1, oC) :: (194, tabObj (tabA c1 c2)) :: (c1, o1) :: (c2, o2) :: news) := News.sub N12 (by
          intro z hz
          rcases List.mem_cons.mp hz with rfl | hz
          · exact .tail _ (.tail _ (.tail _ (.tail _ (.tail _ (.tail _ (.head _))))))
          rcases List.mem_cons.mp hz with rfl | hz
          · exact .tail _ (.tail _ (.tail _ (.tail _ (.tail _ (.tail _ (.tail _ (.head _)))))))
          rcases List.mem_cons.mp hz with rfl | hz
          · exact .tail _ (.tail _ (.tail _ (.tail _ (.tail _ (.tail _ (.tail _ (.tail _ (.head _))))))))
          rcases List.mem_cons.mp hz with rfl | hz
          · exact .tail _ (.tail _ (.tail _ (.head _)))
          rcases List.mem_cons.mp hz with rfl | hz
          · exact .tail _ (.head _)
          exact .tail _ (.tail _ (.tail _ (.tail _ (.tail _ (.tail _ (.tail _ (.tail _ (.tail _ (hz)))))))))
          )
        refine ⟨_, _, _, (L' + 1, oC) :: (194, tabObj (tabA c1 c2)) :: ([(c1, o1), (c2, o2)] ++ news), rfl, F12, N13, ?_, ?_, tabA c1 c2, [(c1, o1), (c2, o2)], rfl, .full d1 d2 d3 d4, ?_⟩
        · intro z hz
          rw [List.mem_singleton.mp hz]
          exact .tail _ (.tail _ (.tail _ (.tail _ hmD)))
        · simp only [List.map_cons, List.cons_append, List.nil_append, List.mem_cons, not_or]
          exact ⟨hI.1, hI.2.1, Nat.ne_of_lt l1.2.2.1, Nat.ne_of_lt l3.2.2.2.2.1, hI.2.2⟩
        · simp only [List.map_cons, List.cons_append, List.nil_append, List.mem_cons, not_or]
          exact ⟨Nat.ne_of_lt l1.2.2.2.2.1, Nat.ne_of_lt l3.2.2.2.2.2.2.1, h194⟩
    | @full c1 c2 o1 o2 v1 v2 t1 t2 d1 d2 d3 d4 =>
      replace N7 : News g' L' h ((I, oI) :: (L' + 1, oC) :: (194, tabObj (tabA c1 c2)) :: (c1, o1) :: (c2, o2) :: news) := N7
      clear N' F'
      refine unpackN_ F6 N7 (News.isTup N7 (.tail _ (.tail _ (.tail _ (.tail _ (.tail _ hrt)))))) hh rfl rfl ?_
      intro h8 F8 N8
      clear N7 F6
      have kp := key_place (x := stp S r.v) hrs (by rw [List.length_map]; exact hk1) (by rw [getD_map hk1, hk2])
      have hsl : List.take (min ((r.k : Int) + 1).toNat r.xs.length - ((r.k : Int)).toNat) (List.drop ((r.k : Int)).toNat r.xs) = [r.v] := by
        rw [slice_one (by omega), List.drop_eq_getElem_cons hk1, List.take_succ_cons, List.take_zero]
        have hk3 : r.xs[r.k] = r.v := by rw [List.getD_eq_getElem?_getD, List.getElem?_eq_getElem hk1] at hk2; exact hk2
        rw [hk3]
      walk_at "MINE cells"
      · rename_i f1 ct1 _ _ F9 N9 l1
        have hl1 := LamIs.of (S := S) N9 (.head _) (by k_mem) d1 d2 (by k_mem) hC (by k_mem) hS
        refine wpAny_call (blk_spec ⟨B', F9, X', N9, T', hA', rfl, rfl, by show A.depth + 1 ≤ 898; omega, hh⟩ (by k_mem) hri (by omega) hl1 hrin hrs ?_)
        intro h9 tk9 t9 k9 F10 N10 hk9 e1 e2
        have ek9 := place_uniq (by rw [List.length_map]; exact hk9) (by rw [List.length_map]; omega) e1 e2 kp.1 kp.2.1
        subst ek9
        clear F9 N9 hl1
        walk_at "MINE cells"
        · exfalso; omega
        rename_i f2 ct2 _ _ F11 N11 l3
        have hl2 := LamIs.of (S := S) N11 (.head _) (by k_mem) d3 d4 (by k_mem) hC (by k_mem) hS
        refine wpAny_call (brk_spec ⟨B', F11, X', N11, T', hA', rfl, rfl, by show A.depth + 1 ≤ 898; omega, hh⟩ (by k_mem) hri (by omega) hl2 hrin hrs ?_)
        intro h11 tk11 t11 k11 F12 N12 hk11 e3 e4
        have ek11 := place_uniq2 (by rw [List.length_map]; exact hk11) (by rw [List.length_map]; omega) e3 e4 kp.2.2.1 kp.2.2.2
        subst ek11
        clear F11 N11 hl2
        walk_at "MINE cells"
        · exfalso; omega
        have N13 : News g' L' h11 ((I, oI) :: (L' + 1, oC) :: (194, tabObj (tabA c1 c2)) :: (c1, o1) :: (c2, o2) :: news) := News.sub N12 (by
          intro z hz
          rcases List.mem_cons.mp hz with rfl | hz
          · exact .tail _ (.tail _ (.tail _ (.tail _ (.head _))))
          rcases List.mem_cons.mp hz with rfl | hz
          · exact .tail _ (.tail _ (.tail _ (.tail _ (.tail _ (.head _)))))
          rcases List.mem_cons.mp hz with rfl | hz
          · exact .tail _ (.tail _ (.tail _ (.tail _ (.tail _ (.tail _ (.head _))))))
          rcases List.mem_cons.mp hz with rfl | hz
          · exact .tail _ (.tail _ (.tail _ (.tail _ (.tail _ (.tail _ (.tail _ (.head _)))))))
          rcases List.mem_cons.mp hz with rfl | hz
          · exact .tail _ (.tail _ (.tail _ (.tail _ (.tail _ (.tail _ (.tail _ (.tail _ (.head _))))))))
          exact .tail _ (.tail _ (.tail _ (.tail _ (.tail _ (.tail _ (.tail _ (.tail _ (.tail _ (hz)))))))))
          )
        refine ⟨_, _, _, (L' + 1, oC) :: (194, tabObj (tabA c1 c2)) :: ([(c1, o1), (c2, o2)] ++ news), rfl, F12, N13, ?_, ?_, tabA c1 c2, [(c1, o1), (c2, o2)], rfl, .full d1 d2 d3 d4, hno⟩
        · intro z hz
          rw [List.mem_singleton.mp hz]
          exact .tail _ (.tail _ (.tail _ (.tail _ hmD)))
        · simp only [List.map_cons, List.mem_cons, not_or]
          exact hI
  · rintro m' n₁ h tk F6 N7 hD ⟨ps, cs, rfl, hTab, hno⟩
    clear N' F'
    walk_at "MINE cells"
    rename_i kF kN _ _
    exact hR _ _ ps kF (News.sub kN (fun z hz => by rw [List.mem_singleton.mp hz]; exact .tail _ (.head _)))

end Mine
-- D2
namespace Mine
open PySem PySem.W PyProof.Rows
/-- an edge of the sorter's graph -/
def Ed (G : List ANode) (u x : Int) : Prop := ∃ a ∈ G, a.key = u ∧ x ∈ a.ss
def cnt (G : List ANode) (x : Int) : Int := (G.map fun b => ((b.ss.count x : Nat) : Int)).sum
structure GI (G : List ANode) : Prop where
  nd : (G.map ANode.key).Nodup
  np : ∀ a ∈ G, a.np = cnt G a.key
  cl : ∀ a ∈ G, ∀ x ∈ a.ss, x ∈ G.map ANode.key
theorem cnt_cons (a : ANode) (G : List ANode) (x : Int) : cnt (a :: G) x = ((a.ss.count x : Nat) : Int) + cnt G x := by unfold cnt; simp
theorem cnt_append (G H : List ANode) (x : Int) : cnt (G ++ H) x = cnt G x + cnt H x := by
  induction G with
  | nil => unfold cnt; simp
  | cons a G ih => rw [List.cons_append, cnt_cons, cnt_cons, ih]; omega
theorem cnt_zero {G : List ANode} {x : Int} (h : ∀ a ∈ G, x ∉ a.ss) : cnt G x = 0 := by
  induction G with
  | nil => rfl
  | cons a G ih => rw [cnt_cons, ih (fun b hb => h b (.tail _ hb)), List.count_eq_zero.mpr (h a (.head _))]; rfl
theorem ens_keys {v : Int} {G : List ANode} {k : Int} : k ∈ (ens v G).map ANode.key ↔ k ∈ G.map ANode.key ∨ k = v := by
  unfold ens
  split
  · rename_i h
    constructor
    · exact .inl
    · rintro (h1 | rfl)
      · exact h1
      · obtain ⟨a, ha, e⟩ := List.any_eq_true.mp h
        exact List.mem_map.mpr ⟨a, ha, by simpa using e⟩
  · simp
theorem ens_ed {v : Int} {G : List ANode} {u x : Int} : Ed (ens v G) u x ↔ Ed G u x := by
  unfold ens
  split
  · exact Iff.rfl
  · unfold Ed
    constructor
    · rintro ⟨a, ha, e, hx⟩
      rcases List.mem_append.mp ha with ha | ha
      · exact ⟨a, ha, e, hx⟩
      · rw [List.mem_singleton.mp ha] at hx; cases hx
    · rintro ⟨a, ha, e, hx⟩; exact ⟨a, List.mem_append_left _ ha, e, hx⟩
theorem GI.ens {v : Int} {G : List ANode} (g : GI G) : GI (Mine.ens v G) := by
  by_cases h : v ∈ G.map ANode.key
  · have e : Mine.ens v G = G := by
      unfold Mine.ens
      rw [if_pos]
      obtain ⟨a, ha, e⟩ := List.mem_map.mp h
      exact List.any_eq_true.mpr ⟨a, ha, by simpa using e⟩
    rw [e]; exact g
  · have e : Mine.ens v G = G ++ [⟨v, 0, []⟩] := by
      unfold Mine.ens
      rw [if_neg]
      intro q
      obtain ⟨a, ha, e⟩ := List.any_eq_true.mp q
      exact h (List.mem_map.mpr ⟨a, ha, by simpa using e⟩)
    rw [e]
    have hz : ∀ x, cnt (G ++ [⟨v, 0, []⟩]) x = cnt G x := fun x => by rw [cnt_append, cnt_cons]; simp [cnt]
    refine ⟨?_, ?_, ?_⟩
    · rw [List.map_append, List.nodup_append]
      refine ⟨g.nd, by simp, fun a ha b hb => ?_⟩
      rw [show b = v by simpa using hb]
      exact fun q => h (q ▸ ha)
    · intro a ha
      rw [hz]
      rcases List.mem_append.mp ha with ha | ha
      · exact g.np a ha
      · rw [List.mem_singleton.mp ha]
        exact (cnt_zero fun b hb hx => h (g.cl b hb v hx)).symm
    · intro a ha x hx
      rcases List.mem_append.mp ha with ha | ha
      · rw [List.map_append]; exact List.mem_append_left _ (g.cl a ha x hx)
      · rw [List.mem_singleton.mp ha] at hx; cases hx
theorem addSucc_out {l v : Int} {K : List ANode} (h : l ∉ K.map ANode.key) : addSucc l v K = K := by
  unfold addSucc
  rw [List.map_congr_left (g := id)]
  · simp
  · intro a ha
    rw [if_neg]; rfl
    exact fun e => h (List.mem_map.mpr ⟨a, ha, e⟩)
theorem cnt_addSucc {l v x : Int} {K : List ANode} (hn : (K.map ANode.key).Nodup) (hl : l ∈ K.map ANode.key) : cnt (addSucc l v K) x = cnt K x + if x = v then 1 else 0 := by
  induction K with
  | nil => cases hl
  | cons a K ih =>
    rw [List.map_cons, List.nodup_cons] at hn
    by_cases e : a.key = l
    · have h2 : addSucc l v (a :: K) = { a with ss := a.ss ++ [v] } :: addSucc l v K := by unfold addSucc; simp [e]
      rw [h2, addSucc_out (e ▸ hn.1), cnt_cons, cnt_cons, List.count_append]
      by_cases hx : x = v
      · subst hx; simp; omega
      · have : List.count x [v] = 0 := List.count_eq_zero.mpr (by simpa using hx)
        rw [this, if_neg hx]; simp
    · have h2 : addSucc l v (a :: K) = a :: addSucc l v K := by unfold addSucc; simp [e]
      have hl' : l ∈ K.map ANode.key := by
        rcases List.mem_cons.mp hl with h | h
        · exact absurd h.symm e
        · exact h
      rw [h2, cnt_cons, cnt_cons, ih hn.2 hl']; omega
/-- one edge added -/
def addE (l v : Int) (G : List ANode) : List ANode := addsBelow v [l] G
theorem addE_eq {l v : Int} {G : List ANode} (h : l ≠ v) : addE l v G = addSucc l v (addNp v 1 (ens l (ens v G))) := by
  unfold addE addsBelow
  simp only [List.foldl_cons, List.foldl_nil, List.length_singleton]
  congr 1
  show ens l (addNp v 1 (ens v G)) = addNp v 1 (ens l (ens v G))
  generalize ens v G = H
  have hk : (addNp v 1 H).any (fun r => decide (r.key = l)) = H.any (fun r => decide (r.key = l)) := by
    unfold addNp
    rw [List.any_map]
    congr 1
    funext r
    simp only [Function.comp]
    split <;> rfl
  unfold ens
  rw [hk]
  split
  · rfl
  · unfold addNp
    rw [List.map_append]
    simp [h]
theorem addE_map {l v : Int} {K : List ANode} : addSucc l v (addNp v 1 K) = K.map fun r => ⟨r.key, if r.key = v then r.np + 1 else r.np, if r.key = l then r.ss ++ [v] else r.ss⟩ := by
  unfold addSucc addNp
  rw [List.map_map]
  refine List.map_congr_left fun r _ => ?_
  simp only [Function.comp]
  by_cases h1 : r.key = v <;> by_cases h2 : r.key = l <;> simp [h1, h2]
  all_goals (rename_i h; simp_all)
theorem addE_keys {l v : Int} {G : List ANode} (h : l ≠ v) {k : Int} : k ∈ (addE l v G).map ANode.key ↔ k ∈ G.map ANode.key ∨ k = l ∨ k = v := by
  rw [addE_eq h, addE_map, List.map_map]
  have : (ANode.key ∘ fun r : ANode => (⟨r.key, if r.key = v then r.np + 1 else r.np, if r.key = l then r.ss ++ [v] else r.ss⟩ : ANode)) = ANode.key := rfl
  rw [this, ens_keys, ens_keys]
  constructor
  · rintro ((h | h) | h)
    · exact .inl h
    · exact .inr (.inr h)
    · exact .inr (.inl h)
  · rintro (h | h | h)
    · exact .inl (.inl h)
    · exact .inr h
    · exact .inl (.inr h)
theorem addE_ed {l v : Int} {G : List ANode} (h : l ≠ v) {u x : Int} : Ed (addE l v G) u x ↔ Ed G u x ∨ (u = l ∧ x = v) := by
  rw [addE_eq h, addE_map]
  have hl : l ∈ (ens l (ens v G)).map ANode.key := ens_keys.mpr (.inr rfl)
  rw [← ens_ed (v := v) (G := G), ← ens_ed (v := l) (G := ens v G)]
  unfold Ed
  constructor
  · rintro ⟨a, ha, e, hx⟩
    obtain ⟨r, hr, rfl⟩ := List.mem_map.mp ha
    dsimp only at e hx
    split at hx
    · rename_i hk
      rcases List.mem_append.mp hx with hx | hx
      · exact .inl ⟨r, hr, e, hx⟩
      · exact .inr ⟨e ▸ hk, by simpa using hx⟩
    · exact .inl ⟨r, hr, e, hx⟩
  · rintro (⟨r, hr, e, hx⟩ | ⟨rfl, rfl⟩)
    · refine ⟨_, List.mem_map.mpr ⟨r, hr, rfl⟩, e, ?_⟩
      dsimp only
      split
      · exact List.mem_append_left _ hx
      · exact hx
    · obtain ⟨r, hr, e⟩ := List.mem_map.mp hl
      refine ⟨_, List.mem_map.mpr ⟨r, hr, rfl⟩, e, ?_⟩
      dsimp only
      rw [if_pos e]; simp
theorem GI.addE {l v : Int} {G : List ANode} (h : l ≠ v) (g : GI G) : GI (Mine.addE l v G) := by
  have g2 : GI (Mine.ens l (Mine.ens v G)) := g.ens.ens
  have hl : l ∈ (Mine.ens l (Mine.ens v G)).map ANode.key := ens_keys.mpr (.inr rfl)
  have hv : v ∈ (Mine.ens l (Mine.ens v G)).map ANode.key := ens_keys.mpr (.inl (ens_keys.mpr (.inr rfl)))
  rw [addE_eq h]
  generalize Mine.ens l (Mine.ens v G) = K at *
  have hcn : ∀ x, cnt (addSucc l v (addNp v 1 K)) x = cnt K x + if x = v then 1 else 0 := by
    intro x
    have hk : (addNp v 1 K).map ANode.key = K.map ANode.key := by
      unfold addNp
      rw [List.map_map]
      refine List.map_congr_left fun r _ => ?_
      simp only [Function.comp]; split <;> rfl
    rw [cnt_addSucc (by rw [hk]; exact g2.nd) (by rw [hk]; exact hl)]
    congr 1
    unfold cnt addNp
    rw [List.map_map]
    congr 1
    refine List.map_congr_left fun r _ => ?_
    simp only [Function.comp]; split <;> rfl
  refine ⟨?_, ?_, ?_⟩
  · rw [addE_map, List.map_map]; exact g2.nd
  · intro a ha
    rw [hcn]
    rw [addE_map] at ha
    obtain ⟨r, hr, rfl⟩ := List.mem_map.mp ha
    dsimp only
    have := g2.np r hr
    split <;> omega
  · intro a ha x hx
    rw [addE_map] at ha ⊢
    obtain ⟨r, hr, rfl⟩ := List.mem_map.mp ha
    rw [List.map_map]
    show x ∈ K.map ANode.key
    dsimp only at hx
    split at hx
    · rcases List.mem_append.mp hx with hx | hx
      · exact g2.cl r hr x hx
      · rw [show x = v by simpa using hx]; exact hv
    · exact g2.cl r hr x hx
theorem addsBelow_nil {v : Int} {G : List ANode} : addsBelow v [] G = ens v G := by
  unfold addsBelow
  simp only [List.foldl_nil, List.length_nil]
  unfold addNp
  rw [List.map_congr_left (g := id)]
  · simp
  · intro a _
    split
    · simp
    · rfl
/-- a path -/
inductive Re (G : List ANode) : Int → Int → Prop
  | one {u x : Int} : Ed G u x → Re G u x
  | tail {u y x : Int} : Re G u y → Ed G y x → Re G u x
theorem Re.mono {G G' : List ANode} (h : ∀ u x, Ed G u x → Ed G' u x) {u x : Int} (r : Re G u x) : Re G' u x := by
  induction r with
  | one e => exact .one (h _ _ e)
  | tail _ e ih => exact .tail ih (h _ _ e)
theorem Re.trans {G : List ANode} {u y x : Int} (a : Re G u y) (b : Re G y x) : Re G u x := by
  induction b with
  | one e => exact .tail a e
  | tail _ e ih => exact .tail ih e
end Mine
-- D3
namespace Mine
open PySem PySem.W PyProof.Rows
/-- what the deeds leave, in plain numbers -/
structure Inv (st : DSt) : Prop where
  gi : GI st.G
  kk : ∀ x, x ∈ st.G.map ANode.key ↔ x ∈ st.M.map (·.1)
  mc : ∀ p ∈ st.M, ∀ o ∈ p.2, o ∈ st.M.map (·.1)
  ed : ∀ u x, Ed st.G u x → u < x ∧ ∃ p ∈ st.M, p.1 = x ∧ u ∈ p.2
  rr : st.row.Pairwise (Re st.G)
  mr : ∀ p ∈ st.M, ∀ o ∈ p.2, o < p.1 → Re st.G o p.1
  ds : ∀ d ∈ st.Ds, d.2.1 < d.2.2.length ∧ d.2.2.getD d.2.1 0 = d.1 ∧ (∀ y ∈ d.2.2, y ∈ st.M.map (·.1)) ∧ d.2.2.Pairwise (Re st.G)
theorem appM_mem {ins : List Int} {v : Int} {M : List (Int × List Int)} {p : Int × List Int} (h : p ∈ appM ins v M) : ∃ q ∈ M, p.1 = q.1 ∧ ((q.1 ∉ ins ∧ p.2 = q.2) ∨ (q.1 ∈ ins ∧ p.2 = q.2 ++ [v])) := by
  obtain ⟨q, hq, rfl⟩ := List.mem_map.mp h
  refine ⟨q, hq, ?_⟩
  by_cases hc : q.1 ∈ ins
  · rw [if_pos hc]; exact ⟨rfl, .inr ⟨hc, rfl⟩⟩
  · rw [if_neg hc]; exact ⟨rfl, .inl ⟨hc, rfl⟩⟩
theorem setM_mem {v : Int} {l : List Int} {M : List (Int × List Int)} {p : Int × List Int} (h : p ∈ setM v l M) : p = (v, l) ∨ (p ∈ M ∧ p.1 ≠ v) := by
  unfold setM at h
  split at h
  · obtain ⟨q, hq, rfl⟩ := List.mem_map.mp h
    by_cases hc : q.1 = v
    · rw [if_pos hc]; exact .inl rfl
    · rw [if_neg hc]; exact .inr ⟨hq, hc⟩
  · rename_i hn
    rcases List.mem_append.mp h with h | h
    · exact .inr ⟨h, fun e => hn (List.any_eq_true.mpr ⟨p, h, decide_eq_true e⟩)⟩
    · exact .inl (List.mem_singleton.mp h)
theorem setM_new_mem {v : Int} {l : List Int} {M : List (Int × List Int)} : (v, l) ∈ setM v l M := by
  unfold setM
  split
  · rename_i h
    obtain ⟨q, hq, e⟩ := List.any_eq_true.mp h
    exact List.mem_map.mpr ⟨q, hq, if_pos (of_decide_eq_true e)⟩
  · simp
theorem setM_old_mem {v : Int} {l : List Int} {M : List (Int × List Int)} {p : Int × List Int} (hp : p ∈ M) (hn : p.1 ≠ v) : p ∈ setM v l M := by
  unfold setM
  split
  · exact List.mem_map.mpr ⟨p, hp, if_neg hn⟩
  · exact List.mem_append_left _ hp
theorem getM_mem {v o : Int} {M : List (Int × List Int)} (h : o ∈ getM v M) : ∃ p ∈ M, p.1 = v ∧ o ∈ p.2 := by
  unfold getM at h
  cases e : M.find? (fun p => decide (p.1 = v)) with
  | none => rw [e] at h; cases h
  | some p =>
    rw [e] at h
    have hp := List.find?_some e
    exact ⟨p, List.mem_of_find?_eq_some e, by simpa using hp, h⟩
theorem getM_of {M : List (Int × List Int)} {p : Int × List Int} (hn : (M.map (·.1)).Nodup) (hp : p ∈ M) : getM p.1 M = p.2 := by
  unfold getM
  induction M with
  | nil => cases hp
  | cons q M ih =>
    rw [List.map_cons, List.nodup_cons] at hn
    rcases List.mem_cons.mp hp with rfl | hp
    · simp
    · have : q.1 ≠ p.1 := fun e => hn.1 (e ▸ List.mem_map_of_mem hp)
      rw [List.find?_cons_of_neg (by simpa using this)]
      exact ih hn.2 hp
section
variable {st : DSt} {n : Nat} {v : Int}
/-- the graph behind a coming -/
def gA (v : Int) (st : DSt) : List ANode := addsAbove v ((st.row.drop (plc st.row v)).take 1) (addsBelow v (lastOf (st.row.take (plc st.row v))) st.G)
structure GA (v : Int) (st : DSt) (G' : List ANode) : Prop where
  gi : GI G'
  keys : ∀ k, k ∈ G'.map ANode.key ↔ k ∈ st.G.map ANode.key ∨ k = v
  old : ∀ u x, Ed st.G u x → Ed G' u x
  new : ∀ u x, Ed G' u x → Ed st.G u x ∨ (x = v ∧ u ∈ st.row ∧ u < v) ∨ (u = v ∧ x ∈ st.row ∧ v < x)
  lo : ∀ a ∈ st.row.take (plc st.row v), Re G' a v
  hi : ∀ b ∈ st.row.drop (plc st.row v), Re G' v b
theorem lastOf_nil : lastOf [] = [] := rfl
theorem lastOf_snoc (xs : List Int) (l : Int) : lastOf (xs ++ [l]) = [l] := by unfold lastOf; simp
theorem gA_ok (d : DOK st n) (i : Inv st) (hv : v ∉ st.ins) : GA v st (gA v st) := by
  obtain ⟨hk, h1, h2⟩ := plc_spec (v := v) d.so
  have hnr : v ∉ st.row := fun q => hv (d.pm.mem_iff.mp q)
  have hrow : st.row = st.row.take (plc st.row v) ++ st.row.drop (plc st.row v) := (List.take_append_drop _ _).symm
  have hrr := i.rr
  have hinG : ∀ y ∈ st.row, y ∈ st.G.map ANode.key := fun y hy => by
    obtain ⟨p, hp, e⟩ := d.inM y (d.pm.mem_iff.mp hy)
    exact (i.kk y).mpr (List.mem_map.mpr ⟨p, hp, e⟩)
  unfold gA
  rw [hrow] at hrr hnr hinG
  have hm1 : ∀ y ∈ st.row.take (plc st.row v), y ∈ st.row := fun y hy => List.mem_of_mem_take hy
  have hm2 : ∀ y ∈ st.row.drop (plc st.row v), y ∈ st.row := fun y hy => List.mem_of_mem_drop hy
  generalize hA : st.row.take (plc st.row v) = A at *
  generalize hB : st.row.drop (plc st.row v) = B at *
  rw [List.pairwise_append] at hrr
  -- below
  have below : ∃ G1, addsBelow v (lastOf A) st.G = G1 ∧ GI G1 ∧ (∀ k, k ∈ G1.map ANode.key ↔ k ∈ st.G.map ANode.key ∨ k = v) ∧ (∀ u x, Ed st.G u x → Ed G1 u x) ∧ (∀ u x, Ed G1 u x → Ed st.G u x ∨ (x = v ∧ u ∈ st.row ∧ u < v)) ∧ ∀ a ∈ A, Re G1 a v := by
    rcases List.eq_nil_or_concat A with rfl | ⟨A', l, rfl⟩
    · refine ⟨_, rfl, ?_, ?_, ?_, ?_, fun a ha => nomatch ha⟩
      · rw [lastOf_nil, addsBelow_nil]; exact i.gi.ens
      · intro k; rw [lastOf_nil, addsBelow_nil]; exact ens_keys
      · intro u x e; rw [lastOf_nil, addsBelow_nil]; exact ens_ed.mpr e
      · intro u x e; rw [lastOf_nil, addsBelow_nil] at e; exact .inl (ens_ed.mp e)
    · rw [List.concat_eq_append] at *
      rw [lastOf_snoc]
      have hlv : l < v := h1 l (by simp)
      have hne : l ≠ v := by omega
      refine ⟨addE l v st.G, rfl, i.gi.addE hne, fun k => ?_, fun u x e => (addE_ed hne).mpr (.inl e), fun u x e => ?_, fun a ha => ?_⟩
      · rw [addE_keys hne]
        constructor
        · rintro (h | rfl | h)
          · exact .inl h
          · exact .inl (hinG k (by simp))
          · exact .inr h
        · rintro (h | h)
          · exact .inl h
          · exact .inr (.inr h)
      · rcases (addE_ed hne).mp e with e | ⟨rfl, rfl⟩
        · exact .inl e
        · exact .inr ⟨rfl, hm1 u (by simp), hlv⟩
      · have hle : Ed (addE l v st.G) l v := (addE_ed hne).mpr (.inr ⟨rfl, rfl⟩)
        rcases List.mem_append.mp ha with ha | ha
        · have hp := (List.pairwise_append.mp hrr.1).2.2 a ha l (by simp)
          exact .tail (hp.mono fun u x e => (addE_ed hne).mpr (.inl e)) hle
        · rw [List.mem_singleton.mp ha]; exact .one hle
  obtain ⟨G1, e1, g1, k1, o1, n1, l1⟩ := below
  rw [e1]
  cases B with
  | nil => exact ⟨g1, k1, o1, fun u x e => (n1 u x e).elim .inl fun h => .inr (.inl h), fun a ha => l1 a (hA ▸ ha), fun b hb => by rw [hB] at hb; cases hb⟩
  | cons r B' =>
    have hvr : v < r := by
      have h3 := h2 r (.head _)
      have h4 : v ≠ r := fun e => hnr (e ▸ List.mem_append_right _ (.head _))
      omega
    have hne : v ≠ r := by omega
    have ea : addsAbove v ((r :: B').take 1) G1 = addE v r G1 := rfl
    rw [ea]
    have hed : Ed (addE v r G1) v r := (addE_ed hne).mpr (.inr ⟨rfl, rfl⟩)
    have mono : ∀ u x, Ed G1 u x → Ed (addE v r G1) u x := fun u x e => (addE_ed hne).mpr (.inl e)
    refine ⟨g1.addE hne, fun k => ?_, fun u x e => mono u x (o1 u x e), fun u x e => ?_, fun a ha => (l1 a (hA ▸ ha)).mono mono, fun b hb => ?_⟩
    · rw [addE_keys hne, k1]
      constructor
      · rintro ((h | h) | h | rfl)
        · exact .inl h
        · exact .inr h
        · exact .inr h
        · exact .inl (hinG k (by simp))
      · rintro (h | h)
        · exact .inl (.inl h)
        · exact .inl (.inr h)
    · rcases (addE_ed hne).mp e with e | ⟨rfl, rfl⟩
      · exact (n1 u x e).elim .inl fun h => .inr (.inl h)
      · exact .inr (.inr ⟨rfl, hm2 x (.head _), hvr⟩)
    · rw [hB] at hb
      rcases List.mem_cons.mp hb with rfl | hb
      · exact .one hed
      · have hp := (List.pairwise_cons.mp hrr.2.1).1 b hb
        exact Re.trans (.one hed) (hp.mono fun u x e => mono u x (o1 u x e))
theorem Inv.stepA (d : DOK st n) (i : Inv st) (hv : v ∉ st.ins) : Inv (Mine.stepA v st) := by
  have ga := gA_ok d i hv
  obtain ⟨hk, h1, h2⟩ := plc_spec (v := v) d.so
  have hnr : v ∉ st.row := fun q => hv (d.pm.mem_iff.mp q)
  have hlt : ∀ y ∈ st.row.drop (plc st.row v), v < y := fun y hy => by
    have := h2 y hy
    have : y ≠ v := fun e => hnr (e ▸ List.mem_of_mem_drop hy)
    omega
  have eG : (Mine.stepA v st).G = gA v st := rfl
  have eM : (Mine.stepA v st).M = setM v (getM v st.M ++ st.ins) (appM st.ins v st.M) := rfl
  have hkeys : ∀ k, k ∈ (Mine.stepA v st).M.map (·.1) ↔ k ∈ st.M.map (·.1) ∨ k = v := by
    intro k
    rw [eM, setM_keys, appM_keys]
    split
    · rename_i h
      obtain ⟨p, hp, e⟩ := List.any_eq_true.mp h
      have : v ∈ st.M.map (·.1) := by rw [← appM_keys (ins := st.ins) (v := v)]; exact List.mem_map.mpr ⟨p, hp, of_decide_eq_true e⟩
      exact ⟨.inl, fun h => h.elim id fun e => e ▸ this⟩
    · simp
  have insM : ∀ o ∈ st.ins, o ∈ st.M.map (·.1) := fun o ho => by obtain ⟨p, hp, e⟩ := d.inM o ho; exact List.mem_map.mpr ⟨p, hp, e⟩
  have grow : ∀ p ∈ st.M, ∃ p' ∈ (Mine.stepA v st).M, p'.1 = p.1 ∧ ∀ o ∈ p.2, o ∈ p'.2 := by
    intro p hp
    rw [eM]
    by_cases e : p.1 = v
    · refine ⟨_, setM_new_mem, e.symm, fun o ho => List.mem_append_left _ ?_⟩
      rw [← e, getM_of d.nd hp]; exact ho
    · by_cases hc : p.1 ∈ st.ins
      · exact ⟨(p.1, p.2 ++ [v]), setM_old_mem (List.mem_map.mpr ⟨p, hp, if_pos hc⟩) e, rfl, fun o ho => List.mem_append_left _ ho⟩
      · exact ⟨p, setM_old_mem (List.mem_map.mpr ⟨p, hp, if_neg hc⟩) e, rfl, fun o ho => ho⟩
  have hloR : ∀ o ∈ st.row, o < v → Re (gA v st) o v := fun o ho hl => by
    rw [← List.take_append_drop (plc st.row v) st.row] at ho
    rcases List.mem_append.mp ho with ho | ho
    · exact ga.lo o ho
    · have := hlt o ho; omega
  have hhiR : ∀ o ∈ st.row, v < o → Re (gA v st) v o := fun o ho hl => by
    rw [← List.take_append_drop (plc st.row v) st.row] at ho
    rcases List.mem_append.mp ho with ho | ho
    · have := h1 o ho; omega
    · exact ga.hi o ho
  have row' : (Mine.stepA v st).row.Pairwise (Re (gA v st)) := by
    show (st.row.take (plc st.row v) ++ v :: st.row.drop (plc st.row v)).Pairwise _
    have rr := i.rr
    rw [← List.take_append_drop (plc st.row v) st.row, List.pairwise_append] at rr
    rw [List.pairwise_append]
    refine ⟨rr.1.imp fun h => h.mono ga.old, List.pairwise_cons.mpr ⟨ga.hi, rr.2.1.imp fun h => h.mono ga.old⟩, fun a ha b hb => ?_⟩
    rcases List.mem_cons.mp hb with rfl | hb
    · exact ga.lo a ha
    · exact (rr.2.2 a ha b hb).mono ga.old
  refine ⟨ga.gi, fun x => ?_, ?_, ?_, row', ?_, ?_⟩
  · rw [eG, ga.keys, hkeys, i.kk]
  · intro p hp o ho
    rw [hkeys]
    rw [eM] at hp
    rcases setM_mem hp with rfl | ⟨hp, _⟩
    · rcases List.mem_append.mp ho with ho | ho
      · obtain ⟨q, hq, _, hoq⟩ := getM_mem ho
        exact .inl (i.mc q hq o hoq)
      · exact .inl (insM o ho)
    · obtain ⟨q, hq, _, hc⟩ := appM_mem hp
      rcases hc with ⟨_, e⟩ | ⟨_, e⟩
      · exact .inl (i.mc q hq o (e ▸ ho))
      · rw [e] at ho
        rcases List.mem_append.mp ho with ho | ho
        · exact .inl (i.mc q hq o ho)
        · exact .inr (List.mem_singleton.mp ho)
  · intro u x e
    rcases ga.new u x e with e | ⟨rfl, hu, hl⟩ | ⟨rfl, hx, hl⟩
    · obtain ⟨hlt, p, hp, e1, hu⟩ := i.ed u x e
      obtain ⟨p', hp', e2, hs⟩ := grow p hp
      exact ⟨hlt, p', hp', e2.trans e1, hs u hu⟩
    · exact ⟨hl, _, setM_new_mem, rfl, List.mem_append_right _ (d.pm.mem_iff.mp hu)⟩
    · obtain ⟨p, hp, e1⟩ := d.inM x (d.pm.mem_iff.mp hx)
      refine ⟨hl, (p.1, p.2 ++ [u]), setM_old_mem (List.mem_map.mpr ⟨p, hp, if_pos (e1 ▸ d.pm.mem_iff.mp hx)⟩) (by show p.1 ≠ u; omega), e1, by simp⟩
  · intro p hp o ho hl
    rw [eG]
    rw [eM] at hp
    rcases setM_mem hp with rfl | ⟨hp, _⟩
    · rcases List.mem_append.mp ho with ho | ho
      · obtain ⟨q, hq, e, hoq⟩ := getM_mem ho
        have := i.mr q hq o hoq (by rw [e]; exact hl)
        rw [e] at this
        exact this.mono ga.old
      · exact hloR o (d.pm.mem_iff.mpr ho) hl
    · obtain ⟨q, hq, e, hc⟩ := appM_mem hp
      rcases hc with ⟨_, e2⟩ | ⟨hin, e2⟩
      · rw [e]; exact (i.mr q hq o (e2 ▸ ho) (e ▸ hl)).mono ga.old
      · rw [e2] at ho
        rcases List.mem_append.mp ho with ho | ho
        · rw [e]; exact (i.mr q hq o ho (e ▸ hl)).mono ga.old
        · rw [List.mem_singleton.mp ho] at hl ⊢
          rw [e] at hl ⊢
          exact hhiR q.1 (d.pm.mem_iff.mpr hin) hl
  · intro dd hd
    have hd' : dd ∈ st.Ds ++ [(v, plc st.row v, st.row.take (plc st.row v) ++ v :: st.row.drop (plc st.row v))] := hd
    rcases List.mem_append.mp hd' with hd | hd
    · obtain ⟨a, b, c, e⟩ := i.ds dd hd
      exact ⟨a, b, fun y hy => (hkeys y).mpr (.inl (c y hy)), e.imp fun h => h.mono ga.old⟩
    · rw [List.mem_singleton.mp hd]
      have hl : (st.row.take (plc st.row v)).length = plc st.row v := by rw [List.length_take]; omega
      refine ⟨by simp; omega, ?_, fun y hy => ?_, row'⟩
      · dsimp only
        rw [List.getD_eq_getElem?_getD, List.getElem?_append_right (by omega), hl, Nat.sub_self]; rfl
      · rw [hkeys]
        rcases List.mem_append.mp hy with hy | hy
        · exact .inl (insM y (d.pm.mem_iff.mp (List.mem_of_mem_take hy)))
        · rcases List.mem_cons.mp hy with rfl | hy
          · exact .inr rfl
          · exact .inl (insM y (d.pm.mem_iff.mp (List.mem_of_mem_drop hy)))
theorem Inv.stepB {j : Nat} (d : DOK st n) (i : Inv st) (hj : j < st.ins.length) : Inv (Mine.stepB j st) := by
  have hv : st.ins.getD j 0 ∈ st.row := d.pm.mem_iff.mpr (by rw [List.getD_eq_getElem?_getD, List.getElem?_eq_getElem hj]; exact List.getElem_mem hj)
  have hd := plc_mem d.so hv
  have hre : st.row = st.row.take (plc st.row (st.ins.getD j 0)) ++ st.ins.getD j 0 :: st.row.drop (plc st.row (st.ins.getD j 0) + 1) := by rw [← hd, List.take_append_drop]
  have hk := (plc_spec (v := st.ins.getD j 0) d.so).1
  refine ⟨i.gi, i.kk, i.mc, i.ed, ?_, i.mr, ?_⟩
  · show (st.row.take _ ++ st.row.drop _).Pairwise _
    have rr := i.rr
    rw [hre] at rr
    exact rr.sublist ((List.Sublist.refl _).append (List.sublist_cons_self _ _))
  · intro dd hdd
    have hd' : dd ∈ st.Ds ++ [(st.ins.getD j 0, plc st.row (st.ins.getD j 0), st.row)] := hdd
    rcases List.mem_append.mp hd' with hd' | hd'
    · exact i.ds dd hd'
    · rw [List.mem_singleton.mp hd']
      have hl : (st.row.take (plc st.row (st.ins.getD j 0))).length = plc st.row (st.ins.getD j 0) := by rw [List.length_take]; omega
      have hlen := congrArg List.length hre
      rw [List.length_append, List.length_cons, hl] at hlen
      refine ⟨by dsimp only; omega, ?_, fun y hy => ?_, i.rr⟩
      · dsimp only
        rw [List.getD_eq_getElem?_getD, ← List.head?_drop, hd]; rfl
      · obtain ⟨p, hp, e⟩ := d.inM y (d.pm.mem_iff.mp hy)
        exact List.mem_map.mpr ⟨p, hp, e⟩
theorem Inv.stepD {k : Int} (d : DOK st n) (i : Inv st) : Inv (Mine.stepD st k) := by
  unfold Mine.stepD
  split
  · split
    · exact i
    · rename_i h; exact i.stepA d h
  · split
    · exact i
    · rename_i h
      exact i.stepB d (modlen (by cases e : st.ins with | nil => exact absurd e h | cons => simp))
end
end Mine
-- K1
namespace Mine
open PySem PySem.W PyProof.Rows
theorem cnt_nonneg (L : List ANode) (x : Int) : 0 ≤ cnt L x := by
  induction L with
  | nil => exact Int.le_refl _
  | cons a L ih => rw [cnt_cons]; omega
theorem cnt_ge {L : List ANode} {b : ANode} (hb : b ∈ L) (x : Int) : ((b.ss.count x : Nat) : Int) ≤ cnt L x := by
  induction L with
  | nil => cases hb
  | cons a L ih =>
    rw [cnt_cons]
    rcases List.mem_cons.mp hb with rfl | hb
    · have := cnt_nonneg L x; omega
    · have := ih hb; omega
theorem cnt_pos {L : List ANode} {b : ANode} {x : Int} (hb : b ∈ L) (hx : x ∈ b.ss) : 0 < cnt L x := by
  have h1 := cnt_ge hb x
  have h2 := List.count_pos_iff.mpr hx
  omega
theorem cnt_rm {L : List ANode} {u : ANode} {p : Int → Bool} (x : Int) (hn : (L.map ANode.key).Nodup) (hu : u ∈ L) (hp : p u.key = true) :
    cnt (L.filter fun b => p b.key) x = cnt (L.filter fun b => p b.key && decide (b.key ≠ u.key)) x + ((u.ss.count x : Nat) : Int) := by
  induction L with
  | nil => cases hu
  | cons a L ih =>
    rw [List.map_cons, List.nodup_cons] at hn
    rcases List.mem_cons.mp hu with rfl | hu
    · have hne : ∀ b ∈ L, b.key ≠ u.key := fun b hb e => hn.1 (e ▸ List.mem_map_of_mem hb)
      have e : L.filter (fun b => p b.key && decide (b.key ≠ u.key)) = L.filter (fun b => p b.key) := by
        refine List.filter_congr fun b hb => ?_
        rw [decide_eq_true (hne b hb), Bool.and_true]
      rw [List.filter_cons_of_pos (p := fun b : ANode => p b.key) hp, List.filter_cons_of_neg (by simp), e, cnt_cons]; omega
    · have hne : a.key ≠ u.key := fun e => hn.1 (e ▸ List.mem_map_of_mem hu)
      have := ih hn.2 hu
      by_cases ha : p a.key = true
      · rw [List.filter_cons_of_pos (p := fun b : ANode => p b.key) ha, List.filter_cons_of_pos (by simp [ha, hne]), cnt_cons, cnt_cons]; omega
      · rw [List.filter_cons_of_neg (p := fun b : ANode => p b.key) ha, List.filter_cons_of_neg (by simp [ha])]; exact this
/-- the graph and the steps -/
structure GF (AG : List ANode) (f : Int → Int) : Prop where
  gi : GI AG
  up : ∀ u x, Ed AG u x → f u + 1 ≤ f x
  pr : ∀ x ∈ AG.map ANode.key, 0 < f x → ∃ u, Ed AG u x ∧ f u + 1 = f x
  nn : ∀ x ∈ AG.map ANode.key, 0 ≤ f x
section
variable {AG : List ANode} {f : Int → Int}
theorem succOf_shp {G : List ANode} (u : Int) : succOf u G = (((shp G).find? fun p => decide (p.1 = u)).map (·.2)).getD [] := by
  unfold succOf shp
  rw [List.find?_map]
  cases e : G.find? ((fun p : Int × List Int => decide (p.1 = u)) ∘ fun a => (a.key, a.ss)) with
  | none =>
    have e' : G.find? (fun a => decide (a.key = u)) = none := e
    rw [e']; rfl
  | some a =>
    have e' : G.find? (fun a => decide (a.key = u)) = some a := e
    rw [e']; rfl
theorem succOf_mem {a : ANode} (hn : (AG.map ANode.key).Nodup) (ha : a ∈ AG) : succOf a.key AG = a.ss := by
  unfold succOf
  induction AG with
  | nil => cases ha
  | cons b L ih =>
    rw [List.map_cons, List.nodup_cons] at hn
    rcases List.mem_cons.mp ha with rfl | ha
    · simp
    · have : b.key ≠ a.key := fun e => hn.1 (e ▸ List.mem_map_of_mem ha)
      rw [List.find?_cons_of_neg (by simpa using this)]
      exact ih hn.2 ha
/-- in the midst of a turn -/
structure RS (AG : List ANode) (f : Int → Int) (t : Int) (P : Int → Prop) (N : Int → Int) (st : List ANode × List Int) : Prop where
  sh : shp st.1 = shp AG
  hi : ∀ a ∈ st.1, t < f a.key → a.np = N a.key
  lo : ∀ a ∈ st.1, f a.key = t → P a.key → a.np = -1
  qi : ∀ x, x ∈ st.2 ↔ x ∈ AG.map ANode.key ∧ t < f x ∧ N x = 0
  nd : st.2.Nodup
theorem RS.rel {t : Int} {P : Int → Prop} {N : Int → Int} {st : List ANode × List Int} (r : RS AG f t P N st) {s : Int} (hs : s ∈ AG.map ANode.key) (hf : t < f s) (hN : 1 ≤ N s) :
    RS AG f t P (fun x => N x - if x = s then 1 else 0) (relN st s) := by
  have hsH : ∃ a ∈ st.1, a.key = s := by
    rw [← keys_of_shp r.sh] at hs
    obtain ⟨a, ha, e⟩ := List.mem_map.mp hs
    exact ⟨a, ha, e⟩
  have hany : (st.1.any fun a => decide (a.key = s) && decide (a.np = 1)) = decide (N s = 1) := by
    by_cases h : N s = 1
    · rw [decide_eq_true h]
      obtain ⟨a, ha, e⟩ := hsH
      exact List.any_eq_true.mpr ⟨a, ha, by rw [decide_eq_true e, Bool.true_and]; exact decide_eq_true (by rw [r.hi a ha (e ▸ hf), e]; exact h)⟩
    · rw [decide_eq_false h, List.any_eq_false]
      intro a ha
      simp only [Bool.and_eq_true, decide_eq_true_eq, not_and]
      intro e
      rw [r.hi a ha (e ▸ hf), e]; exact h
  have hq : (relN st s).2 = if N s = 1 then st.2 ++ [s] else st.2 := by
    unfold relN
    rw [hany]
    by_cases h : N s = 1 <;> simp [h]
  have hsq : s ∉ st.2 := fun q => by have := ((r.qi s).mp q).2.2; omega
  refine ⟨(shp_addNp s (-1) st.1).trans r.sh, ?_, ?_, ?_, ?_⟩
  · intro a ha hfa
    obtain ⟨b, hb, rfl⟩ := List.mem_map.mp ha
    by_cases e : b.key = s
    · rw [if_pos e] at hfa ⊢
      have := r.hi b hb hfa
      dsimp only at hfa ⊢
      rw [if_pos e]; omega
    · rw [if_neg e] at hfa ⊢
      have := r.hi b hb hfa
      rw [if_neg e]; omega
  · intro a ha hfa hP
    obtain ⟨b, hb, rfl⟩ := List.mem_map.mp ha
    by_cases e : b.key = s
    · rw [if_pos e] at hfa
      dsimp only at hfa
      rw [e] at hfa; omega
    · rw [if_neg e] at hfa hP ⊢
      exact r.lo b hb hfa hP
  · intro x
    rw [hq]
    by_cases h : N s = 1
    · rw [if_pos h]
      constructor
      · intro hx
        rcases List.mem_append.mp hx with hx | hx
        · obtain ⟨a, b, c⟩ := (r.qi x).mp hx
          have : x ≠ s := fun e => hsq (e ▸ hx)
          exact ⟨a, b, by rw [if_neg this]; omega⟩
        · rw [List.mem_singleton.mp hx]; exact ⟨hs, hf, by rw [if_pos rfl]; omega⟩
      · rintro ⟨a, b, c⟩
        by_cases e : x = s
        · exact List.mem_append_right _ (by simp [e])
        · rw [if_neg e] at c
          exact List.mem_append_left _ ((r.qi x).mpr ⟨a, b, by omega⟩)
    · rw [if_neg h]
      rw [r.qi x]
      constructor
      · rintro ⟨a, b, c⟩
        have : x ≠ s := fun e => by subst e; omega
        exact ⟨a, b, by rw [if_neg this]; omega⟩
      · rintro ⟨a, b, c⟩
        by_cases e : x = s
        · rw [if_pos e] at c; subst e; omega
        · rw [if_neg e] at c; exact ⟨a, b, by omega⟩
  · rw [hq]
    split
    · rw [List.nodup_append]
      refine ⟨r.nd, by simp, fun a ha b hb => ?_⟩
      rw [List.mem_singleton.mp hb]
      exact fun e => hsq (e ▸ ha)
    · exact r.nd
theorem RS.congr {t : Int} {P : Int → Prop} {N N' : Int → Int} {st : List ANode × List Int} (r : RS AG f t P N st) (h : ∀ x, N x = N' x) : RS AG f t P N' st :=
  ⟨r.sh, fun a ha hf => (r.hi a ha hf).trans (h _), r.lo, fun x => by rw [r.qi x, h x], r.nd⟩
theorem RS.rels {t : Int} {P : Int → Prop} : ∀ (ss : List Int) {N : Int → Int} {st : List ANode × List Int}, RS AG f t P N st → (∀ s ∈ ss, s ∈ AG.map ANode.key ∧ t < f s) → (∀ x, x ∈ ss → ((ss.count x : Nat) : Int) ≤ N x) →
    RS AG f t P (fun x => N x - ((ss.count x : Nat) : Int)) (ss.foldl relN st)
  | [], N, st, r, _, _ => r.congr fun x => by simp
  | s :: ss, N, st, r, hk, hc => by
    have h1 := hk s (.head _)
    have h2 := hc s (.head _)
    rw [List.count_cons_self] at h2
    have r1 := r.rel h1.1 h1.2 (by omega)
    have r2 := RS.rels ss r1 (fun x hx => hk x (.tail _ hx)) (fun x hx => by
      have := hc x (.tail _ hx)
      rw [List.count_cons] at this
      by_cases e : x = s
      · subst e; simp at this ⊢; omega
      · have e' : ¬ (s = x) := fun q => e q.symm
        simp [e'] at this
        rw [if_neg e]; omega)
    refine r2.congr fun x => ?_
    rw [List.count_cons]
    by_cases e : x = s
    · subst e; simp; omega
    · have e' : ¬ (s = x) := fun q => e q.symm
      simp [e, e']
/-- the edges from those of step t and above that are not done -/
def cX (AG : List ANode) (f : Int → Int) (t : Int) (D : List Int) (x : Int) : Int := cnt (AG.filter fun b => (fun k => decide (t ≤ f k) && decide (k ∉ D)) b.key) x
theorem RS.done {t : Int} {D : List Int} {st : List ANode × List Int} {u : Int} (gf : GF AG f) (r : RS AG f t (fun k => k ∉ D) (cX AG f t D) st) (hu : u ∈ AG.map ANode.key) (hf : f u = t) (hD : u ∉ D) :
    RS AG f t (fun k => k ∉ D ++ [u]) (cX AG f t (D ++ [u])) (doneN st u) := by
  obtain ⟨a, ha, rfl⟩ := List.mem_map.mp hu
  have r0 : RS AG f t (fun k => k ∉ D ++ [a.key]) (cX AG f t D) (setNp a.key (-2) st.1, st.2) := by
    refine ⟨(shp_setNp a.key (-2) st.1).trans r.sh, ?_, ?_, r.qi, r.nd⟩
    · intro b hb hfb
      obtain ⟨c, hc, rfl⟩ := List.mem_map.mp hb
      by_cases e : c.key = a.key
      · rw [if_pos e] at hfb; dsimp only at hfb; rw [e] at hfb; omega
      · rw [if_neg e] at hfb ⊢; exact r.hi c hc hfb
    · intro b hb hfb hP
      obtain ⟨c, hc, rfl⟩ := List.mem_map.mp hb
      by_cases e : c.key = a.key
      · rw [if_pos e] at hP; exact absurd (List.mem_append_right _ (by simp [e])) hP
      · rw [if_neg e] at hfb hP ⊢
        exact r.lo c hc hfb fun q => hP (List.mem_append_left _ q)
  have hso : succOf a.key st.1 = a.ss := by rw [succOf_shp, r.sh, ← succOf_shp]; exact succOf_mem gf.gi.nd ha
  unfold doneN
  rw [hso]
  have hrm := fun x => cnt_rm (u := a) (p := fun k => decide (t ≤ f k) && decide (k ∉ D)) x gf.gi.nd ha (by simp [hD]; omega)
  have r1 := RS.rels a.ss r0 (fun s hs => ⟨gf.gi.cl a ha s hs, by have := gf.up a.key s ⟨a, ha, rfl, hs⟩; omega⟩) (fun x _ => by
    have h1 := hrm x
    have h2 := cnt_nonneg (AG.filter fun b => (decide (t ≤ f b.key) && decide (b.key ∉ D)) && decide (b.key ≠ a.key)) x
    unfold cX
    dsimp only at h1 ⊢
    omega)
  refine r1.congr fun x => ?_
  have h1 := hrm x
  have e : cX AG f t (D ++ [a.key]) x = cnt (AG.filter fun b => (decide (t ≤ f b.key) && decide (b.key ∉ D)) && decide (b.key ≠ a.key)) x := by
    unfold cX
    congr 1
    refine List.filter_congr fun b _ => ?_
    by_cases h1 : b.key ∈ D <;> by_cases h2 : b.key = a.key <;> simp [h1, h2]
  rw [e]
  unfold cX
  dsimp only at h1 ⊢
  omega
theorem RS.dones {t : Int} (gf : GF AG f) : ∀ (us : List Int) {D : List Int} {st : List ANode × List Int}, RS AG f t (fun k => k ∉ D) (cX AG f t D) st → (∀ u ∈ us, u ∈ AG.map ANode.key ∧ f u = t) → (D ++ us).Nodup → RS AG f t (fun k => k ∉ D ++ us) (cX AG f t (D ++ us)) (us.foldl doneN st)
  | [], D, st, r, _, _ => by rw [List.append_nil]; exact r
  | u :: us, D, st, r, hk, hn => by
    have h1 := hk u (.head _)
    have hnD : u ∉ D := fun q => (List.nodup_append.mp hn).2.2 u q u (.head _) rfl
    have r1 := r.done gf h1.1 h1.2 hnD
    have e : D ++ u :: us = (D ++ [u]) ++ us := by simp
    rw [e] at hn ⊢
    exact RS.dones gf us r1 (fun x hx => hk x (.tail _ hx)) hn
/-- ahead of a turn -/
structure TS (AG : List ANode) (f : Int → Int) (t : Int) (st : List ANode × List Int) : Prop where
  sh : shp st.1 = shp AG
  hi : ∀ a ∈ st.1, t ≤ f a.key → a.np = cX AG f t [] a.key
  pm : st.2.Perm ((AG.map ANode.key).filter fun v => decide (f v = t))
theorem cX_zero {t x : Int} (gf : GF AG f) (h : f x ≤ t) : cX AG f t [] x = 0 := by
  refine cnt_zero fun b hb hx => ?_
  obtain ⟨hb1, hb2⟩ := List.mem_filter.mp hb
  have := gf.up b.key x ⟨b, hb1, rfl, hx⟩
  simp at hb2
  omega
theorem cX_pos {t x : Int} (gf : GF AG f) (hx : x ∈ AG.map ANode.key) (h : t < f x) (h0 : 0 ≤ t) : 0 < cX AG f t [] x := by
  obtain ⟨u, ⟨b, hb, rfl, hxb⟩, e⟩ := gf.pr x hx (by omega)
  exact cnt_pos (List.mem_filter.mpr ⟨hb, by simp; omega⟩) hxb
theorem ts0 (gf : GF AG f) : TS AG f 0 (AG, rdy AG) := by
  have hc : ∀ x, cX AG f 0 [] x = cnt AG x := fun x => by
    unfold cX
    rw [List.filter_eq_self.mpr]
    intro b hb
    have := gf.nn b.key (List.mem_map_of_mem hb)
    simp [this]
  refine ⟨rfl, fun a ha _ => by rw [hc]; exact gf.gi.np a ha, ?_⟩
  show (rdy AG).Perm _
  unfold rdy
  rw [List.filter_map]
  refine List.Perm.of_eq ?_
  congr 1
  refine List.filter_congr fun a ha => ?_
  have hk := List.mem_map_of_mem (f := ANode.key) ha
  rw [gf.gi.np a ha, ← hc]
  simp only [Function.comp]
  by_cases h : f a.key = 0
  · rw [decide_eq_true h, decide_eq_true (cX_zero gf (by omega))]
  · have h1 := gf.nn a.key hk
    have := cX_pos gf (t := 0) hk (by omega) (Int.le_refl _)
    rw [decide_eq_false h, decide_eq_false (by omega)]
theorem out_np {r : List Int} {G : List ANode} : ∀ a ∈ outN r G, (a.key ∈ r ∧ a.np = -1) ∨ (a.key ∉ r ∧ a ∈ G) := by
  unfold outN
  induction r generalizing G with
  | nil => intro a ha; exact .inr ⟨(fun q => nomatch q), ha⟩
  | cons u r ih =>
    intro a ha
    rw [List.foldl_cons] at ha
    rcases ih a ha with ⟨h1, h2⟩ | ⟨h1, h2⟩
    · exact .inl ⟨.tail _ h1, h2⟩
    · obtain ⟨b, hb, rfl⟩ := List.mem_map.mp h2
      by_cases e : b.key = u
      · rw [if_pos e]; exact .inl ⟨by simp [e], rfl⟩
      · rw [if_neg e] at h1 ⊢
        exact .inr ⟨fun q => by rcases List.mem_cons.mp q with q | q; exact e q; exact h1 q, hb⟩
theorem TS.start {t : Int} {st : List ANode × List Int} (gf : GF AG f) (h0 : 0 ≤ t) (s : TS AG f t st) : RS AG f t (fun k => k ∉ ([] : List Int)) (cX AG f t []) (outN st.2 st.1, []) := by
  have hr : ∀ x, x ∈ st.2 ↔ x ∈ AG.map ANode.key ∧ f x = t := fun x => by rw [s.pm.mem_iff, List.mem_filter]; simp
  refine ⟨(shp_out st.2 st.1).trans s.sh, ?_, ?_, ?_, .nil⟩
  · intro a ha hf
    rcases out_np a ha with ⟨h1, _⟩ | ⟨_, h2⟩
    · have := ((hr _).mp h1).2; omega
    · exact s.hi a h2 (by omega)
  · intro a ha hf _
    rcases out_np a ha with ⟨_, h2⟩ | ⟨h1, h2⟩
    · exact h2
    · refine absurd ((hr a.key).mpr ⟨?_, hf⟩) h1
      have : a.key ∈ (outN st.2 st.1).map ANode.key := List.mem_map_of_mem ha
      rw [keys_of_shp ((shp_out st.2 st.1).trans s.sh)] at this
      exact this
  · intro x
    constructor
    · intro q; cases q
    · rintro ⟨a, b, c⟩
      have := cX_pos gf a b h0
      omega
theorem TS.turn {t : Int} {st : List ANode × List Int} (gf : GF AG f) (h0 : 0 ≤ t) (s : TS AG f t st) : TS AG f (t + 1) (turnN st) := by
  have hr : ∀ x, x ∈ st.2 ↔ x ∈ AG.map ANode.key ∧ f x = t := fun x => by rw [s.pm.mem_iff, List.mem_filter]; simp
  have hnd : st.2.Nodup := s.pm.nodup_iff.mpr (gf.gi.nd.filter _)
  have r := RS.dones gf st.2 (s.start gf h0) (fun u hu => (hr u).mp hu) (by simpa using hnd)
  rw [List.nil_append] at r
  have e : ∀ x, cX AG f t st.2 x = cX AG f (t + 1) [] x := by
    intro x
    unfold cX
    congr 1
    refine List.filter_congr fun b hb => ?_
    have hk := List.mem_map_of_mem (f := ANode.key) hb
    have := hr b.key
    by_cases h : f b.key = t
    · have h1 : b.key ∈ st.2 := this.mpr ⟨hk, h⟩
      simp [h1]; omega
    · have h1 : b.key ∉ st.2 := fun q => h (this.mp q).2
      simp [h1]
      omega
  refine ⟨r.sh, fun a ha hf => by rw [r.hi a ha (by omega), e], ?_⟩
  refine (List.perm_ext_iff_of_nodup r.nd (gf.gi.nd.filter _)).mpr fun x => ?_
  show x ∈ (st.2.foldl doneN (outN st.2 st.1, [])).2 ↔ _
  rw [r.qi x, List.mem_filter, e]
  constructor
  · rintro ⟨a, b, c⟩
    refine ⟨a, decide_eq_true ?_⟩
    rcases Int.lt_or_le (t + 1) (f x) with h | h
    · have := cX_pos gf a h (by omega); omega
    · omega
  · rintro ⟨a, b⟩
    have := of_decide_eq_true b
    exact ⟨a, by omega, cX_zero gf (by omega)⟩
theorem ts_all (gf : GF AG f) : ∀ t : Nat, TS AG f t (stN AG t)
  | 0 => ts0 gf
  | t + 1 => by
    have := (ts_all gf t).turn gf (by omega)
    exact_mod_cast this
theorem below_all (gf : GF AG f) : ∀ (k : Nat) (x : Int), x ∈ AG.map ANode.key → f x = k → ∀ t : Nat, t ≤ k → ∃ y ∈ AG.map ANode.key, f y = t
  | 0, x, hx, e, t, ht => ⟨x, hx, by omega⟩
  | k + 1, x, hx, e, t, ht => by
    by_cases h : t = k + 1
    · exact ⟨x, hx, by omega⟩
    · obtain ⟨u, ⟨b, hb, rfl, hxb⟩, e2⟩ := gf.pr x hx (by omega)
      exact below_all gf k b.key (List.mem_map_of_mem hb) (by omega) t (by omega)
theorem kok_of {n : Nat} (gf : GF AG f) (hn : ∃ x ∈ AG.map ANode.key, f x = n) (hm : ∀ x ∈ AG.map ANode.key, f x ≤ n) : KOK AG f n := by
  refine ⟨fun t _ => (ts_all gf t).pm, ?_, ?_, ?_⟩
  · intro t ht e
    obtain ⟨x, hx, ex⟩ := hn
    obtain ⟨y, hy, ey⟩ := below_all gf n x hx ex t ht
    have := (ts_all gf t).pm.mem_iff.mpr (List.mem_filter.mpr ⟨hy, decide_eq_true ey⟩)
    rw [e] at this; cases this
  · have h := (ts_all gf (n + 1)).pm
    rw [List.filter_eq_nil_iff.mpr] at h
    · exact h.eq_nil
    · intro x hx
      have := hm x hx
      simp; omega
  · intro t _ i u hu a ha e
    have s := ts_all gf t
    have hr : ∀ x, x ∈ (stN AG t).2 ↔ x ∈ AG.map ANode.key ∧ f x = t := fun x => by rw [s.pm.mem_iff, List.mem_filter]; simp
    have hnd : (stN AG t).2.Nodup := s.pm.nodup_iff.mpr (gf.gi.nd.filter _)
    have r := RS.dones gf ((stN AG t).2.take i) (s.start gf (by omega)) (fun u hu => (hr u).mp (List.mem_of_mem_take hu)) (by simpa using hnd.sublist (List.take_sublist _ _))
    refine r.lo a ha (e ▸ ((hr u).mp (List.mem_of_getElem? hu)).2) ?_
    rw [List.nil_append, e]
    intro q
    have h2 : ((stN AG t).2.take (i + 1)).Nodup := hnd.sublist (List.take_sublist _ _)
    rw [List.take_add_one, hu] at h2
    exact (List.nodup_append.mp h2).2.2 u q u (by simp) rfl
end
end Mine
-- K2
namespace Mine
open PySem PySem.W PyProof.Rows
def FOK (M : List (Int × List Int)) (f : Int → Int) : Prop := ∀ p ∈ M, (∀ o ∈ p.2, o < p.1 → f o + 1 ≤ f p.1) ∧ 0 ≤ f p.1 ∧ (f p.1 = 0 ∨ ∃ o ∈ p.2, o < p.1 ∧ f p.1 = f o + 1)
theorem fok_of {Ms : List MateR} {S : List (Int × Int × Tok)} {M : List (Int × List Int)} (hM : Ms.map MateR.abs = M) (sok : SOK Ms S) (hk : (S.map (·.1)).Perm (Ms.map MateR.key)) (hn : (S.map (·.1)).Nodup) : FOK M (stp S) := by
  intro p hp
  rw [← hM] at hp
  obtain ⟨r, hr, rfl⟩ := List.mem_map.mp hp
  obtain ⟨q, hq, e⟩ := List.mem_map.mp (hk.mem_iff.mpr (List.mem_map_of_mem hr))
  obtain ⟨h1, h2, h3⟩ := sok q hq r hr e.symm
  have eq := stp_of hn hq
  show (∀ o ∈ r.xs, o < r.key → stp S o + 1 ≤ stp S r.key) ∧ 0 ≤ stp S r.key ∧ (stp S r.key = 0 ∨ ∃ o ∈ r.xs, o < r.key ∧ stp S r.key = stp S o + 1)
  rw [← e, eq]
  refine ⟨fun o ho hlt => ?_, h2, ?_⟩
  · obtain ⟨z, hz, ez, hle⟩ := h1 o ho hlt
    rw [← ez, stp_of hn hz]; exact hle
  · rcases h3 with h3 | ⟨o, ho, hlt, z, hz, ez, hle⟩
    · exact .inl h3
    · refine .inr ⟨o, ho, hlt, ?_⟩
      rw [← ez, stp_of hn hz]; exact hle
section
variable {st : DSt} {f : Int → Int}
theorem Inv.edge (i : Inv st) (h : FOK st.M f) {u x : Int} (e : Ed st.G u x) : f u + 1 ≤ f x := by
  obtain ⟨hlt, p, hp, rfl, hu⟩ := i.ed u x e
  exact (h p hp).1 u hu hlt
theorem Inv.reach (i : Inv st) (h : FOK st.M f) {u x : Int} (e : Re st.G u x) : f u + 1 ≤ f x := by
  induction e with
  | one e => exact i.edge h e
  | tail _ e ih => have := i.edge h e; omega
theorem Inv.gf (i : Inv st) (h : FOK st.M f) : GF st.G f := by
  refine ⟨i.gi, fun u x e => i.edge h e, fun x hx hf => ?_, fun x hx => ?_⟩
  · obtain ⟨p, hp, rfl⟩ := List.mem_map.mp ((i.kk x).mp hx)
    rcases (h p hp).2.2 with h0 | ⟨o, ho, hlt, e⟩
    · omega
    · have hr := i.mr p hp o ho hlt
      cases hr with
      | one e2 => exact ⟨o, e2, e.symm⟩
      | tail a b =>
        have h1 := i.reach h a
        have h2 := i.edge h b
        omega
  · obtain ⟨p, hp, rfl⟩ := List.mem_map.mp ((i.kk x).mp hx)
    exact (h p hp).2.1
theorem flt_len {l : List Int} {o v : Int} (ho : o ∈ l) (h : o < v) : (l.filter fun k => decide (k < o)).length + 1 ≤ (l.filter fun k => decide (k < v)).length := by
  have mono : ∀ l : List Int, (l.filter fun k => decide (k < o)).length ≤ (l.filter fun k => decide (k < v)).length := by
    intro l
    induction l with
    | nil => simp
    | cons a l ih =>
      by_cases h1 : a < o
      · have h2 : a < v := by omega
        simp [h1, h2]; omega
      · by_cases h2 : a < v
        · simp [h1, h2]; omega
        · simp [h1, h2]; omega
  induction l with
  | nil => cases ho
  | cons a l ih =>
    rcases List.mem_cons.mp ho with rfl | ho
    · have := mono l
      have h1 : ¬ o < o := by omega
      simp [h]; omega
    · have := ih ho
      by_cases h1 : a < o
      · have h2 : a < v := by omega
        simp [h1, h2]; omega
      · by_cases h2 : a < v
        · simp [h1, h2]; omega
        · simp [h1, h2]; omega
theorem Inv.bound (i : Inv st) (h : FOK st.M f) : ∀ (m : Nat) (x : Int), x ∈ st.G.map ANode.key → ((st.G.map ANode.key).filter fun k => decide (k < x)).length ≤ m → f x ≤ m := by
  intro m
  induction m with
  | zero =>
    intro x hx hl
    rcases Int.lt_or_le 0 (f x) with h0 | h0
    · obtain ⟨u, e, _⟩ := (i.gf h).pr x hx h0
      obtain ⟨a, ha, rfl, _⟩ := id e
      have := flt_len (List.mem_map_of_mem (f := ANode.key) ha) (i.ed _ _ e).1
      omega
    · exact_mod_cast h0
  | succ m ih =>
    intro x hx hl
    rcases Int.lt_or_le 0 (f x) with h0 | h0
    · obtain ⟨u, e, e2⟩ := (i.gf h).pr x hx h0
      obtain ⟨a, ha, rfl, _⟩ := id e
      have := flt_len (List.mem_map_of_mem (f := ANode.key) ha) (i.ed _ _ e).1
      have := ih a.key (List.mem_map_of_mem ha) (by omega)
      omega
    · omega
end
theorem list_max {L : List Int} (h : L ≠ []) : ∃ m ∈ L, ∀ x ∈ L, x ≤ m := by
  induction L with
  | nil => exact absurd rfl h
  | cons a L ih =>
    by_cases hL : L = []
    · subst hL; exact ⟨a, by simp, by simp⟩
    · obtain ⟨m, hm, hle⟩ := ih hL
      rcases Int.lt_or_le a m with h1 | h1
      · exact ⟨m, .tail _ hm, fun x hx => by rcases List.mem_cons.mp hx with rfl | hx; omega; exact hle x hx⟩
      · exact ⟨a, .head _, fun x hx => by rcases List.mem_cons.mp hx with rfl | hx; omega; have := hle x hx; omega⟩
theorem inv0 : Inv st0 := by
  refine ⟨⟨.nil, (fun a ha => nomatch ha), (fun a ha => nomatch ha)⟩, fun x => Iff.rfl, (fun p hp => nomatch hp), ?_, .nil, (fun p hp => nomatch hp), (fun d hd => nomatch hd)⟩
  rintro u x ⟨a, ha, _⟩
  cases ha
theorem inv_take {nums : List Int} (hz : nums.length ≤ 40) : ∀ i, i ≤ nums.length → Inv ((nums.take i).foldl stepD st0)
  | 0, _ => inv0
  | i + 1, h => by
    have hlt : i < nums.length := h
    rw [List.take_add_one, List.getElem?_eq_getElem hlt, List.foldl_append]
    exact (inv_take hz i (Nat.le_of_lt hlt)).stepD (dok_take hz i (Nat.le_of_lt hlt))
theorem setM_ne {v : Int} {l : List Int} {M : List (Int × List Int)} : setM v l M ≠ [] := fun e => by
  have := setM_new_mem (v := v) (l := l) (M := M)
  rw [e] at this; cases this
theorem stepD_ne {st : DSt} {k : Int} (h : st.M ≠ []) : (stepD st k).M ≠ [] := by
  unfold stepD
  split
  · split
    · exact h
    · exact setM_ne
  · split
    · exact h
    · exact h
theorem step24_ne {st : DSt} {n : Nat} (d : DOK st n) : (stepD st 24).M ≠ [] := by
  unfold stepD
  rw [if_pos (by decide)]
  split
  · rename_i h
    obtain ⟨p, hp, _⟩ := d.inM _ h
    intro e
    rw [e] at hp; cases hp
  · exact setM_ne
theorem folds_ne : ∀ (ks : List Int) {st : DSt}, st.M ≠ [] → (ks.foldl stepD st).M ≠ []
  | [], _, h => h
  | k :: ks, _, h => folds_ne ks (stepD_ne (k := k) h)
abbrev numsOf (ns : List Int) : List Int := ns.take 12 ++ [24, 8, 36, 3, 20, 28, 7, 32, 11]
theorem nums_len (ns : List Int) : (numsOf ns).length ≤ 21 := by
  rw [List.length_append, List.length_take]; simp; omega
theorem nums_dok (ns : List Int) : DOK ((numsOf ns).foldl stepD st0) (numsOf ns).length := by
  have := dok_take (nums := numsOf ns) (by have := nums_len ns; omega) _ (Nat.le_refl _)
  rwa [List.take_length] at this
theorem nums_inv (ns : List Int) : Inv ((numsOf ns).foldl stepD st0) := by
  have := inv_take (nums := numsOf ns) (by have := nums_len ns; omega) _ (Nat.le_refl _)
  rwa [List.take_length] at this
theorem nums_ne (ns : List Int) : ((numsOf ns).foldl stepD st0).M ≠ [] := by
  show ((ns.take 12 ++ [24, 8, 36, 3, 20, 28, 7, 32, 11]).foldl stepD st0).M ≠ []
  rw [List.foldl_append]
  have d := dok_take (nums := ns.take 12) (by rw [List.length_take]; omega) _ (Nat.le_refl _)
  rw [List.take_length] at d
  rw [List.foldl_cons]
  exact folds_ne _ (step24_ne d)
theorem rise_len : ∀ (l : List Int) (lo hi : Int), l.Pairwise (· < ·) → (∀ x ∈ l, lo ≤ x ∧ x ≤ hi) → lo ≤ hi + 1 → (l.length : Int) ≤ hi - lo + 1
  | [], lo, hi, _, _, h => by simp; omega
  | a :: l, lo, hi, hp, hb, h => by
    obtain ⟨h1, h2⟩ := List.pairwise_cons.mp hp
    have ha := hb a (.head _)
    have := rise_len l (a + 1) hi h2 (fun x hx => ⟨h1 x hx, (hb x (.tail _ hx)).2⟩) (by omega)
    rw [List.length_cons]; omega
/-- all that the walk of the law asks -/
structure PL (st : DSt) (Ms : List MateR) (S : List (Int × Int × Tok)) (n : Nat) : Prop where
  hn : n ≤ 100
  ex : ∃ q ∈ S, q.2.1 = n
  le : ∀ q ∈ S, q.2.1 ≤ n
  kok : KOK st.G (stp S) n
  ds : ∀ d ∈ st.Ds, (d.2.2.map (stp S)).Pairwise (· < ·)
  len : ∀ d ∈ st.Ds, d.2.2.length ≤ 500
theorem plain {ns : List Int} {Ms : List MateR} {S : List (Int × Int × Tok)} (hM : Ms.map MateR.abs = ((numsOf ns).foldl stepD st0).M) (sok : SOK Ms S) (hk : (S.map (·.1)).Perm (Ms.map MateR.key)) (hn : (S.map (·.1)).Nodup) : ∃ n, PL ((numsOf ns).foldl stepD st0) Ms S n := by
  have i := nums_inv ns
  have d := nums_dok ns
  have hne := nums_ne ns
  have hl := nums_len ns
  generalize (numsOf ns).foldl stepD st0 = st at *
  have fok := fok_of hM sok hk hn
  have gf := i.gf fok
  have keys : ∀ x, x ∈ st.G.map ANode.key ↔ x ∈ S.map (·.1) := fun x => by
    rw [i.kk, hk.mem_iff, ← hM, List.map_map]; exact Iff.rfl
  have hSne : S.map (fun q => q.2.1) ≠ [] := by
    intro e
    have e1 : S = [] := by simpa using e
    subst e1
    have e2 : Ms = [] := by simpa using hk.symm.eq_nil
    subst e2
    exact hne hM.symm
  obtain ⟨m, hm, hle⟩ := list_max hSne
  obtain ⟨q, hq, rfl⟩ := List.mem_map.mp hm
  have hqk : q.1 ∈ st.G.map ANode.key := (keys _).mpr (List.mem_map_of_mem hq)
  have hq0 := gf.nn q.1 hqk
  rw [stp_of hn hq] at hq0
  have hb := i.bound fok _ q.1 hqk (Nat.le_refl _)
  rw [stp_of hn hq] at hb
  have hb2 := List.length_filter_le (fun k => decide (k < q.1)) (st.G.map ANode.key)
  have hGl : (st.G.map ANode.key).length ≤ 21 := by
    have h1 : (st.G.map ANode.key).Perm (st.M.map (·.1)) := (List.perm_ext_iff_of_nodup i.gi.nd d.nd).mpr i.kk
    have h2 := h1.length_eq
    have h3 := d.lk
    rw [List.length_map (as := st.M)] at h2
    omega
  obtain ⟨n, hnn⟩ : ∃ n : Nat, q.2.1 = n := ⟨q.2.1.toNat, by omega⟩
  refine ⟨n, by omega, ⟨q, hq, hnn⟩, fun z hz => by rw [← hnn]; exact hle _ (List.mem_map_of_mem (f := fun q => q.2.1) hz), ?_, ?_, ?_⟩
  · refine kok_of gf ⟨q.1, hqk, by rw [stp_of hn hq]; exact hnn⟩ fun x hx => ?_
    obtain ⟨z, hz, rfl⟩ := List.mem_map.mp ((keys x).mp hx)
    rw [stp_of hn hz, ← hnn]
    exact hle _ (List.mem_map_of_mem (f := fun q => q.2.1) hz)
  · intro dd hd
    rw [List.pairwise_map]
    exact (i.ds dd hd).2.2.2.imp fun h => by have := i.reach fok h; omega
  · intro dd hd
    have hp : (dd.2.2.map (stp S)).Pairwise (· < ·) := by
      rw [List.pairwise_map]
      exact (i.ds dd hd).2.2.2.imp fun h => by have := i.reach fok h; omega
    have h1 := rise_len _ 0 n hp (fun x hx => by
      obtain ⟨y, hy, rfl⟩ := List.mem_map.mp hx
      have hyk : y ∈ st.G.map ANode.key := (i.kk y).mpr ((i.ds dd hd).2.2.1 y hy)
      refine ⟨gf.nn y hyk, ?_⟩
      obtain ⟨z, hz, rfl⟩ := List.mem_map.mp ((keys y).mp hyk)
      rw [stp_of hn hz, ← hnn]
      exact hle _ (List.mem_map_of_mem (f := fun q => q.2.1) hz)) (by omega)
    rw [List.length_map] at h1
    omega
end Mine
-- P21
namespace Mine
open PySem PySem.W PyProof.Rows
example : True := by
  k_with_none
  k_with "MYcall" => ((with_reducible show wpAny _ _ (call (Value.builtin "len") _ _) _ _ _); (refine' my_len ?zzk1 ?zzk2 ?zzk3 ?_; (case zzk1 => k_asm); (case zzk2 => k_mem); (case zzk3 => omega); intro _ _))
  k_with "MY subscriptTail" => ((with_reducible show wpAny _ _ (subscriptTail _ _ (Value.ref _) _) _ _ _); ((with_reducible show wpAny _ _ (subscriptTail _ _ (Value.ref _) (Value.int _ _)) _ _ _); with_unfolding_all refine' my_item ?zzk1 ?zzk2 ?zzk3 ?zzk4 ?zzk5 ?zzk6 ?_ ?zzk7; (case zzk1 => k_asm); (case zzk2 => k_mem); (case zzk3 => assumption); (case zzk4 => omega); (case zzk5 => omega); (case zzk6 => omega); (case zzk7 => with_unfolding_all rfl);  intro _))
  k_with "MY eval Name" => ((with_reducible show wpAny _ _ (eval (Expr.Name _ _) (envOf _ _ _ _ _)) _ _ _); (k_here; k_dflt (refine' ld ?zzk1 ?zzk2 ?_; (case zzk1 => k_asm); (case zzk2 => assumption); k_whole)))
  k_with "MYcall" => ((with_reducible show wpAny _ _ (call (Value.builtin "list.insert") _ _) _ _ _); (k_here; k_dflt (refine' my_insert ?zzF ?zzN ?zzU ?zzhk ?zzz ?_; (case zzF => k_asm); (case zzN => k_asm); (case zzU => k_upd); (case zzhk => omega); (case zzz => omega); k_whole); intro _ _ _; (try k_sweep)))
  k_with "MYcall" => ((with_reducible show wpAny _ _ (call (Value.builtin "dict.get") _ _) _ _ _); (k_here; k_dflt (first | refine kdg_get1 (knd := PySem.intKind _ _) (by k_asm) (by k_mem) (by assumption) (by assumption) (intKind_is _ _ _ _) none (by assumption) ?_ | refine kdg_get1 (knd := PySem.intKind _ _) (by k_asm) (by k_mem) (by assumption) (by assumption) (intKind_is _ _ _ _) (some _) (by assumption) ?_); (try dsimp only [Option.getD])))
  k_with "MY getMethod ref" => ((with_reducible show wpAny _ _ (getMethod (Value.ref _) _ _) _ _ _); (k_here; (with_reducible show wpAny _ _ (getMethod (Value.ref _) (Str.ofString "get") _) _ _ _); k_dflt (refine kdg_method (knd := PySem.intKind _ _) (by k_asm) (by k_mem) (by assumption) ?_)))
  k_with "MY setItem ref int" => ((with_reducible show wpAny _ _ (setItem (Value.ref _) (Value.int _ _) _) _ _ _); (k_here; k_dflt (refine' kda_set (knd := PySem.intKind _ _) ?zzF ?zzN ?zzU ?zzd (intKind_is _ _ _ _) ?zzz ?_; (case zzF => k_asm); (case zzN => k_asm); (case zzU => k_updF); (case zzd => assumption); (case zzz => assumption)); intro _ _ _ _ _; (try dsimp only at N'); (try k_sweep)))
  k_with "MYcall" => ((with_reducible show wpAny _ _ (call (Value.builtin "len") _ _) _ _ _); (refine' my_lenT ?zzk1 ?zzk2 ?zzk3 ?_; (case zzk1 => k_asm); (case zzk2 => k_mem); (case zzk3 => omega); intro _ _))
  k_with "MY eval Call Attribute" => ((with_reducible show wpAny _ _ (eval (Expr.Call (Expr.Attribute _ _ _) _ [] _) _) _ _ _); (k_here; (with_reducible show wpAny _ _ (eval (Expr.Call (Expr.Attribute _ _ _) _ [] _) _) _ _ _); ks_star; refine star_method ?_))
  k_with "MY callWith ref" => ((with_reducible show wpAny _ _ (callWith _ (Value.ref _) _ _ []) _ _ _); (k_here; (with_reducible show wpAny _ _ (callWith _ (Value.ref _) _ (backTo _ (starEach [Expr.Starred _ _] _)) []) _ _ _); k_dflt (refine' callWith_MS ?zzX ?zzN ?zzq ?zzk2 ?_; (case zzX => k_asm); (case zzN => k_asm); (case zzq => k_mem); (case zzk2 => k_is); k_whole)))
  k_with "MY callWith ref" => ((with_reducible show wpAny _ _ (callWith _ (Value.ref _) _ _ []) _ _ _); (k_here; (with_reducible show wpAny _ _ (callWith _ (Value.ref _) _ (backTo _ (starEach (_ :: _ :: _) _)) []) _ _ _); ks_star; k_dflt (refine' callWith_MS2 ?zzX ?zzN ?zzq ?zzk2 ?_; (case zzX => k_asm); (case zzN => k_asm); (case zzq => k_mem); (case zzk2 => k_is); k_whole)))
  k_with "MY StarOf ref" => ((with_reducible show StarOf _ _ _ (Value.ref _) _ _); (k_here; k_dflt (first | (refine' my_star ?zzF ?zzN ?zzm ?zzi ?zzz ?_; (case zzF => k_asm); (case zzN => k_asm); (case zzm => k_mem); (case zzi => assumption); (case zzz => omega); k_whole) | (refine' my_starT ?zzF ?zzN ?zzm ?zzi ?zzz ?_; (case zzF => k_asm); (case zzN => k_asm); (case zzm => k_mem); (case zzi => assumption); (case zzz => omega); k_whole)); intro _ _ _; (try k_sweep); (try dsimp only [List.nil_append, List.cons_append])))
  k_with "MY compareOp In int ref" => ((with_reducible show wpAny _ _ (compareOp CmpOp.In (Value.int _ _) (Value.ref _)) _ _ _); (k_here; k_dflt (first | (refine' kse_in (knd := PySem.intKind _ _) ?zzN ?zzU ?zzd ?zzz (intKind_is _ _ _ _) rfl ?_; (case zzN => k_asm); (case zzU => k_updF); (case zzd => assumption); (case zzz => (show _ < 4096; omega))) | (refine' kda_in (knd := PySem.intKind _ _) ?zzN ?zzm ?zzd ?zzlo (intKind_is _ _ _ _) false ?zzb ?_; (case zzN => k_asm); (case zzm => k_mem); (case zzd => assumption); (case zzlo => assumption); (case zzb => assumption))); (try dsimp only)))
  k_with "MY getMethod ref" => ((with_reducible show wpAny _ _ (getMethod (Value.ref _) _ _) _ _ _); (k_here; (with_reducible show wpAny _ _ (getMethod (Value.ref _) (Str.ofString "add") _) _ _ _); k_dflt (refine' kse_method (knd := PySem.intKind _ _) ?zzN ?zzU ?zzd ?zzz ?_; (case zzN => k_asm); (case zzU => k_updF); (case zzd => assumption); (case zzz => (show _ < 4096; omega)))))
  k_with "MYcall" => ((with_reducible show wpAny _ _ (call (Value.builtin "set.add") _ _) _ _ _); (k_here; k_dflt (refine' kse_add (knd := PySem.intKind _ _) ?zzF ?zzN ?zzU ?zzd ?zzz (intKind_is _ _ _ _) rfl ?_; (case zzF => k_asm); (case zzN => k_asm); (case zzU => k_updF); (case zzd => assumption); (case zzz => (show _ < 4096; omega))); intro _ _ _ _ _; (try dsimp only at N'); (try k_sweep)))
  k_with "MY subscriptTail" => ((with_reducible show wpAny _ _ (subscriptTail _ _ (Value.ref _) _) _ _ _); ((with_reducible show wpAny _ _ (subscriptTail _ _ (Value.ref _) (Value.int _ _)) _ _ _); with_unfolding_all refine' kda_item (knd := PySem.intKind _ _) ?zzk1 ?zzk2 ?zzk3 (intKind_is _ _ _ _) ?zzk4 ?_ ?zzk7 ?zzk8; (case zzk1 => k_asm); (case zzk2 => k_mem); (case zzk3 => assumption); (case zzk4 => assumption); (case zzk7 => with_unfolding_all rfl); (case zzk8 => (intro _; with_unfolding_all rfl))))
  k_with "MYcall" => ((with_reducible show wpAny _ _ (call (Value.builtin "iter") _ _) _ _ _); (k_here; k_dflt (refine' my_iter ?zzF ?zzN ?zzm ?_; (case zzF => k_asm); (case zzN => k_asm); (case zzm => k_mem)); intro _ _ _ _ zl; (try k_lt zl); (revert zl; intro _); (try k_sweep)))
  k_with "MY getAttr ref" => ((with_reducible show wpAny _ _ (getAttr (Value.ref _) _ _) _ _ _); (k_here; (with_reducible show wpAny _ _ (getAttr (Value.ref _) (Str.ofString "__next__") _) _ _ _); k_dflt (refine' mw_getattr ?zzF ?zzN ?zzm ?_; (case zzF => k_asm); (case zzN => k_asm); (case zzm => k_mem)); intro _ _ _ _ _ zl; (try k_lt zl); (revert zl; intro _); (try k_sweep)))
  k_with "MY truthy ref" => ((with_reducible show wpAny _ _ (truthy (Value.ref _)) _ _ _); (k_here; (with_reducible show wpAny _ _ (truthy (Value.ref _)) _ _ _); k_dflt (refine' my_truthy ?zzN ?zzm ?zzz _ ?zzb ?_; (case zzN => k_asm); (case zzm => k_mem); (case zzz => assumption); (case zzb => assumption)); intro _; (try dsimp only)))
  k_with "MY subscriptTail" => ((with_reducible show wpAny _ _ (subscriptTail _ _ (Value.ref _) _) _ _ _); ((with_reducible show wpAny _ _ (subscriptTail _ _ (Value.ref _) (Value.int (-1) _)) _ _ _); k_dflt (refine' my_last ?zzN ?zzm ?zzz ?_ ?zze; (case zzN => k_asm); (case zzm => k_mem); (case zzz => assumption); (case zze => with_unfolding_all rfl))))
  k_with "MY callWith ref" => ((with_reducible show wpAny _ _ (callWith _ (Value.ref _) _ _ []) _ _ _); (k_here; (with_reducible show wpAny _ _ (callWith _ (Value.ref _) _ (backTo _ (starEach [] _)) []) _ _ _); k_dflt (refine' callWith_W ?zzN ?zzq ?_; (case zzN => k_asm); (case zzq => k_mem)); (try dsimp only [List.nil_append])))
  k_with "MYcall" => ((with_reducible show wpAny _ _ (call (Value.builtin "list.pop") _ _) _ _ _); (k_here; k_dflt (refine' my_pop ?zzF ?zzN ?zzU ?zzz ?_; (case zzF => k_asm); (case zzN => k_asm); (case zzU => k_upd); (case zzz => omega)); intro _ _ _; (try k_sweep)))
  k_with "MY delItem ref int" => ((with_reducible show wpAny _ _ (delItem (Value.ref _) (Value.int _ _)) _ _ _); (k_here; k_dflt (refine' kob_del (knd := PySem.intKind _ _) ?zzF ?zzN ?zzU ?zzd (intKind_is _ _ _ _) ?zzl ?zzz ?_; (case zzF => k_asm); (case zzN => k_asm); (case zzU => k_updF); (case zzd => assumption); (case zzl => assumption); (case zzz => assumption)); intro _ _ _ _ _; (try dsimp only at N')))
  k_with "MY getMethod ref" => ((with_reducible show wpAny _ _ (getMethod (Value.ref _) _ _) _ _ _); (k_here; (with_reducible show wpAny _ _ (getMethod (Value.ref _) (Str.ofString "values") _) _ _ _); k_dflt (refine kdl_method (knd := PySem.intKind _ _) PySem.F.slot_dict_values PySem.F.type_dict_values (by k_asm) (by k_mem) (by assumption) ?_)))
  k_with "MYcall" => ((with_reducible show wpAny _ _ (call (Value.builtin "dict.values") _ _) _ _ _); (k_here; k_dflt (refine kdl_view_values (knd := PySem.intKind _ _) (by k_asm) (by k_asm) (by k_mem) (by assumption) (by assumption) ?_); intro _ _ _ _ zl; (try k_lt zl); (revert zl; intro _); (try k_sweep)))
  k_with "MYcall" => ((with_reducible show wpAny _ _ (call (Value.type "bool") _ _) _ _ _); (k_here; k_dflt (refine' my_bool ?zzN ?zzm ?zzz _ ?zzb ?_; (case zzN => k_asm); (case zzm => k_mem); (case zzz => assumption); (case zzb => assumption)); intro _; (try dsimp only)))
  k_with "MYcall" => ((with_reducible show wpAny _ _ (call (Value.type "tuple") _ _) _ _ _); (k_here; k_dflt (refine' my_tupleOf ?zzF ?zzN ?zzm ?zzz ?_; (case zzF => k_asm); (case zzN => k_asm); (case zzm => k_mem); (case zzz => omega)); intro _ _ _ _ zl; (revert zl; intro _); (try k_sweep)))
  k_with "MYcall" => ((with_reducible show wpAny _ _ (call (Value.builtin "list.clear") _ _) _ _ _); (k_here; k_dflt (refine' my_clear ?zzF ?zzN ?zzU ?zzz ?_; (case zzF => k_asm); (case zzN => k_asm); (case zzU => k_upd); (case zzz => omega)); intro _ _ _; (try k_sweep)))
  k_with "MY compareOp NotIn int ref" => ((with_reducible show wpAny _ _ (compareOp CmpOp.NotIn (Value.int _ _) (Value.ref _)) _ _ _); (k_here; k_dflt (refine' my_notin ?zzN ?zzm ?zzi ?_; (case zzN => k_asm); (case zzm => k_mem); (case zzi => assumption)); (try dsimp only)))
  k_with "MYcall" => ((with_reducible show wpAny _ _ (call (Value.builtin "sorted") _ _) _ _ _); (k_here; k_dflt (refine' my_sorted ?zzF ?zzN ?zzm ?zzi ?zzz ?_; (case zzF => k_asm); (case zzN => k_asm); (case zzm => k_mem); (case zzi => assumption); (case zzz => omega)); intro _ _ _ _ _ _ _ zl _ _ _; (try k_lt zl); (revert zl; intro _); (try k_sweep)))
  k_with "MY binaryOp Add ref ref" => ((with_reducible show wpAny _ _ (binaryOp Operator.Add (Value.ref _) (Value.ref _)) _ _ _); (k_here; k_dflt (refine' my_addL ?zzF ?zzN ?zzm ?zzm2 ?zzz ?_; (case zzF => k_asm); (case zzN => k_asm); (case zzm => k_mem); (case zzm2 => k_mem); (case zzz => assumption)); intro _ _ _ _ zl; (try k_lt zl); (revert zl; intro _); (try k_sweep)))
  k_with "MYcall" => ((with_reducible show wpAny _ _ (call (Value.type "list") _ _) _ _ _); (k_here; k_dflt (refine' my_copy ?zzF ?zzN ?zzm ?zzz ?_; (case zzF => k_asm); (case zzN => k_asm); (case zzm => k_mem); (case zzz => omega)); intro _ _ _ _ _ zl; (try k_lt zl); (revert zl; intro _); (try k_sweep)))
  k_with "MYcall" => ((with_reducible show wpAny _ _ (call (Value.builtin "list.pop") _ _) _ _ _); (k_here; (with_reducible show wpAny _ _ (call (Value.builtin _) [Value.ref _, Value.int _ _]) _ _ _); k_dflt (refine' my_popAt ?zzF ?zzN ?zzU ?zzi ?zzz ?_; (case zzF => k_asm); (case zzN => k_asm); (case zzU => k_upd); (case zzi => assumption); (case zzz => omega)); intro _ _ _; (try k_sweep)))
  k_with "MY compareOp NotEq ref ref" => ((with_reducible show wpAny _ _ (compareOp CmpOp.NotEq (Value.ref _) (Value.ref _)) _ _ _); (k_here; k_dflt (refine' my_ne ?zzN ?zzm ?zzm2 ?zzi ?zzj ?zzu ?_; (case zzN => k_asm); (case zzm => k_mem); (case zzm2 => k_mem); (case zzi => assumption); (case zzj => assumption); (case zzu => assumption)); (try dsimp only)))
  k_with "MINE" => ((with_reducible show wpAny _ _ (call _ _ _) _ _ _); k_extra "MYcall")
  k_with "MINE" => ((with_reducible show wpAny _ _ (subscriptTail _ _ (Value.ref _) _) _ _ _); k_extra "MY subscriptTail")
  k_with "MINE" => ((with_reducible show wpAny _ _ (eval (Expr.Name _ _) (envOf _ _ _ _ _)) _ _ _); k_extra "MY eval Name")
  k_with "MINE" => ((with_reducible show wpAny _ _ (getMethod (Value.ref _) _ _) _ _ _); k_extra "MY getMethod ref")
  k_with "MINE" => ((with_reducible show wpAny _ _ (setItem (Value.ref _) (Value.int _ _) _) _ _ _); k_extra "MY setItem ref int")
  k_with "MINE" => ((with_reducible show wpAny _ _ (eval (Expr.Call (Expr.Attribute _ _ _) _ [] _) _) _ _ _); k_extra "MY eval Call Attribute")
  k_with "MINE" => ((with_reducible show wpAny _ _ (callWith _ (Value.ref _) _ _ []) _ _ _); k_extra "MY callWith ref")
  k_with "MINE" => ((with_reducible show StarOf _ _ _ (Value.ref _) _ _); k_extra "MY StarOf ref")
  k_with "MINE" => ((with_reducible show wpAny _ _ (compareOp CmpOp.In (Value.int _ _) (Value.ref _)) _ _ _); k_extra "MY compareOp In int ref")
  k_with "MINE" => ((with_reducible show wpAny _ _ (getAttr (Value.ref _) _ _) _ _ _); k_extra "MY getAttr ref")
  k_with "MINE" => ((with_reducible show wpAny _ _ (truthy (Value.ref _)) _ _ _); k_extra "MY truthy ref")
  k_with "MINE" => ((with_reducible show wpAny _ _ (delItem (Value.ref _) (Value.int _ _)) _ _ _); k_extra "MY delItem ref int")
  k_with "MINE" => ((with_reducible show wpAny _ _ (compareOp CmpOp.NotIn (Value.int _ _) (Value.ref _)) _ _ _); k_extra "MY compareOp NotIn int ref")
  k_with "MINE" => ((with_reducible show wpAny _ _ (binaryOp Operator.Add (Value.ref _) (Value.ref _)) _ _ _); k_extra "MY binaryOp Add ref ref")
  k_with "MINE" => ((with_reducible show wpAny _ _ (compareOp CmpOp.NotEq (Value.ref _) (Value.ref _)) _ _ _); k_extra "MY compareOp NotEq ref ref")
  k_with "MINE steps" => (w_strict (repeat' (first | (k_unfold; (try dsimp only)) | ((fail_if_success (with_reducible show wpAny _ _ _ _ _ _)); refine CutG.out (by assumption) _ _ _ ?_; (try clear khb); (try clear kQb); (try clear ko); (try clear kd); (try clear kg); (try dsimp only)) | ((fail_if_success (with_reducible show wpAny _ _ _ _ _ _)); refine CutH.out (by assumption) _ _ ?_; (try clear kha); (try clear kQa)) | ((with_reducible show wpAny _ _ (execs (_ :: _) _) _ _ _); (first | (refine execs_cut1 (by assumption) ?_; intro kg kd ko _ kQb khb) | (refine execs_cut2 (by assumption) ?_; intro _) | (refine cutQ ?_; intro kQa kha))) | ((fail_if_success (with_reducible show wpAny _ _ (exec (Stmt.While _ _ _ _) _) _ _ _)); (fail_if_success (with_reducible show wpAny _ _ (eval (Expr.ListComp _ _ _ _) _) _ _ _)); (fail_if_success (with_reducible show wpAny _ _ (exec (Stmt.Try _ _ _ _ _) _) _ _ _)); (fail_if_success (with_reducible show wpAny _ _ (exec (Stmt.For _ _ _ _ _) _) _ _ _)); (first | k_extra "MINE" | walk1 | (dsimp only; walk1)))  | fail "no step")))
  k_with "MINE plain" => (w_strict (repeat' (first | (k_unfold; (try dsimp only)) | ((fail_if_success (with_reducible show wpAny _ _ _ _ _ _)); refine CutH.out (by assumption) _ _ ?_; (try clear kha); (try clear kQa)) | ((fail_if_success (with_reducible show wpAny _ _ (exec (Stmt.While _ _ _ _) _) _ _ _)); (fail_if_success (with_reducible show wpAny _ _ (eval (Expr.ListComp _ _ _ _) _) _ _ _)); (fail_if_success (with_reducible show wpAny _ _ (exec (Stmt.Try _ _ _ _ _) _) _ _ _)); (fail_if_success (with_reducible show wpAny _ _ (exec (Stmt.For _ _ _ _ _) _) _ _ _)); (first | k_extra "MINE" | walk1 | (dsimp only; walk1)))  | fail "no step")))
  k_with "MINE law" => (w_strict (repeat' (first | (k_unfold; (try dsimp only)) | ((fail_if_success (with_reducible show wpAny _ _ (call (Value.ref _) _ _) _ _ _)); (first | k_extra "MINE" | walk1 | (dsimp only; walk1)))  | fail "no step")))
  trivial
section
variable {st : DSt} {Ms : List MateR} {G : List NodeR} {Dr : List DeedR} {S : List (Int × Int × Tok)}
theorem lw_closed (i : Inv st) (eM : Ms.map MateR.abs = st.M) : ∀ r ∈ Ms, ∀ o ∈ r.xs, ∃ q ∈ Ms, q.key = o := by
  intro r hr o ho
  have h1 := i.mc r.abs (eM ▸ List.mem_map_of_mem hr) o ho
  rw [← eM, List.map_map] at h1
  obtain ⟨q, hq, e⟩ := List.mem_map.mp h1
  exact ⟨q, hq, e⟩
theorem lw_lens {n : Nat} (d : DOK st n) (eM : Ms.map MateR.abs = st.M) : Ms.length ≤ n ∧ ∀ r ∈ Ms, r.xs.length ≤ 100 * n := by
  constructor
  · have := d.lk
    rw [← eM, List.length_map] at this; exact this
  · intro r hr
    exact d.lM r.abs (eM ▸ List.mem_map_of_mem hr)
theorem lw_up (i : Inv st) (eG : G.map NodeR.abs = st.G) : ∀ r ∈ G, ∀ x ∈ r.ss, r.key < x ∧ ∃ q ∈ G, q.key = x := by
  intro r hr x hx
  have hm : r.abs ∈ st.G := eG ▸ List.mem_map_of_mem hr
  refine ⟨(i.ed r.key x ⟨r.abs, hm, rfl, hx⟩).1, ?_⟩
  have h1 := i.gi.cl r.abs hm x hx
  rw [← eG, List.map_map] at h1
  obtain ⟨q, hq, e⟩ := List.mem_map.mp h1
  exact ⟨q, hq, e⟩
theorem lw_keys {n : Nat} (d : DOK st n) (i : Inv st) (eM : Ms.map MateR.abs = st.M) (eG : G.map NodeR.abs = st.G) (hk : (S.map (·.1)).Perm (Ms.map MateR.key)) : (S.map (·.1)).Perm (G.map NodeR.key) ∧ G.length ≤ n := by
  have h1 : (st.G.map ANode.key).Perm (st.M.map (·.1)) := (List.perm_ext_iff_of_nodup i.gi.nd d.nd).mpr i.kk
  have e1 : st.G.map ANode.key = G.map NodeR.key := by rw [← eG, List.map_map]; rfl
  have e2 : st.M.map (·.1) = Ms.map MateR.key := by rw [← eM, List.map_map]; rfl
  rw [e1, e2] at h1
  refine ⟨hk.trans h1.symm, ?_⟩
  have h2 := h1.length_eq
  rw [List.length_map, List.length_map] at h2
  have := (lw_lens d eM).1
  omega
theorem nd_one {a : Addr × Obj} : ND [a] := List.nodup_cons.mpr ⟨(fun q => by cases q), .nil⟩
theorem nd_last {a : Addr} {o : Obj} {l : List (Addr × Obj)} (h : ND (l ++ [(a, o)])) : a ∉ l.map (·.1) := by
  unfold ND at h
  rw [List.map_append, List.nodup_append] at h
  intro q
  exact h.2.2 a q a (by simp) rfl
end
theorem post_true (a : WData) : PySem.Challenge.rw_mr0333_01.row.claim.post [a] (.bool true) [a] = true := by with_unfolding_all rfl
theorem law_holds : PySem.Challenge.rw_mr0333_01.Holds := hd rfl rfl rfl (by
  w_strict (k_go0; (all_goals try k_fold))
  rename World => w
  rename List Int => ns
  rename Below _ _ _ _ => B
  rename Frag.In _ (ghostOf _ _) => X
  rename Top topProg _ _ _ _ (ghostOf _ _) => T
  rename Fr _ _ _ _ => F
  rename News _ _ _ _ => N
  rename CodeHd _ _ _ => hcd
  rename IntsAre _ _ => hI
  rename Heap.IsList (ghostOf _ _) _ _ => hL
  rename ¬ _ < _ => hlen
  rename Shared.gens _ = _ => hgens
  have hB := B
  have hX := X
  have hT := T
  walk_at "MINE law"
  refine ts_spec ⟨hB, F, hX, N, hT, rfl, rfl, rfl, Nat.le_of_ble_eq_true rfl, rfl⟩ nd_one ?_
  intro h1 tk1 σ tp tf oD F1 N1 g1
  have hab0 := F.above
  clear F N
  walk_at "MINE law"
  rename News _ _ _ _ => N2
  rename Fr _ _ _ _ => F2
  rename_i _ aU wsU _ hIU _ _ lU aV _ lV aN numV _ hIN lN
  have lN2 : ∀ p ∈ gl w σ .none 0 tp 0 tf oD [] [(194, tabObj #[])], p.1 < aN := by
    intro q hq
    rcases List.mem_cons.mp hq with rfl | hq
    · exact lN.2.2.1
    rcases List.mem_cons.mp hq with rfl | hq
    · exact lN.2.2.2.1
    rcases List.mem_cons.mp hq with rfl | hq
    · exact lN.2.2.2.2.1
    · exact kst_ltOf lN.2.2.2.2.2 q hq
  have g2 := GOK.push (o := W.listOf numV.toArray 0) g1 lN2
  have N3 := News.perm (News.sub N2 (fun q hq => by
    rcases List.mem_cons.mp hq with rfl | hq
    · exact .head _
    · exact .tail _ (.tail _ (.tail _ hq)))) (gl_push_perm (x := (aN, W.listOf numV.toArray 0)))
  refine wpAny_call (dd_spec (nums := numsOf _) ⟨hB, F2, hX, N3, hT, rfl, rfl, rfl, Nat.le_of_ble_eq_true rfl, rfl⟩ g2 hIN (Nat.le_trans (nums_len _) (by decide)) (Nat.le_of_ble_eq_true rfl) ?_)
  intro h2 tk2 aP aM oM aDe nD oD' G' Ms Dr F3 N4 nd3 g3 hM loM eM iM eD iD eG
  clear N2 N3 F2
  have inv := nums_inv ns
  have dok := nums_dok ns
  have hln := nums_len ns
  walk_at "MINE law"
  rename News _ _ _ _ => N5
  rename Fr _ _ _ _ => F5
  have lens := lw_lens dok eM
  refine wpAny_call (ch_spec ⟨hB, F5, hX, N5, hT, rfl, rfl, rfl, Nat.le_of_ble_eq_true rfl, rfl⟩ (.tail _ (.head _)) hM loM (fun r hr => .tail _ (.tail _ (.tail _ (.tail _ (.tail _ (.tail _ (List.mem_append_right _ (.tail _ (List.mem_append_left _ (List.mem_map_of_mem hr)))))))))) iM (by omega) (fun r hr => Nat.le_trans (lens.2 r hr) (by omega)) (lw_closed inv eM) ?_)
  intro h4 tk4 aS oS S F6 N6 lS loS hS hSk sok
  have hSn : (S.map (·.1)).Nodup := by
    have e : (kvI S).map (·.1) = S.map (·.1) := by unfold kvI; rw [List.map_map]; rfl
    rw [← e]; exact dict_nodup hS
  obtain ⟨n, pl⟩ := plain eM sok hSk hSn
  have keys := lw_keys dok inv eM eG hSk
  clear N5 F5
  walk_at "MINE law"
  rename News _ _ _ _ => N7
  rename Fr _ _ _ _ => F7
  have hSnm : aS ∉ ((aP, tupO [Value.ref aM, Value.ref aDe]) :: (aM, oM) :: (aDe, W.listOf (deV Dr).toArray nD) :: gl w σ .none 0 tp 0 tf oD' G' (dtl (aN, W.listOf numV.toArray 0) Ms Dr [(194, tabObj #[])])).map (·.1) := fun q => by
    obtain ⟨z, hz, e⟩ := List.mem_map.mp q
    exact absurd (lS z hz) (e ▸ Nat.lt_irrefl _)
  have nd7 := nd_new (o := oS) nd3 hSnm
  have pm : ((aS, oS) :: (aP, tupO [Value.ref aM, Value.ref aDe]) :: (aM, oM) :: (aDe, W.listOf (deV Dr).toArray nD) :: gl w σ .none 0 tp 0 tf oD' G' (dtl (aN, W.listOf numV.toArray 0) Ms Dr [(194, tabObj #[])])).Perm (gl w σ .none 0 tp 0 tf oD' G' ((aS, oS) :: (aP, tupO [Value.ref aM, Value.ref aDe]) :: (aM, oM) :: (aDe, W.listOf (deV Dr).toArray nD) :: dtl (aN, W.listOf numV.toArray 0) Ms Dr [(194, tabObj #[])])) :=
    (((gl_push_perm.cons _).cons _).cons _).trans (((gl_push_perm.cons _).cons _).trans ((gl_push_perm.cons _).trans gl_push_perm))
  have nd8 := ND.perm nd7 pm
  have g8 := GOK.of (rv := .none) (po := 0) (tp := tp) (nf := 0) (tf := tf) g3 nd8
  refine wpAny_call (gv_spec (n := n) ⟨hB, F7, hX, News.perm N7 pm, hT, rfl, rfl, rfl, Nat.le_of_ble_eq_true rfl, rfl⟩ hX hT (fun b hb => nomatch hb) g8 (by omega) (lw_up inv eG) (.head _) hS loS (Nat.le_of_ble_eq_true rfl) keys.1 (by omega) (Nat.le_trans pl.hn (by decide)) pl.ex pl.le (eG ▸ pl.kok) ?_)
  intro h6 tk6 g0 Kt F8 N8 B8 X8 T8 D8
  clear N7 F7
  walk_at "MINE law"
  have eR : (aS, oS) :: (aP, tupO [Value.ref aM, Value.ref aDe]) :: (aM, oM) :: (aDe, W.listOf (deV Dr).toArray nD) :: dtl (aN, W.listOf numV.toArray 0) Ms Dr [(194, tabObj #[])] = ((aS, oS) :: (aP, tupO [Value.ref aM, Value.ref aDe]) :: (aM, oM) :: (aDe, W.listOf (deV Dr).toArray nD) :: (aN, W.listOf numV.toArray 0) :: (Ms.map mseg ++ Dr.flatMap dseg)) ++ [(194, tabObj #[])] := by
    show _ = (aS, oS) :: (aP, tupO [Value.ref aM, Value.ref aDe]) :: (aM, oM) :: (aDe, W.listOf (deV Dr).toArray nD) :: (aN, W.listOf numV.toArray 0) :: ((Ms.map mseg ++ Dr.flatMap dseg) ++ [(194, tabObj #[])])
    rw [List.append_assoc]
  have ndr := List.Nodup.sublist ((List.sublist_append_right (G'.flatMap nseg) _).map (·.1)) g8.gn.nd
  rw [eR] at ndr N8
  have h194 := nd_last ndr
  have N9 := News.perm N8 (List.perm_append_singleton _ _)
  have hab : ∀ r ∈ Dr, r.abs ∈ (List.foldl stepD st0 (numsOf ns)).Ds := fun r hr => eD ▸ List.mem_map_of_mem hr
  refine wpAny_call (bk_spec (S := S) (Dr := Dr) ⟨B8, F8, X8, N9, T8, rfl, rfl, rfl, Nat.le_of_ble_eq_true rfl, rfl⟩ hcd h194 (.tail _ (.tail _ (.tail _ (.head _)))) (fun r hr q hq => .tail _ (.tail _ (.tail _ (.tail _ (.tail _ (List.mem_append_right _ (List.mem_flatMap.mpr ⟨r, hr, hq⟩))))))) iD (.head _) hS (Nat.le_of_ble_eq_true rfl) (fun r hr => pl.len _ (hab r hr)) (fun r hr => ⟨(inv.ds _ (hab r hr)).1, (inv.ds _ (hab r hr)).2.1⟩) (fun r hr y hy => ?hin) (fun r hr => pl.ds _ (hab r hr)) ?_)
  case hin =>
    have h1 := (inv.ds _ (hab r hr)).2.2.1 y hy
    rw [← eM, List.map_map] at h1
    exact hSk.mem_iff.mpr h1
  intro h9 tk9 ps F10 N10
  have F11 : Fr (ghostOf _ _) _ h9 _ := ⟨F10.ns, fun b o e => F10.keep b o (B8.stays b o e), hab0⟩
  have N11 : News (ghostOf _ _) _ h9 [(194, tabObj ps)] := fun q hq => ⟨(N10 q hq).1, (N10 q hq).2.1, by
    cases e : (ghostOf _ _).get? q.1 with
    | none => rfl
    | some o => have := (N10 q hq).2.2; rw [B8.stays _ _ e] at this; cases this⟩
  clear N8 N9 F8 F10 N10 T8 X8 B8 D8
  refine ⟨?_, ?_⟩
  · exact ⟨.inl ⟨.bool true, .bool true, [], rfl, fun _ => rfl, .bool true, post_true _, fun _ => ⟨.nil, fun a ha => nomatch ha⟩⟩, fun b o e => F11.keep b o e, rfl, hgens⟩
  · w_strict walk1)

end Mine
set_option maxRecDepth 100000 in
set_option maxHeartbeats 8000000 in
theorem PySem.Challenge.cw_mr0333_01_holds : PySem.Challenge.rw_mr0333_01.Holds :=
  Mine.law_holds
