import PyProof.Rows.All
import Wide.All
import OpenK.AllK
import Wide.FinOn
import KE.KSlice
import Lean
import PySem.Challenge.RW_pe0197_01
set_option Elab.async false
section
set_option maxRecDepth 100000
set_option linter.unusedVariables false
open PySem PySem.W PyProof.Rows
namespace Mine
abbrev prog : Program := PySem.Challenge.pw_pe0197_01
def stmtAt (i : Nat) : Stmt := (prog.main.body[i]?).getD default
def defParams (i : Nat) : Arguments := match stmtAt i with | .FunctionDef _ a _ _ _ _ _ _ _ _ => a | _ => default
def defBody (i : Nat) : List Stmt := match stmtAt i with | .FunctionDef _ _ b _ _ _ _ _ _ _ => b | _ => []
def defScope (i : Nat) : Scope := match stmtAt i with | .FunctionDef _ _ _ _ _ _ s _ _ _ => s | _ => default
def o11 (P : Params) : Obj := Obj.mk (.type "tuple") none (.seq (Array.mk []) 0) (Array.mk [])
def o13 (P : Params) : Obj := Obj.mk (.type "code") none (.fields (Array.mk [(.str (Str.mk (Array.mk [60, 109, 111, 100, 117, 108, 101, 62])) 182), (.str (Str.mk (Array.mk [60, 109, 111, 100, 117, 108, 101, 62])) 183), (.str (Str.mk (Array.mk [47, 99, 108, 97, 105, 109, 47, 99, 117, 116, 46, 112, 121])) 184), (.int (Int.ofNat 1) 0), (.int (Int.ofNat 0) 0), (.int (Int.ofNat 0) 0), (.int (Int.ofNat 0) 0), (.int (Int.ofNat 0) 0), (.ref 11), (.bool false), (.int (Int.ofNat 181) 0), (.ref 12), .none, .none, .none, .none, (.int (Int.ofNat 185) 0), (.int (Int.ofNat 1) 0), (.str (Str.mk (Array.mk [47, 99, 108, 97, 105, 109, 47, 99, 117, 116, 46, 112, 121])) 186)])) (Array.mk [])
def o14 (P : Params) : Obj := Obj.mk (.type "frame") none .plain (Array.mk [(some (.ref 13)), (some (.ref 3)), (some (.ref 3)), none, (some (.str (Str.mk (Array.mk [95, 95, 109, 97, 105, 110, 95, 95])) 164)), none, (some (.ref 0))])
def o15 (P : Params) : Obj := Obj.mk (.type "list") none (.seq (Array.mk [(.int (Int.ofNat 173) 189), (.int (Int.ofNat 847) 190), (.int (Int.ofNat 6150) 191), (.int (Int.ofNat 6155) 192), (.int (Int.ofNat 6156) 193), (.int (Int.ofNat 6157) 194), (.int (Int.ofNat 8203) 195), (.int (Int.ofNat 8204) 196), (.int (Int.ofNat 8205) 197), (.int (Int.ofNat 8288) 198), (.int (Int.ofNat 65279) 199)]) 0) (Array.mk [])
def o16 (P : Params) : Obj := Obj.mk (.type "range") none (.fields (Array.mk [(.int (Int.ofNat 65024) 200), (.int (Int.ofNat 65040) 201), (.int (Int.ofNat 1) 202)])) (Array.mk [])
def o17 (P : Params) : Obj := Obj.mk (.type "list") none (.seq (Array.mk [(.int (Int.ofNat 65024) 205), (.int (Int.ofNat 65025) 206), (.int (Int.ofNat 65026) 207), (.int (Int.ofNat 65027) 208), (.int (Int.ofNat 65028) 209), (.int (Int.ofNat 65029) 210), (.int (Int.ofNat 65030) 211), (.int (Int.ofNat 65031) 212), (.int (Int.ofNat 65032) 213), (.int (Int.ofNat 65033) 214), (.int (Int.ofNat 65034) 215), (.int (Int.ofNat 65035) 216), (.int (Int.ofNat 65036) 217), (.int (Int.ofNat 65037) 218), (.int (Int.ofNat 65038) 219), (.int (Int.ofNat 65039) 220)]) 18) (Array.mk [])
def o18 (P : Params) : Obj := Obj.mk (.type "range_iterator") none (.fields (Array.mk [(.int (Int.ofNat 65040) 0), (.int (Int.ofNat 0) 0), (.int (Int.ofNat 1) 0)])) (Array.mk [])
def o19 (P : Params) : Obj := Obj.mk (.type "tuple") none (.seq (Array.mk []) 0) (Array.mk [])
def o20 (P : Params) : Obj := Obj.mk (.type "StopIteration") none (.fields (Array.mk [(.ref 19), .none, .none, .none, (.bool false), .none])) (Array.mk [])
def o21 (P : Params) : Obj := Obj.mk (.type "list") none (.seq (Array.mk [(.int (Int.ofNat 173) 189), (.int (Int.ofNat 847) 190), (.int (Int.ofNat 6150) 191), (.int (Int.ofNat 6155) 192), (.int (Int.ofNat 6156) 193), (.int (Int.ofNat 6157) 194), (.int (Int.ofNat 8203) 195), (.int (Int.ofNat 8204) 196), (.int (Int.ofNat 8205) 197), (.int (Int.ofNat 8288) 198), (.int (Int.ofNat 65279) 199), (.int (Int.ofNat 65024) 205), (.int (Int.ofNat 65025) 206), (.int (Int.ofNat 65026) 207), (.int (Int.ofNat 65027) 208), (.int (Int.ofNat 65028) 209), (.int (Int.ofNat 65029) 210), (.int (Int.ofNat 65030) 211), (.int (Int.ofNat 65031) 212), (.int (Int.ofNat 65032) 213), (.int (Int.ofNat 65033) 214), (.int (Int.ofNat 65034) 215), (.int (Int.ofNat 65035) 216), (.int (Int.ofNat 65036) 217), (.int (Int.ofNat 65037) 218), (.int (Int.ofNat 65038) 219), (.int (Int.ofNat 65039) 220)]) 0) (Array.mk [])
def o22 (P : Params) : Obj := Obj.mk (.type "set") none (.set (Array.mk [((Int.ofNat 65024), (.int (Int.ofNat 65024) 205)), ((Int.ofNat 65025), (.int (Int.ofNat 65025) 206)), ((Int.ofNat 65026), (.int (Int.ofNat 65026) 207)), ((Int.ofNat 65027), (.int (Int.ofNat 65027) 208)), ((Int.ofNat 65028), (.int (Int.ofNat 65028) 209)), ((Int.ofNat 65029), (.int (Int.ofNat 65029) 210)), ((Int.ofNat 6150), (.int (Int.ofNat 6150) 191)), ((Int.ofNat 65030), (.int (Int.ofNat 65030) 211)), ((Int.ofNat 65031), (.int (Int.ofNat 65031) 212)), ((Int.ofNat 65032), (.int (Int.ofNat 65032) 213)), ((Int.ofNat 65033), (.int (Int.ofNat 65033) 214)), ((Int.ofNat 6155), (.int (Int.ofNat 6155) 192)), ((Int.ofNat 6156), (.int (Int.ofNat 6156) 193)), ((Int.ofNat 6157), (.int (Int.ofNat 6157) 194)), ((Int.ofNat 8203), (.int (Int.ofNat 8203) 195)), ((Int.ofNat 8204), (.int (Int.ofNat 8204) 196)), ((Int.ofNat 8205), (.int (Int.ofNat 8205) 197)), ((Int.ofNat 65034), (.int (Int.ofNat 65034) 215)), ((Int.ofNat 65035), (.int (Int.ofNat 65035) 216)), ((Int.ofNat 65036), (.int (Int.ofNat 65036) 217)), ((Int.ofNat 65037), (.int (Int.ofNat 65037) 218)), ((Int.ofNat 65038), (.int (Int.ofNat 65038) 219)), ((Int.ofNat 65039), (.int (Int.ofNat 65039) 220)), ((Int.ofNat 173), (.int (Int.ofNat 173) 189)), ((Int.ofNat 847), (.int (Int.ofNat 847) 190)), ((Int.ofNat 8288), (.int (Int.ofNat 8288) 198)), ((Int.ofNat 65279), (.int (Int.ofNat 65279) 199))]) 29 { mask := 127, place := (Array.mk [0, 1, 2, 3, 4, 5, 6, 7, 8, 9, 10, 11, 12, 13, 14, 15, 16, 17, 18, 19, 20, 21, 22, 45, 79, 96, 127]), dummies := (Array.mk []), finger := 0, led := !P.followText "set-order", moves := 2, plain := true }) (Array.mk [])
def o23 (P : Params) : Obj := Obj.mk (.type "list_iterator") none (.fields (Array.mk [.none, (.int (Int.ofNat 27) 0)])) (Array.mk [])
def o24 (P : Params) : Obj := Obj.mk (.type "tuple") none (.seq (Array.mk []) 0) (Array.mk [])
def o25 (P : Params) : Obj := Obj.mk (.type "StopIteration") none (.fields (Array.mk [(.ref 24), .none, .none, .none, (.bool false), .none])) (Array.mk [])
def o26 (P : Params) : Obj := Obj.mk (.type "tuple") none (.seq (Array.mk []) 0) (Array.mk [])
def o27 (P : Params) : Obj := Obj.mk .none none (.fields (Array.mk [])) (Array.mk [])
def o28 (P : Params) : Obj := Obj.mk (.type "tuple") none (.seq (Array.mk [(.str (Str.mk (Array.mk [99, 111, 100, 101])) 252)]) 0) (Array.mk [])
def o29 (P : Params) : Obj := Obj.mk (.type "tuple") none (.seq (Array.mk []) 0) (Array.mk [])
def o30 (P : Params) : Obj := Obj.mk .none none (.func { name := (Str.mk (Array.mk [105, 110, 95, 116, 97, 98, 108, 101, 95, 98, 49])), qualname := (Str.mk (Array.mk [105, 110, 95, 116, 97, 98, 108, 101, 95, 98, 49])), params := defParams 2, body := .stmts (defBody 2), scope := defScope 2, globals := 0, closure := [], defaults := .none, kwdefaults := .none, doc := .none, pyModule := .none, annotations := none, code := .none, closureTuple := .none, builtins := 0 }) (Array.mk [])
def o31 (P : Params) : Obj := Obj.mk (.type "code") none (.fields (Array.mk [(.str (Str.mk (Array.mk [105, 110, 95, 116, 97, 98, 108, 101, 95, 98, 49])) 249), (.str (Str.mk (Array.mk [105, 110, 95, 116, 97, 98, 108, 101, 95, 98, 49])) 250), (.str (Str.mk (Array.mk [47, 99, 108, 97, 105, 109, 47, 99, 117, 116, 46, 112, 121])) 251), (.int (Int.ofNat 3) 0), (.int (Int.ofNat 1) 0), (.int (Int.ofNat 0) 0), (.int (Int.ofNat 0) 0), (.int (Int.ofNat 3) 0), (.ref 26), (.bool true), (.int (Int.ofNat 181) 0), (.ref 27), .none, (.ref 28), (.ref 29), (.ref 30), (.int (Int.ofNat 253) 0), (.int (Int.ofNat 3) 0), (.str (Str.mk (Array.mk [47, 99, 108, 97, 105, 109, 47, 99, 117, 116, 46, 112, 121])) 254)])) (Array.mk [])
def o32 (P : Params) : Obj := Obj.mk (.type "function") none (.func { name := (Str.mk (Array.mk [105, 110, 95, 116, 97, 98, 108, 101, 95, 98, 49])), qualname := (Str.mk (Array.mk [105, 110, 95, 116, 97, 98, 108, 101, 95, 98, 49])), params := defParams 2, body := .stmts (defBody 2), scope := defScope 2, globals := 3, closure := [], defaults := .none, kwdefaults := .none, doc := .none, pyModule := (.str (Str.mk (Array.mk [99, 112, 121, 51, 49, 51, 46, 115, 116, 114, 105, 110, 103, 112, 114, 101, 112])) 187), annotations := none, code := (.ref 31), closureTuple := .none, builtins := 0 }) (Array.mk [])
def o72 (P : Params) : Obj := Obj.mk (.type "tuple") none (.seq (Array.mk []) 0) (Array.mk [])
def o73 (P : Params) : Obj := Obj.mk .none none (.fields (Array.mk [])) (Array.mk [])
def o74 (P : Params) : Obj := Obj.mk (.type "tuple") none (.seq (Array.mk [(.str (Str.mk (Array.mk [99, 111, 100, 101])) 2210), (.str (Str.mk (Array.mk [114])) 2211)]) 0) (Array.mk [])
def o75 (P : Params) : Obj := Obj.mk (.type "tuple") none (.seq (Array.mk []) 0) (Array.mk [])
def o76 (P : Params) : Obj := Obj.mk .none none (.func { name := (Str.mk (Array.mk [109, 97, 112, 95, 116, 97, 98, 108, 101, 95, 98, 51])), qualname := (Str.mk (Array.mk [109, 97, 112, 95, 116, 97, 98, 108, 101, 95, 98, 51])), params := defParams 4, body := .stmts (defBody 4), scope := defScope 4, globals := 0, closure := [], defaults := .none, kwdefaults := .none, doc := .none, pyModule := .none, annotations := none, code := .none, closureTuple := .none, builtins := 0 }) (Array.mk [])
def o77 (P : Params) : Obj := Obj.mk (.type "code") none (.fields (Array.mk [(.str (Str.mk (Array.mk [109, 97, 112, 95, 116, 97, 98, 108, 101, 95, 98, 51])) 2207), (.str (Str.mk (Array.mk [109, 97, 112, 95, 116, 97, 98, 108, 101, 95, 98, 51])) 2208), (.str (Str.mk (Array.mk [47, 99, 108, 97, 105, 109, 47, 99, 117, 116, 46, 112, 121])) 2209), (.int (Int.ofNat 6) 0), (.int (Int.ofNat 1) 0), (.int (Int.ofNat 0) 0), (.int (Int.ofNat 0) 0), (.int (Int.ofNat 3) 0), (.ref 72), (.bool true), (.int (Int.ofNat 181) 0), (.ref 73), .none, (.ref 74), (.ref 75), (.ref 76), (.int (Int.ofNat 2212) 0), (.int (Int.ofNat 6) 0), (.str (Str.mk (Array.mk [47, 99, 108, 97, 105, 109, 47, 99, 117, 116, 46, 112, 121])) 2213)])) (Array.mk [])
def o78 (P : Params) : Obj := Obj.mk (.type "function") none (.func { name := (Str.mk (Array.mk [109, 97, 112, 95, 116, 97, 98, 108, 101, 95, 98, 51])), qualname := (Str.mk (Array.mk [109, 97, 112, 95, 116, 97, 98, 108, 101, 95, 98, 51])), params := defParams 4, body := .stmts (defBody 4), scope := defScope 4, globals := 3, closure := [], defaults := .none, kwdefaults := .none, doc := .none, pyModule := (.str (Str.mk (Array.mk [99, 112, 121, 51, 49, 51, 46, 115, 116, 114, 105, 110, 103, 112, 114, 101, 112])) 187), annotations := none, code := (.ref 77), closureTuple := .none, builtins := 0 }) (Array.mk [])
def o79 (P : Params) : Obj := Obj.mk (.type "object") none .plain (Array.mk [])
def o80 (P : Params) : Obj := Obj.mk (.type "tuple") none (.seq (Array.mk [(.ref 79)]) 0) (Array.mk [])
def o81 (P : Params) : Obj := Obj.mk (.type "tuple") none (.seq (Array.mk []) 0) (Array.mk [])
def o82 (P : Params) : Obj := Obj.mk .none none (.fields (Array.mk [])) (Array.mk [])
def o83 (P : Params) : Obj := Obj.mk (.type "tuple") none (.seq (Array.mk [(.str (Str.mk (Array.mk [102, 117, 110, 99, 116, 105, 111, 110])) 2221), (.str (Str.mk (Array.mk [115, 101, 113, 117, 101, 110, 99, 101])) 2222), (.str (Str.mk (Array.mk [105, 110, 105, 116, 105, 97, 108])) 2223), (.str (Str.mk (Array.mk [105, 116])) 2224), (.str (Str.mk (Array.mk [118, 97, 108, 117, 101])) 2225), (.str (Str.mk (Array.mk [101, 108, 101, 109, 101, 110, 116])) 2226)]) 0) (Array.mk [])
def o84 (P : Params) : Obj := Obj.mk (.type "tuple") none (.seq (Array.mk []) 0) (Array.mk [])
def o85 (P : Params) : Obj := Obj.mk .none none (.func { name := (Str.mk (Array.mk [114, 101, 100, 117, 99, 101])), qualname := (Str.mk (Array.mk [114, 101, 100, 117, 99, 101])), params := defParams 7, body := .stmts (defBody 7), scope := defScope 7, globals := 0, closure := [], defaults := .none, kwdefaults := .none, doc := .none, pyModule := .none, annotations := none, code := .none, closureTuple := .none, builtins := 0 }) (Array.mk [])
def o86 (P : Params) : Obj := Obj.mk (.type "code") none (.fields (Array.mk [(.str (Str.mk (Array.mk [114, 101, 100, 117, 99, 101])) 2218), (.str (Str.mk (Array.mk [114, 101, 100, 117, 99, 101])) 2219), (.str (Str.mk (Array.mk [47, 99, 108, 97, 105, 109, 47, 99, 117, 116, 46, 112, 121])) 2220), (.int (Int.ofNat 13) 0), (.int (Int.ofNat 3) 0), (.int (Int.ofNat 0) 0), (.int (Int.ofNat 0) 0), (.int (Int.ofNat 3) 0), (.ref 81), (.bool true), (.int (Int.ofNat 181) 0), (.ref 82), .none, (.ref 83), (.ref 84), (.ref 85), (.int (Int.ofNat 2227) 0), (.int (Int.ofNat 13) 0), (.str (Str.mk (Array.mk [47, 99, 108, 97, 105, 109, 47, 99, 117, 116, 46, 112, 121])) 2228)])) (Array.mk [])
def o87 (P : Params) : Obj := Obj.mk (.type "function") none (.func { name := (Str.mk (Array.mk [114, 101, 100, 117, 99, 101])), qualname := (Str.mk (Array.mk [114, 101, 100, 117, 99, 101])), params := defParams 7, body := .stmts (defBody 7), scope := defScope 7, globals := 3, closure := [], defaults := (.ref 80), kwdefaults := .none, doc := .none, pyModule := (.str (Str.mk (Array.mk [99, 112, 121, 51, 49, 51, 46, 102, 117, 110, 99, 116, 111, 111, 108, 115])) 2215), annotations := none, code := (.ref 86), closureTuple := .none, builtins := 0 }) (Array.mk [])
def o88 (P : Params) : Obj := Obj.mk (.type "tuple") none (.seq (Array.mk []) 0) (Array.mk [])
def o89 (P : Params) : Obj := Obj.mk .none none (.fields (Array.mk [])) (Array.mk [])
def o90 (P : Params) : Obj := Obj.mk .none none (.func { name := (Str.mk (Array.mk [95, 108, 97, 119, 95, 115, 104, 111, 112])), qualname := (Str.mk (Array.mk [95, 108, 97, 119, 95, 115, 104, 111, 112])), params := defParams 9, body := .stmts (defBody 9), scope := defScope 9, globals := 0, closure := [], defaults := .none, kwdefaults := .none, doc := .none, pyModule := .none, annotations := none, code := .none, closureTuple := .none, builtins := 0 }) (Array.mk [])
def o91 (P : Params) : Obj := Obj.mk (.type "code") none (.fields (Array.mk [(.str (Str.mk (Array.mk [95, 108, 97, 119, 95, 115, 104, 111, 112])) 2232), (.str (Str.mk (Array.mk [95, 108, 97, 119, 95, 115, 104, 111, 112])) 2233), (.str (Str.mk (Array.mk [47, 99, 108, 97, 105, 109, 47, 99, 117, 116, 46, 112, 121])) 2234), (.int (Int.ofNat 26) 0), (.int (Int.ofNat 1) 0), (.int (Int.ofNat 0) 0), (.int (Int.ofNat 0) 0), (.int (Int.ofNat 3) 0), (.ref 88), (.bool true), (.int (Int.ofNat 181) 0), (.ref 89), .none, .none, .none, (.ref 90), (.int (Int.ofNat 2235) 0), (.int (Int.ofNat 26) 0), (.str (Str.mk (Array.mk [47, 99, 108, 97, 105, 109, 47, 99, 117, 116, 46, 112, 121])) 2236)])) (Array.mk [])
def o92 (P : Params) : Obj := Obj.mk (.type "function") none (.func { name := (Str.mk (Array.mk [95, 108, 97, 119, 95, 115, 104, 111, 112])), qualname := (Str.mk (Array.mk [95, 108, 97, 119, 95, 115, 104, 111, 112])), params := defParams 9, body := .stmts (defBody 9), scope := defScope 9, globals := 3, closure := [], defaults := .none, kwdefaults := .none, doc := .none, pyModule := (.str (Str.mk (Array.mk [108, 97, 119, 95, 112, 101, 48, 49, 57, 55, 95, 48, 49])) 2230), annotations := none, code := (.ref 91), closureTuple := .none, builtins := 0 }) (Array.mk [])
def o93 (P : Params) : Obj := Obj.mk (.type "tuple") none (.seq (Array.mk []) 0) (Array.mk [])
def o94 (P : Params) : Obj := Obj.mk .none none (.fields (Array.mk [])) (Array.mk [])
def o95 (P : Params) : Obj := Obj.mk (.type "tuple") none (.seq (Array.mk [(.str (Str.mk (Array.mk [116, 101, 120, 116])) 2241)]) 0) (Array.mk [])
def o96 (P : Params) : Obj := Obj.mk (.type "tuple") none (.seq (Array.mk []) 0) (Array.mk [])
def o97 (P : Params) : Obj := Obj.mk .none none (.func { name := (Str.mk (Array.mk [95, 108, 97, 119, 95, 112, 114, 101, 112, 97, 114, 101, 100])), qualname := (Str.mk (Array.mk [95, 108, 97, 119, 95, 112, 114, 101, 112, 97, 114, 101, 100])), params := defParams 10, body := .stmts (defBody 10), scope := defScope 10, globals := 0, closure := [], defaults := .none, kwdefaults := .none, doc := .none, pyModule := .none, annotations := none, code := .none, closureTuple := .none, builtins := 0 }) (Array.mk [])
def o98 (P : Params) : Obj := Obj.mk (.type "code") none (.fields (Array.mk [(.str (Str.mk (Array.mk [95, 108, 97, 119, 95, 112, 114, 101, 112, 97, 114, 101, 100])) 2238), (.str (Str.mk (Array.mk [95, 108, 97, 119, 95, 112, 114, 101, 112, 97, 114, 101, 100])) 2239), (.str (Str.mk (Array.mk [47, 99, 108, 97, 105, 109, 47, 99, 117, 116, 46, 112, 121])) 2240), (.int (Int.ofNat 32) 0), (.int (Int.ofNat 1) 0), (.int (Int.ofNat 0) 0), (.int (Int.ofNat 0) 0), (.int (Int.ofNat 3) 0), (.ref 93), (.bool true), (.int (Int.ofNat 181) 0), (.ref 94), .none, (.ref 95), (.ref 96), (.ref 97), (.int (Int.ofNat 2242) 0), (.int (Int.ofNat 32) 0), (.str (Str.mk (Array.mk [47, 99, 108, 97, 105, 109, 47, 99, 117, 116, 46, 112, 121])) 2243)])) (Array.mk [])
def o99 (P : Params) : Obj := Obj.mk (.type "function") none (.func { name := (Str.mk (Array.mk [95, 108, 97, 119, 95, 112, 114, 101, 112, 97, 114, 101, 100])), qualname := (Str.mk (Array.mk [95, 108, 97, 119, 95, 112, 114, 101, 112, 97, 114, 101, 100])), params := defParams 10, body := .stmts (defBody 10), scope := defScope 10, globals := 3, closure := [], defaults := .none, kwdefaults := .none, doc := .none, pyModule := (.str (Str.mk (Array.mk [108, 97, 119, 95, 112, 101, 48, 49, 57, 55, 95, 48, 49])) 2230), annotations := none, code := (.ref 98), closureTuple := .none, builtins := 0 }) (Array.mk [])
def o100 (P : Params) : Obj := Obj.mk (.type "tuple") none (.seq (Array.mk []) 0) (Array.mk [])
def o101 (P : Params) : Obj := Obj.mk .none none (.fields (Array.mk [])) (Array.mk [])
def o102 (P : Params) : Obj := Obj.mk .none none (.func { name := (Str.mk (Array.mk [95, 108, 97, 119, 95, 116, 111, 108, 100])), qualname := (Str.mk (Array.mk [95, 108, 97, 119, 95, 116, 111, 108, 100])), params := defParams 11, body := .stmts (defBody 11), scope := defScope 11, globals := 0, closure := [], defaults := .none, kwdefaults := .none, doc := .none, pyModule := .none, annotations := none, code := .none, closureTuple := .none, builtins := 0 }) (Array.mk [])
def o103 (P : Params) : Obj := Obj.mk (.type "code") none (.fields (Array.mk [(.str (Str.mk (Array.mk [95, 108, 97, 119, 95, 116, 111, 108, 100])) 2245), (.str (Str.mk (Array.mk [95, 108, 97, 119, 95, 116, 111, 108, 100])) 2246), (.str (Str.mk (Array.mk [47, 99, 108, 97, 105, 109, 47, 99, 117, 116, 46, 112, 121])) 2247), (.int (Int.ofNat 34) 0), (.int (Int.ofNat 1) 0), (.int (Int.ofNat 0) 0), (.int (Int.ofNat 0) 0), (.int (Int.ofNat 3) 0), (.ref 100), (.bool true), (.int (Int.ofNat 181) 0), (.ref 101), .none, .none, .none, (.ref 102), (.int (Int.ofNat 2248) 0), (.int (Int.ofNat 34) 0), (.str (Str.mk (Array.mk [47, 99, 108, 97, 105, 109, 47, 99, 117, 116, 46, 112, 121])) 2249)])) (Array.mk [])
def o104 (P : Params) : Obj := Obj.mk (.type "function") none (.func { name := (Str.mk (Array.mk [95, 108, 97, 119, 95, 116, 111, 108, 100])), qualname := (Str.mk (Array.mk [95, 108, 97, 119, 95, 116, 111, 108, 100])), params := defParams 11, body := .stmts (defBody 11), scope := defScope 11, globals := 3, closure := [], defaults := .none, kwdefaults := .none, doc := .none, pyModule := (.str (Str.mk (Array.mk [108, 97, 119, 95, 112, 101, 48, 49, 57, 55, 95, 48, 49])) 2230), annotations := none, code := (.ref 103), closureTuple := .none, builtins := 0 }) (Array.mk [])
def o105 (P : Params) : Obj := Obj.mk (.type "tuple") none (.seq (Array.mk []) 0) (Array.mk [])
def o106 (P : Params) : Obj := Obj.mk .none none (.fields (Array.mk [])) (Array.mk [])
def o107 (P : Params) : Obj := Obj.mk (.type "tuple") none (.seq (Array.mk [(.str (Str.mk (Array.mk [110])) 2254), (.str (Str.mk (Array.mk [107])) 2255), (.str (Str.mk (Array.mk [119, 97, 121, 115])) 2256), (.str (Str.mk (Array.mk [106])) 2257)]) 0) (Array.mk [])
def o108 (P : Params) : Obj := Obj.mk (.type "tuple") none (.seq (Array.mk []) 0) (Array.mk [])
def o109 (P : Params) : Obj := Obj.mk .none none (.func { name := (Str.mk (Array.mk [95, 108, 97, 119, 95, 99, 104, 111, 111, 115, 101])), qualname := (Str.mk (Array.mk [95, 108, 97, 119, 95, 99, 104, 111, 111, 115, 101])), params := defParams 12, body := .stmts (defBody 12), scope := defScope 12, globals := 0, closure := [], defaults := .none, kwdefaults := .none, doc := .none, pyModule := .none, annotations := none, code := .none, closureTuple := .none, builtins := 0 }) (Array.mk [])
def o110 (P : Params) : Obj := Obj.mk (.type "code") none (.fields (Array.mk [(.str (Str.mk (Array.mk [95, 108, 97, 119, 95, 99, 104, 111, 111, 115, 101])) 2251), (.str (Str.mk (Array.mk [95, 108, 97, 119, 95, 99, 104, 111, 111, 115, 101])) 2252), (.str (Str.mk (Array.mk [47, 99, 108, 97, 105, 109, 47, 99, 117, 116, 46, 112, 121])) 2253), (.int (Int.ofNat 42) 0), (.int (Int.ofNat 2) 0), (.int (Int.ofNat 0) 0), (.int (Int.ofNat 0) 0), (.int (Int.ofNat 3) 0), (.ref 105), (.bool true), (.int (Int.ofNat 181) 0), (.ref 106), .none, (.ref 107), (.ref 108), (.ref 109), (.int (Int.ofNat 2258) 0), (.int (Int.ofNat 42) 0), (.str (Str.mk (Array.mk [47, 99, 108, 97, 105, 109, 47, 99, 117, 116, 46, 112, 121])) 2259)])) (Array.mk [])
def o111 (P : Params) : Obj := Obj.mk (.type "function") none (.func { name := (Str.mk (Array.mk [95, 108, 97, 119, 95, 99, 104, 111, 111, 115, 101])), qualname := (Str.mk (Array.mk [95, 108, 97, 119, 95, 99, 104, 111, 111, 115, 101])), params := defParams 12, body := .stmts (defBody 12), scope := defScope 12, globals := 3, closure := [], defaults := .none, kwdefaults := .none, doc := .none, pyModule := (.str (Str.mk (Array.mk [108, 97, 119, 95, 112, 101, 48, 49, 57, 55, 95, 48, 49])) 2230), annotations := none, code := (.ref 110), closureTuple := .none, builtins := 0 }) (Array.mk [])
def o112 (P : Params) : Obj := Obj.mk (.type "tuple") none (.seq (Array.mk []) 0) (Array.mk [])
def o113 (P : Params) : Obj := Obj.mk .none none (.fields (Array.mk [])) (Array.mk [])
def o114 (P : Params) : Obj := Obj.mk (.type "tuple") none (.seq (Array.mk [(.str (Str.mk (Array.mk [110])) 2264), (.str (Str.mk (Array.mk [111, 110, 101, 115])) 2265), (.str (Str.mk (Array.mk [116, 119, 111, 115])) 2266), (.str (Str.mk (Array.mk [110, 111, 117, 103, 104, 116, 115])) 2267), (.str (Str.mk (Array.mk [100, 117, 101])) 2268), (.str (Str.mk (Array.mk [115, 105, 122, 101])) 2269), (.str (Str.mk (Array.mk [116, 111, 116, 97, 108])) 2270), (.str (Str.mk (Array.mk [101, 109, 112, 116, 121])) 2271), (.str (Str.mk (Array.mk [102, 117, 108, 108])) 2272), (.str (Str.mk (Array.mk [100, 111, 117, 98, 108, 101])) 2273), (.str (Str.mk (Array.mk [119, 97, 121, 115])) 2274)]) 0) (Array.mk [])
def o115 (P : Params) : Obj := Obj.mk (.type "tuple") none (.seq (Array.mk []) 0) (Array.mk [])
def o116 (P : Params) : Obj := Obj.mk .none none (.func { name := (Str.mk (Array.mk [95, 108, 97, 119, 95, 100, 117, 101])), qualname := (Str.mk (Array.mk [95, 108, 97, 119, 95, 100, 117, 101])), params := defParams 13, body := .stmts (defBody 13), scope := defScope 13, globals := 0, closure := [], defaults := .none, kwdefaults := .none, doc := .none, pyModule := .none, annotations := none, code := .none, closureTuple := .none, builtins := 0 }) (Array.mk [])
def o117 (P : Params) : Obj := Obj.mk (.type "code") none (.fields (Array.mk [(.str (Str.mk (Array.mk [95, 108, 97, 119, 95, 100, 117, 101])) 2261), (.str (Str.mk (Array.mk [95, 108, 97, 119, 95, 100, 117, 101])) 2262), (.str (Str.mk (Array.mk [47, 99, 108, 97, 105, 109, 47, 99, 117, 116, 46, 112, 121])) 2263), (.int (Int.ofNat 47) 0), (.int (Int.ofNat 1) 0), (.int (Int.ofNat 0) 0), (.int (Int.ofNat 0) 0), (.int (Int.ofNat 3) 0), (.ref 112), (.bool true), (.int (Int.ofNat 181) 0), (.ref 113), .none, (.ref 114), (.ref 115), (.ref 116), (.int (Int.ofNat 2275) 0), (.int (Int.ofNat 47) 0), (.str (Str.mk (Array.mk [47, 99, 108, 97, 105, 109, 47, 99, 117, 116, 46, 112, 121])) 2276)])) (Array.mk [])
def o118 (P : Params) : Obj := Obj.mk (.type "function") none (.func { name := (Str.mk (Array.mk [95, 108, 97, 119, 95, 100, 117, 101])), qualname := (Str.mk (Array.mk [95, 108, 97, 119, 95, 100, 117, 101])), params := defParams 13, body := .stmts (defBody 13), scope := defScope 13, globals := 3, closure := [], defaults := .none, kwdefaults := .none, doc := .none, pyModule := (.str (Str.mk (Array.mk [108, 97, 119, 95, 112, 101, 48, 49, 57, 55, 95, 48, 49])) 2230), annotations := none, code := (.ref 117), closureTuple := .none, builtins := 0 }) (Array.mk [])
def o119 (P : Params) : Obj := Obj.mk (.type "tuple") none (.seq (Array.mk []) 0) (Array.mk [])
def o120 (P : Params) : Obj := Obj.mk .none none (.fields (Array.mk [])) (Array.mk [])
def o121 (P : Params) : Obj := Obj.mk .none none (.func { name := (Str.mk (Array.mk [108, 97, 119])), qualname := (Str.mk (Array.mk [108, 97, 119])), params := defParams 14, body := .stmts (defBody 14), scope := defScope 14, globals := 0, closure := [], defaults := .none, kwdefaults := .none, doc := .none, pyModule := .none, annotations := none, code := .none, closureTuple := .none, builtins := 0 }) (Array.mk [])
def o122 (P : Params) : Obj := Obj.mk (.type "code") none (.fields (Array.mk [(.str (Str.mk (Array.mk [108, 97, 119])) 2278), (.str (Str.mk (Array.mk [108, 97, 119])) 2279), (.str (Str.mk (Array.mk [47, 99, 108, 97, 105, 109, 47, 99, 117, 116, 46, 112, 121])) 2280), (.int (Int.ofNat 60) 0), (.int (Int.ofNat 1) 0), (.int (Int.ofNat 0) 0), (.int (Int.ofNat 0) 0), (.int (Int.ofNat 3) 0), (.ref 119), (.bool true), (.int (Int.ofNat 181) 0), (.ref 120), .none, .none, .none, (.ref 121), (.int (Int.ofNat 2281) 0), (.int (Int.ofNat 60) 0), (.str (Str.mk (Array.mk [47, 99, 108, 97, 105, 109, 47, 99, 117, 116, 46, 112, 121])) 2282)])) (Array.mk [])
def o123 (P : Params) : Obj := Obj.mk (.type "function") none (.func { name := (Str.mk (Array.mk [108, 97, 119])), qualname := (Str.mk (Array.mk [108, 97, 119])), params := defParams 14, body := .stmts (defBody 14), scope := defScope 14, globals := 3, closure := [], defaults := .none, kwdefaults := .none, doc := .none, pyModule := (.str (Str.mk (Array.mk [108, 97, 119, 95, 112, 101, 48, 49, 57, 55, 95, 48, 49])) 2230), annotations := none, code := (.ref 122), closureTuple := .none, builtins := 0 }) (Array.mk [])
def m0 (P : Params) : Obj := Obj.mk (.type "dict") none (.dict (Array.mk [(DictEntry.mk (PyData.keyHash P (Str.mk (Array.mk [95, 95, 110, 97, 109, 101, 95, 95]))) (.str (Str.mk (Array.mk [95, 95, 110, 97, 109, 101, 95, 95])) 165) (.str (Str.mk (Array.mk [95, 95, 109, 97, 105, 110, 95, 95])) 164)), (DictEntry.mk (PyData.keyHash P (Str.mk (Array.mk [95, 95, 100, 111, 99, 95, 95]))) (.str (Str.mk (Array.mk [95, 95, 100, 111, 99, 95, 95])) 166) .none), (DictEntry.mk (PyData.keyHash P (Str.mk (Array.mk [95, 95, 112, 97, 99, 107, 97, 103, 101, 95, 95]))) (.str (Str.mk (Array.mk [95, 95, 112, 97, 99, 107, 97, 103, 101, 95, 95])) 167) .none), (DictEntry.mk (PyData.keyHash P (Str.mk (Array.mk [95, 95, 108, 111, 97, 100, 101, 114, 95, 95]))) (.str (Str.mk (Array.mk [95, 95, 108, 111, 97, 100, 101, 114, 95, 95])) 168) (.builtin "__main__.__loader__#opaque")), (DictEntry.mk (PyData.keyHash P (Str.mk (Array.mk [95, 95, 115, 112, 101, 99, 95, 95]))) (.str (Str.mk (Array.mk [95, 95, 115, 112, 101, 99, 95, 95])) 169) .none), (DictEntry.mk (PyData.keyHash P (Str.mk (Array.mk [95, 95, 97, 110, 110, 111, 116, 97, 116, 105, 111, 110, 115, 95, 95]))) (.str (Str.mk (Array.mk [95, 95, 97, 110, 110, 111, 116, 97, 116, 105, 111, 110, 115, 95, 95])) 170) (.ref 6)), (DictEntry.mk (PyData.keyHash P (Str.mk (Array.mk [95, 95, 98, 117, 105, 108, 116, 105, 110, 115, 95, 95]))) (.str (Str.mk (Array.mk [95, 95, 98, 117, 105, 108, 116, 105, 110, 115, 95, 95])) 171) (.ref 4)), (DictEntry.mk (PyData.keyHash P (Str.mk (Array.mk [95, 95, 102, 105, 108, 101, 95, 95]))) (.str (Str.mk (Array.mk [95, 95, 102, 105, 108, 101, 95, 95])) 173) (.str (Str.mk (Array.mk [47, 99, 108, 97, 105, 109, 47, 99, 117, 116, 46, 112, 121])) 172)), (DictEntry.mk (PyData.keyHash P (Str.mk (Array.mk [95, 95, 99, 97, 99, 104, 101, 100, 95, 95]))) (.str (Str.mk (Array.mk [95, 95, 99, 97, 99, 104, 101, 100, 95, 95])) 174) .none)]) 9) (Array.mk [])
def c0 (P : Params) : Obj := Obj.mk .none none (.fields (Array.mk [])) (Array.mk [])
def m1 (P : Params) : Obj := Obj.mk (.type "dict") none (.dict (Array.mk [(DictEntry.mk (PyData.keyHash P (Str.mk (Array.mk [95, 95, 110, 97, 109, 101, 95, 95]))) (.str (Str.mk (Array.mk [95, 95, 110, 97, 109, 101, 95, 95])) 165) (.str (Str.mk (Array.mk [95, 95, 109, 97, 105, 110, 95, 95])) 164)), (DictEntry.mk (PyData.keyHash P (Str.mk (Array.mk [95, 95, 100, 111, 99, 95, 95]))) (.str (Str.mk (Array.mk [95, 95, 100, 111, 99, 95, 95])) 166) .none), (DictEntry.mk (PyData.keyHash P (Str.mk (Array.mk [95, 95, 112, 97, 99, 107, 97, 103, 101, 95, 95]))) (.str (Str.mk (Array.mk [95, 95, 112, 97, 99, 107, 97, 103, 101, 95, 95])) 167) .none), (DictEntry.mk (PyData.keyHash P (Str.mk (Array.mk [95, 95, 108, 111, 97, 100, 101, 114, 95, 95]))) (.str (Str.mk (Array.mk [95, 95, 108, 111, 97, 100, 101, 114, 95, 95])) 168) (.builtin "__main__.__loader__#opaque")), (DictEntry.mk (PyData.keyHash P (Str.mk (Array.mk [95, 95, 115, 112, 101, 99, 95, 95]))) (.str (Str.mk (Array.mk [95, 95, 115, 112, 101, 99, 95, 95])) 169) .none), (DictEntry.mk (PyData.keyHash P (Str.mk (Array.mk [95, 95, 97, 110, 110, 111, 116, 97, 116, 105, 111, 110, 115, 95, 95]))) (.str (Str.mk (Array.mk [95, 95, 97, 110, 110, 111, 116, 97, 116, 105, 111, 110, 115, 95, 95])) 170) (.ref 6)), (DictEntry.mk (PyData.keyHash P (Str.mk (Array.mk [95, 95, 98, 117, 105, 108, 116, 105, 110, 115, 95, 95]))) (.str (Str.mk (Array.mk [95, 95, 98, 117, 105, 108, 116, 105, 110, 115, 95, 95])) 171) (.ref 4)), (DictEntry.mk (PyData.keyHash P (Str.mk (Array.mk [95, 95, 102, 105, 108, 101, 95, 95]))) (.str (Str.mk (Array.mk [95, 95, 102, 105, 108, 101, 95, 95])) 173) (.str (Str.mk (Array.mk [47, 99, 108, 97, 105, 109, 47, 99, 117, 116, 46, 112, 121])) 172)), (DictEntry.mk (PyData.keyHash P (Str.mk (Array.mk [95, 95, 99, 97, 99, 104, 101, 100, 95, 95]))) (.str (Str.mk (Array.mk [95, 95, 99, 97, 99, 104, 101, 100, 95, 95])) 174) .none)]) 9) (Array.mk [])
def c1 (P : Params) : Obj := Obj.mk .none none (.fields (Array.mk [])) (Array.mk [])
def m2 (P : Params) : Obj := Obj.mk (.type "dict") none (.dict (Array.mk [(DictEntry.mk (PyData.keyHash P (Str.mk (Array.mk [95, 95, 110, 97, 109, 101, 95, 95]))) (.str (Str.mk (Array.mk [95, 95, 110, 97, 109, 101, 95, 95])) 165) (.str (Str.mk (Array.mk [99, 112, 121, 51, 49, 51, 46, 115, 116, 114, 105, 110, 103, 112, 114, 101, 112])) 187)), (DictEntry.mk (PyData.keyHash P (Str.mk (Array.mk [95, 95, 100, 111, 99, 95, 95]))) (.str (Str.mk (Array.mk [95, 95, 100, 111, 99, 95, 95])) 166) .none), (DictEntry.mk (PyData.keyHash P (Str.mk (Array.mk [95, 95, 112, 97, 99, 107, 97, 103, 101, 95, 95]))) (.str (Str.mk (Array.mk [95, 95, 112, 97, 99, 107, 97, 103, 101, 95, 95])) 167) .none), (DictEntry.mk (PyData.keyHash P (Str.mk (Array.mk [95, 95, 108, 111, 97, 100, 101, 114, 95, 95]))) (.str (Str.mk (Array.mk [95, 95, 108, 111, 97, 100, 101, 114, 95, 95])) 168) (.builtin "__main__.__loader__#opaque")), (DictEntry.mk (PyData.keyHash P (Str.mk (Array.mk [95, 95, 115, 112, 101, 99, 95, 95]))) (.str (Str.mk (Array.mk [95, 95, 115, 112, 101, 99, 95, 95])) 169) .none), (DictEntry.mk (PyData.keyHash P (Str.mk (Array.mk [95, 95, 97, 110, 110, 111, 116, 97, 116, 105, 111, 110, 115, 95, 95]))) (.str (Str.mk (Array.mk [95, 95, 97, 110, 110, 111, 116, 97, 116, 105, 111, 110, 115, 95, 95])) 170) (.ref 6)), (DictEntry.mk (PyData.keyHash P (Str.mk (Array.mk [95, 95, 98, 117, 105, 108, 116, 105, 110, 115, 95, 95]))) (.str (Str.mk (Array.mk [95, 95, 98, 117, 105, 108, 116, 105, 110, 115, 95, 95])) 171) (.ref 4)), (DictEntry.mk (PyData.keyHash P (Str.mk (Array.mk [95, 95, 102, 105, 108, 101, 95, 95]))) (.str (Str.mk (Array.mk [95, 95, 102, 105, 108, 101, 95, 95])) 173) (.str (Str.mk (Array.mk [47, 99, 108, 97, 105, 109, 47, 99, 117, 116, 46, 112, 121])) 172)), (DictEntry.mk (PyData.keyHash P (Str.mk (Array.mk [95, 95, 99, 97, 99, 104, 101, 100, 95, 95]))) (.str (Str.mk (Array.mk [95, 95, 99, 97, 99, 104, 101, 100, 95, 95])) 174) .none)]) 9) (Array.mk [])
def c2 (P : Params) : Obj := Obj.mk .none none (.fields (Array.mk [])) (Array.mk [])
def m3 (P : Params) : Obj := Obj.mk (.type "dict") none (.dict (Array.mk [(DictEntry.mk (PyData.keyHash P (Str.mk (Array.mk [95, 95, 110, 97, 109, 101, 95, 95]))) (.str (Str.mk (Array.mk [95, 95, 110, 97, 109, 101, 95, 95])) 165) (.str (Str.mk (Array.mk [99, 112, 121, 51, 49, 51, 46, 115, 116, 114, 105, 110, 103, 112, 114, 101, 112])) 187)), (DictEntry.mk (PyData.keyHash P (Str.mk (Array.mk [95, 95, 100, 111, 99, 95, 95]))) (.str (Str.mk (Array.mk [95, 95, 100, 111, 99, 95, 95])) 166) .none), (DictEntry.mk (PyData.keyHash P (Str.mk (Array.mk [95, 95, 112, 97, 99, 107, 97, 103, 101, 95, 95]))) (.str (Str.mk (Array.mk [95, 95, 112, 97, 99, 107, 97, 103, 101, 95, 95])) 167) .none), (DictEntry.mk (PyData.keyHash P (Str.mk (Array.mk [95, 95, 108, 111, 97, 100, 101, 114, 95, 95]))) (.str (Str.mk (Array.mk [95, 95, 108, 111, 97, 100, 101, 114, 95, 95])) 168) (.builtin "__main__.__loader__#opaque")), (DictEntry.mk (PyData.keyHash P (Str.mk (Array.mk [95, 95, 115, 112, 101, 99, 95, 95]))) (.str (Str.mk (Array.mk [95, 95, 115, 112, 101, 99, 95, 95])) 169) .none), (DictEntry.mk (PyData.keyHash P (Str.mk (Array.mk [95, 95, 97, 110, 110, 111, 116, 97, 116, 105, 111, 110, 115, 95, 95]))) (.str (Str.mk (Array.mk [95, 95, 97, 110, 110, 111, 116, 97, 116, 105, 111, 110, 115, 95, 95])) 170) (.ref 6)), (DictEntry.mk (PyData.keyHash P (Str.mk (Array.mk [95, 95, 98, 117, 105, 108, 116, 105, 110, 115, 95, 95]))) (.str (Str.mk (Array.mk [95, 95, 98, 117, 105, 108, 116, 105, 110, 115, 95, 95])) 171) (.ref 4)), (DictEntry.mk (PyData.keyHash P (Str.mk (Array.mk [95, 95, 102, 105, 108, 101, 95, 95]))) (.str (Str.mk (Array.mk [95, 95, 102, 105, 108, 101, 95, 95])) 173) (.str (Str.mk (Array.mk [47, 99, 108, 97, 105, 109, 47, 99, 117, 116, 46, 112, 121])) 172)), (DictEntry.mk (PyData.keyHash P (Str.mk (Array.mk [95, 95, 99, 97, 99, 104, 101, 100, 95, 95]))) (.str (Str.mk (Array.mk [95, 95, 99, 97, 99, 104, 101, 100, 95, 95])) 174) .none), (DictEntry.mk (PyData.keyHash P (Str.mk (Array.mk [98, 49, 95, 115, 101, 116]))) (.str (Str.mk (Array.mk [98, 49, 95, 115, 101, 116])) 248) (.ref 22))]) 10) (Array.mk [])
def c3 (P : Params) : Obj := Obj.mk .none none (.fields (Array.mk [])) (Array.mk [])
def m4 (P : Params) : Obj := Obj.mk (.type "dict") none (.dict (Array.mk [(DictEntry.mk (PyData.keyHash P (Str.mk (Array.mk [95, 95, 110, 97, 109, 101, 95, 95]))) (.str (Str.mk (Array.mk [95, 95, 110, 97, 109, 101, 95, 95])) 165) (.str (Str.mk (Array.mk [99, 112, 121, 51, 49, 51, 46, 115, 116, 114, 105, 110, 103, 112, 114, 101, 112])) 187)), (DictEntry.mk (PyData.keyHash P (Str.mk (Array.mk [95, 95, 100, 111, 99, 95, 95]))) (.str (Str.mk (Array.mk [95, 95, 100, 111, 99, 95, 95])) 166) .none), (DictEntry.mk (PyData.keyHash P (Str.mk (Array.mk [95, 95, 112, 97, 99, 107, 97, 103, 101, 95, 95]))) (.str (Str.mk (Array.mk [95, 95, 112, 97, 99, 107, 97, 103, 101, 95, 95])) 167) .none), (DictEntry.mk (PyData.keyHash P (Str.mk (Array.mk [95, 95, 108, 111, 97, 100, 101, 114, 95, 95]))) (.str (Str.mk (Array.mk [95, 95, 108, 111, 97, 100, 101, 114, 95, 95])) 168) (.builtin "__main__.__loader__#opaque")), (DictEntry.mk (PyData.keyHash P (Str.mk (Array.mk [95, 95, 115, 112, 101, 99, 95, 95]))) (.str (Str.mk (Array.mk [95, 95, 115, 112, 101, 99, 95, 95])) 169) .none), (DictEntry.mk (PyData.keyHash P (Str.mk (Array.mk [95, 95, 97, 110, 110, 111, 116, 97, 116, 105, 111, 110, 115, 95, 95]))) (.str (Str.mk (Array.mk [95, 95, 97, 110, 110, 111, 116, 97, 116, 105, 111, 110, 115, 95, 95])) 170) (.ref 6)), (DictEntry.mk (PyData.keyHash P (Str.mk (Array.mk [95, 95, 98, 117, 105, 108, 116, 105, 110, 115, 95, 95]))) (.str (Str.mk (Array.mk [95, 95, 98, 117, 105, 108, 116, 105, 110, 115, 95, 95])) 171) (.ref 4)), (DictEntry.mk (PyData.keyHash P (Str.mk (Array.mk [95, 95, 102, 105, 108, 101, 95, 95]))) (.str (Str.mk (Array.mk [95, 95, 102, 105, 108, 101, 95, 95])) 173) (.str (Str.mk (Array.mk [47, 99, 108, 97, 105, 109, 47, 99, 117, 116, 46, 112, 121])) 172)), (DictEntry.mk (PyData.keyHash P (Str.mk (Array.mk [95, 95, 99, 97, 99, 104, 101, 100, 95, 95]))) (.str (Str.mk (Array.mk [95, 95, 99, 97, 99, 104, 101, 100, 95, 95])) 174) .none), (DictEntry.mk (PyData.keyHash P (Str.mk (Array.mk [98, 49, 95, 115, 101, 116]))) (.str (Str.mk (Array.mk [98, 49, 95, 115, 101, 116])) 248) (.ref 22)), (DictEntry.mk (PyData.keyHash P (Str.mk (Array.mk [105, 110, 95, 116, 97, 98, 108, 101, 95, 98, 49]))) (.str (Str.mk (Array.mk [105, 110, 95, 116, 97, 98, 108, 101, 95, 98, 49])) 255) (.ref 32))]) 11) (Array.mk [])
def c4 (P : Params) : Obj := Obj.mk .none none (.fields (Array.mk [(.int (Int.ofNat 3) 0), (.int (Int.ofNat 0) 0), (.ref 31)])) (Array.mk [])
def m5 (P : Params) : Obj := Obj.mk (.type "dict") none (.dict (Array.mk [(DictEntry.mk (PyData.keyHash P (Str.mk (Array.mk [95, 95, 110, 97, 109, 101, 95, 95]))) (.str (Str.mk (Array.mk [95, 95, 110, 97, 109, 101, 95, 95])) 165) (.str (Str.mk (Array.mk [99, 112, 121, 51, 49, 51, 46, 115, 116, 114, 105, 110, 103, 112, 114, 101, 112])) 187)), (DictEntry.mk (PyData.keyHash P (Str.mk (Array.mk [95, 95, 100, 111, 99, 95, 95]))) (.str (Str.mk (Array.mk [95, 95, 100, 111, 99, 95, 95])) 166) .none), (DictEntry.mk (PyData.keyHash P (Str.mk (Array.mk [95, 95, 112, 97, 99, 107, 97, 103, 101, 95, 95]))) (.str (Str.mk (Array.mk [95, 95, 112, 97, 99, 107, 97, 103, 101, 95, 95])) 167) .none), (DictEntry.mk (PyData.keyHash P (Str.mk (Array.mk [95, 95, 108, 111, 97, 100, 101, 114, 95, 95]))) (.str (Str.mk (Array.mk [95, 95, 108, 111, 97, 100, 101, 114, 95, 95])) 168) (.builtin "__main__.__loader__#opaque")), (DictEntry.mk (PyData.keyHash P (Str.mk (Array.mk [95, 95, 115, 112, 101, 99, 95, 95]))) (.str (Str.mk (Array.mk [95, 95, 115, 112, 101, 99, 95, 95])) 169) .none), (DictEntry.mk (PyData.keyHash P (Str.mk (Array.mk [95, 95, 97, 110, 110, 111, 116, 97, 116, 105, 111, 110, 115, 95, 95]))) (.str (Str.mk (Array.mk [95, 95, 97, 110, 110, 111, 116, 97, 116, 105, 111, 110, 115, 95, 95])) 170) (.ref 6)), (DictEntry.mk (PyData.keyHash P (Str.mk (Array.mk [95, 95, 98, 117, 105, 108, 116, 105, 110, 115, 95, 95]))) (.str (Str.mk (Array.mk [95, 95, 98, 117, 105, 108, 116, 105, 110, 115, 95, 95])) 171) (.ref 4)), (DictEntry.mk (PyData.keyHash P (Str.mk (Array.mk [95, 95, 102, 105, 108, 101, 95, 95]))) (.str (Str.mk (Array.mk [95, 95, 102, 105, 108, 101, 95, 95])) 173) (.str (Str.mk (Array.mk [47, 99, 108, 97, 105, 109, 47, 99, 117, 116, 46, 112, 121])) 172)), (DictEntry.mk (PyData.keyHash P (Str.mk (Array.mk [95, 95, 99, 97, 99, 104, 101, 100, 95, 95]))) (.str (Str.mk (Array.mk [95, 95, 99, 97, 99, 104, 101, 100, 95, 95])) 174) .none), (DictEntry.mk (PyData.keyHash P (Str.mk (Array.mk [98, 49, 95, 115, 101, 116]))) (.str (Str.mk (Array.mk [98, 49, 95, 115, 101, 116])) 248) (.ref 22)), (DictEntry.mk (PyData.keyHash P (Str.mk (Array.mk [105, 110, 95, 116, 97, 98, 108, 101, 95, 98, 49]))) (.str (Str.mk (Array.mk [105, 110, 95, 116, 97, 98, 108, 101, 95, 98, 49])) 255) (.ref 32)), (DictEntry.mk (PyData.keyHash P (Str.mk (Array.mk [98, 51, 95, 101, 120, 99, 101, 112, 116, 105, 111, 110, 115]))) (.str (Str.mk (Array.mk [98, 51, 95, 101, 120, 99, 101, 112, 116, 105, 111, 110, 115])) 2206) (.ref 33))]) 12) (Array.mk [])
def c5 (P : Params) : Obj := Obj.mk .none none (.fields (Array.mk [(.int (Int.ofNat 3) 0), (.int (Int.ofNat 0) 0), (.ref 31)])) (Array.mk [])
def m6 (P : Params) : Obj := Obj.mk (.type "dict") none (.dict (Array.mk [(DictEntry.mk (PyData.keyHash P (Str.mk (Array.mk [95, 95, 110, 97, 109, 101, 95, 95]))) (.str (Str.mk (Array.mk [95, 95, 110, 97, 109, 101, 95, 95])) 165) (.str (Str.mk (Array.mk [99, 112, 121, 51, 49, 51, 46, 115, 116, 114, 105, 110, 103, 112, 114, 101, 112])) 187)), (DictEntry.mk (PyData.keyHash P (Str.mk (Array.mk [95, 95, 100, 111, 99, 95, 95]))) (.str (Str.mk (Array.mk [95, 95, 100, 111, 99, 95, 95])) 166) .none), (DictEntry.mk (PyData.keyHash P (Str.mk (Array.mk [95, 95, 112, 97, 99, 107, 97, 103, 101, 95, 95]))) (.str (Str.mk (Array.mk [95, 95, 112, 97, 99, 107, 97, 103, 101, 95, 95])) 167) .none), (DictEntry.mk (PyData.keyHash P (Str.mk (Array.mk [95, 95, 108, 111, 97, 100, 101, 114, 95, 95]))) (.str (Str.mk (Array.mk [95, 95, 108, 111, 97, 100, 101, 114, 95, 95])) 168) (.builtin "__main__.__loader__#opaque")), (DictEntry.mk (PyData.keyHash P (Str.mk (Array.mk [95, 95, 115, 112, 101, 99, 95, 95]))) (.str (Str.mk (Array.mk [95, 95, 115, 112, 101, 99, 95, 95])) 169) .none), (DictEntry.mk (PyData.keyHash P (Str.mk (Array.mk [95, 95, 97, 110, 110, 111, 116, 97, 116, 105, 111, 110, 115, 95, 95]))) (.str (Str.mk (Array.mk [95, 95, 97, 110, 110, 111, 116, 97, 116, 105, 111, 110, 115, 95, 95])) 170) (.ref 6)), (DictEntry.mk (PyData.keyHash P (Str.mk (Array.mk [95, 95, 98, 117, 105, 108, 116, 105, 110, 115, 95, 95]))) (.str (Str.mk (Array.mk [95, 95, 98, 117, 105, 108, 116, 105, 110, 115, 95, 95])) 171) (.ref 4)), (DictEntry.mk (PyData.keyHash P (Str.mk (Array.mk [95, 95, 102, 105, 108, 101, 95, 95]))) (.str (Str.mk (Array.mk [95, 95, 102, 105, 108, 101, 95, 95])) 173) (.str (Str.mk (Array.mk [47, 99, 108, 97, 105, 109, 47, 99, 117, 116, 46, 112, 121])) 172)), (DictEntry.mk (PyData.keyHash P (Str.mk (Array.mk [95, 95, 99, 97, 99, 104, 101, 100, 95, 95]))) (.str (Str.mk (Array.mk [95, 95, 99, 97, 99, 104, 101, 100, 95, 95])) 174) .none), (DictEntry.mk (PyData.keyHash P (Str.mk (Array.mk [98, 49, 95, 115, 101, 116]))) (.str (Str.mk (Array.mk [98, 49, 95, 115, 101, 116])) 248) (.ref 22)), (DictEntry.mk (PyData.keyHash P (Str.mk (Array.mk [105, 110, 95, 116, 97, 98, 108, 101, 95, 98, 49]))) (.str (Str.mk (Array.mk [105, 110, 95, 116, 97, 98, 108, 101, 95, 98, 49])) 255) (.ref 32)), (DictEntry.mk (PyData.keyHash P (Str.mk (Array.mk [98, 51, 95, 101, 120, 99, 101, 112, 116, 105, 111, 110, 115]))) (.str (Str.mk (Array.mk [98, 51, 95, 101, 120, 99, 101, 112, 116, 105, 111, 110, 115])) 2206) (.ref 33)), (DictEntry.mk (PyData.keyHash P (Str.mk (Array.mk [109, 97, 112, 95, 116, 97, 98, 108, 101, 95, 98, 51]))) (.str (Str.mk (Array.mk [109, 97, 112, 95, 116, 97, 98, 108, 101, 95, 98, 51])) 2214) (.ref 78))]) 13) (Array.mk [])
def c6 (P : Params) : Obj := Obj.mk .none none (.fields (Array.mk [(.int (Int.ofNat 3) 0), (.int (Int.ofNat 0) 0), (.ref 31), (.int (Int.ofNat 6) 0), (.int (Int.ofNat 0) 0), (.ref 77)])) (Array.mk [])
def m7 (P : Params) : Obj := Obj.mk (.type "dict") none (.dict (Array.mk [(DictEntry.mk (PyData.keyHash P (Str.mk (Array.mk [95, 95, 110, 97, 109, 101, 95, 95]))) (.str (Str.mk (Array.mk [95, 95, 110, 97, 109, 101, 95, 95])) 165) (.str (Str.mk (Array.mk [99, 112, 121, 51, 49, 51, 46, 102, 117, 110, 99, 116, 111, 111, 108, 115])) 2215)), (DictEntry.mk (PyData.keyHash P (Str.mk (Array.mk [95, 95, 100, 111, 99, 95, 95]))) (.str (Str.mk (Array.mk [95, 95, 100, 111, 99, 95, 95])) 166) .none), (DictEntry.mk (PyData.keyHash P (Str.mk (Array.mk [95, 95, 112, 97, 99, 107, 97, 103, 101, 95, 95]))) (.str (Str.mk (Array.mk [95, 95, 112, 97, 99, 107, 97, 103, 101, 95, 95])) 167) .none), (DictEntry.mk (PyData.keyHash P (Str.mk (Array.mk [95, 95, 108, 111, 97, 100, 101, 114, 95, 95]))) (.str (Str.mk (Array.mk [95, 95, 108, 111, 97, 100, 101, 114, 95, 95])) 168) (.builtin "__main__.__loader__#opaque")), (DictEntry.mk (PyData.keyHash P (Str.mk (Array.mk [95, 95, 115, 112, 101, 99, 95, 95]))) (.str (Str.mk (Array.mk [95, 95, 115, 112, 101, 99, 95, 95])) 169) .none), (DictEntry.mk (PyData.keyHash P (Str.mk (Array.mk [95, 95, 97, 110, 110, 111, 116, 97, 116, 105, 111, 110, 115, 95, 95]))) (.str (Str.mk (Array.mk [95, 95, 97, 110, 110, 111, 116, 97, 116, 105, 111, 110, 115, 95, 95])) 170) (.ref 6)), (DictEntry.mk (PyData.keyHash P (Str.mk (Array.mk [95, 95, 98, 117, 105, 108, 116, 105, 110, 115, 95, 95]))) (.str (Str.mk (Array.mk [95, 95, 98, 117, 105, 108, 116, 105, 110, 115, 95, 95])) 171) (.ref 4)), (DictEntry.mk (PyData.keyHash P (Str.mk (Array.mk [95, 95, 102, 105, 108, 101, 95, 95]))) (.str (Str.mk (Array.mk [95, 95, 102, 105, 108, 101, 95, 95])) 173) (.str (Str.mk (Array.mk [47, 99, 108, 97, 105, 109, 47, 99, 117, 116, 46, 112, 121])) 172)), (DictEntry.mk (PyData.keyHash P (Str.mk (Array.mk [95, 95, 99, 97, 99, 104, 101, 100, 95, 95]))) (.str (Str.mk (Array.mk [95, 95, 99, 97, 99, 104, 101, 100, 95, 95])) 174) .none), (DictEntry.mk (PyData.keyHash P (Str.mk (Array.mk [98, 49, 95, 115, 101, 116]))) (.str (Str.mk (Array.mk [98, 49, 95, 115, 101, 116])) 248) (.ref 22)), (DictEntry.mk (PyData.keyHash P (Str.mk (Array.mk [105, 110, 95, 116, 97, 98, 108, 101, 95, 98, 49]))) (.str (Str.mk (Array.mk [105, 110, 95, 116, 97, 98, 108, 101, 95, 98, 49])) 255) (.ref 32)), (DictEntry.mk (PyData.keyHash P (Str.mk (Array.mk [98, 51, 95, 101, 120, 99, 101, 112, 116, 105, 111, 110, 115]))) (.str (Str.mk (Array.mk [98, 51, 95, 101, 120, 99, 101, 112, 116, 105, 111, 110, 115])) 2206) (.ref 33)), (DictEntry.mk (PyData.keyHash P (Str.mk (Array.mk [109, 97, 112, 95, 116, 97, 98, 108, 101, 95, 98, 51]))) (.str (Str.mk (Array.mk [109, 97, 112, 95, 116, 97, 98, 108, 101, 95, 98, 51])) 2214) (.ref 78))]) 13) (Array.mk [])
def c7 (P : Params) : Obj := Obj.mk .none none (.fields (Array.mk [(.int (Int.ofNat 3) 0), (.int (Int.ofNat 0) 0), (.ref 31), (.int (Int.ofNat 6) 0), (.int (Int.ofNat 0) 0), (.ref 77)])) (Array.mk [])
def m8 (P : Params) : Obj := Obj.mk (.type "dict") none (.dict (Array.mk [(DictEntry.mk (PyData.keyHash P (Str.mk (Array.mk [95, 95, 110, 97, 109, 101, 95, 95]))) (.str (Str.mk (Array.mk [95, 95, 110, 97, 109, 101, 95, 95])) 165) (.str (Str.mk (Array.mk [99, 112, 121, 51, 49, 51, 46, 102, 117, 110, 99, 116, 111, 111, 108, 115])) 2215)), (DictEntry.mk (PyData.keyHash P (Str.mk (Array.mk [95, 95, 100, 111, 99, 95, 95]))) (.str (Str.mk (Array.mk [95, 95, 100, 111, 99, 95, 95])) 166) .none), (DictEntry.mk (PyData.keyHash P (Str.mk (Array.mk [95, 95, 112, 97, 99, 107, 97, 103, 101, 95, 95]))) (.str (Str.mk (Array.mk [95, 95, 112, 97, 99, 107, 97, 103, 101, 95, 95])) 167) .none), (DictEntry.mk (PyData.keyHash P (Str.mk (Array.mk [95, 95, 108, 111, 97, 100, 101, 114, 95, 95]))) (.str (Str.mk (Array.mk [95, 95, 108, 111, 97, 100, 101, 114, 95, 95])) 168) (.builtin "__main__.__loader__#opaque")), (DictEntry.mk (PyData.keyHash P (Str.mk (Array.mk [95, 95, 115, 112, 101, 99, 95, 95]))) (.str (Str.mk (Array.mk [95, 95, 115, 112, 101, 99, 95, 95])) 169) .none), (DictEntry.mk (PyData.keyHash P (Str.mk (Array.mk [95, 95, 97, 110, 110, 111, 116, 97, 116, 105, 111, 110, 115, 95, 95]))) (.str (Str.mk (Array.mk [95, 95, 97, 110, 110, 111, 116, 97, 116, 105, 111, 110, 115, 95, 95])) 170) (.ref 6)), (DictEntry.mk (PyData.keyHash P (Str.mk (Array.mk [95, 95, 98, 117, 105, 108, 116, 105, 110, 115, 95, 95]))) (.str (Str.mk (Array.mk [95, 95, 98, 117, 105, 108, 116, 105, 110, 115, 95, 95])) 171) (.ref 4)), (DictEntry.mk (PyData.keyHash P (Str.mk (Array.mk [95, 95, 102, 105, 108, 101, 95, 95]))) (.str (Str.mk (Array.mk [95, 95, 102, 105, 108, 101, 95, 95])) 173) (.str (Str.mk (Array.mk [47, 99, 108, 97, 105, 109, 47, 99, 117, 116, 46, 112, 121])) 172)), (DictEntry.mk (PyData.keyHash P (Str.mk (Array.mk [95, 95, 99, 97, 99, 104, 101, 100, 95, 95]))) (.str (Str.mk (Array.mk [95, 95, 99, 97, 99, 104, 101, 100, 95, 95])) 174) .none), (DictEntry.mk (PyData.keyHash P (Str.mk (Array.mk [98, 49, 95, 115, 101, 116]))) (.str (Str.mk (Array.mk [98, 49, 95, 115, 101, 116])) 248) (.ref 22)), (DictEntry.mk (PyData.keyHash P (Str.mk (Array.mk [105, 110, 95, 116, 97, 98, 108, 101, 95, 98, 49]))) (.str (Str.mk (Array.mk [105, 110, 95, 116, 97, 98, 108, 101, 95, 98, 49])) 255) (.ref 32)), (DictEntry.mk (PyData.keyHash P (Str.mk (Array.mk [98, 51, 95, 101, 120, 99, 101, 112, 116, 105, 111, 110, 115]))) (.str (Str.mk (Array.mk [98, 51, 95, 101, 120, 99, 101, 112, 116, 105, 111, 110, 115])) 2206) (.ref 33)), (DictEntry.mk (PyData.keyHash P (Str.mk (Array.mk [109, 97, 112, 95, 116, 97, 98, 108, 101, 95, 98, 51]))) (.str (Str.mk (Array.mk [109, 97, 112, 95, 116, 97, 98, 108, 101, 95, 98, 51])) 2214) (.ref 78)), (DictEntry.mk (PyData.keyHash P (Str.mk (Array.mk [95, 105, 110, 105, 116, 105, 97, 108, 95, 109, 105, 115, 115, 105, 110, 103]))) (.str (Str.mk (Array.mk [95, 105, 110, 105, 116, 105, 97, 108, 95, 109, 105, 115, 115, 105, 110, 103])) 2217) (.ref 79))]) 14) (Array.mk [])
def c8 (P : Params) : Obj := Obj.mk .none none (.fields (Array.mk [(.int (Int.ofNat 3) 0), (.int (Int.ofNat 0) 0), (.ref 31), (.int (Int.ofNat 6) 0), (.int (Int.ofNat 0) 0), (.ref 77)])) (Array.mk [])
def m9 (P : Params) : Obj := Obj.mk (.type "dict") none (.dict (Array.mk [(DictEntry.mk (PyData.keyHash P (Str.mk (Array.mk [95, 95, 110, 97, 109, 101, 95, 95]))) (.str (Str.mk (Array.mk [95, 95, 110, 97, 109, 101, 95, 95])) 165) (.str (Str.mk (Array.mk [99, 112, 121, 51, 49, 51, 46, 102, 117, 110, 99, 116, 111, 111, 108, 115])) 2215)), (DictEntry.mk (PyData.keyHash P (Str.mk (Array.mk [95, 95, 100, 111, 99, 95, 95]))) (.str (Str.mk (Array.mk [95, 95, 100, 111, 99, 95, 95])) 166) .none), (DictEntry.mk (PyData.keyHash P (Str.mk (Array.mk [95, 95, 112, 97, 99, 107, 97, 103, 101, 95, 95]))) (.str (Str.mk (Array.mk [95, 95, 112, 97, 99, 107, 97, 103, 101, 95, 95])) 167) .none), (DictEntry.mk (PyData.keyHash P (Str.mk (Array.mk [95, 95, 108, 111, 97, 100, 101, 114, 95, 95]))) (.str (Str.mk (Array.mk [95, 95, 108, 111, 97, 100, 101, 114, 95, 95])) 168) (.builtin "__main__.__loader__#opaque")), (DictEntry.mk (PyData.keyHash P (Str.mk (Array.mk [95, 95, 115, 112, 101, 99, 95, 95]))) (.str (Str.mk (Array.mk [95, 95, 115, 112, 101, 99, 95, 95])) 169) .none), (DictEntry.mk (PyData.keyHash P (Str.mk (Array.mk [95, 95, 97, 110, 110, 111, 116, 97, 116, 105, 111, 110, 115, 95, 95]))) (.str (Str.mk (Array.mk [95, 95, 97, 110, 110, 111, 116, 97, 116, 105, 111, 110, 115, 95, 95])) 170) (.ref 6)), (DictEntry.mk (PyData.keyHash P (Str.mk (Array.mk [95, 95, 98, 117, 105, 108, 116, 105, 110, 115, 95, 95]))) (.str (Str.mk (Array.mk [95, 95, 98, 117, 105, 108, 116, 105, 110, 115, 95, 95])) 171) (.ref 4)), (DictEntry.mk (PyData.keyHash P (Str.mk (Array.mk [95, 95, 102, 105, 108, 101, 95, 95]))) (.str (Str.mk (Array.mk [95, 95, 102, 105, 108, 101, 95, 95])) 173) (.str (Str.mk (Array.mk [47, 99, 108, 97, 105, 109, 47, 99, 117, 116, 46, 112, 121])) 172)), (DictEntry.mk (PyData.keyHash P (Str.mk (Array.mk [95, 95, 99, 97, 99, 104, 101, 100, 95, 95]))) (.str (Str.mk (Array.mk [95, 95, 99, 97, 99, 104, 101, 100, 95, 95])) 174) .none), (DictEntry.mk (PyData.keyHash P (Str.mk (Array.mk [98, 49, 95, 115, 101, 116]))) (.str (Str.mk (Array.mk [98, 49, 95, 115, 101, 116])) 248) (.ref 22)), (DictEntry.mk (PyData.keyHash P (Str.mk (Array.mk [105, 110, 95, 116, 97, 98, 108, 101, 95, 98, 49]))) (.str (Str.mk (Array.mk [105, 110, 95, 116, 97, 98, 108, 101, 95, 98, 49])) 255) (.ref 32)), (DictEntry.mk (PyData.keyHash P (Str.mk (Array.mk [98, 51, 95, 101, 120, 99, 101, 112, 116, 105, 111, 110, 115]))) (.str (Str.mk (Array.mk [98, 51, 95, 101, 120, 99, 101, 112, 116, 105, 111, 110, 115])) 2206) (.ref 33)), (DictEntry.mk (PyData.keyHash P (Str.mk (Array.mk [109, 97, 112, 95, 116, 97, 98, 108, 101, 95, 98, 51]))) (.str (Str.mk (Array.mk [109, 97, 112, 95, 116, 97, 98, 108, 101, 95, 98, 51])) 2214) (.ref 78)), (DictEntry.mk (PyData.keyHash P (Str.mk (Array.mk [95, 105, 110, 105, 116, 105, 97, 108, 95, 109, 105, 115, 115, 105, 110, 103]))) (.str (Str.mk (Array.mk [95, 105, 110, 105, 116, 105, 97, 108, 95, 109, 105, 115, 115, 105, 110, 103])) 2217) (.ref 79)), (DictEntry.mk (PyData.keyHash P (Str.mk (Array.mk [114, 101, 100, 117, 99, 101]))) (.str (Str.mk (Array.mk [114, 101, 100, 117, 99, 101])) 2229) (.ref 87))]) 15) (Array.mk [])
def c9 (P : Params) : Obj := Obj.mk .none none (.fields (Array.mk [(.int (Int.ofNat 3) 0), (.int (Int.ofNat 0) 0), (.ref 31), (.int (Int.ofNat 6) 0), (.int (Int.ofNat 0) 0), (.ref 77), (.int (Int.ofNat 13) 0), (.int (Int.ofNat 0) 0), (.ref 86)])) (Array.mk [])
def m10 (P : Params) : Obj := Obj.mk (.type "dict") none (.dict (Array.mk [(DictEntry.mk (PyData.keyHash P (Str.mk (Array.mk [95, 95, 110, 97, 109, 101, 95, 95]))) (.str (Str.mk (Array.mk [95, 95, 110, 97, 109, 101, 95, 95])) 165) (.str (Str.mk (Array.mk [108, 97, 119, 95, 112, 101, 48, 49, 57, 55, 95, 48, 49])) 2230)), (DictEntry.mk (PyData.keyHash P (Str.mk (Array.mk [95, 95, 100, 111, 99, 95, 95]))) (.str (Str.mk (Array.mk [95, 95, 100, 111, 99, 95, 95])) 166) .none), (DictEntry.mk (PyData.keyHash P (Str.mk (Array.mk [95, 95, 112, 97, 99, 107, 97, 103, 101, 95, 95]))) (.str (Str.mk (Array.mk [95, 95, 112, 97, 99, 107, 97, 103, 101, 95, 95])) 167) .none), (DictEntry.mk (PyData.keyHash P (Str.mk (Array.mk [95, 95, 108, 111, 97, 100, 101, 114, 95, 95]))) (.str (Str.mk (Array.mk [95, 95, 108, 111, 97, 100, 101, 114, 95, 95])) 168) (.builtin "__main__.__loader__#opaque")), (DictEntry.mk (PyData.keyHash P (Str.mk (Array.mk [95, 95, 115, 112, 101, 99, 95, 95]))) (.str (Str.mk (Array.mk [95, 95, 115, 112, 101, 99, 95, 95])) 169) .none), (DictEntry.mk (PyData.keyHash P (Str.mk (Array.mk [95, 95, 97, 110, 110, 111, 116, 97, 116, 105, 111, 110, 115, 95, 95]))) (.str (Str.mk (Array.mk [95, 95, 97, 110, 110, 111, 116, 97, 116, 105, 111, 110, 115, 95, 95])) 170) (.ref 6)), (DictEntry.mk (PyData.keyHash P (Str.mk (Array.mk [95, 95, 98, 117, 105, 108, 116, 105, 110, 115, 95, 95]))) (.str (Str.mk (Array.mk [95, 95, 98, 117, 105, 108, 116, 105, 110, 115, 95, 95])) 171) (.ref 4)), (DictEntry.mk (PyData.keyHash P (Str.mk (Array.mk [95, 95, 102, 105, 108, 101, 95, 95]))) (.str (Str.mk (Array.mk [95, 95, 102, 105, 108, 101, 95, 95])) 173) (.str (Str.mk (Array.mk [47, 99, 108, 97, 105, 109, 47, 99, 117, 116, 46, 112, 121])) 172)), (DictEntry.mk (PyData.keyHash P (Str.mk (Array.mk [95, 95, 99, 97, 99, 104, 101, 100, 95, 95]))) (.str (Str.mk (Array.mk [95, 95, 99, 97, 99, 104, 101, 100, 95, 95])) 174) .none), (DictEntry.mk (PyData.keyHash P (Str.mk (Array.mk [98, 49, 95, 115, 101, 116]))) (.str (Str.mk (Array.mk [98, 49, 95, 115, 101, 116])) 248) (.ref 22)), (DictEntry.mk (PyData.keyHash P (Str.mk (Array.mk [105, 110, 95, 116, 97, 98, 108, 101, 95, 98, 49]))) (.str (Str.mk (Array.mk [105, 110, 95, 116, 97, 98, 108, 101, 95, 98, 49])) 255) (.ref 32)), (DictEntry.mk (PyData.keyHash P (Str.mk (Array.mk [98, 51, 95, 101, 120, 99, 101, 112, 116, 105, 111, 110, 115]))) (.str (Str.mk (Array.mk [98, 51, 95, 101, 120, 99, 101, 112, 116, 105, 111, 110, 115])) 2206) (.ref 33)), (DictEntry.mk (PyData.keyHash P (Str.mk (Array.mk [109, 97, 112, 95, 116, 97, 98, 108, 101, 95, 98, 51]))) (.str (Str.mk (Array.mk [109, 97, 112, 95, 116, 97, 98, 108, 101, 95, 98, 51])) 2214) (.ref 78)), (DictEntry.mk (PyData.keyHash P (Str.mk (Array.mk [95, 105, 110, 105, 116, 105, 97, 108, 95, 109, 105, 115, 115, 105, 110, 103]))) (.str (Str.mk (Array.mk [95, 105, 110, 105, 116, 105, 97, 108, 95, 109, 105, 115, 115, 105, 110, 103])) 2217) (.ref 79)), (DictEntry.mk (PyData.keyHash P (Str.mk (Array.mk [114, 101, 100, 117, 99, 101]))) (.str (Str.mk (Array.mk [114, 101, 100, 117, 99, 101])) 2229) (.ref 87))]) 15) (Array.mk [])
def c10 (P : Params) : Obj := Obj.mk .none none (.fields (Array.mk [(.int (Int.ofNat 3) 0), (.int (Int.ofNat 0) 0), (.ref 31), (.int (Int.ofNat 6) 0), (.int (Int.ofNat 0) 0), (.ref 77), (.int (Int.ofNat 13) 0), (.int (Int.ofNat 0) 0), (.ref 86)])) (Array.mk [])
def m11 (P : Params) : Obj := Obj.mk (.type "dict") none (.dict (Array.mk [(DictEntry.mk (PyData.keyHash P (Str.mk (Array.mk [95, 95, 110, 97, 109, 101, 95, 95]))) (.str (Str.mk (Array.mk [95, 95, 110, 97, 109, 101, 95, 95])) 165) (.str (Str.mk (Array.mk [108, 97, 119, 95, 112, 101, 48, 49, 57, 55, 95, 48, 49])) 2230)), (DictEntry.mk (PyData.keyHash P (Str.mk (Array.mk [95, 95, 100, 111, 99, 95, 95]))) (.str (Str.mk (Array.mk [95, 95, 100, 111, 99, 95, 95])) 166) .none), (DictEntry.mk (PyData.keyHash P (Str.mk (Array.mk [95, 95, 112, 97, 99, 107, 97, 103, 101, 95, 95]))) (.str (Str.mk (Array.mk [95, 95, 112, 97, 99, 107, 97, 103, 101, 95, 95])) 167) .none), (DictEntry.mk (PyData.keyHash P (Str.mk (Array.mk [95, 95, 108, 111, 97, 100, 101, 114, 95, 95]))) (.str (Str.mk (Array.mk [95, 95, 108, 111, 97, 100, 101, 114, 95, 95])) 168) (.builtin "__main__.__loader__#opaque")), (DictEntry.mk (PyData.keyHash P (Str.mk (Array.mk [95, 95, 115, 112, 101, 99, 95, 95]))) (.str (Str.mk (Array.mk [95, 95, 115, 112, 101, 99, 95, 95])) 169) .none), (DictEntry.mk (PyData.keyHash P (Str.mk (Array.mk [95, 95, 97, 110, 110, 111, 116, 97, 116, 105, 111, 110, 115, 95, 95]))) (.str (Str.mk (Array.mk [95, 95, 97, 110, 110, 111, 116, 97, 116, 105, 111, 110, 115, 95, 95])) 170) (.ref 6)), (DictEntry.mk (PyData.keyHash P (Str.mk (Array.mk [95, 95, 98, 117, 105, 108, 116, 105, 110, 115, 95, 95]))) (.str (Str.mk (Array.mk [95, 95, 98, 117, 105, 108, 116, 105, 110, 115, 95, 95])) 171) (.ref 4)), (DictEntry.mk (PyData.keyHash P (Str.mk (Array.mk [95, 95, 102, 105, 108, 101, 95, 95]))) (.str (Str.mk (Array.mk [95, 95, 102, 105, 108, 101, 95, 95])) 173) (.str (Str.mk (Array.mk [47, 99, 108, 97, 105, 109, 47, 99, 117, 116, 46, 112, 121])) 172)), (DictEntry.mk (PyData.keyHash P (Str.mk (Array.mk [95, 95, 99, 97, 99, 104, 101, 100, 95, 95]))) (.str (Str.mk (Array.mk [95, 95, 99, 97, 99, 104, 101, 100, 95, 95])) 174) .none), (DictEntry.mk (PyData.keyHash P (Str.mk (Array.mk [98, 49, 95, 115, 101, 116]))) (.str (Str.mk (Array.mk [98, 49, 95, 115, 101, 116])) 248) (.ref 22)), (DictEntry.mk (PyData.keyHash P (Str.mk (Array.mk [105, 110, 95, 116, 97, 98, 108, 101, 95, 98, 49]))) (.str (Str.mk (Array.mk [105, 110, 95, 116, 97, 98, 108, 101, 95, 98, 49])) 255) (.ref 32)), (DictEntry.mk (PyData.keyHash P (Str.mk (Array.mk [98, 51, 95, 101, 120, 99, 101, 112, 116, 105, 111, 110, 115]))) (.str (Str.mk (Array.mk [98, 51, 95, 101, 120, 99, 101, 112, 116, 105, 111, 110, 115])) 2206) (.ref 33)), (DictEntry.mk (PyData.keyHash P (Str.mk (Array.mk [109, 97, 112, 95, 116, 97, 98, 108, 101, 95, 98, 51]))) (.str (Str.mk (Array.mk [109, 97, 112, 95, 116, 97, 98, 108, 101, 95, 98, 51])) 2214) (.ref 78)), (DictEntry.mk (PyData.keyHash P (Str.mk (Array.mk [95, 105, 110, 105, 116, 105, 97, 108, 95, 109, 105, 115, 115, 105, 110, 103]))) (.str (Str.mk (Array.mk [95, 105, 110, 105, 116, 105, 97, 108, 95, 109, 105, 115, 115, 105, 110, 103])) 2217) (.ref 79)), (DictEntry.mk (PyData.keyHash P (Str.mk (Array.mk [114, 101, 100, 117, 99, 101]))) (.str (Str.mk (Array.mk [114, 101, 100, 117, 99, 101])) 2229) (.ref 87)), (DictEntry.mk (PyData.keyHash P (Str.mk (Array.mk [95, 108, 97, 119, 95, 115, 104, 111, 112]))) (.str (Str.mk (Array.mk [95, 108, 97, 119, 95, 115, 104, 111, 112])) 2237) (.ref 92))]) 16) (Array.mk [])
def c11 (P : Params) : Obj := Obj.mk .none none (.fields (Array.mk [(.int (Int.ofNat 3) 0), (.int (Int.ofNat 0) 0), (.ref 31), (.int (Int.ofNat 6) 0), (.int (Int.ofNat 0) 0), (.ref 77), (.int (Int.ofNat 13) 0), (.int (Int.ofNat 0) 0), (.ref 86), (.int (Int.ofNat 26) 0), (.int (Int.ofNat 0) 0), (.ref 91)])) (Array.mk [])
def m12 (P : Params) : Obj := Obj.mk (.type "dict") none (.dict (Array.mk [(DictEntry.mk (PyData.keyHash P (Str.mk (Array.mk [95, 95, 110, 97, 109, 101, 95, 95]))) (.str (Str.mk (Array.mk [95, 95, 110, 97, 109, 101, 95, 95])) 165) (.str (Str.mk (Array.mk [108, 97, 119, 95, 112, 101, 48, 49, 57, 55, 95, 48, 49])) 2230)), (DictEntry.mk (PyData.keyHash P (Str.mk (Array.mk [95, 95, 100, 111, 99, 95, 95]))) (.str (Str.mk (Array.mk [95, 95, 100, 111, 99, 95, 95])) 166) .none), (DictEntry.mk (PyData.keyHash P (Str.mk (Array.mk [95, 95, 112, 97, 99, 107, 97, 103, 101, 95, 95]))) (.str (Str.mk (Array.mk [95, 95, 112, 97, 99, 107, 97, 103, 101, 95, 95])) 167) .none), (DictEntry.mk (PyData.keyHash P (Str.mk (Array.mk [95, 95, 108, 111, 97, 100, 101, 114, 95, 95]))) (.str (Str.mk (Array.mk [95, 95, 108, 111, 97, 100, 101, 114, 95, 95])) 168) (.builtin "__main__.__loader__#opaque")), (DictEntry.mk (PyData.keyHash P (Str.mk (Array.mk [95, 95, 115, 112, 101, 99, 95, 95]))) (.str (Str.mk (Array.mk [95, 95, 115, 112, 101, 99, 95, 95])) 169) .none), (DictEntry.mk (PyData.keyHash P (Str.mk (Array.mk [95, 95, 97, 110, 110, 111, 116, 97, 116, 105, 111, 110, 115, 95, 95]))) (.str (Str.mk (Array.mk [95, 95, 97, 110, 110, 111, 116, 97, 116, 105, 111, 110, 115, 95, 95])) 170) (.ref 6)), (DictEntry.mk (PyData.keyHash P (Str.mk (Array.mk [95, 95, 98, 117, 105, 108, 116, 105, 110, 115, 95, 95]))) (.str (Str.mk (Array.mk [95, 95, 98, 117, 105, 108, 116, 105, 110, 115, 95, 95])) 171) (.ref 4)), (DictEntry.mk (PyData.keyHash P (Str.mk (Array.mk [95, 95, 102, 105, 108, 101, 95, 95]))) (.str (Str.mk (Array.mk [95, 95, 102, 105, 108, 101, 95, 95])) 173) (.str (Str.mk (Array.mk [47, 99, 108, 97, 105, 109, 47, 99, 117, 116, 46, 112, 121])) 172)), (DictEntry.mk (PyData.keyHash P (Str.mk (Array.mk [95, 95, 99, 97, 99, 104, 101, 100, 95, 95]))) (.str (Str.mk (Array.mk [95, 95, 99, 97, 99, 104, 101, 100, 95, 95])) 174) .none), (DictEntry.mk (PyData.keyHash P (Str.mk (Array.mk [98, 49, 95, 115, 101, 116]))) (.str (Str.mk (Array.mk [98, 49, 95, 115, 101, 116])) 248) (.ref 22)), (DictEntry.mk (PyData.keyHash P (Str.mk (Array.mk [105, 110, 95, 116, 97, 98, 108, 101, 95, 98, 49]))) (.str (Str.mk (Array.mk [105, 110, 95, 116, 97, 98, 108, 101, 95, 98, 49])) 255) (.ref 32)), (DictEntry.mk (PyData.keyHash P (Str.mk (Array.mk [98, 51, 95, 101, 120, 99, 101, 112, 116, 105, 111, 110, 115]))) (.str (Str.mk (Array.mk [98, 51, 95, 101, 120, 99, 101, 112, 116, 105, 111, 110, 115])) 2206) (.ref 33)), (DictEntry.mk (PyData.keyHash P (Str.mk (Array.mk [109, 97, 112, 95, 116, 97, 98, 108, 101, 95, 98, 51]))) (.str (Str.mk (Array.mk [109, 97, 112, 95, 116, 97, 98, 108, 101, 95, 98, 51])) 2214) (.ref 78)), (DictEntry.mk (PyData.keyHash P (Str.mk (Array.mk [95, 105, 110, 105, 116, 105, 97, 108, 95, 109, 105, 115, 115, 105, 110, 103]))) (.str (Str.mk (Array.mk [95, 105, 110, 105, 116, 105, 97, 108, 95, 109, 105, 115, 115, 105, 110, 103])) 2217) (.ref 79)), (DictEntry.mk (PyData.keyHash P (Str.mk (Array.mk [114, 101, 100, 117, 99, 101]))) (.str (Str.mk (Array.mk [114, 101, 100, 117, 99, 101])) 2229) (.ref 87)), (DictEntry.mk (PyData.keyHash P (Str.mk (Array.mk [95, 108, 97, 119, 95, 115, 104, 111, 112]))) (.str (Str.mk (Array.mk [95, 108, 97, 119, 95, 115, 104, 111, 112])) 2237) (.ref 92)), (DictEntry.mk (PyData.keyHash P (Str.mk (Array.mk [95, 108, 97, 119, 95, 112, 114, 101, 112, 97, 114, 101, 100]))) (.str (Str.mk (Array.mk [95, 108, 97, 119, 95, 112, 114, 101, 112, 97, 114, 101, 100])) 2244) (.ref 99))]) 17) (Array.mk [])
def c12 (P : Params) : Obj := Obj.mk .none none (.fields (Array.mk [(.int (Int.ofNat 3) 0), (.int (Int.ofNat 0) 0), (.ref 31), (.int (Int.ofNat 6) 0), (.int (Int.ofNat 0) 0), (.ref 77), (.int (Int.ofNat 13) 0), (.int (Int.ofNat 0) 0), (.ref 86), (.int (Int.ofNat 26) 0), (.int (Int.ofNat 0) 0), (.ref 91), (.int (Int.ofNat 32) 0), (.int (Int.ofNat 0) 0), (.ref 98)])) (Array.mk [])
def m13 (P : Params) : Obj := Obj.mk (.type "dict") none (.dict (Array.mk [(DictEntry.mk (PyData.keyHash P (Str.mk (Array.mk [95, 95, 110, 97, 109, 101, 95, 95]))) (.str (Str.mk (Array.mk [95, 95, 110, 97, 109, 101, 95, 95])) 165) (.str (Str.mk (Array.mk [108, 97, 119, 95, 112, 101, 48, 49, 57, 55, 95, 48, 49])) 2230)), (DictEntry.mk (PyData.keyHash P (Str.mk (Array.mk [95, 95, 100, 111, 99, 95, 95]))) (.str (Str.mk (Array.mk [95, 95, 100, 111, 99, 95, 95])) 166) .none), (DictEntry.mk (PyData.keyHash P (Str.mk (Array.mk [95, 95, 112, 97, 99, 107, 97, 103, 101, 95, 95]))) (.str (Str.mk (Array.mk [95, 95, 112, 97, 99, 107, 97, 103, 101, 95, 95])) 167) .none), (DictEntry.mk (PyData.keyHash P (Str.mk (Array.mk [95, 95, 108, 111, 97, 100, 101, 114, 95, 95]))) (.str (Str.mk (Array.mk [95, 95, 108, 111, 97, 100, 101, 114, 95, 95])) 168) (.builtin "__main__.__loader__#opaque")), (DictEntry.mk (PyData.keyHash P (Str.mk (Array.mk [95, 95, 115, 112, 101, 99, 95, 95]))) (.str (Str.mk (Array.mk [95, 95, 115, 112, 101, 99, 95, 95])) 169) .none), (DictEntry.mk (PyData.keyHash P (Str.mk (Array.mk [95, 95, 97, 110, 110, 111, 116, 97, 116, 105, 111, 110, 115, 95, 95]))) (.str (Str.mk (Array.mk [95, 95, 97, 110, 110, 111, 116, 97, 116, 105, 111, 110, 115, 95, 95])) 170) (.ref 6)), (DictEntry.mk (PyData.keyHash P (Str.mk (Array.mk [95, 95, 98, 117, 105, 108, 116, 105, 110, 115, 95, 95]))) (.str (Str.mk (Array.mk [95, 95, 98, 117, 105, 108, 116, 105, 110, 115, 95, 95])) 171) (.ref 4)), (DictEntry.mk (PyData.keyHash P (Str.mk (Array.mk [95, 95, 102, 105, 108, 101, 95, 95]))) (.str (Str.mk (Array.mk [95, 95, 102, 105, 108, 101, 95, 95])) 173) (.str (Str.mk (Array.mk [47, 99, 108, 97, 105, 109, 47, 99, 117, 116, 46, 112, 121])) 172)), (DictEntry.mk (PyData.keyHash P (Str.mk (Array.mk [95, 95, 99, 97, 99, 104, 101, 100, 95, 95]))) (.str (Str.mk (Array.mk [95, 95, 99, 97, 99, 104, 101, 100, 95, 95])) 174) .none), (DictEntry.mk (PyData.keyHash P (Str.mk (Array.mk [98, 49, 95, 115, 101, 116]))) (.str (Str.mk (Array.mk [98, 49, 95, 115, 101, 116])) 248) (.ref 22)), (DictEntry.mk (PyData.keyHash P (Str.mk (Array.mk [105, 110, 95, 116, 97, 98, 108, 101, 95, 98, 49]))) (.str (Str.mk (Array.mk [105, 110, 95, 116, 97, 98, 108, 101, 95, 98, 49])) 255) (.ref 32)), (DictEntry.mk (PyData.keyHash P (Str.mk (Array.mk [98, 51, 95, 101, 120, 99, 101, 112, 116, 105, 111, 110, 115]))) (.str (Str.mk (Array.mk [98, 51, 95, 101, 120, 99, 101, 112, 116, 105, 111, 110, 115])) 2206) (.ref 33)), (DictEntry.mk (PyData.keyHash P (Str.mk (Array.mk [109, 97, 112, 95, 116, 97, 98, 108, 101, 95, 98, 51]))) (.str (Str.mk (Array.mk [109, 97, 112, 95, 116, 97, 98, 108, 101, 95, 98, 51])) 2214) (.ref 78)), (DictEntry.mk (PyData.keyHash P (Str.mk (Array.mk [95, 105, 110, 105, 116, 105, 97, 108, 95, 109, 105, 115, 115, 105, 110, 103]))) (.str (Str.mk (Array.mk [95, 105, 110, 105, 116, 105, 97, 108, 95, 109, 105, 115, 115, 105, 110, 103])) 2217) (.ref 79)), (DictEntry.mk (PyData.keyHash P (Str.mk (Array.mk [114, 101, 100, 117, 99, 101]))) (.str (Str.mk (Array.mk [114, 101, 100, 117, 99, 101])) 2229) (.ref 87)), (DictEntry.mk (PyData.keyHash P (Str.mk (Array.mk [95, 108, 97, 119, 95, 115, 104, 111, 112]))) (.str (Str.mk (Array.mk [95, 108, 97, 119, 95, 115, 104, 111, 112])) 2237) (.ref 92)), (DictEntry.mk (PyData.keyHash P (Str.mk (Array.mk [95, 108, 97, 119, 95, 112, 114, 101, 112, 97, 114, 101, 100]))) (.str (Str.mk (Array.mk [95, 108, 97, 119, 95, 112, 114, 101, 112, 97, 114, 101, 100])) 2244) (.ref 99)), (DictEntry.mk (PyData.keyHash P (Str.mk (Array.mk [95, 108, 97, 119, 95, 116, 111, 108, 100]))) (.str (Str.mk (Array.mk [95, 108, 97, 119, 95, 116, 111, 108, 100])) 2250) (.ref 104))]) 18) (Array.mk [])
def c13 (P : Params) : Obj := Obj.mk .none none (.fields (Array.mk [(.int (Int.ofNat 3) 0), (.int (Int.ofNat 0) 0), (.ref 31), (.int (Int.ofNat 6) 0), (.int (Int.ofNat 0) 0), (.ref 77), (.int (Int.ofNat 13) 0), (.int (Int.ofNat 0) 0), (.ref 86), (.int (Int.ofNat 26) 0), (.int (Int.ofNat 0) 0), (.ref 91), (.int (Int.ofNat 32) 0), (.int (Int.ofNat 0) 0), (.ref 98), (.int (Int.ofNat 34) 0), (.int (Int.ofNat 0) 0), (.ref 103)])) (Array.mk [])
def m14 (P : Params) : Obj := Obj.mk (.type "dict") none (.dict (Array.mk [(DictEntry.mk (PyData.keyHash P (Str.mk (Array.mk [95, 95, 110, 97, 109, 101, 95, 95]))) (.str (Str.mk (Array.mk [95, 95, 110, 97, 109, 101, 95, 95])) 165) (.str (Str.mk (Array.mk [108, 97, 119, 95, 112, 101, 48, 49, 57, 55, 95, 48, 49])) 2230)), (DictEntry.mk (PyData.keyHash P (Str.mk (Array.mk [95, 95, 100, 111, 99, 95, 95]))) (.str (Str.mk (Array.mk [95, 95, 100, 111, 99, 95, 95])) 166) .none), (DictEntry.mk (PyData.keyHash P (Str.mk (Array.mk [95, 95, 112, 97, 99, 107, 97, 103, 101, 95, 95]))) (.str (Str.mk (Array.mk [95, 95, 112, 97, 99, 107, 97, 103, 101, 95, 95])) 167) .none), (DictEntry.mk (PyData.keyHash P (Str.mk (Array.mk [95, 95, 108, 111, 97, 100, 101, 114, 95, 95]))) (.str (Str.mk (Array.mk [95, 95, 108, 111, 97, 100, 101, 114, 95, 95])) 168) (.builtin "__main__.__loader__#opaque")), (DictEntry.mk (PyData.keyHash P (Str.mk (Array.mk [95, 95, 115, 112, 101, 99, 95, 95]))) (.str (Str.mk (Array.mk [95, 95, 115, 112, 101, 99, 95, 95])) 169) .none), (DictEntry.mk (PyData.keyHash P (Str.mk (Array.mk [95, 95, 97, 110, 110, 111, 116, 97, 116, 105, 111, 110, 115, 95, 95]))) (.str (Str.mk (Array.mk [95, 95, 97, 110, 110, 111, 116, 97, 116, 105, 111, 110, 115, 95, 95])) 170) (.ref 6)), (DictEntry.mk (PyData.keyHash P (Str.mk (Array.mk [95, 95, 98, 117, 105, 108, 116, 105, 110, 115, 95, 95]))) (.str (Str.mk (Array.mk [95, 95, 98, 117, 105, 108, 116, 105, 110, 115, 95, 95])) 171) (.ref 4)), (DictEntry.mk (PyData.keyHash P (Str.mk (Array.mk [95, 95, 102, 105, 108, 101, 95, 95]))) (.str (Str.mk (Array.mk [95, 95, 102, 105, 108, 101, 95, 95])) 173) (.str (Str.mk (Array.mk [47, 99, 108, 97, 105, 109, 47, 99, 117, 116, 46, 112, 121])) 172)), (DictEntry.mk (PyData.keyHash P (Str.mk (Array.mk [95, 95, 99, 97, 99, 104, 101, 100, 95, 95]))) (.str (Str.mk (Array.mk [95, 95, 99, 97, 99, 104, 101, 100, 95, 95])) 174) .none), (DictEntry.mk (PyData.keyHash P (Str.mk (Array.mk [98, 49, 95, 115, 101, 116]))) (.str (Str.mk (Array.mk [98, 49, 95, 115, 101, 116])) 248) (.ref 22)), (DictEntry.mk (PyData.keyHash P (Str.mk (Array.mk [105, 110, 95, 116, 97, 98, 108, 101, 95, 98, 49]))) (.str (Str.mk (Array.mk [105, 110, 95, 116, 97, 98, 108, 101, 95, 98, 49])) 255) (.ref 32)), (DictEntry.mk (PyData.keyHash P (Str.mk (Array.mk [98, 51, 95, 101, 120, 99, 101, 112, 116, 105, 111, 110, 115]))) (.str (Str.mk (Array.mk [98, 51, 95, 101, 120, 99, 101, 112, 116, 105, 111, 110, 115])) 2206) (.ref 33)), (DictEntry.mk (PyData.keyHash P (Str.mk (Array.mk [109, 97, 112, 95, 116, 97, 98, 108, 101, 95, 98, 51]))) (.str (Str.mk (Array.mk [109, 97, 112, 95, 116, 97, 98, 108, 101, 95, 98, 51])) 2214) (.ref 78)), (DictEntry.mk (PyData.keyHash P (Str.mk (Array.mk [95, 105, 110, 105, 116, 105, 97, 108, 95, 109, 105, 115, 115, 105, 110, 103]))) (.str (Str.mk (Array.mk [95, 105, 110, 105, 116, 105, 97, 108, 95, 109, 105, 115, 115, 105, 110, 103])) 2217) (.ref 79)), (DictEntry.mk (PyData.keyHash P (Str.mk (Array.mk [114, 101, 100, 117, 99, 101]))) (.str (Str.mk (Array.mk [114, 101, 100, 117, 99, 101])) 2229) (.ref 87)), (DictEntry.mk (PyData.keyHash P (Str.mk (Array.mk [95, 108, 97, 119, 95, 115, 104, 111, 112]))) (.str (Str.mk (Array.mk [95, 108, 97, 119, 95, 115, 104, 111, 112])) 2237) (.ref 92)), (DictEntry.mk (PyData.keyHash P (Str.mk (Array.mk [95, 108, 97, 119, 95, 112, 114, 101, 112, 97, 114, 101, 100]))) (.str (Str.mk (Array.mk [95, 108, 97, 119, 95, 112, 114, 101, 112, 97, 114, 101, 100])) 2244) (.ref 99)), (DictEntry.mk (PyData.keyHash P (Str.mk (Array.mk [95, 108, 97, 119, 95, 116, 111, 108, 100]))) (.str (Str.mk (Array.mk [95, 108, 97, 119, 95, 116, 111, 108, 100])) 2250) (.ref 104)), (DictEntry.mk (PyData.keyHash P (Str.mk (Array.mk [95, 108, 97, 119, 95, 99, 104, 111, 111, 115, 101]))) (.str (Str.mk (Array.mk [95, 108, 97, 119, 95, 99, 104, 111, 111, 115, 101])) 2260) (.ref 111))]) 19) (Array.mk [])
def c14 (P : Params) : Obj := Obj.mk .none none (.fields (Array.mk [(.int (Int.ofNat 3) 0), (.int (Int.ofNat 0) 0), (.ref 31), (.int (Int.ofNat 6) 0), (.int (Int.ofNat 0) 0), (.ref 77), (.int (Int.ofNat 13) 0), (.int (Int.ofNat 0) 0), (.ref 86), (.int (Int.ofNat 26) 0), (.int (Int.ofNat 0) 0), (.ref 91), (.int (Int.ofNat 32) 0), (.int (Int.ofNat 0) 0), (.ref 98), (.int (Int.ofNat 34) 0), (.int (Int.ofNat 0) 0), (.ref 103), (.int (Int.ofNat 42) 0), (.int (Int.ofNat 0) 0), (.ref 110)])) (Array.mk [])
def m15 (P : Params) : Obj := Obj.mk (.type "dict") none (.dict (Array.mk [(DictEntry.mk (PyData.keyHash P (Str.mk (Array.mk [95, 95, 110, 97, 109, 101, 95, 95]))) (.str (Str.mk (Array.mk [95, 95, 110, 97, 109, 101, 95, 95])) 165) (.str (Str.mk (Array.mk [108, 97, 119, 95, 112, 101, 48, 49, 57, 55, 95, 48, 49])) 2230)), (DictEntry.mk (PyData.keyHash P (Str.mk (Array.mk [95, 95, 100, 111, 99, 95, 95]))) (.str (Str.mk (Array.mk [95, 95, 100, 111, 99, 95, 95])) 166) .none), (DictEntry.mk (PyData.keyHash P (Str.mk (Array.mk [95, 95, 112, 97, 99, 107, 97, 103, 101, 95, 95]))) (.str (Str.mk (Array.mk [95, 95, 112, 97, 99, 107, 97, 103, 101, 95, 95])) 167) .none), (DictEntry.mk (PyData.keyHash P (Str.mk (Array.mk [95, 95, 108, 111, 97, 100, 101, 114, 95, 95]))) (.str (Str.mk (Array.mk [95, 95, 108, 111, 97, 100, 101, 114, 95, 95])) 168) (.builtin "__main__.__loader__#opaque")), (DictEntry.mk (PyData.keyHash P (Str.mk (Array.mk [95, 95, 115, 112, 101, 99, 95, 95]))) (.str (Str.mk (Array.mk [95, 95, 115, 112, 101, 99, 95, 95])) 169) .none), (DictEntry.mk (PyData.keyHash P (Str.mk (Array.mk [95, 95, 97, 110, 110, 111, 116, 97, 116, 105, 111, 110, 115, 95, 95]))) (.str (Str.mk (Array.mk [95, 95, 97, 110, 110, 111, 116, 97, 116, 105, 111, 110, 115, 95, 95])) 170) (.ref 6)), (DictEntry.mk (PyData.keyHash P (Str.mk (Array.mk [95, 95, 98, 117, 105, 108, 116, 105, 110, 115, 95, 95]))) (.str (Str.mk (Array.mk [95, 95, 98, 117, 105, 108, 116, 105, 110, 115, 95, 95])) 171) (.ref 4)), (DictEntry.mk (PyData.keyHash P (Str.mk (Array.mk [95, 95, 102, 105, 108, 101, 95, 95]))) (.str (Str.mk (Array.mk [95, 95, 102, 105, 108, 101, 95, 95])) 173) (.str (Str.mk (Array.mk [47, 99, 108, 97, 105, 109, 47, 99, 117, 116, 46, 112, 121])) 172)), (DictEntry.mk (PyData.keyHash P (Str.mk (Array.mk [95, 95, 99, 97, 99, 104, 101, 100, 95, 95]))) (.str (Str.mk (Array.mk [95, 95, 99, 97, 99, 104, 101, 100, 95, 95])) 174) .none), (DictEntry.mk (PyData.keyHash P (Str.mk (Array.mk [98, 49, 95, 115, 101, 116]))) (.str (Str.mk (Array.mk [98, 49, 95, 115, 101, 116])) 248) (.ref 22)), (DictEntry.mk (PyData.keyHash P (Str.mk (Array.mk [105, 110, 95, 116, 97, 98, 108, 101, 95, 98, 49]))) (.str (Str.mk (Array.mk [105, 110, 95, 116, 97, 98, 108, 101, 95, 98, 49])) 255) (.ref 32)), (DictEntry.mk (PyData.keyHash P (Str.mk (Array.mk [98, 51, 95, 101, 120, 99, 101, 112, 116, 105, 111, 110, 115]))) (.str (Str.mk (Array.mk [98, 51, 95, 101, 120, 99, 101, 112, 116, 105, 111, 110, 115])) 2206) (.ref 33)), (DictEntry.mk (PyData.keyHash P (Str.mk (Array.mk [109, 97, 112, 95, 116, 97, 98, 108, 101, 95, 98, 51]))) (.str (Str.mk (Array.mk [109, 97, 112, 95, 116, 97, 98, 108, 101, 95, 98, 51])) 2214) (.ref 78)), (DictEntry.mk (PyData.keyHash P (Str.mk (Array.mk [95, 105, 110, 105, 116, 105, 97, 108, 95, 109, 105, 115, 115, 105, 110, 103]))) (.str (Str.mk (Array.mk [95, 105, 110, 105, 116, 105, 97, 108, 95, 109, 105, 115, 115, 105, 110, 103])) 2217) (.ref 79)), (DictEntry.mk (PyData.keyHash P (Str.mk (Array.mk [114, 101, 100, 117, 99, 101]))) (.str (Str.mk (Array.mk [114, 101, 100, 117, 99, 101])) 2229) (.ref 87)), (DictEntry.mk (PyData.keyHash P (Str.mk (Array.mk [95, 108, 97, 119, 95, 115, 104, 111, 112]))) (.str (Str.mk (Array.mk [95, 108, 97, 119, 95, 115, 104, 111, 112])) 2237) (.ref 92)), (DictEntry.mk (PyData.keyHash P (Str.mk (Array.mk [95, 108, 97, 119, 95, 112, 114, 101, 112, 97, 114, 101, 100]))) (.str (Str.mk (Array.mk [95, 108, 97, 119, 95, 112, 114, 101, 112, 97, 114, 101, 100])) 2244) (.ref 99)), (DictEntry.mk (PyData.keyHash P (Str.mk (Array.mk [95, 108, 97, 119, 95, 116, 111, 108, 100]))) (.str (Str.mk (Array.mk [95, 108, 97, 119, 95, 116, 111, 108, 100])) 2250) (.ref 104)), (DictEntry.mk (PyData.keyHash P (Str.mk (Array.mk [95, 108, 97, 119, 95, 99, 104, 111, 111, 115, 101]))) (.str (Str.mk (Array.mk [95, 108, 97, 119, 95, 99, 104, 111, 111, 115, 101])) 2260) (.ref 111)), (DictEntry.mk (PyData.keyHash P (Str.mk (Array.mk [95, 108, 97, 119, 95, 100, 117, 101]))) (.str (Str.mk (Array.mk [95, 108, 97, 119, 95, 100, 117, 101])) 2277) (.ref 118))]) 20) (Array.mk [])
def c15 (P : Params) : Obj := Obj.mk .none none (.fields (Array.mk [(.int (Int.ofNat 3) 0), (.int (Int.ofNat 0) 0), (.ref 31), (.int (Int.ofNat 6) 0), (.int (Int.ofNat 0) 0), (.ref 77), (.int (Int.ofNat 13) 0), (.int (Int.ofNat 0) 0), (.ref 86), (.int (Int.ofNat 26) 0), (.int (Int.ofNat 0) 0), (.ref 91), (.int (Int.ofNat 32) 0), (.int (Int.ofNat 0) 0), (.ref 98), (.int (Int.ofNat 34) 0), (.int (Int.ofNat 0) 0), (.ref 103), (.int (Int.ofNat 42) 0), (.int (Int.ofNat 0) 0), (.ref 110), (.int (Int.ofNat 47) 0), (.int (Int.ofNat 0) 0), (.ref 117)])) (Array.mk [])
def m16 (P : Params) : Obj := Obj.mk (.type "dict") none (.dict (Array.mk [(DictEntry.mk (PyData.keyHash P (Str.mk (Array.mk [95, 95, 110, 97, 109, 101, 95, 95]))) (.str (Str.mk (Array.mk [95, 95, 110, 97, 109, 101, 95, 95])) 165) (.str (Str.mk (Array.mk [108, 97, 119, 95, 112, 101, 48, 49, 57, 55, 95, 48, 49])) 2230)), (DictEntry.mk (PyData.keyHash P (Str.mk (Array.mk [95, 95, 100, 111, 99, 95, 95]))) (.str (Str.mk (Array.mk [95, 95, 100, 111, 99, 95, 95])) 166) .none), (DictEntry.mk (PyData.keyHash P (Str.mk (Array.mk [95, 95, 112, 97, 99, 107, 97, 103, 101, 95, 95]))) (.str (Str.mk (Array.mk [95, 95, 112, 97, 99, 107, 97, 103, 101, 95, 95])) 167) .none), (DictEntry.mk (PyData.keyHash P (Str.mk (Array.mk [95, 95, 108, 111, 97, 100, 101, 114, 95, 95]))) (.str (Str.mk (Array.mk [95, 95, 108, 111, 97, 100, 101, 114, 95, 95])) 168) (.builtin "__main__.__loader__#opaque")), (DictEntry.mk (PyData.keyHash P (Str.mk (Array.mk [95, 95, 115, 112, 101, 99, 95, 95]))) (.str (Str.mk (Array.mk [95, 95, 115, 112, 101, 99, 95, 95])) 169) .none), (DictEntry.mk (PyData.keyHash P (Str.mk (Array.mk [95, 95, 97, 110, 110, 111, 116, 97, 116, 105, 111, 110, 115, 95, 95]))) (.str (Str.mk (Array.mk [95, 95, 97, 110, 110, 111, 116, 97, 116, 105, 111, 110, 115, 95, 95])) 170) (.ref 6)), (DictEntry.mk (PyData.keyHash P (Str.mk (Array.mk [95, 95, 98, 117, 105, 108, 116, 105, 110, 115, 95, 95]))) (.str (Str.mk (Array.mk [95, 95, 98, 117, 105, 108, 116, 105, 110, 115, 95, 95])) 171) (.ref 4)), (DictEntry.mk (PyData.keyHash P (Str.mk (Array.mk [95, 95, 102, 105, 108, 101, 95, 95]))) (.str (Str.mk (Array.mk [95, 95, 102, 105, 108, 101, 95, 95])) 173) (.str (Str.mk (Array.mk [47, 99, 108, 97, 105, 109, 47, 99, 117, 116, 46, 112, 121])) 172)), (DictEntry.mk (PyData.keyHash P (Str.mk (Array.mk [95, 95, 99, 97, 99, 104, 101, 100, 95, 95]))) (.str (Str.mk (Array.mk [95, 95, 99, 97, 99, 104, 101, 100, 95, 95])) 174) .none), (DictEntry.mk (PyData.keyHash P (Str.mk (Array.mk [98, 49, 95, 115, 101, 116]))) (.str (Str.mk (Array.mk [98, 49, 95, 115, 101, 116])) 248) (.ref 22)), (DictEntry.mk (PyData.keyHash P (Str.mk (Array.mk [105, 110, 95, 116, 97, 98, 108, 101, 95, 98, 49]))) (.str (Str.mk (Array.mk [105, 110, 95, 116, 97, 98, 108, 101, 95, 98, 49])) 255) (.ref 32)), (DictEntry.mk (PyData.keyHash P (Str.mk (Array.mk [98, 51, 95, 101, 120, 99, 101, 112, 116, 105, 111, 110, 115]))) (.str (Str.mk (Array.mk [98, 51, 95, 101, 120, 99, 101, 112, 116, 105, 111, 110, 115])) 2206) (.ref 33)), (DictEntry.mk (PyData.keyHash P (Str.mk (Array.mk [109, 97, 112, 95, 116, 97, 98, 108, 101, 95, 98, 51]))) (.str (Str.mk (Array.mk [109, 97, 112, 95, 116, 97, 98, 108, 101, 95, 98, 51])) 2214) (.ref 78)), (DictEntry.mk (PyData.keyHash P (Str.mk (Array.mk [95, 105, 110, 105, 116, 105, 97, 108, 95, 109, 105, 115, 115, 105, 110, 103]))) (.str (Str.mk (Array.mk [95, 105, 110, 105, 116, 105, 97, 108, 95, 109, 105, 115, 115, 105, 110, 103])) 2217) (.ref 79)), (DictEntry.mk (PyData.keyHash P (Str.mk (Array.mk [114, 101, 100, 117, 99, 101]))) (.str (Str.mk (Array.mk [114, 101, 100, 117, 99, 101])) 2229) (.ref 87)), (DictEntry.mk (PyData.keyHash P (Str.mk (Array.mk [95, 108, 97, 119, 95, 115, 104, 111, 112]))) (.str (Str.mk (Array.mk [95, 108, 97, 119, 95, 115, 104, 111, 112])) 2237) (.ref 92)), (DictEntry.mk (PyData.keyHash P (Str.mk (Array.mk [95, 108, 97, 119, 95, 112, 114, 101, 112, 97, 114, 101, 100]))) (.str (Str.mk (Array.mk [95, 108, 97, 119, 95, 112, 114, 101, 112, 97, 114, 101, 100])) 2244) (.ref 99)), (DictEntry.mk (PyData.keyHash P (Str.mk (Array.mk [95, 108, 97, 119, 95, 116, 111, 108, 100]))) (.str (Str.mk (Array.mk [95, 108, 97, 119, 95, 116, 111, 108, 100])) 2250) (.ref 104)), (DictEntry.mk (PyData.keyHash P (Str.mk (Array.mk [95, 108, 97, 119, 95, 99, 104, 111, 111, 115, 101]))) (.str (Str.mk (Array.mk [95, 108, 97, 119, 95, 99, 104, 111, 111, 115, 101])) 2260) (.ref 111)), (DictEntry.mk (PyData.keyHash P (Str.mk (Array.mk [95, 108, 97, 119, 95, 100, 117, 101]))) (.str (Str.mk (Array.mk [95, 108, 97, 119, 95, 100, 117, 101])) 2277) (.ref 118)), (DictEntry.mk (PyData.keyHash P (Str.mk (Array.mk [108, 97, 119]))) (.str (Str.mk (Array.mk [108, 97, 119])) 2283) (.ref 123))]) 21) (Array.mk [])
def c16 (P : Params) : Obj := Obj.mk .none none (.fields (Array.mk [(.int (Int.ofNat 3) 0), (.int (Int.ofNat 0) 0), (.ref 31), (.int (Int.ofNat 6) 0), (.int (Int.ofNat 0) 0), (.ref 77), (.int (Int.ofNat 13) 0), (.int (Int.ofNat 0) 0), (.ref 86), (.int (Int.ofNat 26) 0), (.int (Int.ofNat 0) 0), (.ref 91), (.int (Int.ofNat 32) 0), (.int (Int.ofNat 0) 0), (.ref 98), (.int (Int.ofNat 34) 0), (.int (Int.ofNat 0) 0), (.ref 103), (.int (Int.ofNat 42) 0), (.int (Int.ofNat 0) 0), (.ref 110), (.int (Int.ofNat 47) 0), (.int (Int.ofNat 0) 0), (.ref 117), (.int (Int.ofNat 60) 0), (.int (Int.ofNat 0) 0), (.ref 122)])) (Array.mk [])
def m17 (P : Params) : Obj := Obj.mk (.type "dict") none (.dict (Array.mk [(DictEntry.mk (PyData.keyHash P (Str.mk (Array.mk [95, 95, 110, 97, 109, 101, 95, 95]))) (.str (Str.mk (Array.mk [95, 95, 110, 97, 109, 101, 95, 95])) 165) (.str (Str.mk (Array.mk [108, 97, 119, 95, 112, 101, 48, 49, 57, 55, 95, 48, 49])) 2230)), (DictEntry.mk (PyData.keyHash P (Str.mk (Array.mk [95, 95, 100, 111, 99, 95, 95]))) (.str (Str.mk (Array.mk [95, 95, 100, 111, 99, 95, 95])) 166) .none), (DictEntry.mk (PyData.keyHash P (Str.mk (Array.mk [95, 95, 112, 97, 99, 107, 97, 103, 101, 95, 95]))) (.str (Str.mk (Array.mk [95, 95, 112, 97, 99, 107, 97, 103, 101, 95, 95])) 167) .none), (DictEntry.mk (PyData.keyHash P (Str.mk (Array.mk [95, 95, 108, 111, 97, 100, 101, 114, 95, 95]))) (.str (Str.mk (Array.mk [95, 95, 108, 111, 97, 100, 101, 114, 95, 95])) 168) (.builtin "__main__.__loader__#opaque")), (DictEntry.mk (PyData.keyHash P (Str.mk (Array.mk [95, 95, 115, 112, 101, 99, 95, 95]))) (.str (Str.mk (Array.mk [95, 95, 115, 112, 101, 99, 95, 95])) 169) .none), (DictEntry.mk (PyData.keyHash P (Str.mk (Array.mk [95, 95, 97, 110, 110, 111, 116, 97, 116, 105, 111, 110, 115, 95, 95]))) (.str (Str.mk (Array.mk [95, 95, 97, 110, 110, 111, 116, 97, 116, 105, 111, 110, 115, 95, 95])) 170) (.ref 6)), (DictEntry.mk (PyData.keyHash P (Str.mk (Array.mk [95, 95, 98, 117, 105, 108, 116, 105, 110, 115, 95, 95]))) (.str (Str.mk (Array.mk [95, 95, 98, 117, 105, 108, 116, 105, 110, 115, 95, 95])) 171) (.ref 4)), (DictEntry.mk (PyData.keyHash P (Str.mk (Array.mk [95, 95, 102, 105, 108, 101, 95, 95]))) (.str (Str.mk (Array.mk [95, 95, 102, 105, 108, 101, 95, 95])) 173) (.str (Str.mk (Array.mk [47, 99, 108, 97, 105, 109, 47, 99, 117, 116, 46, 112, 121])) 172)), (DictEntry.mk (PyData.keyHash P (Str.mk (Array.mk [95, 95, 99, 97, 99, 104, 101, 100, 95, 95]))) (.str (Str.mk (Array.mk [95, 95, 99, 97, 99, 104, 101, 100, 95, 95])) 174) .none), (DictEntry.mk (PyData.keyHash P (Str.mk (Array.mk [98, 49, 95, 115, 101, 116]))) (.str (Str.mk (Array.mk [98, 49, 95, 115, 101, 116])) 248) (.ref 22)), (DictEntry.mk (PyData.keyHash P (Str.mk (Array.mk [105, 110, 95, 116, 97, 98, 108, 101, 95, 98, 49]))) (.str (Str.mk (Array.mk [105, 110, 95, 116, 97, 98, 108, 101, 95, 98, 49])) 255) (.ref 32)), (DictEntry.mk (PyData.keyHash P (Str.mk (Array.mk [98, 51, 95, 101, 120, 99, 101, 112, 116, 105, 111, 110, 115]))) (.str (Str.mk (Array.mk [98, 51, 95, 101, 120, 99, 101, 112, 116, 105, 111, 110, 115])) 2206) (.ref 33)), (DictEntry.mk (PyData.keyHash P (Str.mk (Array.mk [109, 97, 112, 95, 116, 97, 98, 108, 101, 95, 98, 51]))) (.str (Str.mk (Array.mk [109, 97, 112, 95, 116, 97, 98, 108, 101, 95, 98, 51])) 2214) (.ref 78)), (DictEntry.mk (PyData.keyHash P (Str.mk (Array.mk [95, 105, 110, 105, 116, 105, 97, 108, 95, 109, 105, 115, 115, 105, 110, 103]))) (.str (Str.mk (Array.mk [95, 105, 110, 105, 116, 105, 97, 108, 95, 109, 105, 115, 115, 105, 110, 103])) 2217) (.ref 79)), (DictEntry.mk (PyData.keyHash P (Str.mk (Array.mk [114, 101, 100, 117, 99, 101]))) (.str (Str.mk (Array.mk [114, 101, 100, 117, 99, 101])) 2229) (.ref 87)), (DictEntry.mk (PyData.keyHash P (Str.mk (Array.mk [95, 108, 97, 119, 95, 115, 104, 111, 112]))) (.str (Str.mk (Array.mk [95, 108, 97, 119, 95, 115, 104, 111, 112])) 2237) (.ref 92)), (DictEntry.mk (PyData.keyHash P (Str.mk (Array.mk [95, 108, 97, 119, 95, 112, 114, 101, 112, 97, 114, 101, 100]))) (.str (Str.mk (Array.mk [95, 108, 97, 119, 95, 112, 114, 101, 112, 97, 114, 101, 100])) 2244) (.ref 99)), (DictEntry.mk (PyData.keyHash P (Str.mk (Array.mk [95, 108, 97, 119, 95, 116, 111, 108, 100]))) (.str (Str.mk (Array.mk [95, 108, 97, 119, 95, 116, 111, 108, 100])) 2250) (.ref 104)), (DictEntry.mk (PyData.keyHash P (Str.mk (Array.mk [95, 108, 97, 119, 95, 99, 104, 111, 111, 115, 101]))) (.str (Str.mk (Array.mk [95, 108, 97, 119, 95, 99, 104, 111, 111, 115, 101])) 2260) (.ref 111)), (DictEntry.mk (PyData.keyHash P (Str.mk (Array.mk [95, 108, 97, 119, 95, 100, 117, 101]))) (.str (Str.mk (Array.mk [95, 108, 97, 119, 95, 100, 117, 101])) 2277) (.ref 118)), (DictEntry.mk (PyData.keyHash P (Str.mk (Array.mk [108, 97, 119]))) (.str (Str.mk (Array.mk [108, 97, 119])) 2283) (.ref 123))]) 21) (Array.mk [])
def c17 (P : Params) : Obj := Obj.mk .none none (.fields (Array.mk [(.int (Int.ofNat 3) 0), (.int (Int.ofNat 0) 0), (.ref 31), (.int (Int.ofNat 6) 0), (.int (Int.ofNat 0) 0), (.ref 77), (.int (Int.ofNat 13) 0), (.int (Int.ofNat 0) 0), (.ref 86), (.int (Int.ofNat 26) 0), (.int (Int.ofNat 0) 0), (.ref 91), (.int (Int.ofNat 32) 0), (.int (Int.ofNat 0) 0), (.ref 98), (.int (Int.ofNat 34) 0), (.int (Int.ofNat 0) 0), (.ref 103), (.int (Int.ofNat 42) 0), (.int (Int.ofNat 0) 0), (.ref 110), (.int (Int.ofNat 47) 0), (.int (Int.ofNat 0) 0), (.ref 117), (.int (Int.ofNat 60) 0), (.int (Int.ofNat 0) 0), (.ref 122)])) (Array.mk [])
end Mine
end
section
set_option maxRecDepth 100000
open PySem PySem.W PyProof.Rows
namespace Mine

def odds : List Obj → List Obj
  | [] => []
  | [a] => [a]
  | a :: _ :: r => a :: odds r
def evens : List Obj → List Obj
  | [] => []
  | [_] => []
  | _ :: b :: r => b :: evens r
def toBT : Nat → List Obj → BT
  | 0, _ => .nil
  | _ + 1, [] => .nil
  | n + 1, v :: r => .node v (toBT n (odds r)) (toBT n (evens r))
def envM : Env := { scope := prog.main.scope, locals := mainNs, globals := mainNs, cells := [], code := .ref 13, frame := some 14 }
def codeM : Code := .body (behindTheImports prog) envM
noncomputable def boot15 (P : Params) (m c : Obj) : List Obj := [boot_o_0 P, boot_o_1 P, boot_o_2 P, m, boot_o_4 P, boot_o_5 P, boot_o_6 P, boot_o_7 P, boot_o_8 P, boot_o_9 P, boot_o_10 P, o11 P, c, o13 P, o14 P]
def life0 : Life := {}
noncomputable def st (os : OsState) (n tk : Nat) (l : List Obj) : SharedT := ⟨toBT 8 l, n, {}, #[], boot_drawn, tk, os⟩
def posB : Pos := ⟨0, 0, 0, 0⟩
def p0 : Pos := ⟨1, 0, 1, 8⟩
def p1 : Pos := ⟨2, 0, 2, 6⟩
def p2 : Pos := ⟨3, 0, 4, 30⟩
noncomputable def l26 (P : Params) : List Obj := [o15 P, o16 P, o17 P, o18 P, o19 P, o20 P, o21 P, o22 P, o23 P, o24 P, o25 P]
noncomputable def l33 (P : Params) : List Obj := [o26 P, o27 P, o28 P, o29 P, o30 P, o31 P, o32 P]
set_option maxHeartbeats 0
theorem piece0 (w : World) (os : OsState) : segRunT treeTable prog w 11 (some (.ref 6)) 1 10 (st os 15 187 (boot15 w.params (m1 w.params) (c1 w.params))) (pieceOf (stmtAt 0) envM codeM posB [topFrame posB]) =
  some (.next, st os 15 189 (boot15 w.params (m2 w.params) (c2 w.params)), codeM, p0) := by kernel_rfl

end Mine
namespace Mine
set_option maxHeartbeats 0
theorem piece2 (w : World) (os : OsState) : segRunT treeTable prog w 11 (some (.ref 6)) 1 30 (st os 26 249 (boot15 w.params (m3 w.params) (c3 w.params) ++ l26 w.params)) (pieceOf (stmtAt 2) envM codeM p1 [topFrame posB]) =
  some (.next, st os 33 256 (boot15 w.params (m4 w.params) (c4 w.params) ++ l26 w.params ++ l33 w.params), codeM, p2) := by kernel_rfl
end Mine
end
section
set_option maxRecDepth 100000
open PySem PySem.W PySem.Calls PyProof.Rows
namespace Mine
theorem go_tw : @segGoT = PySem.W.Fast.tw10295753902157049106 := PySem.W.Fast.te10295753902157049106
theorem seg_tw : @segRunT = PySem.W.Fast.tw10110043849684766642 := PySem.W.Fast.te10110043849684766642
theorem tab_tw : treeTable = PySem.W.Fast.tw14364793385576792824 := PySem.W.Fast.te14364793385576792824
abbrev stk0 : List Frame := [topFrame posB]
def Run {α : Type} (w : World) (n : Nat) (s : Shared) (q : Pos) (x : Sem α) (s' : Shared) (q' : Pos) (a : α) : Prop :=
  ∀ (K : α → Sem Fin) (H : Value → Sem Fin) (gd : Bool → Bool) (lv : List Value → List Value),
    segGo treeTable prog w 11 (some (.ref 6)) 1 n s ⟨x.wrap K H gd lv, codeM, q, stk0⟩ = some (s', ⟨K a, codeM, q', stk0⟩)
section
variable {α β : Type} {w : World} {n m : Nat} {s s1 s' : Shared} {q q1 q' : Pos}
theorem segGo_add {tb : String → Option Builtin} {p : Program} {w : World} {n₀ : Nat} {ann : Option Value} {b : Nat} : ∀ {n m : Nat} {s s' : Shared} {t t' : Thread} {r : Option (Shared × Thread)},
    segGo tb p w n₀ ann b n s t = some (s', t') → segGo tb p w n₀ ann b m s' t' = r → segGo tb p w n₀ ann b (n + m) s t = r
  | 0, m, s, s', t, t', r, h, k => by
    obtain ⟨rfl, rfl⟩ : s = s' ∧ t = t' := by simpa [segGo] using h
    rw [Nat.zero_add]; exact k
  | n + 1, m, s, s', t, t', r, h, k => by
    rw [show n + 1 + m = n + m + 1 by omega]
    unfold segGo at h ⊢
    cases he : endAt b t with
    | some f => rw [he] at h; cases h
    | none =>
      rw [he] at h
      cases hk : stepOk n₀ ann t with
      | false => rw [hk] at h; cases h
      | true =>
        rw [hk] at h
        cases hs : step (denote tb) p w s t with
        | halt o s₂ => rw [hs] at h; cases h
        | go s₂ t₂ => rw [hs] at h; exact segGo_add h k
theorem go_step {t t1 : Thread} {r : Option (Shared × Thread)} (he : endAt 1 t = none) (hk : stepOk 11 (some (.ref 6)) t = true) (hs : step (denote treeTable) prog w s t = .go s1 t1)
    (h : segGo treeTable prog w 11 (some (.ref 6)) 1 n s1 t1 = r) : segGo treeTable prog w 11 (some (.ref 6)) 1 (n + 1) s t = r := by
  unfold segGo; rw [he, hk, hs]; exact h
theorem run_pure {a : α} : Run w 0 s q (.pure a) s q a := fun _ _ _ _ => rfl
theorem run_bind {x : Sem α} {f : α → Sem β} {a : α} {b : β} (h1 : Run w n s q x s1 q1 a) (h2 : Run w m s1 q1 (f a) s' q' b) : Run w (n + m) s q (x >>= f) s' q' b := fun K H gd lv => by
  rw [Sem.bind_eq_wrap', Sem.wrap_wrap]
  exact segGo_add (h1 (fun a => (f a).wrap K H gd lv) _ _ _) (h2 K H gd lv)
theorem run_keep {x : Sem α} {a : α} (vs : List Value) (h : Run w n s q x s' q' a) : Run w n s q (x.keep vs) s' q' a := fun K H gd lv => by
  rw [Sem.keep_eq_wrap, Sem.wrap_wrap]
  exact h K _ _ _
theorem run_holding {x : Sem α} {a : α} {vs : List Value} (h : Run w n s q x s' q' a) : Run w n s q (holding vs x) s' q' a := by
  rw [holding_eq_keep]; exact run_keep _ h
theorem run_onRaise {x : Sem α} {a : α} {h : Value → Sem Unit} (hx : Run w n s q x s' q' a) : Run w n s q (x.onRaise h) s' q' a := fun K H gd lv => by
  rw [Sem.onRaise_eq_wrap, Sem.wrap_wrap]
  exact hx K _ _ _
theorem run_rule {t : String} {k : Unit → Sem α} {a : α} (h : Run w n s q (k ()) s' q' a) : Run w (n + 1) s q (.rule t k) s' q' a := fun K H gd lv => by
  obtain ⟨heap, gens, drawn, toks, os⟩ := s
  exact go_step rfl rfl rfl (h K H gd lv)
theorem run_at {p : Pos} {k : Unit → Sem α} {a : α} (h : Run w n s p (k ()) s' q' a) : Run w (n + 1) s q (.at p k) s' q' a := fun K H gd lv => by
  obtain ⟨heap, gens, drawn, toks, os⟩ := s
  exact go_step rfl rfl rfl (h K H gd lv)
theorem run_load {d : Addr} {o : Obj} {part : Option Value} {k : Obj → Sem α} {a : α} (ho : s.heap.get? d = some o) (h : Run w n s q (k o) s' q' a) : Run w (n + 1) s q (.load d part k) s' q' a := fun K H gd lv => by
  obtain ⟨heap, gens, drawn, toks, os⟩ := s
  exact go_step rfl rfl (by show step _ _ _ _ ⟨.load d part fun x => (k x).wrap K H gd lv, _, _, _⟩ = _; simp only [step]; rw [show heap.get? d = some o from ho]) (h K H gd lv)
theorem run_update {d : Addr} {o : Obj} {part : Option Value} {f : Obj → Obj} {k : Unit → Sem α} {a : α} (hd : Nat.ble 11 d = true) (ho : s.heap.get? d = some o) (h : Run w n { s with heap := s.heap.update d f } q (k ()) s' q' a) :
    Run w (n + 1) s q (.update d part f k) s' q' a := fun K H gd lv => by
  obtain ⟨heap, gens, drawn, toks, os⟩ := s
  refine go_step rfl (by show (true && (Nat.ble 11 d || _ || _ || _)) = true; rw [hd]; rfl) (by show step _ _ _ _ ⟨.update d part f fun x => (k x).wrap K H gd lv, _, _, _⟩ = _; simp only [step]; rw [show heap.get? d = some o from ho]; rfl) (h K H gd lv)
theorem run_alloc {o : Obj} {k : Addr → Sem α} {a : α} (h : Run w n { s with heap := s.heap.push o } q (k s.heap.objs.size) s' q' a) : Run w (n + 1) s q (.alloc o k) s' q' a := fun K H gd lv => by
  obtain ⟨heap, gens, drawn, toks, os⟩ := s
  exact go_step rfl rfl rfl (h K H gd lv)
theorem run_fresh {k : Tok → Sem α} {a : α} (h : Run w n { s with toks := s.toks + 1 } q (k s.toks) s' q' a) : Run w (n + 1) s q (.fresh k) s' q' a := fun K H gd lv => by
  obtain ⟨heap, gens, drawn, toks, os⟩ := s
  exact go_step rfl rfl rfl (h K H gd lv)
end
/-- the call of int's own hash: five steps, by the kernel, in both of the world's ways -/
theorem hash_callT (w : World) (b : Bool) (T : BT) (hn : Nat) (life : Life) (gens : Array GenState) (drawn : Drawn) (toks : Nat) (os : OsState) (k : Int) (t : Tok) (q : Pos) (K : Option Value → Sem Fin) (H : Value → Sem Fin) (gd : Bool → Bool) (lv : List Value → List Value) (R : Sem Value) :
    segGoT treeTable prog (w.withFollow "special-get-raises" b) 11 (some (.ref 6)) 1 5 ⟨T, hn, life, gens, drawn, toks, os⟩ ⟨(callSpecialIfBoundUnlessNone? (.int k t) "__hash__" R).wrap K H gd lv, codeM, q, stk0⟩
      = some (⟨T, hn, life, gens, drawn, toks + 1, os⟩, ⟨K (some (.int (rawHash k) toks)), codeM, q, stk0⟩) := by
  rw [go_tw, tab_tw]
  cases b <;> kernel_rfl
end Mine
namespace Mine
section
variable {α β : Type} {w : World} {b : Bool} {n m : Nat} {s s1 s' : Shared} {q q1 q' : Pos}
abbrev wr (w : World) (b : Bool) : World := w.withFollow "special-get-raises" b
theorem go_tw' : @segGo = PySem.W.Fast.tw3277212676724774461 := PySem.W.Fast.te3277212676724774461
theorem hash_call (w : World) (b : Bool) (heap : Heap) (gens : Array GenState) (drawn : Drawn) (toks : Nat) (os : OsState) (k : Int) (t : Tok) (q : Pos) (R : Sem Value) :
    Run (wr w b) 5 ⟨heap, gens, drawn, toks, os⟩ q (callSpecialIfBoundUnlessNone? (.int k t) "__hash__" R) ⟨heap, gens, drawn, toks + 1, os⟩ q (some (.int (rawHash k) toks)) := by
  intro K H gd lv
  rw [go_tw', tab_tw]
  cases b <;> kernel_rfl
theorem run_specialOf_int {k : Int} {t : Tok} : Run w 0 s q (specialOf (.int k t) "__hash__") s q (some (.builtin "int.__hash__")) := by
  show Run w 0 s q (typeLookup (.type "int") "__hash__") s q _
  rw [slot_int_hash.lookup]; exact run_pure
theorem hashInt_nat {k : Int} (h0 : 0 ≤ k) (h1 : k < 2 ^ 60) : hashInt k = k := by
  have : rawHash k = k := by
    unfold rawHash
    have e : (k.natAbs : Int) = k := Int.natAbs_of_nonneg h0
    have l : k.natAbs < 2 ^ 61 - 1 := by omega
    have e' : (k.natAbs : Int) % ((2 ^ 61 - 1 : Nat) : Int) = k := by rw [e]; exact Int.emod_eq_of_lt h0 (by omega)
    show (if ((if k < 0 then -((k.natAbs : Int) % ((2 ^ 61 - 1 : Nat) : Int)) else ((k.natAbs : Int) % ((2 ^ 61 - 1 : Nat) : Int))) == -1) = true then (-2 : Int) else (if k < 0 then -((k.natAbs : Int) % ((2 ^ 61 - 1 : Nat) : Int)) else ((k.natAbs : Int) % ((2 ^ 61 - 1 : Nat) : Int)))) = k
    rw [e']
    have hn : ¬ k < 0 := by omega
    rw [if_neg hn, if_neg (by intro h; have := eq_of_beq h; omega)]
  unfold hashInt
  rw [this, if_neg (by intro h; have := eq_of_beq h; omega)]
theorem run_pyHash {heap : Heap} {gens : Array GenState} {drawn : Drawn} {toks : Nat} {os : OsState} {k : Int} {t : Tok} : Run (wr w b) 5 ⟨heap, gens, drawn, toks, os⟩ q (pyHash (.int k t)) ⟨heap, gens, drawn, toks + 1, os⟩ q (hashInt k) := by
  have hr := rawHash_range k
  show Run (wr w b) (0 + (0 + (0 + (5 + 0)))) _ _ (pyHashByItsType (.int k t)) _ _ _
  unfold pyHashByItsType
  refine run_bind (a := ()) (show Run _ 0 _ _ (cRoomFor "hash" [Value.int k t]) _ _ _ from run_pure) ?_
  refine run_bind run_specialOf_int ?_
  rw [if_neg (by decide)]
  refine run_bind run_specialOf_int ?_
  rw [if_neg (by decide)]
  dsimp only
  refine run_bind (hash_call _ _ _ _ _ _ _ _ _ _ _) ?_
  show Run _ 0 _ _ (if (decide (-(2 : Int) ^ 63 ≤ rawHash k) && decide (rawHash k < 2 ^ 63)) = true then _ else _) _ _ _
  rw [if_pos (by rw [decide_eq_true hr.1, decide_eq_true hr.2]; rfl)]
  exact run_pure

def dictObj (l : List DictEntry) : Obj := ⟨.type "dict", none, .dict ⟨l⟩ l.length, #[]⟩
def heapL (l : List Obj) : Heap := ⟨⟨l⟩, {}⟩
theorem heapL_get {B S : List Obj} {l : List DictEntry} {d : Addr} (hd : B.length = d) : (heapL (B ++ dictObj l :: S)).get? d = some (dictObj l) := by
  subst hd
  unfold heapL Heap.get?
  simp [dictObj]
theorem heapL_update {B S : List Obj} {o : Obj} {d : Addr} {f : Obj → Obj} (hd : B.length = d) : (heapL (B ++ o :: S)).update d f = heapL (B ++ f o :: S) := by
  subst hd
  show Heap.mk _ _ = Heap.mk _ _
  congr 1
  apply Array.ext_getElem?
  intro i
  rw [Array.getElem?_modify]
  simp only [List.getElem?_toArray]
  by_cases h : B.length = i
  · subst h; simp
  · rw [if_neg h]
    by_cases h' : i < B.length
    · rw [List.getElem?_append_left h', List.getElem?_append_left h']
    · rw [List.getElem?_append_right (by omega), List.getElem?_append_right (by omega)]
      obtain ⟨j, hj⟩ : ∃ j, i - B.length = j + 1 := ⟨i - B.length - 1, by omega⟩
      rw [hj]; rfl
theorem heapL_push {l : List Obj} {o : Obj} : (heapL l).push o = heapL (l ++ [o]) := by
  show Heap.mk _ _ = Heap.mk _ _
  congr 1
  simp
theorem places_nil {es : Array DictEntry} {h : Int} (hno : ∀ e ∈ es, e.hash ≠ h) : placesWithHash es.size (fun i => es[i]?.map (·.hash)) h = [] := by
  unfold placesWithHash
  rw [List.filter_eq_nil_iff]
  intro i hi
  have hi' : i < es.size := List.mem_range.mp hi
  show ¬ ((es[i]?.map (·.hash)) == some h) = true
  rw [Array.getElem?_eq_getElem hi']
  simp only [Option.map_some, beq_iff_eq, Option.some.injEq]
  exact hno _ (Array.getElem_mem hi')
theorem run_dictEntries {d : Addr} {o : Obj} {es : Array DictEntry} {ep : Nat} {part : Option Value} (ho : s.heap.get? d = some o) (hd : o.data = .dict es ep) : Run w 1 s q (dictEntries d part) s q es := by
  unfold dictEntries
  show Run w (0 + 1) s q (.load d part fun o => (match o.data with | .dict es _ => pure es | _ => unsupported "internal:not-a-dict")) s q es
  refine run_load ho ?_
  rw [hd]; exact run_pure
theorem run_dictEpoch {d : Addr} {o : Obj} {es : Array DictEntry} {ep : Nat} {part : Option Value} (ho : s.heap.get? d = some o) (hd : o.data = .dict es ep) : Run w 1 s q (dictEpoch d part) s q ep := by
  unfold dictEpoch
  show Run w (0 + 1) s q (.load d part fun o => (match o.data with | .dict _ n => pure n | _ => unsupported "internal:not-a-dict")) s q ep
  refine run_load ho ?_
  rw [hd]; exact run_pure
theorem run_dictFind {d : Addr} {o : Obj} {es : Array DictEntry} {ep : Nat} {k h : Int} {t : Tok} (ho : s.heap.get? d = some o) (hd : o.data = .dict es ep) (hno : ∀ e ∈ es, e.hash ≠ h) : Run w 1 s q (dictFind d (.int k t) h) s q none := by
  unfold dictFind
  refine run_holding ?_
  show Run w (1 + 0) _ _ _ _ _ _
  refine run_bind (run_dictEntries ho hd) ?_
  dsimp only
  rw [places_nil hno]
  exact run_pure
theorem run_grow {B S : List Obj} {l : List DictEntry} {e : DictEntry} {d : Addr} {gens : Array GenState} {drawn : Drawn} {toks : Nat} {os : OsState} {part : Option Value} (hd : B.length = d) (hb : Nat.ble 11 d = true) (hl : l.length < 1000) :
    Run w 3 ⟨heapL (B ++ dictObj l :: S), gens, drawn, toks, os⟩ q (updateDictKeys d (·.push e) part) ⟨heapL (B ++ dictObj (l ++ [e]) :: S), gens, drawn, toks, os⟩ q () := by
  have e1 : Obj.mapDictKeys (·.push e) (dictObj l) = dictObj (l ++ [e]) := by
    show Obj.mk _ _ _ _ = Obj.mk _ _ _ _
    simp
  unfold updateDictKeys
  show Run w (0 + 1 + 1 + 1) _ _ (.load d part fun o => (match o.data with | .dict _ _ => (do updatePart d part (Obj.mapDictKeys (·.push e)); lookBehind d part) | _ => unsupported "internal:write-to-non-dict")) _ _ _
  refine run_load (heapL_get hd) ?_
  show Run w (0 + 1 + 1) _ _ (.update d part (Obj.mapDictKeys (·.push e)) fun _ => lookBehind d part) _ _ _
  refine run_update hb (heapL_get hd) ?_
  show Run w (0 + 1) ⟨(heapL (B ++ dictObj l :: S)).update d (Obj.mapDictKeys (·.push e)), gens, drawn, toks, os⟩ _ _ _ _ _
  rw [heapL_update hd, e1]
  unfold lookBehind
  refine run_load (heapL_get hd) ?_
  have hp : (dictObj (l ++ [e])).data.pastItsLine = none := pastItsLine_dict (by rw [sizeLine_eq]; simp; omega)
  show Run w 0 _ _ (match (dictObj (l ++ [e])).data.pastItsLine with | some what => unsupported what | _ => pure ()) _ _ _
  rw [hp]
  exact run_pure
end
end Mine
end
section
set_option maxRecDepth 100000
open PySem PySem.W PySem.Calls PyProof.Rows
namespace Mine
def ent (tk : Nat) (x : Int × Str) : DictEntry := ⟨x.1, .int x.1 tk, .str x.2 (tk + 1)⟩
def ents (stp : Nat) : Nat → List (Int × Str) → List DictEntry
  | _, [] => []
  | tk, x :: r => ent tk x :: ents stp (tk + stp) r
theorem ents_length (stp : Nat) : ∀ (tk : Nat) (l : List (Int × Str)), (ents stp tk l).length = l.length
  | _, [] => rfl
  | tk, x :: r => by show (ents stp (tk + stp) r).length + 1 = r.length + 1; rw [ents_length]
theorem ents_hash (stp : Nat) : ∀ (tk : Nat) (l : List (Int × Str)), ∀ e ∈ ents stp tk l, ∃ x ∈ l, e.hash = x.1 ∧ ∃ t u, e = ⟨x.1, .int x.1 t, .str x.2 u⟩
  | _, [], e, h => nomatch h
  | tk, x :: r, e, h => by
    rcases List.mem_cons.mp h with rfl | h
    · exact ⟨x, .head _, rfl, _, _, rfl⟩
    · obtain ⟨y, hy, h⟩ := ents_hash stp _ _ e h
      exact ⟨y, .tail _ hy, h⟩
structure Okl (l : List DictEntry) (x : List (Int × Str)) : Prop where
  lt : ∀ e ∈ l, ∀ y ∈ x, e.hash < y.1
  inc : x.Pairwise fun a b => a.1 < b.1
  rng : ∀ y ∈ x, 0 ≤ y.1 ∧ y.1 < 2 ^ 60
theorem Okl.tail {l : List DictEntry} {x : List (Int × Str)} {y : Int × Str} {e : DictEntry} (h : Okl l (y :: x)) (he : e.hash = y.1) : Okl (l ++ [e]) x where
  lt := fun e' he' z hz => by
    rcases List.mem_append.mp he' with q | q
    · exact h.lt _ q _ (.tail _ hz)
    · rw [List.mem_singleton.mp q, he]; exact (List.pairwise_cons.mp h.inc).1 z hz
  inc := (List.pairwise_cons.mp h.inc).2
  rng := fun z hz => h.rng z (.tail _ hz)
theorem run_cast {α : Type} {w : World} {n m : Nat} {s s' : Shared} {q q' : Pos} {x : Sem α} {a : α} (e : n = m) (h : Run w n s q x s' q' a) : Run w m s q x s' q' a := e ▸ h
section
variable {w : World} {b : Bool} {q pos : Pos} {B S : List Obj} {d : Addr} {gens : Array GenState} {drawn : Drawn} {os : OsState}
theorem run_dictSet {l : List DictEntry} {toks : Nat} {k : Int} {t : Tok} {v : Value} (hd : B.length = d) (hb : Nat.ble 11 d = true) (hl : l.length < 1000) (h0 : 0 ≤ k) (h1 : k < 2 ^ 60) (hno : ∀ e ∈ l, e.hash ≠ k) :
    Run (wr w b) 10 ⟨heapL (B ++ dictObj l :: S), gens, drawn, toks, os⟩ q (dictSet d (.int k t) v) ⟨heapL (B ++ dictObj (l ++ [⟨k, .int k t, v⟩]) :: S), gens, drawn, toks + 1, os⟩ q () := by
  unfold dictSet
  refine run_holding ?_
  show Run _ (5 + (1 + (1 + 3))) _ _ _ _ _ _
  refine run_bind run_pyHash ?_
  rw [hashInt_nat h0 h1]
  unfold dictSetHashed
  refine run_holding ?_
  refine run_bind (run_dictFind (es := ⟨l⟩) (ep := l.length) (heapL_get hd) rfl (fun e he => hno e (Array.mem_toList_iff.mpr he))) ?_
  show Run _ (1 + 3) _ _ (rule "dict.set.new-key-at-the-end" >>= fun _ => updateDictKeys d (·.push ⟨k, .int k t, v⟩) (keyPart (.int k t))) _ _ _
  refine run_bind (a := ()) (show Run _ (0 + 1) _ _ (Sem.rule _ .pure) _ _ _ from run_rule run_pure) ?_
  exact run_grow hd hb hl
def pr (pos : Pos) (x : Int × Str) : Sem Value × Sem Value := (mkInt x.1, do let y ← mkText x.2; standAt pos; pure y)
theorem run_key {heap : Heap} {toks : Nat} {k : Int} : Run w 1 ⟨heap, gens, drawn, toks, os⟩ q (mkInt k) ⟨heap, gens, drawn, toks + 1, os⟩ q (.int k toks) := by
  show Run w (0 + 1) _ _ (Sem.fresh fun t => .pure (Value.int k t)) _ _ _
  exact run_fresh run_pure
theorem run_val {heap : Heap} {toks : Nat} {v : Str} : Run w 2 ⟨heap, gens, drawn, toks, os⟩ q (do let y ← mkText v; standAt pos; pure y) ⟨heap, gens, drawn, toks + 1, os⟩ pos (.str v toks) := by
  show Run w (0 + 1 + 1) _ _ (Sem.fresh fun t => .at pos fun _ => .pure (Value.str v t)) _ _ _
  exact run_fresh (run_at run_pure)
abbrev fillBody (d : Addr) : Sem Value × Sem Value → PUnit → Sem (ForInStep PUnit) := fun x _ => match x with
  | (k, v) => do
    let kv ← k
    let vv ← holding [kv] v
    holding [kv, vv] (dictSet d kv vv)
    pure (ForInStep.yield PUnit.unit)
theorem run_fill (hd : B.length = d) (hb : Nat.ble 11 d = true) : ∀ (x : List (Int × Str)) (l : List DictEntry) (toks : Nat), Okl l x → l.length + x.length < 1000 →
    Run (wr w b) (13 * x.length) ⟨heapL (B ++ dictObj l :: S), gens, drawn, toks, os⟩ pos (forIn (x.map (pr pos)) PUnit.unit (fillBody d))
      ⟨heapL (B ++ dictObj (l ++ ents 3 toks x) :: S), gens, drawn, toks + 3 * x.length, os⟩ pos PUnit.unit
  | [], l, toks, _, _ => by
    rw [show l ++ ents 3 toks [] = l from List.append_nil l]
    exact run_pure
  | x :: r, l, toks, ok, hl => by
    rw [List.map_cons, List.forIn_cons]
    refine run_cast (n := (1 + (2 + (10 + 0))) + 13 * r.length) (by rw [List.length_cons]; omega) ?_
    refine run_bind (a := ForInStep.yield PUnit.unit) (q1 := pos) (s1 := ⟨heapL (B ++ dictObj (l ++ [ent toks x]) :: S), gens, drawn, toks + 3, os⟩) ?_ ?_
    · show Run _ _ _ _ (do let kv ← mkInt x.1; let vv ← holding [kv] (pr pos x).2; holding [kv, vv] (dictSet d kv vv); pure (ForInStep.yield PUnit.unit)) _ _ _
      refine run_bind run_key ?_
      refine run_bind (run_holding run_val) ?_
      refine run_bind (run_holding (run_dictSet hd hb (by omega) (ok.rng x (.head _)).1 (ok.rng x (.head _)).2 (fun e he => Int.ne_of_lt (ok.lt e he x (.head _))))) ?_
      exact run_pure
    · have ih := run_fill hd hb r (l ++ [ent toks x]) (toks + 3) (ok.tail rfl) (by rw [List.length_append, List.length_singleton]; rw [List.length_cons] at hl; omega)
      rw [List.append_assoc] at ih
      rw [show toks + 3 * (x :: r).length = toks + 3 + 3 * r.length by rw [List.length_cons]; omega]
      exact ih
theorem run_subDict {L : List Obj} {toks : Nat} (x : List (Int × Str)) (ok : Okl [] x) (hx : x.length = 17) (hL : Nat.ble 11 L.length = true) :
    Run (wr w b) 223 ⟨heapL L, gens, drawn, toks, os⟩ pos (subDict (x.map (pr pos))) ⟨heapL (L ++ [dictObj (ents 3 toks x)]), gens, drawn, toks + 51, os⟩ pos L.length := by
  unfold subDict
  show Run _ ((0 + 1) + ((1 + (221 + 0)) + 0)) _ _ _ _ _ _
  refine run_bind (s1 := ⟨heapL (L ++ [dictObj []]), gens, drawn, toks, os⟩) (q1 := pos) (a := L.length) ?_ ?_
  · show Run _ (0 + 1) _ _ (Sem.alloc _ Sem.pure) _ _ _
    refine run_alloc ?_
    show Run _ 0 ⟨(heapL L).push _, gens, drawn, toks, os⟩ _ _ _ _ _
    rw [heapL_push]
    exact run_pure
  refine run_bind (a := ()) (run_holding ?_) run_pure
  rw [if_neg (by rw [List.length_map]; omega)]
  refine run_bind (a := ()) (show Run _ (0 + 1) _ _ (Sem.rule _ .pure) _ _ _ from run_rule run_pure) ?_
  refine run_bind (a := PUnit.unit) ?_ run_pure
  have := run_fill (w := w) (b := b) (pos := pos) (S := []) (gens := gens) (drawn := drawn) (os := os) (B := L) rfl hL x [] toks ok (by rw [hx]; decide)
  rw [List.nil_append, hx] at this
  exact this

/-- the short road: keys and values first, then the stores -/
def vals2 : Nat → List (Int × Str) → List (Value × Value)
  | _, [] => []
  | tk, x :: r => (.int x.1 tk, .str x.2 (tk + 1)) :: vals2 (tk + 2) r
theorem run_evalPairs {heap : Heap} : ∀ (x : List (Int × Str)) (toks : Nat), Run (wr w b) (3 * x.length) ⟨heap, gens, drawn, toks, os⟩ pos (evalPairs (x.map (pr pos))) ⟨heap, gens, drawn, toks + 2 * x.length, os⟩ pos (vals2 toks x)
  | [], toks => run_pure
  | x :: r, toks => by
    rw [List.map_cons]
    refine run_cast (n := 1 + (2 + (3 * r.length + 0))) (by rw [List.length_cons]; omega) ?_
    rw [show toks + 2 * (x :: r).length = toks + 2 + 2 * r.length by rw [List.length_cons]; omega]
    show Run _ _ _ _ (do let kv ← mkInt x.1; let vv ← holding [kv] (pr pos x).2; return (kv, vv) :: (← holding [kv, vv] (evalPairs (r.map (pr pos))))) _ _ _
    refine run_bind run_key ?_
    refine run_bind (run_holding run_val) ?_
    refine run_bind (run_holding (run_evalPairs r (toks + 2))) ?_
    exact run_pure
theorem run_stores (hd : B.length = d) (hb : Nat.ble 11 d = true) : ∀ (x : List (Int × Str)) (l : List DictEntry) (t0 toks : Nat), Okl l x → l.length + x.length < 1000 →
    Run (wr w b) (10 * x.length) ⟨heapL (B ++ dictObj l :: S), gens, drawn, toks, os⟩ pos (forIn (vals2 t0 x) PUnit.unit (fun x _ => match x with | (k, v) => do dictSet d k v; pure (ForInStep.yield PUnit.unit) : Value × Value → PUnit → Sem (ForInStep PUnit)))
      ⟨heapL (B ++ dictObj (l ++ ents 2 t0 x) :: S), gens, drawn, toks + x.length, os⟩ pos PUnit.unit
  | [], l, t0, toks, _, _ => by
    rw [show l ++ ents 2 t0 [] = l from List.append_nil l]
    exact run_pure
  | x :: r, l, t0, toks, ok, hl => by
    rw [vals2, List.forIn_cons]
    refine run_cast (n := (10 + 0) + 10 * r.length) (by rw [List.length_cons]; omega) ?_
    refine run_bind (a := ForInStep.yield PUnit.unit) (q1 := pos) (s1 := ⟨heapL (B ++ dictObj (l ++ [ent t0 x]) :: S), gens, drawn, toks + 1, os⟩) ?_ ?_
    · show Run _ _ _ _ (do dictSet d (Value.int x.1 t0) (Value.str x.2 (t0 + 1)); pure (ForInStep.yield PUnit.unit)) _ _ _
      refine run_bind (run_dictSet hd hb (by omega) (ok.rng x (.head _)).1 (ok.rng x (.head _)).2 (fun e he => Int.ne_of_lt (ok.lt e he x (.head _)))) ?_
      exact run_pure
    · have ih := run_stores hd hb r (l ++ [ent t0 x]) (t0 + 2) (toks + 1) (ok.tail rfl) (by rw [List.length_append, List.length_singleton]; rw [List.length_cons] at hl; omega)
      rw [List.append_assoc] at ih
      rw [show toks + (x :: r).length = toks + 1 + r.length by rw [List.length_cons]; omega]
      exact ih
theorem run_subDict4 {L : List Obj} {toks : Nat} (x : List (Int × Str)) (ok : Okl [] x) (hx : x.length = 4) (hL : Nat.ble 11 L.length = true) :
    Run (wr w b) 53 ⟨heapL L, gens, drawn, toks, os⟩ pos (subDict (x.map (pr pos))) ⟨heapL (L ++ [dictObj (ents 2 toks x)]), gens, drawn, toks + 12, os⟩ pos L.length := by
  unfold subDict
  show Run _ ((0 + 1) + ((12 + (40 + 0)) + 0)) _ _ _ _ _ _
  refine run_bind (s1 := ⟨heapL (L ++ [dictObj []]), gens, drawn, toks, os⟩) (q1 := pos) (a := L.length) ?_ ?_
  · show Run _ (0 + 1) _ _ (Sem.alloc _ Sem.pure) _ _ _
    refine run_alloc ?_
    show Run _ 0 ⟨(heapL L).push _, gens, drawn, toks, os⟩ _ _ _ _ _
    rw [heapL_push]
    exact run_pure
  refine run_bind (a := ()) (run_holding ?_) run_pure
  rw [if_pos (by rw [List.length_map]; omega)]
  have h1 := run_evalPairs (w := w) (b := b) (pos := pos) (gens := gens) (drawn := drawn) (os := os) (heap := heapL (L ++ [dictObj []])) x toks
  rw [hx] at h1
  refine run_bind h1 ?_
  refine run_holding ?_
  refine run_bind (a := PUnit.unit) ?_ run_pure
  have := run_stores (w := w) (b := b) (pos := pos) (S := []) (gens := gens) (drawn := drawn) (os := os) (B := L) rfl hL x [] toks (toks + 2 * 4) ok (by rw [hx]; decide)
  rw [List.nil_append, hx] at this
  exact this
/-- the merge of a later dict into the first one -/
theorem run_isDict {heap : Heap} {toks : Nat} {a : Addr} {l : List DictEntry} (ha : heap.get? a = some (dictObj l)) : Run w 1 ⟨heap, gens, drawn, toks, os⟩ q (PySem.isInstance (.ref a) (.type "dict")) ⟨heap, gens, drawn, toks, os⟩ q true := by
  show Run w (0 + 1) _ _ (Sem.load a (some headPart) fun o => isSubtype o.cls (.type "dict")) _ _ _
  refine run_load ha ?_
  show Run w 0 _ _ (isSubtype (.type "dict") (.type "dict")) _ _ _
  rw [show isSubtype (.type "dict") (.type "dict") = pure true from by rw [isSubtype_type]; kernel_rfl]
  exact run_pure
theorem run_iterOf {heap : Heap} {toks : Nat} {a : Addr} {l : List DictEntry} (ha : heap.get? a = some (dictObj l)) : Run w 1 ⟨heap, gens, drawn, toks, os⟩ q (specialOf (.ref a) "__iter__") ⟨heap, gens, drawn, toks, os⟩ q (some (.builtin "dict.__iter__")) := by
  show Run w (0 + 1) _ _ (Sem.load a (some headPart) fun o => typeLookup o.cls "__iter__") _ _ _
  refine run_load ha ?_
  show Run w 0 _ _ (typeLookup (.type "dict") "__iter__") _ _ _
  rw [F.slot_dict_iter.lookup]
  exact run_pure
end
end Mine
end
section
set_option maxRecDepth 100000
open PySem PySem.W PySem.Calls PyProof.Rows
namespace Mine
section
variable {w : World} {b : Bool} {q pos : Pos} {B S : List Obj} {d a : Addr} {gens : Array GenState} {drawn : Drawn} {os : OsState} {toks : Nat}
theorem two_get {em es : List DictEntry} (ha : B.length + 1 + S.length = a) : (heapL (B ++ dictObj em :: (S ++ [dictObj es]))).get? a = some (dictObj es) := by
  rw [show B ++ dictObj em :: (S ++ [dictObj es]) = (B ++ dictObj em :: S) ++ dictObj es :: [] by simp]
  exact heapL_get (by rw [List.length_append, List.length_cons]; omega)
structure Okm (em es : List DictEntry) : Prop where
  lt : ∀ e ∈ em, ∀ y ∈ es, e.hash < y.hash
  inc : es.Pairwise fun a b => a.hash < b.hash
  form : ∀ e ∈ es, ∃ k t v, e = ⟨k, .int k t, v⟩
theorem Okm.tail {em es : List DictEntry} {y : DictEntry} (h : Okm em (y :: es)) : Okm (em ++ [y]) es where
  lt := fun e' he' z hz => by
    rcases List.mem_append.mp he' with q | q
    · exact h.lt _ q _ (.tail _ hz)
    · rw [List.mem_singleton.mp q]; exact (List.pairwise_cons.mp h.inc).1 z hz
  inc := (List.pairwise_cons.mp h.inc).2
  form := fun z hz => h.form z (.tail _ hz)
abbrev mergeBody (d a : Addr) (epoch : Nat) : Nat → PUnit → Sem (ForInStep PUnit) := fun i _ => do
  let es ← dictEntries a
  match es[i]? with
    | some e => do
      holding [e.key, e.val] (dictPut d e.hash e.key e.val)
      let ep ← dictEpoch a
      if (ep != epoch) = true then do
          unsupported "dict.changed-during-merge"
          pure (ForInStep.yield PUnit.unit)
        else pure (ForInStep.yield PUnit.unit)
    | _ => do
      unsupported "dict.changed-during-merge"
      pure (ForInStep.yield PUnit.unit)
theorem run_put {l : List DictEntry} {k : Int} {t : Tok} {v : Value} (hd : B.length = d) (hb : Nat.ble 11 d = true) (hl : l.length < 1000) (hno : ∀ e ∈ l, e.hash ≠ k) :
    Run w 4 ⟨heapL (B ++ dictObj l :: S), gens, drawn, toks, os⟩ q (dictPut d k (.int k t) v) ⟨heapL (B ++ dictObj (l ++ [⟨k, .int k t, v⟩]) :: S), gens, drawn, toks, os⟩ q () := by
  unfold dictPut
  show Run _ (1 + 3) _ _ _ _ _ _
  refine run_bind (run_dictFind (es := ⟨l⟩) (ep := l.length) (heapL_get hd) rfl (fun e he => hno e (Array.mem_toList_iff.mpr he))) ?_
  exact run_grow hd hb hl
theorem run_mergeLoop {em es : List DictEntry} (hd : B.length = d) (hb : Nat.ble 11 d = true) (ha : B.length + 1 + S.length = a) : ∀ (suf pre : List DictEntry), es = pre ++ suf → Okm (em ++ pre) suf → em.length + pre.length + suf.length < 1000 →
    Run w (6 * suf.length) ⟨heapL (B ++ dictObj (em ++ pre) :: (S ++ [dictObj es])), gens, drawn, toks, os⟩ q (forIn (List.range' pre.length suf.length) PUnit.unit (mergeBody d a es.length))
      ⟨heapL (B ++ dictObj (em ++ es) :: (S ++ [dictObj es])), gens, drawn, toks, os⟩ q PUnit.unit
  | [], pre, e, _, _ => by
    rw [List.append_nil] at e
    subst e
    exact run_pure
  | y :: suf, pre, e, ok, hl => by
    obtain ⟨k, t, v, rfl⟩ := ok.form y (.head _)
    rw [List.length_cons, List.range'_succ, List.forIn_cons]
    refine run_cast (n := (1 + (4 + (1 + 0))) + 6 * suf.length) (by omega) ?_
    refine run_bind (a := ForInStep.yield PUnit.unit) (q1 := q) (s1 := ⟨heapL (B ++ dictObj (em ++ (pre ++ [⟨k, .int k t, v⟩])) :: (S ++ [dictObj es])), gens, drawn, toks, os⟩) ?_ ?_
    · unfold mergeBody
      refine run_bind (run_dictEntries (es := ⟨es⟩) (ep := es.length) (two_get ha) rfl) ?_
      have hi : (⟨es⟩ : Array DictEntry)[pre.length]? = some ⟨k, .int k t, v⟩ := by
        rw [List.getElem?_toArray, e, List.getElem?_append_right (Nat.le_refl _), Nat.sub_self]; rfl
      rw [hi]
      dsimp only
      refine run_bind (run_holding (run_put (l := em ++ pre) hd hb (by rw [List.length_append]; rw [List.length_cons] at hl; omega) (fun e' he' => Int.ne_of_lt (ok.lt e' he' _ (.head _))))) ?_
      rw [List.append_assoc]
      refine run_bind (run_dictEpoch (es := ⟨es⟩) (ep := es.length) (two_get ha) rfl) ?_
      rw [if_neg (by simp)]
      exact run_pure
    · have ih := run_mergeLoop (em := em) (es := es) hd hb ha suf (pre ++ [⟨k, .int k t, v⟩]) (by rw [e]; simp) (by have := ok.tail; rwa [List.append_assoc] at this) (by rw [List.length_append, List.length_singleton]; rw [List.length_cons] at hl; omega)
      rw [List.length_append, List.length_singleton] at ih
      exact ih
theorem run_merge {em es : List DictEntry} (hd : B.length = d) (hb : Nat.ble 11 d = true) (ha : B.length + 1 + S.length = a) (hs : (a == sysModules) = false) (hm : em ≠ []) (ok : Okm em es) (hl : em.length + es.length < 1000) :
    Run w (5 + 6 * es.length) ⟨heapL (B ++ dictObj em :: (S ++ [dictObj es])), gens, drawn, toks, os⟩ q (mergeMapping d (.ref a) false)
      ⟨heapL (B ++ dictObj (em ++ es) :: (S ++ [dictObj es])), gens, drawn, toks, os⟩ q () := by
  unfold mergeMapping
  refine run_cast (n := 1 + (1 + (0 + (1 + (1 + (1 + (6 * es.length + 0))))))) (by omega) ?_
  refine run_bind (run_isDict (two_get ha)) ?_
  rw [if_pos rfl]
  refine run_bind (run_iterOf (two_get ha)) ?_
  refine run_bind (a := true) (show Run _ 0 _ _ (Sem.pure _) _ _ _ from run_pure) ?_
  try dsimp only
  rw [if_neg (by rw [hs]; decide)]
  try dsimp only
  refine run_bind (run_dictEntries (es := ⟨em⟩) (ep := em.length) (heapL_get hd) rfl) ?_
  rw [if_neg (by cases em with | nil => exact absurd rfl hm | cons _ _ => simp)]
  refine run_bind (run_dictEntries (es := ⟨es⟩) (ep := es.length) (two_get ha) rfl) ?_
  refine run_bind (run_dictEpoch (es := ⟨es⟩) (ep := es.length) (two_get ha) rfl) ?_
  refine run_bind (a := PUnit.unit) ?_ run_pure
  have := run_mergeLoop (w := w) (q := q) (gens := gens) (drawn := drawn) (os := os) (toks := toks) (em := em) (es := es) hd hb ha es [] rfl (by rw [List.append_nil]; exact ok) (by rw [List.length_nil]; omega)
  rw [List.append_nil, List.length_nil] at this
  rw [List.size_toArray, List.range_eq_range']
  exact this
end
end Mine
end
section
set_option maxRecDepth 100000
open PySem PySem.W PySem.Calls PyProof.Rows
namespace Mine
abbrev DSt := Option Addr × List (Sem Value × Sem Value)
def it (pos : Pos) (y : Int × Str) : Option (Sem Value) × Sem Value := (some (pr pos y).1, (pr pos y).2)
def bigE : Nat → List (List (Int × Str)) → List DictEntry
  | _, [] => []
  | tk, c :: r => ents 3 tk c ++ bigE (tk + 51) r
def bigS : Nat → List (List (Int × Str)) → List Obj
  | _, [] => []
  | tk, c :: r => dictObj (ents 3 tk c) :: bigS (tk + 51) r
theorem bigE_length : ∀ (cs : List (List (Int × Str))) (tk : Nat), (bigE tk cs).length = cs.flatten.length
  | [], _ => rfl
  | c :: r, tk => by rw [bigE, List.length_append, ents_length, bigE_length r, List.flatten_cons, List.length_append]
theorem bigE_hash : ∀ (cs : List (List (Int × Str))) (tk : Nat), ∀ e ∈ bigE tk cs, ∃ x ∈ cs.flatten, e.hash = x.1
  | [], _, e, h => nomatch h
  | c :: r, tk, e, h => by
    rcases List.mem_append.mp h with h | h
    · obtain ⟨x, hx, e, _⟩ := ents_hash 3 tk c e h
      exact ⟨x, by rw [List.flatten_cons]; exact List.mem_append_left _ hx, e⟩
    · obtain ⟨x, hx, e⟩ := bigE_hash r _ e h
      exact ⟨x, by rw [List.flatten_cons]; exact List.mem_append_right _ hx, e⟩
theorem ents_inc (stp : Nat) : ∀ (l : List (Int × Str)) (tk : Nat), l.Pairwise (fun a b => a.1 < b.1) → (ents stp tk l).Pairwise fun a b => a.hash < b.hash
  | [], _, _ => .nil
  | x :: r, tk, h => by
    refine .cons (fun e he => ?_) (ents_inc stp r _ (List.pairwise_cons.mp h).2)
    obtain ⟨y, hy, e', _⟩ := ents_hash stp _ r e he
    rw [e']
    exact (List.pairwise_cons.mp h).1 y hy
theorem okm_of {em : List DictEntry} {stp tk : Nat} {c : List (Int × Str)} (h : ∀ e ∈ em, ∀ y ∈ c, e.hash < y.1) (hc : c.Pairwise fun a b => a.1 < b.1) : Okm em (ents stp tk c) where
  lt := fun e he y hy => by
    obtain ⟨x, hx, e', _⟩ := ents_hash stp tk c y hy
    rw [e']; exact h e he x hx
  inc := ents_inc stp c tk hc
  form := fun e he => by
    obtain ⟨x, hx, _, t, u, e'⟩ := ents_hash stp tk c e he
    exact ⟨_, _, _, e'⟩
section
variable {w : World} {b : Bool} {pos : Pos} {B : List Obj} {d : Addr} {gens : Array GenState} {drawn : Drawn} {os : OsState}
  {body : Option (Sem Value) × Sem Value → DSt → Sem (ForInStep DSt)} {flush : List (Sem Value × Sem Value) → Option Addr → Sem (Option Addr)}
structure Disp (body : Option (Sem Value) × Sem Value → DSt → Sem (ForInStep DSt)) (flush : List (Sem Value × Sem Value) → Option Addr → Sem (Option Addr)) : Prop where
  on : ∀ k v main run, (run.length + 1 = 17 → False) → body (some k, v) (main, run) = pure (.yield (main, run ++ [(k, v)]))
  off : ∀ k v main run, run.length + 1 = 17 → body (some k, v) (main, run) = (do let m ← flush (run ++ [(k, v)]) main; pure (.yield (m, [])))
  one : ∀ p run, flush (p :: run) none = (do let r ← subDict (p :: run); pure (some r))
  two : ∀ p run d, ∃ h : Addr → Value → Sem Unit, flush (p :: run) (some d) = (do let sub ← holding [.ref d] (subDict (p :: run)); (holding [.ref d, .ref sub] (mergeMapping d (.ref sub) false)).onRaise (h sub); pure (some d))
theorem accum (D : Disp body flush) {main : Option Addr} {rest : List (Option (Sem Value) × Sem Value)} : ∀ (l : List (Int × Str)) (run : List (Sem Value × Sem Value)), run.length + l.length ≤ 16 →
    forIn (l.map (it pos) ++ rest) (main, run) body = forIn rest (main, run ++ l.map (pr pos)) body
  | [], run, _ => by rw [List.map_nil, List.nil_append, List.map_nil, List.append_nil]
  | y :: l, run, h => by
    rw [List.length_cons] at h
    rw [List.map_cons, List.cons_append, List.forIn_cons, show it pos y = (some (pr pos y).1, (pr pos y).2) from rfl, D.on _ _ _ _ (by omega)]
    have := accum D (main := main) (rest := rest) l (run ++ [pr pos y]) (by rw [List.length_append, List.length_singleton]; omega)
    rw [List.append_assoc] at this
    exact this
theorem run_chunk (D : Disp body flush) {α : Type} {main m' : Option Addr} {c : List (Int × Str)} {rest : List (Option (Sem Value) × Sem Value)} {n m : Nat} {s s1 s' : Shared} {r : DSt} (hc : c.length = 17)
    (hf : Run w n s pos (flush (c.map (pr pos)) main) s1 pos m') (hr : Run w m s1 pos (forIn rest (m', []) body) s' pos r) :
    Run w (n + m) s pos (forIn (c.map (it pos) ++ rest) (main, []) body) s' pos r := by
  obtain ⟨c1, y, rfl⟩ : ∃ c1 y, c = c1 ++ [y] := ⟨c.dropLast, c.getLast (by intro h; rw [h] at hc; cases hc), (List.dropLast_concat_getLast _).symm⟩
  rw [List.length_append, List.length_singleton] at hc
  rw [List.map_append, List.map_singleton, List.append_assoc, accum D c1 [] (by rw [List.length_nil]; omega), List.nil_append, List.singleton_append, List.forIn_cons,
    show it pos y = (some (pr pos y).1, (pr pos y).2) from rfl, D.off _ _ _ _ (by rw [List.length_map]; omega)]
  rw [List.map_append, List.map_singleton] at hf
  refine run_cast (n := (n + 0) + m) (by omega) ?_
  refine run_bind (a := ForInStep.yield (m', [])) ?_ hr
  exact run_bind hf run_pure
theorem run_flush2 (D : Disp body flush) {S : List Obj} {em : List DictEntry} {c : List (Int × Str)} {toks n tk' : Nat} {E : List DictEntry} (hd : B.length = d) (hb : Nat.ble 11 d = true) (hne : c ≠ []) (hE : E.length = c.length)
    (hsub : Run (wr w b) n ⟨heapL (B ++ dictObj em :: S), gens, drawn, toks, os⟩ pos (subDict (c.map (pr pos))) ⟨heapL ((B ++ dictObj em :: S) ++ [dictObj E]), gens, drawn, tk', os⟩ pos (B ++ dictObj em :: S).length)
    (hm : em ≠ []) (ok : Okm em E) (hl : em.length + c.length < 1000) (hs : ∀ k, ((B.length + 1 + k) == sysModules) = false) :
    Run (wr w b) (n + (5 + 6 * c.length)) ⟨heapL (B ++ dictObj em :: S), gens, drawn, toks, os⟩ pos (flush (c.map (pr pos)) (some d)) ⟨heapL (B ++ dictObj (em ++ E) :: (S ++ [dictObj E])), gens, drawn, tk', os⟩ pos (some d) := by
  obtain ⟨y, r, rfl⟩ : ∃ y r, c = y :: r := by cases c with | nil => exact absurd rfl hne | cons y r => exact ⟨y, r, rfl⟩
  rw [List.map_cons] at hsub ⊢
  obtain ⟨h, e⟩ := D.two (pr pos y) (r.map (pr pos)) d
  rw [e]
  refine run_cast (n := n + ((5 + 6 * E.length) + 0)) (by rw [hE]; omega) ?_
  refine run_bind (run_holding hsub) ?_
  refine run_bind (a := ()) (run_onRaise (run_holding ?_)) run_pure
  rw [show (B ++ dictObj em :: S) ++ [dictObj E] = B ++ dictObj em :: (S ++ [dictObj E]) by simp]
  have hlen : (B ++ dictObj em :: S).length = B.length + 1 + S.length := by rw [List.length_append, List.length_cons]; omega
  exact run_merge hd hb hlen.symm (by rw [hlen]; exact hs _) hm ok (by rw [hE]; exact hl)
theorem run_chunks (D : Disp body flush) (hd : B.length = d) (hb : Nat.ble 11 d = true) (hs : ∀ k, ((B.length + 1 + k) == sysModules) = false) (tl : List (Int × Str)) (htl : tl.length ≤ 16) :
    ∀ (cs : List (List (Int × Str))) (em : List DictEntry) (S : List Obj) (toks : Nat), (∀ c ∈ cs, c.length = 17) → em ≠ [] → em.length + cs.flatten.length < 1000 →
      (∀ e ∈ em, ∀ y ∈ cs.flatten, e.hash < y.1) → cs.flatten.Pairwise (fun a b => a.1 < b.1) → (∀ y ∈ cs.flatten, 0 ≤ y.1 ∧ y.1 < 2 ^ 60) →
      Run (wr w b) (330 * cs.length) ⟨heapL (B ++ dictObj em :: S), gens, drawn, toks, os⟩ pos (forIn ((cs.flatten ++ tl).map (it pos)) (some d, []) body)
        ⟨heapL (B ++ dictObj (em ++ bigE toks cs) :: (S ++ bigS toks cs)), gens, drawn, toks + 51 * cs.length, os⟩ pos (some d, tl.map (pr pos))
  | [], em, S, toks, _, _, _, _, _, _ => by
    have := accum D (pos := pos) (main := some d) (rest := []) tl [] (by rw [List.length_nil]; omega)
    rw [List.append_nil] at this
    rw [List.flatten_nil, List.nil_append, this, bigE, bigS, List.append_nil, List.append_nil]
    exact run_pure
  | c :: cs, em, S, toks, hc, hm, hl, h1, h2, h3 => by
    rw [List.flatten_cons] at hl h1 h2 h3
    rw [List.length_append] at hl
    have hcl : c.length = 17 := hc c (.head _)
    obtain ⟨p1, p2, p3⟩ := List.pairwise_append.mp h2
    rw [List.flatten_cons, List.append_assoc, List.map_append]
    refine run_cast (n := (223 + (5 + 6 * c.length)) + 330 * cs.length) (by rw [hcl, List.length_cons]; omega) ?_
    refine run_chunk D hcl ?_ ?_ (α := Unit) (m' := some d) (s1 := ⟨heapL (B ++ dictObj (em ++ ents 3 toks c) :: (S ++ [dictObj (ents 3 toks c)])), gens, drawn, toks + 51, os⟩)
    · refine run_flush2 D hd hb (by intro e; rw [e] at hcl; cases hcl) (ents_length ..) (run_subDict c ⟨fun e he => (nomatch he), p1, fun y hy => h3 y (List.mem_append_left _ hy)⟩ hcl ?_) hm (okm_of (fun e he y hy => h1 e he y (List.mem_append_left _ hy)) p1) (by omega) hs
      rw [List.length_append, List.length_cons, hd]
      have := Nat.le_of_ble_eq_true hb
      exact Nat.ble_eq_true_of_le (by omega)
    · have ih := run_chunks D hd hb hs tl htl cs (em ++ ents 3 toks c) (S ++ [dictObj (ents 3 toks c)]) (toks + 51) (fun c' h' => hc c' (.tail _ h')) (by intro e; exact hm (List.append_eq_nil_iff.mp e).1)
        (by rw [List.length_append, ents_length]; omega)
        (fun e he y hy => by
          rcases List.mem_append.mp he with q | q
          · exact h1 e q y (List.mem_append_right _ hy)
          · obtain ⟨x, hx, e', _⟩ := ents_hash 3 toks c e q
            rw [e']; exact p3 x hx y hy) p2 (fun y hy => h3 y (List.mem_append_right _ hy))
      rw [List.append_assoc, List.append_assoc] at ih
      rw [bigE, bigS, show toks + 51 * (c :: cs).length = toks + 51 + 51 * cs.length by rw [List.length_cons]; omega]
      exact ih
end
end Mine
end
section
set_option maxRecDepth 100000
open PySem PySem.W PySem.Calls PyProof.Rows
namespace Mine
def tg3 : List PySem.Expr := match stmtAt 3 with | .Assign t _ _ => t | _ => []
def ks3 : List (Option PySem.Expr) := match stmtAt 3 with | .Assign _ (.Dict ks _ _) _ => ks | _ => []
def vs3 : List PySem.Expr := match stmtAt 3 with | .Assign _ (.Dict _ vs _) _ => vs | _ => []
def dp3 : Pos := match stmtAt 3 with | .Assign _ (.Dict _ _ p) _ => p | _ => posB
def ap3 : Pos := match stmtAt 3 with | .Assign _ _ p => p | _ => posB
theorem st3 : stmtAt 3 = .Assign tg3 (.Dict ks3 vs3 dp3) ap3 := by kernel_rfl
def constOk : List (Option PySem.Expr) → List PySem.Expr → Bool
  | some (.Constant (.int _) _ _) :: ks, .Constant (.str _) _ _ :: vs => constOk ks vs
  | [], [] => true
  | _, _ => false
def pairsOf : List (Option PySem.Expr) → List PySem.Expr → List (Int × Str)
  | some (.Constant (.int i) _ _) :: ks, .Constant (.str s) _ _ :: vs => (i, s) :: pairsOf ks vs
  | _, _ => []
theorem items_of (env : Env) (pos : Pos) : ∀ (ks : List (Option PySem.Expr)) (vs : List PySem.Expr), constOk ks vs = true →
    (evalEachOpt ks env).zip ((evalEach vs env).map fun v => (do let x ← v; standAt pos; pure x)) = (pairsOf ks vs).map (it pos)
  | [], [], _ => rfl
  | [], _ :: _, h => by cases h
  | none :: _, _, h => by cases h
  | some k :: ks, [], h => by
    cases k with
    | Constant c _ _ => cases c <;> cases h
    | _ => cases h
  | some k :: ks, v :: vs, h => by
    cases k with
    | Constant c _ _ =>
      cases c with
      | int i =>
        cases v with
        | Constant c' _ _ =>
          cases c' with
          | str s =>
            have ih := items_of env pos ks vs h
            show _ :: _ = _ :: _
            rw [← ih]
            rfl
          | _ => cases h
        | _ => cases h
      | _ => cases h
    | _ => cases h
def b3list : List (Int × Str) := pairsOf ks3 vs3
theorem b3_const : constOk ks3 vs3 = true := by kernel_rfl
def incB : List (Int × Str) → Bool
  | x :: y :: r => decide (x.1 < y.1) && incB (y :: r)
  | _ => true
theorem incB_inc : ∀ l : List (Int × Str), incB l = true → l.Pairwise fun a b => a.1 < b.1
  | [], _ => .nil
  | [_], _ => List.pairwise_singleton ..
  | x :: y :: r, h => by
    obtain ⟨h1, h2⟩ := Bool.and_eq_true_iff.mp h
    have h1 := of_decide_eq_true h1
    have ih := incB_inc (y :: r) h2
    refine .cons (fun z hz => ?_) ih
    rcases List.mem_cons.mp hz with rfl | hz
    · exact h1
    · exact Int.lt_trans h1 ((List.pairwise_cons.mp ih).1 z hz)
theorem b3_inc : b3list.Pairwise fun a b => a.1 < b.1 := incB_inc _ (by kernel_rfl)
theorem b3_rng : ∀ y ∈ b3list, 0 ≤ y.1 ∧ y.1 < 2 ^ 60 := by
  have h : b3list.all (fun y => decide (0 ≤ y.1 ∧ y.1 < 2 ^ 60)) = true := by kernel_rfl
  exact fun y hy => of_decide_eq_true (List.all_eq_true.mp h y hy)
def chunks : Nat → List (Int × Str) → List (List (Int × Str))
  | 0, _ => []
  | n + 1, l => l.take 17 :: chunks n (l.drop 17)
def ch0 : List (Int × Str) := b3list.take 17
def cs3 : List (List (Int × Str)) := chunks 37 (b3list.drop 17)
def tl3 : List (Int × Str) := b3list.drop 646
theorem b3_parts : b3list = ch0 ++ (cs3.flatten ++ tl3) := by kernel_rfl
theorem cs3_len : ∀ c ∈ cs3, c.length = 17 := by
  have h : cs3.all (fun c => c.length == 17) = true := by kernel_rfl
  exact fun c hc => eq_of_beq (List.all_eq_true.mp h c hc)
theorem ch0_len : ch0.length = 17 := by kernel_rfl
theorem tl3_len : tl3.length = 4 := by kernel_rfl
theorem cs3_num : cs3.length = 37 := by kernel_rfl
theorem cs3_flat : cs3.flatten.length = 629 := by kernel_rfl
def subTl : Obj := dictObj (ents 2 2194 tl3)
def mainD : Obj := dictObj ((ents 3 256 ch0 ++ bigE 307 cs3) ++ ents 2 2194 tl3)
def subs3 : List Obj := bigS 307 cs3 ++ [subTl]
end Mine
end
section
set_option maxRecDepth 100000
open PySem PySem.W PySem.Calls PyProof.Rows
namespace Mine
section
variable {w : World} {b : Bool} {pos : Pos} {B : List Obj} {gens : Array GenState} {drawn : Drawn} {os : OsState}
theorem display_any {body : Option (Sem Value) × Sem Value → DSt → Sem (ForInStep DSt)} {flush : List (Sem Value × Sem Value) → Option Addr → Sem (Option Addr)} {fin : Option Addr → Sem Value} (D : Disp body flush) (hB : B.length = 33) (hfin : ∀ d, fin (some d) = pure (.ref d)) :
    Run (wr w b) 12515 ⟨heapL B, gens, drawn, 256, os⟩ pos (do let s ← forIn (b3list.map (it pos)) ((none, []) : DSt) body; let r ← flush s.2 s.1; fin r)
      ⟨heapL (B ++ mainD :: subs3), gens, drawn, 2206, os⟩ pos (.ref 33) := by
  have hinc := b3_inc
  have hrng := b3_rng
  rw [b3_parts] at hinc hrng
  obtain ⟨i1, i2, i3⟩ := List.pairwise_append.mp hinc
  obtain ⟨j1, j2, j3⟩ := List.pairwise_append.mp i2
  have hsm : sysModules < 34 := by decide
  have hs : ∀ k, ((B.length + 1 + k) == sysModules) = false := fun k => beq_eq_false_iff_ne.mpr (by
    rw [hB]
    intro e
    have h : 33 + 1 + k < 34 := Nat.lt_of_le_of_lt (Nat.le_of_eq e) hsm
    exact absurd h (by omega))
  have hb : Nat.ble 11 33 = true := rfl
  show Run _ ((223 + 330 * cs3.length) + ((53 + (5 + 6 * tl3.length)) + 0)) _ _ _ _ _ _
  have hm : ents 3 256 ch0 ≠ [] := by
    intro e
    have := congrArg List.length e
    rw [ents_length, ch0_len] at this
    cases this
  have hE : (ents 3 256 ch0 ++ bigE 307 cs3).length = 646 := by rw [List.length_append, ents_length, bigE_length, ch0_len, cs3_flat]
  refine run_bind (s1 := ⟨heapL (B ++ dictObj (ents 3 256 ch0 ++ bigE 307 cs3) :: bigS 307 cs3), gens, drawn, 2194, os⟩) (q1 := pos) (a := (some 33, tl3.map (pr pos))) ?_ ?_
  · rw [b3_parts, List.map_append]
    refine run_chunk D ch0_len (α := Unit) (m' := some 33) (s1 := ⟨heapL (B ++ [dictObj (ents 3 256 ch0)]), gens, drawn, 307, os⟩) ?_ ?_
    · obtain ⟨y, r, e⟩ : ∃ y r, ch0 = y :: r := by
        cases h : ch0 with
        | nil => have := ch0_len; rw [h] at this; cases this
        | cons y r => exact ⟨y, r, rfl⟩
      have h := run_subDict (w := w) (b := b) (pos := pos) (gens := gens) (drawn := drawn) (os := os) (L := B) (toks := 256) ch0 ⟨fun e he => (nomatch he), i1, fun y hy => hrng y (List.mem_append_left _ hy)⟩ ch0_len (by rw [hB]; rfl)
      rw [hB] at h
      rw [e] at h ⊢
      rw [List.map_cons] at h ⊢
      rw [D.one]
      exact run_bind (n := 223) (m := 0) (f := fun r => pure (some r)) h run_pure
    · have h := run_chunks (w := w) (b := b) (pos := pos) (gens := gens) (drawn := drawn) (os := os) D hB hb hs tl3 (by rw [tl3_len]; decide) cs3 (ents 3 256 ch0) [] 307 cs3_len hm (by rw [ents_length, ch0_len, cs3_flat]; decide)
        (fun e he y hy => by
          obtain ⟨x, hx, e', _⟩ := ents_hash 3 256 ch0 e he
          rw [e']; exact i3 x hx y (List.mem_append_left _ hy)) j1 (fun y hy => hrng y (List.mem_append_right _ (List.mem_append_left _ hy)))
      rw [List.nil_append] at h
      rw [show 307 + 51 * cs3.length = 2194 by rw [cs3_num]] at h
      exact h
  · refine run_bind (s1 := ⟨heapL (B ++ mainD :: subs3), gens, drawn, 2206, os⟩) (q1 := pos) (a := some 33) ?_ (by rw [hfin]; exact run_pure)
    have hL : (B ++ dictObj (ents 3 256 ch0 ++ bigE 307 cs3) :: bigS 307 cs3).length = B.length + 1 + (bigS 307 cs3).length := by rw [List.length_append, List.length_cons]; omega
    exact run_flush2 D hB hb (by intro e; have := tl3_len; rw [e] at this; cases this) (ents_length ..)
      (run_subDict4 tl3 ⟨fun e he => (nomatch he), j2, fun y hy => hrng y (List.mem_append_right _ (List.mem_append_right _ hy))⟩ tl3_len (by rw [hL, hB]; exact Nat.ble_eq_true_of_le (by omega)))
      (by intro e; exact hm (List.append_eq_nil_iff.mp e).1)
      (okm_of (fun e he y hy => by
        rcases List.mem_append.mp he with q | q
        · obtain ⟨x, hx, e', _⟩ := ents_hash 3 256 ch0 e q
          rw [e']; exact i3 x hx y (List.mem_append_right _ hy)
        · obtain ⟨x, hx, e'⟩ := bigE_hash cs3 307 e q
          rw [e']; exact j3 x hx y hy) j2) (by rw [hE, tl3_len]; decide) hs
/-- what the display does with a run of pairs -/
abbrev flushD (run : List (Sem Value × Sem Value)) (main : Option Addr) : Sem (Option Addr) :=
  if run.isEmpty = true then pure main else match main with
    | none => do let r ← subDict run; pure (some r)
    | some d => do
      let sub ← holding [.ref d] (subDict run)
      (holding [.ref d, .ref sub] (mergeMapping d (.ref sub) false)).onRaise fun x => do
        let _ ← holding [.ref d, x] (runValue (.builtin "proto.let_go" {}))
        pure ()
      pure (some d)
theorem run_b3 (hB : B.length = 33) : Run (wr w b) 12515 ⟨heapL B, gens, drawn, 256, os⟩ pos (dictDisplay (b3list.map (it pos))) ⟨heapL (B ++ mainD :: subs3), gens, drawn, 2206, os⟩ pos (.ref 33) := by
  refine display_any (flush := flushD) (fin := fun r => match r with | some d => pure (.ref d) | none => newDict) ⟨fun k v main run h => ?_, fun k v main run h => ?_, fun p run => rfl, fun p run d => ⟨_, rfl⟩⟩ hB fun _ => rfl
  · show (if ((run ++ [(k, v)]).length == 17) = true then _ else _) = _
    rw [if_neg (by rw [List.length_append, List.length_singleton]; intro e; exact h (eq_of_beq e))]
  · show (if ((run ++ [(k, v)]).length == 17) = true then _ else _) = _
    rw [if_pos (by rw [List.length_append, List.length_singleton, h]; rfl)]
    rfl
end
end Mine
end
section
set_option maxRecDepth 100000
open PySem PySem.W PySem.Calls PyProof.Rows
namespace Mine
def asg (t : List PySem.Expr) (v : PySem.Expr) (p : Pos) (env : Env) : { x : Sem Flow × (Value → Sem Flow) // exec (.Assign t v p) env = (standAt p >>= fun _ => swapsWithSole t v p.line env >>= fun sw => if sw = true then x.1 else eval v env >>= x.2) } :=
  ⟨(_, _), rfl⟩
noncomputable def B33 (P : Params) : List Obj := boot15 P (m4 P) (c4 P) ++ l26 P ++ l33 P
noncomputable def B72 (P : Params) : List Obj := (boot15 P (m5 P) (c5 P) ++ l26 P ++ l33 P) ++ mainD :: subs3
def p3 : Pos := ⟨5, 0, 5, 13⟩
set_option maxHeartbeats 0
theorem sw_run (w : World) (b : Bool) (P : Params) (gens : Array GenState) (drawn : Drawn) (toks : Nat) (os : OsState) (q : Pos) :
    Run (wr w b) 0 ⟨heapL (B33 P), gens, drawn, toks, os⟩ q (swapsWithSole tg3 (.Dict ks3 vs3 dp3) ap3.line envM) ⟨heapL (B33 P), gens, drawn, toks, os⟩ q false := by
  intro K H gd lv
  rw [go_tw', tab_tw]
  kernel_rfl
end Mine
namespace Mine
theorem segr_tw : @segRun = PySem.W.Fast.tw14374325043358763698 := PySem.W.Fast.te14374325043358763698
theorem rest3 (w : World) (b : Bool) (os : OsState) :
    segRun treeTable prog (wr w b) 11 (some (.ref 6)) 1 8 ⟨heapL (B33 (wr w b).params ++ mainD :: subs3), Array.mk [], boot_drawn, 2206, os⟩ ⟨((asg tg3 (.Dict ks3 vs3 dp3) ap3 envM).1.2 (.ref 33)).wrap doneF deadEnd id id, codeM, dp3, stk0⟩
      = some (.next, ⟨heapL (B72 (wr w b).params), Array.mk [], boot_drawn, 2207, os⟩, codeM, p3) := by
  rw [segr_tw, tab_tw]
  kernel_rfl
end Mine
end
section
set_option maxRecDepth 100000
open PySem PySem.W PySem.Calls PyProof.Rows
namespace Mine
set_option maxHeartbeats 0
theorem topgo_tw : @topGo = PySem.W.Fast.tw15667345088766844465 := PySem.W.Fast.te15667345088766844465
theorem toprun_tw : @topRun = PySem.W.Fast.tw14082659384304107361 := PySem.W.Fast.te14082659384304107361
abbrev ann0 : Option Value := some (.ref 6)
noncomputable def sh (os : OsState) (tk : Nat) (l : List Obj) : Shared := ⟨heapL l, Array.mk [], boot_drawn, tk, os⟩
theorem pre_run (w : World) (os : OsState) : topGo treeTable prog w 11 ann0 12 ⟨boot_heap w.params, Array.mk [], boot_drawn, boot_toks, os⟩ (topStub prog) = some (sh os 187 (boot15 w.params (m0 w.params) (c0 w.params)), ⟨denote treeTable codeM, codeM, posB, stk0⟩) := by
  kernel_rfl
theorem block_run (w : World) (os : OsState) : segRun treeTable prog w 11 ann0 1 1 (sh os 187 (boot15 w.params (m0 w.params) (c0 w.params))) (blockOf (behindTheImports prog) envM codeM posB stk0) = some (.next, sh os 187 (boot15 w.params (m0 w.params) (c0 w.params)), codeM, posB) := by
  kernel_rfl
theorem run0 (w : World) (os : OsState) : segRun treeTable prog w 11 ann0 1 10 (sh os 187 (boot15 w.params (m0 w.params) (c0 w.params))) (pieceOf (stmtAt 0) envM codeM posB stk0) = some (.next, sh os 189 (boot15 w.params (m2 w.params) (c2 w.params)), codeM, p0) := by
  rw [segr_tw, tab_tw]; kernel_rfl
noncomputable def P1 (w : World) : Prop := ∀ os, segRun treeTable prog w 11 ann0 1 999 (sh os 189 (boot15 w.params (m2 w.params) (c2 w.params))) (pieceOf (stmtAt 1) envM codeM p0 stk0) = some (.next, sh os 249 (boot15 w.params (m3 w.params) (c3 w.params) ++ l26 w.params), codeM, p1)
theorem run1ff (w : World) : P1 ((w.withFollow "set-order" false).withFollow "special-get-raises" false) := by
  intro os; rw [segr_tw, tab_tw]; kernel_rfl
theorem run1ft (w : World) : P1 ((w.withFollow "set-order" false).withFollow "special-get-raises" true) := by
  intro os; rw [segr_tw, tab_tw]; kernel_rfl
theorem run1tf (w : World) : P1 ((w.withFollow "set-order" true).withFollow "special-get-raises" false) := by
  intro os; rw [segr_tw, tab_tw]; kernel_rfl
theorem run1tt (w : World) : P1 ((w.withFollow "set-order" true).withFollow "special-get-raises" true) := by
  intro os; rw [segr_tw, tab_tw]; kernel_rfl
end Mine
end
section
set_option maxRecDepth 100000
open PySem PySem.W PySem.Calls PyProof.Rows
namespace Mine
set_option maxHeartbeats 0
theorem run1 (w : World) : P1 w := by
  refine byRow2 "special-get-raises" (P := P1) (fun w => ?_) (fun w => ?_) w
  · have := byRow2 "set-order" (P := fun w => P1 (w.withFollow "special-get-raises" false)) run1ff run1tf w
    exact this
  · have := byRow2 "set-order" (P := fun w => P1 (w.withFollow "special-get-raises" true)) run1ft run1tt w
    exact this
theorem run2 (w : World) (os : OsState) : segRun treeTable prog w 11 ann0 1 30 (sh os 249 (boot15 w.params (m3 w.params) (c3 w.params) ++ l26 w.params)) (pieceOf (stmtAt 2) envM codeM p1 stk0) = some (.next, sh os 256 (B33 w.params), codeM, p2) := by
  rw [segr_tw, tab_tw]; kernel_rfl
theorem run3b (w : World) (b : Bool) (os : OsState) : segRun treeTable prog (wr w b) 11 ann0 1 12525 (sh os 256 (B33 (wr w b).params)) (pieceOf (stmtAt 3) envM codeM p2 stk0) = some (.next, sh os 2207 (B72 (wr w b).params), codeM, p3) := by
  have hB : (B33 (wr w b).params).length = 33 := rfl
  rw [st3]
  have key : segGo treeTable prog (wr w b) 11 ann0 1 12517 (sh os 256 (B33 (wr w b).params)) (pieceOf (.Assign tg3 (.Dict ks3 vs3 dp3) ap3) envM codeM p2 stk0) =
      some (⟨heapL (B33 (wr w b).params ++ mainD :: subs3), Array.mk [], boot_drawn, 2206, os⟩, ⟨((asg tg3 (.Dict ks3 vs3 dp3) ap3 envM).1.2 (.ref 33)).wrap doneF deadEnd id id, codeM, dp3, stk0⟩) := by
    unfold pieceOf
    have e := (asg tg3 (.Dict ks3 vs3 dp3) ap3 envM).2
    generalize (asg tg3 (.Dict ks3 vs3 dp3) ap3 envM).1 = x at e ⊢
    rw [e, Sem.bind_eq_wrap', Sem.wrap_wrap]
    show segGo treeTable prog (wr w b) 11 ann0 1 (1 + (0 + (12515 + 1))) _ _ = _
    refine segGo_add ((show Run (wr w b) (0 + 1) (sh os 256 (B33 (wr w b).params)) p2 (Sem.at ap3 .pure) _ _ _ from run_at run_pure) _ _ _ _) ?_
    rw [Sem.bind_eq_wrap', Sem.wrap_wrap]
    refine segGo_add (sw_run w b _ _ _ _ _ _ _ _ _ _) ?_
    try dsimp only
    rw [if_neg (by decide), Sem.bind_eq_wrap', Sem.wrap_wrap]
    have h : Run (wr w b) (12515 + 1) (sh os 256 (B33 (wr w b).params)) ap3 (eval (.Dict ks3 vs3 dp3) envM) ⟨heapL (B33 (wr w b).params ++ mainD :: subs3), Array.mk [], boot_drawn, 2206, os⟩ dp3 (.ref 33) := by
      show Run (wr w b) (12515 + 1) _ _ (Sem.at dp3 fun _ => dictDisplay ((evalEachOpt ks3 envM).zip ((evalEach vs3 envM).map fun v => (do let x ← v; standAt dp3; pure x)))) _ _ _
      refine run_at ?_
      rw [items_of envM dp3 ks3 vs3 b3_const]
      exact run_b3 hB
    exact h _ _ _ _
  exact seg_go (n := 12517) (N := 8) key (rest3 w b os)
theorem run3 (w : World) : ∀ os, segRun treeTable prog w 11 ann0 1 12525 (sh os 256 (B33 w.params)) (pieceOf (stmtAt 3) envM codeM p2 stk0) = some (.next, sh os 2207 (B72 w.params), codeM, p3) :=
  byRow2 "special-get-raises" (P := fun w => ∀ os, segRun treeTable prog w 11 ann0 1 12525 (sh os 256 (B33 w.params)) (pieceOf (stmtAt 3) envM codeM p2 stk0) = some (.next, sh os 2207 (B72 w.params), codeM, p3)) (fun w => run3b w false) (fun w => run3b w true) w
def rest4 : List Stmt := prog.main.body.drop 4
def pF : Pos := ⟨60, 0, 62, 76⟩
noncomputable def l124 (P : Params) : List Obj := [o72 P, o73 P, o74 P, o75 P, o76 P, o77 P, o78 P, o79 P, o80 P, o81 P, o82 P, o83 P, o84 P, o85 P, o86 P, o87 P, o88 P, o89 P, o90 P, o91 P, o92 P, o93 P, o94 P, o95 P, o96 P, o97 P, o98 P, o99 P, o100 P, o101 P, o102 P, o103 P, o104 P, o105 P, o106 P, o107 P, o108 P, o109 P, o110 P, o111 P, o112 P, o113 P, o114 P, o115 P, o116 P, o117 P, o118 P, o119 P, o120 P, o121 P, o122 P, o123 P]
noncomputable def B124 (P : Params) : List Obj := (boot15 P (m16 P) (c16 P) ++ l26 P ++ l33 P) ++ ((mainD :: subs3) ++ l124 P)
theorem run4 (w : World) (os : OsState) : segRun treeTable prog w 11 ann0 1 400 (sh os 2207 (B72 w.params)) (piecesOf rest4 envM codeM p3 stk0) = some (.next, sh os 2284 (B124 w.params), codeM, pF) := by
  rw [segr_tw, tab_tw]; kernel_rfl
theorem fin_run' (w : World) (os : OsState) : topRun treeTable prog w 11 ann0 2 (sh os 2284 (B124 w.params)) ⟨doneF .next, codeM, pF, stk0⟩ = some (sh os 2284 (B124 w.params)) := by
  kernel_rfl
theorem body_parts : behindTheImports prog = stmtAt 0 :: stmtAt 1 :: stmtAt 2 :: stmtAt 3 :: (rest4 ++ []) := by kernel_rfl
theorem top_run (w : World) (os : OsState) : topRun treeTable prog w 11 ann0 (12 + (1 + (10 + (999 + (30 + (12525 + (400 + 2))))))) ⟨boot_heap w.params, Array.mk [], boot_drawn, boot_toks, os⟩ (topStub prog) = some (sh os 2284 (B124 w.params)) := by
  refine go_top (pre_run w os) ?_
  refine piece_block (q := posB) (b := behindTheImports prog) (c := codeM) (block_run w os) ?_
  rw [body_parts]
  refine piece_cons (run0 w os) ?_
  refine piece_cons (run1 w os) ?_
  refine piece_cons (run2 w os) ?_
  refine piece_cons (run3 w os) ?_
  refine piece_app (run4 w os) ?_
  exact piece_nil (fin_run' w os)
end Mine
end
section
set_option maxRecDepth 100000
open PySem PySem.W PySem.Calls PyProof.Rows
set_option linter.unusedVariables false
namespace Mine
set_option maxHeartbeats 0
theorem seen_tw : @openSeen = PySem.W.Fast.tw4187177175401517315 := PySem.W.Fast.te4187177175401517315
theorem size0 (w : World) : ((boot_heap w.params).isNs mainGlobals && (Array.mk [] : Array GenState).size == 0, (boot_heap w.params).objs.size, (boot_heap w.params).nsMap mainGlobals "__annotations__") = (true, 11, ann0) := by kernel_rfl
theorem open0 {N : Nat} (hN : Nat.ble 600 N = true) : ∀ w : World, (fencedOpening treeTable prog w N).map (fun s => (s.heap, s.gens, s.drawn, s.toks)) = some (boot_heap w.params, Array.mk [], boot_drawn, boot_toks) :=
  boot_open (by kernel_rfl) hN fun s => by kernel_rfl
/-- the keys of a table climb -/
def incFrom : Int → List (PyData × PyData) → Bool
  | _, [] => true
  | a, (.int k, _) :: D => decide (a < k) && incFrom k D
  | _, _ => false
theorem inc_noKey {k : Int} : ∀ {D : List (PyData × PyData)} {a : Int}, incFrom a D = true → k ≤ a → hasIntKey k D = false
  | [], _, _, _ => rfl
  | (.int j, d) :: D, a, h, hk => by
    unfold incFrom at h
    rw [Bool.and_eq_true, decide_eq_true_eq] at h
    have r := inc_noKey (k := k) h.2 (by omega)
    have hne : j ≠ k := by omega
    unfold hasIntKey
    simp [r, hne]
theorem inc_apart : ∀ {D : List (PyData × PyData)} {a : Int}, incFrom a D = true → keysApartInt D = true
  | [], _, _ => rfl
  | (.int j, d) :: D, a, h => by
    unfold incFrom at h
    rw [Bool.and_eq_true] at h
    show (!hasIntKey j D && keysApartInt D) = true
    rw [inc_noKey h.2 (Int.le_refl _), inc_apart h.2]; rfl
def tabFast (h : Heap) (name : Str) (D : List (PyData × PyData)) : Bool :=
  match h.nsMap mainGlobals name with
  | some (.ref a) => (match h.get? a with
    | some o => (match o.cls, o.dict, o.data with
      | .type n, none, .dict es _ => (n == "dict") && (o.slots.size == 0) && entriesAreInt es.toList D && incFrom (-1) D && (a != sysModules)
      | _, _, _ => false)
    | none => false)
  | _ => false
theorem tab_of_fast {h : Heap} {name : Str} {D : List (PyData × PyData)} (x : tabFast h name D = true) : h.tabIntOk name D = true := by
  unfold tabFast at x
  unfold Heap.tabIntOk
  split at x
  · rename_i a e
    split at x
    · rename_i o eo
      split at x
      · rename_i n es ep h1 h2 h3
        simp only [Bool.and_eq_true] at x
        rw [e]
        dsimp only
        rw [eo]
        dsimp only
        rw [h1, h2, h3]
        simp only [Bool.and_eq_true]
        exact ⟨⟨⟨x.1.1.1, x.1.1.2⟩, inc_apart x.1.2⟩, x.2⟩
      · cases x
    · cases x
  · cases x
def tablesFast (p : Program) (h : Heap) : Bool := (valNames p).all fun x =>
  (match tupIntsOf p x with | some ns => h.tupIntsOk x ns | none => true) &&
  (match tupStrsOf p x with | some ss => h.tupStrsOk x ss | none => true) &&
  (match tabIntOf p x with | some D => tabFast h x D | none => true)
theorem tables_of_fast {p : Program} {h : Heap} (x : tablesFast p h = true) : tablesOk p h = true := by
  unfold tablesFast at x
  unfold tablesOk
  refine List.all_eq_true.mpr fun n hn => ?_
  have y := List.all_eq_true.mp x n hn
  rw [Bool.and_eq_true] at y ⊢
  refine ⟨y.1, ?_⟩
  have y2 := y.2
  split at y2
  · rename_i D e
    rw [e]
    exact tab_of_fast y2
  · rename_i e
    rw [e]
noncomputable abbrev H1 (P : Params) : Heap := heapL (B124 P)
theorem left_mine {q : Program} {loose : List Str} {Xt : Shared → Bool} {α : Type} {Yf : Shared → α} {Ya : World → α} {N : Nat} {g0 : Bool} (h1 : Nat.ble 600 N = true) (h2 : Nat.ble 13979 N = true)
    (looks : ∀ w : World, (fun os => ((staticsOk (importedModules prog.main.body) (boot_heap w.params) (H1 w.params) && namesBound prog (H1 w.params) && gensDone ⟨H1 w.params, Array.mk [], boot_drawn, 2284, os⟩ && laidKept (boot_heap w.params) (H1 w.params)),
        openSeen q loose (importedModules prog.main.body) Xt g0 ⟨H1 w.params, Array.mk [], boot_drawn, 2284, os⟩, Yf ⟨H1 w.params, Array.mk [], boot_drawn, 2284, os⟩)) = fun _ => (true, openGood q loose, Ya w)) : LeftO prog q loose Xt Yf Ya N g0 :=
  LeftO.of_pieces (H₁ := H1) (open0 h1) size0 (fun w os => top_run w os) h2 looks
theorem both_of {A B : Prop} (a : A) (b : B) : A ∧ B := ⟨a, b⟩
def bothHook (A B : Hook) : Hook := ⟨A.α × B.α, fun s => (A.obs s, B.obs s), fun w => (A.val w, B.val w), fun w h => A.says w h ∧ B.says w h,
  fun w s e => both_of (A.of w s (congrArg Prod.fst e)) (B.of w s (congrArg Prod.snd e)), fun w h h' e k => both_of (A.keeps w h h' e.1 k) (B.keeps w h h' e.2 k)⟩
/-- the objects of the top that the walk reads: the set b1_set, the dict b3_exceptions, the defs and their codes -/
noncomputable def tabL (P : Params) : List (Addr × Obj) := [(22, o22 P), (33, mainD), (31, o31 P), (32, o32 P), (77, o77 P), (78, o78 P), (79, o79 P), (80, o80 P), (86, o86 P), (87, o87 P), (91, o91 P), (92, o92 P), (98, o98 P), (99, o99 P), (103, o103 P), (104, o104 P), (110, o110 P), (111, o111 P), (117, o117 P), (118, o118 P)]
def tabA : List Addr := [22, 33, 31, 32, 77, 78, 79, 80, 86, 87, 91, 92, 98, 99, 103, 104, 110, 111, 117, 118]
theorem tab_of {P : Params} {h : Heap} (e : tabA.map h.get? = (tabL P).map fun p => some p.2) : ∀ p ∈ tabL P, h.get? p.1 = some p.2 := by
  have e' : (tabL P).map (fun p => h.get? p.1) = (tabL P).map fun p => some p.2 := e
  exact fun p hp => List.map_inj_left.mp e' p hp
noncomputable def tabHook : Hook := ⟨List (Option Obj), fun s => tabA.map s.heap.get?, fun w => (tabL w.params).map fun p => some p.2, fun w h => ∀ p ∈ tabL w.params, h.get? p.1 = some p.2,
  fun w s e => tab_of e, fun w h h' e k => fun p hp => k _ _ (e p hp)⟩
end Mine
section
local macro_rules
  | `(tactic| refine $f:ident (q := $q) (loose := $l) (Xt := $x) (XP := $xp) (Yf := Hook.obs $H) (Ya := Hook.val $_) (YP := Hook.says $_) (N := $n) ?$hl (Hook.of $_) (Hook.keeps $_) $rest*) =>
    `(tactic| (
       refine' $f:ident (q := $q) (loose := $l) (Xt := $x) (XP := $xp) (Yf := Hook.obs (Mine.bothHook $H Mine.tabHook)) (Ya := Hook.val (Mine.bothHook $H Mine.tabHook)) (YP := Hook.says (Mine.bothHook $H Mine.tabHook)) (N := $n) ?$hl (Hook.of (Mine.bothHook $H Mine.tabHook)) (Hook.keeps (Mine.bothHook $H Mine.tabHook)) $rest*
       case' hl => exact Mine.left_mine (by decide +kernel) (by decide +kernel) (fun w => by (funext os; unfold openSeen; rw [Mine.tables_of_fast ?hf]; all_goals kernel_rfl))))
open_top Mine.hd for PySem.Challenge.rw_pe0197_01
end
end
section
set_option maxRecDepth 100000
open PySem PySem.W PySem.Calls PyProof.Rows
namespace Mine
def bd2 : { b : List Stmt // defBody 2 = b } := ⟨_, by conv => lhs; whnf⟩
def bd4 : { b : List Stmt // defBody 4 = b } := ⟨_, by conv => lhs; whnf⟩
/-- what the walk knows of the heap behind the top -/
structure Gf (w : World) (mg mb : Str → Option Value) (g : Heap) : Prop where
  ns : g.Ns mainGlobals mg
  bs : g.Ns builtinsNs mb
  nolimit : g.NoLimit
  boot : ∀ x : Str, x ≠ "__name__" → mb x = bootBuiltins x
  names : ∀ p ∈ ([("b1_set", 22), ("in_table_b1", 32), ("b3_exceptions", 33), ("map_table_b3", 78), ("_initial_missing", 79), ("reduce", 87), ("_law_shop", 92), ("_law_prepared", 99), ("_law_told", 104), ("_law_choose", 111), ("_law_due", 118)] : List (Str × Addr)), mg p.1 = some (.ref p.2)
  bare : ∀ x ∈ (["ord", "chr", "len", "range", "iter", "next"] : List Str), mg x = none
  objs : ∀ p ∈ tabL w.params, g.get? p.1 = some p.2
def Stay (g h : Heap) : Prop := ∀ b o, g.get? b = some o → h.get? b = some o
theorem Stay.trans {a b c : Heap} (x : Stay a b) (y : Stay b c) : Stay a c := fun p o e => y p o (x p o e)
section
variable {pr : Program} {w : World} {mg mb : Str → Option Value} {g : Heap} {A : Around} {E : Value → Shared → Prop} {s : Shared} {env : Env}
theorem ev_global {x : Str} {pos : Pos} {v : Value} {Q : Value → Shared → Prop} (G : Gf w mg mb g) (st : Stay g s.heap) (hv : mg x = some v) (hg : env.globals = mainGlobals) (hk : env.scope.kind = .function) (hx : env.kindOf x = some .globalImplicit)
    (h : Q v s) (hd : (x == ("__debug__" : Str)) = false := by decide) : wpAny (model pr w) A (eval (.Name x pos) env) Q E s := by
  refine wpAny_Name ?_ hd
  rw [loadName_read hk hx]
  exact loadGlobal_global (by rw [hg]; exact G.ns.keeps st) hv h
theorem ev_builtin {x : Str} {pos : Pos} {v : Value} {Q : Value → Shared → Prop} (G : Gf w mg mb g) (st : Stay g s.heap) (hm : mg x = none) (hv : bootBuiltins x = some v) (hn : x ≠ "__name__") (hg : env.globals = mainGlobals) (hb : env.builtins = builtinsNs) (hk : env.scope.kind = .function) (hx : env.kindOf x = some .globalImplicit)
    (h : Q v s) (hd : (x == ("__debug__" : Str)) = false := by decide) : wpAny (model pr w) A (eval (.Name x pos) env) Q E s := by
  refine wpAny_Name ?_ hd
  rw [loadName_read hk hx]
  exact loadGlobal_builtin (by rw [hg]; exact G.ns.keeps st) hm (by rw [hb]; exact G.bs.keeps st) ((G.boot x hn).trans hv) h
theorem ev_local {x : Str} {pos : Pos} {v : Value} {m : Str → Option Value} {Q : Value → Shared → Prop} (hn : s.heap.Ns env.locals m) (hv : m x = some v) (hk : env.scope.kind = .function) (hx : env.kindOf x = some .local)
    (h : Q v s) (hd : (x == ("__debug__" : Str)) = false := by decide) : wpAny (model pr w) A (eval (.Name x pos) env) Q E s :=
  wpAny_Name (wpAny_loadName_local hk hx hn hv h) hd
end
end Mine
end
section
set_option maxRecDepth 100000
open PySem PySem.W PySem.Calls PyProof.Rows
namespace Mine
def b1list : List Int := [65024, 65025, 65026, 65027, 65028, 65029, 6150, 65030, 65031, 65032, 65033, 6155, 6156, 6157, 8203, 8204, 8205, 65034, 65035, 65036, 65037, 65038, 65039, 173, 847, 8288, 65279]
def b1has (c : Int) : Bool := b1list.contains c
def setItems (P : Params) : List (Int × Value) := match (o22 P).data with | .set es _ _ => es.toList | _ => []
def intOf0 : Value → Int
  | .int k _ => k
  | _ => 0
def intOk (e : Int × Value) : Bool := match e.2 with
  | .int k _ => e.1 == k && decide (0 ≤ k) && decide (k < 2 ^ 60)
  | _ => false
section
variable {pr : Program} {w : World} {mg mb : Str → Option Value} {g : Heap} {A : Around} {E : Value → Shared → Prop} {s : Shared} {env : Env}
theorem b1_all (P : Params) : (setItems P).all intOk = true := by kernel_rfl
theorem b1_ints (P : Params) : (setItems P).map (fun e => intOf0 e.2) = b1list := by kernel_rfl
theorem set_of (G : Gf w mg mb g) (st : Stay g s.heap) : s.heap.SetOf (intKind pr w) 22 b1has 27 := by
  have ho := st _ _ (G.objs (22, o22 w.params) (.head _))
  refine ⟨_, _, _, _, ho, ⟨rfl, rfl, rfl⟩, rfl, ?_, ?_, by decide, by kernel_rfl, rfl⟩
  · intro e he
    have h := List.all_eq_true.mp (b1_all w.params) e he
    obtain ⟨hh, v⟩ := e
    cases v with
    | int k t =>
      have h : (hh == k && decide (0 ≤ k) && decide (k < 2 ^ 60)) = true := h
      simp only [Bool.and_eq_true, decide_eq_true_eq, beq_iff_eq] at h
      obtain ⟨⟨h1, h2⟩, h3⟩ := h
      refine ⟨⟨k, by show (k == k) = true; simp, ?_⟩, rfl⟩
      show hh = hashInt k
      rw [h1, hashInt_nat h2 h3]
    | _ => cases h
  · intro k
    rw [show b1has k = b1list.contains k from rfl, List.contains_iff_mem, ← b1_ints w.params, List.mem_map]
    constructor
    · rintro ⟨e, he, rfl⟩
      refine ⟨e, he, ?_⟩
      have h := List.all_eq_true.mp (b1_all w.params) e he
      obtain ⟨hh, v⟩ := e
      cases v with
      | int k t => show (k == k) = true; simp
      | _ => cases h
    · rintro ⟨e, he, hk⟩
      refine ⟨e, he, ?_⟩
      obtain ⟨hh, v⟩ := e
      cases v with
      | int k' t => exact eq_of_beq (show (k' == k) = true from hk)
      | _ => cases hk
theorem nocell {l : List (Str × NameKind)} (h : l.all (fun x => x.2 != .cell) = true) : ∀ x ∈ l, x.2 ≠ .cell := fun x hx e => by
  have := List.all_eq_true.mp h x hx
  rw [e] at this
  cases this
theorem loc_of {names : List (Str × NameKind)} {binds : List (Str × Value)} (h : binds.all (fun x => names.lookup x.1 == some .local) = true) : ∀ x ∈ binds, names.lookup x.1 = some .local := fun x hx => by
  have := List.all_eq_true.mp h x hx
  simpa using this
def fd32 (P : Params) : FuncData := match (o32 P).data with | .func f => f | _ => default
theorem inb1_call {c : Nat} {t : Tok} {Q : Value → Shared → Prop} (G : Gf w mg mb g) (st : Stay g s.heap) (hroom : A.depth < recursionLimit)
    (h : ∀ h' tk, Stay s.heap h' → Q (.bool (b1has c)) { s with heap := h', toks := tk }) : wpAny (model pr w) A (call (.ref 32) [.str ⟨#[c]⟩ t]) Q E s := by
  have ho := st _ _ (G.objs (32, o32 w.params) (by simp [tabL]))
  refine wpAny_call (codeAny_call_def (fd := fd32 w.params) (body := bd2.1) (binds := [("code", .str ⟨#[c]⟩ t)]) hroom ho rfl (G.nolimit.keeps st) ⟨31, _, _, _, rfl, st _ _ (G.objs (31, o31 w.params) (by simp [tabL])), rfl, rfl⟩ (congrArg FuncBody.stmts bd2.2) (BindsTo.of_eq rfl) (nocell (by kernel_rfl)) (loc_of (by kernel_rfl)) (fun h₀ hns hk => ?_) rfl rfl rfl)
  have st' : Stay g h₀ := st.trans hk
  dsimp only [bd2]
  refine wpAny_execs_cons (wpAny_Return_some (wpAny_Compare1 ?_))
  refine Call_Name1 (ev_builtin G st' (G.bare _ (by simp)) (v := .builtin "ord") (by kernel_rfl) (by decide) rfl rfl rfl rfl ?_)
  refine callWith_builtin1 ?_
  refine ev_local hns (v := .str ⟨#[c]⟩ t) rfl rfl rfl ?_
  refine P.ord_of_char ?_
  refine ev_global G st' (G.names ("b1_set", 22) (by simp)) rfl rfl rfl ?_
  refine wpAny_inSet_of (knd := intKind pr w) (k := (c : Int)) (by show ((c : Int) == (c : Int)) = true; simp) rfl (set_of G st') ?_
  exact h _ _ hk
end
end Mine
end
section
set_option maxRecDepth 100000
open PySem PySem.W PySem.Calls PyProof.Rows
namespace Mine
/-- the dict's entries, as the top leaves them -/
def mainEs : List DictEntry := (ents 3 256 ch0 ++ bigE 307 cs3) ++ ents 2 2194 tl3
/-- each entry bears a pair of the list; found by key = looked up in the list -/
structure Bears (es : List DictEntry) (l : List (Int × Str)) : Prop where
  keys : ∀ e ∈ es, ∃ k t, e.key = .int k t ∧ e.hash = k ∧ 0 ≤ k ∧ k < 2 ^ 60
  find : ∀ k, ∃ t, (es.find? fun e => Value.isInt k e.key).map (·.val) = (l.lookup k).map fun x => Value.str x t
theorem bears_nil : Bears [] [] := ⟨fun _ h => (nomatch h), fun _ => ⟨0, rfl⟩⟩
theorem Bears.append {a b : List DictEntry} {x y : List (Int × Str)} (p : Bears a x) (q : Bears b y) : Bears (a ++ b) (x ++ y) where
  keys := fun e he => (List.mem_append.mp he).elim (p.keys e) (q.keys e)
  find := fun k => by
    obtain ⟨t, h1⟩ := p.find k
    obtain ⟨u, h2⟩ := q.find k
    rw [List.find?_append, List.lookup_append]
    cases hx : x.lookup k with
    | some v =>
      rw [hx] at h1
      refine ⟨t, ?_⟩
      cases hf : a.find? (fun e => Value.isInt k e.key) with
      | none => rw [hf] at h1; cases h1
      | some e => rw [hf] at h1; exact h1
    | none =>
      rw [hx] at h1
      refine ⟨u, ?_⟩
      cases hf : a.find? (fun e => Value.isInt k e.key) with
      | some e => rw [hf] at h1; cases h1
      | none => exact h2
theorem bears_ents (stp : Nat) : ∀ (l : List (Int × Str)) (tk : Nat), (∀ y ∈ l, 0 ≤ y.1 ∧ y.1 < 2 ^ 60) → Bears (ents stp tk l) l
  | [], _, _ => bears_nil
  | x :: r, tk, h => by
    have one : Bears [ent tk x] [x] := by
      refine ⟨fun e he => ?_, fun k => ⟨tk + 1, ?_⟩⟩
      · rw [List.mem_singleton.mp he]
        exact ⟨x.1, tk, rfl, rfl, (h x (.head _)).1, (h x (.head _)).2⟩
      · show (List.find? (fun e => Value.isInt k e.key) [ent tk x]).map (·.val) = (List.lookup k [(x.1, x.2)]).map _
        rw [List.find?_cons, List.lookup_cons]
        show (match (x.1 == k) with | true => some (ent tk x) | false => List.find? _ []).map _ = _
        by_cases e : k = x.1
        · subst e; simp [ent]
        · have e1 : (x.1 == k) = false := beq_eq_false_iff_ne.mpr fun q => e q.symm
          have e2 : (k == x.1) = false := beq_eq_false_iff_ne.mpr e
          rw [e1, e2]; rfl
    exact one.append (bears_ents stp r (tk + stp) fun y hy => h y (.tail _ hy))
theorem bears_bigE : ∀ (cs : List (List (Int × Str))) (tk : Nat), (∀ y ∈ cs.flatten, 0 ≤ y.1 ∧ y.1 < 2 ^ 60) → Bears (bigE tk cs) cs.flatten
  | [], _, _ => bears_nil
  | c :: r, tk, h => by
    rw [List.flatten_cons] at h ⊢
    exact (bears_ents 3 c tk fun y hy => h y (List.mem_append_left _ hy)).append (bears_bigE r _ fun y hy => h y (List.mem_append_right _ hy))
theorem bears_main : Bears mainEs b3list := by
  have h := b3_rng
  rw [b3_parts] at h ⊢
  rw [← List.append_assoc]
  exact ((bears_ents 3 ch0 256 fun y hy => h y (List.mem_append_left _ hy)).append (bears_bigE cs3 307 fun y hy => h y (List.mem_append_right _ (List.mem_append_left _ hy)))).append
    (bears_ents 2 tl3 2194 fun y hy => h y (List.mem_append_right _ (List.mem_append_right _ hy)))
/-- what map_table_b3 gives for a sign -/
def b3map (c : Nat) : Str := match b3list.lookup (c : Int) with
  | some x => x
  | none => Txt.lower ⟨#[c]⟩
section
variable {pr : Program} {w : World} {mg mb : Str → Option Value} {g : Heap} {A : Around} {E : Value → Shared → Prop} {s : Shared} {env : Env}
theorem map_of (G : Gf w mg mb g) (st : Stay g s.heap) : s.heap.MapOf (intKind pr w) 33 (fun k => (mainEs.find? fun e => Value.isInt k e.key).map (·.val)) := by
  have ho := st _ _ (G.objs (33, mainD) (by simp [tabL]))
  refine ⟨_, ⟨mainEs⟩, _, ho, ⟨rfl, rfl, rfl⟩, rfl, fun e he => ?_, fun k => ?_⟩
  · obtain ⟨k, t, h1, h2, h3, h4⟩ := bears_main.keys e (Array.mem_toList_iff.mpr he)
    refine ⟨k, by rw [h1]; show (k == k) = true; simp, ?_⟩
    rw [h2]; exact (hashInt_nat h3 h4).symm
  · show ((⟨mainEs⟩ : Array DictEntry).find? _).map _ = _
    rw [List.find?_toArray]; rfl
def fd78 (P : Params) : FuncData := match (o78 P).data with | .func f => f | _ => default
theorem b3_call {c : Nat} {t : Tok} {Q : Value → Shared → Prop} (G : Gf w mg mb g) (st : Stay g s.heap) (hroom : A.depth < recursionLimit)
    (hl : b3list.lookup (c : Int) = none → Builtin.Str.tooLong (Txt.lower ⟨#[c]⟩).length = false)
    (h : ∀ h' tk u, Stay s.heap h' → Q (.str (b3map c) u) { s with heap := h', toks := tk }) : wpAny (model pr w) A (call (.ref 78) [.str ⟨#[c]⟩ t]) Q E s := by
  have ho := st _ _ (G.objs (78, o78 w.params) (by simp [tabL]))
  refine wpAny_call (codeAny_call_def (fd := fd78 w.params) (body := bd4.1) (binds := [("code", .str ⟨#[c]⟩ t)]) hroom ho rfl (G.nolimit.keeps st) ⟨77, _, _, _, rfl, st _ _ (G.objs (77, o77 w.params) (by simp [tabL])), rfl, rfl⟩ (congrArg FuncBody.stmts bd4.2) (BindsTo.of_eq rfl) (nocell (by kernel_rfl)) (loc_of (by kernel_rfl)) (fun h₀ hns hk => ?_) rfl rfl rfl)
  have st' : Stay g h₀ := st.trans hk
  dsimp only [bd4]
  refine wpAny_execs_cons (wpAny_Assign_Name ?_)
  refine wpAny_Call_method1_late rfl rfl rfl ?_
  refine ev_global G st' (G.names ("b3_exceptions", 33) (by simp)) rfl rfl rfl ?_
  refine ⟨"dict", "dict.get", F.plainAttrs_dict, F.slot_dict_get, F.type_dict_get, (map_of (pr := pr) G st').typeIs, (map_of (pr := pr) G st').noDict, wpAny_dict_get1 (knd := intKind pr w) (by decide) ?_⟩
  refine Call_Name1 (ev_builtin G st' (G.bare _ (by simp)) (v := .builtin "ord") (by kernel_rfl) (by decide) rfl rfl rfl rfl ?_)
  refine callWith_builtin1 ?_
  refine ev_local hns (v := .str ⟨#[c]⟩ t) rfl rfl rfl ?_
  refine P.ord_of_char ?_
  refine ⟨(c : Int), _, by show ((c : Int) == (c : Int)) = true; simp, map_of G st', ?_⟩
  obtain ⟨u, hu⟩ := bears_main.find (c : Int)
  cases hx : b3list.lookup (c : Int) with
  | some x =>
    rw [hu, hx]
    have hm : b3map c = x := by unfold b3map; rw [hx]
    refine wpAny_storeName_local (env := callEnv (fd78 w.params) s.heap.objs.size 78) rfl hns (fun h₁ hn₁ hs₁ => ?_)
    have keep : Stay s.heap h₁ := fun b o e => hs₁.extBut b o (Nat.ne_of_lt (Heap.lt_size e)) (hk b o e)
    refine wpAny_execs_cons (wpAny_If (wpAny_isTrue_Compare1 ?_))
    refine ev_local hn₁ (v := .str x u) rfl rfl rfl ?_
    refine wpAny_Constant_none (isNot_none (wpAny_truthy_bool ?_))
    refine wpAny_execs_cons (wpAny_Return_some ?_)
    refine ev_local hn₁ (v := .str x u) rfl rfl rfl ?_
    rw [← hm]
    exact h _ _ _ keep
  | none =>
    rw [hu, hx]
    have hm : b3map c = Txt.lower ⟨#[c]⟩ := by unfold b3map; rw [hx]
    refine wpAny_storeName_local (env := callEnv (fd78 w.params) s.heap.objs.size 78) rfl hns (fun h₁ hn₁ hs₁ => ?_)
    have keep : Stay s.heap h₁ := fun b o e => hs₁.extBut b o (Nat.ne_of_lt (Heap.lt_size e)) (hk b o e)
    refine wpAny_execs_cons (wpAny_If (wpAny_isTrue_Compare1 ?_))
    refine ev_local hn₁ (v := .none) rfl rfl rfl ?_
    refine wpAny_Constant_none (isNot_none (wpAny_truthy_bool ?_))
    refine wpAny_execs_nil ?_
    refine wpAny_execs_cons (wpAny_Return_some ?_)
    refine Call_method0 rfl rfl ?_
    refine ev_local hn₁ (v := .str ⟨#[c]⟩ t) rfl rfl rfl ?_
    refine SB.lower (hl hx) ?_
    rw [← hm]
    exact h _ _ _ keep
end
end Mine
end
section
set_option maxRecDepth 100000
open PySem PySem.W PySem.Calls PyProof.Rows
namespace Mine
def bd7 : { b : List Stmt // defBody 7 = b } := ⟨_, by conv => lhs; whnf⟩
theorem ent_tw : @entryFor = PySem.W.Fast.tw12177470255685639600 := PySem.W.Fast.te12177470255685639600
theorem own_strit : Manifest.owners.lookup (String.ofList ['r', 'o', 't', 'a', 'r', 'e', 't', 'i', '_', 'r', 't', 's'].reverse) = some Manifest.sig_str_iterator := by kernel_rfl
theorem slot_strit : Slot "str_iterator" "__iter__" "str_iterator.__iter__" :=
  .of (owner := "str_iterator") (n := "__iter__") (by rw [typeLookup_type, builtinLookup_eq_fast]; kernel_rfl) (by decide +kernel) (by decide +kernel) (by decide +kernel)
    (by first | exact .inl (by decide +kernel) | exact .inr (by decide +kernel)) (by rw [isSubtype_type]; kernel_rfl)
theorem slot_strait : Slot "str_ascii_iterator" "__iter__" "str_ascii_iterator.__iter__" :=
  .of (owner := "str_ascii_iterator") (n := "__iter__") (by rw [typeLookup_type, builtinLookup_eq_fast]; kernel_rfl) (by decide +kernel) (by decide +kernel) (by decide +kernel)
    (by first | exact .inl (by decide +kernel) | exact .inr (by decide +kernel)) (by rw [isSubtype_type]; kernel_rfl)
theorem entry_strit : entryFor table "str_iterator.__iter__" = some Builtin.«dict_keyiterator.__iter__» := by
  rw [table_eq_tree]; kernel_rfl
theorem entry_strait : entryFor table "str_ascii_iterator.__iter__" = some Builtin.«dict_keyiterator.__iter__» := by
  rw [table_eq_tree]; kernel_rfl
theorem entry_rngit : entryFor table "range_iterator.__iter__" = some Builtin.«dict_keyiterator.__iter__» := by
  rw [table_eq_tree]; kernel_rfl
theorem args_strit (a : Value) : argsOk "str_iterator.__iter__" ⟨[a], []⟩ := by
  unfold argsOk; rw [signature?_of (id := "str_iterator.__iter__") (n := ['_', '_', 'r', 'e', 't', 'i', '_', '_']) (o := ['r', 'o', 't', 'a', 'r', 'e', 't', 'i', '_', 'r', 't', 's']) (by kernel_rfl) own_strit]; kernel_rfl
theorem args_strait (a : Value) : argsOk "str_ascii_iterator.__iter__" ⟨[a], []⟩ := by
  unfold argsOk; rw [signature?_of (id := "str_ascii_iterator.__iter__") (n := ['_', '_', 'r', 'e', 't', 'i', '_', '_']) (o := ['r', 'o', 't', 'a', 'r', 'e', 't', 'i', '_', 'i', 'i', 'c', 's', 'a', '_', 'r', 't', 's']) (by kernel_rfl) F.owner_str_ascii_iterator]; kernel_rfl
section
variable {pr : Program} {w : World} {mg mb : Str → Option Value} {g : Heap} {A : Around} {E : Value → Shared → Prop} {s : Shared} {env : Env}
theorem iter_self {T id : String} {I : Addr} {r : Value} {Q : Value → Shared → Prop} (hT : s.TypeIs (.ref I) T) (hs : Slot T "__iter__" id) (he : entryFor table id = some Builtin.«dict_keyiterator.__iter__») (ha : argsOk id ⟨[.ref I], []⟩)
    (hn : typeLookup (.type T) "__next__" = pure (some r)) (h : Q (.ref I) s) : wpAny (model pr w) A (pyIter (.ref I)) Q E s := by
  refine wpAny_pyIter_slot hT hs (wpAny_call_entry hs hT he ?_ ha)
  unfold Builtin.«dict_keyiterator.__iter__»
  exact fun Γ p _ => ⟨_, rfl, T, r, hT, hn, h⟩

/-- the call of iter -/
theorem call_iter {x : Value} {Q : Value → Shared → Prop} (h : wpAny (model pr w) A.in1 (pyIter x) Q E s) : wpAny (model pr w) A (call (.builtin "iter") [x]) Q E s := by
  refine call_function_entry (by decide +kernel) (by decide +kernel) kdk_entry_iter (kdk_args_iter _) ?_
  unfold Builtin.«iter»
  refine wpAny_bind (m := someArgs "iter" 1 2 _) (wpAny_of_eq (a := [x]) (by first | rfl | kernel_rfl!) ?_)
  exact wpAny_bind (wpAny_mono h (fun v s' q => fun Γ p _ => ⟨_, rfl, q⟩) fun _ _ e => e)
/-- a source that is walked by its iterator: n items, the i-th as el says -/
structure IterOf (pr : Program) (w : World) (ok : Heap → Prop) (seq : Value) (n : Nat) (el : Nat → Value → Prop) (It : Nat → Obj → Prop) : Prop where
  start : ∀ (A : Around) (E : Value → Shared → Prop) (s : Shared) (Q : Value → Shared → Prop), ok s.heap → (∀ o, It 0 o → o.isFreed = false → Q (.ref s.heap.objs.size) { s with heap := s.heap.push o }) → wpAny (model pr w) A (pyIter seq) Q E s
  again : ∀ (A : Around) (E : Value → Shared → Prop) (s : Shared) (Q : Value → Shared → Prop) (I : Addr) (o : Obj) (i : Nat), s.heap.get? I = some o → It i o → Q (.ref I) s → wpAny (model pr w) A (pyIter (.ref I)) Q E s
  next : ∀ (A : Around) (E : Value → Shared → Prop) (s : Shared) (Q : Option Value → Shared → Prop) (I : Addr) (o : Obj) (i : Nat), i < n → s.heap.get? I = some o → It i o →
    (∀ v o' h' tk, el i v → It (i + 1) o' → h'.get? I = some o' → Heap.SameBut I s.heap h' → Q (some v) { s with heap := h', toks := tk }) → wpAny (model pr w) A (pyNext (.ref I)) Q E s
  fin : ∀ (A : Around) (E : Value → Shared → Prop) (s : Shared) (Q : Option Value → Shared → Prop) (I : Addr) (o : Obj), A.handled = none → s.heap.get? I = some o → It n o →
    (∀ h', Heap.ExtBut I s.heap h' → Q none { s with heap := h' }) → wpAny (model pr w) A (pyNext (.ref I)) Q E s
def strIt (ty : String) (x : Str) (t : Tok) (i : Nat) (o : Obj) : Prop := o.cls = .type ty ∧ o.data = .fields #[.str x t, .int i 0]
theorem iter_str (x : Str) (t : Tok) : ∃ It, IterOf pr w (fun _ => True) (.str x t) x.cps.size (fun i v => ∃ c u, x.cps[i]? = some c ∧ v = .str ⟨#[c]⟩ u) It := by
  cases ha : x.cps.all (· < 128) with
  | true =>
    refine ⟨strIt "str_ascii_iterator" x t, ⟨fun A E s Q _ h => ?_, fun A E s Q I o i ho hi h => ?_, fun A E s Q I o i hn ho hi h => ?_, fun A E s Q I o hh ho hi h => ?_⟩⟩
    · exact wpAny_pyIter_ascii ha (h _ ⟨rfl, rfl⟩ rfl)
    · exact iter_self (T := "str_ascii_iterator") ⟨o, ho, hi.1⟩ slot_strait entry_strait (args_strait _) F.slot_str_ascii_iterator_next.lookup h
    · exact wpAny_pyNext_ascii_item ⟨o, ho, hi⟩ (Array.getElem?_eq_getElem hn) fun h' ⟨o', h1, h2⟩ hs => h _ o' h' _ ⟨_, _, Array.getElem?_eq_getElem hn, rfl⟩ h2 h1 hs
    · exact wpAny_pyNext_ascii_end hh ⟨o, ho, hi⟩ (Array.getElem?_eq_none (Nat.le_refl _)) fun h' he => h h' he
  | false =>
    refine ⟨strIt "str_iterator" x t, ⟨fun A E s Q _ h => ?_, fun A E s Q I o i ho hi h => ?_, fun A E s Q I o i hn ho hi h => ?_, fun A E s Q I o hh ho hi h => ?_⟩⟩
    · exact wpAny_pyIter_wide ha (h _ ⟨rfl, rfl⟩ rfl)
    · exact iter_self (T := "str_iterator") ⟨o, ho, hi.1⟩ slot_strit entry_strit (args_strit _) F.slot_str_iterator_next.lookup h
    · exact wpAny_pyNext_wide_item ⟨o, ho, hi⟩ (Array.getElem?_eq_getElem hn) fun h' ⟨o', h1, h2⟩ hs => h _ o' h' _ ⟨_, _, Array.getElem?_eq_getElem hn, rfl⟩ h2 h1 hs
    · exact wpAny_pyNext_wide_end hh ⟨o, ho, hi⟩ (Array.getElem?_eq_none (Nat.le_refl _)) fun h' he => h h' he
end
end Mine
end
section
set_option maxRecDepth 100000
open PySem PySem.W PySem.Calls PyProof.Rows
namespace Mine
/-- all but the frame's own two objects stands -/
def Stay2 (L I : Addr) (h h' : Heap) : Prop := ∀ b o, b ≠ L → b ≠ I → h.get? b = some o → h'.get? b = some o
section
variable {pr : Program} {w : World} {mg mb : Str → Option Value} {g : Heap} {A : Around} {E : Value → Shared → Prop} {s : Shared} {env : Env}
def fd87 (P : Params) : FuncData := match (o87 P).data with | .func f => f | _ => default
theorem reduce_call {ok : Heap → Prop} {f : Addr} {fo : Obj} {ffd : FuncData} {seq init : Value} {n : Nat} {el : Nat → Value → Prop} {It : Nat → Obj → Prop} {Q : Value → Shared → Prop} (Z : IterOf pr w ok seq n el It) (G : Gf w mg mb g) (st : Stay g s.heap) (hroom : A.depth < recursionLimit) (hh : A.handled = none)
    (hok : ∀ h', Stay s.heap h' → ok h') (hfo : s.heap.get? f = some fo) (hfd : fo.data = .func ffd)
    (his : ∀ (A' : Around) (s' : Shared) (Q' : Value → Shared → Prop) (E' : Value → Shared → Prop), Stay s.heap s'.heap → Q' (.bool false) s' → wpAny (model pr w) A' (compareOp .Is init (.ref 79)) Q' E' s')
    (P : Addr → Addr → Nat → Value → Heap → Prop) (hP0 : ∀ L I h', s.heap.objs.size ≤ L → s.heap.objs.size ≤ I → Stay s.heap h' → P L I 0 init h') (hPk : ∀ L I i v h h', P L I i v h → Stay2 L I h h' → P L I i v h')
    (step : ∀ (L I : Addr) (i : Nat) (acc v : Value) (A' : Around) (s' : Shared) (Q' : Value → Shared → Prop) (E' : Value → Shared → Prop), A'.depth = A.depth + 1 → A'.handled = none → i < n → Stay s.heap s'.heap → (s'.heap.get? L).isSome = true → (s'.heap.get? I).isSome = true → P L I i acc s'.heap → el i v →
      (∀ r h' tk, Stay s'.heap h' → P L I (i + 1) r h' → Q' r { s' with heap := h', toks := tk }) → wpAny (model pr w) A' (call (.ref f) [acc, v]) Q' E' s')
    (h : ∀ L I r h' tk, Stay s.heap h' → P L I n r h' → Q r { s with heap := h', toks := tk }) : wpAny (model pr w) A (call (.ref 87) [.ref f, seq, init]) Q E s := by
  have ho := st _ _ (G.objs (87, o87 w.params) (by simp [tabL]))
  refine wpAny_call (codeAny_call_def (fd := fd87 w.params) (body := bd7.1) (binds := [("function", .ref f), ("sequence", seq), ("initial", init)]) hroom ho rfl (G.nolimit.keeps st) ⟨86, _, _, _, rfl, st _ _ (G.objs (86, o86 w.params) (by simp [tabL])), rfl, rfl⟩ (congrArg FuncBody.stmts bd7.2) (BindsTo.of_defaults (T := 80) (o := o80 w.params) rfl (st _ _ (G.objs (80, o80 w.params) (by simp [tabL]))) rfl rfl rfl) (nocell (by kernel_rfl)) (loc_of (by kernel_rfl)) (fun h₀ hns hk => ?_) rfl rfl rfl)
  have st' : Stay g h₀ := st.trans hk
  have hL : (callEnv (fd87 w.params) s.heap.objs.size 87).locals = s.heap.objs.size := rfl
  dsimp only [bd7]
  refine wpAny_execs_cons (wpAny_Assign_Name ?_)
  refine Call_Name1 (ev_builtin G st' (G.bare _ (by simp)) (v := .builtin "iter") (by kernel_rfl) (by decide) rfl rfl rfl rfl ?_)
  refine callWith_builtin1 ?_
  refine ev_local hns (v := seq) rfl rfl rfl ?_
  refine call_iter (Z.start _ _ _ _ (hok _ hk) fun o hi hf => ?_)
  have hLlt : s.heap.objs.size < h₀.objs.size := hns.lt
  have hLI : s.heap.objs.size ≠ h₀.objs.size := Nat.ne_of_lt hLlt
  have hIg : (h₀.push o).get? h₀.objs.size = some o := Heap.get?_push_size _ hf
  refine wpAny_storeName_local (env := callEnv (fd87 w.params) s.heap.objs.size 87) rfl (hns.push o) (fun h₁ hn₁ hs₁ => ?_)
  have hI₁ : h₁.get? h₀.objs.size = some o := (hs₁.2 _ (Ne.symm hLI)).trans hIg
  have keep₁ : Stay s.heap h₁ := fun b o' e => hs₁.extBut b o' (Nat.ne_of_lt (Heap.lt_size e)) (Heap.get?_push_of_some _ (hk b o' e))
  refine wpAny_execs_cons (wpAny_If (wpAny_isTrue_Compare1 ?_))
  refine ev_local hn₁ (v := init) rfl rfl rfl ?_
  refine ev_global G (st.trans keep₁) (G.names ("_initial_missing", 79) (by simp)) rfl rfl rfl ?_
  refine his _ _ _ _ keep₁ ?_
  refine wpAny_truthy_bool ?_
  refine wpAny_execs_cons (wpAny_Assign_Name ?_)
  refine ev_local hn₁ (v := init) rfl rfl rfl ?_
  refine wpAny_storeName_local (env := callEnv (fd87 w.params) s.heap.objs.size 87) rfl hn₁ (fun h₂ hn₂ hs₂ => ?_)
  have hI₂ : h₂.get? h₀.objs.size = some o := (hs₂.2 _ (Ne.symm hLI)).trans hI₁
  have keep₂ : Stay s.heap h₂ := fun b o' e => hs₂.extBut b o' (Nat.ne_of_lt (Heap.lt_size e)) (keep₁ b o' e)
  refine wpAny_execs_nil ?_
  refine wpAny_execs_cons (wpAny_For ?_)
  refine ev_local hn₂ (v := .ref h₀.objs.size) rfl rfl rfl ?_
  refine Z.again _ _ _ _ _ o 0 hI₂ hi ?_
  generalize hTK : s.toks + _ = tk₀
  refine codeAny_forLoop
    (fun k s' => ∃ h' tk m' i acc o', s' = { s with heap := h', toks := tk } ∧ h'.get? h₀.objs.size = some o' ∧ It i o' ∧ h'.Ns s.heap.objs.size m' ∧ m' "function" = some (.ref f) ∧ m' "value" = some acc ∧
      P s.heap.objs.size h₀.objs.size i acc h' ∧ i ≤ n ∧ k = n - i ∧ Stay s.heap h') ?_ n ⟨h₂, _, _, 0, init, o, rfl, hI₂, hi, hn₂, rfl, rfl, hP0 _ _ _ (Nat.le_refl _) (Nat.le_of_lt hLlt) keep₂, Nat.zero_le _, rfl, keep₂⟩
  rintro k s' ⟨h', tk, m', i, acc, o', rfl, hI', hi', hn', hfn, hva, hP, hin, rfl, keep'⟩
  rcases Nat.lt_or_ge i n with hlt | hge
  · refine Z.next _ _ _ _ _ o' i hlt hI' hi' fun v o₃ h₃ tk₃ hel hi₃ hI₃ hs₃ => ?_
    have hn₃ : h₃.Ns s.heap.objs.size m' := hn'.sameBut hs₃ hLI
    have keep₃ : Stay s.heap h₃ := fun b o' e => hs₃.extBut b o' (Nat.ne_of_lt (Nat.lt_trans (Heap.lt_size e) hLlt)) (keep' b o' e)
    refine wpAny_assign_Name (wpAny_storeName_local (env := callEnv (fd87 w.params) s.heap.objs.size 87) rfl hn₃ (fun h₄ hn₄ hs₄ => ?_))
    have hI₄ : h₄.get? h₀.objs.size = some o₃ := (hs₄.2 _ (Ne.symm hLI)).trans hI₃
    have keep₄ : Stay s.heap h₄ := fun b o' e => hs₄.extBut b o' (Nat.ne_of_lt (Heap.lt_size e)) (keep₃ b o' e)
    have hP₄ : P s.heap.objs.size h₀.objs.size i acc h₄ := hPk _ _ _ _ _ _ hP fun b o' hb1 hb2 e => hs₄.extBut b o' hb1 (hs₃.extBut b o' hb2 e)
    refine wpAny_execs_cons (wpAny_Assign_Name ?_)
    refine Call_ (ev_local hn₄ (v := .ref f) hfn rfl rfl ?_)
    refine callWith_def hfd ?_
    refine args_cons (ev_local hn₄ (v := acc) hva rfl rfl ?_)
    refine args_cons (ev_local hn₄ (v := v) rfl rfl rfl ?_)
    refine args_nil ⟨keep₄ _ _ hfo, ?_⟩
    refine step _ _ i acc v _ _ _ _ rfl hh hlt keep₄ (by obtain ⟨x, _, _, e, _⟩ := hn₄; rw [show h₄.get? s.heap.objs.size = some x from e]; rfl) (by rw [hI₄]; rfl) hP₄ hel fun r h₅ tk₅ keep₅ hP₅ => ?_
    have hn₅ := hn₄.keeps keep₅
    refine wpAny_storeName_local (env := callEnv (fd87 w.params) s.heap.objs.size 87) rfl hn₅ (fun h₆ hn₆ hs₆ => ?_)
    refine wpAny_execs_nil ?_
    refine ⟨n - (i + 1), by omega, h₆, _, _, i + 1, r, o₃, rfl, (hs₆.2 _ (Ne.symm hLI)).trans (keep₅ _ _ hI₄), hi₃, hn₆, hfn, rfl, hPk _ _ _ _ _ _ hP₅ fun b o' hb1 hb2 e => hs₆.extBut b o' hb1 e, hlt, rfl, fun b o' e => hs₆.extBut b o' (Nat.ne_of_lt (Heap.lt_size e)) (keep₅ b o' (keep₄ b o' e))⟩
  · obtain rfl : i = n := Nat.le_antisymm hin hge
    refine Z.fin _ _ _ _ _ o' hh hI' hi' fun h₃ he₃ => ?_
    refine wpAny_execs_nil ?_
    refine wpAny_execs_cons (wpAny_Return_some ?_)
    refine ev_local (hn'.extBut he₃ hLI) (v := acc) hva rfl rfl ?_
    exact h _ _ acc h₃ _ (fun b o' e => he₃ b o' (Nat.ne_of_lt (Nat.lt_trans (Heap.lt_size e) hLlt)) (keep' b o' e)) (hPk _ _ _ _ _ _ hP fun b o' hb1 hb2 e => he₃ b o' hb2 e)
end
end Mine
end
section
set_option maxRecDepth 100000
open PySem PySem.W PySem.Calls PyProof.Rows
namespace Mine
/-- all but the object at P stands -/
def StayB (P : Addr) (h h' : Heap) : Prop := ∀ b o, b ≠ P → h.get? b = some o → h'.get? b = some o
/-- a code table for one lambda: empty, or with that lambda's code -/
def TabI (h : Heap) (P : Addr) (line col : Int) (qual : Str) : Prop :=
  h.get? P = some (tabObj #[]) ∨ ∃ c, h.get? P = some (tabObj #[rawInt line, rawInt col, .ref c]) ∧ h.CodeRec (.ref c) qual ∧ 119 ≤ c
theorem TabI.keeps {h h' : Heap} {P : Addr} {line col : Int} {qual : Str} (x : TabI h P line col qual) (k : Stay h h') : TabI h' P line col qual := by
  rcases x with x | ⟨c, x, y, z⟩
  · exact .inl (k _ _ x)
  · exact .inr ⟨c, k _ _ x, y.keeps k, z⟩
theorem TabI.keepsB {h h' : Heap} {P P' : Addr} {line col : Int} {qual : Str} (x : TabI h P line col qual) (k : StayB P' h h') (hne : P ≠ P') (hlt : P' < 119) : TabI h' P line col qual := by
  rcases x with x | ⟨c, x, y, z⟩
  · exact .inl (k _ _ hne x)
  · exact .inr ⟨c, k _ _ hne x, y.at fun o e => k _ _ (Nat.ne_of_gt (Nat.lt_of_lt_of_le hlt z)) e, z⟩
structure Gt (w : World) (mg mb : Str → Option Value) (g : Heap) : Prop extends Gf w mg mb g where
  code98 : CodeHd g 98 94
  code103 : CodeHd g 103 101
  bt : ∀ P ∈ ([94, 101] : List Addr), g.BuiltinsAt mg P
  hid : g.get? 94 = none ∧ g.get? 101 = none
theorem Gf.big {w : World} {mg mb : Str → Option Value} {g h : Heap} (G : Gf w mg mb g) (st : Stay g h) : 119 ≤ h.objs.size := Heap.lt_size (st _ _ (G.objs (118, o118 w.params) (by simp [tabL])))
theorem Gt.stB {w : World} {mg mb : Str → Option Value} {g h h' : Heap} {P : Addr} (G : Gt w mg mb g) (hP : P = 94 ∨ P = 101) (st : Stay g h) (k : StayB P h h') : Stay g h' := fun b o e => by
  refine k b o ?_ (st b o e)
  rintro rfl
  rcases hP with rfl | rfl
  · rw [G.hid.1] at e; cases e
  · rw [G.hid.2] at e; cases e
section
variable {pr : Program} {w : World} {mg mb : Str → Option Value} {g : Heap} {A : Around} {E : Value → Shared → Prop} {s : Shared} {env : Env}
theorem triples_nil : TriplesOk (#[] : Array Value).toList := by
  first | trivial | (unfold TriplesOk; simp)
theorem triples_one {a b : Int} {c : Addr} : TriplesOk (#[rawInt a, rawInt b, .ref c] : Array Value).toList := by
  first | trivial | (simp [TriplesOk, rawInt])
theorem lam_make {M : Model} {params : Arguments} {body : Expr} {scope : Scope} {pos : Pos} {c P : Addr} {clos : List (Str × Addr)} {line col : Int} {qual : Str} {Q : Value → Shared → Prop} (hq : env.qual ++ "<lambda>" = qual) (hl : (pos.line : Int) = line) (hc : (pos.col : Int) = col) (hdef : defaultsOf params env = ([], [])) (hcl : closureFor scope env = pure clos) (hge0 : env.globals = mainGlobals)
    (hg : s.heap.Ns mainGlobals mg) (hcode : env.code = .ref c) (C : CodeHd s.heap c P) (hb : s.heap.BuiltinsAt mg P) (hgP : mainGlobals ≠ P) (hbig : 119 ≤ s.heap.objs.size) (hI : TabI s.heap P line col qual)
    (h : ∀ c' ctv f h' tk, StayB P s.heap h' → TabI h' P line col qual → s.heap.objs.size ≤ f → h'.get? f = some (kla_obj "<lambda>" qual params body scope clos ((mg "__name__").getD .none) c' ctv) →
      h'.CodeRec (.ref c') qual → Q (.ref f) { s with heap := h', toks := tk }) :
    wpAny M A (eval (.Lambda params body scope pos) env) Q E s := by
  subst hq hl hc
  refine kla_eval hdef ?_
  rcases hI with hP | ⟨cv, hP, hrec, hcv⟩
  · refine kla_makeFunction hcl hge0 hg hcode C hP triples_nil rfl hgP hb fun c' ctv h' tk hx hge hlt hr ht => ?_
    refine h c' ctv _ _ _ (fun b o hb' e => Heap.get?_push_of_some _ (hx b o hb' e)) (.inr ⟨c', Heap.get?_push_of_some _ ht, hr.push _, Nat.le_trans hbig hge⟩) (Nat.le_of_lt (Nat.lt_of_le_of_lt hge hlt)) (Heap.get?_push_size _ rfl) (hr.push _)
  · refine kla_makeFunctionHit hcl hge0 hg hcode C hP triples_one (cv := .ref cv) (by simp [codeAmong, rawInt]) hb fun ctv h' tk hx hle => ?_
    refine h cv ctv _ _ _ (fun b o hb' e => Heap.get?_push_of_some _ (hx b o e)) (.inr ⟨cv, Heap.get?_push_of_some _ (hx _ _ hP), (hrec.keeps hx).push _, hcv⟩) hle (Heap.get?_push_size _ rfl) ((hrec.keeps hx).push _)
theorem lam_call {f c' : Addr} {name qual : Str} {params : Arguments} {body : Expr} {scope : Scope} {cl : List (Str × Addr)} {pm ctv : Value} {args : List Value} {binds : List (Str × Value)} {Q : Value → Shared → Prop}
    (hroom : A.depth < recursionLimit) (hlim : s.heap.NoLimit) (ho : s.heap.get? f = some (kla_obj name qual params body scope cl pm c' ctv)) (hcd : s.heap.CodeRec (.ref c') qual)
    (hbind : bindArgs (kla_fn name qual params body scope cl pm (.ref c') ctv) ⟨args, []⟩ = pure binds) (hloc : ∀ y ∈ binds, scope.names.lookup y.1 = some .local) (hcell : ∀ x ∈ scope.names, x.2 ≠ .cell)
    (hco : scope.isCoroutine = false) (hgen : scope.isGenerator = false) (hk : scope.kind = .function)
    (h : ∀ h₀ E', h₀.Ns s.heap.objs.size (fun y => binds.reverse.lookup y) → Stay s.heap h₀ →
      wpAny (model pr w) (A.deeper (envX qual scope s.heap.objs.size f (.ref c') cl)) (eval body (envX qual scope s.heap.objs.size f (.ref c') cl)) Q E' { s with heap := h₀, toks := s.toks + binds.length }) :
    wpAny (model pr w) A (call (.ref f) args) Q E s := by
  refine wpAny_call (kla_callFunE hroom ho rfl hco hgen rfl hcd ?_)
  rw [hbind]
  refine wpAny_pure (wpAny_newFunctionEnv hcell hloc (fun h₁ hns hsb => ⟨hlim.fresh _ hsb, ?_⟩) hk)
  exact kla_codeExpr (h h₁ _ hns fun b o e => hsb.extBut b o (Nat.ne_of_lt (Heap.lt_size e)) (Heap.get?_push_of_some _ e))
end
end Mine
end
section
set_option maxRecDepth 100000
open PySem PySem.W PySem.Calls PyProof.Rows
namespace Mine
def bd10 : { b : List Stmt // defBody 10 = b } := ⟨_, by conv => lhs; whnf⟩
def step1 (acc : Str) (c : Nat) : Str := if b1has c then acc else acc ++ b3map c
def prepL (l : List Nat) : Str := l.foldl step1 ⟨#[]⟩
def okc (c : Nat) : Prop := (b3list.lookup (c : Int) = none → Builtin.Str.tooLong (Txt.lower ⟨#[c]⟩).length = false) ∧ (b3map c).length ≤ 4
theorem step1_len {acc : Str} {c : Nat} (h : okc c) : (step1 acc c).length ≤ acc.length + 4 := by
  unfold step1
  split
  · omega
  · have := h.2
    have e : (acc ++ b3map c).length = acc.length + (b3map c).length := by show (acc.cps ++ (b3map c).cps).size = _; exact Array.size_append
    omega
theorem prepL_len : ∀ (l : List Nat), (∀ c ∈ l, okc c) → (prepL l).length ≤ 4 * l.length := by
  have key : ∀ (l : List Nat) (a : Str), (∀ c ∈ l, okc c) → (l.foldl step1 a).length ≤ a.length + 4 * l.length := by
    intro l
    induction l with
    | nil => intro a _; exact Nat.le_refl _
    | cons c l ih =>
      intro a h
      have h1 := ih (step1 a c) fun c' hc' => h c' (.tail _ hc')
      have h2 := step1_len (acc := a) (h c (.head _))
      show (l.foldl step1 (step1 a c)).length ≤ _
      simp only [List.length_cons]
      omega
  intro l h
  have := key l ⟨#[]⟩ h
  have e : (⟨#[]⟩ : Str).length = 0 := rfl
  unfold prepL
  omega
section
variable {pr : Program} {w : World} {mg mb : Str → Option Value} {g : Heap} {A : Around} {E : Value → Shared → Prop} {s : Shared} {env : Env}
def fd99 (P : Params) : FuncData := match (o99 P).data with | .func f => f | _ => default
theorem prepared_call {x : Str} {t : Tok} {Q : Value → Shared → Prop} (G : Gt w mg mb g) (st : Stay g s.heap) (hroom : A.depth + 3 < recursionLimit) (hh : A.handled = none) (hI : TabI s.heap 94 33 18 "_law_prepared.<locals>.<lambda>")
    (hx : ∀ c ∈ x.cps.toList, okc c) (hsz : x.cps.size ≤ 3)
    (h : ∀ h' tk u, StayB 94 s.heap h' → TabI h' 94 33 18 "_law_prepared.<locals>.<lambda>" → Q (.str (prepL x.cps.toList) u) { s with heap := h', toks := tk }) : wpAny (model pr w) A (call (.ref 99) [.str x t]) Q E s := by
  have ho := st _ _ (G.objs (99, o99 w.params) (by simp [tabL]))
  refine wpAny_call (codeAny_call_def (fd := fd99 w.params) (body := bd10.1) (binds := [("text", .str x t)]) (by omega) ho rfl (G.nolimit.keeps st) ⟨98, _, _, _, rfl, st _ _ (G.objs (98, o98 w.params) (by simp [tabL])), rfl, rfl⟩ (congrArg FuncBody.stmts bd10.2) (BindsTo.of_eq rfl) (nocell (by kernel_rfl)) (loc_of (by kernel_rfl)) (fun h₀ hns hk => ?_) rfl rfl rfl)
  have st' : Stay g h₀ := st.trans hk
  dsimp only [bd10]
  refine wpAny_execs_cons (wpAny_Return_some ?_)
  refine Call_ (ev_global G.toGf st' (G.names ("reduce", 87) (by simp)) rfl rfl rfl ?_)
  refine callWith_def (o := o87 w.params) rfl ?_
  refine args_cons (lam_make (mg := mg) (c := 98) (P := 94) (clos := []) (line := 33) (col := 18) (qual := "_law_prepared.<locals>.<lambda>") (by kernel_rfl) (by kernel_rfl) (by kernel_rfl) rfl rfl rfl (G.ns.keeps st') rfl (G.code98.keeps st') ((G.bt 94 (by simp)).keeps st') (by decide) (G.toGf.big st') (hI.keeps hk) fun c' ctv f h₁ tk₁ k₁ I₁ hf ho₁ hr₁ => ?_)
  have st₁ : Stay g h₁ := G.stB (.inl rfl) st' k₁
  have hns₁ : h₁.Ns s.heap.objs.size _ := hns.extBut k₁ (Nat.ne_of_gt (Nat.lt_of_lt_of_le (by decide : 94 < 119) (G.toGf.big st)))
  refine args_cons (ev_local hns₁ (v := .str x t) rfl rfl rfl ?_)
  refine args_cons (wpAny_Constant_str ?_)
  refine args_nil ⟨st₁ _ _ (G.objs (87, o87 w.params) (by simp [tabL])), ?_⟩
  obtain ⟨It, Z⟩ := iter_str (pr := pr) (w := w) x t
  refine reduce_call Z G.toGf st₁ (by show A.depth + 1 < _; omega) hh (fun _ _ => trivial) ho₁ rfl (fun A' s' Q' E' _ q => wpAny_is_other rfl (by intro e; cases e) q)
    (fun _ _ i v h' => ∃ u, v = .str (prepL (x.cps.toList.take i)) u) (fun _ _ _ _ _ _ => ⟨_, rfl⟩) (fun _ _ _ _ _ _ y _ => y) ?_ ?_
  · rintro L I i _ v A' s' Q' E' hd hh' hi k' _ _ ⟨u, rfl⟩ ⟨c, u', hc, rfl⟩ hq
    have hd : A'.depth = A.depth + 2 := hd
    have hok : okc c := hx c (by rw [Array.getElem?_eq_some_iff] at hc; obtain ⟨hlt, rfl⟩ := hc; exact Array.getElem_mem_toList hlt)
    have st₂ : Stay g s'.heap := st₁.trans k'
    have htake : x.cps.toList.take (i + 1) = x.cps.toList.take i ++ [c] := by
      rw [List.take_add_one, Array.getElem?_toList, hc]; rfl
    have hprep : prepL (x.cps.toList.take (i + 1)) = step1 (prepL (x.cps.toList.take i)) c := by rw [htake]; unfold prepL; rw [List.foldl_append]; rfl
    have hlen : (prepL (x.cps.toList.take i)).length ≤ 12 := by
      have h1 := prepL_len (x.cps.toList.take i) fun c hc => hx c (List.mem_of_mem_take hc)
      have h2 : (x.cps.toList.take i).length ≤ 3 := by rw [List.length_take, Array.length_toList]; omega
      omega
    refine lam_call (binds := [("done", .str (prepL (x.cps.toList.take i)) u), ("sign", .str ⟨#[c]⟩ u')]) (by omega) (G.nolimit.keeps st₂) (k' _ _ ho₁) (hr₁.keeps k') rfl (loc_of (by kernel_rfl)) (nocell (by kernel_rfl)) rfl rfl rfl fun h₂ E₂ hns₂ k₂ => ?_
    have st₃ : Stay g h₂ := st₂.trans k₂
    refine wpAny_IfExp (isTrue_plain ?_)
    refine Call_ (ev_global G.toGf st₃ (G.names ("in_table_b1", 32) (by simp)) rfl rfl rfl ?_)
    refine callWith_def (o := o32 w.params) rfl ?_
    refine args_cons (ev_local hns₂ (v := .str ⟨#[c]⟩ u') rfl rfl rfl ?_)
    refine args_nil ⟨st₃ _ _ (G.objs (32, o32 w.params) (by simp [tabL])), ?_⟩
    refine inb1_call G.toGf st₃ (by show A'.depth + 1 < _; omega) fun h₃ tk₃ k₃ => ?_
    refine wpAny_truthy_bool ?_
    cases hb : b1has c with
    | true =>
      refine ev_local (hns₂.keeps k₃) (v := .str (prepL (x.cps.toList.take i)) u) rfl rfl rfl ?_
      exact hq _ _ _ (k₂.trans k₃) ⟨u, by rw [hprep, step1, if_pos hb]⟩
    | false =>
      refine wpAny_BinOp (ev_local (hns₂.keeps k₃) (v := .str (prepL (x.cps.toList.take i)) u) rfl rfl rfl ?_)
      refine Call_ (ev_global G.toGf (st₃.trans k₃) (G.names ("map_table_b3", 78) (by simp)) rfl rfl rfl ?_)
      refine callWith_def (o := o78 w.params) rfl ?_
      refine args_cons (ev_local (hns₂.keeps k₃) (v := .str ⟨#[c]⟩ u') rfl rfl rfl ?_)
      refine args_nil ⟨st₃.trans k₃ _ _ (G.objs (78, o78 w.params) (by simp [tabL])), ?_⟩
      refine b3_call G.toGf (st₃.trans k₃) (by show A'.depth + 1 < _; omega) hok.1 fun h₄ tk₄ u₄ k₄ => ?_
      refine add_str (fun t' tk => ?_) (by have := hok.2; unfold sizeLine; omega)
      exact hq _ _ _ ((k₂.trans k₃).trans k₄) ⟨t', by rw [hprep, step1, if_neg (by rw [hb]; decide)]⟩
  · rintro L I r h' tk k' ⟨u, rfl⟩
    have e : x.cps.toList.take x.cps.size = x.cps.toList := by rw [← Array.length_toList, List.take_length]
    rw [e]
    exact h _ _ _ (fun b o hb e => k' _ _ (k₁ _ _ hb (hk _ _ e))) (I₁.keeps k')
end
end Mine
end
section
set_option maxRecDepth 100000
open PySem PySem.W PySem.Calls PyProof.Rows
namespace Mine
def bd12 : { b : List Stmt // defBody 12 = b } := ⟨_, by conv => lhs; whnf⟩
section
variable {pr : Program} {w : World} {mg mb : Str → Option Value} {g : Heap} {A : Around} {E : Value → Shared → Prop} {s : Shared} {env : Env}
def rngIt (n i : Nat) (o : Obj) : Prop := o = { cls := .type "range_iterator", dict := none, data := .fields #[rawInt i, rawInt ((n : Int) - i), rawInt 1], slots := #[] }
theorem iter_range (r : Addr) (n : Nat) (t u v : Tok) (hn : n < 2 ^ 62) : IterOf pr w (fun h => IsRange h r 0 n 1 t u v) (.ref r) n (fun i x => ∃ t', x = .int i t') (rngIt n) := by
  have hsm : Builtin.Range.small 0 n 1 = true := small_one (by decide) (by decide) (by omega) (by omega)
  have hsz : Builtin.Range.rangeSize 0 n 1 = n := by rw [rangeSize_one]; split <;> omega
  refine ⟨fun A E s Q hr h => ?_, fun A E s Q I o i ho hi h => ?_, fun A E s Q I o i hn ho hi h => ?_, fun A E s Q I o hh ho hi h => ?_⟩
  · refine wpAny_pyIter_range hr hsm ?_
    rw [hsz]
    exact h _ (by unfold rngIt; simp) rfl
  · cases hi
    exact iter_self (T := "range_iterator") ⟨_, ho, rfl⟩ F.slot_range_iterator_iter entry_rngit (F.args_range_iterator_iter_1 _) F.slot_range_iterator_next.lookup h
  · cases hi
    refine wpAny_pyNext_range_item (it := I) (x := i) (left := (n : Int) - i) (step := 1) ho (by omega) fun h' hi' hs => ?_
    refine h _ _ h' _ ⟨_, rfl⟩ ?_ hi' hs
    unfold rngIt
    have e1 : ((i + 1 : Nat) : Int) = (i : Int) + 1 := by omega
    have e2 : (n : Int) - i - 1 = (n : Int) - (i + 1 : Nat) := by omega
    rw [e1, ← e1, e2]
  · cases hi
    exact wpAny_pyNext_range_end (it := I) (x := n) (left := (n : Int) - n) (step := 1) hh ho (by omega) fun h' he => h h' he
/-- no code object lies there -/
def NoCode (h : Heap) (a : Addr) : Prop := ∀ q, ¬ h.CodeRec (.ref a) q
def ItNC (It : Nat → Obj → Prop) : Prop := ∀ i o vs q t, It i o → o.data = .fields vs → vs[1]? ≠ some (.str q t)
theorem nocode_of {h : Heap} {a : Addr} {o : Obj} (e : h.get? a = some o) (n : ∀ vs q t, o.data = .fields vs → vs[1]? ≠ some (.str q t)) : NoCode h a := by
  rintro q ⟨c, o', vs, t, ⟨⟩, e', d, x⟩
  rw [e] at e'; cases e'
  exact n vs q t d x
theorem rng_nc (n : Nat) : ItNC (rngIt n) := by
  rintro i o vs q t rfl d x
  cases d; cases x
/-- a for loop over a source with an iterator -/
theorem for_of {seq : Value} {n : Nat} {el : Nat → Value → Prop} {It : Nat → Obj → Prop} {x : Str} {px pos : Pos} {iter : Expr} {body : List Stmt} {Q : Flow → Shared → Prop} (hh : A.handled = none) (hx : env.kindOf x = some .local) (hk : env.scope.kind = .function) (hnc : ItNC It)
    (J : Addr → Nat → (Str → Option Value) → Heap → Prop)
    (h : wpAny (model pr w) A (eval iter env) (fun xv s₁ => xv = seq ∧ (∃ ok, IterOf pr w ok seq n el It ∧ ok s₁.heap) ∧ (∃ h₀ tk₀, s₁ = { s with heap := h₀, toks := tk₀ }) ∧ (∃ m, s₁.heap.Ns env.locals m ∧ ∀ I h', s₁.heap.objs.size ≤ I → Stay s₁.heap h' → J I 0 m h')) E s)
    (hJ : ∀ I i m h h', J I i m h → Stay2 env.locals I h h' → J I i m h')
    (step : ∀ I i m v h₂ tk Q' E', i < n → el i v → I ≠ env.locals → (h₂.get? I).isSome = true → NoCode h₂ I → J I i m h₂ → h₂.Ns env.locals (fun y => if y = x then some v else m y) →
      (∀ h₃ tk₃ m₃, (∀ o, h₂.get? I = some o → h₃.get? I = some o) → h₃.Ns env.locals m₃ → J I (i + 1) m₃ h₃ → Q' .next { s with heap := h₃, toks := tk₃ }) → wpAny (model pr w) A (execs body env) Q' E' { s with heap := h₂, toks := tk })
    (fin : ∀ I m h₂ tk, J I n m h₂ → h₂.Ns env.locals m → Q .next { s with heap := h₂, toks := tk })
    (hs : ∀ x, foldedSetIterable iter env x = pure x := by intro _; rfl) : wpAny (model pr w) A (exec (.For (.Name x px) iter body [] pos) env) Q E s := by
  refine wpAny_For (wpAny_mono h (fun xv s₁ hx₁ => ?_) fun _ _ e => e) hs
  obtain ⟨rfl, ⟨ok, Z, hok⟩, ⟨h₀, tk₀, rfl⟩, m, hns, h0⟩ := hx₁
  refine Z.start _ _ _ _ hok fun o hi hf => ?_
  have hLI : env.locals ≠ h₀.objs.size := Nat.ne_of_lt hns.lt
  have hIg : (h₀.push o).get? h₀.objs.size = some o := Heap.get?_push_size _ hf
  refine codeAny_forLoop (fun k s' => ∃ h' tk m' i o', s' = { s with heap := h', toks := tk } ∧ h'.get? h₀.objs.size = some o' ∧ It i o' ∧ h'.Ns env.locals m' ∧ J h₀.objs.size i m' h' ∧ i ≤ n ∧ k = n - i) ?_ n
    ⟨_, _, m, 0, o, rfl, hIg, hi, hns.push _, h0 _ _ (Nat.le_refl _) fun b o e => Heap.get?_push_of_some _ e, Nat.zero_le _, rfl⟩
  rintro k s' ⟨h', tk, m', i, o', rfl, hI', hi', hn', hJ', hin, rfl⟩
  rcases Nat.lt_or_ge i n with hlt | hge
  · refine Z.next _ _ _ _ _ o' i hlt hI' hi' fun v o₃ h₃ tk₃ hel hi₃ hI₃ hs₃ => ?_
    have hn₃ : h₃.Ns env.locals m' := hn'.sameBut hs₃ hLI
    refine wpAny_assign_Name (wpAny_storeName_local hx hn₃ (fun h₄ hn₄ hs₄ => ?_) (by rw [hk]; rfl))
    have hI₄ : h₄.get? h₀.objs.size = some o₃ := (hs₄.2 _ (Ne.symm hLI)).trans hI₃
    refine step _ i m' v h₄ _ _ _ hlt hel (Ne.symm hLI) (by rw [hI₄]; rfl) (nocode_of hI₄ fun vs q t d => hnc _ _ vs q t hi₃ d) (hJ _ _ _ _ _ hJ' fun b o' hb1 hb2 e => hs₄.extBut b o' hb1 (hs₃.extBut b o' hb2 e)) hn₄ fun h₅ tk₅ m₅ k₅ n₅ J₅ => ?_
    exact ⟨n - (i + 1), by omega, h₅, tk₅, m₅, i + 1, o₃, rfl, k₅ _ hI₄, hi₃, n₅, J₅, hlt, rfl⟩
  · obtain rfl : i = n := Nat.le_antisymm hin hge
    refine Z.fin _ _ _ _ _ o' hh hI' hi' fun h₃ he₃ => ?_
    refine wpAny_execs_nil ?_
    exact fin _ m' h₃ _ (hJ _ _ _ _ _ hJ' fun b o' _ hb2 e => he₃ b o' hb2 e) (hn'.extBut he₃ hLI)
end
end Mine
end
section
set_option maxRecDepth 100000
open PySem PySem.W PySem.Calls PyProof.Rows
namespace Mine
def chF (n : Int) : Nat → Int
  | 0 => 1
  | j + 1 => (chF n j * (n - j)).fdiv (j + 1)
section
variable {pr : Program} {w : World} {mg mb : Str → Option Value} {g : Heap} {A : Around} {E : Value → Shared → Prop} {s : Shared} {env : Env}
def fd111 (P : Params) : FuncData := match (o111 P).data with | .func f => f | _ => default
theorem choose_call {n : Int} {k : Nat} {t u : Tok} {Q : Value → Shared → Prop} (G : Gf w mg mb g) (st : Stay g s.heap) (hroom : A.depth < recursionLimit) (hh : A.handled = none) (hk : k < 100) (hm : ∀ i, i < k → IntMulOk (chF n i) (n - i))
    (h : ∀ h' tk u, Stay s.heap h' → Q (.int (chF n k) u) { s with heap := h', toks := tk }) : wpAny (model pr w) A (call (.ref 111) [.int n t, .int k u]) Q E s := by
  have ho := st _ _ (G.objs (111, o111 w.params) (by simp [tabL]))
  refine wpAny_call (codeAny_call_def (fd := fd111 w.params) (body := bd12.1) (binds := [("n", .int n t), ("k", .int k u)]) hroom ho rfl (G.nolimit.keeps st) ⟨110, _, _, _, rfl, st _ _ (G.objs (110, o110 w.params) (by simp [tabL])), rfl, rfl⟩ (congrArg FuncBody.stmts bd12.2) (BindsTo.of_eq rfl) (nocell (by kernel_rfl)) (loc_of (by kernel_rfl)) (fun h₀ hns hk₀ => ?_) rfl rfl rfl)
  dsimp only [bd12]
  refine wpAny_execs_cons (wpAny_Assign_Name (wpAny_Constant_int ?_))
  refine wpAny_storeName_local (env := callEnv (fd111 w.params) s.heap.objs.size 111) rfl hns (fun h₁ hn₁ hs₁ => ?_)
  have keep₁ : Stay s.heap h₁ := fun b o' e => hs₁.extBut b o' (Nat.ne_of_lt (Heap.lt_size e)) (hk₀ b o' e)
  have hsz₁ : h₁.objs.size ≥ s.heap.objs.size := Nat.le_of_lt hn₁.lt
  refine wpAny_execs_cons (for_of (env := callEnv (fd111 w.params) s.heap.objs.size 111) (seq := .ref h₁.objs.size) (n := k) (el := fun i x => ∃ t', x = .int i t') (It := rngIt k) hh rfl rfl (rng_nc k)
    (fun I i m h' => m "n" = some (.int n t) ∧ (∃ u', m "ways" = some (.int (chF n i) u')) ∧ Stay s.heap h' ∧ s.heap.objs.size ≤ I) ?_ ?_ ?_ ?_)
  · refine Call_Name1 (ev_builtin G (st.trans keep₁) (G.bare _ (by simp)) (v := .type "range") (by kernel_rfl) (by decide) rfl rfl rfl rfl ?_)
    refine PySem.callWith_type1 ?_
    refine ev_local hn₁ (v := .int k u) rfl rfl rfl ?_
    refine call_range_1 ?_
    refine ⟨rfl, ⟨_, iter_range _ k _ _ _ (by omega), IsRange.new _ _ _ _ _ _ _⟩, ⟨_, _, rfl⟩, _, hn₁.push _, fun I h' hI k' => ⟨rfl, ⟨_, rfl⟩, ?_, ?_⟩⟩
    · exact fun b o e => k' b o (Heap.get?_push_of_some _ (keep₁ b o e))
    · have hI : (h₁.push _).objs.size ≤ I := hI
      rw [Heap.size_push] at hI
      exact Nat.le_trans hsz₁ (Nat.le_trans (Nat.le_succ _) hI)
  · rintro I i m h h' ⟨h1, h2, h3, h4⟩ k'
    exact ⟨h1, h2, fun b o e => k' b o (Nat.ne_of_lt (Heap.lt_size e)) (Nat.ne_of_lt (Nat.lt_of_lt_of_le (Heap.lt_size e) h4)) (h3 b o e), h4⟩
  · rintro I i m v h₂ tk Q' E' hi ⟨tv, rfl⟩ hIL hI _ ⟨h1, ⟨u', h2⟩, h3, h4⟩ hn₂ hq
    refine wpAny_execs_cons (wpAny_Assign_Name (wpAny_BinOp (wpAny_BinOp ?_)))
    refine ev_local hn₂ (v := .int (chF n i) u') h2 rfl rfl ?_
    refine wpAny_BinOp (ev_local hn₂ (v := .int n t) h1 rfl rfl ?_)
    refine ev_local hn₂ (v := .int i tv) rfl rfl rfl ?_
    refine sub_int (mul_int ?_ (hm i hi))
    refine wpAny_BinOp (ev_local hn₂ (v := .int i tv) rfl rfl rfl (wpAny_Constant_int (add_int ?_)))
    refine floordiv_int (by omega) ?_
    refine wpAny_storeName_local (env := callEnv (fd111 w.params) s.heap.objs.size 111) rfl hn₂ (fun h₃ hn₃ hs₃ => ?_)
    refine wpAny_execs_nil ?_
    exact hq h₃ _ _ (fun o e => hs₃.extBut _ o hIL e) hn₃ ⟨h1, ⟨_, rfl⟩, fun b o e => hs₃.extBut b o (Nat.ne_of_lt (Heap.lt_size e)) (h3 b o e), h4⟩
  · rintro I m h₂ tk ⟨h1, ⟨u', h2⟩, h3, h4⟩ hn₂
    refine wpAny_execs_cons (wpAny_Return_some ?_)
    refine ev_local hn₂ (v := .int (chF n k) u') h2 rfl rfl ?_
    exact h _ _ _ h3
end
end Mine
end
section
set_option maxRecDepth 100000
open PySem PySem.W PySem.Calls PyProof.Rows
namespace Mine
/-- IterOf, with a heap fact at each step -/
structure WalkOf (pr : Program) (w : World) (ok : Heap → Prop) (seq : Value) (n : Nat) (el : Nat → Value → Prop) (It : Nat → Obj → Prop) : Prop where
  start : ∀ (A : Around) (E : Value → Shared → Prop) (s : Shared) (Q : Value → Shared → Prop), ok s.heap → (∀ o, It 0 o → o.isFreed = false → Q (.ref s.heap.objs.size) { s with heap := s.heap.push o }) → wpAny (model pr w) A (pyIter seq) Q E s
  again : ∀ (A : Around) (E : Value → Shared → Prop) (s : Shared) (Q : Value → Shared → Prop) (I : Addr) (o : Obj) (i : Nat), s.heap.get? I = some o → It i o → Q (.ref I) s → wpAny (model pr w) A (pyIter (.ref I)) Q E s
  next : ∀ (A : Around) (E : Value → Shared → Prop) (s : Shared) (Q : Option Value → Shared → Prop) (I : Addr) (o : Obj) (i : Nat), ok s.heap → i < n → s.heap.get? I = some o → It i o →
    (∀ v o' h' tk, el i v → It (i + 1) o' → h'.get? I = some o' → Heap.SameBut I s.heap h' → Q (some v) { s with heap := h', toks := tk }) → wpAny (model pr w) A (pyNext (.ref I)) Q E s
  fin : ∀ (A : Around) (E : Value → Shared → Prop) (s : Shared) (Q : Option Value → Shared → Prop) (I : Addr) (o : Obj), ok s.heap → A.handled = none → s.heap.get? I = some o → It n o →
    (∀ h', Heap.ExtBut I s.heap h' → Q none { s with heap := h' }) → wpAny (model pr w) A (pyNext (.ref I)) Q E s
theorem IterOf.walk {pr : Program} {w : World} {ok : Heap → Prop} {seq : Value} {n : Nat} {el : Nat → Value → Prop} {It : Nat → Obj → Prop} (Z : IterOf pr w ok seq n el It) : WalkOf pr w ok seq n el It :=
  ⟨Z.start, Z.again, fun A E s Q I o i _ hi ho hI h => Z.next A E s Q I o i hi ho hI h, fun A E s Q I o _ hh ho hI h => Z.fin A E s Q I o hh ho hI h⟩
def lstIt (a : Addr) (i : Nat) (o : Obj) : Prop := o.cls = .type "list_iterator" ∧ o.data = .fields #[.ref a, .int i 0]
theorem NoCode.keeps {h h' : Heap} {a : Addr} (x : NoCode h a) (s : (h.get? a).isSome = true) (k : ∀ o, h.get? a = some o → h'.get? a = some o) : NoCode h' a := by
  obtain ⟨o, e⟩ := Option.isSome_iff_exists.mp s
  rintro q ⟨c, o', vs, t, ⟨⟩, e', r⟩
  rw [k _ e] at e'; cases e'
  exact x q ⟨a, o, vs, t, rfl, e, r⟩
theorem ns_some {h : Heap} {a : Addr} {m : Str → Option Value} (n : h.Ns a m) : (h.get? a).isSome = true := by
  obtain ⟨o, es, ep, e, d, _⟩ := n
  rw [e]; rfl
theorem lst_it_nc (a : Addr) : ItNC (lstIt a) := by
  rintro i o vs q t ⟨_, d'⟩ d x
  rw [d'] at d; cases d; cases x
theorem ns_nc {h : Heap} {a : Addr} {m : Str → Option Value} (n : h.Ns a m) : NoCode h a := by
  obtain ⟨o, es, ep, e, d, _⟩ := n
  exact nocode_of e fun vs q t d' => by rw [d] at d'; cases d'
theorem lst_nc {h : Heap} {a : Addr} {its : Array Value} (n : h.PlainList a its) : NoCode h a := by
  obtain ⟨k, e⟩ := n
  exact nocode_of e fun vs q t d' => by cases d'
section
variable {pr : Program} {w : World} {mg mb : Str → Option Value} {g : Heap} {A : Around} {E : Value → Shared → Prop} {s : Shared} {env : Env}
theorem walk_list (a : Addr) (items : Array Value) : WalkOf pr w (fun h => h.IsList a items) (.ref a) items.size (fun i v => items[i]? = some v) (lstIt a) := by
  refine ⟨fun A E s Q hl h => ?_, fun A E s Q I o i ho hi h => ?_, fun A E s Q I o i hl hn ho hi h => ?_, fun A E s Q I o hl hh ho hi h => ?_⟩
  · exact wpAny_pyIter_list hl (h _ ⟨rfl, rfl⟩ rfl)
  · exact wpAny_pyIter_listiter (i := i) ⟨o, ho, hi⟩ h
  · refine wpAny_pyNext_list_item (i := i) ⟨o, ho, hi⟩ hl (Array.getElem?_eq_getElem hn) fun h' ⟨o', h1, h2⟩ hs => h _ o' h' _ (Array.getElem?_eq_getElem hn) h2 h1 hs
  · exact wpAny_pyNext_list_end (i := items.size) hh ⟨o, ho, hi⟩ hl (Array.getElem?_eq_none (Nat.le_refl _)) fun h' he => h h' he
/-- all but the comprehension's own three objects stands -/
def Stay3 (C D I : Addr) (h h' : Heap) : Prop := ∀ b o, b ≠ C → b ≠ D → b ≠ I → h.get? b = some o → h'.get? b = some o
/-- the comprehension's own three objects stand -/
def Frame3 (C D I : Addr) (h h' : Heap) : Prop := ∀ b o, b = C ∨ b = D ∨ b = I → h.get? b = some o → h'.get? b = some o
theorem Stay.frame3 {C D I : Addr} {h h' : Heap} (x : Stay h h') : Frame3 C D I h h' := fun b o _ e => x b o e
theorem Stay3.stay {C D I : Addr} {g h h' : Heap} (x : Stay g h) (y : Stay3 C D I h h') (c : g.objs.size ≤ C) (d : g.objs.size ≤ D) (i : g.objs.size ≤ I) : Stay g h' := fun b o e =>
  have l := Heap.lt_size e
  y b o (Nat.ne_of_lt (Nat.lt_of_lt_of_le l c)) (Nat.ne_of_lt (Nat.lt_of_lt_of_le l d)) (Nat.ne_of_lt (Nat.lt_of_lt_of_le l i)) (x b o e)
/-- the stage of a comprehension's turn -/
structure At3 (C D I : Addr) (h : Heap) : Prop where
  c : C < h.objs.size
  d : D < h.objs.size
  i : I < h.objs.size
  sc : (h.get? C).isSome = true
  sd : (h.get? D).isSome = true
  si : (h.get? I).isSome = true
  nc : NoCode h C
  nd : NoCode h D
  ni : NoCode h I
  cd : C ≠ D
  ci : C ≠ I
  di : D ≠ I
theorem comp_of {ok : Heap → Prop} {seq : Value} {n : Nat} {el : Nat → Value → Prop} {It : Nat → Obj → Prop} {elt iter : Expr} {x : Str} {px : Pos} {ifs : List Expr} {scope : Scope} {cl : List (Str × Addr)} {pos : Pos} {Q : Value → Shared → Prop}
    (Z : WalkOf pr w ok seq n el It) (hnc : ItNC It) (hh : A.handled = none) (hn : n ≤ sizeLine)
    (hclos : closureFor scope env = pure cl) (hcell : ∀ y ∈ scope.names, y.2 ≠ .cell) (hkind : scope.kind = .function)
    (hnames : ∀ y ∈ scope.names, y.2 = .local → scope.names.lookup y.1 = some .local) (hx : scope.names.lookup x = some .local)
    (J : Addr → Addr → Addr → Nat → List Value → Heap → Prop)
    (h : wpAny (model pr w) A (eval iter env) (fun xv s₁ => xv = seq ∧ ok s₁.heap ∧ (∃ h₀ tk₀, s₁ = { s with heap := h₀, toks := tk₀ }) ∧
      ∀ C D I h', s₁.heap.objs.size ≤ C → s₁.heap.objs.size ≤ D → s₁.heap.objs.size ≤ I → Stay s₁.heap h' → J C D I 0 [] h') E s)
    (hJ : ∀ C D I i ys h h', J C D I i ys h → Stay3 C D I h h' → J C D I i ys h')
    (hok : ∀ C D I i ys h, J C D I i ys h → ok h)
    (step : ∀ C D I i v ys h₂ tk m E', i < n → el i v → At3 C D I h₂ → J C D I i ys h₂ → h₂.Ns C m → m x = some v →
      wpAny (model pr w) A (forIn ifs true fun c r => if r = true then do let ok ← isTrue c (compEnvC scope cl C env) (eval c (compEnvC scope cl C env)); pure (ForInStep.yield ok) else pure (ForInStep.yield r))
        (fun b s₃ => if b = true then wpAny (model pr w) A (eval elt (compEnvC scope cl C env)) (fun y s₄ => ∃ h₄ tk₄, s₄ = { s with heap := h₄, toks := tk₄ } ∧ Frame3 C D I h₂ h₄ ∧ J C D I (i + 1) (ys ++ [y]) h₄) E' s₃
          else ∃ h₃ tk₃, s₃ = { s with heap := h₃, toks := tk₃ } ∧ Frame3 C D I h₂ h₃ ∧ J C D I (i + 1) ys h₃) E' { s with heap := h₂, toks := tk })
    (fin : ∀ C D I h' tk ys, h'.PlainList D ys → J C D I n ys.toList h' → Q (.ref D) { s with heap := h', toks := tk })
    (hs : ∀ x, foldedSetIterable iter env x = pure x := by intro _; rfl) :
    wpAny (model pr w) A (eval (.ListComp elt [⟨.Name x px, iter, ifs, 0⟩] scope pos) env) Q E s := by
  rw [eval_ListComp]
  refine wpAny_comprehension_free (use := none) rfl hs hclos hkind hnames (wpAny_mono h (fun xv s₁ h₁ => ?_) fun _ _ e => e)
  obtain ⟨rfl, hok₀, ⟨h₀, tk₀, rfl⟩, hJ₀⟩ := h₁
  refine Z.start _ _ _ _ hok₀ fun o hi hf => ?_
  refine wpAny_newObj_type (wpAny_newFunctionEnv hcell (by intro y hy; simp at hy) (fun h₁ hns₁ hsb₁ => ?_) hkind)
  dsimp only at hns₁ hsb₁ hJ₀ ⊢
  generalize hH1 : h₀.push o = H1 at hns₁ hsb₁ ⊢
  have hD : H1.objs.size = h₀.objs.size + 1 := by rw [← hH1, Heap.size_push]
  generalize hH2 : H1.push { cls := .type "list", dict := none, data := .seq ([] : List Value).toArray } = H2 at hns₁ hsb₁ ⊢
  have hC : H2.objs.size = h₀.objs.size + 2 := by rw [← hH2, Heap.size_push, hD]
  have hDC : H1.objs.size ≠ H2.objs.size := by omega
  have hIC : h₀.objs.size ≠ H2.objs.size := by omega
  have hDI : H1.objs.size ≠ h₀.objs.size := by omega
  have old : Stay h₀ h₁ := fun b o e => hsb₁.extBut b o (Nat.ne_of_lt (Nat.lt_of_lt_of_le (Heap.lt_size e) (by omega))) (Heap.get?_push_of_some _ (hH2 ▸ Heap.get?_push_of_some _ (hH1 ▸ Heap.get?_push_of_some _ e)))
  have hI₁ : h₁.get? h₀.objs.size = some o := hsb₁.extBut _ _ hIC (Heap.get?_push_of_some _ (hH2 ▸ Heap.get?_push_of_some _ (hH1 ▸ Heap.get?_push_size _ hf)))
  have hacc : h₁.PlainList H1.objs.size #[] := ⟨_, hsb₁.extBut _ _ hDC (Heap.get?_push_of_some _ (hH2 ▸ Heap.get?_push_size _ rfl))⟩
  have hJ1 := hJ₀ H2.objs.size H1.objs.size h₀.objs.size h₁ (by omega) (by omega) (Nat.le_refl _) old
  clear hJ₀
  generalize hCe : H2.objs.size = C at *
  generalize hDe : H1.objs.size = D at *
  generalize hIe : h₀.objs.size = I at *
  have loop : ∀ s₃ : Shared, s₃ = { s with heap := h₁, toks := tk₀ + ([] : List (Str × Value)).length } →
      codeAny (model pr w) A (.compLoop (.ListComp elt [⟨.Name x px, iter, ifs, 0⟩] scope pos) 0 (.ref I) (.ref D) (compEnvC scope cl C env)) (compPost (model pr w) A E none Q (.ref D) C) s₃ := by
    rintro s₃ rfl
    refine codeAny_compLoop_tests (fun k s' => ∃ h' tk m' ys i o', s' = { s with heap := h', toks := tk } ∧ h'.get? I = some o' ∧ It i o' ∧ h'.PlainList D ys ∧ h'.Ns C m' ∧ J C D I i ys.toList h' ∧ i ≤ n ∧ ys.size ≤ i ∧ k = n - i) ?_ n
      ⟨h₁, _, _, #[], 0, o, rfl, hI₁, hi, hacc, hns₁, hJ1, Nat.zero_le _, Nat.le_refl _, rfl⟩
    rintro k s' ⟨h', tk, m', ys, i, o', rfl, hI', hi', hD', hn', hJ', hin, hys, rfl⟩
    rcases Nat.lt_or_ge i n with hlt | hge
    · refine Z.next _ _ _ _ _ o' i (hok _ _ _ _ _ _ hJ') hlt hI' hi' fun v o₃ h₃ tk₃ hel hi₃ hI₃ hs₃ => ?_
      refine wpAny_assign_Name (wpAny_storeName_local (lookup_relabel_local hx) (hn'.sameBut hs₃ (Ne.symm hIC)) (fun h₄ hn₄ hs₄ => ?_) (by simp [compEnvC, relabel, hkind]))
      have hI₄ : h₄.get? I = some o₃ := (hs₄.2 _ hIC).trans hI₃
      have hD₄ : h₄.PlainList D ys := (hD'.extBut hs₃.extBut hDI).extBut hs₄.extBut hDC
      have hJ₄ : J C D I i ys.toList h₄ := hJ _ _ _ _ _ _ _ hJ' fun b o' hb1 hb2 hb3 e => hs₄.extBut b o' hb1 (hs₃.extBut b o' hb3 e)
      have at₄ : At3 C D I h₄ := ⟨hn₄.lt, (let ⟨_, e⟩ := hD₄; Heap.lt_size e), Heap.lt_size hI₄, ns_some hn₄, (let ⟨_, e⟩ := hD₄; by rw [e]; rfl), by rw [hI₄]; rfl, ns_nc hn₄, lst_nc hD₄, nocode_of hI₄ fun vs q t d => hnc _ _ vs q t hi₃ d, Ne.symm hDC, Ne.symm hIC, hDI⟩
      refine wpAny_mono (step C D I i v ys.toList h₄ _ _ _ hlt hel at₄ hJ₄ hn₄ (if_pos rfl)) (fun b s₅ h₅ => ?_) fun _ _ e => e
      cases b with
      | false =>
        simp only [Bool.false_eq_true, if_false] at h₅ ⊢
        obtain ⟨h₅, tk₅, rfl, F, J₅⟩ := h₅
        exact ⟨n - (i + 1), by omega, h₅, tk₅, _, ys, i + 1, o₃, rfl, F _ _ (.inr (.inr rfl)) hI₄, hi₃, hD₄.at fun o e => F _ o (.inr (.inl rfl)) e, hn₄.at' fun o e => F _ o (.inl rfl) e, J₅, hlt, by omega, rfl⟩
      | true =>
        simp only [if_true] at h₅ ⊢
        refine wpAny_mono h₅ (fun y s₆ h₆ => ?_) fun _ _ e => e
        obtain ⟨h₆, tk₆, rfl, F, J₆⟩ := h₆
        refine wpAny_list_append_plain (hsz := by omega) (hD₄.at fun o e => F _ o (.inr (.inl rfl)) e) fun h₇ hl₇ hs₇ => ?_
        refine ⟨n - (i + 1), by omega, h₇, tk₆, _, ys.push y, i + 1, o₃, rfl, (hs₇.2 _ (Ne.symm hDI)).trans (F _ _ (.inr (.inr rfl)) hI₄), hi₃, hl₇, (hn₄.at' fun o e => F _ o (.inl rfl) e).sameBut hs₇ (Ne.symm hDC), ?_, hlt, by rw [Array.size_push]; omega, rfl⟩
        rw [Array.toList_push]
        exact hJ _ _ _ _ _ _ _ J₆ fun b o' hb1 hb2 hb3 e => hs₇.extBut b o' hb2 e
    · obtain rfl : i = n := Nat.le_antisymm hin hge
      refine Z.fin _ _ _ _ _ o' (hok _ _ _ _ _ _ hJ') hh hI' hi' fun h₃ he₃ => ?_
      refine ⟨m', hn'.extBut he₃ (Ne.symm hIC), fun h'' hs'' => ?_⟩
      have hD₄ : h''.PlainList D ys := (hD'.extBut he₃ hDI).extBut hs''.extBut hDC
      exact fin C D I h'' _ ys hD₄ (hJ _ _ _ _ _ _ _ hJ' fun b o' hb1 hb2 hb3 e => hs''.extBut b o' hb1 (he₃ b o' hb3 e))
  refine codeAny_compStart_list (loop _ rfl) (Z.again _ _ _ _ _ o 0 hI₁ hi (loop _ rfl))
end
end Mine
end
section
set_option maxRecDepth 100000
open PySem PySem.W PySem.Calls PyProof.Rows
namespace Mine
theorem turn_outer (elt t1 it1 t2 it2 : Expr) (scope : Scope) (pos : Pos) (it acc : Value) (env : Env) :
    compTurn (.ListComp elt [⟨t1, it1, [], 0⟩, ⟨t2, it2, [], 0⟩] scope pos) 0 it acc env = (standAt it1.pos >>= fun _ => pyNext it >>= fun r => match r with
      | none => pure (.done .next)
      | some v => letOwnedTupleGo t1 it v >>= fun _ => assign t1 env v >>= fun _ =>
        (eval it2 env >>= fun x => standAt it2.pos >>= fun _ => foldedSetIterable it2 env x >>= fun x => holding [x] (pyIter x) >>= fun i2 =>
          runOwn (.compStart (.ListComp elt [⟨t1, it1, [], 0⟩, ⟨t2, it2, [], 0⟩] scope pos) 1 i2 acc env) env >>= fun _ =>
          again (.compLoop (.ListComp elt [⟨t1, it1, [], 0⟩, ⟨t2, it2, [], 0⟩] scope pos) 0 it acc env))) := by rfl
theorem turn_inner (elt t1 it1 t2 it2 : Expr) (scope : Scope) (pos : Pos) (it acc : Value) (env : Env) :
    compTurn (.ListComp elt [⟨t1, it1, [], 0⟩, ⟨t2, it2, [], 0⟩] scope pos) 1 it acc env = (standAt it2.pos >>= fun _ => pyNext it >>= fun r => match r with
      | none => pure (.done .next)
      | some v => letOwnedTupleGo t2 it v >>= fun _ => assign t2 env v >>= fun _ =>
        (eval elt env >>= fun x => call (.builtin "list.append") [acc, x] >>= fun _ => pure ()) >>= fun _ =>
          again (.compLoop (.ListComp elt [⟨t1, it1, [], 0⟩, ⟨t2, it2, [], 0⟩] scope pos) 1 it acc env)) := by rfl
section
variable {pr : Program} {w : World} {mg mb : Str → Option Value} {g : Heap} {A : Around} {E : Value → Shared → Prop} {R : Result → Shared → Prop} {s : Shared} {env : Env}
theorem loop_inner {elt t1 it1 t2 it2 : Expr} {scope : Scope} {pos : Pos} {it acc : Value} (I : Nat → Shared → Prop)
    (turn : ∀ n s, I n s → wpAny (model pr w) A (pyNext it) (fun r s₁ => match r with
      | none => R (.ok .next) s₁
      | some v => wpAny (model pr w) A (assign t2 env v) (fun _ s₂ => wpAny (model pr w) A (eval elt env) (fun x s₃ =>
          wpAny (model pr w) A (call (.builtin "list.append") [acc, x]) (fun _ s₄ => ∃ m, m < n ∧ I m s₄) (notedBy (model pr w) A env fun e s' => R (.error e) s') s₃)
          (notedBy (model pr w) A env fun e s' => R (.error e) s') s₂) (notedBy (model pr w) A env fun e s' => R (.error e) s') s₁) (notedBy (model pr w) A env fun e s' => R (.error e) s') s)
    (n : Nat) (h : I n s) (ht : ∀ v, letOwnedTupleGo t2 it v = pure () := by intro _; rfl) :
    codeAny (model pr w) A (.compLoop (.ListComp elt [⟨t1, it1, [], 0⟩, ⟨t2, it2, [], 0⟩] scope pos) 1 it acc env) R s := by
  refine codeAny_loop rfl I (fun n s hI => ?_) n h
  show wpAny _ _ ((compTurn (.ListComp elt [⟨t1, it1, [], 0⟩, ⟨t2, it2, [], 0⟩] scope pos) 1 it acc env).onRaise (fun x => do noteFrame x env; theTreesLotGoes x)) _ _ s
  refine wpAny_noted ?_
  rw [turn_inner]
  refine wpAny_bind (wpAny_standAt (wpAny_bind (wpAny_mono (turn n s hI) (fun r s₁ h₁ => ?_) fun _ _ h' => h')))
  cases r with
  | none => exact wpAny_pure h₁
  | some v =>
    refine wpAny_bind (wpAny_of_eq (ht v) ?_)
    exact wpAny_bind (wpAny_mono h₁ (fun _ s₂ h₂ => wpAny_bind (wpAny_bind (wpAny_mono h₂ (fun x s₃ h₃ => wpAny_bind (wpAny_mono h₃
      (fun _ s₄ h₄ => wpAny_pure (wpAny_pure ⟨rfl, h₄⟩)) fun _ _ h' => h')) fun _ _ h' => h'))) fun _ _ h' => h')
theorem loop_outer {elt t1 it1 t2 it2 : Expr} {scope : Scope} {pos : Pos} {it acc : Value} (I : Nat → Shared → Prop)
    (turn : ∀ n s E', I n s → wpAny (model pr w) A (pyNext it) (fun r s₁ => match r with
      | none => R (.ok .next) s₁
      | some v => wpAny (model pr w) A (assign t1 env v) (fun _ s₂ => wpAny (model pr w) A (eval it2 env) (fun x s₃ => wpAny (model pr w) A (pyIter x) (fun i2 s₄ =>
          ∀ R', (∀ s₅, (∃ m, m < n ∧ I m s₅) → R' (.ok .next) s₅) → codeAny (model pr w) (A.mark none) (.compStart (.ListComp elt [⟨t1, it1, [], 0⟩, ⟨t2, it2, [], 0⟩] scope pos) 1 i2 acc env) R' s₄) E' s₃) E' s₂) E' s₁) E' s)
    (n : Nat) (h : I n s) (ht : ∀ v, letOwnedTupleGo t1 it v = pure () := by intro _; rfl) (hs : ∀ x, foldedSetIterable it2 env x = pure x := by intro _; rfl) :
    codeAny (model pr w) A (.compLoop (.ListComp elt [⟨t1, it1, [], 0⟩, ⟨t2, it2, [], 0⟩] scope pos) 0 it acc env) R s := by
  refine codeAny_loop rfl I (fun n s hI => ?_) n h
  show wpAny _ _ ((compTurn (.ListComp elt [⟨t1, it1, [], 0⟩, ⟨t2, it2, [], 0⟩] scope pos) 0 it acc env).onRaise (fun x => do noteFrame x env; theTreesLotGoes x)) _ _ s
  refine wpAny_noted ?_
  rw [turn_outer]
  refine wpAny_bind (wpAny_standAt (wpAny_bind (wpAny_mono (turn n s _ hI) (fun r s₁ h₁ => ?_) fun _ _ h' => h')))
  cases r with
  | none => exact wpAny_pure h₁
  | some v =>
    refine wpAny_bind (wpAny_of_eq (ht v) ?_)
    refine wpAny_bind (wpAny_mono h₁ (fun _ s₂ h₂ => wpAny_bind (wpAny_mono h₂ (fun x s₃ h₃ => wpAny_bind (wpAny_standAt (wpAny_bind (wpAny_of_eq (hs x) (wpAny_bind (wpAny_holding (wpAny_mono h₃ (fun i2 s₄ h₄ => ?_) fun _ _ e => e))))))) fun _ _ e => e)) fun _ _ e => e)
    refine wpAny_bind (wpAny_runOwn ?_)
    refine codeAny_mono (h₄ (fun r s₅ => r = .ok .next ∧ ∃ m, m < n ∧ I m s₅) (fun s₅ q => ⟨rfl, q⟩)) fun r s₅ q => ?_
    obtain ⟨rfl, q⟩ := q
    exact wpAny_pure ⟨rfl, q⟩
theorem start_inner {elt t1 it1 t2 it2 : Expr} {scope : Scope} {pos : Pos} {it acc : Value}
    (h0 : codeAny (model pr w) A (.compLoop (.ListComp elt [⟨t1, it1, [], 0⟩, ⟨t2, it2, [], 0⟩] scope pos) 1 it acc env) R s)
    (h : ∀ E', wpAny (model pr w) A (pyIter it) (fun it' s' => codeAny (model pr w) A (.compLoop (.ListComp elt [⟨t1, it1, [], 0⟩, ⟨t2, it2, [], 0⟩] scope pos) 1 it' acc env) R s') E' s) :
    codeAny (model pr w) A (.compStart (.ListComp elt [⟨t1, it1, [], 0⟩, ⟨t2, it2, [], 0⟩] scope pos) 1 it acc env) R s := by
  refine codeAny_of_tree ?_
  show wpAny _ _ ((compStart (.ListComp elt [⟨t1, it1, [], 0⟩, ⟨t2, it2, [], 0⟩] scope pos) 1 it acc env).onRaise (fun x => do noteFrame x env; standAt theWindowsPlace)) _ _ s
  refine wpAny_notedAt ?_
  unfold compStart
  show wpAny _ _ (ask >>= _) _ _ s
  refine wpAny_bind (wpAny_askSetting (wpAny_ite ?_))
  split
  · first
      | exact wpAny_bind (wpAny_pure (wpAny_pure (And.intro rfl h0)))
      | exact wpAny_pure (And.intro rfl h0)
  · first
      | exact wpAny_bind (wpAny_rule (wpAny_bind (wpAny_standAt (wpAny_bind (wpAny_mono (h _) (fun it' s' h' => wpAny_pure (And.intro rfl h')) fun _ _ x => x)))))
      | (refine wpAny_bind (wpAny_rule ?_); show wpAny _ _ (standAt it2.pos >>= _) _ _ s; exact wpAny_bind (wpAny_standAt (wpAny_bind (wpAny_mono (h _) (fun it' s' h' => wpAny_pure (And.intro rfl h')) fun _ _ x => x))))
end
end Mine
end
section
set_option maxRecDepth 100000
open PySem PySem.W PySem.Calls PyProof.Rows
namespace Mine
theorem paired_get {α β : Type} {F : α → β → Prop} : ∀ {l : List α} {vs : List β} {i : Nat} {v : β}, Paired F l vs → vs[i]? = some v → ∃ x, l[i]? = some x ∧ F x v
  | _, _, _, _, .nil, h => by simp at h
  | x :: l, y :: vs, 0, v, .cons hf _, h => by simp at h; subst h; exact ⟨x, rfl, hf⟩
  | x :: l, y :: vs, i + 1, v, .cons _ hr, h => by
    rw [List.getElem?_cons_succ] at h ⊢
    exact paired_get hr h
theorem flat_take {α γ : Type} {l : List α} {F : α → List γ} {i : Nat} {x : α} (h : l[i]? = some x) : (l.take (i + 1)).flatMap F = (l.take i).flatMap F ++ F x := by
  rw [List.take_add_one, h]; simp
theorem flat_len {α γ : Type} {l : List α} {F : α → List γ} {i : Nat} {x : α} (h : l[i]? = some x) : ((l.take i).flatMap F).length + (F x).length ≤ (l.flatMap F).length := by
  have e : l.flatMap F = (l.take (i + 1)).flatMap F ++ (l.drop (i + 1)).flatMap F := by rw [← List.flatMap_append, List.take_append_drop]
  rw [e, flat_take h, List.length_append, List.length_append]
  omega
section
variable {pr : Program} {w : World} {mg mb : Str → Option Value} {g : Heap} {A : Around} {E : Value → Shared → Prop} {R : Result → Shared → Prop} {s : Shared} {env : Env}
theorem comp_two {α β γ : Type} {l : List α} {gg : α → List β} {f : α → β → γ} (R3 : γ → Value → Prop)
    {elt it1 it2 : Expr} {x1 x2 : Str} {p1 p2 : Pos} {scope : Scope} {cl : List (Str × Addr)} {pos : Pos} {Q : Value → Shared → Prop}
    (hh : A.handled = none) (hlen : (l.flatMap fun x => (gg x).map (f x)).length ≤ sizeLine)
    (hclos : closureFor scope env = pure cl) (hcell : ∀ y ∈ scope.names, y.2 ≠ .cell) (hkind : scope.kind = .function)
    (hnames : ∀ y ∈ scope.names, y.2 = .local → scope.names.lookup y.1 = some .local) (hx1 : scope.names.lookup x1 = some .local) (hx2 : scope.names.lookup x2 = some .local) (hne : x1 ≠ x2)
    (h : wpAny (model pr w) A (eval it1 env) (fun xv s₁ => ∃ (R1 : α → Value → Prop) (R2 : β → Value → Prop) (a : Addr) (items : Array Value) (h₀ : Heap) (tk₀ : Nat), xv = .ref a ∧ s₁ = { s with heap := h₀, toks := tk₀ } ∧ h₀.PlainList a items ∧ Paired R1 l items.toList ∧
      (∀ x v, x ∈ l → R1 x v → ∃ b items2, h₀.PlainList b items2 ∧ Paired R2 (gg x) items2.toList ∧
        ∀ C h₂ tk m A' E' Q', Stay h₀ h₂ → h₂.Ns C m → m x1 = some v → (∀ tk', Q' (.ref b) { s with heap := h₂, toks := tk' }) → wpAny (model pr w) A' (eval it2 (compEnvC scope cl C env)) Q' E' { s with heap := h₂, toks := tk }) ∧
      (∀ x v y u, x ∈ l → R1 x v → y ∈ gg x → R2 y u →
        ∀ C h₂ tk m A' E' Q', Stay h₀ h₂ → h₂.Ns C m → m x1 = some v → m x2 = some u → (∀ z tk', R3 (f x y) z → Q' z { s with heap := h₂, toks := tk' }) → wpAny (model pr w) A' (eval elt (compEnvC scope cl C env)) Q' E' { s with heap := h₂, toks := tk }) ∧
      ∀ D h' tk ys, Stay h₀ h' → h₀.objs.size ≤ D → h'.PlainList D ys → Paired R3 (l.flatMap fun x => (gg x).map (f x)) ys.toList → Q (.ref D) { s with heap := h', toks := tk }) E s)
    (hs : ∀ x, foldedSetIterable it1 env x = pure x := by intro _; rfl) (hs2 : ∀ env x, foldedSetIterable it2 env x = pure x := by intro _ _; rfl) :
    wpAny (model pr w) A (eval (.ListComp elt [⟨.Name x1 p1, it1, [], 0⟩, ⟨.Name x2 p2, it2, [], 0⟩] scope pos) env) Q E s := by
  rw [eval_ListComp]
  refine wpAny_comprehension_free (use := none) rfl hs hclos hkind hnames (wpAny_mono h (fun xv s₁ h₁ => ?_) fun _ _ e => e)
  obtain ⟨R1, R2, a, items, h₀, tk₀, rfl, rfl, hl, hP, inner, elts, fin⟩ := h₁
  refine wpAny_pyIter_list hl.isList (wpAny_newObj_type (wpAny_newFunctionEnv hcell (by intro y hy; simp at hy) (fun h₁ hns₁ hsb₁ => ?_) hkind))
  dsimp only at hns₁ hsb₁ ⊢
  generalize hH1 : h₀.push { cls := .type "list_iterator", data := .fields #[.ref a, .int 0 0] } = H1 at hns₁ hsb₁ ⊢
  have hD : H1.objs.size = h₀.objs.size + 1 := by rw [← hH1, Heap.size_push]
  generalize hH2 : H1.push { cls := .type "list", dict := none, data := .seq ([] : List Value).toArray } = H2 at hns₁ hsb₁ ⊢
  have hC : H2.objs.size = h₀.objs.size + 2 := by rw [← hH2, Heap.size_push, hD]
  have hDC : H1.objs.size ≠ H2.objs.size := by omega
  have hIC : h₀.objs.size ≠ H2.objs.size := by omega
  have hDI : H1.objs.size ≠ h₀.objs.size := by omega
  have old : Stay h₀ h₁ := fun b o e => hsb₁.extBut b o (Nat.ne_of_lt (Nat.lt_of_lt_of_le (Heap.lt_size e) (by omega))) (Heap.get?_push_of_some _ (hH2 ▸ Heap.get?_push_of_some _ (hH1 ▸ Heap.get?_push_of_some _ e)))
  have hI₁ : h₁.IsListIter h₀.objs.size a 0 := ⟨_, hsb₁.extBut _ _ hIC (Heap.get?_push_of_some _ (hH2 ▸ Heap.get?_push_of_some _ (hH1 ▸ Heap.get?_push_size _ rfl))), rfl, rfl⟩
  have hacc : h₁.PlainList H1.objs.size #[] := ⟨_, hsb₁.extBut _ _ hDC (Heap.get?_push_of_some _ (hH2 ▸ Heap.get?_push_size _ rfl))⟩
  generalize hCe : H2.objs.size = C at *
  generalize hDe : H1.objs.size = D at *
  generalize hIe : h₀.objs.size = I at *
  have low : ∀ {b o}, h₀.get? b = some o → b < I := fun e => hIe ▸ Heap.lt_size e
  have lowX : ∀ {b o} (X : Nat), I ≤ X → h₀.get? b = some o → b ≠ X := fun X hX e => Nat.ne_of_lt (Nat.lt_of_lt_of_le (low e) hX)
  have hIleC : I ≤ C := by omega
  have hIleD : I ≤ D := by omega
  have ha : a < I := let ⟨_, e⟩ := hl; low e
  have loop : ∀ s₃ : Shared, s₃ = { s with heap := h₁, toks := tk₀ + ([] : List (Str × Value)).length } →
      codeAny (model pr w) A (.compLoop (.ListComp elt [⟨.Name x1 p1, it1, [], 0⟩, ⟨.Name x2 p2, it2, [], 0⟩] scope pos) 0 (.ref I) (.ref D) (compEnvC scope cl C env)) (compPost (model pr w) A E none Q (.ref D) C) s₃ := by
    rintro s₃ rfl
    refine loop_outer (fun k s' => ∃ h' tk m' ys i, s' = { s with heap := h', toks := tk } ∧ h'.IsListIter I a i ∧ h'.PlainList D ys ∧ h'.Ns C m' ∧ Stay h₀ h' ∧ Paired R3 ((l.take i).flatMap fun x => (gg x).map (f x)) ys.toList ∧ i ≤ items.size ∧ k = items.size - i) ?_ items.size
      ⟨h₁, _, _, #[], 0, rfl, hI₁, hacc, hns₁, old, Paired.nil, Nat.zero_le _, rfl⟩ (hs := hs2 _)
    rintro k s' E' ⟨h', tk, m', ys, i, rfl, hI', hD', hn', st', hP', hin, rfl⟩
    rcases Nat.lt_or_ge i items.size with hlt | hge
    · refine wpAny_pyNext_list_item hI' (hl.at fun o e => st' _ _ e).isList (Array.getElem?_eq_getElem hlt) fun h₃ hI₃ hs₃ => ?_
      obtain ⟨x, hxi, hR1⟩ := paired_get hP (i := i) (v := items[i]) (by rw [Array.getElem?_toList, Array.getElem?_eq_getElem hlt])
      have hxl : x ∈ l := List.mem_of_getElem? hxi
      obtain ⟨b, items2, hl2, hP2, evi⟩ := inner x _ hxl hR1
      have hlt₂ := flat_len (F := fun x => (gg x).map (f x)) hxi
      refine wpAny_assign_Name (wpAny_storeName_local (lookup_relabel_local hx1) (hn'.sameBut hs₃ (Ne.symm hIC)) (fun h₄ hn₄ hs₄ => ?_) (by simp [compEnvC, relabel, hkind]))
      have st₄ : Stay h₀ h₄ := fun b o e => hs₄.extBut b o (lowX C hIleC e) (hs₃.extBut b o (Nat.ne_of_lt (low e)) (st' b o e))
      have hD₄ : h₄.PlainList D ys := (hD'.extBut hs₃.extBut hDI).extBut hs₄.extBut hDC
      have hI₄ : h₄.IsListIter I a (i + 1) := hI₃.extBut hs₄.extBut hIC
      refine evi C h₄ _ _ _ _ _ st₄ hn₄ (if_pos rfl) fun tk₄ => ?_
      refine wpAny_pyIter_list (hl2.at fun o e => st₄ _ _ e).isList ?_
      intro R' hR'
      have hCI2 : C < h₄.objs.size := hn₄.lt
      have hDI2 : D < h₄.objs.size := let ⟨_, e⟩ := hD₄; Heap.lt_size e
      have hII2 : I < h₄.objs.size := let ⟨_, e, _⟩ := hI₄; Heap.lt_size e
      have hI2₅ : (h₄.push { cls := .type "list_iterator", data := .fields #[.ref b, .int 0 0] }).IsListIter h₄.objs.size b 0 := ⟨_, Heap.get?_push_size _ rfl, rfl, rfl⟩
      have hD₅ : (h₄.push { cls := .type "list_iterator", data := .fields #[.ref b, .int 0 0] }).PlainList D ys := hD₄.at fun o e => Heap.get?_push_of_some _ e
      have hI₅ : (h₄.push { cls := .type "list_iterator", data := .fields #[.ref b, .int 0 0] }).IsListIter I a (i + 1) := let ⟨o, e, r⟩ := hI₄; ⟨o, Heap.get?_push_of_some _ e, r⟩
      have hn₅ := hn₄.push { cls := .type "list_iterator", data := .fields #[.ref b, .int 0 0] }
      have st₅ : Stay h₀ (h₄.push { cls := .type "list_iterator", data := .fields #[.ref b, .int 0 0] }) := fun b o e => Heap.get?_push_of_some _ (st₄ b o e)
      generalize h₄.push { cls := .type "list_iterator", data := .fields #[.ref b, .int 0 0] } = h₅ at *
      generalize h₄.objs.size = I2 at *
      have hb : b < I := let ⟨_, e⟩ := hl2; low e
      have loop2 : ∀ s₃ : Shared, s₃ = { s with heap := h₅, toks := tk₄ } →
          codeAny (model pr w) (A.mark none) (.compLoop (.ListComp elt [⟨.Name x1 p1, it1, [], 0⟩, ⟨.Name x2 p2, it2, [], 0⟩] scope pos) 1 (.ref I2) (.ref D) (compEnvC scope cl C env)) R' s₃ := by
        rintro s₃ rfl
        refine loop_inner (fun k s' => ∃ h' tk m' ys j, s' = { s with heap := h', toks := tk } ∧ h'.IsListIter I2 b j ∧ h'.IsListIter I a (i + 1) ∧ h'.PlainList D ys ∧ h'.Ns C m' ∧ m' x1 = some items[i] ∧ Stay h₀ h' ∧
            Paired R3 (((l.take i).flatMap fun x => (gg x).map (f x)) ++ ((gg x).take j).map (f x)) ys.toList ∧ j ≤ items2.size ∧ k = items2.size - j) ?_ items2.size
          ⟨h₅, _, _, ys, 0, rfl, hI2₅, hI₅, hD₅, hn₅, if_pos rfl, st₅, by simpa using hP', Nat.zero_le _, rfl⟩
        rintro k s' ⟨h', tk, m', ys, j, rfl, hI2', hI', hD', hn', hmx, st', hP', hjn, rfl⟩
        rcases Nat.lt_or_ge j items2.size with hjlt | hjge
        · refine wpAny_pyNext_list_item hI2' (hl2.at fun o e => st' _ _ e).isList (Array.getElem?_eq_getElem hjlt) fun h₆ hI2₆ hs₆ => ?_
          obtain ⟨y, hyj, hR2⟩ := paired_get hP2 (i := j) (v := items2[j]) (by rw [Array.getElem?_toList, Array.getElem?_eq_getElem hjlt])
          have hyl : y ∈ gg x := List.mem_of_getElem? hyj
          have hjl : j < (gg x).length := (List.getElem?_eq_some_iff.mp hyj).1
          refine wpAny_assign_Name (wpAny_storeName_local (lookup_relabel_local hx2) (hn'.sameBut hs₆ (Nat.ne_of_lt hCI2)) (fun h₇ hn₇ hs₇ => ?_) (by simp [compEnvC, relabel, hkind]))
          have st₇ : Stay h₀ h₇ := fun b o e => hs₇.extBut b o (lowX C hIleC e) (hs₆.extBut b o (lowX I2 (Nat.le_of_lt hII2) e) (st' b o e))
          have hD₇ : h₇.PlainList D ys := (hD'.extBut hs₆.extBut (Nat.ne_of_lt hDI2)).extBut hs₇.extBut hDC
          have hI₇ : h₇.IsListIter I a (i + 1) := (hI'.extBut hs₆.extBut (Nat.ne_of_lt hII2)).extBut hs₇.extBut hIC
          have hI2₇ : h₇.IsListIter I2 b (j + 1) := hI2₆.extBut hs₇.extBut (Nat.ne_of_gt hCI2)
          refine elts x _ y _ hxl hR1 hyl hR2 C h₇ _ _ _ _ _ st₇ hn₇ (by rw [if_neg hne]; exact hmx) (if_pos rfl) fun z tk₇ hz => ?_
          have hys : ys.size ≤ sizeLine := by
            have e1 := hP'.length
            simp only [List.length_append, List.length_map, Array.length_toList] at e1
            have e3 : ys.toList.length = ys.size := by simp
            have e2 : ((gg x).take j).length ≤ (gg x).length := List.length_take_le' _ _
            rw [List.length_map] at hlt₂
            omega
          refine wpAny_list_append_plain (hsz := hys) hD₇ fun h₈ hD₈ hs₈ => ?_
          refine ⟨items2.size - (j + 1), by omega, h₈, tk₇, _, ys.push z, j + 1, rfl, hI2₇.extBut hs₈.extBut (Nat.ne_of_gt hDI2), hI₇.extBut hs₈.extBut (Ne.symm hDI), hD₈, hn₇.sameBut hs₈ (Ne.symm hDC), by rw [if_neg hne]; exact hmx,
            fun b o e => hs₈.extBut b o (lowX D hIleD e) (st₇ b o e), ?_, hjlt, rfl⟩
          rw [Array.toList_push, List.take_add_one, hyj, List.map_append, ← List.append_assoc]
          exact hP'.snoc hz
        · obtain rfl : j = items2.size := Nat.le_antisymm hjn hjge
          refine wpAny_pyNext_list_end (by first | exact hh | rfl) hI2' (hl2.at fun o e => st' _ _ e).isList (Array.getElem?_eq_none (Nat.le_refl _)) fun h₆ he₆ => ?_
          refine hR' _ ⟨items.size - (i + 1), by omega, h₆, tk, _, ys, i + 1, rfl, hI'.extBut he₆ (Nat.ne_of_lt hII2), hD'.extBut he₆ (Nat.ne_of_lt hDI2), hn'.extBut he₆ (Nat.ne_of_lt hCI2),
            fun b o e => he₆ b o (lowX I2 (Nat.le_of_lt hII2) e) (st' b o e), ?_, hlt, rfl⟩
          rw [flat_take hxi]
          have e : (gg x).take items2.size = gg x := by
            have q : items2.size = (gg x).length := by have := hP2.length; simpa using this.symm
            rw [q, List.take_length]
          rw [e] at hP'
          exact hP'
      exact start_inner (loop2 _ rfl) fun E'' => wpAny_pyIter_listiter hI2₅ (loop2 _ rfl)
    · obtain rfl : i = items.size := Nat.le_antisymm hin hge
      refine wpAny_pyNext_list_end hh hI' (hl.at fun o e => st' _ _ e).isList (Array.getElem?_eq_none (Nat.le_refl _)) fun h₃ he₃ => ?_
      refine ⟨m', hn'.extBut he₃ (Ne.symm hIC), fun h'' hs'' => ?_⟩
      have hlt : (l.take items.size) = l := by
        have q : items.size = l.length := by have := hP.length; simpa using this.symm
        rw [q, List.take_length]
      rw [hlt] at hP'
      exact fin D h'' _ ys (fun b o e => hs''.extBut b o (lowX C hIleC e) (he₃ b o (Nat.ne_of_lt (low e)) (st' b o e))) (by omega) ((hD'.extBut he₃ hDI).extBut hs''.extBut hDC) hP'
  exact codeAny_compStart_list (loop _ rfl) (wpAny_pyIter_listiter hI₁ (loop _ rfl))
end
end Mine
end
section
set_option maxRecDepth 100000
open PySem PySem.W PySem.Calls PyProof.Rows
namespace Mine
inductive AreInts : List Expr → List Int → Prop
  | nil : AreInts [] []
  | cons {i : Int} {k : Nat} {p : Pos} {es : List Expr} {ks : List Int} : AreInts es ks → AreInts (.Constant (.int i) k p :: es) (i :: ks)
def IntV (k : Int) (v : Value) : Prop := ∃ t, v = .int k t
theorem fmod_pos {a b : Int} (h : 0 ≤ b) : a.fmod b = a % b := Int.fmod_eq_emod_of_nonneg _ h
theorem fdiv_pos {a b : Int} (h : 0 ≤ b) : a.fdiv b = a / b := Int.fdiv_eq_ediv_of_nonneg _ h
section
variable {pr : Program} {w : World} {mg mb : Str → Option Value} {g : Heap} {A : Around} {E : Value → Shared → Prop} {s : Shared} {env : Env}
theorem ev_cell {x : Str} {pos : Pos} {v : Value} {c : Addr} {Q : Value → Shared → Prop} (hc : s.heap.IsCell c (some v)) (hl : env.cells.lookup x = some c) (hk : env.scope.kind = .function) (hx : env.kindOf x = some .cell)
    (h : Q v s) (hd : (x == ("__debug__" : Str)) = false := by decide) : wpAny (model pr w) A (eval (.Name x pos) env) Q E s :=
  wpAny_Name (wpAny_loadName_cell hk hx hl hc h) hd
theorem ev_free {x : Str} {pos : Pos} {v : Value} {c : Addr} {Q : Value → Shared → Prop} (hc : s.heap.IsCell c (some v)) (hl : env.cells.lookup x = some c) (hk : env.scope.kind = .function) (hx : env.kindOf x = some .free)
    (h : Q v s) (hd : (x == ("__debug__" : Str)) = false := by decide) (hf : (x == ("__classdict__" : Str)) = false := by decide) : wpAny (model pr w) A (eval (.Name x pos) env) Q E s :=
  wpAny_Name (wpAny_loadName_free hk hx hl hc h hf) hd
theorem ev_list {elts : List Expr} {pos : Pos} {Q : Value → Shared → Prop}
    (h : wpAny (model pr w) A (spliced (backTo pos (starEach elts env))) (fun vs s₁ => vs.length ≤ 1000 ∧ Q (.ref s₁.heap.objs.size) { s₁ with heap := s₁.heap.push { cls := .type "list", data := .seq vs.toArray } }) E s) :
    wpAny (model pr w) A (eval (.List elts pos) env) Q E s := by
  rw [arm_eval_List]
  exact wpAny_bind (wpAny_standAt (wpAny_bind (wpAny_mono h (fun vs s₁ q => wpAny_newList q.2 (Nat.le_trans q.1 (by decide))) fun _ _ e => e)))
theorem mul_own {l : Addr} {items : Array Value} {k : Nat} {x : Int} {u : Tok} {Q : Value → Shared → Prop} (hl : IsL s.heap l items k)
    (hlo : -(2 ^ 63 : Int) ≤ x) (hhi : x < 2 ^ 63) (hsz : items.size * x.toNat ≤ 2 ^ 24)
    (h : Q (.ref s.heap.objs.size) { s with heap := s.heap.push { cls := .type "list", data := .seq (List.foldl (fun x1 x2 => x1 ++ x2) #[] (List.replicate (if items.isEmpty = true then 0 else x.toNat) items)) } }) :
    wpAny (model pr w) A (binaryOp .Mult (.ref l) (.int x u)) Q E s :=
  wpAny_binaryOp_repeat_ref (T := "list") (U := "int") (by decide) ⟨_, hl, rfl⟩ (fun s' => typeIs_int s' x u) noFill_list_mul F.fills_int_mul F.slot_int_rmul repeat_list F.slot_int_index.lookup
    (call_meets F.slot_int_rmul (typeIs_int s x u) F.entry_int_rmul (F.args_int_rmul_2 _ _) (int___rmul___int_list x u l items k)
      ⟨hl, rfl, ⟨_, hl, rfl⟩, call_meets F.slot_list_mul ⟨_, hl, rfl⟩ F.entry_list_mul (F.args_list_mul_2 _ _)
        (AutoListH.list___mul___list_int_3 l items k x u (by simp [Builtin.List.listFitsIndex]; omega) (by omega) (by simp [Builtin.List.listTooLong, sizeLine]; omega)) ⟨hl, h⟩⟩)
theorem ev_listK {elts : List Expr} {pos : Pos} {Q : Value → Shared → Prop}
    (h : wpAny (model pr w) A (spliced (backTo pos (starEach elts env))) (fun vs s₁ => vs.length ≤ 1000 ∧ ∀ a h', s₁.heap.objs.size ≤ a → IsL h' a vs.toArray 0 → Stay s₁.heap h' → Q (.ref a) { s₁ with heap := h' }) E s) :
    wpAny (model pr w) A (eval (.List elts pos) env) Q E s :=
  ev_list (wpAny_mono h (fun vs s₁ q => ⟨q.1, q.2 _ _ (Nat.le_refl _) (IsL.new _ _) fun _ _ e => Heap.get?_push_of_some _ e⟩) fun _ _ e => e)
theorem ev_ints {pos : Pos} : ∀ {elts : List Expr} {ks : List Int} {s : Shared} {Q : List Value → Shared → Prop}, AreInts elts ks → (∀ vs tk, Paired IntV ks vs → Q vs { s with toks := tk }) → wpAny (model pr w) A (spliced (backTo pos (starEach elts env))) Q E s
  | _, _, s, Q, .nil, h => args_nil (h [] s.toks .nil)
  | _, _, s, Q, .cons r, h => args_cons (wpAny_Constant_int (ev_ints r fun vs tk p => h _ tk (.cons ⟨_, rfl⟩ p)))
theorem ev_intlist {elts : List Expr} {ks : List Int} {pos : Pos} {Q : Value → Shared → Prop} (he : AreInts elts ks) (hks : ks.length ≤ 1000)
    (h : ∀ a vs h' tk, s.heap.objs.size ≤ a → IsL h' a vs.toArray 0 → Paired IntV ks vs → Stay s.heap h' → Q (.ref a) { s with heap := h', toks := tk }) : wpAny (model pr w) A (eval (.List elts pos) env) Q E s :=
  ev_listK (ev_ints he fun vs tk p => ⟨by rw [← p.length]; exact hks, fun a h' ha hl k => h a vs h' tk ha hl p k⟩)
theorem asg_sub {a b : Expr} {p p' pos : Pos} {x : Str} {Q : Flow → Shared → Prop} (h : wpAny (model pr w) A (eval (.Subscript a b p) env) (fun v s₁ => wpAny (model pr w) A (storeName env x v) (fun _ => Q .next) E s₁) E s) :
    wpAny (model pr w) A (exec (.Assign [.Name x p'] (.Subscript a b p) pos) env) Q E s := wpAny_Assign_Name h rfl
theorem asg_list {l : List Expr} {p p' pos : Pos} {x : Str} {Q : Flow → Shared → Prop} (h : wpAny (model pr w) A (eval (.List l p) env) (fun v s₁ => wpAny (model pr w) A (storeName env x v) (fun _ => Q .next) E s₁) E s) :
    wpAny (model pr w) A (exec (.Assign [.Name x p'] (.List l p) pos) env) Q E s := wpAny_Assign_Name h rfl
theorem asg_bin {a b : Expr} {op : Operator} {p p' pos : Pos} {x : Str} {Q : Flow → Shared → Prop} (h : wpAny (model pr w) A (eval (.BinOp a op b p) env) (fun v s₁ => wpAny (model pr w) A (storeName env x v) (fun _ => Q .next) E s₁) E s) :
    wpAny (model pr w) A (exec (.Assign [.Name x p'] (.BinOp a op b p) pos) env) Q E s := wpAny_Assign_Name h rfl
theorem asg_call {f : Expr} {l : List Expr} {ks : List Keyword} {p p' pos : Pos} {x : Str} {Q : Flow → Shared → Prop} (h : wpAny (model pr w) A (eval (.Call f l ks p) env) (fun v s₁ => wpAny (model pr w) A (storeName env x v) (fun _ => Q .next) E s₁) E s) :
    wpAny (model pr w) A (exec (.Assign [.Name x p'] (.Call f l ks p) pos) env) Q E s := wpAny_Assign_Name h rfl
theorem asg_const {c : Const} {k : Nat} {p p' pos : Pos} {x : Str} {Q : Flow → Shared → Prop} (h : wpAny (model pr w) A (eval (.Constant c k p) env) (fun v s₁ => wpAny (model pr w) A (storeName env x v) (fun _ => Q .next) E s₁) E s) :
    wpAny (model pr w) A (exec (.Assign [.Name x p'] (.Constant c k p) pos) env) Q E s := wpAny_Assign_Name h rfl
theorem asg_comp {e : Expr} {gs : List Comprehension} {sc : Scope} {p p' pos : Pos} {x : Str} {Q : Flow → Shared → Prop} (hk : (env.kindOf x == some .local) = false) (h : wpAny (model pr w) A (eval (.ListComp e gs sc p) env) (fun v s₁ => wpAny (model pr w) A (storeName env x v) (fun _ => Q .next) E s₁) E s) :
    wpAny (model pr w) A (exec (.Assign [.Name x p'] (.ListComp e gs sc p) pos) env) Q E s := wpAny_Assign_Name h (by
      show (pure (env.blockKind == .function && env.kindOf x == some .local && p'.line == p.line && !(sc.names.any fun (n, k) => n == x && (k == .local || k == .cell))) : Sem Bool) = pure false
      rw [hk, Bool.and_false, Bool.false_and, Bool.false_and])
/-- kinds.append(e) as a statement -/
theorem append_stmt {x : Str} {np ap cp sp : Pos} {e : Expr} {l : Addr} {Q : Flow → Shared → Prop} (hs : starEach [e] env = [(false, eval e env)]) (hline : (ap.endLine == cp.line) = true)
    (hi : interactive env = false) (hsw : swapsWith (.Call (.Attribute (.Name x np) "append" ap) [e] [] cp) none sp.line env = pure false)
    (hb : attributeBase (.Name x np) "append" env (eval (.Name x np) env) = eval (.Name x np) env)
    (hn : ∀ Q' : Value → Shared → Prop, Q' (.ref l) s → wpAny (model pr w) A (eval (.Name x np) env) Q' E s) (hl : ∃ items n, IsL s.heap l items n)
    (h : wpAny (model pr w) A (eval e env) (fun v s₁ => ∃ items n, items.size ≤ 1000 ∧ IsL s₁.heap l items n ∧ ∀ h', (∃ n', IsL h' l (items.push v) n') → Heap.SameBut l s₁.heap h' → Q .next { s₁ with heap := h' }) E s) :
    wpAny (model pr w) A (exec (.Expr (.Call (.Attribute (.Name x np) "append" ap) [e] [] cp) sp) env) Q E s := by
  refine wpAny_Expr ?_ hi hsw
  refine Call_method1 hb hs hline ?_
  refine hn _ ?_
  obtain ⟨it0, n0, hl0⟩ := hl
  refine ⟨"list", "list.append", F.plainAttrs_list, F.slot_list_append, F.type_list_append, ⟨_, hl0, rfl⟩, fun a ea => ?_, ?_⟩
  · cases ea; exact ⟨_, hl0, rfl⟩
  · refine P.append_list (wpAny_mono h (fun v s₁ q => ?_) fun _ _ e => e)
    obtain ⟨items, n, hsz, hl, q⟩ := q
    exact ⟨items, n, Nat.le_trans hsz (by decide), hl, q _ ⟨_, hl.update _⟩ (Heap.SameBut.update ..)⟩
theorem walk_range (r : Addr) (n : Nat) (hn : n < 2 ^ 62) : WalkOf pr w (fun h => ∃ t u v, IsRange h r 0 n 1 t u v) (.ref r) n (fun i x => ∃ t', x = .int i t') (rngIt n) :=
  ⟨fun A E s Q ⟨t, u, v, hr⟩ h => (iter_range r n t u v hn).start A E s Q hr h, fun A E s Q I o i ho hi h => (iter_range (pr := pr) (w := w) r n 0 0 0 hn).again A E s Q I o i ho hi h,
    fun A E s Q I o i _ hi ho hI h => (iter_range (pr := pr) (w := w) r n 0 0 0 hn).next A E s Q I o i hi ho hI h, fun A E s Q I o _ hh ho hI h => (iter_range (pr := pr) (w := w) r n 0 0 0 hn).fin A E s Q I o hh ho hI h⟩
end
end Mine
end
section
set_option maxRecDepth 100000
open PySem PySem.W PySem.Calls PyProof.Rows
namespace Mine
def bd9 : { b : List Stmt // defBody 9 = b } := ⟨_, by conv => lhs; whnf⟩
def singlesOf (n : Int) : List Int := [[102, 70, 8497, 119813, 119865, 120125], [115, 83, 383, 119826, 119878, 120138], [107, 75, 119818, 119870, 119922, 120130]].getD (n % 3).toNat []
def shopL (n : Int) : List (List Int) := [
  (List.range (n / 15 % 3).toNat).map fun (k : Nat) => (singlesOf n).getD ((n / 45 + (k : Int)) % 6).toNat 0,
  List.replicate (n / 270 % 2).toNat ([64256, 223, 13261].getD (n % 3).toNat 0),
  List.replicate (n / 540 % 2).toNat ([173, 8203, 8288].getD (n / 3 % 3).toNat 0),
  [[64257, 64262, 13201].getD (n % 3).toNat 0]]
theorem singlesOf_len (n : Int) : (singlesOf n).length = 6 := by
  unfold singlesOf
  have h : (n % 3).toNat = 0 ∨ (n % 3).toNat = 1 ∨ (n % 3).toNat = 2 := by omega
  rcases h with h | h | h <;> rw [h] <;> rfl
theorem pick {α : Type} {F : α → Value → Prop} {l : List α} {vs : List Value} (P : Paired F l vs) {k : Int} (h0 : 0 ≤ k) (hk : k < l.length) (d : α) : ∃ v, vs.toArray[k.toNat]? = some v ∧ F (l.getD k.toNat d) v := by
  have e := P.length
  have hlt : k.toNat < vs.length := by omega
  refine ⟨vs[k.toNat], by simp [hlt], ?_⟩
  obtain ⟨x, hx, hf⟩ := paired_get P (i := k.toNat) (v := vs[k.toNat]) (by simp)
  rw [List.getD_eq_getElem?_getD, hx]
  exact hf
def LstV (h : Heap) (l : List Int) (v : Value) : Prop := ∃ a vs, v = .ref a ∧ h.PlainList a vs.toArray ∧ Paired IntV l vs
theorem LstV.keeps {h h' : Heap} {l : List Int} {v : Value} (x : LstV h l v) (k : Stay h h') : LstV h' l v :=
  let ⟨a, vs, e, p, q⟩ := x; ⟨a, vs, e, p.at fun _ e => k _ _ e, q⟩
theorem Stay.stay3 {g h h' : Heap} {C D I : Addr} (x : Stay g h) (y : Stay3 C D I h h') (c : g.objs.size ≤ C) (d : g.objs.size ≤ D) (i : g.objs.size ≤ I) : Stay g h' := Stay3.stay x y c d i
theorem paired_mono {α : Type} {F F' : α → Value → Prop} (hm : ∀ a b, F a b → F' a b) {l : List α} {vs : List Value} (x : Paired F l vs) : Paired F' l vs := by
  induction x with
  | nil => exact .nil
  | cons a _ ih => exact .cons (hm _ _ a) ih
section
variable {pr : Program} {w : World} {mg mb : Str → Option Value} {g : Heap} {A : Around} {E : Value → Shared → Prop} {s : Shared} {env : Env}
theorem names_ok {l : List (Str × NameKind)} (h : l.all (fun y => y.2 != .local || l.lookup y.1 == some .local) = true) : ∀ y ∈ l, y.2 = .local → l.lookup y.1 = some .local := fun y hy e => by
  have := List.all_eq_true.mp h y hy
  rw [e] at this
  simpa using this
theorem cell_ext {h h' : Heap} {a c : Addr} {v : Option Value} (x : h.IsCell c v) (hs : Heap.ExtBut a h h') (hca : c ≠ a) : h'.IsCell c v :=
  let ⟨o, ho, hd⟩ := x; ⟨o, hs c o hca ho, hd⟩
theorem fresh_of {h : Heap} {a : Addr} (x : h.objs.size ≤ a) : h.get? a = none := by
  cases e : h.get? a with
  | none => rfl
  | some o => exact absurd (Heap.lt_size e) (Nat.not_lt.mpr x)
theorem Stay.fresh {h h' : Heap} {a : Addr} (k : Stay h h') (x : h'.get? a = none) : h.get? a = none := by
  cases e : h.get? a with
  | none => rfl
  | some o => rw [k _ _ e] at x; cases x
theorem ne_fresh {h : Heap} {a b : Addr} {o : Obj} (x : h.get? a = none) (y : h.get? b = some o) : b ≠ a := by
  rintro rfl
  rw [x] at y; cases y
theorem rep_paired {items : List Value} {k : Int} {c : Int} (hc0 : 0 ≤ c) (hc1 : c ≤ 1) {v : Value} (hi : items = [v]) (hv : IntV k v) :
    Paired IntV (List.replicate c.toNat k) (List.foldl (fun x1 x2 => x1 ++ x2) #[] (List.replicate (if items.toArray.isEmpty = true then 0 else c.toNat) items.toArray)).toList := by
  subst hi
  have h : c.toNat = 0 ∨ c.toNat = 1 := by omega
  rcases h with h | h <;> rw [h]
  · exact .nil
  · exact .cons hv .nil
theorem rep_eval {es : List Expr} {ks : List Int} {sl cntE : Expr} {p1 p2 p3 p4 : Pos} {k c : Int} {Q : Value → Shared → Prop} (hks : AreInts es ks) (hlen : ks.length ≤ 1000) (hk0 : 0 ≤ k) (hk1 : k < ks.length) (hc0 : 0 ≤ c) (hc1 : c ≤ 1)
    (hsl : ∀ (Q' : Value → Shared → Prop) h₁ tk₁, Stay s.heap h₁ → (∀ u tk', Q' (.int k u) { s with heap := h₁, toks := tk' }) → wpAny (model pr w) A (eval sl env) Q' E { s with heap := h₁, toks := tk₁ })
    (hcnt : ∀ (Q' : Value → Shared → Prop) h₁ tk₁, Stay s.heap h₁ → (∀ u tk', Q' (.int c u) { s with heap := h₁, toks := tk' }) → wpAny (model pr w) A (eval cntE env) Q' E { s with heap := h₁, toks := tk₁ })
    (h : ∀ a vs h' tk, s.heap.get? a = none → IsL h' a vs.toArray 0 → Paired IntV (List.replicate c.toNat (ks.getD k.toNat 0)) vs → Stay s.heap h' → Q (.ref a) { s with heap := h', toks := tk })
    (hs : ∀ l (k : Int) u, subscripted sl false (.ref l) (.int k u) = operate [.ref l, .int k u] (getItem (.ref l) (.int k u)) := by intro _ _ _; with_unfolding_all rfl) :
    wpAny (model pr w) A (eval (.BinOp (.List [.Subscript (.List es p1) sl p2] p3) .Mult cntE p4) env) Q E s := by
  refine wpAny_BinOp ?_
  refine ev_listK ?_
  refine args_cons ?_
  refine Subscript_ ?_
  refine ev_intlist hks hlen fun a1 v1 h₁ tk₁ ha1 hl1 hp1 k₁ => ?_
  refine hsl _ _ _ k₁ fun u tk' => ?_
  obtain ⟨v, hv, hF⟩ := pick hp1 hk0 hk1 0
  refine item_listR (hs := hs _ _ _) (IsL.isList hl1) hk0 (by omega) hv ?_
  refine args_nil ⟨by simp, fun a2 h₂ ha2 hl2 k₂ => ?_⟩
  refine hcnt _ _ _ (k₁.trans k₂) fun u tk' => ?_
  refine mul_own hl2 (by omega) (by omega) (by simp; omega) ?_
  have e := rep_paired (items := [v]) hc0 hc1 rfl hF
  generalize hG : List.foldl (fun x1 x2 => x1 ++ x2) #[] (List.replicate (if ([v] : List Value).toArray.isEmpty = true then 0 else c.toNat) ([v] : List Value).toArray) = G at e ⊢
  refine h _ G.toList _ _ ((k₁.trans k₂).fresh (fresh_of (Nat.le_refl _))) ?_ e fun b o e => Heap.get?_push_of_some _ (k₂ _ _ (k₁ _ _ e))
  exact IsL.new _ _
def fd92 (P : Params) : FuncData := match (o92 P).data with | .func f => f | _ => default
def env92 (P : Params) (L : Addr) : Env := callEnvC (fd92 P) L 92
def retOf : Flow → Value | .ret v => v | _ => .none
/-- behind the first statement of _law_shop -/
theorem shop_two {n : Int} {t : Tok} {Q : Value → Shared → Prop} {h₅ : Heap} {as : Addr} {vsg : List Value} {m : Str → Option Value} {tk : Nat} (G : Gf w mg mb g) (st : Stay g s.heap) (hh : A.handled = none)
    (hns : h₅.Ns s.heap.objs.size m) (cn : h₅.IsCell (s.heap.objs.size + 1) (some (.int n t))) (cs : h₅.IsCell (s.heap.objs.size + 2) (some (.ref as))) (hls : h₅.PlainList as vsg.toArray) (hps : Paired IntV (singlesOf n) vsg) (keep : Stay s.heap h₅)
    (h : ∀ r vs h' tk, Stay s.heap h' → h'.PlainList r vs.toArray → Paired (LstV h') (shopL n) vs → Q (.ref r) { s with heap := h', toks := tk }) :
    wpAny (model pr w) A (execs (bd9.1.drop 1) (env92 w.params s.heap.objs.size)) (fun f s' => Q (retOf f) s') E { s with heap := h₅, toks := tk } := by
  have st₅ : Stay g h₅ := st.trans keep
  have hsize : s.heap.objs.size + 2 < h₅.objs.size := let ⟨_, e, _⟩ := cs; Heap.lt_size e
  dsimp only [bd9, List.drop]
  refine wpAny_execs_cons ?_
  refine asg_list ?_
  refine ev_listK ?_
  refine args_cons ?_
  refine comp_of (walk_range h₅.objs.size (n / 15 % 3).toNat (by omega)) (rng_nc _) hh (Nat.le_trans (m := 2) (by omega) (by decide)) (cl := [("singles", s.heap.objs.size + 2), ("n", s.heap.objs.size + 1)]) rfl (nocell (by kernel_rfl)) rfl (names_ok (by kernel_rfl)) rfl
    (fun C D I i ys h => Stay h₅ h ∧ (∃ t u v, IsRange h h₅.objs.size 0 (n / 15 % 3).toNat 1 t u v) ∧ h₅.objs.size < C ∧ h₅.objs.size < D ∧ h₅.objs.size < I ∧ Paired IntV ((List.range i).map fun (k : Nat) => (singlesOf n).getD ((n / 45 + (k : Int)) % 6).toNat 0) ys) ?_ ?_ ?_ ?_ ?_
  · refine Call_Name1 (ev_builtin G st₅ (G.bare _ (by simp)) (v := .type "range") (by kernel_rfl) (by decide) rfl rfl rfl rfl ?_)
    refine PySem.callWith_type1 ?_
    refine wpAny_BinOp ?_
    refine wpAny_BinOp ?_
    refine ev_cell (v := .int n t) cn rfl rfl rfl ?_
    refine wpAny_Constant_int ?_
    refine floordiv_int (by decide) ?_
    refine wpAny_Constant_int ?_
    refine mod_int' (by decide) ?_
    rw [fmod_pos (by decide), fdiv_pos (by decide)]
    refine call_range_1 ?_
    have e : n / 15 % 3 = ((n / 15 % 3).toNat : Int) := by omega
    rw [e]
    refine ⟨rfl, ⟨_, _, _, IsRange.new _ _ _ _ _ _ _⟩, ⟨_, _, rfl⟩, fun C D I h' hC hD hI k => ?_⟩
    have hs : ∀ o, (h₅.push o).objs.size = h₅.objs.size + 1 := fun o => Heap.size_push ..
    have hC : (h₅.push _).objs.size ≤ C := hC
    have hD : (h₅.push _).objs.size ≤ D := hD
    have hI : (h₅.push _).objs.size ≤ I := hI
    rw [hs] at hC hD hI
    exact ⟨fun b o e => k _ _ (Heap.get?_push_of_some _ e), ⟨_, _, _, k _ _ (IsRange.new _ _ _ _ _ _ _)⟩, hC, hD, hI, .nil⟩
  · rintro C D I i ys h₁ h₂ ⟨k, ⟨_, _, _, hr⟩, hC, hD, hI, hp⟩ k'
    exact ⟨k.stay3 k' (Nat.le_of_lt hC) (Nat.le_of_lt hD) (Nat.le_of_lt hI), ⟨_, _, _, k' _ _ (Nat.ne_of_lt hC) (Nat.ne_of_lt hD) (Nat.ne_of_lt hI) hr⟩, hC, hD, hI, hp⟩
  · rintro C D I i ys h₁ ⟨_, hr, _⟩
    exact hr
  · rintro C D I i v ys h₂ tk₂ m₂ E' hi ⟨t', rfl⟩ at3 ⟨k, hr, hC, hD, hI, hp⟩ hns₂ hm
    refine wpAny_tests_nil ?_
    rw [if_pos rfl]
    refine Subscript_ ?_
    refine ev_cell (v := .ref as) (cs.keeps k) rfl rfl rfl ?_
    refine wpAny_BinOp ?_
    refine wpAny_BinOp ?_
    refine wpAny_BinOp ?_
    refine ev_cell (v := .int n t) (cn.keeps k) rfl rfl rfl ?_
    refine wpAny_Constant_int ?_
    refine floordiv_int (by decide) ?_
    refine ev_local hns₂ hm rfl rfl ?_
    refine add_int ?_
    refine wpAny_Constant_int ?_
    refine mod_int' (by decide) ?_
    rw [fmod_pos (by decide), fdiv_pos (by decide)]
    obtain ⟨v, hv, u, rfl⟩ := pick hps (k := (n / 45 + (i : Int)) % 6) (by omega) (by rw [singlesOf_len]; omega) 0
    refine item_listR (hls.at fun o e => k _ _ e).isList (by omega) (by omega) hv ?_
    refine ⟨_, _, rfl, fun _ _ _ e => e, k, hr, hC, hD, hI, ?_⟩
    rw [List.range_succ, List.map_append]
    exact hp.snoc ⟨_, rfl⟩
  · rintro C D I h₆ tk₆ ys hl₆ ⟨k₆, _, hC, hD, hI, hp₆⟩
    refine args_nil ⟨by simp, fun aK h₇ haK hlK k₇ => ?_⟩
    have k₅₇ : Stay h₅ h₇ := k₆.trans k₇
    have fK : h₆.get? aK = none := fresh_of haK
    have hsL : s.heap.objs.size < h₅.objs.size := by omega
    refine wpAny_storeName_local rfl (hns.keeps k₅₇) (fun h₈ hn₈ hs₈ => ?_)
    have nL : ∀ {b : Addr}, h₅.objs.size < b → b ≠ s.heap.objs.size := fun hb => Nat.ne_of_gt (Nat.lt_trans hsL hb)
    have hKL : aK ≠ s.heap.objs.size := by
      obtain ⟨o, _, _, e, _⟩ := hns.keeps k₆
      exact Ne.symm (ne_fresh fK e)
    have hlK₈ : IsL h₈ aK #[.ref D] 0 := hs₈.extBut _ _ hKL hlK
    have hlD₈ : h₈.PlainList D ys := (hl₆.at fun o e => k₇ _ _ e).extBut hs₈.extBut (nL hD)
    have cn₈ : h₈.IsCell (s.heap.objs.size + 1) (some (.int n t)) := (cn.keeps k₅₇).sameBut hs₈ (Nat.ne_of_gt (Nat.lt_succ_self _))
    have keep₈ : Stay s.heap h₈ := fun b o e => hs₈.extBut b o (Nat.ne_of_lt (Heap.lt_size e)) (k₅₇ _ _ (keep _ _ e))
    have hKD : D ≠ aK := let ⟨_, e⟩ := hl₆; ne_fresh fK e
    have hLK := Ne.symm hKL
    have hfK : s.heap.get? aK = none := (Stay.trans keep k₆).fresh fK
    clear hs₈ hns cs hls hps k₅₇ k₆ k₇ hl₆ hlK fK haK cn keep hKL
    dsimp only
    refine wpAny_execs_cons ?_
    refine append_stmt (l := aK) rfl rfl rfl rfl rfl (fun Q' q => ev_local hn₈ (if_pos rfl) rfl rfl q) ⟨_, _, hlK₈⟩ ?_
    refine rep_eval (ks := [64256, 223, 13261]) (k := n % 3) (c := n / 270 % 2) (by repeat constructor) (by decide) (by omega) (by simp; omega) (by omega) (by omega) ?_ ?_ ?_
    · intro Q' h₁ tk₁ k₁ hq
      refine wpAny_BinOp ?_
      refine ev_cell (v := .int n t) (cn₈.keeps k₁) rfl rfl rfl ?_
      refine wpAny_Constant_int ?_
      refine mod_int' (by decide) ?_
      rw [fmod_pos (by decide)]
      exact hq _ _
    · intro Q' h₁ tk₁ k₁ hq
      refine wpAny_BinOp ?_
      refine wpAny_BinOp ?_
      refine ev_cell (v := .int n t) (cn₈.keeps k₁) rfl rfl rfl ?_
      refine wpAny_Constant_int ?_
      refine floordiv_int (by decide) ?_
      refine wpAny_Constant_int ?_
      refine mod_int' (by decide) ?_
      rw [fmod_pos (by decide), fdiv_pos (by decide)]
      exact hq _ _
    intro a2 v2 h₉ tk₉ f2 hl2 hp2 k₉
    refine ⟨_, _, by simp, k₉ _ _ hlK₈, fun h₁₀ hK₁₀ hs₁₀ => ?_⟩
    obtain ⟨nK, hK₁₀⟩ := hK₁₀
    have hl2₁₀ : IsL h₁₀ a2 v2.toArray 0 := hs₁₀.extBut _ _ (Ne.symm (ne_fresh f2 hlK₈)) hl2
    have hlD₁₀ : h₁₀.PlainList D ys := (hlD₈.at fun o e => k₉ _ _ e).extBut hs₁₀.extBut hKD
    have cn₁₀ : h₁₀.IsCell (s.heap.objs.size + 1) (some (.int n t)) := cell_ext (cn₈.keeps k₉) hs₁₀.extBut (by obtain ⟨o, e, d⟩ := cn₈; rintro rfl; rw [hlK₈] at e; cases e; cases d)
    have hn₁₀ := (hn₈.keeps k₉).extBut hs₁₀.extBut hLK
    have keep₁₀ : Stay s.heap h₁₀ := fun b o e => hs₁₀.extBut b o (fun q => by subst q; rw [hfK] at e; cases e) (k₉ _ _ (keep₈ _ _ e))
    have hK2 : a2 ≠ aK := Ne.symm (ne_fresh f2 hlK₈)
    clear hs₁₀ k₉ hl2 hlD₈ cn₈ hn₈ keep₈ f2 hlK₈
    dsimp only
    refine wpAny_execs_cons ?_
    refine append_stmt (l := aK) rfl rfl rfl rfl rfl (fun Q' q => ev_local hn₁₀ (if_pos rfl) rfl rfl q) ⟨_, _, hK₁₀⟩ ?_
    refine rep_eval (ks := [173, 8203, 8288]) (k := n / 3 % 3) (c := n / 540 % 2) (by repeat constructor) (by decide) (by omega) (by simp; omega) (by omega) (by omega) ?_ ?_ ?_
    · intro Q' h₁ tk₁ k₁ hq
      refine wpAny_BinOp ?_
      refine wpAny_BinOp ?_
      refine ev_cell (v := .int n t) (cn₁₀.keeps k₁) rfl rfl rfl ?_
      refine wpAny_Constant_int ?_
      refine floordiv_int (by decide) ?_
      refine wpAny_Constant_int ?_
      refine mod_int' (by decide) ?_
      rw [fmod_pos (by decide), fdiv_pos (by decide)]
      exact hq _ _
    · intro Q' h₁ tk₁ k₁ hq
      refine wpAny_BinOp ?_
      refine wpAny_BinOp ?_
      refine ev_cell (v := .int n t) (cn₁₀.keeps k₁) rfl rfl rfl ?_
      refine wpAny_Constant_int ?_
      refine floordiv_int (by decide) ?_
      refine wpAny_Constant_int ?_
      refine mod_int' (by decide) ?_
      rw [fmod_pos (by decide), fdiv_pos (by decide)]
      exact hq _ _
    intro a3 v3 h₁₁ tk₁₁ f3 hl3 hp3 k₁₁
    refine ⟨_, _, by simp, k₁₁ _ _ hK₁₀, fun h₁₂ hK₁₂ hs₁₂ => ?_⟩
    obtain ⟨nK', hK₁₂⟩ := hK₁₂
    have hl3₁₂ : IsL h₁₂ a3 v3.toArray 0 := hs₁₂.extBut _ _ (Ne.symm (ne_fresh f3 hK₁₀)) hl3
    have hl2₁₂ : IsL h₁₂ a2 v2.toArray 0 := hs₁₂.extBut _ _ hK2 (k₁₁ _ _ hl2₁₀)
    have hlD₁₂ : h₁₂.PlainList D ys := (hlD₁₀.at fun o e => k₁₁ _ _ e).extBut hs₁₂.extBut hKD
    have cn₁₂ : h₁₂.IsCell (s.heap.objs.size + 1) (some (.int n t)) := cell_ext (cn₁₀.keeps k₁₁) hs₁₂.extBut (by obtain ⟨o, e, d⟩ := cn₁₀; rintro rfl; rw [hK₁₀] at e; cases e; cases d)
    have hn₁₂ := (hn₁₀.keeps k₁₁).extBut hs₁₂.extBut hLK
    have keep₁₂ : Stay s.heap h₁₂ := fun b o e => hs₁₂.extBut b o (fun q => by subst q; rw [hfK] at e; cases e) (k₁₁ _ _ (keep₁₀ _ _ e))
    clear hs₁₂ k₁₁ hl3 hlD₁₀ cn₁₀ hn₁₀ keep₁₀ f3 hK₁₀ hl2₁₀
    dsimp only
    refine wpAny_execs_cons ?_
    refine wpAny_Return_some ?_
    refine wpAny_BinOp ?_
    refine ev_local hn₁₂ (if_pos rfl) rfl rfl ?_
    refine ev_listK ?_
    refine args_cons ?_
    refine ev_listK ?_
    refine args_cons ?_
    refine Subscript_ ?_
    refine ev_intlist (ks := [64257, 64262, 13201]) (by repeat constructor) (by decide) fun a4 v4 h₁₃ tk₁₃ ha4 hl4 hp4 k₁₃ => ?_
    refine wpAny_BinOp ?_
    refine ev_cell (v := .int n t) (cn₁₂.keeps k₁₃) rfl rfl rfl ?_
    refine wpAny_Constant_int ?_
    refine mod_int' (by decide) ?_
    rw [fmod_pos (by decide)]
    obtain ⟨v, hv, hF⟩ := pick hp4 (k := n % 3) (by omega) (by simp; omega) 0
    refine item_listR (IsL.isList hl4) (by omega) (by omega) hv ?_
    refine args_nil ⟨by simp, fun a5 h₁₄ ha5 hl5 k₁₄ => ?_⟩
    refine args_nil ⟨by simp, fun a6 h₁₅ ha6 hl6 k₁₅ => ?_⟩
    have kk : Stay h₁₂ h₁₅ := (Stay.trans k₁₃ k₁₄).trans k₁₅
    refine P.add_list (kk _ _ hK₁₂) hl6 ?_ (by simp [sizeLine])
    have kE : ∀ o, Stay h₁₂ (h₁₅.push o) := fun o b x e => Heap.get?_push_of_some _ (kk _ _ e)
    refine h _ [.ref D, .ref a2, .ref a3, .ref a5] _ _ (keep₁₂.trans (kE _)) ⟨_, IsL.new _ _⟩ ?_
    refine .cons ⟨D, ys.toList, rfl, by rw [Array.toArray_toList]; exact hlD₁₂.at fun o e => kE _ _ _ e, hp₆⟩ (.cons ⟨a2, v2, rfl, ⟨0, kE _ _ _ hl2₁₂⟩, hp2⟩ (.cons ⟨a3, v3, rfl, ⟨0, kE _ _ _ hl3₁₂⟩, hp3⟩ (.cons ⟨a5, [v], rfl, ⟨0, Heap.get?_push_of_some _ (k₁₅ _ _ hl5)⟩, .cons hF .nil⟩ .nil)))
set_option maxHeartbeats 4000000 in
theorem shop_call {n : Int} {t : Tok} {Q : Value → Shared → Prop} (G : Gf w mg mb g) (st : Stay g s.heap) (hroom : A.depth < recursionLimit) (hh : A.handled = none)
    (h : ∀ r vs h' tk, Stay s.heap h' → h'.PlainList r vs.toArray → Paired (LstV h') (shopL n) vs → Q (.ref r) { s with heap := h', toks := tk }) : wpAny (model pr w) A (call (.ref 92) [.int n t]) Q E s := by
  have ho := st _ _ (G.objs (92, o92 w.params) (by simp [tabL]))
  refine wpAny_call (codeAny_call_cells (fd := fd92 w.params) (body := bd9.1) (vals := [.int n t]) (binds := [("n", .int n t)]) hroom ho rfl (G.nolimit.keeps st) ⟨91, _, _, _, rfl, st _ _ (G.objs (91, o91 w.params) (by simp [tabL])), rfl, rfl⟩ (congrArg FuncBody.stmts bd9.2) rfl rfl (fun x hx => ?_) (fun s₁ x => ?_) rfl rfl rfl)
  · obtain rfl := List.mem_singleton.mp hx
    exact .inr ⟨rfl, rfl⟩
  obtain ⟨h₀, tk₀, rfl⟩ := x.toInCall.same
  have hns := x.toInCall.ns
  have keep₀ : Stay s.heap h₀ := x.toInCall.keep
  have cn : h₀.IsCell (s.heap.objs.size + 1) (some (.int n t)) := x.cell "n" _ rfl
  have cs : h₀.IsCell (s.heap.objs.size + 2) none := x.cell "singles" _ rfl
  clear x
  dsimp only [bd9]
  refine wpAny_execs_cons ?_
  refine asg_sub ?_
  refine Subscript_ ?_
  refine ev_listK ?_
  refine args_cons ?_
  refine ev_intlist (ks := [102, 70, 8497, 119813, 119865, 120125]) (by repeat constructor) (by decide) fun a1 v1 h₁ tk₁ ha1 hl1 hp1 k₁ => ?_
  refine args_cons ?_
  refine ev_intlist (ks := [115, 83, 383, 119826, 119878, 120138]) (by repeat constructor) (by decide) fun a2 v2 h₂ tk₂ ha2 hl2 hp2 k₂ => ?_
  refine args_cons ?_
  refine ev_intlist (ks := [107, 75, 119818, 119870, 119922, 120130]) (by repeat constructor) (by decide) fun a3 v3 h₃ tk₃ ha3 hl3 hp3 k₃ => ?_
  refine args_nil ⟨by simp, fun a4 h₄ ha4 hl4 k₄ => ?_⟩
  have k₀₄ : Stay h₀ h₄ := ((Stay.trans k₁ k₂).trans k₃).trans k₄
  refine wpAny_BinOp ?_
  refine ev_cell (v := .int n t) (cn.keeps k₀₄) rfl rfl rfl ?_
  refine wpAny_Constant_int ?_
  refine mod_int' (by decide) ?_
  rw [fmod_pos (by decide)]
  have hP : Paired (LstV h₄) [[102, 70, 8497, 119813, 119865, 120125], [115, 83, 383, 119826, 119878, 120138], [107, 75, 119818, 119870, 119922, 120130]] [.ref a1, .ref a2, .ref a3] :=
    .cons ⟨a1, v1, rfl, ⟨0, k₄ _ _ (k₃ _ _ (k₂ _ _ hl1))⟩, hp1⟩ (.cons ⟨a2, v2, rfl, ⟨0, k₄ _ _ (k₃ _ _ hl2)⟩, hp2⟩ (.cons ⟨a3, v3, rfl, ⟨0, k₄ _ _ hl3⟩, hp3⟩ .nil))
  obtain ⟨v, hv, as, vsg, rfl, hls, hps⟩ := pick hP (k := n % 3) (by omega) (by simp; omega) []
  have hps : Paired IntV (singlesOf n) vsg := hps
  refine item_listR (IsL.isList hl4) (by omega) (by omega) hv ?_
  clear hP hv hl4 hl3 hl2 hl1 hp1 hp2 hp3
  refine wpAny_storeName_cell rfl rfl rfl (cs.keeps k₀₄) fun h₅ cs₅ sb₅ => ?_
  have hL2 : s.heap.objs.size < s.heap.objs.size + 2 := by omega
  have keep₅ : Stay s.heap h₅ := fun b o e => sb₅.extBut b o (Nat.ne_of_lt (Nat.lt_trans (Heap.lt_size e) hL2)) (k₀₄ _ _ (keep₀ _ _ e))
  have hns₅ := (hns.keeps k₀₄).sameBut sb₅ (Nat.ne_of_lt hL2)
  have cn₅ : h₅.IsCell (s.heap.objs.size + 1) (some (.int n t)) := (cn.keeps k₀₄).sameBut sb₅ (Nat.ne_of_lt (Nat.lt_succ_self _))
  have hls₅ : h₅.PlainList as vsg.toArray := hls.extBut sb₅.extBut (by
    rintro rfl
    obtain ⟨_, e⟩ := hls
    obtain ⟨o, e', d⟩ := cs.keeps k₀₄
    rw [e] at e'; cases e'; cases d)
  clear sb₅ hls cs k₀₄ k₁ k₂ k₃ k₄ ha1 ha2 ha3 ha4 cn hns keep₀
  dsimp only
  have key := shop_two (pr := pr) (A := A.deeper (callEnvC (fd92 w.params) s.heap.objs.size 92)) (E := fun e s' => wpAny (model pr w) (A.deeper (callEnvC (fd92 w.params) s.heap.objs.size 92)) (leaving (callEnvC (fd92 w.params) s.heap.objs.size 92) e) (fun _ s'' => E e s'') (fun e' s'' => E e' s'') s') (tk := tk₃ + 1 + 1) G st hh hns₅ cn₅ cs₅ hls₅ hps keep₅ h
  dsimp only [bd9, List.drop, env92] at key
  exact key
end
end Mine
end
section
set_option maxRecDepth 100000
open PySem PySem.W PySem.Calls PyProof.Rows
namespace Mine
def signsL (n : Int) : List Nat := (shopL n).flatMap fun k => k.map Int.toNat
def textsL (sg : List Nat) : Nat → List (List Nat)
  | 0 => [[]]
  | i + 1 => (textsL sg i).flatMap fun x => sg.map fun y => x ++ [y]
def runS (n : Int) : Str := Txt.mul ⟨#[[102, 115, 107].getD (n % 3).toNat 0]⟩ (n / 3 % 5)
def cntL (n : Int) (i : Nat) : Int := (((textsL (signsL n) i).filter fun x => prepL x == runS n).length : Nat)
def toldL (n : Int) : List Int := (List.range 4).map (cntL n)
def StrV (x : List Nat) (v : Value) : Prop := ∃ t, v = .str ⟨x.toArray⟩ t
def ChV (c : Nat) (v : Value) : Prop := ∃ t, v = .str ⟨#[c]⟩ t
def allCodes : List Nat := [102, 70, 8497, 119813, 119865, 120125, 115, 83, 383, 119826, 119878, 120138, 107, 75, 119818, 119870, 119922, 120130, 64256, 223, 13261, 173, 8203, 8288, 64257, 64262, 13201]
theorem all_ok : allCodes.all (fun c => (match b3list.lookup (c : Int) with | some _ => true | none => !Builtin.Str.tooLong (Txt.lower ⟨#[c]⟩).length) && decide ((b3map c).length ≤ 4)) = true := by kernel_rfl
theorem okc_of {c : Nat} (h : c ∈ allCodes) : okc c := by
  have h := List.all_eq_true.mp all_ok c h
  rw [Bool.and_eq_true, decide_eq_true_eq] at h
  refine ⟨fun e => ?_, h.2⟩
  have h1 := h.1
  rw [e] at h1
  simpa using h1
theorem getD3 {α : Type} {a b c d : α} {k : Int} (h : 0 ≤ k ∧ k < 3) : [a, b, c].getD k.toNat d = a ∨ [a, b, c].getD k.toNat d = b ∨ [a, b, c].getD k.toNat d = c := by
  have h : k.toNat = 0 ∨ k.toNat = 1 ∨ k.toNat = 2 := by omega
  rcases h with h | h | h <;> rw [h] <;> simp
theorem singles_mem (n : Int) : ∀ c ∈ singlesOf n, 0 ≤ c ∧ c.toNat ∈ allCodes := by
  have h : singlesOf n = [102, 70, 8497, 119813, 119865, 120125] ∨ singlesOf n = [115, 83, 383, 119826, 119878, 120138] ∨ singlesOf n = [107, 75, 119818, 119870, 119922, 120130] := getD3 (by omega)
  rcases h with h | h | h <;> rw [h] <;> decide
theorem codes_ok (n : Int) : ∀ k ∈ shopL n, ∀ c ∈ k, 0 ≤ c ∧ c.toNat ∈ allCodes := by
  intro k hk c hc
  unfold shopL at hk
  simp only [List.mem_cons, List.not_mem_nil, or_false] at hk
  rcases hk with rfl | rfl | rfl | rfl
  · obtain ⟨j, _, rfl⟩ := List.mem_map.mp hc
    refine singles_mem n _ ?_
    rw [List.getD_eq_getElem?_getD, List.getElem?_eq_getElem (by rw [singlesOf_len]; omega)]
    exact List.getElem_mem _
  · have := List.eq_of_mem_replicate hc
    subst this
    rcases getD3 (a := (64256 : Int)) (b := 223) (c := 13261) (d := 0) (k := n % 3) (by omega) with h | h | h <;> rw [h] <;> decide
  · have := List.eq_of_mem_replicate hc
    subst this
    rcases getD3 (a := (173 : Int)) (b := 8203) (c := 8288) (d := 0) (k := n / 3 % 3) (by omega) with h | h | h <;> rw [h] <;> decide
  · have := List.mem_singleton.mp hc
    subst this
    rcases getD3 (a := (64257 : Int)) (b := 64262) (c := 13201) (d := 0) (k := n % 3) (by omega) with h | h | h <;> rw [h] <;> decide
theorem codes_small : ∀ c ∈ allCodes, c ≤ 1114111 := by decide
theorem signs_ok (n : Int) : ∀ c ∈ signsL n, c ∈ allCodes := by
  intro c hc
  obtain ⟨k, hk, hc⟩ := List.mem_flatMap.mp hc
  obtain ⟨x, hx, rfl⟩ := List.mem_map.mp hc
  exact (codes_ok n k hk x hx).2
theorem signs_len (n : Int) : (signsL n).length ≤ 5 := by
  unfold signsL shopL
  simp only [List.flatMap_cons, List.flatMap_nil, List.length_append, List.length_map, List.length_range, List.length_replicate, List.length_nil, List.length_cons]
  omega
theorem texts_len {sg : List Nat} : ∀ i : Nat, (textsL sg i).length = sg.length ^ i
  | 0 => rfl
  | i + 1 => by
    have h : ∀ l : List (List Nat), (l.flatMap fun x => sg.map fun y => x ++ [y]).length = l.length * sg.length := by
      intro l
      induction l with
      | nil => simp
      | cons a l ih => rw [List.flatMap_cons, List.length_append, List.length_map, ih, List.length_cons, Nat.succ_mul, Nat.add_comm]
    show ((textsL sg i).flatMap fun x => sg.map fun y => x ++ [y]).length = _
    rw [h, texts_len i, Nat.pow_succ]
theorem texts_in {sg : List Nat} : ∀ (i : Nat) (x : List Nat), x ∈ textsL sg i → x.length = i ∧ ∀ c ∈ x, c ∈ sg
  | 0, x, h => by
    have := List.mem_singleton.mp h
    subst this
    exact ⟨rfl, fun c hc => (nomatch hc)⟩
  | i + 1, x, h => by
    obtain ⟨y, hy, h⟩ := List.mem_flatMap.mp h
    obtain ⟨c, hc, rfl⟩ := List.mem_map.mp h
    obtain ⟨h1, h2⟩ := texts_in i y hy
    refine ⟨by rw [List.length_append, h1]; rfl, fun d hd => ?_⟩
    rcases List.mem_append.mp hd with hd | hd
    · exact h2 d hd
    · rw [List.mem_singleton.mp hd]; exact hc
theorem texts_small (n : Int) {i : Nat} (h : i ≤ 3) : (textsL (signsL n) i).length ≤ 125 := by
  rw [texts_len]
  refine Nat.le_trans (Nat.pow_le_pow_left (signs_len n) i) ?_
  have : i = 0 ∨ i = 1 ∨ i = 2 ∨ i = 3 := by omega
  rcases this with rfl | rfl | rfl | rfl <;> decide
theorem str_app (x : List Nat) (y : Nat) : (⟨x.toArray⟩ : Str) ++ (⟨#[y]⟩ : Str) = ⟨(x ++ [y]).toArray⟩ := by
  show (⟨x.toArray ++ #[y]⟩ : Str) = _
  congr 1
  simp
end Mine
end
section
set_option maxRecDepth 100000
open PySem PySem.W PySem.Calls PyProof.Rows
namespace Mine
def bd11 : { b : List Stmt // defBody 11 = b } := ⟨_, by conv => lhs; whnf⟩
def forBody : List Stmt → List Stmt
  | _ :: _ :: _ :: .For _ _ b _ _ :: _ => b
  | _ => []
def fb11 : { b : List Stmt // forBody bd11.1 = b } := ⟨_, by conv => lhs; whnf⟩
def fd104 (P : Params) : FuncData := match (o104 P).data with | .func f => f | _ => default
def env104 (P : Params) (L : Addr) : Env := callEnvC (fd104 P) L 104
theorem TabI.but {h h' : Heap} {P a : Addr} {oa : Obj} {line col : Int} {qual : Str} (x : TabI h P line col qual) (hk : ∀ b o, b ≠ a → h.get? b = some o → h'.get? b = some o) (ha : h.get? a = some oa) (hna : ∀ vs, oa.data ≠ .fields vs) (hne : P ≠ a) : TabI h' P line col qual := by
  rcases x with x | ⟨c, x, y, z⟩
  · exact .inl (hk _ _ hne x)
  · exact .inr ⟨c, hk _ _ hne x, y.keepsBut hk ha hna, z⟩
theorem TabI.butNs {h h' : Heap} {P a : Addr} {m : Str → Option Value} {line col : Int} {qual : Str} (x : TabI h P line col qual) (hn : h.Ns a m) (hk : ∀ b o, b ≠ a → h.get? b = some o → h'.get? b = some o) (hne : P ≠ a) : TabI h' P line col qual := by
  obtain ⟨o, es, ep, e, d, _⟩ := hn
  exact x.but hk e (fun vs q => by rw [d] at q; cases q) hne
theorem TabI.butL {h h' : Heap} {P a : Addr} {its : Array Value} {n : Nat} {line col : Int} {qual : Str} (x : TabI h P line col qual) (hl : IsL h a its n) (hk : ∀ b o, b ≠ a → h.get? b = some o → h'.get? b = some o) (hne : P ≠ a) : TabI h' P line col qual :=
  x.but hk hl (fun vs q => by cases q) hne
def lamQ : Str := "_law_told.<locals>.<lambda>"
section
variable {pr : Program} {w : World} {mg mb : Str → Option Value} {g : Heap} {A : Around} {E : Value → Shared → Prop} {s : Shared} {env : Env}
set_option maxHeartbeats 4000000 in
/-- texts = reduce(..) -/
theorem texts_stmt {L aS : Addr} {i : Nat} {ti : Tok} {n : Int} {chars : Array Value} {m : Str → Option Value} {h₂ : Heap} {tk : Nat} {Q : Flow → Shared → Prop} (G : Gt w mg mb g) (st : Stay g h₂) (hroom : A.depth + 5 < recursionLimit) (hh : A.handled = none) (hbigL : 119 ≤ L)
    (hns : h₂.Ns L m) (hm1 : m "size" = some (.int i ti)) (hi : i < 4) (cs : h₂.IsCell (L + 2) (some (.ref aS))) (hS : h₂.PlainList aS chars) (hch : Paired ChV (signsL n) chars.toList) (I101 : TabI h₂ 101 39 23 lamQ)
    (h : ∀ h₃ tk₃ a items, (∀ b o, b ≠ 101 → b ≠ L → h₂.get? b = some o → h₃.get? b = some o) → h₃.Ns L (fun y => if y = "texts" then some (.ref a) else m y) → TabI h₃ 101 39 23 lamQ → h₃.PlainList a items → Paired StrV (textsL (signsL n) i) items.toList → wpAny (model pr w) A (execs (fb11.1.drop 1) (env104 w.params L)) Q E { s with heap := h₃, toks := tk₃ }) :
    wpAny (model pr w) A (execs fb11.1 (env104 w.params L)) Q E { s with heap := h₂, toks := tk } := by
  dsimp only [fb11, List.drop] at h ⊢
  refine wpAny_execs_cons ?_
  refine asg_call ?_
  refine Call_ ?_
  refine ev_global G.toGf st (G.names ("reduce", 87) (by simp)) rfl rfl rfl ?_
  refine callWith_def (o := o87 w.params) rfl ?_
  refine args_cons ?_
  refine lam_make (mg := mg) (c := 103) (P := 101) (clos := [("shop", L + 2)]) (line := 39) (col := 23) (qual := lamQ) (by kernel_rfl) (by kernel_rfl) (by kernel_rfl) rfl rfl rfl (G.ns.keeps st) rfl (G.code103.keeps st) ((G.bt 101 (by simp)).keeps st) (by decide) (G.toGf.big st) I101 fun c' ctv f h₁ tk₁ k₁ I₁ hf ho₁ hr₁ => ?_
  have st₁ : Stay g h₁ := G.stB (.inr rfl) st k₁
  have hL101 : L ≠ 101 := Nat.ne_of_gt (Nat.lt_of_lt_of_le (by decide) hbigL)
  have hns₁ : h₁.Ns L m := hns.at' fun o e => k₁ _ _ hL101 e
  have n101 : ∀ {b o}, h₂.get? b = some o → (∃ y, h₂.get? 101 = some (tabObj y)) → (∀ y, o ≠ tabObj y) → b ≠ 101 := fun e ⟨y, e'⟩ ne q => by subst q; rw [e'] at e; exact ne y (Option.some.inj e).symm
  refine args_cons ?_
  refine Call_Name1 ?_
  refine ev_builtin G.toGf st₁ (G.bare _ (by simp)) (v := .type "range") (by kernel_rfl) (by decide) rfl rfl rfl rfl ?_
  refine PySem.callWith_type1 ?_
  refine ev_local hns₁ hm1 rfl rfl ?_
  refine call_range_1 ?_
  refine args_cons ?_
  refine ev_listK ?_
  refine args_cons ?_
  refine wpAny_Constant_str ?_
  refine args_nil ⟨by simp, fun a0 h₃ ha0 hl0 k₃ => ?_⟩
  dsimp only at k₃ ha0 ⊢
  have hr : IsRange h₃ h₁.objs.size 0 i 1 tk₁ ti (tk₁ + 1) := k₃ _ _ (IsRange.new _ _ _ _ _ _ _)
  have k₁₃ : Stay h₁ h₃ := fun b o e => k₃ _ _ (Heap.get?_push_of_some _ e)
  have f0 : h₁.get? a0 = none := by
    cases e : h₁.get? a0 with
    | none => rfl
    | some o => exact absurd (Heap.lt_size e) (by have ha0 : (h₁.push _).objs.size ≤ a0 := ha0
                                                  rw [Heap.size_push] at ha0; exact Nat.not_lt.mpr (Nat.le_of_succ_le ha0))
  clear k₃ ha0
  have st₃ : Stay g h₃ := st₁.trans k₁₃
  have cs₁ : h₁.IsCell (L + 2) (some (.ref aS)) := by
    obtain ⟨o, e, d⟩ := cs
    exact ⟨o, k₁ _ _ (Nat.ne_of_gt (Nat.lt_of_lt_of_le (by decide : 101 < 119) (Nat.le_trans hbigL (Nat.le_add_right _ _)))) e, d⟩
  have hS₁ : h₁.PlainList aS chars := by
    obtain ⟨o, e⟩ := hS
    refine ⟨o, k₁ _ _ ?_ e⟩
    rintro rfl
    rcases I101 with x | ⟨_, x, _⟩ <;> rw [e] at x <;> cases x
  refine args_nil ⟨st₃ _ _ (G.objs (87, o87 w.params) (by simp [tabL])), ?_⟩
  refine reduce_call (iter_range _ i _ _ _ (by omega)) G.toGf st₃ (by omega) hh (fun h' k => k _ _ hr) (k₁₃ _ _ ho₁) rfl (fun A' s' Q' E' k q => wpAny_is_ref_other (fun e => by have := G.toGf.objs (79, o79 w.params) (by simp [tabL]); exact absurd e.symm (ne_fresh f0 (st₁ _ _ this))) (k _ _ hl0) (k _ _ (st₃ _ _ (G.toGf.objs (79, o79 w.params) (by simp [tabL])))) (by simp) q)
    (fun L' I' j v h' => ∃ a items, v = .ref a ∧ h'.PlainList a items ∧ a ≠ L' ∧ a ≠ I' ∧ Paired StrV (textsL (signsL n) j) items.toList) ?_ ?_ ?_ ?_
  · intro L' I' h' hL' hI' k'
    have := Heap.lt_size hl0
    exact ⟨a0, _, rfl, ⟨_, k' _ _ hl0⟩, Nat.ne_of_lt (Nat.lt_of_lt_of_le this hL'), Nat.ne_of_lt (Nat.lt_of_lt_of_le this hI'), .cons ⟨_, rfl⟩ .nil⟩
  · rintro L' I' j v h h' ⟨a, items, rfl, ⟨nn, hl⟩, h1, h2, hp⟩ k'
    exact ⟨a, items, rfl, ⟨nn, k' _ _ h1 h2 hl⟩, h1, h2, hp⟩
  · rintro L' I' j _ _ A' s' Q' E' hd hh' hj k' isL isI ⟨a, items, rfl, hl, h1, h2, hp⟩ ⟨tv, rfl⟩ hq
    have hd : A'.depth = A.depth + 1 := hd
    have st₄ : Stay g s'.heap := st₃.trans k'
    refine lam_call (binds := [("made", .ref a), ("k", .int j tv)]) (by omega) (G.nolimit.keeps st₄) (k' _ _ (k₁₃ _ _ ho₁)) ((hr₁.keeps k₁₃).keeps k') rfl (loc_of (by kernel_rfl)) (nocell (by kernel_rfl)) rfl rfl rfl fun h₅ E₅ hns₅ k₅ => ?_
    have hjn : j + 1 ≤ 3 := by omega
    refine comp_two (l := textsL (signsL n) j) (gg := fun _ => signsL n) (f := fun x y => x ++ [y]) StrV (cl := [("shop", L + 2)]) hh' (Nat.le_trans (texts_small n hjn) (by decide)) rfl (nocell (by kernel_rfl)) rfl (names_ok (by kernel_rfl)) rfl rfl (by decide) ?_
    refine ev_local hns₅ (v := .ref a) rfl rfl rfl ?_
    refine ⟨StrV, ChV, a, items, _, _, rfl, rfl, hl.at fun o e => k₅ _ _ e, hp, ?_, ?_, ?_⟩
    · intro x v _ _
      refine ⟨aS, chars, hS₁.at fun o e => k₅ _ _ (k' _ _ (k₁₃ _ _ e)), hch, fun C h₆ tk₆ m₆ A₆ E₆ Q₆ k₆ hns₆ hm₆ hq₆ => ?_⟩
      refine ev_free (((cs₁.keeps k₁₃).keeps (k'.trans k₅)).keeps k₆) rfl rfl rfl ?_
      exact hq₆ _
    · rintro x _ y _ hx ⟨t1, rfl⟩ hy ⟨t2, rfl⟩ C h₆ tk₆ m₆ A₆ E₆ Q₆ k₆ hns₆ hm₆ hm₇ hq₆
      refine wpAny_BinOp ?_
      refine ev_local hns₆ hm₆ rfl rfl ?_
      refine ev_local hns₆ hm₇ rfl rfl ?_
      refine add_str (fun t' tk => ?_) ?_
      · rw [str_app]
        exact hq₆ _ _ ⟨_, rfl⟩
      · have := (texts_in j x hx).1
        show x.toArray.size + 1 ≤ sizeLine
        rw [List.size_toArray, this]
        exact Nat.le_trans (m := 4) (by omega) (by decide)
    · intro D h₆ tk₆ ys k₆ hD hlD hpD
      have k₄₆ : Stay s'.heap h₆ := k₅.trans k₆
      refine hq _ _ _ k₄₆ ⟨D, ys, rfl, hlD, ?_, ?_, hpD⟩
      · obtain ⟨o, e⟩ := Option.isSome_iff_exists.mp isL
        exact Nat.ne_of_gt (Nat.lt_of_lt_of_le (Heap.lt_size (k₅ _ _ e)) hD)
      · obtain ⟨o, e⟩ := Option.isSome_iff_exists.mp isI
        exact Nat.ne_of_gt (Nat.lt_of_lt_of_le (Heap.lt_size (k₅ _ _ e)) hD)
  · rintro L' I' r h₄ tk₄ k₄ ⟨a, items, rfl, hl, _, _, hp⟩
    have k₁₄ : Stay h₁ h₄ := k₁₃.trans k₄
    have fa : a ≠ L := by
      rintro rfl
      obtain ⟨_, e⟩ := hl
      obtain ⟨_, _, _, e', d, _⟩ := hns₁.keeps k₁₄
      rw [e] at e'; cases e'; cases d
    refine wpAny_storeName_local rfl (hns₁.keeps k₁₄) (fun h₅ hn₅ hs₅ => ?_)
    exact h _ _ a items (fun b o hb hbL e => hs₅.extBut b o hbL (k₁₄ _ _ (k₁ _ _ hb e))) hn₅ ((I₁.keeps k₁₄).butNs (hns₁.keeps k₁₄) hs₅.extBut (Ne.symm hL101)) (hl.extBut hs₅.extBut fa) hp
end
end Mine
end
section
set_option maxRecDepth 100000
open PySem PySem.W PySem.Calls PyProof.Rows
namespace Mine
/-- TabI, whose code lies at none of these places -/
def TabX (X : List Addr) (h : Heap) (P : Addr) (line col : Int) (qual : Str) : Prop :=
  h.get? P = some (tabObj #[]) ∨ ∃ c, h.get? P = some (tabObj #[rawInt line, rawInt col, .ref c]) ∧ h.CodeRec (.ref c) qual ∧ 119 ≤ c ∧ c ∉ X
theorem TabX.tabI {X : List Addr} {h : Heap} {P : Addr} {line col : Int} {qual : Str} (x : TabX X h P line col qual) : TabI h P line col qual := by
  rcases x with x | ⟨c, x, y, z, _⟩
  · exact .inl x
  · exact .inr ⟨c, x, y, z⟩
theorem TabI.tabX {X : List Addr} {h : Heap} {P : Addr} {line col : Int} {qual : Str} (x : TabI h P line col qual) (nx : ∀ a ∈ X, NoCode h a ∨ h.objs.size ≤ a) : TabX X h P line col qual := by
  rcases x with x | ⟨c, x, y, z⟩
  · exact .inl x
  · refine .inr ⟨c, x, y, z, fun hc => ?_⟩
    rcases nx c hc with n | n
    · exact n _ y
    · obtain ⟨c', o, vs, t, ⟨⟩, e, _⟩ := y
      exact Nat.lt_irrefl _ (Nat.lt_of_lt_of_le (Heap.lt_size e) n)
theorem TabX.keeps {X : List Addr} {h h' : Heap} {P : Addr} {line col : Int} {qual : Str} (x : TabX X h P line col qual) (hP : P ∉ X) (k : ∀ b o, b ∉ X → h.get? b = some o → h'.get? b = some o) : TabX X h' P line col qual := by
  rcases x with x | ⟨c, x, y, z, n⟩
  · exact .inl (k _ _ hP x)
  · exact .inr ⟨c, k _ _ hP x, y.at fun o e => k _ _ n e, z, n⟩
theorem notin3 {P n C D I : Nat} (h : P < n) (hC : n ≤ C) (hD : n ≤ D) (hI : n ≤ I) : P ∉ [C, D, I] := by
  simp only [List.mem_cons, List.not_mem_nil, or_false]
  omega
def prepQ : Str := "_law_prepared.<locals>.<lambda>"
section
variable {pr : Program} {w : World} {mg mb : Str → Option Value} {g : Heap} {A : Around} {E : Value → Shared → Prop} {s : Shared} {env : Env}
set_option maxHeartbeats 4000000 in
/-- told.append(len([..])) -/
theorem count_stmt {L a aT : Addr} {i : Nat} {n : Int} {tr : Tok} {items vsT : Array Value} {nT : Nat} {m : Str → Option Value} {h₂ : Heap} {tk : Nat} {Q : Flow → Shared → Prop} (G : Gt w mg mb g) (st : Stay g h₂) (hroom : A.depth + 5 < recursionLimit) (hh : A.handled = none)
    (hns : h₂.Ns L m) (hm1 : m "texts" = some (.ref a)) (hm2 : m "told" = some (.ref aT)) (hi : i < 4) (cr : h₂.IsCell (L + 1) (some (.str (runS n) tr))) (hl : h₂.PlainList a items) (hp : Paired StrV (textsL (signsL n) i) items.toList)
    (hT : IsL h₂ aT vsT nT) (hsT : vsT.size ≤ 3) (I94 : TabI h₂ 94 33 18 prepQ)
    (h : ∀ h₃ tk₃ u, (∀ b o, b ≠ 94 → b ≠ aT → h₂.get? b = some o → h₃.get? b = some o) → TabI h₃ 94 33 18 prepQ → (∃ n', IsL h₃ aT (vsT.push (.int (cntL n i) u)) n') → Q .next { s with heap := h₃, toks := tk₃ }) :
    wpAny (model pr w) A (execs (fb11.1.drop 1) (env104 w.params L)) Q E { s with heap := h₂, toks := tk } := by
  have hbig : 119 ≤ h₂.objs.size := G.toGf.big st
  have h94 : 94 < h₂.objs.size := Nat.lt_of_lt_of_le (by decide) hbig
  have n94 : ∀ {b o}, h₂.get? b = some o → (∀ vs, o ≠ tabObj vs) → b ≠ 94 := by
    rintro b o e hne rfl
    rcases I94 with x | ⟨_, x, _⟩ <;> rw [e] at x <;> cases x <;> exact hne _ rfl
  have hcr94 : L + 1 ≠ 94 := by
    obtain ⟨o, e, d⟩ := cr
    exact n94 e fun vs q => by rw [q] at d; cases d
  have ha94 : a ≠ 94 := by
    obtain ⟨o, e⟩ := hl
    exact n94 e fun vs q => by cases q
  have hT94 : aT ≠ 94 := n94 hT fun vs q => by cases q
  have hsz : items.size ≤ 125 := by
    have := hp.length
    have := texts_small n (i := i) (by omega)
    have e : items.toList.length = items.size := by simp
    omega
  dsimp only [fb11, List.drop]
  refine wpAny_execs_cons ?_
  refine append_stmt (l := aT) rfl rfl rfl rfl rfl (fun Q' q => ev_local hns hm2 rfl rfl q) ⟨_, _, hT⟩ ?_
  refine Call_Name1 ?_
  refine ev_builtin G.toGf st (G.bare _ (by simp)) (v := .builtin "len") (by kernel_rfl) (by decide) rfl rfl rfl rfl ?_
  refine callWith_builtin1 ?_
  refine comp_of (walk_list a items) (lst_it_nc a) hh (Nat.le_trans hsz (by decide)) (cl := [("run", L + 1)]) rfl (nocell (by kernel_rfl)) rfl (names_ok (by kernel_rfl)) rfl
    (fun C D I j ys h' => StayB 94 h₂ h' ∧ TabX [C, D, I] h' 94 33 18 prepQ ∧ h₂.objs.size ≤ C ∧ h₂.objs.size ≤ D ∧ h₂.objs.size ≤ I ∧ Paired StrV (((textsL (signsL n) i).take j).filter fun x => prepL x == runS n) ys) ?_ ?_ ?_ ?_ ?_
  · refine ev_local hns hm1 rfl rfl ?_
    refine ⟨rfl, hl.isList, ⟨_, _, rfl⟩, fun C D I h' hC hD hI k => ⟨fun b o _ e => k _ _ e, ?_, hC, hD, hI, by rw [List.take_zero]; exact .nil⟩⟩
    refine TabX.keeps (TabI.tabX I94 ?_) ?_ fun b o _ e => k _ _ e
    · intro b hb
      simp only [List.mem_cons, List.not_mem_nil, or_false] at hb
      rcases hb with rfl | rfl | rfl
      · exact .inr hC
      · exact .inr hD
      · exact .inr hI
    · exact notin3 h94 hC hD hI
  · rintro C D I j ys h₃ h₄ ⟨k, ix, hC, hD, hI, hq⟩ k'
    have n3 := notin3 h94 hC hD hI
    refine ⟨fun b o hb e => k' b o ?_ ?_ ?_ (k b o hb e), TabX.keeps ix n3 (fun b o hb e => ?_), hC, hD, hI, hq⟩
    · exact Nat.ne_of_lt (Nat.lt_of_lt_of_le (Heap.lt_size e) hC)
    · exact Nat.ne_of_lt (Nat.lt_of_lt_of_le (Heap.lt_size e) hD)
    · exact Nat.ne_of_lt (Nat.lt_of_lt_of_le (Heap.lt_size e) hI)
    · simp only [List.mem_cons, List.not_mem_nil, or_false, not_or] at hb
      exact k' b o hb.1 hb.2.1 hb.2.2 e
  · rintro C D I j ys h₃ ⟨k, _⟩
    exact (hl.at fun o e => k _ _ ha94 e).isList
  · rintro C D I j v ys h₃ tk₃ m₃ E' hj hv at3 ⟨k, ix, hC, hD, hI, hq⟩ hns₃ hm₃
    obtain ⟨x, hxj, t, rfl⟩ := paired_get hp (i := j) (v := v) (by rw [Array.getElem?_toList]; exact hv)
    have hx : x ∈ textsL (signsL n) i := List.mem_of_getElem? hxj
    obtain ⟨hx1, hx2⟩ := texts_in i x hx
    have st₃ : Stay g h₃ := G.stB (.inl rfl) st k
    refine wpAny_tests_one ?_
    refine wpAny_isTrue_Compare1 ?_
    refine Call_ ?_
    refine ev_global G.toGf st₃ (G.names ("_law_prepared", 99) (by simp)) rfl rfl rfl ?_
    refine callWith_def (o := o99 w.params) rfl ?_
    refine args_cons ?_
    refine ev_local hns₃ hm₃ rfl rfl ?_
    refine args_nil ⟨st₃ _ _ (G.objs (99, o99 w.params) (by simp [tabL])), ?_⟩
    refine prepared_call G st₃ (by omega) hh ix.tabI (fun c hc => okc_of (signs_ok n c (hx2 c (by simpa using hc)))) (by show x.toArray.size ≤ 3; rw [List.size_toArray, hx1]; omega) fun h₄ tk₄ u k₄ I₄ => ?_
    rw [show (⟨x.toArray⟩ : Str).cps.toList = x by simp]
    dsimp only
    refine ev_cell (v := .str (runS n) tr) (c := L + 1) ?_ rfl rfl rfl ?_
    · obtain ⟨o, e, d⟩ := cr
      exact ⟨o, k₄ _ _ hcr94 (k _ _ hcr94 e), d⟩
    refine eq_str ?_
    refine wpAny_truthy_bool ?_
    have hC94 : C ≠ 94 := Nat.ne_of_gt (Nat.lt_of_lt_of_le h94 hC)
    have hD94 : D ≠ 94 := Nat.ne_of_gt (Nat.lt_of_lt_of_le h94 hD)
    have hI94 : I ≠ 94 := Nat.ne_of_gt (Nat.lt_of_lt_of_le h94 hI)
    have fr : Frame3 C D I h₃ h₄ := by
      rintro b o (rfl | rfl | rfl) e
      · exact k₄ _ _ hC94 e
      · exact k₄ _ _ hD94 e
      · exact k₄ _ _ hI94 e
    have kk : StayB 94 h₂ h₄ := fun b o hb e => k₄ _ _ hb (k _ _ hb e)
    have ix₄ : TabX [C, D, I] h₄ 94 33 18 prepQ := TabI.tabX I₄ fun b hb => by
      simp only [List.mem_cons, List.not_mem_nil, or_false] at hb
      rcases hb with rfl | rfl | rfl
      · exact .inl (at3.nc.keeps at3.sc fun o e => k₄ _ _ hC94 e)
      · exact .inl (at3.nd.keeps at3.sd fun o e => k₄ _ _ hD94 e)
      · exact .inl (at3.ni.keeps at3.si fun o e => k₄ _ _ hI94 e)
    have hf := take_succ_filter (fun x => prepL x == runS n) (textsL (signsL n) i) j x hxj
    cases hb : (prepL x == runS n) with
    | false =>
      rw [hb] at hf
      rw [if_neg (by decide)]
      refine ⟨_, _, rfl, fr, kk, ix₄, hC, hD, hI, ?_⟩
      rw [hf]
      simpa using hq
    | true =>
      rw [hb] at hf
      rw [if_pos rfl]
      refine ev_local (hns₃.at' fun o e => k₄ _ _ hC94 e) hm₃ rfl rfl ?_
      refine ⟨_, _, rfl, fr, kk, ix₄, hC, hD, hI, ?_⟩
      rw [hf]
      simpa using hq.snoc ⟨t, rfl⟩
  · rintro C D I h₃ tk₃ ys hD ⟨k, ix, hC, hDs, hI, hq⟩
    have hys : ys.size = ((textsL (signsL n) i).filter fun x => prepL x == runS n).length := by
      have e := hq.length
      have e1 : (textsL (signsL n) i).take items.size = textsL (signsL n) i := by
        have := hp.length
        have e2 : items.toList.length = items.size := by simp
        rw [← e2, ← this, List.take_length]
      rw [e1] at e
      simpa using e.symm
    have hys2 : ys.size ≤ 125 := by
      rw [hys]
      exact Nat.le_trans (List.length_filter_le _ _) (texts_small n (by omega))
    refine call_len_list hD.isList (by omega) ?_
    have hTD : aT ≠ D := Nat.ne_of_lt (Nat.lt_of_lt_of_le (Heap.lt_size hT) hDs)
    refine ⟨vsT, nT, by omega, k _ _ hT94 hT, fun h₄ hT₄ hs₄ => ?_⟩
    refine wpAny_execs_nil ?_
    rw [hys] at hT₄
    exact h _ _ _ (fun b o hb hbT e => hs₄.extBut b o hbT (k _ _ hb e)) (ix.tabI.butL (k _ _ hT94 hT) hs₄.extBut (Ne.symm hT94)) hT₄
end
end Mine
end
section
set_option maxRecDepth 100000
open PySem PySem.W PySem.Calls PyProof.Rows
namespace Mine
theorem TabX.keepsY {X Y : List Addr} {h h' : Heap} {P : Addr} {line col : Int} {qual : Str} (x : TabX X h P line col qual) (hP : P ∉ X) (hPY : P ∉ Y) (hY : ∀ y ∈ Y, y < 119) (k : ∀ b o, b ∉ X → b ∉ Y → h.get? b = some o → h'.get? b = some o) : TabX X h' P line col qual := by
  rcases x with x | ⟨c, x, y, z, n⟩
  · exact .inl (k _ _ hP hPY x)
  · exact .inr ⟨c, k _ _ hP hPY x, y.at fun o e => k _ _ n (fun hc => Nat.lt_irrefl _ (Nat.lt_of_lt_of_le (hY c hc) z)) e, z, n⟩
theorem notin2 {P L I n : Nat} (h : P < n) (hL : L ≠ P) (hI : n ≤ I) : P ∉ [L, I] := by
  simp only [List.mem_cons, List.not_mem_nil, or_false]
  omega
theorem map_range_len {i : Nat} {f : Nat → Int} {vs : Array Value} (h : Paired IntV ((List.range i).map f) vs.toList) : vs.size = i := by
  have := h.length
  simpa using this.symm
/-- all but the two code tables stands -/
def Stay94 (h h' : Heap) : Prop := ∀ b o, b ≠ 94 → b ≠ 101 → h.get? b = some o → h'.get? b = some o
section
variable {pr : Program} {w : World} {mg mb : Str → Option Value} {g : Heap} {A : Around} {E : Value → Shared → Prop} {s : Shared} {env : Env}
theorem Gt.st94 {g h h' : Heap} (G : Gt w mg mb g) (st : Stay g h) (k : Stay94 h h') : Stay g h' := fun b o e => by
  refine k b o ?_ ?_ (st b o e)
  · rintro rfl; rw [G.hid.1] at e; cases e
  · rintro rfl; rw [G.hid.2] at e; cases e
theorem fsk_item {k : Int} (h0 : 0 ≤ k) (h1 : k < 3) : (seqIndex? k (Str.length "fsk")).bind ((Str.cps "fsk")[·]?) = some ([102, 115, 107].getD k.toNat 0) := by
  have h : k = 0 ∨ k = 1 ∨ k = 2 := by omega
  rcases h with rfl | rfl | rfl <;> kernel_rfl
set_option maxHeartbeats 4000000 in
/-- the loop of _law_told and its return -/
theorem told_loop {L aS aT : Addr} {n : Int} {tr : Tok} {chars : Array Value} {m₀ : Str → Option Value} {h₅ : Heap} {tk : Nat} {Q : Value → Shared → Prop} (G : Gt w mg mb g) (st : Stay g h₅) (hroom : A.depth + 5 < recursionLimit) (hh : A.handled = none) (hbigL : 119 ≤ L)
    (hgL : g.get? L = none) (hgT : g.get? aT = none)
    (hns : h₅.Ns L m₀) (hm2 : m₀ "told" = some (.ref aT)) (cr : h₅.IsCell (L + 1) (some (.str (runS n) tr))) (cs : h₅.IsCell (L + 2) (some (.ref aS))) (hS : h₅.PlainList aS chars) (hch : Paired ChV (signsL n) chars.toList)
    (hT : IsL h₅ aT #[] 0) (hST : aS ≠ aT) (I94 : TabI h₅ 94 33 18 prepQ) (I101 : TabI h₅ 101 39 23 lamQ)
    (h : ∀ vs h' tk, (∀ b o, b ≠ 94 → b ≠ 101 → b ≠ L → b ≠ aT → h₅.get? b = some o → h'.get? b = some o) → TabI h' 94 33 18 prepQ → TabI h' 101 39 23 lamQ → h'.PlainList aT vs → Paired IntV (toldL n) vs.toList → Q (.ref aT) { s with heap := h', toks := tk }) :
    wpAny (model pr w) A (execs (bd11.1.drop 3) (env104 w.params L)) (fun f s' => Q (retOf f) s') E { s with heap := h₅, toks := tk } := by
  have hbig : 119 ≤ h₅.objs.size := G.toGf.big st
  have n94 : ∀ {b o}, h₅.get? b = some o → (∀ vs, o ≠ tabObj vs) → b ≠ 94 ∧ b ≠ 101 := by
    rintro b o e hne
    constructor
    · rintro rfl
      rcases I94 with x | ⟨_, x, _⟩ <;> rw [e] at x <;> cases x <;> exact hne _ rfl
    · rintro rfl
      rcases I101 with x | ⟨_, x, _⟩ <;> rw [e] at x <;> cases x <;> exact hne _ rfl
  have hT9 := n94 hT fun vs q => by cases q
  have hS9 : aS ≠ 94 ∧ aS ≠ 101 := let ⟨_, e⟩ := hS; n94 e fun vs q => by cases q
  have hr9 : L + 1 ≠ 94 ∧ L + 1 ≠ 101 := let ⟨_, e, d⟩ := cr; n94 e fun vs q => by rw [q] at d; cases d
  have hs9 : L + 2 ≠ 94 ∧ L + 2 ≠ 101 := let ⟨_, e, d⟩ := cs; n94 e fun vs q => by rw [q] at d; cases d
  have hL9 : L ≠ 94 ∧ L ≠ 101 := let ⟨_, _, _, e, d, _⟩ := hns; n94 e fun vs q => by rw [q] at d; cases d
  have hTL : aT ≠ L := by
    rintro rfl
    obtain ⟨_, _, _, e, d, _⟩ := hns
    rw [hT] at e; cases e; cases d
  have hSL : aS ≠ L := by
    rintro rfl
    obtain ⟨_, e'⟩ := hS
    obtain ⟨_, _, _, e, d, _⟩ := hns
    rw [e'] at e; cases e; cases d
  have hTr : L + 1 ≠ aT := by
    rintro rfl
    obtain ⟨_, e, d⟩ := cr
    rw [hT] at e; cases e; cases d
  have hTs : L + 2 ≠ aT := by
    rintro rfl
    obtain ⟨_, e, d⟩ := cs
    rw [hT] at e; cases e; cases d
  dsimp only [bd11, List.drop]
  refine wpAny_execs_cons ?_
  refine for_of (env := env104 w.params L) (seq := .ref h₅.objs.size) (n := 4) (el := fun i x => ∃ t', x = .int i t') (It := rngIt 4) hh rfl rfl (rng_nc 4)
    (fun I i m h' => m "told" = some (.ref aT) ∧ (∀ b o, b ≠ 94 → b ≠ 101 → b ≠ L → b ≠ aT → h₅.get? b = some o → h'.get? b = some o) ∧ TabX [L, I] h' 94 33 18 prepQ ∧ TabX [L, I] h' 101 39 23 lamQ ∧
      (∃ vs k, IsL h' aT vs k ∧ Paired IntV ((List.range i).map (cntL n)) vs.toList) ∧ h₅.objs.size ≤ I) ?_ ?_ ?_ ?_
  · refine Call_Name1 ?_
    refine ev_builtin G.toGf st (G.bare _ (by simp)) (v := .type "range") (by kernel_rfl) (by decide) rfl rfl rfl rfl ?_
    refine PySem.callWith_type1 ?_
    refine wpAny_Constant_int ?_
    refine call_range_1 ?_
    refine ⟨rfl, ⟨_, iter_range _ 4 _ _ _ (by omega), IsRange.new _ _ _ _ _ _ _⟩, ⟨_, _, rfl⟩, m₀, hns.push _, fun I h' hI k => ?_⟩
    have hI : (h₅.push _).objs.size ≤ I := hI
    rw [Heap.size_push] at hI
    have hI : h₅.objs.size ≤ I := Nat.le_of_succ_le hI
    have k : Stay h₅ h' := fun b o e => k _ _ (Heap.get?_push_of_some _ e)
    have nx : ∀ a ∈ [L, I], NoCode h₅ a ∨ h₅.objs.size ≤ a := by
      intro a ha
      simp only [List.mem_cons, List.not_mem_nil, or_false] at ha
      rcases ha with rfl | rfl
      · exact .inl (ns_nc hns)
      · exact .inr hI
    have h9I : 94 ∉ [L, I] ∧ 101 ∉ [L, I] := ⟨notin2 (Nat.lt_of_lt_of_le (by decide) hbig) hL9.1 hI, notin2 (Nat.lt_of_lt_of_le (by decide) hbig) hL9.2 hI⟩
    exact ⟨hm2, fun b o _ _ _ _ e => k _ _ e, (I94.tabX nx).keeps h9I.1 fun b o _ e => k _ _ e, (I101.tabX nx).keeps h9I.2 fun b o _ e => k _ _ e, ⟨_, _, k _ _ hT, .nil⟩, hI⟩
  · rintro I i m h₁ h₂ ⟨h1, k, x94, x101, ⟨vs, kk, hv, hp⟩, hI⟩ k'
    have h9I : 94 ∉ [L, I] ∧ 101 ∉ [L, I] := ⟨notin2 (Nat.lt_of_lt_of_le (by decide) hbig) hL9.1 hI, notin2 (Nat.lt_of_lt_of_le (by decide) hbig) hL9.2 hI⟩
    have kX : ∀ b o, b ∉ [L, I] → h₁.get? b = some o → h₂.get? b = some o := by
      intro b o hb e
      simp only [List.mem_cons, List.not_mem_nil, or_false, not_or] at hb
      exact k' b o hb.1 hb.2 e
    refine ⟨h1, fun b o b1 b2 b3 b4 e => k' b o b3 (Nat.ne_of_lt (Nat.lt_of_lt_of_le (Heap.lt_size e) hI)) (k b o b1 b2 b3 b4 e), x94.keeps h9I.1 kX, x101.keeps h9I.2 kX, ⟨vs, kk, k' _ _ hTL (Nat.ne_of_lt (Nat.lt_of_lt_of_le (Heap.lt_size hT) hI)) hv, hp⟩, hI⟩
  · rintro I i m v h₂ tk₂ Q' E' hi ⟨tv, rfl⟩ hIL hIs hnI ⟨h1, k, x94, x101, ⟨vs, kk, hv, hp⟩, hI⟩ hn₂ hq
    have h9I : 94 ∉ [L, I] ∧ 101 ∉ [L, I] := ⟨notin2 (Nat.lt_of_lt_of_le (by decide) hbig) hL9.1 hI, notin2 (Nat.lt_of_lt_of_le (by decide) hbig) hL9.2 hI⟩
    have hITn : I ≠ aT := Nat.ne_of_gt (Nat.lt_of_lt_of_le (Heap.lt_size hT) hI)
    have hI94 : I ≠ 94 := fun e => h9I.1 (by rw [e]; simp)
    have hI101 : I ≠ 101 := fun e => h9I.2 (by rw [e]; simp)
    have st₂ : Stay g h₂ := fun b o e => by
      refine k b o ?_ ?_ ?_ ?_ (st b o e)
      · rintro rfl; rw [G.hid.1] at e; cases e
      · rintro rfl; rw [G.hid.2] at e; cases e
      · rintro rfl; rw [hgL] at e; cases e
      · rintro rfl; rw [hgT] at e; cases e
    have cr₂ : h₂.IsCell (L + 1) (some (.str (runS n) tr)) := let ⟨o, e, d⟩ := cr; ⟨o, k _ _ hr9.1 hr9.2 (Nat.ne_of_gt (Nat.lt_succ_self _)) hTr e, d⟩
    have cs₂ : h₂.IsCell (L + 2) (some (.ref aS)) := let ⟨o, e, d⟩ := cs; ⟨o, k _ _ hs9.1 hs9.2 (Nat.ne_of_gt (Nat.lt_succ_of_lt (Nat.lt_succ_self _))) hTs e, d⟩
    have hS₂ : h₂.PlainList aS chars := hS.at fun o e => k _ _ hS9.1 hS9.2 hSL hST e
    have key := texts_stmt (pr := pr) (A := A) (E := E') (s := s) (tk := tk₂) (Q := Q') G st₂ hroom hh hbigL hn₂ (if_pos rfl) hi cs₂ hS₂ hch x101.tabI fun h₃ tk₃ a items k₃ hn₃ I₃ hl₃ hp₃ => ?_
    · dsimp only [fb11, env104] at key
      exact key
    have st₃ : Stay g h₃ := fun b o e => by
      refine k₃ b o ?_ ?_ (st₂ b o e)
      · rintro rfl; rw [G.hid.2] at e; cases e
      · rintro rfl; rw [hgL] at e; cases e
    have cr₃ : h₃.IsCell (L + 1) (some (.str (runS n) tr)) := let ⟨o, e, d⟩ := cr₂; ⟨o, k₃ _ _ hr9.2 (Nat.ne_of_gt (Nat.lt_succ_self _)) e, d⟩
    have hv₃ : IsL h₃ aT vs kk := k₃ _ _ hT9.2 hTL hv
    have hvs : vs.size = i := map_range_len hp
    have x94₃ : TabX [L, I] h₃ 94 33 18 prepQ := x94.keepsY (Y := [101]) h9I.1 (by decide) (by decide) fun b o hb hb' e => by
      simp only [List.mem_cons, List.not_mem_nil, or_false, not_or] at hb hb'
      exact k₃ _ _ hb' hb.1 e
    refine count_stmt (m := fun y => if y = "texts" then some (.ref a) else if y = "size" then some (.int i tv) else m y) G st₃ hroom hh hn₃ (if_pos rfl) h1 hi cr₃ hl₃ hp₃ hv₃ (by omega) x94₃.tabI fun h₄ tk₄ u k₄ I₄ hT₄ => ?_
    obtain ⟨n', hT₄⟩ := hT₄
    have hn₄ := hn₃.at' fun o e => k₄ _ _ hL9.1 (Ne.symm hTL) e
    have nI₃ : NoCode h₃ I := hnI.keeps hIs fun o e => k₃ _ _ hI101 hIL e
    have sI₃ : (h₃.get? I).isSome = true := by
      obtain ⟨o, e⟩ := Option.isSome_iff_exists.mp hIs
      rw [k₃ _ _ hI101 hIL e]; rfl
    have nx : ∀ a ∈ [L, I], NoCode h₄ a ∨ h₄.objs.size ≤ a := by
      intro a ha
      simp only [List.mem_cons, List.not_mem_nil, or_false] at ha
      rcases ha with rfl | rfl
      · exact .inl (ns_nc hn₄)
      · exact .inl (nI₃.keeps sI₃ fun o e => k₄ _ _ hI94 hITn e)
    have x101₄ : TabI h₄ 101 39 23 lamQ := by
      have y : TabX [aT] h₃ 101 39 23 lamQ := I₃.tabX fun b hb => by
        rw [List.mem_singleton.mp hb]
        exact .inl (lst_nc ⟨_, hv₃⟩)
      refine (y.keepsY (Y := [94]) (fun q => hT9.2 (List.mem_singleton.mp q).symm) (by decide) (by decide) fun b o hb hb' e => ?_).tabI
      exact k₄ _ _ (fun q => hb' (List.mem_singleton.mpr q)) (fun q => hb (List.mem_singleton.mpr q)) e
    refine hq h₄ tk₄ _ (fun o e => k₄ _ _ hI94 hITn (k₃ _ _ hI101 hIL e)) hn₄ ⟨h1, fun b o b1 b2 b3 b4 e => k₄ _ _ b1 b4 (k₃ _ _ b2 b3 (k b o b1 b2 b3 b4 e)), I₄.tabX nx, x101₄.tabX nx, ⟨_, n', hT₄, ?_⟩, hI⟩
    rw [List.range_succ, List.map_append, Array.toList_push]
    exact hp.snoc ⟨_, rfl⟩
  · rintro I m h₂ tk₂ ⟨h1, k, x94, x101, ⟨vs, kk, hv, hp⟩, hI⟩ hn₂
    refine wpAny_execs_cons ?_
    refine wpAny_Return_some ?_
    refine ev_local hn₂ h1 rfl rfl ?_
    exact h vs h₂ tk₂ k x94.tabI x101.tabI ⟨kk, hv⟩ hp
end
end Mine
end
section
set_option maxRecDepth 100000
open PySem PySem.W PySem.Calls PyProof.Rows
namespace Mine
section
variable {pr : Program} {w : World} {mg mb : Str → Option Value} {g : Heap} {A : Around} {E : Value → Shared → Prop} {s : Shared} {env : Env}
set_option maxHeartbeats 4000000 in
theorem told_call {n : Int} {t : Tok} {Q : Value → Shared → Prop} (G : Gt w mg mb g) (st : Stay g s.heap) (hroom : A.depth + 6 < recursionLimit) (hh : A.handled = none) (I94 : TabI s.heap 94 33 18 prepQ) (I101 : TabI s.heap 101 39 23 lamQ)
    (h : ∀ r vs h' tk, Stay94 s.heap h' → TabI h' 94 33 18 prepQ → TabI h' 101 39 23 lamQ → s.heap.get? r = none → h'.PlainList r vs → Paired IntV (toldL n) vs.toList → Q (.ref r) { s with heap := h', toks := tk }) : wpAny (model pr w) A (call (.ref 104) [.int n t]) Q E s := by
  have ho := st _ _ (G.objs (104, o104 w.params) (by simp [tabL]))
  refine wpAny_call (codeAny_call_cells (fd := fd104 w.params) (body := bd11.1) (vals := [.int n t]) (binds := [("n", .int n t)]) (by omega) ho rfl (G.nolimit.keeps st) ⟨103, _, _, _, rfl, st _ _ (G.objs (103, o103 w.params) (by simp [tabL])), rfl, rfl⟩ (congrArg FuncBody.stmts bd11.2) rfl rfl (fun x hx => ?_) (fun s₁ x => ?_) rfl rfl rfl)
  · obtain rfl := List.mem_singleton.mp hx
    exact .inl rfl
  obtain ⟨h₀, tk₀, rfl⟩ := x.toInCall.same
  have hns := x.toInCall.ns
  have keep₀ : Stay s.heap h₀ := x.toInCall.keep
  have cr : h₀.IsCell (s.heap.objs.size + 1) none := x.cell "run" _ rfl
  have cs : h₀.IsCell (s.heap.objs.size + 2) none := x.cell "shop" _ rfl
  clear x
  have st₀ : Stay g h₀ := st.trans keep₀
  have hbigL : 119 ≤ s.heap.objs.size := G.toGf.big st
  dsimp only [bd11]
  refine wpAny_execs_cons ?_
  refine asg_comp rfl ?_
  refine comp_two (l := shopL n) (gg := id) (f := fun _ y => y.toNat) ChV (cl := []) hh ?_ rfl (nocell (by kernel_rfl)) rfl (names_ok (by kernel_rfl)) rfl rfl (by decide) ?_
  · have := signs_len n
    exact Nat.le_trans this (by decide)
  refine Call_ ?_
  refine ev_global G.toGf st₀ (G.names ("_law_shop", 92) (by simp)) rfl rfl rfl ?_
  refine callWith_def (o := o92 w.params) rfl ?_
  refine args_cons ?_
  refine ev_local hns (v := .int n t) rfl rfl rfl ?_
  refine args_nil ⟨st₀ _ _ (G.objs (92, o92 w.params) (by simp [tabL])), ?_⟩
  refine shop_call G.toGf st₀ (by show A.depth + 1 < _; omega) hh fun r vs h₁ tk₁ k₁ hl₁ hp₁ => ?_
  have st₁ : Stay g h₁ := st₀.trans k₁
  refine ⟨LstV h₁, IntV, r, vs.toArray, h₁, tk₁, rfl, rfl, hl₁, hp₁, ?_, ?_, ?_⟩
  · rintro k v hk ⟨a, ws, rfl, hl, hp⟩
    exact ⟨a, ws.toArray, hl, hp, fun C h tk m A' E' Q' st hns hm hq => ev_local hns hm rfl rfl (hq _)⟩
  · rintro x v y _ hx hR hy ⟨u, rfl⟩ C h₂ tk₂ m A' E' Q' k₂ hns₂ hm1 hm2 hq
    have hy := codes_ok n x hx y hy
    have hs := codes_small _ hy.2
    refine Call_Name1 ?_
    refine ev_builtin G.toGf (st₁.trans k₂) (G.bare _ (by simp)) (v := .builtin "chr") (by kernel_rfl) (by decide) rfl rfl rfl rfl ?_
    refine callWith_builtin1 ?_
    refine ev_local hns₂ hm2 rfl rfl ?_
    refine chr_of_range hy.1 (by omega) ?_
    exact hq _ _ ⟨_, rfl⟩
  intro D h₂ tk₂ chars k₂ hD hlD hpD
  have hpD : Paired ChV (signsL n) chars.toList := hpD
  have k₀₂ : Stay h₀ h₂ := k₁.trans k₂
  refine wpAny_storeName_cell rfl rfl rfl (cs.keeps k₀₂) fun h₃ cs₃ sb₃ => ?_
  have nS : s.heap.objs.size + 2 ≠ s.heap.objs.size + 1 := Nat.ne_of_gt (Nat.lt_succ_self _)
  have nL : s.heap.objs.size ≠ s.heap.objs.size + 2 := Nat.ne_of_lt (Nat.lt_succ_of_lt (Nat.lt_succ_self _))
  have nL1 : s.heap.objs.size ≠ s.heap.objs.size + 1 := Nat.ne_of_lt (Nat.lt_succ_self _)
  have cr₃ : h₃.IsCell (s.heap.objs.size + 1) none := (cr.keeps k₀₂).sameBut sb₃ (Ne.symm nS)
  have hns₃ := (hns.keeps k₀₂).sameBut sb₃ nL
  have hlD₃ : h₃.PlainList D chars := hlD.extBut sb₃.extBut (by
    rintro rfl
    obtain ⟨_, e⟩ := hlD
    obtain ⟨o, e', d⟩ := cs.keeps k₀₂
    rw [e] at e'; cases e'; cases d)
  have keep₃ : Stay s.heap h₃ := fun b o e => sb₃.extBut b o (Nat.ne_of_lt (Nat.lt_succ_of_lt (Nat.lt_succ_of_lt (Heap.lt_size e)))) (k₀₂ _ _ (keep₀ _ _ e))
  clear sb₃ hlD cs cr hns keep₀ k₀₂ k₁ k₂
  dsimp only
  refine wpAny_execs_cons ?_
  refine asg_bin ?_
  refine wpAny_BinOp ?_
  refine Subscript_ ?_
  refine wpAny_Constant_str ?_
  refine wpAny_BinOp ?_
  refine ev_local hns₃ (v := .int n t) rfl rfl rfl ?_
  refine wpAny_Constant_int ?_
  refine mod_int' (by decide) ?_
  rw [fmod_pos (by decide)]
  refine subscriptTail_builtin (typeIs_str _ _ _) slot_str_getitem.lookup ?_
  refine getItem_str ?_ (fsk_item (k := n % 3) (by omega) (by omega)) ?_
  · have a1 : ¬ n % 3 < -(2 ^ 63 : Int) := by omega
    have a2 : ¬ n % 3 ≥ (2 ^ 63 : Int) := by omega
    rw [decide_eq_false a1, decide_eq_false a2]; rfl
  refine wpAny_BinOp ?_
  refine wpAny_BinOp ?_
  refine ev_local hns₃ (v := .int n t) rfl rfl rfl ?_
  refine wpAny_Constant_int ?_
  refine floordiv_int (by decide) ?_
  refine wpAny_Constant_int ?_
  refine mod_int' (by decide) ?_
  rw [fmod_pos (by decide), fdiv_pos (by decide)]
  refine SB.mul (mulOk_of 1 5 (Nat.le_refl 1) (by omega) (by omega) (by decide) (by decide)) fun t' k' => ?_
  refine wpAny_storeName_cell rfl rfl rfl cr₃ fun h₄ cr₄ sb₄ => ?_
  have cr₄ : h₄.IsCell (s.heap.objs.size + 1) (some (.str (runS n) t')) := cr₄
  have cs₄ : h₄.IsCell (s.heap.objs.size + 2) (some (.ref D)) := cs₃.sameBut sb₄ nS
  have hns₄ := hns₃.sameBut sb₄ nL1
  have hlD₄ : h₄.PlainList D chars := hlD₃.extBut sb₄.extBut (by
    rintro rfl
    obtain ⟨_, e⟩ := hlD₃
    obtain ⟨o, e', d⟩ := cr₃
    rw [e] at e'; cases e'; cases d)
  have keep₄ : Stay s.heap h₄ := fun b o e => sb₄.extBut b o (Nat.ne_of_lt (Nat.lt_succ_of_lt (Heap.lt_size e))) (keep₃ _ _ e)
  clear sb₄ hlD₃ cs₃ cr₃ hns₃ keep₃
  dsimp only
  refine wpAny_execs_cons ?_
  refine asg_list ?_
  refine ev_listK ?_
  refine args_nil ⟨by simp, fun aT h₅ haT hlT k₅ => ?_⟩
  have fT : h₄.get? aT = none := fresh_of haT
  have hTL : aT ≠ s.heap.objs.size := by
    obtain ⟨_, _, _, e, _⟩ := hns₄
    exact Ne.symm (ne_fresh fT e)
  have hDT : D ≠ aT := by
    obtain ⟨_, e⟩ := hlD₄
    exact ne_fresh fT e
  refine wpAny_storeName_local rfl (hns₄.keeps k₅) fun h₆ hn₆ hs₆ => ?_
  have keep₆ : Stay s.heap h₆ := fun b o e => hs₆.extBut b o (Nat.ne_of_lt (Heap.lt_size e)) (k₅ _ _ (keep₄ _ _ e))
  have frT : s.heap.get? aT = none := keep₄.fresh fT
  dsimp only
  have key := told_loop (pr := pr) (A := A.deeper (callEnvC (fd104 w.params) s.heap.objs.size 104)) (E := fun e s' => wpAny (model pr w) (A.deeper (callEnvC (fd104 w.params) s.heap.objs.size 104)) (leaving (callEnvC (fd104 w.params) s.heap.objs.size 104) e) (fun _ s'' => E e s'') (fun e' s'' => E e' s'') s') (s := s) (tk := k' + 1) (Q := Q) G (st.trans keep₆) (by show A.depth + 1 + 5 < _; omega) hh hbigL (st.fresh (fresh_of (Nat.le_refl _))) (st.fresh frT)
    hn₆ (if_pos rfl) ((cr₄.keeps k₅).sameBut hs₆ (Ne.symm nL1)) ((cs₄.keeps k₅).sameBut hs₆ (Ne.symm nL)) ((hlD₄.at fun o e => k₅ _ _ e).extBut hs₆.extBut (by
      rintro rfl
      obtain ⟨_, e'⟩ := hlD₄
      obtain ⟨_, _, _, e, d, _⟩ := hns₄
      rw [e'] at e; cases e; cases d)) hpD (hs₆.extBut _ _ hTL hlT) hDT (I94.keeps keep₆) (I101.keeps keep₆)
    fun vs h' tk k x94 x101 hl hp => h aT vs h' tk (fun b o b1 b2 e => k b o b1 b2 (Nat.ne_of_lt (Heap.lt_size e)) (ne_fresh frT e) (keep₆ _ _ e)) x94 x101 frT hl hp
  dsimp only [bd11, List.drop, env104] at key
  exact key
end
end Mine
end
section
set_option maxRecDepth 100000
open PySem PySem.W PySem.Calls PyProof.Rows
namespace Mine
def bd13 : { b : List Stmt // defBody 13 = b } := ⟨_, by conv => lhs; whnf⟩
def forBody2 : List Stmt → List Stmt
  | _ :: _ :: .For _ _ b _ _ :: _ => b
  | _ => []
def forBody1 : List Stmt → List Stmt
  | _ :: .For _ _ b _ _ :: _ => b
  | _ => []
def fb13 : { b : List Stmt // forBody2 bd13.1 = b } := ⟨_, by conv => lhs; whnf⟩
def ib13 : { b : List Stmt // forBody1 fb13.1 = b } := ⟨_, by conv => lhs; whnf⟩
def fd118 (P : Params) : FuncData := match (o118 P).data with | .func f => f | _ => default
def env118 (P : Params) (L : Addr) : Env := callEnv (fd118 P) L 118
def termD (n : Int) (i e : Nat) : Int :=
  if 0 ≤ n / 3 % 5 - ((i : Int) - e) ∧ n / 3 % 5 - ((i : Int) - e) ≤ (i : Int) - e then
    chF i e * chF ((i : Int) - e) (n / 3 % 5 - ((i : Int) - e)).toNat * (n / 540 % 2) ^ e * (n / 270 % 2) ^ (n / 3 % 5 - ((i : Int) - e)).toNat * (n / 15 % 3) ^ ((i : Int) - e - (n / 3 % 5 - ((i : Int) - e))).toNat
  else 0
def totD (n : Int) (i : Nat) : Nat → Int
  | 0 => 0
  | e + 1 => totD n i e + termD n i e
def dueL (n : Int) : List Int := (List.range 4).map fun i => totD n i (i + 1)
theorem ch_small : ∀ i < 4, ∀ k ≤ i, 0 ≤ chF (i : Nat) k ∧ chF (i : Nat) k ≤ 3 := by decide +kernel
theorem mulok {a b : Int} (h1 : -100 ≤ a) (h2 : a ≤ 100) : IntMulOk a b := IntMulOk.of_left (intBits_le_64 (by omega) (by omega))
theorem mulokr {a b : Int} (h1 : -100 ≤ b) (h2 : b ≤ 100) : IntMulOk a b := IntMulOk.of_right (intBits_le_64 (by omega) (by omega))
theorem pow01 {a : Int} (h0 : 0 ≤ a) (h1 : a ≤ 1) (k : Nat) : 0 ≤ a ^ k ∧ a ^ k ≤ 1 := by
  have h : a = 0 ∨ a = 1 := by omega
  rcases h with rfl | rfl
  · cases k with
    | zero => decide
    | succ k => rw [Int.pow_succ, Int.mul_zero]; decide
  · rw [Int.one_pow]; decide
/-- the names that the loops of _law_due lean on -/
structure Nm (n : Int) (aD : Addr) (i : Nat) (m : Str → Option Value) : Prop where
  num : ∃ t, m "n" = some (.int n t)
  ones : ∃ t, m "ones" = some (.int (n / 15 % 3) t)
  twos : ∃ t, m "twos" = some (.int (n / 270 % 2) t)
  noughts : ∃ t, m "noughts" = some (.int (n / 540 % 2) t)
  due : m "due" = some (.ref aD)
  size : ∃ t, m "size" = some (.int i t)
section
variable {pr : Program} {w : World} {mg mb : Str → Option Value} {g : Heap} {A : Around} {E : Value → Shared → Prop} {s : Shared} {env : Env}
set_option maxHeartbeats 4000000 in
theorem due_body {L aD : Addr} {i e : Nat} {te tt : Tok} {n : Int} {m : Str → Option Value} {h₂ : Heap} {tk : Nat} {Q : Flow → Shared → Prop} (G : Gf w mg mb g) (st : Stay g h₂) (hgL : g.get? L = none) (hroom : A.depth + 1 < recursionLimit) (hh : A.handled = none)
    (hns : h₂.Ns L m) (N : Nm n aD i m) (hm1 : m "empty" = some (.int e te)) (hm2 : m "total" = some (.int (totD n i e) tt)) (hi : i < 4) (he : e ≤ i)
    (h : ∀ h₃ tk₃ m₃ u, (∀ b o, b ≠ L → h₂.get? b = some o → h₃.get? b = some o) → h₃.Ns L m₃ → Nm n aD i m₃ → m₃ "total" = some (.int (totD n i (e + 1)) u) → Q .next { s with heap := h₃, toks := tk₃ }) :
    wpAny (model pr w) A (execs ib13.1 (env118 w.params L)) Q E { s with heap := h₂, toks := tk } := by
  obtain ⟨tn, hn⟩ := N.num
  obtain ⟨ts, hs⟩ := N.size
  dsimp only [ib13]
  refine wpAny_execs_cons ?_
  refine asg_bin ?_
  refine wpAny_BinOp ?_
  refine ev_local hns hs rfl rfl ?_
  refine ev_local hns hm1 rfl rfl ?_
  refine sub_int ?_
  refine wpAny_storeName_local rfl hns fun h₃ hn₃ hs₃ => ?_
  refine wpAny_execs_cons ?_
  refine asg_bin ?_
  refine wpAny_BinOp ?_
  refine wpAny_BinOp ?_
  refine wpAny_BinOp ?_
  refine ev_local hn₃ (v := .int n tn) hn rfl rfl ?_
  refine wpAny_Constant_int ?_
  refine floordiv_int (by decide) ?_
  refine wpAny_Constant_int ?_
  refine mod_int' (by decide) ?_
  rw [fmod_pos (by decide), fdiv_pos (by decide)]
  refine ev_local hn₃ (if_pos rfl) rfl rfl ?_
  refine sub_int ?_
  refine wpAny_storeName_local rfl hn₃ fun h₄ hn₄ hs₄ => ?_
  have k₄ : ∀ b o, b ≠ L → h₂.get? b = some o → h₄.get? b = some o := fun b o hb e => hs₄.extBut b o hb (hs₃.extBut b o hb e)
  have st₄ : Stay g h₄ := fun b o e => k₄ b o (by rintro rfl; rw [hgL] at e; cases e) (st b o e)
  clear hs₃ hs₄ hn₃
  dsimp only
  generalize hD : n / 3 % 5 - ((i : Int) - e) = d at *
  refine wpAny_execs_cons ?_
  refine wpAny_If ?_
  refine isTrue_chain ?_
  refine wpAny_Constant_int ?_
  refine test_link ?_
  refine ev_local hn₄ (if_pos rfl) rfl rfl ?_
  refine le_int ?_
  refine wpAny_truthy_bool ?_
  have skip : totD n i (e + 1) = totD n i e → ∀ tk', Q .next { s with heap := h₄, toks := tk' } := fun q tk' => h h₄ _ _ tt k₄ hn₄ ⟨N.num, N.ones, N.twos, N.noughts, N.due, N.size⟩ (by rw [q]; exact hm2)
  have hterm : totD n i (e + 1) = totD n i e + termD n i e := rfl
  generalize totD n i (e + 1) = T1 at h skip hterm
  generalize totD n i e = T0 at hm2 skip hterm
  dsimp only at hn₄ ⊢
  refine split_dec (fun h0 => ?_) (fun h0 => ?_)
  rotate_left
  · rw [if_neg (by decide)]
    refine wpAny_execs_nil ?_
    refine wpAny_execs_nil ?_
    refine skip ?_ _
    rw [hterm, termD, if_neg (by rw [hD]; exact fun q => h0 q.1), Int.add_zero]
  refine test_last ?_
  refine ev_local hn₄ rfl rfl rfl ?_
  refine le_int ?_
  refine wpAny_truthy_bool ?_
  refine split_dec (fun h1 => ?_) (fun h1 => ?_)
  rotate_left
  · refine wpAny_execs_nil ?_
    refine wpAny_execs_nil ?_
    refine skip ?_ _
    rw [hterm, termD, if_neg (by rw [hD]; exact fun q => h1 q.2), Int.add_zero]
  rw [termD, hD, if_pos ⟨h0, h1⟩] at hterm
  obtain ⟨dn, rfl⟩ := Int.eq_ofNat_of_zero_le h0
  rw [Int.toNat_natCast] at hterm
  have hf : (i : Int) - e = ((i - e : Nat) : Int) := by omega
  have hle : dn ≤ i - e := by omega
  have c1 := ch_small i hi e he
  have c2 := ch_small (i - e) (by omega) dn hle
  rw [← hf] at c2
  refine wpAny_execs_cons ?_
  refine asg_bin ?_
  refine wpAny_BinOp ?_
  refine Call_ ?_
  refine ev_global G st₄ (G.names ("_law_choose", 111) (by simp)) rfl rfl rfl ?_
  refine callWith_def (o := o111 w.params) rfl ?_
  refine args_cons ?_
  refine ev_local hn₄ (v := .int i ts) hs rfl rfl ?_
  refine args_cons ?_
  refine ev_local hn₄ (v := .int e te) hm1 rfl rfl ?_
  refine args_nil ⟨st₄ _ _ (G.objs (111, o111 w.params) (by simp [tabL])), ?_⟩
  refine choose_call (n := (i : Int)) (k := e) G st₄ (by omega) hh (by omega) (fun j hj => mulokr (by omega) (by omega)) fun h₅ tk₅ u₅ k₅ => ?_
  have st₅ : Stay g h₅ := st₄.trans k₅
  have hn₅ := hn₄.keeps k₅
  refine Call_ ?_
  refine ev_global G st₅ (G.names ("_law_choose", 111) (by simp)) rfl rfl rfl ?_
  refine callWith_def (o := o111 w.params) rfl ?_
  refine args_cons ?_
  refine ev_local hn₅ rfl rfl rfl ?_
  refine args_cons ?_
  refine ev_local hn₅ rfl rfl rfl ?_
  refine args_nil ⟨st₅ _ _ (G.objs (111, o111 w.params) (by simp [tabL])), ?_⟩
  refine choose_call (n := (i : Int) - e) (k := dn) G st₅ (by omega) hh (by omega) (fun j hj => mulokr (by omega) (by omega)) fun h₆ tk₆ u₆ k₆ => ?_
  have hn₆ := hn₅.keeps k₆
  have k₄₆ : Stay h₄ h₆ := k₅.trans k₆
  generalize hc1 : chF (i : Int) e = a1 at *
  generalize hc2 : chF ((i : Int) - e) dn = a2 at *
  refine mul_int ?_ (mulok (by omega) (by omega))
  refine wpAny_storeName_local rfl hn₆ fun h₇ hn₇ hs₇ => ?_
  refine wpAny_execs_cons ?_
  refine wpAny_AugAssign_Name ?_
  refine wpAny_loadName_local rfl rfl hn₇ (v := .int T0 tt) hm2 ?_
  obtain ⟨t1, ho⟩ := N.ones
  obtain ⟨t2, htw⟩ := N.twos
  obtain ⟨t3, hno⟩ := N.noughts
  have p1 := pow01 (a := n / 540 % 2) (by omega) (by omega) e
  have p2 := pow01 (a := n / 270 % 2) (by omega) (by omega) dn
  have hw : 0 ≤ a1 * a2 ∧ a1 * a2 ≤ 9 := by
    have x1 : a1 = 0 ∨ a1 = 1 ∨ a1 = 2 ∨ a1 = 3 := by omega
    rcases x1 with rfl | rfl | rfl | rfl <;> omega
  refine wpAny_BinOp ?_
  refine wpAny_BinOp ?_
  refine wpAny_BinOp ?_
  refine ev_local hn₇ rfl rfl rfl ?_
  refine wpAny_BinOp ?_
  refine ev_local hn₇ (v := .int (n / 540 % 2) t3) hno rfl rfl ?_
  refine ev_local hn₇ (v := .int e te) hm1 rfl rfl ?_
  refine pow_int_small (by omega) (by omega) (by omega) ?_
  rw [Int.toNat_natCast]
  refine mul_int ?_ (mulok (by omega) (by omega))
  refine wpAny_BinOp ?_
  refine ev_local hn₇ (v := .int (n / 270 % 2) t2) htw rfl rfl ?_
  refine ev_local hn₇ rfl rfl rfl ?_
  refine pow_int_small (by omega) (by omega) (by omega) ?_
  rw [Int.toNat_natCast]
  refine mul_int ?_ (mulokr (by omega) (by omega))
  refine wpAny_BinOp ?_
  refine ev_local hn₇ (v := .int (n / 15 % 3) t1) ho rfl rfl ?_
  refine wpAny_BinOp ?_
  refine ev_local hn₇ rfl rfl rfl ?_
  refine ev_local hn₇ rfl rfl rfl ?_
  refine sub_int ?_
  refine pow_int_small (by omega) (by omega) (by omega) ?_
  have hq1 : 0 ≤ a1 * a2 * (n / 540 % 2) ^ e ∧ a1 * a2 * (n / 540 % 2) ^ e ≤ 9 := by
    have x1 : (n / 540 % 2) ^ e = 0 ∨ (n / 540 % 2) ^ e = 1 := by omega
    rcases x1 with x1 | x1 <;> rw [x1] <;> omega
  have hq2 : 0 ≤ a1 * a2 * (n / 540 % 2) ^ e * (n / 270 % 2) ^ dn ∧ a1 * a2 * (n / 540 % 2) ^ e * (n / 270 % 2) ^ dn ≤ 9 := by
    have x1 : (n / 270 % 2) ^ dn = 0 ∨ (n / 270 % 2) ^ dn = 1 := by omega
    rcases x1 with x1 | x1 <;> rw [x1] <;> omega
  refine mul_int ?_ (mulok (Int.le_trans (by decide) hq2.1) (Int.le_trans hq2.2 (by decide)))
  refine iadd_int ?_
  refine wpAny_storeName_local rfl hn₇ fun h₈ hn₈ hs₈ => ?_
  refine wpAny_execs_nil ?_
  refine wpAny_execs_nil ?_
  exact h h₈ _ _ _ (fun b o hb e => hs₈.extBut b o hb (hs₇.extBut b o hb (k₄₆ _ _ (k₄ b o hb e)))) hn₈ ⟨N.num, N.ones, N.twos, N.noughts, N.due, N.size⟩ (by rw [hterm]; exact if_pos rfl)
end
end Mine
end
section
set_option maxRecDepth 100000
open PySem PySem.W PySem.Calls PyProof.Rows
namespace Mine
structure Nm0 (n : Int) (aD : Addr) (m : Str → Option Value) : Prop where
  num : ∃ t, m "n" = some (.int n t)
  ones : ∃ t, m "ones" = some (.int (n / 15 % 3) t)
  twos : ∃ t, m "twos" = some (.int (n / 270 % 2) t)
  noughts : ∃ t, m "noughts" = some (.int (n / 540 % 2) t)
  due : m "due" = some (.ref aD)
section
variable {pr : Program} {w : World} {mg mb : Str → Option Value} {g : Heap} {A : Around} {E : Value → Shared → Prop} {s : Shared} {env : Env}
set_option maxHeartbeats 4000000 in
theorem due_turn {L aD : Addr} {i : Nat} {n : Int} {m : Str → Option Value} {h₂ : Heap} {tk kD : Nat} {vs : Array Value} {Q : Flow → Shared → Prop} (G : Gf w mg mb g) (st : Stay g h₂) (hgL : g.get? L = none) (hroom : A.depth + 1 < recursionLimit) (hh : A.handled = none)
    (hns : h₂.Ns L m) (N : Nm n aD i m) (hi : i < 4) (hD : IsL h₂ aD vs kD) (hsz : vs.size ≤ 3) (hDL : aD ≠ L)
    (h : ∀ h₃ tk₃ m₃ u, (∀ b o, b ≠ L → b ≠ aD → h₂.get? b = some o → h₃.get? b = some o) → h₃.Ns L m₃ → Nm n aD i m₃ → (∃ n', IsL h₃ aD (vs.push (.int (totD n i (i + 1)) u)) n') → Q .next { s with heap := h₃, toks := tk₃ }) :
    wpAny (model pr w) A (execs fb13.1 (env118 w.params L)) Q E { s with heap := h₂, toks := tk } := by
  dsimp only [fb13]
  refine wpAny_execs_cons ?_
  refine asg_const ?_
  refine wpAny_Constant_int ?_
  refine wpAny_storeName_local rfl hns fun h₃ hn₃ hs₃ => ?_
  have st₃ : Stay g h₃ := fun b o e => hs₃.extBut b o (by rintro rfl; rw [hgL] at e; cases e) (st b o e)
  have N₃ : Nm n aD i (fun y => if y = "total" then some (.int 0 tk) else m y) := ⟨N.num, N.ones, N.twos, N.noughts, N.due, N.size⟩
  have hn₃ : h₃.Ns L (fun y => if y = "total" then some (.int 0 tk) else m y) := hn₃
  have hD₃ : IsL h₃ aD vs kD := hs₃.extBut _ _ hDL hD
  obtain ⟨ts, hts⟩ := N₃.size
  dsimp only
  refine wpAny_execs_cons ?_
  refine for_of (env := env118 w.params L) (seq := .ref h₃.objs.size) (n := i + 1) (el := fun i x => ∃ t', x = .int i t') (It := rngIt (i + 1)) hh rfl rfl (rng_nc _)
    (fun I e m h' => Nm n aD i m ∧ (∃ u, m "total" = some (.int (totD n i e) u)) ∧ (∀ b o, b ≠ L → h₃.get? b = some o → h'.get? b = some o) ∧ h₃.objs.size ≤ I) ?_ ?_ ?_ ?_
  · refine Call_Name1 ?_
    refine ev_builtin G st₃ (G.bare _ (by simp)) (v := .type "range") (by kernel_rfl) (by decide) rfl rfl rfl rfl ?_
    refine PySem.callWith_type1 ?_
    refine wpAny_BinOp ?_
    refine ev_local hn₃ hts rfl rfl ?_
    refine wpAny_Constant_int ?_
    refine add_int ?_
    rw [show ((i : Int) + 1) = ((i + 1 : Nat) : Int) from by omega]
    refine call_range_1 ?_
    refine ⟨rfl, ⟨_, iter_range _ (i + 1) _ _ _ (by omega), IsRange.new _ _ _ _ _ _ _⟩, ⟨_, _, rfl⟩, _, hn₃.push _, fun I h' hI k => ?_⟩
    have hI : (h₃.push _).objs.size ≤ I := hI
    rw [Heap.size_push] at hI
    exact ⟨N₃, ⟨_, if_pos rfl⟩, fun b o _ e => k _ _ (Heap.get?_push_of_some _ e), Nat.le_of_succ_le hI⟩
  · rintro I e m' h₄ h₅ ⟨N', t', k, hI⟩ k'
    exact ⟨N', t', fun b o hb e => k' b o hb (Nat.ne_of_lt (Nat.lt_of_lt_of_le (Heap.lt_size e) hI)) (k b o hb e), hI⟩
  · rintro I e m' v h₄ tk₄ Q' E' he ⟨te, rfl⟩ hIL hIs hnI ⟨N', ⟨u, hu⟩, k, hI⟩ hn₄ hq
    have st₄ : Stay g h₄ := fun b o e => k b o (by rintro rfl; rw [hgL] at e; cases e) (st₃ b o e)
    have key := due_body (pr := pr) (A := A) (E := E') (s := s) (tk := tk₄) (Q := Q') (m := fun y => if y = "empty" then some (.int e te) else m' y) G st₄ hgL hroom hh hn₄ ⟨N'.num, N'.ones, N'.twos, N'.noughts, N'.due, N'.size⟩ (if_pos rfl) hu hi (by omega)
      fun h₅ tk₅ m₅ u₅ k₅ hn₅ N₅ hu₅ => hq h₅ tk₅ m₅ (fun o e => k₅ _ _ hIL e) hn₅ ⟨N₅, ⟨u₅, hu₅⟩, fun b o hb e => k₅ b o hb (k b o hb e), hI⟩
    dsimp only [ib13, env118] at key
    exact key
  · rintro I m' h₄ tk₄ ⟨N', ⟨u, hu⟩, k, hI⟩ hn₄
    have st₄ : Stay g h₄ := fun b o e => k b o (by rintro rfl; rw [hgL] at e; cases e) (st₃ b o e)
    have hD₄ : IsL h₄ aD vs kD := k _ _ hDL hD₃
    refine wpAny_execs_cons ?_
    refine append_stmt (l := aD) rfl rfl rfl rfl rfl (fun Q' q => ev_local hn₄ N'.due rfl rfl q) ⟨_, _, hD₄⟩ ?_
    refine ev_local hn₄ hu rfl rfl ?_
    refine ⟨vs, kD, by omega, hD₄, fun h₅ hD₅ hs₅ => ?_⟩
    refine wpAny_execs_nil ?_
    exact h h₅ _ _ u (fun b o hb hbD e => hs₅.extBut b o hbD (k b o hb (hs₃.extBut b o hb e))) (hn₄.extBut hs₅.extBut (Ne.symm hDL)) N' hD₅
end
end Mine
end
section
set_option maxRecDepth 100000
open PySem PySem.W PySem.Calls PyProof.Rows
namespace Mine
section
variable {pr : Program} {w : World} {mg mb : Str → Option Value} {g : Heap} {A : Around} {E : Value → Shared → Prop} {s : Shared} {env : Env}
set_option maxHeartbeats 4000000 in
theorem due_loop {L aD : Addr} {n : Int} {m₀ : Str → Option Value} {h₅ : Heap} {tk : Nat} {Q : Value → Shared → Prop} (G : Gf w mg mb g) (st : Stay g h₅) (hgL : g.get? L = none) (hgD : g.get? aD = none) (hroom : A.depth + 1 < recursionLimit) (hh : A.handled = none)
    (hns : h₅.Ns L m₀) (N : Nm0 n aD m₀) (hD : IsL h₅ aD #[] 0) (hDL : aD ≠ L)
    (h : ∀ vs h' tk, (∀ b o, b ≠ L → b ≠ aD → h₅.get? b = some o → h'.get? b = some o) → h'.PlainList aD vs → Paired IntV (dueL n) vs.toList → Q (.ref aD) { s with heap := h', toks := tk }) :
    wpAny (model pr w) A (execs (bd13.1.drop 2) (env118 w.params L)) (fun f s' => Q (retOf f) s') E { s with heap := h₅, toks := tk } := by
  dsimp only [bd13, List.drop]
  refine wpAny_execs_cons ?_
  refine for_of (env := env118 w.params L) (seq := .ref h₅.objs.size) (n := 4) (el := fun i x => ∃ t', x = .int i t') (It := rngIt 4) hh rfl rfl (rng_nc 4)
    (fun I i m h' => Nm0 n aD m ∧ (∀ b o, b ≠ L → b ≠ aD → h₅.get? b = some o → h'.get? b = some o) ∧ (∃ vs k, IsL h' aD vs k ∧ Paired IntV ((List.range i).map fun i => totD n i (i + 1)) vs.toList) ∧ h₅.objs.size ≤ I) ?_ ?_ ?_ ?_
  · refine Call_Name1 ?_
    refine ev_builtin G st (G.bare _ (by simp)) (v := .type "range") (by kernel_rfl) (by decide) rfl rfl rfl rfl ?_
    refine PySem.callWith_type1 ?_
    refine wpAny_Constant_int ?_
    refine call_range_1 ?_
    refine ⟨rfl, ⟨_, iter_range _ 4 _ _ _ (by omega), IsRange.new _ _ _ _ _ _ _⟩, ⟨_, _, rfl⟩, m₀, hns.push _, fun I h' hI k => ?_⟩
    have hI : (h₅.push _).objs.size ≤ I := hI
    rw [Heap.size_push] at hI
    have k : Stay h₅ h' := fun b o e => k _ _ (Heap.get?_push_of_some _ e)
    exact ⟨N, fun b o _ _ e => k _ _ e, ⟨_, _, k _ _ hD, .nil⟩, Nat.le_of_succ_le hI⟩
  · rintro I i m h₁ h₂ ⟨N', k, ⟨vs, kk, hv, hp⟩, hI⟩ k'
    exact ⟨N', fun b o b1 b2 e => k' b o b1 (Nat.ne_of_lt (Nat.lt_of_lt_of_le (Heap.lt_size e) hI)) (k b o b1 b2 e), ⟨vs, kk, k' _ _ hDL (Nat.ne_of_lt (Nat.lt_of_lt_of_le (Heap.lt_size hD) hI)) hv, hp⟩, hI⟩
  · rintro I i m v h₂ tk₂ Q' E' hi ⟨tv, rfl⟩ hIL hIs hnI ⟨N', k, ⟨vs, kk, hv, hp⟩, hI⟩ hn₂ hq
    have hID : I ≠ aD := Nat.ne_of_gt (Nat.lt_of_lt_of_le (Heap.lt_size hD) hI)
    have st₂ : Stay g h₂ := fun b o e => by
      refine k b o ?_ ?_ (st b o e)
      · rintro rfl; rw [hgL] at e; cases e
      · rintro rfl; rw [hgD] at e; cases e
    have hvs : vs.size = i := map_range_len hp
    have key := due_turn (pr := pr) (A := A) (E := E') (s := s) (tk := tk₂) (Q := Q') (m := fun y => if y = "size" then some (.int i tv) else m y) G st₂ hgL hroom hh hn₂ ⟨N'.num, N'.ones, N'.twos, N'.noughts, N'.due, ⟨tv, if_pos rfl⟩⟩ hi hv (by omega) hDL
      fun h₃ tk₃ m₃ u k₃ hn₃ N₃ hD₃ => hq h₃ tk₃ m₃ (fun o e => k₃ _ _ hIL hID e) hn₃ ⟨⟨N₃.num, N₃.ones, N₃.twos, N₃.noughts, N₃.due⟩, fun b o b1 b2 e => k₃ b o b1 b2 (k b o b1 b2 e), ⟨_, _, hD₃.choose_spec, by
        rw [List.range_succ, List.map_append, Array.toList_push]
        exact hp.snoc ⟨_, rfl⟩⟩, hI⟩
    dsimp only [fb13, env118] at key
    exact key
  · rintro I m h₂ tk₂ ⟨N', k, ⟨vs, kk, hv, hp⟩, hI⟩ hn₂
    refine wpAny_execs_cons ?_
    refine wpAny_Return_some ?_
    refine ev_local hn₂ N'.due rfl rfl ?_
    exact h vs h₂ tk₂ k ⟨kk, hv⟩ hp
end
end Mine
end
section
set_option maxRecDepth 100000
open PySem PySem.W PySem.Calls PyProof.Rows
namespace Mine
theorem shop_len0 (n : Int) : (((shopL n).getD 0 []).length : Int) = n / 15 % 3 := by
  show ((((List.range (n / 15 % 3).toNat).map _).length : Nat) : Int) = _
  rw [List.length_map, List.length_range]
  omega
theorem shop_len1 (n : Int) : (((shopL n).getD 1 []).length : Int) = n / 270 % 2 := by
  show (((List.replicate (n / 270 % 2).toNat _).length : Nat) : Int) = _
  rw [List.length_replicate]
  omega
theorem shop_len2 (n : Int) : (((shopL n).getD 2 []).length : Int) = n / 540 % 2 := by
  show (((List.replicate (n / 540 % 2).toNat _).length : Nat) : Int) = _
  rw [List.length_replicate]
  omega
theorem shop_lens (n : Int) {k : Int} (h0 : 0 ≤ k) (h1 : k < 3) : (((shopL n).getD k.toNat []).length : Int) < 3 := by
  have h : k = 0 ∨ k = 1 ∨ k = 2 := by omega
  rcases h with rfl | rfl | rfl
  · have := shop_len0 n; show (((shopL n).getD 0 []).length : Int) < 3; omega
  · have := shop_len1 n; show (((shopL n).getD 1 []).length : Int) < 3; omega
  · have := shop_len2 n; show (((shopL n).getD 2 []).length : Int) < 3; omega
section
variable {pr : Program} {w : World} {mg mb : Str → Option Value} {g : Heap} {A : Around} {E : Value → Shared → Prop} {s : Shared} {env : Env}
/-- len(_law_shop(n)[k]) -/
theorem len_shop {L : Addr} {n k : Int} {kd : Nat} {t : Tok} {p1 p2 p3 p4 p5 p6 p7 : Pos} {m : Str → Option Value} {h₂ : Heap} {tk : Nat} {Q : Value → Shared → Prop} (G : Gf w mg mb g) (st : Stay g h₂) (hroom : A.depth < recursionLimit) (hh : A.handled = none)
    (hns : h₂.Ns L m) (hn : m "n" = some (.int n t)) (h0 : 0 ≤ k) (h1 : k < 3)
    (h : ∀ h₃ tk₃ u, Stay h₂ h₃ → Q (.int (((shopL n).getD k.toNat []).length : Nat) u) { s with heap := h₃, toks := tk₃ }) :
    wpAny (model pr w) A (eval (.Call (.Name "len" p1) [.Subscript (.Call (.Name "_law_shop" p2) [.Name "n" p3] [] p4) (.Constant (.int k) kd p5) p6] [] p7) (env118 w.params L)) Q E { s with heap := h₂, toks := tk } := by
  refine Call_Name1 ?_
  refine ev_builtin G st (G.bare _ (by simp)) (v := .builtin "len") (by kernel_rfl) (by decide) rfl rfl rfl rfl ?_
  refine callWith_builtin1 ?_
  refine Subscript_ ?_
  refine Call_ ?_
  refine ev_global G st (G.names ("_law_shop", 92) (by simp)) rfl rfl rfl ?_
  refine callWith_def (o := o92 w.params) rfl ?_
  refine args_cons ?_
  refine ev_local hns hn rfl rfl ?_
  refine args_nil ⟨st _ _ (G.objs (92, o92 w.params) (by simp [tabL])), ?_⟩
  refine shop_call G st hroom hh fun r vs h₃ tk₃ k₃ hl₃ hp₃ => ?_
  refine wpAny_Constant_int ?_
  obtain ⟨v, hv, a, ws, rfl, hla, hpa⟩ := pick hp₃ (k := k) h0 (by show k < 4; omega) []
  refine item_listR hl₃.isList h0 (by omega) hv ?_
  have e : ws.toArray.size = ((shopL n).getD k.toNat []).length := by
    have := hpa.length
    simpa using this.symm
  have := shop_lens n h0 h1
  refine call_len_list hla.isList (by rw [e]; omega) ?_
  rw [e]
  exact h _ _ _ k₃
set_option maxHeartbeats 4000000 in
theorem due_call {n : Int} {t : Tok} {Q : Value → Shared → Prop} (G : Gf w mg mb g) (st : Stay g s.heap) (hroom : A.depth + 2 < recursionLimit) (hh : A.handled = none)
    (h : ∀ r vs h' tk, Stay s.heap h' → s.heap.get? r = none → h'.PlainList r vs → Paired IntV (dueL n) vs.toList → Q (.ref r) { s with heap := h', toks := tk }) : wpAny (model pr w) A (call (.ref 118) [.int n t]) Q E s := by
  have ho := st _ _ (G.objs (118, o118 w.params) (by simp [tabL]))
  refine wpAny_call (codeAny_call_def (fd := fd118 w.params) (body := bd13.1) (binds := [("n", .int n t)]) (by omega) ho rfl (G.nolimit.keeps st) ⟨117, _, _, _, rfl, st _ _ (G.objs (117, o117 w.params) (by simp [tabL])), rfl, rfl⟩ (congrArg FuncBody.stmts bd13.2) (BindsTo.of_eq rfl) (nocell (by kernel_rfl)) (loc_of (by kernel_rfl)) (fun h₀ hns hk₀ => ?_) rfl rfl rfl)
  have st₀ : Stay g h₀ := st.trans hk₀
  dsimp only [bd13]
  refine wpAny_execs_cons ?_
  refine Assign_Tuple_swapped (names := ["ones", "twos", "noughts"]) (hs := ?_) (hw := ?_) ?_
  rotate_left
  · rfl
  · rfl
  refine wpAny_Tuple ?_
  refine args_cons ?_
  refine len_shop G st₀ (by show A.depth + 1 < _; omega) hh hns rfl (by decide) (by decide) fun h₁ tk₁ u₁ k₁ => ?_
  rw [show ((((shopL n).getD (Int.toNat 0) []).length : Nat) : Int) = n / 15 % 3 from shop_len0 n]
  refine args_cons ?_
  refine len_shop G (st₀.trans k₁) (by show A.depth + 1 < _; omega) hh (hns.keeps k₁) rfl (by decide) (by decide) fun h₂ tk₂ u₂ k₂ => ?_
  rw [show ((((shopL n).getD (Int.toNat 1) []).length : Nat) : Int) = n / 270 % 2 from shop_len1 n]
  refine args_cons ?_
  refine len_shop G ((st₀.trans k₁).trans k₂) (by show A.depth + 1 < _; omega) hh ((hns.keeps k₁).keeps k₂) rfl (by decide) (by decide) fun h₃ tk₃ u₃ k₃ => ?_
  rw [show ((((shopL n).getD (Int.toNat 2) []).length : Nat) : Int) = n / 540 % 2 from shop_len2 n]
  refine args_nil ⟨by simp [sizeLine], ?_⟩
  have k₀₃ : Stay h₀ h₃ := (k₁.trans k₂).trans k₃
  clear k₁ k₂ k₃
  dsimp only
  generalize hT : ({ cls := .type "tuple", data := .seq [Value.int (n / 15 % 3) u₁, Value.int (n / 270 % 2) u₂, Value.int (n / 540 % 2) u₃].toArray } : Obj) = ot
  have ht : IsTup (h₃.push ot) h₃.objs.size #[Value.int (n / 15 % 3) u₁, Value.int (n / 270 % 2) u₂, Value.int (n / 540 % 2) u₃] := ⟨_, Heap.get?_push_size _ (by rw [← hT]; rfl), by rw [← hT], by rw [← hT]; exact ⟨_, rfl⟩⟩
  refine unpackItems_tuple (items := #[Value.int (n / 15 % 3) u₁, Value.int (n / 270 % 2) u₂, Value.int (n / 540 % 2) u₃]) hh ht fun h₄ he₄ => ?_
  have k₀₄ : Stay h₀ h₄ := fun b o e => by
    have e := Heap.get?_push_of_some ot (k₀₃ _ _ e)
    exact he₄ b o (Nat.ne_of_lt (Heap.lt_size e)) e
  have hns₄ := hns.keeps k₀₄
  clear ht he₄ hT k₀₃
  refine assignInOrder_cons ?_
  refine bindName_ ?_
  refine wpAny_storeName_local rfl hns₄ fun h₅ hn₅ hs₅ => ?_
  refine assignInOrder_cons ?_
  refine bindName_ ?_
  refine wpAny_storeName_local rfl hn₅ fun h₆ hn₆ hs₆ => ?_
  refine assignInOrder_cons ?_
  refine bindName_ ?_
  refine wpAny_storeName_local rfl hn₆ fun h₇ hn₇ hs₇ => ?_
  refine assignInOrder_nil ?_
  have keep₇ : Stay s.heap h₇ := fun b o e => by
    have hb := Nat.ne_of_lt (Heap.lt_size e)
    exact hs₇.extBut b o hb (hs₆.extBut b o hb (hs₅.extBut b o hb (k₀₄ _ _ (hk₀ _ _ e))))
  clear hs₅ hs₆ hs₇ hn₅ hn₆ hns₄ k₀₄
  dsimp only at hn₇ ⊢
  refine wpAny_execs_cons ?_
  refine asg_list ?_
  refine ev_listK ?_
  refine args_nil ⟨by simp, fun aD h₈ haD hlD k₈ => ?_⟩
  have fD : h₇.get? aD = none := fresh_of haD
  have hDL : aD ≠ s.heap.objs.size := by
    obtain ⟨_, _, _, e, _⟩ := hn₇
    exact Ne.symm (ne_fresh fD e)
  refine wpAny_storeName_local rfl (hn₇.keeps k₈) fun h₉ hn₉ hs₉ => ?_
  have keep₉ : Stay s.heap h₉ := fun b o e => hs₉.extBut b o (Nat.ne_of_lt (Heap.lt_size e)) (k₈ _ _ (keep₇ _ _ e))
  have frD : s.heap.get? aD = none := keep₇.fresh fD
  dsimp only at hn₉ ⊢
  have key := due_loop (pr := pr) (A := A.deeper (callEnv (fd118 w.params) s.heap.objs.size 118)) (E := fun e s' => wpAny (model pr w) (A.deeper (callEnv (fd118 w.params) s.heap.objs.size 118)) (leaving (callEnv (fd118 w.params) s.heap.objs.size 118) e) (fun _ s'' => E e s'') (fun e' s'' => E e' s'') s') (s := s) (tk := tk₃ + 1 + 1 + 1 + 1) (Q := Q) G (st.trans keep₉) (st.fresh (fresh_of (Nat.le_refl _))) (st.fresh frD) (by show A.depth + 1 + 1 < _; omega) hh
    hn₉ ⟨⟨t, rfl⟩, ⟨u₁, rfl⟩, ⟨u₂, rfl⟩, ⟨u₃, rfl⟩, if_pos rfl⟩ (hs₉.extBut _ _ hDL hlD) hDL
    fun vs h' tk k hl hp => h aD vs h' tk (fun b o e => k b o (Nat.ne_of_lt (Heap.lt_size e)) (ne_fresh frD e) (keep₉ _ _ e)) frD hl hp
  dsimp only [bd13, List.drop, env118] at key
  exact key
end
end Mine
end
section
set_option maxRecDepth 100000
open PySem PySem.W PySem.Calls PyProof.Rows PySem.SeqAt
namespace Mine
def bd14 : { b : List Stmt // defBody 14 = b } := ⟨_, by conv => lhs; whnf⟩
def sc14 : { b : Scope // defScope 14 = b } := ⟨_, by conv => lhs; whnf⟩
/-- a made row: a list of ints that lies at none of these places -/
def RowX (X : List Addr) (h : Heap) (row : List Int) (v : Value) : Prop := ∃ a its, v = .ref a ∧ a ∉ X ∧ a ≠ 94 ∧ a ≠ 101 ∧ h.PlainList a its ∧ Paired IntV row its.toList
theorem RowX.to {X X' : List Addr} {h h' : Heap} {row : List Int} {v : Value} (x : RowX X h row v) (hX : ∀ a its, h.PlainList a its → a ∉ X → a ∉ X') (k : ∀ b o, b ∉ X → b ≠ 94 → b ≠ 101 → h.get? b = some o → h'.get? b = some o) : RowX X' h' row v :=
  let ⟨a, its, e, n1, n2, n3, l, p⟩ := x; ⟨a, its, e, hX a its l n1, n2, n3, l.at fun o e => k a o n1 n2 n3 e, p⟩
theorem ints_paired {vs : List Value} {ns : List Int} (h : IntsAre vs ns) : Paired IntV ns vs := by
  induction h with
  | nil => exact .nil
  | cons n t _ ih => exact .cons ⟨t, rfl⟩ ih
theorem paired_app {α : Type} {F : α → Value → Prop} {l₁ l₂ : List α} {v₁ v₂ : List Value} (x : Paired F l₁ v₁) (y : Paired F l₂ v₂) : Paired F (l₁ ++ l₂) (v₁ ++ v₂) := by
  induction x with
  | nil => exact y
  | cons a _ ih => exact .cons a ih
theorem paired_at {α : Type} {F : α → Value → Prop} {l : List α} {vs : Array Value} (p : Paired F l vs.toList) {j : Nat} (hj : j < vs.size) : ∃ x, l[j]? = some x ∧ F x vs[j] :=
  paired_get p (i := j) (v := vs[j]) (by rw [Array.getElem?_toList, Array.getElem?_eq_getElem hj])
theorem paired_size {α : Type} {F : α → Value → Prop} {l : List α} {vs : Array Value} (p : Paired F l vs.toList) : vs.size = l.length := by
  have := p.length
  simpa using this.symm
theorem nx3 {h : Heap} {C D I : Addr} (hC : h.objs.size ≤ C) (hD : h.objs.size ≤ D) (hI : h.objs.size ≤ I) : ∀ a ∈ [C, D, I], NoCode h a ∨ h.objs.size ≤ a := by
  intro a ha
  simp only [List.mem_cons, List.not_mem_nil, or_false] at ha
  rcases ha with rfl | rfl | rfl
  · exact .inr hC
  · exact .inr hD
  · exact .inr hI
theorem all_true (n : Nat) : (List.range n).all (fun _ => true) = true := by simp
theorem eq_rows {X X' : List Addr} {A : Around} {s : Shared} {l b : Addr} {vs ws : Array Value} {rows : List (List Int)} (hl : s.heap.IsList l vs) (hb : s.heap.IsList b ws) (pv : Paired (RowX X s.heap) rows vs.toList) (pw : Paired (RowX X' s.heap) rows ws.toList) (hu : A.units + 2 < cLine)
    {prog : Program} {w : World} {E Q : Value → Shared → Prop} (h : Q (.bool true) s) : wpAny (model prog w) A (compareOp .Eq (.ref l) (.ref b)) Q E s := by
  refine eq_listAt (e := fun _ => true) hl hb (by rw [paired_size pv, paired_size pw]) (by omega) (fun j h1 h2 => ?_) (by rw [all_true]; exact h)
  obtain ⟨r1, e1, a1, i1, v1, _, _, _, l1, p1⟩ := paired_at pv h1
  obtain ⟨r2, e2, a2, i2, v2, _, _, _, l2, p2⟩ := paired_at pw h2
  rw [e1] at e2; cases e2
  rw [v1, v2]
  by_cases hne : a1 = a2
  · subst hne
    exact EqAt.same _
  · refine EqAt.of_refs hne ?_
    rw [← all_true i1.size]
    refine RcAt.lists l1.isList l2.isList (by rw [paired_size p1, paired_size p2]) (by show A.units + 1 < cLine; omega) fun j h1 h2 => ?_
    obtain ⟨n1, e1, t1, v1⟩ := paired_at p1 h1
    obtain ⟨n2, e2, t2, v2⟩ := paired_at p2 h2
    rw [e1] at e2; cases e2
    rw [v1, v2]
    have := EqAt.int_int (A := A.in1.in1) (s := s) n1 t1 n1 t2
    rw [beq_self_eq_true] at this
    exact this
section
variable {pr : Program} {w : World} {mg mb : Str → Option Value} {g : Heap} {A : Around} {E : Value → Shared → Prop} {s : Shared} {env : Env}
set_option maxHeartbeats 4000000 in
theorem law_body {fa aS : Addr} {cd : Value} {L : Addr} {vs : List Value} {ns : List Int} {h₁ : Heap} {tk : Nat} {m : Str → Option Value} {Q : Value → Shared → Prop} (G : Gt w mg mb g) (st : Stay g h₁) (hroom : A.depth + 7 < recursionLimit) (hh : A.handled = none) (hu : A.units + 5 < cLine)
    (hns : h₁.Ns L m) (hm : m "script" = some (.ref aS)) (hS : h₁.IsList aS vs.toArray) (hI : IntsAre vs ns) (hlen : ns.length ≤ 63) (hgL : g.get? L = none)
    (I94 : TabI h₁ 94 33 18 prepQ) (I101 : TabI h₁ 101 39 23 lamQ) (plain : ∀ n, toldL n = dueL n)
    (h : ∀ h' tk, (∀ b o, b ≠ 94 → b ≠ 101 → b ≠ L → h₁.get? b = some o → h'.get? b = some o) → TabI h' 94 33 18 prepQ → TabI h' 101 39 23 lamQ → Q (.bool true) { s with heap := h', toks := tk }) :
    wpAny (model pr w) A (execs bd14.1 (envOf "law" sc14.1 L fa cd)) (fun f s' => Q (retOf f) s') E { s with heap := h₁, toks := tk } := by
  have hvs : vs.length = ns.length := by have := (ints_paired hI).length; omega
  dsimp only [bd14]
  refine wpAny_execs_cons ?_
  refine asg_bin ?_
  refine wpAny_BinOp ?_
  refine ev_intlist (ks := [987, 385]) (by repeat constructor) (by decide) fun a0 v0 h₂ tk₂ ha0 hl0 hp0 k₂ => ?_
  refine wpAny_Subscript_list_slice ?_
  refine ev_local (hns.keeps k₂) hm rfl rfl ?_
  refine wpAny_pure ?_
  rw [evalPart_some]
  refine wpAny_Constant_int ?_
  refine ⟨aS, vs.toArray, none, some 2, rfl, hS.at fun o e => k₂ _ _ e, by rw [List.size_toArray, hvs]; exact Nat.le_trans hlen (by decide), .none, .int _ _, ?_⟩
  have hsl : IntsAre (slicePick vs.toArray none (some 2) none).toList (ns.take 2) := kmk_upto (y := 2) hI (by decide)
  generalize slicePick vs.toArray none (some 2) none = sl at hsl
  have hnums : Paired IntV ([987, 385] ++ ns.take 2) (v0.toArray ++ sl).toList := by
    rw [Array.toList_append]
    exact paired_app hp0 (ints_paired hsl)
  have hsz : (v0.toArray ++ sl).size ≤ 4 := by
    rw [paired_size hnums, List.length_append]
    have : (ns.take 2).length ≤ 2 := List.length_take_le 2 ns
    show 2 + _ ≤ 4
    omega
  refine P.add_list (items := v0.toArray) (n := 0) (items2 := sl) (n2 := 0) ?_ ?_ ?_ ?_
  · exact Heap.get?_push_of_some _ (Heap.get?_push_of_some _ hl0)
  · have e := IsL.new (h₂.push { cls := .type "slice", data := .fields #[.none, .int 2 tk₂, .none] }) sl
    rw [Heap.size_push] at e
    exact e
  rotate_left
  · rw [Array.size_append] at hsz
    exact Nat.le_trans hsz (by decide)
  generalize hH : (h₂.push _).push _ = h₃
  have k₃ : Stay h₂ h₃ := fun b o e => by rw [← hH]; exact Heap.get?_push_of_some _ (Heap.get?_push_of_some _ e)
  clear hH
  generalize hNu : v0.toArray ++ sl = nums at hnums hsz ⊢
  have k₁₃ : Stay h₁ (h₃.push { cls := .type "list", data := .seq nums }) := fun b o e => Heap.get?_push_of_some _ (k₃ _ _ (k₂ _ _ e))
  have hlN : IsL (h₃.push { cls := .type "list", data := .seq nums }) h₃.objs.size nums 0 := IsL.new _ _
  have fN : h₁.get? h₃.objs.size = none := (k₂.trans k₃).fresh (fresh_of (Nat.le_refl _))
  generalize hN : h₃.objs.size = aN at hlN fN ⊢
  generalize hH : h₃.push { cls := .type "list", data := .seq nums } = h₄ at k₁₃ hlN ⊢
  have hNL : aN ≠ L := by
    obtain ⟨_, _, _, e, _⟩ := hns
    exact Ne.symm (ne_fresh fN e)
  dsimp only
  refine wpAny_storeName_local rfl (hns.keeps k₁₃) fun h₅ hn₅ hs₅ => ?_
  have hlN₅ : IsL h₅ aN nums 0 := hs₅.extBut _ _ hNL hlN
  have k₁₅ : ∀ b o, b ≠ L → h₁.get? b = some o → h₅.get? b = some o := fun b o hb e => hs₅.extBut b o hb (k₁₃ _ _ e)
  have st₅ : Stay g h₅ := fun b o e => k₁₅ b o (by rintro rfl; rw [hgL] at e; cases e) (st b o e)
  have hL9 : L ≠ 94 ∧ L ≠ 101 := by
    obtain ⟨_, _, _, e, d, _⟩ := hns
    constructor
    · rintro rfl
      rcases I94 with x | ⟨_, x, _⟩ <;> rw [e] at x <;> cases x <;> cases d
    · rintro rfl
      rcases I101 with x | ⟨_, x, _⟩ <;> rw [e] at x <;> cases x <;> cases d
  have hN9 : aN ≠ 94 ∧ aN ≠ 101 := by
    constructor
    · rintro rfl
      rcases I94 with x | ⟨_, x, _⟩ <;> rw [fN] at x <;> cases x
    · rintro rfl
      rcases I101 with x | ⟨_, x, _⟩ <;> rw [fN] at x <;> cases x
  have x94 : TabI h₅ 94 33 18 prepQ := I94.butNs hns k₁₅ (Ne.symm hL9.1)
  have x101 : TabI h₅ 101 39 23 lamQ := I101.butNs hns k₁₅ (Ne.symm hL9.2)
  have hbig : 119 ≤ h₅.objs.size := G.toGf.big st₅
  clear hs₅
  dsimp only
  refine wpAny_execs_cons ?_
  refine wpAny_Return_some ?_
  refine wpAny_Compare1 ?_
  refine comp_of (walk_list aN nums) (lst_it_nc aN) hh (Nat.le_trans hsz (by decide)) (cl := []) rfl (nocell (by kernel_rfl)) rfl (names_ok (by kernel_rfl)) rfl
    (fun C D I j ys h' => Stay94 h₅ h' ∧ TabX [C, D, I] h' 94 33 18 prepQ ∧ TabX [C, D, I] h' 101 39 23 lamQ ∧ h₅.objs.size ≤ C ∧ h₅.objs.size ≤ D ∧ h₅.objs.size ≤ I ∧ Paired (RowX [C, D, I] h') ((([987, 385] ++ ns.take 2).take j).map toldL) ys) ?_ ?_ ?_ ?_ ?_
  · refine ev_local hn₅ (if_pos rfl) rfl rfl ?_
    refine ⟨rfl, hlN₅.isList, ⟨_, _, rfl⟩, fun C D I h' hC hD hI k => ⟨fun b o _ _ e => k _ _ e, ?_, ?_, hC, hD, hI, .nil⟩⟩
    · exact (x94.tabX (nx3 hC hD hI)).keeps (notin3 (Nat.lt_of_lt_of_le (by decide) hbig) hC hD hI) fun b o _ e => k _ _ e
    · exact (x101.tabX (nx3 hC hD hI)).keeps (notin3 (Nat.lt_of_lt_of_le (by decide) hbig) hC hD hI) fun b o _ e => k _ _ e
  · rintro C D I j ys h₆ h₇ ⟨k, y94, y101, hC, hD, hI, hq⟩ k'
    have kX : ∀ b o, b ∉ [C, D, I] → h₆.get? b = some o → h₇.get? b = some o := by
      intro b o hb e
      simp only [List.mem_cons, List.not_mem_nil, or_false, not_or] at hb
      exact k' b o hb.1 hb.2.1 hb.2.2 e
    refine ⟨fun b o b1 b2 e => ?_, y94.keeps (notin3 (Nat.lt_of_lt_of_le (by decide) hbig) hC hD hI) kX, y101.keeps (notin3 (Nat.lt_of_lt_of_le (by decide) hbig) hC hD hI) kX, hC, hD, hI, paired_mono (fun r v x => x.to (fun _ _ _ q => q) fun b o hb _ _ e => kX b o hb e) hq⟩
    exact kX b o (notin3 (Heap.lt_size e) hC hD hI) (k b o b1 b2 e)
  · rintro C D I j ys h₆ ⟨k, _⟩
    exact (show h₆.IsList aN nums from IsL.isList (k _ _ hN9.1 hN9.2 hlN₅))
  · rintro C D I j v ys h₆ tk₆ m₆ E' hj hv at3 ⟨k, y94, y101, hC, hD, hI, hq⟩ hns₆ hm₆
    obtain ⟨n, hnj, t, rfl⟩ := paired_get hnums (i := j) (v := v) (by rw [Array.getElem?_toList]; exact hv)
    have st₆ : Stay g h₆ := G.st94 st₅ k
    have n94 := notin3 (P := 94) (Nat.lt_of_lt_of_le (by decide) hbig) hC hD hI
    have n101 := notin3 (P := 101) (Nat.lt_of_lt_of_le (by decide) hbig) hC hD hI
    refine wpAny_tests_nil ?_
    rw [if_pos rfl]
    refine Call_ ?_
    refine ev_global G.toGf st₆ (G.names ("_law_told", 104) (by simp)) rfl rfl rfl ?_
    refine callWith_def (o := o104 w.params) rfl ?_
    refine args_cons ?_
    refine ev_local hns₆ hm₆ rfl rfl ?_
    refine args_nil ⟨st₆ _ _ (G.objs (104, o104 w.params) (by simp [tabL])), ?_⟩
    refine told_call G st₆ (by omega) hh y94.tabI y101.tabI fun r rs h₇ tk₇ k₇ z94 z101 fr hr hpr => ?_
    simp only [List.mem_cons, List.not_mem_nil, or_false, not_or] at n94 n101
    have kF : ∀ b o, b = C ∨ b = D ∨ b = I → h₆.get? b = some o → h₇.get? b = some o := by
      rintro b o (rfl | rfl | rfl) e
      · exact k₇ _ _ (Ne.symm n94.1) (Ne.symm n101.1) e
      · exact k₇ _ _ (Ne.symm n94.2.1) (Ne.symm n101.2.1) e
      · exact k₇ _ _ (Ne.symm n94.2.2) (Ne.symm n101.2.2) e
    have nx : ∀ a ∈ [C, D, I], NoCode h₇ a ∨ h₇.objs.size ≤ a := by
      intro a ha
      simp only [List.mem_cons, List.not_mem_nil, or_false] at ha
      rcases ha with rfl | rfl | rfl
      · exact .inl (at3.nc.keeps at3.sc fun o e => kF _ _ (.inl rfl) e)
      · exact .inl (at3.nd.keeps at3.sd fun o e => kF _ _ (.inr (.inl rfl)) e)
      · exact .inl (at3.ni.keeps at3.si fun o e => kF _ _ (.inr (.inr rfl)) e)
    have rX : ∀ a ∈ [C, D, I], r ≠ a := by
      intro a ha
      simp only [List.mem_cons, List.not_mem_nil, or_false] at ha
      rcases ha with rfl | rfl | rfl
      · obtain ⟨o, e⟩ := Option.isSome_iff_exists.mp at3.sc
        exact Ne.symm (ne_fresh fr e)
      · obtain ⟨o, e⟩ := Option.isSome_iff_exists.mp at3.sd
        exact Ne.symm (ne_fresh fr e)
      · obtain ⟨o, e⟩ := Option.isSome_iff_exists.mp at3.si
        exact Ne.symm (ne_fresh fr e)
    have r94 : r ≠ 94 := by
      rintro rfl
      rcases y94 with x | ⟨_, x, _⟩ <;> rw [fr] at x <;> cases x
    have r101 : r ≠ 101 := by
      rintro rfl
      rcases y101 with x | ⟨_, x, _⟩ <;> rw [fr] at x <;> cases x
    refine ⟨h₇, tk₇, rfl, kF, fun b o b1 b2 e => k₇ _ _ b1 b2 (k b o b1 b2 e), z94.tabX nx, z101.tabX nx, hC, hD, hI, ?_⟩
    rw [List.take_add_one, hnj, List.map_append]
    exact (paired_mono (fun row v x => x.to (fun _ _ _ q => q) fun b o _ b1 b2 e => k₇ b o b1 b2 e) hq).snoc ⟨r, rs, rfl, fun q => rX r q rfl, r94, r101, hr, hpr⟩
  · rintro C D I h₆ tk₆ ys hD₆ ⟨k, y94, y101, hC, hD, hI, hq⟩
    have hfull : ([987, 385] ++ ns.take 2).take nums.size = [987, 385] ++ ns.take 2 := by rw [paired_size hnums, List.take_length]
    rw [hfull] at hq
    have hn₆ := hn₅.at' fun o e => k _ _ hL9.1 hL9.2 e
    have hlN₆ : IsL h₆ aN nums 0 := k _ _ hN9.1 hN9.2 hlN₅
    have st₆ : Stay g h₆ := G.st94 st₅ k
    have hbig₆ : 119 ≤ h₆.objs.size := G.toGf.big st₆
    dsimp only
    refine comp_of (walk_list aN nums) (lst_it_nc aN) hh (Nat.le_trans hsz (by decide)) (cl := []) rfl (nocell (by kernel_rfl)) rfl (names_ok (by kernel_rfl)) rfl
      (fun C D I j ys h' => Stay h₆ h' ∧ h₆.objs.size ≤ C ∧ h₆.objs.size ≤ D ∧ h₆.objs.size ≤ I ∧ Paired (RowX [C, D, I] h') ((([987, 385] ++ ns.take 2).take j).map dueL) ys) ?_ ?_ ?_ ?_ ?_
    · refine ev_local hn₆ (if_pos rfl) rfl rfl ?_
      exact ⟨rfl, hlN₆.isList, ⟨_, _, rfl⟩, fun C D I h' hC hD hI k => ⟨k, hC, hD, hI, .nil⟩⟩
    · rintro C D I j ys h₇ h₈ ⟨k, hC, hD, hI, hq⟩ k'
      refine ⟨k.stay3 k' hC hD hI, hC, hD, hI, paired_mono (fun r v x => x.to (fun _ _ _ q => q) fun b o hb _ _ e => ?_) hq⟩
      simp only [List.mem_cons, List.not_mem_nil, or_false, not_or] at hb
      exact k' b o hb.1 hb.2.1 hb.2.2 e
    · rintro C D I j ys h₇ ⟨k, _⟩
      exact (show h₇.IsList aN nums from IsL.isList (k _ _ hlN₆))
    · rintro C D I j v ys h₇ tk₇ m₇ E' hj hv at3 ⟨k, hC, hD, hI, hq⟩ hns₇ hm₇
      obtain ⟨n, hnj, t, rfl⟩ := paired_get hnums (i := j) (v := v) (by rw [Array.getElem?_toList]; exact hv)
      have st₇ : Stay g h₇ := st₆.trans k
      refine wpAny_tests_nil ?_
      rw [if_pos rfl]
      refine Call_ ?_
      refine ev_global G.toGf st₇ (G.names ("_law_due", 118) (by simp)) rfl rfl rfl ?_
      refine callWith_def (o := o118 w.params) rfl ?_
      refine args_cons ?_
      refine ev_local hns₇ hm₇ rfl rfl ?_
      refine args_nil ⟨st₇ _ _ (G.objs (118, o118 w.params) (by simp [tabL])), ?_⟩
      refine due_call G.toGf st₇ (by omega) hh fun r rs h₈ tk₈ k₈ fr hr hpr => ?_
      have rX : ∀ a ∈ [C, D, I], r ≠ a := by
        intro a ha
        simp only [List.mem_cons, List.not_mem_nil, or_false] at ha
        rcases ha with rfl | rfl | rfl
        · obtain ⟨o, e⟩ := Option.isSome_iff_exists.mp at3.sc
          exact Ne.symm (ne_fresh fr e)
        · obtain ⟨o, e⟩ := Option.isSome_iff_exists.mp at3.sd
          exact Ne.symm (ne_fresh fr e)
        · obtain ⟨o, e⟩ := Option.isSome_iff_exists.mp at3.si
          exact Ne.symm (ne_fresh fr e)
      have r94 : r ≠ 94 := by
        rintro rfl
        rcases y94 with x | ⟨_, x, _⟩ <;> rw [k.fresh fr] at x <;> cases x
      have r101 : r ≠ 101 := by
        rintro rfl
        rcases y101 with x | ⟨_, x, _⟩ <;> rw [k.fresh fr] at x <;> cases x
      refine ⟨h₈, tk₈, rfl, k₈.frame3, k.trans k₈, hC, hD, hI, ?_⟩
      rw [List.take_add_one, hnj, List.map_append]
      exact (paired_mono (fun row v x => x.to (fun _ _ _ q => q) fun b o _ b1 b2 e => k₈ _ _ e) hq).snoc ⟨r, rs, rfl, fun q => rX r q rfl, r94, r101, hr, hpr⟩
    · rintro C' D' I' h₇ tk₇ zs hD₇ ⟨k', hC', hD', hI', hz⟩
      rw [hfull] at hz
      have e : ([987, 385] ++ ns.take 2).map toldL = ([987, 385] ++ ns.take 2).map dueL := List.map_congr_left fun n _ => plain n
      rw [e] at hq
      refine eq_rows (hD₆.at fun o e => k' _ _ e).isList hD₇.isList (paired_mono (fun r v x => x.to (fun _ _ _ q => q) fun b o _ _ _ e => k' _ _ e) hq) hz (by omega) ?_
      refine h _ _ (fun b o b1 b2 b3 e => k' _ _ (k b o b1 b2 (k₁₅ b o b3 e))) (y94.tabI.keeps k') (y101.tabI.keeps k')
end
end Mine
end
section
set_option maxRecDepth 100000
open PySem PySem.W PySem.Calls PyProof.Rows
namespace Mine
def piece (c : Nat) : List Nat := if b1has c then [] else (b3map c).cps.toList
theorem prep_flat (xs : List Nat) : (prepL xs).cps.toList = xs.flatMap piece := by
  have key : ∀ (xs : List Nat) (a : Str), (xs.foldl step1 a).cps.toList = a.cps.toList ++ xs.flatMap piece := by
    intro xs
    induction xs with
    | nil => intro a; simp
    | cons c xs ih =>
      intro a
      show (xs.foldl step1 (step1 a c)).cps.toList = _
      rw [ih, List.flatMap_cons, ← List.append_assoc]
      congr 1
      unfold step1 piece
      split
      · simp
      · show (a.cps ++ (b3map c).cps).toList = _
        simp
  have := key xs ⟨#[]⟩
  simpa [prepL] using this
theorem str_ext {a b : Str} (q : a.cps.toList = b.cps.toList) : a = b := by
  obtain ⟨⟨a⟩⟩ := a
  obtain ⟨⟨b⟩⟩ := b
  have q : a = b := q
  rw [q]
def wt (x c : Nat) : Option Nat := if (piece c).all (fun y => y == x) then some (piece c).length else none
def sumW : List (Option Nat) → Option Nat
  | [] => some 0
  | none :: _ => none
  | some k :: r => (sumW r).map (k + ·)
theorem sum_iff (x : Nat) : ∀ (xs : List Nat) (k : Nat), sumW (xs.map (wt x)) = some k ↔ (xs.flatMap piece).length = k ∧ ∀ b ∈ xs.flatMap piece, b = x
  | [], k => by simp [sumW]
  | c :: xs, k => by
    rw [List.map_cons, List.flatMap_cons, List.length_append]
    unfold wt
    by_cases h : (piece c).all (fun y => y == x) = true
    · rw [if_pos h]
      have ha : ∀ b ∈ piece c, b = x := fun b hb => beq_iff_eq.mp (List.all_eq_true.mp h b hb)
      show ((sumW (xs.map (wt x))).map ((piece c).length + ·)) = some k ↔ _
      rw [Option.map_eq_some_iff]
      constructor
      · rintro ⟨j, hj, rfl⟩
        obtain ⟨h1, h2⟩ := (sum_iff x xs j).mp hj
        refine ⟨by rw [h1], fun b hb => ?_⟩
        rcases List.mem_append.mp hb with hb | hb
        · exact ha b hb
        · exact h2 b hb
      · rintro ⟨h1, h2⟩
        exact ⟨_, (sum_iff x xs _).mpr ⟨rfl, fun b hb => h2 b (List.mem_append_right _ hb)⟩, h1⟩
    · rw [if_neg h]
      constructor
      · intro q; cases q
      · rintro ⟨_, h2⟩
        refine absurd (List.all_eq_true.mpr fun b hb => beq_iff_eq.mpr (h2 b (List.mem_append_left _ hb))) h
def textsG {α : Type} (sg : List α) : Nat → List (List α)
  | 0 => [[]]
  | i + 1 => (textsG sg i).flatMap fun x => sg.map fun y => x ++ [y]
theorem texts_map {β : Type} (f : Nat → β) (sg : List Nat) : ∀ i, (textsL sg i).map (List.map f) = textsG (sg.map f) i
  | 0 => rfl
  | i + 1 => by
    show ((textsL sg i).flatMap fun x => sg.map fun y => x ++ [y]).map (List.map f) = (textsG (sg.map f) i).flatMap fun x => (sg.map f).map fun y => x ++ [y]
    rw [← texts_map f sg i, List.map_flatMap, List.flatMap_map]
    congr 1
    funext x
    rw [List.map_map, List.map_map]
    congr 1
    funext y
    simp
def letter (n : Int) : Nat := [102, 115, 107].getD (n % 3).toNat 0
theorem run_list (n : Int) : (runS n).cps.toList = List.replicate (n / 3 % 5).toNat (letter n) := by
  unfold runS
  show (Txt.mul ⟨#[letter n]⟩ (n / 3 % 5)).cps.toList = _
  generalize letter n = x
  have h : n / 3 % 5 = 0 ∨ n / 3 % 5 = 1 ∨ n / 3 % 5 = 2 ∨ n / 3 % 5 = 3 ∨ n / 3 % 5 = 4 := by omega
  rcases h with h | h | h | h | h <;> rw [h] <;> rfl
theorem prep_run (n : Int) (xs : List Nat) : (prepL xs == runS n) = (sumW (xs.map (wt (letter n))) == some (n / 3 % 5).toNat) := by
  rw [Bool.eq_iff_iff, beq_iff_eq, beq_iff_eq, sum_iff]
  have e : prepL xs = runS n ↔ xs.flatMap piece = List.replicate (n / 3 % 5).toNat (letter n) := by
    rw [← prep_flat, ← run_list]
    constructor
    · intro q; rw [q]
    · intro q
      exact str_ext q
  rw [e, List.eq_replicate_iff]
/-- the weights of the shop's signs -/
def wts (o t u : Nat) : List (Option Nat) := List.replicate o (some 1) ++ List.replicate t (some 2) ++ List.replicate u (some 0) ++ [none]
theorem singles_wt (n : Int) : ∀ c ∈ singlesOf n, wt (letter n) c.toNat = some 1 := by
  have f0 : [102, 70, 8497, 119813, 119865, 120125].all (fun c => wt 102 c == some 1) = true := by kernel_rfl
  have f1 : [115, 83, 383, 119826, 119878, 120138].all (fun c => wt 115 c == some 1) = true := by kernel_rfl
  have f2 : [107, 75, 119818, 119870, 119922, 120130].all (fun c => wt 107 c == some 1) = true := by kernel_rfl
  intro c hc
  have key : ∀ (l : List Nat) (li : List Int) (x : Nat), l.all (fun c => wt x c == some 1) = true → li.map Int.toNat = l → ∀ c ∈ li, wt x c.toNat = some 1 := by
    rintro l li x h rfl c hc
    exact beq_iff_eq.mp (List.all_eq_true.mp h c.toNat (List.mem_map.mpr ⟨c, hc, rfl⟩))
  have h : (n % 3).toNat = 0 ∨ (n % 3).toNat = 1 ∨ (n % 3).toNat = 2 := by omega
  unfold singlesOf at hc
  unfold letter
  rcases h with h | h | h <;> rw [h] at hc ⊢
  · exact key _ _ _ f0 rfl c hc
  · exact key _ _ _ f1 rfl c hc
  · exact key _ _ _ f2 rfl c hc
theorem map_wts (n : Int) : (signsL n).map (wt (letter n)) = wts (n / 15 % 3).toNat (n / 270 % 2).toNat (n / 540 % 2).toNat := by
  unfold signsL shopL
  simp only [List.flatMap_cons, List.flatMap_nil, List.map_append, List.append_nil, List.map_map, List.map_replicate, List.map_cons, List.map_nil]
  unfold wts
  simp only [List.append_assoc]
  have h3 : n % 3 = 0 ∨ n % 3 = 1 ∨ n % 3 = 2 := by omega
  congr 1
  · rw [List.eq_replicate_iff]
    refine ⟨by rw [List.length_map, List.length_range], fun b hb => ?_⟩
    obtain ⟨k, _, rfl⟩ := List.mem_map.mp hb
    refine singles_wt n _ ?_
    show (singlesOf n).getD _ 0 ∈ singlesOf n
    rw [List.getD_eq_getElem?_getD, List.getElem?_eq_getElem (by rw [singlesOf_len]; omega)]
    exact List.getElem_mem _
  congr 1
  · congr 1
    unfold letter
    rcases h3 with h | h | h <;> rw [h] <;> kernel_rfl
  congr 1
  · congr 1
    have h4 : n / 3 % 3 = 0 ∨ n / 3 % 3 = 1 ∨ n / 3 % 3 = 2 := by omega
    generalize letter n = x
    rcases h4 with h | h | h <;> rw [h] <;> rfl
  · congr 1
    unfold letter
    rcases h3 with h | h | h <;> rw [h] <;> kernel_rfl
def cntG (o t u r i : Nat) : Int := (((textsG (wts o t u) i).filter fun ws => sumW ws == some r).length : Nat)
theorem cnt_eq (n : Int) (i : Nat) : cntL n i = cntG (n / 15 % 3).toNat (n / 270 % 2).toNat (n / 540 % 2).toNat (n / 3 % 5).toNat i := by
  unfold cntL cntG
  rw [← map_wts, ← texts_map, List.filter_map, List.length_map]
  congr 2
  refine List.filter_congr fun xs _ => ?_
  exact prep_run n xs
def termG (o t u r : Int) (i e : Nat) : Int :=
  if 0 ≤ r - ((i : Int) - e) ∧ r - ((i : Int) - e) ≤ (i : Int) - e then
    chF i e * chF ((i : Int) - e) (r - ((i : Int) - e)).toNat * u ^ e * t ^ (r - ((i : Int) - e)).toNat * o ^ ((i : Int) - e - (r - ((i : Int) - e))).toNat
  else 0
def totG (o t u r : Int) (i : Nat) : Nat → Int
  | 0 => 0
  | e + 1 => totG o t u r i e + termG o t u r i e
theorem tot_eq (n : Int) (i : Nat) : ∀ e, totD n i e = totG (n / 15 % 3) (n / 270 % 2) (n / 540 % 2) (n / 3 % 5) i e
  | 0 => rfl
  | e + 1 => by
    show totD n i e + termD n i e = totG _ _ _ _ i e + termG _ _ _ _ i e
    rw [tot_eq n i e]
    rfl
theorem grid : (List.range 3).all (fun o => (List.range 2).all fun t => (List.range 2).all fun u => (List.range 5).all fun r => (List.range 4).all fun i => cntG o t u r i == totG o t u r i (i + 1)) = true := by kernel_rfl
theorem plain_law (n : Int) : toldL n = dueL n := by
  unfold toldL dueL
  refine List.map_congr_left fun i hi => ?_
  rw [cnt_eq, tot_eq]
  have hi : i < 4 := List.mem_range.mp hi
  obtain ⟨o, ho⟩ := Int.eq_ofNat_of_zero_le (show 0 ≤ n / 15 % 3 by omega)
  obtain ⟨t, ht⟩ := Int.eq_ofNat_of_zero_le (show 0 ≤ n / 270 % 2 by omega)
  obtain ⟨u, hu⟩ := Int.eq_ofNat_of_zero_le (show 0 ≤ n / 540 % 2 by omega)
  obtain ⟨r, hr⟩ := Int.eq_ofNat_of_zero_le (show 0 ≤ n / 3 % 5 by omega)
  rw [ho, ht, hu, hr]
  simp only [Int.toNat_natCast]
  have h1 := List.all_eq_true.mp grid o (List.mem_range.mpr (by omega))
  have h2 := List.all_eq_true.mp h1 t (List.mem_range.mpr (by omega))
  have h3 := List.all_eq_true.mp h2 u (List.mem_range.mpr (by omega))
  have h4 := List.all_eq_true.mp h3 r (List.mem_range.mpr (by omega))
  have h5 := List.all_eq_true.mp h4 i (List.mem_range.mpr hi)
  exact beq_iff_eq.mp h5
end Mine
end
section
set_option maxRecDepth 100000
open PySem PySem.W PySem.Calls PyProof.Rows
namespace Mine
theorem tabs_at (P : Params) : (tabL P).map (·.1) = tabA := rfl
theorem tabs_ok : ∀ a ∈ tabA, a ∉ [94, 101] := by decide
theorem grown_of {h : Heap} {P : Addr} {line col : Int} {q : Str} (x : TabI h P line col q) : GrownAt P h := by
  rcases x with x | ⟨c, x, _⟩
  · exact ⟨_, x⟩
  · exact ⟨_, x⟩
def nameL : List (Str × Addr) := [("b1_set", 22), ("in_table_b1", 32), ("b3_exceptions", 33), ("map_table_b3", 78), ("_initial_missing", 79), ("reduce", 87), ("_law_shop", 92), ("_law_prepared", 99), ("_law_told", 104), ("_law_choose", 111), ("_law_due", 118)]
def bareL : List Str := ["ord", "chr", "len", "range", "iter", "next"]
def checkFrag (K : Frag) : Bool := match K.lookup 3 with
  | some o => match o.data with
    | .dict es _ => nameL.all (fun p => nsFind es p.1 == some (.ref p.2)) && bareL.all (fun x => (nsFind es x).isNone)
    | _ => false
  | none => false
theorem frag_names {K : Frag} {h : Heap} (X : K.In h) (chk : checkFrag K = true) : ∃ o es ep, h.get? 3 = some o ∧ o.data = .dict es ep ∧ nameL.all (fun p => nsFind es p.1 == some (.ref p.2)) = true ∧ bareL.all (fun x => (nsFind es x).isNone) = true := by
  unfold checkFrag at chk
  split at chk
  · rename_i o e
    split at chk
    · rename_i es ep d
      rw [Bool.and_eq_true] at chk
      exact ⟨o, es, ep, X 3 o e, d, chk.1, chk.2⟩
    · cases chk
  · cases chk
/-- what the opened law says, handed to the walk -/
theorem gt_of {w : World} {loose : List Str} {mean : ExcName → Option Value} {mg mb : Str → Option Value} {h₁ : Heap} {o3 : Obj} {es : Array DictEntry} {ep : Nat}
    (T : Top topProg loose mean mg mb (ghostOf h₁ [(98, 94), (103, 101)])) (e3 : (ghostOf h₁ [(98, 94), (103, 101)]).get? 3 = some o3) (d3 : o3.data = .dict es ep)
    (names : ([("b1_set", 22), ("in_table_b1", 32), ("b3_exceptions", 33), ("map_table_b3", 78), ("_initial_missing", 79), ("reduce", 87), ("_law_shop", 92), ("_law_prepared", 99), ("_law_told", 104), ("_law_choose", 111), ("_law_due", 118)] : List (Str × Addr)).all (fun p => nsFind es p.1 == some (.ref p.2)) = true)
    (bare : (["ord", "chr", "len", "range", "iter", "next"] : List Str).all (fun x => (nsFind es x).isNone) = true)
    (c98 : CodeHd (ghostOf h₁ [(98, 94), (103, 101)]) 98 94) (c103 : CodeHd (ghostOf h₁ [(98, 94), (103, 101)]) 103 101)
    (htab : ∀ p ∈ tabL w.params, h₁.get? p.1 = some p.2) (n94 : (ghostOf h₁ [(98, 94), (103, 101)]).get? 94 = none) (n101 : (ghostOf h₁ [(98, 94), (103, 101)]).get? 101 = none) :
    Gt w mg mb (ghostOf h₁ [(98, 94), (103, 101)]) := by
  have hns : ∀ x, nsFind es x = mg x := by
    obtain ⟨o, es', ep', e, d, _, f⟩ := T.g
    have e : (ghostOf h₁ [(98, 94), (103, 101)]).get? 3 = some o := e
    rw [e3] at e; cases e
    rw [d3] at d; cases d
    exact f
  refine { ns := T.g, bs := T.b, nolimit := T.nolimit, boot := T.builtins, names := ?_, bare := ?_, objs := ?_, code98 := c98, code103 := c103, bt := ?_, hid := ⟨n94, n101⟩ }
  · intro p hp
    rw [← hns]
    exact beq_iff_eq.mp (List.all_eq_true.mp names p hp)
  · intro x hx
    rw [← hns]
    exact Option.isNone_iff_eq_none.mp (List.all_eq_true.mp bare x hx)
  · intro p hp
    refine ghost_ne (htab p hp) (tabs_ok p.1 ?_)
    rw [← tabs_at w.params]
    exact List.mem_map.mpr ⟨p, hp, rfl⟩
  · intro P hP
    obtain ⟨bm, ob, h1, h2, h3, h4, h5, h6⟩ := T.bmain
    refine ⟨bm, ob, h1, h2, ?_, ?_, h3, h4, h5, h6⟩
    · rintro rfl
      have h3 : (ghostOf h₁ [(98, 94), (103, 101)]).get? 3 = some ob := h3
      rw [e3] at h3; cases h3
      rw [d3] at h6; cases h6
    · rintro rfl
      simp only [List.mem_cons, List.not_mem_nil, or_false] at hP
      rcases hP with rfl | rfl
      · rw [n94] at h3; cases h3
      · rw [n101] at h3; cases h3
end Mine
end
set_option maxRecDepth 100000
set_option maxHeartbeats 8000000
open PySem PySem.W PySem.Calls PyProof.Rows
theorem PySem.Challenge.cw_pe0197_01_holds : PySem.Challenge.rw_pe0197_01.Holds := by
  refine Mine.hd ?_
  k_fill
  intro w s₀ s₁ mg mb G Y fa o pm cd doc dV kV ho hd hcd hD hmg hg args vals as hpre hlay hrd hwl hlo
  have Y1 := Y.1
  have htab := Y.2
  have KX := km_in_of Y1
  km_tabs Y1
  clear Y
  have X := (Ground.X G).1
  have V := (Ground.X G).2
  refine Ground.open G ?_
  intro T B D TE TW
  try (refine guard_noD D (by decide +kernel) ?_; clear D)
  km_lay T hmg ho hd cd
  clear hmg
  wrow_args hpre hlay hrd hwl hlo
  all_goals (
    first | refine callC_kw (enter_call ?_) | refine enter_call ?_
    w_top on
    kn_posts
    w_call any ho hd hcd hD T F
    clear hd
    kn_ghosts F T
    k_drop
    skip)
  rename Top topProg _ _ _ _ _ => Tg
  rename Frag.In _ _ => Xg
  rename Fr (ghostOf _ _) _ _ _ => Fg
  rename News (ghostOf _ _) _ _ _ => Ng
  rename Heap.IsList (ghostOf _ _) _ _ => hS
  rename CodeHd _ (98, 94).1 _ => c98
  rename CodeHd _ (103, 101).1 _ => c103
  rename IntsAre _ _ => hI
  rename ¬ _ < _ => hc
  have hT : ∀ p ∈ Mine.tabL w.params, s₁.heap.get? p.1 = some p.2 := htab
  have e94 := Ng (94, tabObj #[]) (by simp)
  have e101 := Ng (101, tabObj #[]) (by simp)
  obtain ⟨o3, es, ep, e3, d3, hnames, hbare⟩ := Mine.frag_names Xg (by kernel_rfl)
  have Gt := Mine.gt_of Tg e3 d3 hnames hbare c98 c103 hT e94.2.2 e101.2.2
  clear hnames hbare d3 e3 Xg Tg c98 c103 hT htab
  have st : Mine.Stay (ghostOf s₁.heap [(98, 94), (103, 101)]) _ := Fg.keep
  have hgL : (ghostOf s₁.heap [(98, 94), (103, 101)]).get? s₁.heap.objs.size = none := ghost_fresh (Mine.fresh_of (Nat.le_refl _))
  have hlen := PyProof.Rows.IntsAre.length hI
  refine Mine.law_body (s := s₁) (Q := fun v s' => GoodW _ _ _ _ _ (.ok (.ret v)) s' ∧ GrownAll [(98, 94), (103, 101)] s'.heap) Gt st (by show callerA.depth + 1 + 7 < recursionLimit; decide +kernel) rfl (by show callerA.units + 3 + 5 < cLine; decide +kernel) Fg.ns rfl (show Heap.IsList _ _ _ from (let ⟨o, e, r⟩ := hS; ⟨o, st _ _ e, r⟩)) hI (by omega) hgL (.inl e94.1) (.inl e101.1) Mine.plain_law ?_
  intro h' tk k i94 i101
  refine ⟨⟨.inl ⟨.bool true, .bool true, [], rfl, fun _ => rfl, .bool true, ?_, ?_⟩, ?_, rfl, hg⟩, Mine.grown_of i94, Mine.grown_of i101, trivial⟩
  · with_unfolding_all rfl
  · exact fun _ => ⟨List.nodup_nil, fun a ha => (nomatch ha)⟩
  · intro b o e
    refine k b o ?_ ?_ ?_ (st b o e)
    · rintro rfl; rw [Gt.hid.1] at e; cases e
    · rintro rfl; rw [Gt.hid.2] at e; cases e
    · rintro rfl; rw [hgL] at e; cases e
