import PyProof.Rows.All
import Wide.All
import OpenK.AllK
import Wide.FinOn
import Lean
import PySem.Challenge.RW_nb0093_01
open PySem PySem.W PyProof.Rows
set_option Elab.async false
set_option maxRecDepth 100000
set_option linter.all false
namespace Mine
noncomputable def top (k : Nat) : Stmt := match PySem.Challenge.pw_nb0093_01.main.body.drop k with
  | s :: _ => s
  | [] => default
noncomputable def sub (k j : Nat) : Stmt := match top k with
  | .ClassDef _ _ _ b .. => (match b.drop j with
    | s :: _ => s
    | [] => default)
  | _ => default
noncomputable def z (x : String) (t : Tok) : Value := .str (Str.ofString x) t
noncomputable def tupO (l : List Value) : Obj := ⟨.type "tuple", none, .seq l.toArray 0, #[]⟩
noncomputable def recO (c : String) (l : List Value) : Obj := ⟨.type c, none, .fields l.toArray, #[]⟩
noncomputable def keyH (P : Params) : Value → Int
  | .str x _ => PyData.keyHash P x
  | _ => 0
noncomputable def dctO (P : Params) (c : Value) (l : List (Value × Value)) (n : Nat) : Obj := ⟨c, none, .dict (l.map fun p => ⟨keyH P p.1, p.1, p.2⟩).toArray n, #[]⟩
noncomputable def fnO (q : String) (dv : Value) (m : String) (mt : Tok) (cd : Addr) : Stmt → Obj
  | .FunctionDef n ps b _ _ _ sc _ _ _ => ⟨.type "function", none, .func { name := n, qualname := Str.ofString q, params := ps, body := .stmts b, scope := sc, globals := 3, closure := [], defaults := dv, kwdefaults := .none, doc := .none, pyModule := z m mt, annotations := none, code := .ref cd, closureTuple := .none, builtins := 0 }, #[]⟩
  | _ => default
noncomputable def Pz : Params := ⟨fun _ => 0, fun _ => 0, id, fun _ => 0, fun _ _ => 0, fun _ => false, fun _ => 0, .refcount, .text, fun _ => 0, fun _ => none, fun _ => false, fun _ _ _ => true, fun _ _ _ => true, true, fun _ => false, fun _ => none, fun _ => none, fun _ _ _ => 0, fun _ _ => none, fun _ => none, fun _ => (0, false, Str.ofString "UTC"), fun _ => none, fun d => d, fun _ => false⟩
noncomputable def ldr : Value := match (boot_o_3 Pz).data with
  | .dict es _ => (match es.toList.drop 3 with
    | e :: _ => e.val
    | [] => .none)
  | _ => .none
noncomputable def hd.heap_39 (P : Params) : Frag := 
  (nat_lit 2, dctO P .none [((z "type.__subclasses__.Exception.0" 276), (.int 76 0)), ((z "type.__subclasses__.Exception.n" 277), (.int 1 0))] 2) ::
  (nat_lit 3, dctO P (.type "dict") [((z "__name__" 165), (z "law_nb0093_01" 338)), ((z "__doc__" 166), .none), ((z "__package__" 167), .none), ((z "__loader__" 168), ldr), ((z "__spec__" 169), .none), ((z "__annotations__" 170), (.ref 6)), ((z "__builtins__" 171), (.ref 4)), ((z "__file__" 173), (z "/claim/cut.py" 172)), ((z "__cached__" 174), .none), ((z "_Unknown" 215), (.ref 31)), ((z "UNKNOWN" 216), (.ref 37)), ((z "_get_name_info" 226), (.ref 44)), ((z "_NO_LINENO" 228), (z "  --" 227)), ((z "_get_lineno_width" 237), (.ref 51)), ((z "NetrcParseError" 279), (.ref 76)), ((z "_netrclex" 337), (.ref 117)), ((z "_law_name" 347), (.ref 128)), ((z "_law_word" 353), (.ref 133)), ((z "_law_reader" 365), (.ref 140)), ((z "_law_lookup" 378), (.ref 147)), ((z "_law_asked" 388), (.ref 154)), ((z "_law_refused" 396), (.ref 161)), ((z "_law_reach" 407), (.ref 168)), ((z "_law_due" 421), (.ref 175)), ((z "_law_column" 427), (.ref 180)), ((z "_law_deed" 441), (.ref 187)), ((z "_law_run" 447), (.ref 192)), ((z "law" 455), (.ref 199))] 28) ::
  (nat_lit 22, tupO []) ::
  (nat_lit 24, tupO [(z "self" 204)]) ::
  (nat_lit 25, tupO []) ::
  (nat_lit 27, recO "code" [(z "__repr__" 201), (z "_Unknown.__repr__" 202), (z "/claim/cut.py" 203), (.int 4 0), (.int 1 0), (.int 0 0), (.int 0 0), (.int 3 0), (.ref 22), (.bool true), (.int 181 0), (.ref 23), .none, (.ref 24), (.ref 25), (.ref 26), (.int 205 0), (.int 4 0), (z "/claim/cut.py" 206)]) ::
  (nat_lit 28, fnO "_Unknown.__repr__" .none "cpy313.dis" 187 27 (sub 1 0)) ::
  (nat_lit 29, tupO []) ::
  (nat_lit 30, dctO P (.type "dict") [((z "__module__" 196), (z "cpy313.dis" 187)), ((z "__firstlineno__" 200), (.int 2 199)), ((z "__repr__" 207), (.ref 28)), ((z "__static_attributes__" 208), (.ref 29)), ((z "__dict__" 210), (.ref 32)), ((z "__weakref__" 212), (.ref 33)), ((z "__doc__" 213), .none)] 4) ::
  (nat_lit 31, ⟨(.type "type"), none, .cls { name := Str.ofString "_Unknown", bases := [.type "object"], mro := [.ref 31, .type "object"], ns := 30, qualname := Str.ofString "_Unknown" }, #[none, none, (some (z "_Unknown" 189)), (some (z "_Unknown" 197)), (some (.builtin "object.__new__")), (some (.bool true))]⟩) ::
  (nat_lit 32, recO "getset_descriptor" [(z "__dict__" 209), (.ref 31), (.builtin "function.__dict__"), (.builtin "function.__dict__#set")]) ::
  (nat_lit 33, recO "getset_descriptor" [(z "__weakref__" 211), (.ref 31), (.builtin "ExceptionGroup.__weakref__"), .none]) ::
  (nat_lit 36, dctO P (.type "dict") [] 0) ::
  (nat_lit 37, ⟨.ref 31, some 36, .plain, #[]⟩) ::
  (nat_lit 38, tupO []) ::
  (nat_lit 40, tupO [(z "name_index" 220), (z "get_name" 221), (z "extrainfo" 222), (z "argval" 223)]) ::
  (nat_lit 41, tupO []) ::
  (nat_lit 43, recO "code" [(z "_get_name_info" 217), (z "_get_name_info" 218), (z "/claim/cut.py" 219), (.int 7 0), (.int 2 0), (.int 0 0), (.int 0 0), (.int 11 0), (.ref 38), (.bool true), (.int 181 0), (.ref 39), .none, (.ref 40), (.ref 41), (.ref 42), (.int 224 0), (.int 7 0), (z "/claim/cut.py" 225)]) ::
  (nat_lit 44, fnO "_get_name_info" .none "cpy313.dis" 187 43 (top 3)) ::
  (nat_lit 45, tupO []) ::
  (nat_lit 47, tupO [(z "linestarts" 232), (z "maxlineno" 233), (z "lineno_width" 234)]) ::
  (nat_lit 48, tupO []) ::
  (nat_lit 50, recO "code" [(z "_get_lineno_width" 229), (z "_get_lineno_width" 230), (z "/claim/cut.py" 231), (.int 14 0), (.int 1 0), (.int 0 0), (.int 0 0), (.int 3 0), (.ref 45), (.bool true), (.int 181 0), (.ref 46), .none, (.ref 47), (.ref 48), (.ref 49), (.int 235 0), (.int 14 0), (z "/claim/cut.py" 236)]) ::
  (nat_lit 51, fnO "_get_lineno_width" .none "cpy313.dis" 187 50 (top 5)) ::
  (nat_lit 52, tupO [(.type "Exception")]) ::
  (nat_lit 59, tupO [.none, .none]) ::
  (nat_lit 60, tupO []) ::
  (nat_lit 62, tupO [(z "self" 255), (z "msg" 256), (z "filename" 257), (z "lineno" 258)]) ::
  (nat_lit 63, tupO []) ::
  (nat_lit 65, recO "code" [(z "__init__" 252), (z "NetrcParseError.__init__" 253), (z "/claim/cut.py" 254), (.int 27 0), (.int 4 0), (.int 0 0), (.int 0 0), (.int 3 0), (.ref 60), (.bool true), (.int 181 0), (.ref 61), .none, (.ref 62), (.ref 63), (.ref 64), (.int 259 0), (.int 27 0), (z "/claim/cut.py" 260)]) ::
  (nat_lit 66, fnO "NetrcParseError.__init__" (.ref 59) "cpy313.netrc" 238 65 (sub 7 0)) ::
  (nat_lit 67, tupO []) ::
  (nat_lit 69, tupO [(z "self" 265)]) ::
  (nat_lit 70, tupO []) ::
  (nat_lit 72, recO "code" [(z "__str__" 262), (z "NetrcParseError.__str__" 263), (z "/claim/cut.py" 264), (.int 33 0), (.int 1 0), (.int 0 0), (.int 0 0), (.int 3 0), (.ref 67), (.bool true), (.int 181 0), (.ref 68), .none, (.ref 69), (.ref 70), (.ref 71), (.int 266 0), (.int 33 0), (z "/claim/cut.py" 267)]) ::
  (nat_lit 73, fnO "NetrcParseError.__str__" .none "cpy313.netrc" 238 72 (sub 7 1)) ::
  (nat_lit 74, tupO [(z "filename" 269), (z "lineno" 270), (z "msg" 271)]) ::
  (nat_lit 75, dctO P (.type "dict") [((z "__module__" 247), (z "cpy313.netrc" 238)), ((z "__firstlineno__" 251), (.int 25 250)), ((z "__init__" 261), (.ref 66)), ((z "__str__" 268), (.ref 73)), ((z "__static_attributes__" 272), (.ref 74)), ((z "__weakref__" 274), (.ref 77)), ((z "__doc__" 275), .none)] 3) ::
  (nat_lit 76, ⟨(.type "type"), none, .cls { name := Str.ofString "NetrcParseError", bases := [.type "Exception"], mro := [.ref 76, .type "Exception", .type "BaseException", .type "object"], ns := 75, qualname := Str.ofString "NetrcParseError" }, #[(some (.ref 52)), none, (some (z "NetrcParseError" 240)), (some (z "NetrcParseError" 248)), (some (.builtin "Exception.__new__")), (some (.bool true))]⟩) ::
  (nat_lit 77, recO "getset_descriptor" [(z "__weakref__" 273), (.ref 76), (.builtin "ExceptionGroup.__weakref__"), .none]) ::
  (nat_lit 87, tupO []) ::
  (nat_lit 89, tupO [(z "self" 295), (z "fp" 296)]) ::
  (nat_lit 90, tupO []) ::
  (nat_lit 92, recO "code" [(z "__init__" 292), (z "_netrclex.__init__" 293), (z "/claim/cut.py" 294), (.int 37 0), (.int 2 0), (.int 0 0), (.int 0 0), (.int 3 0), (.ref 87), (.bool true), (.int 181 0), (.ref 88), .none, (.ref 89), (.ref 90), (.ref 91), (.int 297 0), (.int 37 0), (z "/claim/cut.py" 298)]) ::
  (nat_lit 93, fnO "_netrclex.__init__" .none "cpy313.netrc" 238 92 (sub 8 0)) ::
  (nat_lit 94, tupO []) ::
  (nat_lit 96, tupO [(z "self" 303), (z "ch" 304)]) ::
  (nat_lit 97, tupO []) ::
  (nat_lit 99, recO "code" [(z "_read_char" 300), (z "_netrclex._read_char" 301), (z "/claim/cut.py" 302), (.int 43 0), (.int 1 0), (.int 0 0), (.int 0 0), (.int 3 0), (.ref 94), (.bool true), (.int 181 0), (.ref 95), .none, (.ref 96), (.ref 97), (.ref 98), (.int 305 0), (.int 43 0), (z "/claim/cut.py" 306)]) ::
  (nat_lit 100, fnO "_netrclex._read_char" .none "cpy313.netrc" 238 99 (sub 8 1)) ::
  (nat_lit 101, tupO []) ::
  (nat_lit 103, tupO [(z "self" 311), (z "token" 312), (z "fiter" 313), (z "ch" 314)]) ::
  (nat_lit 104, tupO []) ::
  (nat_lit 106, recO "code" [(z "get_token" 308), (z "_netrclex.get_token" 309), (z "/claim/cut.py" 310), (.int 49 0), (.int 1 0), (.int 0 0), (.int 0 0), (.int 3 0), (.ref 101), (.bool true), (.int 181 0), (.ref 102), .none, (.ref 103), (.ref 104), (.ref 105), (.int 315 0), (.int 49 0), (z "/claim/cut.py" 316)]) ::
  (nat_lit 107, fnO "_netrclex.get_token" .none "cpy313.netrc" 238 106 (sub 8 2)) ::
  (nat_lit 108, tupO []) ::
  (nat_lit 110, tupO [(z "self" 321), (z "token" 322)]) ::
  (nat_lit 111, tupO []) ::
  (nat_lit 113, recO "code" [(z "push_token" 318), (z "_netrclex.push_token" 319), (z "/claim/cut.py" 320), (.int 76 0), (.int 2 0), (.int 0 0), (.int 0 0), (.int 3 0), (.ref 108), (.bool true), (.int 181 0), (.ref 109), .none, (.ref 110), (.ref 111), (.ref 112), (.int 323 0), (.int 76 0), (z "/claim/cut.py" 324)]) ::
  (nat_lit 114, fnO "_netrclex.push_token" .none "cpy313.netrc" 238 113 (sub 8 3)) ::
  (nat_lit 115, tupO [(z "instream" 326), (z "lineno" 327), (z "pushback" 328), (z "whitespace" 329)]) ::
  (nat_lit 116, dctO P (.type "dict") [((z "__module__" 287), (z "cpy313.netrc" 238)), ((z "__firstlineno__" 291), (.int 35 290)), ((z "__init__" 299), (.ref 93)), ((z "_read_char" 307), (.ref 100)), ((z "get_token" 317), (.ref 107)), ((z "push_token" 325), (.ref 114)), ((z "__static_attributes__" 330), (.ref 115)), ((z "__dict__" 332), (.ref 118)), ((z "__weakref__" 334), (.ref 119)), ((z "__doc__" 335), .none)] 4) ::
  (nat_lit 117, ⟨(.type "type"), none, .cls { name := Str.ofString "_netrclex", bases := [.type "object"], mro := [.ref 117, .type "object"], ns := 116, qualname := Str.ofString "_netrclex" }, #[none, none, (some (z "_netrclex" 280)), (some (z "_netrclex" 288)), (some (.builtin "object.__new__")), (some (.bool true))]⟩) ::
  (nat_lit 118, recO "getset_descriptor" [(z "__dict__" 331), (.ref 117), (.builtin "function.__dict__"), (.builtin "function.__dict__#set")]) ::
  (nat_lit 119, recO "getset_descriptor" [(z "__weakref__" 333), (.ref 117), (.builtin "ExceptionGroup.__weakref__"), .none]) ::
  (nat_lit 122, tupO []) ::
  (nat_lit 124, tupO [(z "n" 343), (z "signs" 344)]) ::
  (nat_lit 125, tupO []) ::
  (nat_lit 127, recO "code" [(z "_law_name" 340), (z "_law_name" 341), (z "/claim/cut.py" 342), (.int 79 0), (.int 1 0), (.int 0 0), (.int 0 0), (.int 3 0), (.ref 122), (.bool true), (.int 181 0), (.ref 123), .none, (.ref 124), (.ref 125), (.ref 126), (.int 345 0), (.int 79 0), (z "/claim/cut.py" 346)]) ::
  (nat_lit 128, fnO "_law_name" .none "law_nb0093_01" 338 127 (top 10)) ::
  (nat_lit 129, tupO []) ::
  (nat_lit 132, recO "code" [(z "_law_word" 348), (z "_law_word" 349), (z "/claim/cut.py" 350), (.int 84 0), (.int 3 0), (.int 0 0), (.int 0 0), (.int 3 0), (.ref 129), (.bool true), (.int 181 0), (.ref 130), .none, .none, .none, (.ref 131), (.int 351 0), (.int 84 0), (z "/claim/cut.py" 352)]) ::
  (nat_lit 133, fnO "_law_word" .none "law_nb0093_01" 338 132 (top 11)) ::
  (nat_lit 134, tupO []) ::
  (nat_lit 136, tupO [(z "text" 357), (z "spot" 358), (z "read" 359), (z "tape" 360)]) ::
  (nat_lit 137, tupO [(z "text" 361), (z "spot" 362)]) ::
  (nat_lit 139, recO "code" [(z "_law_reader" 354), (z "_law_reader" 355), (z "/claim/cut.py" 356), (.int 89 0), (.int 2 0), (.int 0 0), (.int 0 0), (.int 3 0), (.ref 134), (.bool true), (.int 181 0), (.ref 135), .none, (.ref 136), (.ref 137), (.ref 138), (.int 363 0), (.int 89 0), (z "/claim/cut.py" 364)]) ::
  (nat_lit 140, fnO "_law_reader" .none "law_nb0093_01" 338 139 (top 12)) ::
  (nat_lit 141, tupO []) ::
  (nat_lit 143, tupO [(z "lexer" 369), (z "known" 370), (z "asked" 371)]) ::
  (nat_lit 144, tupO [(z "lexer" 372), (z "known" 373), (z "asked" 374), (z "lookup" 375)]) ::
  (nat_lit 146, recO "code" [(z "_law_lookup" 366), (z "_law_lookup" 367), (z "/claim/cut.py" 368), (.int 98 0), (.int 3 0), (.int 0 0), (.int 0 0), (.int 3 0), (.ref 141), (.bool true), (.int 181 0), (.ref 142), .none, (.ref 143), (.ref 144), (.ref 145), (.int 376 0), (.int 98 0), (z "/claim/cut.py" 377)]) ::
  (nat_lit 147, fnO "_law_lookup" .none "law_nb0093_01" 338 146 (top 13)) ::
  (nat_lit 148, tupO []) ::
  (nat_lit 150, tupO [(z "index" 382), (z "lookup" 383), (z "line" 384), (z "error" 385)]) ::
  (nat_lit 151, tupO []) ::
  (nat_lit 153, recO "code" [(z "_law_asked" 379), (z "_law_asked" 380), (z "/claim/cut.py" 381), (.int 115 0), (.int 3 0), (.int 0 0), (.int 0 0), (.int 3 0), (.ref 148), (.bool true), (.int 181 0), (.ref 149), .none, (.ref 150), (.ref 151), (.ref 152), (.int 386 0), (.int 115 0), (z "/claim/cut.py" 387)]) ::
  (nat_lit 154, fnO "_law_asked" .none "law_nb0093_01" 338 153 (top 14)) ::
  (nat_lit 155, tupO []) ::
  (nat_lit 157, tupO [(z "msg" 392), (z "line" 393)]) ::
  (nat_lit 158, tupO []) ::
  (nat_lit 160, recO "code" [(z "_law_refused" 389), (z "_law_refused" 390), (z "/claim/cut.py" 391), (.int 120 0), (.int 2 0), (.int 0 0), (.int 0 0), (.int 3 0), (.ref 155), (.bool true), (.int 181 0), (.ref 156), .none, (.ref 157), (.ref 158), (.ref 159), (.int 394 0), (.int 120 0), (z "/claim/cut.py" 395)]) ::
  (nat_lit 161, fnO "_law_refused" .none "law_nb0093_01" 338 160 (top 15)) ::
  (nat_lit 162, tupO []) ::
  (nat_lit 164, tupO [(z "book" 400), (z "at" 401), (z "word" 402), (z "line" 403), (z "place" 404)]) ::
  (nat_lit 165, tupO []) ::
  (nat_lit 167, recO "code" [(z "_law_reach" 397), (z "_law_reach" 398), (z "/claim/cut.py" 399), (.int 122 0), (.int 2 0), (.int 0 0), (.int 0 0), (.int 3 0), (.ref 162), (.bool true), (.int 181 0), (.ref 163), .none, (.ref 164), (.ref 165), (.ref 166), (.int 405 0), (.int 122 0), (z "/claim/cut.py" 406)]) ::
  (nat_lit 168, fnO "_law_reach" .none "law_nb0093_01" 338 167 (top 16)) ::
  (nat_lit 169, tupO []) ::
  (nat_lit 171, tupO [(z "book" 411), (z "at" 412), (z "wish" 413), (z "step" 414), (z "word" 415), (z "line" 416), (z "place" 417), (z "last" 418)]) ::
  (nat_lit 172, tupO []) ::
  (nat_lit 174, recO "code" [(z "_law_due" 408), (z "_law_due" 409), (z "/claim/cut.py" 410), (.int 131 0), (.int 3 0), (.int 0 0), (.int 0 0), (.int 3 0), (.ref 169), (.bool true), (.int 181 0), (.ref 170), .none, (.ref 171), (.ref 172), (.ref 173), (.int 419 0), (.int 131 0), (z "/claim/cut.py" 420)]) ::
  (nat_lit 175, fnO "_law_due" .none "law_nb0093_01" 338 174 (top 17)) ::
  (nat_lit 176, tupO []) ::
  (nat_lit 179, recO "code" [(z "_law_column" 422), (z "_law_column" 423), (z "/claim/cut.py" 424), (.int 142 0), (.int 1 0), (.int 0 0), (.int 0 0), (.int 3 0), (.ref 176), (.bool true), (.int 181 0), (.ref 177), .none, .none, .none, (.ref 178), (.int 425 0), (.int 142 0), (z "/claim/cut.py" 426)]) ::
  (nat_lit 180, fnO "_law_column" .none "law_nb0093_01" 338 179 (top 18)) ::
  (nat_lit 181, tupO []) ::
  (nat_lit 183, tupO [(z "n" 431), (z "lexer" 432), (z "lookup" 433), (z "book" 434), (z "act" 435), (z "q" 436), (z "told" 437), (z "said" 438)]) ::
  (nat_lit 184, tupO []) ::
  (nat_lit 186, recO "code" [(z "_law_deed" 428), (z "_law_deed" 429), (z "/claim/cut.py" 430), (.int 148 0), (.int 4 0), (.int 0 0), (.int 0 0), (.int 3 0), (.ref 181), (.bool true), (.int 181 0), (.ref 182), .none, (.ref 183), (.ref 184), (.ref 185), (.int 439 0), (.int 148 0), (z "/claim/cut.py" 440)]) ::
  (nat_lit 187, fnO "_law_deed" .none "law_nb0093_01" 338 186 (top 19)) ::
  (nat_lit 188, tupO []) ::
  (nat_lit 191, recO "code" [(z "_law_run" 442), (z "_law_run" 443), (z "/claim/cut.py" 444), (.int 159 0), (.int 2 0), (.int 0 0), (.int 0 0), (.int 3 0), (.ref 188), (.bool true), (.int 181 0), (.ref 189), .none, .none, .none, (.ref 190), (.int 445 0), (.int 159 0), (z "/claim/cut.py" 446)]) ::
  (nat_lit 192, fnO "_law_run" .none "law_nb0093_01" 338 191 (top 20)) ::
  (nat_lit 193, tupO []) ::
  (nat_lit 195, tupO [(z "script" 451), (z "numbers" 452)]) ::
  (nat_lit 196, tupO []) ::
  (nat_lit 198, recO "code" [(z "law" 448), (z "law" 449), (z "/claim/cut.py" 450), (.int 185 0), (.int 1 0), (.int 0 0), (.int 0 0), (.int 3 0), (.ref 193), (.bool true), (.int 181 0), (.ref 194), .none, (.ref 195), (.ref 196), (.ref 197), (.int 453 0), (.int 185 0), (z "/claim/cut.py" 454)]) ::
  (nat_lit 199, fnO "law" .none "law_nb0093_01" 338 198 (top 21)) :: []
noncomputable def vw : Program := view PySem.Challenge.rw_nb0093_01.row.prog [1, 2, 3, 4, 5, 7, 8, 10, 11, 12, 13, 14, 15, 16, 17, 18, 19, 20, 21]
noncomputable abbrev lo : List Str := [Str.ofString "UNKNOWN", Str.ofString "NetrcParseError"]
noncomputable def asK : List Addr := (hd.heap_39 Pz).map (·.1)
theorem asK_is (P : Params) : asK = (hd.heap_39 P).map (·.1) := by kernel_rfl
noncomputable abbrev hk : Hook := kmHook hd.heap_39 asK asK_is [142, 135]
open PySem.Calls PySem.Builtin
noncomputable abbrev Fact := Addr × (Obj → Prop)
structure Ldg (hT : Heap) (l : List Fact) (h : Heap) : Prop where
  keep : ∀ b o, hT.get? b = some o → h.get? b = some o
  has : ∀ c ∈ l, ∃ o, h.get? c.1 = some o ∧ c.2 o
  nd : (l.map (·.1)).Nodup
  new : ∀ c ∈ l, hT.get? c.1 = none
  sz : hT.objs.size ≤ h.objs.size
@[reducible] noncomputable def At (s : Shared) (h : Heap) (t : Nat) : Shared := { s with heap := h, toks := t }
noncomputable def look : List Str → List (Option Value) → Str → Option Value
  | n :: ns, v :: vs, x => if x = n then v else look ns vs x
  | _, _, _ => none
inductive AtI {α : Type} : List α → Nat → α → Prop
  | z {x : α} {l : List α} : AtI (x :: l) 0 x
  | s {x y : α} {l : List α} {i : Nat} : AtI l i x → AtI (y :: l) (i + 1) x
inductive SetI {α : Type} : List α → Nat → α → List α → Prop
  | z {x y : α} {l : List α} : SetI (y :: l) 0 x (x :: l)
  | s {x y : α} {l l' : List α} {i : Nat} : SetI l i x l' → SetI (y :: l) (i + 1) x (y :: l')
theorem AtI.get {α : Type} {l : List α} {i : Nat} {x : α} (h : AtI l i x) : l[i]? = some x := by
  induction h with
  | z => rfl
  | s _ ih => simpa using ih
theorem SetI.lt {α : Type} {l l' : List α} {i : Nat} {x : α} (h : SetI l i x l') : i < l.length := by
  induction h with
  | z => simp
  | s _ ih => simp only [List.length_cons]; omega
theorem SetI.eq {α : Type} {l l' : List α} {i : Nat} {x : α} (h : SetI l i x l') : l.set i x = l' := by
  induction h with
  | z => rfl
  | s _ ih => simp [ih]
noncomputable def Frm (ns : List Str) (vs : List (Option Value)) : Obj → Prop := fun o =>
  ∃ es ep, o.data = .dict es ep ∧ StrKeys es ∧ ∀ x, nsFind es x = look ns vs x
section
variable {hT h h' : Heap} {l l' : List Fact} {a : Addr} {P P' : Obj → Prop} {o : Obj}
theorem Ldg.get (D : Ldg hT l h) {i : Nat} (hi : l[i]? = some (a, P)) : ∃ o, h.get? a = some o ∧ P o := D.has _ (List.mem_of_getElem? hi)
theorem Ldg.old (D : Ldg hT l h) (e : hT.get? a = some o) : h.get? a = some o := D.keep _ _ e
theorem Ldg.lt (D : Ldg hT l h) {c : Fact} (hc : c ∈ l) : c.1 < h.objs.size := by
  obtain ⟨o, e, _⟩ := D.has c hc
  exact Heap.lt_size e
theorem Ldg.sub (D : Ldg hT l h) (hs : l'.Sublist l) : Ldg hT l' h :=
  ⟨D.keep, fun c hc => D.has c (hs.subset hc), D.nd.sublist (hs.map _), fun c hc => D.new c (hs.subset hc), D.sz⟩
theorem Ldg.tail {c : Fact} (D : Ldg hT (c :: l) h) : Ldg hT l h := D.sub (List.sublist_cons_self _ _)
theorem Ldg.perm (D : Ldg hT l h) (p : l.Perm l') : Ldg hT l' h :=
  ⟨D.keep, fun c hc => D.has c (p.mem_iff.mpr hc), (p.map _).nodup_iff.mp D.nd, fun c hc => D.new c (p.mem_iff.mpr hc), D.sz⟩
theorem Ldg.push (D : Ldg hT l h) (hf : o.isFreed = false) (hp : P o) : Ldg hT ((h.objs.size, P) :: l) (h.push o) := by
  refine ⟨fun b o' e => Heap.get?_push_of_some _ (D.keep b o' e), fun c hc => ?_, ?_, fun c hc => ?_, by rw [Heap.size_push]; exact Nat.le_succ_of_le D.sz⟩
  · rcases List.mem_cons.mp hc with rfl | hc
    · exact ⟨o, Heap.get?_push_size _ hf, hp⟩
    · obtain ⟨o', e, q⟩ := D.has c hc
      exact ⟨o', Heap.get?_push_of_some _ e, q⟩
  · rw [List.map_cons, List.nodup_cons]
    refine ⟨fun hm => ?_, D.nd⟩
    obtain ⟨c, hc, e⟩ := List.mem_map.mp hm
    have := D.lt hc
    rw [e] at this
    exact Nat.lt_irrefl _ this
  · rcases List.mem_cons.mp hc with rfl | hc
    · show hT.get? h.objs.size = none
      cases q : hT.get? h.objs.size with
      | none => rfl
      | some o' => exact absurd (Heap.lt_size (D.keep _ _ q)) (Nat.lt_irrefl _)
    · exact D.new c hc
theorem Ldg.same (D : Ldg hT l h) {i : Nat} (hi : l[i]? = some (a, P)) (hs : Heap.SameBut a h h') (hp : ∃ o', h'.get? a = some o' ∧ P' o') : Ldg hT (l.set i (a, P')) h' := by
  obtain ⟨hl, he⟩ := List.getElem?_eq_some_iff.mp hi
  have hm := List.mem_of_getElem? hi
  have e : (l.set i (a, P')).map (·.1) = l.map (·.1) := by
    rw [List.map_set]
    refine List.ext_getElem? fun j => ?_
    rw [List.getElem?_set]
    split
    · rename_i hij; subst hij
      rw [List.length_map, if_pos hl, List.getElem?_map, hi]; rfl
    · rfl
  have one : ∀ c ∈ l, c.1 = a → c = (a, P) := fun c hc ec => by
    obtain ⟨j, hj, rfl⟩ := List.mem_iff_getElem.mp hc
    have hnd := D.nd
    have : i = j := by
      refine (List.getElem_inj (h₀ := by rw [List.length_map]; exact hl) (h₁ := by rw [List.length_map]; exact hj) hnd).mp ?_
      rw [List.getElem_map, List.getElem_map, he, ec]
    subst this
    exact he
  refine ⟨fun b o' eb => ?_, fun c hc => ?_, by rw [e]; exact D.nd, fun c hc => ?_, by rw [hs.1]; exact D.sz⟩
  · have : b ≠ a := by
      rintro rfl
      have := D.new _ hm
      rw [eb] at this; cases this
    exact (hs.2 b this).trans (D.keep b o' eb)
  · obtain ⟨j, hj, rfl⟩ := List.mem_iff_getElem.mp hc
    rw [List.getElem_set]
    split
    · exact hp
    · rename_i hij
      have hj' : j < l.length := by simpa using hj
      have hc' : l[j] ∈ l := List.getElem_mem hj'
      obtain ⟨o', e', q⟩ := D.has _ hc'
      refine ⟨o', (hs.2 _ fun z => ?_).trans e', q⟩
      refine hij ((List.getElem_inj (h₀ := by rw [List.length_map]; exact hl) (h₁ := by rw [List.length_map]; exact hj') D.nd).mp ?_)
      rw [List.getElem_map, List.getElem_map, he, z]
  · rcases List.mem_or_eq_of_mem_set hc with hc | rfl
    · exact D.new c hc
    · exact D.new (a, P) hm
theorem Ldg.upd (D : Ldg hT l h) {i : Nat} {f : Obj → Obj} (hi : l[i]? = some (a, P)) (hp : ∀ o, P o → P' (f o) ∧ (f o).isFreed = false) : Ldg hT (l.set i (a, P')) (h.update a f) := by
  obtain ⟨o, e, q⟩ := D.get hi
  exact D.same hi (Heap.SameBut.update ..) ⟨f o, Heap.get?_update_self _ e (hp o q).2, (hp o q).1⟩
theorem Ldg.ns (D : Ldg hT l h) {i : Nat} {ns : List Str} {vs : List (Option Value)} (hi : l[i]? = some (a, Frm ns vs)) : h.Ns a (look ns vs) := by
  obtain ⟨o, e, es, ep, r⟩ := D.get hi
  exact ⟨o, es, ep, e, r⟩
theorem frm_of_ns {ns : List Str} {vs : List (Option Value)} {m : Str → Option Value} (x : h.Ns a m) (e : ∀ y, m y = look ns vs y) : ∃ o, h.get? a = some o ∧ Frm ns vs o := by
  obtain ⟨o, es, ep, g, d, k, f⟩ := x
  exact ⟨o, g, es, ep, d, k, fun y => (f y).trans (e y)⟩
end
theorem lookup_of_mem {α : Type} : ∀ {l : List (Str × α)} {n : Str} {c : α}, (l.map (·.1)).Nodup → (n, c) ∈ l → l.lookup n = some c
  | (m, d) :: l, n, c, hn, h => by
    rw [List.map_cons, List.nodup_cons] at hn
    rcases List.mem_cons.mp h with e | h
    · cases e; simp [List.lookup]
    · have : n ≠ m := fun e => hn.1 (List.mem_map.mpr ⟨(n, c), h, e⟩)
      have e : (n == m) = false := by simpa using this
      rw [List.lookup_cons, e]
      exact lookup_of_mem hn.2 h
theorem look_at : ∀ {ns : List Str} {vs : List (Option Value)} {i : Nat} {x : Str} {v : Option Value}, ns.Nodup → ns[i]? = some x → vs[i]? = some v → look ns vs x = v
  | [], _, _, _, _, _, h, _ => by cases h
  | _ :: _, [], _, _, _, _, _, h => by cases h
  | n :: ns, w :: vs, 0, x, v, _, h1, h2 => by cases h1; cases h2; simp [look]
  | n :: ns, w :: vs, i + 1, x, v, hn, h1, h2 => by
    have hm : x ∈ ns := List.mem_of_getElem? (by simpa using h1)
    have : ¬ x = n := fun e => (List.nodup_cons.mp hn).1 (e ▸ hm)
    rw [look, if_neg this]
    exact look_at (List.nodup_cons.mp hn).2 (by simpa using h1) (by simpa using h2)
theorem look_not : ∀ {ns : List Str} {vs : List (Option Value)} {x : Str}, x ∉ ns → look ns vs x = none
  | [], _, _, _ => rfl
  | _ :: _, [], _, _ => rfl
  | n :: ns, w :: vs, x, h => by
    have h1 : ¬ x = n := fun e => h (by rw [e]; exact .head _)
    rw [look, if_neg h1]
    exact look_not fun e => h (.tail _ e)
theorem look_set : ∀ {ns : List Str} {vs : List (Option Value)} {i : Nat} {x : Str} {v : Value}, ns.Nodup → ns[i]? = some x → i < vs.length → ∀ y, (if y = x then some v else look ns vs y) = look ns (vs.set i (some v)) y
  | [], _, _, _, _, _, h, _ => by cases h
  | _ :: _, [], _, _, _, _, _, h => by cases h
  | n :: ns, w :: vs, 0, x, v, _, h1, _ => fun y => by
    cases h1
    show _ = if y = n then some v else look ns vs y
    by_cases e : y = n
    · rw [if_pos e, if_pos e]
    · rw [if_neg e, if_neg e, look, if_neg e]
  | n :: ns, w :: vs, i + 1, x, v, hn, h1, h2 => fun y => by
    have hm : x ∈ ns := List.mem_of_getElem? (by simpa using h1)
    have hx : ¬ n = x := fun e => (List.nodup_cons.mp hn).1 (e ▸ hm)
    have ih := look_set (v := v) (List.nodup_cons.mp hn).2 (by simpa using h1 : ns[i]? = some x) (by simpa using h2) y
    show _ = if y = n then w else look ns (vs.set i (some v)) y
    rw [← ih, look]
    by_cases e : y = n
    · subst e; rw [if_neg hx, if_pos rfl, if_pos rfl]
    · rw [if_neg e, if_neg e]
theorem look_binds {ns : List Str} {vs : List (Option Value)} {bs : List (Str × Value)} (hn : ns.Nodup) (hl : vs.length = ns.length)
    (h1 : ∀ x ∈ bs.map (·.1), x ∈ ns) (h2 : ∀ p ∈ ns.zip vs, bs.reverse.lookup p.1 = p.2) : ∀ x, bs.reverse.lookup x = look ns vs x := fun x => by
  by_cases hx : x ∈ ns
  · obtain ⟨i, hi, rfl⟩ := List.mem_iff_getElem.mp hx
    have hv : i < vs.length := by omega
    have z : (ns[i], vs[i]) ∈ ns.zip vs := by
      rw [List.mem_iff_getElem]
      exact ⟨i, by rw [List.length_zip]; omega, by rw [List.getElem_zip]⟩
    rw [h2 _ z]
    exact (look_at hn (List.getElem?_eq_getElem hi) (List.getElem?_eq_getElem hv)).symm
  · rw [look_not hx]
    cases q : bs.reverse.lookup x with
    | none => rfl
    | some v => exact absurd (h1 x (List.mem_map.mpr ⟨(x, v), List.mem_reverse.mp (mem_of_lookup q), rfl⟩)) hx
theorem lookup_zip : ∀ {ps : List Str} {as : List Value} {os : List Str}, (ps ++ os).Nodup → as.length = ps.length → ∀ x, (ps.zip as).reverse.lookup x = look (ps ++ os) (as.map some ++ os.map fun _ => none) x := fun {ps as os} hn hl => by
  refine look_binds hn (by simp [hl]) (fun x hx => ?_) (fun p hp => ?_)
  · obtain ⟨q, hq, rfl⟩ := List.mem_map.mp hx
    exact List.mem_append_left _ (List.of_mem_zip hq).1
  · obtain ⟨i, hi, rfl⟩ := List.mem_iff_getElem.mp hp
    have hlen : (ps.zip as).length = ps.length := by simp [hl]
    rw [List.getElem_zip]
    have nd : ((ps.zip as).reverse.map (·.1)).Nodup := by
      rw [List.map_reverse, List.map_fst_zip (by omega)]
      exact List.pairwise_reverse.mpr ((List.nodup_append.mp hn).1.imp fun z => Ne.symm z)
    by_cases hip : i < ps.length
    · have e1 : (ps ++ os)[i]'(by simp; omega) = ps[i] := List.getElem_append_left hip
      have e2 : (as.map some ++ os.map fun _ => none)[i]'(by simp; omega) = some (as[i]'(by omega)) := by
        rw [List.getElem_append_left (by simp; omega), List.getElem_map]
      simp only [e1, e2]
      refine lookup_of_mem nd (List.mem_reverse.mpr ?_)
      rw [List.mem_iff_getElem]
      exact ⟨i, by omega, by rw [List.getElem_zip]⟩
    · have hio : i - ps.length < os.length := by simp at hi; omega
      have e1 : (ps ++ os)[i]'(by simp; omega) = os[i - ps.length] := List.getElem_append_right (by omega)
      have e2 : (as.map some ++ os.map fun _ => (none : Option Value))[i]'(by simp; omega) = none := by
        rw [List.getElem_append_right (by simp; omega), List.getElem_map]
      simp only [e1, e2]
      cases q : (ps.zip as).reverse.lookup (os[i - ps.length]) with
      | none => rfl
      | some v =>
        have m := List.mem_reverse.mp (mem_of_lookup q)
        exact absurd rfl ((List.nodup_append.mp hn).2.2 _ (List.of_mem_zip m).1 _ (List.getElem_mem hio))
structure Scp (hT : Heap) (env : Env) (L : Addr) (ns gs : List Str) : Prop where
  abv : hT.objs.size ≤ L
  loc : env.locals = L
  glo : env.globals = mainGlobals
  bui : env.builtins = builtinsNs
  kind : env.scope.kind = .function
  gen : env.scope.isGenerator = false
  cor : env.scope.isCoroutine = false
  all : ∀ n ∈ ns, env.kindOf n = some .local ∧ (n == ("__debug__" : Str)) = false
  alg : ∀ n ∈ gs, env.kindOf n = some .globalImplicit ∧ (n == ("__debug__" : Str)) = false
  nd : ns.Nodup
noncomputable def scopeOk (sc : Scope) (ns gs : List Str) : Bool :=
  sc.kind == .function && !sc.isGenerator && !sc.isCoroutine && ns.all (fun n => sc.names.lookup n == some .local && !(n == ("__debug__" : Str))) && gs.all (fun n => sc.names.lookup n == some .globalImplicit && !(n == ("__debug__" : Str))) && decide ns.Nodup
theorem Scp.of {hT : Heap} {env : Env} {L : Addr} {ns gs : List Str} {sc : Scope} (h : scopeOk sc ns gs = true) (abv : hT.objs.size ≤ L) (e : env.scope = sc) (loc : env.locals = L) (glo : env.globals = mainGlobals) (bui : env.builtins = builtinsNs) : Scp hT env L ns gs := by
  unfold scopeOk at h
  simp only [Bool.and_eq_true, List.all_eq_true, beq_iff_eq, Bool.not_eq_true', decide_eq_true_eq] at h
  obtain ⟨⟨⟨⟨⟨h1, h5⟩, h6⟩, h2⟩, h3⟩, h4⟩ := h
  refine ⟨abv, loc, glo, bui, by rw [e]; exact h1, by rw [e]; exact h5, by rw [e]; exact h6, fun n hn => ?_, fun n hn => ?_, h4⟩
  · exact ⟨by unfold Env.kindOf; rw [e]; exact (h2 n hn).1, (h2 n hn).2⟩
  · exact ⟨by unfold Env.kindOf; rw [e]; exact (h3 n hn).1, (h3 n hn).2⟩
theorem facts_objs {h : Heap} : ∀ {l : List Fact}, (∀ c ∈ l, ∃ o, h.get? c.1 = some o ∧ c.2 o) → ∃ ob : List (Addr × Obj), ob.map (·.1) = l.map (·.1) ∧ (∀ p ∈ ob, h.get? p.1 = some p.2) ∧ ∀ h' : Heap, (∀ p ∈ ob, h'.get? p.1 = some p.2) → ∀ c ∈ l, ∃ o, h'.get? c.1 = some o ∧ c.2 o
  | [], _ => ⟨[], rfl, fun _ hp => (nomatch hp), fun _ _ _ hc => (nomatch hc)⟩
  | c :: l, H => by
    obtain ⟨ob, e1, e2, e3⟩ := facts_objs (l := l) fun c hc => H c (.tail _ hc)
    obtain ⟨o, g, q⟩ := H c (.head _)
    refine ⟨(c.1, o) :: ob, by simp [e1], fun p hp => ?_, fun h' k c' hc => ?_⟩
    · rcases List.mem_cons.mp hp with rfl | hp
      · exact g
      · exact e2 p hp
    · rcases List.mem_cons.mp hc with rfl | hc
      · exact ⟨o, k (c'.1, o) (.head _), q⟩
      · exact e3 h' (fun p hp => k p (.tail _ hp)) c' hc
noncomputable def Led (hT : Heap) (g l : List Fact) (h : Heap) : Prop := Ldg hT (g ++ l) h
section
variable {hT h h' : Heap} {g g' l l' : List Fact} {a : Addr} {P P' : Obj → Prop} {o : Obj}
theorem Led.keep (D : Led hT g l h) : ∀ b o, hT.get? b = some o → h.get? b = some o := Ldg.keep D
theorem Led.sz (D : Led hT g l h) : hT.objs.size ≤ h.objs.size := Ldg.sz D
theorem Led.atG (D : Led hT g l h) {i : Nat} (hi : AtI g i (a, P)) : ∃ o, h.get? a = some o ∧ P o := Ldg.has D _ (List.mem_append_left _ (List.mem_of_getElem? hi.get))
theorem Led.atL (D : Led hT g l h) {i : Nat} (hi : AtI l i (a, P)) : ∃ o, h.get? a = some o ∧ P o := Ldg.has D _ (List.mem_append_right _ (List.mem_of_getElem? hi.get))
theorem Led.tail {c : Fact} (D : Led hT g (c :: l) h) : Led hT g l h := Ldg.sub D (List.Sublist.append (List.Sublist.refl _) (List.sublist_cons_self _ _))
theorem Led.sub (D : Led hT g l h) (hs : l'.Sublist l) : Led hT g l' h := Ldg.sub D (List.Sublist.append (List.Sublist.refl _) hs)
theorem Led.push (D : Led hT g l h) (hf : o.isFreed = false) (hp : P o) : Led hT g ((h.objs.size, P) :: l) (h.push o) := Ldg.perm (Ldg.push D hf hp) (List.perm_middle).symm
theorem Led.sameG (D : Led hT g l h) {i : Nat} (hi : AtI g i (a, P)) (hg : SetI g i (a, P') g') (hs : Heap.SameBut a h h') (hp : ∃ o', h'.get? a = some o' ∧ P' o') : Led hT g' l h' := by
  have z := Ldg.same (i := i) (P := P) (P' := P') D (by rw [List.getElem?_append_left hg.lt]; exact hi.get) hs hp
  rw [List.set_append_left _ _ hg.lt, hg.eq] at z
  exact z
theorem Led.sameL (D : Led hT g l h) {i : Nat} (hi : AtI l i (a, P)) (hg : SetI l i (a, P') l') (hs : Heap.SameBut a h h') (hp : ∃ o', h'.get? a = some o' ∧ P' o') : Led hT g l' h' := by
  have z := Ldg.same (i := g.length + i) (P := P) (P' := P') D (by rw [List.getElem?_append_right (by omega), Nat.add_sub_cancel_left]; exact hi.get) hs hp
  rw [List.set_append_right _ _ (by omega), Nat.add_sub_cancel_left, hg.eq] at z
  exact z
theorem Led.lt (D : Led hT g l h) {i : Nat} (hi : AtI l i (a, P)) : a < h.objs.size := Ldg.lt D (List.mem_append_right _ (List.mem_of_getElem? hi.get))
theorem Led.ns {ns : List Str} {vs : List (Option Value)} {i : Nat} (D : Led hT g l h) (hi : AtI l i (a, Frm ns vs)) : h.Ns a (look ns vs) := by
  obtain ⟨o, e, es, ep, r⟩ := D.atL hi
  exact ⟨o, es, ep, e, r⟩
theorem Led.move {c : Fact} (D : Led hT g (c :: l) h) : Led hT (c :: g) l h := Ldg.perm D List.perm_middle
theorem Led.grow (D : Led hT g l h) (hk : ∀ b o, h.get? b = some o → h'.get? b = some o) (hz : h.objs.size ≤ h'.objs.size) : Led hT g l h' :=
  ⟨fun b o e => hk b o (D.keep b o e), fun c hc => let ⟨o, e, q⟩ := Ldg.has D c hc; ⟨o, hk _ _ e, q⟩, Ldg.nd D, Ldg.new D, Nat.le_trans D.sz hz⟩
theorem Led.news {L : Addr} (D : Led hT g ((L, P) :: l) h) : ∃ ob : List (Addr × Obj), News hT L h ob ∧
    ∀ h' ns vs m, Fr hT L h' m → (∀ y, m y = look ns vs y) → News hT L h' ob → Led hT g ((L, Frm ns vs) :: l) h' := by
  have D := Ldg.perm D List.perm_middle
  have nl : ∀ c ∈ g ++ l, c.1 ≠ L := fun c hc e => by
    have := D.nd
    rw [List.map_cons, List.nodup_cons] at this
    exact this.1 (List.mem_map.mpr ⟨c, hc, e⟩)
  obtain ⟨ob, e1, e2, e3⟩ := facts_objs (h := h) (l := g ++ l) fun c hc => D.has c (.tail _ hc)
  refine ⟨ob, fun p hp => ?_, fun h' ns vs m F e N => Ldg.perm (l := (L, Frm ns vs) :: (g ++ l)) ⟨F.keep, fun c hc => ?_, D.nd, fun c hc => ?_, Nat.le_trans F.above (Nat.le_of_lt F.ns.lt)⟩ (List.perm_middle).symm⟩
  · have : p.1 ∈ (g ++ l).map (·.1) := e1 ▸ List.mem_map_of_mem hp
    obtain ⟨c, hc, q⟩ := List.mem_map.mp this
    rw [← q]
    exact ⟨q ▸ e2 p hp, nl c hc, D.new c (.tail _ hc)⟩
  · rcases List.mem_cons.mp hc with rfl | hc
    · exact frm_of_ns F.ns e
    · exact e3 h' (fun p hp => (N p hp).1) c hc
  · rcases List.mem_cons.mp hc with rfl | hc
    · exact D.new (L, P) (.head _)
    · exact D.new c (.tail _ hc)
end
section
variable {M : Model} {A : Around} {E : Value → Shared → Prop} {s : Shared} {h hT : Heap} {t : Nat} {env : Env} {L : Addr} {ns gs : List Str} {vs : List (Option Value)} {g l : List Fact}
theorem ld {x : Str} {pos : Pos} {v : Value} {Q : Value → Shared → Prop} (D : Led hT g ((L, Frm ns vs) :: l) h) (S : Scp hT env L ns gs) {i : Nat} (hn : AtI ns i x) (hv : AtI vs i (some v)) (k : Q v (At s h t)) :
    wpAny M A (eval (.Name x pos) env) Q E (At s h t) := by
  have hx := S.all x (List.mem_of_getElem? hn.get)
  refine wpAny_Name (wpAny_loadName_local S.kind hx.1 (m := look ns vs) ?_ (look_at S.nd hn.get hv.get) k) hx.2
  rw [S.loc]
  exact D.ns .z
theorem ldn {x : Str} {v : Value} {Q : Value → Shared → Prop} (D : Led hT g ((L, Frm ns vs) :: l) h) (S : Scp hT env L ns gs) {i : Nat} (hn : AtI ns i x) (hv : AtI vs i (some v)) (k : Q v (At s h t)) :
    wpAny M A (loadName env x) Q E (At s h t) := by
  have hx := S.all x (List.mem_of_getElem? hn.get)
  refine wpAny_loadName_local S.kind hx.1 (m := look ns vs) ?_ (look_at S.nd hn.get hv.get) k
  rw [S.loc]
  exact D.ns .z
theorem st {x : Str} {v : Value} {Q : Unit → Shared → Prop} (D : Led hT g ((L, Frm ns vs) :: l) h) (S : Scp hT env L ns gs) {i : Nat} {vs' : List (Option Value)} (hn : AtI ns i x) (hi : SetI vs i (some v) vs')
    (k : ∀ h' t', Led hT g ((L, Frm ns vs') :: l) h' → Q () (At s h' t')) : wpAny M A (storeName env x v) Q E (At s h t) := by
  have hx := S.all x (List.mem_of_getElem? hn.get)
  refine wpAny_storeName_local hx.1 (m := look ns vs) ?_ (fun h' hn' hs => ?_) (by rw [S.kind]; rfl)
  · rw [S.loc]; exact D.ns .z
  · rw [S.loc] at hn' hs
    exact k h' _ (D.sameL .z .z hs (frm_of_ns hn' (by rw [← hi.eq]; exact look_set S.nd hn.get hi.lt)))
theorem Led.fr (D : Led hT g ((L, Frm ns vs) :: l) h) (S : Scp hT env L ns gs) : Fr hT L h (look ns vs) := ⟨D.ns .z, D.keep, S.abv⟩
end
structure Tp (w : World) (mg mb : Str → Option Value) (hT : Heap) : Prop where
  X : (hd.heap_39 w.params).In hT
  g : hT.Ns mainGlobals mg
  b : hT.Ns builtinsNs mb
  lim : hT.NoLimit
  bi : ∀ x : Str, x ≠ "__name__" → mb x = bootBuiltins x
  bm : ∃ bm ob, mg "__builtins__" = some (.ref bm) ∧ bm ≠ builtinsNs ∧ hT.get? bm = some ob ∧ ob.cls = .type "module" ∧ ob.dict = some builtinsNs ∧ ob.data = .plain
  c1 : CodeHd hT 146 142
  c2 : CodeHd hT 139 135
noncomputable def P0 : Params := { strHash := fun _ => 0, shareClass := fun _ => 0, mergeTok := id, idOf := fun _ => 0, idOfShared := fun _ _ => 0, followText := fun _ => false, idOfImm := fun _ => 0 }
noncomputable def fd (F : Addr) : FuncData := match (hd.heap_39 P0).lookup F with
  | some ⟨_, _, .func f, _⟩ => f
  | _ => default
noncomputable def bd (F : Addr) : List Stmt := match (fd F).body with
  | .stmts b => b
  | _ => []
structure FnAt (w : World) (F : Addr) (ps os gs : List Str) : Prop where
  obj : (hd.heap_39 w.params).lookup F = some ⟨.type "function", none, .func (fd F), #[]⟩
  code : codeIn (hd.heap_39 w.params) (fd F).code (fd F).qualname = true
  body : (fd F).body = .stmts (bd F)
  scope : scopeOk (fd F).scope (ps ++ os) gs = true
  cells : (fd F).scope.names.all (fun x => x.2 != .cell) = true
  plain : (fd F).globals = mainGlobals ∧ (fd F).builtins = builtinsNs
  par : (fd F).params.args.map (·.arg) = ps
section
variable {prog : Program} {w : World} {A : Around} {E : Value → Shared → Prop} {s : Shared} {h hT : Heap} {t : Nat} {env : Env} {L : Addr} {ns gs : List Str} {vs : List (Option Value)} {g l : List Fact} {mg mb : Str → Option Value}
theorem gv {M : Model} {x : Str} {pos : Pos} {v : Value} {Q : Value → Shared → Prop} (D : Led hT g l h) (T : Tp w mg mb hT) (S : Scp hT env L ns gs) {i : Nat} (hn : AtI gs i x) (hv : mg x = some v) (k : Q v (At s h t)) :
    wpAny M A (eval (.Name x pos) env) Q E (At s h t) := by
  have hx := S.alg x (List.mem_of_getElem? hn.get)
  refine Name_function_global S.kind hx.1 (loadGlobal_global (mg := mg) ?_ hv k) hx.2
  rw [S.glo]; exact T.g.keeps D.keep
theorem bv {M : Model} {x : Str} {pos : Pos} {v : Value} {Q : Value → Shared → Prop} (D : Led hT g l h) (T : Tp w mg mb hT) (S : Scp hT env L ns gs) {i : Nat} (hn : AtI gs i x) (hv : mg x = none ∧ mb x = some v) (k : Q v (At s h t)) :
    wpAny M A (eval (.Name x pos) env) Q E (At s h t) := by
  have hx := S.alg x (List.mem_of_getElem? hn.get)
  refine Name_function_global S.kind hx.1 (loadGlobal_builtin (mg := mg) (mb := mb) ?_ hv.1 ?_ hv.2 k) hx.2
  · rw [S.glo]; exact T.g.keeps D.keep
  · rw [S.bui]; exact T.b.keeps D.keep
theorem call_top {R : Result → Shared → Prop} {F : Addr} {ps os : List Str} {args : Args} {as : List Value} (D : Led hT g l h) (T : Tp w mg mb hT) (N : FnAt w F ps os gs) (hroom : A.depth < recursionLimit)
    (hb : BindsTo (At s h t) (fd F) args (ps.zip as)) (hl : as.length = ps.length) (en : ps ++ os = ns) (ev : as.map some ++ os.map (fun _ => none) = vs)
    (k : ∀ L h₁ t₁, Led hT g ((L, Frm ns vs) :: l) h₁ → Scp hT (callEnv (fd F) L F) L ns gs →
      wpAny (model prog w) (A.deeper (callEnv (fd F) L F)) (execs (bd F) (callEnv (fd F) L F)) (fun f s' => R (.ok (.ret (match f with | .ret v => v | _ => .none))) s')
        (fun e s' => wpAny (model prog w) (A.deeper (callEnv (fd F) L F)) (leaving (callEnv (fd F) L F) e) (fun _ s'' => R (.error e) s'') (fun e' s'' => R (.error e') s'') s') (At s h₁ t₁)) :
    codeAny (model prog w) A (.call (.ref F) args) R (At s h t) := by
  have ho := N.obj
  subst en ev
  have hsc := Scp.of (hT := hT) (env := callEnv (fd F) h.objs.size F) (L := h.objs.size) (ns := ps ++ os) (gs := gs) N.scope D.sz rfl rfl N.plain.1 N.plain.2
  refine codeAny_call_def (fd := fd F) (body := bd F) (binds := ps.zip as) hroom (D.keep _ _ (T.X _ _ ho)) rfl (T.lim.keeps D.keep) ((codeRec_of T.X N.code).keeps D.keep) N.body hb ?_ (fun x hx => ?_) (fun h₁ hns hk => ?_) hsc.cor hsc.gen hsc.kind
  · intro x hx
    have := List.all_eq_true.mp N.cells x hx
    simpa using this
  · exact (hsc.all x.1 (List.mem_append_left _ (List.of_mem_zip hx).1)).1
  · refine k h.objs.size h₁ _ ?_ hsc
    have D₁ := D.grow hk (Nat.le_of_lt hns.lt)
    have e := frm_of_ns hns (lookup_zip hsc.nd hl)
    refine Ldg.perm (l := (h.objs.size, Frm (ps ++ os) _) :: (g ++ l)) ⟨D₁.keep, fun c hc => ?_, ?_, fun c hc => ?_, D₁.sz⟩ (List.perm_middle).symm
    · rcases List.mem_cons.mp hc with rfl | hc
      · exact e
      · exact Ldg.has D₁ c hc
    · rw [List.map_cons, List.nodup_cons]
      refine ⟨fun hm => ?_, Ldg.nd D⟩
      obtain ⟨c, hc, e⟩ := List.mem_map.mp hm
      have := Ldg.lt D hc
      rw [e] at this
      exact Nat.lt_irrefl _ this
    · rcases List.mem_cons.mp hc with rfl | hc
      · show hT.get? h.objs.size = none
        cases q : hT.get? h.objs.size with
        | none => rfl
        | some o' => exact absurd (Heap.lt_size (D.keep _ _ q)) (Nat.lt_irrefl _)
      · exact Ldg.new D c hc
end
structure Rm (n : Nat) (A : Around) (es : List Env) : Prop where
  dep : A.depth + n ≤ 700
  uni : A.units + 8 * n ≤ 6000
  hnd : A.handled = none
  frs : A.frames = some es
  grd : A.guards = some []
theorem Rm.mono {n m : Nat} {A : Around} {es : List Env} (r : Rm n A es) (h : m ≤ n) : Rm m A es := ⟨by have := r.dep; omega, by have := r.uni; omega, r.hnd, r.frs, r.grd⟩
theorem Rm.deeper {n : Nat} {A : Around} {es : List Env} (r : Rm (n + 1) A es) (env : Env) : Rm n (A.deeper env) (env :: es) :=
  ⟨by show A.depth + 1 + n ≤ _; have := r.dep; omega, by show A.units + 3 + 8 * n ≤ _; have := r.uni; omega, r.hnd, by show A.frames.map _ = _; rw [r.frs]; rfl, r.grd⟩
theorem Rm.room {n : Nat} {A : Around} {es : List Env} (r : Rm n A es) : A.depth < recursionLimit := by have := r.dep; show _ < 1000; omega
theorem Rm.units {n : Nat} {A : Around} {es : List Env} (r : Rm n A es) : A.units < cLine := by have := r.uni; show _ < 9900; omega
section
variable {prog : Program} {w : World} {A : Around} {E : Value → Shared → Prop} {s : Shared} {h hT : Heap} {t : Nat} {env : Env} {L : Addr} {ns gs : List Str} {vs : List (Option Value)} {g l : List Fact} {mg mb : Str → Option Value} {n : Nat} {es : List Env}
theorem k_int {M : Model} {i : Int} {c : Nat} {pos : Pos} {Q : Value → Shared → Prop} (k : ∀ tk t', Q (.int i tk) (At s h t')) : wpAny M A (eval (.Constant (.int i) c pos) env) Q E (At s h t) := wpAny_Constant_int (k _ _)
theorem k_str {M : Model} {x : Str} {c : Nat} {pos : Pos} {Q : Value → Shared → Prop} (k : ∀ tk t', Q (.str x tk) (At s h t')) : wpAny M A (eval (.Constant (.str x) c pos) env) Q E (At s h t) := wpAny_Constant_str (k _ _)
theorem i_add {a b : Int} {u v : Tok} {Q : Value → Shared → Prop} (k : ∀ tk t', Q (.int (a + b) tk) (At s h t')) : wpAny (model prog w) A (binaryOp .Add (.int a u) (.int b v)) Q E (At s h t) := P.add_int (k _ _)
theorem i_iadd {a b : Int} {u v : Tok} {Q : Value → Shared → Prop} (k : ∀ tk t', Q (.int (a + b) tk) (At s h t')) : wpAny (model prog w) A (inplaceOp .Add (.int a u) (.int b v)) Q E (At s h t) := P.iadd_int (k _ _)
theorem i_mod {a b : Int} {u v : Tok} {Q : Value → Shared → Prop} (hb : b ≠ 0) (k : ∀ tk t', Q (.int (a.fmod b) tk) (At s h t')) : wpAny (model prog w) A (binaryOp .Mod (.int a u) (.int b v)) Q E (At s h t) := mod_int' hb (k _ _)
theorem i_div {a b : Int} {u v : Tok} {Q : Value → Shared → Prop} (D : Led hT g l h) (T : Tp w mg mb hT) (S : Scp hT env L ns gs) (r : Rm n A (env :: es)) (hp : prog.given.tree = none) (hb : b ≠ 0 ∧ b.natAbs < 1073741824) (k : ∀ tk t', Q (.int (a.fdiv b) tk) (At s h t')) :
    wpAny (model prog w) A (binaryOp .FloorDiv (.int a u) (.int b v)) Q E (At s h t) :=
  floordiv_int hb.1 (k _ _) (.inl (PyProof.noPylong_small hb.2))
theorem i_eq {a b : Int} {u v : Tok} {Q : Value → Shared → Prop} (k : Q (.bool (a == b)) (At s h t)) : wpAny (model prog w) A (compareOp .Eq (.int a u) (.int b v)) Q E (At s h t) := P.eq_int k
theorem z_add {x y : Str} {u v : Tok} {Q : Value → Shared → Prop} (hs : x.length + y.length ≤ sizeLine) (k : ∀ tk t', Q (.str (x ++ y) tk) (At s h t')) : wpAny (model prog w) A (binaryOp .Add (.str x u) (.str y v)) Q E (At s h t) :=
  SBL.add (fun _ _ _ => k _ _) hs
theorem z_iadd {x y : Str} {u v : Tok} {Q : Value → Shared → Prop} (hs : x.length + y.length ≤ sizeLine) (k : ∀ tk t', Q (.str (x ++ y) tk) (At s h t')) : wpAny (model prog w) A (inplaceOp .Add (.str x u) (.str y v)) Q E (At s h t) :=
  SBL.iadd (fun _ _ _ => k _ _) hs
theorem z_item {x : Str} {u v : Tok} {i : Int} {value slice : Expr} {Q : Value → Shared → Prop} (h0 : 0 ≤ i) (h2 : i < x.length) (hx : x.length ≤ sizeLine)
    (hs : subscripted slice false (.str x u) (.int i v) = operate [.str x u, .int i v] (getItem (.str x u) (.int i v))) (ht : ∀ r, letTemporaryGo value (.str x u) r = pure ())
    (k : ∀ tk t', Q (.str (Txt.item x i) tk) (At s h t')) : wpAny (model prog w) A (subscriptTail value slice (.str x u) (.int i v)) Q E (At s h t) :=
  item_str (by
    have : (x.length : Int) ≤ 2 ^ 24 := by exact_mod_cast hx
    have e1 : ¬ i < -(2 ^ 63 : Int) := by omega
    have e2 : ¬ i ≥ (2 ^ 63 : Int) := by omega
    unfold fitsSsize
    rw [decide_eq_false e1, decide_eq_false e2]; rfl) (by omega) h2 (fun _ => k _ _) hs ht
end
noncomputable def Flw (N : Shared → Prop) (Q : Flow → Shared → Prop) : Flow → Shared → Prop := fun f s => match f with | .next => N s | f => Q f s
noncomputable def Brn (X Y : Shared → Prop) : Bool → Shared → Prop := fun b s => if b then X s else Y s
noncomputable def Ret (hT : Heap) (g l : List Fact) (s : Shared) (P : Value → Prop) : Result → Shared → Prop := fun r s' => ∃ v h' t', r = .ok (.ret v) ∧ s' = At s h' t' ∧ Led hT g l h' ∧ P v
noncomputable def Out (R : Result → Shared → Prop) : Flow → Shared → Prop := fun f s => R (.ok (.ret (match f with | .ret v => v | _ => .none))) s
section
variable {M : Model} {A : Around} {E : Value → Shared → Prop} {s : Shared} {env : Env} {N X Y : Shared → Prop} {R : Result → Shared → Prop}
theorem x_cons {st : Stmt} {rest : List Stmt} {Q : Flow → Shared → Prop} (k : wpAny M A (exec st env) (Flw (fun s' => wpAny M A (execs rest env) Q E s') Q) E s) : wpAny M A (execs (st :: rest) env) Q E s := wpAny_execs_cons k
theorem x_nil {Q : Flow → Shared → Prop} (k : Q .next s) : wpAny M A (execs [] env) Q E s := wpAny_execs_nil k
theorem f_next {Q : Flow → Shared → Prop} (k : N s) : Flw N Q .next s := k
theorem f_ret {v : Value} {Q : Flow → Shared → Prop} (k : Q (.ret v) s) : Flw N Q (.ret v) s := k
theorem f_cont {Q : Flow → Shared → Prop} (k : Q .cont s) : Flw N Q .cont s := k
theorem o_ret {v : Value} (k : R (.ok (.ret v)) s) : Out R (.ret v) s := k
theorem o_next (k : R (.ok (.ret .none)) s) : Out R .next s := k
theorem x_if {test : Expr} {body orelse : List Stmt} {pos : Pos} {Q : Flow → Shared → Prop} (k : wpAny M A (isTrue test env (eval test env)) (Brn (fun s' => wpAny M A (execs body env) Q E s') (fun s' => wpAny M A (execs orelse env) Q E s')) E s) :
    wpAny M A (exec (.If test body orelse pos) env) Q E s := wpAny_If k
theorem b_two {b : Bool} (x : b = true → X s) (y : b = false → Y s) : Brn X Y b s := by
  cases b with
  | true => exact x rfl
  | false => exact y rfl
theorem b_yes {b : Bool} (e : b = true) (x : X s) : Brn X Y b s := by subst e; exact x
theorem b_no {b : Bool} (e : b = false) (y : Y s) : Brn X Y b s := by subst e; exact y
theorem t_bool {b : Bool} {Q : Bool → Shared → Prop} (k : Q b s) : wpAny M A (truthy (.bool b)) Q E s := wpAny_truthy_bool k
theorem ret_str {hT h : Heap} {g l : List Fact} {s : Shared} {t : Nat} {x y : Str} {tk : Tok} (D : Led hT g l h) (e : x = y) : Ret hT g l s (fun v => ∃ tk, v = .str y tk) (.ok (.ret (.str x tk))) (At s h t) :=
  ⟨_, _, _, rfl, rfl, D, _, by rw [e]⟩
end
section
local macro_rules | `(tactic| walk_at "m") => `(tactic| first
  | with_reducible refine x_cons ?_
  | with_reducible refine x_nil ?_
  | with_reducible refine f_next ?_
  | with_reducible refine f_ret ?_
  | with_reducible refine f_cont ?_
  | with_reducible refine o_ret ?_
  | with_reducible refine x_if ?_
  | with_reducible refine wpAny_Return_some ?_
  | with_reducible refine wpAny_isTrue_Compare1 ?_ (by with_unfolding_all rfl)
  | with_reducible refine wpAny_Compare1 ?_ (by with_unfolding_all rfl)
  | with_reducible refine wpAny_BinOp ?_
  | with_reducible refine Subscript_ ?_
  | with_reducible refine wpAny_Assign_Name ?_ (by with_unfolding_all rfl)
  | with_reducible refine ld (by assumption) (by assumption) (by with_reducible exact AtI.z) (by with_reducible exact AtI.z) ?_
  | with_reducible refine ld (by assumption) (by assumption) (by with_reducible exact (AtI.s AtI.z)) (by with_reducible exact (AtI.s AtI.z)) ?_
  | with_reducible refine ld (by assumption) (by assumption) (by with_reducible exact (AtI.s (AtI.s AtI.z))) (by with_reducible exact (AtI.s (AtI.s AtI.z))) ?_
  | with_reducible refine ld (by assumption) (by assumption) (by with_reducible exact (AtI.s (AtI.s (AtI.s AtI.z)))) (by with_reducible exact (AtI.s (AtI.s (AtI.s AtI.z)))) ?_
  | with_reducible refine ld (by assumption) (by assumption) (by with_reducible exact (AtI.s (AtI.s (AtI.s (AtI.s AtI.z))))) (by with_reducible exact (AtI.s (AtI.s (AtI.s (AtI.s AtI.z))))) ?_
  | with_reducible refine ld (by assumption) (by assumption) (by with_reducible exact (AtI.s (AtI.s (AtI.s (AtI.s (AtI.s AtI.z)))))) (by with_reducible exact (AtI.s (AtI.s (AtI.s (AtI.s (AtI.s AtI.z)))))) ?_
  | with_reducible refine ld (by assumption) (by assumption) (by with_reducible exact (AtI.s (AtI.s (AtI.s (AtI.s (AtI.s (AtI.s AtI.z))))))) (by with_reducible exact (AtI.s (AtI.s (AtI.s (AtI.s (AtI.s (AtI.s AtI.z))))))) ?_
  | with_reducible refine ld (by assumption) (by assumption) (by with_reducible exact (AtI.s (AtI.s (AtI.s (AtI.s (AtI.s (AtI.s (AtI.s AtI.z)))))))) (by with_reducible exact (AtI.s (AtI.s (AtI.s (AtI.s (AtI.s (AtI.s (AtI.s AtI.z)))))))) ?_
  | with_reducible refine ld (by assumption) (by assumption) (by with_reducible exact (AtI.s (AtI.s (AtI.s (AtI.s (AtI.s (AtI.s (AtI.s (AtI.s AtI.z))))))))) (by with_reducible exact (AtI.s (AtI.s (AtI.s (AtI.s (AtI.s (AtI.s (AtI.s (AtI.s AtI.z))))))))) ?_
  | with_reducible refine ld (by assumption) (by assumption) (by with_reducible exact (AtI.s (AtI.s (AtI.s (AtI.s (AtI.s (AtI.s (AtI.s (AtI.s (AtI.s AtI.z)))))))))) (by with_reducible exact (AtI.s (AtI.s (AtI.s (AtI.s (AtI.s (AtI.s (AtI.s (AtI.s (AtI.s AtI.z)))))))))) ?_
  | with_reducible refine ld (by assumption) (by assumption) (by with_reducible exact (AtI.s (AtI.s (AtI.s (AtI.s (AtI.s (AtI.s (AtI.s (AtI.s (AtI.s (AtI.s AtI.z))))))))))) (by with_reducible exact (AtI.s (AtI.s (AtI.s (AtI.s (AtI.s (AtI.s (AtI.s (AtI.s (AtI.s (AtI.s AtI.z))))))))))) ?_
  | with_reducible refine ld (by assumption) (by assumption) (by with_reducible exact (AtI.s (AtI.s (AtI.s (AtI.s (AtI.s (AtI.s (AtI.s (AtI.s (AtI.s (AtI.s (AtI.s AtI.z)))))))))))) (by with_reducible exact (AtI.s (AtI.s (AtI.s (AtI.s (AtI.s (AtI.s (AtI.s (AtI.s (AtI.s (AtI.s (AtI.s AtI.z)))))))))))) ?_
  | (with_reducible refine k_int ?_; intro _ _)
  | (with_reducible refine k_str ?_; intro _ _)
  | (with_reducible refine i_mod (by decide) ?_; intro _ _)
  | (with_reducible refine i_div (by assumption) (by assumption) (by assumption) (by assumption) (by assumption) (by decide) ?_; intro _ _)
  | (with_reducible refine i_add ?_; intro _ _)
  | with_reducible refine i_eq ?_
  | with_reducible refine t_bool ?_
  | (with_reducible refine st (by assumption) (by assumption) (by with_reducible exact AtI.z) (by with_reducible exact SetI.z) ?_; intro _ _ _)
  | (with_reducible refine st (by assumption) (by assumption) (by with_reducible exact (AtI.s AtI.z)) (by with_reducible exact (SetI.s SetI.z)) ?_; intro _ _ _)
  | (with_reducible refine st (by assumption) (by assumption) (by with_reducible exact (AtI.s (AtI.s AtI.z))) (by with_reducible exact (SetI.s (SetI.s SetI.z))) ?_; intro _ _ _)
  | (with_reducible refine st (by assumption) (by assumption) (by with_reducible exact (AtI.s (AtI.s (AtI.s AtI.z)))) (by with_reducible exact (SetI.s (SetI.s (SetI.s SetI.z)))) ?_; intro _ _ _)
  | (with_reducible refine st (by assumption) (by assumption) (by with_reducible exact (AtI.s (AtI.s (AtI.s (AtI.s AtI.z))))) (by with_reducible exact (SetI.s (SetI.s (SetI.s (SetI.s SetI.z))))) ?_; intro _ _ _)
  | (with_reducible refine st (by assumption) (by assumption) (by with_reducible exact (AtI.s (AtI.s (AtI.s (AtI.s (AtI.s AtI.z)))))) (by with_reducible exact (SetI.s (SetI.s (SetI.s (SetI.s (SetI.s SetI.z)))))) ?_; intro _ _ _)
  | (with_reducible refine st (by assumption) (by assumption) (by with_reducible exact (AtI.s (AtI.s (AtI.s (AtI.s (AtI.s (AtI.s AtI.z))))))) (by with_reducible exact (SetI.s (SetI.s (SetI.s (SetI.s (SetI.s (SetI.s SetI.z))))))) ?_; intro _ _ _)
  | (with_reducible refine st (by assumption) (by assumption) (by with_reducible exact (AtI.s (AtI.s (AtI.s (AtI.s (AtI.s (AtI.s (AtI.s AtI.z)))))))) (by with_reducible exact (SetI.s (SetI.s (SetI.s (SetI.s (SetI.s (SetI.s (SetI.s SetI.z)))))))) ?_; intro _ _ _)
  | (with_reducible refine st (by assumption) (by assumption) (by with_reducible exact (AtI.s (AtI.s (AtI.s (AtI.s (AtI.s (AtI.s (AtI.s (AtI.s AtI.z))))))))) (by with_reducible exact (SetI.s (SetI.s (SetI.s (SetI.s (SetI.s (SetI.s (SetI.s (SetI.s SetI.z))))))))) ?_; intro _ _ _)
  | (with_reducible refine st (by assumption) (by assumption) (by with_reducible exact (AtI.s (AtI.s (AtI.s (AtI.s (AtI.s (AtI.s (AtI.s (AtI.s (AtI.s AtI.z)))))))))) (by with_reducible exact (SetI.s (SetI.s (SetI.s (SetI.s (SetI.s (SetI.s (SetI.s (SetI.s (SetI.s SetI.z)))))))))) ?_; intro _ _ _)
  | (with_reducible refine st (by assumption) (by assumption) (by with_reducible exact (AtI.s (AtI.s (AtI.s (AtI.s (AtI.s (AtI.s (AtI.s (AtI.s (AtI.s (AtI.s AtI.z))))))))))) (by with_reducible exact (SetI.s (SetI.s (SetI.s (SetI.s (SetI.s (SetI.s (SetI.s (SetI.s (SetI.s (SetI.s SetI.z))))))))))) ?_; intro _ _ _)
  | (with_reducible refine st (by assumption) (by assumption) (by with_reducible exact (AtI.s (AtI.s (AtI.s (AtI.s (AtI.s (AtI.s (AtI.s (AtI.s (AtI.s (AtI.s (AtI.s AtI.z)))))))))))) (by with_reducible exact (SetI.s (SetI.s (SetI.s (SetI.s (SetI.s (SetI.s (SetI.s (SetI.s (SetI.s (SetI.s (SetI.s SetI.z)))))))))))) ?_; intro _ _ _)
  )
theorem fn_name (w : World) : FnAt w 128 [Str.ofString "n"] [Str.ofString "signs"] [] :=
  ⟨by kernel_rfl, by kernel_rfl, by kernel_rfl, by kernel_rfl, by kernel_rfl, ⟨by kernel_rfl, by kernel_rfl⟩, by kernel_rfl⟩
noncomputable def digs : Str := Str.ofString "01234567"
noncomputable def sgns : Str := Str.ofString "a\"\\ \n#b,"
noncomputable def nm (n : Int) : Str := if n.fmod 3 = 0 then Txt.item digs ((n.fdiv 3).fmod 8) else Txt.item sgns ((n.fdiv 3).fmod 8) ++ Txt.item sgns ((n.fdiv 24).fmod 8)
section
variable {prog : Program} {w : World} {A : Around} {E : Value → Shared → Prop} {s : Shared} {h hT : Heap} {t : Nat} {env : Env} {L : Addr} {ns gs : List Str} {vs : List (Option Value)} {g l : List Fact} {mg mb : Str → Option Value} {k : Nat} {es : List Env}
theorem name_spec {n : Int} {u : Tok} (T : Tp w mg mb hT) (D : Led hT g l h) (r : Rm (k + 1) A es) (hp : prog.given.tree = none) :
    codeAny (model prog w) A (.call (.ref 128) ⟨[.int n u], []⟩) (Ret hT g l s fun v => ∃ tk, v = .str (nm n) tk) (At s h t) := by
  refine call_top (ns := [Str.ofString "n", Str.ofString "signs"]) (vs := [some (.int n u), none]) D T (fn_name w) r.room (as := [.int n u]) (.of_eq (by kernel_rfl)) rfl rfl rfl ?_
  intro L h t D S
  have r := r.deeper (callEnv (fd 128) L 128)
  refine wpAny_mono (Q := Out (Ret hT g l s fun v => ∃ tk, v = .str (nm n) tk)) (E := fun _ _ => False) ?_ (fun _ _ q => q) (fun _ _ q => q.elim)
  refine x_cons (st := _) (rest := _) ?_
  repeat walk_at "m"
  refine b_two (fun e => ?_) (fun e => ?_)
  · repeat walk_at "m"
    refine z_item (fmod_lo _ (by decide)) (Int.lt_of_lt_of_le (fmod_hi _ (by decide)) (by decide +kernel)) (by decide +kernel) (by with_unfolding_all rfl) (by intro _; with_unfolding_all rfl) ?_
    intro _ _
    repeat walk_at "m"
    refine ret_str D.tail ?_
    have e : n.fmod 3 = 0 := by simpa using e
    rw [nm, if_pos e]; rfl
  · repeat walk_at "m"
    refine z_item (fmod_lo _ (by decide)) (Int.lt_of_lt_of_le (fmod_hi _ (by decide)) (by decide +kernel)) (by decide +kernel) (by with_unfolding_all rfl) (by intro _; with_unfolding_all rfl) ?_
    intro _ _
    repeat walk_at "m"
    refine z_item (fmod_lo _ (by decide)) (Int.lt_of_lt_of_le (fmod_hi _ (by decide)) (by decide +kernel)) (by decide +kernel) (by with_unfolding_all rfl) (by intro _; with_unfolding_all rfl) ?_
    intro _ _
    refine z_add (by show 1 + 1 ≤ sizeLine; decide) ?_
    intro _ _
    repeat walk_at "m"
    refine ret_str (Led.tail (by assumption)) ?_
    have e : ¬ n.fmod 3 = 0 := by simpa using e
    rw [nm, if_neg e]; rfl
end
end
noncomputable def CellIs (v : Value) : Obj → Prop := fun o => o.data = .cell (some v)
noncomputable def FnO (f : FuncData) : Obj → Prop := fun o => o.data = .func f
noncomputable def CodeQ (q : Str) : Obj → Prop := fun o => ∃ vs t, o.data = .fields vs ∧ vs[1]? = some (.str q t)
noncomputable def Dct (prog : Program) (w : World) (ks : List Str) (vs : List Value) : Obj → Prop := fun o => o.IsDictOf (strKind prog w) (ks.zip vs)
theorem Led.growF {hT h h' : Heap} {g l : List Fact} {L : Addr} {P : Obj → Prop} (D : Led hT g ((L, P) :: l) h) (ha : hT.objs.size ≤ L) (hk : ∀ b o, h.get? b = some o → h'.get? b = some o) : Led hT g ((L, P) :: l) h' := by
  obtain ⟨o, e, _⟩ := D.atL .z
  exact ⟨fun b o e => hk b o (D.keep b o e), fun c hc => let ⟨o, e, q⟩ := Ldg.has D c hc; ⟨o, hk _ _ e, q⟩, Ldg.nd D, Ldg.new D, Nat.le_trans ha (Nat.le_of_lt (Heap.lt_size (hk _ _ e)))⟩
theorem AtI.mem {α : Type} {l : List α} {i : Nat} {x : α} (h : AtI l i x) : x ∈ l := List.mem_of_getElem? h.get
theorem zip_value {ks : List Str} {vs : List Value} {i : Nat} {x : Str} {v : Value} (hn : ((ks.zip vs).map (·.1)).Nodup) (h1 : AtI ks i x) (h2 : AtI vs i v) : valueAt (ks.zip vs) x = some v := by
  have hm : (x, v) ∈ ks.zip vs := by
    rw [List.mem_iff_getElem?]
    exact ⟨i, by rw [List.getElem?_zip_eq_some]; exact ⟨h1.get, h2.get⟩⟩
  unfold valueAt
  generalize ks.zip vs = l at hn hm
  induction l with
  | nil => cases hm
  | cons p l ih =>
    rw [List.map_cons, List.nodup_cons] at hn
    rw [List.find?_cons]
    by_cases e : p.1 = x
    · rw [decide_eq_true e]
      rcases List.mem_cons.mp hm with rfl | hm
      · rfl
      · exact absurd (by rw [e]; exact List.mem_map_of_mem (f := Prod.fst) hm) hn.1
    · rw [decide_eq_false e]
      rcases List.mem_cons.mp hm with rfl | hm
      · exact absurd rfl e
      · exact ih hn.2 hm
theorem cons_eq {α : Type} {a b : α} {l m : List α} (h1 : a = b) (h2 : l = m) : a :: l = b :: m := by rw [h1, h2]
theorem z_ne {k x : Str} {ks : List Str} (hn : (k :: ks).Nodup) (h : x ∈ ks) : k ≠ x := fun e => (List.nodup_cons.mp hn).1 (e ▸ h)
theorem zip_put {ks : List Str} {i : Nat} {x : Str} (hn : ks.Nodup) (h1 : AtI ks i x) {v : Value} : ∀ {vs vs' : List Value}, SetI vs i v vs' → (ks.zip vs).map (fun kv => if kv.1 = x then (kv.1, v) else kv) = ks.zip vs' := by
  induction h1 with
  | @z _ l =>
    intro vs vs' h2
    cases h2 with
    | @z _ _ m =>
    refine cons_eq (if_pos rfl) ((List.map_congr_left (l := l.zip m) (g := id) fun p hp => ?_).trans (List.map_id _))
    exact if_neg (Ne.symm (z_ne hn (List.of_mem_zip hp).1))
  | s h ih =>
    intro vs vs' h2
    cases h2 with
    | s h2 => refine cons_eq (if_neg (z_ne hn h.mem)) (ih (List.nodup_cons.mp hn).2 h2)
theorem zip_stored {ks : List Str} {vs vs' : List Value} {i : Nat} {x : Str} {v : Value} (hn : ks.Nodup) (hl : ks.length = vs.length) (h1 : AtI ks i x) (h2 : SetI vs i v vs') : stored (ks.zip vs) x v = ks.zip vs' := by
  have ha : (ks.zip vs).any (fun kv => kv.1 = x) = true := by
    rw [List.any_eq_true]
    obtain ⟨hi, he⟩ := List.getElem?_eq_some_iff.mp h1.get
    refine ⟨(ks[i], vs[i]'(by omega)), ?_, by simpa using he⟩
    rw [List.mem_iff_getElem]
    exact ⟨i, by simp; omega, by simp⟩
  unfold stored
  rw [if_pos ha]
  exact zip_put hn h1 h2
section
variable {prog : Program} {w : World} {A : Around} {E : Value → Shared → Prop} {s : Shared} {h hT : Heap} {t : Nat} {env : Env} {L : Addr} {ns gs : List Str} {vs : List (Option Value)} {g l : List Fact} {mg mb : Str → Option Value} {n : Nat} {es : List Env}
theorem fv {M : Model} {x : Str} {pos : Pos} {v : Value} {c : Addr} {i : Nat} {Q : Value → Shared → Prop} (D : Led hT g l h) (hk : env.scope.kind = .function) (hl : env.kindOf x = some .free ∧ (x == ("__debug__" : Str)) = false ∧ (x == ("__classdict__" : Str)) = false)
    (hc : env.cells.lookup x = some c) (hi : AtI g i (c, CellIs v)) (k : Q v (At s h t)) : wpAny M A (eval (.Name x pos) env) Q E (At s h t) :=
  wpAny_Name (wpAny_loadName_free hk hl.1 hc (D.atG hi) k hl.2.2) hl.2.1
theorem c_bi {M : Model} {id : String} {pos : Pos} {e : Expr} {rest : List Expr} {Q : Value → Shared → Prop} (hp : (backTo pos (starEach (e :: rest) env)) = (false, eval e env) :: backTo pos (starEach rest env)) (hq : (backTo pos (starEach rest env)).any (·.1) = false)
    (k : wpAny M A (spliced (backTo pos (starEach (e :: rest) env))) (fun vs s' => wpAny M A (call (.builtin id) vs) Q E s') E s) :
    wpAny M A (callWith pos (.builtin id) [] (backTo pos (starEach (e :: rest) env)) (backToKw pos (keywordEach [] env))) Q E s := by
  rw [hp] at k ⊢
  exact callWith_builtin (by simpa using hq) (evalArgs_plain k)
theorem a_cons {M : Model} {pos : Pos} {e : Expr} {rest : List Expr} {Q : List Value → Shared → Prop} (he : starEach (e :: rest) env = (false, eval e env) :: starEach rest env)
    (k : wpAny M A (eval e env) (fun v s₁ => wpAny M A (spliced (backTo pos (starEach rest env))) (fun vs s₂ => Q (v :: vs) s₂) E s₁) E s) : wpAny M A (spliced (backTo pos (starEach (e :: rest) env))) Q E s := wpAny_items_cons k he
theorem p_none {M : Model} {Q : Value → Shared → Prop} (k : Q .none s) : wpAny M A (evalPart none env) Q E s := wpAny_pure k
theorem p_some {M : Model} {e : Expr} {Q : Value → Shared → Prop} (k : wpAny M A (eval e env) Q E s) : wpAny M A (evalPart (some e) env) Q E s := k
theorem z_len {x : Str} {u : Tok} {Q : Value → Shared → Prop} (hx : x.length ≤ sizeLine) (k : ∀ tk t', Q (.int x.length tk) (At s h t')) : wpAny (model prog w) A (call (.builtin "len") [.str x u]) Q E (At s h t) :=
  P.len_str (by have : (x.length : Int) ≤ 2 ^ 24 := by exact_mod_cast hx
                omega) (k _ _)
theorem i_min {a b : Int} {u v : Tok} {P : Obj → Prop} {Q : Value → Shared → Prop} (D : Led hT g ((L, P) :: l) h) (S : Scp hT env L ns gs) (hh : A.handled = none) (k : ∀ h' tk t', Led hT g ((L, P) :: l) h' → Q (.int (min a b) tk) (At s h' t')) :
    wpAny (model prog w) A (call (.builtin "min") [.int a u, .int b v]) Q E (At s h t) := by
  refine min_two_ints hh fun h' tk hk => ?_
  have D' := D.growF S.abv hk
  by_cases c : b < a
  · rw [if_pos c]
    have e : b = min a b := by omega
    have := k h' v tk D'
    rw [← e] at this
    exact this
  · rw [if_neg c]
    have e : a = min a b := by omega
    have := k h' u tk D'
    rw [← e] at this
    exact this
theorem z_sl {x : Str} {u ui uj : Tok} {i j : Int} {value slice : Expr} {Q : Value → Shared → Prop} (D : Led hT g ((L, Frm ns vs) :: l) h) (S : Scp hT env L ns gs) (hx : x.length ≤ sizeLine)
    (hs : subscripted slice false (.str x u) (.ref h.objs.size) = operate [.ref h.objs.size, .str x u] (getItem (.str x u) (.ref h.objs.size))) (ht : ∀ r, letTemporaryGo value (.str x u) r = pure ())
    (k : ∀ h' tk t', Led hT g ((L, Frm ns vs) :: l) h' → Q (.str (Txt.slice x (some i) (some j)) tk) (At s h' t')) :
    wpAny (model prog w) A (subscriptTail value slice (.str x u) (.ref (At s h t).heap.objs.size)) Q E { At s h t with heap := (At s h t).heap.push { cls := .type "slice", data := .fields #[.int i ui, .int j uj, .none] } } := by
  obtain ⟨ob, N, back⟩ := D.news
  exact slice_strN_ss (s := At s h t) (D.fr S) N (fun h' t' k' F' N' => k h' t' k' (back h' _ _ _ F' (fun _ => rfl) N')) hs ht hx
theorem d_get {x : Str} {u : Tok} {d : Addr} {ks : List Str} {us : List Value} {v : Value} {i j : Nat} {Q : Value → Shared → Prop} (D : Led hT g l h) (hd : AtI g j (d, Dct prog w ks us)) (h1 : AtI ks i x) (h2 : AtI us i v) (k : ∀ t', Q v (At s h t')) :
    wpAny (model prog w) A (getItem (.ref d) (.str x u)) Q E (At s h t) := by
  have z : h.DictOf (strKind prog w) d (ks.zip us) := Heap.dictOf_iff.mpr (D.atG hd)
  have hn : ((ks.zip us).map (·.1)).Nodup := by obtain ⟨_, _, _, _, _, _, _, _, q⟩ := z; exact q
  exact wpAny_getItem_of (knd := strKind prog w) (k := x) (strKind_is prog w x u) z.mapOf (zip_value hn h1 h2) (k _)
theorem d_item {x : Str} {u : Tok} {d : Addr} {ks : List Str} {us : List Value} {v : Value} {i j : Nat} {value slice : Expr} {Q : Value → Shared → Prop} (D : Led hT g l h) (hd : AtI g j (d, Dct prog w ks us)) (h1 : AtI ks i x) (h2 : AtI us i v)
    (hs : subscripted slice false (.ref d) (.str x u) = operate [.ref d, .str x u] (getItem (.ref d) (.str x u))) (k : ∀ t', Q v (At s h t')) :
    wpAny (model prog w) A (subscriptTail value slice (.ref d) (.str x u)) Q E (At s h t) := by
  have z : h.DictOf (strKind prog w) d (ks.zip us) := Heap.dictOf_iff.mpr (D.atG hd)
  exact tail_any (T := "dict") (id := "dict.__getitem__") z.mapOf.typeIs slot_dict_getitem.lookup (d_get D hd h1 h2 k) hs
theorem d_set {x : Str} {u : Tok} {d : Addr} {ks : List Str} {us us' : List Value} {v : Value} {i j : Nat} {g' : List Fact} {Q : Unit → Shared → Prop} (D : Led hT g l h) (hd : AtI g j (d, Dct prog w ks us)) (h1 : AtI ks i x) (h2 : SetI us i v us') (hl : ks.length = us.length) (hz : ks.length ≤ sizeLine)
    (hg : SetI g j (d, Dct prog w ks us') g') (k : ∀ h' t', Led hT g' l h' → Q () (At s h' t')) :
    wpAny (model prog w) A (setItem (.ref d) (.str x u) v) Q E (At s h t) := by
  have z : h.DictOf (strKind prog w) d (ks.zip us) := Heap.dictOf_iff.mpr (D.atG hd)
  have hn : ks.Nodup := by
    obtain ⟨_, _, _, _, _, _, _, _, q⟩ := z
    rwa [List.map_fst_zip (by omega)] at q
  refine wpAny_setItem_pairs (knd := strKind prog w) (k := x) (strKind_is prog w x u) z (fun h' z' hs => ?_) (by simp; omega)
  rw [zip_stored hn hl h1 h2] at z'
  exact k h' _ (D.sameG hd hg hs (Heap.dictOf_iff.mp z'))
end
section
variable {prog : Program} {w : World} {A : Around} {E : Value → Shared → Prop} {s : Shared} {h hT : Heap} {t : Nat} {env : Env} {L : Addr} {ns gs : List Str} {vs : List (Option Value)} {g l : List Fact} {mg mb : Str → Option Value} {n : Nat} {es : List Env}
theorem call_obj {R : Result → Shared → Prop} {F : Addr} {o : Obj} {f : FuncData} {body : List Stmt} {ps os : List Str} {args : Args} {as : List Value} (D : Led hT g l h) (T : Tp w mg mb hT) (hF : h.get? F = some o) (hdt : o.data = .func f) (hcd : h.CodeRec f.code f.qualname)
    (hbody : f.body = .stmts body) (hsc : scopeOk f.scope (ps ++ os) gs = true) (hcell : f.scope.names.all (fun x => x.2 != .cell) = true) (hgl : f.globals = mainGlobals) (hbu : f.builtins = builtinsNs) (hroom : A.depth < recursionLimit)
    (hb : BindsTo (At s h t) f args (ps.zip as)) (hl : as.length = ps.length) (en : ps ++ os = ns) (ev : as.map some ++ os.map (fun _ => none) = vs)
    (k : ∀ L h₁ t₁, Led hT g ((L, Frm ns vs) :: l) h₁ → Scp hT (callEnv f L F) L ns gs →
      wpAny (model prog w) (A.deeper (callEnv f L F)) (execs body (callEnv f L F)) (fun f s' => R (.ok (.ret (match f with | .ret v => v | _ => .none))) s')
        (fun e s' => wpAny (model prog w) (A.deeper (callEnv f L F)) (leaving (callEnv f L F) e) (fun _ s'' => R (.error e) s'') (fun e' s'' => R (.error e') s'') s') (At s h₁ t₁)) :
    codeAny (model prog w) A (.call (.ref F) args) R (At s h t) := by
  subst en ev
  have hsc := Scp.of (hT := hT) (env := callEnv f h.objs.size F) (L := h.objs.size) (ns := ps ++ os) (gs := gs) hsc D.sz rfl rfl hgl hbu
  refine codeAny_call_def (fd := f) (body := body) (binds := ps.zip as) hroom hF hdt (T.lim.keeps D.keep) hcd hbody hb ?_ (fun x hx => ?_) (fun h₁ hns hk => ?_) hsc.cor hsc.gen hsc.kind
  · intro x hx
    have := List.all_eq_true.mp hcell x hx
    simpa using this
  · exact (hsc.all x.1 (List.mem_append_left _ (List.of_mem_zip hx).1)).1
  · refine k h.objs.size h₁ _ ?_ hsc
    have D₁ := D.grow hk (Nat.le_of_lt hns.lt)
    have e := frm_of_ns hns (lookup_zip hsc.nd hl)
    refine Ldg.perm (l := (h.objs.size, Frm (ps ++ os) _) :: (g ++ l)) ⟨D₁.keep, fun c hc => ?_, ?_, fun c hc => ?_, D₁.sz⟩ (List.perm_middle).symm
    · rcases List.mem_cons.mp hc with rfl | hc
      · exact e
      · exact Ldg.has D₁ c hc
    · rw [List.map_cons, List.nodup_cons]
      refine ⟨fun hm => ?_, Ldg.nd D⟩
      obtain ⟨c, hc, e⟩ := List.mem_map.mp hm
      have := Ldg.lt D hc
      rw [e] at this
      exact Nat.lt_irrefl _ this
    · rcases List.mem_cons.mp hc with rfl | hc
      · show hT.get? h.objs.size = none
        cases q : hT.get? h.objs.size with
        | none => rfl
        | some o' => exact absurd (Heap.lt_size (D.keep _ _ q)) (Nat.lt_irrefl _)
      · exact Ldg.new D c hc
end
noncomputable def rdDef : Arguments × List Stmt × Scope := match bd 140 with
  | .FunctionDef _ a b _ _ _ sc _ _ _ :: _ => (a, b, sc)
  | _ => (default, [], default)
noncomputable def fnRead (cs ct : Addr) (pm cd ctup doc : Value) : FuncData :=
  { name := Str.ofString "read", qualname := Str.ofString "_law_reader.<locals>.read", params := rdDef.1, body := .stmts rdDef.2.1, scope := rdDef.2.2, globals := mainGlobals, closure := [(Str.ofString "text", ct), (Str.ofString "spot", cs)], defaults := .none, kwdefaults := .none, doc := doc, pyModule := pm, annotations := none, code := cd, closureTuple := ctup, builtins := builtinsNs }
theorem read_scope : scopeOk rdDef.2.2 ([Str.ofString "size"] ++ [Str.ofString "at"]) [Str.ofString "min", Str.ofString "len"] = true := by kernel_rfl
theorem read_cells : rdDef.2.2.names.all (fun x => x.2 != .cell) = true := by kernel_rfl
theorem read_free (F L cs ct : Addr) (pm cd ctup doc : Value) : (callEnv (fnRead cs ct pm cd ctup doc) L F).kindOf (Str.ofString "spot") = some .free ∧ (callEnv (fnRead cs ct pm cd ctup doc) L F).kindOf (Str.ofString "text") = some .free := ⟨by kernel_rfl, by kernel_rfl⟩
theorem read_clo (F L cs ct : Addr) (pm cd ctup doc : Value) : (callEnv (fnRead cs ct pm cd ctup doc) L F).cells.lookup (Str.ofString "spot") = some cs ∧ (callEnv (fnRead cs ct pm cd ctup doc) L F).cells.lookup (Str.ofString "text") = some ct := ⟨by kernel_rfl, by kernel_rfl⟩
theorem read_bind (cs ct : Addr) (pm cd ctup doc v : Value) : bindArgs (fnRead cs ct pm cd ctup doc) ⟨[v], []⟩ = pure ([Str.ofString "size"].zip [v]) := by kernel_rfl
section
variable {w : World} {mg mb : Str → Option Value} {hT : Heap}
theorem bi_of {x : Str} {v : Value} (T : Tp w mg mb hT) (e1 : nsIn (hd.heap_39 w.params) mainGlobals x = some none) (e2 : bootBuiltins x = some v) (e3 : (x == ("__name__" : Str)) = false) : mg x = none ∧ mb x = some v :=
  ⟨mg_none_of T.X T.g e1, by rw [T.bi x (by simpa using e3)]; exact e2⟩
theorem bi_len (T : Tp w mg mb hT) : mg (Str.ofString "len") = none ∧ mb (Str.ofString "len") = some (.builtin "len") := bi_of T (by kernel_rfl) (by kernel_rfl) (by kernel_rfl)
theorem bi_min (T : Tp w mg mb hT) : mg (Str.ofString "min") = none ∧ mb (Str.ofString "min") = some (.builtin "min") := bi_of T (by kernel_rfl) (by kernel_rfl) (by kernel_rfl)
theorem bi_max (T : Tp w mg mb hT) : mg (Str.ofString "max") = none ∧ mb (Str.ofString "max") = some (.builtin "max") := bi_of T (by kernel_rfl) (by kernel_rfl) (by kernel_rfl)
theorem bi_str (T : Tp w mg mb hT) : mg (Str.ofString "str") = none ∧ mb (Str.ofString "str") = some (.type "str") := bi_of T (by kernel_rfl) (by kernel_rfl) (by kernel_rfl)
theorem bi_int (T : Tp w mg mb hT) : mg (Str.ofString "int") = none ∧ mb (Str.ofString "int") = some (.type "int") := bi_of T (by kernel_rfl) (by kernel_rfl) (by kernel_rfl)
theorem bi_range (T : Tp w mg mb hT) : mg (Str.ofString "range") = none ∧ mb (Str.ofString "range") = some (.type "range") := bi_of T (by kernel_rfl) (by kernel_rfl) (by kernel_rfl)
theorem bi_iter (T : Tp w mg mb hT) : mg (Str.ofString "iter") = none ∧ mb (Str.ofString "iter") = some (.builtin "iter") := bi_of T (by kernel_rfl) (by kernel_rfl) (by kernel_rfl)
theorem bi_filter (T : Tp w mg mb hT) : mg (Str.ofString "filter") = none ∧ mb (Str.ofString "filter") = some (.type "filter") := bi_of T (by kernel_rfl) (by kernel_rfl) (by kernel_rfl)
theorem gl_law_name (T : Tp w mg mb hT) : mg (Str.ofString "_law_name") = some (.ref 128) := mg_of T.X T.g (by kernel_rfl)
theorem gl_law_word (T : Tp w mg mb hT) : mg (Str.ofString "_law_word") = some (.ref 133) := mg_of T.X T.g (by kernel_rfl)
theorem gl_law_reader (T : Tp w mg mb hT) : mg (Str.ofString "_law_reader") = some (.ref 140) := mg_of T.X T.g (by kernel_rfl)
theorem gl_law_lookup (T : Tp w mg mb hT) : mg (Str.ofString "_law_lookup") = some (.ref 147) := mg_of T.X T.g (by kernel_rfl)
theorem gl_law_asked (T : Tp w mg mb hT) : mg (Str.ofString "_law_asked") = some (.ref 154) := mg_of T.X T.g (by kernel_rfl)
theorem gl_law_refused (T : Tp w mg mb hT) : mg (Str.ofString "_law_refused") = some (.ref 161) := mg_of T.X T.g (by kernel_rfl)
theorem gl_law_reach (T : Tp w mg mb hT) : mg (Str.ofString "_law_reach") = some (.ref 168) := mg_of T.X T.g (by kernel_rfl)
theorem gl_law_due (T : Tp w mg mb hT) : mg (Str.ofString "_law_due") = some (.ref 175) := mg_of T.X T.g (by kernel_rfl)
theorem gl_law_column (T : Tp w mg mb hT) : mg (Str.ofString "_law_column") = some (.ref 180) := mg_of T.X T.g (by kernel_rfl)
theorem gl_law_deed (T : Tp w mg mb hT) : mg (Str.ofString "_law_deed") = some (.ref 187) := mg_of T.X T.g (by kernel_rfl)
theorem gl_law_run (T : Tp w mg mb hT) : mg (Str.ofString "_law_run") = some (.ref 192) := mg_of T.X T.g (by kernel_rfl)
theorem gl_get_name_info (T : Tp w mg mb hT) : mg (Str.ofString "_get_name_info") = some (.ref 44) := mg_of T.X T.g (by kernel_rfl)
theorem gl_get_lineno_width (T : Tp w mg mb hT) : mg (Str.ofString "_get_lineno_width") = some (.ref 51) := mg_of T.X T.g (by kernel_rfl)
end
theorem fn_ga : typeLookup (.type "function") "__getattribute__" = pure (some (.builtin "object.__getattribute__")) := by rw [typeLookup_type, builtinLookup_eq_fast]; kernel_rfl
theorem fn_gattr : typeLookup (.type "function") "__getattr__" = pure none := by rw [typeLookup_type, builtinLookup_eq_fast]; kernel_rfl
theorem fn_read : typeLookup (.type "function") "read" = pure none := by rw [typeLookup_type, builtinLookup_eq_fast]; kernel_rfl
theorem canon_ga : (Manifest.canonical "object.__getattribute__" != "object.__getattribute__") = false := by decide +kernel
section
variable {prog : Program} {w : World} {A : Around} {E : Value → Shared → Prop} {h : Heap} {g : Array GenState} {dr : Drawn} {t : Nat} {os : OsState}
theorem tape_entry {a d : Addr} {fd : FuncData} {sl : Array (Option Value)} {mA : Str → Option Value} {v : Value} {tk : Tok} {Q : Fin → Shared → Prop}
    (hx : h.get? a = some ⟨.type "function", some d, .func fd, sl⟩) (hn : h.Ns d mA) (hf : mA (Str.ofString "read") = some v) (hq : Q (.done (.ret v)) ⟨h, g, dr, t, os⟩) :
    wpAny (model prog w) A (Builtin.«object.__getattribute__» ⟨[.ref a, .str (Str.ofString "read") tk], []⟩) Q E ⟨h, g, dr, t, os⟩ := by
  have hT : (⟨h, g, dr, t, os⟩ : Shared).TypeIs (.ref a) "function" := ⟨_, hx, rfl⟩
  have f3 := fn_read
  unfold Builtin.«object.__getattribute__»
  repeat (first | assumption | with_reducible refine wpAny_loadPart_at hx ?_ | (with_reducible refine wpAny_nsGet hn ?_; rw [hf]) | wp_step)
theorem fn_ga_slot : Slot "function" "__getattribute__" "object.__getattribute__" :=
  .of (owner := "object") (n := "__getattribute__") (by rw [typeLookup_type, builtinLookup_eq_fast]; kernel_rfl) (by decide +kernel) (by decide +kernel) (by decide +kernel) (by first | exact .inl (by decide +kernel) | exact .inr (by decide +kernel)) (by rw [isSubtype_type]; kernel_rfl)
theorem entry_ga : entryFor table "object.__getattribute__" = some Builtin.«object.__getattribute__» := entryFor_of_tree (by kernel_rfl)
theorem args_ga (a b : Value) : argsOk "object.__getattribute__" ⟨[a, b], []⟩ := by unfold argsOk; kernel_rfl
theorem tape_attr {a d : Addr} {fd : FuncData} {sl : Array (Option Value)} {mA : Str → Option Value} {v : Addr} {expr : Bool} {Q : Value → Shared → Prop}
    (hx : h.get? a = some ⟨.type "function", some d, .func fd, sl⟩) (hn : h.Ns d mA) (hf : mA (Str.ofString "read") = some (.ref v)) (hq : Q (.ref v) ⟨h, g, dr, t + 1, os⟩) :
    wpAny (model prog w) A (getAttr (.ref a) (Str.ofString "read") expr) Q E ⟨h, g, dr, t, os⟩ := by
  have hT : ∀ t, (⟨h, g, dr, t, os⟩ : Shared).TypeIs (.ref a) "function" := fun _ => ⟨_, hx, rfl⟩
  unfold getAttr getAttrBy
  refine wpAny_bind (wpAny_mkText (wpAny_holding (wpAny_bind (wpAny_typeOf (hT _) ?_))))
  show wpAny _ _ (typeLookup (.type "function") (Str.ofString "__getattribute__") >>= _) _ _ _
  rw [fn_ga]
  have f3 := fn_ga_slot.bind (.ref a)
  have hx0 : (expr && onTheHeap (Value.builtin "object.__getattribute__")) = false := by cases expr <;> rfl
  refine wpAny_bind (wpAny_pure ?_)
  show wpAny _ _ (getAttrByItsOwn (.ref a) (.str (Str.ofString "read") t) (.type "function") (.builtin "object.__getattribute__") true expr) Q E ⟨h, g, dr, t + 1, os⟩
  unfold getAttrByItsOwn
  refine wpAny_bind (show wpAny _ _ (pure none) _ _ _ from wpAny_pure (wpAny_bind (wpAny_attempt (wpAny_holding ?_))))
  unfold callGetattribute
  rw [if_neg (by rw [hx0]; exact Bool.false_ne_true)]
  unfold boundAndCalled
  rw [f3]
  refine wpAny_bind (wpAny_pure ?_)
  refine wpAny_call (codeAny_call_builtin fn_ga_slot.plain entry_ga (fn_ga_slot.check _ _ _ _ _ _ _ _ (hT (t + 1)) (args_ga _ _) (tape_entry hx hn hf ?_)))
  exact wpAny_pure hq
theorem tape_method {a d : Addr} {fd : FuncData} {sl : Array (Option Value)} {mA : Str → Option Value} {v : Addr} {pl : Sem Bool} {Q : Value × List Value → Shared → Prop}
    (hx : h.get? a = some ⟨.type "function", some d, .func fd, sl⟩) (hn : h.Ns d mA) (hf : mA (Str.ofString "read") = some (.ref v)) (hq : Q (.ref v, []) ⟨h, g, dr, t + 1, os⟩) :
    wpAny (model prog w) A (getMethod (.ref a) (Str.ofString "read") pl) Q E ⟨h, g, dr, t, os⟩ := by
  have hT : (⟨h, g, dr, t, os⟩ : Shared).TypeIs (.ref a) "function" := ⟨_, hx, rfl⟩
  unfold getMethod
  refine wpAny_bind (wpAny_specialOf hT fn_ga ?_)
  show wpAny _ _ (if (Manifest.canonical "object.__getattribute__" != "object.__getattribute__") = true then _ else _) _ _ _
  rw [if_neg (by rw [canon_ga]; exact Bool.false_ne_true)]
  refine wpAny_bind (wpAny_specialOf hT fn_gattr ?_)
  refine wpAny_bind (wpAny_specialOf hT fn_read ?_)
  exact wpAny_bind (tape_attr hx hn hf (wpAny_pure hq))
end
section
variable {prog : Program} {w : World} {M : Model} {A : Around} {E : Value → Shared → Prop} {s : Shared} {env : Env}
theorem evalArgs_all {f : Value} : ∀ {ts : List (Bool × Sem Value)} {Q : Args → Shared → Prop}, ts.any (·.1) = false → wpAny M A (spliced ts) (fun vs s' => Q ⟨vs, []⟩ s') E s → wpAny M A (evalArgs f true ts []) Q E s
  | [], Q, _, h => by
    unfold evalArgs
    show wpAny M A (spliced [] >>= _) Q E s
    refine wpAny_bind (wpAny_mono h (fun vs s' h' => ?_) fun _ _ x => x)
    refine wpAny_holding ?_
    exact wpAny_bind (wpAny_pure (wpAny_bind (wpAny_pure (wpAny_pure h'))))
  | (true, _) :: _, _, hp, _ => by simp at hp
  | (false, x) :: rest, Q, _, h => evalArgs_plain h
theorem c_bi' {id : String} {pos : Pos} {first : List Value} {ts : List (Bool × Sem Value)} {Q : Value → Shared → Prop} (hp : ts.any (·.1) = false)
    (k : wpAny M A (spliced ts) (fun vs s' => wpAny M A (call (.builtin id) (first ++ vs)) Q E s') E s) : wpAny M A (callWith pos (.builtin id) first ts (backToKw pos (keywordEach [] env))) Q E s :=
  callWith_builtin hp (evalArgs_all hp k)
theorem c_fn {F : Addr} {pos : Pos} {first : List Value} {ts : List (Bool × Sem Value)} {Q : Value → Shared → Prop} (hp : ts.any (·.1) = false)
    (k : wpAny M A (spliced ts) (fun vs s' => (∃ o f, s'.heap.get? F = some o ∧ o.data = .func f) ∧ wpAny M A (call (.ref F) (first ++ vs)) Q E s') E s) : wpAny M A (callWith pos (.ref F) first ts (backToKw pos (keywordEach [] env))) Q E s := by
  show wpAny M A (callWith pos (.ref F) first ts []) Q E s
  unfold callWith
  refine wpAny_bind (wpAny_holding (evalArgs_all hp (wpAny_mono k (fun vs s₁ h₁ => ?_) fun _ _ x => x)))
  obtain ⟨⟨o, f, ho, hd⟩, hc⟩ := h₁
  refine wpAny_bind (wpAny_standAt ?_)
  have hst : (ts.any (·.1) || ([] : List (Option Str × Sem Value)).any (·.1.isNone)) = false := by rw [hp]; rfl
  have hk : keeperOf (.ref F) = (do let o ← load F; match o.data with
      | .func _ => return Keeper.frame
      | .cls _ => return if (← specialOf (.ref F) "__call__") == some (.builtin "type.__call__") then Keeper.machine else Keeper.caller
      | .fields vs =>
        if o.cls != .type "method" then
          return if o.cls == .type "builtin_function_or_method" || o.cls == .type "method-wrapper" then Keeper.machine else Keeper.caller
        let .ref g := vs.getD 0 .none | return Keeper.machine
        return match (← load g).data with | .func _ => Keeper.boundFrame | _ => Keeper.caller
      | _ => return Keeper.caller) := rfl
  refine wpAny_bind ?_
  rw [hk]
  refine wpAny_bind (wpAny_load ho ?_)
  rw [hd]
  refine wpAny_pure ?_
  rw [hst]
  have fin : wpAny M A (call (.ref F) (first ++ vs)) (fun r s₂ => wpAny M A (do holding [r] point; pure r) Q E s₂) E s₁ :=
    wpAny_mono hc (fun r s₂ hr => wpAny_bind (wpAny_holding (wpAny_point (wpAny_pure hr)))) fun _ _ x => x
  dsimp only
  split
  · exact wpAny_bind fin
  · exact wpAny_bind (wpAny_keep fin)
theorem c_meth {o : Expr} {name : Str} {apos pos : Pos} {args : List Expr} {Q : Value → Shared → Prop}
    (hbase : attributeBase o name env (eval o env) = eval o env) (hfew : methodCallForm (args.length + ([] : List Keyword).length) (backTo pos (starEach args env)) (backToKw pos (keywordEach [] env)) = true) (hline : (apos.endLine == pos.line) = true)
    (k : wpAny M A (eval o env) (fun ov s₁ => wpAny M A (getMethod ov name (do return (← importBound o env).getD true)) (fun fm s₂ => wpAny M A (callWith pos fm.1 fm.2 (backTo pos (starEach args env)) (backToKw pos (keywordEach [] env))) Q E s₂) E s₁) E s) :
    wpAny M A (eval (.Call (.Attribute o name apos) args [] pos) env) Q E s := by
  rw [arm_eval_Call, hbase]
  refine wpAny_bind (wpAny_mono k (fun ov s₁ h₁ => ?_) fun _ _ e => e)
  refine wpAny_bind (wpAny_standAt ?_)
  have hpos : methodCallPos true o env apos pos = pure pos := by unfold methodCallPos; simp [hline]
  unfold methodCall
  rw [hfew]
  refine wpAny_bind (wpAny_holding (wpAny_mono (show wpAny M A (getMethod ov name _) _ _ _ from h₁) (fun fm s₂ h₂ => ?_) fun _ _ e => e))
  exact wpAny_bind (wpAny_of_eq hpos h₂)
end
noncomputable def InstO (C dx : Addr) : Obj → Prop := fun o => o.cls = .ref C ∧ o.dict = some dx ∧ o.data = .plain
noncomputable def DFrm (n : Nat) (ns : List Str) (vs : List (Option Value)) : Obj → Prop := fun o => ∃ es ep, o.data = .dict es ep ∧ StrKeys es ∧ (∀ x, nsFind es x = look ns vs x) ∧ es.size ≤ n
theorem any_refKey {es : Array DictEntry} (hk : StrKeys es) : es.any (·.refKey) = false := by
  rw [Array.any_eq_false']; intro e he; obtain ⟨n, t, h⟩ := hk e he; simp [DictEntry.refKey, h]
theorem DFrm.lookIn {n : Nat} {ns : List Str} {vs : List (Option Value)} {o : Obj} (d : DFrm n ns vs o) (x : Str) : lookIn x o = some (look ns vs x) := by
  obtain ⟨es, ep, e, hk, hf, _⟩ := d
  unfold PySem.W.lookIn
  rw [e]
  have := hf x
  unfold nsFind findBy at this
  rw [← Array.find?_toList] at this
  rw [← this]
  dsimp only
  cases q : es.toList.find? (·.key.isStr x) with
  | some y => rfl
  | none =>
    have z := any_refKey hk
    rw [← Array.any_toList] at z
    rw [z]; rfl
theorem DFrm.put {n : Nat} {ns : List Str} {vs vs' : List (Option Value)} {o : Obj} {x : Str} {hs : Int} {tk : Tok} {v : Value} {i : Nat} (d : DFrm n ns vs o) (hn : ns.Nodup) (h1 : AtI ns i x) (h2 : SetI vs i (some v) vs') :
    DFrm (n + 1) ns vs' (o.putName x hs (.str x tk) v) ∧ ((look ns vs x).isSome = true → DFrm n ns vs' (o.putName x hs (.str x tk) v)) := by
  obtain ⟨es, ep, e, hk, hf, hz⟩ := d
  obtain ⟨c, dd, dt, sl⟩ := o
  simp only at e
  subst e
  have hm : ∀ y, (if y = x then some v else nsFind es y) = look ns vs' y := fun y => by rw [hf y, ← h2.eq]; exact look_set hn h1.get h2.lt y
  rw [Obj.putName_eq]
  unfold Obj.putNameByArray
  dsimp only
  cases hi : es.findIdx? (·.key.isStr x) with
  | some j =>
    dsimp only
    have z : ∀ n', es.size ≤ n' → DFrm n' ns vs' ⟨c, dd, .dict (es.modify j fun e => { e with val := v }) ep, sl⟩ := fun n' hn' => ⟨_, _, rfl, hk.modify _ _, fun y => by
      rw [← hm y]; exact findBy_modify (fun n v => v.isStr n) Value.isStr_inj es x y v j hi, by simpa using hn'⟩
    exact ⟨z _ (Nat.le_succ_of_le hz), fun _ => z _ hz⟩
  | none =>
    dsimp only
    refine ⟨⟨_, _, rfl, hk.push _ _ _ _, fun y => ?_, by simpa using hz⟩, fun q => ?_⟩
    · rw [← hm y]
      exact findBy_push (fun n v => v.isStr n) es x y _ _ v (fun y => by
        show (x == y) = decide (y = x)
        by_cases h : y = x
        · subst h; simp
        · have : ¬ x = y := fun e => h e.symm
          simp [h, this]) hi
    · exfalso
      rw [← hf x] at q
      unfold nsFind findBy at q
      rw [Array.findIdx?_eq_none_iff] at hi
      cases w : es.find? (·.key.isStr x) with
      | none => rw [w] at q; cases q
      | some y =>
        have := hi y (Array.mem_of_find?_eq_some w)
        have p := Array.find?_some w
        rw [p] at this; cases this
section
variable {prog : Program} {w : World} {A : Around} {E : Value → Shared → Prop} {s : Shared} {h hT : Heap} {t : Nat} {env : Env} {L : Addr} {g g' l : List Fact} {mg mb : Str → Option Value}
structure Bare (w : World) (C : Addr) (x : Str) : Prop where
  cls : (clsIn (hd.heap_39 w.params) C).any (·.hasDict) = true
  ga : findIn (hd.heap_39 w.params) (.ref C) "__getattribute__" = some (some (.builtin "object.__getattribute__"))
  sa : findIn (hd.heap_39 w.params) (.ref C) "__setattr__" = some (some (.builtin "object.__setattr__"))
  no : findIn (hd.heap_39 w.params) (.ref C) x = some none
  ov : plainOver (hd.heap_39 w.params) C = true
  tk : takerIn (hd.heap_39 w.params) C x = some none
theorem inst_at {C x dx : Addr} {i j n : Nat} {ns : List Str} {vs : List (Option Value)} (D : Led hT g l h) (hx : AtI g i (x, InstO C dx)) (hd : AtI g j (dx, DFrm n ns vs)) :
    ∃ ox od, InstAt h x ox C (some od) ∧ ox.dict = some dx ∧ h.get? dx = some od ∧ DFrm n ns vs od := by
  obtain ⟨ox, e1, q1, q2, q3⟩ := D.atG hx
  obtain ⟨od, e2, q⟩ := D.atG hd
  exact ⟨ox, od, ⟨e1, q1, by unfold notCls; rw [q3], by rw [q2]; exact e2⟩, q2, e2, q⟩
theorem a_get {C x dx : Addr} {i j n p : Nat} {ns : List Str} {vs : List (Option Value)} {name : Str} {v : Value} {expr : Bool} {Q : Value → Shared → Prop} (D : Led hT g l h) (T : Tp w mg mb hT) (B : Bare w C name) (hx : AtI g i (x, InstO C dx)) (hd : AtI g j (dx, DFrm n ns vs)) (hn : ns.Nodup)
    (h1 : AtI ns p name) (h2 : AtI vs p (some v)) (hh : handedIn v = true) (k : ∀ t', Q v (At s h t')) : wpAny (model prog w) A (getAttr (.ref x) name expr) Q E (At s h t) := by
  obtain ⟨ox, od, I, _, _, F⟩ := inst_at D hx hd
  have X := T.X.keeps D.keep
  obtain ⟨cd, hc, hcd⟩ := Option.any_eq_true .. |>.mp B.cls
  refine get_value (s := At s h t) X I B.ga ?_ hh (k _)
  unfold findObj
  rw [hc, B.no]
  simp only [Option.bind_some]
  unfold W.ownOf
  rw [hcd]
  dsimp only
  rw [if_pos rfl, F.lookIn name, look_at hn h1.get h2.get]
  rfl
theorem a_set {C x dx : Addr} {i j n p : Nat} {ns : List Str} {vs vs' : List (Option Value)} {name : Str} {v u : Value} {Q : Unit → Shared → Prop} (D : Led hT g l h) (T : Tp w mg mb hT) (B : Bare w C name) (hx : AtI g i (x, InstO C dx)) (hd : AtI g j (dx, DFrm n ns vs)) (hn : ns.Nodup) (hz : n ≤ 1000)
    (h1 : AtI ns p name) (h2 : SetI vs p (some v) vs') (h3 : AtI vs p (some u)) (hg : SetI g j (dx, DFrm n ns vs') g') (k : ∀ h' t', Led hT g' l h' → Q () (At s h' t')) : wpAny (model prog w) A (setAttr (.ref x) name v) Q E (At s h t) := by
  obtain ⟨ox, od, I, hdx, hod, F⟩ := inst_at D hx hd
  have X := T.X.keeps D.keep
  obtain ⟨cd, hc, hcd⟩ := Option.any_eq_true .. |>.mp B.cls
  refine set_plain (s := At s h t) X I B.sa (osa_open (s := At s h (t + 1)) X I B.ov B.tk fun b => ?_)
  obtain ⟨hx', hcl, hnn, -⟩ := I
  obtain ⟨oc, odi, oda, osl⟩ := ox
  dsimp only at hcl hdx
  subst hcl hdx
  refine wpAny_bind (wpAny_pure (wpAny_bind (wpAny_bind (wpAny_loadPart hx' (wpAny_bind ((looks_clsIn X hc).here ?_))))))
  rw [hcd]
  refine wpAny_pure (a := some dx) (wpAny_bind (wpAny_pure (wpAny_bind ?_)))
  unfold nsSet
  refine wpAny_bind (wpAny_bind (wpAny_askSetting (wpAny_pure (wpAny_bind (wpAny_mkText (wpAny_bind (wpAny_loadPart hod ?_)))))))
  have P := (F.put (hs := PyData.keyHash w.params name) (tk := t + 1) hn h1 h2).2 (by rw [look_at hn h1.get h3.get]; rfl)
  obtain ⟨es, ep, e, hk, hf, hsz⟩ := id F
  rw [e]
  dsimp only
  rw [aRefKeyMayBeTheName_at, any_refKey hk, Bool.and_false]
  refine wpAny_updatePart hod ?_
  have D' : Led hT g' l (h.update dx (Obj.putName name (PyData.keyHash w.params name) (.str name (t + 1)) v)) := D.sameG hd hg (Heap.SameBut.update ..) ⟨_, Heap.get?_update_self _ hod (by obtain ⟨es', ep', e', _⟩ := P; exact Obj.isFreed_of_dict e'), P⟩
  obtain ⟨es', ep', e', _, _, hsz'⟩ := id P
  refine wpAny_bind (wpAny_lookBehind (Heap.get?_update_self _ hod (Obj.isFreed_of_dict e')) ((congrArg Data.pastItsLine e').trans (pastItsLine_dict (by rw [sizeLine_eq]; omega))) ?_)
  exact wpAny_pure (k _ _ D')
end
noncomputable def LstO (xs : List Value) : Obj → Prop := fun o => ∃ n, o = ⟨.type "list", none, .seq xs.toArray n, #[]⟩
structure Lc where
  (readF readC cSpot cText spot tape tapeD lex lexD push : Addr)
  (pm ctup doc : Value)
  text : Str
  (tt wt : Tok)
  fT : FuncData
  sl : Array (Option Value)
structure Ls where
  place : Nat
  line : Int
  push : List (Str × Tok)
  (pt lt : Tok)
noncomputable def lexNs : List Str := [Str.ofString "lineno", Str.ofString "instream", Str.ofString "whitespace", Str.ofString "pushback"]
noncomputable def blanks : Str := Str.ofString "\n\t\r "
noncomputable def Lx (prog : Program) (w : World) (c : Lc) (σ : Ls) : List Fact :=
  [(c.readF, FnO (fnRead c.cSpot c.cText c.pm (.ref c.readC) c.ctup c.doc)), (c.readC, CodeQ (Str.ofString "_law_reader.<locals>.read")), (c.cSpot, CellIs (.ref c.spot)), (c.cText, CellIs (.str c.text c.tt)),
   (c.spot, Dct prog w [Str.ofString "place"] [.int (σ.place : Int) σ.pt]),
   (c.tape, fun o => o = ⟨.type "function", some c.tapeD, .func c.fT, c.sl⟩), (c.tapeD, DFrm 10 [Str.ofString "read"] [some (.ref c.readF)]),
   (c.lex, InstO 117 c.lexD), (c.lexD, DFrm 10 lexNs [some (.int σ.line σ.lt), some (.ref c.tape), some (.str blanks c.wt), some (.ref c.push)]),
   (c.push, LstO (σ.push.map fun p => .str p.1 p.2))]
noncomputable def sg (x : Str) (p : Nat) : Str := ⟨(x.cps[p]?).toList.toArray⟩
theorem c_min (a b : Nat) : ((min a b : Nat) : Int) = min (a : Int) b := by omega
theorem slice_one (x : Str) (p : Nat) (hp : p ≤ x.length) : Txt.slice x (some (p : Int)) (some ((p : Int) + 1)) = sg x p := by
  have hr : Builtin.Str.strSliceIndices (some (p : Int)) (some ((p : Int) + 1)) 1 x.length = (List.range (min (p + 1) x.length - p)).map (p + ·) := by
    unfold Builtin.Str.strSliceIndices
    have e1 : ¬ (p : Int) < 0 := Int.not_lt.mpr (Int.natCast_nonneg p)
    have e2 : ¬ (p : Int) + 1 < 0 := Int.not_lt.mpr (Int.natCast_nonneg (p + 1))
    simp only [if_neg e1, if_neg e2, if_pos (show (1 : Int) > 0 by decide)]
    have a1 : max (0 : Int) (min (p : Int) (x.length : Int)) = (p : Int) := by rw [Int.min_eq_left (Int.ofNat_le.mpr hp), Int.max_eq_right (Int.natCast_nonneg p)]
    have a2 : max (0 : Int) (min ((p : Int) + 1) (x.length : Int)) = ((min (p + 1) x.length : Nat) : Int) := by
      rw [c_min (p + 1) x.length]
      exact Int.max_eq_right (Int.le_min.mpr ⟨Int.natCast_nonneg (p + 1), Int.natCast_nonneg _⟩)
    rw [a1, a2]
    exact sliceRange_one _ _
  have hl : x.length = x.cps.size := rfl
  unfold Txt.slice
  rw [hr]
  by_cases h : p < x.length
  · have e : min (p + 1) x.length - p = 1 := by omega
    have hg : x.cps[p]? = some (x.cps[p]'(by omega)) := Array.getElem?_eq_getElem (by omega)
    rw [e]
    unfold sg
    rw [hg]
    split
    · rename_i q
      simp at q
      have : p = 0 := by omega
      subst this
      obtain ⟨⟨l⟩⟩ := x
      match l, q with
      | [a], _ => rfl
    · simp [hg]
  · have e : min (p + 1) x.length - p = 0 := by omega
    have hg : x.cps[p]? = none := Array.getElem?_eq_none (by omega)
    rw [e]
    unfold sg
    rw [hg]
    split
    · rename_i q
      simp at q
      obtain ⟨⟨l⟩⟩ := x
      match l, q with
      | [], _ => rfl
    · rfl
local macro_rules | `(tactic| walk_at "len") => `(tactic| first | assumption | decide +kernel)
local macro_rules | `(tactic| walk_at "m") => `(tactic| first | ((with_reducible show wpAny _ _ (eval _ _) _ _ _); walk_at "ex") | ((with_reducible show wpAny _ _ (exec _ _) _ _ _); walk_at "stm") | walk_at "oth")
local macro_rules | `(tactic| walk_at "gl") => `(tactic| first | with_reducible exact gl_law_name (by assumption) | with_reducible exact gl_law_word (by assumption) | with_reducible exact gl_law_reader (by assumption) | with_reducible exact gl_law_lookup (by assumption) | with_reducible exact gl_law_asked (by assumption) | with_reducible exact gl_law_refused (by assumption) | with_reducible exact gl_law_reach (by assumption) | with_reducible exact gl_law_due (by assumption) | with_reducible exact gl_law_column (by assumption) | with_reducible exact gl_law_deed (by assumption) | with_reducible exact gl_law_run (by assumption) | with_reducible exact gl_get_name_info (by assumption) | with_reducible exact gl_get_lineno_width (by assumption))
local macro_rules | `(tactic| walk_at "hnd") => `(tactic| exact Rm.hnd (by assumption))
local macro_rules | `(tactic| walk_at "bi") => `(tactic| first | with_reducible exact bi_len (by assumption) | with_reducible exact bi_min (by assumption) | with_reducible exact bi_max (by assumption) | with_reducible exact bi_str (by assumption) | with_reducible exact bi_int (by assumption) | with_reducible exact bi_range (by assumption) | with_reducible exact bi_iter (by assumption) | with_reducible exact bi_filter (by assumption))
local macro_rules | `(tactic| walk_at "at") => `(tactic| first | with_reducible exact AtI.z | with_reducible exact (AtI.s AtI.z) | with_reducible exact (AtI.s (AtI.s AtI.z)) | with_reducible exact (AtI.s (AtI.s (AtI.s AtI.z))) | with_reducible exact (AtI.s (AtI.s (AtI.s (AtI.s AtI.z)))) | with_reducible exact (AtI.s (AtI.s (AtI.s (AtI.s (AtI.s AtI.z))))) | with_reducible exact (AtI.s (AtI.s (AtI.s (AtI.s (AtI.s (AtI.s AtI.z)))))) | with_reducible exact (AtI.s (AtI.s (AtI.s (AtI.s (AtI.s (AtI.s (AtI.s AtI.z))))))) | with_reducible exact (AtI.s (AtI.s (AtI.s (AtI.s (AtI.s (AtI.s (AtI.s (AtI.s AtI.z)))))))) | with_reducible exact (AtI.s (AtI.s (AtI.s (AtI.s (AtI.s (AtI.s (AtI.s (AtI.s (AtI.s AtI.z))))))))) | with_reducible exact (AtI.s (AtI.s (AtI.s (AtI.s (AtI.s (AtI.s (AtI.s (AtI.s (AtI.s (AtI.s AtI.z)))))))))) | with_reducible exact (AtI.s (AtI.s (AtI.s (AtI.s (AtI.s (AtI.s (AtI.s (AtI.s (AtI.s (AtI.s (AtI.s AtI.z))))))))))))
local macro_rules | `(tactic| walk_at "set") => `(tactic| first | with_reducible exact SetI.z | with_reducible exact (SetI.s SetI.z) | with_reducible exact (SetI.s (SetI.s SetI.z)) | with_reducible exact (SetI.s (SetI.s (SetI.s SetI.z))) | with_reducible exact (SetI.s (SetI.s (SetI.s (SetI.s SetI.z)))) | with_reducible exact (SetI.s (SetI.s (SetI.s (SetI.s (SetI.s SetI.z))))) | with_reducible exact (SetI.s (SetI.s (SetI.s (SetI.s (SetI.s (SetI.s SetI.z)))))) | with_reducible exact (SetI.s (SetI.s (SetI.s (SetI.s (SetI.s (SetI.s (SetI.s SetI.z))))))) | with_reducible exact (SetI.s (SetI.s (SetI.s (SetI.s (SetI.s (SetI.s (SetI.s (SetI.s SetI.z)))))))) | with_reducible exact (SetI.s (SetI.s (SetI.s (SetI.s (SetI.s (SetI.s (SetI.s (SetI.s (SetI.s SetI.z))))))))) | with_reducible exact (SetI.s (SetI.s (SetI.s (SetI.s (SetI.s (SetI.s (SetI.s (SetI.s (SetI.s (SetI.s SetI.z)))))))))) | with_reducible exact (SetI.s (SetI.s (SetI.s (SetI.s (SetI.s (SetI.s (SetI.s (SetI.s (SetI.s (SetI.s (SetI.s SetI.z))))))))))))
section
local macro_rules | `(tactic| walk_at "ex") => `(tactic| first
  | with_reducible refine wpAny_BinOp ?_
  | with_reducible refine Subscript_ ?_
  | with_reducible refine wpAny_Call_ofName ?_
  | (with_reducible refine k_int ?_; intro _ _)
  | (with_reducible refine k_str ?_; intro _ _)
  | with_reducible refine ld (by assumption) (by assumption) (by walk_at "at") (by walk_at "at") ?_
  | with_reducible refine bv (by assumption) (by assumption) (by assumption) (by walk_at "at") (by walk_at "bi") ?_
  | with_reducible refine gv (by assumption) (by assumption) (by assumption) (by walk_at "at") (by walk_at "gl") ?_
  | with_reducible refine wpAny_Slice ?_
  | with_reducible refine wpAny_Compare1 ?_ (by with_unfolding_all rfl)
  | with_reducible refine Attribute_any_ ?_ (by with_unfolding_all rfl)
  | with_reducible refine c_meth (by with_unfolding_all rfl) (by with_unfolding_all rfl) (by with_unfolding_all rfl) ?_)
local macro_rules | `(tactic| walk_at "stm") => `(tactic| first
  | with_reducible refine wpAny_Assign_Name ?_ (by with_unfolding_all rfl)
  | with_reducible refine wpAny_Return_some ?_
  | with_reducible refine x_if ?_
  | with_reducible refine wpAny_Assign_Subscript ?_ (by with_unfolding_all rfl)
  | with_reducible refine wpAny_AugAssign_Name ?_
  | with_reducible refine wpAny_AugAssign_AttributeAny ?_
  | with_reducible refine wpAny_AugAssign_SubscriptAny ?_)
local macro_rules | `(tactic| walk_at "oth") => `(tactic| first
  | with_reducible refine x_cons ?_
  | with_reducible refine f_next ?_
  | with_reducible refine f_ret ?_
  | with_reducible refine o_ret ?_
  | with_reducible refine x_nil ?_
  | with_reducible refine a_cons (by with_unfolding_all rfl) ?_
  | with_reducible refine wpAny_items_nil ?_
  | with_reducible refine c_bi (by with_unfolding_all rfl) (by with_unfolding_all rfl) ?_
  | with_reducible refine p_none ?_
  | with_reducible refine p_some ?_
  | with_reducible refine wpAny_isTrue_Compare1 ?_ (by with_unfolding_all rfl)
  | with_reducible refine t_bool ?_
  | (with_reducible refine st (by assumption) (by assumption) (by walk_at "at") (by walk_at "set") ?_; intro _ _ _)
  | (with_reducible refine i_add ?_; intro _ _)
  | (with_reducible refine i_iadd ?_; intro _ _)
  | (with_reducible refine i_mod (by decide) ?_; intro _ _)
  | (with_reducible refine i_div (by assumption) (by assumption) (by assumption) (by assumption) (by assumption) (by decide) ?_; intro _ _)
  | with_reducible refine i_eq ?_
  | (with_reducible refine i_min (by assumption) (by assumption) (by walk_at "hnd") ?_; intro _ _ _ _)
  | (with_reducible refine z_len (by walk_at "len") ?_; intro _ _)
  | with_reducible refine ldn (by assumption) (by assumption) (by walk_at "at") (by walk_at "at") ?_
  | with_reducible refine f_cont ?_
  | with_reducible refine o_next ?_)
section
variable {prog : Program} {w : World} {A : Around} {E : Value → Shared → Prop} {s : Shared} {h hT : Heap} {t : Nat} {g l : List Fact} {mg mb : Str → Option Value} {k : Nat} {es : List Env} {c : Lc} {σ : Ls}
theorem read_spec {u : Tok} (T : Tp w mg mb hT) (D : Led hT (Lx prog w c σ ++ g) l h) (r : Rm (k + 1) A es) (hx : c.text.length ≤ sizeLine) (hp : σ.place ≤ c.text.length) :
    codeAny (model prog w) A (.call (.ref c.readF) ⟨[.int 1 u], []⟩) (fun res s' => ∃ h' t' tk pt, res = .ok (.ret (.str (sg c.text σ.place) tk)) ∧ s' = At s h' t' ∧
      Led hT (Lx prog w c { σ with place := min (σ.place + 1) c.text.length, pt := pt } ++ g) l h') (At s h t) := by
  obtain ⟨o, hF, hdt⟩ := D.atG (i := 0) .z
  have hcd : h.CodeRec (.ref c.readC) (Str.ofString "_law_reader.<locals>.read") := by
    obtain ⟨o, e, vs, t, e1, e2⟩ := D.atG (i := 1) (.s .z)
    exact ⟨_, o, vs, t, rfl, e, e1, e2⟩
  refine call_obj (ns := [Str.ofString "size", Str.ofString "at"]) (vs := [some (.int 1 u), none]) (as := [.int 1 u]) D T hF hdt hcd rfl read_scope read_cells rfl rfl r.room (.of_eq (read_bind _ _ _ _ _ _ _)) rfl rfl rfl ?_
  clear hF hdt hcd D
  intro L h t D S
  have r := r.deeper (callEnv (fnRead c.cSpot c.cText c.pm (.ref c.readC) c.ctup c.doc) L c.readF)
  have fr := read_free c.readF L c.cSpot c.cText c.pm (.ref c.readC) c.ctup c.doc
  have cl := read_clo c.readF L c.cSpot c.cText c.pm (.ref c.readC) c.ctup c.doc
  refine wpAny_mono (Q := Out (fun res s' => ∃ h' t' tk pt, res = .ok (.ret (.str (sg c.text σ.place) tk)) ∧ s' = At s h' t' ∧
      Led hT (Lx prog w c { σ with place := min (σ.place + 1) c.text.length, pt := pt } ++ g) l h')) (E := fun _ _ => False) ?_ (fun _ _ q => q) (fun _ _ q => q.elim)
  refine x_cons (st := _) (rest := _) ?_
  repeat walk_at "m"
  refine fv D S.kind ⟨fr.1, by decide, by decide⟩ cl.1 (.s (.s .z)) ?_
  repeat walk_at "m"
  refine d_item D (.s (.s (.s (.s .z)))) .z .z (by with_unfolding_all rfl) ?_
  intro _
  repeat walk_at "m"
  refine fv (by assumption) S.kind ⟨fr.2, by decide, by decide⟩ cl.2 (.s (.s (.s .z))) ?_
  repeat walk_at "m"
  refine fv (by assumption) S.kind ⟨fr.1, by decide, by decide⟩ cl.1 (.s (.s .z)) ?_
  repeat walk_at "m"
  rw [show min ((σ.place : Int) + 1) (c.text.length : Int) = ((min (σ.place + 1) c.text.length : Nat) : Int) by omega]
  refine d_set (g' := Lx prog w c { σ with place := min (σ.place + 1) c.text.length, pt := _ } ++ g) (by assumption) (.s (.s (.s (.s .z)))) .z .z rfl (by decide) (.s (.s (.s (.s .z)))) ?_
  intro _ _ _
  repeat walk_at "m"
  refine fv (by assumption) S.kind ⟨fr.2, by decide, by decide⟩ cl.2 (.s (.s (.s .z))) ?_
  repeat walk_at "m"
  refine z_sl (by assumption) S hx (by with_unfolding_all rfl) (by intro _; with_unfolding_all rfl) ?_
  intro _ _ _ D'
  repeat walk_at "m"
  rw [slice_one _ _ hp]
  exact ⟨_, _, _, _, rfl, rfl, D'.tail⟩
end
theorem fn_rchar (w : World) : FnAt w 100 [Str.ofString "self"] [Str.ofString "ch"] [] :=
  ⟨by kernel_rfl, by kernel_rfl, by kernel_rfl, by kernel_rfl, by kernel_rfl, ⟨by kernel_rfl, by kernel_rfl⟩, by kernel_rfl⟩
theorem bare_lineno (w : World) : Bare w 117 (Str.ofString "lineno") := ⟨by kernel_rfl, by kernel_rfl, by kernel_rfl, by kernel_rfl, by kernel_rfl, by kernel_rfl⟩
theorem bare_instream (w : World) : Bare w 117 (Str.ofString "instream") := ⟨by kernel_rfl, by kernel_rfl, by kernel_rfl, by kernel_rfl, by kernel_rfl, by kernel_rfl⟩
theorem bare_whitespace (w : World) : Bare w 117 (Str.ofString "whitespace") := ⟨by kernel_rfl, by kernel_rfl, by kernel_rfl, by kernel_rfl, by kernel_rfl, by kernel_rfl⟩
theorem bare_pushback (w : World) : Bare w 117 (Str.ofString "pushback") := ⟨by kernel_rfl, by kernel_rfl, by kernel_rfl, by kernel_rfl, by kernel_rfl, by kernel_rfl⟩
theorem lexNs_nd : lexNs.Nodup := by decide +kernel
noncomputable def Nx (c : Lc) (σ σ' : Ls) : Prop := σ'.place = min (σ.place + 1) c.text.length ∧ σ'.line = σ.line + (if sg c.text σ.place = Str.ofString "\n" then 1 else 0) ∧ σ'.push = σ.push
section
variable {prog : Program} {w : World} {A : Around} {E : Value → Shared → Prop} {s : Shared} {h hT : Heap} {t : Nat} {g l : List Fact} {mg mb : Str → Option Value} {k : Nat} {es : List Env} {c : Lc} {σ : Ls}
theorem rchar_spec (T : Tp w mg mb hT) (D : Led hT (Lx prog w c σ ++ g) l h) (r : Rm (k + 2) A es) (hx : c.text.length ≤ sizeLine) (hp : σ.place ≤ c.text.length) :
    codeAny (model prog w) A (.call (.ref 100) ⟨[.ref c.lex], []⟩) (fun res s' => ∃ h' t' tk σ', res = .ok (.ret (.str (sg c.text σ.place) tk)) ∧ s' = At s h' t' ∧ Nx c σ σ' ∧ Led hT (Lx prog w c σ' ++ g) l h') (At s h t) := by
  refine call_top (ns := [Str.ofString "self", Str.ofString "ch"]) (vs := [some (.ref c.lex), none]) D T (fn_rchar w) r.room (as := [.ref c.lex]) (.of_eq (by kernel_rfl)) rfl rfl rfl ?_
  clear D
  intro L h t D S
  have r := r.deeper (callEnv (fd 100) L 100)
  refine wpAny_mono (Q := Out (fun res s' => ∃ h' t' tk σ', res = .ok (.ret (.str (sg c.text σ.place) tk)) ∧ s' = At s h' t' ∧ Nx c σ σ' ∧ Led hT (Lx prog w c σ' ++ g) l h')) (E := fun _ _ => False) ?_ (fun _ _ q => q) (fun _ _ q => q.elim)
  refine x_cons (st := _) (rest := _) ?_
  repeat walk_at "m"
  refine a_get D T (bare_instream w) (.s (.s (.s (.s (.s (.s (.s .z))))))) (.s (.s (.s (.s (.s (.s (.s (.s .z)))))))) lexNs_nd (.s .z) (.s .z) rfl ?_
  intro t
  obtain ⟨o, ht, rfl⟩ := D.atG (i := 5) (.s (.s (.s (.s (.s .z)))))
  have hN : h.Ns c.tapeD (look [Str.ofString "read"] [some (.ref c.readF)]) := by
    obtain ⟨o, e, es, ep, q1, q2, q3, _⟩ := D.atG (i := 6) (.s (.s (.s (.s (.s (.s .z))))))
    exact ⟨o, es, ep, e, q1, q2, q3⟩
  refine tape_method ht hN (show look [Str.ofString "read"] [some (.ref c.readF)] (Str.ofString "read") = some (.ref c.readF) from if_pos rfl) ?_
  refine c_fn (by with_unfolding_all rfl) ?_
  show wpAny _ _ _ _ _ (At s h (t + 1))
  repeat walk_at "m"
  refine ⟨let ⟨o, e, q⟩ := D.atG (i := 0) .z; ⟨o, _, e, q⟩, ?_⟩
  refine wpAny_call (codeAny_mono (read_spec T D r hx hp) ?_)
  clear D ht hN
  rintro _ _ ⟨h, t, tk, pt, rfl, rfl, D⟩
  show wpAny _ _ (storeName _ _ _) _ _ _
  repeat walk_at "m"
  refine P.eq_str ?_
  repeat walk_at "m"
  refine b_two (fun e => ?_) (fun e => ?_)
  · have e : sg c.text σ.place = Str.ofString "
" := by
      apply Str.ext'
      simpa using e
    repeat walk_at "m"
    refine a_get (by assumption) T (bare_lineno w) (.s (.s (.s (.s (.s (.s (.s .z))))))) (.s (.s (.s (.s (.s (.s (.s (.s .z)))))))) lexNs_nd .z .z rfl ?_
    intro t
    repeat walk_at "m"
    refine a_set (g' := Lx prog w c { σ with place := min (σ.place + 1) c.text.length, pt := pt, line := σ.line + 1, lt := _ } ++ g) (by assumption) T (bare_lineno w) (.s (.s (.s (.s (.s (.s (.s .z))))))) (.s (.s (.s (.s (.s (.s (.s (.s .z)))))))) lexNs_nd (by decide) .z .z .z (.s (.s (.s (.s (.s (.s (.s (.s .z)))))))) ?_
    intro _ _ _
    repeat walk_at "m"
    refine ⟨_, _, _, _, rfl, rfl, ?_, Led.tail (by assumption)⟩
    exact ⟨rfl, by rw [if_pos e], rfl⟩
  · have e : ¬ sg c.text σ.place = Str.ofString "
" := fun q => by rw [q] at e; simp at e
    repeat walk_at "m"
    refine ⟨_, _, _, _, rfl, rfl, ?_, Led.tail (by assumption)⟩
    exact ⟨rfl, by rw [if_neg e]; exact (Int.add_zero _).symm, rfl⟩
end
theorem Led.push2 {hT h : Heap} {g l : List Fact} {c : Fact} {P : Obj → Prop} {o : Obj} (D : Led hT g (c :: l) h) (hf : o.isFreed = false) (hp : P o) : Led hT g (c :: (h.objs.size, P) :: l) (h.push o) :=
  Ldg.perm (D.push hf hp) (List.Perm.append_left _ (List.Perm.swap ..))
structure Meth (w : World) (C : Addr) (x : Str) (f : Addr) : Prop where
  cls : (clsIn (hd.heap_39 w.params) C).any (·.hasDict) = true
  ga : findIn (hd.heap_39 w.params) (.ref C) "__getattribute__" = some (some (.builtin "object.__getattribute__"))
  gt : findIn (hd.heap_39 w.params) (.ref C) "__getattr__" = some none
  is : findIn (hd.heap_39 w.params) (.ref C) x = some (some (.ref f))
  fn : typeIn (hd.heap_39 w.params) (.ref f) = some (.type "function")
  get : specialIn (hd.heap_39 w.params) (.ref f) "__get__" = some (some (.builtin "function.__get__"))
  tk : takesIn (hd.heap_39 w.params) (.ref f) = some false
  cp : copiedNames.contains x = false
section
variable {prog : Program} {w : World} {A : Around} {E : Value → Shared → Prop} {s : Shared} {h hT : Heap} {t : Nat} {env : Env} {L : Addr} {g g' l : List Fact} {mg mb : Str → Option Value}
theorem a_bound {C x dx f : Addr} {i j n : Nat} {ns : List Str} {vs : List (Option Value)} {name : Str} {expr : Bool} {c : Fact} {Q : Value → Shared → Prop} (D : Led hT g (c :: l) h) (T : Tp w mg mb hT) (B : Meth w C name f) (hx : AtI g i (x, InstO C dx)) (hd : AtI g j (dx, DFrm n ns vs)) (hn : look ns vs name = none)
    (k : ∀ m h' t', Led hT g (c :: (m, fun o => o = methodObj (.ref f) (.ref x)) :: l) h' → Q (.ref m) (At s h' t')) : wpAny (model prog w) A (getAttr (.ref x) name expr) Q E (At s h t) := by
  obtain ⟨ox, od, I, _, _, F⟩ := inst_at D hx hd
  have X := T.X.keeps D.keep
  obtain ⟨cd, hc, hcd⟩ := Option.any_eq_true .. |>.mp B.cls
  refine get_bind (s := At s h t) (g := .builtin "function.__get__") (a := .ref f) X I B.ga ?_ B.gt ?_
  · unfold findObj
    rw [hc, B.is]
    simp only [Option.bind_some]
    rw [B.get]
    simp only [Option.bind_some]
    rw [B.tk]
    simp only [Option.bind_some]
    unfold W.ownOf
    rw [hcd]
    dsimp only
    rw [if_pos rfl, F.lookIn name, hn]
    simp only [Option.bind_some]
    rw [if_neg (by rw [B.cp]; simp)]
  · refine wpAny_call (fn_get (s := At s h (t + 1)) X B.fn ?_)
    show wpAny _ _ (handedOut (.ref _)) _ _ _
    exact wpAny_pure (k _ _ _ (D.push2 rfl rfl))
theorem m_get {C x dx f : Addr} {i j n : Nat} {ns : List Str} {vs : List (Option Value)} {name : Str} {pl : Sem Bool} {Q : Value × List Value → Shared → Prop} (D : Led hT g l h) (T : Tp w mg mb hT) (B : Meth w C name f) (hx : AtI g i (x, InstO C dx)) (hd : AtI g j (dx, DFrm n ns vs)) (hn : look ns vs name = none)
    (k : Q (.ref f, [.ref x]) (At s h t)) : wpAny (model prog w) A (getMethod (.ref x) name pl) Q E (At s h t) := by
  obtain ⟨ox, od, I, _, _, F⟩ := inst_at D hx hd
  have X := T.X.keeps D.keep
  refine method_fn (s := At s h t) X I B.ga B.gt B.is B.fn ?_ k
  unfold shadowIn
  simp [F.lookIn name, hn]
end
noncomputable abbrev citO (m : Addr) (u : Tok) : Obj := { cls := .type "callable_iterator", data := .fields #[.ref m, .str (Str.ofString "") u, .bool false] }
theorem entry_iter : entryFor table "iter" = some Builtin.«iter» := entryFor_of_tree (by kernel_rfl)
theorem args_iter (a b : Value) : argsOk "iter" ⟨[a, b], []⟩ := by unfold argsOk; kernel_rfl
theorem meth_call_slot : typeLookup (.type "method") "__call__" = pure (some (.builtin "method.__call__")) := by rw [typeLookup_type, builtinLookup_eq_fast]; kernel_rfl
theorem cit_iter_slot : Slot "callable_iterator" "__iter__" "callable_iterator.__iter__" :=
  .of (owner := "callable_iterator") (n := "__iter__") (by rw [typeLookup_type, builtinLookup_eq_fast]; kernel_rfl) (by decide +kernel) (by decide +kernel) (by decide +kernel) (by first | exact .inl (by decide +kernel) | exact .inr (by decide +kernel)) (by rw [isSubtype_type]; kernel_rfl)
theorem cit_next_slot : Slot "callable_iterator" "__next__" "callable_iterator.__next__" :=
  .of (owner := "callable_iterator") (n := "__next__") (by rw [typeLookup_type, builtinLookup_eq_fast]; kernel_rfl) (by decide +kernel) (by decide +kernel) (by decide +kernel) (by first | exact .inl (by decide +kernel) | exact .inr (by decide +kernel)) (by rw [isSubtype_type]; kernel_rfl)
theorem entry_cit_iter : entryFor table "callable_iterator.__iter__" = some Builtin.«dict_keyiterator.__iter__» :=
  entryFor_alias (id' := "dict_keyiterator.__iter__") (by kernel_rfl) rfl (by decide +kernel) (by kernel_rfl)
theorem entry_cit_next : entryFor table "callable_iterator.__next__" = some Builtin.«callable_iterator.__next__» := entryFor_of_tree (by kernel_rfl)
theorem args_cit_next (a : Value) : argsOk "callable_iterator.__next__" ⟨[a], []⟩ := by unfold argsOk; kernel_rfl
theorem args_cit_iter (a : Value) : argsOk "callable_iterator.__iter__" ⟨[a], []⟩ := by unfold argsOk; kernel_rfl
section
variable {prog : Program} {w : World} {A : Around} {E : Value → Shared → Prop} {s : Shared} {h hT : Heap} {t : Nat}
theorem iter_call {m f x : Addr} {u : Tok} {Q : Value → Shared → Prop} (hm : h.get? m = some (methodObj (.ref f) (.ref x))) (k : Q (.ref h.objs.size) (At s (h.push (citO m u)) t)) :
    wpAny (model prog w) A (call (.builtin "iter") [.ref m, .str (Str.ofString "") u]) Q E (At s h t) := by
  have hT : (At s h t).TypeIs (.ref m) "method" := ⟨_, hm, rfl⟩
  refine Calls.call_function_entry (by decide +kernel) (by decide +kernel) entry_iter (args_iter _ _) ?_
  unfold Builtin.«iter»
  refine wpAny_bind (show wpAny _ _ (pure [Value.ref m, Value.str (Str.ofString "") u]) _ _ _ from wpAny_pure ?_)
  refine wpAny_bind (wpAny_specialOf hT meth_call_slot ?_)
  show wpAny _ _ (rule "iter.sentinel" >>= fun _ => newFields "callable_iterator" [Value.ref m, Value.str (Str.ofString "") u, Value.bool false] >>= ret) _ _ _
  exact wpAny_bind (wpAny_rule (wpAny_bind (wpAny_newObj_type (wpAny_pure ⟨_, rfl, k⟩) (by size_fits))))
theorem cit_iter {it m : Addr} {u : Tok} {Q : Value → Shared → Prop} (hi : h.get? it = some (citO m u)) (k : Q (.ref it) (At s h t)) : wpAny (model prog w) A (pyIter (.ref it)) Q E (At s h t) := by
  have hT : (At s h t).TypeIs (.ref it) "callable_iterator" := ⟨_, hi, rfl⟩
  refine wpAny_pyIter_slot hT cit_iter_slot (wpAny_call_entry cit_iter_slot hT entry_cit_iter ?_ (args_cit_iter _))
  show wpAny _ _ (ret (.ref it)) _ _ _
  exact wpAny_pure ⟨_, rfl, "callable_iterator", _, hT, cit_next_slot.lookup, k⟩
theorem code_meth {m f x : Addr} {R : Result → Shared → Prop} (hm : h.get? m = some (methodObj (.ref f) (.ref x))) (k : codeAny (model prog w) A (.call (.ref f) ⟨[.ref x], []⟩) R (At s h t)) : codeAny (model prog w) A (.call (.ref m) ⟨[], []⟩) R (At s h t) := by
  refine codeAny_of_tree ?_
  show wpAny _ _ (callAny (.ref m) ⟨[], []⟩) _ _ _
  unfold callAny
  refine wpAny_bind (wpAny_load hm ?_)
  exact wpAny_pure ⟨rfl, k⟩
theorem borrows_meth {m f x : Addr} {o : Obj} {fd : FuncData} {Q : Bool → Shared → Prop} (hm : h.get? m = some (methodObj (.ref f) (.ref x))) (hf : h.get? f = some o) (hd : o.data = .func fd) (k : Q true (At s h t)) :
    wpAny (model prog w) A (borrowsExactly (.ref m)) Q E (At s h t) := by
  unfold borrowsExactly
  refine wpAny_bind (wpAny_load hm ?_)
  show wpAny _ _ (do match (← load f).data with | .func _ => pure true | _ => pure false) _ _ _
  refine wpAny_bind (wpAny_load hf ?_)
  rw [hd]
  exact wpAny_pure k
theorem call_slot {m f x : Addr} {o : Obj} {fd : FuncData} {Q : Value → Shared → Prop} (hm : h.get? m = some (methodObj (.ref f) (.ref x))) (hf : h.get? f = some o) (hd : o.data = .func fd)
    (k : codeAny (model prog w) A (.call (.ref f) ⟨[.ref x], []⟩) (fun r s' => match r with | .ok (.ret v) => Q v s' | .ok _ => False | .error e => E e s') (At s h t)) : wpAny (model prog w) A (callOutOfASlot (.ref m)) Q E (At s h t) := by
  unfold callOutOfASlot
  refine wpAny_bind (borrows_meth hm hf hd ?_)
  rw [if_pos rfl]
  refine X.x_call (hd := none) (code_meth hm (codeAny_mono k fun r s' q => ?_)) (by intro z; cases z)
  match r, q with
  | .ok (.ret v), q => exact wpAny_pure q
  | .error e, q => exact wpAny_throw q
end
theorem Rm.in1 {n : Nat} {A : Around} {es : List Env} (r : Rm (n + 1) A es) : Rm n A.in1 es := ⟨by have := r.dep; show A.depth + n ≤ _; omega, by have := r.uni; show A.units + 1 + 8 * n ≤ _; omega, r.hnd, r.frs, r.grd⟩
section
variable {prog : Program} {w : World} {A : Around} {E : Value → Shared → Prop} {s : Shared} {h hT : Heap} {t : Nat} {g l : List Fact} {mg mb : Str → Option Value} {k : Nat} {es : List Env} {c : Lc} {σ : Ls}
theorem fn_rchar_obj (T : Tp w mg mb hT) (D : Led hT g l h) : ∃ o, h.get? 100 = some o ∧ o.data = .func (fd 100) := ⟨_, D.keep _ _ (T.X _ _ (fn_rchar w).obj), rfl⟩
theorem sg_empty {x : Str} {p : Nat} : sg x p = Str.ofString "" ↔ x.length ≤ p := by
  unfold sg
  by_cases h : p < x.length
  · have hg : x.cps[p]? = some (x.cps[p]'h) := Array.getElem?_eq_getElem h
    rw [hg]
    constructor
    · intro q
      have := congrArg Str.length q
      exact absurd this (by show ¬ (1 = (Str.ofString "").length); decide +kernel)
    · omega
  · have hg : x.cps[p]? = none := Array.getElem?_eq_none (Nat.le_of_not_lt h)
    rw [hg]
    exact ⟨fun _ => Nat.le_of_not_lt h, fun _ => by decide +kernel⟩
theorem cit_next {it m : Addr} {u : Tok} {im ii : Nat} {l' : List Fact} {Q : Option Value → Shared → Prop} (T : Tp w mg mb hT) (D : Led hT (Lx prog w c σ ++ g) l h) (r : Rm (k + 3) A es) (hx : c.text.length ≤ sizeLine) (hp : σ.place ≤ c.text.length)
    (hm : AtI l im (m, fun o => o = methodObj (.ref 100) (.ref c.lex))) (hi : AtI l ii (it, fun o => o = citO m u)) (hl : SetI l ii (it, fun _ => True) l')
    (k1 : σ.place < c.text.length → ∀ h' t' tk σ', Nx c σ σ' → Led hT (Lx prog w c σ' ++ g) l h' → Q (some (.str (sg c.text σ.place) tk)) (At s h' t'))
    (k2 : σ.place = c.text.length → ∀ h' t' σ', Nx c σ σ' → Led hT (Lx prog w c σ' ++ g) l' h' → Q none (At s h' t')) :
    wpAny (model prog w) A (pyNext (.ref it)) Q E (At s h t) := by
  obtain ⟨_, e1, rfl⟩ := D.atL hm
  obtain ⟨_, e2, rfl⟩ := D.atL hi
  have hT : (At s h t).TypeIs (.ref it) "callable_iterator" := ⟨_, e2, rfl⟩
  unfold pyNext
  refine wpAny_bind (wpAny_attempt (wpAny_callSpecial?_slot (name := Str.ofString "__next__") hT cit_next_slot (wpAny_call_entry cit_next_slot hT entry_cit_next ?_ (args_cit_next _))))
  unfold Builtin.«callable_iterator.__next__»
  show wpAny _ _ (field (.ref it) 2 >>= _) _ _ _
  refine wpAny_bind (wpAny_field e2 rfl (x := .bool false) rfl ?_)
  show wpAny _ _ (field (.ref it) 0 >>= _) _ _ _
  refine wpAny_bind (wpAny_field e2 rfl (x := .ref m) rfl ?_)
  obtain ⟨of, ef, df⟩ := fn_rchar_obj T D
  refine wpAny_bind (wpAny_attempt (call_slot e1 ef df (codeAny_mono (rchar_spec T D r.in1 hx hp) ?_)))
  clear e1 e2 hT ef df
  rintro _ _ ⟨h₁, t₁, tk, σ', rfl, rfl, hN, D₁⟩
  obtain ⟨_, e1, rfl⟩ := D₁.atL hm
  obtain ⟨_, e2, rfl⟩ := D₁.atL hi
  obtain ⟨of, ef, df⟩ := fn_rchar_obj T D₁
  show wpAny _ _ (field (.ref it) 2 >>= _) _ _ _
  refine wpAny_bind (wpAny_field e2 rfl (x := .bool false) rfl ?_)
  show wpAny _ _ (field (.ref it) 1 >>= _) _ _ _
  refine wpAny_bind (wpAny_field e2 rfl (x := .str (Str.ofString "") u) rfl ?_)
  refine wpAny_bind (wpAny_holding (wpAny_eqBool_str ?_))
  by_cases he : σ.place < c.text.length
  · have hne : ¬ Str.ofString "" = sg c.text σ.place := fun q => by have := sg_empty.mp q.symm; omega
    rw [decide_eq_false hne]
    exact wpAny_pure ⟨_, rfl, wpAny_pure (k1 he _ _ _ _ hN D₁)⟩
  · have heq : Str.ofString "" = sg c.text σ.place := (sg_empty.mpr (by omega)).symm
    rw [decide_eq_true heq]
    show wpAny _ _ (rule _ >>= fun _ => ((field (.ref it) 0 >>= fun x => slotLetsGo "callable_iterator.__next__" x _ >>= fun _ => setField (.ref it) 0 .none >>= fun _ => setField (.ref it) 1 .none >>= fun _ => setField (.ref it) 2 (.bool true)) >>= fun _ => Builtin.SmallTypes.stopIteration)) _ _ _
    refine wpAny_bind (wpAny_rule (wpAny_bind (wpAny_bind (wpAny_field e2 rfl (x := .ref m) rfl (wpAny_bind ?_)))))
    unfold slotLetsGo
    refine wpAny_bind (borrows_meth e1 ef df ?_)
    rw [if_pos rfl]
    refine wpAny_pure ?_
    refine wpAny_bind (wpAny_setField e2 rfl (by simp) ?_)
    have q2 : (h₁.update it (Obj.mapFields fun x => x.setIfInBounds 0 .none)).get? it = some (Obj.mapFields (fun x => x.setIfInBounds 0 .none) (citO m u)) := Heap.get?_update_self _ e2 rfl
    refine wpAny_bind (wpAny_setField (s := At s _ t₁) q2 rfl (by simp) ?_)
    have q3 := Heap.get?_update_self (h := h₁.update it (Obj.mapFields fun x => x.setIfInBounds 0 .none)) (Obj.mapFields fun x => x.setIfInBounds 1 .none) q2 rfl
    refine wpAny_setField (s := At s _ t₁) q3 rfl (by simp) ?_
    have q4 := Heap.get?_update_self (Obj.mapFields fun x => x.setIfInBounds 2 (.bool true)) q3 rfl
    have D₄ : Led hT (Lx prog w c σ' ++ g) l' (((h₁.update it (Obj.mapFields fun x => x.setIfInBounds 0 .none)).update it (Obj.mapFields fun x => x.setIfInBounds 1 .none)).update it (Obj.mapFields fun x => x.setIfInBounds 2 (.bool true))) :=
      D₁.sameL hi hl ⟨(Heap.SameBut.update ..).1.trans ((Heap.SameBut.update ..).1.trans (Heap.SameBut.update ..).1), fun b hb => ((Heap.SameBut.update ..).2 b hb).trans (((Heap.SameBut.update ..).2 b hb).trans ((Heap.SameBut.update ..).2 b hb))⟩ ⟨_, q4, trivial⟩
    clear q2 q3 q4
    generalize (((h₁.update it (Obj.mapFields fun x => x.setIfInBounds 0 .none)).update it (Obj.mapFields fun x => x.setIfInBounds 1 .none)).update it (Obj.mapFields fun x => x.setIfInBounds 2 (.bool true))) = h₄ at D₄
    show wpAny _ _ (newExc (.type "StopIteration") [] >>= _) _ _ (At s h₄ t₁)
    refine wpAny_bind ?_
    simp only [newExc, newTuple]
    refine wpAny_bind (wpAny_newObj_type ?_ (by size_fits))
    refine wpAny_bind (m := firstArgMember _ _) (wpAny_of_eq (a := Value.none) (by first | rfl | (simp only [firstArgMember]; rfl)) ?_)
    refine wpAny_newObj_type ?_ (by size_fits)
    simp only [raiseNew]
    refine wpAny_bind (wpAny_handled ?_)
    rw [show A.in1.handled = none from r.hnd]
    refine wpAny_bind (wpAny_pure (wpAny_throw ?_))
    refine wpAny_bind (wpAny_isInstance (T := "StopIteration") (b := true) ⟨_, Heap.get?_push_size _ rfl, rfl⟩ isSubtype_stop ?_)
    exact wpAny_pure (k2 (by omega) _ _ _ hN (((D₄.push (P := fun _ => True) rfl trivial).push (P := fun _ => True) rfl trivial).tail.tail))
end
theorem LstO.map {xs ys : List Value} {n : Nat} {f : Array Value → Array Value} (e : f xs.toArray = ys.toArray) : LstO ys (Obj.mapSeq f ⟨.type "list", none, .seq xs.toArray n, #[]⟩) := by
  unfold Obj.mapSeq
  dsimp only
  rw [e]
  exact ⟨_, rfl⟩
section
variable {prog : Program} {w : World} {A : Around} {E : Value → Shared → Prop} {s : Shared} {h hT : Heap} {t : Nat} {g g' l : List Fact}
theorem LstO.isList {a : Addr} {xs : List Value} {i : Nat} (D : Led hT g l h) (hi : AtI g i (a, LstO xs)) : ∃ n, h.get? a = some ⟨.type "list", none, .seq xs.toArray n, #[]⟩ := by
  obtain ⟨o, e, n, rfl⟩ := D.atG hi
  exact ⟨n, e⟩
theorem l_meth {a : Addr} {xs : List Value} {n : Nat} {name : Str} {id : String} {pl : Sem Bool} {Q : Value × List Value → Shared → Prop} (hl : h.get? a = some ⟨.type "list", none, .seq xs.toArray n, #[]⟩) (slot : Slot "list" name id) (hty : typeOf (.builtin id) = pure (.type "method_descriptor"))
    (k : Q (.builtin id, [.ref a]) (At s h t)) : wpAny (model prog w) A (getMethod (.ref a) name pl) Q E (At s h t) :=
  getMethod_builtin (s := At s h t) ⟨_, hl, rfl⟩ PySem.F.plainAttrs_list slot hty (fun b e => by cases e; exact ⟨_, hl, rfl⟩) k
theorem l_truthy {a : Addr} {xs : List Value} {n : Nat} {Q : Bool → Shared → Prop} (hl : h.get? a = some ⟨.type "list", none, .seq xs.toArray n, #[]⟩) (hz : xs.length ≤ sizeLine) (k : ∀ t', Q (!xs.isEmpty) (At s h t')) : wpAny (model prog w) A (truthy (.ref a)) Q E (At s h t) :=
  wpAny_truthy_list (s := At s h t) (items := xs.toArray) ⟨_, hl, rfl, n, rfl⟩ (by have : xs.length ≤ 2 ^ 24 := hz; simp; omega) (by
    have e : (!xs.toArray.isEmpty) = !xs.isEmpty := by simp
    rw [e]; exact k _)
theorem l_pop0 {a : Addr} {x : Value} {xs : List Value} {u : Tok} {i : Nat} {Q : Value → Shared → Prop} (D : Led hT g l h) (hi : AtI g i (a, LstO (x :: xs))) (hg : SetI g i (a, LstO xs) g') (hz : xs.length ≤ 1000)
    (k : ∀ h' t', Led hT g' l h' → Q x (At s h' t')) : wpAny (model prog w) A (call (.builtin "list.pop") [.ref a, .int 0 u]) Q E (At s h t) := by
  obtain ⟨n, hl⟩ := LstO.isList D hi
  have hT : (At s h t).TypeIs (.ref a) "list" := ⟨_, hl, rfl⟩
  refine wpAny_call_entry PySem.F.slot_list_pop hT PySem.F.entry_list_pop ?_ (PySem.F.args_list_pop_2 _ _)
  unfold Builtin.«list.pop»
  repeat (first | assumption | wp_step)
  have e1 : seqIndex? 0 (x :: xs).toArray.size = some 0 := by
    unfold seqIndex?
    simp
  rw [e1]
  show wpAny _ _ (updateSeq a (fun y => y.eraseIdxIfInBounds 0) >>= fun _ => ret x) _ _ (At s h t)
  refine wpAny_bind (wpAny_updateSeq hl rfl ?_ (by simp; rw [sizeLine_eq]; omega) (by simp; rw [sizeLine_eq]; omega))
  refine wpAny_pure ⟨_, rfl, k _ _ (D.sameG hi hg (Heap.SameBut.update ..) ⟨_, Heap.get?_update_self _ hl rfl, LstO.map (by simp)⟩)⟩
theorem l_append {a : Addr} {x : Value} {xs : List Value} {i : Nat} {Q : Value → Shared → Prop} (D : Led hT g l h) (hi : AtI g i (a, LstO xs)) (hg : SetI g i (a, LstO (xs ++ [x])) g') (hz : xs.length ≤ 1000)
    (k : ∀ h' t', Led hT g' l h' → Q .none (At s h' t')) : wpAny (model prog w) A (call (.builtin "list.append") [.ref a, x]) Q E (At s h t) := by
  obtain ⟨n, hl⟩ := LstO.isList D hi
  have hT : (At s h t).TypeIs (.ref a) "list" := ⟨_, hl, rfl⟩
  refine wpAny_call_entry PySem.F.slot_list_append hT PySem.F.entry_list_append ?_ (PySem.F.args_list_append_2 _ _)
  show wpAny _ _ (updateSeq a (fun y => y.push x) >>= fun _ => ret .none) _ _ (At s h t)
  refine wpAny_bind (wpAny_updateSeq hl rfl ?_ (by simp; rw [sizeLine_eq]; omega) (by simp; rw [sizeLine_eq]; omega))
  exact wpAny_pure ⟨_, rfl, k _ _ (D.sameG hi hg (Heap.SameBut.update ..) ⟨_, Heap.get?_update_self _ hl rfl, LstO.map (by simp)⟩)⟩
end
theorem SetI.ex {α : Type} {l : List α} {i : Nat} {x : α} (h : AtI l i x) (y : α) : ∃ l', SetI l i y l' := by
  induction h with
  | z => exact ⟨_, .z⟩
  | s _ ih => obtain ⟨l', q⟩ := ih; exact ⟨_, .s q⟩
noncomputable def isBl (c : Nat) : Bool := c == 10 || c == 9 || c == 13 || c == 32
noncomputable def qb : List Nat → Option (List Nat × Nat)
  | [] => none
  | [c] => if c = 34 then some ([], 1) else none
  | c :: x :: r => if c = 34 then some ([], 1) else if c = 92 then (qb r).map fun p => (x :: p.1, p.2 + 2) else (qb (x :: r)).map fun p => (c :: p.1, p.2 + 1)
noncomputable def pb : List Nat → Option (List Nat × Nat)
  | [] => none
  | [c] => if isBl c then some ([], 1) else none
  | c :: x :: r => if isBl c then some ([], 1) else if c = 92 then (pb r).map fun p => (x :: p.1, p.2 + 2) else (pb (x :: r)).map fun p => (c :: p.1, p.2 + 1)
noncomputable def lexF : List Nat → Option (List Nat × Nat)
  | [] => some ([], 0)
  | c :: r => if isBl c then (lexF r).map fun p => (p.1, p.2 + 1) else if c = 34 then (qb r).map fun p => (p.1, p.2 + 1)
    else if c = 92 then (match r with | [] => none | x :: r' => (pb r').map fun p => (x :: p.1, p.2 + 2)) else (pb r).map fun p => (c :: p.1, p.2 + 1)
noncomputable def Adv (c : Lc) (σ σ' : Ls) (n : Nat) : Prop := σ'.place = σ.place + n ∧ σ'.line = σ.line + (((c.text.cps.toList.drop σ.place).take n).count 10 : Nat) ∧ σ'.push = σ.push
theorem Adv.zero (c : Lc) (σ : Ls) : Adv c σ σ 0 := ⟨rfl, by simp, rfl⟩
theorem sg_at {x : Str} {p a : Nat} {r : List Nat} (h : x.cps.toList.drop p = a :: r) : p < x.length ∧ sg x p = ⟨#[a]⟩ ∧ x.cps.toList.drop (p + 1) = r := by
  have hl : p < x.cps.toList.length := by
    apply Nat.lt_of_not_le
    intro q
    rw [List.drop_eq_nil_of_le q] at h; cases h
  have hg : x.cps[p]? = some a := by
    rw [← Array.getElem?_toList]
    have := congrArg (·[0]?) h
    simpa using this
  refine ⟨by show p < x.cps.size; simpa using hl, ?_, ?_⟩
  · unfold sg; rw [hg]; rfl
  · rw [← List.drop_drop, h]; rfl
theorem one_eq {a b : Nat} : ((⟨#[a]⟩ : Str) = ⟨#[b]⟩) ↔ a = b := ⟨fun h => by injection h with h; simpa using h, fun h => by rw [h]⟩
theorem Nx.adv {c : Lc} {σ σ' σ'' : Ls} {n a : Nat} {r : List Nat} (hN : Nx c σ σ') (h : c.text.cps.toList.drop σ.place = a :: r) (hA : Adv c σ' σ'' n) : Adv c σ σ'' (n + 1) := by
  obtain ⟨h1, h2, h3⟩ := sg_at h
  obtain ⟨p1, p2, p3⟩ := hN
  obtain ⟨q1, q2, q3⟩ := hA
  have e : σ'.place = σ.place + 1 := by rw [p1]; omega
  refine ⟨by rw [q1, e]; omega, ?_, q3.trans p3⟩
  rw [q2, p2, e, h3, h, h2, List.take_succ_cons, List.count_cons]
  have hn : (Str.ofString "\n") = ⟨#[10]⟩ := by decide +kernel
  rw [hn]
  by_cases ha : a = 10
  · subst ha; simp; omega
  · rw [if_neg (fun z => ha (one_eq.mp z))]
    simp [ha]
theorem Nx.place {c : Lc} {σ σ' : Ls} {a : Nat} {r : List Nat} (hN : Nx c σ σ') (h : c.text.cps.toList.drop σ.place = a :: r) : σ'.place = σ.place + 1 ∧ c.text.cps.toList.drop σ'.place = r ∧ σ'.place ≤ c.text.length := by
  obtain ⟨h1, h2, h3⟩ := sg_at h
  have e : σ'.place = σ.place + 1 := by rw [hN.1]; omega
  exact ⟨e, by rw [e]; exact h3, by omega⟩
noncomputable def gtBody : List Stmt := match bd 107 with
  | [_, _, _, .For _ _ b _ _, _] => b
  | _ => []
noncomputable def qBody : List Stmt := match gtBody with
  | [_, .If _ [.For _ _ b _ _] _ _] => b
  | _ => []
noncomputable def pBody : List Stmt := match gtBody with
  | [_, .If _ _ [_, _, .For _ _ b _ _] _] => b
  | _ => []
noncomputable abbrev gtNs : List Str := [Str.ofString "self", Str.ofString "token", Str.ofString "fiter", Str.ofString "ch"]
theorem meth_rchar (w : World) : Meth w 117 (Str.ofString "_read_char") 100 := ⟨by kernel_rfl, by kernel_rfl, by kernel_rfl, by kernel_rfl, by kernel_rfl, by kernel_rfl, by kernel_rfl, by kernel_rfl⟩
theorem lexNs_rchar {vs : List (Option Value)} : look lexNs vs (Str.ofString "_read_char") = none := look_not (by decide +kernel)
theorem in_blanks (a : Nat) : Txt.contains blanks ⟨#[a]⟩ = isBl a := by
  unfold Txt.contains
  rw [StrLaws.found_one]
  have : blanks.cps.toList = [10, 9, 13, 32] := by decide +kernel
  rw [this]
  unfold isBl
  rw [Bool.eq_iff_iff]
  simp [or_assoc]
section
variable {prog : Program} {w : World} {A : Around} {E : Value → Shared → Prop} {s : Shared} {h hT : Heap} {t : Nat} {g l : List Fact} {mg mb : Str → Option Value} {k : Nat} {es : List Env} {c : Lc} {σ : Ls} {env : Env} {L : Addr}
theorem eq_one {M : Model} {x : Str} {a b : Nat} {u v : Tok} {Q : Value → Shared → Prop} (hb : x = ⟨#[b]⟩) (k : Q (.bool (a == b)) (At s h t)) : wpAny (model prog w) A (compareOp .Eq (.str ⟨#[a]⟩ u) (.str x v)) Q E (At s h t) := by
  refine P.eq_str ?_
  have : ((⟨#[a]⟩ : Str).cps.toList == x.cps.toList) = (a == b) := by rw [hb]; simp
  rw [this]; exact k
theorem rc_call {Q : Value → Shared → Prop} (T : Tp w mg mb hT) (D : Led hT (Lx prog w c σ ++ g) l h) (r : Rm (k + 2) A es) (hx : c.text.length ≤ sizeLine) (hp : σ.place ≤ c.text.length)
    (k1 : ∀ h' t' tk σ', Nx c σ σ' → Led hT (Lx prog w c σ' ++ g) l h' → Q (.str (sg c.text σ.place) tk) (At s h' t')) : wpAny (model prog w) A (call (.ref 100) [.ref c.lex]) Q E (At s h t) := by
  refine wpAny_call (codeAny_mono (rchar_spec T D r hx hp) ?_)
  rintro _ _ ⟨h', t', tk, σ', rfl, rfl, hN, D'⟩
  exact k1 _ _ _ _ hN D'
noncomputable def Tn (J : Nat → Shared → Prop) (n : Nat) (K : Result → Shared → Prop) : Flow → Shared → Prop := fun f s => match f with
  | .next | .cont => ∃ m, m < n ∧ J m s
  | .brk => K (.ok .next) s
  | .ret v => K (.ok (.ret v)) s
noncomputable def Nxt (Z : Shared → Prop) (X : Value → Shared → Prop) : Option Value → Shared → Prop := fun o s => match o with
  | none => Z s
  | some v => X v s
section
variable {J : Nat → Shared → Prop} {n m : Nat} {K : Result → Shared → Prop} {Z : Shared → Prop} {X : Value → Shared → Prop} {v : Value}
theorem tn_next (h : m < n) (k : J m s) : Tn J n K .next s := ⟨m, h, k⟩
theorem tn_cont (h : m < n) (k : J m s) : Tn J n K .cont s := ⟨m, h, k⟩
theorem tn_ret (k : K (.ok (.ret v)) s) : Tn J n K (.ret v) s := k
theorem nx_some (k : X v s) : Nxt Z X (some v) s := k
theorem nx_none (k : Z s) : Nxt Z X none s := k
theorem less_left {a b n : Nat} (h : b = a + 1) (hb : b ≤ n) : n - b < n - a := by omega
theorem less_left2 {a b d n : Nat} (h : b = a + 1) (h' : d = b + 1) (hb : d ≤ n) : n - d < n - a := by omega
end
theorem floopV {R : Result → Shared → Prop} {target : Expr} {body : List Stmt} {it : Value} (I : Nat → Shared → Prop) (n : Nat) (h0 : I n s) (ht : ∀ v, letOwnedTupleGo target it v = pure ())
    (turn : ∀ (J : Nat → Shared → Prop) (K : Result → Shared → Prop), (∀ m s, I m s → J m s) → (∀ r s, R r s → K r s) → ∀ n s, I n s → wpAny (model prog w) A (pyNext it) (Nxt (K (.ok .next)) fun v s₁ => wpAny (model prog w) A (assign target env v) (fun _ s₂ => wpAny (model prog w) A (execs body env) (Tn J n K) (fun _ _ => False) s₂) (fun _ _ => False) s₁) (fun _ _ => False) s) :
    codeAny (model prog w) A (.forLoop target it body [] env) R s := by
  refine codeAny_forLoop I (fun n s hI => ?_) n h0 ht
  refine wpAny_mono (turn I R (fun _ _ x => x) (fun _ _ x => x) n s hI) (fun o s₁ q => ?_) (fun _ _ x => x.elim)
  cases o with
  | none => exact wpAny_execs_nil q
  | some v => exact wpAny_mono q (fun _ s₂ q => wpAny_mono q (fun f s₃ q => by cases f <;> exact q) (fun _ _ x => x.elim)) (fun _ _ x => x.elim)
inductive QI (pq : List Nat → Option (List Nat × Nat)) (prog : Program) (w : World) (hT : Heap) (c : Lc) (σ : Ls) (g l : List Fact) (s : Shared) (L it : Addr) (tok : Str) (tkn : List Nat) (n n₁ : Nat) (s' : Shared) : Prop
  | mk (h' : Heap) (t' : Nat) (σ' : Ls) (tok' : Str) (u' : Tok) (ch' : Option Value) (tkn' : List Nat) (n' : Nat) (es : s' = At s h' t') (D : Led hT (Lx prog w c σ' ++ g) ((L, Frm gtNs [some (.ref c.lex), some (.str tok' u'), some (.ref it), ch']) :: l) h') (hp : σ'.place ≤ c.text.length)
    (hq : pq (c.text.cps.toList.drop σ'.place) = some (tkn', n')) (htk : tok.cps.toList ++ tkn = tok'.cps.toList ++ tkn') (hadv : ∀ σ'', Adv c σ' σ'' n' → Adv c σ σ'' n) (hsz : tok'.length + (c.text.length - σ'.place) ≤ 2000) (em : n₁ = c.text.length - σ'.place)
theorem tok_end {tok tok' : Str} {tkn : List Nat} (htk : tok.cps.toList ++ tkn = tok'.cps.toList ++ []) : tok' = ⟨tok.cps ++ tkn.toArray⟩ := by
  obtain ⟨p⟩ := tok'
  congr 1
  apply Array.ext'
  simpa using htk.symm
theorem tok_snoc {tok tok' : Str} {tkn ty : List Nat} {a : Nat} (htk : tok.cps.toList ++ tkn = tok'.cps.toList ++ a :: ty) : tok.cps.toList ++ tkn = (tok' ++ (⟨#[a]⟩ : Str)).cps.toList ++ ty := by rw [htk]; simp [Str.cps_append]
theorem tok_fit {tok' : Str} {x n a b k : Nat} (h : tok'.length + (n - a) ≤ k) (hb : a < b) (hn : b ≤ n) : (tok' ++ (⟨#[x]⟩ : Str)).length + (n - b) ≤ k := by
  rw [Str.length_append]; show _ + 1 + _ ≤ k; omega
theorem tok_room {tok' : Str} {x m : Nat} (h : tok'.length + m ≤ 2000) : tok'.length + (⟨#[x]⟩ : Str).length ≤ sizeLine := by
  show _ + 1 ≤ sizeLine; rw [sizeLine_eq]; omega
theorem q_loop {tok : Str} {u ui : Tok} {it m : Addr} {im ii n : Nat} {tkn : List Nat} {ch : Option Value} {px : Pos} (T : Tp w mg mb hT) (D : Led hT (Lx prog w c σ ++ g) ((L, Frm gtNs [some (.ref c.lex), some (.str tok u), some (.ref it), ch]) :: l) h) (S : Scp hT env L gtNs [Str.ofString "iter"]) (r : Rm (k + 4) A (env :: es))
    (hx : c.text.length ≤ 1000) (hp : σ.place ≤ c.text.length) (hm : AtI l im (m, fun o => o = methodObj (.ref 100) (.ref c.lex))) (hi : AtI l ii (it, fun o => o = citO m ui))
    (hq : qb (c.text.cps.toList.drop σ.place) = some (tkn, n)) (htok : tok.length + (c.text.length - σ.place) ≤ 2000) :
    codeAny (model prog w) A (.forLoop (.Name (Str.ofString "ch") px) (.ref it) qBody [] env) (fun res s' => ∃ h' t' u' σ' vs', res = .ok (.ret (.str ⟨tok.cps ++ tkn.toArray⟩ u')) ∧ s' = At s h' t' ∧ Adv c σ σ' n ∧
      Led hT (Lx prog w c σ' ++ g) ((L, Frm gtNs vs') :: l) h') (At s h t) := by
  have hx' : c.text.length ≤ sizeLine := Nat.le_trans hx (by decide)
  refine floopV (QI qb prog w hT c σ g l s L it tok tkn n) _
    ⟨h, t, σ, tok, u, ch, tkn, n, rfl, D, hp, hq, rfl, fun _ a => a, htok, rfl⟩ (by intro _; with_unfolding_all rfl) ?_
  clear D hp hq htok
  rintro J K hJ hK n₁ _ ⟨h, t, σ', tok', u', ch', tkn', n', rfl, D, hp, hq, htk, hadv, hsz, rfl⟩
  obtain ⟨l', hl'⟩ := SetI.ex hi (it, fun _ => True)
  refine cit_next (k := k) T D (r.mono (by omega)) hx' hp (.s hm) (.s hi) (.s hl') ?_ ?_
  · intro hlt h₁ t₁ tk σ₁ hN D₁
    clear D
    cases hd : c.text.cps.toList.drop σ'.place with
    | nil => rw [hd] at hq; cases hq
    | cons a rest =>
    obtain ⟨e1, e2, e3⟩ := sg_at hd
    obtain ⟨p1, p2, p3⟩ := hN.place hd
    rw [e2]
    refine nx_some (wpAny_assign_Name ?_)
    repeat walk_at "m"
    refine x_cons (st := _) (rest := _) ?_
    repeat walk_at "m"
    refine eq_one (M := model prog w) (b := 34) (by decide +kernel) ?_
    repeat walk_at "m"
    refine b_two (fun e => ?_) (fun e => ?_)
    · have e : a = 34 := by simpa using e
      subst e
      have hq' : tkn' = [] ∧ n' = 1 := by
        rw [hd] at hq
        cases rest <;> simp [qb] at hq <;> exact ⟨hq.1, hq.2.symm⟩
      obtain ⟨rfl, rfl⟩ := hq'
      repeat walk_at "m"
      exact tn_ret (hK _ _ ⟨_, _, u', σ₁, _, by rw [tok_end htk], rfl, hadv σ₁ (hN.adv hd (Adv.zero c σ₁)), by assumption⟩)
    · have e34 : ¬ a = 34 := by simpa using e
      clear e
      repeat walk_at "m"
      refine eq_one (M := model prog w) (b := 92) (by decide +kernel) ?_
      repeat walk_at "m"
      refine b_two (fun e => ?_) (fun e => ?_)
      · have e92 : a = 92 := by simpa using e
        clear e
        subst e92
        cases rest with
        | nil => rw [hd] at hq; simp [qb] at hq
        | cons x r' =>
        repeat walk_at "m"
        refine m_get (by assumption) T (meth_rchar w) (.s (.s (.s (.s (.s (.s (.s .z))))))) (.s (.s (.s (.s (.s (.s (.s (.s .z)))))))) lexNs_rchar ?_
        refine c_fn (by with_unfolding_all rfl) ?_
        repeat walk_at "m"
        refine ⟨let ⟨o, e1, e2⟩ := fn_rchar_obj T (by assumption); ⟨o, _, e1, e2⟩, ?_⟩
        refine rc_call (k := k) T (by assumption) (r.mono (by omega)) hx' p3 ?_
        intro h₂ t₂ tk₂ σ₂ hN₂ D₂
        obtain ⟨p4, p5, p6⟩ := hN₂.place p2
        rw [(sg_at p2).2.1]
        have hq2 : ∃ y, qb r' = some y ∧ tkn' = x :: y.1 ∧ n' = y.2 + 2 := by
          rw [hd] at hq
          simp only [qb, if_neg e34, if_true] at hq
          obtain ⟨y, hy, hz⟩ := Option.map_eq_some_iff.mp hq
          exact ⟨y, hy, by injection hz with z _; exact z.symm, by injection hz with _ z; exact z.symm⟩
        obtain ⟨⟨ty, ny⟩, hqy, rfl, rfl⟩ := hq2
        repeat walk_at "m"
        refine z_iadd (tok_room hsz) ?_
        intro _ _
        repeat walk_at "m"
        exact tn_next (less_left2 p1 p4 p6) (hJ _ _ ⟨_, _, σ₂, _, _, _, ty, ny, rfl, by assumption, p6, by rw [p5]; exact hqy, tok_snoc htk, fun σ'' a => hadv σ'' (hN.adv hd (hN₂.adv p2 a)), tok_fit hsz (by rw [p4, p1]; exact Nat.lt_succ_of_lt (Nat.lt_succ_self _)) p6, rfl⟩)
      · have e' : ¬ a = 92 := by simpa using e
        have hq2 : ∃ y, qb rest = some y ∧ tkn' = a :: y.1 ∧ n' = y.2 + 1 := by
          rw [hd] at hq
          cases rest with
          | nil => simp [qb, e34] at hq
          | cons x r' =>
          simp only [qb, if_neg e34, if_neg e'] at hq
          obtain ⟨y, hy, hz⟩ := Option.map_eq_some_iff.mp hq
          exact ⟨y, hy, by injection hz with z _; exact z.symm, by injection hz with _ z; exact z.symm⟩
        obtain ⟨⟨ty, ny⟩, hqy, rfl, rfl⟩ := hq2
        repeat walk_at "m"
        refine z_iadd (tok_room hsz) ?_
        intro _ _
        repeat walk_at "m"
        exact tn_next (less_left p1 p3) (hJ _ _ ⟨_, _, σ₁, _, _, _, ty, ny, rfl, by assumption, p3, by rw [p2]; exact hqy, tok_snoc htk, fun σ'' a => hadv σ'' (hN.adv hd a), tok_fit hsz (by rw [p1]; exact Nat.lt_succ_self _) p3, rfl⟩)
  · intro he _ _ _ _ _
    rw [he, List.drop_eq_nil_of_le (by exact Nat.le_refl _)] at hq
    cases hq
theorem p_loop {tok : Str} {u ui : Tok} {it m : Addr} {im ii n : Nat} {tkn : List Nat} {ch : Option Value} {px : Pos} (T : Tp w mg mb hT) (D : Led hT (Lx prog w c σ ++ g) ((L, Frm gtNs [some (.ref c.lex), some (.str tok u), some (.ref it), ch]) :: l) h) (S : Scp hT env L gtNs [Str.ofString "iter"]) (r : Rm (k + 4) A (env :: es))
    (hx : c.text.length ≤ 1000) (hp : σ.place ≤ c.text.length) (hm : AtI l im (m, fun o => o = methodObj (.ref 100) (.ref c.lex))) (hi : AtI l ii (it, fun o => o = citO m ui))
    (hq : pb (c.text.cps.toList.drop σ.place) = some (tkn, n)) (htok : tok.length + (c.text.length - σ.place) ≤ 2000) :
    codeAny (model prog w) A (.forLoop (.Name (Str.ofString "ch") px) (.ref it) pBody [] env) (fun res s' => ∃ h' t' u' σ' vs', res = .ok (.ret (.str ⟨tok.cps ++ tkn.toArray⟩ u')) ∧ s' = At s h' t' ∧ Adv c σ σ' n ∧
      Led hT (Lx prog w c σ' ++ g) ((L, Frm gtNs vs') :: l) h') (At s h t) := by
  have hx' : c.text.length ≤ sizeLine := Nat.le_trans hx (by decide)
  refine floopV (QI pb prog w hT c σ g l s L it tok tkn n) _
    ⟨h, t, σ, tok, u, ch, tkn, n, rfl, D, hp, hq, rfl, fun _ a => a, htok, rfl⟩ (by intro _; with_unfolding_all rfl) ?_
  clear D hp hq htok
  rintro J K hJ hK n₁ _ ⟨h, t, σ', tok', u', ch', tkn', n', rfl, D, hp, hq, htk, hadv, hsz, rfl⟩
  obtain ⟨l', hl'⟩ := SetI.ex hi (it, fun _ => True)
  refine cit_next (k := k) T D (r.mono (by omega)) hx' hp (.s hm) (.s hi) (.s hl') ?_ ?_
  · intro hlt h₁ t₁ tk σ₁ hN D₁
    clear D
    cases hd : c.text.cps.toList.drop σ'.place with
    | nil => rw [hd] at hq; cases hq
    | cons a rest =>
    obtain ⟨e1, e2, e3⟩ := sg_at hd
    obtain ⟨p1, p2, p3⟩ := hN.place hd
    rw [e2]
    refine nx_some (wpAny_assign_Name ?_)
    repeat walk_at "m"
    refine x_cons (st := _) (rest := _) ?_
    repeat walk_at "m"
    refine a_get (by assumption) T (bare_whitespace w) (.s (.s (.s (.s (.s (.s (.s .z))))))) (.s (.s (.s (.s (.s (.s (.s (.s .z)))))))) lexNs_nd (.s (.s .z)) (.s (.s .z)) rfl ?_
    intro _
    refine SB.contains ?_
    rw [in_blanks]
    repeat walk_at "m"
    refine b_two (fun e => ?_) (fun e => ?_)
    · have e : isBl a = true := e
      have hq' : tkn' = [] ∧ n' = 1 := by
        rw [hd] at hq
        cases rest <;> simp [pb, e] at hq <;> exact ⟨hq.1, hq.2.symm⟩
      obtain ⟨rfl, rfl⟩ := hq'
      repeat walk_at "m"
      exact tn_ret (hK _ _ ⟨_, _, u', σ₁, _, by rw [tok_end htk], rfl, hadv σ₁ (hN.adv hd (Adv.zero c σ₁)), by assumption⟩)
    · have e34 : ¬ isBl a = true := by rw [e]; exact Bool.false_ne_true
      clear e
      repeat walk_at "m"
      refine eq_one (M := model prog w) (b := 92) (by decide +kernel) ?_
      repeat walk_at "m"
      refine b_two (fun e => ?_) (fun e => ?_)
      · have e92 : a = 92 := by simpa using e
        clear e
        subst e92
        cases rest with
        | nil => rw [hd] at hq; simp [pb, e34] at hq
        | cons x r' =>
        repeat walk_at "m"
        refine m_get (by assumption) T (meth_rchar w) (.s (.s (.s (.s (.s (.s (.s .z))))))) (.s (.s (.s (.s (.s (.s (.s (.s .z)))))))) lexNs_rchar ?_
        refine c_fn (by with_unfolding_all rfl) ?_
        repeat walk_at "m"
        refine ⟨let ⟨o, e1, e2⟩ := fn_rchar_obj T (by assumption); ⟨o, _, e1, e2⟩, ?_⟩
        refine rc_call (k := k) T (by assumption) (r.mono (by omega)) hx' p3 ?_
        intro h₂ t₂ tk₂ σ₂ hN₂ D₂
        obtain ⟨p4, p5, p6⟩ := hN₂.place p2
        rw [(sg_at p2).2.1]
        have hq2 : ∃ y, pb r' = some y ∧ tkn' = x :: y.1 ∧ n' = y.2 + 2 := by
          rw [hd] at hq
          simp only [pb, if_neg e34, if_true] at hq
          obtain ⟨y, hy, hz⟩ := Option.map_eq_some_iff.mp hq
          exact ⟨y, hy, by injection hz with z _; exact z.symm, by injection hz with _ z; exact z.symm⟩
        obtain ⟨⟨ty, ny⟩, hqy, rfl, rfl⟩ := hq2
        repeat walk_at "m"
        refine z_iadd (tok_room hsz) ?_
        intro _ _
        repeat walk_at "m"
        exact tn_next (less_left2 p1 p4 p6) (hJ _ _ ⟨_, _, σ₂, _, _, _, ty, ny, rfl, by assumption, p6, by rw [p5]; exact hqy, tok_snoc htk, fun σ'' a => hadv σ'' (hN.adv hd (hN₂.adv p2 a)), tok_fit hsz (by rw [p4, p1]; exact Nat.lt_succ_of_lt (Nat.lt_succ_self _)) p6, rfl⟩)
      · have e' : ¬ a = 92 := by simpa using e
        have hq2 : ∃ y, pb rest = some y ∧ tkn' = a :: y.1 ∧ n' = y.2 + 1 := by
          rw [hd] at hq
          cases rest with
          | nil => simp [pb, e34] at hq
          | cons x r' =>
          simp only [pb, if_neg e34, if_neg e'] at hq
          obtain ⟨y, hy, hz⟩ := Option.map_eq_some_iff.mp hq
          exact ⟨y, hy, by injection hz with z _; exact z.symm, by injection hz with _ z; exact z.symm⟩
        obtain ⟨⟨ty, ny⟩, hqy, rfl, rfl⟩ := hq2
        repeat walk_at "m"
        refine z_iadd (tok_room hsz) ?_
        intro _ _
        repeat walk_at "m"
        exact tn_next (less_left p1 p3) (hJ _ _ ⟨_, _, σ₁, _, _, _, ty, ny, rfl, by assumption, p3, by rw [p2]; exact hqy, tok_snoc htk, fun σ'' a => hadv σ'' (hN.adv hd a), tok_fit hsz (by rw [p1]; exact Nat.lt_succ_self _) p3, rfl⟩)
  · intro he _ _ _ _ _
    rw [he, List.drop_eq_nil_of_le (by exact Nat.le_refl _)] at hq
    cases hq
end
section
variable {prog : Program} {w : World} {A : Around} {E : Value → Shared → Prop} {s : Shared} {h hT : Heap} {t : Nat} {g l : List Fact} {mg mb : Str → Option Value} {k : Nat} {es : List Env} {c : Lc} {σ : Ls} {env : Env} {L : Addr}
theorem Nx.stay {σ' : Ls} (hN : Nx c σ σ') (he : σ.place = c.text.length) : Adv c σ σ' 0 := by
  obtain ⟨p1, p2, p3⟩ := hN
  refine ⟨by rw [p1]; omega, ?_, p3⟩
  rw [p2, sg_empty.mpr (Nat.le_of_eq he.symm), if_neg (by decide +kernel)]
  simp
theorem len_left {a b n : Nat} (h : b = a + 1) (hb : b ≤ n) : n - b < n - a := by omega
inductive OI (prog : Program) (w : World) (hT : Heap) (c : Lc) (σ : Ls) (g l : List Fact) (s : Shared) (L it m : Addr) (u ui : Tok) (tkn : List Nat) (n n₁ : Nat) (s' : Shared) : Prop
  | mk (h' : Heap) (t' : Nat) (σ' : Ls) (ch' : Option Value) (n' : Nat) (es : s' = At s h' t') (D : Led hT (Lx prog w c σ' ++ g) ((L, Frm gtNs [some (.ref c.lex), some (.str (Str.ofString "") u), some (.ref it), ch']) :: (it, fun o => o = citO m ui) :: (m, fun o => o = methodObj (.ref 100) (.ref c.lex)) :: l) h') (hp : σ'.place ≤ c.text.length)
    (hlex : lexF (c.text.cps.toList.drop σ'.place) = some (tkn, n')) (hadv : ∀ σ'', Adv c σ' σ'' n' → Adv c σ σ'' n) (em : n₁ = c.text.length - σ'.place)
inductive OR (prog : Program) (w : World) (hT : Heap) (c : Lc) (σ : Ls) (g l : List Fact) (s : Shared) (L it m : Addr) (tkn : List Nat) (n : Nat) (res : Result) (s' : Shared) : Prop
  | mk (h' : Heap) (t' : Nat) (u' : Tok) (σ' : Ls) (vs' : List (Option Value)) (P : Obj → Prop) (es : s' = At s h' t') (ha : Adv c σ σ' n) (D : Led hT (Lx prog w c σ' ++ g) ((L, Frm gtNs vs') :: (it, P) :: (m, fun o => o = methodObj (.ref 100) (.ref c.lex)) :: l) h')
      (hr : res = .ok (.ret (.str ⟨tkn.toArray⟩ u')) ∨ (res = .ok .next ∧ tkn = [] ∧ AtI vs' 1 (some (.str (Str.ofString "") u'))))
theorem nil_cps : (Str.ofString "") = ⟨#[]⟩ := by decide +kernel
theorem str_nil (l : List Nat) : (⟨(Str.ofString "").cps ++ l.toArray⟩ : Str) = ⟨l.toArray⟩ := by rw [nil_cps]; simp
theorem str_one (x : Nat) (l : List Nat) : (⟨(⟨#[x]⟩ : Str).cps ++ l.toArray⟩ : Str) = ⟨(x :: l).toArray⟩ := by simp
theorem lex_nil {c : Lc} {p n : Nat} {tkn : List Nat} (he : p = c.text.length) (h : lexF (c.text.cps.toList.drop p) = some (tkn, n)) : tkn = [] ∧ n = 0 := by
  rw [he, show List.drop c.text.length c.text.cps.toList = [] from List.drop_eq_nil_of_le (Nat.le_refl _)] at h
  simp only [lexF] at h
  injection h with z
  injection z with z1 z2
  exact ⟨z1.symm, z2.symm⟩
theorem drop_some {c : Lc} {p : Nat} (h : p < c.text.length) (hd : c.text.cps.toList.drop p = []) : False := by
  have := congrArg List.length hd
  simp at this
  have z : c.text.length = c.text.cps.size := rfl
  omega
theorem o_loop {u ui : Tok} {it m : Addr} {n : Nat} {tkn : List Nat} {ch : Option Value} {px : Pos} (T : Tp w mg mb hT) (D : Led hT (Lx prog w c σ ++ g) ((L, Frm gtNs [some (.ref c.lex), some (.str (Str.ofString "") u), some (.ref it), ch]) :: (it, fun o => o = citO m ui) :: (m, fun o => o = methodObj (.ref 100) (.ref c.lex)) :: l) h)
    (S : Scp hT env L gtNs [Str.ofString "iter"]) (r : Rm (k + 4) A (env :: es)) (hx : c.text.length ≤ 1000) (hp : σ.place ≤ c.text.length) (hlex : lexF (c.text.cps.toList.drop σ.place) = some (tkn, n)) :
    codeAny (model prog w) A (.forLoop (.Name (Str.ofString "ch") px) (.ref it) gtBody [] env) (OR prog w hT c σ g l s L it m tkn n) (At s h t) := by
  have hx' : c.text.length ≤ sizeLine := Nat.le_trans hx (by decide)
  refine floopV (OI prog w hT c σ g l s L it m u ui tkn n) _
    ⟨h, t, σ, ch, n, rfl, D, hp, hlex, fun _ a => a, rfl⟩ (by intro _; with_unfolding_all rfl) ?_
  clear D hp hlex
  rintro J K hJ hK n₁ _ ⟨h, t, σ', ch', n', rfl, D, hp, hlex, hadv, rfl⟩
  refine cit_next (k := k) T D (r.mono (by omega)) hx' hp (.s (.s .z)) (.s .z) (.s .z) ?_ ?_
  · intro hlt h₁ t₁ tk σ₁ hN D₁
    clear D
    cases hd : c.text.cps.toList.drop σ'.place with
    | nil => exact (drop_some hlt hd).elim
    | cons a rest =>
    obtain ⟨e1, e2, e3⟩ := sg_at hd
    obtain ⟨p1, p2, p3⟩ := hN.place hd
    rw [e2]
    rw [hd] at hlex
    refine nx_some (wpAny_assign_Name ?_)
    repeat walk_at "m"
    refine x_cons (st := _) (rest := _) ?_
    repeat walk_at "m"
    refine a_get (by assumption) T (bare_whitespace w) (.s (.s (.s (.s (.s (.s (.s .z))))))) (.s (.s (.s (.s (.s (.s (.s (.s .z)))))))) lexNs_nd (.s (.s .z)) (.s (.s .z)) rfl ?_
    intro _
    refine SB.contains ?_
    rw [in_blanks]
    repeat walk_at "m"
    refine b_two (fun e => ?_) (fun e => ?_)
    · simp only [lexF, e, if_true] at hlex
      obtain ⟨⟨ty, ny⟩, hy, hz⟩ := Option.map_eq_some_iff.mp hlex
      obtain ⟨rfl, rfl⟩ : ty = tkn ∧ ny + 1 = n' := by injection hz with z1 z2; exact ⟨z1, z2⟩
      repeat walk_at "m"
      refine wpAny_Continue ?_
      repeat walk_at "m"
      exact tn_cont (len_left p1 p3) (hJ _ _ ⟨_, _, σ₁, _, ny, rfl, by assumption, p3, by rw [p2]; exact hy, fun σ'' a => hadv σ'' (hN.adv hd a), rfl⟩)
    · have eb : ¬ isBl a = true := by rw [e]; exact Bool.false_ne_true
      clear e
      simp only [lexF, if_neg eb] at hlex
      repeat walk_at "m"
      refine eq_one (M := model prog w) (b := 34) (by decide +kernel) ?_
      repeat walk_at "m"
      refine b_two (fun e => ?_) (fun e => ?_)
      · have e : a = 34 := by simpa using e
        subst e
        simp only [if_true] at hlex
        obtain ⟨⟨ty, ny⟩, hy, hz⟩ := Option.map_eq_some_iff.mp hlex
        obtain ⟨rfl, rfl⟩ : ty = tkn ∧ ny + 1 = n' := by injection hz with z1 z2; exact ⟨z1, z2⟩
        repeat walk_at "m"
        refine wpAny_For ?_ (by intro _; with_unfolding_all rfl)
        repeat walk_at "m"
        rename_i D₂
        refine cit_iter (m := m) (u := ui) (let ⟨_, e, q⟩ := D₂.atL (.s .z); q ▸ e) ?_
        refine codeAny_mono (q_loop (tok := Str.ofString "") T D₂ S r hx p3 (.s .z) .z (by rw [p2]; exact hy) (by show 0 + _ ≤ 2000; omega)) ?_
        rintro _ _ ⟨h', t', u', σ₂, vs', rfl, rfl, ha, D₃⟩
        repeat walk_at "m"
        exact tn_ret (hK _ _ ⟨_, _, u', σ₂, _, _, rfl, hadv σ₂ (hN.adv hd ha), D₃, .inl (by rw [str_nil])⟩)
      · have e34 : ¬ a = 34 := by simpa using e
        clear e
        simp only [if_neg e34] at hlex
        have he0 : ∀ x : Nat, (Str.ofString "") ++ (⟨#[x]⟩ : Str) = ⟨#[x]⟩ := fun x => by rw [nil_cps]; rfl
        repeat walk_at "m"
        refine eq_one (M := model prog w) (b := 92) (by decide +kernel) ?_
        repeat walk_at "m"
        refine b_two (fun e => ?_) (fun e => ?_)
        · have e92 : a = 92 := by simpa using e
          clear e
          subst e92
          simp only [if_true] at hlex
          cases rest with
          | nil => cases hlex
          | cons x r' =>
          obtain ⟨⟨ty, ny⟩, hy, hz⟩ := Option.map_eq_some_iff.mp hlex
          obtain ⟨rfl, rfl⟩ : x :: ty = tkn ∧ ny + 2 = n' := by injection hz with z1 z2; exact ⟨z1, z2⟩
          repeat walk_at "m"
          refine m_get (by assumption) T (meth_rchar w) (.s (.s (.s (.s (.s (.s (.s .z))))))) (.s (.s (.s (.s (.s (.s (.s (.s .z)))))))) lexNs_rchar ?_
          refine c_fn (by with_unfolding_all rfl) ?_
          repeat walk_at "m"
          refine ⟨let ⟨o, e1, e2⟩ := fn_rchar_obj T (by assumption); ⟨o, _, e1, e2⟩, ?_⟩
          refine rc_call (k := k) T (by assumption) (r.mono (by omega)) hx' p3 ?_
          intro h₂ t₂ tk₂ σ₂ hN₂ D₂
          obtain ⟨p4, p5, p6⟩ := hN₂.place p2
          rw [(sg_at p2).2.1]
          repeat walk_at "m"
          refine z_iadd (by show _ + 1 ≤ sizeLine; decide +kernel) ?_
          intro _ _
          rw [he0]
          repeat walk_at "m"
          refine wpAny_For ?_ (by intro _; with_unfolding_all rfl)
          repeat walk_at "m"
          rename_i D₂
          refine cit_iter (m := m) (u := ui) (let ⟨_, e, q⟩ := D₂.atL (.s .z); q ▸ e) ?_
          refine codeAny_mono (p_loop (tok := ⟨#[x]⟩) T D₂ S r hx p6 (.s .z) .z (by rw [p5]; exact hy) (by show 1 + _ ≤ 2000; omega)) ?_
          rintro _ _ ⟨h', t', u', σ₃, vs', rfl, rfl, ha, D₃⟩
          repeat walk_at "m"
          exact tn_ret (hK _ _ ⟨_, _, u', σ₃, _, _, rfl, hadv σ₃ (hN.adv hd (hN₂.adv p2 ha)), D₃, .inl (by rw [str_one])⟩)
        · have e92 : ¬ a = 92 := by simpa using e
          clear e
          simp only [if_neg e92] at hlex
          obtain ⟨⟨ty, ny⟩, hy, hz⟩ := Option.map_eq_some_iff.mp hlex
          obtain ⟨rfl, rfl⟩ : a :: ty = tkn ∧ ny + 1 = n' := by injection hz with z1 z2; exact ⟨z1, z2⟩
          repeat walk_at "m"
          refine z_iadd (by show _ + 1 ≤ sizeLine; decide +kernel) ?_
          intro _ _
          rw [he0]
          repeat walk_at "m"
          refine wpAny_For ?_ (by intro _; with_unfolding_all rfl)
          repeat walk_at "m"
          rename_i D₂
          refine cit_iter (m := m) (u := ui) (let ⟨_, e, q⟩ := D₂.atL (.s .z); q ▸ e) ?_
          refine codeAny_mono (p_loop (tok := ⟨#[a]⟩) T D₂ S r hx p3 (.s .z) .z (by rw [p2]; exact hy) (by show 1 + _ ≤ 2000; omega)) ?_
          rintro _ _ ⟨h', t', u', σ₃, vs', rfl, rfl, ha, D₃⟩
          repeat walk_at "m"
          exact tn_ret (hK _ _ ⟨_, _, u', σ₃, _, _, rfl, hadv σ₃ (hN.adv hd ha), D₃, .inl (by rw [str_one])⟩)
  · intro he h₁ t₁ σ₁ hN D₁
    obtain ⟨rfl, rfl⟩ := lex_nil he hlex
    exact nx_none (hK _ _ ⟨_, _, u, σ₁, _, _, rfl, hadv σ₁ (hN.stay he), D₁, .inr ⟨rfl, rfl, .s .z⟩⟩)
theorem fn_tok (w : World) : FnAt w 107 [Str.ofString "self"] [Str.ofString "token", Str.ofString "fiter", Str.ofString "ch"] [Str.ofString "iter"] :=
  ⟨by kernel_rfl, by kernel_rfl, by kernel_rfl, by kernel_rfl, by kernel_rfl, ⟨by kernel_rfl, by kernel_rfl⟩, by kernel_rfl⟩
theorem tok_text {tkn : List Nat} {n : Nat} (T : Tp w mg mb hT) (D : Led hT (Lx prog w c σ ++ g) l h) (r : Rm (k + 5) A es) (hx : c.text.length ≤ 1000) (hp : σ.place ≤ c.text.length) (hpu : σ.push = []) (hlex : lexF (c.text.cps.toList.drop σ.place) = some (tkn, n)) :
    codeAny (model prog w) A (.call (.ref 107) ⟨[.ref c.lex], []⟩) (fun res s' => ∃ h' t' u' σ', res = .ok (.ret (.str ⟨tkn.toArray⟩ u')) ∧ s' = At s h' t' ∧ Adv c σ σ' n ∧ Led hT (Lx prog w c σ' ++ g) l h') (At s h t) := by
  refine call_top (ns := gtNs) (vs := [some (.ref c.lex), none, none, none]) D T (fn_tok w) r.room (as := [.ref c.lex]) (.of_eq (by kernel_rfl)) rfl rfl rfl ?_
  clear D
  intro L h t D S
  have r := r.deeper (callEnv (fd 107) L 107)
  refine wpAny_mono (Q := Out (fun res s' => ∃ h' t' u' σ', res = .ok (.ret (.str ⟨tkn.toArray⟩ u')) ∧ s' = At s h' t' ∧ Adv c σ σ' n ∧ Led hT (Lx prog w c σ' ++ g) l h')) (E := fun _ _ => False) ?_ (fun _ _ q => q) (fun _ _ q => q.elim)
  refine x_cons (st := _) (rest := _) ?_
  repeat walk_at "m"
  refine wpAny_isTrue_value ?_ (by with_unfolding_all rfl)
  repeat walk_at "m"
  refine a_get D T (bare_pushback w) (.s (.s (.s (.s (.s (.s (.s .z))))))) (.s (.s (.s (.s (.s (.s (.s (.s .z)))))))) lexNs_nd (.s (.s (.s .z))) (.s (.s (.s .z))) rfl ?_
  intro _
  obtain ⟨np, hpl⟩ := LstO.isList D (i := 9) (.s (.s (.s (.s (.s (.s (.s (.s (.s .z)))))))))
  refine l_truthy hpl (by rw [hpu]; decide) ?_
  intro _
  refine b_no (by rw [hpu]; rfl) ?_
  clear hpl
  repeat walk_at "m"
  refine a_bound (by assumption) T (meth_rchar w) (.s (.s (.s (.s (.s (.s (.s .z))))))) (.s (.s (.s (.s (.s (.s (.s (.s .z)))))))) lexNs_rchar ?_
  intro m _ _ D
  repeat walk_at "m"
  obtain ⟨_, hm, rfl⟩ := D.atL (.s .z)
  rename_i ut _
  refine iter_call hm ?_
  have D' := D.push2 (P := fun o => o = citO m ut) (o := citO m ut) rfl rfl
  clear D hm
  repeat walk_at "m"
  refine wpAny_For ?_ (by intro _; with_unfolding_all rfl)
  repeat walk_at "m"
  rename_i D₂
  refine cit_iter (m := m) (let ⟨_, e, q⟩ := D₂.atL (.s .z); q ▸ e) ?_
  refine codeAny_mono (o_loop T D₂ S r hx hp hlex) ?_
  rintro _ _ ⟨h', t', u', σ₃, vs', P, rfl, ha, D₃, rfl | ⟨rfl, rfl, hv⟩⟩
  · repeat walk_at "m"
    exact ⟨_, _, u', σ₃, rfl, rfl, ha, D₃.tail.tail.tail⟩
  · repeat walk_at "m"
    refine ld D₃ S (.s .z) hv ?_
    repeat walk_at "m"
    refine ⟨_, _, u', σ₃, ?_, rfl, ha, D₃.tail.tail.tail⟩
    rw [show (Str.ofString "") = ⟨([] : List Nat).toArray⟩ by decide +kernel]
theorem tok_push {x : Str} {u : Tok} {rest : List (Str × Tok)} (T : Tp w mg mb hT) (D : Led hT (Lx prog w c σ ++ g) l h) (r : Rm (k + 5) A es) (hpu : σ.push = (x, u) :: rest) (hz : rest.length ≤ 900) :
    codeAny (model prog w) A (.call (.ref 107) ⟨[.ref c.lex], []⟩) (fun res s' => ∃ h' t', res = .ok (.ret (.str x u)) ∧ s' = At s h' t' ∧ Led hT (Lx prog w c { σ with push := rest } ++ g) l h') (At s h t) := by
  refine call_top (ns := gtNs) (vs := [some (.ref c.lex), none, none, none]) D T (fn_tok w) r.room (as := [.ref c.lex]) (.of_eq (by kernel_rfl)) rfl rfl rfl ?_
  clear D
  intro L h t D S
  have r := r.deeper (callEnv (fd 107) L 107)
  refine wpAny_mono (Q := Out (fun res s' => ∃ h' t', res = .ok (.ret (.str x u)) ∧ s' = At s h' t' ∧ Led hT (Lx prog w c { σ with push := rest } ++ g) l h')) (E := fun _ _ => False) ?_ (fun _ _ q => q) (fun _ _ q => q.elim)
  refine x_cons (st := _) (rest := _) ?_
  repeat walk_at "m"
  refine wpAny_isTrue_value ?_ (by with_unfolding_all rfl)
  repeat walk_at "m"
  refine a_get D T (bare_pushback w) (.s (.s (.s (.s (.s (.s (.s .z))))))) (.s (.s (.s (.s (.s (.s (.s (.s .z)))))))) lexNs_nd (.s (.s (.s .z))) (.s (.s (.s .z))) rfl ?_
  intro _
  obtain ⟨np, hpl⟩ := LstO.isList D (i := 9) (.s (.s (.s (.s (.s (.s (.s (.s (.s .z)))))))))
  refine l_truthy hpl (by rw [hpu]; simp; rw [sizeLine_eq]; omega) ?_
  intro _
  refine b_yes (by rw [hpu]; rfl) ?_
  repeat walk_at "m"
  refine a_get D T (bare_pushback w) (.s (.s (.s (.s (.s (.s (.s .z))))))) (.s (.s (.s (.s (.s (.s (.s (.s .z)))))))) lexNs_nd (.s (.s (.s .z))) (.s (.s (.s .z))) rfl ?_
  intro _
  refine l_meth hpl PySem.F.slot_list_pop PySem.F.type_list_pop ?_
  refine c_bi' (by with_unfolding_all rfl) ?_
  repeat walk_at "m"
  have D' : Led hT ((Lx prog w c { σ with push := (x, u) :: rest }) ++ g) ((L, Frm gtNs [some (.ref c.lex), none, none, none]) :: l) h := by rw [← hpu]; exact D
  refine l_pop0 (x := .str x u) (xs := rest.map fun p : Str × Tok => Value.str p.1 p.2) (g' := Lx prog w c { σ with push := rest } ++ g) D' (i := 9) (.s (.s (.s (.s (.s (.s (.s (.s (.s .z))))))))) (.s (.s (.s (.s (.s (.s (.s (.s (.s .z))))))))) (by simp; omega) ?_
  intro _ _ D₂
  repeat walk_at "m"
  exact ⟨_, _, rfl, rfl, D₂.tail⟩
end
section
variable {prog : Program} {w : World} {A : Around} {E : Value → Shared → Prop} {s : Shared} {h hT : Heap} {t : Nat} {g l : List Fact} {mg mb : Str → Option Value} {k : Nat} {es : List Env} {c : Lc} {σ : Ls}
theorem fn_push (w : World) : FnAt w 114 [Str.ofString "self", Str.ofString "token"] [] [] :=
  ⟨by kernel_rfl, by kernel_rfl, by kernel_rfl, by kernel_rfl, by kernel_rfl, ⟨by kernel_rfl, by kernel_rfl⟩, by kernel_rfl⟩
theorem push_spec {x : Str} {u : Tok} (T : Tp w mg mb hT) (D : Led hT (Lx prog w c σ ++ g) l h) (r : Rm (k + 5) A es) (hz : σ.push.length ≤ 900) :
    codeAny (model prog w) A (.call (.ref 114) ⟨[.ref c.lex, .str x u], []⟩) (fun res s' => ∃ h' t', res = .ok (.ret .none) ∧ s' = At s h' t' ∧ Led hT (Lx prog w c { σ with push := σ.push ++ [(x, u)] } ++ g) l h') (At s h t) := by
  refine call_top (ns := [Str.ofString "self", Str.ofString "token"]) (vs := [some (.ref c.lex), some (.str x u)]) D T (fn_push w) r.room (as := [.ref c.lex, .str x u]) (.of_eq (by kernel_rfl)) rfl rfl rfl ?_
  clear D
  intro L h t D S
  have r := r.deeper (callEnv (fd 114) L 114)
  refine wpAny_mono (Q := Out (fun res s' => ∃ h' t', res = .ok (.ret .none) ∧ s' = At s h' t' ∧ Led hT (Lx prog w c { σ with push := σ.push ++ [(x, u)] } ++ g) l h')) (E := fun _ _ => False) ?_ (fun _ _ q => q) (fun _ _ q => q.elim)
  refine x_cons (st := _) (rest := _) ?_
  refine wpAny_Expr_any ?_
  repeat walk_at "m"
  refine a_get D T (bare_pushback w) (.s (.s (.s (.s (.s (.s (.s .z))))))) (.s (.s (.s (.s (.s (.s (.s (.s .z)))))))) lexNs_nd (.s (.s (.s .z))) (.s (.s (.s .z))) rfl ?_
  intro _
  obtain ⟨np, hpl⟩ := LstO.isList D (i := 9) (.s (.s (.s (.s (.s (.s (.s (.s (.s .z)))))))))
  refine l_meth hpl PySem.F.slot_list_append PySem.F.type_list_append ?_
  refine c_bi' (by with_unfolding_all rfl) ?_
  repeat walk_at "m"
  refine l_append (x := .str x u) (xs := σ.push.map fun p : Str × Tok => Value.str p.1 p.2) (g' := Lx prog w c { σ with push := σ.push ++ [(x, u)] } ++ g) D (i := 9) (.s (.s (.s (.s (.s (.s (.s (.s (.s .z))))))))) (by rw [← show List.map (fun p : Str × Tok => Value.str p.1 p.2) (σ.push ++ [(x, u)]) = σ.push.map (fun p : Str × Tok => Value.str p.1 p.2) ++ [.str x u] by simp]; exact (.s (.s (.s (.s (.s (.s (.s (.s (.s .z)))))))))) (by simp; omega) ?_
  intro _ _ D₂
  repeat walk_at "m"
  exact ⟨_, _, rfl, rfl, D₂.tail⟩
end
noncomputable def Clo (P : Obj → Prop) : Prop := ∀ o sl, P o → (∃ es ep, o.data = .dict es ep) → P { o with slots := sl }
noncomputable def CloL (l : List Fact) : Prop := ∀ c ∈ l, Clo c.2
noncomputable def FrsIn (es : List Env) (l : List Fact) : Prop := ∀ env ∈ es, env.scope.kind ≠ .module ∧ ∃ L ns vs, env.frame = some L ∧ (L, Frm ns vs) ∈ l
noncomputable def ExO (C : Value) (d : Option Addr) (a0 tb : Value) : Obj → Prop := fun o => o.cls = C ∧ o.dict = d ∧ ∃ vs, o.data = .fields vs ∧ vs[0]? = some a0 ∧ vs[1]? = some tb
noncomputable def TbO (fl : Value) : Obj → Prop := fun o => ∃ ts, o.data = .fields ts ∧ ts[3]? = some fl
theorem CloL.cons {c : Fact} {l : List Fact} (h : Clo c.2) (hl : CloL l) : CloL (c :: l) := fun x hx => by
  rcases List.mem_cons.mp hx with rfl | hx
  · exact h
  · exact hl x hx
theorem CloL.nil : CloL [] := fun _ h => (nomatch h)
theorem CloL.app {l l' : List Fact} (h : CloL l) (h' : CloL l') : CloL (l ++ l') := fun x hx => (List.mem_append.mp hx).elim (h x) (h' x)
theorem Clo.frm {ns : List Str} {vs : List (Option Value)} : Clo (Frm ns vs) := fun _ _ h _ => h
theorem Clo.dfrm {n : Nat} {ns : List Str} {vs : List (Option Value)} : Clo (DFrm n ns vs) := fun _ _ h _ => h
theorem Clo.exo {C : Value} {d : Option Addr} {a0 tb : Value} : Clo (ExO C d a0 tb) := fun _ _ h _ => h
theorem Clo.tbo {fl : Value} : Clo (TbO fl) := fun _ _ h _ => h
theorem Clo.inst {C dx : Addr} : Clo (InstO C dx) := fun _ _ h _ => h
theorem Clo.cell {v : Value} : Clo (CellIs v) := fun _ _ h _ => h
theorem Clo.fn {f : FuncData} : Clo (FnO f) := fun _ _ h _ => h
theorem Clo.code {q : Str} : Clo (CodeQ q) := fun _ _ h _ => h
theorem Clo.lst {xs : List Value} : Clo (LstO xs) := by
  rintro _ _ ⟨n, rfl⟩ ⟨_, _, h⟩
  cases h
theorem FrsIn.cons {env : Env} {es : List Env} {L : Addr} {ns : List Str} {vs : List (Option Value)} {l : List Fact} (hk : env.scope.kind ≠ .module) (hf : env.frame = some L) (F : FrsIn es l) : FrsIn (env :: es) ((L, Frm ns vs) :: l) := fun x hx => by
  rcases List.mem_cons.mp hx with rfl | hx
  · exact ⟨hk, L, ns, vs, hf, .head _⟩
  · obtain ⟨a, L', ns', vs', b, c⟩ := F x hx
    exact ⟨a, L', ns', vs', b, .tail _ c⟩
theorem FrsIn.mono {es : List Env} {l l' : List Fact} (F : FrsIn es l) (h : ∀ c ∈ l, c ∈ l') : FrsIn es l' := fun x hx =>
  let ⟨a, L, ns, vs, b, c⟩ := F x hx; ⟨a, L, ns, vs, b, h _ c⟩
section
variable {hT h h' : Heap} {g l l₀ : List Fact} {es : List Env}
theorem FrsIn.frames (D : Led hT g l h) : ∀ {es : List Env}, FrsIn es l → h.FunFrames hT es
  | [], _ => trivial
  | env :: es, F => by
    obtain ⟨a, L, ns, vs, b, c⟩ := F env (.head _)
    have hm : (L, Frm ns vs) ∈ g ++ l := List.mem_append_right _ c
    obtain ⟨o, e, _, _, q, _⟩ := Ldg.has D _ hm
    exact ⟨a, ⟨L, o, b, Ldg.new D _ hm, e, fun vs z => by rw [q] at z; cases z⟩, FrsIn.frames D fun x hx => F x (.tail _ hx)⟩
theorem FrsIn.mem (D : Led hT g l h) {es : List Env} (F : FrsIn es l) {b : Addr} (hb : b ∈ es.filterMap (·.frame)) : hT.get? b = none ∧ ∀ o, h.get? b = some o → ∃ es ep, o.data = .dict es ep := by
  obtain ⟨env, he, hf⟩ := List.mem_filterMap.mp hb
  obtain ⟨_, L, ns, vs, e, c⟩ := F env he
  rw [e] at hf
  cases hf
  have hm : (_, Frm ns vs) ∈ g ++ l := List.mem_append_right _ c
  refine ⟨Ldg.new D _ hm, fun o ho => ?_⟩
  obtain ⟨o', e', es', ep, q, _⟩ := Ldg.has D _ hm
  rw [e'] at ho
  cases ho
  exact ⟨es', ep, q⟩
theorem nodup_one {l : List Fact} (hn : (l.map (·.1)).Nodup) {a b : Fact} (ha : a ∈ l) (hb : b ∈ l) (e : a.1 = b.1) : a = b := by
  obtain ⟨i, hi, rfl⟩ := List.mem_iff_getElem.mp ha
  obtain ⟨j, hj, rfl⟩ := List.mem_iff_getElem.mp hb
  have : i = j := by
    refine (List.getElem_inj (h₀ := by rw [List.length_map]; exact hi) (h₁ := by rw [List.length_map]; exact hj) hn).mp ?_
    rw [List.getElem_map, List.getElem_map, e]
  subst this
  rfl
theorem Led.slots (D : Led hT g l h) (F : FrsIn es l) (hs : Heap.SlotsOnly (es.filterMap (·.frame)) h h') : Led hT g l h' := by
  refine ⟨fun b o e => ?_, fun c hc => ?_, Ldg.nd D, Ldg.new D, by rw [hs.1]; exact D.sz⟩
  · exact (hs.2.1 b fun hb => by rw [(F.mem D hb).1] at e; cases e).trans (D.keep b o e)
  · obtain ⟨o, e, q⟩ := Ldg.has D c hc
    by_cases hb : c.1 ∈ es.filterMap (·.frame)
    · obtain ⟨sl, e'⟩ := hs.2.2 _ _ e
      obtain ⟨env, he, hf⟩ := List.mem_filterMap.mp hb
      obtain ⟨_, L, ns, vs, e1, c1⟩ := F env he
      rw [e1] at hf
      cases hf
      have hq := congrArg Prod.snd (nodup_one (Ldg.nd D) hc (List.mem_append_right _ c1) rfl)
      refine ⟨_, e', ?_⟩
      rw [hq] at q ⊢
      exact Clo.frm _ _ q ((F.mem D hb).2 _ e)
    · exact ⟨o, (hs.2.1 _ hb).trans e, q⟩
end
section
variable {M : Model} {A : Around} {E : Value → Shared → Prop} {s : Shared} {h hT : Heap} {t : Nat} {g l l₀ : List Fact} {env : Env} {es : List Env} {L e : Addr} {ns : List Str} {vs : List (Option Value)} {C a0 tb : Value} {d : Option Addr}
theorem note_core {head : Value} {hadNext : Bool} {Q : Unit → Shared → Prop} (hfr : A.frames = some (env :: es)) (F : FrsIn (env :: es) ((L, Frm ns vs) :: l₀)) (hf : env.frame = some L)
    (D : Led hT g ((L, Frm ns vs) :: (e, ExO C d a0 tb) :: l₀) h)
    (k : ∀ h' T, Led hT g ((L, Frm ns vs) :: (e, ExO C d a0 (.ref T)) :: (T, TbO (rawInt L)) :: l₀) h' → Q () (At s h' t)) :
    wpAny M A (do let a ← frameOf env; let pl ← entryPlaceOf L hadNext; let b ← EntryCells.newEntry head a .none (rawInt L) .none pl; setField (.ref e) 1 b) Q E (At s h t) := by
  have F' : FrsIn (env :: es) ((L, Frm ns vs) :: (e, ExO C d a0 tb) :: l₀) := F.mono fun c hc => by
    rcases List.mem_cons.mp hc with rfl | hc
    · exact .head _
    · exact .tail _ (.tail _ hc)
  refine wpAny_bind (wpAny_frameOf_fun (s := At s h t) hfr (FrsIn.frames D F') hf fun h₁ hs₁ => ?_)
  have D₁ := D.slots F' hs₁
  clear D hs₁
  show wpAny M A _ Q E (At s h₁ t)
  refine wpAny_bind (wpAny_entryPlaceOf fun pl hpl => ?_)
  unfold EntryCells.newEntry newFields
  refine wpAny_bind (wpAny_newObj_type ?_ (hpl.sizeOk5 _ _ _ _ _))
  have D₂ := D₁.push (P := TbO (rawInt L)) (o := { cls := .type "traceback", dict := none, data := .fields ([head, .ref L, .none, rawInt L, .none] ++ (if pl.isEmpty then List.replicate 6 Value.none else pl)).toArray }) rfl ⟨_, rfl, by simp⟩
  have D₃ : Led hT g ((L, Frm ns vs) :: (e, ExO C d a0 tb) :: (h₁.objs.size, TbO (rawInt L)) :: l₀) _ := Ldg.perm D₂ (List.Perm.append_left _ ((List.Perm.swap ..).trans (List.Perm.cons _ (List.Perm.swap ..))))
  clear D₁ D₂
  obtain ⟨oe, he, q1, q2, ws, hd, h0, h1⟩ := D₃.atL (.s .z)
  have hsz := (Array.getElem?_eq_some_iff.mp h1).1
  refine wpAny_setField he hd hsz (k _ h₁.objs.size ?_)
  have hd' := Obj.data_mapFields hd (·.setIfInBounds 1 (Value.ref h₁.objs.size))
  refine D₃.sameL (.s .z) (.s .z) (Heap.SameBut.update ..) ⟨_, Heap.get?_update_self _ he (Obj.isFreed_of_fields hd'), ?_⟩
  refine ⟨(Obj.cls_mapFields _ _).trans q1, ?_, _, hd', by rw [Array.getElem?_setIfInBounds_ne (by decide)]; exact h0, by simp [hsz]⟩
  rw [← q2]
  unfold Obj.mapFields
  split <;> rfl
theorem land_core {Q : Unit → Shared → Prop} {T : Addr} {fl : Value} (D : Led hT g ((L, Frm ns vs) :: (e, ExO C d a0 (.ref T)) :: (T, TbO fl) :: l₀) h)
    (k : ∀ h', Led hT g ((L, Frm ns vs) :: (e, ExO C d a0 (.ref T)) :: (T, TbO .none) :: l₀) h' → Q () (At s h' t)) : wpAny M A (setFlight (.ref e) none) Q E (At s h t) := by
  obtain ⟨oe, he, q1, q2, ws, hd, h0, h1⟩ := D.atL (.s .z)
  obtain ⟨oT, hT', ts, hdT, h3⟩ := D.atL (.s (.s .z))
  unfold setFlight
  refine wpAny_bind (wpAny_field he hd h1 ?_)
  rw [if_pos (show (Value.ref T != Value.none) = true from by simp)]
  have hsz := (Array.getElem?_eq_some_iff.mp h3).1
  refine wpAny_setField hT' hdT hsz (k _ ?_)
  have hd' := Obj.data_mapFields hdT (·.setIfInBounds 3 ((none : Option Addr).elim Value.none fun f => rawInt f))
  exact D.sameL (.s (.s .z)) (.s (.s .z)) (Heap.SameBut.update ..) ⟨_, Heap.get?_update_self _ hT' (Obj.isFreed_of_fields hd'), _, hd', by simp [hsz]⟩
theorem leave_first {Q : Unit → Shared → Prop} (hfr : A.frames = some (env :: es)) (F : FrsIn (env :: es) ((L, Frm ns vs) :: l₀)) (hf : env.frame = some L)
    (D : Led hT g ((L, Frm ns vs) :: (e, ExO C d a0 .none) :: l₀) h)
    (k : ∀ h' T, Led hT g ((e, ExO C d a0 (.ref T)) :: (T, TbO .none) :: l₀) h' → Q () (At s h' t)) : wpAny M A (leaving env (.ref e)) Q E (At s h t) := by
  obtain ⟨oe, he, q1, q2, ws, hd, h0, h1⟩ := D.atL (.s .z)
  unfold leaving noteFrame
  simp only [hf]
  refine wpAny_bind (wpAny_bind (wpAny_field he hd h1 ?_))
  rw [if_neg (by decide)]
  refine note_core hfr F hf D fun h' T D' => ?_
  exact land_core D' fun h' D'' => k _ _ D''.tail
theorem note_next {Q : Unit → Shared → Prop} {T : Addr} (hfr : A.frames = some (env :: es)) (F : FrsIn (env :: es) ((L, Frm ns vs) :: l₀)) (hf : env.frame = some L)
    (D : Led hT g ((L, Frm ns vs) :: (e, ExO C d a0 (.ref T)) :: (T, TbO .none) :: l₀) h)
    (k : ∀ h' T, Led hT g ((L, Frm ns vs) :: (e, ExO C d a0 (.ref T)) :: (T, TbO (rawInt L)) :: l₀) h' → Q () (At s h' t)) : wpAny M A (noteFrame (.ref e) env) Q E (At s h t) := by
  obtain ⟨oe, he, q1, q2, ws, hd, h0, h1⟩ := D.atL (.s .z)
  obtain ⟨oT, hT', ts, hdT, h3⟩ := D.atL (.s (.s .z))
  unfold noteFrame
  simp only [hf]
  refine wpAny_bind (wpAny_field he hd h1 ?_)
  rw [if_pos (show (Value.ref T != Value.none) = true from by simp)]
  refine wpAny_bind (wpAny_field hT' hdT h3 ?_)
  rw [if_neg (show ¬ ((Value.none == rawInt L) = true) from by simp [rawInt])]
  have hsz := (Array.getElem?_eq_some_iff.mp h3).1
  refine wpAny_bind (wpAny_setField hT' hdT hsz ?_)
  have hd' := Obj.data_mapFields hdT (·.setIfInBounds 3 Value.none)
  have D₁ : Led hT g ((L, Frm ns vs) :: (e, ExO C d a0 (.ref T)) :: (T, TbO .none) :: l₀) _ := D.sameL (.s (.s .z)) (.s (.s .z)) (Heap.SameBut.update ..) ⟨_, Heap.get?_update_self _ hT' (Obj.isFreed_of_fields hd'), _, hd', by simp [hsz]⟩
  exact note_core hfr F hf (D₁.sub (.cons_cons _ (.cons_cons _ (.cons _ (.refl _))))) k
theorem leave_next {Q : Unit → Shared → Prop} {T : Addr} (hfr : A.frames = some (env :: es)) (F : FrsIn (env :: es) ((L, Frm ns vs) :: l₀)) (hf : env.frame = some L)
    (D : Led hT g ((L, Frm ns vs) :: (e, ExO C d a0 (.ref T)) :: (T, TbO .none) :: l₀) h)
    (k : ∀ h' T, Led hT g ((e, ExO C d a0 (.ref T)) :: (T, TbO .none) :: l₀) h' → Q () (At s h' t)) : wpAny M A (leaving env (.ref e)) Q E (At s h t) := by
  unfold leaving
  refine wpAny_bind (note_next hfr F hf D fun h' T D' => ?_)
  exact land_core D' fun h' D'' => k _ _ D''.tail
end
open PySem.Calls PySem.Builtin PySem.Builtin.ObjectAttr
structure BareX (w : World) (x : Str) : Prop where
  no : findIn (hd.heap_39 w.params) (.ref 76) x = some none
theorem xc_sa (w : World) : findIn (hd.heap_39 w.params) (.ref 76) "__setattr__" = some (some (.builtin "object.__setattr__")) := by kernel_rfl
theorem xc_ga (w : World) : findIn (hd.heap_39 w.params) (.ref 76) "__getattribute__" = some (some (.builtin "BaseException.__getattribute__")) := by kernel_rfl
theorem xc_cls (w : World) : ∃ cd, clsIn (hd.heap_39 w.params) 76 = some cd ∧ cd.hasDict = true ∧ cd.mro = [.ref 76, .type "Exception", .type "BaseException", .type "object"] := by
  have h : ((clsIn (hd.heap_39 w.params) 76).any fun cd => cd.hasDict && cd.mro == [.ref 76, .type "Exception", .type "BaseException", .type "object"]) = true := by kernel_rfl
  obtain ⟨cd, hc, q⟩ := Option.any_eq_true .. |>.mp h
  simp only [Bool.and_eq_true, beq_iff_eq] at q
  exact ⟨cd, hc, q.1, q.2⟩
theorem look_none : ∀ (ns : List Str) (x : Str), look ns (ns.map fun _ => none) x = none
  | [], _ => rfl
  | n :: ns, x => by
    show (if x = n then none else look ns (ns.map fun _ => none) x) = none
    rw [look_none ns x]
    split <;> rfl
section
variable {prog : Program} {w : World} {A : Around} {E : Value → Shared → Prop} {s : Shared} {h hT : Heap} {t : Nat} {g l : List Fact} {mg mb : Str → Option Value} {e L : Addr} {a0 tb : Value} {P : Obj → Prop} {d : Option Addr}
theorem xo_inst {o : Obj} (ho : h.get? e = some o) (q : ExO (.ref 76) none a0 tb o) : InstAt h e o 76 none := by
  obtain ⟨q1, q2, ws, q3, _⟩ := q
  exact ⟨ho, q1, by unfold notCls; rw [q3], by rw [q2]; trivial⟩
theorem xo_inst' {o od : Obj} {dx : Addr} (ho : h.get? e = some o) (q : ExO (.ref 76) (some dx) a0 tb o) (hd : h.get? dx = some od) : InstAt h e o 76 (some od) := by
  obtain ⟨q1, q2, ws, q3, _⟩ := q
  exact ⟨ho, q1, by unfold notCls; rw [q3], by rw [q2]; exact hd⟩
theorem st_dict {dx : Addr} {j n p : Nat} {ns : List Str} {vs vs' : List (Option Value)} {l' : List Fact} {name : Str} {tk : Tok} {v : Value} {Q : Fin → Shared → Prop} (D : Led hT g l h) (hd : AtI l j (dx, DFrm n ns vs)) (hn : ns.Nodup) (hz : n ≤ 1000)
    (h1 : AtI ns p name) (h2 : SetI vs p (some v) vs') (hl : SetI l j (dx, DFrm (n + 1) ns vs') l') (k : ∀ h' t', Led hT g l' h' → Q (.done (.ret .none)) (At s h' t')) : wpAny (model prog w) A (storeInDict dx (.str name tk) name v) Q E (At s h t) := by
  obtain ⟨od, hod, F⟩ := D.atL hd
  refine wpAny_bind (wpAny_pure (wpAny_bind ?_))
  unfold nsSet
  refine wpAny_bind (wpAny_bind (wpAny_askSetting (wpAny_pure (wpAny_bind (wpAny_mkText (wpAny_bind (wpAny_loadPart hod ?_)))))))
  have P := (F.put (hs := PyData.keyHash w.params name) (tk := t) hn h1 h2).1
  obtain ⟨es, ep, e, hk, hf, hsz⟩ := id F
  rw [e]
  dsimp only
  rw [aRefKeyMayBeTheName_at, any_refKey hk, Bool.and_false]
  refine wpAny_updatePart hod ?_
  have D' : Led hT g l' (h.update dx (Obj.putName name (PyData.keyHash w.params name) (.str name t) v)) := D.sameL hd hl (Heap.SameBut.update ..) ⟨_, Heap.get?_update_self _ hod (by obtain ⟨es', ep', e', _⟩ := P; exact Obj.isFreed_of_dict e'), P⟩
  obtain ⟨es', ep', e', _, _, hsz'⟩ := id P
  refine wpAny_bind (wpAny_lookBehind (Heap.get?_update_self _ hod (Obj.isFreed_of_dict e')) ((congrArg Data.pastItsLine e').trans (pastItsLine_dict (by rw [sizeLine_eq]; omega))) ?_)
  exact wpAny_pure (k _ _ D')
theorem x_open {o : Obj} {od : Option Obj} {name : Str} {v : Value} {Q : Unit → Shared → Prop} (D : Led hT g l h) (T : Tp w mg mb hT) (B : BareX w name) (I : InstAt h e o 76 od)
    (k : wpAny (model prog w) A.in1 (storeInOwnDict (.ref e) (.ref 76) (.str name t) name v false)
      (fun fin s' => match fin with | .done (.ret _) => Q () s' | _ => False) (fun x s' => E x s') (At s h (t + 1))) : wpAny (model prog w) A (setAttr (.ref e) name v) Q E (At s h t) := by
  have X := T.X.keeps D.keep
  obtain ⟨cd, hc, hcd, hm⟩ := xc_cls w
  refine set_plain (s := At s h t) X I (xc_sa w) ?_
  have SF := PySem.F.store_object
  have sub : Looks (model prog w) h (isInstance (.ref e) (.type "object")) true := I.type.andThen (looks_mroIn X (by unfold mroIn; rw [hc, Option.bind_some, hm]; rfl))
  refine codeAny_call_builtin SF.slot.plain SF.entry (@check_slot (model prog w) _ _ (At s h (t + 1)) "object.__setattr__" "object" "__setattr__" (.ref e) [.str name t, v] [] _ SF.kind SF.split sub (SF.args (.ref e) (.str name t) v) ?_)
  have hml : Looks (model prog w) h (mroOf (.ref 76)) cd.mro := (looks_clsIn X hc).andThen .now
  rw [osa_eq, refuse_eq]
  refine wpAny_bind (wpAny_bind (I.type.here (wpAny_bind (hml.here ?_))))
  rw [hm, refuseLoop_ref, PySem.F.store_Exception.passes]
  refine wpAny_pure (wpAny_bind (I.type.here (wpAny_bind ((looks_findIn X B.no).here (wpAny_bind (wpAny_pure ?_))))))
  refine wpAny_mono k (fun fin s' z => ?_) fun _ _ z => z
  rcases fin with (_ | _ | _ | _) | _ <;> first | exact z | exact z.elim
theorem x_first {name : Str} {ns : List Str} {vs' : List (Option Value)} {v : Value} {i : Nat} {Q : Unit → Shared → Prop} (D : Led hT g ((L, P) :: (e, ExO (.ref 76) none a0 tb) :: l) h) (T : Tp w mg mb hT) (B : BareX w name) (hn : ns.Nodup)
    (h1 : AtI ns i name) (h2 : SetI (ns.map fun _ => none) i (some v) vs')
    (k : ∀ h' t' dx, Led hT g ((L, P) :: (e, ExO (.ref 76) (some dx) a0 tb) :: (dx, DFrm 1 ns vs') :: l) h' → Q () (At s h' t')) : wpAny (model prog w) A (setAttr (.ref e) name v) Q E (At s h t) := by
  obtain ⟨o, ho, q⟩ := D.atL (.s .z)
  have I := xo_inst ho q
  have X := T.X.keeps D.keep
  obtain ⟨cd, hc, hcd, hm⟩ := xc_cls w
  refine x_open D T B I ?_
  obtain ⟨q1, q2, ws, q3, q4, q5⟩ := q
  obtain ⟨oc, odi, oda, osl⟩ := o
  dsimp only at q1 q2 q3
  subst q1 q2 q3
  have D₁ := D.push (P := DFrm 0 ns (ns.map fun _ => none)) (o := { cls := .type "dict", data := .dict #[] }) rfl ⟨#[], _, rfl, fun e he => absurd he (by simp), fun x => (look_none ns x).symm, Nat.zero_le _⟩
  have D₂ : Led hT g ((L, P) :: (e, ExO (.ref 76) none a0 tb) :: (h.objs.size, DFrm 0 ns (ns.map fun _ => none)) :: l) _ := Ldg.perm D₁ (List.Perm.append_left _ ((List.Perm.swap ..).trans (List.Perm.cons _ (List.Perm.swap ..))))
  have ho₁ := Heap.get?_push_of_some (h := h) { cls := .type "dict", data := .dict #[] } ho
  refine wpAny_bind (wpAny_pure (wpAny_bind (wpAny_bind (wpAny_loadPart ho (wpAny_bind ((looks_clsIn X hc).here ?_))))))
  rw [hcd]
  refine wpAny_bind (wpAny_alloc' ?_)
  refine wpAny_bind (wpAny_update' ho₁ ?_)
  refine wpAny_pure ?_
  show wpAny _ _ (storeInDict h.objs.size (.str name t) name v) _ _ (At s ((h.push { cls := .type "dict", data := .dict #[] }).update e fun o => { o with dict := some h.objs.size }) (t + 1))
  have D₃ : Led hT g ((L, P) :: (e, ExO (.ref 76) (some h.objs.size) a0 tb) :: (h.objs.size, DFrm 0 ns (ns.map fun _ => none)) :: l) ((h.push { cls := .type "dict", data := .dict #[] }).update e fun o => { o with dict := some h.objs.size }) :=
    D₂.sameL (.s .z) (.s .z) (Heap.SameBut.update ..) ⟨_, Heap.get?_update_self _ ho₁ rfl, rfl, rfl, _, rfl, q4, q5⟩
  exact st_dict D₃ (.s (.s .z)) hn (by omega) h1 h2 (.s (.s .z)) fun h' t' D' => k _ _ _ D'
theorem x_later {name : Str} {ns : List Str} {vs vs' : List (Option Value)} {v : Value} {i n : Nat} {dx : Addr} {Q : Unit → Shared → Prop} (D : Led hT g ((L, P) :: (e, ExO (.ref 76) (some dx) a0 tb) :: (dx, DFrm n ns vs) :: l) h) (T : Tp w mg mb hT) (B : BareX w name) (hn : ns.Nodup) (hz : n ≤ 1000)
    (h1 : AtI ns i name) (h2 : SetI vs i (some v) vs')
    (k : ∀ h' t', Led hT g ((L, P) :: (e, ExO (.ref 76) (some dx) a0 tb) :: (dx, DFrm (n + 1) ns vs') :: l) h' → Q () (At s h' t')) : wpAny (model prog w) A (setAttr (.ref e) name v) Q E (At s h t) := by
  obtain ⟨o, ho, q⟩ := D.atL (.s .z)
  obtain ⟨od, hod, F⟩ := D.atL (.s (.s .z))
  have I := xo_inst' ho q hod
  have X := T.X.keeps D.keep
  obtain ⟨cd, hc, hcd, hm⟩ := xc_cls w
  refine x_open D T B I ?_
  obtain ⟨q1, q2, ws, q3, q4, q5⟩ := q
  obtain ⟨oc, odi, oda, osl⟩ := o
  dsimp only at q1 q2 q3
  subst q1 q2 q3
  refine wpAny_bind (wpAny_pure (wpAny_bind (wpAny_bind (wpAny_loadPart ho (wpAny_bind ((looks_clsIn X hc).here ?_))))))
  rw [hcd]
  refine wpAny_pure (a := some dx) ?_
  show wpAny _ _ (storeInDict dx (.str name t) name v) _ _ (At s h (t + 1))
  exact st_dict D (.s (.s .z)) hn hz h1 h2 (.s (.s .z)) fun h' t' D' => k _ _ D'
end
theorem ns_some_of {K : Frag} {h : Heap} {N : Addr} {m : Str → Option Value} {n : Str} {v : Value} (X : K.In h) (G : h.Ns N m) (e : nsIn K N n = some (some v)) : m n = some v := by
  obtain ⟨o, es, ep, ho, hd, _, hf⟩ := G
  unfold nsIn at e
  split at e
  · rename_i c d es' n' sl q
    have := X _ _ q
    rw [ho] at this
    cases this
    cases hd
    split at e
    · rename_i en he
      cases e
      rw [← hf]
      unfold nsFind findBy
      rw [← Array.find?_toList, he]
      rfl
    · split at e <;> cases e
  · cases e
theorem xc_obj {w : World} {h : Heap} (X : (hd.heap_39 w.params).In h) : ∃ nm q N bs sn sub ab col dd k0 k1 k2 k3 k5 mN,
    h.get? 76 = some (excClassObj nm q 76 N bs [.type "Exception", .type "BaseException", .type "object"] true sn sub ab col dd k0 k1 k2 k3 k5 "Exception.__new__") ∧ h.Ns N mN ∧ mN "__init__" = some (.ref 66) :=
  have G : h.Ns 75 (h.nsMap 75) := .of_isNs (isNs_of_in X (by kernel_rfl))
  ⟨Str.ofString "NetrcParseError", Str.ofString "NetrcParseError", 75, [.type "Exception"], [], [], false, none, none, some (.ref 52), none, some (z "NetrcParseError" 240), some (z "NetrcParseError" 248), some (.bool true), _, X _ _ (by kernel_rfl), G, ns_some_of X G (by kernel_rfl)⟩
theorem Led.swap {hT h : Heap} {g l : List Fact} {a b : Fact} (D : Led hT g (a :: b :: l) h) : Led hT g (b :: a :: l) h := Ldg.perm D (List.Perm.append_left _ (List.Perm.swap ..))
theorem Led.made {hT h h' : Heap} {g l : List Fact} {L e : Addr} {P P' : Obj → Prop} {o : Obj} (D : Led hT g ((L, P) :: l) h) (ha : hT.objs.size ≤ L) (hk : ∀ b o, h.get? b = some o → h'.get? b = some o) (hn : h.get? e = none) (he : h'.get? e = some o) (hp : P' o) :
    Led hT g ((e, P') :: (L, P) :: l) h' := by
  have D' := D.growF ha hk
  refine Ldg.perm (l := (e, P') :: (g ++ ((L, P) :: l))) ⟨D'.keep, fun c hc => ?_, ?_, fun c hc => ?_, D'.sz⟩ (List.perm_middle).symm
  · rcases List.mem_cons.mp hc with rfl | hc
    · exact ⟨o, he, hp⟩
    · exact Ldg.has D' c hc
  · rw [List.map_cons, List.nodup_cons]
    refine ⟨fun hm => ?_, Ldg.nd D⟩
    obtain ⟨c, hc, q⟩ := List.mem_map.mp hm
    obtain ⟨o', e', _⟩ := Ldg.has D c hc
    rw [q, hn] at e'
    cases e'
  · rcases List.mem_cons.mp hc with rfl | hc
    · show hT.get? e = none
      cases q : hT.get? e with
      | none => rfl
      | some o' => have := D.keep _ _ q; rw [hn] at this; cases this
    · exact Ldg.new D' c hc
theorem bx_filename (w : World) : BareX w (Str.ofString "filename") := ⟨by kernel_rfl⟩
theorem bx_lineno (w : World) : BareX w (Str.ofString "lineno") := ⟨by kernel_rfl⟩
theorem bx_msg (w : World) : BareX w (Str.ofString "msg") := ⟨by kernel_rfl⟩
noncomputable abbrev exNs : List Str := [Str.ofString "filename", Str.ofString "lineno", Str.ofString "msg"]
theorem exNs_nd : exNs.Nodup := by decide +kernel
noncomputable abbrev inNs : List Str := [Str.ofString "self", Str.ofString "msg", Str.ofString "filename", Str.ofString "lineno"]
section
variable {prog : Program} {w : World} {A : Around} {E : Value → Shared → Prop} {s : Shared} {h hT : Heap} {t : Nat} {g l : List Fact} {mg mb : Str → Option Value} {k : Nat} {es : List Env} {e L : Addr} {a0 tb : Value} {P : Obj → Prop}
theorem bi_exc (T : Tp w mg mb hT) : mg (Str.ofString "Exception") = none ∧ mb (Str.ofString "Exception") = some (.type "Exception") := bi_of T (by kernel_rfl) (by kernel_rfl) (by kernel_rfl)
theorem x_base {dx : Option Addr} {msg : Value} {Q : Value → Shared → Prop} (D : Led hT g ((L, P) :: (e, ExO (.ref 76) dx a0 tb) :: l) h) (T : Tp w mg mb hT)
    (k : ∀ h' a0', Led hT g ((L, P) :: (e, ExO (.ref 76) dx a0' tb) :: l) h' → Q .none (At s h' t)) : wpAny (model prog w) A (call (.builtin "Exception.__init__") [.ref e, msg]) Q E (At s h t) := by
  obtain ⟨nm, q, N, bs, sn, sub, ab, col, dd, k0, k1, k2, k3, k5, mN, hC, hN, hi⟩ := xc_obj (T.X.keeps D.keep)
  have F := PySem.F.excBase_Exception
  obtain ⟨o, ho, q1, q2, ws, q3, q4, q5⟩ := D.atL (.s .z)
  refine wpAny_call (codeAny_call_builtin F.init.plain F.initEntry (wpAny_check_init_sub F hC ho q1 ?_))
  unfold Builtin.«BaseException.__init__»
  repeat (first | assumption | wp_step)
  rw [q3]
  refine wpAny_pure ?_
  rw [q4]
  refine wpAny_pure ?_
  have D₁ : Led hT g ((L, P) :: (e, ExO (.ref 76) dx a0 tb) :: l) (h.push { cls := .type "tuple", data := .seq #[msg] }) := D.grow (fun b o hb => Heap.get?_push_of_some _ hb) (by rw [Heap.size_push]; omega)
  have ho₁ := Heap.get?_push_of_some (h := h) { cls := .type "tuple", data := .seq #[msg] } ho
  have hsz := (Array.getElem?_eq_some_iff.mp q4).1
  have hd' := Obj.data_mapFields q3 (·.setIfInBounds 0 (Value.ref h.objs.size))
  refine wpAny_bind (wpAny_setField ho₁ q3 hsz ?_)
  have D₂ : Led hT g ((L, P) :: (e, ExO (.ref 76) dx (.ref h.objs.size) tb) :: l) _ := D₁.sameL (.s .z) (.s .z) (Heap.SameBut.update ..) ⟨_, Heap.get?_update_self _ ho₁ (Obj.isFreed_of_fields hd'), (Obj.cls_mapFields _ _).trans q1, by rw [← q2]; unfold Obj.mapFields; split <;> rfl, _, hd', by simp [hsz], by rw [Array.getElem?_setIfInBounds_ne (by decide)]; exact q5⟩
  split
  · exact wpAny_letGo (wpAny_pure (k _ _ D₂))
  · exact wpAny_pure (wpAny_pure (k _ _ D₂))
theorem fn_xinit (w : World) : FnAt w 66 inNs [] [Str.ofString "Exception"] :=
  ⟨by kernel_rfl, by kernel_rfl, by kernel_rfl, by kernel_rfl, by kernel_rfl, ⟨by kernel_rfl, by kernel_rfl⟩, by kernel_rfl⟩
theorem xi_peek (w : World) (S : Setting) {a b c d : Value} : peek (hd.heap_39 w.params) S (bindArgs (fd 66) ⟨[a, b, c, d], []⟩) = some (inNs.zip [a, b, c, d]) := by kernel_rfl
theorem xi_binds {w : World} {s : Shared} {a b c d : Value} (X : (hd.heap_39 w.params).In s.heap) : BindsTo s (fd 66) ⟨[a, b, c, d], []⟩ (inNs.zip [a, b, c, d]) := kp_binds X fun S => xi_peek w S
set_option maxHeartbeats 4000000 in
theorem xinit_spec {msg file line : Value} (T : Tp w mg mb hT) (D : Led hT g ((e, ExO (.ref 76) none a0 tb) :: l) h) (r : Rm (k + 5) A es) :
    codeAny (model prog w) A (.call (.ref 66) ⟨[.ref e, msg, file, line], []⟩) (fun res s' => ∃ h' t' dx a0', res = .ok (.ret .none) ∧ s' = At s h' t' ∧
      Led hT g ((e, ExO (.ref 76) (some dx) a0' tb) :: (dx, DFrm 3 exNs [some file, some line, some msg]) :: l) h') (At s h t) := by
  refine call_top (ns := inNs) (vs := [some (.ref e), some msg, some file, some line]) D T (fn_xinit w) r.room (as := [.ref e, msg, file, line]) (xi_binds (s := At s h t) (T.X.keeps D.keep)) rfl rfl rfl ?_
  clear D
  intro L h t D S
  have r := r.deeper (callEnv (fd 66) L 66)
  refine wpAny_mono (Q := Out (fun res s' => ∃ h' t' dx a0', res = .ok (.ret .none) ∧ s' = At s h' t' ∧ Led hT g ((e, ExO (.ref 76) (some dx) a0' tb) :: (dx, DFrm 3 exNs [some file, some line, some msg]) :: l) h')) (E := fun _ _ => False) ?_ (fun _ _ q => q) (fun _ _ q => q.elim)
  refine x_cons (st := _) (rest := _) ?_
  refine plainObj_wpAny_Assign_Attribute ?_
  repeat walk_at "m"
  refine x_first (vs' := [some file, none, none]) D T (bx_filename w) exNs_nd .z .z ?_
  clear D
  intro _ _ dx D
  repeat walk_at "m"
  refine plainObj_wpAny_Assign_Attribute ?_
  repeat walk_at "m"
  refine x_later (vs' := [some file, some line, none]) D T (bx_lineno w) exNs_nd (by omega) (.s .z) (.s .z) ?_
  clear D
  intro _ _ D
  repeat walk_at "m"
  refine plainObj_wpAny_Assign_Attribute ?_
  repeat walk_at "m"
  refine x_later (vs' := [some file, some line, some msg]) D T (bx_msg w) exNs_nd (by omega) (.s (.s .z)) (.s (.s .z)) ?_
  clear D
  intro _ _ D
  repeat walk_at "m"
  refine wpAny_Expr_any ?_
  repeat walk_at "m"
  refine bv D T S .z (bi_exc T) ?_
  refine method_type (s := At s _ _) (D.fr S) T.X (by kernel_rfl) (by kernel_rfl) (v := .builtin "Exception.__init__") (by kernel_rfl) (by kernel_rfl) ?_
  repeat walk_at "m"
  refine x_base D T ?_
  clear D
  intro _ a0' D
  repeat walk_at "m"
  exact ⟨_, _, dx, a0', rfl, rfl, D.tail⟩
end
theorem tc_w (C : Addr) (r : List Value) (kw : List (Str × Value)) : (Code.builtin "type.__call__" ⟨.ref C :: r, kw⟩).weight ≤ 1 := by
  have : decide ((Code.builtin "type.__call__" ⟨.ref C :: r, kw⟩).weight ≤ 1) = true := by kernel_rfl
  simpa using this
theorem tc_u (C : Addr) (r : List Value) (kw : List (Str × Value)) : (Code.builtin "type.__call__" ⟨.ref C :: r, kw⟩).cUnits ≤ 8 := by
  have : decide ((Code.builtin "type.__call__" ⟨.ref C :: r, kw⟩).cUnits ≤ 8) = true := by kernel_rfl
  simpa using this
theorem tc_e (C : Addr) (r : List Value) (kw : List (Str × Value)) : (Code.builtin "type.__call__" ⟨.ref C :: r, kw⟩).envs = [] := by kernel_rfl
theorem tc_g (C : Addr) (r : List Value) (kw : List (Str × Value)) : (Code.builtin "type.__call__" ⟨.ref C :: r, kw⟩).guards = [] := by kernel_rfl
theorem Rm.tc {n : Nat} {A : Around} {es : List Env} {C : Addr} {as : List Value} {kw : List (Str × Value)} (r : Rm (n + 1) A es) : Rm n (A.under (.builtin "type.__call__" ⟨.ref C :: as, kw⟩)) es := by
  refine ⟨?_, ?_, r.hnd, ?_, ?_⟩
  · show A.depth + (Code.builtin "type.__call__" ⟨.ref C :: as, kw⟩).weight + n ≤ 700
    have := tc_w C as kw; have := r.dep; omega
  · show A.units + (Code.builtin "type.__call__" ⟨.ref C :: as, kw⟩).cUnits + 8 * n ≤ 6000
    have := tc_u C as kw; have := r.uni; omega
  · show pushEnvs (Code.builtin "type.__call__" ⟨.ref C :: as, kw⟩).envs A.frames = some es
    rw [tc_e, r.frs]; rfl
  · show pushGuards (Code.builtin "type.__call__" ⟨.ref C :: as, kw⟩).guards A.guards = some []
    rw [tc_g, r.grd]; rfl
section
variable {prog : Program} {w : World} {A : Around} {E : Value → Shared → Prop} {s : Shared} {h hT : Heap} {t : Nat} {g l : List Fact} {mg mb : Str → Option Value} {k : Nat} {es : List Env} {e L : Addr} {a0 tb : Value} {P : Obj → Prop} {env : Env}
theorem x_new {msg file line : Value} {Q : Value → Shared → Prop} (D : Led hT g ((L, P) :: l) h) (T : Tp w mg mb hT) (ha : hT.objs.size ≤ L) (r : Rm (k + 6) A es)
    (kk : ∀ h' t' e dx a0, Led hT g ((L, P) :: (e, ExO (.ref 76) (some dx) a0 .none) :: (dx, DFrm 3 exNs [some file, some line, some msg]) :: l) h' → Q (.ref e) (At s h' t')) :
    wpAny (model prog w) A (call (.ref 76) [msg, file, line]) Q E (At s h t) := by
  obtain ⟨nm, q, N, bs, sn, sub, ab, col, dd, k0, k1, k2, k3, k5, mN, hC, hN, hi⟩ := xc_obj (T.X.keeps D.keep)
  have F := PySem.F.excBase_Exception
  refine wpAny_call_exc_init F hC hN hi (D.keep _ _ (T.X _ _ (fn_xinit w).obj)) rfl (fun h' e M => ?_) (by show 3 ≤ sizeLine; decide +kernel)
  obtain ⟨tu, he, _, _⟩ := M.there
  have D₁ := D.made (P' := ExO (.ref 76) none (.ref tu) .none) ha M.keeps M.new he ⟨rfl, rfl, _, rfl, rfl, rfl⟩
  refine wpAny_call (codeAny_mono (xinit_spec (s := At s h t) (t := t) T D₁ r.tc) ?_)
  rintro _ _ ⟨h₂, t₂, dx, a0', rfl, rfl, D₂⟩
  refine ⟨rfl, kk _ _ e dx a0' (Ldg.perm D₂ (List.Perm.append_left _ ?_))⟩
  exact ((List.Perm.cons _ (List.Perm.swap ..)).trans (List.Perm.swap ..))
theorem c_xc {pos : Pos} {ts : List (Bool × Sem Value)} {Q : Value → Shared → Prop} (T : Tp w mg mb hT) (hp : ts.any (·.1) = false)
    (k : wpAny (model prog w) A (spliced ts) (fun vs s' => (∀ b o, hT.get? b = some o → s'.heap.get? b = some o) ∧ wpAny (model prog w) A (call (.ref 76) vs) Q E s') E s) :
    wpAny (model prog w) A (callWith pos (.ref 76) [] ts (backToKw pos (keywordEach [] env))) Q E s := by
  show wpAny _ A (callWith pos (.ref 76) [] ts []) Q E s
  unfold callWith
  refine wpAny_bind (wpAny_holding (evalArgs_all hp (wpAny_mono k (fun vs s₁ h₁ => ?_) fun _ _ x => x)))
  obtain ⟨hk, hc⟩ := h₁
  refine wpAny_bind (wpAny_standAt ?_)
  have hst : (ts.any (·.1) || ([] : List (Option Str × Sem Value)).any (·.1.isNone)) = false := by rw [hp]; rfl
  obtain ⟨nm, q, N, bs, sn, sub, ab, col, dd, k0, k1, k2, k3, k5, mN, hC, hN, hi⟩ := xc_obj (T.X.keeps hk)
  obtain ⟨hp', g', d', t', os'⟩ := s₁
  refine wpAny_bind (wpAny_keeperOf_exc hC ?_)
  rw [hst]
  exact wpAny_bind (wpAny_mono hc (fun r s₂ hr => wpAny_bind (wpAny_holding (wpAny_point (wpAny_pure hr)))) fun _ _ x => x)
theorem x_raise {x : Expr} {pos : Pos} {Q : Flow → Shared → Prop} (hh : A.handled = none)
    (k : wpAny (model prog w) A (eval x env) (fun v s₁ => ∃ e o, v = .ref e ∧ (hd.heap_39 w.params).In s₁.heap ∧ s₁.heap.get? e = some o ∧ o.cls = .ref 76 ∧ (∃ ws, o.data = .fields ws ∧ ws[1]? = some .none) ∧ E (.ref e) s₁) E s) :
    wpAny (model prog w) A (exec (.Raise (some x) none pos) env) Q E s := by
  have z : ∀ y : Sem Value, wpAny (model prog w) A y (fun v s₁ => ∃ e o, v = .ref e ∧ (hd.heap_39 w.params).In s₁.heap ∧ s₁.heap.get? e = some o ∧ o.cls = .ref 76 ∧ (∃ ws, o.data = .fields ws ∧ ws[1]? = some .none) ∧ E (.ref e) s₁) E s → wpAny (model prog w) A (raiseStmt env (some y) none) Q E s := by
    intro y hy
    unfold raiseStmt
    refine wpAny_bind (wpAny_mono hy (fun v s₁ h₁ => ?_) fun _ _ x => x)
    obtain ⟨e, o, rfl, X, he, hcls, ⟨ws, hds, hw1⟩, hE⟩ := h₁
    obtain ⟨nm, q, N, bs, sn, sub, ab, col, dd, k0, k1, k2, k3, k5, mN, hC, hN, hi⟩ := xc_obj X
    obtain ⟨hp, g, d, tk, os⟩ := s₁
    repeat (first | (with_reducible refine wpAny_loadPart_at he ?_; first | rw [hcls] | rw [hds]) | with_reducible refine wpAny_loadPart_at hC ?_ | (with_reducible refine wpAny_isSubtype_exc hC ?_) | wp_step | rw [hds] | rw [hw1])
    exact wpAny_raiseNew_none hh hE
  rw [arm_exec_Raise]
  first
    | exact wpAny_bind (wpAny_standAt (z _ (wpAny_bind (wpAny_mono k (fun v s₁ h₁ => wpAny_bind (wpAny_standAt (wpAny_pure h₁))) fun _ _ x => x))))
    | (simp only [evalOpt, Option.map]; exact wpAny_bind (wpAny_standAt (z _ (wpAny_bind (wpAny_mono k (fun v s₁ h₁ => wpAny_bind (wpAny_standAt (wpAny_pure h₁))) fun _ _ x => x)))))
end
noncomputable abbrev giNs : List Str := [Str.ofString "name_index", Str.ofString "get_name", Str.ofString "extrainfo", Str.ofString "argval"]
theorem bind1 (a b v : Value) (x : Str) (hx : x = Str.ofString "line") : bindArgs (fd 44) ⟨[a, b], [(x, v)]⟩ = (alloc { cls := .type "dict", data := .dict #[] } >>= fun d =>
    (forIn [(x, v)] PUnit.unit fun y _ => (nsSet d y.1 y.2 >>= fun _ => pure (ForInStep.yield PUnit.unit))) >>= fun _ => pure [(Str.ofString "name_index", a), (Str.ofString "get_name", b), (Str.ofString "extrainfo", .ref d)]) := by
  subst hx
  kernel_rfl
theorem bind2 (a b u v : Value) : bindArgs (fd 44) ⟨[a, b], [(Str.ofString "left", u), (Str.ofString "line", v)]⟩ = (alloc { cls := .type "dict", data := .dict #[] } >>= fun d =>
    (forIn [(Str.ofString "left", u), (Str.ofString "line", v)] PUnit.unit fun y _ => (nsSet d y.1 y.2 >>= fun _ => pure (ForInStep.yield PUnit.unit))) >>= fun _ => pure [(Str.ofString "name_index", a), (Str.ofString "get_name", b), (Str.ofString "extrainfo", .ref d)]) := by
  kernel_rfl
section
variable {prog : Program} {w : World} {A : Around} {E : Value → Shared → Prop} {s : Shared} {h hT : Heap} {t : Nat} {g l : List Fact} {d : Addr}
theorem ns_put {es : List DictEntry} {n : Nat} {x : Str} {v : Value} {Q : Unit → Shared → Prop} (D : Led hT g ((d, fun o => o = dictOf es n) :: l) h)
    (hs : ∀ e ∈ es, e.key.isStr x = false) (hr : ∀ e ∈ es, e.refKey = false)
    (k : ∀ h', Led hT g ((d, fun o => o = dictOf (es ++ [⟨PyData.keyHash w.params x, .str x t, v⟩]) (n + 1)) :: l) h' → Q () (At s h' (t + 1))) :
    wpAny (model prog w) A (nsSet d x v) Q E (At s h t) := by
  obtain ⟨_, hd, rfl⟩ := D.atL .z
  have e1 : es.any (·.key.isStr x) = false := by
    cases q : es.any (·.key.isStr x) with
    | false => rfl
    | true => obtain ⟨e, he, z⟩ := List.any_eq_true.mp q; rw [hs e he] at z; cases z
  have e2 : es.any (·.refKey) = false := by
    cases q : es.any (·.refKey) with
    | false => rfl
    | true => obtain ⟨e, he, z⟩ := List.any_eq_true.mp q; rw [hr e he] at z; cases z
  have e : Obj.putName x (PyData.keyHash w.params x) (.str x t) v (dictOf es n) = dictOf (es ++ [⟨PyData.keyHash w.params x, .str x t, v⟩]) (n + 1) := by
    rw [putName_dict, putL_new hs]
    show dictOf _ (if es.any (·.key.isStr x) then n else n + 1) = _
    rw [e1, if_neg Bool.false_ne_true]
  have c : aRefKeyMayBeTheName x es.toArray = false := by
    rw [aRefKeyMayBeTheName_at, ← Array.any_toList, ← Array.any_toList]
    show (!es.any (·.key.isStr x) && es.any (·.refKey)) = false
    rw [e2, Bool.and_false]
  unfold nsSet
  refine wpAny_bind (wpAny_bind (wpAny_askSetting (wpAny_pure (wpAny_bind (wpAny_mkText (wpAny_bind (wpAny_loadPart hd ?_)))))))
  dsimp only
  rw [c]
  exact wpAny_updatePart hd (k _ (D.sameL .z .z (Heap.SameBut.update ..) ⟨_, Heap.get?_update_self _ hd ((congrArg Obj.isFreed e).trans rfl), e⟩))
variable {mg mb : Str → Option Value} {gs : List Str}
theorem call_bind {R : Result → Shared → Prop} {F : Addr} {ps os ps' os' : List Str} {args : Args} {G : List Value → List Fact → Prop} (D : Led hT g l h) (T : Tp w mg mb hT) (N : FnAt w F ps os gs) (hroom : A.depth < recursionLimit) (en : ps' ++ os' = ps ++ os)
    (hb : ∀ Q' : List (Str × Value) → Shared → Prop, (∀ h₁ t₁ as l₁, G as l₁ → as.length = ps'.length → Led hT g l₁ h₁ → Q' (ps'.zip as) (At s h₁ t₁)) → wpAny (model prog w) A.in1 (bindArgs (fd F) args) Q' (fun e s' => R (.error e) s') (At s h t))
    (k : ∀ as l₁ L h₁ t₁, G as l₁ → Led hT g ((L, Frm (ps ++ os) (as.map some ++ os'.map (fun _ => none))) :: l₁) h₁ → Scp hT (callEnv (fd F) L F) L (ps ++ os) gs →
      wpAny (model prog w) (A.deeper (callEnv (fd F) L F)) (execs (bd F) (callEnv (fd F) L F)) (fun f s' => R (.ok (.ret (match f with | .ret v => v | _ => .none))) s')
        (fun e s' => wpAny (model prog w) (A.deeper (callEnv (fd F) L F)) (leaving (callEnv (fd F) L F) e) (fun _ s'' => R (.error e) s'') (fun e' s'' => R (.error e') s'') s') (At s h₁ t₁)) :
    codeAny (model prog w) A (.call (.ref F) args) R (At s h t) := by
  have ho := N.obj
  have hsc := Scp.of (hT := hT) (env := callEnv (fd F) h.objs.size F) (L := h.objs.size) (ns := ps ++ os) (gs := gs) N.scope D.sz rfl rfl N.plain.1 N.plain.2
  refine codeAny_call_function hroom (D.keep _ _ (T.X _ _ ho)) rfl hsc.cor hsc.gen N.body ((codeRec_of T.X N.code).keeps D.keep) (hb _ fun h₁ t₁ as l₁ hG hl D₁ => ?_)
  have hsc₁ := Scp.of (hT := hT) (env := callEnv (fd F) h₁.objs.size F) (L := h₁.objs.size) (ns := ps ++ os) (gs := gs) N.scope D₁.sz rfl rfl N.plain.1 N.plain.2
  refine wpAny_newFunctionEnv (s := At s h₁ t₁) (fun x hx => ?_) (fun x hx => ?_) (fun h₀ hns₀ hsb₀ => ⟨(T.lim.keeps D₁.keep).fresh _ hsb₀, codeAny_func (k as l₁ h₁.objs.size h₀ _ hG ?_ hsc₁)⟩) hsc.kind
  · have := List.all_eq_true.mp N.cells x hx
    simpa using this
  · exact (hsc.all x.1 (by rw [← en]; exact List.mem_append_left _ (List.of_mem_zip hx).1)).1
  · have hk : ∀ b o, h₁.get? b = some o → h₀.get? b = some o := fun b o e => hsb₀.extBut b o (Nat.ne_of_lt (Heap.lt_size e)) (Heap.get?_push_of_some _ e)
    have D₂ := D₁.grow hk (Nat.le_of_lt hns₀.lt)
    have e := frm_of_ns hns₀ (lookup_zip (os := os') (by rw [en]; exact hsc.nd) hl)
    rw [en] at e
    refine Ldg.perm (l := (h₁.objs.size, Frm (ps ++ os) _) :: (g ++ l₁)) ⟨D₂.keep, fun c hc => ?_, ?_, fun c hc => ?_, D₂.sz⟩ (List.perm_middle).symm
    · rcases List.mem_cons.mp hc with rfl | hc
      · exact e
      · exact Ldg.has D₂ c hc
    · rw [List.map_cons, List.nodup_cons]
      refine ⟨fun hm => ?_, Ldg.nd D₁⟩
      obtain ⟨c, hc, e⟩ := List.mem_map.mp hm
      have := Ldg.lt D₁ hc
      rw [e] at this
      exact Nat.lt_irrefl _ this
    · rcases List.mem_cons.mp hc with rfl | hc
      · show hT.get? h₁.objs.size = none
        cases q : hT.get? h₁.objs.size with
        | none => rfl
        | some o' => exact absurd (Heap.lt_size (D₁.keep _ _ q)) (Nat.lt_irrefl _)
      · exact Ldg.new D₁ c hc
theorem gi_bind2 {a b u v : Value} {R : Value → Shared → Prop} (D : Led hT g l h) (Q' : List (Str × Value) → Shared → Prop)
    (k : ∀ h₁ t₁ d t₀, hT.objs.size ≤ d → Led hT g ((d, fun o => o = dictOf (kwEs w.params t₀ [(Str.ofString "left", u), (Str.ofString "line", v)]) 2) :: l) h₁ → Q' [(Str.ofString "name_index", a), (Str.ofString "get_name", b), (Str.ofString "extrainfo", .ref d)] (At s h₁ t₁)) :
    wpAny (model prog w) A (bindArgs (fd 44) ⟨[a, b], [(Str.ofString "left", u), (Str.ofString "line", v)]⟩) Q' R (At s h t) := by
  rw [bind2]
  refine wpAny_bind (wpAny_alloc ?_)
  have D₁ := D.push (P := fun o => o = dictOf [] 0) (o := dictOf [] 0) rfl rfl
  rw [List.forIn_cons]
  refine wpAny_bind (wpAny_bind (wpAny_bind (ns_put (t := t) D₁ (fun _ h => nomatch h) (fun _ h => nomatch h) fun h₂ D₂ => wpAny_pure ?_)))
  dsimp only
  rw [List.forIn_cons]
  refine wpAny_bind (wpAny_bind (ns_put (t := t + 1) D₂ ?_ ?_ fun h₃ D₃ => wpAny_pure ?_))
  · intro e he; obtain rfl := List.mem_singleton.mp he; show (Str.ofString "left" == Str.ofString "line") = false; decide +kernel
  · intro e he; obtain rfl := List.mem_singleton.mp he; rfl
  dsimp only
  rw [List.forIn_nil]
  exact wpAny_pure (wpAny_pure (k h₃ _ _ t D.sz D₃))
theorem gi_bind1 {a b v : Value} {R : Value → Shared → Prop} (D : Led hT g l h) (Q' : List (Str × Value) → Shared → Prop)
    (k : ∀ h₁ t₁ d t₀, hT.objs.size ≤ d → Led hT g ((d, fun o => o = dictOf (kwEs w.params t₀ [(Str.ofString "line", v)]) 1) :: l) h₁ → Q' [(Str.ofString "name_index", a), (Str.ofString "get_name", b), (Str.ofString "extrainfo", .ref d)] (At s h₁ t₁)) :
    wpAny (model prog w) A (bindArgs (fd 44) ⟨[a, b], [(Str.ofString "line", v)]⟩) Q' R (At s h t) := by
  rw [bind1 _ _ _ _ rfl]
  refine wpAny_bind (wpAny_alloc ?_)
  have D₁ := D.push (P := fun o => o = dictOf [] 0) (o := dictOf [] 0) rfl rfl
  rw [List.forIn_cons]
  refine wpAny_bind (wpAny_bind (wpAny_bind (ns_put (t := t) D₁ (fun _ h => nomatch h) (fun _ h => nomatch h) fun h₂ D₂ => wpAny_pure ?_)))
  dsimp only
  rw [List.forIn_nil]
  exact wpAny_pure (wpAny_pure (k h₂ _ _ t D.sz D₂))
end
section
variable {prog : Program} {w : World} {A : Around} {E : Value → Shared → Prop} {s : Shared} {h hT : Heap} {t : Nat} {g l : List Fact} {d : Addr}
theorem d_put {es : List DictEntry} {n : Nat} {x : Str} {tk : Tok} {hsh : Int} {v : Value} {Q : Unit → Shared → Prop} (D : Led hT g ((d, fun o => o = dictOf es n) :: l) h) (hz : es.length ≤ 1000)
    (hall : (es.toArray.all fun e => isExactStrKey e.key) = true) (hnew : (es.toArray.findIdx? fun e => e.key.isStr x) = none)
    (k : ∀ h', Led hT g ((d, fun o => o = dictOf (es ++ [⟨hsh, .str x tk, v⟩]) (n + 1)) :: l) h' → Q () (At s h' t)) :
    wpAny (model prog w) A (dictPut d hsh (.str x tk) v) Q E (At s h t) := by
  obtain ⟨_, hd, rfl⟩ := D.atL .z
  unfold dictPut
  refine wpAny_bind (KTD.kt_dictFind_strs (s := At s h t) hd rfl hall ?_)
  rw [hnew]
  refine wpAny_updateDictKeys (s := At s h t) hd rfl (k _ (D.sameL .z .z (Heap.SameBut.update ..) ⟨_, Heap.get?_update_self _ hd rfl, ?_⟩)) (by simp; rw [sizeLine_eq]; omega) (by simp)
  unfold Obj.mapDictKeys
  simp
end
section
variable {prog : Program} {w : World} {A : Around} {E : Value → Shared → Prop} {s : Shared} {h hT : Heap} {t : Nat} {g l : List Fact} {d : Addr}
theorem mm_one {m : Addr} {x : Str} {tk : Tok} {hs : Int} {v : Value} {n i : Nat} {Q : Unit → Shared → Prop} (D : Led hT g ((d, fun o => o = dictOf [] 0) :: l) h) (hm : AtI l i (m, fun o => o = dictOf [⟨hs, .str x tk, v⟩] n)) (hne : m ≠ 1)
    (k : ∀ h', Led hT g ((d, fun o => o = dictOf [⟨hs, .str x tk, v⟩] 1) :: l) h' → Q () (At s h' t)) :
    wpAny (model prog w) A (mergeMapping d (.ref m) true) Q E (At s h t) := by
  obtain ⟨_, hd, rfl⟩ := D.atL .z
  obtain ⟨_, ho, rfl⟩ := D.atL (.s hm)
  have hT' : (At s h t).TypeIs (.ref m) "dict" := ⟨_, ho, rfl⟩
  have f1 : isSubtype (.type "dict") (.type "dict") = pure true := by rw [isSubtype_type]; kernel_rfl
  have f2 := PySem.F.slot_dict_iter.lookup
  unfold mergeMapping
  repeat (first | assumption | wp_step)
  rw [if_neg (show ¬ (m == sysModules) = true from fun q => hne (beq_iff_eq.mp q))]
  refine wpAny_bind (wpAny_dictEntries hd rfl ?_)
  rw [if_pos (by rfl)]
  refine wpAny_bind (wpAny_dictEntries ho rfl ?_)
  refine wpAny_bind (wpAny_of_eq (a := PUnit.unit) (by simp) ?_)
  refine wpAny_bind (wpAny_dictEntries ho rfl (wpAny_bind (wpAny_dictEpoch ho rfl ?_)))
  refine wpAny_bind ?_
  show wpAny _ _ (forIn [0] _ _) _ _ _
  rw [List.forIn_cons]
  refine wpAny_bind (wpAny_bind (wpAny_dictEntries ho rfl ?_))
  show wpAny _ _ (holding _ _ >>= _) _ _ _
  refine wpAny_bind (wpAny_holding ?_)
  rw [if_pos rfl]
  refine wpAny_bind (KTD.kt_dictFind_strs hd rfl (by simp) ?_)
  rw [if_neg (by simp)]
  refine d_put D (by simp) (by simp) (by simp) fun h' D' => ?_
  obtain ⟨_, ho', rfl⟩ := D'.atL (.s hm)
  refine wpAny_bind (wpAny_dictEpoch ho' rfl ?_)
  rw [if_neg (by simp)]
  refine wpAny_pure ?_
  dsimp only
  rw [List.forIn_nil]
  exact wpAny_pure (wpAny_pure (k _ D'))
theorem mm_two {m : Addr} {x y : Str} {tk tk' : Tok} {hs hs' : Int} {v v' : Value} {n i : Nat} {Q : Unit → Shared → Prop} (D : Led hT g ((d, fun o => o = dictOf [] 0) :: l) h) (hm : AtI l i (m, fun o => o = dictOf [⟨hs, .str x tk, v⟩, ⟨hs', .str y tk', v'⟩] n)) (hne : m ≠ 1) (hxy : (x == y) = false)
    (k : ∀ h', Led hT g ((d, fun o => o = dictOf [⟨hs, .str x tk, v⟩, ⟨hs', .str y tk', v'⟩] 2) :: l) h' → Q () (At s h' t)) :
    wpAny (model prog w) A (mergeMapping d (.ref m) true) Q E (At s h t) := by
  obtain ⟨_, hd, rfl⟩ := D.atL .z
  obtain ⟨_, ho, rfl⟩ := D.atL (.s hm)
  have hT' : (At s h t).TypeIs (.ref m) "dict" := ⟨_, ho, rfl⟩
  have f1 : isSubtype (.type "dict") (.type "dict") = pure true := by rw [isSubtype_type]; kernel_rfl
  have f2 := PySem.F.slot_dict_iter.lookup
  unfold mergeMapping
  repeat (first | assumption | wp_step)
  rw [if_neg (show ¬ (m == sysModules) = true from fun q => hne (beq_iff_eq.mp q))]
  refine wpAny_bind (wpAny_dictEntries hd rfl ?_)
  rw [if_pos (by rfl)]
  refine wpAny_bind (wpAny_dictEntries ho rfl ?_)
  refine wpAny_bind (wpAny_of_eq (a := PUnit.unit) (by simp) ?_)
  refine wpAny_bind (wpAny_dictEntries ho rfl (wpAny_bind (wpAny_dictEpoch ho rfl ?_)))
  refine wpAny_bind ?_
  show wpAny _ _ (forIn [0, 1] _ _) _ _ _
  rw [List.forIn_cons]
  refine wpAny_bind (wpAny_bind (wpAny_dictEntries ho rfl ?_))
  show wpAny _ _ (holding _ _ >>= _) _ _ _
  refine wpAny_bind (wpAny_holding ?_)
  rw [if_pos rfl]
  refine wpAny_bind (KTD.kt_dictFind_strs hd rfl (by simp) ?_)
  rw [if_neg (by simp)]
  refine d_put D (by simp) (by simp) (by simp) fun h' D' => ?_
  obtain ⟨_, hd', rfl⟩ := D'.atL .z
  obtain ⟨_, ho', rfl⟩ := D'.atL (.s hm)
  refine wpAny_bind (wpAny_dictEpoch ho' rfl ?_)
  rw [if_neg (by simp)]
  refine wpAny_pure ?_
  dsimp only
  rw [List.forIn_cons]
  refine wpAny_bind (wpAny_bind (wpAny_dictEntries ho' rfl ?_))
  show wpAny _ _ (holding _ _ >>= _) _ _ _
  refine wpAny_bind (wpAny_holding ?_)
  rw [if_pos rfl]
  have fi : (([⟨hs, .str x tk, v⟩] : List DictEntry).toArray.findIdx? fun e => e.key.isStr y) = none := by
    rw [Array.findIdx?_eq_none_iff]
    intro e he
    simp at he
    subst he
    exact hxy
  have fa : (([⟨hs, .str x tk, v⟩] : List DictEntry).toArray.all fun e => isExactStrKey e.key) = true := by simp [isExactStrKey]
  refine wpAny_bind (KTD.kt_dictFind_strs (x := y) hd' rfl fa ?_)
  rw [if_neg (by erw [fi]; simp)]
  refine d_put D' (by simp) fa fi fun h' D' => ?_
  obtain ⟨_, ho', rfl⟩ := D'.atL (.s hm)
  refine wpAny_bind (wpAny_dictEpoch ho' rfl ?_)
  rw [if_neg (by simp)]
  refine wpAny_pure ?_
  dsimp only
  rw [List.forIn_nil]
  exact wpAny_pure (wpAny_pure (k _ D'))
end
section
variable {prog : Program} {w : World} {A : Around} {E : Value → Shared → Prop} {s : Shared} {h hT : Heap} {t : Nat} {g l : List Fact} {env : Env} {L m F : Addr} {ns gs : List Str} {vs : List (Option Value)}
theorem kw_in1 {d : Addr} {x : Str} {tk : Tok} {hs : Int} {v f : Value} {n : Nat} {Q : List (Str × Value) → Shared → Prop} (hd : h.get? d = some (dictOf [⟨hs, .str x tk, v⟩] n)) (k : Q [(x, v)] (At s h t)) : wpAny (model prog w) A (keywordsIn f d) Q E (At s h t) := by
  unfold keywordsIn
  refine wpAny_bind (wpAny_dictEntries hd rfl ?_)
  refine wpAny_bind (wpAny_of_eq (a := [(x, v)]) (by kernel_rfl) ?_)
  exact wpAny_pure k
theorem kw_in2 {d : Addr} {x y : Str} {tk tk' : Tok} {hs hs' : Int} {v v' f : Value} {n : Nat} {Q : List (Str × Value) → Shared → Prop} (hd : h.get? d = some (dictOf [⟨hs, .str x tk, v⟩, ⟨hs', .str y tk', v'⟩] n)) (k : Q [(x, v), (y, v')] (At s h t)) : wpAny (model prog w) A (keywordsIn f d) Q E (At s h t) := by
  unfold keywordsIn
  refine wpAny_bind (wpAny_dictEntries hd rfl ?_)
  refine wpAny_bind (wpAny_of_eq (a := [(x, v), (y, v')]) (by kernel_rfl) ?_)
  exact wpAny_pure k
theorem c_star {x : Str} {px pos pk : Pos} {i : Nat} {y0 : Sem Value} {es : List DictEntry} {kw : List (Str × Value)} {ne : Nat} {Q : Value → Shared → Prop} (S : Scp hT env L ns gs)
    (hn : AtI ns i x) (hv : AtI vs i (some (.ref m)))
    (hmm : ∀ {A : Around} {E : Value → Shared → Prop} {Q : Unit → Shared → Prop} (d : Addr) (h : Heap) (t : Nat), Led hT g ((d, fun o => o = dictOf [] 0) :: (L, Frm ns vs) :: l) h → (∀ h', Led hT g ((d, fun o => o = dictOf es ne) :: (L, Frm ns vs) :: l) h' → Q () (At s h' t)) → wpAny (model prog w) A (mergeMapping d (.ref m) true) Q E (At s h t))
    (hki : ∀ {A : Around} {E : Value → Shared → Prop} {Q : List (Str × Value) → Shared → Prop} (d : Addr) (h : Heap) (t : Nat), h.get? d = some (dictOf es ne) → Q kw (At s h t) → wpAny (model prog w) A (keywordsIn (.ref F) d) Q E (At s h t))
    (k : wpAny (model prog w) A (spliced [(false, y0)]) (fun as s₁ => ∃ h t, s₁ = At s h t ∧ Led hT g ((L, Frm ns vs) :: l) h ∧ (∀ h t, Led hT g ((L, Frm ns vs) :: l) h → (∃ o f, h.get? F = some o ∧ o.data = .func f) ∧ wpAny (model prog w) A (call (.ref F) as kw) Q E (At s h t))) E (At s h t)) :
    wpAny (model prog w) A (callWith pos (.ref F) [] [(false, y0)] (backToKw pos (keywordEach [⟨none, .Name x px, pk⟩] env))) Q E (At s h t) := by
  show wpAny _ A (callWith pos (.ref F) [] [(false, y0)] [(none, do let v ← eval (.Name x px) env; standAt pos; pure v)]) Q E _
  unfold callWith
  refine wpAny_bind (wpAny_holding ?_)
  unfold evalArgs
  show wpAny _ _ (spliced [(false, y0)] >>= _) _ _ _
  refine wpAny_bind (wpAny_mono k (fun as s₁ h₁ => ?_) fun _ _ x => x)
  obtain ⟨h, t, rfl, D, k⟩ := h₁
  refine wpAny_holding ?_
  dsimp only
  rw [if_neg (by simp)]
  refine wpAny_bind ?_
  unfold mergedKeywords
  refine wpAny_bind (wpAny_alloc ?_)
  have D₁ := (D.push (P := fun o => o = dictOf [] 0) (o := dictOf [] 0) rfl rfl).swap
  refine wpAny_bind (wpAny_holding ?_)
  dsimp only
  rw [List.forIn_cons]
  refine wpAny_bind (wpAny_bind ?_)
  dsimp only
  refine wpAny_bind (show wpAny _ _ (pure ()) _ _ _ from wpAny_pure ?_)
  refine wpAny_bind (wpAny_bind ?_)
  refine ld D₁ S hn hv (wpAny_bind (wpAny_standAt (wpAny_pure ?_)))
  refine wpAny_bind (wpAny_onRaise (wpAny_holding (wpAny_tryCatch (wpAny_onRaise ?_))))
  refine hmm _ _ _ D₁.swap fun h₂ D₂ => ?_
  refine wpAny_pure ?_
  dsimp only
  rw [List.forIn_nil]
  refine wpAny_pure ?_
  refine (show wpAny _ _ (pure ()) _ _ _ from wpAny_pure ?_)
  refine wpAny_pure (wpAny_bind (wpAny_pure ?_))
  obtain ⟨_, hd, rfl⟩ := D₂.atL .z
  refine wpAny_bind (wpAny_holding (hki _ _ _ hd (wpAny_pure ?_)))
  obtain ⟨⟨o, f, ho, hdt⟩, hc⟩ := k h₂ t D₂.tail
  refine wpAny_bind (wpAny_standAt ?_)
  have hk : keeperOf (.ref F) = (do let o ← load F; match o.data with
      | .func _ => return Keeper.frame
      | .cls _ => return if (← specialOf (.ref F) "__call__") == some (.builtin "type.__call__") then Keeper.machine else Keeper.caller
      | .fields vs =>
        if o.cls != .type "method" then
          return if o.cls == .type "builtin_function_or_method" || o.cls == .type "method-wrapper" then Keeper.machine else Keeper.caller
        let .ref g := vs.getD 0 .none | return Keeper.machine
        return match (← load g).data with | .func _ => Keeper.boundFrame | _ => Keeper.caller
      | _ => return Keeper.caller) := rfl
  refine wpAny_bind ?_
  rw [hk]
  refine wpAny_bind (wpAny_load ho ?_)
  rw [hdt]
  refine wpAny_pure ?_
  exact wpAny_bind (wpAny_keep (wpAny_mono hc (fun r s₂ hr => wpAny_bind (wpAny_holding (wpAny_point (wpAny_pure hr)))) fun _ _ x => x))
theorem c_star1 {x y : Str} {px pos pk : Pos} {i j n : Nat} {y0 : Sem Value} {tk : Tok} {hs : Int} {v : Value} {Q : Value → Shared → Prop} (S : Scp hT env L ns gs) (hn : AtI ns i x) (hv : AtI vs i (some (.ref m)))
    (hm : AtI l j (m, fun o => o = dictOf [⟨hs, .str y tk, v⟩] n)) (hne : m ≠ 1)
    (k : wpAny (model prog w) A (spliced [(false, y0)]) (fun as s₁ => ∃ h t, s₁ = At s h t ∧ Led hT g ((L, Frm ns vs) :: l) h ∧ (∀ h t, Led hT g ((L, Frm ns vs) :: l) h → (∃ o f, h.get? F = some o ∧ o.data = .func f) ∧ wpAny (model prog w) A (call (.ref F) as [(y, v)]) Q E (At s h t))) E (At s h t)) :
    wpAny (model prog w) A (callWith pos (.ref F) [] [(false, y0)] (backToKw pos (keywordEach [⟨none, .Name x px, pk⟩] env))) Q E (At s h t) :=
  c_star S hn hv (fun d h t D k => mm_one D (.s hm) hne k) (fun d h t hd k => kw_in1 hd k) k
theorem c_star2 {x y y' : Str} {px pos pk : Pos} {i j n : Nat} {y0 : Sem Value} {tk tk' : Tok} {hs hs' : Int} {v v' : Value} {Q : Value → Shared → Prop} (S : Scp hT env L ns gs) (hn : AtI ns i x) (hv : AtI vs i (some (.ref m)))
    (hm : AtI l j (m, fun o => o = dictOf [⟨hs, .str y tk, v⟩, ⟨hs', .str y' tk', v'⟩] n)) (hne : m ≠ 1) (hxy : (y == y') = false)
    (k : wpAny (model prog w) A (spliced [(false, y0)]) (fun as s₁ => ∃ h t, s₁ = At s h t ∧ Led hT g ((L, Frm ns vs) :: l) h ∧ (∀ h t, Led hT g ((L, Frm ns vs) :: l) h → (∃ o f, h.get? F = some o ∧ o.data = .func f) ∧ wpAny (model prog w) A (call (.ref F) as [(y, v), (y', v')]) Q E (At s h t))) E (At s h t)) :
    wpAny (model prog w) A (callWith pos (.ref F) [] [(false, y0)] (backToKw pos (keywordEach [⟨none, .Name x px, pk⟩] env))) Q E (At s h t) :=
  c_star S hn hv (fun d h t D k => mm_two D (.s hm) hne hxy k) (fun d h t hd k => kw_in2 hd k) k
end
noncomputable abbrev Wrd := Str × Option (Int × Nat)
noncomputable def WOk (x : Str) : Prop := x.length = 2 ∨ ∃ d, d < 8 ∧ x = ⟨#[48 + d]⟩
structure Bk where
  known : List Wrd
  waits : List Str
  rest : List (Str × Int × Nat)
  line : Int
  place : Nat
  asked : List Int
noncomputable def Bk.row (b : Bk) : List Wrd := b.known ++ (b.waits.map (fun x => (x, none)) ++ b.rest.map fun r => (r.1, some r.2))
noncomputable def reach (e : Int × Nat) : Nat → Bk → Bk
  | 0, b => b
  | n + 1, b => match b.waits, b.rest with
    | x :: xs, _ => reach e n { b with known := b.known ++ [(x, none)], waits := xs }
    | [], r :: rs => reach e n { b with known := b.known ++ [(r.1, some r.2)], rest := rs, line := r.2.1, place := r.2.2 }
    | [], [] => { b with line := e.1, place := e.2 }
inductive Rs
  | ok (x : Wrd)
  | err (msg : Str) (line : Int)
noncomputable def itx (n : Nat) : Str := Str.ofString (toString (n : Int))
noncomputable def dig (x : Str) : Nat := x.cps.getD 0 0 - 48
noncomputable def noName (n : Nat) : Str := Str.ofString "no name " ++ itx n
noncomputable def aRing (n : Nat) : Str := Str.ofString "a ring at " ++ itx n
noncomputable def ask (e : Int × Nat) : Nat → Bk → Nat → Bk × Rs
  | left, b, i =>
    let b₁ := reach e (i + 1 - b.known.length) { b with asked := b.asked ++ [(i : Int)] }
    match b₁.known[i]? with
    | none => (b₁, .err (noName i) b₁.line)
    | some x => if x.1.length = 1 then (match left with | 0 => (b₁, .err (aRing i) b₁.line) | l + 1 => ask e l b₁ (dig x.1)) else (b₁, .ok x)
noncomputable def Txts (c : Lc) (e : Int × Nat) : Nat → Int → List (Str × Int × Nat) → Prop
  | p, l, [] => lexF (c.text.cps.toList.drop p) = some ([], c.text.length - p) ∧ e.2 = c.text.length ∧ e.1 = l + ((c.text.cps.toList.drop p).count 10 : Nat)
  | p, l, r :: rs => (∃ n, lexF (c.text.cps.toList.drop p) = some (r.1.cps.toList, n) ∧ r.2.2 = p + n ∧ r.2.1 = l + (((c.text.cps.toList.drop p).take n).count 10 : Nat)) ∧ r.2.2 ≤ c.text.length ∧ Txts c e r.2.2 r.2.1 rs
structure St where
  σ : Ls
  b : Bk
  ks : List Addr
structure Sy (c : Lc) (e : Int × Nat) (st : St) : Prop where
  place : st.σ.place = st.b.place
  line : st.σ.line = st.b.line
  push : st.σ.push.map (·.1) = st.b.waits
  text : Txts c e st.b.place st.b.line st.b.rest
  ok : ∀ x ∈ st.b.row, WOk x.1
  le : st.b.place ≤ c.text.length
  ks : st.ks.length = st.b.known.length
noncomputable def LnV : Option Int → Value → Prop
  | none, v => v = .none
  | some i, v => ∃ tk, v = .int i tk
noncomputable def TupO (vs : List Value) : Obj → Prop := fun o => o = { cls := .type "tuple", data := .seq vs.toArray }
noncomputable def TupWL (x : Str) (ln : Option Int) : Obj → Prop := fun o => ∃ tk v, LnV ln v ∧ TupO [.str x tk, v] o
noncomputable def LstI (xs : List Int) : Obj → Prop := fun o => ∃ ts : List Tok, ts.length = xs.length ∧ LstO (List.zipWith Value.int xs ts) o
structure Lk where
  (lookF lookC dfl cLex cKnown cAsked cLook known asked : Addr)
  (pm doc ctup : Value)
  dt : Tok
noncomputable def lkDef : Arguments × List Stmt × Scope := match bd 147 with
  | .FunctionDef _ a b _ _ _ sc _ _ _ :: _ => (a, b, sc)
  | _ => (default, [], default)
noncomputable def fnLook (k : Lk) : FuncData :=
  kdv_fn (Str.ofString "lookup") (Str.ofString "_law_lookup.<locals>.lookup") lkDef.1 (.stmts lkDef.2.1) lkDef.2.2 [(Str.ofString "lookup", k.cLook), (Str.ofString "lexer", k.cLex), (Str.ofString "known", k.cKnown), (Str.ofString "asked", k.cAsked)] (.ref k.dfl) k.doc k.pm (.ref k.lookC) k.ctup
noncomputable def tupF (ks : List Addr) (xs : List Wrd) : List Fact := List.zipWith (fun a (x : Wrd) => (a, TupWL x.1 (x.2.map (·.1)))) ks xs
noncomputable def Lkg (c : Lc) (k : Lk) (kn : List Addr) (as : List Int) (ks : List Addr) (xs : List Wrd) : List Fact :=
  (k.lookF, FnO (fnLook k)) :: (k.lookC, CodeQ (Str.ofString "_law_lookup.<locals>.lookup")) :: (k.dfl, TupO [.int 8 k.dt, .bool false]) :: (k.cLex, CellIs (.ref c.lex)) :: (k.cKnown, CellIs (.ref k.known)) ::
  (k.cAsked, CellIs (.ref k.asked)) :: (k.cLook, CellIs (.ref k.lookF)) :: (k.known, LstO (kn.map .ref)) :: (k.asked, LstI as) :: tupF ks xs
noncomputable abbrev Wg (prog : Program) (w : World) (c : Lc) (k : Lk) (st : St) (g : List Fact) : List Fact := Lx prog w c st.σ ++ (Lkg c k st.ks st.b.asked st.ks st.b.known ++ g)
noncomputable abbrev lkNs : List Str := [Str.ofString "index", Str.ofString "left", Str.ofString "line", Str.ofString "pushed", Str.ofString "word", Str.ofString "at"]
theorem look_scope : scopeOk lkDef.2.2 ([Str.ofString "index", Str.ofString "left", Str.ofString "line"] ++ [Str.ofString "pushed", Str.ofString "word", Str.ofString "at"]) [Str.ofString "len", Str.ofString "NetrcParseError", Str.ofString "str", Str.ofString "int", Str.ofString "_get_name_info"] = true := by kernel_rfl
theorem look_cells : lkDef.2.2.names.all (fun x => x.2 != .cell) = true := by kernel_rfl
theorem look_free (F L : Addr) (k : Lk) : (callEnv (fnLook k) L F).kindOf (Str.ofString "asked") = some .free ∧ (callEnv (fnLook k) L F).kindOf (Str.ofString "known") = some .free ∧ (callEnv (fnLook k) L F).kindOf (Str.ofString "lexer") = some .free ∧ (callEnv (fnLook k) L F).kindOf (Str.ofString "lookup") = some .free := ⟨by kernel_rfl, by kernel_rfl, by kernel_rfl, by kernel_rfl⟩
theorem look_clo (F L : Addr) (k : Lk) : (callEnv (fnLook k) L F).cells.lookup (Str.ofString "asked") = some k.cAsked ∧ (callEnv (fnLook k) L F).cells.lookup (Str.ofString "known") = some k.cKnown ∧ (callEnv (fnLook k) L F).cells.lookup (Str.ofString "lexer") = some k.cLex ∧ (callEnv (fnLook k) L F).cells.lookup (Str.ofString "lookup") = some k.cLook := ⟨by kernel_rfl, by kernel_rfl, by kernel_rfl, by kernel_rfl⟩
noncomputable def peekO {α : Type} (o : Obj) : Sem α → Option (List Addr × α)
  | .pure a => some ([], a)
  | .rule _ k => peekO o (k ())
  | .point _ k => peekO o (k ())
  | .load a _ k => (peekO o (k o)).map fun p => (a :: p.1, p.2)
  | _ => none
theorem wp_of_peekO {α : Type} {o : Obj} {M : Model} {Γ : Ctx} {Q : α → Pos → Shared → Prop} {E : Value → Pos → Shared → Prop} {p : Pos} {s : Shared} {a : α} (q : Q a p s) :
    ∀ (t : Sem α) (as : List Addr), peekO o t = some (as, a) → (∀ b ∈ as, s.heap.get? b = some o) → Sem.wp M Γ t Q E p s := by
  intro t
  induction t with
  | pure b => intro as e h; cases e; exact q
  | rule _ k ih => intro as e h; exact ih () as e h
  | point _ k ih => intro as e h; exact ih () as e h
  | load a _ k ih =>
    intro as e h
    have e : (peekO o (k o)).map (fun p => (a :: p.1, p.2)) = some (as, _) := e
    cases hq : peekO o (k o) with
    | none => rw [hq] at e; cases e
    | some x =>
      rw [hq] at e
      cases e
      exact ⟨o, h _ (.head _), ih o x.1 hq fun b hb => h b (.tail _ hb)⟩
  | _ => intro as e; cases e
theorem binds_peekO {s : Shared} {fd : FuncData} {args : Args} {binds : List (Str × Value)} {a : Addr} {o : Obj} (ho : s.heap.get? a = some o) (e : peekO o (bindArgs fd args) = some ([a], binds)) : BindsTo s fd args binds :=
  fun M A E Q q Γ p hΓ => wp_of_peekO q _ _ e fun b hb => by rw [List.mem_singleton.mp hb]; exact ho
theorem lk_peek1 (k : Lk) (v u : Value) : peekO { cls := .type "tuple", data := .seq [Value.int 8 k.dt, .bool false].toArray } (bindArgs (fnLook k) ⟨[v], [(Str.ofString "line", u)]⟩) = some ([k.dfl], [Str.ofString "index", Str.ofString "left", Str.ofString "line"].zip [v, .int 8 k.dt, u]) := by kernel_rfl
theorem lk_peek2 (k : Lk) (v n u : Value) : peekO { cls := .type "tuple", data := .seq [Value.int 8 k.dt, .bool false].toArray } (bindArgs (fnLook k) ⟨[v], [(Str.ofString "left", n), (Str.ofString "line", u)]⟩) = some ([k.dfl], [Str.ofString "index", Str.ofString "left", Str.ofString "line"].zip [v, n, u]) := by kernel_rfl
theorem AtI.of {α : Type} : ∀ {l : List α} {i : Nat} {x : α}, l[i]? = some x → AtI l i x
  | [], _, _, h => by cases h
  | y :: l, 0, x, h => by cases h; exact .z
  | y :: l, i + 1, x, h => .s (AtI.of (by simpa using h))
section
variable {prog : Program} {w : World} {M : Model} {A : Around} {E : Value → Shared → Prop} {s : Shared} {h hT : Heap} {t : Nat} {g g' l : List Fact} {env : Env}
theorem l_is {a : Addr} {xs : List Value} {i : Nat} (D : Led hT g l h) (hi : AtI g i (a, LstO xs)) : h.IsList a xs.toArray := by
  obtain ⟨n, hl⟩ := LstO.isList D hi
  exact ⟨_, hl, rfl, n, rfl⟩
theorem l_len {a : Addr} {xs : List Value} {i : Nat} {Q : Value → Shared → Prop} (D : Led hT g l h) (hi : AtI g i (a, LstO xs)) (hz : xs.length ≤ 100000) (k : ∀ tk t', Q (.int xs.length tk) (At s h t')) : wpAny (model prog w) A (call (.builtin "len") [.ref a]) Q E (At s h t) :=
  PyProof.Rows.len_list (s := At s h t) (l_is D hi) (by simp; omega) (by simpa using k _ _)
theorem l_item {a : Addr} {xs : List Value} {i : Nat} {j : Nat} {x : Value} {u : Tok} {value slice : Expr} {Q : Value → Shared → Prop} (D : Led hT g l h) (hi : AtI g i (a, LstO xs)) (hz : xs.length ≤ 100000) (hx : xs[j]? = some x)
    (hs : subscripted slice false (.ref a) (.int j u) = operate [.ref a, .int j u] (getItem (.ref a) (.int j u))) (k : Q x (At s h t)) :
    wpAny (model prog w) A (subscriptTail value slice (.ref a) (.int j u)) Q E (At s h t) := by
  obtain ⟨n, hl⟩ := LstO.isList D hi
  refine tail_any (T := "list") (id := "list.__getitem__") ⟨_, hl, rfl⟩ PySem.F.slot_list_getitem.lookup (wpAny_getItem_list (s := At s h t) (l_is D hi) (by omega) ?_ (by simpa using hx) k) hs
  have := (List.getElem?_eq_some_iff.mp hx).1
  omega
theorem t_item {a : Addr} {xs : List Value} {j : Nat} {x : Value} {u : Tok} {value slice : Expr} {Q : Value → Shared → Prop} (ho : ∃ o, h.get? a = some o ∧ TupO xs o) (hz : xs.length ≤ 100000) (hx : xs[j]? = some x)
    (hs : subscripted slice false (.ref a) (.int j u) = operate [.ref a, .int j u] (getItem (.ref a) (.int j u))) (k : Q x (At s h t)) :
    wpAny (model prog w) A (subscriptTail value slice (.ref a) (.int j u)) Q E (At s h t) := by
  obtain ⟨_, hl, rfl⟩ := ho
  have hj := (List.getElem?_eq_some_iff.mp hx).1
  refine tail_any (T := "tuple") (id := "tuple.__getitem__") ⟨_, hl, rfl⟩ PySem.F.slot_tuple_getitem.lookup (PyProof.Rows.getItem_tuple (s := At s h t) (j := j) ⟨_, hl, rfl, _, rfl⟩ (by omega) (by omega) ?_ (by simpa using hx) k) hs
  unfold seqIndex?
  have e1 : ¬ (j : Int) < 0 := by omega
  simp only [if_neg e1, List.size_toArray]
  rw [if_pos (by simp; omega)]
  simp
theorem li_append {a : Addr} {x : Int} {u : Tok} {xs : List Int} {i : Nat} {Q : Value → Shared → Prop} (D : Led hT g l h) (hi : AtI g i (a, LstI xs)) (hg : SetI g i (a, LstI (xs ++ [x])) g') (hz : xs.length ≤ 1000)
    (k : ∀ h' t', Led hT g' l h' → Q .none (At s h' t')) : wpAny (model prog w) A (call (.builtin "list.append") [.ref a, .int x u]) Q E (At s h t) := by
  obtain ⟨o, ho, ts, hts, n, rfl⟩ := D.atG hi
  have hT : (At s h t).TypeIs (.ref a) "list" := ⟨_, ho, rfl⟩
  refine wpAny_call_entry PySem.F.slot_list_append hT PySem.F.entry_list_append ?_ (PySem.F.args_list_append_2 _ _)
  show wpAny _ _ (updateSeq a (fun y => y.push (.int x u)) >>= fun _ => ret .none) _ _ (At s h t)
  refine wpAny_bind (wpAny_updateSeq ho rfl ?_ (by simp; rw [sizeLine_eq]; omega) (by simp; rw [sizeLine_eq]; omega))
  refine wpAny_pure ⟨_, rfl, k _ _ (D.sameG hi hg (Heap.SameBut.update ..) ⟨_, Heap.get?_update_self _ ho rfl, ts ++ [u], by simp [hts], LstO.map ?_⟩)⟩
  rw [List.zipWith_append hts.symm]
  simp
theorem c_ty {T : String} {pos : Pos} {ts : List (Bool × Sem Value)} {Q : Value → Shared → Prop} (hp : ts.any (·.1) = false)
    (k : wpAny M A (spliced ts) (fun vs s' => wpAny M A (call (.type T) vs) Q E s') E s) : wpAny M A (callWith pos (.type T) [] ts (backToKw pos (keywordEach [] env))) Q E s :=
  PyProof.Rows.callWith_type hp (evalArgs_all hp k)
theorem i_str {n : Nat} {u : Tok} {Q : Value → Shared → Prop} (hn : n < 10 ^ 10) (k : ∀ tk t', Q (.str (itx n) tk) (At s h t')) : wpAny (model prog w) A (call (.type "str") [.int n u]) Q E (At s h t) :=
  PySem.P.str_of_int (s := At s h t) (by
    have : (Int.natAbs (n : Int)) = n := rfl
    rw [this]
    have : n.log2 < 64 := by
      by_cases h0 : n = 0
      · subst h0; decide
      · rw [Nat.log2_lt h0]; omega
    omega) (k _ _)
theorem z_int {d : Nat} {u : Tok} {Q : Value → Shared → Prop} (hd : d < 8) (k : ∀ tk t', Q (.int d tk) (At s h t')) : wpAny (model prog w) A (call (.type "int") [.str ⟨#[48 + d]⟩ u]) Q E (At s h t) := by
  have z : ∀ d, d < 8 → PySem.intText? ⟨#[48 + d]⟩ = some (d : Int) := by decide +kernel
  exact KIN.call_text (s := At s h t) (z d hd) (by show 1 ≤ 640; decide) (k _ _)
theorem i_le {a b : Int} {u v : Tok} {Q : Value → Shared → Prop} (k : Q (.bool (decide (a ≤ b))) (At s h t)) : wpAny (model prog w) A (compareOp .LtE (.int a u) (.int b v)) Q E (At s h t) := P.le_int k
theorem i_lt {a b : Int} {u v : Tok} {Q : Value → Shared → Prop} (k : Q (.bool (decide (a < b))) (At s h t)) : wpAny (model prog w) A (compareOp .Lt (.int a u) (.int b v)) Q E (At s h t) := P.lt_int k
theorem i_gt {a b : Int} {u v : Tok} {Q : Value → Shared → Prop} (k : Q (.bool (decide (a > b))) (At s h t)) : wpAny (model prog w) A (compareOp .Gt (.int a u) (.int b v)) Q E (At s h t) := P.gt_int k
theorem i_ge {a b : Int} {u v : Tok} {Q : Value → Shared → Prop} (k : Q (.bool (decide (a ≥ b))) (At s h t)) : wpAny (model prog w) A (compareOp .GtE (.int a u) (.int b v)) Q E (At s h t) := P.ge_int k
theorem i_ne {a b : Int} {u v : Tok} {Q : Value → Shared → Prop} (k : Q (.bool (a != b)) (At s h t)) : wpAny (model prog w) A (compareOp .NotEq (.int a u) (.int b v)) Q E (At s h t) := P.ne_int k
theorem i_sub {a b : Int} {u v : Tok} {Q : Value → Shared → Prop} (k : ∀ tk t', Q (.int (a - b) tk) (At s h t')) : wpAny (model prog w) A (binaryOp .Sub (.int a u) (.int b v)) Q E (At s h t) := P.sub_int (k _ _)
theorem x_ife {test body orelse : Expr} {pos : Pos} {Q : Value → Shared → Prop} (k : wpAny M A (isTrue test env (eval test env)) (Brn (fun s₁ => wpAny M A (eval body env) Q E s₁) (fun s₁ => wpAny M A (eval orelse env) Q E s₁)) E s) :
    wpAny M A (eval (.IfExp test body orelse pos) env) Q E s := wpAny_IfExp k
noncomputable def Tq (Q : Value → Shared → Prop) : List Value → Shared → Prop := fun vs s₁ => vs.length ≤ sizeLine ∧ Q (.ref s₁.heap.objs.size) { s₁ with heap := s₁.heap.push { cls := .type "tuple", data := .seq vs.toArray } }
noncomputable def Lq (Q : Value → Shared → Prop) : List Value → Shared → Prop := fun vs s₁ => vs.length ≤ sizeLine ∧ Q (.ref s₁.heap.objs.size) { s₁ with heap := s₁.heap.push { cls := .type "list", data := .seq vs.toArray } }
theorem x_tup {elts : List Expr} {n : Nat} {pos : Pos} {Q : Value → Shared → Prop} (k : wpAny M A (spliced (backTo pos (starEach elts env))) (Tq Q) E s) : wpAny M A (eval (.Tuple elts n pos) env) Q E s := wpAny_Tuple k
theorem x_lst {elts : List Expr} {pos : Pos} {Q : Value → Shared → Prop} (k : wpAny M A (spliced (backTo pos (starEach elts env))) (Lq Q) E s) : wpAny M A (eval (.List elts pos) env) Q E s := wpAny_List k
theorem t_mk {c : Fact} {vs : List Value} {Q : Value → Shared → Prop} (D : Led hT g (c :: l) h) (k : ∀ a h', Led hT g (c :: (a, TupO vs) :: l) h' → Q (.ref a) (At s h' t)) (hz : vs.length ≤ 1000 := by simp) : Tq Q vs (At s h t) :=
  ⟨Nat.le_trans hz (by decide), k _ _ (D.push2 rfl rfl)⟩
theorem ls_mk {c : Fact} {vs : List Value} {Q : Value → Shared → Prop} (D : Led hT g (c :: l) h) (k : ∀ a h', Led hT g (c :: (a, LstO vs) :: l) h' → Q (.ref a) (At s h' t)) (hz : vs.length ≤ 1000 := by simp) : Lq Q vs (At s h t) :=
  ⟨Nat.le_trans hz (by decide), k _ _ (D.push2 rfl ⟨_, rfl⟩)⟩
theorem t_unp {elts : List Expr} {x1} {pos : Pos} {a L : Addr} {vs : List Value} {P : Obj → Prop} {Q : Unit → Shared → Prop} (D : Led hT g ((L, P) :: l) h) (ha : hT.objs.size ≤ L) (ht : ∃ o, h.get? a = some o ∧ TupO vs o) (hh : A.handled = none)
    (hn : (assignEach elts env).length = vs.length) (hstar : (assignEach elts env).findIdx? (·.1) = none)
    (k : ∀ h', Led hT g ((L, P) :: l) h' → wpAny (model prog w) A (assignInOrder ((assignEach elts env).map (·.2)) vs) Q E (At s h' t)) : wpAny (model prog w) A (assign (.Tuple elts x1 pos) env (.ref a)) Q E (At s h t) := by
  obtain ⟨_, hl, rfl⟩ := ht
  refine assign_Tuple_tuple (s := At s h t) (items := vs.toArray) hh ⟨_, hl, rfl, _, rfl⟩ (by simpa using hn) hstar fun h' hx => ?_
  exact k h' (D.growF ha fun b o e => hx b o (Nat.ne_of_lt (Heap.lt_size e)) e)
end
theorem Str.eta (x : Str) : (⟨x.cps.toList.toArray⟩ : Str) = x := by cases x; simp
section
variable {prog : Program} {w : World} {M : Model} {A : Around} {E : Value → Shared → Prop} {s : Shared} {h hT : Heap} {t : Nat} {g g' l : List Fact} {env : Env} {mg mb : Str → Option Value} {k : Nat} {es : List Env} {c : Lc} {st : St} {e : Int × Nat}
noncomputable def Tk (e : Int × Nat) (b : Bk) (x : Str) (σ' : Ls) : Prop := match b.waits, b.rest with
  | y :: ys, _ => x = y ∧ σ'.place = b.place ∧ σ'.line = b.line ∧ σ'.push.map (·.1) = ys
  | [], r :: _ => x = r.1 ∧ σ'.place = r.2.2 ∧ σ'.line = r.2.1 ∧ σ'.push = []
  | [], [] => x = Str.ofString "" ∧ σ'.place = e.2 ∧ σ'.line = e.1 ∧ σ'.push = []
theorem tok_next (T : Tp w mg mb hT) (D : Led hT (Lx prog w c st.σ ++ g) l h) (r : Rm (k + 5) A es) (hx : c.text.length ≤ 1000) (Y : Sy c e st) (hz : st.b.waits.length ≤ 900) :
    codeAny (model prog w) A (.call (.ref 107) ⟨[.ref c.lex], []⟩) (fun res s' => ∃ h' t' u' σ' x, res = .ok (.ret (.str x u')) ∧ s' = At s h' t' ∧ Led hT (Lx prog w c σ' ++ g) l h' ∧ Tk e st.b x σ') (At s h t) := by
  have hp : st.σ.place ≤ c.text.length := Y.place ▸ Y.le
  have Yt := Y.text
  unfold Tk
  cases hw : st.b.waits with
  | cons y ys =>
    have hpu := Y.push
    rw [hw] at hpu
    cases hs : st.σ.push with
    | nil => rw [hs] at hpu; cases hpu
    | cons p rest =>
      obtain ⟨x, u⟩ := p
      rw [hs] at hpu
      simp only [List.map_cons, List.cons.injEq] at hpu
      have hl : rest.length ≤ 900 := by
        rw [hw, ← hpu.2] at hz
        simp at hz; omega
      refine codeAny_mono (tok_push T D r hs hl) ?_
      rintro _ _ ⟨h', t', rfl, rfl, D'⟩
      exact ⟨h', t', u, _, x, rfl, rfl, D', hpu.1, Y.place, Y.line, hpu.2⟩
  | nil =>
    have hpu : st.σ.push = [] := by
      have := Y.push
      rw [hw] at this
      simpa using this
    rw [← Y.place] at Yt
    cases hr : st.b.rest with
    | nil =>
      rw [hr] at Yt
      obtain ⟨h1, h2, h3⟩ := Yt
      refine codeAny_mono (tok_text T D r hx hp hpu h1) ?_
      rintro _ _ ⟨h', t', u', σ', rfl, rfl, ⟨a1, a2, a3⟩, D'⟩
      refine ⟨h', t', u', σ', _, rfl, rfl, D', by decide +kernel, by rw [a1, h2]; omega, ?_, a3.trans hpu⟩
      rw [a2, h3, Y.line, List.take_of_length_le]
      rw [List.length_drop]
      show c.text.cps.toList.length - _ ≤ c.text.cps.size - _
      simp
    | cons x rest =>
      rw [hr] at Yt
      obtain ⟨⟨n, h1, h2, h3⟩, h4, _⟩ := Yt
      refine codeAny_mono (tok_text T D r hx hp hpu h1) ?_
      rintro _ _ ⟨h', t', u', σ', rfl, rfl, ⟨a1, a2, a3⟩, D'⟩
      exact ⟨h', t', u', σ', _, rfl, rfl, D', Str.eta _, by rw [a1, h2], by rw [a2, h3, Y.line], a3.trans hpu⟩
end
theorem tupF_snoc {ks : List Addr} {xs : List Wrd} {a : Addr} {x : Wrd} (hl : ks.length = xs.length) : tupF (ks ++ [a]) (xs ++ [x]) = tupF ks xs ++ [(a, TupWL x.1 (x.2.map (·.1)))] := by
  unfold tupF
  rw [List.zipWith_append hl]
  rfl
section
variable {prog : Program} {w : World} {M : Model} {A : Around} {E : Value → Shared → Prop} {s : Shared} {h hT : Heap} {t : Nat} {g g' l : List Fact} {env : Env} {mg mb : Str → Option Value} {es : List Env} {c : Lc} {k : Lk} {st : St} {e : Int × Nat} {σ : Ls} {kn ks : List Addr} {as : List Int} {xs : List Wrd}
theorem at_known : AtI (Lx prog w c σ ++ (Lkg c k kn as ks xs ++ g)) 17 (k.known, LstO (kn.map .ref)) := (.s (.s (.s (.s (.s (.s (.s (.s (.s (.s (.s (.s (.s (.s (.s (.s (.s .z)))))))))))))))))
theorem at_asked : AtI (Lx prog w c σ ++ (Lkg c k kn as ks xs ++ g)) 18 (k.asked, LstI as) := (.s (.s (.s (.s (.s (.s (.s (.s (.s (.s (.s (.s (.s (.s (.s (.s (.s (.s .z))))))))))))))))))
theorem at_cLex : AtI (Lx prog w c σ ++ (Lkg c k kn as ks xs ++ g)) 13 (k.cLex, CellIs (.ref c.lex)) := (.s (.s (.s (.s (.s (.s (.s (.s (.s (.s (.s (.s (.s .z)))))))))))))
theorem at_cKnown : AtI (Lx prog w c σ ++ (Lkg c k kn as ks xs ++ g)) 14 (k.cKnown, CellIs (.ref k.known)) := (.s (.s (.s (.s (.s (.s (.s (.s (.s (.s (.s (.s (.s (.s .z))))))))))))))
theorem at_cAsked : AtI (Lx prog w c σ ++ (Lkg c k kn as ks xs ++ g)) 15 (k.cAsked, CellIs (.ref k.asked)) := (.s (.s (.s (.s (.s (.s (.s (.s (.s (.s (.s (.s (.s (.s (.s .z)))))))))))))))
theorem at_cLook : AtI (Lx prog w c σ ++ (Lkg c k kn as ks xs ++ g)) 16 (k.cLook, CellIs (.ref k.lookF)) := (.s (.s (.s (.s (.s (.s (.s (.s (.s (.s (.s (.s (.s (.s (.s (.s .z))))))))))))))))
theorem at_lookF : AtI (Lx prog w c σ ++ (Lkg c k kn as ks xs ++ g)) 10 (k.lookF, FnO (fnLook k)) := (.s (.s (.s (.s (.s (.s (.s (.s (.s (.s .z))))))))))
theorem at_lookC : AtI (Lx prog w c σ ++ (Lkg c k kn as ks xs ++ g)) 11 (k.lookC, CodeQ (Str.ofString "_law_lookup.<locals>.lookup")) := (.s (.s (.s (.s (.s (.s (.s (.s (.s (.s (.s .z)))))))))))
theorem at_dfl : AtI (Lx prog w c σ ++ (Lkg c k kn as ks xs ++ g)) 12 (k.dfl, TupO [.int 8 k.dt, .bool false]) := (.s (.s (.s (.s (.s (.s (.s (.s (.s (.s (.s (.s .z))))))))))))
theorem at_lex : AtI (Lx prog w c σ ++ g) 7 (c.lex, InstO 117 c.lexD) := (.s (.s (.s (.s (.s (.s (.s .z)))))))
theorem at_lexD : AtI (Lx prog w c σ ++ g) 8 (c.lexD, DFrm 10 lexNs [some (.int σ.line σ.lt), some (.ref c.tape), some (.str blanks c.wt), some (.ref c.push)]) := (.s (.s (.s (.s (.s (.s (.s (.s .z))))))))
theorem at_push : AtI (Lx prog w c σ ++ g) 9 (c.push, LstO (σ.push.map fun p => .str p.1 p.2)) := (.s (.s (.s (.s (.s (.s (.s (.s (.s .z)))))))))
theorem set_known {a : Addr} : SetI (Lx prog w c σ ++ (Lkg c k kn as ks xs ++ g)) 17 (k.known, LstO (kn.map .ref ++ [.ref a])) (Lx prog w c σ ++ (Lkg c k (kn ++ [a]) as ks xs ++ g)) := by
  have : kn.map Value.ref ++ [.ref a] = (kn ++ [a]).map .ref := by simp
  rw [this]
  exact (.s (.s (.s (.s (.s (.s (.s (.s (.s (.s (.s (.s (.s (.s (.s (.s (.s .z)))))))))))))))))
theorem set_asked {i : Int} : SetI (Lx prog w c σ ++ (Lkg c k kn as ks xs ++ g)) 18 (k.asked, LstI (as ++ [i])) (Lx prog w c σ ++ (Lkg c k kn (as ++ [i]) ks xs ++ g)) := (.s (.s (.s (.s (.s (.s (.s (.s (.s (.s (.s (.s (.s (.s (.s (.s (.s (.s .z))))))))))))))))))
theorem Led.known {a : Addr} {x : Wrd} {f : Fact} (D : Led hT (Lx prog w c σ ++ (Lkg c k kn as ks xs ++ g)) (f :: (a, TupWL x.1 (x.2.map (·.1))) :: l) h) (hl : ks.length = xs.length) :
    Led hT (Lx prog w c σ ++ (Lkg c k kn as (ks ++ [a]) (xs ++ [x]) ++ g)) (f :: l) h := by
  refine Ldg.perm D ?_
  unfold Lkg
  rw [tupF_snoc hl]
  simp only [List.cons_append, List.append_assoc]
  refine List.Perm.append_left _ ?_
  iterate 9 refine List.Perm.cons _ ?_
  refine List.Perm.append_left _ ?_
  show (g ++ ([f] ++ ((a, TupWL x.1 (x.2.map (·.1))) :: l))).Perm ((a, TupWL x.1 (x.2.map (·.1))) :: (g ++ ([f] ++ l)))
  rw [← List.append_assoc, ← List.append_assoc]
  exact List.perm_middle
theorem tup_at {i : Nat} {x : Wrd} {a : Addr} (D : Led hT (Lx prog w c σ ++ (Lkg c k kn as ks xs ++ g)) l h) (h1 : ks[i]? = some a) (h2 : xs[i]? = some x) : ∃ o, h.get? a = some o ∧ TupWL x.1 (x.2.map (·.1)) o := by
  have : (a, TupWL x.1 (x.2.map (·.1))) ∈ tupF ks xs := by
    unfold tupF
    refine List.mem_of_getElem? (i := i) ?_
    rw [List.getElem?_zipWith, h1, h2]
  exact Ldg.has D _ (List.mem_append_left _ (List.mem_append_right _ (List.mem_append_left _ (.tail _ (.tail _ (.tail _ (.tail _ (.tail _ (.tail _ (.tail _ (.tail _ (.tail _ this))))))))))))
end
noncomputable def Trn (I : Nat → Shared → Prop) (n : Nat) (Q : Flow → Shared → Prop) : Flow → Shared → Prop := fun f s => match f with
  | .next | .cont => ∃ m, m < n ∧ I m s
  | .brk => Q .next s
  | .ret v => Q (.ret v) s
section
variable {prog : Program} {w : World} {A : Around} {E : Value → Shared → Prop} {s : Shared} {env : Env} {Q : Flow → Shared → Prop} {I : Nat → Shared → Prop} {n : Nat}
theorem tr_next {m : Nat} (h : m < n) (k : I m s) : Trn I n Q .next s := ⟨m, h, k⟩
theorem tr_cont {m : Nat} (h : m < n) (k : I m s) : Trn I n Q .cont s := ⟨m, h, k⟩
theorem tr_ret {v : Value} (k : Q (.ret v) s) : Trn I n Q (.ret v) s := k
theorem x_while {test : Expr} {body : List Stmt} {pos : Pos} (I : Nat → Shared → Prop) (n : Nat) (hE : PassesOwn (model prog w) A env E) (h0 : I n s)
    (turn : ∀ n s, I n s → wpAny (model prog w) A (isTrue test env (eval test env)) (Brn (fun s₂ => wpAny (model prog w) A (execs body env) (Trn I n Q) E s₂) (fun s₂ => Q .next s₂)) E s) :
    wpAny (model prog w) A (exec (.While test body [] pos) env) Q E s := by
  refine wpAny_While (codeAny_whileLoop I (fun n s hI => ?_) n h0)
  refine wpAny_mono (turn n s hI) (fun b s₂ q => ?_) hE
  cases b with
  | true =>
    refine wpAny_mono (q : wpAny _ _ _ _ _ _) (fun f s₃ q => ?_) hE
    cases f <;> exact q
  | false => exact wpAny_mono (wpAny_execs_nil (Q := fun f s₃ => f = .next ∧ Q .next s₃) ⟨rfl, q⟩) (fun f s₃ ⟨e, q⟩ => by subst e; exact q) hE
theorem for_it {target : Expr} {body : List Stmt} {it : Value} (I : Nat → Shared → Prop) (n : Nat) (hE : PassesOwn (model prog w) A env E) (h0 : I n s) (ht : ∀ v, letOwnedTupleGo target it v = pure ())
    (turn : ∀ n s, I n s → wpAny (model prog w) A (pyNext it) (fun o s₁ => match o with
        | some v => wpAny (model prog w) A (assign target env v) (fun _ s₂ => wpAny (model prog w) A (execs body env) (Trn I n Q) E s₂) E s₁
        | none => Q .next s₁) E s) :
    codeAny (model prog w) A (.forLoop target it body [] env) (fun r s' => match r with | .ok f => Q f s' | .error e => cameBackBy (model prog w) A env E e s') s := by
  refine codeAny_forLoop I (fun n s hI => ?_) n h0 ht
  refine wpAny_mono (turn n s hI) (fun o s₁ q => ?_) hE
  cases o with
  | none => exact wpAny_mono (wpAny_execs_nil (Q := fun f s₃ => f = .next ∧ Q .next s₃) ⟨rfl, q⟩) (fun f s₃ ⟨e, q⟩ => by subst e; exact q) hE
  | some v =>
    refine wpAny_mono (q : wpAny _ _ _ _ _ _) (fun _ s₂ q => ?_) hE
    refine wpAny_mono q (fun f s₃ q => ?_) hE
    cases f <;> exact q
theorem for_itV {target : Expr} {body : List Stmt} {it : Value} (I : Nat → Shared → Prop) (n : Nat) (hE : PassesOwn (model prog w) A env E) (h0 : I n s) (ht : ∀ v, letOwnedTupleGo target it v = pure ())
    (turn : ∀ (J : Nat → Shared → Prop) (K : Flow → Shared → Prop), (∀ m s, I m s → J m s) → (∀ f s, Q f s → K f s) → ∀ n s, I n s → wpAny (model prog w) A (pyNext it) (fun o s₁ => match o with
        | some v => wpAny (model prog w) A (assign target env v) (fun _ s₂ => wpAny (model prog w) A (execs body env) (Trn J n K) E s₂) E s₁
        | none => K .next s₁) E s) :
    codeAny (model prog w) A (.forLoop target it body [] env) (fun r s' => match r with | .ok f => Q f s' | .error e => cameBackBy (model prog w) A env E e s') s :=
  for_it I n hE h0 ht (turn I Q (fun _ _ x => x) fun _ _ x => x)
theorem x_whileV {test : Expr} {body : List Stmt} {pos : Pos} (I : Nat → Shared → Prop) (n : Nat) (hE : PassesOwn (model prog w) A env E) (h0 : I n s)
    (turn : ∀ (J : Nat → Shared → Prop) (K : Flow → Shared → Prop), (∀ m s, I m s → J m s) → (∀ f s, Q f s → K f s) → ∀ n s, I n s → wpAny (model prog w) A (isTrue test env (eval test env)) (Brn (fun s₂ => wpAny (model prog w) A (execs body env) (Trn J n K) E s₂) (fun s₂ => K .next s₂)) E s) :
    wpAny (model prog w) A (exec (.While test body [] pos) env) Q E s := x_while I n hE h0 (turn I Q (fun _ _ x => x) fun _ _ x => x)
theorem opq {α : Type} {M : Model} {c : Sem α} {Q : α → Shared → Prop} (k : ∀ K : α → Shared → Prop, (∀ a s, Q a s → K a s) → wpAny M A c K E s) : wpAny M A c Q E s := k Q fun _ _ x => x
theorem opqC {M : Model} {cd : Code} {R : Result → Shared → Prop} (k : ∀ R' : Result → Shared → Prop, (∀ r s, R r s → R' r s) → codeAny M A cd R' s) : codeAny M A cd R s := k R fun _ _ x => x
theorem opqR {M : Model} {c : Sem Flow} {R : Result → Shared → Prop} (k : ∀ R' : Result → Shared → Prop, (∀ r s, R r s → R' r s) → wpAny M A c (Out R') E s) : wpAny M A c (Out R) E s := k R fun _ _ x => x
end
end
local macro_rules | `(tactic| walk_at "ex") => `(tactic| first
  | with_reducible refine wpAny_BinOp ?_
  | with_reducible refine Subscript_ ?_
  | with_reducible refine wpAny_Call_ofName ?_
  | (with_reducible refine k_int ?_; intro _ _)
  | (with_reducible refine k_str ?_; intro _ _)
  | with_reducible refine ld (by assumption) (by assumption) (by walk_at "at") (by walk_at "at") ?_
  | with_reducible refine bv (by assumption) (by assumption) (by assumption) (by walk_at "at") (by walk_at "bi") ?_
  | with_reducible refine gv (by assumption) (by assumption) (by assumption) (by walk_at "at") (by walk_at "gl") ?_
  | with_reducible refine wpAny_Slice ?_
  | with_reducible refine x_ife ?_
  | with_reducible refine x_tup ?_
  | with_reducible refine x_lst ?_
  | with_reducible refine wpAny_Constant_none ?_
  | with_reducible refine wpAny_Constant_bool ?_
  | with_reducible refine wpAny_Compare1 ?_ (by with_unfolding_all rfl)
  | with_reducible refine Attribute_any_ ?_ (by with_unfolding_all rfl)
  | with_reducible refine c_meth (by with_unfolding_all rfl) (by with_unfolding_all rfl) (by with_unfolding_all rfl) ?_)
local macro_rules | `(tactic| walk_at "oth") => `(tactic| first
  | with_reducible refine x_cons ?_
  | with_reducible refine f_next ?_
  | with_reducible refine f_ret ?_
  | with_reducible refine o_ret ?_
  | with_reducible refine x_nil ?_
  | with_reducible refine a_cons (by with_unfolding_all rfl) ?_
  | with_reducible refine wpAny_items_nil ?_
  | with_reducible refine c_bi (by with_unfolding_all rfl) (by with_unfolding_all rfl) ?_
  | with_reducible refine p_none ?_
  | with_reducible refine p_some ?_
  | with_reducible refine wpAny_isTrue_Compare1 ?_ (by with_unfolding_all rfl)
  | with_reducible refine t_bool ?_
  | (with_reducible refine st (by assumption) (by assumption) (by walk_at "at") (by walk_at "set") ?_; intro _ _ _)
  | (with_reducible refine i_add ?_; intro _ _)
  | (with_reducible refine i_iadd ?_; intro _ _)
  | (with_reducible refine i_mod (by decide) ?_; intro _ _)
  | (with_reducible refine i_div (by assumption) (by assumption) (by assumption) (by assumption) (by assumption) (by decide) ?_; intro _ _)
  | with_reducible refine i_eq ?_
  | (with_reducible refine i_min (by assumption) (by assumption) (by walk_at "hnd") ?_; intro _ _ _ _)
  | (with_reducible refine z_len (by walk_at "len") ?_; intro _ _)
  | with_reducible refine ldn (by assumption) (by assumption) (by walk_at "at") (by walk_at "at") ?_
  | with_reducible refine f_cont ?_
  | with_reducible refine i_le ?_
  | with_reducible refine i_lt ?_
  | with_reducible refine i_gt ?_
  | with_reducible refine i_ge ?_
  | with_reducible refine i_ne ?_
  | (with_reducible refine i_sub ?_; intro _ _)
  | with_reducible refine c_ty (by with_unfolding_all rfl) ?_
  | with_reducible refine wpAny_isTrue_value ?_ (by with_unfolding_all rfl)
  | with_reducible refine o_next ?_)
section
local macro_rules | `(tactic| walk_at "stm") => `(tactic| first
  | with_reducible refine wpAny_Assign_Name ?_ (by with_unfolding_all rfl)
  | with_reducible refine wpAny_Return_some ?_
  | refine wpAny_Expr_any ?_
  | with_reducible refine Assign_Tuple ?_ (by with_unfolding_all rfl) (by with_unfolding_all rfl)
  | with_reducible refine x_if ?_
  | with_reducible refine wpAny_Assign_Subscript ?_ (by with_unfolding_all rfl)
  | with_reducible refine wpAny_AugAssign_Name ?_
  | with_reducible refine wpAny_AugAssign_AttributeAny ?_
  | with_reducible refine wpAny_AugAssign_SubscriptAny ?_)
section
noncomputable def lkW : Expr × List Stmt := match lkDef.2.1 with
  | [_, .While t b _ _, _, _, _, _] => (t, b)
  | _ => (.Constant .none 0 default, [])
noncomputable abbrev lkGs : List Str := [Str.ofString "len", Str.ofString "NetrcParseError", Str.ofString "str", Str.ofString "int", Str.ofString "_get_name_info"]
theorem meth_tok (w : World) : Meth w 117 (Str.ofString "get_token") 107 := ⟨by kernel_rfl, by kernel_rfl, by kernel_rfl, by kernel_rfl, by kernel_rfl, by kernel_rfl, by kernel_rfl, by kernel_rfl⟩
theorem lexNs_tok {vs : List (Option Value)} : look lexNs vs (Str.ofString "get_token") = none := look_not (by decide +kernel)
section
variable {prog : Program} {w : World} {A : Around} {E : Value → Shared → Prop} {s : Shared} {h hT : Heap} {t : Nat} {g l : List Fact} {mg mb : Str → Option Value} {kk : Nat} {es : List Env} {c : Lc} {k : Lk} {st : St} {e : Int × Nat} {L : Addr}
theorem gl_npe (T : Tp w mg mb hT) : mg (Str.ofString "NetrcParseError") = some (.ref 76) := mg_of T.X T.g (by kernel_rfl)
theorem fn_tok_obj (T : Tp w mg mb hT) (D : Led hT g l h) : ∃ o f, h.get? 107 = some o ∧ o.data = .func f := ⟨_, _, D.keep _ _ (T.X _ _ (fn_tok w).obj), rfl⟩
theorem lk_asked {M : Model} {F : Addr} {σ : Ls} {kn ks : List Addr} {as : List Int} {xs : List Wrd} {pos : Pos} {Q : Value → Shared → Prop} (D : Led hT (Lx prog w c σ ++ (Lkg c k kn as ks xs ++ g)) l h) (kq : Q (.ref k.asked) (At s h t)) : wpAny M A (eval (.Name (Str.ofString "asked") pos) (callEnv (fnLook k) L F)) Q E (At s h t) :=
  fv D (by kernel_rfl) ⟨(look_free F L k).1, by decide, by decide⟩ (look_clo F L k).1 at_cAsked kq
theorem lk_known {M : Model} {F : Addr} {σ : Ls} {kn ks : List Addr} {as : List Int} {xs : List Wrd} {pos : Pos} {Q : Value → Shared → Prop} (D : Led hT (Lx prog w c σ ++ (Lkg c k kn as ks xs ++ g)) l h) (kq : Q (.ref k.known) (At s h t)) : wpAny M A (eval (.Name (Str.ofString "known") pos) (callEnv (fnLook k) L F)) Q E (At s h t) :=
  fv D (by kernel_rfl) ⟨(look_free F L k).2.1, by decide, by decide⟩ (look_clo F L k).2.1 at_cKnown kq
theorem lk_lexer {M : Model} {F : Addr} {σ : Ls} {kn ks : List Addr} {as : List Int} {xs : List Wrd} {pos : Pos} {Q : Value → Shared → Prop} (D : Led hT (Lx prog w c σ ++ (Lkg c k kn as ks xs ++ g)) l h) (kq : Q (.ref c.lex) (At s h t)) : wpAny M A (eval (.Name (Str.ofString "lexer") pos) (callEnv (fnLook k) L F)) Q E (At s h t) :=
  fv D (by kernel_rfl) ⟨(look_free F L k).2.2.1, by decide, by decide⟩ (look_clo F L k).2.2.1 at_cLex kq
theorem lk_lookup {M : Model} {F : Addr} {σ : Ls} {kn ks : List Addr} {as : List Int} {xs : List Wrd} {pos : Pos} {Q : Value → Shared → Prop} (D : Led hT (Lx prog w c σ ++ (Lkg c k kn as ks xs ++ g)) l h) (kq : Q (.ref k.lookF) (At s h t)) : wpAny M A (eval (.Name (Str.ofString "lookup") pos) (callEnv (fnLook k) L F)) Q E (At s h t) :=
  fv D (by kernel_rfl) ⟨(look_free F L k).2.2.2, by decide, by decide⟩ (look_clo F L k).2.2.2 at_cLook kq
theorem Led.weak {a : Addr} {P P' : Obj → Prop} {i : Nat} {l' : List Fact} (D : Led hT g l h) (hi : AtI l i (a, P)) (hg : SetI l i (a, P') l') (hp : ∀ o, P o → P' o) : Led hT g l' h :=
  D.sameL hi hg ⟨rfl, fun _ _ => rfl⟩ (let ⟨o, ho, q⟩ := D.atL hi; ⟨o, ho, hp o q⟩)
theorem WOk.ne {x : Str} (h : WOk x) : x ≠ Str.ofString "" := by
  rintro rfl
  rcases h with h | ⟨d, hd, h⟩
  · exact absurd h (by decide +kernel)
  · exact absurd (congrArg Str.length h) (by show ¬ ((Str.ofString "").length = 1); decide +kernel)
theorem Bk.row_waits {b : Bk} {y : Str} {ys : List Str} (h : b.waits = y :: ys) : (y, none) ∈ b.row := by
  unfold Bk.row; rw [h]; simp
theorem Bk.row_rest {b : Bk} {r : Str × Int × Nat} {rs : List (Str × Int × Nat)} (h : b.rest = r :: rs) : (r.1, some r.2) ∈ b.row := by
  unfold Bk.row; rw [h]; simp
theorem itx_len {n : Nat} (h : n ≤ 1000) : (itx n).length ≤ 10 := KT.len_num (by omega) (by omega)
theorem Txts.end {c : Lc} {e : Int × Nat} {p : Nat} {l : Int} (h : Txts c e p l []) : Txts c e e.2 e.1 [] ∧ e.2 ≤ c.text.length := by
  obtain ⟨h1, h2, h3⟩ := h
  have z : c.text.cps.toList.drop e.2 = [] := List.drop_eq_nil_of_le (by rw [h2]; show c.text.cps.toList.length ≤ c.text.cps.size; simp)
  refine ⟨⟨?_, h2, ?_⟩, by omega⟩
  · rw [z, h2]; simp [lexF]
  · rw [z]; simp
theorem reach_end {e : Int × Nat} {n : Nat} {b : Bk} (h1 : b.waits = []) (h2 : b.rest = []) : reach e (n + 1) b = { b with line := e.1, place := e.2 } := by
  obtain ⟨a1, a2, a3, a4, a5, a6⟩ := b
  subst h1 h2
  rfl
theorem reach_wait {e : Int × Nat} {n : Nat} {b : Bk} {y : Str} {ys : List Str} (h1 : b.waits = y :: ys) : reach e (n + 1) b = reach e n { b with known := b.known ++ [(y, none)], waits := ys } := by
  obtain ⟨a1, a2, a3, a4, a5, a6⟩ := b
  subst h1
  rfl
theorem reach_rest {e : Int × Nat} {n : Nat} {b : Bk} {r : Str × Int × Nat} {rs : List (Str × Int × Nat)} (h1 : b.waits = []) (h2 : b.rest = r :: rs) : reach e (n + 1) b = reach e n { b with known := b.known ++ [(r.1, some r.2)], rest := rs, line := r.2.1, place := r.2.2 } := by
  obtain ⟨a1, a2, a3, a4, a5, a6⟩ := b
  subst h1 h2
  rfl
theorem lx_push {expr : Bool} {σ : Ls} {Q : Value → Shared → Prop} (D : Led hT (Lx prog w c σ ++ g) l h) (T : Tp w mg mb hT) (kq : ∀ t', Q (.ref c.push) (At s h t')) : wpAny (model prog w) A (getAttr (.ref c.lex) (Str.ofString "pushback") expr) Q E (At s h t) :=
  a_get D T (bare_pushback w) at_lex at_lexD lexNs_nd (.s (.s (.s .z))) (.s (.s (.s .z))) rfl kq
theorem lx_line {expr : Bool} {σ : Ls} {Q : Value → Shared → Prop} (D : Led hT (Lx prog w c σ ++ g) l h) (T : Tp w mg mb hT) (kq : ∀ t', Q (.int σ.line σ.lt) (At s h t')) : wpAny (model prog w) A (getAttr (.ref c.lex) (Str.ofString "lineno") expr) Q E (At s h t) :=
  a_get D T (bare_lineno w) at_lex at_lexD lexNs_nd .z .z rfl kq
theorem z_eq {x y : Str} {u v : Tok} {Q : Value → Shared → Prop} (kq : Q (.bool (decide (x = y))) (At s h t)) : wpAny (model prog w) A (compareOp .Eq (.str x u) (.str y v)) Q E (At s h t) := by
  refine P.eq_str ?_
  have : (x.cps.toList == y.cps.toList) = decide (x = y) := by
    rw [Bool.eq_iff_iff]
    obtain ⟨⟨a⟩⟩ := x
    obtain ⟨⟨b⟩⟩ := y
    simp
  rw [this]; exact kq
local macro_rules | `(tactic| walk_at "m") => `(tactic| first | (with_reducible refine lx_push (by assumption) (by assumption) ?_; intro _) | (with_reducible refine lx_line (by assumption) (by assumption) ?_; intro _) | with_reducible refine z_eq ?_ | with_reducible refine lk_asked (by assumption) ?_ | with_reducible refine lk_known (by assumption) ?_ | with_reducible refine lk_lexer (by assumption) ?_ | with_reducible refine lk_lookup (by assumption) ?_)
inductive FlI (prog : Program) (w : World) (hT : Heap) (c : Lc) (k : Lk) (e : Int × Nat) (b : Bk) (g l : List Fact) (s : Shared) (L : Addr) (i : Nat) (u : Tok) (vl vn : Value) (n : Nat) (s' : Shared) : Prop
  | mk (h' : Heap) (t' : Nat) (st' : St) (p' q' : Option Value) (es : s' = At s h' t') (D : Led hT (Wg prog w c k st' g) ((L, Frm lkNs [some (.int i u), some vl, some vn, p', q', none]) :: l) h') (Y : Sy c e st') (hre : reach e (i + 1 - st'.b.known.length) st'.b = reach e (i + 1 - b.known.length) b) (hz : st'.b.waits.length ≤ 900) (hkn : st'.b.known.length ≤ 900) (em : n = i + 1 - st'.b.known.length)
theorem ok_w {b : Bk} {x : Str} {ys : List Str} (hw : b.waits = x :: ys) (h : ∀ z ∈ b.row, WOk z.1) : ∀ z ∈ ({ b with known := b.known ++ [(x, none)], waits := ys } : Bk).row, WOk z.1 := fun z hz => by
  refine h z ?_
  unfold Bk.row at hz ⊢
  rw [hw]
  simpa using hz
theorem ok_r {b : Bk} {y : Str × Int × Nat} {ys : List (Str × Int × Nat)} {l : Int} {p : Nat} (hw : b.waits = []) (hr : b.rest = y :: ys) (h : ∀ z ∈ b.row, WOk z.1) : ∀ z ∈ ({ b with known := b.known ++ [(y.1, some y.2)], rest := ys, line := l, place := p } : Bk).row, WOk z.1 := fun z hz => by
  refine h z ?_
  unfold Bk.row at hz ⊢
  rw [hw] at hz ⊢
  rw [hr]
  simpa using hz
theorem fl_dec {i a : Nat} (h : a ≤ i) : i + 1 - (a + 1) < i + 1 - a := by omega
set_option maxHeartbeats 4000000 in
theorem fill_loop {i : Nat} {u : Tok} {vl vn : Value} {p q : Option Value} {pw : Pos} {Q : Flow → Shared → Prop} (T : Tp w mg mb hT) (D : Led hT (Wg prog w c k st g) ((L, Frm lkNs [some (.int i u), some vl, some vn, p, q, none]) :: l) h) (S : Scp hT (callEnv (fnLook k) L k.lookF) L lkNs lkGs) (r : Rm (kk + 9) A (callEnv (fnLook k) L k.lookF :: es))
    (hx : c.text.length ≤ 1000) (Y : Sy c e st) (hz : st.b.waits.length ≤ 900) (hkn : st.b.known.length ≤ 900) (hi : i ≤ 100)
    (hE : PassesOwn (model prog w) A (callEnv (fnLook k) L k.lookF) E)
    (hR : ∀ h' t' st' p' q' ex dx a0 tm tf tl, st'.b = reach e (i + 1 - st.b.known.length) st.b → Sy c e st' → st'.b.known[i]? = none → Led hT (Wg prog w c k st' g) ((L, Frm lkNs [some (.int i u), some vl, some vn, p', q', none]) :: (ex, ExO (.ref 76) (some dx) a0 .none) :: (dx, DFrm 3 exNs [some (.str (Str.ofString "names") tf), some (.int st'.b.line tl), some (.str (noName i) tm)]) :: l) h' → E (.ref ex) (At s h' t'))
    (hQ : ∀ h' t' st' p' q', st'.b = reach e (i + 1 - st.b.known.length) st.b → Sy c e st' → i < st'.b.known.length → Led hT (Wg prog w c k st' g) ((L, Frm lkNs [some (.int i u), some vl, some vn, p', q', none]) :: l) h' → Q .next (At s h' t')) :
    wpAny (model prog w) A (exec (.While lkW.1 lkW.2 [] pw) (callEnv (fnLook k) L k.lookF)) Q E (At s h t) := by
  refine x_whileV (FlI prog w hT c k e st.b g l s L i u vl vn) _ hE
    ⟨h, t, st, p, q, rfl, D, Y, rfl, hz, hkn, rfl⟩ ?_
  clear D Y hz hkn
  rintro J K hJ hK n _ ⟨h, t, st', p', q', rfl, D, Y, hre, hz, hkn, rfl⟩
  have fr := look_free k.lookF L k
  have cl := look_clo k.lookF L k
  refine wpAny_isTrue_Compare1 (l := _) (r := _) (op := _) (pos := _) ?_ (by with_unfolding_all rfl)
  repeat walk_at "m"
  have hml : (st'.ks.map Value.ref).length = st'.b.known.length := by rw [List.length_map, Y.ks]
  refine l_len D at_known (by rw [hml]; exact Nat.le_trans hkn (by decide)) ?_
  intro _ _
  repeat walk_at "m"
  refine b_two (fun hc => ?_) (fun hc => ?_)
  · have hlt : st'.b.known.length ≤ i := hml ▸ Int.ofNat_le.mp (of_decide_eq_true hc)
    have hpl : st'.σ.push.length = st'.b.waits.length := by rw [← Y.push, List.length_map]
    refine x_cons (st := _) (rest := _) ?_
    repeat walk_at "m"
    refine l_len D at_push (by rw [List.length_map, hpl]; exact Nat.le_trans hz (by decide)) ?_
    intro _ _
    repeat walk_at "m"
    rename_i D₁
    clear D
    refine m_get D₁ T (meth_tok w) at_lex at_lexD lexNs_tok ?_
    refine c_fn (by with_unfolding_all rfl) ?_
    repeat walk_at "m"
    refine ⟨fn_tok_obj T D₁, ?_⟩
    refine wpAny_call (codeAny_mono (tok_next (k := kk) T D₁ (r.mono (by omega)) hx Y hz) ?_)
    clear D₁
    rintro _ _ ⟨h₂, t₂, u₂, σ₂, x, rfl, rfl, D₂, hk⟩
    repeat walk_at "m"
    rename_i D₃
    clear D₂
    unfold Tk at hk
    refine b_two (fun hc => ?_) (fun hc => ?_)
    · have hxe := of_decide_eq_true hc
      cases hw : st'.b.waits with
      | cons y ys =>
        rw [hw] at hk
        exact absurd (hk.1 ▸ hxe) (Y.ok _ (Bk.row_waits hw)).ne
      | nil =>
      cases hr : st'.b.rest with
      | cons y ys =>
        rw [hw, hr] at hk
        exact absurd (hk.1 ▸ hxe) (Y.ok _ (Bk.row_rest hr)).ne
      | nil =>
      rw [hw, hr] at hk
      obtain ⟨rfl, k1, k2, k3⟩ := hk
      repeat walk_at "m"
      refine x_raise r.hnd ?_
      repeat walk_at "m"
      refine gv (by assumption) T S (.s .z) (gl_npe T) ?_
      refine c_xc T (by with_unfolding_all rfl) ?_
      repeat walk_at "m"
      refine i_str (by omega) ?_
      intro _ _
      repeat walk_at "m"
      refine z_add ?_ ?_
      · have := itx_len (n := i) (by omega)
        have h8 : (Str.ofString "no name ").length = 8 := by decide +kernel
        rw [h8, sizeLine_eq]; omega
      intro _ _
      repeat walk_at "m"
      refine ⟨Led.keep (by assumption), ?_⟩
      refine x_new (k := kk) (by assumption) T S.abv (r.mono (by omega)) ?_
      intro h₄ t₄ ex dx a0 D₄
      obtain ⟨ox, hox, q1, q2, ws, q3, q4, q5⟩ := D₄.atL (.s .z)
      refine ⟨ex, ox, rfl, T.X.keeps D₄.keep, hox, q1, ⟨ws, q3, q5⟩, ?_⟩
      have Yt := Y.text
      rw [hr] at Yt
      rw [k2] at D₄
      refine hR h₄ t₄ ⟨σ₂, { st'.b with line := e.1, place := e.2 }, st'.ks⟩ _ _ ex dx a0 _ _ σ₂.lt ?_ ⟨k1, k2, by rw [k3, hw]; rfl, ?_, Y.ok, Yt.end.2, Y.ks⟩ (List.getElem?_eq_none hlt) D₄
      · rw [← hre, Nat.succ_sub hlt]
        exact (reach_end hw hr).symm
      · show Txts c e e.2 e.1 st'.b.rest
        rw [hr]; exact Yt.end.1
    · have hxe := of_decide_eq_false hc
      clear hc
      repeat walk_at "m"
      have D₃ := (by assumption : Led hT (Lx prog w c σ₂ ++ (Lkg c k st'.ks st'.b.asked st'.ks st'.b.known ++ g)) _ _)
      obtain ⟨nk, hkl⟩ := LstO.isList D₃ at_known
      refine l_meth hkl PySem.F.slot_list_append PySem.F.type_list_append ?_
      refine c_bi' (by with_unfolding_all rfl) ?_
      repeat walk_at "m"
      have hsk : (st'.ks.map Value.ref).length ≤ 1000 := by rw [hml]; exact Nat.le_trans hkn (by decide)
      have hks : ∀ a : Addr, (st'.ks ++ [a]).length = st'.b.known.length + 1 := fun a => by rw [List.length_append, Y.ks]; rfl
      have hkl2 : ∀ x : Wrd, (st'.b.known ++ [x]).length = st'.b.known.length + 1 := fun _ => List.length_append
      have hk9 : st'.b.known.length + 1 ≤ 900 := by clear hz hkn hml hsk hpl hc; omega
      cases hw : st'.b.waits with
      | cons y ys =>
        rw [hw] at hk
        obtain ⟨rfl, k1, k2, k3⟩ := hk
        refine b_yes (decide_eq_true (by rw [List.length_map, hpl, hw]; exact Int.ofNat_lt.mpr (Nat.succ_pos _))) ?_
        repeat walk_at "m"
        refine t_mk D₃ ?_
        intro a h₅ D₅
        repeat walk_at "m"
        refine l_append D₅ at_known set_known hsk ?_
        intro h₆ t₆ D₆
        repeat walk_at "m"
        have D₇ := Led.known (x := (x, none)) (D₆.weak (P' := TupWL x none) (.s .z) (.s .z) fun o q => ⟨_, .none, rfl, q⟩) Y.ks
        refine tr_next (m := i + 1 - (st'.b.known.length + 1)) (fl_dec hlt) (hJ _ _ ⟨h₆, _, ⟨σ₂, { st'.b with known := st'.b.known ++ [(x, none)], waits := ys }, st'.ks ++ [a]⟩, _, _, rfl, D₇, ⟨k1.trans rfl, k2, k3, Y.text, ok_w hw Y.ok, Y.le, (hks a).trans (hkl2 _).symm⟩, ?_, Nat.le_of_succ_le (show (x :: ys).length ≤ 900 from hw ▸ hz), (hkl2 _).symm ▸ hk9, congrArg (i + 1 - ·) (hkl2 _).symm⟩)
        rw [← hre, Nat.succ_sub hlt, reach_wait hw, hkl2, Nat.add_sub_add_right]
      | nil =>
      cases hr : st'.b.rest with
      | nil =>
        rw [hw, hr] at hk
        exact absurd hk.1 hxe
      | cons y ys =>
        rw [hw, hr] at hk
        obtain ⟨rfl, k1, k2, k3⟩ := hk
        refine b_no (decide_eq_false (by rw [List.length_map, hpl, hw]; exact Int.lt_irrefl _)) ?_
        repeat walk_at "m"
        refine t_mk (by assumption) ?_
        intro a h₅ D₅
        repeat walk_at "m"
        refine l_append D₅ at_known set_known hsk ?_
        intro h₆ t₆ D₆
        repeat walk_at "m"
        have D₇ := Led.known (x := (y.1, some y.2)) (D₆.weak (P' := TupWL y.1 (some y.2.1)) (.s .z) (.s .z) fun o q => ⟨_, .int σ₂.line σ₂.lt, ⟨_, by rw [k2]⟩, q⟩) Y.ks
        have Yt := Y.text
        rw [hr] at Yt
        refine tr_next (m := i + 1 - (st'.b.known.length + 1)) (fl_dec hlt) (hJ _ _ ⟨h₆, _, ⟨σ₂, { st'.b with known := st'.b.known ++ [(y.1, some y.2)], rest := ys, line := y.2.1, place := y.2.2 }, st'.ks ++ [a]⟩, _, _, rfl, D₇, ⟨k1, k2, by rw [k3, hw]; rfl, Yt.2.2, ok_r hw hr Y.ok, Yt.2.1, (hks a).trans (hkl2 _).symm⟩, ?_, hz, (hkl2 _).symm ▸ hk9, congrArg (i + 1 - ·) (hkl2 _).symm⟩)
        rw [← hre, Nat.succ_sub hlt, reach_rest hw hr, hkl2, Nat.add_sub_add_right]
  · have hlt : i < st'.b.known.length := Nat.lt_of_not_le fun z => of_decide_eq_false hc (Int.ofNat_le.mpr (hml.symm ▸ z))
    refine hK _ _ (hQ _ _ _ _ _ ?_ Y hlt D)
    rw [← hre, Nat.sub_eq_zero_of_le hlt]
    rfl
end
end
noncomputable def VIs (wish : Bool) (x : Wrd) (v : Value) : Prop := if wish then LnV (x.2.map (·.1)) v else ∃ tk, v = .str x.1 tk
noncomputable def Lres (prog : Program) (w : World) (hT : Heap) (c : Lc) (k : Lk) (e : Int × Nat) (g l : List Fact) (s : Shared) (wish : Bool) (o : Bk × Rs) : Result → Shared → Prop := fun res s' => ∃ h' t' st', s' = At s h' t' ∧ st'.b = o.1 ∧ Sy c e st' ∧
  match o.2 with
  | .ok x => ∃ v, res = .ok (.ret v) ∧ VIs wish x v ∧ Led hT (Wg prog w c k st' g) l h'
  | .err msg line => ∃ ex T dx a0 tm tf tl, res = .error (.ref ex) ∧ Led hT (Wg prog w c k st' g) ((ex, ExO (.ref 76) (some dx) a0 (.ref T)) :: (T, TbO .none) :: (dx, DFrm 3 exNs [some (.str (Str.ofString "names") tf), some (.int line tl), some (.str msg tm)]) :: l) h'
noncomputable def Gres (prog : Program) (w : World) (hT : Heap) (c : Lc) (k : Lk) (e : Int × Nat) (g l : List Fact) (s : Shared) (wish : Bool) (o : Bk × Rs) : Result → Shared → Prop := fun res s' => ∃ h' t' st', s' = At s h' t' ∧ st'.b = o.1 ∧ Sy c e st' ∧
  match o.2 with
  | .ok x => ∃ v a, res = .ok (.ret (.ref a)) ∧ VIs wish x v ∧ Led hT (Wg prog w c k st' g) ((a, TupO [v, v]) :: l) h'
  | .err msg line => ∃ ex T dx a0 tm tf tl, res = .error (.ref ex) ∧ Led hT (Wg prog w c k st' g) ((ex, ExO (.ref 76) (some dx) a0 (.ref T)) :: (T, TbO .none) :: (dx, DFrm 3 exNs [some (.str (Str.ofString "names") tf), some (.int line tl), some (.str msg tm)]) :: l) h'
noncomputable def LkC (prog : Program) (w : World) (hT : Heap) (c : Lc) (k : Lk) (e : Int × Nat) (left : Nat) : Prop := ∀ {mg mb : Str → Option Value} {A : Around} {es : List Env} {g l : List Fact} {s : Shared} {h : Heap} {t : Nat} {st : St} {i : Nat} {u ul : Tok} {wish : Bool} {args : Args} {n : Nat},
  Tp w mg mb hT → Led hT (Wg prog w c k st g) l h → Rm (n + 20 * left + 12) A es → FrsIn es l → Sy c e st → i ≤ 100 → st.b.waits.length ≤ 900 → st.b.known.length ≤ 900 → st.b.asked.length + left ≤ 900 →
  BindsTo (At s h t) (fnLook k) args ([Str.ofString "index", Str.ofString "left", Str.ofString "line"].zip [.int i u, .int left ul, .bool wish]) →
  codeAny (model prog w) A (.call (.ref k.lookF) args) (Lres prog w hT c k e g l s wish (ask e left st.b i)) (At s h t)
theorem fn_gi (w : World) : FnAt w 44 [Str.ofString "name_index", Str.ofString "get_name"] [Str.ofString "extrainfo", Str.ofString "argval"] [Str.ofString "UNKNOWN"] :=
  ⟨by kernel_rfl, by kernel_rfl, by kernel_rfl, by kernel_rfl, by kernel_rfl, ⟨by kernel_rfl, by kernel_rfl⟩, by kernel_rfl⟩
theorem perm4 {α : Type} (a b c d : α) (l : List α) : (b :: c :: d :: a :: l).Perm (a :: b :: c :: d :: l) := (List.perm_middle (l₁ := [b, c, d]) (l₂ := l) (a := a))
section
variable {prog : Program} {w : World} {A : Around} {E : Value → Shared → Prop} {s : Shared} {h hT : Heap} {t : Nat} {g l : List Fact} {env : Env} {L m F : Addr} {ns gs : List Str} {vs : List (Option Value)}
theorem c_s1 {x y : Str} {px pos pk : Pos} {i j n : Nat} {e0 : Expr} {y0 : Sem Value} {tk : Tok} {hs : Int} {v : Value} {Q : Value → Shared → Prop} (S : Scp hT env L ns gs) (hn : AtI ns i x) (hv : AtI vs i (some (.ref m)))
    (hm : AtI l j (m, fun o => o = dictOf [⟨hs, .str y tk, v⟩] n)) (hne : m ≠ 1) (he : backTo pos (starEach [e0] env) = [(false, y0)])
    (k : wpAny (model prog w) A (spliced (backTo pos (starEach [e0] env))) (fun as s₁ => ∃ h t, s₁ = At s h t ∧ Led hT g ((L, Frm ns vs) :: l) h ∧ (∀ h t, Led hT g ((L, Frm ns vs) :: l) h → (∃ o f, h.get? F = some o ∧ o.data = .func f) ∧ wpAny (model prog w) A (call (.ref F) as [(y, v)]) Q E (At s h t))) E (At s h t)) :
    wpAny (model prog w) A (callWith pos (.ref F) [] (backTo pos (starEach [e0] env)) (backToKw pos (keywordEach [⟨none, .Name x px, pk⟩] env))) Q E (At s h t) := by
  rw [he] at k ⊢
  exact c_star1 S hn hv hm hne k
theorem c_s2 {x y y' : Str} {px pos pk : Pos} {i j n : Nat} {e0 : Expr} {y0 : Sem Value} {tk tk' : Tok} {hs hs' : Int} {v v' : Value} {Q : Value → Shared → Prop} (S : Scp hT env L ns gs) (hn : AtI ns i x) (hv : AtI vs i (some (.ref m)))
    (hm : AtI l j (m, fun o => o = dictOf [⟨hs, .str y tk, v⟩, ⟨hs', .str y' tk', v'⟩] n)) (hne : m ≠ 1) (hxy : (y == y') = false) (he : backTo pos (starEach [e0] env) = [(false, y0)])
    (k : wpAny (model prog w) A (spliced (backTo pos (starEach [e0] env))) (fun as s₁ => ∃ h t, s₁ = At s h t ∧ Led hT g ((L, Frm ns vs) :: l) h ∧ (∀ h t, Led hT g ((L, Frm ns vs) :: l) h → (∃ o f, h.get? F = some o ∧ o.data = .func f) ∧ wpAny (model prog w) A (call (.ref F) as [(y, v), (y', v')]) Q E (At s h t))) E (At s h t)) :
    wpAny (model prog w) A (callWith pos (.ref F) [] (backTo pos (starEach [e0] env)) (backToKw pos (keywordEach [⟨none, .Name x px, pk⟩] env))) Q E (At s h t) := by
  rw [he] at k ⊢
  exact c_star2 S hn hv hm hne hxy k
end
section
variable {prog : Program} {w : World} {hT : Heap} {mg mb : Str → Option Value} {c : Lc} {k : Lk} {e : Int × Nat}
theorem gi_two {A : Around} {E : Value → Shared → Prop} {s : Shared} {h : Heap} {t : Nat} {g l : List Fact} {es : List Env} {st : St} {i : Nat} {u ul : Tok} {wish : Bool} {n left : Nat} (T : Tp w mg mb hT) (X : LkC prog w hT c k e left) (D : Led hT (Wg prog w c k st g) l h) (r : Rm (n + 20 * left + 16) A es) (F : FrsIn es l) (Y : Sy c e st) (hi : i ≤ 100) (h1 : st.b.waits.length ≤ 900) (h2 : st.b.known.length ≤ 900) (h3 : st.b.asked.length + left ≤ 900) :
    codeAny (model prog w) A (.call (.ref 44) ⟨[.int i u, .ref k.lookF], [(Str.ofString "left", .int left ul), (Str.ofString "line", .bool wish)]⟩) (Gres prog w hT c k e g l s wish (ask e left st.b i)) (At s h t) := by
  refine call_bind (ps' := [Str.ofString "name_index", Str.ofString "get_name", Str.ofString "extrainfo"]) (os' := [Str.ofString "argval"]) (G := fun as l₁ => ∃ d t₀, hT.objs.size ≤ d ∧ as = [.int i u, .ref k.lookF, .ref d] ∧ l₁ = (d, fun o => o = dictOf (kwEs w.params t₀ [(Str.ofString "left", .int left ul), (Str.ofString "line", .bool wish)]) 2) :: l) D T (fn_gi w) r.room rfl
    (fun Q' kq => gi_bind2 D Q' fun h₁ t₁ d t₀ hd D₁ => kq h₁ t₁ _ _ ⟨d, t₀, hd, rfl, rfl⟩ rfl D₁) ?_
  clear D
  rintro _ _ L h t ⟨d, t₀, hd, rfl, rfl⟩ D S
  have D : Led hT (Wg prog w c k st g) ((L, Frm giNs [some (.int i u), some (.ref k.lookF), some (.ref d), none]) :: (d, fun o => o = dictOf (kwEs w.params t₀ [(Str.ofString "left", .int left ul), (Str.ofString "line", .bool wish)]) 2) :: l) h := D
  have S : Scp hT (callEnv (fd 44) L 44) L giNs [Str.ofString "UNKNOWN"] := S
  have hne : d ≠ 1 := by
    have := T.g.lt
    have : (3 : Nat) < hT.objs.size := this
    intro q; omega
  have r := r.deeper (callEnv (fd 44) L 44)
  refine wpAny_mono (Q := Out (Gres prog w hT c k e g l s wish (ask e left st.b i))) ?_ (fun _ _ q => q) (fun _ _ q => q)
  refine x_cons (st := _) (rest := _) ?_
  repeat walk_at "m"
  refine isnot_none_ne (by intro x; cases x) ?_
  repeat walk_at "m"
  refine b_yes rfl ?_
  repeat walk_at "m"
  refine c_s2 (vs := [some (.int i u), some (.ref k.lookF), some (.ref d), none]) (g := Wg prog w c k st g) (l := (d, fun o => o = dictOf (kwEs w.params t₀ [(Str.ofString "left", .int left ul), (Str.ofString "line", .bool wish)]) 2) :: l) S (.s (.s .z)) (.s (.s .z)) .z hne (by show (Str.ofString "left" == Str.ofString "line") = false; decide +kernel) (by with_unfolding_all rfl) ?_
  repeat walk_at "m"
  refine ⟨_, _, rfl, D, fun h₂ t₂ D₂ => ⟨let ⟨o, e1, e2⟩ := D₂.atG at_lookF; ⟨o, _, e1, e2⟩, ?_⟩⟩
  have D₃ : Led hT (Wg prog w c k st g) ((L, Frm giNs [some (.int i u), some (.ref k.lookF), some (.ref d), none]) :: l) h₂ := D₂.sub (.cons_cons _ (.cons _ (.refl _)))
  have F₃ : FrsIn (callEnv (fd 44) L 44 :: es) ((L, Frm giNs [some (.int i u), some (.ref k.lookF), some (.ref d), none]) :: l) := FrsIn.cons (by rw [S.kind]; intro z; cases z) rfl F
  clear D D₂
  obtain ⟨_, hdf, rfl⟩ := D₃.atG at_dfl
  refine wpAny_call (codeAny_mono (X (n := n) T D₃ (r.mono (by omega)) F₃ Y hi h1 h2 h3 (binds_peekO hdf (lk_peek2 k _ _ _))) ?_)
  clear hdf
  rintro res _ ⟨h₄, t₄, st', rfl, hb, Y', hm⟩
  cases ho : (ask e left st.b i).2 with
  | ok x =>
    rw [ho] at hm
    obtain ⟨v, rfl, hv, D₄⟩ := hm
    repeat walk_at "m"
    refine t_mk (by assumption) ?_
    intro a h₅ D₅
    repeat walk_at "m"
    refine ⟨_, _, st', rfl, hb, Y', ?_⟩
    rw [ho]
    exact ⟨v, a, rfl, hv, D₅.tail⟩
  | err msg line =>
    rw [ho] at hm
    obtain ⟨ex, Tb, dx, a0, tm, tf, tl, rfl, D₄⟩ := hm
    have D₅ : Led hT (Wg prog w c k st' g) ((L, Frm giNs [some (.int i u), some (.ref k.lookF), some (.ref d), none]) :: (ex, ExO (.ref 76) (some dx) a0 (.ref Tb)) :: (Tb, TbO .none) :: (dx, DFrm 3 exNs [some (.str (Str.ofString "names") tf), some (.int line tl), some (.str msg tm)]) :: l) h₄ := Ldg.perm D₄ (List.Perm.append_left _ (perm4 _ _ _ _ _))
    refine leave_next r.frs (FrsIn.cons (by rw [S.kind]; intro z; cases z) rfl (F.mono fun c hc => .tail _ hc)) rfl D₅ ?_
    intro h₆ T₆ D₆
    refine ⟨_, _, st', rfl, hb, Y', ?_⟩
    rw [ho]
    exact ⟨ex, T₆, dx, a0, tm, tf, tl, rfl, D₆⟩
theorem gi_one {A : Around} {E : Value → Shared → Prop} {s : Shared} {h : Heap} {t : Nat} {g l : List Fact} {es : List Env} {st : St} {i : Nat} {u ul : Tok} {wish : Bool} {n : Nat} (T : Tp w mg mb hT) (X : LkC prog w hT c k e 8) (D : Led hT (Wg prog w c k st g) l h) (r : Rm (n + 20 * 8 + 16) A es) (F : FrsIn es l) (Y : Sy c e st) (hi : i ≤ 100) (h1 : st.b.waits.length ≤ 900) (h2 : st.b.known.length ≤ 900) (h3 : st.b.asked.length + 8 ≤ 900) :
    codeAny (model prog w) A (.call (.ref 44) ⟨[.int i u, .ref k.lookF], [(Str.ofString "line", .bool wish)]⟩) (Gres prog w hT c k e g l s wish (ask e 8 st.b i)) (At s h t) := by
  refine call_bind (ps' := [Str.ofString "name_index", Str.ofString "get_name", Str.ofString "extrainfo"]) (os' := [Str.ofString "argval"]) (G := fun as l₁ => ∃ d t₀, hT.objs.size ≤ d ∧ as = [.int i u, .ref k.lookF, .ref d] ∧ l₁ = (d, fun o => o = dictOf (kwEs w.params t₀ [(Str.ofString "line", .bool wish)]) 1) :: l) D T (fn_gi w) r.room rfl
    (fun Q' kq => gi_bind1 D Q' fun h₁ t₁ d t₀ hd D₁ => kq h₁ t₁ _ _ ⟨d, t₀, hd, rfl, rfl⟩ rfl D₁) ?_
  clear D
  rintro _ _ L h t ⟨d, t₀, hd, rfl, rfl⟩ D S
  have D : Led hT (Wg prog w c k st g) ((L, Frm giNs [some (.int i u), some (.ref k.lookF), some (.ref d), none]) :: (d, fun o => o = dictOf (kwEs w.params t₀ [(Str.ofString "line", .bool wish)]) 1) :: l) h := D
  have S : Scp hT (callEnv (fd 44) L 44) L giNs [Str.ofString "UNKNOWN"] := S
  have hne : d ≠ 1 := by
    have := T.g.lt
    have : (3 : Nat) < hT.objs.size := this
    intro q; omega
  have r := r.deeper (callEnv (fd 44) L 44)
  refine wpAny_mono (Q := Out (Gres prog w hT c k e g l s wish (ask e 8 st.b i))) ?_ (fun _ _ q => q) (fun _ _ q => q)
  refine x_cons (st := _) (rest := _) ?_
  repeat walk_at "m"
  refine isnot_none_ne (by intro x; cases x) ?_
  repeat walk_at "m"
  refine b_yes rfl ?_
  repeat walk_at "m"
  refine c_s1 (vs := [some (.int i u), some (.ref k.lookF), some (.ref d), none]) (g := Wg prog w c k st g) (l := (d, fun o => o = dictOf (kwEs w.params t₀ [(Str.ofString "line", .bool wish)]) 1) :: l) S (.s (.s .z)) (.s (.s .z)) .z hne  (by with_unfolding_all rfl) ?_
  repeat walk_at "m"
  refine ⟨_, _, rfl, D, fun h₂ t₂ D₂ => ⟨let ⟨o, e1, e2⟩ := D₂.atG at_lookF; ⟨o, _, e1, e2⟩, ?_⟩⟩
  have D₃ : Led hT (Wg prog w c k st g) ((L, Frm giNs [some (.int i u), some (.ref k.lookF), some (.ref d), none]) :: l) h₂ := D₂.sub (.cons_cons _ (.cons _ (.refl _)))
  have F₃ : FrsIn (callEnv (fd 44) L 44 :: es) ((L, Frm giNs [some (.int i u), some (.ref k.lookF), some (.ref d), none]) :: l) := FrsIn.cons (by rw [S.kind]; intro z; cases z) rfl F
  clear D D₂
  obtain ⟨_, hdf, rfl⟩ := D₃.atG at_dfl
  refine wpAny_call (codeAny_mono (X (n := n) T D₃ (r.mono (by omega)) F₃ Y hi h1 h2 h3 (binds_peekO hdf (lk_peek1 k _ _))) ?_)
  clear hdf
  rintro res _ ⟨h₄, t₄, st', rfl, hb, Y', hm⟩
  cases ho : (ask e 8 st.b i).2 with
  | ok x =>
    rw [ho] at hm
    obtain ⟨v, rfl, hv, D₄⟩ := hm
    repeat walk_at "m"
    refine t_mk (by assumption) ?_
    intro a h₅ D₅
    repeat walk_at "m"
    refine ⟨_, _, st', rfl, hb, Y', ?_⟩
    rw [ho]
    exact ⟨v, a, rfl, hv, D₅.tail⟩
  | err msg line =>
    rw [ho] at hm
    obtain ⟨ex, Tb, dx, a0, tm, tf, tl, rfl, D₄⟩ := hm
    have D₅ : Led hT (Wg prog w c k st' g) ((L, Frm giNs [some (.int i u), some (.ref k.lookF), some (.ref d), none]) :: (ex, ExO (.ref 76) (some dx) a0 (.ref Tb)) :: (Tb, TbO .none) :: (dx, DFrm 3 exNs [some (.str (Str.ofString "names") tf), some (.int line tl), some (.str msg tm)]) :: l) h₄ := Ldg.perm D₄ (List.Perm.append_left _ (perm4 _ _ _ _ _))
    refine leave_next r.frs (FrsIn.cons (by rw [S.kind]; intro z; cases z) rfl (F.mono fun c hc => .tail _ hc)) rfl D₅ ?_
    intro h₆ T₆ D₆
    refine ⟨_, _, st', rfl, hb, Y', ?_⟩
    rw [ho]
    exact ⟨ex, T₆, dx, a0, tm, tf, tl, rfl, D₆⟩
end
section
local macro_rules | `(tactic| walk_at "m") => `(tactic| first | (with_reducible refine lx_push (by assumption) (by assumption) ?_; intro _) | (with_reducible refine lx_line (by assumption) (by assumption) ?_; intro _) | with_reducible refine z_eq ?_ | with_reducible refine lk_asked (by assumption) ?_ | with_reducible refine lk_known (by assumption) ?_ | with_reducible refine lk_lexer (by assumption) ?_ | with_reducible refine lk_lookup (by assumption) ?_ | with_reducible refine assignInOrder_cons ?_ | with_reducible refine assignInOrder_nil ?_ | with_reducible refine wpAny_assign_Name ?_ | with_reducible_and_instances refine kwAll_cons ?_ | with_reducible_and_instances refine kwAll_nil ?_)
section
variable {e : Int × Nat} {b : Bk} {i left : Nat} {x : Wrd}
noncomputable abbrev askB (e : Int × Nat) (b : Bk) (i : Nat) : Bk := reach e (i + 1 - b.known.length) { b with asked := b.asked ++ [(i : Int)] }
theorem ask_none (h : (askB e b i).known[i]? = none) : ask e left b i = (askB e b i, .err (noName i) (askB e b i).line) := by
  rw [ask]; (try dsimp only); rw [h]
theorem ask_two (h : (askB e b i).known[i]? = some x) (hx : x.1.length ≠ 1) : ask e left b i = (askB e b i, .ok x) := by
  rw [ask]; (try dsimp only); rw [h]; (try dsimp only); rw [if_neg hx]
theorem ask_ring (h : (askB e b i).known[i]? = some x) (hx : x.1.length = 1) : ask e 0 b i = (askB e b i, .err (aRing i) (askB e b i).line) := by
  rw [ask]; (try dsimp only); rw [h]; (try dsimp only); rw [if_pos hx]
theorem ask_rec (h : (askB e b i).known[i]? = some x) (hx : x.1.length = 1) : ask e (left + 1) b i = ask e left (askB e b i) (dig x.1) := by
  rw [ask]; (try dsimp only); rw [h]; (try dsimp only); rw [if_pos hx]
theorem reach_len : ∀ {n : Nat} {b : Bk}, (reach e n b).known.length ≤ b.known.length + n ∧ (reach e n b).waits.length ≤ b.waits.length ∧ (reach e n b).asked = b.asked
  | 0, b => ⟨Nat.le_refl _, Nat.le_refl _, rfl⟩
  | n + 1, b => by
    cases hw : b.waits with
    | cons y ys =>
      rw [reach_wait hw]
      obtain ⟨h1, h2, h3⟩ := reach_len (n := n) (b := { b with known := b.known ++ [(y, none)], waits := ys })
      refine ⟨?_, ?_, h3⟩
      · simp at h1; omega
      · simp at h2 ⊢; omega
    | nil =>
      cases hr : b.rest with
      | nil => rw [reach_end hw hr]; exact ⟨Nat.le_add_right _ _, by rw [hw]; simp, rfl⟩
      | cons y ys =>
        rw [reach_rest hw hr]
        obtain ⟨h1, h2, h3⟩ := reach_len (n := n) (b := { b with known := b.known ++ [(y.1, some y.2)], rest := ys, line := y.2.1, place := y.2.2 })
        refine ⟨?_, ?_, h3⟩
        · simp at h1; omega
        · exact Nat.le_trans h2 (Nat.le_of_eq (congrArg List.length hw))
theorem askB_len (h1 : b.known.length ≤ 900) (hi : i ≤ 100) : (askB e b i).known.length ≤ 900 ∧ (askB e b i).waits.length ≤ b.waits.length ∧ (askB e b i).asked = b.asked ++ [(i : Int)] := by
  obtain ⟨h2, h3, h4⟩ := reach_len (e := e) (n := i + 1 - b.known.length) (b := { b with asked := b.asked ++ [(i : Int)] })
  refine ⟨?_, h3, h4⟩
  have : (askB e b i).known.length ≤ b.known.length + (i + 1 - b.known.length) := h2
  omega
theorem dig_of {d : Nat} : dig ⟨#[48 + d]⟩ = d := by simp [dig]
theorem WOk.one {x : Str} (h : WOk x) (hl : x.length = 1) : dig x < 8 ∧ x = ⟨#[48 + dig x]⟩ := by
  rcases h with h | ⟨d, hd, rfl⟩
  · omega
  · rw [dig_of]; exact ⟨hd, rfl⟩
end
section
variable {prog : Program} {w : World} {hT : Heap} {c : Lc} {k : Lk} {e : Int × Nat}
theorem z_int' {A : Around} {E : Value → Shared → Prop} {s : Shared} {h : Heap} {t : Nat} {x : Str} {d : Nat} {u : Tok} {Q : Value → Shared → Prop} (hx : x = ⟨#[48 + d]⟩) (hd : d < 8) (k : ∀ tk t', Q (.int d tk) (At s h t')) : wpAny (model prog w) A (call (.type "int") [.str x u]) Q E (At s h t) := by
  subst hx
  exact z_int hd k
set_option maxHeartbeats 8000000 in
theorem Lres.ok {o : Bk × Rs} {b' : Bk} {x : Wrd} {v : Value} {wish : Bool} {st' : St} {g l : List Fact} {s : Shared} {h : Heap} {t : Nat} (ho : o = (b', .ok x)) (hb : st'.b = b') (Y : Sy c e st') (hv : VIs wish x v) (D : Led hT (Wg prog w c k st' g) l h) : Lres prog w hT c k e g l s wish o (.ok (.ret v)) (At s h t) := by
  subst ho
  exact ⟨_, _, st', rfl, hb, Y, v, rfl, hv, D⟩
theorem Lres.err {o : Bk × Rs} {b' : Bk} {msg : Str} {line : Int} {wish : Bool} {st' : St} {g l : List Fact} {s : Shared} {h : Heap} {t : Nat} {ex Tb dx : Addr} {a0 : Value} {tm tf tl : Tok} (ho : o = (b', .err msg line)) (hb : st'.b = b') (Y : Sy c e st')
    (D : Led hT (Wg prog w c k st' g) ((ex, ExO (.ref 76) (some dx) a0 (.ref Tb)) :: (Tb, TbO .none) :: (dx, DFrm 3 exNs [some (.str (Str.ofString "names") tf), some (.int line tl), some (.str msg tm)]) :: l) h) : Lres prog w hT c k e g l s wish o (.error (.ref ex)) (At s h t) := by
  subst ho
  exact ⟨_, _, st', rfl, hb, Y, ex, Tb, dx, a0, tm, tf, tl, rfl, D⟩
set_option maxHeartbeats 4000000 in
theorem look_one (hx : c.text.length ≤ 1000) {left : Nat} (hl : left ≤ 8) (ih : ∀ m, left = m + 1 → LkC prog w hT c k e m) : LkC prog w hT c k e left := by
  intro mg mb A es g l s h t st i u ul wish args n T D r F Y hi h1 h2 h3 hb
  refine opqC fun R hR => ?_
  obtain ⟨o, hF, hdt⟩ := D.atG at_lookF
  have hcd : h.CodeRec (.ref k.lookC) (Str.ofString "_law_lookup.<locals>.lookup") := by
    obtain ⟨o, e, vs, t, e1, e2⟩ := D.atG at_lookC
    exact ⟨_, o, vs, t, rfl, e, e1, e2⟩
  refine call_obj (ns := lkNs) (gs := lkGs) (vs := [some (.int i u), some (.int left ul), some (.bool wish), none, none, none]) (as := [.int i u, .int left ul, .bool wish]) D T hF hdt hcd rfl look_scope look_cells rfl rfl r.room hb rfl rfl rfl ?_
  clear hF hdt hcd D hb
  intro L h t D S
  have r := r.deeper (callEnv (fnLook k) L k.lookF)
  have FF : ∀ {vs : List (Option Value)}, FrsIn (callEnv (fnLook k) L k.lookF :: es) ((L, Frm lkNs vs) :: l) := FrsIn.cons (by rw [S.kind]; intro z; cases z) rfl F
  refine wpAny_mono (Q := Out R) ?_ (fun _ _ q => q) (fun _ _ q => q)
  refine x_cons (st := _) (rest := _) ?_
  repeat walk_at "m"
  obtain ⟨o, ho, ts, hts, na, rfl⟩ := D.atG at_asked
  refine l_meth ho PySem.F.slot_list_append PySem.F.type_list_append ?_
  clear ho hts
  refine c_bi' (by with_unfolding_all rfl) ?_
  repeat walk_at "m"
  refine li_append D at_asked set_asked (by omega) ?_
  clear D
  intro h₁ t₁ D
  repeat walk_at "m"
  refine fill_loop (st := ⟨st.σ, { st.b with asked := st.b.asked ++ [(i : Int)] }, st.ks⟩) (kk := n) T D S (r.mono (by omega)) hx ⟨Y.place, Y.line, Y.push, Y.text, Y.ok, Y.le, Y.ks⟩ h1 h2 hi PassesOwn.leaving ?_ ?_
  · intro h' t' st' p' q' ex dx a0 tm tf tl hb' Y' hn D'
    refine leave_first r.frs (FrsIn.cons (by rw [S.kind]; intro z; cases z) rfl (F.mono fun c hc => .tail _ hc)) rfl D' ?_
    intro h₂ T₂ D₂
    have hb'' : st'.b = askB e st.b i := hb'
    exact hR _ _ (Lres.err (ask_none (hb'' ▸ hn)) hb'' Y' (hb'' ▸ D₂))
  · clear D
    intro h t st' p' q' hb' Y' hlt D
    have hb' : st'.b = askB e st.b i := hb'
    repeat walk_at "m"
    obtain ⟨x, hxi⟩ : ∃ x, st'.b.known[i]? = some x := ⟨_, List.getElem?_eq_getElem hlt⟩
    obtain ⟨a, hai⟩ : ∃ a, st'.ks[i]? = some a := ⟨_, List.getElem?_eq_getElem (by rw [Y'.ks]; exact hlt)⟩
    have hln := askB_len (e := e) (b := st.b) h2 hi
    rw [← hb'] at hln
    have hxo : WOk x.1 := Y'.ok x (by unfold Bk.row; exact List.mem_append_left _ (List.mem_of_getElem? hxi))
    refine l_item D at_known (x := .ref a) (by rw [List.length_map, Y'.ks]; clear h1 h3; omega) (by rw [List.getElem?_map, hai]; rfl) (by with_unfolding_all rfl) ?_
    obtain ⟨ot, hot, tk, v, hv, hto⟩ := tup_at D hai hxi
    refine t_unp (vs := [.str x.1 tk, v]) D S.abv ⟨ot, hot, hto⟩ r.hnd (by with_unfolding_all rfl) (by with_unfolding_all rfl) ?_
    clear hot hto D
    intro h D
    show wpAny _ _ (assignInOrder [assign _ _, assign _ _] [_, _]) _ _ _
    repeat walk_at "m"
    refine z_len (by rw [sizeLine_eq]; rcases hxo with q | ⟨d, _, q⟩ <;> rw [q] <;> first | omega | (show 1 ≤ _; omega)) ?_
    intro _ _
    repeat walk_at "m"
    rw [hb'] at hxi
    refine b_two (fun hc => ?_) (fun hc => ?_)
    · have hl1 : x.1.length ≠ 1 := by
        have : ((x.1.length : Int) != 1) = true := hc
        intro q; rw [q] at this; simp at this
      have fin : ∀ {v : Value} {h : Heap} {t : Nat} {f : Fact}, Led hT (Wg prog w c k st' g) (f :: l) h → VIs wish x v → Lres prog w hT c k e g l s wish (ask e left st.b i) (.ok (.ret v)) (At s h t) := fun {v h t f} D hv => by
        exact Lres.ok (ask_two hxi hl1) hb' Y' hv D.tail
      repeat walk_at "m"
      refine b_two (fun hw => ?_) (fun hw => ?_)
      · repeat walk_at "m"
        subst hw
        exact hR _ _ (fin (by assumption) hv)
      · repeat walk_at "m"
        subst hw
        exact hR _ _ (fin (by assumption) ⟨_, rfl⟩)
    · have hl1 : x.1.length = 1 := by
        have : ((x.1.length : Int) != 1) = false := hc
        simp at this; omega
      clear hc
      obtain ⟨hd8, hdx⟩ := hxo.one hl1
      repeat walk_at "m"
      refine b_two (fun hc => ?_) (fun hc => ?_)
      · have hl0 : left = 0 := by
          have : ((left : Int) == 0) = true := hc
          simp at this; exact this
        subst hl0
        repeat walk_at "m"
        refine x_raise r.hnd ?_
        repeat walk_at "m"
        refine gv (by assumption) T S (.s .z) (gl_npe T) ?_
        refine c_xc T (by with_unfolding_all rfl) ?_
        repeat walk_at "m"
        refine i_str (by omega) ?_
        intro _ _
        repeat walk_at "m"
        refine z_add ?_ ?_
        · have := itx_len (n := i) (by omega)
          have h8 : (Str.ofString "a ring at ").length = 10 := by decide +kernel
          rw [h8, sizeLine_eq]; omega
        intro _ _
        repeat walk_at "m"
        refine ⟨Led.keep (by assumption), ?_⟩
        refine x_new (k := n) (by assumption) T S.abv (r.mono (by omega)) ?_
        intro h₄ t₄ ex dx a0 D₄
        obtain ⟨ox, hox, q1, q2, ws, q3, q4, q5⟩ := D₄.atL (.s .z)
        refine ⟨ex, ox, rfl, T.X.keeps D₄.keep, hox, q1, ⟨ws, q3, q5⟩, ?_⟩
        refine leave_first r.frs (FrsIn.cons (by rw [S.kind]; intro z; cases z) rfl (F.mono fun c hc => .tail _ hc)) rfl D₄ ?_
        intro h₂ T₂ D₂
        rw [Y'.line] at D₂
        exact hR _ _ (Lres.err (ask_ring hxi hl1) hb' Y' (hb' ▸ D₂))
      · obtain ⟨m, rfl⟩ : ∃ m, left = m + 1 := by
          have : ((left : Int) == 0) = false := hc
          simp at this
          exact ⟨left - 1, by omega⟩
        clear hc
        repeat walk_at "m"
        refine callWith_KW (K := hd.heap_39 w.params) T.X (by kernel_rfl) (by with_unfolding_all rfl) ?_ (by with_unfolding_all rfl) (by with_unfolding_all rfl)
        repeat walk_at "m"
        refine z_int' hdx hd8 ?_
        intro _ _
        repeat walk_at "m"
        refine ⟨T.X.keeps (Led.keep (by assumption)), ?_⟩
        rw [show (((m + 1 : Nat) : Int) - 1) = (m : Int) from Int.add_sub_cancel (m : Int) 1]
        have D₅ := (by assumption : Led hT (Wg prog w c k st' g) _ _)
        refine wpAny_call (codeAny_mono (gi_two (E := fun _ _ => False) (n := n) T (ih m rfl) D₅ (r.mono (by omega)) FF Y' (i := dig x.1) (by omega) (by omega) hln.1 (by rw [hln.2.2]; simp; omega)) ?_)
        rintro res _ ⟨h₆, t₆, st₆, rfl, hb₆, Y₆, hm⟩
        have hask : ask e (m + 1) st.b i = ask e m st'.b (dig x.1) := by rw [ask_rec hxi hl1, ← hb']
        cases ho : (ask e m st'.b (dig x.1)).2 with
        | ok x' =>
          rw [ho] at hm
          obtain ⟨v', a', rfl, hv', D₆⟩ := hm
          repeat walk_at "m"
          refine t_item (xs := [v', v']) (j := 0) (D₆.atL .z) (by simp) rfl (by with_unfolding_all rfl) ?_
          repeat walk_at "m"
          exact hR _ _ (Lres.ok (hask.trans (Prod.ext rfl ho)) hb₆ Y₆ hv' D₆.tail.tail)
        | err msg line =>
          rw [ho] at hm
          obtain ⟨ex, Tb, dx, a0, tm, tf, tl, rfl, D₆⟩ := hm
          have D₇ := Ldg.perm D₆ (List.Perm.append_left _ (perm4 _ _ _ _ _))
          refine leave_next r.frs (FrsIn.cons (by rw [S.kind]; intro z; cases z) rfl (F.mono fun c hc => .tail _ hc)) rfl D₇ ?_
          intro h₈ T₈ D₈
          exact hR _ _ (Lres.err (hask.trans (Prod.ext rfl ho)) hb₆ Y₆ D₈)
theorem look_all (hx : c.text.length ≤ 1000) : ∀ left : Nat, left ≤ 8 → LkC prog w hT c k e left := by
  intro left
  induction left with
  | zero => exact fun h => look_one hx h fun m q => by omega
  | succ n ih =>
    intro h
    refine look_one hx h fun m q => ?_
    obtain rfl : n = m := by omega
    exact ih (by omega)
end
end
theorem xc_gattr (w : World) : findIn (hd.heap_39 w.params) (.ref 76) "__getattr__" = some none := by kernel_rfl
theorem bga_kind : builtinKind "BaseException.__getattribute__" = some .slot := by decide +kernel
theorem bga_split : splitId "BaseException.__getattribute__" = some ("BaseException", "__getattribute__") := by decide +kernel
section
variable {prog : Program} {w : World} {A : Around} {E : Value → Shared → Prop} {s : Shared} {h hT : Heap} {t : Nat} {g l : List Fact} {mg mb : Str → Option Value} {e : Addr}
theorem x_get {ox od : Obj} {dx : Addr} {a0 tb : Value} {name : Str} {n p : Nat} {ns : List Str} {vs : List (Option Value)} {v : Value} {expr : Bool} {Q : Value → Shared → Prop} (hk : ∀ b o, hT.get? b = some o → h.get? b = some o) (T : Tp w mg mb hT) (B : BareX w name) (hx : h.get? e = some ox) (qx : ExO (.ref 76) (some dx) a0 tb ox)
    (hdx : h.get? dx = some od) (F : DFrm n ns vs od) (hn : ns.Nodup) (h1 : AtI ns p name) (h2 : AtI vs p (some v)) (hh : handedIn v = true) (k : ∀ t', Q v (At s h t')) :
    wpAny (model prog w) A (getAttr (.ref e) name expr) Q E (At s h t) := by
  have X := T.X.keeps hk
  have I := xo_inst' hx qx hdx
  obtain ⟨cd, hc, hcd, hm⟩ := xc_cls w
  have FB := PySem.F.attrBase_Exception
  have hfo : findObj (hd.heap_39 w.params) 76 (some od) name = some (.value v) := by
    unfold findObj
    rw [hc, B.no]
    simp only [Option.bind_some]
    unfold W.ownOf
    rw [hcd]
    dsimp only
    rw [if_pos rfl, F.lookIn name, look_at hn h1.get h2.get]
    rfl
  have L1 := looks_find (M := model prog w) X I hfo
  have sub : Looks (model prog w) h (isInstance (.ref e) (.type "BaseException")) true := I.type.andThen (looks_mroIn X (by unfold mroIn; rw [hc, Option.bind_some, hm]; rfl))
  unfold getAttr getAttrBy
  refine wpAny_bind (wpAny_mkText (wpAny_holding (wpAny_bind (I.type.here ?_))))
  refine wpAny_bind ((looks_findIn X (xc_ga w)).here ?_)
  show wpAny _ _ (if (true && (Value.builtin "BaseException.__getattribute__" == Value.builtin "object.__getattribute__")) = true then _ else _) _ _ _
  rw [if_neg (by decide +kernel)]
  unfold getAttrByItsOwn
  refine wpAny_bind (m := hookBefore (.ref 76)) ((looks_findIn X (xc_gattr w)).here ?_)
  refine wpAny_bind (wpAny_attempt (wpAny_holding ?_))
  unfold callGetattribute
  rw [if_neg (by cases expr <;> decide +kernel)]
  unfold boundAndCalled
  rw [FB.ga.bind (.ref e)]
  refine wpAny_bind (wpAny_pure ?_)
  refine wpAny_call (codeAny_call_builtin FB.ga.plain PySem.F.entry_bexc_ga (@check_slot (model prog w) _ _ (At s h (t + 1)) "BaseException.__getattribute__" "BaseException" "__getattribute__" (.ref e) [.str name t] [] _ bga_kind bga_split sub (PySem.F.args_bexc_ga _ _) ?_))
  unfold Builtin.«object.__getattribute__»
  refine wpAny_bind (wpAny_pure ?_)
  refine wpAny_bind (wpAny_pure ?_)
  refine wpAny_bind (I.type.here (wpAny_bind (L1.here ?_)))
  refine wpAny_pure ?_
  show wpAny _ _ (handedOut v) _ _ _
  rw [handedOut_of hh]
  exact wpAny_pure (k _)
end
section
noncomputable def shownErr (m f : Str) (n : Int) : Str := Str.empty ++ m ++ Str.ofString " (" ++ f ++ Str.ofString ", line " ++ Str.ofString (toString n) ++ Str.ofString ")"
noncomputable def Jp (M : Model) (A : Around) (E : Value → Shared → Prop) (Q : Value → Shared → Prop) (out : Str) (rest : List (Sem Value)) : Value → Shared → Prop := fun v s₁ => match v with | .str y _ => (out ++ y).length ≤ sizeLine ∧ wpAny M A (joinParts (out ++ y) rest) Q E s₁ | _ => False
section
variable {M : Model} {A : Around} {E : Value → Shared → Prop} {s : Shared} {h : Heap} {t : Nat} {out y : Str} {env : Env} {Q : Value → Shared → Prop} {rest : List (Sem Value)}
theorem j_cons {x : Sem Value} (k : wpAny M A x (Jp M A E Q out rest) E s) : wpAny M A (joinParts out (x :: rest)) Q E s := joinParts_cons k
theorem j_each {e : Expr} {es : List Expr} (k : wpAny M A (eval e env) (Jp M A E Q out (evalEach es env)) E s) : wpAny M A (joinParts out (evalEach (e :: es) env)) Q E s := joinParts_cons (out := out) (x := eval e env) (rest := evalEach es env) k
theorem j_nil (hz : out.length ≤ sizeLine) (k : ∀ tk t', Q (.str out tk) (At s h t')) : wpAny M A (joinParts out (evalEach [] env)) Q E (At s h t) := joinParts_nil (k _ _) hz
theorem j_str {u : Tok} (hz : (out ++ y).length ≤ sizeLine) (k : wpAny M A (joinParts (out ++ y) rest) Q E s) : Jp M A E Q out rest (.str y u) s := ⟨hz, k⟩
end
local macro_rules | `(tactic| walk_at "m") => `(tactic| first | with_reducible refine JoinedStr_many ?_ | with_reducible refine j_cons ?_ | with_reducible refine j_each ?_ | with_reducible refine wpAny_FormattedValue_s ?_ | (refine j_str (by simp only [strLen_append]; rw [sizeLine_eq]; omega) ?_) | (refine habitSame_str ?_ (by rw [sizeLine_eq]; omega); intro _ _) | (refine formatField_str ?_ (by rw [sizeLine_eq]; omega); intro _ _))
local macro_rules | `(tactic| walk_at "m") => `(tactic| first | (with_reducible refine lx_push (by assumption) (by assumption) ?_; intro _) | (with_reducible refine lx_line (by assumption) (by assumption) ?_; intro _) | with_reducible refine z_eq ?_ | with_reducible refine lk_asked (by assumption) ?_ | with_reducible refine lk_known (by assumption) ?_ | with_reducible refine lk_lexer (by assumption) ?_ | with_reducible refine lk_lookup (by assumption) ?_ | with_reducible refine assignInOrder_cons ?_ | with_reducible refine assignInOrder_nil ?_ | with_reducible refine wpAny_assign_Name ?_ | with_reducible_and_instances refine kwAll_cons ?_ | with_reducible_and_instances refine kwAll_nil ?_)
theorem log_small {n : Int} (h0 : 0 ≤ n) (h1 : n < 10 ^ 10) : n.natAbs.log2 < 1920 := by
  have : n.natAbs.log2 < 64 := by
    by_cases hz : n.natAbs = 0
    · rw [hz]; decide
    · rw [Nat.log2_lt hz]; omega
  omega
theorem fn_xstr (w : World) : FnAt w 73 [Str.ofString "self"] [] [] :=
  ⟨by kernel_rfl, by kernel_rfl, by kernel_rfl, by kernel_rfl, by kernel_rfl, ⟨by kernel_rfl, by kernel_rfl⟩, by kernel_rfl⟩
section
variable {prog : Program} {w : World} {A : Around} {E : Value → Shared → Prop} {s : Shared} {h hT : Heap} {t : Nat} {g l : List Fact} {mg mb : Str → Option Value} {k : Nat} {es : List Env} {e dx L : Addr} {a0 tb : Value} {ie id' : Nat} {env : Env}
theorem xl_get {f : Fact} {name : Str} {n p : Nat} {vs : List (Option Value)} {v : Value} {expr : Bool} {Q : Value → Shared → Prop} (D : Led hT g l h) (T : Tp w mg mb hT) (B : BareX w name) (he : AtI l ie (e, ExO (.ref 76) (some dx) a0 tb)) (hd : AtI l id' (dx, DFrm n exNs vs))
    (h1 : AtI exNs p name) (h2 : AtI vs p (some v)) (hh : handedIn v = true) (kq : ∀ t', Q v (At s h t')) : wpAny (model prog w) A (getAttr (.ref e) name expr) Q E (At s h t) := by
  obtain ⟨ox, hx, qx⟩ := D.atL he
  obtain ⟨od, hod, F⟩ := D.atL hd
  exact x_get D.keep T B hx qx hod F exNs_nd h1 h2 hh kq
set_option maxHeartbeats 4000000 in
theorem xstr_spec {m f : Str} {n : Int} {tm tf tl : Tok} (T : Tp w mg mb hT) (D : Led hT g l h) (hroom : A.depth < recursionLimit) (he : AtI l ie (e, ExO (.ref 76) (some dx) a0 tb)) (hdx : AtI l id' (dx, DFrm 3 exNs [some (.str f tf), some (.int n tl), some (.str m tm)]))
    (hm : m.length ≤ 1000) (hf : f.length ≤ 1000) (h0 : 0 ≤ n) (h1 : n < 10 ^ 10) :
    codeAny (model prog w) A (.call (.ref 73) ⟨[.ref e], []⟩) (fun res s' => ∃ h' t' tk, res = .ok (.ret (.str (shownErr m f n) tk)) ∧ s' = At s h' t' ∧ Led hT g l h') (At s h t) := by
  refine call_top (ns := [Str.ofString "self"]) (vs := [some (.ref e)]) D T (fn_xstr w) hroom (as := [.ref e]) (.of_eq (by kernel_rfl)) rfl rfl rfl ?_
  clear D
  intro L h t D S
  refine wpAny_mono (Q := Out (fun res s' => ∃ h' t' tk, res = .ok (.ret (.str (shownErr m f n) tk)) ∧ s' = At s h' t' ∧ Led hT g l h')) (E := fun _ _ => False) ?_ (fun _ _ q => q) (fun _ _ q => q.elim)
  have z0 : Str.empty.length = 0 := by decide +kernel
  have z1 : (Str.ofString " (").length = 2 := by decide +kernel
  have z2 : (Str.ofString ", line ").length = 7 := by decide +kernel
  have z3 : (Str.ofString ")").length = 1 := by decide +kernel
  have z4 : (Str.ofString (toString n)).length ≤ 10 := KT.len_num h0 h1
  refine x_cons (st := _) (rest := _) ?_
  repeat walk_at "m"
  refine xl_get (f := (0, fun _ => True)) D T (bx_msg w) (.s he) (.s hdx) (.s (.s .z)) (.s (.s .z)) rfl ?_
  intro _
  repeat walk_at "m"
  refine xl_get (f := (0, fun _ => True)) D T (bx_filename w) (.s he) (.s hdx) .z .z rfl ?_
  intro _
  repeat walk_at "m"
  refine xl_get (f := (0, fun _ => True)) D T (bx_lineno w) (.s he) (.s hdx) (.s .z) (.s .z) rfl ?_
  intro _
  refine pyStrObj_int (s := At s h _) (log_small h0 h1) ?_
  refine formatField_str (s := At s h _) ?_ (by rw [sizeLine_eq]; exact Nat.le_trans z4 (by decide))
  intro _ _
  repeat walk_at "m"
  refine j_nil (by simp only [strLen_append]; rw [sizeLine_eq]; omega) ?_
  intro _ _
  repeat walk_at "m"
  exact ⟨_, _, _, rfl, rfl, D.tail⟩
theorem h_as {t₀ : Expr} {n : Str} {b₀ : Stmt} {suite : List Stmt} {pos : Pos} {Q : Flow → Shared → Prop}
    (kq : wpAny (model prog w) (A.mark (some (.ref e))) (eval t₀ env) (fun c s₁ => c = .ref 76 ∧ (hd.heap_39 w.params).In s₁.heap ∧ (∃ oe, s₁.heap.get? e = some oe ∧ oe.cls = .ref 76) ∧
      wpAny (model prog w) (A.mark (some (.ref e))) (setFlight (.ref e) none) (fun _ s₂ => wpAny (model prog w) (A.mark (some (.ref e))) (storeName env n (.ref e)) (fun _ s₃ =>
        wpAny (model prog w) (A.mark (some (.ref e))) (execs (b₀ :: suite) env) (fun f s₄ => wpAny (model prog w) A (do bindName env n .none; unbindBehindTheSuite env n pos) (fun _ s₅ => Q f s₅) E s₄) (fun _ _ => False) s₃) (fun _ _ => False) s₂) (fun _ _ => False) s₁) (fun _ _ => False) s) :
    wpAny (model prog w) A (handleBy (.ref e) env [.ExceptHandler (some t₀) (some n) (b₀ :: suite) pos]) Q E s := by
  refine wpAny_handleBy_cons (codeAny_handlers_test (wpAny_mono kq (fun c s₁ h₁ => ?_) fun _ _ x => x.elim)) (by intro q; cases q)
  obtain ⟨rfl, X, ⟨oe, he, hc⟩, hk⟩ := h₁
  obtain ⟨nm, q, N, bs, sn, sub, ab, col, dd, k0, k1, k2, k3, k5, mN, hC, hN, hi⟩ := xc_obj X
  obtain ⟨hp, gg, d, tk, os⟩ := s₁
  refine wpAny_excMatches_sub_self hC he hc rfl ?_
  refine codeAny_handlers_suite_as (wpAny_mono hk (fun _ s₂ h₂ => ?_) fun _ _ x => x.elim)
  refine wpAny_mono h₂ (fun _ s₃ h₃ => ?_) fun _ _ x => x.elim
  exact wpAny_mono h₃ (fun f s₄ h₄ => h₄) fun _ _ x => x.elim
end
end
section
local macro_rules | `(tactic| walk_at "m") => `(tactic| first | (with_reducible refine lx_push (by assumption) (by assumption) ?_; intro _) | (with_reducible refine lx_line (by assumption) (by assumption) ?_; intro _) | with_reducible refine z_eq ?_ | with_reducible refine lk_asked (by assumption) ?_ | with_reducible refine lk_known (by assumption) ?_ | with_reducible refine lk_lexer (by assumption) ?_ | with_reducible refine lk_lookup (by assumption) ?_ | with_reducible refine assignInOrder_cons ?_ | with_reducible refine assignInOrder_nil ?_ | with_reducible refine wpAny_assign_Name ?_ | with_reducible_and_instances refine kwAll_cons ?_ | with_reducible_and_instances refine kwAll_nil ?_)
theorem fn_asked (w : World) : FnAt w 154 [Str.ofString "index", Str.ofString "lookup", Str.ofString "line"] [Str.ofString "error"] [Str.ofString "_get_name_info", Str.ofString "NetrcParseError", Str.ofString "str"] :=
  ⟨by kernel_rfl, by kernel_rfl, by kernel_rfl, by kernel_rfl, by kernel_rfl, ⟨by kernel_rfl, by kernel_rfl⟩, by kernel_rfl⟩
noncomputable abbrev akNs : List Str := [Str.ofString "index", Str.ofString "lookup", Str.ofString "line", Str.ofString "error"]
noncomputable def Ares (prog : Program) (w : World) (hT : Heap) (c : Lc) (k : Lk) (e : Int × Nat) (g l : List Fact) (s : Shared) (wish : Bool) (o : Bk × Rs) : Result → Shared → Prop := fun res s' => ∃ h' t' st' a, s' = At s h' t' ∧ st'.b = o.1 ∧ Sy c e st' ∧ res = .ok (.ret (.ref a)) ∧
  match o.2 with
  | .ok x => ∃ v, VIs wish x v ∧ Led hT (Wg prog w c k st' g) ((a, TupO [v, v]) :: l) h'
  | .err msg line => ∃ tm tf tl ts, Led hT (Wg prog w c k st' g) ((a, LstO [.str msg tm, .str (Str.ofString "names") tf, .int line tl, .str (shownErr msg (Str.ofString "names") line) ts]) :: l) h'
theorem x_try {prog : Program} {w : World} {A : Around} {E : Value → Shared → Prop} {s : Shared} {env : Env} {body : List Stmt} {h₀ : ExceptHandler} {pos : Pos} {Q : Flow → Shared → Prop}
    (k : wpAny (model prog w) A (execs body env) (Flw (fun s₁ => wpAny (model prog w) A (execs [] env) Q E s₁) Q) (fun e s₁ => wpAny (model prog w) A (noteFrame e env) (fun _ s₂ => wpAny (model prog w) A (setFlight e none) (fun _ s₃ => wpAny (model prog w) A (handleBy e env [h₀]) Q E s₃) E s₂) E s₁) s) :
    wpAny (model prog w) A (exec (.Try body [h₀] [] [] pos) env) Q E s :=
  wpAny_Try_except (wpAny_mono k (fun f _ q => by cases f <;> exact q) fun _ _ q => q)
theorem xstr_is (w : World) : findIn (hd.heap_39 w.params) (.ref 76) "__str__" = some (some (.ref 73)) := by kernel_rfl
theorem xstr_fn (w : World) : isFn (hd.heap_39 w.params) (.ref 73) = true := by kernel_rfl
section
variable {prog : Program} {w : World} {hT : Heap} {mg mb : Str → Option Value} {c : Lc} {k : Lk} {e : Int × Nat} {A : Around} {s : Shared} {h : Heap} {t : Nat} {g l : List Fact} {es : List Env} {st : St} {i : Nat} {u : Tok} {wish : Bool} {n : Nat}
set_option maxHeartbeats 8000000 in
theorem asked_spec (T : Tp w mg mb hT) (hx : c.text.length ≤ 1000) (D : Led hT (Wg prog w c k st g) l h) (r : Rm (n + 200) A es) (F : FrsIn es l) (Y : Sy c e st) (hi : i ≤ 100) (h1 : st.b.waits.length ≤ 900) (h2 : st.b.known.length ≤ 900) (h3 : st.b.asked.length ≤ 800)
    (hln : ∀ m ln, (ask e 8 st.b i).2 = .err m ln → m.length ≤ 100 ∧ 0 ≤ ln ∧ ln < 10 ^ 10) :
    codeAny (model prog w) A (.call (.ref 154) ⟨[.int i u, .ref k.lookF, .bool wish], []⟩) (Ares prog w hT c k e g l s wish (ask e 8 st.b i)) (At s h t) := by
  refine opqC fun R hR => ?_
  refine call_top (ns := akNs) (vs := [some (.int i u), some (.ref k.lookF), some (.bool wish), none]) D T (fn_asked w) r.room (as := [.int i u, .ref k.lookF, .bool wish]) (.of_eq (by kernel_rfl)) rfl rfl rfl ?_
  clear D
  intro L h t D S
  have r := r.deeper (callEnv (fd 154) L 154)
  have FF : ∀ {vs : List (Option Value)}, FrsIn (callEnv (fd 154) L 154 :: es) ((L, Frm akNs vs) :: l) := FrsIn.cons (by rw [S.kind]; intro z; cases z) rfl F
  refine wpAny_mono (Q := Out R) (E := fun _ _ => False) ?_ (fun _ _ q => q) (fun _ _ q => q.elim)
  refine x_cons (st := _) (rest := _) ?_
  refine x_try ?_
  repeat walk_at "m"
  refine callWith_KW (K := hd.heap_39 w.params) T.X (by kernel_rfl) (by with_unfolding_all rfl) ?_ (by with_unfolding_all rfl) (by with_unfolding_all rfl)
  repeat walk_at "m"
  refine ⟨T.X.keeps D.keep, ?_⟩
  refine wpAny_call (codeAny_mono (gi_one (E := fun _ _ => False) (ul := 0) (n := n) T (look_all hx 8 (Nat.le_refl _)) D (r.mono (by omega)) FF Y hi h1 h2 (by omega)) ?_)
  clear D
  rintro res _ ⟨h₆, t₆, st₆, rfl, hb₆, Y₆, hm⟩
  cases ho : (ask e 8 st.b i).2 with
  | ok x' =>
    rw [ho] at hm
    obtain ⟨v', a', rfl, hv', D₆⟩ := hm
    repeat walk_at "m"
    refine hR _ _ ⟨_, _, st₆, a', rfl, hb₆, Y₆, rfl, ?_⟩
    rw [ho]
    exact ⟨v', hv', D₆.sub (.cons_cons _ (.cons _ (.refl _)))⟩
  | err msg line =>
    obtain ⟨m1, m2, m3⟩ := hln _ _ ho
    rw [ho] at hm
    obtain ⟨ex, Tb, dx, a0, tm, tf, tl, rfl, D₆⟩ := hm
    have D₇ := Ldg.perm D₆ (List.Perm.append_left _ (perm4 _ _ _ _ _))
    refine note_next r.frs (FrsIn.cons (by rw [S.kind]; intro z; cases z) rfl (F.mono fun c hc => .tail _ hc)) rfl D₇ ?_
    clear D₆ D₇
    intro h₇ T₇ D₇
    refine land_core D₇ ?_
    clear D₇
    intro h₈ D₈
    refine h_as ?_
    repeat walk_at "m"
    refine gv D₈ T S (.s .z) (gl_npe T) ?_
    obtain ⟨oe, hoe, qe, _⟩ := D₈.atL (.s .z)
    refine ⟨rfl, T.X.keeps D₈.keep, ⟨oe, hoe, qe⟩, ?_⟩
    clear hoe
    refine land_core D₈ ?_
    clear D₈
    intro h₉ D₉
    repeat walk_at "m"
    clear D₉
    have D₁ := (by assumption : Led hT (Wg prog w c k st₆ g) ((L, Frm akNs _) :: (ex, ExO (.ref 76) (some dx) a0 (.ref T₇)) :: (T₇, TbO .none) :: (dx, DFrm 3 exNs [some (.str (Str.ofString "names") tf), some (.int line tl), some (.str msg tm)]) :: l) _)
    refine xl_get (f := (0, fun _ => True)) D₁ T (bx_msg w) (.s .z) (.s (.s (.s .z))) (.s (.s .z)) (.s (.s .z)) rfl ?_
    intro _
    repeat walk_at "m"
    refine xl_get (f := (0, fun _ => True)) D₁ T (bx_filename w) (.s .z) (.s (.s (.s .z))) .z .z rfl ?_
    intro _
    repeat walk_at "m"
    refine xl_get (f := (0, fun _ => True)) D₁ T (bx_lineno w) (.s .z) (.s (.s (.s .z))) (.s .z) (.s .z) rfl ?_
    intro _
    repeat walk_at "m"
    obtain ⟨ox, hox, qx⟩ := D₁.atL (.s .z)
    obtain ⟨od, hod, Fx⟩ := D₁.atL (.s (.s (.s .z)))
    refine kso_call (s := At s _ _) (by have := r.uni; show (A.deeper (callEnv (fd 154) L 154)).units + 1 + 1 < 9900; omega) (T.X.keeps D₁.keep) (xo_inst' hox qx hod) (xstr_is w) (xstr_fn w) ?_
    clear hox hod
    refine wpAny_call (codeAny_mono (xstr_spec T D₁ r.room (.s .z) (.s (.s (.s .z))) (by omega) (by show (Str.ofString "names").length ≤ 1000; decide +kernel) m2 m3) ?_)
    clear D₁
    rintro _ _ ⟨h₂, t₂, tk₂, rfl, rfl, D₂⟩
    show wpAny _ _ _ _ _ _
    repeat walk_at "m"
    refine ls_mk D₂ ?_
    intro a h₃ D₃
    repeat walk_at "m"
    have hns := D₃.ns .z
    refine wpAny_nameGoes (s := At s _ _) (S.all _ (List.mem_of_getElem? (AtI.get (.s (.s (.s .z)) : AtI akNs 3 _)))).1 (m := look akNs _) (by rw [S.loc]; exact hns) (by rw [S.kind]; rfl) ?_
    intro h₄ m₄ hn₄ hs₄
    rw [S.loc] at hn₄ hs₄
    have D₄ := D₃.sameL (P' := fun _ => True) .z .z hs₄ (let ⟨o, _, _, ho, _⟩ := hn₄; ⟨o, ho, trivial⟩)
    repeat walk_at "m"
    refine hR _ _ ⟨_, _, st₆, a, rfl, hb₆, Y₆, rfl, ?_⟩
    rw [ho]
    exact ⟨tm, tf, tl, tk₂, D₄.tail.sub (.cons_cons _ (.cons _ (.cons _ (.cons _ (.refl _)))))⟩
end
end
noncomputable def ItO (a : Addr) (j : Nat) : Obj → Prop := fun o => o.cls = .type "list_iterator" ∧ o.data = .fields #[.ref a, .int j 0]
theorem pick_ab (xs : List Value) (a b : Nat) : (slicePick xs.toArray (some (a : Int)) (some (b : Int)) none).toList = (xs.drop a).take (b - a) := by
  rw [slicePick_plain]
  simp only [Option.elim_some, clipAt_nat, List.size_toArray]
  by_cases h : a ≤ xs.length
  · rw [Nat.min_eq_left h]
    by_cases h2 : b ≤ xs.length
    · rw [Nat.min_eq_left h2]
    · rw [Nat.min_eq_right (by omega), List.take_of_length_le (by simp), List.take_of_length_le (by simp; omega)]
  · have e : min a xs.length = xs.length := by omega
    rw [e, List.drop_length, List.drop_eq_nil_of_le (by omega)]
    simp
theorem pick_b (xs : List Value) (b : Nat) : (slicePick xs.toArray none (some (b : Int)) none).toList = xs.take b := by
  rw [slicePick_upto']
section
variable {prog : Program} {w : World} {M : Model} {A : Around} {E : Value → Shared → Prop} {s : Shared} {h hT : Heap} {t : Nat} {g g' l l' : List Fact} {env : Env} {L a it : Addr} {P : Obj → Prop} {xs : List Value}
theorem l_slice {value slice : Expr} {vl vu vk : Value} {lo hi st : Option Int} {ops : List Value} {Q : Value → Shared → Prop} (D : Led hT g ((L, P) :: l) h) (ha : hT.objs.size ≤ L) (hl : h.IsList a xs.toArray) (hz : xs.length ≤ 1000) (pl : IsPart vl lo) (pu : IsPart vu hi) (pk : IsPart vk st) (h0 : st ≠ some 0)
    (hs : subscripted slice false (.ref a) (.ref h.objs.size) = operate ops (getItem (.ref a) (.ref h.objs.size)))
    (k : ∀ b h', Led hT g ((L, P) :: (b, LstO (slicePick xs.toArray lo hi st).toList) :: l) h' → Q (.ref b) (At s h' t)) :
    wpAny (model prog w) A (subscriptTail value slice (.ref a) (.ref (At s h t).heap.objs.size)) Q E { At s h t with heap := (At s h t).heap.push { cls := .type "slice", data := .fields #[vl, vu, vk] } } := by
  refine tail_any (s := { At s h t with heap := h.push { cls := .type "slice", data := .fields #[vl, vu, vk] } }) (T := "list") (id := "list.__getitem__") (Heap.IsList.typeIs (hl.push _)) PySem.F.slot_list_getitem.lookup
    (wpAny_getItem_list_slice (hl.push _) (Heap.IsSliceOf.new ..) pl pu pk h0 ?_ (by simp; rw [sizeLine_eq]; omega)) hs
  have D₁ : Led hT g ((L, P) :: l) (h.push { cls := .type "slice", data := .fields #[vl, vu, vk] }) := D.grow (fun b o e => Heap.get?_push_of_some _ e) (by rw [Heap.size_push]; omega)
  exact k _ _ (D₁.push2 rfl ⟨0, by simp⟩)
theorem li_iter {c : Fact} {Q : Value → Shared → Prop} (D : Led hT g (c :: l) h) (hl : h.IsList a xs.toArray) (k : ∀ it h', Led hT g (c :: (it, ItO a 0) :: l) h' → Q (.ref it) (At s h' t)) : wpAny (model prog w) A (pyIter (.ref a)) Q E (At s h t) :=
  wpAny_pyIter_list (s := At s h t) hl (k _ _ (D.push2 rfl ⟨rfl, rfl⟩))
theorem li_next {i j : Nat} {x : Value} {Q : Option Value → Shared → Prop} (D : Led hT g l h) (hi : AtI l i (it, ItO a j)) (hl : h.IsList a xs.toArray) (hx : xs[j]? = some x) (hg : SetI l i (it, ItO a (j + 1)) l') (k : ∀ h', Led hT g l' h' → Q (some x) (At s h' t)) :
    wpAny (model prog w) A (pyNext (.ref it)) Q E (At s h t) := by
  obtain ⟨o, ho, q1, q2⟩ := D.atL hi
  exact wpAny_pyNext_list_item (s := At s h t) ⟨o, ho, q1, q2⟩ hl (by simpa using hx) fun h' ⟨o', ho', r1, r2⟩ hs => k h' (D.sameL hi hg hs ⟨o', ho', r1, r2⟩)
theorem li_end {j : Nat} {Q : Option Value → Shared → Prop} (D : Led hT g ((L, P) :: (it, ItO a j) :: l) h) (ha : hT.objs.size ≤ L) (hh : A.handled = none) (hl : h.IsList a xs.toArray) (hx : xs[j]? = none) (k : ∀ h', Led hT g ((L, P) :: l) h' → Q none (At s h' t)) :
    wpAny (model prog w) A (pyNext (.ref it)) Q E (At s h t) := by
  obtain ⟨o, ho, q1, q2⟩ := D.atL (.s .z)
  refine wpAny_pyNext_list_end (s := At s h t) hh ⟨o, ho, q1, q2⟩ hl (by simpa using hx) fun h' he => k h' ?_
  have D₁ : Ldg hT ((it, ItO a j) :: (g ++ ((L, P) :: l))) h := Ldg.perm D (by
    rw [show g ++ (L, P) :: (it, ItO a j) :: l = (g ++ [(L, P)]) ++ (it, ItO a j) :: l by simp, show g ++ (L, P) :: l = (g ++ [(L, P)]) ++ l by simp]
    exact List.perm_middle)
  have ne : ∀ c ∈ g ++ ((L, P) :: l), c.1 ≠ it := fun c hc e => (List.nodup_cons.mp (by have := D₁.nd; rwa [List.map_cons] at this)).1 (List.mem_map.mpr ⟨c, hc, e⟩)
  have kf : ∀ c ∈ g ++ ((L, P) :: l), ∃ o, h'.get? c.1 = some o ∧ c.2 o := fun c hc => by
    obtain ⟨o, e, q⟩ := D₁.has c (.tail _ hc)
    exact ⟨o, he _ _ (ne c hc) e, q⟩
  refine ⟨fun b o e => he b o (fun q => ?_) (D.keep b o e), kf, (List.nodup_cons.mp (by have := D₁.nd; rwa [List.map_cons] at this)).2, fun c hc => D₁.new c (.tail _ hc), ?_⟩
  · have := D₁.new (it, ItO a j) (.head _)
    rw [q] at e
    rw [show hT.get? it = none from this] at e
    cases e
  · obtain ⟨o, e, _⟩ := kf (L, P) (List.mem_append_right _ (.head _))
    exact Nat.le_trans ha (Nat.le_of_lt (Heap.lt_size e))
noncomputable def Fq (N : Shared → Prop) (S : Value → Shared → Prop) : Option Value → Shared → Prop := fun o s => match o with | some v => S v s | none => N s
theorem fq_some {N : Shared → Prop} {S : Value → Shared → Prop} {v : Value} (k : S v s) : Fq N S (some v) s := k
theorem fq_none {N : Shared → Prop} {S : Value → Shared → Prop} (k : N s) : Fq N S none s := k
theorem for_itT {target : Expr} {body : List Stmt} {it : Value} {Q : Flow → Shared → Prop} (I : Nat → Shared → Prop) (n : Nat) (hE : PassesOwn (model prog w) A env E) (h0 : I n s)
    (turn : ∀ n s, I n s → wpAny (model prog w) A (pyNext it) (Fq (fun s₁ => Q .next s₁) (fun v s₁ => wpAny (model prog w) A (letOwnedTupleGo target it v) (fun _ s₁' => wpAny (model prog w) A (assign target env v) (fun _ s₂ => wpAny (model prog w) A (execs body env) (Trn I n Q) E s₂) E s₁') E s₁)) E s) :
    codeAny (model prog w) A (.forLoop target it body [] env) (fun r s' => match r with | .ok f => Q f s' | .error e => cameBackBy (model prog w) A env E e s') s := by
  refine codeAny_forLoop_any I (fun n s hI => ?_) n h0
  refine wpAny_mono (turn n s hI) (fun o s₁ q => ?_) hE
  cases o with
  | none => exact wpAny_mono (wpAny_execs_nil (Q := fun f s₃ => f = .next ∧ Q .next s₃) ⟨rfl, q⟩) (fun f s₃ ⟨e, q⟩ => by subst e; exact q) hE
  | some v =>
    refine wpAny_mono (q : wpAny _ _ _ _ _ _) (fun _ s₁' q => ?_) hE
    refine wpAny_mono q (fun _ s₂ q => ?_) hE
    refine wpAny_mono q (fun f s₃ q => ?_) hE
    cases f <;> exact q
theorem for_itTV {target : Expr} {body : List Stmt} {it : Value} {Q : Flow → Shared → Prop} (I : Nat → Shared → Prop) (n : Nat) (hE : PassesOwn (model prog w) A env E) (h0 : I n s)
    (turn : ∀ (J : Nat → Shared → Prop) (K : Flow → Shared → Prop), (∀ m s, I m s → J m s) → (∀ f s, Q f s → K f s) → ∀ n s, I n s → wpAny (model prog w) A (pyNext it) (Fq (fun s₁ => K .next s₁) (fun v s₁ => wpAny (model prog w) A (letOwnedTupleGo target it v) (fun _ s₁' => wpAny (model prog w) A (assign target env v) (fun _ s₂ => wpAny (model prog w) A (execs body env) (Trn J n K) E s₂) E s₁') E s₁)) E s) :
    codeAny (model prog w) A (.forLoop target it body [] env) (fun r s' => match r with | .ok f => Q f s' | .error e => cameBackBy (model prog w) A env E e s') s :=
  for_itT I n hE h0 (turn I Q (fun _ _ x => x) fun _ _ x => x)
theorem lot_go {elts : List Expr} {x1} {pos : Pos} {i j : Nat} {b : Addr} {Q : Unit → Shared → Prop} (D : Led hT g l h) (hi : AtI l i (it, ItO a j)) (k : Q () (At s h t)) : wpAny (model prog w) A (letOwnedTupleGo (.Tuple elts x1 pos) (.ref it) (.ref b)) Q E (At s h t) := by
  obtain ⟨o, ho, q1, q2⟩ := D.atL hi
  unfold letOwnedTupleGo
  refine wpAny_bind (wpAny_load ho ?_)
  rw [q1, q2]
  exact wpAny_pure k
theorem a_sub {o i : Expr} {pos : Pos} {v : Value} {Q : Unit → Shared → Prop} (k : wpAny M A (eval o env) (fun ov s₁ => wpAny M A (eval i env) (fun iv s₂ => wpAny M A (setItem ov iv v) Q E s₂) E s₁) E s) : wpAny M A (assign (.Subscript o i pos) env v) Q E s := by
  rw [arm_assign_Subscript]
  refine wpAny_bind (wpAny_holding (wpAny_mono k (fun ov s₁ h₁ => ?_) fun _ _ x => x))
  refine wpAny_bind (wpAny_holding (wpAny_mono h₁ (fun iv s₂ h₂ => ?_) fun _ _ x => x))
  refine wpAny_bind (wpAny_standAt (wpAny_bind (wpAny_holding (wpAny_mono h₂ (fun _ s₃ h₃ => ?_) fun _ _ x => x))))
  exact wpAny_release h₃
end
section
local macro_rules | `(tactic| walk_at "m") => `(tactic| first | (with_reducible refine lx_push (by assumption) (by assumption) ?_; intro _) | (with_reducible refine lx_line (by assumption) (by assumption) ?_; intro _) | with_reducible refine z_eq ?_ | with_reducible refine lk_asked (by assumption) ?_ | with_reducible refine lk_known (by assumption) ?_ | with_reducible refine lk_lexer (by assumption) ?_ | with_reducible refine lk_lookup (by assumption) ?_ | with_reducible refine assignInOrder_cons ?_ | with_reducible refine assignInOrder_nil ?_ | with_reducible refine wpAny_assign_Name ?_ | with_reducible_and_instances refine kwAll_cons ?_ | with_reducible_and_instances refine kwAll_nil ?_)
structure Bc where
  (bk row ask en : Addr)
  (e1 e2 : Tok)
structure Bt where
  (t1 t2 t3 t4 : Tok)
noncomputable def TupR (x : Wrd) : Obj → Prop := fun o => ∃ tk v1 v2, LnV (x.2.map (·.1)) v1 ∧ LnV (x.2.map fun p => (p.2 : Int)) v2 ∧ TupO [.str x.1 tk, v1, v2] o
noncomputable def rowF (rs : List Addr) (xs : List Wrd) : List Fact := List.zipWith (fun a x => (a, TupR x)) rs xs
noncomputable abbrev bkKs : List Str := [Str.ofString "row", Str.ofString "known", Str.ofString "waits", Str.ofString "line", Str.ofString "place", Str.ofString "asked", Str.ofString "end"]
noncomputable def Bkg (prog : Program) (w : World) (q : Bc) (e : Int × Nat) (kn wt : Nat) (ln : Int) (pl : Nat) (as : List Int) (τ : Bt) (rs : List Addr) (xs : List Wrd) : List Fact :=
  (q.bk, Dct prog w bkKs [.ref q.row, .int (kn : Int) τ.t1, .int (wt : Int) τ.t2, .int ln τ.t3, .int (pl : Int) τ.t4, .ref q.ask, .ref q.en]) :: (q.row, LstO (rs.map .ref)) :: (q.ask, LstI as) :: (q.en, TupO [.int e.1 q.e1, .int (e.2 : Int) q.e2]) :: rowF rs xs
noncomputable abbrev Bkf (prog : Program) (w : World) (q : Bc) (e : Int × Nat) (b : Bk) (τ : Bt) (rs : List Addr) : List Fact := Bkg prog w q e b.known.length b.waits.length b.line b.place b.asked τ rs b.row
theorem shown_eq (m : Str) (n : Int) : m ++ Str.ofString " (names, line " ++ Str.ofString (toString n) ++ Str.ofString ")" = shownErr m (Str.ofString "names") n := by
  have e : Str.ofString " (names, line " = Str.ofString " (" ++ Str.ofString "names" ++ Str.ofString ", line " := by decide +kernel
  have as : ∀ a b c : Str, a ++ b ++ c = a ++ (b ++ c) := fun a b c => by
    obtain ⟨a⟩ := a; obtain ⟨b⟩ := b; obtain ⟨c⟩ := c
    show (⟨(a ++ b) ++ c⟩ : Str) = ⟨a ++ (b ++ c)⟩
    rw [Array.append_assoc]
  have em : ∀ a : Str, Str.empty ++ a = a := fun a => by
    obtain ⟨a⟩ := a
    show (⟨#[] ++ a⟩ : Str) = ⟨a⟩
    simp
  unfold shownErr
  rw [em, e]
  simp only [as]
theorem fn_refused (w : World) : FnAt w 161 [Str.ofString "msg", Str.ofString "line"] [] [Str.ofString "str"] :=
  ⟨by kernel_rfl, by kernel_rfl, by kernel_rfl, by kernel_rfl, by kernel_rfl, ⟨by kernel_rfl, by kernel_rfl⟩, by kernel_rfl⟩
section
variable {prog : Program} {w : World} {hT : Heap} {mg mb : Str → Option Value} {A : Around} {E : Value → Shared → Prop} {s : Shared} {h : Heap} {t : Nat} {g l : List Fact} {es : List Env} {n : Nat}
theorem i_strI {n : Int} {u : Tok} {Q : Value → Shared → Prop} (h0 : 0 ≤ n) (h1 : n < 10 ^ 10) (k : ∀ tk t', Q (.str (Str.ofString (toString n)) tk) (At s h t')) : wpAny (model prog w) A (call (.type "str") [.int n u]) Q E (At s h t) :=
  PySem.P.str_of_int (s := At s h t) (log_small h0 h1) (k _ _)
set_option maxHeartbeats 4000000 in
theorem refused_spec {m : Str} {ln : Int} {tm tl : Tok} (T : Tp w mg mb hT) (D : Led hT g l h) (r : Rm (n + 5) A es) (hm : m.length ≤ 1000) (h0 : 0 ≤ ln) (h1 : ln < 10 ^ 10) :
    codeAny (model prog w) A (.call (.ref 161) ⟨[.str m tm, .int ln tl], []⟩) (fun res s' => ∃ h' t' a tf ts, res = .ok (.ret (.ref a)) ∧ s' = At s h' t' ∧ Led hT g ((a, LstO [.str m tm, .str (Str.ofString "names") tf, .int ln tl, .str (shownErr m (Str.ofString "names") ln) ts]) :: l) h') (At s h t) := by
  refine call_top (ns := [Str.ofString "msg", Str.ofString "line"]) (vs := [some (.str m tm), some (.int ln tl)]) D T (fn_refused w) r.room (as := [.str m tm, .int ln tl]) (.of_eq (by kernel_rfl)) rfl rfl rfl ?_
  clear D
  intro L h t D S
  have r := r.deeper (callEnv (fd 161) L 161)
  refine wpAny_mono (Q := Out (fun res s' => ∃ h' t' a tf ts, res = .ok (.ret (.ref a)) ∧ s' = At s h' t' ∧ Led hT g ((a, LstO [.str m tm, .str (Str.ofString "names") tf, .int ln tl, .str (shownErr m (Str.ofString "names") ln) ts]) :: l) h')) (E := fun _ _ => False) ?_ (fun _ _ q => q) (fun _ _ q => q.elim)
  have z1 : (Str.ofString " (names, line ").length = 14 := by decide +kernel
  have z3 : (Str.ofString ")").length = 1 := by decide +kernel
  have z4 : (Str.ofString (toString ln)).length ≤ 10 := KT.len_num h0 h1
  refine x_cons (st := _) (rest := _) ?_
  repeat walk_at "m"
  refine z_add (by rw [sizeLine_eq]; omega) ?_
  intro _ _
  repeat walk_at "m"
  refine i_strI h0 h1 ?_
  intro _ _
  repeat walk_at "m"
  refine z_add (by simp only [strLen_append]; rw [sizeLine_eq]; omega) ?_
  intro _ _
  repeat walk_at "m"
  refine z_add (by simp only [strLen_append]; rw [sizeLine_eq]; omega) ?_
  intro _ _
  repeat walk_at "m"
  refine ls_mk D ?_
  intro a h₂ D₂
  repeat walk_at "m"
  rw [shown_eq] at D₂
  exact ⟨_, _, a, _, _, rfl, rfl, D₂.tail⟩
end
end
end
local macro_rules | `(tactic| walk_at "stm") => `(tactic| first
  | with_reducible refine wpAny_Assign_Name ?_ (by with_unfolding_all rfl)
  | with_reducible refine wpAny_Return_some ?_
  | refine wpAny_Expr_any ?_
  | with_reducible refine Assign_Tuple ?_ (by with_unfolding_all rfl) (by with_unfolding_all rfl)
  | with_reducible refine x_if ?_
  | with_reducible refine wpAny_Assign_Subscript ?_ (by with_unfolding_all rfl)
  | with_reducible refine wpAny_AugAssign_Name ?_
  | with_reducible refine wpAny_AugAssign_AttributeAny ?_
  | refine wpAny_AugAssign_SubscriptAny ?_)
section
local macro_rules | `(tactic| walk_at "m") => `(tactic| first | (with_reducible refine lx_push (by assumption) (by assumption) ?_; intro _) | (with_reducible refine lx_line (by assumption) (by assumption) ?_; intro _) | with_reducible refine z_eq ?_ | with_reducible refine lk_asked (by assumption) ?_ | with_reducible refine lk_known (by assumption) ?_ | with_reducible refine lk_lexer (by assumption) ?_ | with_reducible refine lk_lookup (by assumption) ?_ | with_reducible refine assignInOrder_cons ?_ | with_reducible refine assignInOrder_nil ?_ | with_reducible refine wpAny_assign_Name ?_ | with_reducible_and_instances refine kwAll_cons ?_ | with_reducible_and_instances refine kwAll_nil ?_)
local macro_rules | `(tactic| walk_at "m") => `(tactic| first | with_reducible refine a_sub ?_)
theorem fn_reach (w : World) : FnAt w 168 [Str.ofString "book", Str.ofString "at"] [Str.ofString "word", Str.ofString "line", Str.ofString "place"] [Str.ofString "len"] :=
  ⟨by kernel_rfl, by kernel_rfl, by kernel_rfl, by kernel_rfl, by kernel_rfl, ⟨by kernel_rfl, by kernel_rfl⟩, by kernel_rfl⟩
noncomputable abbrev rcNs : List Str := [Str.ofString "book", Str.ofString "at", Str.ofString "word", Str.ofString "line", Str.ofString "place"]
theorem reach_row {e : Int × Nat} : ∀ {n : Nat} {b : Bk}, (reach e n b).row = b.row
  | 0, b => rfl
  | n + 1, b => by
    cases hw : b.waits with
    | cons y ys => rw [reach_wait hw, reach_row]; unfold Bk.row; rw [hw]; simp
    | nil =>
      cases hr : b.rest with
      | nil => rw [reach_end hw hr]; rfl
      | cons y ys => rw [reach_rest hw hr, reach_row]; unfold Bk.row; rw [hw, hr]; simp
section
variable {prog : Program} {w : World} {hT : Heap} {mg mb : Str → Option Value} {A : Around} {E : Value → Shared → Prop} {s : Shared} {h : Heap} {t : Nat} {g l : List Fact} {es : List Env} {n : Nat} {q : Bc} {e : Int × Nat} {b : Bk} {τ : Bt} {rs : List Addr} {i : Nat} {u : Tok} {kn wt pl : Nat} {ln : Int} {as : List Int} {xs : List Wrd}
theorem at_brow : AtI (Bkg prog w q e kn wt ln pl as τ rs xs ++ g) 1 (q.row, LstO (rs.map .ref)) := .s .z
theorem at_bask : AtI (Bkg prog w q e kn wt ln pl as τ rs xs ++ g) 2 (q.ask, LstI as) := .s (.s .z)
theorem at_bend : AtI (Bkg prog w q e kn wt ln pl as τ rs xs ++ g) 3 (q.en, TupO [.int e.1 q.e1, .int (e.2 : Int) q.e2]) := .s (.s (.s .z))
theorem row_at {j : Nat} {x : Wrd} {a : Addr} (D : Led hT (Bkg prog w q e kn wt ln pl as τ rs xs ++ g) l h) (h1 : rs[j]? = some a) (h2 : xs[j]? = some x) : ∃ o, h.get? a = some o ∧ TupR x o := by
  have : (a, TupR x) ∈ rowF rs xs := by
    unfold rowF
    refine List.mem_of_getElem? (i := j) ?_
    rw [List.getElem?_zipWith, h1, h2]
  exact Ldg.has D _ (List.mem_append_left _ (List.mem_append_left _ (.tail _ (.tail _ (.tail _ (.tail _ this))))))
theorem td_none {α : Type} {L : List α} {n k j : Nat} (h : (List.take n (List.drop k L))[j]? = none) : n ≤ j ∨ L.length ≤ k + j := by
  rw [List.getElem?_take] at h
  by_cases q : j < n
  · rw [if_pos q, List.getElem?_drop] at h
    exact .inr (List.getElem?_eq_none_iff.mp h)
  · exact .inl (Nat.not_lt.mp q)
theorem td_some {α : Type} {L : List α} {n k j : Nat} {x : α} (h : (List.take n (List.drop k L))[j]? = some x) : j < n ∧ L[k + j]? = some x := by
  rw [List.getElem?_take] at h
  by_cases q : j < n
  · rw [if_pos q, List.getElem?_drop] at h
    exact ⟨q, h⟩
  · rw [if_neg q] at h; cases h
theorem row_len (b : Bk) : b.known.length + (b.waits.length + b.rest.length) = b.row.length := by unfold Bk.row; simp
theorem row_w {b : Bk} {y0 ys y} (hw : b.waits = y0 :: ys) (h : b.row[b.known.length]? = some y) : y = (y0, none) := by
  unfold Bk.row at h
  rw [List.getElem?_append_right (Nat.le_refl _), Nat.sub_self, hw] at h
  exact (Option.some.inj h).symm
theorem row_r {b : Bk} {y0 ys y} (hw : b.waits = []) (hr : b.rest = y0 :: ys) (h : b.row[b.known.length]? = some y) : y = (y0.1, some y0.2) := by
  unfold Bk.row at h
  rw [List.getElem?_append_right (Nat.le_refl _), Nat.sub_self, hw, hr] at h
  exact (Option.some.inj h).symm
theorem row_w' {b : Bk} {y0 ys} (hw : b.waits = y0 :: ys) : ({ b with known := b.known ++ [(y0, none)], waits := ys } : Bk).row = b.row := by unfold Bk.row; rw [hw]; simp
theorem row_r' {b : Bk} {y0 ys} {l p} (hw : b.waits = []) (hr : b.rest = y0 :: ys) : ({ b with known := b.known ++ [(y0.1, some y0.2)], rest := ys, line := l, place := p } : Bk).row = b.row := by unfold Bk.row; rw [hw, hr]; simp
inductive RcI (prog : Program) (w : World) (hT : Heap) (q : Bc) (e : Int × Nat) (b : Bk) (rs : List Addr) (g l : List Fact) (s : Shared) (L it sl : Addr) (i : Nat) (u : Tok) (m : Nat) (s' : Shared) : Prop
  | mk (h' : Heap) (t' : Nat) (τ' : Bt) (b' : Bk) (v1 v2 v3 : Option Value) (j : Nat) (es : s' = At s h' t') (D : Led hT (Bkg prog w q e b'.known.length b'.waits.length b'.line b'.place b.asked τ' rs b.row ++ g) ((L, Frm rcNs [some (.ref q.bk), some (.int i u), v1, v2, v3]) :: (it, ItO sl j) :: (sl, LstO (List.take (i + 1 - b.known.length) (List.drop b.known.length (rs.map .ref)))) :: l) h')
    (hrow : b'.row = b.row) (hask : b'.asked = b.asked) (hkn : b'.known.length = b.known.length + j) (hre : reach e (i + 1 - b'.known.length) b' = reach e (i + 1 - b.known.length) b) (em : m = 1000 - j) (hj : j ≤ 900)
set_option maxHeartbeats 8000000 in
theorem reach_spec (T : Tp w mg mb hT) (D : Led hT (Bkf prog w q e b τ rs ++ g) l h) (r : Rm (n + 5) A es) (hi : i ≤ 100) (hrs : rs.length = b.row.length) (hrl : b.row.length ≤ 900) :
    codeAny (model prog w) A (.call (.ref 168) ⟨[.ref q.bk, .int i u], []⟩) (fun res s' => ∃ h' t' τ', res = .ok (.ret .none) ∧ s' = At s h' t' ∧ Led hT (Bkf prog w q e (reach e (i + 1 - b.known.length) b) τ' rs ++ g) l h') (At s h t) := by
  refine call_top (ns := rcNs) (vs := [some (.ref q.bk), some (.int i u), none, none, none]) D T (fn_reach w) r.room (as := [.ref q.bk, .int i u]) (.of_eq (by kernel_rfl)) rfl rfl rfl ?_
  clear D
  intro L h t D S
  have r := r.deeper (callEnv (fd 168) L 168)
  refine wpAny_mono (Q := Out (fun res s' => ∃ h' t' τ', res = .ok (.ret .none) ∧ s' = At s h' t' ∧ Led hT (Bkf prog w q e (reach e (i + 1 - b.known.length) b) τ' rs ++ g) l h')) (E := fun _ _ => False) ?_ (fun _ _ q => q) (fun _ _ q => q.elim)
  refine opqR fun R hR => ?_
  refine x_cons (st := _) (rest := _) ?_
  refine wpAny_For ?_ (by intro _; with_unfolding_all rfl)
  repeat walk_at "m"
  refine d_item D .z .z .z (by with_unfolding_all rfl) ?_
  intro _
  repeat walk_at "m"
  refine d_item D .z (.s .z) (.s .z) (by with_unfolding_all rfl) ?_
  intro _
  repeat walk_at "m"
  refine l_slice D S.abv (l_is D at_brow) (by simp; omega) (.int _ _) (.int _ _) .none (by simp) (by with_unfolding_all rfl) ?_
  clear D
  intro sl h D
  rw [show ((i : Int) + 1) = ((i + 1 : Nat) : Int) from rfl, pick_ab] at D
  obtain ⟨_, hsl, ns, rfl⟩ := D.atL (.s .z)
  refine li_iter D ⟨_, hsl, rfl, _, rfl⟩ ?_
  clear hsl D
  intro it h D
  have hml : (rs.map Value.ref).length = b.row.length := by rw [List.length_map, hrs]
  refine for_itTV (RcI prog w hT q e b rs g l s L it sl i u) _ PassesOwn.never
    ⟨h, _, τ, b, _, _, _, 0, rfl, D, rfl, rfl, rfl, rfl, rfl, Nat.zero_le _⟩ ?_
  clear D
  rintro J K hJ hK m _ ⟨h, t, τ', b', v1, v2, v3, j, rfl, D, hrow, hask, hkn, hre, rfl, hj⟩
  obtain ⟨_, hsl, ns, rfl⟩ := D.atL (.s (.s .z))
  have hkr := row_len b'
  rw [hrow] at hkr
  cases hx : (List.take (i + 1 - b.known.length) (List.drop b.known.length (rs.map Value.ref)))[j]? with
  | none =>
    have hje := td_none hx
    rw [hml] at hje
    refine li_end D S.abv r.hnd ⟨_, hsl, rfl, _, rfl⟩ hx ?_
    clear D hsl
    intro h D
    refine fq_none (hK _ _ ?_)
    repeat walk_at "m"
    refine d_item D .z .z .z (by with_unfolding_all rfl) ?_
    intro _
    repeat walk_at "m"
    refine l_len D at_brow (by rw [hml]; exact Nat.le_trans hrl (by decide)) ?_
    intro _ _
    repeat walk_at "m"
    refine b_two (fun hc => ?_) (fun hc => ?_)
    · have hlt : b.row.length ≤ i := hml ▸ Int.ofNat_le.mp (of_decide_eq_true hc)
      repeat walk_at "m"
      refine d_item D .z (.s (.s (.s (.s (.s (.s .z)))))) (.s (.s (.s (.s (.s (.s .z)))))) (by with_unfolding_all rfl) ?_
      intro _
      repeat walk_at "m"
      refine t_unp (vs := [.int e.1 q.e1, .int (e.2 : Int) q.e2]) D S.abv (D.atG at_bend) r.hnd (by with_unfolding_all rfl) (by with_unfolding_all rfl) ?_
      clear D
      intro h D
      show wpAny _ _ (assignInOrder [assign _ _, assign _ _] [_, _]) _ _ _
      repeat walk_at "m"
      refine d_set (us' := [.ref q.row, .int (b'.known.length : Int) τ'.t1, .int (b'.waits.length : Int) τ'.t2, .int e.1 q.e1, .int (b'.place : Int) τ'.t4, .ref q.ask, .ref q.en]) D .z (.s (.s (.s .z))) (.s (.s (.s .z))) rfl (by decide) .z ?_
      clear D
      intro h t D
      repeat walk_at "m"
      refine d_set (us' := [.ref q.row, .int (b'.known.length : Int) τ'.t1, .int (b'.waits.length : Int) τ'.t2, .int e.1 q.e1, .int (e.2 : Int) q.e2, .ref q.ask, .ref q.en]) D .z (.s (.s (.s (.s .z)))) (.s (.s (.s (.s .z)))) rfl (by decide) .z ?_
      clear D
      intro h t D
      repeat walk_at "m"
      have hz : b'.known.length ≤ i ∧ b'.waits.length + b'.rest.length = 0 := by clear hrl hj hi hrs hml; omega
      have hw : b'.waits = [] := List.length_eq_zero_iff.mp (Nat.eq_zero_of_add_eq_zero hz.2).1
      have hr : b'.rest = [] := List.length_eq_zero_iff.mp (Nat.eq_zero_of_add_eq_zero hz.2).2
      have hfin : reach e (i + 1 - b.known.length) b = { b' with line := e.1, place := e.2 } := by
        rw [← hre, Nat.succ_sub hz.1]
        exact reach_end hw hr
      refine hR _ _ ⟨_, _, ⟨τ'.t1, τ'.t2, q.e1, q.e2⟩, rfl, rfl, ?_⟩
      rw [hfin]
      have D₂ := D.tail.tail
      rw [← hask, ← hrow] at D₂
      exact D₂
    · have hlt : i < b.row.length := Nat.lt_of_not_le fun z => of_decide_eq_false hc (Int.ofNat_le.mpr (hml.symm ▸ z))
      repeat walk_at "m"
      have hfin : reach e (i + 1 - b.known.length) b = b' := by
        rw [← hre, Nat.sub_eq_zero_of_le (by clear hrl hj hi hrs hml hkr; omega)]; rfl
      refine hR _ _ ⟨_, _, τ', rfl, rfl, ?_⟩
      rw [hfin]
      have D₂ := D.tail.tail
      unfold Bkf
      rw [hrow, hask]
      exact D₂
  | some x =>
    obtain ⟨hjl, hx2⟩ := td_some hx
    rw [← hkn, List.getElem?_map] at hx2
    obtain ⟨a, ha, rfl⟩ := Option.map_eq_some_iff.mp hx2
    have hki : b'.known.length ≤ i := by clear hrl hj hi hrs hml hkr; omega
    have hkb : b'.known.length < b.row.length := hrs ▸ (List.getElem?_eq_some_iff.mp ha).1
    refine li_next D (.s .z) ⟨_, hsl, rfl, _, rfl⟩ hx (.s .z) ?_
    clear D hsl
    intro h D
    refine fq_some ?_
    have hj1 : j + 1 ≤ 900 := by clear hi hx hml; omega
    have hm : 1000 - (j + 1) < 1000 - j := by clear hi hrs hrl hml hki hkr hjl hkb; omega
    refine lot_go D (.s .z) ?_
    obtain ⟨y, hy⟩ : ∃ y, b.row[b'.known.length]? = some y := ⟨_, List.getElem?_eq_getElem hkb⟩
    obtain ⟨ot, hot, tk, w1, w2, hw1, hw2, hto⟩ := row_at D ha hy
    refine t_unp (vs := [.str y.1 tk, w1, w2]) D S.abv ⟨ot, hot, hto⟩ r.hnd (by with_unfolding_all rfl) (by with_unfolding_all rfl) ?_
    clear hot hto D
    intro h D
    show wpAny _ _ (assignInOrder [assign _ _, assign _ _, assign _ _] [_, _, _]) _ _ _
    repeat walk_at "m"
    have D := (by assumption : Led hT (Bkg prog w q e b'.known.length b'.waits.length b'.line b'.place b.asked τ' rs b.row ++ g) ((L, Frm rcNs [some (.ref q.bk), some (.int i u), some (.str y.1 tk), some w1, some w2]) :: _) _)
    refine d_get D .z (.s .z) (.s .z) ?_
    intro _
    repeat walk_at "m"
    rw [show ((b'.known.length : Int) + 1) = ((b'.known.length + 1 : Nat) : Int) from rfl]
    refine d_set (us' := [.ref q.row, .int ((b'.known.length + 1 : Nat) : Int) _, .int (b'.waits.length : Int) τ'.t2, .int b'.line τ'.t3, .int (b'.place : Int) τ'.t4, .ref q.ask, .ref q.en]) D .z (.s .z) (.s .z) rfl (by decide) .z ?_
    clear D
    intro h t D
    repeat walk_at "m"
    cases hw : b'.waits with
    | cons y0 ys =>
      obtain rfl := row_w hw (hrow ▸ hy)
      obtain rfl : w2 = .none := hw2
      refine is_none_none ?_
      repeat walk_at "m"
      refine b_yes rfl ?_
      repeat walk_at "m"
      refine d_get D .z (.s (.s .z)) (.s (.s .z)) ?_
      intro _
      repeat walk_at "m"
      refine PySem.P.isub_int (s := At s _ _) ?_
      rw [show ((b'.waits.length : Int) - 1) = (ys.length : Int) by rw [hw]; exact Int.add_sub_cancel (ys.length : Int) 1]
      refine d_set (us' := [.ref q.row, .int ((b'.known.length + 1 : Nat) : Int) _, .int (ys.length : Int) _, .int b'.line τ'.t3, .int (b'.place : Int) τ'.t4, .ref q.ask, .ref q.en]) D .z (.s (.s .z)) (.s (.s .z)) rfl (by decide) .z ?_
      clear D
      intro h t D
      repeat walk_at "m"
      have e1 : (b'.known ++ [((y0, none) : Wrd)]).length = b'.known.length + 1 := List.length_append
      rw [← e1] at D
      refine tr_next (m := 1000 - (j + 1)) hm (hJ _ _ ⟨h, _, ⟨_, _, τ'.t3, τ'.t4⟩, { b' with known := b'.known ++ [(y0, none)], waits := ys }, _, _, _, j + 1, rfl, D, (row_w' hw).trans hrow, hask, e1.trans (congrArg (· + 1) hkn), ?_, rfl, hj1⟩)
      rw [← hre, Nat.succ_sub hki, reach_wait hw, e1, Nat.add_sub_add_right]
    | nil =>
    cases hr : b'.rest with
    | nil => rw [hw, hr] at hkr; exact absurd hkr (Nat.ne_of_lt hkb)
    | cons y0 ys =>
      obtain rfl := row_r hw hr (hrow ▸ hy)
      obtain ⟨k1, rfl⟩ := hw1
      obtain ⟨k2, rfl⟩ := hw2
      refine is_int_none ?_
      repeat walk_at "m"
      refine b_no rfl ?_
      repeat walk_at "m"
      refine t_mk D ?_
      clear D
      intro a' h D
      refine t_unp (vs := [_, _]) D S.abv (D.atL (.s .z)) r.hnd (by with_unfolding_all rfl) (by with_unfolding_all rfl) ?_
      clear D
      intro h D
      show wpAny _ _ (assignInOrder [assign _ _, assign _ _] [_, _]) _ _ _
      repeat walk_at "m"
      refine d_set (us' := [.ref q.row, .int ((b'.known.length + 1 : Nat) : Int) _, .int (b'.waits.length : Int) τ'.t2, .int y0.2.1 k1, .int (b'.place : Int) τ'.t4, .ref q.ask, .ref q.en]) D .z (.s (.s (.s .z))) (.s (.s (.s .z))) rfl (by decide) .z ?_
      clear D
      intro h t D
      repeat walk_at "m"
      refine d_set (us' := [.ref q.row, .int ((b'.known.length + 1 : Nat) : Int) _, .int (b'.waits.length : Int) τ'.t2, .int y0.2.1 k1, .int (y0.2.2 : Int) k2, .ref q.ask, .ref q.en]) D .z (.s (.s (.s (.s .z)))) (.s (.s (.s (.s .z)))) rfl (by decide) .z ?_
      clear D
      intro h t D
      repeat walk_at "m"
      have e1 : (b'.known ++ [((y0.1, some y0.2) : Wrd)]).length = b'.known.length + 1 := List.length_append
      rw [← e1] at D
      refine tr_next (m := 1000 - (j + 1)) hm (hJ _ _ ⟨h, _, ⟨_, τ'.t2, k1, k2⟩, { b' with known := b'.known ++ [(y0.1, some y0.2)], rest := ys, line := y0.2.1, place := y0.2.2 }, _, _, _, j + 1, rfl, D.sub (.cons_cons _ (.cons _ (.refl _))), (row_r' hw hr).trans hrow, hask, e1.trans (congrArg (· + 1) hkn), ?_, rfl, hj1⟩)
      rw [← hre, Nat.succ_sub hki, reach_rest hw hr, e1, Nat.add_sub_add_right]
end
end
noncomputable def RgO (a b : Int) : Obj → Prop := fun o => ∃ t u v, o = { cls := .type "range", dict := none, data := .fields #[.int a t, .int b u, .int 1 v], slots := #[] }
noncomputable def RiO (x left : Int) : Obj → Prop := fun o => o = { cls := .type "range_iterator", dict := none, data := .fields #[rawInt x, rawInt left, rawInt 1], slots := #[] }
theorem Led.extBut {hT h h' : Heap} {g l : List Fact} {L it : Addr} {P Pi : Obj → Prop} (D : Led hT g ((L, P) :: (it, Pi) :: l) h) (ha : hT.objs.size ≤ L) (he : Heap.ExtBut it h h') : Led hT g ((L, P) :: l) h' := by
  have D₁ : Ldg hT ((it, Pi) :: (g ++ ((L, P) :: l))) h := Ldg.perm D (by
    rw [show g ++ (L, P) :: (it, Pi) :: l = (g ++ [(L, P)]) ++ (it, Pi) :: l by simp, show g ++ (L, P) :: l = (g ++ [(L, P)]) ++ l by simp]
    exact List.perm_middle)
  have ne : ∀ c ∈ g ++ ((L, P) :: l), c.1 ≠ it := fun c hc e => (List.nodup_cons.mp (by have := D₁.nd; rwa [List.map_cons] at this)).1 (List.mem_map.mpr ⟨c, hc, e⟩)
  have kf : ∀ c ∈ g ++ ((L, P) :: l), ∃ o, h'.get? c.1 = some o ∧ c.2 o := fun c hc => by
    obtain ⟨o, e, q⟩ := D₁.has c (.tail _ hc)
    exact ⟨o, he _ _ (ne c hc) e, q⟩
  refine ⟨fun b o e => he b o (fun q => ?_) (D.keep b o e), kf, (List.nodup_cons.mp (by have := D₁.nd; rwa [List.map_cons] at this)).2, fun c hc => D₁.new c (.tail _ hc), ?_⟩
  · have := D₁.new (it, Pi) (.head _)
    rw [q] at e
    rw [show hT.get? it = none from this] at e
    cases e
  · obtain ⟨o, e, _⟩ := kf (L, P) (List.mem_append_right _ (.head _))
    exact Nat.le_trans ha (Nat.le_of_lt (Heap.lt_size e))
section
variable {prog : Program} {w : World} {M : Model} {A : Around} {E : Value → Shared → Prop} {s : Shared} {h hT : Heap} {t : Nat} {g g' l l' : List Fact} {L r it : Addr} {P : Obj → Prop}
theorem rg_new {n : Int} {u : Tok} {Q : Value → Shared → Prop} {f : Fact} (D : Led hT g (f :: l) h) (k : ∀ r h' t', Led hT g (f :: (r, RgO 0 n) :: l) h' → Q (.ref r) (At s h' t')) : wpAny (model prog w) A (call (.type "range") [.int n u]) Q E (At s h t) := by
  refine call_range_1 (s := At s h t) ?_
  exact k _ _ _ (D.push2 rfl ⟨_, _, _, rfl⟩)
theorem rg_new2 {a n : Int} {u v : Tok} {Q : Value → Shared → Prop} {f : Fact} (D : Led hT g (f :: l) h) (k : ∀ r h' t', Led hT g (f :: (r, RgO a n) :: l) h' → Q (.ref r) (At s h' t')) : wpAny (model prog w) A (call (.type "range") [.int a u, .int n v]) Q E (At s h t) := by
  refine call_range_2 (s := At s h t) ?_
  exact k _ _ _ (D.push2 rfl ⟨_, _, _, rfl⟩)
theorem rg_iter {a b : Int} {i : Nat} {Q : Value → Shared → Prop} {f : Fact} (D : Led hT g (f :: l) h) (hr : AtI (f :: l) i (r, RgO a b)) (ha : 0 ≤ a) (hab : a ≤ b) (hb : b ≤ 100000) (k : ∀ it h', Led hT g (f :: (it, RiO a (b - a)) :: l) h' → Q (.ref it) (At s h' t)) : wpAny (model prog w) A (pyIter (.ref r)) Q E (At s h t) := by
  obtain ⟨_, ho, t1, t2, t3, rfl⟩ := D.atL hr
  have hs : Builtin.Range.rangeSize a b 1 = b - a := by
    rw [rangeSize_one]; split <;> omega
  refine wpAny_pyIter_range (s := At s h t) ho ?_ ?_
  · exact small_one (by omega) (by omega) (by omega) (by omega)
  · rw [hs]
    exact k _ _ (D.push2 rfl rfl)
theorem rg_next {x left : Int} {i : Nat} {Q : Option Value → Shared → Prop} (D : Led hT g l h) (hi : AtI l i (it, RiO x left)) (hl : 0 < left) (hg : SetI l i (it, RiO (x + 1) (left - 1)) l') (k : ∀ h' tk t', Led hT g l' h' → Q (some (.int x tk)) (At s h' t')) :
    wpAny (model prog w) A (pyNext (.ref it)) Q E (At s h t) := by
  obtain ⟨_, ho, rfl⟩ := D.atL hi
  exact wpAny_pyNext_range_item (s := At s h t) ho hl fun h' hit hs => k h' _ _ (D.sameL hi hg hs ⟨_, hit, rfl⟩)
theorem rg_end {x left : Int} {Q : Option Value → Shared → Prop} (D : Led hT g ((L, P) :: (it, RiO x left) :: l) h) (ha : hT.objs.size ≤ L) (hh : A.handled = none) (hl : left ≤ 0) (k : ∀ h', Led hT g ((L, P) :: l) h' → Q none (At s h' t)) :
    wpAny (model prog w) A (pyNext (.ref it)) Q E (At s h t) := by
  obtain ⟨_, ho, rfl⟩ := D.atL (.s .z)
  exact wpAny_pyNext_range_end (s := At s h t) hh ho hl fun h' he => k h' (D.extBut ha he)
end
section
local macro_rules | `(tactic| walk_at "m") => `(tactic| first | (with_reducible refine lx_push (by assumption) (by assumption) ?_; intro _) | (with_reducible refine lx_line (by assumption) (by assumption) ?_; intro _) | with_reducible refine z_eq ?_ | with_reducible refine lk_asked (by assumption) ?_ | with_reducible refine lk_known (by assumption) ?_ | with_reducible refine lk_lexer (by assumption) ?_ | with_reducible refine lk_lookup (by assumption) ?_ | with_reducible refine assignInOrder_cons ?_ | with_reducible refine assignInOrder_nil ?_ | with_reducible refine wpAny_assign_Name ?_ | with_reducible_and_instances refine kwAll_cons ?_ | with_reducible_and_instances refine kwAll_nil ?_)
local macro_rules | `(tactic| walk_at "m") => `(tactic| first | with_reducible refine a_sub ?_ | with_reducible refine wpAny_bindName ?_)
theorem fn_due (w : World) : FnAt w 175 [Str.ofString "book", Str.ofString "at", Str.ofString "wish"] [Str.ofString "step", Str.ofString "word", Str.ofString "line", Str.ofString "place", Str.ofString "last"] [Str.ofString "range", Str.ofString "_law_reach", Str.ofString "len", Str.ofString "_law_refused", Str.ofString "str", Str.ofString "int"] :=
  ⟨by kernel_rfl, by kernel_rfl, by kernel_rfl, by kernel_rfl, by kernel_rfl, ⟨by kernel_rfl, by kernel_rfl⟩, by kernel_rfl⟩
noncomputable abbrev duNs : List Str := [Str.ofString "book", Str.ofString "at", Str.ofString "wish", Str.ofString "step", Str.ofString "word", Str.ofString "line", Str.ofString "place", Str.ofString "last"]
theorem reach_known {e : Int × Nat} : ∀ {n : Nat} {b : Bk}, min (b.known.length + n) b.row.length ≤ (reach e n b).known.length
  | 0, b => by show _ ≤ b.known.length; omega
  | n + 1, b => by
    cases hw : b.waits with
    | cons y ys =>
      rw [reach_wait hw]
      refine Nat.le_trans ?_ reach_known
      have e : ({ b with known := b.known ++ [(y, none)], waits := ys } : Bk).row = b.row := by unfold Bk.row; rw [hw]; simp
      rw [e]; simp; omega
    | nil =>
      cases hr : b.rest with
      | nil =>
        rw [reach_end hw hr]
        have : b.row.length = b.known.length := by unfold Bk.row; rw [hw, hr]; simp
        show _ ≤ b.known.length
        omega
      | cons y ys =>
        rw [reach_rest hw hr]
        refine Nat.le_trans ?_ reach_known
        have e : ({ b with known := b.known ++ [(y.1, some y.2)], rest := ys, line := y.2.1, place := y.2.2 } : Bk).row = b.row := by unfold Bk.row; rw [hw, hr]; simp
        rw [e]; simp; omega
theorem askB_row {e : Int × Nat} {b : Bk} {i : Nat} : (askB e b i).row = b.row := reach_row
theorem askB_get {e : Int × Nat} {b : Bk} {i : Nat} : (askB e b i).known[i]? = b.row[i]? := by
  have h1 : (askB e b i).row = b.row := askB_row
  have h2 : min (b.known.length + (i + 1 - b.known.length)) b.row.length ≤ (askB e b i).known.length := reach_known (b := { b with asked := b.asked ++ [(i : Int)] })
  have h3 : (askB e b i).known.length ≤ b.row.length := by rw [← h1]; unfold Bk.row; simp
  by_cases h : i < b.row.length
  · rw [← h1]
    unfold Bk.row
    rw [List.getElem?_append_left (by omega)]
  · rw [List.getElem?_eq_none (by omega), List.getElem?_eq_none (by omega)]
noncomputable def Dres (prog : Program) (w : World) (hT : Heap) (q : Bc) (e : Int × Nat) (rs : List Addr) (g l : List Fact) (s : Shared) (wish : Bool) (o : Bk × Rs) : Result → Shared → Prop := fun res s' => ∃ h' t' τ' a, s' = At s h' t' ∧ res = .ok (.ret (.ref a)) ∧
  match o.2 with
  | .ok x => ∃ v, VIs wish x v ∧ Led hT (Bkf prog w q e o.1 τ' rs ++ g) ((a, TupO [v, v]) :: l) h'
  | .err msg line => ∃ tm tf tl ts, Led hT (Bkf prog w q e o.1 τ' rs ++ g) ((a, LstO [.str msg tm, .str (Str.ofString "names") tf, .int line tl, .str (shownErr msg (Str.ofString "names") line) ts]) :: l) h'
section
variable {prog : Program} {w : World} {hT : Heap} {mg mb : Str → Option Value} {A : Around} {E : Value → Shared → Prop} {s : Shared} {h : Heap} {t : Nat} {g l : List Fact} {es : List Env} {n : Nat} {q : Bc} {e : Int × Nat} {b : Bk} {τ : Bt} {rs : List Addr} {i : Nat} {u : Tok} {wish : Bool}
theorem fn_obj {F : Addr} {ps os gs : List Str} (T : Tp w mg mb hT) (N : FnAt w F ps os gs) (D : Led hT g l h) : ∃ o f, h.get? F = some o ∧ o.data = .func f := ⟨_, _, D.keep _ _ (T.X _ _ N.obj), rfl⟩
noncomputable def LnOk (e : Int × Nat) (b : Bk) : Prop := (0 ≤ e.1 ∧ e.1 < 10 ^ 9) ∧ (0 ≤ b.line ∧ b.line < 10 ^ 9) ∧ ∀ r ∈ b.rest, 0 ≤ r.2.1 ∧ r.2.1 < 10 ^ 9
theorem LnOk.reach {e : Int × Nat} : ∀ {n : Nat} {b : Bk}, LnOk e b → LnOk e (reach e n b)
  | 0, b, h => h
  | n + 1, b, h => by
    cases hw : b.waits with
    | cons y ys => rw [reach_wait hw]; exact LnOk.reach ⟨h.1, h.2.1, h.2.2⟩
    | nil =>
      cases hr : b.rest with
      | nil => rw [reach_end hw hr]; exact ⟨h.1, h.1, h.2.2⟩
      | cons y ys =>
        rw [reach_rest hw hr]
        have hq := h.2.2
        rw [hr] at hq
        exact LnOk.reach ⟨h.1, hq y (.head _), fun r hr => hq r (.tail _ hr)⟩
inductive DuI (prog : Program) (w : World) (hT : Heap) (q : Bc) (e : Int × Nat) (b : Bk) (rs : List Addr) (g l : List Fact) (s : Shared) (L it rg : Addr) (i : Nat) (wish : Bool) (m : Nat) (s' : Shared) : Prop
  | mk (h' : Heap) (t' : Nat) (τ' : Bt) (b' : Bk) (i' : Nat) (u' : Tok) (v1 v2 v3 v4 v5 : Option Value) (p : Nat) (es : s' = At s h' t') (D : Led hT (Bkf prog w q e b' τ' rs ++ g) ((L, Frm duNs [some (.ref q.bk), some (.int (i' : Nat) u'), some (.bool wish), v1, v2, v3, v4, v5]) :: (it, RiO (p : Nat) (9 - (p : Nat))) :: (rg, RgO 0 9) :: l) h')
    (hrow : b'.row = b.row) (hal : b'.asked.length ≤ 900 + p) (hi : i' ≤ 100) (hln : LnOk e b') (em : m = 9 - p) (hp : (p ≤ 8 ∧ ask e (8 - p) b' i' = ask e 8 b i) ∨ (p = 9 ∧ ∃ j uj, v5 = some (.int (j : Nat) uj) ∧ j ≤ 100 ∧ ask e 8 b i = (b', .err (aRing j) b'.line)))
theorem Dres.ok {o : Bk × Rs} {b' : Bk} {x : Wrd} {h' : Heap} {t' : Nat} {τ' : Bt} {a : Addr} {v : Value} (ho : o = (b', .ok x)) (hv : VIs wish x v) (D : Led hT (Bkf prog w q e b' τ' rs ++ g) ((a, TupO [v, v]) :: l) h') : Dres prog w hT q e rs g l s wish o (.ok (.ret (.ref a))) (At s h' t') := by
  subst ho
  exact ⟨_, _, τ', a, rfl, rfl, v, hv, D⟩
theorem Dres.err {o : Bk × Rs} {b' : Bk} {msg : Str} {line : Int} {h' : Heap} {t' : Nat} {τ' : Bt} {a : Addr} {tm tf tl ts : Tok} (ho : o = (b', .err msg line)) (D : Led hT (Bkf prog w q e b' τ' rs ++ g) ((a, LstO [.str msg tm, .str (Str.ofString "names") tf, .int line tl, .str (shownErr msg (Str.ofString "names") line) ts]) :: l) h') : Dres prog w hT q e rs g l s wish o (.ok (.ret (.ref a))) (At s h' t') := by
  subst ho
  exact ⟨_, _, τ', a, rfl, rfl, _, _, _, _, D⟩
set_option maxHeartbeats 8000000 in
theorem due_spec (T : Tp w mg mb hT) (D : Led hT (Bkf prog w q e b τ rs ++ g) l h) (r : Rm (n + 15) A es) (hi : i ≤ 100) (hrs : rs.length = b.row.length) (hrl : b.row.length ≤ 900) (hal : b.asked.length ≤ 900) (hok : ∀ x ∈ b.row, WOk x.1) (hln : LnOk e b) :
    codeAny (model prog w) A (.call (.ref 175) ⟨[.ref q.bk, .int i u, .bool wish], []⟩) (Dres prog w hT q e rs g l s wish (ask e 8 b i)) (At s h t) := by
  refine call_top (ns := duNs) (vs := [some (.ref q.bk), some (.int i u), some (.bool wish), none, none, none, none, none]) D T (fn_due w) r.room (as := [.ref q.bk, .int i u, .bool wish]) (.of_eq (by kernel_rfl)) rfl rfl rfl ?_
  clear D
  intro L h t D S
  have r := r.deeper (callEnv (fd 175) L 175)
  refine wpAny_mono (Q := Out (Dres prog w hT q e rs g l s wish (ask e 8 b i))) (E := fun _ _ => False) ?_ (fun _ _ q => q) (fun _ _ q => q.elim)
  refine opqR fun R hR => ?_
  refine x_cons (st := _) (rest := _) ?_
  refine wpAny_For ?_ (by intro _; with_unfolding_all rfl)
  repeat walk_at "m"
  refine rg_new D ?_
  clear D
  intro rg h t D
  refine rg_iter D (.s .z) (by omega) (by omega) (by omega) ?_
  clear D
  intro it h D
  have hml : (rs.map Value.ref).length = b.row.length := by rw [List.length_map, hrs]
  refine for_itV (DuI prog w hT q e b rs g l s L it rg i wish) _ PassesOwn.never
    ⟨h, _, τ, b, i, u, _, _, _, _, _, 0, rfl, D, rfl, by omega, hi, hln, rfl, .inl ⟨by omega, rfl⟩⟩ (by intro _; with_unfolding_all rfl) ?_
  clear D hln hi hal
  rintro J K hJ hK m _ ⟨h, t, τ', b', i', u', v1, v2, v3, v4, v5, p, rfl, D, hrow, hal, hi, hln, rfl, hp⟩
  rcases hp with ⟨hp8, hask⟩ | ⟨rfl, j, uj, rfl, hj, hask⟩
  · refine rg_next D (.s .z) (by omega) (.s .z) ?_
    clear D
    intro h tk t D
    refine wpAny_assign_Name ?_
    repeat walk_at "m"
    clear D
    have D := (by assumption : Led hT (Bkf prog w q e b' τ' rs ++ g) ((L, Frm duNs [some (.ref q.bk), some (.int (i' : Nat) u'), some (.bool wish), _, v2, v3, v4, v5]) :: _) _)
    refine d_item D .z (.s (.s (.s (.s (.s .z))))) (.s (.s (.s (.s (.s .z))))) (by with_unfolding_all rfl) ?_
    intro _
    obtain ⟨o, ho, ts, hts, na, rfl⟩ := D.atG at_bask
    refine l_meth ho PySem.F.slot_list_append PySem.F.type_list_append ?_
    clear ho hts
    refine c_bi' (by with_unfolding_all rfl) ?_
    repeat walk_at "m"
    refine li_append (g' := Bkf prog w q e { b' with asked := b'.asked ++ [(i' : Int)] } τ' rs ++ g) D at_bask (.s (.s .z)) (by omega) ?_
    clear D
    intro h t D
    repeat walk_at "m"
    refine c_fn (by with_unfolding_all rfl) ?_
    repeat walk_at "m"
    refine ⟨fn_obj T (fn_reach w) D, ?_⟩
    refine wpAny_call (codeAny_mono (reach_spec (n := n) T D (r.mono (by omega)) hi (by rw [show ({ b' with asked := b'.asked ++ [(i' : Int)] } : Bk).row = b'.row from rfl, hrow]; exact hrs) (by rw [show ({ b' with asked := b'.asked ++ [(i' : Int)] } : Bk).row = b'.row from rfl, hrow]; exact hrl)) ?_)
    clear D
    rintro _ _ ⟨h, t, τ₂, rfl, rfl, D⟩
    have D : Led hT (Bkf prog w q e (askB e b' i') τ₂ rs ++ g) _ h := D
    have hrow2 : (askB e b' i').row = b.row := askB_row.trans hrow
    have hln2 : LnOk e (askB e b' i') := LnOk.reach (b := { b' with asked := b'.asked ++ [(i' : Int)] }) ⟨hln.1, hln.2.1, hln.2.2⟩
    have hget : (askB e b' i').known[i']? = b.row[i']? := by rw [askB_get, hrow]
    repeat walk_at "m"
    refine d_item D .z .z .z (by with_unfolding_all rfl) ?_
    intro _
    repeat walk_at "m"
    refine l_len D at_brow (by rw [hml]; exact Nat.le_trans hrl (by decide)) ?_
    intro _ _
    repeat walk_at "m"
    refine b_two (fun hc => ?_) (fun hc => ?_)
    · have hlt : b.row.length ≤ i' := hml ▸ Int.ofNat_le.mp (of_decide_eq_true hc)
      rw [List.getElem?_eq_none hlt] at hget
      repeat walk_at "m"
      refine c_fn (by with_unfolding_all rfl) ?_
      repeat walk_at "m"
      refine i_str (by omega) ?_
      intro _ _
      repeat walk_at "m"
      refine z_add ?_ ?_
      · have := itx_len (n := i') (by omega)
        have h8 : (Str.ofString "no name ").length = 8 := by decide +kernel
        rw [h8, sizeLine_eq]; omega
      intro _ _
      repeat walk_at "m"
      refine d_item D .z (.s (.s (.s .z))) (.s (.s (.s .z))) (by with_unfolding_all rfl) ?_
      intro _
      repeat walk_at "m"
      refine ⟨fn_obj T (fn_refused w) D, ?_⟩
      refine wpAny_call (codeAny_mono (refused_spec (n := n) T D (r.mono (by omega)) (by
        have := itx_len (n := i') (by omega)
        have h8 : (Str.ofString "no name ").length = 8 := by decide +kernel
        rw [strLen_append, h8]; omega) (hln2).2.1.1 (by have := (hln2).2.1.2; omega)) ?_)
      clear D
      rintro _ _ ⟨h, t, a, tf, ts, rfl, rfl, D⟩
      repeat walk_at "m"
      exact hK _ _ (hR _ _ (Dres.err (hask.symm.trans (ask_none hget)) (D.sub (.cons_cons _ (.cons _ (.cons _ (.cons _ (.refl _))))))))
    · have hlt : i' < b.row.length := Nat.lt_of_not_le fun z => of_decide_eq_false hc (Int.ofNat_le.mpr (hml.symm ▸ z))
      obtain ⟨x, hxr⟩ : ∃ x, b.row[i']? = some x := ⟨_, List.getElem?_eq_getElem hlt⟩
      obtain ⟨a, har⟩ : ∃ a, rs[i']? = some a := ⟨_, List.getElem?_eq_getElem (hrs.symm ▸ hlt)⟩
      rw [hxr] at hget
      have hxo : WOk x.1 := hok x (List.mem_of_getElem? hxr)
      repeat walk_at "m"
      refine d_item D .z .z .z (by with_unfolding_all rfl) ?_
      intro _
      repeat walk_at "m"
      refine l_item D at_brow (x := .ref a) (by simp; omega) (by rw [List.getElem?_map, har]; rfl) (by with_unfolding_all rfl) ?_
      obtain ⟨ot, hot, tk, w1, w2, hw1, hw2, hto⟩ := row_at D har (by rw [hrow2]; exact hxr)
      refine t_unp (vs := [.str x.1 tk, w1, w2]) D S.abv ⟨ot, hot, hto⟩ r.hnd (by with_unfolding_all rfl) (by with_unfolding_all rfl) ?_
      clear hot hto D
      intro h D
      show wpAny _ _ (assignInOrder [assign _ _, assign _ _, assign _ _] [_, _, _]) _ _ _
      repeat walk_at "m"
      refine z_len (by rw [sizeLine_eq]; rcases hxo with q | ⟨d, _, q⟩ <;> rw [q] <;> first | omega | (show 1 ≤ _; omega)) ?_
      intro _ _
      repeat walk_at "m"
      clear D
      have D := (by assumption : Led hT (Bkf prog w q e (askB e b' i') τ₂ rs ++ g) ((L, Frm duNs [some (.ref q.bk), some (.int (i' : Nat) u'), some (.bool wish), _, some (.str x.1 tk), some w1, some w2, v5]) :: _) _)
      refine b_two (fun hc => ?_) (fun hc => ?_)
      · have hl2 : x.1.length ≠ 1 := by
          have : (x.1.length : Int) = 2 := of_decide_eq_true hc
          clear hrl hi hal hrow hrow2 hml hrs hlt hp8; omega
        repeat walk_at "m"
        refine b_two (fun hw => ?_) (fun hw => ?_)
        · repeat walk_at "m"
          refine t_mk D ?_
          clear D
          intro a' h D
          repeat walk_at "m"
          subst hw
          exact hK _ _ (hR _ _ (Dres.ok (hask.symm.trans (ask_two hget hl2)) hw1 (D.sub (.cons _ (.cons_cons _ (.cons _ (.cons _ (.refl _))))))))
        · repeat walk_at "m"
          refine t_mk D ?_
          clear D
          intro a' h D
          repeat walk_at "m"
          subst hw
          exact hK _ _ (hR _ _ (Dres.ok (hask.symm.trans (ask_two hget hl2)) ⟨_, rfl⟩ (D.sub (.cons _ (.cons_cons _ (.cons _ (.cons _ (.refl _))))))))
      · have hl1 : x.1.length = 1 := by
          have : ((x.1.length : Int) == 2) = false := hc
          simp at this
          rcases hxo with q | ⟨d, _, q⟩
          · omega
          · rw [q]; rfl
        obtain ⟨hd8, hdx⟩ := hxo.one hl1
        repeat walk_at "m"
        refine Assign_Tuple_swapped (names := [Str.ofString "last", Str.ofString "at"]) ?_ (by with_unfolding_all rfl) (by with_unfolding_all rfl)
        repeat walk_at "m"
        refine z_int' hdx hd8 ?_
        intro _ _
        repeat walk_at "m"
        refine t_mk D ?_
        clear D
        intro a' h D
        obtain ⟨_, hta, rfl⟩ := D.atL (.s .z)
        refine unpackItems_tuple (s := At s h _) (items := #[_, _]) r.hnd ⟨_, hta, rfl, _, rfl⟩ ?_
        intro h' hx
        have D := D.growF S.abv fun b o e => hx b o (Nat.ne_of_lt (Heap.lt_size e)) e
        clear hta
        show wpAny _ _ (assignInOrder [fun v => bindName _ _ v, fun v => bindName _ _ v] [_, _]) _ _ _
        repeat walk_at "m"
        clear D
        have D := (by assumption : Led hT (Bkf prog w q e (askB e b' i') τ₂ rs ++ g) ((L, Frm duNs [some (.ref q.bk), some (.int (dig x.1 : Nat) _), some (.bool wish), _, some (.str x.1 tk), some w1, some w2, some (.int (i' : Nat) u')]) :: (a', _) :: (it, RiO ((p : Int) + 1) (9 - (p : Int) - 1)) :: _) _)
        rw [show ((p : Int) + 1) = ((p + 1 : Nat) : Int) by omega, show (9 - (p : Int) - 1) = 9 - ((p + 1 : Nat) : Int) by omega] at D
        have hal2 : (askB e b' i').asked.length ≤ 900 + (p + 1) := by
          have : (askB e b' i').asked = b'.asked ++ [(i' : Int)] := (reach_len (e := e) (n := i' + 1 - b'.known.length) (b := { b' with asked := b'.asked ++ [(i' : Int)] })).2.2
          rw [this]; simp; omega
        refine tr_next (m := 9 - (p + 1)) (by omega) (hJ _ _ ⟨_, _, τ₂, askB e b' i', dig x.1, _, _, _, _, _, _, p + 1, rfl, D.sub (.cons_cons _ (.cons _ (.refl _))), hrow2, hal2, by omega, hln2, rfl, ?_⟩)
        by_cases hp9 : p = 8
        · subst hp9
          exact .inr ⟨rfl, i', u', rfl, hi, hask.symm.trans (ask_ring hget hl1)⟩
        · have hp7 : p + 1 ≤ 8 := Nat.lt_of_le_of_ne hp8 hp9
          refine .inl ⟨hp7, ?_⟩
          rw [← hask, show 8 - p = (8 - (p + 1)) + 1 from (Nat.succ_sub (Nat.le_of_succ_le_succ hp7)).trans (congrArg Nat.succ (Nat.succ_sub_succ 7 p).symm), ask_rec hget hl1]
  · refine rg_end D S.abv r.hnd (by omega) ?_
    clear D
    intro h D
    refine hK _ _ ?_
    show Flw _ _ .next _
    repeat walk_at "m"
    refine c_fn (by with_unfolding_all rfl) ?_
    repeat walk_at "m"
    refine i_str (by omega) ?_
    intro _ _
    repeat walk_at "m"
    refine z_add ?_ ?_
    · have := itx_len (n := j) (by omega)
      have h8 : (Str.ofString "a ring at ").length = 10 := by decide +kernel
      rw [h8, sizeLine_eq]; omega
    intro _ _
    repeat walk_at "m"
    refine d_item D .z (.s (.s (.s .z))) (.s (.s (.s .z))) (by with_unfolding_all rfl) ?_
    intro _
    repeat walk_at "m"
    refine ⟨fn_obj T (fn_refused w) D, ?_⟩
    refine wpAny_call (codeAny_mono (refused_spec (n := n) T D (r.mono (by omega)) (by
      have := itx_len (n := j) (by omega)
      have h8 : (Str.ofString "a ring at ").length = 10 := by decide +kernel
      rw [strLen_append, h8]; omega) (hln).2.1.1 (by have := (hln).2.1.2; omega)) ?_)
    clear D
    rintro _ _ ⟨h, t, a, tf, ts, rfl, rfl, D⟩
    repeat walk_at "m"
    exact hR _ _ (Dres.err hask (D.sub (.cons_cons _ (.cons _ (.cons _ (.refl _))))))
end
end
theorem strOk_app {x y : Str} (hx : PyData.strOk x = true) (hy : PyData.strOk y = true) : PyData.strOk (x ++ y) = true := by
  obtain ⟨⟨a⟩⟩ := x
  obtain ⟨⟨b⟩⟩ := y
  unfold PyData.strOk at *
  simp only [List.all_toArray, List.all_eq_true, decide_eq_true_eq] at hx hy
  show ((List.toArray a ++ List.toArray b).all fun c => decide (c < 0x110000)) = true
  simp only [List.append_toArray, List.all_toArray, List.all_eq_true, decide_eq_true_eq, List.mem_append]
  rintro c (h | h)
  · exact hx c h
  · exact hy c h
theorem strOk_of (x : String) : PyData.strOk (Str.ofString x) = true := by
  have e : (Str.ofString x).cps.toList = x.toList.map Char.toNat := signs_ofString x
  unfold PyData.strOk
  rw [← Array.all_toList, e]
  simp only [List.all_map, List.all_eq_true, Function.comp, decide_eq_true_eq]
  intro c _
  have := c.valid
  simp only [UInt32.isValidChar, Nat.isValidChar] at this
  show c.val.toNat < _
  omega
noncomputable def vd (wish : Bool) (x : Wrd) : PyData := if wish then (match x.2 with | none => .none | some p => .int p.1) else .str x.1
noncomputable def resD (wish : Bool) : Rs → PyData
  | .ok x => .tuple [vd wish x, vd wish x]
  | .err m n => .list [.str m, .str (Str.ofString "names"), .int n, .str (shownErr m (Str.ofString "names") n)]
theorem VIs.reads {h : Heap} {wish : Bool} {x : Wrd} {v : Value} (hv : VIs wish x v) : Reads h v (vd wish x) [] := by
  unfold VIs at hv
  unfold vd
  cases wish with
  | false =>
    rw [if_neg Bool.false_ne_true] at hv ⊢
    obtain ⟨tk, rfl⟩ := hv
    exact Reads.str _ _
  | true =>
    rw [if_pos rfl] at hv ⊢
    obtain ⟨a, b⟩ := x
    cases b with
    | none => obtain rfl : v = .none := hv; exact Reads.none
    | some p => obtain ⟨tk, rfl⟩ := hv; exact Reads.int _ _
theorem vd_ok {wish : Bool} {x : Wrd} (h : PyData.strOk x.1 = true) : (vd wish x).canLay0 = true ∧ (vd wish x).depth = 0 := by
  obtain ⟨a, b⟩ := x
  unfold vd
  cases wish with
  | false => exact ⟨h, rfl⟩
  | true => cases b <;> exact ⟨rfl, rfl⟩
noncomputable def RsOk : Rs → Prop
  | .ok x => PyData.strOk x.1 = true
  | .err m _ => PyData.strOk m = true
theorem resD_shaped {wish : Bool} {o : Rs} (h : RsOk o) : SeqAt.shaped (resD wish o) = true := by
  unfold SeqAt.shaped
  cases o with
  | ok x =>
    obtain ⟨h1, h2⟩ := vd_ok (wish := wish) h
    simp only [resD, PyData.canLay0, PyData.canLayAll0, PyData.depth, PyData.depthAll, h1, h2]
    decide
  | err m n =>
    have h1 : PyData.strOk (shownErr m (Str.ofString "names") n) = true := by
      unfold shownErr
      exact strOk_app (strOk_app (strOk_app (strOk_app (strOk_app (strOk_app (by decide +kernel) h) (strOk_of _)) (strOk_of _)) (strOk_of _)) (strOk_of _)) (strOk_of _)
    have h2 : PyData.strOk m = true := h
    simp only [resD, PyData.canLay0, PyData.canLayAll0, PyData.depth, PyData.depthAll, h1, h2, strOk_of]
    decide
section
variable {prog : Program} {w : World} {A : Around} {E : Value → Shared → Prop} {s : Shared} {h : Heap} {t : Nat}
theorem res_eq {wish : Bool} {o : Rs} {a b : Addr} {as bs : List Addr} {Q : Value → Shared → Prop} (h1 : Reads h (.ref a) (resD wish o) as) (h2 : Reads h (.ref b) (resD wish o) bs) (ho : RsOk o) (hu : A.units + 64 < 9900) (k : Q (.bool true) (At s h t)) :
    wpAny (model prog w) A (compareOp .Eq (.ref a) (.ref b)) Q E (At s h t) := by
  have hs := resD_shaped (wish := wish) ho
  refine eq_dataH (s := At s h t) h1 h2 hs hs hu ?_
  have hc : (resD wish o).canLay0 = true := by
    unfold SeqAt.shaped at hs
    simp only [Bool.and_eq_true] at hs
    exact hs.1
  rw [SeqAt.eqv_refl _ hc]
  exact k
theorem reads_pair {wish : Bool} {x : Wrd} {v : Value} {a : Addr} (ht : ∃ o, h.get? a = some o ∧ TupO [v, v] o) (hv : VIs wish x v) : ∃ as, Reads h (.ref a) (resD wish (.ok x)) as := by
  obtain ⟨_, ho, rfl⟩ := ht
  exact ⟨_, reads_tuple_at ho rfl rfl (ReadsAll.cons hv.reads (ReadsAll.cons hv.reads ReadsAll.nil))⟩
theorem reads_four {wish : Bool} {m : Str} {n : Int} {tm tf tl ts : Tok} {a : Addr} (ht : ∃ o, h.get? a = some o ∧ LstO [.str m tm, .str (Str.ofString "names") tf, .int n tl, .str (shownErr m (Str.ofString "names") n) ts] o) : ∃ as, Reads h (.ref a) (resD wish (.err m n)) as := by
  obtain ⟨_, ho, k, rfl⟩ := ht
  exact ⟨_, reads_list_at ho rfl rfl (ReadsAll.cons (Reads.str _ _) (ReadsAll.cons (Reads.str _ _) (ReadsAll.cons (Reads.int _ _) (ReadsAll.cons (Reads.str _ _) ReadsAll.nil))))⟩
end
section
variable {prog : Program} {w : World} {A : Around} {E : Value → Shared → Prop} {s : Shared} {h hT : Heap} {t : Nat} {g g' l : List Fact}
theorem ins_list (xs : List Value) (y : Value) (k : Nat) : (xs.toArray.extract 0 k).push y ++ xs.toArray.extract k = (xs.take k ++ y :: xs.drop k).toArray := by
  apply Array.ext'
  simp [List.extract_eq_drop_take]
  exact List.take_of_length_le (by simp)
theorem ins_call {a : Addr} {y : Value} {xs : Array Value} {n : Nat} {x : Int} {u : Tok} {Q : Value → Shared → Prop} (hl : h.get? a = some { cls := .type "list", dict := none, data := .seq xs n, slots := #[] }) (hf : ¬ (!Builtin.List.listFitsIndex x) = true) (hs : xs.size ≤ sizeLine)
    (k : Q .none (At s (h.update a (Obj.mapSeq fun xs => have k := if x < 0 then (x + ((xs.size : Nat) : Int)).toNat else min x.toNat xs.size; (xs.extract 0 k).push y ++ xs.extract k)) t)) : wpAny (model prog w) A (call (.builtin "list.insert") [.ref a, .int x u, y]) Q E (At s h t) :=
  call_meets (s := At s h t) (self := .ref a) (rest := [.int x u, y]) PySem.F.slot_list_insert ⟨_, hl, rfl⟩ PySem.F.entry_list_insert (PySem.F.args_list_insert_3 (.ref a) (.int x u) y) (AutoListH.list_insert_list_int_val_1 a xs n x u y hf hs) ⟨hl, k⟩
theorem l_insert {a : Addr} {y : Value} {xs : List Value} {i k : Nat} {x : Int} {u : Tok} {Q : Value → Shared → Prop} (D : Led hT g l h) (hi : AtI g i (a, LstO xs)) (hx : x = (k : Int)) (hk : k ≤ xs.length) (hg : SetI g i (a, LstO (xs.take k ++ y :: xs.drop k)) g') (hz : xs.length ≤ 1000)
    (kq : ∀ h' t', Led hT g' l h' → Q .none (At s h' t')) : wpAny (model prog w) A (call (.builtin "list.insert") [.ref a, .int x u, y]) Q E (At s h t) := by
  obtain ⟨n, hl⟩ := LstO.isList D hi
  have hs : xs.toArray.size ≤ sizeLine := by simp; rw [sizeLine_eq]; omega
  have hf : ¬ (!Builtin.List.listFitsIndex x) = true := by
    simp [Builtin.List.listFitsIndex]
    omega
  refine ins_call hl hf hs ?_
  refine kq _ _ (D.sameG hi hg (Heap.SameBut.update ..) ⟨_, Heap.get?_update_self _ hl rfl, ?_⟩)
  refine LstO.map ?_
  have e : min x.toNat xs.toArray.size = k := by simp; omega
  dsimp only
  rw [if_neg (by omega), e]
  exact ins_list xs y k
end
section
local macro_rules | `(tactic| walk_at "m") => `(tactic| first | (with_reducible refine lx_push (by assumption) (by assumption) ?_; intro _) | (with_reducible refine lx_line (by assumption) (by assumption) ?_; intro _) | with_reducible refine z_eq ?_ | with_reducible refine lk_asked (by assumption) ?_ | with_reducible refine lk_known (by assumption) ?_ | with_reducible refine lk_lexer (by assumption) ?_ | with_reducible refine lk_lookup (by assumption) ?_ | with_reducible refine assignInOrder_cons ?_ | with_reducible refine assignInOrder_nil ?_ | with_reducible refine wpAny_assign_Name ?_ | with_reducible_and_instances refine kwAll_cons ?_ | with_reducible_and_instances refine kwAll_nil ?_)
local macro_rules | `(tactic| walk_at "m") => `(tactic| first | with_reducible refine a_sub ?_ | with_reducible refine wpAny_bindName ?_)
theorem fn_deed (w : World) : FnAt w 187 [Str.ofString "n", Str.ofString "lexer", Str.ofString "lookup", Str.ofString "book"] [Str.ofString "act", Str.ofString "q", Str.ofString "told", Str.ofString "said"] [Str.ofString "_law_asked", Str.ofString "_law_due", Str.ofString "_law_name", Str.ofString "_get_name_info", Str.ofString "UNKNOWN"] :=
  ⟨by kernel_rfl, by kernel_rfl, by kernel_rfl, by kernel_rfl, by kernel_rfl, ⟨by kernel_rfl, by kernel_rfl⟩, by kernel_rfl⟩
noncomputable abbrev ddNs : List Str := [Str.ofString "n", Str.ofString "lexer", Str.ofString "lookup", Str.ofString "book", Str.ofString "act", Str.ofString "q", Str.ofString "told", Str.ofString "said"]
theorem ask_ok {e : Int × Nat} : ∀ {left : Nat} {b : Bk} {i : Nat}, i ≤ 100 → LnOk e b → (∀ x ∈ b.row, WOk x.1) → (∀ x ∈ b.row, PyData.strOk x.1 = true) → LnOk e (ask e left b i).1 ∧ (ask e left b i).1.row = b.row ∧ RsOk (ask e left b i).2 ∧ ∀ m ln, (ask e left b i).2 = .err m ln → m.length ≤ 100 ∧ 0 ≤ ln ∧ ln < 10 ^ 10 := by
  intro left
  induction left with
  | zero =>
    intro b i hi hl hw hs
    have h1 : LnOk e (askB e b i) := LnOk.reach (b := { b with asked := b.asked ++ [(i : Int)] }) ⟨hl.1, hl.2.1, hl.2.2⟩
    cases hk : (askB e b i).known[i]? with
    | none =>
      rw [ask_none hk]
      refine ⟨h1, askB_row, strOk_app (strOk_of _) (strOk_of _), fun m ln q => ?_⟩
      cases q
      have := itx_len (n := i) (by omega)
      have h8 : (Str.ofString "no name ").length = 8 := by decide +kernel
      exact ⟨by unfold noName; rw [strLen_append, h8]; omega, h1.2.1.1, by have := h1.2.1.2; omega⟩
    | some x =>
      have hx : x ∈ b.row := by rw [askB_get] at hk; exact List.mem_of_getElem? hk
      by_cases hx1 : x.1.length = 1
      · rw [ask_ring hk hx1]
        refine ⟨h1, askB_row, strOk_app (strOk_of _) (strOk_of _), fun m ln q => ?_⟩
        cases q
        have := itx_len (n := i) (by omega)
        have h8 : (Str.ofString "a ring at ").length = 10 := by decide +kernel
        exact ⟨by unfold aRing; rw [strLen_append, h8]; omega, h1.2.1.1, by have := h1.2.1.2; omega⟩
      · rw [ask_two hk hx1]
        exact ⟨h1, askB_row, hs x hx, fun m ln q => by cases q⟩
  | succ left ih =>
    intro b i hi hl hw hs
    have h1 : LnOk e (askB e b i) := LnOk.reach (b := { b with asked := b.asked ++ [(i : Int)] }) ⟨hl.1, hl.2.1, hl.2.2⟩
    cases hk : (askB e b i).known[i]? with
    | none =>
      rw [ask_none hk]
      refine ⟨h1, askB_row, strOk_app (strOk_of _) (strOk_of _), fun m ln q => ?_⟩
      cases q
      have := itx_len (n := i) (by omega)
      have h8 : (Str.ofString "no name ").length = 8 := by decide +kernel
      exact ⟨by unfold noName; rw [strLen_append, h8]; omega, h1.2.1.1, by have := h1.2.1.2; omega⟩
    | some x =>
      have hx : x ∈ b.row := by rw [askB_get] at hk; exact List.mem_of_getElem? hk
      by_cases hx1 : x.1.length = 1
      · rw [ask_rec hk hx1]
        have hd := ((hw x hx).one hx1).1
        have hr : (askB e b i).row = b.row := askB_row
        obtain ⟨a1, a2, a3, a4⟩ := ih (b := askB e b i) (i := dig x.1) (by omega) h1 (by rw [hr]; exact hw) (by rw [hr]; exact hs)
        exact ⟨a1, a2.trans hr, a3, a4⟩
      · rw [ask_two hk hx1]
        exact ⟨h1, askB_row, hs x hx, fun m ln q => by cases q⟩
section
variable {prog : Program} {w : World} {hT : Heap} {h : Heap} {g l : List Fact} {q : Bc} {e : Int × Nat} {b : Bk} {τ : Bt} {rs : List Addr} {c : Lc} {k : Lk} {st : St}
theorem Led.toBook (D : Led hT (Wg prog w c k st (Bkf prog w q e b τ rs ++ g)) l h) : Led hT (Bkf prog w q e b τ rs ++ Wg prog w c k st g) l h := by
  refine Ldg.perm D (List.Perm.append_right _ ?_)
  show (Lx prog w c st.σ ++ (Lkg c k st.ks st.b.asked st.ks st.b.known ++ (Bkf prog w q e b τ rs ++ g))).Perm (Bkf prog w q e b τ rs ++ (Lx prog w c st.σ ++ (Lkg c k st.ks st.b.asked st.ks st.b.known ++ g)))
  generalize Lx prog w c st.σ = X
  generalize Lkg c k st.ks st.b.asked st.ks st.b.known = Y
  generalize Bkf prog w q e b τ rs = Z
  have h1 : (X ++ (Y ++ (Z ++ g))) = (X ++ Y) ++ (Z ++ g) := by simp
  have h2 : Z ++ (X ++ (Y ++ g)) = Z ++ ((X ++ Y) ++ g) := by simp
  rw [h1, h2, ← List.append_assoc, ← List.append_assoc]
  exact List.Perm.append_right _ List.perm_append_comm
theorem Led.ofBook (D : Led hT (Bkf prog w q e b τ rs ++ Wg prog w c k st g) l h) : Led hT (Wg prog w c k st (Bkf prog w q e b τ rs ++ g)) l h := by
  refine Ldg.perm D (List.Perm.append_right _ (List.Perm.symm ?_))
  show (Lx prog w c st.σ ++ (Lkg c k st.ks st.b.asked st.ks st.b.known ++ (Bkf prog w q e b τ rs ++ g))).Perm (Bkf prog w q e b τ rs ++ (Lx prog w c st.σ ++ (Lkg c k st.ks st.b.asked st.ks st.b.known ++ g)))
  generalize Lx prog w c st.σ = X
  generalize Lkg c k st.ks st.b.asked st.ks st.b.known = Y
  generalize Bkf prog w q e b τ rs = Z
  have h1 : (X ++ (Y ++ (Z ++ g))) = (X ++ Y) ++ (Z ++ g) := by simp
  have h2 : Z ++ (X ++ (Y ++ g)) = Z ++ ((X ++ Y) ++ g) := by simp
  rw [h1, h2, ← List.append_assoc, ← List.append_assoc]
  exact List.Perm.append_right _ List.perm_append_comm
end
end
section
local macro_rules | `(tactic| walk_at "m") => `(tactic| first | (with_reducible refine lx_push (by assumption) (by assumption) ?_; intro _) | (with_reducible refine lx_line (by assumption) (by assumption) ?_; intro _) | with_reducible refine z_eq ?_ | with_reducible refine lk_asked (by assumption) ?_ | with_reducible refine lk_known (by assumption) ?_ | with_reducible refine lk_lexer (by assumption) ?_ | with_reducible refine lk_lookup (by assumption) ?_ | with_reducible refine assignInOrder_cons ?_ | with_reducible refine assignInOrder_nil ?_ | with_reducible refine wpAny_assign_Name ?_ | with_reducible_and_instances refine kwAll_cons ?_ | with_reducible_and_instances refine kwAll_nil ?_)
section
variable {prog : Program} {w : World} {hT : Heap} {mg mb : Str → Option Value} {A : Around} {E : Value → Shared → Prop} {s : Shared} {h : Heap} {t : Nat} {g l : List Fact} {es : List Env} {n : Nat}
theorem gl_unknown (T : Tp w mg mb hT) : mg (Str.ofString "UNKNOWN") = some (.ref 37) := mg_of T.X T.g (by kernel_rfl)
theorem gi_none {a v : Value} (T : Tp w mg mb hT) (D : Led hT g l h) (r : Rm (n + 5) A es) :
    codeAny (model prog w) A (.call (.ref 44) ⟨[a, .none], [(Str.ofString "line", v)]⟩) (fun res s' => ∃ h' t' tp tk, res = .ok (.ret (.ref tp)) ∧ s' = At s h' t' ∧ Led hT g ((tp, TupO [.ref 37, .str (Str.ofString "") tk]) :: l) h') (At s h t) := by
  refine call_bind (ps' := [Str.ofString "name_index", Str.ofString "get_name", Str.ofString "extrainfo"]) (os' := [Str.ofString "argval"]) (G := fun as l₁ => ∃ d t₀, as = [a, .none, .ref d] ∧ l₁ = (d, fun o => o = dictOf (kwEs w.params t₀ [(Str.ofString "line", v)]) 1) :: l) D T (fn_gi w) r.room rfl
    (fun Q' kq => gi_bind1 D Q' fun h₁ t₁ d t₀ hd D₁ => kq h₁ t₁ _ _ ⟨d, t₀, rfl, rfl⟩ rfl D₁) ?_
  clear D
  rintro _ _ L h t ⟨d, t₀, rfl, rfl⟩ D S
  have D : Led hT g ((L, Frm giNs [some a, some .none, some (.ref d), none]) :: (d, fun o => o = dictOf (kwEs w.params t₀ [(Str.ofString "line", v)]) 1) :: l) h := D
  have S : Scp hT (callEnv (fd 44) L 44) L giNs [Str.ofString "UNKNOWN"] := S
  refine wpAny_mono (Q := Out (fun res s' => ∃ h' t' tp tk, res = .ok (.ret (.ref tp)) ∧ s' = At s h' t' ∧ Led hT g ((tp, TupO [.ref 37, .str (Str.ofString "") tk]) :: l) h')) (E := fun _ _ => False) ?_ (fun _ _ q => q) (fun _ _ q => q.elim)
  refine x_cons (st := _) (rest := _) ?_
  repeat walk_at "m"
  refine isnot_none_none ?_
  repeat walk_at "m"
  refine b_no rfl ?_
  repeat walk_at "m"
  refine gv D T S .z (gl_unknown T) ?_
  repeat walk_at "m"
  refine t_mk D ?_
  intro tp h₂ D₂
  repeat walk_at "m"
  exact ⟨_, _, tp, _, rfl, rfl, D₂.sub (.cons _ (.cons_cons _ (.cons _ (.refl _))))⟩
end
end
theorem rowF_ins {rs : List Addr} {xs : List Wrd} {a : Addr} {y : Wrd} (hl : rs.length = xs.length) (k : Nat) : (rowF (rs.take k ++ a :: rs.drop k) (xs.take k ++ y :: xs.drop k)).Perm ((a, TupR y) :: rowF rs xs) := by
  unfold rowF
  have e : rs.take k ++ rs.drop k = rs := List.take_append_drop k rs
  have e' : xs.take k ++ xs.drop k = xs := List.take_append_drop k xs
  rw [List.zipWith_append (by simp [hl])]
  conv => rhs; rw [← e, ← e']
  rw [List.zipWith_append (by simp [hl])]
  exact List.perm_middle
section
local macro_rules | `(tactic| walk_at "m") => `(tactic| first | (with_reducible refine lx_push (by assumption) (by assumption) ?_; intro _) | (with_reducible refine lx_line (by assumption) (by assumption) ?_; intro _) | with_reducible refine z_eq ?_ | with_reducible refine lk_asked (by assumption) ?_ | with_reducible refine lk_known (by assumption) ?_ | with_reducible refine lk_lexer (by assumption) ?_ | with_reducible refine lk_lookup (by assumption) ?_ | with_reducible refine assignInOrder_cons ?_ | with_reducible refine assignInOrder_nil ?_ | with_reducible refine wpAny_assign_Name ?_ | with_reducible_and_instances refine kwAll_cons ?_ | with_reducible_and_instances refine kwAll_nil ?_)
local macro_rules | `(tactic| walk_at "m") => `(tactic| first | with_reducible refine a_sub ?_ | with_reducible refine wpAny_bindName ?_)
theorem meth_push (w : World) : Meth w 117 (Str.ofString "push_token") 114 := ⟨by kernel_rfl, by kernel_rfl, by kernel_rfl, by kernel_rfl, by kernel_rfl, by kernel_rfl, by kernel_rfl, by kernel_rfl⟩
theorem lexNs_push {vs : List (Option Value)} : look lexNs vs (Str.ofString "push_token") = none := look_not (by decide +kernel)
noncomputable def deed (e : Int × Nat) (n : Int) (b : Bk) : Bk := if n.fmod 4 < 2 then (ask e 8 b ((n.fdiv 4).fmod 11).toNat).1 else if n.fmod 4 = 2 then { b with waits := b.waits ++ [nm (n.fdiv 4)] } else b
theorem row_push {b : Bk} {y : Str} : ({ b with waits := b.waits ++ [y] } : Bk).row = b.row.take (b.known.length + b.waits.length) ++ (y, none) :: b.row.drop (b.known.length + b.waits.length) := by
  unfold Bk.row
  have e : b.known ++ (b.waits.map (fun x => ((x, none) : Wrd)) ++ b.rest.map fun r => (r.1, some r.2)) = (b.known ++ b.waits.map fun x => (x, none)) ++ b.rest.map fun r => (r.1, some r.2) := by simp
  have hl : b.known.length + b.waits.length = (b.known ++ b.waits.map fun x => ((x, none) : Wrd)).length := by simp
  rw [e, hl, List.take_left, List.drop_left]
  simp
noncomputable def sc : List Nat := [97, 34, 92, 32, 10, 35, 98, 44]
theorem item_digs : ∀ d : Nat, d < 8 → Txt.item digs (d : Int) = ⟨#[48 + d]⟩ := by decide +kernel
theorem item_sgns : ∀ d : Nat, d < 8 → Txt.item sgns (d : Int) = ⟨#[sc.getD d 0]⟩ := by decide +kernel
theorem nm_cases (n : Int) : (∃ d, d < 8 ∧ nm n = ⟨#[48 + d]⟩) ∨ ∃ a b, a ∈ sc ∧ b ∈ sc ∧ nm n = ⟨#[a, b]⟩ := by
  have hm : ∀ d, d < 8 → sc.getD d 0 ∈ sc := by decide
  have e8 : ∀ x : Int, ∃ d : Nat, d < 8 ∧ x.fmod 8 = (d : Int) := fun x => ⟨(x.fmod 8).toNat, by
    have := Int.fmod_nonneg_of_pos x (show (0 : Int) < 8 by decide)
    have := Int.fmod_lt_of_pos x (show (0 : Int) < 8 by decide)
    omega, by
    have := Int.fmod_nonneg_of_pos x (show (0 : Int) < 8 by decide)
    omega⟩
  unfold nm
  split
  · obtain ⟨d, hd, e⟩ := e8 (n.fdiv 3)
    exact .inl ⟨d, hd, by rw [e, item_digs d hd]⟩
  · obtain ⟨d, hd, e⟩ := e8 (n.fdiv 3)
    obtain ⟨d', hd', e'⟩ := e8 (n.fdiv 24)
    refine .inr ⟨_, _, hm d hd, hm d' hd', ?_⟩
    rw [e, e', item_sgns d hd, item_sgns d' hd']
    rfl
theorem nm_ok (n : Int) : WOk (nm n) := by
  rcases nm_cases n with ⟨d, hd, e⟩ | ⟨a, b, _, _, e⟩
  · exact .inr ⟨d, hd, e⟩
  · rw [e]; exact .inl rfl
section
variable {prog : Program} {w : World} {hT : Heap} {mg mb : Str → Option Value} {A : Around} {E : Value → Shared → Prop} {s : Shared} {h : Heap} {t : Nat} {g l : List Fact} {es : List Env} {n : Nat} {q : Bc} {e : Int × Nat} {τ : Bt} {rs : List Addr} {c : Lc} {k : Lk} {st : St} {x : Int} {u : Tok} {L : Addr} {va vq : Value}
noncomputable abbrev ddGs : List Str := [Str.ofString "_law_asked", Str.ofString "_law_due", Str.ofString "_law_name", Str.ofString "_get_name_info", Str.ofString "UNKNOWN"]
noncomputable def Edres (prog : Program) (w : World) (hT : Heap) (c : Lc) (k : Lk) (q : Bc) (e : Int × Nat) (g l : List Fact) (s : Shared) (b' : Bk) : Result → Shared → Prop := fun res s' => ∃ h' t' st' τ' rs', s' = At s h' t' ∧ res = .ok (.ret (.bool true)) ∧ st'.b = b' ∧ Sy c e st' ∧ rs'.length = b'.row.length ∧ Led hT (Wg prog w c k st' (Bkf prog w q e st'.b τ' rs' ++ g)) l h'
set_option maxHeartbeats 8000000 in
theorem deed_spec (T : Tp w mg mb hT) (hgt : prog.given.tree = none) (hx : c.text.length ≤ 1000) (D : Led hT (Wg prog w c k st (Bkf prog w q e st.b τ rs ++ g)) l h)
    (r : Rm (n + 210) A es) (F : FrsIn es l) (Y : Sy c e st) (hrs : rs.length = st.b.row.length) (hrl : st.b.row.length ≤ 800) (hal : st.b.asked.length ≤ 700) (hln : LnOk e st.b) (hso : ∀ x ∈ st.b.row, PyData.strOk x.1 = true) :
    codeAny (model prog w) A (.call (.ref 187) ⟨[.int x u, .ref c.lex, .ref k.lookF, .ref q.bk], []⟩) (Edres prog w hT c k q e g l s (deed e x st.b)) (At s h t) := by
  refine opqC fun R hR => ?_
  refine call_top (ns := ddNs) (vs := [some (.int x u), some (.ref c.lex), some (.ref k.lookF), some (.ref q.bk), none, none, none, none]) D T (fn_deed w) r.room (as := [.int x u, .ref c.lex, .ref k.lookF, .ref q.bk]) (.of_eq (by kernel_rfl)) rfl rfl rfl ?_
  clear D
  intro L h t D S
  have r := r.deeper (callEnv (fd 187) L 187)
  refine wpAny_mono (Q := Out R) (E := fun _ _ => False) ?_ (fun _ _ q => q) (fun _ _ q => q.elim)
  refine x_cons (st := _) (rest := _) ?_
  refine Assign_Tuple_swapped (names := [Str.ofString "act", Str.ofString "q"]) ?_ (by with_unfolding_all rfl) (by with_unfolding_all rfl)
  repeat walk_at "m"
  refine t_mk D ?_
  clear D
  intro a' h D
  obtain ⟨_, hta, rfl⟩ := D.atL (.s .z)
  refine unpackItems_tuple (s := At s h _) (items := #[_, _]) r.hnd ⟨_, hta, rfl, _, rfl⟩ ?_
  intro h' hxx
  have D := (D.growF S.abv fun b o e => hxx b o (Nat.ne_of_lt (Heap.lt_size e)) e).sub (.cons_cons _ (.cons _ (.refl _)))
  clear hta
  show wpAny _ _ (assignInOrder [fun v => bindName _ _ v, fun v => bindName _ _ v] [_, _]) _ _ _
  repeat walk_at "m"
  refine b_two (fun hc => ?_) (fun hc => ?_)
  · have hlt : x.fmod 4 < 2 := of_decide_eq_true hc
    repeat walk_at "m"
    have h11 : 0 ≤ (x.fdiv 4).fmod 11 ∧ (x.fdiv 4).fmod 11 < 11 := ⟨Int.fmod_nonneg_of_pos _ (by decide), Int.fmod_lt_of_pos _ (by decide)⟩
    obtain ⟨i, hii⟩ : ∃ i : Nat, (x.fdiv 4).fmod 11 = (i : Int) := ⟨((x.fdiv 4).fmod 11).toNat, by omega⟩
    have hi : i ≤ 100 := by omega
    have hdd : deed e x st.b = (ask e 8 st.b i).1 := by unfold deed; rw [if_pos hlt, hii]; rfl
    have hkl : st.b.known.length ≤ 800 ∧ st.b.waits.length ≤ 800 := by
      have := row_len st.b
      clear hal h11 hii hi hlt hrs; omega
    obtain ⟨o1, o2, o3, o4⟩ := ask_ok (left := 8) (i := i) hi hln Y.ok hso
    refine c_fn (by with_unfolding_all rfl) ?_
    repeat walk_at "m"
    rw [hii]
    clear D
    have D := (by assumption : Led hT (Wg prog w c k st (Bkf prog w q e st.b τ rs ++ g)) ((L, Frm ddNs [some (.int x u), some (.ref c.lex), some (.ref k.lookF), some (.ref q.bk), some _, some _, none, none]) :: l) _)
    refine ⟨fn_obj T (fn_asked w) D, ?_⟩
    refine wpAny_call (codeAny_mono (asked_spec (n := n) T hx D (r.mono (by omega)) (FrsIn.cons (by rw [S.kind]; intro z; cases z) rfl F) Y hi (by omega) (by omega) (by omega) o4) ?_)
    clear D
    rintro _ _ ⟨h, t, st', a, rfl, hb, Y', rfl, hm⟩
    cases ho : (ask e 8 st.b i).2 with
    | ok y =>
      rw [ho] at hm o3
      obtain ⟨v, hv, D⟩ := hm
      repeat walk_at "m"
      have D := D.swap
      repeat walk_at "m"
      refine c_fn (by with_unfolding_all rfl) ?_
      repeat walk_at "m"
      rw [hii]
      refine ⟨fn_obj T (fn_due w) D, ?_⟩
      refine wpAny_call (codeAny_mono (due_spec (n := n) T D.toBook (r.mono (by omega)) hi hrs (by omega) (by omega) Y.ok hln) ?_)
      clear D
      rintro _ _ ⟨h, t, τ', a', rfl, rfl, hm⟩
      rw [ho] at hm
      obtain ⟨v', hv', D⟩ := hm
      obtain ⟨as1, r1⟩ := reads_pair (D.atL (.s (.s .z))) hv
      obtain ⟨as2, r2⟩ := reads_pair (D.atL .z) hv'
      refine res_eq r1 r2 o3 (by have := r.uni; omega) ?_
      repeat walk_at "m"
      refine hR _ _ ⟨_, _, st', τ', rs, rfl, rfl, hb.trans hdd.symm, Y', hrs.trans ((congrArg List.length o2.symm).trans (congrArg (·.row.length) hdd.symm)), ?_⟩
      rw [← hb] at D
      exact (D.sub (.cons _ (.cons _ (.cons _ (.refl _))))).ofBook
    | err m ln =>
      rw [ho] at hm o3
      obtain ⟨tm, tf, tl, ts, D⟩ := hm
      repeat walk_at "m"
      have D := D.swap
      repeat walk_at "m"
      refine c_fn (by with_unfolding_all rfl) ?_
      repeat walk_at "m"
      rw [hii]
      refine ⟨fn_obj T (fn_due w) D, ?_⟩
      refine wpAny_call (codeAny_mono (due_spec (n := n) T D.toBook (r.mono (by omega)) hi hrs (by omega) (by omega) Y.ok hln) ?_)
      clear D
      rintro _ _ ⟨h, t, τ', a', rfl, rfl, hm⟩
      rw [ho] at hm
      obtain ⟨tm', tf', tl', ts', D⟩ := hm
      obtain ⟨as1, r1⟩ := reads_four (wish := decide (x.fmod 4 = 1)) (D.atL (.s (.s .z)))
      obtain ⟨as2, r2⟩ := reads_four (wish := decide (x.fmod 4 = 1)) (D.atL .z)
      refine res_eq r1 r2 o3 (by have := r.uni; omega) ?_
      repeat walk_at "m"
      refine hR _ _ ⟨_, _, st', τ', rs, rfl, rfl, hb.trans hdd.symm, Y', hrs.trans ((congrArg List.length o2.symm).trans (congrArg (·.row.length) hdd.symm)), ?_⟩
      rw [← hb] at D
      exact (D.sub (.cons _ (.cons _ (.cons _ (.refl _))))).ofBook
  · have hlt : ¬ x.fmod 4 < 2 := of_decide_eq_false hc
    repeat walk_at "m"
    clear D
    have D := (by assumption : Led hT (Wg prog w c k st (Bkf prog w q e st.b τ rs ++ g)) ((L, Frm ddNs [some (.int x u), some (.ref c.lex), some (.ref k.lookF), some (.ref q.bk), some _, some _, none, none]) :: l) _)
    refine b_two (fun hc => ?_) (fun hc => ?_)
    · have h2 : x.fmod 4 = 2 := by
        have : (x.fmod 4 == 2) = true := hc
        simpa using this
      have hpl : st.σ.push.length ≤ 900 := by
        have h9 : st.σ.push.length = st.b.waits.length := by rw [← Y.push, List.length_map]
        have := row_len st.b
        clear hal hlt h2 hrs; omega
      repeat walk_at "m"
      refine m_get D T (meth_push w) at_lex at_lexD lexNs_push ?_
      refine c_fn (by with_unfolding_all rfl) ?_
      repeat walk_at "m"
      refine c_fn (by with_unfolding_all rfl) ?_
      repeat walk_at "m"
      refine ⟨fn_obj T (fn_name w) D, ?_⟩
      refine wpAny_call (codeAny_mono (name_spec (k := n) T D (r.mono (by omega)) hgt) ?_)
      clear D
      rintro _ _ ⟨_, h, t, rfl, rfl, D, ⟨tn, rfl⟩⟩
      repeat walk_at "m"
      refine ⟨fn_obj T (fn_push w) D, ?_⟩
      refine wpAny_call (codeAny_mono (push_spec (k := n) T D (r.mono (by omega)) hpl) ?_)
      clear D
      rintro _ _ ⟨h, t, rfl, rfl, D⟩
      have D := Led.toBook (st := ⟨{ st.σ with push := st.σ.push ++ [(nm (x.fdiv 4), tn)] }, st.b, st.ks⟩) D
      repeat walk_at "m"
      refine d_item D .z .z .z (by with_unfolding_all rfl) ?_
      intro _
      obtain ⟨nk, hrl'⟩ := LstO.isList D at_brow
      refine l_meth hrl' PySem.F.slot_list_insert PySem.F.type_list_insert ?_
      refine c_bi' (by with_unfolding_all rfl) ?_
      repeat walk_at "m"
      refine d_item D .z (.s .z) (.s .z) (by with_unfolding_all rfl) ?_
      intro _
      repeat walk_at "m"
      refine d_item D .z (.s (.s .z)) (.s (.s .z)) (by with_unfolding_all rfl) ?_
      intro _
      repeat walk_at "m"
      refine c_fn (by with_unfolding_all rfl) ?_
      repeat walk_at "m"
      refine ⟨fn_obj T (fn_name w) D, ?_⟩
      refine wpAny_call (codeAny_mono (name_spec (k := n) T D (r.mono (by omega)) hgt) ?_)
      clear D
      rintro _ _ ⟨_, h, t, rfl, rfl, D, ⟨tm, rfl⟩⟩
      repeat walk_at "m"
      refine t_mk D ?_
      clear D
      intro ta h D
      repeat walk_at "m"
      have hK : st.b.known.length + st.b.waits.length ≤ rs.length := by
        have := row_len st.b
        clear hal hlt h2 hpl hrl; omega
      refine l_insert (k := st.b.known.length + st.b.waits.length) (g' := _ :: (q.row, LstO ((rs.map Value.ref).take (st.b.known.length + st.b.waits.length) ++ .ref ta :: (rs.map Value.ref).drop (st.b.known.length + st.b.waits.length))) :: _) D at_brow (by push_cast; rfl) (by simp; omega) (.s .z) (by simp; omega) ?_
      clear D
      intro h t D
      repeat walk_at "m"
      refine d_get D .z (.s (.s .z)) (.s (.s .z)) ?_
      intro _
      repeat walk_at "m"
      rename_i tw _
      rw [show ((st.b.waits.length : Int) + 1) = (((st.b.waits ++ [nm (x.fdiv 4)]).length : Nat) : Int) by simp]
      refine d_set (us' := [.ref q.row, .int (st.b.known.length : Int) τ.t1, .int ((st.b.waits ++ [nm (x.fdiv 4)]).length : Int) _, .int st.b.line τ.t3, .int (st.b.place : Int) τ.t4, .ref q.ask, .ref q.en]) D .z (.s (.s .z)) (.s (.s .z)) rfl (by decide) .z ?_
      clear D
      intro h t D
      repeat walk_at "m"
      have hdd : deed e x st.b = { st.b with waits := st.b.waits ++ [nm (x.fdiv 4)] } := by unfold deed; rw [if_neg hlt, if_pos h2]
      have hrw := row_push (b := st.b) (y := nm (x.fdiv 4))
      refine hR _ _ ⟨_, _, ⟨{ st.σ with push := st.σ.push ++ [(nm (x.fdiv 4), tn)] }, { st.b with waits := st.b.waits ++ [nm (x.fdiv 4)] }, st.ks⟩, ⟨τ.t1, tw, τ.t3, τ.t4⟩, rs.take (st.b.known.length + st.b.waits.length) ++ ta :: rs.drop (st.b.known.length + st.b.waits.length), rfl, rfl, hdd.symm, ?_, ?_, ?_⟩
      · refine ⟨Y.place, Y.line, ?_, Y.text, fun z hz => ?_, Y.le, Y.ks⟩
        · show (st.σ.push ++ [(nm (x.fdiv 4), tn)]).map (·.1) = st.b.waits ++ [nm (x.fdiv 4)]
          rw [List.map_append, Y.push]; rfl
        · rw [hrw] at hz
          rcases List.mem_append.mp hz with hz | hz
          · exact Y.ok z (List.mem_of_mem_take hz)
          · rcases List.mem_cons.mp hz with rfl | hz
            · exact nm_ok _
            · exact Y.ok z (List.mem_of_mem_drop hz)
      · rw [hdd, hrw]; simp; omega
      · refine Led.ofBook (b := { st.b with waits := st.b.waits ++ [nm (x.fdiv 4)] }) ?_
        have D := D.tail.weak .z .z (P' := TupR (nm (x.fdiv 4), none)) (fun o ho => ⟨tm, .none, .none, rfl, rfl, ho⟩)
        refine Ldg.perm D ?_
        unfold Bkf Bkg
        rw [hrw]
        have hp := rowF_ins (rs := rs) (xs := st.b.row) (a := ta) (y := (nm (x.fdiv 4), none)) hrs (st.b.known.length + st.b.waits.length)
        generalize hX : rowF (rs.take (st.b.known.length + st.b.waits.length) ++ ta :: rs.drop (st.b.known.length + st.b.waits.length)) (st.b.row.take (st.b.known.length + st.b.waits.length) ++ (nm (x.fdiv 4), none) :: st.b.row.drop (st.b.known.length + st.b.waits.length)) = X at hp ⊢
        simp only [List.map_append, List.map_cons, List.map_take, List.map_drop, List.cons_append]
        refine List.Perm.cons _ (List.Perm.cons _ (List.Perm.cons _ (List.Perm.cons _ ?_)))
        refine List.Perm.trans ?_ (List.Perm.append_right _ (List.Perm.append_right _ hp.symm))
        show ((rowF rs st.b.row ++ _) ++ (_ :: l)).Perm (_ :: ((rowF rs st.b.row ++ _) ++ l))
        exact List.perm_middle
    · have h2 : ¬ x.fmod 4 = 2 := by
        have : (x.fmod 4 == 2) = false := hc
        simpa using this
      have hdd : deed e x st.b = st.b := by unfold deed; rw [if_neg hlt, if_neg h2]
      repeat walk_at "m"
      refine callWith_KW (K := hd.heap_39 w.params) T.X (by kernel_rfl) (by with_unfolding_all rfl) ?_ (by with_unfolding_all rfl) (by with_unfolding_all rfl)
      repeat walk_at "m"
      refine ⟨T.X.keeps (Led.keep (by assumption)), ?_⟩
      refine wpAny_call (codeAny_mono (gi_none (n := n) T D (r.mono (by omega))) ?_)
      clear D
      rintro _ _ ⟨h, t, tp, tk, rfl, rfl, D⟩
      have D := D.swap
      refine t_unp (vs := [.ref 37, .str (Str.ofString "") tk]) D S.abv (D.atL (.s .z)) r.hnd (by with_unfolding_all rfl) (by with_unfolding_all rfl) ?_
      clear D
      intro h D
      have D := D.sub (.cons_cons _ (.cons _ (.refl _)))
      show wpAny _ _ (assignInOrder [assign _ _, assign _ _] [_, _]) _ _ _
      repeat walk_at "m"
      refine wpAny_And2 ?_
      repeat walk_at "m"
      clear D
      have D := (by assumption : Led hT (Wg prog w c k st (Bkf prog w q e st.b τ rs ++ g)) ((L, Frm ddNs [some (.int x u), some (.ref c.lex), some (.ref k.lookF), some (.ref q.bk), some _, some _, some (.ref 37), some (.str (Str.ofString "") tk)]) :: l) _)
      refine gv D T S (.s (.s (.s (.s .z)))) (gl_unknown T) ?_
      refine wpAny_is_ref_self ?_
      repeat walk_at "m"
      show wpAny _ _ (eval _ _) _ _ _
      repeat walk_at "m"
      rw [decide_eq_true rfl]
      exact hR _ _ ⟨_, _, st, τ, rs, rfl, rfl, hdd.symm, Y, hrs.trans (congrArg (·.row.length) hdd.symm), D.tail⟩
end
end
noncomputable abbrev CellO (v : Option Value) : Obj → Prop := fun o => o.data = .cell v
structure FnAtC (w : World) (F : Addr) (ps ns gs : List Str) : Prop where
  obj : (hd.heap_39 w.params).lookup F = some ⟨.type "function", none, .func (fd F), #[]⟩
  code : codeIn (hd.heap_39 w.params) (fd F).code (fd F).qualname = true
  body : (fd F).body = .stmts (bd F)
  scope : scopeOk (fd F).scope ns gs = true
  plain : (fd F).globals = mainGlobals ∧ (fd F).builtins = builtinsNs
  clo : (fd F).closure = []
section
variable {prog : Program} {w : World} {A : Around} {E : Value → Shared → Prop} {s : Shared} {h hT : Heap} {t : Nat} {env : Env} {L : Addr} {ns gs : List Str} {vs : List (Option Value)} {g l l' : List Fact} {mg mb : Str → Option Value}
theorem call_topC {R : Result → Shared → Prop} {F : Addr} {ps : List Str} {as : List Value} {cf : Addr → List Fact} (D : Led hT g l h) (T : Tp w mg mb hT) (N : FnAtC w F ps ns gs) (hroom : A.depth < recursionLimit)
    (hb : bindArgs (fd F) ⟨as, []⟩ = pure (ps.zip as))
    (hkind : ∀ L, ∀ x ∈ ps.zip as, (fd F).scope.names.lookup x.1 = some .local ∨ ((fd F).scope.names.lookup x.1 = some .cell ∧ ((cellsFrom (L + 1) (fd F).scope.names []).lookup x.1).isSome = true))
    (hm : ∀ y, bindL (fun x => (fd F).scope.names.lookup x) (ps.zip as) (fun _ => none) y = look ns vs y)
    (hnd : ∀ L, ((cellsFrom (L + 1) (fd F).scope.names []).map (·.1)).Nodup)
    (hcf : ∀ L, (cellsFrom (L + 1) (fd F).scope.names []).map (fun p => ((p.2, CellO (bindC (fun x => (fd F).scope.names.lookup x) (ps.zip as) (fun _ => none) p.1)) : Fact)) = cf L)
    (k : ∀ L h₁ t₁, Led hT g ((L, Frm ns vs) :: (cf L ++ l)) h₁ → Scp hT (callEnvC (fd F) L F) L ns gs →
      wpAny (model prog w) (A.deeper (callEnvC (fd F) L F)) (execs (bd F) (callEnvC (fd F) L F)) (fun f s' => R (.ok (.ret (match f with | .ret v => v | _ => .none))) s')
        (fun e s' => wpAny (model prog w) (A.deeper (callEnvC (fd F) L F)) (leaving (callEnvC (fd F) L F) e) (fun _ s'' => R (.error e) s'') (fun e' s'' => R (.error e') s'') s') (At s h₁ t₁)) :
    codeAny (model prog w) A (.call (.ref F) ⟨as, []⟩) R (At s h t) := by
  have ho := N.obj
  have hsc := Scp.of (hT := hT) (env := callEnvC (fd F) h.objs.size F) (L := h.objs.size) (ns := ns) (gs := gs) N.scope D.sz rfl rfl N.plain.1 N.plain.2
  refine codeAny_call_cells (s := At s h t) (fd := fd F) (body := bd F) (binds := ps.zip as) hroom (D.keep _ _ (T.X _ _ ho)) rfl (T.lim.keeps D.keep) ((codeRec_of T.X N.code).keeps D.keep) N.body hb N.clo (hkind _) ?_ hsc.cor hsc.gen hsc.kind
  intro s₁ X
  obtain ⟨h₁, t₁, rfl⟩ := X.toInCall.same
  refine k h.objs.size h₁ t₁ ?_ hsc
  have hns := X.toInCall.ns
  have hk : ∀ b o, h.get? b = some o → h₁.get? b = some o := X.toInCall.keep
  have D₁ := D.grow hk (Nat.le_of_lt hns.lt)
  have e := frm_of_ns (ns := ns) (vs := vs) hns hm
  have hge : ∀ a, h.objs.size ≤ a → hT.get? a = none := fun a ha => by
    cases q : hT.get? a with
    | none => rfl
    | some o' => exact absurd (Heap.lt_size (D.keep _ _ q)) (Nat.not_lt.mpr ha)
  have hap : (((cf h.objs.size)).map (·.1)).Nodup := by
    rw [← hcf, List.map_map]
    show List.Pairwise _ _
    rw [List.pairwise_map]
    exact X.apart
  have hin : ∀ c ∈ cf h.objs.size, h.objs.size < c.1 ∧ ∃ o, h₁.get? c.1 = some o ∧ c.2 o := fun c hc => by
    rw [← hcf] at hc
    obtain ⟨p, hp, rfl⟩ := List.mem_map.mp hc
    exact ⟨X.above p.1 p.2 hp, X.cell p.1 p.2 (lookup_of_mem (hnd _) hp)⟩
  refine Ldg.perm (l := (h.objs.size, Frm ns vs) :: (cf h.objs.size ++ (g ++ l))) ⟨D₁.keep, fun c hc => ?_, ?_, fun c hc => ?_, D₁.sz⟩ ?_
  · rcases List.mem_cons.mp hc with rfl | hc
    · exact e
    · rcases List.mem_append.mp hc with hc | hc
      · exact (hin c hc).2
      · exact Ldg.has D₁ c hc
  · have hlt : ∀ c ∈ g ++ l, c.1 < h.objs.size := fun c hc => Ldg.lt D hc
    rw [List.map_cons, List.nodup_cons]
    refine ⟨fun hm => ?_, ?_⟩
    · obtain ⟨c, hc, e⟩ := List.mem_map.mp hm
      rcases List.mem_append.mp hc with hc | hc
      · have := (hin c hc).1
        rw [e] at this
        exact Nat.lt_irrefl _ this
      · have := hlt c hc
        rw [e] at this
        exact Nat.lt_irrefl _ this
    · rw [List.map_append, List.nodup_append]
      refine ⟨hap, Ldg.nd D, fun a ha b hb q => ?_⟩
      obtain ⟨c, hc, rfl⟩ := List.mem_map.mp ha
      obtain ⟨c', hc', rfl⟩ := List.mem_map.mp hb
      have h1 := (hin c hc).1
      have h2 := hlt c' hc'
      rw [q] at h1
      exact Nat.lt_asymm h1 h2
  · rcases List.mem_cons.mp hc with rfl | hc
    · exact hge _ (Nat.le_refl _)
    · rcases List.mem_append.mp hc with hc | hc
      · exact hge _ (Nat.le_of_lt (hin c hc).1)
      · exact Ldg.new D c hc
  · show ((h.objs.size, Frm ns vs) :: (cf h.objs.size ++ (g ++ l))).Perm (g ++ ((h.objs.size, Frm ns vs) :: (cf h.objs.size ++ l)))
    have e1 : (h.objs.size, Frm ns vs) :: (cf h.objs.size ++ (g ++ l)) = (((h.objs.size, Frm ns vs) :: cf h.objs.size) ++ g) ++ l := by simp
    have e2 : g ++ ((h.objs.size, Frm ns vs) :: (cf h.objs.size ++ l)) = (g ++ ((h.objs.size, Frm ns vs) :: cf h.objs.size)) ++ l := by simp
    rw [e1, e2]
    exact List.Perm.append_right _ List.perm_append_comm
theorem ldc {M : Model} {x : Str} {pos : Pos} {c : Addr} {v : Value} {i : Nat} {Q : Value → Shared → Prop} (D : Led hT g l h) (hk : env.scope.kind = .function) (hx : env.kindOf x = some .cell ∧ (x == ("__debug__" : Str)) = false) (hc : env.cells.lookup x = some c) (hi : AtI l i (c, CellO (some v))) (k : Q v (At s h t)) :
    wpAny M A (eval (.Name x pos) env) Q E (At s h t) := wpAny_Name (wpAny_loadName_cell (s := At s h t) hk hx.1 hc (D.atL hi) k) hx.2
theorem stc {M : Model} {x : Str} {c : Addr} {v : Value} {v₀ : Option Value} {i : Nat} {Q : Unit → Shared → Prop} (D : Led hT g l h) (hk : env.scope.kind = .function) (hx : env.kindOf x = some .cell) (hc : env.cells.lookup x = some c) (hi : AtI l i (c, CellO v₀)) (hg : SetI l i (c, CellO (some v)) l')
    (k : ∀ h', Led hT g l' h' → Q () (At s h' t)) : wpAny M A (storeName env x v) Q E (At s h t) :=
  wpAny_storeName_cell (s := At s h t) hk hx hc (D.atL hi) fun h' hc' hs => k h' (D.sameL hi hg hs hc')
end
theorem Led.sameTail {hT h h' : Heap} {g l : List Fact} {C : Addr} {P : Obj → Prop} (D : Led hT g ((C, P) :: l) h) (hs : Heap.SameBut C h h') : Led hT g l h' := by
  have D₁ : Ldg hT ((C, P) :: (g ++ l)) h := Ldg.perm D List.perm_middle
  have ne : ∀ c ∈ g ++ l, c.1 ≠ C := fun c hc e => (List.nodup_cons.mp (by have := D₁.nd; rwa [List.map_cons] at this)).1 (List.mem_map.mpr ⟨c, hc, e⟩)
  refine ⟨fun b o e => ?_, fun c hc => ?_, (List.nodup_cons.mp (by have := D₁.nd; rwa [List.map_cons] at this)).2, fun c hc => D₁.new c (.tail _ hc), by rw [hs.1]; exact D.sz⟩
  · refine (hs.2 b fun q => ?_).trans (D.keep b o e)
    have := D₁.new (C, P) (.head _)
    rw [q] at e
    rw [show hT.get? C = none from this] at e
    cases e
  · obtain ⟨o, e, q⟩ := D₁.has c (.tail _ hc)
    exact ⟨o, (hs.2 _ (ne c hc)).trans e, q⟩
theorem look_nones : ∀ (cns : List Str) (y : Str), look cns (cns.map fun _ => none) y = none
  | [], _ => rfl
  | a :: r, y => by
    simp only [List.map_cons, look]
    split
    · rfl
    · exact look_nones r y
section
variable {prog : Program} {w : World} {A : Around} {E : Value → Shared → Prop} {s : Shared} {h hT : Heap} {t : Nat} {env : Env} {L : Addr} {g l : List Fact} {P : Obj → Prop} {mg mb : Str → Option Value}
theorem lc_enter {scope : Scope} {cl : List (Str × Addr)} {cns cgs : List Str} {R : Value → Env → Shared → Prop} (D : Led hT g ((L, P) :: l) h) (ha : hT.objs.size ≤ L)
    (hcell : scope.names.all (fun x => x.2 != .cell) = true) (hsc : scopeOk (relabel scope env) cns cgs = true) (hk : scope.kind = .function) (hg : env.globals = mainGlobals) (hb : env.builtins = builtinsNs)
    (k : ∀ acc C h', Led hT g ((C, Frm cns (cns.map fun _ => none)) :: (acc, LstO []) :: (L, P) :: l) h' → Scp hT (compEnvC scope cl C env) C cns cgs → R (.ref acc) (compEnvC scope cl C env) (At s h' t)) :
    wpAny (model prog w) A (newList []) (fun acc s₃ => wpAny (model prog w) A (newFunctionEnv scope env.globals cl [] env.qual none .none (some env)) (fun cenv s₄ => R acc { cenv with scope := relabel scope env } s₄) E s₃) E (At s h t) := by
  refine wpAny_newObj_type (wpAny_newFunctionEnv (fun x hx => ?_) (by intro y hy; simp at hy) (fun h₁ hns₁ hsb₁ => ?_) hk)
  · have := List.all_eq_true.mp hcell x hx
    simpa using this
  · dsimp only at hns₁ hsb₁ ⊢
    have D₁ : Led hT g ((L, P) :: (h.objs.size, LstO []) :: l) (h.push { cls := .type "list", dict := none, data := .seq ([] : List Value).toArray }) := D.push2 rfl ⟨_, rfl⟩
    have D₁ := D₁.swap
    generalize hH2 : h.push { cls := .type "list", dict := none, data := .seq ([] : List Value).toArray } = H2 at hns₁ hsb₁ D₁ ⊢
    have keep : ∀ b o, H2.get? b = some o → h₁.get? b = some o := fun b o e => hsb₁.extBut b o (Nat.ne_of_lt (Heap.lt_size e)) (Heap.get?_push_of_some _ e)
    have D₂ := D₁.grow keep (Nat.le_of_lt hns₁.lt)
    have sc := Scp.of (hT := hT) (env := compEnvC scope cl H2.objs.size env) (L := H2.objs.size) (ns := cns) (gs := cgs) hsc D₁.sz rfl rfl hg hb
    refine k h.objs.size H2.objs.size h₁ ?_ sc
    have e : ∃ o, h₁.get? H2.objs.size = some o ∧ Frm cns (cns.map fun _ => none) o := frm_of_ns hns₁ fun y => by
      show none = look cns _ y
      exact (look_nones cns y).symm
    refine Ldg.perm (l := (H2.objs.size, Frm cns (cns.map fun _ => none)) :: (g ++ ((h.objs.size, LstO []) :: (L, P) :: l))) ⟨D₂.keep, fun c hc => ?_, ?_, fun c hc => ?_, D₂.sz⟩ (List.perm_middle).symm
    · rcases List.mem_cons.mp hc with rfl | hc
      · exact e
      · exact Ldg.has D₂ c hc
    · rw [List.map_cons, List.nodup_cons]
      refine ⟨fun hm => ?_, Ldg.nd D₁⟩
      obtain ⟨c, hc, e⟩ := List.mem_map.mp hm
      have := Ldg.lt D₁ hc
      rw [e] at this
      exact Nat.lt_irrefl _ this
    · rcases List.mem_cons.mp hc with rfl | hc
      · show hT.get? H2.objs.size = none
        cases q : hT.get? H2.objs.size with
        | none => rfl
        | some o' => exact absurd (Heap.lt_size (D₁.keep _ _ q)) (Nat.lt_irrefl _)
      · exact Ldg.new D₁ c hc
theorem lc_end {C : Addr} {cns : List Str} {vs : List (Option Value)} {Q : Value → Shared → Prop} {acc : Value} {f : Flow} (D : Led hT g ((C, Frm cns vs) :: l) h) (k : ∀ h', Led hT g l h' → Q acc (At s h' t)) : compPost (model prog w) A E none Q acc C (.ok f) (At s h t) :=
  ⟨_, D.ns .z, fun h' hs => k h' (D.sameTail hs)⟩
theorem x_lc {elt target iter : Expr} {ifs : List Expr} {scope : Scope} {pos : Pos} {cl : List (Str × Addr)} {Q : Value → Shared → Prop} {M : Model} {s : Shared} (hclos : closureFor scope env = pure cl) (hkind : scope.kind = .function) (hnames : scope.names.all (fun x => x.2 != .local || scope.names.lookup x.1 == some .local) = true) (hs : ∀ x, foldedSetIterable iter env x = pure x)
    (k : wpAny M A (eval iter env) (fun x s₁ => wpAny M A (pyIter x) (fun it s₂ => wpAny M A (newList []) (fun acc s₃ => wpAny M A (newFunctionEnv scope env.globals cl [] env.qual none .none (some env)) (fun cenv s₄ =>
      codeAny M A (.compStart (.ListComp elt [⟨target, iter, ifs, 0⟩] scope pos) 0 it acc { cenv with scope := relabel scope env }) (compPost M A E none Q acc cenv.locals) s₄) E s₃) E s₂) E s₁) E s) :
    wpAny M A (eval (.ListComp elt [⟨target, iter, ifs, 0⟩] scope pos) env) Q E s := by
  rw [eval_ListComp]
  refine wpAny_comprehension_free rfl hs hclos hkind (fun x hx hl => ?_) k
  have := List.all_eq_true.mp hnames x hx
  simpa [hl] using this
end
structure Itr (prog : Program) (w : World) (A : Around) (hT : Heap) (g K : List Fact) (it : Addr) (It : Nat → Obj → Prop) (n : Nat) (X : Nat → Value → Prop) : Prop where
  self : ∀ {j i : Nat} {s : Shared} {h : Heap} {t : Nat} {l : List Fact} {E : Value → Shared → Prop} {Q : Value → Shared → Prop}, Led hT g l h → AtI l i (it, It j) → Q (.ref it) (At s h t) → wpAny (model prog w) A (pyIter (.ref it)) Q E (At s h t)
  next : ∀ {j i : Nat} {s : Shared} {h : Heap} {t : Nat} {l l' : List Fact} {E : Value → Shared → Prop} {Q : Option Value → Shared → Prop}, j < n → (∀ c ∈ K, c ∈ g ++ l) → Led hT g l h → AtI l i (it, It j) → SetI l i (it, It (j + 1)) l' → (∀ v h' t', X j v → Led hT g l' h' → Q (some v) (At s h' t')) → wpAny (model prog w) A (pyNext (.ref it)) Q E (At s h t)
  stop : ∀ {s : Shared} {h : Heap} {t : Nat} {L : Addr} {P : Obj → Prop} {l : List Fact} {E : Value → Shared → Prop} {Q : Option Value → Shared → Prop}, hT.objs.size ≤ L → (∀ c ∈ K, c ∈ g ++ l) → Led hT g ((L, P) :: (it, It n) :: l) h → (∀ h' t', Led hT g ((L, P) :: l) h' → Q none (At s h' t')) → wpAny (model prog w) A (pyNext (.ref it)) Q E (At s h t)
section
variable {prog : Program} {w : World} {A : Around} {E : Value → Shared → Prop} {s : Shared} {h hT : Heap} {t : Nat} {env : Env} {L it : Addr} {g l l' K : List Fact} {P : Obj → Prop} {mg mb : Str → Option Value}
theorem l_appendL {a : Addr} {x : Value} {xs : List Value} {i : Nat} {Q : Value → Shared → Prop} (D : Led hT g l h) (hi : AtI l i (a, LstO xs)) (hg : SetI l i (a, LstO (xs ++ [x])) l') (hz : xs.length ≤ 1000)
    (k : ∀ h' t', Led hT g l' h' → Q .none (At s h' t')) : wpAny (model prog w) A (call (.builtin "list.append") [.ref a, x]) Q E (At s h t) := by
  obtain ⟨_, ho, n, rfl⟩ := D.atL hi
  have hT : (At s h t).TypeIs (.ref a) "list" := ⟨_, ho, rfl⟩
  refine wpAny_call_entry PySem.F.slot_list_append hT PySem.F.entry_list_append ?_ (PySem.F.args_list_append_2 _ _)
  show wpAny _ _ (updateSeq a (fun y => y.push x) >>= fun _ => ret .none) _ _ (At s h t)
  refine wpAny_bind (wpAny_updateSeq ho rfl ?_ (by simp; rw [sizeLine_eq]; omega) (by simp; rw [sizeLine_eq]; omega))
  exact wpAny_pure ⟨_, rfl, k _ _ (D.sameL hi hg (Heap.SameBut.update ..) ⟨_, Heap.get?_update_self _ ho rfl, LstO.map (by simp)⟩)⟩
theorem mem_pre {c : Fact} {g r : List Fact} (p : List Fact) (h : c ∈ g ++ r) : c ∈ g ++ (p ++ r) := by
  rcases List.mem_append.mp h with h | h
  · exact List.mem_append_left _ h
  · exact List.mem_append_right _ (List.mem_append_right _ h)
noncomputable abbrev Tst (M : Model) (A : Around) (ifs : List Expr) (env : Env) (Q : Bool → Shared → Prop) (E : Value → Shared → Prop) (s : Shared) : Prop :=
  wpAny M A (forIn ifs true fun c r => if r = true then do let ok ← isTrue c env (eval c env); pure (ForInStep.yield ok) else pure (ForInStep.yield r)) Q E s
set_option maxHeartbeats 4000000 in
theorem lc_any {elt iter : Expr} {ifs : List Expr} {nm : Str} {px pos : Pos} {scope : Scope} {cl : List (Str × Addr)} {cgs : List Str} {Q : Value → Shared → Prop} {It : Nat → Obj → Prop} {n : Nat} {X : Nat → Value → Prop} (J : Nat → List Value → List Fact → Prop)
    (I : Itr prog w A hT g K it It n X) (D : Led hT g ((L, P) :: (it, It 0) :: l) h) (hK : ∀ c ∈ K, c ∈ g ++ ((L, P) :: l)) (ha : hT.objs.size ≤ L) (hJ0 : J 0 [] []) (hJ : ∀ j ys ex, J j ys ex → ys.length ≤ 1000)
    (hcell : scope.names.all (fun x => x.2 != .cell) = true) (hsc : scopeOk (relabel scope env) [Str.ofString ".0", nm] cgs = true) (hk : scope.kind = .function) (hg : env.globals = mainGlobals) (hb : env.builtins = builtinsNs)
    (helt : ∀ C acc j v ys ex h t E', j < n → X j v → J j ys ex → Led hT g ((C, Frm [Str.ofString ".0", nm] [none, some v]) :: (acc, LstO ys) :: (it, It (j + 1)) :: (L, P) :: (l ++ ex)) h → Scp hT (compEnvC scope cl C env) C [Str.ofString ".0", nm] cgs →
      Tst (model prog w) A ifs (compEnvC scope cl C env) (fun ok s₃ => if ok = true then wpAny (model prog w) A (eval elt (compEnvC scope cl C env)) (fun y s' => ∃ h t ex', s' = At s h t ∧ Led hT g ((C, Frm [Str.ofString ".0", nm] [none, some v]) :: (acc, LstO ys) :: (it, It (j + 1)) :: (L, P) :: (l ++ ex')) h ∧ J (j + 1) (ys ++ [y]) ex') E' s₃
        else ∃ h t ex', s₃ = At s h t ∧ Led hT g ((C, Frm [Str.ofString ".0", nm] [none, some v]) :: (acc, LstO ys) :: (it, It (j + 1)) :: (L, P) :: (l ++ ex')) h ∧ J (j + 1) ys ex') E' (At s h t))
    (k : ∀ acc h t ys ex, J n ys ex → Led hT g ((L, P) :: (acc, LstO ys) :: (l ++ ex)) h → Q (.ref acc) (At s h t)) :
    wpAny (model prog w) A (newList []) (fun acc s₃ => wpAny (model prog w) A (newFunctionEnv scope env.globals cl [] env.qual none .none (some env)) (fun cenv s₄ =>
      codeAny (model prog w) A (.compStart (.ListComp elt [⟨.Name nm px, iter, ifs, 0⟩] scope pos) 0 (.ref it) acc { cenv with scope := relabel scope env }) (compPost (model prog w) A E none Q acc cenv.locals) s₄) E s₃) E (At s h t) := by
  refine lc_enter (R := fun acc cenv s₄ => codeAny (model prog w) A (.compStart (.ListComp elt [⟨.Name nm px, iter, ifs, 0⟩] scope pos) 0 (.ref it) acc cenv) (compPost (model prog w) A E none Q acc cenv.locals) s₄) (cns := [Str.ofString ".0", nm]) (cgs := cgs) D ha hcell hsc hk hg hb ?_
  clear D
  intro acc C h D S
  suffices H : codeAny (model prog w) A (.compLoop (.ListComp elt [⟨.Name nm px, iter, ifs, 0⟩] scope pos) 0 (.ref it) (.ref acc) (compEnvC scope cl C env)) (compPost (model prog w) A E none Q (.ref acc) C) (At s h t) from
    codeAny_compStart_list H (I.self D (.s (.s (.s .z))) H)
  refine codeAny_compLoop_tests (fun m s' => ∃ j h t ov ys ex, s' = At s h t ∧ m = n - j ∧ j ≤ n ∧ J j ys ex ∧ Led hT g ((C, Frm [Str.ofString ".0", nm] [none, ov]) :: (acc, LstO ys) :: (it, It j) :: (L, P) :: (l ++ ex)) h) ?_ n
    ⟨0, h, t, none, [], [], rfl, rfl, Nat.zero_le _, hJ0, Ldg.perm D (List.Perm.append_left _ (List.Perm.cons _ (List.Perm.cons _ (by rw [List.append_nil]; exact List.Perm.swap _ _ _))))⟩
  clear D
  rintro m _ ⟨j, h, t, ov, ys, ex, rfl, rfl, hj, hjy, D⟩
  have hK' : ∀ ex, ∀ c ∈ K, c ∈ g ++ ((L, P) :: (l ++ ex)) := fun ex c hc => by
    have := hK c hc
    simp only [List.mem_append, List.mem_cons] at this ⊢
    rcases this with a | a | a
    · exact .inl a
    · exact .inr (.inl a)
    · exact .inr (.inr (.inl a))
  by_cases hjl : j < n
  · refine I.next hjl (fun c hc => ?_) D (.s (.s .z)) (.s (.s .z)) ?_
    · exact mem_pre [_, _, _] (hK' ex c hc)
    clear D
    intro v h t hv D
    dsimp only
    refine wpAny_assign_Name ?_
    refine st D S (.s .z) (.s .z) ?_
    clear D
    intro h t D
    refine wpAny_mono (helt C acc j v ys ex h t _ hjl hv hjy D S) ?_ (fun _ _ q => q)
    intro ok s₃ q
    cases ok with
    | true =>
      rw [if_pos rfl] at q ⊢
      refine wpAny_mono q ?_ (fun _ _ q => q)
      rintro y _ ⟨h, t, ex', rfl, D, hj'⟩
      refine l_appendL D (.s .z) (.s .z) (hJ _ _ _ hjy) ?_
      clear D
      intro h t D
      exact ⟨n - (j + 1), by omega, j + 1, h, t, _, _, ex', rfl, rfl, by omega, hj', D⟩
    | false =>
      rw [if_neg Bool.false_ne_true] at q ⊢
      obtain ⟨h, t, ex', rfl, D, hj'⟩ := q
      exact ⟨n - (j + 1), by omega, j + 1, h, t, _, _, ex', rfl, rfl, by omega, hj', D⟩
  · have hjn : j = n := by omega
    subst hjn
    have D : Led hT g ((C, Frm [Str.ofString ".0", nm] [none, ov]) :: (it, It j) :: (acc, LstO ys) :: (L, P) :: (l ++ ex)) h := Ldg.perm D (List.Perm.append_left _ (List.Perm.cons _ (List.Perm.swap _ _ _)))
    refine I.stop S.abv (fun c hc => ?_) D ?_
    · exact mem_pre [_] (hK' ex c hc)
    clear D
    intro h t D
    exact lc_end D fun h' D => k acc h' t ys ex hjy D.swap
theorem itr_list {a : Addr} {xs : List Value} (hh : A.handled = none) : Itr prog w A hT g [(a, LstO xs)] it (ItO a) xs.length (fun j v => xs[j]? = some v) := by
  have gt : ∀ {l : List Fact} {h : Heap}, (∀ c ∈ [((a, LstO xs) : Fact)], c ∈ g ++ l) → Led hT g l h → h.IsList a xs.toArray := fun hK D => by
    obtain ⟨_, ho, n, rfl⟩ := Ldg.has D _ (hK _ (.head _))
    exact ⟨_, ho, rfl, n, rfl⟩
  refine ⟨fun D hi k => ?_, fun {j _ _ _ _ _ _ _ _} hj hK D hi hg k => ?_, fun ha hK D k => ?_⟩
  · obtain ⟨o, ho, q1, q2⟩ := D.atL hi
    exact wpAny_pyIter_listiter ⟨o, ho, q1, q2⟩ k
  · obtain ⟨x, hx⟩ : ∃ x, xs[j]? = some x := ⟨_, List.getElem?_eq_getElem hj⟩
    exact li_next D hi (gt hK D) hx hg fun h' D => k _ _ _ hx D
  · exact li_end D ha hh (gt (fun c hc => mem_pre [_, _] (hK c hc)) D) (List.getElem?_eq_none (Nat.le_refl _)) fun h' D => k _ _ D
theorem itr_rg {a b : Int} (hh : A.handled = none) (n : Nat) (hn : b - a = n) : Itr prog w A hT g [] it (fun j => RiO (a + (j : Nat)) (b - (a + (j : Nat)))) n (fun j v => ∃ tk, v = .int (a + (j : Nat)) tk) := by
  refine ⟨fun D hi k => ?_, fun {j _ _ _ _ _ _ _ _} hj _ D hi hg k => ?_, fun ha _ D k => ?_⟩
  · obtain ⟨_, ho, rfl⟩ := D.atL hi
    exact wpAny_pyIter_rangeiter (s := At _ _ _) ho k
  · refine rg_next D hi (by omega) (l' := _) (by rw [show a + (j : Int) + 1 = a + ((j + 1 : Nat) : Int) by omega, show b - (a + (j : Int)) - 1 = b - (a + ((j + 1 : Nat) : Int)) by omega]; exact hg) ?_
    exact fun h' tk t' D => k _ _ _ ⟨tk, rfl⟩ D
  · exact rg_end D ha hh (by omega) fun h' D => k _ _ D
noncomputable def SiO (x : Str) (u : Tok) (i : Nat) : Obj → Prop := fun o => o.cls = .type "str_ascii_iterator" ∧ o.data = .fields #[.str x u, .int i 0]
theorem si_iter {x : Str} {u : Tok} {c : Fact} {Q : Value → Shared → Prop} (D : Led hT g (c :: l) h) (ha : x.cps.all (· < 128) = true) (k : ∀ it h', Led hT g (c :: (it, SiO x u 0) :: l) h' → Q (.ref it) (At s h' t)) : wpAny (model prog w) A (pyIter (.str x u)) Q E (At s h t) :=
  wpAny_pyIter_ascii (s := At s h t) ha (k _ _ (D.push2 rfl ⟨rfl, rfl⟩))
theorem itr_str {x : Str} {u : Tok} (hh : A.handled = none) : Itr prog w A hT g [] it (SiO x u) x.length (fun j v => ∃ c tk, x.cps[j]? = some c ∧ v = .str ⟨#[c]⟩ tk) := by
  refine ⟨fun D hi k => ?_, fun {j _ _ _ _ _ _ _ _} hj _ D hi hg k => ?_, fun ha _ D k => ?_⟩
  · obtain ⟨o, ho, q1, q2⟩ := D.atL hi
    exact wpAny_pyIter_striter_ascii ⟨o, ho, q1, q2⟩ k
  · have hc : x.cps[j]? = some (x.cps[j]'hj) := Array.getElem?_eq_getElem hj
    obtain ⟨o, ho, q1, q2⟩ := D.atL hi
    exact wpAny_pyNext_ascii_item (s := At _ _ _) ⟨o, ho, q1, q2⟩ hc fun h' ⟨o', ho', r1, r2⟩ hs => k _ h' _ ⟨_, _, hc, rfl⟩ (D.sameL hi hg hs ⟨o', ho', r1, r2⟩)
  · have hc : x.cps[x.length]? = none := Array.getElem?_eq_none (Nat.le_refl _)
    obtain ⟨o, ho, q1, q2⟩ := D.atL (.s .z)
    exact wpAny_pyNext_ascii_end (s := At _ _ _) hh ⟨o, ho, q1, q2⟩ hc fun h' he => k h' _ (D.extBut ha he)
end
noncomputable def DctI (prog : Program) (w : World) (kvs : List (Int × Value)) : Obj → Prop := fun o => o.IsDictOf (intKind prog w) kvs
section
variable {prog : Program} {w : World} {A : Around} {E : Value → Shared → Prop} {s : Shared} {h hT : Heap} {t : Nat} {env : Env} {L it : Addr} {g l K : List Fact} {P : Obj → Prop}
theorem dc_enter {scope : Scope} {cl : List (Str × Addr)} {cns cgs : List Str} {R : Value → Env → Shared → Prop} (D : Led hT g ((L, P) :: l) h) (ha : hT.objs.size ≤ L)
    (hcell : scope.names.all (fun x => x.2 != .cell) = true) (hsc : scopeOk (relabel scope env) cns cgs = true) (hk : scope.kind = .function) (hg : env.globals = mainGlobals) (hb : env.builtins = builtinsNs)
    (k : ∀ acc C h', hT.objs.size ≤ acc → Led hT g ((C, Frm cns (cns.map fun _ => none)) :: (acc, DctI prog w []) :: (L, P) :: l) h' → Scp hT (compEnvC scope cl C env) C cns cgs → R (.ref acc) (compEnvC scope cl C env) (At s h' t)) :
    wpAny (model prog w) A newDict (fun acc s₃ => wpAny (model prog w) A (newFunctionEnv scope env.globals cl [] env.qual none .none (some env)) (fun cenv s₄ => R acc { cenv with scope := relabel scope env } s₄) E s₃) E (At s h t) := by
  refine wpAny_newObj_type (wpAny_newFunctionEnv (fun x hx => ?_) (by intro y hy; simp at hy) (fun h₁ hns₁ hsb₁ => ?_) hk)
  · have := List.all_eq_true.mp hcell x hx
    simpa using this
  · dsimp only at hns₁ hsb₁ ⊢
    have he : DctI prog w [] ({ cls := .type "dict", dict := none, data := .dict #[] } : Obj) := by
      obtain ⟨o, ho, q⟩ := Heap.dictOf_iff.mp (Heap.DictOf.new (knd := intKind prog w) h)
      rw [Heap.get?_push_size _ rfl] at ho
      cases ho
      exact q
    have D₁ : Led hT g ((L, P) :: (h.objs.size, DctI prog w []) :: l) (h.push { cls := .type "dict", dict := none, data := .dict #[] }) := D.push2 rfl he
    have D₁ := D₁.swap
    generalize hH2 : h.push { cls := .type "dict", dict := none, data := .dict #[] } = H2 at hns₁ hsb₁ D₁ ⊢
    have keep : ∀ b o, H2.get? b = some o → h₁.get? b = some o := fun b o e => hsb₁.extBut b o (Nat.ne_of_lt (Heap.lt_size e)) (Heap.get?_push_of_some _ e)
    have D₂ := D₁.grow keep (Nat.le_of_lt hns₁.lt)
    have sc := Scp.of (hT := hT) (env := compEnvC scope cl H2.objs.size env) (L := H2.objs.size) (ns := cns) (gs := cgs) hsc D₁.sz rfl rfl hg hb
    refine k h.objs.size H2.objs.size h₁ D.sz ?_ sc
    have e : ∃ o, h₁.get? H2.objs.size = some o ∧ Frm cns (cns.map fun _ => none) o := frm_of_ns hns₁ fun y => by
      show none = look cns _ y
      exact (look_nones cns y).symm
    refine Ldg.perm (l := (H2.objs.size, Frm cns (cns.map fun _ => none)) :: (g ++ ((h.objs.size, DctI prog w []) :: (L, P) :: l))) ⟨D₂.keep, fun c hc => ?_, ?_, fun c hc => ?_, D₂.sz⟩ (List.perm_middle).symm
    · rcases List.mem_cons.mp hc with rfl | hc
      · exact e
      · exact Ldg.has D₂ c hc
    · rw [List.map_cons, List.nodup_cons]
      refine ⟨fun hm => ?_, Ldg.nd D₁⟩
      obtain ⟨c, hc, e⟩ := List.mem_map.mp hm
      have := Ldg.lt D₁ hc
      rw [e] at this
      exact Nat.lt_irrefl _ this
    · rcases List.mem_cons.mp hc with rfl | hc
      · show hT.get? H2.objs.size = none
        cases q : hT.get? H2.objs.size with
        | none => rfl
        | some o' => exact absurd (Heap.lt_size (D₁.keep _ _ q)) (Nat.lt_irrefl _)
      · exact Ldg.new D₁ c hc
theorem x_dc {M : Model} {kx vx target iter : Expr} {ifs : List Expr} {scope : Scope} {pos : Pos} {cl : List (Str × Addr)} {Q : Value → Shared → Prop} {s : Shared} (hclos : closureFor scope env = pure cl) (hkind : scope.kind = .function) (hnames : scope.names.all (fun x => x.2 != .local || scope.names.lookup x.1 == some .local) = true) (hs : ∀ x, foldedSetIterable iter env x = pure x)
    (k : wpAny M A (eval iter env) (fun x s₁ => wpAny M A (pyIter x) (fun it s₂ => wpAny M A newDict (fun acc s₃ => wpAny M A (newFunctionEnv scope env.globals cl [] env.qual none .none (some env)) (fun cenv s₄ =>
      codeAny M A (.compStart (.DictComp kx vx [⟨target, iter, ifs, 0⟩] scope pos) 0 it acc { cenv with scope := relabel scope env }) (compPost M A E none Q acc cenv.locals) s₄) E s₃) E s₂) E s₁) E s) :
    wpAny M A (eval (.DictComp kx vx [⟨target, iter, ifs, 0⟩] scope pos) env) Q E s := by
  rw [arm_eval_DictComp]
  refine wpAny_comprehension_free (use := none) rfl hs hclos hkind (fun x hx hl => ?_) k
  have := List.all_eq_true.mp hnames x hx
  simpa [hl] using this
set_option maxHeartbeats 4000000 in
theorem dc_any {kx vx iter : Expr} {nm : Str} {px pos : Pos} {scope : Scope} {cl : List (Str × Addr)} {cgs : List Str} {Q : Value → Shared → Prop} {It : Nat → Obj → Prop} {n : Nat} {X : Nat → Value → Prop} (J : Nat → List (Int × Value) → Prop)
    (I : Itr prog w A hT g K it It n X) (D : Led hT g ((L, P) :: (it, It 0) :: l) h) (hK : ∀ c ∈ K, c ∈ g ++ ((L, P) :: l)) (ha : hT.objs.size ≤ L) (hJ0 : J 0 []) (hJ : ∀ j kvs, J j kvs → kvs.length ≤ 1000)
    (hcell : scope.names.all (fun x => x.2 != .cell) = true) (hsc : scopeOk (relabel scope env) [Str.ofString ".0", nm] cgs = true) (hk : scope.kind = .function) (hg : env.globals = mainGlobals) (hb : env.builtins = builtinsNs)
    (helt : ∀ C acc j v kvs h t E', j < n → X j v → J j kvs → Led hT g ((C, Frm [Str.ofString ".0", nm] [none, some v]) :: (acc, DctI prog w kvs) :: (it, It (j + 1)) :: (L, P) :: l) h → Scp hT (compEnvC scope cl C env) C [Str.ofString ".0", nm] cgs →
      wpAny (model prog w) A (eval kx (compEnvC scope cl C env)) (fun kv s₄ => wpAny (model prog w) A (eval vx (compEnvC scope cl C env)) (fun vv s₅ => ∃ h t i tk, s₅ = At s h t ∧ kv = .int i tk ∧
        Led hT g ((C, Frm [Str.ofString ".0", nm] [none, some v]) :: (acc, DctI prog w kvs) :: (it, It (j + 1)) :: (L, P) :: l) h ∧ J (j + 1) (stored kvs i vv)) E' s₄) E' (At s h t))
    (k : ∀ acc h t kvs, hT.objs.size ≤ acc → J n kvs → Led hT g ((L, P) :: (acc, DctI prog w kvs) :: l) h → Q (.ref acc) (At s h t)) :
    wpAny (model prog w) A newDict (fun acc s₃ => wpAny (model prog w) A (newFunctionEnv scope env.globals cl [] env.qual none .none (some env)) (fun cenv s₄ =>
      codeAny (model prog w) A (.compStart (.DictComp kx vx [⟨.Name nm px, iter, [], 0⟩] scope pos) 0 (.ref it) acc { cenv with scope := relabel scope env }) (compPost (model prog w) A E none Q acc cenv.locals) s₄) E s₃) E (At s h t) := by
  refine dc_enter (R := fun acc cenv s₄ => codeAny (model prog w) A (.compStart (.DictComp kx vx [⟨.Name nm px, iter, [], 0⟩] scope pos) 0 (.ref it) acc cenv) (compPost (model prog w) A E none Q acc cenv.locals) s₄) (cns := [Str.ofString ".0", nm]) (cgs := cgs) D ha hcell hsc hk hg hb ?_
  clear D
  intro acc C h hac D S
  suffices H : codeAny (model prog w) A (.compLoop (.DictComp kx vx [⟨.Name nm px, iter, [], 0⟩] scope pos) 0 (.ref it) (.ref acc) (compEnvC scope cl C env)) (compPost (model prog w) A E none Q (.ref acc) C) (At s h t) from
    codeAny_compStart_dict H (I.self D (.s (.s (.s .z))) H)
  refine codeAny_compLoop_testsD (fun m s' => ∃ j h t ov kvs, s' = At s h t ∧ m = n - j ∧ j ≤ n ∧ J j kvs ∧ Led hT g ((C, Frm [Str.ofString ".0", nm] [none, ov]) :: (acc, DctI prog w kvs) :: (it, It j) :: (L, P) :: l) h) ?_ n
    ⟨0, h, t, none, [], rfl, rfl, Nat.zero_le _, hJ0, Ldg.perm D (List.Perm.append_left _ (List.Perm.cons _ (List.Perm.cons _ (List.Perm.swap _ _ _))))⟩
  clear D
  rintro m _ ⟨j, h, t, ov, kvs, rfl, rfl, hj, hjy, D⟩
  by_cases hjl : j < n
  · refine I.next hjl (fun c hc => ?_) D (.s (.s .z)) (.s (.s .z)) ?_
    · exact mem_pre [_, _, _] (hK c hc)
    clear D
    intro v h t hv D
    dsimp only
    refine wpAny_assign_Name ?_
    refine st D S (.s .z) (.s .z) ?_
    clear D
    intro h t D
    refine wpAny_tests_nil ?_
    rw [if_pos rfl]
    refine wpAny_mono (helt C acc j v kvs h t _ hjl hv hjy D S) ?_ (fun _ _ q => q)
    intro kv s₄ q
    refine wpAny_mono q ?_ (fun _ _ q => q)
    rintro vv _ ⟨h, t, i, tk, rfl, rfl, D, hj'⟩
    have z : h.DictOf (intKind prog w) acc kvs := Heap.dictOf_iff.mpr (D.atL (.s .z))
    refine wpAny_dictSet_pairs (s := At s h t) (knd := intKind prog w) (intKind_is prog w i tk) z (fun h' z' hs => ?_) (by have := hJ _ _ hjy; rw [sizeLine_eq]; omega)
    exact ⟨n - (j + 1), by omega, j + 1, h', _, _, _, rfl, rfl, by omega, hj', D.sameL (.s .z) (.s .z) hs (Heap.dictOf_iff.mp z')⟩
  · have hjn : j = n := by omega
    subst hjn
    have D : Led hT g ((C, Frm [Str.ofString ".0", nm] [none, ov]) :: (it, It j) :: (acc, DctI prog w kvs) :: (L, P) :: l) h := Ldg.perm D (List.Perm.append_left _ (List.Perm.cons _ (List.Perm.swap _ _ _)))
    refine I.stop S.abv (fun c hc => ?_) D ?_
    · exact mem_pre [_] (hK c hc)
    clear D
    intro h t D
    exact lc_end D fun h' D => k acc h' t kvs hac hjy D.swap
end
noncomputable def thereL (ls : List (Option Int)) : List Int := ls.filterMap id
noncomputable def mxI : List Int → Int
  | [] => -1
  | [a] => a
  | a :: b :: r => max a (mxI (b :: r))
theorem mxI_spec : ∀ {l : List Int}, l ≠ [] → mxI l ∈ l ∧ ∀ a ∈ l, a ≤ mxI l
  | [], h => absurd rfl h
  | [a], _ => ⟨.head _, fun b hb => by
    rcases List.mem_cons.mp hb with rfl | hb
    · exact Int.le_refl _
    · cases hb⟩
  | a :: b :: r, _ => by
    obtain ⟨h1, h2⟩ := mxI_spec (l := b :: r) (by simp)
    refine ⟨?_, fun x hx => ?_⟩
    · show max a (mxI (b :: r)) ∈ _
      by_cases h : a ≤ mxI (b :: r)
      · rw [Int.max_eq_right h]; exact .tail _ h1
      · rw [Int.max_eq_left (by omega)]; exact .head _
    · show x ≤ max a (mxI (b :: r))
      rcases List.mem_cons.mp hx with rfl | hx
      · omega
      · have := h2 x hx; omega
theorem mxI_eq {l : List Int} {M : Int} (h1 : M ∈ l) (h2 : ∀ a ∈ l, a ≤ M) : M = mxI l := by
  have hne : l ≠ [] := fun e => by rw [e] at h1; cases h1
  obtain ⟨h3, h4⟩ := mxI_spec hne
  have := h2 _ h3
  have := h4 _ h1
  omega
theorem mxI_perm {l l' : List Int} (h : ∀ a, a ∈ l ↔ a ∈ l') : mxI l = mxI l' := by
  by_cases hne : l = []
  · subst hne
    have : l' = [] := by
      cases l' with
      | nil => rfl
      | cons a r => exact absurd ((h a).mpr (.head _)) (by simp)
    rw [this]
  · obtain ⟨h1, h2⟩ := mxI_spec hne
    exact mxI_eq ((h _).mp h1) fun a ha => h2 a ((h a).mpr ha)
noncomputable def colC (M : Int) : Int := 3 + (((List.range 4).filter fun j => decide (M ≥ 10 ^ (3 + j))).length : Nat)
noncomputable def colF (ls : List (Option Int)) : Int := if thereL ls = [] then 0 else if (thereL ls).length < ls.length then max 4 (colC (mxI (thereL ls))) else colC (mxI (thereL ls))
noncomputable def widF (ls : List (Option Int)) : Int :=
  if mxI (thereL ls) = -1 then 0 else
    let w := max 3 ((Str.ofString (toString (mxI (thereL ls)))).length : Int)
    if w < 4 ∧ none ∈ ls then 4 else w
noncomputable def LnsOk (ls : List (Option Int)) : Prop := ∀ x, some x ∈ ls → 1 ≤ x ∧ x < 10 ^ 6
theorem mem_there {ls : List (Option Int)} {x : Int} : x ∈ thereL ls ↔ some x ∈ ls := by
  unfold thereL
  rw [List.mem_filterMap]
  exact ⟨fun ⟨a, h, e⟩ => by have : a = some x := e; rw [← this]; exact h, fun h => ⟨_, h, rfl⟩⟩
theorem there_len : ∀ ls : List (Option Int), (thereL ls).length ≤ ls.length ∧ ((thereL ls).length < ls.length ↔ none ∈ ls)
  | [] => ⟨Nat.le_refl _, by simp [thereL]⟩
  | none :: ls => by
    obtain ⟨h1, h2⟩ := there_len ls
    have e : thereL (none :: ls) = thereL ls := rfl
    rw [e, List.length_cons]
    exact ⟨by omega, ⟨fun _ => .head _, fun _ => by omega⟩⟩
  | some a :: ls => by
    obtain ⟨h1, h2⟩ := there_len ls
    have e : thereL (some a :: ls) = a :: thereL ls := rfl
    rw [e, List.length_cons, List.length_cons]
    refine ⟨by omega, ⟨fun h => .tail _ (h2.mp (by omega)), fun h => ?_⟩⟩
    rcases List.mem_cons.mp h with h | h
    · cases h
    · have := h2.mpr h; omega
theorem str_len (n : Nat) : (Str.ofString (toString (n : Int))).length = (Nat.toDigits 10 n).length := by
  show (Str.ofString (toString (n : Int))).cps.size = _
  have e : (Str.ofString (toString (n : Int))).cps.toList = (toString (n : Int)).toList.map Char.toNat := signs_ofString _
  rw [← Array.length_toList, e, List.length_map]
  show (Nat.repr n).toList.length = _
  unfold Nat.repr
  simp
theorem colC_eq (n : Nat) (h : n < 10 ^ 6) : colC (n : Int) = max 3 ((Str.ofString (toString (n : Int))).length : Int) := by
  rw [str_len]
  have hd : ∀ j, decide ((n : Int) ≥ 10 ^ (3 + j)) = decide (¬ (Nat.toDigits 10 n).length ≤ 3 + j) := fun j => by
    rw [decide_eq_decide, Nat.length_toDigits_le_iff (by decide) (Nat.lt_of_lt_of_le (by decide) (Nat.le_add_right 3 j)), Nat.not_lt]
    exact Iff.trans (b := ((10 ^ (3 + j) : Nat) : Int) ≤ (n : Int)) (by rw [Int.natCast_pow]; exact Iff.rfl) Int.ofNat_le
  have h6 : (Nat.toDigits 10 n).length < 7 := Nat.lt_succ_of_le ((Nat.length_toDigits_le_iff (by decide) (by decide)).mpr h)
  unfold colC
  rw [funext hd]
  generalize (Nat.toDigits 10 n).length = d at h6 ⊢
  have key : ∀ d : Fin 7, 3 + (((List.range 4).filter fun j => decide (¬ d.val ≤ 3 + j)).length : Int) = max 3 (d.val : Int) := by decide +kernel
  exact key ⟨d, h6⟩
theorem wid_col {ls ls' : List (Option Int)} (hp : ∀ x, x ∈ ls' ↔ x ∈ ls) (hok : LnsOk ls) : widF ls' = colF ls := by
  have hm : mxI (thereL ls') = mxI (thereL ls) := mxI_perm fun a => by rw [mem_there, mem_there]; exact hp _
  unfold widF colF
  rw [hm]
  by_cases he : thereL ls = []
  · rw [he, if_pos (show mxI [] = -1 from rfl), if_pos rfl]
  · obtain ⟨h1, h2⟩ := mxI_spec he
    obtain ⟨b1, b2⟩ := hok _ (mem_there.mp h1)
    obtain ⟨n, hn⟩ : ∃ n : Nat, mxI (thereL ls) = (n : Int) := ⟨(mxI (thereL ls)).toNat, by omega⟩
    rw [hn] at b1 b2 ⊢
    rw [if_neg (by omega), if_neg he, ← colC_eq n (by omega)]
    have h3 : 3 ≤ colC (n : Int) := by unfold colC; omega
    have hl := (there_len ls).2
    dsimp only
    by_cases hnone : none ∈ ls
    · rw [if_pos (hl.mpr hnone)]
      by_cases h4 : colC (n : Int) < 4
      · rw [if_pos ⟨h4, (hp _).mpr hnone⟩]; omega
      · rw [if_neg (fun z => h4 z.1)]; omega
    · rw [if_neg (fun z => hnone (hl.mp z)), if_neg (fun z => hnone ((hp _).mp z.2))]
theorem fn_column (w : World) : FnAtC w 180 [Str.ofString "lines"] [Str.ofString "lines", Str.ofString "column"] [Str.ofString "len", Str.ofString "range", Str.ofString "max"] :=
  ⟨by kernel_rfl, by kernel_rfl, by kernel_rfl, by kernel_rfl, ⟨by kernel_rfl, by kernel_rfl⟩, by kernel_rfl⟩
noncomputable abbrev coNs : List Str := [Str.ofString "lines", Str.ofString "column"]
theorem paired_at {α β : Type} {F : α → β → Prop} : ∀ {l₁ : List α} {l₂ : List β} {j : Nat} {v : β}, Paired F l₁ l₂ → l₂[j]? = some v → ∃ x, l₁[j]? = some x ∧ F x v
  | _, _, _, _, .nil, h => by cases h
  | _, _, 0, _, .cons hf _, h => by cases h; exact ⟨_, rfl, hf⟩
  | _, _, j + 1, _, .cons _ r, h => by
    obtain ⟨x, h1, h2⟩ := paired_at r (j := j) (by simpa using h)
    exact ⟨x, by simpa using h1, h2⟩
theorem there_take {ls : List (Option Int)} {j : Nat} {x : Option Int} (h : ls[j]? = some x) : thereL (ls.take (j + 1)) = thereL (ls.take j) ++ x.toList := by
  unfold thereL
  rw [List.take_add_one, h, List.filterMap_append]
  cases x <;> rfl
theorem ints_len {vs : List Value} {ns : List Int} (h : IntsAre vs ns) : vs.length = ns.length := by
  induction h with
  | nil => rfl
  | cons a b _ ih => simp [ih]
theorem ints_snoc {vs : List Value} {ns : List Int} {a : Int} {t : Tok} (h : IntsAre vs ns) : IntsAre (vs ++ [.int a t]) (ns ++ [a]) := h.append (.cons _ _ .nil)
theorem ints_reads {h : Heap} : ∀ {vs : List Value} {ns : List Int}, IntsAre vs ns → ReadsAll h vs (ns.map PyData.int) []
  | _, _, .nil => ReadsAll.nil
  | _, _, .cons n t r => ReadsAll.cons (Reads.int _ _) (ints_reads r)
theorem ints_shaped : ∀ ns : List Int, PyData.canLayAll0 (ns.map PyData.int) = true ∧ PyData.depthAll (ns.map PyData.int) = 0
  | [] => ⟨rfl, rfl⟩
  | a :: r => by
    obtain ⟨h1, h2⟩ := ints_shaped r
    simp only [List.map_cons, PyData.canLayAll0, PyData.canLay0, PyData.depthAll, PyData.depth, h1, h2]
    decide
theorem shaped_ints (ns : List Int) : SeqAt.shaped (PyData.list (ns.map PyData.int)) = true := by
  obtain ⟨h1, h2⟩ := ints_shaped ns
  unfold SeqAt.shaped
  simp only [PyData.canLay0, PyData.depth, h1, h2]
  decide
section
variable {prog : Program} {w : World} {A : Around} {E : Value → Shared → Prop} {s : Shared} {h hT : Heap} {t : Nat} {env : Env} {L : Addr} {g l l' : List Fact} {P : Obj → Prop} {mg mb : Str → Option Value} {n : Nat} {es : List Env} {ns gs : List Str} {us : List (Option Value)}
theorem mx_call {a : Addr} {vs : List Value} {xs : List Int} {Q : Value → Shared → Prop} {i : Nat} (D : Led hT g ((L, Frm ns us) :: l) h) (S : Scp hT env L ns gs) (hh : A.handled = none) (hi : AtI l i (a, LstO vs)) (hv : IntsAre vs xs) (hne : xs ≠ [])
    (k : ∀ h' t' tk, Led hT g ((L, Frm ns us) :: l) h' → Q (.int (mxI xs) tk) (At s h' t')) : wpAny (model prog w) A (call (.builtin "max") [.ref a]) Q E (At s h t) := by
  obtain ⟨_, ho, n, rfl⟩ := D.atL (.s hi)
  obtain ⟨ob, N, back⟩ := D.news
  refine max_list_N (s := At s h t) hh (D.fr S) N ⟨_, ho, rfl, n, rfl⟩ hv (List.length_pos_iff.mpr hne) ?_
  intro h' M tk tk' F' N' h1 h2
  rw [mxI_eq h1 h2]
  exact k h' _ _ (back h' _ _ _ F' (fun _ => rfl) N')
theorem l_lenL {a : Addr} {vs : List Value} {Q : Value → Shared → Prop} {i : Nat} (D : Led hT g l h) (hi : AtI l i (a, LstO vs)) (hz : vs.length ≤ 100000) (k : ∀ tk t', Q (.int vs.length tk) (At s h t')) : wpAny (model prog w) A (call (.builtin "len") [.ref a]) Q E (At s h t) := by
  obtain ⟨_, ho, n, rfl⟩ := D.atL hi
  exact PyProof.Rows.len_list (s := At s h t) ⟨_, ho, rfl, n, rfl⟩ (by simp; omega) (by simpa using k _ _)
theorem i_max {a b : Int} {u v : Tok} {P : Obj → Prop} {Q : Value → Shared → Prop} (D : Led hT g ((L, P) :: l) h) (S : Scp hT env L ns gs) (hh : A.handled = none) (k : ∀ h' tk t', Led hT g ((L, P) :: l) h' → Q (.int (max a b) tk) (At s h' t')) :
    wpAny (model prog w) A (call (.builtin "max") [.int a u, .int b v]) Q E (At s h t) := by
  refine max_two_ints hh fun h' tk hk => ?_
  have D' := D.growF S.abv hk
  by_cases c : b > a
  · rw [if_pos c]
    have e : b = max a b := by omega
    have := k h' v tk D'
    rw [← e] at this
    exact this
  · rw [if_neg c]
    have e : a = max a b := by omega
    have := k h' u tk D'
    rw [← e] at this
    exact this
theorem i_pow {b : Nat} {u v : Tok} {Q : Value → Shared → Prop} (h1 : 3 ≤ b) (h2 : b ≤ 6) (k : ∀ tk t', Q (.int (10 ^ b) tk) (At s h t')) : wpAny (model prog w) A (binaryOp .Pow (.int 10 u) (.int (b : Nat) v)) Q E (At s h t) := by
  have hb : b = 3 ∨ b = 4 ∨ b = 5 ∨ b = 6 := by omega
  rcases hb with rfl | rfl | rfl | rfl
  all_goals exact AutoIntOps.pow_4 (by decide) (by decide) (by decide) (by decide) (by decide +kernel) (k _ _)
set_option maxHeartbeats 8000000 in
theorem column_spec {a : Addr} {vs : List Value} {ls : List (Option Int)} {i : Nat} (T : Tp w mg mb hT) (D : Led hT g l h) (r : Rm (n + 5) A es) (hi : AtI l i (a, LstO vs)) (hv : Paired LnV ls vs) (hz : ls.length ≤ 900) :
    codeAny (model prog w) A (.call (.ref 180) ⟨[.ref a], []⟩) (Ret hT g l s fun v => ∃ tk, v = .int (colF ls) tk) (At s h t) := by
  refine opqC fun R hR => ?_
  refine call_topC (ns := coNs) (vs := [some (.ref a), none]) (cf := fun L => [(L + 1, CellO none)]) D T (fn_column w) r.room (as := [.ref a]) (by kernel_rfl)
    ?_ ?_ ?_ ?_ ?_
  · intro L x hx
    rcases List.mem_cons.mp hx with rfl | hx
    · exact .inl (by kernel_rfl)
    · cases hx
  · intro y
    rw [show bindL (fun x => List.lookup x (fd 180).scope.names) ([Str.ofString "lines"].zip [Value.ref a]) (fun x => none) y = (if y = Str.ofString "lines" then some (Value.ref a) else none) by kernel_rfl]
    simp only [look]
    split <;> simp
  · intro L
    rw [show (cellsFrom (L + 1) (fd 180).scope.names []).map (·.1) = [Str.ofString "there"] by kernel_rfl]
    decide +kernel
  · intro L
    kernel_rfl
  clear D
  intro L h t D S
  have r := r.deeper (callEnvC (fd 180) L 180)
  refine wpAny_mono (Q := Out R) (E := fun _ _ => False) ?_ (fun _ _ q => q) (fun _ _ q => q.elim)
  refine x_cons (st := _) (rest := _) ?_
  repeat walk_at "m"
  refine x_lc (cl := []) (by with_unfolding_all rfl) (by with_unfolding_all rfl) (by with_unfolding_all rfl) (by intro _; with_unfolding_all rfl) ?_
  repeat walk_at "m"
  have hvl : ls.length = vs.length := hv.length
  obtain ⟨_, hoa, na, rfl⟩ := D.atL (.s (.s hi))
  refine li_iter D ⟨_, hoa, rfl, na, rfl⟩ ?_
  clear hoa D
  intro it h D
  refine lc_any (cl := []) (cgs := []) (fun j ys ex => ex = [] ∧ j ≤ ls.length ∧ IntsAre ys (thereL (ls.take j))) (itr_list (a := a) (xs := vs) r.hnd) D (fun c hc => ?_) S.abv ⟨rfl, Nat.zero_le _, .nil⟩ ?_ (by with_unfolding_all rfl) (by kernel_rfl) (by with_unfolding_all rfl) S.glo S.bui ?_ ?_
  · rw [List.mem_singleton.mp hc]
    exact List.mem_append_right _ (.tail _ (.tail _ hi.mem))
  · rintro j ys ex ⟨_, h1, h2⟩
    rw [ints_len h2]
    have := (there_len (ls.take j)).1
    have : (ls.take j).length ≤ ls.length := by simp; omega
    omega
  · clear D
    rintro C acc j v ys ex h t E' hj hx ⟨rfl, hjl, hys⟩ D S
    obtain ⟨x, hxl, hxv⟩ := paired_at hv hx
    have ht := there_take hxl
    refine wpAny_tests_one ?_
    repeat walk_at "m"
    refine isnot_none_gen ?_
    repeat walk_at "m"
    cases x with
    | none =>
      obtain rfl : v = .none := hxv
      rw [show (!(Value.none == Value.none)) = false by rfl, if_neg Bool.false_ne_true]
      exact ⟨_, _, [], rfl, D, rfl, by omega, by rw [ht]; simpa using hys⟩
    | some b =>
      obtain ⟨tk, rfl⟩ := hxv
      rw [show (!(Value.int b tk == Value.none)) = true by rfl, if_pos rfl]
      repeat walk_at "m"
      exact ⟨_, _, [], rfl, D, rfl, by omega, by rw [ht]; exact ints_snoc hys⟩
  · clear D
    rintro acc h t ys ex ⟨rfl, _, hys⟩ D
    rw [← hvl, List.take_length] at hys
    rw [List.append_nil] at D
    have kc : (callEnvC (fd 180) L 180).kindOf (Str.ofString "there") = some .cell := by kernel_rfl
    have hc : (callEnvC (fd 180) L 180).cells.lookup (Str.ofString "there") = some (L + 1) := by kernel_rfl
    refine stc D S.kind kc hc (.s (.s .z)) (.s (.s .z)) ?_
    clear D
    intro h D
    repeat walk_at "m"
    refine ldc D S.kind ⟨kc, by decide +kernel⟩ hc (.s (.s .z)) ?_
    repeat walk_at "m"
    refine ls_mk D ?_
    clear D
    intro em h D
    have hty := (there_len ls).1
    have hyl := ints_len hys
    obtain ⟨_, he, ne, rfl⟩ := D.atL (.s .z)
    obtain ⟨_, ha', na', rfl⟩ := D.atL (.s (.s .z))
    refine eq_dataH (s := At s h t) (reads_list_at ha' rfl rfl (ints_reads hys)) (reads_list_at he rfl rfl ReadsAll.nil) (shaped_ints _) (by decide) (by have := r.uni; show _ < 9900; omega) ?_
    clear he ha'
    repeat walk_at "m"
    refine b_two (fun hb => ?_) (fun hb => ?_)
    · repeat walk_at "m"
      have hth : thereL ls = [] := by
        cases hq : thereL ls with
        | nil => rfl
        | cons a r => rw [hq] at hb; cases hb
      exact hR _ _ ⟨_, _, _, rfl, rfl, D.sub (.cons _ (.cons _ (.cons _ (.cons _ (.refl _))))), _, by unfold colF; rw [if_pos hth]⟩
    · have hth : thereL ls ≠ [] := fun e => by
        rw [e] at hb; cases hb
      repeat walk_at "m"
      refine x_lc (cl := [(Str.ofString "there", L + 1)]) (by kernel_rfl) (by with_unfolding_all rfl) (by with_unfolding_all rfl) (by intro _; with_unfolding_all rfl) ?_
      repeat walk_at "m"
      refine rg_new2 D ?_
      clear D
      intro rg h t D
      refine rg_iter D (.s .z) (by omega) (by omega) (by omega) ?_
      clear D
      intro it2 h D
      have D : Led hT g ((L, Frm coNs [some (.ref a), none]) :: (it2, RiO (3 + ((0 : Nat) : Int)) (7 - (3 + ((0 : Nat) : Int)))) :: (acc, LstO ys) :: (L + 1, CellO (some (.ref acc))) :: l) h := D.sub (.cons_cons _ (.cons_cons _ (.cons _ (.cons _ (.refl _)))))
      refine lc_any (cl := [(Str.ofString "there", L + 1)]) (cgs := [Str.ofString "max"]) (fun j ys ex => ex = [] ∧ j ≤ 4 ∧ ys.length = ((List.range j).filter fun i => decide (mxI (thereL ls) ≥ 10 ^ (3 + i))).length) (itr_rg (a := 3) (b := 7) r.hnd 4 (by decide)) D (fun c hc => by cases hc) S.abv ⟨rfl, by omega, rfl⟩ ?_ (by with_unfolding_all rfl) (by kernel_rfl) (by with_unfolding_all rfl) S.glo S.bui ?_ ?_
      · rintro j zs ex ⟨_, h1, h2⟩
        rw [h2]
        have := List.length_filter_le (fun i => decide (mxI (thereL ls) ≥ 10 ^ (3 + i))) (List.range j)
        rw [List.length_range] at this; omega
      · clear D
        rintro C acc2 j v zs ex h t E' hj ⟨tk, rfl⟩ ⟨rfl, hj4, hzs⟩ D S2
        have e3 : (3 + (j : Int)) = ((3 + j : Nat) : Int) := rfl
        rw [e3] at D ⊢
        refine wpAny_tests_one ?_
        repeat walk_at "m"
        refine ldc D S2.kind ⟨by kernel_rfl, by decide +kernel⟩ (by kernel_rfl) (.s (.s (.s (.s (.s .z))))) ?_
        repeat walk_at "m"
        refine mx_call D S2 r.hnd (.s (.s (.s .z))) hys hth ?_
        clear D
        intro h t tk2 D
        repeat walk_at "m"
        refine i_pow (b := 3 + j) (by omega) (by omega) ?_
        intro _ _
        repeat walk_at "m"
        have hrs : ((List.range (j + 1)).filter fun i => decide (mxI (thereL ls) ≥ 10 ^ (3 + i))) = ((List.range j).filter fun i => decide (mxI (thereL ls) ≥ 10 ^ (3 + i))) ++ (if mxI (thereL ls) ≥ 10 ^ (3 + j) then [j] else []) := by
          rw [List.range_succ, List.filter_append]
          congr 1
          by_cases hq : mxI (thereL ls) ≥ 10 ^ (3 + j) <;> simp [hq]
        by_cases hq : mxI (thereL ls) ≥ 10 ^ (3 + j)
        · rw [if_pos (decide_eq_true hq)]
          rw [if_pos hq] at hrs
          repeat walk_at "m"
          exact ⟨_, _, [], rfl, D, rfl, by omega, by rw [hrs, List.length_append, List.length_append, hzs]; rfl⟩
        · rw [if_neg (by rw [decide_eq_true_eq]; exact hq)]
          rw [if_neg hq] at hrs
          exact ⟨_, _, [], rfl, D, rfl, by omega, by rw [hrs, List.append_nil, hzs]⟩
      · clear D
        rintro acc2 h t zs ex ⟨rfl, _, hzs⟩ D
        rw [List.append_nil] at D
        have hzl : zs.length ≤ 4 := by
          rw [hzs]
          have := List.length_filter_le (fun i => decide (mxI (thereL ls) ≥ 10 ^ (3 + i))) (List.range 4)
          rw [List.length_range] at this
          exact this
        repeat walk_at "m"
        refine l_lenL D (.s .z) (by omega) ?_
        intro _ _
        repeat walk_at "m"
        have hcc : (3 + (zs.length : Int)) = colC (mxI (thereL ls)) := by
          unfold colC
          rw [hzs]
        clear D
        have D := (by assumption : Led hT g ((L, Frm coNs [some (.ref a), some (.int (3 + (zs.length : Int)) _)]) :: _) _)
        refine ldc D S.kind ⟨kc, by decide +kernel⟩ hc (.s (.s (.s .z))) ?_
        repeat walk_at "m"
        refine l_lenL D (.s (.s .z)) (by omega) ?_
        intro _ _
        repeat walk_at "m"
        refine l_lenL D (.s (.s (.s (.s hi)))) (by omega) ?_
        intro _ _
        repeat walk_at "m"
        have hlen : (acc2 : Addr) = acc2 := rfl
        refine b_two (fun hq => ?_) (fun hq => ?_)
        · have hlt : (thereL ls).length < ls.length := by
            have := of_decide_eq_true hq
            omega
          repeat walk_at "m"
          refine i_max D S r.hnd ?_
          clear D
          intro h tk t D
          repeat walk_at "m"
          exact hR _ _ ⟨_, _, _, rfl, rfl, D.sub (.cons _ (.cons _ (.cons _ (.cons _ (.refl _))))), _, by unfold colF; rw [if_neg hth, if_pos hlt, hcc]⟩
        · have hlt : ¬ (thereL ls).length < ls.length := by
            have := of_decide_eq_false hq
            omega
          repeat walk_at "m"
          exact hR _ _ ⟨_, _, _, rfl, rfl, D.sub (.cons _ (.cons _ (.cons _ (.cons _ (.refl _))))), _, by unfold colF; rw [if_neg hth, if_neg hlt, hcc]⟩
end
theorem fi_mro : mroOf (.type "filter") = pure [.type "filter", .type "object"] := by rw [mroOf_type]; kernel_rfl
theorem fi_new_lookup : typeLookup (.type "filter") "__new__" = pure (some (.builtin "filter.__new__")) := by rw [typeLookup_type, builtinLookup_eq_fast]; kernel_rfl
theorem fi_init : Slot "filter" "__init__" "object.__init__" :=
  .of (owner := "object") (n := "__init__") (by rw [typeLookup_type, builtinLookup_eq_fast]; kernel_rfl) (by decide +kernel) (by decide +kernel) (by decide +kernel) (by first | exact .inl (by decide +kernel) | exact .inr (by decide +kernel)) (by rw [isSubtype_type]; kernel_rfl)
theorem fi_next : Slot "filter" "__next__" "filter.__next__" :=
  .of (owner := "filter") (n := "__next__") (by rw [typeLookup_type, builtinLookup_eq_fast]; kernel_rfl) (by decide +kernel) (by decide +kernel) (by decide +kernel) (by first | exact .inl (by decide +kernel) | exact .inr (by decide +kernel)) (by rw [isSubtype_type]; kernel_rfl)
theorem fi_iter : Slot "filter" "__iter__" "filter.__iter__" :=
  .of (owner := "filter") (n := "__iter__") (by rw [typeLookup_type, builtinLookup_eq_fast]; kernel_rfl) (by decide +kernel) (by decide +kernel) (by decide +kernel) (by first | exact .inl (by decide +kernel) | exact .inr (by decide +kernel)) (by rw [isSubtype_type]; kernel_rfl)
theorem fi_called : TypeCalled "filter" "filter.__new__" "object.__init__" :=
  ⟨by decide +kernel, by decide +kernel, ⟨_, _, fi_mro⟩, madeBy_type fi_mro fi_new_lookup (by decide +kernel), by decide +kernel, by rw [isSubtype_type]; kernel_rfl, fi_init⟩
theorem fi_typeCall (a b : Value) : checkTypeCall "filter" ⟨[a, b], []⟩ = pure () := by kernel_rfl
theorem fi_newCall (a b : Value) : checkBuiltinCall "filter.__new__" ⟨[.type "filter", a, b], []⟩ = pure () := by kernel_rfl
theorem fi_entry_new : entryFor table "filter.__new__" = some Builtin.«filter.__new__» := entryFor_of_tree (by kernel_rfl)
theorem fi_entry_next : entryFor table "filter.__next__" = some Builtin.«filter.__next__» := entryFor_of_tree (by kernel_rfl)
theorem fi_args_next (a : Value) : argsOk "filter.__next__" ⟨[a], []⟩ := by unfold argsOk; kernel_rfl
theorem fi_args_iter (a : Value) : argsOk "filter.__iter__" ⟨[a], []⟩ := by unfold argsOk; kernel_rfl
theorem fi_entry_iter : entryFor table "filter.__iter__" = some Builtin.«dict_keyiterator.__iter__» :=
  entryFor_alias (id' := "dict_keyiterator.__iter__") (by kernel_rfl) (by first | rfl | decide +kernel | (unfold String.splitOn; simp +decide [String.splitOnAux])) (by decide +kernel) (by kernel_rfl)
theorem fi_plain_next : plainId "filter.__next__" = true := by decide +kernel
noncomputable def FiO (I : Addr) : Obj → Prop := fun o => o = { cls := .type "filter", data := .fields #[.none, .ref I] }
noncomputable def ViO (d : Addr) (i n ep : Nat) : Obj → Prop := fun o => o.cls = .type "dict_valueiterator" ∧ o.data = .fields #[.ref d, .int i 0, .int n 0, .int ep 0]
noncomputable def VwO (d : Addr) : Obj → Prop := fun o => o = { cls := .type "dict_values", data := .fields #[.ref d] }
section
variable {prog : Program} {w : World} {A : Around} {E : Value → Shared → Prop} {s : Shared} {h hT : Heap} {t : Nat} {it d : Addr} {i ep : Nat} {kvs : List (Int × Value)}
theorem vi_item {k : Int} {v : Value} {Q : Option Value → Shared → Prop} (hit : h.IsValIter it d i kvs.length ep) (hm : h.DictAt (intKind prog w) d kvs ep) (hx : kvs[i]? = some (k, v))
    (hQ : ∀ h', h'.IsValIter it d (i + 1) kvs.length ep → Heap.SameBut it h h' → Q (some v) (At s h' t)) :
    wpAny (model prog w) A (callSpecial? (.ref it) (Str.ofString "__next__") []) Q E (At s h t) := by
  obtain ⟨o, ho, hc, hd⟩ := id hit
  obtain ⟨od, es, hod, hcd, hdd, hk, hp, hn⟩ := id hm
  have hT : ∀ h : Heap, h.IsValIter it d i kvs.length ep → (At s h t).TypeIs (.ref it) "dict_valueiterator" := fun _ x => x.typeIs
  have hsz : es.size = kvs.length := by rw [← hp.length]; simp
  have hlt : i < kvs.length := (List.getElem?_eq_some_iff.mp hx).1
  have hlt' : i < es.size := by omega
  have hval : es[i].val = v := (hp.get? (e := es[i]) (by simp [hlt']) hx).2
  refine wpAny_callSpecial?_slot (s := At s h t) (name := Str.ofString "__next__") (hT h hit) PySem.F.slot_dict_valueiterator_next (wpAny_call_entry PySem.F.slot_dict_valueiterator_next (hT h hit) PySem.F.entry_dict_valueiterator_next ?_ (PySem.F.args_dict_valueiterator_next_1 _))
  refine wpAny_bind (wpAny_pure (wpAny_bind (wpAny_bind ?_)))
  first | refine wpAny_bind (wpAny_typeNameOfWhole_valiter (hT h hit) (wpAny_pure ?_)) | refine wpAny_bind (wpAny_typeNameOf_valiter (hT h hit) (wpAny_pure ?_))
  refine wpAny_bind (wpAny_fieldsOf ho hd ?_)
  simp only [show Builtin.Dict_items.ownsTuple "dict_valueiterator" = false by decide, Bool.false_eq_true, if_false]
  show wpAny _ _ (if (Value.ref d == Value.none) = true then _ else _) _ _ (At s h t)
  rw [if_neg (show ¬ ((Value.ref d == Value.none) = true) from Bool.false_ne_true)]
  refine wpAny_bind (wpAny_pure (wpAny_bind (wpAny_dictEntries hod hdd ?_)))
  rw [if_neg (by rw [hsz]; simp)]
  refine wpAny_bind (wpAny_pure (wpAny_bind (wpAny_dictEpoch hod hdd ?_)))
  rw [if_neg (by simp)]
  refine wpAny_pure ?_
  simp only [show ¬ ((i : Int) < 0) from by omega, if_false, Int.toNat_natCast, Array.getElem?_eq_getElem hlt']
  refine wpAny_bind ?_
  first | refine wpAny_bind (wpAny_typeNameOfWhole_valiter (hT h hit) (wpAny_pure ?_)) | refine wpAny_bind (wpAny_typeNameOf_valiter (hT h hit) (wpAny_pure ?_))
  refine wpAny_bind (wpAny_isOneOf_valiter (hT h hit) ?_)
  show wpAny _ _ (setField (.ref it) 1 (rawInt ((i : Int) + 1)) >>= _) _ _ (At s h t)
  refine wpAny_bind (wpAny_setField ho hd (by simp) ?_)
  have hit' : (h.update it (Obj.mapFields (·.setIfInBounds 1 (rawInt ((i : Int) + 1))))).IsValIter it d (i + 1) kvs.length ep :=
    ⟨_, Heap.get?_update_self _ ho (Obj.isFreed_of_fields (Obj.data_mapFields hd _)), (Obj.cls_mapFields ..).trans hc, by rw [Obj.data_mapFields hd]; simp [rawInt]⟩
  have hT' : (At s (h.update it (Obj.mapFields (·.setIfInBounds 1 (rawInt ((i : Int) + 1))))) t).TypeIs (.ref it) "dict_valueiterator" := hit'.typeIs (s := At s _ t)
  refine wpAny_bind (wpAny_holding ?_)
  refine wpAny_bind (wpAny_isOneOf_valiter hT' (wpAny_bind (wpAny_isOneOf_valiter hT' ?_)))
  show wpAny _ _ (pure es[i].val) _ _ _
  exact wpAny_pure (wpAny_pure ⟨_, rfl, hval ▸ hQ _ hit' (Heap.SameBut.update ..)⟩)
theorem vi_stop {Q : Option Value → Shared → Prop} (hh : A.handled = none) (hit : h.IsValIter it d i kvs.length ep) (hm : h.DictAt (intKind prog w) d kvs ep) (hx : kvs[i]? = none)
    (hQ : ∀ e h', Heap.ExtBut it h h' → (At s h' t).TypeIs (.ref e) "StopIteration" → E (.ref e) (At s h' t)) :
    wpAny (model prog w) A (callSpecial? (.ref it) (Str.ofString "__next__") []) Q E (At s h t) := by
  obtain ⟨o, ho, hc, hd⟩ := id hit
  obtain ⟨od, es, hod, hcd, hdd, hk, hp, hn⟩ := id hm
  have hT : ∀ h : Heap, h.IsValIter it d i kvs.length ep → (At s h t).TypeIs (.ref it) "dict_valueiterator" := fun _ x => x.typeIs
  have hsz : es.size = kvs.length := by rw [← hp.length]; simp
  have hge : es.size ≤ i := by rw [hsz]; simpa using hx
  refine wpAny_callSpecial?_slot (s := At s h t) (name := Str.ofString "__next__") (hT h hit) PySem.F.slot_dict_valueiterator_next (wpAny_call_entry PySem.F.slot_dict_valueiterator_next (hT h hit) PySem.F.entry_dict_valueiterator_next ?_ (PySem.F.args_dict_valueiterator_next_1 _))
  refine wpAny_bind (wpAny_pure (wpAny_bind (wpAny_bind ?_)))
  first | refine wpAny_bind (wpAny_typeNameOfWhole_valiter (hT h hit) (wpAny_pure ?_)) | refine wpAny_bind (wpAny_typeNameOf_valiter (hT h hit) (wpAny_pure ?_))
  refine wpAny_bind (wpAny_fieldsOf ho hd ?_)
  simp only [show Builtin.Dict_items.ownsTuple "dict_valueiterator" = false by decide, Bool.false_eq_true, if_false]
  show wpAny _ _ (if (Value.ref d == Value.none) = true then _ else _) _ _ (At s h t)
  rw [if_neg (show ¬ ((Value.ref d == Value.none) = true) from Bool.false_ne_true)]
  refine wpAny_bind (wpAny_pure (wpAny_bind (wpAny_dictEntries hod hdd ?_)))
  rw [if_neg (by rw [hsz]; simp)]
  refine wpAny_bind (wpAny_pure (wpAny_bind (wpAny_dictEpoch hod hdd ?_)))
  rw [if_neg (by simp)]
  refine wpAny_pure ?_
  simp only [show ¬ ((i : Int) < 0) from by omega, if_false, Int.toNat_natCast, Array.getElem?_eq_none hge]
  refine wpAny_bind ?_
  first | refine wpAny_bind (wpAny_typeNameOfWhole_valiter (hT h hit) (wpAny_pure ?_)) | refine wpAny_bind (wpAny_typeNameOf_valiter (hT h hit) (wpAny_pure ?_))
  show wpAny _ _ (setField (.ref it) 0 .none >>= _) _ _ (At s h t)
  refine wpAny_bind (wpAny_setField ho hd (by simp) ?_)
  show wpAny _ _ (newExc (.type "StopIteration") [] >>= _) _ _ _
  refine wpAny_bind ?_
  simp only [newExc, newTuple]
  refine wpAny_bind (wpAny_newObj_type ?_ (by size_fits))
  refine wpAny_bind (m := firstArgMember _ _) (wpAny_of_eq (a := Value.none) (by first | rfl | (simp only [firstArgMember]; rfl)) ?_)
  refine wpAny_newObj_type ?_ (by size_fits)
  simp only [raiseNew]
  refine wpAny_bind (wpAny_handled ?_)
  rw [show A.in1.handled = none from hh]
  refine wpAny_bind (wpAny_pure (wpAny_throw ?_))
  exact hQ _ _ (((Heap.SameBut.update ..).extBut.push _).push _) ⟨_, Heap.get?_push_size _ rfl, rfl⟩
end
noncomputable def DctE (prog : Program) (w : World) (kvs : List (Int × Value)) (ep : Nat) : Obj → Prop := fun o => ∃ es, o.ExactDict ∧ o.data = .dict es ep ∧ KeysOf (intKind prog w) es ∧ Pairs (intKind prog w) es.toList kvs ∧ (kvs.map (·.1)).Nodup
theorem there_drop {ls : List (Option Int)} {j : Nat} {x : Option Int} (h : ls[j]? = some x) : thereL (ls.drop j) = x.toList ++ thereL (ls.drop (j + 1)) := by
  obtain ⟨hj, he⟩ := List.getElem?_eq_some_iff.mp h
  rw [List.drop_eq_getElem_cons hj, he]
  cases x <;> rfl
section
variable {prog : Program} {w : World} {A : Around} {E : Value → Shared → Prop} {s : Shared} {hT : Heap} {L S F I d : Addr} {ep : Nat} {kvs : List (Int × Value)} {g l : List Fact} {P PS : Obj → Prop} {ls : List (Option Int)}
theorem dct_at {h : Heap} {i : Nat} (D : Led hT g l h) (hi : AtI l i (d, DctE prog w kvs ep)) : h.DictAt (intKind prog w) d kvs ep := by
  obtain ⟨o, ho, es, r⟩ := D.atL hi
  exact ⟨o, es, ho, r⟩
theorem fil_body {R : Result → Shared → Prop} (ha : hT.objs.size ≤ L) (hh : A.handled = none) (hv : Paired LnV ls (kvs.map (·.2))) (hok : LnsOk ls) :
    ∀ (m j : Nat) (h : Heap) (t : Nat), ls.length - j = m → j ≤ ls.length → Led hT g ((L, P) :: (S, PS) :: (F, FiO I) :: (I, ViO d j kvs.length ep) :: (d, DctE prog w kvs ep) :: l) h →
    (∀ j' x h' t' tk, j < j' → j' ≤ ls.length → thereL (ls.drop j) = x :: thereL (ls.drop j') → Led hT g ((L, P) :: (S, PS) :: (F, FiO I) :: (I, ViO d j' kvs.length ep) :: (d, DctE prog w kvs ep) :: l) h' → R (.ok (.ret (.int x tk))) (At s h' t')) →
    (∀ e h' t', thereL (ls.drop j) = [] → Led hT g ((L, P) :: (S, PS) :: (F, FiO I) :: (d, DctE prog w kvs ep) :: l) h' → (At s h' t').TypeIs (.ref e) "StopIteration" → R (.error (.ref e)) (At s h' t')) →
    wpAny (model prog w) A.in1 (Builtin.«filter.__next__» ⟨[.ref F], []⟩) (fun fin s' => match fin with | .done f => R (.ok f) s' | .again c' => c'.quiet = true ∧ codeAny (model prog w) A c' R s') (fun e s' => R (.error e) s') (At s h t) := by
  have hl : ls.length = kvs.length := by have := hv.length; rwa [List.length_map] at this
  intro m
  induction m with
  | zero =>
    intro j h t hm hj D hn hs
    obtain rfl : j = ls.length := by omega
    obtain ⟨_, hF, rfl⟩ := D.atL (.s (.s .z))
    obtain ⟨oi, hI, hI1, hI2⟩ := D.atL (.s (.s (.s .z)))
    refine wpAny_bind (wpAny_pure ?_)
    refine wpAny_bind (wpAny_field hF rfl (x := .none) rfl ?_)
    refine wpAny_bind (wpAny_field hF rfl (x := .ref I) rfl ?_)
    refine wpAny_bind (vi_stop (A := A.in1) hh ⟨oi, hI, hI1, hI2⟩ (dct_at D (.s (.s (.s (.s .z))))) (by simp; omega) ?_)
    intro e h' hx hT'
    refine hs e h' t (by simp [thereL]) ?_ hT'
    have D : Led hT g ((L, P) :: (I, ViO d ls.length kvs.length ep) :: (S, PS) :: (F, FiO I) :: (d, DctE prog w kvs ep) :: l) h := Ldg.perm D (List.Perm.append_left _ (List.Perm.cons _ (List.perm_middle (l₁ := [_, _]))))
    exact D.extBut ha hx
  | succ m ih =>
    intro j h t hm hj D hn hs
    obtain ⟨⟨k, v⟩, hkv⟩ : ∃ p, kvs[j]? = some p := ⟨_, List.getElem?_eq_getElem (by omega)⟩
    obtain ⟨x, hx, hxv⟩ := paired_at (j := j) (v := v) hv (by rw [List.getElem?_map, hkv]; rfl)
    have htd := there_drop hx
    obtain ⟨_, hF, rfl⟩ := D.atL (.s (.s .z))
    obtain ⟨oi, hI, hI1, hI2⟩ := D.atL (.s (.s (.s .z)))
    refine wpAny_bind (wpAny_pure ?_)
    refine wpAny_bind (wpAny_field hF rfl (x := .none) rfl ?_)
    refine wpAny_bind (wpAny_field hF rfl (x := .ref I) rfl ?_)
    refine wpAny_bind (vi_item (A := A.in1) ⟨oi, hI, hI1, hI2⟩ (dct_at D (.s (.s (.s (.s .z))))) hkv ?_)
    intro h' hit' hsb
    have D := D.sameL (P' := ViO d (j + 1) kvs.length ep) (.s (.s (.s .z))) (.s (.s (.s .z))) hsb hit'
    clear hF hI
    refine wpAny_bind (wpAny_holding ?_)
    refine wpAny_bind (wpAny_rule ?_)
    cases x with
    | none =>
      obtain rfl : v = .none := hxv
      refine PyProof.Rows.truthy_none ?_
      refine wpAny_pure ⟨plainId_quiet fi_plain_next _, codeAny_builtin fi_entry_next (by rw [Around.under_plainId fi_plain_next _]; exact ih (j + 1) h' t (by omega) (by omega) D (fun j' x h t tk h1 h2 h3 D => hn j' x h t tk (by omega) h2 (by rw [htd]; exact h3) D) (fun e h t h1 D hT' => hs e h t (by rw [htd]; exact h1) D hT'))⟩
    | some x =>
      obtain ⟨tk, rfl⟩ := hxv
      have h1 := (hok x (List.mem_of_getElem? hx)).1
      refine PySem.P.truthy_int ?_
      rw [show (x != 0) = true by simp; omega]
      exact wpAny_pure (hn (j + 1) x h' t tk (by omega) (by omega) htd D)
theorem fil_next {j : Nat} {h : Heap} {t : Nat} {Q : Option Value → Shared → Prop} (ha : hT.objs.size ≤ L) (hh : A.handled = none) (hv : Paired LnV ls (kvs.map (·.2))) (hok : LnsOk ls) (hj : j ≤ ls.length)
    (D : Led hT g ((L, P) :: (S, PS) :: (F, FiO I) :: (I, ViO d j kvs.length ep) :: (d, DctE prog w kvs ep) :: l) h)
    (hn : ∀ j' x h' t' tk, j < j' → j' ≤ ls.length → thereL (ls.drop j) = x :: thereL (ls.drop j') → Led hT g ((L, P) :: (S, PS) :: (F, FiO I) :: (I, ViO d j' kvs.length ep) :: (d, DctE prog w kvs ep) :: l) h' → Q (some (.int x tk)) (At s h' t'))
    (hs : ∀ h' t', thereL (ls.drop j) = [] → Led hT g ((L, P) :: (S, PS) :: (F, FiO I) :: (d, DctE prog w kvs ep) :: l) h' → Q none (At s h' t')) : wpAny (model prog w) A (pyNext (.ref F)) Q E (At s h t) := by
  have hT' : (At s h t).TypeIs (.ref F) "filter" := by
    obtain ⟨_, hF, rfl⟩ := D.atL (.s (.s .z))
    exact ⟨_, hF, rfl⟩
  have key := fil_body (prog := prog) (w := w) (A := A) (s := s) (R := fun r s' => match r with | .ok (.ret v) => Q (some v) s' | .ok _ => False | .error e => s'.TypeIs e "StopIteration" ∧ Q none s') ha hh hv hok _ j h t rfl hj D
    (fun j' x h' t' tk h1 h2 h3 D => hn j' x h' t' tk h1 h2 h3 D) (fun e h' t' h1 D hT'' => ⟨hT'', hs h' t' h1 D⟩)
  have conv : ∀ (e : Value) (s' : Shared), (s'.TypeIs e "StopIteration" ∧ Q none s') → wpAny (model prog w) A (do if ← isInstance e (.type "StopIteration") then pure none else throw e) Q E s' := fun e s' ⟨q1, q2⟩ =>
    wpAny_bind (wpAny_isInstance (T := "StopIteration") (b := true) q1 isSubtype_stop (wpAny_pure q2))
  unfold pyNext
  refine wpAny_bind (wpAny_attempt (wpAny_callSpecial?_slot hT' fi_next (wpAny_call (codeAny_call_builtin fi_next.plain fi_entry_next (fi_next.check _ _ _ _ _ _ _ _ hT' (fi_args_next _)
    (wpAny_mono key (fun fin s' q => ?_) (fun e s' q => conv e s' q)))))))
  cases fin with
  | done f =>
    cases f with
    | ret v => exact wpAny_pure q
    | _ => exact q.elim
  | again c' =>
    refine ⟨q.1, codeAny_mono q.2 fun r s' q => ?_⟩
    cases r with
    | error e => exact conv e s' q
    | ok f =>
      cases f with
      | ret v => exact wpAny_pure q
      | _ => exact q.elim
end
theorem mxI_two (m x : Int) : ∀ r : List Int, mxI (m :: x :: r) = mxI (max m x :: r)
  | [] => rfl
  | b :: r => by
    exact (Int.max_assoc m x (mxI (b :: r))).symm
inductive BestIs : Option Int → List Value → Prop
  | none : BestIs none []
  | some (m : Int) (u v : Tok) : BestIs (some m) [.int m u, .int m v]
section
variable {prog : Program} {w : World} {A : Around} {E : Value → Shared → Prop} {s : Shared} {hT : Heap} {L S F I d : Addr} {ep : Nat} {kvs : List (Int × Value)} {g l : List Fact} {P PS : Obj → Prop} {ls : List (Option Int)}
theorem rc_gt {a b : Int} {u v : Tok} {Q : Value → Shared → Prop} (k : Q (.bool (decide (a > b))) s) : wpAny (model prog w) A (richCompare .Gt (.int a u) (.int b v)) Q E s :=
  (CmpOf.ints_gt (P := fun (i : Nat) x => ∃ t, x = .int (if i = 0 then a else b) t) (fun i => if i = 0 then a else b) (fun _ _ h => h)) 0 1 _ _ s Q E ⟨_, rfl⟩ ⟨_, rfl⟩ k
theorem mxd_loop {R : Result → Shared → Prop} {u : Tok} (ha : hT.objs.size ≤ L) (hh : A.handled = none) (hv : Paired LnV ls (kvs.map (·.2))) (hok : LnsOk ls) :
    ∀ (m j : Nat) (h : Heap) (t : Nat) (b : Option Int) (B : List Value), ls.length - j ≤ m → j ≤ ls.length → BestIs b B → Led hT g ((L, P) :: (S, LstO B) :: (F, FiO I) :: (I, ViO d j kvs.length ep) :: (d, DctE prog w kvs ep) :: l) h →
    (∀ h' t' tk, Led hT g ((L, P) :: (S, LstO []) :: (F, FiO I) :: (d, DctE prog w kvs ep) :: l) h' → R (.ok (.ret (.int (mxI (b.toList ++ thereL (ls.drop j))) tk))) (At s h' t')) →
    codeAny (model prog w) A (.builtin "max.loop" ⟨[.ref F, .none, .ref S], [("default", .int (-1) u)]⟩) R (At s h t) := by
  have hname : (toString "max" ++ toString ".loop" : String) = "max.loop" := by decide
  intro m
  induction m with
  | zero =>
    intro j h t b B hm hj hB D hR
    obtain rfl : j = ls.length := by omega
    refine codeAny_builtin PySem.F.entry_max_loop ?_
    rw [Around.under_plainId PySem.F.plain_max_loop _]
    obtain ⟨_, hS, nS, rfl⟩ := D.atL (.s .z)
    show wpAny _ A.in1 (seqItems? (.ref S) >>= _) _ _ _
    refine wpAny_bind (wpAny_seqItems hS rfl ?_)
    clear hS
    show wpAny _ A.in1 (tryCatch (pyNext (.ref F)) _ >>= _) _ _ _
    refine wpAny_bind (wpAny_tryCatch (fil_next (A := A.in1) ha hh hv hok (Nat.le_refl _) D (fun j' x h' t' tk h1 h2 _ _ => absurd h1 (by omega)) (fun h' t' h1 D => ?_)))
    rw [h1, List.append_nil] at hR
    cases hB with
    | none => exact wpAny_bind (wpAny_rule (wpAny_pure (hR _ _ _ D)))
    | some m0 u0 v0 =>
      obtain ⟨_, hS, nS, rfl⟩ := D.atL (.s .z)
      show wpAny _ A.in1 (updateSeq S (fun _ => #[]) >>= _) _ _ _
      refine wpAny_bind (wpAny_updateSeq hS rfl (wpAny_bind (wpAny_letGo (wpAny_pure ?_))))
      exact hR _ _ _ (D.sameL (.s .z) (.s .z) (Heap.SameBut.update ..) ⟨_, Heap.get?_update_self _ hS rfl, LstO.map (by simp)⟩)
  | succ m ih =>
    intro j h t b B hm hj hB D hR
    refine codeAny_builtin PySem.F.entry_max_loop ?_
    rw [Around.under_plainId PySem.F.plain_max_loop _]
    obtain ⟨_, hS, nS, rfl⟩ := D.atL (.s .z)
    show wpAny _ A.in1 (seqItems? (.ref S) >>= _) _ _ _
    refine wpAny_bind (wpAny_seqItems hS rfl ?_)
    clear hS
    show wpAny _ A.in1 (tryCatch (pyNext (.ref F)) _ >>= _) _ _ _
    refine wpAny_bind (wpAny_tryCatch (fil_next (A := A.in1) ha hh hv hok hj D (fun j' x h' t' tk h1 h2 h3 D => ?_) (fun h' t' h1 D => ?_)))
    · rw [h3] at hR
      cases hB with
      | none =>
        obtain ⟨_, hS, nS, rfl⟩ := D.atL (.s .z)
        show wpAny _ A.in1 (updateSeq S (fun _ => #[.int x tk, .int x tk]) >>= _) _ _ _
        refine wpAny_bind (wpAny_updateSeq hS rfl ?_)
        rw [hname]
        refine wpAny_pure ⟨plainId_quiet PySem.F.plain_max_loop _, ih j' _ _ (some x) [.int x tk, .int x tk] (by omega) h2 (.some x tk tk) (D.sameL (.s .z) (.s .z) (Heap.SameBut.update ..) ⟨_, Heap.get?_update_self _ hS rfl, LstO.map (by simp)⟩) ?_⟩
        exact hR
      | some m0 u0 v0 =>
        show wpAny _ A.in1 (tryCatch (holding [.int x tk, .int x tk] (richCompare .Gt (.int x tk) (.int m0 v0) >>= _)) _ >>= _) _ _ _
        refine wpAny_bind (wpAny_tryCatch (wpAny_holding (wpAny_bind (rc_gt ?_))))
        refine wpAny_bind (wpAny_holding (wpAny_truthy_bool ?_))
        refine wpAny_bind (wpAny_letGo (wpAny_pure ?_))
        have hmx : mxI ((some m0).toList ++ x :: thereL (ls.drop j')) = mxI (max m0 x :: thereL (ls.drop j')) := mxI_two _ _ _
        rw [hmx] at hR
        by_cases hc : x > m0
        · rw [decide_eq_true hc, if_pos rfl]
          obtain ⟨_, hS, nS, rfl⟩ := D.atL (.s .z)
          show wpAny _ A.in1 (updateSeq S (fun _ => #[.int x tk, .int x tk]) >>= _) _ _ _
          refine wpAny_bind (wpAny_updateSeq hS rfl (wpAny_bind (wpAny_letGo ?_)))
          rw [hname]
          refine wpAny_pure ⟨plainId_quiet PySem.F.plain_max_loop _, ih j' _ _ (some x) [.int x tk, .int x tk] (by omega) h2 (.some x tk tk) (D.sameL (.s .z) (.s .z) (Heap.SameBut.update ..) ⟨_, Heap.get?_update_self _ hS rfl, LstO.map (by simp)⟩) ?_⟩
          rw [show max m0 x = x by omega] at hR
          exact hR
        · rw [decide_eq_false hc, if_neg Bool.false_ne_true]
          refine wpAny_bind (wpAny_letGo ?_)
          rw [hname]
          refine wpAny_pure ⟨plainId_quiet PySem.F.plain_max_loop _, ih j' _ _ (some m0) [.int m0 u0, .int m0 v0] (by omega) h2 (.some m0 u0 v0) D ?_⟩
          rw [show max m0 x = m0 by omega] at hR
          exact hR
    · rw [h1, List.append_nil] at hR
      cases hB with
      | none => exact wpAny_bind (wpAny_rule (wpAny_pure (hR _ _ _ D)))
      | some m0 u0 v0 =>
        obtain ⟨_, hS, nS, rfl⟩ := D.atL (.s .z)
        show wpAny _ A.in1 (updateSeq S (fun _ => #[]) >>= _) _ _ _
        refine wpAny_bind (wpAny_updateSeq hS rfl (wpAny_bind (wpAny_letGo (wpAny_pure ?_))))
        exact hR _ _ _ (D.sameL (.s .z) (.s .z) (Heap.SameBut.update ..) ⟨_, Heap.get?_update_self _ hS rfl, LstO.map (by simp)⟩)
end
theorem dict_move {prog prog' : Program} {w w' : World} {h : Heap} {d : Addr} {kvs : List (Int × Value)} {ep : Nat} (x : h.DictAt (intKind prog w) d kvs ep) : h.DictAt (intKind prog' w') d kvs ep := by
  obtain ⟨o, es, h1, h2, h3, h4, h5, h6⟩ := x
  refine ⟨o, es, h1, h2, h3, h4, ?_, h6⟩
  clear h1 h2 h3 h4 h6
  generalize es.toList = l at h5 ⊢
  induction h5 with
  | nil => exact .nil
  | cons a b _ ih => exact .cons a b ih
noncomputable def viObj (d : Addr) (n ep : Nat) : Obj := { cls := .type "dict_valueiterator", data := .fields #[.ref d, .int 0 0, .int n 0, .int ep 0] }
theorem meets_filter_new (prog₀ : Program) (w₀ : World) (v d : Addr) (kvs : List (Int × Value)) (ep : Nat) :
    Meets (Builtin.«filter.__new__» ⟨[.type "filter", .none, .ref v], []⟩) (fun _ R s => (s.heap.IsValuesView v d ∧ s.heap.DictAt (intKind prog₀ w₀) d kvs ep) ∧
      R (.ok (.ret (.ref (s.heap.push (viObj d kvs.length ep)).objs.size))) { s with heap := (s.heap.push (viObj d kvs.length ep)).push { cls := .type "filter", data := .fields #[.none, .ref s.heap.objs.size] } }) :=
  .of_wp fun prog w A R s h => by
    obtain ⟨hp, g, dr, tk, os⟩ := s
    obtain ⟨⟨hv, hm⟩, h⟩ := h
    have hm : Heap.DictAt (intKind prog w) (Shared.heap ⟨hp, g, dr, tk, os⟩) d kvs ep := dict_move hm
    have hsub := fi_called.sub
    wp_walk using wpAny_pyIter_values hv hm
    exact ⟨_, rfl, h⟩
section
variable {prog : Program} {w : World} {A : Around} {E : Value → Shared → Prop} {s : Shared} {h hT : Heap} {t : Nat} {L d : Addr} {ep : Nat} {kvs : List (Int × Value)} {g l : List Fact} {P : Obj → Prop} {ls : List (Option Int)} {mg mb : Str → Option Value}
theorem Tp.ne_mod (T : Tp w mg mb hT) (hd : hT.objs.size ≤ d) : (d == sysModules) = false := by
  have h1 : (187 : Nat) < hT.objs.size := Heap.lt_size (T.X _ _ (fn_deed w).obj)
  rw [beq_eq_false_iff_ne]
  intro e
  rw [e] at hd
  exact absurd (Nat.lt_of_lt_of_le h1 hd) (by decide)
theorem v_call {c : Fact} {i : Nat} {Q : Value → Shared → Prop} (D : Led hT g (c :: l) h) (hi : AtI (c :: l) i (d, DctE prog w kvs ep)) (hd : (d == sysModules) = false) (k : ∀ v h', Led hT g (c :: (v, VwO d) :: l) h' → Q (.ref v) (At s h' t)) :
    wpAny (model prog w) A (call (.builtin "dict.values") [.ref d]) Q E (At s h t) := by
  obtain ⟨o, es, ho, r⟩ := dct_at D hi
  have hTy : (At s h t).TypeIs (.ref d) "dict" := by
    obtain ⟨q, _⟩ := r
    exact ⟨o, ho, q.1⟩
  refine call_meetsIn PySem.F.slot_dict_values hTy PySem.F.entry_dict_values (PySem.F.args_dict_values_1 _) (meets_dict_values (intKind prog w) d hd) ⟨⟨kvs, o, es, ep, ho, r⟩, ?_⟩
  exact k _ _ (D.push2 rfl rfl)
theorem fi_call {v : Addr} {i : Nat} {Q : Value → Shared → Prop} (D : Led hT g ((L, P) :: (v, VwO d) :: l) h) (hi : AtI l i (d, DctE prog w kvs ep))
    (k : ∀ F I h', Led hT g ((L, P) :: (F, FiO I) :: (I, ViO d 0 kvs.length ep) :: (v, VwO d) :: l) h' → Q (.ref F) (At s h' t)) : wpAny (model prog w) A (call (.type "filter") [.none, .ref v]) Q E (At s h t) := by
  obtain ⟨_, hv, rfl⟩ := D.atL (.s .z)
  refine callType_new (s := At s h t) fi_called (by decide) (fi_typeCall _ _) (fi_newCall _ _) (fun obj => by unfold argsOk; kernel_rfl) fi_entry_new (meets_filter_new prog w v d kvs ep) ⟨⟨⟨_, hv, rfl, rfl⟩, dct_at D (.s (.s hi))⟩, ?_⟩
  have D₁ : Led hT g ((L, P) :: (h.objs.size, ViO d 0 kvs.length ep) :: (v, VwO d) :: l) (h.push (viObj d kvs.length ep)) := D.push2 rfl ⟨rfl, rfl⟩
  have D₂ := D₁.push2 (P := FiO h.objs.size) (o := { cls := .type "filter", data := .fields #[.none, .ref h.objs.size] }) rfl rfl
  exact ⟨⟨_, Heap.get?_push_size _ rfl, rfl⟩, k _ _ _ D₂⟩
end
theorem ci_entry : entryFor table "proto.contains_iter" = some Builtin.«proto.contains_iter» := entryFor_of_tree (by kernel_rfl)
theorem ci_plain : plainId "proto.contains_iter" = true := by decide +kernel
theorem vw_no : typeLookup (.type "dict_values") "__contains__" = pure none := by rw [typeLookup_type, builtinLookup_eq_fast]; kernel_rfl
section
variable {prog : Program} {w : World} {A : Around} {E : Value → Shared → Prop} {s : Shared} {h hT : Heap} {t : Nat} {L S F I d : Addr} {ep : Nat} {kvs : List (Int × Value)} {g l : List Fact} {P PS : Obj → Prop} {ls : List (Option Int)} {mg mb : Str → Option Value}
theorem mx_tree {args : List Value} {kw : List (Str × Value)} {Q : Value → Shared → Prop} {s : Shared} (ha : argsOk "max" ⟨args, kw⟩)
    (hc : wpAny (model prog w) A.in1 (Builtin.«max» ⟨args, kw⟩) (fun fin s' => match fin with | .done f => wants Q E (.ok f) s' | .again c' => c'.quiet = true ∧ codeAny (model prog w) A c' (wants Q E) s') (fun e s' => wants Q E (.error e) s') s) :
    wpAny (model prog w) A (call (.builtin "max") args kw) Q E s := by
  refine wpAny_call (codeAny_call_builtin PySem.F.plain_max PySem.F.entry_max ?_)
  simp only [checkBuiltinCall, PySem.F.kind_max]
  cases hsig : Manifest.signature? "max" with
  | none => exact wpAny_pure hc
  | some sig =>
    have ha' : Bind.checkArgs "max" sig ⟨args, kw⟩ = pure () := by simpa only [argsOk, hsig] using ha
    simp only [ha']
    exact wpAny_pure hc
theorem mxd_args (a b : Value) : argsOk "max" ⟨[a], [(Str.ofString "default", b)]⟩ := by unfold argsOk; kernel_rfl
theorem mxd_call {u : Tok} {Q : Value → Shared → Prop} (ha : hT.objs.size ≤ L) (hh : A.handled = none) (hv : Paired LnV ls (kvs.map (·.2))) (hok : LnsOk ls)
    (D : Led hT g ((L, P) :: (F, FiO I) :: (I, ViO d 0 kvs.length ep) :: (d, DctE prog w kvs ep) :: l) h)
    (k : ∀ h' t' tk, Led hT g ((L, P) :: (d, DctE prog w kvs ep) :: l) h' → Q (.int (mxI (thereL ls)) tk) (At s h' t')) :
    wpAny (model prog w) A (call (.builtin "max") [.ref F] [(Str.ofString "default", .int (-1) u)]) Q E (At s h t) := by
  have hname : (toString "max" ++ toString ".loop" : String) = "max.loop" := by decide
  have hTy : (At s h t).TypeIs (.ref F) "filter" := by
    obtain ⟨_, hF, rfl⟩ := D.atL (.s .z)
    exact ⟨_, hF, rfl⟩
  refine mx_tree (mxd_args _ _) ?_
  show wpAny _ A.in1 (Builtin.Builtins.bindParams "max" ["key", "default"] 0 ⟨[], [(Str.ofString "default", .int (-1) u)]⟩ >>= _) _ _ _
  refine wpAny_bind (wpAny_of_eq (show Builtin.Builtins.bindParams "max" ["key", "default"] 0 ⟨[], [(Str.ofString "default", .int (-1) u)]⟩ = pure [none, some (.int (-1) u)] by kernel_rfl) ?_)
  refine wpAny_bind (wpAny_pure ?_)
  refine wpAny_bind (wpAny_pyIter_slot hTy fi_iter (wpAny_call_entry fi_iter hTy fi_entry_iter ?_ (fi_args_iter _)))
  show wpAny _ _ (ret (.ref F)) _ _ _
  refine wpAny_pure ⟨_, rfl, "filter", _, hTy, fi_next.lookup, ?_⟩
  refine wpAny_bind (wpAny_newObj_type ?_)
  rw [hname]
  refine wpAny_pure ⟨plainId_quiet PySem.F.plain_max_loop _, ?_⟩
  have D : Led hT g ((L, P) :: (h.objs.size, LstO []) :: (F, FiO I) :: (I, ViO d 0 kvs.length ep) :: (d, DctE prog w kvs ep) :: l) (h.push { cls := .type "list", dict := none, data := .seq ([] : List Value).toArray }) := D.push2 rfl ⟨_, rfl⟩
  refine mxd_loop ha hh hv hok _ 0 _ t none [] (Nat.le_refl _) (Nat.zero_le _) .none D ?_
  intro h' t' tk D
  exact k h' t' tk (D.sub (.cons_cons _ (.cons _ (.cons _ (.refl _)))))
theorem none_loop {R : Result → Shared → Prop} (ha : hT.objs.size ≤ L) (hh : A.handled = none) (hu : A.units < 9000) (hv : Paired LnV ls (kvs.map (·.2))) :
    ∀ (m j : Nat) (h : Heap) (t : Nat), ls.length - j = m → j ≤ ls.length → Led hT g ((L, P) :: (I, ViO d j kvs.length ep) :: (d, DctE prog w kvs ep) :: l) h →
    (∀ h' t', Led hT g ((L, P) :: (d, DctE prog w kvs ep) :: l) h' → R (.ok (.ret (.bool (decide (none ∈ ls.drop j))))) (At s h' t')) →
    codeAny (model prog w) A (.builtin "proto.contains_iter" ⟨[.ref I, .none], []⟩) R (At s h t) := by
  have hl : ls.length = kvs.length := by have := hv.length; rwa [List.length_map] at this
  have hu' : A.in1.units + min 0 0 < cLine := by
    show A.units + 1 + 0 < 9900
    omega
  intro m
  induction m with
  | zero =>
    intro j h t hm hj D hR
    obtain rfl : j = ls.length := by omega
    refine codeAny_builtin ci_entry ?_
    rw [Around.under_plainId ci_plain _]
    obtain ⟨oi, hI, hI1, hI2⟩ := D.atL (.s .z)
    refine wpAny_bind (wpAny_pyNext_values_end (A := A.in1) (s := At s h t) (knd := intKind prog w) hh ⟨oi, hI, hI1, hI2⟩ (dct_at D (.s (.s .z))) (by simp; omega) fun h' hx => ?_)
    refine wpAny_bind (wpAny_rule (wpAny_pure ?_))
    have := hR h' t (D.extBut ha hx)
    simpa using this
  | succ m ih =>
    intro j h t hm hj D hR
    obtain ⟨⟨k, v⟩, hkv⟩ : ∃ p, kvs[j]? = some p := ⟨_, List.getElem?_eq_getElem (by omega)⟩
    obtain ⟨x, hx, hxv⟩ := paired_at (j := j) (v := v) hv (by rw [List.getElem?_map, hkv]; rfl)
    have hdr : ls.drop j = x :: ls.drop (j + 1) := by
      obtain ⟨hj', he⟩ := List.getElem?_eq_some_iff.mp hx
      rw [List.drop_eq_getElem_cons hj', he]
    refine codeAny_builtin ci_entry ?_
    rw [Around.under_plainId ci_plain _]
    obtain ⟨oi, hI, hI1, hI2⟩ := D.atL (.s .z)
    refine wpAny_bind (wpAny_pyNext_values_item (A := A.in1) (s := At s h t) (knd := intKind prog w) ⟨oi, hI, hI1, hI2⟩ (dct_at D (.s (.s .z))) hkv fun h' hit' hsb => ?_)
    have D := D.sameL (P' := ViO d (j + 1) kvs.length ep) (.s .z) (.s .z) hsb hit'
    rw [hdr] at hR
    cases x with
    | none =>
      obtain rfl : v = .none := hxv
      refine wpAny_bind (PySem.SeqAt.eqBoolOverData _ _ _ _ _ _ _ PyData.none PyData.none [] [] _ Reads.none Reads.none rfl rfl hu' ?_)
      refine wpAny_bind (wpAny_rule (wpAny_pure ?_))
      have := hR h' t (D.sub (.cons_cons _ (.cons _ (.refl _))))
      simpa using this
    | some x =>
      obtain ⟨tk, rfl⟩ := hxv
      refine wpAny_bind (PySem.SeqAt.eqBoolOverData _ _ _ _ _ _ _ (PyData.int x) PyData.none [] [] _ (Reads.int _ _) Reads.none rfl rfl hu' ?_)
      refine wpAny_pure ⟨plainId_quiet ci_plain _, ih (j + 1) h' t (by omega) (by omega) D ?_⟩
      intro h' t' D
      have := hR h' t' D
      simpa using this
theorem none_in {v : Addr} {Q : Value → Shared → Prop} (ha : hT.objs.size ≤ L) (hh : A.handled = none) (hu : A.units < 9000) (hv : Paired LnV ls (kvs.map (·.2))) (D : Led hT g ((L, P) :: (v, VwO d) :: (d, DctE prog w kvs ep) :: l) h)
    (k : ∀ h' t', Led hT g ((L, P) :: (d, DctE prog w kvs ep) :: l) h' → Q (.bool (decide (none ∈ ls))) (At s h' t')) : wpAny (model prog w) A (compareOp .In .none (.ref v)) Q E (At s h t) := by
  obtain ⟨_, hvo, rfl⟩ := D.atL (.s .z)
  have hTy : (At s h t).TypeIs (.ref v) "dict_values" := ⟨_, hvo, rfl⟩
  refine wpAny_bind (wpAny_holding ?_)
  refine wpAny_bind (wpAny_specialOf hTy vw_no ?_)
  refine wpAny_bind (wpAny_callSpecialUnlessNone?_none hTy vw_no ?_)
  refine wpAny_bind (wpAny_rule ?_)
  refine wpAny_bind (wpAny_tryCatch ?_)
  refine wpAny_pyIter_values (s := At s h t) (knd := intKind prog w) ⟨_, hvo, rfl, rfl⟩ (dct_at D (.s (.s .z))) ?_
  refine wpAny_bind (wpAny_runValue ?_)
  have D₁ : Led hT g ((L, P) :: (h.objs.size, ViO d 0 kvs.length ep) :: (v, VwO d) :: (d, DctE prog w kvs ep) :: l) (h.push (viObj d kvs.length ep)) := D.push2 rfl ⟨rfl, rfl⟩
  have D₁ := D₁.sub (l' := (L, P) :: (h.objs.size, ViO d 0 kvs.length ep) :: (d, DctE prog w kvs ep) :: l) (.cons_cons _ (.cons_cons _ (.cons _ (.refl _))))
  refine none_loop ha hh hu hv _ 0 _ t rfl (Nat.zero_le _) D₁ ?_
  intro h' t' D
  exact wpAny_pure (wpAny_pure (k h' t' D))
end
section
theorem i_neg {prog : Program} {w : World} {A : Around} {E : Value → Shared → Prop} {s : Shared} {h : Heap} {t : Nat} {a : Int} {u : Tok} {Q : Value → Shared → Prop} (k : ∀ tk t', Q (.int (-a) tk) (At s h t')) : wpAny (model prog w) A (unaryOp .USub (.int a u)) Q E (At s h t) := PySem.P.neg_int (k _ _)
local macro_rules | `(tactic| walk_at "m") => `(tactic| first | with_reducible refine z_eq ?_ | (with_reducible refine wpAny_UnaryOp ?_) | (with_reducible refine i_neg ?_; intro _ _))
theorem fn_width (w : World) : FnAt w 51 [Str.ofString "linestarts"] [Str.ofString "maxlineno", Str.ofString "lineno_width"] [Str.ofString "max", Str.ofString "filter", Str.ofString "len", Str.ofString "str", Str.ofString "_NO_LINENO"] :=
  ⟨by kernel_rfl, by kernel_rfl, by kernel_rfl, by kernel_rfl, by kernel_rfl, ⟨by kernel_rfl, by kernel_rfl⟩, by kernel_rfl⟩
noncomputable abbrev wiNs : List Str := [Str.ofString "linestarts", Str.ofString "maxlineno", Str.ofString "lineno_width"]
theorem gl_noline {w : World} {mg mb : Str → Option Value} {hT : Heap} (T : Tp w mg mb hT) : ∃ tk, mg (Str.ofString "_NO_LINENO") = some (.str (Str.ofString "  --") tk) := by
  have h : (match nsIn (hd.heap_39 w.params) mainGlobals "_NO_LINENO" with | some (some (.str x _)) => x == Str.ofString "  --" | _ => false) = true := by kernel_rfl
  split at h
  · rename_i x tk e
    have e2 := mg_of T.X T.g e
    rw [show x = Str.ofString "  --" by simpa using h] at e2
    exact ⟨tk, e2⟩
  · cases h
section
variable {prog : Program} {w : World} {A : Around} {E : Value → Shared → Prop} {s : Shared} {h hT : Heap} {t : Nat} {L d : Addr} {kvs : List (Int × Value)} {g l : List Fact} {P : Obj → Prop} {ls : List (Option Int)} {mg mb : Str → Option Value} {n : Nat} {es : List Env}
theorem Led.fixEp (D : Led hT g ((L, P) :: (d, DctI prog w kvs) :: l) h) : ∃ ep, Led hT g ((L, P) :: (d, DctE prog w kvs ep) :: l) h := by
  obtain ⟨o, ho, es, ep, r⟩ := D.atL (.s .z)
  exact ⟨ep, D.sameL (.s .z) (.s .z) ⟨rfl, fun _ _ => rfl⟩ ⟨o, ho, es, r⟩⟩
theorem d_values {ep i : Nat} {pl : Sem Bool} {Q : Value × List Value → Shared → Prop} (D : Led hT g l h) (hi : AtI l i (d, DctE prog w kvs ep)) (k : Q (.builtin "dict.values", [.ref d]) (At s h t)) :
    wpAny (model prog w) A (getMethod (.ref d) (Str.ofString "values") pl) Q E (At s h t) := by
  obtain ⟨o, es, ho, q, r⟩ := dct_at D hi
  exact getMethod_builtin (s := At s h t) ⟨o, ho, q.1⟩ PySem.F.plainAttrs_dict PySem.F.slot_dict_values PySem.F.type_dict_values (fun b e => by cases e; exact ⟨_, ho, q.2.1⟩) k
set_option maxHeartbeats 8000000 in
theorem width_spec (T : Tp w mg mb hT) (D : Led hT g ((d, DctI prog w kvs) :: l) h) (r : Rm (n + 5) A es) (hd : hT.objs.size ≤ d) (hv : Paired LnV ls (kvs.map (·.2))) (hok : LnsOk ls) :
    codeAny (model prog w) A (.call (.ref 51) ⟨[.ref d], []⟩) (Ret hT g l s fun v => ∃ tk, v = .int (widF ls) tk) (At s h t) := by
  refine call_top (ns := wiNs) (vs := [some (.ref d), none, none]) D T (fn_width w) r.room (as := [.ref d]) (.of_eq (by kernel_rfl)) rfl rfl rfl ?_
  clear D
  intro L h t D S
  obtain ⟨ep, D⟩ := D.fixEp
  have r := r.deeper (callEnv (fd 51) L 51)
  refine wpAny_mono (Q := Out (Ret hT g l s fun v => ∃ tk, v = .int (widF ls) tk)) (E := fun _ _ => False) ?_ (fun _ _ q => q) (fun _ _ q => q.elim)
  refine x_cons (st := _) (rest := _) ?_
  repeat walk_at "m"
  refine is_none_ne (by intro x; cases x) ?_
  repeat walk_at "m"
  refine b_no rfl ?_
  repeat walk_at "m"
  refine callWith_kw ?_ (by with_unfolding_all rfl) (by with_unfolding_all rfl) (by with_unfolding_all rfl) (by with_unfolding_all rfl)
  repeat walk_at "m"
  refine d_values D (.s .z) ?_
  refine c_bi' (by with_unfolding_all rfl) ?_
  repeat walk_at "m"
  refine v_call D (.s .z) (T.ne_mod hd) ?_
  clear D
  intro v h D
  repeat walk_at "m"
  refine fi_call D .z ?_
  clear D
  intro F I h D
  repeat walk_at "m"
  refine kws_cons ?_
  repeat walk_at "m"
  refine kws_nil ?_
  have D := D.sub (l' := (L, _) :: (F, _) :: (I, _) :: (d, _) :: l) (.cons_cons _ (.cons_cons _ (.cons_cons _ (.cons _ (.refl _)))))
  refine mxd_call S.abv r.hnd hv hok D ?_
  clear D
  intro h t tk D
  repeat walk_at "m"
  refine b_two (fun hb => ?_) (fun hb => ?_)
  · have hm : mxI (thereL ls) = -1 := by simpa using hb
    repeat walk_at "m"
    exact ⟨_, _, _, rfl, rfl, Led.sub (by assumption) (.cons _ (.cons _ (.refl _))), _, by unfold widF; rw [if_pos hm]⟩
  · have hm : ¬ mxI (thereL ls) = -1 := by simpa using hb
    have hne : thereL ls ≠ [] := fun e => hm (by rw [e]; rfl)
    obtain ⟨m1, m2⟩ := mxI_spec hne
    obtain ⟨b1, b2⟩ := hok _ (mem_there.mp m1)
    have hsl : (Str.ofString (toString (mxI (thereL ls)))).length ≤ 10 := KT.len_num (by omega) (by omega)
    repeat walk_at "m"
    refine i_strI (by omega) (by omega) ?_
    intro _ _
    repeat walk_at "m"
    refine z_len (by rw [sizeLine_eq]; omega) ?_
    intro _ _
    repeat walk_at "m"
    clear D
    have D := (by assumption : Led hT g ((L, Frm wiNs [some (.ref d), some (.int (mxI (thereL ls)) _), none]) :: (d, DctE prog w kvs ep) :: l) _)
    refine i_max D S r.hnd ?_
    clear D
    intro h tk t D
    repeat walk_at "m"
    obtain ⟨tn, hnl⟩ := gl_noline T
    have h4 : (Str.ofString "  --").length = 4 := by decide +kernel
    have hw : widF ls = if max 3 ((Str.ofString (toString (mxI (thereL ls)))).length : Int) < 4 ∧ none ∈ ls then 4 else max 3 ((Str.ofString (toString (mxI (thereL ls)))).length : Int) := by
      unfold widF; rw [if_neg hm]
    clear D
    have D := (by assumption : Led hT g ((L, Frm wiNs [some (.ref d), some (.int (mxI (thereL ls)) _), some (.int (max 3 ((Str.ofString (toString (mxI (thereL ls)))).length : Int)) _)]) :: (d, DctE prog w kvs ep) :: l) _)
    refine wpAny_isTrue_BoolOp (wpAny_allTrue_And_cons ?_)
    repeat walk_at "m"
    refine gv D T S (.s (.s (.s (.s .z)))) hnl ?_
    repeat walk_at "m"
    rw [h4]
    by_cases hc : max 3 ((Str.ofString (toString (mxI (thereL ls)))).length : Int) < 4
    · rw [decide_eq_true (by exact_mod_cast hc), if_pos rfl]
      refine wpAny_allTrue_And_cons ?_
      repeat walk_at "m"
      refine d_values D (.s .z) ?_
      refine c_bi' (by with_unfolding_all rfl) ?_
      repeat walk_at "m"
      refine v_call D (.s .z) (T.ne_mod hd) ?_
      clear D
      intro v h D
      refine none_in S.abv r.hnd (by have := r.uni; omega) hv D ?_
      clear D
      intro h t D
      repeat walk_at "m"
      by_cases hno : none ∈ ls
      · rw [decide_eq_true hno, if_pos rfl]
        refine wpAny_allTrue_And_nil ?_
        refine b_yes rfl ?_
        repeat walk_at "m"
        refine gv D T S (.s (.s (.s (.s .z)))) hnl ?_
        repeat walk_at "m"
        rw [h4] at *
        exact ⟨_, _, _, rfl, rfl, Led.sub (by assumption) (.cons _ (.cons _ (.refl _))), _, by rw [hw, if_pos ⟨hc, hno⟩]; rfl⟩
      · rw [decide_eq_false hno, if_neg Bool.false_ne_true]
        refine b_no rfl ?_
        repeat walk_at "m"
        exact ⟨_, _, _, rfl, rfl, Led.sub (by assumption) (.cons _ (.cons _ (.refl _))), _, by rw [hw, if_neg (fun z => hno z.2)]⟩
    · rw [decide_eq_false (by exact_mod_cast hc), if_neg Bool.false_ne_true]
      refine b_no rfl ?_
      repeat walk_at "m"
      exact ⟨_, _, _, rfl, rfl, Led.sub (by assumption) (.cons _ (.cons _ (.refl _))), _, by rw [hw, if_neg (fun z => hc z.1)]⟩
end
end
theorem fm_map {α β : Type} {f : α → Option β} {g : α → β} : ∀ {l : List α}, (∀ k ∈ l, f k = some (g k)) → l.filterMap f = l.map g
  | [], _ => rfl
  | a :: l, h => by
    rw [List.filterMap_cons, h a (.head _), List.map_cons, fm_map fun k hk => h k (.tail _ hk)]
theorem pick_rev (xs : List Value) : (slicePick xs.toArray none none (some (-1))).toList = xs.reverse := by
  unfold slicePick
  have hb : sliceBounds none none (some (-1)) xs.toArray.size = ((xs.length : Int) - 1, -1, -1) := by
    unfold sliceBounds
    simp
  rw [hb]
  have hr : sliceRange ((xs.length : Int) - 1) (-1) (-1) = (List.range xs.length).map fun k => xs.length - 1 - k := by
    unfold sliceRange
    rw [if_neg (by decide)]
    by_cases hl : xs.length = 0
    · rw [hl]; rfl
    · have hc : ((xs.length : Int) - 1 > -1) := by omega
      dsimp only
      rw [if_pos hc]
      have h1 : ((xs.length : Int) - 1 - -1 - -1 - 1) / - -1 = xs.length := by
        have : (- -1 : Int) = 1 := by decide
        rw [this, Int.ediv_one]; omega
      rw [h1, Int.toNat_natCast]
      refine List.map_congr_left fun k hk => ?_
      rw [List.mem_range] at hk
      omega
  dsimp only
  rw [hr, List.filterMap_map]
  refine List.ext_getElem? fun i => ?_
  have hfm : (List.range xs.length).filterMap ((fun x => xs.toArray[x]?) ∘ fun k => xs.length - 1 - k) = (List.range xs.length).map fun k => xs.reverse[k]?.getD .none := by
    refine fm_map fun k hk => ?_
    rw [List.mem_range] at hk
    simp only [Function.comp, List.getElem?_toArray]
    rw [List.getElem?_reverse hk, List.getElem?_eq_getElem (by omega)]
    rfl
  rw [hfm, List.getElem?_map]
  by_cases hi : i < xs.length
  · rw [List.getElem?_range hi, List.getElem?_eq_getElem (by simpa using hi)]
    simp [hi]
  · rw [List.getElem?_eq_none (by simpa using hi), List.getElem?_eq_none (by simpa using hi)]
    rfl
section
variable {prog : Program} {w : World} {A : Around} {E : Value → Shared → Prop} {s : Shared} {h hT : Heap} {t : Nat} {L d : Addr} {g l : List Fact} {P : Obj → Prop}
theorem getItem_two {a sl : Addr} {x y z : Value} {u : Tok} {Q : Value → Shared → Prop} (ht : ∃ o, h.get? a = some o ∧ TupO [x, y, z] o) (hs : h.IsSliceOf sl .none (.int 2 u) .none)
    (k : Q (.ref h.objs.size) (At s (h.push { cls := .type "tuple", data := .seq #[x, y] }) t)) : wpAny (model prog w) A (getItem (.ref a) (.ref sl)) Q E (At s h t) := by
  obtain ⟨_, ha, rfl⟩ := ht
  obtain ⟨os, hos, hcs, hds⟩ := id hs
  have hT : (At s h t).TypeIs (.ref a) "tuple" := ⟨_, ha, rfl⟩
  have hTs : (At s h t).TypeIs (.ref sl) "slice" := ⟨os, hos, hcs⟩
  unfold getItem
  refine wpAny_holding ?_
  refine wpAny_bind (wpAny_sequenceKey hT (by decide) ?_)
  refine wpAny_bind (wpAny_callSpecial?_slot (name := Str.ofString "__getitem__") hT PyProof.Rows.slot_tuple_getitem (wpAny_call_entry PyProof.Rows.slot_tuple_getitem hT PyProof.Rows.entry_tuple_getitem ?_ (PyProof.Rows.args_tuple_getitem _ _)))
  refine wpAny_bind (wpAny_pure ?_)
  refine wpAny_bind (wpAny_bind (wpAny_seqItems ha rfl (wpAny_pure ?_)))
  refine wpAny_bind (wpAny_typeOf hTs ?_)
  rw [if_pos (by decide)]
  refine wpAny_bind ?_
  unfold Builtin.Slice.sliceApplied
  refine wpAny_bind (wpAny_bind (wpAny_field hos hds (x := .none) rfl (wpAny_bind (wpAny_field hos hds (x := .int 2 u) rfl (wpAny_bind (wpAny_field hos hds (x := .none) rfl (wpAny_pure ?_)))))))
  refine wpAny_bind (wpAny_pure ?_)
  dsimp only
  rw [if_neg (by decide)]
  refine wpAny_bind (wpAny_pure (wpAny_bind ?_))
  unfold Builtin.Slice.slicePartIndex
  rw [if_neg (by exact Bool.false_ne_true)]
  refine wpAny_bind (wpAny_specialOf (typeIs_int _ _ _) PySem.F.slot_int_index.lookup ?_)
  rw [if_neg (by exact Bool.false_ne_true)]
  refine wpAny_bind (wpAny_pure (wpAny_pure ?_))
  refine wpAny_bind (wpAny_pure (wpAny_pure ?_))
  dsimp only
  show wpAny _ _ (if ((0 : Int) == 0 && (1 : Int) == 1 && (2 : Nat) == 3) = true then _ else (Builtin.Tuple.tupleExact #[x, y] >>= fun v => ret v)) _ _ _
  rw [if_neg (by decide)]
  refine wpAny_bind (wpAny_newObj_type (wpAny_pure ⟨_, rfl, wpAny_pure k⟩))
end
open PySem.Builtin.ObjectAttr
noncomputable def TabO (ps : Array Value) : Obj → Prop := fun o => o = tabObj ps
theorem x_def {M : Model} {A : Around} {E : Value → Shared → Prop} {s : Shared} {name : Str} {params : Arguments} {body : List Stmt} {scope : Scope} {pos : Pos} {env : Env} {Q : Flow → Shared → Prop} (hd : params.defaults = []) (hk0 : params.kw_defaults = []) (ha : annTrees params none env = [])
    (h : wpAny M A (makeFunction name (qualnameIn env name name) params (.stmts body) scope env [] [] [] pos pos.line) (fun v s' => wpAny M A (storeName env name v) (fun _ s'' => Q .next s'') E s') E s) :
    wpAny M A (exec (.FunctionDef name params body [] none [] scope none name pos) env) Q E s := by
  rw [exec_def]
  refine wpAny_bind (wpAny_standAt (wpAny_bind (wpAny_holding ?_)))
  rw [defaultsOf_eq, hk0, hd, ha]
  refine wpAny_bind (evalAll_nil ?_)
  refine wpAny_bind (wpAny_holding (wpAny_pure ?_))
  refine wpAny_holding (wpAny_bind (wpAny_pure ?_))
  exact wpAny_mono h (fun v s' h' => wpAny_bind (wpAny_standAt (wpAny_bind (wpAny_bindName (wpAny_mono h' (fun _ _ h'' => wpAny_pure h'') fun _ _ x => x))))) fun _ _ x => x
theorem x_lam {M : Model} {A : Around} {E : Value → Shared → Prop} {s : Shared} {params : Arguments} {body : Expr} {scope : Scope} {pos : Pos} {env : Env} {Q : Value → Shared → Prop} (hd : params.defaults = []) (hk0 : params.kw_defaults = [])
    (h : wpAny M A (makeFunction "<lambda>" (env.qual ++ "<lambda>") params (.expr body) scope env [] [] [] pos pos.line) Q E s) : wpAny M A (eval (.Lambda params body scope pos) env) Q E s := by
  rw [arm_eval_Lambda, defaultsOf_eq, hk0, hd]
  show wpAny M A (do let dv ← evalAll (evalEach [] env); let kdv ← holding dv (evalAllOpt []); makeFunction "<lambda>" (env.qual ++ "<lambda>") params (.expr body) scope env dv kdv [] pos pos.line) Q E s
  exact wpAny_bind (evalAll_nil (wpAny_bind (wpAny_holding (wpAny_pure h))))
theorem mf_eq {name qual : Str} {params : Arguments} {body : FuncBody} {scope : Scope} {env : Env} {pos : Pos} {ln : Nat} : makeFunction name qual params body scope env [] [] [] pos ln = makeTail name qual params body scope env .none .none none pos ln := by
  rw [makeFunction_eq]
  simp only [List.zip_nil_right, List.filterMap_nil, List.isEmpty_nil, if_true, pure_bind]
section
variable {prog : Program} {w : World} {A : Around} {E : Value → Shared → Prop} {s : Shared} {h hT : Heap} {t : Nat} {env : Env} {L a : Addr} {g l : List Fact} {P0 : Obj → Prop} {mg mb : Str → Option Value}
theorem mk_tail {M : Model} {c P : Addr} {name qual : Str} {params : Arguments} {body : FuncBody} {scope : Scope} {clos : List (Str × Addr)} {dV : Value} {ps : Array Value} {pos : Pos} {ln : Nat} {Q : Value → Shared → Prop}
    (D : Led hT g ((L, P0) :: (P, TabO ps) :: l) h) (T : Tp w mg mb hT) (C : CodeHd hT c P) (hcl : closureFor scope env = pure clos) (hge : env.globals = mainGlobals) (hcode : env.code = .ref c) (ht : TriplesOk ps.toList) (hnf : codeAmong pos ps.toList = none)
    (k : ∀ f c' ctv doc h' t', Led hT g ((L, P0) :: (f, fun o => o = kdv_obj name qual params body scope clos dV doc ((mg "__name__").getD .none) c' ctv) :: (c', CodeQ qual) :: (P, TabO (ps ++ #[rawInt pos.line, rawInt pos.col, .ref c'])) :: l) h' → Q (.ref f) (At s h' t')) :
    wpAny M A (makeTail name qual params body scope env dV .none none pos ln) Q E (At s h t) := by
  obtain ⟨_, hP, rfl⟩ := D.atL (.s .z)
  have D₁ : Ldg hT ((P, TabO ps) :: ((L, P0) :: (g ++ l))) h := Ldg.perm D (by
    refine (List.perm_middle (l₁ := g)).trans ?_
    refine (List.Perm.cons _ (List.perm_middle (l₁ := g))).trans ?_
    exact List.Perm.swap _ _ _)
  have hPn : hT.get? P = none := D₁.new _ (.head _)
  have hgP : mainGlobals ≠ P := fun q => by
    obtain ⟨o, es, ep, e, _⟩ := T.g
    rw [q, hPn] at e; cases e
  obtain ⟨bm, ob, b1, b2, b3, b4, b5, b6⟩ := T.bm
  have hbP : bm ≠ P := fun q => by rw [q, hPn] at b3; cases b3
  have hbG : bm ≠ mainGlobals := fun q => by
    obtain ⟨o, es, ep, e, hd, _⟩ := T.g
    rw [q, e] at b3; cases b3; rw [hd] at b6; cases b6
  refine kdv_makeTail (s := At s h t) (mg := mg) hcl hge (T.g.keeps D.keep) hcode (C.keeps D.keep) hP ht hnf hgP ⟨bm, ob, b1, b2, hbG, hbP, D.keep _ _ b3, b4, b5, b6⟩ fun c' ctv doc h' tk hx hge' hlt hrec htb => ?_
  have hx : Heap.ExtBut P h h' := hx
  have hge' : h.objs.size ≤ c' := hge'
  obtain ⟨c₂, oc, vs, t', e2, hoc, hd, hv⟩ := hrec
  cases e2
  have hsz : hT.objs.size ≤ h'.objs.size := Nat.le_trans D.sz (Nat.le_trans hge' (Nat.le_of_lt hlt))
  have ne : ∀ c ∈ ((L, P0) :: (g ++ l)), c.1 ≠ P := fun c hc e => (List.nodup_cons.mp (by have := D₁.nd; rwa [List.map_cons] at this)).1 (List.mem_map.mpr ⟨c, hc, e⟩)
  have D₂ : Ldg hT ((P, TabO (ps ++ #[rawInt pos.line, rawInt pos.col, .ref c'])) :: ((L, P0) :: (g ++ l))) h' := by
    refine ⟨fun b o e => hx b o (fun q => by rw [q, hPn] at e; cases e) (D.keep b o e), fun c hc => ?_, D₁.nd, fun c hc => ?_, hsz⟩
    · rcases List.mem_cons.mp hc with rfl | hc
      · exact ⟨_, htb, rfl⟩
      · obtain ⟨o, e, q⟩ := D₁.has c (.tail _ hc)
        exact ⟨o, hx _ _ (ne c hc) e, q⟩
    · rcases List.mem_cons.mp hc with rfl | hc
      · exact hPn
      · exact D₁.new c (.tail _ hc)
  have D₃ : Ldg hT ((c', CodeQ qual) :: (P, TabO (ps ++ #[rawInt pos.line, rawInt pos.col, .ref c'])) :: ((L, P0) :: (g ++ l))) h' := by
    refine ⟨D₂.keep, fun c hc => ?_, ?_, fun c hc => ?_, hsz⟩
    · rcases List.mem_cons.mp hc with rfl | hc
      · exact ⟨_, hoc, _, _, hd, hv⟩
      · exact D₂.has c hc
    · rw [List.map_cons, List.nodup_cons]
      refine ⟨fun hm => ?_, D₂.nd⟩
      obtain ⟨c, hc, e⟩ := List.mem_map.mp hm
      have h2 : c.1 < h.objs.size := by
        rcases List.mem_cons.mp hc with rfl | hc
        · exact Heap.lt_size hP
        · exact D₁.lt (.tail _ hc)
      rw [e] at h2
      exact Nat.lt_irrefl _ (Nat.lt_of_lt_of_le h2 hge')
    · rcases List.mem_cons.mp hc with rfl | hc
      · exact Heap.get?_none_of_le (Nat.le_trans D.sz hge')
      · exact D₂.new c hc
  have D₄ := D₃.push (P := fun o => o = kdv_obj name qual params body scope clos dV doc ((mg "__name__").getD .none) c' ctv) (o := kdv_obj name qual params body scope clos dV doc ((mg "__name__").getD .none) c' ctv) rfl rfl
  refine k h'.objs.size c' ctv doc _ tk (Ldg.perm D₄ ?_)
  have p1 : ∀ (a b c d : Fact), (a :: b :: c :: d :: (g ++ l)).Perm (g ++ (d :: a :: b :: c :: l)) := fun a b c d => by
    have e1 : a :: b :: c :: d :: (g ++ l) = ([a, b, c] ++ d :: g) ++ l := by simp
    have e2 : g ++ (d :: a :: b :: c :: l) = (g ++ (d :: [a, b, c])) ++ l := by simp
    rw [e1, e2]
    refine List.Perm.append_right _ ?_
    refine List.perm_append_comm.trans ?_
    show (d :: (g ++ [a, b, c])).Perm _
    exact (List.perm_middle (l₁ := g) (l₂ := [a, b, c])).symm
  exact p1 _ _ _ _
theorem fn_sa : typeLookup (.type "function") "__setattr__" = pure (some (.builtin "object.__setattr__")) := by rw [typeLookup_type, builtinLookup_eq_fast]; kernel_rfl
theorem fn_sa_slot : Slot "function" "__setattr__" "object.__setattr__" :=
  .of (owner := "object") (n := "__setattr__") (by rw [typeLookup_type, builtinLookup_eq_fast]; kernel_rfl) (by decide +kernel) (by decide +kernel) (by decide +kernel) (by first | exact .inl (by decide +kernel) | exact .inr (by decide +kernel)) (by rw [isSubtype_type]; kernel_rfl)
theorem fn_mro : mroOf (.type "function") = pure [.type "function", .type "object"] := by kernel_rfl
theorem fn_refuse (self : Value) : refuseLoop self "__setattr__" [.type "function", .type "object"] = pure () := by kernel_rfl
theorem f_set {f : FuncData} {v : Value} {Q : Unit → Shared → Prop} (D : Led hT g ((L, P0) :: (a, fun o => o = { cls := .type "function", data := .func f }) :: l) h)
    (k : ∀ dx h' t', Led hT g ((L, P0) :: (a, fun o => o = ⟨.type "function", some dx, .func f, #[]⟩) :: (dx, DFrm 1 [Str.ofString "read"] [some v]) :: l) h' → Q () (At s h' t')) :
    wpAny (model prog w) A (setAttr (.ref a) (Str.ofString "read") v) Q E (At s h t) := by
  obtain ⟨_, ho, rfl⟩ := D.atL (.s .z)
  have hT : ∀ t, (At s h t).TypeIs (.ref a) "function" := fun _ => ⟨_, ho, rfl⟩
  refine wpAny_bind (wpAny_mkText (wpAny_bind (wpAny_callSpecial?_slot (hT (t + 1)) fn_sa_slot ?_)))
  refine wpAny_call_entry fn_sa_slot (hT (t + 1)) PySem.F.store_object.entry ?_ (PySem.F.store_object.args _ _ _)
  rw [osa_eq, refuse_eq]
  refine wpAny_bind (wpAny_bind (wpAny_typeOf (hT (t + 1)) ?_))
  rw [fn_mro]
  refine wpAny_bind (wpAny_pure ?_)
  rw [fn_refuse]
  refine wpAny_pure (wpAny_bind (wpAny_typeOf (hT (t + 1)) ?_))
  rw [fn_read]
  refine wpAny_bind (wpAny_pure (wpAny_bind (wpAny_pure ?_)))
  have D₁ := D.push (P := DFrm 0 [Str.ofString "read"] [none]) (o := { cls := .type "dict", data := .dict #[] }) rfl ⟨#[], _, rfl, fun e he => absurd he (by simp), fun x => (look_none [Str.ofString "read"] x).symm, Nat.zero_le _⟩
  have D₂ : Led _ g ((L, P0) :: (a, fun o => o = { cls := .type "function", data := .func f }) :: (h.objs.size, DFrm 0 [Str.ofString "read"] [none]) :: l) _ := Ldg.perm D₁ (List.Perm.append_left _ ((List.Perm.swap ..).trans (List.Perm.cons _ (List.Perm.swap ..))))
  have ho₁ := Heap.get?_push_of_some (h := h) { cls := .type "dict", data := .dict #[] } ho
  refine wpAny_bind (wpAny_pure (wpAny_bind (wpAny_bind (wpAny_loadPart ho ?_))))
  refine wpAny_bind (wpAny_alloc' ?_)
  refine wpAny_bind (wpAny_update' ho₁ ?_)
  refine wpAny_pure ?_
  show wpAny _ _ (storeInDict h.objs.size (.str (Str.ofString "read") t) (Str.ofString "read") v) _ _ (At s ((h.push { cls := .type "dict", data := .dict #[] }).update a fun o => { o with dict := some h.objs.size }) (t + 1))
  have D₃ : Led _ g ((L, P0) :: (a, fun o => o = ⟨.type "function", some h.objs.size, .func f, #[]⟩) :: (h.objs.size, DFrm 0 [Str.ofString "read"] [none]) :: l) ((h.push { cls := .type "dict", data := .dict #[] }).update a fun o => { o with dict := some h.objs.size }) :=
    D₂.sameL (.s .z) (.s .z) (Heap.SameBut.update ..) ⟨_, Heap.get?_update_self _ ho₁ rfl, rfl⟩
  exact st_dict D₃ (.s (.s .z)) (by simp) (by omega) .z .z (.s (.s .z)) fun h' t' D' => ⟨_, rfl, wpAny_pure (k _ _ _ D')⟩
end
theorem fn_linit (w : World) : FnAt w 93 [Str.ofString "self", Str.ofString "fp"] [] [] :=
  ⟨by kernel_rfl, by kernel_rfl, by kernel_rfl, by kernel_rfl, by kernel_rfl, ⟨by kernel_rfl, by kernel_rfl⟩, by kernel_rfl⟩
section
variable {prog : Program} {w : World} {A : Around} {E : Value → Shared → Prop} {s : Shared} {h hT : Heap} {t : Nat} {env : Env} {L : Addr} {g l l' : List Fact} {P : Obj → Prop} {mg mb : Str → Option Value} {n : Nat} {es : List Env}
theorem inst_atL {C x dx : Addr} {i j n : Nat} {ns : List Str} {vs : List (Option Value)} (D : Led hT g l h) (hx : AtI l i (x, InstO C dx)) (hd : AtI l j (dx, DFrm n ns vs)) :
    ∃ ox od, InstAt h x ox C (some od) ∧ ox.dict = some dx ∧ h.get? dx = some od ∧ DFrm n ns vs od := by
  obtain ⟨ox, e1, q1, q2, q3⟩ := D.atL hx
  obtain ⟨od, e2, q⟩ := D.atL hd
  exact ⟨ox, od, ⟨e1, q1, by unfold notCls; rw [q3], by rw [q2]; exact e2⟩, q2, e2, q⟩
theorem a_setL {C x dx : Addr} {i j n p : Nat} {ns : List Str} {vs vs' : List (Option Value)} {name : Str} {v : Value} {Q : Unit → Shared → Prop} (D : Led hT g l h) (T : Tp w mg mb hT) (B : Bare w C name) (hx : AtI l i (x, InstO C dx)) (hd : AtI l j (dx, DFrm n ns vs)) (hn : ns.Nodup) (hz : n ≤ 900)
    (h1 : AtI ns p name) (h2 : SetI vs p (some v) vs') (hg : SetI l j (dx, DFrm (n + 1) ns vs') l') (k : ∀ h' t', Led hT g l' h' → Q () (At s h' t')) : wpAny (model prog w) A (setAttr (.ref x) name v) Q E (At s h t) := by
  obtain ⟨ox, od, I, hdx, hod, F⟩ := inst_atL D hx hd
  have X := T.X.keeps D.keep
  obtain ⟨cd, hc, hcd⟩ := Option.any_eq_true .. |>.mp B.cls
  refine set_plain (s := At s h t) X I B.sa (osa_open (s := At s h (t + 1)) X I B.ov B.tk fun b => ?_)
  obtain ⟨hx', hcl, hnn, -⟩ := I
  obtain ⟨oc, odi, oda, osl⟩ := ox
  dsimp only at hcl hdx
  subst hcl hdx
  refine wpAny_bind (wpAny_pure (wpAny_bind (wpAny_bind (wpAny_loadPart hx' (wpAny_bind ((looks_clsIn X hc).here ?_))))))
  rw [hcd]
  refine wpAny_pure (a := some dx) ?_
  show wpAny _ _ (Builtin.ObjectAttr.storeInDict dx (.str name t) name v) _ _ (At s h (t + 1))
  exact st_dict D hd hn (by omega) h1 h2 hg fun h' t' D' => k _ _ D'
theorem linit_spec {x dx tape : Addr} (T : Tp w mg mb hT) (D : Led hT g ((x, InstO 117 dx) :: (dx, DFrm 0 lexNs [none, none, none, none]) :: l) h) (r : Rm (n + 5) A es) :
    codeAny (model prog w) A (.call (.ref 93) ⟨[.ref x, .ref tape], []⟩) (fun res s' => ∃ h' t' t1 t3 pu, res = .ok (.ret .none) ∧ s' = At s h' t' ∧
      Led hT g ((x, InstO 117 dx) :: (dx, DFrm 4 lexNs [some (.int 1 t1), some (.ref tape), some (.str blanks t3), some (.ref pu)]) :: (pu, LstO []) :: l) h') (At s h t) := by
  refine call_top (ns := [Str.ofString "self", Str.ofString "fp"]) (vs := [some (.ref x), some (.ref tape)]) D T (fn_linit w) r.room (as := [.ref x, .ref tape]) (.of_eq (by kernel_rfl)) rfl rfl rfl ?_
  clear D
  intro L h t D S
  have r := r.deeper (callEnv (fd 93) L 93)
  refine wpAny_mono (Q := Out (fun res s' => ∃ h' t' t1 t3 pu, res = .ok (.ret .none) ∧ s' = At s h' t' ∧
      Led hT g ((x, InstO 117 dx) :: (dx, DFrm 4 lexNs [some (.int 1 t1), some (.ref tape), some (.str blanks t3), some (.ref pu)]) :: (pu, LstO []) :: l) h')) (E := fun _ _ => False) ?_ (fun _ _ q => q) (fun _ _ q => q.elim)
  refine x_cons (st := _) (rest := _) ?_
  refine plainObj_wpAny_Assign_Attribute ?_
  repeat walk_at "m"
  refine a_setL D T (bare_lineno w) (.s .z) (.s (.s .z)) lexNs_nd (by omega) .z .z (.s (.s .z)) ?_
  clear D
  intro h _ D
  repeat walk_at "m"
  refine plainObj_wpAny_Assign_Attribute ?_
  repeat walk_at "m"
  refine a_setL D T (bare_instream w) (.s .z) (.s (.s .z)) lexNs_nd (by omega) (.s .z) (.s .z) (.s (.s .z)) ?_
  clear D
  intro h _ D
  repeat walk_at "m"
  refine plainObj_wpAny_Assign_Attribute ?_
  repeat walk_at "m"
  refine a_setL D T (bare_whitespace w) (.s .z) (.s (.s .z)) lexNs_nd (by omega) (.s (.s .z)) (.s (.s .z)) (.s (.s .z)) ?_
  clear D
  intro h _ D
  repeat walk_at "m"
  refine plainObj_wpAny_Assign_Attribute ?_
  repeat walk_at "m"
  refine ls_mk D ?_
  clear D
  intro pu h D
  repeat walk_at "m"
  refine a_setL D T (bare_pushback w) (.s (.s .z)) (.s (.s (.s .z))) lexNs_nd (by omega) (.s (.s (.s .z))) (.s (.s (.s .z))) (.s (.s (.s .z))) ?_
  clear D
  intro h _ D
  repeat walk_at "m"
  have D2 : Led hT g ((x, _) :: (dx, _) :: (pu, _) :: l) _ := Ldg.perm D.tail (List.Perm.append_left _ ((List.Perm.swap ..).trans (List.Perm.cons _ (List.Perm.swap ..))))
  exact ⟨_, _, _, _, pu, rfl, rfl, D2⟩
theorem lex_new {tape : Addr} {Q : Value → Shared → Prop} (T : Tp w mg mb hT) (D : Led hT g l h) (r : Rm (n + 6) A es)
    (k : ∀ x dx pu t1 t3 h' t', Led hT g ((x, InstO 117 dx) :: (dx, DFrm 4 lexNs [some (.int 1 t1), some (.ref tape), some (.str blanks t3), some (.ref pu)]) :: (pu, LstO []) :: l) h' → Q (.ref x) (At s h' t')) :
    wpAny (model prog w) A (call (.ref 117) [.ref tape]) Q E (At s h t) := by
  obtain ⟨sh, sg, sd, st, so⟩ := s
  have X := T.X.keeps D.keep
  refine wpAny_call (make_core (makes_of X (show makesIn (hd.heap_39 w.params) 117 = true by kernel_rfl)) (looks_findIn X (show findIn (hd.heap_39 w.params) (.ref 117) "__init__" = some (some (.ref 93)) by kernel_rfl)) (fun self => bind_fn X self (show typeIn (hd.heap_39 w.params) (.ref 93) = some (.type "function") by kernel_rfl)) (.inl rfl) ?_)
  have D₁ := D.push (P := DFrm 0 lexNs [none, none, none, none]) (o := emptyDict) rfl ⟨#[], _, rfl, fun e he => absurd he (by simp), fun x => (look_none lexNs x).symm, Nat.zero_le _⟩
  have D₂ := D₁.push (P := InstO 117 h.objs.size) (o := instObj 117 h.objs.size) rfl ⟨rfl, rfl, rfl⟩
  rw [Heap.size_push] at D₂
  refine codeAny_mono (linit_spec (n := n) (s := ⟨sh, sg, sd, st, so⟩) (t := t) T D₂ r.tc) ?_
  rintro _ _ ⟨h₂, t₂, t1, t3, pu, rfl, rfl, D₃⟩
  exact ⟨rfl, k _ _ _ _ _ _ _ D₃⟩
end
noncomputable abbrev rdNs : List Str := [Str.ofString "tape"]
theorem read_local : True := trivial
theorem fn_reader (w : World) : FnAtC w 140 [Str.ofString "text", Str.ofString "spot"] [Str.ofString "read", Str.ofString "tape"] [] :=
  ⟨by kernel_rfl, by kernel_rfl, by kernel_rfl, by kernel_rfl, ⟨by kernel_rfl, by kernel_rfl⟩, by kernel_rfl⟩
theorem reader_code : (fd 140).code = .ref 139 := by kernel_rfl
section
variable {prog : Program} {w : World} {A : Around} {E : Value → Shared → Prop} {s : Shared} {h hT : Heap} {t : Nat} {env : Env} {L : Addr} {g l l' : List Fact} {P : Obj → Prop} {mg mb : Str → Option Value} {n : Nat} {es : List Env}
noncomputable def RdRes (hT : Heap) (g l : List Fact) (s : Shared) (x : Str) (tx : Tok) (spot : Addr) : Result → Shared → Prop := fun res s' => ∃ h' t' tape tapeD readF readC ct cs pm ctup doc fT sl ps, res = .ok (.ret (.ref tape)) ∧ s' = At s h' t' ∧
  Led hT g ((tape, fun o => o = ⟨.type "function", some tapeD, .func fT, sl⟩) :: (tapeD, DFrm 10 [Str.ofString "read"] [some (.ref readF)]) :: (readF, FnO (fnRead cs ct pm (.ref readC) ctup doc)) :: (readC, CodeQ (Str.ofString "_law_reader.<locals>.read")) ::
    (cs, CellIs (.ref spot)) :: (ct, CellIs (.str x tx)) :: (135, TabO ps) :: l) h'
set_option maxHeartbeats 4000000 in
theorem reader_spec {x : Str} {tx : Tok} {spot : Addr} (T : Tp w mg mb hT) (D : Led hT g ((135, TabO #[]) :: l) h) (r : Rm (n + 5) A es) :
    codeAny (model prog w) A (.call (.ref 140) ⟨[.str x tx, .ref spot], []⟩) (RdRes hT g l s x tx spot) (At s h t) := by
  refine call_topC (ns := [Str.ofString "read", Str.ofString "tape"]) (vs := [none, none]) (cf := fun L => [(L + 2, CellO (some (.ref spot))), (L + 1, CellO (some (.str x tx)))]) D T (fn_reader w) r.room (as := [.str x tx, .ref spot]) (by kernel_rfl)
    ?_ ?_ ?_ ?_ ?_
  · intro L x hx
    rcases List.mem_cons.mp hx with rfl | hx
    · exact .inr ⟨by kernel_rfl, by kernel_rfl⟩
    · rcases List.mem_cons.mp hx with rfl | hx
      · exact .inr ⟨by kernel_rfl, by kernel_rfl⟩
      · cases hx
  · intro y
    rw [show look [Str.ofString "read", Str.ofString "tape"] [none, none] y = none from look_nones [Str.ofString "read", Str.ofString "tape"] y]
    kernel_rfl
  · intro L
    rw [show (cellsFrom (L + 1) (fd 140).scope.names []).map (·.1) = [Str.ofString "spot", Str.ofString "text"] by kernel_rfl]
    decide +kernel
  · intro L
    kernel_rfl
  clear D
  intro L h t D S
  have r := r.deeper (callEnvC (fd 140) L 140)
  refine wpAny_mono (Q := Out (RdRes hT g l s x tx spot)) (E := fun _ _ => False) ?_ (fun _ _ q => q) (fun _ _ q => q.elim)
  refine x_cons (st := _) (rest := _) ?_
  refine x_def (by with_unfolding_all rfl) (by with_unfolding_all rfl) (by with_unfolding_all rfl) ?_
  rw [mf_eq]
  have D : Led hT g ((L, Frm [Str.ofString "read", Str.ofString "tape"] [none, none]) :: (135, TabO #[]) :: (L + 2, CellO (some (.ref spot))) :: (L + 1, CellO (some (.str x tx))) :: l) h := Ldg.perm D (List.Perm.append_left _ (List.Perm.cons _ (List.perm_middle (l₁ := [_, _]))))
  refine mk_tail (clos := [(Str.ofString "text", L + 1), (Str.ofString "spot", L + 2)]) D T T.c2 (by kernel_rfl) S.glo reader_code trivial rfl ?_
  clear D
  intro readF readC ctup doc h t D
  repeat walk_at "m"
  refine x_lam (by with_unfolding_all rfl) (by with_unfolding_all rfl) ?_
  rw [mf_eq]
  clear D
  rename_i D
  have D := (by assumption : Led hT g ((L, Frm [Str.ofString "read", Str.ofString "tape"] [some (.ref readF), none]) :: _) _)
  have D := Ldg.perm D (List.Perm.append_left _ (List.Perm.cons _ (List.perm_middle (l₁ := [_, _]))))
  refine mk_tail (clos := []) (P := 135) D T T.c2 (by kernel_rfl) S.glo reader_code trivial rfl ?_
  clear D
  intro tape tapeC ct2 doc2 h t D
  repeat walk_at "m"
  refine plainObj_wpAny_Assign_Attribute ?_
  repeat walk_at "m"
  clear D
  have D := (by assumption : Led hT g ((L, Frm [Str.ofString "read", Str.ofString "tape"] [some (.ref readF), some (.ref tape)]) :: _) _)
  refine f_set D ?_
  clear D
  intro tapeD h t D
  repeat walk_at "m"
  have D := D.tail
  have D := D.sub (l' := (tape, _) :: (tapeD, _) :: (135, _) :: (readF, _) :: (readC, _) :: (L + 2, _) :: (L + 1, _) :: l) (.cons_cons _ (.cons_cons _ (.cons _ (.refl _))))
  have D : Led hT g ((tape, _) :: (tapeD, _) :: (readF, _) :: (readC, _) :: (L + 2, _) :: (L + 1, _) :: (135, _) :: l) h := Ldg.perm D (List.Perm.append_left _ (List.Perm.cons _ (List.Perm.cons _ (List.perm_middle (l₁ := [_, _, _, _])).symm)))
  have D := D.weak (.s .z) (.s .z) (P' := DFrm 10 [Str.ofString "read"] [some (.ref readF)]) (fun o ho => by
    obtain ⟨es, ep, e1, e2, e3, e4⟩ := ho
    exact ⟨es, ep, e1, e2, e3, by omega⟩)
  have D := D.weak (.s (.s .z)) (.s (.s .z)) (P' := FnO (fnRead (L + 2) (L + 1) ((mg "__name__").getD .none) (.ref readC) ctup doc)) (fun o ho => by
    subst ho
    show _ = _
    kernel_rfl)
  exact ⟨_, _, tape, tapeD, readF, readC, L + 1, L + 2, (mg "__name__").getD .none, ctup, doc, _, _, _, rfl, rfl, D⟩
end
theorem fn_mklook (w : World) : FnAtC w 147 [Str.ofString "lexer", Str.ofString "known", Str.ofString "asked"] [] [] :=
  ⟨by kernel_rfl, by kernel_rfl, by kernel_rfl, by kernel_rfl, ⟨by kernel_rfl, by kernel_rfl⟩, by kernel_rfl⟩
theorem mklook_code : (fd 147).code = .ref 146 := by kernel_rfl
section
variable {prog : Program} {w : World} {A : Around} {E : Value → Shared → Prop} {s : Shared} {h hT : Heap} {t : Nat} {env : Env} {L : Addr} {g l l' : List Fact} {P : Obj → Prop} {mg mb : Str → Option Value} {n : Nat} {es : List Env}
noncomputable def MlRes (hT : Heap) (g l : List Fact) (s : Shared) (lex known asked : Addr) : Result → Shared → Prop := fun res s' => ∃ h' t' k ps, res = .ok (.ret (.ref k.lookF)) ∧ s' = At s h' t' ∧ k.known = known ∧ k.asked = asked ∧
  Led hT g ((k.lookF, FnO (fnLook k)) :: (k.lookC, CodeQ (Str.ofString "_law_lookup.<locals>.lookup")) :: (k.dfl, TupO [.int 8 k.dt, .bool false]) :: (k.cLex, CellIs (.ref lex)) :: (k.cKnown, CellIs (.ref known)) :: (k.cAsked, CellIs (.ref asked)) :: (k.cLook, CellIs (.ref k.lookF)) :: (142, TabO ps) :: l) h'
set_option maxHeartbeats 4000000 in
theorem mklook_spec {lex known asked : Addr} (T : Tp w mg mb hT) (D : Led hT g ((142, TabO #[]) :: l) h) (r : Rm (n + 5) A es) :
    codeAny (model prog w) A (.call (.ref 147) ⟨[.ref lex, .ref known, .ref asked], []⟩) (MlRes hT g l s lex known asked) (At s h t) := by
  refine call_topC (ns := []) (vs := []) (cf := fun L => [(L + 4, CellO none), (L + 3, CellO (some (.ref asked))), (L + 2, CellO (some (.ref known))), (L + 1, CellO (some (.ref lex)))]) D T (fn_mklook w) r.room (as := [.ref lex, .ref known, .ref asked]) (by kernel_rfl)
    ?_ ?_ ?_ ?_ ?_
  · intro L x hx
    rcases List.mem_cons.mp hx with rfl | hx
    · exact .inr ⟨by kernel_rfl, by kernel_rfl⟩
    · rcases List.mem_cons.mp hx with rfl | hx
      · exact .inr ⟨by kernel_rfl, by kernel_rfl⟩
      · rcases List.mem_cons.mp hx with rfl | hx
        · exact .inr ⟨by kernel_rfl, by kernel_rfl⟩
        · cases hx
  · intro y
    show _ = none
    kernel_rfl
  · intro L
    rw [show (cellsFrom (L + 1) (fd 147).scope.names []).map (·.1) = [Str.ofString "lookup", Str.ofString "asked", Str.ofString "known", Str.ofString "lexer"] by kernel_rfl]
    decide +kernel
  · intro L
    kernel_rfl
  clear D
  intro L h0 t D S
  have r := r.deeper (callEnvC (fd 147) L 147)
  refine wpAny_mono (Q := Out (MlRes hT g l s lex known asked)) (E := fun _ _ => False) ?_ (fun _ _ q => q) (fun _ _ q => q.elim)
  refine x_cons (st := _) (rest := _) ?_
  refine kdv_def (by with_unfolding_all rfl) (by with_unfolding_all rfl) (by with_unfolding_all rfl) ?_
  refine kdv_all1 ?_
  repeat walk_at "m"
  refine kdv_all1 ?_
  repeat walk_at "m"
  refine kdv_all0 ?_
  rw [makeFunction_eq]
  simp only [List.zip_nil_right, List.filterMap_nil, List.isEmpty_nil, if_true, pure_bind, List.isEmpty_cons, Bool.false_eq_true, if_false]
  refine wpAny_bind (wpAny_newTextTuple ?_)
  rename_i dt _
  have D : Led hT g ((L, Frm [] []) :: (142, TabO #[]) :: (L + 4, CellO none) :: (L + 3, CellO (some (.ref asked))) :: (L + 2, CellO (some (.ref known))) :: (L + 1, CellO (some (.ref lex))) :: l) h0 := Ldg.perm D (List.Perm.append_left _ (List.Perm.cons _ (List.perm_middle (l₁ := [_, _, _, _]))))
  have D := D.push2 (P := TupO [.int 8 dt, .bool false]) (o := kdv_tup [.int 8 dt, .bool false]) rfl rfl
  have D := Ldg.perm D (List.Perm.append_left _ (List.Perm.cons _ (List.Perm.swap _ _ _)))
  refine mk_tail (clos := [(Str.ofString "lookup", L + 4), (Str.ofString "lexer", L + 1), (Str.ofString "known", L + 2), (Str.ofString "asked", L + 3)]) D T T.c1 (by kernel_rfl) S.glo mklook_code trivial rfl ?_
  clear D
  intro lookF lookC ctup doc h t D
  have kc : (callEnvC (fd 147) L 147).kindOf (Str.ofString "lookup") = some .cell := by kernel_rfl
  have hc : (callEnvC (fd 147) L 147).cells.lookup (Str.ofString "lookup") = some (L + 4) := by kernel_rfl
  refine stc D S.kind kc hc (.s (.s (.s (.s (.s .z))))) (.s (.s (.s (.s (.s .z))))) ?_
  clear D
  intro h D
  repeat walk_at "m"
  refine ldc D S.kind ⟨kc, by decide +kernel⟩ hc (.s (.s (.s (.s (.s .z))))) ?_
  repeat walk_at "m"
  have D := D.tail
  have D := D.weak .z .z (P' := FnO (fnLook ⟨lookF, lookC, h0.objs.size, L + 1, L + 2, L + 3, L + 4, known, asked, (mg "__name__").getD .none, doc, ctup, dt⟩)) (fun o ho => by
    subst ho
    show _ = _
    kernel_rfl)
  have D : Led hT g ((lookF, _) :: (lookC, _) :: (h0.objs.size, _) :: (L + 1, _) :: (L + 2, _) :: (L + 3, _) :: (L + 4, _) :: (142, _) :: l) h := Ldg.perm D (List.Perm.append_left _ (List.Perm.cons _ (List.Perm.cons _ (by
    refine (List.perm_middle (l₁ := [_, _, _, _, _])).symm.trans (List.Perm.cons _ ?_)
    exact List.Perm.append_right (_ :: l) (List.reverse_perm [(L + 1, CellO (some (.ref lex))), (L + 2, CellO (some (.ref known))), (L + 3, CellO (some (.ref asked))), (L + 4, CellO (some (.ref lookF)))])))))
  exact ⟨_, _, ⟨lookF, lookC, h0.objs.size, L + 1, L + 2, L + 3, L + 4, known, asked, (mg "__name__").getD .none, doc, ctup, dt⟩, _, rfl, rfl, rfl, rfl, D⟩
end
noncomputable def escQ (c : Nat) : List Nat := if c = 34 ∨ c = 92 then [92, c] else [c]
noncomputable def escP (c : Nat) : List Nat := if isBl c = true ∨ c = 92 then [92, c] else [c]
noncomputable def wcode (x : List Nat) (q : Bool) (e : Nat) : List Nat :=
  if q = true then 34 :: (x.flatMap escQ ++ [34]) else (if x.head? = some 34 then [92] else []) ++ (x.flatMap escP ++ [e])
theorem qb_esc (r : List Nat) : ∀ x : List Nat, qb (x.flatMap escQ ++ 34 :: r) = some (x, (x.flatMap escQ).length + 1)
  | [] => by cases r <;> simp [qb]
  | a :: x => by
    have ih := qb_esc r x
    by_cases h : a = 34 ∨ a = 92
    · have e : (a :: x).flatMap escQ ++ 34 :: r = 92 :: a :: (x.flatMap escQ ++ 34 :: r) := by simp [escQ, h]
      rw [e, qb, if_neg (by decide), if_pos rfl, ih]
      simp [escQ, h]
    · have e : (a :: x).flatMap escQ ++ 34 :: r = a :: (x.flatMap escQ ++ 34 :: r) := by simp [escQ, h]
      rw [e]
      obtain ⟨y, r', e'⟩ : ∃ y r', x.flatMap escQ ++ 34 :: r = y :: r' := by cases hh : x.flatMap escQ <;> simp
      rw [e'] at ih ⊢
      rw [qb, if_neg (fun z => h (.inl z)), if_neg (fun z => h (.inr z)), ih]
      simp [escQ, h]
theorem pb_esc {e : Nat} (he : isBl e = true) (r : List Nat) : ∀ x : List Nat, pb (x.flatMap escP ++ e :: r) = some (x, (x.flatMap escP).length + 1)
  | [] => by cases r <;> simp [pb, he]
  | a :: x => by
    have ih := pb_esc he r x
    by_cases h : isBl a = true ∨ a = 92
    · have e' : (a :: x).flatMap escP ++ e :: r = 92 :: a :: (x.flatMap escP ++ e :: r) := by simp [escP, h]
      rw [e', pb, if_neg (by decide), if_pos rfl, ih]
      simp [escP, h]
    · have e' : (a :: x).flatMap escP ++ e :: r = a :: (x.flatMap escP ++ e :: r) := by simp [escP, h]
      rw [e']
      obtain ⟨y, r', e''⟩ : ∃ y r', x.flatMap escP ++ e :: r = y :: r' := by cases hh : x.flatMap escP <;> simp
      rw [e''] at ih ⊢
      rw [pb, if_neg (fun z => h (.inl z)), if_neg (fun z => h (.inr z)), ih]
      simp [escP, h]
theorem lex_word {x : List Nat} {q : Bool} {e : Nat} (hx : x ≠ []) (he : isBl e = true) (r : List Nat) : lexF (wcode x q e ++ r) = some (x, (wcode x q e).length) := by
  cases q with
  | true =>
    have e1 : wcode x true e ++ r = 34 :: (x.flatMap escQ ++ 34 :: r) := by simp [wcode]
    have e2 : (wcode x true e).length = (x.flatMap escQ).length + 1 + 1 := by simp [wcode]
    rw [e1, e2]; unfold lexF; rw [if_neg (by decide), if_pos rfl, qb_esc]
    rfl
  | false =>
    cases x with
    | nil => exact absurd rfl hx
    | cons a x =>
      by_cases h34 : a = 34
      · subst h34
        have e1 : wcode (34 :: x) false e ++ r = 92 :: 34 :: (x.flatMap escP ++ e :: r) := by simp [wcode, escP, isBl]
        have e2 : (wcode (34 :: x) false e).length = (x.flatMap escP).length + 1 + 2 := by simp [wcode, escP, isBl]
        rw [e1, e2]; unfold lexF; rw [if_neg (by decide), if_neg (by decide), if_pos rfl]; dsimp only; rw [pb_esc he]
        rfl
      · have hh : ¬ (a :: x).head? = some 34 := by simpa using h34
        by_cases h : isBl a = true ∨ a = 92
        · have e1 : wcode (a :: x) false e ++ r = 92 :: a :: (x.flatMap escP ++ e :: r) := by simp [wcode, escP, h, h34]
          have e2 : (wcode (a :: x) false e).length = (x.flatMap escP).length + 1 + 2 := by simp [wcode, escP, h, h34]
          rw [e1, e2]; unfold lexF; rw [if_neg (by decide), if_neg (by decide), if_pos rfl]; dsimp only; rw [pb_esc he]
          rfl
        · have e1 : wcode (a :: x) false e ++ r = a :: (x.flatMap escP ++ e :: r) := by simp [wcode, escP, h, h34]
          have e2 : (wcode (a :: x) false e).length = (x.flatMap escP).length + 1 + 1 := by simp [wcode, escP, h, h34]
          rw [e1, e2]; unfold lexF; rw [if_neg (fun z => h (.inl z)), if_neg h34, if_neg (fun z => h (.inr z)), pb_esc he]
          rfl
theorem wcode_len {x : List Nat} {q : Bool} {e : Nat} : (wcode x q e).length ≤ 2 * x.length + 2 := by
  have hq : ∀ x : List Nat, (x.flatMap escQ).length ≤ 2 * x.length := fun x => by
    induction x with
    | nil => simp
    | cons a x ih =>
      rw [List.flatMap_cons, List.length_append]
      have : (escQ a).length ≤ 2 := by unfold escQ; split <;> simp
      rw [List.length_cons]; omega
  have hp : ∀ x : List Nat, (x.flatMap escP).length ≤ 2 * x.length := fun x => by
    induction x with
    | nil => simp
    | cons a x ih =>
      rw [List.flatMap_cons, List.length_append]
      have : (escP a).length ≤ 2 := by unfold escP; split <;> simp
      rw [List.length_cons]; omega
  have h1 := hq x
  have h2 := hp x
  unfold wcode
  split
  · rw [List.length_cons, List.length_append, List.length_singleton]; omega
  · rw [List.length_append, List.length_append, List.length_singleton]
    have : (if x.head? = some 34 then [92] else ([] : List Nat)).length ≤ 1 := by split <;> simp
    omega
noncomputable abbrev Itm := Str × Bool × Nat
noncomputable def wI (i : Itm) : List Nat := wcode i.1.cps.toList i.2.1 i.2.2
noncomputable def ItmOk (i : Itm) : Prop := WOk i.1 ∧ isBl i.2.2 = true
noncomputable def rowL (first : Int) : List Nat → List Itm → List (Str × Int × Nat)
  | _, [] => []
  | p, i :: is => (i.1, first + ((p ++ wI i).count 10 : Nat), (p ++ wI i).length) :: rowL first (p ++ wI i) is
theorem rowL_len (first : Int) : ∀ (p : List Nat) (is : List Itm), (rowL first p is).length = is.length
  | _, [] => rfl
  | p, i :: is => by rw [rowL, List.length_cons, rowL_len first _ is, List.length_cons]
theorem rowL_snoc (first : Int) : ∀ (p : List Nat) (is : List Itm) (i : Itm), rowL first p (is ++ [i]) = rowL first p is ++ [(i.1, first + ((p ++ (is ++ [i]).flatMap wI).count 10 : Nat), (p ++ (is ++ [i]).flatMap wI).length)]
  | p, [], i => by simp [rowL]
  | p, j :: is, i => by
    rw [List.cons_append, rowL, rowL_snoc first (p ++ wI j) is i]
    simp [rowL, List.append_assoc]
theorem WOk.nonnil {x : Str} (h : WOk x) : x.cps.toList ≠ [] := by
  rcases h with h | ⟨d, _, rfl⟩
  · intro e
    have : x.cps.size = 2 := h
    have e2 : x.cps.toList.length = 0 := by rw [e]; rfl
    simp at e2
    rw [e2] at this
    cases this
  · simp
theorem txts_of {c : Lc} {first : Int} : ∀ (is : List Itm) (p : List Nat), c.text.cps.toList = p ++ (is.flatMap wI ++ [32, 10]) → (∀ i ∈ is, ItmOk i) →
    Txts c (first + (c.text.cps.toList.count 10 : Nat), c.text.length) p.length (first + (p.count 10 : Nat)) (rowL first p is)
  | [], p, ht, _ => by
    have hl : c.text.length = c.text.cps.toList.length := by show c.text.cps.size = _; simp
    have hd : c.text.cps.toList.drop p.length = [32, 10] := by rw [ht]; simp
    refine ⟨?_, rfl, ?_⟩
    · rw [hd, hl, ht]
      have : (p ++ (([] : List Itm).flatMap wI ++ [32, 10])).length - p.length = 2 := by simp
      rw [this]; decide
    · rw [hd, ht]
      simp
      omega
  | i :: is, p, ht, hi => by
    have hl : c.text.length = c.text.cps.toList.length := by show c.text.cps.size = _; simp
    have hd : c.text.cps.toList.drop p.length = wI i ++ (is.flatMap wI ++ [32, 10]) := by rw [ht]; simp
    have ih := txts_of (c := c) (first := first) is (p ++ wI i) (by rw [ht]; simp) fun j hj => hi j (.tail _ hj)
    obtain ⟨h1, h2⟩ := hi i (.head _)
    refine ⟨⟨(wI i).length, ?_, ?_, ?_⟩, ?_, ih⟩
    · rw [hd]
      exact lex_word h1.nonnil h2 _
    · show (p ++ wI i).length = _
      simp
    · rw [hd]
      show first + ((p ++ wI i).count 10 : Nat) = _
      rw [List.take_left, List.count_append]
      push_cast
      omega
    · show (p ++ wI i).length ≤ _
      rw [hl, ht]; simp
theorem rowL_lines {first : Int} : ∀ (is : List Itm) (p : List Nat), ∀ r ∈ rowL first p is, first ≤ r.2.1 ∧ r.2.1 ≤ first + ((p ++ is.flatMap wI).length : Nat)
  | [], _, r, h => by cases h
  | i :: is, p, r, h => by
    rcases List.mem_cons.mp h with rfl | h
    · refine ⟨by show first ≤ first + _; omega, ?_⟩
      have : (p ++ wI i).count 10 ≤ (p ++ wI i).length := List.count_le_length
      show first + ((p ++ wI i).count 10 : Nat) ≤ _
      simp at this ⊢
      omega
    · have := rowL_lines is (p ++ wI i) r h
      simpa [List.append_assoc] using this
theorem rowL_words {first : Int} : ∀ (is : List Itm) (p : List Nat), (rowL first p is).map (·.1) = is.map (·.1)
  | [], _ => rfl
  | i :: is, p => by rw [rowL, List.map_cons, rowL_words is, List.map_cons]
theorem text_len : ∀ (is : List Itm), (∀ i ∈ is, ItmOk i) → (is.flatMap wI).length ≤ 6 * is.length
  | [], _ => by simp
  | i :: is, hi => by
    have ih := text_len is fun j hj => hi j (.tail _ hj)
    have h1 : (wI i).length ≤ 6 := by
      have := wcode_len (x := i.1.cps.toList) (q := i.2.1) (e := i.2.2)
      have h2 : i.1.cps.toList.length ≤ 2 := by
        rcases (hi i (.head _)).1 with h | ⟨d, _, h⟩
        · have : i.1.cps.size = 2 := h
          simp; omega
        · rw [h]; simp
      unfold wI; omega
    rw [List.flatMap_cons, List.length_append, List.length_cons]; omega
noncomputable def ofL (l : List Nat) : Str := ⟨l.toArray⟩
theorem ofL_app (a b : List Nat) : ofL a ++ ofL b = ofL (a ++ b) := by
  show (⟨a.toArray ++ b.toArray⟩ : Str) = ⟨(a ++ b).toArray⟩
  simp
theorem ofL_len (a : List Nat) : (ofL a).length = a.length := by show a.toArray.size = _; simp
theorem ofL_eta (x : Str) : ofL x.cps.toList = x := Str.eta x
theorem join_ofL {α : Type} (F : α → List Nat) : ∀ l : List α, Txt.join (Str.ofString "") (l.map fun c => ofL (F c)) = ofL (l.flatMap F) := by
  have h0 : (Str.ofString "") = ⟨#[]⟩ := by decide +kernel
  have hj : ∀ l : List α, Str.join ⟨#[]⟩ (l.map fun c => ofL (F c)) = ofL (l.flatMap F) := fun l => by
    induction l with
    | nil => rfl
    | cons a l ih =>
      cases l with
      | nil => simp [Str.join]
      | cons b l =>
        rw [List.map_cons, List.map_cons]
        show ofL (F a) ++ (⟨#[]⟩ : Str) ++ Str.join ⟨#[]⟩ (ofL (F b) :: l.map fun c => ofL (F c)) = _
        rw [← List.map_cons (f := fun c => ofL (F c)), ih, show (⟨#[]⟩ : Str) = ofL [] from rfl, ofL_app, ofL_app]
        simp
  intro l
  show Builtin.Str.glued _ _ = _
  rw [StrLaws.glued_eq_join, h0, hj]
theorem in_one {m : Str} {a : Nat} {l : List Nat} (h : m.cps.toList = l) : Txt.contains m ⟨#[a]⟩ = decide (a ∈ l) := by
  unfold Txt.contains
  rw [StrLaws.found_one, h]
theorem strs_snoc {vs : List Value} {ys : List Str} {y : Str} {u : Tok} (h : StrsAre vs ys) : StrsAre (vs ++ [.str y u]) (ys ++ [y]) := by
  induction h with
  | nil => exact .cons _ _ .nil
  | cons a b _ ih => exact .cons _ _ ih
theorem strs_len {vs : List Value} {ys : List Str} (h : StrsAre vs ys) : vs.length = ys.length := by
  induction h with
  | nil => rfl
  | cons a b _ ih => simp [ih]
theorem fn_word (w : World) : FnAt w 133 [Str.ofString "word", Str.ofString "quoted", Str.ofString "end"] [Str.ofString "plain"] [] :=
  ⟨by kernel_rfl, by kernel_rfl, by kernel_rfl, by kernel_rfl, by kernel_rfl, ⟨by kernel_rfl, by kernel_rfl⟩, by kernel_rfl⟩
noncomputable abbrev wdNs : List Str := [Str.ofString "word", Str.ofString "quoted", Str.ofString "end", Str.ofString "plain"]
section
variable {prog : Program} {w : World} {hT : Heap} {mg mb : Str → Option Value} {A : Around} {E : Value → Shared → Prop} {s : Shared} {h : Heap} {t : Nat} {g l : List Fact} {es : List Env} {n : Nat} {L : Addr} {P : Obj → Prop} {env : Env}
theorem lc_word {elt iter : Expr} {nm : Str} {px pos : Pos} {scope : Scope} {x : Str} {u : Tok} {Q : Value → Shared → Prop} (F : Nat → List Nat) (D : Led hT g ((L, P) :: l) h) (ha : hT.objs.size ≤ L) (hh : A.handled = none) (hx : x.cps.all (· < 128) = true) (hz : x.length ≤ 900)
    (hcell : scope.names.all (fun x => x.2 != .cell) = true) (hsc : scopeOk (relabel scope env) [Str.ofString ".0", nm] [] = true) (hk : scope.kind = .function) (hg : env.globals = mainGlobals) (hb : env.builtins = builtinsNs)
    (helt : ∀ C c tk h t E' l, Led hT g ((C, Frm [Str.ofString ".0", nm] [none, some (.str ⟨#[c]⟩ tk)]) :: l) h → Scp hT (compEnvC scope [] C env) C [Str.ofString ".0", nm] [] →
      wpAny (model prog w) A (eval elt (compEnvC scope [] C env)) (fun y s' => ∃ h t tk', y = .str (ofL (F c)) tk' ∧ s' = At s h t ∧ Led hT g ((C, Frm [Str.ofString ".0", nm] [none, some (.str ⟨#[c]⟩ tk)]) :: l) h) E' (At s h t))
    (k : ∀ acc h t ys, StrsAre ys (x.cps.toList.map fun c => ofL (F c)) → Led hT g ((L, P) :: (acc, LstO ys) :: l) h → Q (.ref acc) (At s h t)) :
    wpAny (model prog w) A (pyIter (.str x u)) (fun it s₂ => wpAny (model prog w) A (newList []) (fun acc s₃ => wpAny (model prog w) A (newFunctionEnv scope env.globals [] [] env.qual none .none (some env)) (fun cenv s₄ =>
      codeAny (model prog w) A (.compStart (.ListComp elt [⟨.Name nm px, iter, [], 0⟩] scope pos) 0 it acc { cenv with scope := relabel scope env }) (compPost (model prog w) A E none Q acc cenv.locals) s₄) E s₃) E s₂) E (At s h t) := by
  refine si_iter D hx ?_
  clear D
  intro it h D
  refine lc_any (cl := []) (cgs := []) (fun j ys ex => ex = [] ∧ j ≤ x.length ∧ StrsAre ys ((x.cps.toList.take j).map fun c => ofL (F c))) (itr_str hh) D (fun _ hc => by cases hc) ha ⟨rfl, Nat.zero_le _, .nil⟩ ?_ hcell hsc hk hg hb ?_ ?_
  · rintro j ys ex ⟨_, h1, h2⟩
    rw [strs_len h2]; simp; omega
  · rintro C acc j _ ys ex h t E' hj ⟨c, tk, hc, rfl⟩ ⟨rfl, hjx, hys⟩ D S
    refine wpAny_tests_nil ?_
    rw [if_pos rfl]
    refine wpAny_mono (helt C c tk h t E' _ D S) ?_ (fun _ _ q => q)
    rintro _ _ ⟨h, t, tk', rfl, rfl, D⟩
    refine ⟨h, t, [], rfl, D, rfl, by omega, ?_⟩
    have e : (x.cps.toList.take (j + 1)).map (fun c => ofL (F c)) = (x.cps.toList.take j).map (fun c => ofL (F c)) ++ [ofL (F c)] := by
      rw [List.take_add_one, List.map_append, Array.getElem?_toList, hc]; rfl
    rw [e]
    exact strs_snoc hys
  · rintro acc h t ys ex ⟨rfl, _, hys⟩ D
    rw [List.take_of_length_le (by show x.cps.toList.length ≤ x.cps.size; simp)] at hys
    rw [List.append_nil] at D
    exact k acc h t ys hys D
theorem j_call {acc : Addr} {ys : List Value} {F : Nat → List Nat} {xs : List Nat} {u : Tok} {i : Nat} {Q : Value → Shared → Prop} (D : Led hT g l h) (hi : AtI l i (acc, LstO ys)) (hys : StrsAre ys (xs.map fun c => ofL (F c))) (hF : ∀ c, (F c).length ≤ 2) (hz : xs.length ≤ 1000)
    (k : ∀ t' k', Q (.str (ofL (xs.flatMap F)) t') (At s h k')) : wpAny (model prog w) A (call (.builtin "str.join") [.str (Str.ofString "") u, .ref acc]) Q E (At s h t) := by
  obtain ⟨_, ho, n, rfl⟩ := D.atL hi
  refine join_list (s := At s h t) (items := ys.toArray) ⟨_, ho, rfl, n, rfl⟩ (by simpa using hys) ?_ ?_
  · have h0 : (Str.ofString "").length = 0 := by decide +kernel
    have hs : ∀ xs : List Nat, ((xs.map fun c => ofL (F c)).map (·.length)).sum ≤ 2 * xs.length := fun xs => by
      induction xs with
      | nil => simp
      | cons a r ih =>
        have := hF a
        rw [List.map_cons, List.map_cons, List.sum_cons, ofL_len, List.length_cons]
        omega
    have := hs xs
    rw [h0]
    omega
  · intro t' k'
    rw [join_ofL]
    exact k t' k'
theorem escQ_len (c : Nat) : (escQ c).length ≤ 2 := by unfold escQ; split <;> simp
theorem escP_len (c : Nat) : (escP c).length ≤ 2 := by unfold escP; split <;> simp
theorem flat_len {F : Nat → List Nat} (hF : ∀ c, (F c).length ≤ 2) (xs : List Nat) : (xs.flatMap F).length ≤ 2 * xs.length := by
  induction xs with
  | nil => simp
  | cons a r ih =>
    have := hF a
    rw [List.flatMap_cons, List.length_append, List.length_cons]; omega
set_option maxHeartbeats 4000000 in
theorem word_spec {x : Str} {tx te : Tok} {q : Bool} {e : Nat} (T : Tp w mg mb hT) (D : Led hT g l h) (r : Rm (n + 5) A es) (hx : x.cps.all (· < 128) = true) (hz : x.length ≤ 2) (hn : x.cps.toList ≠ []) :
    codeAny (model prog w) A (.call (.ref 133) ⟨[.str x tx, .bool q, .str ⟨#[e]⟩ te], []⟩) (Ret hT g l s fun v => ∃ tk, v = .str (ofL (wcode x.cps.toList q e)) tk) (At s h t) := by
  refine call_top (ns := wdNs) (vs := [some (.str x tx), some (.bool q), some (.str ⟨#[e]⟩ te), none]) D T (fn_word w) r.room (as := [.str x tx, .bool q, .str ⟨#[e]⟩ te]) (.of_eq (by kernel_rfl)) rfl rfl rfl ?_
  clear D
  intro L h t D S
  have r := r.deeper (callEnv (fd 133) L 133)
  refine wpAny_mono (Q := Out (Ret hT g l s fun v => ∃ tk, v = .str (ofL (wcode x.cps.toList q e)) tk)) (E := fun _ _ => False) ?_ (fun _ _ q => q) (fun _ _ q => q.elim)
  refine x_cons (st := _) (rest := _) ?_
  repeat walk_at "m"
  have hxl : x.cps.toList.length ≤ 2 := by rw [Array.length_toList]; exact hz
  have q1 : Str.ofString "\"" = ofL [34] := by decide +kernel
  have q2 : Str.ofString "\\" = ofL [92] := by decide +kernel
  have q3 : Str.ofString "" = ofL [] := by decide +kernel
  refine b_two (fun hq => ?_) (fun hq => ?_)
  · repeat walk_at "m"
    refine GM.join ?_
    refine c_bi' (by with_unfolding_all rfl) ?_
    repeat walk_at "m"
    refine x_lc (cl := []) (by with_unfolding_all rfl) (by with_unfolding_all rfl) (by with_unfolding_all rfl) (by intro _; with_unfolding_all rfl) ?_
    repeat walk_at "m"
    refine lc_word (F := escQ) D S.abv r.hnd hx (by omega) (by with_unfolding_all rfl) (by kernel_rfl) (by with_unfolding_all rfl) S.glo S.bui ?_ ?_
    · clear D
      intro C c tk h t E' l D S
      repeat walk_at "m"
      refine SB.contains ?_
      rw [in_one (l := [34, 92]) (by decide +kernel)]
      repeat walk_at "m"
      refine b_two (fun hc => ?_) (fun hc => ?_)
      · have hc : c = 34 ∨ c = 92 := by simpa using of_decide_eq_true hc
        repeat walk_at "m"
        refine z_add (by show 1 + 1 ≤ sizeLine; decide) ?_
        intro tk' _
        refine ⟨_, _, tk', ?_, rfl, by assumption⟩
        have e : escQ c = [92, c] := by unfold escQ; rw [if_pos hc]
        rw [e, q2]; rfl
      · have hc : ¬ (c = 34 ∨ c = 92) := by simpa using of_decide_eq_false hc
        repeat walk_at "m"
        refine ⟨_, _, tk, ?_, rfl, by assumption⟩
        have e : escQ c = [c] := by unfold escQ; rw [if_neg hc]
        rw [e]; rfl
    · clear D
      intro acc h t ys hys D
      have hfl := flat_len escQ_len x.cps.toList
      repeat walk_at "m"
      refine j_call D (.s .z) hys escQ_len (by omega) ?_
      intro _ _
      refine z_add (by rw [ofL_len, q1, ofL_len, sizeLine_eq, List.length_singleton]; omega) ?_
      intro _ _
      repeat walk_at "m"
      refine z_add (by rw [q1, ofL_app, ofL_len, ofL_len, sizeLine_eq, List.length_append, List.length_singleton]; omega) ?_
      intro _ _
      repeat walk_at "m"
      refine ret_str (D.sub (.cons _ (.cons _ (.refl _)))) ?_
      rw [q1, ofL_app, ofL_app]
      unfold wcode
      rw [if_pos hq]
      simp
  · repeat walk_at "m"
    refine GM.join ?_
    refine c_bi' (by with_unfolding_all rfl) ?_
    repeat walk_at "m"
    refine x_lc (cl := []) (by with_unfolding_all rfl) (by with_unfolding_all rfl) (by with_unfolding_all rfl) (by intro _; with_unfolding_all rfl) ?_
    repeat walk_at "m"
    refine lc_word (F := escP) D S.abv r.hnd hx (by omega) (by with_unfolding_all rfl) (by kernel_rfl) (by with_unfolding_all rfl) S.glo S.bui ?_ ?_
    · clear D
      intro C c tk h t E' l D S
      repeat walk_at "m"
      refine SB.contains ?_
      rw [in_one (l := [32, 10, 9, 13, 92]) (by decide +kernel)]
      repeat walk_at "m"
      refine b_two (fun hc => ?_) (fun hc => ?_)
      · have hc : isBl c = true ∨ c = 92 := by
          have := of_decide_eq_true hc
          simp at this
          unfold isBl
          simp
          omega
        repeat walk_at "m"
        refine z_add (by show 1 + 1 ≤ sizeLine; decide) ?_
        intro tk' _
        refine ⟨_, _, tk', ?_, rfl, by assumption⟩
        have e : escP c = [92, c] := by unfold escP; rw [if_pos hc]
        rw [e, q2]; rfl
      · have hc : ¬ (isBl c = true ∨ c = 92) := by
          have := of_decide_eq_false hc
          simp at this
          unfold isBl
          simp
          omega
        repeat walk_at "m"
        refine ⟨_, _, tk, ?_, rfl, by assumption⟩
        have e : escP c = [c] := by unfold escP; rw [if_neg hc]
        rw [e]; rfl
    · clear D
      intro acc h t ys hys D
      have hfl := flat_len escP_len x.cps.toList
      repeat walk_at "m"
      refine j_call D (.s .z) hys escP_len (by omega) ?_
      intro _ _
      repeat walk_at "m"
      obtain ⟨c0, hc0⟩ : ∃ c0, x.cps[0]? = some c0 := by
        cases hh : x.cps.toList with
        | nil => exact absurd hh hn
        | cons a r => exact ⟨a, by rw [← Array.getElem?_toList, hh]; rfl⟩
      have hx0 : 0 < x.length := by
        have := (Array.getElem?_eq_some_iff.mp hc0).1
        exact this
      have hit : Txt.item x (0 : Int) = ⟨#[c0]⟩ := by
        unfold Txt.item
        have : Txt.charAt x 0 = some c0 := by
          have hsq : seqIndex? 0 x.length = some 0 := by
            unfold seqIndex?
            simp [hx0]
          unfold Txt.charAt
          rw [hsq]
          exact hc0
        rw [this]; rfl
      refine z_item (i := 0) (by decide) (by omega) (by rw [sizeLine_eq]; omega) (by with_unfolding_all rfl) (by intro _; with_unfolding_all rfl) ?_
      intro _ _
      rw [hit]
      repeat walk_at "m"
      refine z_eq ?_
      repeat walk_at "m"
      have hhd : x.cps.toList.head? = some c0 := by
        rw [← hc0, ← Array.getElem?_toList]
        cases x.cps.toList <;> rfl
      have h92 : (ofL [92]).length = 1 := rfl
      refine b_two (fun hc => ?_) (fun hc => ?_)
      · have hc : c0 = 34 := by
          have := of_decide_eq_true hc
          rw [q1] at this
          exact one_eq.mp this
        repeat walk_at "m"
        refine z_add (by rw [q2, ofL_len, ofL_len, sizeLine_eq, List.length_singleton]; omega) ?_
        intro _ _
        repeat walk_at "m"
        refine z_add (by rw [q2, ofL_app, ofL_len, sizeLine_eq, List.length_append, List.length_singleton]; show _ + 1 ≤ _; omega) ?_
        intro _ _
        repeat walk_at "m"
        refine ret_str (Led.sub (by assumption) (.cons _ (.cons _ (.refl _)))) ?_
        rw [q2, show (⟨#[e]⟩ : Str) = ofL [e] from rfl, ofL_app, ofL_app]
        unfold wcode
        rw [if_neg (by rw [hq]; exact Bool.false_ne_true), hhd, hc, if_pos rfl]
        simp
      · have hc : ¬ c0 = 34 := fun z => by
          have := of_decide_eq_false hc
          rw [q1] at this
          exact this (one_eq.mpr z)
        repeat walk_at "m"
        refine z_add (by rw [q3, ofL_len, ofL_len, sizeLine_eq, List.length_nil]; omega) ?_
        intro _ _
        repeat walk_at "m"
        refine z_add (by rw [q3, ofL_app, ofL_len, sizeLine_eq, List.length_append, List.length_nil]; show _ + 1 ≤ _; omega) ?_
        intro _ _
        repeat walk_at "m"
        refine ret_str (Led.sub (by assumption) (.cons _ (.cons _ (.refl _)))) ?_
        rw [q3, show (⟨#[e]⟩ : Str) = ofL [e] from rfl, ofL_app, ofL_app]
        unfold wcode
        rw [if_neg (by rw [hq]; exact Bool.false_ne_true), hhd, if_neg (by simpa using hc)]
        simp
end
section
variable {hT h : Heap} {g l X : List Fact} {f : Fact}
theorem Led.toG (D : Led hT g (f :: (X ++ l)) h) : Led hT (X ++ g) (f :: l) h := by
  refine Ldg.perm D ?_
  show (g ++ (f :: (X ++ l))).Perm ((X ++ g) ++ (f :: l))
  refine (List.perm_middle).trans (List.Perm.trans (List.Perm.cons f ?_) (List.perm_middle).symm)
  rw [← List.append_assoc]
  exact List.Perm.append_right _ List.perm_append_comm
end
theorem ask_asked {e : Int × Nat} : ∀ {left : Nat} {b : Bk} {i : Nat}, (ask e left b i).1.asked.length ≤ b.asked.length + left + 1 := by
  have hB : ∀ (b : Bk) (i : Nat), (askB e b i).asked.length = b.asked.length + 1 := fun b i => by
    have : (askB e b i).asked = b.asked ++ [(i : Int)] := (reach_len (e := e) (n := i + 1 - b.known.length) (b := { b with asked := b.asked ++ [(i : Int)] })).2.2
    rw [this]; simp
  intro left
  induction left with
  | zero =>
    intro b i
    have := hB b i
    cases hk : (askB e b i).known[i]? with
    | none => rw [ask_none hk]; show (askB e b i).asked.length ≤ _; omega
    | some x =>
      by_cases hx1 : x.1.length = 1
      · rw [ask_ring hk hx1]; show (askB e b i).asked.length ≤ _; omega
      · rw [ask_two hk hx1]; show (askB e b i).asked.length ≤ _; omega
  | succ left ih =>
    intro b i
    have := hB b i
    cases hk : (askB e b i).known[i]? with
    | none => rw [ask_none hk]; show (askB e b i).asked.length ≤ _; omega
    | some x =>
      by_cases hx1 : x.1.length = 1
      · rw [ask_rec hk hx1]
        have := ih (b := askB e b i) (i := dig x.1)
        omega
      · rw [ask_two hk hx1]; show (askB e b i).asked.length ≤ _; omega
structure BkInv (e : Int × Nat) (b : Bk) (m : Nat) : Prop where
  row : b.row.length ≤ 8 + m
  asked : b.asked.length ≤ 9 * m
  ln : LnOk e b
  so : ∀ x ∈ b.row, PyData.strOk x.1 = true
  lines : ∀ x ∈ b.row, ∀ p, x.2 = some p → 1 ≤ p.1 ∧ p.1 < 10 ^ 6
theorem nm_str (n : Int) : PyData.strOk (nm n) = true := by
  rcases nm_cases n with ⟨d, hd, e⟩ | ⟨a, b, ha, hb, e⟩
  · rw [e]
    unfold PyData.strOk
    simp; omega
  · have hs : ∀ c ∈ sc, c < 0x110000 := by decide
    rw [e]
    unfold PyData.strOk
    have h1 := hs a ha
    have h2 := hs b hb
    simp; omega
theorem deed_inv {e : Int × Nat} {n : Int} {b : Bk} {m : Nat} (I : BkInv e b m) (hw : ∀ x ∈ b.row, WOk x.1) : BkInv e (deed e n b) (m + 1) ∧ ∀ x ∈ (deed e n b).row, WOk x.1 := by
  unfold deed
  split
  · have h11 : ((n.fdiv 4).fmod 11).toNat ≤ 100 := by
      have := Int.fmod_lt_of_pos (n.fdiv 4) (show (0 : Int) < 11 by decide)
      omega
    obtain ⟨o1, o2, o3, o4⟩ := ask_ok (left := 8) (i := ((n.fdiv 4).fmod 11).toNat) h11 I.ln hw I.so
    have h9 := ask_asked (e := e) (left := 8) (b := b) (i := ((n.fdiv 4).fmod 11).toNat)
    have hr := I.row
    have ha := I.asked
    refine ⟨⟨by rw [o2]; omega, by omega, o1, by rw [o2]; exact I.so, by rw [o2]; exact I.lines⟩, by rw [o2]; exact hw⟩
  · split
    · have hrw := row_push (b := b) (y := nm (n.fdiv 4))
      have hr := I.row
      have ha := I.asked
      have hmem : ∀ x ∈ ({ b with waits := b.waits ++ [nm (n.fdiv 4)] } : Bk).row, x = (nm (n.fdiv 4), none) ∨ x ∈ b.row := fun x hx => by
        rw [hrw] at hx
        rcases List.mem_append.mp hx with hx | hx
        · exact .inr (List.mem_of_mem_take hx)
        · rcases List.mem_cons.mp hx with rfl | hx
          · exact .inl rfl
          · exact .inr (List.mem_of_mem_drop hx)
      refine ⟨⟨by rw [hrw]; simp; omega, by show b.asked.length ≤ _; omega, ⟨I.ln.1, I.ln.2.1, I.ln.2.2⟩, fun x hx => ?_, fun x hx p hp => ?_⟩, fun x hx => ?_⟩
      · rcases hmem x hx with rfl | hx
        · exact nm_str _
        · exact I.so x hx
      · rcases hmem x hx with rfl | hx
        · cases hp
        · exact I.lines x hx p hp
      · rcases hmem x hx with rfl | hx
        · exact nm_ok _
        · exact hw x hx
    · have hr := I.row
      have ha := I.asked
      exact ⟨⟨by omega, by omega, I.ln, I.so, I.lines⟩, hw⟩
section
local macro_rules | `(tactic| walk_at "m") => `(tactic| first | with_reducible refine z_eq ?_ | with_reducible refine assignInOrder_cons ?_ | with_reducible refine assignInOrder_nil ?_ | with_reducible refine wpAny_assign_Name ?_)
local macro_rules | `(tactic| walk_at "at") => `(tactic| first | with_reducible exact (.s (.s (.s (.s (.s (.s (.s (.s (.s (.s (.s (.s .z)))))))))))) | with_reducible exact (.s (.s (.s (.s (.s (.s (.s (.s (.s (.s (.s (.s (.s .z))))))))))))))
local macro_rules | `(tactic| walk_at "set") => `(tactic| first | with_reducible exact (.s (.s (.s (.s (.s (.s (.s (.s (.s (.s (.s (.s .z)))))))))))) | with_reducible exact (.s (.s (.s (.s (.s (.s (.s (.s (.s (.s (.s (.s (.s .z))))))))))))))
noncomputable abbrev rnNs : List Str := [Str.ofString "numbers", Str.ofString "first", Str.ofString "row", Str.ofString "text", Str.ofString "n", Str.ofString "spot", Str.ofString "known", Str.ofString "asked", Str.ofString "lexer", Str.ofString "lookup", Str.ofString "book", Str.ofString "waiting", Str.ofString "due", Str.ofString "lines"]
noncomputable abbrev rnGs : List Str := [Str.ofString "_law_word", Str.ofString "_law_name", Str.ofString "len", Str.ofString "_netrclex", Str.ofString "_law_reader", Str.ofString "_law_lookup", Str.ofString "_law_deed", Str.ofString "_get_lineno_width", Str.ofString "range", Str.ofString "_law_column"]
theorem fn_run (w : World) : FnAtC w 192 [Str.ofString "numbers", Str.ofString "first"] rnNs rnGs :=
  ⟨by kernel_rfl, by kernel_rfl, by kernel_rfl, by kernel_rfl, ⟨by kernel_rfl, by kernel_rfl⟩, by kernel_rfl⟩
theorem gl_netrclex {w : World} {mg mb : Str → Option Value} {hT : Heap} (T : Tp w mg mb hT) : mg (Str.ofString "_netrclex") = some (.ref 117) := mg_of T.X T.g (by kernel_rfl)
local macro_rules | `(tactic| walk_at "gl") => `(tactic| with_reducible exact gl_netrclex (by assumption))
noncomputable def ends : Str := Str.ofString " \n\t\x0d"
noncomputable def en (n : Int) : Nat := [32, 10, 9, 13].getD ((n.fdiv 4).fmod 2 * 2 + n.fmod 2).toNat 32
noncomputable def itm (n : Int) : Itm := (nm n, (n.fdiv 2).fmod 2 == 1, en n)
theorem en_item (n : Int) : Txt.item ends ((n.fdiv 4).fmod 2 * 2 + n.fmod 2) = ⟨#[en n]⟩ ∧ isBl (en n) = true ∧ 0 ≤ (n.fdiv 4).fmod 2 * 2 + n.fmod 2 ∧ (n.fdiv 4).fmod 2 * 2 + n.fmod 2 < 4 := by
  have a1 := Int.fmod_nonneg_of_pos (n.fdiv 4) (show (0 : Int) < 2 by decide)
  have a2 := Int.fmod_lt_of_pos (n.fdiv 4) (show (0 : Int) < 2 by decide)
  have a3 := Int.fmod_nonneg_of_pos n (show (0 : Int) < 2 by decide)
  have a4 := Int.fmod_lt_of_pos n (show (0 : Int) < 2 by decide)
  obtain ⟨d, hd⟩ : ∃ d : Nat, (n.fdiv 4).fmod 2 * 2 + n.fmod 2 = (d : Int) := ⟨((n.fdiv 4).fmod 2 * 2 + n.fmod 2).toNat, by omega⟩
  have hd4 : d < 4 := by omega
  have z : ∀ d : Nat, d < 4 → Txt.item ends (d : Int) = ⟨#[[32, 10, 9, 13].getD d 32]⟩ ∧ isBl ([32, 10, 9, 13].getD d 32) = true := by decide +kernel
  unfold en
  rw [hd, Int.toNat_natCast]
  exact ⟨(z d hd4).1, (z d hd4).2, by omega, by omega⟩
theorem itm_ok (n : Int) : ItmOk (itm n) := ⟨nm_ok n, (en_item n).2.1⟩
theorem nm_plain (n : Int) : (nm n).cps.all (· < 128) = true ∧ (nm n).length ≤ 2 ∧ (nm n).cps.toList ≠ [] := by
  rcases nm_cases n with ⟨d, hd, e⟩ | ⟨a, b, ha, hb, e⟩
  · rw [e]; exact ⟨by simp; omega, by show 1 ≤ 2; decide, by simp⟩
  · have hs : ∀ c ∈ sc, c < 128 := by decide
    have h1 := hs a ha
    have h2 := hs b hb
    rw [e]; exact ⟨by simp; omega, by show 2 ≤ 2; decide, by simp⟩
noncomputable def textL (ns : List Int) : List Nat := (ns.map itm).flatMap wI
noncomputable def xsL (first : Int) (ns : List Int) : List Wrd := (rowL first [] (ns.map itm)).map fun r => (r.1, some r.2)
theorem textL_snoc (ns : List Int) (n : Int) : textL (ns ++ [n]) = textL ns ++ wI (itm n) := by unfold textL; simp
theorem textL_len (ns : List Int) : (textL ns).length ≤ 6 * ns.length := by
  have := text_len (ns.map itm) (fun i hi => by obtain ⟨n, _, rfl⟩ := List.mem_map.mp hi; exact itm_ok n)
  simpa [textL] using this
theorem xsL_snoc (first : Int) (ns : List Int) (n : Int) : xsL first (ns ++ [n]) = xsL first ns ++ [(nm n, some (first + ((textL (ns ++ [n])).count 10 : Nat), (textL (ns ++ [n])).length))] := by
  unfold xsL textL
  rw [List.map_append, List.map_cons, List.map_nil, rowL_snoc]
  simp [itm]
theorem rowF_snoc {rs : List Addr} {xs : List Wrd} {a : Addr} {x : Wrd} (hl : rs.length = xs.length) : rowF (rs ++ [a]) (xs ++ [x]) = rowF rs xs ++ [(a, TupR x)] := by
  unfold rowF
  rw [List.zipWith_append hl]
  rfl
theorem ints_at : ∀ {vs : List Value} {ns : List Int} {j : Nat} {x : Int}, IntsAre vs ns → ns[j]? = some x → ∃ tk, vs[j]? = some (.int x tk)
  | _, _, _, _, .nil, h => by cases h
  | _, _, 0, _, .cons _ t _, h => by cases h; exact ⟨t, rfl⟩
  | _, _, j + 1, _, .cons _ _ r, h => by
    obtain ⟨t, e⟩ := ints_at r (j := j) (by simpa using h)
    exact ⟨t, by simpa using e⟩
theorem cnt_count (c : Nat) : ∀ l : List Nat, cnt c l = (l.count c : Nat)
  | [] => rfl
  | a :: l => by
    rw [cnt_cons, cnt_count c l, List.count_cons]
    by_cases h : a = c
    · subst h; simp; omega
    · simp [h]
inductive RtI (hT : Heap) (g l : List Fact) (s : Shared) (L nb it rw0 : Addr) (nv : List Value) (ns : List Int) (first : Int) (u : Tok) (m : Nat) (s' : Shared) : Prop
  | mk (j : Nat) (h : Heap) (t : Nat) (rs : List Addr) (tx : Tok) (v5 : Option Value) (es : s' = At s h t) (em : m = ns.length - j) (hj : j ≤ ns.length) (hrs : rs.length = j) (D : Led hT g ((L, Frm rnNs [some (.ref nb), some (.int first u), some (.ref rw0), some (.str (ofL (textL (ns.take j))) tx), v5, none, none, none, none, none, none, none, none, none]) :: (it, ItO nb j) :: (rw0, LstO (rs.map .ref)) :: (L + 1, CellO none) :: (nb, LstO nv) :: (rowF rs (xsL first (ns.take j)) ++ l)) h)
theorem pm_row (a b c d e : Fact) (X Y : List Fact) : (a :: b :: c :: d :: e :: (X ++ Y)).Perm (b :: c :: d :: e :: (X ++ [a] ++ Y)) := by
  have e2 : b :: c :: d :: e :: (X ++ [a] ++ Y) = ([b, c, d, e] ++ X) ++ a :: Y := by simp
  rw [e2]
  exact (List.perm_middle (l₁ := [b, c, d, e] ++ X)).symm
theorem take_le (ns : List Int) (hn : ns.length ≤ 8) (j : Nat) : (ns.take j).length ≤ 8 := Nat.le_trans (List.length_take_le' ..) hn
theorem xsL_len {first : Int} {ns : List Int} {j : Nat} (hj : j ≤ ns.length) : (xsL first (ns.take j)).length = j := by
  unfold xsL
  rw [List.length_map, rowL_len, List.length_map, List.length_take]; omega
section
variable {prog : Program} {w : World} {A : Around} {E : Value → Shared → Prop} {s : Shared} {h hT : Heap} {t : Nat} {L nb : Addr} {g l : List Fact} {P : Obj → Prop} {mg mb : Str → Option Value} {n : Nat} {es : List Env} {nv : List Value} {ns : List Int} {first : Int} {u : Tok}
theorem i_mul2 {a : Int} {v1 v2 : Tok} {Q : Value → Shared → Prop} (k : ∀ tk t', Q (.int (a * 2) tk) (At s h t')) : wpAny (model prog w) A (binaryOp .Mult (.int a v1) (.int 2 v2)) Q E (At s h t) := PySem.P.mul_int (k _ _) (IntMulOk.of_right (by decide))
local macro_rules | `(tactic| walk_at "m") => `(tactic| first | with_reducible refine wpAny_bindName ?_ | (with_reducible refine i_mul2 ?_; intro _ _))
theorem z_count {x : List Nat} {v1 v2 : Tok} {Q : Value → Shared → Prop} (k : ∀ tk t', Q (.int ((x.count 10 : Nat) : Int) tk) (At s h t')) : wpAny (model prog w) A (call (.builtin "str.count") [.str (ofL x) v1, .str (Str.ofString "\n") v2]) Q E (At s h t) := by
  refine SC.count (s := At s h t) ?_
  have e : Str.ofString "\n" = ⟨#[10]⟩ := by decide +kernel
  rw [e, count_cnt, cnt_count]
  exact k _ _
set_option maxHeartbeats 8000000 in
theorem run_text {Q : Flow → Shared → Prop} (T : Tp w mg mb hT) (hgt : prog.given.tree = none) (S : Scp hT (callEnvC (fd 192) L 192) L rnNs rnGs) (r : Rm (n + 20) A (callEnvC (fd 192) L 192 :: es))
    (D : Led hT g ((L, Frm rnNs [some (.ref nb), some (.int first u), none, none, none, none, none, none, none, none, none, none, none, none]) :: (L + 1, CellO none) :: (nb, LstO nv) :: l) h) (hv : IntsAre nv ns) (hn : ns.length ≤ 8)
    (k : ∀ h t rw rs tx v5, rs.length = ns.length → Led hT g ((L, Frm rnNs [some (.ref nb), some (.int first u), some (.ref rw), some (.str (ofL (textL ns)) tx), v5, none, none, none, none, none, none, none, none, none]) :: (rw, LstO (rs.map .ref)) :: (L + 1, CellO none) :: (nb, LstO nv) :: (rowF rs (xsL first ns) ++ l)) h →
      wpAny (model prog w) A (execs ((bd 192).drop 2) (callEnvC (fd 192) L 192)) Q (fun _ _ => False) (At s h t)) :
    wpAny (model prog w) A (execs (bd 192) (callEnvC (fd 192) L 192)) Q (fun _ _ => False) (At s h t) := by
  refine x_cons (st := _) (rest := _) ?_
  refine Assign_Tuple_swapped (names := [Str.ofString "row", Str.ofString "text"]) ?_ (by with_unfolding_all rfl) (by with_unfolding_all rfl)
  repeat walk_at "m"
  refine ls_mk D ?_
  clear D
  intro rw0 h D
  repeat walk_at "m"
  refine t_mk D ?_
  clear D
  intro a' h D
  obtain ⟨_, hta, rfl⟩ := D.atL (.s .z)
  refine unpackItems_tuple (s := At s h _) (items := #[_, _]) r.hnd ⟨_, hta, rfl, _, rfl⟩ ?_
  intro h' hxx
  have D := (D.growF S.abv fun b o e => hxx b o (Nat.ne_of_lt (Heap.lt_size e)) e).sub (.cons_cons _ (.cons _ (.refl _)))
  clear hta
  show wpAny _ _ (assignInOrder [fun v => bindName _ _ v, fun v => bindName _ _ v] [_, _]) _ _ _
  repeat walk_at "m"
  refine wpAny_For ?_ (by intro _; with_unfolding_all rfl)
  repeat walk_at "m"
  clear D
  rename_i v0 _ _ _
  have D := (by assumption : Led hT g ((L, Frm rnNs [some (.ref nb), some (.int first u), some (.ref rw0), some (.str (Str.ofString "") _), none, none, none, none, none, none, none, none, none, none]) :: (rw0, LstO []) :: (L + 1, CellO none) :: (nb, LstO nv) :: l) _)
  have hnl := ints_len hv
  obtain ⟨_, hnb, nn, rfl⟩ := D.atL (.s (.s (.s .z)))
  refine li_iter D ⟨_, hnb, rfl, nn, rfl⟩ ?_
  clear D hnb
  intro it h D
  rw [show Str.ofString "" = ofL (textL (ns.take 0)) by rw [List.take_zero]; decide +kernel] at D
  refine for_itV (RtI hT g l s L nb it rw0 nv ns first u) ns.length PassesOwn.never
    ⟨0, h, _, [], _, _, rfl, rfl, Nat.zero_le _, rfl, D⟩ (by intro _; with_unfolding_all rfl) ?_
  clear D
  rintro J K hJ hK m _ ⟨j, h, t, rs, tx, v5, rfl, rfl, hj, hrs, D⟩
  obtain ⟨_, hnb, nn, rfl⟩ := D.atL (.s (.s (.s (.s .z))))
  have hIs : h.IsList nb nv.toArray := ⟨_, hnb, rfl, nn, rfl⟩
  by_cases hjl : j < ns.length
  · obtain ⟨x, hx⟩ : ∃ x, ns[j]? = some x := ⟨_, List.getElem?_eq_getElem hjl⟩
    obtain ⟨tk, hxv⟩ := ints_at hv hx
    refine li_next D (.s .z) hIs hxv (.s .z) ?_
    clear D hIs hnb
    intro h D
    refine wpAny_assign_Name ?_
    repeat walk_at "m"
    clear D
    have D := (by assumption : Led hT g ((L, Frm rnNs [some (.ref nb), some (.int first u), some (.ref rw0), some (.str (ofL (textL (ns.take j))) tx), some (.int x tk), none, none, none, none, none, none, none, none, none]) :: _) _)
    have htake : ns.take (j + 1) = ns.take j ++ [x] := by rw [List.take_add_one, hx]; rfl
    have htl := textL_len (ns.take j)
    have htl2 := textL_len (ns.take (j + 1))
    have hjl2 := take_le ns hn j
    have hjl3 := take_le ns hn (j + 1)
    obtain ⟨p1, p2, p3⟩ := nm_plain x
    obtain ⟨q1, q2, q3, q4⟩ := en_item x
    refine c_fn (by with_unfolding_all rfl) ?_
    repeat walk_at "m"
    refine c_fn (by with_unfolding_all rfl) ?_
    repeat walk_at "m"
    refine ⟨fn_obj T (fn_name w) D, ?_⟩
    refine wpAny_call (codeAny_mono (name_spec (k := n) T D (r.mono (by omega)) hgt) ?_)
    clear D
    rintro _ _ ⟨_, h, t, rfl, rfl, D, ⟨tn, rfl⟩⟩
    repeat walk_at "m"
    refine z_item (x := ends) q3 (by have e4 : ends.length = 4 := by decide +kernel
                                     rw [e4]; omega) (by decide +kernel) (by with_unfolding_all rfl) (by intro _; with_unfolding_all rfl) ?_
    intro _ _
    rw [q1]
    repeat walk_at "m"
    refine ⟨fn_obj T (fn_word w) D, ?_⟩
    refine wpAny_call (codeAny_mono (word_spec (n := n) T D (r.mono (by omega)) p1 p2 p3) ?_)
    clear D
    rintro _ _ ⟨_, h, t, rfl, rfl, D, ⟨tw, rfl⟩⟩
    have hwi : wcode (nm x).cps.toList ((x.fdiv 2).fmod 2 == 1) (en x) = wI (itm x) := rfl
    rw [hwi]
    have htxt : textL (ns.take j) ++ wI (itm x) = textL (ns.take (j + 1)) := by rw [htake, textL_snoc]
    refine z_iadd (by rw [ofL_len, ofL_len, ← List.length_append, htxt, sizeLine_eq]; clear hxv hnl hjl2 htl hj hrs hjl; omega) ?_
    intro _ _
    rw [ofL_app, htxt]
    repeat walk_at "m"
    clear D
    have D := (by assumption : Led hT g ((L, Frm rnNs [some (.ref nb), some (.int first u), some (.ref rw0), some (.str (ofL (textL (ns.take (j + 1)))) _), some (.int x tk), none, none, none, none, none, none, none, none, none]) :: _) _)
    obtain ⟨_, hro, nr, rfl⟩ := D.atL (.s (.s .z))
    refine l_meth hro PySem.F.slot_list_append PySem.F.type_list_append ?_
    clear hro
    refine c_bi' (by with_unfolding_all rfl) ?_
    repeat walk_at "m"
    refine c_fn (by with_unfolding_all rfl) ?_
    repeat walk_at "m"
    refine ⟨fn_obj T (fn_name w) D, ?_⟩
    refine wpAny_call (codeAny_mono (name_spec (k := n) T D (r.mono (by omega)) hgt) ?_)
    clear D
    rintro _ _ ⟨_, h, t, rfl, rfl, D, ⟨tm, rfl⟩⟩
    repeat walk_at "m"
    refine GM.count ?_
    refine c_bi' (by with_unfolding_all rfl) ?_
    repeat walk_at "m"
    refine z_count ?_
    intro _ _
    repeat walk_at "m"
    refine z_len (by rw [ofL_len, sizeLine_eq]; clear hxv hnl hjl2 htl hj hrs hjl; omega) ?_
    intro _ _
    repeat walk_at "m"
    refine t_mk D ?_
    clear D
    intro ta h D
    repeat walk_at "m"
    refine l_appendL (l' := (L, _) :: (ta, _) :: (it, _) :: (rw0, LstO ((rs ++ [ta]).map .ref)) :: _) D (.s (.s (.s .z))) (by rw [List.map_append]; exact .s (.s (.s .z))) (by simp; omega) ?_
    clear D
    intro h t D
    repeat walk_at "m"
    have hxs := xsL_snoc first (ns.take j) x
    rw [← htake] at hxs
    have D := D.weak (.s .z) (.s .z) (P' := TupR (nm x, some (first + ((textL (ns.take (j + 1))).count 10 : Nat), (textL (ns.take (j + 1))).length))) (fun o ho => ⟨_, _, _, ⟨_, rfl⟩, ⟨_, rfl⟩, by rw [ofL_len] at ho; exact ho⟩)
    have D := Ldg.perm D (List.Perm.append_left _ (List.Perm.cons _ (pm_row _ _ _ _ _ _ _)))
    rw [← rowF_snoc (hrs.trans (xsL_len hj).symm), ← hxs] at D
    exact tr_next (m := ns.length - (j + 1)) (Nat.sub_succ_lt_self _ _ hjl) (hJ _ _ ⟨j + 1, _, _, rs ++ [ta], _, _, rfl, rfl, hjl, (List.length_append).trans (congrArg (· + 1) hrs), D⟩)
  · have hjn : j = ns.length := Nat.le_antisymm hj (Nat.not_lt.mp hjl)
    subst hjn
    refine li_end D S.abv r.hnd hIs (List.getElem?_eq_none (by omega)) ?_
    clear D hIs hnb
    intro h D
    rw [List.take_length] at D
    exact hK _ _ (f_next (k h t rw0 rs tx v5 hrs D))
end
end
theorem netrclex_obj (w : World) : ∃ o cd, (hd.heap_39 w.params).lookup 117 = some o ∧ o.data = .cls cd := by
  have h : (match (hd.heap_39 w.params).lookup 117 with | some ⟨_, _, .cls _, _⟩ => true | _ => false) = true := by kernel_rfl
  split at h
  · rename_i e; exact ⟨_, _, e, rfl⟩
  · cases h
theorem cls_call (w : World) : specialIn (hd.heap_39 w.params) (.ref 117) "__call__" = some (some (.builtin "type.__call__")) := by kernel_rfl
section
variable {prog : Program} {w : World} {A : Around} {E : Value → Shared → Prop} {s : Shared} {h hT : Heap} {t : Nat} {env : Env} {L : Addr} {g l l' : List Fact} {P : Obj → Prop} {mg mb : Str → Option Value}
theorem c_cls {pos : Pos} {ts : List (Bool × Sem Value)} {Q : Value → Shared → Prop} (T : Tp w mg mb hT) (hp : ts.any (·.1) = false)
    (k : wpAny (model prog w) A (spliced ts) (fun vs s' => (∀ b o, hT.get? b = some o → s'.heap.get? b = some o) ∧ wpAny (model prog w) A (call (.ref 117) vs) Q E s') E s) :
    wpAny (model prog w) A (callWith pos (.ref 117) [] ts (backToKw pos (keywordEach [] env))) Q E s := by
  show wpAny _ A (callWith pos (.ref 117) [] ts []) Q E s
  unfold callWith
  refine wpAny_bind (wpAny_holding (evalArgs_all hp (wpAny_mono k (fun vs s₁ h₁ => ?_) fun _ _ x => x)))
  obtain ⟨hk, hc⟩ := h₁
  refine wpAny_bind (wpAny_standAt ?_)
  have hst : (ts.any (·.1) || ([] : List (Option Str × Sem Value)).any (·.1.isNone)) = false := by rw [hp]; rfl
  obtain ⟨o, cd, e1, e2⟩ := netrclex_obj w
  have ho := hk _ _ (T.X _ _ e1)
  have hkp : keeperOf (.ref 117) = (do let o ← load 117; match o.data with
      | .func _ => return Keeper.frame
      | .cls _ => return if (← specialOf (.ref 117) "__call__") == some (.builtin "type.__call__") then Keeper.machine else Keeper.caller
      | .fields vs =>
        if o.cls != .type "method" then
          return if o.cls == .type "builtin_function_or_method" || o.cls == .type "method-wrapper" then Keeper.machine else Keeper.caller
        let .ref g := vs.getD 0 .none | return Keeper.machine
        return match (← load g).data with | .func _ => Keeper.boundFrame | _ => Keeper.caller
      | _ => return Keeper.caller) := rfl
  refine wpAny_bind ?_
  rw [hkp]
  refine wpAny_bind (wpAny_load ho ?_)
  rw [e2]
  refine wpAny_bind ((looks_specialIn (T.X.keeps hk) (cls_call w)).here ?_)
  refine wpAny_pure ?_
  rw [hst]
  have e : (some (Value.builtin "type.__call__") == some (Value.builtin "type.__call__")) = true := by decide +kernel
  rw [e, if_pos rfl]
  exact wpAny_bind (wpAny_mono hc (fun r s₂ hr => wpAny_bind (wpAny_holding (wpAny_point (wpAny_pure hr)))) fun _ _ x => x)
theorem x_dict {keys : List (Option Expr)} {values : List Expr} {pos : Pos} {c : Fact} {Q : Value → Shared → Prop} (D : Led hT g (c :: l) h) (hall : keys.all (·.isSome) = true) (hl : keys.length = values.length) (h0 : keys ≠ []) (hlen : keys.length ≤ 15)
    (k : ∀ d h', Led hT g (c :: (d, Dct prog w [] []) :: l) h' → wpAny (model prog w) A (evalPairs (pairTrees keys values env pos)) (fun vs s₁ => ∃ kvs, Carries (strKind prog w) vs kvs ∧ s₁.heap.DictOf (strKind prog w) d [] ∧
        ∀ h', h'.DictOf (strKind prog w) d (merged [] kvs) → Heap.SameBut d s₁.heap h' → Q (.ref d) { s₁ with heap := h', toks := s₁.toks + vs.length }) E (At s h' t)) :
    wpAny (model prog w) A (eval (.Dict keys values pos) env) Q E (At s h t) := by
  refine wpAny_Dict_walk (s := At s h t) (knd := strKind prog w) hall hl h0 hlen ?_
  refine k h.objs.size _ (D.push2 rfl ?_)
  obtain ⟨o, ho, q⟩ := Heap.dictOf_iff.mp (Heap.DictOf.new (knd := strKind prog w) h)
  rw [Heap.get?_push_size _ rfl] at ho
  cases ho
  exact q
theorem dict_done {vs : List (Value × Value)} {ks : List Str} {us : List Value} {d : Addr} {i : Nat} {Q : Shared → Prop} (D : Led hT g l h) (hi : AtI l i (d, Dct prog w [] [])) (hg : SetI l i (d, Dct prog w ks us) l') (hk : allStrKeys vs = true) (hz : strPairs vs = ks.zip us) (hn : ((strPairs vs).map (·.1)).Nodup)
    (k : ∀ h' t', Led hT g l' h' → Q (At s h' t')) :
    ∃ kvs, Carries (strKind prog w) vs kvs ∧ (At s h t).heap.DictOf (strKind prog w) d [] ∧ ∀ h', h'.DictOf (strKind prog w) d (merged [] kvs) → Heap.SameBut d (At s h t).heap h' → Q { (At s h t) with heap := h', toks := (At s h t).toks + vs.length } :=
  display_done_str hk hn (Heap.dictOf_iff.mpr (D.atL hi)) fun h' hm hs => k h' _ (D.sameL hi hg hs (by rw [hz] at hm; exact Heap.dictOf_iff.mp hm))
theorem d_newL {x : Str} {v : Value} {u : Tok} {ks : List Str} {us : List Value} {d : Addr} {i : Nat} {Q : Unit → Shared → Prop} (D : Led hT g l h) (hi : AtI l i (d, Dct prog w ks us)) (hl : ks.length = us.length) (hx : x ∉ ks) (hz : ks.length ≤ 1000) (hg : SetI l i (d, Dct prog w (ks ++ [x]) (us ++ [v])) l')
    (k : ∀ h' t', Led hT g l' h' → Q () (At s h' t')) : wpAny (model prog w) A (setItem (.ref d) (.str x u) v) Q E (At s h t) := by
  have z : h.DictOf (strKind prog w) d (ks.zip us) := Heap.dictOf_iff.mpr (D.atL hi)
  have e : stored (ks.zip us) x v = (ks ++ [x]).zip (us ++ [v]) := by
    unfold stored
    rw [if_neg (by
      rw [List.any_eq_true]
      rintro ⟨p, hp, q⟩
      have : p.1 = x := by simpa using q
      exact hx (this ▸ (List.of_mem_zip hp).1)), List.zip_append hl]
    rfl
  refine wpAny_setItem_pairs (knd := strKind prog w) (k := x) (strKind_is prog w x u) z (fun h' z' hs => ?_) (by simp; rw [sizeLine_eq]; omega)
  rw [e] at z'
  exact k h' _ (D.sameL hi hg hs (Heap.dictOf_iff.mp z'))
end
section
local macro_rules | `(tactic| walk_at "stm") => `(tactic| first
  | with_reducible refine wpAny_Assign_Name ?_ (by with_unfolding_all rfl)
  | with_reducible refine wpAny_Return_some ?_
  | refine wpAny_Expr_any ?_
  | (fail_if_success (with_reducible show wpAny _ _ (exec (.Assign _ (.Tuple _ _ _) _) _) _ _ _)); (with_reducible refine Assign_Tuple ?_ (by with_unfolding_all rfl) (by with_unfolding_all rfl))
  | with_reducible refine x_if ?_
  | with_reducible refine wpAny_Assign_Subscript ?_ (by with_unfolding_all rfl)
  | with_reducible refine wpAny_AugAssign_Name ?_
  | with_reducible refine wpAny_AugAssign_AttributeAny ?_
  | refine wpAny_AugAssign_SubscriptAny ?_)
local macro_rules | `(tactic| walk_at "m") => `(tactic| first | with_reducible refine z_eq ?_ | with_reducible refine assignInOrder_cons ?_ | with_reducible refine assignInOrder_nil ?_ | with_reducible refine wpAny_assign_Name ?_ | with_reducible refine wpAny_bindName ?_ | with_reducible refine pairTrees_nil_walk ?_ | with_reducible refine a_sub ?_)
local macro_rules | `(tactic| walk_at "at") => `(tactic| first | with_reducible exact (.s (.s (.s (.s (.s (.s (.s (.s (.s (.s (.s (.s .z)))))))))))) | with_reducible exact (.s (.s (.s (.s (.s (.s (.s (.s (.s (.s (.s (.s (.s .z))))))))))))))
local macro_rules | `(tactic| walk_at "set") => `(tactic| first | with_reducible exact (.s (.s (.s (.s (.s (.s (.s (.s (.s (.s (.s (.s .z)))))))))))) | with_reducible exact (.s (.s (.s (.s (.s (.s (.s (.s (.s (.s (.s (.s (.s .z))))))))))))))
local macro_rules | `(tactic| walk_at "gl") => `(tactic| with_reducible exact gl_netrclex (by assumption))
theorem perm_ix {α : Type} (l : List α) (d : α) (ix : List Nat) (h : ix.Perm (List.range l.length)) : (ix.map fun i => l.getD i d).Perm l := by
  refine (h.map fun i => l.getD i d).trans ?_
  have e : (List.range l.length).map (fun i => l.getD i d) = l := by
    refine List.ext_getElem (by simp) fun i h1 h2 => ?_
    simp [h2]
  rw [e]
noncomputable def eE (first : Int) (ns : List Int) : Int × Nat := (first + ((textL ns ++ [32, 10]).count 10 : Nat), (textL ns ++ [32, 10]).length)
theorem sy_start {c : Lc} {first : Int} {ns : List Int} {pt lt : Tok} (hc : c.text = ofL (textL ns ++ [32, 10])) : Sy c (eE first ns) ⟨⟨0, first, [], pt, lt⟩, ⟨[], [], rowL first [] (ns.map itm), first, 0, []⟩, []⟩ := by
  have hl : c.text.cps.toList = textL ns ++ [32, 10] := by rw [hc]; rfl
  have hlen : c.text.length = (textL ns ++ [32, 10]).length := by rw [hc, ofL_len]
  refine ⟨rfl, rfl, rfl, ?_, ?_, Nat.zero_le _, rfl⟩
  · have := txts_of (c := c) (first := first) (ns.map itm) [] (by rw [hl]; rfl) (fun i hi => by obtain ⟨n, _, rfl⟩ := List.mem_map.mp hi; exact itm_ok n)
    rw [hl, hlen] at this
    simpa [eE] using this
  · intro x hx
    have hx : x ∈ (rowL first [] (ns.map itm)).map fun r => ((r.1, some r.2) : Wrd) := by simpa [Bk.row] using hx
    obtain ⟨r, hr, rfl⟩ := List.mem_map.mp hx
    have h1 : r.1 ∈ (rowL first [] (ns.map itm)).map (·.1) := List.mem_map_of_mem hr
    rw [rowL_words, List.map_map] at h1
    obtain ⟨n, _, e⟩ := List.mem_map.mp h1
    have e : nm n = r.1 := e
    rw [← e]
    exact nm_ok n
theorem perm27 {α : Type} (a0 a1 a2 a3 a4 a5 a6 a7 a8 a9 a10 a11 a12 a13 a14 a15 a16 a17 a18 a19 a20 a21 a22 a23 a24 a25 a26 : α) : ([a0, a1, a2, a3, a4, a5, a6, a7, a8, a9, a10, a11, a12, a13, a14, a15, a16, a17, a18, a19, a20, a21, a22, a23, a24, a25, a26] : List α).Perm ([a16, a17, a18, a19, a23, a14, a15, a11, a12, a13, a3, a4, a5, a6, a7, a8, a9, a22, a21, a2, a24, a1, a0] ++ [a25, a26, a20, a10]) :=
  (perm_ix [a0, a1, a2, a3, a4, a5, a6, a7, a8, a9, a10, a11, a12, a13, a14, a15, a16, a17, a18, a19, a20, a21, a22, a23, a24, a25, a26] a0 [16, 17, 18, 19, 23, 14, 15, 11, 12, 13, 3, 4, 5, 6, 7, 8, 9, 22, 21, 2, 24, 1, 0, 25, 26, 20, 10] (show ([16, 17, 18, 19, 23, 14, 15, 11, 12, 13, 3, 4, 5, 6, 7, 8, 9, 22, 21, 2, 24, 1, 0, 25, 26, 20, 10] : List Nat).Perm (List.range 27) from by decide)).symm
theorem perm_asm {α : Type} {g R l X Y B : List α} {f : α} (p : B.Perm (X ++ Y)) : (g ++ (f :: (B ++ (R ++ l)))).Perm ((X ++ (R ++ g)) ++ (f :: (Y ++ l))) := by
  have h1 : (g ++ (f :: (B ++ (R ++ l)))).Perm (g ++ (f :: ((X ++ Y) ++ (R ++ l)))) := List.Perm.append_left _ (List.Perm.cons _ (List.Perm.append_right _ p))
  refine h1.trans ?_
  have e1 : ((X ++ (R ++ g)) ++ (f :: (Y ++ l))).Perm (f :: ((X ++ (R ++ g)) ++ (Y ++ l))) := List.perm_middle
  have e2 : (g ++ (f :: ((X ++ Y) ++ (R ++ l)))).Perm (f :: (g ++ ((X ++ Y) ++ (R ++ l)))) := List.perm_middle
  refine e2.trans (List.Perm.trans (List.Perm.cons f ?_) e1.symm)
  have q : (g ++ ((X ++ Y) ++ (R ++ l))) = (g ++ (X ++ (Y ++ R))) ++ l := by simp
  have q2 : (X ++ (R ++ g)) ++ (Y ++ l) = (X ++ (R ++ (g ++ Y))) ++ l := by simp
  rw [q, q2]
  refine List.Perm.append_right _ ?_
  refine (List.perm_append_comm).trans ?_
  have q3 : (X ++ (Y ++ R)) ++ g = X ++ ((Y ++ R) ++ g) := by simp
  rw [q3]
  refine List.Perm.append_left _ ?_
  have q4 : (Y ++ R) ++ g = Y ++ (R ++ g) := by simp
  have q5 : R ++ (g ++ Y) = (R ++ g) ++ Y := by simp
  rw [q4, q5]
  exact List.perm_append_comm
theorem fn_objC {w : World} {mg mb : Str → Option Value} {hT h : Heap} {g l : List Fact} {F : Addr} {ps ns gs : List Str} (T : Tp w mg mb hT) (N : FnAtC w F ps ns gs) (D : Led hT g l h) : ∃ o f, h.get? F = some o ∧ o.data = .func f := ⟨_, _, D.keep _ _ (T.X _ _ N.obj), rfl⟩
section
variable {prog : Program} {w : World} {A : Around} {E : Value → Shared → Prop} {s : Shared} {h hT : Heap} {t : Nat} {L nb rw0 : Addr} {g l : List Fact} {P : Obj → Prop} {mg mb : Str → Option Value} {n : Nat} {es : List Env} {nv : List Value} {ns : List Int} {first : Int} {u tx : Tok} {rs : List Addr} {v5 : Option Value}
set_option maxHeartbeats 8000000 in
theorem run_set {Q : Flow → Shared → Prop} (T : Tp w mg mb hT) (S : Scp hT (callEnvC (fd 192) L 192) L rnNs rnGs) (r : Rm (n + 20) A (callEnvC (fd 192) L 192 :: es)) (hn : ns.length ≤ 8) (hrs : rs.length = ns.length)
    (D : Led hT g ((L, Frm rnNs [some (.ref nb), some (.int first u), some (.ref rw0), some (.str (ofL (textL ns)) tx), v5, none, none, none, none, none, none, none, none, none]) :: (135, TabO #[]) :: (142, TabO #[]) :: (rw0, LstO (rs.map .ref)) :: (L + 1, CellO none) :: (nb, LstO nv) :: (rowF rs (xsL first ns) ++ l)) h)
    (kk : ∀ (h : Heap) (t : Nat) (c : Lc) (k : Lk) (q : Bc) (st : St) (τ : Bt) (ps1 ps2 : Array Value) (v5 : Option Value) (tx : Tok), c.text = ofL (textL ns ++ [32, 10]) → st.b = ⟨[], [], rowL first [] (ns.map itm), first, 0, []⟩ → Sy c (eE first ns) st →
      Led hT (Wg prog w c k st (Bkf prog w q (eE first ns) st.b τ rs ++ g)) ((L, Frm rnNs [some (.ref nb), some (.int first u), some (.ref q.row), some (.str c.text tx), v5, some (.ref c.spot), some (.ref k.known), some (.ref k.asked), some (.ref c.lex), some (.ref k.lookF), some (.ref q.bk), none, none, none]) :: (L + 1, CellO none) :: (nb, LstO nv) :: (135, TabO ps1) :: (142, TabO ps2) :: l) h →
      wpAny (model prog w) A (execs ((bd 192).drop 9) (callEnvC (fd 192) L 192)) Q (fun _ _ => False) (At s h t)) :
    wpAny (model prog w) A (execs ((bd 192).drop 2) (callEnvC (fd 192) L 192)) Q (fun _ _ => False) (At s h t) := by
  obtain ⟨l1, hl1⟩ : ∃ l1, l1 = (rw0, LstO (rs.map .ref)) :: (L + 1, CellO none) :: (nb, LstO nv) :: (rowF rs (xsL first ns) ++ l) := ⟨_, rfl⟩
  rw [← hl1] at D
  have htl := textL_len ns
  have e2 : Str.ofString " \n" = ofL [32, 10] := by decide +kernel
  refine x_cons (st := _) (rest := _) ?_
  repeat walk_at "m"
  rw [e2]
  refine z_iadd (by rw [ofL_len, ofL_len, sizeLine_eq]; simp; omega) ?_
  intro _ _
  rw [ofL_app]
  walk_at "m"
  walk_at "m"
  refine x_cons (st := _) (rest := _) ?_
  refine Assign_Tuple_swapped (names := [Str.ofString "spot", Str.ofString "known", Str.ofString "asked"]) ?_ ?h1 ?h2
  case h1 => kernel_rfl
  case h2 => kernel_rfl
  repeat walk_at "m"
  clear D
  have D := (by assumption : Led hT g ((L, Frm rnNs [some (.ref nb), some (.int first u), some (.ref rw0), some (.str (ofL (textL ns ++ [32, 10])) _), v5, none, none, none, none, none, none, none, none, none]) :: _) _)
  refine x_dict D (by with_unfolding_all rfl) (by with_unfolding_all rfl) (by simp) (by simp) ?_
  clear D
  intro spot h D
  refine pairTrees_cons_walk ?_
  repeat walk_at "m"
  refine dict_done (ks := [Str.ofString "place"]) (us := [.int 0 _]) D (.s .z) (.s .z) (by rfl) (by rfl) (by simp [strPairs]) ?_
  clear D
  intro h t D
  repeat walk_at "m"
  refine ls_mk D ?_
  clear D
  intro kn h D
  repeat walk_at "m"
  refine ls_mk D ?_
  clear D
  intro as h D
  have D := D.weak (.s .z) (.s .z) (P' := LstI []) (fun o ho => ⟨[], rfl, ho⟩)
  repeat walk_at "m"
  refine t_mk D ?_
  clear D
  intro a' h D
  obtain ⟨_, hta, rfl⟩ := D.atL (.s .z)
  refine unpackItems_tuple (s := At s h _) (items := #[_, _, _]) r.hnd ⟨_, hta, rfl, _, rfl⟩ ?_
  intro h' hxx
  have D := (D.growF S.abv fun b o e => hxx b o (Nat.ne_of_lt (Heap.lt_size e)) e).sub (.cons_cons _ (.cons _ (.refl _)))
  clear hta
  show wpAny _ _ (assignInOrder [fun v => bindName _ _ v, fun v => bindName _ _ v, fun v => bindName _ _ v] [_, _, _]) _ _ _
  repeat walk_at "m"
  refine c_cls T (by with_unfolding_all rfl) ?_
  repeat walk_at "m"
  refine c_fn (by with_unfolding_all rfl) ?_
  repeat walk_at "m"
  clear D
  have D := (by assumption : Led hT g ((L, Frm rnNs [some (.ref nb), some (.int first u), some (.ref rw0), some (.str (ofL (textL ns ++ [32, 10])) _), v5, some (.ref spot), some (.ref kn), some (.ref as), none, none, none, none, none, none]) :: (as, LstI []) :: (kn, LstO []) :: (spot, Dct prog w [Str.ofString "place"] [.int 0 _]) :: (135, TabO #[]) :: _) _)
  refine ⟨fn_objC T (fn_reader w) D, ?_⟩
  have D : Led hT g _ _ := Ldg.perm D (List.Perm.append_left _ (List.perm_middle (l₁ := [_, _, _, _])))
  refine wpAny_call (codeAny_mono (reader_spec (n := n) T D (r.mono (by omega))) ?_)
  clear D
  rintro _ _ ⟨h, t, tape, tapeD, readF, readC, ct, cs, pm, ctup, doc, fT, sl, ps1, rfl, rfl, D⟩
  repeat walk_at "m"
  refine ⟨Led.keep D, ?_⟩
  refine lex_new (n := n) T D (r.mono (by omega)) ?_
  clear D
  intro lex dx pu t1 t3 h t D
  have D : Led hT g _ _ := Ldg.perm D (List.Perm.append_left _ (List.perm_middle (l₁ := [_, _, _, _, _, _, _, _, _, _])))
  repeat walk_at "m"
  refine plainObj_wpAny_Assign_Attribute ?_
  repeat walk_at "m"
  clear D
  have D := (by assumption : Led hT g ((L, Frm rnNs [some (.ref nb), some (.int first u), some (.ref rw0), some (.str (ofL (textL ns ++ [32, 10])) _), v5, some (.ref spot), some (.ref kn), some (.ref as), some (.ref lex), none, none, none, none, none]) :: (lex, InstO 117 dx) :: _) _)
  refine a_setL D T (bare_lineno w) (.s .z) (.s (.s .z)) lexNs_nd (by omega) .z .z (.s (.s .z)) ?_
  clear D
  intro h t D
  have D := D.weak (.s (.s .z)) (.s (.s .z)) (P' := DFrm 10 lexNs [some (.int first u), some (.ref tape), some (.str blanks t3), some (.ref pu)]) (fun o ho => by
    obtain ⟨es, ep, e1, e2, e3, e4⟩ := ho
    exact ⟨es, ep, e1, e2, e3, by omega⟩)
  repeat walk_at "m"
  refine c_fn (by with_unfolding_all rfl) ?_
  repeat walk_at "m"
  refine ⟨fn_objC T (fn_mklook w) D, ?_⟩
  have D : Led hT g _ _ := Ldg.perm D (List.Perm.append_left _ (List.perm_middle (l₁ := [_, _, _, _, _, _, _, _, _, _, _, _, _, _])))
  refine wpAny_call (codeAny_mono (mklook_spec (n := n) T D (r.mono (by omega))) ?_)
  clear D
  rintro _ _ ⟨h, t, k, ps2, rfl, rfl, hk1, hk2, D⟩
  have D : Led hT g _ _ := Ldg.perm D (List.Perm.append_left _ (List.perm_middle (l₁ := [_, _, _, _, _, _, _, _])))
  obtain ⟨l3, hl3, D⟩ : ∃ l3, l3 = _ ∧ Led hT g (_ :: l3) h := ⟨_, rfl, D⟩
  repeat walk_at "m"
  clear D
  have D := (by assumption : Led hT g ((L, Frm rnNs [some (.ref nb), some (.int first u), some (.ref rw0), some (.str (ofL (textL ns ++ [32, 10])) _), v5, some (.ref spot), some (.ref kn), some (.ref as), some (.ref lex), some (.ref k.lookF), none, none, none, none]) :: _) _)
  refine x_dict D (by with_unfolding_all rfl) (by with_unfolding_all rfl) (by simp) (by simp) ?_
  clear D
  intro bk h D
  refine pairTrees_cons_walk ?_
  repeat walk_at "m"
  refine pairTrees_cons_walk ?_
  repeat walk_at "m"
  refine pairTrees_cons_walk ?_
  repeat walk_at "m"
  refine pairTrees_cons_walk ?_
  repeat walk_at "m"
  refine pairTrees_cons_walk ?_
  repeat walk_at "m"
  refine pairTrees_cons_walk ?_
  repeat walk_at "m"
  refine ls_mk D ?_
  clear D
  intro ask h D
  have D := D.weak (.s .z) (.s .z) (P' := LstI []) (fun o ho => ⟨[], rfl, ho⟩)
  repeat walk_at "m"
  refine dict_done (ks := [Str.ofString "row", Str.ofString "known", Str.ofString "waits", Str.ofString "line", Str.ofString "place", Str.ofString "asked"]) (us := [.ref rw0, .int 0 _, .int 0 _, .int first u, .int 0 _, .ref ask]) D (.s (.s .z)) (.s (.s .z)) (by rfl) (by rfl) (by simp only [strPairs, List.map_cons, List.map_nil]; decide +kernel) ?_
  clear D
  intro h t D
  repeat walk_at "m"
  refine GM.count ?_
  refine c_bi' (by with_unfolding_all rfl) ?_
  repeat walk_at "m"
  refine z_count ?_
  intro _ _
  repeat walk_at "m"
  refine z_len (by rw [ofL_len, sizeLine_eq, List.length_append]; show _ + 2 ≤ _; omega) ?_
  intro _ _
  repeat walk_at "m"
  clear D
  have D := (by assumption : Led hT g ((L, Frm rnNs [some (.ref nb), some (.int first u), some (.ref rw0), some (.str (ofL (textL ns ++ [32, 10])) _), v5, some (.ref spot), some (.ref kn), some (.ref as), some (.ref lex), some (.ref k.lookF), some (.ref bk), none, none, none]) :: _) _)
  refine t_mk D ?_
  clear D
  intro en0 h D
  repeat walk_at "m"
  refine d_newL (x := Str.ofString "end") (v := .ref en0) D (.s (.s (.s .z))) rfl (by decide +kernel) (by decide) (.s (.s (.s .z))) ?_
  clear D
  intro h t D
  walk_at "m"
  subst hk1 hk2 hl3 hl1
  rw [ofL_len] at D
  have D' := Ldg.perm D (perm_asm (R := rowF rs (xsL first ns)) (perm27 _ _ _ _ _ _ _ _ _ _ _ _ _ _ _ _ _ _ _ _ _ _ _ _ _ _ _))
  exact kk h _ ⟨readF, readC, cs, ct, spot, tape, tapeD, lex, dx, pu, pm, ctup, doc, ofL (textL ns ++ [32, 10]), _, t3, fT, sl⟩ k ⟨bk, rw0, ask, en0, _, _⟩ ⟨⟨0, first, [], _, u⟩, ⟨[], [], rowL first [] (ns.map itm), first, 0, []⟩, []⟩ ⟨_, _, u, _⟩ ps1 ps2 v5 _ rfl rfl (sy_start rfl) D'
end
end
section
variable {prog : Program} {w : World} {A : Around} {E : Value → Shared → Prop} {s : Shared} {h hT : Heap} {t : Nat} {env : Env} {L it : Addr} {g l l' K : List Fact} {P : Obj → Prop} {mg mb : Str → Option Value}
set_option maxHeartbeats 4000000 in
theorem lc_core {us : Option (Value → Sem Unit)} {elt iter : Expr} {ifs : List Expr} {nm : Str} {px pos : Pos} {scope : Scope} {cl : List (Str × Addr)} {cgs : List Str} {Q : Value → Shared → Prop} {It : Nat → Obj → Prop} {n : Nat} {X : Nat → Value → Prop} (J : Nat → List Value → List Fact → Prop)
    (I : Itr prog w A hT g K it It n X) (D : Led hT g ((L, P) :: (it, It 0) :: l) h) (hK : ∀ c ∈ K, c ∈ g ++ ((L, P) :: l)) (ha : hT.objs.size ≤ L) (hJ0 : J 0 [] []) (hJ : ∀ j ys ex, J j ys ex → ys.length ≤ 1000)
    (hcell : scope.names.all (fun x => x.2 != .cell) = true) (hsc : scopeOk (relabel scope env) [Str.ofString ".0", nm] cgs = true) (hk : scope.kind = .function) (hg : env.globals = mainGlobals) (hb : env.builtins = builtinsNs)
    (helt : ∀ C acc j v ys ex h t E', j < n → X j v → J j ys ex → Led hT g ((C, Frm [Str.ofString ".0", nm] [none, some v]) :: (acc, LstO ys) :: (it, It (j + 1)) :: (L, P) :: (l ++ ex)) h → Scp hT (compEnvC scope cl C env) C [Str.ofString ".0", nm] cgs →
      Tst (model prog w) A ifs (compEnvC scope cl C env) (fun ok s₃ => if ok = true then wpAny (model prog w) A (eval elt (compEnvC scope cl C env)) (fun y s' => ∃ h t ex', s' = At s h t ∧ Led hT g ((C, Frm [Str.ofString ".0", nm] [none, some v]) :: (acc, LstO ys) :: (it, It (j + 1)) :: (L, P) :: (l ++ ex')) h ∧ J (j + 1) (ys ++ [y]) ex') E' s₃
        else ∃ h t ex', s₃ = At s h t ∧ Led hT g ((C, Frm [Str.ofString ".0", nm] [none, some v]) :: (acc, LstO ys) :: (it, It (j + 1)) :: (L, P) :: (l ++ ex')) h ∧ J (j + 1) ys ex') E' (At s h t))
    (k : ∀ C ov acc h t ys ex f, J n ys ex → Led hT g ((C, Frm [Str.ofString ".0", nm] [none, ov]) :: (acc, LstO ys) :: (L, P) :: (l ++ ex)) h → compPost (model prog w) A E us Q (.ref acc) C (.ok f) (At s h t)) :
    wpAny (model prog w) A (newList []) (fun acc s₃ => wpAny (model prog w) A (newFunctionEnv scope env.globals cl [] env.qual none .none (some env)) (fun cenv s₄ =>
      codeAny (model prog w) A (.compStart (.ListComp elt [⟨.Name nm px, iter, ifs, 0⟩] scope pos) 0 (.ref it) acc { cenv with scope := relabel scope env }) (compPost (model prog w) A E us Q acc cenv.locals) s₄) E s₃) E (At s h t) := by
  refine lc_enter (R := fun acc cenv s₄ => codeAny (model prog w) A (.compStart (.ListComp elt [⟨.Name nm px, iter, ifs, 0⟩] scope pos) 0 (.ref it) acc cenv) (compPost (model prog w) A E us Q acc cenv.locals) s₄) (cns := [Str.ofString ".0", nm]) (cgs := cgs) D ha hcell hsc hk hg hb ?_
  clear D
  intro acc C h D S
  suffices H : codeAny (model prog w) A (.compLoop (.ListComp elt [⟨.Name nm px, iter, ifs, 0⟩] scope pos) 0 (.ref it) (.ref acc) (compEnvC scope cl C env)) (compPost (model prog w) A E us Q (.ref acc) C) (At s h t) from
    codeAny_compStart_list H (I.self D (.s (.s (.s .z))) H)
  refine codeAny_compLoop_tests (fun m s' => ∃ j h t ov ys ex, s' = At s h t ∧ m = n - j ∧ j ≤ n ∧ J j ys ex ∧ Led hT g ((C, Frm [Str.ofString ".0", nm] [none, ov]) :: (acc, LstO ys) :: (it, It j) :: (L, P) :: (l ++ ex)) h) ?_ n
    ⟨0, h, t, none, [], [], rfl, rfl, Nat.zero_le _, hJ0, Ldg.perm D (List.Perm.append_left _ (List.Perm.cons _ (List.Perm.cons _ (by rw [List.append_nil]; exact List.Perm.swap _ _ _))))⟩
  clear D
  rintro m _ ⟨j, h, t, ov, ys, ex, rfl, rfl, hj, hjy, D⟩
  have hK' : ∀ ex, ∀ c ∈ K, c ∈ g ++ ((L, P) :: (l ++ ex)) := fun ex c hc => by
    have := hK c hc
    simp only [List.mem_append, List.mem_cons] at this ⊢
    rcases this with a | a | a
    · exact .inl a
    · exact .inr (.inl a)
    · exact .inr (.inr (.inl a))
  by_cases hjl : j < n
  · refine I.next hjl (fun c hc => ?_) D (.s (.s .z)) (.s (.s .z)) ?_
    · exact mem_pre [_, _, _] (hK' ex c hc)
    clear D
    intro v h t hv D
    dsimp only
    refine wpAny_assign_Name ?_
    refine st D S (.s .z) (.s .z) ?_
    clear D
    intro h t D
    refine wpAny_mono (helt C acc j v ys ex h t _ hjl hv hjy D S) ?_ (fun _ _ q => q)
    intro ok s₃ q
    cases ok with
    | true =>
      rw [if_pos rfl] at q ⊢
      refine wpAny_mono q ?_ (fun _ _ q => q)
      rintro y _ ⟨h, t, ex', rfl, D, hj'⟩
      refine l_appendL D (.s .z) (.s .z) (hJ _ _ _ hjy) ?_
      clear D
      intro h t D
      exact ⟨n - (j + 1), by omega, j + 1, h, t, _, _, ex', rfl, rfl, by omega, hj', D⟩
    | false =>
      rw [if_neg Bool.false_ne_true] at q ⊢
      obtain ⟨h, t, ex', rfl, D, hj'⟩ := q
      exact ⟨n - (j + 1), by omega, j + 1, h, t, _, _, ex', rfl, rfl, by omega, hj', D⟩
  · have hjn : j = n := by omega
    subst hjn
    have D : Led hT g ((C, Frm [Str.ofString ".0", nm] [none, ov]) :: (it, It j) :: (acc, LstO ys) :: (L, P) :: (l ++ ex)) h := Ldg.perm D (List.Perm.append_left _ (List.Perm.cons _ (List.Perm.swap _ _ _)))
    refine I.stop S.abv (fun c hc => ?_) D ?_
    · exact mem_pre [_] (hK' ex c hc)
    clear D
    intro h t D
    exact k _ _ _ _ _ _ _ _ hjy D
theorem x_lcu {elt target iter : Expr} {ifs : List Expr} {x : Str} {py spos : Pos} {scope : Scope} {pos : Pos} {cl : List (Str × Addr)} {Q : Flow → Shared → Prop} {M : Model} {s : Shared} (hsw : swapsWith (.ListComp elt [⟨target, iter, ifs, 0⟩] scope pos) (some (.Name x py)) spos.line env = pure true) (hclos : closureFor scope env = pure cl) (hkind : scope.kind = .function) (hnames : scope.names.all (fun x => x.2 != .local || scope.names.lookup x.1 == some .local) = true) (hs : ∀ x, foldedSetIterable iter env x = pure x)
    (k : wpAny M A (eval iter env) (fun v s₁ => wpAny M A (pyIter v) (fun it s₂ => wpAny M A (newList []) (fun acc s₃ => wpAny M A (newFunctionEnv scope env.globals cl [] env.qual none .none (some env)) (fun cenv s₄ =>
      codeAny M A (.compStart (.ListComp elt [⟨target, iter, ifs, 0⟩] scope pos) 0 it acc { cenv with scope := relabel scope env }) (compPost M A E (some (assign (.Name x py) env)) (fun _ s' => Q .next s') acc cenv.locals) s₄) E s₃) E s₂) E s₁) E s) :
    wpAny M A (exec (.Assign [.Name x py] (.ListComp elt [⟨target, iter, ifs, 0⟩] scope pos) spos) env) Q E s := by
  rw [exec_Assign_Name_used _ _ _ _ hsw]
  refine wpAny_bind (wpAny_standAt (wpAny_bind ?_))
  rw [arm_evalThenUse_ListComp]
  refine wpAny_bind (wpAny_mono (wpAny_comprehension_free (Q := fun _ s' => Q .next s') rfl hs hclos hkind (fun y hy hl => ?_) k)
    (fun _ s' hq => wpAny_pure (wpAny_pure hq)) fun _ _ e => e)
  have := List.all_eq_true.mp hnames y hy
  simpa [hl] using this
set_option maxHeartbeats 4000000 in
theorem lc_use {elt iter : Expr} {ifs : List Expr} {nm : Str} {px pos py : Pos} {y : Str} {scope : Scope} {cl : List (Str × Addr)} {cgs : List Str} {Q : Value → Shared → Prop} {It : Nat → Obj → Prop} {n : Nat} {X : Nat → Value → Prop} {ns gs : List Str} {vs : List (Option Value)} (J : Nat → List Value → List Fact → Prop)
    (I : Itr prog w A hT g K it It n X) (S : Scp hT env L ns gs) (D : Led hT g ((L, Frm ns vs) :: (it, It 0) :: l) h) (hK : ∀ c ∈ K, c ∈ g ++ ((L, Frm ns vs) :: l)) (hJ0 : J 0 [] []) (hJ : ∀ j ys ex, J j ys ex → ys.length ≤ 1000)
    (hcell : scope.names.all (fun x => x.2 != .cell) = true) (hsc : scopeOk (relabel scope env) [Str.ofString ".0", nm] cgs = true) (hk : scope.kind = .function)
    {i : Nat} (hn : AtI ns i y) {vs' : Value → List (Option Value)} (hi : ∀ v, SetI vs i (some v) (vs' v))
    (helt : ∀ C acc j v ys ex h t E', j < n → X j v → J j ys ex → Led hT g ((C, Frm [Str.ofString ".0", nm] [none, some v]) :: (acc, LstO ys) :: (it, It (j + 1)) :: (L, Frm ns vs) :: (l ++ ex)) h → Scp hT (compEnvC scope cl C env) C [Str.ofString ".0", nm] cgs →
      Tst (model prog w) A ifs (compEnvC scope cl C env) (fun ok s₃ => if ok = true then wpAny (model prog w) A (eval elt (compEnvC scope cl C env)) (fun y s' => ∃ h t ex', s' = At s h t ∧ Led hT g ((C, Frm [Str.ofString ".0", nm] [none, some v]) :: (acc, LstO ys) :: (it, It (j + 1)) :: (L, Frm ns vs) :: (l ++ ex')) h ∧ J (j + 1) (ys ++ [y]) ex') E' s₃
        else ∃ h t ex', s₃ = At s h t ∧ Led hT g ((C, Frm [Str.ofString ".0", nm] [none, some v]) :: (acc, LstO ys) :: (it, It (j + 1)) :: (L, Frm ns vs) :: (l ++ ex')) h ∧ J (j + 1) ys ex') E' (At s h t))
    (k : ∀ acc h t ys ex, J n ys ex → Led hT g ((L, Frm ns (vs' (.ref acc))) :: (acc, LstO ys) :: (l ++ ex)) h → Q .none (At s h t)) :
    wpAny (model prog w) A (newList []) (fun acc s₃ => wpAny (model prog w) A (newFunctionEnv scope env.globals cl [] env.qual none .none (some env)) (fun cenv s₄ =>
      codeAny (model prog w) A (.compStart (.ListComp elt [⟨.Name nm px, iter, ifs, 0⟩] scope pos) 0 (.ref it) acc { cenv with scope := relabel scope env }) (compPost (model prog w) A E (some (assign (.Name y py) env)) Q acc cenv.locals) s₄) E s₃) E (At s h t) := by
  refine lc_core J I D hK S.abv hJ0 hJ hcell hsc hk S.glo S.bui helt ?_
  clear D
  intro C ov acc h t ys ex f hj D
  show wpAny _ _ (assign (.Name y py) env (.ref acc)) _ _ _
  refine wpAny_assign_Name ?_
  have D : Led hT g ((L, Frm ns vs) :: (C, Frm [Str.ofString ".0", nm] [none, ov]) :: (acc, LstO ys) :: (l ++ ex)) h := Ldg.perm D (List.Perm.append_left _ (((List.Perm.swap _ _ _).cons _).trans (List.Perm.swap _ _ _)))
  refine Mine.st D S hn (hi _) ?_
  clear D
  intro h t D
  have D := D.swap
  exact ⟨_, D.ns .z, fun h' hs => k acc h' t ys ex hj (D.sameTail hs)⟩
end
section
local macro_rules | `(tactic| walk_at "stm") => `(tactic| first
  | with_reducible refine wpAny_Assign_Name ?_ (by with_unfolding_all rfl)
  | with_reducible refine wpAny_Return_some ?_
  | refine wpAny_Expr_any ?_
  | (fail_if_success (with_reducible show wpAny _ _ (exec (.Assign _ (.Tuple _ _ _) _) _) _ _ _)); (with_reducible refine Assign_Tuple ?_ (by with_unfolding_all rfl) (by with_unfolding_all rfl))
  | with_reducible refine x_if ?_
  | with_reducible refine wpAny_Assign_Subscript ?_ (by with_unfolding_all rfl)
  | with_reducible refine wpAny_AugAssign_Name ?_
  | with_reducible refine wpAny_AugAssign_AttributeAny ?_
  | refine wpAny_AugAssign_SubscriptAny ?_)
local macro_rules | `(tactic| walk_at "m") => `(tactic| first | with_reducible refine z_eq ?_ | with_reducible refine assignInOrder_cons ?_ | with_reducible refine assignInOrder_nil ?_ | with_reducible refine wpAny_assign_Name ?_ | with_reducible refine wpAny_bindName ?_ | with_reducible refine a_sub ?_ | with_reducible refine wpAny_isTrue_Not ?_)
local macro_rules | `(tactic| walk_at "at") => `(tactic| first | with_reducible exact (.s (.s (.s (.s (.s (.s (.s (.s (.s (.s (.s (.s .z)))))))))))) | with_reducible exact (.s (.s (.s (.s (.s (.s (.s (.s (.s (.s (.s (.s (.s .z))))))))))))))
local macro_rules | `(tactic| walk_at "set") => `(tactic| first | with_reducible exact (.s (.s (.s (.s (.s (.s (.s (.s (.s (.s (.s .z))))))))))) | with_reducible exact (.s (.s (.s (.s (.s (.s (.s (.s (.s (.s (.s (.s .z)))))))))))) | with_reducible exact (.s (.s (.s (.s (.s (.s (.s (.s (.s (.s (.s (.s (.s .z))))))))))))))
theorem waits_pick {b : Bk} : (b.row.drop b.known.length).take b.waits.length = b.waits.map fun x => ((x, none) : Wrd) := by
  unfold Bk.row
  rw [List.drop_left]
  have : (b.waits.map fun x => ((x, none) : Wrd)).length = b.waits.length := by simp
  rw [← this, List.take_left]
theorem known_pick {b : Bk} : b.row.take b.known.length = b.known := by
  unfold Bk.row
  rw [List.take_left]
theorem strs_reads {h : Heap} : ∀ {vs : List Value} {ys : List Str}, StrsAre vs ys → ReadsAll h vs (ys.map PyData.str) []
  | _, _, .nil => ReadsAll.nil
  | _, _, .cons y t r => ReadsAll.cons (Reads.str _ _) (strs_reads r)
theorem strs_shaped : ∀ ys : List Str, (∀ y ∈ ys, PyData.strOk y = true) → PyData.canLayAll0 (ys.map PyData.str) = true ∧ PyData.depthAll (ys.map PyData.str) = 0
  | [], _ => ⟨rfl, rfl⟩
  | a :: r, h => by
    obtain ⟨h1, h2⟩ := strs_shaped r fun y hy => h y (.tail _ hy)
    have := h a (.head _)
    simp only [List.map_cons, PyData.canLayAll0, PyData.canLay0, PyData.depthAll, PyData.depth, h1, h2, this]
    decide
theorem push_strs : ∀ (ps : List (Str × Tok)), StrsAre (ps.map fun p => .str p.1 p.2) (ps.map (·.1))
  | [] => .nil
  | p :: ps => .cons _ _ (push_strs ps)
noncomputable def triD (i j : Int) (ys : List Str) : PyData := .tuple [.int i, .int j, .list (ys.map .str)]
theorem tri_reads {h : Heap} {a p : Addr} {i j : Int} {u v : Tok} {ws : List Value} {ys : List Str} (ha : ∃ o, h.get? a = some o ∧ TupO [.int i u, .int j v, .ref p] o) (hp : ∃ o, h.get? p = some o ∧ LstO ws o) (hw : StrsAre ws ys) : ∃ as, Reads h (.ref a) (triD i j ys) as := by
  obtain ⟨_, ho, rfl⟩ := ha
  obtain ⟨_, hq, n, rfl⟩ := hp
  exact ⟨_, reads_tuple_at ho rfl rfl (ReadsAll.cons (Reads.int _ _) (ReadsAll.cons (Reads.int _ _) (ReadsAll.cons (reads_list_at hq rfl rfl (strs_reads hw)) ReadsAll.nil)))⟩
theorem tri_shaped {i j : Int} {ys : List Str} (hy : ∀ y ∈ ys, PyData.strOk y = true) : SeqAt.shaped (triD i j ys) = true ∧ (triD i j ys).canLay0 = true := by
  obtain ⟨h1, h2⟩ := strs_shaped ys hy
  constructor
  · unfold SeqAt.shaped triD
    simp only [PyData.canLay0, PyData.canLayAll0, PyData.depth, PyData.depthAll, h1, h2]
    decide
  · unfold triD
    simp only [PyData.canLay0, PyData.canLayAll0, h1]
    decide
theorem tri_ne {prog : Program} {w : World} {A : Around} {E : Value → Shared → Prop} {s : Shared} {h : Heap} {t : Nat} {a b p r : Addr} {i j : Int} {u v u' v' : Tok} {ws ws' : List Value} {ys : List Str} {Q : Value → Shared → Prop}
    (ha : ∃ o, h.get? a = some o ∧ TupO [.int i u, .int j v, .ref p] o) (hp : ∃ o, h.get? p = some o ∧ LstO ws o) (hw : StrsAre ws ys)
    (hb : ∃ o, h.get? b = some o ∧ TupO [.int i u', .int j v', .ref r] o) (hr : ∃ o, h.get? r = some o ∧ LstO ws' o) (hw' : StrsAre ws' ys) (hy : ∀ y ∈ ys, PyData.strOk y = true) (hu : A.units + 64 < 9900)
    (k : Q (.bool false) (At s h t)) : wpAny (model prog w) A (compareOp .NotEq (.ref a) (.ref b)) Q E (At s h t) := by
  obtain ⟨_, r1⟩ := tri_reads ha hp hw
  obtain ⟨_, r2⟩ := tri_reads hb hr hw'
  obtain ⟨s1, s2⟩ := tri_shaped (i := i) (j := j) hy
  refine ne_dataH (s := At s h t) r1 r2 s1 s1 hu ?_
  rw [SeqAt.eqv_refl _ s2]
  exact k
inductive RdI (prog : Program) (w : World) (hT : Heap) (c : Lc) (k : Lk) (q : Bc) (e : Int × Nat) (g l : List Fact) (s : Shared) (L nb it : Addr) (ns : List Int) (first : Int) (u tx : Tok) (m : Nat) (s' : Shared) : Prop
  | mk (j : Nat) (h : Heap) (t : Nat) (st : St) (τ : Bt) (rs : List Addr) (v5 v11 : Option Value) (es : s' = At s h t) (em : m = ns.length - j) (hj : j ≤ ns.length) (hst : BkInv e st.b j) (hrs : rs.length = st.b.row.length) (Y : Sy c e st)
      (D : Led hT (Wg prog w c k st (Bkf prog w q e st.b τ rs ++ g)) ((L, Frm rnNs [some (.ref nb), some (.int first u), some (.ref q.row), some (.str c.text tx), v5, some (.ref c.spot), some (.ref k.known), some (.ref k.asked), some (.ref c.lex), some (.ref k.lookF), some (.ref q.bk), v11, none, none]) :: (it, ItO nb j) :: l) h)
section
variable {prog : Program} {w : World} {A : Around} {E : Value → Shared → Prop} {s : Shared} {h hT : Heap} {t : Nat} {L nb : Addr} {g l : List Fact} {P : Obj → Prop} {mg mb : Str → Option Value} {n : Nat} {es : List Env} {nv : List Value} {ns : List Int} {first : Int} {u tx : Tok} {c : Lc} {k : Lk} {q : Bc} {e : Int × Nat} {ps1 ps2 : Array Value} {v5 : Option Value} {st : St} {τ : Bt} {rs : List Addr}
set_option maxHeartbeats 8000000 in
theorem run_deeds {Q : Flow → Shared → Prop} (T : Tp w mg mb hT) (hgt : prog.given.tree = none) (S : Scp hT (callEnvC (fd 192) L 192) L rnNs rnGs) (r : Rm (n + 220) A (callEnvC (fd 192) L 192 :: es)) (F : FrsIn es l) (hx : c.text.length ≤ 1000) (hn : ns.length ≤ 8) (hv : IntsAre nv ns)
    (hst : BkInv e st.b 0) (hrs : rs.length = st.b.row.length) (Y : Sy c e st)
    (D : Led hT (Wg prog w c k st (Bkf prog w q e st.b τ rs ++ g)) ((L, Frm rnNs [some (.ref nb), some (.int first u), some (.ref q.row), some (.str c.text tx), v5, some (.ref c.spot), some (.ref k.known), some (.ref k.asked), some (.ref c.lex), some (.ref k.lookF), some (.ref q.bk), none, none, none]) :: (L + 1, CellO none) :: (nb, LstO nv) :: (135, TabO ps1) :: (142, TabO ps2) :: l) h)
    (kk : ∀ (h : Heap) (t : Nat) (st : St) (τ : Bt) (rs : List Addr) (v5 v11 : Option Value), BkInv e st.b ns.length → rs.length = st.b.row.length → Sy c e st →
      Led hT (Wg prog w c k st (Bkf prog w q e st.b τ rs ++ g)) ((L, Frm rnNs [some (.ref nb), some (.int first u), some (.ref q.row), some (.str c.text tx), v5, some (.ref c.spot), some (.ref k.known), some (.ref k.asked), some (.ref c.lex), some (.ref k.lookF), some (.ref q.bk), v11, none, none]) :: (L + 1, CellO none) :: (nb, LstO nv) :: (135, TabO ps1) :: (142, TabO ps2) :: l) h →
      wpAny (model prog w) A (execs ((bd 192).drop 10) (callEnvC (fd 192) L 192)) Q (fun _ _ => False) (At s h t)) :
    wpAny (model prog w) A (execs ((bd 192).drop 9) (callEnvC (fd 192) L 192)) Q (fun _ _ => False) (At s h t) := by
  refine x_cons (st := _) (rest := _) ?_
  refine wpAny_For ?_ (by intro _; with_unfolding_all rfl)
  repeat walk_at "m"
  have hnl := ints_len hv
  obtain ⟨_, hnb, nn, rfl⟩ := D.atL (.s (.s .z))
  refine li_iter D ⟨_, hnb, rfl, nn, rfl⟩ ?_
  clear D hnb
  intro it h D
  obtain ⟨l0, hl0⟩ : ∃ l0, l0 = (L + 1, CellO none) :: (nb, LstO nv) :: (135, TabO ps1) :: (142, TabO ps2) :: l := ⟨_, rfl⟩
  have hat : AtI l0 1 (nb, LstO nv) := by rw [hl0]; exact .s .z
  have F : FrsIn es l0 := by rw [hl0]; exact F.mono fun c hc => .tail _ (.tail _ (.tail _ (.tail _ hc)))
  rw [← hl0] at D kk
  clear hl0
  refine for_itV (RdI prog w hT c k q e g l0 s L nb it ns first u tx) ns.length PassesOwn.never
    ⟨0, h, t, st, τ, rs, v5, none, rfl, rfl, Nat.zero_le _, hst, hrs, Y, D⟩ (by intro _; with_unfolding_all rfl) ?_
  clear D Y hrs hst
  rintro J K hJ hK m _ ⟨j, h, t, st, τ, rs, v5, v11, rfl, rfl, hj, hst, hrs, Y, D⟩
  obtain ⟨_, hnb, nn, rfl⟩ := D.atL (.s (.s hat))
  have hIs : h.IsList nb nv.toArray := ⟨_, hnb, rfl, nn, rfl⟩
  by_cases hjl : j < ns.length
  · obtain ⟨x, hxx⟩ : ∃ x, ns[j]? = some x := ⟨_, List.getElem?_eq_getElem hjl⟩
    obtain ⟨tk, hxv⟩ := ints_at hv hxx
    refine li_next D (.s .z) hIs hxv (.s .z) ?_
    clear D hIs hnb
    intro h D
    refine wpAny_assign_Name ?_
    repeat walk_at "m"
    clear D
    have D := (by assumption : Led hT (Wg prog w c k st (Bkf prog w q e st.b τ rs ++ g)) ((L, Frm rnNs [some (.ref nb), some (.int first u), some (.ref q.row), some (.str c.text tx), some (.int x tk), some (.ref c.spot), some (.ref k.known), some (.ref k.asked), some (.ref c.lex), some (.ref k.lookF), some (.ref q.bk), v11, none, none]) :: _) _)
    refine c_fn (by with_unfolding_all rfl) ?_
    repeat walk_at "m"
    refine ⟨fn_obj T (fn_deed w) D, ?_⟩
    have hI := hst.row
    have hA := hst.asked
    refine wpAny_call (codeAny_mono (deed_spec (n := n) T hgt hx D (r.mono (by omega)) (FrsIn.cons (by rw [S.kind]; intro z; cases z) rfl (F.mono fun c hc => .tail _ hc)) Y hrs (by clear hnl hxx hxv hj; omega) (by clear hnl hxx hxv hj; omega) hst.ln hst.so) ?_)
    clear D
    rintro _ _ ⟨h, t, st2, τ2, rs2, rfl, rfl, hb, Y2, hrs2, D⟩
    obtain ⟨hst2, hwk⟩ := deed_inv (e := e) (n := x) hst Y.ok
    rw [← hb] at hst2 hrs2
    clear hb hwk
    have hkl : st2.b.known.length ≤ 100 ∧ st2.b.waits.length ≤ 100 := by
      have h1 := row_len st2.b
      have h2 := hst2.row
      clear hnl hxx hxv hj hI hA hrs hrs2; omega
    repeat walk_at "m"
    refine b_no rfl ?_
    repeat walk_at "m"
    refine x_lcu (cl := []) (by with_unfolding_all rfl) (by with_unfolding_all rfl) (by with_unfolding_all rfl) (by with_unfolding_all rfl) (by intro _; with_unfolding_all rfl) ?_
    have D := D.toBook
    repeat walk_at "m"
    refine d_item D .z (.s .z) (.s .z) (by with_unfolding_all rfl) ?_
    intro _
    repeat walk_at "m"
    refine d_item D .z (.s .z) (.s .z) (by with_unfolding_all rfl) ?_
    intro _
    repeat walk_at "m"
    refine d_item D .z (.s (.s .z)) (.s (.s .z)) (by with_unfolding_all rfl) ?_
    intro _
    repeat walk_at "m"
    rw [show ((st2.b.known.length : Int) + (st2.b.waits.length : Int)) = ((st2.b.known.length + st2.b.waits.length : Nat) : Int) from rfl]
    refine l_slice D S.abv (l_is D at_brow) (by have := hst2.row; simp; omega) (.int _ _) (.int _ _) .none (by simp) (by with_unfolding_all rfl) ?_
    clear D
    intro sb h D
    rw [pick_ab, Nat.add_sub_cancel_left] at D
    have hrl := row_len st2.b
    have hpl : (((rs2.map Value.ref).drop st2.b.known.length).take st2.b.waits.length).length = st2.b.waits.length := by
      simp; omega
    obtain ⟨_, hsb, nsb, rfl⟩ := D.atL (.s .z)
    refine li_iter D ⟨_, hsb, rfl, nsb, rfl⟩ ?_
    clear D hsb
    intro it2 h D
    refine lc_use (cl := []) (cgs := []) (fun j ys ex => ex = [] ∧ StrsAre ys (st2.b.waits.take j)) (itr_list (a := sb) (xs := ((rs2.map Value.ref).drop st2.b.known.length).take st2.b.waits.length) r.hnd) S D (fun c hc => ?_) ⟨rfl, .nil⟩ ?_ (by with_unfolding_all rfl) (by kernel_rfl) (by with_unfolding_all rfl) (by walk_at "at") (fun v => by walk_at "set") ?_ ?_
    · rw [List.mem_singleton.mp hc]
      exact List.mem_append_right _ (.tail _ (.head _))
    · rintro i ys ex ⟨_, h1⟩
      rw [strs_len h1]
      simp; omega
    · clear D
      rintro C acc i v ys ex h t E' hi hvi ⟨rfl, hys⟩ D S2
      rw [hpl] at hi
      obtain ⟨a, hra⟩ : ∃ a, rs2[st2.b.known.length + i]? = some a := ⟨_, List.getElem?_eq_getElem (by omega)⟩
      obtain ⟨y, hwy⟩ : ∃ y, st2.b.waits[i]? = some y := ⟨_, List.getElem?_eq_getElem hi⟩
      have hva : v = .ref a := by
        rw [List.getElem?_take, if_pos hi, List.getElem?_drop, List.getElem?_map, hra] at hvi
        exact (Option.some.inj hvi).symm
      subst hva
      have hry : st2.b.row[st2.b.known.length + i]? = some (y, none) := by
        unfold Bk.row
        rw [List.getElem?_append_right (by omega), Nat.add_sub_cancel_left, List.getElem?_append_left (by simpa using hi), List.getElem?_map, hwy]
        rfl
      obtain ⟨ot, hot, tk2, w1, w2, _, _, hto⟩ := row_at D hra hry
      refine wpAny_tests_nil ?_
      rw [if_pos rfl]
      repeat walk_at "m"
      refine t_item (j := 0) ⟨ot, hot, hto⟩ (by simp) rfl (by with_unfolding_all rfl) ?_
      refine ⟨_, _, [], rfl, D, rfl, ?_⟩
      rw [show st2.b.waits.take (i + 1) = st2.b.waits.take i ++ [y] by rw [List.take_add_one, hwy]; rfl]
      exact strs_snoc hys
    · clear D
      rintro acc h t ys ex ⟨rfl, hys⟩ D
      rw [hpl, List.take_length] at hys
      rw [List.append_nil] at D
      have D := D.ofBook
      repeat walk_at "m"
      refine a_get D T (bare_lineno w) at_lex at_lexD lexNs_nd .z .z rfl ?_
      intro _
      repeat walk_at "m"
      refine d_item D (.s (.s (.s (.s .z)))) .z .z (by with_unfolding_all rfl) ?_
      intro _
      repeat walk_at "m"
      refine a_get D T (bare_pushback w) at_lex at_lexD lexNs_nd (.s (.s (.s .z))) (.s (.s (.s .z))) rfl ?_
      intro _
      repeat walk_at "m"
      refine t_mk D ?_
      clear D
      intro ta h D
      have D := D.toBook
      repeat walk_at "m"
      refine d_item D .z (.s (.s (.s .z))) (.s (.s (.s .z))) (by with_unfolding_all rfl) ?_
      intro _
      repeat walk_at "m"
      refine d_item D .z (.s (.s (.s (.s .z)))) (.s (.s (.s (.s .z)))) (by with_unfolding_all rfl) ?_
      intro _
      repeat walk_at "m"
      refine t_mk D ?_
      clear D
      intro tb h D
      have D := D.ofBook
      rw [Y2.place, Y2.line] at D
      refine tri_ne (D.atL (.s (.s .z))) (D.atG at_push) (by have := push_strs st2.σ.push; rw [Y2.push] at this; exact this) (D.atL (.s .z)) (D.atL (.s (.s (.s .z)))) hys ?_ (by have := r.uni; omega) ?_
      · intro y hy
        refine hst2.so (y, none) ?_
        unfold Bk.row
        exact List.mem_append_right _ (List.mem_append_left _ (List.mem_map_of_mem (f := fun x => ((x, none) : Wrd)) hy))
      repeat walk_at "m"
      refine b_no rfl ?_
      repeat walk_at "m"
      exact tr_next (m := ns.length - (j + 1)) (Nat.sub_succ_lt_self _ _ hjl) (hJ _ _ ⟨j + 1, _, _, st2, τ2, rs2, _, _, rfl, rfl, hjl, hst2, hrs2, Y2, D.sub (.cons₂ _ (.cons _ (.cons _ (.cons _ (.cons _ (List.Sublist.refl _))))))⟩)
  · have hjn : j = ns.length := Nat.le_antisymm hj (Nat.not_lt.mp hjl)
    subst hjn
    refine li_end D S.abv r.hnd hIs (List.getElem?_eq_none (by omega)) ?_
    clear D hIs hnb
    intro h D
    exact hK _ _ (f_next (kk h t st τ rs v5 v11 hst hrs Y D))
end
end
section
local macro_rules | `(tactic| walk_at "stm") => `(tactic| first
  | with_reducible refine wpAny_Assign_Name ?_ (by with_unfolding_all rfl)
  | with_reducible refine wpAny_Return_some ?_
  | refine wpAny_Expr_any ?_
  | (fail_if_success (with_reducible show wpAny _ _ (exec (.Assign _ (.Tuple _ _ _) _) _) _ _ _)); (with_reducible refine Assign_Tuple ?_ (by with_unfolding_all rfl) (by with_unfolding_all rfl))
  | with_reducible refine x_if ?_
  | with_reducible refine wpAny_Assign_Subscript ?_ (by with_unfolding_all rfl)
  | with_reducible refine wpAny_AugAssign_Name ?_
  | with_reducible refine wpAny_AugAssign_AttributeAny ?_
  | refine wpAny_AugAssign_SubscriptAny ?_)
local macro_rules | `(tactic| walk_at "m") => `(tactic| first | with_reducible refine z_eq ?_ | with_reducible refine assignInOrder_cons ?_ | with_reducible refine assignInOrder_nil ?_ | with_reducible refine wpAny_assign_Name ?_ | with_reducible refine wpAny_bindName ?_ | with_reducible refine a_sub ?_ | with_reducible refine wpAny_isTrue_Not ?_ | with_reducible refine wpAny_isTrue_BoolOp ?_ | with_reducible refine wpAny_allTrue_Or_cons ?_)
local macro_rules | `(tactic| walk_at "at") => `(tactic| first | with_reducible exact (.s (.s (.s (.s (.s (.s (.s (.s (.s (.s (.s (.s .z)))))))))))) | with_reducible exact (.s (.s (.s (.s (.s (.s (.s (.s (.s (.s (.s (.s (.s .z))))))))))))))
local macro_rules | `(tactic| walk_at "set") => `(tactic| first | with_reducible exact (.s (.s (.s (.s (.s (.s (.s (.s (.s (.s (.s .z))))))))))) | with_reducible exact (.s (.s (.s (.s (.s (.s (.s (.s (.s (.s (.s (.s .z)))))))))))) | with_reducible exact (.s (.s (.s (.s (.s (.s (.s (.s (.s (.s (.s (.s (.s .z))))))))))))))
noncomputable def lnD : Option Int → PyData
  | none => .none
  | some i => .int i
noncomputable def wrdD (x : Wrd) : PyData := .tuple [.str x.1, lnD (x.2.map (·.1))]
theorem ln_reads {h : Heap} {ln : Option Int} {v : Value} (hv : LnV ln v) : Reads h v (lnD ln) [] := by
  cases ln with
  | none => cases hv; exact Reads.none
  | some i => obtain ⟨tk, rfl⟩ := hv; exact Reads.int _ _
theorem tup_reads {h : Heap} : ∀ {as : List Addr} {xs : List Wrd}, as.length = xs.length → (∀ c ∈ tupF as xs, ∃ o, h.get? c.1 = some o ∧ c.2 o) → ReadsAll h (as.map .ref) (xs.map wrdD) []
  | [], [], _, _ => ReadsAll.nil
  | a :: as, x :: xs, hl, hh => by
    obtain ⟨o, ho, tk, v, hv, rfl⟩ := hh (a, TupWL x.1 (x.2.map (·.1))) (.head _)
    exact ReadsAll.cons (reads_tuple_at ho rfl rfl (ReadsAll.cons (Reads.str _ _) (ReadsAll.cons (ln_reads hv) ReadsAll.nil))) (tup_reads (by simpa using hl) fun c hc => hh c (.tail _ hc))
theorem tup_shaped : ∀ xs : List Wrd, (∀ x ∈ xs, PyData.strOk x.1 = true) → PyData.canLayAll0 (xs.map wrdD) = true ∧ PyData.depthAll (xs.map wrdD) ≤ 1
  | [], _ => ⟨rfl, Nat.zero_le _⟩
  | x :: xs, h => by
    obtain ⟨h1, h2⟩ := tup_shaped xs fun y hy => h y (.tail _ hy)
    have h3 := h x (.head _)
    have h4 : (lnD (x.2.map (·.1))).canLay0 = true ∧ (lnD (x.2.map (·.1))).depth = 0 := by
      cases x.2 <;> exact ⟨rfl, rfl⟩
    simp only [List.map_cons, wrdD, PyData.canLayAll0, PyData.canLay0, PyData.depthAll, PyData.depth, h3, h4, h1, Bool.and_true, true_and]
    exact Nat.max_le.mpr ⟨by decide, h2⟩
theorem ints_zip : ∀ {xs : List Int} {ts : List Tok}, ts.length = xs.length → IntsAre (List.zipWith Value.int xs ts) xs
  | [], [], _ => .nil
  | a :: xs, u :: ts, h => .cons _ _ (ints_zip (by simpa using h))
theorem perm_elt {α : Type} (a b c d T : α) (X Y : List α) : (a :: T :: b :: c :: d :: (X ++ Y)).Perm (a :: b :: c :: d :: (X ++ (Y ++ [T]))) := by
  have e2 : b :: c :: d :: (X ++ (Y ++ [T])) = ([b, c, d] ++ (X ++ Y)) ++ [T] := by simp
  rw [e2]
  refine List.Perm.cons _ ?_
  have := (List.perm_append_comm (l₁ := [T]) (l₂ := [b, c, d] ++ (X ++ Y)))
  simpa using this
theorem due_ne {prog : Program} {w : World} {A : Around} {E : Value → Shared → Prop} {s : Shared} {h : Heap} {t : Nat} {a b : Addr} {as bs : List Addr} {xs : List Wrd} {Q : Value → Shared → Prop}
    (ha : ∃ o, h.get? a = some o ∧ LstO (as.map .ref) o) (hb : ∃ o, h.get? b = some o ∧ LstO (bs.map .ref) o) (la : as.length = xs.length) (lb : bs.length = xs.length)
    (fa : ∀ c ∈ tupF as xs, ∃ o, h.get? c.1 = some o ∧ c.2 o) (fb : ∀ c ∈ tupF bs xs, ∃ o, h.get? c.1 = some o ∧ c.2 o) (hx : ∀ x ∈ xs, PyData.strOk x.1 = true) (hu : A.units + 64 < 9900)
    (k : Q (.bool false) (At s h t)) : wpAny (model prog w) A (compareOp .NotEq (.ref a) (.ref b)) Q E (At s h t) := by
  obtain ⟨_, hoa, na, rfl⟩ := ha
  obtain ⟨_, hob, nb, rfl⟩ := hb
  obtain ⟨h1, h2⟩ := tup_shaped xs hx
  have hc : (PyData.list (xs.map wrdD)).canLay0 = true := h1
  have hs : SeqAt.shaped (PyData.list (xs.map wrdD)) = true := by
    unfold SeqAt.shaped
    rw [hc, Bool.true_and]
    refine decide_eq_true ?_
    show PyData.depthAll _ + 1 ≤ 64
    omega
  refine ne_dataH (s := At s h t) (reads_list_at hoa rfl rfl (tup_reads la fa)) (reads_list_at hob rfl rfl (tup_reads lb fb)) hs hs hu ?_
  rw [SeqAt.eqv_refl _ hc]
  exact k
theorem ints_ne {prog : Program} {w : World} {A : Around} {E : Value → Shared → Prop} {s : Shared} {h : Heap} {t : Nat} {a b : Addr} {xs : List Int} {Q : Value → Shared → Prop}
    (ha : ∃ o, h.get? a = some o ∧ LstI xs o) (hb : ∃ o, h.get? b = some o ∧ LstI xs o) (hu : A.units + 64 < 9900)
    (k : Q (.bool false) (At s h t)) : wpAny (model prog w) A (compareOp .NotEq (.ref a) (.ref b)) Q E (At s h t) := by
  obtain ⟨_, hoa, ta, la, na, rfl⟩ := ha
  obtain ⟨_, hob, tb, lb, nb, rfl⟩ := hb
  have hs := shaped_ints xs
  refine ne_dataH (s := At s h t) (reads_list_at hoa rfl rfl (ints_reads (ints_zip la))) (reads_list_at hob rfl rfl (ints_reads (ints_zip lb))) hs hs hu ?_
  rw [SeqAt.eqv_refl _ (SeqAt.canLay_of_shaped hs)]
  exact k
section
variable {prog : Program} {w : World} {A : Around} {E : Value → Shared → Prop} {s : Shared} {h hT : Heap} {t : Nat} {L nb : Addr} {g l : List Fact} {P : Obj → Prop} {mg mb : Str → Option Value} {n m : Nat} {es : List Env} {nv : List Value} {ns : List Int} {first : Int} {u tx : Tok} {c : Lc} {k : Lk} {q : Bc} {e : Int × Nat} {ps1 ps2 : Array Value} {v5 v11 : Option Value} {st : St} {τ : Bt} {rs : List Addr}
theorem t_two {a : Addr} {x y z : Value} {u : Tok} {value slice : Expr} {ops : List Value} {f : Fact} {Q : Value → Shared → Prop} (D : Led hT g (f :: l) h) (ht : ∃ o, h.get? a = some o ∧ TupO [x, y, z] o)
    (hs : subscripted slice false (.ref a) (.ref h.objs.size) = operate ops (getItem (.ref a) (.ref h.objs.size)))
    (k : ∀ b h', Led hT g (f :: (b, TupO [x, y]) :: l) h' → Q (.ref b) (At s h' t)) :
    wpAny (model prog w) A (subscriptTail value slice (.ref a) (.ref (At s h t).heap.objs.size)) Q E { At s h t with heap := (At s h t).heap.push { cls := .type "slice", data := .fields #[.none, .int 2 u, .none] } } := by
  obtain ⟨o, ho, hq⟩ := ht
  have ho' : (h.push { cls := .type "slice", data := .fields #[Value.none, .int 2 u, .none] }).get? a = some o := Heap.get?_push_of_some _ ho
  have D₁ : Led hT g (f :: l) (h.push { cls := .type "slice", data := .fields #[.none, .int 2 u, .none] }) := D.grow (fun b o e => Heap.get?_push_of_some _ e) (by rw [Heap.size_push]; omega)
  refine tail_any (s := { At s h t with heap := h.push { cls := .type "slice", data := .fields #[.none, .int 2 u, .none] } }) (T := "tuple") (id := "tuple.__getitem__") ⟨o, ho', by rw [hq]⟩ PySem.F.slot_tuple_getitem.lookup
    (getItem_two (s := s) (t := t) ⟨o, ho', hq⟩ (Heap.IsSliceOf.new ..) ?_) hs
  exact k _ _ (D₁.push2 rfl rfl)
set_option maxHeartbeats 8000000 in
theorem run_due {Q : Flow → Shared → Prop} (T : Tp w mg mb hT) (S : Scp hT (callEnvC (fd 192) L 192) L rnNs rnGs) (r : Rm (n + 20) A (callEnvC (fd 192) L 192 :: es)) (hm : m ≤ 8)
    (hst : BkInv e st.b m) (hrs : rs.length = st.b.row.length) (Y : Sy c e st)
    (D : Led hT (Wg prog w c k st (Bkf prog w q e st.b τ rs ++ g)) ((L, Frm rnNs [some (.ref nb), some (.int first u), some (.ref q.row), some (.str c.text tx), v5, some (.ref c.spot), some (.ref k.known), some (.ref k.asked), some (.ref c.lex), some (.ref k.lookF), some (.ref q.bk), v11, none, none]) :: l) h)
    (kk : ∀ (h : Heap) (t : Nat) (du : Addr) (as : List Addr), as.length = st.b.known.length →
      Led hT (Wg prog w c k st (Bkf prog w q e st.b τ rs ++ g)) ((L, Frm rnNs [some (.ref nb), some (.int first u), some (.ref q.row), some (.str c.text tx), v5, some (.ref c.spot), some (.ref k.known), some (.ref k.asked), some (.ref c.lex), some (.ref k.lookF), some (.ref q.bk), v11, some (.ref du), none]) :: (du, LstO (as.map .ref)) :: (l ++ tupF as st.b.known)) h →
      wpAny (model prog w) A (execs ((bd 192).drop 12) (callEnvC (fd 192) L 192)) Q (fun _ _ => False) (At s h t)) :
    wpAny (model prog w) A (execs ((bd 192).drop 10) (callEnvC (fd 192) L 192)) Q (fun _ _ => False) (At s h t) := by
  have hrl : st.b.row.length = st.b.known.length + (st.b.waits.length + st.b.rest.length) := by unfold Bk.row; simp
  have hI := hst.row
  have hA := hst.asked
  refine x_cons (st := _) (rest := _) ?_
  refine x_lcu (cl := []) (by with_unfolding_all rfl) (by with_unfolding_all rfl) (by with_unfolding_all rfl) (by with_unfolding_all rfl) (by intro _; with_unfolding_all rfl) ?_
  have D := D.toBook
  repeat walk_at "m"
  refine d_item D .z (.s .z) (.s .z) (by with_unfolding_all rfl) ?_
  intro _
  repeat walk_at "m"
  refine l_slice D S.abv (l_is D at_brow) (by simp; omega) .none (.int _ _) .none (by simp) (by with_unfolding_all rfl) ?_
  clear D
  intro sb h D
  rw [pick_b] at D
  obtain ⟨_, hsb, nsb, rfl⟩ := D.atL (.s .z)
  refine li_iter D ⟨_, hsb, rfl, nsb, rfl⟩ ?_
  clear D hsb
  intro it2 h D
  have hpl : ((rs.map Value.ref).take st.b.known.length).length = st.b.known.length := by simp; omega
  refine lc_use (cl := []) (cgs := []) (fun j ys ex => ∃ as : List Addr, ys = as.map .ref ∧ as.length = j ∧ j ≤ st.b.known.length ∧ ex = tupF as (st.b.known.take j)) (itr_list (a := sb) (xs := (rs.map Value.ref).take st.b.known.length) r.hnd) S D (fun c hc => ?_) ⟨[], rfl, rfl, Nat.zero_le _, rfl⟩ ?_ (by with_unfolding_all rfl) (by kernel_rfl) (by with_unfolding_all rfl) (by walk_at "at") (fun v => by walk_at "set") ?_ ?_
  · rw [List.mem_singleton.mp hc]
    exact List.mem_append_right _ (.tail _ (.head _))
  · rintro i ys ex ⟨as, rfl, h1, h2, _⟩
    simp; omega
  · clear D
    rintro C acc i v ys ex h t E' hi hvi ⟨as, rfl, hal, _, rfl⟩ D S2
    rw [hpl] at hi
    obtain ⟨a, hra⟩ : ∃ a, rs[i]? = some a := ⟨_, List.getElem?_eq_getElem (by omega)⟩
    obtain ⟨y, hwy⟩ : ∃ y, st.b.known[i]? = some y := ⟨_, List.getElem?_eq_getElem hi⟩
    have hva : v = .ref a := by
      rw [List.getElem?_take, if_pos hi, List.getElem?_map, hra] at hvi
      exact (Option.some.inj hvi).symm
    subst hva
    have hry : st.b.row[i]? = some y := by
      unfold Bk.row
      rw [List.getElem?_append_left hi, hwy]
    obtain ⟨ot, hot, tk2, w1, w2, hl1, _, hto⟩ := row_at D hra hry
    refine wpAny_tests_nil ?_
    rw [if_pos rfl]
    repeat walk_at "m"
    refine t_two D ⟨ot, hot, hto⟩ (by with_unfolding_all rfl) ?_
    clear D hot
    intro b h D
    have D := D.weak (P' := TupWL y.1 (y.2.map (·.1))) (.s .z) (.s .z) (fun o ho => ⟨tk2, w1, hl1, ho⟩)
    have D : Led hT _ _ _ := Ldg.perm D (List.Perm.append_left _ (perm_elt _ _ _ _ _ _ _))
    refine ⟨_, _, _, rfl, D, as ++ [b], by simp, by simp [hal], hi, ?_⟩
    rw [show st.b.known.take (i + 1) = st.b.known.take i ++ [y] by rw [List.take_add_one, hwy]; rfl]
    rw [tupF_snoc (by simp; omega)]
  · clear D
    rintro du h t ys ex ⟨as, rfl, hal, _, rfl⟩ D
    rw [hpl] at hal D
    rw [List.take_length] at D
    have D := D.ofBook
    have D : Led hT (Wg prog w c k st (Bkf prog w q e st.b τ rs ++ g)) (_ :: _ :: (l ++ tupF as st.b.known)) h := D.sub (.cons₂ _ (.cons₂ _ (.cons _ (List.Sublist.refl _))))
    repeat walk_at "m"
    have hso : ∀ x ∈ st.b.known, PyData.strOk x.1 = true := fun x hx => hst.so x (by unfold Bk.row; exact List.mem_append_left _ hx)
    refine due_ne (D.atG at_known) (D.atL (.s .z)) Y.ks hal (fun c hc => ?_) (fun c hc => ?_) hso (by have := r.uni; omega) ?_
    · exact Ldg.has D c (List.mem_append_left _ (List.mem_append_right _ (List.mem_append_left _ (.tail _ (.tail _ (.tail _ (.tail _ (.tail _ (.tail _ (.tail _ (.tail _ (.tail _ hc)))))))))))) 
    · exact Ldg.has D c (List.mem_append_right _ (.tail _ (.tail _ (List.mem_append_right _ hc))))
    repeat walk_at "m"
    rw [if_neg Bool.false_ne_true]
    have D := D.toBook
    repeat walk_at "m"
    refine d_item D .z (.s (.s (.s (.s (.s .z))))) (.s (.s (.s (.s (.s .z))))) (by with_unfolding_all rfl) ?_
    intro _
    repeat walk_at "m"
    refine ints_ne (D.ofBook.atG at_asked) (D.atG at_bask) (by have := r.uni; omega) ?_
    repeat walk_at "m"
    rw [if_neg Bool.false_ne_true]
    refine wpAny_allTrue_Or_nil ?_
    refine b_no rfl ?_
    refine x_nil ?_
    refine f_next ?_
    exact kk _ _ du as hal D.ofBook
end
end
section
local macro_rules | `(tactic| walk_at "stm") => `(tactic| first
  | with_reducible refine wpAny_Assign_Name ?_ (by with_unfolding_all rfl)
  | with_reducible refine wpAny_Return_some ?_
  | refine wpAny_Expr_any ?_
  | (fail_if_success (with_reducible show wpAny _ _ (exec (.Assign _ (.Tuple _ _ _) _) _) _ _ _)); (with_reducible refine Assign_Tuple ?_ (by with_unfolding_all rfl) (by with_unfolding_all rfl))
  | with_reducible refine x_if ?_
  | with_reducible refine wpAny_Assign_Subscript ?_ (by with_unfolding_all rfl)
  | with_reducible refine wpAny_AugAssign_Name ?_
  | with_reducible refine wpAny_AugAssign_AttributeAny ?_
  | refine wpAny_AugAssign_SubscriptAny ?_)
local macro_rules | `(tactic| walk_at "m") => `(tactic| first | with_reducible refine z_eq ?_ | with_reducible refine assignInOrder_cons ?_ | with_reducible refine assignInOrder_nil ?_ | with_reducible refine wpAny_assign_Name ?_ | with_reducible refine wpAny_bindName ?_ | with_reducible refine a_sub ?_ | (with_reducible refine wpAny_UnaryOp ?_) | (with_reducible refine i_neg ?_; intro _ _))
local macro_rules | `(tactic| walk_at "at") => `(tactic| first | with_reducible exact (.s (.s (.s (.s (.s (.s (.s (.s (.s (.s (.s (.s .z)))))))))))) | with_reducible exact (.s (.s (.s (.s (.s (.s (.s (.s (.s (.s (.s (.s (.s .z))))))))))))))
local macro_rules | `(tactic| walk_at "set") => `(tactic| first | with_reducible exact (.s (.s (.s (.s (.s (.s (.s (.s (.s (.s (.s .z))))))))))) | with_reducible exact (.s (.s (.s (.s (.s (.s (.s (.s (.s (.s (.s (.s .z)))))))))))) | with_reducible exact (.s (.s (.s (.s (.s (.s (.s (.s (.s (.s (.s (.s (.s .z))))))))))))))
theorem paired_snoc_take {ls : List (Option Int)} {ys : List Value} {i : Nat} {x : Option Int} {v : Value} (h : Paired LnV (ls.take i) ys) (hx : ls[i]? = some x) (hv : LnV x v) : Paired LnV (ls.take (i + 1)) (ys ++ [v]) := by
  rw [List.take_add_one, hx]
  exact h.snoc hv
theorem paired_rev {α β : Type} {F : α → β → Prop} : ∀ {l₁ : List α} {l₂ : List β}, Paired F l₁ l₂ → Paired F l₁.reverse l₂.reverse
  | _, _, .nil => .nil
  | _, _, .cons h r => by
    rw [List.reverse_cons, List.reverse_cons]
    exact (paired_rev r).snoc h
theorem stored_next {kvs : List (Int × Value)} {j : Nat} {v : Value} (h : ∀ kv ∈ kvs, kv.1 < (j : Int)) : stored kvs (j : Int) v = kvs ++ [((j : Int), v)] := by
  unfold stored
  have : (kvs.any fun kv => decide (kv.1 = (j : Int))) = false := by
    rw [List.any_eq_false]
    intro kv hk
    have := h kv hk
    simp; omega
  rw [this]
  rfl
inductive RwI (hT : Heap) (g l : List Fact) (s : Shared) (L it tw rv li : Addr) (fr : List (Option Value)) (ys : List Value) (m : Nat) (s' : Shared) : Prop
  | mk (j : Nat) (h : Heap) (t : Nat) (v₁ : Option Value) (es : s' = At s h t) (em : m = 2 - j) (hj : j ≤ 2) (D : Led hT g ((L, Frm rnNs fr) :: (it, ItO tw j) :: (tw, LstO [.ref li, .ref rv]) :: (rv, LstO ys.reverse) :: (li, LstO ys) :: (L + 1, CellO v₁) :: l) h)
section
variable {prog : Program} {w : World} {A : Around} {E : Value → Shared → Prop} {s : Shared} {h hT : Heap} {t : Nat} {L du : Addr} {g l : List Fact} {P : Obj → Prop} {mg mb : Str → Option Value} {n : Nat} {es : List Env} {as : List Addr} {kn : List Wrd} {o0 o1 o2 o3 o4 o5 o6 o7 o8 o9 oa ob : Option Value} {v₀ : Option Value}
theorem l_itemL {a : Addr} {xs : List Value} {i : Nat} {j : Nat} {x : Value} {u : Tok} {value slice : Expr} {Q : Value → Shared → Prop} (D : Led hT g l h) (hi : AtI l i (a, LstO xs)) (hz : xs.length ≤ 100000) (hx : xs[j]? = some x)
    (hs : subscripted slice false (.ref a) (.int j u) = operate [.ref a, .int j u] (getItem (.ref a) (.int j u))) (k : Q x (At s h t)) :
    wpAny (model prog w) A (subscriptTail value slice (.ref a) (.int j u)) Q E (At s h t) := by
  obtain ⟨_, hl, n, rfl⟩ := D.atL hi
  refine tail_any (T := "list") (id := "list.__getitem__") ⟨_, hl, rfl⟩ PySem.F.slot_list_getitem.lookup (wpAny_getItem_list (s := At s h t) ⟨_, hl, rfl, n, rfl⟩ (by omega) ?_ (by simpa using hx) k) hs
  have := (List.getElem?_eq_some_iff.mp hx).1
  omega
set_option maxHeartbeats 8000000 in
theorem run_wide {Q : Flow → Shared → Prop} (T : Tp w mg mb hT) (S : Scp hT (callEnvC (fd 192) L 192) L rnNs rnGs) (r : Rm (n + 20) A (callEnvC (fd 192) L 192 :: es)) (hal : as.length = kn.length) (hkl : kn.length ≤ 100)
    (hln : ∀ x ∈ kn, ∀ p, x.2 = some p → 1 ≤ p.1 ∧ p.1 < 10 ^ 6)
    (D : Led hT g ((L, Frm rnNs [o0, o1, o2, o3, o4, o5, o6, o7, o8, o9, oa, ob, some (.ref du), none]) :: (du, LstO (as.map .ref)) :: (L + 1, CellO v₀) :: (l ++ tupF as kn)) h)
    (kk : ∀ (h : Heap) (t : Nat), Led hT g l h → Q (.ret (.bool true)) (At s h t)) :
    wpAny (model prog w) A (execs ((bd 192).drop 12) (callEnvC (fd 192) L 192)) Q (fun _ _ => False) (At s h t) := by
  have kc : (callEnvC (fd 192) L 192).kindOf (Str.ofString "turned") = some .cell := by kernel_rfl
  have hc : (callEnvC (fd 192) L 192).cells.lookup (Str.ofString "turned") = some (L + 1) := by kernel_rfl
  refine x_cons (st := _) (rest := _) ?_
  refine x_lcu (cl := []) (by with_unfolding_all rfl) (by with_unfolding_all rfl) (by with_unfolding_all rfl) (by with_unfolding_all rfl) (by intro _; with_unfolding_all rfl) ?_
  repeat walk_at "m"
  obtain ⟨_, hdu, ndu, rfl⟩ := D.atL (.s .z)
  refine li_iter D ⟨_, hdu, rfl, ndu, rfl⟩ ?_
  clear D hdu
  intro it2 h D
  generalize hls : (kn.map fun x => x.2.map (·.1)) = ls
  have hlsl : ls.length = kn.length := by rw [← hls]; simp
  have hok : LnsOk ls := by
    intro x hx
    rw [← hls] at hx
    obtain ⟨y, hy, e⟩ := List.mem_map.mp hx
    cases hy2 : y.2 with
    | none => rw [hy2] at e; cases e
    | some p => rw [hy2] at e; cases e; exact hln y hy p hy2
  have hpl : (as.map Value.ref).length = kn.length := by simp [hal]
  refine lc_use (cl := []) (cgs := []) (fun j ys ex => ex = [] ∧ j ≤ kn.length ∧ Paired LnV (ls.take j) ys) (itr_list (a := du) (xs := as.map .ref) r.hnd) S D (fun c hc => ?_) ⟨rfl, Nat.zero_le _, .nil⟩ ?_ (by with_unfolding_all rfl) (by kernel_rfl) (by with_unfolding_all rfl) (by walk_at "at") (fun v => by walk_at "set") ?_ ?_
  · rw [List.mem_singleton.mp hc]
    exact List.mem_append_right _ (.tail _ (.head _))
  · rintro i ys ex ⟨_, h1, h2⟩
    have := h2.length
    simp at this; omega
  · clear D
    rintro C acc i v ys ex h t E' hi hvi ⟨rfl, _, hys⟩ D S2
    rw [hpl] at hi
    obtain ⟨a, hra⟩ : ∃ a, as[i]? = some a := ⟨_, List.getElem?_eq_getElem (by omega)⟩
    obtain ⟨y, hwy⟩ : ∃ y, kn[i]? = some y := ⟨_, List.getElem?_eq_getElem hi⟩
    have hva : v = .ref a := by
      rw [List.getElem?_map, hra] at hvi
      exact (Option.some.inj hvi).symm
    subst hva
    have hm : ((a, TupWL y.1 (y.2.map (·.1))) : Fact) ∈ tupF as kn := by
      unfold tupF
      refine List.mem_of_getElem? (i := i) ?_
      rw [List.getElem?_zipWith, hra, hwy]
    obtain ⟨ot, hot, tk2, w1, hl1, hto⟩ := Ldg.has D _ (List.mem_append_right _ (.tail _ (.tail _ (.tail _ (.tail _ (List.mem_append_left _ (.tail _ (.tail _ (List.mem_append_right _ hm)))))))))
    refine wpAny_tests_nil ?_
    rw [if_pos rfl]
    repeat walk_at "m"
    refine t_item (j := 1) ⟨ot, hot, hto⟩ (by simp) rfl (by with_unfolding_all rfl) ?_
    refine ⟨_, _, [], rfl, D, rfl, hi, ?_⟩
    refine paired_snoc_take hys ?_ hl1
    rw [← hls, List.getElem?_map, hwy]
    rfl
  · clear D
    rintro li h t ys ex ⟨rfl, _, hys⟩ D
    rw [hpl, ← hlsl, List.take_length] at hys
    have hyl := hys.length
    have D : Led hT g (_ :: _ :: (L + 1, CellO v₀) :: l) h := D.sub (.cons₂ _ (.cons₂ _ (.cons _ (.cons₂ _ (by simp)))))
    repeat walk_at "m"
    refine wpAny_For ?_ (by intro _; with_unfolding_all rfl)
    repeat walk_at "m"
    refine l_slice D S.abv (let ⟨_, q1, q2, q3⟩ := D.atL (.s .z); ⟨_, q1, by rw [q3], q2, by rw [q3]⟩) (by omega) .none .none (.int _ _) (by decide) (by with_unfolding_all rfl) ?_
    clear D
    intro rv h D
    rw [pick_rev] at D
    repeat walk_at "m"
    refine ls_mk D ?_
    clear D
    intro tw h D
    obtain ⟨_, htw, ntw, rfl⟩ := D.atL (.s .z)
    refine li_iter D ⟨_, htw, rfl, ntw, rfl⟩ ?_
    clear D htw
    intro it h D
    refine for_itV (RwI hT g l s L it tw rv li [o0, o1, o2, o3, o4, o5, o6, o7, o8, o9, oa, ob, some (.ref du), some (.ref li)] ys) 2 PassesOwn.never
      ⟨0, h, _, _, rfl, rfl, by decide, D⟩ (by intro _; with_unfolding_all rfl) ?_
    clear D
    rintro J K hJ hK m _ ⟨j, h, t, v₁, rfl, rfl, hj, D⟩
    obtain ⟨_, htw, ntw, rfl⟩ := D.atL (.s (.s .z))
    have hIs : h.IsList tw [Value.ref li, .ref rv].toArray := ⟨_, htw, rfl, ntw, rfl⟩
    by_cases hjl : j < 2
    · obtain ⟨a, zs, ls', i, hax, hat, hzs, hmem, hls'l⟩ : ∃ a zs ls' i, [Value.ref li, .ref rv][j]? = some (.ref a) ∧ AtI ((it, ItO tw (j + 1)) :: (tw, LstO [.ref li, .ref rv]) :: (rv, LstO ys.reverse) :: (li, LstO ys) :: (L + 1, CellO (some (.ref a))) :: l) i (a, LstO zs) ∧ Paired LnV ls' zs ∧ (∀ x, x ∈ ls' ↔ x ∈ ls) ∧ ls'.length = ls.length := by
        have : j = 0 ∨ j = 1 := by omega
        rcases this with rfl | rfl
        · exact ⟨li, ys, ls, _, rfl, .s (.s (.s .z)), hys, fun _ => Iff.rfl, rfl⟩
        · exact ⟨rv, ys.reverse, ls.reverse, _, rfl, .s (.s .z), paired_rev hys, fun _ => List.mem_reverse, List.length_reverse⟩
      have hzl := hzs.length
      refine li_next D (.s .z) hIs hax (.s .z) ?_
      clear D hIs htw
      intro h D
      refine wpAny_assign_Name ?_
      refine stc D S.kind kc hc (.s (.s (.s (.s (.s .z))))) (.s (.s (.s (.s (.s .z))))) ?_
      clear D
      intro h D
      repeat walk_at "m"
      refine c_fn (by with_unfolding_all rfl) ?_
      repeat walk_at "m"
      refine x_dc (cl := [(Str.ofString "turned", L + 1)]) (by kernel_rfl) (by with_unfolding_all rfl) (by with_unfolding_all rfl) (by intro _; with_unfolding_all rfl) ?_
      repeat walk_at "m"
      refine ldc D S.kind ⟨kc, by decide +kernel⟩ hc (.s (.s (.s (.s (.s .z))))) ?_
      repeat walk_at "m"
      refine l_lenL D (.s hat) (by omega) ?_
      intro _ _
      repeat walk_at "m"
      refine rg_new D ?_
      clear D
      intro rg h t D
      refine rg_iter D (.s .z) (by omega) (by omega) (by omega) ?_
      clear D
      intro it2 h D
      have D : Led hT g ((L, Frm rnNs [o0, o1, o2, o3, o4, o5, o6, o7, o8, o9, oa, ob, some (.ref du), some (.ref li)]) :: (it2, RiO (0 + ((0 : Nat) : Int)) ((zs.length : Int) - (0 + ((0 : Nat) : Int)))) :: _) h := D.sub (.cons₂ _ (.cons₂ _ (.cons _ (List.Sublist.refl _))))
      refine dc_any (cl := [(Str.ofString "turned", L + 1)]) (cgs := []) (fun j kvs => j ≤ zs.length ∧ kvs.map (·.2) = zs.take j ∧ ∀ kv ∈ kvs, kv.1 < (j : Int)) (itr_rg (a := 0) (b := (zs.length : Int)) r.hnd zs.length (by omega)) D (fun c hc => by cases hc) S.abv ⟨by omega, rfl, fun kv hk => by cases hk⟩ ?_ (by with_unfolding_all rfl) (by kernel_rfl) (by with_unfolding_all rfl) S.glo S.bui ?_ ?_
      · rintro j2 kvs ⟨h1, h2, _⟩
        have := congrArg List.length h2
        simp at this; omega
      · clear D
        rintro C acc j2 v kvs h t E' hj2 ⟨tk, rfl⟩ ⟨_, hk1, hk2⟩ D S2
        obtain ⟨x, hx⟩ : ∃ x, zs[j2]? = some x := ⟨_, List.getElem?_eq_getElem hj2⟩
        have e0 : (0 + (j2 : Int)) = ((j2 : Nat) : Int) := by omega
        rw [e0] at D
        repeat walk_at "m"
        refine ldc D S2.kind ⟨by kernel_rfl, by decide +kernel⟩ (by kernel_rfl) (.s (.s (.s (.s (.s (.s (.s (.s .z)))))))) ?_
        repeat walk_at "m"
        refine l_itemL D (.s (.s (.s (.s hat)))) (by omega) hx (by with_unfolding_all rfl) ?_
        refine ⟨_, _, _, _, rfl, rfl, by rw [e0]; exact D, hj2, ?_, ?_⟩
        · rw [stored_next hk2, List.map_append, hk1, List.take_add_one, hx]
          rfl
        · rw [stored_next hk2]
          intro kv hkv
          rcases List.mem_append.mp hkv with hkv | hkv
          · have := hk2 kv hkv
            omega
          · rw [List.mem_singleton.mp hkv]
            show (j2 : Int) < _
            omega
      · clear D
        rintro acc h t kvs hac ⟨_, hk1, _⟩ D
        rw [List.take_length] at hk1
        repeat walk_at "m"
        refine ⟨fn_obj T (fn_width w) D, ?_⟩
        refine wpAny_call (codeAny_mono (width_spec (n := n) (ls := ls') T D.swap (r.mono (by omega)) hac (by rw [hk1]; exact hzs) (fun x hx => hok x ((hmem _).mp hx))) ?_)
        clear D
        rintro _ _ ⟨_, h, t, rfl, rfl, D, tk, rfl⟩
        repeat walk_at "m"
        refine c_fn (by with_unfolding_all rfl) ?_
        repeat walk_at "m"
        refine ⟨fn_objC T (fn_column w) D, ?_⟩
        refine wpAny_call (codeAny_mono (column_spec (n := n) T D (r.mono (by omega)) (.s (.s (.s (.s .z)))) hys (by omega)) ?_)
        clear D
        rintro _ _ ⟨_, h, t, rfl, rfl, D, tk, rfl⟩
        repeat walk_at "m"
        refine b_no (by rw [wid_col hmem hok]; simp) ?_
        repeat walk_at "m"
        exact tr_next (m := 2 - (j + 1)) (Nat.sub_succ_lt_self _ _ hjl) (hJ _ _ ⟨j + 1, _, _, _, rfl, rfl, hjl, D⟩)
    · have hjn : j = 2 := Nat.le_antisymm hj (Nat.not_lt.mp hjl)
      subst hjn
      refine li_end D S.abv r.hnd hIs rfl ?_
      clear D hIs htw
      intro h D
      refine hK _ _ (f_next ?_)
      repeat walk_at "m"
      exact kk _ _ (D.sub (.cons _ (.cons _ (.cons _ (.cons _ (.cons _ (.refl _)))))))
end
end
theorem perm_tab {α : Type} (a b x y z : α) (X Y : List α) : (x :: y :: z :: (X ++ (a :: b :: Y))).Perm (a :: b :: x :: y :: z :: (X ++ Y)) := by
  have e : x :: y :: z :: (X ++ (a :: b :: Y)) = ([x, y, z] ++ X) ++ a :: (b :: Y) := by simp
  rw [e]
  refine List.perm_middle.trans (List.Perm.cons _ ?_)
  have := List.perm_middle (a := b) (l₁ := [x, y, z] ++ X) (l₂ := Y)
  simpa using this
theorem inv_start {first : Int} {ns : List Int} {b : Bk} (hb : b = ⟨[], [], rowL first [] (ns.map itm), first, 0, []⟩) (hf : 1 ≤ first ∧ first ≤ 99995) (hn : ns.length ≤ 8) : BkInv (eE first ns) b 0 ∧ b.row.length = ns.length := by
  have hrow : b.row = (rowL first [] (ns.map itm)).map fun r => ((r.1, some r.2) : Wrd) := by rw [hb]; simp [Bk.row]
  have hlen : b.row.length = ns.length := by rw [hrow, List.length_map, rowL_len, List.length_map]
  have htl := textL_len ns
  have hct : (textL ns ++ [32, 10]).count 10 ≤ (textL ns ++ [32, 10]).length := List.count_le_length
  have hcl : (textL ns ++ [32, 10]).length = (textL ns).length + 2 := by simp
  have hln : ∀ r ∈ rowL first [] (ns.map itm), first ≤ r.2.1 ∧ r.2.1 ≤ first + (textL ns).length := fun r hr => by
    have := rowL_lines (ns.map itm) [] r hr
    rwa [List.nil_append] at this
  refine ⟨⟨by omega, by rw [hb]; exact Nat.zero_le _, ⟨⟨?_, ?_⟩, ⟨?_, ?_⟩, ?_⟩, ?_, ?_⟩, hlen⟩
  · show 0 ≤ first + _; omega
  · show first + _ < (10 : Int) ^ 9; omega
  · rw [hb]; show 0 ≤ first; omega
  · rw [hb]; show first < (10 : Int) ^ 9; omega
  · rw [hb]
    intro r hr
    have := hln r hr
    constructor <;> omega
  · intro x hx
    rw [hrow] at hx
    obtain ⟨r, hr, rfl⟩ := List.mem_map.mp hx
    have h1 : r.1 ∈ (rowL first [] (ns.map itm)).map (·.1) := List.mem_map_of_mem hr
    rw [rowL_words, List.map_map] at h1
    obtain ⟨n, _, e⟩ := List.mem_map.mp h1
    have e : nm n = r.1 := e
    show PyData.strOk r.1 = true
    rw [← e]
    exact nm_str n
  · intro x hx p hp
    rw [hrow] at hx
    obtain ⟨r, hr, rfl⟩ := List.mem_map.mp hx
    cases hp
    have := hln r hr
    constructor <;> omega
section
variable {prog : Program} {w : World} {A : Around} {E : Value → Shared → Prop} {s : Shared} {h hT : Heap} {t : Nat} {nb : Addr} {l : List Fact} {P : Obj → Prop} {mg mb : Str → Option Value} {n : Nat} {es : List Env} {nv : List Value} {ns : List Int} {first : Int} {u : Tok}
noncomputable abbrev RunR (hT : Heap) (l : List Fact) (s : Shared) : Result → Shared → Prop := fun res s' => ∃ h' t' ps1 ps2, res = .ok (.ret (.bool true)) ∧ s' = At s h' t' ∧ Led hT [] ((135, TabO ps1) :: (142, TabO ps2) :: l) h'
theorem run_spec (T : Tp w mg mb hT) (hgt : prog.given.tree = none) (r : Rm (n + 221) A es) (F : FrsIn es l) (hv : IntsAre nv ns) (hn : ns.length ≤ 8) (hf : 1 ≤ first ∧ first ≤ 99995)
    (D : Led hT [] ((nb, LstO nv) :: (135, TabO #[]) :: (142, TabO #[]) :: l) h) :
    codeAny (model prog w) A (.call (.ref 192) ⟨[.ref nb, .int first u], []⟩) (RunR hT l s) (At s h t) := by
  refine call_topC (ns := rnNs) (vs := [some (.ref nb), some (.int first u), none, none, none, none, none, none, none, none, none, none, none, none]) (cf := fun L => [(L + 1, CellO none)]) D T (fn_run w) r.room (ps := [Str.ofString "numbers", Str.ofString "first"]) (as := [.ref nb, .int first u]) (by kernel_rfl)
    ?_ ?_ ?_ ?_ ?_
  · intro L x hx
    rcases List.mem_cons.mp hx with rfl | hx
    · exact .inl (by kernel_rfl)
    · rcases List.mem_cons.mp hx with rfl | hx
      · exact .inl (by kernel_rfl)
      · cases hx
  · intro y
    rw [show bindL (fun x => List.lookup x (fd 192).scope.names) ([Str.ofString "numbers", Str.ofString "first"].zip [Value.ref nb, .int first u]) (fun x => none) y = (if y = Str.ofString "first" then some (Value.int first u) else if y = Str.ofString "numbers" then some (Value.ref nb) else none) by kernel_rfl]
    by_cases h1 : y = Str.ofString "numbers"
    · subst h1
      rfl
    · by_cases h2 : y = Str.ofString "first"
      · subst h2
        rfl
      · rw [if_neg h2, if_neg h1]
        simp only [look]
        rw [if_neg h1, if_neg h2]
        simp only [ite_self]
  · intro L
    rw [show (cellsFrom (L + 1) (fd 192).scope.names []).map (·.1) = [Str.ofString "turned"] by kernel_rfl]
    decide +kernel
  · intro L
    kernel_rfl
  clear D
  intro L h t D S
  have r : Rm (n + 220) _ _ := r.deeper (callEnvC (fd 192) L 192)
  refine wpAny_mono (Q := Out (RunR hT l s)) (E := fun _ _ => False) ?_ (fun _ _ q => q) (fun _ _ q => q.elim)
  refine run_text (n := n) T hgt S (r.mono (by omega)) D hv hn ?_
  clear D
  intro h t rw rs tx v5 hrs D
  have D := Ldg.perm D (List.Perm.append_left _ (List.Perm.cons _ (perm_tab _ _ _ _ _ _ _)))
  refine run_set (n := n) T S (r.mono (by omega)) hn hrs D ?_
  clear D
  intro h t c k q st τ ps1 ps2 v5 tx hct hb Y D
  obtain ⟨hst, hrl⟩ := inv_start hb hf hn
  have htl := textL_len ns
  refine run_deeds (n := n) T hgt S r F (by rw [hct, ofL_len]; simp; omega) hn hv hst (by omega) Y D ?_
  clear D Y hst hrl hb
  intro h t st τ rs v5 v11 hst hrs Y D
  refine run_due (n := n) (m := ns.length) T S (r.mono (by omega)) hn hst hrs Y D ?_
  clear D
  intro h t du as hal D
  have hsl : ∀ x ∈ st.b.known, x ∈ st.b.row := fun x hx => by unfold Bk.row; exact List.mem_append_left _ hx
  have hkl : st.b.known.length ≤ 100 := by
    have h1 : st.b.row.length = st.b.known.length + (st.b.waits.length + st.b.rest.length) := by unfold Bk.row; simp
    have := hst.row
    omega
  refine run_wide (n := n) T S (r.mono (by omega)) hal hkl (fun x hx => hst.lines x (hsl x hx)) (l := (nb, LstO nv) :: (135, TabO ps1) :: (142, TabO ps2) :: l) D ?_
  clear D
  intro h t D
  exact ⟨h, t, ps1, ps2, rfl, rfl, Ldg.sub D (List.Sublist.trans (.cons _ (.refl _)) (List.sublist_append_right _ _))⟩
end
section
local macro_rules | `(tactic| walk_at "stm") => `(tactic| first
  | with_reducible refine wpAny_Assign_Name ?_ (by with_unfolding_all rfl)
  | with_reducible refine wpAny_Return_some ?_
  | refine wpAny_Expr_any ?_
  | (fail_if_success (with_reducible show wpAny _ _ (exec (.Assign _ (.Tuple _ _ _) _) _) _ _ _)); (with_reducible refine Assign_Tuple ?_ (by with_unfolding_all rfl) (by with_unfolding_all rfl))
  | with_reducible refine x_if ?_
  | with_reducible refine wpAny_Assign_Subscript ?_ (by with_unfolding_all rfl)
  | with_reducible refine wpAny_AugAssign_Name ?_
  | with_reducible refine wpAny_AugAssign_AttributeAny ?_
  | refine wpAny_AugAssign_SubscriptAny ?_)
local macro_rules | `(tactic| walk_at "m") => `(tactic| first | with_reducible refine assignInOrder_cons ?_ | with_reducible refine assignInOrder_nil ?_ | with_reducible refine wpAny_assign_Name ?_ | with_reducible refine wpAny_bindName ?_ | with_reducible refine a_sub ?_)
noncomputable abbrev lwNs : List Str := [Str.ofString "script", Str.ofString "numbers"]
noncomputable abbrev lwGs : List Str := [Str.ofString "len", Str.ofString "_law_run"]
theorem pick_a (xs : List Value) (a : Nat) : (slicePick xs.toArray (some (a : Int)) none none).toList = xs.drop a := by
  rw [slicePick_from']
noncomputable def fillL : List Int := [12, 10, 25, 15, 192, 40, 14, 37]
noncomputable def numL (ns : List Int) : List Int := ns.take 8 ++ fillL.drop (ns.take 8).length
theorem numL_len (ns : List Int) : (numL ns).length = 8 := by
  unfold numL fillL
  simp
  omega
theorem ints_take {vs : List Value} {ns : List Int} (h : IntsAre vs ns) : ∀ k : Nat, IntsAre (vs.take k) (ns.take k) := by
  induction h with
  | nil => intro k; rw [List.take_nil, List.take_nil]; exact .nil
  | cons a b _ ih =>
    intro k
    cases k with
    | zero => exact .nil
    | succ k => exact .cons a b (ih k)
theorem ints_drop {vs : List Value} {ns : List Int} (h : IntsAre vs ns) : ∀ k : Nat, IntsAre (vs.drop k) (ns.drop k) := by
  induction h with
  | nil => intro k; rw [List.drop_nil, List.drop_nil]; exact .nil
  | cons a b r ih =>
    intro k
    cases k with
    | zero => exact .cons a b r
    | succ k => exact ih k
section
variable {prog : Program} {w : World} {A : Around} {E : Value → Shared → Prop} {s : Shared} {h hT : Heap} {t : Nat} {wa L : Addr} {env : Env} {g l : List Fact} {P : Obj → Prop} {mg mb : Str → Option Value} {n : Nat} {es : List Env} {vs : List Value} {ns : List Int}
theorem l_cat {a b : Addr} {xs ys : List Value} {c : Fact} {i j : Nat} {Q : Value → Shared → Prop} (D : Led hT g (c :: l) h) (hi : AtI l i (a, LstO xs)) (hj : AtI l j (b, LstO ys)) (hz : xs.length + ys.length ≤ 1000)
    (k : ∀ d h', Led hT g (c :: (d, LstO (xs ++ ys)) :: l) h' → Q (.ref d) (At s h' t)) : wpAny (model prog w) A (binaryOp .Add (.ref a) (.ref b)) Q E (At s h t) := by
  obtain ⟨_, ha, na, rfl⟩ := D.atL (.s hi)
  obtain ⟨_, hb, nb, rfl⟩ := D.atL (.s hj)
  refine PySem.P.add_list (s := At s h t) ha hb ?_ (by simp; rw [sizeLine_eq]; omega)
  exact k _ _ (D.push2 rfl ⟨0, by simp⟩)
set_option maxHeartbeats 8000000 in
theorem law_walk {b : List Stmt} {Q : Flow → Shared → Prop} (hb : b = bd 199) (T : Tp w mg mb hT) (hgt : prog.given.tree = none) (S : Scp hT env L lwNs lwGs) (hef : env.frame = some L) (r : Rm (n + 230) A [env])
    (hv : IntsAre vs ns) (hl : hT.IsList wa vs.toArray) (hz : ns.length ≤ 63)
    (D : Led hT [] ((L, Frm lwNs [some (.ref wa), none]) :: (135, TabO #[]) :: (142, TabO #[]) :: []) h)
    (kk : ∀ (h : Heap) (t : Nat) (ps1 ps2 : Array Value) (P : Obj → Prop), Led hT [] ((135, TabO ps1) :: (142, TabO ps2) :: (L, P) :: []) h → Q (.ret (.bool true)) (At s h t)) :
    wpAny (model prog w) A (execs b env) Q E (At s h t) := by
  subst hb
  have hvl := ints_len hv
  refine x_cons (st := _) (rest := _) ?_
  repeat walk_at "m"
  have hlh : h.IsList wa vs.toArray := let ⟨ol, h1, h2⟩ := hl; ⟨ol, D.keep _ _ h1, h2⟩
  refine l_slice D S.abv hlh (by omega) .none (.int _ _) .none (by simp) (by with_unfolding_all rfl) ?_
  clear D hlh
  intro a1 h D
  rw [show (8 : Int) = ((8 : Nat) : Int) from rfl, pick_b] at D
  repeat walk_at "m"
  refine ls_mk D ?_
  clear D
  intro a2 h D
  obtain ⟨ff, hff, D⟩ : ∃ ff, IntsAre ff fillL ∧ Led hT [] ((L, Frm lwNs [some (.ref wa), none]) :: (a2, LstO ff) :: (a1, LstO (vs.take 8)) :: (135, TabO #[]) :: (142, TabO #[]) :: []) h :=
    ⟨_, .cons _ _ (.cons _ _ (.cons _ _ (.cons _ _ (.cons _ _ (.cons _ _ (.cons _ _ (.cons _ _ .nil))))))), D⟩
  have hfl := ints_len hff
  have hfl : ff.length = 8 := hfl
  repeat walk_at "m"
  have hlh : h.IsList wa vs.toArray := let ⟨ol, h1, h2⟩ := hl; ⟨ol, D.keep _ _ h1, h2⟩
  refine l_slice D S.abv hlh (by omega) .none (.int _ _) .none (by simp) (by with_unfolding_all rfl) ?_
  clear D hlh
  intro a3 h D
  rw [show (8 : Int) = ((8 : Nat) : Int) from rfl, pick_b] at D
  repeat walk_at "m"
  refine l_lenL D (.s .z) (by simp; omega) ?_
  intro _ _
  repeat walk_at "m"
  obtain ⟨_, hl2, n2, rfl⟩ := D.atL (.s (.s .z))
  refine l_slice D S.abv ⟨_, hl2, rfl, n2, rfl⟩ (by omega) (.int _ _) .none .none (by simp) (by with_unfolding_all rfl) ?_
  clear D hl2
  intro a4 h D
  rw [pick_a] at D
  refine l_cat D (.s (.s (.s .z))) .z (by simp; omega) ?_
  clear D
  intro nb h D
  obtain ⟨nv, hnv, D⟩ : ∃ nv, IntsAre nv (numL ns) ∧ Led hT [] ((L, Frm lwNs [some (.ref wa), none]) :: (nb, LstO nv) :: (135, TabO #[]) :: (142, TabO #[]) :: []) h := by
    refine ⟨_, ?_, D.sub (.cons₂ _ (.cons₂ _ (.cons _ (.cons _ (.cons _ (.cons _ (.refl _)))))))⟩
    refine (ints_take hv 8).append ?_
    have e : (vs.take 8).length = (ns.take 8).length := ints_len (ints_take hv 8)
    rw [e]
    exact ints_drop hff _
  have hnl := ints_len hnv
  rw [numL_len] at hnl
  repeat walk_at "m"
  refine c_fn (by with_unfolding_all rfl) ?_
  repeat walk_at "m"
  clear D
  have D := (by assumption : Led hT [] ((L, Frm lwNs [some (.ref wa), some (.ref nb)]) :: _) _)
  refine ls_mk D ?_
  clear D
  intro fl h D
  obtain ⟨gg, hgg, D⟩ : ∃ gg, IntsAre gg [1, 997, 9996, 99995] ∧ Led hT [] ((L, Frm lwNs [some (.ref wa), some (.ref nb)]) :: (fl, LstO gg) :: (nb, LstO nv) :: (135, TabO #[]) :: (142, TabO #[]) :: []) h :=
    ⟨_, .cons _ _ (.cons _ _ (.cons _ _ (.cons _ _ .nil))), D⟩
  have hgl := ints_len hgg
  have hgl : gg.length = 4 := hgl
  obtain ⟨x, hx⟩ : ∃ x, (numL ns)[0]? = some x := ⟨_, List.getElem?_eq_getElem (by rw [numL_len]; decide)⟩
  obtain ⟨xt, hxv⟩ := ints_at hnv hx
  repeat walk_at "m"
  refine l_itemL (j := 0) D (.s (.s .z)) (by omega) hxv (by with_unfolding_all rfl) ?_
  repeat walk_at "m"
  have a1 := Int.fmod_nonneg_of_pos (x.fdiv 12) (show (0 : Int) < 4 by decide)
  have a2 := Int.fmod_lt_of_pos (x.fdiv 12) (show (0 : Int) < 4 by decide)
  obtain ⟨j, hj, e⟩ : ∃ j : Nat, j < 4 ∧ (x.fdiv 12).fmod 4 = (j : Int) := ⟨((x.fdiv 12).fmod 4).toNat, by omega, by omega⟩
  rw [e]
  obtain ⟨f, hf, hfb⟩ : ∃ f, ([1, 997, 9996, 99995] : List Int)[j]? = some f ∧ 1 ≤ f ∧ f ≤ 99995 := by
    have : j = 0 ∨ j = 1 ∨ j = 2 ∨ j = 3 := by omega
    rcases this with rfl | rfl | rfl | rfl
    · exact ⟨_, rfl, by decide, by decide⟩
    · exact ⟨_, rfl, by decide, by decide⟩
    · exact ⟨_, rfl, by decide, by decide⟩
    · exact ⟨_, rfl, by decide, by decide⟩
  obtain ⟨ft, hfv⟩ := ints_at hgg hf
  refine l_itemL D (.s .z) (by omega) hfv (by with_unfolding_all rfl) ?_
  repeat walk_at "m"
  refine ⟨fn_objC T (fn_run w) D, ?_⟩
  have D : Led hT [] ((nb, LstO nv) :: (135, TabO #[]) :: (142, TabO #[]) :: (L, Frm lwNs [some (.ref wa), some (.ref nb)]) :: []) _ :=
    Ldg.perm (D.sub (.cons₂ _ (.cons _ (.refl _)))) (List.perm_append_comm (l₁ := [(L, Frm lwNs [some (.ref wa), some (.ref nb)])]) (l₂ := [(nb, LstO nv), (135, TabO #[]), (142, TabO #[])]))
  refine wpAny_call (codeAny_mono (run_spec (n := n) T hgt (r.mono (by omega)) (FrsIn.cons (by rw [S.kind]; intro z; cases z) hef (fun _ hx => by cases hx)) hnv (by rw [numL_len]; decide) hfb D) ?_)
  clear D
  rintro _ _ ⟨h, t, ps1, ps2, rfl, rfl, D⟩
  repeat walk_at "m"
  exact kk _ _ ps1 ps2 _ D
end
end
noncomputable def tabV (l : List Value) : Obj := ⟨.none, none, .fields l.toArray, #[]⟩
noncomputable def fnC (q : String) : Stmt → Obj
  | .FunctionDef n ps b _ _ _ sc _ _ _ => ⟨.none, none, .func { name := n, qualname := Str.ofString q, params := ps, body := .stmts b, scope := sc, globals := 0, closure := [], defaults := .none, kwdefaults := .none }, #[]⟩
  | _ => default
noncomputable def o2s (P : Params) : Obj := dctO P .none [] 0
noncomputable def o3s (P : Params) : Obj := dctO P (.type "dict") [((z "__name__" 165), (z "__main__" 164)), ((z "__doc__" 166), .none), ((z "__package__" 167), .none), ((z "__loader__" 168), ldr), ((z "__spec__" 169), .none), ((z "__annotations__" 170), (.ref 6)), ((z "__builtins__" 171), (.ref 4)), ((z "__file__" 173), (z "/claim/cut.py" 172)), ((z "__cached__" 174), .none)] 9
noncomputable def o12s (P : Params) : Obj := tabV []
noncomputable def o2b6 (P : Params) : Obj := dctO P .none [] 0
noncomputable def o3b6 (P : Params) : Obj := dctO P (.type "dict") [((z "__name__" 165), (z "cpy313.netrc" 238)), ((z "__doc__" 166), .none), ((z "__package__" 167), .none), ((z "__loader__" 168), ldr), ((z "__spec__" 169), .none), ((z "__annotations__" 170), (.ref 6)), ((z "__builtins__" 171), (.ref 4)), ((z "__file__" 173), (z "/claim/cut.py" 172)), ((z "__cached__" 174), .none), ((z "_Unknown" 215), (.ref 31)), ((z "UNKNOWN" 216), (.ref 37)), ((z "_get_name_info" 226), (.ref 44)), ((z "_NO_LINENO" 228), (z "  --" 227)), ((z "_get_lineno_width" 237), (.ref 51))] 14
noncomputable def o12b6 (P : Params) : Obj := tabV [(.int 2 0), (.int 0 0), (.ref 20), (.int 7 0), (.int 0 0), (.ref 43), (.int 14 0), (.int 0 0), (.ref 50)]
noncomputable def o2b7 (P : Params) : Obj := dctO P .none [((z "type.__subclasses__.Exception.0" 276), (.int 76 0)), ((z "type.__subclasses__.Exception.n" 277), (.int 1 0))] 2
noncomputable def o3b7 (P : Params) : Obj := dctO P (.type "dict") [((z "__name__" 165), (z "cpy313.netrc" 238)), ((z "__doc__" 166), .none), ((z "__package__" 167), .none), ((z "__loader__" 168), ldr), ((z "__spec__" 169), .none), ((z "__annotations__" 170), (.ref 6)), ((z "__builtins__" 171), (.ref 4)), ((z "__file__" 173), (z "/claim/cut.py" 172)), ((z "__cached__" 174), .none), ((z "_Unknown" 215), (.ref 31)), ((z "UNKNOWN" 216), (.ref 37)), ((z "_get_name_info" 226), (.ref 44)), ((z "_NO_LINENO" 228), (z "  --" 227)), ((z "_get_lineno_width" 237), (.ref 51)), ((z "NetrcParseError" 279), (.ref 76))] 15
noncomputable def o12b7 (P : Params) : Obj := tabV [(.int 2 0), (.int 0 0), (.ref 20), (.int 7 0), (.int 0 0), (.ref 43), (.int 14 0), (.int 0 0), (.ref 50), (.int 25 0), (.int 0 0), (.ref 57)]
noncomputable def o2b8 (P : Params) : Obj := dctO P .none [((z "type.__subclasses__.Exception.0" 276), (.int 76 0)), ((z "type.__subclasses__.Exception.n" 277), (.int 1 0))] 2
noncomputable def o3b8 (P : Params) : Obj := dctO P (.type "dict") [((z "__name__" 165), (z "cpy313.netrc" 238)), ((z "__doc__" 166), .none), ((z "__package__" 167), .none), ((z "__loader__" 168), ldr), ((z "__spec__" 169), .none), ((z "__annotations__" 170), (.ref 6)), ((z "__builtins__" 171), (.ref 4)), ((z "__file__" 173), (z "/claim/cut.py" 172)), ((z "__cached__" 174), .none), ((z "_Unknown" 215), (.ref 31)), ((z "UNKNOWN" 216), (.ref 37)), ((z "_get_name_info" 226), (.ref 44)), ((z "_NO_LINENO" 228), (z "  --" 227)), ((z "_get_lineno_width" 237), (.ref 51)), ((z "NetrcParseError" 279), (.ref 76)), ((z "_netrclex" 337), (.ref 117))] 16
noncomputable def o12b8 (P : Params) : Obj := tabV [(.int 2 0), (.int 0 0), (.ref 20), (.int 7 0), (.int 0 0), (.ref 43), (.int 14 0), (.int 0 0), (.ref 50), (.int 25 0), (.int 0 0), (.ref 57), (.int 35 0), (.int 0 0), (.ref 85)]
noncomputable def o2b21 (P : Params) : Obj := dctO P .none [((z "type.__subclasses__.Exception.0" 276), (.int 76 0)), ((z "type.__subclasses__.Exception.n" 277), (.int 1 0))] 2
noncomputable def o3b21 (P : Params) : Obj := dctO P (.type "dict") [((z "__name__" 165), (z "law_nb0093_01" 338)), ((z "__doc__" 166), .none), ((z "__package__" 167), .none), ((z "__loader__" 168), ldr), ((z "__spec__" 169), .none), ((z "__annotations__" 170), (.ref 6)), ((z "__builtins__" 171), (.ref 4)), ((z "__file__" 173), (z "/claim/cut.py" 172)), ((z "__cached__" 174), .none), ((z "_Unknown" 215), (.ref 31)), ((z "UNKNOWN" 216), (.ref 37)), ((z "_get_name_info" 226), (.ref 44)), ((z "_NO_LINENO" 228), (z "  --" 227)), ((z "_get_lineno_width" 237), (.ref 51)), ((z "NetrcParseError" 279), (.ref 76)), ((z "_netrclex" 337), (.ref 117)), ((z "_law_name" 347), (.ref 128)), ((z "_law_word" 353), (.ref 133)), ((z "_law_reader" 365), (.ref 140)), ((z "_law_lookup" 378), (.ref 147)), ((z "_law_asked" 388), (.ref 154)), ((z "_law_refused" 396), (.ref 161)), ((z "_law_reach" 407), (.ref 168)), ((z "_law_due" 421), (.ref 175)), ((z "_law_column" 427), (.ref 180)), ((z "_law_deed" 441), (.ref 187)), ((z "_law_run" 447), (.ref 192)), ((z "law" 455), (.ref 199))] 28
noncomputable def o12b21 (P : Params) : Obj := tabV [(.int 2 0), (.int 0 0), (.ref 20), (.int 7 0), (.int 0 0), (.ref 43), (.int 14 0), (.int 0 0), (.ref 50), (.int 25 0), (.int 0 0), (.ref 57), (.int 35 0), (.int 0 0), (.ref 85), (.int 79 0), (.int 0 0), (.ref 127), (.int 84 0), (.int 0 0), (.ref 132), (.int 89 0), (.int 0 0), (.ref 139), (.int 98 0), (.int 0 0), (.ref 146), (.int 115 0), (.int 0 0), (.ref 153), (.int 120 0), (.int 0 0), (.ref 160), (.int 122 0), (.int 0 0), (.ref 167), (.int 131 0), (.int 0 0), (.ref 174), (.int 142 0), (.int 0 0), (.ref 179), (.int 148 0), (.int 0 0), (.ref 186), (.int 159 0), (.int 0 0), (.ref 191), (.int 185 0), (.int 0 0), (.ref 198)]
noncomputable def objR (P : Params) : List Obj :=
  recO "code" [(z "<module>" 182), (z "<module>" 183), (z "/claim/cut.py" 184), (.int 1 0), (.int 0 0), (.int 0 0), (.int 0 0), (.int 0 0), (.ref 11), (.bool false), (.int 181 0), (.ref 12), .none, .none, .none, .none, (.int 185 0), (.int 1 0), (z "/claim/cut.py" 186)] ::
  ⟨(.type "frame"), none, .plain, #[(some (.ref 13)), (some (.ref 3)), (some (.ref 3)), none, (some (z "__main__" 164)), none, (some (.ref 0))]⟩ ::
  tupO [] ::
  recO "builtin_function_or_method" [(.builtin "type.__prepare__"), (.type "type")] ::
  dctO P (.type "dict") [((z "__module__" 196), (z "cpy313.dis" 187)), ((z "__qualname__" 198), (z "_Unknown" 197)), ((z "__firstlineno__" 200), (.int 2 199)), ((z "__repr__" 207), (.ref 28)), ((z "__static_attributes__" 208), (.ref 29))] 5 ::
  tupO [] ::
  tabV [(.int 4 0), (.int 4 0), (.ref 27)] ::
  recO "code" [(z "_Unknown" 191), (z "_Unknown" 192), (z "/claim/cut.py" 193), (.int 2 0), (.int 0 0), (.int 0 0), (.int 0 0), (.int 0 0), (.ref 18), (.bool false), (.int 181 0), (.ref 19), .none, .none, .none, .none, (.int 194 0), (.int 2 0), (z "/claim/cut.py" 195)] ::
  ⟨(.type "frame"), none, .plain, #[(some (.ref 20)), (some (.ref 3)), (some (.ref 17)), none, (some (z "cpy313.dis" 187)), none, (some (.ref 0))]⟩ ::
  tupO [] ::
  tabV [] ::
  tupO [(z "self" 204)] ::
  tupO [] ::
  fnC "_Unknown.__repr__" (sub 1 0) ::
  recO "code" [(z "__repr__" 201), (z "_Unknown.__repr__" 202), (z "/claim/cut.py" 203), (.int 4 0), (.int 1 0), (.int 0 0), (.int 0 0), (.int 3 0), (.ref 22), (.bool true), (.int 181 0), (.ref 23), .none, (.ref 24), (.ref 25), (.ref 26), (.int 205 0), (.int 4 0), (z "/claim/cut.py" 206)] ::
  fnO "_Unknown.__repr__" .none "cpy313.dis" 187 27 (sub 1 0) ::
  tupO [] ::
  dctO P (.type "dict") [((z "__module__" 196), (z "cpy313.dis" 187)), ((z "__firstlineno__" 200), (.int 2 199)), ((z "__repr__" 207), (.ref 28)), ((z "__static_attributes__" 208), (.ref 29)), ((z "__dict__" 210), (.ref 32)), ((z "__weakref__" 212), (.ref 33)), ((z "__doc__" 213), .none)] 4 ::
  ⟨(.type "type"), none, .cls { name := Str.ofString "_Unknown", bases := [.type "object"], mro := [.ref 31, .type "object"], ns := 30, qualname := Str.ofString "_Unknown" }, #[none, none, (some (z "_Unknown" 189)), (some (z "_Unknown" 197)), (some (.builtin "object.__new__")), (some (.bool true))]⟩ ::
  recO "getset_descriptor" [(z "__dict__" 209), (.ref 31), (.builtin "function.__dict__"), (.builtin "function.__dict__#set")] ::
  recO "getset_descriptor" [(z "__weakref__" 211), (.ref 31), (.builtin "ExceptionGroup.__weakref__"), .none] ::
  recO "super" [(.ref 31), (.ref 31), (.ref 31)] ::
  recO "builtin_function_or_method" [(.builtin "object.__init_subclass__"), (.ref 31)] ::
  dctO P (.type "dict") [] 0 ::
  ⟨(.ref 31), (some 36), .plain, #[]⟩ ::
  tupO [] ::
  tabV [] ::
  tupO [(z "name_index" 220), (z "get_name" 221), (z "extrainfo" 222), (z "argval" 223)] ::
  tupO [] ::
  fnC "_get_name_info" (top 3) ::
  recO "code" [(z "_get_name_info" 217), (z "_get_name_info" 218), (z "/claim/cut.py" 219), (.int 7 0), (.int 2 0), (.int 0 0), (.int 0 0), (.int 11 0), (.ref 38), (.bool true), (.int 181 0), (.ref 39), .none, (.ref 40), (.ref 41), (.ref 42), (.int 224 0), (.int 7 0), (z "/claim/cut.py" 225)] ::
  fnO "_get_name_info" .none "cpy313.dis" 187 43 (top 3) ::
  tupO [] ::
  tabV [] ::
  tupO [(z "linestarts" 232), (z "maxlineno" 233), (z "lineno_width" 234)] ::
  tupO [] ::
  fnC "_get_lineno_width" (top 5) ::
  recO "code" [(z "_get_lineno_width" 229), (z "_get_lineno_width" 230), (z "/claim/cut.py" 231), (.int 14 0), (.int 1 0), (.int 0 0), (.int 0 0), (.int 3 0), (.ref 45), (.bool true), (.int 181 0), (.ref 46), .none, (.ref 47), (.ref 48), (.ref 49), (.int 235 0), (.int 14 0), (z "/claim/cut.py" 236)] ::
  fnO "_get_lineno_width" .none "cpy313.dis" 187 50 (top 5) ::
  tupO [(.type "Exception")] ::
  recO "builtin_function_or_method" [(.builtin "type.__prepare__"), (.type "type")] ::
  dctO P (.type "dict") [((z "__module__" 247), (z "cpy313.netrc" 238)), ((z "__qualname__" 249), (z "NetrcParseError" 248)), ((z "__firstlineno__" 251), (.int 25 250)), ((z "__init__" 261), (.ref 66)), ((z "__str__" 268), (.ref 73)), ((z "__static_attributes__" 272), (.ref 74))] 6 ::
  tupO [] ::
  tabV [(.int 27 0), (.int 4 0), (.ref 65), (.int 33 0), (.int 4 0), (.ref 72)] ::
  recO "code" [(z "NetrcParseError" 242), (z "NetrcParseError" 243), (z "/claim/cut.py" 244), (.int 25 0), (.int 0 0), (.int 0 0), (.int 0 0), (.int 0 0), (.ref 55), (.bool false), (.int 181 0), (.ref 56), .none, .none, .none, .none, (.int 245 0), (.int 25 0), (z "/claim/cut.py" 246)] ::
  ⟨(.type "frame"), none, .plain, #[(some (.ref 57)), (some (.ref 3)), (some (.ref 54)), none, (some (z "cpy313.netrc" 238)), none, (some (.ref 0))]⟩ ::
  tupO [.none, .none] ::
  tupO [] ::
  tabV [] ::
  tupO [(z "self" 255), (z "msg" 256), (z "filename" 257), (z "lineno" 258)] ::
  tupO [] ::
  fnC "NetrcParseError.__init__" (sub 7 0) ::
  recO "code" [(z "__init__" 252), (z "NetrcParseError.__init__" 253), (z "/claim/cut.py" 254), (.int 27 0), (.int 4 0), (.int 0 0), (.int 0 0), (.int 3 0), (.ref 60), (.bool true), (.int 181 0), (.ref 61), .none, (.ref 62), (.ref 63), (.ref 64), (.int 259 0), (.int 27 0), (z "/claim/cut.py" 260)] ::
  fnO "NetrcParseError.__init__" (.ref 59) "cpy313.netrc" 238 65 (sub 7 0) ::
  tupO [] ::
  tabV [] ::
  tupO [(z "self" 265)] ::
  tupO [] ::
  fnC "NetrcParseError.__str__" (sub 7 1) ::
  recO "code" [(z "__str__" 262), (z "NetrcParseError.__str__" 263), (z "/claim/cut.py" 264), (.int 33 0), (.int 1 0), (.int 0 0), (.int 0 0), (.int 3 0), (.ref 67), (.bool true), (.int 181 0), (.ref 68), .none, (.ref 69), (.ref 70), (.ref 71), (.int 266 0), (.int 33 0), (z "/claim/cut.py" 267)] ::
  fnO "NetrcParseError.__str__" .none "cpy313.netrc" 238 72 (sub 7 1) ::
  tupO [(z "filename" 269), (z "lineno" 270), (z "msg" 271)] ::
  dctO P (.type "dict") [((z "__module__" 247), (z "cpy313.netrc" 238)), ((z "__firstlineno__" 251), (.int 25 250)), ((z "__init__" 261), (.ref 66)), ((z "__str__" 268), (.ref 73)), ((z "__static_attributes__" 272), (.ref 74)), ((z "__weakref__" 274), (.ref 77)), ((z "__doc__" 275), .none)] 3 ::
  ⟨(.type "type"), none, .cls { name := Str.ofString "NetrcParseError", bases := [.type "Exception"], mro := [.ref 76, .type "Exception", .type "BaseException", .type "object"], ns := 75, qualname := Str.ofString "NetrcParseError" }, #[(some (.ref 52)), none, (some (z "NetrcParseError" 240)), (some (z "NetrcParseError" 248)), (some (.builtin "Exception.__new__")), (some (.bool true))]⟩ ::
  recO "getset_descriptor" [(z "__weakref__" 273), (.ref 76), (.builtin "ExceptionGroup.__weakref__"), .none] ::
  recO "super" [(.ref 76), (.ref 76), (.ref 76)] ::
  recO "builtin_function_or_method" [(.builtin "object.__init_subclass__"), (.ref 76)] ::
  tupO [] ::
  recO "builtin_function_or_method" [(.builtin "type.__prepare__"), (.type "type")] ::
  dctO P (.type "dict") [((z "__module__" 287), (z "cpy313.netrc" 238)), ((z "__qualname__" 289), (z "_netrclex" 288)), ((z "__firstlineno__" 291), (.int 35 290)), ((z "__init__" 299), (.ref 93)), ((z "_read_char" 307), (.ref 100)), ((z "get_token" 317), (.ref 107)), ((z "push_token" 325), (.ref 114)), ((z "__static_attributes__" 330), (.ref 115))] 8 ::
  tupO [] ::
  tabV [(.int 37 0), (.int 4 0), (.ref 92), (.int 43 0), (.int 4 0), (.ref 99), (.int 49 0), (.int 4 0), (.ref 106), (.int 76 0), (.int 4 0), (.ref 113)] ::
  recO "code" [(z "_netrclex" 282), (z "_netrclex" 283), (z "/claim/cut.py" 284), (.int 35 0), (.int 0 0), (.int 0 0), (.int 0 0), (.int 0 0), (.ref 83), (.bool false), (.int 181 0), (.ref 84), .none, .none, .none, .none, (.int 285 0), (.int 35 0), (z "/claim/cut.py" 286)] ::
  ⟨(.type "frame"), none, .plain, #[(some (.ref 85)), (some (.ref 3)), (some (.ref 82)), none, (some (z "cpy313.netrc" 238)), none, (some (.ref 0))]⟩ ::
  tupO [] ::
  tabV [] ::
  tupO [(z "self" 295), (z "fp" 296)] ::
  tupO [] ::
  fnC "_netrclex.__init__" (sub 8 0) ::
  recO "code" [(z "__init__" 292), (z "_netrclex.__init__" 293), (z "/claim/cut.py" 294), (.int 37 0), (.int 2 0), (.int 0 0), (.int 0 0), (.int 3 0), (.ref 87), (.bool true), (.int 181 0), (.ref 88), .none, (.ref 89), (.ref 90), (.ref 91), (.int 297 0), (.int 37 0), (z "/claim/cut.py" 298)] ::
  fnO "_netrclex.__init__" .none "cpy313.netrc" 238 92 (sub 8 0) ::
  tupO [] ::
  tabV [] ::
  tupO [(z "self" 303), (z "ch" 304)] ::
  tupO [] ::
  fnC "_netrclex._read_char" (sub 8 1) ::
  recO "code" [(z "_read_char" 300), (z "_netrclex._read_char" 301), (z "/claim/cut.py" 302), (.int 43 0), (.int 1 0), (.int 0 0), (.int 0 0), (.int 3 0), (.ref 94), (.bool true), (.int 181 0), (.ref 95), .none, (.ref 96), (.ref 97), (.ref 98), (.int 305 0), (.int 43 0), (z "/claim/cut.py" 306)] ::
  fnO "_netrclex._read_char" .none "cpy313.netrc" 238 99 (sub 8 1) ::
  tupO [] ::
  tabV [] ::
  tupO [(z "self" 311), (z "token" 312), (z "fiter" 313), (z "ch" 314)] ::
  tupO [] ::
  fnC "_netrclex.get_token" (sub 8 2) ::
  recO "code" [(z "get_token" 308), (z "_netrclex.get_token" 309), (z "/claim/cut.py" 310), (.int 49 0), (.int 1 0), (.int 0 0), (.int 0 0), (.int 3 0), (.ref 101), (.bool true), (.int 181 0), (.ref 102), .none, (.ref 103), (.ref 104), (.ref 105), (.int 315 0), (.int 49 0), (z "/claim/cut.py" 316)] ::
  fnO "_netrclex.get_token" .none "cpy313.netrc" 238 106 (sub 8 2) ::
  tupO [] ::
  tabV [] ::
  tupO [(z "self" 321), (z "token" 322)] ::
  tupO [] ::
  fnC "_netrclex.push_token" (sub 8 3) ::
  recO "code" [(z "push_token" 318), (z "_netrclex.push_token" 319), (z "/claim/cut.py" 320), (.int 76 0), (.int 2 0), (.int 0 0), (.int 0 0), (.int 3 0), (.ref 108), (.bool true), (.int 181 0), (.ref 109), .none, (.ref 110), (.ref 111), (.ref 112), (.int 323 0), (.int 76 0), (z "/claim/cut.py" 324)] ::
  fnO "_netrclex.push_token" .none "cpy313.netrc" 238 113 (sub 8 3) ::
  tupO [(z "instream" 326), (z "lineno" 327), (z "pushback" 328), (z "whitespace" 329)] ::
  dctO P (.type "dict") [((z "__module__" 287), (z "cpy313.netrc" 238)), ((z "__firstlineno__" 291), (.int 35 290)), ((z "__init__" 299), (.ref 93)), ((z "_read_char" 307), (.ref 100)), ((z "get_token" 317), (.ref 107)), ((z "push_token" 325), (.ref 114)), ((z "__static_attributes__" 330), (.ref 115)), ((z "__dict__" 332), (.ref 118)), ((z "__weakref__" 334), (.ref 119)), ((z "__doc__" 335), .none)] 4 ::
  ⟨(.type "type"), none, .cls { name := Str.ofString "_netrclex", bases := [.type "object"], mro := [.ref 117, .type "object"], ns := 116, qualname := Str.ofString "_netrclex" }, #[none, none, (some (z "_netrclex" 280)), (some (z "_netrclex" 288)), (some (.builtin "object.__new__")), (some (.bool true))]⟩ ::
  recO "getset_descriptor" [(z "__dict__" 331), (.ref 117), (.builtin "function.__dict__"), (.builtin "function.__dict__#set")] ::
  recO "getset_descriptor" [(z "__weakref__" 333), (.ref 117), (.builtin "ExceptionGroup.__weakref__"), .none] ::
  recO "super" [(.ref 117), (.ref 117), (.ref 117)] ::
  recO "builtin_function_or_method" [(.builtin "object.__init_subclass__"), (.ref 117)] ::
  tupO [] ::
  tabV [] ::
  tupO [(z "n" 343), (z "signs" 344)] ::
  tupO [] ::
  fnC "_law_name" (top 10) ::
  recO "code" [(z "_law_name" 340), (z "_law_name" 341), (z "/claim/cut.py" 342), (.int 79 0), (.int 1 0), (.int 0 0), (.int 0 0), (.int 3 0), (.ref 122), (.bool true), (.int 181 0), (.ref 123), .none, (.ref 124), (.ref 125), (.ref 126), (.int 345 0), (.int 79 0), (z "/claim/cut.py" 346)] ::
  fnO "_law_name" .none "law_nb0093_01" 338 127 (top 10) ::
  tupO [] ::
  tabV [] ::
  fnC "_law_word" (top 11) ::
  recO "code" [(z "_law_word" 348), (z "_law_word" 349), (z "/claim/cut.py" 350), (.int 84 0), (.int 3 0), (.int 0 0), (.int 0 0), (.int 3 0), (.ref 129), (.bool true), (.int 181 0), (.ref 130), .none, .none, .none, (.ref 131), (.int 351 0), (.int 84 0), (z "/claim/cut.py" 352)] ::
  fnO "_law_word" .none "law_nb0093_01" 338 132 (top 11) ::
  tupO [] ::
  tabV [] ::
  tupO [(z "text" 357), (z "spot" 358), (z "read" 359), (z "tape" 360)] ::
  tupO [(z "text" 361), (z "spot" 362)] ::
  fnC "_law_reader" (top 12) ::
  recO "code" [(z "_law_reader" 354), (z "_law_reader" 355), (z "/claim/cut.py" 356), (.int 89 0), (.int 2 0), (.int 0 0), (.int 0 0), (.int 3 0), (.ref 134), (.bool true), (.int 181 0), (.ref 135), .none, (.ref 136), (.ref 137), (.ref 138), (.int 363 0), (.int 89 0), (z "/claim/cut.py" 364)] ::
  fnO "_law_reader" .none "law_nb0093_01" 338 139 (top 12) ::
  tupO [] ::
  tabV [] ::
  tupO [(z "lexer" 369), (z "known" 370), (z "asked" 371)] ::
  tupO [(z "lexer" 372), (z "known" 373), (z "asked" 374), (z "lookup" 375)] ::
  fnC "_law_lookup" (top 13) ::
  recO "code" [(z "_law_lookup" 366), (z "_law_lookup" 367), (z "/claim/cut.py" 368), (.int 98 0), (.int 3 0), (.int 0 0), (.int 0 0), (.int 3 0), (.ref 141), (.bool true), (.int 181 0), (.ref 142), .none, (.ref 143), (.ref 144), (.ref 145), (.int 376 0), (.int 98 0), (z "/claim/cut.py" 377)] ::
  fnO "_law_lookup" .none "law_nb0093_01" 338 146 (top 13) ::
  tupO [] ::
  tabV [] ::
  tupO [(z "index" 382), (z "lookup" 383), (z "line" 384), (z "error" 385)] ::
  tupO [] ::
  fnC "_law_asked" (top 14) ::
  recO "code" [(z "_law_asked" 379), (z "_law_asked" 380), (z "/claim/cut.py" 381), (.int 115 0), (.int 3 0), (.int 0 0), (.int 0 0), (.int 3 0), (.ref 148), (.bool true), (.int 181 0), (.ref 149), .none, (.ref 150), (.ref 151), (.ref 152), (.int 386 0), (.int 115 0), (z "/claim/cut.py" 387)] ::
  fnO "_law_asked" .none "law_nb0093_01" 338 153 (top 14) ::
  tupO [] ::
  tabV [] ::
  tupO [(z "msg" 392), (z "line" 393)] ::
  tupO [] ::
  fnC "_law_refused" (top 15) ::
  recO "code" [(z "_law_refused" 389), (z "_law_refused" 390), (z "/claim/cut.py" 391), (.int 120 0), (.int 2 0), (.int 0 0), (.int 0 0), (.int 3 0), (.ref 155), (.bool true), (.int 181 0), (.ref 156), .none, (.ref 157), (.ref 158), (.ref 159), (.int 394 0), (.int 120 0), (z "/claim/cut.py" 395)] ::
  fnO "_law_refused" .none "law_nb0093_01" 338 160 (top 15) ::
  tupO [] ::
  tabV [] ::
  tupO [(z "book" 400), (z "at" 401), (z "word" 402), (z "line" 403), (z "place" 404)] ::
  tupO [] ::
  fnC "_law_reach" (top 16) ::
  recO "code" [(z "_law_reach" 397), (z "_law_reach" 398), (z "/claim/cut.py" 399), (.int 122 0), (.int 2 0), (.int 0 0), (.int 0 0), (.int 3 0), (.ref 162), (.bool true), (.int 181 0), (.ref 163), .none, (.ref 164), (.ref 165), (.ref 166), (.int 405 0), (.int 122 0), (z "/claim/cut.py" 406)] ::
  fnO "_law_reach" .none "law_nb0093_01" 338 167 (top 16) ::
  tupO [] ::
  tabV [] ::
  tupO [(z "book" 411), (z "at" 412), (z "wish" 413), (z "step" 414), (z "word" 415), (z "line" 416), (z "place" 417), (z "last" 418)] ::
  tupO [] ::
  fnC "_law_due" (top 17) ::
  recO "code" [(z "_law_due" 408), (z "_law_due" 409), (z "/claim/cut.py" 410), (.int 131 0), (.int 3 0), (.int 0 0), (.int 0 0), (.int 3 0), (.ref 169), (.bool true), (.int 181 0), (.ref 170), .none, (.ref 171), (.ref 172), (.ref 173), (.int 419 0), (.int 131 0), (z "/claim/cut.py" 420)] ::
  fnO "_law_due" .none "law_nb0093_01" 338 174 (top 17) ::
  tupO [] ::
  tabV [] ::
  fnC "_law_column" (top 18) ::
  recO "code" [(z "_law_column" 422), (z "_law_column" 423), (z "/claim/cut.py" 424), (.int 142 0), (.int 1 0), (.int 0 0), (.int 0 0), (.int 3 0), (.ref 176), (.bool true), (.int 181 0), (.ref 177), .none, .none, .none, (.ref 178), (.int 425 0), (.int 142 0), (z "/claim/cut.py" 426)] ::
  fnO "_law_column" .none "law_nb0093_01" 338 179 (top 18) ::
  tupO [] ::
  tabV [] ::
  tupO [(z "n" 431), (z "lexer" 432), (z "lookup" 433), (z "book" 434), (z "act" 435), (z "q" 436), (z "told" 437), (z "said" 438)] ::
  tupO [] ::
  fnC "_law_deed" (top 19) ::
  recO "code" [(z "_law_deed" 428), (z "_law_deed" 429), (z "/claim/cut.py" 430), (.int 148 0), (.int 4 0), (.int 0 0), (.int 0 0), (.int 3 0), (.ref 181), (.bool true), (.int 181 0), (.ref 182), .none, (.ref 183), (.ref 184), (.ref 185), (.int 439 0), (.int 148 0), (z "/claim/cut.py" 440)] ::
  fnO "_law_deed" .none "law_nb0093_01" 338 186 (top 19) ::
  tupO [] ::
  tabV [] ::
  fnC "_law_run" (top 20) ::
  recO "code" [(z "_law_run" 442), (z "_law_run" 443), (z "/claim/cut.py" 444), (.int 159 0), (.int 2 0), (.int 0 0), (.int 0 0), (.int 3 0), (.ref 188), (.bool true), (.int 181 0), (.ref 189), .none, .none, .none, (.ref 190), (.int 445 0), (.int 159 0), (z "/claim/cut.py" 446)] ::
  fnO "_law_run" .none "law_nb0093_01" 338 191 (top 20) ::
  tupO [] ::
  tabV [] ::
  tupO [(z "script" 451), (z "numbers" 452)] ::
  tupO [] ::
  fnC "law" (top 21) ::
  recO "code" [(z "law" 448), (z "law" 449), (z "/claim/cut.py" 450), (.int 185 0), (.int 1 0), (.int 0 0), (.int 0 0), (.int 3 0), (.ref 193), (.bool true), (.int 181 0), (.ref 194), .none, (.ref 195), (.ref 196), (.ref 197), (.int 453 0), (.int 185 0), (z "/claim/cut.py" 454)] ::
  fnO "law" .none "law_nb0093_01" 338 198 (top 21) :: []
noncomputable def hpA (P : Params) (n : Nat) (a b c : Obj) : Heap := ⟨(boot_o_0 P :: boot_o_1 P :: a :: b :: boot_o_4 P :: boot_o_5 P :: boot_o_6 P :: boot_o_7 P :: boot_o_8 P :: boot_o_9 P :: boot_o_10 P :: tupO [] :: c :: (objR P).take n).toArray, {}⟩
noncomputable abbrev pr : Program := PySem.Challenge.rw_nb0093_01.row.prog
noncomputable def env0 : Env := { scope := pr.main.scope, locals := mainNs, globals := mainNs, cells := [], code := .ref 13, frame := some 14 }
noncomputable def bd0 : List Stmt := behindTheImports pr
noncomputable abbrev cd0 : Code := .body bd0 env0
noncomputable abbrev p0 : Pos := ⟨0, 0, 0, 0⟩
noncomputable def g1 : List Stmt := bd0.take 7
noncomputable def g2 : List Stmt := (bd0.drop 7).take 1
noncomputable def g3 : List Stmt := (bd0.drop 8).take 1
noncomputable def g4 : List Stmt := bd0.drop 9
theorem r_pre (w : World) (os : OsState) : topGo treeTable pr w 11 (some (.ref 6)) 12 ⟨boot_heap w.params, #[], boot_drawn, boot_toks, os⟩ (topStub pr) = some (⟨hpA w.params 2 (o2s w.params) (o3s w.params) (o12s w.params), #[], boot_drawn, 187, os⟩, ⟨denote treeTable cd0, cd0, p0, [topFrame p0]⟩) := by kernel_rfl
theorem r_blk (w : World) (os : OsState) : segRun treeTable pr w 11 (some (.ref 6)) 1 1 ⟨hpA w.params 2 (o2s w.params) (o3s w.params) (o12s w.params), #[], boot_drawn, 187, os⟩ (blockOf bd0 env0 cd0 p0 [topFrame p0]) = some (.next, ⟨hpA w.params 2 (o2s w.params) (o3s w.params) (o12s w.params), #[], boot_drawn, 187, os⟩, cd0, p0) := by kernel_rfl
theorem r_g1 (w : World) (os : OsState) : segRun treeTable pr w 11 (some (.ref 6)) 1 366 ⟨hpA w.params 2 (o2s w.params) (o3s w.params) (o12s w.params), #[], boot_drawn, 187, os⟩ (piecesOf g1 env0 cd0 p0 [topFrame p0]) = some (.next, ⟨hpA w.params 39 (o2b6 w.params) (o3b6 w.params) (o12b6 w.params), #[], boot_drawn, 240, os⟩, cd0, ⟨24, 0, 24, 8⟩) := by
  rw [PySem.W.Fast.te14374325043358763698]
  kernel_rfl
theorem r_g2 (w : World) (os : OsState) : segRun treeTable pr w 11 (some (.ref 6)) 1 265 ⟨hpA w.params 39 (o2b6 w.params) (o3b6 w.params) (o12b6 w.params), #[], boot_drawn, 240, os⟩ (piecesOf g2 env0 cd0 ⟨24, 0, 24, 8⟩ [topFrame p0]) = some (.next, ⟨hpA w.params 67 (o2b7 w.params) (o3b7 w.params) (o12b7 w.params), #[], boot_drawn, 280, os⟩, cd0, ⟨25, 0, 34, 74⟩) := by
  rw [PySem.W.Fast.te14374325043358763698]
  kernel_rfl
theorem r_g3 (w : World) (os : OsState) : segRun treeTable pr w 11 (some (.ref 6)) 1 324 ⟨hpA w.params 67 (o2b7 w.params) (o3b7 w.params) (o12b7 w.params), #[], boot_drawn, 280, os⟩ (piecesOf g3 env0 cd0 ⟨25, 0, 34, 74⟩ [topFrame p0]) = some (.next, ⟨hpA w.params 109 (o2b8 w.params) (o3b8 w.params) (o12b8 w.params), #[], boot_drawn, 338, os⟩, cd0, ⟨35, 0, 77, 35⟩) := by
  rw [PySem.W.Fast.te14374325043358763698]
  kernel_rfl
theorem r_g4 (w : World) (os : OsState) : segRun treeTable pr w 11 (some (.ref 6)) 1 384 ⟨hpA w.params 109 (o2b8 w.params) (o3b8 w.params) (o12b8 w.params), #[], boot_drawn, 338, os⟩ (piecesOf g4 env0 cd0 ⟨35, 0, 77, 35⟩ [topFrame p0]) = some (.next, ⟨hpA w.params 187 (o2b21 w.params) (o3b21 w.params) (o12b21 w.params), #[], boot_drawn, 456, os⟩, cd0, ⟨185, 0, 187, 73⟩) := by
  rw [PySem.W.Fast.te14374325043358763698]
  kernel_rfl
theorem r_fin (w : World) (os : OsState) : topRun treeTable pr w 11 (some (.ref 6)) 2 ⟨hpA w.params 187 (o2b21 w.params) (o3b21 w.params) (o12b21 w.params), #[], boot_drawn, 456, os⟩ ⟨doneF .next, cd0, ⟨185, 0, 187, 73⟩, [topFrame p0]⟩ = some ⟨hpA w.params 187 (o2b21 w.params) (o3b21 w.params) (o12b21 w.params), #[], boot_drawn, 456, os⟩ := by kernel_rfl
theorem g_all : bd0 = g1 ++ (g2 ++ (g3 ++ (g4 ++ []))) := by kernel_rfl
theorem r_all (w : World) (os : OsState) : topRun treeTable pr w 11 (some (.ref 6)) (12 + (1 + (366 + (265 + (324 + (384 + 2)))))) ⟨boot_heap w.params, #[], boot_drawn, boot_toks, os⟩ (topStub pr) = some ⟨hpA w.params 187 (o2b21 w.params) (o3b21 w.params) (o12b21 w.params), #[], boot_drawn, 456, os⟩ := by
  refine go_top (r_pre w os) (piece_block (r_blk w os) ?_)
  have k := piece_app (r_g1 w os) (piece_app (r_g2 w os) (piece_app (r_g3 w os) (piece_app (r_g4 w os) (piece_nil (r_fin w os)))))
  rw [← g_all] at k
  exact k
theorem r_look (w : World) : (fun os : OsState => ((staticsOk (importedModules pr.main.body) (boot_heap w.params) (hpA w.params 187 (o2b21 w.params) (o3b21 w.params) (o12b21 w.params)) && namesBound pr (hpA w.params 187 (o2b21 w.params) (o3b21 w.params) (o12b21 w.params)) && gensDone ⟨hpA w.params 187 (o2b21 w.params) (o3b21 w.params) (o12b21 w.params), #[], boot_drawn, 456, os⟩ && laidKept (boot_heap w.params) (hpA w.params 187 (o2b21 w.params) (o3b21 w.params) (o12b21 w.params))), openSeen vw lo (importedModules pr.main.body) (fun s => xlAt vw [] s && recOk PySem.Challenge.rw_nb0093_01.row.records s) true ⟨hpA w.params 187 (o2b21 w.params) (o3b21 w.params) (o12b21 w.params), #[], boot_drawn, 456, os⟩, hk.obs ⟨hpA w.params 187 (o2b21 w.params) (o3b21 w.params) (o12b21 w.params), #[], boot_drawn, 456, os⟩)) = fun _ => (true, openGood vw lo, hk.val w) := by
  rw [PySem.W.Fast.te4187177175401517315]
  kernel_rfl
theorem law_said : PySem.Challenge.rw_nb0093_01.wellSaid = true := by
  rw [PySem.W.Fast.te9446332074065402090]
  kernel_rfl
theorem left : LeftO PySem.Challenge.rw_nb0093_01.row.prog vw lo (fun s => xlAt vw [] s && recOk PySem.Challenge.rw_nb0093_01.row.records s) hk.obs hk.val 2796 :=
  LeftO.of_pieces (H₀ := boot_heap) (H₁ := fun P => hpA P 187 (o2b21 P) (o3b21 P) (o12b21 P)) (gs₀ := #[]) (gs₁ := #[]) (d₀ := boot_drawn) (d₁ := boot_drawn) (k₀ := boot_toks) (k₁ := 456) (m₀ := 11) (ann := some (.ref 6)) (M := (12 + (1 + (366 + (265 + (324 + (384 + 2)))))))
    (boot_open (by kernel_rfl) (by decide) (fun s => by kernel_rfl)) (fun w => by kernel_rfl) r_all (by decide) r_look
theorem led_start {hT h : Heap} {L : Addr} {m : Str → Option Value} {ns : List Str} {vs : List (Option Value)} (F : Fr hT L h m) (N : News hT L h [(142, tabObj #[]), (135, tabObj #[])]) (hm : ∀ y, m y = look ns vs y) :
    Led hT [] ((L, Frm ns vs) :: (135, TabO #[]) :: (142, TabO #[]) :: []) h := by
  obtain ⟨a1, a2, a3⟩ := N _ (.head _)
  obtain ⟨b1, b2, b3⟩ := N _ (.tail _ (.head _))
  have hL : hT.get? L = none := by
    cases q : hT.get? L with
    | none => rfl
    | some o' => exact absurd (Nat.lt_of_lt_of_le (Heap.lt_size q) F.above) (Nat.lt_irrefl _)
  refine ⟨F.keep, fun c hc => ?_, ?_, fun c hc => ?_, Nat.le_trans F.above (Nat.le_of_lt F.ns.lt)⟩
  · rcases List.mem_cons.mp hc with rfl | hc
    · exact frm_of_ns F.ns hm
    · rcases List.mem_cons.mp hc with rfl | hc
      · exact ⟨_, b1, rfl⟩
      · rw [List.mem_singleton.mp hc]
        exact ⟨_, a1, rfl⟩
  · show [L, 135, 142].Nodup
    refine List.nodup_cons.mpr ⟨fun hx => ?_, by decide⟩
    rcases List.mem_cons.mp hx with hx | hx
    · exact b2 hx.symm
    · exact a2 (List.mem_singleton.mp hx).symm
  · rcases List.mem_cons.mp hc with rfl | hc
    · exact hL
    · rcases List.mem_cons.mp hc with rfl | hc
      · exact b3
      · rw [List.mem_singleton.mp hc]
        exact a3
theorem rm_start (env : Env) : Rm (0 + 230) (callerA.deeper env) [env] :=
  ⟨by show callerA.depth + 1 + 230 ≤ 700; decide, by show callerA.units + 3 + 8 * 230 ≤ 6000; decide, rfl, rfl, rfl⟩
set_option maxRecDepth 100000 in
set_option maxHeartbeats 8000000 in
theorem row : PySem.Challenge.rw_nb0093_01.Holds := by
  w_on
  refine holds_law law_said fun said => ?_
  refine holds_open (q := vw) (loose := lo) (Xt := fun s => xlAt vw [] s && recOk PySem.Challenge.rw_nb0093_01.row.records s) (XP := XL vw []) (YP := (kmHook hd.heap_39 asK asK_is [142, 135]).says) left hk.of hk.keeps (fun s e => xl_of s (Bool.and_eq_true_iff.mp e).1) XL.keeps (by rfl) (by rfl) (by rfl) (fun s e => recFacts_of (Bool.and_eq_true_iff.mp e).2) (by rfl) said (by decide +kernel) ⟨rfl, rfl, rfl, rfl, rfl, by decide +kernel⟩ ?hw ?hc
  case hw => w_witness2
  k_go0
  rename_i h₁ X' T' K' F' C1 N' l0
  have TT : Tp _ _ _ _ := ⟨X', T'.g, T'.b, T'.nolimit, T'.builtins, T'.bmain, C1, codeHd⟩
  refine law_walk (n := 0) (by kernel_rfl) TT rfl (Scp.of (by kernel_rfl) F'.above rfl rfl rfl rfl) rfl (rm_start _) (by assumption) lifted ?hz (led_start F' N' ?hm) ?kk
  case hz => omega
  case hm =>
    intro y
    by_cases hy : y = Str.ofString "script"
    · subst hy
      rfl
    · have hy' : (y == Str.ofString "script") = false := by simpa using hy
      show (match y == Str.ofString "script" with | true => some _ | false => none) = look lwNs _ y
      rw [hy']
      simp only [look]
      rw [if_neg hy, ite_self]
  case kk =>
    clear F' N'
    intro h t ps1 ps2 P D
    refine ⟨⟨.inl ⟨.bool true, .bool true, [], rfl, raisesW_false ?_, .bool true, ?_, unshared_nil⟩, D.keep, rfl, by assumption⟩, ?_⟩
    · wrow_none_raised
    · wrow_post
    · obtain ⟨o1, e1, q1⟩ := D.atL .z
      obtain ⟨o2, e2, q2⟩ := D.atL (.s .z)
      exact ⟨⟨ps2, by rw [← (show o2 = tabObj ps2 from q2)]; exact e2⟩, ⟨ps1, by rw [← (show o1 = tabObj ps1 from q1)]; exact e1⟩, trivial⟩
end Mine
theorem PySem.Challenge.cw_nb0093_01_holds : PySem.Challenge.rw_nb0093_01.Holds := by
  exact Mine.row
