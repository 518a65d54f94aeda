import PyProof.Rows.All
import Wide.All
import OpenK.AllK
import Wide.FinOn
import Lean
import PySem.Challenge.RW_pe0233_01
set_option Elab.async false
set_option linter.all false
set_option compiler.extract_closed false
set_option genSizeOf false
open PySem PySem.W PySem.Spec PySem.Calls PyProof PyProof.Rows
set_option maxRecDepth 100000
set_option maxHeartbeats 8000000
namespace Mine
noncomputable def no2 : Arguments × List Stmt × Scope := ({ posonlyargs := [], args := [], vararg := none, kwonlyargs := [], kw_defaults := [], kwarg := none, defaults := [] }, [], { kind := .module, names := [], isGenerator := false, isCoroutine := false })
noncomputable def with2 (x : Arguments × List Stmt × Scope) (f : Arguments → List Stmt → Scope → Data) : Data := match x with | (a, b, c) => f a b c
noncomputable def defOf2 : Option Stmt → Arguments × List Stmt × Scope
  | some (.FunctionDef _ ps b _ _ _ sc _ _ _) => (ps, b, sc)
  | _ => no2
noncomputable def defAt2 (i : Nat) := defOf2 PySem.Challenge.pw_pe0233_01.main.body[i]?
noncomputable def defIn2 (i j : Nat) := match PySem.Challenge.pw_pe0233_01.main.body[i]? with
  | some (.ClassDef _ _ _ b _ _ _ _ _ _ _) => defOf2 b[j]?
  | _ => no2
noncomputable def lit {α : Type} {x y : α} (_ : x = y) : α := y
noncomputable def l_1 := lit (show defAt2 1 = _ by conv => lhs; whnf)
noncomputable def l_3_0 := lit (show defIn2 3 0 = _ by conv => lhs; whnf)
noncomputable def l_3_1 := lit (show defIn2 3 1 = _ by conv => lhs; whnf)
noncomputable def l_3_2 := lit (show defIn2 3 2 = _ by conv => lhs; whnf)
noncomputable def l_3_3 := lit (show defIn2 3 3 = _ by conv => lhs; whnf)
noncomputable def l_5 := lit (show defAt2 5 = _ by conv => lhs; whnf)
noncomputable def l_6 := lit (show defAt2 6 = _ by conv => lhs; whnf)
noncomputable def l_7 := lit (show defAt2 7 = _ by conv => lhs; whnf)
noncomputable def l_11_0 := lit (show defIn2 11 0 = _ by conv => lhs; whnf)
noncomputable def l_11_1 := lit (show defIn2 11 1 = _ by conv => lhs; whnf)
noncomputable def l_11_2 := lit (show defIn2 11 2 = _ by conv => lhs; whnf)
noncomputable def l_11_3 := lit (show defIn2 11 3 = _ by conv => lhs; whnf)
noncomputable def l_11_4 := lit (show defIn2 11 4 = _ by conv => lhs; whnf)
noncomputable def l_11_5 := lit (show defIn2 11 5 = _ by conv => lhs; whnf)
noncomputable def l_11_6 := lit (show defIn2 11 6 = _ by conv => lhs; whnf)
noncomputable def l_11_7 := lit (show defIn2 11 7 = _ by conv => lhs; whnf)
noncomputable def l_11_8 := lit (show defIn2 11 8 = _ by conv => lhs; whnf)
noncomputable def l_11_9 := lit (show defIn2 11 9 = _ by conv => lhs; whnf)
noncomputable def l_11_10 := lit (show defIn2 11 10 = _ by conv => lhs; whnf)
noncomputable def l_11_11 := lit (show defIn2 11 11 = _ by conv => lhs; whnf)
noncomputable def l_11_12 := lit (show defIn2 11 12 = _ by conv => lhs; whnf)
noncomputable def l_11_13 := lit (show defIn2 11 13 = _ by conv => lhs; whnf)
noncomputable def l_11_14 := lit (show defIn2 11 14 = _ by conv => lhs; whnf)
noncomputable def l_11_15 := lit (show defIn2 11 15 = _ by conv => lhs; whnf)
noncomputable def l_11_16 := lit (show defIn2 11 16 = _ by conv => lhs; whnf)
noncomputable def l_13 := lit (show defAt2 13 = _ by conv => lhs; whnf)
noncomputable def l_14 := lit (show defAt2 14 = _ by conv => lhs; whnf)
noncomputable def l_15 := lit (show defAt2 15 = _ by conv => lhs; whnf)
noncomputable def l_16 := lit (show defAt2 16 = _ by conv => lhs; whnf)
noncomputable def l_17 := lit (show defAt2 17 = _ by conv => lhs; whnf)
noncomputable def l_18 := lit (show defAt2 18 = _ by conv => lhs; whnf)
noncomputable def l_19 := lit (show defAt2 19 = _ by conv => lhs; whnf)
noncomputable def l_20 := lit (show defAt2 20 = _ by conv => lhs; whnf)
noncomputable def l_21 := lit (show defAt2 21 = _ by conv => lhs; whnf)
noncomputable def l_22 := lit (show defAt2 22 = _ by conv => lhs; whnf)
noncomputable def l_23 := lit (show defAt2 23 = _ by conv => lhs; whnf)
noncomputable def l_24 := lit (show defAt2 24 = _ by conv => lhs; whnf)
noncomputable def l_25 := lit (show defAt2 25 = _ by conv => lhs; whnf)
noncomputable def l_26 := lit (show defAt2 26 = _ by conv => lhs; whnf)
noncomputable def heap2a : Params → Frag :=
fun P =>
  [(2,
      { cls := Value.none,
        data :=
          Data.dict
            #[{ hash := PyData.keyHash P (Str.ofString "imp\x6frt.loaded._sre"),
                key := Value.str (Str.ofString "imp\x6frt.loaded._sre") 183, val := Value.bool true },
              { hash := PyData.keyHash P (Str.ofString "class._frozen_imp\x6frtlib.BuiltinImporter"),
                key := Value.str (Str.ofString "class._frozen_imp\x6frtlib.BuiltinImporter") 185, val := Value.ref 14 },
              { hash := PyData.keyHash P (Str.ofString "watched.imp\x6frt"),
                key := Value.str (Str.ofString "watched.imp\x6frt") 206, val := Value.ref 18 },
              { hash := PyData.keyHash P (Str.ofString "class._frozen_imp\x6frtlib.ModuleSpec"),
                key := Value.str (Str.ofString "class._frozen_imp\x6frtlib.ModuleSpec") 216, val := Value.ref 22 },
              { hash := PyData.keyHash P (Str.ofString "sys.modules.booked-epoch"),
                key := Value.str (Str.ofString "sys.modules.booked-epoch") 245, val := Value.int 3 0 },
              { hash := PyData.keyHash P (Str.ofString "imp\x6frt.later-laid._sre"),
                key := Value.str (Str.ofString "imp\x6frt.later-laid._sre") 270, val := Value.bool true },
              { hash := PyData.keyHash P (Str.ofString "watched.library"),
                key := Value.str (Str.ofString "watched.library") 272, val := Value.ref 27 },
              { hash := PyData.keyHash P (Str.ofString "watched.library-objects"),
                key := Value.str (Str.ofString "watched.library-objects") 0, val := Value.str (Str.ofString "\x0c") 0 },
              { hash := PyData.keyHash P (Str.ofString "watched.library-deep._sre"),
                key := Value.str (Str.ofString "watched.library-deep._sre") 273,
                val :=
                  Value.str
                    (Str.ofString "\x04\x00\x00\x0b\x04\x00\x00\x0b\x04\x00\x00\x03\x04\x00\x00\x0b\x08\x04dict\x02")
                    0 }]
            9 }),
    (3,
      { cls := Value.type "dict",
        data :=
          Data.dict
            #[{ hash := PyData.keyHash P (Str.ofString "__name__"), key := Value.str (Str.ofString "__name__") 165,
                val := Value.str (Str.ofString "law_pe0233_01") 607 },
              { hash := PyData.keyHash P (Str.ofString "__doc__"), key := Value.str (Str.ofString "__doc__") 166,
                val := Value.none },
              { hash := PyData.keyHash P (Str.ofString "__package__"),
                key := Value.str (Str.ofString "__package__") 167, val := Value.none },
              { hash := PyData.keyHash P (Str.ofString "__loader__"), key := Value.str (Str.ofString "__loader__") 168,
                val := Value.builtin "__main__.__loader__#opaque" },
              { hash := PyData.keyHash P (Str.ofString "__spec__"), key := Value.str (Str.ofString "__spec__") 169,
                val := Value.none },
              { hash := PyData.keyHash P (Str.ofString "__annotations__"),
                key := Value.str (Str.ofString "__annotations__") 170, val := Value.ref 6 },
              { hash := PyData.keyHash P (Str.ofString "__builtins__"),
                key := Value.str (Str.ofString "__builtins__") 171, val := Value.ref 4 },
              { hash := PyData.keyHash P (Str.ofString "__file__"), key := Value.str (Str.ofString "__file__") 173,
                val := Value.str (Str.ofString "/claim/cut.py") 172 },
              { hash := PyData.keyHash P (Str.ofString "__cached__"), key := Value.str (Str.ofString "__cached__") 174,
                val := Value.none },
              { hash := PyData.keyHash P (Str.ofString "_sre"), key := Value.str (Str.ofString "_sre") 275,
                val := Value.ref 12 },
              { hash := PyData.keyHash P (Str.ofString "_wall"), key := Value.str (Str.ofString "_wall") 288,
                val := Value.ref 38 },
              { hash := PyData.keyHash P (Str.ofString "_netrclex"), key := Value.str (Str.ofString "_netrclex") 348,
                val := Value.ref 76 },
              { hash := PyData.keyHash P (Str.ofString "add_func_stats"),
                key := Value.str (Str.ofString "add_func_stats") 368, val := Value.ref 87 },
              { hash := PyData.keyHash P (Str.ofString "add_callers"),
                key := Value.str (Str.ofString "add_callers") 379, val := Value.ref 94 },
              { hash := PyData.keyHash P (Str.ofString "count_calls"),
                key := Value.str (Str.ofString "count_calls") 388, val := Value.ref 101 },
              { hash := PyData.keyHash P (Str.ofString "_name_disallowed_re"),
                key := Value.str (Str.ofString "_name_disallowed_re") 416, val := Value.ref 106 },
              { hash := PyData.keyHash P (Str.ofString "_value_disallowed_re"),
                key := Value.str (Str.ofString "_value_disallowed_re") 450, val := Value.ref 111 },
              { hash := PyData.keyHash P (Str.ofString "Headers"), key := Value.str (Str.ofString "Headers") 606,
                val := Value.ref 234 },
              { hash := PyData.keyHash P (Str.ofString "_law_names"), key := Value.str (Str.ofString "_law_names") 614,
                val := Value.ref 245 },
              { hash := PyData.keyHash P (Str.ofString "_law_numbers"),
                key := Value.str (Str.ofString "_law_numbers") 620, val := Value.ref 250 },
              { hash := PyData.keyHash P (Str.ofString "_law_words"), key := Value.str (Str.ofString "_law_words") 626,
                val := Value.ref 255 },
              { hash := PyData.keyHash P (Str.ofString "_law_text"), key := Value.str (Str.ofString "_law_text") 632,
                val := Value.ref 260 },
              { hash := PyData.keyHash P (Str.ofString "_law_stream"),
                key := Value.str (Str.ofString "_law_stream") 641, val := Value.ref 267 },
              { hash := PyData.keyHash P (Str.ofString "_law_read"), key := Value.str (Str.ofString "_law_read") 647,
                val := Value.ref 272 },
              { hash := PyData.keyHash P (Str.ofString "_law_signposts"),
                key := Value.str (Str.ofString "_law_signposts") 658, val := Value.ref 279 },
              { hash := PyData.keyHash P (Str.ofString "_law_run"), key := Value.str (Str.ofString "_law_run") 664,
                val := Value.ref 284 },
              { hash := PyData.keyHash P (Str.ofString "_law_sent"), key := Value.str (Str.ofString "_law_sent") 673,
                val := Value.ref 291 },
              { hash := PyData.keyHash P (Str.ofString "_law_leavings"),
                key := Value.str (Str.ofString "_law_leavings") 679, val := Value.ref 296 },
              { hash := PyData.keyHash P (Str.ofString "_law_arrivals"),
                key := Value.str (Str.ofString "_law_arrivals") 685, val := Value.ref 301 },
              { hash := PyData.keyHash P (Str.ofString "_law_leads_on"),
                key := Value.str (Str.ofString "_law_leads_on") 691, val := Value.ref 306 },
              { hash := PyData.keyHash P (Str.ofString "_law_is_told"),
                key := Value.str (Str.ofString "_law_is_told") 697, val := Value.ref 311 },
              { hash := PyData.keyHash P (Str.ofString "law"), key := Value.str (Str.ofString "law") 703,
                val := Value.ref 316 }]
            32 }),
    (32, { cls := Value.type "tuple", data := Data.seq #[] }),
    (34, { cls := Value.type "tuple", data := Data.seq #[Value.str (Str.ofString "k") 285] }),
    (35, { cls := Value.type "tuple", data := Data.seq #[] }),
    (37,
      { cls := Value.type "code",
        data :=
          Data.fields
            #[Value.str (Str.ofString "_wall") 282, Value.str (Str.ofString "_wall") 283,
              Value.str (Str.ofString "/claim/cut.py") 284, Value.int 2 0, Value.int 1 0, Value.int 0 0, Value.int 0 0,
              Value.int 3 0, Value.ref 32, Value.bool true, Value.int 276 0, Value.ref 33, Value.none, Value.ref 34,
              Value.ref 35, Value.ref 36, Value.int 286 0, Value.int 2 0,
              Value.str (Str.ofString "/claim/cut.py") 287] }),
    (38,
      { cls := Value.type "function",
        data :=
          with2 l_1 fun ps bd sc => Data.func
            { name := Str.ofString "_wall", qualname := Str.ofString "_wall",
              params := ps, body := FuncBody.stmts bd, scope := sc,
              globals := 3, closure := [], defaults := Value.none, kwdefaults := Value.none,
              pyModule := Value.str (Str.ofString "__main__") 164, code := Value.ref 37 } }),
    (46, { cls := Value.type "tuple", data := Data.seq #[] }),
    (48,
      { cls := Value.type "tuple",
        data := Data.seq #[Value.str (Str.ofString "self") 306, Value.str (Str.ofString "fp") 307] }),
    (49, { cls := Value.type "tuple", data := Data.seq #[] }),
    (51,
      { cls := Value.type "code",
        data :=
          Data.fields
            #[Value.str (Str.ofString "__init__") 303, Value.str (Str.ofString "_netrclex.__init__") 304,
              Value.str (Str.ofString "/claim/cut.py") 305, Value.int 8 0, Value.int 2 0, Value.int 0 0, Value.int 0 0,
              Value.int 3 0, Value.ref 46, Value.bool true, Value.int 276 0, Value.ref 47, Value.none, Value.ref 48,
              Value.ref 49, Value.ref 50, Value.int 308 0, Value.int 8 0,
              Value.str (Str.ofString "/claim/cut.py") 309] }),
    (52,
      { cls := Value.type "function",
        data :=
          with2 l_3_0 fun ps bd sc => Data.func
            { name := Str.ofString "__init__", qualname := Str.ofString "_netrclex.__init__",
              params := ps, body := FuncBody.stmts bd, scope := sc,
              globals := 3, closure := [], defaults := Value.none, kwdefaults := Value.none,
              pyModule := Value.str (Str.ofString "cpy313.netrc") 289, code := Value.ref 51 } }),
    (53, { cls := Value.type "tuple", data := Data.seq #[] }),
    (55,
      { cls := Value.type "tuple",
        data := Data.seq #[Value.str (Str.ofString "self") 314, Value.str (Str.ofString "ch") 315] }),
    (56, { cls := Value.type "tuple", data := Data.seq #[] }),
    (58,
      { cls := Value.type "code",
        data :=
          Data.fields
            #[Value.str (Str.ofString "_read_char") 311, Value.str (Str.ofString "_netrclex._read_char") 312,
              Value.str (Str.ofString "/claim/cut.py") 313, Value.int 14 0, Value.int 1 0, Value.int 0 0, Value.int 0 0,
              Value.int 3 0, Value.ref 53, Value.bool true, Value.int 276 0, Value.ref 54, Value.none, Value.ref 55,
              Value.ref 56, Value.ref 57, Value.int 316 0, Value.int 14 0,
              Value.str (Str.ofString "/claim/cut.py") 317] }),
    (59,
      { cls := Value.type "function",
        data :=
          with2 l_3_1 fun ps bd sc => Data.func
            { name := Str.ofString "_read_char", qualname := Str.ofString "_netrclex._read_char",
              params := ps, body := FuncBody.stmts bd, scope := sc,
              globals := 3, closure := [], defaults := Value.none, kwdefaults := Value.none,
              pyModule := Value.str (Str.ofString "cpy313.netrc") 289, code := Value.ref 58 } }),
    (60, { cls := Value.type "tuple", data := Data.seq #[] }),
    (62,
      { cls := Value.type "tuple",
        data :=
          Data.seq
            #[Value.str (Str.ofString "self") 322, Value.str (Str.ofString "token") 323,
              Value.str (Str.ofString "fiter") 324, Value.str (Str.ofString "ch") 325] }),
    (63, { cls := Value.type "tuple", data := Data.seq #[] }),
    (65,
      { cls := Value.type "code",
        data :=
          Data.fields
            #[Value.str (Str.ofString "get_token") 319, Value.str (Str.ofString "_netrclex.get_token") 320,
              Value.str (Str.ofString "/claim/cut.py") 321, Value.int 20 0, Value.int 1 0, Value.int 0 0, Value.int 0 0,
              Value.int 3 0, Value.ref 60, Value.bool true, Value.int 276 0, Value.ref 61, Value.none, Value.ref 62,
              Value.ref 63, Value.ref 64, Value.int 326 0, Value.int 20 0,
              Value.str (Str.ofString "/claim/cut.py") 327] }),
    (66,
      { cls := Value.type "function",
        data :=
          with2 l_3_2 fun ps bd sc => Data.func
            { name := Str.ofString "get_token", qualname := Str.ofString "_netrclex.get_token",
              params := ps, body := FuncBody.stmts bd, scope := sc,
              globals := 3, closure := [], defaults := Value.none, kwdefaults := Value.none,
              pyModule := Value.str (Str.ofString "cpy313.netrc") 289, code := Value.ref 65 } }),
    (67, { cls := Value.type "tuple", data := Data.seq #[] }),
    (69,
      { cls := Value.type "tuple",
        data := Data.seq #[Value.str (Str.ofString "self") 332, Value.str (Str.ofString "token") 333] }),
    (70, { cls := Value.type "tuple", data := Data.seq #[] }),
    (72,
      { cls := Value.type "code",
        data :=
          Data.fields
            #[Value.str (Str.ofString "push_token") 329, Value.str (Str.ofString "_netrclex.push_token") 330,
              Value.str (Str.ofString "/claim/cut.py") 331, Value.int 47 0, Value.int 2 0, Value.int 0 0, Value.int 0 0,
              Value.int 3 0, Value.ref 67, Value.bool true, Value.int 276 0, Value.ref 68, Value.none, Value.ref 69,
              Value.ref 70, Value.ref 71, Value.int 334 0, Value.int 47 0,
              Value.str (Str.ofString "/claim/cut.py") 335] }),
    (73,
      { cls := Value.type "function",
        data :=
          with2 l_3_3 fun ps bd sc => Data.func
            { name := Str.ofString "push_token", qualname := Str.ofString "_netrclex.push_token",
              params := ps, body := FuncBody.stmts bd, scope := sc,
              globals := 3, closure := [], defaults := Value.none, kwdefaults := Value.none,
              pyModule := Value.str (Str.ofString "cpy313.netrc") 289, code := Value.ref 72 } }),
    (74,
      { cls := Value.type "tuple",
        data :=
          Data.seq
            #[Value.str (Str.ofString "instream") 337, Value.str (Str.ofString "lineno") 338,
              Value.str (Str.ofString "pushback") 339, Value.str (Str.ofString "whitespace") 340] }),
    (75,
      { cls := Value.type "dict",
        data :=
          Data.dict
            #[{ hash := PyData.keyHash P (Str.ofString "__module__"), key := Value.str (Str.ofString "__module__") 298,
                val := Value.str (Str.ofString "cpy313.netrc") 289 },
              { hash := PyData.keyHash P (Str.ofString "__firstlineno__"),
                key := Value.str (Str.ofString "__firstlineno__") 302, val := Value.int 6 301 },
              { hash := PyData.keyHash P (Str.ofString "__init__"), key := Value.str (Str.ofString "__init__") 310,
                val := Value.ref 52 },
              { hash := PyData.keyHash P (Str.ofString "_read_char"), key := Value.str (Str.ofString "_read_char") 318,
                val := Value.ref 59 },
              { hash := PyData.keyHash P (Str.ofString "get_token"), key := Value.str (Str.ofString "get_token") 328,
                val := Value.ref 66 },
              { hash := PyData.keyHash P (Str.ofString "push_token"), key := Value.str (Str.ofString "push_token") 336,
                val := Value.ref 73 },
              { hash := PyData.keyHash P (Str.ofString "__static_attributes__"),
                key := Value.str (Str.ofString "__static_attributes__") 341, val := Value.ref 74 },
              { hash := PyData.keyHash P (Str.ofString "__dict__"), key := Value.str (Str.ofString "__dict__") 343,
                val := Value.ref 77 },
              { hash := PyData.keyHash P (Str.ofString "__weakref__"),
                key := Value.str (Str.ofString "__weakref__") 345, val := Value.ref 78 },
              { hash := PyData.keyHash P (Str.ofString "__doc__"), key := Value.str (Str.ofString "__doc__") 346,
                val := Value.none }]
            4 }),
    (76,
      { cls := Value.type "type",
        data :=
          Data.cls
            { name := Str.ofString "_netrclex", bases := [Value.type "object"],
              mro := [Value.ref 76, Value.type "object"], ns := 75, qualname := Str.ofString "_netrclex" },
        slots :=
          #[none, none, some (Value.str (Str.ofString "_netrclex") 291),
            some (Value.str (Str.ofString "_netrclex") 299), some (Value.builtin "object.__new__"),
            some (Value.bool true)] }),
    (77,
      { cls := Value.type "getset_descriptor",
        data :=
          Data.fields
            #[Value.str (Str.ofString "__dict__") 342, Value.ref 76, Value.builtin "function.__dict__",
              Value.builtin "function.__dict__#set"] }),
    (78,
      { cls := Value.type "getset_descriptor",
        data :=
          Data.fields
            #[Value.str (Str.ofString "__weakref__") 344, Value.ref 76, Value.builtin "ExceptionGroup.__weakref__",
              Value.none] }),
    (81, { cls := Value.type "tuple", data := Data.seq #[] }),
    (83,
      { cls := Value.type "tuple",
        data :=
          Data.seq
            #[Value.str (Str.ofString "target") 354, Value.str (Str.ofString "source") 355,
              Value.str (Str.ofString "cc") 356, Value.str (Str.ofString "nc") 357, Value.str (Str.ofString "tt") 358,
              Value.str (Str.ofString "ct") 359, Value.str (Str.ofString "callers") 360,
              Value.str (Str.ofString "t_cc") 361, Value.str (Str.ofString "t_nc") 362,
              Value.str (Str.ofString "t_tt") 363, Value.str (Str.ofString "t_ct") 364,
              Value.str (Str.ofString "t_callers") 365] }),
    (84, { cls := Value.type "tuple", data := Data.seq #[] }),
    (86,
      { cls := Value.type "code",
        data :=
          Data.fields
            #[Value.str (Str.ofString "add_func_stats") 351, Value.str (Str.ofString "add_func_stats") 352,
              Value.str (Str.ofString "/claim/cut.py") 353, Value.int 50 0, Value.int 2 0, Value.int 0 0, Value.int 0 0,
              Value.int 3 0, Value.ref 81, Value.bool true, Value.int 276 0, Value.ref 82, Value.none, Value.ref 83,
              Value.ref 84, Value.ref 85, Value.int 366 0, Value.int 50 0,
              Value.str (Str.ofString "/claim/cut.py") 367] }),
    (87,
      { cls := Value.type "function",
        data :=
          with2 l_5 fun ps bd sc => Data.func
            { name := Str.ofString "add_func_stats", qualname := Str.ofString "add_func_stats",
              params := ps, body := FuncBody.stmts bd, scope := sc,
              globals := 3, closure := [], defaults := Value.none, kwdefaults := Value.none,
              pyModule := Value.str (Str.ofString "cpy313.pstats") 349, code := Value.ref 86 } }),
    (88, { cls := Value.type "tuple", data := Data.seq #[] }),
    (90,
      { cls := Value.type "tuple",
        data :=
          Data.seq
            #[Value.str (Str.ofString "target") 372, Value.str (Str.ofString "source") 373,
              Value.str (Str.ofString "new_callers") 374, Value.str (Str.ofString "func") 375,
              Value.str (Str.ofString "caller") 376] }),
    (91, { cls := Value.type "tuple", data := Data.seq #[] }),
    (93,
      { cls := Value.type "code",
        data :=
          Data.fields
            #[Value.str (Str.ofString "add_callers") 369, Value.str (Str.ofString "add_callers") 370,
              Value.str (Str.ofString "/claim/cut.py") 371, Value.int 54 0, Value.int 2 0, Value.int 0 0, Value.int 0 0,
              Value.int 3 0, Value.ref 88, Value.bool true, Value.int 276 0, Value.ref 89, Value.none, Value.ref 90,
              Value.ref 91, Value.ref 92, Value.int 377 0, Value.int 54 0,
              Value.str (Str.ofString "/claim/cut.py") 378] }),
    (94,
      { cls := Value.type "function",
        data :=
          with2 l_6 fun ps bd sc => Data.func
            { name := Str.ofString "add_callers", qualname := Str.ofString "add_callers",
              params := ps, body := FuncBody.stmts bd, scope := sc,
              globals := 3, closure := [], defaults := Value.none, kwdefaults := Value.none,
              pyModule := Value.str (Str.ofString "cpy313.pstats") 349, code := Value.ref 93 } }),
    (95, { cls := Value.type "tuple", data := Data.seq #[] }),
    (97,
      { cls := Value.type "tuple",
        data :=
          Data.seq
            #[Value.str (Str.ofString "callers") 383, Value.str (Str.ofString "nc") 384,
              Value.str (Str.ofString "calls") 385] }),
    (98, { cls := Value.type "tuple", data := Data.seq #[] }),
    (100,
      { cls := Value.type "code",
        data :=
          Data.fields
            #[Value.str (Str.ofString "count_calls") 380, Value.str (Str.ofString "count_calls") 381,
              Value.str (Str.ofString "/claim/cut.py") 382, Value.int 67 0, Value.int 1 0, Value.int 0 0, Value.int 0 0,
              Value.int 3 0, Value.ref 95, Value.bool true, Value.int 276 0, Value.ref 96, Value.none, Value.ref 97,
              Value.ref 98, Value.ref 99, Value.int 386 0, Value.int 67 0,
              Value.str (Str.ofString "/claim/cut.py") 387] }),
    (101,
      { cls := Value.type "function",
        data :=
          with2 l_7 fun ps bd sc => Data.func
            { name := Str.ofString "count_calls", qualname := Str.ofString "count_calls",
              params := ps, body := FuncBody.stmts bd, scope := sc,
              globals := 3, closure := [], defaults := Value.none, kwdefaults := Value.none,
              pyModule := Value.str (Str.ofString "cpy313.pstats") 349, code := Value.ref 100 } }),
    (105,
      { cls := Value.type "tuple",
        data :=
          Data.seq
            #[Value.int 14 0, Value.int 10 0, Value.int 4 0, Value.int 1 0, Value.int 1 0, Value.int 22 0,
              Value.int 0 0, Value.int 31 0, Value.int 16 0, Value.int 127 0, Value.int 0 0, Value.int 13 0,
              Value.int 7 0, Value.int 22 0, Value.int 0 0, Value.int 31 0, Value.int 16 0, Value.int 127 0,
              Value.int 0 0, Value.int 1 0] }),
    (106,
      { cls := Value.type "re.Pattern",
        data :=
          Data.fields
            #[Value.str (Str.ofString "[\\x00-\\x1F\\x7F]") 392, Value.int 32 415, Value.int 0 0, Value.none,
              Value.none, Value.ref 105, Value.int 0 0] }),
    (110,
      { cls := Value.type "tuple",
        data :=
          Data.seq
            #[Value.int 14 0, Value.int 14 0, Value.int 4 0, Value.int 1 0, Value.int 1 0, Value.int 9 0,
              Value.int 4294966783 0, Value.int 0 0, Value.int 0 0, Value.int 2147483648 0, Value.int 0 0,
              Value.int 0 0, Value.int 0 0, Value.int 0 0, Value.int 0 0, Value.int 13 0, Value.int 11 0, Value.int 9 0,
              Value.int 4294966783 0, Value.int 0 0, Value.int 0 0, Value.int 2147483648 0, Value.int 0 0,
              Value.int 0 0, Value.int 0 0, Value.int 0 0, Value.int 0 0, Value.int 1 0] }),
    (111,
      { cls := Value.type "re.Pattern",
        data :=
          Data.fields
            #[Value.str (Str.ofString "[\\x00-\\x08\\x0A-\\x1F\\x7F]") 418, Value.int 32 449, Value.int 0 0, Value.none,
              Value.none, Value.ref 110, Value.int 0 0] }),
    (119, { cls := Value.type "tuple", data := Data.seq #[Value.none] }),
    (120, { cls := Value.type "tuple", data := Data.seq #[] }),
    (122,
      { cls := Value.type "tuple",
        data :=
          Data.seq
            #[Value.str (Str.ofString "self") 466, Value.str (Str.ofString "headers") 467,
              Value.str (Str.ofString "k") 468, Value.str (Str.ofString "v") 469] }),
    (123, { cls := Value.type "tuple", data := Data.seq #[] }),
    (125,
      { cls := Value.type "code",
        data :=
          Data.fields
            #[Value.str (Str.ofString "__init__") 463, Value.str (Str.ofString "Headers.__init__") 464,
              Value.str (Str.ofString "/claim/cut.py") 465, Value.int 77 0, Value.int 2 0, Value.int 0 0, Value.int 0 0,
              Value.int 3 0, Value.ref 120, Value.bool true, Value.int 276 0, Value.ref 121, Value.none, Value.ref 122,
              Value.ref 123, Value.ref 124, Value.int 470 0, Value.int 77 0,
              Value.str (Str.ofString "/claim/cut.py") 471] }),
    (126,
      { cls := Value.type "function",
        data :=
          with2 l_11_0 fun ps bd sc => Data.func
            { name := Str.ofString "__init__", qualname := Str.ofString "Headers.__init__",
              params := ps, body := FuncBody.stmts bd, scope := sc,
              globals := 3, closure := [], defaults := Value.ref 119, kwdefaults := Value.none,
              pyModule := Value.str (Str.ofString "cpy313.wsgiref.headers") 389, code := Value.ref 125 } }),
    (127, { cls := Value.type "tuple", data := Data.seq #[] }),
    (129,
      { cls := Value.type "tuple",
        data :=
          Data.seq
            #[Value.str (Str.ofString "self") 476, Value.str (Str.ofString "value") 477,
              Value.str (Str.ofString "name") 478, Value.str (Str.ofString "regex") 479] }),
    (130, { cls := Value.type "tuple", data := Data.seq #[] }),
    (132,
      { cls := Value.type "code",
        data :=
          Data.fields
            #[Value.str (Str.ofString "_convert_string_type") 473,
              Value.str (Str.ofString "Headers._convert_string_type") 474, Value.str (Str.ofString "/claim/cut.py") 475,
              Value.int 87 0, Value.int 2 0, Value.int 0 0, Value.int 1 0, Value.int 3 0, Value.ref 127,
              Value.bool true, Value.int 276 0, Value.ref 128, Value.none, Value.ref 129, Value.ref 130, Value.ref 131,
              Value.int 480 0, Value.int 87 0, Value.str (Str.ofString "/claim/cut.py") 481] }),
    (133,
      { cls := Value.type "function",
        data :=
          with2 l_11_1 fun ps bd sc => Data.func
            { name := Str.ofString "_convert_string_type", qualname := Str.ofString "Headers._convert_string_type",
              params := ps, body := FuncBody.stmts bd, scope := sc,
              globals := 3, closure := [], defaults := Value.none, kwdefaults := Value.none,
              pyModule := Value.str (Str.ofString "cpy313.wsgiref.headers") 389, code := Value.ref 132 } }),
    (134, { cls := Value.type "tuple", data := Data.seq #[] }),
    (136, { cls := Value.type "tuple", data := Data.seq #[Value.str (Str.ofString "self") 486] }),
    (137, { cls := Value.type "tuple", data := Data.seq #[] }),
    (139,
      { cls := Value.type "code",
        data :=
          Data.fields
            #[Value.str (Str.ofString "__len__") 483, Value.str (Str.ofString "Headers.__len__") 484,
              Value.str (Str.ofString "/claim/cut.py") 485, Value.int 95 0, Value.int 1 0, Value.int 0 0, Value.int 0 0,
              Value.int 3 0, Value.ref 134, Value.bool true, Value.int 276 0, Value.ref 135, Value.none, Value.ref 136,
              Value.ref 137, Value.ref 138, Value.int 487 0, Value.int 95 0,
              Value.str (Str.ofString "/claim/cut.py") 488] }),
    (140,
      { cls := Value.type "function",
        data :=
          with2 l_11_2 fun ps bd sc => Data.func
            { name := Str.ofString "__len__", qualname := Str.ofString "Headers.__len__",
              params := ps, body := FuncBody.stmts bd, scope := sc,
              globals := 3, closure := [], defaults := Value.none, kwdefaults := Value.none,
              pyModule := Value.str (Str.ofString "cpy313.wsgiref.headers") 389, code := Value.ref 139 } }),
    (141, { cls := Value.type "tuple", data := Data.seq #[] }),
    (143,
      { cls := Value.type "tuple",
        data :=
          Data.seq
            #[Value.str (Str.ofString "self") 493, Value.str (Str.ofString "name") 494,
              Value.str (Str.ofString "val") 495] }),
    (144, { cls := Value.type "tuple", data := Data.seq #[] }),
    (146,
      { cls := Value.type "code",
        data :=
          Data.fields
            #[Value.str (Str.ofString "__setitem__") 490, Value.str (Str.ofString "Headers.__setitem__") 491,
              Value.str (Str.ofString "/claim/cut.py") 492, Value.int 98 0, Value.int 3 0, Value.int 0 0, Value.int 0 0,
              Value.int 3 0, Value.ref 141, Value.bool true, Value.int 276 0, Value.ref 142, Value.none, Value.ref 143,
              Value.ref 144, Value.ref 145, Value.int 496 0, Value.int 98 0,
              Value.str (Str.ofString "/claim/cut.py") 497] }),
    (147,
      { cls := Value.type "function",
        data :=
          with2 l_11_3 fun ps bd sc => Data.func
            { name := Str.ofString "__setitem__", qualname := Str.ofString "Headers.__setitem__",
              params := ps, body := FuncBody.stmts bd, scope := sc,
              globals := 3, closure := [], defaults := Value.none, kwdefaults := Value.none,
              pyModule := Value.str (Str.ofString "cpy313.wsgiref.headers") 389, code := Value.ref 146 } }),
    (148, { cls := Value.type "tuple", data := Data.seq #[] }),
    (151,
      { cls := Value.type "code",
        data :=
          Data.fields
            #[Value.str (Str.ofString "__delitem__") 499, Value.str (Str.ofString "Headers.__delitem__") 500,
              Value.str (Str.ofString "/claim/cut.py") 501, Value.int 102 0, Value.int 2 0, Value.int 0 0,
              Value.int 0 0, Value.int 3 0, Value.ref 148, Value.bool true, Value.int 276 0, Value.ref 149, Value.none,
              Value.none, Value.none, Value.ref 150, Value.int 502 0, Value.int 102 0,
              Value.str (Str.ofString "/claim/cut.py") 503] }),
    (152,
      { cls := Value.type "function",
        data :=
          with2 l_11_4 fun ps bd sc => Data.func
            { name := Str.ofString "__delitem__", qualname := Str.ofString "Headers.__delitem__",
              params := ps, body := FuncBody.stmts bd, scope := sc,
              globals := 3, closure := [], defaults := Value.none, kwdefaults := Value.none,
              pyModule := Value.str (Str.ofString "cpy313.wsgiref.headers") 389, code := Value.ref 151 } }),
    (153, { cls := Value.type "tuple", data := Data.seq #[] }),
    (155,
      { cls := Value.type "tuple",
        data := Data.seq #[Value.str (Str.ofString "self") 508, Value.str (Str.ofString "name") 509] }),
    (156, { cls := Value.type "tuple", data := Data.seq #[] }),
    (158,
      { cls := Value.type "code",
        data :=
          Data.fields
            #[Value.str (Str.ofString "__getitem__") 505, Value.str (Str.ofString "Headers.__getitem__") 506,
              Value.str (Str.ofString "/claim/cut.py") 507, Value.int 106 0, Value.int 2 0, Value.int 0 0,
              Value.int 0 0, Value.int 3 0, Value.ref 153, Value.bool true, Value.int 276 0, Value.ref 154, Value.none,
              Value.ref 155, Value.ref 156, Value.ref 157, Value.int 510 0, Value.int 106 0,
              Value.str (Str.ofString "/claim/cut.py") 511] }),
    (159,
      { cls := Value.type "function",
        data :=
          with2 l_11_5 fun ps bd sc => Data.func
            { name := Str.ofString "__getitem__", qualname := Str.ofString "Headers.__getitem__",
              params := ps, body := FuncBody.stmts bd, scope := sc,
              globals := 3, closure := [], defaults := Value.none, kwdefaults := Value.none,
              pyModule := Value.str (Str.ofString "cpy313.wsgiref.headers") 389, code := Value.ref 158 } }),
    (160, { cls := Value.type "tuple", data := Data.seq #[] }),
    (162,
      { cls := Value.type "tuple",
        data := Data.seq #[Value.str (Str.ofString "self") 516, Value.str (Str.ofString "name") 517] }),
    (163, { cls := Value.type "tuple", data := Data.seq #[] }),
    (165,
      { cls := Value.type "code",
        data :=
          Data.fields
            #[Value.str (Str.ofString "__contains__") 513, Value.str (Str.ofString "Headers.__contains__") 514,
              Value.str (Str.ofString "/claim/cut.py") 515, Value.int 109 0, Value.int 2 0, Value.int 0 0,
              Value.int 0 0, Value.int 3 0, Value.ref 160, Value.bool true, Value.int 276 0, Value.ref 161, Value.none,
              Value.ref 162, Value.ref 163, Value.ref 164, Value.int 518 0, Value.int 109 0,
              Value.str (Str.ofString "/claim/cut.py") 519] }),
    (166,
      { cls := Value.type "function",
        data :=
          with2 l_11_6 fun ps bd sc => Data.func
            { name := Str.ofString "__contains__", qualname := Str.ofString "Headers.__contains__",
              params := ps, body := FuncBody.stmts bd, scope := sc,
              globals := 3, closure := [], defaults := Value.none, kwdefaults := Value.none,
              pyModule := Value.str (Str.ofString "cpy313.wsgiref.headers") 389, code := Value.ref 165 } }),
    (167, { cls := Value.type "tuple", data := Data.seq #[] }),
    (169,
      { cls := Value.type "tuple",
        data := Data.seq #[Value.str (Str.ofString "self") 524, Value.str (Str.ofString "name") 525] }),
    (170, { cls := Value.type "tuple", data := Data.seq #[] }),
    (172,
      { cls := Value.type "code",
        data :=
          Data.fields
            #[Value.str (Str.ofString "get_all") 521, Value.str (Str.ofString "Headers.get_all") 522,
              Value.str (Str.ofString "/claim/cut.py") 523, Value.int 112 0, Value.int 2 0, Value.int 0 0,
              Value.int 0 0, Value.int 3 0, Value.ref 167, Value.bool true, Value.int 276 0, Value.ref 168, Value.none,
              Value.ref 169, Value.ref 170, Value.ref 171, Value.int 526 0, Value.int 112 0,
              Value.str (Str.ofString "/claim/cut.py") 527] }),
    (173,
      { cls := Value.type "function",
        data :=
          with2 l_11_7 fun ps bd sc => Data.func
            { name := Str.ofString "get_all", qualname := Str.ofString "Headers.get_all",
              params := ps, body := FuncBody.stmts bd, scope := sc,
              globals := 3, closure := [], defaults := Value.none, kwdefaults := Value.none,
              pyModule := Value.str (Str.ofString "cpy313.wsgiref.headers") 389, code := Value.ref 172 } }),
    (174, { cls := Value.type "tuple", data := Data.seq #[Value.none] }),
    (175, { cls := Value.type "tuple", data := Data.seq #[] }),
    (177,
      { cls := Value.type "tuple",
        data :=
          Data.seq
            #[Value.str (Str.ofString "self") 532, Value.str (Str.ofString "name") 533,
              Value.str (Str.ofString "default") 534, Value.str (Str.ofString "k") 535,
              Value.str (Str.ofString "v") 536] }),
    (178, { cls := Value.type "tuple", data := Data.seq #[] }),
    (180,
      { cls := Value.type "code",
        data :=
          Data.fields
            #[Value.str (Str.ofString "get") 529, Value.str (Str.ofString "Headers.get") 530,
              Value.str (Str.ofString "/claim/cut.py") 531, Value.int 115 0, Value.int 3 0, Value.int 0 0,
              Value.int 0 0, Value.int 3 0, Value.ref 175, Value.bool true, Value.int 276 0, Value.ref 176, Value.none,
              Value.ref 177, Value.ref 178, Value.ref 179, Value.int 537 0, Value.int 115 0,
              Value.str (Str.ofString "/claim/cut.py") 538] }),
    (181,
      { cls := Value.type "function",
        data :=
          with2 l_11_8 fun ps bd sc => Data.func
            { name := Str.ofString "get", qualname := Str.ofString "Headers.get",
              params := ps, body := FuncBody.stmts bd, scope := sc,
              globals := 3, closure := [], defaults := Value.ref 174, kwdefaults := Value.none,
              pyModule := Value.str (Str.ofString "cpy313.wsgiref.headers") 389, code := Value.ref 180 } }),
    (182, { cls := Value.type "tuple", data := Data.seq #[] }),
    (185,
      { cls := Value.type "code",
        data :=
          Data.fields
            #[Value.str (Str.ofString "keys") 540, Value.str (Str.ofString "Headers.keys") 541,
              Value.str (Str.ofString "/claim/cut.py") 542, Value.int 122 0, Value.int 1 0, Value.int 0 0,
              Value.int 0 0, Value.int 3 0, Value.ref 182, Value.bool true, Value.int 276 0, Value.ref 183, Value.none,
              Value.none, Value.none, Value.ref 184, Value.int 543 0, Value.int 122 0,
              Value.str (Str.ofString "/claim/cut.py") 544] }),
    (186,
      { cls := Value.type "function",
        data :=
          with2 l_11_9 fun ps bd sc => Data.func
            { name := Str.ofString "keys", qualname := Str.ofString "Headers.keys",
              params := ps, body := FuncBody.stmts bd, scope := sc,
              globals := 3, closure := [], defaults := Value.none, kwdefaults := Value.none,
              pyModule := Value.str (Str.ofString "cpy313.wsgiref.headers") 389, code := Value.ref 185 } }),
    (187, { cls := Value.type "tuple", data := Data.seq #[] }),
    (190,
      { cls := Value.type "code",
        data :=
          Data.fields
            #[Value.str (Str.ofString "values") 546, Value.str (Str.ofString "Headers.values") 547,
              Value.str (Str.ofString "/claim/cut.py") 548, Value.int 125 0, Value.int 1 0, Value.int 0 0,
              Value.int 0 0, Value.int 3 0, Value.ref 187, Value.bool true, Value.int 276 0, Value.ref 188, Value.none,
              Value.none, Value.none, Value.ref 189, Value.int 549 0, Value.int 125 0,
              Value.str (Str.ofString "/claim/cut.py") 550] }),
    (191,
      { cls := Value.type "function",
        data :=
          with2 l_11_10 fun ps bd sc => Data.func
            { name := Str.ofString "values", qualname := Str.ofString "Headers.values",
              params := ps, body := FuncBody.stmts bd, scope := sc,
              globals := 3, closure := [], defaults := Value.none, kwdefaults := Value.none,
              pyModule := Value.str (Str.ofString "cpy313.wsgiref.headers") 389, code := Value.ref 190 } }),
    (192, { cls := Value.type "tuple", data := Data.seq #[] }),
    (194, { cls := Value.type "tuple", data := Data.seq #[Value.str (Str.ofString "self") 555] }),
    (195, { cls := Value.type "tuple", data := Data.seq #[] }),
    (197,
      { cls := Value.type "code",
        data :=
          Data.fields
            #[Value.str (Str.ofString "items") 552, Value.str (Str.ofString "Headers.items") 553,
              Value.str (Str.ofString "/claim/cut.py") 554, Value.int 128 0, Value.int 1 0, Value.int 0 0,
              Value.int 0 0, Value.int 3 0, Value.ref 192, Value.bool true, Value.int 276 0, Value.ref 193, Value.none,
              Value.ref 194, Value.ref 195, Value.ref 196, Value.int 556 0, Value.int 128 0,
              Value.str (Str.ofString "/claim/cut.py") 557] }),
    (198,
      { cls := Value.type "function",
        data :=
          with2 l_11_11 fun ps bd sc => Data.func
            { name := Str.ofString "items", qualname := Str.ofString "Headers.items",
              params := ps, body := FuncBody.stmts bd, scope := sc,
              globals := 3, closure := [], defaults := Value.none, kwdefaults := Value.none,
              pyModule := Value.str (Str.ofString "cpy313.wsgiref.headers") 389, code := Value.ref 197 } }),
    (199, { cls := Value.type "tuple", data := Data.seq #[] }),
    (201, { cls := Value.type "tuple", data := Data.seq #[Value.str (Str.ofString "self") 562] }),
    (202, { cls := Value.type "tuple", data := Data.seq #[] }),
    (204,
      { cls := Value.type "code",
        data :=
          Data.fields
            #[Value.str (Str.ofString "__repr__") 559, Value.str (Str.ofString "Headers.__repr__") 560,
              Value.str (Str.ofString "/claim/cut.py") 561, Value.int 131 0, Value.int 1 0, Value.int 0 0,
              Value.int 0 0, Value.int 3 0, Value.ref 199, Value.bool true, Value.int 276 0, Value.ref 200, Value.none,
              Value.ref 201, Value.ref 202, Value.ref 203, Value.int 563 0, Value.int 131 0,
              Value.str (Str.ofString "/claim/cut.py") 564] }),
    (205,
      { cls := Value.type "function",
        data :=
          with2 l_11_12 fun ps bd sc => Data.func
            { name := Str.ofString "__repr__", qualname := Str.ofString "Headers.__repr__",
              params := ps, body := FuncBody.stmts bd, scope := sc,
              globals := 3, closure := [], defaults := Value.none, kwdefaults := Value.none,
              pyModule := Value.str (Str.ofString "cpy313.wsgiref.headers") 389, code := Value.ref 204 } }),
    (206, { cls := Value.type "tuple", data := Data.seq #[] }),
    (209,
      { cls := Value.type "code",
        data :=
          Data.fields
            #[Value.str (Str.ofString "__str__") 566, Value.str (Str.ofString "Headers.__str__") 567,
              Value.str (Str.ofString "/claim/cut.py") 568, Value.int 134 0, Value.int 1 0, Value.int 0 0,
              Value.int 0 0, Value.int 3 0, Value.ref 206, Value.bool true, Value.int 276 0, Value.ref 207, Value.none,
              Value.none, Value.none, Value.ref 208, Value.int 569 0, Value.int 134 0,
              Value.str (Str.ofString "/claim/cut.py") 570] }),
    (210,
      { cls := Value.type "function",
        data :=
          with2 l_11_13 fun ps bd sc => Data.func
            { name := Str.ofString "__str__", qualname := Str.ofString "Headers.__str__",
              params := ps, body := FuncBody.stmts bd, scope := sc,
              globals := 3, closure := [], defaults := Value.none, kwdefaults := Value.none,
              pyModule := Value.str (Str.ofString "cpy313.wsgiref.headers") 389, code := Value.ref 209 } }),
    (211, { cls := Value.type "tuple", data := Data.seq #[] }),
    (213, { cls := Value.type "tuple", data := Data.seq #[Value.str (Str.ofString "self") 575] }),
    (214, { cls := Value.type "tuple", data := Data.seq #[] }),
    (216,
      { cls := Value.type "code",
        data :=
          Data.fields
            #[Value.str (Str.ofString "__bytes__") 572, Value.str (Str.ofString "Headers.__bytes__") 573,
              Value.str (Str.ofString "/claim/cut.py") 574, Value.int 137 0, Value.int 1 0, Value.int 0 0,
              Value.int 0 0, Value.int 3 0, Value.ref 211, Value.bool true, Value.int 276 0, Value.ref 212, Value.none,
              Value.ref 213, Value.ref 214, Value.ref 215, Value.int 576 0, Value.int 137 0,
              Value.str (Str.ofString "/claim/cut.py") 577] }),
    (217,
      { cls := Value.type "function",
        data :=
          with2 l_11_14 fun ps bd sc => Data.func
            { name := Str.ofString "__bytes__", qualname := Str.ofString "Headers.__bytes__",
              params := ps, body := FuncBody.stmts bd, scope := sc,
              globals := 3, closure := [], defaults := Value.none, kwdefaults := Value.none,
              pyModule := Value.str (Str.ofString "cpy313.wsgiref.headers") 389, code := Value.ref 216 } }),
    (218, { cls := Value.type "tuple", data := Data.seq #[] }),
    (220,
      { cls := Value.type "tuple",
        data :=
          Data.seq
            #[Value.str (Str.ofString "self") 582, Value.str (Str.ofString "name") 583,
              Value.str (Str.ofString "value") 584] }),
    (221, { cls := Value.type "tuple", data := Data.seq #[] }),
    (223,
      { cls := Value.type "code",
        data :=
          Data.fields
            #[Value.str (Str.ofString "setdefault") 579, Value.str (Str.ofString "Headers.setdefault") 580,
              Value.str (Str.ofString "/claim/cut.py") 581, Value.int 140 0, Value.int 3 0, Value.int 0 0,
              Value.int 0 0, Value.int 3 0, Value.ref 218, Value.bool true, Value.int 276 0, Value.ref 219, Value.none,
              Value.ref 220, Value.ref 221, Value.ref 222, Value.int 585 0, Value.int 140 0,
              Value.str (Str.ofString "/claim/cut.py") 586] }),
    (224,
      { cls := Value.type "function",
        data :=
          with2 l_11_15 fun ps bd sc => Data.func
            { name := Str.ofString "setdefault", qualname := Str.ofString "Headers.setdefault",
              params := ps, body := FuncBody.stmts bd, scope := sc,
              globals := 3, closure := [], defaults := Value.none, kwdefaults := Value.none,
              pyModule := Value.str (Str.ofString "cpy313.wsgiref.headers") 389, code := Value.ref 223 } }),
    (225, { cls := Value.type "tuple", data := Data.seq #[] }),
    (227,
      { cls := Value.type "tuple",
        data :=
          Data.seq
            #[Value.str (Str.ofString "self") 591, Value.str (Str.ofString "_name") 592,
              Value.str (Str.ofString "_value") 593, Value.str (Str.ofString "_params") 594] }),
    (228, { cls := Value.type "tuple", data := Data.seq #[] }),
    (230,
      { cls := Value.type "code",
        data :=
          Data.fields
            #[Value.str (Str.ofString "add_header") 588, Value.str (Str.ofString "Headers.add_header") 589,
              Value.str (Str.ofString "/claim/cut.py") 590, Value.int 143 0, Value.int 3 0, Value.int 0 0,
              Value.int 0 0, Value.int 11 0, Value.ref 225, Value.bool true, Value.int 276 0, Value.ref 226, Value.none,
              Value.ref 227, Value.ref 228, Value.ref 229, Value.int 595 0, Value.int 143 0,
              Value.str (Str.ofString "/claim/cut.py") 596] }),
    (231,
      { cls := Value.type "function",
        data :=
          with2 l_11_16 fun ps bd sc => Data.func
            { name := Str.ofString "add_header", qualname := Str.ofString "Headers.add_header",
              params := ps, body := FuncBody.stmts bd, scope := sc,
              globals := 3, closure := [], defaults := Value.none, kwdefaults := Value.none,
              pyModule := Value.str (Str.ofString "cpy313.wsgiref.headers") 389, code := Value.ref 230 } }),
    (232, { cls := Value.type "tuple", data := Data.seq #[Value.str (Str.ofString "_headers") 598] }),
    (233,
      { cls := Value.type "dict",
        data :=
          Data.dict
            #[{ hash := PyData.keyHash P (Str.ofString "__module__"), key := Value.str (Str.ofString "__module__") 458,
                val := Value.str (Str.ofString "cpy313.wsgiref.headers") 389 },
              { hash := PyData.keyHash P (Str.ofString "__firstlineno__"),
                key := Value.str (Str.ofString "__firstlineno__") 462, val := Value.int 75 461 },
              { hash := PyData.keyHash P (Str.ofString "__init__"), key := Value.str (Str.ofString "__init__") 472,
                val := Value.ref 126 },
              { hash := PyData.keyHash P (Str.ofString "_convert_string_type"),
                key := Value.str (Str.ofString "_convert_string_type") 482, val := Value.ref 133 },
              { hash := PyData.keyHash P (Str.ofString "__len__"), key := Value.str (Str.ofString "__len__") 489,
                val := Value.ref 140 },
              { hash := PyData.keyHash P (Str.ofString "__setitem__"),
                key := Value.str (Str.ofString "__setitem__") 498, val := Value.ref 147 },
              { hash := PyData.keyHash P (Str.ofString "__delitem__"),
                key := Value.str (Str.ofString "__delitem__") 504, val := Value.ref 152 },
              { hash := PyData.keyHash P (Str.ofString "__getitem__"),
                key := Value.str (Str.ofString "__getitem__") 512, val := Value.ref 159 },
              { hash := PyData.keyHash P (Str.ofString "__contains__"),
                key := Value.str (Str.ofString "__contains__") 520, val := Value.ref 166 },
              { hash := PyData.keyHash P (Str.ofString "get_all"), key := Value.str (Str.ofString "get_all") 528,
                val := Value.ref 173 },
              { hash := PyData.keyHash P (Str.ofString "get"), key := Value.str (Str.ofString "get") 539,
                val := Value.ref 181 },
              { hash := PyData.keyHash P (Str.ofString "keys"), key := Value.str (Str.ofString "keys") 545,
                val := Value.ref 186 },
              { hash := PyData.keyHash P (Str.ofString "values"), key := Value.str (Str.ofString "values") 551,
                val := Value.ref 191 },
              { hash := PyData.keyHash P (Str.ofString "items"), key := Value.str (Str.ofString "items") 558,
                val := Value.ref 198 },
              { hash := PyData.keyHash P (Str.ofString "__repr__"), key := Value.str (Str.ofString "__repr__") 565,
                val := Value.ref 205 },
              { hash := PyData.keyHash P (Str.ofString "__str__"), key := Value.str (Str.ofString "__str__") 571,
                val := Value.ref 210 },
              { hash := PyData.keyHash P (Str.ofString "__bytes__"), key := Value.str (Str.ofString "__bytes__") 578,
                val := Value.ref 217 },
              { hash := PyData.keyHash P (Str.ofString "setdefault"), key := Value.str (Str.ofString "setdefault") 587,
                val := Value.ref 224 },
              { hash := PyData.keyHash P (Str.ofString "add_header"), key := Value.str (Str.ofString "add_header") 597,
                val := Value.ref 231 },
              { hash := PyData.keyHash P (Str.ofString "__static_attributes__"),
                key := Value.str (Str.ofString "__static_attributes__") 599, val := Value.ref 232 },
              { hash := PyData.keyHash P (Str.ofString "__dict__"), key := Value.str (Str.ofString "__dict__") 601,
                val := Value.ref 235 },
              { hash := PyData.keyHash P (Str.ofString "__weakref__"),
                key := Value.str (Str.ofString "__weakref__") 603, val := Value.ref 236 },
              { hash := PyData.keyHash P (Str.ofString "__doc__"), key := Value.str (Str.ofString "__doc__") 604,
                val := Value.none }]
            4 }),
    (234,
      { cls := Value.type "type",
        data :=
          Data.cls
            { name := Str.ofString "Headers", bases := [Value.type "object"],
              mro := [Value.ref 234, Value.type "object"], ns := 233, qualname := Str.ofString "Headers" },
        slots :=
          #[none, none, some (Value.str (Str.ofString "Headers") 451), some (Value.str (Str.ofString "Headers") 459),
            some (Value.builtin "object.__new__"), some (Value.bool true)] }),
    (235,
      { cls := Value.type "getset_descriptor",
        data :=
          Data.fields
            #[Value.str (Str.ofString "__dict__") 600, Value.ref 234, Value.builtin "function.__dict__",
              Value.builtin "function.__dict__#set"] }),
    (236,
      { cls := Value.type "getset_descriptor",
        data :=
          Data.fields
            #[Value.str (Str.ofString "__weakref__") 602, Value.ref 234, Value.builtin "ExceptionGroup.__weakref__",
              Value.none] }),
    (239, { cls := Value.type "tuple", data := Data.seq #[] }),
    (241, { cls := Value.type "tuple", data := Data.seq #[] }),
    (242, { cls := Value.type "tuple", data := Data.seq #[] }),
    (244,
      { cls := Value.type "code",
        data :=
          Data.fields
            #[Value.str (Str.ofString "_law_names") 609, Value.str (Str.ofString "_law_names") 610,
              Value.str (Str.ofString "/claim/cut.py") 611, Value.int 146 0, Value.int 0 0, Value.int 0 0,
              Value.int 0 0, Value.int 3 0, Value.ref 239, Value.bool true, Value.int 276 0, Value.ref 240, Value.none,
              Value.ref 241, Value.ref 242, Value.ref 243, Value.int 612 0, Value.int 146 0,
              Value.str (Str.ofString "/claim/cut.py") 613] }),
    (245,
      { cls := Value.type "function",
        data :=
          with2 l_13 fun ps bd sc => Data.func
            { name := Str.ofString "_law_names", qualname := Str.ofString "_law_names",
              params := ps, body := FuncBody.stmts bd, scope := sc,
              globals := 3, closure := [], defaults := Value.none, kwdefaults := Value.none,
              pyModule := Value.str (Str.ofString "law_pe0233_01") 607, code := Value.ref 244 } }),
    (246, { cls := Value.type "tuple", data := Data.seq #[] }),
    (249,
      { cls := Value.type "code",
        data :=
          Data.fields
            #[Value.str (Str.ofString "_law_numbers") 615, Value.str (Str.ofString "_law_numbers") 616,
              Value.str (Str.ofString "/claim/cut.py") 617, Value.int 148 0, Value.int 1 0, Value.int 0 0,
              Value.int 0 0, Value.int 3 0, Value.ref 246, Value.bool true, Value.int 276 0, Value.ref 247, Value.none,
              Value.none, Value.none, Value.ref 248, Value.int 618 0, Value.int 148 0,
              Value.str (Str.ofString "/claim/cut.py") 619] }),
    (250,
      { cls := Value.type "function",
        data :=
          with2 l_14 fun ps bd sc => Data.func
            { name := Str.ofString "_law_numbers", qualname := Str.ofString "_law_numbers",
              params := ps, body := FuncBody.stmts bd, scope := sc,
              globals := 3, closure := [], defaults := Value.none, kwdefaults := Value.none,
              pyModule := Value.str (Str.ofString "law_pe0233_01") 607, code := Value.ref 249 } }),
    (251, { cls := Value.type "tuple", data := Data.seq #[] }),
    (254,
      { cls := Value.type "code",
        data :=
          Data.fields
            #[Value.str (Str.ofString "_law_words") 621, Value.str (Str.ofString "_law_words") 622,
              Value.str (Str.ofString "/claim/cut.py") 623, Value.int 151 0, Value.int 1 0, Value.int 0 0,
              Value.int 0 0, Value.int 3 0, Value.ref 251, Value.bool true, Value.int 276 0, Value.ref 252, Value.none,
              Value.none, Value.none, Value.ref 253, Value.int 624 0, Value.int 151 0,
              Value.str (Str.ofString "/claim/cut.py") 625] }),
    (255,
      { cls := Value.type "function",
        data :=
          with2 l_15 fun ps bd sc => Data.func
            { name := Str.ofString "_law_words", qualname := Str.ofString "_law_words",
              params := ps, body := FuncBody.stmts bd, scope := sc,
              globals := 3, closure := [], defaults := Value.none, kwdefaults := Value.none,
              pyModule := Value.str (Str.ofString "law_pe0233_01") 607, code := Value.ref 254 } }),
    (256, { cls := Value.type "tuple", data := Data.seq #[] }),
    (259,
      { cls := Value.type "code",
        data :=
          Data.fields
            #[Value.str (Str.ofString "_law_text") 627, Value.str (Str.ofString "_law_text") 628,
              Value.str (Str.ofString "/claim/cut.py") 629, Value.int 157 0, Value.int 2 0, Value.int 0 0,
              Value.int 0 0, Value.int 3 0, Value.ref 256, Value.bool true, Value.int 276 0, Value.ref 257, Value.none,
              Value.none, Value.none, Value.ref 258, Value.int 630 0, Value.int 157 0,
              Value.str (Str.ofString "/claim/cut.py") 631] }),
    (260,
      { cls := Value.type "function",
        data :=
          with2 l_16 fun ps bd sc => Data.func
            { name := Str.ofString "_law_text", qualname := Str.ofString "_law_text",
              params := ps, body := FuncBody.stmts bd, scope := sc,
              globals := 3, closure := [], defaults := Value.none, kwdefaults := Value.none,
              pyModule := Value.str (Str.ofString "law_pe0233_01") 607, code := Value.ref 259 } }),
    (261, { cls := Value.type "tuple", data := Data.seq #[] }),
    (263,
      { cls := Value.type "tuple",
        data := Data.seq #[Value.str (Str.ofString "text") 636, Value.str (Str.ofString "source") 637] }),
    (264, { cls := Value.type "tuple", data := Data.seq #[Value.str (Str.ofString "signs") 638] }),
    (266,
      { cls := Value.type "code",
        data :=
          Data.fields
            #[Value.str (Str.ofString "_law_stream") 633, Value.str (Str.ofString "_law_stream") 634,
              Value.str (Str.ofString "/claim/cut.py") 635, Value.int 166 0, Value.int 1 0, Value.int 0 0,
              Value.int 0 0, Value.int 3 0, Value.ref 261, Value.bool true, Value.int 276 0, Value.ref 262, Value.none,
              Value.ref 263, Value.ref 264, Value.ref 265, Value.int 639 0, Value.int 166 0,
              Value.str (Str.ofString "/claim/cut.py") 640] }),
    (267,
      { cls := Value.type "function",
        data :=
          with2 l_17 fun ps bd sc => Data.func
            { name := Str.ofString "_law_stream", qualname := Str.ofString "_law_stream",
              params := ps, body := FuncBody.stmts bd, scope := sc,
              globals := 3, closure := [], defaults := Value.none, kwdefaults := Value.none,
              pyModule := Value.str (Str.ofString "law_pe0233_01") 607, code := Value.ref 266 } }),
    (268, { cls := Value.type "tuple", data := Data.seq #[] }),
    (271,
      { cls := Value.type "code",
        data :=
          Data.fields
            #[Value.str (Str.ofString "_law_read") 642, Value.str (Str.ofString "_law_read") 643,
              Value.str (Str.ofString "/claim/cut.py") 644, Value.int 171 0, Value.int 1 0, Value.int 0 0,
              Value.int 0 0, Value.int 3 0, Value.ref 268, Value.bool true, Value.int 276 0, Value.ref 269, Value.none,
              Value.none, Value.none, Value.ref 270, Value.int 645 0, Value.int 171 0,
              Value.str (Str.ofString "/claim/cut.py") 646] }),
    (272,
      { cls := Value.type "function",
        data :=
          with2 l_18 fun ps bd sc => Data.func
            { name := Str.ofString "_law_read", qualname := Str.ofString "_law_read",
              params := ps, body := FuncBody.stmts bd, scope := sc,
              globals := 3, closure := [], defaults := Value.none, kwdefaults := Value.none,
              pyModule := Value.str (Str.ofString "law_pe0233_01") 607, code := Value.ref 271 } }),
    (273, { cls := Value.type "tuple", data := Data.seq #[] }),
    (275,
      { cls := Value.type "tuple",
        data :=
          Data.seq
            #[Value.str (Str.ofString "rows") 651, Value.str (Str.ofString "lexers") 652,
              Value.str (Str.ofString "row") 653, Value.str (Str.ofString "lexer") 654,
              Value.str (Str.ofString "word") 655] }),
    (276, { cls := Value.type "tuple", data := Data.seq #[] }),
    (278,
      { cls := Value.type "code",
        data :=
          Data.fields
            #[Value.str (Str.ofString "_law_signposts") 648, Value.str (Str.ofString "_law_signposts") 649,
              Value.str (Str.ofString "/claim/cut.py") 650, Value.int 175 0, Value.int 1 0, Value.int 0 0,
              Value.int 0 0, Value.int 3 0, Value.ref 273, Value.bool true, Value.int 276 0, Value.ref 274, Value.none,
              Value.ref 275, Value.ref 276, Value.ref 277, Value.int 656 0, Value.int 175 0,
              Value.str (Str.ofString "/claim/cut.py") 657] }),
    (279,
      { cls := Value.type "function",
        data :=
          with2 l_19 fun ps bd sc => Data.func
            { name := Str.ofString "_law_signposts", qualname := Str.ofString "_law_signposts",
              params := ps, body := FuncBody.stmts bd, scope := sc,
              globals := 3, closure := [], defaults := Value.none, kwdefaults := Value.none,
              pyModule := Value.str (Str.ofString "law_pe0233_01") 607, code := Value.ref 278 } }),
    (280, { cls := Value.type "tuple", data := Data.seq #[] }),
    (283,
      { cls := Value.type "code",
        data :=
          Data.fields
            #[Value.str (Str.ofString "_law_run") 659, Value.str (Str.ofString "_law_run") 660,
              Value.str (Str.ofString "/claim/cut.py") 661, Value.int 183 0, Value.int 3 0, Value.int 0 0,
              Value.int 0 0, Value.int 3 0, Value.ref 280, Value.bool true, Value.int 276 0, Value.ref 281, Value.none,
              Value.none, Value.none, Value.ref 282, Value.int 662 0, Value.int 183 0,
              Value.str (Str.ofString "/claim/cut.py") 663] }),
    (284,
      { cls := Value.type "function",
        data :=
          with2 l_20 fun ps bd sc => Data.func
            { name := Str.ofString "_law_run", qualname := Str.ofString "_law_run",
              params := ps, body := FuncBody.stmts bd, scope := sc,
              globals := 3, closure := [], defaults := Value.none, kwdefaults := Value.none,
              pyModule := Value.str (Str.ofString "law_pe0233_01") 607, code := Value.ref 283 } }),
    (285, { cls := Value.type "tuple", data := Data.seq #[] }),
    (287,
      { cls := Value.type "tuple",
        data :=
          Data.seq
            #[Value.str (Str.ofString "row") 668, Value.str (Str.ofString "times") 669,
              Value.str (Str.ofString "name") 670] }),
    (288, { cls := Value.type "tuple", data := Data.seq #[] }),
    (290,
      { cls := Value.type "code",
        data :=
          Data.fields
            #[Value.str (Str.ofString "_law_sent") 665, Value.str (Str.ofString "_law_sent") 666,
              Value.str (Str.ofString "/claim/cut.py") 667, Value.int 203 0, Value.int 3 0, Value.int 0 0,
              Value.int 0 0, Value.int 3 0, Value.ref 285, Value.bool true, Value.int 276 0, Value.ref 286, Value.none,
              Value.ref 287, Value.ref 288, Value.ref 289, Value.int 671 0, Value.int 203 0,
              Value.str (Str.ofString "/claim/cut.py") 672] }),
    (291,
      { cls := Value.type "function",
        data :=
          with2 l_21 fun ps bd sc => Data.func
            { name := Str.ofString "_law_sent", qualname := Str.ofString "_law_sent",
              params := ps, body := FuncBody.stmts bd, scope := sc,
              globals := 3, closure := [], defaults := Value.none, kwdefaults := Value.none,
              pyModule := Value.str (Str.ofString "law_pe0233_01") 607, code := Value.ref 290 } }),
    (292, { cls := Value.type "tuple", data := Data.seq #[] }),
    (295,
      { cls := Value.type "code",
        data :=
          Data.fields
            #[Value.str (Str.ofString "_law_leavings") 674, Value.str (Str.ofString "_law_leavings") 675,
              Value.str (Str.ofString "/claim/cut.py") 676, Value.int 205 0, Value.int 2 0, Value.int 0 0,
              Value.int 0 0, Value.int 3 0, Value.ref 292, Value.bool true, Value.int 276 0, Value.ref 293, Value.none,
              Value.none, Value.none, Value.ref 294, Value.int 677 0, Value.int 205 0,
              Value.str (Str.ofString "/claim/cut.py") 678] }),
    (296,
      { cls := Value.type "function",
        data :=
          with2 l_22 fun ps bd sc => Data.func
            { name := Str.ofString "_law_leavings", qualname := Str.ofString "_law_leavings",
              params := ps, body := FuncBody.stmts bd, scope := sc,
              globals := 3, closure := [], defaults := Value.none, kwdefaults := Value.none,
              pyModule := Value.str (Str.ofString "law_pe0233_01") 607, code := Value.ref 295 } }),
    (297, { cls := Value.type "tuple", data := Data.seq #[] }),
    (300,
      { cls := Value.type "code",
        data :=
          Data.fields
            #[Value.str (Str.ofString "_law_arrivals") 680, Value.str (Str.ofString "_law_arrivals") 681,
              Value.str (Str.ofString "/claim/cut.py") 682, Value.int 214 0, Value.int 2 0, Value.int 0 0,
              Value.int 0 0, Value.int 3 0, Value.ref 297, Value.bool true, Value.int 276 0, Value.ref 298, Value.none,
              Value.none, Value.none, Value.ref 299, Value.int 683 0, Value.int 214 0,
              Value.str (Str.ofString "/claim/cut.py") 684] }),
    (301,
      { cls := Value.type "function",
        data :=
          with2 l_23 fun ps bd sc => Data.func
            { name := Str.ofString "_law_arrivals", qualname := Str.ofString "_law_arrivals",
              params := ps, body := FuncBody.stmts bd, scope := sc,
              globals := 3, closure := [], defaults := Value.none, kwdefaults := Value.none,
              pyModule := Value.str (Str.ofString "law_pe0233_01") 607, code := Value.ref 300 } }),
    (302, { cls := Value.type "tuple", data := Data.seq #[] }),
    (305,
      { cls := Value.type "code",
        data :=
          Data.fields
            #[Value.str (Str.ofString "_law_leads_on") 686, Value.str (Str.ofString "_law_leads_on") 687,
              Value.str (Str.ofString "/claim/cut.py") 688, Value.int 225 0, Value.int 1 0, Value.int 0 0,
              Value.int 0 0, Value.int 3 0, Value.ref 302, Value.bool true, Value.int 276 0, Value.ref 303, Value.none,
              Value.none, Value.none, Value.ref 304, Value.int 689 0, Value.int 225 0,
              Value.str (Str.ofString "/claim/cut.py") 690] }),
    (306,
      { cls := Value.type "function",
        data :=
          with2 l_24 fun ps bd sc => Data.func
            { name := Str.ofString "_law_leads_on", qualname := Str.ofString "_law_leads_on",
              params := ps, body := FuncBody.stmts bd, scope := sc,
              globals := 3, closure := [], defaults := Value.none, kwdefaults := Value.none,
              pyModule := Value.str (Str.ofString "law_pe0233_01") 607, code := Value.ref 305 } }),
    (307, { cls := Value.type "tuple", data := Data.seq #[] }),
    (310,
      { cls := Value.type "code",
        data :=
          Data.fields
            #[Value.str (Str.ofString "_law_is_told") 692, Value.str (Str.ofString "_law_is_told") 693,
              Value.str (Str.ofString "/claim/cut.py") 694, Value.int 230 0, Value.int 5 0, Value.int 0 0,
              Value.int 0 0, Value.int 3 0, Value.ref 307, Value.bool true, Value.int 276 0, Value.ref 308, Value.none,
              Value.none, Value.none, Value.ref 309, Value.int 695 0, Value.int 230 0,
              Value.str (Str.ofString "/claim/cut.py") 696] }),
    (311,
      { cls := Value.type "function",
        data :=
          with2 l_25 fun ps bd sc => Data.func
            { name := Str.ofString "_law_is_told", qualname := Str.ofString "_law_is_told",
              params := ps, body := FuncBody.stmts bd, scope := sc,
              globals := 3, closure := [], defaults := Value.none, kwdefaults := Value.none,
              pyModule := Value.str (Str.ofString "law_pe0233_01") 607, code := Value.ref 310 } }),
    (312, { cls := Value.type "tuple", data := Data.seq #[] }),
    (315,
      { cls := Value.type "code",
        data :=
          Data.fields
            #[Value.str (Str.ofString "law") 698, Value.str (Str.ofString "law") 699,
              Value.str (Str.ofString "/claim/cut.py") 700, Value.int 249 0, Value.int 1 0, Value.int 0 0,
              Value.int 0 0, Value.int 3 0, Value.ref 312, Value.bool true, Value.int 276 0, Value.ref 313, Value.none,
              Value.none, Value.none, Value.ref 314, Value.int 701 0, Value.int 249 0,
              Value.str (Str.ofString "/claim/cut.py") 702] }),
    (316,
      { cls := Value.type "function",
        data :=
          with2 l_26 fun ps bd sc => Data.func
            { name := Str.ofString "law", qualname := Str.ofString "law",
              params := ps, body := FuncBody.stmts bd, scope := sc,
              globals := 3, closure := [], defaults := Value.none, kwdefaults := Value.none,
              pyModule := Value.str (Str.ofString "law_pe0233_01") 607, code := Value.ref 315 } })]
noncomputable def heap2 : Params → Frag := lit (show heap2a = _ by dsimp only [heap2a, with2, lit, l_1, l_3_0, l_3_1, l_3_2, l_3_3, l_5, l_6, l_7, l_11_0, l_11_1, l_11_2, l_11_3, l_11_4, l_11_5, l_11_6, l_11_7, l_11_8, l_11_9, l_11_10, l_11_11, l_11_12, l_11_13, l_11_14, l_11_15, l_11_16, l_13, l_14, l_15, l_16, l_17, l_18, l_19, l_20, l_21, l_22, l_23, l_24, l_25, l_26])
noncomputable def keep2 : List Nat := [0, 1, 3, 5, 6, 7, 9, 10, 11, 13, 14, 15, 16, 17, 18, 19, 20, 21, 22, 23, 24, 25, 26]
noncomputable def view2 : Program := { PySem.Challenge.pw_pe0233_01 with main := { PySem.Challenge.pw_pe0233_01.main with body := keep2.filterMap fun i => PySem.Challenge.pw_pe0233_01.main.body[i]? } }
noncomputable def asL : List Addr := [2, 3, 32, 34, 35, 37, 38, 46, 48, 49, 51, 52, 53, 55, 56, 58, 59, 60, 62, 63, 65, 66, 67, 69, 70, 72, 73, 74, 75, 76, 77, 78, 81, 83, 84, 86, 87, 88, 90, 91, 93, 94, 95, 97, 98, 100, 101, 105, 106, 110, 111, 119, 120, 122, 123, 125, 126, 127, 129, 130, 132, 133, 134, 136, 137, 139, 140, 141, 143, 144, 146, 147, 148, 151, 152, 153, 155, 156, 158, 159, 160, 162, 163, 165, 166, 167, 169, 170, 172, 173, 174, 175, 177, 178, 180, 181, 182, 185, 186, 187, 190, 191, 192, 194, 195, 197, 198, 199, 201, 202, 204, 205, 206, 209, 210, 211, 213, 214, 216, 217, 218, 220, 221, 223, 224, 225, 227, 228, 230, 231, 232, 233, 234, 235, 236, 239, 241, 242, 244, 245, 246, 249, 250, 251, 254, 255, 256, 259, 260, 261, 263, 264, 266, 267, 268, 271, 272, 273, 275, 276, 278, 279, 280, 283, 284, 285, 287, 288, 290, 291, 292, 295, 296, 297, 300, 301, 302, 305, 306, 307, 310, 311, 312, 315, 316]
theorem asL_ok : ∀ P, asL = (heap2 P).map (·.1) := fun _ => by kernel_rfl
noncomputable def hook2 : Hook := kmHook heap2 asL asL_ok [262]
noncomputable abbrev loose2 : List Str := [Str.ofString "_name_disallowed_re", Str.ofString "_value_disallowed_re"]
inductive Ex1 {α0 : Type} (p : α0 → Prop) : Prop where
  | mk (a0 : α0) (h : p a0)
inductive Ex2 {α0 α1 : Type} (p : α0 → α1 → Prop) : Prop where
  | mk (a0 : α0) (a1 : α1) (h : p a0 a1)
inductive Ex3 {α0 α1 α2 : Type} (p : α0 → α1 → α2 → Prop) : Prop where
  | mk (a0 : α0) (a1 : α1) (a2 : α2) (h : p a0 a1 a2)
inductive Ex4 {α0 α1 α2 α3 : Type} (p : α0 → α1 → α2 → α3 → Prop) : Prop where
  | mk (a0 : α0) (a1 : α1) (a2 : α2) (a3 : α3) (h : p a0 a1 a2 a3)
inductive Ex12 {α0 α1 α2 α3 α4 α5 α6 α7 α8 α9 α10 α11 : Type} (p : α0 → α1 → α2 → α3 → α4 → α5 → α6 → α7 → α8 → α9 → α10 → α11 → Prop) : Prop where
  | mk (a0 : α0) (a1 : α1) (a2 : α2) (a3 : α3) (a4 : α4) (a5 : α5) (a6 : α6) (a7 : α7) (a8 : α8) (a9 : α9) (a10 : α10) (a11 : α11) (h : p a0 a1 a2 a3 a4 a5 a6 a7 a8 a9 a10 a11)
inductive A3 (p0 p1 p2 : Prop) : Prop where
  | mk (h0 : p0) (h1 : p1) (h2 : p2)
inductive A4 (p0 p1 p2 p3 : Prop) : Prop where
  | mk (h0 : p0) (h1 : p1) (h2 : p2) (h3 : p3)
inductive A5 (p0 p1 p2 p3 p4 : Prop) : Prop where
  | mk (h0 : p0) (h1 : p1) (h2 : p2) (h3 : p3) (h4 : p4)
inductive A6 (p0 p1 p2 p3 p4 p5 : Prop) : Prop where
  | mk (h0 : p0) (h1 : p1) (h2 : p2) (h3 : p3) (h4 : p4) (h5 : p5)
inductive A7 (p0 p1 p2 p3 p4 p5 p6 : Prop) : Prop where
  | mk (h0 : p0) (h1 : p1) (h2 : p2) (h3 : p3) (h4 : p4) (h5 : p5) (h6 : p6)
inductive A8 (p0 p1 p2 p3 p4 p5 p6 p7 : Prop) : Prop where
  | mk (h0 : p0) (h1 : p1) (h2 : p2) (h3 : p3) (h4 : p4) (h5 : p5) (h6 : p6) (h7 : p7)
inductive A9 (p0 p1 p2 p3 p4 p5 p6 p7 p8 : Prop) : Prop where
  | mk (h0 : p0) (h1 : p1) (h2 : p2) (h3 : p3) (h4 : p4) (h5 : p5) (h6 : p6) (h7 : p7) (h8 : p8)
inductive A12 (p0 p1 p2 p3 p4 p5 p6 p7 p8 p9 p10 p11 : Prop) : Prop where
  | mk (h0 : p0) (h1 : p1) (h2 : p2) (h3 : p3) (h4 : p4) (h5 : p5) (h6 : p6) (h7 : p7) (h8 : p8) (h9 : p9) (h10 : p10) (h11 : p11)
noncomputable abbrev Fs := Addr → Option Obj
noncomputable abbrev tupOf (its : Array Value) (n : Nat) : Obj := { cls := .type "tuple", data := .seq its n }
inductive D where
  | none
  | bool (b : Bool)
  | int (i : Int)
  | str (s : Str)
  | val (v : Value)
  | list (xs : List D)
  | tup (xs : List D)
  | dict (es : List (Str × D))
  | obj (C : Addr) (b : Addr)
  | fro (o : Obj)
  | clo (o : Obj) (ps : List (Addr × Obj))
  | bound (f : Addr) (d : D)
  | view (T : String) (d : D)
noncomputable abbrev D.loc (a : Addr) : D := .val (.ref a)
set_option genInjectivity false in
structure Gr where
  prog : Program
  w : World
  hB : Heap
  os : OsState
  d : Drawn
  K : Frag
  KX : K.In hB
  mg : Str → Option Value
  mb : Str → Option Value
  ng : hB.Ns mainGlobals mg
  nb : hB.Ns builtinsNs mb
  nolimit : hB.NoLimit
  builtins : ∀ x : Str, x ≠ "__name__" → mb x = bootBuiltins x
  bmain : ∃ bm o, mg "__builtins__" = some (.ref bm) ∧ bm ≠ builtinsNs ∧ bm ≠ mainGlobals ∧ hB.get? bm = some o ∧ o.cls = .type "module" ∧ o.dict = some builtinsNs ∧ o.data = .plain
noncomputable abbrev Gr.M (G : Gr) : Model := model G.prog G.w
noncomputable abbrev Gr.knd (G : Gr) : KeyKind G.prog G.w Str := strKind G.prog G.w
inductive R (G : Gr) (φ : Fs) : Value → D → Prop where
  | none : R G φ .none .none
  | bool (b : Bool) : R G φ (.bool b) (.bool b)
  | int (i : Int) (t : Tok) : R G φ (.int i t) (.int i)
  | str (s : Str) (t : Tok) : R G φ (.str s t) (.str s)
  | val (v : Value) : R G φ v (.val v)
  | list {a : Addr} {vs : List Value} {n : Nat} {xs : List D} (ho : φ a = some (listOf vs.toArray n)) (hl : vs.length = xs.length)
      (h : ∀ (i : Nat) v d, vs[i]? = some v → xs[i]? = some d → R G φ v d) : R G φ (.ref a) (.list xs)
  | tup {a : Addr} {vs : List Value} {n : Nat} {xs : List D} (ho : φ a = some (tupOf vs.toArray n)) (hl : vs.length = xs.length)
      (h : ∀ (i : Nat) v d, vs[i]? = some v → xs[i]? = some d → R G φ v d) : R G φ (.ref a) (.tup xs)
  | dict {a : Addr} {o : Obj} {kvs : List (Str × Value)} {ds : List (Str × D)} (ho : φ a = some o) (hs : (a == sysModules) = false) (hd : o.IsDictOf G.knd kvs) (hk : kvs.map (·.1) = ds.map (·.1))
      (h : ∀ (i : Nat) e p, kvs[i]? = some e → ds[i]? = some p → R G φ e.2 p.2) : R G φ (.ref a) (.dict ds)
  | obj {a C b : Addr} (ho : φ a = some (instObj C b)) : R G φ (.ref a) (.obj C b)
  | fro {a : Addr} {o : Obj} (ho : φ a = some o) : R G φ (.ref a) (.fro o)
  | clo {a : Addr} {o : Obj} {ps : List (Addr × Obj)} (ho : φ a = some o) (hc : ∀ p ∈ ps, φ p.1 = some p.2) : R G φ (.ref a) (.clo o ps)
  | bound {a f : Addr} {v : Value} {d : D} (ho : φ a = some (methodObj (.ref f) v)) (h : R G φ v d) : R G φ (.ref a) (.bound f d)
  | view {a : Addr} {T : String} {v : Value} {d : D} (ho : φ a = some { cls := .type T, data := .fields #[v] }) (h : R G φ v d) : R G φ (.ref a) (.view T d)
noncomputable def Rs (G : Gr) (φ : Fs) (vs : List Value) (xs : List D) : Prop :=
  vs.length = xs.length ∧ ∀ (i : Nat) v d, vs[i]? = some v → xs[i]? = some d → R G φ v d
noncomputable def Rd (G : Gr) (φ : Fs) (kvs : List (Str × Value)) (ds : List (Str × D)) : Prop := kvs.map (·.1) = ds.map (·.1) ∧ ∀ (i : Nat) e p, kvs[i]? = some e → ds[i]? = some p → R G φ e.2 p.2
noncomputable def Re (G : Gr) (φ : Fs) (es : List DictEntry) (ds : List (Str × D)) : Prop :=
  es.length = ds.length ∧ (∀ (i : Nat) e p, es[i]? = some e → ds[i]? = some p → ∃ t, e.key = .str p.1 t) ∧
    ∀ (i : Nat) e p, es[i]? = some e → ds[i]? = some p → R G φ e.val p.2
noncomputable def Fs.le (φ φ' : Fs) : Prop := ∀ a o, φ a = some o → φ' a = some o
theorem Fs.le.refl (φ : Fs) : φ.le φ := fun _ _ h => h
theorem Fs.le.trans {φ φ' φ'' : Fs} (h : φ.le φ') (h' : φ'.le φ'') : φ.le φ'' := fun a o e => h' a o (h a o e)
section
variable {G : Gr} {φ φ' : Fs} {v : Value} {d : D}
theorem Rs.nil : Rs G φ [] [] := ⟨rfl, fun i v d h => by simp at h⟩
theorem Rs.cons {vs xs} (h : R G φ v d) (hs : Rs G φ vs xs) : Rs G φ (v :: vs) (d :: xs) := by
  refine ⟨by simp [hs.1], fun i v' d' h1 h2 => ?_⟩
  cases i with
  | zero => simp at h1 h2; subst h1 h2; exact h
  | succ i => simp at h1 h2; exact hs.2 i _ _ h1 h2
theorem Rs.cons_iff {vs x xs} : Rs G φ vs (x :: xs) ↔ ∃ v vs', vs = v :: vs' ∧ R G φ v x ∧ Rs G φ vs' xs := by
  constructor
  · intro h
    cases vs with
    | nil => have := h.1; simp at this
    | cons v vs' =>
      refine ⟨v, vs', rfl, h.2 0 _ _ rfl rfl, by have := h.1; simpa using this, fun i v' d' h1 h2 => h.2 (i + 1) _ _ (by simpa using h1) (by simpa using h2)⟩
  · rintro ⟨v, vs', rfl, h1, h2⟩; exact Rs.cons h1 h2
theorem Rs.nil_iff {vs} : Rs G φ vs [] ↔ vs = [] := ⟨fun h => List.eq_nil_of_length_eq_zero h.1, fun h => h ▸ Rs.nil⟩
theorem Rs.append {vs vs' xs xs'} (h : Rs G φ vs xs) (h' : Rs G φ vs' xs') : Rs G φ (vs ++ vs') (xs ++ xs') := by
  induction xs generalizing vs with
  | nil => rw [Rs.nil_iff] at h; subst h; exact h'
  | cons x xs ih =>
    obtain ⟨v, vs2, rfl, h1, h2⟩ := Rs.cons_iff.mp h
    exact Rs.cons h1 (ih h2)
theorem Rs.get {vs xs} (h : Rs G φ vs xs) {i : Nat} {x : D} (hx : xs[i]? = some x) : ∃ v, vs[i]? = some v ∧ R G φ v x := by
  obtain ⟨hi, _⟩ := List.getElem?_eq_some_iff.mp hx
  have hv : i < vs.length := by rw [h.1]; exact hi
  exact ⟨vs[i], by simp [hv], h.2 i _ _ (by simp [hv]) hx⟩
theorem Rs.set {vs xs} (h : Rs G φ vs xs) {n : Nat} (hd : R G φ v d) : Rs G φ (vs.set n v) (xs.set n d) := by
  refine ⟨by simp [h.1], fun i v' d' h1 h2 => ?_⟩
  rw [List.getElem?_set] at h1 h2
  by_cases hi : n = i
  · subst hi
    rw [if_pos rfl] at h1 h2
    split at h1
    · cases h1
      split at h2
      · cases h2; exact hd
      · cases h2
    · cases h1
  · rw [if_neg hi] at h1 h2; exact h.2 i _ _ h1 h2
theorem R.mono (h : R G φ v d) (hφ : φ.le φ') : R G φ' v d := by
  induction h with
  | none => exact .none
  | bool b => exact .bool b
  | int i t => exact .int i t
  | str s t => exact .str s t
  | val v => exact .val v
  | list ho hl _ ih => exact .list (hφ _ _ ho) hl ih
  | tup ho hl _ ih => exact .tup (hφ _ _ ho) hl ih
  | dict ho hs hd hk _ ih => exact .dict (hφ _ _ ho) hs hd hk ih
  | obj ho => exact .obj (hφ _ _ ho)
  | fro ho => exact .fro (hφ _ _ ho)
  | clo ho hc => exact .clo (hφ _ _ ho) fun p hp => hφ _ _ (hc p hp)
  | bound ho _ ih => exact .bound (hφ _ _ ho) ih
  | view ho _ ih => exact .view (hφ _ _ ho) ih
theorem Rs.mono {vs xs} (h : Rs G φ vs xs) (hφ : φ.le φ') : Rs G φ' vs xs := ⟨h.1, fun i v d a b => (h.2 i v d a b).mono hφ⟩
theorem Re.mono {es ds} (h : Re G φ es ds) (hφ : φ.le φ') : Re G φ' es ds := ⟨h.1, h.2.1, fun i v d a b => (h.2.2 i v d a b).mono hφ⟩
noncomputable def RInv (G : Gr) (φ : Fs) (v : Value) : D → Prop
  | .none => v = .none
  | .bool b => v = .bool b
  | .int i => ∃ t, v = .int i t
  | .str s => ∃ t, v = .str s t
  | .val w => v = w
  | .list xs => ∃ a vs n, v = .ref a ∧ φ a = some (listOf vs.toArray n) ∧ Rs G φ vs xs
  | .tup xs => ∃ a vs n, v = .ref a ∧ φ a = some (tupOf vs.toArray n) ∧ Rs G φ vs xs
  | .dict ds => ∃ a o kvs, v = .ref a ∧ φ a = some o ∧ (a == sysModules) = false ∧ o.IsDictOf G.knd kvs ∧ Rd G φ kvs ds
  | .obj C b => ∃ a, v = .ref a ∧ φ a = some (instObj C b)
  | .fro o => ∃ a, v = .ref a ∧ φ a = some o
  | .clo o ps => ∃ a, v = .ref a ∧ φ a = some o ∧ ∀ p ∈ ps, φ p.1 = some p.2
  | .bound f d => ∃ a w, v = .ref a ∧ φ a = some (methodObj (.ref f) w) ∧ R G φ w d
  | .view T d => ∃ a w, v = .ref a ∧ φ a = some { cls := .type T, data := .fields #[w] } ∧ R G φ w d
theorem R.inv {d : D} (r : R G φ v d) : RInv G φ v d :=
  R.casesOn (motive := fun v d _ => RInv G φ v d) r rfl (fun _ => rfl) (fun _ t => ⟨t, rfl⟩) (fun _ t => ⟨t, rfl⟩) (fun _ => rfl) (fun ho hl h => ⟨_, _, _, rfl, ho, hl, h⟩) (fun ho hl h => ⟨_, _, _, rfl, ho, hl, h⟩)
    (fun ho hs hd hk h => ⟨_, _, _, rfl, ho, hs, hd, hk, h⟩) (fun ho => ⟨_, rfl, ho⟩) (fun ho => ⟨_, rfl, ho⟩) (fun ho hc => ⟨_, rfl, ho, hc⟩) (fun ho h => ⟨_, _, rfl, ho, h⟩) (fun ho h => ⟨_, _, rfl, ho, h⟩)
theorem R.list_iff {xs : List D} : R G φ v (.list xs) ↔ ∃ a vs n, v = .ref a ∧ φ a = some (listOf vs.toArray n) ∧ Rs G φ vs xs :=
  ⟨fun h => h.inv, fun ⟨a, vs, n, e, ho, hl, h⟩ => e ▸ .list ho hl h⟩
theorem R.tup_iff {xs : List D} : R G φ v (.tup xs) ↔ ∃ a vs n, v = .ref a ∧ φ a = some (tupOf vs.toArray n) ∧ Rs G φ vs xs :=
  ⟨fun h => h.inv, fun ⟨a, vs, n, e, ho, hl, h⟩ => e ▸ .tup ho hl h⟩
theorem Rd.mono {kvs ds} (h : Rd G φ kvs ds) (hφ : φ.le φ') : Rd G φ' kvs ds := ⟨h.1, fun i v d a b => (h.2 i v d a b).mono hφ⟩
theorem R.dict_iff {ds : List (Str × D)} : R G φ v (.dict ds) ↔ ∃ a o kvs, v = .ref a ∧ φ a = some o ∧ (a == sysModules) = false ∧ o.IsDictOf G.knd kvs ∧ Rd G φ kvs ds :=
  ⟨fun h => h.inv, fun ⟨a, o, kvs, e, ho, hs, hd, hk, h⟩ => e ▸ .dict ho hs hd hk h⟩
theorem R.obj_iff {C b : Addr} : R G φ v (.obj C b) ↔ ∃ a, v = .ref a ∧ φ a = some (instObj C b) :=
  ⟨fun h => h.inv, fun ⟨a, e, ho⟩ => e ▸ .obj ho⟩
theorem R.fro_iff {o : Obj} : R G φ v (.fro o) ↔ ∃ a, v = .ref a ∧ φ a = some o :=
  ⟨fun h => h.inv, fun ⟨a, e, ho⟩ => e ▸ .fro ho⟩
theorem R.clo_iff {o : Obj} {ps : List (Addr × Obj)} : R G φ v (.clo o ps) ↔ ∃ a, v = .ref a ∧ φ a = some o ∧ ∀ p ∈ ps, φ p.1 = some p.2 :=
  ⟨fun h => h.inv, fun ⟨a, e, ho, hc⟩ => e ▸ .clo ho hc⟩
theorem R.bound_iff {f : Addr} {d : D} : R G φ v (.bound f d) ↔ ∃ a w, v = .ref a ∧ φ a = some (methodObj (.ref f) w) ∧ R G φ w d :=
  ⟨fun h => h.inv, fun ⟨a, w, e, ho, h⟩ => e ▸ .bound ho h⟩
theorem R.view_iff {T : String} {d : D} : R G φ v (.view T d) ↔ ∃ a w, v = .ref a ∧ φ a = some { cls := .type T, data := .fields #[w] } ∧ R G φ w d :=
  ⟨fun h => h.inv, fun ⟨a, w, e, ho, h⟩ => e ▸ .view ho h⟩
theorem R.int_iff {i : Int} : R G φ v (.int i) ↔ ∃ t, v = .int i t := ⟨fun h => h.inv, fun ⟨t, e⟩ => e ▸ .int i t⟩
theorem R.str_iff {i : Str} : R G φ v (.str i) ↔ ∃ t, v = .str i t := ⟨fun h => h.inv, fun ⟨t, e⟩ => e ▸ .str i t⟩
theorem R.bool_iff {b : Bool} : R G φ v (.bool b) ↔ v = .bool b := ⟨fun h => h.inv, fun e => e ▸ .bool b⟩
theorem R.none_iff : R G φ v .none ↔ v = .none := ⟨fun h => h.inv, fun e => e ▸ .none⟩
theorem R.val_iff {x : Value} : R G φ v (.val x) ↔ v = x := ⟨fun h => h.inv, fun e => e ▸ .val v⟩
end
set_option genInjectivity false in
inductive Cell where
  | list (xs : List D)
  | dict (es : List (Str × D))
  | attrs (es : List (Str × D))
  | fields (T : String) (ds : List D)
  | tab (ds : List D)
  | raw (o : Obj)
noncomputable abbrev tblObj (vs : List Value) : Obj := { cls := .none, data := .fields vs.toArray }
noncomputable abbrev fldObj (T : String) (vs : List Value) : Obj := { cls := .type T, data := .fields vs.toArray }
noncomputable def CellR (G : Gr) (φ : Fs) (h : Heap) (a : Addr) : Cell → Prop
  | .list xs => ∃ vs n, h.get? a = some (listOf vs.toArray n) ∧ Rs G φ vs xs
  | .dict ds => (a == sysModules) = false ∧ ∃ o kvs, h.get? a = some o ∧ o.IsDictOf G.knd kvs ∧ Rd G φ kvs ds
  | .attrs ds => ∃ es n, h.get? a = some (dictOf es n) ∧ Re G φ es ds
  | .fields T ds => ∃ vs, h.get? a = some (fldObj T vs) ∧ Rs G φ vs ds
  | .tab ds => ∃ vs, h.get? a = some (tblObj vs) ∧ Rs G φ vs ds
  | .raw o => h.get? a = some o
theorem CellR.there {G : Gr} {φ : Fs} {h : Heap} {a : Addr} {c : Cell} (x : CellR G φ h a c) : ∃ o, h.get? a = some o := by
  cases c with
  | list => obtain ⟨_, _, h, _⟩ := x; exact ⟨_, h⟩
  | dict => obtain ⟨_, _, _, h, _⟩ := x; exact ⟨_, h⟩
  | attrs => obtain ⟨_, _, h, _⟩ := x; exact ⟨_, h⟩
  | fields => obtain ⟨_, h, _⟩ := x; exact ⟨_, h⟩
  | tab => obtain ⟨_, h, _⟩ := x; exact ⟨_, h⟩
  | raw o => exact ⟨o, x⟩
theorem CellR.mono {G : Gr} {φ φ' : Fs} {h h' : Heap} {a : Addr} {c : Cell} (x : CellR G φ h a c) (hφ : φ.le φ') (hk : ∀ o, h.get? a = some o → h'.get? a = some o) : CellR G φ' h' a c := by
  cases c with
  | list => obtain ⟨vs, n, h, r⟩ := x; exact ⟨vs, n, hk _ h, r.mono hφ⟩
  | dict => obtain ⟨hs, o, kvs, h, hd, r⟩ := x; exact ⟨hs, o, kvs, hk _ h, hd, r.mono hφ⟩
  | attrs => obtain ⟨vs, n, h, r⟩ := x; exact ⟨vs, n, hk _ h, r.mono hφ⟩
  | fields => obtain ⟨vs, h, r⟩ := x; exact ⟨vs, hk _ h, r.mono hφ⟩
  | tab => obtain ⟨vs, h, r⟩ := x; exact ⟨vs, hk _ h, r.mono hφ⟩
  | raw o => exact hk _ x
noncomputable abbrev Mu := List (Addr × Cell)
structure Inv (G : Gr) (φ : Fs) (μ : Mu) (s : Shared) : Prop where
  base : ∀ b o, G.hB.get? b = some o → φ b = some o
  sub : ∀ a o, φ a = some o → s.heap.get? a = some o
  cells : ∀ p ∈ μ, CellR G φ s.heap p.1 p.2
  off : ∀ p ∈ μ, φ p.1 = none
  nd : (μ.map (·.1)).Nodup
  gens : s.gens = #[]
  os : s.os = G.os
  dr : s.drawn = G.d
theorem Inv.big {G : Gr} {φ : Fs} {μ : Mu} {s : Shared} (I : Inv G φ μ s) : cStatics < s.heap.objs.size := by
  obtain ⟨mc, ⟨o, es, ep, ho, _⟩, _⟩ := G.nolimit
  exact Heap.lt_size (I.sub _ _ (I.base _ _ ho))
theorem Inv.notSys {G : Gr} {φ : Fs} {μ : Mu} {s : Shared} (I : Inv G φ μ s) {a : Addr} (h : s.heap.objs.size ≤ a) : (a == sysModules) = false := by
  have hb : (2 : Nat) < s.heap.objs.size := I.big
  have h1 : (s.heap.objs.size : Nat) ≤ a := h
  have : ¬ (a = (1 : Nat)) := fun e => by rw [e] at h1; lia
  exact beq_eq_false_iff_ne.mpr this
theorem Inv.keep {G : Gr} {φ : Fs} {μ : Mu} {s : Shared} (I : Inv G φ μ s) : ∀ b o, G.hB.get? b = some o → s.heap.get? b = some o := fun b o h => I.sub _ _ (I.base b o h)
structure Step (G : Gr) (X : List Addr) (φ : Fs) (μ : Mu) (s : Shared) (φ' : Fs) (μ' : Mu) (s' : Shared) : Prop where
  inv : Inv G φ' μ' s'
  le : φ.le φ'
  keep : ∀ a o, s.heap.get? a = some o → (∀ p ∈ μ, p.1 ≠ a) → a ∉ X → s'.heap.get? a = some o
  there : ∀ a o, s.heap.get? a = some o → ∃ o', s'.heap.get? a = some o'
  fresh : ∀ p ∈ μ', (∃ q ∈ μ, q.1 = p.1) ∨ s.heap.get? p.1 = none
  fz : ∀ a o, φ' a = some o → φ a = some o ∨ s.heap.get? a = none ∨ (∃ p ∈ μ, p.1 = a) ∨ a ∈ X
section
variable {G : Gr} {X X' : List Addr} {φ φ' φ'' : Fs} {μ μ' μ'' : Mu} {s s' s'' : Shared}
theorem Step.refl (I : Inv G φ μ s) : Step G X φ μ s φ μ s :=
  ⟨I, .refl φ, fun _ _ h _ _ => h, fun _ o h => ⟨o, h⟩, fun p hp => .inl ⟨p, hp, rfl⟩, fun _ _ h => .inl h⟩
theorem Step.trans (a : Step G X φ μ s φ' μ' s') (b : Step G X φ' μ' s' φ'' μ'' s'') : Step G X φ μ s φ'' μ'' s'' := by
  have back : ∀ x, s'.heap.get? x = none → s.heap.get? x = none := fun x e => by
    cases h : s.heap.get? x with
    | none => rfl
    | some o => obtain ⟨o', h'⟩ := a.there _ _ h; rw [e] at h'; cases h'
  refine ⟨b.inv, a.le.trans b.le, fun x o h hn hX => ?_, fun x o h => ?_, fun p hp => ?_, fun x o e => ?_⟩
  · refine b.keep x o (a.keep x o h hn hX) (fun p hp e => ?_) hX
    subst e
    rcases a.fresh p hp with ⟨q, hq, e⟩ | e
    · exact hn q hq e
    · rw [h] at e; cases e
  · obtain ⟨o', h'⟩ := a.there x o h
    exact b.there x o' h'
  · rcases b.fresh p hp with ⟨q, hq, e⟩ | e
    · rw [← e]; exact a.fresh q hq
    · by_cases hm : ∃ q ∈ μ, q.1 = p.1
      · exact .inl hm
      · exact .inr (back _ e)
  · rcases b.fz x o e with h | h | ⟨p, hp, h⟩ | h
    · exact a.fz x o h
    · exact .inr (.inl (back _ h))
    · subst h
      rcases a.fresh p hp with h | h
      · exact .inr (.inr (.inl h))
      · exact .inr (.inl h)
    · exact .inr (.inr (.inr h))
theorem Step.more (a : Step G X φ μ s φ' μ' s') (h : ∀ x ∈ X, x ∈ X') : Step G X' φ μ s φ' μ' s' :=
  ⟨a.inv, a.le, fun x o e hn hX => a.keep x o e hn fun hx => hX (h x hx), a.there, a.fresh, fun x o e => (a.fz x o e).imp_right fun e => e.imp_right fun e => e.imp_right (h x)⟩
theorem Inv.toks (I : Inv G φ μ s) (t : Nat) : Inv G φ μ { s with toks := t } := ⟨I.base, I.sub, I.cells, I.off, I.nd, I.gens, I.os, I.dr⟩
theorem Step.toks (I : Inv G φ μ s) (t : Nat) : Step G X φ μ s φ μ { s with toks := t } :=
  ⟨I.toks t, .refl φ, fun _ _ h _ _ => h, fun _ o h => ⟨o, h⟩, fun p hp => .inl ⟨p, hp, rfl⟩, fun _ _ h => .inl h⟩
theorem Step.grow (I : Inv G φ μ s) {h' : Heap} {t : Nat} (hk : ∀ b o, s.heap.get? b = some o → h'.get? b = some o) : Step G X φ μ s φ μ { s with heap := h', toks := t } :=
  ⟨⟨I.base, fun a o e => hk _ _ (I.sub a o e), fun p hp => (I.cells p hp).mono (.refl _) (hk _), I.off, I.nd, I.gens, I.os, I.dr⟩,
    .refl φ, fun _ _ h _ _ => hk _ _ h, fun _ o h => ⟨o, hk _ _ h⟩, fun p hp => .inl ⟨p, hp, rfl⟩, fun _ _ h => .inl h⟩
noncomputable def Fs.put (φ : Fs) (a : Addr) (o : Obj) : Fs := fun b => if b = a then some o else φ b
theorem Fs.put_self (φ : Fs) (a : Addr) (o : Obj) : φ.put a o a = some o := by simp [Fs.put]
theorem Fs.put_le {φ : Fs} {a : Addr} {o : Obj} (h : φ a = none) : φ.le (φ.put a o) := fun b o' e => by
  unfold Fs.put
  by_cases hb : b = a
  · subst hb; rw [h] at e; cases e
  · rw [if_neg hb]; exact e
theorem Fs.put_or {φ : Fs} {a b : Addr} {o o' : Obj} (h : φ.put a o b = some o') : φ b = some o' ∨ b = a := by
  unfold Fs.put at h
  split at h
  · rename_i e; exact .inr e
  · exact .inl h
theorem Inv.none_of_new (I : Inv G φ μ s) {a : Addr} (h : s.heap.get? a = none) : φ a = none := by
  cases e : φ a with
  | none => rfl
  | some o => rw [I.sub a o e] at h; cases h
theorem Step.frozen (I : Inv G φ μ s) {h' : Heap} {t : Nat} {a : Addr} {o : Obj} (hn : s.heap.get? a = none) (hk : ∀ b o, s.heap.get? b = some o → h'.get? b = some o) (ha : h'.get? a = some o) :
    Step G X φ μ s (φ.put a o) μ { s with heap := h', toks := t } := by
  have hφ : φ a = none := I.none_of_new hn
  have le := Fs.put_le (o := o) hφ
  refine ⟨⟨fun b o' e => le _ _ (I.base b o' e), fun b o' e => ?_, fun p hp => (I.cells p hp).mono le (hk _), fun p hp => ?_, I.nd, I.gens, I.os, I.dr⟩, le, fun _ _ h _ _ => hk _ _ h, fun _ o h => ⟨o, hk _ _ h⟩, fun p hp => .inl ⟨p, hp, rfl⟩, fun b o' e => (Fs.put_or e).imp_right fun (z : b = a) => .inl (by rw [z]; exact hn)⟩
  · unfold Fs.put at e
    split at e
    · rename_i hb; subst hb; cases e; exact ha
    · exact hk _ _ (I.sub b o' e)
  · unfold Fs.put
    have : p.1 ≠ a := fun e => by obtain ⟨o', h⟩ := (I.cells p hp).there; rw [e, hn] at h; cases h
    rw [if_neg this]; exact I.off p hp
theorem Step.cell (I : Inv G φ μ s) {h' : Heap} {t : Nat} {a : Addr} {c : Cell} (hn : s.heap.get? a = none) (hk : ∀ b o, s.heap.get? b = some o → h'.get? b = some o) (ha : CellR G φ h' a c) :
    Step G X φ μ s φ ((a, c) :: μ) { s with heap := h', toks := t } := by
  refine ⟨⟨I.base, fun a o e => hk _ _ (I.sub a o e), fun p hp => ?_, fun p hp => ?_, ?_, I.gens, I.os, I.dr⟩, .refl φ, fun _ _ h _ _ => hk _ _ h, fun _ o h => ⟨o, hk _ _ h⟩, fun p hp => ?_, fun _ _ h => .inl h⟩
  · rcases List.mem_cons.mp hp with rfl | hp
    · exact ha
    · exact (I.cells p hp).mono (.refl _) (hk _)
  · rcases List.mem_cons.mp hp with rfl | hp
    · exact I.none_of_new hn
    · exact I.off p hp
  · rw [List.map_cons, List.nodup_cons]
    refine ⟨fun hm => ?_, I.nd⟩
    obtain ⟨p, hp, e⟩ := List.mem_map.mp hm
    obtain ⟨o', h⟩ := (I.cells p hp).there
    rw [e, hn] at h; cases h
  · rcases List.mem_cons.mp hp with rfl | hp
    · exact .inr hn
    · exact .inl ⟨p, hp, rfl⟩
theorem Inv.sub_mu (I : Inv G φ μ s) (h : ∀ p ∈ μ', p ∈ μ) (hn : (μ'.map (·.1)).Nodup) : Inv G φ μ' s :=
  ⟨I.base, I.sub, fun p hp => I.cells p (h p hp), fun p hp => I.off p (h p hp), hn, I.gens, I.os, I.dr⟩
theorem Step.sub_mu (a : Step G X φ μ s φ' μ' s') (h : ∀ p ∈ μ'', p ∈ μ') (hn : (μ''.map (·.1)).Nodup) : Step G X φ μ s φ' μ'' s' :=
  ⟨a.inv.sub_mu h hn, a.le, a.keep, a.there, fun p hp => a.fresh p (h p hp), a.fz⟩
inductive Upd : Mu → Addr → Cell → Mu → Prop where
  | head {a : Addr} {c c' : Cell} {μ : Mu} : Upd ((a, c) :: μ) a c' ((a, c') :: μ)
  | tail {a : Addr} {c' : Cell} {p : Addr × Cell} {μ μ' : Mu} (h : Upd μ a c' μ') : Upd (p :: μ) a c' (p :: μ')
theorem Upd.keys {a : Addr} {c : Cell} (h : Upd μ a c μ') : μ'.map (·.1) = μ.map (·.1) := by
  induction h with
  | head => rfl
  | tail _ ih => rw [List.map_cons, List.map_cons, ih]
theorem Upd.mem {a : Addr} {c : Cell} (h : Upd μ a c μ') : ∀ p ∈ μ', p = (a, c) ∨ p ∈ μ := by
  induction h with
  | head =>
    intro p hp
    rcases List.mem_cons.mp hp with h | h
    · exact .inl h
    · exact .inr (.tail _ h)
  | tail _ ih =>
    intro p hp
    rcases List.mem_cons.mp hp with h | h
    · exact .inr (h ▸ .head _)
    · exact (ih p h).imp_right (.tail _)
theorem Upd.isIn {a : Addr} {c : Cell} (h : Upd μ a c μ') : a ∈ μ.map (·.1) := by
  induction h with
  | head => exact .head _
  | tail _ ih => exact .tail _ ih
theorem Upd.other {a : Addr} {c : Cell} (h : Upd μ a c μ') (hn : (μ.map (·.1)).Nodup) : ∀ p ∈ μ', p = (a, c) ∨ (p ∈ μ ∧ p.1 ≠ a) := by
  induction h with
  | head =>
    intro p hp
    rcases List.mem_cons.mp hp with h | h
    · exact .inl h
    · rw [List.map_cons, List.nodup_cons] at hn
      exact .inr ⟨.tail _ h, fun e => hn.1 (e ▸ List.mem_map_of_mem (f := (·.1)) h)⟩
  | tail hu ih =>
    intro p hp
    rw [List.map_cons, List.nodup_cons] at hn
    rcases List.mem_cons.mp hp with h | h
    · subst h; exact .inr ⟨.head _, fun e => hn.1 (e ▸ hu.isIn)⟩
    · rcases ih hn.2 p h with h | ⟨h, h'⟩
      · exact .inl h
      · exact .inr ⟨.tail _ h, h'⟩
theorem Step.upd (I : Inv G φ μ s) {h' : Heap} {t : Nat} {a : Addr} {c : Cell} (hu : Upd μ a c μ') (hs : Heap.ExtBut a s.heap h') (ha : CellR G φ h' a c) :
    Step G X φ μ s φ μ' { s with heap := h', toks := t } := by
  have hin := hu.isIn
  obtain ⟨q, hq, hqa⟩ := List.mem_map.mp hin
  have hφ : φ a = none := hqa ▸ I.off q hq
  have ne : ∀ b o, φ b = some o → b ≠ a := fun b o e z => by subst z; rw [hφ] at e; cases e
  refine ⟨⟨I.base, fun b o e => hs b o (ne b o e) (I.sub b o e), fun p hp => ?_, fun p hp => ?_, ?_, I.gens, I.os, I.dr⟩, .refl φ, fun b o h hn _ => ?_, fun b o h => ?_, fun p hp => ?_, fun _ _ h => .inl h⟩
  · rcases hu.other I.nd p hp with rfl | ⟨h, hne⟩
    · exact ha
    · exact (I.cells p h).mono (.refl _) (fun o e => hs _ _ hne e)
  · rcases hu.mem p hp with rfl | h
    · exact hφ
    · exact I.off p h
  · rw [hu.keys]; exact I.nd
  · exact hs b o (fun e => hn q hq (hqa.trans e.symm)) h
  · by_cases e : b = a
    · subst e; exact ha.there
    · exact ⟨o, hs b o e h⟩
  · left
    have : p.1 ∈ μ'.map (·.1) := List.mem_map_of_mem hp
    rw [hu.keys] at this
    obtain ⟨q, hq, e⟩ := List.mem_map.mp this
    exact ⟨q, hq, e⟩
theorem Inv.put (I : Inv G φ ((a, c) :: μ) s) {o : Obj} (ho : s.heap.get? a = some o) : Step G X φ ((a, c) :: μ) s (φ.put a o) μ s := by
  have hφ : φ a = none := I.off _ (.head _)
  have le := Fs.put_le (o := o) hφ
  have nd := I.nd
  rw [List.map_cons, List.nodup_cons] at nd
  refine ⟨⟨fun b o' e => le _ _ (I.base b o' e), fun b o' e => ?_, fun p hp => (I.cells p (.tail _ hp)).mono le (fun _ h => h), fun p hp => ?_, nd.2, I.gens, I.os, I.dr⟩, le, fun _ _ h _ _ => h, fun _ o h => ⟨o, h⟩, fun p hp => .inl ⟨p, .tail _ hp, rfl⟩, fun b o' e => (Fs.put_or e).imp_right fun (z : b = a) => .inr (.inl ⟨(a, c), .head _, z.symm⟩)⟩
  · unfold Fs.put at e
    split at e
    · rename_i hb; subst hb; cases e; exact ho
    · exact I.sub b o' e
  · unfold Fs.put
    have : p.1 ≠ a := fun e => nd.1 (e ▸ List.mem_map_of_mem (f := (·.1)) hp)
    rw [if_neg this]; exact I.off p (.tail _ hp)
theorem Inv.freezeList {a : Addr} {xs : List D} (I : Inv G φ ((a, .list xs) :: μ) s) : ∃ φ', Step G X φ ((a, .list xs) :: μ) s φ' μ s ∧ R G φ' (.ref a) (.list xs) := by
  obtain ⟨vs, n, ho, r⟩ := I.cells _ (.head _)
  have st := I.put (X := X) ho
  exact ⟨_, st, R.list_iff.mpr ⟨a, vs, n, rfl, Fs.put_self .., r.mono st.le⟩⟩
theorem Inv.freezeDict {a : Addr} {ds : List (Str × D)} (I : Inv G φ ((a, .dict ds) :: μ) s) : ∃ φ', Step G X φ ((a, .dict ds) :: μ) s φ' μ s ∧ R G φ' (.ref a) (.dict ds) := by
  obtain ⟨hs, o, kvs, ho, hd, r⟩ := I.cells _ (.head _)
  have st := I.put (X := X) ho
  exact ⟨_, st, R.dict_iff.mpr ⟨a, o, kvs, rfl, Fs.put_self .., hs, hd, r.mono st.le⟩⟩
theorem Inv.perm (I : Inv G φ μ s) (h : μ'.Perm μ) : Inv G φ μ' s := I.sub_mu (fun _ hp => h.mem_iff.mp hp) ((h.map _).nodup_iff.mpr I.nd)
theorem Step.perm (a : Step G X φ μ s φ' μ' s') (h : μ''.Perm μ') : Step G X φ μ s φ' μ'' s' := a.sub_mu (fun _ hp => h.mem_iff.mp hp) ((h.map _).nodup_iff.mpr a.inv.nd)
end
noncomputable abbrev Sg := List (Str × D)
noncomputable abbrev Sc := List (Str × NameKind)
structure EnvOk (sc : Sc) (env : Env) : Prop where
  kind : env.scope.kind = .function
  names : env.scope.names = sc
  globals : env.globals = mainGlobals
  builtins : env.builtins = builtinsNs
theorem EnvOk.kindOf {sc : Sc} {env : Env} (h : EnvOk sc env) (x : Str) : env.kindOf x = sc.lookup x := by unfold Env.kindOf; rw [h.names]
structure EnvR (G : Gr) (φ : Fs) (μ : Mu) (sc : Sc) (σ : Sg) (env : Env) (h : Heap) : Prop where
  ok : EnvOk sc env
  loff : φ env.locals = none
  lmu : ∀ p ∈ μ, p.1 ≠ env.locals
  ns : ∃ m, h.Ns env.locals m ∧ ∀ x d, sc.lookup x = some .local → σ.lookup x = some d → ∃ v, m x = some v ∧ R G φ v d
  cell : ∀ x d, (sc.lookup x = some .cell ∨ sc.lookup x = some .free) → σ.lookup x = some d → ∃ c v, env.cells.lookup x = some c ∧ h.IsCell c (some v) ∧ R G φ v d
  own : ∀ x, sc.lookup x = some .cell → ∃ c v, env.cells.lookup x = some c ∧ h.IsCell c v ∧ φ c = none ∧ c ≠ env.locals
  cmu : ∀ x c, env.cells.lookup x = some c → (∀ p ∈ μ, p.1 ≠ c) ∧ ∃ v, h.IsCell c v
  apart : ∀ x y c, env.cells.lookup x = some c → env.cells.lookup y = some c → x = y
noncomputable def xs (env : Env) : List Addr := env.locals :: env.cells.filterMap fun p => env.cells.lookup p.1
theorem mem_xs {env : Env} {a : Addr} : a ∈ xs env ↔ a = env.locals ∨ ∃ x, env.cells.lookup x = some a := by
  unfold xs
  rw [List.mem_cons, List.mem_filterMap]
  refine or_congr Iff.rfl ⟨fun ⟨p, _, h⟩ => ⟨p.1, h⟩, fun ⟨x, h⟩ => ⟨(x, a), mem_of_lookup h, h⟩⟩
section
variable {G : Gr} {φ φ' : Fs} {μ μ' : Mu} {s s' : Shared} {sc : Sc} {σ : Sg} {env : Env}
theorem EnvR.step (E : EnvR G φ μ sc σ env s.heap) (st : Step G [] φ μ s φ' μ' s') : EnvR G φ' μ' sc σ env s'.heap := by
  have kp : ∀ a o, s.heap.get? a = some o → (∀ p ∈ μ, p.1 ≠ a) → s'.heap.get? a = some o := fun a o h hn => st.keep a o h hn (fun h => nomatch h)
  have off : ∀ a o, s.heap.get? a = some o → (∀ p ∈ μ, p.1 ≠ a) → φ a = none → φ' a = none := fun a o h hn h0 => by
    cases e : φ' a with
    | none => rfl
    | some x =>
      rcases st.fz a x e with h' | h' | ⟨p, hp, h'⟩ | h'
      · rw [h0] at h'; cases h'
      · rw [h] at h'; cases h'
      · exact absurd h' (hn p hp)
      · cases h'
  have mu : ∀ a o, s.heap.get? a = some o → (∀ p ∈ μ, p.1 ≠ a) → ∀ p ∈ μ', p.1 ≠ a := fun a o h hn p hp e => by
    rcases st.fresh p hp with ⟨q, hq, h'⟩ | h'
    · exact hn q hq (h'.trans e)
    · rw [e, h] at h'; cases h'
  have cl : ∀ x c v, env.cells.lookup x = some c → s.heap.IsCell c v → s'.heap.IsCell c v := fun x c v hx hv => by
    obtain ⟨o, ho, hd⟩ := hv
    exact ⟨o, kp _ _ ho (E.cmu x c hx).1, hd⟩
  obtain ⟨m, hm, hr⟩ := E.ns
  obtain ⟨oL, es, ep, hL, h2⟩ := hm
  refine ⟨E.ok, off _ _ hL E.lmu E.loff, mu _ _ hL E.lmu, ⟨m, ⟨oL, es, ep, kp _ _ hL E.lmu, h2⟩, fun x d h1 h2 => ?_⟩, fun x d h1 h2 => ?_, fun x h => ?_, fun x c h => ?_, E.apart⟩
  · obtain ⟨v, hv, r⟩ := hr x d h1 h2; exact ⟨v, hv, r.mono st.le⟩
  · obtain ⟨c, v, hc, hv, r⟩ := E.cell x d h1 h2; exact ⟨c, v, hc, cl _ _ _ hc hv, r.mono st.le⟩
  · obtain ⟨c, v, hc, hv, h1, h2⟩ := E.own x h
    obtain ⟨o, ho, hd⟩ := hv
    exact ⟨c, v, hc, cl _ _ _ hc ⟨o, ho, hd⟩, off _ _ ho (E.cmu x c hc).1 h1, h2⟩
  · obtain ⟨h1, v, hv⟩ := E.cmu x c h
    obtain ⟨o, ho, hd⟩ := hv
    exact ⟨mu _ _ ho h1, v, cl _ _ _ h ⟨o, ho, hd⟩⟩
end
noncomputable def Lv (k : Nat) : Around := { handled := none, depth := 900 - 20 * k, frames := none, guards := none, units := 9000 - 100 * k }
structure ALe (A B : Around) : Prop where
  handled : A.handled = B.handled
  depth : A.depth ≤ B.depth
  frames : B.frames = none
  guards : B.guards = none
  units : A.units ≤ B.units
theorem wpAny_le {α : Type} {M : Model} {A B : Around} {t : Sem α} {Q E s} (h : wpAny M B t Q E s) (l : ALe A B) : wpAny M A t Q E s := fun Γ p hΓ =>
  h Γ p ⟨hΓ.1.trans l.handled, Nat.le_trans hΓ.2.1 l.depth, (fun _ e => by rw [l.frames] at e; cases e), (fun _ e => by rw [l.guards] at e; cases e), Nat.le_trans hΓ.2.2.2.2 l.units⟩
theorem codeAny_le {M : Model} {A B : Around} {c : Code} {R s} (h : codeAny M B c R s) (l : ALe A B) : codeAny M A c R s := fun Γ p hc hΓ =>
  h Γ p hc ⟨hΓ.1.trans l.handled, Nat.le_trans hΓ.2.1 l.depth, (fun _ e => by rw [l.frames] at e; cases e), (fun _ e => by rw [l.guards] at e; cases e), Nat.le_trans hΓ.2.2.2.2 l.units⟩
theorem lv_le {j k : Nat} (h : j ≤ k) : ALe (Lv k) (Lv j) := ⟨rfl, Nat.sub_le_sub_left (Nat.mul_le_mul_left 20 h) 900, rfl, rfl, Nat.sub_le_sub_left (Nat.mul_le_mul_left 100 h) 9000⟩
theorem lv_in1 {k : Nat} (hk : k < 40) : ALe (Lv (k + 1)).in1 (Lv k) := ⟨rfl, by simp only [Lv]; lia, rfl, rfl, by simp only [Lv, Around.in1]; lia⟩
theorem lv_deeper {k : Nat} (hk : k < 40) (env : Env) : ALe ((Lv (k + 1)).deeper env) (Lv k) := ⟨rfl, by simp only [Lv, Around.deeper]; lia, rfl, rfl, by simp only [Lv, Around.deeper]; lia⟩
theorem lv_room (k : Nat) : (Lv k).depth < recursionLimit := by simp only [Lv, recursionLimit]; lia
theorem lv_units (k : Nat) : (Lv k).units < cLine := by simp only [Lv, cLine]; lia
inductive Post (G : Gr) (φ : Fs) (μ : Mu) (s : Shared) (K : D → Mu → Prop) (v : Value) (s' : Shared) : Prop where
  | mk (d : D) (φ' : Fs) (μ' : Mu) (st : Step G [] φ μ s φ' μ' s') (r : R G φ' v d) (k : K d μ')
noncomputable abbrev Nev {α : Type} : α → Shared → Prop := fun _ _ => False
noncomputable def WE (G : Gr) (k : Nat) (sc : Sc) (σ : Sg) (e : Expr) (μ : Mu) (K : D → Mu → Prop) : Prop :=
  ∀ env φ s, Inv G φ μ s → EnvR G φ μ sc σ env s.heap → wpAny G.M (Lv k) (eval e env) (Post G φ μ s K) Nev s
inductive PostT (G : Gr) (φ : Fs) (μ : Mu) (s : Shared) (K : Bool → Mu → Prop) (b : Bool) (s' : Shared) : Prop where
  | mk (φ' : Fs) (μ' : Mu) (st : Step G [] φ μ s φ' μ' s') (k : K b μ')
noncomputable def WT (G : Gr) (k : Nat) (sc : Sc) (σ : Sg) (e : Expr) (μ : Mu) (K : Bool → Mu → Prop) : Prop :=
  ∀ env φ s, Inv G φ μ s → EnvR G φ μ sc σ env s.heap → wpAny G.M (Lv k) (isTrue e env (eval e env)) (PostT G φ μ s K) Nev s
set_option genInjectivity false in
inductive Fl where
  | next
  | brk
  | cont
  | ret (d : D)
noncomputable def FlR (G : Gr) (φ : Fs) : Flow → Fl → Prop
  | .next, .next => True
  | .brk, .brk => True
  | .cont, .cont => True
  | .ret v, .ret d => R G φ v d
  | _, _ => False
inductive FlI (G : Gr) (φ : Fs) : Flow → Fl → Prop where
  | next : FlI G φ .next .next
  | brk : FlI G φ .brk .brk
  | cont : FlI G φ .cont .cont
  | ret {v : Value} {d : D} (r : R G φ v d) : FlI G φ (.ret v) (.ret d)
theorem FlR.i {G : Gr} {φ : Fs} : ∀ {f : Flow} {fl : Fl}, FlR G φ f fl → FlI G φ f fl
  | .next, .next, _ => .next
  | .brk, .brk, _ => .brk
  | .cont, .cont, _ => .cont
  | .ret _, .ret _, r => .ret r
inductive LpI (G : Gr) (sc : Sc) (env : Env) (φ : Fs) (μ : Mu) (s : Shared) (J : Nat → Sg → Mu → Prop) (n : Nat) (s' : Shared) : Prop where
  | mk (σ' : Sg) (φ' : Fs) (μ' : Mu) (j : J n σ' μ') (st : Step G (xs env) φ μ s φ' μ' s') (e : EnvR G φ' μ' sc σ' env s'.heap)
inductive PostB (G : Gr) (sc : Sc) (env : Env) (φ : Fs) (μ : Mu) (s : Shared) (K : Fl → Sg → Mu → Prop) (f : Flow) (s' : Shared) : Prop where
  | mk (fl : Fl) (σ' : Sg) (φ' : Fs) (μ' : Mu) (st : Step G (xs env) φ μ s φ' μ' s') (e : EnvR G φ' μ' sc σ' env s'.heap) (r : FlR G φ' f fl) (k : K fl σ' μ')
noncomputable def WS (G : Gr) (k : Nat) (sc : Sc) (σ : Sg) (st : Stmt) (μ : Mu) (K : Fl → Sg → Mu → Prop) : Prop :=
  ∀ env φ s, Inv G φ μ s → EnvR G φ μ sc σ env s.heap → wpAny G.M (Lv k) (exec st env) (PostB G sc env φ μ s K) Nev s
noncomputable def WB (G : Gr) (k : Nat) (sc : Sc) (σ : Sg) (b : List Stmt) (μ : Mu) (K : Fl → Sg → Mu → Prop) : Prop :=
  ∀ env φ s, Inv G φ μ s → EnvR G φ μ sc σ env s.heap → wpAny G.M (Lv k) (execs b env) (PostB G sc env φ μ s K) Nev s
noncomputable def Rkw (G : Gr) (φ : Fs) (kv : List (Str × Value)) (kd : List (Str × D)) : Prop := kv.map (·.1) = kd.map (·.1) ∧ Rs G φ (kv.map (·.2)) (kd.map (·.2))
noncomputable def PostC (G : Gr) (φ : Fs) (μ : Mu) (s : Shared) (K : D → Mu → Prop) : Result → Shared → Prop :=
  fun r s' => match r with | .ok (.ret v) => Post G φ μ s K v s' | _ => False
noncomputable def WC (G : Gr) (k : Nat) (f : Value) (as : List D) (kd : List (Str × D)) (μ : Mu) (K : D → Mu → Prop) : Prop :=
  ∀ φ s vs kv, Inv G φ μ s → Rs G φ vs as → Rkw G φ kv kd → codeAny G.M (Lv k) (.call f ⟨vs, kv⟩) (PostC G φ μ s K) s
section
variable {G : Gr} {k : Nat} {φ φ' : Fs} {μ μ' : Mu} {s s' : Shared} {sc : Sc} {σ : Sg} {env : Env} {K K' : D → Mu → Prop} {KT : Bool → Mu → Prop} {KB KB' : Fl → Sg → Mu → Prop}
theorem Post.of {v : Value} {d : D} (st : Step G [] φ μ s φ' μ' s') (r : R G φ' v d) (h : K d μ') : Post G φ μ s K v s' := ⟨d, φ', μ', st, r, h⟩
theorem Post.trans {v : Value} {s'' : Shared} (st : Step G [] φ μ s φ' μ' s') (h : Post G φ' μ' s' K v s'') : Post G φ μ s K v s'' := by
  obtain ⟨d, φ2, μ2, st2, r, hK⟩ := h
  exact ⟨d, φ2, μ2, st.trans st2, r, hK⟩
theorem PostT.trans {b : Bool} {s'' : Shared} (st : Step G [] φ μ s φ' μ' s') (h : PostT G φ' μ' s' KT b s'') : PostT G φ μ s KT b s'' := by
  obtain ⟨φ2, μ2, st2, hK⟩ := h
  exact ⟨φ2, μ2, st.trans st2, hK⟩
theorem PostB.trans {f : Flow} {s'' : Shared} (st : Step G (xs env) φ μ s φ' μ' s') (h : PostB G sc env φ' μ' s' KB f s'') : PostB G sc env φ μ s KB f s'' := by
  obtain ⟨fl, σ2, φ2, μ2, st2, e, r, x⟩ := h
  exact ⟨fl, σ2, φ2, μ2, st.trans st2, e, r, x⟩
theorem nev {α : Type} {Q : α → Shared → Prop} : ∀ (e : α) (s : Shared), (Nev e s) → Q e s := fun _ _ h => h.elim
theorem WE.mono {e : Expr} (h : WE G k sc σ e μ K) (hK : ∀ d μ, K d μ → K' d μ) : WE G k sc σ e μ K' := fun env φ s I E =>
  wpAny_mono (h env φ s I E) (fun _ _ ⟨d, φ', μ', st, r, x⟩ => ⟨d, φ', μ', st, r, hK _ _ x⟩) nev
theorem WB.mono {b : List Stmt} (h : WB G k sc σ b μ KB) (hK : ∀ f σ μ, KB f σ μ → KB' f σ μ) : WB G k sc σ b μ KB' := fun env φ s I E =>
  wpAny_mono (h env φ s I E) (fun _ _ ⟨f, σ', φ', μ', st, r, x, y⟩ => ⟨f, σ', φ', μ', st, r, x, hK _ _ _ y⟩) nev
theorem WC.mono {f : Value} {as : List D} {kd} (h : WC G k f as kd μ K) (hK : ∀ d μ, K d μ → K' d μ) : WC G k f as kd μ K' := fun φ s vs kv I r rk =>
  codeAny_mono (h φ s vs kv I r rk) (fun x s' => by
    cases x with
    | error => exact fun h => h
    | ok fl => cases fl <;> first | exact fun h => h | exact fun ⟨d, φ', μ', st, r, x⟩ => ⟨d, φ', μ', st, r, hK _ _ x⟩)
theorem WC.lv {j : Nat} {f : Value} {as : List D} {kd} (h : WC G j f as kd μ K) (hj : j ≤ k) : WC G k f as kd μ K := fun φ s vs kv I r rk => codeAny_le (h φ s vs kv I r rk) (lv_le hj)
theorem WE.int {i : Int} {n p} (h : K (.int i) μ) : WE G k sc σ (.Constant (.int i) n p) μ K := fun _ _ _ I _ =>
  wpAny_Constant_int (Post.of (Step.toks I _) (.int _ _) h)
theorem WE.str {x : Str} {n p} (h : K (.str x) μ) : WE G k sc σ (.Constant (.str x) n p) μ K := fun _ _ _ I _ =>
  Constant_str (Post.of (Step.toks I _) (.str _ _) h)
theorem WE.none {n p} (h : K .none μ) : WE G k sc σ (.Constant .none n p) μ K := fun _ _ _ I _ => wpAny_pure (Post.of (.refl I) .none h)
theorem WE.bool {b n p} (h : K (.bool b) μ) : WE G k sc σ (.Constant (.bool b) n p) μ K := fun _ _ _ I _ => wpAny_pure (Post.of (.refl I) (.bool b) h)
theorem loadName_of {x : Str} {d : D} (I : Inv G φ μ s) (E : EnvR G φ μ sc σ env s.heap) (hx : (sc.lookup x = some .local ∨ sc.lookup x = some .cell ∨ sc.lookup x = some .free)) (hd : σ.lookup x = some d) (hn : (x == ("__classdict__" : Str)) = false)
    {Q : Value → Shared → Prop} (h : ∀ v, R G φ v d → Q v s) {A : Around} {E' : Value → Shared → Prop} : wpAny G.M A (loadName env x) Q E' s := by
  rcases hx with hx | hx | hx
  · obtain ⟨m, hm, hr⟩ := E.ns
    obtain ⟨v, hv, r⟩ := hr x d hx hd
    exact wpAny_loadName_local E.ok.kind ((E.ok.kindOf x).trans hx) hm hv (h v r)
  · obtain ⟨c, v, hc, hv, r⟩ := E.cell x d (.inl hx) hd
    exact wpAny_loadName_cell E.ok.kind ((E.ok.kindOf x).trans hx) hc hv (h v r)
  · obtain ⟨c, v, hc, hv, r⟩ := E.cell x d (.inr hx) hd
    exact wpAny_loadName_free E.ok.kind ((E.ok.kindOf x).trans hx) hc hv (h v r) hn
noncomputable def isLoc (sc : Sc) (x : Str) : Bool := (match sc.lookup x with | some .local => true | some .cell => true | some .free => true | _ => false) && !(x == ("__classdict__" : Str)) && !(x == ("__debug__" : Str))
theorem isLoc_of {x : Str} (h : isLoc sc x = true) : (sc.lookup x = some .local ∨ sc.lookup x = some .cell ∨ sc.lookup x = some .free) ∧ (x == ("__classdict__" : Str)) = false ∧ (x == ("__debug__" : Str)) = false := by
  unfold isLoc at h
  simp only [Bool.and_eq_true, Bool.not_eq_true'] at h
  refine ⟨?_, h.1.2, h.2⟩
  have := h.1.1
  split at this <;> simp_all
theorem WE.name {x : Str} {p : Pos} {d : D} (hx : isLoc sc x = true) (hd : σ.lookup x = some d) (h : K d μ) : WE G k sc σ (.Name x p) μ K := fun _ _ _ I E =>
  wpAny_Name (loadName_of I E (isLoc_of hx).1 hd (isLoc_of hx).2.1 fun _ r => Post.of (.refl I) r h) (isLoc_of hx).2.2
end
noncomputable def WV1 (G : Gr) (k : Nat) (d : D) (μ : Mu) (t : Value → Sem Value) (K : D → Mu → Prop) : Prop :=
  ∀ φ s v, Inv G φ μ s → R G φ v d → wpAny G.M (Lv k) (t v) (Post G φ μ s K) Nev s
noncomputable def WV2 (G : Gr) (k : Nat) (d1 d2 : D) (μ : Mu) (t : Value → Value → Sem Value) (K : D → Mu → Prop) : Prop :=
  ∀ φ s v1 v2, Inv G φ μ s → R G φ v1 d1 → R G φ v2 d2 → wpAny G.M (Lv k) (t v1 v2) (Post G φ μ s K) Nev s
noncomputable def WTr (G : Gr) (k : Nat) (d : D) (μ : Mu) (K : Bool → Mu → Prop) : Prop :=
  ∀ φ s v, Inv G φ μ s → R G φ v d → wpAny G.M (Lv k) (truthy v) (PostT G φ μ s K) Nev s
noncomputable def WCv (G : Gr) (k : Nat) (f : Value) (as : List D) (kd : List (Str × D)) (μ : Mu) (K : D → Mu → Prop) : Prop :=
  ∀ φ s vs kv, Inv G φ μ s → Rs G φ vs as → Rkw G φ kv kd → wpAny G.M (Lv k) (call f vs kv) (Post G φ μ s K) Nev s
noncomputable def WEs (G : Gr) (k : Nat) (sc : Sc) (σ : Sg) : List Expr → Mu → (List D → Mu → Prop) → Prop
  | [], μ, K => K [] μ
  | e :: es, μ, K => WE G k sc σ e μ fun d μ1 => WEs G k sc σ es μ1 fun ds μ2 => K (d :: ds) μ2
noncomputable def WKs (G : Gr) (k : Nat) (sc : Sc) (σ : Sg) : List Keyword → Mu → (List (Str × D) → Mu → Prop) → Prop
  | [], μ, K => K [] μ
  | ⟨some n, e, _⟩ :: es, μ, K => WE G k sc σ e μ fun d μ1 => WKs G k sc σ es μ1 fun ds μ2 => K ((n, d) :: ds) μ2
  | _ :: _, _, _ => False
noncomputable def notStar : Expr → Bool
  | .Starred .. => false
  | _ => true
theorem starEach_cons {e : Expr} (h : notStar e = true) (es : List Expr) (env : Env) : starEach (e :: es) env = (false, eval e env) :: starEach es env := by
  cases e <;> first | rfl | cases h
section
variable {G : Gr} {k : Nat} {φ φ' : Fs} {μ μ' : Mu} {s s' : Shared} {sc : Sc} {σ : Sg} {env : Env} {K K' : D → Mu → Prop} {KT KT' : Bool → Mu → Prop} {KB KB' : Fl → Sg → Mu → Prop}
theorem WC.toV {f : Value} {as : List D} {kd} (h : WC G k f as kd μ K) : WCv G k f as kd μ K := fun φ s vs kv I r rk =>
  wpAny_call (codeAny_mono (h φ s vs kv I r rk) fun x s' y => by
    cases x with
    | error => exact y
    | ok fl => cases fl <;> exact y)
theorem WE.binop {l r : Expr} {op : Operator} {p : Pos} (h : WE G k sc σ l μ fun a μ1 => WE G k sc σ r μ1 fun b μ2 => WV2 G k a b μ2 (binaryOp op) K) : WE G k sc σ (.BinOp l op r p) μ K := fun env φ s I E =>
  wpAny_BinOp (wpAny_mono (h env φ s I E) (fun v s1 ⟨d, φ1, μ1, st, r, hK⟩ => wpAny_mono (hK env φ1 s1 st.inv (E.step st)) (fun v2 s2 ⟨d2, φ2, μ2, st2, r2, hB⟩ =>
    wpAny_mono (hB φ2 s2 v v2 st2.inv (r.mono st2.le) r2) (fun v3 s3 h3 => Post.trans st (Post.trans st2 h3)) nev) nev) nev)
theorem WE.cmp {l r : Expr} {op : CmpOp} {p : Pos} (h : WE G k sc σ l μ fun a μ1 => WE G k sc σ r μ1 fun b μ2 => WV2 G k a b μ2 (compareOp op) K) (hm : behindInMarks op r = false) : WE G k sc σ (.Compare l [op] [r] p) μ K := fun env φ s I E =>
  wpAny_Compare1 (wpAny_mono (h env φ s I E) (fun v s1 ⟨d, φ1, μ1, st, r, hK⟩ => wpAny_mono (hK env φ1 s1 st.inv (E.step st)) (fun v2 s2 ⟨d2, φ2, μ2, st2, r2, hB⟩ =>
    wpAny_mono (hB φ2 s2 v v2 st2.inv (r.mono st2.le) r2) (fun v3 s3 h3 => Post.trans st (Post.trans st2 h3)) nev) nev) nev) hm
theorem WE.unary {x : Expr} {op : UnaryOp} {p : Pos} (h : WE G k sc σ x μ fun a μ1 => WV1 G k a μ1 (unaryOp op) K) : WE G k sc σ (.UnaryOp op x p) μ K := fun env φ s I E =>
  wpAny_UnaryOp (wpAny_mono (h env φ s I E) (fun v s1 ⟨d, φ1, μ1, st, r, hK⟩ => wpAny_mono (hK φ1 s1 v st.inv r) (fun v3 s3 h3 => Post.trans st h3) nev) nev)
theorem WE.ifexp {t a b : Expr} {p : Pos} (h : WT G k sc σ t μ fun c μ1 => if c then WE G k sc σ a μ1 K else WE G k sc σ b μ1 K) : WE G k sc σ (.IfExp t a b p) μ K := fun env φ s I E =>
  wpAny_IfExp (wpAny_mono (h env φ s I E) (fun c s1 ⟨φ1, μ1, st, hK⟩ => by
    cases c with
    | true => exact wpAny_mono (hK env φ1 s1 st.inv (E.step st)) (fun v3 s3 h3 => Post.trans st h3) nev
    | false => exact wpAny_mono (hK env φ1 s1 st.inv (E.step st)) (fun v3 s3 h3 => Post.trans st h3) nev) nev)
theorem WT.of {e : Expr} (h : WE G k sc σ e μ fun a μ1 => WTr G k a μ1 KT) (he : ∀ env w, isTrue e env w = (do let v ← w; standAt e.pos; holding [v] (truthy v)) := by intro _ _; rfl) : WT G k sc σ e μ KT := fun env φ s I E => by
  rw [he]
  exact wpAny_bind (wpAny_mono (h env φ s I E) (fun v s1 ⟨d, φ1, μ1, st, r, hK⟩ => wpAny_bind (wpAny_standAt (wpAny_holding (wpAny_mono (hK φ1 s1 v st.inv r) (fun v3 s3 h3 => PostT.trans st h3) nev)))) nev)
theorem WT.cmp {l r : Expr} {op : CmpOp} {p : Pos} (h : WE G k sc σ l μ fun a μ1 => WE G k sc σ r μ1 fun b μ2 => WV2 G k a b μ2 (compareOp op) fun c μ3 => WTr G k c μ3 KT) (hm : behindInMarks op r = false) : WT G k sc σ (.Compare l [op] [r] p) μ KT := fun env φ s I E =>
  wpAny_isTrue_Compare1 (wpAny_mono (h env φ s I E) (fun v s1 ⟨d, φ1, μ1, st, r, hK⟩ => wpAny_mono (hK env φ1 s1 st.inv (E.step st)) (fun v2 s2 ⟨d2, φ2, μ2, st2, r2, hB⟩ =>
    wpAny_mono (hB φ2 s2 v v2 st2.inv (r.mono st2.le) r2) (fun v3 s3 ⟨d3, φ3, μ3, st3, r3, hT⟩ => wpAny_mono (hT φ3 s3 v3 st3.inv r3) (fun b s4 h4 => PostT.trans st (PostT.trans st2 (PostT.trans st3 h4))) nev) nev) nev) nev) hm
noncomputable def WTs (G : Gr) (k : Nat) (sc : Sc) (σ : Sg) (op : BoolOp) : List Expr → Mu → (Bool → Mu → Prop) → Prop
  | [], μ, K => K (op == .And) μ
  | e :: es, μ, K => WT G k sc σ e μ fun b μ1 => match op, b with
    | .And, false => K false μ1
    | .Or, true => K true μ1
    | _, _ => WTs G k sc σ op es μ1 K
theorem allTrue_of {op : BoolOp} : ∀ {es : List Expr} {μ : Mu} {φ : Fs} {s : Shared}, WTs G k sc σ op es μ KT → Inv G φ μ s → EnvR G φ μ sc σ env s.heap → wpAny G.M (Lv k) (allTrue op es env) (PostT G φ μ s KT) Nev s
  | [], μ, φ, s, h, I, E => wpAny_pure ⟨φ, μ, .refl I, h⟩
  | e :: es, μ, φ, s, h, I, E => by
    show wpAny G.M (Lv k) (do match op, ← isTrue e env (eval e env) with | .And, false => pure false | .Or, true => pure true | _, _ => allTrue op es env) _ _ s
    refine wpAny_bind (wpAny_mono (h env φ s I E) (fun c s1 ⟨φ1, μ1, st, hK⟩ => ?_) nev)
    cases op <;> cases c <;> first
      | exact wpAny_pure ⟨φ1, μ1, st, hK⟩
      | exact wpAny_mono (allTrue_of hK st.inv (E.step st)) (fun b s4 h4 => PostT.trans st h4) nev
theorem WT.bool {op : BoolOp} {es : List Expr} {p : Pos} (h : WTs G k sc σ op es μ KT) : WT G k sc σ (.BoolOp op es p) μ KT := fun env φ s I E => allTrue_of h I E
inductive PostS (G : Gr) (φ : Fs) (μ : Mu) (s : Shared) (K : List D → Mu → Prop) (vs : List Value) (s' : Shared) : Prop where
  | mk (ds : List D) (φ' : Fs) (μ' : Mu) (st : Step G [] φ μ s φ' μ' s') (r : Rs G φ' vs ds) (k : K ds μ')
theorem spliced_of {pos : Pos} : ∀ {es : List Expr} {μ : Mu} {φ : Fs} {s : Shared} {K : List D → Mu → Prop}, es.all notStar = true → WEs G k sc σ es μ K → Inv G φ μ s → EnvR G φ μ sc σ env s.heap → wpAny G.M (Lv k) (spliced (backTo pos (starEach es env))) (PostS G φ μ s K) Nev s
  | [], μ, φ, s, K, _, h, I, E => wpAny_pure ⟨[], φ, μ, .refl I, .nil, h⟩
  | e :: es, μ, φ, s, K, hs, h, I, E => by
    rw [List.all_cons, Bool.and_eq_true] at hs
    rw [starEach_cons hs.1]
    show wpAny _ _ (spliced ((false, eval e env) :: backTo pos (starEach es env))) _ _ _
    refine spliced_cons (wpAny_mono (h env φ s I E) (fun v s1 ⟨d, φ1, μ1, st, r, hK⟩ => ?_) nev)
    exact wpAny_mono (spliced_of hs.2 hK st.inv (E.step st)) (fun vs s2 ⟨ds, φ2, μ2, st2, r2, h2⟩ => ⟨d :: ds, φ2, μ2, st.trans st2, .cons (r.mono st2.le) r2, h2⟩) nev
noncomputable def kwOk (ks : List Keyword) : Bool := ks.all fun q => q.arg.isSome
inductive PostK (G : Gr) (φ : Fs) (μ : Mu) (s : Shared) (ks : List Keyword) (K : List (Str × D) → Mu → Prop) (vs : List Value) (s' : Shared) : Prop where
  | mk (ds : List (Str × D)) (φ' : Fs) (μ' : Mu) (st : Step G [] φ μ s φ' μ' s') (r : Rs G φ' vs (ds.map (·.2))) (e : ds.map (·.1) = ks.filterMap (·.arg)) (k : K ds μ')
theorem evalKw_of {pos : Pos} : ∀ {ks : List Keyword} {μ : Mu} {φ : Fs} {s : Shared} {K : List (Str × D) → Mu → Prop}, WKs G k sc σ ks μ K → Inv G φ μ s → EnvR G φ μ sc σ env s.heap →
    wpAny G.M (Lv k) (evalAll ((backToKw pos (keywordEach ks env)).map (·.2))) (PostK G φ μ s ks K) Nev s
  | [], μ, φ, s, K, h, I, E => wpAny_pure ⟨[], φ, μ, .refl I, .nil, rfl, h⟩
  | ⟨some n, e, p⟩ :: es, μ, φ, s, K, h, I, E => by
    show wpAny _ _ (evalAll ((do let v ← eval e env; standAt pos; pure v) :: (backToKw pos (keywordEach es env)).map (·.2))) _ _ _
    unfold evalAll
    refine wpAny_bind (wpAny_bind (wpAny_mono (h env φ s I E) (fun v s1 ⟨d, φ1, μ1, st, r, hK⟩ => wpAny_bind (wpAny_standAt (wpAny_pure ?_))) nev))
    refine wpAny_bind (wpAny_holding (wpAny_mono (evalKw_of hK st.inv (E.step st)) (fun vs s2 ⟨ds, φ2, μ2, st2, r2, hn, h2⟩ => wpAny_pure ?_) nev))
    exact ⟨(n, d) :: ds, φ2, μ2, st.trans st2, .cons (r.mono st2.le) r2, by simp [hn], h2⟩
  | ⟨none, e, p⟩ :: es, μ, φ, s, K, h, I, E => h.elim
theorem kw_names (pos : Pos) (env : Env) : ∀ ks : List Keyword, (backToKw pos (keywordEach ks env)).filterMap (·.1) = ks.filterMap (·.arg)
  | [] => rfl
  | ⟨a, e, p⟩ :: ks => by
    have ih := kw_names pos env ks
    show List.filterMap (·.1) ((a, (do let v ← eval e env; standAt pos; pure v)) :: backToKw pos (keywordEach ks env)) = _
    cases a with
    | none => simpa using ih
    | some n => simpa using ih
theorem kw_all (pos : Pos) (env : Env) : ∀ ks : List Keyword, (backToKw pos (keywordEach ks env)).all (·.1.isSome) = kwOk ks
  | [] => rfl
  | ⟨a, e, p⟩ :: ks => by
    have ih := kw_all pos env ks
    show List.all ((a, (do let v ← eval e env; standAt pos; pure v)) :: backToKw pos (keywordEach ks env)) (·.1.isSome) = _
    rw [List.all_cons, ih]; rfl
noncomputable def Keeps (G : Gr) (f : Value) : Prop := ∀ h, (∀ b o, G.hB.get? b = some o → h.get? b = some o) → ∃ k, (k = Keeper.frame ∨ k = Keeper.machine ∨ k = Keeper.boundFrame) ∧ Looks G.M h (keeperOf f) k
theorem Keeps.builtin (i : String) : Keeps G (.builtin i) := fun _ _ => ⟨.machine, .inr (.inl rfl), .of_pure rfl⟩
theorem Keeps.type (i : String) : Keeps G (.type i) := fun _ _ => ⟨.machine, .inr (.inl rfl), .of_pure rfl⟩
theorem Keeps.fn {f : Addr} {o : Obj} {fd : FuncData} (ho : G.hB.get? f = some o) (hd : o.data = .func fd) : Keeps G (.ref f) := fun h hk => by
  refine ⟨.frame, .inl rfl, (Looks.ld (part := none) (hk _ _ ho)).andThen ?_⟩
  rw [hd]; exact .now
noncomputable def KeepsAt (G : Gr) (φ : Fs) (f : Value) : Prop := ∀ h, (∀ b o, φ b = some o → h.get? b = some o) → ∃ k, (k = Keeper.frame ∨ k = Keeper.machine ∨ k = Keeper.boundFrame) ∧ Looks G.M h (keeperOf f) k
theorem Keeps.at {f : Value} (hf : Keeps G f) (I : Inv G φ μ s) : KeepsAt G φ f := fun h hh => hf h fun b o e => hh b o (I.base b o e)
theorem KeepsAt.fn {f : Addr} {o : Obj} {fd : FuncData} (ho : φ f = some o) (hd : o.data = .func fd) : KeepsAt G φ (.ref f) := fun h hk => by
  refine ⟨.frame, .inl rfl, (Looks.ld (part := none) (hk _ _ ho)).andThen ?_⟩
  rw [hd]; exact .now
theorem backTo_plain {pos : Pos} {es : List Expr} (hs : es.all notStar = true) : (backTo pos (starEach es env)).any (·.1) = false := by
  induction es with
  | nil => rfl
  | cons e es ih =>
    rw [List.all_cons, Bool.and_eq_true] at hs
    rw [starEach_cons hs.1]
    show (false || (backTo pos (starEach es env)).any (·.1)) = false
    rw [ih hs.2]; rfl
theorem kw_plain {pos : Pos} {ks : List Keyword} (hs : kwOk ks = true) : (backToKw pos (keywordEach ks env)).any (·.1.isNone) = false := by
  have := kw_all pos env ks
  rw [hs] at this
  rw [List.any_eq_false]
  intro x hx
  have := List.all_eq_true.mp this x hx
  simp only [Option.isNone_iff_eq_none]
  intro e; rw [e] at this; cases this
theorem evalArgs_of {f : Value} {pos : Pos} {es : List Expr} {ks : List Keyword} {K : List D → List (Str × D) → Mu → Prop} (hs : es.all notStar = true) (hk : kwOk ks = true) (h : WEs G k sc σ es μ fun ds μ1 => WKs G k sc σ ks μ1 fun kd μ2 => K ds kd μ2)
    (I : Inv G φ μ s) (E : EnvR G φ μ sc σ env s.heap) {Q : Args → Shared → Prop}
    (hQ : ∀ vs kv ds kd φ' μ' s', Step G [] φ μ s φ' μ' s' → Rs G φ' vs ds → Rkw G φ' kv kd → K ds kd μ' → Q ⟨vs, kv⟩ s') :
    wpAny G.M (Lv k) (evalArgs f true (backTo pos (starEach es env)) (backToKw pos (keywordEach ks env))) Q Nev s := by
  have key : wpAny G.M (Lv k) (spliced (backTo pos (starEach es env))) (fun vs s₁ => wpAny G.M (Lv k) (evalAll ((backToKw pos (keywordEach ks env)).map (·.2))) (fun kvs s₂ => Q ⟨vs, ((backToKw pos (keywordEach ks env)).filterMap (·.1)).zip kvs⟩ s₂) Nev s₁) Nev s := by
    refine wpAny_mono (spliced_of hs h I E) (fun vs s1 ⟨ds, φ1, μ1, st, r, hK⟩ => ?_) nev
    refine wpAny_mono (evalKw_of hK st.inv (E.step st)) (fun kvs s2 ⟨kd, φ2, μ2, st2, r2, hn, hK2⟩ => ?_) nev
    have hl : kvs.length = (ks.filterMap (·.arg)).length := by rw [← hn, r2.1]; simp
    refine hQ vs _ ds kd φ2 μ2 s2 (st.trans st2) (r.mono st2.le) ⟨?_, ?_⟩ hK2
    · rw [kw_names, hn, List.map_fst_zip (by lia)]
    · rw [kw_names, List.map_snd_zip (by lia)]; exact r2
  cases es with
  | nil =>
    refine evalArgs_kw_nil (by rw [kw_all]; exact hk) ?_
    exact fun Γ p hΓ => key Γ p hΓ Γ p hΓ
  | cons e es =>
    rw [List.all_cons, Bool.and_eq_true] at hs
    rw [starEach_cons hs.1] at key ⊢
    exact evalArgs_kw (by rw [kw_all]; exact hk) key
theorem callWith_of' {f : Value} {first : List Value} {fd : List D} {pos : Pos} {es : List Expr} {ks : List Keyword} (hs : es.all notStar = true) (hk : kwOk ks = true) (hf : KeepsAt G φ f)
    (h : WEs G k sc σ es μ fun ds μ1 => WKs G k sc σ ks μ1 fun kd μ2 => WCv G k f (fd ++ ds) kd μ2 K) (hr : Rs G φ first fd)
    (I : Inv G φ μ s) (E : EnvR G φ μ sc σ env s.heap) : wpAny G.M (Lv k) (callWith pos f first (backTo pos (starEach es env)) (backToKw pos (keywordEach ks env))) (Post G φ μ s K) Nev s := by
  refine callWith_of (P := fun h => ∀ b o, φ b = some o → h.get? b = some o) (by rw [backTo_plain hs, kw_plain hk]; rfl) (fun h hh => hf h hh) ?_
  refine evalArgs_of hs hk h I E fun vs kv ds kd φ' μ' s' st r rk hK => ⟨fun b o e => st.inv.sub b o (st.le b o e), ?_⟩
  exact wpAny_mono (hK φ' s' _ _ st.inv ((hr.mono st.le).append r) rk) (fun v s2 h2 => Post.trans st h2) nev
noncomputable def funcNot : Expr → Bool
  | .Attribute .. => false
  | _ => true
theorem WE.call {func : Expr} {es : List Expr} {ks : List Keyword} {p : Pos} (h : WE G k sc σ func μ fun d μ0 => ∃ f, d = .val f ∧ Keeps G f ∧ WEs G k sc σ es μ0 fun ds μ1 => WKs G k sc σ ks μ1 fun kd μ2 => WCv G k f ds kd μ2 K)
    (hs : es.all notStar = true) (hk : kwOk ks = true) (hn : funcNot func = true) : WE G k sc σ (.Call func es ks p) μ K := fun env φ s I E => by
  have he : eval (.Call func es ks p) env = (do callWith p (← eval func env) [] (backTo p (starEach es env)) (backToKw p (keywordEach ks env))) := by
    cases func <;> first | rfl | cases hn
  rw [he]
  refine wpAny_bind (wpAny_mono (h env φ s I E) (fun v s1 ⟨d, φ1, μ1, st, r, f, hd, hf, hK⟩ => ?_) nev)
  subst hd
  rw [R.val_iff] at r; subst r
  exact wpAny_mono (callWith_of' (fd := []) hs hk (hf.at st.inv) hK .nil st.inv (E.step st)) (fun v s2 h2 => Post.trans st h2) nev
inductive PostM (G : Gr) (φ : Fs) (μ : Mu) (s : Shared) (K : Value → List D → Mu → Prop) (fx : Value × List Value) (s' : Shared) : Prop where
  | mk (fd : List D) (φ' : Fs) (μ' : Mu) (st : Step G [] φ μ s φ' μ' s') (r : Rs G φ' fx.2 fd) (e : KeepsAt G φ' fx.1) (k : K fx.1 fd μ')
noncomputable def WM (G : Gr) (k : Nat) (d : D) (name : Str) (μ : Mu) (K : Value → List D → Mu → Prop) : Prop :=
  ∀ φ s v pl, Inv G φ μ s → R G φ v d → wpAny G.M (Lv k) (getMethod v name pl) (PostM G φ μ s K) Nev s
theorem WE.meth {o : Expr} {name : Str} {es : List Expr} {ks : List Keyword} {ap p : Pos} (h : WE G k sc σ o μ fun d μ0 => WM G k d name μ0 fun f fd μ1 => WEs G k sc σ es μ1 fun ds μ2 => WKs G k sc σ ks μ2 fun kd μ3 => WCv G k f (fd ++ ds) kd μ3 K)
    (hb : ∀ env, attributeBase o name env (eval o env) = eval o env)
    (hs : es.all notStar = true) (hk : kwOk ks = true) (hl : (ap.endLine == p.line) = true) (hn : (es.length + ks.length + (if ks.isEmpty then 0 else 1) < 30)) : WE G k sc σ (.Call (.Attribute o name ap) es ks p) μ K := fun env φ s I E => by
  show wpAny G.M (Lv k) (do
    let ov ← attributeBase o name env (eval o env)
    standAt ap.atName
    methodCall o name ap p env ov (es.length + ks.length) (backTo p (starEach es env)) (backToKw p (keywordEach ks env))) _ _ s
  rw [hb]
  refine wpAny_bind (wpAny_mono (h env φ s I E) (fun v s1 ⟨d, φ1, μ1, st, r, hK⟩ => wpAny_bind (wpAny_standAt ?_)) nev)
  have few : methodCallForm (es.length + ks.length) (backTo p (starEach es env)) (backToKw p (keywordEach ks env)) = true := by
    unfold methodCallForm
    have e1 : (backTo p (starEach es env)).all (!·.1) = true := by
      have := backTo_plain (env := env) (pos := p) hs
      rw [List.any_eq_false] at this
      rw [List.all_eq_true]
      intro x hx
      have := this x hx
      cases h : x.1 <;> simp_all
    have e2 : (backToKw p (keywordEach ks env)).isEmpty = ks.isEmpty := by
      cases ks with
      | nil => rfl
      | cons a b => obtain ⟨x, y, z⟩ := a; rfl
    rw [e1, kw_all, hk, e2]
    simpa using hn
  unfold methodCall
  simp only [few]
  refine wpAny_bind (wpAny_holding ?_)
  simp only [calleeOf, methodCallPos, if_true, hl, Bool.or_true]
  refine wpAny_mono (hK φ1 s1 v _ st.inv r) (fun fx s2 ⟨fd, φ2, μ2, st2, r2, hf, h2⟩ => ?_) nev
  obtain ⟨f, first⟩ := fx
  refine wpAny_bind (wpAny_pure ?_)
  exact wpAny_mono (callWith_of' hs hk hf h2 r2 st2.inv ((E.step st).step st2)) (fun v s3 h3 => Post.trans st (Post.trans st2 h3)) nev
end
section
variable {G : Gr} {k : Nat} {φ φ' : Fs} {μ μ' : Mu} {s s' : Shared} {sc : Sc} {σ : Sg} {env : Env} {K K' : D → Mu → Prop} {KT KT' : Bool → Mu → Prop} {KB KB' : Fl → Sg → Mu → Prop}
variable {a b : Int} {x y : Str}
theorem V.add (h : K (.int (a + b)) μ) : WV2 G k (.int a) (.int b) μ (binaryOp .Add) K := fun φ s v1 v2 I r1 r2 => by
  obtain ⟨t, rfl⟩ := R.int_iff.mp r1; obtain ⟨u, rfl⟩ := R.int_iff.mp r2
  exact PyProof.Rows.add_int (Post.of (Step.toks I _) (.int _ _) h)
theorem V.sub (h : K (.int (a - b)) μ) : WV2 G k (.int a) (.int b) μ (binaryOp .Sub) K := fun φ s v1 v2 I r1 r2 => by
  obtain ⟨t, rfl⟩ := R.int_iff.mp r1; obtain ⟨u, rfl⟩ := R.int_iff.mp r2
  exact PyProof.Rows.sub_int (Post.of (Step.toks I _) (.int _ _) h)
theorem V.mul (h : K (.int (a * b)) μ) (ha : -(2 ^ 64) < a ∧ a < 2 ^ 64) : WV2 G k (.int a) (.int b) μ (binaryOp .Mult) K := fun φ s v1 v2 I r1 r2 => by
  obtain ⟨t, rfl⟩ := R.int_iff.mp r1; obtain ⟨u, rfl⟩ := R.int_iff.mp r2
  exact PyProof.Rows.mul_int (Post.of (Step.toks I _) (.int _ _) h) (.of_left (intBits_le_64 ha.1 ha.2))
theorem V.div (h : K (.int (a.fdiv b)) μ) (hb : 0 < b ∧ b < 1073741824) : WV2 G k (.int a) (.int b) μ (binaryOp .FloorDiv) K := fun φ s v1 v2 I r1 r2 => by
  obtain ⟨t, rfl⟩ := R.int_iff.mp r1; obtain ⟨u, rfl⟩ := R.int_iff.mp r2
  exact floordiv_int (by lia) (Post.of (Step.toks I _) (.int _ _) h) (.inl (noPylong_small (by lia)))
theorem V.mod (h : K (.int (a.fmod b)) μ) (hb : b ≠ 0) : WV2 G k (.int a) (.int b) μ (binaryOp .Mod) K := fun φ s v1 v2 I r1 r2 => by
  obtain ⟨t, rfl⟩ := R.int_iff.mp r1; obtain ⟨u, rfl⟩ := R.int_iff.mp r2
  exact mod_int' hb (Post.of (Step.toks I _) (.int _ _) h)
theorem V.neg (h : K (.int (-a)) μ) : WV1 G k (.int a) μ (unaryOp .USub) K := fun φ s v1 I r1 => by
  obtain ⟨t, rfl⟩ := R.int_iff.mp r1
  exact PyProof.Rows.neg_int (Post.of (Step.toks I _) (.int _ _) h)
theorem V.eqI (h : K (.bool (a == b)) μ) : WV2 G k (.int a) (.int b) μ (compareOp .Eq) K := fun φ s v1 v2 I r1 r2 => by
  obtain ⟨t, rfl⟩ := R.int_iff.mp r1; obtain ⟨u, rfl⟩ := R.int_iff.mp r2
  exact PyProof.Rows.eq_int (Post.of (.refl I) (.bool _) h)
theorem V.neI (h : K (.bool (a != b)) μ) : WV2 G k (.int a) (.int b) μ (compareOp .NotEq) K := fun φ s v1 v2 I r1 r2 => by
  obtain ⟨t, rfl⟩ := R.int_iff.mp r1; obtain ⟨u, rfl⟩ := R.int_iff.mp r2
  exact PyProof.Rows.ne_int (Post.of (.refl I) (.bool _) h)
theorem V.gtI (h : K (.bool (decide (b < a))) μ) : WV2 G k (.int a) (.int b) μ (compareOp .Gt) K := fun φ s v1 v2 I r1 r2 => by
  obtain ⟨t, rfl⟩ := R.int_iff.mp r1; obtain ⟨u, rfl⟩ := R.int_iff.mp r2
  exact PyProof.Rows.gt_int (Post.of (.refl I) (.bool _) h)
theorem V.eqS (h : K (.bool (x == y)) μ) : WV2 G k (.str x) (.str y) μ (compareOp .Eq) K := fun φ s v1 v2 I r1 r2 => by
  obtain ⟨t, rfl⟩ := R.str_iff.mp r1; obtain ⟨u, rfl⟩ := R.str_iff.mp r2
  exact PyProof.Rows.eq_str (Post.of (.refl I) (.bool _) h)
theorem V.inS (h : K (.bool (Txt.contains y x)) μ) : WV2 G k (.str x) (.str y) μ (compareOp .In) K := fun φ s v1 v2 I r1 r2 => by
  obtain ⟨t, rfl⟩ := R.str_iff.mp r1; obtain ⟨u, rfl⟩ := R.str_iff.mp r2
  exact SB.contains (Post.of (.refl I) (.bool _) h)
theorem str_append_empty {x : Str} (h : x.length = 0) : x = Str.empty := by
  obtain ⟨⟨l⟩⟩ := x
  have : l = [] := List.eq_nil_of_length_eq_zero h
  subst this; rfl
theorem V.addS (h : K (.str (x ++ y)) μ) (hs : (x ++ y).length ≤ sizeLine) : WV2 G k (.str x) (.str y) μ (binaryOp .Add) K := fun φ s v1 v2 I r1 r2 => by
  obtain ⟨t, rfl⟩ := R.str_iff.mp r1; obtain ⟨u, rfl⟩ := R.str_iff.mp r2
  refine PySem.P.add_str ?_
  split
  · rename_i h0
    have : x = Str.empty := str_append_empty (by simpa using h0)
    subst this
    rw [Str.empty_append] at h
    exact Post.of (.refl I) (.str _ _) h
  · split
    · rename_i h0
      have : y = Str.empty := str_append_empty (by simpa using h0)
      subst this
      rw [Str.append_empty] at h
      exact Post.of (.refl I) (.str _ _) h
    · exact ⟨hs, Post.of (Step.toks I _) (.str _ _) h⟩
theorem V.iaddS (h : K (.str (x ++ y)) μ) (hs : (x ++ y).length ≤ sizeLine) : WV2 G k (.str x) (.str y) μ (inplaceOp .Add) K := fun φ s v1 v2 I r1 r2 => by
  obtain ⟨t, rfl⟩ := R.str_iff.mp r1; obtain ⟨u, rfl⟩ := R.str_iff.mp r2
  refine PySem.P.iadd_str ?_
  split
  · rename_i h0
    have : x = Str.empty := str_append_empty (by simpa using h0)
    subst this
    rw [Str.empty_append] at h
    exact Post.of (.refl I) (.str _ _) h
  · split
    · rename_i h0
      have : y = Str.empty := str_append_empty (by simpa using h0)
      subst this
      rw [Str.append_empty] at h
      exact Post.of (.refl I) (.str _ _) h
    · exact ⟨hs, Post.of (Step.toks I _) (.str _ _) h⟩
theorem V.iadd (h : K (.int (a + b)) μ) : WV2 G k (.int a) (.int b) μ (inplaceOp .Add) K := fun φ s v1 v2 I r1 r2 => by
  obtain ⟨t, rfl⟩ := R.int_iff.mp r1; obtain ⟨u, rfl⟩ := R.int_iff.mp r2
  exact PyProof.Rows.iadd_int (Post.of (Step.toks I _) (.int _ _) h)
theorem V.isub (h : K (.int (a - b)) μ) : WV2 G k (.int a) (.int b) μ (inplaceOp .Sub) K := fun φ s v1 v2 I r1 r2 => by
  obtain ⟨t, rfl⟩ := R.int_iff.mp r1; obtain ⟨u, rfl⟩ := R.int_iff.mp r2
  exact PySem.P.isub_int (Post.of (Step.toks I _) (.int _ _) h)
end
noncomputable def setS : Sg → Str → D → Sg
  | [], x, d => [(x, d)]
  | (y, e) :: r, x, d => if y == x then (x, d) :: r else (y, e) :: setS r x d
theorem setS_lookup (σ : Sg) (x y : Str) (d : D) : (setS σ x d).lookup y = if y = x then some d else σ.lookup y := by
  induction σ with
  | nil =>
    simp only [setS, List.lookup]
    by_cases h : y = x
    · subst h; simp
    · rw [beq_eq_false_iff_ne.mpr h, if_neg h]
  | cons p r ih =>
    obtain ⟨z, e⟩ := p
    unfold setS
    by_cases hz : z = x
    · subst hz
      simp only [beq_self_eq_true, if_true, List.lookup]
      by_cases h : y = z
      · subst h; simp
      · rw [beq_eq_false_iff_ne.mpr h, if_neg h]
    · rw [if_neg (by simpa using hz)]
      simp only [List.lookup]
      by_cases h : y = z
      · subst h
        simp [hz]
      · rw [beq_eq_false_iff_ne.mpr h]; exact ih
section
variable {G : Gr} {k : Nat} {φ φ' : Fs} {μ μ' : Mu} {s s' : Shared} {sc : Sc} {σ : Sg} {env : Env} {K K' : D → Mu → Prop} {KT KT' : Bool → Mu → Prop} {KB KB' : Fl → Sg → Mu → Prop}
theorem Step.own (I : Inv G φ μ s) {X : List Addr} {h' : Heap} {t : Nat} {a : Addr} (hX : a ∈ X) (hφ : φ a = none) (hm : ∀ p ∈ μ, p.1 ≠ a) (hs : Heap.SameBut a s.heap h') (ht : ∃ o, h'.get? a = some o) :
    Step G X φ μ s φ μ { s with heap := h', toks := t } := by
  have kp : ∀ b o, s.heap.get? b = some o → b ≠ a → h'.get? b = some o := fun b o e ne => (hs.2 b ne).trans e
  refine ⟨⟨I.base, fun b o e => kp _ _ (I.sub b o e) (fun z => by subst z; rw [hφ] at e; cases e), fun p hp => (I.cells p hp).mono (.refl _) (fun o e => kp _ _ e (hm p hp)), I.off, I.nd, I.gens, I.os, I.dr⟩,
    .refl φ, fun b o h _ hx => kp _ _ h (fun z => hx (z ▸ hX)), fun b o h => ?_, fun p hp => .inl ⟨p, hp, rfl⟩, fun _ _ h => .inl h⟩
  by_cases e : b = a
  · subst e; exact ht
  · exact ⟨o, kp _ _ h e⟩
theorem store_ofL {x : Str} {v : Value} {d : D} (I : Inv G φ μ s) (E : EnvR G φ μ sc σ env s.heap) (r : R G φ v d) (hx : sc.lookup x = some .local) {Q : Unit → Shared → Prop} {A : Around} {E' : Value → Shared → Prop}
    (h : ∀ h' tk, Step G [env.locals] φ μ s φ μ { s with heap := h', toks := tk } → EnvR G φ μ sc (setS σ x d) env h' → Q () { s with heap := h', toks := tk }) : wpAny G.M A (storeName env x v) Q E' s := by
  obtain ⟨m, hm, hr⟩ := E.ns
  have hm0 := hm
  obtain ⟨oL, es, ep, hL, h2⟩ := hm0
  refine wpAny_storeName_local ((E.ok.kindOf x).trans hx) hm (fun h' hn hs => ?_) (by rw [E.ok.kind]; rfl)
  have ex : ∃ o, h'.get? env.locals = some o := by obtain ⟨o, _, _, ho, _⟩ := hn; exact ⟨o, ho⟩
  refine h h' _ (Step.own I (.head _) E.loff E.lmu hs ex) ⟨E.ok, E.loff, E.lmu, ⟨_, hn, fun y e hy he => ?_⟩, fun y e hy he => ?_, fun y hy => ?_, fun y c hc => ?_, E.apart⟩
  · rw [setS_lookup] at he
    by_cases z : y = x
    · subst z; rw [if_pos rfl] at he ⊢; cases he; exact ⟨v, rfl, r⟩
    · rw [if_neg z] at he ⊢; exact hr y e hy he
  · rw [setS_lookup] at he
    have z : y ≠ x := fun z => by subst z; rw [hx] at hy; rcases hy with hy | hy <;> cases hy
    rw [if_neg z] at he
    obtain ⟨c, w, hc, hw, rw'⟩ := E.cell y e hy he
    obtain ⟨oc, hoc, hdc⟩ := hw
    have : c ≠ env.locals := fun z => by
      subst z; rw [hL] at hoc; cases hoc; rw [h2.1] at hdc; cases hdc
    exact ⟨c, w, hc, ⟨oc, (hs.2 _ this).trans hoc, hdc⟩, rw'⟩
  · obtain ⟨c, w, hc, hw, h1, h2'⟩ := E.own y hy
    obtain ⟨oc, hoc, hdc⟩ := hw
    exact ⟨c, w, hc, ⟨oc, (hs.2 _ h2').trans hoc, hdc⟩, h1, h2'⟩
  · obtain ⟨h1, w, hw⟩ := E.cmu y c hc
    obtain ⟨oc, hoc, hdc⟩ := hw
    have : c ≠ env.locals := fun z => by
      subst z; rw [hL] at hoc; cases hoc; rw [h2.1] at hdc; cases hdc
    exact ⟨h1, w, ⟨oc, (hs.2 _ this).trans hoc, hdc⟩⟩
theorem store_ofC {x : Str} {c : Addr} {v : Value} {d : D} (I : Inv G φ μ s) (E : EnvR G φ μ sc σ env s.heap) (r : R G φ v d) (hx : sc.lookup x = some .cell) (hcx : env.cells.lookup x = some c) {Q : Unit → Shared → Prop} {A : Around} {E' : Value → Shared → Prop}
    (h : ∀ h' tk, Step G [c] φ μ s φ μ { s with heap := h', toks := tk } → EnvR G φ μ sc (setS σ x d) env h' → Q () { s with heap := h', toks := tk }) : wpAny G.M A (storeName env x v) Q E' s := by
  obtain ⟨m, hm, hr⟩ := E.ns
  obtain ⟨oL, es, ep, hL, h2⟩ := hm
  obtain ⟨c0, w, hc, hw, hcφ, hcL⟩ := E.own x hx
  rw [hcx] at hc; cases hc
  refine wpAny_storeName_cell E.ok.kind ((E.ok.kindOf x).trans hx) hcx hw (fun h' hn hs => ?_)
  have ex : ∃ o, h'.get? c = some o := by obtain ⟨o, ho, _⟩ := hn; exact ⟨o, ho⟩
  have st := Step.own (X := [c]) (t := s.toks) I (.head _) hcφ (E.cmu x c hcx).1 hs ex
  refine h h' s.toks st ⟨E.ok, E.loff, E.lmu, ⟨m, ⟨oL, es, ep, (hs.2 _ (Ne.symm hcL)).trans hL, h2⟩, fun y e hy he => ?_⟩, fun y e hy he => ?_, fun y hy => ?_, fun y c' hc' => ?_, E.apart⟩
  · rw [setS_lookup] at he
    have z : y ≠ x := fun z => by subst z; rw [hx] at hy; cases hy
    rw [if_neg z] at he; exact hr y e hy he
  · rw [setS_lookup] at he
    by_cases z : y = x
    · subst z; rw [if_pos rfl] at he; cases he; exact ⟨c, v, hcx, hn, r⟩
    · rw [if_neg z] at he
      obtain ⟨c', w', hc', hw', rw'⟩ := E.cell y e hy he
      have ne : c' ≠ c := fun q => z (E.apart _ _ _ hc' (q ▸ hcx))
      exact ⟨c', w', hc', hw'.sameBut hs ne, rw'⟩
  · by_cases z : y = x
    · subst z; exact ⟨c, some v, hcx, hn, hcφ, hcL⟩
    · obtain ⟨c', w', hc', hw', h1, h2'⟩ := E.own y hy
      have ne : c' ≠ c := fun q => z (E.apart _ _ _ hc' (q ▸ hcx))
      exact ⟨c', w', hc', hw'.sameBut hs ne, h1, h2'⟩
  · obtain ⟨h1, w', hw'⟩ := E.cmu y c' hc'
    by_cases z : c' = c
    · subst z; exact ⟨h1, some v, hn⟩
    · exact ⟨h1, w', hw'.sameBut hs z⟩
theorem store_of {x : Str} {v : Value} {d : D} (I : Inv G φ μ s) (E : EnvR G φ μ sc σ env s.heap) (r : R G φ v d) (hx : sc.lookup x = some .local ∨ sc.lookup x = some .cell) {Q : Unit → Shared → Prop} {A : Around} {E' : Value → Shared → Prop}
    (h : ∀ h' tk, Step G (xs env) φ μ s φ μ { s with heap := h', toks := tk } → EnvR G φ μ sc (setS σ x d) env h' → Q () { s with heap := h', toks := tk }) : wpAny G.M A (storeName env x v) Q E' s := by
  rcases hx with hx | hx
  · exact store_ofL I E r hx fun h' tk st E' => h h' tk (st.more fun a ha => by rw [List.mem_singleton.mp ha]; exact .head _) E'
  · obtain ⟨c, w, hc, _⟩ := E.own x hx
    exact store_ofC I E r hx hc fun h' tk st E' => h h' tk (st.more fun a ha => by rw [List.mem_singleton.mp ha]; exact mem_xs.mpr (.inr ⟨x, hc⟩)) E'
noncomputable def isOwn (sc : Sc) (x : Str) : Bool := match sc.lookup x with | some .local => true | some .cell => true | _ => false
theorem isOwn_of {x : Str} (h : isOwn sc x = true) : sc.lookup x = some .local ∨ sc.lookup x = some .cell := by
  unfold isOwn at h
  split at h <;> simp_all
inductive PostA (G : Gr) (sc : Sc) (env : Env) (X : List Addr) (φ : Fs) (μ : Mu) (s : Shared) (K : Sg → Mu → Prop) (u : Unit) (s' : Shared) : Prop where
  | mk (σ' : Sg) (φ' : Fs) (μ' : Mu) (st : Step G X φ μ s φ' μ' s') (e : EnvR G φ' μ' sc σ' env s'.heap) (k : K σ' μ')
noncomputable def WA (G : Gr) (k : Nat) (sc : Sc) (σ : Sg) (t : Expr) (d : D) (μ : Mu) (K : Sg → Mu → Prop) : Prop :=
  ∀ env φ s v, Inv G φ μ s → EnvR G φ μ sc σ env s.heap → R G φ v d → wpAny G.M (Lv k) (assign t env v) (PostA G sc env (xs env) φ μ s K) Nev s
theorem WA.name {x : Str} {p : Pos} {d : D} {K : Sg → Mu → Prop} (hx : isOwn sc x = true) (h : K (setS σ x d) μ) : WA G k sc σ (.Name x p) d μ K := fun env φ s v I E r =>
  wpAny_assign_Name (store_of I E r (isOwn_of hx) fun h' tk st E' => ⟨_, φ, μ, st, E', h⟩)
noncomputable def nameOf (e : Expr) : Option Str := match e with
  | .Name x _ => some x
  | _ => none
noncomputable def allNames : List Expr → Option (List Str)
  | [] => some []
  | e :: es => (nameOf e).bind fun x => (allNames es).map (x :: ·)
theorem allNames_cons {e : Expr} {es : List Expr} {names : List Str} (h : allNames (e :: es) = some names) : ∃ x p ns, e = .Name x p ∧ allNames es = some ns ∧ names = x :: ns := by
  unfold allNames nameOf at h
  split at h
  · obtain ⟨ns, h1, h2⟩ := Option.map_eq_some_iff.mp h
    exact ⟨_, _, ns, rfl, h1, h2.symm⟩
  · cases h
noncomputable def setAll : Sg → List Str → List D → Sg
  | σ, x :: xs, d :: ds => setAll (setS σ x d) xs ds
  | σ, _, _ => σ
theorem assignEach_star : ∀ {es : List Expr} {names : List Str} (h : allNames es = some names), (assignEach es env).findIdx? (·.1) = none ∧ (assignEach es env).length = names.length
  | [], _, h => by cases h; exact ⟨rfl, rfl⟩
  | e :: es, names, h => by
    obtain ⟨x, p, ns, rfl, hns, rfl⟩ := allNames_cons h
    obtain ⟨a, b⟩ := assignEach_star hns
    refine ⟨?_, congrArg (· + 1) b⟩
    show List.findIdx? (·.1) ((false, _) :: assignEach es env) = none
    rw [List.findIdx?_cons, a]; rfl
noncomputable def Stores (G : Gr) (μ : Mu) (sc : Sc) (env : Env) (X : List Addr) (x : Str) : Prop :=
  ∀ (σ : Sg) (φ : Fs) (s : Shared) (v : Value) (d : D) (Q : Unit → Shared → Prop) (A : Around) (E' : Value → Shared → Prop), Inv G φ μ s → EnvR G φ μ sc σ env s.heap → R G φ v d →
    (∀ h' tk, Step G X φ μ s φ μ { s with heap := h', toks := tk } → EnvR G φ μ sc (setS σ x d) env h' → Q () { s with heap := h', toks := tk }) → wpAny G.M A (storeName env x v) Q E' s
theorem assignInOrder_of {X : List Addr} {E' : Value → Shared → Prop} : ∀ {es : List Expr} {names : List Str} {vs : List Value} {ds : List D} {σ : Sg} {φ : Fs} {s : Shared}, allNames es = some names → (∀ x ∈ names, Stores G μ sc env X x) → Inv G φ μ s → EnvR G φ μ sc σ env s.heap → Rs G φ vs ds → names.length = ds.length →
    wpAny G.M (Lv k) (assignInOrder ((assignEach es env).map (·.2)) vs) (fun _ s' => Step G X φ μ s φ μ s' ∧ EnvR G φ μ sc (setAll σ names ds) env s'.heap) E' s
  | [], names, vs, ds, σ, φ, s, hn, hx, I, E, r, hl => by
    cases hn
    have : ds = [] := List.length_eq_zero_iff.mp hl.symm
    subst this
    rw [Rs.nil_iff] at r; subst r
    exact wpAny_pure ⟨.refl I, E⟩
  | e :: es, names, vs, [], σ, φ, s, hn, hx, I, E, r, hl => by
    obtain ⟨x, p, ns, rfl, hns, rfl⟩ := allNames_cons hn
    cases hl
  | e :: es, names, vs, d :: ds, σ, φ, s, hn, hx, I, E, r, hl => by
    obtain ⟨x, p, ns, rfl, hns, rfl⟩ := allNames_cons hn
    obtain ⟨v, vs', rfl, r1, r2⟩ := Rs.cons_iff.mp r
    show wpAny _ _ (assignInOrder (assign (.Name x p) env :: (assignEach es env).map (·.2)) (v :: vs')) _ _ _
    unfold assignInOrder
    refine wpAny_bind (wpAny_holding (wpAny_assign_Name (hx x (.head _) _ _ _ _ _ _ _ _ I E r1 fun h' tk st E' => ?_)))
    exact wpAny_mono (assignInOrder_of hns (fun y hy => hx y (.tail _ hy)) st.inv E' r2 (Nat.succ.inj hl)) (fun _ s2 ⟨st2, E2⟩ => ⟨st.trans st2, E2⟩) fun _ _ h => h
theorem assignTup_of {X : List Addr} {E' : Value → Shared → Prop} {es : List Expr} {n : Nat} {p : Pos} {ds : List D} {names : List Str} {v : Value} (hn : allNames es = some names) (hx : ∀ x ∈ names, Stores G μ sc env X x) (hl : names.length = ds.length) (I : Inv G φ μ s) (E : EnvR G φ μ sc σ env s.heap) (r : R G φ v (.tup ds)) :
    wpAny G.M (Lv k) (assign (.Tuple es n p) env v) (fun _ s' => Step G X φ μ s φ μ s' ∧ EnvR G φ μ sc (setAll σ names ds) env s'.heap) E' s := by
  obtain ⟨a, vs, m, rfl, ho, r⟩ := R.tup_iff.mp r
  obtain ⟨hs, hlen⟩ := assignEach_star (env := env) hn
  rw [PyProof.Rows.assign_Tuple]
  refine wpAny_bind (wpAny_standAt (PyProof.Rows.unpack_tuple rfl ⟨_, I.sub _ _ ho, rfl, _, rfl⟩ (by rw [hlen, hl, List.size_toArray, r.1]) hs fun h' hk => ?_))
  have st : Step G [] φ μ s φ μ { s with heap := h', toks := s.toks } := Step.grow I fun b o e => hk b o (Nat.ne_of_lt (Heap.lt_size e)) e
  exact wpAny_mono (assignInOrder_of hn hx st.inv (E.step st) r hl) (fun _ s2 ⟨st2, E2⟩ => ⟨(st.more fun _ h => nomatch h).trans st2, E2⟩) fun _ _ h => h
theorem WA.tup {es : List Expr} {n : Nat} {p : Pos} {ds : List D} {names : List Str} {K : Sg → Mu → Prop} (hn : allNames es = some names) (hx : names.all (isOwn sc) = true) (hl : names.length = ds.length) (h : K (setAll σ names ds) μ) : WA G k sc σ (.Tuple es n p) (.tup ds) μ K := fun env φ s v I E r =>
  wpAny_mono (assignTup_of hn (fun x hx' _ _ _ _ _ _ _ _ I E r h => store_of I E r (isOwn_of (List.all_eq_true.mp hx x hx')) h) hl I E r) (fun _ s2 ⟨st2, E2⟩ => ⟨_, φ, μ, st2, E2, h⟩) nev
theorem WB.nil (h : KB .next σ μ) : WB G k sc σ [] μ KB := fun env φ s I E => wpAny_execs_nil ⟨.next, σ, φ, μ, .refl I, E, trivial, h⟩
theorem WB.cons {st : Stmt} {b : List Stmt} (h : WS G k sc σ st μ fun fl σ1 μ1 => match fl with | .next => WB G k sc σ1 b μ1 KB | fl => KB fl σ1 μ1) : WB G k sc σ (st :: b) μ KB := fun env φ s I E => by
  refine wpAny_execs_cons (wpAny_mono (h env φ s I E) (fun f s1 ⟨fl, σ1, φ1, μ1, st, E1, fr, hK⟩ => ?_) nev)
  cases fr.i <;> first
    | exact wpAny_mono (hK env φ1 s1 st.inv E1) (fun f s2 h2 => PostB.trans st h2) nev
    | exact ⟨_, σ1, φ1, μ1, st, E1, fr, hK⟩
theorem EnvR.stepX (E : EnvR G φ μ sc σ env s.heap) (st : Step G [] φ μ s φ' μ' s') : Step G (xs env) φ μ s φ' μ' s' ∧ EnvR G φ' μ' sc σ env s'.heap := ⟨st.more (fun _ h => nomatch h), E.step st⟩
theorem WS.assign {x : Str} {p p' : Pos} {e : Expr} (h : WE G k sc σ e μ fun d μ1 => KB .next (setS σ x d) μ1) (hx : isOwn sc x = true) (hs : ∀ env, EnvOk sc env → swapsWith e (some (.Name x p')) p.line env = pure false) : WS G k sc σ (.Assign [.Name x p'] e p) μ KB := fun env φ s I E =>
  wpAny_Assign_Name (wpAny_mono (h env φ s I E) (fun v s1 ⟨d, φ1, μ1, st, r, hK⟩ => by
    obtain ⟨stx, E1⟩ := E.stepX st
    exact store_of st.inv E1 r (isOwn_of hx) fun h' tk st2 E2 => ⟨.next, _, φ1, μ1, stx.trans st2, E2, trivial, hK⟩) nev) (hs env E.ok)
theorem WS.assignT {t : Expr} {es : List Expr} {n : Nat} {p p' : Pos} {e : Expr} (h : WE G k sc σ e μ fun d μ1 => WA G k sc σ (.Tuple es n p') d μ1 fun σ' μ' => KB .next σ' μ') (hs : ∀ env, swapsWithSole [.Tuple es n p'] e p.line env = pure false := by intro _; rfl) (hw : ∀ env, swappedStores [.Tuple es n p'] e env = pure none := by intro _; rfl) : WS G k sc σ (.Assign [.Tuple es n p'] e p) μ KB := fun env φ s I E =>
  PyProof.Rows.Assign_Tuple (wpAny_mono (h env φ s I E) (fun v s1 ⟨d, φ1, μ1, st, r, hK⟩ => by
    obtain ⟨stx, E1⟩ := E.stepX st
    exact wpAny_mono (hK env φ1 s1 v st.inv E1 r) (fun _ s2 ⟨σ2, φ2, μ2, st2, E2, h2⟩ => ⟨.next, σ2, φ2, μ2, stx.trans st2, E2, trivial, h2⟩) nev) nev) (hs env) (hw env)
theorem WS.aug {x : Str} {p p' : Pos} {op : Operator} {e : Expr} {d : D} (hx : isOwn sc x = true) (hl : isLoc sc x = true) (hd : σ.lookup x = some d) (h : WE G k sc σ e μ fun d' μ1 => WV2 G k d d' μ1 (inplaceOp op) fun d2 μ2 => KB .next (setS σ x d2) μ2) : WS G k sc σ (.AugAssign (.Name x p') op e p) μ KB := fun env φ s I E =>
  wpAny_AugAssign_Name (loadName_of I E (isLoc_of hl).1 hd (isLoc_of hl).2.1 fun v0 r0 => wpAny_mono (h env φ s I E) (fun v s1 ⟨d', φ1, μ1, st, r, hK⟩ => by
    refine wpAny_mono (hK φ1 s1 v0 v st.inv (r0.mono st.le) r) (fun v2 s2 ⟨d2, φ2, μ2, st2, r2, hK2⟩ => ?_) nev
    obtain ⟨stx, E1⟩ := E.stepX (st.trans st2)
    exact store_of st2.inv E1 r2 (isOwn_of hx) fun h' tk st3 E3 => ⟨.next, _, φ2, μ2, stx.trans st3, E3, trivial, hK2⟩) nev)
theorem WS.expr {p : Pos} {e : Expr} (h : WE G k sc σ e μ fun d μ1 => KB .next σ μ1) (hs : ∀ env, swapsWith e none p.line env = pure false) : WS G k sc σ (.Expr e p) μ KB := fun env φ s I E =>
  wpAny_Expr_any (wpAny_mono (h env φ s I E) (fun v s1 ⟨d, φ1, μ1, st, r, hK⟩ => by
    obtain ⟨stx, E1⟩ := E.stepX st
    exact ⟨.next, σ, φ1, μ1, stx, E1, trivial, hK⟩) nev) (by unfold interactive; rw [E.ok.kind]; rfl) (hs env)
theorem WS.ite {t : Expr} {a b : List Stmt} {p : Pos} (h : WT G k sc σ t μ fun c μ1 => if c then WB G k sc σ a μ1 KB else WB G k sc σ b μ1 KB) : WS G k sc σ (.If t a b p) μ KB := fun env φ s I E =>
  wpAny_If (wpAny_mono (h env φ s I E) (fun c s1 ⟨φ1, μ1, st, hK⟩ => by
    obtain ⟨stx, E1⟩ := E.stepX st
    cases c with
    | true => exact wpAny_mono (hK env φ1 s1 st.inv E1) (fun v3 s3 h3 => PostB.trans stx h3) nev
    | false => exact wpAny_mono (hK env φ1 s1 st.inv E1) (fun v3 s3 h3 => PostB.trans stx h3) nev) nev)
theorem WS.ret {e : Expr} {p : Pos} (h : WE G k sc σ e μ fun d μ1 => KB (.ret d) σ μ1) : WS G k sc σ (.Return (some e) p) μ KB := fun env φ s I E =>
  wpAny_Return_some (wpAny_mono (h env φ s I E) (fun v s1 ⟨d, φ1, μ1, st, r, hK⟩ => by
    obtain ⟨stx, E1⟩ := E.stepX st
    exact ⟨.ret d, σ, φ1, μ1, stx, E1, r, hK⟩) nev)
theorem WS.cont {p : Pos} (h : KB .cont σ μ) : WS G k sc σ (.Continue p) μ KB := fun env φ s I E => wpAny_Continue ⟨.cont, σ, φ, μ, .refl I, E, trivial, h⟩
theorem WS.while {t : Expr} {b : List Stmt} {p : Pos} (J : Nat → Sg → Mu → Prop)
    (turn : ∀ n σ μ, J n σ μ → WT G k sc σ t μ fun c μ1 => if c then WB G k sc σ b μ1 fun fl σ2 μ2 => match fl with
        | .next => ∃ m, m < n ∧ J m σ2 μ2
        | .cont => ∃ m, m < n ∧ J m σ2 μ2
        | .brk => KB .next σ2 μ2
        | .ret d => KB (.ret d) σ2 μ2
      else KB .next σ μ1)
    (n : Nat) (h : J n σ μ) : WS G k sc σ (.While t b [] p) μ KB := fun env φ s I E => by
  refine wpAny_While ?_
  refine codeAny_whileLoop (LpI G sc env φ μ s J) (fun n s1 hI => ?_) n ⟨σ, φ, μ, h, .refl I, E⟩
  obtain ⟨σ1, φ1, μ1, hJ, st1, E1⟩ := hI
  refine wpAny_mono (turn n σ1 μ1 hJ env φ1 s1 st1.inv E1) (fun c s2 ⟨φ2, μ2, st2, hK⟩ => ?_) nev
  obtain ⟨stx, E2⟩ := E1.stepX st2
  cases c with
  | false => exact wpAny_execs_nil ⟨.next, σ1, φ2, μ2, st1.trans stx, E2, trivial, hK⟩
  | true =>
    refine wpAny_mono (hK env φ2 s2 st2.inv E2) (fun f s3 ⟨fl, σ3, φ3, μ3, st3, E3, fr, h3⟩ => ?_) nev
    have st := (st1.trans stx).trans st3
    cases fr.i <;> first
      | (obtain ⟨m, hm, hJ'⟩ := h3; exact ⟨m, hm, σ3, φ3, μ3, hJ', st, E3⟩)
      | exact ⟨.next, σ3, φ3, μ3, st, E3, trivial, h3⟩
      | exact ⟨.ret _, σ3, φ3, μ3, st, E3, fr, h3⟩
end
section
variable {G : Gr} {k : Nat} {φ φ' : Fs} {μ μ' : Mu} {s s' : Shared} {sc : Sc} {σ : Sg} {env : Env} {K K' : D → Mu → Prop} {KT KT' : Bool → Mu → Prop} {KB KB' : Fl → Sg → Mu → Prop}
theorem Step.drop {X : List Addr} (a : Step G X φ μ s φ' μ' s') (hX : ∀ x ∈ X, s.heap.get? x = none) : Step G [] φ μ s φ' μ' s' := by
  refine ⟨a.inv, a.le, fun b o h hn _ => a.keep b o h hn fun hb => ?_, a.there, a.fresh, fun b o h => ?_⟩
  · rw [hX b hb] at h; cases h
  · rcases a.fz b o h with h | h | h | h
    · exact .inl h
    · exact .inr (.inl h)
    · exact .inr (.inr (.inl h))
    · exact .inr (.inl (hX b h))
theorem Step.dropL {X Y : List Addr} (a : Step G (Y ++ X) φ μ s φ' μ' s') (hY : ∀ x ∈ Y, s.heap.get? x = none) : Step G X φ μ s φ' μ' s' := by
  refine ⟨a.inv, a.le, fun b o h hn hb => a.keep b o h hn fun hb' => ?_, a.there, a.fresh, fun b o h => ?_⟩
  · rcases List.mem_append.mp hb' with h' | h'
    · rw [hY b h'] at h; cases h
    · exact hb h'
  · rcases a.fz b o h with h | h | h | h
    · exact .inl h
    · exact .inr (.inl h)
    · exact .inr (.inr (.inl h))
    · rcases List.mem_append.mp h with h | h
      · exact .inr (.inl (hY b h))
      · exact .inr (.inr (.inr h))
theorem fresh_none (s : Shared) {a : Addr} (h : s.heap.objs.size ≤ a) : s.heap.get? a = none := by
  cases e : s.heap.get? a with
  | none => rfl
  | some o => exact absurd (Heap.lt_size e) (Nat.not_lt.mpr h)
theorem bindL_keep {kindOf : Str → Option NameKind} {x : Str} : ∀ {bs : List (Str × Value)} {m : Str → Option Value}, x ∉ bs.map (·.1) → bindL kindOf bs m x = m x
  | [], m, _ => rfl
  | (y, v) :: r, m, h => by
    simp only [List.map_cons, List.mem_cons, not_or] at h
    unfold bindL
    rw [bindL_keep h.2]
    split
    · exact if_neg h.1
    · rfl
theorem bindC_keep {kindOf : Str → Option NameKind} {x : Str} : ∀ {bs : List (Str × Value)} {m : Str → Option Value}, x ∉ bs.map (·.1) → bindC kindOf bs m x = m x
  | [], m, _ => rfl
  | (y, v) :: r, m, h => by
    simp only [List.map_cons, List.mem_cons, not_or] at h
    unfold bindC
    rw [bindC_keep h.2]
    split
    · rfl
    · exact if_neg h.1
theorem bindL_at {kindOf : Str → Option NameKind} {x : Str} {v : Value} (hk : kindOf x = some .local) : ∀ {bs : List (Str × Value)} {m : Str → Option Value}, (bs.map (·.1)).Nodup → bs.lookup x = some v → bindL kindOf bs m x = some v
  | [], m, _, h => by cases h
  | (y, w) :: r, m, hn, h => by
    simp only [List.map_cons, List.nodup_cons] at hn
    unfold bindL
    rw [List.lookup_cons] at h
    by_cases e : x = y
    · subst e
      simp only [beq_self_eq_true] at h
      cases h
      rw [bindL_keep hn.1, if_pos hk, if_pos rfl]
    · rw [beq_eq_false_iff_ne.mpr e] at h
      exact bindL_at hk hn.2 h
theorem bindC_at {kindOf : Str → Option NameKind} {x : Str} {v : Value} (hk : kindOf x ≠ some .local) : ∀ {bs : List (Str × Value)} {m : Str → Option Value}, (bs.map (·.1)).Nodup → bs.lookup x = some v → bindC kindOf bs m x = some v
  | [], m, _, h => by cases h
  | (y, w) :: r, m, hn, h => by
    simp only [List.map_cons, List.nodup_cons] at hn
    unfold bindC
    rw [List.lookup_cons] at h
    by_cases e : x = y
    · subst e
      simp only [beq_self_eq_true] at h
      cases h
      rw [bindC_keep hn.1, if_neg hk, if_pos rfl]
    · rw [beq_eq_false_iff_ne.mpr e] at h
      exact bindC_at hk hn.2 h
theorem Rkw.lookup {bs : List (Str × Value)} {ps : List (Str × D)} (h : Rkw G φ bs ps) {x : Str} {d : D} (hd : ps.lookup x = some d) : ∃ v, bs.lookup x = some v ∧ R G φ v d := by
  obtain ⟨h1, h2⟩ := h
  induction ps generalizing bs with
  | nil => cases hd
  | cons p ps ih =>
    cases bs with
    | nil => cases h1
    | cons b bs =>
      obtain ⟨y, w⟩ := b
      obtain ⟨z, e⟩ := p
      simp only [List.map_cons, List.cons.injEq] at h1
      obtain ⟨rfl, h1⟩ := h1
      simp only [List.map_cons] at h2
      obtain ⟨v', vs', q, r1, r2⟩ := Rs.cons_iff.mp h2
      cases q
      rw [List.lookup_cons] at hd ⊢
      cases hq : x == y with
      | true => rw [hq] at hd; cases hd; exact ⟨w, rfl, r1⟩
      | false => rw [hq] at hd; exact ih hd h1 r2
theorem entered {fd : FuncData} {L a : Addr} {bs : List (Str × Value)} {ps : Sg} {s₁ : Shared} (I : Inv G φ μ s) (hL : L = s.heap.objs.size) (hgl : fd.globals = mainGlobals) (hbu : fd.builtins = builtinsNs) (hk : fd.scope.kind = .function)
    (x : InCallC s (callEnvC fd L a).locals (bindL (callEnvC fd L a).kindOf bs fun _ => none) (callEnvC fd L a).cells (bindC (callEnvC fd L a).kindOf bs fun _ => none) s₁)
    (rb : Rkw G φ bs ps) (hn : (ps.map (·.1)).Nodup) (hown : ∀ y d, ps.lookup y = some d → isOwn fd.scope.names y = true) :
    Step G (xs (callEnvC fd L a)) φ μ s φ μ s₁ ∧ EnvR G φ μ fd.scope.names ps (callEnvC fd L a) s₁.heap := by
  subst hL
  obtain ⟨h', tk, rfl, hkeep⟩ := x.done
  have st : Step G (xs (callEnvC fd s.heap.objs.size a)) φ μ s φ μ { s with heap := h', toks := tk } := Step.grow I hkeep
  have fr : ∀ b, s.heap.objs.size ≤ b → φ b = none ∧ ∀ p ∈ μ, p.1 ≠ b := fun b hb => by
    have := fresh_none s hb
    refine ⟨I.none_of_new this, fun p hp e => ?_⟩
    obtain ⟨o, ho⟩ := (I.cells p hp).there
    rw [e, this] at ho; cases ho
  have hab : ∀ n c, (callEnvC fd s.heap.objs.size a).cells.lookup n = some c → s.heap.objs.size < c := fun n c hc => x.above n c (mem_of_lookup hc)
  have hbn : (bs.map (·.1)).Nodup := by rw [rb.1]; exact hn
  refine ⟨st, ⟨⟨hk, rfl, hgl, hbu⟩, (fr _ (Nat.le_refl _)).1, (fr _ (Nat.le_refl _)).2, ⟨_, x.toInCall.ns, fun y d hy hd => ?_⟩, fun y d hy hd => ?_, fun y hy => ?_, fun y c hc => ?_, fun y z c hy hz => ?_⟩⟩
  · obtain ⟨v, hv, r⟩ := rb.lookup hd
    exact ⟨v, bindL_at hy hbn hv, r⟩
  · obtain ⟨v, hv, r⟩ := rb.lookup hd
    have hnl : (callEnvC fd s.heap.objs.size a).kindOf y ≠ some .local := fun e => by
      have e' : fd.scope.names.lookup y = some .local := e
      rw [e'] at hy; rcases hy with hy | hy <;> cases hy
    rcases hy with hy | hy
    · have ex := cellsFrom_some fd.scope.names (s.heap.objs.size + 1) [] (.inl hy)
      obtain ⟨c, hc⟩ := Option.isSome_iff_exists.mp ex
      refine ⟨c, v, hc, ?_, r⟩
      have := x.cell y c hc
      rw [bindC_at hnl hbn hv] at this
      exact this
    · have := isOwn_of (hown y d hd)
      rw [hy] at this; rcases this with h | h <;> cases h
  · have ex := cellsFrom_some fd.scope.names (s.heap.objs.size + 1) [] (.inl hy)
    obtain ⟨c, hc⟩ := Option.isSome_iff_exists.mp ex
    have := hab y c hc
    exact ⟨c, _, hc, x.cell y c hc, (fr c (Nat.le_of_lt this)).1, Nat.ne_of_gt this⟩
  · have := hab y c hc
    exact ⟨(fr c (Nat.le_of_lt this)).2, _, x.cell y c hc⟩
  · exact name_of_addr x.apart (mem_of_lookup hy) (mem_of_lookup hz)
theorem lookup_mem_fst {ps : Sg} {y : Str} {d : D} (h : ps.lookup y = some d) : y ∈ ps.map (·.1) := List.mem_map.mpr ⟨_, mem_of_lookup h, rfl⟩
noncomputable def retOf : Fl → D
  | .ret d => d
  | _ => .none
structure FnAt (G : Gr) (f : Addr) (fd : FuncData) (body : List Stmt) : Prop where
  at_ : ∃ o, G.hB.get? f = some o ∧ o.data = .func fd
  code : G.hB.CodeRec fd.code fd.qualname
  body : fd.body = .stmts body
  clo : fd.closure = []
  gl : fd.globals = mainGlobals
  bu : fd.builtins = builtinsNs
  co : fd.scope.isCoroutine = false
  gen : fd.scope.isGenerator = false
  kind : fd.scope.kind = .function
theorem WC.fn {f : Addr} {fd : FuncData} {body : List Stmt} {as : List D} {kd ps : Sg} (hk : k < 40) (F : FnAt G f fd body)
    (hbind : ∀ φ s vs kv, Inv G φ μ s → Rs G φ vs as → Rkw G φ kv kd → ∃ bs, BindsTo s fd ⟨vs, kv⟩ bs ∧ Rkw G φ bs ps)
    (hn : (ps.map (·.1)).Nodup) (hown : (ps.map (·.1)).all (isOwn fd.scope.names) = true)
    (h : WB G k fd.scope.names ps body μ fun fl _ μ' => K (retOf fl) μ') : WC G (k + 1) (.ref f) as kd μ K := fun φ s vs kv I r rk => by
  obtain ⟨o, ho, hd⟩ := F.at_
  obtain ⟨bs, hb, rb⟩ := hbind φ s vs kv I r rk
  have hown' : ∀ y d, ps.lookup y = some d → isOwn fd.scope.names y = true := fun y d e => List.all_eq_true.mp hown y (lookup_mem_fst e)
  refine codeAny_call_function (lv_room _) (I.keep _ _ ho) hd F.co F.gen F.body (F.code.keeps I.keep) ?_
  rw [F.clo]
  refine hb _ _ _ _ (wpAny_newFunctionEnv_cells F.kind (fun x hx => ?_) fun env he s' x => ?_)
  · have : x.1 ∈ ps.map (·.1) := by rw [← rb.1]; exact List.mem_map_of_mem hx
    rcases isOwn_of (List.all_eq_true.mp hown _ this) with e | e
    · exact .inl e
    · exact .inr ⟨e, cellsFrom_some _ _ _ (.inl e)⟩
  · have he' : env = callEnvC fd s.heap.objs.size f := he
    subst he'
    obtain ⟨st, E⟩ := entered (a := f) I rfl F.gl F.bu F.kind x rb hn hown'
    refine ⟨(G.nolimit.keeps I.keep).keeps x.toInCall.keep, codeAny_func ?_⟩
    refine wpAny_le (wpAny_mono (h _ φ s' st.inv E) (fun fl s2 ⟨fl', σ2, φ2, μ2, st2, E2, fr, hK⟩ => ?_) nev) (lv_deeper hk _)
    have st' : Step G [] φ μ s φ2 μ2 s2 := (st.trans st2).drop fun y hy => by
      refine fresh_none s ?_
      rcases mem_xs.mp hy with rfl | ⟨n, hn⟩
      · exact Nat.le_refl _
      · exact Nat.le_of_lt (x.above n y (mem_of_lookup hn))
    show Post G φ μ s K _ s2
    cases fr.i <;> first
      | exact Post.of st' .none hK
      | exact Post.of st' fr hK
end
section
variable {G : Gr} {k : Nat} {φ φ' : Fs} {μ μ' : Mu} {s s' : Shared} {sc : Sc} {σ : Sg} {env : Env} {K K' : D → Mu → Prop} {KT KT' : Bool → Mu → Prop} {KB KB' : Fl → Sg → Mu → Prop}
theorem EnvR.stepA {X : List Addr} (E : EnvR G φ μ sc σ env s.heap) (st : Step G X φ μ s φ' μ' s') (hX : ∀ a ∈ xs env, a ∉ X) : EnvR G φ' μ' sc σ env s'.heap := by
  have hl : env.locals ∈ xs env := .head _
  have hc' : ∀ {x c}, env.cells.lookup x = some c → c ∈ xs env := fun h => mem_xs.mpr (.inr ⟨_, h⟩)
  have kp : ∀ a o, a ∈ xs env → s.heap.get? a = some o → (∀ p ∈ μ, p.1 ≠ a) → s'.heap.get? a = some o := fun a o ha h hn => st.keep a o h hn (hX a ha)
  have off : ∀ a o, a ∈ xs env → s.heap.get? a = some o → (∀ p ∈ μ, p.1 ≠ a) → φ a = none → φ' a = none := fun a o ha h hn h0 => by
    cases e : φ' a with
    | none => rfl
    | some x =>
      rcases st.fz a x e with h' | h' | ⟨p, hp, h'⟩ | h'
      · rw [h0] at h'; cases h'
      · rw [h] at h'; cases h'
      · exact absurd h' (hn p hp)
      · exact absurd h' (hX a ha)
  have mu : ∀ a o, s.heap.get? a = some o → (∀ p ∈ μ, p.1 ≠ a) → ∀ p ∈ μ', p.1 ≠ a := fun a o h hn p hp e => by
    rcases st.fresh p hp with ⟨q, hq, h'⟩ | h'
    · exact hn q hq (h'.trans e)
    · rw [e, h] at h'; cases h'
  have cl : ∀ x c v, env.cells.lookup x = some c → s.heap.IsCell c v → s'.heap.IsCell c v := fun x c v hx hv => by
    obtain ⟨o, ho, hd⟩ := hv
    exact ⟨o, kp _ _ (hc' hx) ho (E.cmu x c hx).1, hd⟩
  obtain ⟨m, hm, hr⟩ := E.ns
  obtain ⟨oL, es, ep, hL, h2⟩ := hm
  refine ⟨E.ok, off _ _ hl hL E.lmu E.loff, mu _ _ hL E.lmu, ⟨m, ⟨oL, es, ep, kp _ _ hl hL E.lmu, h2⟩, fun x d h1 h2 => ?_⟩, fun x d h1 h2 => ?_, fun x h => ?_, fun x c h => ?_, E.apart⟩
  · obtain ⟨v, hv, r⟩ := hr x d h1 h2; exact ⟨v, hv, r.mono st.le⟩
  · obtain ⟨c, v, hc, hv, r⟩ := E.cell x d h1 h2; exact ⟨c, v, hc, cl _ _ _ hc hv, r.mono st.le⟩
  · obtain ⟨c, v, hc, hv, h1, h2⟩ := E.own x h
    obtain ⟨o, ho, hd⟩ := hv
    exact ⟨c, v, hc, cl _ _ _ hc ⟨o, ho, hd⟩, off _ _ (hc' hc) ho (E.cmu x c hc).1 h1, h2⟩
  · obtain ⟨h1, v, hv⟩ := E.cmu x c h
    obtain ⟨o, ho, hd⟩ := hv
    exact ⟨mu _ _ ho h1, v, cl _ _ _ h ⟨o, ho, hd⟩⟩
structure ItAt (G : Gr) (φ : Fs) (μ : Mu) (X : List Addr) (I : Addr) (fp wr : List Addr) (P : Nat → Value → Prop) (St : Nat → Heap → Prop) (items : List D) : Prop where
  W : ∀ A : Around, A.handled = none → Walks G.prog G.w A I fp wr items.length P St
  live : ∀ i h, St i h → ∀ b ∈ fp, ∃ o, h.get? b = some o
  item : ∀ i v, P i v → ∃ d, items[i]? = some d ∧ R G φ v d
  wr : ∀ b ∈ wr, φ b = none ∧ (∀ p ∈ μ, p.1 ≠ b) ∧ b ∉ X
  fp : ∀ b ∈ fp, (∃ o, φ b = some o) ∨ (φ b = none ∧ (∀ p ∈ μ, p.1 ≠ b) ∧ b ∉ X)
theorem ItAt.step {X Y : List Addr} {I : Addr} {fp wr : List Addr} {P : Nat → Value → Prop} {St : Nat → Heap → Prop} {items : List D} {i : Nat} (T : ItAt G φ μ X I fp wr P St items) (I0 : Inv G φ μ s) (hst : St i s.heap) (st : Step G Y φ μ s φ' μ' s') (hY : ∀ b ∈ fp, b ∈ Y → b ∈ X) :
    ItAt G φ' μ' X I fp wr P St items ∧ St i s'.heap := by
  have ex := T.live i _ hst
  have one : ∀ b ∈ fp, φ b = none → (∀ p ∈ μ, p.1 ≠ b) → b ∉ X → φ' b = none ∧ (∀ p ∈ μ', p.1 ≠ b) := fun b hb h1 h2 h3 => by
    obtain ⟨o, ho⟩ := ex b hb
    refine ⟨?_, fun p hp e => ?_⟩
    · cases e : φ' b with
      | none => rfl
      | some x =>
        rcases st.fz b x e with h' | h' | ⟨p, hp, h'⟩ | h'
        · rw [h1] at h'; cases h'
        · rw [ho] at h'; cases h'
        · exact absurd h' (h2 p hp)
        · exact absurd (hY b hb h') h3
    · rcases st.fresh p hp with ⟨q, hq, h'⟩ | h'
      · exact h2 q hq (h'.trans e)
      · rw [e, ho] at h'; cases h'
  refine ⟨⟨T.W, T.live, fun i v h => ?_, fun b hb => ?_, fun b hb => ?_⟩, (T.W ⟨none, 0, none, none, 0⟩ rfl).frame _ _ _ hst fun b hb o ho => ?_⟩
  · obtain ⟨d, hd, r⟩ := T.item i v h; exact ⟨d, hd, r.mono st.le⟩
  · obtain ⟨h1, h2, h3⟩ := T.wr b hb
    have hf := (T.W ⟨none, 0, none, none, 0⟩ rfl).sub b hb
    obtain ⟨a1, a2⟩ := one b hf h1 h2 h3
    exact ⟨a1, a2, h3⟩
  · rcases T.fp b hb with ⟨o, ho⟩ | ⟨h1, h2, h3⟩
    · exact .inl ⟨o, st.le _ _ ho⟩
    · obtain ⟨a1, a2⟩ := one b hb h1 h2 h3
      exact .inr ⟨a1, a2, h3⟩
  · rcases T.fp b hb with ⟨o', ho'⟩ | ⟨h1, h2, h3⟩
    · have h0 := I0.sub _ _ ho'
      rw [ho] at h0; cases h0
      exact st.inv.sub _ _ (st.le _ _ ho')
    · exact st.keep b o ho h2 fun hy => h3 (hY b hb hy)
theorem EnvR.keepH {h h' : Heap} (E : EnvR G φ μ sc σ env h) (hk : ∀ a ∈ xs env, ∀ o, h.get? a = some o → h'.get? a = some o) : EnvR G φ μ sc σ env h' := by
  have cl : ∀ x c v, env.cells.lookup x = some c → h.IsCell c v → h'.IsCell c v := fun x c v hx hv => by
    obtain ⟨o, ho, hd⟩ := hv
    exact ⟨o, hk c (mem_xs.mpr (.inr ⟨x, hx⟩)) _ ho, hd⟩
  obtain ⟨m, ⟨oL, es, ep, hL, h2⟩, hr⟩ := E.ns
  refine ⟨E.ok, E.loff, E.lmu, ⟨m, ⟨oL, es, ep, hk _ (mem_xs.mpr (.inl rfl)) _ hL, h2⟩, hr⟩, fun x d h1 h2 => ?_, fun x h => ?_, fun x c h => ?_, E.apart⟩
  · obtain ⟨c, v, hc, hv, r⟩ := E.cell x d h1 h2; exact ⟨c, v, hc, cl _ _ _ hc hv, r⟩
  · obtain ⟨c, v, hc, hv, h1, h2⟩ := E.own x h; exact ⟨c, v, hc, cl _ _ _ hc hv, h1, h2⟩
  · obtain ⟨h1, v, hv⟩ := E.cmu x c h; exact ⟨h1, v, cl _ _ _ h hv⟩
theorem EnvR.there (E : EnvR G φ μ sc σ env s.heap) : ∀ a ∈ xs env, ∃ o, s.heap.get? a = some o := fun a ha => by
  rcases mem_xs.mp ha with rfl | ⟨x, hx⟩
  · obtain ⟨m, ⟨o, _, _, ho, _⟩, _⟩ := E.ns; exact ⟨o, ho⟩
  · obtain ⟨_, v, o, ho, _⟩ := E.cmu x a hx; exact ⟨o, ho⟩
theorem Step.last {Y wr : List Addr} (a : Step G Y φ μ s φ' μ' s') {h' : Heap} {t : Nat} (hk : ∀ b o, b ∉ wr → s'.heap.get? b = some o → h'.get? b = some o) (hw : ∀ b ∈ wr, s.heap.get? b = none ∧ φ' b = none ∧ ∀ p ∈ μ', p.1 ≠ b) :
    Step G Y φ μ s φ' μ' { s' with heap := h', toks := t } := by
  have J := a.inv
  refine ⟨⟨J.base, fun b o e => hk b o (fun hb => by rw [(hw b hb).2.1] at e; cases e) (J.sub b o e), fun p hp => (J.cells p hp).mono (.refl _) fun o e => hk _ o (fun hb => (hw _ hb).2.2 p hp rfl) e, J.off, J.nd, J.gens, J.os, J.dr⟩, a.le, fun b o h hn hY => ?_, fun b o h => ?_, a.fresh, a.fz⟩
  · exact hk b o (fun hb => by rw [(hw b hb).1] at h; cases h) (a.keep b o h hn hY)
  · obtain ⟨o', ho'⟩ := a.there b o h
    exact ⟨o', hk b o' (fun hb => by rw [(hw b hb).1] at h; cases h) ho'⟩
section
variable {X : List Addr} {I : Addr} {fp wr : List Addr} {P : Nat → Value → Prop} {St : Nat → Heap → Prop} {items : List D} {i : Nat}
theorem ItAt.next (T : ItAt G φ μ X I fp wr P St items) (J : Inv G φ μ s) (hst : St i s.heap) (hi : i < items.length) {A : Around} (hA : A.handled = none) {Q : Option Value → Shared → Prop} {E : Value → Shared → Prop}
    (h : ∀ v d h' tk, items[i]? = some d → R G φ v d → Step G wr φ μ s φ μ { s with heap := h', toks := tk } → St (i + 1) h' → Q (some v) { s with heap := h', toks := tk }) : wpAny G.M A (pyNext (.ref I)) Q E s := by
  have W := T.W A hA
  refine W.item i s Q E hi hst fun v h' tk hP hst' hk => ?_
  obtain ⟨d, hd, r⟩ := T.item i v hP
  refine h v d h' tk hd r ⟨⟨J.base, fun b o e => hk b o (fun hb => by rw [(T.wr b hb).1] at e; cases e) (J.sub b o e), fun p hp => (J.cells p hp).mono (.refl _) fun o e => hk _ o (fun hb => (T.wr _ hb).2.1 p hp rfl) e, J.off, J.nd, J.gens, J.os, J.dr⟩,
    .refl _, fun b o h hn hY => hk b o hY h, fun b o h => ?_, fun p hp => .inl ⟨p, hp, rfl⟩, fun _ _ h => .inl h⟩ hst'
  by_cases hb : b ∈ wr
  · exact T.live _ _ hst' b (W.sub b hb)
  · exact ⟨o, hk b o hb h⟩
theorem ItAt.end (T : ItAt G φ μ X I fp wr P St items) (hst : St items.length s.heap) {A : Around} (hA : A.handled = none) {Q : Option Value → Shared → Prop} {E : Value → Shared → Prop}
    (h : ∀ h' tk, (∀ b o, b ∉ wr → s.heap.get? b = some o → h'.get? b = some o) → Q none { s with heap := h', toks := tk }) : wpAny G.M A (pyNext (.ref I)) Q E s := (T.W A hA).done s Q E hst h
end
theorem Step.frame {X : List Addr} {F : Mu} (I : Inv G φ (F ++ μ) s) (hX : ∀ p ∈ F, p.1 ∉ X) (st : Step G X φ μ s φ' μ' s') : Step G X φ (F ++ μ) s φ' (F ++ μ') s' := by
  have nd := I.nd
  rw [List.map_append, List.nodup_append] at nd
  have hμ : ∀ p ∈ F, ∀ q ∈ μ, q.1 ≠ p.1 := fun p hp q hq e => nd.2.2 p.1 (List.mem_map_of_mem hp) q.1 (List.mem_map_of_mem hq) e.symm
  have ex : ∀ p ∈ F, ∃ o, s.heap.get? p.1 = some o := fun p hp => (I.cells p (List.mem_append_left _ hp)).there
  have hμ' : ∀ p ∈ F, ∀ q ∈ μ', q.1 ≠ p.1 := fun p hp q hq e => by
    rcases st.fresh q hq with ⟨r, hr, h'⟩ | h'
    · exact hμ p hp r hr (h'.trans e)
    · obtain ⟨o, ho⟩ := ex p hp; rw [e, ho] at h'; cases h'
  have J := st.inv
  refine ⟨⟨J.base, J.sub, fun p hp => ?_, fun p hp => ?_, ?_, J.gens, J.os, J.dr⟩, st.le, fun a o h hn hx => ?_, st.there, fun p hp => ?_, fun a o e => ?_⟩
  · rcases List.mem_append.mp hp with hp | hp
    · exact (I.cells p (List.mem_append_left _ hp)).mono st.le fun o ho => st.keep _ o ho (hμ p hp) (hX p hp)
    · exact J.cells p hp
  · rcases List.mem_append.mp hp with hp | hp
    · have h0 := I.off p (List.mem_append_left _ hp)
      cases e : φ' p.1 with
      | none => rfl
      | some x =>
        obtain ⟨o, ho⟩ := ex p hp
        rcases st.fz _ x e with h' | h' | ⟨q, hq, h'⟩ | h'
        · rw [h0] at h'; cases h'
        · rw [ho] at h'; cases h'
        · exact absurd h' (hμ p hp q hq)
        · exact absurd h' (hX p hp)
    · exact J.off p hp
  · rw [List.map_append, List.nodup_append]
    refine ⟨nd.1, J.nd, fun a ha b hb e => ?_⟩
    obtain ⟨p, hp, rfl⟩ := List.mem_map.mp ha
    obtain ⟨q, hq, rfl⟩ := List.mem_map.mp hb
    exact hμ' p hp q hq e.symm
  · exact st.keep a o h (fun p hp => hn p (List.mem_append_right _ hp)) hx
  · rcases List.mem_append.mp hp with hp | hp
    · exact .inl ⟨p, List.mem_append_left _ hp, rfl⟩
    · rcases st.fresh p hp with ⟨q, hq, h'⟩ | h'
      · exact .inl ⟨q, List.mem_append_right _ hq, h'⟩
      · exact .inr h'
  · rcases st.fz a o e with h' | h' | ⟨q, hq, h'⟩ | h'
    · exact .inl h'
    · exact .inr (.inl h')
    · exact .inr (.inr (.inl ⟨q, List.mem_append_right _ hq, h'⟩))
    · exact .inr (.inr (.inr h'))
theorem EnvR.sub {h : Heap} (E : EnvR G φ μ sc σ env h) (hs : ∀ p ∈ μ', p ∈ μ) : EnvR G φ μ' sc σ env h :=
  ⟨E.ok, E.loff, fun p hp => E.lmu p (hs p hp), E.ns, E.cell, E.own, fun x c hx => ⟨fun p hp => (E.cmu x c hx).1 p (hs p hp), (E.cmu x c hx).2⟩, E.apart⟩
theorem EnvR.off {h : Heap} (E : EnvR G φ μ sc σ env h) : ∀ p ∈ μ, p.1 ∉ xs env := fun p hp hx => by
  rcases mem_xs.mp hx with e | ⟨x, hx⟩
  · exact E.lmu p hp e
  · exact (E.cmu x _ hx).1 p hp rfl
theorem EnvR.add {F : Mu} {h : Heap} (E : EnvR G φ μ sc σ env h) (hF : ∀ p ∈ F, p.1 ∉ xs env) : EnvR G φ (F ++ μ) sc σ env h := by
  refine ⟨E.ok, E.loff, fun p hp e => ?_, E.ns, E.cell, E.own, fun x c hx => ⟨fun p hp e => ?_, (E.cmu x c hx).2⟩, E.apart⟩
  · rcases List.mem_append.mp hp with hp | hp
    · exact hF p hp (mem_xs.mpr (.inl e))
    · exact E.lmu p hp e
  · rcases List.mem_append.mp hp with hp | hp
    · exact hF p hp (mem_xs.mpr (.inr ⟨x, by rw [e]; exact hx⟩))
    · exact (E.cmu x c hx).1 p hp e
noncomputable def WI (G : Gr) (k : Nat) (sc : Sc) (σ : Sg) (t iter : Expr) (μ : Mu) (K : List D → Mu → Mu → Prop) : Prop :=
  ∀ env φ s (Q : Value → Shared → Prop), Inv G φ μ s → EnvR G φ μ sc σ env s.heap →
    (∀ I fp wr P St items hid φ' μ' s', Step G [] φ μ s φ' (hid ++ μ') s' → ItAt G φ' μ' (xs env) I fp wr P St items → St 0 s'.heap → (∀ b ∈ wr, s.heap.get? b = none) → (∀ b ∈ wr, ∀ p ∈ hid, p.1 ≠ b) → (∀ b ∈ fp, b < s'.heap.objs.size) →
      (∀ i (s1 : Shared) v (Q' : Unit → Shared → Prop) A, St i s1.heap → Q' () s1 → wpAny G.M A (letOwnedTupleGo t (.ref I) v) Q' Nev s1) → K items hid μ' → Q (.ref I) s') →
    wpAny G.M (Lv k) (eval iter env) (fun x s₁ => wpAny G.M (Lv k) (pyIter x) Q Nev s₁) Nev s
noncomputable def WLoop (G : Gr) (k : Nat) (sc : Sc) (t : Expr) (body : List Stmt) (KB : Fl → Sg → Mu → Prop) : List D → Sg → Mu → Prop
  | [], σ, μ => KB .next σ μ
  | d :: ds, σ, μ => WA G k sc σ t d μ fun σ1 μ1 => WB G k sc σ1 body μ1 fun fl σ2 μ2 => match fl with
    | .next => WLoop G k sc t body KB ds σ2 μ2
    | .cont => WLoop G k sc t body KB ds σ2 μ2
    | .brk => KB .next σ2 μ2
    | .ret r => KB (.ret r) σ2 μ2
inductive FrI (G : Gr) (sc : Sc) (env : Env) (φ1 : Fs) (μ1 : Mu) (s1 : Shared) (I : Addr) (fp wr : List Addr) (P : Nat → Value → Prop) (St : Nat → Heap → Prop) (items : List D) (W : List D → Sg → Mu → Prop) (n : Nat) (s' : Shared) : Prop where
  | mk (i : Nat) (σ' : Sg) (φ' : Fs) (μ' : Mu) (w : W (items.drop i) σ' μ') (st : Step G (wr ++ xs env) φ1 μ1 s1 φ' μ' s') (e : EnvR G φ' μ' sc σ' env s'.heap) (T : ItAt G φ' μ' (xs env) I fp wr P St items) (hst : St i s'.heap) (hi : i ≤ items.length) (hn : n = items.length + 1 - i)
theorem WS.for {t iter : Expr} {body : List Stmt} {p : Pos} (h : WI G k sc σ t iter μ fun items hid μ1 => WLoop G k sc t body (fun fl σ μ => KB fl σ (hid ++ μ)) items σ μ1) (hs : ∀ env x, foldedSetIterable iter env x = pure x := by intro _ _; rfl) : WS G k sc σ (.For t iter body [] p) μ KB := fun env φ s I0 E0 => by
  refine wpAny_For ?_ (hs env)
  refine h env φ s _ I0 E0 fun I fp wr P St items hid φ1 μ1 s1 st0 T0 hst0 hwf hwh hfp hlo hL => ?_
  have hxe := E0.there
  have hxw : ∀ a ∈ xs env, a ∉ wr := fun a ha hw => by obtain ⟨o, ho⟩ := hxe a ha; rw [hwf a hw] at ho; cases ho
  have E1 := E0.step st0
  have hFx : ∀ p ∈ hid, p.1 ∉ xs env := fun p hp => E1.off p (List.mem_append_left _ hp)
  have hFX : ∀ p ∈ hid, p.1 ∉ wr ++ xs env := fun p hp hx => by
    rcases List.mem_append.mp hx with h | h
    · exact hwh _ h p hp rfl
    · exact hFx p hp h
  have I1 : Inv G φ1 μ1 s1 := st0.inv.sub_mu (fun p hp => List.mem_append_right _ hp) (by have := st0.inv.nd; rw [List.map_append, List.nodup_append] at this; exact this.2.1)
  have close : ∀ {φ' μ' s'}, Step G (wr ++ xs env) φ1 μ1 s1 φ' μ' s' → Step G (xs env) φ μ s φ' (hid ++ μ') s' := fun st =>
    ((st0.more fun _ h => nomatch h).trans (st.frame st0.inv hFX)).dropL hwf
  refine codeAny_forLoop_any (FrI G sc env φ1 μ1 s1 I fp wr P St items (WLoop G k sc t body fun fl σ μ => KB fl σ (hid ++ μ)))
    (fun n s2 hI => ?_) (items.length + 1) ⟨0, σ, φ1, μ1, hL, .refl I1, E1.sub fun p hp => List.mem_append_right _ hp, T0, hst0, Nat.zero_le _, rfl⟩
  obtain ⟨i, σ2, φ2, μ2, hL2, st2, E2, T2, hst2, hi, rfl⟩ := hI
  by_cases hlt : i < items.length
  · refine T2.next st2.inv hst2 hlt rfl fun v d h' tk hd r stn hst3 => ?_
    have hdrop : items.drop i = d :: items.drop (i + 1) := by
      obtain ⟨hl, e⟩ := List.getElem?_eq_some_iff.mp hd
      rw [List.drop_eq_getElem_cons hl, e]
    rw [hdrop] at hL2
    show wpAny _ _ (letOwnedTupleGo t (.ref I) v) _ _ _
    refine wpAny_mono (hlo (i + 1) { s2 with heap := h', toks := tk } v (fun _ s' => s' = { s2 with heap := h', toks := tk }) (Lv k) hst3 rfl) (fun _ s' e => ?_) nev
    subst e
    have E3 := E2.stepA stn hxw
    have T3 : ItAt G φ2 μ2 (xs env) I fp wr P St items := T2
    refine wpAny_mono (hL2 env φ2 _ v stn.inv E3 r) (fun _ s4 ⟨σ4, φ4, μ4, st4, E4, hB⟩ => ?_) nev
    refine wpAny_mono (hB env φ4 s4 st4.inv E4) (fun f s5 ⟨fl, σ5, φ5, μ5, st5, E5, fr, h5⟩ => ?_) nev
    have st45 : Step G (xs env) φ2 μ2 _ φ5 μ5 s5 := st4.trans st5
    obtain ⟨T5, hst5⟩ := T3.step stn.inv hst3 st45 (fun _ _ h => h)
    have stall : Step G (wr ++ xs env) φ1 μ1 s1 φ5 μ5 s5 := (st2.trans (stn.more fun a ha => List.mem_append_left _ ha)).trans (st45.more fun a ha => List.mem_append_right _ ha)
    have fin : ∀ (g : Flow) (gl : Fl), FlR G φ5 g gl → KB gl σ5 (hid ++ μ5) → PostB G sc env φ μ s KB g s5 := fun g gl hg hk => by
      exact ⟨gl, σ5, φ5, hid ++ μ5, close stall, E5.add hFx, hg, hk⟩
    cases fr.i <;> first
      | exact ⟨items.length + 1 - (i + 1), by lia, i + 1, σ5, φ5, μ5, h5, stall, E5, T5, hst5, hlt, rfl⟩
      | exact fin .next .next trivial h5
      | exact fin (.ret _) (.ret _) fr h5
  · have : i = items.length := by lia
    subst this
    refine T2.end hst2 rfl fun h' tk hk => ?_
    rw [List.drop_length] at hL2
    have E3 : EnvR G φ2 μ2 sc σ2 env h' := E2.keepH fun a ha o ho => hk a o (hxw a ha) ho
    have hw : ∀ b ∈ wr, s.heap.get? b = none ∧ φ2 b = none ∧ ∀ p ∈ hid ++ μ2, p.1 ≠ b := fun b hb => ⟨hwf b hb, (T2.wr b hb).1, fun p hp => by
      rcases List.mem_append.mp hp with hp | hp
      · exact hwh b hb p hp
      · exact (T2.wr b hb).2.1 p hp⟩
    exact wpAny_execs_nil ⟨.next, σ2, φ2, hid ++ μ2, (close st2).last (t := tk) hk hw, E3.add hFx, trivial, hL2⟩
end
noncomputable def IterD (G : Gr) (d : D) (items : List D) : Prop :=
  ∀ (φ : Fs) (μ : Mu) (s : Shared) (v : Value) (X : List Addr) (A : Around) (Q : Value → Shared → Prop), Inv G φ μ s → R G φ v d → A.handled = none → (∀ a ∈ X, ∃ o, s.heap.get? a = some o) →
    (∀ I fp wr P St h', (∀ b o, s.heap.get? b = some o → h'.get? b = some o) → ItAt G φ μ X I fp wr P St items → St 0 h' → (∀ b ∈ wr, s.heap.get? b = none) → (∀ b ∈ fp, b < h'.objs.size) →
      (∀ t i (s1 : Shared) v (Q' : Unit → Shared → Prop) A, St i s1.heap → Q' () s1 → wpAny G.M A (letOwnedTupleGo t (.ref I) v) Q' Nev s1) → Q (.ref I) { s with heap := h' }) →
    wpAny G.M A (pyIter v) Q Nev s
section
variable {G : Gr} {k : Nat} {φ φ' : Fs} {μ μ' : Mu} {s s' : Shared} {sc : Sc} {σ : Sg} {env : Env} {K K' : D → Mu → Prop} {KT KT' : Bool → Mu → Prop} {KB KB' : Fl → Sg → Mu → Prop}
theorem WI.of {t iter : Expr} {KL : List D → Mu → Mu → Prop} (h : WE G k sc σ iter μ fun d μ1 => ∃ items, IterD G d items ∧ KL items [] μ1) : WI G k sc σ t iter μ KL := fun env φ s Q I0 E0 hQ => by
  refine wpAny_mono (h env φ s I0 E0) (fun v s1 ⟨d, φ1, μ1, st, r, items, hI, hK⟩ => ?_) nev
  refine hI φ1 μ1 s1 v (xs env) (Lv k) Q st.inv r rfl (E0.step st).there fun I fp wr P St h' hg T hst hw hf hq => ?_
  have stg : Step G [] φ1 μ1 s1 φ1 μ1 { s1 with heap := h', toks := s1.toks } := Step.grow st.inv hg
  refine hQ I fp wr P St items [] φ1 μ1 _ (st.trans stg) T hst (fun b hb => ?_) (fun _ _ _ h => nomatch h) hf (hq t) hK
  cases e : s.heap.get? b with
  | none => rfl
  | some o => obtain ⟨o', h'⟩ := st.there _ _ e; rw [hw b hb] at h'; cases h'
theorem quiet_of {I : Addr} {o : Obj} {n : String} {vs : Array Value} {t : Expr} {v : Value} {A : Around} {Q' : Unit → Shared → Prop} (ho : s.heap.get? I = some o) (hc : o.cls = .type n) (hd : o.data = .fields vs)
    (hn : ["enumerate", "zip", "dict_itemiterator", "dict_reverseitemiterator", "odict_iterator", "itertools.zip_longest", "itertools.pairwise"].contains n = false) (h : Q' () s) : wpAny G.M A (letOwnedTupleGo t (.ref I) v) Q' Nev s := by
  have key : wpAny G.M A (do
    let (.ref r, .ref a) := (Value.ref I, v) | return
    let o ← load r
    match o.cls, o.data with
    | .type n, .fields vs =>
      if ["enumerate", "zip", "dict_itemiterator", "dict_reverseitemiterator", "odict_iterator", "itertools.zip_longest", "itertools.pairwise"].contains n && vs[0]? == some (rawInt a) then
        rule "for.unpacks-the-owned-tuple"
        updateField r 0 .none
    | _, _ => pure ()) Q' Nev s := by
    cases v <;> try exact wpAny_pure h
    refine wpAny_bind (wpAny_load ho ?_)
    simp only [hc, hd, hn, Bool.false_and, Bool.false_eq_true, if_false]
    exact wpAny_pure h
  unfold letOwnedTupleGo
  cases t <;> first | exact wpAny_pure h | exact key
theorem new_apart (I : Inv G φ μ s) {X : List Addr} (hX : ∀ a ∈ X, ∃ o, s.heap.get? a = some o) {a : Addr} (h : s.heap.get? a = none) : φ a = none ∧ (∀ p ∈ μ, p.1 ≠ a) ∧ a ∉ X := by
  refine ⟨I.none_of_new h, fun p hp e => ?_, fun ha => ?_⟩
  · obtain ⟨o, ho⟩ := (I.cells p hp).there; rw [e, h] at ho; cases ho
  · obtain ⟨o, ho⟩ := hX a ha; rw [h] at ho; cases ho
theorem mkIter (I : Inv G φ μ s) {X : List Addr} (hX : ∀ a ∈ X, ∃ o, s.heap.get? a = some o) {fz : List Addr} {P : Nat → Value → Prop} {St : Nat → Heap → Prop} {items : List D} {N : Addr} (hN : N = s.heap.objs.size)
    (W : ∀ A' : Around, A'.handled = none → Walks G.prog G.w A' N (N :: fz) [N] items.length P St) (live : ∀ i h, St i h → ∀ b ∈ N :: fz, ∃ o, h.get? b = some o) (item : ∀ i v, P i v → ∃ d, items[i]? = some d ∧ R G φ v d) (hfz : ∀ b ∈ fz, ∃ o, φ b = some o) :
    ItAt G φ μ X N (N :: fz) [N] P St items ∧ (∀ b ∈ [N], s.heap.get? b = none) ∧ ∀ o, ∀ b ∈ N :: fz, b < (s.heap.push o).objs.size := by
  subst hN
  have hn := fresh_none s (Nat.le_refl s.heap.objs.size)
  have ap := new_apart I hX hn
  refine ⟨⟨W, live, item, fun b hb => ?_, fun b hb => ?_⟩, fun b hb => ?_, fun o b hb => ?_⟩
  · simp only [List.mem_singleton] at hb; subst hb; exact ap
  · rcases List.mem_cons.mp hb with rfl | hb
    · exact .inr ap
    · exact .inl (hfz b hb)
  · simp only [List.mem_singleton] at hb; subst hb; exact hn
  · rw [Heap.size_push]
    rcases List.mem_cons.mp hb with rfl | hb
    · exact Nat.lt_succ_self _
    · obtain ⟨o, ho⟩ := hfz b hb
      exact Nat.lt_succ_of_lt (Heap.lt_size (I.sub _ _ ho))
theorem IterD.list (xs : List D) : IterD G (.list xs) xs := fun φ μ s v X A Q I r hA hX hQ => by
  obtain ⟨a, vs, n, rfl, ho, r⟩ := R.list_iff.mp r
  have hl : s.heap.IsList a vs.toArray := ⟨_, I.sub _ _ ho, rfl, _, rfl⟩
  have hne : a ≠ s.heap.objs.size := Nat.ne_of_lt (Heap.lt_size (I.sub _ _ ho))
  obtain ⟨T, hw, hf⟩ := mkIter (items := xs) (fz := [a]) (P := fun i v => vs.toArray[i]? = some v) (St := fun i h => h.IsListIter s.heap.objs.size a i ∧ h.IsList a vs.toArray) I hX rfl (fun A' hA' => by
      have := Walks.list (prog := G.prog) (w := G.w) hA' s.heap.objs.size a hne vs.toArray
      have e : vs.toArray.size = xs.length := by rw [← r.1]; simp
      exact e ▸ this) (fun i h st b hb => by
      simp at hb
      rcases hb with rfl | rfl
      · obtain ⟨o, ho, _⟩ := st.1; exact ⟨o, ho⟩
      · obtain ⟨o, ho, _⟩ := st.2; exact ⟨o, ho⟩) (fun i v hv => by
      have hv' : vs[i]? = some v := by simpa using hv
      obtain ⟨hi, _⟩ := List.getElem?_eq_some_iff.mp hv'
      have hx : i < xs.length := by rw [← r.1]; exact hi
      exact ⟨xs[i], by simp [hx], r.2 i v _ hv' (by simp [hx])⟩) (fun b hb => by simp at hb; subst hb; exact ⟨_, ho⟩)
  refine wpAny_pyIter_list hl (hQ _ _ _ _ _ _ (fun b o e => Heap.get?_push_of_some _ e) T ?_ hw (hf _) ?_)
  · exact ⟨⟨_, Heap.get?_push_size _ rfl, rfl, rfl⟩, ⟨_, Heap.get?_push_of_some _ (I.sub _ _ ho), rfl, _, rfl⟩⟩
  · intro t i s1 v Q' A' st h
    obtain ⟨o, ho, hc, hd⟩ := st.1
    exact quiet_of ho hc hd (by decide) h
noncomputable abbrev rangeObj (a b c : Int) (t u v : Tok) : Obj := { cls := .type "range", data := .fields #[.int a t, .int b u, .int c v] }
theorem IterD.range {n : Nat} {t u v : Tok} (hn : n ≤ 1000000) : IterD G (.fro (rangeObj 0 n 1 t u v)) ((List.range n).map fun (i : Nat) => D.int i) := fun φ μ s w X A Q I r hA hX hQ => by
  obtain ⟨a, rfl, ho⟩ := R.fro_iff.mp r
  have hsz : Builtin.Range.rangeSize 0 n 1 = n := by
    unfold Builtin.Range.rangeSize
    simp only [show (1 : Int) > 0 from by lia, if_true]
    split <;> lia
  obtain ⟨T, hw, hf⟩ := mkIter (items := (List.range n).map fun (i : Nat) => D.int i) (fz := []) (P := fun i v => i < n ∧ ∃ t, v = .int (0 + i * 1) t) (St := fun i h => IsRangeIter h s.heap.objs.size (0 + (i : Nat) * 1) ((n : Int) - (i : Nat)) 1) I hX rfl (fun A' hA' => by
      have W := Walks.range (prog := G.prog) (w := G.w) hA' s.heap.objs.size 0 1 n
      rw [List.length_map, List.length_range]
      exact ⟨W.sub, W.frame, fun i s Q E hi st hQ => W.item i s Q E hi st fun v h' tk hP => hQ v h' tk ⟨hi, hP⟩, W.done, W.self⟩) (fun i h st b hb => by
      simp at hb; subst hb
      exact ⟨_, st⟩) (fun i v hv => by
      obtain ⟨hi, t, rfl⟩ := hv
      exact ⟨.int i, by simp [hi], by rw [show (0 : Int) + i * 1 = i by lia]; exact .int _ _⟩) (fun b hb => nomatch hb)
  refine wpAny_pyIter_range (a := 0) (b := n) (c := 1) (t := t) (u := u) (v := v) (I.sub _ _ ho) ?_ (hQ _ _ _ _ _ _ (fun b o e => Heap.get?_push_of_some _ e) T ?_ hw (hf _) ?_)
  · unfold Builtin.Range.small
    rw [hsz]
    have e1 : ∀ i : Int, 0 ≤ i → i ≤ 1000000 → Builtin.Range.rangeFitsLong i = true := fun i h1 h2 => by
      unfold Builtin.Range.rangeFitsLong
      simp only [Bool.and_eq_true, decide_eq_true_eq]; lia
    rw [e1 0 (by lia) (by lia), e1 n (by lia) (by lia), e1 1 (by lia) (by lia), if_pos (by lia), e1 (↑n + (1 - 1)) (by lia) (by lia)]
    simp
  · rw [hsz]
    show Heap.get? _ _ = _
    rw [Heap.get?_push_size _ rfl]
    simp
  · intro t i s1 v Q' A' st h
    exact quiet_of st rfl rfl (by decide) h
end
noncomputable def relabelN (sc names : Sc) : Sc := names.map fun (n, k) => if (k == .free && sc.lookup n == some .cell) then (n, .cell) else (n, k)
noncomputable def clOf (env : Env) : Sc → List (Str × Addr) → List (Str × Addr)
  | [], cs => cs
  | (n, k) :: r, cs => if k == .free then clOf env r ((n, (env.cells.lookup n).getD 0) :: cs) else clOf env r cs
noncomputable def capF (scC : Sc) (σ : Sg) : Sg := σ.filter fun p => match scC.lookup p.1 with | some .cell => true | some .free => true | _ => false
noncomputable def compOk (sc names : Sc) : Bool := names.all fun (n, k) => k != .cell && (k != .free || (match sc.lookup n with | some .cell => true | _ => false))
section
variable {G : Gr} {k : Nat} {φ φ' : Fs} {μ μ' : Mu} {s s' : Shared} {sc scC : Sc} {σ σ' : Sg} {env : Env} {K K' : D → Mu → Prop} {KT KT' : Bool → Mu → Prop} {KB KB' : Fl → Sg → Mu → Prop}
theorem EnvR.congr {h : Heap} (E : EnvR G φ μ sc σ env h) (hs : ∀ x d, (sc.lookup x = some .local ∨ sc.lookup x = some .cell ∨ sc.lookup x = some .free) → σ'.lookup x = some d → σ.lookup x = some d) : EnvR G φ μ sc σ' env h := by
  obtain ⟨m, hm, hr⟩ := E.ns
  exact ⟨E.ok, E.loff, E.lmu, ⟨m, hm, fun x d h1 h2 => hr x d h1 (hs x d (.inl h1) h2)⟩, fun x d h1 h2 => E.cell x d h1 (hs x d (.inr h1) h2), E.own, E.cmu, E.apart⟩
theorem closureFor_of {scope : Scope} (h : ∀ n, (n, NameKind.free) ∈ scope.names → ∃ c, env.cells.lookup n = some c) : closureFor scope env = pure (clOf env scope.names []) := by
  have key : ∀ (names : Sc) (cs : List (Str × Addr)), (∀ n, (n, NameKind.free) ∈ names → ∃ c, env.cells.lookup n = some c) →
      (forIn names cs fun (x : Str × NameKind) (r : List (Str × Addr)) => (if (x.2 == NameKind.free) = true then do let c ← cellOf env x.1; pure (ForInStep.yield ((x.1, c) :: r)) else pure (ForInStep.yield r) : Sem (ForInStep (List (Str × Addr))))) = pure (clOf env names cs) := by
    intro names
    induction names with
    | nil => intro cs _; rfl
    | cons p r ih =>
      intro cs h
      obtain ⟨n, kd⟩ := p
      rw [List.forIn_cons]
      unfold clOf
      by_cases hk : (kd == NameKind.free) = true
      · have hk' : kd = .free := by simpa using hk
        subst hk'
        obtain ⟨c, hc⟩ := h n (.head _)
        have : cellOf env n = pure c := by unfold cellOf; rw [hc]
        have e1 : ((n, NameKind.free).2 == NameKind.free) = true := rfl
        have e2 : (NameKind.free == NameKind.free) = true := rfl
        rw [if_pos e1, if_pos e2]
        show (cellOf env n >>= fun c => pure (ForInStep.yield ((n, c) :: cs))) >>= _ = _
        rw [this, hc]
        exact ih _ fun m hm => h m (.tail _ hm)
      · have e1 : ¬ ((n, kd).2 == NameKind.free) = true := hk
        rw [if_neg e1, if_neg hk]
        exact ih _ fun m hm => h m (.tail _ hm)
  have := key scope.names [] h
  unfold closureFor
  exact (bind_pure (forIn scope.names ([] : List (Str × Addr)) fun (x : Str × NameKind) (r : List (Str × Addr)) => (if (x.2 == NameKind.free) = true then do let c ← cellOf env x.1; pure (ForInStep.yield ((x.1, c) :: r)) else pure (ForInStep.yield r) : Sem (ForInStep (List (Str × Addr)))))).trans this
theorem clOf_mem : ∀ (names : Sc) (cs : List (Str × Addr)) (x : Str) (c : Addr), (∀ n, (n, NameKind.free) ∈ names → ∃ c, env.cells.lookup n = some c) → (∀ y d, (y, d) ∈ cs → env.cells.lookup y = some d) → (x, c) ∈ clOf env names cs → env.cells.lookup x = some c
  | [], cs, x, c, _, h, hm => h x c hm
  | (n, kd) :: r, cs, x, c, hn, h, hm => by
    unfold clOf at hm
    split at hm
    · rename_i hk
      have hk' : kd = .free := by simpa using hk
      subst hk'
      obtain ⟨c', hc'⟩ := hn n (.head _)
      refine clOf_mem r _ x c (fun m hm => hn m (.tail _ hm)) (fun y d hy => ?_) hm
      rcases List.mem_cons.mp hy with e | hy
      · cases e; rw [hc']; rfl
      · exact h y d hy
    · exact clOf_mem r _ x c (fun m hm => hn m (.tail _ hm)) h hm
theorem clOf_has : ∀ (names : Sc) (cs : List (Str × Addr)) (x : Str), ((x, NameKind.free) ∈ names ∨ x ∈ cs.map (·.1)) → x ∈ (clOf env names cs).map (·.1)
  | [], cs, x, h => h.resolve_left (fun h => nomatch h)
  | (n, kd) :: r, cs, x, h => by
    unfold clOf
    split
    · rename_i hk
      refine clOf_has r _ x ?_
      rcases h with h | h
      · rcases List.mem_cons.mp h with e | h
        · cases e; exact .inr (.head _)
        · exact .inl h
      · exact .inr (.tail _ h)
    · rename_i hk
      refine clOf_has r _ x ?_
      rcases h with h | h
      · rcases List.mem_cons.mp h with e | h
        · cases e; simp at hk
        · exact .inl h
      · exact .inr h
theorem lookup_some_of_mem {l : List (Str × Addr)} {x : Str} (h : x ∈ l.map (·.1)) : ∃ c, l.lookup x = some c := by
  induction l with
  | nil => cases h
  | cons p r ih =>
    obtain ⟨y, c⟩ := p
    rw [List.lookup_cons]
    cases e : x == y with
    | true => exact ⟨c, rfl⟩
    | false =>
      rcases List.mem_cons.mp h with h | h
      · simp at e; exact absurd h e
      · exact ih h
theorem lookup_relabelN {sc : Sc} : ∀ {names : Sc} {x : Str} {kd : NameKind}, (relabelN sc names).lookup x = some kd → (kd = .cell ∧ sc.lookup x = some .cell ∧ (x, NameKind.free) ∈ names) ∨ (x, kd) ∈ names
  | [], x, kd, h => by cases h
  | (n, k0) :: r, x, kd, h => by
    unfold relabelN at h
    rw [List.map_cons] at h
    by_cases hc : (k0 == NameKind.free && sc.lookup n == some NameKind.cell) = true
    · simp only [hc, if_true] at h
      rw [List.lookup_cons] at h
      cases e : x == n with
      | true =>
        rw [e] at h; cases h
        have : x = n := by simpa using e
        subst this
        simp only [Bool.and_eq_true, beq_iff_eq] at hc
        exact .inl ⟨rfl, hc.2, by rw [hc.1]; exact .head _⟩
      | false =>
        rw [e] at h
        exact (lookup_relabelN (names := r) h).imp (fun ⟨a, b, c⟩ => ⟨a, b, .tail _ c⟩) (.tail _)
    · dsimp only at h
      rw [if_neg hc] at h
      have h : List.lookup x ((n, k0) :: relabelN sc r) = some kd := h
      rw [List.lookup_cons] at h
      cases e : x == n with
      | true =>
        rw [e] at h; cases h
        have : x = n := by simpa using e
        subst this
        exact .inr (.head _)
      | false =>
        rw [e] at h
        exact (lookup_relabelN (names := r) h).imp (fun ⟨a, b, c⟩ => ⟨a, b, .tail _ c⟩) (.tail _)
theorem capF_lookup {x : Str} {d : D} : (capF scC σ).lookup x = some d → (scC.lookup x = some .cell ∨ scC.lookup x = some .free) ∧ σ.lookup x = some d := by
  induction σ with
  | nil => intro h; cases h
  | cons p r ih =>
    obtain ⟨y, e⟩ := p
    intro h
    unfold capF at h
    rw [List.filter_cons] at h
    by_cases hc : (match scC.lookup y with | some .cell => true | some .free => true | _ => false) = true
    · simp only [hc, if_true] at h
      rw [List.lookup_cons] at h ⊢
      cases q : x == y with
      | true =>
        rw [q] at h
        have : x = y := by simpa using q
        subst this
        refine ⟨?_, h⟩
        split at hc <;> simp_all
      | false => rw [q] at h; exact ih h
    · have h : (capF scC r).lookup x = some d := by simpa [hc, capF] using h
      obtain ⟨a, b⟩ := ih h
      refine ⟨a, ?_⟩
      rw [List.lookup_cons]
      cases q : x == y with
      | true =>
        exfalso
        have : x = y := by simpa using q
        subst this
        rcases a with a | a <;> simp [a] at hc
      | false => exact b
theorem capF_has {x : Str} {d : D} (hk : scC.lookup x = some .cell ∨ scC.lookup x = some .free) (h : σ.lookup x = some d) : (capF scC σ).lookup x = some d := by
  induction σ with
  | nil => cases h
  | cons p r ih =>
    obtain ⟨y, e⟩ := p
    unfold capF
    rw [List.filter_cons]
    rw [List.lookup_cons] at h
    cases q : x == y with
    | true =>
      rw [q] at h
      have : x = y := by simpa using q
      subst this
      have : (match scC.lookup x with | some .cell => true | some .free => true | _ => false) = true := by rcases hk with hk | hk <;> simp [hk]
      rw [if_pos this, List.lookup_cons, q]; exact h
    | false =>
      rw [q] at h
      by_cases hc : (match scC.lookup y with | some .cell => true | some .free => true | _ => false) = true
      · rw [if_pos hc, List.lookup_cons, q]; exact ih h
      · rw [if_neg hc]; exact ih h
theorem compOk_cell {names : Sc} (hok : compOk sc names = true) : (∀ x ∈ names, x.2 ≠ .cell) ∧ ∀ n, (n, NameKind.free) ∈ names → sc.lookup n = some .cell := by
  refine ⟨fun x hx e => ?_, fun n hn => ?_⟩
  · obtain ⟨y, kd⟩ := x
    have := List.all_eq_true.mp hok _ hx
    subst e
    simp at this
  · have := List.all_eq_true.mp hok _ hn
    simp only [Bool.and_eq_true, Bool.or_eq_true] at this
    have := this.2.resolve_left (by simp)
    split at this <;> simp_all
theorem relabel_names {scope : Scope} (hk : EnvOk sc env) : (relabel scope env).names = relabelN sc scope.names := by
  unfold relabel relabelN
  simp only [hk.kind, hk.kindOf, beq_self_eq_true, Bool.and_true]
theorem comp_hex {names : Sc} {h : Heap} (E : EnvR G φ μ sc σ env h) (hok : compOk sc names = true) : ∀ n, (n, NameKind.free) ∈ names → ∃ c, env.cells.lookup n = some c := fun n hn => by
  obtain ⟨c, v, hc, _⟩ := E.own n ((compOk_cell hok).2 n hn)
  exact ⟨c, hc⟩
theorem comp_env {scope : Scope} {C : Addr} {h h' : Heap} (E : EnvR G φ μ sc σ env h) (hok : compOk sc scope.names = true) (hkind : scope.kind = .function) (hk : ∀ b o, h.get? b = some o → h'.get? b = some o)
    (hC : h.get? C = none) (hφ : φ C = none) (hμ : ∀ p ∈ μ, p.1 ≠ C) (hN : h'.Ns C fun _ => none) :
    EnvR G φ μ (relabelN sc scope.names) (capF (relabelN sc scope.names) σ) (compEnvC scope (clOf env scope.names []) C env) h' := by
  have hex := comp_hex E hok
  have hcl : ∀ {x c}, (clOf env scope.names []).lookup x = some c → env.cells.lookup x = some c := fun h => clOf_mem scope.names [] _ _ hex (fun _ _ h => nomatch h) (mem_of_lookup h)
  have hrel : ∀ {x}, (relabelN sc scope.names).lookup x = some .cell → sc.lookup x = some .cell ∧ (x, NameKind.free) ∈ scope.names := fun {x} h => by
    rcases lookup_relabelN h with ⟨_, h1, h2⟩ | h
    · exact ⟨h1, h2⟩
    · exact absurd rfl ((compOk_cell hok).1 _ h)
  have hrf : ∀ {x}, (relabelN sc scope.names).lookup x = some .free → sc.lookup x = some .cell ∧ (x, NameKind.free) ∈ scope.names := fun {x} h => by
    rcases lookup_relabelN h with ⟨h1, _⟩ | h
    · cases h1
    · exact ⟨(compOk_cell hok).2 _ h, h⟩
  have hasc : ∀ {x}, (x, NameKind.free) ∈ scope.names → ∃ c, (clOf env scope.names []).lookup x = some c := fun h => lookup_some_of_mem (clOf_has scope.names [] _ (.inl h))
  have cellk : ∀ {c v}, h.IsCell c v → h'.IsCell c v := fun ⟨o, ho, hd⟩ => ⟨o, hk _ _ ho, hd⟩
  refine ⟨⟨hkind, relabel_names E.ok, E.ok.globals, E.ok.builtins⟩, hφ, hμ, ⟨_, hN, fun x d h1 h2 => ?_⟩, fun x d h1 h2 => ?_, fun x hx => ?_, fun x c hx => ?_, fun x y c hx hy => E.apart x y c (hcl hx) (hcl hy)⟩
  · obtain ⟨h3, _⟩ := capF_lookup h2
    rw [h1] at h3; rcases h3 with h3 | h3 <;> cases h3
  · obtain ⟨_, h3⟩ := capF_lookup h2
    have h4 : sc.lookup x = some .cell ∧ (x, NameKind.free) ∈ scope.names := by rcases h1 with h1 | h1; exact hrel h1; exact hrf h1
    obtain ⟨c, v, hc, hv, r⟩ := E.cell x d (.inl h4.1) h3
    obtain ⟨c', hc'⟩ := hasc h4.2
    have := hcl hc'
    rw [hc] at this; cases this
    exact ⟨c, v, hc', cellk hv, r⟩
  · obtain ⟨h1, h2⟩ := hrel hx
    obtain ⟨c, v, hc, hv, h3, h4⟩ := E.own x h1
    obtain ⟨c', hc'⟩ := hasc h2
    have := hcl hc'
    rw [hc] at this; cases this
    refine ⟨c, v, hc', cellk hv, h3, fun e => ?_⟩
    obtain ⟨o, ho, _⟩ := hv
    have e' : c = C := e
    rw [e', hC] at ho; cases ho
  · obtain ⟨h1, v, hv⟩ := E.cmu x c (hcl hx)
    exact ⟨h1, v, cellk hv⟩
end
section
variable {G : Gr} {k : Nat} {φ φ' : Fs} {μ μ' : Mu} {s s' : Shared} {sc scC : Sc} {σ σ' : Sg} {env : Env} {K K' : D → Mu → Prop} {KT KT' : Bool → Mu → Prop} {KB KB' : Fl → Sg → Mu → Prop}
noncomputable def WAL (G : Gr) (k : Nat) (sc : Sc) (σ : Sg) (t : Expr) (d : D) (μ : Mu) (K : Sg → Mu → Prop) : Prop :=
  ∀ env φ s v, Inv G φ μ s → EnvR G φ μ sc σ env s.heap → R G φ v d → ∀ (E' : Value → Shared → Prop), wpAny G.M (Lv k) (assign t env v) (PostA G sc env [env.locals] φ μ s K) E' s
theorem WAL.name {x : Str} {p : Pos} {d : D} {K : Sg → Mu → Prop} (hx : sc.lookup x = some .local) (h : K (setS σ x d) μ) : WAL G k sc σ (.Name x p) d μ K := fun env φ s v I E r _ =>
  wpAny_assign_Name (store_ofL I E r hx fun h' tk st E' => ⟨_, φ, μ, st, E', h⟩)
theorem WAL.tup {es : List Expr} {n : Nat} {p : Pos} {ds : List D} {names : List Str} {K : Sg → Mu → Prop} (hn : allNames es = some names) (hx : (names.all fun x => sc.lookup x == some .local) = true) (hl : names.length = ds.length) (h : K (setAll σ names ds) μ) : WAL G k sc σ (.Tuple es n p) (.tup ds) μ K := fun env φ s v I E r E' =>
  wpAny_mono (assignTup_of (X := [env.locals]) hn (fun x hx' _ _ _ _ _ _ _ _ I E r h => store_ofL I E r (by simpa using List.all_eq_true.mp hx x hx') h) hl I E r) (fun _ s2 ⟨st2, E2⟩ => ⟨_, φ, μ, st2, E2, h⟩) fun _ _ h => h
noncomputable def WIfs (G : Gr) (k : Nat) (sc : Sc) (σ : Sg) : List Expr → Mu → (Bool → Mu → Prop) → Prop
  | [], μ, K => K true μ
  | [c], μ, K => WT G k sc σ c μ K
  | _, _, _ => False
noncomputable def WLC (G : Gr) (k : Nat) (scC : Sc) (elt t : Expr) (ifs : List Expr) (KD : List D → Mu → Prop) : List D → Sg → List D → Mu → Prop
  | [], _, acc, μ => KD acc μ
  | d :: ds, σ, acc, μ => WAL G k scC σ t d μ fun σ1 μ1 => WIfs G k scC σ1 ifs μ1 fun b μ2 =>
    if b then WE G k scC σ1 elt μ2 fun x μ3 => WLC G k scC elt t ifs KD ds σ1 (acc ++ [x]) μ3 else WLC G k scC elt t ifs KD ds σ1 acc μ2
theorem ifs_of {ifs : List Expr} (h : WIfs G k sc σ ifs μ KT) (I : Inv G φ μ s) (E : EnvR G φ μ sc σ env s.heap) :
    wpAny G.M (Lv k) (forIn ifs true fun c r => if r = true then do let ok ← isTrue c env (eval c env); pure (ForInStep.yield ok) else pure (ForInStep.yield r)) (PostT G φ μ s KT) Nev s := by
  match ifs, h with
  | [], h => exact wpAny_tests_nil ⟨φ, μ, .refl I, h⟩
  | [c], h => exact wpAny_tests_one (h env φ s I E)
  | _ :: _ :: _, h => exact h.elim
theorem Step.seal {Y : List Addr} {A : Addr} {o : Obj} (a : Step G Y φ μ s φ' μ' s') (hn : s.heap.get? A = none) (h0 : φ' A = none) (hm : ∀ p ∈ μ', p.1 ≠ A) (ho : s'.heap.get? A = some o) : Step G Y φ μ s (φ'.put A o) μ' s' := by
  have J := a.inv
  have le := Fs.put_le (o := o) h0
  refine ⟨⟨fun b o' e => le _ _ (J.base b o' e), fun b o' e => ?_, fun p hp => (J.cells p hp).mono le (fun _ h => h), fun p hp => ?_, J.nd, J.gens, J.os, J.dr⟩, a.le.trans le, a.keep, a.there, a.fresh, fun b o' e => ?_⟩
  · unfold Fs.put at e
    split at e
    · rename_i hb; subst hb; cases e; exact ho
    · exact J.sub b o' e
  · unfold Fs.put
    rw [if_neg (hm p hp)]; exact J.off p hp
  · rcases Fs.put_or e with e | e
    · exact a.fz b o' e
    · subst e; exact .inr (.inl hn)
end
section
variable {G : Gr} {k : Nat} {φ φ' : Fs} {μ μ' : Mu} {s s' : Shared} {sc scC : Sc} {σ σ' : Sg} {env : Env} {K K' : D → Mu → Prop} {KT KT' : Bool → Mu → Prop} {KB KB' : Fl → Sg → Mu → Prop}
theorem compLoop_gen {elt target iter : Expr} {ifs : List Expr} {scope : Scope} {pos : Pos} {it acc : Value} {env : Env} {A : Around} {RR : Result → Shared → Prop} (I : Nat → Shared → Prop)
    (turn : ∀ n s, I n s → wpAny G.M A (pyNext it) (fun r s₁ => match r with
      | none => RR (.ok .next) s₁
      | some v => wpAny G.M A (letOwnedTupleGo target it v) (fun _ s₀ => wpAny G.M A (assign target env v) (fun _ s₂ =>
          wpAny G.M A (forIn ifs true fun c r => if r = true then do let ok ← isTrue c env (eval c env); pure (ForInStep.yield ok) else pure (ForInStep.yield r)) (fun ok s₃ =>
            if ok = true then wpAny G.M A (eval elt env) (fun x s₄ =>
              wpAny G.M A (call (.builtin "list.append") [acc, x]) (fun _ s₅ => ∃ m, m < n ∧ I m s₅) Nev s₄) Nev s₃
            else ∃ m, m < n ∧ I m s₃) Nev s₂) Nev s₀) Nev s₁) Nev s)
    (n : Nat) (h : I n s) : codeAny G.M A (.compLoop (.ListComp elt [⟨target, iter, ifs, 0⟩] scope pos) 0 it acc env) RR s := by
  refine codeAny_loop rfl I (fun n s hI => ?_) n h
  show wpAny _ A ((compTurn (.ListComp elt [⟨target, iter, ifs, 0⟩] scope pos) 0 it acc env).onRaise (fun x => do noteFrame x env; theTreesLotGoes x)) _ _ s
  refine wpAny_noted ?_
  rw [compTurn_list]
  refine wpAny_bind (wpAny_standAt (wpAny_bind (wpAny_mono (turn n s hI) (fun r s₁ h₁ => ?_) nev)))
  cases r with
  | none => exact wpAny_pure h₁
  | some v =>
    refine wpAny_bind (wpAny_mono h₁ (fun _ s₀ h₀ => ?_) nev)
    refine wpAny_bind (wpAny_mono h₀ (fun _ s₂ h₂ => wpAny_bind (wpAny_mono h₂ (fun ok s₃ h₃ => ?_) nev)) nev)
    cases ok with
    | false => exact wpAny_pure ⟨rfl, h₃⟩
    | true =>
      exact wpAny_bind (wpAny_bind (wpAny_mono h₃ (fun x s₄ h₄ => wpAny_bind (wpAny_mono h₄ (fun _ s₅ h₅ => wpAny_pure (wpAny_pure ⟨rfl, h₅⟩)) nev)) nev))
theorem Step.hid {X : List Addr} {A : Addr} (st : Step G X φ μ s φ' μ' s') (hx : A ∉ X) (h1 : φ A = none) (h2 : ∀ p ∈ μ, p.1 ≠ A) (h3 : ∃ o, s.heap.get? A = some o) : φ' A = none ∧ ∀ p ∈ μ', p.1 ≠ A := by
  obtain ⟨o, ho⟩ := h3
  refine ⟨?_, fun p hp e => ?_⟩
  · cases e : φ' A with
    | none => rfl
    | some x =>
      rcases st.fz A x e with h' | h' | ⟨p, hp, h'⟩ | h'
      · rw [h1] at h'; cases h'
      · rw [ho] at h'; cases h'
      · exact absurd h' (h2 p hp)
      · exact absurd h' hx
  · rcases st.fresh p hp with ⟨q, hq, h'⟩ | h'
    · exact h2 q hq (h'.trans e)
    · rw [e, ho] at h'; cases h'
inductive CompEnd (G : Gr) (φ : Fs) (μ : Mu) (s : Shared) (K : D → Mu → Prop) (acc : Value) (C : Addr) (s' : Shared) : Prop where
  | mk (d : D) (φ' : Fs) (μ' : Mu) (m : Str → Option Value) (st : Step G [] φ μ s φ' μ' s') (r : R G φ' acc d) (k : K d μ') (ns : s'.heap.Ns C m) (n1 : s.heap.get? C = none) (n2 : φ' C = none) (n3 : ∀ p ∈ μ', p.1 ≠ C)
structure CompFr (G : Gr) (φ φ1 : Fs) (μ μ1 hid : Mu) (s s1 : Shared) (scR : Sc) (σ1 : Sg) (envC : Env) (h₁ : Heap) (o0 : Obj) (I : Addr) (fp wr : List Addr) (P : Nat → Value → Prop) (St : Nat → Heap → Prop) (items : List D) (A C : Addr) (Y : List Addr) : Prop where
  nA : s1.heap.get? A = none
  nC : s1.heap.get? C = none
  hAC : A ≠ C
  sysA : (A == sysModules) = false
  back : ∀ a, s1.heap.get? a = none → s.heap.get? a = none
  hidt : ∀ p ∈ hid, ∃ o, s1.heap.get? p.1 = some o
  aA : φ1 A = none
  mA : ∀ p ∈ μ1, p.1 ≠ A
  kpA : h₁.get? A = some o0
  E2 : EnvR G φ1 μ1 scR σ1 envC h₁
  st1 : Step G (wr ++ (A :: C :: Y)) φ1 μ1 s1 φ1 μ1 { s1 with heap := h₁, toks := s1.toks }
  close : ∀ φ' μ' s', Step G (wr ++ (A :: C :: Y)) φ1 μ1 s1 φ' μ' s' → Step G (wr ++ (A :: C :: Y)) φ μ s φ' (hid ++ μ') s'
  frX : ∀ x ∈ wr ++ (A :: C :: Y), s.heap.get? x = none
  hfpA : A ∉ fp
  hfpC : C ∉ fp
  T1 : ItAt G φ1 μ1 (A :: C :: Y) I fp wr P St items
  hst1 : St 0 h₁
  hwf : ∀ b ∈ wr, s.heap.get? b = none
  hwh : ∀ b ∈ wr, ∀ p ∈ hid, p.1 ≠ b
  hxsC : ∀ a ∈ xs envC, a ∉ wr
  hxsA : ∀ a ∈ xs envC, a ≠ A
theorem comp_fr0 {o0 : Obj} {φ1 : Fs} {μ1 hid : Mu} {s1 : Shared} {scR : Sc} {σ1 : Sg} {envC : Env} {I A C : Addr} {Y fp wr : List Addr} {P : Nat → Value → Prop} {St : Nat → Heap → Prop} {items : List D} {h₁ : Heap}
    (st0 : Step G [] φ μ s φ1 (hid ++ μ1) s1) (I1 : Inv G φ1 μ1 s1) (T0 : ItAt G φ1 μ1 (xs env) I fp wr P St items) (hst0 : St 0 s1.heap) (hwf : ∀ b ∈ wr, s.heap.get? b = none) (hwh : ∀ b ∈ wr, ∀ p ∈ hid, p.1 ≠ b) (hfp : ∀ b ∈ fp, b < s1.heap.objs.size)
    (hA : s1.heap.objs.size = A) (hY : ∀ y ∈ C :: Y, A < y) (kp : ∀ b o, s1.heap.get? b = some o → h₁.get? b = some o) (kpA : h₁.get? A = some o0) (E2 : EnvR G φ1 μ1 scR σ1 envC h₁) (hxs : ∀ a ∈ xs envC, a ∈ C :: Y ∨ ∃ o, s.heap.get? a = some o) :
    CompFr G φ φ1 μ μ1 hid s s1 scR σ1 envC h₁ o0 I fp wr P St items A C Y := by
  have ge : ∀ y ∈ A :: C :: Y, s1.heap.objs.size ≤ y := fun y hy => by
    rcases List.mem_cons.mp hy with rfl | hy
    · exact Nat.le_of_eq hA
    · rw [hA]; exact Nat.le_of_lt (hY y hy)
  have new : ∀ y ∈ A :: C :: Y, s1.heap.get? y = none := fun y hy => fresh_none s1 (ge y hy)
  have nA := new A (.head _)
  have nC := new C (.tail _ (.head _))
  have hAC : A ≠ C := Nat.ne_of_lt (hY C (.head _))
  have back : ∀ a, s1.heap.get? a = none → s.heap.get? a = none := fun a e => by
    cases q : s.heap.get? a with
    | none => rfl
    | some o => obtain ⟨o', h'⟩ := st0.there _ _ q; rw [e] at h'; cases h'
  have hidt : ∀ p ∈ hid, ∃ o, s1.heap.get? p.1 = some o := fun p hp => (st0.inv.cells p (List.mem_append_left _ hp)).there
  have apA := new_apart (X := []) I1 (fun _ h => nomatch h) nA
  have st1 : Step G (wr ++ (A :: C :: Y)) φ1 μ1 s1 φ1 μ1 { s1 with heap := h₁, toks := s1.toks } := Step.grow I1 kp
  have hFX : ∀ p ∈ hid, p.1 ∉ wr ++ (A :: C :: Y) := fun p hp hx => by
    rcases List.mem_append.mp hx with h | h
    · exact hwh _ h p hp rfl
    · obtain ⟨o, ho⟩ := hidt p hp
      rw [new _ h] at ho; cases ho
  have hfpY : ∀ y ∈ A :: C :: Y, y ∉ fp := fun y hy h => Nat.not_lt.mpr (ge y hy) (hfp _ h)
  have frX : ∀ x ∈ wr ++ (A :: C :: Y), s.heap.get? x = none := fun x hx => by
    rcases List.mem_append.mp hx with h | h
    · exact hwf x h
    · exact back _ (new x h)
  have sub := (T0.W (Lv 0) rfl).sub
  have T1 : ItAt G φ1 μ1 (A :: C :: Y) I fp wr P St items := ⟨T0.W, T0.live, T0.item, fun b hb => ⟨(T0.wr b hb).1, (T0.wr b hb).2.1, fun h => hfpY b h (sub b hb)⟩, fun b hb => (T0.fp b hb).imp_right fun h => ⟨h.1, h.2.1, fun h => hfpY b h hb⟩⟩
  have hst1 : St 0 h₁ := (T0.W (Lv 0) rfl).frame _ _ _ hst0 fun b _ o e => kp b o e
  refine ⟨nA, nC, hAC, I1.notSys (by rw [hA]; exact Nat.le_refl _), back, hidt, apA.1, apA.2.1, kpA, E2, st1, fun _ _ _ st => (st0.more fun _ h => nomatch h).trans (st.frame st0.inv hFX), frX, hfpY A (.head _), hfpY C (.tail _ (.head _)), T1, hst1, hwf, hwh, fun a ha hw => ?_, fun a ha e => ?_⟩
  · rcases hxs a ha with h | ⟨o, ho⟩
    · exact hfpY a (.tail _ h) (sub _ hw)
    · rw [hwf a hw] at ho; cases ho
  · rcases hxs a ha with h | ⟨o, ho⟩
    · exact Nat.lt_irrefl _ (e ▸ hY a h)
    · rw [e, back _ nA] at ho; cases ho
theorem comp_fr {scope : Scope} {o0 oF : Obj} {φ1 : Fs} {μ1 hid : Mu} {s1 : Shared} {I A C : Addr} {fp wr : List Addr} {P : Nat → Value → Prop} {St : Nat → Heap → Prop} {items : List D} {H2 h₁ : Heap}
    (hok : compOk sc scope.names = true) (hkind : scope.kind = .function) (E0 : EnvR G φ μ sc σ env s.heap)
    (st0 : Step G [] φ μ s φ1 (hid ++ μ1) s1) (T0 : ItAt G φ1 μ1 (xs env) I fp wr P St items) (hst0 : St 0 s1.heap) (hwf : ∀ b ∈ wr, s.heap.get? b = none) (hwh : ∀ b ∈ wr, ∀ p ∈ hid, p.1 ≠ b) (hfp : ∀ b ∈ fp, b < s1.heap.objs.size)
    (hf : o0.isFreed = false) (hA : s1.heap.objs.size = A) (hH2 : s1.heap.push o0 = H2) (hC : H2.objs.size = C) (hns₁ : h₁.Ns C fun _ => none) (hsb₁ : Heap.SameBut C (H2.push oF) h₁) :
    CompFr G φ φ1 μ μ1 hid s s1 (relabelN sc scope.names) (capF (relabelN sc scope.names) σ) (compEnvC scope (clOf env scope.names []) C env) h₁ o0 I fp wr P St items A C [] := by
  have hCA : C = A + 1 := by rw [← hC, ← hH2, Heap.size_push, hA]
  have nC : s1.heap.get? C = none := fresh_none s1 (by rw [hA, hCA]; exact Nat.le_succ _)
  have hAC : A ≠ C := by rw [hCA]; exact Nat.ne_of_lt (Nat.lt_succ_self _)
  have E1 : EnvR G φ1 μ1 sc σ env s1.heap := (E0.step st0).sub fun p hp => List.mem_append_right _ hp
  have I1 : Inv G φ1 μ1 s1 := st0.inv.sub_mu (fun p hp => List.mem_append_right _ hp) (by have := st0.inv.nd; rw [List.map_append, List.nodup_append] at this; exact this.2.1)
  have apC := new_apart (X := []) I1 (fun _ h => nomatch h) nC
  have getA : H2.get? A = some o0 := by rw [← hH2, ← hA]; exact Heap.get?_push_size _ hf
  have kp : ∀ b o, s1.heap.get? b = some o → h₁.get? b = some o := fun b o e => by
    have hb := Heap.lt_size e
    have h2 : H2.get? b = some o := by rw [← hH2]; exact Heap.get?_push_of_some _ e
    have hne : b ≠ C := by rw [hCA, ← hA]; exact Nat.ne_of_lt (Nat.lt_succ_of_lt hb)
    exact (hsb₁.2 b hne).trans (Heap.get?_push_of_some _ h2)
  have kpA : h₁.get? A = some o0 := (hsb₁.2 A hAC).trans (Heap.get?_push_of_some _ getA)
  refine comp_fr0 st0 I1 T0 hst0 hwf hwh hfp hA (fun y hy => by rw [List.mem_singleton.mp hy, hCA]; exact Nat.lt_succ_self _) kp kpA (comp_env E1 hok hkind kp nC apC.1 apC.2.1 hns₁) fun a ha => ?_
  rcases mem_xs.mp ha with rfl | ⟨n, hn⟩
  · exact .inl (.head _)
  · have hm := clOf_mem scope.names [] _ _ (comp_hex E0 hok) (fun _ _ h => nomatch h) (mem_of_lookup hn)
    exact .inr (E0.there a (mem_xs.mpr (.inr ⟨n, hm⟩)))
theorem CompFr.done {φ1 φ2 : Fs} {μ1 μ2 hid : Mu} {s1 s2 : Shared} {scR : Sc} {σ1 σ2 : Sg} {envC : Env} {h₁ h' : Heap} {o0 oA : Obj} {I A C : Addr} {Y fp wr : List Addr} {P : Nat → Value → Prop} {St : Nat → Heap → Prop} {items : List D} {d : D} {tk : Nat}
    (F : CompFr G φ φ1 μ μ1 hid s s1 scR σ1 envC h₁ o0 I fp wr P St items A C Y) (hl : envC.locals = C) (st2 : Step G (wr ++ (A :: C :: Y)) φ1 μ1 s1 φ2 μ2 s2) (E2 : EnvR G φ2 μ2 scR σ2 envC s2.heap) (T2 : ItAt G φ2 μ2 (A :: C :: Y) I fp wr P St items)
    (hφA : φ2 A = none) (hμA : ∀ p ∈ μ2, p.1 ≠ A) (hPn : s2.heap.get? A = some oA) (hk : ∀ b o, b ∉ wr → s2.heap.get? b = some o → h'.get? b = some o) (hr : R G (φ2.put A oA) (.ref A) d) (hK : K d (hid ++ μ2)) :
    CompEnd G φ μ s K (.ref A) C { s2 with heap := h', toks := tk } := by
  subst hl
  have hw : ∀ b ∈ wr, s.heap.get? b = none ∧ φ2 b = none ∧ ∀ p ∈ hid ++ μ2, p.1 ≠ b := fun b hb => ⟨F.hwf b hb, (T2.wr b hb).1, fun p hp => by
    rcases List.mem_append.mp hp with hp | hp
    · exact F.hwh b hb p hp
    · exact (T2.wr b hb).2.1 p hp⟩
  have hoff : ∀ (B : Addr), s1.heap.get? B = none → (∀ p ∈ μ2, p.1 ≠ B) → ∀ p ∈ hid ++ μ2, p.1 ≠ B := fun B hB hm p hp e => by
    rcases List.mem_append.mp hp with hp | hp
    · obtain ⟨o, ho⟩ := F.hidt p hp; rw [e, hB] at ho; cases ho
    · exact hm p hp e
  have sub := (T2.W (Lv 0) rfl).sub
  have sts := (((F.close _ _ _ st2).last (t := tk) hk hw).seal (F.back _ F.nA) hφA (hoff A F.nA hμA) (hk A _ (fun h => F.hfpA (sub _ h)) hPn)).drop F.frX
  obtain ⟨m, ⟨oL, es, ep, hL, hL2'⟩, _⟩ := E2.ns
  refine ⟨d, _, hid ++ μ2, m, sts, hr, hK, ⟨oL, es, ep, hk _ _ (fun h => F.hfpC (sub _ h)) hL, hL2'⟩, F.back _ F.nC, ?_, hoff _ F.nC E2.lmu⟩
  unfold Fs.put
  rw [if_neg (Ne.symm F.hAC)]; exact E2.loff
inductive LCI (G : Gr) (φ1 : Fs) (μ1 : Mu) (s1 : Shared) (scR : Sc) (envC : Env) (I : Addr) (fp wr : List Addr) (P : Nat → Value → Prop) (St : Nat → Heap → Prop) (items : List D) (A C : Addr) (Y : List Addr) (W : List D → Sg → List D → Mu → Prop) (n : Nat) (s' : Shared) : Prop where
  | mk (i : Nat) (σ' : Sg) (φ' : Fs) (μ' : Mu) (vs : List Value) (ys : List D) (hL : W (items.drop i) σ' ys μ') (st : Step G (wr ++ (A :: C :: Y)) φ1 μ1 s1 φ' μ' s') (E : EnvR G φ' μ' scR σ' envC s'.heap) (T : ItAt G φ' μ' (A :: C :: Y) I fp wr P St items) (hst : St i s'.heap)
    (hP : s'.heap.PlainList A (List.toArray vs)) (hR : Rs G φ' vs ys) (hys : ys.length ≤ i) (hφA : φ' A = none) (hμA : ∀ p ∈ μ', p.1 ≠ A) (hi : i ≤ items.length) (hn : n = items.length + 1 - i)
inductive LcRow (G : Gr) (k : Nat) (scR : Sc) (envC : Env) (elt : Expr) (X : List Addr) (W : List D → Sg → List D → Mu → Prop) (ds acc : List D) (φ : Fs) (μ : Mu) (s : Shared) (b : Bool) (s5 : Shared) : Prop where
  | mk (σ4 σ5 : Sg) (φ5 : Fs) (μ5 : Mu) (st : Step G X φ μ s φ5 μ5 s5) (E : EnvR G φ5 μ5 scR σ4 envC s5.heap) (w : ∀ φ μ h, EnvR G φ μ scR σ4 envC h → EnvR G φ μ scR σ5 envC h)
    (hk : if b then WE G k scR σ4 elt μ5 fun y μ6 => W ds σ5 (acc ++ [y]) μ6 else W ds σ5 acc μ5)
theorem lc_core {elt t iter : Expr} {ifs : List Expr} {scope : Scope} {pos : Pos} {use : Option (Value → Sem Unit)} {Q : Value → Shared → Prop} {φ1 : Fs} {μ1 hid : Mu} {s1 : Shared} {scR : Sc} {σ1 : Sg} {envC : Env} {h₁ : Heap} {I A C : Addr} {Y fp wr : List Addr} {P : Nat → Value → Prop} {St : Nat → Heap → Prop} {items : List D} (W : List D → Sg → List D → Mu → Prop)
    (F : CompFr G φ φ1 μ μ1 hid s s1 scR σ1 envC h₁ (listOf #[] 0) I fp wr P St items A C Y) (hloc : envC.locals = C) (hAY : A ∉ C :: Y) (hlo : ∀ i (s1 : Shared) v (Q' : Unit → Shared → Prop) A, St i s1.heap → Q' () s1 → wpAny G.M A (letOwnedTupleGo t (.ref I) v) Q' Nev s1)
    (hlen : items.length ≤ 1000000) (hL : W items σ1 [] μ1)
    (hW : ∀ d ds σ acc μ φ s v, W (d :: ds) σ acc μ → Inv G φ μ s → EnvR G φ μ scR σ envC s.heap → R G φ v d → wpAny G.M (Lv k) (assign t envC v) (fun _ s4 => wpAny G.M (Lv k) (forIn ifs true fun c r => if r = true then do let ok ← isTrue c envC (eval c envC); pure (ForInStep.yield ok) else pure (ForInStep.yield r)) (LcRow G k scR envC elt (C :: Y) W ds acc φ μ s) Nev s4) Nev s)
    (hnil : ∀ σ acc μ, W [] σ acc μ → K (.list acc) (hid ++ μ))
    (hfin : ∀ acc C s', CompEnd G φ μ s K acc C s' → compPost G.M (Lv k) Nev use Q acc C (.ok .next) s') :
    codeAny G.M (Lv k) (.compStart (.ListComp elt [⟨t, iter, ifs, 0⟩] scope pos) 0 (.ref I) (.ref A) envC) (compPost G.M (Lv k) Nev use Q (.ref A) C) { s1 with heap := h₁, toks := s1.toks } := by
  have loop : codeAny G.M (Lv k) (.compLoop (.ListComp elt [⟨t, iter, ifs, 0⟩] scope pos) 0 (.ref I) (.ref A) envC) (compPost G.M (Lv k) Nev use Q (.ref A) C) { s1 with heap := h₁, toks := s1.toks } := by
    refine compLoop_gen (LCI G φ1 μ1 s1 scR envC I fp wr P St items A C Y W) (fun n s2 hI => ?_) (items.length + 1)
      ⟨0, _, φ1, μ1, [], [], hL, F.st1, F.E2, F.T1, F.hst1, ⟨0, F.kpA⟩, .nil, Nat.le_refl _, F.aA, F.mA, Nat.zero_le _, rfl⟩
    obtain ⟨i, σ2, φ2, μ2, vs, ys, hL2, st2, E2, T2, hst2, hP, hR, hys, hφA, hμA, hi, rfl⟩ := hI
    obtain ⟨nn, hPn⟩ := hP
    by_cases hlt : i < items.length
    · refine T2.next st2.inv hst2 hlt rfl fun v d h' tk hd r stn hst3 => ?_
      have hdrop : items.drop i = d :: items.drop (i + 1) := by
        obtain ⟨hl, e⟩ := List.getElem?_eq_some_iff.mp hd
        rw [List.drop_eq_getElem_cons hl, e]
      rw [hdrop] at hL2
      show wpAny _ _ (letOwnedTupleGo t (.ref I) v) _ _ _
      refine wpAny_mono (hlo (i + 1) { s2 with heap := h', toks := tk } v (fun _ s' => s' = { s2 with heap := h', toks := tk }) (Lv k) hst3 rfl) (fun _ s' e => ?_) nev
      subst e
      have hP3 : h'.get? A = some (listOf (List.toArray vs) nn) := stn.keep A _ hPn hμA (fun h => F.hfpA ((F.T1.W (Lv k) rfl).sub _ h))
      refine wpAny_mono (hW _ _ _ _ _ φ2 _ v hL2 stn.inv (E2.stepA stn F.hxsC) r) (fun _ s4 h4 => ?_) nev
      refine wpAny_mono h4 (fun b s5 ⟨σ4, σ5, φ5, μ5, st5, E5, w5, hK5⟩ => ?_) nev
      obtain ⟨a5, b5⟩ := st5.hid hAY hφA hμA ⟨_, hP3⟩
      have hP5 := st5.keep A _ hP3 hμA hAY
      have st25 : Step G (A :: C :: Y) φ2 μ2 _ φ5 μ5 s5 := st5.more fun _ h => .tail _ h
      have stX : Step G (wr ++ (A :: C :: Y)) φ1 μ1 s1 φ5 μ5 s5 := (st2.trans (stn.more fun a ha => List.mem_append_left _ ha)).trans (st25.more fun a ha => List.mem_append_right _ ha)
      have lt : items.length + 1 - (i + 1) < items.length + 1 - i := by lia
      cases b with
      | false =>
        obtain ⟨T5, hst5⟩ := T2.step stn.inv hst3 st25 (fun _ _ h => h)
        exact ⟨_, lt, i + 1, σ5, φ5, μ5, vs, ys, hK5, stX, w5 _ _ _ E5, T5, hst5, ⟨nn, hP5⟩, hR.mono st5.le, Nat.le_succ_of_le hys, a5, b5, hlt, rfl⟩
      | true =>
        refine wpAny_mono (hK5 _ φ5 s5 st5.inv E5) (fun x s6 ⟨dx, φ6, μ6, st6, r6, hK6⟩ => ?_) nev
        obtain ⟨a6, b6⟩ := st6.hid (fun h => nomatch h) a5 b5 ⟨_, hP5⟩
        refine wpAny_list_append_plain ⟨nn, st6.keep A _ hP5 b5 (fun h => nomatch h)⟩ (fun h7 hP7 hs7 => ?_) (by
          rw [List.size_toArray, hR.1]; show ys.length ≤ 2 ^ 24; lia)
        have stA : Step G (A :: C :: Y) φ6 μ6 s6 φ6 μ6 { s6 with heap := h7, toks := s6.toks } := Step.own st6.inv (.head _) a6 b6 hs7 (by obtain ⟨n7, e7⟩ := hP7; exact ⟨_, e7⟩)
        have st57 := (st6.more fun _ h => nomatch h).trans stA
        obtain ⟨T7, hst7⟩ := T2.step stn.inv hst3 (st25.trans st57) (fun _ _ h => h)
        refine ⟨_, lt, i + 1, σ5, φ6, μ6, vs ++ [x], ys ++ [dx], hK6, stX.trans (st57.more fun a ha => List.mem_append_right _ ha), w5 _ _ _ ((E5.step st6).keepH fun a ha o ho => (hs7.2 a (F.hxsA a ha)).trans ho), T7, hst7, ?_, (hR.mono (st5.le.trans st6.le)).append (.cons r6 .nil), ?_, a6, b6, hlt, rfl⟩
        · simpa using hP7
        · rw [List.length_append]; exact Nat.add_le_add_right hys 1
    · have : i = items.length := Nat.le_antisymm hi (Nat.le_of_not_lt hlt)
      subst this
      refine T2.end hst2 rfl fun h' tk hk => ?_
      rw [List.drop_length] at hL2
      exact hfin _ _ _ (F.done hloc st2 E2 T2 hφA hμA hPn hk (R.list_iff.mpr ⟨A, vs, nn, rfl, Fs.put_self .., hR.mono (Fs.put_le hφA)⟩) (hnil _ _ _ hL2))
  refine codeAny_compStart_list loop ?_
  exact (F.T1.W (Lv k) rfl).self 0 _ _ _ F.hst1 loop
theorem listcomp_core {elt t iter : Expr} {ifs : List Expr} {scope : Scope} {pos : Pos} {use : Option (Value → Sem Unit)} {Q : Value → Shared → Prop}
    (h : WI G k sc σ t iter μ fun items hid μ1 => items.length ≤ 1000000 ∧ WLC G k (relabelN sc scope.names) elt t ifs (fun ys μ2 => K (.list ys) (hid ++ μ2)) items (capF (relabelN sc scope.names) σ) [] μ1)
    (hok : compOk sc scope.names = true) (hkind : scope.kind = .function) (hnames : ∀ x ∈ scope.names, x.2 = .local → scope.names.lookup x.1 = some .local)
    (hs : ∀ env x, foldedSetIterable iter env x = pure x) (I0 : Inv G φ μ s) (E0 : EnvR G φ μ sc σ env s.heap)
    (hfin : ∀ acc C s', CompEnd G φ μ s K acc C s' → compPost G.M (Lv k) Nev use Q acc C (.ok .next) s') :
    wpAny G.M (Lv k) (comprehension (.ListComp elt [⟨t, iter, ifs, 0⟩] scope pos) scope env (firstIterPos [⟨t, iter, ifs, 0⟩] pos) (newList []) (firstAsync [⟨t, iter, ifs, 0⟩]) (firstIter [⟨t, iter, ifs, 0⟩] env) use) Q Nev s := by
  refine wpAny_comprehension_free (cl := clOf env scope.names []) rfl (hs env) (closureFor_of (comp_hex E0 hok)) hkind hnames ?_
  show wpAny G.M (Lv k) (eval iter env) _ _ s
  refine h env φ s _ I0 E0 fun I fp wr P St items hid φ1 μ1 s1 st0 T0 hst0 hwf hwh hfp hlo ⟨hlen, hL⟩ => ?_
  refine wpAny_newObj_type (wpAny_newFunctionEnv (compOk_cell hok).1 (by intro y hy; simp at hy) (fun h₁ hns₁ hsb₁ => ?_) hkind)
  dsimp only at hns₁ hsb₁ ⊢
  generalize hA : s1.heap.objs.size = A
  generalize hH2 : s1.heap.push { cls := .type "list", dict := none, data := .seq ([] : List Value).toArray } = H2 at hns₁ hsb₁ ⊢
  generalize hC : H2.objs.size = C at hns₁ hsb₁ ⊢
  have F := comp_fr hok hkind E0 st0 T0 hst0 hwf hwh hfp rfl hA hH2 hC hns₁ hsb₁
  refine lc_core (WLC G k (relabelN sc scope.names) elt t ifs (fun ys μ2 => K (.list ys) (hid ++ μ2))) F rfl (fun h => F.hAC (List.mem_singleton.mp h)) hlo hlen hL (fun d ds σ acc μ φ s v hw I E r => ?_) (fun _ _ _ h => h) hfin
  refine wpAny_mono (hw _ φ _ v I E r Nev) (fun _ s4 ⟨σ4, φ4, μ4, st4, E4, hB⟩ => ?_) nev
  exact wpAny_mono (ifs_of hB st4.inv E4) (fun b s5 ⟨φ5, μ5, st5, hK5⟩ => ⟨σ4, σ4, φ5, μ5, st4.trans (st5.more fun _ h => nomatch h), E4.step st5, fun _ _ _ h => h, hK5⟩) nev
end
noncomputable def compNames (names : Sc) : Bool := names.all fun x => x.2 != .local || names.lookup x.1 == some .local
section
variable {G : Gr} {k : Nat} {φ φ' : Fs} {μ μ' : Mu} {s s' : Shared} {sc scC : Sc} {σ σ' : Sg} {env : Env} {K K' : D → Mu → Prop} {KT KT' : Bool → Mu → Prop} {KB KB' : Fl → Sg → Mu → Prop}
theorem compNames_of {names : Sc} (h : compNames names = true) : ∀ x ∈ names, x.2 = .local → names.lookup x.1 = some .local := fun x hx e => by
  have := List.all_eq_true.mp h x hx
  rw [e] at this
  simpa using this
theorem CompEnd.none {acc : Value} {C : Addr} (h : CompEnd G φ μ s K acc C s') : compPost G.M (Lv k) Nev Option.none (Post G φ μ s K) acc C (.ok .next) s' := by
  obtain ⟨d, φ', μ', m, st, r, hK, hN, hC, hφ, hμ⟩ := h
  refine ⟨m, hN, fun h' hs => ?_⟩
  have := st.last (wr := [C]) (h' := h') (t := s'.toks) (fun b o hb e => (hs.2 b (fun z => hb (List.mem_singleton.mpr z))).trans e) (fun b hb => by rw [List.mem_singleton.mp hb]; exact ⟨hC, hφ, hμ⟩)
  exact ⟨d, φ', μ', this, r, hK⟩
theorem WE.listcomp {elt t iter : Expr} {ifs : List Expr} {scope : Scope} {pos : Pos}
    (h : WI G k sc σ t iter μ fun items hid μ1 => items.length ≤ 1000000 ∧ WLC G k (relabelN sc scope.names) elt t ifs (fun ys μ2 => K (.list ys) (hid ++ μ2)) items (capF (relabelN sc scope.names) σ) [] μ1)
    (hok : compOk sc scope.names = true := by rfl) (hnames : compNames scope.names = true := by rfl) (hkind : scope.kind = .function := by rfl)
    (hs : ∀ env x, foldedSetIterable iter env x = pure x := by intro _ _; rfl) : WE G k sc σ (.ListComp elt [⟨t, iter, ifs, 0⟩] scope pos) μ K := fun env φ s I E => by
  rw [eval_ListComp]
  refine listcomp_core (use := Option.none) (Q := Post G φ μ s K) h hok hkind (compNames_of hnames) hs I E fun acc C s' hc => ?_
  exact CompEnd.none hc
theorem swaps_list {elt : Expr} {gens : List Comprehension} {scope : Scope} {pos p : Pos} {x : Str} {line : Nat} (h : EnvOk sc env) :
    swapsWith (.ListComp elt gens scope pos) (some (.Name x p)) line env = pure (sc.lookup x == some .local && p.line == pos.line && !(scope.names.any fun (n, k) => n == x && (k == .local || k == .cell))) := by
  have e : swapsWith (.ListComp elt gens scope pos) (some (.Name x p)) line env = pure (env.blockKind == .function && env.kindOf x == some .local && p.line == pos.line && !(scope.names.any fun (n, k) => n == x && (k == .local || k == .cell))) := rfl
  rw [e, h.kindOf]
  unfold Env.blockKind
  rw [h.kind]; rfl
theorem used_of {x : Str} {p' : Pos} {acc : Value} {C : Addr} (hx : isOwn sc x = true) (E : EnvR G φ μ sc σ env s.heap) (h : CompEnd G φ μ s (fun d μ1 => KB .next (setS σ x d) μ1) acc C s') {Q : Value → Shared → Prop}
    (hQ : ∀ v s'', PostB G sc env φ μ s KB .next s'' → Q v s'') : compPost G.M (Lv k) Nev (some (assign (.Name x p') env)) Q acc C (.ok .next) s' := by
  obtain ⟨d, φ', μ', m, st, r, hK, hN, hC, hφ, hμ⟩ := h
  obtain ⟨stx, E1⟩ := E.stepX st
  refine wpAny_assign_Name (store_of st.inv E1 r (isOwn_of hx) fun h2 tk st2 E2 => ?_)
  have hCx : C ∉ xs env := fun hc => by obtain ⟨o, ho⟩ := E.there C hc; rw [hC] at ho; cases ho
  obtain ⟨oC, es, ep, ho, hd⟩ := hN
  have ho2 := st2.keep C oC ho hμ hCx
  obtain ⟨a, b⟩ := st2.hid hCx hφ hμ ⟨_, ho⟩
  refine ⟨m, ⟨oC, es, ep, ho2, hd⟩, fun h' hs => hQ _ _ ?_⟩
  have := (stx.trans st2).last (wr := [C]) (h' := h') (t := tk) (fun b o hb e => (hs.2 b (fun z => hb (List.mem_singleton.mpr z))).trans e) (fun c hc => by rw [List.mem_singleton.mp hc]; exact ⟨hC, a, b⟩)
  exact ⟨.next, _, φ', μ', this, E2.keepH fun a ha o ho => (hs.2 a (fun z => hCx (z ▸ ha))).trans ho, trivial, hK⟩
theorem WS.assignC {elt t iter : Expr} {ifs : List Expr} {scope : Scope} {pos p p' : Pos} {x : Str}
    (h : WI G k sc σ t iter μ fun items hid μ1 => items.length ≤ 1000000 ∧ WLC G k (relabelN sc scope.names) elt t ifs (fun ys μ2 => KB .next (setS σ x (.list ys)) (hid ++ μ2)) items (capF (relabelN sc scope.names) σ) [] μ1)
    (hx : isOwn sc x = true) (hw : (sc.lookup x == some .local && p'.line == pos.line && !(scope.names.any fun (n, k) => n == x && (k == .local || k == .cell))) = true)
    (hok : compOk sc scope.names = true) (hnames : compNames scope.names = true) (hkind : scope.kind = .function)
    (hs : ∀ env x, foldedSetIterable iter env x = pure x) : WS G k sc σ (.Assign [.Name x p'] (.ListComp elt [⟨t, iter, ifs, 0⟩] scope pos) p) μ KB := fun env φ s I E => by
  rw [exec_Assign_Name_used _ _ _ _ (by rw [swaps_list E.ok, hw])]
  refine wpAny_bind (wpAny_standAt (wpAny_bind ?_))
  rw [arm_evalThenUse_ListComp]
  refine wpAny_bind (listcomp_core (use := some _) (K := fun d μ1 => KB .next (setS σ x d) μ1) h hok hkind (compNames_of hnames) hs I E fun acc C s' hc => used_of hx E hc fun v s'' hp => ?_)
  exact wpAny_pure (wpAny_pure hp)
theorem WS.assignL {elt : Expr} {gens : List Comprehension} {scope : Scope} {pos p p' : Pos} {x : Str} (h : WE G k sc σ (.ListComp elt gens scope pos) μ fun d μ1 => KB .next (setS σ x d) μ1) (hx : isOwn sc x = true)
    (hw : (sc.lookup x == some .local && p'.line == pos.line && !(scope.names.any fun (n, k) => n == x && (k == .local || k == .cell))) = false) : WS G k sc σ (.Assign [.Name x p'] (.ListComp elt gens scope pos) p) μ KB :=
  WS.assign h hx fun env he => by rw [swaps_list he, hw]
end
inductive Pull : Mu → Addr → Cell → Mu → Prop where
  | head {a : Addr} {c : Cell} {μ : Mu} : Pull ((a, c) :: μ) a c μ
  | tail {a : Addr} {c : Cell} {p : Addr × Cell} {μ μ' : Mu} (h : Pull μ a c μ') : Pull (p :: μ) a c (p :: μ')
theorem Pull.perm {μ μ' : Mu} {a : Addr} {c : Cell} (h : Pull μ a c μ') : ((a, c) :: μ').Perm μ := by
  induction h with
  | head => exact .refl _
  | tail _ ih => exact (List.Perm.swap ..).trans (.cons _ ih)
inductive Has : Mu → Addr → Cell → Prop where
  | head {a : Addr} {c : Cell} {μ : Mu} : Has ((a, c) :: μ) a c
  | tail {a : Addr} {c : Cell} {p : Addr × Cell} {μ : Mu} (h : Has μ a c) : Has (p :: μ) a c
theorem Has.mem {μ : Mu} {a : Addr} {c : Cell} (h : Has μ a c) : (a, c) ∈ μ := by
  induction h with
  | head => exact .head _
  | tail _ ih => exact .tail _ ih
noncomputable def pick {α : Type} (xs : List α) (lo hi st : Option Int) : List α := (sliceRange (sliceBounds lo hi st xs.length).1 (sliceBounds lo hi st xs.length).2.1 (sliceBounds lo hi st xs.length).2.2).filterMap (xs[·]?)
section
variable {G : Gr} {k : Nat} {φ φ' : Fs} {μ μ' : Mu} {s s' : Shared} {sc scC : Sc} {σ σ' : Sg} {env : Env} {K K' : D → Mu → Prop} {KT KT' : Bool → Mu → Prop} {KB KB' : Fl → Sg → Mu → Prop}
theorem new_list {vs : List Value} {xs : List D} (I : Inv G φ μ s) (r : Rs G φ vs xs) : Post G φ μ s (fun d μ' => d = .list xs ∧ μ' = μ) (.ref s.heap.objs.size) { s with heap := s.heap.push { cls := .type "list", data := .seq vs.toArray } } := by
  have hn := fresh_none s (Nat.le_refl s.heap.objs.size)
  have st := Step.frozen (X := []) (t := s.toks) I hn (fun b o e => Heap.get?_push_of_some { cls := .type "list", data := .seq vs.toArray } e) (Heap.get?_push_size _ rfl)
  exact ⟨_, _, _, st, R.list_iff.mpr ⟨_, vs, 0, rfl, Fs.put_self .., r.mono st.le⟩, rfl, rfl⟩
theorem new_tup {vs : List Value} {xs : List D} (I : Inv G φ μ s) (r : Rs G φ vs xs) : Post G φ μ s (fun d μ' => d = .tup xs ∧ μ' = μ) (.ref s.heap.objs.size) { s with heap := s.heap.push { cls := .type "tuple", data := .seq vs.toArray } } := by
  have hn := fresh_none s (Nat.le_refl s.heap.objs.size)
  have st := Step.frozen (X := []) (t := s.toks) I hn (fun b o e => Heap.get?_push_of_some { cls := .type "tuple", data := .seq vs.toArray } e) (Heap.get?_push_size _ rfl)
  exact ⟨_, _, _, st, R.tup_iff.mpr ⟨_, vs, 0, rfl, Fs.put_self .., r.mono st.le⟩, rfl, rfl⟩
theorem new_listM {vs : List Value} {xs : List D} (I : Inv G φ μ s) (r : Rs G φ vs xs) : Post G φ μ s (fun d μ' => ∃ a, d = .loc a ∧ μ' = (a, .list xs) :: μ) (.ref s.heap.objs.size) { s with heap := s.heap.push { cls := .type "list", data := .seq vs.toArray } } := by
  have hn := fresh_none s (Nat.le_refl s.heap.objs.size)
  have st := Step.cell (X := []) (t := s.toks) (c := .list xs) I hn (fun b o e => Heap.get?_push_of_some { cls := .type "list", data := .seq vs.toArray } e) ⟨vs, 0, Heap.get?_push_size _ rfl, r⟩
  exact ⟨_, _, _, st, .val _, _, rfl, rfl⟩
theorem Post.mono {v : Value} (h : Post G φ μ s K v s') (hK : ∀ d μ, K d μ → K' d μ) : Post G φ μ s K' v s' := let ⟨d, φ', μ', st, r, x⟩ := h; ⟨d, φ', μ', st, r, hK _ _ x⟩
theorem WEs.len : ∀ {es : List Expr} {μ : Mu} {KL : List D → Mu → Prop}, WEs G k sc σ es μ KL → WEs G k sc σ es μ fun ds μ1 => ds.length = es.length ∧ KL ds μ1
  | [], _, _, h => ⟨rfl, h⟩
  | _ :: es, _, _, h => WE.mono h fun _ _ h' => WEs.mono' (WEs.len h') fun ds _ ⟨a, b⟩ => ⟨by simp [a], b⟩
where
  WEs.mono' : ∀ {es : List Expr} {μ : Mu} {KL KL' : List D → Mu → Prop}, WEs G k sc σ es μ KL → (∀ ds μ, KL ds μ → KL' ds μ) → WEs G k sc σ es μ KL'
    | [], _, _, _, h, f => f _ _ h
    | _ :: es, _, _, _, h, f => WE.mono h fun _ _ h' => WEs.mono' h' fun _ _ x => f _ _ x
theorem sizeLine_le {n : Nat} (h : n ≤ 1000000) : n ≤ sizeLine := by unfold sizeLine; lia
theorem WE.list {es : List Expr} {p : Pos} (h : WEs G k sc σ es μ fun ds μ1 => K (.list ds) μ1) (hs : es.all notStar = true) (hl : es.length ≤ 1000000) : WE G k sc σ (.List es p) μ K := fun env φ s I E =>
  wpAny_List (wpAny_mono (spliced_of hs (WEs.len h) I E) (fun vs s1 ⟨ds, φ1, μ1, st, r, hlen, hK⟩ => ⟨sizeLine_le (by rw [r.1, hlen]; exact hl), Post.trans st ((new_list st.inv r).mono fun d μ' ⟨e1, e2⟩ => by rw [e1, e2]; exact hK)⟩) nev)
theorem WE.tup {es : List Expr} {n : Nat} {p : Pos} (h : WEs G k sc σ es μ fun ds μ1 => K (.tup ds) μ1) (hs : es.all notStar = true) (hl : es.length ≤ 1000000) : WE G k sc σ (.Tuple es n p) μ K := fun env φ s I E =>
  wpAny_Tuple (wpAny_mono (spliced_of hs (WEs.len h) I E) (fun vs s1 ⟨ds, φ1, μ1, st, r, hlen, hK⟩ => ⟨sizeLine_le (by rw [r.1, hlen]; exact hl), Post.trans st ((new_tup st.inv r).mono fun d μ' ⟨e1, e2⟩ => by rw [e1, e2]; exact hK)⟩) nev)
theorem WE.listM {es : List Expr} {p : Pos} (h : WEs G k sc σ es μ fun ds μ1 => ∀ a, K (.loc a) ((a, .list ds) :: μ1)) (hs : es.all notStar = true := by rfl) (hl : es.length ≤ 1000000 := by decide) : WE G k sc σ (.List es p) μ K := fun env φ s I E =>
  wpAny_List (wpAny_mono (spliced_of hs (WEs.len h) I E) (fun vs s1 ⟨ds, φ1, μ1, st, r, hlen, hK⟩ => ⟨sizeLine_le (by rw [r.1, hlen]; exact hl), Post.trans st ((new_listM st.inv r).mono fun d μ' ⟨a, e1, e2⟩ => by rw [e1, e2]; exact hK a)⟩) nev)
theorem WE.frz {e : Expr} (h : WE G k sc σ e μ fun d μ1 => ∃ a xs μ2, d = .loc a ∧ Pull μ1 a (.list xs) μ2 ∧ K (.list xs) μ2) : WE G k sc σ e μ K := fun env φ s I E =>
  wpAny_mono (h env φ s I E) (fun v s1 ⟨d, φ1, μ1, st, r, a, xs, μ2, e1, hp, hK⟩ => by
    subst e1
    rw [R.val_iff] at r; subst r
    have I2 := st.inv.perm hp.perm
    obtain ⟨φ3, st3, r3⟩ := Inv.freezeList (X := []) I2
    exact ⟨_, φ3, μ2, (st.perm hp.perm).trans st3, r3, hK⟩) nev
theorem WE.frzD {e : Expr} (h : WE G k sc σ e μ fun d μ1 => ∃ a xs μ2, d = .loc a ∧ Pull μ1 a (.dict xs) μ2 ∧ K (.dict xs) μ2) : WE G k sc σ e μ K := fun env φ s I E =>
  wpAny_mono (h env φ s I E) (fun v s1 ⟨d, φ1, μ1, st, r, a, xs, μ2, e1, hp, hK⟩ => by
    subst e1
    rw [R.val_iff] at r; subst r
    have I2 := st.inv.perm hp.perm
    obtain ⟨φ3, st3, r3⟩ := Inv.freezeDict (X := []) I2
    exact ⟨_, φ3, μ2, (st.perm hp.perm).trans st3, r3, hK⟩) nev
noncomputable def WG (G : Gr) (k : Nat) (value slice : Expr) (d i : D) (μ : Mu) (K : D → Mu → Prop) : Prop :=
  ∀ φ s v vi, Inv G φ μ s → R G φ v d → R G φ vi i → wpAny G.M (Lv k) (subscriptTail value slice v vi) (Post G φ μ s K) Nev s
theorem WE.sub {value slice : Expr} {p : Pos} (h : WE G k sc σ value μ fun d μ1 => WE G k sc σ slice μ1 fun i μ2 => WG G k value slice d i μ2 K) : WE G k sc σ (.Subscript value slice p) μ K := fun env φ s I E =>
  Subscript_ (wpAny_mono (h env φ s I E) (fun v s1 ⟨d, φ1, μ1, st, r, hK⟩ => wpAny_mono (hK env φ1 s1 st.inv (E.step st)) (fun v2 s2 ⟨d2, φ2, μ2, st2, r2, hB⟩ =>
    wpAny_mono (hB φ2 s2 v v2 st2.inv (r.mono st2.le) r2) (fun v3 s3 h3 => Post.trans st (Post.trans st2 h3)) nev) nev) nev)
theorem subs_ops (slice : Expr) (o i : Value) : ∃ ops, subscripted slice false o i = operate ops (getItem o i) := by
  unfold subscripted
  split
  · exact ⟨_, rfl⟩
  · simp_all
  · exact ⟨_, rfl⟩
theorem tail_get {value slice : Expr} {o i : Value} {T id : String} {Q : Value → Shared → Prop} {A : Around} (hT : s.TypeIs o T)
    (hl : typeLookup (.type T) "__getitem__" = pure (some (.builtin id))) (hg : wpAny G.M A (getItem o i) Q Nev s) : wpAny G.M A (subscriptTail value slice o i) Q Nev s :=
  let ⟨_, hs⟩ := subs_ops slice o i; tail_any hT hl hg hs
theorem V.getL {value slice : Expr} {xs : List D} {i : Int} {x : D} (h0 : 0 ≤ i) (hi : i < 2 ^ 63) (hx : xs[i.toNat]? = some x) (h : K x μ) : WG G k value slice (.list xs) (.int i) μ K := fun φ s v vi I r ri => by
  obtain ⟨a, vs, n, rfl, ho, r⟩ := R.list_iff.mp r
  obtain ⟨t, rfl⟩ := R.int_iff.mp ri
  obtain ⟨v, hv, rv⟩ := r.get hx
  have hl : s.heap.IsList a vs.toArray := ⟨_, I.sub _ _ ho, rfl, _, rfl⟩
  exact tail_get hl.typeIs PySem.slot_list_getitem.lookup (wpAny_getItem_list hl h0 hi (by simpa using hv) (Post.of (.refl I) rv h))
theorem V.getLn {value slice : Expr} {xs : List D} {i : Int} {x : D} (h0 : i < 0) (h1 : -(xs.length : Int) ≤ i) (hi : -(2 ^ 63) ≤ i) (hx : xs[(i + xs.length).toNat]? = some x) (h : K x μ) : WG G k value slice (.list xs) (.int i) μ K := fun φ s v vi I r ri => by
  obtain ⟨a, vs, n, rfl, ho, r⟩ := R.list_iff.mp r
  obtain ⟨t, rfl⟩ := R.int_iff.mp ri
  obtain ⟨v, hv, rv⟩ := r.get hx
  have hl : s.heap.IsList a vs.toArray := ⟨_, I.sub _ _ ho, rfl, _, rfl⟩
  exact tail_get hl.typeIs PySem.slot_list_getitem.lookup (wpAny_getItem_list_neg hl h0 (by rw [List.size_toArray, r.1]; exact h1) hi (by rw [List.size_toArray, r.1]; simpa using hv) (Post.of (.refl I) rv h))
theorem seqIndex_pos {i : Int} {n : Nat} (h0 : 0 ≤ i) (h : i.toNat < n) : seqIndex? i n = some i.toNat := by
  unfold seqIndex?
  simp only [show ¬ i < 0 by lia, if_false]
  rw [if_pos (by simp; lia)]
theorem V.getT {value slice : Expr} {xs : List D} {i : Int} {x : D} (h0 : 0 ≤ i) (hi : i < 2 ^ 63) (hx : xs[i.toNat]? = some x) (h : K x μ) : WG G k value slice (.tup xs) (.int i) μ K := fun φ s v vi I r ri => by
  obtain ⟨a, vs, n, rfl, ho, r⟩ := R.tup_iff.mp r
  obtain ⟨t, rfl⟩ := R.int_iff.mp ri
  obtain ⟨v, hv, rv⟩ := r.get hx
  have hl : IsTup s.heap a vs.toArray := ⟨_, I.sub _ _ ho, rfl, _, rfl⟩
  have hlt : i.toNat < vs.length := (List.getElem?_eq_some_iff.mp hv).1
  exact tail_get hl.typeIs PyProof.Rows.slot_tuple_getitem.lookup (PyProof.Rows.getItem_tuple (j := i.toNat) hl (by lia) hi (seqIndex_pos h0 (by rw [List.size_toArray]; exact hlt)) (by simpa using hv) (Post.of (.refl I) rv h))
theorem V.getM {value slice : Expr} {a : Addr} {xs : List D} {i : Int} {x : D} (hm : Has μ a (.list xs)) (h0 : 0 ≤ i) (hi : i < 2 ^ 63) (hx : xs[i.toNat]? = some x) (h : K x μ) : WG G k value slice (.loc a) (.int i) μ K := fun φ s v vi I r ri => by
  rw [R.val_iff] at r; subst r
  obtain ⟨vs, n, ho, r⟩ := I.cells _ hm.mem
  obtain ⟨t, rfl⟩ := R.int_iff.mp ri
  obtain ⟨v, hv, rv⟩ := r.get hx
  have hl : s.heap.IsList a vs.toArray := ⟨_, ho, rfl, _, rfl⟩
  exact tail_get hl.typeIs PySem.slot_list_getitem.lookup (wpAny_getItem_list hl h0 hi (by simpa using hv) (Post.of (.refl I) rv h))
noncomputable def strAt (x : Str) (i : Nat) : Option Str := (x.cps[i]?).map fun c => ⟨#[c]⟩
theorem V.getS {value slice : Expr} {x y : Str} {i : Int} (h0 : 0 ≤ i) (hi : i < 2 ^ 63) (hx : strAt x i.toNat = some y) (h : K (.str y) μ) : WG G k value slice (.str x) (.int i) μ K := fun φ s v vi I r ri => by
  obtain ⟨t, rfl⟩ := R.str_iff.mp r
  obtain ⟨u, rfl⟩ := R.int_iff.mp ri
  unfold strAt at hx
  obtain ⟨c, hc, rfl⟩ := Option.map_eq_some_iff.mp hx
  have hlt : i.toNat < x.cps.size := by
    rcases Array.getElem?_eq_some_iff.mp hc with ⟨h, _⟩; exact h
  refine tail_get (T := "str") rfl PyProof.Rows.slot_str_getitem.lookup (PyProof.Rows.getItem_str (c := c) (by simp; lia) ?_ (Post.of (Step.toks I _) (.str _ _) h))
  rw [seqIndex_pos (n := x.length) h0 hlt]
  exact hc
theorem Rs.pick {vs : List Value} {xs : List D} (h : Rs G φ vs xs) (lo hi st : Option Int) : Rs G φ (Mine.pick vs lo hi st) (Mine.pick xs lo hi st) := by
  unfold Mine.pick
  rw [h.1]
  generalize sliceRange _ _ _ = l
  induction l with
  | nil => exact .nil
  | cons i l ih =>
    cases e : xs[i]? with
    | none =>
      have : vs[i]? = none := by rw [List.getElem?_eq_none_iff] at e ⊢; rw [h.1]; exact e
      rw [List.filterMap_cons_none this, List.filterMap_cons_none e]; exact ih
    | some x =>
      obtain ⟨v, hv, r⟩ := h.get e
      rw [List.filterMap_cons_some hv, List.filterMap_cons_some e]; exact .cons r ih
theorem slicePick_eq (vs : List Value) (lo hi st : Option Int) : slicePick vs.toArray lo hi st = (Mine.pick vs lo hi st).toArray := by
  unfold slicePick Mine.pick
  rw [List.size_toArray]
  congr 1
  congr 1
  funext i
  simp
noncomputable def WP (G : Gr) (k : Nat) (sc : Sc) (σ : Sg) : Option Expr → Mu → (Option Int → Mu → Prop) → Prop
  | none, μ, K => K none μ
  | some e, μ, K => WE G k sc σ e μ fun d μ1 => ∃ i, d = .int i ∧ K (some i) μ1
theorem part_of {e : Option Expr} {KP : Option Int → Mu → Prop} (h : WP G k sc σ e μ KP) (I : Inv G φ μ s) (E : EnvR G φ μ sc σ env s.heap) :
    wpAny G.M (Lv k) (evalPart e env) (fun v s' => ∃ i φ' μ', Step G [] φ μ s φ' μ' s' ∧ IsPart v i ∧ KP i μ') Nev s := by
  cases e with
  | none => exact wpAny_pure ⟨none, φ, μ, .refl I, .none, h⟩
  | some e => exact wpAny_mono (h env φ s I E) (fun v s1 ⟨d, φ1, μ1, st, r, i, hd, hK⟩ => by
      subst hd
      obtain ⟨t, rfl⟩ := R.int_iff.mp r
      exact ⟨some i, φ1, μ1, st, .int i t, hK⟩) nev
theorem WE.slice {value : Expr} {lo hi st : Option Expr} {p p' : Pos} (h : WE G k sc σ value μ fun d μ1 => WP G k sc σ lo μ1 fun l μ2 => WP G k sc σ hi μ2 fun u μ3 => WP G k sc σ st μ3 fun t μ4 =>
    ∃ xs, (d = .list xs ∨ ∃ a, d = .loc a ∧ Has μ4 a (.list xs)) ∧ t ≠ some 0 ∧ xs.length ≤ 1000000 ∧ K (.list (Mine.pick xs l u t)) μ4) : WE G k sc σ (.Subscript value (.Slice lo hi st p) p') μ K := fun env φ s I E => by
  refine Subscript_ (wpAny_mono (h env φ s I E) (fun v s1 ⟨d, φ1, μ1, st1, r, hK⟩ => ?_) nev)
  have E1 := E.step st1
  refine wpAny_Slice (wpAny_mono (part_of hK st1.inv E1) (fun vl s2 ⟨l, φ2, μ2, st2, pl, hK⟩ => ?_) nev)
  have E2 := E1.step st2
  refine wpAny_mono (part_of hK st2.inv E2) (fun vu s3 ⟨u, φ3, μ3, st3, pu, hK⟩ => ?_) nev
  have E3 := E2.step st3
  refine wpAny_mono (part_of hK st3.inv E3) (fun vt s4 ⟨t, φ4, μ4, st4, pt, xs, hd, h0, hlen, hK⟩ => ?_) nev
  have key : ∃ a vs n, v = .ref a ∧ s4.heap.get? a = some (listOf (List.toArray vs) n) ∧ Rs G φ4 vs xs := by
    rcases hd with hd | ⟨a, hd, hm⟩
    · subst hd
      obtain ⟨a, vs, n, e, ho, r⟩ := R.list_iff.mp (((r.mono st2.le).mono st3.le).mono st4.le)
      exact ⟨a, vs, n, e, st4.inv.sub _ _ ho, r⟩
    · subst hd
      rw [R.val_iff] at r
      obtain ⟨vs, n, ho, r'⟩ := st4.inv.cells _ hm.mem
      exact ⟨a, vs, n, r, ho, r'⟩
  obtain ⟨a, vs, n, rfl, ho, rs⟩ := key
  have st5 : Step G [] φ4 μ4 s4 φ4 μ4 { s4 with heap := s4.heap.push { cls := .type "slice", data := .fields #[vl, vu, vt] }, toks := s4.toks } := Step.grow st4.inv fun b o e => Heap.get?_push_of_some _ e
  have hl : (s4.heap.push { cls := .type "slice", data := .fields #[vl, vu, vt] }).IsList a (List.toArray vs) := ⟨_, Heap.get?_push_of_some _ ho, rfl, _, rfl⟩
  refine tail_get (s := { s4 with heap := s4.heap.push { cls := .type "slice", data := .fields #[vl, vu, vt] }, toks := s4.toks }) hl.typeIs PySem.slot_list_getitem.lookup (wpAny_getItem_list_slice hl (Heap.IsSliceOf.new ..) pl pu pt h0 ?_ (by rw [List.size_toArray, rs.1]; exact sizeLine_le hlen))
  rw [slicePick_eq]
  exact Post.trans st1 (Post.trans st2 (Post.trans st3 (Post.trans st4 (Post.trans st5 ((new_list st5.inv (rs.pick _ _ _)).mono fun d μ' ⟨e1, e2⟩ => by rw [e1, e2]; exact hK)))))
theorem WI.cell {t iter : Expr} {KL : List D → Mu → Mu → Prop} (h : WE G k sc σ iter μ fun d μ1 => ∃ a xs μ2, d = .loc a ∧ Pull μ1 a (.list xs) μ2 ∧ KL xs [(a, .list xs)] μ2) : WI G k sc σ t iter μ KL := fun env φ s Q I0 E0 hQ => by
  refine wpAny_mono (h env φ s I0 E0) (fun v s1 ⟨d, φ1, μ1, st, r, a, xs, μ2, hd, hp, hK⟩ => ?_) nev
  subst hd
  rw [R.val_iff] at r; subst r
  have st1 := st.perm hp.perm
  have E1 := E0.step st1
  have J := st1.inv
  obtain ⟨vs, n, ho, r⟩ := J.cells _ (.head _)
  have ho : s1.heap.get? a = some (listOf vs.toArray n) := ho
  have nd := J.nd
  rw [List.map_cons, List.nodup_cons] at nd
  have I2 : Inv G φ1 μ2 s1 := J.sub_mu (fun p hp => .tail _ hp) nd.2
  have hl : s1.heap.IsList a vs.toArray := ⟨_, ho, rfl, _, rfl⟩
  have hne : a ≠ s1.heap.objs.size := Nat.ne_of_lt (Heap.lt_size ho)
  have hnew := fresh_none s1 (Nat.le_refl s1.heap.objs.size)
  have ap := new_apart (X := Mine.xs env) I2 E1.there hnew
  have offa : φ1 a = none ∧ (∀ p ∈ μ2, p.1 ≠ a) ∧ a ∉ Mine.xs env := ⟨J.off _ (.head _), fun p hp e => nd.1 (e ▸ List.mem_map_of_mem (f := (·.1)) hp), E1.off _ (.head _)⟩
  refine wpAny_pyIter_list hl (hQ s1.heap.objs.size [s1.heap.objs.size, a] [s1.heap.objs.size] (fun i v => vs.toArray[i]? = some v) (fun i h => h.IsListIter s1.heap.objs.size a i ∧ h.IsList a vs.toArray) xs [(a, .list xs)] φ1 μ2 _ (st1.trans (Step.grow J fun b o e => Heap.get?_push_of_some _ e)) ⟨fun A hA => ?_, fun i h st b hb => ?_, fun i v hv => ?_, fun b hb => ?_, fun b hb => ?_⟩ ⟨⟨_, Heap.get?_push_size _ rfl, rfl, rfl⟩, ⟨_, Heap.get?_push_of_some _ ho, rfl, _, rfl⟩⟩ (fun b hb => ?_) (fun b hb p hp => ?_) (fun b hb => ?_) ?_ hK)
  · have := Walks.list (prog := G.prog) (w := G.w) hA s1.heap.objs.size a hne vs.toArray
    have e : vs.toArray.size = xs.length := by rw [← r.1]; simp
    exact e ▸ this
  · simp at hb
    rcases hb with rfl | rfl
    · obtain ⟨o, ho, _⟩ := st.1; exact ⟨o, ho⟩
    · obtain ⟨o, ho, _⟩ := st.2; exact ⟨o, ho⟩
  · have hv' : vs[i]? = some v := by simpa using hv
    obtain ⟨hi, _⟩ := List.getElem?_eq_some_iff.mp hv'
    have hx : i < xs.length := by rw [← r.1]; exact hi
    exact ⟨xs[i], by simp [hx], r.2 i v _ hv' (by simp [hx])⟩
  · simp only [List.mem_singleton] at hb; subst hb; exact ap
  · simp at hb
    rcases hb with rfl | rfl
    · exact .inr ap
    · exact .inr offa
  · simp only [List.mem_singleton] at hb; subst hb
    cases e : s.heap.get? s1.heap.objs.size with
    | none => rfl
    | some o => obtain ⟨o', h'⟩ := st.there _ _ e; rw [hnew] at h'; cases h'
  · simp only [List.mem_singleton] at hb hp; subst hb hp; exact hne
  · rw [Heap.size_push]
    simp at hb
    rcases hb with rfl | rfl
    · exact Nat.lt_succ_self _
    · exact Nat.lt_succ_of_lt (Heap.lt_size ho)
  · intro i s1 v Q' A' st h
    obtain ⟨o, ho, hc, hd⟩ := st.1
    exact quiet_of ho hc hd (by decide) h
end
inductive Chg : Mu → Addr → Cell → Cell → Mu → Prop where
  | head {a : Addr} {c c' : Cell} {μ : Mu} : Chg ((a, c) :: μ) a c c' ((a, c') :: μ)
  | tail {a : Addr} {c c' : Cell} {p : Addr × Cell} {μ μ' : Mu} (h : Chg μ a c c' μ') : Chg (p :: μ) a c c' (p :: μ')
theorem Chg.inv {μ μ' : Mu} {a : Addr} {c c' : Cell} (h : Chg μ a c c' μ') : ∃ p μ1, μ = p :: μ1 ∧ ((p = (a, c) ∧ μ' = (a, c') :: μ1) ∨ ∃ μ2, μ' = p :: μ2 ∧ Chg μ1 a c c' μ2) :=
  Chg.casesOn (motive := fun μ a c c' μ' _ => ∃ p μ1, μ = p :: μ1 ∧ ((p = (a, c) ∧ μ' = (a, c') :: μ1) ∨ ∃ μ2, μ' = p :: μ2 ∧ Chg μ1 a c c' μ2)) h ⟨_, _, rfl, .inl ⟨rfl, rfl⟩⟩ (fun h => ⟨_, _, rfl, .inr ⟨_, rfl, h⟩⟩)
theorem Chg.skip {p : Addr × Cell} {μ μ' : Mu} {a : Addr} {c c' : Cell} (hp : p.2 ≠ c) (h : Chg (p :: μ) a c c' μ') : ∃ μ2, μ' = p :: μ2 ∧ Chg μ a c c' μ2 := by
  obtain ⟨q, μ1, e, h⟩ := h.inv
  obtain ⟨rfl, rfl⟩ := List.cons.inj e
  exact h.elim (fun e => absurd (congrArg (·.2) e.1) hp) id
theorem Chg.one {μ' : Mu} {a : Addr} {c c' : Cell} (h : Chg [(a, c)] a c c' μ') : μ' = [(a, c')] := by
  obtain ⟨q, μ1, e, h⟩ := h.inv
  obtain ⟨rfl, rfl⟩ := List.cons.inj e
  rcases h with ⟨_, e⟩ | ⟨_, _, h⟩
  · exact e
  · obtain ⟨_, _, e, _⟩ := h.inv
    cases e
theorem Chg.has {μ μ' : Mu} {a : Addr} {c c' : Cell} (h : Chg μ a c c' μ') : Has μ a c := by
  induction h with
  | head => exact .head
  | tail _ ih => exact .tail ih
theorem Chg.upd {μ μ' : Mu} {a : Addr} {c c' : Cell} (h : Chg μ a c c' μ') : Upd μ a c' μ' := by
  induction h with
  | head => exact .head
  | tail _ ih => exact .tail ih
noncomputable def lowerS (x : Str) : Str := ⟨placed x fun i _ => Unicode.lowerAt x.cps i⟩
noncomputable def upperS (x : Str) : Str := ⟨placed x fun _ c => Unicode.upperOf c⟩
noncomputable def signs (x : Str) : List Str := x.cps.toList.map fun c => ⟨#[c]⟩
section
variable {G : Gr} {k : Nat} {φ φ' : Fs} {μ μ' : Mu} {s s' : Shared} {sc scC : Sc} {σ σ' : Sg} {env : Env} {K K' : D → Mu → Prop} {KT KT' : Bool → Mu → Prop} {KB KB' : Fl → Sg → Mu → Prop}
theorem Inv.ng (I : Inv G φ μ s) : s.heap.Ns mainGlobals G.mg := by
  obtain ⟨o, es, ep, ho, h⟩ := G.ng
  exact ⟨o, es, ep, I.keep _ _ ho, h⟩
theorem Inv.nb (I : Inv G φ μ s) : s.heap.Ns builtinsNs G.mb := by
  obtain ⟨o, es, ep, ho, h⟩ := G.nb
  exact ⟨o, es, ep, I.keep _ _ ho, h⟩
theorem WE.glob {x : Str} {p : Pos} {v : Value} (hv : G.mg x = some v) (h : K (.val v) μ) (hx : sc.lookup x = some .globalImplicit := by rfl) (hd : (x == ("__debug__" : Str)) = false := by decide) : WE G k sc σ (.Name x p) μ K := fun env φ s I E =>
  Name_function_global E.ok.kind ((E.ok.kindOf x).trans hx) (loadGlobal_global (by rw [E.ok.globals]; exact I.ng) hv (Post.of (.refl I) (.val _) h)) hd
theorem WE.bltin {x : Str} {p : Pos} {v : Value} (hm : G.mg x = Option.none) (hv : bootBuiltins x = some v) (h : K (.val v) μ) (hx : sc.lookup x = some .globalImplicit := by rfl) (hn : x ≠ ("__name__" : Str) := by decide) (hd : (x == ("__debug__" : Str)) = false := by decide) : WE G k sc σ (.Name x p) μ K := fun env φ s I E =>
  Name_function_global E.ok.kind ((E.ok.kindOf x).trans hx) (loadGlobal_builtin (by rw [E.ok.globals]; exact I.ng) hm (by rw [E.ok.builtins]; exact I.nb) ((G.builtins x hn).trans hv) (Post.of (.refl I) (.val _) h)) hd
theorem kw_nil {kv : List (Str × Value)} (h : Rkw G φ kv []) : kv = [] := by
  have := h.1
  cases kv with
  | nil => rfl
  | cons a b => cases this
theorem rs1 {vs : List Value} {d : D} (h : Rs G φ vs [d]) : ∃ v, vs = [v] ∧ R G φ v d := by
  obtain ⟨v, vs', rfl, r, h⟩ := Rs.cons_iff.mp h
  rw [Rs.nil_iff] at h; subst h; exact ⟨v, rfl, r⟩
theorem rs2 {vs : List Value} {d e : D} (h : Rs G φ vs [d, e]) : ∃ v w, vs = [v, w] ∧ R G φ v d ∧ R G φ w e := by
  obtain ⟨v, vs', rfl, r, h⟩ := Rs.cons_iff.mp h
  obtain ⟨w, rfl, r'⟩ := rs1 h
  exact ⟨v, w, rfl, r, r'⟩
theorem rs3 {vs : List Value} {d e f : D} (h : Rs G φ vs [d, e, f]) : ∃ v w x, vs = [v, w, x] ∧ R G φ v d ∧ R G φ w e ∧ R G φ x f := by
  obtain ⟨v, vs', rfl, r, h⟩ := Rs.cons_iff.mp h
  obtain ⟨w, x, rfl, r', r''⟩ := rs2 h
  exact ⟨v, w, x, rfl, r, r', r''⟩
theorem V.range {n : Int} (h : ∀ t u v, K (.fro (rangeObj 0 n 1 t u v)) μ) : WCv G k (.type "range") [.int n] [] μ K := fun φ s vs kv I r0 rk => by
  obtain ⟨v, rfl, r⟩ := rs1 r0
  obtain rfl := kw_nil rk
  obtain ⟨t, rfl⟩ := R.int_iff.mp r
  refine call_range_1 ?_
  have hn := fresh_none s (Nat.le_refl s.heap.objs.size)
  have st := Step.frozen (X := []) (t := s.toks + 1 + 1) I hn (fun b o e => Heap.get?_push_of_some (rangeObj 0 n 1 s.toks t (s.toks + 1)) e) (Heap.get?_push_size _ rfl)
  exact ⟨_, _, _, st, R.fro_iff.mpr ⟨_, rfl, Fs.put_self ..⟩, h _ _ _⟩
theorem V.len {xs : List D} (hl : xs.length ≤ 1000000) (h : K (.int xs.length) μ) : WCv G k (.builtin "len") [.list xs] [] μ K := fun φ s vs kv I r0 rk => by
  obtain ⟨v, rfl, r⟩ := rs1 r0
  obtain rfl := kw_nil rk
  obtain ⟨a, vs, n, rfl, ho, r⟩ := R.list_iff.mp r
  have hL : s.heap.IsList a vs.toArray := ⟨_, I.sub _ _ ho, rfl, _, rfl⟩
  refine call_len_list hL (by rw [List.size_toArray, r.1]; lia) ?_
  rw [List.size_toArray, r.1]
  exact Post.of (Step.toks I _) (.int _ _) h
theorem preSum_eq (ns : List Int) : ∀ n, n ≤ ns.length → preSum (fun i => ns.getD i 0) n = (ns.take n).sum
  | 0, _ => rfl
  | n + 1, h => by
    have e : n < ns.length := h
    have e2 : ns.getD n 0 = ns[n] := by simp [List.getD, List.getElem?_eq_getElem e]
    rw [preSum, preSum_eq ns n (Nat.le_of_lt h), List.take_succ_eq_append_getElem e, List.sum_append, e2]
    simp only [List.sum_cons, List.sum_nil, Int.add_zero]
theorem V.sum {ns : List Int} (h : K (.int ns.sum) μ) : WCv G k (.builtin "sum") [.list (ns.map .int)] [] μ K := fun φ s vs kv I r0 rk => by
  obtain ⟨v, rfl, r⟩ := rs1 r0
  obtain rfl := kw_nil rk
  refine call_sum_walkG ?_
  refine IterD.list (ns.map .int) φ μ s v [] (Lv k).in1 _ I r rfl (fun _ h => nomatch h) fun J fp wr P St h' hg T hst hw hf hq => ?_
  refine ⟨J, fp, wr, ns.length, P, St, fun i => ns.getD i 0, rfl, ?_, hst, hf, fun i v hP => ?_, fun h2 tk t' hk => ?_⟩
  · have := T.W (Lv k).in1 rfl
    rwa [List.length_map] at this
  · obtain ⟨d, hd, r⟩ := T.item i v hP
    rw [List.getElem?_map, Option.map_eq_some_iff] at hd
    obtain ⟨n, hn, rfl⟩ := hd
    obtain ⟨t, rfl⟩ := R.int_iff.mp r
    exact ⟨t, by simp [hn]⟩
  · rw [preSum_eq ns _ (Nat.le_refl _), List.take_length]
    refine ⟨_, φ, μ, Step.grow I fun b o e => hk b o (fun hb => ?_) (hg b o e), .int _ _, h⟩
    rw [hw b hb] at e; cases e
theorem V.listStr {x : Str} (hx : x.cps.size ≤ 1000000) (h : ∀ a, K (.loc a) ((a, .list ((signs x).map .str)) :: μ)) : WCv G k (.type "list") [.str x] [] μ K := fun φ s vs kv I r0 rk => by
  obtain ⟨v, rfl, r⟩ := rs1 r0
  obtain rfl := kw_nil rk
  obtain ⟨t, rfl⟩ := R.str_iff.mp r
  refine call_list_str rfl x t (fun h' tk acc' c' hk hS hacc => ?_) (sizeLine_le hx)
  have hn := fresh_none s (Nat.le_refl s.heap.objs.size)
  have st := Step.cell (X := []) (t := tk) (c := .list ((signs x).map .str)) I hn hk ⟨acc'.toList, c', by simpa using hS, ?_⟩
  · exact ⟨_, _, _, st, .val _, h _⟩
  · refine ⟨by simp [signs, hacc.1], fun i v d h1 h2 => ?_⟩
    obtain ⟨c, u, hc, rfl⟩ := hacc.2 i v (by simpa using h1)
    have hc' : x.cps.toList[i]? = some c := by simpa using hc
    simp only [signs, List.map_map, List.getElem?_map, hc', Option.map_some, Option.some.injEq] at h2
    subst h2
    exact .str _ _
theorem M.str {x : Str} {name : Str} {id : String} {KM : Value → List D → Mu → Prop} (slot : Slot "str" name id) (hty : typeOf (.builtin id) = pure (.type "method_descriptor")) (h : KM (.builtin id) [.str x] μ) : WM G k (.str x) name μ KM := fun φ s v pl I r => by
  obtain ⟨t, rfl⟩ := R.str_iff.mp r
  exact getMethod_builtin (T := "str") rfl F.plainAttrs_str slot hty (fun a e => by cases e) ⟨_, φ, μ, .refl I, .cons (.str _ _) .nil, (Keeps.builtin _).at I, h⟩
theorem M.list {xs : List D} {name : Str} {id : String} {KM : Value → List D → Mu → Prop} (slot : Slot "list" name id) (hty : typeOf (.builtin id) = pure (.type "method_descriptor")) (h : KM (.builtin id) [.list xs] μ) : WM G k (.list xs) name μ KM := fun φ s v pl I r => by
  obtain ⟨a, vs, n, rfl, ho, rs⟩ := R.list_iff.mp r
  exact getMethod_builtin (T := "list") ⟨_, I.sub _ _ ho, rfl⟩ F.plainAttrs_list slot hty (fun b e => by cases e; exact ⟨_, I.sub _ _ ho, rfl⟩) ⟨_, φ, μ, .refl I, .cons r .nil, (Keeps.builtin _).at I, h⟩
theorem M.cell {a : Addr} {xs : List D} {name : Str} {id : String} {KM : Value → List D → Mu → Prop} (hm : Has μ a (.list xs)) (slot : Slot "list" name id) (hty : typeOf (.builtin id) = pure (.type "method_descriptor")) (h : KM (.builtin id) [.loc a] μ) : WM G k (.loc a) name μ KM := fun φ s v pl I r => by
  rw [R.val_iff] at r; subst r
  obtain ⟨vs, n, ho, rs⟩ := I.cells _ hm.mem
  exact getMethod_builtin (T := "list") ⟨_, ho, rfl⟩ F.plainAttrs_list slot hty (fun b e => by cases e; exact ⟨_, ho, rfl⟩) ⟨_, φ, μ, .refl I, .cons (.val _) .nil, (Keeps.builtin _).at I, h⟩
theorem V.lower {x : Str} (hx : (lowerS x).cps.size ≤ 1000000) (h : K (.str (lowerS x)) μ) : WCv G k (.builtin "str.lower") [.str x] [] μ K := fun φ s vs kv I r0 rk => by
  obtain ⟨v, rfl, r⟩ := rs1 r0
  obtain rfl := kw_nil rk
  obtain ⟨t, rfl⟩ := R.str_iff.mp r
  exact call_gives F.slot_str_lower (T := "str") rfl F.entry_str_lower (F.args_str_lower_1 _) (gives_str_lower x t (by
    have := sizeLine_le hx
    unfold Builtin.Str.tooLong
    exact decide_eq_false (Nat.not_lt.mpr this))) ⟨sizeLine_le hx, Post.of (Step.toks I (s.toks + 1)) (.str _ _) h⟩
theorem V.upper {x : Str} (hx : (upperS x).cps.size ≤ 1000000) (h : K (.str (upperS x)) μ) : WCv G k (.builtin "str.upper") [.str x] [] μ K := fun φ s vs kv I r0 rk => by
  obtain ⟨v, rfl, r⟩ := rs1 r0
  obtain rfl := kw_nil rk
  obtain ⟨t, rfl⟩ := R.str_iff.mp r
  exact call_gives F.slot_str_upper (T := "str") rfl F.entry_str_upper (F.args_str_upper_1 _) (gives_str_upper x t (by
    have := sizeLine_le hx
    unfold Builtin.Str.tooLong
    exact decide_eq_false (Nat.not_lt.mpr this))) ⟨sizeLine_le hx, Post.of (Step.toks I (s.toks + 1)) (.str _ _) h⟩
theorem V.scount {x y : Str} (h : K (.int (Builtin.Str.occurrences x y 0 x.length (x.length + 1)).length) μ) : WCv G k (.builtin "str.count") [.str x, .str y] [] μ K := fun φ s vs kv I r0 rk => by
  obtain ⟨v, w, rfl, r, r'⟩ := rs2 r0
  obtain rfl := kw_nil rk
  obtain ⟨t, rfl⟩ := R.str_iff.mp r
  obtain ⟨u, rfl⟩ := R.str_iff.mp r'
  exact call_gives F.slot_str_count (T := "str") rfl F.entry_str_count (F.args_str_count_2 _ _) (gives_str_count x y t u) (show Post G φ μ s K _ _ from Post.of (Step.toks I (s.toks + 1)) (.int _ _) h)
theorem strs_of {vs : List Value} : ∀ {ys : List Str}, Rs G φ vs (ys.map .str) → ∃ l : List (Str × Tok), vs = strValues l ∧ l.map (·.1) = ys := by
  induction vs with
  | nil =>
    intro ys h
    cases ys with
    | nil => exact ⟨[], rfl, rfl⟩
    | cons => have := h.1; simp at this
  | cons v vs ih =>
    intro ys h
    cases ys with
    | nil => have := h.1; simp at this
    | cons y ys =>
      obtain ⟨v', vs', e, r, h'⟩ := Rs.cons_iff.mp h
      cases e
      obtain ⟨l, rfl, rfl⟩ := ih h'
      obtain ⟨t, rfl⟩ := R.str_iff.mp r
      exact ⟨(y, t) :: l, rfl, rfl⟩
theorem V.join {sep : Str} {ys : List Str} (hx : ys.toArray.foldl (· + ·.length + sep.length) 0 ≤ 1000000) (hy : (Builtin.Str.glued sep ys).cps.size ≤ 1000000) (h : K (.str (Builtin.Str.glued sep ys)) μ) : WCv G k (.builtin "str.join") [.str sep, .list (ys.map .str)] [] μ K := fun φ s vs kv I r0 rk => by
  obtain ⟨v, w, rfl, r, r'⟩ := rs2 r0
  obtain rfl := kw_nil rk
  obtain ⟨t, rfl⟩ := R.str_iff.mp r
  obtain ⟨a, vs, n, rfl, ho, rs⟩ := R.list_iff.mp r'
  obtain ⟨l, rfl, rfl⟩ := strs_of rs
  refine call_meets F.slot_str_join (T := "str") rfl F.entry_str_join (F.args_str_join_2 _ _) (meets_str_join_list sep t a l (by
    have := sizeLine_le hx
    unfold Builtin.Str.tooLong
    simpa using this)) ⟨⟨_, I.sub _ _ ho, rfl, _, rfl⟩, ?_⟩
  match l, h, hy with
  | [p], h, hy =>
    have : Builtin.Str.glued sep ([p].map (·.1)) = p.1 := rfl
    rw [this] at h
    exact (show Post G φ μ s K _ _ from Post.of (.refl I) (.str _ _) h)
  | [], h, hy => exact ⟨sizeLine_le hy, Post.of (Step.toks I (s.toks + 1)) (.str _ _) h⟩
  | p :: q :: l, h, hy => exact ⟨sizeLine_le hy, Post.of (Step.toks I (s.toks + 1)) (.str _ _) h⟩
theorem V.append {a : Addr} {xs : List D} {x : D} (hc : Chg μ a (.list xs) (.list (xs ++ [x])) μ') (hl : xs.length ≤ 1000000) (h : K .none μ') : WCv G k (.builtin "list.append") [.loc a, x] [] μ K := fun φ s vs kv I r0 rk => by
  obtain ⟨v, w, rfl, r, r'⟩ := rs2 r0
  obtain rfl := kw_nil rk
  rw [R.val_iff] at r; subst r
  obtain ⟨vs, n, ho, rs⟩ := I.cells _ hc.has.mem
  refine wpAny_list_append_plain ⟨n, ho⟩ (fun h' hp hs => ?_) (by rw [List.size_toArray, rs.1]; exact sizeLine_le hl)
  obtain ⟨n', hp⟩ := hp
  have st := Step.upd (X := []) (t := s.toks) I hc.upd hs.extBut ⟨vs ++ [w], n', by simpa using hp, rs.append (.cons r' .nil)⟩
  exact Post.of st .none h
theorem V.pop0 {a : Addr} {xs : List D} {x : D} (hc : Chg μ a (.list (x :: xs)) (.list xs) μ') (hl : xs.length ≤ 100000) (h : K x μ') : WCv G k (.builtin "list.pop") [.loc a, .int 0] [] μ K := fun φ s vs kv I r0 rk => by
  obtain ⟨v, w, rfl, r, r'⟩ := rs2 r0
  obtain rfl := kw_nil rk
  rw [R.val_iff] at r; subst r
  obtain ⟨t, rfl⟩ := R.int_iff.mp r'
  obtain ⟨vs, n, ho, rs⟩ := I.cells _ hc.has.mem
  obtain ⟨y, ys, rfl, ry, rys⟩ := Rs.cons_iff.mp rs
  have ho' : s.heap.get? a = some (listOf (y :: ys).toArray n) := ho
  have hsz : (y :: ys).toArray.size ≤ sizeLine := sizeLine_le (by rw [List.size_toArray, List.length_cons, rys.1]; lia)
  refine call_meets F.slot_list_pop (T := "list") ⟨_, ho', rfl⟩ F.entry_list_pop (F.args_list_pop_2 _ _) (MeetsSeq.list_pop_at a (y :: ys).toArray n 0 t 0 y (by decide) (by simp [seqIndex?]) (by simp) hsz) ⟨ho', ?_⟩
  have e : Obj.mapSeq (fun xs => xs.eraseIdxIfInBounds 0) (listOf (y :: ys).toArray n) = listOf ys.toArray (n + 1) := by simp [Obj.mapSeq, Array.eraseIdxIfInBounds]
  have hself : (s.heap.update a (Obj.mapSeq fun xs => xs.eraseIdxIfInBounds 0)).get? a = some (listOf ys.toArray (n + 1)) := by
    rw [Heap.get?_update_self _ ho' (by rw [e]; rfl), e]
  have st := Step.upd (X := []) (t := s.toks) I hc.upd (Heap.SameBut.update s.heap a _).extBut ⟨ys, n + 1, hself, rys⟩
  exact Post.of st (ry.mono st.le) h
end
noncomputable def fdIn (K : Frag) (a : Addr) : Option FuncData := match K.lookup a with
  | some ⟨_, _, .func fd, _⟩ => some fd
  | _ => none
noncomputable def bodyOf (fd : FuncData) : List Stmt := match fd.body with
  | .stmts b => b
  | _ => []
noncomputable def fnChk (K : Frag) (fd : FuncData) : Bool := codeIn K fd.code fd.qualname && fd.closure.isEmpty && (fd.globals == mainGlobals) && (fd.builtins == builtinsNs) && !fd.scope.isCoroutine && !fd.scope.isGenerator && (fd.scope.kind == .function) &&
  (match fd.body with | .stmts _ => true | _ => false)
section
variable {G : Gr} {k : Nat} {φ φ' : Fs} {μ μ' : Mu} {s s' : Shared} {sc scC : Sc} {σ σ' : Sg} {env : Env} {K K' : D → Mu → Prop} {KT KT' : Bool → Mu → Prop} {KB KB' : Fl → Sg → Mu → Prop}
theorem FnAt.of {f : Addr} {fd : FuncData} (h : fdIn G.K f = some fd) (hc : fnChk G.K fd = true) : FnAt G f fd (bodyOf fd) := by
  unfold fdIn at h
  split at h
  · rename_i cl dd fd' sl e
    cases h
    unfold fnChk at hc
    simp only [Bool.and_eq_true, Bool.not_eq_true'] at hc
    obtain ⟨⟨⟨⟨⟨⟨⟨h1, h2⟩, h3⟩, h4⟩, h5⟩, h6⟩, h7⟩, h8⟩ := hc
    refine ⟨⟨_, G.KX _ _ e, rfl⟩, codeRec_of G.KX h1, ?_, by simpa using h2, by simpa using h3, by simpa using h4, h5, h6, by simpa using h7⟩
    unfold bodyOf
    split at h8
    · rename_i b eb; rw [eb]
    · cases h8
  · cases h
theorem WE.gl {x : Str} {p : Pos} {v : Value} (e : nsIn G.K mainGlobals x = some (some v)) (h : K (.val v) μ) (hx : sc.lookup x = some .globalImplicit) (hd : (x == ("__debug__" : Str)) = false) : WE G k sc σ (.Name x p) μ K :=
  WE.glob (mg_of G.KX G.ng e) h hx hd
theorem WE.bi {x : Str} {p : Pos} {v : Value} (e : nsIn G.K mainGlobals x = some Option.none) (hv : bootBuiltins x = some v) (h : K (.val v) μ) (hx : sc.lookup x = some .globalImplicit := by rfl) (hn : x ≠ ("__name__" : Str) := by decide) (hd : (x == ("__debug__" : Str)) = false := by decide) : WE G k sc σ (.Name x p) μ K :=
  WE.bltin (ns_none_of G.KX G.ng e) hv h hx hn hd
theorem WC.pos {f : Addr} {fd : FuncData} {as : List D} {ps : Sg} (hk : k < 40) (hf : fdIn G.K f = some fd) (hc : fnChk G.K fd = true) (hb : ∀ φ s vs, Inv G φ μ s → Rs G φ vs as → ∃ bs, BindsTo s fd ⟨vs, []⟩ bs ∧ Rkw G φ bs ps)
    (hn : (ps.map (·.1)).Nodup) (hown : (ps.map (·.1)).all (isOwn fd.scope.names) = true)
    (h : WB G k fd.scope.names ps (bodyOf fd) μ fun fl _ μ' => K (retOf fl) μ') : WC G (k + 1) (.ref f) as [] μ K :=
  WC.fn hk (FnAt.of hf hc) (fun φ s vs kv I r rk => by obtain rfl := kw_nil rk; exact hb φ s vs I r) hn hown h
end
theorem look_here {x : Str} {d : D} {σ : Sg} : List.lookup x ((x, d) :: σ) = some d := by simp [List.lookup]
theorem look_next {x y : Str} {d e : D} {σ : Sg} (h : (x == y) = false) (r : List.lookup x σ = some d) : List.lookup x ((y, e) :: σ) = some d := by rw [List.lookup_cons, h]; exact r
theorem look_set {x : Str} {d : D} {σ : Sg} : List.lookup x (setS σ x d) = some d := by rw [setS_lookup]; simp
theorem look_set' {x y : Str} {d e : D} {σ : Sg} (h : (x == y) = false) (r : List.lookup x σ = some d) : List.lookup x (setS σ y e) = some d := by
  rw [setS_lookup, if_neg (by simpa using h)]; exact r
theorem look_all {x y : Str} {d e : D} {ys : List Str} {es : List D} {σ : Sg} (r : List.lookup x (setAll (setS σ y e) ys es) = some d) : List.lookup x (setAll σ (y :: ys) (e :: es)) = some d := r
theorem look_all0 {x : Str} {d : D} {es : List D} {σ : Sg} (r : List.lookup x σ = some d) : List.lookup x (setAll σ [] es) = some d := by
  cases es <;> exact r
noncomputable def capd (scC : Sc) (x : Str) : Bool := match scC.lookup x with | some .cell => true | some .free => true | _ => false
theorem look_cap {x : Str} {d : D} {σ : Sg} {scC : Sc} (h : capd scC x = true) (r : List.lookup x σ = some d) : List.lookup x (capF scC σ) = some d := by
  refine capF_has ?_ r
  unfold capd at h
  split at h <;> simp_all
section
variable {G : Gr} {k : Nat} {μ μ' : Mu} {sc scC : Sc} {σ σ' : Sg} {env : Env} {K K' : D → Mu → Prop} {KT KT' : Bool → Mu → Prop} {KB KB' : Fl → Sg → Mu → Prop}
theorem WEs.nil' {KL : List D → Mu → Prop} (h : KL [] μ) : WEs G k sc σ [] μ KL := h
theorem WEs.cons' {e : Expr} {es : List Expr} {KL : List D → Mu → Prop} (h : WE G k sc σ e μ fun d μ1 => WEs G k sc σ es μ1 fun ds μ2 => KL (d :: ds) μ2) : WEs G k sc σ (e :: es) μ KL := h
theorem WKs.nil' {KL : List (Str × D) → Mu → Prop} (h : KL [] μ) : WKs G k sc σ [] μ KL := h
theorem WKs.cons' {n : Str} {e : Expr} {p : Pos} {es : List Keyword} {KL : List (Str × D) → Mu → Prop} (h : WE G k sc σ e μ fun d μ1 => WKs G k sc σ es μ1 fun ds μ2 => KL ((n, d) :: ds) μ2) : WKs G k sc σ (⟨some n, e, p⟩ :: es) μ KL := h
noncomputable def seqK (G : Gr) (k : Nat) (sc : Sc) (b : List Stmt) (KB : Fl → Sg → Mu → Prop) : Fl → Sg → Mu → Prop
  | .next, σ, μ => WB G k sc σ b μ KB
  | fl, σ, μ => KB fl σ μ
theorem WS.mono {st : Stmt} (h : WS G k sc σ st μ KB) (hK : ∀ f σ μ, KB f σ μ → KB' f σ μ) : WS G k sc σ st μ KB' := fun env φ s I E =>
  wpAny_mono (h env φ s I E) (fun _ _ ⟨f, σ', φ', μ', st, r, x, y⟩ => ⟨f, σ', φ', μ', st, r, x, hK _ _ _ y⟩) nev
theorem WB.cons' {st : Stmt} {b : List Stmt} (h : WS G k sc σ st μ (seqK G k sc b KB)) : WB G k sc σ (st :: b) μ KB := WB.cons (WS.mono h fun fl σ μ hk => by cases fl <;> exact hk)
theorem seqK.next {b : List Stmt} (h : WB G k sc σ b μ KB) : seqK G k sc b KB .next σ μ := h
theorem seqK.ret {b : List Stmt} {d : D} (h : KB (.ret d) σ μ) : seqK G k sc b KB (.ret d) σ μ := h
theorem seqK.cont {b : List Stmt} (h : KB .cont σ μ) : seqK G k sc b KB .cont σ μ := h
theorem WLoop.nil' {t : Expr} {body : List Stmt} (h : KB .next σ μ) : WLoop G k sc t body KB [] σ μ := h
theorem WA.mono {t : Expr} {d : D} {KA KA' : Sg → Mu → Prop} (h : WA G k sc σ t d μ KA) (hK : ∀ σ μ, KA σ μ → KA' σ μ) : WA G k sc σ t d μ KA' := fun env φ s v I E r =>
  wpAny_mono (h env φ s v I E r) (fun _ _ ⟨σ', φ', μ', st, r, x⟩ => ⟨σ', φ', μ', st, r, hK _ _ x⟩) nev
theorem WLC.nil' {elt t : Expr} {ifs : List Expr} {KD : List D → Mu → Prop} {acc : List D} (h : KD acc μ) : WLC G k sc elt t ifs KD [] σ acc μ := h
theorem WLC.cons0 {elt t : Expr} {KD : List D → Mu → Prop} {d : D} {ds acc : List D} (h : WAL G k sc σ t d μ fun σ1 μ1 => WE G k sc σ1 elt μ1 fun x μ3 => WLC G k sc elt t [] KD ds σ1 (acc ++ [x]) μ3) : WLC G k sc elt t [] KD (d :: ds) σ acc μ := h
theorem WLC.cons1 {elt t c : Expr} {KD : List D → Mu → Prop} {d : D} {ds acc : List D} (h : WAL G k sc σ t d μ fun σ1 μ1 => WT G k sc σ1 c μ1 fun b μ2 => if b then WE G k sc σ1 elt μ2 fun x μ3 => WLC G k sc elt t [c] KD ds σ1 (acc ++ [x]) μ3 else WLC G k sc elt t [c] KD ds σ1 acc μ2) : WLC G k sc elt t [c] KD (d :: ds) σ acc μ := h
theorem WP.none' {KP : Option Int → Mu → Prop} (h : KP none μ) : WP G k sc σ none μ KP := h
theorem WP.some' {e : Expr} {KP : Option Int → Mu → Prop} (h : WE G k sc σ e μ fun d μ1 => ∃ i, d = .int i ∧ KP (some i) μ1) : WP G k sc σ (some e) μ KP := h
theorem exI {i : Int} {P : Int → Prop} (h : P i) : ∃ j, D.int i = .int j ∧ P j := ⟨i, rfl, h⟩
theorem WS.assign' {x : Str} {p p' : Pos} {e : Expr} (h : WE G k sc σ e μ fun d μ1 => KB .next (setS σ x d) μ1) (hx : isOwn sc x = true) (hs : ∀ env, swapsWith e (some (.Name x p')) p.line env = pure false) : WS G k sc σ (.Assign [.Name x p'] e p) μ KB := WS.assign h hx fun env _ => hs env
theorem WI.range {t f : Expr} {e : Expr} {p : Pos} {KL : List D → Mu → Mu → Prop} (hf : ∀ (K : D → Mu → Prop), K (.val (.type "range")) μ → WE G k sc σ f μ K) (hfn : funcNot f = true)
    (h : WE G k sc σ e μ fun d μ1 => ∃ n : Nat, d = .int n ∧ n ≤ 1000000 ∧ KL ((List.range n).map fun (i : Nat) => D.int i) [] μ1) (he : notStar e = true) : WI G k sc σ t (.Call f [e] [] p) μ KL := by
  refine WI.of (WE.call (hf _ ⟨_, rfl, Keeps.type _, ?_⟩) (by simp [he]) rfl hfn)
  refine WEs.cons' (WE.mono h fun d μ1 ⟨n, hd, hn, hK⟩ => ?_)
  subst hd
  refine WEs.nil' (WKs.nil' (V.range fun t u v => ⟨_, IterD.range hn, hK⟩))
end
noncomputable def isNoneD : D → Bool
  | .none => true
  | _ => false
noncomputable def notVal : D → Bool
  | .val _ => false
  | _ => true
section
variable {G : Gr} {k : Nat} {φ φ' : Fs} {μ μ' : Mu} {s s' : Shared} {sc scC : Sc} {σ σ' : Sg} {env : Env} {K K' : D → Mu → Prop} {KT KT' : Bool → Mu → Prop} {KB KB' : Fl → Sg → Mu → Prop}
theorem V.addL {xs ys : List D} (hl : xs.length + ys.length ≤ 1000000) (h : K (.list (xs ++ ys)) μ) : WV2 G k (.list xs) (.list ys) μ (binaryOp .Add) K := fun φ s v1 v2 I r1 r2 => by
  obtain ⟨a, vs, n, rfl, ho, ra⟩ := R.list_iff.mp r1
  obtain ⟨b, ws, m, rfl, hp, rb⟩ := R.list_iff.mp r2
  refine PySem.P.add_list (n := n) (n2 := m) (I.sub _ _ ho) (I.sub _ _ hp) ?_ (sizeLine_le (by rw [List.size_toArray, List.size_toArray, ra.1, rb.1]; exact hl))
  have e : vs.toArray ++ ws.toArray = (vs ++ ws).toArray := by simp
  rw [e]
  exact (new_list I (ra.append rb)).mono fun d μ' ⟨e1, e2⟩ => by rw [e1, e2]; exact h
theorem V.addT {xs ys : List D} (h1 : xs ≠ []) (h2 : ys ≠ []) (hl : xs.length + ys.length ≤ 1000000) (h : K (.tup (xs ++ ys)) μ) : WV2 G k (.tup xs) (.tup ys) μ (binaryOp .Add) K := fun φ s v1 v2 I r1 r2 => by
  obtain ⟨a, vs, n, rfl, ho, ra⟩ := R.tup_iff.mp r1
  obtain ⟨b, ws, m, rfl, hp, rb⟩ := R.tup_iff.mp r2
  have ne : ∀ {us : List Value} {zs : List D}, Rs G φ us zs → zs ≠ [] → ¬ us.toArray.isEmpty = true := fun {us zs} r hz he => by
    have : us = [] := by simpa using he
    rw [this] at r
    have := r.1
    exact hz (List.eq_nil_of_length_eq_zero this.symm)
  refine PySem.P.add_tuple (n := n) (n2 := m) (I.sub _ _ ho) (I.sub _ _ hp) (ne ra h1) (ne rb h2) ?_ (sizeLine_le (by rw [List.size_toArray, List.size_toArray, ra.1, rb.1]; exact hl))
  have e : vs.toArray ++ ws.toArray = (vs ++ ws).toArray := by simp
  rw [e]
  exact (new_tup I (ra.append rb)).mono fun d μ' ⟨e1, e2⟩ => by rw [e1, e2]; exact h
theorem V.neS {x y : Str} (h : K (.bool (!(x == y))) μ) : WV2 G k (.str x) (.str y) μ (compareOp .NotEq) K := fun φ s v1 v2 I r1 r2 => by
  obtain ⟨t, rfl⟩ := R.str_iff.mp r1; obtain ⟨u, rfl⟩ := R.str_iff.mp r2
  exact SeqAt.RcNeAt.str_str x t y u _ _ _ _ (Post.of (.refl I) (.bool _) h)
theorem strsAre_of {vs : List Value} {ys : List Str} (h : Rs G φ vs (ys.map .str)) : StrsAre vs ys := by
  induction vs generalizing ys with
  | nil =>
    cases ys with
    | nil => first | exact .nil | exact trivial | constructor
    | cons => have := h.1; simp at this
  | cons v vs ih =>
    cases ys with
    | nil => have := h.1; simp at this
    | cons n ns =>
      obtain ⟨v', vs', e, r, h'⟩ := Rs.cons_iff.mp h
      cases e
      obtain ⟨t, rfl⟩ := R.str_iff.mp r
      exact .cons _ _ (ih h')
theorem V.notinLS {ys : List Str} {x : Str} (h : K (.bool (!(ys.any (· == x)))) μ) : WV2 G k (.str x) (.list (ys.map .str)) μ (compareOp .NotIn) K := fun φ s v1 v2 I r1 r2 => by
  obtain ⟨t, rfl⟩ := R.str_iff.mp r1
  obtain ⟨a, vs, n, rfl, ho, ra⟩ := R.list_iff.mp r2
  exact notin_list_strs ⟨_, I.sub _ _ ho, rfl, _, rfl⟩ (strsAre_of ra) (Post.of (.refl I) (.bool _) h)
theorem T.bool {b : Bool} (h : KT b μ) : WTr G k (.bool b) μ KT := fun φ s v I r => by
  obtain rfl := R.bool_iff.mp r
  exact wpAny_truthy_bool ⟨φ, μ, .refl I, h⟩
theorem T.cell {a : Addr} {xs : List D} (hm : Has μ a (.list xs)) (hl : xs.length ≤ 1000000) (h : KT (!xs.isEmpty) μ) : WTr G k (.loc a) μ KT := fun φ s v I r => by
  rw [R.val_iff] at r; subst r
  obtain ⟨vs, n, ho, ra⟩ := I.cells _ hm.mem
  refine wpAny_truthy_list (items := vs.toArray) ⟨_, ho, rfl, _, rfl⟩ (by rw [List.size_toArray, ra.1]; lia) ⟨φ, μ, Step.toks I _, ?_⟩
  have : (!vs.toArray.isEmpty) = !xs.isEmpty := by
    cases vs <;> cases xs <;> first | rfl | (have := ra.1; simp at this)
  rw [this]; exact h
theorem isNone_eq {v : Value} {d : D} (r : R G φ v d) : notVal d = true → (v == Value.none) = isNoneD d :=
  R.casesOn (motive := fun v d _ => notVal d = true → (v == Value.none) = isNoneD d) r (fun _ => rfl) (fun _ _ => rfl) (fun _ _ _ => rfl) (fun _ _ _ => rfl) (fun _ h => absurd h Bool.noConfusion) (fun _ _ _ _ => rfl) (fun _ _ _ _ => rfl) (fun _ _ _ _ _ _ => rfl)
    (fun _ _ => rfl) (fun _ _ => rfl) (fun _ _ _ => rfl) (fun _ _ _ => rfl) (fun _ _ _ => rfl)
theorem V.isNotNone {d : D} (h : K (.bool (!isNoneD d)) μ) (hd : notVal d = true) : WV2 G k d .none μ (compareOp .IsNot) K := fun φ s v1 v2 I r1 r2 => by
  obtain rfl := R.none_iff.mp r2
  refine isNot_none ?_
  rw [isNone_eq r1 hd]
  exact Post.of (.refl I) (.bool _) h
theorem V.neL {xs ys : List Int} (h : K (.bool (!(xs == ys))) μ) : WV2 G k (.list (xs.map .int)) (.list (ys.map .int)) μ (compareOp .NotEq) K := fun φ s v1 v2 I r1 r2 => by
  obtain ⟨a, vs, n, rfl, ho, ra⟩ := R.list_iff.mp r1
  obtain ⟨b, ws, m, rfl, hp, rb⟩ := R.list_iff.mp r2
  have ha : s.heap.IsList a vs.toArray := ⟨_, I.sub _ _ ho, rfl, _, rfl⟩
  have hb : s.heap.IsList b ws.toArray := ⟨_, I.sub _ _ hp, rfl, _, rfl⟩
  by_cases hl : xs.length = ys.length
  · have hsz : vs.toArray.size = ws.toArray.size := by rw [List.size_toArray, List.size_toArray, ra.1, rb.1]; simpa using hl
    have := SeqAt.RcNeAt.lists (A := Lv k) (e := fun j => xs.getD j 0 == ys.getD j 0) ha hb hsz (lv_units k) (fun j h1 h2 => by
      have j1 : j < vs.length := by simpa using h1
      have j2 : j < ws.length := by simpa using h2
      have x1 : j < xs.length := by have := ra.1; simp at this; lia
      have x2 : j < ys.length := by have := rb.1; simp at this; lia
      have r1 := ra.2 j vs[j] (.int xs[j]) (by simp [j1]) (by simp [x1])
      have r2 := rb.2 j ws[j] (.int ys[j]) (by simp [j2]) (by simp [x2])
      obtain ⟨t, e1⟩ := R.int_iff.mp r1
      obtain ⟨u, e2⟩ := R.int_iff.mp r2
      have := SeqAt.EqAt.int_int (A := (Lv k).in1) (s := s) xs[j] t ys[j] u
      simpa [e1, e2, x1, x2] using this)
    refine this _ _ _ _ ?_
    have e : (List.range vs.toArray.size).all (fun j => xs.getD j 0 == ys.getD j 0) = (xs == ys) := by
      rw [List.size_toArray, ra.1, List.length_map]
      rw [Bool.eq_iff_iff, List.all_eq_true, beq_iff_eq]
      constructor
      · intro hh
        refine List.ext_getElem hl fun j h1 h2 => ?_
        have := hh j (by simpa using h1)
        simpa [h1, h2] using this
      · rintro rfl j _; simp
    rw [e]
    exact Post.of (.refl I) (.bool _) h
  · have hsz : (vs.toArray.size != ws.toArray.size) = true := by
      rw [List.size_toArray, List.size_toArray, ra.1, rb.1]; simpa using hl
    refine SeqAt.RcNeAt.lists_lengths (A := Lv k) ha hb hsz (lv_units k) _ _ _ _ ?_
    have e : (xs == ys) = false := by rw [beq_eq_false_iff_ne]; rintro rfl; exact hl rfl
    rw [e] at h
    exact Post.of (.refl I) (.bool _) h
end
noncomputable def SgLe (σ' σ : Sg) : Prop := ∀ y d, σ'.lookup y = some d → σ.lookup y = some d
section
variable {G : Gr} {k : Nat} {φ φ' : Fs} {μ μ' : Mu} {s s' : Shared} {sc scC : Sc} {σ σ' : Sg} {env : Env} {K K' : D → Mu → Prop} {KT KT' : Bool → Mu → Prop} {KB KB' : Fl → Sg → Mu → Prop}
theorem EnvR.weak {h : Heap} (E : EnvR G φ μ sc σ env h) (hs : SgLe σ' σ) : EnvR G φ μ sc σ' env h := E.congr fun y d _ => hs y d
theorem WB.weak {b : List Stmt} (hs : SgLe σ' σ) (h : WB G k sc σ' b μ KB) : WB G k sc σ b μ KB := fun env φ s I E => h env φ s I (E.weak hs)
theorem WAL.weak {t : Expr} {d : D} {KA : Sg → Mu → Prop} (hs : SgLe σ' σ) (h : WAL G k sc σ' t d μ KA) : WAL G k sc σ t d μ KA := fun env φ s v I E r => h env φ s v I (E.weak hs) r
theorem WLC.weak {elt t : Expr} {ifs : List Expr} {KD : List D → Mu → Prop} {items acc : List D} (hs : SgLe σ' σ) (h : WLC G k sc elt t ifs KD items σ' acc μ) : WLC G k sc elt t ifs KD items σ acc μ := by
  cases items with
  | nil => exact h
  | cons d ds => exact WAL.weak hs h
theorem WT.mono {e : Expr} (h : WT G k sc σ e μ KT) (hK : ∀ d μ, KT d μ → KT' d μ) : WT G k sc σ e μ KT' := fun env φ s I E =>
  wpAny_mono (h env φ s I E) (fun _ _ ⟨φ', μ', st, x⟩ => ⟨φ', μ', st, hK _ _ x⟩) nev
theorem SgLe.set {x : Str} {d : D} (hx : σ.lookup x = none) : SgLe σ (setS σ x d) := fun y e h => by
  rw [setS_lookup, if_neg fun q => by rw [q, hx] at h; cases h]; exact h
theorem SgLe.refl : SgLe σ σ := fun _ _ h => h
theorem SgLe.nil : SgLe [] σ := fun _ _ h => by cases h
theorem SgLe.cons {x : Str} {d : D} (hx : σ.lookup x = some d) (h : SgLe σ' σ) : SgLe ((x, d) :: σ') σ := fun y e he => by
  rw [List.lookup_cons] at he
  cases q : y == x with
  | true => rw [q] at he; cases he; rw [beq_iff_eq.mp q]; exact hx
  | false => rw [q] at he; exact h y e he
theorem WLC.mapN {α : Type} {x : Str} {p : Pos} {elt : Expr} {KD : List D → Mu → Prop} (F g : α → D) (hx : sc.lookup x = some .local) (h0 : σ.lookup x = none) (items : List α) : ∀ (acc : List D),
    (∀ a ∈ items, WE G k sc (setS σ x (F a)) elt μ fun d μ1 => d = g a ∧ μ1 = μ) → KD (acc ++ items.map g) μ → WLC G k sc elt (.Name x p) [] KD (items.map F) σ acc μ := by
  induction items with
  | nil => intro acc _ h; exact WLC.nil' (by simpa using h)
  | cons a items ih =>
    intro acc hb h
    refine WLC.cons0 (WAL.name hx (WE.mono (hb a (.head _)) fun d μ1 ⟨e1, e2⟩ => ?_))
    subst e1 e2
    exact WLC.weak (SgLe.set h0) (ih _ (fun b hb' => hb b (.tail _ hb')) (by simpa using h))
theorem WLC.pickN {α : Type} {x : Str} {p : Pos} {elt c : Expr} {KD : List D → Mu → Prop} (F g : α → D) (q : α → Bool) (hx : sc.lookup x = some .local) (h0 : σ.lookup x = none) (items : List α) : ∀ (acc : List D),
    (∀ a ∈ items, WT G k sc (setS σ x (F a)) c μ fun b μ1 => b = q a ∧ μ1 = μ) → (∀ a ∈ items, q a = true → WE G k sc (setS σ x (F a)) elt μ fun d μ1 => d = g a ∧ μ1 = μ) →
    KD (acc ++ (items.filter q).map g) μ → WLC G k sc elt (.Name x p) [c] KD (items.map F) σ acc μ := by
  induction items with
  | nil => intro acc _ _ h; exact WLC.nil' (by simpa using h)
  | cons a items ih =>
    intro acc ht hb h
    refine WLC.cons1 (WAL.name hx (WT.mono (ht a (.head _)) fun b μ1 ⟨e1, e2⟩ => ?_))
    subst e1 e2
    cases hq : q a with
    | true =>
      simp only [if_true]
      refine WE.mono (hb a (.head _) hq) fun d μ1 ⟨e1, e2⟩ => ?_
      subst e1 e2
      exact WLC.weak (SgLe.set h0) (ih _ (fun b hb' => ht b (.tail _ hb')) (fun b hb' => hb b (.tail _ hb')) (by simpa [List.filter_cons, hq] using h))
    | false =>
      simp only [Bool.false_eq_true, if_false]
      exact WLC.weak (SgLe.set h0) (ih _ (fun b hb' => ht b (.tail _ hb')) (fun b hb' => hb b (.tail _ hb')) (by simpa [List.filter_cons, hq] using h))
theorem look_none_cap {x : Str} {scC : Sc} (h : capd scC x = false) : (capF scC σ).lookup x = none := by
  cases e : (capF scC σ).lookup x with
  | none => rfl
  | some d =>
    obtain ⟨a, _⟩ := capF_lookup e
    unfold capd at h
    rcases a with a | a <;> simp [a] at h
theorem pick_map {α β : Type} (f : α → β) (xs : List α) (lo hi st : Option Int) : Mine.pick (xs.map f) lo hi st = (Mine.pick xs lo hi st).map f := by
  unfold Mine.pick
  rw [List.length_map]
  generalize sliceRange _ _ _ = l
  induction l with
  | nil => rfl
  | cons i l ih =>
    cases e : xs[i]? with
    | none => rw [List.filterMap_cons_none (by simpa using e), List.filterMap_cons_none e, ih]
    | some x => rw [List.filterMap_cons_some (b := f x) (by simp [e]), List.filterMap_cons_some e, List.map_cons, ih]
end
section
variable {G : Gr} {k : Nat} {φ φ' : Fs} {μ μ' : Mu} {s s' : Shared} {sc scC : Sc} {σ σ' : Sg} {env : Env} {K K' : D → Mu → Prop} {KT KT' : Bool → Mu → Prop} {KB KB' : Fl → Sg → Mu → Prop}
theorem V.indexS {ys : List Str} {x : Str} {j : Nat} (hj : ys[j]? = some x) (hno : ∀ m, m < j → ys[m]? ≠ some x) (hs : j < 1000000) (h : K (.int j) μ) : WCv G k (.builtin "list.index") [.list (ys.map .str), .str x] [] μ K := fun φ s vs kv I r0 rk => by
  obtain ⟨v, w, rfl, r, r'⟩ := rs2 r0
  obtain rfl := kw_nil rk
  obtain ⟨t, rfl⟩ := R.str_iff.mp r'
  obtain ⟨a, vs, n, rfl, ho, ra⟩ := R.list_iff.mp r
  have ho' : s.heap.get? a = some (listOf vs.toArray n) := I.sub _ _ ho
  obtain ⟨l, rfl, rfl⟩ := strs_of ra
  have hlen : (strValues l).toArray.size = l.length := by simp [strValues]
  obtain ⟨hj1, hj2⟩ := List.getElem?_eq_some_iff.mp hj
  have hj3 : j < l.length := by simpa using hj1
  have get : ∀ m (hm : m < (strValues l).toArray.size), ∃ u, (strValues l).toArray[m] = .str ((l.map (·.1))[m]'(by simpa [strValues] using hm)) u := fun m hm => by
    refine ⟨(l[m]'(by simpa [strValues] using hm)).2, ?_⟩
    simp [strValues]
  refine call_meets F.slot_list_index (T := "list") ⟨_, ho', rfl⟩ F.entry_list_index (F.args_list_index_2 _ _) (MeetsSeq.list_index a (strValues l).toArray n (.str x t) (fun v => match v with | .str i _ => i == x | _ => false) (fun y hy => ?_) j (by rw [hlen]; exact hj3) (by lia) ?_ (fun m hm hmj => ?_)) ⟨ho', ?_⟩
  · have hy' : y ∈ strValues l := by simpa using hy
    obtain ⟨p, _, rfl⟩ := List.mem_map.mp hy'
    exact eqGives_str p.1 x p.2 t
  · obtain ⟨u, e⟩ := get j (by rw [hlen]; exact hj3)
    rw [e]
    simpa using hj2
  · obtain ⟨u, e⟩ := get m hm
    rw [e]
    have := hno m hmj
    have hm' : m < (l.map (·.1)).length := by simpa [strValues] using hm
    rw [List.getElem?_eq_getElem hm'] at this
    simpa using this
  · exact (show Post G φ μ s K _ _ from Post.of (Step.toks I (s.toks + 1)) (.int _ _) h)
theorem IterD.str (x : Str) (hx : x.cps.all (· < 128) = true) : IterD G (.str x) ((signs x).map .str) := fun φ μ s v X A Q I r hA hX hQ => by
  obtain ⟨t, rfl⟩ := R.str_iff.mp r
  have hlen : ((signs x).map D.str).length = x.cps.size := by simp [signs]
  obtain ⟨T, hw, hf⟩ := mkIter (items := (signs x).map .str) (fz := []) (P := SignAt x) (St := fun i h => h.IsStrIter s.heap.objs.size "str_ascii_iterator" x t i) I hX rfl (fun A' hA' => by
      rw [hlen]; exact Walks.strAscii hA' s.heap.objs.size x t) (fun i h st b hb => by
      simp at hb; subst hb
      obtain ⟨o, ho, _⟩ := st; exact ⟨o, ho⟩) (fun i v hv => by
      obtain ⟨c, u, hc, rfl⟩ := hv
      refine ⟨.str ⟨#[c]⟩, ?_, .str _ _⟩
      have hc' : x.cps.toList[i]? = some c := by simpa using hc
      simp only [signs, List.map_map, List.getElem?_map, hc', Option.map_some]; rfl) (fun b hb => nomatch hb)
  refine wpAny_pyIter_ascii hx (hQ _ _ _ _ _ _ (fun b o e => Heap.get?_push_of_some _ e) T ?_ hw (hf _) ?_)
  · exact ⟨_, Heap.get?_push_size _ rfl, rfl, rfl⟩
  · intro t i s1 v Q' A' st h
    obtain ⟨o, ho, hc, hd⟩ := st
    exact quiet_of ho hc hd (by decide) h
end
noncomputable def atD (ds : List (Str × D)) (k : Str) : Option D := (ds.find? fun kv => kv.1 = k).map (·.2)
noncomputable def putD (ds : List (Str × D)) (k : Str) (d : D) : List (Str × D) := if ds.any (fun kv => kv.1 = k) then ds.map (fun kv => if kv.1 = k then (kv.1, d) else kv) else ds ++ [(k, d)]
section
variable {G : Gr} {k : Nat} {φ φ' : Fs} {μ μ' : Mu} {s s' : Shared} {sc scC : Sc} {σ σ' : Sg} {env : Env} {K K' : D → Mu → Prop} {KT KT' : Bool → Mu → Prop} {KB KB' : Fl → Sg → Mu → Prop}
theorem Rd.nil : Rd G φ [] [] := ⟨rfl, fun i e p h => by simp at h⟩
theorem Rd.cons {x : Str} {v : Value} {d : D} {kvs ds} (r : R G φ v d) (h : Rd G φ kvs ds) : Rd G φ ((x, v) :: kvs) ((x, d) :: ds) := by
  refine ⟨by simp [h.1], fun i e p h1 h2 => ?_⟩
  cases i with
  | zero => simp at h1 h2; subst h1 h2; exact r
  | succ i => simp at h1 h2; exact h.2 i _ _ h1 h2
theorem Rd.inv {kvs} {x : Str} {d : D} {ds} (h : Rd G φ kvs ((x, d) :: ds)) : ∃ v kvs', kvs = (x, v) :: kvs' ∧ R G φ v d ∧ Rd G φ kvs' ds := by
  cases kvs with
  | nil => cases h.1
  | cons e kvs =>
    obtain ⟨y, v⟩ := e
    have := h.1
    simp only [List.map_cons, List.cons.injEq] at this
    obtain ⟨rfl, h1⟩ := this
    exact ⟨v, kvs, rfl, h.2 0 _ _ rfl rfl, h1, fun i e p a b => h.2 (i + 1) e p (by simpa using a) (by simpa using b)⟩
theorem Rd.nil_inv {kvs} (h : Rd G φ kvs []) : kvs = [] := by
  cases kvs with
  | nil => rfl
  | cons e kvs => cases h.1
theorem Rd.len {kvs ds} (h : Rd G φ kvs ds) : kvs.length = ds.length := by simpa using congrArg List.length h.1
theorem Rd.at {ds : List (Str × D)} {x : Str} : ∀ {kvs}, Rd G φ kvs ds → (∀ d, atD ds x = some d → ∃ v, valueAt kvs x = some v ∧ R G φ v d) ∧ (atD ds x = none → valueAt kvs x = none) := by
  induction ds with
  | nil => intro kvs h; obtain rfl := h.nil_inv; exact ⟨fun d h => (by cases h), fun _ => rfl⟩
  | cons p ds ih =>
    obtain ⟨y, e⟩ := p
    intro kvs h
    obtain ⟨v, kvs', rfl, r, h'⟩ := h.inv
    unfold atD valueAt
    simp only [List.find?_cons]
    by_cases hy : y = x
    · simp only [hy, decide_true]
      exact ⟨fun d hd => ⟨v, rfl, by cases hd; exact r⟩, fun hd => by cases hd⟩
    · simp only [hy, decide_false]
      exact ih h'
theorem Rd.any {ds : List (Str × D)} {x : Str} {kvs} (h : Rd G φ kvs ds) : kvs.any (fun kv => kv.1 = x) = ds.any (fun kv => kv.1 = x) := by
  have e1 : kvs.any (fun kv => kv.1 = x) = (kvs.map (·.1)).any (fun y => y = x) := by rw [List.any_map]; rfl
  have e2 : ds.any (fun kv => kv.1 = x) = (ds.map (·.1)).any (fun y => y = x) := by rw [List.any_map]; rfl
  rw [e1, e2, h.1]
theorem Rd.append {ds ds' : List (Str × D)} : ∀ {kvs kvs'}, Rd G φ kvs ds → Rd G φ kvs' ds' → Rd G φ (kvs ++ kvs') (ds ++ ds') := by
  induction ds with
  | nil => intro kvs kvs' h h'; obtain rfl := h.nil_inv; exact h'
  | cons p ds ih =>
    obtain ⟨y, e⟩ := p
    intro kvs kvs' h h'
    obtain ⟨v, kvs1, rfl, r, h1⟩ := h.inv
    exact .cons r (ih h1 h')
theorem Rd.putM {x : Str} {w : Value} {d : D} (rw' : R G φ w d) {ds : List (Str × D)} : ∀ {kvs}, Rd G φ kvs ds → Rd G φ (kvs.map fun kv => if kv.1 = x then (kv.1, w) else kv) (ds.map fun kv => if kv.1 = x then (kv.1, d) else kv) := by
  induction ds with
  | nil => intro kvs h; obtain rfl := h.nil_inv; exact .nil
  | cons p ds ih =>
    obtain ⟨y, e⟩ := p
    intro kvs h
    obtain ⟨v, kvs1, rfl, r, h1⟩ := h.inv
    simp only [List.map_cons]
    by_cases hy : y = x
    · simp only [hy, if_true]; exact .cons rw' (ih h1)
    · simp only [hy, if_false]; exact .cons r (ih h1)
theorem Rd.put {x : Str} {w : Value} {d : D} {kvs ds} (h : Rd G φ kvs ds) (r : R G φ w d) : Rd G φ (stored kvs x w) (Mine.putD ds x d) := by
  unfold stored Mine.putD
  rw [h.any]
  split
  · exact h.putM r
  · exact h.append (.cons r .nil)
theorem dict_at {v : Value} {d : D} {ds : List (Str × D)} (I : Inv G φ μ s) (r : R G φ v d) (hd : d = .dict ds ∨ ∃ a, d = .loc a ∧ Has μ a (.dict ds)) : ∃ a kvs, v = .ref a ∧ (a == sysModules) = false ∧ s.heap.DictOf G.knd a kvs ∧ Rd G φ kvs ds := by
  rcases hd with rfl | ⟨a, rfl, hm⟩
  · obtain ⟨a, o, kvs, rfl, ho, hs, hd, rd⟩ := R.dict_iff.mp r
    exact ⟨a, kvs, rfl, hs, Heap.dictOf_iff.mpr ⟨o, I.sub _ _ ho, hd⟩, rd⟩
  · rw [R.val_iff] at r; subst r
    obtain ⟨hs, o, kvs, ho, hd, rd⟩ := I.cells _ hm.mem
    exact ⟨a, kvs, rfl, hs, Heap.dictOf_iff.mpr ⟨o, ho, hd⟩, rd⟩
theorem V.inD {x : Str} {d : D} {ds : List (Str × D)} (hd : d = .dict ds ∨ ∃ a, d = .loc a ∧ Has μ a (.dict ds)) (h : K (.bool (atD ds x).isSome) μ) : WV2 G k (.str x) d μ (compareOp .In) K := fun φ s v1 v2 I r1 r2 => by
  obtain ⟨t, rfl⟩ := R.str_iff.mp r1
  obtain ⟨a, kvs, rfl, hs, hD, rd⟩ := dict_at I r2 hd
  refine wpAny_in_of (knd := G.knd) (k := x) (strKind_is _ _ _ _) hs hD.mapOf ?_
  have e : (valueAt kvs x).isSome = (atD ds x).isSome := by
    obtain ⟨h1, h2⟩ := rd.at (x := x)
    cases e : atD ds x with
    | none => rw [h2 e]; rfl
    | some d => obtain ⟨v, hv, _⟩ := h1 d e; rw [hv]; rfl
  rw [e]
  exact Post.of (Step.toks I _) (.bool _) h
theorem V.getDi {value slice : Expr} {x : Str} {d e : D} {ds : List (Str × D)} (hd : d = .dict ds ∨ ∃ a, d = .loc a ∧ Has μ a (.dict ds)) (hx : atD ds x = some e) (h : K e μ) : WG G k value slice d (.str x) μ K := fun φ s v1 v2 I r1 r2 => by
  obtain ⟨t, rfl⟩ := R.str_iff.mp r2
  obtain ⟨a, kvs, rfl, hs, hD, rd⟩ := dict_at I r1 hd
  obtain ⟨v, hv, rv⟩ := (rd.at (x := x)).1 e hx
  exact tail_get hD.typeIs PySem.slot_dict_getitem.lookup (wpAny_getItem_of (knd := G.knd) (k := x) (strKind_is _ _ _ _) hD.mapOf hv (Post.of (Step.toks I _) rv h))
theorem WE.dictM {p : Pos} (h : ∀ a, K (.loc a) ((a, .dict []) :: μ)) : WE G k sc σ (.Dict [] [] p) μ K := fun env φ s I E => by
  refine wpAny_Dict_empty ?_
  have hn := fresh_none s (Nat.le_refl s.heap.objs.size)
  obtain ⟨o, ho, hd⟩ := Heap.dictOf_iff.mp (Heap.DictOf.new (knd := G.knd) s.heap)
  have st := Step.cell (X := []) (t := s.toks) (c := .dict []) I hn (fun b o e => Heap.get?_push_of_some { cls := .type "dict", data := .dict #[] } e) ⟨I.notSys (Nat.le_refl _), o, [], ho, hd, .nil⟩
  exact ⟨_, _, _, st, .val _, h _⟩
end
section
variable {G : Gr} {k : Nat} {φ φ' : Fs} {μ μ' μ0 F : Mu} {s s' : Shared} {sc scC : Sc} {σ σ' : Sg} {env : Env} {K K' : D → Mu → Prop} {KT KT' : Bool → Mu → Prop} {KB KB' : Fl → Sg → Mu → Prop}
theorem Step.permL {X : List Addr} {μ'' : Mu} (a : Step G X φ μ s φ' μ' s') (h : μ''.Perm μ) : Step G X φ μ'' s φ' μ' s' :=
  ⟨a.inv, a.le, fun b o e hn hX => a.keep b o e (fun p hp => hn p (h.mem_iff.mpr hp)) hX, a.there,
    fun p hp => (a.fresh p hp).imp_left fun ⟨q, hq, e⟩ => ⟨q, h.mem_iff.mpr hq, e⟩,
    fun b o e => (a.fz b o e).imp_right fun e => e.imp_right fun e => e.imp_left fun ⟨q, hq, e⟩ => ⟨q, h.mem_iff.mpr hq, e⟩⟩
theorem Inv.right (I : Inv G φ (F ++ μ0) s) : Inv G φ μ0 s := I.sub_mu (fun _ hp => List.mem_append_right _ hp) (by have := I.nd; rw [List.map_append, List.nodup_append] at this; exact this.2.1)
theorem Step.framed (hp : μ.Perm (F ++ μ0)) (I : Inv G φ μ s) (st : Step G [] φ μ0 s φ' μ' s') : Step G [] φ μ s φ' (F ++ μ') s' :=
  (st.frame (I.perm hp.symm) (by intro _ _ h; cases h)).permL hp
theorem WC.framed {f : Value} {as : List D} {kd} (hp : μ.Perm (F ++ μ0)) (h : WC G k f as kd μ0 fun d μ1 => K d (F ++ μ1)) : WC G k f as kd μ K := fun φ s vs kv I r rk =>
  codeAny_mono (h φ s vs kv (I.perm hp.symm).right r rk) (fun x s' => by
    cases x with
    | error => exact fun h => h
    | ok fl => cases fl <;> first | exact fun h => h | exact fun ⟨d, φ', μ', st, rv, hK⟩ => ⟨d, φ', F ++ μ', st.framed hp I, rv, hK⟩)
theorem WC.permK {f : Value} {as : List D} {kd} (h : WC G k f as kd μ fun d μ1 => ∃ μ2, μ2.Perm μ1 ∧ K d μ2) : WC G k f as kd μ K := fun φ s vs kv I r rk =>
  codeAny_mono (h φ s vs kv I r rk) (fun x s' => by
    cases x with
    | error => exact fun h => h
    | ok fl => cases fl <;> first | exact fun h => h | exact fun ⟨d, φ', μ', st, rv, μ2, hp, hK⟩ => ⟨d, φ', μ2, st.perm hp, rv, hK⟩)
theorem WE.permK {e : Expr} (h : WE G k sc σ e μ fun d μ1 => ∃ μ2, μ2.Perm μ1 ∧ K d μ2) : WE G k sc σ e μ K := fun env φ s I E =>
  wpAny_mono (h env φ s I E) (fun _ _ ⟨d, φ', μ', st, rv, μ2, hp, hK⟩ => ⟨d, φ', μ2, st.perm hp, rv, hK⟩) nev
theorem WC.dropK {f : Value} {as : List D} {kd} (h : WC G k f as kd μ fun d μ1 => ∃ F μ2, μ1.Perm (F ++ μ2) ∧ K d μ2) : WC G k f as kd μ K := fun φ s vs kv I r rk =>
  codeAny_mono (h φ s vs kv I r rk) (fun x s' => by
    cases x with
    | error => exact fun h => h
    | ok fl => cases fl <;> first | exact fun h => h | exact fun ⟨d, φ', μ', st, rv, F, μ2, hp, hK⟩ => ⟨d, φ', μ2, st.sub_mu (fun p hp' => hp.mem_iff.mpr (List.mem_append_right _ hp')) (st.inv.perm hp.symm).right.nd, rv, hK⟩)
theorem Re.nil : Re G φ [] [] := ⟨rfl, fun i e p h => by simp at h, fun i e p h => by simp at h⟩
theorem Re.cons {e : DictEntry} {x : Str} {t : Tok} {d : D} {es ds} (hk : e.key = .str x t) (r : R G φ e.val d) (h : Re G φ es ds) : Re G φ (e :: es) ((x, d) :: ds) := by
  refine ⟨by simp [h.1], fun i e' p h1 h2 => ?_, fun i e' p h1 h2 => ?_⟩
  · cases i with
    | zero => simp at h1 h2; subst h1 h2; exact ⟨t, hk⟩
    | succ i => simp at h1 h2; exact h.2.1 i _ _ h1 h2
  · cases i with
    | zero => simp at h1 h2; subst h1 h2; exact r
    | succ i => simp at h1 h2; exact h.2.2 i _ _ h1 h2
theorem Re.inv {es} {x : Str} {d : D} {ds} (h : Re G φ es ((x, d) :: ds)) : Ex3 fun e es' t => A4 (es = e :: es') (e.key = .str x t) (R G φ e.val d) (Re G φ es' ds) := by
  cases es with
  | nil => have := h.1; simp at this
  | cons e es =>
    obtain ⟨t, ht⟩ := h.2.1 0 _ _ rfl rfl
    exact ⟨e, es, t, rfl, ht, h.2.2 0 _ _ rfl rfl, by have := h.1; simpa using this, fun i e p a b => h.2.1 (i + 1) e p (by simpa using a) (by simpa using b), fun i e p a b => h.2.2 (i + 1) e p (by simpa using a) (by simpa using b)⟩
theorem Re.nil_inv {es} (h : Re G φ es []) : es = [] := List.eq_nil_of_length_eq_zero h.1
theorem isStr_key {e : DictEntry} {y x : Str} {t : Tok} (h : e.key = .str y t) : e.key.isStr x = decide (y = x) := by
  rw [h]; show (y == x) = _; exact Bool.beq_eq_decide_eq ..
theorem Re.noref {es ds} (h : Re G φ es ds) : es.any (·.refKey) = false := by
  induction ds generalizing es with
  | nil => obtain rfl := h.nil_inv; rfl
  | cons p ds ih =>
    obtain ⟨x, d⟩ := p
    obtain ⟨e, es', t, rfl, hk, r, h'⟩ := h.inv
    rw [List.any_cons, ih h']
    unfold DictEntry.refKey
    rw [hk]; rfl
theorem Re.get {ds : List (Str × D)} {x : Str} : ∀ {es}, Re G φ es ds → (∀ d, atD ds x = some d → ∃ v, getL x es = some (some v) ∧ R G φ v d) ∧ (atD ds x = none → getL x es = some none) := by
  intro es h
  have nr := h.noref
  unfold getL
  rw [nr]
  simp only [Bool.false_eq_true, if_false]
  clear nr
  induction ds generalizing es with
  | nil => obtain rfl := h.nil_inv; exact ⟨fun d h => (by cases h), fun _ => rfl⟩
  | cons p ds ih =>
    obtain ⟨y, d⟩ := p
    obtain ⟨e, es', t, rfl, hk, r, h'⟩ := h.inv
    unfold atD
    simp only [List.find?_cons, isStr_key hk]
    by_cases hy : y = x
    · simp only [hy, decide_true]
      exact ⟨fun d hd => ⟨_, rfl, by cases hd; exact r⟩, fun hd => by cases hd⟩
    · simp only [hy, decide_false]
      exact ih h'
noncomputable def putA : List (Str × D) → Str → D → List (Str × D)
  | [], x, d => [(x, d)]
  | (y, e) :: r, x, d => if y = x then (y, d) :: r else (y, e) :: putA r x d
theorem Re.put {x : Str} {v key : Value} {t : Tok} {hs : Int} {d : D} (hkey : key = .str x t) (rv : R G φ v d) {ds : List (Str × D)} : ∀ {es}, Re G φ es ds → Re G φ (putL x hs key v es) (putA ds x d) := by
  induction ds with
  | nil => intro es h; obtain rfl := h.nil_inv; exact .cons hkey rv .nil
  | cons p ds ih =>
    obtain ⟨y, e0⟩ := p
    intro es h
    obtain ⟨e, es', t, rfl, hk, r, h'⟩ := h.inv
    unfold putL putA
    rw [isStr_key hk]
    by_cases hy : y = x
    · simp only [hy, decide_true, if_true]
      exact .cons (hy ▸ hk) rv h'
    · simp only [hy, decide_false, if_false, Bool.false_eq_true]
      exact .cons hk r (ih h')
theorem Inv.KX (I : Inv G φ μ s) : G.K.In s.heap := G.KX.keeps I.keep
theorem inst_at {a C b : Addr} {ds : List (Str × D)} (I : Inv G φ μ s) (ho : φ a = some (instObj C b)) (hm : Has μ b (.attrs ds)) : ∃ es n, InstAt s.heap a (instObj C b) C (some (dictOf es n)) ∧ s.heap.get? b = some (dictOf es n) ∧ Re G φ es ds := by
  obtain ⟨es, n, hb, r⟩ := I.cells _ hm.mem
  exact ⟨es, n, ⟨I.sub _ _ ho, rfl, rfl, hb⟩, hb, r⟩
noncomputable def plainD : D → Bool
  | .val (.ref _) => true
  | .val _ => false
  | _ => true
theorem plain_handed {v : Value} {d : D} (r : R G φ v d) : plainD d = true → handedIn v = true :=
  R.casesOn (motive := fun v d _ => plainD d = true → handedIn v = true) r (fun _ => rfl) (fun _ _ => rfl) (fun _ _ _ => rfl) (fun _ _ _ => rfl) (fun v h => by cases v <;> first | rfl | exact absurd h Bool.noConfusion)
    (fun _ _ _ _ => rfl) (fun _ _ _ _ => rfl) (fun _ _ _ _ _ _ => rfl) (fun _ _ => rfl) (fun _ _ => rfl) (fun _ _ _ => rfl) (fun _ _ _ => rfl) (fun _ _ _ => rfl)
noncomputable def attrOk (K : Frag) (C : Addr) (name : Str) : Bool := plainGet K C name && hasDictIn K C && (findIn K (.ref C) name == some none)
theorem WE.attr {o : Expr} {name : Str} {p : Pos} (h : WE G k sc σ o μ fun d μ1 => Ex4 fun C b ds v => A6 (d = .obj C b) (Has μ1 b (.attrs ds)) (atD ds name = some v) (attrOk G.K C name = true) (plainD v = true) (K v μ1))
    (he : ∀ env, eval (.Attribute o name p) env = (do
      let o' ← eval o env
      standAt p.atName
      let r ← holding [o'] (getAttr o' name true)
      letTemporaryGo o o' r
      pure r) := by intro _; with_unfolding_all rfl) : WE G k sc σ (.Attribute o name p) μ K := fun env φ s I E => by
  refine Attribute_any_ (wpAny_mono (h env φ s I E) (fun v s1 ⟨d, φ1, μ1, st, r, C, b, ds, dv, hd, hm, hat, hok, hpl, hK⟩ => ?_) nev) (he env)
  subst hd
  obtain ⟨a, rfl, ho⟩ := R.obj_iff.mp r
  obtain ⟨es, n, IA, hb, re⟩ := inst_at st.inv ho hm
  unfold attrOk at hok
  simp only [Bool.and_eq_true, beq_iff_eq] at hok
  obtain ⟨w, hw, rw'⟩ := (re.get (x := name)).1 dv hat
  refine get_value st.inv.KX IA (plainGet_of hok.1.1).1 (findObj_own hok.1.2 hok.2 rfl hw) (plain_handed rw' hpl) ?_
  exact Post.trans st (Post.of (Step.toks st.inv _) rw' hK)
end
noncomputable def WMd (G : Gr) (k : Nat) (d : D) (name : Str) (μ : Mu) (K : D → List D → Mu → Prop) : Prop :=
  ∀ φ s v pl, Inv G φ μ s → R G φ v d → wpAny G.M (Lv k) (getMethod v name pl) (fun fx s' => Ex4 fun df fd φ' μ' => A5 (Step G [] φ μ s φ' μ' s') (R G φ' fx.1 df) (Rs G φ' fx.2 fd) (KeepsAt G φ' fx.1) (K df fd μ')) Nev s
noncomputable def WCd (G : Gr) (k : Nat) (df : D) (as : List D) (kd : List (Str × D)) (μ : Mu) (K : D → Mu → Prop) : Prop :=
  ∀ φ s f vs kv, Inv G φ μ s → R G φ f df → Rs G φ vs as → Rkw G φ kv kd → wpAny G.M (Lv k) (call f vs kv) (Post G φ μ s K) Nev s
noncomputable def methOk (K : Frag) (C : Addr) (name : Str) (f : Addr) : Bool := plainGet K C name && (findIn K (.ref C) name == some (some (.ref f))) && isFn K (.ref f) && (fdIn K f).isSome
noncomputable def bindOk (K : Frag) (C : Addr) (name : Str) (f : Addr) : Bool := methOk K C name f && hasDictIn K C && (specialIn K (.ref f) "__get__" == some (some (.builtin "function.__get__"))) && (takesIn K (.ref f) == some false) && !copiedNames.contains name
section
variable {G : Gr} {k : Nat} {φ φ' : Fs} {μ μ' μ0 F : Mu} {s s' : Shared} {sc scC : Sc} {σ σ' : Sg} {env : Env} {K K' : D → Mu → Prop} {KT KT' : Bool → Mu → Prop} {KB KB' : Fl → Sg → Mu → Prop}
theorem Keeps.of {f : Addr} {fd : FuncData} (h : fdIn G.K f = some fd) : Keeps G (.ref f) := by
  unfold fdIn at h
  split at h
  · rename_i e; exact Keeps.fn (G.KX _ _ e) rfl
  · cases h
theorem Keeps.of' {f : Addr} (h : (fdIn G.K f).isSome = true) : Keeps G (.ref f) := let ⟨_, e⟩ := Option.isSome_iff_exists.mp h; Keeps.of e
theorem M.inst {C b f : Addr} {ds : List (Str × D)} {name : Str} {KM : Value → List D → Mu → Prop} (hm : Has μ b (.attrs ds)) (ha : atD ds name = none) (hok : methOk G.K C name f = true) (h : KM (.ref f) [.obj C b] μ) : WM G k (.obj C b) name μ KM := fun φ s v pl I r => by
  obtain ⟨a, rfl, ho⟩ := R.obj_iff.mp r
  obtain ⟨es, n, IA, hb, re⟩ := inst_at I ho hm
  unfold methOk at hok
  simp only [Bool.and_eq_true, beq_iff_eq] at hok
  obtain ⟨⟨⟨h1, h2⟩, h3⟩, h4⟩ := hok
  refine method_fn I.KX IA (plainGet_of h1).1 (plainGet_of h1).2 h2 (beq_iff_eq.mp h3) ?_ ⟨_, φ, μ, .refl I, .cons r .nil, (Keeps.of' h4).at I, h⟩
  show (lookIn name (dictOf es n)).map _ = _
  rw [lookIn_dict, (re.get (x := name)).2 ha]; rfl
theorem MD.own {C b : Addr} {ds : List (Str × D)} {name : Str} {o : Obj} {ps : List (Addr × Obj)} {fd : FuncData} {KM : D → List D → Mu → Prop} (hm : Has μ b (.attrs ds)) (ha : atD ds name = some (.clo o ps)) (hfd : o.data = .func fd) (hok : attrOk G.K C name = true) (h : KM (.clo o ps) [] μ) : WMd G k (.obj C b) name μ KM := fun φ s v pl I r => by
  obtain ⟨a, rfl, ho⟩ := R.obj_iff.mp r
  obtain ⟨es, n, IA, hb, re⟩ := inst_at I ho hm
  unfold attrOk at hok
  simp only [Bool.and_eq_true, beq_iff_eq] at hok
  obtain ⟨w, hw, rw'⟩ := (re.get (x := name)).1 _ ha
  refine method_usual I.KX IA (plainGet_of hok.1.1).1 (plainGet_of hok.1.1).2 hok.2 rfl ?_
  refine get_value I.KX IA (plainGet_of hok.1.1).1 (findObj_own hok.1.2 hok.2 rfl hw) (plain_handed rw' rfl) ?_
  obtain ⟨f, rfl, hf, hc⟩ := R.clo_iff.mp rw'
  exact ⟨_, [], φ, μ, Step.toks I _, rw', .nil, KeepsAt.fn hf hfd, h⟩
theorem callWith_ofD {f : Value} {df : D} {first : List Value} {fd : List D} {pos : Pos} {es : List Expr} {ks : List Keyword} (hs : es.all notStar = true) (hk : kwOk ks = true) (hf : KeepsAt G φ f) (hrf : R G φ f df)
    (h : WEs G k sc σ es μ fun ds μ1 => WKs G k sc σ ks μ1 fun kd μ2 => WCd G k df (fd ++ ds) kd μ2 K) (hr : Rs G φ first fd)
    (I : Inv G φ μ s) (E : EnvR G φ μ sc σ env s.heap) : wpAny G.M (Lv k) (callWith pos f first (backTo pos (starEach es env)) (backToKw pos (keywordEach ks env))) (Post G φ μ s K) Nev s := by
  refine callWith_of (P := fun h => ∀ b o, φ b = some o → h.get? b = some o) (by rw [backTo_plain hs, kw_plain hk]; rfl) (fun h hh => hf h hh) ?_
  refine evalArgs_of hs hk h I E fun vs kv ds kd φ' μ' s' st r rk hK => ⟨fun b o e => st.inv.sub b o (st.le b o e), ?_⟩
  exact wpAny_mono (hK φ' s' _ _ _ st.inv (hrf.mono st.le) ((hr.mono st.le).append r) rk) (fun v s2 h2 => Post.trans st h2) nev
theorem WE.methD {o : Expr} {name : Str} {es : List Expr} {ks : List Keyword} {ap p : Pos} (h : WE G k sc σ o μ fun d μ0 => WMd G k d name μ0 fun f fd μ1 => WEs G k sc σ es μ1 fun ds μ2 => WKs G k sc σ ks μ2 fun kd μ3 => WCd G k f (fd ++ ds) kd μ3 K)
    (hb : ∀ env, attributeBase o name env (eval o env) = eval o env := by intro _; rfl)
    (hs : es.all notStar = true := by rfl) (hk : kwOk ks = true := by rfl) (hl : (ap.endLine == p.line) = true := by rfl) (hn : (es.length + ks.length + (if ks.isEmpty then 0 else 1) < 30) := by decide) : WE G k sc σ (.Call (.Attribute o name ap) es ks p) μ K := fun env φ s I E => by
  show wpAny G.M (Lv k) (do
    let ov ← attributeBase o name env (eval o env)
    standAt ap.atName
    methodCall o name ap p env ov (es.length + ks.length) (backTo p (starEach es env)) (backToKw p (keywordEach ks env))) _ _ s
  rw [hb]
  refine wpAny_bind (wpAny_mono (h env φ s I E) (fun v s1 ⟨d, φ1, μ1, st, r, hK⟩ => wpAny_bind (wpAny_standAt ?_)) nev)
  have few : methodCallForm (es.length + ks.length) (backTo p (starEach es env)) (backToKw p (keywordEach ks env)) = true := by
    unfold methodCallForm
    have e1 : (backTo p (starEach es env)).all (!·.1) = true := by
      have := backTo_plain (env := env) (pos := p) hs
      rw [List.any_eq_false] at this
      rw [List.all_eq_true]
      intro x hx
      have := this x hx
      cases h : x.1 <;> simp_all
    have e2 : (backToKw p (keywordEach ks env)).isEmpty = ks.isEmpty := by
      cases ks with
      | nil => rfl
      | cons a b => obtain ⟨x, y, z⟩ := a; rfl
    rw [e1, kw_all, hk, e2]
    simpa using hn
  unfold methodCall
  simp only [few]
  refine wpAny_bind (wpAny_holding ?_)
  simp only [calleeOf, methodCallPos, if_true, hl, Bool.or_true]
  refine wpAny_mono (hK φ1 s1 v _ st.inv r) (fun fx s2 ⟨df, fd, φ2, μ2, st2, rf, r2, hf, h2⟩ => ?_) nev
  obtain ⟨f, first⟩ := fx
  refine wpAny_bind (wpAny_pure ?_)
  exact wpAny_mono (callWith_ofD hs hk hf rf h2 r2 st2.inv ((E.step st).step st2)) (fun v s3 h3 => Post.trans st (Post.trans st2 h3)) nev
theorem WE.battr {o : Expr} {name : Str} {p : Pos} (h : WE G k sc σ o μ fun d μ1 => Ex4 fun C b ds f => A5 (d = .obj C b) (Has μ1 b (.attrs ds)) (atD ds name = Option.none) (bindOk G.K C name f = true) (K (.bound f (.obj C b)) μ1))
    (he : ∀ env, eval (.Attribute o name p) env = (do
      let o' ← eval o env
      standAt p.atName
      let r ← holding [o'] (getAttr o' name true)
      letTemporaryGo o o' r
      pure r) := by intro _; with_unfolding_all rfl) : WE G k sc σ (.Attribute o name p) μ K := fun env φ s I E => by
  refine Attribute_any_ (wpAny_mono (h env φ s I E) (fun v s1 ⟨d, φ1, μ1, st, r, C, b, ds, f, hd, hm, hat, hok, hK⟩ => ?_) nev) (he env)
  subst hd
  obtain ⟨a, rfl, ho⟩ := R.obj_iff.mp r
  obtain ⟨es, n, IA, hb, re⟩ := inst_at st.inv ho hm
  unfold bindOk methOk at hok
  simp only [Bool.and_eq_true, beq_iff_eq, Bool.not_eq_true'] at hok
  obtain ⟨⟨⟨⟨⟨⟨⟨h1, h2⟩, h3⟩, h4⟩, h5⟩, h6⟩, h7⟩, h8⟩ := hok
  refine get_bind st.inv.KX IA (plainGet_of h1).1 (findObj_fn h5 h2 h6 h7 h8 (by show lookIn name (dictOf es n) = _; rw [lookIn_dict]; exact (re.get (x := name)).2 hat)) (plainGet_of h1).2 ?_
  refine wpAny_call (fn_get (s := { s1 with toks := s1.toks + 1 }) st.inv.KX (beq_iff_eq.mp h3) (handed_on rfl ?_))
  have hn := fresh_none s1 (Nat.le_refl s1.heap.objs.size)
  have st2 := Step.frozen (X := []) (t := s1.toks + 1) st.inv hn (fun b o e => Heap.get?_push_of_some (methodObj (.ref f) (.ref a)) e) (Heap.get?_push_size _ rfl)
  exact Post.trans st ⟨_, _, _, st2, R.bound_iff.mpr ⟨_, _, rfl, Fs.put_self .., r.mono st2.le⟩, hK⟩
theorem lv_make {k : Nat} (hk : k < 40) (C : Addr) (rest : List Value) (kw : List (Str × Value)) : ALe ((Lv (k + 1)).under (.builtin "type.__call__" ⟨.ref C :: rest, kw⟩)) (Lv k) := by
  refine ⟨rfl, ?_, rfl, rfl, ?_⟩
  · show (Lv (k + 1)).depth + Code.weight _ ≤ _
    have : Code.weight (.builtin "type.__call__" ⟨.ref C :: rest, kw⟩) = 1 := rfl
    simp only [Lv]; lia
  · show (Lv (k + 1)).units + Code.cUnits _ ≤ _
    have : Code.cUnits (.builtin "type.__call__" ⟨.ref C :: rest, kw⟩) = 1 := rfl
    simp only [Lv]; lia
theorem WC.make {C fI : Addr} {as : List D} {kd : List (Str × D)} (hk : k < 40) (hm : makesIn G.K C = true) (hi : findIn G.K (.ref C) "__init__" = some (some (.ref fI))) (hf : typeIn G.K (.ref fI) = some (.type "function"))
    (h : ∀ b, WC G k (.ref fI) (.obj C b :: as) kd ((b, .attrs []) :: μ) fun d μ1 => d = .none ∧ K (.obj C b) μ1) : WC G (k + 1) (.ref C) as kd μ K := fun φ s vs kv I r rk => by
  obtain ⟨hh, g, dr, tk, os⟩ := s
  refine make_core (makes_of I.KX hm) (looks_findIn I.KX hi) (fun self => bind_fn I.KX self hf) (.inl rfl) ?_
  refine codeAny_le ?_ (lv_make hk C vs kv)
  have hn := fresh_none ⟨hh, g, dr, tk, os⟩ (Nat.le_refl hh.objs.size)
  have st1 := Step.cell (X := []) (t := tk) (c := .attrs []) I hn (fun b o e => Heap.get?_push_of_some emptyDict e) ⟨[], 0, Heap.get?_push_size _ rfl, Re.nil⟩
  have hn2 := fresh_none ⟨hh.push emptyDict, g, dr, tk, os⟩ (Nat.le_refl (hh.push emptyDict).objs.size)
  have st2 := Step.frozen (X := []) (t := tk) st1.inv hn2 (fun b o e => Heap.get?_push_of_some (instObj C hh.objs.size) e) (Heap.get?_push_size _ rfl)
  have st := st1.trans st2
  rw [Heap.size_push] at st
  have rx : R G (φ.put (hh.objs.size + 1) (instObj C hh.objs.size)) (.ref (hh.objs.size + 1)) (.obj C hh.objs.size) := R.obj_iff.mpr ⟨_, rfl, Fs.put_self ..⟩
  refine codeAny_mono (h hh.objs.size _ _ _ _ st.inv (.cons rx (r.mono st.le)) ⟨rk.1, rk.2.mono st.le⟩) fun x s' hx => ?_
  cases x with
  | error => exact hx.elim
  | ok fl =>
    cases fl <;> first | exact hx.elim | skip
    obtain ⟨d, φ', μ', st', rv, hd, hK⟩ := hx
    subst hd
    obtain rfl := R.none_iff.mp rv
    exact ⟨rfl, _, φ', μ', st.trans st', rx.mono st'.le, hK⟩
theorem Keeps.cls {C : Addr} (h : keepIn G.K (.ref C) = true) : Keeps G (.ref C) := fun hh hk => by
  obtain ⟨k, h1, h2⟩ := looks_keep (M := G.M) h (G.KX.keeps hk)
  exact ⟨k, h1.imp_right .inl, h2⟩
end
noncomputable def storeOk (K : Frag) (C : Addr) (name : Str) : Bool := (findIn K (.ref C) "__setattr__" == some (some (.builtin "object.__setattr__"))) && plainOver K C && (takerIn K C name == some none) && hasDictIn K C
section
variable {G : Gr} {k : Nat} {φ φ' : Fs} {μ μ' μ0 F : Mu} {s s' : Shared} {sc scC : Sc} {σ σ' : Sg} {env : Env} {K K' : D → Mu → Prop} {KT KT' : Bool → Mu → Prop} {KB KB' : Fl → Sg → Mu → Prop}
theorem attr_store {A : Around} {x C b : Addr} {es : List DictEntry} {n : Nat} {name : Str} {v : Value} {Q : Unit → Shared → Prop} {E : Value → Shared → Prop} (X : G.K.In s.heap) (I : InstAt s.heap x (instObj C b) C (some (dictOf es n))) (D : s.heap.get? b = some (dictOf es n))
    (hok : storeOk G.K C name = true) (hl : (getL name es).isSome = true) (hz : es.length < 1000)
    (h : ∀ t tk, Q () { s with heap := s.heap.update b (Obj.putName name (PyData.keyHash G.w.params name) (.str name t) v), toks := tk }) : wpAny G.M A (setAttr (.ref x) name v) Q E s := by
  unfold storeOk at hok
  simp only [Bool.and_eq_true, beq_iff_eq] at hok
  obtain ⟨⟨⟨h1, h2⟩, h3⟩, h4⟩ := hok
  refine set_plain X I h1 ?_
  refine osa_open (s := { s with toks := s.toks + 1 }) X I h2 h3 fun bb => ?_
  obtain ⟨cd, hc, hd'⟩ := any_some h4
  obtain ⟨hx, hcl, hn, -⟩ := I
  refine wpAny_bind (wpAny_pure (wpAny_bind (wpAny_bind (wpAny_loadPart hx (wpAny_bind (Looks.here (s := { s with toks := s.toks + 1 }) (looks_clsIn X hc) ?_))))))
  rw [hd']
  refine wpAny_pure (a := some b) (wpAny_bind (wpAny_pure (wpAny_bind ?_)))
  unfold nsSet
  refine wpAny_bind (wpAny_bind (wpAny_askSetting (wpAny_pure (wpAny_bind (wpAny_mkText (wpAny_bind (wpAny_loadPart D ?_)))))))
  dsimp only
  have c : (!es.toArray.any (·.key.isStr name) && es.toArray.any (·.refKey)) = false := by
    rw [← Array.any_toList, ← Array.any_toList]
    unfold getL at hl
    split at hl
    · rename_i en he
      rw [List.any_eq_true.mpr ⟨en, List.mem_of_find?_eq_some he, List.find?_some he⟩]; rfl
    · split at hl
      · cases hl
      · rename_i z; rw [Bool.not_eq_true] at z; rw [z, Bool.and_false]
  rw [aRefKeyMayBeTheName_at, c]
  refine wpAny_updatePart D ?_
  refine wpAny_bind (wpAny_lookBehind (Heap.get?_update_self _ D (by rw [putName_dict]; rfl)) (by
    rw [putName_dict]
    refine pastItsLine_dict ?_
    rw [List.size_toArray, sizeLine_eq]
    have : ∀ es : List DictEntry, ∀ hs key, (putL name hs key v es).length ≤ es.length + 1 := by
      intro es hs key
      induction es with
      | nil => exact Nat.le_refl _
      | cons e r ih =>
        unfold putL
        split
        · simp
        · simp only [List.length_cons]; lia
    have := this es (PyData.keyHash G.w.params name) (.str name (s.toks + 1))
    exact Nat.le_trans this (by lia)) ?_)
  exact wpAny_pure (h _ _)
theorem Step.attr {x C b : Addr} {es : List DictEntry} {n : Nat} {name : Str} {v : Value} {t tk : Nat} {ds : List (Str × D)} {dv : D} (I : Inv G φ μ s) (hb : s.heap.get? b = some (dictOf es n)) (re : Re G φ es ds) (rv : R G φ v dv) (hc : Chg μ b (.attrs ds) (.attrs (putA ds name dv)) μ') :
    Step G [] φ μ s φ μ' { s with heap := s.heap.update b (Obj.putName name (PyData.keyHash G.w.params name) (.str name t) v), toks := tk } := by
  refine Step.upd I hc.upd (Heap.SameBut.update s.heap b _).extBut ⟨_, putN name es n, ?_, re.put (hs := PyData.keyHash G.w.params name) (key := .str name t) rfl rv⟩
  rw [Heap.get?_update_self _ hb (by rw [putName_dict]; rfl), putName_dict]
theorem WS.setattr {o e : Expr} {name : Str} {p p' : Pos} (h : WE G k sc σ e μ fun dv μ1 => WE G k sc σ o μ1 fun d μ2 => Ex4 fun C b ds μ3 => A5 (d = .obj C b) (Chg μ2 b (.attrs ds) (.attrs (putA ds name dv)) μ3) (storeOk G.K C name = true) (ds.length < 1000) (KB .next σ μ3))
    (hs : ∀ env, swapsWith e (some (.Attribute o name p')) p.line env = pure false := by intro _; rfl) : WS G k sc σ (.Assign [.Attribute o name p'] e p) μ KB := fun env φ s I E => by
  refine plainObj_wpAny_Assign_Attribute (wpAny_mono (h env φ s I E) (fun v s1 ⟨dv, φ1, μ1, st1, rv, hK⟩ => ?_) nev) (hs env)
  refine wpAny_mono (hK env φ1 s1 st1.inv (E.step st1)) (fun ov s2 ⟨d, φ2, μ2, st2, ro, C, b, ds, μ3, hd, hc, hok, hl, hK⟩ => ?_) nev
  subst hd
  obtain ⟨a, rfl, ho⟩ := R.obj_iff.mp ro
  obtain ⟨es, n, IA, hb, re⟩ := inst_at st2.inv ho hc.has
  refine attr_store st2.inv.KX IA hb hok ?_ (by rw [re.1]; exact hl) fun t tk => ?_
  · obtain ⟨g1, g2⟩ := re.get (x := name)
    cases e : atD ds name with
    | none => rw [g2 e]; rfl
    | some d => obtain ⟨w, hw, _⟩ := g1 d e; rw [hw]; rfl
  · have st3 := Step.attr (x := a) (C := C) (t := t) (tk := tk) st2.inv hb re (rv.mono st2.le) hc
    obtain ⟨stx, E3⟩ := E.stepX ((st1.trans st2).trans st3)
    exact ⟨.next, σ, φ2, μ3, stx, E3, trivial, hK⟩
theorem WS.augattr {o e : Expr} {name : Str} {op : Operator} {p p' : Pos} (h : WE G k sc σ o μ fun d μ1 => Ex4 fun C b ds old => A6 (d = .obj C b) (Has μ1 b (.attrs ds)) (atD ds name = some old) (attrOk G.K C name = true) (plainD old = true) (WE G k sc σ e μ1 fun dv μ2 => WV2 G k old dv μ2 (inplaceOp op) fun new μ3 => Ex2 fun ds' μ4 => A4 (Chg μ3 b (.attrs ds') (.attrs (putA ds' name new)) μ4) (storeOk G.K C name = true) (ds'.length < 1000) (KB .next σ μ4))) : WS G k sc σ (.AugAssign (.Attribute o name p') op e p) μ KB := fun env φ s I E => by
  refine wpAny_AugAssign_AttributeAny (wpAny_mono (h env φ s I E) (fun ov s1 ⟨d, φ1, μ1, st1, ro, C, b, ds, old, hd, hm, hat, hok, hpl, hK⟩ => ?_) nev)
  subst hd
  obtain ⟨a, rfl, ho⟩ := R.obj_iff.mp ro
  obtain ⟨es, n, IA, hb, re⟩ := inst_at st1.inv ho hm
  unfold attrOk at hok
  simp only [Bool.and_eq_true, beq_iff_eq] at hok
  obtain ⟨w, hw, rw'⟩ := (re.get (x := name)).1 _ hat
  refine get_value st1.inv.KX IA (plainGet_of hok.1.1).1 (findObj_own hok.1.2 hok.2 rfl hw) (plain_handed rw' hpl) ?_
  have st1' := st1.trans (Step.toks st1.inv (s1.toks + 1))
  refine wpAny_mono (hK env φ1 { s1 with toks := s1.toks + 1 } st1'.inv (E.step st1')) (fun v s2 ⟨dv, φ2, μ2, st2, rv, hK⟩ => ?_) nev
  refine wpAny_mono (hK φ2 s2 _ _ st2.inv (rw'.mono st2.le) rv) (fun v3 s3 ⟨new, φ3, μ3, st3, rn, ds', μ4, hc, hok', hl, hK⟩ => ?_) nev
  obtain ⟨es', n', IA', hb', re'⟩ := inst_at st3.inv (st3.le _ _ (st2.le _ _ ho)) hc.has
  refine attr_store st3.inv.KX IA' hb' hok' ?_ (by rw [re'.1]; exact hl) fun t tk => ?_
  · obtain ⟨g1, g2⟩ := re'.get (x := name)
    cases e : atD ds' name with
    | none => rw [g2 e]; rfl
    | some d => obtain ⟨w, hw, _⟩ := g1 d e; rw [hw]; rfl
  · have st4 := Step.attr (x := a) (C := C) (t := t) (tk := tk) st3.inv hb' re' rn hc
    obtain ⟨stx, E3⟩ := E.stepX (((st1'.trans st2).trans st3).trans st4)
    exact ⟨.next, σ, φ3, μ4, stx, E3, trivial, hK⟩
noncomputable def dunOk (K : Frag) (C : Addr) (name : Str) (f : Addr) : Bool := (findIn K (.ref C) name == some (some (.ref f))) && isFn K (.ref f) && fnIn K f && noSeq K C
theorem setItem_own {A : Around} {a C f : Addr} {ox : Obj} {od : Option Obj} {i v : Value} {Q : Unit → Shared → Prop} {E : Value → Shared → Prop} (X : G.K.In s.heap) (IA : InstAt s.heap a ox C od) (hok : dunOk G.K C "__setitem__" f = true) (h : wpAny G.M A (call (.ref f) [.ref a, i, v]) (fun _ => Q ()) E s) : wpAny G.M A (setItem (.ref a) i v) Q E s := by
  unfold dunOk at hok
  simp only [Bool.and_eq_true, beq_iff_eq] at hok
  obtain ⟨⟨⟨h1, h2⟩, h3⟩, h4⟩ := hok
  unfold setItem sequenceKey
  refine wpAny_holding (wpAny_bind (wpAny_bind (IA.type.here ?_)))
  refine wpAny_bind ((anyM_none X h4).here ?_)
  rw [if_pos (show (!false) = true from rfl)]
  exact wpAny_pure (wpAny_bind (special_fn X IA h1 (beq_iff_eq.mp h2) (wpAny_mono h (fun _ _ z => wpAny_pure z) fun _ _ z => z)))
theorem delItem_own {A : Around} {a C f : Addr} {ox : Obj} {od : Option Obj} {i : Value} {Q : Unit → Shared → Prop} {E : Value → Shared → Prop} (X : G.K.In s.heap) (IA : InstAt s.heap a ox C od) (hok : dunOk G.K C "__delitem__" f = true) (h : wpAny G.M A (call (.ref f) [.ref a, i]) (fun _ => Q ()) E s) : wpAny G.M A (delItem (.ref a) i) Q E s := by
  unfold dunOk at hok
  simp only [Bool.and_eq_true, beq_iff_eq] at hok
  obtain ⟨⟨⟨h1, h2⟩, h3⟩, h4⟩ := hok
  unfold delItem sequenceKey
  refine wpAny_holding (wpAny_bind (wpAny_bind (IA.type.here ?_)))
  refine wpAny_bind ((anyM_none X h4).here ?_)
  rw [if_pos (show (!false) = true from rfl)]
  exact wpAny_pure (wpAny_bind (special_fn X IA h1 (beq_iff_eq.mp h2) (wpAny_mono h (fun _ _ z => wpAny_pure z) fun _ _ z => z)))
theorem WS.setO {o i e : Expr} {p p' : Pos} (h : WE G k sc σ e μ fun dv μ1 => WE G k sc σ o μ1 fun d μ2 => WE G k sc σ i μ2 fun di μ3 => Ex4 fun C b ds f => A4 (d = .obj C b) (Has μ3 b (.attrs ds)) (dunOk G.K C "__setitem__" f = true) (WC G k (.ref f) [.obj C b, di, dv] [] μ3 fun _ μ4 => KB .next σ μ4))
    (hs : ∀ env, swapsWith e (some (.Subscript o i p')) p.line env = pure false := by intro _; rfl) : WS G k sc σ (.Assign [.Subscript o i p'] e p) μ KB := fun env φ s I E => by
  refine wpAny_Assign_Subscript (wpAny_mono (h env φ s I E) (fun v s1 ⟨dv, φ1, μ1, st1, rv, hK⟩ => ?_) nev) (hs env)
  refine wpAny_mono (hK env φ1 s1 st1.inv (E.step st1)) (fun ov s2 ⟨d, φ2, μ2, st2, ro, hK⟩ => ?_) nev
  refine wpAny_mono (hK env φ2 s2 st2.inv ((E.step st1).step st2)) (fun iv s3 ⟨di, φ3, μ3, st3, ri, C, b, ds, f, hd, hm, hok, hW⟩ => ?_) nev
  subst hd
  obtain ⟨a, rfl, ho⟩ := R.obj_iff.mp ro
  obtain ⟨es, n, IA, hb, re⟩ := inst_at st3.inv (st3.le _ _ ho) hm
  refine setItem_own st3.inv.KX IA hok (wpAny_mono (WC.toV hW φ3 s3 [.ref a, iv, v] [] st3.inv (.cons (ro.mono st3.le) (.cons ri (.cons ((rv.mono st2.le).mono st3.le) .nil))) ⟨rfl, .nil⟩) (fun _ s4 ⟨d4, φ4, μ4, st4, r4, hK4⟩ => ?_) nev)
  obtain ⟨stx, E4⟩ := E.stepX (((st1.trans st2).trans st3).trans st4)
  exact ⟨.next, σ, φ4, μ4, stx, E4, trivial, hK4⟩
theorem WS.delO {o i : Expr} {p p' : Pos} (h : WE G k sc σ o μ fun d μ2 => WE G k sc σ i μ2 fun di μ3 => Ex4 fun C b ds f => A4 (d = .obj C b) (Has μ3 b (.attrs ds)) (dunOk G.K C "__delitem__" f = true) (WC G k (.ref f) [.obj C b, di] [] μ3 fun _ μ4 => KB .next σ μ4)) : WS G k sc σ (.Delete [.Subscript o i p'] p) μ KB := fun env φ s I E => by
  refine wpAny_Delete (wpAny_deleteEach_cons (wpAny_delete_Subscript ?_))
  refine wpAny_mono (h env φ s I E) (fun ov s2 ⟨d, φ2, μ2, st2, ro, hK⟩ => ?_) nev
  refine wpAny_mono (hK env φ2 s2 st2.inv (E.step st2)) (fun iv s3 ⟨di, φ3, μ3, st3, ri, C, b, ds, f, hd, hm, hok, hW⟩ => ?_) nev
  subst hd
  obtain ⟨a, rfl, ho⟩ := R.obj_iff.mp ro
  obtain ⟨es, n, IA, hb, re⟩ := inst_at st3.inv (st3.le _ _ ho) hm
  refine delItem_own st3.inv.KX IA hok (wpAny_mono (WC.toV hW φ3 s3 [.ref a, iv] [] st3.inv (.cons (ro.mono st3.le) (.cons ri .nil)) ⟨rfl, .nil⟩) (fun _ s4 ⟨d4, φ4, μ4, st4, r4, hK4⟩ => wpAny_deleteEach_nil ?_) nev)
  obtain ⟨stx, E4⟩ := E.stepX ((st2.trans st3).trans st4)
  exact ⟨.next, σ, φ4, μ4, stx, E4, trivial, hK4⟩
end
section
variable {G : Gr} {k : Nat} {φ φ' : Fs} {μ μ' μ0 F : Mu} {s s' : Shared} {sc scC : Sc} {σ σ' : Sg} {env : Env} {K K' : D → Mu → Prop} {KT KT' : Bool → Mu → Prop} {KB KB' : Fl → Sg → Mu → Prop}
theorem strKey (x : Str) (t : Tok) : G.knd.is x (.str x t) = true := strKind_is _ _ _ _
theorem strKey_inv {x : Str} {v : Value} (h : G.knd.is x v = true) : ∃ t, v = .str x t := Value.isStrOf_shape h
theorem Rd.getD {kvs ds} {x : Str} {v : Value} {d : D} (h : Rd G φ kvs ds) (r : R G φ v d) : R G φ ((valueAt kvs x).getD v) ((atD ds x).getD d) := by
  obtain ⟨h1, h2⟩ := h.at (x := x)
  cases e : atD ds x with
  | none => rw [h2 e]; exact r
  | some e' => obtain ⟨w, hw, rw'⟩ := h1 e' e; rw [hw]; exact rw'
theorem M.dict {d : D} {ds : List (Str × D)} {name : Str} {id : String} {KM : Value → List D → Mu → Prop} (hd : d = .dict ds ∨ ∃ a, d = .loc a ∧ Has μ a (.dict ds)) (slot : Slot "dict" name id) (hty : typeOf (.builtin id) = pure (.type "method_descriptor")) (h : KM (.builtin id) [d] μ) : WM G k d name μ KM := fun φ s v pl I r => by
  obtain ⟨a, kvs, rfl, hs, hD, rd⟩ := dict_at I r hd
  refine getMethod_builtin (T := "dict") hD.typeIs F.plainAttrs_dict slot hty (fun b e => ?_) ⟨_, φ, μ, .refl I, .cons r .nil, (Keeps.builtin _).at I, h⟩
  cases e
  obtain ⟨o, es, ep, ho, hx, _⟩ := hD
  exact ⟨o, ho, hx.2.1⟩
theorem V.dget {x : Str} {d e : D} {ds : List (Str × D)} (hd : d = .dict ds ∨ ∃ a, d = .loc a ∧ Has μ a (.dict ds)) (h : K ((atD ds x).getD e) μ) : WCv G k (.builtin "dict.get") [d, .str x, e] [] μ K := fun φ s vs kv I r0 rk => by
  obtain ⟨v, w, u, rfl, r1, r2, r3⟩ := rs3 r0
  obtain rfl := kw_nil rk
  obtain ⟨t, rfl⟩ := R.str_iff.mp r2
  obtain ⟨a, kvs, rfl, hs, hD, rd⟩ := dict_at I r1 hd
  exact call_meetsIn F.slot_dict_get hD.typeIs F.entry_dict_get (F.args_dict_get_3 _ _ _) (meets_dict_get_default G.knd a (strKey x t) hs u) ⟨_, hD.mapOf, (show Post G φ μ s K _ _ from Post.of (Step.toks I (s.toks + 1)) (rd.getD r3) h)⟩
theorem Step.dset {a : Addr} {x : Str} {v : Value} {ds : List (Str × D)} {kvs : List (Str × Value)} {dv : D} {h' : Heap} {tk : Nat} (I : Inv G φ μ s) (hs : (a == sysModules) = false) (rd : Rd G φ kvs ds) (rv : R G φ v dv) (hD : h'.DictOf G.knd a (stored kvs x v)) (hb : Heap.SameBut a s.heap h') (hc : Chg μ a (.dict ds) (.dict (putD ds x dv)) μ') :
    Step G [] φ μ s φ μ' { s with heap := h', toks := tk } := by
  obtain ⟨o, ho, hd⟩ := Heap.dictOf_iff.mp hD
  exact Step.upd I hc.upd hb.extBut ⟨hs, o, _, ho, hd, rd.put rv⟩
theorem WS.setD {o i e : Expr} {p p' : Pos} (h : WE G k sc σ e μ fun dv μ1 => WE G k sc σ o μ1 fun d μ2 => WE G k sc σ i μ2 fun di μ3 => Ex4 fun a x ds μ4 => A5 (d = .loc a) (di = .str x) (Chg μ3 a (.dict ds) (.dict (putD ds x dv)) μ4) (ds.length ≤ 1000000) (KB .next σ μ4))
    (hs : ∀ env, swapsWith e (some (.Subscript o i p')) p.line env = pure false := by intro _; rfl) : WS G k sc σ (.Assign [.Subscript o i p'] e p) μ KB := fun env φ s I E => by
  refine wpAny_Assign_Subscript (wpAny_mono (h env φ s I E) (fun v s1 ⟨dv, φ1, μ1, st1, rv, hK⟩ => ?_) nev) (hs env)
  refine wpAny_mono (hK env φ1 s1 st1.inv (E.step st1)) (fun ov s2 ⟨d, φ2, μ2, st2, ro, hK⟩ => ?_) nev
  refine wpAny_mono (hK env φ2 s2 st2.inv ((E.step st1).step st2)) (fun iv s3 ⟨di, φ3, μ3, st3, ri, a, x, ds, μ4, hd, hi, hc, hl, hW⟩ => ?_) nev
  subst hi
  obtain ⟨t, rfl⟩ := R.str_iff.mp ri
  obtain ⟨a', kvs, rfl, hsys, hD, rd⟩ := dict_at st3.inv (ro.mono st3.le) (.inr ⟨a, hd, hc.has⟩)
  subst hd
  cases R.val_iff.mp ro
  refine wpAny_setItem_pairs (strKey x t) hD (fun h' hD' hb => ?_) (by rw [rd.len]; exact sizeLine_le hl)
  have st4 := Step.dset (tk := s3.toks + 1) st3.inv hsys rd ((rv.mono st2.le).mono st3.le) hD' hb hc
  obtain ⟨stx, E4⟩ := E.stepX (((st1.trans st2).trans st3).trans st4)
  exact ⟨.next, σ, φ3, μ4, stx, E4, trivial, hW⟩
theorem WS.augD {o e : Expr} {y : Str} {op : Operator} {p p' py : Pos} (h : WE G k sc σ o μ fun d μ1 => WE G k sc σ (.Name y py) μ1 fun di μ2 => Ex4 fun a x ds old => A5 (d = .loc a) (di = .str x) (Has μ2 a (.dict ds)) (atD ds x = some old) (WE G k sc σ e μ2 fun dv μ3 => WV2 G k old dv μ3 (inplaceOp op) fun new μ4 => ∃ ds' μ5, Chg μ4 a (.dict ds') (.dict (putD ds' x new)) μ5 ∧ ds'.length ≤ 1000000 ∧ KB .next σ μ5)) : WS G k sc σ (.AugAssign (.Subscript o (.Name y py) p') op e p) μ KB := fun env φ s I E => by
  refine wpAny_AugAssign_Subscript (wpAny_mono (h env φ s I E) (fun ov s1 ⟨d, φ1, μ1, st1, ro, hK⟩ => ?_) nev)
  refine wpAny_mono (hK env φ1 s1 st1.inv (E.step st1)) (fun iv s2 ⟨di, φ2, μ2, st2, ri, a, x, ds, old, hd, hi, hm, hat, hW⟩ => ?_) nev
  subst hi
  obtain ⟨t, rfl⟩ := R.str_iff.mp ri
  obtain ⟨a', kvs, rfl, hsys, hD, rd⟩ := dict_at st2.inv (ro.mono st2.le) (.inr ⟨a, hd, hm⟩)
  subst hd
  cases R.val_iff.mp ro
  obtain ⟨w, hw, rw'⟩ := (rd.at (x := x)).1 _ hat
  refine wpAny_getItem_of (knd := G.knd) (k := x) (strKey x t) hD.mapOf hw ?_
  have st2' := (st1.trans st2).trans (Step.toks st2.inv (s2.toks + 1))
  refine wpAny_mono (hW env φ2 { s2 with toks := s2.toks + 1 } st2'.inv (E.step st2')) (fun v s3 ⟨dv, φ3, μ3, st3, rv, hK⟩ => ?_) nev
  refine wpAny_mono (hK φ3 s3 _ _ st3.inv (rw'.mono st3.le) rv) (fun nv s4 ⟨new, φ4, μ4, st4, rn, ds', μ5, hc, hl, hW⟩ => ?_) nev
  obtain ⟨a', kvs', e', hsys', hD', rd'⟩ := dict_at (d := .loc a) st4.inv (.val _) (.inr ⟨a, rfl, hc.has⟩)
  cases e'
  refine wpAny_setItem_pairs (strKey x t) hD' (fun h' hD'' hb => ?_) (by rw [rd'.len]; exact sizeLine_le hl)
  have st5 := Step.dset (tk := s4.toks + 1) st4.inv hsys' rd' rn hD'' hb hc
  obtain ⟨stx, E5⟩ := E.stepX (((st2'.trans st3).trans st4).trans st5)
  exact ⟨.next, σ, φ4, μ5, stx, E5, trivial, hW⟩
theorem Step.ownE (I : Inv G φ μ s) {X : List Addr} {h' : Heap} {t : Nat} {a : Addr} (hX : a ∈ X) (hφ : φ a = none) (hm : ∀ p ∈ μ, p.1 ≠ a) (hs : ∀ b o, b ≠ a → s.heap.get? b = some o → h'.get? b = some o) (ht : ∃ o, h'.get? a = some o) :
    Step G X φ μ s φ μ { s with heap := h', toks := t } := by
  refine ⟨⟨I.base, fun b o e => hs _ _ (fun z => by subst z; rw [hφ] at e; cases e) (I.sub b o e), fun p hp => (I.cells p hp).mono (.refl _) (fun o e => hs _ _ (hm p hp) e), I.off, I.nd, I.gens, I.os, I.dr⟩,
    .refl φ, fun b o h _ hx => hs _ _ (fun z => hx (z ▸ hX)) h, fun b o h => ?_, fun p hp => .inl ⟨p, hp, rfl⟩, fun _ _ h => .inl h⟩
  by_cases e : b = a
  · subst e; exact ht
  · exact ⟨o, hs _ _ e h⟩
theorem merged_one {x : Str} {v : Value} : merged [] [(x, v)] = [(x, v)] := by simp [merged, stored]
theorem WE.dict1 {ek ev : Expr} {p : Pos} (h : WE G k sc σ ek μ fun dk μ1 => ∃ x, dk = .str x ∧ WE G k sc σ ev μ1 fun dv μ2 => K (.dict [(x, dv)]) μ2) : WE G k sc σ (.Dict [some ek] [ev] p) μ K := fun env φ s I E => by
  refine wpAny_Dict_pairs (knd := G.knd) (pairs := [(eval ek env, do let x ← eval ev env; standAt p; pure x)]) rfl (by simp) (by simp) ?_
  have hn := fresh_none s (Nat.le_refl s.heap.objs.size)
  have st0 : Step G [] φ μ s φ μ { s with heap := s.heap.push { cls := .type "dict", data := .dict #[] }, toks := s.toks } := Step.grow I fun b o e => Heap.get?_push_of_some _ e
  have hA : (s.heap.push { cls := .type "dict", data := .dict #[] }).get? s.heap.objs.size = some { cls := .type "dict", data := .dict #[] } := Heap.get?_push_size _ rfl
  have ap := new_apart (X := []) I (fun _ h => nomatch h) hn
  refine evalPairs_cons (wpAny_mono (h env φ _ st0.inv (E.step st0)) (fun kv s1 ⟨dk, φ1, μ1, st1, rk, x, hx, hV⟩ => ?_) nev)
  subst hx
  obtain ⟨t, rfl⟩ := R.str_iff.mp rk
  have hA1 := st1.keep _ _ hA ap.2.1 (fun h => nomatch h)
  obtain ⟨a1, b1⟩ := st1.hid (fun h => nomatch h) ap.1 ap.2.1 ⟨_, hA⟩
  refine wpAny_bind (wpAny_mono (hV env φ1 s1 st1.inv ((E.step st0).step st1)) (fun vv s2 ⟨dv, φ2, μ2, st2, rv, hK⟩ => ?_) nev)
  have hA2 := st2.keep _ _ hA1 b1 (fun h => nomatch h)
  obtain ⟨a2, b2⟩ := st2.hid (fun h => nomatch h) a1 b1 ⟨_, hA1⟩
  refine wpAny_bind (wpAny_standAt (wpAny_pure (evalPairs_nil ?_)))
  obtain ⟨o0, ho0, hd0⟩ := Heap.dictOf_iff.mp (Heap.DictOf.new (knd := G.knd) s.heap)
  refine ⟨[(x, vv)], ⟨strKey x t, rfl, trivial⟩, Heap.dictOf_iff.mpr ⟨o0, ?_, hd0⟩, fun h' hD' hb => ?_⟩
  · rw [hA] at ho0; cases ho0; exact hA2
  · rw [merged_one] at hD'
    obtain ⟨o, ho, hd⟩ := Heap.dictOf_iff.mp hD'
    have st3 := Step.own (t := s2.toks + 1) (X := [s.heap.objs.size]) st2.inv (.head _) a2 b2 hb ⟨o, ho⟩
    have st := (((st0.trans st1).trans st2).more (X' := [s.heap.objs.size]) fun _ h => nomatch h).trans st3
    have sts := (st.seal hn a2 b2 ho).drop (fun y hy => by rw [List.mem_singleton.mp hy]; exact hn)
    exact ⟨_, _, μ2, sts, R.dict_iff.mpr ⟨_, o, _, rfl, Fs.put_self .., I.notSys (Nat.le_refl _), hd, .cons (rv.mono (Fs.put_le a2)) .nil⟩, hK⟩
theorem dictAt_of {a : Addr} {o : Obj} {kvs : List (Str × Value)} {h : Heap} (ho : h.get? a = some o) (hd : o.IsDictOf G.knd kvs) : ∃ ep, h.DictAt G.knd a kvs ep ∧ ∀ h' : Heap, h'.get? a = some o → h'.DictAt G.knd a kvs ep := by
  obtain ⟨es, ep, h1, h2, h3, h4, h5⟩ := hd
  exact ⟨ep, ⟨o, es, ho, h1, h2, h3, h4, h5⟩, fun h' ho' => ⟨o, es, ho', h1, h2, h3, h4, h5⟩⟩
theorem IterD.keys (ds : List (Str × D)) : IterD G (.dict ds) (ds.map fun p => .str p.1) := fun φ μ s v X A Q I r hA hX hQ => by
  obtain ⟨a, o, kvs, rfl, ho, hs, hd, rd⟩ := R.dict_iff.mp r
  have hne : a ≠ s.heap.objs.size := Nat.ne_of_lt (Heap.lt_size (I.sub _ _ ho))
  obtain ⟨ep, hat, hat'⟩ := dictAt_of (I.sub _ _ ho) hd
  obtain ⟨T, hw, hf⟩ := mkIter (items := ds.map fun p => .str p.1) (fz := [a]) (P := fun i v => ∃ k x, kvs[i]? = some (k, x) ∧ G.knd.is k v = true) (St := fun i h => h.IsKeyIter s.heap.objs.size a i kvs.length ep ∧ h.DictAt G.knd a kvs ep) I hX rfl (fun A' hA' => by
      have := Walks.dictKeys (prog := G.prog) (w := G.w) (knd := G.knd) hA' s.heap.objs.size a hne kvs ep
      have e : kvs.length = (ds.map fun p => D.str p.1).length := by rw [List.length_map]; exact rd.len
      exact e ▸ this) (fun i h st b hb => by
      simp at hb
      rcases hb with rfl | rfl
      · obtain ⟨o, ho, _⟩ := st.1; exact ⟨o, ho⟩
      · obtain ⟨o, _, ho, _⟩ := st.2; exact ⟨o, ho⟩) (fun i v hv => by
      obtain ⟨k, x, hx, hk⟩ := hv
      obtain ⟨t, rfl⟩ := strKey_inv hk
      refine ⟨.str k, ?_, .str _ _⟩
      have := congrArg (·[i]?) rd.1
      simp only [List.getElem?_map, hx, Option.map_some] at this
      cases e : ds[i]? with
      | none => rw [e] at this; cases this
      | some p => rw [e] at this; simp at this; simp [e, this]) (fun b hb => by simp at hb; subst hb; exact ⟨_, ho⟩)
  refine wpAny_pyIter_dict (knd := G.knd) hs hat (hQ _ _ _ _ _ _ (fun b o e => Heap.get?_push_of_some _ e) T ?_ hw (hf _) ?_)
  · exact ⟨⟨_, Heap.get?_push_size _ rfl, rfl, rfl⟩, hat' _ (Heap.get?_push_of_some _ (I.sub _ _ ho))⟩
  · intro t i s1 v Q' A' st h
    obtain ⟨o, ho, hc, hd⟩ := st.1
    exact quiet_of ho hc hd (by decide) h
theorem V.dvalues {ds : List (Str × D)} (h : K (.view "dict_values" (.dict ds)) μ) : WCv G k (.builtin "dict.values") [.dict ds] [] μ K := fun φ s vs kv I r0 rk => by
  obtain ⟨v, rfl, r⟩ := rs1 r0
  obtain rfl := kw_nil rk
  obtain ⟨a, kvs, rfl, hs, hD, rd⟩ := dict_at I r (.inl rfl)
  have hn := fresh_none s (Nat.le_refl s.heap.objs.size)
  have st := Step.frozen (X := []) (t := s.toks) I hn (fun b o e => Heap.get?_push_of_some { cls := .type "dict_values", data := .fields #[.ref a] } e) (Heap.get?_push_size _ rfl)
  exact call_meetsIn F.slot_dict_values hD.typeIs F.entry_dict_values (F.args_dict_values_1 _) (meets_dict_values G.knd a hs) ⟨⟨kvs, hD⟩, (show Post G φ μ s K _ _ from ⟨_, _, _, st, R.view_iff.mpr ⟨_, _, rfl, Fs.put_self .., r.mono st.le⟩, h⟩)⟩
theorem V.ditems {ds : List (Str × D)} (h : K (.view "dict_items" (.dict ds)) μ) : WCv G k (.builtin "dict.items") [.dict ds] [] μ K := fun φ s vs kv I r0 rk => by
  obtain ⟨v, rfl, r⟩ := rs1 r0
  obtain rfl := kw_nil rk
  obtain ⟨a, kvs, rfl, hs, hD, rd⟩ := dict_at I r (.inl rfl)
  have hn := fresh_none s (Nat.le_refl s.heap.objs.size)
  have st := Step.frozen (X := []) (t := s.toks) I hn (fun b o e => Heap.get?_push_of_some { cls := .type "dict_items", data := .fields #[.ref a] } e) (Heap.get?_push_size _ rfl)
  exact call_meetsIn F.slot_dict_items hD.typeIs F.entry_dict_items (F.args_dict_items_1 _) (meets_dict_items G.knd a hs) ⟨⟨kvs, hD⟩, (show Post G φ μ s K _ _ from ⟨_, _, _, st, R.view_iff.mpr ⟨_, _, rfl, Fs.put_self .., r.mono st.le⟩, h⟩)⟩
theorem IterD.values (ds : List (Str × D)) : IterD G (.view "dict_values" (.dict ds)) (ds.map (·.2)) := fun φ μ s v X A Q I r hA hX hQ => by
  obtain ⟨b, w, rfl, hb, r⟩ := R.view_iff.mp r
  obtain ⟨a, o, kvs, rfl, ho, hs, hd, rd⟩ := R.dict_iff.mp r
  have hne : a ≠ s.heap.objs.size := Nat.ne_of_lt (Heap.lt_size (I.sub _ _ ho))
  obtain ⟨ep, hat, hat'⟩ := dictAt_of (I.sub _ _ ho) hd
  obtain ⟨T, hw, hf⟩ := mkIter (items := ds.map (·.2)) (fz := [a]) (P := fun i v => ∃ k, kvs[i]? = some (k, v)) (St := fun i h => h.IsValIter s.heap.objs.size a i kvs.length ep ∧ h.DictAt G.knd a kvs ep) I hX rfl (fun A' hA' => by
      have := Walks.dictValues (prog := G.prog) (w := G.w) (knd := G.knd) hA' s.heap.objs.size a hne kvs ep
      have e : kvs.length = (ds.map (·.2)).length := by rw [List.length_map]; exact rd.len
      exact e ▸ this) (fun i h st b hb => by
      simp at hb
      rcases hb with rfl | rfl
      · obtain ⟨o, ho, _⟩ := st.1; exact ⟨o, ho⟩
      · obtain ⟨o, _, ho, _⟩ := st.2; exact ⟨o, ho⟩) (fun i v hv => by
      obtain ⟨k, hx⟩ := hv
      have := congrArg (·[i]?) rd.1
      simp only [List.getElem?_map, hx, Option.map_some] at this
      cases e : ds[i]? with
      | none => rw [e] at this; cases this
      | some p => exact ⟨p.2, by simp [e], rd.2 i _ _ hx e⟩) (fun b hb => by simp at hb; subst hb; exact ⟨_, ho⟩)
  refine wpAny_pyIter_values (knd := G.knd) (v := b) ⟨_, I.sub _ _ hb, rfl, rfl⟩ hat (hQ _ _ _ _ _ _ (fun b o e => Heap.get?_push_of_some _ e) T ?_ hw (hf _) ?_)
  · exact ⟨⟨_, Heap.get?_push_size _ rfl, rfl, rfl⟩, hat' _ (Heap.get?_push_of_some _ (I.sub _ _ ho))⟩
  · intro t i s1 v Q' A' st h
    obtain ⟨o, ho, hc, hd⟩ := st.1
    exact quiet_of ho hc hd (by decide) h
end
section
variable {G : Gr} {k : Nat} {φ φ' : Fs} {μ μ' μ0 F : Mu} {s s' : Shared} {sc scC : Sc} {σ σ' : Sg} {env : Env} {K K' : D → Mu → Prop} {KT KT' : Bool → Mu → Prop} {KB KB' : Fl → Sg → Mu → Prop}
inductive FiI (G : Gr) (sc : Sc) (env : Env) (φ0 : Fs) (μ0 : Mu) (s0 : Shared) (it a : Addr) (n ep : Nat) (items : List D) (W : List D → Sg → Mu → Prop) (m : Nat) (s' : Shared) : Prop where
  | mk (i : Nat) (σ' : Sg) (φ' : Fs) (μ' : Mu) (ok ov : Value) (w : W (items.drop i) σ' μ') (st : Step G (it :: xs env) φ0 μ0 s0 φ' μ' s') (e : EnvR G φ' μ' sc σ' env s'.heap)
    (hI : IsItemIter s'.heap it a i n ep ok ov) (hf : φ' it = none) (hm : ∀ p ∈ μ', p.1 ≠ it) (hi : i ≤ n) (hn : m = n + 1 - i)
theorem WS.forItems {elts : List Expr} {n : Nat} {tp : Pos} {iter : Expr} {body : List Stmt} {p : Pos}
    (h : WE G k sc σ iter μ fun d μ1 => ∃ ds, d = .view "dict_items" (.dict ds) ∧ WLoop G k sc (.Tuple elts n tp) body KB (ds.map fun p => .tup [.str p.1, p.2]) σ μ1)
    (hs : ∀ env x, foldedSetIterable iter env x = pure x := by intro _ _; rfl) : WS G k sc σ (.For (.Tuple elts n tp) iter body [] p) μ KB := fun env φ s I0 E0 => by
  refine wpAny_For ?_ (hs env)
  refine wpAny_mono (h env φ s I0 E0) (fun v s0 ⟨d, φ0, μ0, st0, r, ds, hd, hL⟩ => ?_) nev
  subst hd
  obtain ⟨b, w, rfl, hb, r⟩ := R.view_iff.mp r
  obtain ⟨a, o, kvs, rfl, ho, hsys, hdo, rd⟩ := R.dict_iff.mp r
  obtain ⟨ep, hat, hat'⟩ := dictAt_of (st0.inv.sub _ _ ho) hdo
  refine wpAny_pyIter_items (knd := G.knd) (v := b) ⟨_, st0.inv.sub _ _ hb, rfl, rfl⟩ hat ?_
  generalize hit : s0.heap.objs.size = it
  have hn : s0.heap.get? it = none := fresh_none s0 (by rw [hit]; exact Nat.le_refl _)
  have hnb : s.heap.get? it = none := by
    cases e : s.heap.get? it with
    | none => rfl
    | some o => obtain ⟨o', h'⟩ := st0.there _ _ e; rw [hn] at h'; cases h'
  have E1 := E0.step st0
  have ap := new_apart st0.inv E1.there hn
  have stp : Step G (it :: xs env) φ0 μ0 s0 φ0 μ0 { s0 with heap := s0.heap.push { cls := .type "dict_itemiterator", data := .fields #[.none, .bool false, .ref a, .int 0 0, .int kvs.length 0, .int ep 0, .none, .none] }, toks := s0.toks } := Step.grow st0.inv fun b o e => Heap.get?_push_of_some _ e
  have hget : (s0.heap.push { cls := .type "dict_itemiterator", data := .fields #[.none, .bool false, .ref a, .int 0 0, .int kvs.length 0, .int ep 0, .none, .none] }).get? it = some { cls := .type "dict_itemiterator", data := .fields #[.none, .bool false, .ref a, .int 0 0, .int kvs.length 0, .int ep 0, .none, .none] } := by rw [← hit]; exact Heap.get?_push_size _ rfl
  have E2 : EnvR G φ0 μ0 sc σ env (s0.heap.push { cls := .type "dict_itemiterator", data := .fields #[.none, .bool false, .ref a, .int 0 0, .int kvs.length 0, .int ep 0, .none, .none] }) := E1.keepH fun a _ o ho => Heap.get?_push_of_some _ ho
  have close : ∀ {φ' μ' s'}, Step G (it :: xs env) φ0 μ0 s0 φ' μ' s' → Step G (xs env) φ μ s φ' μ' s' := fun st =>
    ((st0.more fun _ h => nomatch h).trans st).dropL (Y := [it]) (fun x hx => by rw [List.mem_singleton.mp hx]; exact hnb)
  have hlen : kvs.length = (ds.map fun p => D.tup [.str p.1, p.2]).length := by rw [List.length_map]; exact rd.len
  refine codeAny_forLoop_any (FiI G sc env φ0 μ0 s0 it a kvs.length ep (ds.map fun p => D.tup [.str p.1, p.2]) (WLoop G k sc (.Tuple elts n tp) body KB))
    (fun m s2 hI => ?_) (kvs.length + 1) ⟨0, σ, φ0, μ0, _, _, hL, stp, E2, hget, ap.1, ap.2.1, Nat.zero_le _, rfl⟩
  obtain ⟨i, σ2, φ2, μ2, ok, ov, hL2, st2, E2', hI2, hf2, hm2, hi, rfl⟩ := hI
  have hat2 : s2.heap.DictAt G.knd a kvs ep := hat' _ (st2.inv.sub _ _ (st2.le _ _ ho))
  by_cases hlt : i < kvs.length
  · obtain ⟨⟨ky, vy⟩, hx⟩ : ∃ q, kvs[i]? = some q := ⟨kvs[i], by simp [hlt]⟩
    have hlt' : i < ds.length := by rw [← rd.len]; exact hlt
    obtain ⟨⟨ky', dy⟩, hy⟩ : ∃ q, ds[i]? = some q := ⟨ds[i], by simp [hlt']⟩
    have hky : ky' = ky := by
      have := congrArg (·[i]?) rd.1
      simp only [List.getElem?_map, hx, hy, Option.map_some] at this
      simpa using this.symm
    subst hky
    have rdy : R G φ0 vy dy := rd.2 i _ _ hx hy
    have hdrop : (ds.map fun p => D.tup [.str p.1, p.2]).drop i = .tup [.str ky', dy] :: (ds.map fun p => D.tup [.str p.1, p.2]).drop (i + 1) := by
      have h1 : i < (ds.map fun p => D.tup [.str p.1, p.2]).length := by rw [List.length_map]; exact hlt'
      rw [List.drop_eq_getElem_cons h1]
      congr 1
      have : ds[i] = (ky', dy) := by
        have := List.getElem?_eq_getElem hlt'; rw [hy] at this; exact (Option.some.inj this).symm
      simp [this]
    rw [hdrop] at hL2
    refine wpAny_pyNext_items_item (knd := G.knd) hI2 hat2 hx fun key h' hkey hout htup hsz hkp => ?_
    obtain ⟨t, rfl⟩ := strKey_inv hkey
    refine wpAny_letOwnedTupleGo_items hout fun h3 hI3 hb3 => ?_
    generalize hT : s2.heap.objs.size = T at hout htup
    have hTn : s2.heap.get? T = none := fresh_none s2 (by rw [hT]; exact Nat.le_refl _)
    have hTit : T ≠ it := fun e => by have := Heap.lt_size hI2; rw [← e, ← hT] at this; exact Nat.lt_irrefl _ this
    have hk3 : ∀ b o, b ≠ it → s2.heap.get? b = some o → h3.get? b = some o := fun b o hb e => (hb3.2 b hb).trans (hkp b o hb e)
    have hT3 : h3.get? T = some (tupOf [Value.str ky' t, vy].toArray 0) := (hb3.2 T hTit).trans htup
    have sta := Step.ownE (X := [it]) (t := s2.toks) st2.inv (.head _) hf2 hm2 hk3 ⟨_, hI3⟩
    have apT := new_apart (X := []) st2.inv (fun _ h => nomatch h) hTn
    have stb := sta.seal (o := tupOf [Value.str ky' t, vy].toArray 0) hTn apT.1 apT.2.1 hT3
    have hxit : ∀ x ∈ xs env, x ∉ [it] := fun x hx hm => by
      rw [List.mem_singleton.mp hm] at hx
      exact ap.2.2 hx
    have E3 : EnvR G (φ2.put T (tupOf [Value.str ky' t, vy].toArray 0)) μ2 sc σ2 env h3 := E2'.stepA stb hxit
    have rT : R G (φ2.put T (tupOf [Value.str ky' t, vy].toArray 0)) (.ref T) (.tup [.str ky', dy]) :=
      R.tup_iff.mpr ⟨T, [Value.str ky' t, vy], 0, rfl, Fs.put_self .., .cons (.str _ _) (.cons ((rdy.mono st2.le).mono stb.le) .nil)⟩
    refine wpAny_mono (hL2 env _ _ _ stb.inv E3 rT) (fun _ s4 ⟨σ4, φ4, μ4, st4, E4, hB⟩ => ?_) nev
    refine wpAny_mono (hB env φ4 s4 st4.inv E4) (fun f s5 ⟨fl, σ5, φ5, μ5, st5, E5, fr, h5⟩ => ?_) nev
    have st45 := st4.trans st5
    have hb2 : (φ2.put T (tupOf [Value.str ky' t, vy].toArray 0)) it = none := by unfold Fs.put; rw [if_neg (Ne.symm hTit)]; exact hf2
    obtain ⟨f5, m5⟩ := st45.hid ap.2.2 hb2 hm2 ⟨_, hI3⟩
    have hI5 := st45.keep it _ hI3 hm2 ap.2.2
    have stall : Step G (it :: xs env) φ0 μ0 s0 φ5 μ5 s5 := (st2.trans (stb.more fun x hx => by rw [List.mem_singleton.mp hx]; exact .head _)).trans (st45.more fun x hx => .tail _ hx)
    cases fr.i <;> first
      | exact ⟨kvs.length + 1 - (i + 1), by lia, i + 1, σ5, φ5, μ5, _, _, h5, stall, E5, hI5, f5, m5, hlt, rfl⟩
      | exact ⟨.next, σ5, φ5, μ5, close stall, E5, trivial, h5⟩
      | exact ⟨.ret _, σ5, φ5, μ5, close stall, E5, fr, h5⟩
  · have : i = kvs.length := by lia
    subst this
    refine wpAny_pyNext_items_end (knd := G.knd) rfl hI2 hat2 (by simp) fun h' hk => ?_
    rw [hlen, List.drop_length] at hL2
    have hxw : ∀ x ∈ xs env, x ≠ it := fun x hx e => ap.2.2 (e ▸ hx)
    have E3 : EnvR G φ2 μ2 sc σ2 env h' := E2'.keepH fun a ha o ho => hk a o (hxw a ha) ho
    have st3 := (close st2).last (wr := [it]) (h' := h') (t := s2.toks) (fun b o hb e => hk b o (fun z => hb (List.mem_singleton.mpr z)) e) (fun b hb => by rw [List.mem_singleton.mp hb]; exact ⟨hnb, hf2, hm2⟩)
    exact wpAny_execs_nil ⟨.next, σ2, φ2, μ2, st3, E3, trivial, hL2⟩
end
noncomputable def WDC (G : Gr) (k : Nat) (scC : Sc) (kx vx t : Expr) (ifs : List Expr) (KD : List (Str × D) → Mu → Prop) : List D → Sg → List (Str × D) → Mu → Prop
  | [], _, acc, μ => KD acc μ
  | d :: ds, σ, acc, μ => WAL G k scC σ t d μ fun σ1 μ1 => WIfs G k scC σ1 ifs μ1 fun b μ2 =>
    if b then WE G k scC σ1 kx μ2 fun dk μ3 => ∃ x, dk = .str x ∧ WE G k scC σ1 vx μ3 fun dv μ4 => WDC G k scC kx vx t ifs KD ds σ1 (putD acc x dv) μ4 else WDC G k scC kx vx t ifs KD ds σ1 acc μ2
theorem putD_len (ds : List (Str × D)) (x : Str) (d : D) : (putD ds x d).length ≤ ds.length + 1 := by
  unfold putD
  split <;> simp
section
variable {G : Gr} {k : Nat} {φ φ' : Fs} {μ μ' : Mu} {s s' : Shared} {sc scC : Sc} {σ σ' : Sg} {env : Env} {K K' : D → Mu → Prop} {KT KT' : Bool → Mu → Prop} {KB KB' : Fl → Sg → Mu → Prop}
theorem compLoop_genD {kx vx target iter : Expr} {ifs : List Expr} {scope : Scope} {pos : Pos} {it : Value} {A0 : Addr} {env : Env} {A : Around} {RR : Result → Shared → Prop} (I : Nat → Shared → Prop)
    (turn : ∀ n s, I n s → wpAny G.M A (pyNext it) (fun r s₁ => match r with
      | none => RR (.ok .next) s₁
      | some v => wpAny G.M A (letOwnedTupleGo target it v) (fun _ s₀ => wpAny G.M A (assign target env v) (fun _ s₂ =>
          wpAny G.M A (forIn ifs true fun c r => if r = true then do let ok ← isTrue c env (eval c env); pure (ForInStep.yield ok) else pure (ForInStep.yield r)) (fun ok s₃ =>
            if ok = true then wpAny G.M A (eval kx env) (fun x s₄ => wpAny G.M A (eval vx env) (fun y s₅ =>
              wpAny G.M A (dictSet A0 x y) (fun _ s₆ => ∃ m, m < n ∧ I m s₆) Nev s₅) Nev s₄) Nev s₃
            else ∃ m, m < n ∧ I m s₃) Nev s₂) Nev s₀) Nev s₁) Nev s)
    (n : Nat) (h : I n s) : codeAny G.M A (.compLoop (.DictComp kx vx [⟨target, iter, ifs, 0⟩] scope pos) 0 it (.ref A0) env) RR s := by
  refine codeAny_loop rfl I (fun n s hI => ?_) n h
  show wpAny _ A ((compTurn (.DictComp kx vx [⟨target, iter, ifs, 0⟩] scope pos) 0 it (.ref A0) env).onRaise (fun x => do noteFrame x env; theTreesLotGoes x)) _ _ s
  refine wpAny_noted ?_
  rw [compTurn_dict]
  refine wpAny_bind (wpAny_standAt (wpAny_bind (wpAny_mono (turn n s hI) (fun r s₁ h₁ => ?_) nev)))
  cases r with
  | none => exact wpAny_pure h₁
  | some v =>
    refine wpAny_bind (wpAny_mono h₁ (fun _ s₀ h₀ => ?_) nev)
    refine wpAny_bind (wpAny_mono h₀ (fun _ s₂ h₂ => wpAny_bind (wpAny_mono h₂ (fun ok s₃ h₃ => ?_) nev)) nev)
    cases ok with
    | false => exact wpAny_pure ⟨rfl, h₃⟩
    | true =>
      exact wpAny_bind (wpAny_bind (wpAny_mono h₃ (fun kv s₄ h₄ => wpAny_bind (wpAny_holding (wpAny_mono h₄ (fun vv s₅ h₅ => wpAny_bind (wpAny_standAt (wpAny_holding (wpAny_mono h₅ (fun _ s₆ h₆ => wpAny_pure ⟨rfl, h₆⟩) nev)))) nev))) nev))
inductive DCI (G : Gr) (φ1 : Fs) (μ1 : Mu) (s1 : Shared) (scR : Sc) (envC : Env) (I : Addr) (fp wr : List Addr) (P : Nat → Value → Prop) (St : Nat → Heap → Prop) (items : List D) (A C : Addr) (W : List D → Sg → List (Str × D) → Mu → Prop) (n : Nat) (s' : Shared) : Prop where
  | mk (i : Nat) (σ' : Sg) (φ' : Fs) (μ' : Mu) (vs : List (Str × Value)) (ys : List (Str × D)) (hL : W (items.drop i) σ' ys μ') (st : Step G (wr ++ [A, C]) φ1 μ1 s1 φ' μ' s') (E : EnvR G φ' μ' scR σ' envC s'.heap) (T : ItAt G φ' μ' [A, C] I fp wr P St items) (hst : St i s'.heap)
    (hP : s'.heap.DictOf G.knd A vs) (hR : Rd G φ' vs ys) (hys : ys.length ≤ i) (hφA : φ' A = none) (hμA : ∀ p ∈ μ', p.1 ≠ A) (hi : i ≤ items.length) (hn : n = items.length + 1 - i)
theorem dictcomp_core {kx vx t iter : Expr} {ifs : List Expr} {scope : Scope} {pos : Pos} {use : Option (Value → Sem Unit)} {Q : Value → Shared → Prop}
    (h : WI G k sc σ t iter μ fun items hid μ1 => items.length ≤ 1000000 ∧ WDC G k (relabelN sc scope.names) kx vx t ifs (fun ys μ2 => K (.dict ys) (hid ++ μ2)) items (capF (relabelN sc scope.names) σ) [] μ1)
    (hok : compOk sc scope.names = true) (hkind : scope.kind = .function) (hnames : ∀ x ∈ scope.names, x.2 = .local → scope.names.lookup x.1 = some .local)
    (hs : ∀ env x, foldedSetIterable iter env x = pure x) (I0 : Inv G φ μ s) (E0 : EnvR G φ μ sc σ env s.heap)
    (hfin : ∀ acc C s', CompEnd G φ μ s K acc C s' → compPost G.M (Lv k) Nev use Q acc C (.ok .next) s') :
    wpAny G.M (Lv k) (comprehension (.DictComp kx vx [⟨t, iter, ifs, 0⟩] scope pos) scope env (firstIterPos [⟨t, iter, ifs, 0⟩] pos) newDict (firstAsync [⟨t, iter, ifs, 0⟩]) (firstIter [⟨t, iter, ifs, 0⟩] env) use) Q Nev s := by
  refine wpAny_comprehension_free (cl := clOf env scope.names []) rfl (hs env) (closureFor_of (comp_hex E0 hok)) hkind hnames ?_
  show wpAny G.M (Lv k) (eval iter env) _ _ s
  refine h env φ s _ I0 E0 fun I fp wr P St items hid φ1 μ1 s1 st0 T0 hst0 hwf hwh hfp hlo ⟨hlen, hL⟩ => ?_
  refine wpAny_newObj_type (wpAny_newFunctionEnv (compOk_cell hok).1 (by intro y hy; simp at hy) (fun h₁ hns₁ hsb₁ => ?_) hkind)
  dsimp only at hns₁ hsb₁ ⊢
  generalize hA : s1.heap.objs.size = A
  generalize hH2 : s1.heap.push { cls := .type "dict", dict := none, data := .dict #[] } = H2 at hns₁ hsb₁ ⊢
  generalize hC : H2.objs.size = C at hns₁ hsb₁ ⊢
  have F := comp_fr hok hkind E0 st0 T0 hst0 hwf hwh hfp rfl hA hH2 hC hns₁ hsb₁
  show codeAny G.M (Lv k) (.compStart (.DictComp kx vx [⟨t, iter, ifs, 0⟩] scope pos) 0 (.ref I) (.ref A) (compEnvC scope (clOf env scope.names []) C env)) (compPost G.M (Lv k) Nev use Q (.ref A) C) { s1 with heap := h₁, toks := s1.toks }
  have dnew : h₁.DictOf G.knd A [] := by
    obtain ⟨o, ho, hd⟩ := Heap.dictOf_iff.mp (Heap.DictOf.new (knd := G.knd) s1.heap)
    rw [hA] at ho
    have : (s1.heap.push { cls := .type "dict", data := .dict #[] }).get? A = some { cls := .type "dict", data := .dict #[] } := by rw [← hA]; exact Heap.get?_push_size _ rfl
    rw [this] at ho; cases ho
    exact Heap.dictOf_iff.mpr ⟨_, F.kpA, hd⟩
  have loop : codeAny G.M (Lv k) (.compLoop (.DictComp kx vx [⟨t, iter, ifs, 0⟩] scope pos) 0 (.ref I) (.ref A) (compEnvC scope (clOf env scope.names []) C env)) (compPost G.M (Lv k) Nev use Q (.ref A) C) { s1 with heap := h₁, toks := s1.toks } := by
    refine compLoop_genD (DCI G φ1 μ1 s1 (relabelN sc scope.names) (compEnvC scope (clOf env scope.names []) C env) I fp wr P St items A C (WDC G k (relabelN sc scope.names) kx vx t ifs (fun ys μ2 => K (.dict ys) (hid ++ μ2)))) (fun n s2 hI => ?_) (items.length + 1)
      ⟨0, _, φ1, μ1, [], [], hL, F.st1, F.E2, F.T1, F.hst1, dnew, .nil, Nat.le_refl _, F.aA, F.mA, Nat.zero_le _, rfl⟩
    obtain ⟨i, σ2, φ2, μ2, vs, ys, hL2, st2, E2, T2, hst2, hP, hR, hys, hφA, hμA, hi, rfl⟩ := hI
    by_cases hlt : i < items.length
    · refine T2.next st2.inv hst2 hlt rfl fun v d h' tk hd r stn hst3 => ?_
      have hdrop : items.drop i = d :: items.drop (i + 1) := by
        obtain ⟨hl, e⟩ := List.getElem?_eq_some_iff.mp hd
        rw [List.drop_eq_getElem_cons hl, e]
      rw [hdrop] at hL2
      show wpAny _ _ (letOwnedTupleGo t (.ref I) v) _ _ _
      refine wpAny_mono (hlo (i + 1) { s2 with heap := h', toks := tk } v (fun _ s' => s' = { s2 with heap := h', toks := tk }) (Lv k) hst3 rfl) (fun _ s' e => ?_) nev
      subst e
      have E3 := E2.stepA stn F.hxsC
      have hAwr : A ∉ wr := fun h => F.hfpA ((T0.W (Lv k) rfl).sub _ h)
      obtain ⟨oA, hPn, hdA⟩ := Heap.dictOf_iff.mp hP
      have hP3 : h'.get? A = some oA := stn.keep A _ hPn hμA hAwr
      refine wpAny_mono (hL2 _ φ2 _ v stn.inv E3 r Nev) (fun _ s4 ⟨σ4, φ4, μ4, st4, E4, hB⟩ => ?_) nev
      have hA4 : A ∉ [(compEnvC scope (clOf env scope.names []) C env).locals] := fun h => F.hAC (List.mem_singleton.mp h)
      obtain ⟨a4, b4⟩ := st4.hid hA4 hφA hμA ⟨_, hP3⟩
      have hP4 := st4.keep A _ hP3 hμA hA4
      refine wpAny_mono (ifs_of hB st4.inv E4) (fun b s5 ⟨φ5, μ5, st5, hK5⟩ => ?_) nev
      obtain ⟨a5, b5⟩ := st5.hid (fun h => nomatch h) a4 b4 ⟨_, hP4⟩
      have hP5 := st5.keep A _ hP4 b4 (fun h => nomatch h)
      have E5 := E4.step st5
      have st25 : Step G [A, C] φ2 μ2 _ φ5 μ5 s5 := (st4.more (X' := [A, C]) (fun x hx => by rw [List.mem_singleton.mp hx]; exact .tail _ (.head _))).trans (st5.more fun _ h => nomatch h)
      have stX : Step G (wr ++ [A, C]) φ1 μ1 s1 φ5 μ5 s5 := (st2.trans (stn.more fun a ha => List.mem_append_left _ ha)).trans (st25.more fun a ha => List.mem_append_right _ ha)
      cases b with
      | false =>
        obtain ⟨T5, hst5⟩ := T2.step stn.inv hst3 st25 (fun _ _ h => h)
        exact ⟨items.length + 1 - (i + 1), by lia, i + 1, σ4, φ5, μ5, vs, ys, hK5, stX, E5, T5, hst5, Heap.dictOf_iff.mpr ⟨oA, hP5, hdA⟩, hR.mono (st4.le.trans st5.le), by lia, a5, b5, hlt, rfl⟩
      | true =>
        refine wpAny_mono (hK5 _ φ5 s5 st5.inv E5) (fun x s6 ⟨dx, φ6, μ6, st6, r6, xk, hxk, hV⟩ => ?_) nev
        subst hxk
        obtain ⟨tk6, rfl⟩ := R.str_iff.mp r6
        obtain ⟨a6, b6⟩ := st6.hid (fun h => nomatch h) a5 b5 ⟨_, hP5⟩
        have hP6 := st6.keep A _ hP5 b5 (fun h => nomatch h)
        have E6 := E5.step st6
        refine wpAny_mono (hV _ φ6 s6 st6.inv E6) (fun y s7 ⟨dy, φ7, μ7, st7, r7, hK6⟩ => ?_) nev
        obtain ⟨a7, b7⟩ := st7.hid (fun h => nomatch h) a6 b6 ⟨_, hP6⟩
        have hP7 := st7.keep A _ hP6 b6 (fun h => nomatch h)
        have E7 := E6.step st7
        refine wpAny_dictSet_pairs (strKey xk tk6) (Heap.dictOf_iff.mpr ⟨oA, hP7, hdA⟩) (fun h8 hP8 hs8 => ?_) (by
          rw [hR.len]; show ys.length ≤ 2 ^ 24; lia)
        obtain ⟨o8, ho8, hd8⟩ := Heap.dictOf_iff.mp hP8
        have stA : Step G [A, C] φ7 μ7 s7 φ7 μ7 { s7 with heap := h8, toks := s7.toks + 1 } := Step.own st7.inv (.head _) a7 b7 hs8 ⟨_, ho8⟩
        have E8 : EnvR G φ7 μ7 (relabelN sc scope.names) σ4 (compEnvC scope (clOf env scope.names []) C env) h8 := E7.keepH fun a ha o ho => (hs8.2 a (F.hxsA a ha)).trans ho
        have st67 := st6.trans st7
        have st27 := (st25.trans (st67.more fun _ h => nomatch h)).trans stA
        obtain ⟨T7, hst7⟩ := T2.step stn.inv hst3 st27 (fun _ _ h => h)
        have stX7 := (stX.trans (st67.more fun _ h => nomatch h)).trans (stA.more fun a ha => List.mem_append_right _ ha)
        have hl7 := putD_len ys xk dy
        exact ⟨items.length + 1 - (i + 1), by lia, i + 1, σ4, φ7, μ7, _, putD ys xk dy, hK6, stX7, E8, T7, hst7, hP8, (hR.mono (st4.le.trans (st5.le.trans (st6.le.trans st7.le)))).put r7, by lia, a7, b7, hlt, rfl⟩
    · have : i = items.length := by lia
      subst this
      refine T2.end hst2 rfl fun h' tk hk => ?_
      rw [List.drop_length] at hL2
      obtain ⟨oA, hPn, hdA⟩ := Heap.dictOf_iff.mp hP
      exact hfin _ _ _ (F.done rfl st2 E2 T2 hφA hμA hPn hk (R.dict_iff.mpr ⟨A, oA, vs, rfl, Fs.put_self .., F.sysA, hdA, hR.mono (Fs.put_le hφA)⟩) hL2)
  refine codeAny_compStart_dict loop ?_
  exact (T0.W (Lv k) rfl).self 0 _ _ _ F.hst1 loop
theorem swaps_dict {kx vx : Expr} {gens : List Comprehension} {scope : Scope} {pos p : Pos} {x : Str} {line : Nat} (h : EnvOk sc env) :
    swapsWith (.DictComp kx vx gens scope pos) (some (.Name x p)) line env = pure (sc.lookup x == some .local && p.line == pos.line && !(scope.names.any fun (n, k) => n == x && (k == .local || k == .cell))) := by
  have e : swapsWith (.DictComp kx vx gens scope pos) (some (.Name x p)) line env = pure (env.blockKind == .function && env.kindOf x == some .local && p.line == pos.line && !(scope.names.any fun (n, k) => n == x && (k == .local || k == .cell))) := rfl
  rw [e, h.kindOf]
  unfold Env.blockKind
  rw [h.kind]; rfl
theorem WS.assignDC {kx vx t iter : Expr} {ifs : List Expr} {scope : Scope} {pos p p' : Pos} {x : Str}
    (h : WI G k sc σ t iter μ fun items hid μ1 => items.length ≤ 1000000 ∧ WDC G k (relabelN sc scope.names) kx vx t ifs (fun ys μ2 => KB .next (setS σ x (.dict ys)) (hid ++ μ2)) items (capF (relabelN sc scope.names) σ) [] μ1)
    (hx : isOwn sc x = true) (hw : (sc.lookup x == some .local && p'.line == pos.line && !(scope.names.any fun (n, k) => n == x && (k == .local || k == .cell))) = true)
    (hok : compOk sc scope.names = true) (hnames : compNames scope.names = true) (hkind : scope.kind = .function)
    (hs : ∀ env x, foldedSetIterable iter env x = pure x) : WS G k sc σ (.Assign [.Name x p'] (.DictComp kx vx [⟨t, iter, ifs, 0⟩] scope pos) p) μ KB := fun env φ s I E => by
  rw [exec_Assign_Name_used _ _ _ _ (by rw [swaps_dict E.ok, hw])]
  refine wpAny_bind (wpAny_standAt (wpAny_bind ?_))
  rw [arm_evalThenUse_DictComp]
  refine wpAny_bind (dictcomp_core (use := some _) (K := fun d μ1 => KB .next (setS σ x d) μ1) h hok hkind (compNames_of hnames) hs I E fun acc C s' hc => used_of hx E hc fun v s'' hp => ?_)
  exact wpAny_pure (wpAny_pure hp)
end
section
variable {G : Gr} {k : Nat} {φ φ' : Fs} {μ μ' μ0 F : Mu} {s s' : Shared} {sc scC : Sc} {σ σ' : Sg} {env : Env} {K K' : D → Mu → Prop} {KT KT' : Bool → Mu → Prop} {KB KB' : Fl → Sg → Mu → Prop}
theorem V.typeS {x : Str} (h : K (.val (.type "str")) μ) : WCv G k (.type "type") [.str x] [] μ K := fun φ s vs kv I r0 rk => by
  obtain ⟨v, rfl, r⟩ := rs1 r0
  obtain rfl := kw_nil rk
  obtain ⟨t, rfl⟩ := R.str_iff.mp r
  exact call_type_of (Tx := "str") rfl (by decide) (Post.of (.refl I) (.val _) h)
theorem V.typeL {a : Addr} {xs : List D} (hm : Has μ a (.list xs)) (h : K (.val (.type "list")) μ) : WCv G k (.type "type") [.loc a] [] μ K := fun φ s vs kv I r0 rk => by
  obtain ⟨v, rfl, r⟩ := rs1 r0
  obtain rfl := kw_nil rk
  rw [R.val_iff] at r; subst r
  obtain ⟨vs, n, ho, ra⟩ := I.cells _ hm.mem
  exact call_type_of (Tx := "list") ⟨_, ho, rfl⟩ (by decide) (Post.of (.refl I) (.val _) h)
theorem V.isT {a b : String} (h : K (.bool (Value.type a == Value.type b)) μ) : WV2 G k (.val (.type a)) (.val (.type b)) μ (compareOp .Is) K := fun φ s v1 v2 I r1 r2 => by
  rw [R.val_iff] at r1 r2; subst r1 r2
  exact wpAny_bind (wpAny_pure (wpAny_pure (Post.of (.refl I) (.bool _) h)))
theorem V.isNotT {a b : String} (h : K (.bool (!(Value.type a == Value.type b))) μ) : WV2 G k (.val (.type a)) (.val (.type b)) μ (compareOp .IsNot) K := fun φ s v1 v2 I r1 r2 => by
  rw [R.val_iff] at r1 r2; subst r1 r2
  exact wpAny_bind (wpAny_pure (wpAny_pure (Post.of (.refl I) (.bool _) h)))
theorem V.isiT {n : Int} (h : K (.bool false) μ) : WCv G k (.builtin "isinstance") [.int n, .val (.type "tuple")] [] μ K := fun φ s vs kv I r0 rk => by
  obtain ⟨v, w, rfl, r, r'⟩ := rs2 r0
  obtain rfl := kw_nil rk
  obtain ⟨t, rfl⟩ := R.int_iff.mp r
  rw [R.val_iff] at r'; subst r'
  exact IsiPair.int_tuple (Post.of (Step.toks I _) (.bool _) h)
theorem T.none (h : KT false μ) : WTr G k .none μ KT := fun φ s v I r => by
  obtain rfl := R.none_iff.mp r
  exact wpAny_pure ⟨φ, μ, .refl I, h⟩
end
namespace FP
theorem plainAttrs_pat : PlainAttrs "re.Pattern" :=
  ⟨⟨"object.__getattribute__", by rw [typeLookup_type, builtinLookup_eq_fast]; kernel_rfl, by decide +kernel⟩, by rw [typeLookup_type, builtinLookup_eq_fast]; kernel_rfl⟩
theorem slot_pat_search : Slot "re.Pattern" "search" "re.Pattern.search" :=
  .of (owner := "re.Pattern") (n := "search") (by rw [typeLookup_type, builtinLookup_eq_fast]; kernel_rfl) (by decide +kernel) (by decide +kernel) (by decide +kernel)
    (by first | exact .inl (by decide +kernel) | exact .inr (by decide +kernel)) (by rw [isSubtype_type]; kernel_rfl)
theorem entry_pat_search : entryFor table "re.Pattern.search" = some Builtin.«re.Pattern.search» := entryFor_of_tree (by kernel_rfl)
theorem args_pat_search (a b : Value) : argsOk "re.Pattern.search" ⟨[a, b], []⟩ := by unfold argsOk; kernel_rfl
theorem type_pat_search : typeOf (.builtin "re.Pattern.search") = pure (.type "method_descriptor") := by
  show builtinType _ = _; rw [builtinType_eq_fast]; kernel_rfl
end FP
section
variable {G : Gr} {k : Nat} {φ φ' : Fs} {μ μ' μ0 F : Mu} {s s' : Shared} {sc scC : Sc} {σ σ' : Sg} {env : Env} {K K' : D → Mu → Prop} {KT KT' : Bool → Mu → Prop} {KB KB' : Fl → Sg → Mu → Prop}
noncomputable def isPat (K : Frag) (a : Addr) : Bool := match K.lookup a with
  | some ⟨.type "re.Pattern", none, _, _⟩ => true
  | _ => false
theorem pat_at {a : Addr} (h : isPat G.K a = true) : ∃ o, G.hB.get? a = some o ∧ o.cls = .type "re.Pattern" ∧ o.dict = none := by
  unfold isPat at h
  split at h
  · rename_i e; exact ⟨_, G.KX _ _ e, rfl, rfl⟩
  · cases h
theorem M.pat {a : Addr} {KM : Value → List D → Mu → Prop} (hp : isPat G.K a = true) (h : KM (.builtin "re.Pattern.search") [.val (.ref a)] μ) : WM G k (.val (.ref a)) "search" μ KM := fun φ s v pl I r => by
  rw [R.val_iff] at r; subst r
  obtain ⟨o, ho, hc, hd⟩ := pat_at hp
  exact getMethod_builtin (T := "re.Pattern") ⟨_, I.keep _ _ ho, hc⟩ FP.plainAttrs_pat FP.slot_pat_search FP.type_pat_search (fun b e => by cases e; exact ⟨_, I.keep _ _ ho, hd⟩) ⟨_, φ, μ, .refl I, .cons (.val _) .nil, (Keeps.builtin _).at I, h⟩
theorem V.search {a : Addr} {x : Str} (hp : isPat G.K a = true) (hx : ∀ t, peek G.K ⟨G.prog, G.w.params⟩ (Builtin.«re.Pattern.search» ⟨[.ref a, .str x t], []⟩) = some (.done (.ret .none))) (h : K .none μ) : WCv G k (.builtin "re.Pattern.search") [.val (.ref a), .str x] [] μ K := fun φ s vs kv I r0 rk => by
  obtain ⟨v, w, rfl, r, r'⟩ := rs2 r0
  obtain rfl := kw_nil rk
  rw [R.val_iff] at r; subst r
  obtain ⟨t, rfl⟩ := R.str_iff.mp r'
  obtain ⟨o, ho, hc, hd⟩ := pat_at hp
  refine wpAny_call (codeAny_call_builtin FP.slot_pat_search.plain FP.entry_pat_search (FP.slot_pat_search.check _ _ _ _ _ _ _ _ ⟨_, I.keep _ _ ho, hc⟩ (FP.args_pat_search _ _) ?_))
  exact (Looks.of_peek (M := G.M) I.KX (hx t)).here (Post.of (.refl I) .none h)
end
namespace FC
theorem slot_ci_next : Slot "callable_iterator" "__next__" "callable_iterator.__next__" :=
  .of (owner := "callable_iterator") (n := "__next__") (by rw [typeLookup_type, builtinLookup_eq_fast]; kernel_rfl) (by decide +kernel) (by decide +kernel) (by decide +kernel)
    (by first | exact .inl (by decide +kernel) | exact .inr (by decide +kernel)) (by rw [isSubtype_type]; kernel_rfl)
theorem slot_ci_iter : Slot "callable_iterator" "__iter__" "callable_iterator.__iter__" :=
  .of (owner := "callable_iterator") (n := "__iter__") (by rw [typeLookup_type, builtinLookup_eq_fast]; kernel_rfl) (by decide +kernel) (by decide +kernel) (by decide +kernel)
    (by first | exact .inl (by decide +kernel) | exact .inr (by decide +kernel)) (by rw [isSubtype_type]; kernel_rfl)
theorem entry_ci_next : entryFor table "callable_iterator.__next__" = some Builtin.«callable_iterator.__next__» := entryFor_of_tree (by kernel_rfl)
theorem entry_ci_iter : entryFor table "callable_iterator.__iter__" = some Builtin.«dict_keyiterator.__iter__» :=
  entryFor_alias (id' := "dict_keyiterator.__iter__") (by kernel_rfl) rfl (by decide +kernel) (by kernel_rfl)
theorem args_ci_next (a : Value) : argsOk "callable_iterator.__next__" ⟨[a], []⟩ := by unfold argsOk; kernel_rfl
theorem args_ci_iter (a : Value) : argsOk "callable_iterator.__iter__" ⟨[a], []⟩ := by unfold argsOk; kernel_rfl
theorem entry_iter : entryFor table "iter" = some Builtin.«iter» := entryFor_of_tree (by kernel_rfl)
theorem kind_iter : builtinKind "iter" = none := by decide +kernel
theorem plain_iter : plainId "iter" = true := by decide +kernel
theorem args_iter2 (a b : Value) : argsOk "iter" ⟨[a, b], []⟩ := by unfold argsOk; kernel_rfl
theorem lk_method_call : typeLookup (.type "method") "__call__" = pure (some (.builtin "method.__call__")) := by rw [typeLookup_type, builtinLookup_eq_fast]; kernel_rfl
end FC
theorem wpAny_callBorrowed {M : Model} {A : Around} {E : Value → Shared → Prop} {s : Shared} {f : Value} {pos : List Value} {Q : Value → Shared → Prop}
    (hc : codeAny M A (.call f ⟨pos, []⟩) (fun r s' => match r with | .ok (.ret v) => Q v s' | .ok _ => False | .error e => E e s') s) :
    wpAny M A (callBorrowed f pos) Q E s := fun Γ p hΓ => by
  have h := hc _ p rfl (hΓ.enter (.call f ⟨pos, []⟩) none p (by intro x; cases x))
  unfold callBorrowed
  rw [Sem.wp_call]
  refine (congrArg (fun R => wpCode M (Γ.enter (.call f ⟨pos, []⟩) none p) R p s) ?_).mp h
  funext r s'
  cases r with
  | error e => rfl
  | ok f => cases f <;> rfl
noncomputable abbrev ciObj (a b c : Value) : Obj := { cls := .type "callable_iterator", data := .fields #[a, b, c] }
section
variable {G : Gr} {k : Nat} {φ φ' : Fs} {μ μ' μ0 F : Mu} {s s' : Shared} {sc scC : Sc} {σ σ' : Sg} {env : Env} {K K' : D → Mu → Prop} {KT KT' : Bool → Mu → Prop} {KB KB' : Fl → Sg → Mu → Prop}
theorem V.iter2 {f : Addr} {d : D} {x : Str} (h : ∀ I, K (.loc I) ((I, .fields "callable_iterator" [.bound f d, .str x, .bool false]) :: μ)) : WCv G k (.builtin "iter") [.bound f d, .str x] [] μ K := fun φ s vs kv I r0 rk => by
  obtain ⟨v, w, rfl, r, r'⟩ := rs2 r0
  obtain rfl := kw_nil rk
  obtain ⟨a, vs, rfl, ho, rs⟩ := R.bound_iff.mp r
  refine call_function_entry FC.kind_iter FC.plain_iter FC.entry_iter (FC.args_iter2 _ _) ?_
  unfold Builtin.«iter»
  refine wpAny_bind (m := someArgs "iter" 1 2 _) (wpAny_pure ?_)
  dsimp only
  have hT : s.TypeIs (.ref a) "method" := ⟨_, I.sub _ _ ho, rfl⟩
  refine wpAny_bind (wpAny_specialOf hT FC.lk_method_call ?_)
  simp only [Option.isNone_some, Bool.false_eq_true, if_false]
  refine wpAny_bind (wpAny_rule (wpAny_bind (wpAny_newObj_type (wpAny_pure ⟨_, rfl, ?_⟩))))
  have hn := fresh_none s (Nat.le_refl s.heap.objs.size)
  have st := Step.cell (X := []) (t := s.toks) (c := .fields "callable_iterator" [.bound f d, .str x, .bool false]) I hn (fun b o e => Heap.get?_push_of_some (ciObj (.ref a) w (.bool false)) e) ⟨[.ref a, w, .bool false], Heap.get?_push_size _ rfl, .cons r (.cons r' (.cons (.bool _) .nil))⟩
  exact ⟨_, _, _, st, .val _, h _⟩
noncomputable def WNext (G : Gr) (k : Nat) (I : Addr) (μ : Mu) (K : Option D → Mu → Prop) : Prop :=
  ∀ φ s, Inv G φ μ s → wpAny G.M (Lv k) (pyNext (.ref I)) (fun r s' => ∃ od φ' μ', Step G [] φ μ s φ' μ' s' ∧ (match r, od with | none, none => True | some v, some d => R G φ' v d | _, _ => False) ∧ K od μ') Nev s
theorem stop_next {I : Addr} {a b c : Value} {A : Around} {Q : Option Value → Shared → Prop} {B : Sem Fin} (hA : A.handled = none) (ho : s.heap.get? I = some (ciObj a b c)) (hB : Builtin.«callable_iterator.__next__» ⟨[.ref I], []⟩ = B)
    (h : wpAny G.M A.in1 B (fun fin s' => ∃ v, fin = .done (.ret v) ∧ Q (some v) s') (fun e s' => s'.TypeIs e "StopIteration" ∧ Q none s') s) : wpAny G.M A (pyNext (.ref I)) Q Nev s := by
  have hT : s.TypeIs (.ref I) "callable_iterator" := ⟨_, ho, rfl⟩
  unfold pyNext
  refine wpAny_bind (wpAny_attempt (wpAny_callSpecial?_slot (name := Str.ofString "__next__") hT FC.slot_ci_next (wpAny_call_entry FC.slot_ci_next hT FC.entry_ci_next ?_ (FC.args_ci_next _))))
  rw [hB]
  refine wpAny_mono h (fun fin s' ⟨v, e, hv⟩ => ⟨v, e, wpAny_pure hv⟩) (fun e s' ⟨hT', hq⟩ => ?_)
  exact wpAny_bind (wpAny_isInstance (T := "StopIteration") (b := true) hT' isSubtype_stop (wpAny_pure hq))
theorem wpAny_stop {α : Type} {A : Around} {Q : α → Shared → Prop} {E : Value → Shared → Prop} (hA : A.handled = none) (h : ∀ h' e, (∀ b o, s.heap.get? b = some o → h'.get? b = some o) → ({ s with heap := h' } : Shared).TypeIs e "StopIteration" → E e { s with heap := h' }) : wpAny G.M A (Builtin.SmallTypes.stopIteration : Sem α) Q E s := by
  unfold Builtin.SmallTypes.stopIteration
  refine wpAny_bind ?_
  simp only [newExc, newTuple]
  refine wpAny_bind (wpAny_newObj_type ?_ (by size_fits))
  refine wpAny_bind (m := firstArgMember _ _) (wpAny_of_eq (a := Value.none) (by first | rfl | (simp only [firstArgMember]; rfl)) ?_)
  refine wpAny_newObj_type ?_ (by size_fits)
  simp only [raiseNew]
  refine wpAny_bind (wpAny_handled ?_)
  rw [hA]
  refine wpAny_bind (wpAny_pure (wpAny_throw ?_))
  exact h _ _ (fun b o e => Heap.get?_push_of_some _ (Heap.get?_push_of_some _ e)) ⟨_, Heap.get?_push_size _ rfl, rfl⟩
theorem looks_borrow {h : Heap} {a f : Addr} {v : Value} {fd : FuncData} {of : Obj} (ho : h.get? a = some (methodObj (.ref f) v)) (hf : h.get? f = some of) (hfd : of.data = .func fd) : Looks G.M h (borrowsExactly (.ref a)) true := by
  unfold borrowsExactly
  refine (Looks.ld (part := none) ho).andThen ?_
  dsimp only
  rw [if_pos (by rfl)]
  refine (Looks.ld (part := none) hf).andThen ?_
  rw [hfd]
  exact .now
inductive LiveR (G : Gr) (φ : Fs) (μ : Mu) (s : Shared) (I f : Addr) (x : Str) (KQ : Str → Mu → Prop) (r : Result) (s' : Shared) : Prop where
  | mk (y : Str) (u t' : Tok) (a' : Addr) (w' : Value) (φ' : Fs) (μ' : Mu) (e : r = .ok (.ret (.str y u))) (st : Step G [] φ μ s φ' μ' s') (rv : R G φ' (.str y u) (.str y)) (ho' : s'.heap.get? I = some (ciObj (.ref a') (.str x t') (.bool false))) (hoa' : φ' a' = some (methodObj (.ref f) w')) (hq : KQ y μ')
theorem live_inv {I f : Addr} {d : D} {x : Str} {KQ : Str → Mu → Prop} {r : Result} {s' : Shared} (z : PostC G φ μ s (fun r μ1 => ∃ y, r = .str y ∧ Has μ1 I (.fields "callable_iterator" [.bound f d, .str x, .bool false]) ∧ KQ y μ1) r s') : LiveR G φ μ s I f x KQ r s' := by
  cases r with
  | error e => exact z.elim
  | ok fl =>
    cases fl <;> first | exact z.elim | skip
    obtain ⟨d', φ', μ', st, rv, y, hy, hm', hq⟩ := z
    subst hy
    obtain ⟨u, rfl⟩ := R.str_iff.mp rv
    obtain ⟨vs', ho', rs'⟩ := st.inv.cells _ hm'.mem
    obtain ⟨v1', v2', v3', rfl, r1', r2', r3'⟩ := rs3 rs'
    obtain rfl := R.bool_iff.mp r3'
    obtain ⟨t', rfl⟩ := R.str_iff.mp r2'
    obtain ⟨a', w', rfl, hoa', _⟩ := R.bound_iff.mp r1'
    exact ⟨y, u, t', a', w', φ', μ', rfl, st, rv, ho', hoa', hq⟩
theorem N.live {I f : Addr} {d : D} {x : Str} {fd : FuncData} {KN : Option D → Mu → Prop} (hk : k < 40) (hfd : fdIn G.K f = some fd) (hm : Has μ I (.fields "callable_iterator" [.bound f d, .str x, .bool false]))
    (h : WC G k (.ref f) [d] [] μ fun r μ1 => ∃ y, r = .str y ∧ Has μ1 I (.fields "callable_iterator" [.bound f d, .str x, .bool false]) ∧
      (if x == y then ∃ μ2, Chg μ1 I (.fields "callable_iterator" [.bound f d, .str x, .bool false]) (.fields "callable_iterator" [.none, .none, .bool true]) μ2 ∧ KN none μ2 else KN (some (.str y)) μ1)) : WNext G (k + 1) I μ KN := fun φ s J => by
  obtain ⟨vs, ho, rs⟩ := J.cells _ hm.mem
  obtain ⟨v1, v2, v3, rfl, r1, r2, r3⟩ := rs3 rs
  obtain rfl := R.bool_iff.mp r3
  obtain ⟨t, rfl⟩ := R.str_iff.mp r2
  obtain ⟨a, w, rfl, hoa, rw'⟩ := R.bound_iff.mp r1
  have hf : ∃ of, G.hB.get? f = some of ∧ of.data = .func fd := by
    unfold fdIn at hfd
    split at hfd
    · rename_i e; cases hfd; exact ⟨_, G.KX _ _ e, rfl⟩
    · cases hfd
  obtain ⟨of, hof, hofd⟩ := hf
  refine stop_next rfl ho rfl ?_
  unfold Builtin.«callable_iterator.__next__»
  refine wpAny_bind (m := slotArgs "__next__" 0 _) (wpAny_pure ?_)
  refine wpAny_bind (wpAny_field ho rfl (x := .bool false) rfl ?_)
  dsimp only
  rw [if_neg (by decide)]
  refine wpAny_bind (wpAny_field ho rfl (x := .ref a) rfl ?_)
  refine wpAny_bind (wpAny_attempt ?_)
  unfold callOutOfASlot
  refine wpAny_bind ((looks_borrow (J.sub _ _ hoa) (J.keep _ _ hof) hofd).here ?_)
  rw [if_pos rfl]
  refine wpAny_callBorrowed (method_call (J.sub _ _ hoa) ?_)
  refine codeAny_le (codeAny_mono (h φ s [w] [] J (.cons rw' .nil) ⟨rfl, .nil⟩) fun r s' z => ?_) (lv_in1 hk)
  obtain ⟨y, u, t', a', w', φ', μ', rfl, st, rv, ho', hoa', hq⟩ := live_inv z
  refine wpAny_bind (wpAny_field ho' rfl (x := .bool false) rfl ?_)
  try dsimp only
  rw [if_neg (by decide)]
  refine wpAny_bind (wpAny_field ho' rfl (x := .str x t') rfl ?_)
  refine wpAny_bind (wpAny_holding (PyProof.Rows.eqBool_str ?_))
  cases hxy : x == y with
  | false =>
    rw [hxy] at hq
    rw [if_pos (by rfl)]
    exact wpAny_bind (wpAny_pure (wpAny_pure ⟨_, rfl, some (.str y), φ', μ', st, rv, hq⟩))
  | true =>
    rw [hxy] at hq
    rw [if_neg (by decide)]
    obtain ⟨μ2, hc, hq⟩ := hq
    refine wpAny_bind (wpAny_rule (wpAny_bind ?_))
    k_node
    refine wpAny_bind (wpAny_field ho' rfl (x := .ref a') rfl ?_)
    refine wpAny_bind ?_
    unfold slotLetsGo
    dsimp only
    refine wpAny_bind ((looks_borrow (st.inv.sub _ _ hoa') (st.inv.keep _ _ hof) hofd).here ?_)
    rw [if_pos rfl]
    refine wpAny_pure (wpAny_bind (wpAny_setField_rec ho' (by simp) fun h1 e1 s1 => wpAny_bind (wpAny_setField_rec e1 (by simp) fun h2 e2 s2 => wpAny_setField_rec e2 (by simp) fun h3 e3 s3 => ?_)))
    have stc : Step G [] φ' μ' s' φ' μ2 { s' with heap := h3, toks := s'.toks } := Step.upd st.inv hc.upd ((s1.trans s2).trans s3).extBut ⟨[.none, .none, .bool true], by simpa using e3, .cons .none (.cons .none (.cons (.bool _) .nil))⟩
    refine wpAny_stop rfl fun h' e hk' hT => ⟨hT, none, φ', μ2, ?_, trivial, hq⟩
    exact (st.trans stc).trans (Step.grow (s := { s' with heap := h3, toks := s'.toks }) stc.inv hk')
theorem iter_self {I : Addr} {a b c : Value} {A : Around} {Q : Value → Shared → Prop} {E : Value → Shared → Prop} (ho : s.heap.get? I = some (ciObj a b c)) (h : Q (.ref I) s) : wpAny G.M A (pyIter (.ref I)) Q E s := by
  have hT : s.TypeIs (.ref I) "callable_iterator" := ⟨_, ho, rfl⟩
  refine wpAny_pyIter_slot hT FC.slot_ci_iter (wpAny_call_entry FC.slot_ci_iter hT FC.entry_ci_iter ?_ (FC.args_ci_iter _))
  show wpAny _ _ (ret (.ref I)) _ _ s
  exact wpAny_pure ⟨_, rfl, "callable_iterator", _, hT, FC.slot_ci_next.lookup, h⟩
theorem WS.forN {x : Str} {xp : Pos} {iter : Expr} {body : List Stmt} {p : Pos} (J : Nat → Sg → Mu → Prop) (I : Addr) (n : Nat)
    (h : WE G k sc σ iter μ fun d μ1 => d = .loc I ∧ (∃ d1 d2 d3, Has μ1 I (.fields "callable_iterator" [d1, d2, d3])) ∧ J n σ μ1)
    (turn : ∀ n σ μ, J n σ μ → WNext G k I μ fun r μ1 => match r with
      | none => KB .next σ μ1
      | some d => WA G k sc σ (.Name x xp) d μ1 fun σ2 μ2 => WB G k sc σ2 body μ2 fun fl σ3 μ3 => match fl with
        | .next => ∃ m, m < n ∧ J m σ3 μ3
        | .cont => ∃ m, m < n ∧ J m σ3 μ3
        | .brk => KB .next σ3 μ3
        | .ret d => KB (.ret d) σ3 μ3)
    (hs : ∀ env x, foldedSetIterable iter env x = pure x := by intro _ _; rfl) : WS G k sc σ (.For (.Name x xp) iter body [] p) μ KB := fun env φ s I0 E0 => by
  refine wpAny_For ?_ (hs env)
  refine wpAny_mono (h env φ s I0 E0) (fun v s0 ⟨d, φ0, μ0, st0, r, hd, ⟨d1, d2, d3, hm⟩, hJ⟩ => ?_) nev
  subst hd
  rw [R.val_iff] at r; subst r
  obtain ⟨vs, ho, rs⟩ := st0.inv.cells _ hm.mem
  obtain ⟨v1, v2, v3, rfl, -, -, -⟩ := rs3 rs
  refine iter_self ho ?_
  obtain ⟨stx0, E1⟩ := E0.stepX st0
  refine codeAny_forLoop_any (LpI G sc env φ μ s J) (fun m s2 hI => ?_) n ⟨σ, φ0, μ0, hJ, stx0, E1⟩
  obtain ⟨σ2, φ2, μ2, hJ2, st2, E2⟩ := hI
  refine wpAny_mono (turn m σ2 μ2 hJ2 φ2 s2 st2.inv) (fun r s3 ⟨od, φ3, μ3, st3, hr, hK⟩ => ?_) nev
  obtain ⟨stx3, E3⟩ := E2.stepX st3
  cases r with
  | none =>
    cases od <;> first | exact hr.elim | skip
    exact wpAny_execs_nil ⟨.next, σ2, φ3, μ3, st2.trans stx3, E3, trivial, hK⟩
  | some v =>
    cases od <;> first | exact hr.elim | skip
    rename_i d
    refine wpAny_pure ?_
    refine wpAny_mono (hK env φ3 s3 v st3.inv E3 hr) (fun _ s4 ⟨σ4, φ4, μ4, st4, E4, hB⟩ => ?_) nev
    refine wpAny_mono (hB env φ4 s4 st4.inv E4) (fun f s5 ⟨fl, σ5, φ5, μ5, st5, E5, fr, h5⟩ => ?_) nev
    have st := ((st2.trans stx3).trans st4).trans st5
    cases fr.i <;> first
      | (obtain ⟨m', hm', hJ'⟩ := h5; exact ⟨m', hm', σ5, φ5, μ5, hJ', st, E5⟩)
      | exact ⟨.next, σ5, φ5, μ5, st, E5, trivial, h5⟩
      | exact ⟨.ret _, σ5, φ5, μ5, st, E5, fr, h5⟩
end
theorem Has.chg {μ : Mu} {a : Addr} {c c' : Cell} (h : Has μ a c) : ∃ μ', Chg μ a c c' μ' := by
  induction h with
  | head => exact ⟨_, .head⟩
  | tail _ ih => obtain ⟨μ', h⟩ := ih; exact ⟨_, .tail h⟩
theorem Has.self {μ : Mu} {a : Addr} {c : Cell} (h : Has μ a c) : Chg μ a c c μ := by
  induction h with
  | head => exact .head
  | tail _ ih => exact .tail ih
section
variable {G : Gr} {k : Nat} {φ φ' : Fs} {μ μ' μ0 F : Mu} {s s' : Shared} {sc scC : Sc} {σ σ' : Sg} {env : Env} {K K' : D → Mu → Prop} {KT KT' : Bool → Mu → Prop} {KB KB' : Fl → Sg → Mu → Prop}
noncomputable def WBe (G : Gr) (k : Nat) (sc : Sc) (env : Env) (σ : Sg) (b : List Stmt) (μ : Mu) (K : Fl → Sg → Mu → Prop) : Prop :=
  ∀ φ s, Inv G φ μ s → EnvR G φ μ sc σ env s.heap → wpAny G.M (Lv k) (execs b env) (PostB G sc env φ μ s K) Nev s
noncomputable def WSe (G : Gr) (k : Nat) (sc : Sc) (env : Env) (σ : Sg) (b : Stmt) (μ : Mu) (K : Fl → Sg → Mu → Prop) : Prop :=
  ∀ φ s, Inv G φ μ s → EnvR G φ μ sc σ env s.heap → wpAny G.M (Lv k) (exec b env) (PostB G sc env φ μ s K) Nev s
noncomputable def WEe (G : Gr) (k : Nat) (sc : Sc) (env : Env) (σ : Sg) (e : Expr) (μ : Mu) (K : D → Mu → Prop) : Prop :=
  ∀ φ s, Inv G φ μ s → EnvR G φ μ sc σ env s.heap → wpAny G.M (Lv k) (eval e env) (Post G φ μ s K) Nev s
noncomputable def seqKe (G : Gr) (k : Nat) (sc : Sc) (env : Env) (b : List Stmt) (KB : Fl → Sg → Mu → Prop) : Fl → Sg → Mu → Prop
  | .next, σ, μ => WBe G k sc env σ b μ KB
  | fl, σ, μ => KB fl σ μ
theorem WBe.of {b : List Stmt} (h : WB G k sc σ b μ KB) : WBe G k sc env σ b μ KB := fun φ s I E => h env φ s I E
theorem WSe.of {b : Stmt} (h : WS G k sc σ b μ KB) : WSe G k sc env σ b μ KB := fun φ s I E => h env φ s I E
theorem WBe.cons {st : Stmt} {b : List Stmt} (h : WSe G k sc env σ st μ (seqKe G k sc env b KB)) : WBe G k sc env σ (st :: b) μ KB := fun φ s I E => by
  refine wpAny_execs_cons (wpAny_mono (h φ s I E) (fun f s1 ⟨fl, σ1, φ1, μ1, st, E1, fr, hK⟩ => ?_) nev)
  cases fr.i <;> first
    | exact wpAny_mono (hK φ1 s1 st.inv E1) (fun f s2 h2 => PostB.trans st h2) nev
    | exact ⟨_, σ1, φ1, μ1, st, E1, fr, hK⟩
theorem seqKe.next {b : List Stmt} (h : WBe G k sc env σ b μ KB) : seqKe G k sc env b KB .next σ μ := h
theorem WSe.setattr {o e : Expr} {name : Str} {p p' : Pos} (h : WEe G k sc env σ e μ fun dv μ1 => WE G k sc σ o μ1 fun d μ2 => Ex4 fun C b ds μ3 => A5 (d = .obj C b) (Chg μ2 b (.attrs ds) (.attrs (putA ds name dv)) μ3) (storeOk G.K C name = true) (ds.length < 1000) (KB .next σ μ3))
    (hs : swapsWith e (some (.Attribute o name p')) p.line env = pure false := by rfl) : WSe G k sc env σ (.Assign [.Attribute o name p'] e p) μ KB := fun φ s I E => by
  refine plainObj_wpAny_Assign_Attribute (wpAny_mono (h φ s I E) (fun v s1 ⟨dv, φ1, μ1, st1, rv, hK⟩ => ?_) nev) hs
  refine wpAny_mono (hK env φ1 s1 st1.inv (E.step st1)) (fun ov s2 ⟨d, φ2, μ2, st2, ro, C, b, ds, μ3, hd, hc, hok, hl, hK⟩ => ?_) nev
  subst hd
  obtain ⟨a, rfl, ho⟩ := R.obj_iff.mp ro
  obtain ⟨es, n, IA, hb, re⟩ := inst_at st2.inv ho hc.has
  refine attr_store st2.inv.KX IA hb hok ?_ (by rw [re.1]; exact hl) fun t tk => ?_
  · obtain ⟨g1, g2⟩ := re.get (x := name)
    cases e : atD ds name with
    | none => rw [g2 e]; rfl
    | some d => obtain ⟨w, hw, _⟩ := g1 d e; rw [hw]; rfl
  · have st3 := Step.attr (x := a) (C := C) (t := t) (tk := tk) st2.inv hb re (rv.mono st2.le) hc
    obtain ⟨stx, E3⟩ := E.stepX ((st1.trans st2).trans st3)
    exact ⟨.next, σ, φ2, μ3, stx, E3, trivial, hK⟩
theorem WC.fnE {f : Addr} {fd : FuncData} {body : List Stmt} {as : List D} {kd ps : Sg} (hk : k < 40) (F : FnAt G f fd body)
    (hbind : ∀ φ s vs kv, Inv G φ μ s → Rs G φ vs as → Rkw G φ kv kd → ∃ bs, BindsTo s fd ⟨vs, kv⟩ bs ∧ Rkw G φ bs ps)
    (hn : (ps.map (·.1)).Nodup) (hown : (ps.map (·.1)).all (isOwn fd.scope.names) = true)
    (KF : Addr → Fl → Sg → Mu → Prop)
    (h : ∀ L, WBe G k fd.scope.names (callEnvC fd L f) ps body μ (KF L))
    (hfin : ∀ L φ (s : Shared) φ' μ' s' σ v fl, s.heap.objs.size ≤ L → Inv G φ μ s → Step G (xs (callEnvC fd L f)) φ μ s φ' μ' s' → EnvR G φ' μ' fd.scope.names σ (callEnvC fd L f) s'.heap → (∀ x ∈ xs (callEnvC fd L f), s.heap.get? x = none) → FlR G φ' (.ret v) fl → KF L fl σ μ' → Post G φ μ s K v s')
    (hret : ∀ L fl σ μ, KF L fl σ μ → ∃ d, fl = .ret d) : WC G (k + 1) (.ref f) as kd μ K := fun φ s vs kv I r rk => by
  obtain ⟨o, ho, hd⟩ := F.at_
  obtain ⟨bs, hb, rb⟩ := hbind φ s vs kv I r rk
  have hown' : ∀ y d, ps.lookup y = some d → isOwn fd.scope.names y = true := fun y d e => List.all_eq_true.mp hown y (lookup_mem_fst e)
  refine codeAny_call_function (lv_room _) (I.keep _ _ ho) hd F.co F.gen F.body (F.code.keeps I.keep) ?_
  rw [F.clo]
  refine hb _ _ _ _ (wpAny_newFunctionEnv_cells F.kind (fun x hx => ?_) fun env he s' x => ?_)
  · have : x.1 ∈ ps.map (·.1) := by rw [← rb.1]; exact List.mem_map_of_mem hx
    rcases isOwn_of (List.all_eq_true.mp hown _ this) with e | e
    · exact .inl e
    · exact .inr ⟨e, cellsFrom_some _ _ _ (.inl e)⟩
  · have he' : env = callEnvC fd s.heap.objs.size f := he
    subst he'
    obtain ⟨st, E⟩ := entered (a := f) I rfl F.gl F.bu F.kind x rb hn hown'
    refine ⟨(G.nolimit.keeps I.keep).keeps x.toInCall.keep, codeAny_func ?_⟩
    refine wpAny_le (wpAny_mono (h _ φ s' st.inv E) (fun fl s2 ⟨fl', σ2, φ2, μ2, st2, E2, fr, hK⟩ => ?_) nev) (lv_deeper hk _)
    obtain ⟨d, rfl⟩ := hret _ _ _ _ hK
    cases fl <;> first | exact fr.elim | skip
    exact hfin _ _ s _ _ _ _ _ _ (Nat.le_refl _) I (st.trans st2) E2 (fun y hy => by
      refine fresh_none s ?_
      rcases mem_xs.mp hy with rfl | ⟨n, hn⟩
      · exact Nat.le_refl _
      · exact Nat.le_of_lt (x.above n y (mem_of_lookup hn))) fr hK
theorem Step.recell {X : List Addr} {μ2 : Mu} {a : Addr} {c c' : Cell} (I : Inv G φ μ s) (hc : Chg μ a c c' μ2) (h : CellR G φ s.heap a c → CellR G φ s.heap a c') : Step G X φ μ s φ μ2 s := by
  have hk := hc.upd.keys
  refine ⟨⟨I.base, I.sub, fun p hp => ?_, fun p hp => ?_, by rw [hk]; exact I.nd, I.gens, I.os, I.dr⟩, .refl φ, fun _ _ h _ _ => h, fun _ o h => ⟨o, h⟩, fun p hp => ?_, fun _ _ h => .inl h⟩
  · rcases hc.upd.mem p hp with rfl | h1
    · exact h (I.cells _ hc.has.mem)
    · exact I.cells p h1
  · rcases hc.upd.mem p hp with rfl | h1
    · exact I.off (a, c) hc.has.mem
    · exact I.off p h1
  · have : p.1 ∈ μ2.map (·.1) := List.mem_map_of_mem hp
    rw [hk] at this
    obtain ⟨q, hq, e⟩ := List.mem_map.mp this
    exact .inl ⟨q, hq, e⟩
theorem Re.swap {es : List DictEntry} {ds ds' : List (Str × D)} (h : Re G φ es ds) (hl : ds.length = ds'.length) (hd : ∀ (i : Nat) p p', ds[i]? = some p → ds'[i]? = some p' → p.1 = p'.1 ∧ ∀ v, R G φ v p.2 → R G φ v p'.2) : Re G φ es ds' := by
  refine ⟨h.1.trans hl, fun i e p h1 h2 => ?_, fun i e p h1 h2 => ?_⟩ <;>
    (obtain ⟨hi, _⟩ := List.getElem?_eq_some_iff.mp h2
     have hi' : i < ds.length := hl ▸ hi
     obtain ⟨e1, e2⟩ := hd i ds[i] p (by simp [hi']) h2)
  · rw [← e1]; exact h.2.1 i e _ h1 (by simp [hi'])
  · exact e2 _ (h.2.2 i e _ h1 (by simp [hi']))
noncomputable def isRec (o : Obj) (q : Str) : Prop := ∃ vs t, o.data = .fields vs ∧ vs[1]? = some (.str q t)
noncomputable def codeHdChk (K : Frag) (c P : Addr) : Bool := match K.lookup c with
  | some ⟨.type "code", _, .fields vs, _⟩ => (vs[11]? == some (.ref P)) && (match vs.getD 18 .none with | .str _ _ => true | _ => false) && (match vs.getD 7 .none with | .int _ _ => true | _ => false) && (match vs.getD 9 .none with | .bool _ => true | _ => false) && (match vs.getD 10 .none with | .int _ _ => true | _ => false) && !(c == P)
  | _ => false
theorem codeHd_of {h : Heap} {c P : Addr} (X : G.K.In h) (hc : codeHdChk G.K c P = true) : CodeHd h c P ∧ isCodeTable h P := by
  unfold codeHdChk at hc
  split at hc
  · rename_i dd vs sl e
    simp only [Bool.and_eq_true, beq_iff_eq, Bool.not_eq_true', beq_eq_false_iff_ne] at hc
    obtain ⟨⟨⟨⟨⟨h1, h2⟩, h3⟩, h4⟩, h5⟩, h6⟩ := hc
    split at h2 <;> first | cases h2 | skip
    rename_i f tf e2
    split at h3 <;> first | cases h3 | skip
    rename_i fl tg e3
    split at h4 <;> first | cases h4 | skip
    rename_i b e4
    split at h5 <;> first | cases h5 | skip
    rename_i i ti e5
    exact ⟨⟨_, vs, f, tf, fl, tg, b, i, ti, X _ _ e, rfl, rfl, h1, by rw [Array.getD_eq_getD_getElem?, h1]; rfl, e2, e3, e4, e5, h6⟩, c, _, vs, X _ _ e, rfl, rfl, h1⟩
  · cases hc
theorem Inv.bat (I : Inv G φ μ s) {P : Addr} (hP : φ P = none) : s.heap.BuiltinsAt G.mg P := by
  obtain ⟨bm, o, h1, h2, h3, h4, h5, h6, h7⟩ := G.bmain
  exact ⟨bm, o, h1, h2, h3, (fun e => by rw [← e, I.base _ _ h4] at hP; cases hP), I.keep _ _ h4, h5, h6, h7⟩
theorem Inv.gl_ne (I : Inv G φ μ s) {P : Addr} (hP : φ P = none) : mainGlobals ≠ P := fun e => by
  obtain ⟨o, es, ep, ho, _⟩ := G.ng
  rw [← e, I.base _ _ ho] at hP; cases hP
noncomputable def TabOk (pos : Pos) (qual : Str) (ds : List D) : Prop := ds = [] ∨ ∃ oc, isRec oc qual ∧ ds = [.val (rawInt pos.line), .val (rawInt pos.col), .fro oc]
theorem WEe.lambda {params : Arguments} {body : Expr} {scope : Scope} {pos : Pos} {c P : Addr} {ds : List D} (hcode : env.code = .ref c) (hc : codeHdChk G.K c P = true) (hdef : defaultsOf params env = ([], []))
    (hfree : ∀ n, (n, NameKind.free) ∈ scope.names → sc.lookup n = some .cell)
    (hm : Has μ P (.tab ds)) (ht : TabOk pos (env.qual ++ "<lambda>") ds)
    (h : ∀ (o : Obj) (c' : Addr) (oc : Obj) (pm ctv : Value) ds' μ', o = kla_obj "<lambda>" (env.qual ++ "<lambda>") params body scope (clOf env scope.names []) pm c' ctv → isRec oc (env.qual ++ "<lambda>") → TabOk pos (env.qual ++ "<lambda>") ds' → Chg μ P (.tab ds) (.tab ds') μ' → K (.clo o [(c', oc)]) μ') :
    WEe G k sc env σ (.Lambda params body scope pos) μ K := fun φ s I E => by
  have hex : ∀ n, (n, NameKind.free) ∈ scope.names → ∃ c, env.cells.lookup n = some c := fun n hn => by
    obtain ⟨c, v, hc, _⟩ := E.own n (hfree n hn); exact ⟨c, hc⟩
  have hcl := closureFor_of hex
  obtain ⟨vs, hPo, rs⟩ := I.cells _ hm.mem
  have hPo : s.heap.get? P = some (tabObj vs.toArray) := hPo
  have hφP : φ P = none := I.off _ hm.mem
  refine kla_eval hdef ?_
  rcases ht with rfl | ⟨oc, hoc, rfl⟩
  · rw [Rs.nil_iff] at rs; subst rs
    refine kla_makeFunction (mg := G.mg) hcl E.ok.globals I.ng hcode (codeHd_of I.KX hc).1 hPo trivial rfl (I.gl_ne hφP) (I.bat hφP) fun c' ctv h' tk hx hge hlt hrec htb => ?_
    obtain ⟨c2, oc, vs2, t, e2, hoc, hd, hv⟩ := hrec
    cases e2
    have hn := fresh_none s hge
    have hPc : P ≠ c' := fun e => by rw [e, hn] at hPo; cases hPo
    have hne : c' ≠ P := hPc.symm
    -- the table changes, the code record is frozen, then the function
    obtain ⟨μ', hch⟩ := hm.chg (c' := .tab [.val (rawInt pos.line), .val (rawInt pos.col), .fro oc])
    have stA : Step G [] φ μ s (φ.put c' oc) μ' { s with heap := h', toks := tk } := by
      have le := Fs.put_le (o := oc) (I.none_of_new hn)
      have hin := hch.upd.isIn
      have ne : ∀ b o, φ b = some o → b ≠ P := fun b o e z => by subst z; rw [hφP] at e; cases e
      refine ⟨⟨fun b o e => le _ _ (I.base b o e), fun b o e => ?_, fun p hp => ?_, fun p hp => ?_, ?_, I.gens, I.os, I.dr⟩, le, fun b o hb hn' _ => ?_, fun b o hb => ?_, fun p hp => ?_, fun b o e => ?_⟩
      · unfold Fs.put at e
        split at e
        · rename_i z; subst z; cases e; exact hoc
        · exact hx _ _ (ne _ _ e) (I.sub _ _ e)
      · rcases hch.upd.other I.nd p hp with rfl | ⟨h1, h2⟩
        · refine ⟨[rawInt pos.line, rawInt pos.col, .ref c'], by simpa using htb, .cons (.val _) (.cons (.val _) (.cons (R.fro_iff.mpr ⟨c', rfl, Fs.put_self ..⟩) .nil))⟩
        · exact (I.cells p h1).mono le fun o e => hx _ _ h2 e
      · have : φ p.1 = none := by
          rcases hch.upd.mem p hp with rfl | h1
          · exact hφP
          · exact I.off p h1
        unfold Fs.put
        have hpc : p.1 ≠ c' := fun z => by
          have : p.1 ∈ μ'.map (·.1) := List.mem_map_of_mem hp
          rw [hch.upd.keys] at this
          obtain ⟨q, hq, e⟩ := List.mem_map.mp this
          obtain ⟨o, ho⟩ := (I.cells q hq).there
          rw [e, z, hn] at ho; cases ho
        rw [if_neg hpc]; exact this
      · rw [hch.upd.keys]; exact I.nd
      · refine hx b o (fun z => ?_) hb
        obtain ⟨q, hq, e⟩ := List.mem_map.mp hin
        exact hn' q hq (e.trans z.symm)
      · by_cases z : b = P
        · exact ⟨_, by rw [z]; exact htb⟩
        · exact ⟨o, hx b o z hb⟩
      · have : p.1 ∈ μ'.map (·.1) := List.mem_map_of_mem hp
        rw [hch.upd.keys] at this
        obtain ⟨q, hq, e⟩ := List.mem_map.mp this
        exact .inl ⟨q, hq, e⟩
      · exact (Fs.put_or e).imp_right fun z => .inl (by rw [z]; exact hn)
    have hn2 : (({ s with heap := h', toks := tk } : Shared)).heap.get? h'.objs.size = none := fresh_none { s with heap := h', toks := tk } (Nat.le_refl h'.objs.size)
    have stB := Step.frozen (X := []) (t := tk) stA.inv hn2 (fun b o e => Heap.get?_push_of_some (kla_obj "<lambda>" (env.qual ++ "<lambda>") params body scope (clOf env scope.names []) ((G.mg "__name__").getD .none) c' ctv) e) (Heap.get?_push_size _ rfl)
    refine ⟨_, _, _, stA.trans stB, R.clo_iff.mpr ⟨_, rfl, Fs.put_self .., fun p hp => ?_⟩, h _ c' oc _ ctv _ μ' rfl ⟨vs2, t, hd, hv⟩ (.inr ⟨oc, ⟨vs2, t, hd, hv⟩, rfl⟩) hch⟩
    rw [List.mem_singleton.mp hp]
    exact stB.le _ _ (Fs.put_self ..)
  · obtain ⟨v1, v2, v3, rfl, r1, r2, r3⟩ := rs3 rs
    rw [R.val_iff] at r1 r2; subst r1 r2
    obtain ⟨c', rfl, hc'⟩ := R.fro_iff.mp r3
    refine kla_makeFunctionHit (mg := G.mg) (cv := .ref c') hcl E.ok.globals I.ng hcode (codeHd_of I.KX hc).1 hPo trivial ?_ (I.bat hφP) fun ctv h' tk hk' hsz => ?_
    · simp [codeAmong, rawInt]
    · have stA : Step G [] φ μ s φ μ { s with heap := h', toks := tk } := Step.grow I hk'
      have hn2 : (({ s with heap := h', toks := tk } : Shared)).heap.get? h'.objs.size = none := fresh_none { s with heap := h', toks := tk } (Nat.le_refl h'.objs.size)
      have stB := Step.frozen (X := []) (t := tk) stA.inv hn2 (fun b o e => Heap.get?_push_of_some (kla_obj "<lambda>" (env.qual ++ "<lambda>") params body scope (clOf env scope.names []) ((G.mg "__name__").getD .none) c' ctv) e) (Heap.get?_push_size _ rfl)
      have hch := hm.self
      refine ⟨_, _, _, stA.trans stB, R.clo_iff.mpr ⟨_, rfl, Fs.put_self .., fun p hp => ?_⟩, h _ c' oc _ ctv _ _ rfl hoc (.inr ⟨oc, hoc, rfl⟩) hch⟩
      rw [List.mem_singleton.mp hp]
      exact stB.le _ _ hc'
theorem WCd.lam {o oc ocell : Obj} {ps : List (Addr × Obj)} {fd : FuncData} {e : Expr} {c' c : Addr} {x y : Str} {v : Value} {d : D} (hk : k < 40) (ho : o.data = .func fd) (hbody : fd.body = .expr e) (hco : fd.scope.isCoroutine = false) (hgen : fd.scope.isGenerator = false) (hkind : fd.scope.kind = .function)
    (hgl : fd.globals = mainGlobals) (hbu : fd.builtins = builtinsNs) (hcode : fd.code = .ref c') (hcm : (c', oc) ∈ ps) (hrec : isRec oc fd.qualname) (hclo : fd.closure = [(x, c)]) (hcl : (c, ocell) ∈ ps) (hcell : ocell.data = .cell (some v))
    (hnc : ∀ y ∈ fd.scope.names, y.2 ≠ .cell) (hxf : fd.scope.names.lookup x = some .free) (hyl : fd.scope.names.lookup y = some .local)
    (hbind : ∀ w, bindArgs fd ⟨[w], []⟩ = pure [(y, w)])
    (h : WE G k fd.scope.names [(x, .val v), (y, d)] e μ K) : WCd G (k + 1) (.clo o ps) [d] [] μ K := fun φ s f vs kv I rf r rk => by
  obtain rfl := kw_nil rk
  obtain ⟨a, rfl, hao, hps⟩ := R.clo_iff.mp rf
  obtain ⟨w, rfl, rw'⟩ := rs1 r
  have hcφ := hps _ hcl
  have hc'φ := hps _ hcm
  obtain ⟨rvs, rt, hr1, hr2⟩ := hrec
  refine wpAny_call ?_
  refine kla_callFunE (lv_room _) (I.sub _ _ hao) ho hco hgen hbody ⟨c', oc, rvs, rt, hcode, I.sub _ _ hc'φ, hr1, hr2⟩ ?_
  rw [hbind]
  refine wpAny_pure (wpAny_newFunctionEnv hnc (fun z hz => ?_) (fun h₁ hns hsb => ⟨((G.nolimit).keeps I.keep).fresh _ hsb, ?_⟩) hkind)
  · simp only [List.mem_singleton] at hz; subst hz; exact hyl
  have hn := fresh_none s (Nat.le_refl s.heap.objs.size)
  have hk₁ : ∀ b o, s.heap.get? b = some o → h₁.get? b = some o := fun b o e => hsb.extBut b o (Nat.ne_of_lt (Heap.lt_size e)) (Heap.get?_push_of_some _ e)
  have st : Step G [s.heap.objs.size] φ μ s φ μ { s with heap := h₁, toks := s.toks + [(y, w)].length } := Step.grow I hk₁
  have ap := new_apart (X := []) I (fun _ h => nomatch h) hn
  have hxy : y ≠ x := fun z => by rw [z, hxf] at hyl; cases hyl
  have hcc : ∀ {z c2}, fd.closure.lookup z = some c2 → z = x ∧ c2 = c := fun {z c2} hz => by
    rw [hclo, List.lookup_cons] at hz
    cases q : z == x with
    | true => rw [q] at hz; cases hz; exact ⟨beq_iff_eq.mp q, rfl⟩
    | false => rw [q] at hz; cases hz
  have hic : h₁.IsCell c (some v) := ⟨ocell, hk₁ _ _ (I.sub _ _ hcφ), hcell⟩
  have E : EnvR G φ μ fd.scope.names [(x, .val v), (y, d)] (newEnv fd.scope s.heap.objs.size fd.globals fd.closure (fd.qualname ++ ".<locals>.") (some a) fd.code none fd.builtins) h₁ := by
    refine ⟨⟨hkind, rfl, hgl, hbu⟩, ap.1, ap.2.1, ⟨_, hns, fun z d2 hz hd => ?_⟩, fun z d2 hz hd => ?_, fun z hz => ?_, fun z c2 hz => ?_, fun z z2 c2 hz hz2 => ?_⟩
    · rw [List.lookup_cons] at hd
      cases q : z == x with
      | true =>
        rw [beq_iff_eq] at q; subst q
        rw [hxf] at hz; cases hz
      | false =>
        rw [q, List.lookup_cons] at hd
        cases q2 : z == y with
        | true =>
          rw [q2] at hd; cases hd
          exact ⟨w, by simp [List.lookup, q2], rw'⟩
        | false => rw [q2] at hd; cases hd
    · rw [List.lookup_cons] at hd
      cases q : z == x with
      | true =>
        rw [q] at hd; cases hd
        rw [beq_iff_eq] at q; subst q
        exact ⟨c, v, by show fd.closure.lookup z = some c; rw [hclo]; simp [List.lookup], hic, .val _⟩
      | false =>
        rw [q, List.lookup_cons] at hd
        cases q2 : z == y with
        | true =>
          rw [beq_iff_eq] at q2; subst q2
          rw [hyl] at hz; rcases hz with hz | hz <;> cases hz
        | false => rw [q2] at hd; cases hd
    · exact absurd rfl (hnc (z, .cell) (mem_of_lookup hz))
    · obtain ⟨-, rfl⟩ := hcc hz
      exact ⟨(fun p hp e => by have := I.off p hp; rw [e, hcφ] at this; cases this), some v, hic⟩
    · rw [(hcc hz).1, (hcc hz2).1]
  refine kla_codeExpr (wpAny_le (wpAny_mono (h _ φ _ st.inv E) (fun u s' ⟨d', φ', μ', st', r', hK⟩ => ?_) nev) (lv_deeper hk _))
  show Post G φ μ s K u s'
  exact ⟨d', φ', μ', (st.trans (st'.more fun _ h => nomatch h)).drop (fun z hz => by rw [List.mem_singleton.mp hz]; exact hn), r', hK⟩
theorem WCd.lv {j : Nat} {f : D} {as : List D} {kd} (h : WCd G j f as kd μ K) (hj : j ≤ k) : WCd G k f as kd μ K := fun φ s f vs kv I rf r rk => wpAny_le (h φ s f vs kv I rf r rk) (lv_le hj)
theorem WCd.framed {f : D} {as : List D} {kd} (hp : μ.Perm (F ++ μ0)) (h : WCd G k f as kd μ0 fun d μ1 => K d (F ++ μ1)) : WCd G k f as kd μ K := fun φ s f vs kv I rf r rk =>
  wpAny_mono (h φ s f vs kv (I.perm hp.symm).right rf r rk) (fun _ _ ⟨d, φ', μ', st, rv, hK⟩ => ⟨d, φ', F ++ μ', st.framed hp I, rv, hK⟩) nev
end
theorem setItem_all {prog : Program} {w : World} {A : Around} {s : Shared} {l sl b : Addr} {xs ys : Array Value} {n m : Nat} {Q : Unit → Shared → Prop} {E : Value → Shared → Prop} (hl : s.heap.get? l = some (listOf xs n))
    (hs : s.heap.IsSliceOf sl .none .none .none) (hb : s.heap.get? b = some (listOf ys m)) (hne : (l == b) = false) (hx : xs.size ≤ 100000) (hy : ys.size ≤ 100000)
    (hQ : ∀ h' n', h'.get? l = some (listOf ys n') → Heap.SameBut l s.heap h' → Q () { s with heap := h' }) :
    wpAny (model prog w) A (setItem (.ref l) (.ref sl) (.ref b)) Q E s := by
  have hli : s.heap.IsList l xs := ⟨_, hl, rfl, _, rfl⟩
  have hbi : s.heap.IsList b ys := ⟨_, hb, rfl, _, rfl⟩
  obtain ⟨os, hos, hcs, hds⟩ := id hs
  have hTs : s.TypeIs (.ref sl) "slice" := ⟨os, hos, hcs⟩
  have sz : ∀ k : Nat, k ≤ 200000 → k ≤ sizeLine := fun k h => sizeLine_le (by lia)
  unfold setItem
  refine wpAny_holding ?_
  refine wpAny_bind (wpAny_sequenceKey hli.typeIs (by decide) ?_)
  refine wpAny_bind (wpAny_callSpecial?_slot (name := Str.ofString "__setitem__") hli.typeIs slot_list_setitem
    (wpAny_call_entry slot_list_setitem hli.typeIs entry_list_setitem ?_ (args_list_setitem _ _ _)))
  show wpAny _ _ (Builtin.List.listSubscript? (.ref sl) >>= _) _ _ s
  refine wpAny_bind ?_
  unfold Builtin.List.listSubscript?
  refine wpAny_bind (wpAny_specialOf hTs slice_no_index ?_)
  simp only [Option.isNone_none, if_true]
  refine wpAny_pure ?_
  show wpAny _ _ (typeOf (.ref sl) >>= _) _ _ s
  refine wpAny_bind (wpAny_typeOf hTs ?_)
  rw [if_neg (by decide)]
  rw [listSliceParts_eq]
  refine wpAny_bind (wpAny_bind (wpAny_field hos hds (x := .none) rfl (wpAny_bind (wpAny_listPart .none ?_))))
  rw [if_neg (by decide)]
  refine wpAny_bind (wpAny_field hos hds (x := .none) rfl (wpAny_bind (wpAny_listPart .none ?_)))
  refine wpAny_bind (wpAny_field hos hds (x := .none) rfl (wpAny_bind (wpAny_listPart .none (wpAny_pure ?_))))
  have items : ∀ {a : Addr} {zs : Array Value} {k : Nat} {Q : Array Value → Shared → Prop} {E : Value → Shared → Prop} {A : Around}, s.heap.get? a = some (listOf zs k) → Q zs s → wpAny (model prog w) A (Builtin.List.listItems (.ref a)) Q E s := fun ho hq => by
    unfold Builtin.List.listItems
    exact wpAny_bind (wpAny_seqItems ho rfl (wpAny_pure hq))
  dsimp only
  rw [if_neg (show ¬ (Builtin.List.listSameRef (.ref l) (.ref b) = true) from by show ¬ ((l == b) = true); rw [hne]; exact Bool.false_ne_true)]
  refine wpAny_bind (m := Builtin.List.listAllItems _ _) ?_
  unfold Builtin.List.listAllItems
  refine wpAny_bind (wpAny_typeOf hbi.typeIs ?_)
  rw [if_pos (by decide)]
  refine items hb ?_
  refine wpAny_bind (items hl ?_)
  refine wpAny_bind (wpAny_of_eq (sliceIndices_raw none none none xs.size (by simp)) ?_)
  rw [if_pos (show ((sliceBounds none none none xs.size).2.2 == 1) = true from rfl)]
  refine wpAny_bind (wpAny_rule ?_)
  rw [if_neg (by
    unfold Builtin.List.listTooLong
    simpa using sz (xs.size + ys.size) (by lia))]
  have e0 : (sliceBounds none none none xs.size).1.toNat = 0 := rfl
  have e1 : (max (sliceBounds none none none xs.size).1 (sliceBounds none none none xs.size).2.1).toNat = xs.size := by
    show (max (0 : Int) (xs.size : Int)).toNat = xs.size
    lia
  rw [e0, e1]
  refine wpAny_bind ?_
  unfold Builtin.List.listUpdate
  dsimp only
  refine wpAny_updateSeq hl rfl ?_ (sz _ (by lia)) (by
    simp only [Array.size_append, Array.size_extract]
    exact Nat.le_succ_of_le (sz _ (by lia)))
  refine wpAny_bind (wpAny_letGo (wpAny_pure ⟨_, rfl, wpAny_pure (hQ _ (if ys.size == xs.size then n else n + 1) ?_ (Heap.SameBut.update ..))⟩))
  rw [Heap.get?_update_self _ hl (by rfl)]
  simp [Obj.mapSeq]
section
variable {G : Gr} {k : Nat} {φ φ' : Fs} {μ μ' μ0 F : Mu} {s s' : Shared} {sc scC : Sc} {σ σ' : Sg} {env : Env} {K K' : D → Mu → Prop} {KT KT' : Bool → Mu → Prop} {KB KB' : Fl → Sg → Mu → Prop}
theorem WS.setAll {o e : Expr} {p p' p'' : Pos} (h : WE G k sc σ e μ fun dv μ1 => WE G k sc σ o μ1 fun d μ2 => Ex4 fun a xs ys μ3 => A6 (dv = .list ys) (d = .loc a) (Chg μ2 a (.list xs) (.list ys) μ3) (xs.length ≤ 100000) (ys.length ≤ 100000) (KB .next σ μ3))
    (hs : ∀ env, swapsWith e (some (.Subscript o (.Slice none none none p'') p')) p.line env = pure false := by intro _; rfl) : WS G k sc σ (.Assign [.Subscript o (.Slice none none none p'') p'] e p) μ KB := fun env φ s I E => by
  refine wpAny_Assign_Subscript (wpAny_mono (h env φ s I E) (fun v s1 ⟨dv, φ1, μ1, st1, rv, hK⟩ => ?_) nev) (hs env)
  refine wpAny_mono (hK env φ1 s1 st1.inv (E.step st1)) (fun ov s2 ⟨d, φ2, μ2, st2, ro, a, xs, ys, μ3, hdv, hd, hc, hx, hy, hKB⟩ => ?_) nev
  subst hdv hd
  obtain ⟨b, ws, m, rfl, hb, rb⟩ := R.list_iff.mp (rv.mono st2.le)
  rw [R.val_iff] at ro; subst ro
  obtain ⟨vs, n, ho, rs⟩ := st2.inv.cells _ hc.has.mem
  have ho : s2.heap.get? a = some (listOf vs.toArray n) := ho
  have hoff : φ2 a = none := st2.inv.off _ hc.has.mem
  have hne : (a == b) = false := beq_eq_false_iff_ne.mpr fun z => by subst z; rw [hb] at hoff; cases hoff
  refine wpAny_Slice ?_
  refine wpAny_pure (wpAny_pure (wpAny_pure ?_))
  have stg : Step G [] φ2 μ2 s2 φ2 μ2 { s2 with heap := s2.heap.push { cls := .type "slice", data := .fields #[.none, .none, .none] }, toks := s2.toks } := Step.grow st2.inv fun b o e => Heap.get?_push_of_some _ e
  refine setItem_all (s := { s2 with heap := s2.heap.push { cls := .type "slice", data := .fields #[.none, .none, .none] } }) (Heap.get?_push_of_some _ ho) (Heap.IsSliceOf.new ..) (Heap.get?_push_of_some _ (st2.inv.sub _ _ hb)) hne (by rw [List.size_toArray, rs.1]; exact hx) (by rw [List.size_toArray, rb.1]; exact hy) fun h' n' hl' hs' => ?_
  have st3 := Step.upd (X := []) (t := s2.toks) stg.inv hc.upd hs'.extBut ⟨ws, n', hl', rb⟩
  obtain ⟨stx, E3⟩ := E.stepX (((st1.trans st2).trans stg).trans st3)
  exact ⟨.next, σ, φ2, μ3, stx, E3, trivial, hKB⟩
end
noncomputable def EqW (G : Gr) (A : Around) (s : Shared) (y x : Value) : Prop := ∀ (E : Value → Shared → Prop) (Q : Bool → Shared → Prop), Q true s → wpAny G.M A (eqBool y x) Q E s
section
variable {G : Gr} {A : Around} {s : Shared}
theorem EqW.of {y x : Value} (h : SeqAt.EqAt A s y x true) : EqW G A s y x := fun E Q hq => h G.prog G.w E Q hq
theorem EqW.refs {l b : Addr} (h : ∀ (E : Value → Shared → Prop) (Q : Value → Shared → Prop), Q (.bool true) s → wpAny G.M A (richCompare .Eq (.ref l) (.ref b)) Q E s) : EqW G A s (.ref l) (.ref b) := fun E Q hq => by
  unfold eqBool
  refine wpAny_holding ?_
  by_cases e : (Value.ref l == Value.ref b) = true
  · rw [if_pos e]
    exact wpAny_bind (wpAny_rule (wpAny_pure hq))
  · rw [if_neg e]
    exact wpAny_bind (h E _ (wpAny_truthy_bool hq))
theorem tupW_eq {l b : Addr} {xs ys : List Value} {n m : Nat} (hl : s.heap.get? l = some (tupOf xs.toArray n)) (hb : s.heap.get? b = some (tupOf ys.toArray m)) (hsz : xs.length = ys.length) (he : ∀ p ∈ xs.zip ys, EqW G A s p.1 p.2)
    {Q : Fin → Shared → Prop} {E : Value → Shared → Prop} (h : Q (.done (.ret (.bool true))) s) : wpAny G.M A (Builtin.«tuple.__eq__» ⟨[.ref l, .ref b], []⟩) Q E s := by
  obtain ⟨hp, g, d, tk, os⟩ := s
  have f2 := AutoSeq1.sub_tuple_tuple
  wp_walk using AutoSeq1.wpAny_loadPart' hl, AutoSeq1.wpAny_loadPart' hb, wpAny_forIn_list _ (fun rest b s' => b.1 = none ∧ s' = ⟨hp, g, d, tk, os⟩ ∧ ∀ p ∈ rest, EqW G A ⟨hp, g, d, tk, os⟩ p.1 p.2) _
  case turn =>
    rintro ⟨y, x⟩ rest b s' ⟨hb', rfl, hz⟩
    refine wpAny_bind (hz (y, x) (.head _) _ _ ?_)
    wp_walk
    exact ⟨rfl, rfl, fun p hp => hz p (.tail _ hp)⟩
  case fin =>
    rintro ⟨b1, b2⟩ s' ⟨hb', rfl, -⟩
    simp only at hb'
    subst hb'
    wp_walk
    simpa [Builtin.Tuple.tupleCompareSizes, hsz] using h
  case h => exact ⟨rfl, rfl, by simpa using he⟩
theorem tupW_ne {l b : Addr} {xs ys : List Value} {n m : Nat} (hl : s.heap.get? l = some (tupOf xs.toArray n)) (hb : s.heap.get? b = some (tupOf ys.toArray m)) (hsz : xs.length = ys.length) (he : ∀ p ∈ xs.zip ys, EqW G A s p.1 p.2)
    {Q : Fin → Shared → Prop} {E : Value → Shared → Prop} (h : Q (.done (.ret (.bool false))) s) : wpAny G.M A (Builtin.«tuple.__ne__» ⟨[.ref l, .ref b], []⟩) Q E s := by
  obtain ⟨hp, g, d, tk, os⟩ := s
  have f2 := AutoSeq1.sub_tuple_tuple
  wp_walk using AutoSeq1.wpAny_loadPart' hl, AutoSeq1.wpAny_loadPart' hb, wpAny_forIn_list _ (fun rest b s' => b.1 = none ∧ s' = ⟨hp, g, d, tk, os⟩ ∧ ∀ p ∈ rest, EqW G A ⟨hp, g, d, tk, os⟩ p.1 p.2) _
  case turn =>
    rintro ⟨y, x⟩ rest b s' ⟨hb', rfl, hz⟩
    refine wpAny_bind (hz (y, x) (.head _) _ _ ?_)
    wp_walk
    exact ⟨rfl, rfl, fun p hp => hz p (.tail _ hp)⟩
  case fin =>
    rintro ⟨b1, b2⟩ s' ⟨hb', rfl, -⟩
    simp only at hb'
    subst hb'
    wp_walk
    simpa [Builtin.Tuple.tupleCompareSizes, hsz] using h
  case h => exact ⟨rfl, rfl, by simpa using he⟩
theorem pairW {nm : String} {a b : Addr} {ka kb : List (Str × Value)} (ha : (a == sysModules) = false) (hb : (b == sysModules) = false) (da : s.heap.DictOf G.knd a ka) (db : s.heap.DictOf G.knd b kb) (hl : ka.length = kb.length)
    (he : ∀ p ∈ ka, ∃ y, valueAt kb p.1 = some y ∧ EqW G A s p.2 y) {Q : Bool → Shared → Prop} {E : Value → Shared → Prop} (h : Q true s) : wpAny G.M A (Builtin.Dict.samePairs nm a b) Q E s := by
  obtain ⟨oa, es, ep, hoa, _, hda, kea, pra, _⟩ := da
  obtain ⟨ob, fs, fp, hob, _, hdb, keb, prb, _⟩ := db
  have sa : es.size = ka.length := by rw [← pra.length]; simp
  have sb : fs.size = kb.length := by rw [← prb.length]; simp
  unfold Builtin.Dict.samePairs Builtin.Dict.showsAll
  rw [ha, hb]
  simp only [Bool.false_eq_true, if_false]
  refine wpAny_bind (wpAny_pure (wpAny_bind (wpAny_pure (wpAny_bind (wpAny_dictEntries hoa hda (wpAny_bind (wpAny_dictEntries hob hdb ?_)))))))
  rw [if_neg (by rw [sa, sb, hl]; simp)]
  refine wpAny_bind (wpAny_dictEpoch hoa hda (wpAny_bind ?_))
  rw [Std.Legacy.Range.forIn_eq_forIn_range']
  refine wpAny_forIn_list _ (fun rest q s' => s' = s ∧ q.1 = none ∧ ∀ i ∈ rest, i < es.size) _ ?_ ?_ _ _ ⟨rfl, rfl, ?_⟩
  · rintro i rest q s' ⟨rfl, hq, hr⟩
    have hi : i < es.size := hr i (.head _)
    have hik : i < ka.length := sa ▸ hi
    refine wpAny_bind (wpAny_dictEntries hoa hda ?_)
    rw [Array.getElem?_eq_getElem hi]
    obtain ⟨hkey, hval⟩ := pra.get? (i := i) (e := es[i]) (k := ka[i].1) (v := ka[i].2) (by rw [Array.getElem?_toList]; exact Array.getElem?_eq_getElem hi) (List.getElem?_eq_getElem hik)
    obtain ⟨k', hk', hh⟩ := kea es[i] (Array.getElem_mem hi)
    rw [G.knd.inj _ _ _ hk' hkey] at hh
    obtain ⟨y, hy, hE⟩ := he ka[i] (List.getElem_mem hik)
    show wpAny _ _ (holding [es[i].key, es[i].val] _ >>= _) _ _ _
    rw [hh]
    refine wpAny_bind (wpAny_holding (wpAny_bind (wpAny_dictFind_of hkey hob hdb keb ?_)))
    have hf := prb.find ka[i].1
    have hv : findBy G.knd.is fs ka[i].1 = some y := by
      rw [← hy, ← hf]
      obtain ⟨l⟩ := fs
      simp [findBy]
    rw [findBy_of_findIdx?] at hv
    cases hj : fs.findIdx? fun e => G.knd.is ka[i].1 e.key with
    | none => rw [hj] at hv; cases hv
    | some j =>
      rw [hj] at hv
      obtain ⟨hjl, _, _⟩ := Array.findIdx?_eq_some_iff_getElem.mp hj
      refine wpAny_bind (wpAny_dictEntries hob hdb ?_)
      rw [Array.getElem?_eq_getElem hjl]
      have ey : fs[j].val = y := by simpa [Array.getElem?_eq_getElem hjl] using hv
      rw [← ey, ← hval] at hE
      refine wpAny_holding (hE _ _ ?_)
      simp only [Bool.not_true, Bool.false_eq_true, if_false]
      refine wpAny_bind (wpAny_dictEpoch hoa hda ?_)
      rw [if_neg (by simp)]
      exact wpAny_pure ⟨rfl, rfl, fun i hi => hr i (.tail _ hi)⟩
  · rintro q s' ⟨rfl, hq, -⟩
    obtain ⟨q1, q2⟩ := q
    simp only at hq; subst hq
    exact wpAny_pure h
  · intro i hi
    simp [Std.Legacy.Range.size, List.mem_range'] at hi
    lia
theorem dictW {a b : Addr} {ka kb : List (Str × Value)} (ha : (a == sysModules) = false) (hb : (b == sysModules) = false) (da : s.heap.DictOf G.knd a ka) (db : s.heap.DictOf G.knd b kb) (hl : ka.length = kb.length) (hu : A.units < cLine)
    (he : ∀ p ∈ ka, ∃ y, valueAt kb p.1 = some y ∧ EqW G A.in1 s p.2 y) : EqW G A s (.ref a) (.ref b) := .refs fun E Q h => by
  refine wpAny_richCompare_same_room (op := .Eq) da.typeIs db.typeIs PySem.F.slot_dict_eq (wpAny_call_entry PySem.F.slot_dict_eq da.typeIs PySem.F.entry_dict_eq ?_ (PySem.F.args_dict_eq_2 _ _)) hu
  show wpAny _ _ (Builtin.Dict.dictSlotArgs "__eq__" ⟨[.ref a, .ref b], []⟩ >>= _) _ _ s
  refine wpAny_bind ?_
  unfold Builtin.Dict.dictSlotArgs
  refine wpAny_bind (wpAny_notOrdered_dict da.typeIs ?_)
  show wpAny _ _ (pure (Value.ref a, Value.ref b)) _ _ s
  refine wpAny_pure ?_
  refine wpAny_bind (wpAny_isInstance (T := "dict") db.typeIs PySem.F.sub_dict_dict ?_)
  simp only [Bool.not_true, Bool.false_eq_true, if_false]
  refine wpAny_bind (wpAny_pure (wpAny_bind (wpAny_pure (wpAny_bind (pairW ha hb da db hl he ?_)))))
  exact wpAny_pure ⟨_, rfl, (fun x => nomatch x), h⟩
theorem tupleW {l b : Addr} {xs ys : List Value} {n m : Nat} (hl : s.heap.get? l = some (tupOf xs.toArray n)) (hb : s.heap.get? b = some (tupOf ys.toArray m)) (hsz : xs.length = ys.length) (hu : A.units < cLine) (he : ∀ p ∈ xs.zip ys, EqW G A.in1 s p.1 p.2) :
    EqW G A s (.ref l) (.ref b) := .refs fun E Q h =>
  wpAny_richCompare_same_room (op := .Eq) ⟨_, hl, rfl⟩ ⟨_, hb, rfl⟩ F.slot_tuple_eq (wpAny_call_entry F.slot_tuple_eq ⟨_, hl, rfl⟩ F.entry_tuple_eq (tupW_eq hl hb hsz he ⟨_, rfl, (fun x => nomatch x), h⟩) (F.args_tuple_eq_2 _ _)) hu
end
inductive SameP : Nat → D → D → Prop where
  | int (n : Nat) (i : Int) : SameP n (.int i) (.int i)
  | str (n : Nat) (x : Str) : SameP n (.str x) (.str x)
  | list {n : Nat} {xs ys : List D} (hl : xs.length = ys.length) (h : ∀ (i : Nat) x y, xs[i]? = some x → ys[i]? = some y → SameP n x y) : SameP (n + 1) (.list xs) (.list ys)
  | tup {n : Nat} {xs ys : List D} (hl : xs.length = ys.length) (h : ∀ (i : Nat) x y, xs[i]? = some x → ys[i]? = some y → SameP n x y) : SameP (n + 1) (.tup xs) (.tup ys)
inductive SameD : Nat → D → D → Prop where
  | plain {n : Nat} {x y : D} (h : SameP n x y) : SameD n x y
  | tup {n : Nat} {xs ys : List D} (hl : xs.length = ys.length) (h : ∀ (i : Nat) x y, xs[i]? = some x → ys[i]? = some y → SameD n x y) : SameD (n + 1) (.tup xs) (.tup ys)
  | dict {n : Nat} {xs ys : List (Str × D)} (hl : xs.length = ys.length) (h1 : ∀ p ∈ xs, (atD ys p.1).isSome = true) (h2 : ∀ p ∈ xs, ∀ y, atD ys p.1 = some y → SameD n p.2 y) : SameD (n + 1) (.dict xs) (.dict ys)
section
variable {G : Gr} {φ : Fs} {μ : Mu} {s : Shared} {k : Nat} {K : D → Mu → Prop}
theorem allT (l : List Nat) : (l.all fun _ => true) = true := List.all_eq_true.mpr fun _ _ => rfl
theorem SameP.at {n : Nat} {d e : D} (h : SameP n d e) : ∀ {A : Around} {v u : Value}, Inv G φ μ s → R G φ v d → R G φ u e → A.units + n < cLine → SeqAt.EqAt A s v u true := by
  induction h with
  | int n i =>
    intro A v u I r1 r2 hu
    obtain ⟨t, rfl⟩ := R.int_iff.mp r1; obtain ⟨t', rfl⟩ := R.int_iff.mp r2
    simpa using SeqAt.EqAt.int_int (A := A) (s := s) i t i t'
  | str n x =>
    intro A v u I r1 r2 hu
    obtain ⟨t, rfl⟩ := R.str_iff.mp r1; obtain ⟨t', rfl⟩ := R.str_iff.mp r2
    simpa using SeqAt.EqAt.str_str (A := A) (s := s) x t x t'
  | @list n xs ys hl h ih =>
    intro A v u I r1 r2 hu
    obtain ⟨a, vs, n1, rfl, ho, ra⟩ := R.list_iff.mp r1
    obtain ⟨b, ws, n2, rfl, hp, rb⟩ := R.list_iff.mp r2
    by_cases e : a = b
    · subst e; exact SeqAt.EqAt.same _
    · have hsz : vs.toArray.size = ws.toArray.size := by rw [List.size_toArray, List.size_toArray, ra.1, rb.1, hl]
      have := SeqAt.RcAt.lists (A := A) (e := fun _ => true) ⟨_, I.sub _ _ ho, rfl, _, rfl⟩ ⟨_, I.sub _ _ hp, rfl, _, rfl⟩ hsz (by lia) (fun j h1 h2 => by
        have j1 : j < vs.length := by simpa using h1
        have j2 : j < ws.length := by simpa using h2
        have x1 : j < xs.length := ra.1 ▸ j1
        have x2 : j < ys.length := rb.1 ▸ j2
        exact ih j xs[j] ys[j] (by simp [x1]) (by simp [x2]) I (ra.2 j _ _ (by simp [j1]) (by simp [x1])) (rb.2 j _ _ (by simp [j2]) (by simp [x2])) (by show A.in1.units + n < cLine; simp only [Around.in1]; lia))
      rw [allT] at this
      simpa using SeqAt.EqAt.of_refs e this
  | @tup n xs ys hl h ih =>
    intro A v u I r1 r2 hu
    obtain ⟨a, vs, n1, rfl, ho, ra⟩ := R.tup_iff.mp r1
    obtain ⟨b, ws, n2, rfl, hp, rb⟩ := R.tup_iff.mp r2
    by_cases e : a = b
    · subst e; exact SeqAt.EqAt.same _
    · have hsz : vs.toArray.size = ws.toArray.size := by rw [List.size_toArray, List.size_toArray, ra.1, rb.1, hl]
      have := SeqAt.RcAt.tuples (A := A) (e := fun _ => true) ⟨_, I.sub _ _ ho, rfl, _, rfl⟩ ⟨_, I.sub _ _ hp, rfl, _, rfl⟩ (by lia) (fun j h1 h2 => by
        have j1 : j < vs.length := by simpa using h1
        have j2 : j < ws.length := by simpa using h2
        have x1 : j < xs.length := ra.1 ▸ j1
        have x2 : j < ys.length := rb.1 ▸ j2
        exact ih j xs[j] ys[j] (by simp [x1]) (by simp [x2]) I (ra.2 j _ _ (by simp [j1]) (by simp [x1])) (rb.2 j _ _ (by simp [j2]) (by simp [x2])) (by show A.in1.units + n < cLine; simp only [Around.in1]; lia))
      rw [hsz] at this
      rw [allT] at this
      simpa using SeqAt.EqAt.of_refs e this
theorem zipW {P : Value → Value → Prop} {vs ws : List Value} {xs ys : List D} {S : D → D → Prop} (ra : Rs G φ vs xs) (rb : Rs G φ ws ys) (hl : xs.length = ys.length) (h : ∀ (i : Nat) x y, xs[i]? = some x → ys[i]? = some y → S x y)
    (hP : ∀ v w x y, R G φ v x → R G φ w y → S x y → P v w) : ∀ p ∈ vs.zip ws, P p.1 p.2 := fun p hp => by
  obtain ⟨j, hj, e⟩ := List.mem_iff_getElem.mp hp
  have hj' : j < vs.length ∧ j < ws.length := by simp at hj; lia
  have x1 : j < xs.length := ra.1 ▸ hj'.1
  have x2 : j < ys.length := rb.1 ▸ hj'.2
  subst e
  simp only [List.getElem_zip]
  exact hP _ _ xs[j] ys[j] (ra.2 j _ _ (by simp [hj'.1]) (by simp [x1])) (rb.2 j _ _ (by simp [hj'.2]) (by simp [x2])) (h j _ _ (by simp [x1]) (by simp [x2]))
theorem SameD.at {n : Nat} {d e : D} (h : SameD n d e) : ∀ {A : Around} {v u : Value}, Inv G φ μ s → R G φ v d → R G φ u e → A.units + n < cLine → EqW G A s v u := by
  induction h with
  | plain h => intro A v u I r1 r2 hu; exact .of (h.at I r1 r2 hu)
  | @tup n xs ys hl h ih =>
    intro A v u I r1 r2 hu
    obtain ⟨a, vs, n1, rfl, ho, ra⟩ := R.tup_iff.mp r1
    obtain ⟨b, ws, n2, rfl, hp, rb⟩ := R.tup_iff.mp r2
    refine tupleW (I.sub _ _ ho) (I.sub _ _ hp) (by rw [ra.1, rb.1, hl]) (by lia) ?_
    exact zipW (S := fun x y => ∀ {A : Around} {v u : Value}, Inv G φ μ s → R G φ v x → R G φ u y → A.units + n < cLine → EqW G A s v u) ra rb hl (fun i x y hx hy => ih i x y hx hy) fun v w x y r1 r2 hS => hS I r1 r2 (by show A.in1.units + n < cLine; simp only [Around.in1]; lia)
  | @dict n xs ys hl h1 h2 ih =>
    intro A v u I r1 r2 hu
    obtain ⟨a, ka, rfl, ha, da, ra⟩ := dict_at I r1 (.inl rfl)
    obtain ⟨b, kb, rfl, hb, db, rb⟩ := dict_at I r2 (.inl rfl)
    refine dictW ha hb da db (by rw [ra.len, rb.len, hl]) (by lia) fun p hp => ?_
    obtain ⟨j, hj, e⟩ := List.mem_iff_getElem.mp hp
    have hjx : j < xs.length := ra.len ▸ hj
    have hk : ka[j].1 = xs[j].1 := by
      have := congrArg (·[j]?) ra.1
      simpa [hj, hjx] using this
    have hr := ra.2 j ka[j] xs[j] (by simp [hj]) (by simp [hjx])
    obtain ⟨y, hy⟩ := Option.isSome_iff_exists.mp (h1 xs[j] (List.getElem_mem hjx))
    obtain ⟨w, hw, rw'⟩ := (rb.at (x := xs[j].1)).1 y hy
    subst e
    exact ⟨w, by rw [hk]; exact hw, ih xs[j] (List.getElem_mem hjx) y hy I hr rw' (by show A.in1.units + n < cLine; simp only [Around.in1]; lia)⟩
theorem V.neT {n : Nat} {xs ys : List D} (hl : xs.length = ys.length) (hn : n ≤ 100) (hs : ∀ (i : Nat) x y, xs[i]? = some x → ys[i]? = some y → SameD n x y) (h : K (.bool false) μ) : WV2 G k (.tup xs) (.tup ys) μ (compareOp .NotEq) K := fun φ s v1 v2 I r1 r2 => by
  obtain ⟨a, vs, n1, rfl, ho, ra⟩ := R.tup_iff.mp r1
  obtain ⟨b, ws, n2, rfl, hp, rb⟩ := R.tup_iff.mp r2
  have ha := I.sub _ _ ho
  have hb := I.sub _ _ hp
  refine wpAny_richCompare_same_room (op := .NotEq) ⟨_, ha, rfl⟩ ⟨_, hb, rfl⟩ F.slot_tuple_ne (wpAny_call_entry F.slot_tuple_ne ⟨_, ha, rfl⟩ F.entry_tuple_ne (tupW_ne ha hb (by rw [ra.1, rb.1, hl]) ?_ ⟨_, rfl, (fun x => nomatch x), Post.of (.refl I) (.bool _) h⟩) (F.args_tuple_ne_2 _ _)) (lv_units k)
  exact zipW (S := SameD n) ra rb hl hs fun v w x y r1 r2 hS => SameD.at hS I r1 r2 (by simp only [Around.in1, Lv, cLine]; lia)
theorem V.neLP {n : Nat} {xs ys : List D} (hn : n ≤ 100) (hs : SameP (n + 1) (.list xs) (.list ys)) (h : K (.bool false) μ) : WV2 G k (.list xs) (.list ys) μ (compareOp .NotEq) K := fun φ s v1 v2 I r1 r2 => by
  cases hs with
  | list hl hs =>
    obtain ⟨a, vs, n1, rfl, ho, ra⟩ := R.list_iff.mp r1
    obtain ⟨b, ws, n2, rfl, hp, rb⟩ := R.list_iff.mp r2
    have hsz : vs.toArray.size = ws.toArray.size := by rw [List.size_toArray, List.size_toArray, ra.1, rb.1, hl]
    have := SeqAt.RcNeAt.lists (A := Lv k) (e := fun _ => true) ⟨_, I.sub _ _ ho, rfl, _, rfl⟩ ⟨_, I.sub _ _ hp, rfl, _, rfl⟩ hsz (lv_units k) (fun j h1 h2 => by
      have j1 : j < vs.length := by simpa using h1
      have j2 : j < ws.length := by simpa using h2
      have x1 : j < xs.length := ra.1 ▸ j1
      have x2 : j < ys.length := rb.1 ▸ j2
      exact (hs j xs[j] ys[j] (by simp [x1]) (by simp [x2])).at I (ra.2 j _ _ (by simp [j1]) (by simp [x1])) (rb.2 j _ _ (by simp [j2]) (by simp [x2])) (by simp only [Around.in1, Lv, cLine]; lia))
    refine this _ _ _ _ ?_
    rw [allT]
    exact Post.of (.refl I) (.bool _) h
theorem V.neDict {n : Nat} {xs ys : List (Str × D)} (hn : n ≤ 100) (hs : SameD (n + 1) (.dict xs) (.dict ys)) (h : K (.bool false) μ) : WV2 G k (.dict xs) (.dict ys) μ (compareOp .NotEq) K := fun φ s v1 v2 I r1 r2 => by
  cases hs with
  | plain h => cases h
  | dict hl h1 h2 =>
    obtain ⟨a, ka, rfl, ha, da, ra⟩ := dict_at I r1 (.inl rfl)
    obtain ⟨b, kb, rfl, hb, db, rb⟩ := dict_at I r2 (.inl rfl)
    refine wpAny_richCompare_same_room (op := .NotEq) da.typeIs db.typeIs PySem.F.slot_dict_ne (wpAny_call_entry PySem.F.slot_dict_ne da.typeIs PySem.F.entry_dict_ne ?_ (PySem.F.args_dict_ne_2 _ _)) (lv_units k)
    show wpAny _ _ (Builtin.Dict.dictSlotArgs "__ne__" ⟨[.ref a, .ref b], []⟩ >>= _) _ _ s
    refine wpAny_bind ?_
    unfold Builtin.Dict.dictSlotArgs
    refine wpAny_bind (wpAny_notOrdered_dict da.typeIs ?_)
    show wpAny _ _ (pure (Value.ref a, Value.ref b)) _ _ s
    refine wpAny_pure ?_
    refine wpAny_bind (wpAny_isInstance (T := "dict") db.typeIs PySem.F.sub_dict_dict ?_)
    simp only [Bool.not_true, Bool.false_eq_true, if_false]
    refine wpAny_bind (wpAny_pure (wpAny_bind (wpAny_pure (wpAny_bind (pairW ha hb da db (by rw [ra.len, rb.len, hl]) (fun p hp => ?_) ?_)))))
    · obtain ⟨j, hj, e⟩ := List.mem_iff_getElem.mp hp
      have hjx : j < xs.length := ra.len ▸ hj
      have hk : ka[j].1 = xs[j].1 := by
        have := congrArg (·[j]?) ra.1
        simpa [hj, hjx] using this
      have hr := ra.2 j ka[j] xs[j] (by simp [hj]) (by simp [hjx])
      obtain ⟨y, hy⟩ := Option.isSome_iff_exists.mp (h1 xs[j] (List.getElem_mem hjx))
      obtain ⟨w, hw, rw'⟩ := (rb.at (x := xs[j].1)).1 y hy
      subst e
      exact ⟨w, by rw [hk]; exact hw, (h2 xs[j] (List.getElem_mem hjx) y hy).at I hr rw' (by simp only [Around.in1, Lv, cLine]; lia)⟩
    · exact wpAny_pure ⟨_, rfl, (fun x => nomatch x), Post.of (.refl I) (.bool _) h⟩
theorem exK {v : Value} {X : Value → Prop} (hk : Keeps G v) (h : X v) : ∃ f, D.val v = .val f ∧ Keeps G f ∧ X f := ⟨v, rfl, hk, h⟩
theorem exId {v : Value} {X : Value → Prop} (h : ∃ f, D.val v = .val f ∧ Keeps G f ∧ X f) : ∃ f, D.val v = .val f ∧ Keeps G f ∧ X f := h
end
theorem look_asm {x : Str} {d : D} {σ : Sg} (h : List.lookup x σ = some d) : List.lookup x σ = some d := h
namespace FM
theorem t1 : typeOf (.builtin "str.lower") = pure (.type "method_descriptor") := by show builtinType _ = _; rw [builtinType_eq_fast]; kernel_rfl
theorem t2 : typeOf (.builtin "str.upper") = pure (.type "method_descriptor") := by show builtinType _ = _; rw [builtinType_eq_fast]; kernel_rfl
theorem t3 : typeOf (.builtin "str.join") = pure (.type "method_descriptor") := by show builtinType _ = _; rw [builtinType_eq_fast]; kernel_rfl
theorem t4 : typeOf (.builtin "str.count") = pure (.type "method_descriptor") := by show builtinType _ = _; rw [builtinType_eq_fast]; kernel_rfl
theorem t5 : typeOf (.builtin "list.append") = pure (.type "method_descriptor") := by show builtinType _ = _; rw [builtinType_eq_fast]; kernel_rfl
theorem t6 : typeOf (.builtin "list.pop") = pure (.type "method_descriptor") := by show builtinType _ = _; rw [builtinType_eq_fast]; kernel_rfl
theorem t7 : typeOf (.builtin "list.count") = pure (.type "method_descriptor") := by show builtinType _ = _; rw [builtinType_eq_fast]; kernel_rfl
theorem t8 : typeOf (.builtin "list.index") = pure (.type "method_descriptor") := by show builtinType _ = _; rw [builtinType_eq_fast]; kernel_rfl
theorem t9 : typeOf (.builtin "dict.get") = pure (.type "method_descriptor") := by show builtinType _ = _; rw [builtinType_eq_fast]; kernel_rfl
theorem t10 : typeOf (.builtin "dict.items") = pure (.type "method_descriptor") := by show builtinType _ = _; rw [builtinType_eq_fast]; kernel_rfl
theorem t11 : typeOf (.builtin "dict.values") = pure (.type "method_descriptor") := by show builtinType _ = _; rw [builtinType_eq_fast]; kernel_rfl
end FM
section
variable {G : Gr} {k : Nat} {φ φ' : Fs} {μ μ' μ0 F : Mu} {s s' : Shared} {sc scC : Sc} {σ σ' : Sg} {env : Env} {K K' : D → Mu → Prop} {KT KT' : Bool → Mu → Prop} {KB KB' : Fl → Sg → Mu → Prop}
theorem ifT {A B : Prop} (h : A) : if true = true then A else B := by rw [if_pos rfl]; exact h
theorem ifF {A B : Prop} (h : B) : if false = true then A else B := by rw [if_neg Bool.false_ne_true]; exact h
theorem ifNT {A B : Prop} (h : B) : if (!true) = true then A else B := ifF h
theorem WT.ofCall {f : Expr} {es : List Expr} {ks : List Keyword} {p : Pos} (h : WE G k sc σ (.Call f es ks p) μ fun a μ1 => WTr G k a μ1 KT) : WT G k sc σ (.Call f es ks p) μ KT := WT.of h fun _ _ => rfl
theorem WT.ofName {x : Str} {p : Pos} (h : WE G k sc σ (.Name x p) μ fun a μ1 => WTr G k a μ1 KT) : WT G k sc σ (.Name x p) μ KT := WT.of h fun _ _ => rfl
theorem WT.ofAttr {o : Expr} {x : Str} {p : Pos} (h : WE G k sc σ (.Attribute o x p) μ fun a μ1 => WTr G k a μ1 KT) : WT G k sc σ (.Attribute o x p) μ KT := WT.of h fun _ _ => rfl
theorem WCv.app1 {f : Value} {a : D} {as : List D} {kd : List (Str × D)} (h : WCv G k f (a :: as) kd μ K) : WCv G k f ([a] ++ as) kd μ K := h
theorem M.lower {x : Str} {KM : Value → List D → Mu → Prop} (h : KM (.builtin "str.lower") [.str x] μ) : WM G k (.str x) (Str.ofString "lower") μ KM := M.str F.slot_str_lower FM.t1 h
theorem M.upper {x : Str} {KM : Value → List D → Mu → Prop} (h : KM (.builtin "str.upper") [.str x] μ) : WM G k (.str x) (Str.ofString "upper") μ KM := M.str F.slot_str_upper FM.t2 h
theorem M.join {x : Str} {KM : Value → List D → Mu → Prop} (h : KM (.builtin "str.join") [.str x] μ) : WM G k (.str x) (Str.ofString "join") μ KM := M.str F.slot_str_join FM.t3 h
theorem M.scount {x : Str} {KM : Value → List D → Mu → Prop} (h : KM (.builtin "str.count") [.str x] μ) : WM G k (.str x) (Str.ofString "count") μ KM := M.str F.slot_str_count FM.t4 h
theorem M.append {a : Addr} {xs : List D} {KM : Value → List D → Mu → Prop} (hm : Has μ a (.list xs)) (h : KM (.builtin "list.append") [.loc a] μ) : WM G k (.loc a) (Str.ofString "append") μ KM := M.cell hm F.slot_list_append FM.t5 h
theorem M.pop {a : Addr} {xs : List D} {KM : Value → List D → Mu → Prop} (hm : Has μ a (.list xs)) (h : KM (.builtin "list.pop") [.loc a] μ) : WM G k (.loc a) (Str.ofString "pop") μ KM := M.cell hm F.slot_list_pop FM.t6 h
theorem M.count {xs : List D} {KM : Value → List D → Mu → Prop} (h : KM (.builtin "list.count") [.list xs] μ) : WM G k (.list xs) (Str.ofString "count") μ KM := M.list F.slot_list_count FM.t7 h
theorem M.index {xs : List D} {KM : Value → List D → Mu → Prop} (h : KM (.builtin "list.index") [.list xs] μ) : WM G k (.list xs) (Str.ofString "index") μ KM := M.list F.slot_list_index FM.t8 h
theorem M.dget {d : D} {ds : List (Str × D)} {KM : Value → List D → Mu → Prop} (hd : d = .dict ds ∨ ∃ a, d = .loc a ∧ Has μ a (.dict ds)) (h : KM (.builtin "dict.get") [d] μ) : WM G k d (Str.ofString "get") μ KM := M.dict hd F.slot_dict_get FM.t9 h
theorem M.ditems {d : D} {ds : List (Str × D)} {KM : Value → List D → Mu → Prop} (hd : d = .dict ds ∨ ∃ a, d = .loc a ∧ Has μ a (.dict ds)) (h : KM (.builtin "dict.items") [d] μ) : WM G k d (Str.ofString "items") μ KM := M.dict hd F.slot_dict_items FM.t10 h
theorem M.dvalues {d : D} {ds : List (Str × D)} {KM : Value → List D → Mu → Prop} (hd : d = .dict ds ∨ ∃ a, d = .loc a ∧ Has μ a (.dict ds)) (h : KM (.builtin "dict.values") [d] μ) : WM G k d (Str.ofString "values") μ KM := M.dict hd F.slot_dict_values FM.t11 h
theorem V.nnNone (h : K (.bool false) μ) : WV2 G k .none .none μ (compareOp .IsNot) K := V.isNotNone h rfl
theorem T.cellN {a : Addr} (hm : Has μ a (.list [])) (h : KT false μ) : WTr G k (.loc a) μ KT := T.cell hm (by decide) h
theorem T.cellC {a : Addr} {x : D} {xs : List D} (hm : Has μ a (.list (x :: xs))) (hl : xs.length ≤ 100000) (h : KT true μ) : WTr G k (.loc a) μ KT := T.cell hm (by simp; lia) h
noncomputable def loopP {α : Type} (P : List α → Sg → Mu → Prop) (KB : Fl → Sg → Mu → Prop) (as : List α) : Fl → Sg → Mu → Prop
  | .next, σ, μ => P as σ μ
  | .cont, σ, μ => P as σ μ
  | .brk, σ, μ => KB .next σ μ
  | .ret r, σ, μ => KB (.ret r) σ μ
theorem loopP.next {α : Type} {P : List α → Sg → Mu → Prop} {as : List α} (h : P as σ μ) : loopP P KB as .next σ μ := h
theorem loopP.ret {α : Type} {P : List α → Sg → Mu → Prop} {as : List α} {d : D} (h : KB (.ret d) σ μ) : loopP P KB as (.ret d) σ μ := h
theorem WLoop.ind {α : Type} {t : Expr} {body : List Stmt} (F : α → D) (P : List α → Sg → Mu → Prop) (hnil : ∀ σ μ, P [] σ μ → KB .next σ μ)
    (hcons : ∀ a as σ μ, P (a :: as) σ μ → WA G k sc σ t (F a) μ fun σ1 μ1 => WB G k sc σ1 body μ1 (loopP P KB as)) : ∀ as σ μ, P as σ μ → WLoop G k sc t body KB (as.map F) σ μ := by
  intro as
  induction as with
  | nil => exact fun σ μ h => hnil σ μ h
  | cons a as ih =>
    exact fun σ μ h => WA.mono (hcons a as σ μ h) fun σ1 μ1 hb => WB.mono hb fun fl σ2 μ2 hk => by
      cases fl with
      | next => exact ih σ2 μ2 hk
      | cont => exact ih σ2 μ2 hk
      | brk => exact hk
      | ret r => exact hk
noncomputable def forK (J : Nat → Sg → Mu → Prop) (n : Nat) (KB : Fl → Sg → Mu → Prop) : Fl → Sg → Mu → Prop
  | .next, σ, μ => ∃ m, m < n ∧ J m σ μ
  | .cont, σ, μ => ∃ m, m < n ∧ J m σ μ
  | .brk, σ, μ => KB .next σ μ
  | .ret d, σ, μ => KB (.ret d) σ μ
theorem forK.next {J : Nat → Sg → Mu → Prop} {n : Nat} (h : ∃ m, m < n ∧ J m σ μ) : forK J n KB .next σ μ := h
theorem forK.cont {J : Nat → Sg → Mu → Prop} {n : Nat} (h : ∃ m, m < n ∧ J m σ μ) : forK J n KB .cont σ μ := h
theorem forK.ret {J : Nat → Sg → Mu → Prop} {n : Nat} {d : D} (h : KB (.ret d) σ μ) : forK J n KB (.ret d) σ μ := h
theorem WS.forN' {x : Str} {xp : Pos} {iter : Expr} {body : List Stmt} {p : Pos} (J : Nat → Sg → Mu → Prop) (I : Addr) (n : Nat)
    (h : WE G k sc σ iter μ fun d μ1 => d = .loc I ∧ (∃ d1 d2 d3, Has μ1 I (.fields "callable_iterator" [d1, d2, d3])) ∧ J n σ μ1)
    (turn : ∀ n σ μ, J n σ μ → ∃ KN : Option D → Mu → Prop, WNext G k I μ KN ∧ (∀ μ1, KN none μ1 → KB .next σ μ1) ∧ ∀ d μ1, KN (some d) μ1 → WA G k sc σ (.Name x xp) d μ1 fun σ2 μ2 => WB G k sc σ2 body μ2 (forK J n KB))
    (hs : ∀ env x, foldedSetIterable iter env x = pure x := by intro _ _; rfl) : WS G k sc σ (.For (.Name x xp) iter body [] p) μ KB := by
  refine WS.forN J I n h (fun n σ μ hJ => ?_) hs
  obtain ⟨KN, h1, h2, h3⟩ := turn n σ μ hJ
  intro φ s I0
  refine wpAny_mono (h1 φ s I0) (fun r s' ⟨od, φ', μ', st, hr, hK⟩ => ⟨od, φ', μ', st, hr, ?_⟩) nev
  cases od with
  | none => exact h2 _ hK
  | some d => exact WA.mono (h3 _ _ hK) fun σ1 μ1 hb => WB.mono hb fun fl σ2 μ2 hk => by cases fl <;> exact hk
noncomputable def whileK (J : Nat → Sg → Mu → Prop) (n : Nat) (KB : Fl → Sg → Mu → Prop) : Fl → Sg → Mu → Prop := forK J n KB
theorem whileK.next {J : Nat → Sg → Mu → Prop} {n : Nat} (h : ∃ m, m < n ∧ J m σ μ) : whileK J n KB .next σ μ := h
theorem WS.while' {t : Expr} {b : List Stmt} {p : Pos} (J : Nat → Sg → Mu → Prop)
    (turn : ∀ n σ μ, J n σ μ → WT G k sc σ t μ fun c μ1 => if c then WB G k sc σ b μ1 (whileK J n KB) else KB .next σ μ1) (n : Nat) (h : J n σ μ) : WS G k sc σ (.While t b [] p) μ KB := by
  refine WS.while J (fun n σ μ hJ => WT.mono (turn n σ μ hJ) fun c μ1 hc => ?_) n h
  cases c with
  | true => simp only [if_true] at hc ⊢; exact WB.mono hc fun fl σ2 μ2 hk => by cases fl <;> exact hk
  | false => simpa using hc
theorem WS.assignT' {es : List Expr} {n : Nat} {p p' : Pos} {e : Expr} (h : WE G k sc σ e μ fun d μ1 => WA G k sc σ (.Tuple es n p') d μ1 fun σ' μ' => KB .next σ' μ') (hs : ∀ env, swapsWithSole [.Tuple es n p'] e p.line env = pure false := by intro _; rfl) (hw : ∀ env, swappedStores [.Tuple es n p'] e env = pure none := by intro _; rfl) : WS G k sc σ (.Assign [.Tuple es n p'] e p) μ KB :=
  WS.assignT (t := .Constant .none 0 p) h hs hw
theorem WE.merge {e : Expr} (d0 : D) (h : WE G k sc σ e μ fun d μ1 => d = d0 ∧ μ1 = μ) (hK : K d0 μ) : WE G k sc σ e μ K := WE.mono h fun d μ1 ⟨e1, e2⟩ => by rw [e1, e2]; exact hK
theorem WB.consM {st : Stmt} {b : List Stmt} (σ0 : Sg) (h : WS G k sc σ st μ fun fl σ1 μ1 => fl = .next ∧ SgLe σ0 σ1 ∧ μ1 = μ) (hb : WB G k sc σ0 b μ KB) : WB G k sc σ (st :: b) μ KB :=
  WB.cons' (WS.mono h fun fl σ1 μ1 ⟨e1, e2, e3⟩ => by subst e1 e3; exact WB.weak e2 hb)
theorem Has.appL {A B : Mu} {a : Addr} {c : Cell} (h : Has A a c) : Has (A ++ B) a c := by
  induction h with
  | head => exact .head
  | tail _ ih => exact .tail ih
theorem Has.appR {A B : Mu} {a : Addr} {c : Cell} (h : Has B a c) : Has (A ++ B) a c := by
  induction A with
  | nil => exact h
  | cons p A ih => exact .tail ih
theorem Chg.appL {A A' B : Mu} {a : Addr} {c c' : Cell} (h : Chg A a c c' A') : Chg (A ++ B) a c c' (A' ++ B) := by
  induction h with
  | head => exact .head
  | tail _ ih => exact .tail ih
theorem Chg.appR {A B B' : Mu} {a : Addr} {c c' : Cell} (h : Chg B a c c' B') : Chg (A ++ B) a c c' (A ++ B') := by
  induction A with
  | nil => exact h
  | cons p A ih => exact .tail ih
theorem Pull.appR {A B B' : Mu} {a : Addr} {c : Cell} (h : Pull B a c B') : Pull (A ++ B) a c (A ++ B') := by
  induction A with
  | nil => exact h
  | cons p A ih => exact .tail ih
theorem perm_mid (A B R : Mu) : (A ++ (B ++ R)).Perm ((A ++ R) ++ B) := by
  rw [List.append_assoc]; exact List.Perm.append_left A List.perm_append_comm
theorem WC.mid {A B R : Mu} {f : Value} {as : List D} {kd} (h : WC G k f as kd B fun d B' => K d (A ++ (B' ++ R))) : WC G k f as kd (A ++ (B ++ R)) K :=
  WC.permK (WC.framed (perm_mid A B R) (WC.mono h fun d B' hK => ⟨_, perm_mid A B' R, hK⟩))
theorem WC.fst {B R : Mu} {f : Value} {as : List D} {kd} (h : WC G k f as kd B fun d B' => K d (B' ++ R)) : WC G k f as kd (B ++ R) K := WC.mid (A := []) h
theorem WC.snd {A B : Mu} {f : Value} {as : List D} {kd} (h : WC G k f as kd B fun d B' => K d (A ++ B')) : WC G k f as kd (A ++ B) K := WC.framed (.refl _) h
theorem WC.lvT {j : Nat} {f : Value} {as : List D} {kd} (h : WC G j f as kd μ K) (hj : j ≤ k) : WCv G k f as kd μ K := WC.toV (h.lv hj)
theorem WT.or2 {a b : Expr} {p : Pos} (h : WT G k sc σ a μ fun c μ1 => if c = true then KT true μ1 else WT G k sc σ b μ1 KT) : WT G k sc σ (.BoolOp .Or [a, b] p) μ KT := by
  refine WT.bool (WT.mono h fun c μ1 hc => ?_)
  cases c with
  | true => simpa using hc
  | false => exact WT.mono (by simpa using hc) fun d μ2 hd => by cases d <;> exact hd
theorem WLC.ind {α : Type} {x : Str} {p : Pos} {elt : Expr} {KD : List D → Mu → Prop} (F : α → D) (P : List α → List D → Mu → Prop) (hx : sc.lookup x = some .local) (h0 : σ.lookup x = none) (hnil : ∀ acc μ, P [] acc μ → KD acc μ)
    (hcons : ∀ a as acc μ, P (a :: as) acc μ → WE G k sc (setS σ x (F a)) elt μ fun d μ1 => P as (acc ++ [d]) μ1) : ∀ as acc μ, P as acc μ → WLC G k sc elt (.Name x p) [] KD (as.map F) σ acc μ := by
  intro as
  induction as with
  | nil => exact fun acc μ h => hnil acc μ h
  | cons a as ih => exact fun acc μ h => WLC.cons0 (WAL.name hx (WE.mono (hcons a as acc μ h) fun d μ1 hd => WLC.weak (SgLe.set h0) (ih _ _ hd)))
theorem SgLe.setAll {xs : List Str} {ds : List D} (hx : ∀ x ∈ xs, σ.lookup x = none) : ∀ {σ2 : Sg}, SgLe σ σ2 → SgLe σ (setAll σ2 xs ds) := by
  induction xs generalizing ds with
  | nil => intro σ2 h; cases ds <;> exact h
  | cons x xs ih =>
    intro σ2 h
    cases ds with
    | nil => exact h
    | cons d ds =>
      refine ih (fun y hy => hx y (.tail _ hy)) (fun y e he => ?_)
      rw [setS_lookup, if_neg fun q => by rw [q, hx x (.head _)] at he; cases he]
      exact h y e he
theorem WLC.mapT {α : Type} {es : List Expr} {n : Nat} {p : Pos} {elt : Expr} {names : List Str} {KD : List D → Mu → Prop} (Fs : α → List D) (g : α → D) (hn : allNames es = some names) (hx : (names.all fun x => sc.lookup x == some .local) = true) (h0 : ∀ x ∈ names, σ.lookup x = none) (items : List α) : ∀ (acc : List D),
    (∀ a ∈ items, names.length = (Fs a).length) → (∀ a ∈ items, WE G k sc (setAll σ names (Fs a)) elt μ fun d μ1 => d = g a ∧ μ1 = μ) → KD (acc ++ items.map g) μ → WLC G k sc elt (.Tuple es n p) [] KD (items.map fun a => .tup (Fs a)) σ acc μ := by
  induction items with
  | nil => intro acc _ _ h; exact WLC.nil' (by simpa using h)
  | cons a items ih =>
    intro acc hl hb h
    refine WLC.cons0 (WAL.tup hn hx (hl a (.head _)) (WE.mono (hb a (.head _)) fun d μ1 ⟨e1, e2⟩ => ?_))
    subst e1 e2
    exact WLC.weak (SgLe.setAll h0 SgLe.refl) (ih _ (fun b hb' => hl b (.tail _ hb')) (fun b hb' => hb b (.tail _ hb')) (by simpa using h))
theorem perm_count {A B : Mu} (h : ∀ (f : Addr × Cell → Nat), (A.map f).sum = (B.map f).sum) : A.Perm B := by
  classical
  refine List.perm_iff_count.mpr fun a => ?_
  have := h fun b => if b == a then 1 else 0
  have e : ∀ l : Mu, (l.map fun b => if b == a then 1 else 0).sum = l.count a := by
    intro l
    induction l with
    | nil => rfl
    | cons b l ih => rw [List.map_cons, List.sum_cons, ih, List.count_cons, Nat.add_comm]
  rw [e, e] at this
  exact this
theorem sum_app (A B : Mu) (f : Addr × Cell → Nat) : ((A ++ B).map f).sum = (A.map f).sum + (B.map f).sum := by rw [List.map_append, List.sum_append]
theorem WDC.weak {kx vx t : Expr} {ifs : List Expr} {KD : List (Str × D) → Mu → Prop} {items : List D} {acc : List (Str × D)} (hs : SgLe σ' σ) (h : WDC G k sc kx vx t ifs KD items σ' acc μ) : WDC G k sc kx vx t ifs KD items σ acc μ := by
  cases items with
  | nil => exact h
  | cons d ds => exact WAL.weak hs h
theorem WDC.pick {α : Type} {x : Str} {p : Pos} {kx vx c : Expr} {KD : List (Str × D) → Mu → Prop} (F : α → D) (key : α → Str) (g : α → D) (q : α → Bool) (hx : sc.lookup x = some .local) (h0 : σ.lookup x = none) (items : List α) : ∀ (acc : List (Str × D)),
    (∀ a ∈ items, WT G k sc (setS σ x (F a)) c μ fun b μ1 => b = q a ∧ μ1 = μ) → (∀ a ∈ items, q a = true → WE G k sc (setS σ x (F a)) kx μ fun dk μ1 => dk = .str (key a) ∧ WE G k sc (setS σ x (F a)) vx μ1 fun d μ2 => d = g a ∧ μ2 = μ) →
    KD ((items.filter q).foldl (fun acc a => putD acc (key a) (g a)) acc) μ → WDC G k sc kx vx (.Name x p) [c] KD (items.map F) σ acc μ := by
  induction items with
  | nil => intro acc _ _ h; exact h
  | cons a items ih =>
    intro acc ht hb h
    refine WAL.name hx (WT.mono (ht a (.head _)) fun b μ1 ⟨e1, e2⟩ => ?_)
    subst e1 e2
    cases hq : q a with
    | true =>
      simp only [if_true]
      refine WE.mono (hb a (.head _) hq) fun dk μ1 ⟨e1, h2⟩ => ⟨key a, e1, WE.mono h2 fun d μ2 ⟨e3, e4⟩ => ?_⟩
      subst e1 e3 e4
      exact WDC.weak (SgLe.set h0) (ih _ (fun b hb' => ht b (.tail _ hb')) (fun b hb' => hb b (.tail _ hb')) (by simpa [List.filter_cons, hq] using h))
    | false =>
      simp only [Bool.false_eq_true, if_false]
      exact WDC.weak (SgLe.set h0) (ih _ (fun b hb' => ht b (.tail _ hb')) (fun b hb' => hb b (.tail _ hb')) (by simpa [List.filter_cons, hq] using h))
theorem bind2k {s : Shared} {vs : List Value} {kv : List (Str × Value)} {d e f : D} {fd : FuncData} {x y z : Str} (r : Rs G φ vs [d, e]) (rk : Rkw G φ kv [(z, f)]) (h : ∀ v w u, bindArgs fd ⟨[v, w], [(z, u)]⟩ = pure [(x, v), (y, w), (z, u)]) : ∃ bs, BindsTo s fd ⟨vs, kv⟩ bs ∧ Rkw G φ bs [(x, d), (y, e), (z, f)] := by
  obtain ⟨v, w, rfl, r1, r2⟩ := rs2 r
  obtain ⟨k1, k2⟩ := rk
  cases kv with
  | nil => cases k1
  | cons a b =>
    cases b with
    | nil =>
      obtain ⟨n, u⟩ := a
      simp only [List.map_cons, List.map_nil, List.cons.injEq, and_true] at k1
      subst k1
      obtain ⟨u', e', r3⟩ := rs1 k2
      cases e'
      exact ⟨_, .of_eq (h v w u), rfl, .cons r1 (.cons r2 (.cons r3 .nil))⟩
    | cons => cases k1
theorem bind1 {s : Shared} {vs : List Value} {d : D} {fd : FuncData} {x : Str} (r : Rs G φ vs [d]) (h : ∀ v, bindArgs fd ⟨[v], []⟩ = pure [(x, v)]) : ∃ bs, BindsTo s fd ⟨vs, []⟩ bs ∧ Rkw G φ bs [(x, d)] := by
  obtain ⟨v, rfl, r1⟩ := rs1 r
  exact ⟨_, .of_eq (h v), rfl, .cons r1 .nil⟩
theorem bind2 {s : Shared} {vs : List Value} {d e : D} {fd : FuncData} {x y : Str} (r : Rs G φ vs [d, e]) (h : ∀ v w, bindArgs fd ⟨[v, w], []⟩ = pure [(x, v), (y, w)]) : ∃ bs, BindsTo s fd ⟨vs, []⟩ bs ∧ Rkw G φ bs [(x, d), (y, e)] := by
  obtain ⟨v, w, rfl, r1, r2⟩ := rs2 r
  exact ⟨_, .of_eq (h v w), rfl, .cons r1 (.cons r2 .nil)⟩
theorem bind3 {s : Shared} {vs : List Value} {d e f : D} {fd : FuncData} {x y z : Str} (r : Rs G φ vs [d, e, f]) (h : ∀ v w u, bindArgs fd ⟨[v, w, u], []⟩ = pure [(x, v), (y, w), (z, u)]) : ∃ bs, BindsTo s fd ⟨vs, []⟩ bs ∧ Rkw G φ bs [(x, d), (y, e), (z, f)] := by
  obtain ⟨v, w, u, rfl, r1, r2, r3⟩ := rs3 r
  exact ⟨_, .of_eq (h v w u), rfl, .cons r1 (.cons r2 (.cons r3 .nil))⟩
theorem bind0 {s : Shared} {vs : List Value} {fd : FuncData} (r : Rs G φ vs []) (h : bindArgs fd ⟨[], []⟩ = pure []) : ∃ bs, BindsTo s fd ⟨vs, []⟩ bs ∧ Rkw G φ bs [] := by
  rw [Rs.nil_iff] at r; subst r
  exact ⟨[], .of_eq h, rfl, .nil⟩
theorem bind1d {s : Shared} {vs : List Value} {d : D} {fd : FuncData} {x y : Str} (r : Rs G φ vs [d]) (h : ∀ v, BindsTo s fd ⟨[v], []⟩ [(x, v), (y, .none)]) : ∃ bs, BindsTo s fd ⟨vs, []⟩ bs ∧ Rkw G φ bs [(x, d), (y, .none)] := by
  obtain ⟨v, rfl, r1⟩ := rs1 r
  exact ⟨_, h v, rfl, .cons r1 (.cons .none .nil)⟩
theorem bind3b {s : Shared} {vs : List Value} {d e f : D} {fd : FuncData} {x y z : Str} (r : Rs G φ vs [d, e, f]) (h : ∀ v w u, BindsTo s fd ⟨[v, w, u], []⟩ [(x, v), (y, w), (z, u)]) : ∃ bs, BindsTo s fd ⟨vs, []⟩ bs ∧ Rkw G φ bs [(x, d), (y, e), (z, f)] := by
  obtain ⟨v, w, u, rfl, r1, r2, r3⟩ := rs3 r
  exact ⟨_, h v w u, rfl, .cons r1 (.cons r2 (.cons r3 .nil))⟩
theorem WC.kw {f : Addr} {fd : FuncData} {as : List D} {kd ps : Sg} (hk : k < 40) (hf : fdIn G.K f = some fd) (hc : fnChk G.K fd = true) (hb : ∀ φ s vs kv, Inv G φ μ s → Rs G φ vs as → Rkw G φ kv kd → ∃ bs, BindsTo s fd ⟨vs, kv⟩ bs ∧ Rkw G φ bs ps)
    (hn : (ps.map (·.1)).Nodup) (hown : (ps.map (·.1)).all (isOwn fd.scope.names) = true)
    (h : WB G k fd.scope.names ps (bodyOf fd) μ fun fl _ μ' => K (retOf fl) μ') : WC G (k + 1) (.ref f) as kd μ K :=
  WC.fn hk (FnAt.of hf hc) (fun φ s vs kv I r rk => hb φ s vs kv I r rk) hn hown h
end
theorem noCell : ∀ (names : Sc) (n : Nat) (acc : List (Str × Addr)) (h : Heap), names.filter (fun p => p.2 == .cell) = [] → cellsFrom n names acc = acc ∧ pushCells h names = h
  | [], _, _, _, _ => ⟨rfl, rfl⟩
  | (y, kd) :: r, n, acc, h, e => by
    rw [List.filter_cons] at e
    split at e
    · cases e
    · rename_i hk
      unfold cellsFrom pushCells
      rw [if_neg hk, if_neg hk]
      exact noCell r n acc h e
theorem oneCell {x : Str} : ∀ (names : Sc) (n : Nat) (acc : List (Str × Addr)) (h : Heap), names.filter (fun p => p.2 == .cell) = [(x, .cell)] →
    cellsFrom n names acc = (x, n) :: acc ∧ pushCells h names = h.push { cls := .type "cell", data := .cell none }
  | [], _, _, _, e => nomatch e
  | (y, kd) :: r, n, acc, h, e => by
    rw [List.filter_cons] at e
    unfold cellsFrom pushCells
    split at e
    · rename_i hk
      rw [if_pos hk, if_pos hk]
      injection e with e1 e2
      cases e1
      exact noCell r _ _ _ e2
    · rename_i hk
      rw [if_neg hk, if_neg hk]
      exact oneCell r n acc h e
section
variable {G : Gr} {k : Nat} {φ φ' : Fs} {μ μ' : Mu} {s s' : Shared} {sc scC : Sc} {σ σ' : Sg} {env : Env} {K K' : D → Mu → Prop} {KT KT' : Bool → Mu → Prop} {KB KB' : Fl → Sg → Mu → Prop}
theorem newEnvC {M : Model} {A : Around} {E : Value → Shared → Prop} {scope : Scope} {cl : List (Str × Addr)} {x : Str} {Q : Env → Shared → Prop} (hone : scope.names.filter (fun p => p.2 == .cell) = [(x, .cell)])
    (hQ : ∀ h', h'.Ns s.heap.objs.size (fun _ => none) → h'.IsCell (s.heap.objs.size + 1) none → (∀ b o, s.heap.get? b = some o → h'.get? b = some o) →
      Q (newEnv scope s.heap.objs.size env.globals ((x, s.heap.objs.size + 1) :: cl) env.qual none .none (some env) builtinsNs) { s with heap := h' }) :
    wpAny M A (newFunctionEnv scope env.globals cl [] env.qual none .none (some env)) Q E s := by
  simp only [newFunctionEnv, Option.isSome_some, if_true]
  simp only [newEnv] at hQ
  refine wpAny_bind (wpAny_alloc ?_)
  refine wpAny_bind (wpAny_layCells _ (fun name kind cells => by cases hkc : kind == NameKind.cell <;> simp [hkc]) _ _ _ _ ?_)
  obtain ⟨e1, e2⟩ := oneCell (x := x) scope.names ((s.heap.push { cls := .type "dict", data := .dict #[] }).objs.size) cl (s.heap.push { cls := .type "dict", data := .dict #[] }) hone
  dsimp only
  rw [e1, e2]
  refine wpAny_bind (wpAny_pure (wpAny_pure ?_))
  rw [Heap.size_push]
  have hn : (s.heap.push { cls := .type "dict", data := .dict #[] }).Ns s.heap.objs.size (fun _ => none) := Heap.Ns.new ..
  have kp : ∀ b o, (s.heap.push { cls := .type "dict", data := .dict #[] }).get? b = some o → ((s.heap.push { cls := .type "dict", data := .dict #[] }).push { cls := .type "cell", data := .cell none }).get? b = some o := fun b o e => Heap.get?_push_of_some _ e
  refine hQ _ ?_ ?_ ?_
  · obtain ⟨o, es, ep, ho, hd⟩ := hn
    exact ⟨o, es, ep, kp _ _ ho, hd⟩
  · refine ⟨{ cls := .type "cell", data := .cell none }, ?_, rfl⟩
    rw [show s.heap.objs.size + 1 = (s.heap.push { cls := .type "dict", data := .dict #[] }).objs.size from (Heap.size_push ..).symm]
    exact Heap.get?_push_size _ rfl
  · exact fun b o e => kp b o (Heap.get?_push_of_some _ e)
noncomputable def compOkC (x : Str) (sc names : Sc) : Bool := (names.filter (fun p => p.2 == .cell) == [(x, .cell)]) && names.all (fun (n, k) => k != .free || ((match sc.lookup n with | some .cell => true | _ => false) && !(n == x))) && (names.lookup x == some .cell)
theorem compOkC_of {x : Str} {names : Sc} (h : compOkC x sc names = true) : names.filter (fun p => p.2 == .cell) = [(x, .cell)] ∧ (∀ n, (n, NameKind.free) ∈ names → sc.lookup n = some .cell ∧ n ≠ x) ∧ names.lookup x = some .cell := by
  unfold compOkC at h
  simp only [Bool.and_eq_true, beq_iff_eq] at h
  obtain ⟨⟨h1, h2⟩, h3⟩ := h
  refine ⟨h1, fun n hn => ?_, h3⟩
  have := List.all_eq_true.mp h2 _ hn
  simp only [bne_self_eq_false, Bool.false_or, Bool.and_eq_true, Bool.not_eq_true', beq_eq_false_iff_ne] at this
  refine ⟨?_, this.2⟩
  have h4 := this.1
  split at h4
  · assumption
  · cases h4
theorem compC_hex {x : Str} {names : Sc} {h : Heap} (E : EnvR G φ μ sc σ env h) (hok : compOkC x sc names = true) : ∀ n, (n, NameKind.free) ∈ names → ∃ c, env.cells.lookup n = some c := fun n hn => by
  obtain ⟨c, v, hc, _⟩ := E.own n ((compOkC_of hok).2.1 n hn).1
  exact ⟨c, hc⟩
noncomputable def cenvC (x : Str) (c : Addr) (scope : Scope) (cl : List (Str × Addr)) (C : Addr) (env : Env) : Env := { compEnvC scope cl C env with cells := (x, c) :: cl }
theorem comp_envC {x : Str} {scope : Scope} {C c : Addr} {h h' : Heap} (E : EnvR G φ μ sc σ env h) (hok : compOkC x sc scope.names = true) (hkind : scope.kind = .function) (hk : ∀ b o, h.get? b = some o → h'.get? b = some o)
    (hC : h.get? C = none) (hφ : φ C = none) (hμ : ∀ p ∈ μ, p.1 ≠ C) (hc : h.get? c = none) (hφc : φ c = none) (hμc : ∀ p ∈ μ, p.1 ≠ c) (hcC : c ≠ C) (hN : h'.Ns C fun _ => none) (hcell : h'.IsCell c none) (hσ : σ.lookup x = none) :
    EnvR G φ μ (relabelN sc scope.names) (capF (relabelN sc scope.names) σ) (cenvC x c scope (clOf env scope.names []) C env) h' := by
  have hex := compC_hex E hok
  obtain ⟨hone, hfree, hxl⟩ := compOkC_of hok
  have hcl : ∀ {y c}, (clOf env scope.names []).lookup y = some c → env.cells.lookup y = some c := fun h => clOf_mem scope.names [] _ _ hex (fun _ _ h => nomatch h) (mem_of_lookup h)
  have hown : ∀ {y}, (y, NameKind.cell) ∈ scope.names → y = x := fun {y} hy => by
    have : (y, NameKind.cell) ∈ scope.names.filter (fun p => p.2 == .cell) := List.mem_filter.mpr ⟨hy, rfl⟩
    rw [hone] at this
    exact (Prod.mk.inj (List.mem_singleton.mp this)).1
  have hrel : ∀ {y}, (relabelN sc scope.names).lookup y = some .cell → y ≠ x → sc.lookup y = some .cell ∧ (y, NameKind.free) ∈ scope.names := fun {y} h hne => by
    rcases lookup_relabelN h with ⟨_, h1, h2⟩ | h
    · exact ⟨h1, h2⟩
    · exact absurd (hown h) hne
  have hrf : ∀ {y}, (relabelN sc scope.names).lookup y = some .free → sc.lookup y = some .cell ∧ (y, NameKind.free) ∈ scope.names := fun {y} h => by
    rcases lookup_relabelN h with ⟨h1, _⟩ | h
    · cases h1
    · exact ⟨(hfree _ h).1, h⟩
  have hasc : ∀ {y}, (y, NameKind.free) ∈ scope.names → ∃ c, (clOf env scope.names []).lookup y = some c := fun h => lookup_some_of_mem (clOf_has scope.names [] _ (.inl h))
  have cellk : ∀ {c v}, h.IsCell c v → h'.IsCell c v := fun ⟨o, ho, hd⟩ => ⟨o, hk _ _ ho, hd⟩
  have lk : ∀ {y}, y ≠ x → ((x, c) :: clOf env scope.names []).lookup y = (clOf env scope.names []).lookup y := fun {y} hne => by
    rw [List.lookup_cons, beq_eq_false_iff_ne.mpr hne]
  have lx : ((x, c) :: clOf env scope.names []).lookup x = some c := by rw [List.lookup_cons, beq_self_eq_true]
  have old : ∀ {y a}, env.cells.lookup y = some a → a ≠ c := fun {y a} hy e => by
    obtain ⟨_, v, o, ho, _⟩ := E.cmu y a hy
    rw [e, hc] at ho; cases ho
  refine ⟨⟨hkind, relabel_names E.ok, E.ok.globals, E.ok.builtins⟩, hφ, hμ, ⟨_, hN, fun y d h1 h2 => ?_⟩, fun y d h1 h2 => ?_, fun y hy => ?_, fun y a hy => ?_, fun y z a hy hz => ?_⟩
  · obtain ⟨h3, _⟩ := capF_lookup h2
    rw [h1] at h3; rcases h3 with h3 | h3 <;> cases h3
  · obtain ⟨_, h3⟩ := capF_lookup h2
    have hne : y ≠ x := fun e => by rw [e, hσ] at h3; cases h3
    have h4 : sc.lookup y = some .cell ∧ (y, NameKind.free) ∈ scope.names := by rcases h1 with h1 | h1; exact hrel h1 hne; exact hrf h1
    obtain ⟨a, v, ha, hv, r⟩ := E.cell y d (.inl h4.1) h3
    obtain ⟨c', hc'⟩ := hasc h4.2
    have := hcl hc'
    rw [ha] at this; cases this
    exact ⟨a, v, (lk hne).trans hc', cellk hv, r⟩
  · by_cases hne : y = x
    · subst hne
      exact ⟨c, none, lx, hcell, hφc, hcC⟩
    · obtain ⟨h1, h2⟩ := hrel hy hne
      obtain ⟨a, v, ha, hv, h3, h4⟩ := E.own y h1
      obtain ⟨c', hc'⟩ := hasc h2
      have := hcl hc'
      rw [ha] at this; cases this
      refine ⟨a, v, (lk hne).trans hc', cellk hv, h3, fun e => ?_⟩
      obtain ⟨o, ho, _⟩ := hv
      have e' : a = C := e
      rw [e', hC] at ho; cases ho
  · have hy : ((x, c) :: clOf env scope.names []).lookup y = some a := hy
    by_cases hne : y = x
    · rw [hne, lx] at hy; cases hy
      exact ⟨hμc, none, hcell⟩
    · rw [lk hne] at hy
      obtain ⟨h1, v, hv⟩ := E.cmu y a (hcl hy)
      exact ⟨h1, v, cellk hv⟩
  · have hy : ((x, c) :: clOf env scope.names []).lookup y = some a := hy
    have hz : ((x, c) :: clOf env scope.names []).lookup z = some a := hz
    by_cases h1 : y = x <;> by_cases h2 : z = x
    · rw [h1, h2]
    · rw [h1, lx] at hy; rw [lk h2] at hz; cases hy
      exact absurd rfl (old (hcl hz))
    · rw [h2, lx] at hz; rw [lk h1] at hy; cases hz
      exact absurd rfl (old (hcl hy))
    · rw [lk h1] at hy; rw [lk h2] at hz
      exact E.apart y z a (hcl hy) (hcl hz)
theorem relabel_cell {x : Str} : ∀ {names : Sc}, names.lookup x = some .cell → (relabelN sc names).lookup x = some .cell
  | [], h => nomatch h
  | (n, kd) :: r, h => by
    show List.lookup x ((if (kd == NameKind.free && sc.lookup n == some .cell) = true then (n, NameKind.cell) else (n, kd)) :: relabelN sc r) = _
    cases hx : x == n with
    | true =>
      simp only [List.lookup_cons, hx] at h
      cases h
      simp [List.lookup_cons, hx]
    | false =>
      simp only [List.lookup_cons, hx] at h
      have ih := relabel_cell h
      split
      · simp only [List.lookup_cons, hx]; exact ih
      · simp only [List.lookup_cons, hx]; exact ih
noncomputable def WLCc (G : Gr) (k : Nat) (sc : Sc) (x : Str) (elt : Expr) (KD : List D → Mu → Prop) (σ0 : Sg) : List D → List D → Mu → Prop
  | [], acc, μ => KD acc μ
  | d :: ds, acc, μ => WE G k sc (setS σ0 x d) elt μ fun y μ1 => WLCc G k sc x elt KD σ0 ds (acc ++ [y]) μ1
theorem listcompC_core {x : Str} {elt iter : Expr} {px : Pos} {scope : Scope} {pos : Pos} {use : Option (Value → Sem Unit)} {Q : Value → Shared → Prop}
    (h : WI G k sc σ (.Name x px) iter μ fun items hid μ1 => items.length ≤ 1000000 ∧ WLCc G k (relabelN sc scope.names) x elt (fun ys μ2 => K (.list ys) (hid ++ μ2)) (capF (relabelN sc scope.names) σ) items [] μ1)
    (hok : compOkC x sc scope.names = true) (hkind : scope.kind = .function) (hnames : ∀ x ∈ scope.names, x.2 = .local → scope.names.lookup x.1 = some .local) (hσ : σ.lookup x = none)
    (hs : ∀ env x, foldedSetIterable iter env x = pure x) (I0 : Inv G φ μ s) (E0 : EnvR G φ μ sc σ env s.heap)
    (hfin : ∀ acc C s', CompEnd G φ μ s K acc C s' → compPost G.M (Lv k) Nev use Q acc C (.ok .next) s') :
    wpAny G.M (Lv k) (comprehension (.ListComp elt [⟨.Name x px, iter, [], 0⟩] scope pos) scope env (firstIterPos [⟨.Name x px, iter, [], 0⟩] pos) (newList []) (firstAsync [⟨.Name x px, iter, [], 0⟩]) (firstIter [⟨.Name x px, iter, [], 0⟩] env) use) Q Nev s := by
  refine wpAny_comprehension_free (cl := clOf env scope.names []) rfl (hs env) (closureFor_of (compC_hex E0 hok)) hkind hnames ?_
  show wpAny G.M (Lv k) (eval iter env) _ _ s
  refine h env φ s _ I0 E0 fun I fp wr P St items hid φ1 μ1 s1 st0 T0 hst0 hwf hwh hfp hlo ⟨hlen, hL⟩ => ?_
  refine wpAny_newObj_type (newEnvC (x := x) (compOkC_of hok).1 (fun h₁ hns₁ hcell₁ hkp₁ => ?_))
  dsimp only at hns₁ hcell₁ hkp₁ ⊢
  generalize hA : s1.heap.objs.size = A
  generalize hH2 : s1.heap.push { cls := .type "list", dict := none, data := .seq ([] : List Value).toArray } = H2 at hns₁ hcell₁ hkp₁ ⊢
  generalize hC : H2.objs.size = C at hns₁ hcell₁ ⊢
  have hCA : C = A + 1 := by rw [← hC, ← hH2, Heap.size_push, hA]
  generalize hc : C + 1 = c at hcell₁ ⊢
  have hcA : c = A + 2 := by rw [← hc, hCA]
  have hAC : A < C := by rw [hCA]; exact Nat.lt_succ_self _
  have hAc : A < c := by rw [hcA]; exact Nat.lt_of_lt_of_le (Nat.lt_succ_self _) (Nat.le_succ _)
  have hcC : c ≠ C := by rw [← hc]; exact Nat.succ_ne_self _
  have nC : s1.heap.get? C = none := fresh_none s1 (by rw [hA]; exact Nat.le_of_lt hAC)
  have nc : s1.heap.get? c = none := fresh_none s1 (by rw [hA]; exact Nat.le_of_lt hAc)
  have E1 : EnvR G φ1 μ1 sc σ env s1.heap := (E0.step st0).sub fun p hp => List.mem_append_right _ hp
  have I1 : Inv G φ1 μ1 s1 := st0.inv.sub_mu (fun p hp => List.mem_append_right _ hp) (by have := st0.inv.nd; rw [List.map_append, List.nodup_append] at this; exact this.2.1)
  have apC := new_apart (X := []) I1 (fun _ h => nomatch h) nC
  have apc := new_apart (X := []) I1 (fun _ h => nomatch h) nc
  have getA : H2.get? A = some (listOf #[] 0) := by rw [← hH2, ← hA]; exact Heap.get?_push_size _ rfl
  have kp : ∀ b o, s1.heap.get? b = some o → h₁.get? b = some o := fun b o e => hkp₁ b o (by rw [← hH2]; exact Heap.get?_push_of_some _ e)
  have F := comp_fr0 (Y := [c]) st0 I1 T0 hst0 hwf hwh hfp hA (fun y hy => by
      rcases List.mem_cons.mp hy with rfl | hy
      · exact hAC
      · rw [List.mem_singleton.mp hy]; exact hAc) kp (hkp₁ A _ getA) (comp_envC (c := c) E1 hok hkind kp nC apC.1 apC.2.1 nc apc.1 apc.2.1 hcC hns₁ hcell₁ hσ) fun a ha => by
    rcases mem_xs.mp ha with rfl | ⟨n, hn⟩
    · exact .inl (.head _)
    · have hn : ((x, c) :: clOf env scope.names []).lookup n = some a := hn
      rcases List.mem_cons.mp (mem_of_lookup hn) with e | hm
      · cases e; exact .inl (.tail _ (.head _))
      · exact .inr (E0.there a (mem_xs.mpr (.inr ⟨n, clOf_mem scope.names [] _ _ (compC_hex E0 hok) (fun _ _ h => nomatch h) hm⟩)))
  have hxc : (relabelN sc scope.names).lookup x = some .cell := relabel_cell (compOkC_of hok).2.2
  have hlx : (cenvC x c scope (clOf env scope.names []) C env).cells.lookup x = some c := by
    show List.lookup x ((x, c) :: clOf env scope.names []) = some c
    rw [List.lookup_cons, beq_self_eq_true]
  generalize hσ0 : capF (relabelN sc scope.names) σ = σ0 at hL F
  have hσx : σ0.lookup x = none := by
    rw [← hσ0]
    cases e : (capF (relabelN sc scope.names) σ).lookup x with
    | none => rfl
    | some d => have := (capF_lookup e).2; rw [hσ] at this; cases this
  show codeAny G.M (Lv k) (.compStart (.ListComp elt [⟨.Name x px, iter, [], 0⟩] scope pos) 0 (.ref I) (.ref A) (cenvC x c scope (clOf env scope.names []) C env)) (compPost G.M (Lv k) Nev use Q (.ref A) C) { s1 with heap := h₁, toks := s1.toks }
  have hloc : (cenvC x c scope (clOf env scope.names []) C env).locals = C := rfl
  generalize cenvC x c scope (clOf env scope.names []) C env = envC at F hlx hloc ⊢
  refine lc_core (Y := [c]) (fun ds σ' acc μ' => σ' = σ0 ∧ WLCc G k (relabelN sc scope.names) x elt (fun ys μ2 => K (.list ys) (hid ++ μ2)) σ0 ds acc μ') F hloc (fun h => ?_) hlo hlen ⟨rfl, hL⟩ (fun d ds σ' acc μ φ s v hw I E r => ?_) (fun _ _ _ h => h.2) hfin
  · rcases List.mem_cons.mp h with h | h
    · exact F.hAC h
    · exact Nat.ne_of_lt hAc (List.mem_singleton.mp h)
  · obtain ⟨rfl, hw⟩ := hw
    exact wpAny_assign_Name (store_ofC I E r hxc hlx fun h4 tk4 st4 E4 => wpAny_pure ⟨_, _, _, _, st4.more fun _ h => .tail _ h, E4, fun _ _ _ h => h.weak (SgLe.set hσx), WE.mono hw fun _ _ h => ⟨rfl, h⟩⟩)
end
section
variable {G : Gr} {k : Nat} {φ φ' : Fs} {μ μ' : Mu} {s s' : Shared} {sc scC : Sc} {σ σ' : Sg} {env : Env} {K K' : D → Mu → Prop} {KT KT' : Bool → Mu → Prop} {KB KB' : Fl → Sg → Mu → Prop}
theorem WS.assignCC (x : Str) {y : Str} {elt iter : Expr} {px : Pos} {scope : Scope} {pos p p' : Pos}
    (h : WI G k sc σ (.Name x px) iter μ fun items hid μ1 => items.length ≤ 1000000 ∧ WLCc G k (relabelN sc scope.names) x elt (fun ys μ2 => KB .next (setS σ y (.list ys)) (hid ++ μ2)) (capF (relabelN sc scope.names) σ) items [] μ1)
    (hx : isOwn sc y = true) (hw : (sc.lookup y == some .local && p'.line == pos.line && !(scope.names.any fun (n, k) => n == y && (k == .local || k == .cell))) = true)
    (hok : compOkC x sc scope.names = true) (hnames : compNames scope.names = true) (hkind : scope.kind = .function) (hσ : σ.lookup x = Option.none)
    (hs : ∀ env x, foldedSetIterable iter env x = pure x) : WS G k sc σ (.Assign [.Name y p'] (.ListComp elt [⟨.Name x px, iter, [], 0⟩] scope pos) p) μ KB := fun env φ s I E => by
  rw [exec_Assign_Name_used _ _ _ _ (by rw [swaps_list E.ok, hw])]
  refine wpAny_bind (wpAny_standAt (wpAny_bind ?_))
  rw [arm_evalThenUse_ListComp]
  refine wpAny_bind (listcompC_core (use := some _) (K := fun d μ1 => KB .next (setS σ y d) μ1) h hok hkind (compNames_of hnames) hσ hs I E fun acc C s' hc => used_of hx E hc fun v s'' hp => ?_)
  exact wpAny_pure (wpAny_pure hp)
theorem WLCc.ind {α : Type} {x : Str} {elt : Expr} {KD : List D → Mu → Prop} {σ0 : Sg} (F : α → D) (P : List α → List D → Mu → Prop) (hnil : ∀ acc μ, P [] acc μ → KD acc μ)
    (hcons : ∀ a as acc μ, P (a :: as) acc μ → WE G k sc (setS σ0 x (F a)) elt μ fun d μ1 => P as (acc ++ [d]) μ1) : ∀ as acc μ, P as acc μ → WLCc G k sc x elt KD σ0 (as.map F) acc μ := by
  intro as
  induction as with
  | nil => exact fun acc μ h => hnil acc μ h
  | cons a as ih => exact fun acc μ h => WE.mono (hcons a as acc μ h) fun d μ1 hd => ih _ _ hd
theorem V.addM {xs ys : List D} (hl : xs.length + ys.length ≤ 1000000) (h : ∀ a, K (.loc a) ((a, .list (xs ++ ys)) :: μ)) : WV2 G k (.list xs) (.list ys) μ (binaryOp .Add) K := fun φ s v1 v2 I r1 r2 => by
  obtain ⟨a, vs, n, rfl, ho, ra⟩ := R.list_iff.mp r1
  obtain ⟨b, ws, m, rfl, hp, rb⟩ := R.list_iff.mp r2
  refine PySem.P.add_list (n := n) (n2 := m) (I.sub _ _ ho) (I.sub _ _ hp) ?_ (sizeLine_le (by rw [List.size_toArray, List.size_toArray, ra.1, rb.1]; exact hl))
  have e : vs.toArray ++ ws.toArray = (vs ++ ws).toArray := by simp
  rw [e]
  exact (new_listM I (ra.append rb)).mono fun d μ' ⟨a, e1, e2⟩ => by rw [e1, e2]; exact h a
theorem setItem_listP {prog : Program} {w : World} {A : Around} {E : Value → Shared → Prop} {l : Addr} {items : Array Value} {n i : Nat} {kI : Int} {t : Tok} {v : Value} {Q : Unit → Shared → Prop} (hl : s.heap.get? l = some (listOf items n)) (hi : i < items.size) (hk : kI = (i : Int)) (hfit : kI < 2 ^ 63)
    (hQ : ∀ h' n', h'.get? l = some (listOf (items.setIfInBounds i v) n') → Heap.SameBut l s.heap h' → Q () { s with heap := h' }) : wpAny (model prog w) A (setItem (.ref l) (.int kI t) v) Q E s := by
  have hli : s.heap.IsList l items := ⟨_, hl, rfl, _, rfl⟩
  have hd : (listOf items n).data = .seq items n := rfl
  unfold setItem
  refine wpAny_holding ?_
  refine wpAny_bind (wpAny_sequenceKey hli.typeIs (by decide) ?_)
  refine wpAny_bind (wpAny_callSpecial?_slot (name := Str.ofString "__setitem__") hli.typeIs slot_list_setitem
    (wpAny_call_entry slot_list_setitem hli.typeIs entry_list_setitem ?_ (args_list_setitem _ _ _)))
  show wpAny _ _ (Builtin.List.listSubscript? (.int kI t) >>= _) _ _ s
  refine wpAny_bind (wpAny_listSubscript_int (fitsIndex_of (by rw [hk]; exact Int.natCast_nonneg i) hfit) ?_)
  clear hfit
  subst hk
  have hx : items[i]? = some items[i] := Array.getElem?_eq_getElem hi
  show wpAny _ _ ((seqItemAt l i >>= fun r => pure (r.map (i, ·))) >>= _) _ _ s
  refine wpAny_bind (wpAny_bind (wpAny_seqItemAt hl hd (wpAny_pure ?_)))
  rw [hx]
  show wpAny _ _ (setSeqItemAt l i v >>= _) _ _ s
  obtain ⟨n', hd'⟩ := Obj.data_mapSeq hd (·.setIfInBounds i v)
  have hg : (s.heap.update l (Obj.mapSeq (·.setIfInBounds i v))).get? l = some (listOf (items.setIfInBounds i v) n') := by
    rw [Heap.get?_update_self _ hl (Obj.isFreed_of_seq hd')]
    unfold Obj.mapSeq at hd' ⊢
    cases hd'
    rfl
  refine wpAny_bind (wpAny_setSeqItemAt hl hd ?_)
  first
    | exact wpAny_bind (wpAny_pure (wpAny_pure ⟨.none, rfl, wpAny_pure (hQ _ _ hg (Heap.SameBut.update ..))⟩))
    | exact wpAny_pure ⟨.none, rfl, wpAny_pure (hQ _ _ hg (Heap.SameBut.update ..))⟩
theorem WS.augL {o e : Expr} {y : Str} {op : Operator} {p p' py : Pos} (h : WE G k sc σ o μ fun d μ1 => WE G k sc σ (.Name y py) μ1 fun di μ2 => Ex4 fun a (i : Nat) xs old => A6 (d = .loc a) (di = .int i) (Has μ2 a (.list xs)) (xs[i]? = some old) (i < 1000000) (WE G k sc σ e μ2 fun dv μ3 => WV2 G k old dv μ3 (inplaceOp op) fun new μ4 => Ex2 fun xs' μ5 => A3 (Chg μ4 a (.list xs') (.list (xs'.set i new)) μ5) (i < xs'.length) (KB .next σ μ5))) : WS G k sc σ (.AugAssign (.Subscript o (.Name y py) p') op e p) μ KB := fun env φ s I E => by
  refine wpAny_AugAssign_Subscript (wpAny_mono (h env φ s I E) (fun ov s1 ⟨d, φ1, μ1, st1, ro, hK⟩ => ?_) nev)
  refine wpAny_mono (hK env φ1 s1 st1.inv (E.step st1)) (fun iv s2 ⟨di, φ2, μ2, st2, ri, a, i, xs, old, hd, hi, hm, hat, hi6, hW⟩ => ?_) nev
  subst hi
  obtain ⟨t, rfl⟩ := R.int_iff.mp ri
  subst hd
  cases R.val_iff.mp ro
  obtain ⟨vs, n, ho, rs⟩ := st2.inv.cells _ hm.mem
  obtain ⟨w, hw, rw'⟩ := rs.get hat
  have hfit : ((i : Nat) : Int) < 2 ^ 63 := by lia
  refine wpAny_getItem_list (l := a) (items := vs.toArray) ⟨_, ho, rfl, _, rfl⟩ (Int.natCast_nonneg i) hfit (by simpa using hw) ?_
  have st2' := st1.trans st2
  refine wpAny_mono (hW env φ2 s2 st2'.inv (E.step st2')) (fun v s3 ⟨dv, φ3, μ3, st3, rv, hK⟩ => ?_) nev
  refine wpAny_mono (hK φ3 s3 _ _ st3.inv (rw'.mono st3.le) rv) (fun nv s4 ⟨new, φ4, μ4, st4, rn, xs', μ5, hc, hl, hW⟩ => ?_) nev
  obtain ⟨vs', n', ho', rs'⟩ := st4.inv.cells _ hc.has.mem
  refine setItem_listP ho' (i := i) (by rw [List.size_toArray, rs'.1]; exact hl) rfl hfit fun h' n2 hg hs => ?_
  have st5 := Step.upd (X := []) (t := s4.toks) st4.inv hc.upd hs.extBut ⟨vs'.set i nv, n2, by simpa using hg, rs'.set rn⟩
  obtain ⟨stx, E5⟩ := E.stepX (((st2'.trans st3).trans st4).trans st5)
  exact ⟨.next, σ, φ4, μ5, stx, E5, trivial, hW⟩
end
section
variable {G : Gr} {k : Nat} {φ φ' : Fs} {μ μ' : Mu} {s s' : Shared} {sc scC : Sc} {σ σ' : Sg} {env : Env} {K K' : D → Mu → Prop} {KT KT' : Bool → Mu → Prop} {KB KB' : Fl → Sg → Mu → Prop}
noncomputable abbrev lc2 (elt t1 i1 t2 i2 : Expr) (scope : Scope) (pos : Pos) : Expr := .ListComp elt [⟨t1, i1, [], 0⟩, ⟨t2, i2, [], 0⟩] scope pos
theorem compTurn_out (elt t1 i1 t2 i2 : Expr) (scope : Scope) (pos : Pos) (it acc : Value) (env : Env) :
    compTurn (lc2 elt t1 i1 t2 i2 scope pos) 0 it acc env = (do
      standAt i1.pos
      match ← pyNext it with
      | none => pure (.done .next)
      | some v =>
        letOwnedTupleGo t1 it v
        assign t1 env v
        let x ← eval i2 env
        standAt i2.pos
        let x ← foldedSetIterable i2 env x
        let _ ← runOwn (.compStart (lc2 elt t1 i1 t2 i2 scope pos) 1 (← holding [x] (pyIter x)) acc env) env
        again (.compLoop (lc2 elt t1 i1 t2 i2 scope pos) 0 it acc env)) := by rfl
theorem compTurn_in (elt t1 i1 t2 i2 : Expr) (scope : Scope) (pos : Pos) (it acc : Value) (env : Env) :
    compTurn (lc2 elt t1 i1 t2 i2 scope pos) 1 it acc env = (do
      standAt i2.pos
      match ← pyNext it with
      | none => pure (.done .next)
      | some v =>
        letOwnedTupleGo t2 it v
        assign t2 env v
        (do let _ ← call (.builtin "list.append") [acc, ← eval elt env])
        again (.compLoop (lc2 elt t1 i1 t2 i2 scope pos) 1 it acc env)) := by rfl
theorem compLoop_in {elt t1 i1 t2 i2 : Expr} {scope : Scope} {pos : Pos} {it acc : Value} {A : Around} {RR : Result → Shared → Prop} (I : Nat → Shared → Prop)
    (turn : ∀ n s, I n s → wpAny G.M A (pyNext it) (fun r s₁ => match r with
      | none => RR (.ok .next) s₁
      | some v => wpAny G.M A (letOwnedTupleGo t2 it v) (fun _ s₀ => wpAny G.M A (assign t2 env v) (fun _ s₂ =>
            wpAny G.M A (eval elt env) (fun x s₄ =>
              wpAny G.M A (call (.builtin "list.append") [acc, x]) (fun _ s₅ => ∃ m, m < n ∧ I m s₅) Nev s₄) Nev s₂) Nev s₀) Nev s₁) Nev s)
    (n : Nat) (h : I n s) : codeAny G.M A (.compLoop (lc2 elt t1 i1 t2 i2 scope pos) 1 it acc env) RR s := by
  refine codeAny_loop rfl I (fun n s hI => ?_) n h
  show wpAny _ A ((compTurn (lc2 elt t1 i1 t2 i2 scope pos) 1 it acc env).onRaise (fun x => do noteFrame x env; theTreesLotGoes x)) _ _ s
  refine wpAny_noted ?_
  rw [compTurn_in]
  refine wpAny_bind (wpAny_standAt (wpAny_bind (wpAny_mono (turn n s hI) (fun r s₁ h₁ => ?_) nev)))
  cases r with
  | none => exact wpAny_pure h₁
  | some v =>
    refine wpAny_bind (wpAny_mono h₁ (fun _ s₀ h₀ => ?_) nev)
    refine wpAny_bind (wpAny_mono h₀ (fun _ s₂ h₂ => ?_) nev)
    exact wpAny_bind (wpAny_bind (wpAny_mono h₂ (fun x s₄ h₄ => wpAny_bind (wpAny_mono h₄ (fun _ s₅ h₅ => wpAny_pure (wpAny_pure ⟨rfl, h₅⟩)) nev)) nev))
theorem compLoop_out {elt t1 i1 t2 i2 : Expr} {scope : Scope} {pos : Pos} {it acc : Value} {A : Around} {RR : Result → Shared → Prop} (I : Nat → Shared → Prop) (hs : ∀ x, foldedSetIterable i2 env x = pure x)
    (turn : ∀ n s, I n s → wpAny G.M A (pyNext it) (fun r s₁ => match r with
      | none => RR (.ok .next) s₁
      | some v => wpAny G.M A (letOwnedTupleGo t1 it v) (fun _ s₀ => wpAny G.M A (assign t1 env v) (fun _ s₂ =>
            wpAny G.M A (eval i2 env) (fun x s₃ => wpAny G.M A (pyIter x) (fun it' s₄ =>
              codeAny G.M A (.compStart (lc2 elt t1 i1 t2 i2 scope pos) 1 it' acc env) (fun r s₅ => r = .ok .next ∧ ∃ m, m < n ∧ I m s₅) s₄) Nev s₃) Nev s₂) Nev s₀) Nev s₁) Nev s)
    (n : Nat) (h : I n s) : codeAny G.M A (.compLoop (lc2 elt t1 i1 t2 i2 scope pos) 0 it acc env) RR s := by
  refine codeAny_loop rfl I (fun n s hI => ?_) n h
  show wpAny _ A ((compTurn (lc2 elt t1 i1 t2 i2 scope pos) 0 it acc env).onRaise (fun x => do noteFrame x env; theTreesLotGoes x)) _ _ s
  refine wpAny_noted ?_
  rw [compTurn_out]
  refine wpAny_bind (wpAny_standAt (wpAny_bind (wpAny_mono (turn n s hI) (fun r s₁ h₁ => ?_) nev)))
  cases r with
  | none => exact wpAny_pure h₁
  | some v =>
    refine wpAny_bind (wpAny_mono h₁ (fun _ s₀ h₀ => ?_) nev)
    refine wpAny_bind (wpAny_mono h₀ (fun _ s₂ h₂ => ?_) nev)
    refine wpAny_bind (wpAny_mono h₂ (fun x s₃ h₃ => ?_) nev)
    refine wpAny_bind (wpAny_standAt (wpAny_bind (wpAny_of_eq (hs x) ?_)))
    refine wpAny_bind (wpAny_holding (wpAny_mono h₃ (fun it' s₄ h₄ => ?_) nev))
    refine wpAny_bind (wpAny_runOwn (codeAny_mono h₄ fun r s₅ h₅ => ?_))
    obtain ⟨rfl, h₅⟩ := h₅
    exact wpAny_pure ⟨rfl, h₅⟩
theorem compStart_in {elt t1 i1 t2 i2 : Expr} {scope : Scope} {pos : Pos} {it acc : Value} {A : Around} {RR : Result → Shared → Prop}
    (h0 : codeAny G.M A (.compLoop (lc2 elt t1 i1 t2 i2 scope pos) 1 it acc env) RR s)
    (h : wpAny G.M A (pyIter it) (fun it' s' => codeAny G.M A (.compLoop (lc2 elt t1 i1 t2 i2 scope pos) 1 it' acc env) RR s') (notedBy G.M A env fun x s' => RR (.error x) s') s) :
    codeAny G.M A (.compStart (lc2 elt t1 i1 t2 i2 scope pos) 1 it acc env) RR s := by
  refine codeAny_of_tree ?_
  show wpAny _ _ ((compStart (lc2 elt t1 i1 t2 i2 scope pos) 1 it acc env).onRaise (fun x => do noteFrame x env; standAt theWindowsPlace)) _ _ s
  refine wpAny_notedAt ?_
  unfold compStart
  show wpAny _ _ (ask >>= _) _ _ s
  refine wpAny_bind (wpAny_askSetting (wpAny_ite ?_))
  split
  · first
      | exact wpAny_bind (wpAny_pure (wpAny_pure (And.intro rfl h0)))
      | exact wpAny_pure (And.intro rfl h0)
  · refine wpAny_bind (wpAny_rule ?_)
    show wpAny _ _ (standAt i2.pos >>= _) _ _ s
    exact wpAny_bind (wpAny_standAt (wpAny_bind (wpAny_mono h (fun it' s' h' => wpAny_pure (And.intro rfl h')) fun _ _ x => x)))
inductive InR (G : Gr) (A : Addr) (φ : Fs) (μ : Mu) (s : Shared) (sc : Sc) (σ : Sg) (env : Env) (KD : List D → Mu → Prop) (N : Nat) (s' : Shared) : Prop where
  | mk (φ' : Fs) (μ' : Mu) (vs : List Value) (ys : List D) (st : Step G [A, env.locals] φ μ s φ' μ' s') (E : EnvR G φ' μ' sc σ env s'.heap) (hP : s'.heap.PlainList A (List.toArray vs)) (hR : Rs G φ' vs ys) (hA : φ' A = none) (hμ : ∀ p ∈ μ', p.1 ≠ A) (hl : ys.length ≤ N) (k : KD ys μ')
inductive InI (G : Gr) (A : Addr) (φ : Fs) (μ : Mu) (s : Shared) (sc : Sc) (σ : Sg) (env : Env) (I : Addr) (fp wr : List Addr) (P : Nat → Value → Prop) (St : Nat → Heap → Prop) (items : List D) (W : List D → List D → Mu → Prop) (N : Nat) (n : Nat) (s' : Shared) : Prop where
  | mk (i : Nat) (φ' : Fs) (μ' : Mu) (vs : List Value) (ys : List D) (w : W (items.drop i) ys μ') (st : Step G (wr ++ [A, env.locals]) φ μ s φ' μ' s') (E : EnvR G φ' μ' sc σ env s'.heap) (T : ItAt G φ' μ' [A, env.locals] I fp wr P St items) (hst : St i s'.heap)
    (hP : s'.heap.PlainList A (List.toArray vs)) (hR : Rs G φ' vs ys) (hA : φ' A = none) (hμ : ∀ p ∈ μ', p.1 ≠ A) (hl : ys.length ≤ N + i) (hi : i ≤ items.length) (hn : n = items.length + 1 - i)
theorem inner_rows {elt t1 i1 i2 : Expr} {y : Str} {py : Pos} {scope : Scope} {pos : Pos} {A : Addr} {v : Value} {l : D} {items : List D} {vs : List Value} {ys : List D} {KD : List D → Mu → Prop} {N : Nat}
    (I : Inv G φ μ s) (E : EnvR G φ μ sc σ env s.heap) (hy : sc.lookup y = some .local) (hσ : σ.lookup y = none) (hAC : A ≠ env.locals) (hxsA : ∀ a ∈ xs env, a ≠ A) (hA : φ A = none) (hμ : ∀ p ∈ μ, p.1 ≠ A)
    (hP : s.heap.PlainList A (List.toArray vs)) (hR : Rs G φ vs ys) (r : R G φ v l) (hD : IterD G l items) (hlen : items.length ≤ 100000) (hN : N ≤ 1000000) (hys : ys.length ≤ N) (hW : WLCc G k sc y elt KD σ items ys μ) :
    wpAny G.M (Lv k) (pyIter v) (fun it s' => codeAny G.M (Lv k) (.compStart (lc2 elt t1 i1 (.Name y py) i2 scope pos) 1 it (.ref A) env) (fun r s'' => r = .ok .next ∧ InR G A φ μ s sc σ env KD (N + items.length) s'') s') Nev s := by
  have exA : ∃ o, s.heap.get? A = some o := by obtain ⟨n, h⟩ := hP; exact ⟨_, h⟩
  have exL : ∃ o, s.heap.get? env.locals = some o := E.there _ (mem_xs.mpr (.inl rfl))
  have exX : ∀ a ∈ [A, env.locals], ∃ o, s.heap.get? a = some o := fun a ha => by
    rcases List.mem_cons.mp ha with rfl | ha
    · exact exA
    · rw [List.mem_singleton.mp ha]; exact exL
  refine hD φ μ s v [A, env.locals] (Lv k) _ I r rfl exX fun It fp wr P St h' hk T hst0 hwr hfp hlo => ?_
  have hLfp : env.locals ∉ fp := fun h => by
    rcases T.fp _ h with ⟨o, ho⟩ | ⟨_, _, h3⟩
    · rw [E.loff] at ho; cases ho
    · exact h3 (.tail _ (.head _))
  have hAfp : A ∉ fp := fun h => by
    rcases T.fp _ h with ⟨o, ho⟩ | ⟨_, _, h3⟩
    · rw [hA] at ho; cases ho
    · exact h3 (.head _)
  have sub := (T.W (Lv k) rfl).sub
  have hAwr : A ∉ wr := fun h => hAfp (sub _ h)
  have hxw : ∀ a ∈ xs env, a ∉ wr := fun a ha hw => by obtain ⟨o, ho⟩ := E.there a ha; rw [hwr a hw] at ho; cases ho
  have st1 : Step G (wr ++ [A, env.locals]) φ μ s φ μ { s with heap := h', toks := s.toks } := Step.grow I hk
  have E1 : EnvR G φ μ sc σ env h' := E.keepH fun a _ o ho => hk a o ho
  have hP1 : h'.PlainList A (List.toArray vs) := by obtain ⟨n, h⟩ := hP; exact ⟨n, hk _ _ h⟩
  have loop : codeAny G.M (Lv k) (.compLoop (lc2 elt t1 i1 (.Name y py) i2 scope pos) 1 (.ref It) (.ref A) env) (fun r s'' => r = .ok .next ∧ InR G A φ μ s sc σ env KD (N + items.length) s'') { s with heap := h', toks := s.toks } := by
    refine compLoop_in (InI G A φ μ s sc σ env It fp wr P St items (WLCc G k sc y elt KD σ) N) (fun n s2 hI => ?_) (items.length + 1)
      ⟨0, φ, μ, vs, ys, hW, st1, E1, T, hst0, hP1, hR, hA, hμ, hys, Nat.zero_le _, rfl⟩
    obtain ⟨i, φ2, μ2, vs, ys, hL2, st2, E2, T2, hst2, hP, hR, hφA, hμA, hys, hi, rfl⟩ := hI
    by_cases hlt : i < items.length
    · refine T2.next st2.inv hst2 hlt rfl fun v d h' tk hd r stn hst3 => ?_
      have hdrop : items.drop i = d :: items.drop (i + 1) := by
        obtain ⟨hl, e⟩ := List.getElem?_eq_some_iff.mp hd
        rw [List.drop_eq_getElem_cons hl, e]
      rw [hdrop] at hL2
      show wpAny _ _ (letOwnedTupleGo (.Name y py) (.ref It) v) _ _ _
      refine wpAny_mono (hlo (.Name y py) (i + 1) { s2 with heap := h', toks := tk } v (fun _ s' => s' = { s2 with heap := h', toks := tk }) (Lv k) hst3 rfl) (fun _ s' e => ?_) nev
      subst e
      have E3 := E2.stepA stn hxw
      obtain ⟨nn, hPn⟩ := hP
      have hP3 : h'.get? A = some (listOf (List.toArray vs) nn) := stn.keep A _ hPn hμA hAwr
      refine wpAny_assign_Name (store_ofL stn.inv E3 r hy fun h4 tk4 st4 E4 => ?_)
      have hA4 : A ∉ [env.locals] := fun h => hAC (List.mem_singleton.mp h)
      obtain ⟨a4, b4⟩ := st4.hid hA4 hφA hμA ⟨_, hP3⟩
      have hP4 := st4.keep A _ hP3 hμA hA4
      refine wpAny_mono (hL2 _ φ2 _ st4.inv E4) (fun e s6 ⟨dx, φ6, μ6, st6, r6, hK6⟩ => ?_) nev
      obtain ⟨a6, b6⟩ := st6.hid (fun h => nomatch h) a4 b4 ⟨_, hP4⟩
      have hP6 := st6.keep A _ hP4 b4 (fun h => nomatch h)
      have E6 := (E4.step st6).weak (SgLe.set hσ)
      refine wpAny_list_append_plain ⟨nn, hP6⟩ (fun h7 hP7 hs7 => ?_) (by
        rw [List.size_toArray, hR.1]; show ys.length ≤ 2 ^ 24; lia)
      have stA : Step G [A, env.locals] φ6 μ6 s6 φ6 μ6 { s6 with heap := h7, toks := s6.toks } := Step.own st6.inv (.head _) a6 b6 hs7 (by obtain ⟨n7, e7⟩ := hP7; exact ⟨_, e7⟩)
      have E7 : EnvR G φ6 μ6 sc σ env h7 := E6.keepH fun a ha o ho => (hs7.2 a (hxsA a ha)).trans ho
      have st27 := ((st4.more (X' := [A, env.locals]) (fun x hx => by rw [List.mem_singleton.mp hx]; exact .tail _ (.head _))).trans (st6.more fun _ h => nomatch h)).trans stA
      obtain ⟨T7, hst7⟩ := T2.step stn.inv hst3 st27 (fun _ _ h => h)
      have stX7 : Step G (wr ++ [A, env.locals]) φ μ s φ6 μ6 { s6 with heap := h7, toks := s6.toks } := (st2.trans (stn.more fun a ha => List.mem_append_left _ ha)).trans (st27.more fun a ha => List.mem_append_right _ ha)
      refine ⟨items.length + 1 - (i + 1), by lia, i + 1, φ6, μ6, vs ++ [e], ys ++ [dx], hK6, stX7, E7, T7, hst7, ?_, (hR.mono (st4.le.trans st6.le)).append (.cons r6 .nil), a6, b6, by simp; lia, hlt, rfl⟩
      simpa using hP7
    · have : i = items.length := by lia
      subst this
      refine T2.end hst2 rfl fun h' tk hk => ?_
      rw [List.drop_length] at hL2
      obtain ⟨nn, hPn⟩ := hP
      have stl := (st2.last (h' := h') (t := tk) hk fun b hb => ⟨hwr b hb, (T2.wr b hb).1, (T2.wr b hb).2.1⟩).dropL hwr
      exact ⟨rfl, φ2, μ2, vs, ys, stl, E2.keepH fun a ha o ho => hk a o (hxw a ha) ho, ⟨nn, hk A _ hAwr hPn⟩, hR, hφA, hμA, hys, hL2⟩
  refine compStart_in loop ?_
  exact wpAny_mono ((T.W (Lv k) rfl).self 0 _ (fun x s' => codeAny G.M (Lv k) (.compLoop (lc2 elt t1 i1 (.Name y py) i2 scope pos) 1 x (.ref A) env) (fun r s'' => r = .ok .next ∧ InR G A φ μ s sc σ env KD (N + items.length) s'') s') _ hst0 loop) (fun _ _ h => h) nev
end
section
variable {G : Gr} {k : Nat} {φ φ' : Fs} {μ μ' : Mu} {s s' : Shared} {sc scC : Sc} {σ σ' : Sg} {env : Env} {K K' : D → Mu → Prop} {KT KT' : Bool → Mu → Prop} {KB KB' : Fl → Sg → Mu → Prop}
noncomputable def WLo (G : Gr) (k : Nat) (sc : Sc) (x y : Str) (elt i2 : Expr) (KD : List D → Mu → Prop) (σ0 : Sg) : List D → List D → Mu → Prop
  | [], acc, μ => KD acc μ
  | d :: ds, acc, μ => WE G k sc (setS σ0 x d) i2 μ fun l μ1 => Ex1 fun items2 => A3 (IterD G l items2) (items2.length ≤ 1000) (WLCc G k sc y elt (fun acc' μ2 => WLo G k sc x y elt i2 KD σ0 ds acc' μ2) (setS σ0 x d) items2 acc μ1)
inductive LoI (G : Gr) (φ1 : Fs) (μ1 : Mu) (s1 : Shared) (scR : Sc) (σ0 : Sg) (envC : Env) (I : Addr) (fp wr : List Addr) (P : Nat → Value → Prop) (St : Nat → Heap → Prop) (items : List D) (A C : Addr) (W : List D → List D → Mu → Prop) (n : Nat) (s' : Shared) : Prop where
  | mk (i : Nat) (φ' : Fs) (μ' : Mu) (vs : List Value) (ys : List D) (hL : W (items.drop i) ys μ') (st : Step G (wr ++ [A, C]) φ1 μ1 s1 φ' μ' s') (E : EnvR G φ' μ' scR σ0 envC s'.heap) (T : ItAt G φ' μ' [A, C] I fp wr P St items) (hst : St i s'.heap)
    (hP : s'.heap.PlainList A (List.toArray vs)) (hR : Rs G φ' vs ys) (hys : ys.length ≤ i * 1000) (hφA : φ' A = none) (hμA : ∀ p ∈ μ', p.1 ≠ A) (hi : i ≤ items.length) (hn : n = items.length + 1 - i)
theorem lc2_core {x y : Str} {elt i1 i2 : Expr} {px py : Pos} {scope : Scope} {pos : Pos} {use : Option (Value → Sem Unit)} {Q : Value → Shared → Prop}
    (h : WI G k sc σ (.Name x px) i1 μ fun items hid μ1 => items.length ≤ 1000 ∧ WLo G k (relabelN sc scope.names) x y elt i2 (fun ys μ2 => K (.list ys) (hid ++ μ2)) (capF (relabelN sc scope.names) σ) items [] μ1)
    (hok : compOk sc scope.names = true) (hkind : scope.kind = .function) (hnames : ∀ x ∈ scope.names, x.2 = .local → scope.names.lookup x.1 = some .local)
    (hx : (relabelN sc scope.names).lookup x = some .local) (hy : (relabelN sc scope.names).lookup y = some .local) (hxy : (y == x) = false)
    (hs : ∀ env x, foldedSetIterable i1 env x = pure x) (hs2 : ∀ env x, foldedSetIterable i2 env x = pure x) (I0 : Inv G φ μ s) (E0 : EnvR G φ μ sc σ env s.heap)
    (hfin : ∀ acc C s', CompEnd G φ μ s K acc C s' → compPost G.M (Lv k) Nev use Q acc C (.ok .next) s') :
    wpAny G.M (Lv k) (comprehension (lc2 elt (.Name x px) i1 (.Name y py) i2 scope pos) scope env (firstIterPos [⟨.Name x px, i1, [], 0⟩, ⟨.Name y py, i2, [], 0⟩] pos) (newList []) (firstAsync [⟨.Name x px, i1, [], 0⟩, ⟨.Name y py, i2, [], 0⟩]) (firstIter [⟨.Name x px, i1, [], 0⟩, ⟨.Name y py, i2, [], 0⟩] env) use) Q Nev s := by
  refine wpAny_comprehension_free (cl := clOf env scope.names []) rfl (hs env) (closureFor_of (comp_hex E0 hok)) hkind hnames ?_
  show wpAny G.M (Lv k) (eval i1 env) _ _ s
  refine h env φ s _ I0 E0 fun I fp wr P St items hid φ1 μ1 s1 st0 T0 hst0 hwf hwh hfp hlo ⟨hlen, hL⟩ => ?_
  refine wpAny_newObj_type (wpAny_newFunctionEnv (compOk_cell hok).1 (by intro y hy; simp at hy) (fun h₁ hns₁ hsb₁ => ?_) hkind)
  dsimp only at hns₁ hsb₁ ⊢
  generalize hA : s1.heap.objs.size = A
  generalize hH2 : s1.heap.push { cls := .type "list", dict := none, data := .seq ([] : List Value).toArray } = H2 at hns₁ hsb₁ ⊢
  generalize hC : H2.objs.size = C at hns₁ hsb₁ ⊢
  have F := comp_fr hok hkind E0 st0 T0 hst0 hwf hwh hfp rfl hA hH2 hC hns₁ hsb₁
  have hnone : ∀ z, (relabelN sc scope.names).lookup z = some .local → (capF (relabelN sc scope.names) σ).lookup z = none := fun z hz => by
    cases e : (capF (relabelN sc scope.names) σ).lookup z with
    | none => rfl
    | some d => have := (capF_lookup e).1; rw [hz] at this; rcases this with h | h <;> cases h
  have hσx := hnone x hx
  have hσy := hnone y hy
  generalize capF (relabelN sc scope.names) σ = σ0 at hL F hσx hσy
  have hloc : (compEnvC scope (clOf env scope.names []) C env).locals = C := rfl
  show codeAny G.M (Lv k) (.compStart (lc2 elt (.Name x px) i1 (.Name y py) i2 scope pos) 0 (.ref I) (.ref A) (compEnvC scope (clOf env scope.names []) C env)) (compPost G.M (Lv k) Nev use Q (.ref A) C) { s1 with heap := h₁, toks := s1.toks }
  generalize compEnvC scope (clOf env scope.names []) C env = envC at F hloc ⊢
  have loop : codeAny G.M (Lv k) (.compLoop (lc2 elt (.Name x px) i1 (.Name y py) i2 scope pos) 0 (.ref I) (.ref A) envC) (compPost G.M (Lv k) Nev use Q (.ref A) C) { s1 with heap := h₁, toks := s1.toks } := by
    refine compLoop_out (LoI G φ1 μ1 s1 (relabelN sc scope.names) σ0 envC I fp wr P St items A C (WLo G k (relabelN sc scope.names) x y elt i2 (fun ys μ2 => K (.list ys) (hid ++ μ2)) σ0)) (hs2 envC) (fun n s2 hI => ?_) (items.length + 1)
      ⟨0, φ1, μ1, [], [], hL, F.st1, F.E2, F.T1, F.hst1, ⟨0, F.kpA⟩, .nil, Nat.le_refl _, F.aA, F.mA, Nat.zero_le _, rfl⟩
    obtain ⟨i, φ2, μ2, vs, ys, hL2, st2, E2, T2, hst2, hP, hR, hys, hφA, hμA, hi, rfl⟩ := hI
    by_cases hlt : i < items.length
    · refine T2.next st2.inv hst2 hlt rfl fun v d h' tk hd r stn hst3 => ?_
      have hdrop : items.drop i = d :: items.drop (i + 1) := by
        obtain ⟨hl, e⟩ := List.getElem?_eq_some_iff.mp hd
        rw [List.drop_eq_getElem_cons hl, e]
      rw [hdrop] at hL2
      show wpAny _ _ (letOwnedTupleGo (.Name x px) (.ref I) v) _ _ _
      refine wpAny_mono (hlo (i + 1) { s2 with heap := h', toks := tk } v (fun _ s' => s' = { s2 with heap := h', toks := tk }) (Lv k) hst3 rfl) (fun _ s' e => ?_) nev
      subst e
      have E3 := E2.stepA stn F.hxsC
      have hAwr : A ∉ wr := fun h => F.hfpA ((T0.W (Lv k) rfl).sub _ h)
      obtain ⟨nn, hPn⟩ := hP
      have hP3 : h'.get? A = some (listOf (List.toArray vs) nn) := stn.keep A _ hPn hμA hAwr
      refine wpAny_assign_Name (store_ofL stn.inv E3 r hx fun h4 tk4 st4 E4 => ?_)
      rw [hloc] at st4
      have hA4 : A ∉ [C] := fun h => F.hAC (List.mem_singleton.mp h)
      obtain ⟨a4, b4⟩ := st4.hid hA4 hφA hμA ⟨_, hP3⟩
      have hP4 := st4.keep A _ hP3 hμA hA4
      refine wpAny_mono (hL2 _ φ2 _ st4.inv E4) (fun lv s5 ⟨l, φ5, μ5, st5, r5, items2, hit, hl2, hW⟩ => ?_) nev
      obtain ⟨a5, b5⟩ := st5.hid (fun h => nomatch h) a4 b4 ⟨_, hP4⟩
      have hP5 := st5.keep A _ hP4 b4 (fun h => nomatch h)
      have E5 := E4.step st5
      have hσy2 : (setS σ0 x d).lookup y = none := by
        rw [setS_lookup, if_neg (fun e => by rw [e, beq_self_eq_true] at hxy; cases hxy)]; exact hσy
      refine wpAny_mono (inner_rows (N := i * 1000) st5.inv E5 hy hσy2 (by rw [hloc]; exact F.hAC) F.hxsA a5 b5 ⟨nn, hP5⟩ (hR.mono (st4.le.trans st5.le)) r5 hit (by lia) (by lia) hys hW) (fun it' s6 hin => codeAny_mono hin fun rr s7 h7 => ?_) nev
      obtain ⟨rfl, φ7, μ7, vs7, ys7, st7, E7, hP7, hR7, a7, b7, hl7, hK7⟩ := h7
      rw [hloc] at st7
      have st27 := ((st4.more (X' := [A, C]) (fun x hx => by rw [List.mem_singleton.mp hx]; exact .tail _ (.head _))).trans (st5.more fun _ h => nomatch h)).trans st7
      obtain ⟨T7, hst7⟩ := T2.step stn.inv hst3 st27 (fun _ _ h => h)
      have stX7 : Step G (wr ++ [A, C]) φ1 μ1 s1 φ7 μ7 s7 := (st2.trans (stn.more fun a ha => List.mem_append_left _ ha)).trans (st27.more fun a ha => List.mem_append_right _ ha)
      exact ⟨rfl, items.length + 1 - (i + 1), by lia, i + 1, φ7, μ7, vs7, ys7, hK7, stX7, E7.weak (SgLe.set hσx), T7, hst7, hP7, hR7, by lia, a7, b7, hlt, rfl⟩
    · have : i = items.length := by lia
      subst this
      refine T2.end hst2 rfl fun h' tk hk => ?_
      rw [List.drop_length] at hL2
      obtain ⟨nn, hPn⟩ := hP
      exact hfin _ _ _ (F.done hloc st2 E2 T2 hφA hμA hPn hk (R.list_iff.mpr ⟨A, vs, nn, rfl, Fs.put_self .., hR.mono (Fs.put_le hφA)⟩) hL2)
  refine codeAny_compStart_list loop ?_
  exact (T0.W (Lv k) rfl).self 0 _ _ _ F.hst1 loop
theorem WE.listcompO (x y : Str) {elt i1 i2 : Expr} {px py : Pos} {scope : Scope} {pos : Pos}
    (h : WI G k sc σ (.Name x px) i1 μ fun items hid μ1 => items.length ≤ 1000 ∧ WLo G k (relabelN sc scope.names) x y elt i2 (fun ys μ2 => K (.list ys) (hid ++ μ2)) (capF (relabelN sc scope.names) σ) items [] μ1)
    (hok : compOk sc scope.names = true) (hnames : compNames scope.names = true) (hkind : scope.kind = .function)
    (hx : (relabelN sc scope.names).lookup x = some .local) (hy : (relabelN sc scope.names).lookup y = some .local) (hxy : (y == x) = false)
    (hs : ∀ env x, foldedSetIterable i1 env x = pure x) (hs2 : ∀ env x, foldedSetIterable i2 env x = pure x) : WE G k sc σ (lc2 elt (.Name x px) i1 (.Name y py) i2 scope pos) μ K := fun env φ s I E => by
  rw [eval_ListComp]
  exact lc2_core (use := Option.none) (Q := Post G φ μ s K) h hok hkind (compNames_of hnames) hx hy hxy hs hs2 I E fun acc C s' hc => CompEnd.none hc
end
section
variable {G : Gr} {k : Nat} {φ φ' : Fs} {μ μ' : Mu} {s s' : Shared} {sc scC : Sc} {σ σ' : Sg} {env : Env} {K K' : D → Mu → Prop} {KT KT' : Bool → Mu → Prop} {KB KB' : Fl → Sg → Mu → Prop}
theorem Rs.rep {vs : List Value} {xs : List D} (h : Rs G φ vs xs) : ∀ n, Rs G φ (List.replicate n vs).flatten (List.replicate n xs).flatten
  | 0 => Rs.nil
  | n + 1 => by
    rw [List.replicate_succ, List.replicate_succ, List.flatten_cons, List.flatten_cons]
    exact h.append (Rs.rep h n)
theorem V.mulL {xs : List D} {n : Nat} (hn : n ≤ 100) (hl : xs.length ≤ 1000) (h : K (.list (List.replicate n xs).flatten) μ) : WV2 G k (.list xs) (.int n) μ (binaryOp .Mult) K := fun φ s v1 v2 I r1 r2 => by
  obtain ⟨a, vs, m, rfl, ho, ra⟩ := R.list_iff.mp r1
  obtain ⟨u, rfl⟩ := R.int_iff.mp r2
  have ho' : s.heap.get? a = some (listOf vs.toArray m) := I.sub _ _ ho
  have hsz : vs.toArray.size * ((n : Int)).toNat ≤ 100000 := by
    rw [List.size_toArray, ra.1, Int.toNat_natCast]
    exact Nat.le_trans (Nat.mul_le_mul hl hn) (by decide)
  have hlo : (0 : Int) ≤ (n : Int) := Int.natCast_nonneg n
  have hhi : (n : Int) < 2 ^ 63 := by lia
  generalize hx : (n : Int) = x at hsz hlo hhi ⊢
  have hsz' : vs.length * x.toNat ≤ 100000 := by simpa using hsz
  refine wpAny_binaryOp_repeat_ref (T := "list") (U := "int") (by decide) ⟨_, ho', rfl⟩ (fun s' => typeIs_int s' x u) noFill_list_mul F.fills_int_mul F.slot_int_rmul repeat_list F.slot_int_index.lookup
    (call_meets F.slot_int_rmul (typeIs_int s x u) F.entry_int_rmul (F.args_int_rmul_2 _ _) (int___rmul___int_list x u a vs.toArray m)
      ⟨ho', rfl, ⟨_, ho', rfl⟩, call_meets F.slot_list_mul ⟨_, ho', rfl⟩ F.entry_list_mul (F.args_list_mul_2 _ _)
        (AutoListH.list___mul___list_int_3 a vs.toArray m x u (by simp [Builtin.List.listFitsIndex]; omega) (by omega) (by simp [Builtin.List.listTooLong, sizeLine]; omega))
        ⟨ho', ?_⟩⟩)
  rw [listMul_foldl_if, ← hx, Int.toNat_natCast]
  exact (new_list I (ra.rep n)).mono fun d μ' ⟨e1, e2⟩ => by rw [e1, e2]; exact h
theorem WE.and2 {a b : Expr} {p : Pos} (h : WE G k sc σ a μ fun d μ1 => WTr G k d μ1 fun c μ2 => if c = true then WE G k sc σ b μ2 K else K d μ2) : WE G k sc σ (.BoolOp .And [a, b] p) μ K := fun env φ s I E => by
  show wpAny G.M (Lv k) (boolOp p .And [eval a env, eval b env]) _ _ s
  unfold boolOp
  refine wpAny_bind (wpAny_mono (h env φ s I E) (fun v s1 ⟨d, φ1, μ1, st1, r1, hT⟩ => ?_) nev)
  refine wpAny_bind (wpAny_standAt (wpAny_bind (wpAny_holding (wpAny_mono (hT φ1 s1 v st1.inv r1) (fun c s2 ⟨φ2, μ2, st2, hK⟩ => ?_) nev))))
  cases c with
  | false => exact wpAny_pure ⟨d, φ2, μ2, st1.trans st2, r1.mono st2.le, by simpa using hK⟩
  | true =>
    have hK : WE G k sc σ b μ2 K := by simpa using hK
    show wpAny _ _ (boolOp p .And [eval b env]) _ _ s2
    exact wpAny_mono (hK env φ2 s2 st2.inv (E.step (st1.trans st2))) (fun w s3 hp => Post.trans (st1.trans st2) hp) nev
end
section
variable {G : Gr} {k : Nat} {φ φ' : Fs} {μ μ' : Mu} {s s' : Shared} {sc scC : Sc} {σ σ' : Sg} {env : Env} {K K' : D → Mu → Prop} {KT KT' : Bool → Mu → Prop} {KB KB' : Fl → Sg → Mu → Prop}
theorem WLCc.mapN {α : Type} {x : Str} {elt : Expr} {KD : List D → Mu → Prop} {σ0 : Sg} (F g : α → D) (items : List α) : ∀ acc : List D, (∀ a ∈ items, WE G k sc (setS σ0 x (F a)) elt μ fun d μ1 => d = g a ∧ μ1 = μ) → KD (acc ++ items.map g) μ → WLCc G k sc x elt KD σ0 (items.map F) acc μ := by
  induction items with
  | nil => intro acc _ h; exact (by simpa using h : KD acc μ)
  | cons a items ih =>
    intro acc hb h
    exact WE.mono (hb a (.head _)) fun d μ1 ⟨e1, e2⟩ => by
      rw [e1, e2]
      exact ih _ (fun b hb' => hb b (.tail _ hb')) (by simpa using h)
theorem WLo.mapN {α β : Type} {x y : Str} {elt i2 : Expr} {KD : List D → Mu → Prop} {σ0 : Sg} (F : α → D) (Gm : α → List β) (F2 g : β → D) (items : List α) : ∀ acc : List D,
    (∀ a ∈ items, WE G k sc (setS σ0 x (F a)) i2 μ fun l μ1 => l = .list ((Gm a).map F2) ∧ μ1 = μ) → (∀ a ∈ items, (Gm a).length ≤ 1000) →
    (∀ a ∈ items, ∀ b ∈ Gm a, WE G k sc (setS (setS σ0 x (F a)) y (F2 b)) elt μ fun d μ1 => d = g b ∧ μ1 = μ) → KD (acc ++ (items.flatMap Gm).map g) μ → WLo G k sc x y elt i2 KD σ0 (items.map F) acc μ := by
  induction items with
  | nil => intro acc _ _ _ h; exact (by simpa using h : KD acc μ)
  | cons a items ih =>
    intro acc h1 h2 h3 h
    refine WE.mono (h1 a (.head _)) fun l μ1 ⟨e1, e2⟩ => ?_
    subst e1 e2
    refine ⟨(Gm a).map F2, IterD.list _, by simpa using h2 a (.head _), WLCc.mapN F2 g (Gm a) acc (fun b hb => h3 a (.head _) b hb) ?_⟩
    exact ih _ (fun b hb => h1 b (.tail _ hb)) (fun b hb => h2 b (.tail _ hb)) (fun b hb => h3 b (.tail _ hb)) (by simpa using h)
theorem V.countS {ys : List Str} {x : Str} (h : K (.int (ys.countP (· == x) : Nat)) μ) : WCv G k (.builtin "list.count") [.list (ys.map .str), .str x] [] μ K := fun φ s vs kv I r0 rk => by
  obtain ⟨v, w, rfl, r, r'⟩ := rs2 r0
  obtain rfl := kw_nil rk
  obtain ⟨t, rfl⟩ := R.str_iff.mp r'
  obtain ⟨a, vs, n, rfl, ho, ra⟩ := R.list_iff.mp r
  have ho' : s.heap.get? a = some (listOf vs.toArray n) := I.sub _ _ ho
  have key : ∀ {vs : List Value} {ys : List Str}, Rs G φ vs (ys.map .str) → (∀ y ∈ vs, ∃ i u, y = .str i u) ∧ vs.countP (fun v => match v with | .str i _ => i == x | _ => false) = ys.countP (· == x) := by
    intro vs
    induction vs with
    | nil =>
      intro ys h
      cases ys with
      | nil => exact And.intro (fun _ h => nomatch h) rfl
      | cons => have := h.1; simp at this
    | cons v vs ih =>
      intro ys h
      cases ys with
      | nil => have := h.1; simp at this
      | cons n ys =>
        obtain ⟨v', vs', e, r, h'⟩ := Rs.cons_iff.mp h
        cases e
        obtain ⟨t, rfl⟩ := R.str_iff.mp r
        obtain ⟨i1, i2⟩ := ih h'
        refine ⟨fun y hy => ?_, ?_⟩
        · rcases List.mem_cons.mp hy with rfl | hy
          · exact ⟨_, _, rfl⟩
          · exact i1 y hy
        · rw [List.countP_cons, List.countP_cons, i2]
  obtain ⟨k1, k2⟩ := key ra
  refine call_meets F.slot_list_count (T := "list") ⟨_, ho', rfl⟩ F.entry_list_count (F.args_list_count_2 _ _) (MeetsSeq.list_count a vs.toArray n (.str x t) (fun v => match v with | .str i _ => i == x | _ => false) (fun y hy => ?_)) ⟨ho', ?_⟩
  · obtain ⟨i, u, rfl⟩ := k1 y (by simpa using hy)
    exact eqGives_str i x u t
  · rw [show vs.toArray.toList = vs from rfl, k2]
    exact (show Post G φ μ s K _ _ from Post.of (Step.toks I (s.toks + 1)) (.int _ _) h)
end
noncomputable def hqe (P : Params) (s : String) (t : Nat) (v : Value) : DictEntry := { hash := PyData.keyHash P (Str.ofString s), key := Value.str (Str.ofString s) t, val := v }
noncomputable def hqb (P : Params) (s : String) (t : Nat) (b : String) : DictEntry := hqe P s t (.builtin b)
noncomputable def hqv (s : String) (t : Nat) : Value := .str (Str.ofString s) t
noncomputable def rest2 (P : Params) : List Obj :=
  [{ cls := Value.type "dict", data := Data.dict #[hqe P "__name__" 1 (hqv "builtins" 160), hqb P "__doc__" 2 "builtins.__doc__:str#opaque", hqb P "__package__" 3 "builtins.__package__:str#opaque", hqb P "__loader__" 4 "builtins.__loader__:shared#opaque", hqb P "__spec__" 5 "builtins.__spec__#opaque", hqb P "__build_class__" 6 "__build_class__", hqb P "__imp\x6frt__" 7 "__imp\x6frt__", hqb P "abs" 8 "abs", hqb P "all" 9 "all", hqb P "any" 10 "any", hqb P "ascii" 11 "ascii", hqb P "bin" 12 "bin", hqb P "breakpoint" 13 "breakpoint", hqb P "callable" 14 "callable", hqb P "chr" 15 "chr", hqb P "compile" 16 "compile", hqb P "delattr" 17 "delattr", hqb P "dir" 18 "dir", hqb P "divmod" 19 "divmod", hqb P "eval" 20 "eval", hqb P "exec" 21 "exec", hqb P "format" 22 "format", hqb P "getattr" 23 "getattr", hqb P "globals" 24 "globals", hqb P "hasattr" 25 "hasattr", hqb P "hash" 26 "hash", hqb P "hex" 27 "hex", hqb P "id" 28 "id", hqb P "input" 29 "input", hqb P "isinstance" 30 "isinstance", hqb P "issubclass" 31 "issubclass", hqb P "iter" 32 "iter", hqb P "aiter" 33 "aiter", hqb P "len" 34 "len", hqb P "locals" 35 "locals", hqb P "max" 36 "max", hqb P "min" 37 "min", hqb P "next" 38 "next", hqb P "anext" 39 "anext", hqb P "oct" 40 "oct", hqb P "ord" 41 "ord", hqb P "pow" 42 "pow", hqb P "print" 43 "print", hqb P "repr" 44 "repr", hqb P "round" 45 "round", hqb P "setattr" 46 "setattr", hqb P "sorted" 47 "sorted", hqb P "sum" 48 "sum", hqb P "vars" 49 "vars", hqe P "None" 50 (Value.none), hqe P "Ellipsis" 51 (Value.ellipsis), hqe P "NotImplemented" 52 (Value.notImplemented), hqe P "False" 53 (Value.bool false), hqe P "True" 54 (Value.bool true), hqe P "bool" 55 (Value.type "bool"), hqe P "memoryview" 56 (Value.type "memoryview"), hqe P "bytearray" 57 (Value.type "bytearray"), hqe P "bytes" 58 (Value.type "bytes"), hqe P "classmethod" 59 (Value.type "classmethod"), hqe P "complex" 60 (Value.type "complex"), hqe P "dict" 61 (Value.type "dict"), hqe P "enumerate" 62 (Value.type "enumerate"), hqe P "filter" 63 (Value.type "filter"), hqe P "float" 64 (Value.type "float"), hqe P "frozenset" 65 (Value.type "frozenset"), hqe P "property" 66 (Value.type "property"), hqe P "int" 67 (Value.type "int"), hqe P "list" 68 (Value.type "list"), hqe P "map" 69 (Value.type "map"), hqe P "object" 70 (Value.type "object"), hqe P "range" 71 (Value.type "range"), hqe P "reversed" 72 (Value.type "reversed"), hqe P "set" 73 (Value.type "set"), hqe P "slice" 74 (Value.type "slice"), hqe P "staticmethod" 75 (Value.type "staticmethod"), hqe P "str" 76 (Value.type "str"), hqe P "super" 77 (Value.type "super"), hqe P "tuple" 78 (Value.type "tuple"), hqe P "type" 79 (Value.type "type"), hqe P "zip" 80 (Value.type "zip"), hqe P "__debug__" 81 (Value.bool true), hqe P "BaseException" 82 (Value.type "BaseException"), hqe P "BaseExceptionGroup" 83 (Value.type "BaseExceptionGroup"), hqe P "Exception" 84 (Value.type "Exception"), hqe P "GeneratorExit" 85 (Value.type "GeneratorExit"), hqe P "KeyboardInterrupt" 86 (Value.type "KeyboardInterrupt"), hqe P "SystemExit" 87 (Value.type "SystemExit"), hqe P "ArithmeticError" 88 (Value.type "ArithmeticError"), hqe P "AssertionError" 89 (Value.type "AssertionError"), hqe P "AttributeError" 90 (Value.type "AttributeError"), hqe P "BufferError" 91 (Value.type "BufferError"), hqe P "EOFError" 92 (Value.type "EOFError"), hqe P "ImportError" 93 (Value.type "ImportError"), hqe P "LookupError" 94 (Value.type "LookupError"), hqe P "MemoryError" 95 (Value.type "MemoryError"), hqe P "NameError" 96 (Value.type "NameError"), hqe P "OSError" 97 (Value.type "OSError"), hqe P "ReferenceError" 98 (Value.type "ReferenceError"), hqe P "RuntimeError" 99 (Value.type "RuntimeError"), hqe P "StopAsyncIteration" 100 (Value.type "StopAsyncIteration"), hqe P "StopIteration" 101 (Value.type "StopIteration"), hqe P "SyntaxError" 102 (Value.type "SyntaxError"), hqe P "SystemError" 103 (Value.type "SystemError"), hqe P "TypeError" 104 (Value.type "TypeError"), hqe P "ValueError" 105 (Value.type "ValueError"), hqe P "Warning" 106 (Value.type "Warning"), hqe P "FloatingPointError" 107 (Value.type "FloatingPointError"), hqe P "OverflowError" 108 (Value.type "OverflowError"), hqe P "ZeroDivisionError" 109 (Value.type "ZeroDivisionError"), hqe P "BytesWarning" 110 (Value.type "BytesWarning"), hqe P "DeprecationWarning" 111 (Value.type "DeprecationWarning"), hqe P "EncodingWarning" 112 (Value.type "EncodingWarning"), hqe P "FutureWarning" 113 (Value.type "FutureWarning"), hqe P "ImportWarning" 114 (Value.type "ImportWarning"), hqe P "PendingDeprecationWarning" 115 (Value.type "PendingDeprecationWarning"), hqe P "ResourceWarning" 116 (Value.type "ResourceWarning"), hqe P "RuntimeWarning" 117 (Value.type "RuntimeWarning"), hqe P "SyntaxWarning" 118 (Value.type "SyntaxWarning"), hqe P "UnicodeWarning" 119 (Value.type "UnicodeWarning"), hqe P "UserWarning" 120 (Value.type "UserWarning"), hqe P "BlockingIOError" 121 (Value.type "BlockingIOError"), hqe P "ChildProcessError" 122 (Value.type "ChildProcessError"), hqe P "ConnectionError" 123 (Value.type "ConnectionError"), hqe P "FileExistsError" 124 (Value.type "FileExistsError"), hqe P "FileNotFoundError" 125 (Value.type "FileNotFoundError"), hqe P "InterruptedError" 126 (Value.type "InterruptedError"), hqe P "IsADirectoryError" 127 (Value.type "IsADirectoryError"), hqe P "NotADirectoryError" 128 (Value.type "NotADirectoryError"), hqe P "PermissionError" 129 (Value.type "PermissionError"), hqe P "ProcessLookupError" 130 (Value.type "ProcessLookupError"), hqe P "TimeoutError" 131 (Value.type "TimeoutError"), hqe P "IndentationError" 132 (Value.type "IndentationError"), hqe P "_IncompleteInputError" 133 (Value.type "_IncompleteInputError"), hqe P "IndexError" 134 (Value.type "IndexError"), hqe P "KeyError" 135 (Value.type "KeyError"), hqe P "ModuleNotFoundError" 136 (Value.type "ModuleNotFoundError"), hqe P "NotImplementedError" 137 (Value.type "NotImplementedError"), hqe P "PythonFinalizationError" 138 (Value.type "PythonFinalizationError"), hqe P "RecursionError" 139 (Value.type "RecursionError"), hqe P "UnboundLocalError" 140 (Value.type "UnboundLocalError"), hqe P "UnicodeError" 141 (Value.type "UnicodeError"), hqe P "BrokenPipeError" 142 (Value.type "BrokenPipeError"), hqe P "ConnectionAbortedError" 143 (Value.type "ConnectionAbortedError"), hqe P "ConnectionRefusedError" 144 (Value.type "ConnectionRefusedError"), hqe P "ConnectionResetError" 145 (Value.type "ConnectionResetError"), hqe P "TabError" 146 (Value.type "TabError"), hqe P "UnicodeDecodeError" 147 (Value.type "UnicodeDecodeError"), hqe P "UnicodeEncodeError" 148 (Value.type "UnicodeEncodeError"), hqe P "UnicodeTranslateError" 149 (Value.type "UnicodeTranslateError"), hqe P "ExceptionGroup" 150 (Value.type "ExceptionGroup"), hqe P "EnvironmentError" 151 (Value.type "OSError"), hqe P "IOError" 152 (Value.type "OSError"), hqb P "open" 153 "open", hqb P "quit" 154 "builtins.quit#opaque", hqb P "exit" 155 "builtins.exit#opaque", hqb P "copyright" 156 "builtins.copyright#opaque", hqb P "credits" 157 "builtins.credits#opaque", hqb P "license" 158 "builtins.license#opaque", hqb P "help" 159 "builtins.help#opaque"] 159 },
   { cls := Value.type "dict", data := Data.dict #[hqe P "builtins" 162 (Value.ref 4), hqe P "__main__" 163 (Value.ref 5), hqe P "_sre" 244 (Value.ref 12)] 3 },
   { cls := Value.type "module", dict := some 0 },
   { cls := Value.type "module", dict := some 3 },
   { cls := Value.type "dict", data := Data.dict #[] },
   { cls := Value.type "tuple", data := Data.seq #[] },
   { cls := Value.none, data := Data.fields #[] },
   { cls := Value.type "code", data := Data.fields #[hqv "<module>" 176, hqv "<module>" 177, hqv "/claim/cut.py" 178, Value.int 1 0, Value.int 0 0, Value.int 0 0, Value.int 0 0, Value.int 0 0, Value.ref 7, Value.bool false, Value.int 175 0, Value.ref 8, Value.none, Value.none, Value.none, Value.none, Value.int 179 0, Value.int 1 0, hqv "/claim/cut.py" 180] },
   { cls := Value.type "frame", slots := #[some (Value.ref 9), some (Value.ref 3), some (Value.ref 3), none, some (hqv "__main__" 164), none, some (Value.ref 0)] },
   { cls := Value.type "dict", data := Data.dict #[hqe P "__name__" 247 (hqv "_sre" 246), hqe P "__doc__" 248 (Value.none), hqe P "__package__" 250 (hqv "" 249), hqb P "__loader__" 251 "off-the-table:_sre.__loader__:shared#opaque", hqb P "__spec__" 252 "off-the-table:_sre.__spec__:shared#opaque", hqb P "compile" 253 "_sre.compile", hqb P "template" 254 "off-the-table:_sre.template:shared#opaque", hqb P "getcodesize" 255 "off-the-table:_sre.getcodesize:shared#opaque", hqb P "ascii_iscased" 256 "off-the-table:_sre.ascii_iscased:shared#opaque", hqb P "unicode_iscased" 257 "off-the-table:_sre.unicode_iscased:shared#opaque", hqb P "ascii_tolower" 258 "off-the-table:_sre.ascii_tolower:shared#opaque", hqb P "unicode_tolower" 259 "off-the-table:_sre.unicode_tolower:shared#opaque", hqe P "MAGIC" 261 (Value.int 20230612 260), hqe P "CODESIZE" 263 (Value.int 4 262), hqe P "MAXREPEAT" 265 (Value.int 4294967295 264), hqe P "MAXGROUPS" 267 (Value.int 1073741823 266), hqe P "copyright" 269 (hqv " SRE 2.2.2 Copyright (c) 1997-2002 by Secret Labs AB " 268)] 17 },
   { cls := Value.type "module", dict := some 11 },
   { cls := Value.type "dict", data := Data.dict #[hqe P "__module__" 189 (hqv "_frozen_imp\x6frtlib" 186), hqe P "__firstlineno__" 190 (Value.int 971 187), hqb P "__doc__" 191 "_frozen_imp\x6frtlib.BuiltinImporter.__doc__:str#opaque", hqe P "_ORIGIN" 192 (hqv "built-in" 188), hqb P "find_spec" 193 "_frozen_imp\x6frtlib.BuiltinImporter.find_spec#opaque", hqb P "create_module" 194 "_frozen_imp\x6frtlib.BuiltinImporter.create_module#opaque", hqb P "exec_module" 195 "_frozen_imp\x6frtlib.BuiltinImporter.exec_module#opaque", hqb P "get_code" 196 "_frozen_imp\x6frtlib.BuiltinImporter.get_code#opaque", hqb P "get_source" 197 "_frozen_imp\x6frtlib.BuiltinImporter.get_source#opaque", hqb P "is_package" 198 "_frozen_imp\x6frtlib.BuiltinImporter.is_package#opaque", hqb P "load_module" 199 "_frozen_imp\x6frtlib.BuiltinImporter.load_module#opaque", hqe P "__static_attributes__" 200 (Value.ref 15), hqe P "__dict__" 202 (Value.ref 16), hqe P "__weakref__" 204 (Value.ref 17)] 14 },
   { cls := Value.type "type", data := Data.cls { name := Str.ofString "BuiltinImporter", bases := [Value.type "object"], mro := [Value.ref 14, Value.type "object"], ns := 13, qualname := Str.ofString "BuiltinImporter" } },
   { cls := Value.type "tuple", data := Data.seq #[] },
   { cls := Value.type "getset_descriptor", data := Data.fields #[hqv "__dict__" 201, Value.ref 14, Value.builtin "function.__dict__", Value.builtin "function.__dict__#set"] },
   { cls := Value.type "getset_descriptor", data := Data.fields #[hqv "__weakref__" 203, Value.ref 14, Value.builtin "ExceptionGroup.__weakref__", Value.none] },
   { cls := Value.none, data := Data.seq #[Value.int 13 0, Value.str { cps := #[6, 189, 10, 95, 95, 109, 111, 100, 117, 108, 101, 95, 95, 6, 186, 17, 95, 102, 114, 111, 122, 101, 110, 95, 105, 109, 112, 111, 114, 116, 108, 105, 98, 6, 190, 15, 95, 95, 102, 105, 114, 115, 116, 108, 105, 110, 101, 110, 111, 95, 95, 4, 187, 0, 971, 6, 191, 7, 95, 95, 100, 111, 99, 95, 95, 9, 52, 95, 102, 114, 111, 122, 101, 110, 95, 105, 109, 112, 111, 114, 116, 108, 105, 98, 46, 66, 117, 105, 108, 116, 105, 110, 73, 109, 112, 111, 114, 116, 101, 114, 46, 95, 95, 100, 111, 99, 95, 95, 58, 115, 116, 114, 35, 111, 112, 97, 113, 117, 101, 6, 192, 7, 95, 79, 82, 73, 71, 73, 78, 6, 188, 8, 98, 117, 105, 108, 116, 45, 105, 110, 6, 193, 9, 102, 105, 110, 100, 95, 115, 112, 101, 99, 9, 50, 95, 102, 114, 111, 122, 101, 110, 95, 105, 109, 112, 111, 114, 116, 108, 105, 98, 46, 66, 117, 105, 108, 116, 105, 110, 73, 109, 112, 111, 114, 116, 101, 114, 46, 102, 105, 110, 100, 95, 115, 112, 101, 99, 35, 111, 112, 97, 113, 117, 101, 6, 194, 13, 99, 114, 101, 97, 116, 101, 95, 109, 111, 100, 117, 108, 101, 9, 54, 95, 102, 114, 111, 122, 101, 110, 95, 105, 109, 112, 111, 114, 116, 108, 105, 98, 46, 66, 117, 105, 108, 116, 105, 110, 73, 109, 112, 111, 114, 116, 101, 114, 46, 99, 114, 101, 97, 116, 101, 95, 109, 111, 100, 117, 108, 101, 35, 111, 112, 97, 113, 117, 101, 6, 195, 11, 101, 120, 101, 99, 95, 109, 111, 100, 117, 108, 101, 9, 52, 95, 102, 114, 111, 122, 101, 110, 95, 105, 109, 112, 111, 114, 116, 108, 105, 98, 46, 66, 117, 105, 108, 116, 105, 110, 73, 109, 112, 111, 114, 116, 101, 114, 46, 101, 120, 101, 99, 95, 109, 111, 100, 117, 108, 101, 35, 111, 112, 97, 113, 117, 101, 6, 196, 8, 103, 101, 116, 95, 99, 111, 100, 101, 9, 49, 95, 102, 114, 111, 122, 101, 110, 95, 105, 109, 112, 111, 114, 116, 108, 105, 98, 46, 66, 117, 105, 108, 116, 105, 110, 73, 109, 112, 111, 114, 116, 101, 114, 46, 103, 101, 116, 95, 99, 111, 100, 101, 35, 111, 112, 97, 113, 117, 101, 6, 197, 10, 103, 101, 116, 95, 115, 111, 117, 114, 99, 101, 9, 51, 95, 102, 114, 111, 122, 101, 110, 95, 105, 109, 112, 111, 114, 116, 108, 105, 98, 46, 66, 117, 105, 108, 116, 105, 110, 73, 109, 112, 111, 114, 116, 101, 114, 46, 103, 101, 116, 95, 115, 111, 117, 114, 99, 101, 35, 111, 112, 97, 113, 117, 101, 6, 198, 10, 105, 115, 95, 112, 97, 99, 107, 97, 103, 101, 9, 51, 95, 102, 114, 111, 122, 101, 110, 95, 105, 109, 112, 111, 114, 116, 108, 105, 98, 46, 66, 117, 105, 108, 116, 105, 110, 73, 109, 112, 111, 114, 116, 101, 114, 46, 105, 115, 95, 112, 97, 99, 107, 97, 103, 101, 35, 111, 112, 97, 113, 117, 101, 6, 199, 11, 108, 111, 97, 100, 95, 109, 111, 100, 117, 108, 101, 9, 52, 95, 102, 114, 111, 122, 101, 110, 95, 105, 109, 112, 111, 114, 116, 108, 105, 98, 46, 66, 117, 105, 108, 116, 105, 110, 73, 109, 112, 111, 114, 116, 101, 114, 46, 108, 111, 97, 100, 95, 109, 111, 100, 117, 108, 101, 35, 111, 112, 97, 113, 117, 101, 6, 200, 21, 95, 95, 115, 116, 97, 116, 105, 99, 95, 97, 116, 116, 114, 105, 98, 117, 116, 101, 115, 95, 95, 4, 0, 0, 15, 6, 202, 8, 95, 95, 100, 105, 99, 116, 95, 95, 4, 0, 0, 16, 6, 204, 11, 95, 95, 119, 101, 97, 107, 114, 101, 102, 95, 95, 4, 0, 0, 17] } 0, Value.bool true, Value.bool true, hqv "" 205, Value.int 21 0, Value.str { cps := #[6, 227, 10, 95, 95, 109, 111, 100, 117, 108, 101, 95, 95, 6, 217, 17, 95, 102, 114, 111, 122, 101, 110, 95, 105, 109, 112, 111, 114, 116, 108, 105, 98, 6, 228, 15, 95, 95, 102, 105, 114, 115, 116, 108, 105, 110, 101, 110, 111, 95, 95, 4, 218, 0, 562, 6, 229, 7, 95, 95, 100, 111, 99, 95, 95, 9, 47, 95, 102, 114, 111, 122, 101, 110, 95, 105, 109, 112, 111, 114, 116, 108, 105, 98, 46, 77, 111, 100, 117, 108, 101, 83, 112, 101, 99, 46, 95, 95, 100, 111, 99, 95, 95, 58, 115, 116, 114, 35, 111, 112, 97, 113, 117, 101, 6, 230, 8, 95, 95, 105, 110, 105, 116, 95, 95, 9, 44, 95, 102, 114, 111, 122, 101, 110, 95, 105, 109, 112, 111, 114, 116, 108, 105, 98, 46, 77, 111, 100, 117, 108, 101, 83, 112, 101, 99, 46, 95, 95, 105, 110, 105, 116, 95, 95, 35, 111, 112, 97, 113, 117, 101, 6, 231, 8, 95, 95, 114, 101, 112, 114, 95, 95, 9, 44, 95, 102, 114, 111, 122, 101, 110, 95, 105, 109, 112, 111, 114, 116, 108, 105, 98, 46, 77, 111, 100, 117, 108, 101, 83, 112, 101, 99, 46, 95, 95, 114, 101, 112, 114, 95, 95, 35, 111, 112, 97, 113, 117, 101, 6, 232, 6, 95, 95, 101, 113, 95, 95, 9, 42, 95, 102, 114, 111, 122, 101, 110, 95, 105, 109, 112, 111, 114, 116, 108, 105, 98, 46, 77, 111, 100, 117, 108, 101, 83, 112, 101, 99, 46, 95, 95, 101, 113, 95, 95, 35, 111, 112, 97, 113, 117, 101, 6, 233, 6, 99, 97, 99, 104, 101, 100, 9, 42, 95, 102, 114, 111, 122, 101, 110, 95, 105, 109, 112, 111, 114, 116, 108, 105, 98, 46, 77, 111, 100, 117, 108, 101, 83, 112, 101, 99, 46, 99, 97, 99, 104, 101, 100, 35, 111, 112, 97, 113, 117, 101, 6, 234, 6, 112, 97, 114, 101, 110, 116, 9, 42, 95, 102, 114, 111, 122, 101, 110, 95, 105, 109, 112, 111, 114, 116, 108, 105, 98, 46, 77, 111, 100, 117, 108, 101, 83, 112, 101, 99, 46, 112, 97, 114, 101, 110, 116, 35, 111, 112, 97, 113, 117, 101, 6, 235, 12, 104, 97, 115, 95, 108, 111, 99, 97, 116, 105, 111, 110, 9, 48, 95, 102, 114, 111, 122, 101, 110, 95, 105, 109, 112, 111, 114, 116, 108, 105, 98, 46, 77, 111, 100, 117, 108, 101, 83, 112, 101, 99, 46, 104, 97, 115, 95, 108, 111, 99, 97, 116, 105, 111, 110, 35, 111, 112, 97, 113, 117, 101, 6, 236, 21, 95, 95, 115, 116, 97, 116, 105, 99, 95, 97, 116, 116, 114, 105, 98, 117, 116, 101, 115, 95, 95, 4, 0, 0, 23, 6, 238, 8, 95, 95, 100, 105, 99, 116, 95, 95, 4, 0, 0, 24, 6, 240, 11, 95, 95, 119, 101, 97, 107, 114, 101, 102, 95, 95, 4, 0, 0, 25, 6, 241, 8, 95, 95, 104, 97, 115, 104, 95, 95, 0] } 0, Value.bool true, Value.bool true, hqv "" 242] 1 },
   { cls := Value.type "list", data := Data.seq #[] },
   { cls := Value.type "dict", data := Data.dict #[hqe P "name" 208 (hqv "_sre" 207), hqe P "loader" 209 (Value.ref 14), hqe P "origin" 210 (hqv "built-in" 184), hqe P "loader_state" 211 (Value.none), hqe P "submodule_search_locations" 212 (Value.none), hqe P "_uninitialized_submodules" 213 (Value.ref 19), hqe P "_set_fileattr" 214 (Value.bool false), hqe P "_cached" 215 (Value.none), hqe P "_initializing" 243 (Value.bool false)] 9 },
   { cls := Value.type "dict", data := Data.dict #[hqe P "__module__" 227 (hqv "_frozen_imp\x6frtlib" 217), hqe P "__firstlineno__" 228 (Value.int 562 218), hqb P "__doc__" 229 "_frozen_imp\x6frtlib.ModuleSpec.__doc__:str#opaque", hqb P "__init__" 230 "_frozen_imp\x6frtlib.ModuleSpec.__init__#opaque", hqb P "__repr__" 231 "_frozen_imp\x6frtlib.ModuleSpec.__repr__#opaque", hqb P "__eq__" 232 "_frozen_imp\x6frtlib.ModuleSpec.__eq__#opaque", hqb P "cached" 233 "_frozen_imp\x6frtlib.ModuleSpec.cached#opaque", hqb P "parent" 234 "_frozen_imp\x6frtlib.ModuleSpec.parent#opaque", hqb P "has_location" 235 "_frozen_imp\x6frtlib.ModuleSpec.has_location#opaque", hqe P "__static_attributes__" 236 (Value.ref 23), hqe P "__dict__" 238 (Value.ref 24), hqe P "__weakref__" 240 (Value.ref 25), hqe P "__hash__" 241 (Value.none)] 13 },
   { cls := Value.type "type", data := Data.cls { name := Str.ofString "ModuleSpec", bases := [Value.type "object"], mro := [Value.ref 22, Value.type "object"], ns := 21, qualname := Str.ofString "ModuleSpec" } },
   { cls := Value.type "tuple", data := Data.seq #[hqv "_cached" 219, hqv "_set_fileattr" 220, hqv "_uninitialized_submodules" 221, hqv "loader" 222, hqv "loader_state" 223, hqv "name" 224, hqv "origin" 225, hqv "submodule_search_locations" 226] },
   { cls := Value.type "getset_descriptor", data := Data.fields #[hqv "__dict__" 237, Value.ref 22, Value.builtin "function.__dict__", Value.builtin "function.__dict__#set"] },
   { cls := Value.type "getset_descriptor", data := Data.fields #[hqv "__weakref__" 239, Value.ref 22, Value.builtin "ExceptionGroup.__weakref__", Value.none] },
   { cls := Value.ref 22, dict := some 20 },
   { cls := Value.none, data := Data.seq #[Value.int 11 0, Value.str { cps := #[6, 247, 8, 95, 95, 110, 97, 109, 101, 95, 95, 6, 246, 4, 95, 115, 114, 101, 6, 248, 7, 95, 95, 100, 111, 99, 95, 95, 0, 6, 250, 11, 95, 95, 112, 97, 99, 107, 97, 103, 101, 95, 95, 6, 249, 0, 6, 251, 10, 95, 95, 108, 111, 97, 100, 101, 114, 95, 95, 4, 0, 0, 14, 6, 252, 8, 95, 95, 115, 112, 101, 99, 95, 95, 4, 0, 0, 26, 6, 253, 7, 99, 111, 109, 112, 105, 108, 101, 9, 12, 95, 115, 114, 101, 46, 99, 111, 109, 112, 105, 108, 101, 6, 254, 8, 116, 101, 109, 112, 108, 97, 116, 101, 9, 13, 95, 115, 114, 101, 46, 116, 101, 109, 112, 108, 97, 116, 101, 6, 255, 11, 103, 101, 116, 99, 111, 100, 101, 115, 105, 122, 101, 9, 16, 95, 115, 114, 101, 46, 103, 101, 116, 99, 111, 100, 101, 115, 105, 122, 101, 6, 256, 13, 97, 115, 99, 105, 105, 95, 105, 115, 99, 97, 115, 101, 100, 9, 18, 95, 115, 114, 101, 46, 97, 115, 99, 105, 105, 95, 105, 115, 99, 97, 115, 101, 100, 6, 257, 15, 117, 110, 105, 99, 111, 100, 101, 95, 105, 115, 99, 97, 115, 101, 100, 9, 20, 95, 115, 114, 101, 46, 117, 110, 105, 99, 111, 100, 101, 95, 105, 115, 99, 97, 115, 101, 100, 6, 258, 13, 97, 115, 99, 105, 105, 95, 116, 111, 108, 111, 119, 101, 114, 9, 18, 95, 115, 114, 101, 46, 97, 115, 99, 105, 105, 95, 116, 111, 108, 111, 119, 101, 114, 6, 259, 15, 117, 110, 105, 99, 111, 100, 101, 95, 116, 111, 108, 111, 119, 101, 114, 9, 20, 95, 115, 114, 101, 46, 117, 110, 105, 99, 111, 100, 101, 95, 116, 111, 108, 111, 119, 101, 114, 6, 261, 5, 77, 65, 71, 73, 67, 4, 260, 0, 20230612, 6, 263, 8, 67, 79, 68, 69, 83, 73, 90, 69, 4, 262, 0, 4, 6, 265, 9, 77, 65, 88, 82, 69, 80, 69, 65, 84, 4, 264, 0, 4294967295, 6, 267, 9, 77, 65, 88, 71, 82, 79, 85, 80, 83, 4, 266, 0, 1073741823, 6, 269, 9, 99, 111, 112, 121, 114, 105, 103, 104, 116, 6, 268, 53, 32, 83, 82, 69, 32, 50, 46, 50, 46, 50, 32, 67, 111, 112, 121, 114, 105, 103, 104, 116, 32, 40, 99, 41, 32, 49, 57, 57, 55, 45, 50, 48, 48, 50, 32, 98, 121, 32, 83, 101, 99, 114, 101, 116, 32, 76, 97, 98, 115, 32, 65, 66, 32] } 0, Value.bool true, Value.bool false, hqv "_sre" 271] },
   { cls := Value.type "tuple", data := Data.seq #[] },
   { cls := Value.none, data := Data.fields #[Value.int 2 0, Value.int 0 0, Value.ref 37, Value.int 6 0, Value.int 0 0, Value.ref 44, Value.int 50 0, Value.int 0 0, Value.ref 86, Value.int 54 0, Value.int 0 0, Value.ref 93, Value.int 67 0, Value.int 0 0, Value.ref 100, Value.int 75 0, Value.int 0 0, Value.ref 117, Value.int 146 0, Value.int 0 0, Value.ref 244, Value.int 148 0, Value.int 0 0, Value.ref 249, Value.int 151 0, Value.int 0 0, Value.ref 254, Value.int 157 0, Value.int 0 0, Value.ref 259, Value.int 166 0, Value.int 0 0, Value.ref 266, Value.int 171 0, Value.int 0 0, Value.ref 271, Value.int 175 0, Value.int 0 0, Value.ref 278, Value.int 183 0, Value.int 0 0, Value.ref 283, Value.int 203 0, Value.int 0 0, Value.ref 290, Value.int 205 0, Value.int 0 0, Value.ref 295, Value.int 214 0, Value.int 0 0, Value.ref 300, Value.int 225 0, Value.int 0 0, Value.ref 305, Value.int 230 0, Value.int 0 0, Value.ref 310, Value.int 249 0, Value.int 0 0, Value.ref 315] },
   { cls := Value.type "code", data := Data.fields #[hqv "<module>" 277, hqv "<module>" 278, hqv "/claim/cut.py" 279, Value.int 1 0, Value.int 0 0, Value.int 0 0, Value.int 0 0, Value.int 0 0, Value.ref 28, Value.bool false, Value.int 276 0, Value.ref 29, Value.none, Value.none, Value.none, Value.none, Value.int 280 0, Value.int 1 0, hqv "/claim/cut.py" 281] },
   { cls := Value.type "frame", slots := #[some (Value.ref 30), some (Value.ref 3), some (Value.ref 3), none, some (hqv "__main__" 164), none, some (Value.ref 0)] },
   { cls := Value.none, data := Data.fields #[] },
   { cls := Value.none, data := with2 l_1 fun ps bd sc => Data.func { name := Str.ofString "_wall", qualname := Str.ofString "_wall", params := ps, body := FuncBody.stmts bd, scope := sc, globals := 0, closure := [], defaults := Value.none, kwdefaults := Value.none } },
   { cls := Value.type "tuple", data := Data.seq #[] },
   { cls := Value.type "builtin_function_or_method", data := Data.fields #[Value.builtin "type.__prepare__", Value.type "type"] },
   { cls := Value.type "dict", data := Data.dict #[hqe P "__module__" 298 (hqv "cpy313.netrc" 289), hqe P "__qualname__" 300 (hqv "_netrclex" 299), hqe P "__firstlineno__" 302 (Value.int 6 301), hqe P "__init__" 310 (Value.ref 52), hqe P "_read_char" 318 (Value.ref 59), hqe P "get_token" 328 (Value.ref 66), hqe P "push_token" 336 (Value.ref 73), hqe P "__static_attributes__" 341 (Value.ref 74)] 8 },
   { cls := Value.type "tuple", data := Data.seq #[] },
   { cls := Value.none, data := Data.fields #[Value.int 8 0, Value.int 4 0, Value.ref 51, Value.int 14 0, Value.int 4 0, Value.ref 58, Value.int 20 0, Value.int 4 0, Value.ref 65, Value.int 47 0, Value.int 4 0, Value.ref 72] },
   { cls := Value.type "code", data := Data.fields #[hqv "_netrclex" 293, hqv "_netrclex" 294, hqv "/claim/cut.py" 295, Value.int 6 0, Value.int 0 0, Value.int 0 0, Value.int 0 0, Value.int 0 0, Value.ref 42, Value.bool false, Value.int 276 0, Value.ref 43, Value.none, Value.none, Value.none, Value.none, Value.int 296 0, Value.int 6 0, hqv "/claim/cut.py" 297] },
   { cls := Value.type "frame", slots := #[some (Value.ref 44), some (Value.ref 3), some (Value.ref 41), none, some (hqv "cpy313.netrc" 289), none, some (Value.ref 0)] },
   { cls := Value.none, data := Data.fields #[] },
   { cls := Value.none, data := with2 l_3_0 fun ps bd sc => Data.func { name := Str.ofString "__init__", qualname := Str.ofString "_netrclex.__init__", params := ps, body := FuncBody.stmts bd, scope := sc, globals := 0, closure := [], defaults := Value.none, kwdefaults := Value.none } },
   { cls := Value.none, data := Data.fields #[] },
   { cls := Value.none, data := with2 l_3_1 fun ps bd sc => Data.func { name := Str.ofString "_read_char", qualname := Str.ofString "_netrclex._read_char", params := ps, body := FuncBody.stmts bd, scope := sc, globals := 0, closure := [], defaults := Value.none, kwdefaults := Value.none } },
   { cls := Value.none, data := Data.fields #[] },
   { cls := Value.none, data := with2 l_3_2 fun ps bd sc => Data.func { name := Str.ofString "get_token", qualname := Str.ofString "_netrclex.get_token", params := ps, body := FuncBody.stmts bd, scope := sc, globals := 0, closure := [], defaults := Value.none, kwdefaults := Value.none } },
   { cls := Value.none, data := Data.fields #[] },
   { cls := Value.none, data := with2 l_3_3 fun ps bd sc => Data.func { name := Str.ofString "push_token", qualname := Str.ofString "_netrclex.push_token", params := ps, body := FuncBody.stmts bd, scope := sc, globals := 0, closure := [], defaults := Value.none, kwdefaults := Value.none } },
   { cls := Value.type "super", data := Data.fields #[Value.ref 76, Value.ref 76, Value.ref 76] },
   { cls := Value.type "builtin_function_or_method", data := Data.fields #[Value.builtin "object.__init_subclass__", Value.ref 76] },
   { cls := Value.none, data := Data.fields #[] },
   { cls := Value.none, data := with2 l_5 fun ps bd sc => Data.func { name := Str.ofString "add_func_stats", qualname := Str.ofString "add_func_stats", params := ps, body := FuncBody.stmts bd, scope := sc, globals := 0, closure := [], defaults := Value.none, kwdefaults := Value.none } },
   { cls := Value.none, data := Data.fields #[] },
   { cls := Value.none, data := with2 l_6 fun ps bd sc => Data.func { name := Str.ofString "add_callers", qualname := Str.ofString "add_callers", params := ps, body := FuncBody.stmts bd, scope := sc, globals := 0, closure := [], defaults := Value.none, kwdefaults := Value.none } },
   { cls := Value.none, data := Data.fields #[] },
   { cls := Value.none, data := with2 l_7 fun ps bd sc => Data.func { name := Str.ofString "count_calls", qualname := Str.ofString "count_calls", params := ps, body := FuncBody.stmts bd, scope := sc, globals := 0, closure := [], defaults := Value.none, kwdefaults := Value.none } },
   { cls := Value.type "list", data := Data.seq #[Value.int 14 394, Value.int 10 395, Value.int 4 396, Value.int 1 397, Value.int 1 398, Value.int 22 399, Value.int 0 400, Value.int 31 401, Value.int 16 402, Value.int 127 403, Value.int 0 404, Value.int 13 405, Value.int 7 406, Value.int 22 407, Value.int 0 408, Value.int 31 409, Value.int 16 410, Value.int 127 411, Value.int 0 412, Value.int 1 413] },
   { cls := Value.type "dict", data := Data.dict #[] },
   { cls := Value.type "tuple", data := Data.seq #[Value.none] },
   { cls := Value.type "list", data := Data.seq #[Value.int 14 420, Value.int 14 421, Value.int 4 422, Value.int 1 423, Value.int 1 424, Value.int 9 425, Value.int 4294966783 426, Value.int 0 427, Value.int 0 428, Value.int 2147483648 429, Value.int 0 430, Value.int 0 431, Value.int 0 432, Value.int 0 433, Value.int 0 434, Value.int 13 435, Value.int 11 436, Value.int 9 437, Value.int 4294966783 438, Value.int 0 439, Value.int 0 440, Value.int 2147483648 441, Value.int 0 442, Value.int 0 443, Value.int 0 444, Value.int 0 445, Value.int 0 446, Value.int 1 447] },
   { cls := Value.type "dict", data := Data.dict #[] },
   { cls := Value.type "tuple", data := Data.seq #[Value.none] },
   { cls := Value.type "tuple", data := Data.seq #[] },
   { cls := Value.type "builtin_function_or_method", data := Data.fields #[Value.builtin "type.__prepare__", Value.type "type"] },
   { cls := Value.type "dict", data := Data.dict #[hqe P "__module__" 458 (hqv "cpy313.wsgiref.headers" 389), hqe P "__qualname__" 460 (hqv "Headers" 459), hqe P "__firstlineno__" 462 (Value.int 75 461), hqe P "__init__" 472 (Value.ref 126), hqe P "_convert_string_type" 482 (Value.ref 133), hqe P "__len__" 489 (Value.ref 140), hqe P "__setitem__" 498 (Value.ref 147), hqe P "__delitem__" 504 (Value.ref 152), hqe P "__getitem__" 512 (Value.ref 159), hqe P "__contains__" 520 (Value.ref 166), hqe P "get_all" 528 (Value.ref 173), hqe P "get" 539 (Value.ref 181), hqe P "keys" 545 (Value.ref 186), hqe P "values" 551 (Value.ref 191), hqe P "items" 558 (Value.ref 198), hqe P "__repr__" 565 (Value.ref 205), hqe P "__str__" 571 (Value.ref 210), hqe P "__bytes__" 578 (Value.ref 217), hqe P "setdefault" 587 (Value.ref 224), hqe P "add_header" 597 (Value.ref 231), hqe P "__static_attributes__" 599 (Value.ref 232)] 21 },
   { cls := Value.type "tuple", data := Data.seq #[] },
   { cls := Value.none, data := Data.fields #[Value.int 77 0, Value.int 4 0, Value.ref 125, Value.int 87 0, Value.int 4 0, Value.ref 132, Value.int 95 0, Value.int 4 0, Value.ref 139, Value.int 98 0, Value.int 4 0, Value.ref 146, Value.int 102 0, Value.int 4 0, Value.ref 151, Value.int 106 0, Value.int 4 0, Value.ref 158, Value.int 109 0, Value.int 4 0, Value.ref 165, Value.int 112 0, Value.int 4 0, Value.ref 172, Value.int 115 0, Value.int 4 0, Value.ref 180, Value.int 122 0, Value.int 4 0, Value.ref 185, Value.int 125 0, Value.int 4 0, Value.ref 190, Value.int 128 0, Value.int 4 0, Value.ref 197, Value.int 131 0, Value.int 4 0, Value.ref 204, Value.int 134 0, Value.int 4 0, Value.ref 209, Value.int 137 0, Value.int 4 0, Value.ref 216, Value.int 140 0, Value.int 4 0, Value.ref 223, Value.int 143 0, Value.int 4 0, Value.ref 230] },
   { cls := Value.type "code", data := Data.fields #[hqv "Headers" 453, hqv "Headers" 454, hqv "/claim/cut.py" 455, Value.int 75 0, Value.int 0 0, Value.int 0 0, Value.int 0 0, Value.int 0 0, Value.ref 115, Value.bool false, Value.int 276 0, Value.ref 116, Value.none, Value.none, Value.none, Value.none, Value.int 456 0, Value.int 75 0, hqv "/claim/cut.py" 457] },
   { cls := Value.type "frame", slots := #[some (Value.ref 117), some (Value.ref 3), some (Value.ref 114), none, some (hqv "cpy313.wsgiref.headers" 389), none, some (Value.ref 0)] },
   { cls := Value.none, data := Data.fields #[] },
   { cls := Value.none, data := with2 l_11_0 fun ps bd sc => Data.func { name := Str.ofString "__init__", qualname := Str.ofString "Headers.__init__", params := ps, body := FuncBody.stmts bd, scope := sc, globals := 0, closure := [], defaults := Value.none, kwdefaults := Value.none } },
   { cls := Value.none, data := Data.fields #[] },
   { cls := Value.none, data := with2 l_11_1 fun ps bd sc => Data.func { name := Str.ofString "_convert_string_type", qualname := Str.ofString "Headers._convert_string_type", params := ps, body := FuncBody.stmts bd, scope := sc, globals := 0, closure := [], defaults := Value.none, kwdefaults := Value.none } },
   { cls := Value.none, data := Data.fields #[] },
   { cls := Value.none, data := with2 l_11_2 fun ps bd sc => Data.func { name := Str.ofString "__len__", qualname := Str.ofString "Headers.__len__", params := ps, body := FuncBody.stmts bd, scope := sc, globals := 0, closure := [], defaults := Value.none, kwdefaults := Value.none } },
   { cls := Value.none, data := Data.fields #[] },
   { cls := Value.none, data := with2 l_11_3 fun ps bd sc => Data.func { name := Str.ofString "__setitem__", qualname := Str.ofString "Headers.__setitem__", params := ps, body := FuncBody.stmts bd, scope := sc, globals := 0, closure := [], defaults := Value.none, kwdefaults := Value.none } },
   { cls := Value.none, data := Data.fields #[] },
   { cls := Value.none, data := with2 l_11_4 fun ps bd sc => Data.func { name := Str.ofString "__delitem__", qualname := Str.ofString "Headers.__delitem__", params := ps, body := FuncBody.stmts bd, scope := sc, globals := 0, closure := [], defaults := Value.none, kwdefaults := Value.none } },
   { cls := Value.none, data := Data.fields #[] },
   { cls := Value.none, data := with2 l_11_5 fun ps bd sc => Data.func { name := Str.ofString "__getitem__", qualname := Str.ofString "Headers.__getitem__", params := ps, body := FuncBody.stmts bd, scope := sc, globals := 0, closure := [], defaults := Value.none, kwdefaults := Value.none } },
   { cls := Value.none, data := Data.fields #[] },
   { cls := Value.none, data := with2 l_11_6 fun ps bd sc => Data.func { name := Str.ofString "__contains__", qualname := Str.ofString "Headers.__contains__", params := ps, body := FuncBody.stmts bd, scope := sc, globals := 0, closure := [], defaults := Value.none, kwdefaults := Value.none } },
   { cls := Value.none, data := Data.fields #[] },
   { cls := Value.none, data := with2 l_11_7 fun ps bd sc => Data.func { name := Str.ofString "get_all", qualname := Str.ofString "Headers.get_all", params := ps, body := FuncBody.stmts bd, scope := sc, globals := 0, closure := [], defaults := Value.none, kwdefaults := Value.none } },
   { cls := Value.none, data := Data.fields #[] },
   { cls := Value.none, data := with2 l_11_8 fun ps bd sc => Data.func { name := Str.ofString "get", qualname := Str.ofString "Headers.get", params := ps, body := FuncBody.stmts bd, scope := sc, globals := 0, closure := [], defaults := Value.none, kwdefaults := Value.none } },
   { cls := Value.none, data := Data.fields #[] },
   { cls := Value.none, data := with2 l_11_9 fun ps bd sc => Data.func { name := Str.ofString "keys", qualname := Str.ofString "Headers.keys", params := ps, body := FuncBody.stmts bd, scope := sc, globals := 0, closure := [], defaults := Value.none, kwdefaults := Value.none } },
   { cls := Value.none, data := Data.fields #[] },
   { cls := Value.none, data := with2 l_11_10 fun ps bd sc => Data.func { name := Str.ofString "values", qualname := Str.ofString "Headers.values", params := ps, body := FuncBody.stmts bd, scope := sc, globals := 0, closure := [], defaults := Value.none, kwdefaults := Value.none } },
   { cls := Value.none, data := Data.fields #[] },
   { cls := Value.none, data := with2 l_11_11 fun ps bd sc => Data.func { name := Str.ofString "items", qualname := Str.ofString "Headers.items", params := ps, body := FuncBody.stmts bd, scope := sc, globals := 0, closure := [], defaults := Value.none, kwdefaults := Value.none } },
   { cls := Value.none, data := Data.fields #[] },
   { cls := Value.none, data := with2 l_11_12 fun ps bd sc => Data.func { name := Str.ofString "__repr__", qualname := Str.ofString "Headers.__repr__", params := ps, body := FuncBody.stmts bd, scope := sc, globals := 0, closure := [], defaults := Value.none, kwdefaults := Value.none } },
   { cls := Value.none, data := Data.fields #[] },
   { cls := Value.none, data := with2 l_11_13 fun ps bd sc => Data.func { name := Str.ofString "__str__", qualname := Str.ofString "Headers.__str__", params := ps, body := FuncBody.stmts bd, scope := sc, globals := 0, closure := [], defaults := Value.none, kwdefaults := Value.none } },
   { cls := Value.none, data := Data.fields #[] },
   { cls := Value.none, data := with2 l_11_14 fun ps bd sc => Data.func { name := Str.ofString "__bytes__", qualname := Str.ofString "Headers.__bytes__", params := ps, body := FuncBody.stmts bd, scope := sc, globals := 0, closure := [], defaults := Value.none, kwdefaults := Value.none } },
   { cls := Value.none, data := Data.fields #[] },
   { cls := Value.none, data := with2 l_11_15 fun ps bd sc => Data.func { name := Str.ofString "setdefault", qualname := Str.ofString "Headers.setdefault", params := ps, body := FuncBody.stmts bd, scope := sc, globals := 0, closure := [], defaults := Value.none, kwdefaults := Value.none } },
   { cls := Value.none, data := Data.fields #[] },
   { cls := Value.none, data := with2 l_11_16 fun ps bd sc => Data.func { name := Str.ofString "add_header", qualname := Str.ofString "Headers.add_header", params := ps, body := FuncBody.stmts bd, scope := sc, globals := 0, closure := [], defaults := Value.none, kwdefaults := Value.none } },
   { cls := Value.type "super", data := Data.fields #[Value.ref 234, Value.ref 234, Value.ref 234] },
   { cls := Value.type "builtin_function_or_method", data := Data.fields #[Value.builtin "object.__init_subclass__", Value.ref 234] },
   { cls := Value.none, data := Data.fields #[] },
   { cls := Value.none, data := with2 l_13 fun ps bd sc => Data.func { name := Str.ofString "_law_names", qualname := Str.ofString "_law_names", params := ps, body := FuncBody.stmts bd, scope := sc, globals := 0, closure := [], defaults := Value.none, kwdefaults := Value.none } },
   { cls := Value.none, data := Data.fields #[] },
   { cls := Value.none, data := with2 l_14 fun ps bd sc => Data.func { name := Str.ofString "_law_numbers", qualname := Str.ofString "_law_numbers", params := ps, body := FuncBody.stmts bd, scope := sc, globals := 0, closure := [], defaults := Value.none, kwdefaults := Value.none } },
   { cls := Value.none, data := Data.fields #[] },
   { cls := Value.none, data := with2 l_15 fun ps bd sc => Data.func { name := Str.ofString "_law_words", qualname := Str.ofString "_law_words", params := ps, body := FuncBody.stmts bd, scope := sc, globals := 0, closure := [], defaults := Value.none, kwdefaults := Value.none } },
   { cls := Value.none, data := Data.fields #[] },
   { cls := Value.none, data := with2 l_16 fun ps bd sc => Data.func { name := Str.ofString "_law_text", qualname := Str.ofString "_law_text", params := ps, body := FuncBody.stmts bd, scope := sc, globals := 0, closure := [], defaults := Value.none, kwdefaults := Value.none } },
   { cls := Value.none, data := Data.fields #[] },
   { cls := Value.none, data := with2 l_17 fun ps bd sc => Data.func { name := Str.ofString "_law_stream", qualname := Str.ofString "_law_stream", params := ps, body := FuncBody.stmts bd, scope := sc, globals := 0, closure := [], defaults := Value.none, kwdefaults := Value.none } },
   { cls := Value.none, data := Data.fields #[] },
   { cls := Value.none, data := with2 l_18 fun ps bd sc => Data.func { name := Str.ofString "_law_read", qualname := Str.ofString "_law_read", params := ps, body := FuncBody.stmts bd, scope := sc, globals := 0, closure := [], defaults := Value.none, kwdefaults := Value.none } },
   { cls := Value.none, data := Data.fields #[] },
   { cls := Value.none, data := with2 l_19 fun ps bd sc => Data.func { name := Str.ofString "_law_signposts", qualname := Str.ofString "_law_signposts", params := ps, body := FuncBody.stmts bd, scope := sc, globals := 0, closure := [], defaults := Value.none, kwdefaults := Value.none } },
   { cls := Value.none, data := Data.fields #[] },
   { cls := Value.none, data := with2 l_20 fun ps bd sc => Data.func { name := Str.ofString "_law_run", qualname := Str.ofString "_law_run", params := ps, body := FuncBody.stmts bd, scope := sc, globals := 0, closure := [], defaults := Value.none, kwdefaults := Value.none } },
   { cls := Value.none, data := Data.fields #[] },
   { cls := Value.none, data := with2 l_21 fun ps bd sc => Data.func { name := Str.ofString "_law_sent", qualname := Str.ofString "_law_sent", params := ps, body := FuncBody.stmts bd, scope := sc, globals := 0, closure := [], defaults := Value.none, kwdefaults := Value.none } },
   { cls := Value.none, data := Data.fields #[] },
   { cls := Value.none, data := with2 l_22 fun ps bd sc => Data.func { name := Str.ofString "_law_leavings", qualname := Str.ofString "_law_leavings", params := ps, body := FuncBody.stmts bd, scope := sc, globals := 0, closure := [], defaults := Value.none, kwdefaults := Value.none } },
   { cls := Value.none, data := Data.fields #[] },
   { cls := Value.none, data := with2 l_23 fun ps bd sc => Data.func { name := Str.ofString "_law_arrivals", qualname := Str.ofString "_law_arrivals", params := ps, body := FuncBody.stmts bd, scope := sc, globals := 0, closure := [], defaults := Value.none, kwdefaults := Value.none } },
   { cls := Value.none, data := Data.fields #[] },
   { cls := Value.none, data := with2 l_24 fun ps bd sc => Data.func { name := Str.ofString "_law_leads_on", qualname := Str.ofString "_law_leads_on", params := ps, body := FuncBody.stmts bd, scope := sc, globals := 0, closure := [], defaults := Value.none, kwdefaults := Value.none } },
   { cls := Value.none, data := Data.fields #[] },
   { cls := Value.none, data := with2 l_25 fun ps bd sc => Data.func { name := Str.ofString "_law_is_told", qualname := Str.ofString "_law_is_told", params := ps, body := FuncBody.stmts bd, scope := sc, globals := 0, closure := [], defaults := Value.none, kwdefaults := Value.none } },
   { cls := Value.none, data := Data.fields #[] },
   { cls := Value.none, data := with2 l_26 fun ps bd sc => Data.func { name := Str.ofString "law", qualname := Str.ofString "law", params := ps, body := FuncBody.stmts bd, scope := sc, globals := 0, closure := [], defaults := Value.none, kwdefaults := Value.none } }]
noncomputable def gA (P : Params) : Obj := { cls := Value.type "dict", data := Data.dict #[hqe P "__name__" 165 (hqv "__main__" 164), hqe P "__doc__" 166 (Value.none), hqe P "__package__" 167 (Value.none), hqb P "__loader__" 168 "__main__.__loader__#opaque", hqe P "__spec__" 169 (Value.none), hqe P "__annotations__" 170 (Value.ref 6), hqe P "__builtins__" 171 (Value.ref 4), hqe P "__file__" 173 (hqv "/claim/cut.py" 172), hqe P "__cached__" 174 (Value.none), hqe P "_sre" 275 (Value.ref 12)] 10 }
noncomputable def fA (P : Params) : Obj := { cls := Value.none, data := Data.fields #[] }
noncomputable def gB (P : Params) : Obj := { cls := Value.type "dict", data := Data.dict #[hqe P "__name__" 165 (hqv "cpy313.wsgiref.headers" 389), hqe P "__doc__" 166 (Value.none), hqe P "__package__" 167 (Value.none), hqb P "__loader__" 168 "__main__.__loader__#opaque", hqe P "__spec__" 169 (Value.none), hqe P "__annotations__" 170 (Value.ref 6), hqe P "__builtins__" 171 (Value.ref 4), hqe P "__file__" 173 (hqv "/claim/cut.py" 172), hqe P "__cached__" 174 (Value.none), hqe P "_sre" 275 (Value.ref 12), hqe P "_wall" 288 (Value.ref 38), hqe P "_netrclex" 348 (Value.ref 76), hqe P "add_func_stats" 368 (Value.ref 87), hqe P "add_callers" 379 (Value.ref 94), hqe P "count_calls" 388 (Value.ref 101), hqe P "_name_disallowed_re" 416 (Value.ref 106), hqe P "_value_disallowed_re" 450 (Value.ref 111)] 17 }
noncomputable def fB (P : Params) : Obj := { cls := Value.none, data := Data.fields #[Value.int 2 0, Value.int 0 0, Value.ref 37, Value.int 6 0, Value.int 0 0, Value.ref 44, Value.int 50 0, Value.int 0 0, Value.ref 86, Value.int 54 0, Value.int 0 0, Value.ref 93, Value.int 67 0, Value.int 0 0, Value.ref 100] }
noncomputable def gC (P : Params) : Obj := { cls := Value.type "dict", data := Data.dict #[hqe P "__name__" 165 (hqv "cpy313.wsgiref.headers" 389), hqe P "__doc__" 166 (Value.none), hqe P "__package__" 167 (Value.none), hqb P "__loader__" 168 "__main__.__loader__#opaque", hqe P "__spec__" 169 (Value.none), hqe P "__annotations__" 170 (Value.ref 6), hqe P "__builtins__" 171 (Value.ref 4), hqe P "__file__" 173 (hqv "/claim/cut.py" 172), hqe P "__cached__" 174 (Value.none), hqe P "_sre" 275 (Value.ref 12), hqe P "_wall" 288 (Value.ref 38), hqe P "_netrclex" 348 (Value.ref 76), hqe P "add_func_stats" 368 (Value.ref 87), hqe P "add_callers" 379 (Value.ref 94), hqe P "count_calls" 388 (Value.ref 101), hqe P "_name_disallowed_re" 416 (Value.ref 106), hqe P "_value_disallowed_re" 450 (Value.ref 111), hqe P "Headers" 606 (Value.ref 234)] 18 }
noncomputable def fC (P : Params) : Obj := { cls := Value.none, data := Data.fields #[Value.int 2 0, Value.int 0 0, Value.ref 37, Value.int 6 0, Value.int 0 0, Value.ref 44, Value.int 50 0, Value.int 0 0, Value.ref 86, Value.int 54 0, Value.int 0 0, Value.ref 93, Value.int 67 0, Value.int 0 0, Value.ref 100, Value.int 75 0, Value.int 0 0, Value.ref 117] }
noncomputable def mixO : List Bool → List Obj → List Obj → List Obj
  | true :: m, o :: x, y => o :: mixO m x y
  | false :: m, x, o :: y => o :: mixO m x y
  | _, _, _ => []
noncomputable def objs1 (P : Params) : List Obj := mixO ((List.range 317).map (Nat.testBit 215321274191538174850706788795789016306541137534140730001294271667056306282349978640539076001804)) ((heap2 P).map (·.2)) (rest2 P)
noncomputable def heapE (P : Params) : Heap := { objs := ⟨objs1 P⟩ }
noncomputable def heapS (P : Params) : Heap := { objs := ⟨((objs1 P).take 28).set 3 (gA P)⟩ }
noncomputable def heapA (P : Params) : Heap := { objs := ⟨(((objs1 P).take 32).set 3 (gA P)).set 29 (fA P)⟩ }
noncomputable def heapB (P : Params) : Heap := { objs := ⟨(((objs1 P).take 112).set 3 (gB P)).set 29 (fB P)⟩ }
noncomputable def heapC (P : Params) : Heap := { objs := ⟨(((objs1 P).take 239).set 3 (gC P)).set 29 (fC P)⟩ }
noncomputable abbrev B1 : List Stmt := behindTheImports PySem.Challenge.rw_pe0233_01.row.prog
noncomputable abbrev env1 : Env := { scope := PySem.Challenge.rw_pe0233_01.row.prog.main.scope, locals := mainNs, globals := mainNs, cells := [], code := .ref 30, frame := some 31 }
noncomputable abbrev pos0 : Pos := { line := 0, col := 0, endLine := 0, endCol := 0 }
theorem split_run {tb : String → Option Builtin} {p : Program} {w : World} {n₀ : Nat} {ann : Option Value} {n N : Nat} {s s' r : Shared} {b : List Stmt} {env : Env} {c : Code} {pos p' q : Pos} (k : Nat) (h : segRun tb p w n₀ ann 1 n s (piecesOf (b.take k) env c pos [topFrame q]) = some (.next, s', c, p'))
    (kk : topRun tb p w n₀ ann N s' (restOf (b.drop k) env c p' [topFrame q]) = some r) : topRun tb p w n₀ ann (n + N) s (restOf b env c pos [topFrame q]) = some r := by
  have := piece_app h kk
  rwa [List.take_append_drop] at this
theorem open1 : ∀ w : World, (fencedOpening treeTable PySem.Challenge.rw_pe0233_01.row.prog w 3622).map (fun s => (s.heap, s.gens, s.drawn, s.toks)) = some (heapS w.params, #[], {}, 276) := by
  intro w
  kernel_rfl
theorem size1 : ∀ w : World, ((heapS w.params).isNs mainGlobals && (#[] : Array GenState).size == 0, (heapS w.params).objs.size, (heapS w.params).nsMap mainGlobals "__annotations__") = (true, 28, some (.ref 6)) := by
  intro w
  kernel_rfl
theorem go1 : ∀ (w : World) (os : OsState), topGo treeTable PySem.Challenge.rw_pe0233_01.row.prog w 28 (some (.ref 6)) 12 ⟨heapS w.params, #[], {}, 276, os⟩ (topStub PySem.Challenge.rw_pe0233_01.row.prog) = some (⟨heapA w.params, #[], {}, 282, os⟩, ⟨denote treeTable (.body B1 env1), .body B1 env1, pos0, [topFrame pos0]⟩) := by
  intro w os
  kernel_rfl
theorem blk1 : ∀ (w : World) (os : OsState), segRun treeTable PySem.Challenge.rw_pe0233_01.row.prog w 28 (some (.ref 6)) 1 1 ⟨heapA w.params, #[], {}, 282, os⟩ (blockOf B1 env1 (.body B1 env1) pos0 [topFrame pos0]) = some (.next, ⟨heapA w.params, #[], {}, 282, os⟩, .body B1 env1, pos0) := by
  intro w os
  kernel_rfl
theorem seg1 : ∀ (w : World) (os : OsState), segRun treeTable PySem.Challenge.rw_pe0233_01.row.prog w 28 (some (.ref 6)) 1 640 ⟨heapA w.params, #[], {}, 282, os⟩ (piecesOf (B1.take 10) env1 (.body B1 env1) pos0 [topFrame pos0]) = some (.next, ⟨heapB w.params, #[], {}, 451, os⟩, .body B1 env1, { line := 74, col := 0, endLine := 74, endCol := 20 }) := by
  intro w os
  kernel_rfl
theorem seg2 : ∀ (w : World) (os : OsState), segRun treeTable PySem.Challenge.rw_pe0233_01.row.prog w 28 (some (.ref 6)) 1 740 ⟨heapB w.params, #[], {}, 451, os⟩ (piecesOf ((B1.drop 10).take 1) env1 (.body B1 env1) { line := 74, col := 0, endLine := 74, endCol := 20 } [topFrame pos0]) = some (.next, ⟨heapC w.params, #[], {}, 607, os⟩, .body B1 env1, { line := 75, col := 0, endLine := 144, endCol := 16 }) := by
  intro w os
  kernel_rfl
theorem fin1 : ∀ (w : World) (os : OsState), topRun treeTable PySem.Challenge.rw_pe0233_01.row.prog w 28 (some (.ref 6)) 410 ⟨heapC w.params, #[], {}, 607, os⟩ (restOf ((B1.drop 10).drop 1) env1 (.body B1 env1) { line := 75, col := 0, endLine := 144, endCol := 16 } [topFrame pos0]) = some ⟨heapE w.params, #[], {}, 704, os⟩ := by
  intro w os
  kernel_rfl
theorem top1 (w : World) (os : OsState) : topRun treeTable PySem.Challenge.rw_pe0233_01.row.prog w 28 (some (.ref 6)) (12 + (1 + (640 + (740 + 410)))) ⟨heapS w.params, #[], {}, 276, os⟩ (topStub PySem.Challenge.rw_pe0233_01.row.prog) = some ⟨heapE w.params, #[], {}, 704, os⟩ :=
  go_top (go1 w os) (piece_block (blk1 w os) (split_run 10 (seg1 w os) (split_run 1 (seg2 w os) (fin1 w os))))
theorem left2 : LeftO PySem.Challenge.rw_pe0233_01.row.prog view2 loose2 (fun s => xlAt view2 [] s && recOk (RowW.records PySem.Challenge.rw_pe0233_01.row.toRowW) s) (Hook.obs hook2) (Hook.val hook2) 3622 := LeftO.of_pieces open1 size1 top1 (by rfl) fun w => by kernel_rfl
theorem and_of {a b : Bool} (h : a = true) (k : b = true) : (a && b) = true := by rw [h, k]; rfl
theorem look1 : looksOpen PySem.Challenge.rw_pe0233_01.row.prog = true := by
  unfold looksOpen
  repeat' (with_reducible refine and_of ?_ ?_)
  all_goals decide +kernel
theorem said1 : OpenLaw.wellSaid PySem.Challenge.rw_pe0233_01 = true := by
  unfold OpenLaw.wellSaid OpenRow.wellSaid OpenRow.partSaid
  repeat' (with_reducible refine and_of ?_ ?_)
  · exact look1
  all_goals kernel_rfl
structure Is2 (G : Gr) : Prop where
  K : G.K = heap2 G.w.params
section
variable {G : Gr} {k : Nat} {φ φ' : Fs} {μ μ' : Mu} {K K' : D → Mu → Prop}
theorem fd2_at (H : Is2 G) {a : Addr} {fd : FuncData} (h : fdIn (heap2 G.w.params) a = some fd) : fdIn G.K a = some fd := by rw [H.K]; exact h
theorem fc2_at (H : Is2 G) {fd : FuncData} (h : fnChk (heap2 G.w.params) fd = true) : fnChk G.K fd = true := by rw [H.K]; exact h
theorem gl2 (H : Is2 G) {x : Str} {r : Option (Option Value)} (h : nsIn (heap2 G.w.params) mainGlobals x = r) : nsIn G.K mainGlobals x = r := by rw [H.K]; exact h
theorem chk2 (H : Is2 G) {P : Frag → Bool} (h : P (heap2 G.w.params) = true) : P G.K = true := by rw [H.K]; exact h
theorem peek2 (H : Is2 G) {α : Type} {S} {t : Sem α} {r : α} (h : peek (heap2 G.w.params) S t = some r) : peek G.K S t = some r := by rw [H.K]; exact h
theorem bindK {s : Shared} {fd : FuncData} {args : Args} {bs : List (Str × Value)} (I : Inv G φ μ s) (H : Is2 G) (h : ∀ S, peek (heap2 G.w.params) S (bindArgs fd args) = some bs) : BindsTo s fd args bs := kp_binds I.KX fun S => peek2 H (h S)
end
noncomputable def wd : Fin 6 → Bool → Str
  | 0, false => Str.ofString "hall"
  | 1, false => Str.ofString "a b"
  | 2, false => Str.ofString "x\"y"
  | 3, false => Str.ofString "b\\c"
  | 4, false => Str.ofString "side"
  | 5, false => Str.ofString "exit"
  | 0, true => Str.ofString "HALL"
  | 1, true => Str.ofString "A B"
  | 2, true => Str.ofString "X\"Y"
  | 3, true => Str.ofString "B\\C"
  | 4, true => Str.ofString "SIDE"
  | 5, true => Str.ofString "EXIT"
theorem lower_wd : ∀ (j : Fin 6) (u : Bool), lowerS (wd j u) = wd j false := by decide +kernel
theorem upper_wd : ∀ (j : Fin 6), upperS (wd j false) = wd j true := by decide +kernel
theorem lower_len : ∀ (j : Fin 6) (u : Bool), (lowerS (wd j u)).cps.size ≤ 1000000 := by decide +kernel
theorem upper_len : ∀ (j : Fin 6), (upperS (wd j false)).cps.size ≤ 1000000 := by decide +kernel
theorem wd_inj : ∀ (i j : Fin 6), (wd i false == wd j false) = decide (i = j) := by decide +kernel
section
variable {G : Gr} {k : Nat} {φ φ' : Fs} {μ μ' : Mu} {K K' : D → Mu → Prop}
theorem V.lowerW {j : Fin 6} {u : Bool} (h : K (.str (wd j false)) μ) : WCv G k (.builtin "str.lower") [.str (wd j u)] [] μ K := V.lower (lower_len j u) (by rw [lower_wd]; exact h)
theorem V.upperW {j : Fin 6} (h : K (.str (wd j true)) μ) : WCv G k (.builtin "str.upper") [.str (wd j false)] [] μ K := V.upper (upper_len j) (by rw [upper_wd]; exact h)
end
section
variable {G : Gr} {k : Nat} {φ φ' : Fs} {μ μ' : Mu} {K K' : D → Mu → Prop}
theorem search43 (P : Params) (S) (t : Tok) : ∀ (j : Fin 6) (u : Bool), peek (heap2 P) S (Builtin.«re.Pattern.search» ⟨[.ref 106, .str (wd j u) t], []⟩) = some (.done (.ret .none)) := by
  intro j u
  match j, u with
  | 0, false => kernel_rfl
  | 1, false => kernel_rfl
  | 2, false => kernel_rfl
  | 3, false => kernel_rfl
  | 4, false => kernel_rfl
  | 5, false => kernel_rfl
  | 0, true => kernel_rfl
  | 1, true => kernel_rfl
  | 2, true => kernel_rfl
  | 3, true => kernel_rfl
  | 4, true => kernel_rfl
  | 5, true => kernel_rfl
theorem search48 (P : Params) (S) (t : Tok) : ∀ (j : Fin 6) (u : Bool), peek (heap2 P) S (Builtin.«re.Pattern.search» ⟨[.ref 111, .str (wd j u) t], []⟩) = some (.done (.ret .none)) := by
  intro j u
  match j, u with
  | 0, false => kernel_rfl
  | 1, false => kernel_rfl
  | 2, false => kernel_rfl
  | 3, false => kernel_rfl
  | 4, false => kernel_rfl
  | 5, false => kernel_rfl
  | 0, true => kernel_rfl
  | 1, true => kernel_rfl
  | 2, true => kernel_rfl
  | 3, true => kernel_rfl
  | 4, true => kernel_rfl
  | 5, true => kernel_rfl
end
local macro_rules | `(tactic| tb_start) => do
  let a := (← `(f ?_ (by kernel_rfl) (by assumption))).raw[1].getArgs
  let f := ("look_asm,2 look_here, look_set, look_set',10 look_next,10 look_all,0 look_all0,0 look_cap,10".splitOn " ").toArray.map fun w =>
    let p := w.splitOn ","
    Lean.Syntax.mkApp (Lean.mkIdent ("Mine." ++ p.head!).toName) (p.getLast!.toList.toArray.map fun c => ⟨a[c.toNat - 48]!⟩)
  `(tactic| with_reducible (repeat' (first $[| refine' $f:term]*)))
local macro_rules | `(tactic| tb_rel) => do
  let a := (← `(f ?_ (by kernel_rfl) (by decide +kernel) (by tb_start) (fun _ => by kernel_rfl) (fun _ _ => by kernel_rfl) (of_decide_eq_true (by kernel_rfl)) rfl (gl2 (by assumption) rfl) (by assumption) (Keeps.builtin _) (Keeps.type _) (Keeps.of (fd2_at (by assumption) rfl)) (Keeps.cls (chk2 (P := fun K => keepIn K _) (by assumption) rfl)))).raw[1].getArgs
  let f := fun (s : String) => (s.splitOn " ").toArray.map fun w =>
    let p := w.splitOn ","
    Lean.Syntax.mkApp (Lean.mkIdent ("Mine." ++ p.head!).toName) (p.getLast!.toList.toArray.map fun c => ⟨a[c.toNat - 48]!⟩)
  `(tactic| first
  | (with_reducible first $[| refine $(f "ifT,0 ifF,0 ifNT,0 WB.cons',0 WB.nil,0 seqK.next,0 seqK.ret,0 seqK.cont,0 loopP.next,0 loopP.ret,0 forK.next,0 forK.cont,0 forK.ret,0 whileK.next,0 WEs.cons',0 WEs.nil',0 WKs.nil',0 WKs.cons',0 WS.ret,0 WS.assignC,0121175 WS.assignL,012 WS.assignDC,0121175 WS.assign',014 WS.expr,04 WS.ite,0 WS.aug,2230 WE.int,0 WE.str,0 WE.none,0 WE.bool,0 WE.name,230 WE.gl,8022 WE.bi,870222 WE.binop,0 WE.list,016 WE.tup,016 V.mod,02 V.div,02 V.add,0 V.sub,0 WP.none',0 WP.some',0 exI,0 WAL.name,10 WA.name,10 WLC.nil',0 WLC.cons0,0 WLC.cons1,0 WLoop.nil',0 WT.cmp,01 WE.cmp,01 WT.or2,0 WT.ofCall,0 WT.ofName,0 WT.ofAttr,0 WE.ifexp,0 V.eqI,0 V.neI,0 V.gtI,0 V.eqS,0 V.neS,0 V.inS,0 T.bool,0 V.iadd,0 WE.slice,0 WE.sub,0 T.none,0 WCv.app1,0 M.lower,0 M.upper,0 M.join,0 M.count,0 M.index,0 V.lowerW,0 V.upperW,0 WE.meth,041116 WE.call,0111 V.nnNone,0"):term]*)
  | ((with_reducible refine exId ?_); (first $[| refine $(f "exK,:0 exK,;0 exK,<0 exK,=0"):term]*)))
section
variable {G : Gr} {k : Nat} {φ φ' : Fs} {μ μ' : Mu} {K K' : D → Mu → Prop}
theorem conv2 (H : Is2 G) (hk : k < 40) {j : Fin 6} {u nm : Bool} {d : D} (h : K (.str (wd j u)) μ) : WC G (k + 1) (.ref 133) [d, .str (wd j u)] [(Str.ofString "name", .bool nm)] μ K := by
  refine WC.kw hk (fd2_at H rfl) (fc2_at H ?_) (fun φ s vs kv I r rk => bind2k (x := Str.ofString "self") (y := Str.ofString "value") r rk fun v w u => rfl) ?_ ?_ ?_
  · kernel_rfl
  · exact of_decide_eq_true (by kernel_rfl)
  · kernel_rfl
  · dsimp only [bodyOf]
    repeat' tb_rel
    refine V.typeS ?_
    repeat' tb_rel
    refine V.isT (b := "str") ?_
    refine T.bool ?_
    rw [if_pos (by decide)]
    repeat' tb_rel
    cases nm with
    | true =>
      repeat' tb_rel
      refine M.pat (a := 106) (chk2 (P := fun K => isPat K 106) H rfl) ?_
      repeat' tb_rel
      refine V.search (chk2 (P := fun K => isPat K 106) H rfl) (fun t => peek2 H (search43 _ _ t j u)) ?_
      repeat' tb_rel
      exact h
    | false =>
      repeat' tb_rel
      refine M.pat (a := 111) (chk2 (P := fun K => isPat K 111) H rfl) ?_
      repeat' tb_rel
      refine V.search (chk2 (P := fun K => isPat K 111) H rfl) (fun t => peek2 H (search48 _ _ t j u)) ?_
      repeat' tb_rel
      exact h
end
noncomputable abbrev Wd := Fin 6 × Bool
noncomputable abbrev ws (w : Wd) : Str := wd w.1 w.2
noncomputable def hdr (ps : List (Wd × Wd)) : List D := ps.map fun p => .tup [.str (ws p.1), .str (ws p.2)]
noncomputable def hcells (bt ht : Addr) (ps : List (Wd × Wd)) : Mu := [(ht, .list (hdr ps)), (bt, .attrs [(Str.ofString "_headers", .loc ht)])]
noncomputable def findH (ps : List (Wd × Wd)) (j : Fin 6) : Option Wd := (ps.find? fun p => p.1.1 = j).map (·.2)
noncomputable def optD (o : Option Wd) (d : D) : D := match o with | some v => .str (ws v) | none => d
section
variable {G : Gr} {k : Nat} {φ φ' : Fs} {μ μ' : Mu} {K K' : D → Mu → Prop}
theorem getL2 (H : Is2 G) (hk : k < 39) {bt ht : Addr} {ps : List (Wd × Wd)} {w : Wd} {d : D} (hd : plainD d = true) (h : K (optD (findH ps w.1) d) (hcells bt ht ps)) (fd : FuncData) (hfd : fdIn (heap2 G.w.params) 181 = some fd) :
    WB G (k + 1) fd.scope.names [(Str.ofString "self", .obj 234 bt), (Str.ofString "name", .str (ws w)), (Str.ofString "default", d)] (bodyOf fd) (hcells bt ht ps) fun fl _ μ' => K (retOf fl) μ' := by
  obtain rfl : fd = _ := (Option.some.inj (hfd.symm.trans rfl))
  clear hfd
  dsimp only [bodyOf]
  repeat' tb_rel
  refine M.inst (.tail .head) rfl (chk2 (P := fun K => methOk K 234 (Str.ofString "_convert_string_type") 133) H rfl) ?_
  repeat' tb_rel
  refine WC.toV (conv2 (k := k) H (by first | lia | omega) ?_)
  repeat' tb_rel
  refine WS.for (WI.cell (WE.attr ?_ fun _ => by with_unfolding_all rfl)) fun _ _ => by kernel_rfl
  repeat' tb_rel
  refine ⟨_, _, _, .loc ht, rfl, .tail .head, rfl, chk2 (P := fun K => attrOk K 234 (Str.ofString "_headers")) H rfl, rfl, ht, _, _, rfl, .head, ?_⟩
  refine WLoop.ind (fun p : Wd × Wd => D.tup [.str (ws p.1), .str (ws p.2)]) (fun qs σ μ => σ.lookup (Str.ofString "name") = some (.str (wd w.1 false)) ∧ σ.lookup (Str.ofString "default") = some d ∧ optD (findH qs w.1) d = optD (findH ps w.1) d ∧ μ = [(bt, .attrs [(Str.ofString "_headers", .loc ht)])]) ?_ ?_ ps _ _ ⟨look_set, by tb_start, rfl, rfl⟩
  · rintro σ μ ⟨h1, h2, h3, rfl⟩
    rw [← h3] at h
    repeat' tb_rel
    exact h
  · rintro ⟨⟨j, u⟩, v⟩ qs σ μ ⟨h1, h2, h3, rfl⟩
    refine WA.tup (names := [Str.ofString "k", Str.ofString "v"]) rfl (by kernel_rfl) rfl ?_
    repeat' tb_rel
    rw [show (wd ((j, u), v).1.1 false == wd w.1 false) = decide (j = w.1) from wd_inj j w.1]
    by_cases hj : j = w.1
    · rw [decide_eq_true hj]
      have e : optD (findH (((j, u), v) :: qs) w.1) d = .str (ws v) := by simp [findH, hj, optD]
      rw [← h3, e] at h
      repeat' tb_rel
      exact h
    · rw [decide_eq_false hj]
      have e : findH (((j, u), v) :: qs) w.1 = findH qs w.1 := by simp [findH, hj]
      rw [e] at h3
      repeat' tb_rel
      exact ⟨by tb_start, by tb_start, h3, rfl⟩
theorem get3 (H : Is2 G) (hk : k < 38) {bt ht : Addr} {ps : List (Wd × Wd)} {w : Wd} {d : D} (hd : plainD d = true) (h : K (optD (findH ps w.1) d) (hcells bt ht ps)) : WC G (k + 2) (.ref 181) [.obj 234 bt, .str (ws w), d] [] (hcells bt ht ps) K := by
  refine WC.pos (by first | lia | omega) (fd2_at H rfl) (fc2_at H ?_) (fun φ s vs I r => bind3b (x := Str.ofString "self") (y := Str.ofString "name") (z := Str.ofString "default") r fun v w u => bindK I H fun S => rfl) ?_ ?_ (getL2 H (by first | lia | omega) hd h _ rfl)
  · kernel_rfl
  · exact of_decide_eq_true (by kernel_rfl)
  · kernel_rfl
end
noncomputable def delH (ps : List (Wd × Wd)) (j : Fin 6) : List (Wd × Wd) := ps.filter fun p => !(p.1.1 == j)
noncomputable def putH (ps : List (Wd × Wd)) (w v : Wd) : List (Wd × Wd) := delH ps w.1 ++ [(w, v)]
theorem pick_all {α : Type} (xs : List α) : Mine.pick xs none none none = xs := by
  unfold Mine.pick sliceBounds
  simp only [Option.getD_none]
  have := sliceRange_one 0 xs.length
  show (sliceRange ((0 : Nat) : Int) ((xs.length : Nat) : Int) 1).filterMap (xs[·]?) = xs
  rw [this]
  simp only [Nat.sub_zero, Nat.zero_add, List.map_id']
  clear this
  induction xs with
  | nil => rfl
  | cons x xs ih =>
    rw [List.length_cons, List.range_succ_eq_map, List.filterMap_cons]
    simp only [List.getElem?_cons_zero, List.filterMap_map]
    congr 1
section
variable {G : Gr} {k : Nat} {φ φ' : Fs} {μ μ' : Mu} {K K' : D → Mu → Prop}
theorem delitem2 (H : Is2 G) (hk : k < 38) {bt ht : Addr} {ps : List (Wd × Wd)} {w : Wd} (hl : ps.length ≤ 1000) (h : K .none (hcells bt ht (delH ps w.1))) : WC G (k + 2) (.ref 152) [.obj 234 bt, .str (ws w)] [] (hcells bt ht ps) K := by
  refine WC.pos (by first | lia | omega) (fd2_at H rfl) (fc2_at H ?_) (fun φ s vs I r => bind2 (x := Str.ofString "self") (y := Str.ofString "name") r fun v w => rfl) ?_ ?_ ?_
  · kernel_rfl
  · exact of_decide_eq_true (by kernel_rfl)
  · kernel_rfl
  · dsimp only [bodyOf]
    repeat' tb_rel
    refine M.inst (.tail .head) rfl (chk2 (P := fun K => methOk K 234 (Str.ofString "_convert_string_type") 133) H rfl) ?_
    repeat' tb_rel
    refine WC.toV (conv2 (k := k) H (by first | lia | omega) ?_)
    repeat' tb_rel
    refine WS.setAll (WE.listcomp (WI.cell (WE.attr ?_ fun _ => by with_unfolding_all rfl)) (by kernel_rfl) (by kernel_rfl) rfl (fun _ _ => by kernel_rfl)) (fun _ => by kernel_rfl)
    repeat' tb_rel
    refine ⟨_, _, _, .loc ht, rfl, .tail .head, rfl, chk2 (P := fun K => attrOk K 234 (Str.ofString "_headers")) H rfl, rfl, ht, _, _, rfl, .head, ?_, ?_⟩
    · simp [hdr]; first | lia | omega
    refine WLC.pickN (fun p : Wd × Wd => D.tup [.str (ws p.1), .str (ws p.2)]) (fun p : Wd × Wd => D.tup [.str (ws p.1), .str (ws p.2)]) (fun p => !(p.1.1 == w.1)) (by kernel_rfl) (look_none_cap (by kernel_rfl)) _ _ (fun p hp => ?_) (fun p hp hq => ?_) ?_
    · repeat' tb_rel
      refine V.getT (x := .str (ws p.1)) (by first | lia | omega) (by first | lia | omega) rfl ?_
      repeat' tb_rel
      rw [wd_inj]
      exact ⟨rfl, rfl⟩
    · repeat' tb_rel
      exact ⟨rfl, rfl⟩
    · refine WE.attr ?_ fun _ => by with_unfolding_all rfl
      repeat' tb_rel
      refine ⟨_, _, _, .loc ht, rfl, .tail .head, rfl, chk2 (P := fun K => attrOk K 234 (Str.ofString "_headers")) H rfl, rfl, ht, _, hdr (delH ps w.1), _, ?_, rfl, .head, ?_, ?_, ?_⟩
      · rfl
      · simp [hdr]; first | lia | omega
      · simp only [hdr, delH, List.length_map]
        exact Nat.le_trans (List.length_filter_le _ _) (by first | lia | omega)
      · repeat' tb_rel
        exact h
theorem setitem2 (H : Is2 G) (hk : k < 37) {bt ht : Addr} {ps : List (Wd × Wd)} {w v : Wd} (hl : ps.length ≤ 1000) (h : K .none (hcells bt ht (putH ps w v))) : WC G (k + 3) (.ref 147) [.obj 234 bt, .str (ws w), .str (ws v)] [] (hcells bt ht ps) K := by
  refine WC.pos (by first | lia | omega) (fd2_at H rfl) (fc2_at H ?_) (fun φ s vs I r => bind3 (x := Str.ofString "self") (y := Str.ofString "name") (z := Str.ofString "val") r fun v w u => rfl) ?_ ?_ ?_
  · kernel_rfl
  · exact of_decide_eq_true (by kernel_rfl)
  · kernel_rfl
  · dsimp only [bodyOf]
    repeat' tb_rel
    refine WS.delO ?_
    repeat' tb_rel
    refine ⟨_, _, _, 152, rfl, .tail .head, chk2 (P := fun K => dunOk K 234 "__delitem__" 152) H rfl, delitem2 H (by first | lia | omega) hl ?_⟩
    repeat' tb_rel
    refine WE.attr ?_ fun _ => by with_unfolding_all rfl
    repeat' tb_rel
    refine ⟨_, _, _, .loc ht, rfl, .tail .head, rfl, chk2 (P := fun K => attrOk K 234 (Str.ofString "_headers")) H rfl, rfl, M.append .head ?_⟩
    repeat' tb_rel
    refine M.inst (.tail .head) rfl (chk2 (P := fun K => methOk K 234 (Str.ofString "_convert_string_type") 133) H rfl) ?_
    repeat' tb_rel
    refine WC.toV ((conv2 (k := 0) H (by first | lia | omega) ?_).lv (by first | lia | omega))
    repeat' tb_rel
    refine M.inst (.tail .head) rfl (chk2 (P := fun K => methOk K 234 (Str.ofString "_convert_string_type") 133) H rfl) ?_
    repeat' tb_rel
    refine WC.toV ((conv2 (k := 0) H (by first | lia | omega) ?_).lv (by first | lia | omega))
    repeat' tb_rel
    refine V.append .head ?_ ?_
    · simp only [hdr, delH, List.length_map]
      exact Nat.le_trans (List.length_filter_le _ _) (by first | lia | omega)
    repeat' tb_rel
    have e : hdr (delH ps w.1) ++ [D.tup [.str (wd w.1 w.2), .str (wd v.1 v.2)]] = hdr (putH ps w v) := by simp [hdr, putH]
    rw [e]
    exact h
theorem items2 (H : Is2 G) (hk : k < 39) {bt ht : Addr} {ps : List (Wd × Wd)} (hl : ps.length ≤ 1000) (h : K (.list (hdr ps)) (hcells bt ht ps)) : WC G (k + 1) (.ref 198) [.obj 234 bt] [] (hcells bt ht ps) K := by
  refine WC.pos (by first | lia | omega) (fd2_at H rfl) (fc2_at H ?_) (fun φ s vs I r => bind1 (x := Str.ofString "self") r fun v => rfl) ?_ ?_ ?_
  · kernel_rfl
  · exact of_decide_eq_true (by kernel_rfl)
  · kernel_rfl
  · dsimp only [bodyOf]
    refine WB.cons' (WS.ret (WE.slice (WE.attr ?_ fun _ => by with_unfolding_all rfl)))
    repeat' tb_rel
    refine ⟨_, _, _, .loc ht, rfl, .tail .head, rfl, chk2 (P := fun K => attrOk K 234 (Str.ofString "_headers")) H rfl, rfl, ?_⟩
    repeat' tb_rel
    refine ⟨hdr ps, .inr ⟨ht, rfl, .head⟩, by simp, by simp [hdr]; first | lia | omega, ?_⟩
    rw [pick_all]
    repeat' tb_rel
    exact h
theorem hinit2 (H : Is2 G) (hk : k < 39) {b : Addr} (h : ∀ ht, K .none (hcells b ht [])) : WC G (k + 1) (.ref 126) [.obj 234 b] [] [(b, .attrs [])] K := by
  refine WC.pos (by first | lia | omega) (fd2_at H rfl) (fc2_at H ?_) (fun φ s vs I r => bind1d (x := Str.ofString "self") (y := Str.ofString "headers") r fun v => bindK I H fun S => rfl) ?_ ?_ ?_
  · kernel_rfl
  · exact of_decide_eq_true (by kernel_rfl)
  · kernel_rfl
  · dsimp only [bodyOf]
    iterate 9 tb_rel
    refine WE.listM ?_ (by kernel_rfl) (of_decide_eq_true (by kernel_rfl))
    refine WEs.nil' fun ht => ?_
    repeat' tb_rel
    refine V.typeL .head ?_
    repeat' tb_rel
    refine V.isNotT (a := "list") (b := "list") ?_
    repeat' tb_rel
    rw [if_neg (by decide)]
    repeat' tb_rel
    refine WS.setattr ?_ fun _ => by kernel_rfl
    repeat' tb_rel
    refine ⟨234, b, [], _, rfl, .tail .head, chk2 (P := fun K => storeOk K 234 (Str.ofString "_headers")) H rfl, by decide, ?_⟩
    repeat' tb_rel
    refine WT.of (WE.bool ?_) (fun _ _ => rfl)
    repeat' tb_rel
    refine WS.for (WI.cell ?_) fun _ _ => by kernel_rfl
    repeat' tb_rel
    refine ⟨ht, [], _, rfl, .head, ?_⟩
    repeat' tb_rel
    exact h ht
end
noncomputable def lexA (l : Int) (inst : D) (pb : Addr) : List (Str × D) := [(Str.ofString "lineno", .int l), (Str.ofString "instream", inst), (Str.ofString "whitespace", .str (Str.ofString "\n\t\r ")), (Str.ofString "pushback", .loc pb)]
section
variable {G : Gr} {k : Nat} {φ φ' : Fs} {μ μ' : Mu} {K K' : D → Mu → Prop}
theorem WC.makeF {C fI : Addr} {as : List D} {kd : List (Str × D)} (hk : k < 40) (hm : makesIn G.K C = true) (hi : findIn G.K (.ref C) "__init__" = some (some (.ref fI))) (hf : typeIn G.K (.ref fI) = some (.type "function"))
    (h : ∀ b, WC G k (.ref fI) (.obj C b :: as) kd [(b, .attrs [])] fun d μ1 => d = .none ∧ K (.obj C b) (μ1 ++ μ)) : WC G (k + 1) (.ref C) as kd μ K := by
  refine WC.make hk hm hi hf fun b => WC.permK (WC.framed (F := μ) (μ0 := [(b, .attrs [])]) (List.perm_append_comm (l₁ := [(b, Cell.attrs [])]) (l₂ := μ)) ?_)
  exact WC.mono (h b) fun d μ1 ⟨h1, h2⟩ => ⟨μ1 ++ μ, List.perm_append_comm, h1, h2⟩
theorem mkH2 (H : Is2 G) (hk : k < 37) (h : ∀ bt ht, K (.obj 234 bt) (hcells bt ht [] ++ μ)) : WC G (k + 2) (.ref 234) [] [] μ K := by
  refine WC.makeF (fI := 126) (by first | lia | omega) (chk2 (P := fun K => makesIn K 234) H rfl) (by rw [H.K]; rfl) (by rw [H.K]; rfl) fun b => ?_
  exact hinit2 H (by first | lia | omega) fun ht => ⟨rfl, h b ht⟩
theorem linit2 (H : Is2 G) (hk : k < 39) {b : Addr} {inst : D} (h : ∀ pb, K .none [(pb, .list []), (b, .attrs (lexA 1 inst pb))]) : WC G (k + 1) (.ref 52) [.obj 76 b, inst] [] [(b, .attrs [])] K := by
  refine WC.pos (by first | lia | omega) (fd2_at H rfl) (fc2_at H ?_) (fun φ s vs I r => bind2 (x := Str.ofString "self") (y := Str.ofString "fp") r fun v w => rfl) ?_ ?_ ?_
  · kernel_rfl
  · exact of_decide_eq_true (by kernel_rfl)
  · kernel_rfl
  · dsimp only [bodyOf]
    repeat' tb_rel
    refine WS.setattr ?_ fun _ => by kernel_rfl
    repeat' tb_rel
    refine ⟨76, b, _, _, rfl, .head, chk2 (P := fun K => storeOk K 76 (Str.ofString "lineno")) H rfl, of_decide_eq_true (by kernel_rfl), ?_⟩
    repeat' tb_rel
    refine WS.setattr ?_ fun _ => by kernel_rfl
    repeat' tb_rel
    refine ⟨76, b, _, _, rfl, .head, chk2 (P := fun K => storeOk K 76 (Str.ofString "instream")) H rfl, of_decide_eq_true (by kernel_rfl), ?_⟩
    repeat' tb_rel
    refine WS.setattr ?_ fun _ => by kernel_rfl
    repeat' tb_rel
    refine ⟨76, b, _, _, rfl, .head, chk2 (P := fun K => storeOk K 76 (Str.ofString "whitespace")) H rfl, of_decide_eq_true (by kernel_rfl), ?_⟩
    repeat' tb_rel
    refine WS.setattr ?_ fun _ => by kernel_rfl
    refine WE.listM ?_ (by kernel_rfl) (of_decide_eq_true (by kernel_rfl))
    refine WEs.nil' fun pb => ?_
    repeat' tb_rel
    refine ⟨76, b, _, _, rfl, .tail .head, chk2 (P := fun K => storeOk K 76 (Str.ofString "pushback")) H rfl, of_decide_eq_true (by kernel_rfl), ?_⟩
    repeat' tb_rel
    exact h pb
theorem mkL2 (H : Is2 G) (hk : k < 37) {inst : D} (h : ∀ b pb, K (.obj 76 b) ([(pb, .list []), (b, .attrs (lexA 1 inst pb))] ++ μ)) : WC G (k + 2) (.ref 76) [inst] [] μ K := by
  refine WC.makeF (fI := 52) (by first | lia | omega) (chk2 (P := fun K => makesIn K 76) H rfl) (by rw [H.K]; rfl) (by rw [H.K]; rfl) fun b => ?_
  exact linit2 H (by first | lia | omega) fun pb => ⟨rfl, h b pb⟩
end
noncomputable def IsRead (G : Gr) (k : Nat) (o : Obj) (ps : List (Addr × Obj)) (S : Addr) : Prop := (∃ fd, o.data = .func fd) ∧
  ∀ (cs : List D) (K : D → Mu → Prop), cs.length ≤ 100000 → (match cs with | [] => K (.str (Str.ofString "")) [(S, .list [])] | x :: r => K x [(S, .list r)]) → WCd G k (.clo o ps) [.int 1] [] [(S, .list cs)] K
noncomputable abbrev lamPos2 : Pos := ⟨169, 18, 169, 61⟩
noncomputable abbrev lamQual2 : Str := (Str.ofString "_law_stream" ++ Str.ofString ".<locals>.") ++ Str.ofString "<lambda>"
noncomputable def srcA (o : Obj) (ps : List (Addr × Obj)) (pb : Addr) : List (Str × D) := lexA 1 .none pb ++ [(Str.ofString "read", .clo o ps)]
noncomputable def scells (b pb S : Addr) (o : Obj) (ps : List (Addr × Obj)) (cs : List D) : Mu := [(pb, .list []), (b, .attrs (srcA o ps pb)), (S, .list cs)]
section
variable {G : Gr} {k : Nat} {φ φ' : Fs} {μ μ' : Mu} {K K' : D → Mu → Prop}
theorem clo2 {env : Env} {c : Addr} (hc : env.cells.lookup (Str.ofString "signs") = some c) : clOf env [(Str.ofString "count", NameKind.local), (Str.ofString "signs", .free)] [] = [(Str.ofString "signs", c)] := by
  show [(Str.ofString "signs", (env.cells.lookup (Str.ofString "signs")).getD 0)] = _
  rw [hc]; rfl
theorem stream2 (H : Is2 G) (hk : k < 36) {x : Str} {ds : List D} (hx : x.cps.size ≤ 100000) (ht : TabOk lamPos2 lamQual2 ds)
    (h : ∀ b pb S o ps ds', IsRead G 1 o ps S → TabOk lamPos2 lamQual2 ds' → K (.obj 76 b) (scells b pb S o ps ((signs x).map .str) ++ [(262, .tab ds')])) : WC G (k + 3) (.ref 267) [.str x] [] [(262, .tab ds)] K := by
  obtain ⟨fd, hfd⟩ : ∃ fd, fdIn (heap2 G.w.params) 267 = some fd := ⟨_, rfl⟩
  refine WC.fnE (k := k + 2) (f := 267) (fd := fd) (body := bodyOf fd) (ps := [(Str.ofString "text", .str x)]) (by omega) (FnAt.of (fd2_at H hfd) (fc2_at H ?_)) (fun φ s vs kv I r rk => ?_) ?_ ?_
    (fun L fl σ μ => Ex12 fun b pb S o c' oc pm ctv params body scope ds' => A7 (fl = .ret (.obj 76 b)) (σ.lookup (Str.ofString "signs") = some (.loc S)) (o = kla_obj "<lambda>" lamQual2 params body scope (clOf (callEnvC fd L 267) scope.names []) pm c' ctv) (isRec oc lamQual2) (TabOk lamPos2 lamQual2 ds') (μ = scells b pb S o [(c', oc)] ((signs x).map .str) ++ [(262, .tab ds')]) (∀ ocell c, (callEnvC fd L 267).cells.lookup (Str.ofString "signs") = some c → ocell.data = .cell (some (.ref S)) → IsRead G 1 o [(c', oc), (c, ocell)] S)) (fun L => ?_) ?_ ?_
  · obtain rfl : fd = _ := (Option.some.inj (hfd.symm.trans rfl))
    kernel_rfl
  · obtain rfl : fd = _ := (Option.some.inj (hfd.symm.trans rfl))
    obtain rfl := kw_nil rk; exact bind1 (x := Str.ofString "text") r fun v => rfl
  · exact of_decide_eq_true (by kernel_rfl)
  · obtain rfl : fd = _ := (Option.some.inj (hfd.symm.trans rfl))
    kernel_rfl
  · obtain rfl : fd = _ := (Option.some.inj (hfd.symm.trans rfl))
    clear hfd
    dsimp only [bodyOf]
    refine WBe.cons (WSe.of ?_)
    repeat' tb_rel
    refine V.listStr (by omega) fun S => seqKe.next ?_
    refine WBe.cons (WSe.of ?_)
    repeat' tb_rel
    refine WC.toV (mkL2 H (by omega) fun b pb => seqKe.next ?_)
    refine WBe.cons ?_
    refine WSe.setattr ?_ (by kernel_rfl)
    refine WEe.lambda (c := 266) (P := 262) (ds := ds) rfl (chk2 (P := fun K => codeHdChk K 266 262) H rfl) rfl ?_ (.tail (.tail (.tail .head))) ht ?_
    · intro n hn
      simp only [List.mem_cons, Prod.mk.injEq, List.not_mem_nil, or_false] at hn
      rcases hn with ⟨_, h⟩ | ⟨rfl, _⟩
      · cases h
      · kernel_rfl
    · intro o c' oc pm ctv ds' μ' ho hrec ht' hch
      have hμ : μ' = [(pb, .list []), (b, .attrs (lexA 1 .none pb)), (S, .list ((signs x).map .str)), (262, .tab ds')] := by
        have hch : Chg ((pb, .list []) :: (b, .attrs (lexA 1 .none pb)) :: (S, .list ((signs x).map .str)) :: [(262, .tab ds)]) 262 (.tab ds) (.tab ds') μ' := hch
        obtain ⟨_, rfl, h1⟩ := hch.skip (by intro e; cases e)
        obtain ⟨_, rfl, h2⟩ := h1.skip (by intro e; cases e)
        obtain ⟨_, rfl, h3⟩ := h2.skip (by intro e; cases e)
        rw [h3.one]
      subst hμ
      repeat' tb_rel
      refine ⟨76, b, lexA 1 .none pb, scells b pb S o [(c', oc)] ((signs x).map .str) ++ [(262, .tab ds')], rfl, .tail .head, chk2 (P := fun K => storeOk K 76 (Str.ofString "read")) H rfl, of_decide_eq_true (by kernel_rfl), ?_⟩
      refine seqKe.next (WBe.of ?_)
      repeat' tb_rel
      refine ⟨b, pb, S, o, c', oc, pm, ctv, _, _, _, ds', rfl, by tb_start, ho, hrec, ht', rfl, fun ocell c hc hcell => ⟨⟨_, by rw [ho]⟩, fun cs K hl hcs => ?_⟩⟩
      refine WCd.lam (k := 0) (o := o) (c' := c') (oc := oc) (c := c) (ocell := ocell) (x := Str.ofString "signs") (y := Str.ofString "count") (by omega) (by rw [ho]) rfl rfl rfl rfl rfl rfl rfl (.head _) hrec ?_ (.tail _ (.head _)) hcell ?_ ?_ ?_ (fun w => ?_) ?_
      · exact clo2 hc
      · intro y hy
        simp only [List.mem_cons, List.not_mem_nil, or_false] at hy
        rcases hy with rfl | rfl <;> simp
      · kernel_rfl
      · kernel_rfl
      · kernel_rfl
      · dsimp only [kla_fn]
        repeat' tb_rel
        cases cs with
        | nil =>
          refine T.cellN .head ?_
          repeat' tb_rel
          exact hcs
        | cons y cs =>
          refine T.cellC .head (by simp only [List.length_cons] at hl; omega) ?_
          repeat' tb_rel
          refine M.pop .head ?_
          repeat' tb_rel
          refine V.pop0 .head (by simp only [List.length_cons] at hl; omega) ?_
          exact hcs
  · rintro L φ s φ' μ' s' σ v fl hL I st E hnew fr ⟨b, pb, S, o, c', oc, pm, ctv, params, body, scope, ds', rfl, hsig, ho, hrec, ht', rfl, hread⟩
    obtain ⟨c, w, hc, hw, rw'⟩ := E.cell (Str.ofString "signs") (.loc S) (.inl (by
      obtain rfl : fd = _ := (Option.some.inj (hfd.symm.trans rfl))
      kernel_rfl)) hsig
    rw [R.val_iff] at rw'; subst rw'
    obtain ⟨c2, w2, hc2, _, hφ, _⟩ := E.own (Str.ofString "signs") (by
      obtain rfl : fd = _ := (Option.some.inj (hfd.symm.trans rfl))
      kernel_rfl)
    rw [hc] at hc2; cases hc2
    obtain ⟨hμc, _⟩ := E.cmu _ _ hc
    obtain ⟨ocell, hoc, hocd⟩ := hw
    have hcx : c ∈ xs (callEnvC fd L 267) := mem_xs.mpr (.inr ⟨_, hc⟩)
    have st2 := (st.seal (hnew c hcx) hφ hμc hoc).drop hnew
    have fr' : R G φ' v (.obj 76 b) := fr
    have le := Fs.put_le (o := ocell) hφ
    have st3 : Step G [] (φ'.put c ocell) (scells b pb S o [(c', oc)] ((signs x).map .str) ++ [(262, .tab ds')]) s' (φ'.put c ocell) (scells b pb S o [(c', oc), (c, ocell)] ((signs x).map .str) ++ [(262, .tab ds')]) s' := by
      refine Step.recell st2.inv (.tail .head) fun h => ?_
      obtain ⟨es, n, hb, re⟩ := h
      refine ⟨es, n, hb, re.swap rfl fun i p p' h1 h2 => ?_⟩
      match i, h1, h2 with
      | 0, h1, h2 => cases h1; cases h2; exact ⟨rfl, fun _ h => h⟩
      | 1, h1, h2 => cases h1; cases h2; exact ⟨rfl, fun _ h => h⟩
      | 2, h1, h2 => cases h1; cases h2; exact ⟨rfl, fun _ h => h⟩
      | 3, h1, h2 => cases h1; cases h2; exact ⟨rfl, fun _ h => h⟩
      | 4, h1, h2 =>
        cases h1; cases h2
        refine ⟨rfl, fun u hu => ?_⟩
        obtain ⟨a, rfl, h1, h2⟩ := R.clo_iff.mp hu
        refine R.clo_iff.mpr ⟨a, rfl, h1, fun q hq => ?_⟩
        rcases List.mem_cons.mp hq with rfl | hq
        · exact h2 _ (.head _)
        · rw [List.mem_singleton.mp hq]; exact Fs.put_self ..
      | i + 5, h1, h2 => simp [srcA, lexA] at h1
    exact ⟨.obj 76 b, _, _, st2.trans st3, fr'.mono le, h b pb S o _ ds' (hread ocell c hc hocd) ht'⟩
  · rintro L fl σ μ ⟨b, pb, S, o, c', oc, pm, ctv, params, body, scope, ds', rfl, _⟩
    exact ⟨_, rfl⟩
end
set_option genInjectivity false in
structure Lx where
  b : Addr
  pb : Addr
  b' : Addr
  pb' : Addr
  S : Addr
  o : Obj
  ps : List (Addr × Obj)
noncomputable def lcells (L : Lx) (l : Int) (cs : List Str) : Mu := [(L.pb, .list []), (L.b, .attrs (lexA l (.obj 76 L.b') L.pb))] ++ scells L.b' L.pb' L.S L.o L.ps (cs.map .str)
noncomputable def nlS (x : Str) : Int := if x == Str.ofString "\n" then 1 else 0
section
variable {G : Gr} {k : Nat} {φ φ' : Fs} {μ μ' : Mu} {K K' : D → Mu → Prop}
theorem readchar2 (H : Is2 G) (hk : k < 38) {L : Lx} {l : Int} {cs : List Str} (hr : IsRead G 1 L.o L.ps L.S) (hl : cs.length ≤ 100000)
    (h : match cs with | [] => K (.str (Str.ofString "")) (lcells L l []) | x :: r => K (.str x) (lcells L (l + nlS x) r)) : WC G (k + 2) (.ref 59) [.obj 76 L.b] [] (lcells L l cs) K := by
  obtain ⟨⟨fd, hfd⟩, hread⟩ := hr
  refine WC.pos (by omega) (fd2_at H rfl) (fc2_at H ?_) (fun φ s vs I r => bind1 (x := Str.ofString "self") r fun v => rfl) ?_ ?_ ?_
  · kernel_rfl
  · exact of_decide_eq_true (by kernel_rfl)
  · kernel_rfl
  · dsimp only [bodyOf]
    refine WB.cons' (WS.assign' ?_ (by kernel_rfl) (fun _ => by kernel_rfl))
    refine WE.methD (WE.attr ?_ fun _ => by with_unfolding_all rfl) (fun _ => by kernel_rfl) (by kernel_rfl) (by kernel_rfl) (by kernel_rfl) (of_decide_eq_true (by kernel_rfl))
    repeat' tb_rel
    refine ⟨_, _, _, .obj 76 L.b', rfl, .tail .head, rfl, chk2 (P := fun K => attrOk K 76 (Str.ofString "instream")) H rfl, rfl, ?_⟩
    refine MD.own (o := L.o) (ps := L.ps) (.tail (.tail (.tail .head))) rfl hfd (chk2 (P := fun K => attrOk K 76 (Str.ofString "read")) H rfl) ?_
    repeat' tb_rel
    refine WCd.framed (F := [(L.pb, .list []), (L.b, .attrs (lexA l (.obj 76 L.b') L.pb)), (L.pb', .list []), (L.b', .attrs (srcA L.o L.ps L.pb'))]) (μ0 := [(L.S, .list (cs.map .str))]) (.refl _) (WCd.lv (hread (cs.map .str) _ (by simpa using hl) ?_) (by omega))
    cases cs with
    | nil =>
      simp only [List.map_nil]
      repeat' tb_rel
      rw [if_neg (by decide +kernel)]
      repeat' tb_rel
      exact h
    | cons x r =>
      simp only [List.map_cons]
      repeat' tb_rel
      cases hx : x == Str.ofString "\n" with
      | true =>
        repeat' tb_rel
        refine WS.augattr ?_
        repeat' tb_rel
        refine ⟨76, L.b, _, .int l, rfl, .tail .head, rfl, chk2 (P := fun K => attrOk K 76 (Str.ofString "lineno")) H rfl, rfl, ?_⟩
        repeat' tb_rel
        refine ⟨_, _, .tail .head, chk2 (P := fun K => storeOk K 76 (Str.ofString "lineno")) H rfl, of_decide_eq_true (by kernel_rfl), ?_⟩
        repeat' tb_rel
        have h : K (.str x) (lcells L (l + nlS x) r) := h
        rw [show nlS x = 1 by simp [nlS, hx]] at h
        exact h
      | false =>
        repeat' tb_rel
        have h : K (.str x) (lcells L (l + nlS x) r) := h
        rw [show nlS x = 0 by simp [nlS, hx], Int.add_zero] at h
        exact h
theorem readcons2 (H : Is2 G) (hk : k < 38) {L : Lx} {l : Int} {x : Str} {cs : List Str} (hr : IsRead G 1 L.o L.ps L.S) (hl : (x :: cs).length ≤ 100000) (h : K (.str x) (lcells L (l + nlS x) cs)) : WC G (k + 2) (.ref 59) [.obj 76 L.b] [] (lcells L l (x :: cs)) K :=
  readchar2 (cs := x :: cs) H hk hr hl h
end
noncomputable abbrev bsS : Str := Str.ofString "\\"
noncomputable abbrev wsS : Str := Str.ofString "\n\t\r "
noncomputable def isW (x : Str) : Bool := Txt.contains wsS x
noncomputable def flatU (us : List (Str × Bool)) : List Str := us.flatMap fun u => if u.2 then [bsS, u.1] else [u.1]
noncomputable def catU (t : Str) (us : List (Str × Bool)) : Str := us.foldl (fun t u => t ++ u.1) t
noncomputable def okU (u : Str × Bool) : Bool := !(Str.ofString "" == u.1) && !(u.1 == Str.ofString "\n") && (u.2 || (!isW u.1 && !(u.1 == bsS)))
theorem isW_bs : isW bsS = false := by decide +kernel
theorem catU_le : ∀ (us : List (Str × Bool)) (t : Str), t.length ≤ (catU t us).length
  | [], t => Nat.le_refl _
  | u :: us, t => Nat.le_trans (by rw [Str.length_append]; first | lia | omega) (catU_le us (t ++ u.1))
section
variable {G : Gr} {k : Nat} {φ φ' : Fs} {μ μ' : Mu} {K K' : D → Mu → Prop}
theorem attrL (H : Is2 G) {nm : Str} {v : D} {σ : Sg} {sc : Sc} {p p' : Pos} {b pb : Addr} {l : Int} {inst : D} (hm : Has μ b (.attrs (lexA l inst pb))) (ha : atD (lexA l inst pb) nm = some v) (hok : attrOk (heap2 G.w.params) 76 nm = true) (hp : plainD v = true)
    (hs : isLoc sc (Str.ofString "self") = true) (hσ : σ.lookup (Str.ofString "self") = some (.obj 76 b)) (h : K v μ) : WE G k sc σ (.Attribute (.Name (Str.ofString "self") p) nm p') μ K :=
  WE.attr (WE.name hs hσ ⟨_, _, _, v, rfl, hm, ha, chk2 (P := fun K => attrOk K 76 nm) H hok, hp, h⟩) fun _ => by with_unfolding_all rfl
noncomputable def innerOf (b : List Stmt) : Option Stmt := match b with
  | [_, _, _, .For _ _ [_, .If _ _ [_, _, f] _] _ _, _] => some f
  | _ => none
noncomputable abbrev icell (I : Addr) (L : Lx) : Addr × Cell := (I, .fields "callable_iterator" [.bound 59 (.obj 76 L.b), .str (Str.ofString ""), .bool false])
theorem next2 (H : Is2 G) (hk : k < 36) {L : Lx} {l : Int} {I : Addr} {x : Str} {cs : List Str} (hr : IsRead G 1 L.o L.ps L.S) (hl : (x :: cs).length ≤ 100000) (h0 : (Str.ofString "" == x) = false) :
    WNext G (k + 3) I (icell I L :: lcells L l (x :: cs)) fun od μ1 => od = some (.str x) ∧ μ1 = icell I L :: lcells L (l + nlS x) cs := by
  refine N.live (k := k + 2) (by first | lia | omega) (fd2_at H rfl) .head (WC.framed (F := [icell I L]) (.refl _) (readchar2 (k := k) H (by first | lia | omega) hr hl ?_))
  refine ⟨x, rfl, .head, ?_⟩
  rw [h0]
  exact ifF ⟨rfl, rfl⟩
theorem inner2 (H : Is2 G) (hk : k < 36) {L : Lx} {l : Int} {I : Addr} {us : List (Str × Bool)} {w : Str} {rest : List Str} {t : Str} {σ : Sg} {f : Stmt} {fd : FuncData} {KB : Fl → Sg → Mu → Prop} (hfd : fdIn (heap2 G.w.params) 66 = some fd) (hf : innerOf (bodyOf fd) = some f)
    (hr : IsRead G 1 L.o L.ps L.S) (hok : us.all okU = true) (hw : isW w = true) (hw0 : (Str.ofString "" == w) = false) (hl : (flatU us ++ w :: rest).length ≤ 100000) (hc : (catU t us).length ≤ 1000)
    (hs1 : σ.lookup (Str.ofString "self") = some (.obj 76 L.b)) (hs2 : σ.lookup (Str.ofString "token") = some (.str t)) (hs3 : σ.lookup (Str.ofString "fiter") = some (.loc I))
    (h : ∀ σ, KB (.ret (.str (catU t us))) σ (icell I L :: lcells L (l + nlS w) rest)) : WS G (k + 3) fd.scope.names σ f (icell I L :: lcells L l (flatU us ++ w :: rest)) KB := by
  obtain rfl : fd = _ := (Option.some.inj (hfd.symm.trans rfl))
  obtain rfl : f = _ := (Option.some.inj (hf.symm.trans rfl))
  clear hfd hf
  dsimp only
  refine WS.forN' (fun n σ μ => Ex2 fun us' t' => A8 (n = us'.length + 1) (us'.all okU = true) ((flatU us' ++ w :: rest).length ≤ 100000) (catU t' us' = catU t us) (σ.lookup (Str.ofString "self") = some (.obj 76 L.b)) (σ.lookup (Str.ofString "token") = some (.str t')) (σ.lookup (Str.ofString "fiter") = some (.loc I)) (μ = icell I L :: lcells L l (flatU us' ++ w :: rest))) I (us.length + 1) ?_ ?_ (fun _ _ => by kernel_rfl)
  · repeat' tb_rel
    exact ⟨rfl, ⟨_, _, _, .head⟩, us, t, rfl, hok, hl, rfl, hs1, hs2, hs3, rfl⟩
  rintro n σ μ ⟨us', t', rfl, hok, hl, hcat, hs1, hs2, hs3, rfl⟩
  cases us' with
  | nil =>
    refine ⟨_, next2 H hk hr hl hw0, ?_, ?_⟩
    · rintro μ1 ⟨h0, _⟩; cases h0
    · rintro d μ1 ⟨h0, rfl⟩
      cases h0
      repeat' tb_rel
      refine attrL H (.tail (.tail .head)) rfl rfl rfl (by kernel_rfl) (by tb_start) ?_
      repeat' tb_rel
      rw [show Txt.contains (Str.ofString "\n\t\r ") w = true from hw]
      repeat' tb_rel
      rw [← hcat] at h
      exact h _
  | cons u us' =>
    obtain ⟨x, e⟩ := u
    have hall : okU (x, e) = true ∧ us'.all okU = true := by simpa using hok
    have hc' : (t' ++ x).length ≤ 1000 := by
      have := catU_le us' (t' ++ x)
      rw [← hcat] at hc
      exact Nat.le_trans this hc
    cases e with
    | false =>
      have hx : ((Str.ofString "" == x) = false ∧ (x == Str.ofString "\n") = false) ∧ isW x = false ∧ (x == bsS) = false := by simpa [okU] using hall.1
      refine ⟨_, next2 (cs := flatU us' ++ w :: rest) H hk hr hl hx.1.1, ?_, ?_⟩
      · rintro μ1 ⟨h0, _⟩; cases h0
      · rintro d μ1 ⟨h0, rfl⟩
        cases h0
        rw [show nlS x = 0 by simp [nlS, hx.1.2], Int.add_zero]
        repeat' tb_rel
        refine attrL H (.tail (.tail .head)) rfl rfl rfl (by kernel_rfl) (by tb_start) ?_
        repeat' tb_rel
        rw [show Txt.contains (Str.ofString "\n\t\r ") x = false from hx.2.1]
        repeat' tb_rel
        rw [hx.2.2]
        repeat' tb_rel
        refine V.iaddS ?_ (sizeLine_le (Nat.le_trans hc' (by decide)))
        repeat' tb_rel
        refine ⟨us'.length + 1, by simp, us', t' ++ x, rfl, hall.2, ?_, hcat, by tb_start, by tb_start, by tb_start, rfl⟩
        have hl : (x :: (flatU us' ++ w :: rest)).length ≤ 100000 := hl
        simp only [List.length_cons] at hl
        first | lia | omega
    | true =>
      have hx : (Str.ofString "" == x) = false ∧ (x == Str.ofString "\n") = false := by simpa [okU] using hall.1
      refine ⟨_, next2 (x := bsS) (cs := x :: (flatU us' ++ w :: rest)) H hk hr hl (by decide +kernel), ?_, ?_⟩
      · rintro μ1 ⟨h0, _⟩; cases h0
      · rintro d μ1 ⟨h0, rfl⟩
        cases h0
        rw [show nlS bsS = 0 by decide +kernel, Int.add_zero]
        repeat' tb_rel
        refine attrL H (.tail (.tail .head)) rfl rfl rfl (by kernel_rfl) (by tb_start) ?_
        repeat' tb_rel
        rw [show Txt.contains (Str.ofString "\n\t\r ") bsS = false from isW_bs]
        repeat' tb_rel
        rw [show (bsS == Str.ofString "\\") = true by decide +kernel]
        repeat' tb_rel
        refine M.inst (.tail (.tail .head)) rfl (chk2 (P := fun K => methOk K 76 (Str.ofString "_read_char") 59) H rfl) ?_
        repeat' tb_rel
        refine WC.toV (WC.framed (F := [icell I L]) (.refl _) (readcons2 (k := k + 1) (x := x) (cs := flatU us' ++ w :: rest) H (by first | lia | omega) hr ?_ ?_))
        · have hl : (bsS :: x :: (flatU us' ++ w :: rest)).length ≤ 100000 := hl
          simp only [List.length_cons] at hl ⊢
          first | lia | omega
        rw [show nlS x = 0 by simp [nlS, hx.2], Int.add_zero]
        repeat' tb_rel
        refine V.iaddS ?_ (sizeLine_le (Nat.le_trans hc' (by decide)))
        repeat' tb_rel
        refine ⟨us'.length + 1, by simp, us', t' ++ x, rfl, hall.2, ?_, hcat, by tb_start, by tb_start, by tb_start, rfl⟩
        have hl : (bsS :: x :: (flatU us' ++ w :: rest)).length ≤ 100000 := hl
        simp only [List.length_cons] at hl
        first | lia | omega
end
noncomputable abbrev Ci := List (Str × Int)
noncomputable def dD (l : Ci) : List (Str × D) := l.map fun p => (p.1, .int p.2)
noncomputable def atI (l : Ci) (k : Str) : Option Int := (l.find? fun kv => kv.1 = k).map (·.2)
noncomputable def putI (l : Ci) (k : Str) (v : Int) : Ci := if l.any (fun kv => kv.1 = k) then l.map (fun kv => if kv.1 = k then (kv.1, v) else kv) else l ++ [(k, v)]
noncomputable def addI (l : Ci) (p : Str × Int) : Ci := putI l p.1 (match atI l p.1 with | some u => u + p.2 | none => p.2)
noncomputable def copyI (l : Ci) : Ci := l.foldl (fun acc p => putI acc p.1 p.2) []
noncomputable def addC (ts ss : Ci) : Ci := ss.foldl addI (copyI ts)
theorem atD_dD (l : Ci) (k : Str) : atD (dD l) k = (atI l k).map .int := by
  unfold atD atI dD
  induction l with
  | nil => rfl
  | cons p l ih =>
    simp only [List.map_cons, List.find?_cons]
    by_cases h : p.1 = k
    · simp [h]
    · simp only [h, decide_false]; exact ih
theorem putD_dD (l : Ci) (k : Str) (v : Int) : putD (dD l) k (.int v) = dD (putI l k v) := by
  unfold putD putI dD
  have e : (l.map fun p => (p.1, D.int p.2)).any (fun kv => decide (kv.1 = k)) = l.any (fun kv => decide (kv.1 = k)) := by
    rw [List.any_map]; rfl
  rw [e]
  split
  · rw [List.map_map, List.map_map]
    refine List.map_congr_left fun p _ => ?_
    show (if p.1 = k then _ else _) = _
    by_cases h : p.1 = k
    · simp [h]
    · simp [h]
  · simp
theorem putI_len (l : Ci) (k : Str) (v : Int) : (putI l k v).length ≤ l.length + 1 := by
  unfold putI
  split <;> simp
theorem dD_len (l : Ci) : (dD l).length = l.length := by simp [dD]
section
variable {G : Gr} {k : Nat} {φ φ' : Fs} {μ μ' : Mu} {K K' : D → Mu → Prop}
theorem addcallers2 (H : Is2 G) (hk : k < 39) {ts ss : Ci} (hl : ts.length + ss.length ≤ 1000) (h : K (.dict (dD (addC ts ss))) μ) : WC G (k + 1) (.ref 94) [.dict (dD ts), .dict (dD ss)] [] μ K := by
  refine WC.pos (by first | lia | omega) (fd2_at H rfl) (fc2_at H ?_) (fun φ s vs I r => bind2 (x := Str.ofString "target") (y := Str.ofString "source") r fun v w => rfl) ?_ ?_ ?_
  · kernel_rfl
  · exact of_decide_eq_true (by kernel_rfl)
  · kernel_rfl
  · dsimp only [bodyOf]
    repeat' tb_rel
    refine WE.dictM fun a => ?_
    repeat' tb_rel
    refine WS.forItems ?_ fun _ _ => by kernel_rfl
    repeat' tb_rel
    refine M.ditems (.inl rfl) ?_
    repeat' tb_rel
    refine V.ditems ⟨_, rfl, ?_⟩
    rw [show ((dD ts).map fun p => D.tup [.str p.1, p.2]) = ts.map (fun p : Str × Int => D.tup [.str p.1, .int p.2]) by simp [dD]]
    refine WLoop.ind (fun p : Str × Int => D.tup [.str p.1, .int p.2]) (fun as σ μ' => Ex1 fun acc => A5 (σ.lookup (Str.ofString "source") = some (.dict (dD ss))) (σ.lookup (Str.ofString "new_callers") = some (.loc a)) (acc.length + as.length ≤ ts.length) (as.foldl (fun acc p => putI acc p.1 p.2) acc = copyI ts) (μ' = (a, .dict (dD acc)) :: μ)) ?_ ?_ ts _ _ ⟨[], by tb_start, by tb_start, by simp, rfl, rfl⟩
    · rintro σ μ' ⟨acc, h1, h2, h3, h4, rfl⟩
      have h4 : acc = copyI ts := h4
      subst h4
      repeat' tb_rel
      refine WS.forItems ?_ fun _ _ => by kernel_rfl
      repeat' tb_rel
      refine M.ditems (.inl rfl) ?_
      repeat' tb_rel
      refine V.ditems ⟨_, rfl, ?_⟩
      rw [show ((dD ss).map fun p => D.tup [.str p.1, p.2]) = ss.map (fun p : Str × Int => D.tup [.str p.1, .int p.2]) by simp [dD]]
      refine WLoop.ind (fun p : Str × Int => D.tup [.str p.1, .int p.2]) (fun as σ μ' => Ex1 fun acc => A4 (σ.lookup (Str.ofString "new_callers") = some (.loc a)) (acc.length + as.length ≤ ts.length + ss.length) (as.foldl addI acc = addC ts ss) (μ' = (a, .dict (dD acc)) :: μ)) ?_ ?_ ss _ _ ⟨copyI ts, by tb_start, by simpa using h3, rfl, rfl⟩
      · rintro σ μ' ⟨acc, h1, h2, h3, rfl⟩
        have h3 : acc = addC ts ss := h3
        subst h3
        refine WB.cons' (WS.ret (WE.frzD ?_))
        repeat' tb_rel
        refine ⟨a, _, _, rfl, .head, ?_⟩
        repeat' tb_rel
        exact h
      · rintro ⟨x, v⟩ as σ μ' ⟨acc, h1, h2, h3, rfl⟩
        simp only [List.length_cons] at h2
        refine WA.tup (names := [Str.ofString "func", Str.ofString "caller"]) rfl (by kernel_rfl) rfl ?_
        repeat' tb_rel
        refine V.inD (ds := dD acc) (.inr ⟨a, rfl, .head⟩) ?_
        repeat' tb_rel
        cases e : atI acc x with
        | some u =>
          rw [show (atD (dD acc) x).isSome = true by rw [atD_dD, e]; rfl]
          repeat' tb_rel
          refine V.isiT ?_
          repeat' tb_rel
          refine WS.augD ?_
          repeat' tb_rel
          refine ⟨a, x, dD acc, .int u, rfl, rfl, .head, by rw [atD_dD, e]; rfl, ?_⟩
          repeat' tb_rel
          refine ⟨dD acc, _, .head, by rw [dD_len]; first | lia | omega, ?_⟩
          repeat' tb_rel
          refine ⟨addI acc (x, v), by tb_start, ?_, h3, ?_⟩
          · have := putI_len acc x (u + v)
            simp only [addI, e]; first | lia | omega
          · simp only [addI, e, putD_dD]
        | none =>
          rw [show (atD (dD acc) x).isSome = false by rw [atD_dD, e]; rfl]
          repeat' tb_rel
          refine WS.setD ?_ fun _ => by kernel_rfl
          repeat' tb_rel
          refine ⟨a, x, dD acc, _, rfl, rfl, .head, by rw [dD_len]; first | lia | omega, ?_⟩
          repeat' tb_rel
          refine ⟨addI acc (x, v), by tb_start, ?_, h3, ?_⟩
          · have := putI_len acc x v
            simp only [addI, e]; first | lia | omega
          · simp only [addI, e, putD_dD]
    · rintro ⟨x, v⟩ as σ μ' ⟨acc, h1, h2, h3, h4, rfl⟩
      simp only [List.length_cons] at h3
      refine WA.tup (names := [Str.ofString "func", Str.ofString "caller"]) rfl (by kernel_rfl) rfl ?_
      repeat' tb_rel
      refine WS.setD ?_ fun _ => by kernel_rfl
      repeat' tb_rel
      refine ⟨a, x, dD acc, _, rfl, rfl, .head, by rw [dD_len]; first | lia | omega, ?_⟩
      repeat' tb_rel
      refine ⟨putI acc x v, by tb_start, by tb_start, ?_, h4, ?_⟩
      · have := putI_len acc x v
        first | lia | omega
      · rw [putD_dD]
set_option genInjectivity false in
structure St4 where
  cc : Int
  nc : Int
  tt : Int
  ct : Int
  cs : Ci
noncomputable def St4.d (x : St4) : D := .tup [.int x.cc, .int x.nc, .int x.tt, .int x.ct, .dict (dD x.cs)]
noncomputable def St4.add (t x : St4) : St4 := ⟨x.cc + t.cc, x.nc + t.nc, x.tt + t.tt, x.ct + t.ct, addC t.cs x.cs⟩
theorem addstats2 (H : Is2 G) (hk : k < 38) {t x : St4} (hl : t.cs.length + x.cs.length ≤ 1000) (h : K (t.add x).d μ) : WC G (k + 2) (.ref 87) [t.d, x.d] [] μ K := by
  refine WC.pos (by first | lia | omega) (fd2_at H rfl) (fc2_at H ?_) (fun φ s vs I r => bind2 (x := Str.ofString "target") (y := Str.ofString "source") r fun v w => rfl) ?_ ?_ ?_
  · kernel_rfl
  · exact of_decide_eq_true (by kernel_rfl)
  · kernel_rfl
  · dsimp only [bodyOf]
    refine WB.cons' (WS.assignT' ?_ (fun _ => by kernel_rfl) (fun _ => by kernel_rfl))
    repeat' tb_rel
    refine WA.tup (names := [Str.ofString "cc", Str.ofString "nc", Str.ofString "tt", Str.ofString "ct", Str.ofString "callers"]) rfl (by kernel_rfl) rfl ?_
    refine seqK.next (WB.cons' (WS.assignT' ?_ (fun _ => by kernel_rfl) (fun _ => by kernel_rfl)))
    repeat' tb_rel
    refine WA.tup (names := [Str.ofString "t_cc", Str.ofString "t_nc", Str.ofString "t_tt", Str.ofString "t_ct", Str.ofString "t_callers"]) rfl (by kernel_rfl) rfl ?_
    repeat' tb_rel
    refine WC.toV (addcallers2 H (by first | lia | omega) hl ?_)
    repeat' tb_rel
    exact h
theorem countcalls2 (H : Is2 G) (hk : k < 38) {cs : Ci} (h : K (.int (cs.map (·.2)).sum) μ) : WC G (k + 1) (.ref 101) [.dict (dD cs)] [] μ K := by
  refine WC.pos (by first | lia | omega) (fd2_at H rfl) (fc2_at H ?_) (fun φ s vs I r => bind1 (x := Str.ofString "callers") r fun v => rfl) ?_ ?_ ?_
  · kernel_rfl
  · exact of_decide_eq_true (by kernel_rfl)
  · kernel_rfl
  · dsimp only [bodyOf]
    repeat' tb_rel
    refine WS.for (WI.of ?_) fun _ _ => by kernel_rfl
    repeat' tb_rel
    refine M.dvalues (.inl rfl) ?_
    repeat' tb_rel
    refine V.dvalues ⟨_, IterD.values _, ?_⟩
    rw [show ((dD cs).map (·.2)) = cs.map (fun p : Str × Int => D.int p.2) by simp [dD]]
    refine WLoop.ind (fun p : Str × Int => D.int p.2) (fun as σ μ' => Ex1 fun n => A3 (σ.lookup (Str.ofString "nc") = some (.int n)) (n + (as.map (·.2)).sum = (cs.map (·.2)).sum) (μ' = μ)) ?_ ?_ cs _ _ ⟨0, by tb_start, by simp, rfl⟩
    · rintro σ μ' ⟨n, h1, h2, rfl⟩
      simp only [List.map_nil, List.sum_nil, Int.add_zero] at h2
      subst h2
      simp only [List.nil_append]
      repeat' tb_rel
      exact h
    · rintro ⟨x, v⟩ as σ μ' ⟨n, h1, h2, rfl⟩
      repeat' tb_rel
      refine ⟨n + v, by tb_start, ?_, rfl⟩
      simp only [List.map_cons, List.sum_cons] at h2
      first | lia | omega
end
noncomputable def lowNames : List Str := [wd 0 false, wd 1 false, wd 2 false, wd 3 false, wd 4 false, wd 5 false]
theorem lowNames_at : ∀ j : Fin 6, lowNames[j.val]? = some (wd j false) := by decide +kernel
theorem lowNames_no : ∀ j : Fin 6, ∀ m : Fin 6, m.val < j.val → lowNames[m.val]? ≠ some (wd j false) := by decide +kernel
theorem fdivN (a b : Nat) : (a : Int).fdiv (b : Int) = ((a / b : Nat) : Int) := by rw [Int.fdiv_eq_ediv_of_nonneg _ (Int.natCast_nonneg b)]; rfl
theorem fmodN (a b : Nat) : (a : Int).fmod (b : Int) = ((a % b : Nat) : Int) := by rw [Int.fmod_eq_emod_of_nonneg _ (Int.natCast_nonneg b)]; rfl
section
variable {G : Gr} {k : Nat} {φ φ' : Fs} {μ μ' : Mu} {K K' : D → Mu → Prop}
theorem names2 (H : Is2 G) (hk : k < 40) (h : K (.list (lowNames.map .str)) μ) : WC G (k + 1) (.ref 245) [] [] μ K := by
  refine WC.pos hk (fd2_at H rfl) (fc2_at H ?_) (fun φ s vs I r => bind0 r rfl) ?_ ?_ ?_
  · kernel_rfl
  · exact .nil
  · rfl
  · dsimp only [bodyOf]
    repeat' tb_rel
    exact h
theorem V.sumF {α : Type} {f : α → Int} {l : List α} (h : K (.int (l.map f).sum) μ) : WCv G k (.builtin "sum") [.list (l.map fun x => .int (f x))] [] μ K := by
  have e : (l.map fun x => D.int (f x)) = (l.map f).map D.int := by rw [List.map_map]; rfl
  rw [e]; exact V.sum h
theorem pick_len {α : Type} (xs : List α) (lo hi st : Option Int) : (Mine.pick xs lo hi st).length ≤ xs.length := by
  have := slicePick_size_le (xs.map fun _ => Value.none).toArray lo hi st
  rw [slicePick_eq, pick_map] at this
  simpa using this
noncomputable def begun2 : List Nat := [61, 440, 208, 27]
noncomputable def numOf (b : List Nat) (ns : List Int) (i : Nat) : Nat := b.getD i 0 + (((Mine.pick ns (some (i : Int)) (some 63) (some 4)).map fun (x : Int) => x.fmod 1000000).sum).toNat
theorem sum_nn : ∀ l : List Int, (∀ x ∈ l, 0 ≤ x) → 0 ≤ l.sum
  | [], _ => by simp
  | a :: l, h => by
    have h1 := h a (.head _)
    have h2 := sum_nn l fun x hx => h x (.tail _ hx)
    rw [List.sum_cons]; lia
theorem numOf_eq (b : List Nat) (ns : List Int) (i : Nat) : ((numOf b ns i : Nat) : Int) = ((b.getD i 0 : Nat) : Int) + ((Mine.pick ns (some i) (some 63) (some 4)).map fun (x : Int) => x.fmod 1000000).sum := by
  have : 0 ≤ ((Mine.pick ns (some (i : Int)) (some 63) (some 4)).map fun (x : Int) => x.fmod 1000000).sum := sum_nn _ fun x hx => by
    obtain ⟨y, _, rfl⟩ := List.mem_map.mp hx
    exact Int.fmod_nonneg_of_pos _ (by decide)
  unfold numOf
  rw [Int.natCast_add, Int.toNat_of_nonneg this]
theorem numbers2 (H : Is2 G) (hk : k < 40) {ns : List Int} (hl : ns.length ≤ 63) (h : K (.list ((List.range 4).map fun i => .int (numOf begun2 ns i : Nat))) μ) : WC G (k + 1) (.ref 250) [.list (ns.map .int)] [] μ K := by
  refine WC.pos hk (fd2_at H rfl) (fc2_at H ?_) (fun φ s vs I r => bind1 (x := Str.ofString "script") r fun v => rfl) ?_ ?_ ?_
  · kernel_rfl
  · exact List.nodup_cons.mpr ⟨List.not_mem_nil, .nil⟩
  · kernel_rfl
  · dsimp only [bodyOf]
    repeat' tb_rel
    refine WE.listcomp ?_ (by kernel_rfl) (by kernel_rfl) rfl (fun _ _ => by kernel_rfl)
    refine WI.range (fun K hK => WE.bi (gl2 H rfl) rfl hK) (by kernel_rfl) ?_ (by kernel_rfl)
    refine WE.int ⟨4, rfl, by decide, ?_, ?_⟩
    · decide
    refine WLC.mapN (fun (i : Nat) => D.int i) (fun i => D.int (numOf begun2 ns i : Nat)) (by kernel_rfl) (look_none_cap (by kernel_rfl)) _ _ (fun i hi => ?_) h
    have hi' : i < 4 := by simpa using hi
    repeat' tb_rel
    refine V.getL (x := .int (begun2.getD i 0 : Nat)) (by lia) (by lia) ?_ ?_
    · match i, hi' with
      | 0, _ => rfl
      | 1, _ => rfl
      | 2, _ => rfl
      | 3, _ => rfl
    repeat' tb_rel
    refine WE.listcomp ?_ (by kernel_rfl) (by kernel_rfl) rfl (fun _ _ => by kernel_rfl)
    refine WI.of (WE.slice ?_)
    repeat' tb_rel
    refine ⟨_, .inl rfl, by decide, by simp; lia, _, IterD.list _, ?_, ?_⟩
    · refine Nat.le_trans (pick_len _ _ _ _) ?_; simp; lia
    rw [pick_map]
    refine WLC.mapN D.int (fun x => D.int (x.fmod 1000000)) (by kernel_rfl) (look_none_cap (by kernel_rfl)) _ _ (fun x _ => ?_) ?_
    · repeat' tb_rel
      exact ⟨rfl, rfl⟩
    · repeat' tb_rel
      refine V.sumF ?_
      repeat' tb_rel
      exact ⟨by rw [numOf_eq], rfl⟩
end
noncomputable def placeN (N : Nat) : Nat := N / 25 % 3
noncomputable def drawA (N : Nat) : Fin 6 := ⟨N % 5, by have := Nat.mod_lt N (show 0 < 5 by decide); lia⟩
noncomputable def drawB (N : Nat) : Fin 6 := ⟨N / 5 % 5, by have := Nat.mod_lt (N / 5) (show 0 < 5 by decide); lia⟩
noncomputable def rowN (N : Nat) : List (Fin 6) := [drawA N, drawB N].take (placeN N) ++ [5] ++ [drawA N, drawB N].drop (placeN N)
noncomputable def nameN (N k : Nat) : Fin 6 := (rowN N).getD k 5
noncomputable def upN (N k : Nat) : Bool := (N / 150 + k) % 2 == 1
noncomputable def wordN (N k : Nat) : Wd := (nameN N k, upN N k)
noncomputable def rowD (N : Nat) : D := .list ((List.range 3).map fun k => .str (ws (wordN N k)))
theorem place_lt (N : Nat) : placeN N < 3 := Nat.mod_lt _ (by decide)
theorem rowN_len (N : Nat) : (rowN N).length = 3 := by
  have h := place_lt N
  unfold rowN
  match placeN N, h with
  | 0, _ => rfl
  | 1, _ => rfl
  | 2, _ => rfl
theorem nameN_at (N : Nat) {k : Nat} (hk : k < 3) : (rowN N)[k]? = some (nameN N k) := by
  have := rowN_len N
  unfold nameN
  rw [List.getD_eq_getElem?_getD, List.getElem?_eq_getElem (by lia)]; rfl
theorem pick_take (a b : D) {p : Nat} (hp : p < 3) : Mine.pick [a, b] none (some (p : Int)) none = [a, b].take p := by
  match p, hp with
  | 0, _ => rfl
  | 1, _ => rfl
  | 2, _ => rfl
theorem pick_drop (a b : D) {p : Nat} (hp : p < 3) : Mine.pick [a, b] (some (p : Int)) none none = [a, b].drop p := by
  match p, hp with
  | 0, _ => kernel_rfl
  | 1, _ => kernel_rfl
  | 2, _ => kernel_rfl
theorem odd_eq (a k : Nat) : (((a : Int) + (k : Int)).fmod 2 == 1) = ((a + k) % 2 == 1) := by
  rw [show (a : Int) + (k : Int) = ((a + k : Nat) : Int) by simp, show (2 : Int) = ((2 : Nat) : Int) from rfl, fmodN]
  rw [Bool.eq_iff_iff, beq_iff_eq, beq_iff_eq]; lia
section
variable {G : Gr} {k : Nat} {φ φ' : Fs} {μ μ' : Mu} {K K' : D → Mu → Prop}
theorem words1 (H : Is2 G) (hk : k < 38) {N : Nat} (h : K (rowD N) μ) : WC G (k + 2) (.ref 255) [.int N] [] μ K := by
  refine WC.pos (by lia) (fd2_at H rfl) (fc2_at H ?_) (fun φ s vs I r => bind1 (x := Str.ofString "number") r fun v => rfl) ?_ ?_ ?_
  · kernel_rfl
  · exact List.nodup_cons.mpr ⟨List.not_mem_nil, .nil⟩
  · kernel_rfl
  · dsimp only [bodyOf]
    repeat' tb_rel
    refine WC.toV (names2 H (by lia) ?_)
    repeat' tb_rel
    rw [show (N : Int).fmod 5 = ((N % 5 : Nat) : Int) from fmodN N 5]
    refine V.getL (x := .str (wd (drawA N) false)) (by lia) (by lia) (by simp only [Int.toNat_natCast, List.getElem?_map]; rw [show lowNames[N % 5]? = some (wd (drawA N) false) from lowNames_at (drawA N)]; rfl) ?_
    repeat' tb_rel
    rw [show ((N : Int).fdiv 5).fmod 5 = ((N / 5 % 5 : Nat) : Int) by rw [show (N : Int).fdiv 5 = ((N / 5 : Nat) : Int) from fdivN N 5]; exact fmodN _ 5]
    refine V.getL (x := .str (wd (drawB N) false)) (by lia) (by lia) (by simp only [Int.toNat_natCast, List.getElem?_map]; rw [show lowNames[N / 5 % 5]? = some (wd (drawB N) false) from lowNames_at (drawB N)]; rfl) ?_
    repeat' tb_rel
    rw [show ((N : Int).fdiv 25).fmod 3 = ((placeN N : Nat) : Int) by rw [show (N : Int).fdiv 25 = ((N / 25 : Nat) : Int) from fdivN N 25]; exact fmodN _ 3]
    repeat' tb_rel
    refine ⟨_, .inl rfl, by simp, by simp, ?_⟩
    rw [pick_take _ _ (place_lt N)]
    repeat' tb_rel
    refine V.addL (by simp; lia) ?_
    repeat' tb_rel
    refine ⟨_, .inl rfl, by simp, by simp, ?_⟩
    rw [pick_drop _ _ (place_lt N)]
    refine V.addL (by simp; lia) ?_
    rw [show [D.str (wd (drawA N) false), D.str (wd (drawB N) false)].take (placeN N) ++ [D.str (Str.ofString "exit")] ++ [D.str (wd (drawA N) false), D.str (wd (drawB N) false)].drop (placeN N) = (rowN N).map fun j => D.str (wd j false) by
      unfold rowN; rw [List.map_append, List.map_append, List.map_take, List.map_drop]; rfl]
    repeat' tb_rel
    refine WE.listcomp ?_ (by kernel_rfl) (by kernel_rfl) rfl (fun _ _ => by kernel_rfl)
    refine WI.range (fun K hK => WE.bi (gl2 H rfl) rfl hK) (by kernel_rfl) ?_ (by kernel_rfl)
    refine WE.int ⟨3, rfl, by decide, by decide, ?_⟩
    refine WLC.mapN (fun (i : Nat) => D.int i) (fun i => D.str (ws (wordN N i))) (by kernel_rfl) (look_none_cap (by kernel_rfl)) _ _ (fun i hi => ?_) ?_
    · have hi3 : i < 3 := by simpa using hi
      repeat' tb_rel
      rw [show (((N : Int).fdiv 150 + (i : Int)).fmod 2 == 1) = upN N i by rw [show (N : Int).fdiv 150 = ((N / 150 : Nat) : Int) from fdivN N 150]; exact odd_eq _ _]
      have hat : ((rowN N).map fun j => D.str (wd j false))[(i : Int).toNat]? = some (.str (wd (nameN N i) false)) := by
        simp only [Int.toNat_natCast, List.getElem?_map, nameN_at N hi3, Option.map_some]
      cases hu : upN N i with
      | true =>
        repeat' tb_rel
        refine V.getL (x := .str (wd (nameN N i) false)) (by lia) (by lia) hat ?_
        repeat' tb_rel
        exact ⟨by simp [wordN, hu], rfl⟩
      | false =>
        repeat' tb_rel
        refine V.getL (x := .str (wd (nameN N i) false)) (by lia) (by lia) hat ?_
        exact ⟨by simp [wordN, hu], rfl⟩
    repeat' tb_rel
    exact h
end
noncomputable def gdS (q : Bool) : Str := if q then Str.ofString "\"\\" else Str.ofString "\" \\"
noncomputable def enc1 (q : Bool) (x : Str) : Str := if Txt.contains (gdS q) x then bsS ++ x else x
noncomputable def encS (q : Bool) (w : Wd) : List Str := (signs (ws w)).map (enc1 q)
noncomputable def jn (q : Bool) (w : Wd) : Str := Builtin.Str.glued (Str.ofString "") (encS q w)
noncomputable def quN (N k : Nat) : Bool := (N / 75 + k) % 2 == 1
noncomputable def qtS : Str := Str.ofString "\""
noncomputable def partW (q : Bool) (w : Wd) : Str := if q then qtS ++ jn true w ++ qtS else jn false w
noncomputable def sepI : Fin 4 → Str
  | 0 => Str.ofString " "
  | 1 => Str.ofString "\n"
  | 2 => Str.ofString "\t"
  | 3 => Str.ofString "\r"
noncomputable def sepN (N k : Nat) : Str := sepI ⟨(N + k) % 4, Nat.mod_lt _ (by decide)⟩
noncomputable def textN (N : Nat) : Nat → Str
  | 0 => Str.ofString ""
  | k + 1 => textN N k ++ partW (quN N k) (wordN N k) ++ sepN N k
theorem jn_ok : ∀ (q : Bool) (j : Fin 6) (u : Bool), ((encS q (j, u)).toArray.foldl (· + ·.length + (Str.ofString "").length) 0 ≤ 1000000) ∧ (jn q (j, u)).cps.size ≤ 18 := by decide +kernel
theorem part_ok : ∀ (q : Bool) (j : Fin 6) (u : Bool), (partW q (j, u)).length ≤ 20 := by decide +kernel
theorem sep_len : ∀ i : Fin 4, (sepI i).length = 1 := by decide +kernel
theorem sep_at : ∀ i : Fin 4, strAt (Str.ofString " \n\t\r") i.val = some (sepI i) := by decide +kernel
theorem wd_ascii : ∀ (j : Fin 6) (u : Bool), (wd j u).cps.all (· < 128) = true := by decide +kernel
theorem signs_len (x y : Str) (h : y ∈ signs x) : y.length = 1 := by
  unfold signs at h
  obtain ⟨c, _, rfl⟩ := List.mem_map.mp h
  rfl
theorem signs_app (x y : Str) : signs (x ++ y) = signs x ++ signs y := by
  unfold signs
  rw [Str.cps_append]; simp
theorem textN_len (N : Nat) : ∀ k, (textN N k).length ≤ 21 * k
  | 0 => by show (Str.ofString "").length ≤ 0; decide +kernel
  | k + 1 => by
    have h1 := textN_len N k
    have h2 := part_ok (quN N k) (wordN N k).1 (wordN N k).2
    have h3 : (sepN N k).length = 1 := sep_len _
    unfold textN
    rw [Str.length_append, Str.length_append]
    have h4 : (partW (quN N k) (wordN N k)).length ≤ 20 := h2
    lia
section
variable {G : Gr} {k : Nat} {φ φ' : Fs} {μ μ' : Mu} {K K' : D → Mu → Prop}
theorem text1 (H : Is2 G) (hk : k < 38) {N : Nat} (h : K (.str (textN N 3)) μ) : WC G (k + 2) (.ref 260) [rowD N, .int N] [] μ K := by
  refine WC.pos (by lia) (fd2_at H rfl) (fc2_at H ?_) (fun φ s vs I r => bind2 (x := Str.ofString "words") (y := Str.ofString "number") r fun v w => rfl) ?_ ?_ ?_
  · kernel_rfl
  · exact of_decide_eq_true (by kernel_rfl)
  · kernel_rfl
  · dsimp only [bodyOf]
    repeat' tb_rel
    refine WS.for (WI.range (fun K hK => WE.bi (gl2 H rfl) rfl hK) (by kernel_rfl) ?_ (by kernel_rfl)) fun _ _ => by kernel_rfl
    refine WE.int ⟨3, rfl, by decide, ?_⟩
    refine WLoop.ind (fun (i : Nat) => D.int i) (fun as σ μ' => Ex1 fun i => A6 (as = List.range' i (3 - i)) (i ≤ 3) (σ.lookup (Str.ofString "number") = some (.int N)) (σ.lookup (Str.ofString "words") = some (rowD N)) (σ.lookup (Str.ofString "text") = some (.str (textN N i))) (μ' = μ)) ?_ ?_ (List.range 3) _ _ ⟨0, by decide, by decide, by tb_start, by tb_start, (show List.lookup (Str.ofString "text") _ = some (D.str (Str.ofString "")) by tb_start), rfl⟩
    · rintro σ μ' ⟨i, h1, h2, h3, h4, h6, rfl⟩
      have : i = 3 := by
        rcases Nat.lt_or_ge i 3 with h | h
        · have e : 3 - i = (3 - i - 1) + 1 := by lia
          rw [e, List.range'_succ] at h1; cases h1
        · lia
      subst this
      simp only [List.nil_append]
      repeat' tb_rel
      exact h
    · rintro a as σ μ' ⟨i, h1, h2, h3, h4, h6, rfl⟩
      have hi : i < 3 := by
        rcases Nat.lt_or_ge i 3 with h | h
        · exact h
        · have e : 3 - i = 0 := by lia
          rw [e] at h1; cases h1
      have e : 3 - i = (3 - (i + 1)) + 1 := by lia
      rw [e, List.range'_succ] at h1
      injection h1 with ha has
      subst ha
      have hp : (partW (quN N a) (wordN N a)).length ≤ 20 := part_ok _ _ _
      have hj : ∀ q, ((encS q (wordN N a)).toArray.foldl (· + ·.length + (Str.ofString "").length) 0 ≤ 1000000) ∧ (jn q (wordN N a)).length ≤ 18 := fun q => jn_ok q _ _
      have hw : (ws (wordN N a)).cps.all (· < 128) = true := wd_ascii _ _
      have ht := textN_len N a
      have hsl : (signs (ws (wordN N a))).length ≤ 1000000 := by
        have : ∀ (j : Fin 6) (u : Bool), (signs (wd j u)).length ≤ 1000000 := by decide +kernel
        exact this _ _
      have hat : ((List.range 3).map fun k => D.str (ws (wordN N k)))[(a : Int).toNat]? = some (.str (ws (wordN N a))) := by
        simp only [Int.toNat_natCast, List.getElem?_map]
        rw [List.getElem?_eq_getElem (by simpa using hi)]; simp
      refine WA.name (by kernel_rfl) ?_
      refine WB.consM [(Str.ofString "number", .int N), (Str.ofString "words", rowD N), (Str.ofString "text", .str (textN N a ++ partW (quN N a) (wordN N a))), (Str.ofString "k", .int (a : Nat))] ?_ ?_
      · repeat' tb_rel
        rw [show (((N : Int).fdiv 75 + (a : Int)).fmod 2 == 1) = quN N a by rw [show (N : Int).fdiv 75 = ((N / 75 : Nat) : Int) from fdivN N 75]; exact odd_eq _ _]
        cases hq : quN N a with
        | true =>
          repeat' tb_rel
          refine WE.listcomp ?_ (by kernel_rfl) (by kernel_rfl) rfl (fun _ _ => by kernel_rfl)
          refine WI.of ?_
          repeat' tb_rel
          refine V.getL (x := .str (ws (wordN N a))) (by lia) (by lia) hat ?_
          refine ⟨_, IterD.str _ hw, by simpa using hsl, ?_⟩
          refine WLC.mapN D.str (fun x => D.str (enc1 true x)) (by kernel_rfl) (look_none_cap (by kernel_rfl)) _ _ (fun x hx => ?_) ?_
          · repeat' tb_rel
            cases hc : Txt.contains (gdS true) x with
            | true =>
              rw [show Txt.contains (Str.ofString "\"\\") x = true from hc]
              repeat' tb_rel
              refine V.addS ?_ (sizeLine_le (by rw [Str.length_append, signs_len _ _ hx]; decide +kernel))
              exact ⟨by simp [enc1, hc], rfl⟩
            | false =>
              rw [show Txt.contains (Str.ofString "\"\\") x = false from hc]
              repeat' tb_rel
              exact ⟨by simp [enc1, hc], rfl⟩
          rw [show ([] ++ (signs (ws (wordN N a))).map fun x => D.str (enc1 true x)) = (encS true (wordN N a)).map D.str by simp [encS]]
          repeat' tb_rel
          refine V.join (hj true).1 (Nat.le_trans (hj true).2 (by decide)) ?_
          rw [List.nil_append]
          have hj1 : (jn true (wordN N a)).length ≤ 18 := (hj true).2
          have hq1 : (Str.ofString "\"").length = 1 := by decide +kernel
          have hs1 : (Str.ofString "\"" ++ jn true (wordN N a)).length ≤ 19 := by rw [Str.length_append]; lia
          refine V.addS ?_ (sizeLine_le (Nat.le_trans hs1 (by decide)))
          repeat' tb_rel
          have hs2 : (Str.ofString "\"" ++ jn true (wordN N a) ++ Str.ofString "\"").length ≤ 20 := by rw [Str.length_append]; lia
          refine V.addS ?_ (sizeLine_le (Nat.le_trans hs2 (by decide)))
          refine V.iaddS ?_ (sizeLine_le ?_)
          · repeat' tb_rel
            refine ⟨rfl, .cons (by tb_start) (.cons (by tb_start) (.cons ?_ (.cons (by tb_start) .nil))), rfl⟩
            exact look_set
          · show (textN N a ++ (Str.ofString "\"" ++ jn true (wordN N a) ++ Str.ofString "\"")).length ≤ 1000000
            rw [Str.length_append]; lia
        | false =>
          repeat' tb_rel
          refine WE.listcomp ?_ (by kernel_rfl) (by kernel_rfl) rfl (fun _ _ => by kernel_rfl)
          refine WI.of ?_
          repeat' tb_rel
          refine V.getL (x := .str (ws (wordN N a))) (by lia) (by lia) hat ?_
          refine ⟨_, IterD.str _ hw, by simpa using hsl, ?_⟩
          refine WLC.mapN D.str (fun x => D.str (enc1 false x)) (by kernel_rfl) (look_none_cap (by kernel_rfl)) _ _ (fun x hx => ?_) ?_
          · repeat' tb_rel
            cases hc : Txt.contains (gdS false) x with
            | true =>
              rw [show Txt.contains (Str.ofString "\" \\") x = true from hc]
              repeat' tb_rel
              refine V.addS ?_ (sizeLine_le (by rw [Str.length_append, signs_len _ _ hx]; decide +kernel))
              exact ⟨by simp [enc1, hc], rfl⟩
            | false =>
              rw [show Txt.contains (Str.ofString "\" \\") x = false from hc]
              repeat' tb_rel
              exact ⟨by simp [enc1, hc], rfl⟩
          rw [show ([] ++ (signs (ws (wordN N a))).map fun x => D.str (enc1 false x)) = (encS false (wordN N a)).map D.str by simp [encS]]
          repeat' tb_rel
          refine V.join (hj false).1 (Nat.le_trans (hj false).2 (by decide)) ?_
          rw [List.nil_append]
          have hj1 : (jn false (wordN N a)).length ≤ 18 := (hj false).2
          refine V.iaddS ?_ (sizeLine_le ?_)
          · repeat' tb_rel
            refine ⟨rfl, .cons (by tb_start) (.cons (by tb_start) (.cons ?_ (.cons (by tb_start) .nil))), rfl⟩
            exact look_set
          · show (textN N a ++ jn false (wordN N a)).length ≤ 1000000
            rw [Str.length_append]; lia
      · repeat' tb_rel
        rw [show ((N : Int) + (a : Int)).fmod 4 = (((N + a) % 4 : Nat) : Int) by rw [show (N : Int) + (a : Int) = ((N + a : Nat) : Int) by simp]; exact fmodN _ 4]
        refine V.getS (y := sepN N a) (by lia) (by lia) (sep_at ⟨(N + a) % 4, Nat.mod_lt _ (by decide)⟩) ?_
        refine V.iaddS ?_ (sizeLine_le ?_)
        · repeat' tb_rel
          exact ⟨a + 1, has, by lia, by tb_start, by tb_start, look_set, rfl⟩
        · have h3 : (sepN N a).length = 1 := sep_len _
          show (textN N a ++ partW (quN N a) (wordN N a) ++ sepN N a).length ≤ 1000000
          rw [Str.length_append, Str.length_append]; lia
end
noncomputable def okP (p : Str) : Bool := isW p && !(Str.ofString "" == p)
noncomputable def nlL (ps : List Str) : Int := (ps.map nlS).sum
noncomputable def outerOf (b : List Stmt) : Option Stmt := match b with
  | [_, _, _, f, _] => some f
  | _ => none
noncomputable def forTail : Stmt → List Stmt
  | .For _ _ (_ :: b) _ _ => b
  | _ => []
noncomputable def innerQ (b : List Stmt) : Option Stmt := match b with
  | [_, _, _, .For _ _ [_, .If _ [f] _ _] _ _, _] => some f
  | _ => none
section
variable {G : Gr} {k : Nat} {φ φ' : Fs} {μ μ' : Mu} {K K' : D → Mu → Prop}
theorem next0 (H : Is2 G) (hk : k < 36) {L : Lx} {l : Int} {I : Addr} (hr : IsRead G 1 L.o L.ps L.S) :
    WNext G (k + 3) I (icell I L :: lcells L l []) fun od μ1 => od = none ∧ μ1 = (I, .fields "callable_iterator" [.none, .none, .bool true]) :: lcells L l [] := by
  refine N.live (k := k + 2) (by lia) (fd2_at H rfl) .head (WC.framed (F := [icell I L]) (.refl _) (readchar2 (k := k) (cs := []) H (by lia) hr (by simp) ?_))
  refine ⟨Str.ofString "", rfl, .head, ?_⟩
  rw [show (Str.ofString "" == Str.ofString "") = true by decide +kernel]
  exact ifT ⟨_, .head, rfl, rfl⟩
theorem outer1 (H : Is2 G) (hk : k < 36) {L : Lx} {l : Int} {I : Addr} {pre cs : List Str} {σ : Sg} {f : Stmt} {fd : FuncData} {KB : Fl → Sg → Mu → Prop} (hfd : fdIn (heap2 G.w.params) 66 = some fd) (hf : outerOf (bodyOf fd) = some f)
    (hr : IsRead G 1 L.o L.ps L.S) (hpre : pre.all okP = true) (hl : (pre ++ cs).length ≤ 100000)
    (hs1 : σ.lookup (Str.ofString "self") = some (.obj 76 L.b)) (hs2 : σ.lookup (Str.ofString "token") = some (.str (Str.ofString ""))) (hs3 : σ.lookup (Str.ofString "fiter") = some (.loc I))
    (hE : cs = [] → ∀ σ : Sg, σ.lookup (Str.ofString "token") = some (.str (Str.ofString "")) → KB .next σ ((I, .fields "callable_iterator" [.none, .none, .bool true]) :: lcells L (l + nlL pre) []))
    (hX : ∀ x r, cs = x :: r → isW x = false ∧ (Str.ofString "" == x) = false ∧ ∀ (σ : Sg) (KB' : Fl → Sg → Mu → Prop), (∀ d σ μ, KB (.ret d) σ μ → KB' (.ret d) σ μ) → σ.lookup (Str.ofString "self") = some (.obj 76 L.b) → σ.lookup (Str.ofString "token") = some (.str (Str.ofString "")) → σ.lookup (Str.ofString "fiter") = some (.loc I) → σ.lookup (Str.ofString "ch") = some (.str x) →
      WB G (k + 3) fd.scope.names σ (forTail f) (icell I L :: lcells L (l + nlL pre + nlS x) r) KB') : WS G (k + 3) fd.scope.names σ f (icell I L :: lcells L l (pre ++ cs)) KB := by
  obtain rfl : fd = _ := (Option.some.inj (hfd.symm.trans rfl))
  obtain rfl : f = _ := (Option.some.inj (hf.symm.trans rfl))
  clear hfd hf
  dsimp only [forTail] at hX
  dsimp only
  refine WS.forN' (fun n σ μ => Ex2 fun pre' l' => A8 (n = pre'.length + 1) (pre'.all okP = true) ((pre' ++ cs).length ≤ 100000) (l' + nlL pre' = l + nlL pre) (σ.lookup (Str.ofString "self") = some (.obj 76 L.b)) (σ.lookup (Str.ofString "token") = some (.str (Str.ofString ""))) (σ.lookup (Str.ofString "fiter") = some (.loc I)) (μ = icell I L :: lcells L l' (pre' ++ cs))) I (pre.length + 1) ?_ ?_ (fun _ _ => by kernel_rfl)
  · repeat' tb_rel
    exact ⟨rfl, ⟨_, _, _, .head⟩, pre, l, rfl, hpre, hl, rfl, hs1, hs2, hs3, rfl⟩
  rintro n σ μ ⟨pre', l', rfl, hp, hl, hle, hs1, hs2, hs3, rfl⟩
  cases pre' with
  | nil =>
    have hle : l' = l + nlL pre := by simpa [nlL] using hle
    subst hle
    cases cs with
    | nil =>
      refine ⟨_, next0 H hk hr, ?_, ?_⟩
      · rintro μ1 ⟨_, rfl⟩
        exact hE rfl σ hs2
      · rintro d μ1 ⟨h0, rfl⟩; cases h0
    | cons x r =>
      obtain ⟨hx1, hx2, hx3⟩ := hX x r rfl
      refine ⟨_, next2 (cs := r) H hk hr hl hx2, ?_, ?_⟩
      · rintro μ1 ⟨h0, _⟩; cases h0
      · rintro d μ1 ⟨h0, rfl⟩
        cases h0
        repeat' tb_rel
        refine attrL H (.tail (.tail .head)) rfl rfl rfl (by kernel_rfl) (by tb_start) ?_
        repeat' tb_rel
        rw [show Txt.contains (Str.ofString "\n\t\r ") x = false from hx1]
        refine ifF (WB.nil (seqK.next ?_))
        refine hx3 _ _ (fun d σ μ hh => forK.ret hh) (by tb_start) (by tb_start) (by tb_start) (by tb_start)
  | cons p ps =>
    have hp : okP p = true ∧ ps.all okP = true := by simpa using hp
    have hp1 : isW p = true ∧ (Str.ofString "" == p) = false := by simpa [okP] using hp.1
    refine ⟨_, next2 (cs := ps ++ cs) H hk hr hl hp1.2, ?_, ?_⟩
    · rintro μ1 ⟨h0, _⟩; cases h0
    · rintro d μ1 ⟨h0, rfl⟩
      cases h0
      repeat' tb_rel
      refine attrL H (.tail (.tail .head)) rfl rfl rfl (by kernel_rfl) (by tb_start) ?_
      repeat' tb_rel
      rw [show Txt.contains (Str.ofString "\n\t\r ") p = true from hp1.1]
      repeat' tb_rel
      refine WS.cont ?_
      repeat' tb_rel
      refine ⟨ps.length + 1, by simp, ps, l' + nlS p, rfl, hp.2, ?_, ?_, by tb_start, by tb_start, by tb_start, rfl⟩
      · have hl : (p :: (ps ++ cs)).length ≤ 100000 := hl
        simp only [List.length_cons] at hl; lia
      · rw [← hle]; simp only [nlL, List.map_cons, List.sum_cons]; lia
end
noncomputable def okQ (u : Str × Bool) : Bool := !(Str.ofString "" == u.1) && !(u.1 == Str.ofString "\n") && (u.2 || (!(u.1 == qtS) && !(u.1 == bsS)))
section
variable {G : Gr} {k : Nat} {φ φ' : Fs} {μ μ' : Mu} {K K' : D → Mu → Prop}
theorem innerQ1 (H : Is2 G) (hk : k < 36) {L : Lx} {l : Int} {I : Addr} {us : List (Str × Bool)} {rest : List Str} {t : Str} {σ : Sg} {f : Stmt} {fd : FuncData} {KB : Fl → Sg → Mu → Prop} (hfd : fdIn (heap2 G.w.params) 66 = some fd) (hf : innerQ (bodyOf fd) = some f)
    (hr : IsRead G 1 L.o L.ps L.S) (hok : us.all okQ = true) (hl : (flatU us ++ qtS :: rest).length ≤ 100000) (hc : (catU t us).length ≤ 1000)
    (hs1 : σ.lookup (Str.ofString "self") = some (.obj 76 L.b)) (hs2 : σ.lookup (Str.ofString "token") = some (.str t)) (hs3 : σ.lookup (Str.ofString "fiter") = some (.loc I))
    (h : ∀ σ, KB (.ret (.str (catU t us))) σ (icell I L :: lcells L l rest)) : WS G (k + 3) fd.scope.names σ f (icell I L :: lcells L l (flatU us ++ qtS :: rest)) KB := by
  obtain rfl : fd = _ := (Option.some.inj (hfd.symm.trans rfl))
  obtain rfl : f = _ := (Option.some.inj (hf.symm.trans rfl))
  clear hfd hf
  dsimp only
  refine WS.forN' (fun n σ μ => Ex2 fun us' t' => A8 (n = us'.length + 1) (us'.all okQ = true) ((flatU us' ++ qtS :: rest).length ≤ 100000) (catU t' us' = catU t us) (σ.lookup (Str.ofString "self") = some (.obj 76 L.b)) (σ.lookup (Str.ofString "token") = some (.str t')) (σ.lookup (Str.ofString "fiter") = some (.loc I)) (μ = icell I L :: lcells L l (flatU us' ++ qtS :: rest))) I (us.length + 1) ?_ ?_ (fun _ _ => by kernel_rfl)
  · repeat' tb_rel
    exact ⟨rfl, ⟨_, _, _, .head⟩, us, t, rfl, hok, hl, rfl, hs1, hs2, hs3, rfl⟩
  rintro n σ μ ⟨us', t', rfl, hok, hl, hcat, hs1, hs2, hs3, rfl⟩
  cases us' with
  | nil =>
    refine ⟨_, next2 (cs := rest) H hk hr hl (by decide +kernel), ?_, ?_⟩
    · rintro μ1 ⟨h0, _⟩; cases h0
    · rintro d μ1 ⟨h0, rfl⟩
      cases h0
      rw [show nlS qtS = 0 by decide +kernel, Int.add_zero]
      repeat' tb_rel
      rw [show (qtS == Str.ofString "\"") = true by decide +kernel]
      repeat' tb_rel
      rw [← hcat] at h
      exact h _
  | cons u us' =>
    obtain ⟨x, e⟩ := u
    have hall : okQ (x, e) = true ∧ us'.all okQ = true := by simpa using hok
    have hc' : (t' ++ x).length ≤ 1000 := by
      have := catU_le us' (t' ++ x)
      rw [← hcat] at hc
      exact Nat.le_trans this hc
    cases e with
    | false =>
      have hx : ((Str.ofString "" == x) = false ∧ (x == Str.ofString "\n") = false) ∧ (x == qtS) = false ∧ (x == bsS) = false := by simpa [okQ] using hall.1
      refine ⟨_, next2 (cs := flatU us' ++ qtS :: rest) H hk hr hl hx.1.1, ?_, ?_⟩
      · rintro μ1 ⟨h0, _⟩; cases h0
      · rintro d μ1 ⟨h0, rfl⟩
        cases h0
        rw [show nlS x = 0 by simp [nlS, hx.1.2], Int.add_zero]
        repeat' tb_rel
        rw [show (x == Str.ofString "\"") = false from hx.2.1]
        repeat' tb_rel
        rw [hx.2.2]
        repeat' tb_rel
        refine V.iaddS ?_ (sizeLine_le (Nat.le_trans hc' (by decide)))
        repeat' tb_rel
        refine ⟨us'.length + 1, by simp, us', t' ++ x, rfl, hall.2, ?_, hcat, by tb_start, by tb_start, by tb_start, rfl⟩
        have hl : (x :: (flatU us' ++ qtS :: rest)).length ≤ 100000 := hl
        simp only [List.length_cons] at hl
        lia
    | true =>
      have hx : (Str.ofString "" == x) = false ∧ (x == Str.ofString "\n") = false := by simpa [okQ] using hall.1
      refine ⟨_, next2 (x := bsS) (cs := x :: (flatU us' ++ qtS :: rest)) H hk hr hl (by decide +kernel), ?_, ?_⟩
      · rintro μ1 ⟨h0, _⟩; cases h0
      · rintro d μ1 ⟨h0, rfl⟩
        cases h0
        rw [show nlS bsS = 0 by decide +kernel, Int.add_zero]
        repeat' tb_rel
        rw [show (bsS == Str.ofString "\"") = false by decide +kernel]
        repeat' tb_rel
        rw [show (bsS == Str.ofString "\\") = true by decide +kernel]
        repeat' tb_rel
        have hl' : (bsS :: x :: (flatU us' ++ qtS :: rest)).length ≤ 100000 := hl
        simp only [List.length_cons] at hl'
        refine M.inst (.tail (.tail .head)) rfl (chk2 (P := fun K => methOk K 76 (Str.ofString "_read_char") 59) H rfl) ?_
        repeat' tb_rel
        refine WC.toV (WC.framed (F := [icell I L]) (.refl _) (readcons2 (k := k + 1) (x := x) (cs := flatU us' ++ qtS :: rest) H (by lia) hr ?_ ?_))
        · simp only [List.length_cons]; lia
        rw [show nlS x = 0 by simp [nlS, hx.2], Int.add_zero]
        repeat' tb_rel
        refine V.iaddS ?_ (sizeLine_le (Nat.le_trans hc' (by decide)))
        repeat' tb_rel
        refine ⟨us'.length + 1, by simp, us', t' ++ x, rfl, hall.2, ?_, hcat, by tb_start, by tb_start, by tb_start, rfl⟩
        lia
theorem tokTop (H : Is2 G) (hk : k < 36) {L : Lx} {l : Int} {pre cs : List Str} (hr : IsRead G 1 L.o L.ps L.S) (hpre : pre.all okP = true) (hl : (pre ++ cs).length ≤ 100000)
    (hE : cs = [] → K (.str (Str.ofString "")) (lcells L (l + nlL pre) []))
    (hX : ∀ x r, cs = x :: r → isW x = false ∧ (Str.ofString "" == x) = false ∧ ∀ (I : Addr) (fd : FuncData) (f : Stmt) (σ : Sg) (KB' : Fl → Sg → Mu → Prop), fdIn (heap2 G.w.params) 66 = some fd → outerOf (bodyOf fd) = some f → (∀ d σ B, K d B → KB' (.ret d) σ (icell I L :: B)) →
      σ.lookup (Str.ofString "self") = some (.obj 76 L.b) → σ.lookup (Str.ofString "token") = some (.str (Str.ofString "")) → σ.lookup (Str.ofString "fiter") = some (.loc I) → σ.lookup (Str.ofString "ch") = some (.str x) →
        WB G (k + 3) fd.scope.names σ (forTail f) (icell I L :: lcells L (l + nlL pre + nlS x) r) KB') :
    WC G (k + 4) (.ref 66) [.obj 76 L.b] [] (lcells L l (pre ++ cs)) K := by
  refine WC.dropK ?_
  refine WC.pos (by lia) (fd2_at H rfl) (fc2_at H ?_) (fun φ s vs I r => bind1 (x := Str.ofString "self") r fun v => rfl) ?_ ?_ ?_
  · kernel_rfl
  · exact of_decide_eq_true (by kernel_rfl)
  · kernel_rfl
  · dsimp only [bodyOf]
    repeat' tb_rel
    refine WE.attr ?_ fun _ => by with_unfolding_all rfl
    repeat' tb_rel
    refine ⟨_, _, _, .loc L.pb, rfl, .tail .head, rfl, chk2 (P := fun K => attrOk K 76 (Str.ofString "pushback")) H rfl, rfl, T.cellN .head ?_⟩
    repeat' tb_rel
    refine WE.battr ?_ fun _ => by with_unfolding_all rfl
    repeat' tb_rel
    refine ⟨76, L.b, _, 59, rfl, .tail .head, rfl, chk2 (P := fun K => bindOk K 76 (Str.ofString "_read_char") 59) H rfl, ?_⟩
    repeat' tb_rel
    refine V.iter2 fun I => ?_
    repeat' tb_rel
    refine outer1 H hk (hfd := rfl) rfl hr hpre hl (by tb_start) (by tb_start) (by tb_start) (fun e σ ht => ?_) (fun x r e => ?_)
    · repeat' tb_rel
      exact ⟨[_], _, .refl _, hE e⟩
    · obtain ⟨h1, h2, h3⟩ := hX x r e
      refine ⟨h1, h2, fun σ KB' hret s1 s2 s3 s4 => h3 I _ _ σ KB' rfl rfl (fun d σ B hB => hret d σ _ ?_) s1 s2 s3 s4⟩
      repeat' tb_rel
      exact ⟨[icell I L], B, .refl _, hB⟩
theorem tokE (H : Is2 G) (hk : k < 36) {L : Lx} {l : Int} {pre : List Str} (hr : IsRead G 1 L.o L.ps L.S) (hpre : pre.all okP = true) (hl : pre.length ≤ 100000) (h : K (.str (Str.ofString "")) (lcells L (l + nlL pre) [])) :
    WC G (k + 4) (.ref 66) [.obj 76 L.b] [] (lcells L l pre) K := by
  have := tokTop (K := K) (l := l) (cs := []) H hk hr hpre (by simpa using hl) (fun _ => h) (fun x r e => nomatch e)
  rwa [List.append_nil] at this
theorem tokQ (H : Is2 G) (hk : k < 36) {L : Lx} {l : Int} {pre : List Str} {us : List (Str × Bool)} {rest : List Str} (hr : IsRead G 1 L.o L.ps L.S) (hpre : pre.all okP = true) (hok : us.all okQ = true) (hl : (pre ++ qtS :: (flatU us ++ qtS :: rest)).length ≤ 100000) (hc : (catU (Str.ofString "") us).length ≤ 1000)
    (h : K (.str (catU (Str.ofString "") us)) (lcells L (l + nlL pre) rest)) : WC G (k + 4) (.ref 66) [.obj 76 L.b] [] (lcells L l (pre ++ qtS :: (flatU us ++ qtS :: rest))) K := by
  refine tokTop H hk hr hpre hl (fun e => nomatch e) fun x r e => ?_
  cases e
  refine ⟨by decide +kernel, by decide +kernel, fun I fd f σ KB' hfd hf hret s1 s2 s3 s4 => ?_⟩
  obtain rfl : fd = _ := (Option.some.inj (hfd.symm.trans rfl))
  obtain rfl : f = _ := (Option.some.inj (hf.symm.trans rfl))
  clear hfd hf
  dsimp only [forTail]
  rw [show nlS qtS = 0 by decide +kernel, Int.add_zero]
  repeat' tb_rel
  rw [show (qtS == Str.ofString "\"") = true by decide +kernel]
  repeat' tb_rel
  simp only [List.length_append, List.length_cons] at hl
  refine innerQ1 H hk (hfd := rfl) rfl hr hok (by simp only [List.length_append, List.length_cons]; lia) hc s1 s2 s3 fun σ' => ?_
  repeat' tb_rel
  exact hret _ _ _ h
theorem tokU (H : Is2 G) (hk : k < 36) {L : Lx} {l : Int} {pre : List Str} {us : List (Str × Bool)} {u : Str × Bool} {w : Str} {rest : List Str} (hr : IsRead G 1 L.o L.ps L.S) (hpre : pre.all okP = true) (hok : (u :: us).all okU = true) (hq : u.2 = true ∨ (u.1 == Str.ofString "\"") = false) (hw : isW w = true) (hw0 : (Str.ofString "" == w) = false)
    (hl : (pre ++ (flatU (u :: us) ++ w :: rest)).length ≤ 100000) (hc : (catU (Str.ofString "") (u :: us)).length ≤ 1000)
    (h : K (.str (catU (Str.ofString "") (u :: us))) (lcells L (l + nlL pre + nlS w) rest)) : WC G (k + 4) (.ref 66) [.obj 76 L.b] [] (lcells L l (pre ++ (flatU (u :: us) ++ w :: rest))) K := by
  have hall : okU u = true ∧ us.all okU = true := by simpa using hok
  obtain ⟨x, e⟩ := u
  have hc' : (Str.ofString "" ++ x).length ≤ 1000 := Nat.le_trans (catU_le us _) hc
  cases e with
  | false =>
    have hx : ((Str.ofString "" == x) = false ∧ (x == Str.ofString "\n") = false) ∧ isW x = false ∧ (x == bsS) = false := by simpa [okU] using hall.1
    have hxq : (x == Str.ofString "\"") = false := by simpa using hq
    refine tokTop (cs := x :: (flatU us ++ w :: rest)) H hk hr hpre hl (fun e => nomatch e) fun x' r e => ?_
    cases e
    refine ⟨hx.2.1, hx.1.1, fun I fd f σ KB' hfd hf hret s1 s2 s3 s4 => ?_⟩
    obtain rfl : fd = _ := (Option.some.inj (hfd.symm.trans rfl))
    obtain rfl : f = _ := (Option.some.inj (hf.symm.trans rfl))
    clear hfd hf
    dsimp only [forTail]
    rw [show nlS x = 0 by simp [nlS, hx.1.2], Int.add_zero]
    repeat' tb_rel
    rw [hxq]
    repeat' tb_rel
    rw [hx.2.2]
    repeat' tb_rel
    refine V.iaddS ?_ (sizeLine_le (Nat.le_trans hc' (by decide)))
    repeat' tb_rel
    have hl1 : (pre ++ (x :: (flatU us ++ w :: rest))).length ≤ 100000 := hl
    simp only [List.length_append, List.length_cons] at hl1
    refine inner2 (t := Str.ofString "" ++ x) H hk (hfd := rfl) rfl hr hall.2 hw hw0 (by simp only [List.length_append, List.length_cons]; lia) hc (by tb_start) (by tb_start) (by tb_start) fun σ' => ?_
    repeat' tb_rel
    exact hret _ _ _ h
  | true =>
    have hx : (Str.ofString "" == x) = false ∧ (x == Str.ofString "\n") = false := by simpa [okU] using hall.1
    refine tokTop (cs := bsS :: x :: (flatU us ++ w :: rest)) H hk hr hpre hl (fun e => nomatch e) fun x' r e => ?_
    cases e
    refine ⟨isW_bs, by decide +kernel, fun I fd f σ KB' hfd hf hret s1 s2 s3 s4 => ?_⟩
    obtain rfl : fd = _ := (Option.some.inj (hfd.symm.trans rfl))
    obtain rfl : f = _ := (Option.some.inj (hf.symm.trans rfl))
    clear hfd hf
    dsimp only [forTail]
    rw [show nlS bsS = 0 by decide +kernel, Int.add_zero]
    repeat' tb_rel
    rw [show (bsS == Str.ofString "\"") = false by decide +kernel]
    repeat' tb_rel
    rw [show (bsS == Str.ofString "\\") = true by decide +kernel]
    repeat' tb_rel
    have hl1 : (pre ++ (bsS :: x :: (flatU us ++ w :: rest))).length ≤ 100000 := hl
    simp only [List.length_append, List.length_cons] at hl1
    refine M.inst (.tail (.tail .head)) rfl (chk2 (P := fun K => methOk K 76 (Str.ofString "_read_char") 59) H rfl) ?_
    repeat' tb_rel
    refine WC.toV (WC.framed (F := [icell I L]) (.refl _) (readcons2 (k := k + 1) (x := x) (cs := flatU us ++ w :: rest) H (by lia) hr ?_ ?_))
    · simp only [List.length_append, List.length_cons]; lia
    rw [show nlS x = 0 by simp [nlS, hx.2], Int.add_zero]
    repeat' tb_rel
    refine V.iaddS ?_ (sizeLine_le (Nat.le_trans hc' (by decide)))
    repeat' tb_rel
    refine inner2 (t := Str.ofString "" ++ x) H hk (hfd := rfl) rfl hr hall.2 hw hw0 (by simp only [List.length_append, List.length_cons]; lia) hc (by tb_start) (by tb_start) (by tb_start) fun σ' => ?_
    repeat' tb_rel
    exact hret _ _ _ h
end
open Builtin.Str in
theorem occ_one (x : Str) (c : Nat) : (occurrences x ⟨#[c]⟩ 0 x.length (x.length + 1)).length = (x.cps.toList.filter (· == c)).length := by
  rw [StrLaws.occ_eq]
  have H : ∀ (m i k : Nat) (f : Array Nat), i + m = x.length + 1 → f.size ≤ i → k ≤ i →
      (forIn (m := Id) (List.range' i m) (f, k) (StrLaws.occBody x ⟨#[c]⟩ x.length (x.length + 1))).run.fst.size = f.size + ((x.cps.toList.drop i).filter (· == c)).length := by
    intro m
    induction m with
    | zero =>
      intro i k f hi _ _
      rw [List.drop_eq_nil_of_le (by simp [Str.length] at hi ⊢; lia)]; simp
    | succ m ih =>
      intro i k f hi hf hk
      rw [List.range'_succ, List.forIn_cons]
      unfold StrLaws.occBody
      by_cases hlt : i < x.length
      · have hlt' : i < x.cps.toList.length := by simpa [Str.length] using hlt
        have hlt2 : i < x.cps.size := hlt
        obtain ⟨v, hv⟩ : ∃ v, x.cps[i]? = some v := ⟨x.cps[i], Array.getElem?_eq_getElem hlt2⟩
        have hvt : x.cps.toList[i]? = some v := by rw [Array.getElem?_toList]; exact hv
        have hd : x.cps.toList.drop i = v :: x.cps.toList.drop (i + 1) := by
          rw [List.drop_eq_getElem_cons hlt', (List.getElem?_eq_some_iff.mp hvt).2]
        have he : x.cps.extract i (i + 1) = #[v] := by
          apply Array.ext
          · simp; lia
          · intro j h1 h2
            have : j = 0 := by simp at h2; lia
            subst this
            simp [(Array.getElem?_eq_some_iff.mp hv).2]
        have hs : subAt x ⟨#[c]⟩ i = (v == c) := by
          unfold subAt
          show (x.cps.extract i (i + 1) == #[c]) = _
          rw [he, Bool.eq_iff_iff, beq_iff_eq, beq_iff_eq]; simp
        rw [hd]
        by_cases hc : (v == c) = true
        · rw [if_pos ⟨⟨⟨by show f.size < _; lia, hk⟩, by show i + 1 ≤ _; lia⟩, by rw [hs]; exact hc⟩]
          refine (ih (i + 1) (i + 1) (f.push i) (by lia) (by simp; lia) (Nat.le_refl _)).trans ?_
          simp only [List.filter_cons, hc, if_true, List.length_cons, Array.size_push]; lia
        · rw [if_neg (fun h => hc (by rw [← hs]; exact h.2))]
          refine (ih (i + 1) k f (by lia) (by lia) (by lia)).trans ?_
          simp only [List.filter_cons, hc, Bool.false_eq_true, if_false]
      · rw [if_neg (fun h => hlt (by have := h.1.2; change i + 1 ≤ x.length at this; lia))]
        refine (ih (i + 1) k f (by lia) (by lia) (by lia)).trans ?_
        rw [List.drop_eq_nil_of_le (by simp [Str.length] at hlt ⊢; lia), List.drop_eq_nil_of_le (by simp [Str.length] at hlt ⊢; lia)]
  have := H (x.length + 1 - 0) 0 0 #[] (by lia) (by simp) (by simp)
  rw [Array.length_toList, this]; simp
noncomputable def nlN (x : Str) : Nat := (x.cps.toList.filter (· == 10)).length
theorem occ_nl (x : Str) : (Builtin.Str.occurrences x (Str.ofString "\n") 0 x.length (x.length + 1)).length = nlN x := occ_one x 10
theorem nlN_app (x y : Str) : nlN (x ++ y) = nlN x + nlN y := by
  unfold nlN; rw [Str.cps_append]; simp
theorem part_nl : ∀ (q : Bool) (j : Fin 6) (u : Bool), nlN (partW q (j, u)) = 0 := by decide +kernel
theorem sep_nl : ∀ i : Fin 4, ((nlN (sepI i) : Nat) : Int) = nlS (sepI i) := by decide +kernel
noncomputable def nlR (N : Nat) : Nat → Nat → Int
  | 0, _ => 0
  | n + 1, k => nlS (sepN N k) + nlR N n (k + 1)
theorem nlR_last (N : Nat) : ∀ n k, nlR N (n + 1) k = nlR N n k + nlS (sepN N (k + n))
  | 0, k => by simp [nlR]
  | n + 1, k => by
    show nlS (sepN N k) + nlR N (n + 1) (k + 1) = _
    rw [nlR_last N n (k + 1)]
    show _ = (nlS (sepN N k) + nlR N n (k + 1)) + _
    rw [show k + 1 + n = k + (n + 1) by lia]; lia
theorem text_nl (N : Nat) : ∀ k, ((nlN (textN N k) : Nat) : Int) = nlR N k 0
  | 0 => by show ((nlN (Str.ofString "") : Nat) : Int) = 0; decide +kernel
  | k + 1 => by
    unfold textN
    rw [nlN_app, nlN_app, show nlN (partW (quN N k) (wordN N k)) = 0 from part_nl _ _ _, nlR_last, ← text_nl N k]
    have := sep_nl ⟨(N + k) % 4, Nat.mod_lt _ (by decide)⟩
    have h2 : ((nlN (sepN N k) : Nat) : Int) = nlS (sepN N k) := this
    rw [Nat.zero_add, ← h2]; lia
noncomputable def unitsW (q : Bool) (w : Wd) : List (Str × Bool) := (signs (ws w)).map fun x => (x, Txt.contains (gdS q) x)
noncomputable def partS (q : Bool) (w : Wd) : List Str := if q then qtS :: (flatU (unitsW true w) ++ [qtS]) else flatU (unitsW false w)
noncomputable def partOk (q : Bool) (w : Wd) : Bool := (signs (partW q w) == partS q w) && (catU (Str.ofString "") (unitsW q w) == ws w) && decide ((partS q w).length ≤ 20) && decide ((ws w).length ≤ 20) &&
  (if q then (unitsW true w).all okQ else (unitsW false w).all okU && match unitsW false w with | [] => false | u :: _ => u.2 || !(u.1 == Str.ofString "\""))
theorem part_okS : ∀ (q : Bool) (j : Fin 6) (u : Bool), partOk q (j, u) = true := by decide +kernel
theorem sep_ok : ∀ i : Fin 4, okP (sepI i) = true ∧ signs (sepI i) = [sepI i] := by decide +kernel
theorem sepN_ok (N k : Nat) : okP (sepN N k) = true := (sep_ok _).1
theorem sepN_W (N k : Nat) : isW (sepN N k) = true ∧ (Str.ofString "" == sepN N k) = false := by simpa [okP] using sepN_ok N k
noncomputable def restS (N : Nat) : Nat → Nat → List Str
  | 0, _ => []
  | n + 1, k => partS (quN N k) (wordN N k) ++ sepN N k :: restS N n (k + 1)
theorem restS_last (N : Nat) : ∀ n k, restS N (n + 1) k = restS N n k ++ (partS (quN N (k + n)) (wordN N (k + n)) ++ [sepN N (k + n)])
  | 0, k => by simp [restS]
  | n + 1, k => by
    show partS _ _ ++ sepN N k :: restS N (n + 1) (k + 1) = _
    rw [restS_last N n (k + 1)]
    show _ = (partS _ _ ++ sepN N k :: restS N n (k + 1)) ++ _
    rw [show k + 1 + n = k + (n + 1) by lia]; simp
theorem part_signs (q : Bool) (w : Wd) : signs (partW q w) = partS q w := by
  have := part_okS q w.1 w.2
  simp only [partOk, Bool.and_eq_true, beq_iff_eq] at this
  exact this.1.1.1.1
theorem text_signs (N : Nat) : ∀ k, signs (textN N k) = restS N k 0
  | 0 => by show signs (Str.ofString "") = []; decide +kernel
  | k + 1 => by
    unfold textN
    rw [signs_app, signs_app, part_signs, restS_last, ← text_signs N k, show signs (sepN N k) = [sepN N k] from (sep_ok _).2, Nat.zero_add]; simp
theorem restS_len (N : Nat) : ∀ n k, (restS N n k).length ≤ 21 * n
  | 0, _ => Nat.le_refl _
  | n + 1, k => by
    have h1 := restS_len N n (k + 1)
    have h2 := part_okS (quN N k) (wordN N k).1 (wordN N k).2
    simp only [partOk, Bool.and_eq_true, decide_eq_true_eq] at h2
    have h3 : (partS (quN N k) (wordN N k)).length ≤ 20 := h2.1.1.2
    unfold restS
    rw [List.length_append, List.length_cons]; lia
noncomputable def preA (N k : Nat) : List Str := if quN N k then [sepN N k] else []
theorem preA_ok (N k : Nat) : (preA N k).all okP = true ∧ (preA N k).length ≤ 1 := by
  unfold preA
  cases quN N k with
  | true => simp [sepN_ok]
  | false => simp
section
variable {G : Gr} {k : Nat} {φ φ' : Fs} {μ μ' : Mu} {K K' : D → Mu → Prop}
theorem tokenW1 (H : Is2 G) (hk : k < 36) {L : Lx} {l : Int} {N n r : Nat} {pre : List Str} (hr : IsRead G 1 L.o L.ps L.S) (hn : n < 100) (hp : pre.all okP = true) (hpl : pre.length ≤ 1)
    (h : ∀ l', l' + nlL (preA N r) = l + nlL pre + nlS (sepN N r) → K (.str (ws (wordN N r))) (lcells L l' (preA N r ++ restS N n (r + 1)))) : WC G (k + 4) (.ref 66) [.obj 76 L.b] [] (lcells L l (pre ++ restS N (n + 1) r)) K := by
  have h2 := part_okS (quN N r) (wordN N r).1 (wordN N r).2
  have hl := restS_len N (n + 1) r
  have hs := sepN_W N r
  simp only [partOk, Bool.and_eq_true, beq_iff_eq, decide_eq_true_eq] at h2
  obtain ⟨⟨⟨⟨_, h4⟩, h5⟩, h6⟩, h7⟩ := h2
  have h4 : catU (Str.ofString "") (unitsW (quN N r) (wordN N r)) = ws (wordN N r) := h4
  have h6 : (ws (wordN N r)).length ≤ 20 := h6
  have h7 : (if quN N r = true then (unitsW true (wordN N r)).all okQ else (unitsW false (wordN N r)).all okU && match unitsW false (wordN N r) with | [] => false | u :: _ => u.2 || !(u.1 == Str.ofString "\"")) = true := h7
  unfold restS at hl ⊢
  unfold preA at h
  unfold partS at hl ⊢
  cases hq : quN N r with
  | true =>
    rw [hq] at h h4 h7 hl
    simp only [if_true] at h h7 hl ⊢
    rw [show qtS :: (flatU (unitsW true (wordN N r)) ++ [qtS]) ++ sepN N r :: restS N n (r + 1) = qtS :: (flatU (unitsW true (wordN N r)) ++ qtS :: (sepN N r :: restS N n (r + 1))) by simp]
    refine tokQ H hk hr hp h7 (by simp only [List.length_append, List.length_cons] at hl ⊢; simp only [List.length_nil] at hl; lia) (by rw [h4]; lia) ?_
    rw [h4]
    exact h _ (by simp [nlL])
  | false =>
    rw [hq] at h h4 h7 hl
    simp only [Bool.false_eq_true, if_false, Bool.and_eq_true] at h h7 hl ⊢
    cases hu : unitsW false (wordN N r) with
    | nil => rw [hu] at h7; cases h7.2
    | cons u us =>
      rw [hu] at h4 h7 hl
      have h8 : (u.2 || !(u.1 == Str.ofString "\"")) = true := h7.2
      refine tokU H hk hr hp h7.1 ?_ hs.1 hs.2 (by simp only [List.length_append, List.length_cons] at hl ⊢; lia) (by rw [h4]; lia) ?_
      · cases hb : u.2 with
        | true => exact .inl rfl
        | false => rw [hb] at h8; right; simpa using h8
      · rw [h4]
        exact h _ (by simp [nlL])
end
noncomputable def tokN (N j : Nat) : Str := if j < 3 then ws (wordN N j) else Str.ofString ""
noncomputable def readD (N : Nat) : D := .tup [.list ((List.range 5).map fun j => .str (tokN N j)), .int (1 + nlR N 3 0)]
section
variable {G : Gr} {k : Nat} {φ φ' : Fs} {μ μ' : Mu} {K K' : D → Mu → Prop}
theorem read1 (H : Is2 G) (hk : k < 20) {N : Nat} {ds : List D} (ht : TabOk lamPos2 lamQual2 ds) (h : ∀ ds', TabOk lamPos2 lamQual2 ds' → K (readD N) [(262, .tab ds')]) : WC G (k + 6) (.ref 272) [.str (textN N 3)] [] [(262, .tab ds)] K := by
  refine WC.dropK ?_
  refine WC.pos (by lia) (fd2_at H rfl) (fc2_at H ?_) (fun φ s vs I r => bind1 (x := Str.ofString "text") r fun v => rfl) ?_ ?_ ?_
  · kernel_rfl
  · exact of_decide_eq_true (by kernel_rfl)
  · kernel_rfl
  · dsimp only [bodyOf]
    repeat' tb_rel
    refine WC.lvT (stream2 (k := 0) H (by lia) ?_ ht fun b pb S o ps ds2 hR ht2 => ?_) (by lia)
    · have := textN_len N 3
      have h : (textN N 3).length = (textN N 3).cps.size := rfl
      lia
    rw [text_signs]
    repeat' tb_rel
    refine WC.lvT (mkL2 (k := 0) H (by lia) fun b2 pb2 => ?_) (by lia)
    have hμ : [(pb2, Cell.list []), (b2, .attrs (lexA 1 (.obj 76 b) pb2))] ++ (scells b pb S o ps ((restS N 3 0).map .str) ++ [(262, .tab ds2)]) = lcells ⟨b2, pb2, b, pb, S, o, ps⟩ 1 (restS N 3 0) ++ [(262, .tab ds2)] := by simp [lcells, scells]
    rw [hμ]
    clear hμ
    have hR' : IsRead G 1 (⟨b2, pb2, b, pb, S, o, ps⟩ : Lx).o (⟨b2, pb2, b, pb, S, o, ps⟩ : Lx).ps (⟨b2, pb2, b, pb, S, o, ps⟩ : Lx).S := hR
    have hb : b2 = (⟨b2, pb2, b, pb, S, o, ps⟩ : Lx).b := rfl
    rw [hb]
    generalize (⟨b2, pb2, b, pb, S, o, ps⟩ : Lx) = L at hR'
    clear hb hR
    repeat' tb_rel
    refine WI.range (fun K hK => WE.bi (gl2 H rfl) rfl hK) (by kernel_rfl) ?_ (by kernel_rfl)
    refine WE.int ⟨5, rfl, by decide, by decide, ?_⟩
    refine WLC.ind (fun (i : Nat) => D.int i) (fun as acc μ' => Ex3 fun i l pre => A8 (as = List.range' i (5 - i)) (i ≤ 5) (acc = ((List.range i).map fun j => D.str (tokN N j))) (pre.all okP = true) (pre.length ≤ 1) (4 ≤ i → pre = []) (l + nlL pre + nlR N (3 - i) i = 1 + nlR N 3 0) (μ' = lcells L l (pre ++ restS N (3 - i) i) ++ [(262, .tab ds2)])) (by kernel_rfl) (look_none_cap (by kernel_rfl)) ?_ ?_ (List.range 5) [] _ ⟨0, 1, [], by decide, by decide, rfl, rfl, by simp, by simp, by simp [nlL], rfl⟩
    · rintro acc μ' ⟨i, l, pre, e, hi, rfl, hp, hpl, hp4, hle, rfl⟩
      have : i = 5 := by
        rcases Nat.lt_or_ge i 5 with h | h
        · have e' : 5 - i = (5 - i - 1) + 1 := by lia
          rw [e', List.range'_succ] at e; cases e
        · lia
      subst this
      obtain rfl := hp4 (by decide)
      have hle : l = 1 + nlR N 3 0 := by simpa [nlL, nlR] using hle
      subst hle
      simp only [List.nil_append]
      repeat' tb_rel
      refine WE.attr ?_ fun _ => by with_unfolding_all rfl
      repeat' tb_rel
      refine ⟨76, L.b, _, .int (1 + nlR N 3 0), rfl, .tail .head, rfl, chk2 (P := fun K => attrOk K 76 (Str.ofString "lineno")) H rfl, rfl, ?_⟩
      repeat' tb_rel
      exact ⟨lcells L (1 + nlR N 3 0) (restS N (3 - 5) 5), [(262, .tab ds2)], .refl _, h ds2 ht2⟩
    · rintro a as acc μ' ⟨i, l, pre, e, hi, rfl, hp, hpl, hp4, hle, rfl⟩
      have hi5 : i < 5 := by
        rcases Nat.lt_or_ge i 5 with h | h
        · exact h
        · have e' : 5 - i = 0 := by lia
          rw [e'] at e; cases e
      have e' : 5 - i = (5 - (i + 1)) + 1 := by lia
      rw [e', List.range'_succ] at e
      injection e with ha has
      subst ha
      repeat' tb_rel
      refine M.inst (.tail .head) rfl (chk2 (P := fun K => methOk K 76 (Str.ofString "get_token") 66) H rfl) ?_
      repeat' tb_rel
      have hacc : ∀ d, d = D.str (tokN N a) → ((List.range a).map fun j => D.str (tokN N j)) ++ [d] = (List.range (a + 1)).map fun j => D.str (tokN N j) := fun d hd => by
        rw [hd, List.range_succ, List.map_append]; rfl
      by_cases h3 : a < 3
      · obtain ⟨n, hn⟩ : ∃ n, 3 - a = n + 1 := ⟨2 - a, by lia⟩
        have hn' : 3 - (a + 1) = n := by lia
        rw [hn] at hle ⊢
        refine WC.lvT (k := k + 5) (j := 4) (WC.fst (tokenW1 (k := 0) H (by lia) hR' (by lia) hp hpl fun l' hl' => ?_)) (by lia)
        refine ⟨a + 1, l', preA N a, has, by lia, hacc _ (by unfold tokN; rw [if_pos h3]), (preA_ok N a).1, (preA_ok N a).2, fun h => by lia, ?_, by rw [hn']⟩
        rw [hn', hl', ← hle]
        show _ = l + nlL pre + (nlS (sepN N a) + nlR N n (a + 1))
        lia
      · have hn : 3 - a = 0 := by lia
        have hn' : 3 - (a + 1) = 0 := by lia
        rw [hn] at hle ⊢
        rw [show pre ++ restS N 0 a = pre by simp [restS]]
        refine WC.lvT (k := k + 5) (j := 4) (WC.fst (tokE (k := 0) H (by lia) hR' hp (by lia) ?_)) (by lia)
        refine ⟨a + 1, l + nlL pre, [], has, by lia, hacc _ (by unfold tokN; rw [if_neg h3]), rfl, by simp, fun _ => rfl, ?_, by rw [hn']; rfl⟩
        rw [hn', ← hle]
        simp [nlL, nlR]
end
noncomputable abbrev strW (w : Wd) : D := .str (ws w)
noncomputable def plexW (L : Lx) (r : List Wd) : Mu := [(L.pb, .list (r.map strW)), (L.b, .attrs (lexA 1 (.obj 76 L.b') L.pb))] ++ scells L.b' L.pb' L.S L.o L.ps []
section
variable {G : Gr} {k : Nat} {φ φ' : Fs} {μ μ' : Mu} {K K' : D → Mu → Prop}
theorem push1 (H : Is2 G) (hk : k < 38) {L : Lx} {r : List Wd} {w : Wd} (hl : r.length ≤ 1000) (h : K .none (plexW L (r ++ [w]))) : WC G (k + 1) (.ref 73) [.obj 76 L.b, strW w] [] (plexW L r) K := by
  refine WC.pos (by lia) (fd2_at H rfl) (fc2_at H ?_) (fun φ s vs I r => bind2 (x := Str.ofString "self") (y := Str.ofString "token") r fun v w => rfl) ?_ ?_ ?_
  · kernel_rfl
  · exact of_decide_eq_true (by kernel_rfl)
  · kernel_rfl
  · dsimp only [bodyOf]
    repeat' tb_rel
    refine WE.attr ?_ fun _ => by with_unfolding_all rfl
    repeat' tb_rel
    refine ⟨76, L.b, _, .loc L.pb, rfl, .tail .head, rfl, chk2 (P := fun K => attrOk K 76 (Str.ofString "pushback")) H rfl, rfl, M.append .head ?_⟩
    repeat' tb_rel
    refine V.append .head (by simp; lia) ?_
    repeat' tb_rel
    have e : r.map strW ++ [strW w] = (r ++ [w]).map strW := by simp
    rw [show (r.map strW ++ [D.str (ws w)]) = (r ++ [w]).map strW from e]
    exact h
theorem getP1 (H : Is2 G) (hk : k < 36) {L : Lx} {r : List Wd} {w : Wd} (hl : r.length ≤ 1000) (h : K (strW w) (plexW L r)) : WC G (k + 4) (.ref 66) [.obj 76 L.b] [] (plexW L (w :: r)) K := by
  refine WC.pos (by lia) (fd2_at H rfl) (fc2_at H ?_) (fun φ s vs I r => bind1 (x := Str.ofString "self") r fun v => rfl) ?_ ?_ ?_
  · kernel_rfl
  · exact of_decide_eq_true (by kernel_rfl)
  · kernel_rfl
  · dsimp only [bodyOf]
    repeat' tb_rel
    refine WE.attr ?_ fun _ => by with_unfolding_all rfl
    repeat' tb_rel
    refine ⟨76, L.b, _, .loc L.pb, rfl, .tail .head, rfl, chk2 (P := fun K => attrOk K 76 (Str.ofString "pushback")) H rfl, rfl, T.cellC .head (by simp; lia) ?_⟩
    repeat' tb_rel
    refine WE.attr ?_ fun _ => by with_unfolding_all rfl
    repeat' tb_rel
    refine ⟨76, L.b, _, .loc L.pb, rfl, .tail .head, rfl, chk2 (P := fun K => attrOk K 76 (Str.ofString "pushback")) H rfl, rfl, M.pop .head ?_⟩
    repeat' tb_rel
    refine V.pop0 .head (by simp; lia) ?_
    repeat' tb_rel
    exact h
theorem get01 (H : Is2 G) (hk : k < 36) {L : Lx} (hr : IsRead G 1 L.o L.ps L.S) (h : K (.str (Str.ofString "")) (plexW L [])) : WC G (k + 4) (.ref 66) [.obj 76 L.b] [] (plexW L []) K :=
  tokE (l := 1) (pre := []) H hk hr rfl (by simp) h
end
noncomputable abbrev rD (r : List Wd) : D := .list (r.map strW)
noncomputable def pcP (q : Lx × List Wd) : Mu := plexW q.1 q.2
noncomputable def lexD (Ls : List Lx) : D := .list (Ls.map fun L => .obj 76 L.b)
section
variable {G : Gr} {k : Nat} {φ φ' : Fs} {μ μ' : Mu} {K K' : D → Mu → Prop}
theorem signposts1 (H : Is2 G) (hk : k < 20) {rs : List (List Wd)} {ds : List D} (hlen : rs.length ≤ 10) (hrl : ∀ r ∈ rs, r.length ≤ 10) (ht : TabOk lamPos2 lamQual2 ds)
    (h : ∀ (lst : List (Lx × List Wd)) ds', lst.reverse.map (·.2) = rs → (∀ q ∈ lst, IsRead G 1 q.1.o q.1.ps q.1.S) → TabOk lamPos2 lamQual2 ds' → K (lexD (lst.reverse.map (·.1))) (lst.flatMap pcP ++ [(262, .tab ds')])) :
    WC G (k + 6) (.ref 279) [.list (rs.map rD)] [] [(262, .tab ds)] K := by
  refine WC.dropK ?_
  refine WC.pos (by lia) (fd2_at H rfl) (fc2_at H ?_) (fun φ s vs I r => bind1 (x := Str.ofString "rows") r fun v => rfl) ?_ ?_ ?_
  · kernel_rfl
  · exact of_decide_eq_true (by kernel_rfl)
  · kernel_rfl
  · dsimp only [bodyOf]
    refine WB.cons' (WS.assign' (WE.listM (WEs.nil' fun a => ?_) (by kernel_rfl) (of_decide_eq_true (by kernel_rfl))) (by kernel_rfl) (fun _ => by kernel_rfl))
    repeat' tb_rel
    refine WS.for (WI.of ?_) fun _ _ => by kernel_rfl
    repeat' tb_rel
    refine ⟨_, IterD.list _, ?_⟩
    refine WLoop.ind rD (fun as σ μ' => Ex2 fun (lst : List (Lx × List Wd)) (ds' : List D) => A5 (lst.reverse.map (·.2) ++ as = rs) (∀ q ∈ lst, IsRead G 1 q.1.o q.1.ps q.1.S) (TabOk lamPos2 lamQual2 ds') (σ.lookup (Str.ofString "lexers") = some (.loc a)) (μ' = lst.flatMap pcP ++ [(a, .list ((lst.reverse.map (·.1)).map fun L => .obj 76 L.b)), (262, .tab ds')])) ?_ ?_ rs _ _ ⟨[], ds, by simp, (fun _ h => nomatch h), ht, by tb_start, rfl⟩
    · rintro σ μ' ⟨lst, ds', e, hr, ht', h1, rfl⟩
      have e : lst.reverse.map (·.2) = rs := by simpa using e
      simp only [List.nil_append]
      refine seqK.next (WB.cons' (WS.ret (WE.frz ?_)))
      repeat' tb_rel
      refine ⟨a, _, _, rfl, Pull.appR .head, ?_⟩
      repeat' tb_rel
      exact ⟨[], _, .refl _, h lst ds' e hr ht'⟩
    · rintro r as σ μ' ⟨lst, ds', e, hr, ht', h1, rfl⟩
      refine WA.name (by kernel_rfl) ?_
      repeat' tb_rel
      rw [show lst.flatMap pcP ++ [(a, Cell.list ((lst.reverse.map (·.1)).map fun L => .obj 76 L.b)), (262, .tab ds')] = (lst.flatMap pcP ++ [(a, Cell.list ((lst.reverse.map (·.1)).map fun L => .obj 76 L.b))]) ++ [(262, .tab ds')] by simp]
      refine WC.lvT (k := k + 5) (j := 3) (WC.permK (WC.snd (stream2 (k := 0) (x := Str.ofString "") H (by lia) (by decide +kernel) ht' fun b pb S o ps ds2 hR ht2 => ?_))) (by lia)
      generalize hobj : Cell.list ((lst.reverse.map (·.1)).map fun L => D.obj 76 L.b) = cl
      refine ⟨scells b pb S o ps [] ++ (lst.flatMap pcP ++ ([(a, cl)] ++ [(262, .tab ds2)])), ?_, ?_⟩
      · rw [show (signs (Str.ofString "")).map D.str = [] from rfl]
        generalize lst.flatMap pcP = A
        generalize scells b pb S o ps [] = B
        refine perm_count fun f => ?_
        simp only [sum_app]; lia
      repeat' tb_rel
      refine WC.lvT (mkL2 (k := 0) H (by lia) fun b2 pb2 => ?_) (by lia)
      have hR' : IsRead G 1 (⟨b2, pb2, b, pb, S, o, ps⟩ : Lx).o (⟨b2, pb2, b, pb, S, o, ps⟩ : Lx).ps (⟨b2, pb2, b, pb, S, o, ps⟩ : Lx).S := hR
      rw [show [(pb2, Cell.list []), (b2, .attrs (lexA 1 (.obj 76 b) pb2))] ++ (scells b pb S o ps [] ++ (lst.flatMap pcP ++ ([(a, cl)] ++ [(262, .tab ds2)]))) = plexW ⟨b2, pb2, b, pb, S, o, ps⟩ [] ++ (lst.flatMap pcP ++ ([(a, cl)] ++ [(262, .tab ds2)])) by simp [plexW]]
      rw [show D.obj 76 b2 = D.obj 76 (⟨b2, pb2, b, pb, S, o, ps⟩ : Lx).b from rfl]
      generalize (⟨b2, pb2, b, pb, S, o, ps⟩ : Lx) = L at hR'
      have hr10 : r.length ≤ 10 := hrl r (by rw [← e]; simp)
      repeat' tb_rel
      refine WS.for (WI.of ?_) fun _ _ => by kernel_rfl
      repeat' tb_rel
      refine ⟨_, IterD.list _, ?_⟩
      refine WLoop.ind strW (fun as σ μ' => Ex1 fun done => A4 (done ++ as = r) (σ.lookup (Str.ofString "lexer") = some (.obj 76 L.b)) (σ.lookup (Str.ofString "lexers") = some (.loc a)) (μ' = plexW L done ++ (lst.flatMap pcP ++ ([(a, cl)] ++ [(262, .tab ds2)])))) ?_ ?_ r _ _ ⟨[], rfl, by tb_start, by tb_start, rfl⟩
      · rintro σ μ' ⟨done, e2, h1, h2, rfl⟩
        have e2 : done = r := by simpa using e2
        subst e2
        simp only [List.nil_append]
        repeat' tb_rel
        rw [← hobj]
        refine M.append (.appR (.appR .head)) ?_
        repeat' tb_rel
        refine V.append (.appR (.appR .head)) ?_ ?_
        · have : (lst.reverse.map (·.2)).length ≤ rs.length := by rw [← e]; simp
          simp at this ⊢; lia
        repeat' tb_rel
        refine ⟨(L, done) :: lst, ds2, by simpa using e, fun q hq => ?_, ht2, by tb_start, by simp [pcP]⟩
        rcases List.mem_cons.mp hq with rfl | hq
        · exact hR'
        · exact hr q hq
      · rintro w as2 σ μ' ⟨done, e2, h1, h2, rfl⟩
        repeat' tb_rel
        refine M.inst (.appL (.tail .head)) rfl (chk2 (P := fun K => methOk K 76 (Str.ofString "push_token") 73) H rfl) ?_
        repeat' tb_rel
        have hdl : done.length ≤ 1000 := by
          have : done.length ≤ r.length := by rw [← e2]; simp
          lia
        refine WC.lvT (k := k + 5) (j := 1) (WC.fst (push1 (k := 0) H (by lia) hdl ?_)) (by lia)
        repeat' tb_rel
        exact ⟨done ++ [w], by simpa using e2, by tb_start, by tb_start, rfl⟩
end
noncomputable def atG {α : Type} (l : List (Str × α)) (k : Str) : Option α := (l.find? fun kv => kv.1 = k).map (·.2)
noncomputable def putG {α : Type} (l : List (Str × α)) (k : Str) (v : α) : List (Str × α) := if l.any (fun kv => kv.1 = k) then l.map (fun kv => if kv.1 = k then (kv.1, v) else kv) else l ++ [(k, v)]
noncomputable def mapD {α : Type} (f : α → D) (l : List (Str × α)) : List (Str × D) := l.map fun p => (p.1, f p.2)
theorem atD_mapD {α : Type} (f : α → D) (l : List (Str × α)) (k : Str) : atD (mapD f l) k = (atG l k).map f := by
  unfold atD atG mapD
  induction l with
  | nil => rfl
  | cons p l ih =>
    simp only [List.map_cons, List.find?_cons]
    by_cases h : p.1 = k
    · simp [h]
    · simp only [h, decide_false]; exact ih
theorem putD_mapD {α : Type} (f : α → D) (l : List (Str × α)) (k : Str) (v : α) : putD (mapD f l) k (f v) = mapD f (putG l k v) := by
  unfold putD putG mapD
  have e : (l.map fun p => (p.1, f p.2)).any (fun kv => decide (kv.1 = k)) = l.any (fun kv => decide (kv.1 = k)) := by
    rw [List.any_map]; rfl
  rw [e]
  split
  · rw [List.map_map, List.map_map]
    refine List.map_congr_left fun p _ => ?_
    show (if p.1 = k then _ else _) = _
    by_cases h : p.1 = k
    · simp [h]
    · simp [h]
  · simp
theorem putG_len {α : Type} (l : List (Str × α)) (k : Str) (v : α) : (putG l k v).length ≤ l.length + 1 := by
  unfold putG
  split <;> simp
theorem mapD_len {α : Type} (f : α → D) (l : List (Str × α)) : (mapD f l).length = l.length := by simp [mapD]
noncomputable abbrev Hs := List (Wd × Wd)
noncomputable abbrev Pf := List (Str × St4)
noncomputable def z4 : St4 := ⟨0, 0, 0, 0, []⟩
noncomputable def ent (p : Nat) (j : Fin 6) : St4 := ⟨if j.val = p then 0 else 1, 1, p, (p * p : Nat), [(lowNames.getD p (Str.ofString ""), 1)]⟩
noncomputable def profP (prof : Pf) (p : Nat) (w : Wd) : Pf := putG prof (wd w.1 false) (((atG prof (wd w.1 false)).getD z4).add (ent p w.1))
noncomputable def Bd (m : Nat) (prof : Pf) : Prop := prof.length ≤ m ∧ ∀ p ∈ prof, p.2.cs.length ≤ m
theorem addI_len (l : Ci) (p : Str × Int) : (addI l p).length ≤ l.length + 1 := putI_len _ _ _
theorem addC_len (ts ss : Ci) : (addC ts ss).length ≤ ts.length + ss.length := by
  have h1 : ∀ (l acc : Ci), (l.foldl (fun acc p => putI acc p.1 p.2) acc).length ≤ acc.length + l.length := by
    intro l
    induction l with
    | nil => intro acc; exact Nat.le_refl _
    | cons p l ih =>
      intro acc
      have := putI_len acc p.1 p.2
      have := ih (putI acc p.1 p.2)
      simp only [List.foldl_cons, List.length_cons]; lia
  have h2 : ∀ (l acc : Ci), (l.foldl addI acc).length ≤ acc.length + l.length := by
    intro l
    induction l with
    | nil => intro acc; exact Nat.le_refl _
    | cons p l ih =>
      intro acc
      have := addI_len acc p
      have := ih (addI acc p)
      simp only [List.foldl_cons, List.length_cons]; lia
  have := h1 ts []
  have := h2 ss (copyI ts)
  unfold addC copyI at *
  simp only [List.length_nil] at *
  lia
theorem atG_mem {α : Type} {l : List (Str × α)} {k : Str} {v : α} (h : atG l k = some v) : ∃ p ∈ l, p.2 = v := by
  unfold atG at h
  cases e : l.find? fun kv => decide (kv.1 = k) with
  | none => rw [e] at h; cases h
  | some p => rw [e] at h; exact ⟨p, List.mem_of_find?_eq_some e, by simpa using h⟩
theorem putG_mem {α : Type} {l : List (Str × α)} {k : Str} {v : α} : ∀ p ∈ putG l k v, p.2 = v ∨ p ∈ l := fun p hp => by
  unfold putG at hp
  split at hp
  · obtain ⟨q, hq, rfl⟩ := List.mem_map.mp hp
    by_cases e : q.1 = k
    · left; simp [e]
    · right; simpa [e] using hq
  · rcases List.mem_append.mp hp with h | h
    · exact .inr h
    · rw [List.mem_singleton.mp h]; exact .inl rfl
theorem Bd.step {m : Nat} {prof : Pf} (h : Bd m prof) (p : Nat) (w : Wd) : Bd (m + 1) (profP prof p w) := by
  refine ⟨Nat.le_trans (putG_len _ _ _) (Nat.succ_le_succ h.1), fun q hq => ?_⟩
  rcases putG_mem q hq with e | e
  · rw [e]
    unfold St4.add
    refine Nat.le_trans (addC_len _ _) ?_
    cases e2 : atG prof (wd w.1 false) with
    | none => simp [z4, ent]
    | some st =>
      obtain ⟨q', hq', e3⟩ := atG_mem e2
      have := h.2 q' hq'
      rw [e3] at this
      simp [ent]; lia
  · exact Nat.le_succ_of_le (h.2 q e)
theorem putH_len (ps : Hs) (w v : Wd) : (putH ps w v).length ≤ ps.length + 1 := by
  unfold putH delH
  rw [List.length_append]
  exact Nat.succ_le_succ (List.length_filter_le _ _)
theorem no_before (j : Fin 6) : ∀ m, m < j.val → lowNames[m]? ≠ some (wd j false) := fun m hm => lowNames_no j ⟨m, by lia⟩ hm
set_option genInjectivity false in
structure R1 where
  held : List Nat
  rs : List (List Wd)
  last : Hs
  prof : Pf
noncomputable def readyF (held : List Nat) : List Nat := (List.range 4).filter fun i => decide (0 < held.getD i 0)
noncomputable def pickF (e : Bool) (l : List Nat) : Option Nat := if e then l.getLast? else l.head?
noncomputable def topW (rs : List (List Wd)) (i : Nat) : Wd := (rs.getD i []).headD (5, false)
noncomputable def turnR (r : List Wd) : List Wd := match r with
  | [] => []
  | w :: r => r ++ [w]
noncomputable def stepF (i : Nat) (s : R1) : R1 :=
  let w := topW s.rs i
  let h1 := s.held.set i (s.held.getD i 0 - 1)
  { held := h1.set w.1.val (h1.getD w.1.val 0 + 1)
    rs := s.rs.set i (turnR (s.rs.getD i []))
    last := putH s.last (⟨i % 6, Nat.mod_lt _ (by decide)⟩, decide (0 < h1.getD i 0)) w
    prof := profP s.prof i w }
noncomputable def runF (e : Bool) : Nat → R1 → Option R1
  | 0, s => if readyF s.held = [] then some s else none
  | n + 1, s => match pickF e (readyF s.held) with
    | none => some s
    | some i => runF e n (stepF i s)
noncomputable def heldD (l : List Nat) : List D := l.map fun (n : Nat) => .int n
noncomputable def pMu1 (Ls : List Lx) (rs : List (List Wd)) (i : Nat) : Mu := plexW (Ls.getD i ⟨0, 0, 0, 0, 0, tupOf #[] 0, []⟩) (rs.getD i [])
noncomputable def pMu (Ls : List Lx) (rs : List (List Wd)) : Mu := (List.range 4).flatMap (pMu1 Ls rs)
noncomputable def rMu (bt ht pd hd : Addr) (s : R1) (Ls : List Lx) (T : Mu) : Mu := hcells bt ht s.last ++ ([(pd, .dict (mapD St4.d s.prof))] ++ ([(hd, .list (heldD s.held))] ++ (pMu Ls s.rs ++ T)))
noncomputable def leftD (rs : List (List Wd)) : D := .list (rs.map fun r => .list (r.map strW ++ [.str (Str.ofString "")]))
noncomputable def ranD (bt : Addr) (s : R1) : D := .tup [.list (heldD s.held), leftD s.rs, .dict (mapD St4.d s.prof), .obj 234 bt]
theorem p_split {f f' : Nat → Mu} {p : Nat} (hp : p < 4) (h : ∀ i, i ≠ p → f i = f' i) : ∃ A R, (List.range 4).flatMap f = A ++ (f p ++ R) ∧ (List.range 4).flatMap f' = A ++ (f' p ++ R) := by
  have e : ∀ g : Nat → Mu, (List.range 4).flatMap g = g 0 ++ (g 1 ++ (g 2 ++ (g 3 ++ []))) := fun g => by simp [List.range_succ_eq_map]
  rw [e, e]
  match p, hp with
  | 0, _ => exact ⟨[], _, rfl, by rw [h 1 (by decide), h 2 (by decide), h 3 (by decide)]; rfl⟩
  | 1, _ => exact ⟨f 0, _, rfl, by rw [h 0 (by decide), h 2 (by decide), h 3 (by decide)]⟩
  | 2, _ => exact ⟨f 0 ++ f 1, f 3 ++ [], by simp, by rw [h 0 (by decide), h 1 (by decide), h 3 (by decide)]; simp⟩
  | 3, _ => exact ⟨f 0 ++ (f 1 ++ f 2), [], by simp, by rw [h 0 (by decide), h 1 (by decide), h 2 (by decide)]; simp⟩
theorem pMu_set {Ls : List Lx} {rs : List (List Wd)} {p : Nat} {r' : List Wd} (hp : p < 4) (hl : p < rs.length) : ∃ A R, pMu Ls rs = A ++ (plexW (Ls.getD p ⟨0, 0, 0, 0, 0, tupOf #[] 0, []⟩) (rs.getD p []) ++ R) ∧ pMu Ls (rs.set p r') = A ++ (plexW (Ls.getD p ⟨0, 0, 0, 0, 0, tupOf #[] 0, []⟩) r' ++ R) := by
  have hset : ∀ i, (rs.set p r').getD i [] = if i = p then r' else rs.getD i [] := fun i => by
    simp only [List.getD_eq_getElem?_getD, List.getElem?_set]
    by_cases hi : p = i
    · subst hi; simp [hl]
    · simp [hi, Ne.symm hi]
  obtain ⟨A, R, e1, e2⟩ := p_split (f := pMu1 Ls rs) (f' := pMu1 Ls (rs.set p r')) hp (fun i hi => by unfold pMu1; rw [hset, if_neg hi])
  refine ⟨A, R, e1, ?_⟩
  show (List.range 4).flatMap (pMu1 Ls (rs.set p r')) = _
  rw [e2]
  unfold pMu1
  rw [hset, if_pos rfl]
theorem len4 {α : Type} (l : List α) (h : l.length = 4) : ∃ a b c d, l = [a, b, c, d] := by
  match l, h with
  | [a, b, c, d], _ => exact ⟨a, b, c, d, rfl⟩
theorem res1 (rs : List (List Wd)) (hN : rs.length = 4) {lst : List (Lx × List Wd)} (h : lst.reverse.map (·.2) = rs) (T : Mu) :
    (pMu (lst.reverse.map (·.1)) rs ++ T).Perm (lst.flatMap pcP ++ T) := by
  obtain ⟨l2, hl2⟩ : ∃ l2, l2 = lst.reverse := ⟨_, rfl⟩
  have e : lst = l2.reverse := by rw [hl2, List.reverse_reverse]
  subst e
  rw [List.reverse_reverse] at *
  subst h
  rw [List.length_map] at hN
  obtain ⟨a, b, c, d, rfl⟩ := len4 l2 hN
  clear hN
  have e1 : pMu ([a, b, c, d].map (·.1)) ([a, b, c, d].map (·.2)) = pcP a ++ (pcP b ++ (pcP c ++ (pcP d ++ []))) := by
    have g : ∀ f : Nat → Mu, (List.range 4).flatMap f = f 0 ++ (f 1 ++ (f 2 ++ (f 3 ++ []))) := fun f => by simp [List.range_succ_eq_map]
    unfold pMu
    rw [g]; rfl
  rw [e1]
  simp only [List.reverse_cons, List.reverse_nil, List.nil_append, List.cons_append, List.flatMap_cons, List.flatMap_nil]
  generalize pcP a = A; generalize pcP b = B; generalize pcP c = C; generalize pcP d = D
  refine perm_count fun f => ?_
  simp only [sum_app, List.map_nil, List.sum_nil]
  lia
noncomputable def P1Ok (G : Gr) (Ls : List Lx) : Prop := Ls.length = 4 ∧ ∀ L ∈ Ls, IsRead G 1 L.o L.ps L.S
section
variable {G : Gr} {k : Nat} {φ φ' : Fs} {μ μ' : Mu} {K K' : D → Mu → Prop}
theorem lxAt {Ls : List Lx} {p : Nat} {L : Lx} (hLp : Ls[p]? = some L) : Ls.getD p ⟨0, 0, 0, 0, 0, tupOf #[] 0, []⟩ = L := by rw [List.getD_eq_getElem?_getD, hLp]; rfl
theorem pHas {Ls : List Lx} {rs : List (List Wd)} {p : Nat} {L : Lx} (hp : p < 4) (hl : p < rs.length) (hLp : Ls[p]? = some L) : Has (pMu Ls rs) L.b (.attrs (lexA 1 (.obj 76 L.b') L.pb)) := by
  obtain ⟨A, R, e, _⟩ := pMu_set (Ls := Ls) (r' := []) hp hl
  rw [e, lxAt hLp]
  exact .appR (.appL (.tail .head))
theorem getR (H : Is2 G) (hk : k < 36) {Ls : List Lx} {rs : List (List Wd)} {p : Nat} {L : Lx} {A R : Mu} {w : Wd} {r : List Wd} (hp : p < 4) (hl : p < rs.length) (hLp : Ls[p]? = some L) (hr : rs.getD p [] = w :: r) (h10 : r.length ≤ 1000)
    (h : K (strW w) (A ++ (pMu Ls (rs.set p r) ++ R))) : WC G (k + 4) (.ref 66) [.obj 76 L.b] [] (A ++ (pMu Ls rs ++ R)) K := by
  obtain ⟨B, C, e1, e2⟩ := pMu_set (Ls := Ls) (r' := r) hp hl
  refine WC.mid (A := A) (B := pMu Ls rs) (R := R) ?_
  rw [e1]
  rw [e2] at h
  refine WC.mid ?_
  rw [lxAt hLp] at h ⊢
  rw [hr]
  exact getP1 H hk h10 h
theorem pushR (H : Is2 G) (hk : k < 38) {Ls : List Lx} {rs : List (List Wd)} {p : Nat} {L : Lx} {A R : Mu} {w : Wd} {r : List Wd} (hp : p < 4) (hl : p < rs.length) (hLp : Ls[p]? = some L) (hr : rs.getD p [] = r) (h10 : r.length ≤ 1000)
    (h : K .none (A ++ (pMu Ls (rs.set p (r ++ [w])) ++ R))) : WC G (k + 1) (.ref 73) [.obj 76 L.b, strW w] [] (A ++ (pMu Ls rs ++ R)) K := by
  obtain ⟨B, C, e1, e2⟩ := pMu_set (Ls := Ls) (r' := r ++ [w]) hp hl
  refine WC.mid (A := A) (B := pMu Ls rs) (R := R) ?_
  rw [e1]
  rw [e2] at h
  refine WC.mid ?_
  rw [lxAt hLp] at h ⊢
  rw [hr]
  exact push1 H hk h10 h
theorem getE (H : Is2 G) (hk : k < 36) {Ls : List Lx} {rs : List (List Wd)} {p : Nat} {L : Lx} {A R : Mu} (hO : P1Ok G Ls) (hp : p < 4) (hl : p < rs.length) (hLp : Ls[p]? = some L) (hr : rs.getD p [] = [])
    (h : K (.str (Str.ofString "")) (A ++ (pMu Ls rs ++ R))) : WC G (k + 4) (.ref 66) [.obj 76 L.b] [] (A ++ (pMu Ls rs ++ R)) K := by
  obtain ⟨B, C, e1, _⟩ := pMu_set (Ls := Ls) (r' := []) hp hl
  refine WC.mid (A := A) (B := pMu Ls rs) (R := R) ?_
  rw [e1] at h ⊢
  refine WC.mid ?_
  rw [lxAt hLp, hr] at h ⊢
  exact get01 H hk (hO.2 L (List.mem_of_getElem? hLp)) h
structure S1 (s : R1) : Prop where
  h6 : s.held.length = 6
  r4 : s.rs.length = 4
  r3 : ∀ r ∈ s.rs, r.length = 3
theorem S1.row {s : R1} (S : S1 s) {i : Nat} (hi : i < 4) : ∃ w a b, s.rs.getD i [] = [w, a, b] := by
  have hl : i < s.rs.length := by rw [S.r4]; exact hi
  have := S.r3 _ (List.getElem_mem hl)
  rw [List.getD_eq_getElem?_getD, List.getElem?_eq_getElem hl]
  match h : s.rs[i], this with
  | [w, a, b], _ => exact ⟨w, a, b, rfl⟩
theorem S1.step {s : R1} (S : S1 s) {i : Nat} (hi : i < 4) : S1 (stepF i s) := by
  obtain ⟨w, a, b, e⟩ := S.row hi
  refine ⟨by simp [stepF, S.h6], by simp [stepF, S.r4], fun r hr => ?_⟩
  have hr : r ∈ s.rs.set i (turnR (s.rs.getD i [])) := hr
  rcases List.mem_or_eq_of_mem_set hr with h | h
  · exact S.r3 r h
  · rw [h, e]; rfl
theorem ready_mem {held : List Nat} {i : Nat} (h : i ∈ readyF held) : i < 4 ∧ 0 < held.getD i 0 := by
  have := List.mem_filter.mp h
  exact ⟨List.mem_range.mp this.1, of_decide_eq_true this.2⟩
theorem pick_mem {e : Bool} {l : List Nat} {i : Nat} (h : pickF e l = some i) : i ∈ l := by
  unfold pickF at h
  split at h
  · exact List.mem_of_getLast? h
  · exact List.mem_of_mem_head? h
end
noncomputable def nD (l : List Nat) : D := .list (l.map fun (n : Nat) => .int n)
theorem rHd {bt ht pd hd : Addr} {s : R1} {Ls : List Lx} {T : Mu} : Has (rMu bt ht pd hd s Ls T) hd (.list (heldD s.held)) := .appR (.appR (.appL .head))
theorem held_at {l : List Nat} {i : Nat} (hi : i < l.length) : (heldD l)[(i : Int).toNat]? = some (.int (l.getD i 0 : Nat)) := by
  unfold heldD
  rw [Int.toNat_natCast, List.getElem?_map, List.getD_eq_getElem?_getD, List.getElem?_eq_getElem hi]; rfl
theorem held_at' {l : List Nat} {i : Nat} (hi : i < l.length) : (heldD l)[i]? = some (.int (l.getD i 0 : Nat)) := held_at hi
theorem held_set (l : List Nat) (i n : Nat) : (heldD l).set i (.int (n : Nat)) = heldD (l.set i n) := by
  unfold heldD; rw [List.map_set]
theorem held_len (l : List Nat) : (heldD l).length = l.length := by simp [heldD]
noncomputable def rsE (rs : List (List Wd)) (j : Nat) : List (List Wd) := List.replicate j [] ++ rs.drop j
noncomputable def leftR (rs : List (List Wd)) (j : Nat) : List D := (rs.getD j []).map strW ++ [.str (Str.ofString "")]
theorem rsE_len {rs : List (List Wd)} {j : Nat} (h : rs.length = 4) (hj : j ≤ 4) : (rsE rs j).length = 4 := by simp [rsE, h]; lia
theorem rsE_at {rs : List (List Wd)} {j : Nat} : (rsE rs j).getD j [] = rs.getD j [] := by
  unfold rsE
  rw [List.getD_eq_getElem?_getD, List.getD_eq_getElem?_getD, List.getElem?_append_right (by simp)]
  simp
theorem rsE_set {rs : List (List Wd)} {j : Nat} (h : rs.length = 4) (hj : j < 4) : (rsE rs j).set j [] = rsE rs (j + 1) := by
  unfold rsE
  rw [List.set_append_right _ _ (by simp)]
  simp only [List.length_replicate, Nat.sub_self]
  rw [List.drop_eq_getElem_cons (by lia : j < rs.length), List.set_cons_zero, List.replicate_succ']
  simp
section
variable {G : Gr} {k : Nat} {φ φ' : Fs} {μ μ' : Mu} {K K' : D → Mu → Prop}
theorem pickG {value slice : Expr} {l : List Nat} {e : Bool} {i : Nat} (hp : pickF e l = some i) (h : K (.int (i : Nat)) μ) : WG G k value slice (nD l) (.int (if e then -1 else 0)) μ K := by
  unfold nD
  cases e with
  | false =>
    have hp : l.head? = some i := hp
    refine V.getL (i := 0) (x := .int (i : Nat)) (by decide) (by decide) ?_ h
    cases l with
    | nil => cases hp
    | cons a l => cases hp; rfl
  | true =>
    have hp : l.getLast? = some i := hp
    have hl : 0 < l.length := by
      cases l with
      | nil => cases hp
      | cons a l => simp
    refine V.getLn (i := -1) (x := .int (i : Nat)) (by decide) (by simp; lia) (by decide) ?_ h
    rw [List.getLast?_eq_getElem?] at hp
    rw [show ((-1 : Int) + ((l.map fun (n : Nat) => D.int n).length : Int)).toNat = l.length - 1 by simp; lia, List.getElem?_map, hp]; rfl
theorem run1 (H : Is2 G) (hk : k < 10) {rs : List (List Wd)} {wk : List Nat} {e : Bool} {ds : List D} {s' : R1} (hrs : rs.length = 4) (hr3 : ∀ r ∈ rs, r.length = 3) (hwl : wk.length = 4) (ht : TabOk lamPos2 lamQual2 ds) (hrun : runF e 40 ⟨wk ++ [0, 0], rs, [], []⟩ = some s')
    (h : ∀ bt htt ds', TabOk lamPos2 lamQual2 ds' → K (ranD bt s') (hcells bt htt s'.last ++ [(262, .tab ds')])) :
    WC G (k + 12) (.ref 284) [.list (rs.map rD), nD wk, .int (if e then -1 else 0)] [] [(262, .tab ds)] K := by
  refine WC.dropK ?_
  refine WC.pos (by lia) (fd2_at H rfl) (fc2_at H ?_) (fun φ s vs I r => bind3 (x := Str.ofString "rows") (y := Str.ofString "walkers") (z := Str.ofString "end") r fun v w u => rfl) ?_ ?_ ?_
  · kernel_rfl
  · exact of_decide_eq_true (by kernel_rfl)
  · kernel_rfl
  · dsimp only [bodyOf]
    repeat' tb_rel
    refine WC.lvT (names2 (k := 0) H (by lia) ?_) (by lia)
    repeat' tb_rel
    refine WC.lvT (k := k + 11) (j := 6) (WC.permK (signposts1 (k := 0) H (by lia) (by lia) (fun r hr => by rw [hr3 r hr]; decide) ht fun lst ds2 e1 hO ht2 => ?_)) (by lia)
    refine ⟨_, res1 rs hrs e1 _, ?_⟩
    have hLs : P1Ok G (lst.reverse.map (·.1)) := by
      refine ⟨?_, fun L hL => ?_⟩
      · rw [← hrs, ← e1]; simp
      · obtain ⟨q, hq, rfl⟩ := List.mem_map.mp hL
        exact hO q (List.mem_reverse.mp hq)
    generalize lst.reverse.map (·.1) = Ls at hLs
    clear e1 hO
    repeat' tb_rel
    refine WC.lvT (mkH2 (k := 0) H (by lia) fun bt htt => ?_) (by lia)
    repeat' tb_rel
    refine WE.permK (WE.dictM fun pd => ⟨hcells bt htt [] ++ ([(pd, .dict [])] ++ (pMu Ls rs ++ [(262, .tab ds2)])), ?_, ?_⟩)
    · generalize pMu Ls rs = A; generalize hcells bt htt [] = B
      refine perm_count fun f => ?_
      simp only [sum_app, List.map_cons, List.map_nil, List.sum_cons, List.sum_nil]; lia
    refine seqK.next (WB.cons' (WS.assign' (WE.permK (WE.binop ?_)) (by kernel_rfl) (fun _ => by kernel_rfl)))
    repeat' tb_rel
    refine V.addM (by simp; lia) fun hd => ?_
    refine ⟨rMu bt htt pd hd ⟨wk ++ [0, 0], rs, [], []⟩ Ls [(262, .tab ds2)], ?_, ?_⟩
    · have e1 : (wk.map fun (n : Nat) => D.int n) ++ [.int 0, .int 0] = heldD (wk ++ [0, 0]) := by simp [heldD]
      rw [e1]
      show List.Perm (hcells bt htt [] ++ ([(pd, Cell.dict [])] ++ ([(hd, Cell.list (heldD (wk ++ [0, 0])))] ++ (pMu Ls rs ++ [(262, Cell.tab ds2)])))) _
      generalize pMu Ls rs = A; generalize hcells bt htt [] = B
      refine perm_count fun f => ?_
      simp only [sum_app, List.map_cons, List.map_nil, List.sum_cons, List.sum_nil]; lia
    have S0 : S1 ⟨wk ++ [0, 0], rs, [], []⟩ := ⟨by simp [hwl], hrs, hr3⟩
    generalize hs0 : (⟨wk ++ [0, 0], rs, [], []⟩ : R1) = s0 at hrun S0 ⊢
    have hb0 : s0.prof.length = 0 ∧ s0.last.length = 0 ∧ Bd 0 s0.prof := by rw [← hs0]; exact ⟨rfl, rfl, by simp [Bd]⟩
    clear hs0
    repeat' tb_rel
    refine WI.range (fun K hK => WE.bi (gl2 H rfl) rfl hK) (by kernel_rfl) ?_ (by kernel_rfl)
    refine WE.int ⟨4, rfl, by decide, by decide, ?_⟩
    refine WLC.pickN (fun (i : Nat) => D.int i) (fun (i : Nat) => D.int i) (fun i => decide (0 < s0.held.getD i 0)) (by kernel_rfl) (look_none_cap (by kernel_rfl)) _ _ (fun i hi => ?_) (fun i hi hq => ?_) ?_
    · have hi4 : i < 4 := by simpa using hi
      repeat' tb_rel
      refine V.getM (x := .int (s0.held.getD i 0 : Nat)) rHd (by lia) (by lia) (held_at (by rw [S0.h6]; lia)) ?_
      repeat' tb_rel
      exact ⟨by rw [Bool.eq_iff_iff, decide_eq_true_iff, decide_eq_true_iff]; lia, rfl⟩
    · repeat' tb_rel
      exact ⟨rfl, rfl⟩
    simp only [List.nil_append]
    rw [show ((List.range 4).filter fun i => decide (0 < s0.held.getD i 0)) = readyF s0.held from rfl]
    refine seqK.next (WB.cons' ?_)
    refine WS.while' (fun n σ μ' => Ex2 fun s m => A12 (runF e n s = some s') (S1 s) (m + n ≤ 50) (Bd m s.prof) (s.last.length ≤ m) (σ.lookup (Str.ofString "names") = some (.list (lowNames.map .str))) (σ.lookup (Str.ofString "lexers") = some (lexD Ls)) (σ.lookup (Str.ofString "last") = some (.obj 234 bt)) (σ.lookup (Str.ofString "profile") = some (.loc pd)) (σ.lookup (Str.ofString "held") = some (.loc hd)) (σ.lookup (Str.ofString "ready") = some (nD (readyF s.held)) ∧ σ.lookup (Str.ofString "end") = some (.int (if e then -1 else 0))) (μ' = rMu bt htt pd hd s Ls [(262, .tab ds2)])) (fun n σ μ' => ?_) 40 ⟨s0, 0, hrun, S0, by lia, hb0.2.2, by lia, by tb_start, by tb_start, by tb_start, by tb_start, by tb_start, ⟨look_set, by tb_start⟩, rfl⟩
    rintro ⟨s, m, hrun, S, hm, hB, hll, h1, h2, h3, h4, h5, ⟨h6, h7⟩, rfl⟩
    repeat' tb_rel
    rw [show nD (readyF s.held) = .list (((readyF s.held).map fun (n : Nat) => (n : Int)).map .int) by simp [nD]]
    refine V.neL (ys := []) ?_
    cases hr : readyF s.held with
    | nil =>
      rw [show (!(([] : List Nat).map (fun (n : Nat) => (n : Int)) == [])) = false from rfl]
      have hs : s = s' := by
        cases n with
        | zero => unfold runF at hrun; rw [if_pos hr] at hrun; cases hrun; rfl
        | succ n =>
          unfold runF at hrun
          rw [hr] at hrun
          cases e <;> (cases hrun; rfl)
      subst hs
      refine T.bool (ifF (seqK.next (WB.weak (σ' := [(Str.ofString "lexers", lexD Ls), (Str.ofString "held", .loc hd), (Str.ofString "profile", .loc pd), (Str.ofString "last", .obj 234 bt)]) (SgLe.cons h2 (SgLe.cons h5 (SgLe.cons h4 (SgLe.cons h3 SgLe.nil)))) ?_)))
      refine WB.cons' (WS.assignCC (Str.ofString "lexer") ?_ (by kernel_rfl) (by kernel_rfl) (by kernel_rfl) (by kernel_rfl) rfl (by kernel_rfl) (fun _ _ => by kernel_rfl))
      refine WI.of ?_
      repeat' tb_rel
      refine ⟨_, IterD.list _, by rw [List.length_map, hLs.1]; decide, ?_⟩
      rw [show (Ls.map fun L => D.obj 76 L.b) = (List.range 4).map (fun p => D.obj 76 (Ls.getD p ⟨0, 0, 0, 0, 0, tupOf #[] 0, []⟩).b) by
        obtain ⟨La, Lb, Lc, Ld, e4⟩ := len4 Ls hLs.1
        rw [e4]; rfl]
      refine WLCc.ind (fun p => D.obj 76 (Ls.getD p ⟨0, 0, 0, 0, 0, tupOf #[] 0, []⟩).b) (fun as acc μ' => Ex1 fun j => A4 (as = List.range' j (4 - j)) (j ≤ 4) (acc = (List.range j).map fun p => .list (leftR s.rs p)) (μ' = rMu bt htt pd hd ⟨s.held, rsE s.rs j, s.last, s.prof⟩ Ls [(262, .tab ds2)])) ?_ ?_ (List.range 4) [] _ ⟨0, by decide, by decide, rfl, by simp [rsE]⟩
      · rintro acc μ' ⟨j, e, hj, rfl, rfl⟩
        have : j = 4 := by
          rcases Nat.lt_or_ge j 4 with h | h
          · have e' : 4 - j = (4 - j - 1) + 1 := by lia
            rw [e', List.range'_succ] at e; cases e
          · lia
        subst this
        simp only [List.nil_append]
        refine seqK.next (WB.cons' (WS.ret (WE.tup (WEs.cons' (WE.frz ?_)) (by kernel_rfl) (of_decide_eq_true (by kernel_rfl)))))
        repeat' tb_rel
        refine ⟨hd, _, _, rfl, Pull.appR (Pull.appR .head), ?_⟩
        refine WEs.cons' (WE.name (by decide +kernel) (by tb_start) (WEs.cons' (WE.frzD ?_)))
        repeat' tb_rel
        refine ⟨pd, _, _, rfl, Pull.appR .head, ?_⟩
        repeat' tb_rel
        have hleft : (List.range 4).map (fun p => D.list (leftR s.rs p)) = s.rs.map fun r => D.list (r.map strW ++ [.str (Str.ofString "")]) := by
          obtain ⟨ra, rb, rc, rd, e4⟩ := len4 s.rs S.r4
          rw [e4]; rfl
        have hK := h bt htt ds2 ht2
        unfold ranD leftD at hK
        rw [← hleft] at hK
        refine ⟨pMu Ls (rsE s.rs 4), hcells bt htt s.last ++ [(262, Cell.tab ds2)], ?_, hK⟩
        show List.Perm (hcells bt htt s.last ++ (pMu Ls (rsE s.rs 4) ++ [(262, Cell.tab ds2)])) _
        generalize pMu Ls (rsE s.rs 4) = A; generalize hcells bt htt s.last = B
        refine perm_count fun f => ?_
        simp only [sum_app]; lia
      · rintro a as acc μ' ⟨j, e, hj, rfl, rfl⟩
        have hj4 : j < 4 := by
          rcases Nat.lt_or_ge j 4 with h | h
          · exact h
          · have e' : 4 - j = 0 := by lia
            rw [e'] at e; cases e
        have e' : 4 - j = (4 - (j + 1)) + 1 := by lia
        rw [e', List.range'_succ] at e
        injection e with ha has
        subst ha
        obtain ⟨L, hLp⟩ : ∃ L, Ls[a]? = some L := ⟨Ls[a]'(by rw [hLs.1]; exact hj4), by simp [hLs.1, hj4]⟩
        obtain ⟨w, wa, wb, hrow⟩ := S.row hj4
        have hE4 : (rsE s.rs a).length = 4 := rsE_len S.r4 hj
        rw [lxAt hLp]
        refine WE.listcomp ?_ (by kernel_rfl) (by kernel_rfl) rfl (fun _ _ => by kernel_rfl)
        refine WI.range (fun K hK => WE.bi (gl2 H rfl) rfl hK) (by kernel_rfl) ?_ (by kernel_rfl)
        refine WE.int ⟨4, rfl, by decide, by decide, ?_⟩
        refine WLC.ind (fun (i : Nat) => D.int i) (fun as acc μ' => Ex1 fun i => A4 (as = List.range' i (4 - i)) (i ≤ 4) (acc = (leftR s.rs a).take i) (μ' = rMu bt htt pd hd ⟨s.held, (rsE s.rs a).set a ([w, wa, wb].drop i), s.last, s.prof⟩ Ls [(262, .tab ds2)])) (by kernel_rfl) (look_none_cap (by kernel_rfl)) ?_ ?_ (List.range 4) [] _ ⟨0, by decide, by decide, rfl, ?_⟩
        · rintro acc μ' ⟨i, e, hi, rfl, rfl⟩
          have : i = 4 := by
            rcases Nat.lt_or_ge i 4 with h | h
            · have e' : 4 - i = (4 - i - 1) + 1 := by lia
              rw [e', List.range'_succ] at e; cases e
            · lia
          subst this
          refine ⟨a + 1, has, by lia, ?_, ?_⟩
          · rw [List.range_succ, List.map_append, List.take_of_length_le (by unfold leftR; rw [hrow]; simp)]; rfl
          · rw [← rsE_set S.r4 hj4]; rfl
        · rintro c cs acc μ' ⟨i, e, hi, rfl, rfl⟩
          have hi4 : i < 4 := by
            rcases Nat.lt_or_ge i 4 with h | h
            · exact h
            · have e' : 4 - i = 0 := by lia
              rw [e'] at e; cases e
          have e' : 4 - i = (4 - (i + 1)) + 1 := by lia
          rw [e', List.range'_succ] at e
          injection e with hc hcs
          subst hc
          have hset : ((rsE s.rs a).set a ([w, wa, wb].drop c)).length = 4 := by simp [hE4]
          have hget : ((rsE s.rs a).set a ([w, wa, wb].drop c)).getD a [] = [w, wa, wb].drop c := by simp [List.getD_eq_getElem?_getD, hE4, hj4]
          repeat' tb_rel
          refine M.inst (.appR (.appR (.appR (.appL (pHas hj4 (by rw [hset]; exact hj4) hLp))))) rfl (chk2 (P := fun K => methOk K 76 (Str.ofString "get_token") 66) H rfl) ?_
          repeat' tb_rel
          have hleft : leftR s.rs a = [strW w, strW wa, strW wb, .str (Str.ofString "")] := by unfold leftR; rw [hrow]; rfl
          by_cases h3 : c < 3
          · obtain ⟨x, hx⟩ : ∃ x, [w, wa, wb].drop c = x :: [w, wa, wb].drop (c + 1) ∧ (leftR s.rs a)[c]? = some (strW x) := by
              rw [hleft]
              match c, h3 with
              | 0, _ => exact ⟨w, rfl, rfl⟩
              | 1, _ => exact ⟨wa, rfl, rfl⟩
              | 2, _ => exact ⟨wb, rfl, rfl⟩
            refine WC.lvT (k := k + 11) (j := 4) (WC.snd (A := hcells bt htt s.last) (WC.snd (A := [(pd, .dict (mapD St4.d s.prof))]) (WC.snd (A := [(hd, .list (heldD s.held))]) (getR (k := 0) (A := []) H (by lia) hj4 (by rw [hset]; exact hj4) hLp (hget.trans hx.1) (by simp; lia) ?_)))) (by lia)
            exact ⟨c + 1, hcs, by lia, by rw [List.take_succ, hx.2]; rfl, by rw [List.set_set]; rfl⟩
          · have hc3 : c = 3 := by lia
            subst hc3
            refine WC.lvT (k := k + 11) (j := 4) (WC.snd (A := hcells bt htt s.last) (WC.snd (A := [(pd, .dict (mapD St4.d s.prof))]) (WC.snd (A := [(hd, .list (heldD s.held))]) (getE (k := 0) (A := []) H (by lia) hLs hj4 (by rw [hset]; exact hj4) hLp hget ?_)))) (by lia)
            exact ⟨4, hcs, by lia, by rw [hleft]; rfl, rfl⟩
        · show _ = rMu bt htt pd hd ⟨s.held, (rsE s.rs a).set a [w, wa, wb], s.last, s.prof⟩ Ls _
          have : (rsE s.rs a).set a [w, wa, wb] = rsE s.rs a := by
            apply List.ext_getElem?
            intro i
            rw [List.getElem?_set]
            by_cases hi : a = i
            · subst hi
              have e1 : (rsE s.rs a).getD a [] = [w, wa, wb] := rsE_at.trans hrow
              have hl : a < (rsE s.rs a).length := by rw [hE4]; exact hj4
              rw [List.getD_eq_getElem?_getD, List.getElem?_eq_getElem hl] at e1
              rw [if_pos rfl, if_pos hl, List.getElem?_eq_getElem hl]
              exact congrArg some e1.symm
            · rw [if_neg hi]
          rw [this]
    | cons i0 l0 =>
      rw [show (!((i0 :: l0).map (fun (n : Nat) => (n : Int)) == [])) = true from rfl]
      rw [hr] at h6
      cases n with
      | zero => unfold runF at hrun; rw [if_neg (by rw [hr]; exact fun h => nomatch h)] at hrun; cases hrun
      | succ n =>
      obtain ⟨i, hpick⟩ : ∃ i, pickF e (i0 :: l0) = some i := by
        cases e with
        | false => exact ⟨i0, rfl⟩
        | true => exact ⟨_, show (i0 :: l0).getLast? = some _ from List.getLast?_eq_some_getLast (List.cons_ne_nil _ _)⟩
      unfold runF at hrun
      rw [hr, hpick] at hrun
      have hrun : runF e n (stepF i s) = some s' := hrun
      obtain ⟨hi4, hpos⟩ := ready_mem (hr ▸ pick_mem hpick)
      repeat' tb_rel
      refine pickG hpick ?_
      obtain ⟨L, hLp⟩ : ∃ L, Ls[i]? = some L := ⟨Ls[i]'(by rw [hLs.1]; exact hi4), by simp [hLs.1, hi4]⟩
      obtain ⟨w, wa, wb, hrow⟩ := S.row hi4
      repeat' tb_rel
      have hil : i < s.rs.length := by rw [S.r4]; exact hi4
      have hi6 : i < s.held.length := by rw [S.h6]; lia
      refine V.getL (x := .obj 76 L.b) (by lia) (by lia) (by simp [hLp]) ?_
      refine M.inst (.appR (.appR (.appR (.appL (pHas hi4 hil hLp))))) rfl (chk2 (P := fun K => methOk K 76 (Str.ofString "get_token") 66) H rfl) ?_
      repeat' tb_rel
      refine WC.lvT (k := k + 11) (j := 4) (WC.snd (A := hcells bt htt s.last) (WC.snd (A := [(pd, .dict (mapD St4.d s.prof))]) (WC.snd (A := [(hd, .list (heldD s.held))]) (getR (k := 0) (A := []) H (by lia) hi4 hil hLp hrow (by simp) ?_)))) (by lia)
      rw [List.nil_append]
      repeat' tb_rel
      refine V.getL (x := .obj 76 L.b) (by lia) (by lia) (by simp [hLp]) ?_
      refine M.inst (.appR (.appR (.appR (.appL (pHas hi4 (by simpa using hil) hLp))))) rfl (chk2 (P := fun K => methOk K 76 (Str.ofString "push_token") 73) H rfl) ?_
      repeat' tb_rel
      refine WC.lvT (k := k + 11) (j := 1) (WC.snd (A := hcells bt htt s.last) (WC.snd (A := [(pd, .dict (mapD St4.d s.prof))]) (WC.snd (A := [(hd, .list (heldD s.held))]) (pushR (k := 0) (A := []) (r := [wa, wb]) H (by lia) hi4 (by simpa using hil) hLp (by simp [List.getD_eq_getElem?_getD, hil]) (by simp) ?_)))) (by lia)
      rw [List.set_set, List.nil_append, show [wa, wb] ++ [w] = turnR (s.rs.getD i []) by rw [hrow]; rfl]
      have hwt : w = topW s.rs i := by unfold topW; rw [hrow]; rfl
      generalize hrs2 : s.rs.set i (turnR (s.rs.getD i [])) = rs2
      repeat' tb_rel
      refine V.indexS (j := w.1.val) (lowNames_at _) (no_before _) (by lia) ?_
      repeat' tb_rel
      refine WS.augL ?_
      repeat' tb_rel
      refine ⟨hd, i, heldD s.held, .int (s.held.getD i 0 : Nat), rfl, rfl, .appR (.appR (.appL .head)), held_at' hi6, by lia, ?_⟩
      repeat' tb_rel
      refine V.isub ?_
      rw [show ((s.held.getD i 0 : Nat) : Int) - 1 = ((s.held.getD i 0 - 1 : Nat) : Int) by lia]
      refine ⟨heldD s.held, _, .appR (.appR (.appL .head)), by rw [held_len]; exact hi6, ?_⟩
      rw [held_set]
      generalize hh1 : s.held.set i (s.held.getD i 0 - 1) = h1l
      have hh6 : h1l.length = 6 := by rw [← hh1]; simp [S.h6]
      have hfi : i % 6 = i := Nat.mod_eq_of_lt (by lia)
      generalize hki : ((⟨i % 6, Nat.mod_lt _ (by decide)⟩, decide (0 < h1l.getD i 0)) : Wd) = ki
      have hk1 : ki.1.val = i := by rw [← hki]; exact hfi
      have hk2 : ki.2 = decide (0 < h1l.getD i 0) := by rw [← hki]
      have hnm : (lowNames.map D.str)[(i : Int).toNat]? = some (.str (wd ki.1 false)) := by
        have := lowNames_at ki.1
        rw [hk1] at this
        simp [this]
      have hnj : (lowNames.map D.str)[(w.1.val : Int).toNat]? = some (.str (wd w.1 false)) := by simp [lowNames_at]
      refine seqK.next (WB.cons' (WS.setO (WE.name (by decide +kernel) (by tb_start) (WE.name (by decide +kernel) (by tb_start) (WE.merge (.str (ws ki)) ?_ ?_))) (fun _ => by kernel_rfl)))
      · repeat' tb_rel
        refine V.getM (x := .int (h1l.getD i 0 : Nat)) (.appR (.appR (.appL .head))) (by lia) (by lia) (held_at (by rw [hh6]; lia)) ?_
        repeat' tb_rel
        rw [show decide ((0 : Int) < (h1l.getD i 0 : Nat)) = decide (0 < h1l.getD i 0) by rw [Bool.eq_iff_iff, decide_eq_true_iff, decide_eq_true_iff]; lia]
        cases hu : decide (0 < h1l.getD i 0) with
        | true =>
          repeat' tb_rel
          refine V.getL (x := .str (wd ki.1 false)) (by lia) (by lia) hnm ?_
          repeat' tb_rel
          exact ⟨by show _ = D.str (wd ki.1 ki.2); rw [hk2, hu], rfl⟩
        | false =>
          repeat' tb_rel
          refine V.getL (x := .str (wd ki.1 false)) (by lia) (by lia) hnm ?_
          exact ⟨by show _ = D.str (wd ki.1 ki.2); rw [hk2, hu], rfl⟩
      refine ⟨234, bt, _, 147, rfl, .appL (.tail .head), chk2 (P := fun K => dunOk K 234 "__setitem__" 147) H rfl, WC.fst ((setitem2 (k := 0) (w := ki) (v := w) H (by lia) (by lia) ?_).lv (by lia))⟩
      generalize hl2 : putH s.last ki w = last2
      repeat' tb_rel
      refine WS.augL ?_
      repeat' tb_rel
      refine ⟨hd, w.1.val, heldD h1l, .int (h1l.getD w.1.val 0 : Nat), rfl, rfl, .appR (.appR (.appL .head)), held_at' (by rw [hh6]; exact w.1.isLt), by lia, ?_⟩
      repeat' tb_rel
      rw [show ((h1l.getD w.1.val 0 : Nat) : Int) + 1 = ((h1l.getD w.1.val 0 + 1 : Nat) : Int) by lia]
      refine ⟨heldD h1l, _, .appR (.appR (.appL .head)), by rw [held_len, hh6]; exact w.1.isLt, ?_⟩
      rw [held_set]
      generalize hh2 : h1l.set w.1.val (h1l.getD w.1.val 0 + 1) = h2l
      refine seqK.next (WB.cons' (WS.assign' (WE.tup (WEs.cons' (WE.merge (.int (if w.1.val = i then 0 else 1)) ?_ ?_)) (by kernel_rfl) (of_decide_eq_true (by kernel_rfl))) (by kernel_rfl) (fun _ => by kernel_rfl)))
      · repeat' tb_rel
        by_cases e1 : w.1.val = i
        · rw [show (((i : Nat) : Int) == ((w.1.val : Nat) : Int)) = true by rw [e1]; exact beq_self_eq_true _]
          repeat' tb_rel
          exact ⟨by rw [if_pos e1], rfl⟩
        · rw [show (((i : Nat) : Int) == ((w.1.val : Nat) : Int)) = false from beq_eq_false_iff_ne.mpr (by lia)]
          repeat' tb_rel
          exact ⟨by rw [if_neg e1], rfl⟩
      repeat' tb_rel
      refine V.mul ?_ ⟨by lia, by lia⟩
      repeat' tb_rel
      refine WE.dict1 ?_
      repeat' tb_rel
      refine V.getL (x := .str (wd ki.1 false)) (by lia) (by lia) hnm ?_
      refine ⟨_, rfl, ?_⟩
      repeat' tb_rel
      have he : D.tup [.int (if w.1.val = i then 0 else 1), .int 1, .int (i : Int), .int ((i : Int) * (i : Int)), .dict [(wd ki.1 false, .int 1)]] = (ent i w.1).d := by
        have e1 : lowNames.getD i (Str.ofString "") = wd ki.1 false := by
          have := lowNames_at ki.1
          rw [hk1] at this
          rw [List.getD_eq_getElem?_getD, this]; rfl
        unfold ent St4.d dD
        simp only [e1, List.map_cons, List.map_nil]
        rw [Int.natCast_mul]
      rw [he]
      refine WS.setD ?_ fun _ => by kernel_rfl
      repeat' tb_rel
      refine M.dget (ds := mapD St4.d s.prof) (.inr ⟨pd, rfl, .appR (.appL .head)⟩) ?_
      repeat' tb_rel
      refine V.getL (x := .str (wd w.1 false)) (by lia) (by have := w.1.isLt; omega) hnj ?_
      repeat' tb_rel
      refine WE.frzD (WE.dictM fun a => ⟨a, _, _, rfl, .head, ?_⟩)
      repeat' tb_rel
      refine V.dget (ds := mapD St4.d s.prof) (.inr ⟨pd, rfl, .appR (.appL .head)⟩) ?_
      have hdd : (atD (mapD St4.d s.prof) (wd w.1 false)).getD (D.tup [.int 0, .int 0, .int 0, .int 0, .dict []]) = ((atG s.prof (wd w.1 false)).getD z4).d := by
        rw [atD_mapD]
        cases atG s.prof (wd w.1 false) <;> rfl
      rw [hdd]
      repeat' tb_rel
      refine WC.lvT (addstats2 (k := 0) H (by lia) ?_ ?_) (by lia)
      · cases e2 : atG s.prof (wd w.1 false) with
        | none => simp [z4, ent]
        | some st =>
          obtain ⟨q', hq', e3⟩ := atG_mem e2
          have := hB.2 q' hq'
          rw [e3] at this
          simp [ent]; lia
      repeat' tb_rel
      refine V.getL (x := .str (wd w.1 false)) (by lia) (by have := w.1.isLt; omega) hnj ?_
      refine ⟨pd, wd w.1 false, mapD St4.d s.prof, _, rfl, rfl, .appR (.appL .head), by rw [mapD_len]; have := hB.1; lia, ?_⟩
      rw [putD_mapD]
      have hpr : putG s.prof (wd w.1 false) (((atG s.prof (wd w.1 false)).getD z4).add (ent i w.1)) = profP s.prof i w := rfl
      rw [hpr]
      have hstep : stepF i s = ⟨h2l, rs2, last2, profP s.prof i w⟩ := by
        unfold stepF
        dsimp only
        rw [← hwt, hrs2, hh1, hki, hl2, hh2]
      have S2 := S.step hi4
      have hl2' : last2.length ≤ m + 1 := by
        have := putH_len s.last ki w
        rw [hl2] at this; lia
      have hB2 : Bd (m + 1) (profP s.prof i w) := hB.step i w
      rw [hstep] at hrun S2
      have hl3 : (⟨h2l, rs2, last2, profP s.prof i w⟩ : R1).last.length ≤ m + 1 := hl2'
      have hB3 : Bd (m + 1) (⟨h2l, rs2, last2, profP s.prof i w⟩ : R1).prof := hB2
      show seqK _ _ _ _ _ _ _ (rMu bt htt pd hd ⟨h2l, rs2, last2, profP s.prof i w⟩ Ls [(262, .tab ds2)])
      generalize (⟨h2l, rs2, last2, profP s.prof i w⟩ : R1) = s2 at hrun S2 hl3 hB3 ⊢
      repeat' tb_rel
      refine WI.range (fun K hK => WE.bi (gl2 H rfl) rfl hK) (by kernel_rfl) ?_ (by kernel_rfl)
      refine WE.int ⟨4, rfl, by decide, by decide, ?_⟩
      refine WLC.pickN (fun (i : Nat) => D.int i) (fun (i : Nat) => D.int i) (fun i => decide (0 < s2.held.getD i 0)) (by kernel_rfl) (look_none_cap (by kernel_rfl)) _ _ (fun i hi => ?_) (fun i hi hq => ?_) ?_
      · have hi4 : i < 4 := by simpa using hi
        repeat' tb_rel
        refine V.getM (x := .int (s2.held.getD i 0 : Nat)) rHd (by lia) (by lia) (held_at (by rw [S2.h6]; lia)) ?_
        repeat' tb_rel
        exact ⟨by rw [Bool.eq_iff_iff, decide_eq_true_iff, decide_eq_true_iff]; lia, rfl⟩
      · repeat' tb_rel
        exact ⟨rfl, rfl⟩
      simp only [List.nil_append]
      rw [show ((List.range 4).filter fun i => decide (0 < s2.held.getD i 0)) = readyF s2.held from rfl]
      repeat' tb_rel
      exact ⟨n, Nat.lt_succ_self _, s2, m + 1, hrun, S2, by lia, hB3, hl3, by tb_start, by tb_start, by tb_start, by tb_start, by tb_start, ⟨look_set, by tb_start⟩, rfl⟩
end
noncomputable abbrev nmS (j : Fin 6) : D := .str (wd j false)
noncomputable def pD (r : List (Fin 6)) : D := .list (r.map nmS)
noncomputable def sentF (r : List (Fin 6)) (t : Nat) (j : Fin 6) : Nat := t / 3 * r.count j + (r.take (t % 3)).count j
theorem cnt_nm (r : List (Fin 6)) (j : Fin 6) : (r.map fun i => wd i false).countP (· == wd j false) = r.count j := by
  rw [List.countP_map, List.count]
  refine List.countP_congr fun i _ => ?_
  show (wd i false == wd j false) = true ↔ (i == j) = true
  rw [wd_inj, decide_eq_true_iff, beq_iff_eq]
theorem pD_eq (r : List (Fin 6)) : pD r = .list ((r.map fun i => wd i false).map .str) := by unfold pD; rw [List.map_map]; rfl
theorem fm_range {α : Type} : ∀ (xs : List α) (n : Nat), (List.range n).filterMap (xs[·]?) = xs.take n
  | xs, 0 => by simp
  | [], n + 1 => by simp
  | x :: xs, n + 1 => by
    rw [List.range_succ_eq_map, List.filterMap_cons]
    simp only [List.getElem?_cons_zero, List.filterMap_map, List.take_succ_cons]
    congr 1
    exact fm_range xs n
theorem pick_takeN {α : Type} (xs : List α) (p : Nat) : Mine.pick xs none (some (p : Int)) none = xs.take p := by
  unfold Mine.pick
  have e : sliceBounds none (some (p : Int)) none xs.length = (((0 : Nat) : Int), ((min p xs.length : Nat) : Int), 1) := by
    unfold sliceBounds
    simp
    lia
  rw [e]
  show (sliceRange ((0 : Nat) : Int) ((min p xs.length : Nat) : Int) 1).filterMap (xs[·]?) = _
  rw [sliceRange_one]
  simp only [Nat.sub_zero, Nat.zero_add, List.map_id']
  rw [fm_range, ← List.take_take, List.take_length]
theorem pick_dropN {α : Type} (xs : List α) (p : Nat) (hp : p ≤ xs.length) : Mine.pick xs (some (p : Int)) none none = xs.drop p := by
  unfold Mine.pick
  have e : sliceBounds (some (p : Int)) none none xs.length = (((p : Nat) : Int), ((xs.length : Nat) : Int), 1) := by
    unfold sliceBounds
    simp
    lia
  rw [e]
  show (sliceRange ((p : Nat) : Int) ((xs.length : Nat) : Int) 1).filterMap (xs[·]?) = _
  rw [sliceRange_one, List.filterMap_map]
  have := fm_range (xs.drop p) (xs.length - p)
  rw [List.take_of_length_le (by simp)] at this
  rw [← this]
  congr 1
  funext i
  simp
theorem ediv3 (t : Nat) : (t : Int).fdiv 3 = ((t / 3 : Nat) : Int) := fdivN t 3
theorem emod3 (t : Nat) : (t : Int).fmod 3 = ((t % 3 : Nat) : Int) := fmodN t 3
section
variable {G : Gr} {k : Nat} {φ φ' : Fs} {μ μ' : Mu} {K K' : D → Mu → Prop}
theorem sent1 (H : Is2 G) (hk : k < 38) {r : List (Fin 6)} {t : Nat} {j : Fin 6} (hr : r.length = 3) (ht : t ≤ 1000) (h : K (.int (sentF r t j : Nat)) μ) : WC G (k + 1) (.ref 291) [pD r, .int (t : Nat), nmS j] [] μ K := by
  refine WC.pos (by lia) (fd2_at H rfl) (fc2_at H ?_) (fun φ s vs I r => bind3 (x := Str.ofString "row") (y := Str.ofString "times") (z := Str.ofString "name") r fun v w u => rfl) ?_ ?_ ?_
  · kernel_rfl
  · exact of_decide_eq_true (by kernel_rfl)
  · kernel_rfl
  · dsimp only [bodyOf]
    repeat' tb_rel
    rw [pD_eq]
    repeat' tb_rel
    refine V.countS ?_
    rw [cnt_nm, ediv3]
    refine V.mul ?_ ⟨by have := List.count_le_length (a := j) (l := r); lia, by have := List.count_le_length (a := j) (l := r); lia⟩
    repeat' tb_rel
    rw [emod3]
    refine ⟨_, .inl rfl, by decide, by simp; lia, ?_⟩
    rw [pick_takeN, ← List.map_take, ← List.map_take]
    repeat' tb_rel
    refine V.countS ?_
    rw [cnt_nm]
    repeat' tb_rel
    rw [show ((t / 3 : Nat) : Int) * ((r.count j : Nat) : Int) + (((r.take (t % 3)).count j : Nat) : Int) = ((sentF r t j : Nat) : Int) by unfold sentF; rw [Int.natCast_add, Int.natCast_mul]]
    exact h
end
noncomputable def fiveF (r : List (Fin 6)) : List (Fin 6) := (List.replicate 5 r).flatten
noncomputable def sentL (rs : List (List (Fin 6))) (t : List Nat) : List (Fin 6) := (List.range 4).flatMap fun j => (fiveF (rs.getD j [])).take (t.getD j 0)
noncomputable def leavStep (rs : List (List (Fin 6))) (wk t : List Nat) : List Nat := (List.range 4).map fun i => wk.getD i 0 + (sentL rs t).count ⟨i % 6, Nat.mod_lt _ (by decide)⟩
theorem leav_at {rs : List (List (Fin 6))} {wk t : List Nat} {i : Nat} (hi : i < 4) : (leavStep rs wk t).getD i 0 = wk.getD i 0 + (sentL rs t).count ⟨i % 6, Nat.mod_lt _ (by decide)⟩ := by
  match i, hi with
  | 0, _ => rfl
  | 1, _ => rfl
  | 2, _ => rfl
  | 3, _ => rfl
noncomputable def leavF (rs : List (List (Fin 6))) (wk : List Nat) : Nat → List Nat → Option (List Nat)
  | 0, _ => none
  | n + 1, d => if leavStep rs wk d = d then some d else leavF rs wk n (leavStep rs wk d)
noncomputable def iL (l : List Nat) : List Int := l.map fun (n : Nat) => (n : Int)
theorem nD_iL (l : List Nat) : nD l = .list ((iL l).map .int) := by simp [nD, iL]
section
variable {G : Gr} {k : Nat} {φ φ' : Fs} {μ μ' : Mu} {K K' : D → Mu → Prop}
theorem leavings1 (H : Is2 G) (hk : k < 36) {rs : List (List (Fin 6))} {wk T : List Nat} (hrs : rs.length = 4) (hr3 : ∀ r ∈ rs, r.length = 3) (hwl : wk.length = 4) (hT : leavF rs wk 40 [0, 0, 0, 0] = some T) (h : K (nD T) μ) : WC G (k + 2) (.ref 296) [.list (rs.map pD), nD wk] [] μ K := by
  refine WC.pos (by lia) (fd2_at H rfl) (fc2_at H ?_) (fun φ s vs I r => bind2 (x := Str.ofString "rows") (y := Str.ofString "walkers") r fun v w => rfl) ?_ ?_ ?_
  · kernel_rfl
  · exact of_decide_eq_true (by kernel_rfl)
  · kernel_rfl
  · dsimp only [bodyOf]
    repeat' tb_rel
    refine WC.lvT (names2 (k := 0) H (by lia) ?_) (by lia)
    repeat' tb_rel
    iterate 4 (refine WE.unary ?_; repeat' tb_rel; refine V.neg ?_; repeat' tb_rel)
    have h00 : ¬ (iL [0, 0, 0, 0] = [-1, -1, -1, -1]) := by decide
    refine WS.while' (fun n σ μ' => Ex2 fun (tm : List Int) (d : List Nat) => A8 ((tm = iL d ∧ T = d) ∨ (¬ (iL d = tm) ∧ leavF rs wk n d = some T)) (d.length = 4) (σ.lookup (Str.ofString "names") = some (.list (lowNames.map .str))) (σ.lookup (Str.ofString "rows") = some (.list (rs.map pD))) (σ.lookup (Str.ofString "walkers") = some (nD wk)) (σ.lookup (Str.ofString "times") = some (.list (tm.map .int))) (σ.lookup (Str.ofString "due") = some (nD d)) (μ' = μ)) (fun n σ μ' => ?_) 40 ⟨[-1, -1, -1, -1], [0, 0, 0, 0], .inr ⟨h00, hT⟩, rfl, by tb_start, by tb_start, by tb_start, (show List.lookup (Str.ofString "times") _ = some (D.list [.int (-1), .int (-1), .int (-1), .int (-1)]) by tb_start), look_set, rfl⟩
    rintro ⟨tm, d, hor, hd4, h1, h2, h3, h4, h5, rfl⟩
    rw [nD_iL] at h5
    repeat' tb_rel
    refine V.neL ?_
    rcases hor with ⟨e1, e2⟩ | ⟨e1, e2⟩
    · subst e1 e2
      rw [show (!(iL T == iL T)) = false by simp]
      repeat' tb_rel
      rw [← nD_iL]
      exact h
    · rw [show (!(iL d == tm)) = true by simp [e1]]
      cases n with
      | zero => cases e2
      | succ n =>
      refine Mine.T.bool (ifT (WB.cons' (WS.assign' (WE.name (by decide +kernel) (by tb_start) ?_) (by kernel_rfl) (fun _ => by kernel_rfl))))
      refine seqK.next (WB.cons' (WS.assignL (WE.listcompO (Str.ofString "j") (Str.ofString "word") ?_ (by kernel_rfl) (by kernel_rfl) (by kernel_rfl) (by kernel_rfl) (by kernel_rfl) (by decide +kernel) (fun _ _ => by kernel_rfl) (fun _ _ => by kernel_rfl)) (by kernel_rfl) (by decide +kernel)))
      refine WI.range (fun K hK => WE.bi (gl2 H rfl) rfl hK) (by kernel_rfl) ?_ (by kernel_rfl)
      refine WE.int ⟨4, rfl, by decide, by decide, ?_⟩
      have hrow : ∀ j : Nat, j < 4 → (rs.map pD)[(j : Int).toNat]? = some (pD (rs.getD j [])) ∧ (rs.getD j []).length = 3 := fun j hj => by
        have hl : j < rs.length := by rw [hrs]; exact hj
        refine ⟨?_, ?_⟩
        · rw [Int.toNat_natCast, List.getElem?_map, List.getD_eq_getElem?_getD, List.getElem?_eq_getElem hl]; rfl
        · rw [List.getD_eq_getElem?_getD, List.getElem?_eq_getElem hl]; exact hr3 _ (List.getElem_mem hl)
      have h5l : ∀ r : List (Fin 6), r.length = 3 → (fiveF r).length = 15 := fun r hr => by simp [fiveF, hr]
      have htm : ∀ j : Nat, j < 4 → ((iL d).map D.int)[(j : Int).toNat]? = some (.int (d.getD j 0 : Nat)) := fun j hj => by
        have hl : j < d.length := by rw [hd4]; exact hj
        rw [Int.toNat_natCast, List.getElem?_map, iL, List.getElem?_map, List.getD_eq_getElem?_getD, List.getElem?_eq_getElem hl]; rfl
      refine WLo.mapN (fun (j : Nat) => D.int j) (fun j => (fiveF (rs.getD j [])).take (d.getD j 0)) nmS nmS (List.range 4) [] (fun j hj => ?_) (fun j hj => ?_) (fun j hj b hb => ?_) ?_
      · have hj4 : j < 4 := by simpa using hj
        repeat' tb_rel
        refine V.getL (x := pD (rs.getD j [])) (by lia) (by lia) (hrow j hj4).1 ?_
        repeat' tb_rel
        unfold pD
        refine V.mulL (n := 5) (by decide) (by rw [List.length_map, (hrow j hj4).2]; decide) ?_
        repeat' tb_rel
        refine V.getL (x := .int (d.getD j 0 : Nat)) (by lia) (by lia) (htm j hj4) ?_
        repeat' tb_rel
        have e5 : (List.replicate 5 ((rs.getD j []).map nmS)).flatten = (fiveF (rs.getD j [])).map nmS := by simp [fiveF, List.map_flatten]
        rw [e5]
        refine ⟨_, .inl rfl, by decide, by rw [List.length_map, h5l _ (hrow j hj4).2]; decide, ?_⟩
        rw [pick_takeN, ← List.map_take]
        exact ⟨rfl, rfl⟩
      · have hj4 : j < 4 := by simpa using hj
        have := h5l _ (hrow j hj4).2
        rw [List.length_take]; lia
      · repeat' tb_rel
        exact ⟨rfl, rfl⟩
      simp only [List.nil_append]
      rw [show (List.range 4).flatMap (fun j => (fiveF (rs.getD j [])).take (d.getD j 0)) = sentL rs d from rfl]
      repeat' tb_rel
      refine WI.range (fun K hK => WE.bi (gl2 H rfl) rfl hK) (by kernel_rfl) ?_ (by kernel_rfl)
      refine WE.int ⟨4, rfl, by decide, by decide, ?_⟩
      refine WLC.mapN (fun (i : Nat) => D.int i) (fun i => D.int ((leavStep rs wk d).getD i 0 : Nat)) (by kernel_rfl) (look_none_cap (by kernel_rfl)) _ _ (fun i hi => ?_) ?_
      · have hi4 : i < 4 := by simpa using hi
        have hfi : (⟨i % 6, Nat.mod_lt _ (by decide)⟩ : Fin 6).val = i := Nat.mod_eq_of_lt (by lia)
        generalize hj : (⟨i % 6, Nat.mod_lt _ (by decide)⟩ : Fin 6) = j at hfi
        repeat' tb_rel
        refine V.getL (x := .int (wk.getD i 0 : Nat)) (by lia) (by lia) (by
          have hl : i < wk.length := by rw [hwl]; exact hi4
          rw [Int.toNat_natCast, List.getElem?_map, List.getD_eq_getElem?_getD, List.getElem?_eq_getElem hl]; rfl) ?_
        repeat' tb_rel
        rw [show D.list (List.map nmS (sentL rs d)) = .list (((sentL rs d).map fun i => wd i false).map .str) from pD_eq _]
        repeat' tb_rel
        refine V.getL (x := .str (wd j false)) (by lia) (by lia) (by
          have := lowNames_at j
          rw [hfi] at this
          simp [this]) ?_
        repeat' tb_rel
        refine V.countS ?_
        rw [cnt_nm]
        repeat' tb_rel
        refine ⟨?_, rfl⟩
        rw [← Int.natCast_add]
        congr 2
        rw [leav_at hi4, hj]
      have hd4' : (leavStep rs wk d).length = 4 := by simp [leavStep]
      have hnd : (List.range 4).map (fun i => D.int ((leavStep rs wk d).getD i 0 : Nat)) = (leavStep rs wk d).map fun (n : Nat) => D.int n := by
        obtain ⟨a, b, c, e, h4⟩ := len4 _ hd4'
        rw [h4]; rfl
      simp only [List.nil_append]
      rw [hnd]
      repeat' tb_rel
      refine ⟨n, Nat.lt_succ_self _, iL d, leavStep rs wk d, ?_, hd4', by tb_start, by tb_start, by tb_start, by tb_start, look_set, rfl⟩
      unfold leavF at e2
      by_cases e3 : leavStep rs wk d = d
      · rw [if_pos e3] at e2
        cases e2
        exact .inl ⟨by rw [e3], e3.symm⟩
      · rw [if_neg e3] at e2
        refine .inr ⟨fun e4 => e3 ?_, e2⟩
        exact (List.map_inj_right (f := fun (n : Nat) => (n : Int)) (fun a b hab => Int.ofNat.inj hab)).mp e4
end
noncomputable def lw (i : Nat) : Str := lowNames.getD i (Str.ofString "")
theorem putD_fresh (l : List (Str × D)) (k : Str) (d : D) (h : k ∉ l.map (·.1)) : putD l k d = l ++ [(k, d)] := by
  unfold putD
  rw [if_neg]
  intro hh
  obtain ⟨p, hp, e⟩ := List.any_eq_true.mp hh
  exact h (List.mem_map.mpr ⟨p, hp, by simpa using e⟩)
theorem fold_put {α : Type} (key : α → Str) (g : α → D) : ∀ (l : List α) (acc : List (Str × D)), ((acc.map (·.1)) ++ l.map key).Nodup → l.foldl (fun acc a => putD acc (key a) (g a)) acc = acc ++ l.map fun a => (key a, g a)
  | [], acc, _ => by simp
  | a :: l, acc, h => by
    rw [List.foldl_cons, putD_fresh, fold_put key g l]
    · simp
    · simpa using h
    · rw [List.nodup_append] at h
      intro hk
      exact h.2.2 _ hk _ (by simp) rfl
theorem lw_inj : ∀ {i j : Nat}, i < 6 → j < 6 → lw i = lw j → i = j := fun {i j} hi hj e => by
  have : ∀ a b : Fin 6, lw a.val = lw b.val → a = b := by decide +kernel
  have := this ⟨i, hi⟩ ⟨j, hj⟩ e
  simpa using this
theorem map_lw_nodup {l : List Nat} (h : l.Nodup) (h5 : ∀ x ∈ l, x < 6) : (l.map lw).Nodup := by
  induction l with
  | nil => exact .nil
  | cons a l ih =>
    rw [List.nodup_cons] at h
    rw [List.map_cons, List.nodup_cons]
    refine ⟨fun hm => ?_, ih h.2 fun x hx => h5 x (.tail _ hx)⟩
    obtain ⟨b, hb, e⟩ := List.mem_map.mp hm
    exact h.1 (lw_inj (h5 b (.tail _ hb)) (h5 a (.head _)) e ▸ hb)
noncomputable def fi (n : Nat) : Fin 6 := ⟨n % 6, Nat.mod_lt _ (by decide)⟩
theorem lw_fi : ∀ {n : Nat}, n < 6 → lw n = wd (fi n) false := fun {n} h => by
  match n, h with
  | 0, _ => rfl
  | 1, _ => rfl
  | 2, _ => rfl
  | 3, _ => rfl
  | 4, _ => rfl
  | 5, _ => rfl
noncomputable def sv (rs : List (List (Fin 6))) (t : List Nat) (n i : Nat) : Nat := sentF (rs.getD i []) (t.getD i 0) (fi n)
noncomputable def toldP1 (rs : List (List (Fin 6))) (t : List Nat) (n : Nat) : St4 :=
  let rd := sv rs t n
  ⟨((List.range 4).map fun i => (rd i : Int)).sum - (((List.range 4).filter fun i => i == n).map fun i => (rd i : Int)).sum, ((List.range 4).map fun i => (rd i : Int)).sum, ((List.range 4).map fun i => ((i * rd i : Nat) : Int)).sum, ((List.range 4).map fun i => ((i * i * rd i : Nat) : Int)).sum,
    ((List.range 4).filter fun i => decide (0 < rd i)).map fun i => (lw i, (rd i : Int))⟩
noncomputable def hasN (rs : List (List (Fin 6))) (t : List Nat) (n : Nat) : Bool := decide (0 < ((List.range 4).map fun i => sv rs t n i).sum)
noncomputable def toldF1 (rs : List (List (Fin 6))) (t : List Nat) : Pf := ((List.range 6).filter (hasN rs t)).map fun n => (lw n, toldP1 rs t n)
section
variable {G : Gr} {k : Nat} {φ φ' : Fs} {μ μ' : Mu} {K K' : D → Mu → Prop}
theorem natsum : ∀ l : List Nat, (l.map fun (x : Nat) => (x : Int)).sum = ((l.sum : Nat) : Int)
  | [] => rfl
  | a :: l => by rw [List.map_cons, List.sum_cons, List.sum_cons, natsum l]; lia
theorem rd_at (f : Nat → Nat) {i : Nat} (hi : i < 4) : (((List.range 4).map f).map fun (x : Nat) => D.int (x : Int))[(i : Int).toNat]? = some (.int (f i : Nat)) := by
  simp [hi]
theorem name_at : ∀ {i : Nat}, i < 6 → (lowNames.map D.str)[(i : Int).toNat]? = some (.str (lw i)) := fun {i} hi => by
  match i, hi with
  | 0, _ => rfl
  | 1, _ => rfl
  | 2, _ => rfl
  | 3, _ => rfl
  | 4, _ => rfl
  | 5, _ => rfl
theorem lw_beq {i n : Nat} (hi : i < 6) (hn : n < 6) : (lw i == lw n) = (i == n) := by
  rw [Bool.eq_iff_iff, beq_iff_eq, beq_iff_eq]
  exact ⟨lw_inj hi hn, fun e => by rw [e]⟩
theorem arrivals1 (H : Is2 G) (hk : k < 20) {rs : List (List (Fin 6))} {t : List Nat} (hrs : rs.length = 4) (hr3 : ∀ r ∈ rs, r.length = 3) (ht4 : t.length = 4) (ht : ∀ i, t.getD i 0 ≤ 1000) (h : K (.dict (mapD St4.d (toldF1 rs t))) μ) : WC G (k + 2) (.ref 301) [.list (rs.map pD), nD t] [] μ K := by
  refine WC.pos (by lia) (fd2_at H rfl) (fc2_at H ?_) (fun φ s vs I r => bind2 (x := Str.ofString "rows") (y := Str.ofString "times") r fun v w => rfl) ?_ ?_ ?_
  · kernel_rfl
  · exact of_decide_eq_true (by kernel_rfl)
  · kernel_rfl
  · dsimp only [bodyOf]
    repeat' tb_rel
    refine WC.lvT (names2 (k := 0) H (by lia) ?_) (by lia)
    repeat' tb_rel
    refine WE.dictM fun a => ?_
    repeat' tb_rel
    refine WS.for (WI.of ?_) fun _ _ => by kernel_rfl
    repeat' tb_rel
    refine ⟨_, IterD.list _, ?_⟩
    show WLoop _ _ _ _ _ _ ((List.range 6).map fun i => D.str (lw i)) _ _
    refine WLoop.ind (fun (i : Nat) => D.str (lw i)) (fun as σ μ' => Ex1 fun J => A7 (as = List.range' J (6 - J)) (J ≤ 6) (σ.lookup (Str.ofString "rows") = some (.list (rs.map pD))) (σ.lookup (Str.ofString "times") = some (nD t)) (σ.lookup (Str.ofString "names") = some (.list (lowNames.map .str))) (σ.lookup (Str.ofString "told") = some (.loc a)) (μ' = (a, .dict (mapD St4.d (((List.range J).filter (hasN rs t)).map fun j => (lw j, toldP1 rs t j)))) :: μ)) ?_ ?_ (List.range 6) _ _ ⟨0, by decide, by decide, by tb_start, by tb_start, by tb_start, by tb_start, rfl⟩
    · rintro σ μ' ⟨J, e, hJ, h1, h2, h3, h4, rfl⟩
      have : J = 6 := by
        rcases Nat.lt_or_ge J 6 with h | h
        · have e' : 6 - J = (6 - J - 1) + 1 := by lia
          rw [e', List.range'_succ] at e; cases e
        · lia
      subst this
      simp only [List.nil_append]
      refine seqK.next (WB.cons' (WS.ret (WE.frzD ?_)))
      repeat' tb_rel
      refine ⟨a, _, _, rfl, .head, ?_⟩
      repeat' tb_rel
      exact h
    · rintro j as σ μ' ⟨J, e, hJ, h1, h2, h3, h4, rfl⟩
      have hJ6 : J < 6 := by
        rcases Nat.lt_or_ge J 6 with h | h
        · exact h
        · have e' : 6 - J = 0 := by lia
          rw [e'] at e; cases e
      have e' : 6 - J = (6 - (J + 1)) + 1 := by lia
      rw [e', List.range'_succ] at e
      injection e with hj has
      subst hj
      refine WA.name (by kernel_rfl) ?_
      have hrow : ∀ i : Nat, i < 4 → (rs.map pD)[(i : Int).toNat]? = some (pD (rs.getD i [])) ∧ (rs.getD i []).length = 3 := fun i hi => by
        have hl : i < rs.length := by rw [hrs]; exact hi
        refine ⟨?_, ?_⟩
        · rw [Int.toNat_natCast, List.getElem?_map, List.getD_eq_getElem?_getD, List.getElem?_eq_getElem hl]; rfl
        · rw [List.getD_eq_getElem?_getD, List.getElem?_eq_getElem hl]; exact hr3 _ (List.getElem_mem hl)
      refine WB.consM [(Str.ofString "names", .list (lowNames.map .str)), (Str.ofString "rows", .list (rs.map pD)), (Str.ofString "times", nD t), (Str.ofString "told", .loc a), (Str.ofString "name", .str (lw j)), (Str.ofString "sent", nD ((List.range 4).map fun i => sv rs t j i))] ?_ ?_
      · repeat' tb_rel
        refine WE.listcomp ?_ (by kernel_rfl) (by kernel_rfl) rfl (fun _ _ => by kernel_rfl)
        refine WI.range (fun K hK => WE.bi (gl2 H rfl) rfl hK) (by kernel_rfl) ?_ (by kernel_rfl)
        refine WE.int ⟨4, rfl, by decide, by decide, ?_⟩
        refine WLC.mapN (fun (i : Nat) => D.int i) (fun i => D.int ((sv rs t j i : Nat) : Int)) (by kernel_rfl) (look_none_cap (by kernel_rfl)) _ _ (fun i hi => ?_) ?_
        · have hi4 : i < 4 := by simpa using hi
          repeat' tb_rel
          refine V.getL (x := pD (rs.getD i [])) (by lia) (by lia) (hrow i hi4).1 ?_
          repeat' tb_rel
          refine V.getL (x := .int (t.getD i 0 : Nat)) (by lia) (by lia) (by
            have hl : i < t.length := by rw [ht4]; exact hi4
            rw [Int.toNat_natCast, List.getElem?_map, List.getD_eq_getElem?_getD, List.getElem?_eq_getElem hl]; rfl) ?_
          repeat' tb_rel
          rw [show D.str (lw j) = nmS (fi j) by rw [lw_fi hJ6]]
          refine WC.lvT (sent1 (k := 0) H (by lia) (hrow i hi4).2 (ht i) ?_) (by lia)
          exact ⟨rfl, rfl⟩
        simp only [List.nil_append]
        rw [show (List.range 4).map (fun i => D.int ((sv rs t j i : Nat) : Int)) = ((List.range 4).map fun i => sv rs t j i).map fun (n : Nat) => D.int n by rw [List.map_map]; rfl]
        refine ⟨trivial, .cons (by tb_start) (.cons (by tb_start) (.cons (by tb_start) (.cons (by tb_start) (.cons (by tb_start) (.cons look_set .nil))))), trivial⟩
      · generalize hrd : (fun i => sv rs t j i) = rd
        have htp : toldP1 rs t j = ⟨((List.range 4).map fun i => (rd i : Int)).sum - (((List.range 4).filter fun i => i == j).map fun i => (rd i : Int)).sum, ((List.range 4).map fun i => (rd i : Int)).sum, ((List.range 4).map fun i => ((i * rd i : Nat) : Int)).sum, ((List.range 4).map fun i => ((i * i * rd i : Nat) : Int)).sum, ((List.range 4).filter fun i => decide (0 < rd i)).map fun i => (lw i, (rd i : Int))⟩ := by
          rw [← hrd]; rfl
        have hsum : (((List.range 4).map rd).map fun (x : Nat) => (x : Int)).sum = ((List.range 4).map fun i => (rd i : Int)).sum := by rw [List.map_map]; rfl
        have hstep : ∀ b, hasN rs t j = b → ((List.range (j + 1)).filter (hasN rs t)).map (fun j => (lw j, toldP1 rs t j)) = ((List.range j).filter (hasN rs t)).map (fun j => (lw j, toldP1 rs t j)) ++ if b then [(lw j, toldP1 rs t j)] else [] := fun b hb => by
          rw [List.range_succ (n := j), List.filter_append, List.map_append]
          congr 1
          rw [List.filter_cons, List.filter_nil, hb]
          cases b <;> rfl
        have hhas : hasN rs t j = decide (0 < ((List.range 4).map rd).sum) := by unfold hasN; rw [hrd]
        unfold nD
        repeat' tb_rel
        refine V.sumF (f := fun (x : Nat) => (x : Int)) ?_
        repeat' tb_rel
        rw [natsum, show decide ((0 : Int) < (((List.range 4).map rd).sum : Nat)) = hasN rs t j by
          rw [hhas, Bool.eq_iff_iff, decide_eq_true_iff, decide_eq_true_iff]; lia]
        cases hpos : hasN rs t j with
        | false =>
          repeat' tb_rel
          refine ⟨j + 1, has, by lia, by tb_start, by tb_start, by tb_start, by tb_start, ?_⟩
          rw [hstep _ hpos]; simp
        | true =>
          have rdx : ∀ {i : Nat}, i < 4 → (((List.range 4).map rd).map fun (x : Nat) => D.int (x : Int))[(i : Int).toNat]? = some (.int (rd i : Nat)) := fun hi => rd_at rd hi
          repeat' tb_rel
          refine WE.listcomp ?_ (by kernel_rfl) (by kernel_rfl) rfl (fun _ _ => by kernel_rfl)
          refine WI.range (fun K hK => WE.bi (gl2 H rfl) rfl hK) (by kernel_rfl) ?_ (by kernel_rfl)
          refine WE.int ⟨4, rfl, by decide, by decide, ?_⟩
          refine WLC.pickN (fun (i : Nat) => D.int i) (fun i => D.int ((rd i : Nat) : Int)) (fun i => i == j) (by kernel_rfl) (look_none_cap (by kernel_rfl)) _ _ (fun i hi => ?_) (fun i hi hq => ?_) ?_
          · have hi4 : i < 4 := by simpa using hi
            repeat' tb_rel
            refine V.getL (x := .str (lw i)) (by lia) (by lia) (name_at (by lia)) ?_
            repeat' tb_rel
            exact ⟨lw_beq (by lia) hJ6, rfl⟩
          · have hi4 : i < 4 := by simpa using hi
            repeat' tb_rel
            refine V.getL (x := .int (rd i : Nat)) (by lia) (by lia) (rdx hi4) ?_
            exact ⟨rfl, rfl⟩
          simp only [List.nil_append]
          repeat' tb_rel
          refine V.sumF (f := fun i : Nat => ((rd i : Nat) : Int)) ?_
          repeat' tb_rel
          · refine WI.range (fun K hK => WE.bi (gl2 H rfl) rfl hK) (by kernel_rfl) ?_ (by kernel_rfl)
            refine WE.int ⟨4, rfl, by decide, by decide, ?_⟩
            refine WDC.pick (fun (i : Nat) => D.int i) lw (fun i => D.int ((rd i : Nat) : Int)) (fun i => decide (0 < rd i)) (by kernel_rfl) (look_none_cap (by kernel_rfl)) _ _ (fun i hi => ?_) (fun i hi hq => ?_) ?_
            · have hi4 : i < 4 := by simpa using hi
              repeat' tb_rel
              refine V.getL (x := .int (rd i : Nat)) (by lia) (by lia) (rdx hi4) ?_
              repeat' tb_rel
              exact ⟨by rw [Bool.eq_iff_iff, decide_eq_true_iff, decide_eq_true_iff]; lia, rfl⟩
            · have hi4 : i < 4 := by simpa using hi
              repeat' tb_rel
              refine V.getL (x := .str (lw i)) (by lia) (by lia) (name_at (by lia)) ?_
              refine ⟨rfl, ?_⟩
              repeat' tb_rel
              refine V.getL (x := .int (rd i : Nat)) (by lia) (by lia) (rdx hi4) ?_
              exact ⟨rfl, rfl⟩
            have hnd : ∀ q : Nat → Bool, (((List.range 4).filter q).map lw).Nodup := fun q => map_lw_nodup (List.Nodup.sublist List.filter_sublist List.nodup_range) fun x hx => by
              have := List.mem_range.mp (List.mem_filter.mp hx).1; lia
            rw [fold_put lw _ _ _ (by simpa using hnd _), List.nil_append]
            rw [show (((List.range 4).filter fun i => decide (0 < rd i)).map fun i => (lw i, D.int ((rd i : Nat) : Int))) = dD (toldP1 rs t j).cs by rw [htp]; simp [dD]]
            simp only [List.nil_append]
            repeat' tb_rel
            refine WE.listcomp ?_ (by kernel_rfl) (by kernel_rfl) rfl (fun _ _ => by kernel_rfl)
            refine WI.range (fun K hK => WE.bi (gl2 H rfl) rfl hK) (by kernel_rfl) ?_ (by kernel_rfl)
            refine WE.int ⟨4, rfl, by decide, by decide, ?_⟩
            refine WLC.mapN (fun (i : Nat) => D.int i) (fun i => D.int ((i * rd i : Nat) : Int)) (by kernel_rfl) (look_none_cap (by kernel_rfl)) _ _ (fun i hi => ?_) ?_
            · have hi4 : i < 4 := by simpa using hi
              repeat' tb_rel
              refine V.getL (x := .int (rd i : Nat)) (by lia) (by lia) (rdx hi4) ?_
              refine V.mul ?_ ⟨by lia, by lia⟩
              exact ⟨by rw [Int.natCast_mul], rfl⟩
            simp only [List.nil_append]
            repeat' tb_rel
            refine V.sumF (f := fun i : Nat => ((i * rd i : Nat) : Int)) ?_
            repeat' tb_rel
            refine WE.listcomp ?_ (by kernel_rfl) (by kernel_rfl) rfl (fun _ _ => by kernel_rfl)
            refine WI.range (fun K hK => WE.bi (gl2 H rfl) rfl hK) (by kernel_rfl) ?_ (by kernel_rfl)
            refine WE.int ⟨4, rfl, by decide, by decide, ?_⟩
            refine WLC.mapN (fun (i : Nat) => D.int i) (fun i => D.int ((i * i * rd i : Nat) : Int)) (by kernel_rfl) (look_none_cap (by kernel_rfl)) _ _ (fun i hi => ?_) ?_
            · have hi4 : i < 4 := by simpa using hi
              have hii : i * i ≤ 9 := Nat.mul_le_mul (by lia : i ≤ 3) (by lia : i ≤ 3)
              repeat' tb_rel
              refine V.mul ?_ ⟨by lia, by lia⟩
              repeat' tb_rel
              refine V.getL (x := .int (rd i : Nat)) (by lia) (by lia) (rdx hi4) ?_
              have e9 : (i : Int) * (i : Int) = ((i * i : Nat) : Int) := by rw [Int.natCast_mul]
              rw [e9]
              refine V.mul ?_ ⟨by lia, by lia⟩
              exact ⟨by rw [← Int.natCast_mul], rfl⟩
            simp only [List.nil_append]
            repeat' tb_rel
            refine V.sumF (f := fun i : Nat => ((i * i * rd i : Nat) : Int)) ?_
            repeat' tb_rel
            refine WS.setD ?_ fun _ => by kernel_rfl
            repeat' tb_rel
            refine V.sumF (f := fun (x : Nat) => (x : Int)) ?_
            repeat' tb_rel
            refine V.sumF (f := fun (x : Nat) => (x : Int)) ?_
            repeat' tb_rel
            refine V.addT (by simp) (by simp) (by simp) ?_
            repeat' tb_rel
            refine V.addT (by simp) (by simp) (by simp) ?_
            repeat' tb_rel
            refine ⟨a, lw j, _, _, rfl, rfl, .head, ?_, ?_⟩
            · rw [mapD_len, List.length_map]
              refine Nat.le_trans (List.length_filter_le _ _) ?_
              simp; lia
            repeat' tb_rel
            refine ⟨j + 1, has, by lia, by tb_start, by tb_start, by tb_start, by tb_start, ?_⟩
            rw [hstep _ hpos, putD_fresh]
            · rw [hsum]
              simp only [if_true, mapD, List.map_append, List.map_cons, List.map_nil]
              rw [show (toldP1 rs t j).d = .tup ([D.int (((List.range 4).map fun i => (rd i : Int)).sum - (((List.range 4).filter fun i => i == j).map fun i => (rd i : Int)).sum), D.int ((List.range 4).map fun i => (rd i : Int)).sum] ++ [D.int ((List.range 4).map fun i => ((i * rd i : Nat) : Int)).sum, D.int ((List.range 4).map fun i => ((i * i * rd i : Nat) : Int)).sum] ++ [D.dict (dD (toldP1 rs t j).cs)]) by rw [htp]; rfl]
            · simp only [mapD, List.map_map]
              intro hm
              obtain ⟨b, hb, e⟩ := List.mem_map.mp hm
              have hb' := List.mem_range.mp (List.mem_filter.mp hb).1
              have := lw_inj (by lia) (by lia) e
              lia
end
noncomputable def leadsOn (ps : Hs) : Prop := ∀ k (h : k < ps.length), ps[k].2.1.val = 4 ∨ ps[k].2.1.val = 5 ∨ ∃ q ∈ ps.drop (k + 1), q.1.1 = ps[k].2.1
section
variable {G : Gr} {k : Nat} {φ φ' : Fs} {μ μ' : Mu} {K K' : D → Mu → Prop}
theorem leadsOn1 (H : Is2 G) (hk : k < 38) {ps : Hs} (hl : ps.length ≤ 100) (hlo : leadsOn ps) (h : K (.bool true) μ) : WC G (k + 1) (.ref 306) [.list (hdr ps)] [] μ K := by
  refine WC.pos (by lia) (fd2_at H rfl) (fc2_at H ?_) (fun φ s vs I r => bind1 (x := Str.ofString "pairs") r fun v => rfl) ?_ ?_ ?_
  · kernel_rfl
  · exact of_decide_eq_true (by kernel_rfl)
  · kernel_rfl
  · dsimp only [bodyOf]
    refine WB.cons' (WS.for (WI.range (fun K hK => WE.bi (gl2 H rfl) rfl hK) (by kernel_rfl) ?_ (by kernel_rfl)) fun _ _ => by kernel_rfl)
    repeat' tb_rel
    have hl2 : (hdr ps).length = ps.length := by simp [hdr]
    refine V.len (by lia) ?_
    rw [hl2]
    refine ⟨ps.length, rfl, by lia, ?_⟩
    refine WLoop.ind (fun (i : Nat) => D.int i) (fun as σ μ' => A3 (∀ i ∈ as, i < ps.length) (σ.lookup (Str.ofString "pairs") = some (.list (hdr ps))) (μ' = μ)) ?_ ?_ (List.range ps.length) _ _ ⟨by simp, by tb_start, rfl⟩
    · rintro σ μ' ⟨_, h1, rfl⟩
      simp only [List.nil_append]
      repeat' tb_rel
      exact h
    · rintro j as σ μ' ⟨hi, h1, rfl⟩
      have hj := hi j (.head _)
      obtain ⟨⟨⟨a, ua⟩, ⟨b, ub⟩⟩, hp⟩ : ∃ p, ps[j]? = some p := ⟨ps[j], List.getElem?_eq_getElem hj⟩
      repeat' tb_rel
      have hat : (hdr ps)[(j : Int).toNat]? = some (.tup [.str (wd a ua), .str (wd b ub)]) := by
        rw [Int.toNat_natCast, hdr, List.getElem?_map, hp]; rfl
      refine V.getL (x := .tup [.str (wd a ua), .str (wd b ub)]) (by lia) (by lia) hat ?_
      repeat' tb_rel
      refine V.getT (x := .str (wd b ub)) (by decide) (by decide) rfl ?_
      repeat' tb_rel
      refine WE.listcomp ?_ (by kernel_rfl) (by kernel_rfl) rfl (fun _ _ => by kernel_rfl)
      refine WI.of (WE.slice ?_)
      repeat' tb_rel
      refine ⟨_, .inl rfl, by decide, by lia, _, IterD.list _, ?_, ?_⟩
      · refine Nat.le_trans (pick_len _ _ _ _) (by lia)
      rw [show (j : Int) + 1 = ((j + 1 : Nat) : Int) by lia, pick_dropN _ _ (by lia)]
      rw [show (hdr ps).drop (j + 1) = hdr (ps.drop (j + 1)) by simp [hdr]]
      refine WLC.mapT (names := [Str.ofString "name", Str.ofString "word"]) (fun p : Wd × Wd => [.str (ws p.1), .str (ws p.2)]) (fun p => D.str (wd p.1.1 false)) rfl (by kernel_rfl) (fun x hx => ?_) _ _ (fun _ _ => rfl) (fun p hp => ?_) ?_
      · simp only [List.mem_cons, List.not_mem_nil, or_false] at hx
        rcases hx with rfl | rfl <;> exact look_none_cap (by kernel_rfl)
      · repeat' tb_rel
        exact ⟨rfl, rfl⟩
      simp only [List.nil_append]
      refine V.addL (by simp; lia) ?_
      rw [show [D.str (Str.ofString "side"), D.str (Str.ofString "exit")] ++ (ps.drop (j + 1)).map (fun p => D.str (wd p.1.1 false)) = ((wd 4 false :: wd 5 false :: (ps.drop (j + 1)).map fun p => wd p.1.1 false).map .str) by rw [List.map_cons, List.map_cons, List.map_map]; rfl]
      refine V.notinLS ?_
      have hin : ((wd 4 false :: wd 5 false :: (ps.drop (j + 1)).map fun p => wd p.1.1 false).any (· == wd b false)) = true := by
        obtain ⟨hj2, hpe⟩ := List.getElem?_eq_some_iff.mp hp
        have h4 := hlo j hj
        rw [hpe] at h4
        rw [List.any_eq_true]
        rcases h4 with h4 | h4 | ⟨q, hq, h4⟩
        · exact ⟨_, .head _, by rw [wd_inj, decide_eq_true_iff]; exact Fin.ext h4.symm⟩
        · exact ⟨_, .tail _ (.head _), by rw [wd_inj, decide_eq_true_iff]; exact Fin.ext h4.symm⟩
        · exact ⟨_, .tail _ (.tail _ (List.mem_map.mpr ⟨q, hq, rfl⟩)), by rw [wd_inj, decide_eq_true_iff]; exact h4⟩
      rw [hin]
      repeat' tb_rel
      exact ⟨fun i h => hi i (.tail _ h), by tb_start, rfl⟩
end
noncomputable def plF (rs : List (List Wd)) : List (List (Fin 6)) := rs.map fun r => r.map (·.1)
noncomputable def sinkF (pl : List (List (Fin 6))) (t : List Nat) (j : Fin 6) : Nat := ((List.range 4).map fun i => sentF (pl.getD i []) (t.getD i 0) j).sum
noncomputable def turnL (r : List Wd) (t : Nat) : List Wd := r.drop (t % 3) ++ r.take (t % 3)
structure Told1 (rs : List (List Wd)) (wk t : List Nat) (s : R1) : Prop where
  r4 : rs.length = 4
  r3 : ∀ r ∈ rs, r.length = 3
  w4 : wk.length = 4
  t4 : t.length = 4
  tl : ∀ i, t.getD i 0 ≤ 1000
  held : s.held = [0, 0, 0, 0, sinkF (plF rs) t 4, sinkF (plF rs) t 5]
  sum : sinkF (plF rs) t 4 + sinkF (plF rs) t 5 = wk.sum
  s4 : s.rs.length = 4
  left : ∀ i, i < 4 → s.rs.getD i [] = turnL (rs.getD i []) (t.getD i 0)
  last : ∀ i, i < 4 → findH s.last (fi i) = if 0 < t.getD i 0 then (turnL (rs.getD i []) (t.getD i 0))[2]? else none
  ll : s.last.length ≤ 100
  prof : SameD 6 (.dict (mapD St4.d s.prof)) (.dict (mapD St4.d (toldF1 (plF rs) t)))
  pl : s.prof.length ≤ 100
  nd : ∀ p ∈ s.prof, atG s.prof p.1 = some p.2
  cnt : ∀ p ∈ s.prof, (p.2.cs.map (·.2)).sum = p.2.nc
  len : s.last.length = (t.filter fun n => decide (0 < n)).length
  lead : leadsOn s.last
section
variable {G : Gr} {k : Nat} {φ φ' : Fs} {μ μ' : Mu} {K K' : D → Mu → Prop}
theorem bind5 {s : Shared} {vs : List Value} {d e f g i : D} {fd : FuncData} {x y z t u : Str} (r : Rs G φ vs [d, e, f, g, i]) (h : ∀ v w a b c, bindArgs fd ⟨[v, w, a, b, c], []⟩ = pure [(x, v), (y, w), (z, a), (t, b), (u, c)]) : ∃ bs, BindsTo s fd ⟨vs, []⟩ bs ∧ Rkw G φ bs [(x, d), (y, e), (z, f), (t, g), (u, i)] := by
  obtain ⟨v, vs', rfl, r1, r'⟩ := Rs.cons_iff.mp r
  obtain ⟨w, vs2, rfl, r2, r''⟩ := Rs.cons_iff.mp r'
  obtain ⟨a, b, c, rfl, r3, r4, r5⟩ := rs3 r''
  exact ⟨_, .of_eq (h v w a b c), rfl, .cons r1 (.cons r2 (.cons r3 (.cons r4 (.cons r5 .nil))))⟩
theorem isTold1 (H : Is2 G) (hk : k < 16) {rs : List (List Wd)} {wk t : List Nat} {s : R1} {bt htt : Addr} (O : Told1 rs wk t s) (h : K (.bool true) (hcells bt htt s.last)) :
    WC G (k + 6) (.ref 311) [ranD bt s, .list (rs.map rD), .list ((plF rs).map pD), nD wk, nD t] [] (hcells bt htt s.last) K := by
  refine WC.pos (by lia) (fd2_at H rfl) (fc2_at H ?_) (fun φ s vs I r => bind5 (x := Str.ofString "ran") (y := Str.ofString "rows") (z := Str.ofString "plain") (t := Str.ofString "walkers") (u := Str.ofString "times") r fun v w u a b => rfl) ?_ ?_ ?_
  · kernel_rfl
  · exact of_decide_eq_true (by kernel_rfl)
  · kernel_rfl
  · dsimp only [bodyOf]
    repeat' tb_rel
    refine WC.lvT (names2 (k := 0) H (by lia) ?_) (by lia)
    refine seqK.next (WB.cons' (WS.assignT' ?_ (fun _ => by kernel_rfl) (fun _ => by kernel_rfl)))
    repeat' tb_rel
    unfold ranD
    refine WA.tup (names := [Str.ofString "held", Str.ofString "left", Str.ofString "profile", Str.ofString "last"]) rfl (by kernel_rfl) rfl ?_
    refine seqK.next (WB.cons' (WS.assignCC (Str.ofString "name") ?_ (by kernel_rfl) (by kernel_rfl) (by kernel_rfl) (by kernel_rfl) rfl (by kernel_rfl) (fun _ _ => by kernel_rfl)))
    refine WI.of ?_
    repeat' tb_rel
    have hpl4 : (plF rs).length = 4 := by simp [plF, O.r4]
    have hpl3 : ∀ r ∈ plF rs, r.length = 3 := fun r hr => by
      obtain ⟨q, hq, rfl⟩ := List.mem_map.mp hr
      rw [List.length_map]; exact O.r3 q hq
    have hrow : ∀ i : Nat, i < 4 → ((plF rs).map pD)[(i : Int).toNat]? = some (pD ((plF rs).getD i [])) ∧ ((plF rs).getD i []).length = 3 := fun i hi => by
      have hl : i < (plF rs).length := by rw [hpl4]; exact hi
      refine ⟨?_, ?_⟩
      · rw [Int.toNat_natCast, List.getElem?_map, List.getD_eq_getElem?_getD, List.getElem?_eq_getElem hl]; rfl
      · rw [List.getD_eq_getElem?_getD, List.getElem?_eq_getElem hl]; exact hpl3 _ (List.getElem_mem hl)
    have htm : ∀ i : Nat, i < 4 → (t.map fun (n : Nat) => D.int n)[(i : Int).toNat]? = some (.int (t.getD i 0 : Nat)) := fun i hi => by
      have hl : i < t.length := by rw [O.t4]; exact hi
      rw [Int.toNat_natCast, List.getElem?_map, List.getD_eq_getElem?_getD, List.getElem?_eq_getElem hl]; rfl
    refine ⟨_, IterD.list _, by decide, ?_⟩
    show WLCc _ _ _ _ _ _ _ (([4, 5] : List (Fin 6)).map nmS) _ _
    refine WLCc.mapN nmS (fun j => D.int ((sinkF (plF rs) t j : Nat) : Int)) [4, 5] [] (fun j hj => ?_) ?_
    · repeat' tb_rel
      refine WE.listcomp ?_ (by kernel_rfl) (by kernel_rfl) rfl (fun _ _ => by kernel_rfl)
      refine WI.range (fun K hK => WE.bi (gl2 H rfl) rfl hK) (by kernel_rfl) ?_ (by kernel_rfl)
      refine WE.int ⟨4, rfl, by decide, by decide, ?_⟩
      refine WLC.mapN (fun (i : Nat) => D.int i) (fun i => D.int ((sentF ((plF rs).getD i []) (t.getD i 0) j : Nat) : Int)) (by kernel_rfl) (look_none_cap (by kernel_rfl)) _ _ (fun i hi => ?_) ?_
      · have hi4 : i < 4 := by simpa using hi
        repeat' tb_rel
        refine V.getL (x := pD ((plF rs).getD i [])) (by lia) (by lia) (hrow i hi4).1 ?_
        repeat' tb_rel
        refine V.getL (x := .int (t.getD i 0 : Nat)) (by lia) (by lia) (htm i hi4) ?_
        repeat' tb_rel
        refine WC.lvT (sent1 (k := 0) H (by lia) (hrow i hi4).2 (O.tl i) ?_) (by lia)
        exact ⟨rfl, rfl⟩
      simp only [List.nil_append]
      repeat' tb_rel
      refine V.sumF (f := fun i : Nat => ((sentF ((plF rs).getD i []) (t.getD i 0) j : Nat) : Int)) ?_
      refine ⟨?_, rfl⟩
      unfold sinkF
      rw [← natsum, List.map_map]; rfl
    simp only [List.nil_append]
    refine seqK.next (WB.cons' (WS.ite ?_))
    repeat' tb_rel
    refine V.addL (by simp) ?_
    rw [show D.list ([D.int 0, D.int 0, D.int 0, D.int 0] ++ List.map (fun j => D.int ((sinkF (plF rs) t j : Nat) : Int)) [4, 5]) = .list ((iL s.held).map .int) by rw [O.held]; rfl, show D.list (heldD s.held) = .list ((iL s.held).map .int) by simp [heldD, iL]]
    refine V.neL ?_
    rw [show (!(iL s.held == iL s.held)) = false by simp]
    repeat' tb_rel
    refine V.sumF (f := fun j => ((sinkF (plF rs) t j : Nat) : Int)) ?_
    unfold nD
    repeat' tb_rel
    refine V.sumF (f := fun (x : Nat) => (x : Int)) ?_
    repeat' tb_rel
    rw [natsum, show ((([4, 5] : List (Fin 6)).map fun j => ((sinkF (plF rs) t j : Nat) : Int)).sum != ((wk.sum : Nat) : Int)) = false by rw [← O.sum]; simp]
    refine ifF (WB.nil (seqK.next (WB.weak (σ' := [(Str.ofString "rows", .list (rs.map rD)), (Str.ofString "times", .list (t.map fun (n : Nat) => .int n)), (Str.ofString "names", .list (lowNames.map .str)), (Str.ofString "left", leftD s.rs), (Str.ofString "last", .obj 234 bt), (Str.ofString "profile", .dict (mapD St4.d s.prof)), (Str.ofString "plain", .list ((plF rs).map pD))]) (SgLe.cons (by tb_start) (SgLe.cons (by tb_start) (SgLe.cons (by tb_start) (SgLe.cons (by tb_start) (SgLe.cons (by tb_start) (SgLe.cons (by tb_start) (SgLe.cons (by tb_start) SgLe.nil))))))) ?_)))
    refine WB.cons' (WS.for (WI.range (fun K hK => WE.bi (gl2 H rfl) rfl hK) (by kernel_rfl) ?_ (by kernel_rfl)) fun _ _ => by kernel_rfl)
    refine WE.int ⟨4, rfl, by decide, ?_⟩
    refine WLoop.ind (fun (i : Nat) => D.int i) (fun as σ μ' => A9 (∀ i ∈ as, i < 4) (σ.lookup (Str.ofString "rows") = some (.list (rs.map rD))) (σ.lookup (Str.ofString "times") = some (.list (t.map fun (n : Nat) => .int n))) (σ.lookup (Str.ofString "names") = some (.list (lowNames.map .str))) (σ.lookup (Str.ofString "left") = some (leftD s.rs)) (σ.lookup (Str.ofString "last") = some (.obj 234 bt)) (σ.lookup (Str.ofString "profile") = some (.dict (mapD St4.d s.prof))) (σ.lookup (Str.ofString "plain") = some (.list ((plF rs).map pD))) (μ' = hcells bt htt s.last)) ?_ ?_ (List.range 4) _ _ ⟨by simp, by tb_start, by tb_start, by tb_start, by tb_start, by tb_start, by tb_start, by tb_start, rfl⟩
    · rintro σ μ' ⟨_, h1, h2, h3, h4, h5, h6, h7, rfl⟩
      simp only [List.nil_append]
      repeat' tb_rel
      refine WC.lvT (k := k + 5) (j := 2) (arrivals1 (k := 0) (t := t) H (by lia) hpl4 hpl3 O.t4 O.tl ?_) (by lia)
      refine V.neDict (n := 5) (by decide) O.prof ?_
      repeat' tb_rel
      refine WE.listcomp ?_ (by kernel_rfl) (by kernel_rfl) rfl (fun _ _ => by kernel_rfl)
      refine WI.of ?_
      repeat' tb_rel
      have hpl := O.pl
      refine ⟨_, IterD.keys _, by rw [List.length_map, mapD_len]; lia, ?_⟩
      rw [show ((mapD St4.d s.prof).map fun p => D.str p.1) = s.prof.map fun p => D.str p.1 by unfold mapD; rw [List.map_map]; rfl]
      refine WLC.pickN (fun p : Str × St4 => D.str p.1) (fun p => D.str p.1) (fun _ => false) (by kernel_rfl) (look_none_cap (by kernel_rfl)) _ _ (fun p hp => ?_) (fun _ _ h => nomatch h) ?_
      · have hat : atD (mapD St4.d s.prof) p.1 = some p.2.d := by rw [atD_mapD, O.nd p hp]; rfl
        repeat' tb_rel
        refine V.getDi (.inl rfl) hat ?_
        repeat' tb_rel
        refine V.getT (x := .dict (dD p.2.cs)) (by lia) (by lia) rfl ?_
        repeat' tb_rel
        refine WC.lvT (countcalls2 (k := 0) H (by lia) ?_) (by lia)
        repeat' tb_rel
        refine V.getDi (.inl rfl) hat ?_
        repeat' tb_rel
        refine V.getT (x := .int p.2.nc) (by lia) (by lia) rfl ?_
        repeat' tb_rel
        rw [O.cnt p hp]
        exact ⟨by simp, rfl⟩
      rw [show ([] ++ (s.prof.filter fun _ => false).map fun p => D.str p.1) = ([] : List Int).map D.int by simp]
      simp only [List.nil_append]
      repeat' tb_rel
      refine V.neL (xs := []) (ys := []) ?_
      rw [show (!(([] : List Int) == [])) = false from rfl]
      repeat' tb_rel
      have hll := O.ll
      refine M.inst (.tail .head) rfl (chk2 (P := fun K => methOk K 234 (Str.ofString "items") 198) H rfl) ?_
      repeat' tb_rel
      refine WC.lvT (k := k + 5) (j := 1) (items2 (k := 0) H (by lia) (by lia) ?_) (by lia)
      repeat' tb_rel
      refine WE.and2 ?_
      repeat' tb_rel
      have hl2 : (hdr s.last).length = s.last.length := by simp [hdr]
      refine V.len (by lia) ?_
      repeat' tb_rel
      refine WE.listcomp ?_ (by kernel_rfl) (by kernel_rfl) rfl (fun _ _ => by kernel_rfl)
      refine WI.of ?_
      repeat' tb_rel
      refine ⟨_, IterD.list _, by rw [List.length_map, O.t4]; decide, ?_⟩
      refine WLC.pickN (fun (n : Nat) => D.int n) (fun (n : Nat) => D.int n) (fun n => decide (0 < n)) (by kernel_rfl) (look_none_cap (by kernel_rfl)) _ _ (fun n hn => ?_) (fun n hn hq => ?_) ?_
      · repeat' tb_rel
        exact ⟨by rw [Bool.eq_iff_iff, decide_eq_true_iff, decide_eq_true_iff]; lia, rfl⟩
      · repeat' tb_rel
        exact ⟨rfl, rfl⟩
      simp only [List.nil_append]
      repeat' tb_rel
      have htf : (t.filter fun n => decide (0 < n)).length ≤ 4 := by rw [← O.t4]; exact List.length_filter_le _ _
      refine V.len (by rw [List.length_map]; lia) ?_
      repeat' tb_rel
      rw [hl2, List.length_map, O.len, beq_self_eq_true]
      repeat' tb_rel
      refine WC.lvT (k := k + 5) (j := 1) (leadsOn1 (k := 0) H (by lia) O.ll O.lead ?_) (by lia)
      repeat' tb_rel
      exact h
    · rintro i as σ μ' ⟨hi, h1, h2, h3, h4, h5, h6, h7, rfl⟩
      have hi4 := hi i (.head _)
      have hrl : i < rs.length := by rw [O.r4]; exact hi4
      have hrw : (rs.map rD)[(i : Int).toNat]? = some (rD (rs.getD i [])) := by
        rw [Int.toNat_natCast, List.getElem?_map, List.getD_eq_getElem?_getD, List.getElem?_eq_getElem hrl]; rfl
      have hr3 : (rs.getD i []).length = 3 := by
        rw [List.getD_eq_getElem?_getD, List.getElem?_eq_getElem hrl]; exact O.r3 _ (List.getElem_mem hrl)
      repeat' tb_rel
      have hlt3 : t.getD i 0 % 3 < 3 := Nat.mod_lt _ (by decide)
      refine V.getL (x := rD (rs.getD i [])) (by lia) (by lia) hrw ?_
      repeat' tb_rel
      refine V.getL (x := .int (t.getD i 0 : Nat)) (by lia) (by lia) (htm i hi4) ?_
      repeat' tb_rel
      rw [emod3]
      refine ⟨_, .inl rfl, by decide, by rw [List.length_map, hr3]; decide, ?_⟩
      rw [pick_dropN _ _ (by rw [List.length_map, hr3]; lia)]
      repeat' tb_rel
      refine V.getL (x := rD (rs.getD i [])) (by lia) (by lia) hrw ?_
      repeat' tb_rel
      refine V.getL (x := .int (t.getD i 0 : Nat)) (by lia) (by lia) (htm i hi4) ?_
      repeat' tb_rel
      rw [emod3]
      refine ⟨_, .inl rfl, by decide, by rw [List.length_map, hr3]; decide, ?_⟩
      rw [pick_takeN]
      refine V.addL (by rw [List.length_drop, List.length_take, List.length_map, hr3]; lia) ?_
      rw [show ((rs.getD i []).map strW).drop (t.getD i 0 % 3) ++ ((rs.getD i []).map strW).take (t.getD i 0 % 3) = (turnL (rs.getD i []) (t.getD i 0)).map strW by unfold turnL; rw [List.map_append, List.map_drop, List.map_take]]
      have htl3 : (turnL (rs.getD i []) (t.getD i 0)).length = 3 := by unfold turnL; rw [List.length_append, List.length_drop, List.length_take, hr3]; lia
      have hleft := O.left i hi4
      have hlast := O.last i hi4
      generalize turnL (rs.getD i []) (t.getD i 0) = tw at htl3 hleft hlast ⊢
      have hlw : (s.rs.map fun r => D.list (r.map strW ++ [.str (Str.ofString "")]))[(i : Int).toNat]? = some (.list (tw.map strW ++ [.str (Str.ofString "")])) := by
        have hl : i < s.rs.length := by rw [O.s4]; exact hi4
        rw [List.getD_eq_getElem?_getD, List.getElem?_eq_getElem hl] at hleft
        rw [Int.toNat_natCast, List.getElem?_map, List.getElem?_eq_getElem hl, ← hleft]; rfl
      unfold leftD at h4
      repeat' tb_rel
      refine V.getL (x := .list (tw.map strW ++ [.str (Str.ofString "")])) (by lia) (by lia) hlw ?_
      repeat' tb_rel
      refine V.addL (by simp [htl3]) ?_
      refine V.neLP (n := 4) (by decide) (.list rfl fun j x y hx hy => ?_) ?_
      · rw [hx] at hy
        cases hy
        obtain ⟨z, rfl⟩ : ∃ z, x = D.str z := by
          have := List.mem_of_getElem? hx
          rcases List.mem_append.mp this with h | h
          · obtain ⟨w, _, rfl⟩ := List.mem_map.mp h; exact ⟨_, rfl⟩
          · exact ⟨_, List.mem_singleton.mp h⟩
        exact .str _ _
      obtain ⟨wx, wy, wz, rfl⟩ : ∃ a b c, tw = [a, b, c] := by
        match tw, htl3 with
        | [a, b, c], _ => exact ⟨a, b, c, rfl⟩
      generalize hwS : (if 0 < t.getD i 0 then ws wz else Str.ofString "none") = wS
      have hopt : optD (findH s.last (fi i)) (.str (Str.ofString "none")) = .str wS := by
        rw [hlast, ← hwS]
        split <;> rfl
      refine Mine.T.bool (ifF (WB.nil (seqK.next (WB.cons' (WS.assign' (WE.merge (.str wS) ?_ ?_) (by kernel_rfl) (fun _ => by kernel_rfl))))))
      · repeat' tb_rel
        refine V.getL (x := .int (t.getD i 0 : Nat)) (by lia) (by lia) (htm i hi4) ?_
        repeat' tb_rel
        rw [show decide ((0 : Int) < (t.getD i 0 : Nat)) = decide (0 < t.getD i 0) by rw [Bool.eq_iff_iff, decide_eq_true_iff, decide_eq_true_iff]; lia]
        by_cases h0 : 0 < t.getD i 0
        · rw [decide_eq_true h0]
          repeat' tb_rel
          refine V.getL (x := strW wz) (by lia) (by lia) rfl ?_
          exact ⟨by rw [← hwS, if_pos h0], rfl⟩
        · rw [decide_eq_false h0]
          repeat' tb_rel
          exact ⟨by rw [← hwS, if_neg h0], rfl⟩
      repeat' tb_rel
      have hnm : (lowNames.map D.str)[(i : Int).toNat]? = some (.str (wd (fi i) false)) := by rw [name_at (by lia), lw_fi (by lia)]
      refine M.inst (.tail .head) rfl (chk2 (P := fun K => methOk K 234 (Str.ofString "get") 181) H rfl) ?_
      repeat' tb_rel
      refine V.getL (x := .str (wd (fi i) false)) (by lia) (by lia) hnm ?_
      repeat' tb_rel
      refine WC.lvT (k := k + 5) (j := 2) (get3 (k := 0) (w := (fi i, false)) (d := .str (Str.ofString "none")) H (by lia) rfl ?_) (by lia)
      rw [hopt]
      repeat' tb_rel
      rw [show (!(wS == wS)) = false by simp]
      repeat' tb_rel
      refine M.inst (.tail .head) rfl (chk2 (P := fun K => methOk K 234 (Str.ofString "get") 181) H rfl) ?_
      repeat' tb_rel
      refine V.getL (x := .str (wd (fi i) false)) (by lia) (by lia) hnm ?_
      repeat' tb_rel
      refine WC.lvT (k := k + 5) (j := 2) (get3 (k := 0) (w := (fi i, true)) (d := .str (Str.ofString "none")) H (by lia) rfl ?_) (by lia)
      rw [hopt]
      repeat' tb_rel
      rw [show (!(wS == wS)) = false by simp]
      repeat' tb_rel
      exact ⟨fun j h => hi j (.tail _ h), by tb_start, by tb_start, by tb_start, (show List.lookup (Str.ofString "left") _ = some (D.list (s.rs.map fun r => D.list (r.map strW ++ [.str (Str.ofString "")]))) by tb_start), by tb_start, by tb_start, by tb_start, rfl⟩
end
noncomputable def rowW (N : Nat) : List Wd := (List.range 3).map (wordN N)
noncomputable def wkN (Ns : List Nat) : List Nat := [1, Ns.getD 1 0 / 300 % 2, Ns.getD 2 0 / 300 % 2, 0]
theorem rowD_eq (N : Nat) : rowD N = rD (rowW N) := by unfold rowD rD rowW; rw [List.map_map]; rfl
section
variable {G : Gr} {k : Nat} {φ φ' : Fs} {μ μ' : Mu} {K K' : D → Mu → Prop}
theorem law1 (H : Is2 G) (hk : k < 8) {ns : List Int} {Ns T : List Nat} {s1 s2 : R1} (hl : ns.length ≤ 63) (hNs : Ns = (List.range 4).map (numOf begun2 ns)) (hT : leavF (plF (Ns.map rowW)) (wkN Ns) 40 [0, 0, 0, 0] = some T)
    (h1 : runF false 40 ⟨wkN Ns ++ [0, 0], Ns.map rowW, [], []⟩ = some s1) (h2 : runF true 40 ⟨wkN Ns ++ [0, 0], Ns.map rowW, [], []⟩ = some s2) (O1 : Told1 (Ns.map rowW) (wkN Ns) T s1) (O2 : Told1 (Ns.map rowW) (wkN Ns) T s2) :
    WC G (k + 14) (.ref 316) [.list (ns.map .int)] [] [(262, .tab [])] fun d μ' => d = .bool true ∧ ∃ ds, μ' = [(262, .tab ds)] := by
  have hN4 : Ns.length = 4 := by rw [hNs]; simp
  refine WC.dropK ?_
  refine WC.pos (by lia) (fd2_at H rfl) (fc2_at H ?_) (fun φ s vs I r => bind1 (x := Str.ofString "script") r fun v => rfl) ?_ ?_ ?_
  · kernel_rfl
  · exact of_decide_eq_true (by kernel_rfl)
  · kernel_rfl
  · dsimp only [bodyOf]
    repeat' tb_rel
    refine WC.lvT (numbers2 (k := 0) H (by lia) hl ?_) (by lia)
    rw [show ((List.range 4).map fun i => D.int ((numOf begun2 ns i : Nat) : Int)) = Ns.map fun N => D.int ((N : Nat) : Int) by rw [hNs, List.map_map]; rfl]
    repeat' tb_rel
    have hat : ∀ i : Nat, i < 4 → ∀ {f : Nat → D}, (Ns.map f)[(i : Int).toNat]? = some (f (Ns.getD i 0)) := fun i hi f => by
      have hl : i < Ns.length := by rw [hN4]; exact hi
      rw [Int.toNat_natCast, List.getElem?_map, List.getD_eq_getElem?_getD, List.getElem?_eq_getElem hl]; rfl
    refine WE.listcomp ?_ (by kernel_rfl) (by kernel_rfl) rfl (fun _ _ => by kernel_rfl)
    refine WI.of ?_
    repeat' tb_rel
    refine ⟨_, IterD.list _, by rw [List.length_map, hN4]; decide, ?_⟩
    refine WLC.mapN (fun N : Nat => D.int (N : Int)) (fun N => rD (rowW N)) (by kernel_rfl) (look_none_cap (by kernel_rfl)) _ _ (fun N _ => ?_) ?_
    · repeat' tb_rel
      refine WC.lvT (words1 (k := 0) H (by lia) ?_) (by lia)
      exact ⟨rowD_eq N, rfl⟩
    simp only [List.nil_append]
    repeat' tb_rel
    refine WI.range (fun K hK => WE.bi (gl2 H rfl) rfl hK) (by kernel_rfl) ?_ (by kernel_rfl)
    refine WE.int ⟨4, rfl, by decide, by decide, ?_⟩
    refine WLC.mapN (fun (i : Nat) => D.int i) (fun i => D.str (textN (Ns.getD i 0) 3)) (by kernel_rfl) (look_none_cap (by kernel_rfl)) _ _ (fun i hi => ?_) ?_
    · have hi4 : i < 4 := by simpa using hi
      repeat' tb_rel
      refine V.getL (x := rD (rowW (Ns.getD i 0))) (by lia) (by lia) (hat i hi4 (f := fun N => rD (rowW N))) ?_
      repeat' tb_rel
      refine V.getL (x := .int (Ns.getD i 0 : Nat)) (by lia) (by lia) (hat i hi4 (f := fun N => D.int (N : Int))) ?_
      repeat' tb_rel
      rw [← rowD_eq]
      refine WC.lvT (text1 (k := 0) H (by lia) ?_) (by lia)
      exact ⟨rfl, rfl⟩
    simp only [List.nil_append]
    refine seqK.next (WB.cons' (WS.for (WI.range (fun K hK => WE.bi (gl2 H rfl) rfl hK) (by kernel_rfl) ?_ (by kernel_rfl)) fun _ _ => by kernel_rfl))
    refine WE.int ⟨4, rfl, by decide, ?_⟩
    refine WLoop.ind (fun (i : Nat) => D.int i) (fun as σ μ' => Ex1 fun ds' => A6 (∀ i ∈ as, i < 4) (σ.lookup (Str.ofString "numbers") = some (.list (Ns.map fun N => .int (N : Nat)))) (σ.lookup (Str.ofString "rows") = some (.list (Ns.map fun N => rD (rowW N)))) (σ.lookup (Str.ofString "texts") = some (.list ((List.range 4).map fun i => .str (textN (Ns.getD i 0) 3)))) (TabOk lamPos2 lamQual2 ds') (μ' = [(262, .tab ds')])) ?_ ?_ (List.range 4) _ _ ⟨[], by simp, by tb_start, by tb_start, by tb_start, .inl rfl, rfl⟩
    · rintro σ μ' ⟨ds', _, h3, h4, h5, ht, rfl⟩
      simp only [List.nil_append]
      refine seqK.next (WB.weak (σ' := [(Str.ofString "numbers", .list (Ns.map fun N => .int (N : Nat))), (Str.ofString "rows", .list (Ns.map fun N => rD (rowW N)))]) (SgLe.cons h3 (SgLe.cons h4 SgLe.nil)) ?_)
      repeat' tb_rel
      refine WE.listcomp ?_ (by kernel_rfl) (by kernel_rfl) rfl (fun _ _ => by kernel_rfl)
      refine WI.of (WE.slice ?_)
      repeat' tb_rel
      refine ⟨_, .inl rfl, by decide, by rw [List.length_map, hN4]; decide, _, IterD.list _, ?_, ?_⟩
      · refine Nat.le_trans (pick_len _ _ _ _) (by rw [List.length_map, hN4]; decide)
      rw [pick_map]
      refine WLC.mapN (fun N : Nat => D.int (N : Int)) (fun N => D.int ((N / 300 % 2 : Nat) : Int)) (by kernel_rfl) (look_none_cap (by kernel_rfl)) _ _ (fun N _ => ?_) ?_
      · repeat' tb_rel
        refine ⟨congrArg D.int ?_, rfl⟩
        rw [Int.fdiv_eq_ediv_of_nonneg _ (by decide), Int.fmod_eq_emod_of_nonneg _ (by decide)]
        lia
      simp only [List.nil_append]
      have hcut : Mine.pick Ns (some 1) (some 3) none = [Ns.getD 1 0, Ns.getD 2 0] := by
        match Ns, hN4 with
        | [a, b, c, d], _ => rfl
      rw [hcut]
      refine V.addL (by simp) ?_
      repeat' tb_rel
      refine V.addL (by simp) ?_
      rw [show D.list ([D.int 1] ++ List.map (fun N => D.int ((N / 300 % 2 : Nat) : Int)) [Ns.getD 1 0, Ns.getD 2 0] ++ [D.int 0]) = nD (wkN Ns) from rfl]
      repeat' tb_rel
      refine WI.of ?_
      repeat' tb_rel
      refine ⟨_, IterD.list _, by rw [List.length_map, hN4]; decide, ?_⟩
      refine WLC.mapN (fun N => rD (rowW N)) (fun N => pD ((rowW N).map (·.1))) (by kernel_rfl) (look_none_cap (by kernel_rfl)) _ _ (fun N _ => ?_) ?_
      · repeat' tb_rel
        refine WE.listcomp ?_ (by kernel_rfl) (by kernel_rfl) rfl (fun _ _ => by kernel_rfl)
        refine WI.of ?_
        repeat' tb_rel
        refine ⟨_, IterD.list _, by simp [rowW], ?_⟩
        refine WLC.mapN (fun w : Wd => D.str (ws w)) (fun w => nmS w.1) (by kernel_rfl) (look_none_cap (by kernel_rfl)) _ _ (fun w _ => ?_) ?_
        · repeat' tb_rel
          exact ⟨rfl, rfl⟩
        simp only [List.nil_append]
        refine ⟨?_, trivial⟩
        unfold pD
        rw [List.map_map]; rfl
      simp only [List.nil_append]
      repeat' tb_rel
      rw [show D.list (Ns.map fun N => pD ((rowW N).map (·.1))) = .list ((plF (Ns.map rowW)).map pD) by unfold plF; rw [List.map_map, List.map_map]; rfl, show D.list (Ns.map fun N => rD (rowW N)) = .list ((Ns.map rowW).map rD) by rw [List.map_map]; rfl]
      refine WC.lvT (leavings1 (k := 0) H (by lia) (by simp [plF, hN4]) (fun r hr => ?_) (by rfl) hT ?_) (by lia)
      · obtain ⟨q, hq, rfl⟩ := List.mem_map.mp hr
        obtain ⟨N, _, rfl⟩ := List.mem_map.mp hq
        simp [rowW]
      repeat' tb_rel
      have hw4 : (Ns.map rowW).length = 4 := by rw [List.length_map, hN4]
      have hr3 : ∀ r ∈ Ns.map rowW, r.length = 3 := fun r hr => by
        obtain ⟨N, _, rfl⟩ := List.mem_map.mp hr
        simp [rowW]
      refine WC.lvT (run1 (k := 0) (e := false) H (by lia) hw4 hr3 rfl ht h1 fun bt1 ht1 ds1 htk1 => ?_) (by lia)
      repeat' tb_rel
      refine WE.unary ?_
      repeat' tb_rel
      refine V.neg ?_
      repeat' tb_rel
      refine WC.lvT (WC.snd (A := hcells bt1 ht1 s1.last) (run1 (k := 0) (e := true) H (by lia) hw4 hr3 rfl htk1 h2 fun bt2 ht2 ds2 htk2 => ?_)) (by lia)
      repeat' tb_rel
      refine WE.and2 ?_
      repeat' tb_rel
      refine WC.lvT (WC.fst (isTold1 (k := 0) H (by lia) O1 ?_)) (by lia)
      repeat' tb_rel
      refine WC.lvT (WC.snd (A := hcells bt1 ht1 s1.last) (WC.fst (isTold1 (k := 0) H (by lia) O2 ?_))) (by lia)
      repeat' tb_rel
      exact ⟨hcells bt1 ht1 s1.last ++ hcells bt2 ht2 s2.last, [(262, .tab ds2)], by rw [List.append_assoc], rfl, _, rfl⟩
    · rintro i as σ μ' ⟨ds', hi, h3, h4, h5, ht, rfl⟩
      have hi4 := hi i (.head _)
      have htx : ((List.range 4).map fun i => D.str (textN (Ns.getD i 0) 3))[(i : Int).toNat]? = some (.str (textN (Ns.getD i 0) 3)) := by
        simp [hi4]
      repeat' tb_rel
      refine V.getL (x := .str (textN (Ns.getD i 0) 3)) (by lia) (by lia) htx ?_
      repeat' tb_rel
      refine WC.lvT (read1 (k := 0) H (by lia) ht fun ds2 ht2 => ?_) (by lia)
      repeat' tb_rel
      refine V.getL (x := rD (rowW (Ns.getD i 0))) (by lia) (by lia) (hat i hi4 (f := fun N => rD (rowW N))) ?_
      repeat' tb_rel
      refine V.addL (by simp [rowW]) ?_
      repeat' tb_rel
      refine V.getL (x := .str (textN (Ns.getD i 0) 3)) (by lia) (by lia) htx ?_
      repeat' tb_rel
      refine M.scount ?_
      repeat' tb_rel
      refine V.scount ?_
      rw [occ_nl]
      repeat' tb_rel
      have e1 : (List.range 5).map (fun j => D.str (tokN (Ns.getD i 0) j)) = (rowW (Ns.getD i 0)).map strW ++ [.str (Str.ofString ""), .str (Str.ofString "")] := rfl
      rw [text_nl]
      unfold readD
      rw [e1]
      refine V.neT (n := 5) rfl (by decide) (fun j x y hx hy => ?_) ?_
      · rw [hx] at hy
        cases hy
        match j, hx with
        | 0, hx =>
          cases hx
          refine .plain (.list rfl fun m x y hx hy => ?_)
          rw [hx] at hy
          cases hy
          obtain ⟨z, rfl⟩ : ∃ z, x = D.str z := by
            have := List.mem_of_getElem? hx
            rcases List.mem_append.mp this with h | h
            · obtain ⟨w, _, rfl⟩ := List.mem_map.mp h; exact ⟨_, rfl⟩
            · simp only [List.mem_cons, List.not_mem_nil, or_false] at h
              rcases h with h | h <;> exact ⟨_, h⟩
          exact .str _ _
        | 1, hx => cases hx; exact .plain (.int _ _)
        | j + 2, hx => cases hx
      repeat' tb_rel
      exact ⟨ds2, fun j h => hi j (.tail _ h), by tb_start, by tb_start, by tb_start, ht2, rfl⟩
end
theorem atG_mem_nodup {α : Type} : ∀ {l : List (Str × α)} {p : Str × α}, (l.map (·.1)).Nodup → p ∈ l → atG l p.1 = some p.2
  | q :: l, p, hn, hp => by
    rw [List.map_cons, List.nodup_cons] at hn
    unfold atG
    rw [List.find?_cons]
    rcases List.mem_cons.mp hp with rfl | hp
    · simp
    · have : q.1 ≠ p.1 := fun e => hn.1 (e ▸ List.mem_map_of_mem (f := (·.1)) hp)
      simp only [this, decide_false]
      exact atG_mem_nodup hn.2 hp
noncomputable def tot (c : Nat → Nat → Nat) (j : Nat) : Nat := c j 0 + c j 1 + c j 2 + c j 3
theorem lw_wd (j : Fin 6) : wd j false = lw j.val := by
  have : ∀ j : Fin 6, wd j false = lw j.val := by decide +kernel
  exact this j
structure StOk (c : Nat → Nat → Nat) (j : Nat) (st : St4) : Prop where
  cc : st.cc = ((((List.range 4).filter fun i => !(i == j)).map fun i => (c j i : Int)).sum)
  nc : st.nc = ((List.range 4).map fun i => (c j i : Int)).sum
  tt : st.tt = ((List.range 4).map fun i => ((i * c j i : Nat) : Int)).sum
  ct : st.ct = ((List.range 4).map fun i => ((i * i * c j i : Nat) : Int)).sum
  nd : (st.cs.map (·.1)).Nodup
  ks : ∀ q ∈ st.cs, ∃ i, i < 4 ∧ q.1 = lw i ∧ 0 < c j i
  as : ∀ i, i < 4 → 0 < c j i → atI st.cs (lw i) = some (c j i : Int)
structure ProfOk (c : Nat → Nat → Nat) (prof : Pf) : Prop where
  nd : (prof.map (·.1)).Nodup
  ks : ∀ p ∈ prof, ∃ j, j < 6 ∧ p.1 = lw j ∧ 0 < tot c j ∧ StOk c j p.2
  as : ∀ j, j < 6 → 0 < tot c j → ∃ st, atG prof (lw j) = some st
theorem atG_some_mem {α : Type} {l : List (Str × α)} {k : Str} {v : α} (h : atG l k = some v) : (k, v) ∈ l := by
  unfold atG at h
  cases e : l.find? fun kv => decide (kv.1 = k) with
  | none => rw [e] at h; cases h
  | some p =>
    rw [e] at h
    have h1 := List.mem_of_find?_eq_some e
    have h2 := List.find?_some e
    simp at h h2
    subst h h2
    exact h1
theorem atG_put {α : Type} (l : List (Str × α)) (k x : Str) (v : α) : atG (putG l k v) x = if x = k then some v else atG l x := by
  unfold putG
  by_cases hm : (l.any fun kv => decide (kv.1 = k)) = true
  · rw [if_pos hm]
    unfold atG
    rw [List.find?_map]
    by_cases hx : x = k
    · subst hx
      rw [if_pos rfl]
      have e : ((fun kv : Str × α => decide (kv.1 = x)) ∘ fun kv => if kv.1 = x then (kv.1, v) else kv) = fun kv => decide (kv.1 = x) := by
        funext kv
        show decide ((if kv.1 = x then (kv.1, v) else kv).1 = x) = _
        by_cases h : kv.1 = x <;> simp [h]
      rw [e]
      cases e2 : l.find? fun kv => decide (kv.1 = x) with
      | none =>
        exfalso
        obtain ⟨p, hp, hp2⟩ := List.any_eq_true.mp hm
        have := List.find?_eq_none.mp e2 p hp
        exact this hp2
      | some p =>
        have := List.find?_some e2
        simp at this
        simp [this]
    · rw [if_neg hx]
      have e : ((fun kv : Str × α => decide (kv.1 = x)) ∘ fun kv => if kv.1 = k then (kv.1, v) else kv) = fun kv => decide (kv.1 = x) := by
        funext kv
        show decide ((if kv.1 = k then (kv.1, v) else kv).1 = x) = _
        by_cases h : kv.1 = k <;> simp [h]
      rw [e]
      cases e2 : l.find? fun kv => decide (kv.1 = x) with
      | none => rfl
      | some p =>
        have := List.find?_some e2
        simp at this
        have hk : ¬ p.1 = k := fun h => hx (this ▸ h)
        simp [hk]
  · rw [if_neg hm]
    unfold atG
    rw [List.find?_append]
    by_cases hx : x = k
    · subst hx
      rw [if_pos rfl]
      have : l.find? (fun kv => decide (kv.1 = x)) = none := by
        rw [List.find?_eq_none]
        intro p hp h
        exact hm (List.any_eq_true.mpr ⟨p, hp, h⟩)
      rw [this]; simp
    · rw [if_neg hx]
      cases e2 : l.find? fun kv => decide (kv.1 = x) with
      | none => simp [Ne.symm hx]
      | some p => rfl
theorem putG_nodup {α : Type} {l : List (Str × α)} {k : Str} {v : α} (h : (l.map (·.1)).Nodup) : ((putG l k v).map (·.1)).Nodup := by
  unfold putG
  by_cases hm : (l.any fun kv => decide (kv.1 = k)) = true
  · rw [if_pos hm, List.map_map]
    have : ((fun p : Str × α => p.1) ∘ fun kv => if kv.1 = k then (kv.1, v) else kv) = fun p => p.1 := by
      funext kv
      show (if kv.1 = k then (kv.1, v) else kv).1 = _
      split <;> rfl
    rw [this]; exact h
  · rw [if_neg hm, List.map_append, List.nodup_append]
    refine ⟨h, by simp, fun a ha b hb e => hm ?_⟩
    simp at hb
    subst hb
    obtain ⟨p, hp, e2⟩ := List.mem_map.mp ha
    exact List.any_eq_true.mpr ⟨p, hp, by simp [e2, e]⟩
theorem atI_eq (l : Ci) (k : Str) : atI l k = atG l k := rfl
theorem copyI_id {l : Ci} (h : (l.map (·.1)).Nodup) : copyI l = l := by
  have : ∀ (l acc : Ci), ((acc ++ l).map (·.1)).Nodup → l.foldl (fun acc p => putI acc p.1 p.2) acc = acc ++ l := by
    intro l
    induction l with
    | nil => intro acc _; simp
    | cons p l ih =>
      intro acc hn
      rw [List.foldl_cons]
      have hf : putI acc p.1 p.2 = acc ++ [p] := by
        unfold putI
        rw [if_neg]
        intro ha
        obtain ⟨q, hq, e⟩ := List.any_eq_true.mp ha
        rw [List.map_append, List.nodup_append] at hn
        exact hn.2.2 q.1 (List.mem_map_of_mem (f := (·.1)) hq) p.1 (by simp) (by simpa using e)
      rw [hf, ih]
      · simp
      · simpa using hn
  have := this l [] (by simpa using h)
  unfold copyI
  rw [this]; rfl
theorem sum4 {f g : Nat → Int} {p : Nat} {d : Int} (hp : p < 4) (h : ∀ i, i < 4 → i ≠ p → f i = g i) (hd : f p = g p + d) : ((List.range 4).map f).sum = ((List.range 4).map g).sum + d := by
  have e : ∀ k : Nat → Int, ((List.range 4).map k).sum = k 0 + (k 1 + (k 2 + (k 3 + 0))) := fun k => by simp [List.range_succ_eq_map]
  rw [e, e]
  match p, hp with
  | 0, _ => have := h 1 (by decide) (by decide); have := h 2 (by decide) (by decide); have := h 3 (by decide) (by decide); lia
  | 1, _ => have := h 0 (by decide) (by decide); have := h 2 (by decide) (by decide); have := h 3 (by decide) (by decide); lia
  | 2, _ => have := h 0 (by decide) (by decide); have := h 1 (by decide) (by decide); have := h 3 (by decide) (by decide); lia
  | 3, _ => have := h 0 (by decide) (by decide); have := h 1 (by decide) (by decide); have := h 2 (by decide) (by decide); lia
theorem sumF4 (q : Nat → Bool) (f : Nat → Int) : (((List.range 4).filter q).map f).sum = ((List.range 4).map fun i => if q i then f i else 0).sum := by
  have : ∀ l : List Nat, ((l.filter q).map f).sum = (l.map fun i => if q i then f i else 0).sum := by
    intro l
    induction l with
    | nil => rfl
    | cons a l ih =>
      rw [List.filter_cons]
      cases h : q a with
      | true => simp [h, ih]
      | false => simp [h, ih]
  exact this _
theorem StOk.congr {c c' : Nat → Nat → Nat} {j : Nat} {st : St4} (h : StOk c j st) (e : ∀ i, c' j i = c j i) : StOk c' j st := by
  have : c' j = c j := funext e
  obtain ⟨h1, h2, h3, h4, h5, h6, h7⟩ := h
  exact ⟨by rw [this]; exact h1, by rw [this]; exact h2, by rw [this]; exact h3, by rw [this]; exact h4, h5, by rw [this]; exact h6, by rw [this]; exact h7⟩
theorem StOk.zero {c : Nat → Nat → Nat} {j : Nat} (h : ∀ i, i < 4 → c j i = 0) : StOk c j z4 := by
  have e : ∀ k : Nat → Int, ((List.range 4).map k).sum = k 0 + (k 1 + (k 2 + (k 3 + 0))) := fun k => by simp [List.range_succ_eq_map]
  have h0 := h 0 (by decide); have h1 := h 1 (by decide); have h2 := h 2 (by decide); have h3 := h 3 (by decide)
  refine ⟨?_, ?_, ?_, ?_, .nil, (fun _ h => nomatch h), fun i hi hc => ?_⟩
  · rw [sumF4, e, h0, h1, h2, h3]; simp [z4]
  · rw [e, h0, h1, h2, h3]; rfl
  · rw [e, h0, h1, h2, h3]; rfl
  · rw [e, h0, h1, h2, h3]; rfl
  · rw [h i hi] at hc; exact absurd hc (Nat.lt_irrefl 0)
theorem StOk.step {c c' : Nat → Nat → Nat} {p : Nat} {j : Fin 6} {st : St4} (hp4 : p < 4) (hc : ∀ i, c' j.val i = c j.val i + (if i = p then 1 else 0)) (h : StOk c j.val st) : StOk c' j.val (st.add (ent p j)) := by
  have hcp : c' j.val p = c j.val p + 1 := by rw [hc, if_pos rfl]
  have hcn : ∀ i, i ≠ p → c' j.val i = c j.val i := fun i hi => by rw [hc, if_neg hi]; rfl
  obtain ⟨h1, h2, h3, h4, h5, h6, h7⟩ := h
  have hlw : lowNames.getD p (Str.ofString "") = lw p := rfl
  have hcs : (st.add (ent p j)).cs = putG st.cs (lw p) (match atG st.cs (lw p) with | some u => u + 1 | none => 1) := by
    show addC st.cs [(lowNames.getD p (Str.ofString ""), 1)] = _
    unfold addC
    rw [copyI_id h5]
    rfl
  refine ⟨?_, ?_, ?_, ?_, ?_, ?_, ?_⟩
  · show (if j.val = p then 0 else 1) + st.cc = _
    rw [h1, sumF4, sumF4]
    rw [sum4 (f := fun i => if (!(i == j.val)) = true then (c' j.val i : Int) else 0) (g := fun i => if (!(i == j.val)) = true then (c j.val i : Int) else 0) (d := if j.val = p then 0 else 1) hp4 (fun i _ hi => by simp only [hcn i hi]) ?_]
    · rw [Int.add_comm]
    · by_cases e : j.val = p
      · simp [e]
      · have : ¬ p = j.val := fun h => e h.symm
        simp only [hcp]
        simp [e, this]
  · show 1 + st.nc = _
    rw [h2, sum4 (f := fun i => (c' j.val i : Int)) (g := fun i => (c j.val i : Int)) (d := 1) hp4 (fun i _ hi => by simp only [hcn i hi]) (by simp only [hcp]; lia), Int.add_comm]
  · show (p : Int) + st.tt = _
    rw [h3, sum4 (f := fun i => ((i * c' j.val i : Nat) : Int)) (g := fun i => ((i * c j.val i : Nat) : Int)) (d := (p : Int)) hp4 (fun i _ hi => by simp only [hcn i hi]) (by simp only [hcp, Nat.mul_add]; lia), Int.add_comm]
  · show ((p * p : Nat) : Int) + st.ct = _
    rw [h4, sum4 (f := fun i => ((i * i * c' j.val i : Nat) : Int)) (g := fun i => ((i * i * c j.val i : Nat) : Int)) (d := ((p * p : Nat) : Int)) hp4 (fun i _ hi => by simp only [hcn i hi]) (by simp only [hcp, Nat.mul_add]; lia), Int.add_comm]
  · rw [hcs]; exact putG_nodup h5
  · rw [hcs]
    intro q hq
    have hk : q.1 = lw p ∨ q ∈ st.cs := by
      unfold putG at hq
      split at hq
      · obtain ⟨x, hx, rfl⟩ := List.mem_map.mp hq
        by_cases e : x.1 = lw p
        · left; simp [e]
        · right; simpa [e] using hx
      · rcases List.mem_append.mp hq with h | h
        · exact .inr h
        · rw [List.mem_singleton.mp h]; exact .inl rfl
    rcases hk with e | e
    · exact ⟨p, hp4, e, by rw [hcp]; lia⟩
    · obtain ⟨i, a1, a2, a3⟩ := h6 q e
      refine ⟨i, a1, a2, ?_⟩
      rw [hc]; lia
  · intro i hi hpos
    rw [hcs, atI_eq, atG_put]
    by_cases e : i = p
    · subst e
      rw [if_pos rfl, hcp]
      by_cases h0 : 0 < c j.val i
      · have := h7 i hi h0
        rw [atI_eq] at this
        rw [this]; simp
      · have hz : c j.val i = 0 := by lia
        have : atG st.cs (lw i) = none := by
          cases e2 : atG st.cs (lw i) with
          | none => rfl
          | some u =>
            obtain ⟨i', b1, b2, b3⟩ := h6 _ (atG_some_mem e2)
            have := lw_inj (by lia) (by lia) b2
            subst this
            lia
        rw [this, hz]; rfl
    · have : ¬ lw i = lw p := fun h => e (lw_inj (by lia) (by lia) h)
      rw [if_neg this, hcn i e]
      rw [hcn i e] at hpos
      exact h7 i hi hpos
theorem tot_pos {c : Nat → Nat → Nat} {j : Nat} : 0 < tot c j ↔ ∃ i, i < 4 ∧ 0 < c j i := by
  unfold tot
  constructor
  · intro h
    by_cases h0 : 0 < c j 0
    · exact ⟨0, by decide, h0⟩
    by_cases h1 : 0 < c j 1
    · exact ⟨1, by decide, h1⟩
    by_cases h2 : 0 < c j 2
    · exact ⟨2, by decide, h2⟩
    exact ⟨3, by decide, by lia⟩
  · rintro ⟨i, hi, h⟩
    match i, hi with
    | 0, _ => lia
    | 1, _ => lia
    | 2, _ => lia
    | 3, _ => lia
theorem ProfOk.step {c c' : Nat → Nat → Nat} {p : Nat} {prof : Pf} {w : Wd} (hp4 : p < 4) (hc : ∀ j, j < 6 → ∀ i, c' j i = c j i + (if i = p ∧ w.1.val = j then 1 else 0)) (h : ProfOk c prof) : ProfOk c' (profP prof p w) := by
  have hne : ∀ j, j < 6 → j ≠ w.1.val → ∀ i, c' j i = c j i := fun j h6 hj i => by rw [hc j h6, if_neg fun h => hj h.2.symm]; rfl
  have htot : ∀ j, j < 6 → 0 < tot c j → 0 < tot c' j := fun j h6 hj => by
    obtain ⟨i, h1, h2⟩ := tot_pos.mp hj
    exact tot_pos.mpr ⟨i, h1, by rw [hc j h6]; lia⟩
  have hold : StOk c w.1.val ((atG prof (wd w.1 false)).getD z4) := by
    rw [lw_wd]
    cases e : atG prof (lw w.1.val) with
    | some st =>
      obtain ⟨j, j1, j2, j3, j4⟩ := h.ks _ (atG_some_mem e)
      have := lw_inj w.1.isLt j1 j2
      rw [this]; exact j4
    | none =>
      refine StOk.zero fun i hi => ?_
      rcases Nat.eq_zero_or_pos (c w.1.val i) with h0 | h0
      · exact h0
      · obtain ⟨st, hst⟩ := h.as w.1.val w.1.isLt (tot_pos.mpr ⟨i, hi, h0⟩)
        rw [hst] at e; cases e
  have hnew : StOk c' w.1.val _ := hold.step hp4 fun i => by rw [hc _ w.1.isLt]; simp
  have hpos : 0 < tot c' w.1.val := tot_pos.mpr ⟨p, hp4, by rw [hc _ w.1.isLt, if_pos ⟨rfl, rfl⟩]; lia⟩
  unfold profP
  refine ⟨putG_nodup h.nd, fun q hq => ?_, fun j hj hjp => ?_⟩
  · have hat := atG_mem_nodup (putG_nodup h.nd) hq
    rw [atG_put] at hat
    by_cases e : q.1 = wd w.1 false
    · rw [if_pos e] at hat
      have hat := Option.some.inj hat
      exact ⟨w.1.val, w.1.isLt, by rw [e, lw_wd], hpos, by rw [← hat]; exact hnew⟩
    · rw [if_neg e] at hat
      obtain ⟨j, j1, j2, j3, j4⟩ := h.ks _ (atG_some_mem hat)
      have hj : j ≠ w.1.val := fun e2 => e (by rw [lw_wd, ← e2]; exact j2)
      exact ⟨j, j1, j2, htot j j1 j3, j4.congr (hne j j1 hj)⟩
  · rw [atG_put]
    by_cases e : lw j = wd w.1 false
    · rw [if_pos e]; exact ⟨_, rfl⟩
    · rw [if_neg e]
      have hj' : j ≠ w.1.val := fun e2 => e (by rw [lw_wd, ← e2])
      refine h.as j hj ?_
      obtain ⟨i, i1, i2⟩ := tot_pos.mp hjp
      rw [hne j hj hj' i] at i2
      exact tot_pos.mpr ⟨i, i1, i2⟩
theorem same_len {α : Type} {l l' : List (Str × α)} (n : (l.map (·.1)).Nodup) (n' : (l'.map (·.1)).Nodup) (s : ∀ x, x ∈ l.map (·.1) → x ∈ l'.map (·.1)) (s' : ∀ x, x ∈ l'.map (·.1) → x ∈ l.map (·.1)) : l.length = l'.length := by
  have a := List.Nodup.length_le_of_subset n (l₂ := l'.map (·.1)) fun x h => s x h
  have b := List.Nodup.length_le_of_subset n' (l₂ := l.map (·.1)) fun x h => s' x h
  rw [List.length_map, List.length_map] at a b
  lia
theorem told_nodup (rs : List (List (Fin 6))) (t : List Nat) : ((toldF1 rs t).map (·.1)).Nodup := by
  unfold toldF1
  rw [List.map_map]
  exact map_lw_nodup (List.Nodup.sublist List.filter_sublist List.nodup_range) fun x hx => by
    have := List.mem_range.mp (List.mem_filter.mp hx).1; lia
theorem toldc_nodup (rs : List (List (Fin 6))) (t : List Nat) (j : Nat) : (((toldP1 rs t j).cs).map (·.1)).Nodup := by
  unfold toldP1
  rw [List.map_map]
  exact map_lw_nodup (List.Nodup.sublist List.filter_sublist List.nodup_range) fun x hx => by
    have := List.mem_range.mp (List.mem_filter.mp hx).1; lia
theorem toldc_mem {rs : List (List (Fin 6))} {t : List Nat} {j i : Nat} (hi : i < 4) (h : 0 < sv rs t j i) : (lw i, (sv rs t j i : Int)) ∈ (toldP1 rs t j).cs :=
  List.mem_map.mpr ⟨i, List.mem_filter.mpr ⟨List.mem_range.mpr hi, by simpa using h⟩, rfl⟩
theorem toldc_key {rs : List (List (Fin 6))} {t : List Nat} {j : Nat} {x : Str} (h : x ∈ (toldP1 rs t j).cs.map (·.1)) : ∃ i, i < 4 ∧ 0 < sv rs t j i ∧ x = lw i := by
  obtain ⟨p, hp, rfl⟩ := List.mem_map.mp h
  obtain ⟨i, hi, rfl⟩ := List.mem_map.mp hp
  obtain ⟨h1, h2⟩ := List.mem_filter.mp hi
  exact ⟨i, List.mem_range.mp h1, by simpa using h2, rfl⟩
theorem toldf_mem {rs : List (List (Fin 6))} {t : List Nat} {j : Nat} (hj : j < 6) (h : 0 < ((List.range 4).map fun i => sv rs t j i).sum) : (lw j, toldP1 rs t j) ∈ toldF1 rs t :=
  List.mem_map.mpr ⟨j, List.mem_filter.mpr ⟨List.mem_range.mpr hj, decide_eq_true h⟩, rfl⟩
theorem st_same {rs : List (List (Fin 6))} {c : Nat → Nat → Nat} {t : List Nat} {j n : Nat} {st : St4} (hc : ∀ i, i < 4 → c j i = sv rs t j i) (S : StOk c j st) : SameD (n + 2) st.d (toldP1 rs t j).d := by
  have e1 : st.cc = (toldP1 rs t j).cc := by
    rw [S.cc]
    show _ = ((List.range 4).map fun i => (sv rs t j i : Int)).sum - (((List.range 4).filter fun i => i == j).map fun i => (sv rs t j i : Int)).sum
    rw [List.map_congr_left fun i hi => by rw [hc i (List.mem_range.mp (List.mem_filter.mp hi).1)]]
    rw [sumF4, sumF4]
    have e : ∀ k : Nat → Int, ((List.range 4).map k).sum = k 0 + (k 1 + (k 2 + (k 3 + 0))) := fun k => by simp [List.range_succ_eq_map]
    have d : ∀ (i : Nat) (x : Int), (if (!(i == j)) = true then x else 0) = x - (if (i == j) = true then x else 0) := fun i x => by
      cases h : i == j <;> simp
    rw [e, e, e, d, d, d, d]
    lia
  have e2 : st.nc = (toldP1 rs t j).nc := by
    rw [S.nc]
    show _ = ((List.range 4).map fun i => (sv rs t j i : Int)).sum
    rw [List.map_congr_left fun i hi => by rw [hc i (List.mem_range.mp hi)]]
  have e3 : st.tt = (toldP1 rs t j).tt := by
    rw [S.tt]
    show _ = ((List.range 4).map fun i => ((i * sv rs t j i : Nat) : Int)).sum
    rw [List.map_congr_left fun i hi => by rw [hc i (List.mem_range.mp hi)]]
  have e4 : st.ct = (toldP1 rs t j).ct := by
    rw [S.ct]
    show _ = ((List.range 4).map fun i => ((i * i * sv rs t j i : Nat) : Int)).sum
    rw [List.map_congr_left fun i hi => by rw [hc i (List.mem_range.mp hi)]]
  have hat : ∀ q ∈ st.cs, atG (toldP1 rs t j).cs q.1 = some q.2 := fun q hq => by
    obtain ⟨i, hi, e, hp⟩ := S.ks q hq
    have h1 := S.as i hi hp
    have h2 := atG_mem_nodup S.nd hq
    rw [atI_eq, ← e, h2] at h1
    have hp' := hp
    rw [hc i hi] at hp'
    have h3 := atG_mem_nodup (toldc_nodup rs t j) (toldc_mem hi hp')
    rw [e]
    refine h3.trans ?_
    rw [h1, hc i hi]
  have e5 : SameD (n + 1) (.dict (dD st.cs)) (.dict (dD (toldP1 rs t j).cs)) := by
    refine .dict ?_ (fun p hp => ?_) fun p hp y hy => ?_
    · show (st.cs.map _).length = ((toldP1 rs t j).cs.map _).length
      rw [List.length_map, List.length_map]
      refine same_len S.nd (toldc_nodup rs t j) (fun x hx => ?_) fun x hx => ?_
      · obtain ⟨q, hq, rfl⟩ := List.mem_map.mp hx
        exact List.mem_map_of_mem (f := (·.1)) (atG_some_mem (hat q hq))
      · obtain ⟨i, hi, hp, rfl⟩ := toldc_key hx
        rw [← hc i hi] at hp
        exact List.mem_map_of_mem (f := (·.1)) (atG_some_mem (S.as i hi hp))
    · obtain ⟨q, hq, rfl⟩ := List.mem_map.mp hp
      show (atD (mapD D.int (toldP1 rs t j).cs) q.1).isSome = true
      rw [atD_mapD, hat q hq]; rfl
    · obtain ⟨q, hq, rfl⟩ := List.mem_map.mp hp
      have hy : atD (mapD D.int (toldP1 rs t j).cs) q.1 = some y := hy
      rw [atD_mapD, hat q hq] at hy
      cases hy
      exact .plain (.int _ _)
  unfold St4.d
  rw [e1, e2, e3, e4]
  refine .tup rfl fun i x y h1 h2 => ?_
  match i, h1, h2 with
  | 0, h1, h2 => cases h1; cases h2; exact .plain (.int _ _)
  | 1, h1, h2 => cases h1; cases h2; exact .plain (.int _ _)
  | 2, h1, h2 => cases h1; cases h2; exact .plain (.int _ _)
  | 3, h1, h2 => cases h1; cases h2; exact .plain (.int _ _)
  | 4, h1, h2 => cases h1; cases h2; exact e5
  | i + 5, h1, h2 => cases h1
theorem prof_same {rs : List (List (Fin 6))} {c : Nat → Nat → Nat} {t : List Nat} {prof : Pf} (hc : ∀ j i, i < 4 → c j i = sv rs t j i) (P : ProfOk c prof) : SameD 6 (.dict (mapD St4.d prof)) (.dict (mapD St4.d (toldF1 rs t))) := by
  have hs : ∀ j, ((List.range 4).map fun i => sv rs t j i).sum = tot c j := fun j => by
    unfold tot
    rw [hc j 0 (by decide), hc j 1 (by decide), hc j 2 (by decide), hc j 3 (by decide), show List.range 4 = [0, 1, 2, 3] from rfl]
    simp only [List.map_cons, List.map_nil, List.sum_cons, List.sum_nil]
    lia
  have hat : ∀ j, j < 6 → 0 < tot c j → atG (toldF1 rs t) (lw j) = some (toldP1 rs t j) := fun j hj h => by
    rw [← hs] at h
    exact atG_mem_nodup (told_nodup rs t) (toldf_mem hj h)
  refine .dict ?_ (fun p hp => ?_) fun p hp y hy => ?_
  · rw [mapD_len, mapD_len]
    refine same_len P.nd (told_nodup rs t) (fun x hx => ?_) fun x hx => ?_
    · obtain ⟨q, hq, rfl⟩ := List.mem_map.mp hx
      obtain ⟨j, hj, e, ht, _⟩ := P.ks q hq
      rw [e]
      exact List.mem_map_of_mem (f := (·.1)) (atG_some_mem (hat j hj ht))
    · obtain ⟨q, hq, rfl⟩ := List.mem_map.mp hx
      obtain ⟨j, hj, rfl⟩ := List.mem_map.mp hq
      obtain ⟨h1, h2⟩ := List.mem_filter.mp hj
      have h2 : 0 < ((List.range 4).map fun i => sv rs t j i).sum := of_decide_eq_true h2
      rw [hs] at h2
      obtain ⟨st, hst⟩ := P.as j (List.mem_range.mp h1) h2
      exact List.mem_map_of_mem (f := (·.1)) (atG_some_mem hst)
  · obtain ⟨q, hq, rfl⟩ := List.mem_map.mp hp
    obtain ⟨j, hj, e, ht, _⟩ := P.ks q hq
    show (atD (mapD St4.d (toldF1 rs t)) q.1).isSome = true
    rw [atD_mapD, e, hat j hj ht]; rfl
  · obtain ⟨q, hq, rfl⟩ := List.mem_map.mp hp
    obtain ⟨j, hj, e, ht, S⟩ := P.ks q hq
    have hy : atD (mapD St4.d (toldF1 rs t)) q.1 = some y := hy
    rw [atD_mapD, e, hat j hj ht] at hy
    cases hy
    exact st_same (n := 3) (hc j) S
noncomputable def sumC (l : Ci) : Int := (l.map (·.2)).sum
theorem sum_put : ∀ {l : Ci} {k : Str} {v : Int}, (l.map (·.1)).Nodup → sumC (putG l k v) = sumC l + v - (atG l k).getD 0
  | l, k, v, h => by
    unfold putG
    by_cases hm : (l.any fun kv => decide (kv.1 = k)) = true
    · rw [if_pos hm]
      have key : ∀ l : Ci, (l.map (·.1)).Nodup → (l.any fun kv => decide (kv.1 = k)) = true → sumC (l.map fun kv => if kv.1 = k then (kv.1, v) else kv) = sumC l + v - (atG l k).getD 0 := by
        intro l
        induction l with
        | nil => intro _ h; simp at h
        | cons p l ih =>
          intro h hm
          rw [List.map_cons, List.nodup_cons] at h
          unfold sumC atG at *
          rw [List.map_cons, List.map_cons, List.sum_cons, List.map_cons, List.sum_cons, List.find?_cons]
          by_cases e : p.1 = k
          · have hid : (l.map fun kv => if kv.1 = k then (kv.1, v) else kv) = l := by
              conv => rhs; rw [← List.map_id l]
              refine List.map_congr_left fun q hq => ?_
              rw [if_neg fun e2 => h.1 (List.mem_map.mpr ⟨q, hq, e2.trans e.symm⟩)]; rfl
            rw [hid]
            simp only [if_pos e, decide_eq_true e, Option.map_some, Option.getD_some]
            lia
          · have hm' : (l.any fun kv => decide (kv.1 = k)) = true := by simpa [e] using hm
            have := ih h.2 hm'
            simp only [if_neg e, decide_eq_false e]
            rw [this]; lia
      exact key l h hm
    · rw [if_neg hm]
      have : atG l k = none := by
        unfold atG
        have : l.find? (fun kv => decide (kv.1 = k)) = none := by
          rw [List.find?_eq_none]
          exact fun p hp h => hm (List.any_eq_true.mpr ⟨p, hp, h⟩)
        rw [this]; rfl
      rw [this]
      unfold sumC
      rw [List.map_append, List.sum_append]
      simp
theorem CsOk.step {c : Nat → Nat → Nat} {p : Nat} {prof : Pf} {w : Wd} (h : ProfOk c prof) (hs : ∀ p ∈ prof, sumC p.2.cs = p.2.nc) : ∀ q ∈ profP prof p w, sumC q.2.cs = q.2.nc := by
  unfold profP
  obtain ⟨st, hst⟩ : ∃ st, st = (atG prof (wd w.1 false)).getD z4 := ⟨_, rfl⟩
  rw [← hst]
  have h1 : (st.cs.map (·.1)).Nodup ∧ sumC st.cs = st.nc := by
    cases e : atG prof (wd w.1 false) with
    | none => rw [e] at hst; subst hst; exact ⟨.nil, rfl⟩
    | some st' =>
      rw [e] at hst
      have hst : st = st' := hst
      subst hst
      have hm := atG_some_mem e
      obtain ⟨j, _, _, _, S⟩ := h.ks _ hm
      exact ⟨S.nd, hs _ hm⟩
  have hadd : sumC (st.add (ent p w.1)).cs = (st.add (ent p w.1)).nc := by
    have hcs : (st.add (ent p w.1)).cs = putG st.cs (lw p) (match atG st.cs (lw p) with | some u => u + 1 | none => 1) := by
      show addC st.cs [(lowNames.getD p (Str.ofString ""), 1)] = _
      unfold addC
      rw [copyI_id h1.1]
      rfl
    rw [hcs, sum_put h1.1, h1.2]
    show _ = 1 + st.nc
    cases atG st.cs (lw p) <;> simp <;> lia
  intro q hq
  have hat := atG_mem_nodup (putG_nodup h.nd) hq
  rw [atG_put] at hat
  by_cases e : q.1 = wd w.1 false
  · rw [if_pos e] at hat
    rw [← Option.some.inj hat]; exact hadd
  · rw [if_neg e] at hat
    exact hs _ (atG_some_mem hat)
theorem ProfOk.len {c : Nat → Nat → Nat} {prof : Pf} (h : ProfOk c prof) : prof.length ≤ 6 := by
  have := List.Nodup.length_le_of_subset h.nd (l₂ := (List.range 6).map lw) fun x hx => by
    obtain ⟨q, hq, rfl⟩ := List.mem_map.mp hx
    obtain ⟨j, hj, e, _⟩ := h.ks q hq
    rw [e]
    exact List.mem_map.mpr ⟨j, List.mem_range.mpr hj, rfl⟩
  simpa using this
theorem ProfOk.nil {c : Nat → Nat → Nat} (h : ∀ j i, i < 4 → c j i = 0) : ProfOk c [] := by
  refine ⟨.nil, (fun _ h => nomatch h), fun j _ hj => ?_⟩
  obtain ⟨i, hi, h2⟩ := tot_pos.mp hj
  rw [h j i hi] at h2; exact absurd h2 (by decide)
theorem getD_set {r : List Nat} {p : Nat} (hp : p < r.length) (x i : Nat) : (r.set p x).getD i 0 = if i = p then x else r.getD i 0 := by
  simp only [List.getD_eq_getElem?_getD, List.getElem?_set]
  by_cases hi : p = i
  · subst hi; simp [hp]
  · simp [hi, Ne.symm hi]
theorem three {α : Type} {r : List α} (h : r.length = 3) : ∃ a b c, r = [a, b, c] := by
  match r, h with
  | [a, b, c], _ => exact ⟨a, b, c, rfl⟩
theorem mod3 (t : Nat) : t % 3 = 0 ∧ (t + 1) % 3 = 1 ∧ (t + 1) / 3 = t / 3 ∨ t % 3 = 1 ∧ (t + 1) % 3 = 2 ∧ (t + 1) / 3 = t / 3 ∨ t % 3 = 2 ∧ (t + 1) % 3 = 0 ∧ (t + 1) / 3 = t / 3 + 1 := by
  have h := Nat.div_add_mod t 3
  have hl := Nat.mod_lt t (show 3 > 0 by decide)
  generalize t / 3 = q at *
  generalize t % 3 = r at *
  subst h
  have a (r : Nat) : (3 * q + r) % 3 = r % 3 := Nat.mul_add_mod 3 q r
  have b (r : Nat) : (3 * q + r) / 3 = q + r / 3 := Nat.mul_add_div (by decide) q r
  match r, hl with
  | 0, _ => exact .inl ⟨rfl, a 1, b 1⟩
  | 1, _ => exact .inr (.inl ⟨rfl, a 2, b 2⟩)
  | 2, _ => exact .inr (.inr ⟨rfl, a 3, b 3⟩)
theorem sent_step {r : List (Fin 6)} (h : r.length = 3) (t : Nat) (j : Fin 6) : sentF r (t + 1) j = sentF r t j + if r.getD (t % 3) 5 = j then 1 else 0 := by
  obtain ⟨a, b, c, rfl⟩ := three h
  unfold sentF
  rcases mod3 t with ⟨h1, h2, h3⟩ | ⟨h1, h2, h3⟩ | ⟨h1, h2, h3⟩ <;> rw [h1, h2, h3]
  · simp [List.count_cons]
  · simp [List.count_cons]; lia
  · simp [List.count_cons, Nat.add_mul]; lia
theorem sent_mono {r : List (Fin 6)} (h : r.length = 3) (j : Fin 6) {t t' : Nat} (ht : t ≤ t') : sentF r t j ≤ sentF r t' j := by
  induction ht with
  | refl => exact Nat.le_refl _
  | step _ ih => rw [sent_step h]; exact Nat.le_trans ih (Nat.le_add_right _ _)
theorem sent_zero (r : List (Fin 6)) (j : Fin 6) : sentF r 0 j = 0 := by unfold sentF; simp
theorem sent_sum {r : List (Fin 6)} (h : r.length = 3) (t : Nat) : ((List.range 6).map fun n => sentF r t (fi n)).sum = t := by
  induction t with
  | zero => simp only [sent_zero]; rfl
  | succ t ih =>
    have key : ∀ a : Fin 6, ((List.range 6).map fun n => if a = fi n then 1 else 0).sum = 1 := by decide
    have e : ∀ f g : Nat → Nat, ((List.range 6).map fun n => f n + g n).sum = ((List.range 6).map f).sum + ((List.range 6).map g).sum := fun f g => by
      simp [List.range_succ_eq_map]; lia
    rw [show (fun n => sentF r (t + 1) (fi n)) = fun n => sentF r t (fi n) + if r.getD (t % 3) 5 = fi n then 1 else 0 from funext fun n => sent_step h t _, e, ih, key]
theorem sent_five {r : List (Fin 6)} (h5 : r.count 5 = 1) (t : Nat) : t / 3 ≤ sentF r t 5 := by
  unfold sentF; rw [h5]; lia
theorem five_cnt {r : List (Fin 6)} (h : r.length = 3) (j : Fin 6) : ∀ n t, t ≤ 3 * n → (((List.replicate n r).flatten).take t).count j = sentF r t j
  | 0, t, ht => by
    obtain rfl : t = 0 := by lia
    simp [sentF]
  | n + 1, t, ht => by
    rw [List.replicate_succ, List.flatten_cons, List.take_append, h, List.count_append]
    by_cases h3 : t < 3
    · rw [show t - 3 = 0 by lia, List.take_zero, List.count_nil]
      unfold sentF
      rw [show t / 3 = 0 by lia, show t % 3 = t by lia]; lia
    · rw [five_cnt h j n (t - 3) (by lia), List.take_of_length_le (by lia)]
      unfold sentF
      rw [show t / 3 = (t - 3) / 3 + 1 by lia, show t % 3 = (t - 3) % 3 by lia, Nat.add_mul]; lia
noncomputable def arrN (pl : List (List (Fin 6))) (t : List Nat) (j : Nat) : Nat := ((List.range 4).map fun i => sentF (pl.getD i []) (t.getD i 0) (fi j)).sum
theorem arr4 (pl : List (List (Fin 6))) (t : List Nat) (j : Nat) : arrN pl t j = sentF (pl.getD 0 []) (t.getD 0 0) (fi j) + (sentF (pl.getD 1 []) (t.getD 1 0) (fi j) + (sentF (pl.getD 2 []) (t.getD 2 0) (fi j) + (sentF (pl.getD 3 []) (t.getD 3 0) (fi j) + 0))) := by
  unfold arrN; simp [List.range_succ_eq_map]
theorem leav_arr {pl : List (List (Fin 6))} (h3 : ∀ i, i < 4 → (pl.getD i []).length = 3) {wk t : List Nat} (ht : ∀ i, i < 4 → t.getD i 0 ≤ 15) {i : Nat} (hi : i < 4) : (leavStep pl wk t).getD i 0 = wk.getD i 0 + arrN pl t i := by
  rw [leav_at hi, arr4]
  unfold sentL
  rw [show List.range 4 = [0, 1, 2, 3] from rfl]
  simp only [List.flatMap_cons, List.flatMap_nil, List.count_append, List.count_nil]
  unfold fiveF
  rw [five_cnt (h3 0 (by decide)) _ 5 _ (ht 0 (by decide)), five_cnt (h3 1 (by decide)) _ 5 _ (ht 1 (by decide)), five_cnt (h3 2 (by decide)) _ 5 _ (ht 2 (by decide)), five_cnt (h3 3 (by decide)) _ 5 _ (ht 3 (by decide))]
  rfl
theorem arr_mono {pl : List (List (Fin 6))} (h3 : ∀ i, i < 4 → (pl.getD i []).length = 3) {t f : List Nat} (h : ∀ i, i < 4 → t.getD i 0 ≤ f.getD i 0) (j : Nat) : arrN pl t j ≤ arrN pl f j := by
  rw [arr4, arr4]
  have a0 := sent_mono (h3 0 (by decide)) (fi j) (h 0 (by decide))
  have a1 := sent_mono (h3 1 (by decide)) (fi j) (h 1 (by decide))
  have a2 := sent_mono (h3 2 (by decide)) (fi j) (h 2 (by decide))
  have a3 := sent_mono (h3 3 (by decide)) (fi j) (h 3 (by decide))
  lia
theorem arr_step {pl : List (List (Fin 6))} (h3 : ∀ i, i < 4 → (pl.getD i []).length = 3) {t : List Nat} {p : Nat} (hp4 : p < 4) (hp : p < t.length) (j : Nat) : arrN pl (t.set p (t.getD p 0 + 1)) j = arrN pl t j + if (pl.getD p []).getD (t.getD p 0 % 3) 5 = fi j then 1 else 0 := by
  have hs := sent_step (h3 p hp4) (t.getD p 0) (fi j)
  rw [arr4, arr4]
  simp only [getD_set hp]
  match p, hp4 with
  | 0, _ => rw [if_pos rfl, if_neg (show ¬ (1 : Nat) = 0 by decide), if_neg (show ¬ (2 : Nat) = 0 by decide), if_neg (show ¬ (3 : Nat) = 0 by decide), hs]; lia
  | 1, _ => rw [if_neg (show ¬ (0 : Nat) = 1 by decide), if_pos rfl, if_neg (show ¬ (2 : Nat) = 1 by decide), if_neg (show ¬ (3 : Nat) = 1 by decide), hs]; lia
  | 2, _ => rw [if_neg (show ¬ (0 : Nat) = 2 by decide), if_neg (show ¬ (1 : Nat) = 2 by decide), if_pos rfl, if_neg (show ¬ (3 : Nat) = 2 by decide), hs]; lia
  | 3, _ => rw [if_neg (show ¬ (0 : Nat) = 3 by decide), if_neg (show ¬ (1 : Nat) = 3 by decide), if_neg (show ¬ (2 : Nat) = 3 by decide), if_pos rfl, hs]; lia
noncomputable def fixed (pl : List (List (Fin 6))) (wk f : List Nat) : Prop := f.length = 4 ∧ ∀ i, i < 4 → f.getD i 0 = wk.getD i 0 + arrN pl f i
noncomputable def leL (t f : List Nat) : Prop := ∀ i, i < 4 → t.getD i 0 ≤ f.getD i 0
theorem four_ext {t f : List Nat} (h : t.length = 4) (h' : f.length = 4) (e : ∀ i, i < 4 → t.getD i 0 = f.getD i 0) : t = f := by
  refine List.ext_getElem (h.trans h'.symm) fun i h1 h2 => ?_
  have := e i (by lia)
  rw [List.getD_eq_getElem?_getD, List.getD_eq_getElem?_getD, List.getElem?_eq_getElem h1, List.getElem?_eq_getElem h2] at this
  exact this
theorem leavStep_len (pl : List (List (Fin 6))) (wk t : List Nat) : (leavStep pl wk t).length = 4 := by simp [leavStep]
theorem leav_le {pl : List (List (Fin 6))} (h3 : ∀ i, i < 4 → (pl.getD i []).length = 3) {wk d f : List Nat} (hf : fixed pl wk f) (h15 : ∀ i, i < 4 → f.getD i 0 ≤ 15) (hd : leL d f) : leL (leavStep pl wk d) f := fun i hi => by
  rw [leav_arr h3 (fun i hi => Nat.le_trans (hd i hi) (h15 i hi)) hi, hf.2 i hi]
  exact Nat.add_le_add_left (arr_mono h3 hd i) _
theorem leavF_spec {pl : List (List (Fin 6))} (h3 : ∀ i, i < 4 → (pl.getD i []).length = 3) {wk f : List Nat} (hf : fixed pl wk f) (h15 : ∀ i, i < 4 → f.getD i 0 ≤ 15) : ∀ (n : Nat) (d : List Nat), d.length = 4 → leL d f → leL d (leavStep pl wk d) → f.getD 0 0 + f.getD 1 0 + f.getD 2 0 + f.getD 3 0 < n + (d.getD 0 0 + d.getD 1 0 + d.getD 2 0 + d.getD 3 0) →
    ∃ T, leavF pl wk n d = some T ∧ fixed pl wk T ∧ leL T f
  | 0, d, hl, hd, hs, hn => by
    have a0 := hd 0 (by decide); have a1 := hd 1 (by decide); have a2 := hd 2 (by decide); have a3 := hd 3 (by decide)
    lia
  | n + 1, d, hl, hd, hs, hn => by
    unfold leavF
    have hd15 : ∀ i, i < 4 → d.getD i 0 ≤ 15 := fun i hi => Nat.le_trans (hd i hi) (h15 i hi)
    by_cases e : leavStep pl wk d = d
    · rw [if_pos e]
      refine ⟨d, rfl, ⟨hl, fun i hi => ?_⟩, hd⟩
      have := leav_arr h3 (wk := wk) hd15 hi
      rw [e] at this; exact this
    · rw [if_neg e]
      have hl' := leavStep_len pl wk d
      have hd' := leav_le h3 hf h15 hd
      refine leavF_spec h3 hf h15 n _ hl' hd' (fun i hi => ?_) ?_
      · rw [leav_arr h3 hd15 hi, leav_arr h3 (fun i hi => Nat.le_trans (hd' i hi) (h15 i hi)) hi]
        exact Nat.add_le_add_left (arr_mono h3 hs i) _
      · have a0 := hs 0 (by decide); have a1 := hs 1 (by decide); have a2 := hs 2 (by decide); have a3 := hs 3 (by decide)
        have : ¬ (d.getD 0 0 = (leavStep pl wk d).getD 0 0 ∧ d.getD 1 0 = (leavStep pl wk d).getD 1 0 ∧ d.getD 2 0 = (leavStep pl wk d).getD 2 0 ∧ d.getD 3 0 = (leavStep pl wk d).getD 3 0) := fun ⟨b0, b1, b2, b3⟩ => e (four_ext hl' hl fun i hi => by
          match i, hi with
          | 0, _ => exact b0.symm
          | 1, _ => exact b1.symm
          | 2, _ => exact b2.symm
          | 3, _ => exact b3.symm)
        lia
theorem find_put (path : Hs) (h w : Wd) (j : Fin 6) : findH (putH path h w) j = if j = h.1 then some w else findH path j := by
  unfold findH putH delH
  rw [List.find?_append]
  by_cases hj : j = h.1
  · subst hj
    rw [if_pos rfl]
    have : (path.filter fun p => !(p.1.1 == h.1)).find? (fun p => decide (p.1.1 = h.1)) = none := by
      rw [List.find?_eq_none]
      intro p hp
      have := (List.mem_filter.mp hp).2
      simpa using this
    rw [this]; simp
  · rw [if_neg hj]
    have : (path.filter fun p => !(p.1.1 == h.1)).find? (fun p => decide (p.1.1 = j)) = path.find? fun p => decide (p.1.1 = j) := by
      induction path with
      | nil => rfl
      | cons p path ih =>
        rw [List.filter_cons, List.find?_cons]
        by_cases h1 : p.1.1 = h.1
        · have : ¬ p.1.1 = j := fun e => hj (e ▸ h1)
          simp only [h1, beq_self_eq_true, Bool.not_true, Bool.false_eq_true, if_false]
          rw [ih]
          have : ¬ h.1 = j := fun e => hj e.symm
          simp [this]
        · have e : (!(p.1.1 == h.1)) = true := by simpa using h1
          rw [if_pos e, List.find?_cons, ih]
    rw [this]
    have e2 : List.find? (fun p => decide (p.1.1 = j)) [(h, w)] = none := by simp [Ne.symm hj]
    rw [e2]; simp
theorem turn_head {r : List Wd} (h : r.length = 3) (t : Nat) : (turnL r t).headD (5, false) = r.getD (t % 3) (5, false) := by
  obtain ⟨a, b, c, rfl⟩ := three h
  unfold turnL
  rcases mod3 t with ⟨h1, h2, h3⟩ | ⟨h1, h2, h3⟩ | ⟨h1, h2, h3⟩ <;> rw [h1] <;> rfl
theorem turn_step {r : List Wd} (h : r.length = 3) (t : Nat) : turnR (turnL r t) = turnL r (t + 1) := by
  obtain ⟨a, b, c, rfl⟩ := three h
  unfold turnL
  rcases mod3 t with ⟨h1, h2, h3⟩ | ⟨h1, h2, h3⟩ | ⟨h1, h2, h3⟩ <;> rw [h1, h2] <;> rfl
theorem turn_last {r : List Wd} (h : r.length = 3) (t : Nat) : (turnL r (t + 1))[2]? = some (r.getD (t % 3) (5, false)) := by
  obtain ⟨a, b, c, rfl⟩ := three h
  unfold turnL
  rcases mod3 t with ⟨h1, h2, h3⟩ | ⟨h1, h2, h3⟩ | ⟨h1, h2, h3⟩ <;> rw [h1, h2] <;> rfl
theorem pl_at {rs : List (List Wd)} {p : Nat} (hp : p < rs.length) : (plF rs).getD p [] = (rs.getD p []).map (·.1) := by
  unfold plF
  rw [List.getD_eq_getElem?_getD, List.getD_eq_getElem?_getD, List.getElem?_map, List.getElem?_eq_getElem hp]; rfl
theorem row_at (r : List Wd) (k : Nat) : (r.map (·.1)).getD k 5 = (r.getD k (5, false)).1 := by
  rw [List.getD_eq_getElem?_getD, List.getD_eq_getElem?_getD, List.getElem?_map]
  cases r[k]? <;> rfl
noncomputable def leadG (good : Fin 6 → Prop) : Hs → Prop
  | [] => True
  | p :: ps => (good p.2.1 ∨ ∃ q ∈ ps, q.1.1 = p.2.1) ∧ leadG good ps
theorem leadG.on {good : Fin 6 → Prop} : ∀ {ps : Hs}, leadG good ps → (∀ j, good j → j.val = 4 ∨ j.val = 5) → leadsOn ps
  | [], _, _, k, h => by cases h
  | p :: ps, ⟨h1, h2⟩, hg, k, h => by
    match k with
    | 0 =>
      rcases h1 with h1 | h1
      · rcases hg _ h1 with e | e
        · exact .inl e
        · exact .inr (.inl e)
      · exact .inr (.inr (by simpa using h1))
    | k + 1 => exact leadG.on h2 hg k (by simpa using h)
theorem leadG.del {good : Fin 6 → Prop} (i : Fin 6) : ∀ {ps : Hs}, leadG good ps → leadG (fun j => good j ∨ j = i) (delH ps i)
  | [], _ => trivial
  | p :: ps, ⟨h1, h2⟩ => by
    have ih := leadG.del i h2
    unfold delH at *
    rw [List.filter_cons]
    by_cases e : p.1.1 = i
    · rw [if_neg (by simp [e])]; exact ih
    · rw [if_pos (by simp [e])]
      refine ⟨?_, ih⟩
      rcases h1 with h1 | ⟨q, hq, h1⟩
      · exact .inl (.inl h1)
      · by_cases e2 : q.1.1 = i
        · exact .inl (.inr (h1.symm.trans e2))
        · exact .inr ⟨q, List.mem_filter.mpr ⟨hq, by simp [e2]⟩, h1⟩
theorem leadG.app {good good' : Fin 6 → Prop} {x : Wd × Wd} (hg : ∀ j, good j → good' j ∨ j = x.1.1) (hx : good' x.2.1) : ∀ {ps : Hs}, leadG good ps → leadG good' (ps ++ [x])
  | [], _ => ⟨.inl hx, trivial⟩
  | p :: ps, ⟨h1, h2⟩ => by
    refine ⟨?_, leadG.app hg hx h2⟩
    rcases h1 with h1 | ⟨q, hq, h1⟩
    · rcases hg _ h1 with e | e
      · exact .inl e
      · exact .inr ⟨x, by simp, e.symm⟩
    · exact .inr ⟨q, List.mem_append_left _ hq, h1⟩
structure RI (rs : List (List Wd)) (wk t : List Nat) (s : R1) : Prop where
  t4 : t.length = 4
  hl : s.held.length = 6
  held : ∀ j, j < 6 → s.held.getD j 0 + t.getD j 0 = wk.getD j 0 + arrN (plF rs) t j
  s4 : s.rs.length = 4
  left : ∀ i, i < 4 → s.rs.getD i [] = turnL (rs.getD i []) (t.getD i 0)
  last : ∀ i, i < 4 → findH s.last (fi i) = if 0 < t.getD i 0 then (turnL (rs.getD i []) (t.getD i 0))[2]? else none
  nd : (s.last.map (·.1.1)).Nodup
  ks : ∀ p ∈ s.last, p.1.1.val < 4
  lead : leadG (fun j => j.val = 4 ∨ j.val = 5 ∨ 0 < s.held.getD j.val 0) s.last
  pr : ProfOk (fun j i => sentF ((plF rs).getD i []) (t.getD i 0) (fi j)) s.prof
  cs : ∀ p ∈ s.prof, sumC p.2.cs = p.2.nc
theorem fi_inj {a b : Nat} (ha : a < 6) (hb : b < 6) (h : fi a = fi b) : a = b := by
  have := congrArg Fin.val h
  simp only [fi] at this
  lia
theorem fi_val (j : Fin 6) : fi j.val = j := Fin.ext (Nat.mod_eq_of_lt j.isLt)
theorem fi_of {a : Nat} (ha : a < 6) : (fi a).val = a := Nat.mod_eq_of_lt ha
theorem RI.step {rs : List (List Wd)} {wk t : List Nat} {s : R1} (hr : rs.length = 4) (hr3 : ∀ i, i < 4 → (rs.getD i []).length = 3) (R : RI rs wk t s) {p : Nat} (hp : p < 4) (hh : 0 < s.held.getD p 0) : RI rs wk (t.set p (t.getD p 0 + 1)) (stepF p s) := by
  have hpl3 : ∀ i, i < 4 → ((plF rs).getD i []).length = 3 := fun i hi => by rw [pl_at (by lia), List.length_map]; exact hr3 i hi
  have hpt : p < t.length := by rw [R.t4]; exact hp
  have hps : p < s.rs.length := by rw [R.s4]; exact hp
  have hph : p < s.held.length := by rw [R.hl]; lia
  obtain ⟨w, hw⟩ : ∃ w, w = topW s.rs p := ⟨_, rfl⟩
  have hw2 : w = (rs.getD p []).getD (t.getD p 0 % 3) (5, false) := by
    rw [hw]; unfold topW; rw [R.left p hp, turn_head (hr3 p hp)]
  have hw1 : ((plF rs).getD p []).getD (t.getD p 0 % 3) 5 = w.1 := by
    rw [pl_at (by lia), row_at, ← hw2]
  have hgs : ∀ (i : Nat), (s.rs.set p (turnR (s.rs.getD p []))).getD i [] = if i = p then turnR (s.rs.getD p []) else s.rs.getD i [] := fun i => by
    simp only [List.getD_eq_getElem?_getD, List.getElem?_set]
    by_cases e : p = i
    · subst e; simp [hps]
    · simp [e, Ne.symm e]
  have hheld : ∀ j, j < 6 → (stepF p s).held.getD j 0 + (if j = p then 1 else 0) = s.held.getD j 0 + if w.1 = fi j then 1 else 0 := fun j hj => by
    show ((s.held.set p (s.held.getD p 0 - 1)).set (topW s.rs p).1.val ((s.held.set p (s.held.getD p 0 - 1)).getD (topW s.rs p).1.val 0 + 1)).getD j 0 + _ = _
    rw [← hw, getD_set (by rw [List.length_set, R.hl]; exact w.1.isLt), getD_set hph, getD_set hph]
    by_cases e1 : w.1 = fi j
    · have e2 : j = w.1.val := by rw [e1, fi_of hj]
      rw [if_pos e2, if_pos e1, ← e2]
      by_cases e3 : j = p
      · subst e3; rw [if_pos rfl, if_pos rfl]; lia
      · rw [if_neg e3, if_neg e3]
    · have e2 : ¬ j = w.1.val := fun h => e1 (by rw [h, fi_val])
      rw [if_neg e2, if_neg e1]
      by_cases e3 : j = p
      · subst e3; rw [if_pos rfl, if_pos rfl]; lia
      · rw [if_neg e3, if_neg e3]
  have hlast : (stepF p s).last = delH s.last (fi p) ++ [((fi p, decide (0 < (s.held.set p (s.held.getD p 0 - 1)).getD p 0)), w)] := by
    rw [hw]; rfl
  have hfind : ∀ i, i < 4 → findH (stepF p s).last (fi i) = if i = p then some w else findH s.last (fi i) := fun i hi => by
    rw [show (stepF p s).last = putH s.last (fi p, decide (0 < (s.held.set p (s.held.getD p 0 - 1)).getD p 0)) w from hlast, find_put]
    by_cases e : i = p
    · rw [if_pos (by rw [e]), if_pos e]
    · rw [if_neg (fun h => e (fi_inj (by lia) (by lia) h)), if_neg e]
  constructor
  · rw [List.length_set]; exact R.t4
  · show ((s.held.set _ _).set _ _).length = 6
    rw [List.length_set, List.length_set]; exact R.hl
  · intro j hj
    have h1 := hheld j hj
    have h2 := R.held j hj
    rw [getD_set hpt, arr_step hpl3 hp hpt, hw1]
    by_cases e : j = p
    · subst e; rw [if_pos rfl] at h1 ⊢; lia
    · rw [if_neg e] at h1 ⊢; lia
  · show (s.rs.set _ _).length = 4
    rw [List.length_set]; exact R.s4
  · intro i hi
    show (s.rs.set p (turnR (s.rs.getD p []))).getD i [] = _
    rw [hgs, getD_set hpt]
    by_cases e : i = p
    · subst e; rw [if_pos rfl, if_pos rfl, R.left i hi, turn_step (hr3 i hi)]
    · rw [if_neg e, if_neg e]; exact R.left i hi
  · intro i hi
    rw [hfind i hi, getD_set hpt]
    by_cases e : i = p
    · subst e; rw [if_pos rfl, if_pos rfl, if_pos (Nat.succ_pos _), turn_last (hr3 i hi), ← hw2]
    · rw [if_neg e, if_neg e]; exact R.last i hi
  · rw [hlast, List.map_append, List.nodup_append]
    refine ⟨List.Nodup.sublist (List.Sublist.map _ List.filter_sublist) R.nd, by simp, fun a ha b hb e => ?_⟩
    simp at hb
    subst hb
    obtain ⟨q, hq, e2⟩ := List.mem_map.mp ha
    have := (List.mem_filter.mp hq).2
    simp at this
    exact this (e2.trans e)
  · intro q hq
    rw [hlast] at hq
    rcases List.mem_append.mp hq with h | h
    · exact R.ks q (List.mem_filter.mp h).1
    · rw [List.mem_singleton.mp h]
      show (fi p).val < 4
      rw [fi_of (by lia)]; exact hp
  · rw [hlast]
    refine leadG.app (good := fun j => (j.val = 4 ∨ j.val = 5 ∨ 0 < s.held.getD j.val 0) ∨ j = fi p) (fun j hj => ?_) ?_ (R.lead.del (fi p))
    · by_cases e : j = fi p
      · exact .inr e
      · left
        rcases hj with (h | h | h) | h
        · exact .inl h
        · exact .inr (.inl h)
        · refine .inr (.inr ?_)
          have h1 := hheld j.val j.isLt
          rw [if_neg fun h => e (by rw [← h, fi_val])] at h1
          lia
        · exact absurd h e
    · refine .inr (.inr ?_)
      have h1 := hheld w.1.val w.1.isLt
      rw [if_pos (fi_val _).symm] at h1
      show 0 < (stepF p s).held.getD w.1.val 0
      by_cases e : w.1.val = p
      · rw [e] at h1 ⊢; rw [if_pos rfl] at h1; lia
      · rw [if_neg e] at h1; lia
  · show ProfOk _ (profP s.prof p (topW s.rs p))
    rw [← hw]
    refine R.pr.step hp fun j h6 i => ?_
    show sentF ((plF rs).getD i []) ((t.set p (t.getD p 0 + 1)).getD i 0) (fi j) = _
    rw [getD_set hpt]
    by_cases e : i = p
    · subst e
      rw [if_pos rfl, sent_step (hpl3 i hp), hw1]
      refine congrArg _ ?_
      by_cases e : w.1 = fi j
      · rw [if_pos e, if_pos ⟨rfl, by rw [e, fi_of h6]⟩]
      · rw [if_neg e, if_neg fun h => e (by rw [← h.2, fi_val])]
    · rw [if_neg e, if_neg fun h => e h.1]; rfl
  · exact CsOk.step R.pr R.cs
theorem arr_sum {pl : List (List (Fin 6))} (h3 : ∀ i, i < 4 → (pl.getD i []).length = 3) (t : List Nat) : arrN pl t 0 + arrN pl t 1 + arrN pl t 2 + arrN pl t 3 + arrN pl t 4 + arrN pl t 5 = t.getD 0 0 + t.getD 1 0 + t.getD 2 0 + t.getD 3 0 := by
  have e : ∀ f : Nat → Nat, ((List.range 6).map f).sum = f 0 + (f 1 + (f 2 + (f 3 + (f 4 + (f 5 + 0))))) := fun f => by simp [List.range_succ_eq_map]
  have a0 := sent_sum (h3 0 (by decide)) (t.getD 0 0)
  have a1 := sent_sum (h3 1 (by decide)) (t.getD 1 0)
  have a2 := sent_sum (h3 2 (by decide)) (t.getD 2 0)
  have a3 := sent_sum (h3 3 (by decide)) (t.getD 3 0)
  rw [e] at a0 a1 a2 a3
  simp only [arr4]
  lia
theorem arr_five {pl : List (List (Fin 6))} (h5 : ∀ i, i < 4 → (pl.getD i []).count 5 = 1) (t : List Nat) : t.getD 0 0 / 3 + t.getD 1 0 / 3 + t.getD 2 0 / 3 + t.getD 3 0 / 3 ≤ arrN pl t 5 := by
  have a0 := sent_five (h5 0 (by decide)) (t.getD 0 0)
  have a1 := sent_five (h5 1 (by decide)) (t.getD 1 0)
  have a2 := sent_five (h5 2 (by decide)) (t.getD 2 0)
  have a3 := sent_five (h5 3 (by decide)) (t.getD 3 0)
  rw [arr4, show fi 5 = 5 from rfl]
  lia
theorem getD_four {t : List Nat} (h : t.length = 4) : t.getD 4 0 = 0 ∧ t.getD 5 0 = 0 := by
  match t, h with
  | [_, _, _, _], _ => exact ⟨rfl, rfl⟩
theorem sum_four {t : List Nat} (h : t.length = 4) : t.sum = t.getD 0 0 + t.getD 1 0 + t.getD 2 0 + t.getD 3 0 := by
  match t, h with
  | [a, b, c, d], _ => simp; lia
theorem RI.mass {rs : List (List Wd)} {wk t : List Nat} {s : R1} (hr : rs.length = 4) (hr3 : ∀ i, i < 4 → (rs.getD i []).length = 3) (hw : wk.length = 4) (R : RI rs wk t s) : s.held.getD 0 0 + s.held.getD 1 0 + s.held.getD 2 0 + s.held.getD 3 0 + s.held.getD 4 0 + s.held.getD 5 0 = wk.sum := by
  have hpl3 : ∀ i, i < 4 → ((plF rs).getD i []).length = 3 := fun i hi => by rw [pl_at (by lia), List.length_map]; exact hr3 i hi
  have a := arr_sum hpl3 t
  have h0 := R.held 0 (by decide); have h1 := R.held 1 (by decide); have h2 := R.held 2 (by decide)
  have h3 := R.held 3 (by decide); have h4 := R.held 4 (by decide); have h5 := R.held 5 (by decide)
  obtain ⟨t5, t6⟩ := getD_four R.t4
  obtain ⟨w5, w6⟩ := getD_four hw
  have hs := sum_four hw
  lia
theorem RI.bound {rs : List (List Wd)} {wk t : List Nat} {s : R1} (hr : rs.length = 4) (hr3 : ∀ i, i < 4 → (rs.getD i []).length = 3) (h5 : ∀ i, i < 4 → ((plF rs).getD i []).count 5 = 1) (hw : wk.length = 4) (hw3 : wk.sum ≤ 3) (R : RI rs wk t s) : t.getD 0 0 + t.getD 1 0 + t.getD 2 0 + t.getD 3 0 ≤ 17 ∧ ∀ i, t.getD i 0 ≤ 15 := by
  have a := R.mass hr hr3 hw
  have b := arr_five h5 t
  have h5 := R.held 5 (by decide)
  obtain ⟨t5, t6⟩ := getD_four R.t4
  obtain ⟨w5, w6⟩ := getD_four hw
  refine ⟨by lia, fun i => ?_⟩
  match i with
  | 0 => lia
  | 1 => lia
  | 2 => lia
  | 3 => lia
  | i + 4 =>
    have : t.getD (i + 4) 0 = 0 := by
      rw [List.getD_eq_getElem?_getD, List.getElem?_eq_none (by rw [R.t4]; lia)]; rfl
    lia
theorem pick_some {e : Bool} {held : List Nat} {i : Nat} (h : pickF e (readyF held) = some i) : i < 4 ∧ 0 < held.getD i 0 := by
  have hm : i ∈ readyF held := by
    unfold pickF at h
    cases e with
    | false => exact List.mem_of_head? h
    | true => exact List.mem_of_getLast? h
  obtain ⟨h1, h2⟩ := List.mem_filter.mp hm
  exact ⟨List.mem_range.mp h1, of_decide_eq_true h2⟩
theorem pick_none {e : Bool} {l : List Nat} (h : pickF e l = none) : l = [] := by
  unfold pickF at h
  cases e with
  | false => exact List.head?_eq_none_iff.mp h
  | true => exact List.getLast?_eq_none_iff.mp h
theorem run_spec {rs : List (List Wd)} {wk : List Nat} (hr : rs.length = 4) (hr3 : ∀ i, i < 4 → (rs.getD i []).length = 3) (h5 : ∀ i, i < 4 → ((plF rs).getD i []).count 5 = 1) (hw : wk.length = 4) (hw3 : wk.sum ≤ 3) (e : Bool) : ∀ (n : Nat) (t : List Nat) (s : R1), RI rs wk t s → 18 ≤ n + (t.getD 0 0 + t.getD 1 0 + t.getD 2 0 + t.getD 3 0) →
    ∃ s' t', runF e n s = some s' ∧ RI rs wk t' s' ∧ readyF s'.held = [] ∧ ∀ f, fixed (plF rs) wk f → leL t f → leL t' f
  | 0, t, s, R, hn => by
    have := (R.bound hr hr3 h5 hw hw3).1
    lia
  | n + 1, t, s, R, hn => by
    unfold runF
    cases hp : pickF e (readyF s.held) with
    | none => exact ⟨s, t, rfl, R, pick_none hp, fun f _ h => h⟩
    | some i =>
      obtain ⟨hi, hh⟩ := pick_some hp
      have hit : i < t.length := by rw [R.t4]; exact hi
      have hpl3 : ∀ i, i < 4 → ((plF rs).getD i []).length = 3 := fun i hi => by rw [pl_at (by lia), List.length_map]; exact hr3 i hi
      obtain ⟨s', t', a1, a2, a3, a4⟩ := run_spec hr hr3 h5 hw hw3 e n _ _ (R.step hr hr3 hi hh) (by
        simp only [getD_set hit]
        match i, hi with
        | 0, _ => rw [if_pos rfl, if_neg (show ¬ (1 : Nat) = 0 by decide), if_neg (show ¬ (2 : Nat) = 0 by decide), if_neg (show ¬ (3 : Nat) = 0 by decide)]; lia
        | 1, _ => rw [if_neg (show ¬ (0 : Nat) = 1 by decide), if_pos rfl, if_neg (show ¬ (2 : Nat) = 1 by decide), if_neg (show ¬ (3 : Nat) = 1 by decide)]; lia
        | 2, _ => rw [if_neg (show ¬ (0 : Nat) = 2 by decide), if_neg (show ¬ (1 : Nat) = 2 by decide), if_pos rfl, if_neg (show ¬ (3 : Nat) = 2 by decide)]; lia
        | 3, _ => rw [if_neg (show ¬ (0 : Nat) = 3 by decide), if_neg (show ¬ (1 : Nat) = 3 by decide), if_neg (show ¬ (2 : Nat) = 3 by decide), if_pos rfl]; lia)
      refine ⟨s', t', a1, a2, a3, fun f hf hl => a4 f hf fun j hj => ?_⟩
      rw [getD_set hit]
      by_cases ej : j = i
      · subst ej
        rw [if_pos rfl]
        have h1 := R.held j (by lia)
        have h2 := hf.2 j hj
        have h3 := arr_mono hpl3 hl j
        lia
      · rw [if_neg ej]; exact hl j hj
theorem RI.start {rs : List (List Wd)} {wk : List Nat} (hr : rs.length = 4) (hr3 : ∀ i, i < 4 → (rs.getD i []).length = 3) (hw : wk.length = 4) : RI rs wk [0, 0, 0, 0] ⟨wk ++ [0, 0], rs, [], []⟩ := by
  have r0 : ∀ i, ([0, 0, 0, 0] : List Nat).getD i 0 = 0 := fun i => by
    match i with
    | 0 => rfl
    | 1 => rfl
    | 2 => rfl
    | 3 => rfl
    | n + 4 => rfl
  constructor
  · rfl
  · simp [hw]
  · intro j hj
    rw [r0, arr4]
    simp only [r0, sent_zero]
    match wk, hw, j, hj with
    | [a, b, c, d], _, 0, _ => rfl
    | [a, b, c, d], _, 1, _ => rfl
    | [a, b, c, d], _, 2, _ => rfl
    | [a, b, c, d], _, 3, _ => rfl
    | [a, b, c, d], _, 4, _ => rfl
    | [a, b, c, d], _, 5, _ => rfl
  · exact hr
  · intro i hi
    rw [r0]
    show rs.getD i [] = (rs.getD i []).drop 0 ++ (rs.getD i []).take 0
    simp
  · intro i hi
    rw [r0]; rfl
  · exact .nil
  · exact fun _ h => nomatch h
  · trivial
  · exact ProfOk.nil fun j i hi => by rw [r0, sent_zero]
  · exact fun _ h => nomatch h
theorem find_isSome {ps : Hs} {j : Fin 6} : (findH ps j).isSome = true ↔ j ∈ ps.map (·.1.1) := by
  unfold findH
  rw [Option.isSome_map, List.find?_isSome]
  constructor
  · rintro ⟨p, hp, e⟩
    exact List.mem_map.mpr ⟨p, hp, of_decide_eq_true e⟩
  · intro h
    obtain ⟨p, hp, e⟩ := List.mem_map.mp h
    exact ⟨p, hp, decide_eq_true e⟩
theorem RI.told {rs : List (List Wd)} {wk t : List Nat} {s : R1} (hr : rs.length = 4) (hr3 : ∀ r ∈ rs, r.length = 3) (hw : wk.length = 4) (R : RI rs wk t s) (h15 : ∀ i, t.getD i 0 ≤ 15) (hrd : readyF s.held = []) : Told1 rs wk t s := by
  have hg3 : ∀ i, i < 4 → (rs.getD i []).length = 3 := fun i hi => by
    rw [List.getD_eq_getElem?_getD, List.getElem?_eq_getElem (by lia)]; exact hr3 _ (List.getElem_mem _)
  have hz : ∀ i, i < 4 → s.held.getD i 0 = 0 := fun i hi => by
    rcases Nat.eq_zero_or_pos (s.held.getD i 0) with h | h
    · exact h
    · have : i ∈ readyF s.held := List.mem_filter.mpr ⟨List.mem_range.mpr hi, decide_eq_true h⟩
      rw [hrd] at this; cases this
  have hm := R.mass hr hg3 hw
  obtain ⟨t5, t6⟩ := getD_four R.t4
  obtain ⟨w5, w6⟩ := getD_four hw
  have e4 : s.held.getD 4 0 = sinkF (plF rs) t 4 := by
    have := R.held 4 (by decide)
    rw [t5, w5] at this
    simpa [arrN, sinkF, fi] using this
  have e5 : s.held.getD 5 0 = sinkF (plF rs) t 5 := by
    have := R.held 5 (by decide)
    rw [t6, w6] at this
    simpa [arrN, sinkF, fi] using this
  rw [hz 0 (by decide), hz 1 (by decide), hz 2 (by decide), hz 3 (by decide), e4, e5] at hm
  have hkey : ∀ i, i < 4 → (fi i ∈ s.last.map (·.1.1) ↔ 0 < t.getD i 0) := fun i hi => by
    rw [← find_isSome, R.last i hi]
    by_cases h : 0 < t.getD i 0
    · rw [if_pos h]
      obtain ⟨n, hn⟩ : ∃ n, t.getD i 0 = n + 1 := ⟨_, (Nat.succ_pred_eq_of_pos h).symm⟩
      rw [hn, turn_last (hg3 i hi)]; simp
    · rw [if_neg h]; exact ⟨fun h' => by simp at h', fun h' => absurd h' h⟩
  have hlen : s.last.length = ((List.range 4).filter fun i => decide (0 < t.getD i 0)).length := by
    have n2 : (((List.range 4).filter fun i => decide (0 < t.getD i 0)).map fi).Nodup := by
      refine List.pairwise_map.mpr (List.Pairwise.imp_of_mem (fun {a b} ha hb hne e => hne ?_) (List.Nodup.sublist List.filter_sublist List.nodup_range))
      have := List.mem_range.mp (List.mem_filter.mp ha).1
      have := List.mem_range.mp (List.mem_filter.mp hb).1
      exact fi_inj (by lia) (by lia) e
    have a := List.Nodup.length_le_of_subset R.nd (l₂ := ((List.range 4).filter fun i => decide (0 < t.getD i 0)).map fi) fun x hx => by
      obtain ⟨p, hp, e⟩ := List.mem_map.mp hx
      have h4 := R.ks p hp
      rw [e] at h4
      refine List.mem_map.mpr ⟨x.val, List.mem_filter.mpr ⟨List.mem_range.mpr h4, decide_eq_true ((hkey x.val h4).mp ?_)⟩, fi_val x⟩
      rw [fi_val]; exact hx
    have b := List.Nodup.length_le_of_subset n2 (l₂ := s.last.map (·.1.1)) fun x hx => by
      obtain ⟨i, hi, rfl⟩ := List.mem_map.mp hx
      obtain ⟨h1, h2⟩ := List.mem_filter.mp hi
      exact (hkey i (List.mem_range.mp h1)).mpr (of_decide_eq_true h2)
    rw [List.length_map, List.length_map] at a b
    lia
  constructor
  · exact hr
  · exact hr3
  · exact hw
  · exact R.t4
  · exact fun i => Nat.le_trans (h15 i) (by decide)
  · rw [← e4, ← e5]
    have hl := R.hl
    have h0 := hz 0 (by decide); have h1 := hz 1 (by decide); have h2 := hz 2 (by decide); have h3 := hz 3 (by decide)
    match h : s.held, hl with
    | [a, b, c, d, e, f], _ =>
      rw [h] at h0 h1 h2 h3
      have h0 : a = 0 := h0
      have h1 : b = 0 := h1
      have h2 : c = 0 := h2
      have h3 : d = 0 := h3
      subst h0 h1 h2 h3
      rfl
  · lia
  · exact R.s4
  · exact R.left
  · exact R.last
  · have : ((List.range 4).filter fun i => decide (0 < t.getD i 0)).length ≤ (List.range 4).length := List.length_filter_le _ _
    rw [List.length_range] at this
    lia
  · exact prof_same (fun j i hi => rfl) R.pr
  · exact Nat.le_trans R.pr.len (by decide)
  · exact fun p hp => atG_mem_nodup R.pr.nd hp
  · exact R.cs
  · rw [hlen]
    have : t = (List.range 4).map fun i => t.getD i 0 := by
      match t, R.t4 with
      | [a, b, c, d], _ => rfl
    conv => rhs; rw [this]
    rw [List.filter_map, List.length_map]; rfl
  · refine R.lead.on fun j hj => ?_
    rcases hj with h | h | h
    · exact .inl h
    · exact .inr h
    · have := j.isLt
      by_cases h4 : j.val < 4
      · rw [hz _ h4] at h; exact absurd h (by decide)
      · lia
theorem pure1 {rs : List (List Wd)} {wk : List Nat} (hr : rs.length = 4) (hr3 : ∀ r ∈ rs, r.length = 3) (h5 : ∀ r ∈ rs, (r.map (·.1)).count 5 = 1) (hw : wk.length = 4) (hw3 : wk.sum ≤ 3) :
    ∃ T s1 s2, leavF (plF rs) wk 40 [0, 0, 0, 0] = some T ∧ runF false 40 ⟨wk ++ [0, 0], rs, [], []⟩ = some s1 ∧ runF true 40 ⟨wk ++ [0, 0], rs, [], []⟩ = some s2 ∧ Told1 rs wk T s1 ∧ Told1 rs wk T s2 := by
  have hm : ∀ i, i < 4 → rs.getD i [] ∈ rs := fun i hi => by
    rw [List.getD_eq_getElem?_getD, List.getElem?_eq_getElem (by lia)]; exact List.getElem_mem _
  have hg3 : ∀ i, i < 4 → (rs.getD i []).length = 3 := fun i hi => hr3 _ (hm i hi)
  have hg5 : ∀ i, i < 4 → ((plF rs).getD i []).count 5 = 1 := fun i hi => by rw [pl_at (by lia)]; exact h5 _ (hm i hi)
  have hpl3 : ∀ i, i < 4 → ((plF rs).getD i []).length = 3 := fun i hi => by rw [pl_at (by lia), List.length_map]; exact hg3 i hi
  have key : ∀ e, ∃ T s, leavF (plF rs) wk 40 [0, 0, 0, 0] = some T ∧ runF e 40 ⟨wk ++ [0, 0], rs, [], []⟩ = some s ∧ Told1 rs wk T s := fun e => by
    obtain ⟨s, t, a1, R, a3, a4⟩ := run_spec hr hg3 hg5 hw hw3 e 40 _ _ (RI.start hr hg3 hw) (by decide)
    obtain ⟨b1, b2⟩ := R.bound hr hg3 hg5 hw hw3
    have T1 := R.told hr hr3 hw b2 a3
    have hfx : fixed (plF rs) wk t := ⟨R.t4, fun i hi => by
      have h := R.held i (by lia)
      rw [T1.held] at h
      match i, hi with
      | 0, _ => simpa using h
      | 1, _ => simpa using h
      | 2, _ => simpa using h
      | 3, _ => simpa using h⟩
    have hz : ∀ f : List Nat, leL [0, 0, 0, 0] f := fun f i hi => by
      match i, hi with
      | 0, _ => exact Nat.zero_le _
      | 1, _ => exact Nat.zero_le _
      | 2, _ => exact Nat.zero_le _
      | 3, _ => exact Nat.zero_le _
    obtain ⟨T, c1, c2, c3⟩ := leavF_spec hpl3 hfx (fun i _ => b2 i) 40 [0, 0, 0, 0] rfl (hz _) (hz _) (by
      show _ < 40 + 0
      lia)
    have : T = t := four_ext c2.1 hfx.1 fun i hi => Nat.le_antisymm (c3 i hi) (a4 T c2 (hz _) i hi)
    subst this
    exact ⟨T, s, c1, a1, T1⟩
  obtain ⟨T, s1, a1, a2, a3⟩ := key false
  obtain ⟨T', s2, b1, b2, b3⟩ := key true
  rw [a1] at b1
  cases b1
  exact ⟨T, s1, s2, a1, a2, b2, a3, b3⟩
theorem row_five (N : Nat) : ((rowW N).map (·.1)).count 5 = 1 := by
  have e : (rowW N).map (·.1) = rowN N := by
    unfold rowW
    rw [List.map_map]
    have h := rowN_len N
    refine List.ext_getElem (by simp [h]) fun i h1 h2 => ?_
    have h3 : i < 3 := by rw [h] at h2; exact h2
    rw [List.getElem_map]
    have := nameN_at N h3
    rw [List.getElem?_eq_getElem h2] at this
    rw [Option.some.inj this]
    simp [wordN]
  rw [e]
  have ha : drawA N ≠ 5 := fun h => by
    have := congrArg Fin.val h
    have : N % 5 = 5 := this
    lia
  have hb : drawB N ≠ 5 := fun h => by
    have := congrArg Fin.val h
    have : N / 5 % 5 = 5 := this
    lia
  have hp := place_lt N
  unfold rowN
  generalize placeN N = p at hp
  match p, hp with
  | 0, _ => simp [List.count_cons, ha, hb]
  | 1, _ => simp [List.count_cons, ha, hb]
  | 2, _ => simp [List.count_cons, ha, hb]
section
variable {G : Gr} {k : Nat}
theorem law1_holds (H : Is2 G) (hk : k < 8) {ns : List Int} (hl : ns.length ≤ 63) : WC G (k + 14) (.ref 316) [.list (ns.map .int)] [] [(262, .tab [])] fun d μ' => d = .bool true ∧ ∃ ds, μ' = [(262, .tab ds)] := by
  obtain ⟨Ns, hNs⟩ : ∃ Ns, Ns = (List.range 4).map (numOf begun2 ns) := ⟨_, rfl⟩
  obtain ⟨T, s1, s2, a, b, c, d, e⟩ := pure1 (rs := Ns.map rowW) (wk := wkN Ns) (by rw [hNs]; simp) (fun r hr => by
    obtain ⟨N, _, rfl⟩ := List.mem_map.mp hr
    simp [rowW]) (fun r hr => by
    obtain ⟨N, _, rfl⟩ := List.mem_map.mp hr
    exact row_five N) rfl (by
    show 1 + (Ns.getD 1 0 / 300 % 2 + (Ns.getD 2 0 / 300 % 2 + (0 + 0))) ≤ 3
    lia)
  exact law1 H hk hl hNs a b c d e
end
noncomputable def freeAt (h : Heap) (a : Addr) : Heap := h.update a fun o => { o with data := .freed }
theorem freeAt_get (h : Heap) (a b : Addr) : (freeAt h a).get? b = if b = a then none else h.get? b := by
  unfold freeAt Heap.update Heap.get?
  cases h with
  | mk objs l =>
    simp only
    rw [Array.getElem?_modify]
    by_cases e : a = b
    · subst e
      rw [if_pos rfl, if_pos rfl]
      cases objs[a]? <;> rfl
    · rw [if_neg e, if_neg (Ne.symm e)]
theorem freeAt_ne {h : Heap} {a b : Addr} {o : Obj} (e : b ≠ a) (hb : h.get? b = some o) : (freeAt h a).get? b = some o := by
  rw [freeAt_get, if_neg e]; exact hb
theorem freeAt_of {h : Heap} {a b : Addr} {o : Obj} (hb : (freeAt h a).get? b = some o) : b ≠ a ∧ h.get? b = some o := by
  rw [freeAt_get] at hb
  split at hb
  · cases hb
  · rename_i e; exact ⟨e, hb⟩
theorem free_ns {h : Heap} {a b : Addr} {m : Str → Option Value} (e : b ≠ a) (x : h.Ns b m) : (freeAt h a).Ns b m := by
  obtain ⟨o, es, ep, ho, r⟩ := x
  exact ⟨o, es, ep, freeAt_ne e ho, r⟩
theorem free_in {K : Frag} {h : Heap} {a : Addr} (X : K.In h) (e : K.lookup a = none) : K.In (freeAt h a) := fun b o hb => by
  refine freeAt_ne (fun q => ?_) (X b o hb)
  subst q; rw [e] at hb; cases hb
noncomputable def Gr.of {prog : Program} {w : World} {s₁ : Shared} {loose : List Str} {mean : ExcName → Option Value} {mg mb : Str → Option Value} (K : Frag) (a : Addr) (X : K.In s₁.heap) (hK : K.lookup a = none)
    (ht : s₁.heap.get? a = some (tabObj #[])) (h1 : mainGlobals ≠ a) (h2 : builtinsNs ≠ a) (h3 : cStatics ≠ a) (T : Top prog loose mean mg mb s₁.heap) (p : Program) : Gr where
  prog := p
  w := w
  hB := freeAt s₁.heap a
  os := s₁.os
  d := s₁.drawn
  K := K
  KX := free_in X hK
  mg := mg
  mb := mb
  ng := free_ns h1 T.g
  nb := free_ns h2 T.b
  nolimit := by
    obtain ⟨mc, x, y⟩ := T.nolimit
    exact ⟨mc, free_ns h3 x, y⟩
  builtins := T.builtins
  bmain := by
    obtain ⟨bm, ob, x1, x2, x3, x4, x5, x6⟩ := T.bmain
    refine ⟨bm, ob, x1, x2, fun e => ?_, freeAt_ne (fun e => ?_) x3, x4, x5, x6⟩
    · obtain ⟨o, es, ep, ho, hd, _⟩ := T.g
      rw [e, ho] at x3
      cases x3
      rw [hd] at x6; cases x6
    · rw [e, ht] at x3
      cases x3
      cases x6
theorem alev : ALe callerA (Lv 29) := ⟨rfl, by decide +kernel, rfl, rfl, by decide +kernel⟩
theorem R.ints {G : Gr} {φ : Fs} {P : Params} {h : Heap} : ∀ {vs : List Value} {ns : List Int}, WellAll P h vs (ns.map .int) → Rs G φ vs (ns.map D.int)
  | _, [], w => by cases w; exact .nil
  | _, n :: ns, w => by
    cases w with
    | cons a b => cases a; exact .cons (.int _ _) (R.ints b)
theorem OldK.of_step {G : Gr} {φ' : Fs} {μ' : Mu} {s s' : Shared} {a : Addr} {φ : Fs} (hs : Step G [] φ [(a, .tab [])] s φ' μ' s') (ht : s.heap.get? a = some (tabObj #[])) (hc : isCodeTable s.heap a) (hm : ∃ vs, s'.heap.get? a = some (tabObj vs)) : OldK s.heap s'.heap := by
  refine ⟨fun b o hb => ?_, hs.there⟩
  by_cases e : b = a
  · subst e
    rw [ht] at hb; cases hb
    obtain ⟨vs, h⟩ := hm
    exact .inr (.inl ⟨hc, rfl, #[], vs, rfl, by rw [h]; simp⟩)
  · exact .inl (hs.keep b o hb (fun p hp q => e (by rcases List.mem_singleton.mp hp with rfl; exact q.symm)) (fun h => nomatch h))
theorem Gr.of_inv {prog : Program} {w : World} {s₁ : Shared} {loose : List Str} {mean : ExcName → Option Value} {mg mb : Str → Option Value} {K : Frag} {a : Addr} {X : K.In s₁.heap} {hK : K.lookup a = none}
    {ht : s₁.heap.get? a = some (tabObj #[])} {h1 : mainGlobals ≠ a} {h2 : builtinsNs ≠ a} {h3 : cStatics ≠ a} {T : Top prog loose mean mg mb s₁.heap} {p : Program} (hg : s₁.gens = #[]) :
    Inv (Gr.of (w := w) K a X hK ht h1 h2 h3 T p) (freeAt s₁.heap a).get? [(a, .tab [])] s₁ where
  base := fun _ _ h => h
  sub := fun b o h => (freeAt_of h).2
  cells := fun q hq => by
    rcases List.mem_singleton.mp hq with rfl
    exact ⟨[], ht, .nil⟩
  off := fun q hq => by
    rcases List.mem_singleton.mp hq with rfl
    rw [freeAt_get, if_pos rfl]
  nd := by simp
  gens := hg
  os := rfl
  dr := rfl
theorem R.script {G : Gr} {φ : Fs} {P : Params} {h : Heap} {a : Addr} {vs : List Value} {ns : List Int} (ho : φ a = some { cls := .type "list", data := .seq vs.toArray }) (w : WellAll P h vs (ns.map .int)) : R G φ (.ref a) (.list (ns.map .int)) :=
  have r : Rs G φ vs (ns.map D.int) := R.ints w
  .list (n := 0) ho r.1 r.2
theorem pre1 {args : List WData} (hpre : PySem.Challenge.rw_pe0233_01.row.claim.pre args = true) : ∃ ns : List Int, args = [.list (ns.map .int)] ∧ ns.length ≤ 63 := by
  obtain ⟨p1, p2⟩ := pre_splitW hpre
  obtain ⟨d, r, e1, q1, q2⟩ := hasAllW_cons (e := .list .int) (es := []) p1
  obtain rfl := hasAllW_nil q2
  obtain ⟨xs, rfl, q3⟩ := hasW_list q1
  obtain ⟨ns, rfl⟩ := items_int q3
  subst e1
  refine ⟨ns, rfl, Nat.le_of_not_lt fun h => ?_⟩
  have p3 : WTm.holds [] (.and (.not (.lt (.lit (.int 63)) (.len (.arg 0)))) (.lit (.bool true))) { args := [.list (ns.map .int)] } = true := p2
  have e : decide ((63 : Int) < (ns.length : Int)) = true := decide_eq_true (Int.ofNat_lt.mpr h)
  simp only [WTm.holds, WTm.value, W.less?, List.getElem?_cons_zero, List.length_map] at p3
  rw [show Num.less? (.int 63) (.int (ns.length : Int)) = some (decide ((63 : Int) < (ns.length : Int))) from rfl, e] at p3
  cases p3
theorem post1 (ns : List Int) : PySem.Challenge.rw_pe0233_01.row.claim.post [.list (ns.map .int)] (.bool true) [.list (ns.map .int)] = true := by kernel_rfl
theorem core1 {w : World} {s₁ : Shared} {loose : List Str} {mean : ExcName → Option Value} {mg mb : Str → Option Value} {q : Program} (T : Top q loose mean mg mb s₁.heap) (X : (heap2 w.params).In s₁.heap) (ht : s₁.heap.get? 262 = some (tabObj #[])) (hg : s₁.gens = #[])
    {ns : List Int} (hl : ns.length ≤ 63) {vals : List Value} (hwl : WellAll w.params s₁.heap vals [.list (ns.map .int)]) :
    wpAny (model PySem.Challenge.rw_pe0233_01.row.prog w) callerA (call (.ref 316) vals) (fun v s' => v = .bool true ∧ OldK s₁.heap s'.heap ∧ s'.os = s₁.os ∧ s'.gens = #[]) (fun _ _ => False) s₁ := by
  have hK : (heap2 w.params).lookup 262 = none := by kernel_rfl
  obtain ⟨v, vs', rfl, wv, wn⟩ := wellAll_cons_inv hwl
  cases wn
  cases wv with
  | @list a vs _ ha hvs =>
  have ha4 : a ≠ 262 := fun e => by
    rw [e, ht] at ha; cases ha
  obtain ⟨G, hG, I, r, hc, hM, hos⟩ : ∃ G : Gr, Is2 G ∧ Inv G (freeAt s₁.heap 262).get? [(262, .tab [])] s₁ ∧ R G (freeAt s₁.heap 262).get? (.ref a) (.list (ns.map .int)) ∧ isCodeTable s₁.heap 262 ∧ G.M = model PySem.Challenge.rw_pe0233_01.row.prog w ∧ G.os = s₁.os :=
    ⟨Gr.of (w := w) (heap2 w.params) 262 X hK ht (by decide) (by decide) (by decide) T PySem.Challenge.rw_pe0233_01.row.prog, ⟨rfl⟩, Gr.of_inv hg, R.script (freeAt_ne ha4 ha) hvs, (codeHd_of (c := 266) (G := Gr.of (w := w) (heap2 w.params) 262 X hK ht (by decide) (by decide) (by decide) T PySem.Challenge.rw_pe0233_01.row.prog) X (by kernel_rfl)).2, rfl, rfl⟩
  rw [← hM]
  refine wpAny_call (codeAny_mono (codeAny_le (codeAny_le (law1_holds hG (k := 0) (by lia) hl _ s₁ [.ref a] [] I (.cons r .nil) ⟨rfl, .nil⟩) (lv_le (k := 29) (by lia))) alev) fun res s' hres => ?_)
  match res, hres with
  | .ok (.ret v), ⟨d, φ', μ', hs, r, hd1, ds, hm⟩ =>
    subst hd1 hm
    obtain ⟨vs2, h2, -⟩ := hs.inv.cells (262, .tab ds) (List.mem_singleton.mpr rfl)
    exact ⟨R.bool_iff.mp r, OldK.of_step hs ht hc ⟨vs2.toArray, h2⟩, hs.inv.os.trans hos, hs.inv.gens⟩
end Mine
theorem PySem.Challenge.cw_pe0233_01_holds : PySem.Challenge.rw_pe0233_01.Holds := by
  refine holds_law Mine.said1 fun said => ?_
  refine holds_open (q := Mine.view2) (loose := Mine.loose2) (Xt := fun s => xlAt Mine.view2 [] s && recOk (RowW.records PySem.Challenge.rw_pe0233_01.row.toRowW) s) (XP := XL Mine.view2 []) (Yf := Hook.obs Mine.hook2) (Ya := Hook.val Mine.hook2) (YP := Hook.says Mine.hook2) (N := 3622) Mine.left2 (Hook.of Mine.hook2) (Hook.keeps Mine.hook2) (fun s e => xl_of s (Bool.and_eq_true_iff.mp e).1) XL.keeps (by rfl) (by rfl) (by rfl) (fun s e => recFacts_of (Bool.and_eq_true_iff.mp e).2) (by rfl) (by first | assumption | decide +kernel) (by decide +kernel) ⟨rfl, rfl, rfl, rfl, rfl, by decide +kernel⟩ ?hw ?hc
  case hw => w_witness2
  case hc =>
    intro w s₀ s₁ mg mb G Y fa o pm cd doc dV kV ho hd hcd hD hmg hg args vals as hpre hlay hrd hwl hlo
    have X := km_in_of Y
    have ht := km_tabs_of Y 262 (List.mem_singleton.mpr rfl)
    obtain ⟨ns, rfl, hl⟩ := Mine.pre1 hpre
    have hfa : fa = 316 := by
      have h1 : mg (Str.ofString "law") = some (.ref 316) := mg_of X G.T.g (by kernel_rfl)
      have h2 : mg (Str.ofString "law") = some (.ref fa) := hmg
      exact Value.ref.inj (Option.some.inj (h2.symm.trans h1))
    subst hfa
    exact wpAny_mono (Mine.core1 G.T X ht hg hl hwl) (fun v s' ⟨e, k, os, gn⟩ => e ▸ ⟨.inl ⟨.bool true, .bool true, [], rfl, fun _ => rfl, .bool true, Mine.post1 ns, fun _ => ⟨.nil, fun _ h => nomatch h⟩⟩, k, os, .of_eq gn⟩) fun _ _ h => h.elim
