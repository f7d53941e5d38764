import PyProof.Rows.All
import Wide.All
import OpenK.AllK
import Wide.FinOn
import PySem.Challenge.RW_it0027_01
set_option Elab.async false
set_option linter.all false
set_option compiler.extract_closed false
namespace Mine
local macro_rules | `(tactic| k_ne) => `(tactic| first | assumption | exact Ne.symm (by assumption) | exact Nat.ne_of_lt (by assumption) | exact Nat.ne_of_gt (by assumption) | (refine neN ?_; (try dsimp only); omega))
local macro_rules | `(tactic| k_mem) => `(tactic| (refine List.mem_append_right _ ?_; k_mem))
section T_HD
open PySem PySem.W PyProof.Rows
set_option maxRecDepth 100000
set_option maxHeartbeats 8000000
noncomputable def fD0 : Str × Arguments × List Stmt × Scope := (⟨#[]⟩, ⟨[], [], none, [], [], none, []⟩, [], ⟨.function, [], false, false, []⟩)
noncomputable def fDef (st : Stmt) : Str × Arguments × List Stmt × Scope :=
  @Stmt.casesOn (fun _ => Str × Arguments × List Stmt × Scope) st (fun n a b _ _ _ s _ _ _ => (n, a, b, s)) (fun _ _ _ _ _ _ _ _ _ _ => fD0) (fun _ _ _ b _ _ _ _ _ _ _ => (fD0.1, fD0.2.1, b, fD0.2.2.2)) (fun _ _ => fD0) (fun _ _ => fD0) (fun _ _ _ => fD0) (fun _ _ _ _ _ _ _ => fD0) (fun _ _ _ _ => fD0) (fun _ _ _ _ _ => fD0) (fun _ _ _ _ _ => fD0) (fun _ _ _ _ _ => fD0) (fun _ _ _ _ => fD0) (fun _ _ _ _ => fD0) (fun _ _ _ => fD0) (fun _ _ _ => fD0) (fun _ _ _ => fD0) (fun _ _ _ => fD0) (fun _ _ _ _ _ => fD0) (fun _ _ _ _ _ => fD0) (fun _ _ _ => fD0) (fun _ _ => fD0) (fun _ _ _ _ => fD0) (fun _ _ => fD0) (fun _ _ => fD0) (fun _ _ => fD0) (fun _ => fD0) (fun _ => fD0) (fun _ => fD0)
noncomputable def fName (st : Stmt) : Str := (fDef st).1
noncomputable def fParams (st : Stmt) : Arguments := (fDef st).2.1
noncomputable def fBody (st : Stmt) : List Stmt := (fDef st).2.2.1
noncomputable def fScope (st : Stmt) : Scope := (fDef st).2.2.2
noncomputable def fAt (ss : List Stmt) (i : Nat) : Stmt := ss.getD i (.Pass ⟨0, 0, 0, 0⟩)
noncomputable def fTop (i : Nat) : Stmt := fAt PySem.Challenge.pw_it0027_01.main.body i
noncomputable def fSub (i j : Nat) : Stmt := fAt (fBody (fTop i)) j

noncomputable def hd.heap_39 (P : Params) : Frag := 
  (nat_lit 2, { cls := Value.none, data := Data.dict #[{ hash := PyData.keyHash P (Str.ofString "type.__subclasses__.Exception.0"), key := Value.str (Str.ofString "type.__subclasses__.Exception.0") (nat_lit 212), val := Value.int 31 0 }, { hash := PyData.keyHash P (Str.ofString "type.__subclasses__.Exception.n"), key := Value.str (Str.ofString "type.__subclasses__.Exception.n") (nat_lit 213), val := Value.int 1 0 }] 2 }) ::
  (nat_lit 3, { cls := Value.type "dict", data := Data.dict #[{ hash := PyData.keyHash P (Str.ofString "__name__"), key := Value.str (Str.ofString "__name__") (nat_lit 165), val := Value.str (Str.ofString "law_it0027_01") (nat_lit 475) }, { hash := PyData.keyHash P (Str.ofString "__doc__"), key := Value.str (Str.ofString "__doc__") (nat_lit 166), val := Value.none }, { hash := PyData.keyHash P (Str.ofString "__package__"), key := Value.str (Str.ofString "__package__") (nat_lit 167), val := Value.none }, { hash := PyData.keyHash P (Str.ofString "__loader__"), key := Value.str (Str.ofString "__loader__") (nat_lit 168), val := Value.builtin "__main__.__loader__#opaque" }, { hash := PyData.keyHash P (Str.ofString "__spec__"), key := Value.str (Str.ofString "__spec__") (nat_lit 169), val := Value.none }, { hash := PyData.keyHash P (Str.ofString "__annotations__"), key := Value.str (Str.ofString "__annotations__") (nat_lit 170), val := Value.ref 6 }, { hash := PyData.keyHash P (Str.ofString "__builtins__"), key := Value.str (Str.ofString "__builtins__") (nat_lit 171), val := Value.ref 4 }, { hash := PyData.keyHash P (Str.ofString "__file__"), key := Value.str (Str.ofString "__file__") (nat_lit 173), val := Value.str (Str.ofString "/claim/cut.py") (nat_lit 172) }, { hash := PyData.keyHash P (Str.ofString "__cached__"), key := Value.str (Str.ofString "__cached__") (nat_lit 174), val := Value.none }, { hash := PyData.keyHash P (Str.ofString "_wall"), key := Value.str (Str.ofString "_wall") (nat_lit 193), val := Value.ref 21 }, { hash := PyData.keyHash P (Str.ofString "RLPException"), key := Value.str (Str.ofString "RLPException") (nat_lit 215), val := Value.ref 31 }, { hash := PyData.keyHash P (Str.ofString "DecodingError"), key := Value.str (Str.ofString "DecodingError") (nat_lit 243), val := Value.ref 53 }, { hash := PyData.keyHash P (Str.ofString "DeserializationError"), key := Value.str (Str.ofString "DeserializationError") (nat_lit 271), val := Value.ref 74 }, { hash := PyData.keyHash P (Str.ofString "big_endian_to_int"), key := Value.str (Str.ofString "big_endian_to_int") (nat_lit 280), val := Value.ref 83 }, { hash := PyData.keyHash P (Str.ofString "SHORT_STRING"), key := Value.str (Str.ofString "SHORT_STRING") (nat_lit 286), val := Value.int 184 285 }, { hash := PyData.keyHash P (Str.ofString "consume_length_prefix"), key := Value.str (Str.ofString "consume_length_prefix") (nat_lit 298), val := Value.ref 90 }, { hash := PyData.keyHash P (Str.ofString "consume_payload"), key := Value.str (Str.ofString "consume_payload") (nat_lit 320), val := Value.ref 97 }, { hash := PyData.keyHash P (Str.ofString "decode_lazy"), key := Value.str (Str.ofString "decode_lazy") (nat_lit 332), val := Value.ref 105 }, { hash := PyData.keyHash P (Str.ofString "consume_item_lazy"), key := Value.str (Str.ofString "consume_item_lazy") (nat_lit 347), val := Value.ref 112 }, { hash := PyData.keyHash P (Str.ofString "LazyList"), key := Value.str (Str.ofString "LazyList") (nat_lit 411), val := Value.ref 151 }, { hash := PyData.keyHash P (Str.ofString "peek"), key := Value.str (Str.ofString "peek") (nat_lit 422), val := Value.ref 163 }, { hash := PyData.keyHash P (Str.ofString "BigEndianInt"), key := Value.str (Str.ofString "BigEndianInt") (nat_lit 469), val := Value.ref 195 }, { hash := PyData.keyHash P (Str.ofString "big_endian_int"), key := Value.str (Str.ofString "big_endian_int") (nat_lit 474), val := Value.ref 201 }, { hash := PyData.keyHash P (Str.ofString "_law_sizes"), key := Value.str (Str.ofString "_law_sizes") (nat_lit 482), val := Value.ref 209 }, { hash := PyData.keyHash P (Str.ofString "_law_octets"), key := Value.str (Str.ofString "_law_octets") (nat_lit 492), val := Value.ref 216 }, { hash := PyData.keyHash P (Str.ofString "_law_tree"), key := Value.str (Str.ofString "_law_tree") (nat_lit 504), val := Value.ref 223 }, { hash := PyData.keyHash P (Str.ofString "_law_head"), key := Value.str (Str.ofString "_law_head") (nat_lit 513), val := Value.ref 230 }, { hash := PyData.keyHash P (Str.ofString "_law_put"), key := Value.str (Str.ofString "_law_put") (nat_lit 522), val := Value.ref 237 }, { hash := PyData.keyHash P (Str.ofString "_law_read"), key := Value.str (Str.ofString "_law_read") (nat_lit 532), val := Value.ref 244 }, { hash := PyData.keyHash P (Str.ofString "_law_tells"), key := Value.str (Str.ofString "_law_tells") (nat_lit 542), val := Value.ref 251 }, { hash := PyData.keyHash P (Str.ofString "_law_way"), key := Value.str (Str.ofString "_law_way") (nat_lit 549), val := Value.ref 258 }, { hash := PyData.keyHash P (Str.ofString "_law_at"), key := Value.str (Str.ofString "_law_at") (nat_lit 558), val := Value.ref 265 }, { hash := PyData.keyHash P (Str.ofString "_law_end"), key := Value.str (Str.ofString "_law_end") (nat_lit 564), val := Value.ref 270 }, { hash := PyData.keyHash P (Str.ofString "_law_digits"), key := Value.str (Str.ofString "_law_digits") (nat_lit 572), val := Value.ref 277 }, { hash := PyData.keyHash P (Str.ofString "_law_refused"), key := Value.str (Str.ofString "_law_refused") (nat_lit 579), val := Value.ref 284 }, { hash := PyData.keyHash P (Str.ofString "law"), key := Value.str (Str.ofString "law") (nat_lit 585), val := Value.ref 289 }] 36 }) ::
  (nat_lit 15, { cls := Value.type "tuple", data := Data.seq #[] }) ::
  (nat_lit 17, { cls := Value.type "tuple", data := Data.seq #[Value.str (Str.ofString "k") (nat_lit 190)] }) ::
  (nat_lit 18, { cls := Value.type "tuple", data := Data.seq #[] }) ::
  (nat_lit 20, { cls := Value.type "code", data := Data.fields #[Value.str (Str.ofString "_wall") (nat_lit 187), Value.str (Str.ofString "_wall") (nat_lit 188), Value.str (Str.ofString "/claim/cut.py") (nat_lit 189), Value.int 1 0, Value.int 1 0, Value.int 0 0, Value.int 0 0, Value.int 3 0, Value.ref 15, Value.bool true, Value.int 181 0, Value.ref 16, Value.none, Value.ref 17, Value.ref 18, Value.ref 19, Value.int 191 0, Value.int 1 0, Value.str (Str.ofString "/claim/cut.py") (nat_lit 192)] }) ::
  (nat_lit 21, { cls := Value.type "function", data := Data.func { name := Str.ofString "_wall", qualname := Str.ofString "_wall", params := Mine.fParams (Mine.fTop 0), body := FuncBody.stmts (Mine.fBody (Mine.fTop 0)), scope := Mine.fScope (Mine.fTop 0), globals := 3, closure := [], defaults := Value.none, kwdefaults := Value.none, pyModule := Value.str (Str.ofString "__main__") (nat_lit 164), code := Value.ref 20 } }) ::
  (nat_lit 22, { cls := Value.type "tuple", data := Data.seq #[Value.type "Exception"] }) ::
  (nat_lit 29, { cls := Value.type "tuple", data := Data.seq #[] }) ::
  (nat_lit 30, { cls := Value.type "dict", data := Data.dict #[{ hash := PyData.keyHash P (Str.ofString "__module__"), key := Value.str (Str.ofString "__module__") (nat_lit 203), val := Value.str (Str.ofString "rlp.exceptions") (nat_lit 194) }, { hash := PyData.keyHash P (Str.ofString "__firstlineno__"), key := Value.str (Str.ofString "__firstlineno__") (nat_lit 207), val := Value.int 5 206 }, { hash := PyData.keyHash P (Str.ofString "__static_attributes__"), key := Value.str (Str.ofString "__static_attributes__") (nat_lit 208), val := Value.ref 29 }, { hash := PyData.keyHash P (Str.ofString "__weakref__"), key := Value.str (Str.ofString "__weakref__") (nat_lit 210), val := Value.ref 32 }, { hash := PyData.keyHash P (Str.ofString "__doc__"), key := Value.str (Str.ofString "__doc__") (nat_lit 211), val := Value.none }] 3 }) ::
  (nat_lit 31, { cls := Value.type "type", data := Data.cls { name := Str.ofString "RLPException", bases := [Value.type "Exception"], mro := [Value.ref 31, Value.type "Exception", Value.type "BaseException", Value.type "object"], ns := 30, qualname := Str.ofString "RLPException", subclasses := [Value.ref 53, Value.ref 74] }, slots := #[some (Value.ref 22), none, some (Value.str (Str.ofString "RLPException") (nat_lit 196)), some (Value.str (Str.ofString "RLPException") (nat_lit 204)), some (Value.builtin "Exception.__new__"), some (Value.bool true)] }) ::
  (nat_lit 32, { cls := Value.type "getset_descriptor", data := Data.fields #[Value.str (Str.ofString "__weakref__") (nat_lit 209), Value.ref 31, Value.builtin "ExceptionGroup.__weakref__", Value.none] }) ::
  (nat_lit 35, { cls := Value.type "tuple", data := Data.seq #[Value.ref 31] }) ::
  (nat_lit 38, { cls := Value.type "cell", data := Data.cell (some (Value.ref 53)) }) ::
  (nat_lit 43, { cls := Value.type "tuple", data := Data.seq #[Value.ref 38] }) ::
  (nat_lit 44, { cls := Value.type "tuple", data := Data.seq #[Value.str (Str.ofString "__class__") (nat_lit 231)] }) ::
  (nat_lit 46, { cls := Value.type "tuple", data := Data.seq #[Value.str (Str.ofString "self") (nat_lit 232), Value.str (Str.ofString "message") (nat_lit 233), Value.str (Str.ofString "rlp") (nat_lit 234)] }) ::
  (nat_lit 47, { cls := Value.type "tuple", data := Data.seq #[] }) ::
  (nat_lit 49, { cls := Value.type "code", data := Data.fields #[Value.str (Str.ofString "__init__") (nat_lit 228), Value.str (Str.ofString "DecodingError.__init__") (nat_lit 229), Value.str (Str.ofString "/claim/cut.py") (nat_lit 230), Value.int 9 0, Value.int 3 0, Value.int 0 0, Value.int 0 0, Value.int 3 0, Value.ref 44, Value.bool true, Value.int 181 0, Value.ref 45, Value.none, Value.ref 46, Value.ref 47, Value.ref 48, Value.int 235 0, Value.int 9 0, Value.str (Str.ofString "/claim/cut.py") (nat_lit 236)] }) ::
  (nat_lit 50, { cls := Value.type "function", data := Data.func { name := Str.ofString "__init__", qualname := Str.ofString "DecodingError.__init__", params := Mine.fParams (Mine.fSub 3 0), body := FuncBody.stmts (Mine.fBody (Mine.fSub 3 0)), scope := Mine.fScope (Mine.fSub 3 0), globals := 3, closure := [(Str.ofString "__class__", 38)], defaults := Value.none, kwdefaults := Value.none, pyModule := Value.str (Str.ofString "rlp.exceptions") (nat_lit 194), code := Value.ref 49, closureTuple := Value.ref 43 } }) ::
  (nat_lit 51, { cls := Value.type "tuple", data := Data.seq #[Value.str (Str.ofString "rlp") (nat_lit 238)] }) ::
  (nat_lit 52, { cls := Value.type "dict", data := Data.dict #[{ hash := PyData.keyHash P (Str.ofString "__module__"), key := Value.str (Str.ofString "__module__") (nat_lit 223), val := Value.str (Str.ofString "rlp.exceptions") (nat_lit 194) }, { hash := PyData.keyHash P (Str.ofString "__firstlineno__"), key := Value.str (Str.ofString "__firstlineno__") (nat_lit 227), val := Value.int 7 226 }, { hash := PyData.keyHash P (Str.ofString "__init__"), key := Value.str (Str.ofString "__init__") (nat_lit 237), val := Value.ref 50 }, { hash := PyData.keyHash P (Str.ofString "__static_attributes__"), key := Value.str (Str.ofString "__static_attributes__") (nat_lit 239), val := Value.ref 51 }, { hash := PyData.keyHash P (Str.ofString "__doc__"), key := Value.str (Str.ofString "__doc__") (nat_lit 241), val := Value.none }] 3 }) ::
  (nat_lit 53, { cls := Value.type "type", data := Data.cls { name := Str.ofString "DecodingError", bases := [Value.ref 31], mro := [Value.ref 53, Value.ref 31, Value.type "Exception", Value.type "BaseException", Value.type "object"], ns := 52, qualname := Str.ofString "DecodingError" }, slots := #[some (Value.ref 35), none, some (Value.str (Str.ofString "DecodingError") (nat_lit 216)), some (Value.str (Str.ofString "DecodingError") (nat_lit 224)), some (Value.builtin "Exception.__new__"), some (Value.bool true)] }) ::
  (nat_lit 56, { cls := Value.type "tuple", data := Data.seq #[Value.ref 31] }) ::
  (nat_lit 59, { cls := Value.type "cell", data := Data.cell (some (Value.ref 74)) }) ::
  (nat_lit 64, { cls := Value.type "tuple", data := Data.seq #[Value.ref 59] }) ::
  (nat_lit 65, { cls := Value.type "tuple", data := Data.seq #[Value.str (Str.ofString "__class__") (nat_lit 259)] }) ::
  (nat_lit 67, { cls := Value.type "tuple", data := Data.seq #[Value.str (Str.ofString "self") (nat_lit 260), Value.str (Str.ofString "message") (nat_lit 261), Value.str (Str.ofString "serial") (nat_lit 262)] }) ::
  (nat_lit 68, { cls := Value.type "tuple", data := Data.seq #[] }) ::
  (nat_lit 70, { cls := Value.type "code", data := Data.fields #[Value.str (Str.ofString "__init__") (nat_lit 256), Value.str (Str.ofString "DeserializationError.__init__") (nat_lit 257), Value.str (Str.ofString "/claim/cut.py") (nat_lit 258), Value.int 14 0, Value.int 3 0, Value.int 0 0, Value.int 0 0, Value.int 3 0, Value.ref 65, Value.bool true, Value.int 181 0, Value.ref 66, Value.none, Value.ref 67, Value.ref 68, Value.ref 69, Value.int 263 0, Value.int 14 0, Value.str (Str.ofString "/claim/cut.py") (nat_lit 264)] }) ::
  (nat_lit 71, { cls := Value.type "function", data := Data.func { name := Str.ofString "__init__", qualname := Str.ofString "DeserializationError.__init__", params := Mine.fParams (Mine.fSub 4 0), body := FuncBody.stmts (Mine.fBody (Mine.fSub 4 0)), scope := Mine.fScope (Mine.fSub 4 0), globals := 3, closure := [(Str.ofString "__class__", 59)], defaults := Value.none, kwdefaults := Value.none, pyModule := Value.str (Str.ofString "rlp.exceptions") (nat_lit 194), code := Value.ref 70, closureTuple := Value.ref 64 } }) ::
  (nat_lit 72, { cls := Value.type "tuple", data := Data.seq #[Value.str (Str.ofString "serial") (nat_lit 266)] }) ::
  (nat_lit 73, { cls := Value.type "dict", data := Data.dict #[{ hash := PyData.keyHash P (Str.ofString "__module__"), key := Value.str (Str.ofString "__module__") (nat_lit 251), val := Value.str (Str.ofString "rlp.exceptions") (nat_lit 194) }, { hash := PyData.keyHash P (Str.ofString "__firstlineno__"), key := Value.str (Str.ofString "__firstlineno__") (nat_lit 255), val := Value.int 12 254 }, { hash := PyData.keyHash P (Str.ofString "__init__"), key := Value.str (Str.ofString "__init__") (nat_lit 265), val := Value.ref 71 }, { hash := PyData.keyHash P (Str.ofString "__static_attributes__"), key := Value.str (Str.ofString "__static_attributes__") (nat_lit 267), val := Value.ref 72 }, { hash := PyData.keyHash P (Str.ofString "__doc__"), key := Value.str (Str.ofString "__doc__") (nat_lit 269), val := Value.none }] 3 }) ::
  (nat_lit 74, { cls := Value.type "type", data := Data.cls { name := Str.ofString "DeserializationError", bases := [Value.ref 31], mro := [Value.ref 74, Value.ref 31, Value.type "Exception", Value.type "BaseException", Value.type "object"], ns := 73, qualname := Str.ofString "DeserializationError" }, slots := #[some (Value.ref 56), none, some (Value.str (Str.ofString "DeserializationError") (nat_lit 244)), some (Value.str (Str.ofString "DeserializationError") (nat_lit 252)), some (Value.builtin "Exception.__new__"), some (Value.bool true)] }) ::
  (nat_lit 77, { cls := Value.type "tuple", data := Data.seq #[] }) ::
  (nat_lit 79, { cls := Value.type "tuple", data := Data.seq #[Value.str (Str.ofString "value") (nat_lit 277)] }) ::
  (nat_lit 80, { cls := Value.type "tuple", data := Data.seq #[] }) ::
  (nat_lit 82, { cls := Value.type "code", data := Data.fields #[Value.str (Str.ofString "big_endian_to_int") (nat_lit 274), Value.str (Str.ofString "big_endian_to_int") (nat_lit 275), Value.str (Str.ofString "/claim/cut.py") (nat_lit 276), Value.int 18 0, Value.int 1 0, Value.int 0 0, Value.int 0 0, Value.int 3 0, Value.ref 77, Value.bool true, Value.int 181 0, Value.ref 78, Value.none, Value.ref 79, Value.ref 80, Value.ref 81, Value.int 278 0, Value.int 18 0, Value.str (Str.ofString "/claim/cut.py") (nat_lit 279)] }) ::
  (nat_lit 83, { cls := Value.type "function", data := Data.func { name := Str.ofString "big_endian_to_int", qualname := Str.ofString "big_endian_to_int", params := Mine.fParams (Mine.fTop 6), body := FuncBody.stmts (Mine.fBody (Mine.fTop 6)), scope := Mine.fScope (Mine.fTop 6), globals := 3, closure := [], defaults := Value.none, kwdefaults := Value.none, pyModule := Value.str (Str.ofString "rlp.utils") (nat_lit 272), code := Value.ref 82 } }) ::
  (nat_lit 84, { cls := Value.type "tuple", data := Data.seq #[] }) ::
  (nat_lit 86, { cls := Value.type "tuple", data := Data.seq #[Value.str (Str.ofString "rlp") (nat_lit 290), Value.str (Str.ofString "start") (nat_lit 291), Value.str (Str.ofString "b0") (nat_lit 292), Value.str (Str.ofString "ll") (nat_lit 293), Value.str (Str.ofString "len_prefix") (nat_lit 294), Value.str (Str.ofString "l") (nat_lit 295)] }) ::
  (nat_lit 87, { cls := Value.type "tuple", data := Data.seq #[] }) ::
  (nat_lit 89, { cls := Value.type "code", data := Data.fields #[Value.str (Str.ofString "consume_length_prefix") (nat_lit 287), Value.str (Str.ofString "consume_length_prefix") (nat_lit 288), Value.str (Str.ofString "/claim/cut.py") (nat_lit 289), Value.int 22 0, Value.int 2 0, Value.int 0 0, Value.int 0 0, Value.int 3 0, Value.ref 84, Value.bool true, Value.int 181 0, Value.ref 85, Value.none, Value.ref 86, Value.ref 87, Value.ref 88, Value.int 296 0, Value.int 22 0, Value.str (Str.ofString "/claim/cut.py") (nat_lit 297)] }) ::
  (nat_lit 90, { cls := Value.type "function", data := Data.func { name := Str.ofString "consume_length_prefix", qualname := Str.ofString "consume_length_prefix", params := Mine.fParams (Mine.fTop 9), body := FuncBody.stmts (Mine.fBody (Mine.fTop 9)), scope := Mine.fScope (Mine.fTop 9), globals := 3, closure := [], defaults := Value.none, kwdefaults := Value.none, pyModule := Value.str (Str.ofString "rlp.codec") (nat_lit 281), code := Value.ref 89 } }) ::
  (nat_lit 91, { cls := Value.type "tuple", data := Data.seq #[] }) ::
  (nat_lit 93, { cls := Value.type "tuple", data := Data.seq #[Value.str (Str.ofString "rlp") (nat_lit 302), Value.str (Str.ofString "prefix") (nat_lit 303), Value.str (Str.ofString "start") (nat_lit 304), Value.str (Str.ofString "type_") (nat_lit 305), Value.str (Str.ofString "length") (nat_lit 306), Value.str (Str.ofString "item") (nat_lit 307), Value.str (Str.ofString "items") (nat_lit 308), Value.str (Str.ofString "per_item_rlp") (nat_lit 309), Value.str (Str.ofString "list_rlp") (nat_lit 310), Value.str (Str.ofString "next_item_start") (nat_lit 311), Value.str (Str.ofString "end") (nat_lit 312), Value.str (Str.ofString "p") (nat_lit 313), Value.str (Str.ofString "t") (nat_lit 314), Value.str (Str.ofString "l") (nat_lit 315), Value.str (Str.ofString "s") (nat_lit 316), Value.str (Str.ofString "item_rlp") (nat_lit 317)] }) ::
  (nat_lit 94, { cls := Value.type "tuple", data := Data.seq #[] }) ::
  (nat_lit 96, { cls := Value.type "code", data := Data.fields #[Value.str (Str.ofString "consume_payload") (nat_lit 299), Value.str (Str.ofString "consume_payload") (nat_lit 300), Value.str (Str.ofString "/claim/cut.py") (nat_lit 301), Value.int 50 0, Value.int 5 0, Value.int 0 0, Value.int 0 0, Value.int 3 0, Value.ref 91, Value.bool true, Value.int 181 0, Value.ref 92, Value.none, Value.ref 93, Value.ref 94, Value.ref 95, Value.int 318 0, Value.int 50 0, Value.str (Str.ofString "/claim/cut.py") (nat_lit 319)] }) ::
  (nat_lit 97, { cls := Value.type "function", data := Data.func { name := Str.ofString "consume_payload", qualname := Str.ofString "consume_payload", params := Mine.fParams (Mine.fTop 10), body := FuncBody.stmts (Mine.fBody (Mine.fTop 10)), scope := Mine.fScope (Mine.fTop 10), globals := 3, closure := [], defaults := Value.none, kwdefaults := Value.none, pyModule := Value.str (Str.ofString "rlp.codec") (nat_lit 281), code := Value.ref 96 } }) ::
  (nat_lit 98, { cls := Value.type "tuple", data := Data.seq #[Value.none] }) ::
  (nat_lit 99, { cls := Value.type "tuple", data := Data.seq #[] }) ::
  (nat_lit 101, { cls := Value.type "tuple", data := Data.seq #[Value.str (Str.ofString "rlp") (nat_lit 326), Value.str (Str.ofString "sedes") (nat_lit 327), Value.str (Str.ofString "item") (nat_lit 328), Value.str (Str.ofString "end") (nat_lit 329)] }) ::
  (nat_lit 102, { cls := Value.type "tuple", data := Data.seq #[] }) ::
  (nat_lit 104, { cls := Value.type "code", data := Data.fields #[Value.str (Str.ofString "decode_lazy") (nat_lit 323), Value.str (Str.ofString "decode_lazy") (nat_lit 324), Value.str (Str.ofString "/claim/cut.py") (nat_lit 325), Value.int 73 0, Value.int 2 0, Value.int 0 0, Value.int 0 0, Value.int 3 0, Value.ref 99, Value.bool true, Value.int 181 0, Value.ref 100, Value.none, Value.ref 101, Value.ref 102, Value.ref 103, Value.int 330 0, Value.int 73 0, Value.str (Str.ofString "/claim/cut.py") (nat_lit 331)] }) ::
  (nat_lit 105, { cls := Value.type "function", data := Data.func { name := Str.ofString "decode_lazy", qualname := Str.ofString "decode_lazy", params := Mine.fParams (Mine.fTop 12), body := FuncBody.stmts (Mine.fBody (Mine.fTop 12)), scope := Mine.fScope (Mine.fTop 12), globals := 3, closure := [], defaults := Value.ref 98, kwdefaults := Value.none, pyModule := Value.str (Str.ofString "rlp.lazy") (nat_lit 321), code := Value.ref 104 } }) ::
  (nat_lit 106, { cls := Value.type "tuple", data := Data.seq #[] }) ::
  (nat_lit 108, { cls := Value.type "tuple", data := Data.seq #[Value.str (Str.ofString "rlp") (nat_lit 336), Value.str (Str.ofString "start") (nat_lit 337), Value.str (Str.ofString "p") (nat_lit 338), Value.str (Str.ofString "t") (nat_lit 339), Value.str (Str.ofString "l") (nat_lit 340), Value.str (Str.ofString "s") (nat_lit 341), Value.str (Str.ofString "item") (nat_lit 342), Value.str (Str.ofString "_") (nat_lit 343), Value.str (Str.ofString "end") (nat_lit 344)] }) ::
  (nat_lit 109, { cls := Value.type "tuple", data := Data.seq #[] }) ::
  (nat_lit 111, { cls := Value.type "code", data := Data.fields #[Value.str (Str.ofString "consume_item_lazy") (nat_lit 333), Value.str (Str.ofString "consume_item_lazy") (nat_lit 334), Value.str (Str.ofString "/claim/cut.py") (nat_lit 335), Value.int 84 0, Value.int 2 0, Value.int 0 0, Value.int 0 0, Value.int 3 0, Value.ref 106, Value.bool true, Value.int 181 0, Value.ref 107, Value.none, Value.ref 108, Value.ref 109, Value.ref 110, Value.int 345 0, Value.int 84 0, Value.str (Str.ofString "/claim/cut.py") (nat_lit 346)] }) ::
  (nat_lit 112, { cls := Value.type "function", data := Data.func { name := Str.ofString "consume_item_lazy", qualname := Str.ofString "consume_item_lazy", params := Mine.fParams (Mine.fTop 13), body := FuncBody.stmts (Mine.fBody (Mine.fTop 13)), scope := Mine.fScope (Mine.fTop 13), globals := 3, closure := [], defaults := Value.none, kwdefaults := Value.none, pyModule := Value.str (Str.ofString "rlp.lazy") (nat_lit 321), code := Value.ref 111 } }) ::
  (nat_lit 120, { cls := Value.type "tuple", data := Data.seq #[Value.none] }) ::
  (nat_lit 121, { cls := Value.type "tuple", data := Data.seq #[] }) ::
  (nat_lit 123, { cls := Value.type "tuple", data := Data.seq #[Value.str (Str.ofString "self") (nat_lit 363), Value.str (Str.ofString "rlp") (nat_lit 364), Value.str (Str.ofString "start") (nat_lit 365), Value.str (Str.ofString "end") (nat_lit 366), Value.str (Str.ofString "sedes") (nat_lit 367)] }) ::
  (nat_lit 124, { cls := Value.type "tuple", data := Data.seq #[] }) ::
  (nat_lit 126, { cls := Value.type "code", data := Data.fields #[Value.str (Str.ofString "__init__") (nat_lit 360), Value.str (Str.ofString "LazyList.__init__") (nat_lit 361), Value.str (Str.ofString "/claim/cut.py") (nat_lit 362), Value.int 94 0, Value.int 5 0, Value.int 0 0, Value.int 0 0, Value.int 3 0, Value.ref 121, Value.bool true, Value.int 181 0, Value.ref 122, Value.none, Value.ref 123, Value.ref 124, Value.ref 125, Value.int 368 0, Value.int 94 0, Value.str (Str.ofString "/claim/cut.py") (nat_lit 369)] }) ::
  (nat_lit 127, { cls := Value.type "function", data := Data.func { name := Str.ofString "__init__", qualname := Str.ofString "LazyList.__init__", params := Mine.fParams (Mine.fSub 14 0), body := FuncBody.stmts (Mine.fBody (Mine.fSub 14 0)), scope := Mine.fScope (Mine.fSub 14 0), globals := 3, closure := [], defaults := Value.ref 120, kwdefaults := Value.none, pyModule := Value.str (Str.ofString "rlp.lazy") (nat_lit 321), code := Value.ref 126 } }) ::
  (nat_lit 128, { cls := Value.type "tuple", data := Data.seq #[] }) ::
  (nat_lit 130, { cls := Value.type "tuple", data := Data.seq #[Value.str (Str.ofString "self") (nat_lit 374), Value.str (Str.ofString "item") (nat_lit 375), Value.str (Str.ofString "end") (nat_lit 376)] }) ::
  (nat_lit 131, { cls := Value.type "tuple", data := Data.seq #[] }) ::
  (nat_lit 133, { cls := Value.type "code", data := Data.fields #[Value.str (Str.ofString "next") (nat_lit 371), Value.str (Str.ofString "LazyList.next") (nat_lit 372), Value.str (Str.ofString "/claim/cut.py") (nat_lit 373), Value.int 103 0, Value.int 1 0, Value.int 0 0, Value.int 0 0, Value.int 3 0, Value.ref 128, Value.bool true, Value.int 181 0, Value.ref 129, Value.none, Value.ref 130, Value.ref 131, Value.ref 132, Value.int 377 0, Value.int 103 0, Value.str (Str.ofString "/claim/cut.py") (nat_lit 378)] }) ::
  (nat_lit 134, { cls := Value.type "function", data := Data.func { name := Str.ofString "next", qualname := Str.ofString "LazyList.next", params := Mine.fParams (Mine.fSub 14 1), body := FuncBody.stmts (Mine.fBody (Mine.fSub 14 1)), scope := Mine.fScope (Mine.fSub 14 1), globals := 3, closure := [], defaults := Value.none, kwdefaults := Value.none, pyModule := Value.str (Str.ofString "rlp.lazy") (nat_lit 321), code := Value.ref 133 } }) ::
  (nat_lit 135, { cls := Value.type "tuple", data := Data.seq #[] }) ::
  (nat_lit 137, { cls := Value.type "tuple", data := Data.seq #[Value.str (Str.ofString "self") (nat_lit 383), Value.str (Str.ofString "i") (nat_lit 384), Value.str (Str.ofString "start") (nat_lit 385), Value.str (Str.ofString "stop") (nat_lit 386)] }) ::
  (nat_lit 138, { cls := Value.type "tuple", data := Data.seq #[] }) ::
  (nat_lit 140, { cls := Value.type "code", data := Data.fields #[Value.str (Str.ofString "__getitem__") (nat_lit 380), Value.str (Str.ofString "LazyList.__getitem__") (nat_lit 381), Value.str (Str.ofString "/claim/cut.py") (nat_lit 382), Value.int 115 0, Value.int 2 0, Value.int 0 0, Value.int 0 0, Value.int 3 0, Value.ref 135, Value.bool true, Value.int 181 0, Value.ref 136, Value.none, Value.ref 137, Value.ref 138, Value.ref 139, Value.int 387 0, Value.int 115 0, Value.str (Str.ofString "/claim/cut.py") (nat_lit 388)] }) ::
  (nat_lit 141, { cls := Value.type "function", data := Data.func { name := Str.ofString "__getitem__", qualname := Str.ofString "LazyList.__getitem__", params := Mine.fParams (Mine.fSub 14 2), body := FuncBody.stmts (Mine.fBody (Mine.fSub 14 2)), scope := Mine.fScope (Mine.fSub 14 2), globals := 3, closure := [], defaults := Value.none, kwdefaults := Value.none, pyModule := Value.str (Str.ofString "rlp.lazy") (nat_lit 321), code := Value.ref 140 } }) ::
  (nat_lit 142, { cls := Value.type "tuple", data := Data.seq #[] }) ::
  (nat_lit 144, { cls := Value.type "tuple", data := Data.seq #[Value.str (Str.ofString "self") (nat_lit 393)] }) ::
  (nat_lit 145, { cls := Value.type "tuple", data := Data.seq #[] }) ::
  (nat_lit 147, { cls := Value.type "code", data := Data.fields #[Value.str (Str.ofString "__len__") (nat_lit 390), Value.str (Str.ofString "LazyList.__len__") (nat_lit 391), Value.str (Str.ofString "/claim/cut.py") (nat_lit 392), Value.int 126 0, Value.int 1 0, Value.int 0 0, Value.int 0 0, Value.int 3 0, Value.ref 142, Value.bool true, Value.int 181 0, Value.ref 143, Value.none, Value.ref 144, Value.ref 145, Value.ref 146, Value.int 394 0, Value.int 126 0, Value.str (Str.ofString "/claim/cut.py") (nat_lit 395)] }) ::
  (nat_lit 148, { cls := Value.type "function", data := Data.func { name := Str.ofString "__len__", qualname := Str.ofString "LazyList.__len__", params := Mine.fParams (Mine.fSub 14 3), body := FuncBody.stmts (Mine.fBody (Mine.fSub 14 3)), scope := Mine.fScope (Mine.fSub 14 3), globals := 3, closure := [], defaults := Value.none, kwdefaults := Value.none, pyModule := Value.str (Str.ofString "rlp.lazy") (nat_lit 321), code := Value.ref 147 } }) ::
  (nat_lit 149, { cls := Value.type "tuple", data := Data.seq #[Value.str (Str.ofString "_elements") (nat_lit 397), Value.str (Str.ofString "_len") (nat_lit 398), Value.str (Str.ofString "end") (nat_lit 399), Value.str (Str.ofString "index") (nat_lit 400), Value.str (Str.ofString "rlp") (nat_lit 401), Value.str (Str.ofString "sedes") (nat_lit 402), Value.str (Str.ofString "start") (nat_lit 403)] }) ::
  (nat_lit 150, { cls := Value.type "dict", data := Data.dict #[{ hash := PyData.keyHash P (Str.ofString "__module__"), key := Value.str (Str.ofString "__module__") (nat_lit 355), val := Value.str (Str.ofString "rlp.lazy") (nat_lit 321) }, { hash := PyData.keyHash P (Str.ofString "__firstlineno__"), key := Value.str (Str.ofString "__firstlineno__") (nat_lit 359), val := Value.int 92 358 }, { hash := PyData.keyHash P (Str.ofString "__init__"), key := Value.str (Str.ofString "__init__") (nat_lit 370), val := Value.ref 127 }, { hash := PyData.keyHash P (Str.ofString "next"), key := Value.str (Str.ofString "next") (nat_lit 379), val := Value.ref 134 }, { hash := PyData.keyHash P (Str.ofString "__getitem__"), key := Value.str (Str.ofString "__getitem__") (nat_lit 389), val := Value.ref 141 }, { hash := PyData.keyHash P (Str.ofString "__len__"), key := Value.str (Str.ofString "__len__") (nat_lit 396), val := Value.ref 148 }, { hash := PyData.keyHash P (Str.ofString "__static_attributes__"), key := Value.str (Str.ofString "__static_attributes__") (nat_lit 404), val := Value.ref 149 }, { hash := PyData.keyHash P (Str.ofString "__dict__"), key := Value.str (Str.ofString "__dict__") (nat_lit 406), val := Value.ref 152 }, { hash := PyData.keyHash P (Str.ofString "__weakref__"), key := Value.str (Str.ofString "__weakref__") (nat_lit 408), val := Value.ref 153 }, { hash := PyData.keyHash P (Str.ofString "__doc__"), key := Value.str (Str.ofString "__doc__") (nat_lit 409), val := Value.none }] 4 }) ::
  (nat_lit 151, { cls := Value.type "type", data := Data.cls { name := Str.ofString "LazyList", bases := [Value.type "object"], mro := [Value.ref 151, Value.type "object"], ns := 150, qualname := Str.ofString "LazyList" }, slots := #[none, none, some (Value.str (Str.ofString "LazyList") (nat_lit 348)), some (Value.str (Str.ofString "LazyList") (nat_lit 356)), some (Value.builtin "object.__new__"), some (Value.bool true)] }) ::
  (nat_lit 152, { cls := Value.type "getset_descriptor", data := Data.fields #[Value.str (Str.ofString "__dict__") (nat_lit 405), Value.ref 151, Value.builtin "function.__dict__", Value.builtin "function.__dict__#set"] }) ::
  (nat_lit 153, { cls := Value.type "getset_descriptor", data := Data.fields #[Value.str (Str.ofString "__weakref__") (nat_lit 407), Value.ref 151, Value.builtin "ExceptionGroup.__weakref__", Value.none] }) ::
  (nat_lit 156, { cls := Value.type "tuple", data := Data.seq #[Value.none] }) ::
  (nat_lit 157, { cls := Value.type "tuple", data := Data.seq #[] }) ::
  (nat_lit 159, { cls := Value.type "tuple", data := Data.seq #[Value.str (Str.ofString "rlp") (nat_lit 415), Value.str (Str.ofString "index") (nat_lit 416), Value.str (Str.ofString "sedes") (nat_lit 417), Value.str (Str.ofString "ll") (nat_lit 418), Value.str (Str.ofString "i") (nat_lit 419)] }) ::
  (nat_lit 160, { cls := Value.type "tuple", data := Data.seq #[] }) ::
  (nat_lit 162, { cls := Value.type "code", data := Data.fields #[Value.str (Str.ofString "peek") (nat_lit 412), Value.str (Str.ofString "peek") (nat_lit 413), Value.str (Str.ofString "/claim/cut.py") (nat_lit 414), Value.int 134 0, Value.int 3 0, Value.int 0 0, Value.int 0 0, Value.int 3 0, Value.ref 157, Value.bool true, Value.int 181 0, Value.ref 158, Value.none, Value.ref 159, Value.ref 160, Value.ref 161, Value.int 420 0, Value.int 134 0, Value.str (Str.ofString "/claim/cut.py") (nat_lit 421)] }) ::
  (nat_lit 163, { cls := Value.type "function", data := Data.func { name := Str.ofString "peek", qualname := Str.ofString "peek", params := Mine.fParams (Mine.fTop 15), body := FuncBody.stmts (Mine.fBody (Mine.fTop 15)), scope := Mine.fScope (Mine.fTop 15), globals := 3, closure := [], defaults := Value.ref 156, kwdefaults := Value.none, pyModule := Value.str (Str.ofString "rlp.lazy") (nat_lit 321), code := Value.ref 162 } }) ::
  (nat_lit 171, { cls := Value.type "tuple", data := Data.seq #[Value.none] }) ::
  (nat_lit 172, { cls := Value.type "tuple", data := Data.seq #[] }) ::
  (nat_lit 174, { cls := Value.type "tuple", data := Data.seq #[Value.str (Str.ofString "self") (nat_lit 440), Value.str (Str.ofString "length") (nat_lit 441)] }) ::
  (nat_lit 175, { cls := Value.type "tuple", data := Data.seq #[] }) ::
  (nat_lit 177, { cls := Value.type "code", data := Data.fields #[Value.str (Str.ofString "__init__") (nat_lit 437), Value.str (Str.ofString "BigEndianInt.__init__") (nat_lit 438), Value.str (Str.ofString "/claim/cut.py") (nat_lit 439), Value.int 149 0, Value.int 2 0, Value.int 0 0, Value.int 0 0, Value.int 3 0, Value.ref 172, Value.bool true, Value.int 181 0, Value.ref 173, Value.none, Value.ref 174, Value.ref 175, Value.ref 176, Value.int 442 0, Value.int 149 0, Value.str (Str.ofString "/claim/cut.py") (nat_lit 443)] }) ::
  (nat_lit 178, { cls := Value.type "function", data := Data.func { name := Str.ofString "__init__", qualname := Str.ofString "BigEndianInt.__init__", params := Mine.fParams (Mine.fSub 17 0), body := FuncBody.stmts (Mine.fBody (Mine.fSub 17 0)), scope := Mine.fScope (Mine.fSub 17 0), globals := 3, closure := [], defaults := Value.ref 171, kwdefaults := Value.none, pyModule := Value.str (Str.ofString "rlp.sedes.big_endian_int") (nat_lit 423), code := Value.ref 177 } }) ::
  (nat_lit 179, { cls := Value.type "tuple", data := Data.seq #[] }) ::
  (nat_lit 181, { cls := Value.type "tuple", data := Data.seq #[Value.str (Str.ofString "self") (nat_lit 448), Value.str (Str.ofString "obj") (nat_lit 449)] }) ::
  (nat_lit 182, { cls := Value.type "tuple", data := Data.seq #[] }) ::
  (nat_lit 184, { cls := Value.type "code", data := Data.fields #[Value.str (Str.ofString "serialize") (nat_lit 445), Value.str (Str.ofString "BigEndianInt.serialize") (nat_lit 446), Value.str (Str.ofString "/claim/cut.py") (nat_lit 447), Value.int 152 0, Value.int 2 0, Value.int 0 0, Value.int 0 0, Value.int 3 0, Value.ref 179, Value.bool true, Value.int 181 0, Value.ref 180, Value.none, Value.ref 181, Value.ref 182, Value.ref 183, Value.int 450 0, Value.int 152 0, Value.str (Str.ofString "/claim/cut.py") (nat_lit 451)] }) ::
  (nat_lit 185, { cls := Value.type "function", data := Data.func { name := Str.ofString "serialize", qualname := Str.ofString "BigEndianInt.serialize", params := Mine.fParams (Mine.fSub 17 1), body := FuncBody.stmts (Mine.fBody (Mine.fSub 17 1)), scope := Mine.fScope (Mine.fSub 17 1), globals := 3, closure := [], defaults := Value.none, kwdefaults := Value.none, pyModule := Value.str (Str.ofString "rlp.sedes.big_endian_int") (nat_lit 423), code := Value.ref 184 } }) ::
  (nat_lit 186, { cls := Value.type "tuple", data := Data.seq #[] }) ::
  (nat_lit 188, { cls := Value.type "tuple", data := Data.seq #[Value.str (Str.ofString "self") (nat_lit 456), Value.str (Str.ofString "serial") (nat_lit 457)] }) ::
  (nat_lit 189, { cls := Value.type "tuple", data := Data.seq #[] }) ::
  (nat_lit 191, { cls := Value.type "code", data := Data.fields #[Value.str (Str.ofString "deserialize") (nat_lit 453), Value.str (Str.ofString "BigEndianInt.deserialize") (nat_lit 454), Value.str (Str.ofString "/claim/cut.py") (nat_lit 455), Value.int 155 0, Value.int 2 0, Value.int 0 0, Value.int 0 0, Value.int 3 0, Value.ref 186, Value.bool true, Value.int 181 0, Value.ref 187, Value.none, Value.ref 188, Value.ref 189, Value.ref 190, Value.int 458 0, Value.int 155 0, Value.str (Str.ofString "/claim/cut.py") (nat_lit 459)] }) ::
  (nat_lit 192, { cls := Value.type "function", data := Data.func { name := Str.ofString "deserialize", qualname := Str.ofString "BigEndianInt.deserialize", params := Mine.fParams (Mine.fSub 17 2), body := FuncBody.stmts (Mine.fBody (Mine.fSub 17 2)), scope := Mine.fScope (Mine.fSub 17 2), globals := 3, closure := [], defaults := Value.none, kwdefaults := Value.none, pyModule := Value.str (Str.ofString "rlp.sedes.big_endian_int") (nat_lit 423), code := Value.ref 191 } }) ::
  (nat_lit 193, { cls := Value.type "tuple", data := Data.seq #[Value.str (Str.ofString "length") (nat_lit 461)] }) ::
  (nat_lit 194, { cls := Value.type "dict", data := Data.dict #[{ hash := PyData.keyHash P (Str.ofString "__module__"), key := Value.str (Str.ofString "__module__") (nat_lit 432), val := Value.str (Str.ofString "rlp.sedes.big_endian_int") (nat_lit 423) }, { hash := PyData.keyHash P (Str.ofString "__firstlineno__"), key := Value.str (Str.ofString "__firstlineno__") (nat_lit 436), val := Value.int 147 435 }, { hash := PyData.keyHash P (Str.ofString "__init__"), key := Value.str (Str.ofString "__init__") (nat_lit 444), val := Value.ref 178 }, { hash := PyData.keyHash P (Str.ofString "serialize"), key := Value.str (Str.ofString "serialize") (nat_lit 452), val := Value.ref 185 }, { hash := PyData.keyHash P (Str.ofString "deserialize"), key := Value.str (Str.ofString "deserialize") (nat_lit 460), val := Value.ref 192 }, { hash := PyData.keyHash P (Str.ofString "__static_attributes__"), key := Value.str (Str.ofString "__static_attributes__") (nat_lit 462), val := Value.ref 193 }, { hash := PyData.keyHash P (Str.ofString "__dict__"), key := Value.str (Str.ofString "__dict__") (nat_lit 464), val := Value.ref 196 }, { hash := PyData.keyHash P (Str.ofString "__weakref__"), key := Value.str (Str.ofString "__weakref__") (nat_lit 466), val := Value.ref 197 }, { hash := PyData.keyHash P (Str.ofString "__doc__"), key := Value.str (Str.ofString "__doc__") (nat_lit 467), val := Value.none }] 4 }) ::
  (nat_lit 195, { cls := Value.type "type", data := Data.cls { name := Str.ofString "BigEndianInt", bases := [Value.type "object"], mro := [Value.ref 195, Value.type "object"], ns := 194, qualname := Str.ofString "BigEndianInt" }, slots := #[none, none, some (Value.str (Str.ofString "BigEndianInt") (nat_lit 425)), some (Value.str (Str.ofString "BigEndianInt") (nat_lit 433)), some (Value.builtin "object.__new__"), some (Value.bool true)] }) ::
  (nat_lit 196, { cls := Value.type "getset_descriptor", data := Data.fields #[Value.str (Str.ofString "__dict__") (nat_lit 463), Value.ref 195, Value.builtin "function.__dict__", Value.builtin "function.__dict__#set"] }) ::
  (nat_lit 197, { cls := Value.type "getset_descriptor", data := Data.fields #[Value.str (Str.ofString "__weakref__") (nat_lit 465), Value.ref 195, Value.builtin "ExceptionGroup.__weakref__", Value.none] }) ::
  (nat_lit 200, { cls := Value.type "dict", data := Data.dict #[{ hash := PyData.keyHash P (Str.ofString "length"), key := Value.str (Str.ofString "length") (nat_lit 473), val := Value.none }] 1 }) ::
  (nat_lit 201, { cls := Value.ref 195, dict := some 200 }) ::
  (nat_lit 203, { cls := Value.type "tuple", data := Data.seq #[] }) ::
  (nat_lit 205, { cls := Value.type "tuple", data := Data.seq #[] }) ::
  (nat_lit 206, { cls := Value.type "tuple", data := Data.seq #[] }) ::
  (nat_lit 208, { cls := Value.type "code", data := Data.fields #[Value.str (Str.ofString "_law_sizes") (nat_lit 477), Value.str (Str.ofString "_law_sizes") (nat_lit 478), Value.str (Str.ofString "/claim/cut.py") (nat_lit 479), Value.int 164 0, Value.int 0 0, Value.int 0 0, Value.int 0 0, Value.int 3 0, Value.ref 203, Value.bool true, Value.int 181 0, Value.ref 204, Value.none, Value.ref 205, Value.ref 206, Value.ref 207, Value.int 480 0, Value.int 164 0, Value.str (Str.ofString "/claim/cut.py") (nat_lit 481)] }) ::
  (nat_lit 209, { cls := Value.type "function", data := Data.func { name := Str.ofString "_law_sizes", qualname := Str.ofString "_law_sizes", params := Mine.fParams (Mine.fTop 20), body := FuncBody.stmts (Mine.fBody (Mine.fTop 20)), scope := Mine.fScope (Mine.fTop 20), globals := 3, closure := [], defaults := Value.none, kwdefaults := Value.none, pyModule := Value.str (Str.ofString "law_it0027_01") (nat_lit 475), code := Value.ref 208 } }) ::
  (nat_lit 210, { cls := Value.type "tuple", data := Data.seq #[] }) ::
  (nat_lit 212, { cls := Value.type "tuple", data := Data.seq #[Value.str (Str.ofString "number") (nat_lit 486), Value.str (Str.ofString "size") (nat_lit 487), Value.str (Str.ofString "row") (nat_lit 488), Value.str (Str.ofString "k") (nat_lit 489)] }) ::
  (nat_lit 213, { cls := Value.type "tuple", data := Data.seq #[] }) ::
  (nat_lit 215, { cls := Value.type "code", data := Data.fields #[Value.str (Str.ofString "_law_octets") (nat_lit 483), Value.str (Str.ofString "_law_octets") (nat_lit 484), Value.str (Str.ofString "/claim/cut.py") (nat_lit 485), Value.int 166 0, Value.int 2 0, Value.int 0 0, Value.int 0 0, Value.int 3 0, Value.ref 210, Value.bool true, Value.int 181 0, Value.ref 211, Value.none, Value.ref 212, Value.ref 213, Value.ref 214, Value.int 490 0, Value.int 166 0, Value.str (Str.ofString "/claim/cut.py") (nat_lit 491)] }) ::
  (nat_lit 216, { cls := Value.type "function", data := Data.func { name := Str.ofString "_law_octets", qualname := Str.ofString "_law_octets", params := Mine.fParams (Mine.fTop 21), body := FuncBody.stmts (Mine.fBody (Mine.fTop 21)), scope := Mine.fScope (Mine.fTop 21), globals := 3, closure := [], defaults := Value.none, kwdefaults := Value.none, pyModule := Value.str (Str.ofString "law_it0027_01") (nat_lit 475), code := Value.ref 215 } }) ::
  (nat_lit 217, { cls := Value.type "tuple", data := Data.seq #[] }) ::
  (nat_lit 219, { cls := Value.type "tuple", data := Data.seq #[Value.str (Str.ofString "numbers") (nat_lit 496), Value.str (Str.ofString "rows") (nat_lit 497), Value.str (Str.ofString "number") (nat_lit 498), Value.str (Str.ofString "kind") (nat_lit 499), Value.str (Str.ofString "rest") (nat_lit 500), Value.str (Str.ofString "part") (nat_lit 501)] }) ::
  (nat_lit 220, { cls := Value.type "tuple", data := Data.seq #[] }) ::
  (nat_lit 222, { cls := Value.type "code", data := Data.fields #[Value.str (Str.ofString "_law_tree") (nat_lit 493), Value.str (Str.ofString "_law_tree") (nat_lit 494), Value.str (Str.ofString "/claim/cut.py") (nat_lit 495), Value.int 172 0, Value.int 1 0, Value.int 0 0, Value.int 0 0, Value.int 3 0, Value.ref 217, Value.bool true, Value.int 181 0, Value.ref 218, Value.none, Value.ref 219, Value.ref 220, Value.ref 221, Value.int 502 0, Value.int 172 0, Value.str (Str.ofString "/claim/cut.py") (nat_lit 503)] }) ::
  (nat_lit 223, { cls := Value.type "function", data := Data.func { name := Str.ofString "_law_tree", qualname := Str.ofString "_law_tree", params := Mine.fParams (Mine.fTop 22), body := FuncBody.stmts (Mine.fBody (Mine.fTop 22)), scope := Mine.fScope (Mine.fTop 22), globals := 3, closure := [], defaults := Value.none, kwdefaults := Value.none, pyModule := Value.str (Str.ofString "law_it0027_01") (nat_lit 475), code := Value.ref 222 } }) ::
  (nat_lit 224, { cls := Value.type "tuple", data := Data.seq #[] }) ::
  (nat_lit 226, { cls := Value.type "tuple", data := Data.seq #[Value.str (Str.ofString "base") (nat_lit 508), Value.str (Str.ofString "size") (nat_lit 509), Value.str (Str.ofString "digits") (nat_lit 510)] }) ::
  (nat_lit 227, { cls := Value.type "tuple", data := Data.seq #[] }) ::
  (nat_lit 229, { cls := Value.type "code", data := Data.fields #[Value.str (Str.ofString "_law_head") (nat_lit 505), Value.str (Str.ofString "_law_head") (nat_lit 506), Value.str (Str.ofString "/claim/cut.py") (nat_lit 507), Value.int 198 0, Value.int 2 0, Value.int 0 0, Value.int 0 0, Value.int 3 0, Value.ref 224, Value.bool true, Value.int 181 0, Value.ref 225, Value.none, Value.ref 226, Value.ref 227, Value.ref 228, Value.int 511 0, Value.int 198 0, Value.str (Str.ofString "/claim/cut.py") (nat_lit 512)] }) ::
  (nat_lit 230, { cls := Value.type "function", data := Data.func { name := Str.ofString "_law_head", qualname := Str.ofString "_law_head", params := Mine.fParams (Mine.fTop 23), body := FuncBody.stmts (Mine.fBody (Mine.fTop 23)), scope := Mine.fScope (Mine.fTop 23), globals := 3, closure := [], defaults := Value.none, kwdefaults := Value.none, pyModule := Value.str (Str.ofString "law_it0027_01") (nat_lit 475), code := Value.ref 229 } }) ::
  (nat_lit 231, { cls := Value.type "tuple", data := Data.seq #[] }) ::
  (nat_lit 233, { cls := Value.type "tuple", data := Data.seq #[Value.str (Str.ofString "item") (nat_lit 517), Value.str (Str.ofString "body") (nat_lit 518), Value.str (Str.ofString "part") (nat_lit 519)] }) ::
  (nat_lit 234, { cls := Value.type "tuple", data := Data.seq #[] }) ::
  (nat_lit 236, { cls := Value.type "code", data := Data.fields #[Value.str (Str.ofString "_law_put") (nat_lit 514), Value.str (Str.ofString "_law_put") (nat_lit 515), Value.str (Str.ofString "/claim/cut.py") (nat_lit 516), Value.int 206 0, Value.int 1 0, Value.int 0 0, Value.int 0 0, Value.int 3 0, Value.ref 231, Value.bool true, Value.int 181 0, Value.ref 232, Value.none, Value.ref 233, Value.ref 234, Value.ref 235, Value.int 520 0, Value.int 206 0, Value.str (Str.ofString "/claim/cut.py") (nat_lit 521)] }) ::
  (nat_lit 237, { cls := Value.type "function", data := Data.func { name := Str.ofString "_law_put", qualname := Str.ofString "_law_put", params := Mine.fParams (Mine.fTop 24), body := FuncBody.stmts (Mine.fBody (Mine.fTop 24)), scope := Mine.fScope (Mine.fTop 24), globals := 3, closure := [], defaults := Value.none, kwdefaults := Value.none, pyModule := Value.str (Str.ofString "law_it0027_01") (nat_lit 475), code := Value.ref 236 } }) ::
  (nat_lit 238, { cls := Value.type "tuple", data := Data.seq #[] }) ::
  (nat_lit 240, { cls := Value.type "tuple", data := Data.seq #[Value.str (Str.ofString "lazy") (nat_lit 526), Value.str (Str.ofString "rows") (nat_lit 527), Value.str (Str.ofString "place") (nat_lit 528), Value.str (Str.ofString "told") (nat_lit 529)] }) ::
  (nat_lit 241, { cls := Value.type "tuple", data := Data.seq #[] }) ::
  (nat_lit 243, { cls := Value.type "code", data := Data.fields #[Value.str (Str.ofString "_law_read") (nat_lit 523), Value.str (Str.ofString "_law_read") (nat_lit 524), Value.str (Str.ofString "/claim/cut.py") (nat_lit 525), Value.int 215 0, Value.int 3 0, Value.int 0 0, Value.int 0 0, Value.int 3 0, Value.ref 238, Value.bool true, Value.int 181 0, Value.ref 239, Value.none, Value.ref 240, Value.ref 241, Value.ref 242, Value.int 530 0, Value.int 215 0, Value.str (Str.ofString "/claim/cut.py") (nat_lit 531)] }) ::
  (nat_lit 244, { cls := Value.type "function", data := Data.func { name := Str.ofString "_law_read", qualname := Str.ofString "_law_read", params := Mine.fParams (Mine.fTop 25), body := FuncBody.stmts (Mine.fBody (Mine.fTop 25)), scope := Mine.fScope (Mine.fTop 25), globals := 3, closure := [], defaults := Value.none, kwdefaults := Value.none, pyModule := Value.str (Str.ofString "law_it0027_01") (nat_lit 475), code := Value.ref 243 } }) ::
  (nat_lit 245, { cls := Value.type "tuple", data := Data.seq #[] }) ::
  (nat_lit 247, { cls := Value.type "tuple", data := Data.seq #[Value.str (Str.ofString "told") (nat_lit 536), Value.str (Str.ofString "due") (nat_lit 537), Value.str (Str.ofString "turn") (nat_lit 538), Value.str (Str.ofString "k") (nat_lit 539)] }) ::
  (nat_lit 248, { cls := Value.type "tuple", data := Data.seq #[] }) ::
  (nat_lit 250, { cls := Value.type "code", data := Data.fields #[Value.str (Str.ofString "_law_tells") (nat_lit 533), Value.str (Str.ofString "_law_tells") (nat_lit 534), Value.str (Str.ofString "/claim/cut.py") (nat_lit 535), Value.int 221 0, Value.int 3 0, Value.int 0 0, Value.int 0 0, Value.int 3 0, Value.ref 245, Value.bool true, Value.int 181 0, Value.ref 246, Value.none, Value.ref 247, Value.ref 248, Value.ref 249, Value.int 540 0, Value.int 221 0, Value.str (Str.ofString "/claim/cut.py") (nat_lit 541)] }) ::
  (nat_lit 251, { cls := Value.type "function", data := Data.func { name := Str.ofString "_law_tells", qualname := Str.ofString "_law_tells", params := Mine.fParams (Mine.fTop 26), body := FuncBody.stmts (Mine.fBody (Mine.fTop 26)), scope := Mine.fScope (Mine.fTop 26), globals := 3, closure := [], defaults := Value.none, kwdefaults := Value.none, pyModule := Value.str (Str.ofString "law_it0027_01") (nat_lit 475), code := Value.ref 250 } }) ::
  (nat_lit 252, { cls := Value.type "tuple", data := Data.seq #[] }) ::
  (nat_lit 254, { cls := Value.type "tuple", data := Data.seq #[Value.str (Str.ofString "number") (nat_lit 546)] }) ::
  (nat_lit 255, { cls := Value.type "tuple", data := Data.seq #[] }) ::
  (nat_lit 257, { cls := Value.type "code", data := Data.fields #[Value.str (Str.ofString "_law_way") (nat_lit 543), Value.str (Str.ofString "_law_way") (nat_lit 544), Value.str (Str.ofString "/claim/cut.py") (nat_lit 545), Value.int 230 0, Value.int 1 0, Value.int 0 0, Value.int 0 0, Value.int 3 0, Value.ref 252, Value.bool true, Value.int 181 0, Value.ref 253, Value.none, Value.ref 254, Value.ref 255, Value.ref 256, Value.int 547 0, Value.int 230 0, Value.str (Str.ofString "/claim/cut.py") (nat_lit 548)] }) ::
  (nat_lit 258, { cls := Value.type "function", data := Data.func { name := Str.ofString "_law_way", qualname := Str.ofString "_law_way", params := Mine.fParams (Mine.fTop 27), body := FuncBody.stmts (Mine.fBody (Mine.fTop 27)), scope := Mine.fScope (Mine.fTop 27), globals := 3, closure := [], defaults := Value.none, kwdefaults := Value.none, pyModule := Value.str (Str.ofString "law_it0027_01") (nat_lit 475), code := Value.ref 257 } }) ::
  (nat_lit 259, { cls := Value.type "tuple", data := Data.seq #[] }) ::
  (nat_lit 261, { cls := Value.type "tuple", data := Data.seq #[Value.str (Str.ofString "item") (nat_lit 553), Value.str (Str.ofString "way") (nat_lit 554), Value.str (Str.ofString "place") (nat_lit 555)] }) ::
  (nat_lit 262, { cls := Value.type "tuple", data := Data.seq #[] }) ::
  (nat_lit 264, { cls := Value.type "code", data := Data.fields #[Value.str (Str.ofString "_law_at") (nat_lit 550), Value.str (Str.ofString "_law_at") (nat_lit 551), Value.str (Str.ofString "/claim/cut.py") (nat_lit 552), Value.int 232 0, Value.int 2 0, Value.int 0 0, Value.int 0 0, Value.int 3 0, Value.ref 259, Value.bool true, Value.int 181 0, Value.ref 260, Value.none, Value.ref 261, Value.ref 262, Value.ref 263, Value.int 556 0, Value.int 232 0, Value.str (Str.ofString "/claim/cut.py") (nat_lit 557)] }) ::
  (nat_lit 265, { cls := Value.type "function", data := Data.func { name := Str.ofString "_law_at", qualname := Str.ofString "_law_at", params := Mine.fParams (Mine.fTop 28), body := FuncBody.stmts (Mine.fBody (Mine.fTop 28)), scope := Mine.fScope (Mine.fTop 28), globals := 3, closure := [], defaults := Value.none, kwdefaults := Value.none, pyModule := Value.str (Str.ofString "law_it0027_01") (nat_lit 475), code := Value.ref 264 } }) ::
  (nat_lit 266, { cls := Value.type "tuple", data := Data.seq #[] }) ::
  (nat_lit 269, { cls := Value.type "code", data := Data.fields #[Value.str (Str.ofString "_law_end") (nat_lit 559), Value.str (Str.ofString "_law_end") (nat_lit 560), Value.str (Str.ofString "/claim/cut.py") (nat_lit 561), Value.int 238 0, Value.int 2 0, Value.int 0 0, Value.int 0 0, Value.int 3 0, Value.ref 266, Value.bool true, Value.int 181 0, Value.ref 267, Value.none, Value.none, Value.none, Value.ref 268, Value.int 562 0, Value.int 238 0, Value.str (Str.ofString "/claim/cut.py") (nat_lit 563)] }) ::
  (nat_lit 270, { cls := Value.type "function", data := Data.func { name := Str.ofString "_law_end", qualname := Str.ofString "_law_end", params := Mine.fParams (Mine.fTop 29), body := FuncBody.stmts (Mine.fBody (Mine.fTop 29)), scope := Mine.fScope (Mine.fTop 29), globals := 3, closure := [], defaults := Value.none, kwdefaults := Value.none, pyModule := Value.str (Str.ofString "law_it0027_01") (nat_lit 475), code := Value.ref 269 } }) ::
  (nat_lit 271, { cls := Value.type "tuple", data := Data.seq #[] }) ::
  (nat_lit 273, { cls := Value.type "tuple", data := Data.seq #[Value.str (Str.ofString "count") (nat_lit 568), Value.str (Str.ofString "digits") (nat_lit 569)] }) ::
  (nat_lit 274, { cls := Value.type "tuple", data := Data.seq #[] }) ::
  (nat_lit 276, { cls := Value.type "code", data := Data.fields #[Value.str (Str.ofString "_law_digits") (nat_lit 565), Value.str (Str.ofString "_law_digits") (nat_lit 566), Value.str (Str.ofString "/claim/cut.py") (nat_lit 567), Value.int 244 0, Value.int 1 0, Value.int 0 0, Value.int 0 0, Value.int 3 0, Value.ref 271, Value.bool true, Value.int 181 0, Value.ref 272, Value.none, Value.ref 273, Value.ref 274, Value.ref 275, Value.int 570 0, Value.int 244 0, Value.str (Str.ofString "/claim/cut.py") (nat_lit 571)] }) ::
  (nat_lit 277, { cls := Value.type "function", data := Data.func { name := Str.ofString "_law_digits", qualname := Str.ofString "_law_digits", params := Mine.fParams (Mine.fTop 30), body := FuncBody.stmts (Mine.fBody (Mine.fTop 30)), scope := Mine.fScope (Mine.fTop 30), globals := 3, closure := [], defaults := Value.none, kwdefaults := Value.none, pyModule := Value.str (Str.ofString "law_it0027_01") (nat_lit 475), code := Value.ref 276 } }) ::
  (nat_lit 278, { cls := Value.type "tuple", data := Data.seq #[] }) ::
  (nat_lit 280, { cls := Value.type "tuple", data := Data.seq #[Value.str (Str.ofString "octets") (nat_lit 576)] }) ::
  (nat_lit 281, { cls := Value.type "tuple", data := Data.seq #[] }) ::
  (nat_lit 283, { cls := Value.type "code", data := Data.fields #[Value.str (Str.ofString "_law_refused") (nat_lit 573), Value.str (Str.ofString "_law_refused") (nat_lit 574), Value.str (Str.ofString "/claim/cut.py") (nat_lit 575), Value.int 250 0, Value.int 1 0, Value.int 0 0, Value.int 0 0, Value.int 3 0, Value.ref 278, Value.bool true, Value.int 181 0, Value.ref 279, Value.none, Value.ref 280, Value.ref 281, Value.ref 282, Value.int 577 0, Value.int 250 0, Value.str (Str.ofString "/claim/cut.py") (nat_lit 578)] }) ::
  (nat_lit 284, { cls := Value.type "function", data := Data.func { name := Str.ofString "_law_refused", qualname := Str.ofString "_law_refused", params := Mine.fParams (Mine.fTop 31), body := FuncBody.stmts (Mine.fBody (Mine.fTop 31)), scope := Mine.fScope (Mine.fTop 31), globals := 3, closure := [], defaults := Value.none, kwdefaults := Value.none, pyModule := Value.str (Str.ofString "law_it0027_01") (nat_lit 475), code := Value.ref 283 } }) ::
  (nat_lit 285, { cls := Value.type "tuple", data := Data.seq #[] }) ::
  (nat_lit 288, { cls := Value.type "code", data := Data.fields #[Value.str (Str.ofString "law") (nat_lit 580), Value.str (Str.ofString "law") (nat_lit 581), Value.str (Str.ofString "/claim/cut.py") (nat_lit 582), Value.int 256 0, Value.int 1 0, Value.int 0 0, Value.int 0 0, Value.int 3 0, Value.ref 285, Value.bool true, Value.int 181 0, Value.ref 286, Value.none, Value.none, Value.none, Value.ref 287, Value.int 583 0, Value.int 256 0, Value.str (Str.ofString "/claim/cut.py") (nat_lit 584)] }) ::
  (nat_lit 289, { cls := Value.type "function", data := Data.func { name := Str.ofString "law", qualname := Str.ofString "law", params := Mine.fParams (Mine.fTop 32), body := FuncBody.stmts (Mine.fBody (Mine.fTop 32)), scope := Mine.fScope (Mine.fTop 32), globals := 3, closure := [], defaults := Value.none, kwdefaults := Value.none, pyModule := Value.str (Str.ofString "law_it0027_01") (nat_lit 475), code := Value.ref 288 } }) :: []
noncomputable def hd.view_39 : Program := PySem.W.view PySem.Challenge.pw_it0027_01 [0, 2, 3, 4, 6, 8, 9, 10, 13, 14, 17, 18, 20, 21, 22, 23, 24, 25, 26, 27, 28, 29, 30, 31, 32]

end T_HD
section T_HL
open PySem PySem.W PyProof.Rows
set_option maxRecDepth 100000
set_option maxHeartbeats 0
noncomputable abbrev H0 := kHook hd.heap_39 [2, 3, 15, 17, 18, 20, 21, 22, 29, 30, 31, 32, 35, 38, 43, 44, 46, 47, 49, 50, 51, 52, 53, 56, 59, 64, 65, 67, 68, 70, 71, 72, 73, 74, 77, 79, 80, 82, 83, 84, 86, 87, 89, 90, 91, 93, 94, 96, 97, 98, 99, 101, 102, 104, 105, 106, 108, 109, 111, 112, 120, 121, 123, 124, 126, 127, 128, 130, 131, 133, 134, 135, 137, 138, 140, 141, 142, 144, 145, 147, 148, 149, 150, 151, 152, 153, 156, 157, 159, 160, 162, 163, 171, 172, 174, 175, 177, 178, 179, 181, 182, 184, 185, 186, 188, 189, 191, 192, 193, 194, 195, 196, 197, 200, 201, 203, 205, 206, 208, 209, 210, 212, 213, 215, 216, 217, 219, 220, 222, 223, 224, 226, 227, 229, 230, 231, 233, 234, 236, 237, 238, 240, 241, 243, 244, 245, 247, 248, 250, 251, 252, 254, 255, 257, 258, 259, 261, 262, 264, 265, 266, 269, 270, 271, 273, 274, 276, 277, 278, 280, 281, 283, 284, 285, 288, 289] (fun _ => by kernel_rfl)
noncomputable abbrev loose0 : List Str := [Str.ofString "SHORT_STRING", Str.ofString "decode_lazy", Str.ofString "peek", Str.ofString "big_endian_int"]
noncomputable abbrev Xt0 : Shared → Bool := fun s => xlAt hd.view_39 [(Str.ofString "SHORT_STRING", WData.int 184)] s && recOk (RowW.records PySem.Challenge.rw_it0027_01.row.toRowW) s
namespace Z
noncomputable def vs (s : String) (t : Nat) : Value := .str (Str.ofString s) t
noncomputable def vi (n t : Nat) : Value := .int (Int.ofNat n) t
noncomputable def fl (l : List Value) : Obj := ⟨.none, none, .fields ⟨l⟩, #[]⟩
noncomputable def ln (a b : Nat) (l : List (Nat × Nat)) : List (Nat × Nat) := (a, b) :: l
noncomputable def fm (y : Nat) (l : List (Nat × Nat)) : Obj := fl (l.flatMap fun x => [vi x.1 (nat_lit 0), vi y (nat_lit 0), .ref x.2])
noncomputable def tu0 : Obj := ⟨.type "tuple", none, .seq #[] 0, #[]⟩
noncomputable def co (n : String) (t l a b : Nat) : Obj := ⟨.type "code", none, .fields #[vs n t, vs n (t + 1), vs "/claim/cut.py" (t + 2), vi l 0, vi 0 0, vi 0 0, vi 0 0, vi 0 0, .ref a, .bool false, vi 181 0, .ref b, .none, .none, .none, .none, vi (t + 3) 0, vi l 0, vs "/claim/cut.py" (t + 4)], #[]⟩
noncomputable def frm (c d : Nat) (v : Value) : Obj := ⟨.type "frame", none, .plain, #[some (.ref c), some (.ref 3), some (.ref d), none, some v, none, some (.ref 0)]⟩
noncomputable def tq (st : Stmt) (q : Str) : Obj := ⟨.none, none, .func { name := fName st, qualname := q, params := fParams st, body := .stmts (fBody st), scope := fScope st, globals := 0, closure := [], defaults := .none, kwdefaults := .none }, #[]⟩
noncomputable def tp (i : Nat) : Obj := tq (fTop i) (fName (fTop i))
noncomputable def tm (st : Stmt) (q : String) : Obj := tq st (Str.ofString q)
noncomputable def bm (s : String) (v : Value) : Obj := ⟨.type "builtin_function_or_method", none, .fields #[.builtin s, v], #[]⟩
noncomputable def bu (v : Value) : Obj := bm "object.__init_subclass__" v
noncomputable def bp : Obj := bm "type.__prepare__" (.type "type")
noncomputable def su (a : Nat) : Obj := ⟨.type "super", none, .fields #[.ref a, .ref a, .ref a], #[]⟩
noncomputable def kv (P : Params) (k : String) (t : Nat) (v : Value) (l : List DictEntry) : List DictEntry := ⟨PyData.keyHash P (Str.ofString k), vs k t, v⟩ :: l
noncomputable def di (c : String) (l : List DictEntry) : Obj := ⟨.type c, none, .dict ⟨l⟩ l.length, #[]⟩
noncomputable def restF (P : Params) : Frag :=
  ((nat_lit 0), boot_o_0 P) ::
  ((nat_lit 1), boot_o_1 P) ::
  ((nat_lit 4), boot_o_4 P) ::
  ((nat_lit 5), boot_o_5 P) ::
  ((nat_lit 6), boot_o_6 P) ::
  ((nat_lit 7), boot_o_7 P) ::
  ((nat_lit 8), boot_o_8 P) ::
  ((nat_lit 9), boot_o_9 P) ::
  ((nat_lit 10), boot_o_10 P) ::
  ((nat_lit 11), tu0) ::
  ((nat_lit 12), fm (nat_lit 0) (ln (nat_lit 1) (nat_lit 20) (ln (nat_lit 5) (nat_lit 27) (ln (nat_lit 7) (nat_lit 41) (ln (nat_lit 12) (nat_lit 62) (ln (nat_lit 18) (nat_lit 82) (ln (nat_lit 22) (nat_lit 89) (ln (nat_lit 50) (nat_lit 96) (ln (nat_lit 73) (nat_lit 104) (ln (nat_lit 84) (nat_lit 111) (ln (nat_lit 92) (nat_lit 118) (ln (nat_lit 134) (nat_lit 162) (ln (nat_lit 147) (nat_lit 169) (ln (nat_lit 164) (nat_lit 208) (ln (nat_lit 166) (nat_lit 215) (ln (nat_lit 172) (nat_lit 222) (ln (nat_lit 198) (nat_lit 229) (ln (nat_lit 206) (nat_lit 236) (ln (nat_lit 215) (nat_lit 243) (ln (nat_lit 221) (nat_lit 250) (ln (nat_lit 230) (nat_lit 257) (ln (nat_lit 232) (nat_lit 264) (ln (nat_lit 238) (nat_lit 269) (ln (nat_lit 244) (nat_lit 276) (ln (nat_lit 250) (nat_lit 283) (ln (nat_lit 256) (nat_lit 288) (.nil))))))))))))))))))))))))))) ::
  ((nat_lit 13), co "<module>" (nat_lit 182) (nat_lit 1) (nat_lit 11) (nat_lit 12)) ::
  ((nat_lit 14), frm (nat_lit 13) (nat_lit 3) (vs "__main__" (nat_lit 164))) ::
  ((nat_lit 16), fl []) ::
  ((nat_lit 19), tp (nat_lit 0)) ::
  ((nat_lit 23), bp) ::
  ((nat_lit 24), di "dict" (kv P "__module__" (nat_lit 203) (vs "rlp.exceptions" (nat_lit 194)) (kv P "__qualname__" (nat_lit 205) (vs "RLPException" (nat_lit 204)) (kv P "__firstlineno__" (nat_lit 207) (vi (nat_lit 5) (nat_lit 206)) (kv P "__static_attributes__" (nat_lit 208) (.ref (nat_lit 29)) (.nil)))))) ::
  ((nat_lit 25), tu0) ::
  ((nat_lit 26), fl []) ::
  ((nat_lit 27), co "RLPException" (nat_lit 198) (nat_lit 5) (nat_lit 25) (nat_lit 26)) ::
  ((nat_lit 28), frm (nat_lit 27) (nat_lit 24) (vs "rlp.exceptions" (nat_lit 194))) ::
  ((nat_lit 33), su (nat_lit 31)) ::
  ((nat_lit 34), bu (.ref (nat_lit 31))) ::
  ((nat_lit 36), bp) ::
  ((nat_lit 37), di "dict" (kv P "__module__" (nat_lit 223) (vs "rlp.exceptions" (nat_lit 194)) (kv P "__qualname__" (nat_lit 225) (vs "DecodingError" (nat_lit 224)) (kv P "__firstlineno__" (nat_lit 227) (vi (nat_lit 7) (nat_lit 226)) (kv P "__init__" (nat_lit 237) (.ref (nat_lit 50)) (kv P "__static_attributes__" (nat_lit 239) (.ref (nat_lit 51)) (kv P "__classcell__" (nat_lit 240) (.ref (nat_lit 38)) (.nil)))))))) ::
  ((nat_lit 39), tu0) ::
  ((nat_lit 40), fm (nat_lit 4) (ln (nat_lit 9) (nat_lit 49) (.nil))) ::
  ((nat_lit 41), co "DecodingError" (nat_lit 218) (nat_lit 7) (nat_lit 39) (nat_lit 40)) ::
  ((nat_lit 42), frm (nat_lit 41) (nat_lit 37) (vs "rlp.exceptions" (nat_lit 194))) ::
  ((nat_lit 45), fl []) ::
  ((nat_lit 48), tm (fSub (nat_lit 3) (nat_lit 0)) "DecodingError.__init__") ::
  ((nat_lit 54), su (nat_lit 53)) ::
  ((nat_lit 55), bu (.ref (nat_lit 53))) ::
  ((nat_lit 57), bp) ::
  ((nat_lit 58), di "dict" (kv P "__module__" (nat_lit 251) (vs "rlp.exceptions" (nat_lit 194)) (kv P "__qualname__" (nat_lit 253) (vs "DeserializationError" (nat_lit 252)) (kv P "__firstlineno__" (nat_lit 255) (vi (nat_lit 12) (nat_lit 254)) (kv P "__init__" (nat_lit 265) (.ref (nat_lit 71)) (kv P "__static_attributes__" (nat_lit 267) (.ref (nat_lit 72)) (kv P "__classcell__" (nat_lit 268) (.ref (nat_lit 59)) (.nil)))))))) ::
  ((nat_lit 60), tu0) ::
  ((nat_lit 61), fm (nat_lit 4) (ln (nat_lit 14) (nat_lit 70) (.nil))) ::
  ((nat_lit 62), co "DeserializationError" (nat_lit 246) (nat_lit 12) (nat_lit 60) (nat_lit 61)) ::
  ((nat_lit 63), frm (nat_lit 62) (nat_lit 58) (vs "rlp.exceptions" (nat_lit 194))) ::
  ((nat_lit 66), fl []) ::
  ((nat_lit 69), tm (fSub (nat_lit 4) (nat_lit 0)) "DeserializationError.__init__") ::
  ((nat_lit 75), su (nat_lit 74)) ::
  ((nat_lit 76), bu (.ref (nat_lit 74))) ::
  ((nat_lit 78), fl []) ::
  ((nat_lit 81), tp (nat_lit 6)) ::
  ((nat_lit 85), fl []) ::
  ((nat_lit 88), tp (nat_lit 9)) ::
  ((nat_lit 92), fl []) ::
  ((nat_lit 95), tp (nat_lit 10)) ::
  ((nat_lit 100), fl []) ::
  ((nat_lit 103), tp (nat_lit 12)) ::
  ((nat_lit 107), fl []) ::
  ((nat_lit 110), tp (nat_lit 13)) ::
  ((nat_lit 113), tu0) ::
  ((nat_lit 114), bp) ::
  ((nat_lit 115), di "dict" (kv P "__module__" (nat_lit 355) (vs "rlp.lazy" (nat_lit 321)) (kv P "__qualname__" (nat_lit 357) (vs "LazyList" (nat_lit 356)) (kv P "__firstlineno__" (nat_lit 359) (vi (nat_lit 92) (nat_lit 358)) (kv P "__init__" (nat_lit 370) (.ref (nat_lit 127)) (kv P "next" (nat_lit 379) (.ref (nat_lit 134)) (kv P "__getitem__" (nat_lit 389) (.ref (nat_lit 141)) (kv P "__len__" (nat_lit 396) (.ref (nat_lit 148)) (kv P "__static_attributes__" (nat_lit 404) (.ref (nat_lit 149)) (.nil)))))))))) ::
  ((nat_lit 116), tu0) ::
  ((nat_lit 117), fm (nat_lit 4) (ln (nat_lit 94) (nat_lit 126) (ln (nat_lit 103) (nat_lit 133) (ln (nat_lit 115) (nat_lit 140) (ln (nat_lit 126) (nat_lit 147) (.nil)))))) ::
  ((nat_lit 118), co "LazyList" (nat_lit 350) (nat_lit 92) (nat_lit 116) (nat_lit 117)) ::
  ((nat_lit 119), frm (nat_lit 118) (nat_lit 115) (vs "rlp.lazy" (nat_lit 321))) ::
  ((nat_lit 122), fl []) ::
  ((nat_lit 125), tm (fSub (nat_lit 14) (nat_lit 0)) "LazyList.__init__") ::
  ((nat_lit 129), fl []) ::
  ((nat_lit 132), tm (fSub (nat_lit 14) (nat_lit 1)) "LazyList.next") ::
  ((nat_lit 136), fl []) ::
  ((nat_lit 139), tm (fSub (nat_lit 14) (nat_lit 2)) "LazyList.__getitem__") ::
  ((nat_lit 143), fl []) ::
  ((nat_lit 146), tm (fSub (nat_lit 14) (nat_lit 3)) "LazyList.__len__") ::
  ((nat_lit 154), su (nat_lit 151)) ::
  ((nat_lit 155), bu (.ref (nat_lit 151))) ::
  ((nat_lit 158), fl []) ::
  ((nat_lit 161), tp (nat_lit 15)) ::
  ((nat_lit 164), tu0) ::
  ((nat_lit 165), bp) ::
  ((nat_lit 166), di "dict" (kv P "__module__" (nat_lit 432) (vs "rlp.sedes.big_endian_int" (nat_lit 423)) (kv P "__qualname__" (nat_lit 434) (vs "BigEndianInt" (nat_lit 433)) (kv P "__firstlineno__" (nat_lit 436) (vi (nat_lit 147) (nat_lit 435)) (kv P "__init__" (nat_lit 444) (.ref (nat_lit 178)) (kv P "serialize" (nat_lit 452) (.ref (nat_lit 185)) (kv P "deserialize" (nat_lit 460) (.ref (nat_lit 192)) (kv P "__static_attributes__" (nat_lit 462) (.ref (nat_lit 193)) (.nil))))))))) ::
  ((nat_lit 167), tu0) ::
  ((nat_lit 168), fm (nat_lit 4) (ln (nat_lit 149) (nat_lit 177) (ln (nat_lit 152) (nat_lit 184) (ln (nat_lit 155) (nat_lit 191) (.nil))))) ::
  ((nat_lit 169), co "BigEndianInt" (nat_lit 427) (nat_lit 147) (nat_lit 167) (nat_lit 168)) ::
  ((nat_lit 170), frm (nat_lit 169) (nat_lit 166) (vs "rlp.sedes.big_endian_int" (nat_lit 423))) ::
  ((nat_lit 173), fl []) ::
  ((nat_lit 176), tm (fSub (nat_lit 17) (nat_lit 0)) "BigEndianInt.__init__") ::
  ((nat_lit 180), fl []) ::
  ((nat_lit 183), tm (fSub (nat_lit 17) (nat_lit 1)) "BigEndianInt.serialize") ::
  ((nat_lit 187), fl []) ::
  ((nat_lit 190), tm (fSub (nat_lit 17) (nat_lit 2)) "BigEndianInt.deserialize") ::
  ((nat_lit 198), su (nat_lit 195)) ::
  ((nat_lit 199), bu (.ref (nat_lit 195))) ::
  ((nat_lit 202), di "frame" (kv P "self" (nat_lit 470) (.ref (nat_lit 201)) (kv P "length" (nat_lit 471) .none (.nil)))) ::
  ((nat_lit 204), fl []) ::
  ((nat_lit 207), tp (nat_lit 20)) ::
  ((nat_lit 211), fl []) ::
  ((nat_lit 214), tp (nat_lit 21)) ::
  ((nat_lit 218), fl []) ::
  ((nat_lit 221), tp (nat_lit 22)) ::
  ((nat_lit 225), fl []) ::
  ((nat_lit 228), tp (nat_lit 23)) ::
  ((nat_lit 232), fl []) ::
  ((nat_lit 235), tp (nat_lit 24)) ::
  ((nat_lit 239), fl []) ::
  ((nat_lit 242), tp (nat_lit 25)) ::
  ((nat_lit 246), fl []) ::
  ((nat_lit 249), tp (nat_lit 26)) ::
  ((nat_lit 253), fl []) ::
  ((nat_lit 256), tp (nat_lit 27)) ::
  ((nat_lit 260), fl []) ::
  ((nat_lit 263), tp (nat_lit 28)) ::
  ((nat_lit 267), fl []) ::
  ((nat_lit 268), tp (nat_lit 29)) ::
  ((nat_lit 272), fl []) ::
  ((nat_lit 275), tp (nat_lit 30)) ::
  ((nat_lit 279), fl []) ::
  ((nat_lit 282), tp (nat_lit 31)) ::
  ((nat_lit 286), fl []) ::
  ((nat_lit 287), tp (nat_lit 32)) ::
  []

noncomputable def finL (P : Params) : List Obj := (restF P).foldl (fun l x => l.insertIdx x.1 x.2) ((hd.heap_39 P).map Prod.snd)
noncomputable def mkT (l : List Obj) : BT := (l.foldl (fun (x : BT × Nat) o => (x.1.ins x.2 o, x.2 + 1)) (.nil, 0)).1
noncomputable abbrev pwM := PySem.Challenge.pw_it0027_01
noncomputable def bd : List Stmt := behindTheImports pwM
noncomputable def en : Env := { scope := pwM.main.scope, locals := mainNs, globals := mainNs, cells := [], code := .ref 13, frame := some 14 }
noncomputable def cE : Code := .body bd en
noncomputable def q0 : Pos := ⟨0, 0, 0, 0⟩
noncomputable abbrev an0 : Option Value := some (.ref 6)
noncomputable def St (l : List Obj) (n k : Nat) (os : OsState) : SharedT := ⟨mkT l, n, {}, #[], {}, k, os⟩
noncomputable def L0 (P : Params) : List Obj := [boot_o_0 P, boot_o_1 P, boot_o_2 P, boot_o_3 P, boot_o_4 P, boot_o_5 P, boot_o_6 P, boot_o_7 P, boot_o_8 P, boot_o_9 P, boot_o_10 P, tu0, fl [], co "<module>" 182 1 11 12, frm 13 3 (vs "__main__" 164)]
noncomputable def T0 (w : World) (os : OsState) : SharedT := St (L0 w.params) 15 187 os
noncomputable def T9 (w : World) (os : OsState) : SharedT := St (finL w.params) 290 586 os
noncomputable def H9 (P : Params) : Heap := absHeap (mkT (finL P)) 290 {}
noncomputable abbrev Z9 (w : World) (os : OsState) : Shared := ⟨H9 w.params, #[], {}, 586, os⟩
noncomputable def q9 : Pos := ⟨256, 0, 302, 19⟩
theorem pre_ : ∀ w os, topGo treeTable pwM w 11 an0 12 ⟨boot_heap w.params, #[], boot_drawn, boot_toks, os⟩ (topStub pwM) = some ((T0 w os).abs, ⟨denote treeTable cE, cE, q0, [topFrame q0]⟩) := by
  intro w os
  kernel_rfl
theorem blk_ : ∀ w os, segRun treeTable pwM w 11 an0 1 1 (T0 w os).abs (blockOf bd en cE q0 [topFrame q0]) = some (.next, (T0 w os).abs, cE, q0) := by
  intro w os
  kernel_rfl
theorem size_ : ∀ w : World, ((boot_heap w.params).isNs mainGlobals && (Array.mk [] : Array GenState).size == 0, (boot_heap w.params).objs.size, (boot_heap w.params).nsMap mainGlobals "__annotations__") = (true, 11, an0) := by
  intro w
  kernel_rfl
theorem body_ : ∀ w os, segRunT treeTable pwM w 11 an0 1 2200 (T0 w os) (piecesOf bd en cE q0 [topFrame q0]) = some (.next, T9 w os, cE, q9) := by
  intro w os
  unfold piecesOf
  rw [PySem.W.Fast.te10110043849684766642, PySem.W.Fast.te14364793385576792824, PySem.W.Fast.te12563942051412417395]
  kernel_rfl
theorem fin_ : ∀ w os, topRun treeTable pwM w 11 an0 2 (T9 w os).abs (restOf [] en cE q9 [topFrame q0]) = some (Z9 w os) := by
  intro w os
  kernel_rfl
theorem all_ {w : World} {m N : Nat} {s s' r : Shared} {l : List Stmt} {p p' : Pos} (h : segRun treeTable pwM w 11 an0 1 m s (piecesOf l en cE p [topFrame q0]) = some (.next, s', cE, p'))
    (k : topRun treeTable pwM w 11 an0 N s' (restOf [] en cE p' [topFrame q0]) = some r) : topRun treeTable pwM w 11 an0 (m + N) s (restOf l en cE p [topFrame q0]) = some r := by
  have := piece_app h k
  rwa [List.append_nil] at this
theorem run_ (w os) : topRun treeTable pwM w 11 an0 (12 + (1 + (2200 + 2))) ⟨boot_heap w.params, #[], boot_drawn, boot_toks, os⟩ (topStub pwM) = some (Z9 w os) :=
  go_top (pre_ w os) (piece_block (blk_ w os) (all_ (segRun_of (body_ w os)) (fin_ w os)))
theorem look1_ : ∀ w os, (staticsOk (importedModules pwM.main.body) (boot_heap w.params) (H9 w.params) && namesBound pwM (H9 w.params) && gensDone (Z9 w os) && laidKept (boot_heap w.params) (H9 w.params)) = true := by
  intro w os
  kernel_rfl
theorem look2_ : ∀ w os, openSeen hd.view_39 loose0 (importedModules pwM.main.body) Xt0 true (Z9 w os) = openGood hd.view_39 loose0 := by
  intro w os
  kernel_rfl
theorem look3_ : ∀ w os, Hook.obs H0 (Z9 w os) = Hook.val H0 w := by
  intro w os
  kernel_rfl
theorem open_ : ∀ w : World, (fencedOpening treeTable pwM w 4396).map (fun s => (s.heap, s.gens, s.drawn, s.toks)) = some (boot_heap w.params, #[], boot_drawn, boot_toks) := boot_open (by kernel_rfl) (by kernel_rfl) (fun _ => by kernel_rfl)
end Z
theorem hlT : LeftO PySem.Challenge.pw_it0027_01 hd.view_39 loose0 Xt0 (Hook.obs H0) (Hook.val H0) 4396 :=
  LeftO.of_pieces (H₀ := boot_heap) (H₁ := Z.H9) (gs₀ := #[]) (gs₁ := #[]) (d₀ := boot_drawn) (d₁ := {}) (k₀ := boot_toks) (k₁ := 586) (m₀ := 11) (ann := Z.an0) (M := 12 + (1 + (2200 + 2))) Z.open_ Z.size_ Z.run_ (by kernel_rfl) fun w => funext fun os => Prod.ext (Z.look1_ w os) (Prod.ext (Z.look2_ w os) (Z.look3_ w os))

end T_HL
section T_MX
open PySem PySem.W PyProof.Rows PySem.Spec PySem.Calls
set_option maxRecDepth 100000
set_option maxHeartbeats 4000000

/-! exceptions in flight, their context told -/

/-- e stands with its traceback's head T, in flight at fl; its context is c -/
noncomputable def TrX (h base : Heap) (e : Addr) (cls a0 c fl : Value) : Prop :=
  ∃ oe vs T oT ts, h.get? e = some oe ∧ oe.cls = cls ∧ oe.data = .fields vs ∧ vs[0]? = some a0 ∧ vs[1]? = some (.ref T) ∧ vs[2]? = some c ∧ base.get? T = none ∧ T ≠ e ∧ h.get? T = some oT ∧ oT.data = .fields ts ∧ ts[3]? = some fl
theorem TrX.toW {h base : Heap} {e : Addr} {cls a0 c fl : Value} (x : TrX h base e cls a0 c fl) : h.TracedAtW base e cls a0 fl := by
  obtain ⟨oe, vs, T, oT, ts, h1, h2, h3, h4, h5, h6, r⟩ := x
  exact ⟨oe, vs, T, oT, ts, h1, ⟨h2, h4⟩, h3, h5, r⟩

section
variable {M : Model} {A : Around} {E : Value → Shared → Prop} {s : Shared} {base : Heap} {env : Env} {outer : List Env} {L e : Addr} {cls a0 c : Value} {Q : Unit → Shared → Prop}

/-- a new entry of the traceback, for the frame at hand -/
theorem entX {oe : Obj} {vs : Array Value} {head : Value} {b : Bool}
    (hfr : A.frames = some (env :: outer)) (hl : s.heap.FunFrames base (env :: outer)) (hf : env.frame = some L)
    (he : s.heap.get? e = some oe) (hkb : base.StaysIn s.heap) (hen : base.get? e = none) (hc : oe.cls = cls) (hd : oe.data = .fields vs) (hsz : 1 < vs.size) (h0 : vs[0]? = some a0) (h2 : vs[2]? = some c)
    (h : ∀ h', base.StaysIn h' → h'.FunFrames base (env :: outer) → TrX h' base e cls a0 c (rawInt L) → s.heap.UpToSlots h' → Q () { s with heap := h' }) :
    wpAny M A (do let a ← frameOf env; let pl ← entryPlaceOf L b; let x ← EntryCells.newEntry head a .none (rawInt L) .none pl; setField (.ref e) 1 x) Q E s := by
  have notFrame : e ∉ (env :: outer).filterMap (·.frame) := fun hm => by
    obtain ⟨_, o, ho, hnf⟩ := hl.mem hm
    rw [he] at ho; cases ho; exact hnf vs hd
  refine wpAny_bind (wpAny_frameOf_fun hfr hl hf fun h₁ hs₁ => wpAny_bind (wpAny_entryPlaceOf fun pl hpl => ?_))
  unfold EntryCells.newEntry newFields
  refine wpAny_bind (wpAny_newObj_type ?_ (hpl.sizeOk5 _ _ _ _ _))
  obtain ⟨_, hsame, hslots⟩ := hs₁
  have e₁ : h₁.get? e = some oe := (hsame e notFrame).trans he
  have b₁ : base.StaysIn h₁ := fun a o q => (hsame a fun hm => by rw [(hl.mem hm).1] at q; cases q).trans (hkb a o q)
  have lt₁ := Heap.lt_size e₁
  have e₂ := fun o => Heap.get?_push_of_some (h := h₁) o e₁
  refine wpAny_setField (e₂ _) hd hsz (h _ ?_ ?_ ?_ ?_)
  · intro a o q
    rw [Heap.get?_update_other _ _ (fun z : e = a => by rw [← z, hen] at q; cases q)]
    exact Heap.get?_push_of_some _ (b₁ a o q)
  · refine hl.of_keeps fun a o q hnf => ?_
    obtain ⟨sl, hsl⟩ := hslots a o q
    refine ⟨{ o with slots := sl }, ?_, rfl⟩
    rw [Heap.get?_update_other _ _ (fun z : e = a => by rw [← z, he] at q; cases q; exact hnf vs hd)]
    exact Heap.get?_push_of_some _ hsl
  · refine ⟨_, _, h₁.objs.size, { cls := .type "traceback", data := .fields ([head, .ref L, .none, rawInt L, .none] ++ (if pl.isEmpty then List.replicate 6 Value.none else pl)).toArray }, ([head, .ref L, .none, rawInt L, .none] ++ (if pl.isEmpty then List.replicate 6 Value.none else pl)).toArray, Heap.get?_update_self _ (e₂ _) (Obj.isFreed_of_fields (Obj.data_mapFields hd _)), ?_, Obj.data_mapFields hd _, ?_, ?_, ?_, b₁.fresh, Nat.ne_of_gt lt₁, ?_, ?_, ?_⟩
    · rw [Obj.cls_mapFields]; exact hc
    · rw [Array.getElem?_setIfInBounds_ne (by decide)]; exact h0
    · simp [hsz]
    · rw [Array.getElem?_setIfInBounds_ne (by decide)]; exact h2
    · rw [Heap.get?_update_other _ _ (Nat.ne_of_lt lt₁)]
      exact Heap.get?_push_size _ rfl
    · rfl
    · rcases hpl with rfl | ⟨_, _, _, _, _, _, _, rfl⟩ <;> simp
  · intro a o q hnf
    obtain ⟨sl, hsl⟩ := hslots a o q
    refine ⟨sl, ?_⟩
    rw [Heap.get?_update_other _ _ (fun z : e = a => by rw [← z, he] at q; cases q; exact hnf vs hd)]
    exact Heap.get?_push_of_some _ hsl

/-- the frame noted on an exception that has no traceback yet -/
theorem note0X {oe : Obj} {vs : Array Value}
    (hfr : A.frames = some (env :: outer)) (hl : s.heap.FunFrames base (env :: outer)) (hf : env.frame = some L)
    (he : s.heap.get? e = some oe) (hkb : base.StaysIn s.heap) (hen : base.get? e = none) (hc : oe.cls = cls) (hd : oe.data = .fields vs) (h0 : vs[0]? = some a0) (h1 : vs[1]? = some .none) (h2 : vs[2]? = some c)
    (h : ∀ h', base.StaysIn h' → h'.FunFrames base (env :: outer) → TrX h' base e cls a0 c (rawInt L) → s.heap.UpToSlots h' → Q () { s with heap := h' }) :
    wpAny M A (noteFrame (.ref e) env) Q E s := by
  unfold noteFrame
  simp only [hf]
  refine wpAny_bind (wpAny_field he hd h1 ?_)
  rw [if_neg (by decide)]
  exact entX hfr hl hf he hkb hen hc hd (Array.getElem?_eq_some_iff.mp h1).1 h0 h2 h

/-- .. on one in flight -/
theorem note1X (hfr : A.frames = some (env :: outer)) (hl : s.heap.FunFrames base (env :: outer)) (hf : env.frame = some L) (hkb : base.StaysIn s.heap) (hen : base.get? e = none) (ht : TrX s.heap base e cls a0 c .none)
    (h : ∀ h', base.StaysIn h' → h'.FunFrames base (env :: outer) → TrX h' base e cls a0 c (rawInt L) → s.heap.UpToSlots h' → Q () { s with heap := h' }) :
    wpAny M A (noteFrame (.ref e) env) Q E s := by
  obtain ⟨oe, vs, T, oT, ts, he, hc, hd, h0, h1, h2, hbT, hTe, hT, hdT, h3⟩ := ht
  unfold noteFrame
  simp only [hf]
  refine wpAny_bind (wpAny_field he hd h1 ?_)
  rw [if_pos (show (Value.ref T != Value.none) = true from by simp)]
  refine wpAny_bind (wpAny_field hT hdT h3 ?_)
  rw [if_neg (show ¬ ((Value.none == rawInt L) = true) from by simp [rawInt])]
  refine wpAny_bind (wpAny_setField hT hdT (Array.getElem?_eq_some_iff.mp h3).1 ?_)
  have other : ∀ {a : Addr} {o : Obj}, s.heap.get? a = some o → (∀ us, o.data ≠ .fields us) ∨ a ≠ T → (s.heap.update T (Obj.mapFields (·.setIfInBounds 3 Value.none))).get? a = some o := fun {a o} q z => by
    have hne : a ≠ T := z.elim (fun hnf w => by rw [w, hT] at q; cases q; exact hnf ts hdT) id
    rw [Heap.get?_update_other _ _ (Ne.symm hne)]; exact q
  refine entX hfr (hl.of_keeps fun a o q hnf => ⟨o, other q (.inl hnf), rfl⟩) hf (other he (.inr (Ne.symm hTe))) (fun a o q => other (hkb a o q) (.inr fun z => by rw [z, hbT] at q; cases q)) hen hc hd (Array.getElem?_eq_some_iff.mp h1).1 h0 h2 fun h' k1 k2 k3 k4 => ?_
  exact h h' k1 k2 k3 fun a o q hnf => k4 a o (other q (.inl hnf)) hnf

/-- no frame is at it any more -/
theorem flightX {l : List Env} {fl : Value} (hl : s.heap.FunFrames base l) (hkb : base.StaysIn s.heap) (ht : TrX s.heap base e cls a0 c fl)
    (h : ∀ h', base.StaysIn h' → h'.FunFrames base l → TrX h' base e cls a0 c .none → s.heap.UpToSlots h' → Q () { s with heap := h' }) :
    wpAny M A (setFlight (.ref e) none) Q E s := by
  obtain ⟨oe, vs, T, oT, ts, he, hc, hd, h0, h1, h2, hbT, hTe, hT, hdT, h3⟩ := ht
  have h3s := (Array.getElem?_eq_some_iff.mp h3).1
  unfold setFlight
  refine wpAny_bind (wpAny_field he hd h1 ?_)
  rw [if_pos (show (Value.ref T != Value.none) = true from by simp)]
  have other : ∀ {a : Addr} {o : Obj} {v : Value}, s.heap.get? a = some o → (∀ us, o.data ≠ .fields us) ∨ a ≠ T → (s.heap.update T (Obj.mapFields (·.setIfInBounds 3 v))).get? a = some o := fun {a o v} q z => by
    have hne : a ≠ T := z.elim (fun hnf w => by rw [w, hT] at q; cases q; exact hnf ts hdT) id
    rw [Heap.get?_update_other _ _ (Ne.symm hne)]; exact q
  refine wpAny_setField hT hdT h3s (h _ (fun a o q => other (hkb a o q) (.inr fun z => by rw [z, hbT] at q; cases q)) (hl.of_keeps fun a o q hnf => ⟨o, other q (.inl hnf), rfl⟩) ?_ fun a o q hnf => ⟨o.slots, other q (.inl hnf)⟩)
  exact ⟨oe, vs, T, _, _, other he (.inr (Ne.symm hTe)), hc, hd, h0, h1, h2, hbT, hTe, Heap.get?_update_self _ hT (Obj.isFreed_of_fields (Obj.data_mapFields hdT _)), Obj.data_mapFields hdT _, by simp [h3s]⟩
end

/-- in flight over a ground B -/
noncomputable def FlyX (B : Heap) (l : List Env) (e : Addr) (cls a0 c : Value) (h : Heap) : Prop := B.StaysIn h ∧ B.get? e = none ∧ h.FunFrames B l ∧ TrX h B e cls a0 c .none
/-- raised, the ground G and the ledger standing -/
noncomputable def RaisedSX (base G : Heap) (l : List Env) (e : Addr) (cls c : Value) (news : List (Addr × Obj)) (h : Heap) : Prop :=
  ∃ B a0, base.StaysIn B ∧ (∀ b o, G.get? b = some o → b ∉ l.filterMap (·.frame) → B.get? b = some o) ∧ (∀ q ∈ news, B.get? q.1 = some q.2 ∧ G.get? q.1 = none ∧ base.get? q.1 = none) ∧ FlyX B l e cls a0 c h
theorem RaisedSX.toSN {base G : Heap} {l : List Env} {e : Addr} {cls c : Value} {news : List (Addr × Obj)} {h : Heap} (R : RaisedSX base G l e cls c news h) : RaisedSN base G l e cls news h := by
  obtain ⟨B, a0, h1, h2, h3, h4, h5, h6, h7⟩ := R
  exact ⟨B, a0, h1, h2, h3, h4, h5, h6, h7.toW⟩

section
variable {M : Model} {A : Around} {E : Value → Shared → Prop} {s' : Shared} {base g g₂ h : Heap} {outer : List Env} {L a e : Addr} {m : Str → Option Value} {name : Str} {scope : Scope} {cd cls a0 c : Value} {Q : Unit → Shared → Prop} {news : List (Addr × Obj)}

/-- a new exception leaves the frame it is raised in -/
theorem leave0X {oe : Obj} {vs : Array Value} (K : Below A base outer g) (F : Fr g L h m) (N : News g L h news) (hkeep : ∀ b o, h.get? b = some o → b ≠ e → (∀ us, o.data ≠ .fields us) ∨ b ≠ e → s'.heap.get? b = some o) (hnew : h.get? e = none)
    (he : s'.heap.get? e = some oe) (hc : oe.cls = cls) (hd : oe.data = .fields vs) (h0 : vs[0]? = some a0) (h1 : vs[1]? = some .none) (h2 : vs[2]? = some c)
    (hQ : ∀ h', RaisedSX base g outer e cls c news h' → g.UpToSlots h' → Q () { s' with heap := h' }) (hk : scope.kind = .function) :
    wpAny M (A.deeper (envOf name scope L a cd)) (leaving (envOf name scope L a cd) (.ref e)) Q E s' := by
  have K' := K.push (name := name) (a := a) (cd := cd) F hk
  have up : ∀ b o, h.get? b = some o → s'.heap.get? b = some o := fun b o q => hkeep b o q (fun z => by rw [z, hnew] at q; cases q) (.inr fun z => by rw [z, hnew] at q; cases q)
  let B := hideAll h ((envOf name scope L a cd :: outer).filterMap (·.frame))
  have hin : ∀ env ∈ (envOf name scope L a cd :: outer), ∀ b, env.frame = some b → b ∈ (envOf name scope L a cd :: outer).filterMap (·.frame) := fun env he b hb => List.mem_filterMap.mpr ⟨env, he, hb⟩
  have hB : ∀ b o, B.get? b = some o → s'.heap.get? b = some o := fun b o q => up b o (of_hideAll _ q)
  have st : base.StaysIn B := fun b o q => hideAll_get _ (K'.stays b o q) fun hm => by
    rw [(K'.frames.mem hm).1] at q; cases q
  have sg : ∀ b o, g.get? b = some o → b ∉ outer.filterMap (·.frame) → B.get? b = some o := fun b o q nm => hideAll_get _ (F.keep b o q) fun hm => by
    rcases kts_mem hm with z | z
    · rw [z, kts_self F] at q; cases q
    · exact nm z
  have hl : ∀ q ∈ news, B.get? q.1 = some q.2 ∧ g.get? q.1 = none ∧ base.get? q.1 = none := fun q hq => by
    refine ⟨hideAll_get _ (N q hq).1 fun hm => ?_, (N q hq).2.2, kts_none K.stays (N q hq).2.2⟩
    rcases kts_mem hm with z | z
    · exact (N q hq).2.1 z
    · obtain ⟨o, ho, _⟩ := (K.frames.mem z).2
      rw [(N q hq).2.2] at ho; cases ho
  have hen : B.get? e = none := kts_none (fun b o q => of_hideAll _ q) hnew
  unfold leaving
  refine wpAny_bind (note0X K'.stack ((funFrames_hide K'.frames hin).of_keeps fun b o q _ => ⟨o, up b o q, rfl⟩) rfl he hB hen hc hd h0 h1 h2 fun h₁ k1 k2 k3 k4 => ?_)
  refine flightX (s := { s' with heap := h₁ }) k2 k1 k3 fun h₂ x1 x2 x3 x4 => ?_
  obtain ⟨_, _, x2⟩ := x2
  exact hQ h₂ ⟨B, a0, st, sg, hl, x1, hen, x2, x3⟩ (((Heap.UpToSlots.of_keeps F.keep).trans (Heap.UpToSlots.of_keeps up)).trans (k4.trans x4))
theorem leave_newX {cls : String} {args : List Value} (K : Below A base outer g) (hx : Heap.MadeExc h s'.heap e cls args) (F : Fr g L h m) (N : News g L h news)
    (hQ : ∀ h', RaisedSX base g outer e (.type cls) .none news h' → g.UpToSlots h' → Q () { s' with heap := h' }) (hk : scope.kind = .function := by rfl) :
    wpAny M (A.deeper (envOf name scope L a cd)) (leaving (envOf name scope L a cd) (.ref e)) Q E s' := by
  obtain ⟨t, ht, _, _⟩ := hx.there
  exact leave0X K F N (fun b o q _ _ => hx.keeps b o q) hx.new ht rfl rfl rfl rfl rfl hQ hk
/-- an exception leaves a further frame -/
theorem leave_onX (K : Below A base outer g) (F : Fr g L g₂ m) (R : RaisedSX base g₂ (envOf name scope L a cd :: outer) e cls c news s'.heap) (hsm : g₂.UpToSlots s'.heap)
    (hQ : ∀ h', RaisedSX base g outer e cls c news h' → g.UpToSlots h' → Q () { s' with heap := h' }) :
    wpAny M (A.deeper (envOf name scope L a cd)) (leaving (envOf name scope L a cd) (.ref e)) Q E s' := by
  obtain ⟨B, a0, hB, hBG, hl, f1, f2, f3, f4⟩ := R
  unfold leaving
  refine wpAny_bind (note1X (Around.frames_deeper K.stack) f3 rfl f1 f2 f4 fun h₁ k1 k2 k3 k4 => ?_)
  refine flightX (s := { s' with heap := h₁ }) k2 k1 k3 fun h₂ x1 x2 x3 x4 => ?_
  obtain ⟨_, _, x2⟩ := x2
  refine hQ h₂ ⟨B, a0, hB, fun b o q nm => hBG b o (F.keep b o q) (fun hm => ?_), fun q hq => ⟨(hl q hq).1, kts_none F.keep (hl q hq).2.1, (hl q hq).2.2⟩, x1, f2, x2, x3⟩ ((Heap.UpToSlots.of_keeps F.keep).trans (hsm.trans (k4.trans x4)))
  rcases kts_mem hm with z | z
  · rw [z, kts_self F] at q; cases q
  · exact nm z
end

theorem RaisedSX.unturn {base g g' : Heap} {l : List Env} {e : Addr} {cls c : Value} {news : List (Addr × Obj)} {h : Heap} (T : KtsTurn (l.filterMap (·.frame)) g g') (R : RaisedSX base g' l e cls c news h) : RaisedSX base g l e cls c news h := by
  obtain ⟨B, a0, h1, h2, h3, h4⟩ := R
  refine ⟨B, a0, h1, fun b o q nm => h2 b o (T.other b o q nm) nm, fun q hq => ⟨(h3 q hq).1, ?_, (h3 q hq).2.2⟩, h4⟩
  cases z : g.get? q.1 with
  | none => rfl
  | some o =>
    obtain ⟨sl, hs⟩ := T.up z
    rw [(h3 q hq).2.1] at hs; cases hs
theorem RaisedSX.sub {base g : Heap} {l : List Env} {e : Addr} {cls c : Value} {news news' : List (Addr × Obj)} {h : Heap} (R : RaisedSX base g l e cls c news h) (k : ∀ q ∈ news', q ∈ news) : RaisedSX base g l e cls c news' h := by
  obtain ⟨B, a0, h1, h2, h3, h4⟩ := R
  exact ⟨B, a0, h1, h2, fun q hq => h3 q (k q hq), h4⟩
theorem upTo_unturn {g g' h : Heap} {fs : List Addr} (T : KtsTurn fs g g') (U : g'.UpToSlots h) : g.UpToSlots h := fun b o q hnf => by
  obtain ⟨sl, hs⟩ := T.up q
  obtain ⟨sl2, h2⟩ := U b { o with slots := sl } hs hnf
  exact ⟨sl2, h2⟩

/-- the context that e bears -/
noncomputable def CtxIs (e : Addr) (cls c : Value) (h : Heap) : Prop := ∃ oe vs, h.get? e = some oe ∧ oe.cls = cls ∧ oe.data = .fields vs ∧ vs[2]? = some c

section
variable {prog : Program} {w : World} {A₀ : Around} {E : Value → Shared → Prop} {s' : Shared} {base g g₀ G : Heap} {outer : List Env} {L a e : Addr} {m : Str → Option Value} {name : Str} {scope : Scope} {cd c : Value}
  {b₀ : Stmt} {suite : List Stmt} {pos np : Pos} {rest : List ExceptHandler} {Q : Flow → Shared → Prop} {news : List (Addr × Obj)} {KF : Frag}
  {p : Program} {loose : List Str} {mean : ExcName → Option Value} {mg mb : Str → Option Value} {x : Str} {X T' : String}

/-- caught by the frame's own try, its context told -/
theorem caughtX (R : RaisedSX base G (envOf name scope L a cd :: outer) e (.type X) c news s'.heap) (F : Fr g L G m) (K : Below A₀ base outer g) (hsm : G.UpToSlots s'.heap) (XB : KF.In base) (TB : Top p loose mean mg mb base)
    (D : KtsDicts (outer.filterMap (·.frame)) g)
    (ex : nsIn KF mainGlobals x = some none) (hv : bootBuiltins x = some (.type T')) (hn' : x ≠ "__name__")
    (hexc : isSubtype (.type T') (.type "BaseException") = pure true) (hnt : isSubtype (.type ((Manifest.find? T').elim "type" fun y => y.metatype)) (.type "tuple") = pure false) (hsub : isSubtype (.type X) (.type T') = pure true)
    (k : ∀ h' g' oe vs, KtsTurn (outer.filterMap (·.frame)) g g' → Fr g' L h' m → News g' L h' ((e, oe) :: news) → Below A₀ base outer g' → KF.In g' → Top p loose mean mg mb g' → KtsDicts (outer.filterMap (·.frame)) g' → oe.cls = .type X → oe.data = .fields vs → vs[2]? = some c →
      wpAny (model prog w) ((A₀.deeper (envOf name scope L a cd)).mark (some (.ref e))) (execs (b₀ :: suite) (envOf name scope L a cd)) Q E { s' with heap := h' })
    (hE : PassesOwnAt (model prog w) ((A₀.deeper (envOf name scope L a cd)).mark (some (.ref e))) (A₀.deeper (envOf name scope L a cd)) (envOf name scope L a cd) E)
    (hk : scope.kind = .function := by rfl) (hx : (envOf name scope L a cd).kindOf x = some .globalImplicit := by rfl) (hd : (x == ("__debug__" : Str)) = false := by decide) :
    wpAny (model prog w) (A₀.deeper (envOf name scope L a cd)) (noteFrame (.ref e) (envOf name scope L a cd))
      (fun _ s₂ => wpAny (model prog w) (A₀.deeper (envOf name scope L a cd)) (setFlight (.ref e) none) (fun _ s₃ =>
        wpAny (model prog w) (A₀.deeper (envOf name scope L a cd)) (handleBy (.ref e) (envOf name scope L a cd) (.ExceptHandler (some (.Name x np)) none (b₀ :: suite) pos :: rest)) Q E s₃) E s₂) E s' := by
  obtain ⟨B, a0, hB, hBG, hl, f1, f2, f3, f4⟩ := R
  have hL : B.get? L = none := by
    obtain ⟨_, ⟨L', _, hf, hn', _⟩, _⟩ := f3
    obtain rfl : L = L' := Option.some.inj hf
    exact hn'
  refine note1X (Around.frames_deeper K.stack) f3 rfl f1 f2 f4 fun h₁ k1 k2 k3 k4 => ?_
  refine flightX (s := { s' with heap := h₁ }) k2 k1 k3 fun h₂ x1 x2 x3 x4 => ?_
  have sm₂ := hsm.trans (k4.trans x4)
  obtain ⟨g₂, T₂, F₂, K₂⟩ := kts_ground K F hBG x1 sm₂
  have P₂ : TopRead p loose mg mb g₂ := topRead_of (TB.keeps K₂.stays)
  have hT : ({ s' with heap := h₂ } : Shared).TypeIs (.ref e) X := by
    obtain ⟨oe, _, _, _, _, q1, q2, _⟩ := x3
    exact ⟨oe, q1, q2⟩
  refine wpAny_handleBy_builtin (X := X) (T := T') (b := true) hexc hnt hsub (name_B (s := { s' with heap := h₂ }) F₂ (XB.keeps K₂.stays) P₂ ex hv hn' ⟨rfl, hT, ?_⟩ hk hx hd)
  refine flightX (s := { s' with heap := h₂ }) x2 x1 x3 fun h₃ y1 y2 y3 y4 => ?_
  have sm₃ := sm₂.trans y4
  obtain ⟨g₃, T₃, F₃, K₃⟩ := kts_ground K F hBG y1 sm₃
  have N₃ : News g₃ L h₃ news := fun q hq => ⟨y1 _ _ (hl q hq).1, (fun z => by have := (hl q hq).1; rw [z, hL] at this; cases this), T₃.none_ _ (kts_none F.keep (hl q hq).2.1)⟩
  obtain ⟨oe, vs, _, _, _, q1, q2, q3, _, _, q4, _⟩ := y3
  have hge : g₃.get? e = none := T₃.none_ _ (kts_fresh F hBG f2 fun o ho hm => by
    obtain ⟨_, o', ho', hdd⟩ := K.frames.mem hm
    rw [ho] at ho'; cases ho'
    obtain ⟨sl, hs⟩ := sm₃ _ _ (F.keep _ _ ho) hdd
    rw [hs] at q1; cases q1
    exact hdd _ q3)
  have heL : e ≠ L := fun z => by
    obtain ⟨oL, es, ep, z1, z2, _⟩ := F₃.ns
    rw [← z, q1] at z1; cases z1
    rw [q3] at z2; cases z2
  have N₄ : News g₃ L h₃ ((e, oe) :: news) := fun q hq => by
    rcases List.mem_cons.mp hq with rfl | hq
    · exact ⟨q1, heL, hge⟩
    · exact N₃ q hq
  exact wpAny_passesOwnAt hE (k h₃ g₃ oe vs T₃ F₃ N₄ K₃ (XB.keeps K₃.stays) (TB.keeps K₃.stays) (D.turn T₃) q2 q3 q4)
end

section
variable {prog : Program} {w : World} {A : Around} {E : Value → Shared → Prop} {s : Shared} {env : Env}
theorem exc_StopIteration : isSubtype (.type "StopIteration") (.type "BaseException") = pure true := by rw [isSubtype_type]; kernel_rfl
theorem notTup_StopIteration : isSubtype (.type ((Manifest.find? "StopIteration").elim "type" fun x => x.metatype)) (.type "tuple") = pure false := by
  rw [show ((Manifest.find? "StopIteration").elim "type" fun x => x.metatype) = "type" from by kernel_rfl, isSubtype_type]; kernel_rfl
theorem stop_sub : isSubtype (.type "StopIteration") (.type "StopIteration") = pure true := by rw [isSubtype_type]; kernel_rfl
theorem exc_IndexError : isSubtype (.type "IndexError") (.type "BaseException") = pure true := by rw [isSubtype_type]; kernel_rfl
theorem notTup_IndexError : isSubtype (.type ((Manifest.find? "IndexError").elim "type" fun x => x.metatype)) (.type "tuple") = pure false := by
  rw [show ((Manifest.find? "IndexError").elim "type" fun x => x.metatype) = "type" from by kernel_rfl, isSubtype_type]; kernel_rfl
theorem index_sub : isSubtype (.type "IndexError") (.type "IndexError") = pure true := by rw [isSubtype_type]; kernel_rfl
theorem entry_unchain : entryFor table "proto.unchain" = some Builtin.«proto.unchain» := by first | exact entryFor_of_tree (by kernel_rfl) | exact entryFor_of_fast (by kernel_rfl)

/-- what is wanted once the arguments of a raise in a handler stand -/
noncomputable def RaiseEnd (E : Value → Shared → Prop) (cls cls0 : String) (e0 : Addr) (vs : List Value) (s₂ : Shared) : Prop :=
  vs.length ≤ sizeLine ∧ CtxIs e0 (.type cls0) .none s₂.heap ∧ ∀ h' e oe ws t, s₂.heap.get? e = none → (∀ b o, s₂.heap.get? b = some o → h'.get? b = some o) → h'.get? e = some oe → oe.cls = .type cls → oe.data = .fields ws →
        ws[0]? = some (.ref t) → ws[1]? = some .none → ws[2]? = some (.ref e0) → E (.ref e) { s₂ with heap := h' }

theorem RaiseEnd.intro {E : Value → Shared → Prop} {cls cls0 : String} {e0 : Addr} {vs : List Value} {s₂ : Shared} {g : Heap} {L : Addr} {news : List (Addr × Obj)} {oe : Obj} {us : Array Value} (hl : vs.length ≤ sizeLine) (N : News g L s₂.heap news) (hm : (e0, oe) ∈ news)
    (c1 : oe.cls = .type cls0) (c2 : oe.data = .fields us) (c3 : us[2]? = some .none)
    (h : ∀ h' e oe ws t, s₂.heap.get? e = none → (∀ b o, s₂.heap.get? b = some o → h'.get? b = some o) → h'.get? e = some oe → oe.cls = .type cls → oe.data = .fields ws →
        ws[0]? = some (.ref t) → ws[1]? = some .none → ws[2]? = some (.ref e0) → E (.ref e) { s₂ with heap := h' }) : RaiseEnd E cls cls0 e0 vs s₂ :=
  ⟨hl, ⟨oe, us, N.get hm, c1, c2, c3⟩, h⟩
theorem index_text {i : Int} (h0 : 0 ≤ i) (h1 : i ≤ 100000) : (Str.empty ++ Str.ofString "Index " ++ Str.ofString (toString i) ++ Str.ofString " out of range").length ≤ sizeLine := by
  have h := int_text_length_le10 (a := i) (k := 6) (by decide) (by omega)
  rw [Str.length_append, Str.length_append, Str.length_append, PySem.ofString_length, PySem.ofString_length, PySem.ofString_length, sizeLine_eq]
  have e1 : "Index ".length ≤ 100 := by decide
  have e2 : " out of range".length ≤ 100 := by decide
  have e3 : Str.empty.length = 0 := rfl
  omega

/-- raise X(..) in a handler, of an exception that has no context of its own -/
theorem raise_marked {cls cls0 newId initId : String} {e0 : Addr} (Fc : ExcCallFacts cls newId initId) (Gc : ExcRaiseFacts cls) {x : Str} {np cpos pos : Pos} {e₀ : Expr} {Q : Flow → Shared → Prop}
    (hh : A.handled = some (.ref e0)) (hplain : starEach [e₀] env = [(false, eval e₀ env)])
    (h : wpAny (model prog w) A (eval (.Name x np) env) (fun f s₁ => f = .type cls ∧ wpAny (model prog w) A (spliced (backTo cpos (starEach [e₀] env))) (fun vs s₂ => RaiseEnd E cls cls0 e0 vs s₂) E s₁) E s) :
    wpAny (model prog w) A (exec (.Raise (some (.Call (.Name x np) [e₀] [] cpos)) none pos) env) Q E s := by
  rw [arm_exec_Raise]
  have main : wpAny (model prog w) A (raiseStmt env (some (do let v ← eval (.Call (.Name x np) [e₀] [] cpos) env; standAt pos; pure v)) none) Q E s := by
    unfold raiseStmt
    refine wpAny_bind (wpAny_bind (wpAny_Call_ofName (wpAny_mono h (fun f s₁ h₁ => ?_) fun _ _ x => x)))
    obtain ⟨rfl, h₁⟩ := h₁
    have hpl : (backTo cpos (starEach [e₀] env)).any (·.1) = false := by rw [hplain]; rfl
    refine callWith_excType hpl ?_
    rw [hplain] at h₁ ⊢
    refine Calls.evalArgs_plain (wpAny_mono h₁ (fun apos s₂ h₂ => ?_) fun _ _ x => x)
    obtain ⟨hlen, hctx, h₂⟩ := h₂
    obtain ⟨hp, g, d, tk, os⟩ := s₂
    refine wpAny_call_exc Fc (hrest := hlen) fun h' e hm => ?_
    obtain ⟨t, ht, _, _⟩ := hm.there
    refine wpAny_bind (wpAny_standAt (wpAny_pure ?_))
    obtain ⟨oe0, vs0, q1, q2, q3, q4⟩ := hctx
    have q1' := hm.keeps _ _ q1
    have hne : e0 ≠ e := fun z => by have := hm.new; rw [← z, q1] at this; cases this
    have hsub := Gc.isExc
    have hmeta := Gc.plainMeta
    repeat (first | refine wpAny_loadPart ht ?_ | wp_step)
    unfold raiseNew
    refine wpAny_bind (wpAny_handled ?_)
    rw [hh]
    dsimp only
    rw [if_pos (show (Value.ref e0 != Value.ref e) = true from by simp [hne])]
    refine wpAny_bind (wpAny_holding (wpAny_runValue (codeAny_builtin entry_unchain ?_)))
    unfold Builtin.«proto.unchain»
    dsimp only
    refine wpAny_bind (wpAny_field (s := ⟨h', g, d, tk, os⟩) q1' q3 q4 ?_)
    rw [if_pos (show (Value.none == Value.none) = true from rfl)]
    refine wpAny_bind (wpAny_of_eq rfl (wpAny_pure ?_))
    dsimp only
    unfold updateField
    refine wpAny_bind (wpAny_bind (wpAny_load (s := ⟨h', g, d, tk, os⟩) ht ?_))
    dsimp only
    rw [if_pos (by simp)]
    refine wpAny_update (s := ⟨h', g, d, tk, os⟩) ht (wpAny_throw ?_)
    refine h₂ _ e _ _ t hm.new (fun b o q => ?_) (Heap.get?_update_self _ ht rfl) (Obj.cls_mapFields _ _) (Obj.data_mapFields rfl _) rfl rfl rfl
    rw [Heap.get?_update_other _ _ (fun z : e = b => by have := hm.new; rw [z, q] at this; cases this)]
    exact hm.keeps b o q
  first
    | exact wpAny_bind (wpAny_standAt main)
    | (simp only [evalOpt, Option.map]; exact wpAny_bind (wpAny_standAt main))
    | (show wpAny _ A (do standAt pos; raiseStmt env (some (do let v ← eval (.Call (.Name x np) [e₀] [] cpos) env; standAt pos; pure v)) none) Q E s; exact wpAny_bind (wpAny_standAt main))
end

end T_MX
section T_M0
open PySem PySem.W PyProof.Rows PySem.Spec PySem.Calls
set_option maxRecDepth 100000
set_option maxHeartbeats 4000000

noncomputable abbrev Led := List (Addr × Obj)
noncomputable abbrev PG : Program := PySem.Challenge.pw_it0027_01
noncomputable abbrev LZ : List Str := looseW hd.view_39 [Str.ofString "SHORT_STRING", Str.ofString "decode_lazy", Str.ofString "peek", Str.ofString "big_endian_int"]

theorem room_0 {dp k : Nat} (h : dp + k < recursionLimit) : dp < recursionLimit := Nat.lt_of_le_of_lt (Nat.le_add_right ..) h
theorem room_d {dp c k : Nat} (h : dp + k < recursionLimit) (hk : c + 1 ≤ k) : dp + 1 + c < recursionLimit := by omega
theorem room_u {un c k : Nat} (h : un + 8 * k < cLine) (hk : c + 1 ≤ k) : un + 3 + 8 * c < cLine := by omega
/-- the surroundings of a call, written out -/
noncomputable abbrev top (dp un : Nat) (gd : Option (List Code)) (outer : List Env) : Around :=
  { handled := none, depth := dp, frames := some outer, guards := gd, units := un }

noncomputable abbrev frs (outer : List Env) : List Addr := outer.filterMap (·.frame)

/-- the ground: what a call leaves as it stands (up to slots of the frames) -/
structure Site (w : World) (mean : ExcName → Option Value) (mg mb : Str → Option Value) (base : Heap) (outer : List Env) (g : Heap) : Prop where
  stays : base.StaysIn g
  frames : g.FunFrames base outer
  inB : (hd.heap_39 w.params).In base
  topB : Top hd.view_39 LZ mean mg mb base
  dicts : KtsDicts (frs outer) g

noncomputable def Owns (g h : Heap) (own : Led) : Prop := ∀ q ∈ own, h.get? q.1 = some q.2 ∧ g.get? q.1 = none

section
variable {w : World} {mean : ExcName → Option Value} {mg mb : Str → Option Value} {base g : Heap} {outer : List Env}
theorem Site.below (S : Site w mean mg mb base outer g) {dp un : Nat} {gd : Option (List Code)} : Below (top dp un gd outer) base outer g := ⟨rfl, S.stays, S.frames⟩
theorem Site.inK (S : Site w mean mg mb base outer g) : (hd.heap_39 w.params).In g := S.inB.keeps S.stays
theorem Site.top (S : Site w mean mg mb base outer g) : Top hd.view_39 LZ mean mg mb g := S.topB.keeps S.stays
theorem Site.turn (S : Site w mean mg mb base outer g) {g' : Heap} (T : KtsTurn (frs outer) g g') : Site w mean mg mb base outer g' :=
  ⟨fun b o e => T.other b o (S.stays b o e) (fun hm => by rw [(S.frames.mem hm).1] at e; cases e),
   S.frames.of_keeps fun b o e _ => (by obtain ⟨sl, hs⟩ := T.up e; exact ⟨_, hs, rfl⟩), S.inB, S.topB, S.dicts.turn T⟩
end

/-- what a call of f does: with own handed over and the rest standing -/
noncomputable def Spec (w : World) (mean : ExcName → Option Value) (mg mb : Str → Option Value) (f : Addr) (cost : Nat) (args : Args) (turns : Bool)
    (Pre : Heap → Prop) (own : Led) (Ret : Value → Led → Prop) (Exc : Value → Value → Led → Prop) : Prop :=
  ∀ (dp un : Nat) (gd : Option (List Code)) (base : Heap) (outer : List Env) (g : Heap) (s : Shared) (R : Result → Shared → Prop),
    Site w mean mg mb base outer g → g.StaysIn s.heap → g.objs.size ≤ s.heap.objs.size → Owns g s.heap own → Pre g →
    dp + cost < recursionLimit → un + 8 * cost < cLine →
    (∀ r g' own' h' tk, (if turns then KtsTurn (frs outer) g g' else g' = g) → g'.StaysIn h' → Owns g' h' own' → Ret r own' → R (.ok (.ret r)) { s with heap := h', toks := tk }) →
    (∀ e cls c own' h' tk, RaisedSX base g outer e cls c own' h' → g.UpToSlots h' → Exc cls c own' → R (.error (.ref e)) { s with heap := h', toks := tk }) →
    codeAny (model PG w) (top dp un gd outer) (.call (.ref f) args) R s

noncomputable def put (m : Str → Option Value) (x : Str) (v : Value) : Str → Option Value := fun y => if y = x then some v else m y
noncomputable def at0 (ps : Arguments) (vs : List Value) : Str → Option Value := fun y => ((ps.args.map (·.arg)).zip vs).reverse.lookup y
section
variable {M : Model} {A : Around} {E : Value → Shared → Prop} {s : Shared} {h₀ : Heap} {L a : Addr} {m : Str → Option Value} {cn : Str} {cs : Scope} {ccd : Value} {cl : List (Str × Addr)} {Q : Unit → Shared → Prop} {news : Led} {x : Str} {v : Value}
theorem storeP (F : Fr h₀ L s.heap m) (N : News h₀ L s.heap news)
    (h : ∀ h' tk, Fr h₀ L h' (put m x v) → News h₀ L h' news → Q () { s with heap := h', toks := tk })
    (hk : cs.kind = .function) (hx : (envX cn cs L a ccd cl).kindOf x = some .local) : wpAny M A (storeName (envX cn cs L a ccd cl) x v) Q E s :=
  storeX_L F N (fun h' F' N' => h h' _ F' N') hk hx
end
section
variable {M : Model} {A : Around} {E : Value → Shared → Prop} {env : Env} {prog : Program} {w : World} {a b : Int} {t u : Tok} {s : Shared} {h : Heap} {tk : Nat} {Q : Value → Shared → Prop}
theorem const_i {i k pos} (H : Q (.int i tk) { s with heap := h, toks := tk + 1 }) : wpAny M A (eval (.Constant (.int i) k pos) env) Q E { s with heap := h, toks := tk } := wpAny_Constant_int H
theorem add_i (H : Q (.int (a + b) tk) { s with heap := h, toks := tk + 1 }) : wpAny (model prog w) A (binaryOp .Add (.int a t) (.int b u)) Q E { s with heap := h, toks := tk } := add_int H
theorem sub_i (H : Q (.int (a - b) tk) { s with heap := h, toks := tk + 1 }) : wpAny (model prog w) A (binaryOp .Sub (.int a t) (.int b u)) Q E { s with heap := h, toks := tk } := sub_int H
end
section
variable {w : World} {mean : ExcName → Option Value} {mg mb : Str → Option Value} {base g : Heap} {outer : List Env} {s : Shared} {dp un : Nat} {gd : Option (List Code)} {R : Result → Shared → Prop}
variable {name qual : Str} {params : Arguments} {body : List Stmt} {scope : Scope} {dV kV doc pm cdv ct oc : Value} {an od : Option Addr} {osl : Array (Option Value)} {f : Addr} {args : Args} {binds : List (Str × Value)} {own : Led}

/-- into the body of a def of the text -/
theorem enter (S : Site w mean mg mb base outer g) (hg : g.StaysIn s.heap) (hsz : g.objs.size ≤ s.heap.objs.size) (ho : Owns g s.heap own)
    (hf : (hd.heap_39 w.params).lookup f = some ⟨oc, od, .func (fnOf name qual params body scope dV kV doc pm an cdv ct), osl⟩)
    (hcd : codeIn (hd.heap_39 w.params) cdv qual = true) (hroom : dp < recursionLimit)
    (hbind : BindsTo s (fnOf name qual params body scope dV kV doc pm an cdv ct) args binds) (hloc : ∀ y ∈ binds, scope.names.lookup y.1 = some .local)
    (h : ∀ L' h₁ tk, s.heap.StaysIn h₁ → L' = s.heap.objs.size → Fr g L' h₁ (fun y => binds.reverse.lookup y) → News g L' h₁ own → Below (top dp un gd outer) base outer g → (hd.heap_39 w.params).In g → Top hd.view_39 LZ mean mg mb g →
      let M : Model := model PG w
      let en : Env := envOf qual scope L' f cdv
      let A : Around := (top dp un gd outer).deeper en
      wpAny M A (execs body en)
        (fun fl s' => R (.ok (.ret (match fl with | .ret v => v | _ => .none))) s')
        (fun e s' => wpAny M A (leaving en e) (fun _ s'' => R (.error e) s'') (fun e' s'' => R (.error e') s'') s')
        { s with heap := h₁, toks := tk })
    (hco : scope.isCoroutine = false) (hgen : scope.isGenerator = false) (hk : scope.kind = .function)
    (hcell : ∀ x ∈ scope.names, x.2 ≠ .cell) : codeAny (model PG w) (top dp un gd outer) (.call (.ref f) args) R s := by
  have X := S.inK.keeps hg
  refine codeAny_call_def (fd := fnOf name qual params body scope dV kV doc pm an cdv ct) (body := body) (binds := binds) hroom (X _ _ hf) rfl (S.top.nolimit.keeps hg) (codeRec_of X hcd) rfl hbind hcell hloc (fun h₁ hns hk₁ => ?_) hco hgen hk
  exact h s.heap.objs.size h₁ _ hk₁ rfl ⟨hns, fun b o e => hk₁ b o (hg b o e), hsz⟩
    (fun p hp => ⟨hk₁ _ _ (ho p hp).1, Nat.ne_of_lt (Heap.lt_size (ho p hp).1), (ho p hp).2⟩) S.below S.inK S.top
theorem enterP {vs : List Value} (S : Site w mean mg mb base outer g) (hg : g.StaysIn s.heap) (hsz : g.objs.size ≤ s.heap.objs.size) (ho : Owns g s.heap own)
    (hf : (hd.heap_39 w.params).lookup f = some ⟨oc, od, .func (fnOf name qual params body scope dV kV doc pm an cdv ct), osl⟩)
    (hcd : codeIn (hd.heap_39 w.params) cdv qual = true) (hroom : dp < recursionLimit)
    (hbind : BindsTo s (fnOf name qual params body scope dV kV doc pm an cdv ct) ⟨vs, []⟩ ((params.args.map (·.arg)).zip vs)) (hloc : ((params.args.map (·.arg)).all fun x => decide (scope.names.lookup x = some .local)) = true)
    (h : ∀ L' h₁ tk, s.heap.StaysIn h₁ → L' = s.heap.objs.size → Fr g L' h₁ (at0 params vs) → News g L' h₁ own → Below (top dp un gd outer) base outer g → (hd.heap_39 w.params).In g → Top hd.view_39 LZ mean mg mb g →
      let M : Model := model PG w
      let en : Env := envOf qual scope L' f cdv
      let A : Around := (top dp un gd outer).deeper en
      wpAny M A (execs body en)
        (fun fl s' => R (.ok (.ret (match fl with | .ret v => v | _ => .none))) s')
        (fun e s' => wpAny M A (leaving en e) (fun _ s'' => R (.error e) s'') (fun e' s'' => R (.error e') s'') s')
        { s with heap := h₁, toks := tk })
    (hco : scope.isCoroutine = false) (hgen : scope.isGenerator = false) (hk : scope.kind = .function)
    (hcell : ∀ x ∈ scope.names, x.2 ≠ .cell) : codeAny (model PG w) (top dp un gd outer) (.call (.ref f) ⟨vs, []⟩) R s :=
  enter S hg hsz ho hf hcd hroom hbind (fun y hy => by
    have := List.all_eq_true.mp hloc y.1 (List.of_mem_zip hy).1
    simpa using this) (fun L' h₁ tk a b F N B X T => h L' h₁ tk a b F N B X T) hco hgen hk hcell
end

section
variable {w : World} {mean : ExcName → Option Value} {mg mb : Str → Option Value} {base h₀ : Heap} {outer : List Env} {s : Shared} {dp un : Nat} {gd : Option (List Code)} {R : Result → Shared → Prop}
variable {cn : Str} {cs : Scope} {L a : Addr} {ccd : Value} {m : Str → Option Value} {f : Addr} {args : Args} {own rest : Led} {cost : Nat} {Pre : Heap → Prop} {Ret : Value → Led → Prop} {Exc : Value → Value → Led → Prop} {A : Around} {turns : Bool}

/-- the ground that a call leaves standing: all but what is handed over -/
theorem ground_of (S : Site w mean mg mb base outer h₀) (F : Fr h₀ L s.heap m) (No : News h₀ L s.heap own) (hck : cs.kind = .function) :
    Site w mean mg mb base (envOf cn cs L a ccd :: outer) (hideAll s.heap (own.map (·.1))) ∧ h₀.StaysIn (hideAll s.heap (own.map (·.1))) ∧
    (∃ oL es ep, (hideAll s.heap (own.map (·.1))).get? L = some oL ∧ oL.data = .dict es ep ∧ (∀ (sl : Array (Option Value)) (h' : Heap), h'.get? L = some { oL with slots := sl } → Heap.Ns h' L m)) ∧
    Fr h₀ L (hideAll s.heap (own.map (·.1))) m := by
  obtain ⟨oL, es, ep, hLg, hLd, hN, hNs, st, B₂⟩ := kts_enter (a := a) (ccd := ccd) (A := top 0 0 none (envOf cn cs L a ccd :: outer)) (S.below (dp := 0) (un := 0) (gd := none)) F No rfl hck
  refine ⟨⟨B₂.stays, B₂.frames, S.inB, S.topB, fun b hb => ?_⟩, st, ⟨oL, es, ep, hLg, hLd, hNs⟩, ⟨hN _ hLg, st, F.above⟩⟩
  rcases kts_mem hb with rfl | hb
  · exact ⟨oL, es, ep, hLg, hLd⟩
  · obtain ⟨o, es', n', ho', hd'⟩ := S.dicts b hb
    exact ⟨o, es', n', st b o ho', hd'⟩

theorem use (C : Spec w mean mg mb f cost args turns Pre own Ret Exc) (S : Site w mean mg mb base outer h₀) (F : Fr h₀ L s.heap m) (Nr : News h₀ L s.heap rest) (No : News h₀ L s.heap own)
    (hdis : ∀ p ∈ rest, ∀ q ∈ own, p.1 ≠ q.1) (hck : cs.kind = .function) (hA : A = top dp un gd (envOf cn cs L a ccd :: outer)) (hpre : ∀ G : Heap, h₀.StaysIn G → (∀ p ∈ rest, G.get? p.1 = some p.2) → Pre G)
    (hd : dp + cost < recursionLimit) (hu : un + 8 * cost < cLine)
    (ret : ∀ r h₀' own' h' tk, (if turns then KtsTurn (frs outer) h₀ h₀' else h₀' = h₀) → Site w mean mg mb base outer h₀' → Fr h₀' L h' m → News h₀' L h' (rest ++ own') → (∀ p ∈ rest, ∀ q ∈ own', p.1 ≠ q.1) → Ret r own' →
      R (.ok (.ret r)) { s with heap := h', toks := tk })
    (exc : ∀ e cls c G own' h' tk, RaisedSX base G (envOf cn cs L a ccd :: outer) e cls c (rest ++ own') h' → Fr h₀ L G m → G.UpToSlots h' → Exc cls c own' → R (.error (.ref e)) { s with heap := h', toks := tk }) :
    codeAny (model PG w) A (.call (.ref f) args) R s := by
  subst hA
  obtain ⟨SG, st, ⟨oL, es, ep, hLg, hLd, hNs⟩, FG⟩ := ground_of (cn := cn) (cs := cs) (a := a) (ccd := ccd) S F No hck
  have hrest : ∀ p ∈ rest, (hideAll s.heap (own.map (·.1))).get? p.1 = some p.2 := fun p hp => hideAll_get _ (Nr p hp).1 fun hm => by
    obtain ⟨q, hq, e⟩ := List.mem_map.mp hm
    exact hdis p hp q hq e.symm
  have nL₀ : h₀.get? L = none := kts_self F
  refine C dp un gd base _ _ s R SG (fun b o e => of_hideAll _ e) (Nat.le_of_eq (hideAll_size _ _)) (fun q hq => ⟨(No q hq).1, hideAll_none _ (List.mem_map_of_mem hq)⟩) (hpre _ st hrest) hd hu (fun r g' own' h' tk hT hgh hown hr => ?_) fun e cls c own' h' tk hR hup he => ?_
  · have hT' : KtsTurn (frs (envOf cn cs L a ccd :: outer)) (hideAll s.heap (own.map (·.1))) g' := by
      cases turns with
      | true => simpa using hT
      | false => have : g' = hideAll s.heap (own.map (·.1)) := by simpa using hT
                 subst this; exact KtsTurn.refl
    obtain ⟨sl, hs⟩ := hT'.up hLg
    have hs' := hgh _ _ hs
    have hdisN : ∀ p ∈ rest, ∀ q ∈ own', p.1 ≠ q.1 := fun p hp q hq e => by
      obtain ⟨sl', hp'⟩ := hT'.up (hrest p hp)
      rw [e, (hown q hq).2] at hp'
      cases hp'
    have frL : ∀ p ∈ rest, p.1 ∉ frs (envOf cn cs L a ccd :: outer) := fun p hp hm => by
      rcases kts_mem hm with z | z
      · exact (Nr p hp).2.1 z
      · obtain ⟨o, ho, _⟩ := (S.frames.mem z).2
        rw [(Nr p hp).2.2] at ho; cases ho
    have hrest' : ∀ p ∈ rest, h'.get? p.1 = some p.2 := fun p hp => hgh _ _ (hT'.other _ _ (hrest p hp) (frL p hp))
    cases turns with
    | false =>
      have : g' = hideAll s.heap (own.map (·.1)) := by simpa using hT
      subst this
      refine ret r h₀ own' h' tk (by simp) S ⟨hNs oL.slots _ (hgh _ _ hLg), fun b o e => hgh _ _ (st b o e), F.above⟩ (fun p hp => ?_) hdisN hr
      rcases List.mem_append.mp hp with hp | hp
      · exact ⟨hrest' p hp, (Nr p hp).2⟩
      · refine ⟨(hown p hp).1, fun e => ?_, ?_⟩
        · have := (hown p hp).2; rw [e, hLg] at this; cases this
        · exact kts_none st (hown p hp).2
    | true =>
      obtain ⟨T₁, S₁⟩ := kts_turn_at (h := h') (fs := frs outer) (g := h₀)
        (fun b hb => by
          obtain ⟨o, ho', _⟩ := (S.frames.mem hb).2
          exact ⟨o, ho'⟩)
        (fun b o e nmem => hgh b o (hT'.other b o (st b o e) (fun q => by
          rcases kts_mem q with z | z
          · rw [z, nL₀] at e; cases e
          · exact nmem z)))
        (fun b o e hm => by
          obtain ⟨sl', hs''⟩ := hT'.up (st b o e)
          exact ⟨sl', hgh _ _ hs''⟩)
      refine ret r _ own' h' tk (by simpa using T₁) (S.turn T₁) ⟨hNs sl _ hs', S₁, by rw [T₁.size]; exact F.above⟩ (fun p hp => ?_) hdisN hr
      rcases List.mem_append.mp hp with hp | hp
      · exact ⟨hrest' p hp, (Nr p hp).2.1, T₁.none_ _ (Nr p hp).2.2⟩
      · refine ⟨(hown p hp).1, fun e => ?_, T₁.none_ _ ?_⟩
        · have := (hown p hp).2; rw [e, hs] at this; cases this
        · cases q : h₀.get? p.1 with
          | none => rfl
          | some o =>
            obtain ⟨sl', hs''⟩ := hT'.up (st _ _ q)
            have := (hown p hp).2
            rw [hs''] at this; cases this
  · obtain ⟨B, a0, hB, hBG, hl, hfl⟩ := hR
    have frL : ∀ p ∈ rest, p.1 ∉ frs (envOf cn cs L a ccd :: outer) := fun p hp hm => by
      rcases kts_mem hm with z | z
      · exact (Nr p hp).2.1 z
      · obtain ⟨o, ho, _⟩ := (S.frames.mem z).2
        rw [(Nr p hp).2.2] at ho; cases ho
    have keepG : ∀ b o, (hideAll (hideAll s.heap (own.map (·.1))) (rest.map (·.1))).get? b = some o → (hideAll s.heap (own.map (·.1))).get? b = some o := fun b o e => of_hideAll _ e
    have st' : h₀.StaysIn (hideAll (hideAll s.heap (own.map (·.1))) (rest.map (·.1))) := fun b o e => hideAll_get _ (st b o e) fun hm => by
      obtain ⟨p, hp, q⟩ := List.mem_map.mp hm
      have := (Nr p hp).2.2
      rw [q, e] at this; cases this
    refine exc e cls c (hideAll (hideAll s.heap (own.map fun x : Addr × Obj => x.1)) (rest.map fun x : Addr × Obj => x.1)) own' h' tk ⟨B, a0, hB, fun b o e hm => hBG b o (keepG b o e) hm, fun q hq => ?_, hfl⟩ ⟨?_, st', F.above⟩ (fun b o e hd => hup b o (keepG b o e) hd) he
    · rcases List.mem_append.mp hq with hq | hq
      · refine ⟨hBG _ _ (hrest q hq) (frL q hq), hideAll_none _ (List.mem_map_of_mem hq), ?_⟩
        exact kts_none S.stays (Nr q hq).2.2
      · obtain ⟨x1, x2, x3⟩ := hl q hq
        exact ⟨x1, kts_none keepG x2, x3⟩
    · refine hNs oL.slots _ (hideAll_get _ hLg fun hm => ?_)
      obtain ⟨p, hp, q⟩ := List.mem_map.mp hm
      exact (Nr p hp).2.1 q
end

end T_M0
section T_M1
open PySem PySem.W PyProof.Rows PySem.Spec PySem.Calls PyProof.V
set_option maxRecDepth 100000
set_option maxHeartbeats 4000000

/-- bytes[a:b] as a list, ends clipped -/
noncomputable def cut (x : List UInt8) (lo hi : Nat) : List UInt8 := (x.take hi).drop lo

theorem cut_length (x : List UInt8) (lo hi : Nat) : (cut x lo hi).length = min hi x.length - lo := by simp [cut]

theorem filterMap_range (x : List UInt8) : ∀ (n a : Nat), ((List.range n).map (a + ·)).filterMap (x.toArray[·]?) = (x.drop a).take n
  | 0, a => by simp
  | n + 1, a => by
    rw [List.range_succ, List.map_append, List.filterMap_append, filterMap_range x n a, List.take_add_one]
    congr 1
    simp only [List.map_cons, List.map_nil, List.filterMap_cons, List.filterMap_nil, List.getElem?_drop, List.getElem?_toArray]
    cases x[a + n]? <;> rfl

theorem sliced_cut (x : List UInt8) (a b : Nat) : Builtin.Bytes.sliced x.toArray (a : Int) (b : Int) 1 = (cut x a b).toArray := by
  unfold Builtin.Bytes.sliced
  rw [sliceRange_one, filterMap_range]
  congr 1
  rw [cut, ← List.drop_take]

/-- the parts of a slice, none below nought -/
noncomputable def loN (o : Option Int) : Nat := (o.getD 0).toNat
noncomputable def hiN (x : List UInt8) (o : Option Int) : Nat := min ((o.getD (x.length : Int)).toNat) x.length

theorem clipI {i : Int} {n : Nat} (h : 0 ≤ i) : (if (1 : Int) > 0 then max 0 (min (if i < 0 then i + n else i) (n : Int)) else max (-1) (min (if i < 0 then i + n else i) ((n : Int) - 1))) = ((min i.toNat n : Nat) : Int) := by
  rw [if_pos (by decide), if_neg (Int.not_lt.mpr h)]; omega
theorem bounds (x : List UInt8) (lo hi : Option Int) (h1 : ∀ i, lo = some i → 0 ≤ i) (h2 : ∀ i, hi = some i → 0 ≤ i) :
    sliceBounds lo hi none x.toArray.size = (((min (loN lo) x.length : Nat) : Int), ((hiN x hi : Nat) : Int), 1) := by
  have hs : x.toArray.size = x.length := by simp
  rw [hs]
  have e0 : (0 : Int) = ((min (loN none) x.length : Nat) : Int) := (congrArg Nat.cast (Nat.zero_min x.length)).symm
  have eN : (x.length : Int) = ((hiN x none : Nat) : Int) := (congrArg Nat.cast (Nat.min_self x.length)).symm
  cases lo with
  | none =>
    cases hi with
    | none => exact congr (congrArg Prod.mk e0) (congrArg (fun z => (z, (1 : Int))) eN)
    | some j => exact congr (congrArg Prod.mk e0) (congrArg (fun z => (z, (1 : Int))) (clipI (h2 j rfl)))
  | some i =>
    cases hi with
    | none => exact congr (congrArg Prod.mk (clipI (h1 i rfl))) (congrArg (fun z => (z, (1 : Int))) eN)
    | some j => exact congr (congrArg Prod.mk (clipI (h1 i rfl))) (congrArg (fun z => (z, (1 : Int))) (clipI (h2 j rfl)))

theorem picked_cut (x : List UInt8) (lo hi : Option Int) (h1 : ∀ i, lo = some i → 0 ≤ i) (h2 : ∀ i, hi = some i → 0 ≤ i) :
    KBy.picked x.toArray lo hi = (cut x (loN lo) (hiN x hi)).toArray := by
  unfold KBy.picked
  rw [bounds x lo hi h1 h2]
  dsimp only
  rw [sliced_cut]
  congr 1
  unfold cut
  by_cases h : loN lo ≤ x.length
  · rw [Nat.min_eq_left h]
  · rw [Nat.min_eq_right (by omega), List.drop_of_length_le (by simp; omega), List.drop_of_length_le (by simp; omega)]

theorem whole_cut (x : List UInt8) (lo hi : Option Int) (h1 : ∀ i, lo = some i → 0 ≤ i) (h2 : ∀ i, hi = some i → 0 ≤ i) (hw : KBy.whole x.toArray lo hi = true) :
    cut x (loN lo) (hiN x hi) = x := by
  unfold KBy.whole at hw
  rw [bounds x lo hi h1 h2] at hw
  simp only [Bool.and_eq_true, beq_iff_eq] at hw
  obtain ⟨⟨⟨a, _⟩, b⟩, c⟩ := hw
  have hs : x.toArray.size = x.length := by simp
  rw [hs] at b
  have hne : x ≠ [] := by intro e; subst e; simp at c
  have hpos := List.length_pos_iff.mpr hne
  have e1 : loN lo = 0 := by omega
  have e2 : hiN x hi = x.length := by omega
  rw [e1, e2, cut, List.take_length, List.drop_zero]

theorem ite_yes {c : Prop} [Decidable c] {X Y : Prop} (hc : c) (h : X) : if c then X else Y := by rw [if_pos hc]; exact h

open Builtin in
theorem meets_whole (b : Array UInt8) (t : Tok) (a : Addr) {l u : Value} {lo hi : Option Int} (hl : IsPart l lo) (hu : IsPart u hi) (hw : KBy.whole b lo hi = true) :
    Meets («bytes.__getitem__» ⟨[.bytes b t, .ref a], []⟩) (fun _ R s => s.heap.IsSliceOf a l u .none ∧ R (.ok (.ret (.bytes b t))) s) := by
  refine .of_wp fun prog w A R s hS => ?_
  obtain ⟨⟨o, ho, hc, hd⟩, h⟩ := hS
  have hT : s.TypeIs (.ref a) "slice" := ⟨o, ho, hc⟩
  show wpAny _ _ (Bytes.payload (.bytes b t) >>= fun r => _) _ _ s
  refine wpAny_bind (wpAny_of_eq (a := b) rfl ?_)
  show wpAny _ _ (Bytes.subscript? (.ref a) >>= fun r => _) _ _ s
  refine wpAny_bind ?_
  unfold Bytes.subscript?
  refine wpAny_bind (wpAny_specialOf hT slice_no_index (wpAny_pure ?_))
  refine wpAny_bind (wpAny_typeOf hT ?_)
  show wpAny _ _ (Bytes.sliceParts (.ref a) >>= fun r => _) _ _ s
  refine wpAny_bind ?_
  unfold Bytes.sliceParts
  refine wpAny_bind (wpAny_field (x := .none) ho hd rfl ?_)
  kby_none
  refine wpAny_ite (KBy.ite_no (show ¬ ((Value.none == rawInt 0) = true) from Bool.false_ne_true) ?_)
  refine wpAny_bind (wpAny_field (x := l) ho hd rfl ?_)
  have go : wpAny (model prog w) A.in1 (sliceIndices (rawPart lo) (rawPart hi) (rawPart none) b.size) (fun r s' => r = sliceBounds lo hi none b.size ∧ s' = s) (fun _ _ => False) s :=
    wpAny_of_eq (sliceIndices_raw lo hi none b.size (fun e => nomatch e)) ⟨rfl, rfl⟩
  cases hl <;> cases hu <;> (first
    | (kby_none; (refine wpAny_bind (wpAny_field (x := .none) ho hd rfl ?_)); kby_none)
    | (kby_none; (refine wpAny_bind (wpAny_field (x := .int _ _) ho hd rfl ?_)); kby_int)
    | (kby_int; (refine wpAny_bind (wpAny_field (x := .none) ho hd rfl ?_)); kby_none)
    | (kby_int; (refine wpAny_bind (wpAny_field (x := .int _ _) ho hd rfl ?_)); kby_int)) <;> refine wpAny_pure ?_
  all_goals
    refine wpAny_bind (wpAny_mono go (fun r s' hr => ?_) fun _ _ e => e.elim)
    obtain ⟨hr1, hr2⟩ := hr
    subst hr1 hr2
    refine wpAny_ite (ite_yes hw ?_)
    refine wpAny_bind (wpAny_typeOf (typeIs_bytes _ b t) ?_)
    exact wpAny_bind (wpAny_rule (wpAny_pure ⟨_, rfl, h⟩))

theorem meets_cut (x : List UInt8) (t : Tok) (a : Addr) {l u : Value} {lo hi : Option Int} (hl : IsPart l lo) (hu : IsPart u hi) (h1 : ∀ i, lo = some i → 0 ≤ i) (h2 : ∀ i, hi = some i → 0 ≤ i) :
    Meets (Builtin.«bytes.__getitem__» ⟨[.bytes x.toArray t, .ref a], []⟩) (fun _ R s => s.heap.IsSliceOf a l u .none ∧ x.length ≤ sizeLine ∧ (∀ t' k, R (.ok (.ret (.bytes (cut x (loN lo) (hiN x hi)).toArray t'))) { s with toks := k })) := by
  have hsz : (KBy.picked x.toArray lo hi).size ≤ x.length := by
    rw [picked_cut x lo hi h1 h2]
    simp [cut_length, hiN]; omega
  cases hw : KBy.whole x.toArray lo hi with
  | false =>
    refine (KBy.meets_slice x.toArray t a hl hu hw).of_imp fun A R s hS => ?_
    obtain ⟨hS1, hS2, h⟩ := hS
    refine ⟨hS1, Nat.le_trans hsz hS2, ?_⟩
    rw [picked_cut x lo hi h1 h2]
    exact h _ _
  | true =>
    refine (meets_whole x.toArray t a hl hu hw).of_imp fun A R s hS => ?_
    obtain ⟨hS1, hS2, h⟩ := hS
    have h' := h t s.toks
    rw [whole_cut x lo hi h1 h2 hw] at h'
    exact ⟨hS1, h'⟩

section
variable {prog : Program} {w : World} {A : Around} {E : Value → Shared → Prop} {s : Shared} {value slice : PySem.Expr} {x y : List UInt8} {t u' : Tok} {h₀ : Heap} {L : Addr} {m : PySem.Str → Option Value} {news : List (Addr × Obj)} {l u : Value} {lo hi : Option Int} {Q : Value → Shared → Prop}

theorem slice_any (hF : Fr h₀ L s.heap m) (hN : News h₀ L s.heap news) (hl : IsPart l lo) (hu : IsPart u hi) (h1 : ∀ i, lo = some i → 0 ≤ i) (h2 : ∀ i, hi = some i → 0 ≤ i) (hz : x.length ≤ 16777216)
    (h : ∀ h' t' k, Fr h₀ L h' m → News h₀ L h' news → Q (.bytes (cut x (loN lo) (hiN x hi)).toArray t') { s with heap := h', toks := k })
    (hs : subscripted slice false (.bytes x.toArray t) (.ref s.heap.objs.size) = operate [.ref s.heap.objs.size, .bytes x.toArray t] (getItem (.bytes x.toArray t) (.ref s.heap.objs.size)))
    (ht : ∀ r, letTemporaryGo value (.bytes x.toArray t) r = pure ()) :
    wpAny (model prog w) A (subscriptTail value slice (.bytes x.toArray t) (.ref s.heap.objs.size)) Q E { s with heap := s.heap.push { cls := .type "slice", data := .fields #[l, u, .none] } } :=
  tail_of_ItemOn ⟨"bytes", _, FB.slot_bytes_getitem.lookup, typeIs_bytes _ _ _, getItem_meets (typeIs_bytes _ _ _) (by decide) FB.slot_bytes_getitem FB.entry_bytes_getitem (FB.args_bytes_getitem_2 _ _) (meets_cut x t _ hl hu h1 h2)
    ⟨Heap.IsSliceOf.new _ _ _ _, by rw [sizeLine_eq]; exact hz, fun t' k => h _ _ _ (hF.push _) (News.pushKeep hN _)⟩⟩ hs ht

theorem add_list (hsz : x.length + y.length ≤ 16777216) (h : ∀ t' k, Q (.bytes (x ++ y).toArray t') { s with toks := k }) : wpAny (model prog w) A (binaryOp .Add (.bytes x.toArray t) (.bytes y.toArray u')) Q E s :=
  KBy.add_bytes (by simpa using hsz) (by simpa using h)
theorem eq_list (h : Q (.bool (x == y)) s) : wpAny (model prog w) A (compareOp .Eq (.bytes x.toArray t) (.bytes y.toArray u')) Q E s := eq_bytes (by simpa using h)
theorem ne_list (h : Q (.bool (x != y)) s) : wpAny (model prog w) A (compareOp .NotEq (.bytes x.toArray t) (.bytes y.toArray u')) Q E s := ne_bytes (by simpa using h)
theorem len_list (hfit : x.length ≤ 1099511627776) (h : ∀ t' k, Q (.int x.length t') { s with toks := k }) : wpAny (model prog w) A (call (.builtin "len") [.bytes x.toArray t]) Q E s :=
  len_bytes (by simpa using hfit) (by simpa using h _ _)

/-- bytes[i:j], i and j not below nought -/
noncomputable def cutI (x : List UInt8) (i j : Int) : List UInt8 := cut x i.toNat j.toNat
theorem cutI_nat {x : List UInt8} {i j : Int} {a b : Nat} (ha : i = a) (hb : j = b) : cutI x i j = cut x a b := by subst ha; subst hb; rfl
theorem cutI_length (x : List UInt8) (i j : Int) : (cutI x i j).length = min j.toNat x.length - i.toNat := cut_length ..
theorem cut_clip (x : List UInt8) (a b : Nat) : cut x a (min b x.length) = cut x a b := by
  unfold cut
  by_cases h : b ≤ x.length
  · rw [Nat.min_eq_left h]
  · rw [Nat.min_eq_right (by omega), List.take_of_length_le (Nat.le_refl _), List.take_of_length_le (by omega)]
theorem slice_ij {i j : Int} {ti tj : Tok} (hF : Fr h₀ L s.heap m) (hN : News h₀ L s.heap news) (h1 : 0 ≤ i) (h2 : 0 ≤ j) (hz : x.length ≤ 16777216)
    (h : ∀ h' t' k, Fr h₀ L h' m → News h₀ L h' news → Q (.bytes (cutI x i j).toArray t') { s with heap := h', toks := k })
    (hs : subscripted slice false (.bytes x.toArray t) (.ref s.heap.objs.size) = operate [.ref s.heap.objs.size, .bytes x.toArray t] (getItem (.bytes x.toArray t) (.ref s.heap.objs.size)))
    (ht : ∀ r, letTemporaryGo value (.bytes x.toArray t) r = pure ()) :
    wpAny (model prog w) A (subscriptTail value slice (.bytes x.toArray t) (.ref s.heap.objs.size)) Q E { s with heap := s.heap.push { cls := .type "slice", data := .fields #[.int i ti, .int j tj, .none] } } := by
  refine slice_any hF hN (.int i ti) (.int j tj) (by intro k e; cases e; exact h1) (by intro k e; cases e; exact h2) hz (fun h' t' k F' N' => ?_) hs ht
  have e : cut x (loN (some i)) (hiN x (some j)) = cutI x i j := by
    unfold loN hiN cutI
    rw [Option.getD_some, Option.getD_some, cut_clip]
  rw [e]
  exact h h' t' k F' N'
theorem slice_0j {j : Int} {tj : Tok} (hF : Fr h₀ L s.heap m) (hN : News h₀ L s.heap news) (h2 : 0 ≤ j) (hz : x.length ≤ 16777216)
    (h : ∀ h' t' k, Fr h₀ L h' m → News h₀ L h' news → Q (.bytes (cutI x 0 j).toArray t') { s with heap := h', toks := k })
    (hs : subscripted slice false (.bytes x.toArray t) (.ref s.heap.objs.size) = operate [.ref s.heap.objs.size, .bytes x.toArray t] (getItem (.bytes x.toArray t) (.ref s.heap.objs.size)))
    (ht : ∀ r, letTemporaryGo value (.bytes x.toArray t) r = pure ()) :
    wpAny (model prog w) A (subscriptTail value slice (.bytes x.toArray t) (.ref s.heap.objs.size)) Q E { s with heap := s.heap.push { cls := .type "slice", data := .fields #[.none, .int j tj, .none] } } := by
  refine slice_any hF hN .none (.int j tj) (by intro k e; cases e) (by intro k e; cases e; exact h2) hz (fun h' t' k F' N' => ?_) hs ht
  have e : cut x (loN none) (hiN x (some j)) = cutI x 0 j := by
    unfold loN hiN cutI
    rw [Option.getD_none, Option.getD_some, cut_clip]
  rw [e]
  exact h h' t' k F' N'
end

end T_M1
section T_M2
open PySem PySem.W PyProof.Rows PySem.Spec PySem.Calls
set_option maxRecDepth 100000
set_option maxHeartbeats 4000000

/-! the plain law: the encoding and its reading -/
inductive Tr where
  | leaf (b : List UInt8)
  | node (cs : List Tr)

noncomputable def be (x : List UInt8) : Nat := x.foldl (fun a b => a * 256 + b.toNat) 0
theorem be_snoc (x : List UInt8) (b : UInt8) : be (x ++ [b]) = be x * 256 + b.toNat := by simp [be]

noncomputable def digs (n : Nat) : List UInt8 := if h : n = 0 then [] else digs (n / 256) ++ [UInt8.ofNat (n % 256)]
termination_by n
decreasing_by omega
theorem digs_zero : digs 0 = [] := by unfold digs; simp
theorem digs_pos {n : Nat} (h : n ≠ 0) : digs n = digs (n / 256) ++ [UInt8.ofNat (n % 256)] := by rw [digs]; simp [h]
theorem be_digs (n : Nat) : be (digs n) = n := by
  induction n using Nat.strongRecOn with
  | ind n ih =>
    by_cases h : n = 0
    · subst h; rw [digs_zero]; rfl
    · rw [digs_pos h, be_snoc, ih _ (by omega)]
      have : (UInt8.ofNat (n % 256)).toNat = n % 256 := by simp
      rw [this]; omega
theorem digs_len {k : Nat} : ∀ {n : Nat}, n < 256 ^ k → (digs n).length ≤ k := by
  induction k with
  | zero => intro n h; have : n = 0 := by simpa using h
            subst this; rw [digs_zero]; simp
  | succ k ih =>
    intro n h
    by_cases h0 : n = 0
    · subst h0; rw [digs_zero]; simp
    · rw [digs_pos h0, List.length_append]
      have : n / 256 < 256 ^ k := by
        rw [Nat.pow_succ] at h
        exact Nat.div_lt_of_lt_mul (by rw [Nat.mul_comm]; exact h)
      have := ih this
      simp; omega
theorem digs_ne {n : Nat} (h : n ≠ 0) : digs n ≠ [] := by rw [digs_pos h]; simp
theorem digs_head (n : Nat) : ∀ b r, digs n = b :: r → b.toNat ≠ 0 := by
  induction n using Nat.strongRecOn with
  | ind n ih =>
    intro b r e
    by_cases h : n = 0
    · subst h; rw [digs_zero] at e; cases e
    · rw [digs_pos h] at e
      by_cases h2 : n / 256 = 0
      · rw [h2, digs_zero] at e
        simp only [List.nil_append, List.cons.injEq] at e
        rw [← e.1]
        have : (UInt8.ofNat (n % 256)).toNat = n % 256 := by simp
        rw [this]; omega
      · cases hd : digs (n / 256) with
        | nil => exact absurd hd (digs_ne h2)
        | cons c q =>
          rw [hd, List.cons_append, List.cons.injEq] at e
          rw [← e.1]
          exact ih _ (by omega) _ _ hd

noncomputable def headF (base n : Nat) : List UInt8 := if n < 56 then [UInt8.ofNat (base + n)] else UInt8.ofNat (base + 55 + (digs n).length) :: digs n

mutual
noncomputable def enc : Tr → List UInt8
  | .leaf b => if b.length = 1 ∧ (b.getD 0 0).toNat < 128 then b else headF 128 b.length ++ b
  | .node cs => headF 192 (encs cs).length ++ encs cs
noncomputable def encs : List Tr → List UInt8
  | [] => []
  | c :: r => enc c ++ encs r
end
theorem encs_append (a b : List Tr) : encs (a ++ b) = encs a ++ encs b := by
  induction a with
  | nil => simp [encs]
  | cons c r ih => simp [encs, ih]
theorem encs_take (cs : List Tr) {j : Nat} (h : j < cs.length) : encs (cs.take (j + 1)) = encs (cs.take j) ++ enc cs[j] := by
  rw [List.take_add_one, List.getElem?_eq_getElem h, encs_append]; simp [encs]
theorem encs_split (cs : List Tr) (j : Nat) : encs cs = encs (cs.take j) ++ encs (cs.drop j) := by
  rw [← encs_append, List.take_append_drop]
theorem encs_drop (cs : List Tr) {j : Nat} (h : j < cs.length) : encs (cs.drop j) = enc cs[j] ++ encs (cs.drop (j + 1)) := by
  rw [List.drop_eq_getElem_cons h]; simp [encs]
theorem headF_pos (base n : Nat) : 0 < (headF base n).length := by unfold headF; split <;> simp
theorem enc_pos (t : Tr) : 0 < (enc t).length := by
  cases t with
  | leaf b => rw [enc]; split
              · omega
              · rw [List.length_append]; have := headF_pos 128 b.length; omega
  | node cs => rw [enc, List.length_append]; have := headF_pos 192 (encs cs).length; omega

/-- what consume_length_prefix tells at s: the prefix, is it a string, the payload's length and place -/
noncomputable def clpF (x : List UInt8) (s : Nat) : Option (List UInt8 × Bool × Nat × Nat) :=
  if (x.getD s 0).toNat < 128 then some ([], true, 1, s)
  else if (x.getD s 0).toNat < 184 then (if (x.getD s 0).toNat = 129 ∧ (x.getD (s + 1) 0).toNat < 128 then none else some (cut x s (s + 1), true, (x.getD s 0).toNat - 128, s + 1))
  else if (x.getD s 0).toNat < 192 then (if cut x (s + 1) (s + 2) = [0] ∨ be (cut x (s + 1) (s + 1 + ((x.getD s 0).toNat - 183))) < 56 then none else
    some (cut x s (s + 1) ++ cut x (s + 1) (s + 1 + ((x.getD s 0).toNat - 183)), true, be (cut x (s + 1) (s + 1 + ((x.getD s 0).toNat - 183))), s + 1 + ((x.getD s 0).toNat - 183)))
  else if (x.getD s 0).toNat < 248 then some (cut x s (s + 1), false, (x.getD s 0).toNat - 192, s + 1)
  else (if cut x (s + 1) (s + 2) = [0] ∨ be (cut x (s + 1) (s + 1 + ((x.getD s 0).toNat - 247))) < 56 then none else
    some (cut x s (s + 1) ++ cut x (s + 1) (s + 1 + ((x.getD s 0).toNat - 247)), false, be (cut x (s + 1) (s + 1 + ((x.getD s 0).toNat - 247))), s + 1 + ((x.getD s 0).toNat - 247)))

theorem cut_of_drop {x : List UInt8} {s : Nat} {a b : List UInt8} (h : x.drop s = a ++ b) : cut x s (s + a.length) = a := by
  rw [cut, ← List.take_drop, h]
  simp
theorem drop_of_drop {x : List UInt8} {s : Nat} {a b : List UInt8} (h : x.drop s = a ++ b) : x.drop (s + a.length) = b := by
  rw [← List.drop_drop, h]; simp
theorem getD_of_drop {x : List UInt8} {s : Nat} {a : UInt8} {b : List UInt8} (h : x.drop s = a :: b) : x.getD s 0 = a := by
  have : x[s]? = some a := by
    have := congrArg (·[0]?) h
    simpa [List.getElem?_drop] using this
  simp [List.getD, this]
/-- a long head is read back -/
theorem long_head {x : List UInt8} {s n : Nat} {b0 : UInt8} {r : List UInt8} (hn : 56 ≤ n) (h : x.drop s = b0 :: digs n ++ r) :
    cut x s (s + 1) = [b0] ∧ cut x (s + 1) (s + 1 + (digs n).length) = digs n ∧ cut x (s + 1) (s + 2) ≠ [0] ∧ x.drop (s + 1 + (digs n).length) = r := by
  have h1 : x.drop s = [b0] ++ (digs n ++ r) := by simpa using h
  have h2 := drop_of_drop h1
  refine ⟨cut_of_drop h1, cut_of_drop h2, fun e => ?_, drop_of_drop h2⟩
  cases hd : digs n with
  | nil => exact digs_ne (by omega) hd
  | cons b q =>
    have h3 : x.drop (s + 1) = [b] ++ (q ++ r) := by
      have := h2; rw [hd] at this; simpa using this
    have e2 : cut x (s + 1) (s + 1 + 1) = [b] := cut_of_drop h3
    rw [show s + 1 + 1 = s + 2 from rfl, e] at e2
    simp only [List.cons.injEq, and_true] at e2
    exact digs_head n b q hd (by rw [← e2]; rfl)

theorem toNat_ofNat {n : Nat} (h : n < 256) : (UInt8.ofNat n).toNat = n := by simp; omega

/-- a string's head -/
theorem clpF_leaf {x : List UInt8} {s : Nat} {b r : List UInt8} (hb : b.length < 256 ^ 8) (h : x.drop s = enc (.leaf b) ++ r) :
    ∃ p l s', clpF x s = some (p, true, l, s') ∧ cut x s' (s' + l) = b ∧ s' + l = s + (enc (.leaf b)).length ∧ l = b.length ∧ p.length ≤ 9 := by
  rw [enc] at h ⊢
  split at h
  · rename_i h1
    rw [if_pos h1]
    match b, h1 with
    | [c], h1 =>
      have hc : c.toNat < 128 := by simpa using h1.2
      have e0 := getD_of_drop h
      refine ⟨[], 1, s, ?_, ?_, by simp, rfl, by simp⟩
      · unfold clpF; rw [e0, if_pos hc]
      · exact cut_of_drop (a := [c]) h
  · rename_i h1
    rw [if_neg h1]
    unfold headF at h ⊢
    by_cases hn : b.length < 56
    · rw [if_pos hn] at h ⊢
      have h2 : x.drop s = [UInt8.ofNat (128 + b.length)] ++ (b ++ r) := by simpa using h
      have e0 : x.getD s 0 = UInt8.ofNat (128 + b.length) := getD_of_drop (by simpa using h2)
      have e0' : (x.getD s 0).toNat = 128 + b.length := by rw [e0]; exact toNat_ofNat (by omega)
      have h3 := drop_of_drop h2
      simp only [List.length_cons, List.length_nil, Nat.zero_add] at h3
      refine ⟨cut x s (s + 1), b.length, s + 1, ?_, cut_of_drop h3, by simp; omega, rfl, by rw [cut_length]; exact Nat.le_trans (Nat.sub_le_sub_right (Nat.min_le_left _ _) _) (by rw [Nat.add_sub_cancel_left]; decide)⟩
      unfold clpF
      rw [e0', if_neg (by omega), if_pos (by omega), if_neg ?_]
      · simp
      · rintro ⟨q1, q2⟩
        have hl : b.length = 1 := by omega
        match b, hl, h1 with
        | [c], _, h1 =>
          rw [getD_of_drop (a := c) (b := r) (by simpa using h3)] at q2
          exact h1 ⟨rfl, by simpa using q2⟩
    · rw [if_neg hn] at h ⊢
      have hl8 := digs_len (k := 8) hb
      have h2 : x.drop s = UInt8.ofNat (128 + 55 + (digs b.length).length) :: digs b.length ++ (b ++ r) := by simpa using h
      obtain ⟨a1, a2, a3, a4⟩ := long_head (by omega) h2
      have e0 : x.getD s 0 = UInt8.ofNat (128 + 55 + (digs b.length).length) := getD_of_drop (by simpa using h2)
      have hpos : 0 < (digs b.length).length := List.length_pos_iff.mpr (digs_ne (by omega))
      have e0' : (x.getD s 0).toNat = 183 + (digs b.length).length := by rw [e0]; exact toNat_ofNat (by omega)
      have e1 : (x.getD s 0).toNat - 183 = (digs b.length).length := by rw [e0']; exact Nat.add_sub_cancel_left ..
      refine ⟨cut x s (s + 1) ++ digs b.length, b.length, s + 1 + (digs b.length).length, ?_, cut_of_drop a4, by simp; omega, rfl, by rw [List.length_append, a1]; exact Nat.add_le_add (Nat.le_refl 1) hl8⟩
      unfold clpF
      rw [e1, e0', if_neg (by omega), if_neg (by omega), if_pos (by omega), a2, be_digs, if_neg]
      rintro (q | q)
      · exact a3 q
      · omega

/-- a list's head -/

theorem clpF_head {x : List UInt8} {s n : Nat} {r : List UInt8} (hb : n < 256 ^ 8) (h : x.drop s = headF 192 n ++ r) : ∃ p, clpF x s = some (p, false, n, s + (headF 192 n).length) := by
  unfold headF at h ⊢
  by_cases hn : n < 56
  · rw [if_pos hn] at h ⊢
    have e0 : x.getD s 0 = UInt8.ofNat (192 + n) := getD_of_drop (by simpa using h)
    have e0' : (x.getD s 0).toNat = 192 + n := by rw [e0]; exact toNat_ofNat (by omega)
    refine ⟨cut x s (s + 1), ?_⟩
    unfold clpF
    rw [e0', if_neg (by omega), if_neg (by omega), if_neg (by omega), if_pos (by omega)]
    simp
  · rw [if_neg hn] at h ⊢
    have hl8 := digs_len (k := 8) hb
    have h2 : x.drop s = UInt8.ofNat (192 + 55 + (digs n).length) :: digs n ++ r := by simpa using h
    obtain ⟨a1, a2, a3, a4⟩ := long_head (by omega) h2
    have e0 : x.getD s 0 = UInt8.ofNat (192 + 55 + (digs n).length) := getD_of_drop (by simpa using h2)
    have hpos : 0 < (digs n).length := List.length_pos_iff.mpr (digs_ne (by omega))
    have e0' : (x.getD s 0).toNat = 247 + (digs n).length := by rw [e0]; exact toNat_ofNat (by omega)
    have e1 : (x.getD s 0).toNat - 247 = (digs n).length := by rw [e0']; exact Nat.add_sub_cancel_left ..
    refine ⟨cut x s (s + 1) ++ digs n, ?_⟩
    unfold clpF
    rw [e1, e0', if_neg (by omega), if_neg (by omega), if_neg (by omega), if_neg (by omega), a2, be_digs, if_neg]
    · simp; omega
    · rintro (q | q)
      · exact a3 q
      · omega
/-- what may be known of an item: its children from the left, and rem octets behind them -/
inductive PT where
  | leaf (b : List UInt8)
  | node (cs : List PT) (rem : Nat)
mutual
noncomputable def PT.len : PT → Nat
  | .leaf b => (enc (.leaf b)).length
  | .node cs rem => (headF 192 (lens cs + rem)).length + (lens cs + rem)
noncomputable def lens : List PT → Nat
  | [] => 0
  | c :: r => c.len + lens r
end
mutual
/-- it stands in X at i -/
noncomputable def Fits (X : List UInt8) : Nat → PT → Prop
  | i, .leaf b => ∃ post, X.drop i = enc (.leaf b) ++ post
  | i, .node cs rem => (∃ post, X.drop i = headF 192 (lens cs + rem) ++ post) ∧ i + ((headF 192 (lens cs + rem)).length + (lens cs + rem)) ≤ X.length ∧ FitsL X (i + (headF 192 (lens cs + rem)).length) cs
noncomputable def FitsL (X : List UInt8) : Nat → List PT → Prop
  | _, [] => True
  | i, c :: r => Fits X i c ∧ FitsL X (i + c.len) r
end
mutual
noncomputable def full : Tr → PT
  | .leaf b => .leaf b
  | .node cs => .node (fulls cs) 0
noncomputable def fulls : List Tr → List PT
  | [] => []
  | c :: r => full c :: fulls r
end
theorem fulls_map : ∀ cs : List Tr, fulls cs = cs.map full
  | [] => rfl
  | c :: r => by rw [fulls, fulls_map r]; rfl
mutual
theorem full_len : ∀ t : Tr, (full t).len = (enc t).length
  | .leaf b => by rw [full, PT.len]
  | .node cs => by rw [full, PT.len, fulls_len cs, enc, List.length_append]; simp
theorem fulls_len : ∀ cs : List Tr, lens (fulls cs) = (encs cs).length
  | [] => by simp [fulls, lens, encs]
  | c :: r => by rw [fulls, lens, full_len c, fulls_len r, encs, List.length_append]
end
mutual
theorem fits_full {X : List UInt8} : ∀ (t : Tr) (i : Nat) (post : List UInt8), X.drop i = enc t ++ post → Fits X i (full t)
  | .leaf b, i, post, h => by rw [full, Fits]; exact ⟨post, h⟩
  | .node cs, i, post, h => by
    rw [full, Fits, fulls_len, Nat.add_zero]
    have h2 : X.drop i = headF 192 (encs cs).length ++ (encs cs ++ post) := by rw [h, enc, List.append_assoc]
    refine ⟨⟨_, h2⟩, ?_, fitsL_full cs _ post (drop_of_drop h2)⟩
    have := congrArg List.length h2
    simp only [List.length_drop, List.length_append] at this
    have hp := headF_pos 192 (encs cs).length
    omega
theorem fitsL_full {X : List UInt8} : ∀ (cs : List Tr) (i : Nat) (post : List UInt8), X.drop i = encs cs ++ post → FitsL X i (fulls cs)
  | [], i, post, h => by rw [fulls, FitsL]; trivial
  | c :: r, i, post, h => by
    have h2 : X.drop i = enc c ++ (encs r ++ post) := by rw [h, encs, List.append_assoc]
    rw [fulls, FitsL, full_len]
    exact ⟨fits_full c i _ h2, fitsL_full r _ post (drop_of_drop h2)⟩
end
theorem PT.len_pos (t : PT) : 0 < t.len := by
  cases t with
  | leaf b => rw [PT.len]; exact enc_pos _
  | node cs rem => rw [PT.len]; have := headF_pos 192 (lens cs + rem); omega
theorem lens_drop (cs : List PT) {j : Nat} (h : j < cs.length) : lens (cs.drop j) = cs[j].len + lens (cs.drop (j + 1)) := by
  rw [List.drop_eq_getElem_cons h, lens]
theorem fitsL_drop {X : List UInt8} {i j : Nat} {cs : List PT} (h : j < cs.length) (f : FitsL X i (cs.drop j)) : Fits X i cs[j] ∧ FitsL X (i + cs[j].len) (cs.drop (j + 1)) := by
  rw [List.drop_eq_getElem_cons h, FitsL] at f; exact f
theorem Fits.le {X : List UInt8} {i : Nat} {t : PT} (h : Fits X i t) : i + t.len ≤ X.length := by
  cases t with
  | leaf b =>
    rw [Fits] at h; rw [PT.len]
    obtain ⟨post, h⟩ := h
    have := congrArg List.length h
    simp only [List.length_drop, List.length_append] at this
    have hp := enc_pos (.leaf b)
    omega
  | node cs rem => rw [Fits] at h; rw [PT.len]; exact h.2.1
theorem len_le_lens : ∀ cs : List PT, cs.length ≤ lens cs
  | [] => by simp
  | c :: r => by rw [lens, List.length_cons]; have := len_le_lens r; have := c.len_pos; omega


end T_M2
section T_M3
open PySem PySem.W PyProof.Rows PySem.Spec PySem.Calls
set_option maxRecDepth 100000
set_option maxHeartbeats 4000000

section
variable {w : World} {mean : ExcName → Option Value} {mg mb : Str → Option Value} {base h₀ : Heap} {outer : List Env} {s : Shared} {dp un : Nat} {gd : Option (List Code)} {Q E : Value → Shared → Prop}
variable {cn : Str} {cs : Scope} {L a : Addr} {ccd : Value} {m : Str → Option Value} {f : Addr} {vs : List Value} {own rest : Led} {cost : Nat} {Pre : Heap → Prop} {Ret : Value → Led → Prop} {Exc : Value → Value → Led → Prop} {A : Around}

/-- a call that makes, turns nothing and raises nothing -/
theorem call0 (C : Spec w mean mg mb f cost ⟨vs, []⟩ false Pre [] Ret (fun _ _ _ => False)) (S : Site w mean mg mb base outer h₀) (F : Fr h₀ L s.heap m) (N : News h₀ L s.heap rest)
    (hck : cs.kind = .function) (hA : A = top dp un gd (envOf cn cs L a ccd :: outer)) (hpre : ∀ G : Heap, h₀.StaysIn G → (∀ p ∈ rest, G.get? p.1 = some p.2) → Pre G)
    (hd : dp + cost < recursionLimit) (hu : un + 8 * cost < cLine)
    (ret : ∀ r own' h' tk, Fr h₀ L h' m → News h₀ L h' (own' ++ rest) → (∀ p ∈ rest, ∀ q ∈ own', p.1 ≠ q.1) → Ret r own' → Q r { s with heap := h', toks := tk }) :
    wpAny (model PG w) A (call (.ref f) vs) Q E s := by
  refine wpAny_call (use C S F N News.nil (fun _ _ _ hq => nomatch hq) hck hA hpre hd hu (fun r h₀' own' h' tk hT S' F' N' hdis hr => ?_) fun _ _ _ _ _ _ _ _ _ _ he => he.elim)
  have : h₀' = h₀ := by simpa using hT
  subst this
  exact ret r own' h' tk F' (fun p hp => N' p (List.mem_append.mpr ((List.mem_append.mp hp).symm))) hdis hr

/-- a call that is handed a part of the ledger -/
theorem callT (C : Spec w mean mg mb f cost ⟨vs, []⟩ true Pre own Ret Exc) (S : Site w mean mg mb base outer h₀) (F : Fr h₀ L s.heap m) (Nr : News h₀ L s.heap rest) (No : News h₀ L s.heap own)
    (hdis : ∀ p ∈ rest, ∀ q ∈ own, p.1 ≠ q.1) (hck : cs.kind = .function) (hA : A = top dp un gd (envOf cn cs L a ccd :: outer)) (hpre : ∀ G : Heap, h₀.StaysIn G → (∀ p ∈ rest, G.get? p.1 = some p.2) → Pre G)
    (hd : dp + cost < recursionLimit) (hu : un + 8 * cost < cLine)
    (ret : ∀ r h₀' own' h' tk, KtsTurn (frs outer) h₀ h₀' → Site w mean mg mb base outer h₀' → Fr h₀' L h' m → News h₀' L h' (rest ++ own') → (∀ p ∈ rest, ∀ q ∈ own', p.1 ≠ q.1) → Ret r own' →
      Q r { s with heap := h', toks := tk })
    (exc : ∀ e cls c G own' h' tk, RaisedSX base G (envOf cn cs L a ccd :: outer) e cls c (rest ++ own') h' → Fr h₀ L G m → G.UpToSlots h' → Exc cls c own' → E (.ref e) { s with heap := h', toks := tk }) :
    wpAny (model PG w) A (call (.ref f) vs) Q E s :=
  wpAny_call (use C S F Nr No hdis hck hA hpre hd hu (fun r h₀' own' h' tk hT S' F' N' hdis' hr => ret r h₀' own' h' tk (by simpa using hT) S' F' N' hdis' hr) exc)
/-- the same of a call that turns nothing -/
theorem callF (C : Spec w mean mg mb f cost ⟨vs, []⟩ false Pre own Ret Exc) (S : Site w mean mg mb base outer h₀) (F : Fr h₀ L s.heap m) (Nr : News h₀ L s.heap rest) (No : News h₀ L s.heap own)
    (hdis : ∀ p ∈ rest, ∀ q ∈ own, p.1 ≠ q.1) (hck : cs.kind = .function) (hA : A = top dp un gd (envOf cn cs L a ccd :: outer)) (hpre : ∀ G : Heap, h₀.StaysIn G → (∀ p ∈ rest, G.get? p.1 = some p.2) → Pre G)
    (hd : dp + cost < recursionLimit) (hu : un + 8 * cost < cLine)
    (ret : ∀ r own' h' tk, Fr h₀ L h' m → News h₀ L h' (rest ++ own') → (∀ p ∈ rest, ∀ q ∈ own', p.1 ≠ q.1) → Ret r own' → Q r { s with heap := h', toks := tk })
    (exc : ∀ e cls c G own' h' tk, RaisedSX base G (envOf cn cs L a ccd :: outer) e cls c (rest ++ own') h' → Fr h₀ L G m → G.UpToSlots h' → Exc cls c own' → E (.ref e) { s with heap := h', toks := tk }) :
    wpAny (model PG w) A (call (.ref f) vs) Q E s := by
  refine wpAny_call (use C S F Nr No hdis hck hA hpre hd hu (fun r h₀' own' h' tk hT S' F' N' hdis' hr => ?_) exc)
  have : h₀' = h₀ := by simpa using hT
  subst this
  exact ret r own' h' tk F' N' hdis' hr
end

noncomputable def Apart2 : Led → Addr → Prop
  | [], _ => True
  | p :: r, a => (@Ne Nat p.1 a) ∧ Apart2 r a
noncomputable def ApartAll : Led → Led → Prop
  | _, [] => True
  | rest, q :: r => Apart2 rest q.1 ∧ ApartAll rest r
theorem apart2_of {a : Addr} : ∀ {rest : Led}, (∀ p ∈ rest, p.1 ≠ a) → Apart2 rest a
  | [], _ => trivial
  | _ :: _, h => ⟨h _ (.head _), apart2_of fun p hp => h p (.tail _ hp)⟩
theorem apartAll_of {rest : Led} : ∀ {own : Led}, (∀ p ∈ rest, ∀ q ∈ own, p.1 ≠ q.1) → ApartAll rest own
  | [], _ => trivial
  | _ :: _, h => ⟨apart2_of fun p hp => h p hp _ (.head _), apartAll_of fun p hp q hq => h p hp q (.tail _ hq)⟩

end T_M3
section T_M4
open PySem PySem.W PyProof.Rows PySem.Spec PySem.Calls
set_option maxRecDepth 100000
set_option maxHeartbeats 1000000
theorem prime0 : (fun (_ : OpenLaw) (_ : Params → Frag) => True) PySem.Challenge.rw_it0027_01 hd.heap_39 := by k_fill; trivial




theorem be_fold (x : List UInt8) : (List.map (fun c : UInt8 => ((c.toNat : Nat) : Int)) x).foldl (fun a k => a * 256 + k) 0 = ((be x : Nat) : Int) := by
  have h := KFB.foldI_eq x 0
  unfold be
  rw [List.foldl_map]
  simpa using h

theorem sp83 {w : World} {mean : ExcName → Option Value} {mg mb : Str → Option Value} (x : List UInt8) (t1 : Tok) (hx : x.length ≤ 8) :
  Spec w mean mg mb 83 2 ⟨[.bytes x.toArray t1], []⟩ false (fun _ => True) [] (fun r own' => ∃ tk, r = .int (be x : Nat) tk ∧ own' = []) (fun _ _ _ => False) := by
  intro dp un gd base outer g s R S hg hsz ho hp hd1 hu1 hret hexc
  first | refine enterP S hg hsz ho (by k_is) (by k_is) ?_ (BindsTo.of_eq rfl) rfl ?_ rfl rfl rfl (by decide) | refine enter S hg hsz ho (by k_is) (by k_is) ?_ (BindsTo.of_eq rfl) (locs rfl) ?_ rfl rfl rfl (by decide)
  · exact room_0 hd1
  intro L' h₁ tk₁ hst hL F N B X T M₁ en₁ A₁
  (try dsimp only)
  k_fold
  k_steps
  rename Fr _ _ _ _ => F9
  exact hret _ g [] _ _ rfl F9.keep (fun _ h => nomatch h) ⟨_, by rw [be_fold], rfl⟩

theorem cutI_le {x : List UInt8} {i j : Int} {n : Nat} (h0 : 0 ≤ i) (h : j ≤ i + n) : (cutI x i j).length ≤ n := by
  rw [cutI_length]; exact Nat.le_trans (Nat.sub_le_sub_right (Nat.min_le_left _ _) _) (by omega)
theorem cutI_lex (x : List UInt8) (i j : Int) : (cutI x i j).length ≤ x.length := by
  rw [cutI_length]; exact Nat.le_trans (Nat.sub_le _ _) (Nat.min_le_right _ _)

theorem cut2_fit {x : List UInt8} {i j i' j' : Int} (h : x.length ≤ 100000) : (cutI x i j).length + (cutI x i' j').length ≤ 16777216 := by
  have h1 := cutI_lex x i j
  have h2 := cutI_lex x i' j'
  omega
/-- clpF's five ways, as the walk meets them -/
structure CF (x : List UInt8) (s b : Nat) (p : List UInt8) (k : Bool) (l s' : Nat) : Prop where
  f1 : (b : Int) < 128 → p = [] ∧ k = true ∧ (l : Int) = 1 ∧ (s' : Int) = s
  f2 : ¬ (b : Int) < 128 → (b : Int) < 184 → p = cutI x s (s + 1) ∧ k = true ∧ (l : Int) = b - 128 ∧ (s' : Int) = s + 1
  f9 : (b : Int) - 128 = 1 → s + 1 < x.length ∧ ¬ ((x.getD ((s : Int) + 1).toNat 0).toNat : Int) < 128
  f3 : ¬ (b : Int) < 184 → (b : Int) < 192 → (cutI x (s + 1) (s + 2) == [0]) = false ∧ ¬ ((be (cutI x (s + 1) (s + 1 + ((b : Int) - 183))) : Nat) : Int) < 56 ∧
    p = cutI x s (s + 1) ++ cutI x (s + 1) (s + 1 + ((b : Int) - 183)) ∧ k = true ∧ (l : Int) = be (cutI x (s + 1) (s + 1 + ((b : Int) - 183))) ∧ (s' : Int) = s + 1 + ((b : Int) - 183)
  f4 : ¬ (b : Int) < 192 → (b : Int) < 192 + 56 → p = cutI x s (s + 1) ∧ k = false ∧ (l : Int) = (b : Int) - 192 ∧ (s' : Int) = s + 1
  f5 : ¬ (b : Int) < 192 + 56 → (cutI x (s + 1) (s + 2) == [0]) = false ∧ ¬ ((be (cutI x (s + 1) (s + 1 + ((b : Int) - 192 - 56 + 1))) : Nat) : Int) < 56 ∧
    p = cutI x s (s + 1) ++ cutI x (s + 1) (s + 1 + ((b : Int) - 192 - 56 + 1)) ∧ k = false ∧ (l : Int) = be (cutI x (s + 1) (s + 1 + ((b : Int) - 192 - 56 + 1))) ∧ (s' : Int) = s + 1 + ((b : Int) - 192 - 56 + 1)
theorem some4 {p p' : List UInt8} {k k' : Bool} {l l' s s' : Nat} (h : some (p, k, l, s) = some (p', k', l', s')) : p' = p ∧ k' = k ∧ l' = l ∧ s' = s := by cases h; exact ⟨rfl, rfl, rfl, rfl⟩
theorem CF.long {x : List UInt8} {s n : Nat} {z : Int} {p : List UInt8} {k kk : Bool} {l s' : Nat} (hz : z = (n : Int)) (h : (if cut x (s + 1) (s + 2) = [0] ∨ be (cut x (s + 1) (s + 1 + n)) < 56 then none else some (cut x s (s + 1) ++ cut x (s + 1) (s + 1 + n), kk, be (cut x (s + 1) (s + 1 + n)), s + 1 + n)) = some (p, k, l, s')) :
    (cutI x (s + 1) (s + 2) == [0]) = false ∧ ¬ ((be (cutI x (s + 1) (s + 1 + z)) : Nat) : Int) < 56 ∧ p = cutI x s (s + 1) ++ cutI x (s + 1) (s + 1 + z) ∧ k = kk ∧ (l : Int) = be (cutI x (s + 1) (s + 1 + z)) ∧ (s' : Int) = s + 1 + z := by
  subst hz
  have c1 : cutI x s ((s : Int) + 1) = cut x s (s + 1) := rfl
  have c2 : cutI x ((s : Int) + 1) ((s : Int) + 2) = cut x (s + 1) (s + 2) := rfl
  have c3 : cutI x ((s : Int) + 1) ((s : Int) + 1 + (n : Int)) = cut x (s + 1) (s + 1 + n) := rfl
  rw [c1, c2, c3]
  split at h
  · cases h
  · rename_i h4
    obtain ⟨rfl, rfl, rfl, rfl⟩ := some4 h
    exact ⟨beq_false_of_ne fun q => h4 (.inl q), fun q => h4 (.inr (Int.ofNat_lt.mp q)), rfl, rfl, rfl, rfl⟩
theorem clpF_ways {x : List UInt8} {s b : Nat} {p : List UInt8} {k : Bool} {l s' : Nat} (hb : (x.getD (s : Int).toNat 0).toNat = b) (h : clpF x s = some (p, k, l, s')) : CF x s b p k l s' := by
  have hb : (x.getD s 0).toNat = b := hb
  have c1 : cutI x s ((s : Int) + 1) = cut x s (s + 1) := rfl
  unfold clpF at h
  rw [hb] at h
  by_cases h1 : b < 128
  · rw [if_pos h1] at h
    obtain ⟨rfl, rfl, rfl, rfl⟩ := some4 h
    constructor <;> intros <;> first | (exact ⟨rfl, rfl, rfl, rfl⟩) | (exfalso; omega)
  rw [if_neg h1] at h
  by_cases h2 : b < 184
  · rw [if_pos h2] at h
    split at h
    · cases h
    · rename_i h3
      obtain ⟨rfl, rfl, rfl, rfl⟩ := some4 h
      constructor <;> intros <;> first | (exfalso; omega) | skip
      · exact ⟨c1.symm, rfl, by omega, rfl⟩
      · have h5 : b = 129 := by omega
        have h6 : ¬ (x.getD (s + 1) 0).toNat < 128 := fun q => h3 ⟨h5, q⟩
        refine ⟨Nat.lt_of_not_le fun q => h6 ?_, fun q => h6 (Int.ofNat_lt.mp q)⟩
        rw [show x.getD (s + 1) 0 = 0 from by simp [List.getD, List.getElem?_eq_none q]]
        decide
  rw [if_neg h2] at h
  by_cases h3 : b < 192
  · rw [if_pos h3] at h
    constructor <;> intros <;> first | (exfalso; omega) | skip
    exact CF.long (by omega) h
  rw [if_neg h3] at h
  by_cases h4 : b < 248
  · rw [if_pos h4] at h
    obtain ⟨rfl, rfl, rfl, rfl⟩ := some4 h
    constructor <;> intros <;> first | (exfalso; omega) | skip
    exact ⟨c1.symm, rfl, by omega, rfl⟩
  rw [if_neg h4] at h
  constructor <;> intros <;> first | (exfalso; omega) | skip
  exact CF.long (by omega) h

theorem News.owns {g h : Heap} {L : Addr} {own : Led} (N : News g L h own) : Owns g h own := fun q hq => ⟨(N q hq).1, (N q hq).2.2⟩
noncomputable abbrev tupO (vs : List Value) : Obj := { cls := .type "tuple", data := .seq vs.toArray }
theorem bool_no {b : Bool} (h : b = false) (k : b = true) : False := by rw [h] at k; cases k
theorem tup5 {g h : Heap} {L t : Addr} {p : List UInt8} {p' : List UInt8} {k : Bool} {ta tb tc td : Tok} {l s' : Nat} {l' s'' : Int} (kk : Bool) (e : p = p' ∧ k = kk ∧ (l : Int) = l' ∧ (s' : Int) = s'')
    (N : News g L h [(t, tupO [.bytes p'.toArray ta, .str (Str.ofString (if kk then "bytes" else "list")) tb, .int l' tc, .int s'' td])]) :
    News g L h [(t, tupO [.bytes p.toArray ta, .str (Str.ofString (if k then "bytes" else "list")) tb, .int l tc, .int s' td])] := by obtain ⟨rfl, rfl, rfl, rfl⟩ := e; exact N

theorem sp90 {w : World} {mean : ExcName → Option Value} {mg mb : Str → Option Value} (x : List UInt8) (t1 t2 : Tok) (start : Nat) (h1 : start < x.length) (hx : x.length ≤ 100000)
    {p : List UInt8} {k : Bool} {l s' : Nat} (hc : clpF x start = some (p, k, l, s')) :
  Spec w mean mg mb 90 4 ⟨[.bytes x.toArray t1, .int start t2], []⟩ false (fun _ => True) []
    (fun r own' => ∃ t ta tb tc td, r = .ref t ∧ own' = [(t, tupO [.bytes p.toArray ta, .str (Str.ofString (if k then "bytes" else "list")) tb, .int l tc, .int s' td])]) (fun _ _ _ => False) := by
  intro dp un gd base outer g s R S hg hsz ho hp hd1 hu1 hret hexc
  first | refine enterP S hg hsz ho (by k_is) (by k_is) ?_ (BindsTo.of_eq rfl) rfl ?_ rfl rfl rfl (by decide) | refine enter S hg hsz ho (by k_is) (by k_is) ?_ (BindsTo.of_eq rfl) (locs rfl) ?_ rfl rfl rfl (by decide)
  · exact room_0 hd1
  intro L' h₁ tk₁ hst hL F N B X T M₁ en₁ A₁
  (try dsimp only)
  k_fold
  have C := clpF_ways rfl hc
  have hlt : (x.getD (start : Int).toNat 0).toNat < 256 := (x.getD _ 0).toNat_lt
  have h9 := fun q => (C.f9 q).1
  clear hc
  repeat' (first | (k_unfold; (try dsimp only)) | (k_end; wrow_close) | ((with_reducible show wpAny _ _ (binaryOp Operator.Add (Value.bytes _ _) (Value.bytes _ _)) _ _ _); with_reducible (k_here; (refine add_list (cut2_fit (by assumption)) ?_); intro _ _)) | ((with_reducible show wpAny _ _ (compareOp CmpOp.Eq (Value.bytes _ _) (Value.bytes _ _)) _ _ _); with_reducible (k_here; (with_reducible show wpAny _ _ (compareOp CmpOp.Eq (Value.bytes (List.toArray _) _) (Value.bytes (List.toArray _) _)) _ _ _); (refine eq_list ?_))) | ((with_reducible show wpAny _ _ (binaryOp Operator.Add (Value.int _ _) (Value.int _ _)) _ _ _); with_reducible refine add_i ?_) | ((with_reducible show wpAny _ _ (binaryOp Operator.Sub (Value.int _ _) (Value.int _ _)) _ _ _); with_reducible refine sub_i ?_) | ((with_reducible show wpAny _ _ (eval (Expr.Constant (Const.int _) _ _) _) _ _ _); with_reducible refine const_i ?_) | ((with_reducible show wpAny _ _ (subscriptTail _ _ _ _) _ _ _); with_reducible (k_here; (with_reducible show wpAny _ _ (subscriptTail _ (Expr.Slice _ _ none _) (Value.bytes (List.toArray _) _) (Value.ref _)) _ _ _); (with_reducible rename Fr _ _ _ _ => F'); (with_reducible rename News _ _ _ _ => N'); (first | (refine slice_ij (s := ⟨_, _, _, _, _⟩) F' N' (by omega) (by omega) (by first | omega | (simp only [List.length_append]; omega)) ?_ (by with_unfolding_all rfl) (by intro _; with_unfolding_all rfl)) | (refine slice_0j (s := ⟨_, _, _, _, _⟩) F' N' (by omega) (by first | omega | (simp only [List.length_append]; omega)) ?_ (by with_unfolding_all rfl) (by intro _; with_unfolding_all rfl))); intro _ _ _ F' N')) | ((with_reducible show wpAny _ _ (subscriptTail _ _ _ _) _ _ _); with_reducible (k_here; (with_reducible show wpAny _ _ (subscriptTail _ _ (Value.bytes (List.toArray _) _) (Value.int _ _)) _ _ _); (refine KBy.item_N (by first | omega | (simp only [List.length_append]; omega)) (by omega) (by first | omega | (simp only [List.length_append]; omega)) ?_))) | ((with_reducible show wpAny _ _ (execs (_ :: _) _) _ _ _); with_reducible (refine wpAny_execs_cons ?_; (try k_fold))) | ((with_reducible show wpAny _ _ (storeName _ _ _) _ _ _); with_reducible (k_here; k_dflt (refine' storeP ?zzF ?zzN ?_ ?zza ?zzb; (case zzF => k_asm); (case zzN => k_asm); (case zza => rfl); (case zzb => rfl); k_whole; intro h' tk' F' N'; (try k_sweep)))) | ((with_reducible show wpAny _ _ (call (Value.ref _) _) _ _ _); with_reducible (k_here; (with_reducible show wpAny _ _ (call (Value.ref 83) _) _ _ _); k_dflt (refine' call0 (sp83 _ _ ?zzhx) ?zzS ?zzF ?zzN ?zzkK ?zzkA ?zzpre ?zzhd ?zzhu ?_; (case zzkA => exact rfl); (case zzS => assumption); (case zzF => k_asm); (case zzN => k_asm); (case zzkK => exact rfl); (case zzpre => exact fun _ _ _ => trivial); (case zzhx => exact cutI_le (by omega) (by omega)); (case zzhd => first | (refine' room_d ?zzza ?zzzb; (case zzza => assumption); (case zzzb => first | decide | (refine Nat.succ_le_succ (Nat.le_trans ?_ (by assumption)); decide))) | (dsimp only [top]; omega)); (case zzhu => first | (refine' room_u ?zzza ?zzzb; (case zzza => assumption); (case zzzb => first | decide | (refine Nat.succ_le_succ (Nat.le_trans ?_ (by assumption)); decide))) | (dsimp only [top]; omega))); intro r' own' h' tk' F' N' hdis' hr'; obtain ⟨t', hr1, hr2⟩ := hr'; subst hr1; subst hr2; (try simp only [List.nil_append] at N'))) | walk1 | (dsimp only; first | ((with_reducible show wpAny _ _ (binaryOp Operator.Add (Value.bytes _ _) (Value.bytes _ _)) _ _ _); with_reducible (k_here; (refine add_list (cut2_fit (by assumption)) ?_); intro _ _)) | ((with_reducible show wpAny _ _ (compareOp CmpOp.Eq (Value.bytes _ _) (Value.bytes _ _)) _ _ _); with_reducible (k_here; (with_reducible show wpAny _ _ (compareOp CmpOp.Eq (Value.bytes (List.toArray _) _) (Value.bytes (List.toArray _) _)) _ _ _); (refine eq_list ?_))) | ((with_reducible show wpAny _ _ (binaryOp Operator.Add (Value.int _ _) (Value.int _ _)) _ _ _); with_reducible refine add_i ?_) | ((with_reducible show wpAny _ _ (binaryOp Operator.Sub (Value.int _ _) (Value.int _ _)) _ _ _); with_reducible refine sub_i ?_) | ((with_reducible show wpAny _ _ (eval (Expr.Constant (Const.int _) _ _) _) _ _ _); with_reducible refine const_i ?_) | ((with_reducible show wpAny _ _ (subscriptTail _ _ _ _) _ _ _); with_reducible (k_here; (with_reducible show wpAny _ _ (subscriptTail _ (Expr.Slice _ _ none _) (Value.bytes (List.toArray _) _) (Value.ref _)) _ _ _); (with_reducible rename Fr _ _ _ _ => F'); (with_reducible rename News _ _ _ _ => N'); (first | (refine slice_ij (s := ⟨_, _, _, _, _⟩) F' N' (by omega) (by omega) (by first | omega | (simp only [List.length_append]; omega)) ?_ (by with_unfolding_all rfl) (by intro _; with_unfolding_all rfl)) | (refine slice_0j (s := ⟨_, _, _, _, _⟩) F' N' (by omega) (by first | omega | (simp only [List.length_append]; omega)) ?_ (by with_unfolding_all rfl) (by intro _; with_unfolding_all rfl))); intro _ _ _ F' N')) | ((with_reducible show wpAny _ _ (subscriptTail _ _ _ _) _ _ _); with_reducible (k_here; (with_reducible show wpAny _ _ (subscriptTail _ _ (Value.bytes (List.toArray _) _) (Value.int _ _)) _ _ _); (refine KBy.item_N (by first | omega | (simp only [List.length_append]; omega)) (by omega) (by first | omega | (simp only [List.length_append]; omega)) ?_))) | ((with_reducible show wpAny _ _ (execs (_ :: _) _) _ _ _); with_reducible (refine wpAny_execs_cons ?_; (try k_fold))) | ((with_reducible show wpAny _ _ (storeName _ _ _) _ _ _); with_reducible (k_here; k_dflt (refine' storeP ?zzF ?zzN ?_ ?zza ?zzb; (case zzF => k_asm); (case zzN => k_asm); (case zza => rfl); (case zzb => rfl); k_whole; intro h' tk' F' N'; (try k_sweep)))) | ((with_reducible show wpAny _ _ (call (Value.ref _) _) _ _ _); with_reducible (k_here; (with_reducible show wpAny _ _ (call (Value.ref 83) _) _ _ _); k_dflt (refine' call0 (sp83 _ _ ?zzhx) ?zzS ?zzF ?zzN ?zzkK ?zzkA ?zzpre ?zzhd ?zzhu ?_; (case zzkA => exact rfl); (case zzS => assumption); (case zzF => k_asm); (case zzN => k_asm); (case zzkK => exact rfl); (case zzpre => exact fun _ _ _ => trivial); (case zzhx => exact cutI_le (by omega) (by omega)); (case zzhd => first | (refine' room_d ?zzza ?zzzb; (case zzza => assumption); (case zzzb => first | decide | (refine Nat.succ_le_succ (Nat.le_trans ?_ (by assumption)); decide))) | (dsimp only [top]; omega)); (case zzhu => first | (refine' room_u ?zzza ?zzzb; (case zzza => assumption); (case zzzb => first | decide | (refine Nat.succ_le_succ (Nat.le_trans ?_ (by assumption)); decide))) | (dsimp only [top]; omega))); intro r' own' h' tk' F' N' hdis' hr'; obtain ⟨t', hr1, hr2⟩ := hr'; subst hr1; subst hr2; (try simp only [List.nil_append] at N'))) | walk1) | (leave1; (try dsimp only)) | fail "no step")
  all_goals first
    | (exfalso; exact (C.f9 (by with_reducible assumption)).2 (by with_reducible assumption))
    | (exfalso; exact bool_no (C.f3 (by with_reducible assumption) (by with_reducible assumption)).1 (by with_reducible assumption))
    | (exfalso; exact (C.f3 (by with_reducible assumption) (by with_reducible assumption)).2.1 (by with_reducible assumption))
    | (exfalso; exact bool_no (C.f5 (by with_reducible assumption)).1 (by with_reducible assumption))
    | (exfalso; exact (C.f5 (by with_reducible assumption)).2.1 (by with_reducible assumption))
    | (show R (.ok (.ret _)) _
       rename Fr _ _ _ _ => F9
       rename News _ _ _ _ => N9
       first
         | (have N10 := tup5 (p' := []) true (C.f1 (by with_reducible assumption)) N9; exact hret _ g _ _ _ rfl F9.keep (News.owns N10) ⟨_, _, _, _, _, rfl, rfl⟩)
         | (have N10 := tup5 true (C.f2 (by with_reducible assumption) (by with_reducible assumption)) N9; exact hret _ g _ _ _ rfl F9.keep (News.owns N10) ⟨_, _, _, _, _, rfl, rfl⟩)
         | (have N10 := tup5 true (C.f3 (by with_reducible assumption) (by with_reducible assumption)).2.2 N9; exact hret _ g _ _ _ rfl F9.keep (News.owns N10) ⟨_, _, _, _, _, rfl, rfl⟩)
         | (have N10 := tup5 false (C.f4 (by with_reducible assumption) (by with_reducible assumption)) N9; exact hret _ g _ _ _ rfl F9.keep (News.owns N10) ⟨_, _, _, _, _, rfl, rfl⟩)
         | (have N10 := tup5 false (C.f5 (by with_reducible assumption)).2.2 N9; exact hret _ g _ _ _ rfl F9.keep (News.owns N10) ⟨_, _, _, _, _, rfl, rfl⟩))


end T_M4
section T_M5
open PySem PySem.W PyProof.Rows PySem.Spec PySem.Calls
set_option maxRecDepth 100000
set_option maxHeartbeats 1000000




theorem sp97 {w : World} {mean : ExcName → Option Value} {mg mb : Str → Option Value} (x p : List UInt8) (t1 t2 t3 t4 t5 : Tok) (start len : Nat) (hx : x.length ≤ 100000) (hp : p.length ≤ 100000) :
  Spec w mean mg mb 97 2 ⟨[.bytes x.toArray t1, .bytes p.toArray t2, .int start t3, .str (Str.ofString "bytes") t4, .int len t5], []⟩ false (fun _ => True) []
    (fun r own' => ∃ t li ta tc, r = .ref t ∧ own' = [(t, tupO [.bytes (cutI x start (start + len)).toArray ta, .ref li, .int (start + len) tc])]) (fun _ _ _ => False) := by
  intro dp un gd base outer g s R S hg hsz ho hpp hd1 hu1 hret hexc
  first | refine enterP S hg hsz ho (by k_is) (by k_is) ?_ (BindsTo.of_eq rfl) rfl ?_ rfl rfl rfl (by decide) | refine enter S hg hsz ho (by k_is) (by k_is) ?_ (BindsTo.of_eq rfl) (locs rfl) ?_ rfl rfl rfl (by decide)
  · exact room_0 hd1
  intro L' h₁ tk₁ hst hL F N B X T M₁ en₁ A₁
  (try dsimp only)
  k_fold
  repeat' (first | (k_unfold; (try dsimp only)) | (k_end; wrow_close) | ((with_reducible show wpAny _ _ (binaryOp Operator.Add (Value.bytes _ _) (Value.bytes _ _)) _ _ _); with_reducible (k_here; (with_reducible show wpAny _ _ (binaryOp Operator.Add (Value.bytes (List.toArray _) _) (Value.bytes (List.toArray _) _)) _ _ _); (refine add_list (by (try simp only [List.length_append, cutI_length, List.length_cons, List.length_nil]); first | decide | omega) ?_); intro _ _)) | ((with_reducible show wpAny _ _ (binaryOp Operator.Add (Value.int _ _) (Value.int _ _)) _ _ _); with_reducible refine add_i ?_) | ((with_reducible show wpAny _ _ (subscriptTail _ _ _ _) _ _ _); with_reducible (k_here; (with_reducible show wpAny _ _ (subscriptTail _ (Expr.Slice _ _ none _) (Value.bytes (List.toArray _) _) (Value.ref _)) _ _ _); (with_reducible rename Fr _ _ _ _ => F'); (with_reducible rename News _ _ _ _ => N'); (first | (refine slice_ij (s := ⟨_, _, _, _, _⟩) F' N' (by omega) (by omega) (by first | omega | (simp only [List.length_append]; omega)) ?_ (by with_unfolding_all rfl) (by intro _; with_unfolding_all rfl)) | (refine slice_0j (s := ⟨_, _, _, _, _⟩) F' N' (by omega) (by first | omega | (simp only [List.length_append]; omega)) ?_ (by with_unfolding_all rfl) (by intro _; with_unfolding_all rfl))); intro _ _ _ F' N')) | ((with_reducible show wpAny _ _ (execs (_ :: _) _) _ _ _); with_reducible (refine wpAny_execs_cons ?_; (try k_fold))) | ((with_reducible show wpAny _ _ (storeName _ _ _) _ _ _); with_reducible (k_here; k_dflt (refine' storeP ?zzF ?zzN ?_ ?zza ?zzb; (case zzF => k_asm); (case zzN => k_asm); (case zza => rfl); (case zzb => rfl); k_whole; intro h' tk' F' N'; (try k_sweep)))) | walk1 | (dsimp only; first | ((with_reducible show wpAny _ _ (binaryOp Operator.Add (Value.bytes _ _) (Value.bytes _ _)) _ _ _); with_reducible (k_here; (with_reducible show wpAny _ _ (binaryOp Operator.Add (Value.bytes (List.toArray _) _) (Value.bytes (List.toArray _) _)) _ _ _); (refine add_list (by (try simp only [List.length_append, cutI_length, List.length_cons, List.length_nil]); first | decide | omega) ?_); intro _ _)) | ((with_reducible show wpAny _ _ (binaryOp Operator.Add (Value.int _ _) (Value.int _ _)) _ _ _); with_reducible refine add_i ?_) | ((with_reducible show wpAny _ _ (subscriptTail _ _ _ _) _ _ _); with_reducible (k_here; (with_reducible show wpAny _ _ (subscriptTail _ (Expr.Slice _ _ none _) (Value.bytes (List.toArray _) _) (Value.ref _)) _ _ _); (with_reducible rename Fr _ _ _ _ => F'); (with_reducible rename News _ _ _ _ => N'); (first | (refine slice_ij (s := ⟨_, _, _, _, _⟩) F' N' (by omega) (by omega) (by first | omega | (simp only [List.length_append]; omega)) ?_ (by with_unfolding_all rfl) (by intro _; with_unfolding_all rfl)) | (refine slice_0j (s := ⟨_, _, _, _, _⟩) F' N' (by omega) (by first | omega | (simp only [List.length_append]; omega)) ?_ (by with_unfolding_all rfl) (by intro _; with_unfolding_all rfl))); intro _ _ _ F' N')) | ((with_reducible show wpAny _ _ (execs (_ :: _) _) _ _ _); with_reducible (refine wpAny_execs_cons ?_; (try k_fold))) | ((with_reducible show wpAny _ _ (storeName _ _ _) _ _ _); with_reducible (k_here; k_dflt (refine' storeP ?zzF ?zzN ?_ ?zza ?zzb; (case zzF => k_asm); (case zzN => k_asm); (case zza => rfl); (case zzb => rfl); k_whole; intro h' tk' F' N'; (try k_sweep)))) | walk1) | (leave1; (try dsimp only)) | fail "no step")
  all_goals (try k_data)
  show R (.ok (.ret _)) _
  rename Fr _ _ _ _ => F9
  rename News _ _ _ _ => N9
  exact hret _ g _ _ _ rfl F9.keep (News.owns (fun q hq => N9 q (List.mem_cons.mpr (.inl (List.mem_singleton.mp hq))))) ⟨_, _, _, _, rfl, rfl⟩
set_option genInjectivity false in
structure LS where
  x : Addr
  dx : Addr
  l : Addr
  X : List UInt8
  tX : Tok
  st : Int
  ts : Tok
  en : Int
  te : Tok
  ix : Int
  ti : Tok
  els : List Value
  ep : Nat
  ln : Value
  sd : Value
  k1 : Tok
  k2 : Tok
  k3 : Tok
  k4 : Tok
  k5 : Tok
  k6 : Tok
  k7 : Tok
  rem : Nat

noncomputable abbrev LS.dict (w : World) (r : LS) : List DictEntry :=
  [{ hash := PyData.keyHash w.params (Str.ofString "rlp"), key := .str (Str.ofString "rlp") r.k1, val := .bytes r.X.toArray r.tX },
   { hash := PyData.keyHash w.params (Str.ofString "start"), key := .str (Str.ofString "start") r.k2, val := .int r.st r.ts },
   { hash := PyData.keyHash w.params (Str.ofString "end"), key := .str (Str.ofString "end") r.k3, val := .int r.en r.te },
   { hash := PyData.keyHash w.params (Str.ofString "index"), key := .str (Str.ofString "index") r.k4, val := .int r.ix r.ti },
   { hash := PyData.keyHash w.params (Str.ofString "_elements"), key := .str (Str.ofString "_elements") r.k5, val := .ref r.l },
   { hash := PyData.keyHash w.params (Str.ofString "_len"), key := .str (Str.ofString "_len") r.k6, val := r.ln },
   { hash := PyData.keyHash w.params (Str.ofString "sedes"), key := .str (Str.ofString "sedes") r.k7, val := r.sd }]
noncomputable abbrev LS.objs (w : World) (r : LS) : Led := [(r.x, instObj 151 r.dx), (r.dx, dictOf (r.dict w) 7), (r.l, W.listOf r.els.toArray r.ep)]
structure LS.Apart (r : LS) : Prop where
  a : @LT.lt Nat _ r.dx r.x
  b : @LT.lt Nat _ r.x r.l
  c : @LT.lt Nat _ r.dx r.l
theorem LS.Apart.n1 {r : LS} (h : r.Apart) : r.x ≠ r.dx := Nat.ne_of_gt h.a

theorem sp127 {w : World} {mean : ExcName → Option Value} {mg mb : Str → Option Value} (X : List UInt8) (t1 t2 t3 : Tok) (start en : Int) (x dx : Addr) (hdx : @LT.lt Nat _ dx x) :
  Spec w mean mg mb 127 2 ⟨[.ref x, .bytes X.toArray t1, .int start t2, .int en t3], []⟩ false (fun _ => True) [(x, instObj 151 dx), (dx, dictOf [] 0)]
    (fun r own' => r = .none ∧ ∃ q : LS, own' = q.objs w ∧ q.Apart ∧ q.x = x ∧ q.X = X ∧ q.st = start ∧ q.en = en ∧ q.ix = start ∧ q.els = [] ∧ q.ln = .none ∧ q.sd = .none) (fun _ _ _ => False) := by
  intro dp un gd base outer g s R S hg hsz ho hpp hd1 hu1 hret hexc
  refine enter S hg hsz ho (by k_is) (by k_is) ?_ (binds_K (S.inK.keeps hg) rfl (by k_is) rfl rfl rfl) (locs rfl) ?_ rfl rfl rfl (by decide)
  · exact room_0 hd1
  intro L' h₁ tk₁ hst hL F N B X T M₁ en₁ A₁
  (try dsimp only)
  k_fold
  repeat' (first | (k_unfold; (try dsimp only)) | (k_end; wrow_close) | ((with_reducible show wpAny _ _ (execs (_ :: _) _) _ _ _); with_reducible (refine wpAny_execs_cons ?_; (try k_fold))) | walk1 | (dsimp only; first | ((with_reducible show wpAny _ _ (execs (_ :: _) _) _ _ _); with_reducible (refine wpAny_execs_cons ?_; (try k_fold))) | walk1) | (leave1; (try dsimp only)) | fail "no step")
  all_goals (try k_data)
  show R (.ok (.ret _)) _
  rename Fr _ _ _ _ => F9
  rename News _ _ _ _ => N9
  rename _ ∧ _ => l9
  exact hret _ g _ _ _ rfl F9.keep (News.owns (fun p hp => N9 p (by
    rcases List.mem_cons.mp hp with h | hp
    · exact List.mem_cons.mpr (.inr (List.mem_cons.mpr (.inl h)))
    rcases List.mem_cons.mp hp with h | hp
    · exact List.mem_cons.mpr (.inr (List.mem_cons.mpr (.inr (List.mem_cons.mpr (.inl h)))))
    · exact List.mem_cons.mpr (.inl (List.mem_singleton.mp hp))))) ⟨rfl, ⟨x, dx, _, _, _, _, _, _, _, _, _, [], 0, .none, .none, _, _, _, _, _, _, _, 0⟩, rfl, ⟨hdx, l9.1, l9.2⟩, rfl, rfl, rfl, rfl, rfl, rfl, rfl, rfl⟩

/-- LazyList(rlp, start, end) -/
theorem make151 {w : World} {mean : ExcName → Option Value} {mg mb : Str → Option Value} {base h₀ : Heap} {outer : List Env} {s : Shared} {dp un : Nat} {gd : Option (List Code)} {Q E : Value → Shared → Prop}
    {cn : Str} {cs : Scope} {L a : Addr} {ccd : Value} {m : Str → Option Value} {rest : Led} {A : Around} {X : List UInt8} {t1 t2 t3 : Tok} {start en : Int}
    (S : Site w mean mg mb base outer h₀) (F : Fr h₀ L s.heap m) (N : News h₀ L s.heap rest) (hck : cs.kind = .function) (hA : A = top dp un gd (envOf cn cs L a ccd :: outer))
    (hd : dp + 3 < recursionLimit) (hu : un + 24 < cLine)
    (ret : ∀ (q : LS) h' tk, Fr h₀ L h' m → News h₀ L h' (q.objs w ++ rest) → q.Apart → (∀ p ∈ rest, p.1 ≠ q.x ∧ p.1 ≠ q.dx ∧ p.1 ≠ q.l) → (q.X = X ∧ q.st = start ∧ q.en = en ∧ q.ix = start ∧ q.els = [] ∧ q.ln = .none ∧ q.sd = .none) →
      Q (.ref q.x) { s with heap := h', toks := tk }) :
    wpAny (model PG w) A (call (.ref 151) [.bytes X.toArray t1, .int start t2, .int en t3]) Q E s := by
  refine call_cls (fI := 127) F S.inK N (by k_is) (by k_is) (by k_is) fun x dx h' F' N' l1 l2 => ?_
  have hA' : A.under (.builtin "type.__call__" ⟨[.ref 151, .bytes X.toArray t1, .int start t2, .int en t3], []⟩) = top (dp + 1) (un + 1) gd (envOf cn cs L a ccd :: outer) := by
    subst hA; rfl
  refine use (sp127 X t1 t2 t3 start en x dx l2) (s := { s with heap := h' }) S F' (rest := rest) (fun p hp => N' p (List.mem_cons.mpr (.inr (List.mem_cons.mpr (.inr hp))))) (fun p hp => N' p (by
      rcases List.mem_cons.mp hp with h | hp
      · exact List.mem_cons.mpr (.inl h)
      · exact List.mem_cons.mpr (.inr (List.mem_cons.mpr (.inl (List.mem_singleton.mp hp)))))) (fun p hp q hq => by
        have h1 := l1 p hp
        rcases List.mem_cons.mp hq with rfl | hq
        · exact Nat.ne_of_lt (Nat.lt_trans h1 l2)
        · rw [List.mem_singleton.mp hq]; exact Nat.ne_of_lt h1) hck hA' (fun _ _ _ => trivial) (by omega) (by omega) (fun r h₀' own' h'' tk hT S' F'' N'' hdis hr => ?_) fun _ _ _ _ _ _ _ _ _ _ he => he.elim
  have : h₀' = h₀ := by simpa using hT
  subst this
  obtain ⟨rfl, q, rfl, hap, e1, r1⟩ := hr
  subst e1
  exact ⟨rfl, ret q h'' tk F'' (fun p hp => N'' p (List.mem_append.mpr ((List.mem_append.mp hp).symm))) hap
    (fun p hp => ⟨hdis p hp _ (.head _), hdis p hp (q.dx, _) (.tail _ (.head _)), hdis p hp (q.l, _) (.tail _ (.tail _ (.head _)))⟩) r1⟩


end T_M5
section T_M6
open PySem PySem.W PyProof.Rows PySem.Spec PySem.Calls
set_option maxRecDepth 100000
set_option maxHeartbeats 1000000




theorem sp90t {w : World} {mean : ExcName → Option Value} {mg mb : Str → Option Value} (x : List UInt8) (t1 t2 : Tok) (start : Nat) (h1 : start < x.length) (hx : x.length ≤ 100000)
    {p : List UInt8} {k : Bool} {l s' : Nat} (hk : k = true) (hc : clpF x start = some (p, k, l, s')) :
  Spec w mean mg mb 90 4 ⟨[.bytes x.toArray t1, .int start t2], []⟩ false (fun _ => True) []
    (fun r own' => ∃ t ta tb tc td, r = .ref t ∧ own' = [(t, tupO [.bytes p.toArray ta, .str (Str.ofString "bytes") tb, .int l tc, .int s' td])]) (fun _ _ _ => False) := by
  subst hk
  exact sp90 x t1 t2 start h1 hx hc
theorem sp90f {w : World} {mean : ExcName → Option Value} {mg mb : Str → Option Value} (x : List UInt8) (t1 t2 : Tok) (start : Nat) (h1 : start < x.length) (hx : x.length ≤ 100000)
    {p : List UInt8} {k : Bool} {l s' : Nat} (hk : k = false) (hc : clpF x start = some (p, k, l, s')) :
  Spec w mean mg mb 90 4 ⟨[.bytes x.toArray t1, .int start t2], []⟩ false (fun _ => True) []
    (fun r own' => ∃ t ta tb tc td, r = .ref t ∧ own' = [(t, tupO [.bytes p.toArray ta, .str (Str.ofString "list") tb, .int l tc, .int s' td])]) (fun _ _ _ => False) := by
  subst hk
  exact sp90 x t1 t2 start h1 hx hc
/-- an item that is a string -/
theorem sp112t {w : World} {mean : ExcName → Option Value} {mg mb : Str → Option Value} (x : List UInt8) (t1 t2 : Tok) (start : Nat) (h1 : start < x.length) (hx : x.length ≤ 100000)
    {p : List UInt8} {l s' : Nat} (hc : clpF x start = some (p, true, l, s')) (hp : p.length ≤ 100000) :
  Spec w mean mg mb 112 8 ⟨[.bytes x.toArray t1, .int start t2], []⟩ false (fun _ => True) []
    (fun r own' => ∃ t ta tc, r = .ref t ∧ own' = [(t, tupO [.bytes (cut x s' (s' + l)).toArray ta, .int (s' + l : Nat) tc])]) (fun _ _ _ => False) := by
  intro dp un gd base outer g s R S hg hsz ho hpp hd1 hu1 hret hexc
  first | refine enterP S hg hsz ho (by k_is) (by k_is) ?_ (BindsTo.of_eq rfl) rfl ?_ rfl rfl rfl (by decide) | refine enter S hg hsz ho (by k_is) (by k_is) ?_ (BindsTo.of_eq rfl) (locs rfl) ?_ rfl rfl rfl (by decide)
  · exact room_0 hd1
  intro L' h₁ tk₁ hst hL F N B X T M₁ en₁ A₁
  (try dsimp only)
  k_fold
  repeat' (first | (k_unfold; (try dsimp only)) | (k_end; wrow_close) | ((with_reducible show wpAny _ _ (execs (_ :: _) _) _ _ _); with_reducible (refine wpAny_execs_cons ?_; (try k_fold))) | ((with_reducible show wpAny _ _ (storeName _ _ _) _ _ _); with_reducible (k_here; k_dflt (refine' storeP ?zzF ?zzN ?_ ?zza ?zzb; (case zzF => k_asm); (case zzN => k_asm); (case zza => rfl); (case zzb => rfl); k_whole; intro h' tk' F' N'; (try k_sweep)))) | ((with_reducible show wpAny _ _ (call (Value.ref _) _) _ _ _); with_reducible (k_here; (with_reducible show wpAny _ _ (call (Value.ref 97) _) _ _ _); k_dflt (refine' call0 (sp97 _ _ _ _ _ _ _ _ _ ?zzhx ?zzhp) ?zzS ?zzF ?zzN ?zzkK ?zzkA ?zzpre ?zzhd ?zzhu ?_; (case zzkA => exact rfl); (case zzS => assumption); (case zzF => k_asm); (case zzN => k_asm); (case zzkK => exact rfl); (case zzpre => exact fun _ _ _ => trivial); (case zzhx => assumption); (case zzhp => assumption); (case zzhd => first | (refine' room_d ?zzza ?zzzb; (case zzza => assumption); (case zzzb => first | decide | (refine Nat.succ_le_succ (Nat.le_trans ?_ (by assumption)); decide))) | (dsimp only [top]; omega)); (case zzhu => first | (refine' room_u ?zzza ?zzzb; (case zzza => assumption); (case zzzb => first | decide | (refine Nat.succ_le_succ (Nat.le_trans ?_ (by assumption)); decide))) | (dsimp only [top]; omega))); intro r' own' h' tk' F' N' hdis' hr'; obtain ⟨t', ta', tb', tc', hr1, hr2⟩ := hr'; subst hr1; subst hr2; (try dsimp only); (try simp only [List.nil_append, List.cons_append] at N'))) | ((with_reducible show wpAny _ _ (call (Value.ref _) _) _ _ _); with_reducible (k_here; (with_reducible show wpAny _ _ (call (Value.ref 90) _) _ _ _); k_dflt (refine' call0 (sp90t _ _ _ _ ?zzh1 ?zzhx rfl ?zzhc) ?zzS ?zzF ?zzN ?zzkK ?zzkA ?zzpre ?zzhd ?zzhu ?_; (case zzkA => exact rfl); (case zzS => assumption); (case zzF => k_asm); (case zzN => k_asm); (case zzkK => exact rfl); (case zzpre => exact fun _ _ _ => trivial); (case zzhc => assumption); (case zzh1 => assumption); (case zzhx => assumption); (case zzhd => first | (refine' room_d ?zzza ?zzzb; (case zzza => assumption); (case zzzb => first | decide | (refine Nat.succ_le_succ (Nat.le_trans ?_ (by assumption)); decide))) | (dsimp only [top]; omega)); (case zzhu => first | (refine' room_u ?zzza ?zzzb; (case zzza => assumption); (case zzzb => first | decide | (refine Nat.succ_le_succ (Nat.le_trans ?_ (by assumption)); decide))) | (dsimp only [top]; omega))); intro r' own' h' tk' F' N' hdis' hr'; obtain ⟨t', ta', tb', tc', td', hr1, hr2⟩ := hr'; subst hr1; subst hr2; (try dsimp only); (try simp only [List.nil_append, List.cons_append] at N'))) | walk1 | (dsimp only; first | ((with_reducible show wpAny _ _ (execs (_ :: _) _) _ _ _); with_reducible (refine wpAny_execs_cons ?_; (try k_fold))) | ((with_reducible show wpAny _ _ (storeName _ _ _) _ _ _); with_reducible (k_here; k_dflt (refine' storeP ?zzF ?zzN ?_ ?zza ?zzb; (case zzF => k_asm); (case zzN => k_asm); (case zza => rfl); (case zzb => rfl); k_whole; intro h' tk' F' N'; (try k_sweep)))) | ((with_reducible show wpAny _ _ (call (Value.ref _) _) _ _ _); with_reducible (k_here; (with_reducible show wpAny _ _ (call (Value.ref 97) _) _ _ _); k_dflt (refine' call0 (sp97 _ _ _ _ _ _ _ _ _ ?zzhx ?zzhp) ?zzS ?zzF ?zzN ?zzkK ?zzkA ?zzpre ?zzhd ?zzhu ?_; (case zzkA => exact rfl); (case zzS => assumption); (case zzF => k_asm); (case zzN => k_asm); (case zzkK => exact rfl); (case zzpre => exact fun _ _ _ => trivial); (case zzhx => assumption); (case zzhp => assumption); (case zzhd => first | (refine' room_d ?zzza ?zzzb; (case zzza => assumption); (case zzzb => first | decide | (refine Nat.succ_le_succ (Nat.le_trans ?_ (by assumption)); decide))) | (dsimp only [top]; omega)); (case zzhu => first | (refine' room_u ?zzza ?zzzb; (case zzza => assumption); (case zzzb => first | decide | (refine Nat.succ_le_succ (Nat.le_trans ?_ (by assumption)); decide))) | (dsimp only [top]; omega))); intro r' own' h' tk' F' N' hdis' hr'; obtain ⟨t', ta', tb', tc', hr1, hr2⟩ := hr'; subst hr1; subst hr2; (try dsimp only); (try simp only [List.nil_append, List.cons_append] at N'))) | ((with_reducible show wpAny _ _ (call (Value.ref _) _) _ _ _); with_reducible (k_here; (with_reducible show wpAny _ _ (call (Value.ref 90) _) _ _ _); k_dflt (refine' call0 (sp90t _ _ _ _ ?zzh1 ?zzhx rfl ?zzhc) ?zzS ?zzF ?zzN ?zzkK ?zzkA ?zzpre ?zzhd ?zzhu ?_; (case zzkA => exact rfl); (case zzS => assumption); (case zzF => k_asm); (case zzN => k_asm); (case zzkK => exact rfl); (case zzpre => exact fun _ _ _ => trivial); (case zzhc => assumption); (case zzh1 => assumption); (case zzhx => assumption); (case zzhd => first | (refine' room_d ?zzza ?zzzb; (case zzza => assumption); (case zzzb => first | decide | (refine Nat.succ_le_succ (Nat.le_trans ?_ (by assumption)); decide))) | (dsimp only [top]; omega)); (case zzhu => first | (refine' room_u ?zzza ?zzzb; (case zzza => assumption); (case zzzb => first | decide | (refine Nat.succ_le_succ (Nat.le_trans ?_ (by assumption)); decide))) | (dsimp only [top]; omega))); intro r' own' h' tk' F' N' hdis' hr'; obtain ⟨t', ta', tb', tc', td', hr1, hr2⟩ := hr'; subst hr1; subst hr2; (try dsimp only); (try simp only [List.nil_append, List.cons_append] at N'))) | walk1) | (leave1; (try dsimp only)) | fail "no step")
  all_goals (try k_data)
  show R (.ok (.ret _)) _
  rename Fr _ _ _ _ => F9
  rename News _ _ _ _ => N9
  have e : cutI x s' (s' + l) = cut x s' (s' + l) := cutI_nat rfl (by omega)
  rw [e] at N9
  exact hret _ g _ _ _ rfl F9.keep (News.owns (fun q hq => N9 q (List.mem_cons.mpr (.inl (List.mem_singleton.mp hq))))) ⟨_, _, _, rfl, rfl⟩
/-- an item that is a list -/
theorem sp112f {w : World} {mean : ExcName → Option Value} {mg mb : Str → Option Value} (x : List UInt8) (t1 t2 : Tok) (start : Nat) (h1 : start < x.length) (hx : x.length ≤ 100000)
    {p : List UInt8} {l s' : Nat} (hc : clpF x start = some (p, false, l, s')) :
  Spec w mean mg mb 112 8 ⟨[.bytes x.toArray t1, .int start t2], []⟩ false (fun _ => True) []
    (fun r own' => ∃ t tc, ∃ q : LS, r = .ref t ∧ own' = (t, tupO [.ref q.x, .int (s' + l : Nat) tc]) :: q.objs w ∧ q.Apart ∧ (t ≠ q.x ∧ t ≠ q.dx ∧ t ≠ q.l) ∧ (q.X = x ∧ q.st = (s' : Int) ∧ q.en = (s' : Int) + l ∧ q.ix = (s' : Int) ∧ q.els = [] ∧ q.ln = .none ∧ q.sd = .none)) (fun _ _ _ => False) := by
  intro dp un gd base outer g s R S hg hsz ho hpp hd1 hu1 hret hexc
  first | refine enterP S hg hsz ho (by k_is) (by k_is) ?_ (BindsTo.of_eq rfl) rfl ?_ rfl rfl rfl (by decide) | refine enter S hg hsz ho (by k_is) (by k_is) ?_ (BindsTo.of_eq rfl) (locs rfl) ?_ rfl rfl rfl (by decide)
  · exact room_0 hd1
  intro L' h₁ tk₁ hst hL F N B X T M₁ en₁ A₁
  (try dsimp only)
  k_fold
  repeat' (first | (k_unfold; (try dsimp only)) | (k_end; wrow_close) | ((with_reducible show wpAny _ _ (binaryOp Operator.Add (Value.int _ _) (Value.int _ _)) _ _ _); with_reducible refine add_i ?_) | ((with_reducible show wpAny _ _ (execs (_ :: _) _) _ _ _); with_reducible (refine wpAny_execs_cons ?_; (try k_fold))) | ((with_reducible show wpAny _ _ (storeName _ _ _) _ _ _); with_reducible (k_here; k_dflt (refine' storeP ?zzF ?zzN ?_ ?zza ?zzb; (case zzF => k_asm); (case zzN => k_asm); (case zza => rfl); (case zzb => rfl); k_whole; intro h' tk' F' N'; (try k_sweep)))) | ((with_reducible show wpAny _ _ (call (Value.ref _) _) _ _ _); with_reducible (k_here; (with_reducible show wpAny _ _ (call (Value.ref 151) _) _ _ _); k_dflt (refine' make151 ?zzS ?zzF ?zzN ?zzkK ?zzkA ?zzhd ?zzhu ?_; (case zzkA => exact rfl); (case zzS => assumption); (case zzF => k_asm); (case zzN => k_asm); (case zzkK => exact rfl); (case zzhd => first | (refine' room_d ?zzza ?zzzb; (case zzza => assumption); (case zzzb => first | decide | (refine Nat.succ_le_succ (Nat.le_trans ?_ (by assumption)); decide))) | (dsimp only [top]; omega)); (case zzhu => first | (refine' room_u ?zzza ?zzzb; (case zzza => assumption); (case zzzb => first | decide | (refine Nat.succ_le_succ (Nat.le_trans ?_ (by assumption)); decide))) | (dsimp only [top]; omega))); intro q' h' tk' F' N' hq1' hq2' hq3'; (try simp only [List.nil_append, List.cons_append] at N'))) | ((with_reducible show wpAny _ _ (call (Value.ref _) _) _ _ _); with_reducible (k_here; (with_reducible show wpAny _ _ (call (Value.ref 90) _) _ _ _); k_dflt (refine' call0 (sp90f _ _ _ _ ?zzh1 ?zzhx rfl ?zzhc) ?zzS ?zzF ?zzN ?zzkK ?zzkA ?zzpre ?zzhd ?zzhu ?_; (case zzkA => exact rfl); (case zzS => assumption); (case zzF => k_asm); (case zzN => k_asm); (case zzkK => exact rfl); (case zzpre => exact fun _ _ _ => trivial); (case zzhc => assumption); (case zzh1 => assumption); (case zzhx => assumption); (case zzhd => first | (refine' room_d ?zzza ?zzzb; (case zzza => assumption); (case zzzb => first | decide | (refine Nat.succ_le_succ (Nat.le_trans ?_ (by assumption)); decide))) | (dsimp only [top]; omega)); (case zzhu => first | (refine' room_u ?zzza ?zzzb; (case zzza => assumption); (case zzzb => first | decide | (refine Nat.succ_le_succ (Nat.le_trans ?_ (by assumption)); decide))) | (dsimp only [top]; omega))); intro r' own' h' tk' F' N' hdis' hr'; obtain ⟨t', ta', tb', tc', td', hr1, hr2⟩ := hr'; subst hr1; subst hr2; (try dsimp only); (try simp only [List.nil_append, List.cons_append] at N'))) | walk1 | (dsimp only; first | ((with_reducible show wpAny _ _ (binaryOp Operator.Add (Value.int _ _) (Value.int _ _)) _ _ _); with_reducible refine add_i ?_) | ((with_reducible show wpAny _ _ (execs (_ :: _) _) _ _ _); with_reducible (refine wpAny_execs_cons ?_; (try k_fold))) | ((with_reducible show wpAny _ _ (storeName _ _ _) _ _ _); with_reducible (k_here; k_dflt (refine' storeP ?zzF ?zzN ?_ ?zza ?zzb; (case zzF => k_asm); (case zzN => k_asm); (case zza => rfl); (case zzb => rfl); k_whole; intro h' tk' F' N'; (try k_sweep)))) | ((with_reducible show wpAny _ _ (call (Value.ref _) _) _ _ _); with_reducible (k_here; (with_reducible show wpAny _ _ (call (Value.ref 151) _) _ _ _); k_dflt (refine' make151 ?zzS ?zzF ?zzN ?zzkK ?zzkA ?zzhd ?zzhu ?_; (case zzkA => exact rfl); (case zzS => assumption); (case zzF => k_asm); (case zzN => k_asm); (case zzkK => exact rfl); (case zzhd => first | (refine' room_d ?zzza ?zzzb; (case zzza => assumption); (case zzzb => first | decide | (refine Nat.succ_le_succ (Nat.le_trans ?_ (by assumption)); decide))) | (dsimp only [top]; omega)); (case zzhu => first | (refine' room_u ?zzza ?zzzb; (case zzza => assumption); (case zzzb => first | decide | (refine Nat.succ_le_succ (Nat.le_trans ?_ (by assumption)); decide))) | (dsimp only [top]; omega))); intro q' h' tk' F' N' hq1' hq2' hq3'; (try simp only [List.nil_append, List.cons_append] at N'))) | ((with_reducible show wpAny _ _ (call (Value.ref _) _) _ _ _); with_reducible (k_here; (with_reducible show wpAny _ _ (call (Value.ref 90) _) _ _ _); k_dflt (refine' call0 (sp90f _ _ _ _ ?zzh1 ?zzhx rfl ?zzhc) ?zzS ?zzF ?zzN ?zzkK ?zzkA ?zzpre ?zzhd ?zzhu ?_; (case zzkA => exact rfl); (case zzS => assumption); (case zzF => k_asm); (case zzN => k_asm); (case zzkK => exact rfl); (case zzpre => exact fun _ _ _ => trivial); (case zzhc => assumption); (case zzh1 => assumption); (case zzhx => assumption); (case zzhd => first | (refine' room_d ?zzza ?zzzb; (case zzza => assumption); (case zzzb => first | decide | (refine Nat.succ_le_succ (Nat.le_trans ?_ (by assumption)); decide))) | (dsimp only [top]; omega)); (case zzhu => first | (refine' room_u ?zzza ?zzzb; (case zzza => assumption); (case zzzb => first | decide | (refine Nat.succ_le_succ (Nat.le_trans ?_ (by assumption)); decide))) | (dsimp only [top]; omega))); intro r' own' h' tk' F' N' hdis' hr'; obtain ⟨t', ta', tb', tc', td', hr1, hr2⟩ := hr'; subst hr1; subst hr2; (try dsimp only); (try simp only [List.nil_append, List.cons_append] at N'))) | walk1) | (leave1; (try dsimp only)) | fail "no step")
  all_goals (try k_data)
  show R (.ok (.ret _)) _
  rename Fr _ _ _ _ => F9
  rename News _ _ _ _ => N9
  rename LS => q9
  rename LS.Apart _ => a9
  rename _ ∧ _ ∧ _ ∧ _ => l9
  exact hret _ g ((_, tupO [.ref q9.x, .int (s' + l : Nat) _]) :: q9.objs w) _ _ rfl F9.keep (News.owns (fun p hp => N9 p (by
    rcases List.mem_cons.mp hp with h | hp
    · exact List.mem_cons.mpr (.inl h)
    · exact List.mem_cons.mpr (.inr (List.mem_append_left (bs := [_]) hp))))) ⟨_, _, q9, rfl, rfl, a9, ⟨Nat.ne_of_gt l9.1, Nat.ne_of_gt l9.2.1, Nat.ne_of_gt l9.2.2.1⟩, by assumption⟩


end T_M6
section T_M7
open PySem PySem.W PyProof.Rows PySem.Spec PySem.Calls
set_option maxRecDepth 100000
set_option maxHeartbeats 1000000




theorem sp192 {w : World} {mean : ExcName → Option Value} {mg mb : Str → Option Value} (b : List UInt8) (t1 : Tok) (hb : b.length ≤ 8) (hz : (cutI b 0 1 == [0]) = false) :
  Spec w mean mg mb 192 4 ⟨[.ref 201, .bytes b.toArray t1], []⟩ false (fun _ => True) []
    (fun r own' => ∃ tk, r = .int (be b : Nat) tk ∧ own' = []) (fun _ _ _ => False) := by
  have hb0 : b = [] ∨ 0 < (b.length : Int) := by cases b <;> simp
  have hb1 : b.toArray.size = b.length := by simp
  rcases hb0 with rfl | hb0
  all_goals intro dp un gd base outer g s R S hg hsz ho hpp hd1 hu1 hret hexc
  all_goals first | refine enterP S hg hsz ho (by k_is) (by k_is) (room_0 hd1) (BindsTo.of_eq rfl) rfl ?_ rfl rfl rfl (by decide) | refine enter S hg hsz ho (by k_is) (by k_is) (room_0 hd1) (BindsTo.of_eq rfl) (locs rfl) ?_ rfl rfl rfl (by decide)
  all_goals intro L' h₁ tk₁ hst hL F N B X T M₁ en₁ A₁
  all_goals (try dsimp only)
  all_goals k_fold
  all_goals repeat' (first | (k_unfold; (try dsimp only)) | (k_end; wrow_close) | ((with_reducible show wpAny _ _ (compareOp CmpOp.Eq (Value.bytes _ _) (Value.bytes _ _)) _ _ _); with_reducible (k_here; (with_reducible show wpAny _ _ (compareOp CmpOp.Eq (Value.bytes (List.toArray _) _) (Value.bytes (List.toArray _) _)) _ _ _); (refine eq_list ?_))) | ((with_reducible show wpAny _ _ (eval (Expr.Constant (Const.int _) _ _) _) _ _ _); with_reducible refine const_i ?_) | ((with_reducible show wpAny _ _ (call (Value.builtin _) _) _ _ _); with_reducible (k_here; (with_reducible show wpAny _ _ (call (Value.builtin "len") [Value.bytes (List.toArray _) _]) _ _ _); (refine len_list (by (try simp only [List.length_append, cutI_length, List.length_cons, List.length_nil]); first | decide | omega) ?_); intro _ _)) | ((with_reducible show wpAny _ _ (subscriptTail _ _ _ _) _ _ _); with_reducible (k_here; (with_reducible show wpAny _ _ (subscriptTail _ (Expr.Slice _ _ none _) (Value.bytes (List.toArray _) _) (Value.ref _)) _ _ _); (with_reducible rename Fr _ _ _ _ => F'); (with_reducible rename News _ _ _ _ => N'); (first | (refine slice_ij (s := ⟨_, _, _, _, _⟩) F' N' (by omega) (by omega) (by first | omega | (simp only [List.length_append]; omega)) ?_ (by with_unfolding_all rfl) (by intro _; with_unfolding_all rfl)) | (refine slice_0j (s := ⟨_, _, _, _, _⟩) F' N' (by omega) (by first | omega | (simp only [List.length_append]; omega)) ?_ (by with_unfolding_all rfl) (by intro _; with_unfolding_all rfl))); intro _ _ _ F' N')) | ((with_reducible show wpAny _ _ (execs (_ :: _) _) _ _ _); with_reducible (refine wpAny_execs_cons ?_; (try k_fold))) | ((with_reducible show wpAny _ _ (storeName _ _ _) _ _ _); with_reducible (k_here; k_dflt (refine' storeP ?zzF ?zzN ?_ ?zza ?zzb; (case zzF => k_asm); (case zzN => k_asm); (case zza => rfl); (case zzb => rfl); k_whole; intro h' tk' F' N'; (try k_sweep)))) | ((with_reducible show wpAny _ _ (call (Value.ref _) _) _ _ _); with_reducible (k_here; (with_reducible show wpAny _ _ (call (Value.ref 83) _) _ _ _); k_dflt (refine' call0 (sp83 _ _ ?zzhx) ?zzS ?zzF ?zzN ?zzkK ?zzkA ?zzpre ?zzhd ?zzhu ?_; (case zzkA => exact rfl); (case zzS => assumption); (case zzF => k_asm); (case zzN => k_asm); (case zzkK => exact rfl); (case zzpre => exact fun _ _ _ => trivial); (case zzhx => first | assumption | decide | omega | (simp only [cutI_length]; omega)); (case zzhd => first | (refine' room_d ?zzza ?zzzb; (case zzza => assumption); (case zzzb => first | decide | (refine Nat.succ_le_succ (Nat.le_trans ?_ (by assumption)); decide))) | (dsimp only [top]; omega)); (case zzhu => first | (refine' room_u ?zzza ?zzzb; (case zzza => assumption); (case zzzb => first | decide | (refine Nat.succ_le_succ (Nat.le_trans ?_ (by assumption)); decide))) | (dsimp only [top]; omega))); intro r' own' h' tk' F' N' hdis' hr'; obtain ⟨t', hr1, hr2⟩ := hr'; subst hr1; subst hr2; (try simp only [List.nil_append] at N'))) | walk1 | (dsimp only; first | ((with_reducible show wpAny _ _ (compareOp CmpOp.Eq (Value.bytes _ _) (Value.bytes _ _)) _ _ _); with_reducible (k_here; (with_reducible show wpAny _ _ (compareOp CmpOp.Eq (Value.bytes (List.toArray _) _) (Value.bytes (List.toArray _) _)) _ _ _); (refine eq_list ?_))) | ((with_reducible show wpAny _ _ (eval (Expr.Constant (Const.int _) _ _) _) _ _ _); with_reducible refine const_i ?_) | ((with_reducible show wpAny _ _ (call (Value.builtin _) _) _ _ _); with_reducible (k_here; (with_reducible show wpAny _ _ (call (Value.builtin "len") [Value.bytes (List.toArray _) _]) _ _ _); (refine len_list (by (try simp only [List.length_append, cutI_length, List.length_cons, List.length_nil]); first | decide | omega) ?_); intro _ _)) | ((with_reducible show wpAny _ _ (subscriptTail _ _ _ _) _ _ _); with_reducible (k_here; (with_reducible show wpAny _ _ (subscriptTail _ (Expr.Slice _ _ none _) (Value.bytes (List.toArray _) _) (Value.ref _)) _ _ _); (with_reducible rename Fr _ _ _ _ => F'); (with_reducible rename News _ _ _ _ => N'); (first | (refine slice_ij (s := ⟨_, _, _, _, _⟩) F' N' (by omega) (by omega) (by first | omega | (simp only [List.length_append]; omega)) ?_ (by with_unfolding_all rfl) (by intro _; with_unfolding_all rfl)) | (refine slice_0j (s := ⟨_, _, _, _, _⟩) F' N' (by omega) (by first | omega | (simp only [List.length_append]; omega)) ?_ (by with_unfolding_all rfl) (by intro _; with_unfolding_all rfl))); intro _ _ _ F' N')) | ((with_reducible show wpAny _ _ (execs (_ :: _) _) _ _ _); with_reducible (refine wpAny_execs_cons ?_; (try k_fold))) | ((with_reducible show wpAny _ _ (storeName _ _ _) _ _ _); with_reducible (k_here; k_dflt (refine' storeP ?zzF ?zzN ?_ ?zza ?zzb; (case zzF => k_asm); (case zzN => k_asm); (case zza => rfl); (case zzb => rfl); k_whole; intro h' tk' F' N'; (try k_sweep)))) | ((with_reducible show wpAny _ _ (call (Value.ref _) _) _ _ _); with_reducible (k_here; (with_reducible show wpAny _ _ (call (Value.ref 83) _) _ _ _); k_dflt (refine' call0 (sp83 _ _ ?zzhx) ?zzS ?zzF ?zzN ?zzkK ?zzkA ?zzpre ?zzhd ?zzhu ?_; (case zzkA => exact rfl); (case zzS => assumption); (case zzF => k_asm); (case zzN => k_asm); (case zzkK => exact rfl); (case zzpre => exact fun _ _ _ => trivial); (case zzhx => first | assumption | decide | omega | (simp only [cutI_length]; omega)); (case zzhd => first | (refine' room_d ?zzza ?zzzb; (case zzza => assumption); (case zzzb => first | decide | (refine Nat.succ_le_succ (Nat.le_trans ?_ (by assumption)); decide))) | (dsimp only [top]; omega)); (case zzhu => first | (refine' room_u ?zzza ?zzzb; (case zzza => assumption); (case zzzb => first | decide | (refine Nat.succ_le_succ (Nat.le_trans ?_ (by assumption)); decide))) | (dsimp only [top]; omega))); intro r' own' h' tk' F' N' hdis' hr'; obtain ⟨t', hr1, hr2⟩ := hr'; subst hr1; subst hr2; (try simp only [List.nil_append] at N'))) | walk1) | (leave1; (try dsimp only)) | fail "no step")
  all_goals (try k_data)
  all_goals (try (exfalso; omega))
  all_goals (
    show R (.ok (.ret _)) _
    rename Fr _ _ _ _ => F9
    exact hret _ g [] _ _ rfl F9.keep (fun _ h => nomatch h) ⟨_, rfl, rfl⟩)
theorem sp134t {w : World} {mean : ExcName → Option Value} {mg mb : Str → Option Value} (r : LS) (ap : r.Apart) (i : Nat) (hi : r.ix = (i : Int)) (hlt : r.ix < r.en) (hix : i < r.X.length) (hx : r.X.length ≤ 100000) (hsd : r.sd = .none)
    {p : List UInt8} {l s' : Nat} (hc : clpF r.X i = some (p, true, l, s')) (hp : p.length ≤ 100000) (hel : r.els.length ≤ 100000) :
  Spec w mean mg mb 134 12 ⟨[.ref r.x], []⟩ false (fun _ => True) (r.objs w)
    (fun v own' => ∃ ta ti ep, v = .bytes (cut r.X s' (s' + l)).toArray ta ∧ own' = ({ r with ix := (s' + l : Nat), ti := ti, els := r.els ++ [.bytes (cut r.X s' (s' + l)).toArray ta], ep := ep } : LS).objs w) (fun _ _ _ => False) := by
  obtain ⟨x, dx, el, X, tX, st, ts, en, te, ix, ti, els, ep, ln, sd, k1, k2, k3, k4, k5, k6, k7, rem⟩ := r
  obtain ⟨a1, a2, a3⟩ := ap
  dsimp only at *
  subst hi
  subst hsd
  intro dp un gd base outer g s R S hg hsz ho hpp hd1 hu1 hret hexc
  first | refine enterP S hg hsz ho (by k_is) (by k_is) ?_ (BindsTo.of_eq rfl) rfl ?_ rfl rfl rfl (by decide) | refine enter S hg hsz ho (by k_is) (by k_is) ?_ (BindsTo.of_eq rfl) (locs rfl) ?_ rfl rfl rfl (by decide)
  · exact room_0 hd1
  intro L' h₁ tk₁ hst hL F N B XX T M₁ en₁ A₁
  dsimp only [LS.objs, LS.dict] at N
  (try dsimp only)
  k_fold
  repeat' (first | (k_unfold; (try dsimp only)) | (k_end; wrow_close) | ((with_reducible show wpAny _ _ (call (Value.builtin _) _) _ _ _); with_reducible (k_here; (with_reducible show wpAny _ _ (call (Value.builtin "len") [Value.ref _]) _ _ _); k_dflt (refine' PyProof.Rows.len_list (News.isList ?zzkN ?zzkM) ?zzkz ?_; (case zzkN => k_asm); (case zzkM => k_mem); (case zzkz => first | omega | ((try simp only [List.size_toArray, List.length_append, List.length_cons, List.length_nil, Array.size_push]); omega)); k_whole); (try simp only [List.size_toArray]))) | ((with_reducible show wpAny _ _ (execs (_ :: _) _) _ _ _); with_reducible (refine wpAny_execs_cons ?_; (try k_fold))) | ((with_reducible show wpAny _ _ (storeName _ _ _) _ _ _); with_reducible (k_here; k_dflt (refine' storeP ?zzF ?zzN ?_ ?zza ?zzb; (case zzF => k_asm); (case zzN => k_asm); (case zza => rfl); (case zzb => rfl); k_whole; intro h' tk' F' N'; (try k_sweep)))) | ((with_reducible show wpAny _ _ (call (Value.ref _) _) _ _ _); with_reducible (k_here; (with_reducible show wpAny _ _ (call (Value.ref 112) _) _ _ _); k_dflt (refine' call0 (sp112t _ _ _ _ ?zzh1 ?zzhx ?zzhc ?zzhp) ?zzS ?zzF ?zzN ?zzkK ?zzkA ?zzpre ?zzhd ?zzhu ?_; (case zzkA => exact rfl); (case zzS => assumption); (case zzF => k_asm); (case zzN => k_asm); (case zzkK => exact rfl); (case zzpre => exact fun _ _ _ => trivial); (case zzhc => assumption); (case zzh1 => assumption); (case zzhx => assumption); (case zzhp => assumption); (case zzhd => first | (refine' room_d ?zzza ?zzzb; (case zzza => assumption); (case zzzb => first | decide | (refine Nat.succ_le_succ (Nat.le_trans ?_ (by assumption)); decide))) | (dsimp only [top]; omega)); (case zzhu => first | (refine' room_u ?zzza ?zzzb; (case zzza => assumption); (case zzzb => first | decide | (refine Nat.succ_le_succ (Nat.le_trans ?_ (by assumption)); decide))) | (dsimp only [top]; omega))); intro r' own' h' tk' F' N' hdis' hr'; obtain ⟨t', ta', tc', hr1, hr2⟩ := hr'; subst hr1; subst hr2; (try dsimp only); (try simp only [List.nil_append, List.cons_append] at N'); (replace hdis' := apartAll_of hdis'); (try simp only [ApartAll, Apart2, and_true] at hdis'))) | walk1 | (dsimp only; first | ((with_reducible show wpAny _ _ (call (Value.builtin _) _) _ _ _); with_reducible (k_here; (with_reducible show wpAny _ _ (call (Value.builtin "len") [Value.ref _]) _ _ _); k_dflt (refine' PyProof.Rows.len_list (News.isList ?zzkN ?zzkM) ?zzkz ?_; (case zzkN => k_asm); (case zzkM => k_mem); (case zzkz => first | omega | ((try simp only [List.size_toArray, List.length_append, List.length_cons, List.length_nil, Array.size_push]); omega)); k_whole); (try simp only [List.size_toArray]))) | ((with_reducible show wpAny _ _ (execs (_ :: _) _) _ _ _); with_reducible (refine wpAny_execs_cons ?_; (try k_fold))) | ((with_reducible show wpAny _ _ (storeName _ _ _) _ _ _); with_reducible (k_here; k_dflt (refine' storeP ?zzF ?zzN ?_ ?zza ?zzb; (case zzF => k_asm); (case zzN => k_asm); (case zza => rfl); (case zzb => rfl); k_whole; intro h' tk' F' N'; (try k_sweep)))) | ((with_reducible show wpAny _ _ (call (Value.ref _) _) _ _ _); with_reducible (k_here; (with_reducible show wpAny _ _ (call (Value.ref 112) _) _ _ _); k_dflt (refine' call0 (sp112t _ _ _ _ ?zzh1 ?zzhx ?zzhc ?zzhp) ?zzS ?zzF ?zzN ?zzkK ?zzkA ?zzpre ?zzhd ?zzhu ?_; (case zzkA => exact rfl); (case zzS => assumption); (case zzF => k_asm); (case zzN => k_asm); (case zzkK => exact rfl); (case zzpre => exact fun _ _ _ => trivial); (case zzhc => assumption); (case zzh1 => assumption); (case zzhx => assumption); (case zzhp => assumption); (case zzhd => first | (refine' room_d ?zzza ?zzzb; (case zzza => assumption); (case zzzb => first | decide | (refine Nat.succ_le_succ (Nat.le_trans ?_ (by assumption)); decide))) | (dsimp only [top]; omega)); (case zzhu => first | (refine' room_u ?zzza ?zzzb; (case zzza => assumption); (case zzzb => first | decide | (refine Nat.succ_le_succ (Nat.le_trans ?_ (by assumption)); decide))) | (dsimp only [top]; omega))); intro r' own' h' tk' F' N' hdis' hr'; obtain ⟨t', ta', tc', hr1, hr2⟩ := hr'; subst hr1; subst hr2; (try dsimp only); (try simp only [List.nil_append, List.cons_append] at N'); (replace hdis' := apartAll_of hdis'); (try simp only [ApartAll, Apart2, and_true] at hdis'))) | walk1) | (leave1; (try dsimp only)) | fail "no step")
  all_goals (try k_data)
  all_goals (try (exfalso; omega))
  show R (.ok (.ret _)) _
  rename Fr _ _ _ _ => F9
  rename News _ _ _ _ => N9
  rw [List.push_toArray] at N9
  exact hret _ g _ _ _ rfl F9.keep (News.owns (fun q hq => N9 q (List.mem_cons.mpr (.inr hq)))) ⟨_, _, _, rfl, rfl⟩
theorem news_rot {g h : Heap} {L : Addr} {t b1 b2 b3 a1 a2 a3 : Addr × Obj} (N : News g L h [t, b1, b2, b3, a1, a2, a3]) : News g L h [a1, a2, a3, b1, b2, b3] :=
  fun p hp => N p (List.mem_cons.mpr (.inr (by
    rcases List.mem_append.mp (show p ∈ [a1, a2, a3] ++ [b1, b2, b3] from hp) with h | h
    · exact List.mem_append_right [b1, b2, b3] h
    · exact List.mem_append_left [a1, a2, a3] h)))
theorem sp134f {w : World} {mean : ExcName → Option Value} {mg mb : Str → Option Value} (r : LS) (ap : r.Apart) (i : Nat) (hi : r.ix = (i : Int)) (hlt : r.ix < r.en) (hix : i < r.X.length) (hx : r.X.length ≤ 100000) (hsd : r.sd = .none)
    {p : List UInt8} {l s' : Nat} (hc : clpF r.X i = some (p, false, l, s')) (hel : r.els.length ≤ 100000) :
  Spec w mean mg mb 134 12 ⟨[.ref r.x], []⟩ false (fun _ => True) (r.objs w)
    (fun v own' => ∃ ti ep, ∃ q : LS, v = .ref q.x ∧ own' = ({ r with ix := (s' + l : Nat), ti := ti, els := r.els ++ [.ref q.x], ep := ep } : LS).objs w ++ q.objs w ∧ q.Apart ∧
      (∀ a ∈ [r.x, r.dx, r.l], ∀ b ∈ [q.x, q.dx, q.l], a ≠ b) ∧ (q.X = r.X ∧ q.st = (s' : Int) ∧ q.en = (s' : Int) + l ∧ q.ix = (s' : Int) ∧ q.els = [] ∧ q.ln = .none ∧ q.sd = .none)) (fun _ _ _ => False) := by
  obtain ⟨x, dx, el, X, tX, st, ts, en, te, ix, ti, els, ep, ln, sd, k1, k2, k3, k4, k5, k6, k7, rem⟩ := r
  obtain ⟨a1, a2, a3⟩ := ap
  dsimp only at *
  subst hi
  subst hsd
  intro dp un gd base outer g s R S hg hsz ho hpp hd1 hu1 hret hexc
  first | refine enterP S hg hsz ho (by k_is) (by k_is) ?_ (BindsTo.of_eq rfl) rfl ?_ rfl rfl rfl (by decide) | refine enter S hg hsz ho (by k_is) (by k_is) ?_ (BindsTo.of_eq rfl) (locs rfl) ?_ rfl rfl rfl (by decide)
  · exact room_0 hd1
  intro L' h₁ tk₁ hst hL F N B XX T M₁ en₁ A₁
  dsimp only [LS.objs, LS.dict] at N
  (try dsimp only)
  k_fold
  repeat' (first | (k_unfold; (try dsimp only)) | (k_end; wrow_close) | ((with_reducible show wpAny _ _ (call (Value.builtin _) _) _ _ _); with_reducible (k_here; (with_reducible show wpAny _ _ (call (Value.builtin "len") [Value.ref _]) _ _ _); k_dflt (refine' PyProof.Rows.len_list (News.isList ?zzkN ?zzkM) ?zzkz ?_; (case zzkN => k_asm); (case zzkM => k_mem); (case zzkz => first | omega | ((try simp only [List.size_toArray, List.length_append, List.length_cons, List.length_nil, Array.size_push]); omega)); k_whole); (try simp only [List.size_toArray]))) | ((with_reducible show wpAny _ _ (execs (_ :: _) _) _ _ _); with_reducible (refine wpAny_execs_cons ?_; (try k_fold))) | ((with_reducible show wpAny _ _ (storeName _ _ _) _ _ _); with_reducible (k_here; k_dflt (refine' storeP ?zzF ?zzN ?_ ?zza ?zzb; (case zzF => k_asm); (case zzN => k_asm); (case zza => rfl); (case zzb => rfl); k_whole; intro h' tk' F' N'; (try k_sweep)))) | ((with_reducible show wpAny _ _ (call (Value.ref _) _) _ _ _); with_reducible (k_here; (with_reducible show wpAny _ _ (call (Value.ref 112) _) _ _ _); k_dflt (refine' call0 (sp112f _ _ _ _ ?zzh1 ?zzhx ?zzhc) ?zzS ?zzF ?zzN ?zzkK ?zzkA ?zzpre ?zzhd ?zzhu ?_; (case zzkA => exact rfl); (case zzS => assumption); (case zzF => k_asm); (case zzN => k_asm); (case zzkK => exact rfl); (case zzpre => exact fun _ _ _ => trivial); (case zzhc => assumption); (case zzh1 => assumption); (case zzhx => assumption); (case zzhd => first | (refine' room_d ?zzza ?zzzb; (case zzza => assumption); (case zzzb => first | decide | (refine Nat.succ_le_succ (Nat.le_trans ?_ (by assumption)); decide))) | (dsimp only [top]; omega)); (case zzhu => first | (refine' room_u ?zzza ?zzzb; (case zzza => assumption); (case zzzb => first | decide | (refine Nat.succ_le_succ (Nat.le_trans ?_ (by assumption)); decide))) | (dsimp only [top]; omega))); intro r' own' h' tk' F' N' hdis' hr'; obtain ⟨t', tc', q', hr1, hr2, hq1, hq2, hq3⟩ := hr'; subst hr1; subst hr2; (try dsimp only); (try simp only [List.nil_append, List.cons_append] at N'); (replace hdis' := apartAll_of hdis'); (try simp only [ApartAll, Apart2, and_true] at hdis'); (have q0' := hdis'.1.1); (have q1' := hdis'.1.2.1); (have q2' := hdis'.1.2.2); (have q3' := hdis'.2.1.1); (have q4' := hdis'.2.1.2.1); (have q5' := hdis'.2.1.2.2); (have q6' := hdis'.2.2.1.1); (have q7' := hdis'.2.2.1.2.1); (have q8' := hdis'.2.2.1.2.2); (have q9' := hdis'.2.2.2.1); (have q10' := hdis'.2.2.2.2.1); (have q11' := hdis'.2.2.2.2.2))) | walk1 | (dsimp only; first | ((with_reducible show wpAny _ _ (call (Value.builtin _) _) _ _ _); with_reducible (k_here; (with_reducible show wpAny _ _ (call (Value.builtin "len") [Value.ref _]) _ _ _); k_dflt (refine' PyProof.Rows.len_list (News.isList ?zzkN ?zzkM) ?zzkz ?_; (case zzkN => k_asm); (case zzkM => k_mem); (case zzkz => first | omega | ((try simp only [List.size_toArray, List.length_append, List.length_cons, List.length_nil, Array.size_push]); omega)); k_whole); (try simp only [List.size_toArray]))) | ((with_reducible show wpAny _ _ (execs (_ :: _) _) _ _ _); with_reducible (refine wpAny_execs_cons ?_; (try k_fold))) | ((with_reducible show wpAny _ _ (storeName _ _ _) _ _ _); with_reducible (k_here; k_dflt (refine' storeP ?zzF ?zzN ?_ ?zza ?zzb; (case zzF => k_asm); (case zzN => k_asm); (case zza => rfl); (case zzb => rfl); k_whole; intro h' tk' F' N'; (try k_sweep)))) | ((with_reducible show wpAny _ _ (call (Value.ref _) _) _ _ _); with_reducible (k_here; (with_reducible show wpAny _ _ (call (Value.ref 112) _) _ _ _); k_dflt (refine' call0 (sp112f _ _ _ _ ?zzh1 ?zzhx ?zzhc) ?zzS ?zzF ?zzN ?zzkK ?zzkA ?zzpre ?zzhd ?zzhu ?_; (case zzkA => exact rfl); (case zzS => assumption); (case zzF => k_asm); (case zzN => k_asm); (case zzkK => exact rfl); (case zzpre => exact fun _ _ _ => trivial); (case zzhc => assumption); (case zzh1 => assumption); (case zzhx => assumption); (case zzhd => first | (refine' room_d ?zzza ?zzzb; (case zzza => assumption); (case zzzb => first | decide | (refine Nat.succ_le_succ (Nat.le_trans ?_ (by assumption)); decide))) | (dsimp only [top]; omega)); (case zzhu => first | (refine' room_u ?zzza ?zzzb; (case zzza => assumption); (case zzzb => first | decide | (refine Nat.succ_le_succ (Nat.le_trans ?_ (by assumption)); decide))) | (dsimp only [top]; omega))); intro r' own' h' tk' F' N' hdis' hr'; obtain ⟨t', tc', q', hr1, hr2, hq1, hq2, hq3⟩ := hr'; subst hr1; subst hr2; (try dsimp only); (try simp only [List.nil_append, List.cons_append] at N'); (replace hdis' := apartAll_of hdis'); (try simp only [ApartAll, Apart2, and_true] at hdis'); (have q0' := hdis'.1.1); (have q1' := hdis'.1.2.1); (have q2' := hdis'.1.2.2); (have q3' := hdis'.2.1.1); (have q4' := hdis'.2.1.2.1); (have q5' := hdis'.2.1.2.2); (have q6' := hdis'.2.2.1.1); (have q7' := hdis'.2.2.1.2.1); (have q8' := hdis'.2.2.1.2.2); (have q9' := hdis'.2.2.2.1); (have q10' := hdis'.2.2.2.2.1); (have q11' := hdis'.2.2.2.2.2))) | walk1) | (leave1; (try dsimp only)) | fail "no step")
  all_goals (try k_data)
  all_goals (try (exfalso; omega))
  show R (.ok (.ret _)) _
  rename Fr _ _ _ _ => F9
  rename News _ _ _ _ => N9
  rename LS => q9
  rename LS.Apart _ => a9
  rename (_ ∧ _) ∧ _ => d9
  rw [List.push_toArray] at N9
  refine hret _ g _ _ _ rfl F9.keep (News.owns (news_rot N9)) ⟨_, _, q9, rfl, rfl, a9, ?_, by assumption⟩
  obtain ⟨_, ⟨d1, d2, d3⟩, ⟨d4, d5, d6⟩, d7, d8, d9⟩ := d9
  simp only [List.mem_cons, List.not_mem_nil, or_false]
  rintro a (rfl | rfl | rfl) b (rfl | rfl | rfl) <;> assumption
theorem sp134e {w : World} {mean : ExcName → Option Value} {mg mb : Str → Option Value} (r : LS) (ap : r.Apart) (heq : r.ix = r.en) (hel : r.els.length ≤ 100000) :
  Spec w mean mg mb 134 4 ⟨[.ref r.x], []⟩ false (fun _ => True) (r.objs w) (fun _ _ => False)
    (fun cls c own' => ∃ tl, cls = .type "StopIteration" ∧ c = .none ∧ own' = ({ r with ln := .int (r.els.length : Nat) tl } : LS).objs w) := by
  obtain ⟨x, dx, el, X, tX, st, ts, en, te, ix, ti, els, ep, ln, sd, k1, k2, k3, k4, k5, k6, k7, rem⟩ := r
  obtain ⟨a1, a2, a3⟩ := ap
  dsimp only at *
  subst heq
  intro dp un gd base outer g s R S hg hsz ho hpp hd1 hu1 hret hexc
  have kdX := S.dicts
  first | refine enterP S hg hsz ho (by k_is) (by k_is) ?_ (BindsTo.of_eq rfl) rfl ?_ rfl rfl rfl (by decide) | refine enter S hg hsz ho (by k_is) (by k_is) ?_ (BindsTo.of_eq rfl) (locs rfl) ?_ rfl rfl rfl (by decide)
  · exact room_0 hd1
  intro L' h₁ tk₁ hst hL F N B XX T M₁ en₁ A₁
  dsimp only [LS.objs, LS.dict] at N
  (try dsimp only)
  k_fold
  repeat' (first | (k_unfold; (try dsimp only)) | (k_end; wrow_close) | ((with_reducible show wpAny _ _ (call (Value.builtin _) _) _ _ _); with_reducible (k_here; (with_reducible show wpAny _ _ (call (Value.builtin "len") [Value.ref _]) _ _ _); k_dflt (refine' PyProof.Rows.len_list (News.isList ?zzkN ?zzkM) ?zzkz ?_; (case zzkN => k_asm); (case zzkM => k_mem); (case zzkz => first | omega | ((try simp only [List.size_toArray, List.length_append, List.length_cons, List.length_nil, Array.size_push]); omega)); k_whole); (try simp only [List.size_toArray]))) | ((with_reducible show wpAny _ _ (leaving _ _) _ _ _); with_reducible (k_here; (with_reducible rename KtsDicts _ _ => kdX); k_dflt (first | (refine' leave_onX ?zzk1 ?zzk2 ?zzk3 ?zzk4 ?_; (case zzk3 => assumption); (case zzk2 => assumption); (case zzk1 => assumption); (case zzk4 => assumption); k_whole; intro h' S' U'; (try dsimp only at S' U' ⊢)) | (refine' leave_newX ?zzk1 ?zzk0 ?zzk2 ?zzk3 ?_; (case zzk0 => assumption); (case zzk2 => assumption); (case zzk1 => assumption); (case zzk3 => k_asm); k_whole; intro h' S' U'; (try dsimp only at S' U' ⊢))))) | ((with_reducible show wpAny _ _ (execs (_ :: _) _) _ _ _); with_reducible (refine wpAny_execs_cons ?_; (try k_fold))) | walk1 | (dsimp only; first | ((with_reducible show wpAny _ _ (call (Value.builtin _) _) _ _ _); with_reducible (k_here; (with_reducible show wpAny _ _ (call (Value.builtin "len") [Value.ref _]) _ _ _); k_dflt (refine' PyProof.Rows.len_list (News.isList ?zzkN ?zzkM) ?zzkz ?_; (case zzkN => k_asm); (case zzkM => k_mem); (case zzkz => first | omega | ((try simp only [List.size_toArray, List.length_append, List.length_cons, List.length_nil, Array.size_push]); omega)); k_whole); (try simp only [List.size_toArray]))) | ((with_reducible show wpAny _ _ (leaving _ _) _ _ _); with_reducible (k_here; (with_reducible rename KtsDicts _ _ => kdX); k_dflt (first | (refine' leave_onX ?zzk1 ?zzk2 ?zzk3 ?zzk4 ?_; (case zzk3 => assumption); (case zzk2 => assumption); (case zzk1 => assumption); (case zzk4 => assumption); k_whole; intro h' S' U'; (try dsimp only at S' U' ⊢)) | (refine' leave_newX ?zzk1 ?zzk0 ?zzk2 ?zzk3 ?_; (case zzk0 => assumption); (case zzk2 => assumption); (case zzk1 => assumption); (case zzk3 => k_asm); k_whole; intro h' S' U'; (try dsimp only at S' U' ⊢))))) | ((with_reducible show wpAny _ _ (execs (_ :: _) _) _ _ _); with_reducible (refine wpAny_execs_cons ?_; (try k_fold))) | walk1) | (leave1; (try dsimp only)) | fail "no step")
  all_goals (try k_data)
  all_goals (try (exfalso; first | omega | contradiction))
  rename RaisedSX _ _ _ _ _ _ _ _ => S9
  rename Heap.UpToSlots _ _ => U9
  exact hexc _ _ _ _ _ _ S9 U9 ⟨_, rfl, rfl, rfl⟩
theorem sp134d {w : World} {mean : ExcName → Option Value} {mg mb : Str → Option Value} (r : LS) (ap : r.Apart) (i : Nat) (hi : r.ix = (i : Int)) (hlt : r.ix < r.en) (hix : i < r.X.length) (hx : r.X.length ≤ 100000) (hsd : r.sd = .ref 201)
    {p : List UInt8} {l s' : Nat} (hc : clpF r.X i = some (p, true, l, s')) (hp : p.length ≤ 100000) (hel : r.els.length ≤ 100000) (hb : (cut r.X s' (s' + l)).length ≤ 8) (hz : (cutI (cut r.X s' (s' + l)) 0 1 == [0]) = false) :
  Spec w mean mg mb 134 12 ⟨[.ref r.x], []⟩ false (fun _ => True) (r.objs w)
    (fun v own' => ∃ ta ti ep, v = .int (be (cut r.X s' (s' + l)) : Nat) ta ∧ own' = ({ r with ix := (s' + l : Nat), ti := ti, els := r.els ++ [.int (be (cut r.X s' (s' + l)) : Nat) ta], ep := ep } : LS).objs w) (fun _ _ _ => False) := by
  obtain ⟨x, dx, el, X, tX, st, ts, en, te, ix, ti, els, ep, ln, sd, k1, k2, k3, k4, k5, k6, k7, rem⟩ := r
  obtain ⟨a1, a2, a3⟩ := ap
  dsimp only at *
  subst hi
  subst hsd
  intro dp un gd base outer g s R S hg hsz ho hpp hd1 hu1 hret hexc
  first | refine enterP S hg hsz ho (by k_is) (by k_is) ?_ (BindsTo.of_eq rfl) rfl ?_ rfl rfl rfl (by decide) | refine enter S hg hsz ho (by k_is) (by k_is) ?_ (BindsTo.of_eq rfl) (locs rfl) ?_ rfl rfl rfl (by decide)
  · exact room_0 hd1
  intro L' h₁ tk₁ hst hL F N B XX T M₁ en₁ A₁
  dsimp only [LS.objs, LS.dict] at N
  (try dsimp only)
  k_fold
  repeat' (first | (k_unfold; (try dsimp only)) | (k_end; wrow_close) | ((with_reducible show wpAny _ _ (call (Value.builtin _) _) _ _ _); with_reducible (k_here; (with_reducible show wpAny _ _ (call (Value.builtin "len") [Value.ref _]) _ _ _); k_dflt (refine' PyProof.Rows.len_list (News.isList ?zzkN ?zzkM) ?zzkz ?_; (case zzkN => k_asm); (case zzkM => k_mem); (case zzkz => first | omega | ((try simp only [List.size_toArray, List.length_append, List.length_cons, List.length_nil, Array.size_push]); omega)); k_whole); (try simp only [List.size_toArray]))) | ((with_reducible show wpAny _ _ (execs (_ :: _) _) _ _ _); with_reducible (refine wpAny_execs_cons ?_; (try k_fold))) | ((with_reducible show wpAny _ _ (storeName _ _ _) _ _ _); with_reducible (k_here; k_dflt (refine' storeP ?zzF ?zzN ?_ ?zza ?zzb; (case zzF => k_asm); (case zzN => k_asm); (case zza => rfl); (case zzb => rfl); k_whole; intro h' tk' F' N'; (try k_sweep)))) | ((with_reducible show wpAny _ _ (call (Value.ref _) _) _ _ _); with_reducible (k_here; (with_reducible show wpAny _ _ (call (Value.ref 192) _) _ _ _); k_dflt (refine' call0 (sp192 _ _ ?zzhx ?zzhz) ?zzS ?zzF ?zzN ?zzkK ?zzkA ?zzpre ?zzhd ?zzhu ?_; (case zzkA => exact rfl); (case zzS => assumption); (case zzF => k_asm); (case zzN => k_asm); (case zzkK => exact rfl); (case zzpre => exact fun _ _ _ => trivial); (case zzhx => assumption); (case zzhz => assumption); (case zzhd => first | (refine' room_d ?zzza ?zzzb; (case zzza => assumption); (case zzzb => first | decide | (refine Nat.succ_le_succ (Nat.le_trans ?_ (by assumption)); decide))) | (dsimp only [top]; omega)); (case zzhu => first | (refine' room_u ?zzza ?zzzb; (case zzza => assumption); (case zzzb => first | decide | (refine Nat.succ_le_succ (Nat.le_trans ?_ (by assumption)); decide))) | (dsimp only [top]; omega))); intro r' own' h' tk' F' N' hdis' hr'; obtain ⟨t', hr1, hr2⟩ := hr'; subst hr1; subst hr2; (try simp only [List.nil_append] at N'))) | ((with_reducible show wpAny _ _ (call (Value.ref _) _) _ _ _); with_reducible (k_here; (with_reducible show wpAny _ _ (call (Value.ref 112) _) _ _ _); k_dflt (refine' call0 (sp112t _ _ _ _ ?zzh1 ?zzhx ?zzhc ?zzhp) ?zzS ?zzF ?zzN ?zzkK ?zzkA ?zzpre ?zzhd ?zzhu ?_; (case zzkA => exact rfl); (case zzS => assumption); (case zzF => k_asm); (case zzN => k_asm); (case zzkK => exact rfl); (case zzpre => exact fun _ _ _ => trivial); (case zzhc => assumption); (case zzh1 => assumption); (case zzhx => assumption); (case zzhp => assumption); (case zzhd => first | (refine' room_d ?zzza ?zzzb; (case zzza => assumption); (case zzzb => first | decide | (refine Nat.succ_le_succ (Nat.le_trans ?_ (by assumption)); decide))) | (dsimp only [top]; omega)); (case zzhu => first | (refine' room_u ?zzza ?zzzb; (case zzza => assumption); (case zzzb => first | decide | (refine Nat.succ_le_succ (Nat.le_trans ?_ (by assumption)); decide))) | (dsimp only [top]; omega))); intro r' own' h' tk' F' N' hdis' hr'; obtain ⟨t', ta', tc', hr1, hr2⟩ := hr'; subst hr1; subst hr2; (try dsimp only); (try simp only [List.nil_append, List.cons_append] at N'); (replace hdis' := apartAll_of hdis'); (try simp only [ApartAll, Apart2, and_true] at hdis'))) | walk1 | (dsimp only; first | ((with_reducible show wpAny _ _ (call (Value.builtin _) _) _ _ _); with_reducible (k_here; (with_reducible show wpAny _ _ (call (Value.builtin "len") [Value.ref _]) _ _ _); k_dflt (refine' PyProof.Rows.len_list (News.isList ?zzkN ?zzkM) ?zzkz ?_; (case zzkN => k_asm); (case zzkM => k_mem); (case zzkz => first | omega | ((try simp only [List.size_toArray, List.length_append, List.length_cons, List.length_nil, Array.size_push]); omega)); k_whole); (try simp only [List.size_toArray]))) | ((with_reducible show wpAny _ _ (execs (_ :: _) _) _ _ _); with_reducible (refine wpAny_execs_cons ?_; (try k_fold))) | ((with_reducible show wpAny _ _ (storeName _ _ _) _ _ _); with_reducible (k_here; k_dflt (refine' storeP ?zzF ?zzN ?_ ?zza ?zzb; (case zzF => k_asm); (case zzN => k_asm); (case zza => rfl); (case zzb => rfl); k_whole; intro h' tk' F' N'; (try k_sweep)))) | ((with_reducible show wpAny _ _ (call (Value.ref _) _) _ _ _); with_reducible (k_here; (with_reducible show wpAny _ _ (call (Value.ref 192) _) _ _ _); k_dflt (refine' call0 (sp192 _ _ ?zzhx ?zzhz) ?zzS ?zzF ?zzN ?zzkK ?zzkA ?zzpre ?zzhd ?zzhu ?_; (case zzkA => exact rfl); (case zzS => assumption); (case zzF => k_asm); (case zzN => k_asm); (case zzkK => exact rfl); (case zzpre => exact fun _ _ _ => trivial); (case zzhx => assumption); (case zzhz => assumption); (case zzhd => first | (refine' room_d ?zzza ?zzzb; (case zzza => assumption); (case zzzb => first | decide | (refine Nat.succ_le_succ (Nat.le_trans ?_ (by assumption)); decide))) | (dsimp only [top]; omega)); (case zzhu => first | (refine' room_u ?zzza ?zzzb; (case zzza => assumption); (case zzzb => first | decide | (refine Nat.succ_le_succ (Nat.le_trans ?_ (by assumption)); decide))) | (dsimp only [top]; omega))); intro r' own' h' tk' F' N' hdis' hr'; obtain ⟨t', hr1, hr2⟩ := hr'; subst hr1; subst hr2; (try simp only [List.nil_append] at N'))) | ((with_reducible show wpAny _ _ (call (Value.ref _) _) _ _ _); with_reducible (k_here; (with_reducible show wpAny _ _ (call (Value.ref 112) _) _ _ _); k_dflt (refine' call0 (sp112t _ _ _ _ ?zzh1 ?zzhx ?zzhc ?zzhp) ?zzS ?zzF ?zzN ?zzkK ?zzkA ?zzpre ?zzhd ?zzhu ?_; (case zzkA => exact rfl); (case zzS => assumption); (case zzF => k_asm); (case zzN => k_asm); (case zzkK => exact rfl); (case zzpre => exact fun _ _ _ => trivial); (case zzhc => assumption); (case zzh1 => assumption); (case zzhx => assumption); (case zzhp => assumption); (case zzhd => first | (refine' room_d ?zzza ?zzzb; (case zzza => assumption); (case zzzb => first | decide | (refine Nat.succ_le_succ (Nat.le_trans ?_ (by assumption)); decide))) | (dsimp only [top]; omega)); (case zzhu => first | (refine' room_u ?zzza ?zzzb; (case zzza => assumption); (case zzzb => first | decide | (refine Nat.succ_le_succ (Nat.le_trans ?_ (by assumption)); decide))) | (dsimp only [top]; omega))); intro r' own' h' tk' F' N' hdis' hr'; obtain ⟨t', ta', tc', hr1, hr2⟩ := hr'; subst hr1; subst hr2; (try dsimp only); (try simp only [List.nil_append, List.cons_append] at N'); (replace hdis' := apartAll_of hdis'); (try simp only [ApartAll, Apart2, and_true] at hdis'))) | walk1) | (leave1; (try dsimp only)) | fail "no step")
  all_goals (try k_data)
  all_goals (try (exfalso; omega))
  show R (.ok (.ret _)) _
  rename Fr _ _ _ _ => F9
  rename News _ _ _ _ => N9
  rw [List.push_toArray] at N9
  exact hret _ g _ _ _ rfl F9.keep (News.owns (fun q hq => N9 q (List.mem_cons.mpr (.inr hq)))) ⟨_, _, _, rfl, rfl⟩


end T_M7
section T_M8
open PySem PySem.W PyProof.Rows PySem.Spec PySem.Calls
set_option maxRecDepth 100000
set_option maxHeartbeats 1000000




/-! the lazy lists of a run, and what they stand for -/
noncomputable abbrev LG := LS × List PT
noncomputable abbrev objsOf (w : World) (st : List LG) : Led := st.flatMap fun p => p.1.objs w
noncomputable abbrev ads (r : LS) : List Addr := [r.x, r.dx, r.l]
noncomputable abbrev adsOf (st : List LG) : List Addr := st.flatMap fun p => ads p.1

structure Loc (r : LS) (due : List PT) : Prop where
  ap : r.Apart
  at_ : ∃ i : Nat, r.ix = (i : Int) ∧ r.en = ((i + (lens (due.drop r.els.length) + r.rem) : Nat) : Int) ∧ FitsL r.X i (due.drop r.els.length)
  j : r.els.length ≤ due.length
  hx : r.X.length ≤ 100000
  hd : due.length ≤ 100000
  ln : r.ln = .none ∨ ∃ t, r.ln = .int (due.length : Nat) t ∧ r.els.length = due.length
  sd : r.sd = .none ∨ (r.sd = .ref 201 ∧ ∀ t ∈ due, ∃ n, t = .leaf (digs n) ∧ n < 256 ^ 8)

/-- the value v stands for the tree t, among the lazy lists st -/
noncomputable def ElOk (st : List LG) (sd : Value) (v : Value) (t : PT) : Prop :=
  (sd = .none ∧ ((∃ b tk, t = .leaf b ∧ v = .bytes b.toArray tk) ∨ (∃ p ∈ st, t = .node p.2 p.1.rem ∧ v = .ref p.1.x ∧ p.1.sd = .none))) ∨
  (sd = .ref 201 ∧ ∃ n tk, t = .leaf (digs n) ∧ v = .int (n : Nat) tk)

noncomputable def Ext (st st' : List LG) : Prop := ∀ p ∈ st, ∃ p' ∈ st', p'.1.x = p.1.x ∧ p'.2 = p.2 ∧ p'.1.sd = p.1.sd ∧ p'.1.rem = p.1.rem
theorem Ext.refl (st : List LG) : Ext st st := fun p hp => ⟨p, hp, rfl, rfl, rfl, rfl⟩
theorem Ext.trans {a b c : List LG} (h : Ext a b) (k : Ext b c) : Ext a c := fun p hp => by
  obtain ⟨q, hq, e1, e2, e3, e4⟩ := h p hp
  obtain ⟨u, hu, f1, f2, f3, f4⟩ := k q hq
  exact ⟨u, hu, f1.trans e1, f2.trans e2, f3.trans e3, f4.trans e4⟩
theorem ElOk.mono {st st' : List LG} {sd v : Value} {t : PT} (h : ElOk st sd v t) (e : Ext st st') : ElOk st' sd v t := by
  rcases h with ⟨hs, h | ⟨p, hp, h1, h2, h3⟩⟩ | h
  · exact .inl ⟨hs, .inl h⟩
  · obtain ⟨q, hq, e1, e2, e3, e4⟩ := e p hp
    exact .inl ⟨hs, .inr ⟨q, hq, by rw [e2, e4]; exact h1, by rw [e1]; exact h2, e3.trans h3⟩⟩
  · exact .inr h

/-- lazy lists just made -/
structure Fresh (new : List LG) : Prop where
  loc : ∀ p ∈ new, Loc p.1 p.2
  els : ∀ p ∈ new, p.1.els = []
  sd : ∀ p ∈ new, p.1.sd = .none
  nd : (adsOf new).Nodup
theorem Fresh.nil : Fresh [] := ⟨fun _ h => (nomatch h), fun _ h => (nomatch h), fun _ h => (nomatch h), by simp⟩

theorem enc_leaf_bound {b r : List UInt8} {x : List UInt8} {i : Nat} (h : x.drop i = enc (.leaf b) ++ r) (hx : x.length ≤ 100000) : b.length < 256 ^ 8 := by
  have h1 := congrArg List.length h
  rw [List.length_drop, List.length_append] at h1
  have h2 : b.length ≤ (enc (.leaf b)).length := by
    rw [enc]; split
    · omega
    · rw [List.length_append]; omega
  have : (256 : Nat) ^ 8 = 18446744073709551616 := by decide
  omega

/-- the list with more read -/
noncomputable abbrev LS.to (r : LS) (ix : Int) (ti : Tok) (els : List Value) (ep : Nat) : LS := { r with ix := ix, ti := ti, els := els, ep := ep }

/-- what a step of reading makes of the lazy list -/
structure Step (r r' : LS) (due : List PT) (v : Value) (new : List LG) : Prop where
  els : r'.els = r.els ++ [v]
  loc : Loc r' due
  ids : ∃ ix ti els ep, r' = r.to ix ti els ep
  el : ∀ t, due[r.els.length]? = some t → ElOk new r.sd v t
  fresh : Fresh new
  nd : (ads r' ++ adsOf new).Nodup

theorem ads_nodup {r : LS} (h : r.Apart) : (ads r).Nodup := by
  have h1 := h.a; have h2 := h.b; have h3 := h.c
  have e1 : r.x ≠ r.dx := Nat.ne_of_gt h1
  have e2 : r.x ≠ r.l := Nat.ne_of_lt h2
  have e3 : r.dx ≠ r.l := Nat.ne_of_lt h3
  simp [e1, e2, e3]

theorem loc_step {r : LS} {due : List PT} (h : Loc r due) (hj : r.els.length < due.length) {i : Nat} (hi : r.ix = (i : Int)) {t : PT} (ht : due[r.els.length]? = some t) :
    i < r.X.length ∧ r.ix < r.en ∧ Fits r.X i t ∧
      ∀ (ti : Tok) (ep : Nat) (v : Value), Loc { r with ix := (i + t.len : Nat), ti := ti, els := r.els ++ [v], ep := ep } due := by
  obtain ⟨k, hk, he, hf⟩ := h.at_
  have : k = i := by rw [hi] at hk; exact (Int.ofNat.inj hk).symm
  subst this
  have e : due[r.els.length] = t := by
    rw [List.getElem?_eq_getElem hj] at ht; exact Option.some.inj ht
  obtain ⟨f1, f2⟩ := fitsL_drop hj hf
  rw [lens_drop due hj] at he
  rw [e] at f1 f2 he
  have hpos := t.len_pos
  have hle := f1.le
  refine ⟨by omega, ?_, f1, fun ti ep v => ⟨⟨h.ap.a, h.ap.b, h.ap.c⟩, ⟨_, rfl, ?_, ?_⟩, ?_, h.hx, h.hd, ?_, h.sd⟩⟩
  · rw [hk, he]; omega
  · simp only [List.length_append, List.length_cons, List.length_nil, Nat.zero_add]
    rw [he]; omega
  · simpa using f2
  · simp; omega
  · rcases h.ln with h1 | ⟨t', h1, h2⟩
    · exact .inl h1
    · omega

/-- LazyList.next, an item more -/
theorem spN {w : World} {mean : ExcName → Option Value} {mg mb : Str → Option Value} (r : LS) (due : List PT) (h : Loc r due) (hj : r.els.length < due.length) :
    Spec w mean mg mb 134 12 ⟨[.ref r.x], []⟩ false (fun _ => True) (r.objs w) (fun v own' => ∃ r' new, own' = r'.objs w ++ objsOf w new ∧ Step r r' due v new) (fun _ _ _ => False) := by
  obtain ⟨i, hi, he, hf0⟩ := h.at_
  have hel : r.els.length ≤ 100000 := Nat.le_trans h.j h.hd
  cases ht : due[r.els.length]? with
  | none => rw [List.getElem?_eq_getElem hj] at ht; cases ht
  | some t =>
    obtain ⟨hix, hlt, hfit, hloc⟩ := loc_step h hj hi ht
    cases t with
    | leaf b =>
      rw [Fits] at hfit
      rw [PT.len] at hloc
      obtain ⟨post, hp⟩ := hfit
      obtain ⟨p, l, s', hc, hcut, hend, hl, hpl⟩ := clpF_leaf (enc_leaf_bound hp h.hx) hp
      rcases h.sd with hsd | ⟨hsd, hall⟩
      · have C := sp134t (w := w) (mean := mean) (mg := mg) (mb := mb) r h.ap i hi hlt hix h.hx hsd hc (by omega) hel
        intro dp un gd base outer g s R S hg hsz ho hpp hd1 hu1 hret hexc
        refine C dp un gd base outer g s R S hg hsz ho hpp hd1 hu1 (fun v g' own' h' tk hT hgh hown hr => ?_) hexc
        obtain ⟨ta, ti, ep, rfl, rfl⟩ := hr
        refine hret _ g' _ h' tk hT hgh hown ⟨_, [], (List.append_nil _).symm, rfl, ?_, ⟨_, _, _, _, rfl⟩, fun t e => ?_, Fresh.nil, by simpa using ads_nodup h.ap⟩
        · rw [hend]; exact hloc _ _ _
        · rw [ht] at e; cases e
          rw [hcut]
          exact .inl ⟨hsd, .inl ⟨b, ta, rfl, rfl⟩⟩
      · obtain ⟨n, hn, hn8⟩ := hall (.leaf b) (List.mem_of_getElem? ht)
        injection hn with hn
        have hb8 : (cut r.X s' (s' + l)).length ≤ 8 := by rw [hcut, hn]; exact digs_len hn8
        have hz : (cutI (cut r.X s' (s' + l)) 0 1 == [0]) = false := by
          rw [hcut, hn]
          refine beq_false_of_ne fun q => ?_
          cases hd : digs n with
          | nil => rw [hd] at q; simp [cutI, cut] at q
          | cons c u =>
            rw [hd] at q
            have : c = 0 := by simpa [cutI, cut] using q
            exact digs_head n c u hd (by rw [this]; rfl)
        have C := sp134d (w := w) (mean := mean) (mg := mg) (mb := mb) r h.ap i hi hlt hix h.hx hsd hc (by omega) hel hb8 hz
        intro dp un gd base outer g s R S hg hsz ho hpp hd1 hu1 hret hexc
        refine C dp un gd base outer g s R S hg hsz ho hpp hd1 hu1 (fun v g' own' h' tk hT hgh hown hr => ?_) hexc
        obtain ⟨ta, ti, ep, rfl, rfl⟩ := hr
        refine hret _ g' _ h' tk hT hgh hown ⟨_, [], (List.append_nil _).symm, rfl, ?_, ⟨_, _, _, _, rfl⟩, fun t e => ?_, Fresh.nil, by simpa using ads_nodup h.ap⟩
        · rw [hend]; exact hloc _ _ _
        · rw [ht] at e; cases e
          refine .inr ⟨hsd, n, ta, by rw [hn], ?_⟩
          rw [hcut, hn, be_digs]
    | node cs rem =>
      rw [Fits] at hfit
      obtain ⟨⟨post, hp⟩, hle, hfl⟩ := hfit
      have hsd : r.sd = .none := by
        rcases h.sd with hsd | ⟨_, hall⟩
        · exact hsd
        · obtain ⟨n, hn, _⟩ := hall (.node cs rem) (List.mem_of_getElem? ht)
          cases hn
      have hb : lens cs + rem < 256 ^ 8 := by
        have : (256 : Nat) ^ 8 = 18446744073709551616 := by decide
        have := h.hx
        omega
      obtain ⟨p, hc⟩ := clpF_head hb hp
      have C := sp134f (w := w) (mean := mean) (mg := mg) (mb := mb) r h.ap i hi hlt hix h.hx hsd hc hel
      intro dp un gd base outer g s R S hg hsz ho hpp hd1 hu1 hret hexc
      refine C dp un gd base outer g s R S hg hsz ho hpp hd1 hu1 (fun v g' own' h' tk hT hgh hown hr => ?_) hexc
      obtain ⟨ti, ep, q, rfl, rfl, hap, hdis, qX, qst, qen, qix, qels, qln, qsd⟩ := hr
      have hcs : cs.length ≤ 100000 := by
        have := len_le_lens cs
        have := h.hx
        omega
      have hq : Loc { q with rem := rem } cs := ⟨⟨hap.a, hap.b, hap.c⟩, ⟨i + (headF 192 (lens cs + rem)).length, qix, by dsimp only; rw [qen, qels]; simp, by dsimp only; rw [qX, qels]; simpa using hfl⟩, by dsimp only; rw [qels]; simp, by dsimp only; rw [qX]; exact h.hx, hcs, .inl qln, .inl qsd⟩
      refine hret _ g' _ h' tk hT hgh hown ⟨{ r with ix := (i + (headF 192 (lens cs + rem)).length + (lens cs + rem) : Nat), ti := ti, els := r.els ++ [.ref q.x], ep := ep }, [({ q with rem := rem }, cs)], by rw [show objsOf w [(({ q with rem := rem } : LS), cs)] = q.objs w from by simp], rfl, ?_, ⟨_, _, _, _, rfl⟩, fun t e => ?_, ⟨?_, ?_, ?_, ?_⟩, ?_⟩
      · rw [Nat.add_assoc, ← PT.len]; exact hloc _ _ _
      · rw [ht] at e; cases e
        exact .inl ⟨hsd, .inr ⟨({ q with rem := rem }, cs), by simp, rfl, rfl, qsd⟩⟩
      · intro a ha; rw [List.mem_singleton.mp ha]; exact hq
      · intro a ha; rw [List.mem_singleton.mp ha]; exact qels
      · intro a ha; rw [List.mem_singleton.mp ha]; exact qsd
      · simpa using ads_nodup hap
      · have e1 : adsOf [(({ q with rem := rem } : LS), cs)] = ads q := by simp
        rw [e1, List.nodup_append]
        exact ⟨ads_nodup (r := r) h.ap, ads_nodup hap, fun a ha b hb => hdis a ha b hb⟩

/-- LazyList.next at the end -/
theorem spNe {w : World} {mean : ExcName → Option Value} {mg mb : Str → Option Value} (r : LS) (due : List PT) (h : Loc r due) (hj : r.els.length = due.length) (hz : r.rem = 0) :
    Spec w mean mg mb 134 4 ⟨[.ref r.x], []⟩ false (fun _ => True) (r.objs w) (fun _ _ => False)
      (fun cls c own' => ∃ tl, cls = .type "StopIteration" ∧ c = .none ∧ own' = ({ r with ln := .int (due.length : Nat) tl } : LS).objs w) := by
  obtain ⟨i, hi, he, hf0⟩ := h.at_
  have hel : r.els.length ≤ 100000 := Nat.le_trans h.j h.hd
  have e : r.ix = r.en := by
    rw [hi, he, hj, List.drop_length, hz]; simp [lens]
  have C := sp134e (w := w) (mean := mean) (mg := mg) (mb := mb) r h.ap e hel
  rw [hj] at C
  exact C

theorem Spec.mono {w : World} {mean : ExcName → Option Value} {mg mb : Str → Option Value} {f : Addr} {c c' : Nat} {args : Args} {tu : Bool} {Pre Pre' : Heap → Prop} {own : Led} {Ret Ret' : Value → Led → Prop} {Exc Exc' : Value → Value → Led → Prop}
    (C : Spec w mean mg mb f c args tu Pre own Ret Exc) (hc : c ≤ c') (hp : ∀ g, Pre' g → Pre g) (hr : ∀ v o, Ret v o → Ret' v o) (he : ∀ v c o, Exc v c o → Exc' v c o) : Spec w mean mg mb f c' args tu Pre' own Ret' Exc' :=
  fun dp un gd base outer g s R S hg hsz ho hpp hd1 hu1 hret hexc =>
    C dp un gd base outer g s R S hg hsz ho (hp _ hpp) (by omega) (by omega) (fun v g' own' h' tk hT hgh hown hr' => hret v g' own' h' tk hT hgh hown (hr _ _ hr')) (fun e cls c own' h' tk hR hU hE => hexc e cls c own' h' tk hR hU (he _ _ _ hE))
theorem Spec.turns {w : World} {mean : ExcName → Option Value} {mg mb : Str → Option Value} {f : Addr} {c : Nat} {args : Args} {Pre : Heap → Prop} {own : Led} {Ret : Value → Led → Prop} {Exc : Value → Value → Led → Prop}
    (C : Spec w mean mg mb f c args false Pre own Ret Exc) : Spec w mean mg mb f c args true Pre own Ret Exc := by
  intro dp un gd base outer g s R S hg hsz ho hpp hd1 hu1 hret hexc
  refine C dp un gd base outer g s R S hg hsz ho hpp hd1 hu1 (fun v g' own' h' tk hT hgh hown hr' => hret v g' own' h' tk ?_ hgh hown hr') hexc
  have : g' = g := by simpa using hT
  subst this
  simpa using KtsTurn.refl

/-- LazyList.next, both ways -/
theorem spNN {w : World} {mean : ExcName → Option Value} {mg mb : Str → Option Value} (r : LS) (due : List PT) (h : Loc r due) (hz : r.rem = 0 ∨ r.els.length < due.length) :
    Spec w mean mg mb 134 12 ⟨[.ref r.x], []⟩ false (fun _ => True) (r.objs w) (fun v own' => ∃ r' new, own' = r'.objs w ++ objsOf w new ∧ Step r r' due v new)
      (fun cls c own' => r.els.length = due.length ∧ ∃ tl, cls = .type "StopIteration" ∧ c = .none ∧ own' = ({ r with ln := .int (due.length : Nat) tl } : LS).objs w) := by
  by_cases hj : r.els.length < due.length
  · exact (spN r due h hj).mono (Nat.le_refl _) (fun _ h => h) (fun _ _ h => h) fun _ _ _ h => h.elim
  · have hj' : r.els.length = due.length := Nat.le_antisymm h.j (Nat.le_of_not_lt hj)
    exact (spNe r due h hj' (hz.resolve_right hj)).mono (by decide) (fun _ h => h) (fun _ _ h => h.elim) fun _ _ _ h => ⟨hj', h⟩

/-- what reading on makes -/
structure Reads1 (r r' : LS) (due : List PT) (new : List LG) : Prop where
  loc : Loc r' due
  ids : ∃ ix ti els ep, r' = r.to ix ti els ep
  els : ∃ e, r'.els = r.els ++ e ∧ ∀ k t v, e[k]? = some v → due[r.els.length + k]? = some t → ElOk new r.sd v t
  fresh : Fresh new
  nd : (ads r' ++ adsOf new).Nodup

theorem Reads1.refl {r : LS} {due : List PT} (h : Loc r due) : Reads1 r r due [] :=
  ⟨h, ⟨r.ix, r.ti, r.els, r.ep, rfl⟩, ⟨[], (List.append_nil _).symm, fun _ _ _ e => by simp at e⟩, Fresh.nil, by simpa using ads_nodup h.ap⟩

theorem adsOf_append (a b : List LG) : adsOf (a ++ b) = adsOf a ++ adsOf b := by simp [adsOf]
theorem objsOf_append (w : World) (a b : List LG) : objsOf w (a ++ b) = objsOf w a ++ objsOf w b := by simp [objsOf]
theorem mem_objs_of_ads {w : World} {r : LS} {a : Addr} (h : a ∈ ads r) : ∃ o, (a, o) ∈ r.objs w := by
  simp only [ads, List.mem_cons, List.not_mem_nil, or_false] at h
  rcases h with rfl | rfl | rfl
  · exact ⟨_, .head _⟩
  · exact ⟨_, .tail _ (.head _)⟩
  · exact ⟨_, .tail _ (.tail _ (.head _))⟩
theorem mem_objsOf_of_ads {w : World} {st : List LG} {a : Addr} (h : a ∈ adsOf st) : ∃ o, (a, o) ∈ objsOf w st := by
  obtain ⟨p, hp, ha⟩ := List.mem_flatMap.mp h
  obtain ⟨o, ho⟩ := mem_objs_of_ads (w := w) ha
  exact ⟨o, List.mem_flatMap.mpr ⟨p, hp, ho⟩⟩

theorem Reads1.step {w : World} {r r' r'' : LS} {due : List PT} {new new2 : List LG} {v : Value} (h : Reads1 r r' due new) (k : Step r' r'' due v new2)
    (hdis : ∀ p ∈ objsOf w new, ∀ q ∈ r''.objs w ++ objsOf w new2, p.1 ≠ q.1) : Reads1 r r'' due (new ++ new2) := by
  obtain ⟨ix, ti, els, ep, e⟩ := h.ids
  obtain ⟨ix', ti', els', ep', e'⟩ := k.ids
  obtain ⟨ex, he1, he2⟩ := h.els
  have hsd : r'.sd = r.sd := by rw [e]
  refine ⟨k.loc, ⟨ix', ti', els', ep', by rw [e', e]⟩, ⟨ex ++ [v], by rw [k.els, he1, List.append_assoc], fun i t u hi ht => ?_⟩, ⟨?_, ?_, ?_, ?_⟩, ?_⟩
  · by_cases hl : i < ex.length
    · rw [List.getElem?_append_left hl] at hi
      exact (he2 i t u hi ht).mono fun p hp => ⟨p, List.mem_append_left _ hp, rfl, rfl, rfl, rfl⟩
    · have hi' : i = ex.length := by
        have := (List.getElem?_eq_some_iff.mp hi).1
        simp at this; omega
      subst hi'
      simp at hi
      subst hi
      have := k.el t (by rw [he1, List.length_append]; exact ht)
      rw [hsd] at this
      exact this.mono fun p hp => ⟨p, List.mem_append_right _ hp, rfl, rfl, rfl, rfl⟩
  · intro p hp
    rcases List.mem_append.mp hp with hp | hp
    · exact h.fresh.loc p hp
    · exact k.fresh.loc p hp
  · intro p hp
    rcases List.mem_append.mp hp with hp | hp
    · exact h.fresh.els p hp
    · exact k.fresh.els p hp
  · intro p hp
    rcases List.mem_append.mp hp with hp | hp
    · exact h.fresh.sd p hp
    · exact k.fresh.sd p hp
  · rw [adsOf_append, List.nodup_append]
    refine ⟨h.fresh.nd, k.fresh.nd, fun a ha b hb => ?_⟩
    obtain ⟨o, ho⟩ := mem_objsOf_of_ads (w := w) ha
    obtain ⟨u, hu⟩ := mem_objsOf_of_ads (w := w) hb
    exact hdis _ ho _ (List.mem_append_right _ hu)
  · rw [adsOf_append]
    have hk := k.nd
    rw [List.nodup_append] at hk ⊢
    refine ⟨hk.1, ?_, fun a ha b hb => ?_⟩
    · rw [List.nodup_append]
      refine ⟨h.fresh.nd, k.fresh.nd, fun a ha b hb => ?_⟩
      obtain ⟨o, ho⟩ := mem_objsOf_of_ads (w := w) ha
      obtain ⟨u, hu⟩ := mem_objsOf_of_ads (w := w) hb
      exact hdis _ ho _ (List.mem_append_right _ hu)
    · rcases List.mem_append.mp hb with hb | hb
      · obtain ⟨o, ho⟩ := mem_objs_of_ads (w := w) ha
        obtain ⟨u, hu⟩ := mem_objsOf_of_ads (w := w) hb
        exact (hdis _ hu _ (List.mem_append_left _ ho)).symm
      · exact hk.2.2 a ha b hb

section
variable {prog : Program} {w : World} {A : Around} {E : Value → Shared → Prop} {Q : Flow → Shared → Prop} {s : Shared} {env : Env} {h₀ : Heap} {L : Addr}

/-- a turn's end -/
noncomputable def WStep (w : World) (h₀ : Heap) (L : Addr) (m : Str → Option Value) (r : LS) (due : List PT) (els : List Value) (s : Shared) (f : Flow) (s₃ : Shared) : Prop :=
  f = .next ∧ ∃ h' tk r'' new'', s₃ = { s with heap := h', toks := tk } ∧ Fr h₀ L h' m ∧ News h₀ L h' (r''.objs w ++ objsOf w new'') ∧ Reads1 r r'' due new'' ∧ els.length < r''.els.length
theorem WStep.intro {m : Str → Option Value} {r r'' : LS} {due : List PT} {els : List Value} {new'' : List LG} {h' : Heap} {tk : Nat} (F : Fr h₀ L h' m) (N : News h₀ L h' (r''.objs w ++ objsOf w new'')) (hR : Reads1 r r'' due new'') (hl : els.length < r''.els.length) :
    WStep w h₀ L m r due els s .next { s with heap := h', toks := tk } := ⟨rfl, h', tk, r'', new'', rfl, F, N, hR, hl⟩

/-- «while ..: self.next()» -/
theorem while_get {test : Expr} {body : List Stmt} {pos : Pos} {m : Str → Option Value} {r : LS} {due : List PT} (h : Loc r due)
    (F : Fr h₀ L s.heap m) (N : News h₀ L s.heap (r.objs w))
    (turn : ∀ ix ti els ep new h₁ tk₁, Fr h₀ L h₁ m → News h₀ L h₁ ((r.to ix ti els ep).objs w ++ objsOf w new) → Reads1 r (r.to ix ti els ep) due new →
      wpAny (model prog w) A (isTrue test env (eval test env)) (fun b s₂ =>
        if b = true then wpAny (model prog w) A (execs body env) (WStep w h₀ L m r due els s) E s₂
        else Q .next s₂) E { s with heap := h₁, toks := tk₁ })
    (hE : PassesOwn (model prog w) A env E) :
    wpAny (model prog w) A (exec (.While test body [] pos) env) Q E s := by
  refine While_inv (n₀ := due.length - r.els.length) (fun n m₁ news => m₁ = m ∧ ∃ r' new, news = r'.objs w ++ objsOf w new ∧ Reads1 r r' due new ∧ n = due.length - r'.els.length) F N ⟨rfl, r, [], (List.append_nil _).symm, Reads1.refl h, rfl⟩ ?_ hE
  rintro n m₁ news₁ h₁ tk₁ F₁ N₁ ⟨rfl, r', new, rfl, hR, rfl⟩
  obtain ⟨ix, ti, els, ep, rfl⟩ := hR.ids
  refine wpAny_mono (turn ix ti els ep new h₁ tk₁ F₁ N₁ hR) (fun b s₂ h₂ => ?_) fun _ _ h => h
  cases b with
  | false => simpa using h₂
  | true =>
    simp only [if_true] at h₂ ⊢
    refine wpAny_mono h₂ (fun f s₃ h₃ => ?_) fun _ _ h => h
    obtain ⟨rfl, h', tk, r'', new'', rfl, F₂, N₂, hR₂, hlt⟩ := h₃
    refine .intro F₂ N₂ ?_ ⟨rfl, r'', new'', rfl, hR₂, rfl⟩
    have := hR₂.loc.j
    show due.length - r''.els.length < due.length - els.length
    omega
end


end T_M8
section T_M9
open PySem PySem.W PyProof.Rows PySem.Spec PySem.Calls
set_option maxRecDepth 100000
set_option maxHeartbeats 1000000




section
variable {M : Model} {A : Around} {E : Value → Shared → Prop} {s' : Shared} {base g g₂ h : Heap} {outer : List Env} {L a e : Addr} {m : Str → Option Value} {name : Str} {scope : Scope} {cd cls a0 c : Value} {Q : Unit → Shared → Prop} {news : List (Addr × Obj)}
theorem leave0Y {oe : Obj} {vs : Array Value} (K : Below A base outer g) (F : Fr g L h m) (N : News g L h news) (hkeep : ∀ b o, h.get? b = some o → s'.heap.get? b = some o) (hnew : h.get? e = none)
    (he : s'.heap.get? e = some oe) (hc : oe.cls = cls) (hd : oe.data = .fields vs) (h0 : vs[0]? = some a0) (h1 : vs[1]? = some .none) (h2 : vs[2]? = some c)
    (hQ : ∀ h', RaisedSX base g outer e cls c news h' → g.UpToSlots h' → Q () { s' with heap := h' }) (hk : scope.kind = .function) :
    wpAny M (A.deeper (envOf name scope L a cd)) (leaving (envOf name scope L a cd) (.ref e)) Q E s' :=
  leave0X K F N (fun b o q _ _ => hkeep b o q) hnew he hc hd h0 h1 h2 hQ hk
end
section
variable {w : World} {mean : ExcName → Option Value} {mg mb : Str → Option Value} {base h₀ : Heap} {outer : List Env} {s : Shared} {dp un : Nat} {gd : Option (List Code)} {Q E : Value → Shared → Prop}
variable {cn : Str} {cs : Scope} {L a : Addr} {ccd : Value} {m : Str → Option Value} {A : Around}

/-- «self.next()» within a loop -/
theorem next_call {r : LS} {ix : Int} {ti : Tok} {els : List Value} {ep : Nat} {due : List PT} {new : List LG} (hR : Reads1 r (r.to ix ti els ep) due new)
    (S : Site w mean mg mb base outer h₀) (F : Fr h₀ L s.heap m) (N : News h₀ L s.heap ((r.to ix ti els ep).objs w ++ objsOf w new))
    (hz : r.rem = 0 ∨ els.length < due.length) (hck : cs.kind = .function) (hA : A = top dp un gd (envOf cn cs L a ccd :: outer)) (hd : dp + 12 < recursionLimit) (hu : un + 8 * 12 < cLine)
    (ret : ∀ v r'' new'' h' tk, Fr h₀ L h' m → News h₀ L h' (r''.objs w ++ objsOf w new'') → Reads1 r r'' due new'' → els.length < r''.els.length → Q v { s with heap := h', toks := tk })
    (exc : els.length = due.length → (ix == r.en) = true → ∀ e G h' tk tl, RaisedSX base G (envOf cn cs L a ccd :: outer) e (.type "StopIteration") .none (({ r.to ix ti els ep with ln := .int (due.length : Nat) tl } : LS).objs w ++ objsOf w new) h' → Fr h₀ L G m → G.UpToSlots h' →
      E (.ref e) { s with heap := h', toks := tk }) :
    wpAny (model PG w) A (call (.ref 134) [.ref r.x]) Q E s := by
  have hnd := hR.nd
  refine callF (spNN (r.to ix ti els ep) due hR.loc hz) S F (rest := objsOf w new) (fun p hp => N p (List.mem_append_right _ hp)) (fun p hp => N p (List.mem_append_left _ hp)) (fun p hp q hq e => ?_) hck hA (fun _ _ _ => trivial) hd hu ?_ ?_
  · obtain ⟨p0, hp0, hp1⟩ := List.mem_flatMap.mp hp
    rw [List.nodup_append] at hnd
    have h1 : q.1 ∈ ads (r.to ix ti els ep) := by
      rcases List.mem_cons.mp hq with rfl | hq
      · simp
      rcases List.mem_cons.mp hq with rfl | hq
      · simp
      · rw [List.mem_singleton.mp hq]; simp
    have h2 : p.1 ∈ adsOf new := by
      refine List.mem_flatMap.mpr ⟨p0, hp0, ?_⟩
      rcases List.mem_cons.mp hp1 with rfl | hp1
      · simp
      rcases List.mem_cons.mp hp1 with rfl | hp1
      · simp
      · rw [List.mem_singleton.mp hp1]; simp
    exact hnd.2.2 _ h1 _ h2 e.symm
  · rintro v own' h' tk F' N' hdis ⟨r'', new2, rfl, hs⟩
    refine ret v r'' (new ++ new2) h' tk F' ?_ (hR.step hs hdis) (by rw [hs.els]; simp)
    intro p hp
    refine N' p ?_
    rw [objsOf_append] at hp
    rcases List.mem_append.mp hp with hp | hp
    · exact List.mem_append_right _ (List.mem_append_left _ hp)
    rcases List.mem_append.mp hp with hp | hp
    · exact List.mem_append_left _ hp
    · exact List.mem_append_right _ (List.mem_append_right _ hp)
  · rintro e cls c G own' h' tk hRa FG hU ⟨hlen, tl, rfl, rfl, rfl⟩
    have hie : (ix == r.en) = true := by
      obtain ⟨i, hi, he, _⟩ := hR.loc.at_
      have hlen' : els.length = due.length := hlen
      have hz' : r.rem = 0 := by omega
      dsimp only at hi he
      rw [hlen', List.drop_length, hz'] at he
      rw [hi, he]; simp [lens]
    refine exc hlen hie e G h' tk tl ?_ FG hU
    obtain ⟨B, a0, hB, hBG, hl, hfl⟩ := hRa
    exact ⟨B, a0, hB, hBG, fun q hq => hl q (List.mem_append.mpr (List.mem_append.mp hq).symm), hfl⟩
end

section
variable {prog : Program} {w : World} {A : Around} {E : Value → Shared → Prop} {s : Shared} {h₀ : Heap} {L : Addr} {news : Led}
/-- an item of a list of the ledger -/
theorem item_get {value slice : PySem.Expr} {l : Addr} {els : List Value} {ep : Nat} {k : Int} {u : Tok} {Q : Value → Shared → Prop} (N : News h₀ L s.heap news) (hm : (l, W.listOf els.toArray ep) ∈ news)
    (h0 : 0 ≤ k) (h1 : k < els.length) (hz : els.length ≤ 1000000) (h : ∀ v, els[k.toNat]? = some v → Q v s)
    (hs : subscripted slice false (.ref l) (.int k u) = operate [.ref l, .int k u] (getItem (.ref l) (.int k u))) (hg : ∀ r, letTemporaryGo value (.ref l) r = pure ()) :
    wpAny (model prog w) A (subscriptTail value slice (.ref l) (.int k u)) Q E s := by
  have hk : k.toNat < els.length := by omega
  refine PyProof.Rows.item_list (News.isList N hm) h0 (by omega) (x := els[k.toNat]) (by simp [hk]) (h _ (by simp [hk])) hs hg
end
/-- what a look at a lazy list makes of it -/
structure Got (r r' : LS) (due : List PT) (new : List LG) : Prop where
  loc : Loc r' due
  ids : r'.x = r.x ∧ r'.sd = r.sd ∧ r'.rem = r.rem
  els : ∃ e, r'.els = r.els ++ e ∧ ∀ k t v, e[k]? = some v → due[r.els.length + k]? = some t → ElOk new r.sd v t
  fresh : Fresh new
  nd : (ads r' ++ adsOf new).Nodup
theorem Reads1.got {r r' : LS} {due : List PT} {new : List LG} (h : Reads1 r r' due new) : Got r r' due new := by
  obtain ⟨ix, ti, els, ep, e⟩ := h.ids
  exact ⟨h.loc, ⟨by rw [e], by rw [e], by rw [e]⟩, h.els, h.fresh, h.nd⟩
theorem Reads1.gotE {r r' : LS} {due : List PT} {new : List LG} (h : Reads1 r r' due new) {tl : Tok} (hl : r'.els.length = due.length) : Got r { r' with ln := .int (due.length : Nat) tl } due new := by
  obtain ⟨ix, ti, els, ep, e⟩ := h.ids
  have L := h.loc
  exact ⟨⟨⟨L.ap.a, L.ap.b, L.ap.c⟩, L.at_, L.j, L.hx, L.hd, .inr ⟨tl, rfl, hl⟩, L.sd⟩, ⟨by rw [e], by rw [e], by rw [e]⟩, h.els, h.fresh, h.nd⟩
theorem Got.refl {r : LS} {due : List PT} (h : Loc r due) : Got r r due [] := (Reads1.refl h).got

theorem sp141 {w : World} {mean : ExcName → Option Value} {mg mb : Str → Option Value} (r : LS) (due : List PT) (h : Loc r due) (i : Nat) (ti : Tok) (hi : i ≤ 100000) (hz : r.rem = 0 ∨ i < due.length) :
    Spec w mean mg mb 141 16 ⟨[.ref r.x, .int i ti], []⟩ true (fun _ => True) (r.objs w)
      (fun v own' => i < due.length ∧ ∃ r' new, own' = r'.objs w ++ objsOf w new ∧ Got r r' due new ∧ r'.els[i]? = some v)
      (fun cls _ own' => due.length ≤ i ∧ cls = .type "IndexError" ∧ ∃ r' new, own' = r'.objs w ++ objsOf w new ∧ Got r r' due new) := by
  intro dp un gd base outer g s R S hg hsz ho hpp hd1 hu1 hret hexc
  have kdX := S.dicts
  have XB := S.inB
  have TB := S.topB
  first | refine enterP S hg hsz ho (by k_is) (by k_is) ?_ (BindsTo.of_eq rfl) rfl ?_ rfl rfl rfl (by decide) | refine enter S hg hsz ho (by k_is) (by k_is) ?_ (BindsTo.of_eq rfl) (locs rfl) ?_ rfl rfl rfl (by decide)
  · exact room_0 hd1
  intro L' h₁ tk₁ hst hL F N B XX T M₁ en₁ A₁
  (try dsimp only)
  k_fold
  repeat' (first | (k_unfold; (try dsimp only)) | (k_end; wrow_close) | ((with_reducible show wpAny _ _ (exec (Stmt.While _ _ _ _) _) _ _ _); with_reducible (k_here; k_dflt (refine' while_get ?zzh ?zzF ?zzN ?_ ?zzE; (case zzF => k_asm); (case zzN => k_asm); (case zzh => assumption); (case zzE => first | passes_own | with_unfolding_all passes_own)); intro ix' ti' els' ep' new' h' tk' F' N' hR'; (have hj' := Reads1.loc hR' |>.j); (have hd' := Reads1.loc hR' |>.hd); (dsimp only at hj'); (dsimp only [LS.to, LS.objs, LS.dict, List.cons_append, List.nil_append] at N'))) | ((with_reducible show wpAny _ _ (binaryOp Operator.Add (Value.int _ _) (Value.int _ _)) _ _ _); with_reducible refine add_i ?_) | ((with_reducible show wpAny _ _ (exec (Stmt.Raise _ _ _) _) _ _ _); with_reducible (k_here; (with_reducible show wpAny _ (Around.mark _ (some (Value.ref _))) (exec (Stmt.Raise (some (Expr.Call (Expr.Name ("IndexError" : Str) _) (_ :: _) [] _)) none _) _) _ _ _); (with_reducible rename Fr _ _ _ _ => kF); k_dflt (refine' raise_marked (cls0 := "StopIteration") PySem.F.excCall_IndexError PySem.F.excRaise_IndexError ?zzhh ?zzhp ?_; (case zzhh => exact rfl); (case zzhp => exact rfl); (refine' name_B kF ?zzk1 ?zzk2 ?zzk3 ?zzk4 ?zzk5 ?_; (case zzk1 => k_asm); (case zzk2 => k_asm); (case zzk3 => k_is); (case zzk4 => exact PyProof.Rows.Boot.«IndexError»); (case zzk5 => decide)); refine ⟨rfl, ?_⟩))) | ((with_reducible show wpAny _ _ (eval (Expr.Constant (Const.int _) _ _) _) _ _ _); with_reducible refine const_i ?_) | ((with_reducible show wpAny _ _ (call (Value.builtin _) _) _ _ _); with_reducible (k_here; (with_reducible show wpAny _ _ (call (Value.builtin "len") [Value.ref _]) _ _ _); k_dflt (refine' PyProof.Rows.len_list (News.isList ?zzkN ?zzkM) ?zzkz ?_; (case zzkN => k_asm); (case zzkM => k_mem); (case zzkz => first | omega | ((try simp only [List.size_toArray, List.length_append, List.length_cons, List.length_nil, Array.size_push]); omega)); k_whole); (try simp only [List.size_toArray]))) | ((with_reducible show wpAny _ _ (noteFrame _ _) _ _ _); with_reducible (k_here; (with_reducible show wpAny _ _ (noteFrame _ _) (fun _ s₂ => wpAny _ _ (setFlight _ none) (fun _ s₃ => wpAny _ _ (handleBy _ _ (ExceptHandler.ExceptHandler (some (Expr.Name ("StopIteration" : Str) _)) none _ _ :: _)) _ _ s₃) _ s₂) _ _); k_dflt (refine' caughtX (T' := "StopIteration") ?zzR ?zzF ?zzK ?zzU ?zzXB ?zzTB ?zzD ?zzex PyProof.Rows.Boot.«StopIteration» ?zzhn exc_StopIteration notTup_StopIteration stop_sub ?_ ?zzhE; (case zzR => assumption); (case zzF => assumption); (case zzK => assumption); (case zzU => assumption); (case zzXB => assumption); (case zzTB => assumption); (case zzD => assumption); (case zzex => k_is); (case zzhn => decide); (case zzhE => first | passes_own | with_unfolding_all passes_own); k_whole); intro h' g' oe' vs' T' F' N' K' X' P' D' hc1' hc2' hc3')) | ((with_reducible show wpAny _ _ (subscriptTail _ _ _ _) _ _ _); with_reducible (k_here; (with_reducible show wpAny _ _ (subscriptTail _ _ (Value.ref _) (Value.int _ _)) _ _ _); k_dflt (refine' item_get ?zzN ?zzm ?zza ?zzb ?zzc ?_ (by with_unfolding_all rfl) (by intro _; with_unfolding_all rfl); (case zzN => k_asm); (case zzm => k_mem); (case zza => omega); (case zzb => first | omega | (simp only [List.length_append, List.length_cons, List.length_nil]; omega)); (case zzc => first | omega | (simp only [List.length_append, List.length_cons, List.length_nil]; omega))); intro v' hv')) | ((with_reducible show wpAny _ _ (leaving _ _) _ _ _); with_reducible (k_here; (with_reducible rename KtsDicts _ _ => kdX); k_dflt (refine' leave0Y ?zzk1 ?zzk2 ?zzk3 ?zzkk ?zzkn ?zzke ?zzkc ?zzkd ?zzk0 ?zzk4 ?zzk5 ?_ ?zzk6; (case zzk2 => k_asm); (case zzk1 => assumption); (case zzk3 => k_asm); (case zzke => assumption); (case zzkk => assumption); (case zzkn => assumption); (case zzkc => assumption); (case zzkd => assumption); (case zzk0 => assumption); (case zzk4 => assumption); (case zzk5 => assumption); (case zzk6 => exact rfl); k_whole; intro h' S' U'; (try dsimp only at S' U' ⊢)))) | ((with_reducible show wpAny _ _ (execs (_ :: _) _) _ _ _); with_reducible (refine wpAny_execs_cons ?_; (try k_fold))) | ((with_reducible show wpAny _ _ (joinParts _ _) _ _ _); with_reducible (k_here; (with_reducible show wpAny _ _ (joinParts (Str.empty ++ Str.ofString "Index " ++ Str.ofString (toString _) ++ Str.ofString " out of range") (evalEach [] _)) _ _ _); (refine joinParts_nilE (joinParts_nil ?_ (index_text (by omega) (by omega)))))) | ((with_reducible show wpAny _ _ (storeName _ _ _) _ _ _); with_reducible (k_here; k_dflt (refine' storeP ?zzF ?zzN ?_ ?zza ?zzb; (case zzF => k_asm); (case zzN => k_asm); (case zza => rfl); (case zzb => rfl); k_whole; intro h' tk' F' N'; (try k_sweep)))) | ((with_reducible show RaiseEnd _ _ _ _ _ _); with_reducible (k_here; k_dflt (refine' RaiseEnd.intro ?zzhl ?zzN ?zzm ?zzc1 ?zzc2 ?zzc3 ?_; (case zzhl => exact Nat.le_of_ble_eq_true rfl); (case zzN => k_asm); (case zzm => k_mem); (case zzc1 => assumption); (case zzc2 => assumption); (case zzc3 => assumption)); intro h' e' oe' ws' t' q1' q2' q3' q4' q5' q6' q7' q8')) | ((with_reducible show wpAny _ _ (call (Value.ref _) _) _ _ _); with_reducible (k_here; (with_reducible show wpAny _ _ (call (Value.ref 134) _) _ _ _); k_dflt (refine' next_call ?zzhR ?zzS ?zzF ?zzN ?zzhz ?zzkK ?zzkA ?zzhd ?zzhu ?_ ?_; (case zzhR => assumption); (case zzhz => first | omega | (dsimp only; omega) | exact .inl (by assumption) | exact .inl (by (dsimp only); assumption)); (case zzkA => exact rfl); (case zzS => assumption); (case zzF => k_asm); (case zzN => k_asm); (case zzkK => exact rfl); (case zzhd => first | (refine' room_d ?zzza ?zzzb; (case zzza => assumption); (case zzzb => first | decide | (refine Nat.succ_le_succ (Nat.le_trans ?_ (by assumption)); decide))) | (dsimp only [top]; omega)); (case zzhu => first | (refine' room_u ?zzza ?zzzb; (case zzza => assumption); (case zzzb => first | decide | (refine Nat.succ_le_succ (Nat.le_trans ?_ (by assumption)); decide))) | (dsimp only [top]; omega))); (intro v' r' n' h' tk' F' N' hR' hl'); rotate_left; (intro hn' hi' e' G' h' tk' tl' hX' FG' hU'; (try dsimp only [LS.to, LS.objs, LS.dict, List.cons_append, List.nil_append] at hX')); rotate_left)) | ((with_reducible show WStep _ _ _ _ _ _ _ _ _ _); with_reducible (exact WStep.intro (by assumption) (by assumption) (by assumption) (by assumption))) | walk1 | (dsimp only; first | ((with_reducible show wpAny _ _ (exec (Stmt.While _ _ _ _) _) _ _ _); with_reducible (k_here; k_dflt (refine' while_get ?zzh ?zzF ?zzN ?_ ?zzE; (case zzF => k_asm); (case zzN => k_asm); (case zzh => assumption); (case zzE => first | passes_own | with_unfolding_all passes_own)); intro ix' ti' els' ep' new' h' tk' F' N' hR'; (have hj' := Reads1.loc hR' |>.j); (have hd' := Reads1.loc hR' |>.hd); (dsimp only at hj'); (dsimp only [LS.to, LS.objs, LS.dict, List.cons_append, List.nil_append] at N'))) | ((with_reducible show wpAny _ _ (binaryOp Operator.Add (Value.int _ _) (Value.int _ _)) _ _ _); with_reducible refine add_i ?_) | ((with_reducible show wpAny _ _ (exec (Stmt.Raise _ _ _) _) _ _ _); with_reducible (k_here; (with_reducible show wpAny _ (Around.mark _ (some (Value.ref _))) (exec (Stmt.Raise (some (Expr.Call (Expr.Name ("IndexError" : Str) _) (_ :: _) [] _)) none _) _) _ _ _); (with_reducible rename Fr _ _ _ _ => kF); k_dflt (refine' raise_marked (cls0 := "StopIteration") PySem.F.excCall_IndexError PySem.F.excRaise_IndexError ?zzhh ?zzhp ?_; (case zzhh => exact rfl); (case zzhp => exact rfl); (refine' name_B kF ?zzk1 ?zzk2 ?zzk3 ?zzk4 ?zzk5 ?_; (case zzk1 => k_asm); (case zzk2 => k_asm); (case zzk3 => k_is); (case zzk4 => exact PyProof.Rows.Boot.«IndexError»); (case zzk5 => decide)); refine ⟨rfl, ?_⟩))) | ((with_reducible show wpAny _ _ (eval (Expr.Constant (Const.int _) _ _) _) _ _ _); with_reducible refine const_i ?_) | ((with_reducible show wpAny _ _ (call (Value.builtin _) _) _ _ _); with_reducible (k_here; (with_reducible show wpAny _ _ (call (Value.builtin "len") [Value.ref _]) _ _ _); k_dflt (refine' PyProof.Rows.len_list (News.isList ?zzkN ?zzkM) ?zzkz ?_; (case zzkN => k_asm); (case zzkM => k_mem); (case zzkz => first | omega | ((try simp only [List.size_toArray, List.length_append, List.length_cons, List.length_nil, Array.size_push]); omega)); k_whole); (try simp only [List.size_toArray]))) | ((with_reducible show wpAny _ _ (noteFrame _ _) _ _ _); with_reducible (k_here; (with_reducible show wpAny _ _ (noteFrame _ _) (fun _ s₂ => wpAny _ _ (setFlight _ none) (fun _ s₃ => wpAny _ _ (handleBy _ _ (ExceptHandler.ExceptHandler (some (Expr.Name ("StopIteration" : Str) _)) none _ _ :: _)) _ _ s₃) _ s₂) _ _); k_dflt (refine' caughtX (T' := "StopIteration") ?zzR ?zzF ?zzK ?zzU ?zzXB ?zzTB ?zzD ?zzex PyProof.Rows.Boot.«StopIteration» ?zzhn exc_StopIteration notTup_StopIteration stop_sub ?_ ?zzhE; (case zzR => assumption); (case zzF => assumption); (case zzK => assumption); (case zzU => assumption); (case zzXB => assumption); (case zzTB => assumption); (case zzD => assumption); (case zzex => k_is); (case zzhn => decide); (case zzhE => first | passes_own | with_unfolding_all passes_own); k_whole); intro h' g' oe' vs' T' F' N' K' X' P' D' hc1' hc2' hc3')) | ((with_reducible show wpAny _ _ (subscriptTail _ _ _ _) _ _ _); with_reducible (k_here; (with_reducible show wpAny _ _ (subscriptTail _ _ (Value.ref _) (Value.int _ _)) _ _ _); k_dflt (refine' item_get ?zzN ?zzm ?zza ?zzb ?zzc ?_ (by with_unfolding_all rfl) (by intro _; with_unfolding_all rfl); (case zzN => k_asm); (case zzm => k_mem); (case zza => omega); (case zzb => first | omega | (simp only [List.length_append, List.length_cons, List.length_nil]; omega)); (case zzc => first | omega | (simp only [List.length_append, List.length_cons, List.length_nil]; omega))); intro v' hv')) | ((with_reducible show wpAny _ _ (leaving _ _) _ _ _); with_reducible (k_here; (with_reducible rename KtsDicts _ _ => kdX); k_dflt (refine' leave0Y ?zzk1 ?zzk2 ?zzk3 ?zzkk ?zzkn ?zzke ?zzkc ?zzkd ?zzk0 ?zzk4 ?zzk5 ?_ ?zzk6; (case zzk2 => k_asm); (case zzk1 => assumption); (case zzk3 => k_asm); (case zzke => assumption); (case zzkk => assumption); (case zzkn => assumption); (case zzkc => assumption); (case zzkd => assumption); (case zzk0 => assumption); (case zzk4 => assumption); (case zzk5 => assumption); (case zzk6 => exact rfl); k_whole; intro h' S' U'; (try dsimp only at S' U' ⊢)))) | ((with_reducible show wpAny _ _ (execs (_ :: _) _) _ _ _); with_reducible (refine wpAny_execs_cons ?_; (try k_fold))) | ((with_reducible show wpAny _ _ (joinParts _ _) _ _ _); with_reducible (k_here; (with_reducible show wpAny _ _ (joinParts (Str.empty ++ Str.ofString "Index " ++ Str.ofString (toString _) ++ Str.ofString " out of range") (evalEach [] _)) _ _ _); (refine joinParts_nilE (joinParts_nil ?_ (index_text (by omega) (by omega)))))) | ((with_reducible show wpAny _ _ (storeName _ _ _) _ _ _); with_reducible (k_here; k_dflt (refine' storeP ?zzF ?zzN ?_ ?zza ?zzb; (case zzF => k_asm); (case zzN => k_asm); (case zza => rfl); (case zzb => rfl); k_whole; intro h' tk' F' N'; (try k_sweep)))) | ((with_reducible show RaiseEnd _ _ _ _ _ _); with_reducible (k_here; k_dflt (refine' RaiseEnd.intro ?zzhl ?zzN ?zzm ?zzc1 ?zzc2 ?zzc3 ?_; (case zzhl => exact Nat.le_of_ble_eq_true rfl); (case zzN => k_asm); (case zzm => k_mem); (case zzc1 => assumption); (case zzc2 => assumption); (case zzc3 => assumption)); intro h' e' oe' ws' t' q1' q2' q3' q4' q5' q6' q7' q8')) | ((with_reducible show wpAny _ _ (call (Value.ref _) _) _ _ _); with_reducible (k_here; (with_reducible show wpAny _ _ (call (Value.ref 134) _) _ _ _); k_dflt (refine' next_call ?zzhR ?zzS ?zzF ?zzN ?zzhz ?zzkK ?zzkA ?zzhd ?zzhu ?_ ?_; (case zzhR => assumption); (case zzhz => first | omega | (dsimp only; omega) | exact .inl (by assumption) | exact .inl (by (dsimp only); assumption)); (case zzkA => exact rfl); (case zzS => assumption); (case zzF => k_asm); (case zzN => k_asm); (case zzkK => exact rfl); (case zzhd => first | (refine' room_d ?zzza ?zzzb; (case zzza => assumption); (case zzzb => first | decide | (refine Nat.succ_le_succ (Nat.le_trans ?_ (by assumption)); decide))) | (dsimp only [top]; omega)); (case zzhu => first | (refine' room_u ?zzza ?zzzb; (case zzza => assumption); (case zzzb => first | decide | (refine Nat.succ_le_succ (Nat.le_trans ?_ (by assumption)); decide))) | (dsimp only [top]; omega))); (intro v' r' n' h' tk' F' N' hR' hl'); rotate_left; (intro hn' hi' e' G' h' tk' tl' hX' FG' hU'; (try dsimp only [LS.to, LS.objs, LS.dict, List.cons_append, List.nil_append] at hX')); rotate_left)) | ((with_reducible show WStep _ _ _ _ _ _ _ _ _ _); with_reducible (exact WStep.intro (by assumption) (by assumption) (by assumption) (by assumption))) | walk1) | (leave1; (try dsimp only)) | fail "no step")
  all_goals (try k_data)
  · rename RaisedSX _ _ _ _ _ _ (_ :: _ :: _) _ => S9
    rename Heap.UpToSlots _ _ => U9
    rename KtsTurn _ _ _ => T9
    rename Reads1 _ _ _ _ => R9
    rename _ = due.length => l9
    refine hexc _ _ _ _ _ _ ((S9.sub fun q hq => List.mem_cons_of_mem _ hq).unturn T9) (upTo_unturn T9 U9) ⟨by omega, rfl, _, _, rfl, R9.gotE l9⟩
  · show R (.ok (.ret _)) _
    rename Fr _ _ _ _ => F9
    rename News _ _ _ _ => N9
    rename Reads1 _ _ _ _ => R9
    rename _[_]? = some _ => v9
    refine hret _ g _ _ _ (by simpa using KtsTurn.refl) F9.keep (News.owns N9) ⟨by omega, _, _, rfl, R9.got, v9⟩


end T_M9
section T_M10
open PySem PySem.W PyProof.Rows PySem.Spec PySem.Calls
set_option maxRecDepth 100000
set_option maxHeartbeats 1000000




theorem News.tail1 {g h : Heap} {L : Addr} {q : Addr × Obj} {news : Led} (N : News g L h (q :: news)) : News g L h news := fun p hp => N p (List.mem_cons_of_mem _ hp)
theorem Reads1.offdx {w : World} {r : LS} {ix : Int} {ti : Tok} {els : List Value} {ep : Nat} {due : List PT} {new : List LG} (h : Reads1 r (r.to ix ti els ep) due new) : ∀ p ∈ objsOf w new, p.1 ≠ r.dx := by
  intro p hp e
  have hnd := h.nd
  rw [List.nodup_append] at hnd
  obtain ⟨q, hq, hp⟩ := List.mem_flatMap.mp hp
  have h2 : p.1 ∈ adsOf new := by
    refine List.mem_flatMap.mpr ⟨q, hq, ?_⟩
    rcases List.mem_cons.mp hp with rfl | hp
    · simp
    rcases List.mem_cons.mp hp with rfl | hp
    · simp
    · rw [List.mem_singleton.mp hp]; simp
  exact hnd.2.2 r.dx (by simp) p.1 h2 e.symm
theorem offdx_of {w : World} {g h : Heap} {L : Addr} {r : LS} {ix : Int} {ti : Tok} {els : List Value} {ep : Nat} {due : List PT} {new : List LG} (_ : News g L h ((r.to ix ti els ep).objs w ++ objsOf w new)) (hR : Reads1 r (r.to ix ti els ep) due new) : ∀ p ∈ objsOf w new, p.1 ≠ r.dx := hR.offdx
local macro_rules | `(tactic| k_all) => `(tactic| assumption)
theorem sp148 {w : World} {mean : ExcName → Option Value} {mg mb : Str → Option Value} (r : LS) (due : List PT) (h : Loc r due) (hz : r.rem = 0) :
    Spec w mean mg mb 148 16 ⟨[.ref r.x], []⟩ true (fun _ => True) (r.objs w)
      (fun v own' => ∃ r' new tl, own' = r'.objs w ++ objsOf w new ∧ Got r r' due new ∧ v = .int (due.length : Nat) tl)
      (fun cls _ own' => False) := by
  have hj0 := h.j
  have hd0 := h.hd
  have hln : (r.ln = .none) ∨ (∃ tl, r.ln = .int 0 tl ∧ due.length = 0) ∨ (∃ tl, r.ln = .int (due.length : Nat) tl ∧ 0 < due.length) := by
    rcases h.ln with e | ⟨t, e, _⟩
    · exact .inl e
    · by_cases hz : due.length = 0
      · exact .inr (.inl ⟨t, by rw [e, hz]; rfl, hz⟩)
      · exact .inr (.inr ⟨t, e, by omega⟩)
  obtain ⟨a1, a2, a3⟩ := h.ap
  obtain ⟨x, dx, el, X, tX, st, ts, en, te, ix, ti, els, ep, ln, sd, k1, k2, k3, k4, k5, k6, k7, rem⟩ := r
  dsimp only at a1 a2 a3 hj0 hln hz
  intro dp un gd base outer g s R S hg hsz ho hpp hd1 hu1 hret hexc
  have kdX := S.dicts
  have XB := S.inB
  have TB := S.topB
  first | refine enterP S hg hsz ho (by k_is) (by k_is) ?_ (BindsTo.of_eq rfl) rfl ?_ rfl rfl rfl (by decide) | refine enter S hg hsz ho (by k_is) (by k_is) ?_ (BindsTo.of_eq rfl) (locs rfl) ?_ rfl rfl rfl (by decide)
  · exact room_0 hd1
  intro L' h₁ tk₁ hst hL F N B XX T M₁ en₁ A₁
  rcases hln with e | ⟨tl, e, hz2⟩ | ⟨tl, e, hz2⟩
  all_goals subst e
  all_goals (
    (try dsimp only)
    k_fold
    repeat' (first | (k_unfold; (try dsimp only)) | (k_end; wrow_close) | ((with_reducible show wpAny _ _ (call (Value.builtin _) _) _ _ _); with_reducible (k_here; (with_reducible show wpAny _ _ (call (Value.builtin "len") [Value.ref _]) _ _ _); k_dflt (refine' PyProof.Rows.len_list (News.isList ?zzkN ?zzkM) ?zzkz ?_; (case zzkN => k_asm); (case zzkM => k_mem); (case zzkz => first | omega | ((try simp only [List.size_toArray, List.length_append, List.length_cons, List.length_nil, Array.size_push]); omega)); k_whole); (try simp only [List.size_toArray]))) | ((with_reducible show wpAny _ _ (noteFrame _ _) _ _ _); with_reducible (k_here; (with_reducible show wpAny _ _ (noteFrame _ _) (fun _ s₂ => wpAny _ _ (setFlight _ none) (fun _ s₃ => wpAny _ _ (handleBy _ _ (ExceptHandler.ExceptHandler (some (Expr.Name ("StopIteration" : Str) _)) none _ _ :: _)) _ _ s₃) _ s₂) _ _); k_dflt (refine' caughtX (T' := "StopIteration") ?zzR ?zzF ?zzK ?zzU ?zzXB ?zzTB ?zzD ?zzex PyProof.Rows.Boot.«StopIteration» ?zzhn exc_StopIteration notTup_StopIteration stop_sub ?_ ?zzhE; (case zzR => assumption); (case zzF => assumption); (case zzK => assumption); (case zzU => assumption); (case zzXB => assumption); (case zzTB => assumption); (case zzD => assumption); (case zzex => k_is); (case zzhn => decide); (case zzhE => first | passes_own | with_unfolding_all passes_own); k_whole); intro h' g' oe' vs' T' F' N' K' X' P' D' hc1' hc2' hc3'; (replace N' := News.tail1 N'))) | ((with_reducible show wpAny _ _ (exec (Stmt.While _ _ _ _) _) _ _ _); with_reducible (k_here; k_dflt (refine' while_get ?zzh ?zzF ?zzN ?_ ?zzE; (case zzF => k_asm); (case zzN => k_asm); (case zzh => assumption); (case zzE => first | passes_own | with_unfolding_all passes_own)); intro ix' ti' els' ep' new' h' tk' F' N' hR'; (have hj' := Reads1.loc hR' |>.j); (have hd' := Reads1.loc hR' |>.hd); (have hq' := offdx_of N' hR'); (dsimp only at hq'); (dsimp only at hj'); (dsimp only [LS.to, LS.objs, LS.dict, List.cons_append, List.nil_append] at N'))) | ((with_reducible show wpAny _ _ (execs (_ :: _) _) _ _ _); with_reducible (refine wpAny_execs_cons ?_; (try k_fold))) | ((with_reducible show wpAny _ _ (call (Value.ref _) _) _ _ _); with_reducible (k_here; (with_reducible show wpAny _ _ (call (Value.ref 134) _) _ _ _); k_dflt (refine' next_call ?zzhR ?zzS ?zzF ?zzN ?zzhz ?zzkK ?zzkA ?zzhd ?zzhu ?_ ?_; (case zzhR => assumption); (case zzhz => first | omega | (dsimp only; omega) | exact .inl (by assumption) | exact .inl (by (dsimp only); assumption)); (case zzkA => exact rfl); (case zzS => assumption); (case zzF => k_asm); (case zzN => k_asm); (case zzkK => exact rfl); (case zzhd => first | (refine' room_d ?zzza ?zzzb; (case zzza => assumption); (case zzzb => first | decide | (refine Nat.succ_le_succ (Nat.le_trans ?_ (by assumption)); decide))) | (dsimp only [top]; omega)); (case zzhu => first | (refine' room_u ?zzza ?zzzb; (case zzza => assumption); (case zzzb => first | decide | (refine Nat.succ_le_succ (Nat.le_trans ?_ (by assumption)); decide))) | (dsimp only [top]; omega))); (intro v' r' n' h' tk' F' N' hR' hl'); rotate_left; (intro hn' hi' e' G' h' tk' tl' hX' FG' hU'; (try dsimp only [LS.to, LS.objs, LS.dict, List.cons_append, List.nil_append] at hX')); rotate_left)) | ((with_reducible show WStep _ _ _ _ _ _ _ _ _ _); with_reducible (exact WStep.intro (by assumption) (by assumption) (by assumption) (by assumption))) | walk1 | (dsimp only; first | ((with_reducible show wpAny _ _ (call (Value.builtin _) _) _ _ _); with_reducible (k_here; (with_reducible show wpAny _ _ (call (Value.builtin "len") [Value.ref _]) _ _ _); k_dflt (refine' PyProof.Rows.len_list (News.isList ?zzkN ?zzkM) ?zzkz ?_; (case zzkN => k_asm); (case zzkM => k_mem); (case zzkz => first | omega | ((try simp only [List.size_toArray, List.length_append, List.length_cons, List.length_nil, Array.size_push]); omega)); k_whole); (try simp only [List.size_toArray]))) | ((with_reducible show wpAny _ _ (noteFrame _ _) _ _ _); with_reducible (k_here; (with_reducible show wpAny _ _ (noteFrame _ _) (fun _ s₂ => wpAny _ _ (setFlight _ none) (fun _ s₃ => wpAny _ _ (handleBy _ _ (ExceptHandler.ExceptHandler (some (Expr.Name ("StopIteration" : Str) _)) none _ _ :: _)) _ _ s₃) _ s₂) _ _); k_dflt (refine' caughtX (T' := "StopIteration") ?zzR ?zzF ?zzK ?zzU ?zzXB ?zzTB ?zzD ?zzex PyProof.Rows.Boot.«StopIteration» ?zzhn exc_StopIteration notTup_StopIteration stop_sub ?_ ?zzhE; (case zzR => assumption); (case zzF => assumption); (case zzK => assumption); (case zzU => assumption); (case zzXB => assumption); (case zzTB => assumption); (case zzD => assumption); (case zzex => k_is); (case zzhn => decide); (case zzhE => first | passes_own | with_unfolding_all passes_own); k_whole); intro h' g' oe' vs' T' F' N' K' X' P' D' hc1' hc2' hc3'; (replace N' := News.tail1 N'))) | ((with_reducible show wpAny _ _ (exec (Stmt.While _ _ _ _) _) _ _ _); with_reducible (k_here; k_dflt (refine' while_get ?zzh ?zzF ?zzN ?_ ?zzE; (case zzF => k_asm); (case zzN => k_asm); (case zzh => assumption); (case zzE => first | passes_own | with_unfolding_all passes_own)); intro ix' ti' els' ep' new' h' tk' F' N' hR'; (have hj' := Reads1.loc hR' |>.j); (have hd' := Reads1.loc hR' |>.hd); (have hq' := offdx_of N' hR'); (dsimp only at hq'); (dsimp only at hj'); (dsimp only [LS.to, LS.objs, LS.dict, List.cons_append, List.nil_append] at N'))) | ((with_reducible show wpAny _ _ (execs (_ :: _) _) _ _ _); with_reducible (refine wpAny_execs_cons ?_; (try k_fold))) | ((with_reducible show wpAny _ _ (call (Value.ref _) _) _ _ _); with_reducible (k_here; (with_reducible show wpAny _ _ (call (Value.ref 134) _) _ _ _); k_dflt (refine' next_call ?zzhR ?zzS ?zzF ?zzN ?zzhz ?zzkK ?zzkA ?zzhd ?zzhu ?_ ?_; (case zzhR => assumption); (case zzhz => first | omega | (dsimp only; omega) | exact .inl (by assumption) | exact .inl (by (dsimp only); assumption)); (case zzkA => exact rfl); (case zzS => assumption); (case zzF => k_asm); (case zzN => k_asm); (case zzkK => exact rfl); (case zzhd => first | (refine' room_d ?zzza ?zzzb; (case zzza => assumption); (case zzzb => first | decide | (refine Nat.succ_le_succ (Nat.le_trans ?_ (by assumption)); decide))) | (dsimp only [top]; omega)); (case zzhu => first | (refine' room_u ?zzza ?zzzb; (case zzza => assumption); (case zzzb => first | decide | (refine Nat.succ_le_succ (Nat.le_trans ?_ (by assumption)); decide))) | (dsimp only [top]; omega))); (intro v' r' n' h' tk' F' N' hR' hl'); rotate_left; (intro hn' hi' e' G' h' tk' tl' hX' FG' hU'; (try dsimp only [LS.to, LS.objs, LS.dict, List.cons_append, List.nil_append] at hX')); rotate_left)) | ((with_reducible show WStep _ _ _ _ _ _ _ _ _ _); with_reducible (exact WStep.intro (by assumption) (by assumption) (by assumption) (by assumption))) | walk1) | (leave1; (try dsimp only)) | fail "no step"))
  all_goals (try k_data)
  all_goals (try (exfalso; omega))
  all_goals first
    | (show R (.ok (.ret _)) _
       rename Fr _ _ _ _ => F9
       rename News _ _ _ _ => N9
       rename KtsTurn _ _ _ => T9
       rename Reads1 _ _ _ _ => R9
       rename _ = due.length => l9
       rw [l9] at N9
       exact hret _ _ _ _ _ (by simpa using T9) F9.keep (News.owns N9) ⟨_, _, _, rfl, R9.gotE l9, by rw [l9]⟩)
    | (show R (.ok (.ret _)) _
       rename Fr _ _ _ _ => F9
       rename News _ _ _ _ => N9
       exact hret _ g _ _ _ (by simpa using KtsTurn.refl) F9.keep (News.owns N9) ⟨_, [], _, (List.append_nil _).symm, Got.refl h, rfl⟩)


end T_M10
section T_M11
open PySem PySem.W PyProof.Rows PySem.Spec PySem.Calls
set_option maxRecDepth 100000
set_option maxHeartbeats 1000000




/-- the ground with a part of the ledger laid to it -/
noncomputable def groundWith (g h : Heap) (rest : Led) : Heap := hideAll h ((List.range h.objs.size).filter fun b => (g.get? b).isNone && !(rest.any fun p => p.1 == b))
theorem groundWith_in {g h : Heap} {rest : Led} (k : g.StaysIn h) {b : Addr} {o : Obj} (e : g.get? b = some o) : (groundWith g h rest).get? b = some o :=
  hideAll_get _ (k b o e) fun hm => by
    have := (List.mem_filter.mp hm).2
    simp [e] at this
theorem groundWith_rest {g h : Heap} {rest : Led} {p : Addr × Obj} (hp : p ∈ rest) (e : h.get? p.1 = some p.2) : (groundWith g h rest).get? p.1 = some p.2 :=
  hideAll_get _ e fun hm => by
    have := (List.mem_filter.mp hm).2
    simp only [Bool.and_eq_true, Bool.not_eq_true'] at this
    rw [List.any_eq_false] at this
    exact this.2 p hp (by simp)
theorem groundWith_out {g h : Heap} {rest : Led} {b : Addr} (e : g.get? b = none) (hb : ∀ p ∈ rest, p.1 ≠ b) : (groundWith g h rest).get? b = none := by
  cases q : h.get? b with
  | none => exact kts_none (fun b o e => of_hideAll _ e) q
  | some o =>
    refine hideAll_none _ (List.mem_filter.mpr ⟨List.mem_range.mpr (Heap.lt_size q), ?_⟩)
    simp only [e, Option.isNone_none, Bool.true_and, Bool.not_eq_true', List.any_eq_false]
    intro p hp hq
    exact hb p hp (by simpa using hq)

section
variable {w : World} {mean : ExcName → Option Value} {mg mb : Str → Option Value} {f : Addr} {c : Nat} {args : Args} {own rest : Led} {Pre : Heap → Prop} {Ret : Value → Led → Prop} {Exc : Value → Value → Led → Prop} {turns : Bool}

/-- a larger ledger handed over -/
theorem Spec.frame (C : Spec w mean mg mb f c args turns Pre own Ret Exc) (hp : ∀ g G : Heap, g.StaysIn G → Pre g → Pre G) (hdis : ∀ p ∈ rest, ∀ q ∈ own, p.1 ≠ q.1) :
    Spec w mean mg mb f c args turns Pre (own ++ rest) (fun v o => ∃ o', o = o' ++ rest ∧ Ret v o' ∧ ∀ q ∈ o', ∀ p ∈ rest, q.1 ≠ p.1)
      (fun cls x o => ∃ o', o = o' ++ rest ∧ Exc cls x o' ∧ ∀ q ∈ o', ∀ p ∈ rest, q.1 ≠ p.1) := by
  intro dp un gd base outer g s R S hg hsz ho hpp hd1 hu1 hret hexc
  have hog : ∀ q ∈ own, s.heap.get? q.1 = some q.2 ∧ g.get? q.1 = none := fun q hq => ho q (List.mem_append_left _ hq)
  have hrg : ∀ q ∈ rest, s.heap.get? q.1 = some q.2 ∧ g.get? q.1 = none := fun q hq => ho q (List.mem_append_right _ hq)
  have hin : g.StaysIn (groundWith g s.heap rest) := fun b o e => groundWith_in hg e
  have hrest : ∀ p ∈ rest, (groundWith g s.heap rest).get? p.1 = some p.2 := fun p hp => groundWith_rest hp (hrg p hp).1
  have notFr : ∀ p ∈ rest, p.1 ∉ frs outer := fun p hp hm => by
    obtain ⟨o, ho', _⟩ := (S.frames.mem hm).2
    rw [(hrg p hp).2] at ho'; cases ho'
  have SG : Site w mean mg mb base outer (groundWith g s.heap rest) := ⟨fun b o e => hin b o (S.stays b o e), S.frames.of_keeps fun b o e _ => ⟨o, hin b o e, rfl⟩, S.inB, S.topB, fun b hb => by
    obtain ⟨o, es, n, h1, h2⟩ := S.dicts b hb
    exact ⟨o, es, n, hin b o h1, h2⟩⟩
  refine C dp un gd base outer (groundWith g s.heap rest) s R SG (fun b o e => of_hideAll _ e) (by unfold groundWith; rw [hideAll_size]; exact Nat.le_refl _) (fun q hq => ⟨(hog q hq).1, groundWith_out (hog q hq).2 fun p hp => hdis p hp q hq⟩) (hp _ _ hin hpp) hd1 hu1
    (fun v g'' own' h' tk hT hgh hown hr => ?_) fun e cls x own' h' tk hR hU hE => ?_
  · have hT' : KtsTurn (frs outer) (groundWith g s.heap rest) g'' := by
      cases turns with
      | true => simpa using hT
      | false =>
        have : g'' = groundWith g s.heap rest := by simpa using hT
        subst this; exact KtsTurn.refl
    have hr' : ∀ p ∈ rest, g''.get? p.1 = some p.2 := fun p hp => hT'.other _ _ (hrest p hp) (notFr p hp)
    have hdis' : ∀ q ∈ own', ∀ p ∈ rest, q.1 ≠ p.1 := fun q hq p hp e => by
      have := (hown q hq).2
      rw [e, hr' p hp] at this; cases this
    have hog' : ∀ q ∈ own', g.get? q.1 = none := fun q hq => by
      cases z : g.get? q.1 with
      | none => rfl
      | some o =>
        obtain ⟨sl, hs⟩ := hT'.up (hin _ _ z)
        rw [(hown q hq).2] at hs; cases hs
    cases turns with
    | false =>
      have : g'' = groundWith g s.heap rest := by simpa using hT
      subst this
      refine hret v g (own' ++ rest) h' tk (by simp) (fun b o e => hgh b o (hin b o e)) (fun q hq => ?_) ⟨own', rfl, hr, hdis'⟩
      rcases List.mem_append.mp hq with hq | hq
      · exact ⟨(hown q hq).1, hog' q hq⟩
      · exact ⟨hgh _ _ (hrest q hq), (hrg q hq).2⟩
    | true =>
      obtain ⟨T₁, S₁⟩ := kts_turn_at (h := h') (fs := frs outer) (g := g)
        (fun b hb => by
          obtain ⟨o, ho', _⟩ := (S.frames.mem hb).2
          exact ⟨o, ho'⟩)
        (fun b o e nm => hgh b o (hT'.other b o (hin b o e) nm))
        (fun b o e hm => by
          obtain ⟨sl, hs⟩ := hT'.up (hin b o e)
          exact ⟨sl, hgh _ _ hs⟩)
      refine hret v _ (own' ++ rest) h' tk (by simpa using T₁) S₁ (fun q hq => ?_) ⟨own', rfl, hr, hdis'⟩
      rcases List.mem_append.mp hq with hq | hq
      · exact ⟨(hown q hq).1, T₁.none_ _ (hog' q hq)⟩
      · exact ⟨hgh _ _ (hr' q hq), T₁.none_ _ (hrg q hq).2⟩
  · obtain ⟨B, a0, h1, h2, h3, h4⟩ := hR
    have hBr : ∀ p ∈ rest, B.get? p.1 = some p.2 := fun p hp => h2 _ _ (hrest p hp) (notFr p hp)
    have hdis' : ∀ q ∈ own', ∀ p ∈ rest, q.1 ≠ p.1 := fun q hq p hp e => by
      have := (h3 q hq).2.1
      rw [e, hrest p hp] at this; cases this
    refine hexc e cls x (own' ++ rest) h' tk ⟨B, a0, h1, fun b o q nm => h2 b o (hin b o q) nm, fun q hq => ?_, h4⟩ (fun b o q hnf => hU b o (hin b o q) hnf) ⟨own', rfl, hE, hdis'⟩
    rcases List.mem_append.mp hq with hq | hq
    · exact ⟨(h3 q hq).1, kts_none hin (h3 q hq).2.1, (h3 q hq).2.2⟩
    · exact ⟨hBr q hq, (hrg q hq).2, kts_none S.stays (hrg q hq).2⟩
theorem Spec.own_sub {own2 : Led} (C : Spec w mean mg mb f c args turns Pre own Ret Exc) (h : ∀ q ∈ own, q ∈ own2) : Spec w mean mg mb f c args turns Pre own2 Ret Exc :=
  fun dp un gd base outer g s R S hg hsz ho hpp hd1 hu1 hret hexc => C dp un gd base outer g s R S hg hsz (fun q hq => ho q (h q hq)) hpp hd1 hu1 hret hexc
end

/-- all lazy lists of a run stand right -/
structure Good (st : List LG) : Prop where
  loc : ∀ p ∈ st, Loc p.1 p.2
  els : ∀ p ∈ st, ∀ (k : Nat) t v, p.1.els[k]? = some v → p.2[k]? = some t → ElOk st p.1.sd v t
  nd : (adsOf st).Nodup

theorem ads_of_objs {w : World} {r : LS} {p : Addr × Obj} (h : p ∈ r.objs w) : p.1 ∈ ads r := by
  rcases List.mem_cons.mp h with rfl | h
  · simp
  rcases List.mem_cons.mp h with rfl | h
  · simp
  · rw [List.mem_singleton.mp h]; simp
theorem adsOf_of_objsOf {w : World} {st : List LG} {p : Addr × Obj} (h : p ∈ objsOf w st) : p.1 ∈ adsOf st := by
  obtain ⟨q, hq, hp⟩ := List.mem_flatMap.mp h
  exact List.mem_flatMap.mpr ⟨q, hq, ads_of_objs hp⟩

theorem good_step {w : World} {pre post new : List LG} {r r' : LS} {due : List PT} (G : Good (pre ++ (r, due) :: post)) (H : Got r r' due new)
    (hdis : ∀ q ∈ r'.objs w ++ objsOf w new, ∀ p ∈ objsOf w (pre ++ post), q.1 ≠ p.1) :
    Good ((r', due) :: (new ++ (pre ++ post))) ∧ Ext (pre ++ (r, due) :: post) ((r', due) :: (new ++ (pre ++ post))) := by
  have ext : Ext (pre ++ (r, due) :: post) ((r', due) :: (new ++ (pre ++ post))) := fun p hp => by
    rcases List.mem_append.mp hp with hp | hp
    · exact ⟨p, List.mem_cons.mpr (.inr (List.mem_append_right _ (List.mem_append_left _ hp))), rfl, rfl, rfl, rfl⟩
    rcases List.mem_cons.mp hp with rfl | hp
    · exact ⟨(r', due), .head _, H.ids.1, rfl, H.ids.2.1, H.ids.2.2⟩
    · exact ⟨p, List.mem_cons.mpr (.inr (List.mem_append_right _ (List.mem_append_right _ hp))), rfl, rfl, rfl, rfl⟩
  have extN : Ext new ((r', due) :: (new ++ (pre ++ post))) := fun p hp => ⟨p, List.mem_cons.mpr (.inr (List.mem_append_left _ hp)), rfl, rfl, rfl, rfl⟩
  have old : ∀ p ∈ pre ++ post, p ∈ pre ++ (r, due) :: post := fun p hp => by
    rcases List.mem_append.mp hp with hp | hp
    · exact List.mem_append_left _ hp
    · exact List.mem_append_right _ (List.mem_cons_of_mem _ hp)
  refine ⟨⟨fun p hp => ?_, fun p hp k t v hv ht => ?_, ?_⟩, ext⟩
  · rcases List.mem_cons.mp hp with rfl | hp
    · exact H.loc
    rcases List.mem_append.mp hp with hp | hp
    · exact H.fresh.loc p hp
    · exact G.loc p (old p hp)
  · rcases List.mem_cons.mp hp with rfl | hp
    · obtain ⟨e, he, hN⟩ := H.els
      dsimp only at hv ht ⊢
      rw [H.ids.2.1]
      by_cases hk : k < r.els.length
      · rw [he, List.getElem?_append_left hk] at hv
        exact (G.els (r, due) (List.mem_append_right _ (.head _)) k t v hv ht).mono ext
      · rw [he, List.getElem?_append_right (by omega)] at hv
        refine (hN (k - r.els.length) t v hv ?_).mono extN
        rw [show r.els.length + (k - r.els.length) = k from by omega]; exact ht
    rcases List.mem_append.mp hp with hp | hp
    · rw [H.fresh.els p hp] at hv; simp at hv
    · exact (G.els p (old p hp) k t v hv ht).mono ext
  · have e1 : adsOf ((r', due) :: (new ++ (pre ++ post))) = (ads r' ++ adsOf new) ++ adsOf (pre ++ post) := by
      rw [show (r', due) :: (new ++ (pre ++ post)) = [(r', due)] ++ (new ++ (pre ++ post)) from rfl, adsOf_append, adsOf_append, List.append_assoc]
      simp [adsOf]
    rw [e1, List.nodup_append]
    have hnd := G.nd
    refine ⟨H.nd, ?_, fun a ha b hb => ?_⟩
    · rw [adsOf_append] at hnd ⊢
      rw [show (r, due) :: post = [(r, due)] ++ post from rfl, adsOf_append] at hnd
      rw [List.nodup_append] at hnd ⊢
      refine ⟨hnd.1, (List.nodup_append.mp hnd.2.1).2.1, fun a ha b hb => hnd.2.2 a ha b (List.mem_append_right _ hb)⟩
    · obtain ⟨u, hu⟩ := mem_objsOf_of_ads (w := w) hb
      rcases List.mem_append.mp ha with ha | ha
      · obtain ⟨o, ho⟩ := mem_objs_of_ads (w := w) ha
        exact hdis _ (List.mem_append_left _ ho) _ hu
      · obtain ⟨o, ho⟩ := mem_objsOf_of_ads (w := w) ha
        exact hdis _ (List.mem_append_right _ ho) _ hu

section
variable {w : World} {mean : ExcName → Option Value} {mg mb : Str → Option Value}

theorem disOf {st pre post : List LG} {r : LS} {due : List PT} (G : Good st) (e : st = pre ++ (r, due) :: post) : ∀ p ∈ objsOf w (pre ++ post), ∀ q ∈ r.objs w, p.1 ≠ q.1 := fun p hp q hq => by
  subst e
  have hnd := G.nd
  have h1 := ads_of_objs hq
  have h2 := adsOf_of_objsOf hp
  rw [show pre ++ (r, due) :: post = pre ++ ([(r, due)] ++ post) from rfl, adsOf_append, adsOf_append, List.nodup_append] at hnd
  have h1' : q.1 ∈ adsOf [(r, due)] := by simpa [adsOf] using h1
  rw [adsOf_append] at h2
  rcases List.mem_append.mp h2 with h2 | h2
  · exact hnd.2.2 _ h2 _ (List.mem_append_left _ h1')
  · exact fun e => (List.nodup_append.mp hnd.2.1).2.2 _ h1' _ h2 e.symm

theorem objs_split {st pre post : List LG} {r : LS} {due : List PT} (e : st = pre ++ (r, due) :: post) : ∀ q ∈ r.objs w ++ objsOf w (pre ++ post), q ∈ objsOf w st := fun q hq => by
  subst e
  rcases List.mem_append.mp hq with hq | hq
  · exact List.mem_flatMap.mpr ⟨(r, due), List.mem_append_right _ (.head _), hq⟩
  · obtain ⟨p, hp, hq⟩ := List.mem_flatMap.mp hq
    refine List.mem_flatMap.mpr ⟨p, ?_, hq⟩
    rcases List.mem_append.mp hp with hp | hp
    · exact List.mem_append_left _ hp
    · exact List.mem_append_right _ (List.mem_cons_of_mem _ hp)
theorem objs_join {pre post new : List LG} {r' : LS} {due : List PT} : (r'.objs w ++ objsOf w new) ++ objsOf w (pre ++ post) = objsOf w ((r', due) :: (new ++ (pre ++ post))) := by
  rw [show (r', due) :: (new ++ (pre ++ post)) = [(r', due)] ++ (new ++ (pre ++ post)) from rfl, objsOf_append, objsOf_append, List.append_assoc]
  simp [objsOf]

/-- a place of a lazy list, all lazy lists handed over -/
theorem spG (st : List LG) (G : Good st) (p : LG) (hp : p ∈ st) (i : Nat) (ti : Tok) (hi : i ≤ 100000) (hz : p.1.rem = 0 ∨ i < p.2.length) :
    Spec w mean mg mb 141 16 ⟨[.ref p.1.x, .int i ti], []⟩ true (fun _ => True) (objsOf w st)
      (fun v own' => ∃ st', own' = objsOf w st' ∧ Good st' ∧ Ext st st' ∧ ∃ t, p.2[i]? = some t ∧ ElOk st' p.1.sd v t)
      (fun cls _ own' => p.2.length ≤ i ∧ cls = .type "IndexError" ∧ ∃ st', own' = objsOf w st' ∧ Good st' ∧ Ext st st') := by
  obtain ⟨pre, post, e⟩ := List.append_of_mem hp
  obtain ⟨r, due⟩ := p
  have C := ((sp141 (w := w) (mean := mean) (mg := mg) (mb := mb) r due (G.loc _ hp) i ti hi hz).frame (rest := objsOf w (pre ++ post)) (fun _ _ _ h => h) (disOf G e)).own_sub (objs_split e)
  subst e
  refine C.mono (Nat.le_refl _) (fun _ h => h) (fun v o h => ?_) fun cls x o h => ?_
  · obtain ⟨o', rfl, ⟨hlt, r', new, rfl, H, hv⟩, hd⟩ := h
    obtain ⟨G', ext⟩ := good_step G H hd
    refine ⟨_, objs_join, G', ext, due[i], by simp [hlt], ?_⟩
    have := G'.els (r', due) (.head _) i due[i] v hv (by simp [hlt])
    rw [H.ids.2.1] at this
    exact this
  · obtain ⟨o', rfl, ⟨hlt, hc, r', new, rfl, H⟩, hd⟩ := h
    obtain ⟨G', ext⟩ := good_step G H hd
    exact ⟨hlt, hc, _, objs_join, G', ext⟩

/-- the length of a lazy list -/
theorem spL (st : List LG) (G : Good st) (p : LG) (hp : p ∈ st) (hz : p.1.rem = 0) :
    Spec w mean mg mb 148 16 ⟨[.ref p.1.x], []⟩ true (fun _ => True) (objsOf w st)
      (fun v own' => ∃ st' tl, own' = objsOf w st' ∧ Good st' ∧ Ext st st' ∧ v = .int (p.2.length : Nat) tl) (fun _ _ _ => False) := by
  obtain ⟨pre, post, e⟩ := List.append_of_mem hp
  obtain ⟨r, due⟩ := p
  have C := ((sp148 (w := w) (mean := mean) (mg := mg) (mb := mb) r due (G.loc _ hp) hz).frame (rest := objsOf w (pre ++ post)) (fun _ _ _ h => h) (disOf G e)).own_sub (objs_split e)
  subst e
  refine C.mono (Nat.le_refl _) (fun _ h => h) (fun v o h => ?_) fun cls x o h => ?_
  · obtain ⟨o', rfl, ⟨r', new, tl, rfl, H, hv⟩, hd⟩ := h
    obtain ⟨G', ext⟩ := good_step G H hd
    exact ⟨_, tl, objs_join, G', ext, hv⟩
  · obtain ⟨o', _, h, _⟩ := h
    exact h
end


end T_M11
section T_M12
open PySem PySem.W PyProof.Rows PySem.Spec PySem.Calls
set_option maxRecDepth 100000
set_option maxHeartbeats 1000000




theorem sp112t0 {w : World} {mean : ExcName → Option Value} {mg mb : Str → Option Value} (x : List UInt8) (t1 t2 : Tok) (h1 : 0 < x.length) (hx : x.length ≤ 100000)
    {p : List UInt8} {l s' : Nat} (hc : clpF x 0 = some (p, true, l, s')) (hp : p.length ≤ 100000) :
  Spec w mean mg mb 112 8 ⟨[.bytes x.toArray t1, .int 0 t2], []⟩ false (fun _ => True) []
    (fun r own' => ∃ t ta tc, r = .ref t ∧ own' = [(t, tupO [.bytes (cut x s' (s' + l)).toArray ta, .int (s' + l : Nat) tc])]) (fun _ _ _ => False) :=
  sp112t x t1 t2 0 h1 hx hc hp
theorem sp112f0 {w : World} {mean : ExcName → Option Value} {mg mb : Str → Option Value} (x : List UInt8) (t1 t2 : Tok) (h1 : 0 < x.length) (hx : x.length ≤ 100000)
    {p : List UInt8} {l s' : Nat} (hc : clpF x 0 = some (p, false, l, s')) :
  Spec w mean mg mb 112 8 ⟨[.bytes x.toArray t1, .int 0 t2], []⟩ false (fun _ => True) []
    (fun r own' => ∃ t tc, ∃ q : LS, r = .ref t ∧ own' = (t, tupO [.ref q.x, .int (s' + l : Nat) tc]) :: q.objs w ∧ q.Apart ∧ (t ≠ q.x ∧ t ≠ q.dx ∧ t ≠ q.l) ∧ (q.X = x ∧ q.st = (s' : Int) ∧ q.en = (s' : Int) + l ∧ q.ix = (s' : Int) ∧ q.els = [] ∧ q.ln = .none ∧ q.sd = .none)) (fun _ _ _ => False) :=
  sp112f x t1 t2 0 h1 hx hc
theorem sp105f {w : World} {mean : ExcName → Option Value} {mg mb : Str → Option Value} (x : List UInt8) (t1 : Tok) (h1 : 0 < x.length) (hx : x.length ≤ 100000)
    {p : List UInt8} {l s' : Nat} (hc : clpF x 0 = some (p, false, l, s')) (he : ((s' + l : Nat) : Int) = x.length) :
  Spec w mean mg mb 105 12 ⟨[.bytes x.toArray t1], []⟩ false (fun _ => True) []
    (fun r own' => ∃ q : LS, r = .ref q.x ∧ own' = q.objs w ∧ q.Apart ∧ (q.X = x ∧ q.en = (s' : Int) + l ∧ q.ix = (s' : Int) ∧ q.els = [] ∧ q.ln = .none ∧ q.sd = .none)) (fun _ _ _ => False) := by
  intro dp un gd base outer g s R S hg hsz ho hpp hd1 hu1 hret hexc
  refine enter S hg hsz ho (by k_is) (by k_is) ?_ (binds_K (S.inK.keeps hg) rfl (by k_is) rfl rfl rfl) (locs rfl) ?_ rfl rfl rfl (by decide)
  · exact room_0 hd1
  intro L' h₁ tk₁ hst hL F N B X T M₁ en₁ A₁
  (try dsimp only)
  k_fold
  repeat' (first | (k_unfold; (try dsimp only)) | (k_end; wrow_close) | ((with_reducible show wpAny _ _ (eval (Expr.Constant (Const.int _) _ _) _) _ _ _); with_reducible refine const_i ?_) | ((with_reducible show wpAny _ _ (call (Value.builtin _) _) _ _ _); with_reducible (k_here; (with_reducible show wpAny _ _ (call (Value.builtin "len") [Value.bytes (List.toArray _) _]) _ _ _); (refine len_list (by (try simp only [List.length_append, cutI_length, List.length_cons, List.length_nil]); first | decide | omega) ?_); intro _ _)) | ((with_reducible show wpAny _ _ (execs (_ :: _) _) _ _ _); with_reducible (refine wpAny_execs_cons ?_; (try k_fold))) | ((with_reducible show wpAny _ _ (storeName _ _ _) _ _ _); with_reducible (k_here; k_dflt (refine' storeP ?zzF ?zzN ?_ ?zza ?zzb; (case zzF => k_asm); (case zzN => k_asm); (case zza => rfl); (case zzb => rfl); k_whole; intro h' tk' F' N'; (try k_sweep)))) | ((with_reducible show wpAny _ _ (call (Value.ref _) _) _ _ _); with_reducible (k_here; (with_reducible show wpAny _ _ (call (Value.ref 112) _) _ _ _); k_dflt (refine' call0 (sp112f0 _ _ _ ?zzh1 ?zzhx ?zzhc) ?zzS ?zzF ?zzN ?zzkK ?zzkA ?zzpre ?zzhd ?zzhu ?_; (case zzkA => exact rfl); (case zzS => assumption); (case zzF => k_asm); (case zzN => k_asm); (case zzkK => exact rfl); (case zzpre => exact fun _ _ _ => trivial); (case zzhc => assumption); (case zzh1 => assumption); (case zzhx => assumption); (case zzhd => first | (refine' room_d ?zzza ?zzzb; (case zzza => assumption); (case zzzb => first | decide | (refine Nat.succ_le_succ (Nat.le_trans ?_ (by assumption)); decide))) | (dsimp only [top]; omega)); (case zzhu => first | (refine' room_u ?zzza ?zzzb; (case zzza => assumption); (case zzzb => first | decide | (refine Nat.succ_le_succ (Nat.le_trans ?_ (by assumption)); decide))) | (dsimp only [top]; omega))); intro r' own' h' tk' F' N' hdis' hr'; obtain ⟨t', tc', q', hr1, hr2, hq1, hq2, hq3⟩ := hr'; subst hr1; subst hr2; (try dsimp only); (try simp only [List.nil_append, List.cons_append] at N'); (replace hdis' := apartAll_of hdis'); (try simp only [ApartAll, Apart2, and_true] at hdis'); (obtain ⟨qx', qdx', ql', qX', qtX', qst', qts', qen', qte', qix', qti', qels', qep', qln', qsd', qk1', qk2', qk3', qk4', qk5', qk6', qk7', qrem'⟩ := q'); (obtain ⟨hqa1', hqa2', hqa3'⟩ := hq1); (try dsimp only at hqa1' hqa2' hqa3' hq2 hq3); (obtain ⟨hqc1', hqc2', hqc3'⟩ := hq2); (obtain ⟨hqb1', hqb2', hqb3', hqb4', hqb5', hqb6', hqb7'⟩ := hq3); (subst hqb1' hqb2' hqb3' hqb4' hqb5' hqb6' hqb7'); (try dsimp only [LS.objs, LS.dict] at N'); (try dsimp only))) | walk1 | (dsimp only; first | ((with_reducible show wpAny _ _ (eval (Expr.Constant (Const.int _) _ _) _) _ _ _); with_reducible refine const_i ?_) | ((with_reducible show wpAny _ _ (call (Value.builtin _) _) _ _ _); with_reducible (k_here; (with_reducible show wpAny _ _ (call (Value.builtin "len") [Value.bytes (List.toArray _) _]) _ _ _); (refine len_list (by (try simp only [List.length_append, cutI_length, List.length_cons, List.length_nil]); first | decide | omega) ?_); intro _ _)) | ((with_reducible show wpAny _ _ (execs (_ :: _) _) _ _ _); with_reducible (refine wpAny_execs_cons ?_; (try k_fold))) | ((with_reducible show wpAny _ _ (storeName _ _ _) _ _ _); with_reducible (k_here; k_dflt (refine' storeP ?zzF ?zzN ?_ ?zza ?zzb; (case zzF => k_asm); (case zzN => k_asm); (case zza => rfl); (case zzb => rfl); k_whole; intro h' tk' F' N'; (try k_sweep)))) | ((with_reducible show wpAny _ _ (call (Value.ref _) _) _ _ _); with_reducible (k_here; (with_reducible show wpAny _ _ (call (Value.ref 112) _) _ _ _); k_dflt (refine' call0 (sp112f0 _ _ _ ?zzh1 ?zzhx ?zzhc) ?zzS ?zzF ?zzN ?zzkK ?zzkA ?zzpre ?zzhd ?zzhu ?_; (case zzkA => exact rfl); (case zzS => assumption); (case zzF => k_asm); (case zzN => k_asm); (case zzkK => exact rfl); (case zzpre => exact fun _ _ _ => trivial); (case zzhc => assumption); (case zzh1 => assumption); (case zzhx => assumption); (case zzhd => first | (refine' room_d ?zzza ?zzzb; (case zzza => assumption); (case zzzb => first | decide | (refine Nat.succ_le_succ (Nat.le_trans ?_ (by assumption)); decide))) | (dsimp only [top]; omega)); (case zzhu => first | (refine' room_u ?zzza ?zzzb; (case zzza => assumption); (case zzzb => first | decide | (refine Nat.succ_le_succ (Nat.le_trans ?_ (by assumption)); decide))) | (dsimp only [top]; omega))); intro r' own' h' tk' F' N' hdis' hr'; obtain ⟨t', tc', q', hr1, hr2, hq1, hq2, hq3⟩ := hr'; subst hr1; subst hr2; (try dsimp only); (try simp only [List.nil_append, List.cons_append] at N'); (replace hdis' := apartAll_of hdis'); (try simp only [ApartAll, Apart2, and_true] at hdis'); (obtain ⟨qx', qdx', ql', qX', qtX', qst', qts', qen', qte', qix', qti', qels', qep', qln', qsd', qk1', qk2', qk3', qk4', qk5', qk6', qk7', qrem'⟩ := q'); (obtain ⟨hqa1', hqa2', hqa3'⟩ := hq1); (try dsimp only at hqa1' hqa2' hqa3' hq2 hq3); (obtain ⟨hqc1', hqc2', hqc3'⟩ := hq2); (obtain ⟨hqb1', hqb2', hqb3', hqb4', hqb5', hqb6', hqb7'⟩ := hq3); (subst hqb1' hqb2' hqb3' hqb4' hqb5' hqb6' hqb7'); (try dsimp only [LS.objs, LS.dict] at N'); (try dsimp only))) | walk1) | (leave1; (try dsimp only)) | fail "no step")
  all_goals (try k_data)
  all_goals (try (exfalso; omega))
  show R (.ok (.ret _)) _
  rename Fr _ _ _ _ => F9
  rename News _ _ _ _ => N9
  exact hret _ g _ _ _ rfl F9.keep (News.owns (News.tail1 N9)) ⟨⟨_, _, _, _, _, _, _, _, _, _, _, [], _, .none, .none, _, _, _, _, _, _, _, 0⟩, rfl, rfl, ⟨by assumption, by assumption, by assumption⟩, rfl, rfl, rfl, rfl, rfl, rfl⟩
theorem sp105s {w : World} {mean : ExcName → Option Value} {mg mb : Str → Option Value} (x : List UInt8) (t1 : Tok) (h1 : 0 < x.length) (hx : x.length ≤ 100000)
    {p : List UInt8} {l s' : Nat} (hc : clpF x 0 = some (p, false, l, s')) (he : ((s' + l : Nat) : Int) = x.length) :
  Spec w mean mg mb 105 12 ⟨[.bytes x.toArray t1, .ref 201], []⟩ false (fun _ => True) []
    (fun r own' => ∃ q : LS, r = .ref q.x ∧ own' = q.objs w ∧ q.Apart ∧ (q.X = x ∧ q.en = (s' : Int) + l ∧ q.ix = (s' : Int) ∧ q.els = [] ∧ q.ln = .none ∧ q.sd = .ref 201)) (fun _ _ _ => False) := by
  intro dp un gd base outer g s R S hg hsz ho hpp hd1 hu1 hret hexc
  refine enter S hg hsz ho (by k_is) (by k_is) ?_ (binds_K (S.inK.keeps hg) rfl (by k_is) rfl rfl rfl) (locs rfl) ?_ rfl rfl rfl (by decide)
  · exact room_0 hd1
  intro L' h₁ tk₁ hst hL F N B X T M₁ en₁ A₁
  (try dsimp only)
  k_fold
  repeat' (first | (k_unfold; (try dsimp only)) | (k_end; wrow_close) | ((with_reducible show wpAny _ _ (eval (Expr.Constant (Const.int _) _ _) _) _ _ _); with_reducible refine const_i ?_) | ((with_reducible show wpAny _ _ (call (Value.builtin _) _) _ _ _); with_reducible (k_here; (with_reducible show wpAny _ _ (call (Value.builtin "len") [Value.bytes (List.toArray _) _]) _ _ _); (refine len_list (by (try simp only [List.length_append, cutI_length, List.length_cons, List.length_nil]); first | decide | omega) ?_); intro _ _)) | ((with_reducible show wpAny _ _ (execs (_ :: _) _) _ _ _); with_reducible (refine wpAny_execs_cons ?_; (try k_fold))) | ((with_reducible show wpAny _ _ (storeName _ _ _) _ _ _); with_reducible (k_here; k_dflt (refine' storeP ?zzF ?zzN ?_ ?zza ?zzb; (case zzF => k_asm); (case zzN => k_asm); (case zza => rfl); (case zzb => rfl); k_whole; intro h' tk' F' N'; (try k_sweep)))) | ((with_reducible show wpAny _ _ (call (Value.ref _) _) _ _ _); with_reducible (k_here; (with_reducible show wpAny _ _ (call (Value.ref 112) _) _ _ _); k_dflt (refine' call0 (sp112f0 _ _ _ ?zzh1 ?zzhx ?zzhc) ?zzS ?zzF ?zzN ?zzkK ?zzkA ?zzpre ?zzhd ?zzhu ?_; (case zzkA => exact rfl); (case zzS => assumption); (case zzF => k_asm); (case zzN => k_asm); (case zzkK => exact rfl); (case zzpre => exact fun _ _ _ => trivial); (case zzhc => assumption); (case zzh1 => assumption); (case zzhx => assumption); (case zzhd => first | (refine' room_d ?zzza ?zzzb; (case zzza => assumption); (case zzzb => first | decide | (refine Nat.succ_le_succ (Nat.le_trans ?_ (by assumption)); decide))) | (dsimp only [top]; omega)); (case zzhu => first | (refine' room_u ?zzza ?zzzb; (case zzza => assumption); (case zzzb => first | decide | (refine Nat.succ_le_succ (Nat.le_trans ?_ (by assumption)); decide))) | (dsimp only [top]; omega))); intro r' own' h' tk' F' N' hdis' hr'; obtain ⟨t', tc', q', hr1, hr2, hq1, hq2, hq3⟩ := hr'; subst hr1; subst hr2; (try dsimp only); (try simp only [List.nil_append, List.cons_append] at N'); (replace hdis' := apartAll_of hdis'); (try simp only [ApartAll, Apart2, and_true] at hdis'); (obtain ⟨qx', qdx', ql', qX', qtX', qst', qts', qen', qte', qix', qti', qels', qep', qln', qsd', qk1', qk2', qk3', qk4', qk5', qk6', qk7', qrem'⟩ := q'); (obtain ⟨hqa1', hqa2', hqa3'⟩ := hq1); (try dsimp only at hqa1' hqa2' hqa3' hq2 hq3); (obtain ⟨hqc1', hqc2', hqc3'⟩ := hq2); (obtain ⟨hqb1', hqb2', hqb3', hqb4', hqb5', hqb6', hqb7'⟩ := hq3); (subst hqb1' hqb2' hqb3' hqb4' hqb5' hqb6' hqb7'); (try dsimp only [LS.objs, LS.dict] at N'); (try dsimp only))) | walk1 | (dsimp only; first | ((with_reducible show wpAny _ _ (eval (Expr.Constant (Const.int _) _ _) _) _ _ _); with_reducible refine const_i ?_) | ((with_reducible show wpAny _ _ (call (Value.builtin _) _) _ _ _); with_reducible (k_here; (with_reducible show wpAny _ _ (call (Value.builtin "len") [Value.bytes (List.toArray _) _]) _ _ _); (refine len_list (by (try simp only [List.length_append, cutI_length, List.length_cons, List.length_nil]); first | decide | omega) ?_); intro _ _)) | ((with_reducible show wpAny _ _ (execs (_ :: _) _) _ _ _); with_reducible (refine wpAny_execs_cons ?_; (try k_fold))) | ((with_reducible show wpAny _ _ (storeName _ _ _) _ _ _); with_reducible (k_here; k_dflt (refine' storeP ?zzF ?zzN ?_ ?zza ?zzb; (case zzF => k_asm); (case zzN => k_asm); (case zza => rfl); (case zzb => rfl); k_whole; intro h' tk' F' N'; (try k_sweep)))) | ((with_reducible show wpAny _ _ (call (Value.ref _) _) _ _ _); with_reducible (k_here; (with_reducible show wpAny _ _ (call (Value.ref 112) _) _ _ _); k_dflt (refine' call0 (sp112f0 _ _ _ ?zzh1 ?zzhx ?zzhc) ?zzS ?zzF ?zzN ?zzkK ?zzkA ?zzpre ?zzhd ?zzhu ?_; (case zzkA => exact rfl); (case zzS => assumption); (case zzF => k_asm); (case zzN => k_asm); (case zzkK => exact rfl); (case zzpre => exact fun _ _ _ => trivial); (case zzhc => assumption); (case zzh1 => assumption); (case zzhx => assumption); (case zzhd => first | (refine' room_d ?zzza ?zzzb; (case zzza => assumption); (case zzzb => first | decide | (refine Nat.succ_le_succ (Nat.le_trans ?_ (by assumption)); decide))) | (dsimp only [top]; omega)); (case zzhu => first | (refine' room_u ?zzza ?zzzb; (case zzza => assumption); (case zzzb => first | decide | (refine Nat.succ_le_succ (Nat.le_trans ?_ (by assumption)); decide))) | (dsimp only [top]; omega))); intro r' own' h' tk' F' N' hdis' hr'; obtain ⟨t', tc', q', hr1, hr2, hq1, hq2, hq3⟩ := hr'; subst hr1; subst hr2; (try dsimp only); (try simp only [List.nil_append, List.cons_append] at N'); (replace hdis' := apartAll_of hdis'); (try simp only [ApartAll, Apart2, and_true] at hdis'); (obtain ⟨qx', qdx', ql', qX', qtX', qst', qts', qen', qte', qix', qti', qels', qep', qln', qsd', qk1', qk2', qk3', qk4', qk5', qk6', qk7', qrem'⟩ := q'); (obtain ⟨hqa1', hqa2', hqa3'⟩ := hq1); (try dsimp only at hqa1' hqa2' hqa3' hq2 hq3); (obtain ⟨hqc1', hqc2', hqc3'⟩ := hq2); (obtain ⟨hqb1', hqb2', hqb3', hqb4', hqb5', hqb6', hqb7'⟩ := hq3); (subst hqb1' hqb2' hqb3' hqb4' hqb5' hqb6' hqb7'); (try dsimp only [LS.objs, LS.dict] at N'); (try dsimp only))) | walk1) | (leave1; (try dsimp only)) | fail "no step")
  all_goals (try k_data)
  all_goals (try (exfalso; omega))
  show R (.ok (.ret _)) _
  rename Fr _ _ _ _ => F9
  rename News _ _ _ _ => N9
  exact hret _ g _ _ _ rfl F9.keep (News.owns (News.tail1 N9)) ⟨⟨_, _, _, _, _, _, _, _, _, _, _, [], _, .none, .ref 201, _, _, _, _, _, _, _, 0⟩, rfl, rfl, ⟨by assumption, by assumption, by assumption⟩, rfl, rfl, rfl, rfl, rfl, rfl⟩
/-- a string alone -/
theorem sp105t {w : World} {mean : ExcName → Option Value} {mg mb : Str → Option Value} (x : List UInt8) (t1 : Tok) (h1 : 0 < x.length) (hx : x.length ≤ 100000)
    {p : List UInt8} {l s' : Nat} (hc : clpF x 0 = some (p, true, l, s')) (hp : p.length ≤ 100000) (he : ((s' + l : Nat) : Int) = x.length) :
  Spec w mean mg mb 105 12 ⟨[.bytes x.toArray t1], []⟩ false (fun _ => True) []
    (fun r own' => ∃ ta, r = .bytes (cut x s' (s' + l)).toArray ta ∧ own' = []) (fun _ _ _ => False) := by
  intro dp un gd base outer g s R S hg hsz ho hpp hd1 hu1 hret hexc
  refine enter S hg hsz ho (by k_is) (by k_is) ?_ (binds_K (S.inK.keeps hg) rfl (by k_is) rfl rfl rfl) (locs rfl) ?_ rfl rfl rfl (by decide)
  · exact room_0 hd1
  intro L' h₁ tk₁ hst hL F N B X T M₁ en₁ A₁
  (try dsimp only)
  k_fold
  repeat' (first | (k_unfold; (try dsimp only)) | (k_end; wrow_close) | ((with_reducible show wpAny _ _ (eval (Expr.Constant (Const.int _) _ _) _) _ _ _); with_reducible refine const_i ?_) | ((with_reducible show wpAny _ _ (call (Value.builtin _) _) _ _ _); with_reducible (k_here; (with_reducible show wpAny _ _ (call (Value.builtin "len") [Value.bytes (List.toArray _) _]) _ _ _); (refine len_list (by (try simp only [List.length_append, cutI_length, List.length_cons, List.length_nil]); first | decide | omega) ?_); intro _ _)) | ((with_reducible show wpAny _ _ (execs (_ :: _) _) _ _ _); with_reducible (refine wpAny_execs_cons ?_; (try k_fold))) | ((with_reducible show wpAny _ _ (storeName _ _ _) _ _ _); with_reducible (k_here; k_dflt (refine' storeP ?zzF ?zzN ?_ ?zza ?zzb; (case zzF => k_asm); (case zzN => k_asm); (case zza => rfl); (case zzb => rfl); k_whole; intro h' tk' F' N'; (try k_sweep)))) | ((with_reducible show wpAny _ _ (call (Value.ref _) _) _ _ _); with_reducible (k_here; (with_reducible show wpAny _ _ (call (Value.ref 112) _) _ _ _); k_dflt (refine' call0 (sp112t0 _ _ _ ?zzh1 ?zzhx ?zzhc ?zzhp) ?zzS ?zzF ?zzN ?zzkK ?zzkA ?zzpre ?zzhd ?zzhu ?_; (case zzkA => exact rfl); (case zzS => assumption); (case zzF => k_asm); (case zzN => k_asm); (case zzkK => exact rfl); (case zzpre => exact fun _ _ _ => trivial); (case zzhc => assumption); (case zzh1 => assumption); (case zzhx => assumption); (case zzhp => assumption); (case zzhd => first | (refine' room_d ?zzza ?zzzb; (case zzza => assumption); (case zzzb => first | decide | (refine Nat.succ_le_succ (Nat.le_trans ?_ (by assumption)); decide))) | (dsimp only [top]; omega)); (case zzhu => first | (refine' room_u ?zzza ?zzzb; (case zzza => assumption); (case zzzb => first | decide | (refine Nat.succ_le_succ (Nat.le_trans ?_ (by assumption)); decide))) | (dsimp only [top]; omega))); intro r' own' h' tk' F' N' hdis' hr'; obtain ⟨t', ta', tc', hr1, hr2⟩ := hr'; subst hr1; subst hr2; (try dsimp only); (try simp only [List.nil_append, List.cons_append] at N'); (replace hdis' := apartAll_of hdis'); (try simp only [ApartAll, Apart2, and_true] at hdis'))) | walk1 | (dsimp only; first | ((with_reducible show wpAny _ _ (eval (Expr.Constant (Const.int _) _ _) _) _ _ _); with_reducible refine const_i ?_) | ((with_reducible show wpAny _ _ (call (Value.builtin _) _) _ _ _); with_reducible (k_here; (with_reducible show wpAny _ _ (call (Value.builtin "len") [Value.bytes (List.toArray _) _]) _ _ _); (refine len_list (by (try simp only [List.length_append, cutI_length, List.length_cons, List.length_nil]); first | decide | omega) ?_); intro _ _)) | ((with_reducible show wpAny _ _ (execs (_ :: _) _) _ _ _); with_reducible (refine wpAny_execs_cons ?_; (try k_fold))) | ((with_reducible show wpAny _ _ (storeName _ _ _) _ _ _); with_reducible (k_here; k_dflt (refine' storeP ?zzF ?zzN ?_ ?zza ?zzb; (case zzF => k_asm); (case zzN => k_asm); (case zza => rfl); (case zzb => rfl); k_whole; intro h' tk' F' N'; (try k_sweep)))) | ((with_reducible show wpAny _ _ (call (Value.ref _) _) _ _ _); with_reducible (k_here; (with_reducible show wpAny _ _ (call (Value.ref 112) _) _ _ _); k_dflt (refine' call0 (sp112t0 _ _ _ ?zzh1 ?zzhx ?zzhc ?zzhp) ?zzS ?zzF ?zzN ?zzkK ?zzkA ?zzpre ?zzhd ?zzhu ?_; (case zzkA => exact rfl); (case zzS => assumption); (case zzF => k_asm); (case zzN => k_asm); (case zzkK => exact rfl); (case zzpre => exact fun _ _ _ => trivial); (case zzhc => assumption); (case zzh1 => assumption); (case zzhx => assumption); (case zzhp => assumption); (case zzhd => first | (refine' room_d ?zzza ?zzzb; (case zzza => assumption); (case zzzb => first | decide | (refine Nat.succ_le_succ (Nat.le_trans ?_ (by assumption)); decide))) | (dsimp only [top]; omega)); (case zzhu => first | (refine' room_u ?zzza ?zzzb; (case zzza => assumption); (case zzzb => first | decide | (refine Nat.succ_le_succ (Nat.le_trans ?_ (by assumption)); decide))) | (dsimp only [top]; omega))); intro r' own' h' tk' F' N' hdis' hr'; obtain ⟨t', ta', tc', hr1, hr2⟩ := hr'; subst hr1; subst hr2; (try dsimp only); (try simp only [List.nil_append, List.cons_append] at N'); (replace hdis' := apartAll_of hdis'); (try simp only [ApartAll, Apart2, and_true] at hdis'))) | walk1) | (leave1; (try dsimp only)) | fail "no step")
  all_goals (try k_data)
  all_goals (try (exfalso; omega))
  show R (.ok (.ret _)) _
  rename Fr _ _ _ _ => F9
  exact hret _ g [] _ _ rfl F9.keep (fun _ h => nomatch h) ⟨_, rfl, rfl⟩
theorem sp105d {w : World} {mean : ExcName → Option Value} {mg mb : Str → Option Value} (x : List UInt8) (t1 : Tok) (h1 : 0 < x.length) (hx : x.length ≤ 100000)
    {p : List UInt8} {l s' : Nat} (hc : clpF x 0 = some (p, true, l, s')) (hp : p.length ≤ 100000) (he : ((s' + l : Nat) : Int) = x.length) (hb : (cut x s' (s' + l)).length ≤ 8) (hz : (cutI (cut x s' (s' + l)) 0 1 == [0]) = false) :
  Spec w mean mg mb 105 12 ⟨[.bytes x.toArray t1, .ref 201], []⟩ false (fun _ => True) []
    (fun r own' => ∃ ta, r = .int (be (cut x s' (s' + l)) : Nat) ta ∧ own' = []) (fun _ _ _ => False) := by
  intro dp un gd base outer g s R S hg hsz ho hpp hd1 hu1 hret hexc
  refine enter S hg hsz ho (by k_is) (by k_is) ?_ (binds_K (S.inK.keeps hg) rfl (by k_is) rfl rfl rfl) (locs rfl) ?_ rfl rfl rfl (by decide)
  · exact room_0 hd1
  intro L' h₁ tk₁ hst hL F N B X T M₁ en₁ A₁
  (try dsimp only)
  k_fold
  repeat' (first | (k_unfold; (try dsimp only)) | (k_end; wrow_close) | ((with_reducible show wpAny _ _ (eval (Expr.Constant (Const.int _) _ _) _) _ _ _); with_reducible refine const_i ?_) | ((with_reducible show wpAny _ _ (call (Value.builtin _) _) _ _ _); with_reducible (k_here; (with_reducible show wpAny _ _ (call (Value.builtin "len") [Value.bytes (List.toArray _) _]) _ _ _); (refine len_list (by (try simp only [List.length_append, cutI_length, List.length_cons, List.length_nil]); first | decide | omega) ?_); intro _ _)) | ((with_reducible show wpAny _ _ (execs (_ :: _) _) _ _ _); with_reducible (refine wpAny_execs_cons ?_; (try k_fold))) | ((with_reducible show wpAny _ _ (storeName _ _ _) _ _ _); with_reducible (k_here; k_dflt (refine' storeP ?zzF ?zzN ?_ ?zza ?zzb; (case zzF => k_asm); (case zzN => k_asm); (case zza => rfl); (case zzb => rfl); k_whole; intro h' tk' F' N'; (try k_sweep)))) | ((with_reducible show wpAny _ _ (call (Value.ref _) _) _ _ _); with_reducible (k_here; (with_reducible show wpAny _ _ (call (Value.ref 112) _) _ _ _); k_dflt (refine' call0 (sp112t0 _ _ _ ?zzh1 ?zzhx ?zzhc ?zzhp) ?zzS ?zzF ?zzN ?zzkK ?zzkA ?zzpre ?zzhd ?zzhu ?_; (case zzkA => exact rfl); (case zzS => assumption); (case zzF => k_asm); (case zzN => k_asm); (case zzkK => exact rfl); (case zzpre => exact fun _ _ _ => trivial); (case zzhc => assumption); (case zzh1 => assumption); (case zzhx => assumption); (case zzhp => assumption); (case zzhd => first | (refine' room_d ?zzza ?zzzb; (case zzza => assumption); (case zzzb => first | decide | (refine Nat.succ_le_succ (Nat.le_trans ?_ (by assumption)); decide))) | (dsimp only [top]; omega)); (case zzhu => first | (refine' room_u ?zzza ?zzzb; (case zzza => assumption); (case zzzb => first | decide | (refine Nat.succ_le_succ (Nat.le_trans ?_ (by assumption)); decide))) | (dsimp only [top]; omega))); intro r' own' h' tk' F' N' hdis' hr'; obtain ⟨t', ta', tc', hr1, hr2⟩ := hr'; subst hr1; subst hr2; (try dsimp only); (try simp only [List.nil_append, List.cons_append] at N'); (replace hdis' := apartAll_of hdis'); (try simp only [ApartAll, Apart2, and_true] at hdis'))) | ((with_reducible show wpAny _ _ (call (Value.ref _) _) _ _ _); with_reducible (k_here; (with_reducible show wpAny _ _ (call (Value.ref 192) _) _ _ _); k_dflt (refine' call0 (sp192 _ _ ?zzhx ?zzhz) ?zzS ?zzF ?zzN ?zzkK ?zzkA ?zzpre ?zzhd ?zzhu ?_; (case zzkA => exact rfl); (case zzS => assumption); (case zzF => k_asm); (case zzN => k_asm); (case zzkK => exact rfl); (case zzpre => exact fun _ _ _ => trivial); (case zzhx => assumption); (case zzhz => assumption); (case zzhd => first | (refine' room_d ?zzza ?zzzb; (case zzza => assumption); (case zzzb => first | decide | (refine Nat.succ_le_succ (Nat.le_trans ?_ (by assumption)); decide))) | (dsimp only [top]; omega)); (case zzhu => first | (refine' room_u ?zzza ?zzzb; (case zzza => assumption); (case zzzb => first | decide | (refine Nat.succ_le_succ (Nat.le_trans ?_ (by assumption)); decide))) | (dsimp only [top]; omega))); intro r' own' h' tk' F' N' hdis' hr'; obtain ⟨t', hr1, hr2⟩ := hr'; subst hr1; subst hr2; (try simp only [List.nil_append] at N'))) | walk1 | (dsimp only; first | ((with_reducible show wpAny _ _ (eval (Expr.Constant (Const.int _) _ _) _) _ _ _); with_reducible refine const_i ?_) | ((with_reducible show wpAny _ _ (call (Value.builtin _) _) _ _ _); with_reducible (k_here; (with_reducible show wpAny _ _ (call (Value.builtin "len") [Value.bytes (List.toArray _) _]) _ _ _); (refine len_list (by (try simp only [List.length_append, cutI_length, List.length_cons, List.length_nil]); first | decide | omega) ?_); intro _ _)) | ((with_reducible show wpAny _ _ (execs (_ :: _) _) _ _ _); with_reducible (refine wpAny_execs_cons ?_; (try k_fold))) | ((with_reducible show wpAny _ _ (storeName _ _ _) _ _ _); with_reducible (k_here; k_dflt (refine' storeP ?zzF ?zzN ?_ ?zza ?zzb; (case zzF => k_asm); (case zzN => k_asm); (case zza => rfl); (case zzb => rfl); k_whole; intro h' tk' F' N'; (try k_sweep)))) | ((with_reducible show wpAny _ _ (call (Value.ref _) _) _ _ _); with_reducible (k_here; (with_reducible show wpAny _ _ (call (Value.ref 112) _) _ _ _); k_dflt (refine' call0 (sp112t0 _ _ _ ?zzh1 ?zzhx ?zzhc ?zzhp) ?zzS ?zzF ?zzN ?zzkK ?zzkA ?zzpre ?zzhd ?zzhu ?_; (case zzkA => exact rfl); (case zzS => assumption); (case zzF => k_asm); (case zzN => k_asm); (case zzkK => exact rfl); (case zzpre => exact fun _ _ _ => trivial); (case zzhc => assumption); (case zzh1 => assumption); (case zzhx => assumption); (case zzhp => assumption); (case zzhd => first | (refine' room_d ?zzza ?zzzb; (case zzza => assumption); (case zzzb => first | decide | (refine Nat.succ_le_succ (Nat.le_trans ?_ (by assumption)); decide))) | (dsimp only [top]; omega)); (case zzhu => first | (refine' room_u ?zzza ?zzzb; (case zzza => assumption); (case zzzb => first | decide | (refine Nat.succ_le_succ (Nat.le_trans ?_ (by assumption)); decide))) | (dsimp only [top]; omega))); intro r' own' h' tk' F' N' hdis' hr'; obtain ⟨t', ta', tc', hr1, hr2⟩ := hr'; subst hr1; subst hr2; (try dsimp only); (try simp only [List.nil_append, List.cons_append] at N'); (replace hdis' := apartAll_of hdis'); (try simp only [ApartAll, Apart2, and_true] at hdis'))) | ((with_reducible show wpAny _ _ (call (Value.ref _) _) _ _ _); with_reducible (k_here; (with_reducible show wpAny _ _ (call (Value.ref 192) _) _ _ _); k_dflt (refine' call0 (sp192 _ _ ?zzhx ?zzhz) ?zzS ?zzF ?zzN ?zzkK ?zzkA ?zzpre ?zzhd ?zzhu ?_; (case zzkA => exact rfl); (case zzS => assumption); (case zzF => k_asm); (case zzN => k_asm); (case zzkK => exact rfl); (case zzpre => exact fun _ _ _ => trivial); (case zzhx => assumption); (case zzhz => assumption); (case zzhd => first | (refine' room_d ?zzza ?zzzb; (case zzza => assumption); (case zzzb => first | decide | (refine Nat.succ_le_succ (Nat.le_trans ?_ (by assumption)); decide))) | (dsimp only [top]; omega)); (case zzhu => first | (refine' room_u ?zzza ?zzzb; (case zzza => assumption); (case zzzb => first | decide | (refine Nat.succ_le_succ (Nat.le_trans ?_ (by assumption)); decide))) | (dsimp only [top]; omega))); intro r' own' h' tk' F' N' hdis' hr'; obtain ⟨t', hr1, hr2⟩ := hr'; subst hr1; subst hr2; (try simp only [List.nil_append] at N'))) | walk1) | (leave1; (try dsimp only)) | fail "no step")
  all_goals (try k_data)
  all_goals (try (exfalso; omega))
  show R (.ok (.ret _)) _
  rename Fr _ _ _ _ => F9
  exact hret _ g [] _ _ rfl F9.keep (fun _ h => nomatch h) ⟨_, rfl, rfl⟩


end T_M12
section T_M13
open PySem PySem.W PyProof.Rows PySem.Spec PySem.Calls
set_option maxRecDepth 100000
set_option maxHeartbeats 1000000




section
variable {w : World} {A : Around} {E : Value → Shared → Prop} {s : Shared} {e so : Addr} {vs : Array Value} {oe : Obj}

theorem cls53 (w : World) : ∃ cd, clsIn (hd.heap_39 w.params) 53 = some cd ∧ cd.mro = [.ref 53, .ref 31, .type "Exception", .type "BaseException", .type "object"] ∧ cd.hasDict = true := ⟨_, by k_is, rfl, rfl⟩

theorem hC53 {h : Heap} (X : (hd.heap_39 w.params).In h) : ∃ nm q bs sn sub ab col dd k0 k1 k2 k3 k5, h.get? 53 = some (excClassObj nm q 53 52 bs [.ref 31, .type "Exception", .type "BaseException", .type "object"] true sn sub ab col dd k0 k1 k2 k3 k5 "Exception.__new__") :=
  ⟨_, _, _, _, _, _, _, _, _, _, _, _, _, X _ _ (by k_is)⟩
theorem T53 {h : Heap} (X : (hd.heap_39 w.params).In h) : OwnTail h [.type "Exception", .type "BaseException", .type "object"] [.ref 31, .type "Exception", .type "BaseException", .type "object"] := tail_of_in X (by kernel_rfl)
theorem store53 {v : Value} {Q : Unit → Shared → Prop} (X : (hd.heap_39 w.params).In s.heap) (he : s.heap.get? e = some oe) (hc : oe.cls = .ref 53) (hdn : oe.dict = none) (hdt : oe.data = .fields vs)
    (hq : ∀ h' dx tk, h'.get? e = some { cls := oe.cls, dict := some dx, data := oe.data, slots := oe.slots } → (∀ b o, b ≠ e → s.heap.get? b = some o → h'.get? b = some o) → Q () { s with heap := h', toks := tk }) :
    wpAny (model PG w) A (setAttr (.ref e) (Str.ofString "rlp") v) Q E s := by
  have I : InstAt s.heap e oe 53 none := ⟨he, hc, by unfold notCls; rw [hdt], by rw [hdn]; trivial⟩
  obtain ⟨cd, hcl, hmro, hdict⟩ := cls53 w
  refine set_plain X I (by k_is) ?_
  have SF := PySem.F.store_object
  have sub : Looks (model PG w) s.heap (isInstance (.ref e) (.type "object")) true := I.type.andThen (looks_mroIn X (by unfold mroIn; rw [hcl, Option.bind_some, hmro]; rfl))
  obtain ⟨hh, g, d, t, os⟩ := s
  dsimp only at X he I sub hq ⊢
  refine codeAny_call_builtin SF.slot.plain SF.entry (@check_slot (model PG w) _ _ _ "object.__setattr__" "object" "__setattr__" (.ref e) [.str (Str.ofString "rlp") t, v] [] _ SF.kind SF.split sub (SF.args (.ref e) (.str (Str.ofString "rlp") t) v) ?_)
  have hm : Looks (model PG w) hh (mroOf (.ref 53)) cd.mro := (looks_clsIn X hcl).andThen .now
  have ha : Looks (model PG w) hh (typeLookup (.ref 53) (Str.ofString "rlp")) none := looks_findIn X (by k_is)
  rw [osa_eq, refuse_eq]
  refine wpAny_bind (wpAny_bind (I.type.here (wpAny_bind (hm.here ?_))))
  rw [hmro, refuseLoop_ref, refuseLoop_ref, PySem.F.store_Exception.passes]
  refine wpAny_pure (wpAny_bind (I.type.here (wpAny_bind (ha.here (wpAny_bind (wpAny_pure ?_))))))
  dsimp only
  refine wpAny_bind (wpAny_pure (wpAny_bind (wpAny_bind (wpAny_loadPart he ?_))))
  rw [hc]
  refine wpAny_bind ((looks_clsIn X hcl).here ?_)
  rw [hdict, hdn]
  have hx₁ : (hh.push { cls := .type "dict", data := .dict #[] }).get? e = some oe := Heap.get?_push_of_some _ he
  have hxs : e ≠ hh.objs.size := Nat.ne_of_lt (Heap.lt_size he)
  have hgd : ((hh.push { cls := .type "dict", data := .dict #[] }).update e fun o => { cls := o.cls, dict := some hh.objs.size, data := o.data, slots := o.slots }).get? hh.objs.size
      = some { cls := .type "dict", data := .dict #[] } :=
    (Heap.get?_update_ne _ _ _ _ hxs.symm).trans (Heap.get?_push_at rfl rfl)
  have hnd : ((hh.push { cls := .type "dict", data := .dict #[] }).update e fun o => { cls := o.cls, dict := some hh.objs.size, data := o.data, slots := o.slots }).Ns hh.objs.size (fun _ => none) :=
    ⟨_, #[], _, hgd, rfl, fun e he => absurd he (by simp), fun _ => rfl⟩
  have hdc : ∀ c, oe.data ≠ .cls c := fun c q => by rw [hdt] at q; cases q
  refine wpAny_bind (wpAny_pure ?_)
  rw [hdt]
  dsimp only
  refine wpAny_bind (wpAny_alloc' ?_)
  refine wpAny_bind (wpAny_update' hx₁ ?_)
  refine wpAny_pure ?_
  show wpAny _ _ (Builtin.ObjectAttr.storeInDict hh.objs.size (.str (Str.ofString "rlp") t) (Str.ofString "rlp") v) _ _ _
  unfold Builtin.ObjectAttr.storeInDict Builtin.ObjectAttr.newKeyGuard
  refine wpAny_bind (wpAny_pure (wpAny_bind (wpAny_nsSet1 (Heap.Ns1.of_empty hnd) fun h' hn' hs => ?_)))
  obtain ⟨oD, esD, epD, hoD, hdD, hcD⟩ := hn'.count (Within.cons (Str.ofString "rlp") v Within.nil)
  refine wpAny_bind (wpAny_lookBehind hoD (by rw [hdD]; exact pastItsLine_dict (Nat.le_trans hcD (by rw [List.length_cons, List.length_nil, sizeLine_eq]; omega))) ?_)
  refine wpAny_pure ?_
  have hx' : h'.get? e = some { cls := oe.cls, dict := some hh.objs.size, data := oe.data, slots := oe.slots } := by
    refine (hs.2 e hxs).trans (Heap.get?_update_self _ hx₁ ?_)
    exact Obj.isFreed_of_fields hdt
  exact hq h' _ _ hx' fun b ob hbx hb => (hs.2 b (Nat.ne_of_lt (Heap.lt_size hb))).trans ((Heap.get?_update_ne _ _ _ _ hbx).trans (Heap.get?_push_of_some _ hb))

theorem wd_slot : Slot "wrapper_descriptor" "__get__" "wrapper_descriptor.__get__" := .of (owner := "wrapper_descriptor") (n := "__get__") (by rw [typeLookup_type, builtinLookup_eq_fast]; kernel_rfl) (by decide +kernel) (by decide +kernel) (by decide +kernel)
  (by first | exact .inl (by decide +kernel) | exact .inr (by decide +kernel)) (by rw [isSubtype_type]; kernel_rfl)
theorem wd_entry : entryFor table "wrapper_descriptor.__get__" = some Builtin.«wrapper_descriptor.__get__» := entryFor_of_tree (by kernel_rfl)
theorem wd_args (a b c : Value) : argsOk "wrapper_descriptor.__get__" ⟨[a, b, c], []⟩ := by unfold argsOk; kernel_rfl
theorem wd_type : typeOf (.builtin "Exception.__init__") = pure (.type "wrapper_descriptor") := by kernel_rfl
theorem sup53 (w : World) : alongIn (hd.heap_39 w.params) (Str.ofString "__init__") [.ref 31, .type "Exception", .type "BaseException", .type "object"] = some (some (.builtin "Exception.__init__")) := by kernel_rfl

theorem ga53 {tk : Tok} {Q : Fin → Shared → Prop} (X : (hd.heap_39 w.params).In s.heap) (hso : s.heap.get? so = some (ks_superObj 53 e 53)) (he : s.heap.get? e = some oe) (hc : oe.cls = .ref 53)
    (hno : Looks (model PG w) s.heap (opaqueClassAbove (.ref 53)) none) (hq : Q (.done (.ret (.ref s.heap.objs.size))) { s with heap := s.heap.push { cls := .type "method-wrapper", data := .fields #[.builtin "Exception.__init__", .ref e] } }) (hne : e ≠ 53) :
    wpAny (model PG w) A (Builtin.«super.__getattribute__» ⟨[.ref so, .str (Str.ofString "__init__") tk], []⟩) Q E s := by
  obtain ⟨cd, hcl, hmro, hdict⟩ := cls53 w
  obtain ⟨h, g, d, t, os⟩ := s
  dsimp only at X hso he hno hq ⊢
  have hC : Looks (model PG w) h (mroOf (.ref 53)) cd.mro := (looks_clsIn X hcl).andThen .now
  have hl : (cd.mro.dropWhile (· != .ref 53)).drop 1 = [.ref 31, .type "Exception", .type "BaseException", .type "object"] := by rw [hmro]; rfl
  have hlk := wd_slot.lookup
  have hne' : (Value.ref e == Value.ref 53) = false := by simp [hne]
  have hdt : (ks_superObj 53 e 53).data = .fields #[.ref 53, .ref e, .ref 53] := rfl
  have f0 : (#[.ref 53, .ref e, .ref 53] : Array Value)[0]? = some (.ref 53) := rfl
  have f1 : (#[.ref 53, .ref e, .ref 53] : Array Value)[1]? = some (.ref e) := rfl
  have f2 : (#[.ref 53, .ref e, .ref 53] : Array Value)[2]? = some (.ref 53) := rfl
  have hn : (Str.ofString "__init__" == ("__class__" : Str)) = false := by decide
  have hI : Looks (model PG w) h (isInstance (.ref e) (.type "Exception")) true := ((Looks.ld (part := none) he).andThen (by rw [hc]; exact .now)).andThen (looks_mroIn X (by unfold mroIn; rw [hcl, Option.bind_some, hmro]; rfl))
  unfold Builtin.«super.__getattribute__»
  repeat (first
    | (with_reducible refine wpAny_field hso hdt f0 ?_) | (with_reducible refine wpAny_field hso hdt f1 ?_) | (with_reducible refine wpAny_field hso hdt f2 ?_)
    | (with_reducible refine ks_wpAny_notOpaque hno ?_)
    | (with_reducible refine Looks.at hC ?_; rw [hl])
    | (refine ks_forIn_along X (fun _ _ => rfl) rfl ?_ (sup53 w))
    | (with_reducible refine wpAny_of_eq wd_type ?_)
    | (with_reducible refine wpAny_call_entry wd_slot (show typeOf (.builtin "Exception.__init__") = pure (.type "wrapper_descriptor") from wd_type) wd_entry ?_ (wd_args _ _ _))
    | (with_reducible refine ⟨_, rfl, ?_⟩)
    | (simp only [hn, hne', Bool.or_false, Bool.false_eq_true, if_false])
    | (with_reducible refine Looks.at hI ?_)
    | wp_step
    | dsimp only)
  refine codeAny_call_builtin wd_slot.plain wd_entry (wd_slot.check _ _ _ _ _ _ _ _ wd_type (wd_args _ _ _) ?_)
  unfold Builtin.«wrapper_descriptor.__get__»
  repeat (first
    | (with_reducible refine ⟨_, rfl, ?_⟩)
    | wp_step
    | dsimp only)
  have hS : Looks (model PG w) h (isSubtype (.ref 53) (.type "Exception")) true := looks_mroIn X (by unfold mroIn; rw [hcl, Option.bind_some, hmro]; rfl)
  rw [hc, show (".".intercalate ("Exception.__init__".cutAt '.').dropLast) = "Exception" from by decide +kernel]
  refine hS.here ?_
  unfold newFields
  repeat (first
    | (with_reducible refine ⟨_, rfl, ?_⟩)
    | (with_reducible refine wpAny_newObj_type ?_ (by size_fits))
    | wp_step
    | dsimp only)
  exact hq

theorem getm53 {pl : Sem Bool} {Q : Value × List Value → Shared → Prop} (X : (hd.heap_39 w.params).In s.heap) (hso : s.heap.get? so = some (ks_superObj 53 e 53)) (he : s.heap.get? e = some oe) (hc : oe.cls = .ref 53)
    (hne : e ≠ 53) (hq : Q (.ref s.heap.objs.size, []) { s with heap := s.heap.push { cls := .type "method-wrapper", data := .fields #[.builtin "Exception.__init__", .ref e] }, toks := s.toks + 1 }) :
    wpAny (model PG w) A (getMethod (.ref so) (Str.ofString "__init__") pl) Q E s := by
  have hno : Looks (model PG w) s.heap (opaqueClassAbove (.ref 53)) none := looks_opaque X (by k_is)
  have hlk := F.ks_slot_super_ga.lookup
  have hcan := F.ks_canon_super_ga
  obtain ⟨h, g, d, t, os⟩ := s
  dsimp only at X hso he hno hq ⊢
  have hT : ∀ t', (⟨h, g, d, t', os⟩ : Shared).TypeIs (.ref so) "super" := fun _ => ⟨_, hso, rfl⟩
  unfold getMethod
  refine wpAny_bind (wpAny_specialOf (hT _) hlk ?_)
  show wpAny _ _ (if (Manifest.canonical "super.__getattribute__" != "object.__getattribute__") = true then _ else _) _ _ _
  rw [if_pos hcan]
  unfold getAttr getAttrBy
  refine wpAny_bind (wpAny_bind (wpAny_mkText (wpAny_holding (wpAny_bind (wpAny_typeOf (hT _) (wpAny_bind (wpAny_of_eq hlk ?_)))))))
  show wpAny _ _ (getAttrByItsOwn (.ref so) (.str (Str.ofString "__init__") t) (.type "super") (.builtin "super.__getattribute__") true false) _ _ _
  unfold getAttrByItsOwn hookBefore callGetattribute boundAndCalled
  refine wpAny_bind (wpAny_of_eq (show (if onTheHeap (.type "super") then typeLookup (.type "super") "__getattr__" else pure none) = pure none from rfl) ?_)
  refine wpAny_bind (wpAny_attempt (wpAny_holding ?_))
  show wpAny _ _ (bindSpecial (.builtin "super.__getattribute__") (.ref so) >>= _) _ _ _
  refine wpAny_bind (wpAny_of_eq (F.ks_slot_super_ga.bind _) ?_)
  refine wpAny_mono (Q := fun v s' => v = .ref h.objs.size ∧ s' = ⟨h.push { cls := .type "method-wrapper", data := .fields #[.builtin "Exception.__init__", .ref e] }, g, d, t + 1, os⟩) (E := fun _ _ => False)
    (wpAny_call_entry F.ks_slot_super_ga (hT _) F.ks_entry_super_ga (ga53 (s := ⟨h, g, d, t + 1, os⟩) X hso he hc hno ⟨_, rfl, rfl, rfl⟩ hne) (F.ks_gaArgs_super _ _)) (fun v s' hv => ?_) fun _ _ z => z.elim
  obtain ⟨rfl, rfl⟩ := hv
  exact wpAny_pure (wpAny_pure hq)

theorem init53 {b t0 : Addr} {v : Value} {Q : Value → Shared → Prop} (X : (hd.heap_39 w.params).In s.heap) (hb : s.heap.get? b = some { cls := .type "method-wrapper", dict := none, data := .fields #[.builtin "Exception.__init__", .ref e], slots := #[] })
    (he : s.heap.get? e = some oe) (hc : oe.cls = .ref 53) (hdt : oe.data = .fields vs) (h0 : vs[0]? = some (.ref t0))
    (hq : Q .none { s with heap := (s.heap.push { cls := .type "tuple", data := .seq #[v] }).update e (Obj.mapFields (·.setIfInBounds 0 (.ref s.heap.objs.size))) }) :
    wpAny (model PG w) A (call (.ref b) [v]) Q E s := by
  have FE := PySem.F.excBase_Exception
  refine wpAny_call (codeAny_of_tree ?_)
  show wpAny _ A.in1 (callAny (.ref b) ⟨[v], []⟩) _ _ _
  unfold callAny
  refine wpAny_bind (wpAny_load hb ?_)
  show wpAny _ _ (do checkBoundCall "Exception.__init__" ⟨[.ref e, v], []⟩; let x ← again (.builtin "Exception.__init__" ⟨[.ref e, v], []⟩); pure x) _ _ _
  unfold checkBoundCall
  simp only [FE.initRow, FE.initKind]
  obtain ⟨_, _, _, _, _, _, _, _, _, _, _, _, _, hC⟩ := hC53 X
  have hshort := FE.noStar
  obtain ⟨hh, g, d, t, os⟩ := s
  dsimp only at X hb he hq hC ⊢
  repeat (first | (with_reducible refine wpAny_loadPart_at he ?_; rw [hc]) | with_reducible refine wpAny_loadPart_at hC ?_ | wp_step)
  have hsz : 0 < vs.size := (Array.getElem?_eq_some_iff.mp h0).1
  have he₁ := Heap.get?_push_of_some (h := hh) { cls := .type "tuple", data := .seq #[v] } he
  refine And.intro (Code.quiet_builtin _ (by decide +kernel)) (codeAny_builtin FE.initEntry ?_)
  unfold Builtin.«BaseException.__init__»
  dsimp only
  rw [if_neg (by simp)]
  unfold newTuple Builtin.BaseException.bexcPut
  refine wpAny_bind (wpAny_newObj_type (wpAny_bind (wpAny_bind (wpAny_field he₁ hdt h0 (wpAny_bind (wpAny_setField he₁ hdt hsz ?_))))) (by size_fits))
  exact wpAny_letGo (wpAny_pure hq)
end


end T_M13
section T_M14
open PySem PySem.W PyProof.Rows PySem.Spec PySem.Calls
set_option maxRecDepth 100000
set_option maxHeartbeats 1000000




noncomputable abbrev excO (t : Addr) (dx : Option Addr) : Obj := { cls := .ref 53, dict := dx, data := .fields #[.ref t, .none, .none, .none, .bool false, .none], slots := #[] }
noncomputable abbrev mwO (e : Addr) : Obj := { cls := .type "method-wrapper", dict := none, data := .fields #[.builtin "Exception.__init__", .ref e], slots := #[] }
theorem InstAt.of_exc {h₀ h : Heap} {L e t : Addr} {news : Led} (N : News h₀ L h news) (h1 : (e, excO t none) ∈ news) : InstAt h e (excO t none) 53 none := ⟨(N _ h1).1, rfl, rfl, trivial⟩

section
variable {w : World} {mean : ExcName → Option Value} {mg mb : Str → Option Value} {base g : Heap} {outer : List Env} {s : Shared} {dp un : Nat} {gd : Option (List Code)} {R : Result → Shared → Prop}
variable {name qual : Str} {params : Arguments} {body : List Stmt} {scope : Scope} {dV kV doc pm cdv ct oc : Value} {an od : Option Addr} {osl : Array (Option Value)} {f cc : Addr} {args : Args} {binds : List (Str × Value)} {own : Led}

/-- into the body of a def that closes over __class__ -/
theorem enterX (S : Site w mean mg mb base outer g) (hg : g.StaysIn s.heap) (hsz : g.objs.size ≤ s.heap.objs.size) (ho : Owns g s.heap own)
    (hf : (hd.heap_39 w.params).lookup f = some ⟨oc, od, .func (ksFn name qual params body scope dV kV doc pm an cdv ct cc), osl⟩)
    (hcd : codeIn (hd.heap_39 w.params) cdv qual = true) (hroom : dp < recursionLimit)
    (hbind : BindsTo s (ksFn name qual params body scope dV kV doc pm an cdv ct cc) args binds) (hloc : ∀ y ∈ binds, scope.names.lookup y.1 = some .local)
    (h : ∀ L' h₁, s.heap.StaysIn h₁ → L' = s.heap.objs.size → Fr g L' h₁ (fun y => binds.reverse.lookup y) → News g L' h₁ own → Below (top dp un gd outer) base outer g → (hd.heap_39 w.params).In g → Top hd.view_39 LZ mean mg mb g →
      (∀ p ∈ own, p.1 < L') →
      PySem.wpAt (model PG w) ((top dp un gd outer).deeper (ksEnv qual scope L' f cdv cc)) (.func body (ksEnv qual scope L' f cdv cc)) (execs body (ksEnv qual scope L' f cdv cc))
        (fun fl s' => R (.ok (.ret (match fl with | .ret v => v | _ => .none))) s')
        (fun e s' => wpAny (model PG w) ((top dp un gd outer).deeper (ksEnv qual scope L' f cdv cc)) (leaving (ksEnv qual scope L' f cdv cc) e) (fun _ s'' => R (.error e) s'') (fun e' s'' => R (.error e') s'') s')
        { s with heap := h₁, toks := s.toks + binds.length })
    (hco : scope.isCoroutine = false) (hgen : scope.isGenerator = false) (hk : scope.kind = .function)
    (hcell : ∀ x ∈ scope.names, x.2 ≠ .cell) : codeAny (model PG w) (top dp un gd outer) (.call (.ref f) args) R s := by
  have X := S.inK.keeps hg
  refine ks_codeAny_call_defAt (fd := ksFn name qual params body scope dV kV doc pm an cdv ct cc) (body := body) (binds := binds) hroom (X _ _ hf) rfl (S.top.nolimit.keeps hg) (codeRec_of X hcd) rfl hbind hcell hloc (fun h₁ hns hk₁ => ?_) hco hgen hk
  exact h s.heap.objs.size h₁ hk₁ rfl ⟨hns, fun b o e => hk₁ b o (hg b o e), hsz⟩
    (fun p hp => ⟨hk₁ _ _ (ho p hp).1, Nat.ne_of_lt (Heap.lt_size (ho p hp).1), (ho p hp).2⟩) S.below S.inK S.top (fun p hp => Heap.lt_size (ho p hp).1)
end

section
variable {w : World} {A : Around} {E : Value → Shared → Prop} {s : Shared} {e so b t : Addr} {h₀ : Heap} {L : Addr} {m : Str → Option Value} {news : Led} {f : Obj → Led}

theorem getm53N {pl : Sem Bool} {Q : Value × List Value → Shared → Prop} (F : Fr h₀ L s.heap m) (X₀ : (hd.heap_39 w.params).In h₀) (N : News h₀ L s.heap news) (hso : (so, ks_superObj 53 e 53) ∈ news) (he : (e, excO t none) ∈ news)
    (hq : ∀ q h', Fr h₀ L h' m → News h₀ L h' ((q, mwO e) :: news) → (∀ p ∈ news, p.1 < q) → Q (.ref q, []) { s with heap := h', toks := s.toks + 1 }) :
    wpAny (model PG w) A (getMethod (.ref so) (Str.ofString "__init__") pl) Q E s := by
  have X : (hd.heap_39 w.params).In s.heap := X₀.keeps F.keep
  have hne : e ≠ 53 := fun q => by
    subst q
    obtain ⟨_, _, _, _, _, _, _, _, _, _, _, _, _, hC⟩ := hC53 X₀
    have := (N _ he).2.2
    rw [hC] at this; cases this
  refine getm53 X (N _ hso).1 (N _ he).1 rfl hne ?_
  obtain ⟨F', N', l'⟩ := ks_newsPush (s := s) (o := mwO e) F N rfl (Heap.get?_push_at rfl rfl) (fun b o e => Heap.get?_push_of_some _ e)
  exact hq _ _ F' N' l'

theorem init53N {v : Value} {Q : Value → Shared → Prop} (F : Fr h₀ L s.heap m) (X₀ : (hd.heap_39 w.params).In h₀) (N : News h₀ L s.heap news) (hb : (b, mwO e) ∈ news) (U : UpdF e (excO t none) news f)
    (hq : ∀ t' h', Fr h₀ L h' m → News h₀ L h' (f (excO t' none)) → Q .none { s with heap := h' }) :
    wpAny (model PG w) A (call (.ref b) [v]) Q E s := by
  have X : (hd.heap_39 w.params).In s.heap := X₀.keeps F.keep
  obtain ⟨pre, post, rfl, hf, h1, h2⟩ := U.split
  have he := (N (e, excO t none) (by simp)).1
  refine init53 X (N _ hb).1 he rfl rfl rfl ?_
  have FP := F.push { cls := .type "tuple", data := .seq #[v] }
  have NP : News h₀ L (s.heap.push { cls := .type "tuple", data := .seq #[v] }) (pre ++ (e, excO t none) :: post) := fun p hp => ⟨Heap.get?_push_of_some _ (N p hp).1, (N p hp).2⟩
  obtain ⟨U1, U2⟩ := news_upd (f := Obj.mapFields (·.setIfInBounds 0 (.ref s.heap.objs.size))) (o' := excO s.heap.objs.size none) FP NP h1 h2 rfl rfl
  rw [← hf] at U2
  exact hq _ _ U1 U2

theorem store53N {v : Value} {Q : Unit → Shared → Prop} (F : Fr h₀ L s.heap m) (X₀ : (hd.heap_39 w.params).In h₀) (N : News h₀ L s.heap news) (U : UpdF e (excO t none) news f)
    (hq : ∀ dx h' tk, Fr h₀ L h' m → News h₀ L h' (f (excO t (some dx))) → Q () { s with heap := h', toks := tk }) :
    wpAny (model PG w) A (setAttr (.ref e) (Str.ofString "rlp") v) Q E s := by
  have X : (hd.heap_39 w.params).In s.heap := X₀.keeps F.keep
  obtain ⟨pre, post, rfl, hf, h1, h2⟩ := U.split
  have he := N (e, excO t none) (by simp)
  refine store53 X he.1 rfl rfl rfl fun h' dx tk h3 h4 => ?_
  obtain ⟨oL, es, ep, hL, r⟩ := F.ns
  refine hq dx h' tk ⟨⟨oL, es, ep, h4 _ _ (Ne.symm he.2.1) hL, r⟩, fun b o q => h4 b o (fun z => ?_) (F.keep b o q), F.above⟩ fun p hp => ?_
  · rw [z, he.2.2] at q; cases q
  · rw [hf] at hp
    rcases List.mem_append.mp hp with hp | hp
    · exact ⟨h4 _ _ (h1 p hp) (N p (List.mem_append_left _ hp)).1, (N p (List.mem_append_left _ hp)).2⟩
    · rcases List.mem_cons.mp hp with rfl | hp
      · exact ⟨h3, he.2⟩
      · exact ⟨h4 _ _ (h2 p hp) (N p (List.mem_append_right _ (.tail _ hp))).1, (N p (List.mem_append_right _ (.tail _ hp))).2⟩
end

section
variable {w : World} {A : Around} {E : Value → Shared → Prop} {s : Shared} {e u : Addr} {h₀ : Heap} {L : Addr} {news : Led}
noncomputable def MwAt (u e : Addr) (h : Heap) : Prop := h.get? u = some (mwO e)
theorem callWith_fieldsM {pos : Pos} {first : List Value} {args : List (Bool × Sem Value)} {Q : Value → Shared → Prop} (hplain : args.any (·.1) = false)
    (h : wpAny (model PG w) A (evalArgs (.ref u) true args []) (fun x s₁ => MwAt u e s₁.heap ∧ wpAny (model PG w) A (call (.ref u) (first ++ x.pos) x.kw) Q E s₁) E s) :
    wpAny (model PG w) A (callWith pos (.ref u) first args []) Q E s := by
  unfold callWith
  refine wpAny_bind (wpAny_holding (wpAny_mono h (fun x s₁ h₁ => wpAny_bind (wpAny_standAt ?_)) fun _ _ x => x))
  obtain ⟨ho, hcall⟩ := h₁
  simp only [hplain, List.any_nil, Bool.or_false]
  refine wpAny_bind (m := keeperOf (.ref u)) ?_
  unfold keeperOf
  refine wpAny_bind (wpAny_load ho ?_)
  simp only [show (Value.type "method-wrapper" != Value.type "method") = true by decide, show (Value.type "method-wrapper" == Value.type "builtin_function_or_method" || Value.type "method-wrapper" == Value.type "method-wrapper") = true by decide, if_true]
  refine wpAny_pure ?_
  exact wpAny_bind (wpAny_mono hcall (fun r s₂ hr => wpAny_bind (wpAny_holding (wpAny_point (wpAny_pure hr)))) fun _ _ x => x)
theorem callWith_mw {pos : Pos} {first : List Value} {env : Env} {x : Expr} {rest : List Expr} {Q : Value → Shared → Prop} (_N : News h₀ L s.heap news) (_hm : (u, mwO e) ∈ news)
    (h : wpAny (model PG w) A (spliced (backTo pos (starEach (x :: rest) env))) (fun vs s₁ => MwAt u e s₁.heap ∧ wpAny (model PG w) A (call (.ref u) (first ++ vs)) Q E s₁) E s)
    (he : starEach (x :: rest) env = (false, eval x env) :: starEach rest env := by rfl) (hplain : (backTo pos (starEach rest env)).any (·.1) = false := by rfl) :
    wpAny (model PG w) A (callWith pos (.ref u) first (backTo pos (starEach (x :: rest) env)) []) Q E s := by
  rw [he] at h ⊢
  refine callWith_fieldsM (e := e) (by show (false || (backTo pos (starEach rest env)).any (·.1)) = false; rw [hplain]; rfl) ?_
  exact evalArgs_plain h
theorem mw_of {h : Heap} (N : News h₀ L h news) (hm : (u, mwO e) ∈ news) : MwAt u e h := N.get hm
end
local macro_rules | `(tactic| k_inst) => `(tactic| (refine' InstAt.of_exc ?N ?h1; (case N => k_asm); (case h1 => k_mem)))

theorem sp50 {w : World} {mean : ExcName → Option Value} {mg mb : Str → Option Value} (e t : Addr) (msg : Str) (tm : Tok) (X : Array UInt8) (tX : Tok) :
  Spec w mean mg mb 50 4 ⟨[.ref e, .str msg tm, .bytes X tX], []⟩ false (fun _ => True) [(e, excO t none)]
    (fun r own' => r = .none ∧ ∃ t' dx, own' = [(e, excO t' (some dx))]) (fun _ _ _ => False) := by
  intro dp un gd base outer g s R S hg hsz ho hp hd1 hu1 hret hexc
  refine enterX S hg hsz ho (by k_is) (by k_is) ?_ (BindsTo.of_eq rfl) (locs rfl) ?_ rfl rfl rfl (by decide)
  · exact room_0 hd1
  intro L' h₁ hst hL F N B XX T l1
  k_lt l1
  (try dsimp only)
  repeat' (first | (k_unfold; (try dsimp only)) | (k_end; wrow_close) | ((with_reducible show wpAny _ _ (getMethod _ _ _) _ _ _); with_reducible (k_here; k_dflt (refine' getm53N ?zzF ?zzX ?zzN ?zza ?zzb ?_; (case zzF => k_asm); (case zzX => k_asm); (case zzN => k_asm); (case zza => k_mem); (case zzb => k_mem); k_whole); intro q' h' F' N' l1; (try k_lt l1); (try dsimp only))) | ((with_reducible show wpAny _ _ (callWith _ _ _ _ _) _ _ _); with_reducible (k_here; (with_reducible show wpAny _ _ (callWith _ (Value.ref _) _ (backTo _ (starEach (_ :: _) _)) []) _ _ _); k_dflt (refine' callWith_mw ?zzN ?zzM ?_; (case zzN => k_asm); (case zzM => k_mem); k_whole))) | ((with_reducible show wpAny _ _ (setAttr _ _ _) _ _ _); with_reducible (k_here; k_dflt (refine' store53N ?zzF ?zzX ?zzN ?zzU ?_; (case zzF => k_asm); (case zzX => k_asm); (case zzN => k_asm); (case zzU => k_updF); k_whole); intro dx' h' tk' F' N'; (try dsimp only at N'); (try dsimp only))) | ((with_reducible show wpAny _ _ (call (Value.ref _) _) _ _ _); with_reducible (k_here; k_dflt (refine' init53N ?zzF ?zzX ?zzN ?zza ?zzU ?_; (case zzF => k_asm); (case zzX => k_asm); (case zzN => k_asm); (case zza => k_mem); (case zzU => k_updF); k_whole); intro t' h' F' N'; (try dsimp only at N'); (try dsimp only))) | ((with_reducible show _ ∧ _); with_reducible ((with_reducible show MwAt _ _ _ ∧ _); k_dflt (refine ⟨mw_of (by k_asm) (by k_mem), ?_⟩); (try dsimp only [List.nil_append, List.cons_append]))) | walk1 | (dsimp only; first | ((with_reducible show wpAny _ _ (getMethod _ _ _) _ _ _); with_reducible (k_here; k_dflt (refine' getm53N ?zzF ?zzX ?zzN ?zza ?zzb ?_; (case zzF => k_asm); (case zzX => k_asm); (case zzN => k_asm); (case zza => k_mem); (case zzb => k_mem); k_whole); intro q' h' F' N' l1; (try k_lt l1); (try dsimp only))) | ((with_reducible show wpAny _ _ (callWith _ _ _ _ _) _ _ _); with_reducible (k_here; (with_reducible show wpAny _ _ (callWith _ (Value.ref _) _ (backTo _ (starEach (_ :: _) _)) []) _ _ _); k_dflt (refine' callWith_mw ?zzN ?zzM ?_; (case zzN => k_asm); (case zzM => k_mem); k_whole))) | ((with_reducible show wpAny _ _ (setAttr _ _ _) _ _ _); with_reducible (k_here; k_dflt (refine' store53N ?zzF ?zzX ?zzN ?zzU ?_; (case zzF => k_asm); (case zzX => k_asm); (case zzN => k_asm); (case zzU => k_updF); k_whole); intro dx' h' tk' F' N'; (try dsimp only at N'); (try dsimp only))) | ((with_reducible show wpAny _ _ (call (Value.ref _) _) _ _ _); with_reducible (k_here; k_dflt (refine' init53N ?zzF ?zzX ?zzN ?zza ?zzU ?_; (case zzF => k_asm); (case zzX => k_asm); (case zzN => k_asm); (case zza => k_mem); (case zzU => k_updF); k_whole); intro t' h' F' N'; (try dsimp only at N'); (try dsimp only))) | ((with_reducible show _ ∧ _); with_reducible ((with_reducible show MwAt _ _ _ ∧ _); k_dflt (refine ⟨mw_of (by k_asm) (by k_mem), ?_⟩); (try dsimp only [List.nil_append, List.cons_append]))) | walk1) | (leave1; (try dsimp only)) | fail "no step")
  show R (.ok (.ret _)) _
  rename Fr _ _ _ _ => F9
  rename News _ _ _ _ => N9
  exact hret _ g _ _ _ rfl F9.keep (News.owns (News.tail1 (News.tail1 N9))) ⟨rfl, _, _, rfl⟩
section
variable {w : World} {mean : ExcName → Option Value} {mg mb : Str → Option Value} {base h₀ : Heap} {outer : List Env} {s : Shared} {dp un : Nat} {gd : Option (List Code)} {Q E : Value → Shared → Prop}
variable {cn : Str} {cs : Scope} {L a : Addr} {ccd : Value} {m : Str → Option Value} {A : Around} {rest : Led}

/-- DecodingError(message, rlp) -/
theorem make53 {msg : Str} {tm : Tok} {X : Array UInt8} {tX : Tok}
    (S : Site w mean mg mb base outer h₀) (F : Fr h₀ L s.heap m) (N : News h₀ L s.heap rest) (hck : cs.kind = .function) (hA : A = top dp un gd (envOf cn cs L a ccd :: outer))
    (hd : dp + 5 < recursionLimit) (hu : un + 40 < cLine)
    (ret : ∀ e t dx h' tk, Fr h₀ L h' m → News h₀ L h' ((e, excO t (some dx)) :: rest) → (∀ p ∈ rest, p.1 ≠ e) → Q (.ref e) { s with heap := h', toks := tk }) :
    wpAny (model PG w) A (call (.ref 53) [.str msg tm, .bytes X tX]) Q E s := by
  have X₀ := S.inK.keeps F.keep
  have FE := PySem.F.excBase_Exception
  have Th := T53 X₀
  obtain ⟨_, _, _, _, _, _, _, _, _, _, _, _, _, hC⟩ := hC53 X₀
  have f1 := tc_lookup
  have f2 := tc_bind (.ref 53)
  obtain ⟨h, g, d, t, os⟩ := s
  dsimp only at X₀ F N hC Th ret ⊢
  have hT : (⟨h, g, d, t, os⟩ : Shared).TypeIs (.ref 53) "type" := ⟨_, hC, rfl⟩
  refine wpAny_call (codeAny_of_tree ?_)
  show wpAny _ _ (callAny (.ref 53) _) _ _ _
  repeat (any_goals (first | assumption | with_reducible refine wpAny_loadPart_at hC ?_ | wp_step))
  refine ⟨rfl, ?_⟩
  refine codeAny_call_builtin_at (Code.quiet_builtin _ (by decide +kernel)) entry_typeCall (wpAny_check_type_call_sub hC ?_)
  repeat (first | with_reducible refine wpAny_loadPart_at hC ?_ | with_reducible refine wpAny_madeBy_exc hC ?_ | wp_step)
  refine codeAny_call_builtin_code (Code.quiet_builtin _ FE.quiet) (wpAny_check_new_subU FE (by decide) Th hC ?_)
  refine codeAny_exc_new_subU FE (by decide) FE Th hC ?_ (Nat.le_of_ble_eq_true rfl)
  show wpAny _ _ _ _ _ _
  have FP := (F.push { cls := .type "tuple", data := .seq [Value.str msg tm, Value.bytes X tX].toArray }).push (excO h.objs.size none)
  have NP := (N.push F { cls := .type "tuple", data := .seq [Value.str msg tm, Value.bytes X tX].toArray }).push (F.push _) (excO h.objs.size none)
  rw [Heap.size_push] at NP
  have XP := S.inK.keeps FP.keep
  have l1 : ∀ p ∈ rest, @LT.lt Nat _ p.1 h.objs.size := fun p hp => Heap.lt_size (N p hp).1
  have I : InstAt ((h.push { cls := .type "tuple", data := .seq [Value.str msg tm, Value.bytes X tX].toArray }).push (excO h.objs.size none)) (h.objs.size + 1) (excO h.objs.size none) 53 none := ⟨(NP _ (.head _)).1, rfl, rfl, trivial⟩
  have hI : Looks (model PG w) ((h.push { cls := .type "tuple", data := .seq [Value.str msg tm, Value.bytes X tX].toArray }).push (excO h.objs.size none)) (isInstance (.ref (h.objs.size + 1)) (.ref 53)) true :=
    I.type.andThen (looks_mroIn XP (by k_is))
  refine wpAny_bind (hI.here ?_)
  rw [if_neg (by decide)]
  refine wpAny_bind (wpAny_holding (special_fn (s := ⟨_, g, d, t, os⟩) XP I (f := 50) (by k_is) (by k_is) ?_))
  have hA' : A.under (.builtin "type.__call__" ⟨[.ref 53, .str msg tm, .bytes X tX], []⟩) = top (dp + 1) (un + 1) gd (envOf cn cs L a ccd :: outer) := by
    subst hA; rfl
  refine wpAny_call (use (sp50 (h.objs.size + 1) h.objs.size msg tm X tX) (s := ⟨_, g, d, t, os⟩) S FP (rest := rest) (fun p hp => NP p (List.mem_cons_of_mem _ (List.mem_cons_of_mem _ hp))) (fun p hp => by
      rw [List.mem_singleton.mp hp]; exact NP _ (.head _)) (fun p hp q hq e => by
        rw [List.mem_singleton.mp hq] at e
        have := l1 p hp
        have e' : @Eq Nat p.1 (h.objs.size + 1) := e
        omega) hck hA' (fun _ _ _ => trivial) (by omega) (by omega) (fun r h₀' own' h'' tk hT S' F'' N'' hdis hr => ?_) fun _ _ _ _ _ _ _ _ _ _ he => he.elim)
  have : h₀' = h₀ := by simpa using hT
  subst this
  obtain ⟨rfl, t', dx, rfl⟩ := hr
  dsimp only
  rw [if_neg (by decide)]
  refine wpAny_pure ?_
  exact ret _ t' dx h'' tk F'' (fun p hp => N'' p (List.mem_append.mpr (by
    rcases List.mem_cons.mp hp with rfl | hp
    · exact .inr (.head _)
    · exact .inl hp))) (fun p hp => hdis p hp _ (.head _))
end


end T_M14
section T_M15
open PySem PySem.W PyProof.Rows PySem.Spec PySem.Calls
set_option maxRecDepth 100000
set_option maxHeartbeats 1000000




section
variable {w : World} {mean : ExcName → Option Value} {mg mb : Str → Option Value} {base g h₀ : Heap} {outer : List Env} {s s' : Shared} {dp un : Nat} {gd : Option (List Code)} {E : Value → Shared → Prop}
variable {cn name : Str} {cs scope : Scope} {L a e t : Addr} {dx : Option Addr} {ccd cd : Value} {m : Str → Option Value} {A : Around} {news : Led} {env : Env}

noncomputable def Rz53 (w : World) (E : Value → Shared → Prop) (v : Value) (s : Shared) : Prop := ∃ e t dx, v = .ref e ∧ (hd.heap_39 w.params).In s.heap ∧ s.heap.get? e = some (excO t dx) ∧ E (.ref e) s
theorem Rz53.intro (X₀ : (hd.heap_39 w.params).In h₀) (F : Fr h₀ L s.heap m) (N : News h₀ L s.heap news) (hm : (e, excO t dx) ∈ news) (h : E (.ref e) s) : Rz53 w E (.ref e) s :=
  ⟨e, _, _, rfl, X₀.keeps F.keep, N.get hm, h⟩
theorem raise53 {x : Str} {np cpos pos : Pos} {args : List Expr} {Q : Flow → Shared → Prop} (hh : A.handled = none)
    (h : wpAny (model PG w) A (eval (.Call (.Name x np) args [] cpos) env) (fun v s₁ => Rz53 w E v s₁) E s) :
    wpAny (model PG w) A (exec (.Raise (some (.Call (.Name x np) args [] cpos)) none pos) env) Q E s := by
  rw [arm_exec_Raise]
  have main : wpAny (model PG w) A (raiseStmt env (some (do let v ← eval (.Call (.Name x np) args [] cpos) env; standAt pos; pure v)) none) Q E s := by
    unfold raiseStmt
    refine wpAny_bind (wpAny_bind (wpAny_mono h (fun v s₁ h₁ => ?_) fun _ _ x => x))
    obtain ⟨e, t, dx, rfl, X, he, hE⟩ := h₁
    obtain ⟨_, _, _, _, _, _, _, _, _, _, _, _, _, hC⟩ := hC53 X
    refine wpAny_bind (wpAny_standAt (wpAny_pure ?_))
    obtain ⟨hp, g, d, tk, os⟩ := s₁
    dsimp only at he hC hE
    have hcB : ([.ref 53, .ref 31, .type "Exception", .type "BaseException", .type "object"] : List Value).contains (.type "BaseException") = true := by decide
    repeat (first | with_reducible refine wpAny_loadPart_at he ?_ | with_reducible refine wpAny_loadPart_at hC ?_ | (with_reducible refine wpAny_isSubtype_exc hC ?_; rw [hcB]) | wp_step)
    exact wpAny_raiseNew_none hh hE
  first
    | exact wpAny_bind (wpAny_standAt main)
    | (simp only [evalOpt, Option.map]; exact wpAny_bind (wpAny_standAt main))
    | (show wpAny _ A (do standAt pos; raiseStmt env (some (do let v ← eval (.Call (.Name x np) args [] cpos) env; standAt pos; pure v)) none) Q E s; exact wpAny_bind (wpAny_standAt main))

theorem leave53 {Q : Unit → Shared → Prop} (K : Below A base outer g) (F : Fr g L s'.heap m) (N : News g L s'.heap news) (hm : (e, excO t dx) ∈ news)
    (hQ : ∀ h', RaisedSX base g outer e (.ref 53) .none [] h' → g.UpToSlots h' → Q () { s' with heap := h' }) (hk : scope.kind = .function := by rfl) :
    wpAny (model PG w) (A.deeper (envOf name scope L a cd)) (leaving (envOf name scope L a cd) (.ref e)) Q E s' := by
  obtain ⟨he, heL, heg⟩ := N _ hm
  obtain ⟨oL, es, ep, hL, r⟩ := F.ns
  have hne : ∀ b, b ≠ e → b ∉ ([e] : List Addr) := fun b q z => q (List.mem_singleton.mp z)
  refine leave0X (h := hideAll s'.heap [e]) (news := []) (oe := excO t dx) K ⟨⟨oL, es, ep, hideAll_get _ hL (hne _ (Ne.symm heL)), r⟩, fun b o q => hideAll_get _ (F.keep b o q) (hne _ fun z => by dsimp only at heg; rw [z, heg] at q; cases q), F.above⟩ (fun _ h => nomatch h)
    (fun b o q _ _ => of_hideAll _ q) (hideAll_none _ (.head _)) he rfl rfl rfl rfl rfl hQ hk
end


theorem sp105xf {w : World} {mean : ExcName → Option Value} {mg mb : Str → Option Value} (x : List UInt8) (t1 : Tok) (h1 : 0 < x.length) (hx : x.length ≤ 100000)
    {p : List UInt8} {l s' : Nat} (hc : clpF x 0 = some (p, false, l, s')) (he : ((s' + l : Nat) : Int) ≠ x.length) :
  Spec w mean mg mb 105 12 ⟨[.bytes x.toArray t1], []⟩ false (fun _ => True) []
    (fun r own' => False) (fun cls c own' => cls = .ref 53 ∧ c = .none ∧ own' = []) := by
  intro dp un gd base outer g s R S hg hsz ho hpp hd1 hu1 hret hexc
  have kdX := S.dicts
  have hXB := S.inB
  refine enter S hg hsz ho (by k_is) (by k_is) ?_ (binds_K (S.inK.keeps hg) rfl (by k_is) rfl rfl rfl) (locs rfl) ?_ rfl rfl rfl (by decide)
  · exact room_0 hd1
  intro L' h₁ tk₁ hst hL F N B X T M₁ en₁ A₁
  (try dsimp only)
  k_fold
  repeat' (first | (k_unfold; (try dsimp only)) | (k_end; wrow_close) | ((with_reducible show wpAny _ _ (exec (Stmt.Raise _ _ _) _) _ _ _); with_reducible (k_here; (with_reducible show wpAny _ _ (exec (Stmt.Raise (some (Expr.Call (Expr.Name ("DecodingError" : Str) _) _ [] _)) none _) _) _ _ _); k_dflt (refine' raise53 ?zzhh ?_; (case zzhh => exact rfl)))) | ((with_reducible show wpAny _ _ (eval (Expr.Constant (Const.int _) _ _) _) _ _ _); with_reducible refine const_i ?_) | ((with_reducible show wpAny _ _ (call (Value.builtin _) _) _ _ _); with_reducible (k_here; (with_reducible show wpAny _ _ (call (Value.builtin "len") [Value.bytes (List.toArray _) _]) _ _ _); (refine len_list (by (try simp only [List.length_append, cutI_length, List.length_cons, List.length_nil]); first | decide | omega) ?_); intro _ _)) | ((with_reducible show wpAny _ _ (leaving _ _) _ _ _); with_reducible (k_here; k_dflt (refine' leave53 ?zzK ?zzF ?zzN ?zzm ?_ ?zzk; (case zzk => exact rfl); (case zzK => assumption); (case zzF => k_asm); (case zzN => k_asm); (case zzm => exact List.mem_cons_self ..)); k_whole; intro h' S' U'; (try dsimp only at S' U' ⊢))) | ((with_reducible show wpAny _ _ (execs (_ :: _) _) _ _ _); with_reducible (refine wpAny_execs_cons ?_; (try k_fold))) | ((with_reducible show wpAny _ _ (storeName _ _ _) _ _ _); with_reducible (k_here; k_dflt (refine' storeP ?zzF ?zzN ?_ ?zza ?zzb; (case zzF => k_asm); (case zzN => k_asm); (case zza => rfl); (case zzb => rfl); k_whole; intro h' tk' F' N'; (try k_sweep)))) | ((with_reducible show wpAny _ _ (call (Value.ref _) _) _ _ _); with_reducible (k_here; (with_reducible show wpAny _ _ (call (Value.ref 53) _) _ _ _); k_dflt (refine' make53 ?zzS ?zzF ?zzN ?zzkK ?zzkA ?zzhd ?zzhu ?_; (case zzkA => exact rfl); (case zzS => assumption); (case zzF => k_asm); (case zzN => k_asm); (case zzkK => exact rfl); (case zzhd => first | (refine' room_d ?zzza ?zzzb; (case zzza => assumption); (case zzzb => first | decide | (refine Nat.succ_le_succ (Nat.le_trans ?_ (by assumption)); decide))) | (dsimp only [top]; omega)); (case zzhu => first | (refine' room_u ?zzza ?zzzb; (case zzza => assumption); (case zzzb => first | decide | (refine Nat.succ_le_succ (Nat.le_trans ?_ (by assumption)); decide))) | (dsimp only [top]; omega))); intro e' t' dx' h' tk' F' N' hdis'; (try dsimp only); (try dsimp only at N'))) | ((with_reducible show wpAny _ _ (call (Value.ref _) _) _ _ _); with_reducible (k_here; (with_reducible show wpAny _ _ (call (Value.ref 112) _) _ _ _); k_dflt (refine' call0 (sp112f0 _ _ _ ?zzh1 ?zzhx ?zzhc) ?zzS ?zzF ?zzN ?zzkK ?zzkA ?zzpre ?zzhd ?zzhu ?_; (case zzkA => exact rfl); (case zzS => assumption); (case zzF => k_asm); (case zzN => k_asm); (case zzkK => exact rfl); (case zzpre => exact fun _ _ _ => trivial); (case zzhc => assumption); (case zzh1 => assumption); (case zzhx => assumption); (case zzhd => first | (refine' room_d ?zzza ?zzzb; (case zzza => assumption); (case zzzb => first | decide | (refine Nat.succ_le_succ (Nat.le_trans ?_ (by assumption)); decide))) | (dsimp only [top]; omega)); (case zzhu => first | (refine' room_u ?zzza ?zzzb; (case zzza => assumption); (case zzzb => first | decide | (refine Nat.succ_le_succ (Nat.le_trans ?_ (by assumption)); decide))) | (dsimp only [top]; omega))); intro r' own' h' tk' F' N' hdis' hr'; obtain ⟨t', tc', q', hr1, hr2, hq1, hq2, hq3⟩ := hr'; subst hr1; subst hr2; (try dsimp only); (try simp only [List.nil_append, List.cons_append] at N'); (replace hdis' := apartAll_of hdis'); (try simp only [ApartAll, Apart2, and_true] at hdis'); (obtain ⟨qx', qdx', ql', qX', qtX', qst', qts', qen', qte', qix', qti', qels', qep', qln', qsd', qk1', qk2', qk3', qk4', qk5', qk6', qk7', qrem'⟩ := q'); (obtain ⟨hqa1', hqa2', hqa3'⟩ := hq1); (try dsimp only at hqa1' hqa2' hqa3' hq2 hq3); (obtain ⟨hqc1', hqc2', hqc3'⟩ := hq2); (obtain ⟨hqb1', hqb2', hqb3', hqb4', hqb5', hqb6', hqb7'⟩ := hq3); (subst hqb1' hqb2' hqb3' hqb4' hqb5' hqb6' hqb7'); (try dsimp only [LS.objs, LS.dict] at N'); (try dsimp only))) | ((with_reducible show Rz53 _ _ _ _); with_reducible (k_here; k_dflt (refine' Rz53.intro ?zzX ?zzF ?zzN ?zzm ?_; (case zzX => k_asm); (case zzF => k_asm); (case zzN => k_asm); (case zzm => exact List.mem_cons_self ..)); (try dsimp only))) | walk1 | (dsimp only; first | ((with_reducible show wpAny _ _ (exec (Stmt.Raise _ _ _) _) _ _ _); with_reducible (k_here; (with_reducible show wpAny _ _ (exec (Stmt.Raise (some (Expr.Call (Expr.Name ("DecodingError" : Str) _) _ [] _)) none _) _) _ _ _); k_dflt (refine' raise53 ?zzhh ?_; (case zzhh => exact rfl)))) | ((with_reducible show wpAny _ _ (eval (Expr.Constant (Const.int _) _ _) _) _ _ _); with_reducible refine const_i ?_) | ((with_reducible show wpAny _ _ (call (Value.builtin _) _) _ _ _); with_reducible (k_here; (with_reducible show wpAny _ _ (call (Value.builtin "len") [Value.bytes (List.toArray _) _]) _ _ _); (refine len_list (by (try simp only [List.length_append, cutI_length, List.length_cons, List.length_nil]); first | decide | omega) ?_); intro _ _)) | ((with_reducible show wpAny _ _ (leaving _ _) _ _ _); with_reducible (k_here; k_dflt (refine' leave53 ?zzK ?zzF ?zzN ?zzm ?_ ?zzk; (case zzk => exact rfl); (case zzK => assumption); (case zzF => k_asm); (case zzN => k_asm); (case zzm => exact List.mem_cons_self ..)); k_whole; intro h' S' U'; (try dsimp only at S' U' ⊢))) | ((with_reducible show wpAny _ _ (execs (_ :: _) _) _ _ _); with_reducible (refine wpAny_execs_cons ?_; (try k_fold))) | ((with_reducible show wpAny _ _ (storeName _ _ _) _ _ _); with_reducible (k_here; k_dflt (refine' storeP ?zzF ?zzN ?_ ?zza ?zzb; (case zzF => k_asm); (case zzN => k_asm); (case zza => rfl); (case zzb => rfl); k_whole; intro h' tk' F' N'; (try k_sweep)))) | ((with_reducible show wpAny _ _ (call (Value.ref _) _) _ _ _); with_reducible (k_here; (with_reducible show wpAny _ _ (call (Value.ref 53) _) _ _ _); k_dflt (refine' make53 ?zzS ?zzF ?zzN ?zzkK ?zzkA ?zzhd ?zzhu ?_; (case zzkA => exact rfl); (case zzS => assumption); (case zzF => k_asm); (case zzN => k_asm); (case zzkK => exact rfl); (case zzhd => first | (refine' room_d ?zzza ?zzzb; (case zzza => assumption); (case zzzb => first | decide | (refine Nat.succ_le_succ (Nat.le_trans ?_ (by assumption)); decide))) | (dsimp only [top]; omega)); (case zzhu => first | (refine' room_u ?zzza ?zzzb; (case zzza => assumption); (case zzzb => first | decide | (refine Nat.succ_le_succ (Nat.le_trans ?_ (by assumption)); decide))) | (dsimp only [top]; omega))); intro e' t' dx' h' tk' F' N' hdis'; (try dsimp only); (try dsimp only at N'))) | ((with_reducible show wpAny _ _ (call (Value.ref _) _) _ _ _); with_reducible (k_here; (with_reducible show wpAny _ _ (call (Value.ref 112) _) _ _ _); k_dflt (refine' call0 (sp112f0 _ _ _ ?zzh1 ?zzhx ?zzhc) ?zzS ?zzF ?zzN ?zzkK ?zzkA ?zzpre ?zzhd ?zzhu ?_; (case zzkA => exact rfl); (case zzS => assumption); (case zzF => k_asm); (case zzN => k_asm); (case zzkK => exact rfl); (case zzpre => exact fun _ _ _ => trivial); (case zzhc => assumption); (case zzh1 => assumption); (case zzhx => assumption); (case zzhd => first | (refine' room_d ?zzza ?zzzb; (case zzza => assumption); (case zzzb => first | decide | (refine Nat.succ_le_succ (Nat.le_trans ?_ (by assumption)); decide))) | (dsimp only [top]; omega)); (case zzhu => first | (refine' room_u ?zzza ?zzzb; (case zzza => assumption); (case zzzb => first | decide | (refine Nat.succ_le_succ (Nat.le_trans ?_ (by assumption)); decide))) | (dsimp only [top]; omega))); intro r' own' h' tk' F' N' hdis' hr'; obtain ⟨t', tc', q', hr1, hr2, hq1, hq2, hq3⟩ := hr'; subst hr1; subst hr2; (try dsimp only); (try simp only [List.nil_append, List.cons_append] at N'); (replace hdis' := apartAll_of hdis'); (try simp only [ApartAll, Apart2, and_true] at hdis'); (obtain ⟨qx', qdx', ql', qX', qtX', qst', qts', qen', qte', qix', qti', qels', qep', qln', qsd', qk1', qk2', qk3', qk4', qk5', qk6', qk7', qrem'⟩ := q'); (obtain ⟨hqa1', hqa2', hqa3'⟩ := hq1); (try dsimp only at hqa1' hqa2' hqa3' hq2 hq3); (obtain ⟨hqc1', hqc2', hqc3'⟩ := hq2); (obtain ⟨hqb1', hqb2', hqb3', hqb4', hqb5', hqb6', hqb7'⟩ := hq3); (subst hqb1' hqb2' hqb3' hqb4' hqb5' hqb6' hqb7'); (try dsimp only [LS.objs, LS.dict] at N'); (try dsimp only))) | ((with_reducible show Rz53 _ _ _ _); with_reducible (k_here; k_dflt (refine' Rz53.intro ?zzX ?zzF ?zzN ?zzm ?_; (case zzX => k_asm); (case zzF => k_asm); (case zzN => k_asm); (case zzm => exact List.mem_cons_self ..)); (try dsimp only))) | walk1) | (leave1; (try dsimp only)) | fail "no step")
  all_goals (try k_data)
  all_goals (try (exfalso; first | omega | contradiction))
  rename RaisedSX _ _ _ _ _ _ _ _ => S9
  rename Heap.UpToSlots _ _ => U9
  exact hexc _ _ _ _ _ _ S9 U9 ⟨rfl, rfl, rfl⟩
theorem sp105xt {w : World} {mean : ExcName → Option Value} {mg mb : Str → Option Value} (x : List UInt8) (t1 : Tok) (h1 : 0 < x.length) (hx : x.length ≤ 100000)
    {p : List UInt8} {l s' : Nat} (hc : clpF x 0 = some (p, true, l, s')) (hp : p.length ≤ 100000) (he : ((s' + l : Nat) : Int) ≠ x.length) :
  Spec w mean mg mb 105 12 ⟨[.bytes x.toArray t1], []⟩ false (fun _ => True) []
    (fun r own' => False) (fun cls c own' => cls = .ref 53 ∧ c = .none ∧ own' = []) := by
  intro dp un gd base outer g s R S hg hsz ho hpp hd1 hu1 hret hexc
  have kdX := S.dicts
  have hXB := S.inB
  refine enter S hg hsz ho (by k_is) (by k_is) ?_ (binds_K (S.inK.keeps hg) rfl (by k_is) rfl rfl rfl) (locs rfl) ?_ rfl rfl rfl (by decide)
  · exact room_0 hd1
  intro L' h₁ tk₁ hst hL F N B X T M₁ en₁ A₁
  (try dsimp only)
  k_fold
  repeat' (first | (k_unfold; (try dsimp only)) | (k_end; wrow_close) | ((with_reducible show wpAny _ _ (exec (Stmt.Raise _ _ _) _) _ _ _); with_reducible (k_here; (with_reducible show wpAny _ _ (exec (Stmt.Raise (some (Expr.Call (Expr.Name ("DecodingError" : Str) _) _ [] _)) none _) _) _ _ _); k_dflt (refine' raise53 ?zzhh ?_; (case zzhh => exact rfl)))) | ((with_reducible show wpAny _ _ (eval (Expr.Constant (Const.int _) _ _) _) _ _ _); with_reducible refine const_i ?_) | ((with_reducible show wpAny _ _ (call (Value.builtin _) _) _ _ _); with_reducible (k_here; (with_reducible show wpAny _ _ (call (Value.builtin "len") [Value.bytes (List.toArray _) _]) _ _ _); (refine len_list (by (try simp only [List.length_append, cutI_length, List.length_cons, List.length_nil]); first | decide | omega) ?_); intro _ _)) | ((with_reducible show wpAny _ _ (leaving _ _) _ _ _); with_reducible (k_here; k_dflt (refine' leave53 ?zzK ?zzF ?zzN ?zzm ?_ ?zzk; (case zzk => exact rfl); (case zzK => assumption); (case zzF => k_asm); (case zzN => k_asm); (case zzm => exact List.mem_cons_self ..)); k_whole; intro h' S' U'; (try dsimp only at S' U' ⊢))) | ((with_reducible show wpAny _ _ (execs (_ :: _) _) _ _ _); with_reducible (refine wpAny_execs_cons ?_; (try k_fold))) | ((with_reducible show wpAny _ _ (storeName _ _ _) _ _ _); with_reducible (k_here; k_dflt (refine' storeP ?zzF ?zzN ?_ ?zza ?zzb; (case zzF => k_asm); (case zzN => k_asm); (case zza => rfl); (case zzb => rfl); k_whole; intro h' tk' F' N'; (try k_sweep)))) | ((with_reducible show wpAny _ _ (call (Value.ref _) _) _ _ _); with_reducible (k_here; (with_reducible show wpAny _ _ (call (Value.ref 53) _) _ _ _); k_dflt (refine' make53 ?zzS ?zzF ?zzN ?zzkK ?zzkA ?zzhd ?zzhu ?_; (case zzkA => exact rfl); (case zzS => assumption); (case zzF => k_asm); (case zzN => k_asm); (case zzkK => exact rfl); (case zzhd => first | (refine' room_d ?zzza ?zzzb; (case zzza => assumption); (case zzzb => first | decide | (refine Nat.succ_le_succ (Nat.le_trans ?_ (by assumption)); decide))) | (dsimp only [top]; omega)); (case zzhu => first | (refine' room_u ?zzza ?zzzb; (case zzza => assumption); (case zzzb => first | decide | (refine Nat.succ_le_succ (Nat.le_trans ?_ (by assumption)); decide))) | (dsimp only [top]; omega))); intro e' t' dx' h' tk' F' N' hdis'; (try dsimp only); (try dsimp only at N'))) | ((with_reducible show wpAny _ _ (call (Value.ref _) _) _ _ _); with_reducible (k_here; (with_reducible show wpAny _ _ (call (Value.ref 112) _) _ _ _); k_dflt (refine' call0 (sp112t0 _ _ _ ?zzh1 ?zzhx ?zzhc ?zzhp) ?zzS ?zzF ?zzN ?zzkK ?zzkA ?zzpre ?zzhd ?zzhu ?_; (case zzkA => exact rfl); (case zzS => assumption); (case zzF => k_asm); (case zzN => k_asm); (case zzkK => exact rfl); (case zzpre => exact fun _ _ _ => trivial); (case zzhc => assumption); (case zzh1 => assumption); (case zzhx => assumption); (case zzhp => assumption); (case zzhd => first | (refine' room_d ?zzza ?zzzb; (case zzza => assumption); (case zzzb => first | decide | (refine Nat.succ_le_succ (Nat.le_trans ?_ (by assumption)); decide))) | (dsimp only [top]; omega)); (case zzhu => first | (refine' room_u ?zzza ?zzzb; (case zzza => assumption); (case zzzb => first | decide | (refine Nat.succ_le_succ (Nat.le_trans ?_ (by assumption)); decide))) | (dsimp only [top]; omega))); intro r' own' h' tk' F' N' hdis' hr'; obtain ⟨t', ta', tc', hr1, hr2⟩ := hr'; subst hr1; subst hr2; (try dsimp only); (try simp only [List.nil_append, List.cons_append] at N'); (replace hdis' := apartAll_of hdis'); (try simp only [ApartAll, Apart2, and_true] at hdis'))) | ((with_reducible show Rz53 _ _ _ _); with_reducible (k_here; k_dflt (refine' Rz53.intro ?zzX ?zzF ?zzN ?zzm ?_; (case zzX => k_asm); (case zzF => k_asm); (case zzN => k_asm); (case zzm => exact List.mem_cons_self ..)); (try dsimp only))) | walk1 | (dsimp only; first | ((with_reducible show wpAny _ _ (exec (Stmt.Raise _ _ _) _) _ _ _); with_reducible (k_here; (with_reducible show wpAny _ _ (exec (Stmt.Raise (some (Expr.Call (Expr.Name ("DecodingError" : Str) _) _ [] _)) none _) _) _ _ _); k_dflt (refine' raise53 ?zzhh ?_; (case zzhh => exact rfl)))) | ((with_reducible show wpAny _ _ (eval (Expr.Constant (Const.int _) _ _) _) _ _ _); with_reducible refine const_i ?_) | ((with_reducible show wpAny _ _ (call (Value.builtin _) _) _ _ _); with_reducible (k_here; (with_reducible show wpAny _ _ (call (Value.builtin "len") [Value.bytes (List.toArray _) _]) _ _ _); (refine len_list (by (try simp only [List.length_append, cutI_length, List.length_cons, List.length_nil]); first | decide | omega) ?_); intro _ _)) | ((with_reducible show wpAny _ _ (leaving _ _) _ _ _); with_reducible (k_here; k_dflt (refine' leave53 ?zzK ?zzF ?zzN ?zzm ?_ ?zzk; (case zzk => exact rfl); (case zzK => assumption); (case zzF => k_asm); (case zzN => k_asm); (case zzm => exact List.mem_cons_self ..)); k_whole; intro h' S' U'; (try dsimp only at S' U' ⊢))) | ((with_reducible show wpAny _ _ (execs (_ :: _) _) _ _ _); with_reducible (refine wpAny_execs_cons ?_; (try k_fold))) | ((with_reducible show wpAny _ _ (storeName _ _ _) _ _ _); with_reducible (k_here; k_dflt (refine' storeP ?zzF ?zzN ?_ ?zza ?zzb; (case zzF => k_asm); (case zzN => k_asm); (case zza => rfl); (case zzb => rfl); k_whole; intro h' tk' F' N'; (try k_sweep)))) | ((with_reducible show wpAny _ _ (call (Value.ref _) _) _ _ _); with_reducible (k_here; (with_reducible show wpAny _ _ (call (Value.ref 53) _) _ _ _); k_dflt (refine' make53 ?zzS ?zzF ?zzN ?zzkK ?zzkA ?zzhd ?zzhu ?_; (case zzkA => exact rfl); (case zzS => assumption); (case zzF => k_asm); (case zzN => k_asm); (case zzkK => exact rfl); (case zzhd => first | (refine' room_d ?zzza ?zzzb; (case zzza => assumption); (case zzzb => first | decide | (refine Nat.succ_le_succ (Nat.le_trans ?_ (by assumption)); decide))) | (dsimp only [top]; omega)); (case zzhu => first | (refine' room_u ?zzza ?zzzb; (case zzza => assumption); (case zzzb => first | decide | (refine Nat.succ_le_succ (Nat.le_trans ?_ (by assumption)); decide))) | (dsimp only [top]; omega))); intro e' t' dx' h' tk' F' N' hdis'; (try dsimp only); (try dsimp only at N'))) | ((with_reducible show wpAny _ _ (call (Value.ref _) _) _ _ _); with_reducible (k_here; (with_reducible show wpAny _ _ (call (Value.ref 112) _) _ _ _); k_dflt (refine' call0 (sp112t0 _ _ _ ?zzh1 ?zzhx ?zzhc ?zzhp) ?zzS ?zzF ?zzN ?zzkK ?zzkA ?zzpre ?zzhd ?zzhu ?_; (case zzkA => exact rfl); (case zzS => assumption); (case zzF => k_asm); (case zzN => k_asm); (case zzkK => exact rfl); (case zzpre => exact fun _ _ _ => trivial); (case zzhc => assumption); (case zzh1 => assumption); (case zzhx => assumption); (case zzhp => assumption); (case zzhd => first | (refine' room_d ?zzza ?zzzb; (case zzza => assumption); (case zzzb => first | decide | (refine Nat.succ_le_succ (Nat.le_trans ?_ (by assumption)); decide))) | (dsimp only [top]; omega)); (case zzhu => first | (refine' room_u ?zzza ?zzzb; (case zzza => assumption); (case zzzb => first | decide | (refine Nat.succ_le_succ (Nat.le_trans ?_ (by assumption)); decide))) | (dsimp only [top]; omega))); intro r' own' h' tk' F' N' hdis' hr'; obtain ⟨t', ta', tc', hr1, hr2⟩ := hr'; subst hr1; subst hr2; (try dsimp only); (try simp only [List.nil_append, List.cons_append] at N'); (replace hdis' := apartAll_of hdis'); (try simp only [ApartAll, Apart2, and_true] at hdis'))) | ((with_reducible show Rz53 _ _ _ _); with_reducible (k_here; k_dflt (refine' Rz53.intro ?zzX ?zzF ?zzN ?zzm ?_; (case zzX => k_asm); (case zzF => k_asm); (case zzN => k_asm); (case zzm => exact List.mem_cons_self ..)); (try dsimp only))) | walk1) | (leave1; (try dsimp only)) | fail "no step")
  all_goals (try k_data)
  all_goals (try (exfalso; first | omega | contradiction))
  rename RaisedSX _ _ _ _ _ _ _ _ => S9
  rename Heap.UpToSlots _ _ => U9
  exact hexc _ _ _ _ _ _ S9 U9 ⟨rfl, rfl, rfl⟩

section
variable {prog : Program} {w : World} {A₀ : Around} {E : Value → Shared → Prop} {s' : Shared} {base g g₀ G : Heap} {outer : List Env} {L a e : Addr} {m : Str → Option Value} {name : Str} {scope : Scope} {cd c : Value}
  {b₀ : Stmt} {suite : List Stmt} {pos np : Pos} {rest : List ExceptHandler} {Q : Flow → Shared → Prop} {news : List (Addr × Obj)}
  {p : Program} {loose : List Str} {mean : ExcName → Option Value} {mg mb : Str → Option Value} {x : Str}
/-- DecodingError caught by the frame's own try -/
theorem caught53 (R : RaisedSX base G (envOf name scope L a cd :: outer) e (.ref 53) c news s'.heap) (F : Fr g L G m) (K : Below A₀ base outer g) (hsm : G.UpToSlots s'.heap) (XB : (hd.heap_39 w.params).In base) (TB : Top p loose mean mg mb base)
    (D : KtsDicts (outer.filterMap (·.frame)) g)
    (ex : nsIn (hd.heap_39 w.params) mainGlobals x = some (some (.ref 53))) (hn' : x ≠ "__name__")
    (k : ∀ h' g', KtsTurn (outer.filterMap (·.frame)) g g' → Fr g' L h' m → News g' L h' news → Below A₀ base outer g' → (hd.heap_39 w.params).In g' → Top p loose mean mg mb g' → KtsDicts (outer.filterMap (·.frame)) g' →
      wpAny (model prog w) ((A₀.deeper (envOf name scope L a cd)).mark (some (.ref e))) (execs (b₀ :: suite) (envOf name scope L a cd)) Q E { s' with heap := h' })
    (hE : PassesOwnAt (model prog w) ((A₀.deeper (envOf name scope L a cd)).mark (some (.ref e))) (A₀.deeper (envOf name scope L a cd)) (envOf name scope L a cd) E)
    (hk : scope.kind = .function := by rfl) (hx : (envOf name scope L a cd).kindOf x = some .globalImplicit := by rfl) (hd : (x == ("__debug__" : Str)) = false := by decide) :
    wpAny (model prog w) (A₀.deeper (envOf name scope L a cd)) (noteFrame (.ref e) (envOf name scope L a cd))
      (fun _ s₂ => wpAny (model prog w) (A₀.deeper (envOf name scope L a cd)) (setFlight (.ref e) none) (fun _ s₃ =>
        wpAny (model prog w) (A₀.deeper (envOf name scope L a cd)) (handleBy (.ref e) (envOf name scope L a cd) (.ExceptHandler (some (.Name x np)) none (b₀ :: suite) pos :: rest)) Q E s₃) E s₂) E s' := by
  obtain ⟨B, a0, hB, hBG, hl, f1, f2, f3, f4⟩ := R
  have hL : B.get? L = none := by
    obtain ⟨_, ⟨L', _, hf, hn', _⟩, _⟩ := f3
    obtain rfl : L = L' := Option.some.inj hf
    exact hn'
  refine note1X (Around.frames_deeper K.stack) f3 rfl f1 f2 f4 fun h₁ k1 k2 k3 k4 => ?_
  refine flightX (s := { s' with heap := h₁ }) k2 k1 k3 fun h₂ x1 x2 x3 x4 => ?_
  have sm₂ := hsm.trans (k4.trans x4)
  obtain ⟨g₂, T₂, F₂, K₂⟩ := kts_ground K F hBG x1 sm₂
  have X₂ : (Mine.hd.heap_39 w.params).In g₂ := XB.keeps K₂.stays
  have P₂ : TopRead p loose mg mb g₂ := topRead_of (TB.keeps K₂.stays)
  obtain ⟨_, _, _, _, _, _, _, _, _, _, _, _, _, hC⟩ := hC53 (X₂.keeps F₂.keep)
  obtain ⟨oe, vs, T, oT, ts, q1, q2, q3, q3', qT, q4, qB, qne, qo, qd, q5⟩ := x3
  refine wpAny_handleBy_cons (codeAny_handlers_test (name_K (s := { s' with heap := h₂ }) F₂ X₂ P₂ ex ?_ hk hx hd)) (by intro q; cases q)
  refine wpAny_excMatches_sub_self hC q1 q2 (by decide) (codeAny_handlers_suite ?_)
  refine flightX (s := { s' with heap := h₂ }) x2 x1 ⟨oe, vs, T, oT, ts, q1, q2, q3, q3', qT, q4, qB, qne, qo, qd, q5⟩ fun h₃ y1 y2 y3 y4 => ?_
  have sm₃ := sm₂.trans y4
  obtain ⟨g₃, T₃, F₃, K₃⟩ := kts_ground K F hBG y1 sm₃
  have N₃ : News g₃ L h₃ news := fun q hq => ⟨y1 _ _ (hl q hq).1, (fun z => by have := (hl q hq).1; rw [z, hL] at this; cases this), T₃.none_ _ (kts_none F.keep (hl q hq).2.1)⟩
  exact wpAny_passesOwnAt hE (k h₃ g₃ T₃ F₃ N₃ K₃ (XB.keeps K₃.stays) (TB.keeps K₃.stays) (D.turn T₃))
end


end T_M15
section T_M16
open PySem PySem.W PyProof.Rows PySem.Spec PySem.Calls
set_option maxRecDepth 100000
set_option maxHeartbeats 1000000




noncomputable def BadX (x : List UInt8) : Prop := 0 < x.length ∧ x.length ≤ 100000 ∧ ∃ p k l s', clpF x 0 = some (p, k, l, s') ∧ p.length ≤ 100000 ∧ ((s' + l : Nat) : Int) ≠ x.length
theorem sp105x {w : World} {mean : ExcName → Option Value} {mg mb : Str → Option Value} (x : List UInt8) (t1 : Tok) (h : BadX x) :
  Spec w mean mg mb 105 12 ⟨[.bytes x.toArray t1], []⟩ false (fun _ => True) []
    (fun r own' => False) (fun cls c own' => cls = .ref 53 ∧ c = .none ∧ own' = []) := by
  obtain ⟨h1, hx, p, k, l, s', hc, hp, he⟩ := h
  cases k with
  | true => exact sp105xt x t1 h1 hx hc hp he
  | false => exact sp105xf x t1 h1 hx hc he
theorem sp284 {w : World} {mean : ExcName → Option Value} {mg mb : Str → Option Value} (x : List UInt8) (t1 : Tok) (h : BadX x) :
  Spec w mean mg mb 284 16 ⟨[.bytes x.toArray t1], []⟩ true (fun _ => True) [] (fun r own' => r = .bool true ∧ own' = []) (fun _ _ _ => False) := by
  intro dp un gd base outer g s R S hg hsz ho hpp hd1 hu1 hret hexc
  have kdX := S.dicts
  have hXB := S.inB
  have TB := S.topB
  first | refine enterP S hg hsz ho (by k_is) (by k_is) ?_ (BindsTo.of_eq rfl) rfl ?_ rfl rfl rfl (by decide) | refine enter S hg hsz ho (by k_is) (by k_is) ?_ (BindsTo.of_eq rfl) (locs rfl) ?_ rfl rfl rfl (by decide)
  · exact room_0 hd1
  intro L' h₁ tk₁ hst hL F N B X T M₁ en₁ A₁
  (try dsimp only)
  k_fold
  repeat' (first | (k_unfold; (try dsimp only)) | (k_end; wrow_close) | ((with_reducible show wpAny _ _ (noteFrame _ _) _ _ _); with_reducible (k_here; (with_reducible show wpAny _ _ (noteFrame _ _) (fun _ s₂ => wpAny _ _ (setFlight _ none) (fun _ s₃ => wpAny _ _ (handleBy _ _ (ExceptHandler.ExceptHandler (some (Expr.Name ("DecodingError" : Str) _)) none _ _ :: _)) _ _ s₃) _ s₂) _ _); k_dflt (refine' caught53 ?zzR ?zzF ?zzK ?zzU ?zzXB ?zzTB ?zzD ?zzex ?zzhn ?_ ?zzhE; (case zzR => assumption); (case zzF => assumption); (case zzK => assumption); (case zzU => assumption); (case zzXB => assumption); (case zzTB => assumption); (case zzD => assumption); (case zzex => k_is); (case zzhn => decide); (case zzhE => first | passes_own | with_unfolding_all passes_own); k_whole); intro h' g' T' F' N' K' X' P' D')) | ((with_reducible show wpAny _ _ (execs (_ :: _) _) _ _ _); with_reducible (refine wpAny_execs_cons ?_; (try k_fold))) | ((with_reducible show wpAny _ _ (call (Value.ref _) _) _ _ _); with_reducible (k_here; (with_reducible show wpAny _ _ (call (Value.ref 105) _) _ _ _); k_dflt (refine' callF (sp105x _ _ ?zzhb) ?zzS ?zzF ?zzN ?zzNo ?zzhdis ?zzkK ?zzkA ?zzpre ?zzhd ?zzhu ?_ ?_; (case zzkA => exact rfl); (case zzS => assumption); (case zzF => k_asm); (case zzN => k_asm); (case zzNo => exact News.nil); (case zzhdis => exact fun _ _ _ hq => nomatch hq); (case zzkK => exact rfl); (case zzpre => exact fun _ _ _ => trivial); (case zzhb => assumption); (case zzhd => first | (refine' room_d ?zzza ?zzzb; (case zzza => assumption); (case zzzb => first | decide | (refine Nat.succ_le_succ (Nat.le_trans ?_ (by assumption)); decide))) | (dsimp only [top]; omega)); (case zzhu => first | (refine' room_u ?zzza ?zzzb; (case zzza => assumption); (case zzzb => first | decide | (refine Nat.succ_le_succ (Nat.le_trans ?_ (by assumption)); decide))) | (dsimp only [top]; omega))); (intro _ _ _ _ _ _ _ hF'; exact hF'.elim); (intro e' cls' c' G' own' h' tk' hX' FG' hU' hr'; obtain ⟨hr1, hr2, hr3⟩ := hr'; subst hr1; subst hr2; subst hr3; (try dsimp only [List.append_nil] at hX')))) | walk1 | (dsimp only; first | ((with_reducible show wpAny _ _ (noteFrame _ _) _ _ _); with_reducible (k_here; (with_reducible show wpAny _ _ (noteFrame _ _) (fun _ s₂ => wpAny _ _ (setFlight _ none) (fun _ s₃ => wpAny _ _ (handleBy _ _ (ExceptHandler.ExceptHandler (some (Expr.Name ("DecodingError" : Str) _)) none _ _ :: _)) _ _ s₃) _ s₂) _ _); k_dflt (refine' caught53 ?zzR ?zzF ?zzK ?zzU ?zzXB ?zzTB ?zzD ?zzex ?zzhn ?_ ?zzhE; (case zzR => assumption); (case zzF => assumption); (case zzK => assumption); (case zzU => assumption); (case zzXB => assumption); (case zzTB => assumption); (case zzD => assumption); (case zzex => k_is); (case zzhn => decide); (case zzhE => first | passes_own | with_unfolding_all passes_own); k_whole); intro h' g' T' F' N' K' X' P' D')) | ((with_reducible show wpAny _ _ (execs (_ :: _) _) _ _ _); with_reducible (refine wpAny_execs_cons ?_; (try k_fold))) | ((with_reducible show wpAny _ _ (call (Value.ref _) _) _ _ _); with_reducible (k_here; (with_reducible show wpAny _ _ (call (Value.ref 105) _) _ _ _); k_dflt (refine' callF (sp105x _ _ ?zzhb) ?zzS ?zzF ?zzN ?zzNo ?zzhdis ?zzkK ?zzkA ?zzpre ?zzhd ?zzhu ?_ ?_; (case zzkA => exact rfl); (case zzS => assumption); (case zzF => k_asm); (case zzN => k_asm); (case zzNo => exact News.nil); (case zzhdis => exact fun _ _ _ hq => nomatch hq); (case zzkK => exact rfl); (case zzpre => exact fun _ _ _ => trivial); (case zzhb => assumption); (case zzhd => first | (refine' room_d ?zzza ?zzzb; (case zzza => assumption); (case zzzb => first | decide | (refine Nat.succ_le_succ (Nat.le_trans ?_ (by assumption)); decide))) | (dsimp only [top]; omega)); (case zzhu => first | (refine' room_u ?zzza ?zzzb; (case zzza => assumption); (case zzzb => first | decide | (refine Nat.succ_le_succ (Nat.le_trans ?_ (by assumption)); decide))) | (dsimp only [top]; omega))); (intro _ _ _ _ _ _ _ hF'; exact hF'.elim); (intro e' cls' c' G' own' h' tk' hX' FG' hU' hr'; obtain ⟨hr1, hr2, hr3⟩ := hr'; subst hr1; subst hr2; subst hr3; (try dsimp only [List.append_nil] at hX')))) | walk1) | (leave1; (try dsimp only)) | fail "no step")
  all_goals (try k_data)
  show R (.ok (.ret _)) _
  rename Fr _ _ _ _ => F9
  rename KtsTurn _ _ _ => T9
  exact hret _ _ [] _ _ (by simpa using T9) F9.keep (fun _ h => nomatch h) ⟨rfl, rfl⟩


end T_M16
section T_M17
open PySem PySem.W PyProof.Rows PySem.Spec PySem.Calls
set_option maxRecDepth 100000
set_option maxHeartbeats 1000000




section
variable {w : World} {A : Around} {s : Shared} {env : Env} {g₀ : Heap} {fs : List Addr}

noncomputable abbrev LoopJ := Nat → Heap → (Str → Option Value) → Led → Prop
noncomputable def OwnStep (fs : List Addr) (L : Addr) (g₁ : Heap) (own : Led) (J' : Heap → (Str → Option Value) → Led → Prop) (s₁ : Shared) (Qr : Value → Shared → Prop) (f : Flow) (s₃ : Shared) : Prop := match f with
  | .next => ∃ h' tk m₂ news₂ g₂, s₃ = { s₁ with heap := h', toks := tk } ∧ KtsTurn fs g₁ g₂ ∧ Fr g₂ L h' m₂ ∧ News g₂ L h' (own ++ news₂) ∧ (∀ q ∈ own, ∀ p ∈ news₂, q.1 ≠ p.1) ∧ J' g₂ m₂ news₂
  | .cont => ∃ h' tk m₂ news₂ g₂, s₃ = { s₁ with heap := h', toks := tk } ∧ KtsTurn fs g₁ g₂ ∧ Fr g₂ L h' m₂ ∧ News g₂ L h' (own ++ news₂) ∧ (∀ q ∈ own, ∀ p ∈ news₂, q.1 ≠ p.1) ∧ J' g₂ m₂ news₂
  | .ret v => Qr v s₃
  | .brk => False

theorem turn_own {g₁ g₂ h h' : Heap} {fp : List Addr} (T : KtsTurn fs g₁ g₂) (hff : ∀ b ∈ fp, b ∉ fs) (k1 : g₁.StaysIn h) (k2 : g₂.StaysIn h') (kN : ∀ p ∈ PyProof.Rows.ownOf g₁ fp h, h'.get? p.1 = some p.2) : ∀ b ∈ fp, ∀ o, h.get? b = some o → h'.get? b = some o := fun b hb o e => by
  cases hn : g₁.get? b with
  | some o₀ =>
    have h1 := k1 _ _ hn
    rw [e] at h1; cases h1
    exact k2 _ _ (T.other _ _ hn (hff b hb))
  | none => exact kN _ (mem_ownOf hb hn e)
theorem codeAny_forLoop_own {R : Result → Shared → Prop} {x : Str} {px : Pos} {body : List Stmt} {I : Addr} {fp wr : List Addr} {n : Nat} {P : Nat → Value → Prop} {St : Nat → Heap → Prop} {m : Str → Option Value}
    {news : Led} (W : Walks PG w A I fp wr n P St) (hx : env.kindOf x = some .local)
    (hp : (env.scope.kind == .class || (env.scope.kind == .module && env.locals != env.globals)) = false)
    (hLf : env.locals ∉ fp) (hwr : ∀ b ∈ wr, g₀.get? b = none) (hff : ∀ b ∈ fp, b ∉ fs) (hnw : ∀ p ∈ news, p.1 ∉ fp) (hfp : ∀ i h, St i h → ∀ b ∈ fp, ∃ o, h.get? b = some o)
    (hst : St 0 s.heap) (F : Fr g₀ env.locals s.heap m) (N : News g₀ env.locals s.heap news)
    (J : LoopJ) (h0 : J 0 g₀ m news)
    (step : ∀ i v m₁ news₁ s₁ own g₁, (∃ h tk, s₁ = { s with heap := h, toks := tk }) → i < n → P i v → KtsTurn fs g₀ g₁ → J i g₁ m₁ news₁ → (∀ q ∈ own, ∀ p ∈ news₁, q.1 ≠ p.1) →
      Fr g₁ env.locals s₁.heap (fun y => if y = x then some v else m₁ y) → News g₁ env.locals s₁.heap (own ++ news₁) →
      wpAny (model PG w) A (execs body env) (OwnStep fs env.locals g₁ own (J (i + 1)) s₁ (fun v s' => R (.ok (.ret v)) s')) (notedBy (model PG w) A env fun e s' => R (.error e) s') s₁)
    (hR : ∀ h' tk m' news' g', KtsTurn fs g₀ g' → Fr g' env.locals h' m' → News g' env.locals h' news' → J n g' m' news' → R (.ok .next) { s with heap := h', toks := tk }) :
    codeAny (model PG w) A (.forLoop (.Name x px) (.ref I) body [] env) R s := by
  have hLw : env.locals ∉ wr := fun h => hLf (W.sub _ h)
  have old : ∀ g', KtsTurn fs g₀ g' → ∀ b o, g'.get? b = some o → b ∉ wr := fun g' T b o e hb => by rw [T.none_ _ (hwr b hb)] at e; cases e
  refine codeAny_forLoop
    (fun k s' => ∃ h' tk m' news' i g', s' = { s with heap := h', toks := tk } ∧ St i h' ∧ KtsTurn fs g₀ g' ∧ Fr g' env.locals h' m' ∧ News g' env.locals h' news' ∧ (∀ p ∈ news', p.1 ∉ fp) ∧ J i g' m' news' ∧ i ≤ n ∧ k = n + 1 - i) ?_ (n + 1)
    ⟨s.heap, s.toks, m, news, 0, g₀, rfl, hst, KtsTurn.refl, F, N, hnw, h0, Nat.zero_le _, rfl⟩
  rintro k s' ⟨h', tk, m', news', i, g', rfl, hst', T', F', N', hnw', hJ, hi, rfl⟩
  have hnw'' := hnw'
  have next : ∀ h₁ : Heap, (∀ b o, b ∉ wr → h'.get? b = some o → h₁.get? b = some o) → Fr g' env.locals h₁ m' ∧ News g' env.locals h₁ news' := fun h₁ hk₁ =>
    ⟨⟨F'.ns.at' fun o e => hk₁ _ o hLw e, fun b o e => hk₁ b o (old g' T' b o e) (F'.keep b o e), F'.above⟩, fun p hp => ⟨hk₁ _ _ (fun q => hnw'' p hp (W.sub _ q)) (N' p hp).1, (N' p hp).2⟩⟩
  by_cases hlt : i < n
  · refine W.item i _ _ _ hlt hst' fun v h₁ tk₁ hP hst₁ hk₁ => ?_
    obtain ⟨F₁, N₁⟩ := next h₁ hk₁
    refine wpAny_assign_Name (wpAny_storeName_local hx F₁.ns (fun h₂ hn₂ hs₂ => ?_) hp)
    have F₂ := F₁.set hn₂ hs₂
    refine wpAny_mono (step i v m' news' _ (PyProof.Rows.ownOf g' fp h₂) g' ⟨_, _, rfl⟩ hlt hP T' hJ (fun q hq p hp e => ?_) F₂ ((news_ownOf hLf).append (N₁.set hs₂))) (fun f s₃ h₃ => ?_) fun _ _ e => e
    · obtain ⟨b, hb, e1⟩ := List.mem_filterMap.mp hq
      have : q.1 = b := by
        cases hn : g'.get? b with
        | some o => simp [hn] at e1
        | none =>
          cases ho : h₂.get? b with
          | none => simp [hn, ho] at e1
          | some o => have : q = (b, o) := by simpa [hn, ho] using e1.symm
                      rw [this]
      exact hnw'' p hp (by rw [← e, this]; exact hb)
    have fin : (∃ h'' tk m₂ news₂ g₂, s₃ = { s with heap := h'', toks := tk } ∧ KtsTurn fs g' g₂ ∧ Fr g₂ env.locals h'' m₂ ∧ News g₂ env.locals h'' (PyProof.Rows.ownOf g' fp h₂ ++ news₂) ∧ (∀ q ∈ PyProof.Rows.ownOf g' fp h₂, ∀ p ∈ news₂, q.1 ≠ p.1) ∧ J (i + 1) g₂ m₂ news₂) →
        ∃ m, m < n + 1 - i ∧ ∃ h' tk m' news' i g', s₃ = { s with heap := h', toks := tk } ∧ St i h' ∧ KtsTurn fs g₀ g' ∧ Fr g' env.locals h' m' ∧ News g' env.locals h' news' ∧ (∀ p ∈ news', p.1 ∉ fp) ∧ J i g' m' news' ∧ i ≤ n ∧ m = n + 1 - i := by
      rintro ⟨h₃', tk₃, m₂, news₂, g₂, rfl, T₃, F₃, N₃, hd₃, hJ₃⟩
      have st2 : St (i + 1) h₂ := W.frame _ _ _ hst₁ fun b hb o e => (hs₂.2 b fun q => hLf (q ▸ hb)).trans e
      refine ⟨n + 1 - (i + 1), by omega, h₃', tk₃, m₂, news₂, i + 1, g₂, rfl, ?_, T'.trans T₃, F₃, N₃.right, fun p hp => ?_, hJ₃, hlt, rfl⟩
      · exact W.frame _ _ _ st2 (turn_own T₃ hff (fun b o e => F₂.keep b o e) (fun b o e => F₃.keep b o e) fun p hp => (N₃ p (List.mem_append_left _ hp)).1)
      · intro hm
        have hn : g'.get? p.1 = none := by
          cases z : g'.get? p.1 with
          | none => rfl
          | some o =>
            obtain ⟨sl, hs⟩ := T₃.up z
            have := (N₃ p (List.mem_append_right _ hp)).2.2
            rw [hs] at this; cases this
        obtain ⟨o, ho⟩ := hfp _ _ st2 _ hm
        exact hd₃ _ (mem_ownOf hm hn ho) p hp rfl
    cases f with
    | next => exact fin h₃
    | cont => exact fin h₃
    | brk => exact h₃.elim
    | ret v => exact h₃
  · have hin : i = n := by omega
    subst hin
    refine W.done _ _ _ hst' fun h₁ tk₁ hk₁ => wpAny_execs_nil ?_
    obtain ⟨F₁, N₁⟩ := next h₁ hk₁
    exact hR h₁ tk₁ m' news' g' T' F₁ N₁ hJ

noncomputable def LoopO (w : World) (A : Around) (fs : List Addr) (env : Env) (x : Str) (body : List Stmt) (Q : Flow → Shared → Prop) (E : Value → Shared → Prop) (it : Value) (s₂ : Shared) : Prop :=
  ∃ (g₀ : Heap) (I : Addr) (fp wr : List Addr) (n : Nat) (P : Nat → Value → Prop) (St : Nat → Heap → Prop) (m : Str → Option Value) (news : Led) (J : LoopJ),
    it = .ref I ∧ Walks PG w A I fp wr n P St ∧ env.locals ∉ fp ∧ (∀ b ∈ wr, g₀.get? b = none) ∧ (∀ b ∈ fp, b ∉ fs) ∧ (∀ p ∈ news, p.1 ∉ fp) ∧ (∀ i h, St i h → ∀ b ∈ fp, ∃ o, h.get? b = some o) ∧ St 0 s₂.heap ∧ Fr g₀ env.locals s₂.heap m ∧ News g₀ env.locals s₂.heap news ∧ J 0 g₀ m news ∧
    (∀ i v m₁ news₁ s₁ own g₁, (∃ h tk, s₁ = { s₂ with heap := h, toks := tk }) → i < n → P i v → KtsTurn fs g₀ g₁ → J i g₁ m₁ news₁ → (∀ q ∈ own, ∀ p ∈ news₁, q.1 ≠ p.1) →
      Fr g₁ env.locals s₁.heap (fun y => if y = x then some v else m₁ y) → News g₁ env.locals s₁.heap (own ++ news₁) →
      wpAny (model PG w) A (execs body env) (OwnStep fs env.locals g₁ own (J (i + 1)) s₁ (fun v s' => Q (.ret v) s')) E s₁) ∧
    ∀ h' tk m' news' g', KtsTurn fs g₀ g' → Fr g' env.locals h' m' → News g' env.locals h' news' → J n g' m' news' → Q .next { s₂ with heap := h', toks := tk }

theorem For_own {E : Value → Shared → Prop} {Q : Flow → Shared → Prop} {x : Str} {px pos : Pos} {iter : Expr} {body : List Stmt} (fs : List Addr) (hx : env.kindOf x = some .local)
    (hp : (env.scope.kind == .class || (env.scope.kind == .module && env.locals != env.globals)) = false)
    (h : wpAny (model PG w) A (eval iter env) (fun xv s₁ => wpAny (model PG w) A (pyIter xv) (fun it s₂ => LoopO w A fs env x body Q E it s₂) E s₁) E s)
    (hs : ∀ x, foldedSetIterable iter env x = pure x := by intro _; rfl)
    (hE : PassesOwn (model PG w) A env E := by passes_own) :
    wpAny (model PG w) A (exec (.For (.Name x px) iter body [] pos) env) Q E s := by
  refine wpAny_For (wpAny_mono h (fun xv s₁ h₁ => wpAny_mono h₁ (fun it s₂ h₂ => ?_) fun _ _ e => e) fun _ _ e => e) hs
  obtain ⟨g₀, I, fp, wr, n, P, St, m, news, J, rfl, W, hLf, hwr, hff, hnw, hfp, hst, F, N, h0, step, hQ⟩ := h₂
  exact codeAny_forLoop_own (R := fun r s' => match r with | .ok f => Q f s' | .error e => cameBackBy (model PG w) A env E e s') W hx hp hLf hwr hff hnw hfp hst F N J h0 (by intros; exact wpAny_passesOwn hE (by apply step <;> assumption)) hQ

/-- over a range that the ledger holds -/
theorem Iter_range_own {E : Value → Shared → Prop} {Q : Flow → Shared → Prop} {x : Str} {body : List Stmt} {r : Addr} {k : Nat} {t u v : Tok} {m : Str → Option Value} {news : Led}
    (J : LoopJ) (hh : A.handled = none) (hsmall : Builtin.Range.small 0 k 1 = true)
    (F : Fr g₀ env.locals s.heap m) (hr : IsRange s.heap r 0 (k : Int) 1 t u v) (N : News g₀ env.locals s.heap news) (h0 : J 0 g₀ m news)
    (hfs : ∀ b ∈ fs, ∃ o, g₀.get? b = some o)
    (step : ∀ (i : Nat) t m₁ news₁ h₁ tk₁ own g₁, i < k → KtsTurn fs g₀ g₁ → J i g₁ m₁ news₁ → (∀ q ∈ own, ∀ p ∈ news₁, q.1 ≠ p.1) →
      Fr g₁ env.locals h₁ (fun y => if y = x then some (.int (i : Int) t) else m₁ y) → News g₁ env.locals h₁ (own ++ news₁) →
      wpAny (model PG w) A (execs body env) (OwnStep fs env.locals g₁ own (J (i + 1)) { s with heap := h₁, toks := tk₁ } (fun v s' => Q (.ret v) s')) E { s with heap := h₁, toks := tk₁ })
    (done : ∀ h' tk m' news' g', KtsTurn fs g₀ g' → Fr g' env.locals h' m' → News g' env.locals h' news' → J k g' m' news' → Q .next { s with heap := h', toks := tk }) :
    wpAny (model PG w) A (pyIter (.ref r)) (fun it s₂ => LoopO w A fs env x body Q E it s₂) E s := by
  refine wpAny_pyIter_range hr hsmall ?_
  have W := Walks.range (prog := PG) (w := w) hh s.heap.objs.size 0 1 k
  have hsz : Builtin.Range.rangeSize 0 (k : Int) 1 = (k : Int) := by unfold Builtin.Range.rangeSize; simp; try omega
  have hnone : g₀.get? s.heap.objs.size = none := by
    cases z : g₀.get? s.heap.objs.size with
    | none => rfl
    | some o => exact absurd (Heap.lt_size (F.keep _ _ z)) (Nat.lt_irrefl _)
  refine ⟨g₀, s.heap.objs.size, _, _, k, _, _, m, news, J, rfl, W, ?_, ?_, ?_, ?_, ?_, ?_, F.push _, (fun p hp => ?_), h0, ?_, ?_⟩
  · intro hm
    exact absurd F.ns.lt ((List.mem_singleton.mp hm) ▸ Nat.lt_irrefl _)
  · intro b hb; rw [List.mem_singleton.mp hb]; exact hnone
  · intro b hb hm
    obtain ⟨o, ho⟩ := hfs b hm
    rw [List.mem_singleton.mp hb, hnone] at ho; cases ho
  · intro p hp hm
    have := Heap.lt_size (N p hp).1
    exact absurd this ((List.mem_singleton.mp hm) ▸ Nat.lt_irrefl _)
  · intro i h st b hb
    rw [List.mem_singleton.mp hb]; exact ⟨_, st⟩
  · show IsRangeIter _ _ _ _ _
    rw [hsz]
    have : (0 : Int) + ((0 : Nat) : Int) * 1 = 0 := by simp
    rw [this, show (k : Int) - ((0 : Nat) : Int) = k by simp]
    exact Heap.get?_push_size _ rfl
  · exact ⟨Heap.get?_push_of_some _ (N p hp).1, (N p hp).2⟩
  · rintro i v m₁ news₁ s₁ own g₁ ⟨h₁, tk₁, rfl⟩ hi ⟨t', rfl⟩ T₁ hJ hd F₁ N₁
    have e : (0 : Int) + (i : Int) * 1 = i := by simp
    rw [e] at F₁
    exact step i t' m₁ news₁ h₁ tk₁ own g₁ hi T₁ hJ hd F₁ N₁
  · exact fun h' tk m' news' g' T F' N' hJ => done h' tk m' news' g' T F' N' hJ

/-- over a list -/
theorem Iter_list_own {E : Value → Shared → Prop} {Q : Flow → Shared → Prop} {x : Str} {body : List Stmt} {l : Addr} {items : Array Value} {m : Str → Option Value} {news : Led}
    (J : LoopJ) (hh : A.handled = none) (hl : s.heap.IsList l items) (hlf : l ∉ fs) (hln : ∀ p ∈ news, p.1 ≠ l) (hlL : l ≠ env.locals)
    (F : Fr g₀ env.locals s.heap m) (N : News g₀ env.locals s.heap news) (h0 : J 0 g₀ m news)
    (hfs : ∀ b ∈ fs, ∃ o, g₀.get? b = some o)
    (step : ∀ (i : Nat) v m₁ news₁ h₁ tk₁ own g₁, items[i]? = some v → KtsTurn fs g₀ g₁ → J i g₁ m₁ news₁ → (∀ q ∈ own, ∀ p ∈ news₁, q.1 ≠ p.1) →
      Fr g₁ env.locals h₁ (fun y => if y = x then some v else m₁ y) → News g₁ env.locals h₁ (own ++ news₁) →
      wpAny (model PG w) A (execs body env) (OwnStep fs env.locals g₁ own (J (i + 1)) { s with heap := h₁, toks := tk₁ } (fun v s' => Q (.ret v) s')) E { s with heap := h₁, toks := tk₁ })
    (done : ∀ h' tk m' news' g', KtsTurn fs g₀ g' → Fr g' env.locals h' m' → News g' env.locals h' news' → J items.size g' m' news' → Q .next { s with heap := h', toks := tk }) :
    wpAny (model PG w) A (pyIter (.ref l)) (fun it s₂ => LoopO w A fs env x body Q E it s₂) E s := by
  have hlt : l < s.heap.objs.size := by obtain ⟨_, e, _⟩ := hl; exact Heap.lt_size e
  refine wpAny_pyIter_list hl ?_
  have W := Walks.list (prog := PG) (w := w) hh s.heap.objs.size l (Nat.ne_of_lt hlt) items
  have hnone : g₀.get? s.heap.objs.size = none := by
    cases z : g₀.get? s.heap.objs.size with
    | none => rfl
    | some o => exact absurd (Heap.lt_size (F.keep _ _ z)) (Nat.lt_irrefl _)
  refine ⟨g₀, s.heap.objs.size, _, _, items.size, _, _, m, news, J, rfl, W, ?_, ?_, ?_, ?_, ?_, ?_, F.push _, (fun p hp => ⟨Heap.get?_push_of_some _ (N p hp).1, (N p hp).2⟩), h0, ?_, ?_⟩
  · intro hm
    rcases List.mem_cons.mp hm with e | hm
    · exact absurd F.ns.lt (e ▸ Nat.lt_irrefl _)
    · exact hlL (List.mem_singleton.mp hm).symm
  · intro b hb; rw [List.mem_singleton.mp hb]; exact hnone
  · intro b hb hm
    rcases List.mem_cons.mp hb with rfl | hb
    · obtain ⟨o, ho⟩ := hfs _ hm
      rw [hnone] at ho; cases ho
    · rw [List.mem_singleton.mp hb] at hm; exact hlf hm
  · intro p hp hm
    rcases List.mem_cons.mp hm with e | hm
    · have := Heap.lt_size (N p hp).1
      exact absurd this (e ▸ Nat.lt_irrefl _)
    · exact hln p hp (List.mem_singleton.mp hm)
  · intro i h st b hb
    rcases List.mem_cons.mp hb with rfl | hb
    · obtain ⟨o, ho, _⟩ := st.1; exact ⟨o, ho⟩
    · rw [List.mem_singleton.mp hb]; obtain ⟨o, ho, _⟩ := st.2; exact ⟨o, ho⟩
  · exact ⟨⟨_, Heap.get?_push_size _ rfl, rfl, rfl⟩, hl.at fun o e => Heap.get?_push_of_some _ e⟩
  · rintro i v m₁ news₁ s₁ own g₁ ⟨h₁, tk₁, rfl⟩ hi hv T₁ hJ hd F₁ N₁
    exact step i v m₁ news₁ h₁ tk₁ own g₁ hv T₁ hJ hd F₁ N₁
  · exact fun h' tk m' news' g' T F' N' hJ => done h' tk m' news' g' T F' N' hJ

/-- over a tuple -/
theorem Iter_tuple_own {E : Value → Shared → Prop} {Q : Flow → Shared → Prop} {x : Str} {body : List Stmt} {l : Addr} {items : Array Value} {m : Str → Option Value} {news : Led}
    (J : LoopJ) (hh : A.handled = none) (hl : s.heap.IsTuple l items) (hlf : l ∉ fs) (hln : ∀ p ∈ news, p.1 ≠ l) (hlL : l ≠ env.locals)
    (F : Fr g₀ env.locals s.heap m) (N : News g₀ env.locals s.heap news) (h0 : J 0 g₀ m news)
    (hfs : ∀ b ∈ fs, ∃ o, g₀.get? b = some o)
    (step : ∀ (i : Nat) v m₁ news₁ h₁ tk₁ own g₁, items[i]? = some v → KtsTurn fs g₀ g₁ → J i g₁ m₁ news₁ → (∀ q ∈ own, ∀ p ∈ news₁, q.1 ≠ p.1) →
      Fr g₁ env.locals h₁ (fun y => if y = x then some v else m₁ y) → News g₁ env.locals h₁ (own ++ news₁) →
      wpAny (model PG w) A (execs body env) (OwnStep fs env.locals g₁ own (J (i + 1)) { s with heap := h₁, toks := tk₁ } (fun v s' => Q (.ret v) s')) E { s with heap := h₁, toks := tk₁ })
    (done : ∀ h' tk m' news' g', KtsTurn fs g₀ g' → Fr g' env.locals h' m' → News g' env.locals h' news' → J items.size g' m' news' → Q .next { s with heap := h', toks := tk }) :
    wpAny (model PG w) A (pyIter (.ref l)) (fun it s₂ => LoopO w A fs env x body Q E it s₂) E s := by
  have hlt : l < s.heap.objs.size := by obtain ⟨_, e, _⟩ := hl; exact Heap.lt_size e
  refine wpAny_pyIter_tuple hl ?_
  have W := Walks.tuple (prog := PG) (w := w) hh s.heap.objs.size l (Nat.ne_of_lt hlt) items
  have hnone : g₀.get? s.heap.objs.size = none := by
    cases z : g₀.get? s.heap.objs.size with
    | none => rfl
    | some o => exact absurd (Heap.lt_size (F.keep _ _ z)) (Nat.lt_irrefl _)
  refine ⟨g₀, s.heap.objs.size, _, _, items.size, _, _, m, news, J, rfl, W, ?_, ?_, ?_, ?_, ?_, ?_, F.push _, (fun p hp => ⟨Heap.get?_push_of_some _ (N p hp).1, (N p hp).2⟩), h0, ?_, ?_⟩
  · intro hm
    rcases List.mem_cons.mp hm with e | hm
    · exact absurd F.ns.lt (e ▸ Nat.lt_irrefl _)
    · exact hlL (List.mem_singleton.mp hm).symm
  · intro b hb; rw [List.mem_singleton.mp hb]; exact hnone
  · intro b hb hm
    rcases List.mem_cons.mp hb with rfl | hb
    · obtain ⟨o, ho⟩ := hfs _ hm
      rw [hnone] at ho; cases ho
    · rw [List.mem_singleton.mp hb] at hm; exact hlf hm
  · intro p hp hm
    rcases List.mem_cons.mp hm with e | hm
    · have := Heap.lt_size (N p hp).1
      exact absurd this (e ▸ Nat.lt_irrefl _)
    · exact hln p hp (List.mem_singleton.mp hm)
  · intro i h st b hb
    rcases List.mem_cons.mp hb with rfl | hb
    · obtain ⟨o, ho, _⟩ := st.1; exact ⟨o, ho⟩
    · rw [List.mem_singleton.mp hb]; obtain ⟨o, ho, _⟩ := st.2; exact ⟨o, ho⟩
  · exact ⟨⟨_, Heap.get?_push_size _ rfl, rfl, rfl⟩, hl.at fun o e => Heap.get?_push_of_some _ e⟩
  · rintro i v m₁ news₁ s₁ own g₁ ⟨h₁, tk₁, rfl⟩ hi hv T₁ hJ hd F₁ N₁
    exact step i v m₁ news₁ h₁ tk₁ own g₁ hv T₁ hJ hd F₁ N₁
  · exact fun h' tk m' news' g' T F' N' hJ => done h' tk m' news' g' T F' N' hJ
end


end T_M17
section T_M18
open PySem PySem.W PyProof.Rows PySem.Spec PySem.Calls
set_option maxRecDepth 100000
set_option maxHeartbeats 1000000




theorem fd256 (a : Int) : a.fdiv 256 = a / 256 := Int.fdiv_eq_ediv_of_nonneg _ (by decide)
theorem fm256 (a : Int) : a.fmod 256 = a % 256 := Int.fmod_eq_emod_of_nonneg _ (by decide)
theorem bytes_ex {a b : Array UInt8} {t : Tok} (e : a = b) : ∃ tk, Value.bytes a t = .bytes b tk ∧ ([] : Led) = [] := ⟨t, by rw [e], rfl⟩
theorem digs1 {n : Nat} (h : 0 < n) (h2 : n < 256) : digs n = [UInt8.ofNat n] := by
  rw [digs_pos (by omega), show n / 256 = 0 from by omega, digs_zero, List.nil_append, show n % 256 = n from by omega]
theorem digsS {n : Nat} (h : 256 ≤ n) : digs n = digs (n / 256) ++ [UInt8.ofNat (n % 256)] := digs_pos (by omega)
theorem u8 {x : Int} {n : Nat} (h : x.toNat = n) : x.toNat.toUInt8 = UInt8.ofNat n := by rw [h]
theorem sp230a {w : World} {mean : ExcName → Option Value} {mg mb : Str → Option Value} (base size : Nat) (t1 t2 : Tok) (hb : base ≤ 192) (hs : size < 56) :
  Spec w mean mg mb 230 2 ⟨[.int base t1, .int size t2], []⟩ false (fun _ => True) [] (fun r own' => ∃ tk, r = .bytes (headF base size).toArray tk ∧ own' = []) (fun _ _ _ => False) := by
  intro dp un gd base' outer g s R S hg hsz ho hpp hd1 hu1 hret hexc
  first | refine enterP S hg hsz ho (by k_is) (by k_is) ?_ (BindsTo.of_eq rfl) rfl ?_ rfl rfl rfl (by decide) | refine enter S hg hsz ho (by k_is) (by k_is) ?_ (BindsTo.of_eq rfl) (locs rfl) ?_ rfl rfl rfl (by decide)
  · exact room_0 hd1
  intro L' h₁ tk₁ hst hL F N B X T M₁ en₁ A₁
  (try dsimp only)
  k_fold
  repeat' (first | (k_unfold; (try dsimp only)) | (k_end; wrow_close) | ((with_reducible show wpAny _ _ (binaryOp Operator.Add (Value.int _ _) (Value.int _ _)) _ _ _); with_reducible refine add_i ?_) | ((with_reducible show wpAny _ _ (eval (Expr.Constant (Const.int _) _ _) _) _ _ _); with_reducible refine const_i ?_) | ((with_reducible show wpAny _ _ (call (Value.type _) _) _ _ _); with_reducible (k_here; (with_reducible show wpAny _ _ (call (Value.type _) [Value.ref _]) _ _ _); k_dflt (refine' bytes_K ?zzF ?zzN ?zzl ?zzi ?zzr ?zzz ?zzh ?_; (case zzF => k_asm); (case zzN => k_asm); (case zzl => is_list); (case zzi => first | l_ints | l_intsW); (case zzr => (simp only [List.forall_mem_cons, List.not_mem_nil, false_implies, implies_true, and_true, fd256, fm256, List.length_cons, List.length_nil] <;> omega)); (case zzz => first | size_fits | (simp only [sizeLine_eq, List.length_cons, List.length_nil]; decide)); (case zzh => with_unfolding_all rfl); k_whole); intro h' t' k' F' N' hB'; (try dsimp only [List.map]); (try k_sweep))) | ((with_reducible show wpAny _ _ (execs (_ :: _) _) _ _ _); with_reducible (refine wpAny_execs_cons ?_; (try k_fold))) | walk1 | (dsimp only; first | ((with_reducible show wpAny _ _ (binaryOp Operator.Add (Value.int _ _) (Value.int _ _)) _ _ _); with_reducible refine add_i ?_) | ((with_reducible show wpAny _ _ (eval (Expr.Constant (Const.int _) _ _) _) _ _ _); with_reducible refine const_i ?_) | ((with_reducible show wpAny _ _ (call (Value.type _) _) _ _ _); with_reducible (k_here; (with_reducible show wpAny _ _ (call (Value.type _) [Value.ref _]) _ _ _); k_dflt (refine' bytes_K ?zzF ?zzN ?zzl ?zzi ?zzr ?zzz ?zzh ?_; (case zzF => k_asm); (case zzN => k_asm); (case zzl => is_list); (case zzi => first | l_ints | l_intsW); (case zzr => (simp only [List.forall_mem_cons, List.not_mem_nil, false_implies, implies_true, and_true, fd256, fm256, List.length_cons, List.length_nil] <;> omega)); (case zzz => first | size_fits | (simp only [sizeLine_eq, List.length_cons, List.length_nil]; decide)); (case zzh => with_unfolding_all rfl); k_whole); intro h' t' k' F' N' hB'; (try dsimp only [List.map]); (try k_sweep))) | ((with_reducible show wpAny _ _ (execs (_ :: _) _) _ _ _); with_reducible (refine wpAny_execs_cons ?_; (try k_fold))) | walk1) | (leave1; (try dsimp only)) | fail "no step")
  all_goals (try k_data)
  all_goals (try (exfalso; omega))
  show R (.ok (.ret _)) _
  rename Fr _ _ _ _ => F9
  refine hret _ g [] _ _ rfl F9.keep (fun _ h => nomatch h) (bytes_ex ?_)
  unfold headF
  rw [if_pos hs]
  rfl
theorem sp230b {w : World} {mean : ExcName → Option Value} {mg mb : Str → Option Value} (base size : Nat) (t1 t2 : Tok) (hb : base ≤ 192) (hs : 56 ≤ size) (hs2 : size < 256) :
  Spec w mean mg mb 230 2 ⟨[.int base t1, .int size t2], []⟩ false (fun _ => True) [] (fun r own' => ∃ tk, r = .bytes (headF base size).toArray tk ∧ own' = []) (fun _ _ _ => False) := by
  intro dp un gd base' outer g s R S hg hsz ho hpp hd1 hu1 hret hexc
  first | refine enterP S hg hsz ho (by k_is) (by k_is) ?_ (BindsTo.of_eq rfl) rfl ?_ rfl rfl rfl (by decide) | refine enter S hg hsz ho (by k_is) (by k_is) ?_ (BindsTo.of_eq rfl) (locs rfl) ?_ rfl rfl rfl (by decide)
  · exact room_0 hd1
  intro L' h₁ tk₁ hst hL F N B X T M₁ en₁ A₁
  (try dsimp only)
  k_fold
  repeat' (first | (k_unfold; (try dsimp only)) | (k_end; wrow_close) | ((with_reducible show wpAny _ _ (binaryOp Operator.Add (Value.int _ _) (Value.int _ _)) _ _ _); with_reducible refine add_i ?_) | ((with_reducible show wpAny _ _ (eval (Expr.Constant (Const.int _) _ _) _) _ _ _); with_reducible refine const_i ?_) | ((with_reducible show wpAny _ _ (call (Value.builtin _) _) _ _ _); with_reducible (k_here; (with_reducible show wpAny _ _ (call (Value.builtin "len") [Value.ref _]) _ _ _); k_dflt (refine' PyProof.Rows.len_list (News.isList ?zzkN ?zzkM) ?zzkz ?_; (case zzkN => k_asm); (case zzkM => k_mem); (case zzkz => first | omega | ((try simp only [List.size_toArray, List.length_append, List.length_cons, List.length_nil, Array.size_push]); omega)); k_whole); (try simp only [List.size_toArray]))) | ((with_reducible show wpAny _ _ (call (Value.type _) _) _ _ _); with_reducible (k_here; (with_reducible show wpAny _ _ (call (Value.type _) [Value.ref _]) _ _ _); k_dflt (refine' bytes_K ?zzF ?zzN ?zzl ?zzi ?zzr ?zzz ?zzh ?_; (case zzF => k_asm); (case zzN => k_asm); (case zzl => is_list); (case zzi => first | l_ints | l_intsW); (case zzr => (simp only [List.forall_mem_cons, List.not_mem_nil, false_implies, implies_true, and_true, fd256, fm256, List.length_cons, List.length_nil] <;> omega)); (case zzz => first | size_fits | (simp only [sizeLine_eq, List.length_cons, List.length_nil]; decide)); (case zzh => with_unfolding_all rfl); k_whole); intro h' t' k' F' N' hB'; (try dsimp only [List.map]); (try k_sweep))) | ((with_reducible show wpAny _ _ (execs (_ :: _) _) _ _ _); with_reducible (refine wpAny_execs_cons ?_; (try k_fold))) | ((with_reducible show wpAny _ _ (storeName _ _ _) _ _ _); with_reducible (k_here; k_dflt (refine' storeP ?zzF ?zzN ?_ ?zza ?zzb; (case zzF => k_asm); (case zzN => k_asm); (case zza => rfl); (case zzb => rfl); k_whole; intro h' tk' F' N'; (try k_sweep)))) | ((with_reducible show WhlIf _ _ _); with_reducible (first | (refine WhlIf.yes (decide_eq_true (by (try simp only [fd256]); omega)) ?_) | (refine WhlIf.no (decide_eq_false (by (try simp only [fd256]); omega)) ?_))) | walk1 | (dsimp only; first | ((with_reducible show wpAny _ _ (binaryOp Operator.Add (Value.int _ _) (Value.int _ _)) _ _ _); with_reducible refine add_i ?_) | ((with_reducible show wpAny _ _ (eval (Expr.Constant (Const.int _) _ _) _) _ _ _); with_reducible refine const_i ?_) | ((with_reducible show wpAny _ _ (call (Value.builtin _) _) _ _ _); with_reducible (k_here; (with_reducible show wpAny _ _ (call (Value.builtin "len") [Value.ref _]) _ _ _); k_dflt (refine' PyProof.Rows.len_list (News.isList ?zzkN ?zzkM) ?zzkz ?_; (case zzkN => k_asm); (case zzkM => k_mem); (case zzkz => first | omega | ((try simp only [List.size_toArray, List.length_append, List.length_cons, List.length_nil, Array.size_push]); omega)); k_whole); (try simp only [List.size_toArray]))) | ((with_reducible show wpAny _ _ (call (Value.type _) _) _ _ _); with_reducible (k_here; (with_reducible show wpAny _ _ (call (Value.type _) [Value.ref _]) _ _ _); k_dflt (refine' bytes_K ?zzF ?zzN ?zzl ?zzi ?zzr ?zzz ?zzh ?_; (case zzF => k_asm); (case zzN => k_asm); (case zzl => is_list); (case zzi => first | l_ints | l_intsW); (case zzr => (simp only [List.forall_mem_cons, List.not_mem_nil, false_implies, implies_true, and_true, fd256, fm256, List.length_cons, List.length_nil] <;> omega)); (case zzz => first | size_fits | (simp only [sizeLine_eq, List.length_cons, List.length_nil]; decide)); (case zzh => with_unfolding_all rfl); k_whole); intro h' t' k' F' N' hB'; (try dsimp only [List.map]); (try k_sweep))) | ((with_reducible show wpAny _ _ (execs (_ :: _) _) _ _ _); with_reducible (refine wpAny_execs_cons ?_; (try k_fold))) | ((with_reducible show wpAny _ _ (storeName _ _ _) _ _ _); with_reducible (k_here; k_dflt (refine' storeP ?zzF ?zzN ?_ ?zza ?zzb; (case zzF => k_asm); (case zzN => k_asm); (case zza => rfl); (case zzb => rfl); k_whole; intro h' tk' F' N'; (try k_sweep)))) | ((with_reducible show WhlIf _ _ _); with_reducible (first | (refine WhlIf.yes (decide_eq_true (by (try simp only [fd256]); omega)) ?_) | (refine WhlIf.no (decide_eq_false (by (try simp only [fd256]); omega)) ?_))) | walk1) | (leave1; (try dsimp only)) | fail "no step")
  all_goals (try k_data)
  all_goals (try (exfalso; omega))
  show R (.ok (.ret _)) _
  rename Fr _ _ _ _ => F9
  refine hret _ g [] _ _ rfl F9.keep (fun _ h => nomatch h) (bytes_ex ?_)
  unfold headF
  rw [if_neg (by omega)]
  rw [digs1 (by omega) hs2]
  congr 1
  simp only [fd256, fm256, List.map, List.length_cons, List.length_nil]
  rw [u8 (n := base + 55 + (0 + 1)) rfl, u8 (n := size) (by show size % 256 = size; exact Nat.mod_eq_of_lt hs2)]
theorem sp230c {w : World} {mean : ExcName → Option Value} {mg mb : Str → Option Value} (base size : Nat) (t1 t2 : Tok) (hb : base ≤ 192) (hs : 256 ≤ size) (hs2 : size < 65536) :
  Spec w mean mg mb 230 2 ⟨[.int base t1, .int size t2], []⟩ false (fun _ => True) [] (fun r own' => ∃ tk, r = .bytes (headF base size).toArray tk ∧ own' = []) (fun _ _ _ => False) := by
  intro dp un gd base' outer g s R S hg hsz ho hpp hd1 hu1 hret hexc
  first | refine enterP S hg hsz ho (by k_is) (by k_is) ?_ (BindsTo.of_eq rfl) rfl ?_ rfl rfl rfl (by decide) | refine enter S hg hsz ho (by k_is) (by k_is) ?_ (BindsTo.of_eq rfl) (locs rfl) ?_ rfl rfl rfl (by decide)
  · exact room_0 hd1
  intro L' h₁ tk₁ hst hL F N B X T M₁ en₁ A₁
  (try dsimp only)
  k_fold
  repeat' (first | (k_unfold; (try dsimp only)) | (k_end; wrow_close) | ((with_reducible show wpAny _ _ (binaryOp Operator.Add (Value.int _ _) (Value.int _ _)) _ _ _); with_reducible refine add_i ?_) | ((with_reducible show wpAny _ _ (eval (Expr.Constant (Const.int _) _ _) _) _ _ _); with_reducible refine const_i ?_) | ((with_reducible show wpAny _ _ (call (Value.builtin _) _) _ _ _); with_reducible (k_here; (with_reducible show wpAny _ _ (call (Value.builtin "len") [Value.ref _]) _ _ _); k_dflt (refine' PyProof.Rows.len_list (News.isList ?zzkN ?zzkM) ?zzkz ?_; (case zzkN => k_asm); (case zzkM => k_mem); (case zzkz => first | omega | ((try simp only [List.size_toArray, List.length_append, List.length_cons, List.length_nil, Array.size_push]); omega)); k_whole); (try simp only [List.size_toArray]))) | ((with_reducible show wpAny _ _ (call (Value.type _) _) _ _ _); with_reducible (k_here; (with_reducible show wpAny _ _ (call (Value.type _) [Value.ref _]) _ _ _); k_dflt (refine' bytes_K ?zzF ?zzN ?zzl ?zzi ?zzr ?zzz ?zzh ?_; (case zzF => k_asm); (case zzN => k_asm); (case zzl => is_list); (case zzi => first | l_ints | l_intsW); (case zzr => (simp only [List.forall_mem_cons, List.not_mem_nil, false_implies, implies_true, and_true, fd256, fm256, List.length_cons, List.length_nil] <;> omega)); (case zzz => first | size_fits | (simp only [sizeLine_eq, List.length_cons, List.length_nil]; decide)); (case zzh => with_unfolding_all rfl); k_whole); intro h' t' k' F' N' hB'; (try dsimp only [List.map]); (try k_sweep))) | ((with_reducible show wpAny _ _ (execs (_ :: _) _) _ _ _); with_reducible (refine wpAny_execs_cons ?_; (try k_fold))) | ((with_reducible show wpAny _ _ (storeName _ _ _) _ _ _); with_reducible (k_here; k_dflt (refine' storeP ?zzF ?zzN ?_ ?zza ?zzb; (case zzF => k_asm); (case zzN => k_asm); (case zza => rfl); (case zzb => rfl); k_whole; intro h' tk' F' N'; (try k_sweep)))) | ((with_reducible show WhlIf _ _ _); with_reducible (first | (refine WhlIf.yes (decide_eq_true (by (try simp only [fd256]); omega)) ?_) | (refine WhlIf.no (decide_eq_false (by (try simp only [fd256]); omega)) ?_))) | walk1 | (dsimp only; first | ((with_reducible show wpAny _ _ (binaryOp Operator.Add (Value.int _ _) (Value.int _ _)) _ _ _); with_reducible refine add_i ?_) | ((with_reducible show wpAny _ _ (eval (Expr.Constant (Const.int _) _ _) _) _ _ _); with_reducible refine const_i ?_) | ((with_reducible show wpAny _ _ (call (Value.builtin _) _) _ _ _); with_reducible (k_here; (with_reducible show wpAny _ _ (call (Value.builtin "len") [Value.ref _]) _ _ _); k_dflt (refine' PyProof.Rows.len_list (News.isList ?zzkN ?zzkM) ?zzkz ?_; (case zzkN => k_asm); (case zzkM => k_mem); (case zzkz => first | omega | ((try simp only [List.size_toArray, List.length_append, List.length_cons, List.length_nil, Array.size_push]); omega)); k_whole); (try simp only [List.size_toArray]))) | ((with_reducible show wpAny _ _ (call (Value.type _) _) _ _ _); with_reducible (k_here; (with_reducible show wpAny _ _ (call (Value.type _) [Value.ref _]) _ _ _); k_dflt (refine' bytes_K ?zzF ?zzN ?zzl ?zzi ?zzr ?zzz ?zzh ?_; (case zzF => k_asm); (case zzN => k_asm); (case zzl => is_list); (case zzi => first | l_ints | l_intsW); (case zzr => (simp only [List.forall_mem_cons, List.not_mem_nil, false_implies, implies_true, and_true, fd256, fm256, List.length_cons, List.length_nil] <;> omega)); (case zzz => first | size_fits | (simp only [sizeLine_eq, List.length_cons, List.length_nil]; decide)); (case zzh => with_unfolding_all rfl); k_whole); intro h' t' k' F' N' hB'; (try dsimp only [List.map]); (try k_sweep))) | ((with_reducible show wpAny _ _ (execs (_ :: _) _) _ _ _); with_reducible (refine wpAny_execs_cons ?_; (try k_fold))) | ((with_reducible show wpAny _ _ (storeName _ _ _) _ _ _); with_reducible (k_here; k_dflt (refine' storeP ?zzF ?zzN ?_ ?zza ?zzb; (case zzF => k_asm); (case zzN => k_asm); (case zza => rfl); (case zzb => rfl); k_whole; intro h' tk' F' N'; (try k_sweep)))) | ((with_reducible show WhlIf _ _ _); with_reducible (first | (refine WhlIf.yes (decide_eq_true (by (try simp only [fd256]); omega)) ?_) | (refine WhlIf.no (decide_eq_false (by (try simp only [fd256]); omega)) ?_))) | walk1) | (leave1; (try dsimp only)) | fail "no step")
  all_goals (try k_data)
  all_goals (try (exfalso; omega))
  show R (.ok (.ret _)) _
  rename Fr _ _ _ _ => F9
  refine hret _ g [] _ _ rfl F9.keep (fun _ h => nomatch h) (bytes_ex ?_)
  unfold headF
  rw [if_neg (by omega)]
  rw [digsS hs, digs1 (n := size / 256) (by omega) (by omega)]
  congr 1
  simp only [fd256, fm256, List.map, List.length_cons, List.length_nil, List.cons_append, List.nil_append]
  rw [u8 (n := base + 55 + (0 + 1 + 1)) rfl, u8 (n := size / 256) (by show size / 256 % 256 = size / 256; exact Nat.mod_eq_of_lt (Nat.div_lt_of_lt_mul (show size < 256 * 256 from hs2))), u8 (n := size % 256) rfl]
theorem sp230 {w : World} {mean : ExcName → Option Value} {mg mb : Str → Option Value} (base size : Nat) (t1 t2 : Tok) (hb : base ≤ 192) (hs : size < 65536) :
  Spec w mean mg mb 230 2 ⟨[.int base t1, .int size t2], []⟩ false (fun _ => True) [] (fun r own' => ∃ tk, r = .bytes (headF base size).toArray tk ∧ own' = []) (fun _ _ _ => False) := by
  by_cases h1 : size < 56
  · exact sp230a base size t1 t2 hb h1
  by_cases h2 : size < 256
  · exact sp230b base size t1 t2 hb (by omega) h2
  · exact sp230c base size t1 t2 hb (by omega) hs


end T_M18
section T_M19
open PySem PySem.W PyProof.Rows PySem.Spec PySem.Calls
set_option maxRecDepth 100000
set_option maxHeartbeats 1000000




theorem Fr.pinP {g h : Heap} {L : Addr} {m : Str → Option Value} {x : Str} {v : Value} (F : Fr g L h m) (hx : m x = some v) : Fr g L h (put m x v) := by
  have e : put m x v = m := funext fun y => by
    by_cases q : y = x
    · subst q; unfold put; rw [if_pos rfl, hx]
    · unfold put; rw [if_neg q]
  rw [e]; exact F
structure DJ (n0 n : Nat) (us : List Value) (zs : List Int) : Prop where
  i : IntsAre us zs
  r : ∀ z ∈ zs, 0 ≤ z ∧ z < 256
  d : digs n0 = digs n ++ zs.map fun z => z.toNat.toUInt8
  b : n < 256 ^ (8 - us.length)
  l : us.length ≤ 8
theorem DJ.lt {n0 n : Nat} {us : List Value} {zs : List Int} (h : DJ n0 n us zs) (hn : 0 < n) : us.length ≤ 7 := by
  have h1 := h.b
  have h2 := h.l
  by_cases e : us.length = 8
  · rw [e] at h1; simp at h1; omega
  · omega
theorem DJ.step {n0 n : Nat} {us : List Value} {zs : List Int} {t : Tok} (h : DJ n0 n us zs) (hn : (0 : Int) < (n : Int)) : DJ n0 (n / 256) (.int ((n : Int).fmod 256) t :: us) ((n : Int).fmod 256 :: zs) := by
  have hl := h.lt (by omega)
  have hm : (n : Int).fmod 256 = ((n % 256 : Nat) : Int) := by rw [fm256]; rfl
  refine ⟨.cons _ _ h.i, ?_, ?_, ?_, by simp; omega⟩
  · intro z hz
    rcases List.mem_cons.mp hz with rfl | hz
    · rw [hm]; omega
    · exact h.r z hz
  · rw [h.d, digs_pos (n := n) (by omega), List.map_cons, hm, List.append_assoc]; rfl
  · have h1 := h.b
    rw [List.length_cons]
    have e : 8 - us.length = (8 - (us.length + 1)) + 1 := (Nat.succ_pred_eq_of_pos (Nat.sub_pos_of_lt (Nat.lt_succ_of_le hl))).symm
    rw [e, Nat.pow_succ] at h1
    exact Nat.div_lt_of_lt_mul (by rw [Nat.mul_comm]; exact h1)
section
variable {w : World} {A : Around} {s : Shared} {env : Env} {h₀ : Heap} {L l : Addr} {m : Str → Option Value} {news news' : Led} {Q : Flow → Shared → Prop} {E : Value → Shared → Prop}
theorem insert0 {us : List Value} {y : Value} {n : Nat} {u : Tok} {Q : Value → Shared → Prop} (F : Fr h₀ L s.heap m) (N : News h₀ L s.heap news) (U : Upd l (W.listOf us.toArray n) (W.listOf (y :: us).toArray (n + 1)) news news') (hz : us.length ≤ 1000)
    (h : ∀ h', Fr h₀ L h' m → News h₀ L h' news' → Q .none { s with heap := h' }) : wpAny (model PG w) A (call (.builtin "list.insert") [.ref l, .int 0 u, y]) Q E s :=
  kl_insert F N rfl (by simp [kl_ins]) U (by rw [sizeLine_eq]; simp; omega) h
noncomputable def DigJ (n0 : Nat) (l : Addr) (n : Nat) (m₁ : Str → Option Value) (n₁ : Led) : Prop := ∃ t us zs e, m₁ (Str.ofString "count") = some (.int (n : Int) t) ∧ m₁ (Str.ofString "digits") = some (.ref l) ∧ n₁ = [(l, W.listOf us.toArray e)] ∧ DJ n0 n us zs
theorem digs_while {test : Expr} {body : List Stmt} {pos : Pos} {n0 e : Nat} {t : Tok} (F : Fr h₀ L s.heap m) (N : News h₀ L s.heap [(l, W.listOf #[] e)]) (h1 : m (Str.ofString "count") = some (.int (n0 : Int) t)) (h2 : m (Str.ofString "digits") = some (.ref l)) (hs : n0 < 256 ^ 8)
    (turn : ∀ n t us zs e h₁ tk₁ m₁, DJ n0 n us zs → us.length ≤ 1000 → Fr h₀ L h₁ (put (put m₁ (Str.ofString "count") (.int (n : Int) t)) (Str.ofString "digits") (.ref l)) → News h₀ L h₁ [(l, W.listOf us.toArray e)] →
      wpAny (model PG w) A (isTrue test env (eval test env)) (fun b s₂ => if b = true then wpAny (model PG w) A (execs body env) (WhileStep h₀ L s (DigJ n0 l) n) E s₂ else Q .next s₂) E { s with heap := h₁, toks := tk₁ })
    (hE : PassesOwn (model PG w) A env E) : wpAny (model PG w) A (exec (.While test body [] pos) env) Q E s := by
  refine While_inv (n₀ := n0) (DigJ n0 l) F N ⟨t, [], [], e, h1, h2, rfl, .nil, (fun z hz => nomatch hz), by simp, by simpa using hs, by simp⟩ ?_ hE
  rintro n m₁ news₁ h₁ tk₁ F₁ N₁ ⟨t, us, zs, e, h1, h2, rfl, hJ⟩
  exact turn n t us zs e h₁ tk₁ m₁ hJ (by have := hJ.l; omega) (Fr.pinP (Fr.pinP F₁ h1) (by unfold put; rw [if_neg (by decide)]; exact h2)) N₁
end
theorem DigJ.step {h₀ h' : Heap} {L l : Addr} {s : Shared} {n0 n tk : Nat} {us : List Value} {zs : List Int} {e : Nat} {m₁ : Str → Option Value} {t t2 : Tok} {z : Int} (hJ : DJ n0 n us zs) (hn : (0 : Int) < (n : Int)) (hz : z = (n : Int).fdiv 256)
    (F : Fr h₀ L h' (put (put (put m₁ (Str.ofString "count") (.int (n : Int) t)) (Str.ofString "digits") (.ref l)) (Str.ofString "count") (.int z t2)))
    {t3 : Tok} (N : News h₀ L h' [(l, W.listOf (.int ((n : Int).fmod 256) t3 :: us).toArray e)]) : WhileStep h₀ L s (DigJ n0 l) n .next { s with heap := h', toks := tk } := by
  subst hz
  refine WhileStep.intro F N (n' := n / 256) (Nat.div_lt_self (by omega) (by decide)) ⟨t2, _, _, e, ?_, rfl, rfl, hJ.step hn⟩
  rw [fd256]; rfl
theorem sp277 {w : World} {mean : ExcName → Option Value} {mg mb : Str → Option Value} (n : Nat) (t1 : Tok) (hs : n < 256 ^ 8) :
  Spec w mean mg mb 277 2 ⟨[.int n t1], []⟩ false (fun _ => True) [] (fun r own' => ∃ tk, r = .bytes (digs n).toArray tk ∧ own' = []) (fun _ _ _ => False) := by
  intro dp un gd base' outer g s R S hg hsz ho hpp hd1 hu1 hret hexc
  refine enterP S hg hsz ho (by k_is) (by k_is) ?_ (BindsTo.of_eq rfl) rfl ?_ rfl rfl rfl (by decide)
  · exact room_0 hd1
  intro L' h₁ tk₁ hst hL F N B X T M₁ en₁ A₁
  (try dsimp only)
  k_fold
  repeat' (first | (k_unfold; (try dsimp only)) | (k_end; wrow_close) | ((with_reducible show wpAny _ _ (exec (Stmt.While _ _ _ _) _) _ _ _); with_reducible (k_here; k_dflt (refine' digs_while ?zzF ?zzN ?zzh1 ?zzh2 ?zzhs ?_ ?zzE; (case zzF => k_asm); (case zzN => k_asm); (case zzh1 => exact rfl); (case zzh2 => exact rfl); (case zzhs => assumption); (case zzE => first | passes_own | with_unfolding_all passes_own)); (intro n' t' us' zs' e' h' tk' m' hJ' hz' F' N'))) | ((with_reducible show wpAny _ _ (call (Value.builtin _) _) _ _ _); with_reducible (k_here; (with_reducible show wpAny _ _ (call (Value.builtin _) [Value.ref _, Value.int 0 _, _]) _ _ _); k_dflt (refine' insert0 ?zzF ?zzN ?zzU ?zzz ?_; (case zzF => k_asm); (case zzN => k_asm); (case zzU => k_upd); (case zzz => assumption); k_whole); intro h' F' N'; (try k_sweep))) | ((with_reducible show wpAny _ _ (eval (Expr.Constant (Const.int _) _ _) _) _ _ _); with_reducible refine const_i ?_) | ((with_reducible show wpAny _ _ (call (Value.type _) _) _ _ _); with_reducible (k_here; (with_reducible show wpAny _ _ (call (Value.type _) [Value.ref _]) _ _ _); (rename DJ _ _ _ _ => hJ9); k_dflt (refine' bytes_K ?zzF ?zzN ?zzl ?zzi ?zzr ?zzz ?zzh ?_; (case zzF => k_asm); (case zzN => k_asm); (case zzl => is_list); (case zzi => exact hJ9.i); (case zzr => exact hJ9.r); (case zzz => (have := hJ9.l; rw [sizeLine_eq]; omega)); (case zzh => with_unfolding_all rfl); k_whole); intro h' t' k' F' N' hB'; (try k_sweep))) | ((with_reducible show wpAny _ _ (execs (_ :: _) _) _ _ _); with_reducible (refine wpAny_execs_cons ?_; (try k_fold))) | ((with_reducible show wpAny _ _ (storeName _ _ _) _ _ _); with_reducible (k_here; k_dflt (refine' storeP ?zzF ?zzN ?_ ?zza ?zzb; (case zzF => k_asm); (case zzN => k_asm); (case zza => rfl); (case zzb => rfl); k_whole; intro h' tk' F' N'; (try k_sweep)))) | walk1 | (dsimp only; first | ((with_reducible show wpAny _ _ (exec (Stmt.While _ _ _ _) _) _ _ _); with_reducible (k_here; k_dflt (refine' digs_while ?zzF ?zzN ?zzh1 ?zzh2 ?zzhs ?_ ?zzE; (case zzF => k_asm); (case zzN => k_asm); (case zzh1 => exact rfl); (case zzh2 => exact rfl); (case zzhs => assumption); (case zzE => first | passes_own | with_unfolding_all passes_own)); (intro n' t' us' zs' e' h' tk' m' hJ' hz' F' N'))) | ((with_reducible show wpAny _ _ (call (Value.builtin _) _) _ _ _); with_reducible (k_here; (with_reducible show wpAny _ _ (call (Value.builtin _) [Value.ref _, Value.int 0 _, _]) _ _ _); k_dflt (refine' insert0 ?zzF ?zzN ?zzU ?zzz ?_; (case zzF => k_asm); (case zzN => k_asm); (case zzU => k_upd); (case zzz => assumption); k_whole); intro h' F' N'; (try k_sweep))) | ((with_reducible show wpAny _ _ (eval (Expr.Constant (Const.int _) _ _) _) _ _ _); with_reducible refine const_i ?_) | ((with_reducible show wpAny _ _ (call (Value.type _) _) _ _ _); with_reducible (k_here; (with_reducible show wpAny _ _ (call (Value.type _) [Value.ref _]) _ _ _); (rename DJ _ _ _ _ => hJ9); k_dflt (refine' bytes_K ?zzF ?zzN ?zzl ?zzi ?zzr ?zzz ?zzh ?_; (case zzF => k_asm); (case zzN => k_asm); (case zzl => is_list); (case zzi => exact hJ9.i); (case zzr => exact hJ9.r); (case zzz => (have := hJ9.l; rw [sizeLine_eq]; omega)); (case zzh => with_unfolding_all rfl); k_whole); intro h' t' k' F' N' hB'; (try k_sweep))) | ((with_reducible show wpAny _ _ (execs (_ :: _) _) _ _ _); with_reducible (refine wpAny_execs_cons ?_; (try k_fold))) | ((with_reducible show wpAny _ _ (storeName _ _ _) _ _ _); with_reducible (k_here; k_dflt (refine' storeP ?zzF ?zzN ?_ ?zza ?zzb; (case zzF => k_asm); (case zzN => k_asm); (case zza => rfl); (case zzb => rfl); k_whole; intro h' tk' F' N'; (try k_sweep)))) | walk1) | (leave1; (try dsimp only)) | fail "no step")
  all_goals (
    rename Fr _ _ _ _ => F9
    rename News _ _ _ _ => N9
    rename DJ _ _ _ _ => hJ9)
  · rename (0 : Int) < _ => hn9
    exact DigJ.step hJ9 hn9 rfl F9 N9
  · show R (.ok (.ret _)) _
    rename ¬ ((0 : Int) < _) => hn9
    refine hret _ g [] _ _ rfl F9.keep (fun _ h => nomatch h) (bytes_ex ?_)
    rw [hJ9.d]
    have e0 := Int.ofNat_eq_zero.mp (Int.le_antisymm (Int.not_lt.mp hn9) (Int.natCast_nonneg _))
    rw [e0, digs_zero, List.nil_append]


end T_M19
section T_M20
open PySem PySem.W PyProof.Rows PySem.Spec PySem.Calls
set_option maxRecDepth 100000
set_option maxHeartbeats 1000000




mutual
noncomputable def TreeAt (h : Heap) : Tr → Value → Prop
  | .leaf b, v => ∃ tk, v = .bytes b.toArray tk
  | .node cs, v => ∃ a vs, v = .ref a ∧ h.IsList a vs.toArray ∧ TreesAt h cs vs
noncomputable def TreesAt (h : Heap) : List Tr → List Value → Prop
  | [], vs => vs = []
  | t :: ts, vs => ∃ v r, vs = v :: r ∧ TreeAt h t v ∧ TreesAt h ts r
end
mutual
noncomputable def Tr.wt : Tr → Nat
  | .leaf b => b.length + 42
  | .node cs => 300 + wts cs
noncomputable def wts : List Tr → Nat
  | [] => 0
  | t :: ts => t.wt + wts ts
end
theorem wts_mem {c : Tr} : ∀ {cs : List Tr}, c ∈ cs → c.wt ≤ wts cs
  | t :: ts, h => by
    rw [wts]
    rcases List.mem_cons.mp h with rfl | h
    · omega
    · have := wts_mem h; omega
theorem wt_pos (t : Tr) : 42 ≤ t.wt := by cases t <;> simp [Tr.wt]; omega
theorem wts_len : ∀ cs : List Tr, 42 * cs.length ≤ wts cs
  | [] => by simp
  | t :: ts => by
    have := wts_len ts
    have := wt_pos t
    rw [wts, List.length_cons]; omega
theorem wts_append : ∀ (a b : List Tr), wts (a ++ b) = wts a + wts b
  | [], b => by simp [wts]
  | t :: ts, b => by rw [List.cons_append, wts, wts, wts_append ts b]; omega
theorem headF_len (base n : Nat) (h : n < 65536) : (headF base n).length ≤ 3 := by
  unfold headF
  split
  · simp
  · have := digs_len (k := 2) (n := n) (by omega)
    simp; omega
mutual
theorem enc_wt : ∀ t : Tr, t.wt ≤ 65000 → (enc t).length + 20 ≤ t.wt
  | .leaf b, h => by
    rw [Tr.wt] at h ⊢
    rw [enc]
    split
    · omega
    · rw [List.length_append]
      have := headF_len 128 b.length (by omega)
      omega
  | .node cs, h => by
    rw [Tr.wt] at h ⊢
    rw [enc, List.length_append]
    have h1 := encs_wt cs (by omega)
    have := headF_len 192 (encs cs).length (by omega)
    omega
theorem encs_wt : ∀ cs : List Tr, wts cs ≤ 65000 → (encs cs).length ≤ wts cs
  | [], h => by simp [encs]
  | t :: ts, h => by
    rw [wts] at h ⊢
    rw [encs, List.length_append]
    have h1 := enc_wt t (by omega)
    have h2 := encs_wt ts (by omega)
    omega
end
theorem treesAt_len {h : Heap} : ∀ {cs : List Tr} {vs : List Value}, TreesAt h cs vs → vs.length = cs.length
  | [], vs, t => by rw [TreesAt] at t; rw [t]; rfl
  | _ :: _, vs, t => by
    rw [TreesAt] at t
    obtain ⟨v, r, rfl, _, t2⟩ := t
    rw [List.length_cons, List.length_cons, treesAt_len t2]
theorem treesAt_get {h : Heap} : ∀ {cs : List Tr} {vs : List Value}, TreesAt h cs vs → ∀ (i : Nat) v, vs[i]? = some v → ∃ c, cs[i]? = some c ∧ TreeAt h c v
  | [], vs, t, i, v, e => by rw [TreesAt] at t; rw [t] at e; simp at e
  | c :: cs, vs, t, i, v, e => by
    rw [TreesAt] at t
    obtain ⟨v0, r, rfl, t1, t2⟩ := t
    cases i with
    | zero => simp at e; subst e; exact ⟨c, by simp, t1⟩
    | succ i => simp at e; obtain ⟨c', h1, h2⟩ := treesAt_get t2 i v e; exact ⟨c', by simpa using h1, h2⟩
mutual
theorem TreeAt.on {h h' : Heap} (k : ∀ a items, h.IsList a items → h'.IsList a items) : ∀ {t : Tr} {v : Value}, TreeAt h t v → TreeAt h' t v
  | .leaf b, v, t => by rw [TreeAt] at t ⊢; exact t
  | .node cs, v, t => by
    rw [TreeAt] at t ⊢
    obtain ⟨a, vs, e, h1, h2⟩ := t
    exact ⟨a, vs, e, k _ _ h1, TreesAt.on k h2⟩
theorem TreesAt.on {h h' : Heap} (k : ∀ a items, h.IsList a items → h'.IsList a items) : ∀ {t : List Tr} {v : List Value}, TreesAt h t v → TreesAt h' t v
  | [], v, t => by rw [TreesAt] at t ⊢; exact t
  | c :: cs, v, t => by
    rw [TreesAt] at t ⊢
    obtain ⟨v0, r, e, h1, h2⟩ := t
    exact ⟨v0, r, e, TreeAt.on k h1, TreesAt.on k h2⟩
end
theorem isList_stays {h h' : Heap} (k : h.StaysIn h') {a : Addr} {items : Array Value} (x : h.IsList a items) : h'.IsList a items := let ⟨o, ho, r⟩ := x; ⟨o, k _ o ho, r⟩
theorem isList_turn {fs : List Addr} {g g' : Heap} (T : KtsTurn fs g g') (D : KtsDicts fs g) {a : Addr} {items : Array Value} (x : g.IsList a items) : g'.IsList a items := by
  obtain ⟨o, ho, hc, n, hd⟩ := x
  refine ⟨o, T.other _ _ ho fun hm => ?_, hc, n, hd⟩
  obtain ⟨o', es, n', ho', hd'⟩ := D a hm
  rw [ho] at ho'; cases ho'
  rw [hd] at hd'; cases hd'
theorem TreeAt.stays {h h' : Heap} (k : h.StaysIn h') {t : Tr} {v : Value} (x : TreeAt h t v) : TreeAt h' t v := x.on fun _ _ => isList_stays k
/-- names told anew -/
noncomputable def ovr (o : Str → Option Value) : List Str → (Str → Option Value) → Str → Option Value
  | [], m => m
  | y :: r, m => fun z => if z = y then o y else ovr o r m z
theorem ovr_eq {o m : Str → Option Value} : ∀ {ys : List Str}, (∀ y, y ∉ ys → o y = m y) → ovr o ys m = o
  | [], h => funext fun y => (h y (by simp)).symm
  | y :: r, h => by
    funext z
    unfold ovr
    split
    · rename_i e; rw [e]
    · rename_i e
      have : ∀ ys : List Str, z ∉ ys ∨ z ∈ ys := fun ys => (Classical.em _).symm
      clear this
      have key : ∀ (l : List Str), (∀ y, y ∉ l → y = z → o y = m y) → ovr o l m z = o z := by
        intro l
        induction l with
        | nil => intro hl; exact (hl z (by simp) rfl).symm
        | cons a l ih =>
          intro hl
          unfold ovr
          split
          · rename_i e2; rw [e2]
          · rename_i e2
            exact ih fun y hy hyz => hl y (by rw [List.mem_cons, not_or]; exact ⟨by rw [hyz]; exact e2, hy⟩) hyz
      exact key r fun y hy hyz => h y (by rw [List.mem_cons, not_or]; exact ⟨by rw [hyz]; exact e, hy⟩)

section
variable {w : World} {mean : ExcName → Option Value} {mg mb : Str → Option Value} {base g₀ : Heap} {outer : List Env} {A : Around} {s : Shared} {env : Env}

theorem not_frame (S : Site w mean mg mb base outer g₀) {h : Heap} (k : g₀.StaysIn h) {l : Addr} {o : Obj} (ho : h.get? l = some o) (hd : ∀ es n, o.data ≠ .dict es n) : l ∉ frs outer := fun hm => by
  obtain ⟨o', es, n, h1, h2⟩ := S.dicts l hm
  have := k _ _ h1
  rw [ho] at this; cases this
  exact hd _ _ h2
theorem Site.there (S : Site w mean mg mb base outer g₀) : ∀ b ∈ frs outer, ∃ o, g₀.get? b = some o := fun b hb => by
  obtain ⟨o, _, _, h, _⟩ := S.dicts b hb; exact ⟨o, h⟩

theorem For_S {E : Value → Shared → Prop} {Q : Flow → Shared → Prop} {x : Str} {px pos : Pos} {iter : Expr} {body : List Stmt} (_S : Site w mean mg mb base outer g₀) (hx : env.kindOf x = some .local)
    (hp : (env.scope.kind == .class || (env.scope.kind == .module && env.locals != env.globals)) = false)
    (h : wpAny (model PG w) A (eval iter env) (fun xv s₁ => wpAny (model PG w) A (pyIter xv) (fun it s₂ => LoopO w A (frs outer) env x body Q E it s₂) E s₁) E s)
    (hs : ∀ x, foldedSetIterable iter env x = pure x := by intro _; rfl)
    (hE : PassesOwn (model PG w) A env E := by passes_own) :
    wpAny (model PG w) A (exec (.For (.Name x px) iter body [] pos) env) Q E s := For_own (frs outer) hx hp h hs hE

noncomputable abbrev KJ := Nat → Heap → (Str → Option Value) → Led → Prop

theorem Iter_list_K {E : Value → Shared → Prop} {Q : Flow → Shared → Prop} {x : Str} {body : List Stmt} {l : Addr} {items : Array Value} {m : Str → Option Value} {news : Led} (ys : List Str)
    (K : KJ) (S : Site w mean mg mb base outer g₀) (hh : A.handled = none) (hl : s.heap.IsList l items) (hln : ∀ p ∈ news, p.1 ≠ l)
    (F : Fr g₀ env.locals s.heap m) (N : News g₀ env.locals s.heap news) (h0 : K 0 g₀ m news)
    (step : ∀ (i : Nat) v o news₁ h₁ tk₁ own g₁, items[i]? = some v → KtsTurn (frs outer) g₀ g₁ → Site w mean mg mb base outer g₁ → K i g₁ o news₁ → (∀ q ∈ own, ∀ p ∈ news₁, q.1 ≠ p.1) →
      Fr g₁ env.locals h₁ (fun y => if y = x then some v else ovr o ys m y) → News g₁ env.locals h₁ (own ++ news₁) →
      wpAny (model PG w) A (execs body env) (OwnStep (frs outer) env.locals g₁ own (fun g m' n => (∀ y, y ∉ ys → m' y = m y) ∧ K (i + 1) g m' n) { s with heap := h₁, toks := tk₁ } (fun v s' => Q (.ret v) s')) E { s with heap := h₁, toks := tk₁ })
    (done : ∀ h' tk o news' g', KtsTurn (frs outer) g₀ g' → Site w mean mg mb base outer g' → K items.size g' o news' → Fr g' env.locals h' (ovr o ys m) → News g' env.locals h' news' → Q .next { s with heap := h', toks := tk }) :
    wpAny (model PG w) A (pyIter (.ref l)) (fun it s₂ => LoopO w A (frs outer) env x body Q E it s₂) E s := by
  obtain ⟨ol, hol, hlc, hln', hld⟩ := id hl
  refine Iter_list_own (fun i g m' n => (∀ y, y ∉ ys → m' y = m y) ∧ K i g m' n) hh hl (not_frame S (fun b o e => F.keep b o e) hol fun es n q => by rw [hld] at q; cases q) hln ?_ F N ⟨fun _ _ => rfl, h0⟩ S.there
    (fun i v m₁ news₁ h₁ tk₁ own g₁ hv T hJ hd F₁ N₁ => step i v m₁ news₁ h₁ tk₁ own g₁ hv T (S.turn T) hJ.2 hd (by rw [ovr_eq hJ.1]; exact F₁) N₁)
    (fun h' tk m' news' g' T F' N' hJ => done h' tk m' news' g' T (S.turn T) hJ.2 (by rw [ovr_eq hJ.1]; exact F') N')
  rintro rfl
  obtain ⟨oL, es, ep, h1, h2, _⟩ := F.ns
  rw [hol] at h1; cases h1
  rw [hld] at h2; cases h2
theorem Iter_tuple_K {E : Value → Shared → Prop} {Q : Flow → Shared → Prop} {x : Str} {body : List Stmt} {l : Addr} {items : Array Value} {m : Str → Option Value} {news : Led} (ys : List Str)
    (K : KJ) (S : Site w mean mg mb base outer g₀) (hh : A.handled = none) (hl : s.heap.IsTuple l items) (hln : ∀ p ∈ news, p.1 ≠ l)
    (F : Fr g₀ env.locals s.heap m) (N : News g₀ env.locals s.heap news) (h0 : K 0 g₀ m news)
    (step : ∀ (i : Nat) v o news₁ h₁ tk₁ own g₁, items[i]? = some v → KtsTurn (frs outer) g₀ g₁ → Site w mean mg mb base outer g₁ → K i g₁ o news₁ → (∀ q ∈ own, ∀ p ∈ news₁, q.1 ≠ p.1) →
      Fr g₁ env.locals h₁ (fun y => if y = x then some v else ovr o ys m y) → News g₁ env.locals h₁ (own ++ news₁) →
      wpAny (model PG w) A (execs body env) (OwnStep (frs outer) env.locals g₁ own (fun g m' n => (∀ y, y ∉ ys → m' y = m y) ∧ K (i + 1) g m' n) { s with heap := h₁, toks := tk₁ } (fun v s' => Q (.ret v) s')) E { s with heap := h₁, toks := tk₁ })
    (done : ∀ h' tk o news' g', KtsTurn (frs outer) g₀ g' → Site w mean mg mb base outer g' → K items.size g' o news' → Fr g' env.locals h' (ovr o ys m) → News g' env.locals h' news' → Q .next { s with heap := h', toks := tk }) :
    wpAny (model PG w) A (pyIter (.ref l)) (fun it s₂ => LoopO w A (frs outer) env x body Q E it s₂) E s := by
  obtain ⟨ol, hol, hlc, hln', hld⟩ := id hl
  refine Iter_tuple_own (fun i g m' n => (∀ y, y ∉ ys → m' y = m y) ∧ K i g m' n) hh hl (not_frame S (fun b o e => F.keep b o e) hol fun es n q => by rw [hld] at q; cases q) hln ?_ F N ⟨fun _ _ => rfl, h0⟩ S.there
    (fun i v m₁ news₁ h₁ tk₁ own g₁ hv T hJ hd F₁ N₁ => step i v m₁ news₁ h₁ tk₁ own g₁ hv T (S.turn T) hJ.2 hd (by rw [ovr_eq hJ.1]; exact F₁) N₁)
    (fun h' tk m' news' g' T F' N' hJ => done h' tk m' news' g' T (S.turn T) hJ.2 (by rw [ovr_eq hJ.1]; exact F') N')
  rintro rfl
  obtain ⟨oL, es, ep, h1, h2, _⟩ := F.ns
  rw [hol] at h1; cases h1
  rw [hld] at h2; cases h2
theorem Iter_range_K {E : Value → Shared → Prop} {Q : Flow → Shared → Prop} {x : Str} {body : List Stmt} {r : Addr} {k : Nat} {t u v : Tok} {m : Str → Option Value} {news : Led} (ys : List Str)
    (K : KJ) (S : Site w mean mg mb base outer g₀) (hh : A.handled = none) (hsmall : Builtin.Range.small 0 k 1 = true)
    (F : Fr g₀ env.locals s.heap m) (hr : IsRange s.heap r 0 (k : Int) 1 t u v) (N : News g₀ env.locals s.heap news) (h0 : K 0 g₀ m news)
    (step : ∀ (i : Nat) t o news₁ h₁ tk₁ own g₁, i < k → KtsTurn (frs outer) g₀ g₁ → Site w mean mg mb base outer g₁ → K i g₁ o news₁ → (∀ q ∈ own, ∀ p ∈ news₁, q.1 ≠ p.1) →
      Fr g₁ env.locals h₁ (fun y => if y = x then some (.int (i : Int) t) else ovr o ys m y) → News g₁ env.locals h₁ (own ++ news₁) →
      wpAny (model PG w) A (execs body env) (OwnStep (frs outer) env.locals g₁ own (fun g m' n => (∀ y, y ∉ ys → m' y = m y) ∧ K (i + 1) g m' n) { s with heap := h₁, toks := tk₁ } (fun v s' => Q (.ret v) s')) E { s with heap := h₁, toks := tk₁ })
    (done : ∀ h' tk o news' g', KtsTurn (frs outer) g₀ g' → Site w mean mg mb base outer g' → K k g' o news' → Fr g' env.locals h' (ovr o ys m) → News g' env.locals h' news' → Q .next { s with heap := h', toks := tk }) :
    wpAny (model PG w) A (pyIter (.ref r)) (fun it s₂ => LoopO w A (frs outer) env x body Q E it s₂) E s :=
  Iter_range_own (fun i g m' n => (∀ y, y ∉ ys → m' y = m y) ∧ K i g m' n) hh hsmall F hr N ⟨fun _ _ => rfl, h0⟩ S.there
    (fun i v m₁ news₁ h₁ tk₁ own g₁ hv T hJ hd F₁ N₁ => step i v m₁ news₁ h₁ tk₁ own g₁ hv T (S.turn T) hJ.2 hd (by rw [ovr_eq hJ.1]; exact F₁) N₁)
    (fun h' tk m' news' g' T F' N' hJ => done h' tk m' news' g' T (S.turn T) hJ.2 (by rw [ovr_eq hJ.1]; exact F') N')
end


end T_M20
section T_M21
open PySem PySem.W PyProof.Rows PySem.Spec PySem.Calls
set_option maxRecDepth 100000
set_option maxHeartbeats 1000000




theorem sp230x {w : World} {mean : ExcName → Option Value} {mg mb : Str → Option Value} (size : Nat) (t1 t2 : Tok) (hs : size < 65536) :
  Spec w mean mg mb 230 2 ⟨[.int 128 t1, .int size t2], []⟩ false (fun _ => True) [] (fun r own' => ∃ tk, r = .bytes (headF 128 size).toArray tk ∧ own' = []) (fun _ _ _ => False) := sp230 128 size t1 t2 (by decide) hs
theorem sp230y {w : World} {mean : ExcName → Option Value} {mg mb : Str → Option Value} (size : Nat) (t1 t2 : Tok) (hs : size < 65536) :
  Spec w mean mg mb 230 2 ⟨[.int 192 t1, .int size t2], []⟩ false (fun _ => True) [] (fun r own' => ∃ tk, r = .bytes (headF 192 size).toArray tk ∧ own' = []) (fun _ _ _ => False) := sp230 192 size t1 t2 (by decide) hs
/-- what _law_put of a string is -/
theorem sp237leaf {w : World} {mean : ExcName → Option Value} {mg mb : Str → Option Value} (b : List UInt8) (t1 : Tok) (hb : b.length ≤ 60000) :
  Spec w mean mg mb 237 6 ⟨[.bytes b.toArray t1], []⟩ false (fun _ => True) [] (fun r own' => ∃ tk, r = .bytes (enc (.leaf b)).toArray tk ∧ own' = []) (fun _ _ _ => False) := by
  have hl0 := headF_len 128 b.length (by omega)
  have hg0 : (b.getD (Int.toNat 0) 0).toNat = (b.getD 0 0).toNat := rfl
  intro dp un gd base' outer g s R S hg hsz ho hpp hd1 hu1 hret hexc
  first | refine enterP S hg hsz ho (by k_is) (by k_is) (room_0 hd1) (BindsTo.of_eq rfl) rfl ?_ rfl rfl rfl (by decide) | refine enter S hg hsz ho (by k_is) (by k_is) (room_0 hd1) (BindsTo.of_eq rfl) (locs rfl) ?_ rfl rfl rfl (by decide)
  intro L' h₁ tk₁ hst hL F N B X T M₁ en₁ A₁
  (try dsimp only)
  k_fold
  repeat' (first | (k_unfold; (try dsimp only)) | (k_end; wrow_close) | ((with_reducible show wpAny _ _ (binaryOp Operator.Add (Value.bytes _ _) (Value.bytes _ _)) _ _ _); with_reducible (k_here; (with_reducible show wpAny _ _ (binaryOp Operator.Add (Value.bytes (List.toArray _) _) (Value.bytes (List.toArray _) _)) _ _ _); (refine add_list (by (try simp only [List.length_append, cutI_length, List.length_cons, List.length_nil]); first | decide | omega) ?_); intro _ _)) | ((with_reducible show wpAny _ _ (eval (Expr.Constant (Const.int _) _ _) _) _ _ _); with_reducible refine const_i ?_) | ((with_reducible show wpAny _ _ (call (Value.builtin _) _) _ _ _); with_reducible (k_here; (with_reducible show wpAny _ _ (call (Value.builtin "len") [Value.bytes (List.toArray _) _]) _ _ _); (refine len_list (by (try simp only [List.length_append, cutI_length, List.length_cons, List.length_nil]); first | decide | omega) ?_); intro _ _)) | ((with_reducible show wpAny _ _ (subscriptTail _ _ _ _) _ _ _); with_reducible (k_here; (with_reducible show wpAny _ _ (subscriptTail _ _ (Value.bytes (List.toArray _) _) (Value.int _ _)) _ _ _); (refine KBy.item_N (by first | omega | (simp only [List.length_append]; omega)) (by omega) (by first | omega | (simp only [List.length_append]; omega)) ?_))) | ((with_reducible show wpAny _ _ (execs (_ :: _) _) _ _ _); with_reducible (refine wpAny_execs_cons ?_; (try k_fold))) | ((with_reducible show wpAny _ _ (call (Value.ref _) _) _ _ _); with_reducible (k_here; (with_reducible show wpAny _ _ (call (Value.ref 230) _) _ _ _); k_dflt (refine' call0 (sp230x _ _ _ ?zzhx) ?zzS ?zzF ?zzN ?zzkK ?zzkA ?zzpre ?zzhd ?zzhu ?_; (case zzkA => exact rfl); (case zzS => assumption); (case zzF => k_asm); (case zzN => k_asm); (case zzkK => exact rfl); (case zzpre => exact fun _ _ _ => trivial); (case zzhx => omega); (case zzhd => first | (refine' room_d ?zzza ?zzzb; (case zzza => assumption); (case zzzb => first | decide | (refine Nat.succ_le_succ (Nat.le_trans ?_ (by assumption)); decide))) | (dsimp only [top]; omega)); (case zzhu => first | (refine' room_u ?zzza ?zzzb; (case zzza => assumption); (case zzzb => first | decide | (refine Nat.succ_le_succ (Nat.le_trans ?_ (by assumption)); decide))) | (dsimp only [top]; omega))); intro r' own' h' tk' F' N' hdis' hr'; obtain ⟨t', hr1, hr2⟩ := hr'; subst hr1; subst hr2; (try simp only [List.nil_append] at N'))) | walk1 | (dsimp only; first | ((with_reducible show wpAny _ _ (binaryOp Operator.Add (Value.bytes _ _) (Value.bytes _ _)) _ _ _); with_reducible (k_here; (with_reducible show wpAny _ _ (binaryOp Operator.Add (Value.bytes (List.toArray _) _) (Value.bytes (List.toArray _) _)) _ _ _); (refine add_list (by (try simp only [List.length_append, cutI_length, List.length_cons, List.length_nil]); first | decide | omega) ?_); intro _ _)) | ((with_reducible show wpAny _ _ (eval (Expr.Constant (Const.int _) _ _) _) _ _ _); with_reducible refine const_i ?_) | ((with_reducible show wpAny _ _ (call (Value.builtin _) _) _ _ _); with_reducible (k_here; (with_reducible show wpAny _ _ (call (Value.builtin "len") [Value.bytes (List.toArray _) _]) _ _ _); (refine len_list (by (try simp only [List.length_append, cutI_length, List.length_cons, List.length_nil]); first | decide | omega) ?_); intro _ _)) | ((with_reducible show wpAny _ _ (subscriptTail _ _ _ _) _ _ _); with_reducible (k_here; (with_reducible show wpAny _ _ (subscriptTail _ _ (Value.bytes (List.toArray _) _) (Value.int _ _)) _ _ _); (refine KBy.item_N (by first | omega | (simp only [List.length_append]; omega)) (by omega) (by first | omega | (simp only [List.length_append]; omega)) ?_))) | ((with_reducible show wpAny _ _ (execs (_ :: _) _) _ _ _); with_reducible (refine wpAny_execs_cons ?_; (try k_fold))) | ((with_reducible show wpAny _ _ (call (Value.ref _) _) _ _ _); with_reducible (k_here; (with_reducible show wpAny _ _ (call (Value.ref 230) _) _ _ _); k_dflt (refine' call0 (sp230x _ _ _ ?zzhx) ?zzS ?zzF ?zzN ?zzkK ?zzkA ?zzpre ?zzhd ?zzhu ?_; (case zzkA => exact rfl); (case zzS => assumption); (case zzF => k_asm); (case zzN => k_asm); (case zzkK => exact rfl); (case zzpre => exact fun _ _ _ => trivial); (case zzhx => omega); (case zzhd => first | (refine' room_d ?zzza ?zzzb; (case zzza => assumption); (case zzzb => first | decide | (refine Nat.succ_le_succ (Nat.le_trans ?_ (by assumption)); decide))) | (dsimp only [top]; omega)); (case zzhu => first | (refine' room_u ?zzza ?zzzb; (case zzza => assumption); (case zzzb => first | decide | (refine Nat.succ_le_succ (Nat.le_trans ?_ (by assumption)); decide))) | (dsimp only [top]; omega))); intro r' own' h' tk' F' N' hdis' hr'; obtain ⟨t', hr1, hr2⟩ := hr'; subst hr1; subst hr2; (try simp only [List.nil_append] at N'))) | walk1) | (leave1; (try dsimp only)) | fail "no step")
  all_goals (try k_data)
  all_goals (try (exfalso; omega))
  all_goals (
    show R (.ok (.ret _)) _
    rename Fr _ _ _ _ => F9
    refine hret _ g [] _ _ rfl F9.keep (fun _ h => nomatch h) (bytes_ex ?_)
    rw [enc]
    first
      | rw [if_pos ⟨by omega, by omega⟩]
      | rw [if_neg (by omega)])

theorem encs_take' {cs : List Tr} {i : Nat} {c : Tr} (h : cs[i]? = some c) : encs (cs.take (i + 1)) = encs (cs.take i) ++ enc c := by
  obtain ⟨hi, e⟩ := List.getElem?_eq_some_iff.mp h
  rw [encs_take cs hi, e]
section
variable {w : World} {mean : ExcName → Option Value} {mg mb : Str → Option Value} {base g₀ : Heap} {outer : List Env} {A : Around} {s : Shared} {env : Env} {Q : Flow → Shared → Prop} {E : Value → Shared → Prop} {body : List Stmt}
noncomputable def PutK (g₀ : Heap) (m : Str → Option Value) (cs : List Tr) (i : Nat) : Heap → (Str → Option Value) → Led → Prop := fun g o n =>
  (∀ y, y ∉ [Str.ofString "part", Str.ofString "body"] → o y = m y) ∧ g = g₀ ∧ n = [] ∧ ∃ tk, o (Str.ofString "body") = some (.bytes (encs (cs.take i)).toArray tk)
theorem put_iter {cs : List Tr} {vs : List Value} {a : Addr} {m : Str → Option Value} {tk0 : Tok} (S : Site w mean mg mb base outer g₀) (hh : A.handled = none) (hl : g₀.IsList a vs.toArray) (T : TreesAt g₀ cs vs)
    (F : Fr g₀ env.locals s.heap m) (N : News g₀ env.locals s.heap []) (hb : m (Str.ofString "body") = some (.bytes #[] tk0))
    (turn : ∀ (i : Nat) c v o h₁ tk₁ tk own, cs[i]? = some c → c ∈ cs → TreeAt g₀ c v → (encs (cs.take i)).length + (enc c).length ≤ (encs cs).length →
      Fr g₀ env.locals h₁ (fun y => if y = Str.ofString "part" then some v else if y = Str.ofString "part" then o else if y = Str.ofString "body" then some (.bytes (encs (cs.take i)).toArray tk) else m y) → News g₀ env.locals h₁ own →
      wpAny (model PG w) A (execs body env) (OwnStep (frs outer) env.locals g₀ own (PutK g₀ m cs (i + 1)) { s with heap := h₁, toks := tk₁ } (fun v s' => Q (.ret v) s')) E { s with heap := h₁, toks := tk₁ })
    (done : ∀ h' tk tk2 o, Fr g₀ env.locals h' (fun y => if y = Str.ofString "part" then o else if y = Str.ofString "body" then some (.bytes (encs cs).toArray tk2) else m y) → News g₀ env.locals h' [] → Q .next { s with heap := h', toks := tk }) :
    wpAny (model PG w) A (pyIter (.ref a)) (fun it s₂ => LoopO w A (frs outer) env (Str.ofString "part") body Q E it s₂) E s := by
  refine Iter_list_K [Str.ofString "part", Str.ofString "body"] (fun i g o n => g = g₀ ∧ n = [] ∧ ∃ tk, o (Str.ofString "body") = some (.bytes (encs (cs.take i)).toArray tk)) S hh (isList_stays (fun b o e => F.keep b o e) hl) (news := []) (fun _ h => nomatch h) F N ⟨rfl, rfl, tk0, by rw [hb]; rfl⟩ ?_ ?_
  · rintro i v o news₁ h₁ tk₁ own g₁ hv T₁ S₁ ⟨rfl, rfl, tk, hk⟩ hd F₁ N₁
    rw [List.append_nil] at N₁
    obtain ⟨c, hc, hct⟩ := treesAt_get T i v (by simpa using hv)
    refine turn i c v (o (Str.ofString "part")) h₁ tk₁ tk own hc (List.mem_of_getElem? hc) hct ?_ ?_ N₁
    · obtain ⟨hi, e⟩ := List.getElem?_eq_some_iff.mp hc
      have h1 := encs_take cs hi
      have h2 := encs_split cs (i + 1)
      rw [e] at h1
      rw [h1] at h2
      rw [h2]; simp
    · rw [← hk]; exact F₁
  · rintro h' tk o news' g' T' S' ⟨rfl, rfl, tk2, hk⟩ F' N'
    have e : cs.take vs.toArray.size = cs := by rw [List.size_toArray, treesAt_len T, List.take_length]
    rw [e] at hk
    refine done h' tk tk2 (o (Str.ofString "part")) ?_ N'
    rw [← hk]; exact F'
end
theorem kitAt_gl {g h : Heap} {L a : Addr} {m : Str → Option Value} {items : Array Value} (F : Fr g L h m) (hl : g.IsList a items) : KitAt a "list" h := let ⟨o, ho, hc, _⟩ := hl; ⟨o, F.keep _ _ ho, hc⟩
theorem sp237node {w : World} {mean : ExcName → Option Value} {mg mb : Str → Option Value} (cs : List Tr) (v : Value) (hw : wts cs ≤ 4000) (c : Nat) (IH : ∀ t v, t ∈ cs → Spec w mean mg mb 237 c ⟨[v], []⟩ false (fun G => TreeAt G t v) [] (fun r own' => ∃ tk, r = .bytes (enc t).toArray tk ∧ own' = []) (fun _ _ _ => False)) (hc : 5 ≤ c) :
  Spec w mean mg mb 237 (c + 1) ⟨[v], []⟩ false (fun G => TreeAt G (.node cs) v) [] (fun r own' => ∃ tk, r = .bytes (enc (.node cs)).toArray tk ∧ own' = []) (fun _ _ _ => False) := by
  have he := encs_wt cs (by omega)
  have hl0 := headF_len 192 (encs cs).length (by omega)
  intro dp un gd base' outer g s R S hg hsz ho hpp hd1 hu1 hret hexc
  rw [TreeAt] at hpp
  obtain ⟨a, vs, rfl, hl, hT⟩ := hpp
  have hls : s.heap.IsList a vs.toArray := isList_stays hg hl
  first | refine enterP S hg hsz ho (by k_is) (by k_is) (room_0 hd1) (BindsTo.of_eq rfl) rfl ?_ rfl rfl rfl (by decide) | refine enter S hg hsz ho (by k_is) (by k_is) (room_0 hd1) (BindsTo.of_eq rfl) (locs rfl) ?_ rfl rfl rfl (by decide)
  intro L' h₁ tk₁ hst hL F N B X T M₁ en₁ A₁
  (try dsimp only)
  k_fold
  repeat' (first | (k_unfold; (try dsimp only)) | (k_end; wrow_close) | ((with_reducible show wpAny _ _ (exec (Stmt.For (Expr.Name _ _) (Expr.Name _ _) _ _ _) _) _ _ _); with_reducible (k_here; k_dflt (refine' For_S ?zzS ?zzhx ?zzhp ?_ ?zzhs ?zzhE; (case zzS => assumption); (case zzhx => exact rfl); (case zzhp => exact rfl); (case zzhs => (intro _; with_unfolding_all rfl)); (case zzhE => first | passes_own | with_unfolding_all passes_own)))) | ((with_reducible show wpAny _ _ (binaryOp Operator.Add (Value.bytes _ _) (Value.bytes _ _)) _ _ _); with_reducible (k_here; (with_reducible show wpAny _ _ (binaryOp Operator.Add (Value.bytes (List.toArray _) _) (Value.bytes (List.toArray _) _)) _ _ _); (refine add_list (by (try simp only [List.length_append, cutI_length, List.length_cons, List.length_nil]); first | decide | omega) ?_); intro _ _)) | ((with_reducible show wpAny _ _ (call (Value.builtin _) _) _ _ _); with_reducible (k_here; (with_reducible show wpAny _ _ (call _ [Value.ref _, Value.type _]) _ _ _); k_dflt (refine' kia_one kitx_list ?zzX ?zzc ?zzee ?zznb ?_; (case zzX => k_in); (case zzc => exact kitAt_gl (by k_asm) (by assumption)); (case zzee => kit_is); (case zznb => kit_nb); k_whole; intro _))) | ((with_reducible show wpAny _ _ (eval (Expr.Constant (Const.int _) _ _) _) _ _ _); with_reducible refine const_i ?_) | ((with_reducible show wpAny _ _ (call (Value.builtin _) _) _ _ _); with_reducible (k_here; (with_reducible show wpAny _ _ (call (Value.builtin "len") [Value.bytes (List.toArray _) _]) _ _ _); (refine len_list (by (try simp only [List.length_append, cutI_length, List.length_cons, List.length_nil]); first | decide | omega) ?_); intro _ _)) | ((with_reducible show wpAny _ _ (execs (_ :: _) _) _ _ _); with_reducible (refine wpAny_execs_cons ?_; (try k_fold))) | ((with_reducible show wpAny _ _ (pyIter (Value.ref _)) _ _ _); with_reducible (k_here; k_dflt (refine' put_iter ?zzS ?zzhh ?zzhl ?zzT ?zzF ?zzN ?zzhb ?_ ?_; (case zzS => assumption); (case zzhh => exact rfl); (case zzhl => assumption); (case zzT => assumption); (case zzF => k_asm); (case zzN => k_asm); (case zzhb => exact rfl)); (intro i' c' v' o' h' tk' tk2' own' hc1' hc2' hc3' hc4' F' N'; (have C' := by (have ih := ‹∀ c v, c ∈ _ → Spec _ _ _ _ 237 _ ⟨[v], []⟩ _ _ _ _ _›; exact ih c' v' hc2'))); rotate_left; (intro h' tk' tk2' o' F' N'); rotate_left)) | ((with_reducible show wpAny _ _ (storeName _ _ _) _ _ _); with_reducible (k_here; k_dflt (refine' storeP ?zzF ?zzN ?_ ?zza ?zzb; (case zzF => k_asm); (case zzN => k_asm); (case zza => rfl); (case zzb => rfl); k_whole; intro h' tk' F' N'; (try k_sweep)))) | ((with_reducible show wpAny _ _ (call (Value.ref _) _) _ _ _); with_reducible (k_here; (with_reducible show wpAny _ _ (call (Value.ref 237) _) _ _ _); k_dflt (refine' call0 ?zzC ?zzS ?zzF ?zzN ?zzkK ?zzkA ?zzpre ?zzhd ?zzhu ?_; (case zzC => assumption); (case zzkA => exact rfl); (case zzS => assumption); (case zzF => k_asm); (case zzN => k_asm); (case zzkK => exact rfl); (case zzpre => exact fun _ hG _ => TreeAt.stays hG (by assumption)); (case zzhd => first | (refine' room_d ?zzza ?zzzb; (case zzza => assumption); (case zzzb => first | decide | (refine Nat.succ_le_succ (Nat.le_trans ?_ (by assumption)); decide))) | (dsimp only [top]; omega)); (case zzhu => first | (refine' room_u ?zzza ?zzzb; (case zzza => assumption); (case zzzb => first | decide | (refine Nat.succ_le_succ (Nat.le_trans ?_ (by assumption)); decide))) | (dsimp only [top]; omega))); intro r' own' h' tk' F' N' hdis' hr'; obtain ⟨t', hr1, hr2⟩ := hr'; subst hr1; subst hr2; (try simp only [List.nil_append] at N'))) | ((with_reducible show wpAny _ _ (call (Value.ref _) _) _ _ _); with_reducible (k_here; (with_reducible show wpAny _ _ (call (Value.ref 230) _) _ _ _); k_dflt (refine' call0 (sp230y _ _ _ ?zzhx) ?zzS ?zzF ?zzN ?zzkK ?zzkA ?zzpre ?zzhd ?zzhu ?_; (case zzkA => exact rfl); (case zzS => assumption); (case zzF => k_asm); (case zzN => k_asm); (case zzkK => exact rfl); (case zzpre => exact fun _ _ _ => trivial); (case zzhx => omega); (case zzhd => first | (refine' room_d ?zzza ?zzzb; (case zzza => assumption); (case zzzb => first | decide | (refine Nat.succ_le_succ (Nat.le_trans ?_ (by assumption)); decide))) | (dsimp only [top]; omega)); (case zzhu => first | (refine' room_u ?zzza ?zzzb; (case zzza => assumption); (case zzzb => first | decide | (refine Nat.succ_le_succ (Nat.le_trans ?_ (by assumption)); decide))) | (dsimp only [top]; omega))); intro r' own' h' tk' F' N' hdis' hr'; obtain ⟨t', hr1, hr2⟩ := hr'; subst hr1; subst hr2; (try simp only [List.nil_append] at N'))) | walk1 | (dsimp only; first | ((with_reducible show wpAny _ _ (exec (Stmt.For (Expr.Name _ _) (Expr.Name _ _) _ _ _) _) _ _ _); with_reducible (k_here; k_dflt (refine' For_S ?zzS ?zzhx ?zzhp ?_ ?zzhs ?zzhE; (case zzS => assumption); (case zzhx => exact rfl); (case zzhp => exact rfl); (case zzhs => (intro _; with_unfolding_all rfl)); (case zzhE => first | passes_own | with_unfolding_all passes_own)))) | ((with_reducible show wpAny _ _ (binaryOp Operator.Add (Value.bytes _ _) (Value.bytes _ _)) _ _ _); with_reducible (k_here; (with_reducible show wpAny _ _ (binaryOp Operator.Add (Value.bytes (List.toArray _) _) (Value.bytes (List.toArray _) _)) _ _ _); (refine add_list (by (try simp only [List.length_append, cutI_length, List.length_cons, List.length_nil]); first | decide | omega) ?_); intro _ _)) | ((with_reducible show wpAny _ _ (call (Value.builtin _) _) _ _ _); with_reducible (k_here; (with_reducible show wpAny _ _ (call _ [Value.ref _, Value.type _]) _ _ _); k_dflt (refine' kia_one kitx_list ?zzX ?zzc ?zzee ?zznb ?_; (case zzX => k_in); (case zzc => exact kitAt_gl (by k_asm) (by assumption)); (case zzee => kit_is); (case zznb => kit_nb); k_whole; intro _))) | ((with_reducible show wpAny _ _ (eval (Expr.Constant (Const.int _) _ _) _) _ _ _); with_reducible refine const_i ?_) | ((with_reducible show wpAny _ _ (call (Value.builtin _) _) _ _ _); with_reducible (k_here; (with_reducible show wpAny _ _ (call (Value.builtin "len") [Value.bytes (List.toArray _) _]) _ _ _); (refine len_list (by (try simp only [List.length_append, cutI_length, List.length_cons, List.length_nil]); first | decide | omega) ?_); intro _ _)) | ((with_reducible show wpAny _ _ (execs (_ :: _) _) _ _ _); with_reducible (refine wpAny_execs_cons ?_; (try k_fold))) | ((with_reducible show wpAny _ _ (pyIter (Value.ref _)) _ _ _); with_reducible (k_here; k_dflt (refine' put_iter ?zzS ?zzhh ?zzhl ?zzT ?zzF ?zzN ?zzhb ?_ ?_; (case zzS => assumption); (case zzhh => exact rfl); (case zzhl => assumption); (case zzT => assumption); (case zzF => k_asm); (case zzN => k_asm); (case zzhb => exact rfl)); (intro i' c' v' o' h' tk' tk2' own' hc1' hc2' hc3' hc4' F' N'; (have C' := by (have ih := ‹∀ c v, c ∈ _ → Spec _ _ _ _ 237 _ ⟨[v], []⟩ _ _ _ _ _›; exact ih c' v' hc2'))); rotate_left; (intro h' tk' tk2' o' F' N'); rotate_left)) | ((with_reducible show wpAny _ _ (storeName _ _ _) _ _ _); with_reducible (k_here; k_dflt (refine' storeP ?zzF ?zzN ?_ ?zza ?zzb; (case zzF => k_asm); (case zzN => k_asm); (case zza => rfl); (case zzb => rfl); k_whole; intro h' tk' F' N'; (try k_sweep)))) | ((with_reducible show wpAny _ _ (call (Value.ref _) _) _ _ _); with_reducible (k_here; (with_reducible show wpAny _ _ (call (Value.ref 237) _) _ _ _); k_dflt (refine' call0 ?zzC ?zzS ?zzF ?zzN ?zzkK ?zzkA ?zzpre ?zzhd ?zzhu ?_; (case zzC => assumption); (case zzkA => exact rfl); (case zzS => assumption); (case zzF => k_asm); (case zzN => k_asm); (case zzkK => exact rfl); (case zzpre => exact fun _ hG _ => TreeAt.stays hG (by assumption)); (case zzhd => first | (refine' room_d ?zzza ?zzzb; (case zzza => assumption); (case zzzb => first | decide | (refine Nat.succ_le_succ (Nat.le_trans ?_ (by assumption)); decide))) | (dsimp only [top]; omega)); (case zzhu => first | (refine' room_u ?zzza ?zzzb; (case zzza => assumption); (case zzzb => first | decide | (refine Nat.succ_le_succ (Nat.le_trans ?_ (by assumption)); decide))) | (dsimp only [top]; omega))); intro r' own' h' tk' F' N' hdis' hr'; obtain ⟨t', hr1, hr2⟩ := hr'; subst hr1; subst hr2; (try simp only [List.nil_append] at N'))) | ((with_reducible show wpAny _ _ (call (Value.ref _) _) _ _ _); with_reducible (k_here; (with_reducible show wpAny _ _ (call (Value.ref 230) _) _ _ _); k_dflt (refine' call0 (sp230y _ _ _ ?zzhx) ?zzS ?zzF ?zzN ?zzkK ?zzkA ?zzpre ?zzhd ?zzhu ?_; (case zzkA => exact rfl); (case zzS => assumption); (case zzF => k_asm); (case zzN => k_asm); (case zzkK => exact rfl); (case zzpre => exact fun _ _ _ => trivial); (case zzhx => omega); (case zzhd => first | (refine' room_d ?zzza ?zzzb; (case zzza => assumption); (case zzzb => first | decide | (refine Nat.succ_le_succ (Nat.le_trans ?_ (by assumption)); decide))) | (dsimp only [top]; omega)); (case zzhu => first | (refine' room_u ?zzza ?zzzb; (case zzza => assumption); (case zzzb => first | decide | (refine Nat.succ_le_succ (Nat.le_trans ?_ (by assumption)); decide))) | (dsimp only [top]; omega))); intro r' own' h' tk' F' N' hdis' hr'; obtain ⟨t', hr1, hr2⟩ := hr'; subst hr1; subst hr2; (try simp only [List.nil_append] at N'))) | walk1) | (leave1; (try dsimp only)) | fail "no step")
  all_goals (try k_data)
  all_goals (try (exfalso; omega))
  · rename Fr _ _ _ _ => F9
    rename News _ _ _ _ => N9
    rename _ = some _ => hc9
    refine ⟨_, _, _, [], g, rfl, KtsTurn.refl, F9, (by rw [List.append_nil]; exact N9), (fun _ _ _ h => nomatch h), fun y hy => ?_, rfl, rfl, ?_⟩
    · simp only [List.mem_cons, List.not_mem_nil, or_false, not_or] at hy
      simp only [hy.1, hy.2, if_false, put]
    · rw [encs_take' hc9]
      exact ⟨_, rfl⟩
  · show R (.ok (.ret _)) _
    rename Fr _ _ _ _ => F9
    refine hret _ g [] _ _ rfl F9.keep (fun _ h => nomatch h) (bytes_ex ?_)
    rw [enc]
theorem d300 {n : Nat} : n / 100 + 3 = (300 + n) / 100 := by rw [Nat.add_comm 300 n]; exact (Nat.add_mul_div_right n 3 (by decide)).symm
theorem sp237 {w : World} {mean : ExcName → Option Value} {mg mb : Str → Option Value} : ∀ (N : Nat) (t : Tr) (v : Value), t.wt ≤ N → t.wt ≤ 4300 →
    Spec w mean mg mb 237 (6 + t.wt / 100) ⟨[v], []⟩ false (fun G => TreeAt G t v) [] (fun r own' => ∃ tk, r = .bytes (enc t).toArray tk ∧ own' = []) (fun _ _ _ => False)
  | N, .leaf b, v, h, hw => by
    rw [Tr.wt] at hw
    intro dp un gd base' outer g s R S hg hsz ho hpp hd1 hu1 hret hexc
    rw [TreeAt] at hpp
    obtain ⟨tk, rfl⟩ := hpp
    exact sp237leaf b tk (by omega) dp un gd base' outer g s R S hg hsz ho trivial (Nat.lt_of_le_of_lt (Nat.add_le_add_left (Nat.le_add_right 6 _) dp) hd1) (Nat.lt_of_le_of_lt (Nat.add_le_add_left (Nat.mul_le_mul_left 8 (Nat.le_add_right 6 _)) un) hu1) hret hexc
  | 0, .node cs, v, h, hw => by rw [Tr.wt] at h; omega
  | N + 1, .node cs, v, h, hw => by
    rw [Tr.wt] at h hw
    have C := sp237node (w := w) (mean := mean) (mg := mg) (mb := mb) cs v (by omega) (6 + wts cs / 100) (fun t u ht => (sp237 N t u (by have := wts_mem ht; omega) (by have := wts_mem ht; omega)).mono (by have := wts_mem ht; have := Nat.div_le_div_right (c := 100) this; omega) (fun _ h => h) (fun _ _ h => h) fun _ _ _ h => h) (by omega)
    exact C.mono (by rw [Tr.wt, ← d300]; exact Nat.add_le_add_left (Nat.le_add_right (wts cs / 100 + 1) 2) 6) (fun _ h => h) (fun _ _ h => h) fun _ _ _ h => h


end T_M21
section T_M22
open PySem PySem.W PyProof.Rows PySem.Spec PySem.Calls
set_option maxRecDepth 100000
set_option maxHeartbeats 1000000




noncomputable def HasL (st : List LG) (x : Addr) (due : List PT) (sd : Value) (rem : Nat) : Prop := ∃ p ∈ st, p.1.x = x ∧ p.2 = due ∧ p.1.sd = sd ∧ p.1.rem = rem
theorem HasL.mono {st st' : List LG} {x : Addr} {due : List PT} {sd : Value} {rem : Nat} (h : HasL st x due sd rem) (e : Ext st st') : HasL st' x due sd rem := by
  obtain ⟨p, hp, h1, h2, h3, h4⟩ := h
  obtain ⟨q, hq, e1, e2, e3, e4⟩ := e p hp
  exact ⟨q, hq, e1.trans h1, e2.trans h2, e3.trans h3, e4.trans h4⟩
theorem News.left {g h : Heap} {L : Addr} {a b : Led} (x : News g L h (a ++ b)) : News g L h a := fun p hp => x p (List.mem_append_left _ hp)

section
variable {w : World} {mean : ExcName → Option Value} {mg mb : Str → Option Value} {base h₀ : Heap} {outer : List Env} {s : Shared} {dp un : Nat} {gd : Option (List Code)} {Q E : Value → Shared → Prop}
variable {cn : Str} {cs : Scope} {L a : Addr} {ccd : Value} {m : Str → Option Value} {A : Around} {rest : Led} {st : List LG} {x : Addr} {due : List PT} {sd : Value} {rem : Nat}

theorem inst_lazy (N : News h₀ L s.heap (objsOf w st)) (hl : HasL st x due sd rem) : ∃ dx od, InstAt s.heap x (instObj 151 dx) 151 (some od) := by
  obtain ⟨p, hp, rfl, _⟩ := hl
  refine ⟨p.1.dx, dictOf (p.1.dict w) 7, InstAt.of_news N ?_ ?_⟩
  · exact List.mem_flatMap.mpr ⟨p, hp, .head _⟩
  · exact List.mem_flatMap.mpr ⟨p, hp, .tail _ (.head _)⟩

theorem isi_lazy {Q : Value → Shared → Prop} (X : (hd.heap_39 w.params).In s.heap) (N : News h₀ L s.heap (objsOf w st)) (hl : HasL st x due sd rem) (h : Q (.bool true) s) :
    wpAny (model PG w) A (call (.builtin "isinstance") [.ref x, .ref 151]) Q E s := by
  obtain ⟨dx, od, I⟩ := inst_lazy N hl
  exact isi_call X (fun M => I.type) (by k_is) (by intro e; cases e) h

theorem lazy_get {value slice : Expr} {i : Nat} {ti : Tok} (S : Site w mean mg mb base outer h₀) (F : Fr h₀ L s.heap m) (Nr : News h₀ L s.heap rest) (No : News h₀ L s.heap (objsOf w st)) (hdis : ∀ p ∈ rest, ∀ q ∈ objsOf w st, p.1 ≠ q.1)
    (G : Good st) (hl : HasL st x due sd rem) (hi : i ≤ 100000) (hz : rem = 0 ∨ i < due.length) (hck : cs.kind = .function) (hA : A = top dp un gd (envOf cn cs L a ccd :: outer)) (hd : dp + 17 < recursionLimit) (hu : un + 8 * 17 < cLine)
    (ret : ∀ v h₀' st' h' tk t, KtsTurn (frs outer) h₀ h₀' → Site w mean mg mb base outer h₀' → Fr h₀' L h' m → News h₀' L h' (rest ++ objsOf w st') → (∀ p ∈ rest, ∀ q ∈ objsOf w st', p.1 ≠ q.1) → Good st' → Ext st st' → due[i]? = some t → ElOk st' sd v t →
      Q v { s with heap := h', toks := tk })
    (exc : ∀ e c Gr st' h' tk, RaisedSX base Gr (envOf cn cs L a ccd :: outer) e (.type "IndexError") c (rest ++ objsOf w st') h' → Fr h₀ L Gr m → Gr.UpToSlots h' → due.length ≤ i → Good st' → Ext st st' → E (.ref e) { s with heap := h', toks := tk })
    (hsl : subscripted slice true (.ref x) (.int i ti) = runValue (.builtin "lifetime.subscript" ⟨[.ref x, .int i ti], []⟩) := by with_unfolding_all rfl) :
    wpAny (model PG w) A (subscriptTail value slice (.ref x) (.int i ti)) Q E s := by
  obtain ⟨dx, od, I⟩ := inst_lazy No hl
  refine sub_K F S.inK I (f := 141) (by k_is) (by k_is) (by k_is) ?_ hsl
  obtain ⟨p, hp, rfl, rfl, rfl, rfl⟩ := hl
  subst hA
  refine callT (spG st G p hp i ti hi hz) (dp := dp) (un := un + 1) (gd := gd) S F Nr No hdis hck rfl (fun _ _ _ => trivial) (by omega) (by omega) ?_ ?_
  · rintro v h₀' own' h' tk T S' F' N' hd' ⟨st', rfl, G', ext, t, ht, hel⟩
    exact ret v h₀' st' h' tk t T S' F' N' hd' G' ext ht hel
  · rintro e cls c Gr own' h' tk hX FG hU ⟨hle, rfl, st', rfl, G', ext⟩
    exact exc e c Gr st' h' tk hX FG hU hle G' ext

theorem lazy_len (S : Site w mean mg mb base outer h₀) (F : Fr h₀ L s.heap m) (Nr : News h₀ L s.heap rest) (No : News h₀ L s.heap (objsOf w st)) (hdis : ∀ p ∈ rest, ∀ q ∈ objsOf w st, p.1 ≠ q.1)
    (G : Good st) (hl : HasL st x due sd 0) (hck : cs.kind = .function) (hA : A = top dp un gd (envOf cn cs L a ccd :: outer)) (hd : dp + 17 < recursionLimit) (hu : un + 8 * 17 < cLine)
    (ret : ∀ h₀' st' h' tk tl, KtsTurn (frs outer) h₀ h₀' → Site w mean mg mb base outer h₀' → Fr h₀' L h' m → News h₀' L h' (rest ++ objsOf w st') → (∀ p ∈ rest, ∀ q ∈ objsOf w st', p.1 ≠ q.1) → Good st' → Ext st st' →
      Q (.int (due.length : Nat) tl) { s with heap := h', toks := tk }) :
    wpAny (model PG w) A (call (.builtin "len") [.ref x]) Q E s := by
  obtain ⟨dx, od, I⟩ := inst_lazy No hl
  refine len_K F S.inK I (f := 148) (by k_is) (by k_is) ?_
  obtain ⟨p, hp, rfl, rfl, rfl, hz⟩ := hl
  subst hA
  have hdl := (G.loc p hp).hd
  refine callT (spL st G p hp hz) (dp := dp) (un := un + 1) (gd := gd) S F Nr No hdis hck rfl (fun _ _ _ => trivial) (by omega) (by omega) ?_ fun _ _ _ _ _ _ _ _ _ _ hx => hx.elim
  rintro v h₀' own' h' tk T S' F' N' hd' ⟨st', tl, rfl, G', ext, rfl⟩
  exact ⟨⟨by omega, by omega⟩, ret h₀' st' h' (tk + 1) tk T S' F' N' hd' G' ext⟩

/-- a place of a list of the ground -/
theorem item_gl {value slice : PySem.Expr} {l : Addr} {vs : List Value} {k : Int} {u : Tok} (F : Fr h₀ L s.heap m) (hl : h₀.IsList l vs.toArray)
    (h0 : 0 ≤ k) (h1 : k < vs.length) (h : ∀ v, vs[k.toNat]? = some v → Q v s)
    (hs : subscripted slice false (.ref l) (.int k u) = operate [.ref l, .int k u] (getItem (.ref l) (.int k u))) (hg : ∀ r, letTemporaryGo value (.ref l) r = pure ()) (hz : vs.length ≤ 100000) :
    wpAny (model PG w) A (subscriptTail value slice (.ref l) (.int k u)) Q E s := by
  have hk : k.toNat < vs.length := by omega
  refine PyProof.Rows.item_list (isList_stays (fun b o e => F.keep b o e) hl) h0 (by simp; omega) (x := vs[k.toNat]) (by simp [hk]) (h _ (by simp [hk])) hs hg
theorem len_gl {l : Addr} {vs : List Value} (F : Fr h₀ L s.heap m) (hl : h₀.IsList l vs.toArray) (hz : vs.length ≤ 100000) (h : ∀ t k, Q (.int (vs.length : Nat) t) { s with toks := k }) :
    wpAny (model PG w) A (call (.builtin "len") [.ref l]) Q E s := by
  refine PyProof.Rows.len_list (isList_stays (fun b o e => F.keep b o e) hl) (by simp; omega) ?_
  simpa using h _ _
end

noncomputable def Tells (w : World) (mean : ExcName → Option Value) (mg mb : Str → Option Value) (c : Nat) (t : Tr) : Prop := ∀ (st : List LG) (v tv : Value) (turn : Nat) (tt : Tok), Good st → ElOk st .none v (full t) → turn ≤ 1 →
  Spec w mean mg mb 251 c ⟨[v, tv, .int turn tt], []⟩ true (fun G => TreeAt G t tv) (objsOf w st) (fun r own' => r = .bool true ∧ ∃ st', own' = objsOf w st' ∧ Good st' ∧ Ext st st') (fun _ _ _ => False)
noncomputable def ReadsL (w : World) (mean : ExcName → Option Value) (mg mb : Str → Option Value) (c : Nat) (cs : List Tr) : Prop := ∀ (st : List LG) (x a : Addr) (vs : List Value) (i : Nat) (ti : Tok), Good st → HasL st x (fulls cs) .none 0 → i ≤ cs.length + 1 →
  Spec w mean mg mb 244 c ⟨[.ref x, .ref a, .int i ti], []⟩ true (fun G => G.IsList a vs.toArray ∧ TreesAt G cs vs) (objsOf w st) (fun r own' => r = .bool true ∧ ∃ st', own' = objsOf w st' ∧ Good st' ∧ Ext st st') (fun _ _ _ => False)


end T_M22
section T_M23
open PySem PySem.W PyProof.Rows PySem.Spec PySem.Calls
set_option maxRecDepth 100000
set_option maxHeartbeats 1000000




theorem sp244 {w : World} {mean : ExcName → Option Value} {mg mb : Str → Option Value} (c : Nat) (hc : 20 ≤ c) (cs : List Tr) (hcs : cs.length ≤ 1000) (IH : ∀ t ∈ cs, Tells w mean mg mb c t) : ReadsL w mean mg mb (c + 1) cs := by
  intro st x a vs i ti G hl hi dp un gd base outer g s R S hg hsz ho hpp hd1 hu1 hret hexc
  obtain ⟨hgl, hT⟩ := hpp
  have hlen := treesAt_len hT
  have hfl : (fulls cs).length = cs.length := by rw [fulls_map, List.length_map]
  have kdX := S.dicts
  have XB := S.inB
  have TB := S.topB
  first | refine enterP S hg hsz ho (by k_is) (by k_is) ?_ (BindsTo.of_eq rfl) rfl ?_ rfl rfl rfl (by decide) | refine enter S hg hsz ho (by k_is) (by k_is) ?_ (BindsTo.of_eq rfl) (locs rfl) ?_ rfl rfl rfl (by decide)
  · exact room_0 hd1
  intro L' h₁ tk₁ hst hL F N B XX T M₁ en₁ A₁
  (try dsimp only)
  k_fold
  repeat' (first | (k_unfold; (try dsimp only)) | (k_end; wrow_close) | ((with_reducible show wpAny _ _ (subscriptTail _ _ _ _) _ _ _); with_reducible (k_here; (with_reducible show wpAny _ _ (subscriptTail _ _ (Value.ref _) (Value.int _ _)) _ _ _); k_dflt (refine' item_gl ?zzF ?zzhl ?zzh0 ?zzh1 ?_ ?zzhs ?zzhg ?zzhz; (case zzF => k_asm); (case zzhl => assumption); (case zzh0 => omega); (case zzh1 => omega); (case zzhz => omega); (case zzhs => with_unfolding_all rfl); (case zzhg => (intro _; with_unfolding_all rfl)); k_whole); intro v' hv')) | ((with_reducible show wpAny _ _ (subscriptTail _ _ _ _) _ _ _); with_reducible (k_here; (with_reducible show wpAny _ _ (subscriptTail _ _ (Value.ref _) (Value.int _ _)) _ _ _); k_dflt (refine' lazy_get ?zzS ?zzF ?zzNr ?zzNo ?zzhdis ?zzG ?zzhl ?zzhi ?zzhz ?zzkK ?zzkA ?zzhd ?zzhu ?_ ?_ ?zzhsl; (case zzkA => exact rfl); (case zzS => assumption); (case zzF => k_asm); (case zzNo => k_asm); (case zzNr => exact News.nil); (case zzhdis => exact fun _ h => nomatch h); (case zzkK => exact rfl); (case zzG => assumption); (case zzhl => assumption); (case zzhi => omega); (case zzhz => exact .inl rfl); (case zzhsl => with_unfolding_all rfl); (case zzhd => first | (refine' room_d ?zzza ?zzzb; (case zzza => assumption); (case zzzb => first | decide | (refine Nat.succ_le_succ (Nat.le_trans ?_ (by assumption)); decide))) | (dsimp only [top]; omega)); (case zzhu => first | (refine' room_u ?zzza ?zzzb; (case zzza => assumption); (case zzzb => first | decide | (refine Nat.succ_le_succ (Nat.le_trans ?_ (by assumption)); decide))) | (dsimp only [top]; omega))); (intro v' h₀' st' h' tk' t' T' S' F' N' hd' G' ext' ht' he'; (have X' := Site.inK S'); (have P' := Site.top S'); (have D' := Site.dicts S'); (try have hgl' := isList_turn T' (Site.dicts (by assumption)) (by assumption)); (try have hgt' := TreesAt.on (fun _ _ => isList_turn T' (Site.dicts (by assumption))) (by assumption)); (try dsimp only [List.nil_append] at N'); (try simp only [List.nil_append] at N')); rotate_left; (intro e' c' Gr' st' h' tk' hX' FG' hU' hle' G' ext'; (try simp only [List.nil_append] at hX')); rotate_left)) | ((with_reducible show wpAny _ _ (eval (Expr.Constant (Const.int _) _ _) _) _ _ _); with_reducible refine const_i ?_) | ((with_reducible show wpAny _ _ (call (Value.builtin _) _) _ _ _); with_reducible (k_here; (with_reducible show wpAny _ _ (call (Value.builtin "len") [Value.ref _]) _ _ _); k_dflt (refine' len_gl ?zzF ?zzhl ?zzhz ?_; (case zzF => k_asm); (case zzhl => assumption); (case zzhz => omega); k_whole); intro t' k')) | ((with_reducible show wpAny _ _ (noteFrame _ _) _ _ _); with_reducible (k_here; (with_reducible show wpAny _ _ (noteFrame _ _) (fun _ s₂ => wpAny _ _ (setFlight _ none) (fun _ s₃ => wpAny _ _ (handleBy _ _ (ExceptHandler.ExceptHandler (some (Expr.Name ("IndexError" : Str) _)) none _ _ :: _)) _ _ s₃) _ s₂) _ _); k_dflt (refine' caughtX (T' := "IndexError") ?zzR ?zzF ?zzK ?zzU ?zzXB ?zzTB ?zzD ?zzex PyProof.Rows.Boot.«IndexError» ?zzhn exc_IndexError notTup_IndexError index_sub ?_ ?zzhE; (case zzR => assumption); (case zzF => assumption); (case zzK => assumption); (case zzU => assumption); (case zzXB => assumption); (case zzTB => assumption); (case zzD => assumption); (case zzex => k_is); (case zzhn => decide); (case zzhE => first | passes_own | with_unfolding_all passes_own); k_whole); intro h' g' oe' vs' T' F' N' K' X' P' D' hc1' hc2' hc3'; (have S' := Site.turn (by assumption) T'); (try have hgl' := isList_turn T' (Site.dicts (by assumption)) (by assumption)))) | ((with_reducible show wpAny _ _ (execs (_ :: _) _) _ _ _); with_reducible (refine wpAny_execs_cons ?_; (try k_fold))) | ((with_reducible show wpAny _ _ (storeName _ _ _) _ _ _); with_reducible (k_here; k_dflt (refine' storeP ?zzF ?zzN ?_ ?zza ?zzb; (case zzF => k_asm); (case zzN => k_asm); (case zza => rfl); (case zzb => rfl); k_whole; intro h' tk' F' N'; (try k_sweep)))) | walk1 | (dsimp only; first | ((with_reducible show wpAny _ _ (subscriptTail _ _ _ _) _ _ _); with_reducible (k_here; (with_reducible show wpAny _ _ (subscriptTail _ _ (Value.ref _) (Value.int _ _)) _ _ _); k_dflt (refine' item_gl ?zzF ?zzhl ?zzh0 ?zzh1 ?_ ?zzhs ?zzhg ?zzhz; (case zzF => k_asm); (case zzhl => assumption); (case zzh0 => omega); (case zzh1 => omega); (case zzhz => omega); (case zzhs => with_unfolding_all rfl); (case zzhg => (intro _; with_unfolding_all rfl)); k_whole); intro v' hv')) | ((with_reducible show wpAny _ _ (subscriptTail _ _ _ _) _ _ _); with_reducible (k_here; (with_reducible show wpAny _ _ (subscriptTail _ _ (Value.ref _) (Value.int _ _)) _ _ _); k_dflt (refine' lazy_get ?zzS ?zzF ?zzNr ?zzNo ?zzhdis ?zzG ?zzhl ?zzhi ?zzhz ?zzkK ?zzkA ?zzhd ?zzhu ?_ ?_ ?zzhsl; (case zzkA => exact rfl); (case zzS => assumption); (case zzF => k_asm); (case zzNo => k_asm); (case zzNr => exact News.nil); (case zzhdis => exact fun _ h => nomatch h); (case zzkK => exact rfl); (case zzG => assumption); (case zzhl => assumption); (case zzhi => omega); (case zzhz => exact .inl rfl); (case zzhsl => with_unfolding_all rfl); (case zzhd => first | (refine' room_d ?zzza ?zzzb; (case zzza => assumption); (case zzzb => first | decide | (refine Nat.succ_le_succ (Nat.le_trans ?_ (by assumption)); decide))) | (dsimp only [top]; omega)); (case zzhu => first | (refine' room_u ?zzza ?zzzb; (case zzza => assumption); (case zzzb => first | decide | (refine Nat.succ_le_succ (Nat.le_trans ?_ (by assumption)); decide))) | (dsimp only [top]; omega))); (intro v' h₀' st' h' tk' t' T' S' F' N' hd' G' ext' ht' he'; (have X' := Site.inK S'); (have P' := Site.top S'); (have D' := Site.dicts S'); (try have hgl' := isList_turn T' (Site.dicts (by assumption)) (by assumption)); (try have hgt' := TreesAt.on (fun _ _ => isList_turn T' (Site.dicts (by assumption))) (by assumption)); (try dsimp only [List.nil_append] at N'); (try simp only [List.nil_append] at N')); rotate_left; (intro e' c' Gr' st' h' tk' hX' FG' hU' hle' G' ext'; (try simp only [List.nil_append] at hX')); rotate_left)) | ((with_reducible show wpAny _ _ (eval (Expr.Constant (Const.int _) _ _) _) _ _ _); with_reducible refine const_i ?_) | ((with_reducible show wpAny _ _ (call (Value.builtin _) _) _ _ _); with_reducible (k_here; (with_reducible show wpAny _ _ (call (Value.builtin "len") [Value.ref _]) _ _ _); k_dflt (refine' len_gl ?zzF ?zzhl ?zzhz ?_; (case zzF => k_asm); (case zzhl => assumption); (case zzhz => omega); k_whole); intro t' k')) | ((with_reducible show wpAny _ _ (noteFrame _ _) _ _ _); with_reducible (k_here; (with_reducible show wpAny _ _ (noteFrame _ _) (fun _ s₂ => wpAny _ _ (setFlight _ none) (fun _ s₃ => wpAny _ _ (handleBy _ _ (ExceptHandler.ExceptHandler (some (Expr.Name ("IndexError" : Str) _)) none _ _ :: _)) _ _ s₃) _ s₂) _ _); k_dflt (refine' caughtX (T' := "IndexError") ?zzR ?zzF ?zzK ?zzU ?zzXB ?zzTB ?zzD ?zzex PyProof.Rows.Boot.«IndexError» ?zzhn exc_IndexError notTup_IndexError index_sub ?_ ?zzhE; (case zzR => assumption); (case zzF => assumption); (case zzK => assumption); (case zzU => assumption); (case zzXB => assumption); (case zzTB => assumption); (case zzD => assumption); (case zzex => k_is); (case zzhn => decide); (case zzhE => first | passes_own | with_unfolding_all passes_own); k_whole); intro h' g' oe' vs' T' F' N' K' X' P' D' hc1' hc2' hc3'; (have S' := Site.turn (by assumption) T'); (try have hgl' := isList_turn T' (Site.dicts (by assumption)) (by assumption)))) | ((with_reducible show wpAny _ _ (execs (_ :: _) _) _ _ _); with_reducible (refine wpAny_execs_cons ?_; (try k_fold))) | ((with_reducible show wpAny _ _ (storeName _ _ _) _ _ _); with_reducible (k_here; k_dflt (refine' storeP ?zzF ?zzN ?_ ?zza ?zzb; (case zzF => k_asm); (case zzN => k_asm); (case zza => rfl); (case zzb => rfl); k_whole; intro h' tk' F' N'; (try k_sweep)))) | walk1) | (leave1; (try dsimp only)) | fail "no step")
  all_goals (try k_data)
  all_goals (try (exfalso; omega))
  · rename _ = some _ => hv9
    rename ElOk _ _ _ _ => he9
    rename (fulls cs)[_]? = some _ => ht9
    rename TreesAt _ _ _ => hT9
    rename Site _ _ _ _ _ _ _ => S9
    rename Fr _ _ _ _ => F9
    rename News _ _ _ _ => N9
    rename Good _ => G9
    rename Ext _ _ => ext9
    rename KtsTurn _ _ _ => T9
    obtain ⟨t, htc, htv⟩ := treesAt_get hT9 i _ hv9
    rw [fulls_map, List.getElem?_map, htc] at ht9
    cases ht9
    have hm := List.mem_of_getElem? htc
    rw [show ((i : Int)).fmod 2 = ((i % 2 : Nat) : Int) from by rw [Int.fmod_eq_emod_of_nonneg _ (by decide)]; rfl]
    refine callT (IH t hm _ _ _ _ _ G9 he9 (by omega)) S9 F9 News.nil N9 (fun _ h => nomatch h) rfl rfl (fun _ hG _ => TreeAt.stays hG htv) (by dsimp only [top]; omega) (by dsimp only [top]; omega) ?_ fun _ _ _ _ _ _ _ _ _ _ hx => hx.elim
    rintro r' h₀'' own' h'' tk'' T'' S'' F'' N'' hd'' ⟨rfl, st'', rfl, G'', ext''⟩
    show R (.ok (.ret _)) _
    rw [List.nil_append] at N''
    exact hret _ _ _ _ _ (by simpa using T9.trans T'') F''.keep (News.owns N'') ⟨rfl, _, rfl, G'', ext9.trans ext''⟩
  · exfalso
    rename (fulls cs)[_]? = some _ => ht9
    have := (List.getElem?_eq_some_iff.mp ht9).1
    omega
  · show R (.ok (.ret _)) _
    rename Fr _ _ _ _ => F9
    rename News _ _ _ _ => N9
    rename Good _ => G9
    rename Ext _ _ => ext9
    rename KtsTurn _ _ _ => T9
    exact hret _ _ _ _ _ (by simpa using T9) F9.keep (News.owns (News.tail1 N9)) ⟨by rw [decide_eq_true (by omega)], _, rfl, G9, ext9⟩


end T_M23
section T_M24
open PySem PySem.W PyProof.Rows PySem.Spec PySem.Calls
set_option maxRecDepth 100000
set_option maxHeartbeats 1000000




theorem sp251leaf {w : World} {mean : ExcName → Option Value} {mg mb : Str → Option Value} (b : List UInt8) (hb : b.length ≤ 60000) : Tells w mean mg mb 4 (.leaf b) := by
  intro st v tv turn tt G hel ht dp un gd base outer g s R S hg hsz ho hpp hd1 hu1 hret hexc
  rw [TreeAt] at hpp
  obtain ⟨tk, rfl⟩ := hpp
  have hv : ∃ tk, v = .bytes b.toArray tk := by
    rcases hel with ⟨_, ⟨b', tk', e, rfl⟩ | ⟨p, hp, e, _⟩⟩ | ⟨e, _⟩
    · rw [full] at e; cases e; exact ⟨tk', rfl⟩
    · rw [full] at e; cases e
    · cases e
  obtain ⟨tk2, rfl⟩ := hv
  first | refine enterP S hg hsz ho (by k_is) (by k_is) ?_ (BindsTo.of_eq rfl) rfl ?_ rfl rfl rfl (by decide) | refine enter S hg hsz ho (by k_is) (by k_is) ?_ (BindsTo.of_eq rfl) (locs rfl) ?_ rfl rfl rfl (by decide)
  · exact room_0 hd1
  intro L' h₁ tk₁ hst hL F N B XX T M₁ en₁ A₁
  (try dsimp only)
  k_fold
  repeat' (first | (k_unfold; (try dsimp only)) | (k_end; wrow_close) | ((with_reducible show wpAny _ _ (compareOp CmpOp.Eq (Value.bytes _ _) (Value.bytes _ _)) _ _ _); with_reducible (k_here; (with_reducible show wpAny _ _ (compareOp CmpOp.Eq (Value.bytes (List.toArray _) _) (Value.bytes (List.toArray _) _)) _ _ _); (refine eq_list ?_))) | ((with_reducible show wpAny _ _ (execs (_ :: _) _) _ _ _); with_reducible (refine wpAny_execs_cons ?_; (try k_fold))) | walk1 | (dsimp only; first | ((with_reducible show wpAny _ _ (compareOp CmpOp.Eq (Value.bytes _ _) (Value.bytes _ _)) _ _ _); with_reducible (k_here; (with_reducible show wpAny _ _ (compareOp CmpOp.Eq (Value.bytes (List.toArray _) _) (Value.bytes (List.toArray _) _)) _ _ _); (refine eq_list ?_))) | ((with_reducible show wpAny _ _ (execs (_ :: _) _) _ _ _); with_reducible (refine wpAny_execs_cons ?_; (try k_fold))) | walk1) | (leave1; (try dsimp only)) | fail "no step")
  all_goals (try k_data)
  all_goals (try (exfalso; omega))
  show R (.ok (.ret _)) _
  rename Fr _ _ _ _ => F9
  rename News _ _ _ _ => N9
  exact hret _ g _ _ _ (by simpa using KtsTurn.refl) F9.keep (News.owns N9) ⟨by rw [beq_self_eq_true], _, rfl, G, Ext.refl _⟩

section
variable {w : World} {mean : ExcName → Option Value} {mg mb : Str → Option Value} {base h₀ : Heap} {outer : List Env} {s : Shared} {dp un : Nat} {gd : Option (List Code)}
variable {cn : Str} {csc : Scope} {L a : Addr} {ccd : Value} {m : Str → Option Value} {A : Around} {rest : Led} {st : List LG} {x : Addr} {cs : List Tr} {vs : List Value}

theorem read_call {Q E : Value → Shared → Prop} {c : Nat} {k : Int} {t : Tok} {b : Addr} (C : ReadsL w mean mg mb c cs) (S : Site w mean mg mb base outer h₀) (F : Fr h₀ L s.heap m) (Nr : News h₀ L s.heap rest) (No : News h₀ L s.heap (objsOf w st)) (hdis : ∀ p ∈ rest, ∀ q ∈ objsOf w st, p.1 ≠ q.1)
    (G : Good st) (hl : HasL st x (fulls cs) .none 0) (hgl : h₀.IsList b vs.toArray) (hT : TreesAt h₀ cs vs) (h0 : 0 ≤ k) (h1 : k ≤ cs.length + 1) (hck : csc.kind = .function) (hA : A = top dp un gd (envOf cn csc L a ccd :: outer)) (hd : dp + c < recursionLimit) (hu : un + 8 * c < cLine)
    (ret : ∀ h₀' st' h' tk, KtsTurn (frs outer) h₀ h₀' → Site w mean mg mb base outer h₀' → Fr h₀' L h' m → News h₀' L h' (rest ++ objsOf w st') → (∀ p ∈ rest, ∀ q ∈ objsOf w st', p.1 ≠ q.1) → Good st' → Ext st st' → Q (.bool true) { s with heap := h', toks := tk }) :
    wpAny (model PG w) A (call (.ref 244) [.ref x, .ref b, .int k t]) Q E s := by
  have e : k = ((k.toNat : Nat) : Int) := by omega
  rw [e]
  refine callT (C st x b vs k.toNat t G hl (by omega)) S F Nr No hdis hck hA (fun _ hG _ => ⟨isList_stays hG hgl, hT.on fun _ _ => isList_stays hG⟩) hd hu ?_ fun _ _ _ _ _ _ _ _ _ _ hx => hx.elim
  rintro r h₀' own' h' tk T S' F' N' hd' ⟨rfl, st', rfl, G', ext⟩
  exact ret h₀' st' h' tk T S' F' N' hd' G' ext

theorem tells_iter {env : Env} {Q : Flow → Shared → Prop} {E : Value → Shared → Prop} {body : List Stmt} {g₀ : Heap} {r : Addr} {n : Nat} {b : Int} {t u v : Tok} {a : Addr} (S : Site w mean mg mb base outer g₀) (hh : A.handled = none) (hr : IsRange s.heap r 0 b 1 t u v) (hb : b = ((n : Nat) : Int)) (hn : n ≤ 2000)
    (F : Fr g₀ env.locals s.heap m) (N : News g₀ env.locals s.heap (objsOf w st)) (G : Good st) (hl : HasL st x (fulls cs) .none 0) (hgl : g₀.IsList a vs.toArray) (hT : TreesAt g₀ cs vs)
    (turn : ∀ (i : Nat) t o st₁ h₁ tk₁ own g₁, i < n → KtsTurn (frs outer) g₀ g₁ → Site w mean mg mb base outer g₁ → Good st₁ → Ext st st₁ → HasL st₁ x (fulls cs) .none 0 → g₁.IsList a vs.toArray → TreesAt g₁ cs vs → (∀ q ∈ own, ∀ p ∈ objsOf w st₁, q.1 ≠ p.1) →
      Fr g₁ env.locals h₁ (fun y => if y = Str.ofString "k" then some (.int (i : Int) t) else if y = Str.ofString "k" then o else m y) → News g₁ env.locals h₁ (own ++ objsOf w st₁) →
      wpAny (model PG w) A (execs body env) (OwnStep (frs outer) env.locals g₁ own (fun g m' nw => (∀ y, y ∉ [Str.ofString "k"] → m' y = m y) ∧ ∃ st₂, nw = objsOf w st₂ ∧ Good st₂ ∧ Ext st st₂) { s with heap := h₁, toks := tk₁ } (fun v s' => Q (.ret v) s')) E { s with heap := h₁, toks := tk₁ })
    (done : ∀ h' tk o st' g', KtsTurn (frs outer) g₀ g' → Site w mean mg mb base outer g' → Good st' → Ext st st' → HasL st' x (fulls cs) .none 0 → g'.IsList a vs.toArray → Fr g' env.locals h' (fun y => if y = Str.ofString "k" then o else m y) → News g' env.locals h' (objsOf w st') → Q .next { s with heap := h', toks := tk }) :
    wpAny (model PG w) A (pyIter (.ref r)) (fun it s₂ => LoopO w A (frs outer) env (Str.ofString "k") body Q E it s₂) E s := by
  subst hb
  refine Iter_range_K [Str.ofString "k"] (fun _ _ _ nw => ∃ st₂, nw = objsOf w st₂ ∧ Good st₂ ∧ Ext st st₂) S hh (by unfold Builtin.Range.small Builtin.Range.rangeFitsLong Builtin.Range.rangeSize; simp; omega) F hr N ⟨st, rfl, G, Ext.refl st⟩ ?_ ?_
  · rintro i t o news₁ h₁ tk₁ own g₁ hi T₁ S₁ ⟨st₁, rfl, G₁, e₁⟩ hd F₁ N₁
    exact turn i t (o (Str.ofString "k")) st₁ h₁ tk₁ own g₁ hi T₁ S₁ G₁ e₁ (hl.mono e₁) (isList_turn T₁ S.dicts hgl) (hT.on fun _ _ => isList_turn T₁ S.dicts) hd F₁ N₁
  · rintro h' tk o news' g' T' S' ⟨st', rfl, G', e'⟩ F' N'
    exact done h' tk (o (Str.ofString "k")) st' g' T' S' G' e' (hl.mono e') (isList_turn T' S.dicts hgl) F' N'
end
theorem sp251node {w : World} {mean : ExcName → Option Value} {mg mb : Str → Option Value} (c : Nat) (hc : 20 ≤ c) (cs : List Tr) (hcs : cs.length ≤ 1000) (IH : ReadsL w mean mg mb c cs) : Tells w mean mg mb (c + 1) (.node cs) := by
  intro st v tv turn tt G hel ht dp un gd base outer g s R S hg hsz ho hpp hd1 hu1 hret hexc
  rw [TreeAt] at hpp
  obtain ⟨a, vs, rfl, hgl, hT⟩ := hpp
  have hlen := treesAt_len hT
  have hfl : (fulls cs).length = cs.length := by rw [fulls_map, List.length_map]
  have hv : ∃ x, v = .ref x ∧ HasL st x (fulls cs) .none 0 := by
    rcases hel with ⟨_, ⟨b', tk', e, rfl⟩ | ⟨p, hp, e, rfl, hs⟩⟩ | ⟨e, _⟩
    · rw [full] at e; cases e
    · rw [full] at e; injection e with e1 e2
      exact ⟨p.1.x, rfl, p, hp, rfl, e1.symm, hs, e2.symm⟩
    · cases e
  obtain ⟨x, rfl, hl⟩ := hv
  first | refine enterP S hg hsz ho (by k_is) (by k_is) ?_ (BindsTo.of_eq rfl) rfl ?_ rfl rfl rfl (by decide) | refine enter S hg hsz ho (by k_is) (by k_is) ?_ (BindsTo.of_eq rfl) (locs rfl) ?_ rfl rfl rfl (by decide)
  · exact room_0 hd1
  intro L' h₁ tk₁ hst hL F N B XX T M₁ en₁ A₁
  (try dsimp only)
  k_fold
  repeat' (first | (k_unfold; (try dsimp only)) | (k_end; wrow_close) | ((with_reducible show wpAny _ _ (exec (Stmt.For (Expr.Name _ _) (Expr.Call _ _ _ _) _ _ _) _) _ _ _); with_reducible (k_here; k_dflt (refine' For_S ?zzS ?zzhx ?zzhp ?_ ?zzhs ?zzhE; (case zzS => assumption); (case zzhx => exact rfl); (case zzhp => exact rfl); (case zzhs => (intro _; with_unfolding_all rfl)); (case zzhE => first | passes_own | with_unfolding_all passes_own)))) | ((with_reducible show wpAny _ _ (call (Value.builtin _) _) _ _ _); with_reducible (k_here; (with_reducible show wpAny _ _ (call _ [Value.ref _, Value.ref _]) _ _ _); k_dflt (refine' isi_lazy ?zzX ?zzN ?zzhl ?_; (case zzX => k_in); (case zzN => k_asm); (case zzhl => assumption); k_whole))) | ((with_reducible show wpAny _ _ (call (Value.builtin _) _) _ _ _); with_reducible (k_here; (with_reducible show wpAny _ _ (call _ [Value.ref _, Value.type _]) _ _ _); k_dflt (refine' kia_one kitx_list ?zzX ?zzc ?zzee ?zznb ?_; (case zzX => k_in); (case zzc => exact kitAt_gl (by k_asm) (by assumption)); (case zzee => kit_is); (case zznb => kit_nb); k_whole; intro _))) | ((with_reducible show wpAny _ _ (binaryOp Operator.Add (Value.int _ _) (Value.int _ _)) _ _ _); with_reducible refine add_i ?_) | ((with_reducible show wpAny _ _ (binaryOp Operator.Sub (Value.int _ _) (Value.int _ _)) _ _ _); with_reducible refine sub_i ?_) | ((with_reducible show wpAny _ _ (eval (Expr.Constant (Const.int _) _ _) _) _ _ _); with_reducible refine const_i ?_) | ((with_reducible show wpAny _ _ (call (Value.builtin _) _) _ _ _); with_reducible (k_here; (with_reducible show wpAny _ _ (call (Value.builtin "len") [Value.ref _]) _ _ _); k_dflt (refine' lazy_len ?zzS ?zzF ?zzNr ?zzNo ?zzhdis ?zzG ?zzhl ?zzkK ?zzkA ?zzhd ?zzhu ?_; (case zzkA => exact rfl); (case zzS => assumption); (case zzF => k_asm); (case zzNo => k_asm); (case zzNr => exact News.nil); (case zzhdis => exact fun _ h => nomatch h); (case zzkK => exact rfl); (case zzG => assumption); (case zzhl => assumption); (case zzhd => first | (refine' room_d ?zzza ?zzzb; (case zzza => assumption); (case zzzb => first | decide | (refine Nat.succ_le_succ (Nat.le_trans ?_ (by assumption)); decide))) | (dsimp only [top]; omega)); (case zzhu => first | (refine' room_u ?zzza ?zzzb; (case zzza => assumption); (case zzzb => first | decide | (refine Nat.succ_le_succ (Nat.le_trans ?_ (by assumption)); decide))) | (dsimp only [top]; omega))); (intro h₀' st' h' tk' tl' T' S' F' N' hd' G' ext'; (try simp only [List.nil_append] at N'); (have X' := Site.inK S'); (have P' := Site.top S'); (have D' := Site.dicts S'); (try have hgl' := isList_turn T' (Site.dicts (by assumption)) (by assumption)); (try have hgt' := TreesAt.on (fun _ _ => isList_turn T' (Site.dicts (by assumption))) (by assumption)); (have hl' := HasL.mono (by assumption) ext')))) | ((with_reducible show wpAny _ _ (call (Value.builtin _) _) _ _ _); with_reducible (k_here; (with_reducible show wpAny _ _ (call (Value.builtin "len") [Value.ref _]) _ _ _); k_dflt (refine' len_gl ?zzF ?zzhl ?zzhz ?_; (case zzF => k_asm); (case zzhl => assumption); (case zzhz => omega); k_whole); intro t' k')) | ((with_reducible show wpAny _ _ (execs (_ :: _) _) _ _ _); with_reducible (refine wpAny_execs_cons ?_; (try k_fold))) | ((with_reducible show wpAny _ _ (pyIter (Value.ref _)) _ _ _); with_reducible (k_here; k_dflt (refine' tells_iter ?zzS ?zzhh ?zzhr ?zzhb ?zzhn ?zzF ?zzN ?zzG ?zzhl ?zzhgl ?zzhT ?_ ?_; (case zzS => assumption); (case zzhh => exact rfl); (case zzhr => assumption); (case zzF => k_asm); (case zzN => k_asm); (case zzG => assumption); (case zzhl => assumption); (case zzhgl => assumption); (case zzhT => assumption); (case zzhb => (rw [← Int.natCast_add_one])); (case zzhn => omega)); (intro i' t' o' st' h' tk' own' g' hi' T' S' G' ext' hl' hgl' hT' hd' F' N'; (have X' := Site.inK S'); (have P' := Site.top S'); (have D' := Site.dicts S')); rotate_left; (intro h' tk' o' st' g' T' S' G' ext' hl' hgl' F' N'; (have X' := Site.inK S'); (have P' := Site.top S'); (have D' := Site.dicts S')); rotate_left)) | ((with_reducible show wpAny _ _ (call (Value.ref _) _) _ _ _); with_reducible (k_here; (with_reducible show wpAny _ _ (call (Value.ref 244) _) _ _ _); k_dflt (refine' read_call ?zzC ?zzS ?zzF ?zzNr ?zzNo ?zzhdis ?zzG ?zzhl ?zzhgl ?zzhT ?zzh0 ?zzh1 ?zzkK ?zzkA ?zzhd ?zzhu ?_; (case zzkA => exact rfl); (case zzC => assumption); (case zzS => assumption); (case zzF => k_asm); (case zzNo => exact News.right (by k_asm)); (case zzNr => exact News.left (by k_asm)); (case zzhdis => assumption); (case zzkK => exact rfl); (case zzG => assumption); (case zzhl => assumption); (case zzhgl => assumption); (case zzhT => assumption); (case zzh0 => omega); (case zzh1 => omega); (case zzhd => first | (refine' room_d ?zzza ?zzzb; (case zzza => assumption); (case zzzb => first | decide | (refine Nat.succ_le_succ (Nat.le_trans ?_ (by assumption)); decide))) | (dsimp only [top]; omega)); (case zzhu => first | (refine' room_u ?zzza ?zzzb; (case zzza => assumption); (case zzzb => first | decide | (refine Nat.succ_le_succ (Nat.le_trans ?_ (by assumption)); decide))) | (dsimp only [top]; omega))); (intro h₀' st' h' tk' T' S' F' N' hd' G' ext'; (have X' := Site.inK S'); (have P' := Site.top S'); (have D' := Site.dicts S')))) | walk1 | (dsimp only; first | ((with_reducible show wpAny _ _ (exec (Stmt.For (Expr.Name _ _) (Expr.Call _ _ _ _) _ _ _) _) _ _ _); with_reducible (k_here; k_dflt (refine' For_S ?zzS ?zzhx ?zzhp ?_ ?zzhs ?zzhE; (case zzS => assumption); (case zzhx => exact rfl); (case zzhp => exact rfl); (case zzhs => (intro _; with_unfolding_all rfl)); (case zzhE => first | passes_own | with_unfolding_all passes_own)))) | ((with_reducible show wpAny _ _ (call (Value.builtin _) _) _ _ _); with_reducible (k_here; (with_reducible show wpAny _ _ (call _ [Value.ref _, Value.ref _]) _ _ _); k_dflt (refine' isi_lazy ?zzX ?zzN ?zzhl ?_; (case zzX => k_in); (case zzN => k_asm); (case zzhl => assumption); k_whole))) | ((with_reducible show wpAny _ _ (call (Value.builtin _) _) _ _ _); with_reducible (k_here; (with_reducible show wpAny _ _ (call _ [Value.ref _, Value.type _]) _ _ _); k_dflt (refine' kia_one kitx_list ?zzX ?zzc ?zzee ?zznb ?_; (case zzX => k_in); (case zzc => exact kitAt_gl (by k_asm) (by assumption)); (case zzee => kit_is); (case zznb => kit_nb); k_whole; intro _))) | ((with_reducible show wpAny _ _ (binaryOp Operator.Add (Value.int _ _) (Value.int _ _)) _ _ _); with_reducible refine add_i ?_) | ((with_reducible show wpAny _ _ (binaryOp Operator.Sub (Value.int _ _) (Value.int _ _)) _ _ _); with_reducible refine sub_i ?_) | ((with_reducible show wpAny _ _ (eval (Expr.Constant (Const.int _) _ _) _) _ _ _); with_reducible refine const_i ?_) | ((with_reducible show wpAny _ _ (call (Value.builtin _) _) _ _ _); with_reducible (k_here; (with_reducible show wpAny _ _ (call (Value.builtin "len") [Value.ref _]) _ _ _); k_dflt (refine' lazy_len ?zzS ?zzF ?zzNr ?zzNo ?zzhdis ?zzG ?zzhl ?zzkK ?zzkA ?zzhd ?zzhu ?_; (case zzkA => exact rfl); (case zzS => assumption); (case zzF => k_asm); (case zzNo => k_asm); (case zzNr => exact News.nil); (case zzhdis => exact fun _ h => nomatch h); (case zzkK => exact rfl); (case zzG => assumption); (case zzhl => assumption); (case zzhd => first | (refine' room_d ?zzza ?zzzb; (case zzza => assumption); (case zzzb => first | decide | (refine Nat.succ_le_succ (Nat.le_trans ?_ (by assumption)); decide))) | (dsimp only [top]; omega)); (case zzhu => first | (refine' room_u ?zzza ?zzzb; (case zzza => assumption); (case zzzb => first | decide | (refine Nat.succ_le_succ (Nat.le_trans ?_ (by assumption)); decide))) | (dsimp only [top]; omega))); (intro h₀' st' h' tk' tl' T' S' F' N' hd' G' ext'; (try simp only [List.nil_append] at N'); (have X' := Site.inK S'); (have P' := Site.top S'); (have D' := Site.dicts S'); (try have hgl' := isList_turn T' (Site.dicts (by assumption)) (by assumption)); (try have hgt' := TreesAt.on (fun _ _ => isList_turn T' (Site.dicts (by assumption))) (by assumption)); (have hl' := HasL.mono (by assumption) ext')))) | ((with_reducible show wpAny _ _ (call (Value.builtin _) _) _ _ _); with_reducible (k_here; (with_reducible show wpAny _ _ (call (Value.builtin "len") [Value.ref _]) _ _ _); k_dflt (refine' len_gl ?zzF ?zzhl ?zzhz ?_; (case zzF => k_asm); (case zzhl => assumption); (case zzhz => omega); k_whole); intro t' k')) | ((with_reducible show wpAny _ _ (execs (_ :: _) _) _ _ _); with_reducible (refine wpAny_execs_cons ?_; (try k_fold))) | ((with_reducible show wpAny _ _ (pyIter (Value.ref _)) _ _ _); with_reducible (k_here; k_dflt (refine' tells_iter ?zzS ?zzhh ?zzhr ?zzhb ?zzhn ?zzF ?zzN ?zzG ?zzhl ?zzhgl ?zzhT ?_ ?_; (case zzS => assumption); (case zzhh => exact rfl); (case zzhr => assumption); (case zzF => k_asm); (case zzN => k_asm); (case zzG => assumption); (case zzhl => assumption); (case zzhgl => assumption); (case zzhT => assumption); (case zzhb => (rw [← Int.natCast_add_one])); (case zzhn => omega)); (intro i' t' o' st' h' tk' own' g' hi' T' S' G' ext' hl' hgl' hT' hd' F' N'; (have X' := Site.inK S'); (have P' := Site.top S'); (have D' := Site.dicts S')); rotate_left; (intro h' tk' o' st' g' T' S' G' ext' hl' hgl' F' N'; (have X' := Site.inK S'); (have P' := Site.top S'); (have D' := Site.dicts S')); rotate_left)) | ((with_reducible show wpAny _ _ (call (Value.ref _) _) _ _ _); with_reducible (k_here; (with_reducible show wpAny _ _ (call (Value.ref 244) _) _ _ _); k_dflt (refine' read_call ?zzC ?zzS ?zzF ?zzNr ?zzNo ?zzhdis ?zzG ?zzhl ?zzhgl ?zzhT ?zzh0 ?zzh1 ?zzkK ?zzkA ?zzhd ?zzhu ?_; (case zzkA => exact rfl); (case zzC => assumption); (case zzS => assumption); (case zzF => k_asm); (case zzNo => exact News.right (by k_asm)); (case zzNr => exact News.left (by k_asm)); (case zzhdis => assumption); (case zzkK => exact rfl); (case zzG => assumption); (case zzhl => assumption); (case zzhgl => assumption); (case zzhT => assumption); (case zzh0 => omega); (case zzh1 => omega); (case zzhd => first | (refine' room_d ?zzza ?zzzb; (case zzza => assumption); (case zzzb => first | decide | (refine Nat.succ_le_succ (Nat.le_trans ?_ (by assumption)); decide))) | (dsimp only [top]; omega)); (case zzhu => first | (refine' room_u ?zzza ?zzzb; (case zzza => assumption); (case zzzb => first | decide | (refine Nat.succ_le_succ (Nat.le_trans ?_ (by assumption)); decide))) | (dsimp only [top]; omega))); (intro h₀' st' h' tk' T' S' F' N' hd' G' ext'; (have X' := Site.inK S'); (have P' := Site.top S'); (have D' := Site.dicts S')))) | walk1) | (leave1; (try dsimp only)) | fail "no step")
  all_goals (try k_data)
  all_goals (try (exfalso; omega))
  all_goals (
    rename Fr _ _ _ _ => F9
    rename News _ _ _ _ => N9
    rename Good _ => G9
    first
      | (rename KtsTurn _ _ _ => T9
         rename Ext _ _ => ext9
         rename ∀ p ∈ _, ∀ q ∈ _, _ => hd9
         refine ⟨_, _, _, _, _, rfl, T9, F9, N9, hd9, fun y hy => ?_, _, rfl, G9, ?_⟩
         · simp only [List.mem_cons, List.not_mem_nil, or_false] at hy
           simp only [hy, if_false, put]
         · repeat (first | assumption | refine Ext.trans ?_ (by assumption)))
      | (show R (.ok (.ret _)) _
         refine hret _ _ _ _ _ ?_ F9.keep (News.owns N9) ⟨by rw [show (((fulls cs).length : Int) == (vs.length : Int)) = true from by rw [hfl, hlen]; exact beq_self_eq_true _], _, rfl, G9, ?_⟩
         · simp only [if_true]
           repeat (first | assumption | refine KtsTurn.trans ?_ (by assumption))
         · repeat (first | assumption | refine Ext.trans ?_ (by assumption))))


end T_M24
section T_M25
open PySem PySem.W PyProof.Rows PySem.Spec PySem.Calls
set_option maxRecDepth 100000
set_option maxHeartbeats 1000000




theorem Tells.mono {w : World} {mean : ExcName → Option Value} {mg mb : Str → Option Value} {c c' : Nat} {t : Tr} (h : Tells w mean mg mb c t) (hc : c ≤ c') : Tells w mean mg mb c' t := fun st v tv turn tt G hel ht =>
  (h st v tv turn tt G hel ht).mono hc (fun _ h => h) (fun _ _ h => h) fun _ _ _ h => h
theorem tells_all {w : World} {mean : ExcName → Option Value} {mg mb : Str → Option Value} : ∀ (N : Nat) (t : Tr), t.wt ≤ N → t.wt ≤ 4300 → Tells w mean mg mb (30 + t.wt / 100) t
  | N, .leaf b, h, hw => by
    rw [Tr.wt] at hw
    exact (sp251leaf b (by omega)).mono (by omega)
  | 0, .node cs, h, hw => by rw [Tr.wt] at h; omega
  | N + 1, .node cs, h, hw => by
    rw [Tr.wt] at h hw
    have hl := wts_len cs
    have R := sp244 (w := w) (mean := mean) (mg := mg) (mb := mb) (30 + wts cs / 100) (by omega) cs (by omega) (fun t ht => (tells_all N t (by have := wts_mem ht; omega) (by have := wts_mem ht; omega)).mono (by have := wts_mem ht; have := Nat.div_le_div_right (c := 100) this; omega))
    exact (sp251node _ (by omega) cs (by omega) R).mono (by rw [Tr.wt, ← d300]; exact Nat.add_le_add_left (Nat.le_add_right (wts cs / 100 + 2) 1) 30)
theorem reads_all {w : World} {mean : ExcName → Option Value} {mg mb : Str → Option Value} (cs : List Tr) (hw : wts cs ≤ 4000) : ReadsL w mean mg mb (31 + wts cs / 100) cs := by
  have hl := wts_len cs
  have R := sp244 (w := w) (mean := mean) (mg := mg) (mb := mb) (30 + wts cs / 100) (by omega) cs (by omega) (fun t ht => (tells_all _ t (Nat.le_refl _) (by have := wts_mem ht; omega)).mono (by have := wts_mem ht; have := Nat.div_le_div_right (c := 100) this; omega))
  exact fun st x a vs i ti G hl hi => (R st x a vs i ti G hl hi).mono (by omega) (fun _ h => h) (fun _ _ h => h) fun _ _ _ h => h

noncomputable def WayZ (ws : List Value) (zs : List Int) : Prop := IntsAre ws zs ∧ zs.length ≤ 3 ∧ ∀ z ∈ zs, 0 ≤ z ∧ z ≤ 100
theorem sp209 {w : World} {mean : ExcName → Option Value} {mg mb : Str → Option Value} :
  Spec w mean mg mb 209 2 ⟨[], []⟩ false (fun _ => True) [] (fun r own' => ∃ l ep t0 t1 t2 t3 t4 t5 t6 t7 t8 t9, r = .ref l ∧ own' = [(l, W.listOf #[.int 53 t0, .int 54 t1, .int 55 t2, .int 56 t3, .int 57 t4, .int 58 t5, .int 255 t6, .int 256 t7, .int 257 t8, .int 258 t9] ep)]) (fun _ _ _ => False) := by
  intro dp un gd base' outer g s R S hg hsz ho hpp hd1 hu1 hret hexc
  first | refine enterP S hg hsz ho (by k_is) (by k_is) (room_0 hd1) (BindsTo.of_eq rfl) rfl ?_ rfl rfl rfl (by decide) | refine enter S hg hsz ho (by k_is) (by k_is) (room_0 hd1) (BindsTo.of_eq rfl) (locs rfl) ?_ rfl rfl rfl (by decide)
  intro L' h₁ tk₁ hst hL F N B X T M₁ en₁ A₁
  (try dsimp only)
  k_fold
  repeat' (first | (k_unfold; (try dsimp only)) | (k_end; wrow_close) | ((with_reducible show wpAny _ _ (eval (Expr.Constant (Const.int _) _ _) _) _ _ _); with_reducible refine const_i ?_) | walk1 | (dsimp only; first | ((with_reducible show wpAny _ _ (eval (Expr.Constant (Const.int _) _ _) _) _ _ _); with_reducible refine const_i ?_) | walk1) | (leave1; (try dsimp only)) | fail "no step")
  all_goals (try k_data)
  show R (.ok (.ret _)) _
  rename Fr _ _ _ _ => F9
  rename News _ _ _ _ => N9
  exact hret _ g _ _ _ rfl F9.keep (News.owns N9) ⟨_, _, _, _, _, _, _, _, _, _, _, _, rfl, rfl⟩
theorem sp258 {w : World} {mean : ExcName → Option Value} {mg mb : Str → Option Value} (n : Int) (t : Tok) :
  Spec w mean mg mb 258 2 ⟨[.int n t], []⟩ false (fun _ => True) [] (fun r own' => ∃ l ep ws zs, r = .ref l ∧ own' = [(l, W.listOf ws.toArray ep)] ∧ WayZ ws zs) (fun _ _ _ => False) := by
  intro dp un gd base' outer g s R S hg hsz ho hpp hd1 hu1 hret hexc
  first | refine enterP S hg hsz ho (by k_is) (by k_is) (room_0 hd1) (BindsTo.of_eq rfl) rfl ?_ rfl rfl rfl (by decide) | refine enter S hg hsz ho (by k_is) (by k_is) (room_0 hd1) (BindsTo.of_eq rfl) (locs rfl) ?_ rfl rfl rfl (by decide)
  intro L' h₁ tk₁ hst hL F N B X T M₁ en₁ A₁
  (try dsimp only)
  k_fold
  repeat' (first | (k_unfold; (try dsimp only)) | (k_end; wrow_close) | ((with_reducible show wpAny _ _ (eval (Expr.Constant (Const.int _) _ _) _) _ _ _); with_reducible refine const_i ?_) | walk1 | (dsimp only; first | ((with_reducible show wpAny _ _ (eval (Expr.Constant (Const.int _) _ _) _) _ _ _); with_reducible refine const_i ?_) | walk1) | (leave1; (try dsimp only)) | fail "no step")
  all_goals (try k_data)
  show R (.ok (.ret _)) _
  rename Fr _ _ _ _ => F9
  rename News _ _ _ _ => N9
  rename IntsAre _ _ => I9
  refine hret _ g [_] _ _ rfl F9.keep (News.owns (fun q hq => N9 q (by rw [List.mem_singleton.mp hq]; exact .head _))) ⟨_, _, _, _, rfl, rfl, I9, ?_, fun z hz => ?_⟩
  · rw [List.length_take]; simp; omega
  · have h4 : ∀ a : Int, a.fmod 4 = a % 4 := fun a => Int.fmod_eq_emod_of_nonneg _ (by decide)
    have := List.mem_of_mem_take hz
    simp only [h4, List.mem_cons, List.not_mem_nil, or_false] at this
    rcases this with rfl | rfl | rfl <;> exact ⟨Int.emod_nonneg _ (by decide), Int.le_trans (Int.le_of_lt (Int.emod_lt_of_pos _ (by decide))) (by decide)⟩


end T_M25
section T_M26
open PySem PySem.W PyProof.Rows PySem.Spec PySem.Calls
set_option maxRecDepth 100000
set_option maxHeartbeats 1000000




mutual
/-- the value stands for the tree, its lists in the ledger T -/
noncomputable def TreeL (T : Led) : Tr → Value → Prop
  | .leaf b, v => ∃ tk, v = .bytes b.toArray tk
  | .node cs, v => ∃ a vs ep, v = .ref a ∧ (a, W.listOf vs.toArray ep) ∈ T ∧ TreesL T cs vs
noncomputable def TreesL (T : Led) : List Tr → List Value → Prop
  | [], vs => vs = []
  | t :: ts, vs => ∃ v r, vs = v :: r ∧ TreeL T t v ∧ TreesL T ts r
end
mutual
theorem TreeL.mono {T T' : Led} (k : ∀ p ∈ T, p ∈ T') : ∀ {t : Tr} {v : Value}, TreeL T t v → TreeL T' t v
  | .leaf b, v, t => by rw [TreeL] at t ⊢; exact t
  | .node cs, v, t => by
    rw [TreeL] at t ⊢
    obtain ⟨a, vs, ep, e, h1, h2⟩ := t
    exact ⟨a, vs, ep, e, k _ h1, TreesL.mono k h2⟩
theorem TreesL.mono {T T' : Led} (k : ∀ p ∈ T, p ∈ T') : ∀ {t : List Tr} {v : List Value}, TreesL T t v → TreesL T' t v
  | [], v, t => by rw [TreesL] at t ⊢; exact t
  | c :: cs, v, t => by
    rw [TreesL] at t ⊢
    obtain ⟨v0, r, e, h1, h2⟩ := t
    exact ⟨v0, r, e, TreeL.mono k h1, TreesL.mono k h2⟩
end
noncomputable def LedIn (T : Led) (G : Heap) : Prop := ∀ p ∈ T, G.get? p.1 = some p.2
mutual
theorem TreeL.at {T : Led} {G : Heap} (k : LedIn T G) : ∀ {t : Tr} {v : Value}, TreeL T t v → TreeAt G t v
  | .leaf b, v, t => by rw [TreeL] at t; rw [TreeAt]; exact t
  | .node cs, v, t => by
    rw [TreeL] at t; rw [TreeAt]
    obtain ⟨a, vs, ep, e, h1, h2⟩ := t
    exact ⟨a, vs, e, ⟨_, k _ h1, rfl, ep, rfl⟩, TreesL.at k h2⟩
theorem TreesL.at {T : Led} {G : Heap} (k : LedIn T G) : ∀ {t : List Tr} {v : List Value}, TreesL T t v → TreesAt G t v
  | [], v, t => by rw [TreesL] at t; rw [TreesAt]; exact t
  | c :: cs, v, t => by
    rw [TreesL] at t; rw [TreesAt]
    obtain ⟨v0, r, e, h1, h2⟩ := t
    exact ⟨v0, r, e, TreeL.at k h1, TreesL.at k h2⟩
end
theorem treesL_len {T : Led} : ∀ {cs : List Tr} {vs : List Value}, TreesL T cs vs → vs.length = cs.length
  | [], vs, t => by rw [TreesL] at t; rw [t]; rfl
  | _ :: _, vs, t => by
    rw [TreesL] at t
    obtain ⟨v, r, rfl, _, t2⟩ := t
    rw [List.length_cons, List.length_cons, treesL_len t2]
theorem treesL_get {T : Led} : ∀ {cs : List Tr} {vs : List Value}, TreesL T cs vs → ∀ (i : Nat) v, vs[i]? = some v → ∃ c, cs[i]? = some c ∧ TreeL T c v
  | [], vs, t, i, v, e => by rw [TreesL] at t; rw [t] at e; simp at e
  | c :: cs, vs, t, i, v, e => by
    rw [TreesL] at t
    obtain ⟨v0, r, rfl, t1, t2⟩ := t
    cases i with
    | zero => simp at e; subst e; exact ⟨c, by simp, t1⟩
    | succ i => simp at e; obtain ⟨c', h1, h2⟩ := treesL_get t2 i v e; exact ⟨c', by simpa using h1, h2⟩
theorem treesL_append {T : Led} : ∀ {a b : List Tr} {vs us : List Value}, TreesL T a vs → TreesL T b us → TreesL T (a ++ b) (vs ++ us)
  | [], b, vs, us, t, u => by rw [TreesL] at t; rw [t]; exact u
  | c :: cs, b, vs, us, t, u => by
    rw [TreesL] at t
    obtain ⟨v0, r, rfl, t1, t2⟩ := t
    rw [List.cons_append, List.cons_append, TreesL]
    exact ⟨v0, _, rfl, t1, treesL_append t2 u⟩

noncomputable def treeGet : Tr → List Int → Option Tr
  | t, [] => some t
  | .leaf _, _ :: _ => none
  | .node cs, z :: zs => (cs[z.toNat]?).bind fun c => treeGet c zs
theorem treeGet_append (xs ys : List Int) : ∀ t : Tr, treeGet t (xs ++ ys) = (treeGet t xs).bind fun c => treeGet c ys := by
  induction xs with
  | nil => intro t; simp [treeGet]
  | cons z zs ih =>
    intro t
    cases t with
    | leaf b => simp [treeGet]
    | node cs =>
      rw [List.cons_append, treeGet, treeGet]
      cases cs[z.toNat]? with
      | none => rfl
      | some c => exact ih c
theorem treeGet_wt : ∀ (zs : List Int) (t c : Tr), treeGet t zs = some c → c.wt ≤ t.wt
  | [], t, c, h => by rw [treeGet] at h; cases h; exact Nat.le_refl _
  | z :: zs, .leaf b, c, h => by rw [treeGet] at h; cases h
  | z :: zs, .node cs, c, h => by
    rw [treeGet] at h
    cases hc : cs[z.toNat]? with
    | none => rw [hc] at h; cases h
    | some d =>
      rw [hc] at h
      have h1 := treeGet_wt zs d c h
      have h2 := wts_mem (List.mem_of_getElem? hc)
      rw [Tr.wt]; omega
theorem take_snoc {zs : List Int} {i : Nat} {z : Int} (h : zs[i]? = some z) : zs = zs.take i ++ z :: zs.drop (i + 1) := by
  obtain ⟨hi, e⟩ := List.getElem?_eq_some_iff.mp h
  rw [← e, ← List.drop_eq_getElem_cons hi, List.take_append_drop]

section
variable {w : World} {mean : ExcName → Option Value} {mg mb : Str → Option Value} {base g₀ : Heap} {outer : List Env} {A : Around} {s : Shared} {env : Env} {Q : Flow → Shared → Prop} {E : Value → Shared → Prop} {body : List Stmt}
noncomputable def AtK (g₀ : Heap) (m : Str → Option Value) (T : Led) (t : Tr) (zs : List Int) (i : Nat) : Heap → (Str → Option Value) → Led → Prop := fun g o n =>
  (∀ y, y ∉ [Str.ofString "place", Str.ofString "item"] → o y = m y) ∧ g = g₀ ∧ n = [] ∧ ∃ c v, treeGet t (zs.take i) = some c ∧ o (Str.ofString "item") = some v ∧ TreeL T c v
theorem at_iter {T : Led} {t : Tr} {v : Value} {l : Addr} {ws : List Value} {zs : List Int} {m : Str → Option Value} (S : Site w mean mg mb base outer g₀) (hh : A.handled = none) (hl : g₀.IsList l ws.toArray) (hi : WayZ ws zs) (hT : TreeL T t v) (hw : t.wt ≤ 4300) (hin : LedIn T g₀)
    (F : Fr g₀ env.locals s.heap m) (N : News g₀ env.locals s.heap []) (hb : m (Str.ofString "item") = some v)
    (turnL : ∀ (i : Nat) (z : Int) tz b tb o h₁ tk₁ own, zs[i]? = some z → 0 ≤ z → z ≤ 100 → treeGet t zs = none →
      Fr g₀ env.locals h₁ (fun y => if y = Str.ofString "place" then some (.int z tz) else if y = Str.ofString "place" then o else if y = Str.ofString "item" then some (.bytes b tb) else m y) → News g₀ env.locals h₁ own →
      wpAny (model PG w) A (execs body env) (OwnStep (frs outer) env.locals g₀ own (AtK g₀ m T t zs (i + 1)) { s with heap := h₁, toks := tk₁ } (fun v s' => Q (.ret v) s')) E { s with heap := h₁, toks := tk₁ })
    (turnN : ∀ (i : Nat) (z : Int) tz cs a vs o h₁ tk₁ own, zs[i]? = some z → 0 ≤ z → z ≤ 100 → g₀.IsList a vs.toArray → TreesL T cs vs → treeGet t (zs.take i) = some (.node cs) → ((vs.length : Int) ≤ z → treeGet t zs = none) → vs.length ≤ 1000 →
      Fr g₀ env.locals h₁ (fun y => if y = Str.ofString "place" then some (.int z tz) else if y = Str.ofString "place" then o else if y = Str.ofString "item" then some (.ref a) else m y) → News g₀ env.locals h₁ own →
      wpAny (model PG w) A (execs body env) (OwnStep (frs outer) env.locals g₀ own (AtK g₀ m T t zs (i + 1)) { s with heap := h₁, toks := tk₁ } (fun v s' => Q (.ret v) s')) E { s with heap := h₁, toks := tk₁ })
    (done : ∀ h' tk o c v', treeGet t zs = some c → TreeL T c v' → Fr g₀ env.locals h' (fun y => if y = Str.ofString "place" then o else if y = Str.ofString "item" then some v' else m y) → News g₀ env.locals h' [] → Q .next { s with heap := h', toks := tk }) :
    wpAny (model PG w) A (pyIter (.ref l)) (fun it s₂ => LoopO w A (frs outer) env (Str.ofString "place") body Q E it s₂) E s := by
  refine Iter_list_K [Str.ofString "place", Str.ofString "item"] (fun i g o n => g = g₀ ∧ n = [] ∧ ∃ c v, treeGet t (zs.take i) = some c ∧ o (Str.ofString "item") = some v ∧ TreeL T c v) S hh (isList_stays (fun b o e => F.keep b o e) hl) (news := []) (fun _ h => nomatch h) F N ⟨rfl, rfl, t, v, by simp [treeGet], hb, hT⟩ ?_ ?_
  · rintro i u o news₁ h₁ tk₁ own g₁ hv T₁ S₁ ⟨rfl, rfl, c, v', hc, hk, hcv⟩ hd F₁ N₁
    rw [List.append_nil] at N₁
    obtain ⟨z, tz, rfl, hz⟩ := IntsAre.at hi.1 i u (by simpa using hv)
    have hzm := hi.2.2 z (List.mem_of_getElem? hz)
    have hsplit := take_snoc hz
    have hfull : treeGet t zs = (treeGet t (zs.take i)).bind fun c => treeGet c (z :: zs.drop (i + 1)) := by
      rw [← treeGet_append, ← hsplit]
    have F₂ : Fr g₁ env.locals h₁ (fun y => if y = Str.ofString "place" then some (.int z tz) else if y = Str.ofString "place" then o (Str.ofString "place") else if y = Str.ofString "item" then some v' else m y) := by rw [← hk]; exact F₁
    cases c with
    | leaf b =>
      rw [TreeL] at hcv
      obtain ⟨tb, rfl⟩ := hcv
      exact turnL i z tz _ tb _ h₁ tk₁ own hz hzm.1 hzm.2 (by rw [hfull, hc]; rfl) F₂ N₁
    | node cs =>
      rw [TreeL] at hcv
      obtain ⟨a, vs, ep, rfl, hm, hcs⟩ := hcv
      refine turnN i z tz cs a vs _ h₁ tk₁ own hz hzm.1 hzm.2 ⟨_, hin _ hm, rfl, ep, rfl⟩ hcs hc (fun hle => ?_) ?_ F₂ N₁
      rotate_left
      · have := treeGet_wt _ _ _ hc
        have := wts_len cs
        have := treesL_len hcs
        rw [Tr.wt] at *
        omega
      rw [hfull, hc]
      show (cs[z.toNat]?).bind _ = none
      rw [List.getElem?_eq_none (by rw [← treesL_len hcs]; omega)]; rfl
  · rintro h' tk o news' g' T' S' ⟨rfl, rfl, c, v', hc, hk, hcv⟩ F' N'
    have hlen : ws.length = zs.length := by have := hi.1.sizeZ; simp at this; omega
    have e : zs.take ws.toArray.size = zs := by rw [List.size_toArray, hlen, List.take_length]
    rw [e] at hc
    exact done h' tk (o (Str.ofString "place")) c v' hc hcv (by rw [← hk]; exact F') N'
end
theorem sp265 {w : World} {mean : ExcName → Option Value} {mg mb : Str → Option Value} (T : Led) (t : Tr) (hw : t.wt ≤ 4300) (v : Value) (hT : TreeL T t v) (l : Addr) (ws : List Value) (zs : List Int) (hi : WayZ ws zs) :
  Spec w mean mg mb 265 4 ⟨[v, .ref l], []⟩ false (fun G => LedIn T G ∧ G.IsList l ws.toArray) [] (fun r own' => own' = [] ∧ ((treeGet t zs = none ∧ r = .none) ∨ ∃ c, treeGet t zs = some c ∧ TreeL T c r)) (fun _ _ _ => False) := by
  intro dp un gd base' outer g s R S hg hsz ho hpp hd1 hu1 hret hexc
  obtain ⟨hin, hgl⟩ := hpp
  first | refine enterP S hg hsz ho (by k_is) (by k_is) (room_0 hd1) (BindsTo.of_eq rfl) rfl ?_ rfl rfl rfl (by decide) | refine enter S hg hsz ho (by k_is) (by k_is) (room_0 hd1) (BindsTo.of_eq rfl) (locs rfl) ?_ rfl rfl rfl (by decide)
  intro L' h₁ tk₁ hst hL F N B XX T' M₁ en₁ A₁
  (try dsimp only)
  k_fold
  repeat' (first | (k_unfold; (try dsimp only)) | (k_end; wrow_close) | ((with_reducible show wpAny _ _ (exec (Stmt.For (Expr.Name _ _) (Expr.Name _ _) _ _ _) _) _ _ _); with_reducible (k_here; k_dflt (refine' For_S ?zzS ?zzhx ?zzhp ?_ ?zzhs ?zzhE; (case zzS => assumption); (case zzhx => exact rfl); (case zzhp => exact rfl); (case zzhs => (intro _; with_unfolding_all rfl)); (case zzhE => first | passes_own | with_unfolding_all passes_own)))) | ((with_reducible show wpAny _ _ (call (Value.builtin _) _) _ _ _); with_reducible (k_here; (with_reducible show wpAny _ _ (call _ [Value.ref _, Value.type _]) _ _ _); k_dflt (refine' kia_one kitx_list ?zzX ?zzc ?zzee ?zznb ?_; (case zzX => k_in); (case zzc => exact kitAt_gl (by k_asm) (by assumption)); (case zzee => kit_is); (case zznb => kit_nb); k_whole; intro _))) | ((with_reducible show wpAny _ _ (subscriptTail _ _ _ _) _ _ _); with_reducible (k_here; (with_reducible show wpAny _ _ (subscriptTail _ _ (Value.ref _) (Value.int _ _)) _ _ _); k_dflt (refine' item_gl ?zzF ?zzhl ?zzh0 ?zzh1 ?_ ?zzhs ?zzhg ?zzhz; (case zzF => k_asm); (case zzhl => assumption); (case zzh0 => omega); (case zzh1 => omega); (case zzhz => omega); (case zzhs => with_unfolding_all rfl); (case zzhg => (intro _; with_unfolding_all rfl)); k_whole); intro v' hv')) | ((with_reducible show wpAny _ _ (call (Value.builtin _) _) _ _ _); with_reducible (k_here; (with_reducible show wpAny _ _ (call (Value.builtin "len") [Value.ref _]) _ _ _); k_dflt (refine' len_gl ?zzF ?zzhl ?zzhz ?_; (case zzF => k_asm); (case zzhl => assumption); (case zzhz => omega); k_whole); intro t' k')) | ((with_reducible show wpAny _ _ (pyIter (Value.ref _)) _ _ _); with_reducible (k_here; k_dflt (refine' at_iter ?zzS ?zzhh ?zzhl ?zzhi ?zzhT ?zzhw ?zzhin ?zzF ?zzN ?zzhb ?_ ?_ ?_; (case zzS => assumption); (case zzhh => exact rfl); (case zzhi => assumption); (case zzhl => assumption); (case zzhT => assumption); (case zzhw => assumption); (case zzhin => assumption); (case zzF => k_asm); (case zzN => k_asm); (case zzhb => exact rfl)); (intro i' z' tz' b' tb' o' h' tk' own' hz1' hz2' hz3' hz4' F' N'); rotate_left; (intro i' z' tz' cs' a' vs' o' h' tk' own' hz1' hz2' hz3' hgl' hT' hz4' hz5' hz6' F' N'; have hlen' := treesL_len hT'); rotate_left; (intro h' tk' o' c' v' hc1' hc2' F' N'); rotate_left)) | walk1 | (dsimp only; first | ((with_reducible show wpAny _ _ (exec (Stmt.For (Expr.Name _ _) (Expr.Name _ _) _ _ _) _) _ _ _); with_reducible (k_here; k_dflt (refine' For_S ?zzS ?zzhx ?zzhp ?_ ?zzhs ?zzhE; (case zzS => assumption); (case zzhx => exact rfl); (case zzhp => exact rfl); (case zzhs => (intro _; with_unfolding_all rfl)); (case zzhE => first | passes_own | with_unfolding_all passes_own)))) | ((with_reducible show wpAny _ _ (call (Value.builtin _) _) _ _ _); with_reducible (k_here; (with_reducible show wpAny _ _ (call _ [Value.ref _, Value.type _]) _ _ _); k_dflt (refine' kia_one kitx_list ?zzX ?zzc ?zzee ?zznb ?_; (case zzX => k_in); (case zzc => exact kitAt_gl (by k_asm) (by assumption)); (case zzee => kit_is); (case zznb => kit_nb); k_whole; intro _))) | ((with_reducible show wpAny _ _ (subscriptTail _ _ _ _) _ _ _); with_reducible (k_here; (with_reducible show wpAny _ _ (subscriptTail _ _ (Value.ref _) (Value.int _ _)) _ _ _); k_dflt (refine' item_gl ?zzF ?zzhl ?zzh0 ?zzh1 ?_ ?zzhs ?zzhg ?zzhz; (case zzF => k_asm); (case zzhl => assumption); (case zzh0 => omega); (case zzh1 => omega); (case zzhz => omega); (case zzhs => with_unfolding_all rfl); (case zzhg => (intro _; with_unfolding_all rfl)); k_whole); intro v' hv')) | ((with_reducible show wpAny _ _ (call (Value.builtin _) _) _ _ _); with_reducible (k_here; (with_reducible show wpAny _ _ (call (Value.builtin "len") [Value.ref _]) _ _ _); k_dflt (refine' len_gl ?zzF ?zzhl ?zzhz ?_; (case zzF => k_asm); (case zzhl => assumption); (case zzhz => omega); k_whole); intro t' k')) | ((with_reducible show wpAny _ _ (pyIter (Value.ref _)) _ _ _); with_reducible (k_here; k_dflt (refine' at_iter ?zzS ?zzhh ?zzhl ?zzhi ?zzhT ?zzhw ?zzhin ?zzF ?zzN ?zzhb ?_ ?_ ?_; (case zzS => assumption); (case zzhh => exact rfl); (case zzhi => assumption); (case zzhl => assumption); (case zzhT => assumption); (case zzhw => assumption); (case zzhin => assumption); (case zzF => k_asm); (case zzN => k_asm); (case zzhb => exact rfl)); (intro i' z' tz' b' tb' o' h' tk' own' hz1' hz2' hz3' hz4' F' N'); rotate_left; (intro i' z' tz' cs' a' vs' o' h' tk' own' hz1' hz2' hz3' hgl' hT' hz4' hz5' hz6' F' N'; have hlen' := treesL_len hT'); rotate_left; (intro h' tk' o' c' v' hc1' hc2' F' N'); rotate_left)) | walk1) | (leave1; (try dsimp only)) | fail "no step")
  all_goals (try k_data)
  all_goals (try (exfalso; omega))
  all_goals rename Fr _ _ _ _ => F9
  all_goals rename News _ _ _ _ => N9
  · show R (.ok (.ret _)) _
    exact hret _ g [] _ _ rfl F9.keep (fun _ h => nomatch h) ⟨rfl, .inl ⟨by assumption, rfl⟩⟩
  · show R (.ok (.ret _)) _
    rename _ → treeGet t zs = none => h9
    exact hret _ g [] _ _ rfl F9.keep (fun _ h => nomatch h) ⟨rfl, .inl ⟨h9 (by assumption), rfl⟩⟩
  · rename treeGet t _ = some _ => h9
    rename zs[_]? = some _ => hz9
    rename TreesL _ _ _ => hT9
    rename _ = some _ => hv9
    obtain ⟨c, hc1, hc2⟩ := treesL_get hT9 _ _ hv9
    refine ⟨_, _, _, [], g, rfl, KtsTurn.refl, F9, (by rw [List.append_nil]; exact N9), (fun _ _ _ h => nomatch h), fun y hy => ?_, rfl, rfl, c, _, ?_, rfl, hc2⟩
    · simp only [List.mem_cons, List.not_mem_nil, or_false, not_or] at hy
      simp only [hy.1, hy.2, if_false, put]
    · obtain ⟨hi9, e9⟩ := List.getElem?_eq_some_iff.mp hz9
      rw [List.take_add_one, hz9, Option.toList, treeGet_append, h9]
      rw [Option.bind_some, treeGet, hc1]; rfl
  · show R (.ok (.ret _)) _
    exact hret _ g [] _ _ rfl F9.keep (fun _ h => nomatch h) ⟨rfl, .inr ⟨_, by assumption, by assumption⟩⟩


end T_M26
section T_M27
open PySem PySem.W PyProof.Rows PySem.Spec PySem.Calls
set_option maxRecDepth 100000
set_option maxHeartbeats 1000000




theorem Upd.app {d : Addr} {o o' : Obj} : ∀ {l r r' : Led}, (∀ p ∈ l, p.1 ≠ d) → Upd d o o' r r' → Upd d o o' (l ++ r) (l ++ r')
  | [], _, _, _, h => h
  | p :: l, _, _, a, h => .tail (a p (.head _)) (Upd.app (fun q hq => a q (.tail _ hq)) h)
section
variable {w : World} {mean : ExcName → Option Value} {mg mb : Str → Option Value} {base g₀ : Heap} {outer : List Env} {A : Around} {s : Shared} {env : Env} {Q : Flow → Shared → Prop} {E : Value → Shared → Prop} {body : List Stmt}
noncomputable def OctK (g₀ : Heap) (m : Str → Option Value) (l : Addr) (i : Nat) : Heap → (Str → Option Value) → Led → Prop := fun g o n =>
  (∀ y, y ∉ [Str.ofString "k", Str.ofString "number"] → o y = m y) ∧ g = g₀ ∧ ∃ us zs ep num tn, n = [(l, W.listOf us ep)] ∧ IntsAre us.toList zs ∧ us.size = i ∧ (∀ z ∈ zs, 0 ≤ z ∧ z < 256) ∧ o (Str.ofString "number") = some (.int num tn)
theorem oct_iter {r l : Addr} {n : Nat} {b num0 : Int} {t u v tn0 : Tok} {m : Str → Option Value} (S : Site w mean mg mb base outer g₀) (hh : A.handled = none) (hr : IsRange s.heap r 0 b 1 t u v) (hb : b = ((n : Nat) : Int)) (hn : n ≤ 12)
    (F : Fr g₀ env.locals s.heap m) (N : News g₀ env.locals s.heap [(l, W.listOf #[] 0)]) (hm : m (Str.ofString "number") = some (.int num0 tn0))
    (turn : ∀ (i : Nat) (num : Int) t tn us zs ep o h₁ tk₁ own, i < n → us.size = i → IntsAre us.toList zs → (∀ z ∈ zs, 0 ≤ z ∧ z < 256) → (∀ q ∈ own, ∀ p ∈ [(l, W.listOf us ep)], q.1 ≠ p.1) →
      Fr g₀ env.locals h₁ (fun y => if y = Str.ofString "k" then some (.int (i : Int) t) else if y = Str.ofString "k" then o else if y = Str.ofString "number" then some (.int num tn) else m y) → News g₀ env.locals h₁ (own ++ [(l, W.listOf us ep)]) →
      wpAny (model PG w) A (execs body env) (OwnStep (frs outer) env.locals g₀ own (OctK g₀ m l (i + 1)) { s with heap := h₁, toks := tk₁ } (fun v s' => Q (.ret v) s')) E { s with heap := h₁, toks := tk₁ })
    (done : ∀ h' tk us zs ep o num tn, us.size = n → IntsAre us.toList zs → (∀ z ∈ zs, 0 ≤ z ∧ z < 256) → Fr g₀ env.locals h' (fun y => if y = Str.ofString "k" then o else if y = Str.ofString "number" then some (.int num tn) else m y) → News g₀ env.locals h' [(l, W.listOf us ep)] → Q .next { s with heap := h', toks := tk }) :
    wpAny (model PG w) A (pyIter (.ref r)) (fun it s₂ => LoopO w A (frs outer) env (Str.ofString "k") body Q E it s₂) E s := by
  subst hb
  refine Iter_range_K [Str.ofString "k", Str.ofString "number"] (fun i g o n => g = g₀ ∧ ∃ us zs ep num tn, n = [(l, W.listOf us ep)] ∧ IntsAre us.toList zs ∧ us.size = i ∧ (∀ z ∈ zs, 0 ≤ z ∧ z < 256) ∧ o (Str.ofString "number") = some (.int num tn)) S hh (by unfold Builtin.Range.small Builtin.Range.rangeFitsLong Builtin.Range.rangeSize; simp; omega) F hr N ⟨rfl, #[], [], 0, num0, tn0, rfl, .nil, rfl, (fun _ h => nomatch h), hm⟩ ?_ ?_
  · rintro i t o news₁ h₁ tk₁ own g₁ hi T₁ S₁ ⟨rfl, us, zs, ep, num, tn, rfl, hI, hz, hr', hk⟩ hd F₁ N₁
    exact turn i num t tn us zs ep (o (Str.ofString "k")) h₁ tk₁ own hi hz hI hr' hd (by rw [← hk]; exact F₁) N₁
  · rintro h' tk o news' g' T' S' ⟨rfl, us, zs, ep, num, tn, rfl, hI, hz, hr', hk⟩ F' N'
    exact done h' tk us zs ep (o (Str.ofString "k")) num tn hz hI hr' (by rw [← hk]; exact F') N'
end
local macro_rules | `(tactic| k_upd) => `(tactic| (refine' Upd.app ?a ?b; (case a => (intro p hp; exact ‹∀ q ∈ _, ∀ r ∈ _, q.1 ≠ r.1› p hp (_, _) (by k_mem))); (case b => k_upd)))
theorem sp216 {w : World} {mean : ExcName → Option Value} {mg mb : Str → Option Value} (num : Int) (size : Nat) (t1 t2 : Tok) (hs : size ≤ 12) :
  Spec w mean mg mb 216 4 ⟨[.int num t1, .int size t2], []⟩ false (fun _ => True) [] (fun r own' => ∃ b tk, r = .bytes b.toArray tk ∧ (b : List UInt8).length = size ∧ own' = []) (fun _ _ _ => False) := by
  intro dp un gd base' outer g s R S hg hsz ho hpp hd1 hu1 hret hexc
  first | refine enterP S hg hsz ho (by k_is) (by k_is) (room_0 hd1) (BindsTo.of_eq rfl) rfl ?_ rfl rfl rfl (by decide) | refine enter S hg hsz ho (by k_is) (by k_is) (room_0 hd1) (BindsTo.of_eq rfl) (locs rfl) ?_ rfl rfl rfl (by decide)
  intro L' h₁ tk₁ hst hL F N B XX T' M₁ en₁ A₁
  (try dsimp only)
  k_fold
  repeat' (first | (k_unfold; (try dsimp only)) | (k_end; wrow_close) | ((with_reducible show wpAny _ _ (exec (Stmt.For (Expr.Name _ _) (Expr.Call _ _ _ _) _ _ _) _) _ _ _); with_reducible (k_here; k_dflt (refine' For_S ?zzS ?zzhx ?zzhp ?_ ?zzhs ?zzhE; (case zzS => assumption); (case zzhx => exact rfl); (case zzhp => exact rfl); (case zzhs => (intro _; with_unfolding_all rfl)); (case zzhE => first | passes_own | with_unfolding_all passes_own)))) | ((with_reducible show wpAny _ _ (eval (Expr.Constant (Const.int _) _ _) _) _ _ _); with_reducible refine const_i ?_) | ((with_reducible show wpAny _ _ (execs (_ :: _) _) _ _ _); with_reducible (refine wpAny_execs_cons ?_; (try k_fold))) | ((with_reducible show wpAny _ _ (pyIter (Value.ref _)) _ _ _); with_reducible (k_here; k_dflt (refine' oct_iter ?zzS ?zzhh ?zzhr ?zzhb ?zzhn ?zzF ?zzN ?zzhm ?_ ?_; (case zzS => assumption); (case zzhh => exact rfl); (case zzhr => assumption); (case zzhb => exact rfl); (case zzhn => omega); (case zzF => k_asm); (case zzN => k_asm); (case zzhm => exact rfl)); (intro i' num' t' tn' us' zs' ep' o' h' tk' own' hi' hz' hI' hr' hd' F' N'); rotate_left; (intro h' tk' us' zs' ep' o' num' tn' hz' hI' hr' F' N'); rotate_left)) | ((with_reducible show wpAny _ _ (storeName _ _ _) _ _ _); with_reducible (k_here; k_dflt (refine' storeP ?zzF ?zzN ?_ ?zza ?zzb; (case zzF => k_asm); (case zzN => k_asm); (case zza => rfl); (case zzb => rfl); k_whole; intro h' tk' F' N'; (try k_sweep)))) | walk1 | (dsimp only; first | ((with_reducible show wpAny _ _ (exec (Stmt.For (Expr.Name _ _) (Expr.Call _ _ _ _) _ _ _) _) _ _ _); with_reducible (k_here; k_dflt (refine' For_S ?zzS ?zzhx ?zzhp ?_ ?zzhs ?zzhE; (case zzS => assumption); (case zzhx => exact rfl); (case zzhp => exact rfl); (case zzhs => (intro _; with_unfolding_all rfl)); (case zzhE => first | passes_own | with_unfolding_all passes_own)))) | ((with_reducible show wpAny _ _ (eval (Expr.Constant (Const.int _) _ _) _) _ _ _); with_reducible refine const_i ?_) | ((with_reducible show wpAny _ _ (execs (_ :: _) _) _ _ _); with_reducible (refine wpAny_execs_cons ?_; (try k_fold))) | ((with_reducible show wpAny _ _ (pyIter (Value.ref _)) _ _ _); with_reducible (k_here; k_dflt (refine' oct_iter ?zzS ?zzhh ?zzhr ?zzhb ?zzhn ?zzF ?zzN ?zzhm ?_ ?_; (case zzS => assumption); (case zzhh => exact rfl); (case zzhr => assumption); (case zzhb => exact rfl); (case zzhn => omega); (case zzF => k_asm); (case zzN => k_asm); (case zzhm => exact rfl)); (intro i' num' t' tn' us' zs' ep' o' h' tk' own' hi' hz' hI' hr' hd' F' N'); rotate_left; (intro h' tk' us' zs' ep' o' num' tn' hz' hI' hr' F' N'); rotate_left)) | ((with_reducible show wpAny _ _ (storeName _ _ _) _ _ _); with_reducible (k_here; k_dflt (refine' storeP ?zzF ?zzN ?_ ?zza ?zzb; (case zzF => k_asm); (case zzN => k_asm); (case zza => rfl); (case zzb => rfl); k_whole; intro h' tk' F' N'; (try k_sweep)))) | walk1) | (leave1; (try dsimp only)) | fail "no step")
  all_goals (try k_data)
  all_goals (try (exfalso; omega))
  · rename Fr _ _ _ _ => F9
    rename News _ _ _ _ => N9
    rename IntsAre _ _ => I9
    rename _ = _ => hz9
    rename ∀ z ∈ _, (0 : Int) ≤ z ∧ z < 256 => hr9
    rename ∀ q ∈ _, ∀ p ∈ _, _ => hd9
    rename List Int => zs9
    rename Int => num9
    refine ⟨_, _, _, _, g, rfl, KtsTurn.refl, F9, N9, (fun q hq p hp => ?_), fun y hy => ?_, rfl, _, zs9 ++ [num9.fmod 256], _, _, _, rfl, ?_, ?_, ?_, rfl⟩
    · rw [List.mem_singleton.mp hp]
      have h8 := hd9 q hq _ (List.Mem.head _)
      exact h8
    · simp only [List.mem_cons, List.not_mem_nil, or_false, not_or] at hy
      simp only [hy.1, hy.2, if_false, put]
    · rw [Array.toList_push]
      exact IntsAre.append I9 (IntsAre.cons _ _ IntsAre.nil)
    · rw [Array.size_push, hz9]
    · intro z hz
      rcases List.mem_append.mp hz with hz | hz
      · exact hr9 z hz
      · rw [List.mem_singleton.mp hz, fm256]; omega
  · rename News _ _ _ _ => N9
    rename IntsAre _ _ => I9
    rename ∀ z ∈ _, (0 : Int) ≤ z ∧ z < 256 => hr9
    rename Fr _ _ _ _ => F9
    rename _ = size => hz9
    refine bytes_K F9 N9 (by simpa using News.isList N9 (List.mem_cons_self ..)) I9 hr9 (by rw [sizeLine_eq]; simp; omega) rfl fun h' t k F8 N8 _ => ?_
    show R (.ok (.ret _)) _
    refine hret _ g [] _ _ rfl F8.keep (fun _ h => nomatch h) ⟨_, _, rfl, ?_, rfl⟩
    have := I9.sizeZ
    rw [List.length_map]
    simp at this; omega


end T_M27
section T_M28
open PySem PySem.W PyProof.Rows PySem.Spec PySem.Calls
set_option maxRecDepth 100000
set_option maxHeartbeats 1000000




theorem fmN (a : Int) {b : Int} (h : 0 ≤ b) : a.fmod b = a % b := Int.fmod_eq_emod_of_nonneg _ h
inductive Opn (Tf : Led) : List Addr → Led → List (List Tr) → Prop
  | nil : Opn Tf [] [] []
  | cons {a vs ep cs as os css} : TreesL Tf cs vs → Opn Tf as os css → Opn Tf (a :: as) ((a, W.listOf vs.toArray ep) :: os) (cs :: css)
theorem Opn.mono {Tf Tf' : Led} (k : ∀ p ∈ Tf, p ∈ Tf') : ∀ {as os css}, Opn Tf as os css → Opn Tf' as os css
  | _, _, _, .nil => .nil
  | _, _, _, .cons h r => .cons (TreesL.mono k h) (r.mono k)
theorem Opn.adr {Tf : Led} : ∀ {as os css}, Opn Tf as os css → os.map (·.1) = as
  | _, _, _, .nil => rfl
  | _, _, _, .cons h r => by rw [List.map_cons, r.adr]
noncomputable def openWt : List (List Tr) → Nat
  | [] => 0
  | cs :: r => 300 + wts cs + openWt r

/-- the stack of _law_tree: the top list, the lists below it, the finished lists -/
structure Stk (R b : Addr) (as : List Addr) (vs : List Value) (ep : Nat) (os Tf : Led) (cs : List Tr) (css : List (List Tr)) (Wt : Nat) : Prop where
  top : TreesL Tf cs vs
  opn : Opn Tf as os css
  wt : 300 + wts cs + openWt css ≤ Wt
  nd : (R :: b :: (as ++ Tf.map (·.1))).Nodup
  len : as.length ≤ 20
noncomputable def stkLed (R b : Addr) (as : List Addr) (vs : List Value) (ep epR : Nat) (os Tf : Led) : Led :=
  (R, W.listOf ((as.reverse.map Value.ref ++ [Value.ref b]).toArray) epR) :: (b, W.listOf vs.toArray ep) :: (os ++ Tf)
noncomputable def StkOk (R : Addr) (Wt : Nat) (n : Led) : Prop := ∃ b as vs ep epR os Tf cs css, n = stkLed R b as vs ep epR os Tf ∧ Stk R b as vs ep os Tf cs css Wt

variable {R b : Addr} {as : List Addr} {vs : List Value} {ep epR : Nat} {os Tf : Led} {cs : List Tr} {css : List (List Tr)} {Wt : Nat}
theorem Stk.offR (h : Stk R b as vs ep os Tf cs css Wt) : ∀ p ∈ os ++ Tf, p.1 ≠ R := fun p hp e => by
  have hnd := (List.nodup_cons.mp h.nd).1
  refine hnd (List.mem_cons_of_mem _ ?_)
  rw [← h.opn.adr, ← List.map_append, ← e]
  exact List.mem_map_of_mem hp
theorem Stk.offb (h : Stk R b as vs ep os Tf cs css Wt) : ∀ p ∈ os ++ Tf, p.1 ≠ b := fun p hp e => by
  have hnd := (List.nodup_cons.mp (List.nodup_cons.mp h.nd).2).1
  refine hnd ?_
  rw [← h.opn.adr, ← List.map_append, ← e]
  exact List.mem_map_of_mem hp
theorem Stk.neRb (h : Stk R b as vs ep os Tf cs css Wt) : b ≠ R := fun e => (List.nodup_cons.mp h.nd).1 (by rw [e]; exact List.mem_cons_self ..)
theorem wts_snoc (cs : List Tr) (t : Tr) : wts (cs ++ [t]) = wts cs + t.wt := by rw [wts_append]; simp [wts]
theorem treesL_snoc {T : Led} {t : Tr} {v : Value} (h : TreesL T cs vs) (k : TreeL T t v) : TreesL T (cs ++ [t]) (vs ++ [v]) := treesL_append h (by rw [TreesL]; exact ⟨v, [], rfl, k, by rw [TreesL]⟩)

theorem Stk.leaf (h : Stk R b as vs ep os Tf cs css Wt) {x : List UInt8} (t : Tok) (hx : x.length ≤ 258) (ep' epR' : Nat) :
    StkOk R (Wt + 300) ((R, W.listOf ((as.reverse.map Value.ref ++ [Value.ref b]).toArray) epR') :: (b, W.listOf (vs.toArray.push (.bytes x.toArray t)) ep') :: (os ++ Tf)) := by
  refine ⟨b, as, vs ++ [.bytes x.toArray t], ep', epR', os, Tf, cs ++ [.leaf x], css, by rw [stkLed, List.push_toArray], treesL_snoc h.top (by rw [TreeL]; exact ⟨_, rfl⟩), h.opn, ?_, h.nd, h.len⟩
  rw [wts_snoc, Tr.wt]
  have := h.wt
  omega
theorem Stk.fin (h : Stk R b as vs ep os Tf cs css Wt) (l : Addr) (hl : l ≠ R ∧ l ≠ b ∧ ∀ p ∈ os ++ Tf, p.1 ≠ l) (ep' epR' ep2 : Nat) :
    StkOk R (Wt + 300) ((R, W.listOf ((as.reverse.map Value.ref ++ [Value.ref b]).toArray) epR') :: (b, W.listOf (vs.toArray.push (.ref l)) ep') :: (os ++ ((l, W.listOf #[] ep2) :: Tf))) := by
  have hm : ∀ p ∈ Tf, p ∈ (l, W.listOf #[] ep2) :: Tf := fun p hp => List.mem_cons_of_mem _ hp
  refine ⟨b, as, vs ++ [.ref l], ep', epR', os, (l, W.listOf #[] ep2) :: Tf, cs ++ [.node []], css, by rw [stkLed, List.push_toArray], treesL_snoc (h.top.mono hm) (by rw [TreeL]; exact ⟨l, [], ep2, rfl, List.mem_cons_self .., by rw [TreesL]⟩), h.opn.mono hm, ?_, ?_, h.len⟩
  · rw [wts_snoc, Tr.wt, wts]
    have := h.wt
    omega
  · have hnd := h.nd
    have h3 : l ∉ as ++ Tf.map (·.1) := fun q => by
      rw [← h.opn.adr, ← List.map_append] at q
      obtain ⟨p, hp, e⟩ := List.mem_map.mp q
      exact hl.2.2 p hp e
    rw [List.map_cons]
    have hp : List.Perm (R :: b :: (as ++ l :: Tf.map (·.1))) (l :: R :: b :: (as ++ Tf.map (·.1))) := by
      have e1 : List.Perm (as ++ l :: Tf.map (·.1)) (l :: (as ++ Tf.map (·.1))) := List.perm_middle
      exact ((e1.cons b).cons R).trans (((List.Perm.swap l b _).cons R).trans (List.Perm.swap l R _))
    rw [hp.nodup_iff, List.nodup_cons]
    refine ⟨fun q => ?_, hnd⟩
    rcases List.mem_cons.mp q with q | q
    · exact hl.1 q
    rcases List.mem_cons.mp q with q | q
    · exact hl.2.1 q
    · exact h3 q
theorem Stk.push (h : Stk R b as vs ep os Tf cs css Wt) (l : Addr) (hl : l ≠ R ∧ l ≠ b ∧ ∀ p ∈ os ++ Tf, p.1 ≠ l) (hlen : as.length < 20) (epR' ep2 : Nat) :
    StkOk R (Wt + 300) ((R, W.listOf (((as.reverse.map Value.ref ++ [Value.ref b]).toArray).push (.ref l)) epR') :: (l, W.listOf #[] ep2) :: (((b, W.listOf vs.toArray ep) :: os) ++ Tf)) := by
  refine ⟨l, b :: as, [], ep2, epR', (b, W.listOf vs.toArray ep) :: os, Tf, [], cs :: css, ?_, by rw [TreesL], .cons h.top h.opn, ?_, ?_, by simp; omega⟩
  · rw [stkLed, List.push_toArray, List.reverse_cons, List.map_append]; rfl
  · rw [openWt, wts]
    have := h.wt
    omega
  · have hnd := h.nd
    rw [List.nodup_cons] at hnd ⊢
    have h3 : l ∉ as ++ Tf.map (·.1) := fun q => by
      rw [← h.opn.adr, ← List.map_append] at q
      obtain ⟨p, hp, e⟩ := List.mem_map.mp q
      exact hl.2.2 p hp e
    refine ⟨fun q => ?_, ?_⟩
    · rcases List.mem_cons.mp q with q | q
      · exact hl.1 q.symm
      · exact hnd.1 q
    · rw [List.nodup_cons]
      refine ⟨fun q => ?_, hnd.2⟩
      rcases List.mem_cons.mp q with q | q
      · exact hl.2.1 q
      · exact h3 q
theorem Stk.pop' {b2 : Addr} {as2 : List Addr} {vs2 : List Value} {epb : Nat} {os2 : Led} (h : Stk R b (b2 :: as2) vs ep ((b2, W.listOf vs2.toArray epb) :: os2) Tf cs css Wt) (ep' : Nat) :
    ∃ cs' css', Stk R b2 as2 (vs2 ++ [.ref b]) ep' os2 ((b, W.listOf vs.toArray ep) :: Tf) cs' css' Wt := by
  obtain ⟨ht, ho, hw, hnd, hlen⟩ := h
  generalize hos : (b2, W.listOf vs2.toArray epb) :: os2 = os' at ho
  cases ho with
  | @cons a vs3 ep3 cs3 as3 os3 css3 h3 ho3 =>
    injection hos with e1 e2
    subst e2
    have e3 : vs2 = vs3 := by
      injection e1 with _ e1
      injection e1 with _ _ e1
      injection e1 with e1
      simpa using e1
    subst e3
    have hm : ∀ p ∈ Tf, p ∈ (b, W.listOf vs.toArray ep) :: Tf := fun p hp => List.mem_cons_of_mem _ hp
    refine ⟨cs3 ++ [.node cs], css3, treesL_snoc (h3.mono hm) (by rw [TreeL]; exact ⟨b, vs, ep, rfl, List.mem_cons_self .., ht.mono hm⟩), ho3.mono hm, ?_, ?_, by simp at hlen; omega⟩
    · rw [wts_snoc, Tr.wt]
      rw [openWt] at hw
      omega
    · rw [List.map_cons]
      have hp : List.Perm (R :: b2 :: (as2 ++ b :: Tf.map (·.1))) (R :: b :: ((b2 :: as2) ++ Tf.map (·.1))) := by
        have e1 : List.Perm (as2 ++ b :: Tf.map (·.1)) (b :: (as2 ++ Tf.map (·.1))) := List.perm_middle
        exact ((e1.cons b2).trans (List.Perm.swap b b2 _)).cons R
      rw [hp.nodup_iff]
      exact hnd
theorem Stk.pop {b2 : Addr} {as2 : List Addr} {vs2 : List Value} {epb : Nat} {os2 : Led} (h : Stk R b (b2 :: as2) vs ep ((b2, W.listOf vs2.toArray epb) :: os2) Tf cs css Wt) (epR' ep' : Nat) :
    StkOk R Wt ((R, W.listOf ((as2.reverse.map Value.ref ++ [Value.ref b2]).toArray) epR') :: (b2, W.listOf (vs2.toArray.push (.ref b)) ep') :: (os2 ++ ((b, W.listOf vs.toArray ep) :: Tf))) := by
  obtain ⟨cs', css', h'⟩ := h.pop' ep'
  exact ⟨b2, as2, _, ep', epR', os2, _, cs', css', by rw [stkLed, List.push_toArray], h'⟩
theorem Stk.more (h : Stk R b as vs ep os Tf cs css Wt) {Wt' : Nat} (k : Wt ≤ Wt') : Stk R b as vs ep os Tf cs css Wt' := ⟨h.top, h.opn, Nat.le_trans h.wt k, h.nd, h.len⟩
theorem StkOk.more {n : Led} (h : StkOk R Wt n) {Wt' : Nat} (k : Wt ≤ Wt') : StkOk R Wt' n := by
  obtain ⟨b, as, vs, ep, epR, os, Tf, cs, css, e, h⟩ := h
  exact ⟨b, as, vs, ep, epR, os, Tf, cs, css, e, h.more k⟩


end T_M28
section T_M29
open PySem PySem.W PyProof.Rows PySem.Spec PySem.Calls
set_option maxRecDepth 100000
set_option maxHeartbeats 1000000




section
variable {R b : Addr} {pre vs : List Value} {ep epR : Nat} {rest : Led} {Wt : Nat} {n : Led}
/-- the stack at a turn: pre below, the top list b with vs -/
structure TT (R b : Addr) (pre vs : List Value) (ep : Nat) (rest : Led) (Wt : Nat) : Prop where
  ex : ∃ as os Tf cs css, as.reverse.map Value.ref = pre ∧ os ++ Tf = rest ∧ Stk R b as vs ep os Tf cs css Wt
noncomputable abbrev tLed (R b : Addr) (pre vs : List Value) (ep epR : Nat) (rest : Led) : Led := (R, W.listOf (pre ++ [Value.ref b]).toArray epR) :: (b, W.listOf vs.toArray ep) :: rest
theorem TT.of (h : StkOk R Wt n) : ∃ b pre vs ep epR rest, n = tLed R b pre vs ep epR rest ∧ TT R b pre vs ep rest Wt := by
  obtain ⟨b, as, vs, ep, epR, os, Tf, cs, css, rfl, h⟩ := h
  exact ⟨b, _, vs, ep, epR, _, rfl, as, os, Tf, cs, css, rfl, rfl, h⟩
theorem TT.nb (h : TT R b pre vs ep rest Wt) : @Ne Nat b R := by obtain ⟨as, os, Tf, cs, css, rfl, rfl, q⟩ := h.ex; exact q.neRb
theorem TT.oR (h : TT R b pre vs ep rest Wt) : ∀ p ∈ rest, p.1 ≠ R := by obtain ⟨as, os, Tf, cs, css, rfl, rfl, q⟩ := h.ex; exact q.offR
theorem TT.ob (h : TT R b pre vs ep rest Wt) : ∀ p ∈ rest, p.1 ≠ b := by obtain ⟨as, os, Tf, cs, css, rfl, rfl, q⟩ := h.ex; exact q.offb
theorem wts_100 {T : Led} {cs : List Tr} (h : TreesL T cs vs) (k : wts cs ≤ 4000) : vs.length ≤ 100 := by
  have h1 := treesL_len h
  have h2 := wts_len cs
  omega
theorem TT.vl (h : TT R b pre vs ep rest Wt) (k : Wt ≤ 4000) : vs.length ≤ 100 := by obtain ⟨as, os, Tf, cs, css, rfl, rfl, q⟩ := h.ex; exact wts_100 q.top (by have := q.wt; omega)
theorem TT.pl (h : TT R b pre vs ep rest Wt) : pre.length ≤ 20 := by obtain ⟨as, os, Tf, cs, css, rfl, rfl, q⟩ := h.ex; simpa using q.len
theorem TT.down (h : TT R b pre vs ep rest Wt) (k : Wt ≤ 4000) (hp : (1 : Int) < (pre.length : Int) + 1) : ∃ (b2 : Addr) (pre2 vs2 : List Value) (ep2 : Nat) (rest2 : Led), pre = pre2 ++ [Value.ref b2] ∧ rest = (b2, W.listOf vs2.toArray ep2) :: rest2 ∧ vs2.length ≤ 100 ∧ pre2.length ≤ 20 ∧ (@Ne Nat b2 R) ∧ (@Ne Nat b2 b) ∧ (∀ p ∈ rest2, p.1 ≠ R) ∧ (∀ p ∈ rest2, p.1 ≠ b) ∧ ∀ p ∈ rest2, p.1 ≠ b2 := by
  obtain ⟨as, os, Tf, cs, css, rfl, rfl, q⟩ := h.ex
  cases as with
  | nil => simp at hp
  | cons b2 as =>
    have hw := q.wt
    have ho := q.opn
    cases ho with
    | @cons _ vs2 ep2 cs2 _ os2 css2 h1 h2 =>
      have hnd := q.nd
      have hadr := h2.adr
      refine ⟨b2, as.reverse.map Value.ref, vs2, ep2, os2 ++ Tf, by rw [List.reverse_cons, List.map_append]; rfl, rfl, wts_100 h1 (by rw [openWt] at hw; omega), by have := q.len; simp at this ⊢; omega, q.offR (b2, _) (List.mem_cons_self ..), q.offb (b2, _) (List.mem_cons_self ..), fun p hp => q.offR p (List.mem_cons_of_mem _ hp), fun p hp => q.offb p (List.mem_cons_of_mem _ hp), fun p hp e => ?_⟩
      rw [List.nodup_cons, List.nodup_cons] at hnd
      have h4 := hnd.2.2
      rw [List.cons_append, List.nodup_cons] at h4
      refine h4.1 ?_
      rw [← hadr, ← List.map_append, ← e]
      exact List.mem_map_of_mem hp
theorem TT.bot (h : TT R b pre vs ep rest 3900) (hp : ¬ (1 : Int) < (pre.length : Int) + 1) : ∃ cs, TreeL ((b, W.listOf vs.toArray ep) :: rest) (.node cs) (.ref b) ∧ wts cs ≤ 3900 := by
  obtain ⟨as, os, Tf, cs, css, rfl, rfl, q⟩ := h.ex
  refine ⟨cs, ?_, by have := q.wt; omega⟩
  rw [TreeL]
  exact ⟨b, vs, ep, rfl, .head _, q.top.mono fun p hp => .tail _ (List.mem_append_right _ hp)⟩
end
section
variable {w : World} {mean : ExcName → Option Value} {mg mb : Str → Option Value} {base g₀ h₀ : Heap} {outer : List Env} {A : Around} {s : Shared} {env : Env} {Q : Flow → Shared → Prop} {E : Value → Shared → Prop} {body : List Stmt}
variable {dp un : Nat} {gd : Option (List Code)} {cn : Str} {csc : Scope} {L a R b : Addr} {ccd : Value} {m : Str → Option Value} {news : Led}
noncomputable abbrev treeNames : List Str := [Str.ofString "number", Str.ofString "kind", Str.ofString "rest", Str.ofString "part"]
noncomputable def TreeK (g₀ : Heap) (m : Str → Option Value) (R : Addr) (i : Nat) : Heap → (Str → Option Value) → Led → Prop := fun g o n =>
  (∀ y, y ∉ treeNames → o y = m y) ∧ g = g₀ ∧ StkOk R (300 * (i + 1)) n
noncomputable def nm4 (z : Int) (tz : Tok) (o1 o2 o3 o4 : Option Value) (m : Str → Option Value) : Str → Option Value := fun y => if y = Str.ofString "number" then some (.int z tz) else if y = Str.ofString "number" then o1 else if y = Str.ofString "kind" then o2 else if y = Str.ofString "rest" then o3 else if y = Str.ofString "part" then o4 else m y
noncomputable def nm4' (o1 o2 o3 o4 : Option Value) (m : Str → Option Value) : Str → Option Value := fun y => if y = Str.ofString "number" then o1 else if y = Str.ofString "kind" then o2 else if y = Str.ofString "rest" then o3 else if y = Str.ofString "part" then o4 else m y
theorem tree_iter {l : Addr} {ws : List Value} {zs : List Int} (S : Site w mean mg mb base outer g₀) (hh : A.handled = none) (hl : g₀.IsList l ws.toArray) (hi : IntsAre ws zs) (hz : zs.length ≤ 12)
    (F : Fr g₀ env.locals s.heap m) (N : News g₀ env.locals s.heap news) (hn : StkOk R 300 news)
    (turn : ∀ (i : Nat) (z : Int) tz b pre vs ep epR rest o1 o2 o3 o4 h₁ tk₁ own, 300 * (i + 1) ≤ 3600 → TT R b pre vs ep rest (300 * (i + 1)) → (@Ne Nat b R) → (∀ p ∈ rest, p.1 ≠ R) → (∀ p ∈ rest, p.1 ≠ b) → vs.length ≤ 100 → pre.length ≤ 20 →
      (∀ q ∈ own, ∀ p ∈ tLed R b pre vs ep epR rest, q.1 ≠ p.1) →
      Fr g₀ env.locals h₁ (nm4 z tz o1 o2 o3 o4 m) → News g₀ env.locals h₁ (own ++ ((R, W.listOf (pre ++ [Value.ref b]).toArray epR) :: (b, W.listOf vs.toArray ep) :: rest)) →
      wpAny (model PG w) A (execs body env) (OwnStep (frs outer) env.locals g₀ own (TreeK g₀ m R (i + 1)) { s with heap := h₁, toks := tk₁ } (fun v s' => Q (.ret v) s')) E { s with heap := h₁, toks := tk₁ })
    (done : ∀ h' tk o1 o2 o3 o4 n, StkOk R 3900 n → Fr g₀ env.locals h' (nm4' o1 o2 o3 o4 m) → News g₀ env.locals h' n → Q .next { s with heap := h', toks := tk }) :
    (∀ p ∈ news, p.1 ≠ l) → wpAny (model PG w) A (pyIter (.ref l)) (fun it s₂ => LoopO w A (frs outer) env (Str.ofString "number") body Q E it s₂) E s := by
  intro hln
  refine Iter_list_K treeNames (fun i g o n => g = g₀ ∧ StkOk R (300 * (i + 1)) n) S hh (isList_stays (fun b o e => F.keep b o e) hl) hln F N ⟨rfl, hn⟩ ?_ ?_
  · rintro i u o news₁ h₁ tk₁ own g₁ hv T₁ S₁ ⟨rfl, hk⟩ hd F₁ N₁
    obtain ⟨z, tz, rfl, hzi⟩ := IntsAre.at hi i u (by simpa using hv)
    have hi12 : i < 12 := by have := (List.getElem?_eq_some_iff.mp hzi).1; omega
    obtain ⟨b, pre, vs, ep, epR, rest, rfl, hq⟩ := TT.of hk
    exact turn i z tz b pre vs ep epR rest _ _ _ _ h₁ tk₁ own (by omega) hq hq.nb hq.oR hq.ob (hq.vl (by omega)) hq.pl hd F₁ N₁
  · rintro h' tk o news' g' T' S' ⟨rfl, hk⟩ F' N'
    have hlen : ws.length = zs.length := by have := hi.sizeZ; simp at this; omega
    exact done h' tk _ _ _ _ _ (hk.more (by simp; omega)) F' N'

theorem oct_call {Q E : Value → Shared → Prop} {rest : Led} {num k : Int} {t1 t2 : Tok} (S : Site w mean mg mb base outer h₀) (F : Fr h₀ L s.heap m) (N : News h₀ L s.heap rest) (h0 : 0 ≤ k) (h1 : k ≤ 12) (hck : csc.kind = .function) (hA : A = top dp un gd (envOf cn csc L a ccd :: outer)) (hd : dp + 4 < recursionLimit) (hu : un + 8 * 4 < cLine)
    (ret : ∀ x t h' tk, x.length ≤ 12 → Fr h₀ L h' m → News h₀ L h' rest → Q (.bytes (List.toArray x) t) { s with heap := h', toks := tk }) :
    wpAny (model PG w) A (call (.ref 216) [.int num t1, .int k t2]) Q E s := by
  have e : k = ((k.toNat : Nat) : Int) := by omega
  rw [e]
  refine call0 (sp216 num k.toNat t1 t2 (by omega)) S F N hck hA (fun _ _ _ => trivial) hd hu ?_
  rintro r own' h' tk F' N' hdis ⟨x, t, rfl, hx, rfl⟩
  exact ret x t h' tk (by omega) F' N'
theorem last_item {value slice : PySem.Expr} {l : Addr} {els : List Value} {x : Value} {ep : Nat} {u : Tok} {Q E : Value → Shared → Prop} (N : News h₀ L s.heap news) (hm : (l, W.listOf (els ++ [x]).toArray ep) ∈ news)
    (h : Q x s) (hs : subscripted slice false (.ref l) (.int (-1) u) = operate [.ref l, .int (-1) u] (getItem (.ref l) (.int (-1) u))) (hg : ∀ r, letTemporaryGo value (.ref l) r = pure ()) :
    wpAny (model PG w) A (subscriptTail value slice (.ref l) (.int (-1) u)) Q E s := by
  have hl := News.isList N hm
  refine subscriptTail_builtin hl.typeIs slot_list_getitem.lookup (wpAny_getItem_list_neg hl (by decide) (by simp; omega) (by decide) (x := x) ?_ h) hs hg
  have e : ((-1 : Int) + ((els ++ [x]).toArray.size : Int)).toNat = els.length := by simp; omega
  rw [e]; simp
theorem pop_last {l : Addr} {els : List Value} {x : Value} {ep : Nat} {news' : Led} {Q E : Value → Shared → Prop} (F : Fr h₀ L s.heap m) (N : News h₀ L s.heap news) (U : Upd l (W.listOf (els ++ [x]).toArray ep) (W.listOf els.toArray (ep + 1)) news news') (hz : els.length ≤ 1000)
    (h : ∀ h', Fr h₀ L h' m → News h₀ L h' news' → Q x { s with heap := h' }) : wpAny (model PG w) A (call (.builtin "list.pop") [.ref l]) Q E s := by
  obtain ⟨pre, post, rfl, rfl, a, b⟩ := U.split
  have z := N (l, W.listOf (els ++ [x]).toArray ep) (List.mem_append.mpr (.inr (.head _)))
  have hz' : (els ++ [x]).toArray.size ≤ sizeLine := by rw [sizeLine_eq]; simp; omega
  have hk : (els ++ [x]).toArray.size - 1 = els.length := by rw [List.size_toArray, List.length_append]; rfl
  have hy : (els ++ [x]).toArray[(els ++ [x]).toArray.size - 1]? = some x := by rw [hk]; simp
  refine call_meets PySem.F.slot_list_pop ⟨_, z.1, rfl⟩ PySem.F.entry_list_pop (PySem.F.args_list_pop_1 _) (PySem.MeetsSeq.list_pop_last l _ ep x hy hz') ⟨z.1, h _ (F.change (Heap.SameBut.update ..) z.2.1 z.2.2) (kl_turn _ N a b ?_ ?_)⟩
  · show (els ++ [x]).toArray.eraseIdxIfInBounds ((els ++ [x]).toArray.size - 1) = els.toArray
    rw [hk, kl_erase, List.append_nil]
  · rw [List.size_toArray, List.size_toArray, List.length_append]
    simp

theorem len_l {l : Addr} {els : List Value} {x : Value} {ep : Nat} {Q E : Value → Shared → Prop} {h : Heap} {tk : Nat} (N : News h₀ L h news) (hm : (l, W.listOf (els ++ [x]).toArray ep) ∈ news) (hz : els.length ≤ 1000)
    (H : Q (.int ((els.length : Int) + 1) (tk + 1)) { s with heap := h, toks := tk + 1 + 1 }) : wpAny (model PG w) A (call (.builtin "len") [.ref l]) Q E { s with heap := h, toks := tk } := by
  have e : ((els ++ [x]).toArray.size : Int) = (els.length : Int) + 1 := by simp
  refine PyProof.Rows.len_list (News.isList N hm) (by rw [e]; omega) ?_
  rw [e]; exact H
theorem first_item {value slice : PySem.Expr} {l : Addr} {els : List Value} {x : Value} {ep : Nat} {u : Tok} {Q E : Value → Shared → Prop} (N : News h₀ L s.heap news) (hm : (l, W.listOf (els ++ [x]).toArray ep) ∈ news) (hz : ¬ (1 : Int) < (els.length : Int) + 1)
    (h : Q x s) (hs : subscripted slice false (.ref l) (.int 0 u) = operate [.ref l, .int 0 u] (getItem (.ref l) (.int 0 u))) (hg : ∀ r, letTemporaryGo value (.ref l) r = pure ()) :
    wpAny (model PG w) A (subscriptTail value slice (.ref l) (.int 0 u)) Q E s := by
  have e : els = [] := List.eq_nil_of_length_eq_zero (by omega)
  subst e
  exact PyProof.Rows.item_list (News.isList N hm) (by decide) (by decide) (x := x) rfl h hs hg
noncomputable def WhJ (m : Str → Option Value) (R : Addr) (Wt : Nat) (k : Nat) (m₁ : Str → Option Value) (n : Led) : Prop :=
  (∀ y, y ∉ [Str.ofString "part"] → m₁ y = m y) ∧ ∃ b pre vs ep epR rest, n = tLed R b pre vs ep epR rest ∧ TT R b pre vs ep rest Wt ∧ pre.length = k
theorem tree_while {test : Expr} {body : List Stmt} {pos : Pos} {Wt : Nat} {n : Led} (hW : Wt ≤ 4000) (F : Fr h₀ L s.heap m) (N : News h₀ L s.heap n) (hk : StkOk R Wt n)
    (turn : ∀ (b : Addr) (pre vs : List Value) ep epR rest o h₁ tk₁, TT R b pre vs ep rest Wt → (@Ne Nat b R) → (∀ p ∈ rest, p.1 ≠ R) → (∀ p ∈ rest, p.1 ≠ b) → vs.length ≤ 100 → pre.length ≤ 20 → Fr h₀ L h₁ (fun y => if y = Str.ofString "part" then o else m y) → News h₀ L h₁ ((R, W.listOf (pre ++ [Value.ref b]).toArray epR) :: (b, W.listOf vs.toArray ep) :: rest) →
      wpAny (model PG w) A (isTrue test env (eval test env)) (fun t s₂ => if t = true then wpAny (model PG w) A (execs body env) (WhileStep h₀ L s (WhJ m R Wt) pre.length) E s₂ else Q .next s₂) E { s with heap := h₁, toks := tk₁ })
    (hE : PassesOwn (model PG w) A env E) :
    wpAny (model PG w) A (exec (.While test body [] pos) env) Q E s := by
  obtain ⟨b, pre, vs, ep, epR, rest, rfl, hq⟩ := TT.of hk
  refine While_inv (n₀ := pre.length) (WhJ m R Wt) F N ⟨fun _ _ => rfl, b, pre, vs, ep, epR, rest, rfl, hq, rfl⟩ ?_ hE
  rintro k m₁ news₁ h₁ tk₁ F₁ N₁ ⟨hm, b, pre, vs, ep, epR, rest, rfl, hk, rfl⟩
  have F₂ : Fr h₀ L h₁ (fun y => if y = Str.ofString "part" then m₁ (Str.ofString "part") else m y) := by
    have := ovr_eq hm
    rw [← this] at F₁; exact F₁
  exact turn b pre vs ep epR rest _ h₁ tk₁ hk hk.nb hk.oR hk.ob (hk.vl hW) hk.pl F₂ N₁
end
theorem pop_shape {R b b2 : Addr} {pre vs vs2 : List Value} {ep ep2 : Nat} {rest os Tf : Led} {as : List Addr} {cs : List Tr} {css : List (List Tr)} {Wt : Nat} (h : Stk R b as vs ep os Tf cs css Wt) (h1 : as.reverse.map Value.ref = pre ++ [Value.ref b2]) (h2 : os ++ Tf = (b2, W.listOf vs2.toArray ep2) :: rest) :
    ∃ as2 os2, as = b2 :: as2 ∧ os = (b2, W.listOf vs2.toArray ep2) :: os2 ∧ pre = as2.reverse.map Value.ref ∧ rest = os2 ++ Tf := by
  cases as with
  | nil => simp at h1
  | cons a as2 =>
    rw [List.reverse_cons, List.map_append] at h1
    obtain ⟨e1, e2⟩ := List.append_inj' h1 rfl
    have e3 : a = b2 := by simpa using e2
    subst e3
    have ho := h.opn
    generalize he : a :: as2 = xs at ho
    cases ho with
    | nil => simp at he
    | cons h3 h4 =>
      injection he with he1 he2
      subst he1 he2
      rw [List.cons_append] at h2
      injection h2 with h5 h6
      exact ⟨_, _, rfl, by rw [h5], e1.symm, h6.symm⟩
theorem allLt_append {l : Nat} : ∀ {a b : Led}, AllLt l (a ++ b) ↔ AllLt l a ∧ AllLt l b
  | [], b => by simp [AllLt]
  | p :: r, b => by rw [List.cons_append, AllLt, AllLt, allLt_append, and_assoc]
theorem allLt_ne {own : Led} {l : Addr} (h : AllLt l own) : ∀ q ∈ own, q.1 ≠ l := by
  induction own with
  | nil => intro q hq; cases hq
  | cons p r ih =>
    intro q hq
    rw [AllLt] at h
    rcases List.mem_cons.mp hq with rfl | hq
    · exact Nat.ne_of_lt h.1
    · exact ih h.2 q hq
section
variable {fs : List Addr} {R b b2 L l : Addr} {pre vs vs2 : List Value} {ep epb ep2 epR : Nat} {rest own : Led} {i : Nat} {m m' : Str → Option Value} {g h' : Heap} {tk : Nat} {s₀ : Shared} {Qr : Value → Shared → Prop}
theorem end_any {old n n' : Led} (hd : ∀ q ∈ own, ∀ p ∈ old, q.1 ≠ p.1) (hk : StkOk R (300 * (i + 1) + 300) n') (hs : ∀ p ∈ n', (∃ q ∈ old, q.1 = p.1) ∨ ∀ q ∈ own, q.1 ≠ p.1) (F : Fr g L h' m') (N : News g L h' n) (hN : ∀ p, p ∈ own ++ n' → p ∈ n) (hm : ∀ y, y ∉ treeNames → m' y = m y) :
    OwnStep fs L g own (TreeK g m R (i + 1)) s₀ Qr .next { s₀ with heap := h', toks := tk } :=
  ⟨_, _, _, _, g, rfl, KtsTurn.refl, F, fun p hp => N p (hN p hp), fun q hq p hp e => by
    rcases hs p hp with ⟨u, hu, e2⟩ | h
    · exact hd q hq u hu (e.trans e2.symm)
    · exact h q hq e, hm, rfl, hk⟩
theorem end_leaf {K : Nat} (hW : K = 300 * (i + 1)) (hk : TT R b pre vs ep rest K) (hd : ∀ q ∈ own, ∀ p ∈ tLed R b pre vs ep epR rest, q.1 ≠ p.1)
    {x : List UInt8} {t : Tok} (hx : x.length ≤ 258) (F : Fr g L h' m') {e1 e2 : Nat} (N : News g L h' (own ++ ((R, W.listOf (pre ++ [Value.ref b]).toArray e1) :: (b, W.listOf (vs.toArray.push (.bytes x.toArray t)) e2) :: rest))) (hm : ∀ y, y ∉ treeNames → m' y = m y) :
    OwnStep fs L g own (TreeK g m R (i + 1)) s₀ Qr .next { s₀ with heap := h', toks := tk } := by
  subst hW
  obtain ⟨as, os, Tf, cs, css, rfl, rfl, h⟩ := hk.ex
  refine end_any hd (h.leaf t hx e2 e1) (fun p hp => .inl ?_) F N (fun p hp => hp) hm
  rcases List.mem_cons.mp hp with rfl | hp
  · exact ⟨_, .head _, rfl⟩
  rcases List.mem_cons.mp hp with rfl | hp
  · exact ⟨_, .tail _ (.head _), rfl⟩
  · exact ⟨_, .tail _ (.tail _ hp), rfl⟩
theorem end_fin {K : Nat} (hW : K = 300 * (i + 1)) (hk : TT R b pre vs ep rest K) (hd : ∀ q ∈ own, ∀ p ∈ tLed R b pre vs ep epR rest, q.1 ≠ p.1)
    (l1 : AllLt l own ∧ R < l ∧ b < l ∧ AllLt l rest) (F : Fr g L h' m') {e1 e2 e3 : Nat} (N : News g L h' ((l, W.listOf #[] e3) :: (own ++ ((R, W.listOf (pre ++ [Value.ref b]).toArray e1) :: (b, W.listOf (vs.toArray.push (.ref l)) e2) :: rest)))) (hm : ∀ y, y ∉ treeNames → m' y = m y) :
    OwnStep fs L g own (TreeK g m R (i + 1)) s₀ Qr .next { s₀ with heap := h', toks := tk } := by
  subst hW
  obtain ⟨as, os, Tf, cs, css, rfl, rfl, h⟩ := hk.ex
  refine end_any hd (h.fin l ⟨Nat.ne_of_gt l1.2.1, Nat.ne_of_gt l1.2.2.1, allLt_ne l1.2.2.2⟩ e2 e1 e3) (fun p hp => ?_) F N (fun p hp => ?_) hm
  · rcases List.mem_cons.mp hp with rfl | hp
    · exact .inl ⟨_, .head _, rfl⟩
    rcases List.mem_cons.mp hp with rfl | hp
    · exact .inl ⟨_, .tail _ (.head _), rfl⟩
    rcases List.mem_append.mp hp with hp | hp
    · exact .inl ⟨_, .tail _ (.tail _ (List.mem_append_left _ hp)), rfl⟩
    rcases List.mem_cons.mp hp with rfl | hp
    · exact .inr (allLt_ne l1.1)
    · exact .inl ⟨_, .tail _ (.tail _ (List.mem_append_right _ hp)), rfl⟩
  · simp only [List.mem_append, List.mem_cons] at hp ⊢; grind
theorem end_push {K : Nat} (hW : K = 300 * (i + 1)) (hk : TT R b pre vs ep rest K) (hd : ∀ q ∈ own, ∀ p ∈ tLed R b pre vs ep epR rest, q.1 ≠ p.1)
    (hlen : (pre.length : Int) + 1 < 10) (l1 : AllLt l own ∧ R < l ∧ b < l ∧ AllLt l rest) (F : Fr g L h' m') {e1 e3 : Nat} (N : News g L h' ((l, W.listOf #[] e3) :: (own ++ ((R, W.listOf ((pre ++ [Value.ref b]).toArray.push (.ref l)) e1) :: (b, W.listOf vs.toArray ep) :: rest)))) (hm : ∀ y, y ∉ treeNames → m' y = m y) :
    OwnStep fs L g own (TreeK g m R (i + 1)) s₀ Qr .next { s₀ with heap := h', toks := tk } := by
  subst hW
  obtain ⟨as, os, Tf, cs, css, rfl, rfl, h⟩ := hk.ex
  refine end_any hd (h.push l ⟨Nat.ne_of_gt l1.2.1, Nat.ne_of_gt l1.2.2.1, allLt_ne l1.2.2.2⟩ (by simp at hlen; omega) e1 e3) (fun p hp => ?_) F N (fun p hp => ?_) hm
  · rcases List.mem_cons.mp hp with rfl | hp
    · exact .inl ⟨_, .head _, rfl⟩
    rcases List.mem_cons.mp hp with rfl | hp
    · exact .inr (allLt_ne l1.1)
    · exact .inl ⟨_, .tail _ hp, rfl⟩
  · simp only [List.mem_append, List.mem_cons] at hp ⊢; grind
theorem end_pop {K : Nat} (hW : K = 300 * (i + 1)) (hk : TT R b (pre ++ [Value.ref b2]) vs ep ((b2, W.listOf vs2.toArray ep2) :: rest) K) (hd : ∀ q ∈ own, ∀ p ∈ tLed R b (pre ++ [Value.ref b2]) vs ep epR ((b2, W.listOf vs2.toArray ep2) :: rest), q.1 ≠ p.1)
    (F : Fr g L h' m') {e1 e2 : Nat} (N : News g L h' (own ++ ((R, W.listOf (pre ++ [Value.ref b2]).toArray e1) :: (b, W.listOf vs.toArray ep) :: (b2, W.listOf (vs2.toArray.push (.ref b)) e2) :: rest))) (hm : ∀ y, y ∉ treeNames → m' y = m y) :
    OwnStep fs L g own (TreeK g m R (i + 1)) s₀ Qr .next { s₀ with heap := h', toks := tk } := by
  subst hW
  obtain ⟨as, os, Tf, cs, css, h1, h2, h⟩ := hk.ex
  obtain ⟨as2, os2, rfl, rfl, rfl, rfl⟩ := pop_shape h h1 h2
  refine end_any hd ((h.pop e1 e2).more (by omega)) (fun p hp => .inl ?_) F N (fun p hp => ?_) hm
  · rcases List.mem_cons.mp hp with rfl | hp
    · exact ⟨_, .head _, rfl⟩
    rcases List.mem_cons.mp hp with rfl | hp
    · exact ⟨_, .tail _ (.tail _ (.head _)), rfl⟩
    rcases List.mem_append.mp hp with hp | hp
    · exact ⟨_, .tail _ (.tail _ (.tail _ (List.mem_append_left _ hp))), rfl⟩
    rcases List.mem_cons.mp hp with rfl | hp
    · exact ⟨_, .tail _ (.head _), rfl⟩
    · exact ⟨_, .tail _ (.tail _ (.tail _ (List.mem_append_right _ hp))), rfl⟩
  · simp only [List.mem_append, List.mem_cons] at hp ⊢; grind
theorem end_popW {Wt : Nat} (hk : TT R b (pre ++ [Value.ref b2]) vs ep ((b2, W.listOf vs2.toArray ep2) :: rest) Wt)
    (F : Fr g L h' m') {e1 e2 : Nat} (N : News g L h' ((R, W.listOf (pre ++ [Value.ref b2]).toArray e1) :: (b, W.listOf vs.toArray ep) :: (b2, W.listOf (vs2.toArray.push (.ref b)) e2) :: rest)) (hm : ∀ y, y ∉ [Str.ofString "part"] → m' y = m y) :
    WhileStep g L s₀ (WhJ m R Wt) (pre ++ [Value.ref b2]).length .next { s₀ with heap := h', toks := tk } := by
  obtain ⟨as, os, Tf, cs, css, h1, h2, h⟩ := hk.ex
  obtain ⟨as2, os2, rfl, rfl, rfl, rfl⟩ := pop_shape h h1 h2
  obtain ⟨cs', css', h'⟩ := h.pop' e2
  refine .intro (news₂ := tLed R b2 (as2.reverse.map Value.ref) (vs2 ++ [.ref b]) e2 e1 (os2 ++ ((b, W.listOf vs.toArray ep) :: Tf))) F (fun p hp => N p ?_) (n' := as2.length) (by simp) ⟨hm, b2, _, _, e2, e1, _, rfl, ⟨as2, os2, _, cs', css', rfl, rfl, h'⟩, by simp⟩
  rw [tLed, show (vs2 ++ [Value.ref b]).toArray = vs2.toArray.push (.ref b) from (List.push_toArray ..).symm] at hp
  simp only [List.mem_append, List.mem_cons] at hp ⊢; grind
end


end T_M29
section T_M30
open PySem PySem.W PyProof.Rows PySem.Spec PySem.Calls
set_option maxRecDepth 100000
set_option maxHeartbeats 1000000




theorem apart2_append {a : Addr} : ∀ {l r : Led}, Apart2 (l ++ r) a ↔ Apart2 l a ∧ Apart2 r a
  | [], r => by simp [Apart2]
  | p :: l, r => by rw [List.cons_append, Apart2, Apart2, apart2_append, and_assoc]
theorem apart1_of {rest : Led} {x : Addr × Obj} (h : ∀ p ∈ rest, ∀ q ∈ [x], p.1 ≠ q.1) : Apart2 rest x.1 := apart2_of fun p hp => h p hp x (List.mem_cons_self ..)
theorem own_ne {own n : Led} {d : Addr} {o : Obj} (hd : ∀ q ∈ own, ∀ p ∈ n, q.1 ≠ p.1) (hm : (d, o) ∈ n) : ∀ p ∈ own, p.1 ≠ d := fun p hp => hd p hp _ hm
theorem stk_init {R b : Addr} {e e2 : Nat} (h : @Ne Nat b R) : StkOk R 300 [(R, W.listOf #[Value.ref b] e), (b, W.listOf #[] e2)] :=
  ⟨b, [], [], e2, e, [], [], [], [], rfl, ⟨by rw [TreesL], .nil, by simp [wts, openWt], by simp; exact fun q => h q.symm, by simp⟩⟩
theorem off_ground {g h : Heap} {L l : Addr} {news : Led} {items : Array Value} (N : News g L h news) (hl : g.IsList l items) : ∀ p ∈ news, p.1 ≠ l := fun p hp e => by
  obtain ⟨o, ho, _⟩ := hl
  have := (N p hp).2.2
  rw [e, ho] at this; cases this
theorem pop_t {w : World} {A : Around} {s : Shared} {h₀ : Heap} {L R b : Addr} {m : Str → Option Value} {own rest : Led} {pre vs : List Value} {ep epR K : Nat} {Q E : Value → Shared → Prop} (hk : TT R b pre vs ep rest K) (hW : K ≤ 4000) (hp : (1 : Int) < (pre.length : Int) + 1)
    (hd : ∀ q ∈ own, ∀ p ∈ tLed R b pre vs ep epR rest, q.1 ≠ p.1) (F : Fr h₀ L s.heap m) (N : News h₀ L s.heap (own ++ ((R, W.listOf (pre ++ [Value.ref b]).toArray epR) :: (b, W.listOf vs.toArray ep) :: rest)))
    (h : ∀ (h' : Heap) (b2 : Addr) (pre2 vs2 : List Value) (ep2 : Nat) (rest2 : Led), pre.length = (pre2 ++ [Value.ref b2]).length → TT R b (pre2 ++ [Value.ref b2]) vs ep ((b2, W.listOf vs2.toArray ep2) :: rest2) K → vs2.length ≤ 100 → (@Ne Nat b2 R) → (@Ne Nat b2 b) → (∀ p ∈ rest2, p.1 ≠ b2) →
      (∀ q ∈ own, ∀ p ∈ tLed R b (pre2 ++ [Value.ref b2]) vs ep epR ((b2, W.listOf vs2.toArray ep2) :: rest2), q.1 ≠ p.1) → Fr h₀ L h' m → News h₀ L h' (own ++ ((R, W.listOf (pre2 ++ [Value.ref b2]).toArray (epR + 1)) :: (b, W.listOf vs.toArray ep) :: (b2, W.listOf vs2.toArray ep2) :: rest2)) → Q (.ref b) { s with heap := h' }) :
    wpAny (model PG w) A (call (.builtin "list.pop") [.ref R]) Q E s := by
  obtain ⟨b2, pre2, vs2, ep2, rest2, rfl, rfl, hv2, hp2, n1, n2, o1, o2, o3⟩ := TT.down hk hW hp
  refine pop_last (els := pre2 ++ [Value.ref b2]) (ep := epR) F N (Upd.app (own_ne hd (.head _)) ?_) (by rw [List.length_append]; show pre2.length + 1 ≤ 1000; omega) fun h' F' N' => h h' b2 pre2 vs2 ep2 rest2 rfl hk hv2 n1 n2 o3 hd F' N'
  exact .head (fun p hp => (List.mem_cons.mp hp).elim (fun e => e ▸ hk.nb) (hk.oR p))
local macro_rules | `(tactic| k_all) => `(tactic| assumption)
local macro_rules | `(tactic| k_upd) => `(tactic| (refine' Upd.app ?a ?b; (case a => (refine' own_ne ?hd ?hm; (case hd => assumption); (case hm => k_mem))); (case b => k_upd)))
theorem sizes_bd {k : Int} : 0 ≤ ([53, 54, 55, 56, 57, 58, 255, 256, 257, 258] : List Int).getD k.toNat 0 ∧ ([53, 54, 55, 56, 57, 58, 255, 256, 257, 258] : List Int).getD k.toNat 0 ≤ 258 := by
  generalize k.toNat = n
  rcases n with _ | _ | _ | _ | _ | _ | _ | _ | _ | _ | n <;> simp
noncomputable def AndQ (C : Prop) (s : Shared) (h : Heap) (t : Bool) (s' : Shared) : Prop := (t = true → C) ∧ ∃ tk, s' = { s with heap := h, toks := tk }
theorem AndQ.t {C : Prop} {s : Shared} {h : Heap} {tk : Nat} (c : C) : AndQ C s h true { s with heap := h, toks := tk } := ⟨fun _ => c, _, rfl⟩
theorem AndQ.f {C : Prop} {s : Shared} {h : Heap} {tk : Nat} : AndQ C s h false { s with heap := h, toks := tk } := ⟨(fun e => by cases e), _, rfl⟩
theorem and_seam {M : Model} {A : Around} {E : Value → Shared → Prop} {s : Shared} {h : Heap} {tk0 : Nat} {env : Env} {test : Expr} {whole : Sem Value} {Q : Bool → Shared → Prop} {C : Prop} (h1 : wpAny M A (isTrue test env whole) (AndQ C s h) E { s with heap := h, toks := tk0 })
    (ht : ∀ tk, C → Q true { s with heap := h, toks := tk }) (hf : ∀ tk, Q false { s with heap := h, toks := tk }) : wpAny M A (isTrue test env whole) Q E { s with heap := h, toks := tk0 } :=
  wpAny_mono h1 (fun t s' q => by
    obtain ⟨q, tk, rfl⟩ := q
    cases t with
    | true => exact ht tk (q rfl)
    | false => exact hf tk) fun _ _ e => e
theorem and_lt {M : Model} {A : Around} {E : Value → Shared → Prop} {s : Shared} {h : Heap} {tk0 : Nat} {env : Env} {test : Expr} {whole : Sem Value} {Q : Bool → Shared → Prop} {R b : Addr} {pre vs : List Value} {ep K : Nat} {rest : Led} (_ : TT R b pre vs ep rest K) (h1 : wpAny M A (isTrue test env whole) (AndQ ((pre.length : Int) + 1 < 10) s h) E { s with heap := h, toks := tk0 })
    (ht : ∀ tk, (pre.length : Int) + 1 < 10 → Q true { s with heap := h, toks := tk }) (hf : ∀ tk, Q false { s with heap := h, toks := tk }) : wpAny M A (isTrue test env whole) Q E { s with heap := h, toks := tk0 } := and_seam h1 ht hf
theorem and_gt {M : Model} {A : Around} {E : Value → Shared → Prop} {s : Shared} {h : Heap} {tk0 : Nat} {env : Env} {test : Expr} {whole : Sem Value} {Q : Bool → Shared → Prop} {R b : Addr} {pre vs : List Value} {ep K : Nat} {rest : Led} (_ : TT R b pre vs ep rest K) (h1 : wpAny M A (isTrue test env whole) (AndQ (1 < (pre.length : Int) + 1) s h) E { s with heap := h, toks := tk0 })
    (ht : ∀ tk, 1 < (pre.length : Int) + 1 → Q true { s with heap := h, toks := tk }) (hf : ∀ tk, Q false { s with heap := h, toks := tk }) : wpAny M A (isTrue test env whole) Q E { s with heap := h, toks := tk0 } := and_seam h1 ht hf
theorem rep_len (n : Nat) (a : UInt8) : (List.replicate n [a]).flatten.length = n := by simp
theorem put_off {ys : List Str} {m m0 : Str → Option Value} {x y : Str} {v : Value} (hy : y ∉ ys) (hx : x ∈ ys) (h : m y = m0 y) : put m x v y = m0 y := by
  unfold put; rw [if_neg (fun e : y = x => hy (by rw [e]; exact hx))]; exact h
theorem nm4_off {z : Int} {tz : Tok} {o1 o2 o3 o4 : Option Value} {m : Str → Option Value} {y : Str} (hy : y ∉ treeNames) : nm4 z tz o1 o2 o3 o4 m y = m y := by
  simp only [treeNames, List.mem_cons, List.not_mem_nil, or_false, not_or] at hy; simp only [nm4, hy, if_false]
theorem kr_off {z : Int} {tz : Tok} {o1 o2 o3 o4 : Option Value} {m : Str → Option Value} {v v2 : Value} : ∀ y, y ∉ treeNames → put (put (nm4 z tz o1 o2 o3 o4 m) (Str.ofString "kind") v) (Str.ofString "rest") v2 y = m y :=
  fun _ hy => put_off hy (.tail _ (.tail _ (.head _))) (put_off hy (.tail _ (.head _)) (nm4_off hy))
theorem part_off {o : Option Value} {m : Str → Option Value} {y : Str} (hy : y ∉ [Str.ofString "part"]) : (if y = Str.ofString "part" then o else m y) = m y := if_neg fun e => hy (by rw [e]; exact .head _)
theorem len_mul {k : Int} {a : UInt8} (h : k ≤ 258) : (List.replicate k.toNat [a]).flatten.length ≤ 258 := by rw [rep_len]; exact Int.toNat_le.mpr h
theorem fm70 (a : Int) : a.fmod 70 ≤ 258 := by rw [fmN _ (by decide)]; omega
set_option maxHeartbeats 40000000 in
theorem sp223 {w : World} {mean : ExcName → Option Value} {mg mb : Str → Option Value} (l : Addr) (ws : List Value) (zs : List Int) (hi : IntsAre ws zs) (hz : zs.length ≤ 12) :
  Spec w mean mg mb 223 8 ⟨[.ref l], []⟩ false (fun G => G.IsList l ws.toArray) [] (fun r own' => ∃ cs, TreeL own' (.node cs) r ∧ wts cs ≤ 3900) (fun _ _ _ => False) := by
  intro dp un gd base' outer g s R S hg hsz ho hgl hd1 hu1 hret hexc
  have hgl : g.IsList l ws.toArray := hgl
  first | refine enterP S hg hsz ho (by k_is) (by k_is) (room_0 hd1) (BindsTo.of_eq rfl) rfl ?_ rfl rfl rfl (by decide) | refine enter S hg hsz ho (by k_is) (by k_is) (room_0 hd1) (BindsTo.of_eq rfl) (locs rfl) ?_ rfl rfl rfl (by decide)
  intro L' h₁ tk₁ hst hL F N B XX T' M₁ en₁ A₁
  (try dsimp only)
  k_fold
  repeat' (first | (k_unfold; (try dsimp only)) | (k_end; wrow_close) | ((with_reducible show wpAny _ _ (exec (Stmt.For (Expr.Name _ _) (Expr.Name _ _) _ _ _) _) _ _ _); with_reducible (k_here; k_dflt (refine' For_S ?zzS ?zzhx ?zzhp ?_ ?zzhs ?zzhE; (case zzS => assumption); (case zzhx => exact rfl); (case zzhp => exact rfl); (case zzhs => (intro _; with_unfolding_all rfl)); (case zzhE => first | passes_own | with_unfolding_all passes_own)))) | ((with_reducible show wpAny _ _ (exec (Stmt.While _ _ _ _) _) _ _ _); with_reducible (k_here; k_dflt (refine' tree_while (Wt := 3900) ?zzhW ?zzF ?zzN ?zzhk ?_ ?zzE; (case zzhW => decide); (case zzhk => assumption); (case zzF => k_asm); (case zzN => k_asm); (case zzE => first | passes_own | with_unfolding_all passes_own)); (intro b' pre' vs' ep' epR' rest' o' h' tk' hk' hn1' ht1' ht2' hv' hpl' F' N'))) | ((with_reducible show wpAny _ _ (call (Value.builtin _) _) _ _ _); with_reducible (k_here; (with_reducible show wpAny _ _ (call (Value.builtin _) [Value.ref _, _]) _ _ _); k_dflt (refine' append_K ?zzk1 ?zzk2 ?zzk3 ?_ ?zzz; (case zzk1 => k_asm); (case zzk2 => k_asm); (case zzk3 => k_upd); (case zzz => (simp only [sizeLine_eq, List.size_toArray, List.length_append, List.length_cons, List.length_nil]; omega)); k_whole); intro h' F' N'; (try k_sweep))) | ((with_reducible show wpAny _ _ (binaryOp Operator.Mult (Value.bytes _ _) (Value.int _ _)) _ _ _); with_reducible (k_here; (with_reducible show wpAny _ _ (binaryOp Operator.Mult (Value.bytes (List.toArray _) _) (Value.int _ _)) _ _ _); k_dflt (refine' bytes_mul_any ?zzb ?zzh1 ?zzhn ?zzhs ?_; (case zzb => exact List.cons_ne_nil _ _); (case zzh1 => first | (refine Int.le_trans (by decide) (sizes_bd).1) | (simp only [fmN _ (show (0 : Int) ≤ 70 by decide)]; omega) | omega); (case zzhn => first | (refine Int.le_trans (sizes_bd).2 (by decide)) | (simp only [fmN _ (show (0 : Int) ≤ 70 by decide)]; omega) | omega); (case zzhs => (simp only [List.length_cons, List.length_nil]; omega)); k_whole; intro _ _))) | ((with_reducible show wpAny _ _ (call (Value.builtin _) _) _ _ _); with_reducible (k_here; (try dsimp only); (with_reducible show wpAny _ _ (call (Value.builtin _) [Value.ref _]) _ _ _); k_dflt (first | (refine' pop_t ?zzhk ?zzhW ?zzhp ?zzhd ?zzF ?zzN ?_; (case zzhk => assumption); (case zzhW => omega); (case zzhp => assumption); (case zzhd => assumption); (case zzF => k_asm); (case zzN => k_asm); k_whole) | (refine' pop_t (own := []) ?zzhk ?zzhW ?zzhp ?zzhd ?zzF ?zzN ?_; (case zzhk => assumption); (case zzhW => decide); (case zzhp => assumption); (case zzhd => exact fun q hq => nomatch hq); (case zzF => k_asm); (case zzN => k_asm); k_whole)); intro h' b2' pre2' vs2' ep2' rest2' hpe' hk' hv2' hn2' hn3' ht3' hd' F' N'; (try k_sweep))) | ((with_reducible show wpAny _ _ (eval (Expr.Constant (Const.int _) _ _) _) _ _ _); with_reducible refine const_i ?_) | ((with_reducible show wpAny _ _ (call (Value.builtin _) _) _ _ _); with_reducible (k_here; (with_reducible show wpAny _ _ (call (Value.builtin "len") [Value.ref _]) _ _ _); k_dflt (refine' len_l ?zzkN ?zzkM ?zzkz ?_; (case zzkN => k_asm); (case zzkM => k_mem); (case zzkz => omega); k_whole))) | ((with_reducible show wpAny _ _ (call (Value.type _) _) _ _ _); with_reducible (k_here; (with_reducible show wpAny _ _ (call (Value.type _) [Value.ref _]) _ _ _); k_dflt (refine' bytes_K ?zzF ?zzN ?zzl ?zzi ?zzr ?zzz ?zzh ?_; (case zzF => k_asm); (case zzN => k_asm); (case zzl => is_list); (case zzi => first | l_ints | l_intsW); (case zzr => (simp only [List.forall_mem_cons, List.not_mem_nil, false_implies, implies_true, and_true, fmN _ (show (0 : Int) ≤ 256 by decide), fmN _ (show (0 : Int) ≤ 192 by decide)] <;> first | exact ⟨Int.emod_nonneg _ (by decide), Int.lt_of_lt_of_le (Int.emod_lt_of_pos _ (by decide)) (by decide)⟩ | omega)); (case zzz => first | size_fits | (simp only [sizeLine_eq, List.length_cons, List.length_nil]; decide)); (case zzh => with_unfolding_all rfl); k_whole); intro h' t' k' F' N' hB'; (try dsimp only [List.map]); (try k_sweep))) | ((with_reducible show wpAny _ _ (isTrue (Expr.BoolOp _ _ _) _ _) _ _ _); with_reducible (k_here; (fail_if_success (with_reducible show wpAny _ _ (isTrue _ _ _) (AndQ _ _ _) _ _)); (with_reducible rename TT _ _ _ _ _ _ _ => hk9); first | ((with_reducible show wpAny _ _ (isTrue (Expr.BoolOp _ [_, Expr.Compare _ [CmpOp.Lt] _ _] _) _ _) _ _ _); refine and_lt hk9 ?_ (fun tk' hc' => ?_) (fun tk' => ?_)) | refine and_gt hk9 ?_ (fun tk' hc' => ?_) (fun tk' => ?_))) | ((with_reducible show wpAny _ _ (subscriptTail _ _ _ _) _ _ _); with_reducible (k_here; (with_reducible show wpAny _ _ (subscriptTail _ _ (Value.ref _) (Value.int 0 _)) _ _ _); k_dflt (refine' first_item ?zzN ?zzm ?zzz ?_ ?zzhs ?zzhg; (case zzN => k_asm); (case zzm => k_mem); (case zzz => assumption); (case zzhs => with_unfolding_all rfl); (case zzhg => (intro _; with_unfolding_all rfl)); k_whole))) | ((with_reducible show wpAny _ _ (subscriptTail _ _ _ _) _ _ _); with_reducible (k_here; (with_reducible show wpAny _ _ (subscriptTail _ _ (Value.ref _) (Value.int (-1) _)) _ _ _); k_dflt (refine' last_item ?zzN ?zzm ?_ ?zzhs ?zzhg; (case zzN => k_asm); (case zzm => k_mem); (case zzhs => with_unfolding_all rfl); (case zzhg => (intro _; with_unfolding_all rfl)); k_whole))) | ((with_reducible show wpAny _ _ (execs (_ :: _) _) _ _ _); with_reducible (refine wpAny_execs_cons ?_; (try k_fold))) | ((with_reducible show wpAny _ _ (pyIter (Value.ref _)) _ _ _); with_reducible (k_here; k_dflt (refine' tree_iter ?zzS ?zzhh ?zzhl ?zzhi ?zzhz ?zzF ?zzN ?zzhn ?zzt1 ?zzdn ?zzhln; (case zzS => assumption); (case zzhh => exact rfl); (case zzhi => assumption); (case zzhl => assumption); (case zzhz => assumption); (case zzF => k_asm); (case zzN => k_asm); (case zzhn => exact stk_init (by omega)); (case zzhln => exact off_ground (by k_asm) (by assumption))); (intro i' z' tz' b' pre' vs' ep' epR' rest' o1' o2' o3' o4' h' tk' own' hi' hk' hn1' ht1' ht2' hv' hpl' hd' F' N'); rotate_left; (intro h' tk' o1' o2' o3' o4' n' hk' F' N'); rotate_left)) | ((with_reducible show wpAny _ _ (storeName _ _ _) _ _ _); with_reducible (k_here; k_dflt (refine' storeP ?zzF ?zzN ?_ ?zza ?zzb; (case zzF => k_asm); (case zzN => k_asm); (case zza => rfl); (case zzb => rfl); k_whole; intro h' tk' F' N'; (try k_sweep)))) | ((with_reducible show wpAny _ _ (call (Value.ref _) _) _ _ _); with_reducible (k_here; (with_reducible show wpAny _ _ (call (Value.ref 209) _) _ _ _); k_dflt (refine' call0 sp209 ?zzS ?zzF ?zzN ?zzkK ?zzkA ?zzpre ?zzhd ?zzhu ?_; (case zzkA => exact rfl); (case zzS => assumption); (case zzF => k_asm); (case zzN => k_asm); (case zzkK => exact rfl); (case zzpre => exact fun _ _ _ => trivial); (case zzhd => first | (refine' room_d ?zzza ?zzzb; (case zzza => assumption); (case zzzb => first | decide | (refine Nat.succ_le_succ (Nat.le_trans ?_ (by assumption)); decide))) | (dsimp only [top]; omega)); (case zzhu => first | (refine' room_u ?zzza ?zzzb; (case zzza => assumption); (case zzzb => first | decide | (refine Nat.succ_le_succ (Nat.le_trans ?_ (by assumption)); decide))) | (dsimp only [top]; omega))); intro r' own' h' tk' F' N' hdis' hr'; obtain ⟨l', ep', t0', t1', t2', t3', t4', t5', t6', t7', t8', t9', hr1, hr2⟩ := hr'; subst hr1; subst hr2; (try simp only [List.cons_append, List.nil_append] at N'); (replace hdis' := apart1_of hdis'); (simp only [Apart2, apart2_append, and_true] at hdis'))) | ((with_reducible show wpAny _ _ (call (Value.ref _) _) _ _ _); with_reducible (k_here; (with_reducible show wpAny _ _ (call (Value.ref 216) _) _ _ _); k_dflt (refine' oct_call ?zzS ?zzF ?zzN ?zzh0 ?zzh1 ?zzkK ?zzkA ?zzhd ?zzhu ?_; (case zzkA => exact rfl); (case zzS => assumption); (case zzF => k_asm); (case zzN => k_asm); (case zzkK => exact rfl); (case zzh0 => (simp only [fmN _ (show (0 : Int) ≤ 13 by decide)]; omega)); (case zzh1 => (simp only [fmN _ (show (0 : Int) ≤ 13 by decide)]; omega)); (case zzhd => first | (refine' room_d ?zzza ?zzzb; (case zzza => assumption); (case zzzb => first | decide | (refine Nat.succ_le_succ (Nat.le_trans ?_ (by assumption)); decide))) | (dsimp only [top]; omega)); (case zzhu => first | (refine' room_u ?zzza ?zzzb; (case zzza => assumption); (case zzzb => first | decide | (refine Nat.succ_le_succ (Nat.le_trans ?_ (by assumption)); decide))) | (dsimp only [top]; omega))); intro x' t' h' tk' hx' F' N')) | ((with_reducible show wpAny _ _ (newList _) _ _ _); with_reducible (k_here; k_dflt (refine' newList_K ?zzk1 ?zzk2 ?_; (case zzk1 => k_asm); (case zzk2 => k_asm); k_whole); intro l' h' F' N' l1; (replace l1 := allLt_of l1); (simp only [AllLt, allLt_append, and_true] at l1); (try k_sweep))) | walk1 | (dsimp only; first | ((with_reducible show wpAny _ _ (exec (Stmt.For (Expr.Name _ _) (Expr.Name _ _) _ _ _) _) _ _ _); with_reducible (k_here; k_dflt (refine' For_S ?zzS ?zzhx ?zzhp ?_ ?zzhs ?zzhE; (case zzS => assumption); (case zzhx => exact rfl); (case zzhp => exact rfl); (case zzhs => (intro _; with_unfolding_all rfl)); (case zzhE => first | passes_own | with_unfolding_all passes_own)))) | ((with_reducible show wpAny _ _ (exec (Stmt.While _ _ _ _) _) _ _ _); with_reducible (k_here; k_dflt (refine' tree_while (Wt := 3900) ?zzhW ?zzF ?zzN ?zzhk ?_ ?zzE; (case zzhW => decide); (case zzhk => assumption); (case zzF => k_asm); (case zzN => k_asm); (case zzE => first | passes_own | with_unfolding_all passes_own)); (intro b' pre' vs' ep' epR' rest' o' h' tk' hk' hn1' ht1' ht2' hv' hpl' F' N'))) | ((with_reducible show wpAny _ _ (call (Value.builtin _) _) _ _ _); with_reducible (k_here; (with_reducible show wpAny _ _ (call (Value.builtin _) [Value.ref _, _]) _ _ _); k_dflt (refine' append_K ?zzk1 ?zzk2 ?zzk3 ?_ ?zzz; (case zzk1 => k_asm); (case zzk2 => k_asm); (case zzk3 => k_upd); (case zzz => (simp only [sizeLine_eq, List.size_toArray, List.length_append, List.length_cons, List.length_nil]; omega)); k_whole); intro h' F' N'; (try k_sweep))) | ((with_reducible show wpAny _ _ (binaryOp Operator.Mult (Value.bytes _ _) (Value.int _ _)) _ _ _); with_reducible (k_here; (with_reducible show wpAny _ _ (binaryOp Operator.Mult (Value.bytes (List.toArray _) _) (Value.int _ _)) _ _ _); k_dflt (refine' bytes_mul_any ?zzb ?zzh1 ?zzhn ?zzhs ?_; (case zzb => exact List.cons_ne_nil _ _); (case zzh1 => first | (refine Int.le_trans (by decide) (sizes_bd).1) | (simp only [fmN _ (show (0 : Int) ≤ 70 by decide)]; omega) | omega); (case zzhn => first | (refine Int.le_trans (sizes_bd).2 (by decide)) | (simp only [fmN _ (show (0 : Int) ≤ 70 by decide)]; omega) | omega); (case zzhs => (simp only [List.length_cons, List.length_nil]; omega)); k_whole; intro _ _))) | ((with_reducible show wpAny _ _ (call (Value.builtin _) _) _ _ _); with_reducible (k_here; (try dsimp only); (with_reducible show wpAny _ _ (call (Value.builtin _) [Value.ref _]) _ _ _); k_dflt (first | (refine' pop_t ?zzhk ?zzhW ?zzhp ?zzhd ?zzF ?zzN ?_; (case zzhk => assumption); (case zzhW => omega); (case zzhp => assumption); (case zzhd => assumption); (case zzF => k_asm); (case zzN => k_asm); k_whole) | (refine' pop_t (own := []) ?zzhk ?zzhW ?zzhp ?zzhd ?zzF ?zzN ?_; (case zzhk => assumption); (case zzhW => decide); (case zzhp => assumption); (case zzhd => exact fun q hq => nomatch hq); (case zzF => k_asm); (case zzN => k_asm); k_whole)); intro h' b2' pre2' vs2' ep2' rest2' hpe' hk' hv2' hn2' hn3' ht3' hd' F' N'; (try k_sweep))) | ((with_reducible show wpAny _ _ (eval (Expr.Constant (Const.int _) _ _) _) _ _ _); with_reducible refine const_i ?_) | ((with_reducible show wpAny _ _ (call (Value.builtin _) _) _ _ _); with_reducible (k_here; (with_reducible show wpAny _ _ (call (Value.builtin "len") [Value.ref _]) _ _ _); k_dflt (refine' len_l ?zzkN ?zzkM ?zzkz ?_; (case zzkN => k_asm); (case zzkM => k_mem); (case zzkz => omega); k_whole))) | ((with_reducible show wpAny _ _ (call (Value.type _) _) _ _ _); with_reducible (k_here; (with_reducible show wpAny _ _ (call (Value.type _) [Value.ref _]) _ _ _); k_dflt (refine' bytes_K ?zzF ?zzN ?zzl ?zzi ?zzr ?zzz ?zzh ?_; (case zzF => k_asm); (case zzN => k_asm); (case zzl => is_list); (case zzi => first | l_ints | l_intsW); (case zzr => (simp only [List.forall_mem_cons, List.not_mem_nil, false_implies, implies_true, and_true, fmN _ (show (0 : Int) ≤ 256 by decide), fmN _ (show (0 : Int) ≤ 192 by decide)] <;> first | exact ⟨Int.emod_nonneg _ (by decide), Int.lt_of_lt_of_le (Int.emod_lt_of_pos _ (by decide)) (by decide)⟩ | omega)); (case zzz => first | size_fits | (simp only [sizeLine_eq, List.length_cons, List.length_nil]; decide)); (case zzh => with_unfolding_all rfl); k_whole); intro h' t' k' F' N' hB'; (try dsimp only [List.map]); (try k_sweep))) | ((with_reducible show wpAny _ _ (isTrue (Expr.BoolOp _ _ _) _ _) _ _ _); with_reducible (k_here; (fail_if_success (with_reducible show wpAny _ _ (isTrue _ _ _) (AndQ _ _ _) _ _)); (with_reducible rename TT _ _ _ _ _ _ _ => hk9); first | ((with_reducible show wpAny _ _ (isTrue (Expr.BoolOp _ [_, Expr.Compare _ [CmpOp.Lt] _ _] _) _ _) _ _ _); refine and_lt hk9 ?_ (fun tk' hc' => ?_) (fun tk' => ?_)) | refine and_gt hk9 ?_ (fun tk' hc' => ?_) (fun tk' => ?_))) | ((with_reducible show wpAny _ _ (subscriptTail _ _ _ _) _ _ _); with_reducible (k_here; (with_reducible show wpAny _ _ (subscriptTail _ _ (Value.ref _) (Value.int 0 _)) _ _ _); k_dflt (refine' first_item ?zzN ?zzm ?zzz ?_ ?zzhs ?zzhg; (case zzN => k_asm); (case zzm => k_mem); (case zzz => assumption); (case zzhs => with_unfolding_all rfl); (case zzhg => (intro _; with_unfolding_all rfl)); k_whole))) | ((with_reducible show wpAny _ _ (subscriptTail _ _ _ _) _ _ _); with_reducible (k_here; (with_reducible show wpAny _ _ (subscriptTail _ _ (Value.ref _) (Value.int (-1) _)) _ _ _); k_dflt (refine' last_item ?zzN ?zzm ?_ ?zzhs ?zzhg; (case zzN => k_asm); (case zzm => k_mem); (case zzhs => with_unfolding_all rfl); (case zzhg => (intro _; with_unfolding_all rfl)); k_whole))) | ((with_reducible show wpAny _ _ (execs (_ :: _) _) _ _ _); with_reducible (refine wpAny_execs_cons ?_; (try k_fold))) | ((with_reducible show wpAny _ _ (pyIter (Value.ref _)) _ _ _); with_reducible (k_here; k_dflt (refine' tree_iter ?zzS ?zzhh ?zzhl ?zzhi ?zzhz ?zzF ?zzN ?zzhn ?zzt1 ?zzdn ?zzhln; (case zzS => assumption); (case zzhh => exact rfl); (case zzhi => assumption); (case zzhl => assumption); (case zzhz => assumption); (case zzF => k_asm); (case zzN => k_asm); (case zzhn => exact stk_init (by omega)); (case zzhln => exact off_ground (by k_asm) (by assumption))); (intro i' z' tz' b' pre' vs' ep' epR' rest' o1' o2' o3' o4' h' tk' own' hi' hk' hn1' ht1' ht2' hv' hpl' hd' F' N'); rotate_left; (intro h' tk' o1' o2' o3' o4' n' hk' F' N'); rotate_left)) | ((with_reducible show wpAny _ _ (storeName _ _ _) _ _ _); with_reducible (k_here; k_dflt (refine' storeP ?zzF ?zzN ?_ ?zza ?zzb; (case zzF => k_asm); (case zzN => k_asm); (case zza => rfl); (case zzb => rfl); k_whole; intro h' tk' F' N'; (try k_sweep)))) | ((with_reducible show wpAny _ _ (call (Value.ref _) _) _ _ _); with_reducible (k_here; (with_reducible show wpAny _ _ (call (Value.ref 209) _) _ _ _); k_dflt (refine' call0 sp209 ?zzS ?zzF ?zzN ?zzkK ?zzkA ?zzpre ?zzhd ?zzhu ?_; (case zzkA => exact rfl); (case zzS => assumption); (case zzF => k_asm); (case zzN => k_asm); (case zzkK => exact rfl); (case zzpre => exact fun _ _ _ => trivial); (case zzhd => first | (refine' room_d ?zzza ?zzzb; (case zzza => assumption); (case zzzb => first | decide | (refine Nat.succ_le_succ (Nat.le_trans ?_ (by assumption)); decide))) | (dsimp only [top]; omega)); (case zzhu => first | (refine' room_u ?zzza ?zzzb; (case zzza => assumption); (case zzzb => first | decide | (refine Nat.succ_le_succ (Nat.le_trans ?_ (by assumption)); decide))) | (dsimp only [top]; omega))); intro r' own' h' tk' F' N' hdis' hr'; obtain ⟨l', ep', t0', t1', t2', t3', t4', t5', t6', t7', t8', t9', hr1, hr2⟩ := hr'; subst hr1; subst hr2; (try simp only [List.cons_append, List.nil_append] at N'); (replace hdis' := apart1_of hdis'); (simp only [Apart2, apart2_append, and_true] at hdis'))) | ((with_reducible show wpAny _ _ (call (Value.ref _) _) _ _ _); with_reducible (k_here; (with_reducible show wpAny _ _ (call (Value.ref 216) _) _ _ _); k_dflt (refine' oct_call ?zzS ?zzF ?zzN ?zzh0 ?zzh1 ?zzkK ?zzkA ?zzhd ?zzhu ?_; (case zzkA => exact rfl); (case zzS => assumption); (case zzF => k_asm); (case zzN => k_asm); (case zzkK => exact rfl); (case zzh0 => (simp only [fmN _ (show (0 : Int) ≤ 13 by decide)]; omega)); (case zzh1 => (simp only [fmN _ (show (0 : Int) ≤ 13 by decide)]; omega)); (case zzhd => first | (refine' room_d ?zzza ?zzzb; (case zzza => assumption); (case zzzb => first | decide | (refine Nat.succ_le_succ (Nat.le_trans ?_ (by assumption)); decide))) | (dsimp only [top]; omega)); (case zzhu => first | (refine' room_u ?zzza ?zzzb; (case zzza => assumption); (case zzzb => first | decide | (refine Nat.succ_le_succ (Nat.le_trans ?_ (by assumption)); decide))) | (dsimp only [top]; omega))); intro x' t' h' tk' hx' F' N')) | ((with_reducible show wpAny _ _ (newList _) _ _ _); with_reducible (k_here; k_dflt (refine' newList_K ?zzk1 ?zzk2 ?_; (case zzk1 => k_asm); (case zzk2 => k_asm); k_whole); intro l' h' F' N' l1; (replace l1 := allLt_of l1); (simp only [AllLt, allLt_append, and_true] at l1); (try k_sweep))) | walk1) | (leave1; (try dsimp only)) | fail "no step")
  all_goals (try k_data)
  all_goals (try exact AndQ.f)
  all_goals (try exact AndQ.t (by assumption))
  all_goals (
    rename TT _ _ _ _ _ _ _ => hk9
    rename Fr _ _ _ _ => F9
    rename News _ _ _ _ => N9
    first
      | (show R (.ok (.ret _)) _; exact hret _ g _ _ _ rfl F9.keep (News.owns (News.tail1 N9)) (TT.bot hk9 (by assumption)))
      | (rename _ = List.length _ => hp9; rw [hp9]; exact end_popW hk9 F9 N9 fun y hy => put_off hy (.head _) (part_off hy))
      | (rename ∀ q ∈ _, ∀ p ∈ _, Prod.fst q ≠ Prod.fst p => hd9
         first
          | (refine end_leaf rfl hk9 hd9 ?_ F9 (by first | exact N9 | exact News.tail1 N9 | exact News.tail1 (News.tail1 N9)) kr_off; first | decide | omega | exact len_mul (fm70 _) | exact len_mul sizes_bd.2 | (simp; done))
          | exact end_fin rfl hk9 hd9 (by assumption) F9 N9 kr_off
          | exact end_push rfl hk9 hd9 (by assumption) (by assumption) F9 N9 kr_off
          | exact end_pop rfl hk9 hd9 F9 N9 fun y hy => put_off hy (.tail _ (.tail _ (.tail _ (.head _)))) (kr_off y hy)))


end T_M30
section T_M31
open PySem PySem.W PyProof.Rows PySem.Spec PySem.Calls
set_option maxRecDepth 100000
set_option maxHeartbeats 1000000




/-! the altered bytes: what is read of them stands as before -/
noncomputable def prune : Tr → List Int → PT
  | t, [] => full t
  | .leaf b, _ :: _ => .leaf b
  | .node cs, z :: zs => match cs[z.toNat]? with
    | none => full (.node cs)
    | some c => .node (fulls (cs.take z.toNat) ++ [prune c zs]) (encs (cs.drop (z.toNat + 1))).length
noncomputable def endF : Tr → List Int → Nat
  | t, [] => (enc t).length
  | .leaf b, _ :: _ => (enc (.leaf b)).length
  | .node cs, z :: zs => match cs[z.toNat]? with
    | none => (enc (.node cs)).length
    | some c => (headF 192 (encs cs).length).length + (encs (cs.take z.toNat)).length + endF c zs
theorem lens_append : ∀ (a b : List PT), lens (a ++ b) = lens a + lens b
  | [], b => by simp [lens]
  | c :: r, b => by rw [List.cons_append, lens, lens, lens_append r b]; omega
theorem encs_three {cs : List Tr} {j : Nat} {c : Tr} (h : cs[j]? = some c) : encs cs = encs (cs.take j) ++ (enc c ++ encs (cs.drop (j + 1))) := by
  obtain ⟨hj, e⟩ := List.getElem?_eq_some_iff.mp h
  rw [encs_split cs j, encs_drop cs hj, e]
theorem prune_len : ∀ (zs : List Int) (t : Tr), (prune t zs).len = (enc t).length
  | [], t => by rw [prune, full_len]
  | z :: zs, .leaf b => by rw [prune, PT.len]
  | z :: zs, .node cs => by
    rw [prune]
    cases hc : cs[z.toNat]? with
    | none => simp only []; rw [full_len]
    | some c =>
      simp only []
      rw [PT.len, lens_append, lens, lens, fulls_len, prune_len zs c]
      have e := congrArg List.length (encs_three hc)
      simp only [List.length_append] at e
      rw [enc, List.length_append]
      have e2 : (encs (cs.take z.toNat)).length + ((enc c).length + 0) + (encs (cs.drop (z.toNat + 1))).length = (encs cs).length := by omega
      rw [e2]
theorem endF_le : ∀ (zs : List Int) (t : Tr), endF t zs ≤ (enc t).length
  | [], t => by rw [endF]; exact Nat.le_refl _
  | z :: zs, .leaf b => by rw [endF]; exact Nat.le_refl _
  | z :: zs, .node cs => by
    rw [endF]
    cases hc : cs[z.toNat]? with
    | none => exact Nat.le_refl _
    | some c =>
      simp only []
      have e := congrArg List.length (encs_three hc)
      simp only [List.length_append] at e
      have := endF_le zs c
      rw [enc, List.length_append]
      omega
theorem fitsL_append {X : List UInt8} : ∀ (a b : List PT) (i : Nat), FitsL X i a → FitsL X (i + lens a) b → FitsL X i (a ++ b)
  | [], b, i, _, h => by simpa [lens] using h
  | c :: r, b, i, h, k => by
    rw [FitsL] at h
    rw [List.cons_append, FitsL]
    refine ⟨h.1, fitsL_append r b _ h.2 ?_⟩
    rw [lens] at k
    rw [Nat.add_assoc]; exact k
/-- the altered bytes fit -/
theorem fits_prune {X : List UInt8} : ∀ (zs : List Int) (t : Tr) (i : Nat) (post : List UInt8), X.drop i = (enc t).take (endF t zs) ++ post → i + (enc t).length ≤ X.length → Fits X i (prune t zs)
  | [], t, i, post, h, hl => by
    rw [endF, List.take_length] at h
    rw [prune]; exact fits_full t i post h
  | z :: zs, .leaf b, i, post, h, hl => by
    rw [endF, List.take_length] at h
    rw [prune]; exact fits_full (.leaf b) i post h
  | z :: zs, .node cs, i, post, h, hl => by
    rw [endF] at h
    rw [prune]
    cases hc : cs[z.toNat]? with
    | none =>
      rw [hc] at h
      simp only [List.take_length] at h ⊢
      exact fits_full (.node cs) i post h
    | some c =>
      rw [hc] at h
      simp only [] at h ⊢
      have e := encs_three hc
      have el := congrArg List.length e
      simp only [List.length_append] at el
      have hE := endF_le zs c
      have e2 : (encs (cs.take z.toNat)).length + ((enc c).length + 0) + (encs (cs.drop (z.toNat + 1))).length = (encs cs).length := by omega
      have h2 : X.drop i = headF 192 (encs cs).length ++ (encs (cs.take z.toNat) ++ ((enc c).take (endF c zs) ++ post)) := by
        rw [h, enc]
        have e3 : headF 192 (encs cs).length ++ encs cs = (headF 192 (encs cs).length ++ encs (cs.take z.toNat)) ++ (enc c ++ encs (cs.drop (z.toNat + 1))) := by
          rw [List.append_assoc]
          exact congrArg (headF 192 (encs cs).length ++ ·) e
        rw [e3]
        have e4 : (headF 192 (encs cs).length).length + (encs (cs.take z.toNat)).length + endF c zs = (headF 192 (encs cs).length ++ encs (cs.take z.toNat)).length + endF c zs := by rw [List.length_append]
        rw [e4, List.take_length_add_append, List.take_append_of_le_length hE]
        simp only [List.append_assoc]
      rw [enc, List.length_append] at hl
      rw [Fits, lens_append, lens, lens, fulls_len, prune_len, e2]
      refine ⟨⟨_, h2⟩, hl, ?_⟩
      have h3 := drop_of_drop h2
      have h4 := drop_of_drop h3
      refine fitsL_append _ _ _ (fitsL_full _ _ _ h3) ?_
      rw [fulls_len, FitsL, FitsL]
      refine ⟨fits_prune zs c _ _ h4 (by omega), trivial⟩


end T_M31
section T_M32
open PySem PySem.W PyProof.Rows PySem.Spec PySem.Calls
set_option maxRecDepth 100000
set_option maxHeartbeats 1000000




noncomputable def ptGet : PT → List Int → Option PT
  | t, [] => some t
  | .leaf _, _ :: _ => none
  | .node cs _, z :: zs => (cs[z.toNat]?).bind fun c => ptGet c zs
noncomputable def PtOk : PT → List Int → Prop
  | _, [] => True
  | .leaf _, _ :: _ => True
  | .node cs rem, z :: zs => (rem = 0 ∨ z.toNat < cs.length) ∧ ∀ c, cs[z.toNat]? = some c → PtOk c zs
theorem ptGet_append (xs ys : List Int) : ∀ t : PT, ptGet t (xs ++ ys) = (ptGet t xs).bind fun c => ptGet c ys := by
  induction xs with
  | nil => intro t; simp [ptGet]
  | cons z zs ih =>
    intro t
    cases t with
    | leaf b => simp [ptGet]
    | node cs rem =>
      rw [List.cons_append, ptGet, ptGet]
      cases cs[z.toNat]? with
      | none => rfl
      | some c => exact ih c
theorem ptGet_full : ∀ (zs : List Int) (t : Tr), ptGet (full t) zs = (treeGet t zs).map full
  | [], t => by rw [ptGet, treeGet]; rfl
  | z :: zs, .leaf b => by rw [full, ptGet, treeGet]; rfl
  | z :: zs, .node cs => by
    rw [full, ptGet, treeGet, fulls_map, List.getElem?_map]
    cases cs[z.toNat]? with
    | none => rfl
    | some c => exact ptGet_full zs c
theorem ptOk_full : ∀ (zs : List Int) (t : Tr), PtOk (full t) zs
  | [], t => by rw [PtOk]; trivial
  | z :: zs, .leaf b => by rw [full, PtOk]; trivial
  | z :: zs, .node cs => by
    rw [full, PtOk]
    refine ⟨.inl rfl, fun c hc => ?_⟩
    rw [fulls_map, List.getElem?_map] at hc
    cases h : cs[z.toNat]? with
    | none => rw [h] at hc; cases hc
    | some d => rw [h] at hc; cases hc; exact ptOk_full zs d
theorem Good.nil : Good [] := ⟨fun _ h => (nomatch h), fun _ h => (nomatch h), by simp⟩
theorem good_one {q : LS} {cs : List PT} (h : Loc q cs) (he : q.els = []) : Good [(q, cs)] :=
  ⟨fun p hp => by rw [List.mem_singleton.mp hp]; exact h, fun p hp k t v e => by rw [List.mem_singleton.mp hp] at e; dsimp only at e; rw [he] at e; simp at e, by simpa using ads_nodup h.ap⟩
theorem dec_P {w : World} {mean : ExcName → Option Value} {mg mb : Str → Option Value} (X : List UInt8) (t1 : Tok) (pt : PT) (hx : X.length ≤ 100000) (hf : Fits X 0 pt) (hl : pt.len = X.length) :
  Spec w mean mg mb 105 12 ⟨[.bytes X.toArray t1], []⟩ false (fun _ => True) []
    (fun r own' => ∃ st, own' = objsOf w st ∧ Good st ∧ ElOk st .none r pt) (fun _ _ _ => False) := by
  have h1 : 0 < X.length := by have := pt.len_pos; omega
  cases pt with
  | leaf b =>
    rw [Fits] at hf
    obtain ⟨post, hp⟩ := hf
    obtain ⟨p, l, s', hc, hcut, hend, hl', hpl⟩ := clpF_leaf (enc_leaf_bound hp hx) hp
    rw [PT.len] at hl
    refine (sp105t X t1 h1 hx hc (by omega) (by omega)).mono (Nat.le_refl _) (fun _ h => h) ?_ fun _ _ _ h => h
    rintro v o ⟨ta, rfl, rfl⟩
    exact ⟨[], rfl, Good.nil, .inl ⟨rfl, .inl ⟨b, ta, rfl, by rw [hcut]⟩⟩⟩
  | node cs rem =>
    rw [Fits] at hf
    obtain ⟨⟨post, hp⟩, hle, hfl⟩ := hf
    have hb : lens cs + rem < 256 ^ 8 := by
      have : (256 : Nat) ^ 8 = 18446744073709551616 := by decide
      omega
    obtain ⟨p, hc⟩ := clpF_head hb hp
    rw [PT.len] at hl
    refine (sp105f X t1 h1 hx hc (by omega)).mono (Nat.le_refl _) (fun _ h => h) ?_ fun _ _ _ h => h
    rintro v o ⟨q, rfl, rfl, hap, qX, qen, qix, qels, qln, qsd⟩
    have hcs : cs.length ≤ 100000 := by
      have := len_le_lens cs
      omega
    have hq : Loc { q with rem := rem } cs := ⟨⟨hap.a, hap.b, hap.c⟩, ⟨0 + (headF 192 (lens cs + rem)).length, qix, by dsimp only; rw [qen, qels]; simp, by dsimp only; rw [qX, qels]; simpa using hfl⟩, by dsimp only; rw [qels]; simp, by dsimp only; rw [qX]; exact hx, hcs, .inl qln, .inl qsd⟩
    refine ⟨[({ q with rem := rem }, cs)], by rw [show objsOf w [(({ q with rem := rem } : LS), cs)] = q.objs w from by simp], good_one hq qels, .inl ⟨rfl, .inr ⟨({ q with rem := rem }, cs), by simp, rfl, rfl, qsd⟩⟩⟩
theorem dec_S {w : World} {mean : ExcName → Option Value} {mg mb : Str → Option Value} (X : List UInt8) (t1 : Tok) (cs : List PT) (hx : X.length ≤ 100000) (hf : Fits X 0 (.node cs 0)) (hl : (PT.node cs 0).len = X.length)
    (hall : ∀ t ∈ cs, ∃ n, t = .leaf (digs n) ∧ n < 256 ^ 8) :
  Spec w mean mg mb 105 12 ⟨[.bytes X.toArray t1, .ref 201], []⟩ false (fun _ => True) []
    (fun r own' => ∃ st x, own' = objsOf w st ∧ Good st ∧ r = .ref x ∧ HasL st x cs (.ref 201) 0) (fun _ _ _ => False) := by
  have h1 : 0 < X.length := by have := (PT.node cs 0).len_pos; omega
  rw [Fits] at hf
  obtain ⟨⟨post, hp⟩, hle, hfl⟩ := hf
  have hb : lens cs + 0 < 256 ^ 8 := by
    have : (256 : Nat) ^ 8 = 18446744073709551616 := by decide
    omega
  obtain ⟨p, hc⟩ := clpF_head hb hp
  rw [PT.len] at hl
  refine (sp105s X t1 h1 hx hc (by omega)).mono (Nat.le_refl _) (fun _ h => h) ?_ fun _ _ _ h => h
  rintro v o ⟨q, rfl, rfl, hap, qX, qen, qix, qels, qln, qsd⟩
  have hcs : cs.length ≤ 100000 := by
    have := len_le_lens cs
    omega
  have hq : Loc { q with rem := 0 } cs := ⟨⟨hap.a, hap.b, hap.c⟩, ⟨0 + (headF 192 (lens cs + 0)).length, qix, by dsimp only; rw [qen, qels]; simp, by dsimp only; rw [qX, qels]; simpa using hfl⟩, by dsimp only; rw [qels]; simp, by dsimp only; rw [qX]; exact hx, hcs, .inl qln, .inr ⟨qsd, hall⟩⟩
  refine ⟨[({ q with rem := 0 }, cs)], q.x, by rw [show objsOf w [(({ q with rem := 0 } : LS), cs)] = q.objs w from by simp], good_one hq qels, rfl, ({ q with rem := 0 }, cs), by simp, rfl, rfl, qsd, rfl⟩
theorem dec_D {w : World} {mean : ExcName → Option Value} {mg mb : Str → Option Value} (n : Nat) (hn : n < 256 ^ 8) (t1 : Tok) :
  Spec w mean mg mb 105 12 ⟨[.bytes (enc (.leaf (digs n))).toArray t1, .ref 201], []⟩ false (fun _ => True) []
    (fun r own' => ∃ ta, r = .int (n : Nat) ta ∧ own' = []) (fun _ _ _ => False) := by
  have hd8 := digs_len hn
  have hx : (enc (.leaf (digs n))).length ≤ 100000 := by
    have := enc_wt (.leaf (digs n)) (by rw [Tr.wt]; omega)
    rw [Tr.wt] at this; omega
  have hp : (enc (.leaf (digs n))).drop 0 = enc (.leaf (digs n)) ++ [] := by simp
  obtain ⟨p, l, s', hc, hcut, hend, hl', hpl⟩ := clpF_leaf (enc_leaf_bound hp hx) hp
  have hz : (cutI (cut (enc (.leaf (digs n))) s' (s' + l)) 0 1 == [0]) = false := by
    rw [hcut]
    refine beq_false_of_ne fun q => ?_
    cases hd : digs n with
    | nil => rw [hd] at q; simp [cutI, cut] at q
    | cons c u =>
      rw [hd] at q
      have : c = 0 := by simpa [cutI, cut] using q
      exact digs_head n c u hd (by rw [this]; rfl)
  refine (sp105d (enc (.leaf (digs n))) t1 (enc_pos _) hx hc (by omega) (by omega) (by rw [hcut]; exact hd8) hz).mono (Nat.le_refl _) (fun _ h => h) ?_ fun _ _ _ h => h
  rintro v o ⟨ta, rfl, rfl⟩
  exact ⟨ta, by rw [hcut, be_digs], rfl⟩
theorem isi_lazy_tup {w : World} {h₀ : Heap} {L : Addr} {A : Around} {s : Shared} {st : List LG} {x : Addr} {due : List PT} {sd : Value} {rem : Nat} {E : Value → Shared → Prop} {tp : Addr} {dd : Option Addr} {its : List Value} {n : Nat} {sl : Array (Option Value)} {b : Bool} {Q : Value → Shared → Prop} (X : (hd.heap_39 w.params).In s.heap) (N : News h₀ L s.heap (objsOf w st)) (hl : HasL st x due sd rem) (htp : s.heap.get? tp = some ⟨.type "tuple", dd, .seq its.toArray n, sl⟩)
    (e : kitAny (hd.heap_39 w.params) (.ref 151) its = some b) (h : ∀ tk, Q (.bool b) { s with toks := tk }) :
    wpAny (model PG w) A (call (.builtin "isinstance") [.ref x, .ref tp]) Q E s := by
  obtain ⟨dx, od, I⟩ := inst_lazy N hl
  exact kia_tup (kitx_own (by k_is) (by k_is) (by k_is) (by k_is) (by k_is) (by k_is)) X I htp e (by intro e; cases e) h
theorem kitAt_gt {g h : Heap} {L a : Addr} {m : Str → Option Value} {items : Array Value} (F : Fr g L h m) (hl : g.IsTuple a items) : KitAt a "tuple" h := let ⟨o, ho, hc, _⟩ := hl; ⟨o, F.keep _ _ ho, hc⟩
theorem isTuple_stays {h h' : Heap} (k : h.StaysIn h') {a : Addr} {items : Array Value} (x : h.IsTuple a items) : h'.IsTuple a items := let ⟨o, ho, r⟩ := x; ⟨o, k _ o ho, r⟩
theorem lazy_of {st : List LG} {sd v : Value} {cs : List PT} {rem : Nat} (h : ElOk st sd v (.node cs rem)) : sd = .none ∧ ∃ x, v = .ref x ∧ HasL st x cs .none rem := by
  rcases h with ⟨hs, ⟨b, tk, e, _⟩ | ⟨p, hp, e, rfl, h3⟩⟩ | ⟨_, n, tk, e, _⟩
  · cases e
  · injection e with e1 e2
    exact ⟨hs, p.1.x, rfl, p, hp, rfl, e1.symm, h3, e2.symm⟩
  · cases e
theorem leaf_of {st : List LG} {v : Value} {b : List UInt8} (h : ElOk st .none v (.leaf b)) : ∃ tk, v = .bytes b.toArray tk := by
  rcases h with ⟨hs, ⟨b', tk, e, rfl⟩ | ⟨p, hp, e, _⟩⟩ | ⟨e, _⟩
  · cases e; exact ⟨tk, rfl⟩
  · cases e
  · cases e
theorem off_gr {g h : Heap} {L l : Addr} {news : Led} {items : Array Value} (N : News g L h news) (hl : g.IsList l items ∨ g.IsTuple l items) : ∀ p ∈ news, p.1 ≠ l := fun p hp e => by
  rcases hl with ⟨o, ho, _⟩ | ⟨o, ho, _⟩
  · have := (N p hp).2.2
    rw [e, ho] at this; cases this
  · have := (N p hp).2.2
    rw [e, ho] at this; cases this
theorem it_stays {g h : Heap} (k : g.StaysIn h) {l : Addr} {items : Array Value} (hl : g.IsList l items ∨ g.IsTuple l items) : h.IsList l items ∨ h.IsTuple l items := hl.imp (isList_stays k) (isTuple_stays k)
theorem leave_newE {M : Model} {A : Around} {E : Value → Shared → Prop} {s' : Shared} {base g h : Heap} {outer : List Env} {L a e : Addr} {m : Str → Option Value} {name : Str} {scope : Scope} {cd : Value} {Q : Unit → Shared → Prop} {news : List (Addr × Obj)} {cls : String}
    (K : Below A base outer g) (hx : Heap.NewExc h s'.heap e cls) (F : Fr g L h m) (N : News g L h news)
    (hQ : ∀ h', RaisedSX base g outer e (.type cls) .none news h' → g.UpToSlots h' → Q () { s' with heap := h' }) (hk : scope.kind = .function := by rfl) :
    wpAny M (A.deeper (envOf name scope L a cd)) (leaving (envOf name scope L a cd) (.ref e)) Q E s' := by
  obtain ⟨ob, t, h1, h2, h3⟩ := hx.there
  exact leave0X K F N (fun b o q _ _ => hx.keeps b o q) hx.new h1 h2 h3 rfl rfl rfl hQ hk
section
variable {w : World} {mean : ExcName → Option Value} {mg mb : Str → Option Value} {base g₀ : Heap} {outer : List Env} {A : Around} {s : Shared} {env : Env} {Q : Flow → Shared → Prop} {E : Value → Shared → Prop} {body : List Stmt}
noncomputable def PkK (w : World) (m : Str → Option Value) (pt : PT) (zs : List Int) (i : Nat) : Heap → (Str → Option Value) → Led → Prop := fun _ o n =>
  (∀ y, y ∉ [Str.ofString "i", Str.ofString "ll"] → o y = m y) ∧ ∃ st t v, n = objsOf w st ∧ Good st ∧ ptGet pt (zs.take i) = some t ∧ PtOk t (zs.drop i) ∧ o (Str.ofString "ll") = some v ∧ ElOk st .none v t
theorem peek_iter {m : Str → Option Value} {l : Addr} {ws : List Value} {zs : List Int} {pt : PT} {st : List LG} {v : Value} (S : Site w mean mg mb base outer g₀) (hh : A.handled = none) (hit : s.heap.IsList l ws.toArray ∨ s.heap.IsTuple l ws.toArray) (hln : ∀ p ∈ objsOf w st, p.1 ≠ l)
    (hi : IntsAre ws zs) (hr : ∀ z ∈ zs, 0 ≤ z ∧ z ≤ 100) (hok : PtOk pt zs) (G : Good st) (he : ElOk st .none v pt)
    (F : Fr g₀ env.locals s.heap m) (N : News g₀ env.locals s.heap (objsOf w st)) (hb : m (Str.ofString "ll") = some v)
    (turnB : ∀ (i k : Nat) tz b tb o h₁ tk₁ own g₁, KtsTurn (frs outer) g₀ g₁ → Site w mean mg mb base outer g₁ → k ≤ 100 → ptGet pt zs = none →
      Fr g₁ env.locals h₁ (fun y => if y = Str.ofString "i" then some (.int (k : Int) tz) else if y = Str.ofString "i" then o else if y = Str.ofString "ll" then some (.bytes b tb) else m y) → News g₁ env.locals h₁ own →
      wpAny (model PG w) A (execs body env) (OwnStep (frs outer) env.locals g₁ own (PkK w m pt zs (i + 1)) { s with heap := h₁, toks := tk₁ } (fun v s' => Q (.ret v) s')) E { s with heap := h₁, toks := tk₁ })
    (turnL : ∀ (i k : Nat) tz x due rem st₁ o h₁ tk₁ own g₁, KtsTurn (frs outer) g₀ g₁ → Site w mean mg mb base outer g₁ → k ≤ 100 → Good st₁ → HasL st₁ x due .none rem → (rem = 0 ∨ k < due.length) → (due.length ≤ k → ptGet pt zs = none) →
      (∀ c, due[k]? = some c → ptGet pt (zs.take (i + 1)) = some c ∧ PtOk c (zs.drop (i + 1))) → (∀ q ∈ own, ∀ p ∈ objsOf w st₁, q.1 ≠ p.1) →
      Fr g₁ env.locals h₁ (fun y => if y = Str.ofString "i" then some (.int (k : Int) tz) else if y = Str.ofString "i" then o else if y = Str.ofString "ll" then some (.ref x) else m y) → News g₁ env.locals h₁ (own ++ objsOf w st₁) →
      wpAny (model PG w) A (execs body env) (OwnStep (frs outer) env.locals g₁ own (PkK w m pt zs (i + 1)) { s with heap := h₁, toks := tk₁ } (fun v s' => Q (.ret v) s')) E { s with heap := h₁, toks := tk₁ })
    (done : ∀ h' tk o g' st' t v', KtsTurn (frs outer) g₀ g' → Site w mean mg mb base outer g' → Good st' → ptGet pt zs = some t → ElOk st' .none v' t → Fr g' env.locals h' (fun y => if y = Str.ofString "i" then o else if y = Str.ofString "ll" then some v' else m y) → News g' env.locals h' (objsOf w st') → Q .next { s with heap := h', toks := tk }) :
    wpAny (model PG w) A (pyIter (.ref l)) (fun it s₂ => LoopO w A (frs outer) env (Str.ofString "i") body Q E it s₂) E s := by
  have step : ∀ (i : Nat) u o news₁ h₁ tk₁ own g₁, ws.toArray[i]? = some u → KtsTurn (frs outer) g₀ g₁ → Site w mean mg mb base outer g₁ → (∃ st t v, news₁ = objsOf w st ∧ Good st ∧ ptGet pt (zs.take i) = some t ∧ PtOk t (zs.drop i) ∧ o (Str.ofString "ll") = some v ∧ ElOk st .none v t) → (∀ q ∈ own, ∀ p ∈ news₁, q.1 ≠ p.1) →
      Fr g₁ env.locals h₁ (fun y => if y = Str.ofString "i" then some u else ovr o [Str.ofString "i", Str.ofString "ll"] m y) → News g₁ env.locals h₁ (own ++ news₁) →
      wpAny (model PG w) A (execs body env) (OwnStep (frs outer) env.locals g₁ own (PkK w m pt zs (i + 1)) { s with heap := h₁, toks := tk₁ } (fun v s' => Q (.ret v) s')) E { s with heap := h₁, toks := tk₁ } := by
    rintro i u o news₁ h₁ tk₁ own g₁ hv T₁ S₁ ⟨st₁, t, v₁, rfl, G₁, hc, hok₁, hk, hel⟩ hd F₁ N₁
    obtain ⟨z, tz, rfl, hz⟩ := IntsAre.at hi i u (by simpa using hv)
    have hzm := hr z (List.mem_of_getElem? hz)
    have hsplit := take_snoc hz
    have hdrop : zs.drop i = z :: zs.drop (i + 1) := by
      obtain ⟨hi', e⟩ := List.getElem?_eq_some_iff.mp hz
      rw [List.drop_eq_getElem_cons hi', e]
    obtain ⟨k, rfl⟩ : ∃ k : Nat, z = (k : Int) := ⟨z.toNat, by omega⟩
    have hfull : ptGet pt zs = (ptGet pt (zs.take i)).bind fun c => ptGet c (((k : Nat) : Int) :: zs.drop (i + 1)) := by
      rw [← ptGet_append, ← hsplit]
    rw [hdrop] at hok₁
    have F₂ : Fr g₁ env.locals h₁ (fun y => if y = Str.ofString "i" then some (.int (k : Int) tz) else if y = Str.ofString "i" then o (Str.ofString "i") else if y = Str.ofString "ll" then some v₁ else m y) := by rw [← hk]; exact F₁
    cases t with
    | leaf b =>
      obtain ⟨tb, rfl⟩ := leaf_of hel
      exact turnB i k tz _ tb _ h₁ tk₁ own g₁ T₁ S₁ (by omega) (by rw [hfull, hc]; rfl) F₂ (News.left N₁)
    | node cs rem =>
      obtain ⟨_, x, rfl, hl⟩ := lazy_of hel
      rw [PtOk] at hok₁
      rw [Int.toNat_natCast] at hok₁
      refine turnL i k tz x cs rem st₁ _ h₁ tk₁ own g₁ T₁ S₁ (by omega) G₁ hl hok₁.1 (fun hle => ?_) (fun c hcc => ⟨?_, hok₁.2 c hcc⟩) hd F₂ N₁
      · rw [hfull, hc]
        show (cs[((k : Nat) : Int).toNat]?).bind _ = none
        rw [Int.toNat_natCast, List.getElem?_eq_none hle]; rfl
      · rw [List.take_add_one, hz, Option.toList, ptGet_append, hc]
        rw [Option.bind_some, ptGet, Int.toNat_natCast, hcc]; rfl
  have fin : ∀ h' tk o news' g', KtsTurn (frs outer) g₀ g' → Site w mean mg mb base outer g' → (∃ st t v, news' = objsOf w st ∧ Good st ∧ ptGet pt (zs.take ws.toArray.size) = some t ∧ PtOk t (zs.drop ws.toArray.size) ∧ o (Str.ofString "ll") = some v ∧ ElOk st .none v t) →
      Fr g' env.locals h' (ovr o [Str.ofString "i", Str.ofString "ll"] m) → News g' env.locals h' news' → Q .next { s with heap := h', toks := tk } := by
    rintro h' tk o news' g' T' S' ⟨st', t, v', rfl, G', hc, _, hk, hel⟩ F' N'
    have hlen : ws.length = zs.length := by have := hi.sizeZ; simp at this; omega
    have e : zs.take ws.toArray.size = zs := by rw [List.size_toArray, hlen, List.take_length]
    rw [e] at hc
    exact done h' tk (o (Str.ofString "i")) g' st' t v' T' S' G' hc hel (by rw [← hk]; exact F') N'
  rcases hit with hl | hl
  · exact Iter_list_K [Str.ofString "i", Str.ofString "ll"] (fun i _ o n => ∃ st t v, n = objsOf w st ∧ Good st ∧ ptGet pt (zs.take i) = some t ∧ PtOk t (zs.drop i) ∧ o (Str.ofString "ll") = some v ∧ ElOk st .none v t) S hh hl hln F N ⟨st, pt, v, rfl, G, by simp [ptGet], by simpa using hok, hb, he⟩ step fin
  · exact Iter_tuple_K [Str.ofString "i", Str.ofString "ll"] (fun i _ o n => ∃ st t v, n = objsOf w st ∧ Good st ∧ ptGet pt (zs.take i) = some t ∧ PtOk t (zs.drop i) ∧ o (Str.ofString "ll") = some v ∧ ElOk st .none v t) S hh hl hln F N ⟨st, pt, v, rfl, G, by simp [ptGet], by simpa using hok, hb, he⟩ step fin
end
theorem sp163a {w : World} {mean : ExcName → Option Value} {mg mb : Str → Option Value} (X : List UInt8) (t1 : Tok) (pt : PT) (hx : X.length ≤ 100000) (hf : Fits X 0 pt) (hl : pt.len = X.length)
    (il : Addr) (ws : List Value) (zs : List Int) (hi : IntsAre ws zs) (hr : ∀ z ∈ zs, 0 ≤ z ∧ z ≤ 100) (hok : PtOk pt zs) :
  Spec w mean mg mb 163 22 ⟨[.bytes X.toArray t1, .ref il], []⟩ true (fun G => G.IsList il ws.toArray ∨ G.IsTuple il ws.toArray) []
    (fun r own' => ∃ st t, own' = objsOf w st ∧ Good st ∧ ptGet pt zs = some t ∧ ElOk st .none r t) (fun cls c own' => cls = .type "IndexError" ∧ ptGet pt zs = none ∧ own' = []) := by
  intro dp un gd base outer g s R S hg hsz ho hpp hd1 hu1 hret hexc
  have hpp : g.IsList il ws.toArray ∨ g.IsTuple il ws.toArray := hpp
  have kdX := S.dicts
  have XB := S.inB
  have TB := S.topB
  rcases hpp with hgl | hgl
  all_goals (
    refine enter S hg hsz ho (by k_is) (by k_is) (room_0 hd1) (binds_K (S.inK.keeps hg) rfl (by k_is) rfl rfl rfl) (locs rfl) ?_ rfl rfl rfl (by decide)
    intro L' h₁ tk₁ hst hL F N B XX T M₁ en₁ A₁
    (try dsimp only)
    k_fold
    repeat' (first | (k_unfold; (try dsimp only)) | (k_end; wrow_close) | ((with_reducible show wpAny _ _ (exec (Stmt.For (Expr.Name _ _) (Expr.Name _ _) _ _ _) _) _ _ _); with_reducible (k_here; k_dflt (refine' For_S ?zzS ?zzhx ?zzhp ?_ ?zzhs ?zzhE; (case zzS => assumption); (case zzhx => exact rfl); (case zzhp => exact rfl); (case zzhs => (intro _; with_unfolding_all rfl)); (case zzhE => first | passes_own | with_unfolding_all passes_own)))) | ((with_reducible show wpAny _ _ (call (Value.builtin _) _) _ _ _); with_reducible (k_here; (with_reducible show wpAny _ _ (call _ [Value.ref _, Value.ref _]) _ _ _); k_dflt (first | (refine' kia_tup kitx_list ?zzX ?zzc ?zzp ?zzee ?zznb ?_; (case zzc => exact kitAt_gl (by k_asm) (by assumption)); (case zzX => k_in); (case zzp => kit_tp); (case zzee => kit_is); (case zznb => kit_nb); k_whole; intro _) | (refine' kia_tup kitx_tuple ?zzX ?zzc ?zzp ?zzee ?zznb ?_; (case zzc => exact kitAt_gt (by k_asm) (by assumption)); (case zzX => k_in); (case zzp => kit_tp); (case zzee => kit_is); (case zznb => kit_nb); k_whole; intro _) | (refine' isi_lazy_tup ?zzX ?zzN ?zzhl ?zzp ?zzee ?_; (case zzp => kit_tp); (case zzX => k_in); (case zzN => exact News.right (News.tail1 (by k_asm))); (case zzhl => assumption); (case zzee => kit_is); k_whole; intro _)))) | ((with_reducible show wpAny _ _ (subscriptTail _ _ _ _) _ _ _); with_reducible (k_here; (with_reducible show wpAny _ _ (subscriptTail _ _ (Value.ref _) (Value.int _ _)) _ _ _); k_dflt (refine' lazy_get ?zzS ?zzF ?zzNr ?zzNo ?zzhdis ?zzG ?zzhl ?zzhi ?zzhz ?zzkK ?zzkA ?zzhd ?zzhu ?_ ?_ ?zzhsl; (case zzkA => exact rfl); (case zzS => assumption); (case zzF => k_asm); (case zzNo => exact News.right (News.tail1 (by k_asm))); (case zzNr => exact News.left (News.tail1 (by k_asm))); (case zzhdis => assumption); (case zzkK => exact rfl); (case zzG => assumption); (case zzhl => assumption); (case zzhi => omega); (case zzhz => assumption); (case zzhsl => with_unfolding_all rfl); (case zzhd => first | (refine' room_d ?zzza ?zzzb; (case zzza => assumption); (case zzzb => first | decide | (refine Nat.succ_le_succ (Nat.le_trans ?_ (by assumption)); decide))) | (dsimp only [top]; omega)); (case zzhu => first | (refine' room_u ?zzza ?zzzb; (case zzza => assumption); (case zzzb => first | decide | (refine Nat.succ_le_succ (Nat.le_trans ?_ (by assumption)); decide))) | (dsimp only [top]; omega))); (intro v' h₀' st' h' tk' t' T' S' F' N' hd' G' ext' ht' he'; (have X' := Site.inK S'); (have P' := Site.top S'); (have D' := Site.dicts S')); rotate_left; (intro e' c' Gr' st' h' tk' hX' FG' hU' hle' G' ext'); rotate_left)) | ((with_reducible show wpAny _ _ (leaving _ _) _ _ _); with_reducible (k_here; k_dflt (first | (refine' leave_onX ?zzk1 ?zzk2 ?zzk3 ?zzk4 ?_; (case zzk3 => assumption); (case zzk2 => assumption); (case zzk1 => exact Site.below (by assumption)); (case zzk4 => assumption); k_whole; intro h' S' U'; (try dsimp only at S' U' ⊢)) | (refine' leave_newE ?zzk1 ?zzk0 ?zzk2 ?zzk3 ?_; (case zzk0 => assumption); (case zzk2 => assumption); (case zzk1 => exact Site.below (by assumption)); (case zzk3 => k_asm); k_whole; intro h' S' U'; (try dsimp only at S' U' ⊢))))) | ((with_reducible show wpAny _ _ (execs (_ :: _) _) _ _ _); with_reducible (refine wpAny_execs_cons ?_; (try k_fold))) | ((with_reducible show wpAny _ _ (pyIter (Value.ref _)) _ _ _); with_reducible (k_here; k_dflt (refine' peek_iter ?zzS ?zzhh ?zzhit ?zzhln ?zzhi ?zzhr ?zzhok ?zzG ?zzhe ?zzF ?zzN ?zzhb ?_ ?_ ?_; (case zzS => assumption); (case zzhh => exact rfl); (case zzhok => assumption); (case zzG => assumption); (case zzhe => assumption); (case zzF => k_asm); (case zzN => first | k_asm | exact News.tail1 (by k_asm) | exact News.tail1 (News.tail1 (by k_asm))); (case zzhit => first | exact it_stays (Fr.keep (by k_asm)) (by assumption) | exact .inl (News.isList (by k_asm) (List.mem_cons_self ..))); (case zzhi => first | assumption | exact IntsAre.cons _ _ IntsAre.nil); (case zzhr => first | assumption | (simp; omega)); (case zzhln => first | exact off_gr (News.tail1 (by k_asm)) (by assumption) | exact off_gr (by k_asm) (by assumption) | (intro p hp; exact Nat.ne_of_lt (‹∀ q ∈ _, q.1 < _› p (List.mem_cons_of_mem _ hp))) | (intro p hp; exact Nat.ne_of_lt (‹∀ q ∈ _, q.1 < _› p hp))); (case zzhb => exact rfl)); (intro i' k' tz' b' tb' o' h' tk' own' g' T' S' hk' hg' F' N'; (have X' := Site.inK S'); (have P' := Site.top S'); (have D' := Site.dicts S')); rotate_left; (intro i' k' tz' x' due' rem' st' o' h' tk' own' g' T' S' hk' G' hl' hz' hg' hc' hd' F' N'; (have X' := Site.inK S'); (have P' := Site.top S'); (have D' := Site.dicts S')); rotate_left; (intro h' tk' o' g' st' t' v' T' S' G' hg' he' F' N'; (have X' := Site.inK S'); (have P' := Site.top S'); (have D' := Site.dicts S')); rotate_left)) | ((with_reducible show wpAny _ _ (storeName _ _ _) _ _ _); with_reducible (k_here; k_dflt (refine' storeP ?zzF ?zzN ?_ ?zza ?zzb; (case zzF => k_asm); (case zzN => k_asm); (case zza => rfl); (case zzb => rfl); k_whole; intro h' tk' F' N'; (try k_sweep)))) | ((with_reducible show wpAny _ _ (call (Value.ref _) _) _ _ _); with_reducible (k_here; (with_reducible show wpAny _ _ (call (Value.ref 105) _) _ _ _); k_dflt (refine' call0 (dec_P _ _ _ ?zzhx ?zzhf ?zzhl) ?zzS ?zzF ?zzN ?zzkK ?zzkA ?zzpre ?zzhd ?zzhu ?_; (case zzkA => exact rfl); (case zzS => assumption); (case zzF => k_asm); (case zzN => k_asm); (case zzkK => exact rfl); (case zzpre => exact fun _ _ _ => trivial); (case zzhx => assumption); (case zzhf => assumption); (case zzhl => assumption); (case zzhd => first | (refine' room_d ?zzza ?zzzb; (case zzza => assumption); (case zzzb => first | decide | (refine Nat.succ_le_succ (Nat.le_trans ?_ (by assumption)); decide))) | (dsimp only [top]; omega)); (case zzhu => first | (refine' room_u ?zzza ?zzzb; (case zzza => assumption); (case zzzb => first | decide | (refine Nat.succ_le_succ (Nat.le_trans ?_ (by assumption)); decide))) | (dsimp only [top]; omega))); intro r' own' h' tk' F' N' hdis' hr'; obtain ⟨st', hr1, hr2, hr3⟩ := hr'; subst hr1; replace N' := News.left N')) | walk1 | (dsimp only; first | ((with_reducible show wpAny _ _ (exec (Stmt.For (Expr.Name _ _) (Expr.Name _ _) _ _ _) _) _ _ _); with_reducible (k_here; k_dflt (refine' For_S ?zzS ?zzhx ?zzhp ?_ ?zzhs ?zzhE; (case zzS => assumption); (case zzhx => exact rfl); (case zzhp => exact rfl); (case zzhs => (intro _; with_unfolding_all rfl)); (case zzhE => first | passes_own | with_unfolding_all passes_own)))) | ((with_reducible show wpAny _ _ (call (Value.builtin _) _) _ _ _); with_reducible (k_here; (with_reducible show wpAny _ _ (call _ [Value.ref _, Value.ref _]) _ _ _); k_dflt (first | (refine' kia_tup kitx_list ?zzX ?zzc ?zzp ?zzee ?zznb ?_; (case zzc => exact kitAt_gl (by k_asm) (by assumption)); (case zzX => k_in); (case zzp => kit_tp); (case zzee => kit_is); (case zznb => kit_nb); k_whole; intro _) | (refine' kia_tup kitx_tuple ?zzX ?zzc ?zzp ?zzee ?zznb ?_; (case zzc => exact kitAt_gt (by k_asm) (by assumption)); (case zzX => k_in); (case zzp => kit_tp); (case zzee => kit_is); (case zznb => kit_nb); k_whole; intro _) | (refine' isi_lazy_tup ?zzX ?zzN ?zzhl ?zzp ?zzee ?_; (case zzp => kit_tp); (case zzX => k_in); (case zzN => exact News.right (News.tail1 (by k_asm))); (case zzhl => assumption); (case zzee => kit_is); k_whole; intro _)))) | ((with_reducible show wpAny _ _ (subscriptTail _ _ _ _) _ _ _); with_reducible (k_here; (with_reducible show wpAny _ _ (subscriptTail _ _ (Value.ref _) (Value.int _ _)) _ _ _); k_dflt (refine' lazy_get ?zzS ?zzF ?zzNr ?zzNo ?zzhdis ?zzG ?zzhl ?zzhi ?zzhz ?zzkK ?zzkA ?zzhd ?zzhu ?_ ?_ ?zzhsl; (case zzkA => exact rfl); (case zzS => assumption); (case zzF => k_asm); (case zzNo => exact News.right (News.tail1 (by k_asm))); (case zzNr => exact News.left (News.tail1 (by k_asm))); (case zzhdis => assumption); (case zzkK => exact rfl); (case zzG => assumption); (case zzhl => assumption); (case zzhi => omega); (case zzhz => assumption); (case zzhsl => with_unfolding_all rfl); (case zzhd => first | (refine' room_d ?zzza ?zzzb; (case zzza => assumption); (case zzzb => first | decide | (refine Nat.succ_le_succ (Nat.le_trans ?_ (by assumption)); decide))) | (dsimp only [top]; omega)); (case zzhu => first | (refine' room_u ?zzza ?zzzb; (case zzza => assumption); (case zzzb => first | decide | (refine Nat.succ_le_succ (Nat.le_trans ?_ (by assumption)); decide))) | (dsimp only [top]; omega))); (intro v' h₀' st' h' tk' t' T' S' F' N' hd' G' ext' ht' he'; (have X' := Site.inK S'); (have P' := Site.top S'); (have D' := Site.dicts S')); rotate_left; (intro e' c' Gr' st' h' tk' hX' FG' hU' hle' G' ext'); rotate_left)) | ((with_reducible show wpAny _ _ (leaving _ _) _ _ _); with_reducible (k_here; k_dflt (first | (refine' leave_onX ?zzk1 ?zzk2 ?zzk3 ?zzk4 ?_; (case zzk3 => assumption); (case zzk2 => assumption); (case zzk1 => exact Site.below (by assumption)); (case zzk4 => assumption); k_whole; intro h' S' U'; (try dsimp only at S' U' ⊢)) | (refine' leave_newE ?zzk1 ?zzk0 ?zzk2 ?zzk3 ?_; (case zzk0 => assumption); (case zzk2 => assumption); (case zzk1 => exact Site.below (by assumption)); (case zzk3 => k_asm); k_whole; intro h' S' U'; (try dsimp only at S' U' ⊢))))) | ((with_reducible show wpAny _ _ (execs (_ :: _) _) _ _ _); with_reducible (refine wpAny_execs_cons ?_; (try k_fold))) | ((with_reducible show wpAny _ _ (pyIter (Value.ref _)) _ _ _); with_reducible (k_here; k_dflt (refine' peek_iter ?zzS ?zzhh ?zzhit ?zzhln ?zzhi ?zzhr ?zzhok ?zzG ?zzhe ?zzF ?zzN ?zzhb ?_ ?_ ?_; (case zzS => assumption); (case zzhh => exact rfl); (case zzhok => assumption); (case zzG => assumption); (case zzhe => assumption); (case zzF => k_asm); (case zzN => first | k_asm | exact News.tail1 (by k_asm) | exact News.tail1 (News.tail1 (by k_asm))); (case zzhit => first | exact it_stays (Fr.keep (by k_asm)) (by assumption) | exact .inl (News.isList (by k_asm) (List.mem_cons_self ..))); (case zzhi => first | assumption | exact IntsAre.cons _ _ IntsAre.nil); (case zzhr => first | assumption | (simp; omega)); (case zzhln => first | exact off_gr (News.tail1 (by k_asm)) (by assumption) | exact off_gr (by k_asm) (by assumption) | (intro p hp; exact Nat.ne_of_lt (‹∀ q ∈ _, q.1 < _› p (List.mem_cons_of_mem _ hp))) | (intro p hp; exact Nat.ne_of_lt (‹∀ q ∈ _, q.1 < _› p hp))); (case zzhb => exact rfl)); (intro i' k' tz' b' tb' o' h' tk' own' g' T' S' hk' hg' F' N'; (have X' := Site.inK S'); (have P' := Site.top S'); (have D' := Site.dicts S')); rotate_left; (intro i' k' tz' x' due' rem' st' o' h' tk' own' g' T' S' hk' G' hl' hz' hg' hc' hd' F' N'; (have X' := Site.inK S'); (have P' := Site.top S'); (have D' := Site.dicts S')); rotate_left; (intro h' tk' o' g' st' t' v' T' S' G' hg' he' F' N'; (have X' := Site.inK S'); (have P' := Site.top S'); (have D' := Site.dicts S')); rotate_left)) | ((with_reducible show wpAny _ _ (storeName _ _ _) _ _ _); with_reducible (k_here; k_dflt (refine' storeP ?zzF ?zzN ?_ ?zza ?zzb; (case zzF => k_asm); (case zzN => k_asm); (case zza => rfl); (case zzb => rfl); k_whole; intro h' tk' F' N'; (try k_sweep)))) | ((with_reducible show wpAny _ _ (call (Value.ref _) _) _ _ _); with_reducible (k_here; (with_reducible show wpAny _ _ (call (Value.ref 105) _) _ _ _); k_dflt (refine' call0 (dec_P _ _ _ ?zzhx ?zzhf ?zzhl) ?zzS ?zzF ?zzN ?zzkK ?zzkA ?zzpre ?zzhd ?zzhu ?_; (case zzkA => exact rfl); (case zzS => assumption); (case zzF => k_asm); (case zzN => k_asm); (case zzkK => exact rfl); (case zzpre => exact fun _ _ _ => trivial); (case zzhx => assumption); (case zzhf => assumption); (case zzhl => assumption); (case zzhd => first | (refine' room_d ?zzza ?zzzb; (case zzza => assumption); (case zzzb => first | decide | (refine Nat.succ_le_succ (Nat.le_trans ?_ (by assumption)); decide))) | (dsimp only [top]; omega)); (case zzhu => first | (refine' room_u ?zzza ?zzzb; (case zzza => assumption); (case zzzb => first | decide | (refine Nat.succ_le_succ (Nat.le_trans ?_ (by assumption)); decide))) | (dsimp only [top]; omega))); intro r' own' h' tk' F' N' hdis' hr'; obtain ⟨st', hr1, hr2, hr3⟩ := hr'; subst hr1; replace N' := News.left N')) | walk1) | (leave1; (try dsimp only)) | fail "no step"))
  all_goals (try k_data)
  all_goals (try (exfalso; omega))
  all_goals first
    | (show R (.ok (.ret _)) _
       rename Fr _ _ _ _ => F9
       rename News _ _ _ _ => N9
       rename KtsTurn _ _ _ => T9
       exact hret _ _ _ _ _ (by simpa using T9) F9.keep (News.owns N9) ⟨_, _, rfl, by assumption, by assumption, by assumption⟩)
    | (rename RaisedSX _ _ _ _ _ _ _ _ => S9
       rename Heap.UpToSlots _ _ => U9
       rename KtsTurn _ _ _ => T9
       refine hexc _ _ _ _ _ _ ((S9.sub (news' := []) fun _ h => nomatch h).unturn T9) (upTo_unturn T9 U9) ⟨rfl, ?_, rfl⟩
       first | assumption | exact ‹_ → ptGet pt zs = none› (by assumption))
    | skip
  all_goals (
    rename Fr _ _ _ _ => F9
    rename News _ _ _ _ => N9
    rename KtsTurn _ _ _ => T9
    rename ∀ c, _ = some c → _ ∧ _ => hc9
    obtain ⟨c9, k9⟩ := hc9 _ (by assumption)
    refine ⟨_, _, _, _, _, rfl, T9, F9, N9, by assumption, fun y hy => ?_, _, _, _, rfl, by assumption, c9, k9, rfl, by assumption⟩
    simp only [List.mem_cons, List.not_mem_nil, or_false, not_or] at hy
    simp only [hy.1, hy.2, if_false, put])


end T_M32
section T_M33
open PySem PySem.W PyProof.Rows PySem.Spec PySem.Calls
set_option maxRecDepth 100000
set_option maxHeartbeats 1000000




theorem sum_enc : ∀ cs : List Tr, (cs.map fun c => (((enc c).length : Nat) : Int)).sum = (((encs cs).length : Nat) : Int)
  | [] => by simp [encs]
  | c :: r => by rw [List.map_cons, List.sum_cons, sum_enc r, encs, List.length_append]; omega
theorem child_at {h : Heap} {cs : List Tr} {vs : List Value} {i : Nat} {v : Value} {c : Tr} (hT : TreesAt h cs vs) (hv : vs[i]? = some v) (hc : cs[i]? = some c) : TreeAt h c v := by
  obtain ⟨c', h1, h2⟩ := treesAt_get hT i v hv
  rw [hc] at h1; cases h1; exact h2
section
variable {prog : Program} {w : World} {A : Around} {h₀ : Heap} {L : Addr} {m : Str → Option Value} {env : Env} {elt : Expr} {x : Str} {scope : Scope} {cl : List (Str × Addr)} {s : Shared} {S : List (Addr × Obj) → Prop} {Fin : List Value → List (Addr × Obj) → Prop} {news : List (Addr × Obj)}
theorem comp_sizes {G : Heap} {cs : List Tr} {vs : List Value} (hT : TreesAt G cs vs) (hB : wts cs ≤ 65000)
    (turn : ∀ t v I oI C oC D m₂ ys h tk (E' : Value → Shared → Prop), t ∈ cs → TreeAt G t v → LCg.NsObj oC m₂ → m₂ x = some v → Fr h₀ L h m → News h₀ L h ((I, oI) :: (C, oC) :: (D, LCg.lst ys) :: news) → LCg.Off3 I C D news → ((@Ne Nat I C) ∧ (@Ne Nat I D) ∧ (@Ne Nat C D)) → t.wt ≤ wts cs → (enc t).length + 20 ≤ t.wt →
      wpAny (model prog w) A (eval elt (compEnvC scope cl C env)) (LCg.CompEnd h₀ L m { s with heap := h, toks := tk } I oI C oC D (LCg.lst ys) S (fun y news' => news' = news ∧ ∃ u, y = .int ((enc t).length : Nat) u)) E' { s with heap := h, toks := tk })
    (fin : ∀ ys, IntsAre ys (cs.map fun c => (((enc c).length : Nat) : Int)) → Fin ys news) : LCg.CompRest prog w A h₀ L m env elt x scope cl s S (fun i v => vs.toArray[i]? = some v) Fin vs.toArray.size 0 [] news := by
  have hlen := treesAt_len hT
  have key : ∀ (j i : Nat) (ys : List Value), i + j = vs.toArray.size → IntsAre ys ((cs.take i).map fun c => (((enc c).length : Nat) : Int)) → LCg.CompRest prog w A h₀ L m env elt x scope cl s S (fun i v => vs.toArray[i]? = some v) Fin j i ys news := by
    intro j
    induction j with
    | zero =>
      intro i ys hi hy
      have e : i = cs.length := by simp at hi; omega
      subst e
      rw [List.take_length] at hy
      exact LCg.CompRest.zero (fin ys hy)
    | succ j ih =>
      intro i ys hi hy
      refine LCg.CompRest.succ ?_
      intro v I oI C oC D m₂ h tk E' hv hC hx F N off ne
      obtain ⟨c, hc, hcv⟩ := treesAt_get hT i v (by simpa using hv)
      have hW := wts_mem (List.mem_of_getElem? hc)
      refine wpAny_mono (turn c v I oI C oC D m₂ ys h tk E' (List.mem_of_getElem? hc) hcv hC hx F N off ne hW (enc_wt c (Nat.le_trans hW hB))) (fun y s₂ hq => ?_) fun _ _ e => e
      obtain ⟨h', tk', nw, e, F', N', off', hS, hn, t', hy'⟩ := hq
      rw [hn] at N' off' hS
      refine ⟨h', tk', news, e, F', N', off', hS, ?_⟩
      rw [hy']
      refine ih (i + 1) _ (by omega) ?_
      rw [List.take_add_one, hc]
      simpa using IntsAre.append hy (.cons (((enc c).length : Nat) : Int) t' .nil)
  exact key _ 0 [] (by omega) (by simp only [List.take_zero, List.map_nil]; exact .nil)
end
noncomputable def EndSpec (w : World) (mean : ExcName → Option Value) (mg mb : Str → Option Value) (c : Tr) (zs : List Int) (C : Nat) : Prop := ∀ v' l' ws', IntsAre ws' zs → Spec w mean mg mb 270 C ⟨[v', .ref l'], []⟩ false (fun G => TreeAt G c v' ∧ G.IsList l' ws'.toArray) [] (fun r own' => (∃ tk, r = .int (endF c zs : Nat) tk) ∧ own' = []) (fun _ _ _ => False)
theorem EndSpec.use {w : World} {mean : ExcName → Option Value} {mg mb : Str → Option Value} {c : Tr} {zs : List Int} {C : Nat} {v' : Value} {l' : Addr} {ws' : List Value} (h : EndSpec w mean mg mb c zs C) (hi : IntsAre ws' zs) : Spec w mean mg mb 270 C ⟨[v', .ref l'], []⟩ false (fun G => TreeAt G c v' ∧ G.IsList l' ws'.toArray) [] (fun r own' => (∃ tk, r = .int (endF c zs : Nat) tk) ∧ own' = []) (fun _ _ _ => False) := h v' l' ws' hi
theorem sp237a {w : World} {mean : ExcName → Option Value} {mg mb : Str → Option Value} (t : Tr) (v : Value) (hw : t.wt ≤ 4300) : Spec w mean mg mb 237 50 ⟨[v], []⟩ false (fun G => TreeAt G t v) [] (fun r own' => ∃ tk, r = .bytes (enc t).toArray tk ∧ own' = []) (fun _ _ _ => False) :=
  (sp237 _ t v (Nat.le_refl _) hw).mono (by omega) (fun _ h => h) (fun _ _ h => h) fun _ _ _ h => h
local macro_rules | `(tactic| walk_at "CompSrc") => `(tactic| (k_here; k_dflt (refine' LCg.CompSrc.base ?hh ?F ?N ?hl ?hsz ?_; (case hh => exact rfl); (case F => k_asm); (case N => k_asm); (case hl => assumption); (case hsz => (simp only [List.size_toArray, sizeLine_eq]; omega)); intro g'; refine' comp_sizes (by assumption) (by omega) ?_ ?_); intros; rotate_left; intros; rotate_left))
local macro_rules | `(tactic| walk_at "CompEnd") => `(tactic| (k_here; refine LCg.CompEnd.intro (by k_asm) (by k_asm) _ (fun p hp => hp) (by assumption) (.inl (by assumption)) ⟨rfl, _, rfl⟩))
local macro_rules | `(tactic| units_room) => `(tactic| assumption)
theorem sp270nil {w : World} {mean : ExcName → Option Value} {mg mb : Str → Option Value} (t : Tr) (hw : t.wt ≤ 4300) (v : Value) (l : Addr) :
  Spec w mean mg mb 270 55 ⟨[v, .ref l], []⟩ false (fun G => TreeAt G t v ∧ G.IsList l #[]) [] (fun r own' => (∃ tk, r = .int (endF t [] : Nat) tk) ∧ own' = []) (fun _ _ _ => False) := by
  intro dp un gd base' outer g s R S hg hsz ho hpp hd1 hu1 hret hexc
  obtain ⟨hT, hgl⟩ := hpp
  have hgl : g.IsList l (List.toArray []) := hgl
  have hb := enc_wt t (by omega)
  first | refine enterP S hg hsz ho (by k_is) (by k_is) (room_0 hd1) (BindsTo.of_eq rfl) rfl ?_ rfl rfl rfl (by decide) | refine enter S hg hsz ho (by k_is) (by k_is) (room_0 hd1) (BindsTo.of_eq rfl) (locs rfl) ?_ rfl rfl rfl (by decide)
  intro L' h₁ tk₁ hst hL F N B XX T' M₁ en₁ A₁
  (try dsimp only)
  k_fold
  have hU9 : A₁.units + 64 < cLine := by
    show un + 3 + 64 < cLine
    omega
  repeat' (first | (k_unfold; (try dsimp only)) | (k_end; wrow_close) | ((with_reducible show wpAny _ _ (call (Value.builtin _) _) _ _ _); with_reducible (k_here; (with_reducible show wpAny _ _ (call (Value.builtin "len") [Value.bytes (List.toArray _) _]) _ _ _); (refine len_list (by (try simp only [List.length_append, cutI_length, List.length_cons, List.length_nil]); first | decide | omega) ?_); intro _ _)) | ((with_reducible show wpAny _ _ (execs (_ :: _) _) _ _ _); with_reducible (refine wpAny_execs_cons ?_; (try k_fold))) | ((with_reducible show wpAny _ _ (storeName _ _ _) _ _ _); with_reducible (k_here; k_dflt (refine' storeP ?zzF ?zzN ?_ ?zza ?zzb; (case zzF => k_asm); (case zzN => k_asm); (case zza => rfl); (case zzb => rfl); k_whole; intro h' tk' F' N'; (try k_sweep)))) | ((with_reducible show wpAny _ _ (call (Value.ref _) _) _ _ _); with_reducible (k_here; (with_reducible show wpAny _ _ (call (Value.ref 237) _) _ _ _); k_dflt (refine' call0 (sp237a _ _ ?zzhw) ?zzS ?zzF ?zzN ?zzkK ?zzkA ?zzpre ?zzhd ?zzhu ?_; (case zzkA => exact rfl); (case zzS => assumption); (case zzF => k_asm); (case zzN => k_asm); (case zzkK => exact rfl); (case zzpre => exact fun _ hG _ => TreeAt.stays hG (by assumption)); (case zzhw => first | assumption | omega); (case zzhd => first | (refine' room_d ?zzza ?zzzb; (case zzza => assumption); (case zzzb => first | decide | (refine Nat.succ_le_succ (Nat.le_trans ?_ (by assumption)); decide))) | (dsimp only [top]; omega)); (case zzhu => first | (refine' room_u ?zzza ?zzzb; (case zzza => assumption); (case zzzb => first | decide | (refine Nat.succ_le_succ (Nat.le_trans ?_ (by assumption)); decide))) | (dsimp only [top]; omega))); intro r' own' h' tk' F' N' hdis' hr'; obtain ⟨t', hr1, hr2⟩ := hr'; subst hr1; subst hr2; (try simp only [List.nil_append] at N'))) | walk1 | (dsimp only; first | ((with_reducible show wpAny _ _ (call (Value.builtin _) _) _ _ _); with_reducible (k_here; (with_reducible show wpAny _ _ (call (Value.builtin "len") [Value.bytes (List.toArray _) _]) _ _ _); (refine len_list (by (try simp only [List.length_append, cutI_length, List.length_cons, List.length_nil]); first | decide | omega) ?_); intro _ _)) | ((with_reducible show wpAny _ _ (execs (_ :: _) _) _ _ _); with_reducible (refine wpAny_execs_cons ?_; (try k_fold))) | ((with_reducible show wpAny _ _ (storeName _ _ _) _ _ _); with_reducible (k_here; k_dflt (refine' storeP ?zzF ?zzN ?_ ?zza ?zzb; (case zzF => k_asm); (case zzN => k_asm); (case zza => rfl); (case zzb => rfl); k_whole; intro h' tk' F' N'; (try k_sweep)))) | ((with_reducible show wpAny _ _ (call (Value.ref _) _) _ _ _); with_reducible (k_here; (with_reducible show wpAny _ _ (call (Value.ref 237) _) _ _ _); k_dflt (refine' call0 (sp237a _ _ ?zzhw) ?zzS ?zzF ?zzN ?zzkK ?zzkA ?zzpre ?zzhd ?zzhu ?_; (case zzkA => exact rfl); (case zzS => assumption); (case zzF => k_asm); (case zzN => k_asm); (case zzkK => exact rfl); (case zzpre => exact fun _ hG _ => TreeAt.stays hG (by assumption)); (case zzhw => first | assumption | omega); (case zzhd => first | (refine' room_d ?zzza ?zzzb; (case zzza => assumption); (case zzzb => first | decide | (refine Nat.succ_le_succ (Nat.le_trans ?_ (by assumption)); decide))) | (dsimp only [top]; omega)); (case zzhu => first | (refine' room_u ?zzza ?zzzb; (case zzza => assumption); (case zzzb => first | decide | (refine Nat.succ_le_succ (Nat.le_trans ?_ (by assumption)); decide))) | (dsimp only [top]; omega))); intro r' own' h' tk' F' N' hdis' hr'; obtain ⟨t', hr1, hr2⟩ := hr'; subst hr1; subst hr2; (try simp only [List.nil_append] at N'))) | walk1) | (leave1; (try dsimp only)) | fail "no step")
  all_goals (try k_data)
  all_goals (try (exfalso; omega))
  show R (.ok (.ret _)) _
  rename Fr _ _ _ _ => F9
  exact hret _ g [] _ _ rfl F9.keep (fun _ h => nomatch h) ⟨⟨_, by rw [endF]⟩, rfl⟩
theorem sp270cons {w : World} {mean : ExcName → Option Value} {mg mb : Str → Option Value} (z : Int) (zs : List Int) (cs : List Tr) (c : Tr) (hw : (Tr.node cs).wt ≤ 4300) (a : Addr) (vs : List Value) (l : Addr) (tz : Tok) (ws : List Value) (hi : IntsAre ws zs)
  (hz0 : 0 ≤ z) (hz3 : zs.length ≤ 3) (hc : cs[z.toNat]? = some c) (C : Nat) (hC : 55 ≤ C)
  (IH : EndSpec w mean mg mb c zs C) :
  Spec w mean mg mb 270 (C + 1) ⟨[.ref a, .ref l], []⟩ false (fun G => (G.IsList a vs.toArray ∧ TreesAt G cs vs) ∧ G.IsList l (List.toArray (.int z tz :: ws))) [] (fun r own' => (∃ tk, r = .int (endF (.node cs) (z :: zs) : Nat) tk) ∧ own' = []) (fun _ _ _ => False) := by
  intro dp un gd base' outer g s R S hg hsz ho hpp hd1 hu1 hret hexc
  obtain ⟨⟨hgl, hT⟩, hwl⟩ := hpp
  have hTT : TreeAt g (.node cs) (.ref a) := by rw [TreeAt]; exact ⟨a, vs, rfl, hgl, hT⟩
  have hb := enc_wt (.node cs) (by omega)
  have hw2 := hw
  rw [Tr.wt] at hw2
  have hlc := wts_len cs
  have hlen := treesAt_len hT
  have hzl : z < vs.length := by
    have := (List.getElem?_eq_some_iff.mp hc).1
    omega
  have hI : IntsAre (.int z tz :: ws) (z :: zs) := .cons _ _ hi
  have hlw : ws.length = zs.length := by have := hi.sizeZ; simp at this; omega
  first | refine enterP S hg hsz ho (by k_is) (by k_is) (room_0 hd1) (BindsTo.of_eq rfl) rfl ?_ rfl rfl rfl (by decide) | refine enter S hg hsz ho (by k_is) (by k_is) (room_0 hd1) (BindsTo.of_eq rfl) (locs rfl) ?_ rfl rfl rfl (by decide)
  intro L' h₁ tk₁ hst hL F N B XX T' M₁ en₁ A₁
  (try dsimp only)
  k_fold
  have hU9 : A₁.units + 64 < cLine := by
    show un + 3 + 64 < cLine
    omega
  repeat' (first | (k_unfold; (try dsimp only)) | (k_end; wrow_close) | ((with_reducible show wpAny _ _ (binaryOp Operator.Add (Value.int _ _) (Value.int _ _)) _ _ _); with_reducible refine add_i ?_) | ((with_reducible show wpAny _ _ (binaryOp Operator.Sub (Value.int _ _) (Value.int _ _)) _ _ _); with_reducible refine sub_i ?_) | ((with_reducible show wpAny _ _ (subscriptTail _ _ _ _) _ _ _); with_reducible (k_here; (try dsimp only); (with_reducible show wpAny _ _ (subscriptTail _ _ (Value.ref _) (Value.int _ _)) _ _ _); k_dflt (refine' item_gl ?zzF ?zzhl ?zzh0 ?zzh1 ?_ ?zzhs ?zzhg ?zzhz; (case zzF => k_asm); (case zzhl => assumption); (case zzh0 => first | omega | (simp only [Int.toNat_zero, List.getD_cons_zero]; omega)); (case zzh1 => first | omega | (simp only [Int.toNat_zero, List.getD_cons_zero]; omega)); (case zzhz => omega); (case zzhs => with_unfolding_all rfl); (case zzhg => (intro _; with_unfolding_all rfl)); k_whole); intro v' hv'; (try simp only [Int.toNat_zero, List.getD_cons_zero] at hv'); (have hv9' := child_at (by assumption) hv' (by assumption)))) | ((with_reducible show wpAny _ _ (eval (Expr.Constant (Const.int _) _ _) _) _ _ _); with_reducible refine const_i ?_) | ((with_reducible show wpAny _ _ (call (Value.builtin _) _) _ _ _); with_reducible (k_here; (with_reducible show wpAny _ _ (call (Value.builtin "len") [Value.bytes (List.toArray _) _]) _ _ _); (refine len_list (by (try simp only [List.length_append, cutI_length, List.length_cons, List.length_nil]); first | decide | omega) ?_); intro _ _)) | ((with_reducible show wpAny _ _ (execs (_ :: _) _) _ _ _); with_reducible (refine wpAny_execs_cons ?_; (try k_fold))) | ((with_reducible show wpAny _ _ (storeName _ _ _) _ _ _); with_reducible (k_here; k_dflt (refine' storeP ?zzF ?zzN ?_ ?zza ?zzb; (case zzF => k_asm); (case zzN => k_asm); (case zza => rfl); (case zzb => rfl); k_whole; intro h' tk' F' N'; (try k_sweep)))) | ((with_reducible show wpAny _ _ (call (Value.ref _) _) _ _ _); with_reducible (k_here; (with_reducible show wpAny _ _ (call (Value.ref 270) _) _ _ _); k_dflt (refine' call0 (EndSpec.use ?zziE ?zziI) ?zzS ?zzF ?zzN ?zzkK ?zzkA ?zzpre ?zzhd ?zzhu ?_; (case zziE => assumption); (case zziI => assumption); (case zzkA => exact rfl); (case zzS => assumption); (case zzF => k_asm); (case zzN => k_asm); (case zzkK => exact rfl); (case zzpre => exact fun _ hG hR => ⟨TreeAt.stays hG (by assumption), ⟨_, hR _ (by k_mem), rfl, _, rfl⟩⟩); (case zzhd => first | (refine' room_d ?zzza ?zzzb; (case zzza => assumption); (case zzzb => first | decide | (refine Nat.succ_le_succ (Nat.le_trans ?_ (by assumption)); decide))) | (dsimp only [top]; omega)); (case zzhu => first | (refine' room_u ?zzza ?zzzb; (case zzza => assumption); (case zzzb => first | decide | (refine Nat.succ_le_succ (Nat.le_trans ?_ (by assumption)); decide))) | (dsimp only [top]; omega))); intro r' own' h' tk' F' N' hdis' hr'; obtain ⟨⟨t', hr1⟩, hr2⟩ := hr'; subst hr1; subst hr2; (try simp only [List.nil_append] at N'))) | ((with_reducible show wpAny _ _ (call (Value.ref _) _) _ _ _); with_reducible (k_here; (with_reducible show wpAny _ _ (call (Value.ref 237) _) _ _ _); k_dflt (refine' call0 (sp237a _ _ ?zzhw) ?zzS ?zzF ?zzN ?zzkK ?zzkA ?zzpre ?zzhd ?zzhu ?_; (case zzkA => exact rfl); (case zzS => assumption); (case zzF => k_asm); (case zzN => k_asm); (case zzkK => exact rfl); (case zzpre => exact fun _ hG _ => TreeAt.stays hG (by assumption)); (case zzhw => first | assumption | omega); (case zzhd => first | (refine' room_d ?zzza ?zzzb; (case zzza => assumption); (case zzzb => first | decide | (refine Nat.succ_le_succ (Nat.le_trans ?_ (by assumption)); decide))) | (dsimp only [top]; omega)); (case zzhu => first | (refine' room_u ?zzza ?zzzb; (case zzza => assumption); (case zzzb => first | decide | (refine Nat.succ_le_succ (Nat.le_trans ?_ (by assumption)); decide))) | (dsimp only [top]; omega))); intro r' own' h' tk' F' N' hdis' hr'; obtain ⟨t', hr1, hr2⟩ := hr'; subst hr1; subst hr2; (try simp only [List.nil_append] at N'))) | walk1 | (dsimp only; first | ((with_reducible show wpAny _ _ (binaryOp Operator.Add (Value.int _ _) (Value.int _ _)) _ _ _); with_reducible refine add_i ?_) | ((with_reducible show wpAny _ _ (binaryOp Operator.Sub (Value.int _ _) (Value.int _ _)) _ _ _); with_reducible refine sub_i ?_) | ((with_reducible show wpAny _ _ (subscriptTail _ _ _ _) _ _ _); with_reducible (k_here; (try dsimp only); (with_reducible show wpAny _ _ (subscriptTail _ _ (Value.ref _) (Value.int _ _)) _ _ _); k_dflt (refine' item_gl ?zzF ?zzhl ?zzh0 ?zzh1 ?_ ?zzhs ?zzhg ?zzhz; (case zzF => k_asm); (case zzhl => assumption); (case zzh0 => first | omega | (simp only [Int.toNat_zero, List.getD_cons_zero]; omega)); (case zzh1 => first | omega | (simp only [Int.toNat_zero, List.getD_cons_zero]; omega)); (case zzhz => omega); (case zzhs => with_unfolding_all rfl); (case zzhg => (intro _; with_unfolding_all rfl)); k_whole); intro v' hv'; (try simp only [Int.toNat_zero, List.getD_cons_zero] at hv'); (have hv9' := child_at (by assumption) hv' (by assumption)))) | ((with_reducible show wpAny _ _ (eval (Expr.Constant (Const.int _) _ _) _) _ _ _); with_reducible refine const_i ?_) | ((with_reducible show wpAny _ _ (call (Value.builtin _) _) _ _ _); with_reducible (k_here; (with_reducible show wpAny _ _ (call (Value.builtin "len") [Value.bytes (List.toArray _) _]) _ _ _); (refine len_list (by (try simp only [List.length_append, cutI_length, List.length_cons, List.length_nil]); first | decide | omega) ?_); intro _ _)) | ((with_reducible show wpAny _ _ (execs (_ :: _) _) _ _ _); with_reducible (refine wpAny_execs_cons ?_; (try k_fold))) | ((with_reducible show wpAny _ _ (storeName _ _ _) _ _ _); with_reducible (k_here; k_dflt (refine' storeP ?zzF ?zzN ?_ ?zza ?zzb; (case zzF => k_asm); (case zzN => k_asm); (case zza => rfl); (case zzb => rfl); k_whole; intro h' tk' F' N'; (try k_sweep)))) | ((with_reducible show wpAny _ _ (call (Value.ref _) _) _ _ _); with_reducible (k_here; (with_reducible show wpAny _ _ (call (Value.ref 270) _) _ _ _); k_dflt (refine' call0 (EndSpec.use ?zziE ?zziI) ?zzS ?zzF ?zzN ?zzkK ?zzkA ?zzpre ?zzhd ?zzhu ?_; (case zziE => assumption); (case zziI => assumption); (case zzkA => exact rfl); (case zzS => assumption); (case zzF => k_asm); (case zzN => k_asm); (case zzkK => exact rfl); (case zzpre => exact fun _ hG hR => ⟨TreeAt.stays hG (by assumption), ⟨_, hR _ (by k_mem), rfl, _, rfl⟩⟩); (case zzhd => first | (refine' room_d ?zzza ?zzzb; (case zzza => assumption); (case zzzb => first | decide | (refine Nat.succ_le_succ (Nat.le_trans ?_ (by assumption)); decide))) | (dsimp only [top]; omega)); (case zzhu => first | (refine' room_u ?zzza ?zzzb; (case zzza => assumption); (case zzzb => first | decide | (refine Nat.succ_le_succ (Nat.le_trans ?_ (by assumption)); decide))) | (dsimp only [top]; omega))); intro r' own' h' tk' F' N' hdis' hr'; obtain ⟨⟨t', hr1⟩, hr2⟩ := hr'; subst hr1; subst hr2; (try simp only [List.nil_append] at N'))) | ((with_reducible show wpAny _ _ (call (Value.ref _) _) _ _ _); with_reducible (k_here; (with_reducible show wpAny _ _ (call (Value.ref 237) _) _ _ _); k_dflt (refine' call0 (sp237a _ _ ?zzhw) ?zzS ?zzF ?zzN ?zzkK ?zzkA ?zzpre ?zzhd ?zzhu ?_; (case zzkA => exact rfl); (case zzS => assumption); (case zzF => k_asm); (case zzN => k_asm); (case zzkK => exact rfl); (case zzpre => exact fun _ hG _ => TreeAt.stays hG (by assumption)); (case zzhw => first | assumption | omega); (case zzhd => first | (refine' room_d ?zzza ?zzzb; (case zzza => assumption); (case zzzb => first | decide | (refine Nat.succ_le_succ (Nat.le_trans ?_ (by assumption)); decide))) | (dsimp only [top]; omega)); (case zzhu => first | (refine' room_u ?zzza ?zzzb; (case zzza => assumption); (case zzzb => first | decide | (refine Nat.succ_le_succ (Nat.le_trans ?_ (by assumption)); decide))) | (dsimp only [top]; omega))); intro r' own' h' tk' F' N' hdis' hr'; obtain ⟨t', hr1, hr2⟩ := hr'; subst hr1; subst hr2; (try simp only [List.nil_append] at N'))) | walk1) | (leave1; (try dsimp only)) | fail "no step")
  all_goals (try k_data)
  all_goals (try (exfalso; omega))
  all_goals (try (exfalso; rename decide _ = true => h9; simp at h9; done))
  all_goals (try (exfalso; rename _ < (0 : Int) => h9; simp at h9; omega))
  show R (.ok (.ret _)) _
  rename Fr _ _ _ _ => F9
  refine hret _ g [] _ _ rfl F9.keep (fun _ h => nomatch h) ⟨⟨_, congrArg (fun x => Value.int x _) ?_⟩, rfl⟩
  rw [endF, hc]
  simp only [List.getD_cons_zero]
  have e := congrArg List.length (encs_split cs z.toNat)
  rw [List.length_append] at e
  have e2 : (List.drop z.toNat (cs.map fun c => (((enc c).length : Nat) : Int))).sum = (((encs (cs.drop z.toNat)).length : Nat) : Int) := by rw [← List.map_drop, sum_enc]
  rw [e2, enc, List.length_append]
  omega
theorem sp270 {w : World} {mean : ExcName → Option Value} {mg mb : Str → Option Value} : ∀ (zs : List Int) (t c : Tr), t.wt ≤ 4300 → (∀ z ∈ zs, 0 ≤ z ∧ z ≤ 100) → zs.length ≤ 3 → treeGet t zs = some c → EndSpec w mean mg mb t zs (55 + zs.length)
  | [], t, c, hw, hz, hl, hc => fun v l ws hi => by
    cases hi
    exact sp270nil t hw v l
  | z :: zs, .leaf b, c, hw, hz, hl, hc => by rw [treeGet] at hc; cases hc
  | z :: zs, .node cs, c, hw, hz, hl, hc => fun v l ws hi => by
    rw [treeGet] at hc
    cases hcc : cs[z.toNat]? with
    | none => rw [hcc] at hc; cases hc
    | some d =>
      rw [hcc] at hc
      have hd : d.wt ≤ 4300 := by
        have := wts_mem (List.mem_of_getElem? hcc)
        rw [Tr.wt] at hw; omega
      have IH := sp270 (w := w) (mean := mean) (mg := mg) (mb := mb) zs d c hd (fun y hy => hz y (List.mem_cons_of_mem _ hy)) (by simp at hl; omega) hc
      cases hi with
      | cons _ tz hi =>
        intro dp un gd base outer g s R S hg hsz ho hpp hd1 hu1 hret hexc
        obtain ⟨hT, hgl⟩ := hpp
        rw [TreeAt] at hT
        obtain ⟨a, vs, rfl, h1, h2⟩ := hT
        exact sp270cons z zs cs d hw a vs l tz _ hi (hz z (List.mem_cons_self ..)).1 (by simp at hl; omega) hcc (55 + zs.length) (by omega) IH dp un gd base outer g s R S hg hsz ho ⟨⟨h1, h2⟩, hgl⟩ hd1 hu1 hret hexc


end T_M33
section T_M34
open PySem PySem.W PyProof.Rows PySem.Spec PySem.Calls
set_option maxRecDepth 100000
set_option maxHeartbeats 1000000




theorem digs_hz (n : Nat) : (cutI (digs n) 0 1 == [0]) = false := by
  refine beq_false_of_ne fun q => ?_
  cases hd : digs n with
  | nil => rw [hd] at q; simp [cutI, cut] at q
  | cons c u =>
    rw [hd] at q
    have : c = 0 := by simpa [cutI, cut] using q
    exact digs_head n c u hd (by rw [this]; rfl)
noncomputable def AllDigs (pt : PT) (zs : List Int) : Prop := ∀ t, ptGet pt zs = some t → ∃ n, t = .leaf (digs n) ∧ n < 256 ^ 8
theorem alldigs_get {pt : PT} {zs : List Int} {t : PT} {st : List LG} {v : Value} (h : AllDigs pt zs) (e : ptGet pt zs = some t) (k : ElOk st .none v t) : ∃ n tb, ptGet pt zs = some (.leaf (digs n)) ∧ v = .bytes (digs n).toArray tb ∧ (digs n).length ≤ 8 ∧ (cutI (digs n) 0 1 == [0]) = false := by
  obtain ⟨n, rfl, hn⟩ := h t e
  obtain ⟨tb, rfl⟩ := leaf_of k
  exact ⟨n, tb, e, rfl, digs_len hn, digs_hz n⟩
theorem sp163b {w : World} {mean : ExcName → Option Value} {mg mb : Str → Option Value} (X : List UInt8) (t1 : Tok) (pt : PT) (hx : X.length ≤ 100000) (hf : Fits X 0 pt) (hl : pt.len = X.length)
    (k : Nat) (tk : Tok) (hk : k ≤ 100) (hok : PtOk pt [(k : Int)]) :
  Spec w mean mg mb 163 22 ⟨[.bytes X.toArray t1, .int k tk], []⟩ true (fun _ => True) []
    (fun r own' => ∃ st t, own' = objsOf w st ∧ Good st ∧ ptGet pt [(k : Int)] = some t ∧ ElOk st .none r t) (fun cls c own' => cls = .type "IndexError" ∧ ptGet pt [(k : Int)] = none ∧ own' = []) := by
  intro dp un gd base outer g s R S hg hsz ho hpp hd1 hu1 hret hexc
  have kdX := S.dicts
  have XB := S.inB
  have TB := S.topB
  refine enter S hg hsz ho (by k_is) (by k_is) (room_0 hd1) (binds_K (S.inK.keeps hg) rfl (by k_is) rfl rfl rfl) (locs rfl) ?_ rfl rfl rfl (by decide)
  intro L' h₁ tk₁ hst hL F N B XX T M₁ en₁ A₁
  (try dsimp only)
  k_fold
  repeat' (first | (k_unfold; (try dsimp only)) | (k_end; wrow_close) | ((with_reducible show wpAny _ _ (exec (Stmt.For (Expr.Name _ _) (Expr.Name _ _) _ _ _) _) _ _ _); with_reducible (k_here; k_dflt (refine' For_S ?zzS ?zzhx ?zzhp ?_ ?zzhs ?zzhE; (case zzS => assumption); (case zzhx => exact rfl); (case zzhp => exact rfl); (case zzhs => (intro _; with_unfolding_all rfl)); (case zzhE => first | passes_own | with_unfolding_all passes_own)))) | ((with_reducible show wpAny _ _ (call (Value.builtin _) _) _ _ _); with_reducible (k_here; (with_reducible show wpAny _ _ (call _ [Value.ref _, Value.ref _]) _ _ _); k_dflt (first | (refine' kia_tup kitx_list ?zzX ?zzc ?zzp ?zzee ?zznb ?_; (case zzc => exact kitAt_gl (by k_asm) (by assumption)); (case zzX => k_in); (case zzp => kit_tp); (case zzee => kit_is); (case zznb => kit_nb); k_whole; intro _) | (refine' kia_tup kitx_tuple ?zzX ?zzc ?zzp ?zzee ?zznb ?_; (case zzc => exact kitAt_gt (by k_asm) (by assumption)); (case zzX => k_in); (case zzp => kit_tp); (case zzee => kit_is); (case zznb => kit_nb); k_whole; intro _) | (refine' isi_lazy_tup ?zzX ?zzN ?zzhl ?zzp ?zzee ?_; (case zzp => kit_tp); (case zzX => k_in); (case zzN => exact News.right (News.tail1 (by k_asm))); (case zzhl => assumption); (case zzee => kit_is); k_whole; intro _)))) | ((with_reducible show wpAny _ _ (subscriptTail _ _ _ _) _ _ _); with_reducible (k_here; (with_reducible show wpAny _ _ (subscriptTail _ _ (Value.ref _) (Value.int _ _)) _ _ _); k_dflt (refine' lazy_get ?zzS ?zzF ?zzNr ?zzNo ?zzhdis ?zzG ?zzhl ?zzhi ?zzhz ?zzkK ?zzkA ?zzhd ?zzhu ?_ ?_ ?zzhsl; (case zzkA => exact rfl); (case zzS => assumption); (case zzF => k_asm); (case zzNo => exact News.right (News.tail1 (by k_asm))); (case zzNr => exact News.left (News.tail1 (by k_asm))); (case zzhdis => assumption); (case zzkK => exact rfl); (case zzG => assumption); (case zzhl => assumption); (case zzhi => omega); (case zzhz => assumption); (case zzhsl => with_unfolding_all rfl); (case zzhd => first | (refine' room_d ?zzza ?zzzb; (case zzza => assumption); (case zzzb => first | decide | (refine Nat.succ_le_succ (Nat.le_trans ?_ (by assumption)); decide))) | (dsimp only [top]; omega)); (case zzhu => first | (refine' room_u ?zzza ?zzzb; (case zzza => assumption); (case zzzb => first | decide | (refine Nat.succ_le_succ (Nat.le_trans ?_ (by assumption)); decide))) | (dsimp only [top]; omega))); (intro v' h₀' st' h' tk' t' T' S' F' N' hd' G' ext' ht' he'; (have X' := Site.inK S'); (have P' := Site.top S'); (have D' := Site.dicts S')); rotate_left; (intro e' c' Gr' st' h' tk' hX' FG' hU' hle' G' ext'); rotate_left)) | ((with_reducible show wpAny _ _ (leaving _ _) _ _ _); with_reducible (k_here; k_dflt (first | (refine' leave_onX ?zzk1 ?zzk2 ?zzk3 ?zzk4 ?_; (case zzk3 => assumption); (case zzk2 => assumption); (case zzk1 => exact Site.below (by assumption)); (case zzk4 => assumption); k_whole; intro h' S' U'; (try dsimp only at S' U' ⊢)) | (refine' leave_newE ?zzk1 ?zzk0 ?zzk2 ?zzk3 ?_; (case zzk0 => assumption); (case zzk2 => assumption); (case zzk1 => exact Site.below (by assumption)); (case zzk3 => k_asm); k_whole; intro h' S' U'; (try dsimp only at S' U' ⊢))))) | ((with_reducible show wpAny _ _ (execs (_ :: _) _) _ _ _); with_reducible (refine wpAny_execs_cons ?_; (try k_fold))) | ((with_reducible show wpAny _ _ (pyIter (Value.ref _)) _ _ _); with_reducible (k_here; k_dflt (refine' peek_iter ?zzS ?zzhh ?zzhit ?zzhln ?zzhi ?zzhr ?zzhok ?zzG ?zzhe ?zzF ?zzN ?zzhb ?_ ?_ ?_; (case zzS => assumption); (case zzhh => exact rfl); (case zzhok => assumption); (case zzG => assumption); (case zzhe => assumption); (case zzF => k_asm); (case zzN => first | k_asm | exact News.tail1 (by k_asm) | exact News.tail1 (News.tail1 (by k_asm))); (case zzhit => first | exact it_stays (Fr.keep (by k_asm)) (by assumption) | exact .inl (News.isList (by k_asm) (List.mem_cons_self ..))); (case zzhi => first | assumption | exact IntsAre.cons _ _ IntsAre.nil); (case zzhr => first | assumption | (simp; omega)); (case zzhln => first | exact off_gr (News.tail1 (by k_asm)) (by assumption) | exact off_gr (by k_asm) (by assumption) | (intro p hp; exact Nat.ne_of_lt (‹∀ q ∈ _, q.1 < _› p (List.mem_cons_of_mem _ hp))) | (intro p hp; exact Nat.ne_of_lt (‹∀ q ∈ _, q.1 < _› p hp))); (case zzhb => exact rfl)); (intro i' k' tz' b' tb' o' h' tk' own' g' T' S' hk' hg' F' N'; (have X' := Site.inK S'); (have P' := Site.top S'); (have D' := Site.dicts S')); rotate_left; (intro i' k' tz' x' due' rem' st' o' h' tk' own' g' T' S' hk' G' hl' hz' hg' hc' hd' F' N'; (have X' := Site.inK S'); (have P' := Site.top S'); (have D' := Site.dicts S')); rotate_left; (intro h' tk' o' g' st' t' v' T' S' G' hg' he' F' N'; (have X' := Site.inK S'); (have P' := Site.top S'); (have D' := Site.dicts S')); rotate_left)) | ((with_reducible show wpAny _ _ (storeName _ _ _) _ _ _); with_reducible (k_here; k_dflt (refine' storeP ?zzF ?zzN ?_ ?zza ?zzb; (case zzF => k_asm); (case zzN => k_asm); (case zza => rfl); (case zzb => rfl); k_whole; intro h' tk' F' N'; (try k_sweep)))) | ((with_reducible show wpAny _ _ (call (Value.ref _) _) _ _ _); with_reducible (k_here; (with_reducible show wpAny _ _ (call (Value.ref 105) _) _ _ _); k_dflt (refine' call0 (dec_P _ _ _ ?zzhx ?zzhf ?zzhl) ?zzS ?zzF ?zzN ?zzkK ?zzkA ?zzpre ?zzhd ?zzhu ?_; (case zzkA => exact rfl); (case zzS => assumption); (case zzF => k_asm); (case zzN => k_asm); (case zzkK => exact rfl); (case zzpre => exact fun _ _ _ => trivial); (case zzhx => assumption); (case zzhf => assumption); (case zzhl => assumption); (case zzhd => first | (refine' room_d ?zzza ?zzzb; (case zzza => assumption); (case zzzb => first | decide | (refine Nat.succ_le_succ (Nat.le_trans ?_ (by assumption)); decide))) | (dsimp only [top]; omega)); (case zzhu => first | (refine' room_u ?zzza ?zzzb; (case zzza => assumption); (case zzzb => first | decide | (refine Nat.succ_le_succ (Nat.le_trans ?_ (by assumption)); decide))) | (dsimp only [top]; omega))); intro r' own' h' tk' F' N' hdis' hr'; obtain ⟨st', hr1, hr2, hr3⟩ := hr'; subst hr1; replace N' := News.left N')) | ((with_reducible show wpAny _ _ (newList _) _ _ _); with_reducible (k_here; k_dflt (refine' newList_K ?zzk1 ?zzk2 ?_; (case zzk1 => k_asm); (case zzk2 => k_asm); k_whole); intro l' h' F' N' l1)) | walk1 | (dsimp only; first | ((with_reducible show wpAny _ _ (exec (Stmt.For (Expr.Name _ _) (Expr.Name _ _) _ _ _) _) _ _ _); with_reducible (k_here; k_dflt (refine' For_S ?zzS ?zzhx ?zzhp ?_ ?zzhs ?zzhE; (case zzS => assumption); (case zzhx => exact rfl); (case zzhp => exact rfl); (case zzhs => (intro _; with_unfolding_all rfl)); (case zzhE => first | passes_own | with_unfolding_all passes_own)))) | ((with_reducible show wpAny _ _ (call (Value.builtin _) _) _ _ _); with_reducible (k_here; (with_reducible show wpAny _ _ (call _ [Value.ref _, Value.ref _]) _ _ _); k_dflt (first | (refine' kia_tup kitx_list ?zzX ?zzc ?zzp ?zzee ?zznb ?_; (case zzc => exact kitAt_gl (by k_asm) (by assumption)); (case zzX => k_in); (case zzp => kit_tp); (case zzee => kit_is); (case zznb => kit_nb); k_whole; intro _) | (refine' kia_tup kitx_tuple ?zzX ?zzc ?zzp ?zzee ?zznb ?_; (case zzc => exact kitAt_gt (by k_asm) (by assumption)); (case zzX => k_in); (case zzp => kit_tp); (case zzee => kit_is); (case zznb => kit_nb); k_whole; intro _) | (refine' isi_lazy_tup ?zzX ?zzN ?zzhl ?zzp ?zzee ?_; (case zzp => kit_tp); (case zzX => k_in); (case zzN => exact News.right (News.tail1 (by k_asm))); (case zzhl => assumption); (case zzee => kit_is); k_whole; intro _)))) | ((with_reducible show wpAny _ _ (subscriptTail _ _ _ _) _ _ _); with_reducible (k_here; (with_reducible show wpAny _ _ (subscriptTail _ _ (Value.ref _) (Value.int _ _)) _ _ _); k_dflt (refine' lazy_get ?zzS ?zzF ?zzNr ?zzNo ?zzhdis ?zzG ?zzhl ?zzhi ?zzhz ?zzkK ?zzkA ?zzhd ?zzhu ?_ ?_ ?zzhsl; (case zzkA => exact rfl); (case zzS => assumption); (case zzF => k_asm); (case zzNo => exact News.right (News.tail1 (by k_asm))); (case zzNr => exact News.left (News.tail1 (by k_asm))); (case zzhdis => assumption); (case zzkK => exact rfl); (case zzG => assumption); (case zzhl => assumption); (case zzhi => omega); (case zzhz => assumption); (case zzhsl => with_unfolding_all rfl); (case zzhd => first | (refine' room_d ?zzza ?zzzb; (case zzza => assumption); (case zzzb => first | decide | (refine Nat.succ_le_succ (Nat.le_trans ?_ (by assumption)); decide))) | (dsimp only [top]; omega)); (case zzhu => first | (refine' room_u ?zzza ?zzzb; (case zzza => assumption); (case zzzb => first | decide | (refine Nat.succ_le_succ (Nat.le_trans ?_ (by assumption)); decide))) | (dsimp only [top]; omega))); (intro v' h₀' st' h' tk' t' T' S' F' N' hd' G' ext' ht' he'; (have X' := Site.inK S'); (have P' := Site.top S'); (have D' := Site.dicts S')); rotate_left; (intro e' c' Gr' st' h' tk' hX' FG' hU' hle' G' ext'); rotate_left)) | ((with_reducible show wpAny _ _ (leaving _ _) _ _ _); with_reducible (k_here; k_dflt (first | (refine' leave_onX ?zzk1 ?zzk2 ?zzk3 ?zzk4 ?_; (case zzk3 => assumption); (case zzk2 => assumption); (case zzk1 => exact Site.below (by assumption)); (case zzk4 => assumption); k_whole; intro h' S' U'; (try dsimp only at S' U' ⊢)) | (refine' leave_newE ?zzk1 ?zzk0 ?zzk2 ?zzk3 ?_; (case zzk0 => assumption); (case zzk2 => assumption); (case zzk1 => exact Site.below (by assumption)); (case zzk3 => k_asm); k_whole; intro h' S' U'; (try dsimp only at S' U' ⊢))))) | ((with_reducible show wpAny _ _ (execs (_ :: _) _) _ _ _); with_reducible (refine wpAny_execs_cons ?_; (try k_fold))) | ((with_reducible show wpAny _ _ (pyIter (Value.ref _)) _ _ _); with_reducible (k_here; k_dflt (refine' peek_iter ?zzS ?zzhh ?zzhit ?zzhln ?zzhi ?zzhr ?zzhok ?zzG ?zzhe ?zzF ?zzN ?zzhb ?_ ?_ ?_; (case zzS => assumption); (case zzhh => exact rfl); (case zzhok => assumption); (case zzG => assumption); (case zzhe => assumption); (case zzF => k_asm); (case zzN => first | k_asm | exact News.tail1 (by k_asm) | exact News.tail1 (News.tail1 (by k_asm))); (case zzhit => first | exact it_stays (Fr.keep (by k_asm)) (by assumption) | exact .inl (News.isList (by k_asm) (List.mem_cons_self ..))); (case zzhi => first | assumption | exact IntsAre.cons _ _ IntsAre.nil); (case zzhr => first | assumption | (simp; omega)); (case zzhln => first | exact off_gr (News.tail1 (by k_asm)) (by assumption) | exact off_gr (by k_asm) (by assumption) | (intro p hp; exact Nat.ne_of_lt (‹∀ q ∈ _, q.1 < _› p (List.mem_cons_of_mem _ hp))) | (intro p hp; exact Nat.ne_of_lt (‹∀ q ∈ _, q.1 < _› p hp))); (case zzhb => exact rfl)); (intro i' k' tz' b' tb' o' h' tk' own' g' T' S' hk' hg' F' N'; (have X' := Site.inK S'); (have P' := Site.top S'); (have D' := Site.dicts S')); rotate_left; (intro i' k' tz' x' due' rem' st' o' h' tk' own' g' T' S' hk' G' hl' hz' hg' hc' hd' F' N'; (have X' := Site.inK S'); (have P' := Site.top S'); (have D' := Site.dicts S')); rotate_left; (intro h' tk' o' g' st' t' v' T' S' G' hg' he' F' N'; (have X' := Site.inK S'); (have P' := Site.top S'); (have D' := Site.dicts S')); rotate_left)) | ((with_reducible show wpAny _ _ (storeName _ _ _) _ _ _); with_reducible (k_here; k_dflt (refine' storeP ?zzF ?zzN ?_ ?zza ?zzb; (case zzF => k_asm); (case zzN => k_asm); (case zza => rfl); (case zzb => rfl); k_whole; intro h' tk' F' N'; (try k_sweep)))) | ((with_reducible show wpAny _ _ (call (Value.ref _) _) _ _ _); with_reducible (k_here; (with_reducible show wpAny _ _ (call (Value.ref 105) _) _ _ _); k_dflt (refine' call0 (dec_P _ _ _ ?zzhx ?zzhf ?zzhl) ?zzS ?zzF ?zzN ?zzkK ?zzkA ?zzpre ?zzhd ?zzhu ?_; (case zzkA => exact rfl); (case zzS => assumption); (case zzF => k_asm); (case zzN => k_asm); (case zzkK => exact rfl); (case zzpre => exact fun _ _ _ => trivial); (case zzhx => assumption); (case zzhf => assumption); (case zzhl => assumption); (case zzhd => first | (refine' room_d ?zzza ?zzzb; (case zzza => assumption); (case zzzb => first | decide | (refine Nat.succ_le_succ (Nat.le_trans ?_ (by assumption)); decide))) | (dsimp only [top]; omega)); (case zzhu => first | (refine' room_u ?zzza ?zzzb; (case zzza => assumption); (case zzzb => first | decide | (refine Nat.succ_le_succ (Nat.le_trans ?_ (by assumption)); decide))) | (dsimp only [top]; omega))); intro r' own' h' tk' F' N' hdis' hr'; obtain ⟨st', hr1, hr2, hr3⟩ := hr'; subst hr1; replace N' := News.left N')) | ((with_reducible show wpAny _ _ (newList _) _ _ _); with_reducible (k_here; k_dflt (refine' newList_K ?zzk1 ?zzk2 ?_; (case zzk1 => k_asm); (case zzk2 => k_asm); k_whole); intro l' h' F' N' l1)) | walk1) | (leave1; (try dsimp only)) | fail "no step")
  all_goals (try k_data)
  all_goals (try (exfalso; omega))
  all_goals first
    | (show R (.ok (.ret _)) _
       rename Fr _ _ _ _ => F9
       rename News _ _ _ _ => N9
       rename KtsTurn _ _ _ => T9
       exact hret _ _ _ _ _ (by simpa using T9) F9.keep (News.owns N9) ⟨_, _, rfl, by assumption, by assumption, by assumption⟩)
    | (rename RaisedSX _ _ _ _ _ _ _ _ => S9
       rename Heap.UpToSlots _ _ => U9
       rename KtsTurn _ _ _ => T9
       refine hexc _ _ _ _ _ _ ((S9.sub (news' := []) fun _ h => nomatch h).unturn T9) (upTo_unturn T9 U9) ⟨rfl, ?_, rfl⟩
       first | assumption | exact ‹_ → ptGet pt _ = none› (by assumption))
    | skip
  all_goals (
    rename Fr _ _ _ _ => F9
    rename News _ _ _ _ => N9
    rename KtsTurn _ _ _ => T9
    rename ∀ c, _ = some c → _ ∧ _ => hc9
    obtain ⟨c9, k9⟩ := hc9 _ (by assumption)
    refine ⟨_, _, _, _, _, rfl, T9, F9, N9, by assumption, fun y hy => ?_, _, _, _, rfl, by assumption, c9, k9, rfl, by assumption⟩
    simp only [List.mem_cons, List.not_mem_nil, or_false, not_or] at hy
    simp only [hy.1, hy.2, if_false, put])
theorem sp163c {w : World} {mean : ExcName → Option Value} {mg mb : Str → Option Value} (X : List UInt8) (t1 : Tok) (pt : PT) (hx : X.length ≤ 100000) (hf : Fits X 0 pt) (hl : pt.len = X.length)
    (k : Nat) (tk : Tok) (hk : k ≤ 100) (hok : PtOk pt [(k : Int)]) (hall : AllDigs pt [(k : Int)]) (hne : ptGet pt [(k : Int)] ≠ none) :
  Spec w mean mg mb 163 22 ⟨[.bytes X.toArray t1, .int k tk, .ref 201], []⟩ true (fun _ => True) []
    (fun r own' => own' = [] ∧ ∃ n ta, ptGet pt [(k : Int)] = some (.leaf (digs n)) ∧ r = .int (n : Nat) ta) (fun _ _ _ => False) := by
  intro dp un gd base outer g s R S hg hsz ho hpp hd1 hu1 hret hexc
  have kdX := S.dicts
  have XB := S.inB
  have TB := S.topB
  refine enter S hg hsz ho (by k_is) (by k_is) (room_0 hd1) (binds_K (S.inK.keeps hg) rfl (by k_is) rfl rfl rfl) (locs rfl) ?_ rfl rfl rfl (by decide)
  intro L' h₁ tk₁ hst hL F N B XX T M₁ en₁ A₁
  (try dsimp only)
  k_fold
  repeat' (first | (k_unfold; (try dsimp only)) | (k_end; wrow_close) | ((with_reducible show wpAny _ _ (exec (Stmt.For (Expr.Name _ _) (Expr.Name _ _) _ _ _) _) _ _ _); with_reducible (k_here; k_dflt (refine' For_S ?zzS ?zzhx ?zzhp ?_ ?zzhs ?zzhE; (case zzS => assumption); (case zzhx => exact rfl); (case zzhp => exact rfl); (case zzhs => (intro _; with_unfolding_all rfl)); (case zzhE => first | passes_own | with_unfolding_all passes_own)))) | ((with_reducible show wpAny _ _ (call (Value.builtin _) _) _ _ _); with_reducible (k_here; (with_reducible show wpAny _ _ (call _ [Value.ref _, Value.ref _]) _ _ _); k_dflt (first | (refine' kia_tup kitx_list ?zzX ?zzc ?zzp ?zzee ?zznb ?_; (case zzc => exact kitAt_gl (by k_asm) (by assumption)); (case zzX => k_in); (case zzp => kit_tp); (case zzee => kit_is); (case zznb => kit_nb); k_whole; intro _) | (refine' kia_tup kitx_tuple ?zzX ?zzc ?zzp ?zzee ?zznb ?_; (case zzc => exact kitAt_gt (by k_asm) (by assumption)); (case zzX => k_in); (case zzp => kit_tp); (case zzee => kit_is); (case zznb => kit_nb); k_whole; intro _) | (refine' isi_lazy_tup ?zzX ?zzN ?zzhl ?zzp ?zzee ?_; (case zzp => kit_tp); (case zzX => k_in); (case zzN => exact News.right (News.tail1 (by k_asm))); (case zzhl => assumption); (case zzee => kit_is); k_whole; intro _)))) | ((with_reducible show wpAny _ _ (subscriptTail _ _ _ _) _ _ _); with_reducible (k_here; (with_reducible show wpAny _ _ (subscriptTail _ _ (Value.ref _) (Value.int _ _)) _ _ _); k_dflt (refine' lazy_get ?zzS ?zzF ?zzNr ?zzNo ?zzhdis ?zzG ?zzhl ?zzhi ?zzhz ?zzkK ?zzkA ?zzhd ?zzhu ?_ ?_ ?zzhsl; (case zzkA => exact rfl); (case zzS => assumption); (case zzF => k_asm); (case zzNo => exact News.right (News.tail1 (by k_asm))); (case zzNr => exact News.left (News.tail1 (by k_asm))); (case zzhdis => assumption); (case zzkK => exact rfl); (case zzG => assumption); (case zzhl => assumption); (case zzhi => omega); (case zzhz => assumption); (case zzhsl => with_unfolding_all rfl); (case zzhd => first | (refine' room_d ?zzza ?zzzb; (case zzza => assumption); (case zzzb => first | decide | (refine Nat.succ_le_succ (Nat.le_trans ?_ (by assumption)); decide))) | (dsimp only [top]; omega)); (case zzhu => first | (refine' room_u ?zzza ?zzzb; (case zzza => assumption); (case zzzb => first | decide | (refine Nat.succ_le_succ (Nat.le_trans ?_ (by assumption)); decide))) | (dsimp only [top]; omega))); (intro v' h₀' st' h' tk' t' T' S' F' N' hd' G' ext' ht' he'; (have X' := Site.inK S'); (have P' := Site.top S'); (have D' := Site.dicts S')); rotate_left; (intro e' c' Gr' st' h' tk' hX' FG' hU' hle' G' ext'); rotate_left)) | ((with_reducible show wpAny _ _ (leaving _ _) _ _ _); with_reducible (k_here; k_dflt (first | (refine' leave_onX ?zzk1 ?zzk2 ?zzk3 ?zzk4 ?_; (case zzk3 => assumption); (case zzk2 => assumption); (case zzk1 => exact Site.below (by assumption)); (case zzk4 => assumption); k_whole; intro h' S' U'; (try dsimp only at S' U' ⊢)) | (refine' leave_newE ?zzk1 ?zzk0 ?zzk2 ?zzk3 ?_; (case zzk0 => assumption); (case zzk2 => assumption); (case zzk1 => exact Site.below (by assumption)); (case zzk3 => k_asm); k_whole; intro h' S' U'; (try dsimp only at S' U' ⊢))))) | ((with_reducible show wpAny _ _ (execs (_ :: _) _) _ _ _); with_reducible (refine wpAny_execs_cons ?_; (try k_fold))) | ((with_reducible show wpAny _ _ (pyIter (Value.ref _)) _ _ _); with_reducible (k_here; k_dflt (refine' peek_iter ?zzS ?zzhh ?zzhit ?zzhln ?zzhi ?zzhr ?zzhok ?zzG ?zzhe ?zzF ?zzN ?zzhb ?_ ?_ ?_; (case zzS => assumption); (case zzhh => exact rfl); (case zzhok => assumption); (case zzG => assumption); (case zzhe => assumption); (case zzF => k_asm); (case zzN => first | k_asm | exact News.tail1 (by k_asm) | exact News.tail1 (News.tail1 (by k_asm))); (case zzhit => first | exact it_stays (Fr.keep (by k_asm)) (by assumption) | exact .inl (News.isList (by k_asm) (List.mem_cons_self ..))); (case zzhi => first | assumption | exact IntsAre.cons _ _ IntsAre.nil); (case zzhr => first | assumption | (simp; omega)); (case zzhln => first | exact off_gr (News.tail1 (by k_asm)) (by assumption) | exact off_gr (by k_asm) (by assumption) | (intro p hp; exact Nat.ne_of_lt (‹∀ q ∈ _, q.1 < _› p (List.mem_cons_of_mem _ hp))) | (intro p hp; exact Nat.ne_of_lt (‹∀ q ∈ _, q.1 < _› p hp))); (case zzhb => exact rfl)); (intro i' k' tz' b' tb' o' h' tk' own' g' T' S' hk' hg' F' N'; (have X' := Site.inK S'); (have P' := Site.top S'); (have D' := Site.dicts S')); rotate_left; (intro i' k' tz' x' due' rem' st' o' h' tk' own' g' T' S' hk' G' hl' hz' hg' hc' hd' F' N'; (have X' := Site.inK S'); (have P' := Site.top S'); (have D' := Site.dicts S')); rotate_left; (intro h' tk' o' g' st' t' v' T' S' G' hg' he' F' N'; (have X' := Site.inK S'); (have P' := Site.top S'); (have D' := Site.dicts S')); rotate_left)) | ((with_reducible show wpAny _ _ (storeName _ _ _) _ _ _); with_reducible (k_here; k_dflt (refine' storeP ?zzF ?zzN ?_ ?zza ?zzb; (case zzF => k_asm); (case zzN => k_asm); (case zza => rfl); (case zzb => rfl); k_whole; intro h' tk' F' N'; (try k_sweep)))) | ((with_reducible show wpAny _ _ (call (Value.ref _) _) _ _ _); with_reducible (k_here; (with_reducible show wpAny _ _ (call (Value.ref 105) _) _ _ _); k_dflt (refine' call0 (dec_P _ _ _ ?zzhx ?zzhf ?zzhl) ?zzS ?zzF ?zzN ?zzkK ?zzkA ?zzpre ?zzhd ?zzhu ?_; (case zzkA => exact rfl); (case zzS => assumption); (case zzF => k_asm); (case zzN => k_asm); (case zzkK => exact rfl); (case zzpre => exact fun _ _ _ => trivial); (case zzhx => assumption); (case zzhf => assumption); (case zzhl => assumption); (case zzhd => first | (refine' room_d ?zzza ?zzzb; (case zzza => assumption); (case zzzb => first | decide | (refine Nat.succ_le_succ (Nat.le_trans ?_ (by assumption)); decide))) | (dsimp only [top]; omega)); (case zzhu => first | (refine' room_u ?zzza ?zzzb; (case zzza => assumption); (case zzzb => first | decide | (refine Nat.succ_le_succ (Nat.le_trans ?_ (by assumption)); decide))) | (dsimp only [top]; omega))); intro r' own' h' tk' F' N' hdis' hr'; obtain ⟨st', hr1, hr2, hr3⟩ := hr'; subst hr1; replace N' := News.left N')) | ((with_reducible show wpAny _ _ (newList _) _ _ _); with_reducible (k_here; k_dflt (refine' newList_K ?zzk1 ?zzk2 ?_; (case zzk1 => k_asm); (case zzk2 => k_asm); k_whole); intro l' h' F' N' l1)) | walk1 | (dsimp only; first | ((with_reducible show wpAny _ _ (exec (Stmt.For (Expr.Name _ _) (Expr.Name _ _) _ _ _) _) _ _ _); with_reducible (k_here; k_dflt (refine' For_S ?zzS ?zzhx ?zzhp ?_ ?zzhs ?zzhE; (case zzS => assumption); (case zzhx => exact rfl); (case zzhp => exact rfl); (case zzhs => (intro _; with_unfolding_all rfl)); (case zzhE => first | passes_own | with_unfolding_all passes_own)))) | ((with_reducible show wpAny _ _ (call (Value.builtin _) _) _ _ _); with_reducible (k_here; (with_reducible show wpAny _ _ (call _ [Value.ref _, Value.ref _]) _ _ _); k_dflt (first | (refine' kia_tup kitx_list ?zzX ?zzc ?zzp ?zzee ?zznb ?_; (case zzc => exact kitAt_gl (by k_asm) (by assumption)); (case zzX => k_in); (case zzp => kit_tp); (case zzee => kit_is); (case zznb => kit_nb); k_whole; intro _) | (refine' kia_tup kitx_tuple ?zzX ?zzc ?zzp ?zzee ?zznb ?_; (case zzc => exact kitAt_gt (by k_asm) (by assumption)); (case zzX => k_in); (case zzp => kit_tp); (case zzee => kit_is); (case zznb => kit_nb); k_whole; intro _) | (refine' isi_lazy_tup ?zzX ?zzN ?zzhl ?zzp ?zzee ?_; (case zzp => kit_tp); (case zzX => k_in); (case zzN => exact News.right (News.tail1 (by k_asm))); (case zzhl => assumption); (case zzee => kit_is); k_whole; intro _)))) | ((with_reducible show wpAny _ _ (subscriptTail _ _ _ _) _ _ _); with_reducible (k_here; (with_reducible show wpAny _ _ (subscriptTail _ _ (Value.ref _) (Value.int _ _)) _ _ _); k_dflt (refine' lazy_get ?zzS ?zzF ?zzNr ?zzNo ?zzhdis ?zzG ?zzhl ?zzhi ?zzhz ?zzkK ?zzkA ?zzhd ?zzhu ?_ ?_ ?zzhsl; (case zzkA => exact rfl); (case zzS => assumption); (case zzF => k_asm); (case zzNo => exact News.right (News.tail1 (by k_asm))); (case zzNr => exact News.left (News.tail1 (by k_asm))); (case zzhdis => assumption); (case zzkK => exact rfl); (case zzG => assumption); (case zzhl => assumption); (case zzhi => omega); (case zzhz => assumption); (case zzhsl => with_unfolding_all rfl); (case zzhd => first | (refine' room_d ?zzza ?zzzb; (case zzza => assumption); (case zzzb => first | decide | (refine Nat.succ_le_succ (Nat.le_trans ?_ (by assumption)); decide))) | (dsimp only [top]; omega)); (case zzhu => first | (refine' room_u ?zzza ?zzzb; (case zzza => assumption); (case zzzb => first | decide | (refine Nat.succ_le_succ (Nat.le_trans ?_ (by assumption)); decide))) | (dsimp only [top]; omega))); (intro v' h₀' st' h' tk' t' T' S' F' N' hd' G' ext' ht' he'; (have X' := Site.inK S'); (have P' := Site.top S'); (have D' := Site.dicts S')); rotate_left; (intro e' c' Gr' st' h' tk' hX' FG' hU' hle' G' ext'); rotate_left)) | ((with_reducible show wpAny _ _ (leaving _ _) _ _ _); with_reducible (k_here; k_dflt (first | (refine' leave_onX ?zzk1 ?zzk2 ?zzk3 ?zzk4 ?_; (case zzk3 => assumption); (case zzk2 => assumption); (case zzk1 => exact Site.below (by assumption)); (case zzk4 => assumption); k_whole; intro h' S' U'; (try dsimp only at S' U' ⊢)) | (refine' leave_newE ?zzk1 ?zzk0 ?zzk2 ?zzk3 ?_; (case zzk0 => assumption); (case zzk2 => assumption); (case zzk1 => exact Site.below (by assumption)); (case zzk3 => k_asm); k_whole; intro h' S' U'; (try dsimp only at S' U' ⊢))))) | ((with_reducible show wpAny _ _ (execs (_ :: _) _) _ _ _); with_reducible (refine wpAny_execs_cons ?_; (try k_fold))) | ((with_reducible show wpAny _ _ (pyIter (Value.ref _)) _ _ _); with_reducible (k_here; k_dflt (refine' peek_iter ?zzS ?zzhh ?zzhit ?zzhln ?zzhi ?zzhr ?zzhok ?zzG ?zzhe ?zzF ?zzN ?zzhb ?_ ?_ ?_; (case zzS => assumption); (case zzhh => exact rfl); (case zzhok => assumption); (case zzG => assumption); (case zzhe => assumption); (case zzF => k_asm); (case zzN => first | k_asm | exact News.tail1 (by k_asm) | exact News.tail1 (News.tail1 (by k_asm))); (case zzhit => first | exact it_stays (Fr.keep (by k_asm)) (by assumption) | exact .inl (News.isList (by k_asm) (List.mem_cons_self ..))); (case zzhi => first | assumption | exact IntsAre.cons _ _ IntsAre.nil); (case zzhr => first | assumption | (simp; omega)); (case zzhln => first | exact off_gr (News.tail1 (by k_asm)) (by assumption) | exact off_gr (by k_asm) (by assumption) | (intro p hp; exact Nat.ne_of_lt (‹∀ q ∈ _, q.1 < _› p (List.mem_cons_of_mem _ hp))) | (intro p hp; exact Nat.ne_of_lt (‹∀ q ∈ _, q.1 < _› p hp))); (case zzhb => exact rfl)); (intro i' k' tz' b' tb' o' h' tk' own' g' T' S' hk' hg' F' N'; (have X' := Site.inK S'); (have P' := Site.top S'); (have D' := Site.dicts S')); rotate_left; (intro i' k' tz' x' due' rem' st' o' h' tk' own' g' T' S' hk' G' hl' hz' hg' hc' hd' F' N'; (have X' := Site.inK S'); (have P' := Site.top S'); (have D' := Site.dicts S')); rotate_left; (intro h' tk' o' g' st' t' v' T' S' G' hg' he' F' N'; (have X' := Site.inK S'); (have P' := Site.top S'); (have D' := Site.dicts S')); rotate_left)) | ((with_reducible show wpAny _ _ (storeName _ _ _) _ _ _); with_reducible (k_here; k_dflt (refine' storeP ?zzF ?zzN ?_ ?zza ?zzb; (case zzF => k_asm); (case zzN => k_asm); (case zza => rfl); (case zzb => rfl); k_whole; intro h' tk' F' N'; (try k_sweep)))) | ((with_reducible show wpAny _ _ (call (Value.ref _) _) _ _ _); with_reducible (k_here; (with_reducible show wpAny _ _ (call (Value.ref 105) _) _ _ _); k_dflt (refine' call0 (dec_P _ _ _ ?zzhx ?zzhf ?zzhl) ?zzS ?zzF ?zzN ?zzkK ?zzkA ?zzpre ?zzhd ?zzhu ?_; (case zzkA => exact rfl); (case zzS => assumption); (case zzF => k_asm); (case zzN => k_asm); (case zzkK => exact rfl); (case zzpre => exact fun _ _ _ => trivial); (case zzhx => assumption); (case zzhf => assumption); (case zzhl => assumption); (case zzhd => first | (refine' room_d ?zzza ?zzzb; (case zzza => assumption); (case zzzb => first | decide | (refine Nat.succ_le_succ (Nat.le_trans ?_ (by assumption)); decide))) | (dsimp only [top]; omega)); (case zzhu => first | (refine' room_u ?zzza ?zzzb; (case zzza => assumption); (case zzzb => first | decide | (refine Nat.succ_le_succ (Nat.le_trans ?_ (by assumption)); decide))) | (dsimp only [top]; omega))); intro r' own' h' tk' F' N' hdis' hr'; obtain ⟨st', hr1, hr2, hr3⟩ := hr'; subst hr1; replace N' := News.left N')) | ((with_reducible show wpAny _ _ (newList _) _ _ _); with_reducible (k_here; k_dflt (refine' newList_K ?zzk1 ?zzk2 ?_; (case zzk1 => k_asm); (case zzk2 => k_asm); k_whole); intro l' h' F' N' l1)) | walk1) | (leave1; (try dsimp only)) | fail "no step")
  all_goals (try (
    with_reducible rename ptGet _ _ = some _ => hg9
    rename ElOk _ _ _ _ => he9
    have hq9 := alldigs_get hall hg9 he9
    obtain ⟨n9, tb9, hg29, hv9, hn1, hn2⟩ := hq9
    subst hv9
    repeat' (first | (k_unfold; (try dsimp only)) | (k_end; wrow_close) | ((with_reducible show wpAny _ _ (call (Value.ref _) _) _ _ _); with_reducible (k_here; (with_reducible show wpAny _ _ (call (Value.ref 192) _) _ _ _); k_dflt (refine' call0 (sp192 _ _ ?zzhx ?zzhz) ?zzS ?zzF ?zzN ?zzkK ?zzkA ?zzpre ?zzhd ?zzhu ?_; (case zzkA => exact rfl); (case zzS => assumption); (case zzF => k_asm); (case zzN => k_asm); (case zzkK => exact rfl); (case zzpre => exact fun _ _ _ => trivial); (case zzhx => assumption); (case zzhz => assumption); (case zzhd => first | (refine' room_d ?zzza ?zzzb; (case zzza => assumption); (case zzzb => first | decide | (refine Nat.succ_le_succ (Nat.le_trans ?_ (by assumption)); decide))) | (dsimp only [top]; omega)); (case zzhu => first | (refine' room_u ?zzza ?zzzb; (case zzza => assumption); (case zzzb => first | decide | (refine Nat.succ_le_succ (Nat.le_trans ?_ (by assumption)); decide))) | (dsimp only [top]; omega))); intro r' own' h' tk' F' N' hdis' hr'; obtain ⟨t', hr1, hr2⟩ := hr'; subst hr1; subst hr2; (try simp only [List.nil_append] at N'))) | walk1 | (dsimp only; first | ((with_reducible show wpAny _ _ (call (Value.ref _) _) _ _ _); with_reducible (k_here; (with_reducible show wpAny _ _ (call (Value.ref 192) _) _ _ _); k_dflt (refine' call0 (sp192 _ _ ?zzhx ?zzhz) ?zzS ?zzF ?zzN ?zzkK ?zzkA ?zzpre ?zzhd ?zzhu ?_; (case zzkA => exact rfl); (case zzS => assumption); (case zzF => k_asm); (case zzN => k_asm); (case zzkK => exact rfl); (case zzpre => exact fun _ _ _ => trivial); (case zzhx => assumption); (case zzhz => assumption); (case zzhd => first | (refine' room_d ?zzza ?zzzb; (case zzza => assumption); (case zzzb => first | decide | (refine Nat.succ_le_succ (Nat.le_trans ?_ (by assumption)); decide))) | (dsimp only [top]; omega)); (case zzhu => first | (refine' room_u ?zzza ?zzzb; (case zzza => assumption); (case zzzb => first | decide | (refine Nat.succ_le_succ (Nat.le_trans ?_ (by assumption)); decide))) | (dsimp only [top]; omega))); intro r' own' h' tk' F' N' hdis' hr'; obtain ⟨t', hr1, hr2⟩ := hr'; subst hr1; subst hr2; (try simp only [List.nil_append] at N'))) | walk1) | (leave1; (try dsimp only)) | fail "no step")))
  all_goals (try k_data)
  all_goals (try (exfalso; omega))
  all_goals (try (exfalso; first | contradiction | exact hne (‹_ → ptGet pt _ = none› (by assumption))))
  all_goals first
    | (show R (.ok (.ret _)) _
       rename Fr _ _ _ _ => F9
       rename KtsTurn _ _ _ => T9
       exact hret _ _ [] _ _ (by simpa using T9) F9.keep (fun _ h => nomatch h) ⟨rfl, _, _, by assumption, by rw [be_digs]⟩)
    | skip
  all_goals (
    rename Fr _ _ _ _ => F9
    rename News _ _ _ _ => N9
    rename KtsTurn _ _ _ => T9
    rename ∀ c, _ = some c → _ ∧ _ => hc9
    obtain ⟨c9, k9⟩ := hc9 _ (by assumption)
    refine ⟨_, _, _, _, _, rfl, T9, F9, N9, by assumption, fun y hy => ?_, _, _, _, rfl, by assumption, c9, k9, rfl, by assumption⟩
    simp only [List.mem_cons, List.not_mem_nil, or_false, not_or] at hy
    simp only [hy.1, hy.2, if_false, put])


end T_M34
section T_M40
open PySem PySem.W PyProof.Rows PySem.Spec PySem.Calls
set_option maxRecDepth 100000
set_option maxHeartbeats 1000000




noncomputable def Hold (P : Prop) : Prop := P
theorem hold {P : Prop} (h : Hold P) : P := h
theorem unhold {P : Prop} (h : P) : Hold P := h
theorem turn0 {g g' : Heap} (T : KtsTurn [] g g') (b : Addr) : g'.get? b = g.get? b := by
  cases q : g.get? b with
  | none => exact T.none_ b q
  | some o => exact T.other b o q (by simp)
theorem fr_back {g g' h : Heap} {L : Addr} {m : Str → Option Value} (T : KtsTurn [] g g') (F : Fr g' L h m) : Fr g L h m := ⟨F.ns, fun b o e => F.keep b o (by rw [turn0 T]; exact e), by rw [← T.size]; exact F.above⟩
theorem fr_fwd {g g' h : Heap} {L : Addr} {m : Str → Option Value} (T : KtsTurn [] g g') (F : Fr g L h m) : Fr g' L h m := ⟨F.ns, fun b o e => F.keep b o (by rw [← turn0 T]; exact e), by rw [T.size]; exact F.above⟩
theorem news_back {g g' h : Heap} {L : Addr} {n : Led} (T : KtsTurn [] g g') (N : News g' L h n) : News g L h n := fun p hp => ⟨(N p hp).1, (N p hp).2.1, by rw [← turn0 T]; exact (N p hp).2.2⟩
theorem news_fwd {g g' h : Heap} {L : Addr} {n : Led} (T : KtsTurn [] g g') (N : News g L h n) : News g' L h n := fun p hp => ⟨(N p hp).1, (N p hp).2.1, by rw [turn0 T]; exact (N p hp).2.2⟩
theorem news_sub {g h : Heap} {L : Addr} {a b : Led} (N : News g L h a) (k : ∀ p ∈ b, p ∈ a) : News g L h b := fun p hp => N p (k p hp)
noncomputable def LStep (h₀ : Heap) (L : Addr) (own : Led) (J : (Str → Option Value) → Led → Prop) (s₁ : Shared) (Qr : Value → Shared → Prop) (f : Flow) (s₃ : Shared) : Prop := match f with
  | .next => ∃ h' tk m₂ news₂, s₃ = { s₁ with heap := h', toks := tk } ∧ Fr h₀ L h' m₂ ∧ News h₀ L h' (own ++ news₂) ∧ (∀ q ∈ own, ∀ p ∈ news₂, q.1 ≠ p.1) ∧ J m₂ news₂
  | .cont => ∃ h' tk m₂ news₂, s₃ = { s₁ with heap := h', toks := tk } ∧ Fr h₀ L h' m₂ ∧ News h₀ L h' (own ++ news₂) ∧ (∀ q ∈ own, ∀ p ∈ news₂, q.1 ≠ p.1) ∧ J m₂ news₂
  | .ret v => Qr v s₃
  | .brk => False
section
variable {w : World} {mean : ExcName → Option Value} {mg mb : Str → Option Value} {base h₀ : Heap} {s : Shared} {dp un : Nat} {gd : Option (List Code)}
variable {cn : Str} {csc : Scope} {L a : Addr} {ccd : Value} {m : Str → Option Value} {A : Around} {Rt : Led}
theorem LStep.own {g₁ : Heap} {own : Led} {J : (Str → Option Value) → Led → Prop} {J' : Heap → (Str → Option Value) → Led → Prop} {s₁ s₃ : Shared} {Qr : Value → Shared → Prop} {f : Flow} (T : KtsTurn [] h₀ g₁) (hJ : ∀ m n, J m n → J' g₁ m n) (h : LStep h₀ L own J s₁ Qr f s₃) : OwnStep [] L g₁ own J' s₁ Qr f s₃ := by
  cases f with
  | next =>
    obtain ⟨h', tk, m₂, n₂, e, F, N, D, j⟩ := h
    exact ⟨h', tk, m₂, n₂, g₁, e, KtsTurn.refl, fr_fwd T F, news_fwd T N, D, hJ _ _ j⟩
  | cont =>
    obtain ⟨h', tk, m₂, n₂, e, F, N, D, j⟩ := h
    exact ⟨h', tk, m₂, n₂, g₁, e, KtsTurn.refl, fr_fwd T F, news_fwd T N, D, hJ _ _ j⟩
  | ret v => exact h
  | brk => exact h
theorem Iter_list_L {env : Env} {E : Value → Shared → Prop} {Q : Flow → Shared → Prop} {x : Str} {body : List Stmt} {l : Addr} {items : Array Value} {news : Led}
    (K : Nat → (Str → Option Value) → Led → Prop) (hh : A.handled = none) (hl : s.heap.IsList l items) (hln : ∀ p ∈ news, p.1 ≠ l)
    (F : Fr h₀ env.locals s.heap m) (N : News h₀ env.locals s.heap news) (h0 : K 0 m news)
    (step : ∀ (i : Nat) v m₁ news₁ h₁ tk₁ own, items[i]? = some v → K i m₁ news₁ → (∀ q ∈ own, ∀ p ∈ news₁, q.1 ≠ p.1) →
      Fr h₀ env.locals h₁ (fun y => if y = x then some v else m₁ y) → News h₀ env.locals h₁ (own ++ news₁) →
      wpAny (model PG w) A (execs body env) (LStep h₀ env.locals own (K (i + 1)) { s with heap := h₁, toks := tk₁ } (fun v s' => Q (.ret v) s')) E { s with heap := h₁, toks := tk₁ })
    (done : ∀ h' tk m' news', K items.size m' news' → Fr h₀ env.locals h' m' → News h₀ env.locals h' news' → Q .next { s with heap := h', toks := tk }) :
    wpAny (model PG w) A (pyIter (.ref l)) (fun it s₂ => LoopO w A (frs []) env x body Q E it s₂) E s := by
  obtain ⟨ol, hol, hlc, hln', hld⟩ := id hl
  refine Iter_list_own (fun i _ m' n => K i m' n) hh hl (by simp) hln ?_ F N h0 (fun b hb => by simp at hb)
    (fun i v m₁ news₁ h₁ tk₁ own g₁ hv T hJ hd F₁ N₁ => wpAny_mono (step i v m₁ news₁ h₁ tk₁ own hv hJ hd (fr_back T F₁) (news_back T N₁)) (fun f s₃ h => LStep.own T (fun _ _ j => j) h) fun _ _ e => e)
    (fun h' tk m' news' g' T F' N' hJ => done h' tk m' news' hJ (fr_back T F') (news_back T N'))
  rintro rfl
  obtain ⟨oL, es, ep, h1, h2, _⟩ := F.ns
  rw [hol] at h1; cases h1
  rw [hld] at h2; cases h2
theorem Iter_tuple_L {env : Env} {E : Value → Shared → Prop} {Q : Flow → Shared → Prop} {x : Str} {body : List Stmt} {l : Addr} {items : Array Value} {news : Led}
    (K : Nat → (Str → Option Value) → Led → Prop) (hh : A.handled = none) (hl : s.heap.IsTuple l items) (hln : ∀ p ∈ news, p.1 ≠ l)
    (F : Fr h₀ env.locals s.heap m) (N : News h₀ env.locals s.heap news) (h0 : K 0 m news)
    (step : ∀ (i : Nat) v m₁ news₁ h₁ tk₁ own, items[i]? = some v → K i m₁ news₁ → (∀ q ∈ own, ∀ p ∈ news₁, q.1 ≠ p.1) →
      Fr h₀ env.locals h₁ (fun y => if y = x then some v else m₁ y) → News h₀ env.locals h₁ (own ++ news₁) →
      wpAny (model PG w) A (execs body env) (LStep h₀ env.locals own (K (i + 1)) { s with heap := h₁, toks := tk₁ } (fun v s' => Q (.ret v) s')) E { s with heap := h₁, toks := tk₁ })
    (done : ∀ h' tk m' news', K items.size m' news' → Fr h₀ env.locals h' m' → News h₀ env.locals h' news' → Q .next { s with heap := h', toks := tk }) :
    wpAny (model PG w) A (pyIter (.ref l)) (fun it s₂ => LoopO w A (frs []) env x body Q E it s₂) E s := by
  obtain ⟨ol, hol, hlc, hln', hld⟩ := id hl
  refine Iter_tuple_own (fun i _ m' n => K i m' n) hh hl (by simp) hln ?_ F N h0 (fun b hb => by simp at hb)
    (fun i v m₁ news₁ h₁ tk₁ own g₁ hv T hJ hd F₁ N₁ => wpAny_mono (step i v m₁ news₁ h₁ tk₁ own hv hJ hd (fr_back T F₁) (news_back T N₁)) (fun f s₃ h => LStep.own T (fun _ _ j => j) h) fun _ _ e => e)
    (fun h' tk m' news' g' T F' N' hJ => done h' tk m' news' hJ (fr_back T F') (news_back T N'))
  rintro rfl
  obtain ⟨oL, es, ep, h1, h2, _⟩ := F.ns
  rw [hol] at h1; cases h1
  rw [hld] at h2; cases h2

variable {f : Addr} {vs : List Value} {own : Led} {cost : Nat} {Pre : Heap → Prop} {Ret : Value → Led → Prop} {Exc : Value → Value → Led → Prop} {Q E : Value → Shared → Prop}
/-- a call of the law: all but own stands -/
theorem callL (C : Spec w mean mg mb f cost ⟨vs, []⟩ true Pre own Ret Exc) (S : Site w mean mg mb base [] h₀) (F : Fr h₀ L s.heap m) (N : News h₀ L s.heap (Rt ++ own))
    (D : ∀ p ∈ Rt, ∀ q ∈ own, p.1 ≠ q.1) (hck : csc.kind = .function) (hA : A = top dp un gd (envOf cn csc L a ccd :: [])) (hpre : ∀ G : Heap, h₀.StaysIn G → (∀ p ∈ Rt, G.get? p.1 = some p.2) → Pre G)
    (hd : dp + cost < recursionLimit) (hu : un + 8 * cost < cLine)
    (ret : ∀ r own' h' tk, Fr h₀ L h' m → News h₀ L h' (Rt ++ own') → (∀ p ∈ Rt, ∀ q ∈ own', p.1 ≠ q.1) → Ret r own' → Q r { s with heap := h', toks := tk })
    (exc : ∀ e cls c G own' h' tk, RaisedSX base G (envOf cn csc L a ccd :: []) e cls c (Rt ++ own') h' → Fr h₀ L G m → G.UpToSlots h' → Exc cls c own' → E (.ref e) { s with heap := h', toks := tk }) :
    wpAny (model PG w) A (call (.ref f) vs) Q E s :=
  callT C S F (News.left N) (News.right N) D hck hA hpre hd hu (fun r h₀' own' h' tk T S' F' N' D' hr => ret r own' h' tk (fr_back T F') (news_back T N') D' hr) exc
theorem callL' (C : Spec w mean mg mb f cost ⟨vs, []⟩ true Pre own Ret (fun _ _ _ => False)) (S : Site w mean mg mb base [] h₀) (F : Fr h₀ L s.heap m) (N : News h₀ L s.heap (Rt ++ own))
    (D : ∀ p ∈ Rt, ∀ q ∈ own, p.1 ≠ q.1) (hck : csc.kind = .function) (hA : A = top dp un gd (envOf cn csc L a ccd :: [])) (hpre : ∀ G : Heap, h₀.StaysIn G → (∀ p ∈ Rt, G.get? p.1 = some p.2) → Pre G)
    (hd : dp + cost < recursionLimit) (hu : un + 8 * cost < cLine)
    (ret : ∀ r own' h' tk, Fr h₀ L h' m → News h₀ L h' (Rt ++ own') → (∀ p ∈ Rt, ∀ q ∈ own', p.1 ≠ q.1) → Ret r own' → Q r { s with heap := h', toks := tk }) :
    wpAny (model PG w) A (call (.ref f) vs) Q E s := callL C S F N D hck hA hpre hd hu ret fun _ _ _ _ _ _ _ _ _ _ h => h.elim
/-- a call of the law with nothing handed over -/
theorem callN (C : Spec w mean mg mb f cost ⟨vs, []⟩ true Pre [] Ret Exc) (S : Site w mean mg mb base [] h₀) (F : Fr h₀ L s.heap m) (N : News h₀ L s.heap Rt)
    (hck : csc.kind = .function) (hA : A = top dp un gd (envOf cn csc L a ccd :: [])) (hpre : ∀ G : Heap, h₀.StaysIn G → (∀ p ∈ Rt, G.get? p.1 = some p.2) → Pre G)
    (hd : dp + cost < recursionLimit) (hu : un + 8 * cost < cLine)
    (ret : ∀ r own' h' tk, Fr h₀ L h' m → News h₀ L h' (Rt ++ own') → (∀ p ∈ Rt, ∀ q ∈ own', p.1 ≠ q.1) → Ret r own' → Q r { s with heap := h', toks := tk })
    (exc : ∀ e cls c G own' h' tk, RaisedSX base G (envOf cn csc L a ccd :: []) e cls c (Rt ++ own') h' → Fr h₀ L G m → G.UpToSlots h' → Exc cls c own' → E (.ref e) { s with heap := h', toks := tk }) :
    wpAny (model PG w) A (call (.ref f) vs) Q E s :=
  callL C S F (by rw [List.append_nil]; exact N) (fun _ _ _ h => nomatch h) hck hA hpre hd hu ret exc
theorem callN' (C : Spec w mean mg mb f cost ⟨vs, []⟩ true Pre [] Ret (fun _ _ _ => False)) (S : Site w mean mg mb base [] h₀) (F : Fr h₀ L s.heap m) (N : News h₀ L s.heap Rt)
    (hck : csc.kind = .function) (hA : A = top dp un gd (envOf cn csc L a ccd :: [])) (hpre : ∀ G : Heap, h₀.StaysIn G → (∀ p ∈ Rt, G.get? p.1 = some p.2) → Pre G)
    (hd : dp + cost < recursionLimit) (hu : un + 8 * cost < cLine)
    (ret : ∀ r own' h' tk, Fr h₀ L h' m → News h₀ L h' (Rt ++ own') → (∀ p ∈ Rt, ∀ q ∈ own', p.1 ≠ q.1) → Ret r own' → Q r { s with heap := h', toks := tk }) :
    wpAny (model PG w) A (call (.ref f) vs) Q E s := callN C S F N hck hA hpre hd hu ret fun _ _ _ _ _ _ _ _ _ _ h => h.elim

theorem num_item {value slice : PySem.Expr} {l : Addr} {vs : List Value} {ep : Nat} {k : Int} {u : Tok} {v : Value} {news : Led} (N : News h₀ L s.heap news) (hm : (l, W.listOf vs.toArray ep) ∈ news) (hz : vs.length ≤ 1000) (h0 : 0 ≤ k) (hv : vs[k.toNat]? = some v) (h : Q v s)
    (hs : subscripted slice false (.ref l) (.int k u) = operate [.ref l, .int k u] (getItem (.ref l) (.int k u))) (hg : ∀ r, letTemporaryGo value (.ref l) r = pure ()) :
    wpAny (model PG w) A (subscriptTail value slice (.ref l) (.int k u)) Q E s := by
  have hlt := (List.getElem?_eq_some_iff.mp hv).1
  exact PyProof.Rows.item_list (News.isList N hm) h0 (by simp; omega) (by simpa using hv) h hs hg
theorem eq_nilL {b d : Addr} {vs : List Value} {e1 e2 : Nat} {news : Led} (N : News h₀ L s.heap news) (m1 : (b, W.listOf vs.toArray e1) ∈ news) (m2 : (d, W.listOf #[] e2) ∈ news) (hu : A.units < cLine) (h : Q (.bool vs.isEmpty) s) :
    wpAny (model PG w) A (compareOp .Eq (.ref b) (.ref d)) Q E s := by
  cases vs with
  | nil => exact PySem.SeqAt.eq_listAt (e := fun _ => true) (News.isList N m1) (News.isList N m2) rfl hu (fun j h1 _ => by simp at h1) (by simpa using h)
  | cons v r => exact PySem.SeqAt.eq_list_lengthsAt (News.isList N m1) (News.isList N m2) (by simp) hu (by simpa using h)
end
section
variable {prog : Program} {w : World} {A : Around} {E : Value → Shared → Prop} {s : Shared} {h₀ : Heap} {L l : Addr} {m : Str → Option Value} {news : Led}
theorem subscriptTail_opsT {value slice : Expr} {o i : Value} {T id : String} {ops : List Value} {Q : Value → Shared → Prop} (hT : s.TypeIs o T)
    (hl : typeLookup (.type T) "__getitem__" = pure (some (.builtin id))) (h : wpAny (model prog w) A (getItem o i) Q E s)
    (hs : subscripted slice false o i = operate ops (getItem o i)) :
    wpAny (model prog w) A (subscriptTail value slice o i) Q E s := by
  unfold subscriptTail
  refine wpAny_bind ?_
  rw [getitemInPython_of_ne hT.not_modules]
  refine wpAny_bind (wpAny_specialOf hT hl ?_)
  have fin : wpAny (model prog w) A (subscripted slice false o i) (fun r s₃ => wpAny (model prog w) A (letTemporaryGo value o r >>= fun _ => pure r) Q E s₃) E s := by
    rw [hs]
    exact wpAny_operating (wpAny_mono h (fun r s₃ h₃ => wpAny_bind (wpAny_letTemporaryGo (wpAny_pure h₃))) fun _ _ x => x)
  first
    | exact wpAny_pure (wpAny_bind fin)
    | exact wpAny_bind fin
    | exact fin
theorem slice_tmp {value slice : Expr} {vs : List Value} {ms : List Int} {vl vu : Value} {lo hi : Option Int} {Q : Value → Shared → Prop}
    (F : Fr h₀ L s.heap m) (N : News h₀ L s.heap news) (hl : s.heap.IsList l vs.toArray) (pl : IsPart vl lo) (pu : IsPart vu hi) (hm : IntsAre (slicePick vs.toArray lo hi none).toList ms)
    (h : ∀ D ws h', Fr h₀ L h' m → News h₀ L h' ((D, W.listOf (List.toArray ws) 0) :: news) → (∀ p ∈ news, p.1 < D) → IntsAre ws ms → Q (.ref D) { s with heap := h' })
    (hs : subscripted slice false (.ref l) (.ref s.heap.objs.size) = operate [.ref s.heap.objs.size, .ref l] (getItem (.ref l) (.ref s.heap.objs.size)))
    (hsz : vs.toArray.size ≤ sizeLine) :
    wpAny (model prog w) A (subscriptTail value slice (.ref l) (.ref s.heap.objs.size)) Q E { s with heap := s.heap.push { cls := .type "slice", data := .fields #[vl, vu, .none] } } := by
  refine subscriptTail_opsT (Heap.IsList.typeIs (s := { s with heap := s.heap.push { cls := .type "slice", data := .fields #[vl, vu, .none] } }) (hl.push _)) list_getitem_lookup
    (wpAny_getItem_list_slice (hl.push _) (Heap.IsSliceOf.new ..) pl pu .none (by simp) ?_ hsz) hs
  have N1 := News.push (F.push { cls := .type "slice", data := .fields #[vl, vu, .none] }) (N.grown fun _ _ e => Heap.get?_push_of_some _ e) { cls := .type "list", data := .seq (slicePick vs.toArray lo hi none) }
  rw [Heap.size_push] at N1
  show Q (.ref (s.heap.push _).objs.size) _
  rw [Heap.size_push]
  refine h _ (slicePick vs.toArray lo hi none).toList _ ((F.push _).push _) ?_ (fun p hp => Nat.lt_succ_of_lt (Heap.lt_size (N p hp).1)) hm
  rw [Array.toArray_toList]
  exact N1
end


end T_M40
section T_M41
open PySem PySem.W PyProof.Rows PySem.Spec PySem.Calls
set_option maxRecDepth 100000
set_option maxHeartbeats 1000000




local macro_rules | `(tactic| k_mem) => `(tactic| assumption)
noncomputable def putO (m : Str → Option Value) (x : Str) (o : Option Value) : Str → Option Value := fun y => if y = x then o else m y
theorem putO_off {ys : List Str} {m m0 : Str → Option Value} {x y : Str} {o : Option Value} (hy : y ∉ ys) (hx : x ∈ ys) (h : m y = m0 y) : putO m x o y = m0 y := by
  unfold putO; rw [if_neg (fun e : y = x => hy (by rw [e]; exact hx))]; exact h
theorem put_abs {m m' : Str → Option Value} {x y : Str} {v : Value} (h : m y = m' y) (h2 : m' x = some v) : put m x v y = m' y := by
  unfold put; split
  · rename_i e; rw [e, h2]
  · exact h
theorem pne {m : Str → Option Value} {x y : Str} {v : Value} {r : Option Value} (h : m y = r) (hn : y ≠ x) : put m x v y = r := by unfold put; rw [if_neg hn]; exact h
theorem site0 {w : World} {mean : ExcName → Option Value} {mg mb : Str → Option Value} {h : Heap} (X : (hd.heap_39 w.params).In h) (T : Top hd.view_39 LZ mean mg mb h) : Site w mean mg mb h [] h :=
  ⟨fun _ _ e => e, trivial, X, T, fun b hb => by simp at hb⟩
theorem seam {M : Model} {A : Around} {E : Value → Shared → Prop} {s : Shared} {Q : Flow → Shared → Prop} {st : Stmt} {rest : List Stmt} {env : Env} {I : Shared → Prop} (h1 : wpAny M A (exec st env) (fun f s' => f = .next ∧ I s') E s) (h2 : ∀ s', I s' → wpAny M A (execs rest env) Q E s') : wpAny M A (execs (st :: rest) env) Q E s :=
  PySem.wpAny_execs_cons (wpAny_mono h1 (fun f s' h => by obtain ⟨rfl, h⟩ := h; exact h2 s' h) fun _ _ e => e)
inductive Inv0 (h₀ : Heap) (L : Addr) (l : Value) (s₀ : Shared) : Shared → Prop
  | intro (h : Heap) (tk : Nat) (o : Str → Option Value) (T : _) (cs : _) (vs : _) (b : _) (ep : _) : (Fr h₀ L h (put (put o (Str.ofString "script") l) (Str.ofString "rows") (.ref b))) → (News h₀ L h T) → ((b, W.listOf (List.toArray vs) ep) ∈ T) → (TreesL T cs vs) → (wts cs ≤ 3900) → (cs ≠ []) → Inv0 h₀ L l s₀ { s₀ with heap := h, toks := tk }
theorem Inv0.mk {h₀ h : Heap} {L b : Addr} {l : Value} {s₀ : Shared} {tk : Nat} {m : Str → Option Value} {T : Led} {cs : List Tr} {vs : List Value} {ep : Nat} (F : Fr h₀ L h m) (h1 : m (Str.ofString "script") = some l) (h2 : m (Str.ofString "rows") = some (.ref b)) (N : News h₀ L h T) (hb : (b, W.listOf (List.toArray vs) ep) ∈ T) (hT : TreesL T cs vs) (hw : wts cs ≤ 3900) (hc : cs ≠ []) :
    Inv0 h₀ L l s₀ { s₀ with heap := h, toks := tk } := ⟨h, tk, m, T, cs, vs, b, ep, Fr.pinP (Fr.pinP F h1) (pne h2 (by decide)), N, hb, hT, hw, hc⟩
theorem tl_nil {T : Led} : TreesL T [] [] := by rw [TreesL]
theorem tl_cons {T : Led} {t : Tr} {ts : List Tr} {v : Value} {r : List Value} (h : TreeL T t v) (k : TreesL T ts r) : TreesL T (t :: ts) (v :: r) := by rw [TreesL]; exact ⟨v, r, rfl, h, k⟩
theorem tl_leaf {T : Led} {b : List UInt8} {tk : Tok} : TreeL T (.leaf b) (.bytes b.toArray tk) := by rw [TreeL]; exact ⟨_, rfl⟩
theorem tl_node {T : Led} {cs : List Tr} {vs : List Value} {a : Addr} {ep : Nat} (hm : (a, W.listOf vs.toArray ep) ∈ T) (h : TreesL T cs vs) : TreeL T (.node cs) (.ref a) := by rw [TreeL]; exact ⟨a, vs, ep, rfl, hm, h⟩
theorem ne_of_empty {T : Led} {cs : List Tr} {vs : List Value} (h : TreesL T cs vs) (e : vs.isEmpty = false) : cs ≠ [] := fun q => by
  subst q
  rw [TreesL] at h
  subst h
  simp at e
inductive Inv1 (h₀ : Heap) (L : Addr) (s₀ : Shared) : Shared → Prop
  | intro (h : Heap) (tk : Nat) (o : Str → Option Value) (R : _) (cs : _) (vs : _) (b : _) (ep : _) (nl : _) (epn : _) (n0 : _) (n1 : _) (n2 : _) (n3 : _) (t0 : _) (t1 : _) (t2 : _) (t3 : _) : (Fr h₀ L h (put (put o (Str.ofString "rows") (.ref b)) (Str.ofString "numbers") (.ref nl))) → (News h₀ L h R) → ((b, W.listOf (List.toArray vs) ep) ∈ R) → (TreesL R cs vs) → (wts cs ≤ 3900) → (cs ≠ []) → ((nl, W.listOf (List.toArray [.int n0 t0, .int n1 t1, .int n2 t2, .int n3 t3]) epn) ∈ R) → Inv1 h₀ L s₀ { s₀ with heap := h, toks := tk }
theorem ints_cons {us : List Value} {n : Int} {ns : List Int} (h : IntsAre us (n :: ns)) : ∃ t us', us = .int n t :: us' ∧ IntsAre us' ns := by
  cases h with | cons _ t h => exact ⟨t, _, rfl, h⟩
theorem ints4 {us : List Value} {ns : List Int} (h : IntsAre us ns) (e : ns.length = 4) : ∃ n0 n1 n2 n3 t0 t1 t2 t3, us = [.int n0 t0, .int n1 t1, .int n2 t2, .int n3 t3] := by
  cases ns with | nil => cases e | cons n0 ns =>
  cases ns with | nil => cases e | cons n1 ns =>
  cases ns with | nil => cases e | cons n2 ns =>
  cases ns with | nil => cases e | cons n3 ns =>
  cases ns with | cons _ _ => cases e | nil =>
  obtain ⟨t0, us1, rfl, h1⟩ := ints_cons h
  obtain ⟨t1, us2, rfl, h2⟩ := ints_cons h1
  obtain ⟨t2, us3, rfl, h3⟩ := ints_cons h2
  obtain ⟨t3, us4, rfl, h4⟩ := ints_cons h3
  cases h4
  exact ⟨n0, n1, n2, n3, t0, t1, t2, t3, rfl⟩
theorem Inv1.mk {h₀ h : Heap} {L b nl : Addr} {s₀ : Shared} {tk : Nat} {m : Str → Option Value} {R : Led} {cs : List Tr} {vs us : List Value} {ns : List Int} {ep epn : Nat} (F : Fr h₀ L h m) (h1 : m (Str.ofString "rows") = some (.ref b)) (h2 : m (Str.ofString "numbers") = some (.ref nl)) (N : News h₀ L h R) (hb : (b, W.listOf (List.toArray vs) ep) ∈ R) (hT : TreesL R cs vs) (hw : wts cs ≤ 3900) (hc : cs ≠ [])
    (hn : (nl, W.listOf us.toArray epn) ∈ R) (hi : IntsAre us ns) (e : ns.length = 4) :
    Inv1 h₀ L s₀ { s₀ with heap := h, toks := tk } := by
  obtain ⟨n0, n1, n2, n3, t0, t1, t2, t3, rfl⟩ := ints4 hi e
  exact ⟨h, tk, m, R, cs, vs, b, ep, nl, epn, n0, n1, n2, n3, t0, t1, t2, t3, Fr.pinP (Fr.pinP F h1) (pne h2 (by decide)), N, hb, hT, hw, hc, hn⟩
local macro_rules | `(tactic| k_mem) => `(tactic| (refine List.mem_append_left _ ?_; k_mem))
theorem elok_of_has {st : List LG} {x : Addr} {cs : List Tr} (h : HasL st x (fulls cs) .none 0) : ElOk st .none (.ref x) (full (.node cs)) := by
  obtain ⟨p, hp, h1, h2, h3, h4⟩ := h
  exact .inl ⟨rfl, .inr ⟨p, hp, by rw [full, h2, h4], by rw [h1], h3⟩⟩
inductive Inv2 (w : World) (h₀ : Heap) (L : Addr) (s₀ : Shared) (R : Led) (nl b x : Addr) (X : Array UInt8) (to : Tok) (due : List PT) : Shared → Prop
  | intro (h : Heap) (tk : Nat) (o : Str → Option Value) (st : _) : (Fr h₀ L h (put (put (put (put o (Str.ofString "rows") (.ref b)) (Str.ofString "numbers") (.ref nl)) (Str.ofString "octets") (.bytes X to)) (Str.ofString "lazy") (.ref x))) → (News h₀ L h (R ++ objsOf w st)) → ((∀ p ∈ R, ∀ q ∈ objsOf w st, p.1 ≠ q.1)) → (Good st) → (HasL st x due .none 0) → Inv2 w h₀ L s₀ R nl b x X to due { s₀ with heap := h, toks := tk }
theorem Inv2.mk {w : World} {h₀ h : Heap} {L nl b x : Addr} {s₀ : Shared} {tk : Nat} {m : Str → Option Value} {R : Led} {X : Array UInt8} {to : Tok} {due : List PT} {st : List LG} (F : Fr h₀ L h m) (h1 : m (Str.ofString "rows") = some (.ref b)) (h2 : m (Str.ofString "numbers") = some (.ref nl)) (h3 : m (Str.ofString "octets") = some (.bytes X to)) (h4 : m (Str.ofString "lazy") = some (.ref x)) (N : News h₀ L h (R ++ objsOf w st)) (D : ∀ p ∈ R, ∀ q ∈ objsOf w st, p.1 ≠ q.1) (G : Good st) (hl : HasL st x due .none 0) :
    Inv2 w h₀ L s₀ R nl b x X to due { s₀ with heap := h, toks := tk } :=
  ⟨h, tk, m, st, Fr.pinP (Fr.pinP (Fr.pinP (Fr.pinP F h1) (pne h2 (by decide))) (pne (pne h3 (by decide)) (by decide))) (pne (pne (pne h4 (by decide)) (by decide)) (by decide)), N, D, G, hl⟩
inductive Inv3 (h₀ : Heap) (L : Addr) (s₀ : Shared) (R : Led) (nl b : Addr) (X : Array UInt8) (to : Tok) : Shared → Prop
  | intro (h : Heap) (tk : Nat) (o : Str → Option Value) : (Fr h₀ L h (put (put (put o (Str.ofString "rows") (.ref b)) (Str.ofString "numbers") (.ref nl)) (Str.ofString "octets") (.bytes X to))) → (News h₀ L h R) → Inv3 h₀ L s₀ R nl b X to { s₀ with heap := h, toks := tk }
theorem Inv3.mk {h₀ h : Heap} {L nl b : Addr} {s₀ : Shared} {tk : Nat} {m : Str → Option Value} {R : Led} {X : Array UInt8} {to : Tok} (F : Fr h₀ L h m) (h1 : m (Str.ofString "rows") = some (.ref b)) (h2 : m (Str.ofString "numbers") = some (.ref nl)) (h3 : m (Str.ofString "octets") = some (.bytes X to)) (N : News h₀ L h R) :
    Inv3 h₀ L s₀ R nl b X to { s₀ with heap := h, toks := tk } :=
  ⟨h, tk, m, Fr.pinP (Fr.pinP (Fr.pinP F h1) (pne h2 (by decide))) (pne (pne h3 (by decide)) (by decide)), N⟩
theorem putS {w : World} {mean : ExcName → Option Value} {mg mb : Str → Option Value} (t : Tr) (v : Value) (hw : t.wt ≤ 4300) : Spec w mean mg mb 237 60 ⟨[v], []⟩ false (fun G => TreeAt G t v) [] (fun r own' => ∃ tk, r = .bytes (enc t).toArray tk ∧ own' = []) (fun _ _ _ => False) :=
  (sp237 _ t v (Nat.le_refl _) hw).mono (by omega) (fun _ h => h) (fun _ _ h => h) fun _ _ _ h => h
theorem readS {w : World} {mean : ExcName → Option Value} {mg mb : Str → Option Value} (cs : List Tr) (hw : wts cs ≤ 4000) : ReadsL w mean mg mb 90 cs := fun st x a vs i ti G hl hi =>
  (reads_all cs hw st x a vs i ti G hl hi).mono (by omega) (fun _ h => h) (fun _ _ h => h) fun _ _ _ h => h
theorem tellS {w : World} {mean : ExcName → Option Value} {mg mb : Str → Option Value} (t : Tr) (hw : t.wt ≤ 4300) : Tells w mean mg mb 90 t := (tells_all _ t (Nat.le_refl _) hw).mono (by omega)
theorem endS {w : World} {mean : ExcName → Option Value} {mg mb : Str → Option Value} (zs : List Int) (t c : Tr) (hw : t.wt ≤ 4300) (hz : ∀ z ∈ zs, 0 ≤ z ∧ z ≤ 100) (hl : zs.length ≤ 3) (hc : treeGet t zs = some c) : EndSpec w mean mg mb t zs 60 := fun v l ws hi =>
  (sp270 zs t c hw hz hl hc v l ws hi).mono (by omega) (fun _ h => h) (fun _ _ h => h) fun _ _ _ h => h
section
variable {w : World} {base h₀ : Heap} {s : Shared} {A : Around} {env : Env} {Q : Flow → Shared → Prop} {E : Value → Shared → Prop} {body : List Stmt} {m : Str → Option Value} {R : Led} {st : List LG} {x l : Addr} {due : List PT}
noncomputable def PlK (w : World) (m : Str → Option Value) (R : Led) (x : Addr) (due : List PT) : (Str → Option Value) → Led → Prop := fun m' n => (∀ y, y ∉ [Str.ofString "place"] → m' y = m y) ∧ ∃ st₂, n = R ++ objsOf w st₂ ∧ (∀ p ∈ R, ∀ q ∈ objsOf w st₂, p.1 ≠ q.1) ∧ Good st₂ ∧ HasL st₂ x due .none 0
theorem places_L {us : List Value} {zs2 : List Int} {e bd : Nat} (hh : A.handled = none) (hi : IntsAre us zs2) (hz : ∀ z ∈ zs2, 0 ≤ z ∧ z ≤ (bd : Int)) (F : Fr h₀ env.locals s.heap m) (N : News h₀ env.locals s.heap ((l, W.listOf us.toArray e) :: (R ++ objsOf w st))) (l1 : ∀ p ∈ R ++ objsOf w st, p.1 < l)
    (D : ∀ p ∈ R, ∀ q ∈ objsOf w st, p.1 ≠ q.1) (G : Good st) (hl : HasL st x due .none 0)
    (turn : ∀ (k : Nat) t o st₁ h₁ tk₁ own, k ≤ bd → Good st₁ → HasL st₁ x due .none 0 → (∀ q ∈ own, ∀ p ∈ R ++ objsOf w st₁, q.1 ≠ p.1) → (∀ p ∈ own ++ R, ∀ q ∈ objsOf w st₁, p.1 ≠ q.1) →
      Fr h₀ env.locals h₁ (put (putO m (Str.ofString "place") o) (Str.ofString "place") (.int (k : Int) t)) → News h₀ env.locals h₁ ((own ++ R) ++ objsOf w st₁) →
      wpAny (model PG w) A (execs body env) (LStep h₀ env.locals own (PlK w m R x due) { s with heap := h₁, toks := tk₁ } (fun v s' => Q (.ret v) s')) E { s with heap := h₁, toks := tk₁ })
    (done : ∀ h' tk o st', Fr h₀ env.locals h' (putO m (Str.ofString "place") o) → News h₀ env.locals h' (R ++ objsOf w st') → (∀ p ∈ R, ∀ q ∈ objsOf w st', p.1 ≠ q.1) → Good st' → HasL st' x due .none 0 → Q .next { s with heap := h', toks := tk }) :
    wpAny (model PG w) A (pyIter (.ref l)) (fun it s₂ => LoopO w A (frs []) env (Str.ofString "place") body Q E it s₂) E s := by
  refine Iter_list_L (fun _ => PlK w m R x due) hh (News.isList N (List.mem_cons_self ..)) (fun p hp => Nat.ne_of_lt (l1 p hp)) F (News.tail1 N) ⟨fun _ _ => rfl, st, rfl, D, G, hl⟩ ?_ ?_
  · rintro i v m₁ news₁ h₁ tk₁ own hv ⟨hm, st₁, rfl, D₁, G₁, hl₁⟩ hd F₁ N₁
    obtain ⟨z, t, rfl, hzi⟩ := IntsAre.at hi i v (by simpa using hv)
    have hzm := hz z (List.mem_of_getElem? hzi)
    obtain ⟨k, rfl⟩ : ∃ k : Nat, z = (k : Int) := ⟨z.toNat, by omega⟩
    rw [← ovr_eq hm] at F₁
    refine turn k t (m₁ (Str.ofString "place")) st₁ h₁ tk₁ own (by omega) G₁ hl₁ hd (fun p hp q hq => ?_) F₁ (by rw [List.append_assoc]; exact N₁)
    rcases List.mem_append.mp hp with hp | hp
    · exact hd p hp q (List.mem_append_right _ hq)
    · exact D₁ p hp q hq
  · rintro h' tk m' news' ⟨hm, st', rfl, D', G', hl'⟩ F' N'
    rw [← ovr_eq hm] at F'
    exact done h' tk _ st' F' N' D' G' hl'
theorem pl_end {h' : Heap} {L : Addr} {tk : Nat} {own : Led} {m' : Str → Option Value} {st' : List LG} {Qr : Value → Shared → Prop} {s₁ : Shared} {st₁ : List LG} (F : Fr h₀ L h' m') (N : News h₀ L h' ((own ++ R) ++ objsOf w st')) (D : ∀ p ∈ own ++ R, ∀ q ∈ objsOf w st', p.1 ≠ q.1) (hd : ∀ q ∈ own, ∀ p ∈ R ++ objsOf w st₁, q.1 ≠ p.1)
    (G : Good st') (hl : HasL st' x due .none 0) (hm : ∀ y, y ∉ [Str.ofString "place"] → m' y = m y) : LStep h₀ L own (PlK w m R x due) s₁ Qr .next { s₁ with heap := h', toks := tk } :=
  ⟨_, _, _, R ++ objsOf w st', rfl, F, by rw [← List.append_assoc]; exact N, fun q hq p hp => by
    rcases List.mem_append.mp hp with hp | hp
    · exact hd q hq p (List.mem_append_left _ hp)
    · exact D q (List.mem_append_left _ hq) p hp, hm, st', rfl, fun p hp q hq => D p (List.mem_append_right _ hp) q hq, G, hl⟩
end
theorem fmod_in {a b : Int} {n : Nat} (h : b = (n : Int) + 2) : 0 ≤ a.fmod b ∧ a.fmod b ≤ ((n + 1 : Nat) : Int) := by
  subst h
  have h0 : (0 : Int) ≤ (n : Int) + 2 := by omega
  have h1 := Int.emod_nonneg a (show ((n : Int) + 2) ≠ 0 by omega)
  have h2 := Int.emod_lt_of_pos a (show (0 : Int) < (n : Int) + 2 by omega)
  rw [fmN _ h0]; omega
theorem get_snoc {α : Type} (a : List α) (x : α) {n : Nat} (h : a.length = n) : (a ++ [x])[n]? = some x := by subst h; simp
theorem fulls_take_len {cs : List Tr} {j : Nat} {c : Tr} (h : cs[j]? = some c) : (fulls (cs.take j)).length = j := by
  have := (List.getElem?_eq_some_iff.mp h).1
  rw [fulls_map, List.length_map, List.length_take]; omega
theorem ptGet_prune : ∀ (zs : List Int) (t c : Tr), treeGet t zs = some c → ptGet (prune t zs) zs = some (full c)
  | [], t, c, h => by rw [treeGet] at h; cases h; rw [prune, ptGet]
  | z :: zs, .leaf b, c, h => by rw [treeGet] at h; cases h
  | z :: zs, .node cs, c, h => by
    rw [treeGet] at h
    cases hc : cs[z.toNat]? with
    | none => rw [hc] at h; cases h
    | some d =>
      rw [hc] at h
      rw [prune, hc]
      simp only []
      rw [ptGet, get_snoc _ _ (fulls_take_len hc)]
      exact ptGet_prune zs d c h
theorem ptOk_prune : ∀ (zs : List Int) (t c : Tr), treeGet t zs = some c → PtOk (prune t zs) zs
  | [], t, c, h => by rw [PtOk]; trivial
  | z :: zs, .leaf b, c, h => by rw [treeGet] at h; cases h
  | z :: zs, .node cs, c, h => by
    rw [treeGet] at h
    cases hc : cs[z.toNat]? with
    | none => rw [hc] at h; cases h
    | some d =>
      rw [hc] at h
      rw [prune, hc]
      simp only []
      rw [PtOk]
      have hl := fulls_take_len hc
      refine ⟨.inr (by rw [List.length_append, hl]; simp), fun c' hc' => ?_⟩
      rw [get_snoc _ _ hl] at hc'
      cases hc'
      exact ptOk_prune zs d c h
theorem bent_fits {t : Tr} {zs : List Int} {X post : List UInt8} (hX : enc t = X) (hp : X.length ≤ (X.take (endF t zs) ++ post).length) : Fits (X.take (endF t zs) ++ post) 0 (prune t zs) :=
  fits_prune zs t 0 post (by rw [List.drop_zero, hX]) (by rw [hX]; omega)
theorem fmod_in2 {a b : Int} {n : Nat} (h : b = (n : Int)) (h0 : 0 < n) (h1 : n ≤ 100) : 0 ≤ a.fmod b ∧ a.fmod b ≤ 100 := by
  subst h
  have h1 := Int.emod_nonneg a (show (n : Int) ≠ 0 by omega)
  have h2 := Int.emod_lt_of_pos a (show (0 : Int) < (n : Int) by omega)
  have h3 : (0 : Int) ≤ (n : Int) := by omega
  rw [fmN _ h3]; omega

section
variable {w : World} {base h₀ : Heap} {s : Shared} {A : Around} {env : Env} {Q : Flow → Shared → Prop} {E : Value → Shared → Prop} {body : List Stmt} {m : Str → Option Value} {R : Led} {tp : Addr}
noncomputable abbrev wayNames : List Str := [Str.ofString "way", Str.ofString "due", Str.ofString "told", Str.ofString "end", Str.ofString "bent"]
noncomputable def WyK (m : Str → Option Value) (R : Led) : (Str → Option Value) → Led → Prop := fun m' n => (∀ y, y ∉ wayNames → m' y = m y) ∧ n = R
theorem ways_L {vs3 : List Value} {to : Obj} (hh : A.handled = none) (F : Fr h₀ env.locals s.heap m) (N : News h₀ env.locals s.heap ((tp, to) :: R)) (hto : to.cls = .type "tuple" ∧ ∃ n, to.data = .seq vs3.toArray n) (l1 : ∀ p ∈ R, p.1 ≠ tp)
    (hw : ∀ v ∈ vs3, ∃ (lw : Addr) (ws : List Value) (zs : List Int) (ep : Nat), v = .ref lw ∧ (lw, W.listOf ws.toArray ep) ∈ R ∧ WayZ ws zs)
    (turn : ∀ (lw : Addr) (ws : List Value) (zs : List Int) (ep : Nat) o1 o2 o3 o4 o5 h₁ tk₁ own, (lw, W.listOf ws.toArray ep) ∈ R → WayZ ws zs → (∀ q ∈ own, ∀ p ∈ R, q.1 ≠ p.1) →
      Fr h₀ env.locals h₁ (put (putO (putO (putO (putO (putO m (Str.ofString "bent") o5) (Str.ofString "end") o4) (Str.ofString "told") o3) (Str.ofString "due") o2) (Str.ofString "way") o1) (Str.ofString "way") (.ref lw)) → News h₀ env.locals h₁ (own ++ R) →
      wpAny (model PG w) A (execs body env) (LStep h₀ env.locals own (WyK m R) { s with heap := h₁, toks := tk₁ } (fun v s' => Q (.ret v) s')) E { s with heap := h₁, toks := tk₁ })
    (done : ∀ h' tk o1 o2 o3 o4 o5, Fr h₀ env.locals h' (putO (putO (putO (putO (putO m (Str.ofString "bent") o5) (Str.ofString "end") o4) (Str.ofString "told") o3) (Str.ofString "due") o2) (Str.ofString "way") o1) → News h₀ env.locals h' R → Q .next { s with heap := h', toks := tk }) :
    wpAny (model PG w) A (pyIter (.ref tp)) (fun it s₂ => LoopO w A (frs []) env (Str.ofString "way") body Q E it s₂) E s := by
  refine Iter_tuple_L (items := vs3.toArray) (fun _ => WyK m R) hh ⟨to, (N _ (List.mem_cons_self ..)).1, hto.1, hto.2⟩ l1 F (News.tail1 N) ⟨fun _ _ => rfl, rfl⟩ ?_ ?_
  · rintro i v m₁ news₁ h₁ tk₁ own hv ⟨hm, rfl⟩ hd F₁ N₁
    obtain ⟨lw, ws, zs, ep, rfl, h1, h2⟩ := hw v (List.mem_of_getElem? (by simpa using hv))
    rw [← ovr_eq hm] at F₁
    exact turn lw ws zs ep _ _ _ _ _ h₁ tk₁ own h1 h2 hd F₁ N₁
  · rintro h' tk m' news' ⟨hm, rfl⟩ F' N'
    rw [← ovr_eq hm] at F'
    exact done h' tk _ _ _ _ _ F' N'
end
theorem gen_led {P : Prop} {h₀ h : Heap} {L : Addr} {R' : Led} (_N : News h₀ L h R') (k : ∀ RW, RW = R' → P) : P := k _ rfl
noncomputable def SeamQ (I : Shared → Prop) (Q : Flow → Shared → Prop) (f : Flow) (s : Shared) : Prop := match f with
  | .next => I s
  | f => Q f s
theorem seam2 {M : Model} {A : Around} {E : Value → Shared → Prop} {s : Shared} {Q : Flow → Shared → Prop} {st : Stmt} {rest : List Stmt} {env : Env} (I : Shared → Prop) (h1 : wpAny M A (exec st env) (SeamQ I Q) E s) (h2 : ∀ s', I s' → wpAny M A (execs rest env) Q E s') : wpAny M A (execs (st :: rest) env) Q E s :=
  PySem.wpAny_execs_cons (wpAny_mono h1 (fun f s' h => by
    cases f with
    | next => exact h2 s' h
    | cont => exact h
    | brk => exact h
    | ret v => exact h) fun _ _ e => e)
inductive WyT (w : World) (h₀ : Heap) (L : Addr) (s₀ : Shared) (own RW : Led) (lw nl b : Addr) (due : Value) (X : Array UInt8) (to : Tok) (t : Tr) (zs : List Int) (m : Str → Option Value) : Shared → Prop
  | intro (h : Heap) (tk : Nat) (o : Str → Option Value) (st : _) (c : _) (told : _) : (Fr h₀ L h (put (put (put (put (put (put o (Str.ofString "rows") (.ref b)) (Str.ofString "numbers") (.ref nl)) (Str.ofString "octets") (.bytes X to)) (Str.ofString "way") (.ref lw)) (Str.ofString "due") due) (Str.ofString "told") told)) → ((∀ y, y ∉ wayNames → o y = m y)) → (News h₀ L h ((own ++ RW) ++ objsOf w st)) → ((∀ p ∈ own ++ RW, ∀ q ∈ objsOf w st, p.1 ≠ q.1)) → (Good st) → (treeGet t zs = some c) → (TreeL RW c due) → (ElOk st .none told (full c)) → WyT w h₀ L s₀ own RW lw nl b due X to t zs m { s₀ with heap := h, toks := tk }
theorem WyT.mk {w : World} {h₀ h : Heap} {L lw nl b : Addr} {s₀ : Shared} {own RW : Led} {due told : Value} {X : Array UInt8} {to : Tok} {t : Tr} {zs : List Int} {m m' : Str → Option Value} {tk : Nat} {st : List LG} {c : Tr} (F : Fr h₀ L h m') (h1 : m' (Str.ofString "rows") = some (.ref b)) (h2 : m' (Str.ofString "numbers") = some (.ref nl)) (h3 : m' (Str.ofString "octets") = some (.bytes X to)) (h4 : m' (Str.ofString "way") = some (.ref lw)) (h5 : m' (Str.ofString "due") = some due) (h6 : m' (Str.ofString "told") = some told)
    (ho : ∀ y, y ∉ wayNames → m' y = m y) (N : News h₀ L h ((own ++ RW) ++ objsOf w st)) (D : ∀ p ∈ own ++ RW, ∀ q ∈ objsOf w st, p.1 ≠ q.1) (G : Good st) (hc : treeGet t zs = some c) (hd : TreeL RW c due) (he : ElOk st .none told (full c)) :
    WyT w h₀ L s₀ own RW lw nl b due X to t zs m { s₀ with heap := h, toks := tk } :=
  ⟨h, tk, m', st, c, told, Fr.pinP (Fr.pinP (Fr.pinP (Fr.pinP (Fr.pinP (Fr.pinP F h1) (pne h2 (by decide))) (pne (pne h3 (by decide)) (by decide))) (pne (pne (pne h4 (by decide)) (by decide)) (by decide))) (pne (pne (pne (pne h5 (by decide)) (by decide)) (by decide)) (by decide))) (pne (pne (pne (pne (pne h6 (by decide)) (by decide)) (by decide)) (by decide)) (by decide)), ho, N, D, G, hc, hd, he⟩
theorem tree_ne {T : Led} {c : Tr} {v : Value} (h : TreeL T c v) : v ≠ .none := by
  cases c with
  | leaf b => rw [TreeL] at h; obtain ⟨_, rfl⟩ := h; intro e; cases e
  | node cs => rw [TreeL] at h; obtain ⟨_, _, _, rfl, _⟩ := h; intro e; cases e
local macro_rules | `(tactic| walk_at "CompEnd") => `(tactic| (k_here; refine LCg.CompEnd.intro (by k_asm) (by k_asm) _ (fun p hp => hp) (by assumption) (.inr ⟨_, by k_mem, rfl, _, rfl⟩) ?_; (try exact ⟨rfl, _, rfl⟩)))
theorem cut_lex (x : List UInt8) (a b : Nat) : (cut x a b).length ≤ x.length := by rw [cut_length]; exact Nat.le_trans (Nat.sub_le _ _) (Nat.min_le_right _ _)
theorem le2 {a b : Nat} (h : a ≤ b) : a ≤ 2 * b := by omega
theorem le22 {a b c : Nat} (h : a ≤ c) (k : b ≤ c) : a + b ≤ 2 * c := by omega
theorem clpF_plen {x : List UInt8} {s : Nat} {p : List UInt8} {k : Bool} {l s' : Nat} (h : clpF x s = some (p, k, l, s')) : p.length ≤ 2 * x.length := by
  unfold clpF at h
  repeat' split at h
  all_goals first
    | (obtain ⟨rfl, _⟩ := some4 h; first | exact Nat.zero_le _ | exact le2 (cut_lex ..) | (rw [List.length_append]; exact le22 (cut_lex ..) (cut_lex ..)))
    | cases h
theorem bad_more {t : Tr} {X : List UInt8} (hX : enc t = X) (hx : X.length ≤ 40000) : BadX (X ++ [0]) := by
  have hlen : (X ++ [0]).length = X.length + 1 := by simp
  have hbig : (256 : Nat) ^ 8 = 18446744073709551616 := by decide
  cases t with
  | leaf b =>
    have hp : (X ++ [0]).drop 0 = enc (.leaf b) ++ [0] := by rw [hX]; rfl
    obtain ⟨p, l, s', hc, hcut, hend, hl, hpl⟩ := clpF_leaf (enc_leaf_bound hp (by omega)) hp
    rw [hX] at hend
    exact ⟨by omega, by omega, p, true, l, s', hc, by omega, by rw [hlen]; omega⟩
  | node cs =>
    have hp : (X ++ [0]).drop 0 = headF 192 (encs cs).length ++ (encs cs ++ [0]) := by
      rw [← hX, enc, List.drop_zero, List.append_assoc]
    have hn : (headF 192 (encs cs).length).length + (encs cs).length = X.length := by rw [← hX, enc, List.length_append]
    obtain ⟨p, hc⟩ := clpF_head (by omega) hp
    have hpl := clpF_plen hc
    exact ⟨by omega, by omega, p, false, _, _, hc, by omega, by rw [hlen]; omega⟩
theorem bad_less {cs : List Tr} {X : List UInt8} (hX : enc (.node cs) = X) (hx : X.length ≤ 40000) (hcs : cs ≠ []) : BadX (cutI X 0 ((X.length : Int) - 1)) := by
  have hbig : (256 : Nat) ^ 8 = 18446744073709551616 := by decide
  have hpos : 0 < (encs cs).length := by
    cases cs with
    | nil => exact absurd rfl hcs
    | cons c r => rw [encs, List.length_append]; have := enc_pos c; omega
  have hn : (headF 192 (encs cs).length).length + (encs cs).length = X.length := by rw [← hX, enc, List.length_append]
  have e : cutI X 0 ((X.length : Int) - 1) = headF 192 (encs cs).length ++ (encs cs).take ((encs cs).length - 1) := by
    have e1 : ((X.length : Int) - 1).toNat = (headF 192 (encs cs).length).length + ((encs cs).length - 1) := (Int.toNat_sub X.length 1).trans (by rw [← hn]; exact Nat.add_sub_assoc hpos _)
    unfold cutI cut
    rw [e1, Int.toNat_zero, List.drop_zero, ← hX, enc, List.take_length_add_append]
  rw [e]
  have hlen : (headF 192 (encs cs).length ++ (encs cs).take ((encs cs).length - 1)).length = X.length - 1 := by rw [List.length_append, List.length_take_of_le (Nat.sub_le _ _), ← hn]; exact (Nat.add_sub_assoc hpos _).symm
  obtain ⟨p, hc⟩ := clpF_head (n := (encs cs).length) (s := 0) (x := headF 192 (encs cs).length ++ (encs cs).take ((encs cs).length - 1)) (by omega) rfl
  have hpl := clpF_plen hc
  have hh := headF_pos 192 (encs cs).length
  exact ⟨by omega, by omega, p, false, _, _, hc, by omega, by rw [hlen]; omega⟩
section
variable {prog : Program} {w : World} {A : Around} {h₀ : Heap} {L : Addr} {m : Str → Option Value} {env : Env} {elt : Expr} {x : Str} {scope : Scope} {cl : List (Str × Addr)} {s : Shared} {S : List (Addr × Obj) → Prop} {Fin : List Value → List (Addr × Obj) → Prop} {news : List (Addr × Obj)}
theorem comp_digs {vs : List Value} {ns : List Nat} (hi : IntsAre vs (ns.map fun n => ((n : Nat) : Int)))
    (turn : ∀ (k : Nat) t I oI C oC D m₂ ys h tk (E' : Value → Shared → Prop), k ∈ ns → LCg.NsObj oC m₂ → m₂ x = some (.int k t) → Fr h₀ L h m → News h₀ L h ((I, oI) :: (C, oC) :: (D, LCg.lst ys) :: news) → LCg.Off3 I C D news → ((@Ne Nat I C) ∧ (@Ne Nat I D) ∧ (@Ne Nat C D)) →
      wpAny (model prog w) A (eval elt (compEnvC scope cl C env)) (LCg.CompEnd h₀ L m { s with heap := h, toks := tk } I oI C oC D (LCg.lst ys) S (fun y news' => news' = news ∧ ∃ u, y = .bytes (digs k).toArray u)) E' { s with heap := h, toks := tk })
    (fin : ∀ ys, TreesL [] (ns.map fun n => Tr.leaf (digs n)) ys → Fin ys news) : LCg.CompRest prog w A h₀ L m env elt x scope cl s S (fun i v => vs.toArray[i]? = some v) Fin vs.toArray.size 0 [] news := by
  have hlen : vs.length = ns.length := by have := hi.sizeZ; simp at this; omega
  have key : ∀ (j i : Nat) (ys : List Value), i + j = vs.toArray.size → TreesL [] ((ns.take i).map fun n => Tr.leaf (digs n)) ys → LCg.CompRest prog w A h₀ L m env elt x scope cl s S (fun i v => vs.toArray[i]? = some v) Fin j i ys news := by
    intro j
    induction j with
    | zero =>
      intro i ys hi' hy
      have e : i = ns.length := by simp at hi'; omega
      subst e
      rw [List.take_length] at hy
      exact LCg.CompRest.zero (fin ys hy)
    | succ j ih =>
      intro i ys hi' hy
      refine LCg.CompRest.succ ?_
      intro v I oI C oC D m₂ h tk E' hv hC hx F N off ne
      obtain ⟨k, t, rfl, hk⟩ := IntsAre.at hi i v (by simpa using hv)
      rw [List.getElem?_map] at hk
      cases hn : ns[i]? with
      | none => rw [hn] at hk; cases hk
      | some n =>
        rw [hn] at hk
        cases hk
        refine wpAny_mono (turn n t I oI C oC D m₂ ys h tk E' (List.mem_of_getElem? hn) hC hx F N off ne) (fun y s₂ hq => ?_) fun _ _ e => e
        obtain ⟨h', tk', nw, e, F', N', off', hS, hn', t', hy'⟩ := hq
        rw [hn'] at N' off' hS
        refine ⟨h', tk', news, e, F', N', off', hS, ?_⟩
        rw [hy']
        refine ih (i + 1) _ (by omega) ?_
        rw [List.take_add_one, hn, Option.toList, List.map_append]
        exact treesL_append hy (tl_cons tl_leaf tl_nil)
  exact key _ 0 [] (by omega) (by rw [List.take_zero, List.map_nil]; exact tl_nil)
end
theorem cnt_ex (n : Int) : ∃ a : Nat, n.fmod (256 ^ Int.toNat 8) = (a : Int) ∧ a < 256 ^ 8 := by
  have e : (256 : Int) ^ Int.toNat 8 = 18446744073709551616 := by decide
  have e2 : (256 : Nat) ^ 8 = 18446744073709551616 := by decide
  refine ⟨(n.fmod (256 ^ Int.toNat 8)).toNat, ?_, ?_⟩
  · rw [e, fmN _ (show (0 : Int) ≤ 18446744073709551616 by decide)]; exact (Int.toNat_of_nonneg (Int.emod_nonneg _ (by decide))).symm
  · rw [e, e2, fmN _ (show (0 : Int) ≤ 18446744073709551616 by decide)]; exact (Int.toNat_lt (Int.emod_nonneg _ (by decide))).mpr (Int.emod_lt_of_pos _ (by decide))
inductive Inv4 (h₀ : Heap) (L : Addr) (s₀ : Shared) : Shared → Prop
  | intro (h : Heap) (tk : Nat) (o : Str → Option Value) (cl : _) (e : _) (a0 a1 a2 a3 : Nat) (u0 : _) (u1 : _) (u2 : _) (u3 : _) : (Fr h₀ L h (put o (Str.ofString "counts") (.ref cl))) → (News h₀ L h [(cl, W.listOf (List.toArray [.int a0 u0, .int a1 u1, .int a2 u2, .int a3 u3]) e)]) → ((∀ n ∈ [a0, a1, a2, a3], n < 256 ^ 8)) → Inv4 h₀ L s₀ { s₀ with heap := h, toks := tk }
theorem Inv4.mk {h₀ h : Heap} {L cl : Addr} {s₀ : Shared} {tk e : Nat} {m : Str → Option Value} {R : Led} {n0 n1 n2 n3 : Int} {u0 u1 u2 u3 : Tok} (F : Fr h₀ L h m) (h1 : m (Str.ofString "counts") = some (.ref cl)) (N : News h₀ L h ((cl, W.listOf (List.toArray [.int (n0.fmod (256 ^ Int.toNat 8)) u0, .int (n1.fmod (256 ^ Int.toNat 8)) u1, .int (n2.fmod (256 ^ Int.toNat 8)) u2, .int (n3.fmod (256 ^ Int.toNat 8)) u3]) e) :: R)) : Inv4 h₀ L s₀ { s₀ with heap := h, toks := tk } := by
  obtain ⟨a0, e0, l0⟩ := cnt_ex n0
  obtain ⟨a1, e1, l1⟩ := cnt_ex n1
  obtain ⟨a2, e2, l2⟩ := cnt_ex n2
  obtain ⟨a3, e3, l3⟩ := cnt_ex n3
  rw [e0, e1, e2, e3] at N
  exact ⟨h, tk, m, cl, e, a0, a1, a2, a3, u0, u1, u2, u3, Fr.pinP F h1, fun p hp => N p (by rw [List.mem_singleton.mp hp]; exact List.mem_cons_self ..), fun n hn => by
    simp only [List.mem_cons, List.not_mem_nil, or_false] at hn
    rcases hn with rfl | rfl | rfl | rfl <;> assumption⟩
local macro_rules | `(tactic| walk_at "CompSrc") => `(tactic| (k_here; k_dflt (refine' LCg.CompSrc.ledger ?hh ?F ?N ?hm ?hsz ?_; (case hh => with_unfolding_all rfl); (case F => k_asm); (case N => k_asm); (case hm => k_mem); (case hsz => exact Nat.le_of_ble_eq_true rfl); intro g'; refine' comp_digs ?hi ?_ ?_; (case hi => assumption)); intros; rotate_left; intros; rotate_left))
theorem ys4 {a0 a1 a2 a3 : Nat} {ys : List Value} {T : Led} (h : TreesL T ([a0, a1, a2, a3].map fun n => Tr.leaf (digs n)) ys) : ∃ v0 v1 v2 v3, ys = [.bytes (digs a0).toArray v0, .bytes (digs a1).toArray v1, .bytes (digs a2).toArray v2, .bytes (digs a3).toArray v3] := by
  simp only [List.map_cons, List.map_nil] at h
  rw [TreesL] at h
  obtain ⟨y0, r0, rfl, h0, h⟩ := h
  rw [TreesL] at h
  obtain ⟨y1, r1, rfl, h1, h⟩ := h
  rw [TreesL] at h
  obtain ⟨y2, r2, rfl, h2, h⟩ := h
  rw [TreesL] at h
  obtain ⟨y3, r3, rfl, h3, h⟩ := h
  rw [TreesL] at h
  subst h
  rw [TreeL] at h0 h1 h2 h3
  obtain ⟨v0, rfl⟩ := h0
  obtain ⟨v1, rfl⟩ := h1
  obtain ⟨v2, rfl⟩ := h2
  obtain ⟨v3, rfl⟩ := h3
  exact ⟨v0, v1, v2, v3, rfl⟩
inductive Inv5 (h₀ : Heap) (L : Addr) (s₀ : Shared) : Shared → Prop
  | intro (h : Heap) (tk : Nat) (o : Str → Option Value) (cl : _) (sl : _) (e : _) (es : _) (a0 a1 a2 a3 : Nat) (u0 : _) (u1 : _) (u2 : _) (u3 : _) (v0 : _) (v1 : _) (v2 : _) (v3 : _) : (Fr h₀ L h (put (put o (Str.ofString "counts") (.ref cl)) (Str.ofString "strings") (.ref sl))) → (News h₀ L h [(sl, W.listOf (List.toArray [.bytes (digs a0).toArray v0, .bytes (digs a1).toArray v1, .bytes (digs a2).toArray v2, .bytes (digs a3).toArray v3]) es), (cl, W.listOf (List.toArray [.int a0 u0, .int a1 u1, .int a2 u2, .int a3 u3]) e)]) → ((∀ n ∈ [a0, a1, a2, a3], n < 256 ^ 8)) → Inv5 h₀ L s₀ { s₀ with heap := h, toks := tk }
theorem Inv5.mk {h₀ h : Heap} {L cl sl : Addr} {s₀ : Shared} {tk e es : Nat} {m : Str → Option Value} {ys : List Value} {a0 a1 a2 a3 : Nat} {u0 u1 u2 u3 : Tok} (F : Fr h₀ L h m) (h1 : m (Str.ofString "counts") = some (.ref cl)) (h2 : m (Str.ofString "strings") = some (.ref sl))
    (N : News h₀ L h [(sl, W.listOf (List.toArray ys) es), (cl, W.listOf (List.toArray [.int a0 u0, .int a1 u1, .int a2 u2, .int a3 u3]) e)]) (hns : ∀ n ∈ [a0, a1, a2, a3], n < 256 ^ 8) (hy : TreesL [] ([a0, a1, a2, a3].map fun n => Tr.leaf (digs n)) ys) : Inv5 h₀ L s₀ { s₀ with heap := h, toks := tk } := by
  obtain ⟨v0, v1, v2, v3, rfl⟩ := ys4 hy
  exact ⟨h, tk, m, cl, sl, e, es, a0, a1, a2, a3, u0, u1, u2, u3, v0, v1, v2, v3, Fr.pinP (Fr.pinP F h1) (pne h2 (by decide)), N, hns⟩
inductive Inv6 (w : World) (h₀ : Heap) (L : Addr) (s₀ : Shared) (R : Led) (sl cl x : Addr) (due : List PT) : Shared → Prop
  | intro (h : Heap) (tk : Nat) (o : Str → Option Value) (st : _) : (Fr h₀ L h (put (put (put o (Str.ofString "counts") (.ref cl)) (Str.ofString "strings") (.ref sl)) (Str.ofString "lazy") (.ref x))) → (News h₀ L h (R ++ objsOf w st)) → ((∀ p ∈ R, ∀ q ∈ objsOf w st, p.1 ≠ q.1)) → (Good st) → (HasL st x due (.ref 201) 0) → Inv6 w h₀ L s₀ R sl cl x due { s₀ with heap := h, toks := tk }
theorem Inv6.mk {w : World} {h₀ h : Heap} {L cl sl x : Addr} {s₀ : Shared} {tk : Nat} {m : Str → Option Value} {R : Led} {due : List PT} {st : List LG} (F : Fr h₀ L h m) (h1 : m (Str.ofString "counts") = some (.ref cl)) (h2 : m (Str.ofString "strings") = some (.ref sl)) (h3 : m (Str.ofString "lazy") = some (.ref x)) (N : News h₀ L h (R ++ objsOf w st)) (D : ∀ p ∈ R, ∀ q ∈ objsOf w st, p.1 ≠ q.1) (G : Good st) (hl : HasL st x due (.ref 201) 0) :
    Inv6 w h₀ L s₀ R sl cl x due { s₀ with heap := h, toks := tk } :=
  ⟨h, tk, m, st, Fr.pinP (Fr.pinP (Fr.pinP F h1) (pne h2 (by decide))) (pne (pne h3 (by decide)) (by decide)), N, D, G, hl⟩
theorem four_at {a0 a1 a2 a3 k : Nat} {u0 u1 u2 u3 : Tok} (hk : k ≤ 3) : ∃ a u, [a0, a1, a2, a3][k]? = some a ∧ ([.int (a0 : Int) u0, .int (a1 : Int) u1, .int (a2 : Int) u2, .int (a3 : Int) u3] : List Value)[k]? = some (.int (a : Int) u) := by
  match k, hk with
  | 0, _ => exact ⟨a0, u0, rfl, rfl⟩
  | 1, _ => exact ⟨a1, u1, rfl, rfl⟩
  | 2, _ => exact ⟨a2, u2, rfl, rfl⟩
  | 3, _ => exact ⟨a3, u3, rfl, rfl⟩
theorem digs_inj {a b : Nat} (h : digs a = digs b) : a = b := by have := congrArg be h; rwa [be_digs, be_digs] at this
theorem wts_digs : ∀ ns : List Nat, (∀ n ∈ ns, n < 256 ^ 8) → wts (ns.map fun n => Tr.leaf (digs n)) ≤ 50 * ns.length
  | [], _ => by simp [wts]
  | n :: r, h => by
    have h1 := digs_len (h n (List.mem_cons_self ..))
    have h2 := wts_digs r fun m hm => h m (List.mem_cons_of_mem _ hm)
    rw [List.map_cons, wts, Tr.wt, List.length_cons]
    omega
section
variable {w : World} {base h₀ : Heap} {s : Shared} {A : Around} {env : Env} {Q : Flow → Shared → Prop} {E : Value → Shared → Prop} {body : List Stmt} {m : Str → Option Value} {R : Led} {st : List LG} {x tp : Addr} {due : List PT}
noncomputable def KsK (w : World) (m : Str → Option Value) (R : Led) (x : Addr) (due : List PT) : (Str → Option Value) → Led → Prop := fun m' n => (∀ y, y ∉ [Str.ofString "k"] → m' y = m y) ∧ ∃ st₂, n = R ++ objsOf w st₂ ∧ (∀ p ∈ R, ∀ q ∈ objsOf w st₂, p.1 ≠ q.1) ∧ Good st₂ ∧ HasL st₂ x due (.ref 201) 0
theorem ks_L {us : List Value} {zs2 : List Int} {bd : Nat} (hh : A.handled = none) (hit : s.heap.IsTuple tp us.toArray) (hi : IntsAre us zs2) (hz : ∀ z ∈ zs2, 0 ≤ z ∧ z ≤ (bd : Int)) (F : Fr h₀ env.locals s.heap m) (N : News h₀ env.locals s.heap (R ++ objsOf w st)) (l1 : ∀ p ∈ R ++ objsOf w st, p.1 ≠ tp)
    (D : ∀ p ∈ R, ∀ q ∈ objsOf w st, p.1 ≠ q.1) (G : Good st) (hl : HasL st x due (.ref 201) 0)
    (turn : ∀ (k : Nat) t o st₁ h₁ tk₁ own, k ≤ bd → Good st₁ → HasL st₁ x due (.ref 201) 0 → (∀ q ∈ own, ∀ p ∈ R ++ objsOf w st₁, q.1 ≠ p.1) → (∀ p ∈ own ++ R, ∀ q ∈ objsOf w st₁, p.1 ≠ q.1) →
      Fr h₀ env.locals h₁ (put (putO m (Str.ofString "k") o) (Str.ofString "k") (.int (k : Int) t)) → News h₀ env.locals h₁ ((own ++ R) ++ objsOf w st₁) →
      wpAny (model PG w) A (execs body env) (LStep h₀ env.locals own (KsK w m R x due) { s with heap := h₁, toks := tk₁ } (fun v s' => Q (.ret v) s')) E { s with heap := h₁, toks := tk₁ })
    (done : ∀ h' tk o st', Fr h₀ env.locals h' (putO m (Str.ofString "k") o) → News h₀ env.locals h' (R ++ objsOf w st') → (∀ p ∈ R, ∀ q ∈ objsOf w st', p.1 ≠ q.1) → Good st' → HasL st' x due (.ref 201) 0 → Q .next { s with heap := h', toks := tk }) :
    wpAny (model PG w) A (pyIter (.ref tp)) (fun it s₂ => LoopO w A (frs []) env (Str.ofString "k") body Q E it s₂) E s := by
  refine Iter_tuple_L (fun _ => KsK w m R x due) hh hit l1 F N ⟨fun _ _ => rfl, st, rfl, D, G, hl⟩ ?_ ?_
  · rintro i v m₁ news₁ h₁ tk₁ own hv ⟨hm, st₁, rfl, D₁, G₁, hl₁⟩ hd F₁ N₁
    obtain ⟨z, t, rfl, hzi⟩ := IntsAre.at hi i v (by simpa using hv)
    have hzm := hz z (List.mem_of_getElem? hzi)
    obtain ⟨k, rfl⟩ : ∃ k : Nat, z = (k : Int) := ⟨z.toNat, by omega⟩
    rw [← ovr_eq hm] at F₁
    refine turn k t (m₁ (Str.ofString "k")) st₁ h₁ tk₁ own (by omega) G₁ hl₁ hd (fun p hp q hq => ?_) F₁ (by rw [List.append_assoc]; exact N₁)
    rcases List.mem_append.mp hp with hp | hp
    · exact hd p hp q (List.mem_append_right _ hq)
    · exact D₁ p hp q hq
  · rintro h' tk m' news' ⟨hm, st', rfl, D', G', hl'⟩ F' N'
    rw [← ovr_eq hm] at F'
    exact done h' tk _ st' F' N' D' G' hl'
theorem ks_end {h' : Heap} {L : Addr} {tk : Nat} {own : Led} {m' : Str → Option Value} {st' : List LG} {Qr : Value → Shared → Prop} {s₁ : Shared} {st₁ : List LG} (F : Fr h₀ L h' m') (N : News h₀ L h' ((own ++ R) ++ objsOf w st')) (D : ∀ p ∈ own ++ R, ∀ q ∈ objsOf w st', p.1 ≠ q.1) (hd : ∀ q ∈ own, ∀ p ∈ R ++ objsOf w st₁, q.1 ≠ p.1)
    (G : Good st') (hl : HasL st' x due (.ref 201) 0) (hm : ∀ y, y ∉ [Str.ofString "k"] → m' y = m y) : LStep h₀ L own (KsK w m R x due) s₁ Qr .next { s₁ with heap := h', toks := tk } :=
  ⟨_, _, _, R ++ objsOf w st', rfl, F, by rw [← List.append_assoc]; exact N, fun q hq p hp => by
    rcases List.mem_append.mp hp with hp | hp
    · exact hd q hq p (List.mem_append_left _ hp)
    · exact D q (List.mem_append_left _ hq) p hp, hm, st', rfl, fun p hp q hq => D p (List.mem_append_right _ hp) q hq, G, hl⟩
end
inductive Inv7 (h₀ : Heap) (L : Addr) (s₀ : Shared) (R : Led) (sl : Addr) (Z : Array UInt8) (tz : Tok) : Shared → Prop
  | intro (h : Heap) (tk : Nat) (o : Str → Option Value) : (Fr h₀ L h (put (put o (Str.ofString "strings") (.ref sl)) (Str.ofString "alone") (.bytes Z tz))) → (News h₀ L h R) → Inv7 h₀ L s₀ R sl Z tz { s₀ with heap := h, toks := tk }
theorem Inv7.mk {h₀ h : Heap} {L sl : Addr} {s₀ : Shared} {tk : Nat} {m : Str → Option Value} {R : Led} {Z : Array UInt8} {tz : Tok} (F : Fr h₀ L h m) (h1 : m (Str.ofString "strings") = some (.ref sl)) (h2 : m (Str.ofString "alone") = some (.bytes Z tz)) (N : News h₀ L h R) : Inv7 h₀ L s₀ R sl Z tz { s₀ with heap := h, toks := tk } :=
  ⟨h, tk, m, Fr.pinP (Fr.pinP F h1) (pne h2 (by decide)), N⟩
section
variable {w : World} {base h₀ : Heap} {s : Shared} {A : Around} {env : Env} {Q : Flow → Shared → Prop} {E : Value → Shared → Prop} {body : List Stmt} {m : Str → Option Value} {R : Led} {tp : Addr}
noncomputable def TdK (m : Str → Option Value) (R : Led) : (Str → Option Value) → Led → Prop := fun m' n => (∀ y, y ∉ [Str.ofString "told"] → m' y = m y) ∧ n = R
theorem told_L {us : List Value} {X : List UInt8} (hh : A.handled = none) (hit : s.heap.IsTuple tp us.toArray) (hu : ∀ v ∈ us, ∃ t, v = .bytes X.toArray t) (F : Fr h₀ env.locals s.heap m) (N : News h₀ env.locals s.heap R) (l1 : ∀ p ∈ R, p.1 ≠ tp)
    (turn : ∀ t o h₁ tk₁ own, (∀ q ∈ own, ∀ p ∈ R, q.1 ≠ p.1) → Fr h₀ env.locals h₁ (put (putO m (Str.ofString "told") o) (Str.ofString "told") (.bytes X.toArray t)) → News h₀ env.locals h₁ (own ++ R) →
      wpAny (model PG w) A (execs body env) (LStep h₀ env.locals own (TdK m R) { s with heap := h₁, toks := tk₁ } (fun v s' => Q (.ret v) s')) E { s with heap := h₁, toks := tk₁ })
    (done : ∀ h' tk o, Fr h₀ env.locals h' (putO m (Str.ofString "told") o) → News h₀ env.locals h' R → Q .next { s with heap := h', toks := tk }) :
    wpAny (model PG w) A (pyIter (.ref tp)) (fun it s₂ => LoopO w A (frs []) env (Str.ofString "told") body Q E it s₂) E s := by
  refine Iter_tuple_L (fun _ => TdK m R) hh hit l1 F N ⟨fun _ _ => rfl, rfl⟩ ?_ ?_
  · rintro i v m₁ news₁ h₁ tk₁ own hv ⟨hm, rfl⟩ hd F₁ N₁
    obtain ⟨t, rfl⟩ := hu v (List.mem_of_getElem? (by simpa using hv))
    rw [← ovr_eq hm] at F₁
    exact turn t _ h₁ tk₁ own hd F₁ N₁
  · rintro h' tk m' news' ⟨hm, rfl⟩ F' N'
    rw [← ovr_eq hm] at F'
    exact done h' tk _ F' N'
end
theorem dec_DZ {w : World} {mean : ExcName → Option Value} {mg mb : Str → Option Value} {n : Nat} {Z : List UInt8} (hZ : enc (.leaf (digs n)) = Z) (hn : n < 256 ^ 8) (t1 : Tok) :
  Spec w mean mg mb 105 12 ⟨[.bytes Z.toArray t1, .ref 201], []⟩ false (fun _ => True) [] (fun r own' => ∃ ta, r = .int (n : Nat) ta ∧ own' = []) (fun _ _ _ => False) := by
  subst hZ; exact dec_D n hn t1
set_option maxHeartbeats 40000000 in
theorem lawW {w : World} {mean : ExcName → Option Value} {mg mb : Str → Option Value} {s1 : Shared} {zs : List Int} {ws : List Value} {la a : Addr} {ccd : Value} {h₁ : Heap} {tk : Nat} {Q : Flow → Shared → Prop}
    (KX : (hd.heap_39 w.params).In s1.heap) (T : Top hd.view_39 LZ mean mg mb s1.heap) (hL : s1.heap.IsList la ws.toArray) (hI : IntsAre ws zs) (hc : ¬ (63 : Int) < zs.length) (K0 : Below callerA s1.heap [] s1.heap)
    (F : Fr s1.heap s1.heap.objs.size h₁ (at0 (fParams (fTop 32)) [.ref la])) (N0 : News s1.heap s1.heap.objs.size h₁ [])
    (hQ : ∀ h' tk' m, Fr s1.heap s1.heap.objs.size h' m → Q (.ret (.bool true)) { s1 with heap := h', toks := tk' }) :
    let M : Model := model PG w
    let en : Env := envOf (Str.ofString "law") (fScope (fTop 32)) s1.heap.objs.size a ccd
    let A : Around := callerA.deeper en
    wpAny M A (execs (fBody (fTop 32)) en) Q (fun _ _ => False) { s1 with heap := h₁, toks := tk } := by
  intro M₁ en₁ A₁
  (try dsimp only)
  have S := site0 KX T
  -- rows = _law_tree(script[4:16])
  refine PySem.wpAny_execs_cons ?_
  ((try k_fold); repeat' (first | (k_unfold; (try dsimp only)) | (k_end; wrow_close) | ((with_reducible show wpAny _ _ (eval (Expr.Constant (Const.int _) _ _) _) _ _ _); with_reducible refine const_i ?_) | ((with_reducible show wpAny _ _ (call (Value.ref _) _) _ _ _); with_reducible (k_here; refine hold ?_)) | walk1 | (dsimp only; first | ((with_reducible show wpAny _ _ (eval (Expr.Constant (Const.int _) _ _) _) _ _ _); with_reducible refine const_i ?_) | ((with_reducible show wpAny _ _ (call (Value.ref _) _) _ _ _); with_reducible (k_here; refine hold ?_)) | walk1) | (leave1; (try dsimp only)) | fail "no step"))
  refine unhold ?_
  rename Fr _ _ _ _ => F
  rename News _ _ _ _ => N
  rename IntsAre _ (List.take _ _) => I1
  refine' call0 (sp223 _ _ _ I1 ?hz) S F N ?kK ?kA ?pre ?hd ?hu ?_
  case kA => exact rfl
  case kK => exact rfl
  case hz => exact Nat.le_trans (List.length_take_le ..) (Nat.sub_le_sub_right (Nat.min_le_left 16 _) 4)
  case pre => exact fun G hG hR => ⟨_, hR _ (List.mem_cons_self ..), rfl, _, rfl⟩
  case hd => decide
  case hu => decide
  clear F N
  intro r T1 h1 tk1 F N hdis hr
  obtain ⟨cs1, hr, hw1⟩ := hr
  rw [TreeL] at hr
  obtain ⟨b1, vs1, ep1, rfl, hr9⟩ := hr
  have hb1 := hr9.1
  have hT1 := hr9.2
  clear hr9
  replace N := News.left N
  clear hdis
  ((try k_fold); repeat' (first | (k_unfold; (try dsimp only)) | (k_end; wrow_close) | ((with_reducible show wpAny _ _ (execs (_ :: _) _) _ _ _); with_reducible (k_here; refine hold ?_)) | ((with_reducible show wpAny _ _ (storeName _ _ _) _ _ _); with_reducible (k_here; k_dflt (refine' storeP ?zzF ?zzN ?_ ?zza ?zzb; (case zzF => k_asm); (case zzN => k_asm); (case zza => rfl); (case zzb => rfl); k_whole; intro h' tk' F' N'; (try k_sweep)))) | walk1 | (dsimp only; first | ((with_reducible show wpAny _ _ (execs (_ :: _) _) _ _ _); with_reducible (k_here; refine hold ?_)) | ((with_reducible show wpAny _ _ (storeName _ _ _) _ _ _); with_reducible (k_here; k_dflt (refine' storeP ?zzF ?zzN ?_ ?zza ?zzb; (case zzF => k_asm); (case zzN => k_asm); (case zza => rfl); (case zzb => rfl); k_whole; intro h' tk' F' N'; (try k_sweep)))) | walk1) | (leave1; (try dsimp only)) | fail "no step"))
  refine unhold ?_
  -- if rows == []
  refine seam (I := Inv0 s1.heap s1.heap.objs.size (.ref la) s1) ?_ ?_
  · ((try k_fold); repeat' (first | (k_unfold; (try dsimp only)) | (k_end; wrow_close) | ((with_reducible show wpAny _ _ (compareOp CmpOp.Eq (Value.ref _) (Value.ref _)) _ _ _); with_reducible (k_here; refine hold ?_)) | ((with_reducible show wpAny _ _ (newList _) _ _ _); with_reducible (k_here; k_dflt (refine' newList_K ?zzk1 ?zzk2 ?_; (case zzk1 => k_asm); (case zzk2 => k_asm); k_whole); intro l' h' F' N' l1)) | walk1 | (dsimp only; first | ((with_reducible show wpAny _ _ (compareOp CmpOp.Eq (Value.ref _) (Value.ref _)) _ _ _); with_reducible (k_here; refine hold ?_)) | ((with_reducible show wpAny _ _ (newList _) _ _ _); with_reducible (k_here; k_dflt (refine' newList_K ?zzk1 ?zzk2 ?_; (case zzk1 => k_asm); (case zzk2 => k_asm); k_whole); intro l' h' F' N' l1)) | walk1) | (leave1; (try dsimp only)) | fail "no step"))
    refine unhold ?_
    rename Fr _ _ _ _ => F
    rename News _ _ _ _ => N
    refine eq_nilL N (List.mem_cons_of_mem _ hb1) (List.mem_cons_self ..) (by first | units_room | exact Nat.le_of_ble_eq_true rfl) ?_
    ((try k_fold); repeat' (first | (k_unfold; (try dsimp only)) | (k_end; wrow_close) | ((with_reducible show wpAny _ _ (execs (_ :: _) _) _ _ _); with_reducible (k_here; refine hold ?_)) | walk1 | (dsimp only; first | ((with_reducible show wpAny _ _ (execs (_ :: _) _) _ _ _); with_reducible (k_here; refine hold ?_)) | walk1) | (leave1; (try dsimp only)) | fail "no step"))
    · refine unhold ?_
      refine PySem.wpAny_execs_cons ?_
      ((try k_fold); repeat' (first | (k_unfold; (try dsimp only)) | (k_end; wrow_close) | ((with_reducible show wpAny _ _ (storeName _ _ _) _ _ _); with_reducible (k_here; k_dflt (refine' storeP ?zzF ?zzN ?_ ?zza ?zzb; (case zzF => k_asm); (case zzN => k_asm); (case zza => rfl); (case zzb => rfl); k_whole; intro h' tk' F' N'; (try k_sweep)))) | ((with_reducible show wpAny _ _ (newList _) _ _ _); with_reducible (k_here; k_dflt (refine' newList_K ?zzk1 ?zzk2 ?_; (case zzk1 => k_asm); (case zzk2 => k_asm); k_whole); intro l' h' F' N' l1)) | walk1 | (dsimp only; first | ((with_reducible show wpAny _ _ (storeName _ _ _) _ _ _); with_reducible (k_here; k_dflt (refine' storeP ?zzF ?zzN ?_ ?zza ?zzb; (case zzF => k_asm); (case zzN => k_asm); (case zza => rfl); (case zzb => rfl); k_whole; intro h' tk' F' N'; (try k_sweep)))) | ((with_reducible show wpAny _ _ (newList _) _ _ _); with_reducible (k_here; k_dflt (refine' newList_K ?zzk1 ?zzk2 ?_; (case zzk1 => k_asm); (case zzk2 => k_asm); k_whole); intro l' h' F' N' l1)) | walk1) | (leave1; (try dsimp only)) | fail "no step"))
      rename Fr _ _ _ _ => F
      rename News _ _ _ _ => N
      exact Inv0.mk F rfl rfl N (List.mem_cons_self ..) (tl_cons tl_leaf (tl_cons (tl_node (List.mem_cons_of_mem _ (List.mem_cons_self ..)) (tl_cons tl_leaf (tl_cons (tl_node (List.mem_cons_of_mem _ (List.mem_cons_of_mem _ (List.mem_cons_self ..))) (tl_cons tl_leaf tl_nil)) (tl_cons tl_leaf tl_nil)))) (tl_cons tl_leaf tl_nil))) (by simp [wts, Tr.wt]) (by simp)
    · rename List.isEmpty _ = false => he
      exact Inv0.mk F rfl rfl (News.tail1 N) hb1 hT1 hw1 (ne_of_empty hT1 he)
  -- numbers
  clear hb1 hT1 hw1 I1
  intro s' hI0
  obtain ⟨h2, tk2, o2, T2, cs, vs, b, ep, F, N, hb, hT, hw, hcs⟩ := hI0
  refine seam (I := Inv1 s1.heap s1.heap.objs.size s1) ?_ ?_
  · ((try k_fold); repeat' (first | (k_unfold; (try dsimp only)) | (k_end; wrow_close) | ((with_reducible show wpAny _ _ (eval (Expr.Constant (Const.int _) _ _) _) _ _ _); with_reducible refine const_i ?_) | ((with_reducible show wpAny _ _ (subscriptTail _ _ _ _) _ _ _); with_reducible (k_here; (with_reducible show wpAny _ _ (subscriptTail (PySem.Expr.List _ _) (PySem.Expr.Slice _ _ none _) (Value.ref _) (Value.ref _)) _ _ _); refine hold ?_)) | ((with_reducible show wpAny _ _ (newList _) _ _ _); with_reducible (k_here; k_dflt (refine' newList_K ?zzk1 ?zzk2 ?_; (case zzk1 => k_asm); (case zzk2 => k_asm); k_whole); intro l' h' F' N' l1)) | walk1 | (dsimp only; first | ((with_reducible show wpAny _ _ (eval (Expr.Constant (Const.int _) _ _) _) _ _ _); with_reducible refine const_i ?_) | ((with_reducible show wpAny _ _ (subscriptTail _ _ _ _) _ _ _); with_reducible (k_here; (with_reducible show wpAny _ _ (subscriptTail (PySem.Expr.List _ _) (PySem.Expr.Slice _ _ none _) (Value.ref _) (Value.ref _)) _ _ _); refine hold ?_)) | ((with_reducible show wpAny _ _ (newList _) _ _ _); with_reducible (k_here; k_dflt (refine' newList_K ?zzk1 ?zzk2 ?_; (case zzk1 => k_asm); (case zzk2 => k_asm); k_whole); intro l' h' F' N' l1)) | walk1) | (leave1; (try dsimp only)) | fail "no step"))
    rename Fr _ _ _ _ => F
    rename News _ _ _ _ => N
    refine unhold ?_
    refine slice_tmp F N (News.isList N (List.mem_cons_of_mem _ (List.mem_cons_self ..))) (IsPart.int _ _) IsPart.none (kmk_from (.cons _ _ (.cons _ _ (.cons _ _ (.cons _ _ .nil)))) (by omega)) ?_ (by with_unfolding_all rfl) (by rw [sizeLine_eq]; simp)
    clear F N
    intro D1 ws1 h3 F N l2 I2
    ((try k_fold); repeat' (first | (k_unfold; (try dsimp only)) | (k_end; wrow_close) | ((with_reducible show wpAny _ _ (binaryOp Operator.Add (Value.ref _) (Value.ref _)) _ _ _); with_reducible (k_here; refine hold ?_)) | walk1 | (dsimp only; first | ((with_reducible show wpAny _ _ (binaryOp Operator.Add (Value.ref _) (Value.ref _)) _ _ _); with_reducible (k_here; refine hold ?_)) | walk1) | (leave1; (try dsimp only)) | fail "no step"))
    refine unhold ?_
    refine kmk_add_ints F N (News.isList N (List.mem_cons_of_mem _ (List.mem_cons_of_mem _ (List.mem_cons_of_mem _ (List.mem_cons_self ..))))) (News.isList N (List.mem_cons_self ..)) (by assumption) I2 ?_ (by rw [sizeLine_eq]; simp; omega)
    clear F N
    intro D2 us2 h4 F N l3 I3
    ((try k_fold); repeat' (first | (k_unfold; (try dsimp only)) | (k_end; wrow_close) | ((with_reducible show wpAny _ _ (storeName _ _ _) _ _ _); with_reducible (k_here; k_dflt (refine' storeP ?zzF ?zzN ?_ ?zza ?zzb; (case zzF => k_asm); (case zzN => k_asm); (case zza => rfl); (case zzb => rfl); k_whole; intro h' tk' F' N'; (try k_sweep)))) | walk1 | (dsimp only; first | ((with_reducible show wpAny _ _ (storeName _ _ _) _ _ _); with_reducible (k_here; k_dflt (refine' storeP ?zzF ?zzN ?_ ?zza ?zzb; (case zzF => k_asm); (case zzN => k_asm); (case zza => rfl); (case zzb => rfl); k_whole; intro h' tk' F' N'; (try k_sweep)))) | walk1) | (leave1; (try dsimp only)) | fail "no step"))
    rotate_left
    rename Fr _ _ _ _ => F
    rename News _ _ _ _ => N
    exact Inv1.mk F rfl rfl N (List.mem_cons_of_mem _ (List.mem_cons_of_mem _ (List.mem_cons_of_mem _ (List.mem_cons_of_mem _ (List.mem_cons_of_mem _ hb))))) (hT.mono fun p hp => (List.mem_cons_of_mem _ (List.mem_cons_of_mem _ (List.mem_cons_of_mem _ (List.mem_cons_of_mem _ (List.mem_cons_of_mem _ hp)))))) hw hcs (List.mem_cons_self ..) I3 (by simp only [List.length_append, List.length_drop, List.length_take, List.length_cons, List.length_nil]; first | exact Nat.add_sub_of_le (Nat.min_le_left ..) | (simp; omega))
    all_goals trivial
  intro s' hI1
  obtain ⟨h0, tk0, o0, R, cs, vs, b, ep, nl, epn, n0, n1, n2, n3, t0, t1, t2, t3, F, N, hb, hT, hw, hcs, hn⟩ := hI1
  have hlc := wts_len cs
  have hlen := treesL_len hT
  have hTB : TreeL R (.node cs) (.ref b) := tl_node hb hT
  have hwt : (Tr.node cs).wt ≤ 4300 := by rw [Tr.wt]; omega
  have hXl := enc_wt (.node cs) (by omega)
  have hvl : vs.length ≤ 100 := by omega
  have hcl : 0 < cs.length := by cases cs with | nil => exact absurd rfl hcs | cons _ _ => simp
  -- octets
  refine PySem.wpAny_execs_cons ?_
  ((try k_fold); repeat' (first | (k_unfold; (try dsimp only)) | (k_end; wrow_close) | ((with_reducible show wpAny _ _ (call (Value.ref _) _) _ _ _); with_reducible (k_here; refine hold ?_)) | walk1 | (dsimp only; first | ((with_reducible show wpAny _ _ (call (Value.ref _) _) _ _ _); with_reducible (k_here; refine hold ?_)) | walk1) | (leave1; (try dsimp only)) | fail "no step"))
  refine unhold ?_
  refine' call0 (putS (.node cs) (.ref b) hwt) S F N ?kK ?kA ?pre ?hd ?hu ?_
  case kA => exact rfl
  case kK => exact rfl
  case pre => exact fun G _ hR => TreeL.at hR hTB
  case hd => decide
  case hu => decide
  clear F N
  intro r own' h1 tk1 F N hdis hr
  obtain ⟨to, rfl, rfl⟩ := hr
  clear hdis
  rw [List.nil_append] at N
  generalize hX : enc (.node cs) = X at hXl
  ((try k_fold); repeat' (first | (k_unfold; (try dsimp only)) | (k_end; wrow_close) | ((with_reducible show wpAny _ _ (execs (_ :: _) _) _ _ _); with_reducible (k_here; refine hold ?_)) | ((with_reducible show wpAny _ _ (storeName _ _ _) _ _ _); with_reducible (k_here; k_dflt (refine' storeP ?zzF ?zzN ?_ ?zza ?zzb; (case zzF => k_asm); (case zzN => k_asm); (case zza => rfl); (case zzb => rfl); k_whole; intro h' tk' F' N'; (try k_sweep)))) | walk1 | (dsimp only; first | ((with_reducible show wpAny _ _ (execs (_ :: _) _) _ _ _); with_reducible (k_here; refine hold ?_)) | ((with_reducible show wpAny _ _ (storeName _ _ _) _ _ _); with_reducible (k_here; k_dflt (refine' storeP ?zzF ?zzN ?_ ?zza ?zzb; (case zzF => k_asm); (case zzN => k_asm); (case zza => rfl); (case zzb => rfl); k_whole; intro h' tk' F' N'; (try k_sweep)))) | walk1) | (leave1; (try dsimp only)) | fail "no step"))
  refine unhold ?_
  -- lazy
  refine PySem.wpAny_execs_cons ?_
  ((try k_fold); repeat' (first | (k_unfold; (try dsimp only)) | (k_end; wrow_close) | ((with_reducible show wpAny _ _ (call (Value.ref _) _) _ _ _); with_reducible (k_here; refine hold ?_)) | walk1 | (dsimp only; first | ((with_reducible show wpAny _ _ (call (Value.ref _) _) _ _ _); with_reducible (k_here; refine hold ?_)) | walk1) | (leave1; (try dsimp only)) | fail "no step"))
  refine unhold ?_
  rename Fr _ _ _ _ => F
  rename News _ _ _ _ => N
  have hf : Fits X 0 (full (.node cs)) := by rw [← hX]; exact fits_full (.node cs) 0 [] (by simp)
  have hl2 : (full (.node cs)).len = X.length := by rw [full_len, hX]
  have hx : X.length ≤ 100000 := by omega
  refine' call0 (dec_P X to (full (.node cs)) hx hf hl2) S F N ?kK ?kA ?pre ?hd ?hu ?_
  case kA => exact rfl
  case kK => exact rfl
  case pre => exact fun _ _ _ => trivial
  case hd => decide
  case hu => decide
  clear F N
  intro r own' h2 tk2 F N D hr
  obtain ⟨st1, rfl, hr9⟩ := hr
  have G1 := hr9.1
  have hel := hr9.2
  clear hr9
  rw [full] at hel
  obtain ⟨_, x, rfl, hl⟩ := lazy_of hel
  have N := news_sub (b := R ++ objsOf w st1) N (fun p hp => List.mem_append.mpr (List.mem_append.mp hp).symm)
  ((try k_fold); repeat' (first | (k_unfold; (try dsimp only)) | (k_end; wrow_close) | ((with_reducible show wpAny _ _ (execs (_ :: _) _) _ _ _); with_reducible (k_here; refine hold ?_)) | ((with_reducible show wpAny _ _ (storeName _ _ _) _ _ _); with_reducible (k_here; k_dflt (refine' storeP ?zzF ?zzN ?_ ?zza ?zzb; (case zzF => k_asm); (case zzN => k_asm); (case zza => rfl); (case zzb => rfl); k_whole; intro h' tk' F' N'; (try k_sweep)))) | walk1 | (dsimp only; first | ((with_reducible show wpAny _ _ (execs (_ :: _) _) _ _ _); with_reducible (k_here; refine hold ?_)) | ((with_reducible show wpAny _ _ (storeName _ _ _) _ _ _); with_reducible (k_here; k_dflt (refine' storeP ?zzF ?zzN ?_ ?zza ?zzb; (case zzF => k_asm); (case zzN => k_asm); (case zza => rfl); (case zzb => rfl); k_whole; intro h' tk' F' N'; (try k_sweep)))) | walk1) | (leave1; (try dsimp only)) | fail "no step"))
  refine unhold ?_
  -- if not isinstance(lazy, LazyList)
  refine PySem.wpAny_execs_cons ?_
  ((try k_fold); repeat' (first | (k_unfold; (try dsimp only)) | (k_end; wrow_close) | ((with_reducible show wpAny _ _ (call (Value.builtin _) _) _ _ _); with_reducible (k_here; (with_reducible show wpAny _ _ (call _ [Value.ref _, Value.ref _]) _ _ _); refine hold ?_)) | walk1 | (dsimp only; first | ((with_reducible show wpAny _ _ (call (Value.builtin _) _) _ _ _); with_reducible (k_here; (with_reducible show wpAny _ _ (call _ [Value.ref _, Value.ref _]) _ _ _); refine hold ?_)) | walk1) | (leave1; (try dsimp only)) | fail "no step"))
  refine unhold ?_
  rename Fr _ _ _ _ => F
  rename News _ _ _ _ => N
  refine isi_lazy (by k_in) (News.right N) hl ?_
  ((try k_fold); repeat' (first | (k_unfold; (try dsimp only)) | (k_end; wrow_close) | ((with_reducible show wpAny _ _ (execs (_ :: _) _) _ _ _); with_reducible (k_here; refine hold ?_)) | walk1 | (dsimp only; first | ((with_reducible show wpAny _ _ (execs (_ :: _) _) _ _ _); with_reducible (k_here; refine hold ?_)) | walk1) | (leave1; (try dsimp only)) | fail "no step"))
  refine unhold ?_
  -- for place in [..]
  refine seam (I := Inv2 w s1.heap s1.heap.objs.size s1 R nl b x X.toArray to (fulls cs)) ?_ ?_
  · ((try k_fold); repeat' (first | (k_unfold; (try dsimp only)) | (k_end; wrow_close) | ((with_reducible show wpAny _ _ (exec (Stmt.For (Expr.Name _ _) (Expr.List _ _) _ _ _) _) _ _ _); with_reducible (k_here; refine hold ?_)) | walk1 | (dsimp only; first | ((with_reducible show wpAny _ _ (exec (Stmt.For (Expr.Name _ _) (Expr.List _ _) _ _ _) _) _ _ _); with_reducible (k_here; refine hold ?_)) | walk1) | (leave1; (try dsimp only)) | fail "no step"))
    refine unhold ?_
    refine' For_S ?S ?hx ?hp ?_ ?hs ?hE
    case S => exact S
    case hx => exact rfl
    case hp => exact rfl
    case hs => (intro _; with_unfolding_all rfl)
    case hE => first | passes_own | with_unfolding_all passes_own
    ((try k_fold); repeat' (first | (k_unfold; (try dsimp only)) | (k_end; wrow_close) | ((with_reducible show wpAny _ _ (binaryOp Operator.Add (Value.int _ _) (Value.int _ _)) _ _ _); with_reducible refine add_i ?_) | ((with_reducible show wpAny _ _ (subscriptTail _ _ _ _) _ _ _); with_reducible (k_here; (try dsimp only); (with_reducible show wpAny _ _ (subscriptTail _ _ (Value.ref _) (Value.int _ _)) _ _ _); first | k_dflt (refine' num_item ?zzN ?zzm ?zzz ?zzh0 ?zzhv ?_ ?zzhs ?zzhg; (case zzN => k_asm); (case zzm => k_mem); (case zzz => (simp; done)); (case zzh0 => (first | decide | omega)); (case zzhv => exact rfl); (case zzhs => with_unfolding_all rfl); (case zzhg => (intro _; with_unfolding_all rfl)); k_whole) | refine hold ?_)) | ((with_reducible show wpAny _ _ (eval (Expr.Constant (Const.int _) _ _) _) _ _ _); with_reducible refine const_i ?_) | ((with_reducible show wpAny _ _ (call (Value.builtin _) _) _ _ _); with_reducible (k_here; (with_reducible show wpAny _ _ (call (Value.builtin "len") [Value.ref _]) _ _ _); first | (k_dflt (refine' PyProof.Rows.len_list (News.isList ?zzkN ?zzkM) ?zzkz ?_; (case zzkN => k_asm); (case zzkM => k_mem); (case zzkz => first | omega | ((try simp only [List.size_toArray, List.length_append, List.length_cons, List.length_nil, Array.size_push]); omega)); k_whole); (try simp only [List.size_toArray])) | ((have q' := ‹HasL _ _ _ (Value.ref 201) 0›); clear q'; refine hold ?_))) | ((with_reducible show wpAny _ _ (pyIter (Value.ref _)) _ _ _); with_reducible (k_here; refine hold ?_)) | ((with_reducible show wpAny _ _ (newList _) _ _ _); with_reducible (k_here; k_dflt (refine' newList_K ?zzk1 ?zzk2 ?_; (case zzk1 => k_asm); (case zzk2 => k_asm); k_whole); intro l' h' F' N' l1)) | walk1 | (dsimp only; first | ((with_reducible show wpAny _ _ (binaryOp Operator.Add (Value.int _ _) (Value.int _ _)) _ _ _); with_reducible refine add_i ?_) | ((with_reducible show wpAny _ _ (subscriptTail _ _ _ _) _ _ _); with_reducible (k_here; (try dsimp only); (with_reducible show wpAny _ _ (subscriptTail _ _ (Value.ref _) (Value.int _ _)) _ _ _); first | k_dflt (refine' num_item ?zzN ?zzm ?zzz ?zzh0 ?zzhv ?_ ?zzhs ?zzhg; (case zzN => k_asm); (case zzm => k_mem); (case zzz => (simp; done)); (case zzh0 => (first | decide | omega)); (case zzhv => exact rfl); (case zzhs => with_unfolding_all rfl); (case zzhg => (intro _; with_unfolding_all rfl)); k_whole) | refine hold ?_)) | ((with_reducible show wpAny _ _ (eval (Expr.Constant (Const.int _) _ _) _) _ _ _); with_reducible refine const_i ?_) | ((with_reducible show wpAny _ _ (call (Value.builtin _) _) _ _ _); with_reducible (k_here; (with_reducible show wpAny _ _ (call (Value.builtin "len") [Value.ref _]) _ _ _); first | (k_dflt (refine' PyProof.Rows.len_list (News.isList ?zzkN ?zzkM) ?zzkz ?_; (case zzkN => k_asm); (case zzkM => k_mem); (case zzkz => first | omega | ((try simp only [List.size_toArray, List.length_append, List.length_cons, List.length_nil, Array.size_push]); omega)); k_whole); (try simp only [List.size_toArray])) | ((have q' := ‹HasL _ _ _ (Value.ref 201) 0›); clear q'; refine hold ?_))) | ((with_reducible show wpAny _ _ (pyIter (Value.ref _)) _ _ _); with_reducible (k_here; refine hold ?_)) | ((with_reducible show wpAny _ _ (newList _) _ _ _); with_reducible (k_here; k_dflt (refine' newList_K ?zzk1 ?zzk2 ?_; (case zzk1 => k_asm); (case zzk2 => k_asm); k_whole); intro l' h' F' N' l1)) | walk1) | (leave1; (try dsimp only)) | fail "no step"))
    refine unhold ?_
    rename Fr _ _ _ _ => F
    rename News _ _ _ _ => N
    rename ∀ p ∈ R ++ objsOf w st1, p.1 < _ => l1
    refine' places_L (bd := cs.length + 1) ?hh ?hi ?hz F N l1 D G1 hl ?_ ?_
    case hh => exact rfl
    case hi => exact .cons _ _ (.cons _ _ .nil)
    case hz =>
      intro z hz
      simp only [List.mem_cons, List.not_mem_nil, or_false] at hz
      rcases hz with rfl | rfl <;> exact fmod_in (by first | omega | (simp only [List.size_toArray]; omega))
    · clear F N l1
      intro k t o st2 h3 tk3 own hk G2 hl2 hd D2 F N
      ((try k_fold); repeat' (first | (k_unfold; (try dsimp only)) | (k_end; wrow_close) | ((with_reducible show wpAny _ _ (execs (_ :: _) _) _ _ _); with_reducible (k_here; refine hold ?_)) | walk1 | (dsimp only; first | ((with_reducible show wpAny _ _ (execs (_ :: _) _) _ _ _); with_reducible (k_here; refine hold ?_)) | walk1) | (leave1; (try dsimp only)) | fail "no step"))
      refine unhold ?_
      refine PySem.wpAny_execs_cons ?_
      ((try k_fold); repeat' (first | (k_unfold; (try dsimp only)) | (k_end; wrow_close) | ((with_reducible show wpAny _ _ (call (Value.ref _) _) _ _ _); with_reducible (k_here; refine hold ?_)) | walk1 | (dsimp only; first | ((with_reducible show wpAny _ _ (call (Value.ref _) _) _ _ _); with_reducible (k_here; refine hold ?_)) | walk1) | (leave1; (try dsimp only)) | fail "no step"))
      refine unhold ?_
      rename Fr _ _ _ _ => F
      rename News _ _ _ _ => N
      refine' callL' (readS cs (by omega) st2 x b vs k t G2 hl2 hk) S F N D2 ?kK ?kA ?pre ?hd ?hu ?_
      case kA => exact rfl
      case kK => exact rfl
      case pre => exact fun G _ hR => ⟨⟨_, hR _ (List.mem_append_right _ hb), rfl, _, rfl⟩, TreesL.at (fun p hp => hR p (List.mem_append_right _ hp)) hT⟩
      case hd => decide
      case hu => decide
      clear F N
      intro r own' h4 tk4 F N D3 hr
      obtain ⟨rfl, st3, rfl, hr9⟩ := hr
      have G3 := hr9.1
      have ext3 := hr9.2
      clear hr9
      ((try k_fold); k_steps)
      rename Fr _ _ _ _ => F
      rename News _ _ _ _ => N
      exact pl_end F N D3 hd G3 (hl2.mono ext3) (fun y hy => (by (iterate 9 (try (first | refine put_off hy (by first | exact .head _ | exact .tail _ (.head _) | exact .tail _ (.tail _ (.head _)) | exact .tail _ (.tail _ (.tail _ (.head _))) | exact .tail _ (.tail _ (.tail _ (.tail _ (.head _)))) | exact .tail _ (.tail _ (.tail _ (.tail _ (.tail _ (.head _)))))) ?_ | refine putO_off hy (by first | exact .head _ | exact .tail _ (.head _) | exact .tail _ (.tail _ (.head _)) | exact .tail _ (.tail _ (.tail _ (.head _))) | exact .tail _ (.tail _ (.tail _ (.tail _ (.head _)))) | exact .tail _ (.tail _ (.tail _ (.tail _ (.tail _ (.head _)))))) ?_))); rfl))
    · clear F N l1
      intro h3 tk3 o st2 F N D2 G2 hl2
      exact ⟨rfl, Inv2.mk F rfl rfl rfl rfl N D2 G2 hl2⟩
  intro s' hI2
  obtain ⟨h5, tk5, o5, st5, F, N, D, G5, hl5⟩ := hI2
  refine seam (I := Inv3 s1.heap s1.heap.objs.size s1 R nl b X.toArray to) ?_ ?_
  · ((try k_fold); repeat' (first | (k_unfold; (try dsimp only)) | (k_end; wrow_close) | ((with_reducible show wpAny _ _ (eval (Expr.Constant (Const.int _) _ _) _) _ _ _); with_reducible refine const_i ?_) | ((with_reducible show wpAny _ _ (call (Value.ref _) _) _ _ _); with_reducible (k_here; refine hold ?_)) | walk1 | (dsimp only; first | ((with_reducible show wpAny _ _ (eval (Expr.Constant (Const.int _) _ _) _) _ _ _); with_reducible refine const_i ?_) | ((with_reducible show wpAny _ _ (call (Value.ref _) _) _ _ _); with_reducible (k_here; refine hold ?_)) | walk1) | (leave1; (try dsimp only)) | fail "no step"))
    refine unhold ?_
    rename Fr _ _ _ _ => F
    rename News _ _ _ _ => N
    refine' callL' (tellS (.node cs) hwt st5 (.ref x) (.ref b) 0 _ G5 (elok_of_has hl5) (by decide)) S F N D ?kK ?kA ?pre ?hd ?hu ?_
    case kA => exact rfl
    case kK => exact rfl
    case pre => exact fun G _ hR => TreeL.at hR hTB
    case hd => decide
    case hu => decide
    clear F N
    intro r own' h6 tk6 F N D6 hr
    obtain ⟨rfl, st6, rfl, hr9⟩ := hr
    have G6 := hr9.1
    have ext6 := hr9.2
    clear hr9
    ((try k_fold); repeat' (first | (k_unfold; (try dsimp only)) | (k_end; wrow_close) | ((with_reducible show wpAny _ _ (call (Value.ref _) _) _ _ _); with_reducible (k_here; refine hold ?_)) | walk1 | (dsimp only; first | ((with_reducible show wpAny _ _ (call (Value.ref _) _) _ _ _); with_reducible (k_here; refine hold ?_)) | walk1) | (leave1; (try dsimp only)) | fail "no step"))
    refine unhold ?_
    rename Fr _ _ _ _ => F
    rename News _ _ _ _ => N
    refine' call0 (dec_P X to (full (.node cs)) hx hf hl2) S F (News.left N) ?kK ?kA ?pre ?hd ?hu ?_
    case kA => exact rfl
    case kK => exact rfl
    case pre => exact fun _ _ _ => trivial
    case hd => decide
    case hu => decide
    clear F N
    intro r own' h7 tk7 F N D7 hr
    obtain ⟨st7, rfl, hr9⟩ := hr
    have G7 := hr9.1
    have hel7 := hr9.2
    clear hr9
    have N := news_sub (b := R ++ objsOf w st7) N (fun p hp => List.mem_append.mpr (List.mem_append.mp hp).symm)
    ((try k_fold); repeat' (first | (k_unfold; (try dsimp only)) | (k_end; wrow_close) | ((with_reducible show wpAny _ _ (eval (Expr.Constant (Const.int _) _ _) _) _ _ _); with_reducible refine const_i ?_) | ((with_reducible show wpAny _ _ (call (Value.ref _) _) _ _ _); with_reducible (k_here; refine hold ?_)) | walk1 | (dsimp only; first | ((with_reducible show wpAny _ _ (eval (Expr.Constant (Const.int _) _ _) _) _ _ _); with_reducible refine const_i ?_) | ((with_reducible show wpAny _ _ (call (Value.ref _) _) _ _ _); with_reducible (k_here; refine hold ?_)) | walk1) | (leave1; (try dsimp only)) | fail "no step"))
    refine unhold ?_
    rename Fr _ _ _ _ => F
    rename News _ _ _ _ => N
    refine' callL' (tellS (.node cs) hwt st7 r (.ref b) 1 _ G7 hel7 (by decide)) S F N D7 ?kK ?kA ?pre ?hd ?hu ?_
    case kA => exact rfl
    case kK => exact rfl
    case pre => exact fun G _ hR => TreeL.at hR hTB
    case hd => decide
    case hu => decide
    clear F N
    intro r own' h8 tk8 F N D8 hr
    obtain ⟨rfl, st8, rfl, hr9⟩ := hr
    have G8 := hr9.1
    have ext8 := hr9.2
    clear hr9
    ((try k_fold); k_steps)
    rename Fr _ _ _ _ => F
    rename News _ _ _ _ => N
    exact Inv3.mk F rfl rfl rfl (News.left N)
  -- for way in (..)
  intro s' hI3
  have hDD : KtsDicts (List.filterMap (·.frame) ([] : List Env)) s1.heap := fun b hb => by simp at hb
  obtain ⟨h9, tk9, o9, F, N⟩ := hI3
  refine seam (I := Inv3 s1.heap s1.heap.objs.size s1 R nl b X.toArray to) ?_ ?_
  · ((try k_fold); repeat' (first | (k_unfold; (try dsimp only)) | (k_end; wrow_close) | ((with_reducible show wpAny _ _ (exec (Stmt.For (Expr.Name _ _) (Expr.Tuple _ _ _) _ _ _) _) _ _ _); with_reducible (k_here; refine hold ?_)) | walk1 | (dsimp only; first | ((with_reducible show wpAny _ _ (exec (Stmt.For (Expr.Name _ _) (Expr.Tuple _ _ _) _ _ _) _) _ _ _); with_reducible (k_here; refine hold ?_)) | walk1) | (leave1; (try dsimp only)) | fail "no step"))
    refine unhold ?_
    refine' For_S ?S ?hx ?hp ?_ ?hs ?hE
    case S => exact S
    case hx => exact rfl
    case hp => exact rfl
    case hs => (intro _; with_unfolding_all rfl)
    case hE => first | passes_own | with_unfolding_all passes_own
    ((try k_fold); repeat' (first | (k_unfold; (try dsimp only)) | (k_end; wrow_close) | ((with_reducible show wpAny _ _ (subscriptTail _ _ _ _) _ _ _); with_reducible (k_here; (try dsimp only); (with_reducible show wpAny _ _ (subscriptTail _ _ (Value.ref _) (Value.int _ _)) _ _ _); first | k_dflt (refine' num_item ?zzN ?zzm ?zzz ?zzh0 ?zzhv ?_ ?zzhs ?zzhg; (case zzN => k_asm); (case zzm => k_mem); (case zzz => (simp; done)); (case zzh0 => (first | decide | omega)); (case zzhv => exact rfl); (case zzhs => with_unfolding_all rfl); (case zzhg => (intro _; with_unfolding_all rfl)); k_whole) | refine hold ?_)) | ((with_reducible show wpAny _ _ (eval (Expr.Constant (Const.int _) _ _) _) _ _ _); with_reducible refine const_i ?_) | ((with_reducible show wpAny _ _ (call (Value.ref _) _) _ _ _); with_reducible (k_here; refine hold ?_)) | walk1 | (dsimp only; first | ((with_reducible show wpAny _ _ (subscriptTail _ _ _ _) _ _ _); with_reducible (k_here; (try dsimp only); (with_reducible show wpAny _ _ (subscriptTail _ _ (Value.ref _) (Value.int _ _)) _ _ _); first | k_dflt (refine' num_item ?zzN ?zzm ?zzz ?zzh0 ?zzhv ?_ ?zzhs ?zzhg; (case zzN => k_asm); (case zzm => k_mem); (case zzz => (simp; done)); (case zzh0 => (first | decide | omega)); (case zzhv => exact rfl); (case zzhs => with_unfolding_all rfl); (case zzhg => (intro _; with_unfolding_all rfl)); k_whole) | refine hold ?_)) | ((with_reducible show wpAny _ _ (eval (Expr.Constant (Const.int _) _ _) _) _ _ _); with_reducible refine const_i ?_) | ((with_reducible show wpAny _ _ (call (Value.ref _) _) _ _ _); with_reducible (k_here; refine hold ?_)) | walk1) | (leave1; (try dsimp only)) | fail "no step"))
    refine unhold ?_
    rename Fr _ _ _ _ => F
    rename News _ _ _ _ => N
    refine' call0 (sp258 _ _) S F N ?kK ?kA ?pre ?hd ?hu ?_
    case kA => exact rfl
    case kK => exact rfl
    case pre => exact fun _ _ _ => trivial
    case hd => decide
    case hu => decide
    clear F N
    intro r own' h10 tk10 F N D10 hr
    obtain ⟨w1, e1, ws1, zs1, rfl, rfl, hw1⟩ := hr
    clear D10
    ((try k_fold); repeat' (first | (k_unfold; (try dsimp only)) | (k_end; wrow_close) | ((with_reducible show wpAny _ _ (subscriptTail _ _ _ _) _ _ _); with_reducible (k_here; (try dsimp only); (with_reducible show wpAny _ _ (subscriptTail _ _ (Value.ref _) (Value.int _ _)) _ _ _); first | k_dflt (refine' num_item ?zzN ?zzm ?zzz ?zzh0 ?zzhv ?_ ?zzhs ?zzhg; (case zzN => k_asm); (case zzm => k_mem); (case zzz => (simp; done)); (case zzh0 => (first | decide | omega)); (case zzhv => exact rfl); (case zzhs => with_unfolding_all rfl); (case zzhg => (intro _; with_unfolding_all rfl)); k_whole) | refine hold ?_)) | ((with_reducible show wpAny _ _ (eval (Expr.Constant (Const.int _) _ _) _) _ _ _); with_reducible refine const_i ?_) | ((with_reducible show wpAny _ _ (call (Value.ref _) _) _ _ _); with_reducible (k_here; refine hold ?_)) | walk1 | (dsimp only; first | ((with_reducible show wpAny _ _ (subscriptTail _ _ _ _) _ _ _); with_reducible (k_here; (try dsimp only); (with_reducible show wpAny _ _ (subscriptTail _ _ (Value.ref _) (Value.int _ _)) _ _ _); first | k_dflt (refine' num_item ?zzN ?zzm ?zzz ?zzh0 ?zzhv ?_ ?zzhs ?zzhg; (case zzN => k_asm); (case zzm => k_mem); (case zzz => (simp; done)); (case zzh0 => (first | decide | omega)); (case zzhv => exact rfl); (case zzhs => with_unfolding_all rfl); (case zzhg => (intro _; with_unfolding_all rfl)); k_whole) | refine hold ?_)) | ((with_reducible show wpAny _ _ (eval (Expr.Constant (Const.int _) _ _) _) _ _ _); with_reducible refine const_i ?_) | ((with_reducible show wpAny _ _ (call (Value.ref _) _) _ _ _); with_reducible (k_here; refine hold ?_)) | walk1) | (leave1; (try dsimp only)) | fail "no step"))
    refine unhold ?_
    rename Fr _ _ _ _ => F
    rename News _ _ _ _ => N
    refine' call0 (sp258 _ _) S F N ?kK ?kA ?pre ?hd ?hu ?_
    case kA => exact rfl
    case kK => exact rfl
    case pre => exact fun _ _ _ => trivial
    case hd => decide
    case hu => decide
    clear F N
    intro r own' h11 tk11 F N D11 hr
    obtain ⟨w2, e2, ws2, zs2, rfl, rfl, hw2⟩ := hr
    clear D11
    simp only [List.cons_append, List.nil_append] at N
    ((try k_fold); repeat' (first | (k_unfold; (try dsimp only)) | (k_end; wrow_close) | ((with_reducible show wpAny _ _ (subscriptTail _ _ _ _) _ _ _); with_reducible (k_here; (try dsimp only); (with_reducible show wpAny _ _ (subscriptTail _ _ (Value.ref _) (Value.int _ _)) _ _ _); first | k_dflt (refine' num_item ?zzN ?zzm ?zzz ?zzh0 ?zzhv ?_ ?zzhs ?zzhg; (case zzN => k_asm); (case zzm => k_mem); (case zzz => (simp; done)); (case zzh0 => (first | decide | omega)); (case zzhv => exact rfl); (case zzhs => with_unfolding_all rfl); (case zzhg => (intro _; with_unfolding_all rfl)); k_whole) | refine hold ?_)) | ((with_reducible show wpAny _ _ (eval (Expr.Constant (Const.int _) _ _) _) _ _ _); with_reducible refine const_i ?_) | ((with_reducible show wpAny _ _ (call (Value.builtin _) _) _ _ _); with_reducible (k_here; (with_reducible show wpAny _ _ (call (Value.builtin "len") [Value.ref _]) _ _ _); first | (k_dflt (refine' PyProof.Rows.len_list (News.isList ?zzkN ?zzkM) ?zzkz ?_; (case zzkN => k_asm); (case zzkM => k_mem); (case zzkz => first | omega | ((try simp only [List.size_toArray, List.length_append, List.length_cons, List.length_nil, Array.size_push]); omega)); k_whole); (try simp only [List.size_toArray])) | ((have q' := ‹HasL _ _ _ (Value.ref 201) 0›); clear q'; refine hold ?_))) | ((with_reducible show wpAny _ _ (pyIter (Value.ref _)) _ _ _); with_reducible (k_here; refine hold ?_)) | ((with_reducible show wpAny _ _ (newList _) _ _ _); with_reducible (k_here; k_dflt (refine' newList_K ?zzk1 ?zzk2 ?_; (case zzk1 => k_asm); (case zzk2 => k_asm); k_whole); intro l' h' F' N' l1)) | walk1 | (dsimp only; first | ((with_reducible show wpAny _ _ (subscriptTail _ _ _ _) _ _ _); with_reducible (k_here; (try dsimp only); (with_reducible show wpAny _ _ (subscriptTail _ _ (Value.ref _) (Value.int _ _)) _ _ _); first | k_dflt (refine' num_item ?zzN ?zzm ?zzz ?zzh0 ?zzhv ?_ ?zzhs ?zzhg; (case zzN => k_asm); (case zzm => k_mem); (case zzz => (simp; done)); (case zzh0 => (first | decide | omega)); (case zzhv => exact rfl); (case zzhs => with_unfolding_all rfl); (case zzhg => (intro _; with_unfolding_all rfl)); k_whole) | refine hold ?_)) | ((with_reducible show wpAny _ _ (eval (Expr.Constant (Const.int _) _ _) _) _ _ _); with_reducible refine const_i ?_) | ((with_reducible show wpAny _ _ (call (Value.builtin _) _) _ _ _); with_reducible (k_here; (with_reducible show wpAny _ _ (call (Value.builtin "len") [Value.ref _]) _ _ _); first | (k_dflt (refine' PyProof.Rows.len_list (News.isList ?zzkN ?zzkM) ?zzkz ?_; (case zzkN => k_asm); (case zzkM => k_mem); (case zzkz => first | omega | ((try simp only [List.size_toArray, List.length_append, List.length_cons, List.length_nil, Array.size_push]); omega)); k_whole); (try simp only [List.size_toArray])) | ((have q' := ‹HasL _ _ _ (Value.ref 201) 0›); clear q'; refine hold ?_))) | ((with_reducible show wpAny _ _ (pyIter (Value.ref _)) _ _ _); with_reducible (k_here; refine hold ?_)) | ((with_reducible show wpAny _ _ (newList _) _ _ _); with_reducible (k_here; k_dflt (refine' newList_K ?zzk1 ?zzk2 ?_; (case zzk1 => k_asm); (case zzk2 => k_asm); k_whole); intro l' h' F' N' l1)) | walk1) | (leave1; (try dsimp only)) | fail "no step"))
    refine unhold ?_
    rename Fr _ _ _ _ => F
    rename News _ _ _ _ => N
    rename _ < _ ∧ _ < _ ∧ _ < _ ∧ AllLt _ _ => l1
    refine gen_led (News.tail1 N) fun RW hRW => ?_
    have hsub : ∀ p ∈ R, p ∈ RW := fun p hp => by rw [hRW]; k_mem
    rw [← hRW] at N
    refine' ways_L ?hh F N ?hto (by rw [hRW]; exact allLt_ne l1) ?hw ?_ ?_
    case hh => exact rfl
    case hto => exact ⟨rfl, _, rfl⟩
    case hw =>
      intro v hv
      rw [hRW]
      simp only [List.mem_cons, List.not_mem_nil, or_false] at hv
      rcases hv with rfl | rfl | rfl
      · exact ⟨_, _, _, _, rfl, by k_mem, hw1⟩
      · exact ⟨_, _, _, _, rfl, by k_mem, hw2⟩
      · refine ⟨_, _, _, _, rfl, by k_mem, .cons _ _ .nil, by simp, fun z hz => ?_⟩
        rw [List.mem_singleton.mp hz]
        exact fmod_in2 (n := cs.length) (by first | omega | (simp only [List.size_toArray]; omega)) hcl (by omega)
    rotate_left
    · clear F N l1
      intro h12 tk12 p1 p2 p3 p4 p5 F N
      exact ⟨rfl, Inv3.mk F rfl rfl rfl (news_sub N hsub)⟩
    clear F N l1 hRW
    intro lw ws zs1 epw p1 p2 p3 p4 p5 h12 tk12 own hlw hwz hd F N
    have hbW := hsub _ hb
    have hnW := hsub _ hn
    have hTW := hTB.mono hsub
    have hwl : ws.length ≤ 3 := by have h1 := hwz.1.sizeZ; have h2 := hwz.2.1; simp at h1; omega
    clear hw1 hw2
    -- due
    ((try k_fold); repeat' (first | (k_unfold; (try dsimp only)) | (k_end; wrow_close) | ((with_reducible show wpAny _ _ (execs (_ :: _) _) _ _ _); with_reducible (k_here; refine hold ?_)) | walk1 | (dsimp only; first | ((with_reducible show wpAny _ _ (execs (_ :: _) _) _ _ _); with_reducible (k_here; refine hold ?_)) | walk1) | (leave1; (try dsimp only)) | fail "no step"))
    refine unhold ?_
    refine PySem.wpAny_execs_cons ?_
    ((try k_fold); repeat' (first | (k_unfold; (try dsimp only)) | (k_end; wrow_close) | ((with_reducible show wpAny _ _ (call (Value.ref _) _) _ _ _); with_reducible (k_here; refine hold ?_)) | walk1 | (dsimp only; first | ((with_reducible show wpAny _ _ (call (Value.ref _) _) _ _ _); with_reducible (k_here; refine hold ?_)) | walk1) | (leave1; (try dsimp only)) | fail "no step"))
    refine unhold ?_
    rename Fr _ _ _ _ => F
    rename News _ _ _ _ => N
    refine' call0 (sp265 RW (.node cs) hwt (.ref b) hTW lw ws zs1 hwz) S F N ?kK ?kA ?pre ?hd ?hu ?_
    case kA => exact rfl
    case kK => exact rfl
    case pre => exact fun G _ hR => ⟨fun p hp => hR p (List.mem_append_right _ hp), ⟨_, hR _ (List.mem_append_right _ hlw), rfl, _, rfl⟩⟩
    case hd => decide
    case hu => decide
    clear F N
    intro due own' h13 tk13 F N D13 hr
    obtain ⟨rfl, hdue⟩ := hr
    clear D13
    rw [List.nil_append] at N
    ((try k_fold); repeat' (first | (k_unfold; (try dsimp only)) | (k_end; wrow_close) | ((with_reducible show wpAny _ _ (execs (_ :: _) _) _ _ _); with_reducible (k_here; refine hold ?_)) | ((with_reducible show wpAny _ _ (storeName _ _ _) _ _ _); with_reducible (k_here; k_dflt (refine' storeP ?zzF ?zzN ?_ ?zza ?zzb; (case zzF => k_asm); (case zzN => k_asm); (case zza => rfl); (case zzb => rfl); k_whole; intro h' tk' F' N'; (try k_sweep)))) | walk1 | (dsimp only; first | ((with_reducible show wpAny _ _ (execs (_ :: _) _) _ _ _); with_reducible (k_here; refine hold ?_)) | ((with_reducible show wpAny _ _ (storeName _ _ _) _ _ _); with_reducible (k_here; k_dflt (refine' storeP ?zzF ?zzN ?_ ?zza ?zzb; (case zzF => k_asm); (case zzN => k_asm); (case zza => rfl); (case zzb => rfl); k_whole; intro h' tk' F' N'; (try k_sweep)))) | walk1) | (leave1; (try dsimp only)) | fail "no step"))
    refine unhold ?_
    refine seam2 (WyT w s1.heap s1.heap.objs.size s1 own RW lw nl b due X.toArray to (.node cs) zs1 (put (put (put o9 (Str.ofString "rows") (.ref b)) (Str.ofString "numbers") (.ref nl)) (Str.ofString "octets") (.bytes X.toArray to))) ?_ ?_
    · ((try k_fold); repeat' (first | (k_unfold; (try dsimp only)) | (k_end; wrow_close) | ((with_reducible show wpAny _ _ (execs (_ :: _) _) _ _ _); with_reducible (k_here; refine hold ?_)) | walk1 | (dsimp only; first | ((with_reducible show wpAny _ _ (execs (_ :: _) _) _ _ _); with_reducible (k_here; refine hold ?_)) | walk1) | (leave1; (try dsimp only)) | fail "no step"))
      refine unhold ?_
      refine PySem.wpAny_execs_cons ?_
      ((try k_fold); repeat' (first | (k_unfold; (try dsimp only)) | (k_end; wrow_close) | ((with_reducible show wpAny _ _ (eval (Expr.Constant (Const.int _) _ _) _) _ _ _); with_reducible refine const_i ?_) | ((with_reducible show wpAny _ _ (call (Value.builtin _) _) _ _ _); with_reducible (k_here; (with_reducible show wpAny _ _ (call (Value.builtin "len") [Value.ref _]) _ _ _); first | (k_dflt (refine' PyProof.Rows.len_list (News.isList ?zzkN ?zzkM) ?zzkz ?_; (case zzkN => k_asm); (case zzkM => k_mem); (case zzkz => first | omega | ((try simp only [List.size_toArray, List.length_append, List.length_cons, List.length_nil, Array.size_push]); omega)); k_whole); (try simp only [List.size_toArray])) | ((have q' := ‹HasL _ _ _ (Value.ref 201) 0›); clear q'; refine hold ?_))) | ((with_reducible show wpAny _ _ (call (Value.type _) _) _ _ _); with_reducible (k_here; (with_reducible show wpAny _ _ (call (Value.type _) [Value.ref _]) _ _ _); k_dflt (refine' kde_tupleOf ?zzk1 ?zzk2 ?zzk3 ?zzk4 ?zzk5 ?_; (case zzk1 => k_asm); (case zzk2 => k_asm); (case zzk3 => exact News.isList (by k_asm) (by k_mem)); (case zzk4 => (simp only [List.size_toArray]; omega)); (case zzk5 => exact rfl); k_whole); intro D' h' F' N' l1)) | ((with_reducible show wpAny _ _ (call (Value.ref _) _) _ _ _); with_reducible (k_here; refine hold ?_)) | walk1 | (dsimp only; first | ((with_reducible show wpAny _ _ (eval (Expr.Constant (Const.int _) _ _) _) _ _ _); with_reducible refine const_i ?_) | ((with_reducible show wpAny _ _ (call (Value.builtin _) _) _ _ _); with_reducible (k_here; (with_reducible show wpAny _ _ (call (Value.builtin "len") [Value.ref _]) _ _ _); first | (k_dflt (refine' PyProof.Rows.len_list (News.isList ?zzkN ?zzkM) ?zzkz ?_; (case zzkN => k_asm); (case zzkM => k_mem); (case zzkz => first | omega | ((try simp only [List.size_toArray, List.length_append, List.length_cons, List.length_nil, Array.size_push]); omega)); k_whole); (try simp only [List.size_toArray])) | ((have q' := ‹HasL _ _ _ (Value.ref 201) 0›); clear q'; refine hold ?_))) | ((with_reducible show wpAny _ _ (call (Value.type _) _) _ _ _); with_reducible (k_here; (with_reducible show wpAny _ _ (call (Value.type _) [Value.ref _]) _ _ _); k_dflt (refine' kde_tupleOf ?zzk1 ?zzk2 ?zzk3 ?zzk4 ?zzk5 ?_; (case zzk1 => k_asm); (case zzk2 => k_asm); (case zzk3 => exact News.isList (by k_asm) (by k_mem)); (case zzk4 => (simp only [List.size_toArray]; omega)); (case zzk5 => exact rfl); k_whole); intro D' h' F' N' l1)) | ((with_reducible show wpAny _ _ (call (Value.ref _) _) _ _ _); with_reducible (k_here; refine hold ?_)) | walk1) | (leave1; (try dsimp only)) | fail "no step"))
      · refine unhold ?_
        rename Fr _ _ _ _ => F
        rename News _ _ _ _ => N
        refine' callN (sp163a X to (full (.node cs)) hx hf hl2 _ ws zs1 hwz.1 hwz.2.2 (ptOk_full _ _)) S F N ?kK ?kA ?pre ?hd ?hu ?_ ?_
        case kA => exact rfl
        case kK => exact rfl
        case pre => exact fun G _ hR => .inr ⟨_, hR _ (List.mem_cons_self ..), rfl, _, rfl⟩
        case hd => decide
        case hu => decide
        · clear F N
          intro r own' h14 tk14 F N D hr
          obtain ⟨st, t, rfl, hr9⟩ := hr
          have G := hr9.1
          have hget := hr9.2.1
          have hel := hr9.2.2
          clear hr9
          rw [ptGet_full] at hget
          rcases hdue with ⟨hn0, _⟩ | ⟨c, hc0, hdc⟩
          · rw [hn0] at hget; cases hget
          · rw [hc0] at hget
            cases hget
            ((try k_fold); repeat' (first | (k_unfold; (try dsimp only)) | (k_end; wrow_close) | ((with_reducible show wpAny _ _ (storeName _ _ _) _ _ _); with_reducible (k_here; k_dflt (refine' storeP ?zzF ?zzN ?_ ?zza ?zzb; (case zzF => k_asm); (case zzN => k_asm); (case zza => rfl); (case zzb => rfl); k_whole; intro h' tk' F' N'; (try k_sweep)))) | walk1 | (dsimp only; first | ((with_reducible show wpAny _ _ (storeName _ _ _) _ _ _); with_reducible (k_here; k_dflt (refine' storeP ?zzF ?zzN ?_ ?zza ?zzb; (case zzF => k_asm); (case zzN => k_asm); (case zza => rfl); (case zzb => rfl); k_whole; intro h' tk' F' N'; (try k_sweep)))) | walk1) | (leave1; (try dsimp only)) | fail "no step"))
            rename Fr _ _ _ _ => F
            rename News _ _ _ _ => N
            exact WyT.mk F rfl rfl rfl rfl rfl rfl (fun y hy => (by (iterate 9 (try (first | refine put_off hy (by first | exact .head _ | exact .tail _ (.head _) | exact .tail _ (.tail _ (.head _)) | exact .tail _ (.tail _ (.tail _ (.head _))) | exact .tail _ (.tail _ (.tail _ (.tail _ (.head _)))) | exact .tail _ (.tail _ (.tail _ (.tail _ (.tail _ (.head _)))))) ?_ | refine putO_off hy (by first | exact .head _ | exact .tail _ (.head _) | exact .tail _ (.tail _ (.head _)) | exact .tail _ (.tail _ (.tail _ (.head _))) | exact .tail _ (.tail _ (.tail _ (.tail _ (.head _)))) | exact .tail _ (.tail _ (.tail _ (.tail _ (.tail _ (.head _)))))) ?_))); rfl)) (news_sub N (fun p hp => List.mem_cons_of_mem _ hp)) (fun p hp q hq => D p (List.mem_cons_of_mem _ hp) q hq) G hc0 hdc hel
        · clear F N
          intro e cls c G own' h14 tk14 hX9 FG hU hr
          obtain ⟨rfl, hnone, rfl⟩ := hr
          rw [ptGet_full] at hnone
          rcases hdue with ⟨hn0, rfl⟩ | ⟨c, hc0, hdc⟩
          · refine' caughtX (T' := "IndexError") hX9 FG (Site.below S) hU KX T hDD ?ex PyProof.Rows.Boot.«IndexError» ?hn exc_IndexError notTup_IndexError index_sub ?_ ?hE
            case ex => k_is
            case hn => decide
            case hE => first | passes_own | with_unfolding_all passes_own
            intro h15 g15 oe vs15 T15 F N K15 X15 P15 D15 hc1 hc2 hc3
            have F := fr_back T15 F
            have N := news_back T15 N
            rw [List.append_nil] at N
            have N := News.tail1 N
            ((try k_fold); repeat' (first | (k_unfold; (try dsimp only)) | (k_end; wrow_close) | ((with_reducible show wpAny _ _ (execs (_ :: _) _) _ _ _); with_reducible (k_here; refine hold ?_)) | walk1 | (dsimp only; first | ((with_reducible show wpAny _ _ (execs (_ :: _) _) _ _ _); with_reducible (k_here; refine hold ?_)) | walk1) | (leave1; (try dsimp only)) | fail "no step"))
            refine unhold ?_
            refine PySem.wpAny_execs_cons ?_
            ((try k_fold); repeat' (first | (k_unfold; (try dsimp only)) | (k_end; wrow_close) | ((with_reducible show wpAny _ _ (execs (_ :: _) _) _ _ _); with_reducible (k_here; refine hold ?_)) | walk1 | (dsimp only; first | ((with_reducible show wpAny _ _ (execs (_ :: _) _) _ _ _); with_reducible (k_here; refine hold ?_)) | walk1) | (leave1; (try dsimp only)) | fail "no step"))
            refine unhold ?_
            refine PySem.wpAny_execs_cons ?_
            ((try k_fold); k_steps)
            rename Fr _ _ _ _ => F
            rename News _ _ _ _ => N
            exact ⟨_, _, _, RW, rfl, F, News.tail1 N, hd, fun y hy => (by (iterate 9 (try (first | refine put_off hy (by first | exact .head _ | exact .tail _ (.head _) | exact .tail _ (.tail _ (.head _)) | exact .tail _ (.tail _ (.tail _ (.head _))) | exact .tail _ (.tail _ (.tail _ (.tail _ (.head _)))) | exact .tail _ (.tail _ (.tail _ (.tail _ (.tail _ (.head _)))))) ?_ | refine putO_off hy (by first | exact .head _ | exact .tail _ (.head _) | exact .tail _ (.tail _ (.head _)) | exact .tail _ (.tail _ (.tail _ (.head _))) | exact .tail _ (.tail _ (.tail _ (.tail _ (.head _)))) | exact .tail _ (.tail _ (.tail _ (.tail _ (.tail _ (.head _)))))) ?_))); rfl), rfl⟩
          · rw [hc0] at hnone; cases hnone
      · refine unhold ?_
        rename Fr _ _ _ _ => F
        rename News _ _ _ _ => N
        refine' callN (sp163a X to (full (.node cs)) hx hf hl2 _ ws zs1 hwz.1 hwz.2.2 (ptOk_full _ _)) S F N ?kK ?kA ?pre ?hd ?hu ?_ ?_
        case kA => exact rfl
        case kK => exact rfl
        case pre => exact fun G _ hR => .inl ⟨_, hR _ (List.mem_append_right _ hlw), rfl, _, rfl⟩
        case hd => decide
        case hu => decide
        · clear F N
          intro r own' h14 tk14 F N D hr
          obtain ⟨st, t, rfl, hr9⟩ := hr
          have G := hr9.1
          have hget := hr9.2.1
          have hel := hr9.2.2
          clear hr9
          rw [ptGet_full] at hget
          rcases hdue with ⟨hn0, _⟩ | ⟨c, hc0, hdc⟩
          · rw [hn0] at hget; cases hget
          · rw [hc0] at hget
            cases hget
            ((try k_fold); repeat' (first | (k_unfold; (try dsimp only)) | (k_end; wrow_close) | ((with_reducible show wpAny _ _ (storeName _ _ _) _ _ _); with_reducible (k_here; k_dflt (refine' storeP ?zzF ?zzN ?_ ?zza ?zzb; (case zzF => k_asm); (case zzN => k_asm); (case zza => rfl); (case zzb => rfl); k_whole; intro h' tk' F' N'; (try k_sweep)))) | walk1 | (dsimp only; first | ((with_reducible show wpAny _ _ (storeName _ _ _) _ _ _); with_reducible (k_here; k_dflt (refine' storeP ?zzF ?zzN ?_ ?zza ?zzb; (case zzF => k_asm); (case zzN => k_asm); (case zza => rfl); (case zzb => rfl); k_whole; intro h' tk' F' N'; (try k_sweep)))) | walk1) | (leave1; (try dsimp only)) | fail "no step"))
            rename Fr _ _ _ _ => F
            rename News _ _ _ _ => N
            exact WyT.mk F rfl rfl rfl rfl rfl rfl (fun y hy => (by (iterate 9 (try (first | refine put_off hy (by first | exact .head _ | exact .tail _ (.head _) | exact .tail _ (.tail _ (.head _)) | exact .tail _ (.tail _ (.tail _ (.head _))) | exact .tail _ (.tail _ (.tail _ (.tail _ (.head _)))) | exact .tail _ (.tail _ (.tail _ (.tail _ (.tail _ (.head _)))))) ?_ | refine putO_off hy (by first | exact .head _ | exact .tail _ (.head _) | exact .tail _ (.tail _ (.head _)) | exact .tail _ (.tail _ (.tail _ (.head _))) | exact .tail _ (.tail _ (.tail _ (.tail _ (.head _)))) | exact .tail _ (.tail _ (.tail _ (.tail _ (.tail _ (.head _)))))) ?_))); rfl)) (N) (D) G hc0 hdc hel
        · clear F N
          intro e cls c G own' h14 tk14 hX9 FG hU hr
          obtain ⟨rfl, hnone, rfl⟩ := hr
          rw [ptGet_full] at hnone
          rcases hdue with ⟨hn0, rfl⟩ | ⟨c, hc0, hdc⟩
          · refine' caughtX (T' := "IndexError") hX9 FG (Site.below S) hU KX T hDD ?ex PyProof.Rows.Boot.«IndexError» ?hn exc_IndexError notTup_IndexError index_sub ?_ ?hE
            case ex => k_is
            case hn => decide
            case hE => first | passes_own | with_unfolding_all passes_own
            intro h15 g15 oe vs15 T15 F N K15 X15 P15 D15 hc1 hc2 hc3
            have F := fr_back T15 F
            have N := news_back T15 N
            rw [List.append_nil] at N
            have N := News.tail1 N
            ((try k_fold); repeat' (first | (k_unfold; (try dsimp only)) | (k_end; wrow_close) | ((with_reducible show wpAny _ _ (execs (_ :: _) _) _ _ _); with_reducible (k_here; refine hold ?_)) | walk1 | (dsimp only; first | ((with_reducible show wpAny _ _ (execs (_ :: _) _) _ _ _); with_reducible (k_here; refine hold ?_)) | walk1) | (leave1; (try dsimp only)) | fail "no step"))
            refine unhold ?_
            refine PySem.wpAny_execs_cons ?_
            ((try k_fold); repeat' (first | (k_unfold; (try dsimp only)) | (k_end; wrow_close) | ((with_reducible show wpAny _ _ (execs (_ :: _) _) _ _ _); with_reducible (k_here; refine hold ?_)) | walk1 | (dsimp only; first | ((with_reducible show wpAny _ _ (execs (_ :: _) _) _ _ _); with_reducible (k_here; refine hold ?_)) | walk1) | (leave1; (try dsimp only)) | fail "no step"))
            refine unhold ?_
            refine PySem.wpAny_execs_cons ?_
            ((try k_fold); k_steps)
            rename Fr _ _ _ _ => F
            rename News _ _ _ _ => N
            exact ⟨_, _, _, RW, rfl, F, N, hd, fun y hy => (by (iterate 9 (try (first | refine put_off hy (by first | exact .head _ | exact .tail _ (.head _) | exact .tail _ (.tail _ (.head _)) | exact .tail _ (.tail _ (.tail _ (.head _))) | exact .tail _ (.tail _ (.tail _ (.tail _ (.head _)))) | exact .tail _ (.tail _ (.tail _ (.tail _ (.tail _ (.head _)))))) ?_ | refine putO_off hy (by first | exact .head _ | exact .tail _ (.head _) | exact .tail _ (.tail _ (.head _)) | exact .tail _ (.tail _ (.tail _ (.head _))) | exact .tail _ (.tail _ (.tail _ (.tail _ (.head _)))) | exact .tail _ (.tail _ (.tail _ (.tail _ (.tail _ (.head _)))))) ?_))); rfl), rfl⟩
          · rw [hc0] at hnone; cases hnone
    · intro s' hWT
      obtain ⟨h16, tk16, o16, st16, c, told, F, ho16, N, D, G16, hc16, hdc, hel⟩ := hWT
      have hcw : c.wt ≤ 4300 := Nat.le_trans (treeGet_wt _ _ _ hc16) hwt
      refine PySem.wpAny_execs_cons ?_
      ((try k_fold); repeat' (first | (k_unfold; (try dsimp only)) | (k_end; wrow_close) | ((with_reducible show wpAny _ _ (compareOp CmpOp.Is _ _) _ _ _); with_reducible (k_here; refine hold ?_)) | walk1 | (dsimp only; first | ((with_reducible show wpAny _ _ (compareOp CmpOp.Is _ _) _ _ _); with_reducible (k_here; refine hold ?_)) | walk1) | (leave1; (try dsimp only)) | fail "no step"))
      refine unhold ?_
      refine PyProof.Rows.is_none_ne (tree_ne hdc) ?_
      ((try k_fold); repeat' (first | (k_unfold; (try dsimp only)) | (k_end; wrow_close) | ((with_reducible show wpAny _ _ (eval (Expr.Constant (Const.int _) _ _) _) _ _ _); with_reducible refine const_i ?_) | ((with_reducible show wpAny _ _ (call (Value.ref _) _) _ _ _); with_reducible (k_here; refine hold ?_)) | walk1 | (dsimp only; first | ((with_reducible show wpAny _ _ (eval (Expr.Constant (Const.int _) _ _) _) _ _ _); with_reducible refine const_i ?_) | ((with_reducible show wpAny _ _ (call (Value.ref _) _) _ _ _); with_reducible (k_here; refine hold ?_)) | walk1) | (leave1; (try dsimp only)) | fail "no step"))
      refine unhold ?_
      rename Fr _ _ _ _ => F
      rename News _ _ _ _ => N
      refine' callL' (tellS c hcw st16 told due 0 _ G16 hel (by decide)) S F N D ?kK ?kA ?pre ?hd ?hu ?_
      case kA => exact rfl
      case kK => exact rfl
      case pre => exact fun G _ hR => TreeL.at (fun p hp => hR p (List.mem_append_right _ hp)) hdc
      case hd => decide
      case hu => decide
      clear F N
      intro r own' h17 tk17 F N D17 hr
      obtain ⟨rfl, st17, rfl, hr9⟩ := hr
      have G17 := hr9.1
      have ext17 := hr9.2
      clear hr9
      ((try k_fold); repeat' (first | (k_unfold; (try dsimp only)) | (k_end; wrow_close) | ((with_reducible show wpAny _ _ (execs (_ :: _) _) _ _ _); with_reducible (k_here; refine hold ?_)) | walk1 | (dsimp only; first | ((with_reducible show wpAny _ _ (execs (_ :: _) _) _ _ _); with_reducible (k_here; refine hold ?_)) | walk1) | (leave1; (try dsimp only)) | fail "no step"))
      refine unhold ?_
      refine PySem.wpAny_execs_cons ?_
      ((try k_fold); repeat' (first | (k_unfold; (try dsimp only)) | (k_end; wrow_close) | ((with_reducible show wpAny _ _ (call (Value.ref _) _) _ _ _); with_reducible (k_here; refine hold ?_)) | walk1 | (dsimp only; first | ((with_reducible show wpAny _ _ (call (Value.ref _) _) _ _ _); with_reducible (k_here; refine hold ?_)) | walk1) | (leave1; (try dsimp only)) | fail "no step"))
      refine unhold ?_
      rename Fr _ _ _ _ => F
      rename News _ _ _ _ => N
      refine' call0 (endS zs1 (.node cs) c hwt hwz.2.2 hwz.2.1 hc16 (.ref b) lw ws hwz.1) S F (News.left N) ?kK ?kA ?pre ?hd ?hu ?_
      case kA => exact rfl
      case kK => exact rfl
      case pre => exact fun G _ hR => ⟨TreeL.at (fun p hp => hR p (List.mem_append_right _ hp)) hTW, ⟨_, hR _ (List.mem_append_right _ hlw), rfl, _, rfl⟩⟩
      case hd => decide
      case hu => decide
      clear F N
      intro r own' h18 tk18 F N D18 hr
      obtain ⟨⟨te, rfl⟩, rfl⟩ := hr
      clear D18
      rw [List.nil_append] at N
      have hE := endF_le zs1 (.node cs)
      rw [hX] at hE
      have hgp := ptGet_prune zs1 (.node cs) c hc16
      have hok := ptOk_prune zs1 (.node cs) c hc16
      have hpl := prune_len zs1 (.node cs)
      have hbf := fun post => bent_fits (zs := zs1) (post := post) hX
      generalize endF (.node cs) zs1 = E0 at hE hbf
      generalize prune (.node cs) zs1 = PP at hgp hok hpl hbf
      ((try k_fold); repeat' (first | (k_unfold; (try dsimp only)) | (k_end; wrow_close) | ((with_reducible show wpAny _ _ (execs (_ :: _) _) _ _ _); with_reducible (k_here; refine hold ?_)) | ((with_reducible show wpAny _ _ (storeName _ _ _) _ _ _); with_reducible (k_here; k_dflt (refine' storeP ?zzF ?zzN ?_ ?zza ?zzb; (case zzF => k_asm); (case zzN => k_asm); (case zza => rfl); (case zzb => rfl); k_whole; intro h' tk' F' N'; (try k_sweep)))) | walk1 | (dsimp only; first | ((with_reducible show wpAny _ _ (execs (_ :: _) _) _ _ _); with_reducible (k_here; refine hold ?_)) | ((with_reducible show wpAny _ _ (storeName _ _ _) _ _ _); with_reducible (k_here; k_dflt (refine' storeP ?zzF ?zzN ?_ ?zza ?zzb; (case zzF => k_asm); (case zzN => k_asm); (case zza => rfl); (case zzb => rfl); k_whole; intro h' tk' F' N'; (try k_sweep)))) | walk1) | (leave1; (try dsimp only)) | fail "no step"))
      refine unhold ?_
      refine PySem.wpAny_execs_cons ?_
      ((try k_fold); repeat' (first | (k_unfold; (try dsimp only)) | (k_end; wrow_close) | ((with_reducible show wpAny _ _ (binaryOp Operator.Add (Value.bytes _ _) (Value.bytes _ _)) _ _ _); with_reducible (k_here; (with_reducible show wpAny _ _ (binaryOp Operator.Add (Value.bytes (List.toArray _) _) (Value.bytes (List.toArray _) _)) _ _ _); first | ((refine add_list (by (try simp only [List.length_append, cutI_length, List.length_cons, List.length_nil]); omega) ?_); intro _ _) | refine hold ?_)) | ((with_reducible show wpAny _ _ (binaryOp Operator.Mult (Value.bytes _ _) (Value.int _ _)) _ _ _); with_reducible (k_here; (with_reducible show wpAny _ _ (binaryOp Operator.Mult (Value.bytes (List.toArray _) _) (Value.int _ _)) _ _ _); k_dflt (refine' bytes_mul_any ?zzb ?zzh1 ?zzhn ?zzhs ?_; (case zzb => exact List.cons_ne_nil _ _); (case zzh1 => omega); (case zzhn => omega); (case zzhs => (simp only [List.length_cons, List.length_nil]; omega)); k_whole; intro _ _))) | ((with_reducible show wpAny _ _ (binaryOp Operator.Sub (Value.int _ _) (Value.int _ _)) _ _ _); with_reducible refine sub_i ?_) | ((with_reducible show wpAny _ _ (subscriptTail _ _ _ _) _ _ _); with_reducible (k_here; (try dsimp only); (with_reducible show wpAny _ _ (subscriptTail _ _ (Value.ref _) (Value.int _ _)) _ _ _); first | k_dflt (refine' num_item ?zzN ?zzm ?zzz ?zzh0 ?zzhv ?_ ?zzhs ?zzhg; (case zzN => k_asm); (case zzm => k_mem); (case zzz => (simp; done)); (case zzh0 => (first | decide | omega)); (case zzhv => exact rfl); (case zzhs => with_unfolding_all rfl); (case zzhg => (intro _; with_unfolding_all rfl)); k_whole) | refine hold ?_)) | ((with_reducible show wpAny _ _ (eval (Expr.Constant (Const.int _) _ _) _) _ _ _); with_reducible refine const_i ?_) | ((with_reducible show wpAny _ _ (call (Value.builtin _) _) _ _ _); with_reducible (k_here; (with_reducible show wpAny _ _ (call (Value.builtin "len") [Value.bytes (List.toArray _) _]) _ _ _); (refine len_list (by (try simp only [List.length_append, cutI_length, List.length_cons, List.length_nil]); first | decide | omega) ?_); intro _ _)) | ((with_reducible show wpAny _ _ (subscriptTail _ _ _ _) _ _ _); with_reducible (k_here; (with_reducible show wpAny _ _ (subscriptTail _ (Expr.Slice _ _ none _) (Value.bytes (List.toArray _) _) (Value.ref _)) _ _ _); (with_reducible rename Fr _ _ _ _ => F'); (with_reducible rename News _ _ _ _ => N'); (first | (refine slice_ij (s := ⟨_, _, _, _, _⟩) F' N' (by omega) (by omega) (by first | omega | (simp only [List.length_append]; omega)) ?_ (by with_unfolding_all rfl) (by intro _; with_unfolding_all rfl)) | (refine slice_0j (s := ⟨_, _, _, _, _⟩) F' N' (by omega) (by first | omega | (simp only [List.length_append]; omega)) ?_ (by with_unfolding_all rfl) (by intro _; with_unfolding_all rfl))); intro _ _ _ F' N')) | ((with_reducible show wpAny _ _ (newList _) _ _ _); with_reducible (k_here; k_dflt (refine' newList_K ?zzk1 ?zzk2 ?_; (case zzk1 => k_asm); (case zzk2 => k_asm); k_whole); intro l' h' F' N' l1)) | walk1 | (dsimp only; first | ((with_reducible show wpAny _ _ (binaryOp Operator.Add (Value.bytes _ _) (Value.bytes _ _)) _ _ _); with_reducible (k_here; (with_reducible show wpAny _ _ (binaryOp Operator.Add (Value.bytes (List.toArray _) _) (Value.bytes (List.toArray _) _)) _ _ _); first | ((refine add_list (by (try simp only [List.length_append, cutI_length, List.length_cons, List.length_nil]); omega) ?_); intro _ _) | refine hold ?_)) | ((with_reducible show wpAny _ _ (binaryOp Operator.Mult (Value.bytes _ _) (Value.int _ _)) _ _ _); with_reducible (k_here; (with_reducible show wpAny _ _ (binaryOp Operator.Mult (Value.bytes (List.toArray _) _) (Value.int _ _)) _ _ _); k_dflt (refine' bytes_mul_any ?zzb ?zzh1 ?zzhn ?zzhs ?_; (case zzb => exact List.cons_ne_nil _ _); (case zzh1 => omega); (case zzhn => omega); (case zzhs => (simp only [List.length_cons, List.length_nil]; omega)); k_whole; intro _ _))) | ((with_reducible show wpAny _ _ (binaryOp Operator.Sub (Value.int _ _) (Value.int _ _)) _ _ _); with_reducible refine sub_i ?_) | ((with_reducible show wpAny _ _ (subscriptTail _ _ _ _) _ _ _); with_reducible (k_here; (try dsimp only); (with_reducible show wpAny _ _ (subscriptTail _ _ (Value.ref _) (Value.int _ _)) _ _ _); first | k_dflt (refine' num_item ?zzN ?zzm ?zzz ?zzh0 ?zzhv ?_ ?zzhs ?zzhg; (case zzN => k_asm); (case zzm => k_mem); (case zzz => (simp; done)); (case zzh0 => (first | decide | omega)); (case zzhv => exact rfl); (case zzhs => with_unfolding_all rfl); (case zzhg => (intro _; with_unfolding_all rfl)); k_whole) | refine hold ?_)) | ((with_reducible show wpAny _ _ (eval (Expr.Constant (Const.int _) _ _) _) _ _ _); with_reducible refine const_i ?_) | ((with_reducible show wpAny _ _ (call (Value.builtin _) _) _ _ _); with_reducible (k_here; (with_reducible show wpAny _ _ (call (Value.builtin "len") [Value.bytes (List.toArray _) _]) _ _ _); (refine len_list (by (try simp only [List.length_append, cutI_length, List.length_cons, List.length_nil]); first | decide | omega) ?_); intro _ _)) | ((with_reducible show wpAny _ _ (subscriptTail _ _ _ _) _ _ _); with_reducible (k_here; (with_reducible show wpAny _ _ (subscriptTail _ (Expr.Slice _ _ none _) (Value.bytes (List.toArray _) _) (Value.ref _)) _ _ _); (with_reducible rename Fr _ _ _ _ => F'); (with_reducible rename News _ _ _ _ => N'); (first | (refine slice_ij (s := ⟨_, _, _, _, _⟩) F' N' (by omega) (by omega) (by first | omega | (simp only [List.length_append]; omega)) ?_ (by with_unfolding_all rfl) (by intro _; with_unfolding_all rfl)) | (refine slice_0j (s := ⟨_, _, _, _, _⟩) F' N' (by omega) (by first | omega | (simp only [List.length_append]; omega)) ?_ (by with_unfolding_all rfl) (by intro _; with_unfolding_all rfl))); intro _ _ _ F' N')) | ((with_reducible show wpAny _ _ (newList _) _ _ _); with_reducible (k_here; k_dflt (refine' newList_K ?zzk1 ?zzk2 ?_; (case zzk1 => k_asm); (case zzk2 => k_asm); k_whole); intro l' h' F' N' l1)) | walk1) | (leave1; (try dsimp only)) | fail "no step"))
      refine unhold ?_
      have hcut : cutI X 0 (E0 : Int) = X.take E0 := by simp [cutI, cut]
      have hbf2 : ∀ post, X.length ≤ (cutI X 0 (E0 : Int) ++ post).length → Fits (cutI X 0 (E0 : Int) ++ post) 0 PP := by rw [hcut]; exact hbf
      have hcl2 : (cutI X 0 (E0 : Int)).length = E0 := by rw [hcut]; exact List.length_take_of_le hE
      generalize cutI X 0 (E0 : Int) = XE at hbf2 hcl2
      refine add_list (by rw [rep_len, hcl2, Int.toNat_sub]; omega) ?_
      intro tb kb
      have hpost := (rep_len ((X.length : Int) - (E0 : Int)).toNat ((n3.fmod 256).toNat.toUInt8)).trans (Int.toNat_sub X.length E0)
      generalize (List.replicate ((X.length : Int) - (E0 : Int)).toNat [(n3.fmod 256).toNat.toUInt8]).flatten = post at hpost
      have hBl : (XE ++ post).length = X.length := by rw [List.length_append, hcl2, hpost]; omega
      have hBf := hbf2 post (by omega)
      generalize XE ++ post = B at hBl hBf
      ((try k_fold); repeat' (first | (k_unfold; (try dsimp only)) | (k_end; wrow_close) | ((with_reducible show wpAny _ _ (execs (_ :: _) _) _ _ _); with_reducible (k_here; refine hold ?_)) | ((with_reducible show wpAny _ _ (storeName _ _ _) _ _ _); with_reducible (k_here; k_dflt (refine' storeP ?zzF ?zzN ?_ ?zza ?zzb; (case zzF => k_asm); (case zzN => k_asm); (case zza => rfl); (case zzb => rfl); k_whole; intro h' tk' F' N'; (try k_sweep)))) | walk1 | (dsimp only; first | ((with_reducible show wpAny _ _ (execs (_ :: _) _) _ _ _); with_reducible (k_here; refine hold ?_)) | ((with_reducible show wpAny _ _ (storeName _ _ _) _ _ _); with_reducible (k_here; k_dflt (refine' storeP ?zzF ?zzN ?_ ?zza ?zzb; (case zzF => k_asm); (case zzN => k_asm); (case zza => rfl); (case zzb => rfl); k_whole; intro h' tk' F' N'; (try k_sweep)))) | walk1) | (leave1; (try dsimp only)) | fail "no step"))
      refine unhold ?_
      refine PySem.wpAny_execs_cons ?_
      ((try k_fold); repeat' (first | (k_unfold; (try dsimp only)) | (k_end; wrow_close) | ((with_reducible show wpAny _ _ (call (Value.ref _) _) _ _ _); with_reducible (k_here; refine hold ?_)) | walk1 | (dsimp only; first | ((with_reducible show wpAny _ _ (call (Value.ref _) _) _ _ _); with_reducible (k_here; refine hold ?_)) | walk1) | (leave1; (try dsimp only)) | fail "no step"))
      refine unhold ?_
      rename Fr _ _ _ _ => F
      rename News _ _ _ _ => N
      refine' callN (sp163a B _ PP (by omega) hBf (by rw [hpl, hX, hBl]) lw ws zs1 hwz.1 hwz.2.2 hok) S F N ?kK ?kA ?pre ?hd ?hu ?_ ?_
      case kA => exact rfl
      case kK => exact rfl
      case pre => exact fun G _ hR => .inl ⟨_, hR (lw, W.listOf ws.toArray epw) (List.mem_cons_of_mem _ (List.mem_append_right _ hlw)), rfl, _, rfl⟩
      case hd => decide
      case hu => decide
      · clear F N
        intro r own' h19 tk19 F N D19 hr
        obtain ⟨st19, t, rfl, hr9⟩ := hr
        have G19 := hr9.1
        have hget := hr9.2.1
        have hel19 := hr9.2.2
        clear hr9
        rw [hgp] at hget
        cases hget
        ((try k_fold); repeat' (first | (k_unfold; (try dsimp only)) | (k_end; wrow_close) | ((with_reducible show wpAny _ _ (eval (Expr.Constant (Const.int _) _ _) _) _ _ _); with_reducible refine const_i ?_) | ((with_reducible show wpAny _ _ (call (Value.ref _) _) _ _ _); with_reducible (k_here; refine hold ?_)) | walk1 | (dsimp only; first | ((with_reducible show wpAny _ _ (eval (Expr.Constant (Const.int _) _ _) _) _ _ _); with_reducible refine const_i ?_) | ((with_reducible show wpAny _ _ (call (Value.ref _) _) _ _ _); with_reducible (k_here; refine hold ?_)) | walk1) | (leave1; (try dsimp only)) | fail "no step"))
        refine unhold ?_
        rename Fr _ _ _ _ => F
        rename News _ _ _ _ => N
        refine' callL' (tellS c hcw st19 r due 1 _ G19 hel19 (by decide)) S F N D19 ?kK ?kA ?pre ?hd ?hu ?_
        case kA => exact rfl
        case kK => exact rfl
        case pre => exact fun G _ hR => TreeL.at (fun p hp => hR p (by k_mem)) hdc
        case hd => decide
        case hu => decide
        clear F N
        intro r own' h20 tk20 F N D20 hr
        obtain ⟨rfl, st20, rfl, hr9⟩ := hr
        have G20 := hr9.1
        have ext20 := hr9.2
        clear hr9
        ((try k_fold); k_steps)
        rename Fr _ _ _ _ => F
        rename News _ _ _ _ => N
        refine ⟨_, _, _, RW, rfl, F, news_sub (News.left N) (fun p hp => by k_mem), hd, fun y hy => ?_, rfl⟩
        iterate 9 (try (first | refine put_off hy (by first | exact .head _ | exact .tail _ (.head _) | exact .tail _ (.tail _ (.head _)) | exact .tail _ (.tail _ (.tail _ (.head _))) | exact .tail _ (.tail _ (.tail _ (.tail _ (.head _)))) | exact .tail _ (.tail _ (.tail _ (.tail _ (.tail _ (.head _)))))) ?_ | refine putO_off hy (by first | exact .head _ | exact .tail _ (.head _) | exact .tail _ (.tail _ (.head _)) | exact .tail _ (.tail _ (.tail _ (.head _))) | exact .tail _ (.tail _ (.tail _ (.tail _ (.head _)))) | exact .tail _ (.tail _ (.tail _ (.tail _ (.tail _ (.head _)))))) ?_))
        exact put_abs (put_abs (put_abs (ho16 y hy) rfl) rfl) rfl
      · intro e cls c9 G own' h14 tk14 hX9 FG hU hr
        obtain ⟨rfl, hnone, rfl⟩ := hr
        rw [hgp] at hnone
        cases hnone
  -- if not refused .. or not refused ..
  intro s' hI3
  obtain ⟨h9, tk9, o9, F, N⟩ := hI3
  have hX1 : 0 < X.length := by rw [← hX]; exact enc_pos _
  refine seam (I := Inv3 s1.heap s1.heap.objs.size s1 R nl b X.toArray to) ?_ ?_
  · ((try k_fold); repeat' (first | (k_unfold; (try dsimp only)) | (k_end; wrow_close) | ((with_reducible show wpAny _ _ (binaryOp Operator.Add (Value.bytes _ _) (Value.bytes _ _)) _ _ _); with_reducible (k_here; (with_reducible show wpAny _ _ (binaryOp Operator.Add (Value.bytes (List.toArray _) _) (Value.bytes (List.toArray _) _)) _ _ _); first | ((refine add_list (by (try simp only [List.length_append, cutI_length, List.length_cons, List.length_nil]); omega) ?_); intro _ _) | refine hold ?_)) | ((with_reducible show wpAny _ _ (call (Value.ref _) _) _ _ _); with_reducible (k_here; refine hold ?_)) | walk1 | (dsimp only; first | ((with_reducible show wpAny _ _ (binaryOp Operator.Add (Value.bytes _ _) (Value.bytes _ _)) _ _ _); with_reducible (k_here; (with_reducible show wpAny _ _ (binaryOp Operator.Add (Value.bytes (List.toArray _) _) (Value.bytes (List.toArray _) _)) _ _ _); first | ((refine add_list (by (try simp only [List.length_append, cutI_length, List.length_cons, List.length_nil]); omega) ?_); intro _ _) | refine hold ?_)) | ((with_reducible show wpAny _ _ (call (Value.ref _) _) _ _ _); with_reducible (k_here; refine hold ?_)) | walk1) | (leave1; (try dsimp only)) | fail "no step"))
    refine unhold ?_
    rename Fr _ _ _ _ => F
    rename News _ _ _ _ => N
    refine' callN' (sp284 (X ++ [0]) _ (bad_more hX (by omega))) S F N ?kK ?kA ?pre ?hd ?hu ?_
    case kA => exact rfl
    case kK => exact rfl
    case pre => exact fun _ _ _ => trivial
    case hd => decide
    case hu => decide
    clear F N
    intro r own' h10 tk10 F N D10 hr
    obtain ⟨rfl, rfl⟩ := hr
    clear D10
    rw [List.append_nil] at N
    ((try k_fold); repeat' (first | (k_unfold; (try dsimp only)) | (k_end; wrow_close) | ((with_reducible show wpAny _ _ (binaryOp Operator.Sub (Value.int _ _) (Value.int _ _)) _ _ _); with_reducible refine sub_i ?_) | ((with_reducible show wpAny _ _ (eval (Expr.Constant (Const.int _) _ _) _) _ _ _); with_reducible refine const_i ?_) | ((with_reducible show wpAny _ _ (call (Value.builtin _) _) _ _ _); with_reducible (k_here; (with_reducible show wpAny _ _ (call (Value.builtin "len") [Value.bytes (List.toArray _) _]) _ _ _); (refine len_list (by (try simp only [List.length_append, cutI_length, List.length_cons, List.length_nil]); first | decide | omega) ?_); intro _ _)) | ((with_reducible show wpAny _ _ (subscriptTail _ _ _ _) _ _ _); with_reducible (k_here; (with_reducible show wpAny _ _ (subscriptTail _ (Expr.Slice _ _ none _) (Value.bytes (List.toArray _) _) (Value.ref _)) _ _ _); (with_reducible rename Fr _ _ _ _ => F'); (with_reducible rename News _ _ _ _ => N'); (first | (refine slice_ij (s := ⟨_, _, _, _, _⟩) F' N' (by omega) (by omega) (by first | omega | (simp only [List.length_append]; omega)) ?_ (by with_unfolding_all rfl) (by intro _; with_unfolding_all rfl)) | (refine slice_0j (s := ⟨_, _, _, _, _⟩) F' N' (by omega) (by first | omega | (simp only [List.length_append]; omega)) ?_ (by with_unfolding_all rfl) (by intro _; with_unfolding_all rfl))); intro _ _ _ F' N')) | ((with_reducible show wpAny _ _ (call (Value.ref _) _) _ _ _); with_reducible (k_here; refine hold ?_)) | walk1 | (dsimp only; first | ((with_reducible show wpAny _ _ (binaryOp Operator.Sub (Value.int _ _) (Value.int _ _)) _ _ _); with_reducible refine sub_i ?_) | ((with_reducible show wpAny _ _ (eval (Expr.Constant (Const.int _) _ _) _) _ _ _); with_reducible refine const_i ?_) | ((with_reducible show wpAny _ _ (call (Value.builtin _) _) _ _ _); with_reducible (k_here; (with_reducible show wpAny _ _ (call (Value.builtin "len") [Value.bytes (List.toArray _) _]) _ _ _); (refine len_list (by (try simp only [List.length_append, cutI_length, List.length_cons, List.length_nil]); first | decide | omega) ?_); intro _ _)) | ((with_reducible show wpAny _ _ (subscriptTail _ _ _ _) _ _ _); with_reducible (k_here; (with_reducible show wpAny _ _ (subscriptTail _ (Expr.Slice _ _ none _) (Value.bytes (List.toArray _) _) (Value.ref _)) _ _ _); (with_reducible rename Fr _ _ _ _ => F'); (with_reducible rename News _ _ _ _ => N'); (first | (refine slice_ij (s := ⟨_, _, _, _, _⟩) F' N' (by omega) (by omega) (by first | omega | (simp only [List.length_append]; omega)) ?_ (by with_unfolding_all rfl) (by intro _; with_unfolding_all rfl)) | (refine slice_0j (s := ⟨_, _, _, _, _⟩) F' N' (by omega) (by first | omega | (simp only [List.length_append]; omega)) ?_ (by with_unfolding_all rfl) (by intro _; with_unfolding_all rfl))); intro _ _ _ F' N')) | ((with_reducible show wpAny _ _ (call (Value.ref _) _) _ _ _); with_reducible (k_here; refine hold ?_)) | walk1) | (leave1; (try dsimp only)) | fail "no step"))
    refine unhold ?_
    rename Fr _ _ _ _ => F
    rename News _ _ _ _ => N
    refine' callN' (sp284 _ _ (bad_less hX (by omega) hcs)) S F N ?kK ?kA ?pre ?hd ?hu ?_
    case kA => exact rfl
    case kK => exact rfl
    case pre => exact fun _ _ _ => trivial
    case hd => decide
    case hu => decide
    clear F N
    intro r own' h11 tk11 F N D11 hr
    obtain ⟨rfl, rfl⟩ := hr
    clear D11
    rw [List.append_nil] at N
    ((try k_fold); k_steps)
    rename Fr _ _ _ _ => F
    rename News _ _ _ _ => N
    exact Inv3.mk F rfl rfl rfl N
  -- counts
  intro s' hI3
  obtain ⟨h12, tk12, o12, F, N⟩ := hI3
  refine seam (I := Inv4 s1.heap s1.heap.objs.size s1) ?_ ?_
  · ((try k_fold); repeat' (first | (k_unfold; (try dsimp only)) | (k_end; wrow_close) | ((with_reducible show wpAny _ _ (eval (Expr.Constant (Const.int _) _ _) _) _ _ _); with_reducible refine const_i ?_) | walk1 | (dsimp only; first | ((with_reducible show wpAny _ _ (eval (Expr.Constant (Const.int _) _ _) _) _ _ _); with_reducible refine const_i ?_) | walk1) | (leave1; (try dsimp only)) | fail "no step"))
    rename Fr _ _ _ _ => F
    rename News _ _ _ _ => N
    exact Inv4.mk F rfl N
  -- strings
  clear hb hT hw hcs hn hlc hlen hTB hwt hvl hcl hXl hX hf hl2 hx
  intro s' hI4
  obtain ⟨h13, tk13, o13, cl, e4, a0, a1, a2, a3, u0, u1, u2, u3, F, N, hns⟩ := hI4
  have hIc : IntsAre [.int (a0 : Int) u0, .int (a1 : Int) u1, .int (a2 : Int) u2, .int (a3 : Int) u3] ([a0, a1, a2, a3].map fun n => ((n : Nat) : Int)) := .cons _ _ (.cons _ _ (.cons _ _ (.cons _ _ .nil)))
  refine seam (I := Inv5 s1.heap s1.heap.objs.size s1) ?_ ?_
  · ((try k_fold); repeat' (first | (k_unfold; (try dsimp only)) | (k_end; wrow_close) | ((with_reducible show wpAny _ _ (call (Value.ref _) _) _ _ _); with_reducible (k_here; refine hold ?_)) | walk1 | (dsimp only; first | ((with_reducible show wpAny _ _ (call (Value.ref _) _) _ _ _); with_reducible (k_here; refine hold ?_)) | walk1) | (leave1; (try dsimp only)) | fail "no step"))
    · refine unhold ?_
      rename Fr _ _ _ _ => F
      rename News _ _ _ _ => N
      rename _ ∈ [a0, a1, a2, a3] => hm
      refine' call0 (sp277 _ _ (hns _ hm)) S F N ?kK ?kA ?pre ?hd ?hu ?_
      case kA => exact rfl
      case kK => exact rfl
      case pre => exact fun _ _ _ => trivial
      case hd => decide
      case hu => decide
      clear F N
      intro r own' h14 tk14 F N D14 hr
      obtain ⟨u, rfl, rfl⟩ := hr
      clear D14
      rw [List.nil_append] at N
      ((try k_fold); k_steps)
    · rename Fr _ _ _ _ => F
      rename News _ _ _ _ => N
      rename TreesL _ _ _ => hI5
      exact Inv5.mk F rfl rfl N hns hI5
  -- lazy
  clear hns hIc
  intro s' hI5
  obtain ⟨h15, tk15, o15, cl, sl, e5, es5, a0, a1, a2, a3, u0, u1, u2, u3, v0, v1, v2, v3, F, N, hns⟩ := hI5
  have hTS : ∀ T : Led, (sl, W.listOf (List.toArray [.bytes (digs a0).toArray v0, .bytes (digs a1).toArray v1, .bytes (digs a2).toArray v2, .bytes (digs a3).toArray v3]) es5) ∈ T → TreeL T (.node ([a0, a1, a2, a3].map fun n => Tr.leaf (digs n))) (.ref sl) := fun T hm => tl_node hm (tl_cons tl_leaf (tl_cons tl_leaf (tl_cons tl_leaf (tl_cons tl_leaf tl_nil))))
  have hsw := wts_digs _ hns
  have hget : ∀ k : Nat, ([a0, a1, a2, a3].map fun n => Tr.leaf (digs n))[k]? = ([a0, a1, a2, a3][k]?).map fun n => Tr.leaf (digs n) := fun k => List.getElem?_map ..
  have hall : ∀ t ∈ fulls ([a0, a1, a2, a3].map fun n => Tr.leaf (digs n)), ∃ n, t = .leaf (digs n) ∧ n < 256 ^ 8 := fun t ht => by
    rw [fulls_map, List.map_map] at ht
    obtain ⟨n, hn, rfl⟩ := List.mem_map.mp ht
    exact ⟨n, by rw [Function.comp, full], hns n hn⟩
  have hslen : ([a0, a1, a2, a3].map fun n => Tr.leaf (digs n)).length = 4 := rfl
  generalize ([a0, a1, a2, a3].map fun n => Tr.leaf (digs n)) = scs at hTS hsw hget hall hslen
  have hswt : (Tr.node scs).wt ≤ 4300 := by rw [Tr.wt]; simp at hsw; omega
  have hYl := enc_wt (.node scs) (by omega)
  have hYf : Fits (enc (.node scs)) 0 (full (.node scs)) := fits_full (.node scs) 0 [] (by simp)
  have hYl2 : (full (.node scs)).len = (enc (.node scs)).length := full_len _
  generalize hY : enc (.node scs) = Y at hYl hYf hYl2
  obtain ⟨R5, hR5⟩ : ∃ R5 : Led, R5 = [(sl, W.listOf (List.toArray [.bytes (digs a0).toArray v0, .bytes (digs a1).toArray v1, .bytes (digs a2).toArray v2, .bytes (digs a3).toArray v3]) es5), (cl, W.listOf (List.toArray [.int (a0 : Int) u0, .int (a1 : Int) u1, .int (a2 : Int) u2, .int (a3 : Int) u3]) e5)] := ⟨_, rfl⟩
  rw [← hR5] at N
  have hsl : (sl, W.listOf (List.toArray [.bytes (digs a0).toArray v0, .bytes (digs a1).toArray v1, .bytes (digs a2).toArray v2, .bytes (digs a3).toArray v3]) es5) ∈ R5 := by rw [hR5]; exact List.mem_cons_self ..
  have hcl5 : (cl, W.listOf (List.toArray [.int (a0 : Int) u0, .int (a1 : Int) u1, .int (a2 : Int) u2, .int (a3 : Int) u3]) e5) ∈ R5 := by rw [hR5]; exact List.mem_cons_of_mem _ (List.mem_cons_self ..)
  clear hR5
  have hTS5 := hTS R5 hsl
  refine PySem.wpAny_execs_cons ?_
  ((try k_fold); repeat' (first | (k_unfold; (try dsimp only)) | (k_end; wrow_close) | ((with_reducible show wpAny _ _ (call (Value.ref _) _) _ _ _); with_reducible (k_here; refine hold ?_)) | walk1 | (dsimp only; first | ((with_reducible show wpAny _ _ (call (Value.ref _) _) _ _ _); with_reducible (k_here; refine hold ?_)) | walk1) | (leave1; (try dsimp only)) | fail "no step"))
  refine unhold ?_
  rename Fr _ _ _ _ => F
  rename News _ _ _ _ => N
  refine' call0 (putS (.node scs) (.ref sl) hswt) S F N ?kK ?kA ?pre ?hd ?hu ?_
  case kA => exact rfl
  case kK => exact rfl
  case pre => exact fun G _ hR => TreeL.at hR hTS5
  case hd => decide
  case hu => decide
  clear F N
  intro r own' h16 tk16 F N D16 hr
  obtain ⟨ty, rfl, rfl⟩ := hr
  clear D16
  rw [List.nil_append] at N
  rw [hY]
  ((try k_fold); repeat' (first | (k_unfold; (try dsimp only)) | (k_end; wrow_close) | ((with_reducible show wpAny _ _ (call (Value.ref _) _) _ _ _); with_reducible (k_here; refine hold ?_)) | walk1 | (dsimp only; first | ((with_reducible show wpAny _ _ (call (Value.ref _) _) _ _ _); with_reducible (k_here; refine hold ?_)) | walk1) | (leave1; (try dsimp only)) | fail "no step"))
  refine unhold ?_
  rename Fr _ _ _ _ => F
  rename News _ _ _ _ => N
  refine' call0 (dec_S Y _ (fulls scs) (by omega) (by rw [full] at hYf; exact hYf) (by rw [full] at hYl2; exact hYl2) hall) S F N ?kK ?kA ?pre ?hd ?hu ?_
  case kA => exact rfl
  case kK => exact rfl
  case pre => exact fun _ _ _ => trivial
  case hd => decide
  case hu => decide
  clear F N
  intro r own' h17 tk17 F N D17 hr
  obtain ⟨st17, lz, rfl, G17, rfl, hl17⟩ := hr
  have N := news_sub (b := R5 ++ objsOf w st17) N (fun p hp => List.mem_append.mpr (List.mem_append.mp hp).symm)
  ((try k_fold); repeat' (first | (k_unfold; (try dsimp only)) | (k_end; wrow_close) | ((with_reducible show wpAny _ _ (execs (_ :: _) _) _ _ _); with_reducible (k_here; refine hold ?_)) | ((with_reducible show wpAny _ _ (storeName _ _ _) _ _ _); with_reducible (k_here; k_dflt (refine' storeP ?zzF ?zzN ?_ ?zza ?zzb; (case zzF => k_asm); (case zzN => k_asm); (case zza => rfl); (case zzb => rfl); k_whole; intro h' tk' F' N'; (try k_sweep)))) | walk1 | (dsimp only; first | ((with_reducible show wpAny _ _ (execs (_ :: _) _) _ _ _); with_reducible (k_here; refine hold ?_)) | ((with_reducible show wpAny _ _ (storeName _ _ _) _ _ _); with_reducible (k_here; k_dflt (refine' storeP ?zzF ?zzN ?_ ?zza ?zzb; (case zzF => k_asm); (case zzN => k_asm); (case zza => rfl); (case zzb => rfl); k_whole; intro h' tk' F' N'; (try k_sweep)))) | walk1) | (leave1; (try dsimp only)) | fail "no step"))
  refine unhold ?_
  refine seam (I := Inv6 w s1.heap s1.heap.objs.size s1 R5 sl cl lz (fulls scs)) ?_ ?_
  · ((try k_fold); repeat' (first | (k_unfold; (try dsimp only)) | (k_end; wrow_close) | ((with_reducible show wpAny _ _ (exec (Stmt.For (Expr.Name _ _) (Expr.Tuple _ _ _) _ _ _) _) _ _ _); with_reducible (k_here; refine hold ?_)) | walk1 | (dsimp only; first | ((with_reducible show wpAny _ _ (exec (Stmt.For (Expr.Name _ _) (Expr.Tuple _ _ _) _ _ _) _) _ _ _); with_reducible (k_here; refine hold ?_)) | walk1) | (leave1; (try dsimp only)) | fail "no step"))
    refine unhold ?_
    refine' For_S ?S ?hx ?hp ?_ ?hs ?hE
    case S => exact S
    case hx => exact rfl
    case hp => exact rfl
    case hs => (intro _; with_unfolding_all rfl)
    case hE => first | passes_own | with_unfolding_all passes_own
    ((try k_fold); repeat' (first | (k_unfold; (try dsimp only)) | (k_end; wrow_close) | ((with_reducible show wpAny _ _ (eval (Expr.Constant (Const.int _) _ _) _) _ _ _); with_reducible refine const_i ?_) | ((with_reducible show wpAny _ _ (pyIter (Value.ref _)) _ _ _); with_reducible (k_here; refine hold ?_)) | walk1 | (dsimp only; first | ((with_reducible show wpAny _ _ (eval (Expr.Constant (Const.int _) _ _) _) _ _ _); with_reducible refine const_i ?_) | ((with_reducible show wpAny _ _ (pyIter (Value.ref _)) _ _ _); with_reducible (k_here; refine hold ?_)) | walk1) | (leave1; (try dsimp only)) | fail "no step"))
    refine unhold ?_
    rename Fr _ _ _ _ => F
    rename News _ _ _ _ => N
    rename ∀ p ∈ R5 ++ objsOf w st17, p.1 < _ => l1
    refine' ks_L (bd := 3) ?hh ?hit ?hi ?hz F (News.tail1 N) (fun p hp => Nat.ne_of_lt (l1 p hp)) D17 G17 hl17 ?_ ?_
    case hh => exact rfl
    case hit => exact ⟨_, (N _ (List.mem_cons_self ..)).1, rfl, _, rfl⟩
    case hi => exact .cons _ _ (.cons _ _ (.cons _ _ (.cons _ _ (.cons _ _ .nil))))
    case hz => intro z hz; simp only [List.mem_cons, List.not_mem_nil, or_false] at hz; rcases hz with rfl | rfl | rfl | rfl | rfl <;> decide
    rotate_left
    · clear F N l1
      intro h18 tk18 o st18 F N D18 G18 hl18
      exact ⟨rfl, Inv6.mk F rfl rfl rfl N D18 G18 hl18⟩
    clear F N l1
    intro k t o st18 h18 tk18 own hk G18 hl18 hd D18 F N
    obtain ⟨ak, uk, hak, hck⟩ := four_at (a0 := a0) (a1 := a1) (a2 := a2) (a3 := a3) (u0 := u0) (u1 := u1) (u2 := u2) (u3 := u3) hk
    ((try k_fold); repeat' (first | (k_unfold; (try dsimp only)) | (k_end; wrow_close) | ((with_reducible show wpAny _ _ (execs (_ :: _) _) _ _ _); with_reducible (k_here; refine hold ?_)) | walk1 | (dsimp only; first | ((with_reducible show wpAny _ _ (execs (_ :: _) _) _ _ _); with_reducible (k_here; refine hold ?_)) | walk1) | (leave1; (try dsimp only)) | fail "no step"))
    refine unhold ?_
    refine PySem.wpAny_execs_cons ?_
    ((try k_fold); repeat' (first | (k_unfold; (try dsimp only)) | (k_end; wrow_close) | ((with_reducible show wpAny _ _ (subscriptTail _ _ _ _) _ _ _); with_reducible (k_here; (try dsimp only); (with_reducible show wpAny _ _ (subscriptTail _ _ (Value.ref _) (Value.int _ _)) _ _ _); first | k_dflt (refine' num_item ?zzN ?zzm ?zzz ?zzh0 ?zzhv ?_ ?zzhs ?zzhg; (case zzN => k_asm); (case zzm => k_mem); (case zzz => (simp; done)); (case zzh0 => (first | decide | omega)); (case zzhv => exact rfl); (case zzhs => with_unfolding_all rfl); (case zzhg => (intro _; with_unfolding_all rfl)); k_whole) | refine hold ?_)) | walk1 | (dsimp only; first | ((with_reducible show wpAny _ _ (subscriptTail _ _ _ _) _ _ _); with_reducible (k_here; (try dsimp only); (with_reducible show wpAny _ _ (subscriptTail _ _ (Value.ref _) (Value.int _ _)) _ _ _); first | k_dflt (refine' num_item ?zzN ?zzm ?zzz ?zzh0 ?zzhv ?_ ?zzhs ?zzhg; (case zzN => k_asm); (case zzm => k_mem); (case zzz => (simp; done)); (case zzh0 => (first | decide | omega)); (case zzhv => exact rfl); (case zzhs => with_unfolding_all rfl); (case zzhg => (intro _; with_unfolding_all rfl)); k_whole) | refine hold ?_)) | walk1) | (leave1; (try dsimp only)) | fail "no step"))
    refine unhold ?_
    rename Fr _ _ _ _ => F
    rename News _ _ _ _ => N
    refine' lazy_get (i := k) S F (News.left N) (News.right N) D18 G18 hl18 ?hi ?hz ?kK ?kA ?hd ?hu ?_ ?_ ?hsl
    case hi => omega
    case hz => exact .inl rfl
    case kA => exact rfl
    case kK => exact rfl
    case hd => decide
    case hu => decide
    case hsl => with_unfolding_all rfl
    rotate_left
    · intro e c Gr st' h' tk hX9 FG hU hle
      exfalso
      rw [fulls_map, List.length_map, hslen] at hle
      omega
    clear F N
    intro v g19 st19 h19 tk19 t19 T19 _ F N D19 G19 ext19 ht19 hel19
    replace F := fr_back T19 F
    replace N := news_back T19 N
    rw [fulls_map, List.getElem?_map, hget, hak] at ht19
    cases ht19
    rcases hel19 with ⟨hs, _⟩ | ⟨_, n, tn, en, rfl⟩
    · cases hs
    rw [full] at en
    injection en with en
    have := digs_inj en
    subst this
    have hl19 := hl18.mono ext19
    ((try k_fold); repeat' (first | (k_unfold; (try dsimp only)) | (k_end; wrow_close) | ((with_reducible show wpAny _ _ (subscriptTail _ _ _ _) _ _ _); with_reducible (k_here; (try dsimp only); (with_reducible show wpAny _ _ (subscriptTail _ _ (Value.ref _) (Value.int _ _)) _ _ _); first | k_dflt (refine' num_item ?zzN ?zzm ?zzz ?zzh0 ?zzhv ?_ ?zzhs ?zzhg; (case zzN => k_asm); (case zzm => k_mem); (case zzz => (simp; done)); (case zzh0 => (first | decide | omega)); (case zzhv => exact rfl); (case zzhs => with_unfolding_all rfl); (case zzhg => (intro _; with_unfolding_all rfl)); k_whole) | refine hold ?_)) | walk1 | (dsimp only; first | ((with_reducible show wpAny _ _ (subscriptTail _ _ _ _) _ _ _); with_reducible (k_here; (try dsimp only); (with_reducible show wpAny _ _ (subscriptTail _ _ (Value.ref _) (Value.int _ _)) _ _ _); first | k_dflt (refine' num_item ?zzN ?zzm ?zzz ?zzh0 ?zzhv ?_ ?zzhs ?zzhg; (case zzN => k_asm); (case zzm => k_mem); (case zzz => (simp; done)); (case zzh0 => (first | decide | omega)); (case zzhv => exact rfl); (case zzhs => with_unfolding_all rfl); (case zzhg => (intro _; with_unfolding_all rfl)); k_whole) | refine hold ?_)) | walk1) | (leave1; (try dsimp only)) | fail "no step"))
    refine unhold ?_
    rename Fr _ _ _ _ => F
    rename News _ _ _ _ => N
    refine' num_item N (List.mem_append_left _ (List.mem_append_right _ hcl5)) ?z ?h0 ?hv ?_ ?hs ?hg
    case z => (simp; done)
    case h0 => omega
    case hv => rw [Int.toNat_natCast]; exact hck
    case hs => with_unfolding_all rfl
    case hg => (intro _; with_unfolding_all rfl)
    ((try k_fold); repeat' (first | (k_unfold; (try dsimp only)) | (k_end; wrow_close) | ((with_reducible show wpAny _ _ (execs (_ :: _) _) _ _ _); with_reducible (k_here; refine hold ?_)) | ((with_reducible show wpAny _ _ (call (Value.ref _) _) _ _ _); with_reducible (k_here; refine hold ?_)) | walk1 | (dsimp only; first | ((with_reducible show wpAny _ _ (execs (_ :: _) _) _ _ _); with_reducible (k_here; refine hold ?_)) | ((with_reducible show wpAny _ _ (call (Value.ref _) _) _ _ _); with_reducible (k_here; refine hold ?_)) | walk1) | (leave1; (try dsimp only)) | fail "no step"))
    · exfalso; rename (_ : Int) ≠ _ => q9; exact q9 rfl
    refine unhold ?_
    rename Fr _ _ _ _ => F
    rename News _ _ _ _ => N
    have htg : treeGet (.node scs) [(k : Int)] = some (.leaf (digs ak)) := by rw [treeGet, Int.toNat_natCast, hget, hak]; rfl
    have hpg : ptGet (full (.node scs)) [(k : Int)] = some (.leaf (digs ak)) := by rw [ptGet_full, htg, Option.map_some, full]
    have hak8 : ak < 256 ^ 8 := hns _ (List.mem_of_getElem? hak)
    have hall2 : AllDigs (full (.node scs)) [(k : Int)] := fun t ht => by rw [hpg] at ht; cases ht; exact ⟨ak, rfl, hak8⟩
    have hne2 : ptGet (full (.node scs)) [(k : Int)] ≠ none := by rw [hpg]; intro q; cases q
    refine' call0 (putS (.node scs) (.ref sl) hswt) S F N ?kK ?kA ?pre ?hd ?hu ?_
    case kA => exact rfl
    case kK => exact rfl
    case pre => exact fun G _ hR => TreeL.at (fun p hp => hR p (List.mem_append_left _ (List.mem_append_right _ hp))) hTS5
    case hd => decide
    case hu => decide
    clear F N
    intro r own' h20 tk20 F N D20 hr
    obtain ⟨ty2, rfl, rfl⟩ := hr
    clear D20
    rw [List.nil_append] at N
    rw [hY]
    ((try k_fold); repeat' (first | (k_unfold; (try dsimp only)) | (k_end; wrow_close) | ((with_reducible show wpAny _ _ (call (Value.ref _) _) _ _ _); with_reducible (k_here; refine hold ?_)) | walk1 | (dsimp only; first | ((with_reducible show wpAny _ _ (call (Value.ref _) _) _ _ _); with_reducible (k_here; refine hold ?_)) | walk1) | (leave1; (try dsimp only)) | fail "no step"))
    refine unhold ?_
    rename Fr _ _ _ _ => F
    rename News _ _ _ _ => N
    refine' callN' (sp163c Y _ (full (.node scs)) (by omega) hYf hYl2 k _ (by omega) (ptOk_full _ _) hall2 hne2) S F N ?kK ?kA ?pre ?hd ?hu ?_
    case kA => exact rfl
    case kK => exact rfl
    case pre => exact fun _ _ _ => trivial
    case hd => decide
    case hu => decide
    clear F N
    intro r own' h21 tk21 F N D21 hr
    obtain ⟨rfl, n9, ta, hn9, rfl⟩ := hr
    clear D21
    rw [List.append_nil] at N
    rw [hpg] at hn9
    injection hn9 with hn9
    injection hn9 with hn9
    have := digs_inj hn9
    subst this
    ((try k_fold); repeat' (first | (k_unfold; (try dsimp only)) | (k_end; wrow_close) | ((with_reducible show wpAny _ _ (subscriptTail _ _ _ _) _ _ _); with_reducible (k_here; (try dsimp only); (with_reducible show wpAny _ _ (subscriptTail _ _ (Value.ref _) (Value.int _ _)) _ _ _); first | k_dflt (refine' num_item ?zzN ?zzm ?zzz ?zzh0 ?zzhv ?_ ?zzhs ?zzhg; (case zzN => k_asm); (case zzm => k_mem); (case zzz => (simp; done)); (case zzh0 => (first | decide | omega)); (case zzhv => exact rfl); (case zzhs => with_unfolding_all rfl); (case zzhg => (intro _; with_unfolding_all rfl)); k_whole) | refine hold ?_)) | walk1 | (dsimp only; first | ((with_reducible show wpAny _ _ (subscriptTail _ _ _ _) _ _ _); with_reducible (k_here; (try dsimp only); (with_reducible show wpAny _ _ (subscriptTail _ _ (Value.ref _) (Value.int _ _)) _ _ _); first | k_dflt (refine' num_item ?zzN ?zzm ?zzz ?zzh0 ?zzhv ?_ ?zzhs ?zzhg; (case zzN => k_asm); (case zzm => k_mem); (case zzz => (simp; done)); (case zzh0 => (first | decide | omega)); (case zzhv => exact rfl); (case zzhs => with_unfolding_all rfl); (case zzhg => (intro _; with_unfolding_all rfl)); k_whole) | refine hold ?_)) | walk1) | (leave1; (try dsimp only)) | fail "no step"))
    refine unhold ?_
    rename Fr _ _ _ _ => F
    rename News _ _ _ _ => N
    refine' num_item N (List.mem_append_left _ (List.mem_append_right _ hcl5)) ?z2 ?h02 ?hv2 ?_ ?hs2 ?hg2
    case z2 => (simp; done)
    case h02 => omega
    case hv2 => rw [Int.toNat_natCast]; exact hck
    case hs2 => with_unfolding_all rfl
    case hg2 => (intro _; with_unfolding_all rfl)
    ((try k_fold); repeat' (first | (k_unfold; (try dsimp only)) | (k_end; wrow_close) | ((with_reducible show wpAny _ _ (execs (_ :: _) _) _ _ _); with_reducible (k_here; refine hold ?_)) | walk1 | (dsimp only; first | ((with_reducible show wpAny _ _ (execs (_ :: _) _) _ _ _); with_reducible (k_here; refine hold ?_)) | walk1) | (leave1; (try dsimp only)) | fail "no step"))
    · exfalso; rename (_ : Int) ≠ _ => q9; exact q9 rfl
    rename Fr _ _ _ _ => F
    rename News _ _ _ _ => N
    exact ks_end F N D19 hd G19 hl19 (fun y hy => (by (iterate 9 (try (first | refine put_off hy (by first | exact .head _ | exact .tail _ (.head _) | exact .tail _ (.tail _ (.head _)) | exact .tail _ (.tail _ (.tail _ (.head _))) | exact .tail _ (.tail _ (.tail _ (.tail _ (.head _)))) | exact .tail _ (.tail _ (.tail _ (.tail _ (.tail _ (.head _)))))) ?_ | refine putO_off hy (by first | exact .head _ | exact .tail _ (.head _) | exact .tail _ (.tail _ (.head _)) | exact .tail _ (.tail _ (.tail _ (.head _))) | exact .tail _ (.tail _ (.tail _ (.tail _ (.head _)))) | exact .tail _ (.tail _ (.tail _ (.tail _ (.tail _ (.head _)))))) ?_))); rfl))
  -- alone
  intro s' hI6
  obtain ⟨h22, tk22, o22, st22, F, N, D, G22, hl22⟩ := hI6
  have ha0 : a0 < 256 ^ 8 := hns a0 (List.mem_cons_self ..)
  have hd0 := digs_len ha0
  have hzw : (Tr.leaf (digs a0)).wt ≤ 4300 := by rw [Tr.wt]; omega
  have hZl := enc_wt (.leaf (digs a0)) (by omega)
  have hZf : Fits (enc (.leaf (digs a0))) 0 (full (.leaf (digs a0))) := fits_full (.leaf (digs a0)) 0 [] (by simp)
  have hZl2 : (full (.leaf (digs a0))).len = (enc (.leaf (digs a0))).length := full_len _
  refine PySem.wpAny_execs_cons ?_
  ((try k_fold); repeat' (first | (k_unfold; (try dsimp only)) | (k_end; wrow_close) | ((with_reducible show wpAny _ _ (subscriptTail _ _ _ _) _ _ _); with_reducible (k_here; (try dsimp only); (with_reducible show wpAny _ _ (subscriptTail _ _ (Value.ref _) (Value.int _ _)) _ _ _); first | k_dflt (refine' num_item ?zzN ?zzm ?zzz ?zzh0 ?zzhv ?_ ?zzhs ?zzhg; (case zzN => k_asm); (case zzm => k_mem); (case zzz => (simp; done)); (case zzh0 => (first | decide | omega)); (case zzhv => exact rfl); (case zzhs => with_unfolding_all rfl); (case zzhg => (intro _; with_unfolding_all rfl)); k_whole) | refine hold ?_)) | ((with_reducible show wpAny _ _ (eval (Expr.Constant (Const.int _) _ _) _) _ _ _); with_reducible refine const_i ?_) | ((with_reducible show wpAny _ _ (call (Value.ref _) _) _ _ _); with_reducible (k_here; refine hold ?_)) | walk1 | (dsimp only; first | ((with_reducible show wpAny _ _ (subscriptTail _ _ _ _) _ _ _); with_reducible (k_here; (try dsimp only); (with_reducible show wpAny _ _ (subscriptTail _ _ (Value.ref _) (Value.int _ _)) _ _ _); first | k_dflt (refine' num_item ?zzN ?zzm ?zzz ?zzh0 ?zzhv ?_ ?zzhs ?zzhg; (case zzN => k_asm); (case zzm => k_mem); (case zzz => (simp; done)); (case zzh0 => (first | decide | omega)); (case zzhv => exact rfl); (case zzhs => with_unfolding_all rfl); (case zzhg => (intro _; with_unfolding_all rfl)); k_whole) | refine hold ?_)) | ((with_reducible show wpAny _ _ (eval (Expr.Constant (Const.int _) _ _) _) _ _ _); with_reducible refine const_i ?_) | ((with_reducible show wpAny _ _ (call (Value.ref _) _) _ _ _); with_reducible (k_here; refine hold ?_)) | walk1) | (leave1; (try dsimp only)) | fail "no step"))
  refine unhold ?_
  rename Fr _ _ _ _ => F
  rename News _ _ _ _ => N
  refine' call0 (putS (.leaf (digs a0)) _ hzw) S F N ?kK ?kA ?pre ?hd ?hu ?_
  case kA => exact rfl
  case kK => exact rfl
  case pre => exact fun G _ _ => by rw [TreeAt]; exact ⟨_, rfl⟩
  case hd => decide
  case hu => decide
  clear F N
  intro r own' h23 tk23 F N D23 hr
  obtain ⟨tz, rfl, rfl⟩ := hr
  clear D23
  rw [List.nil_append] at N
  generalize hZ : enc (.leaf (digs a0)) = Z at hZl hZf hZl2
  rw [Tr.wt] at hZl
  ((try k_fold); repeat' (first | (k_unfold; (try dsimp only)) | (k_end; wrow_close) | ((with_reducible show wpAny _ _ (execs (_ :: _) _) _ _ _); with_reducible (k_here; refine hold ?_)) | ((with_reducible show wpAny _ _ (storeName _ _ _) _ _ _); with_reducible (k_here; k_dflt (refine' storeP ?zzF ?zzN ?_ ?zza ?zzb; (case zzF => k_asm); (case zzN => k_asm); (case zza => rfl); (case zzb => rfl); k_whole; intro h' tk' F' N'; (try k_sweep)))) | walk1 | (dsimp only; first | ((with_reducible show wpAny _ _ (execs (_ :: _) _) _ _ _); with_reducible (k_here; refine hold ?_)) | ((with_reducible show wpAny _ _ (storeName _ _ _) _ _ _); with_reducible (k_here; k_dflt (refine' storeP ?zzF ?zzN ?_ ?zza ?zzb; (case zzF => k_asm); (case zzN => k_asm); (case zza => rfl); (case zzb => rfl); k_whole; intro h' tk' F' N'; (try k_sweep)))) | walk1) | (leave1; (try dsimp only)) | fail "no step"))
  refine unhold ?_
  refine seam (I := Inv7 s1.heap s1.heap.objs.size s1 R5 sl Z.toArray tz) ?_ ?_
  · ((try k_fold); repeat' (first | (k_unfold; (try dsimp only)) | (k_end; wrow_close) | ((with_reducible show wpAny _ _ (call (Value.builtin _) _) _ _ _); with_reducible (k_here; (with_reducible show wpAny _ _ (call (Value.builtin "len") [Value.ref _]) _ _ _); first | (k_dflt (refine' PyProof.Rows.len_list (News.isList ?zzkN ?zzkM) ?zzkz ?_; (case zzkN => k_asm); (case zzkM => k_mem); (case zzkz => first | omega | ((try simp only [List.size_toArray, List.length_append, List.length_cons, List.length_nil, Array.size_push]); omega)); k_whole); (try simp only [List.size_toArray])) | ((have q' := ‹HasL _ _ _ (Value.ref 201) 0›); clear q'; refine hold ?_))) | walk1 | (dsimp only; first | ((with_reducible show wpAny _ _ (call (Value.builtin _) _) _ _ _); with_reducible (k_here; (with_reducible show wpAny _ _ (call (Value.builtin "len") [Value.ref _]) _ _ _); first | (k_dflt (refine' PyProof.Rows.len_list (News.isList ?zzkN ?zzkM) ?zzkz ?_; (case zzkN => k_asm); (case zzkM => k_mem); (case zzkz => first | omega | ((try simp only [List.size_toArray, List.length_append, List.length_cons, List.length_nil, Array.size_push]); omega)); k_whole); (try simp only [List.size_toArray])) | ((have q' := ‹HasL _ _ _ (Value.ref 201) 0›); clear q'; refine hold ?_))) | walk1) | (leave1; (try dsimp only)) | fail "no step"))
    refine unhold ?_
    rename Fr _ _ _ _ => F
    rename News _ _ _ _ => N
    have hfl : (fulls scs).length = 4 := by rw [fulls_map, List.length_map, hslen]
    refine' lazy_len S F (News.left N) (News.right N) D G22 hl22 ?kK ?kA ?hd ?hu ?_
    case kA => exact rfl
    case kK => exact rfl
    case hd => decide
    case hu => decide
    clear F N
    intro g23 st23 h24 tk24 tl T23 _ F N D24 G23 ext23
    replace F := fr_back T23 F
    replace N := news_back T23 N
    rw [hfl]
    ((try k_fold); repeat' (first | (k_unfold; (try dsimp only)) | (k_end; wrow_close) | ((with_reducible show wpAny _ _ (eval (Expr.Constant (Const.int _) _ _) _) _ _ _); with_reducible refine const_i ?_) | ((with_reducible show wpAny _ _ (call (Value.ref _) _) _ _ _); with_reducible (k_here; refine hold ?_)) | walk1 | (dsimp only; first | ((with_reducible show wpAny _ _ (eval (Expr.Constant (Const.int _) _ _) _) _ _ _); with_reducible refine const_i ?_) | ((with_reducible show wpAny _ _ (call (Value.ref _) _) _ _ _); with_reducible (k_here; refine hold ?_)) | walk1) | (leave1; (try dsimp only)) | fail "no step"))
    refine unhold ?_
    rename Fr _ _ _ _ => F
    rename News _ _ _ _ => N
    refine' call0 (dec_DZ hZ ha0 _) S F (News.left N) ?kK ?kA ?pre ?hd ?hu ?_
    case kA => exact rfl
    case kK => exact rfl
    case pre => exact fun _ _ _ => trivial
    case hd => decide
    case hu => decide
    clear F N
    intro r own' h25 tk25 F N D25 hr
    obtain ⟨ta, rfl, rfl⟩ := hr
    clear D25
    rw [List.nil_append] at N
    ((try k_fold); repeat' (first | (k_unfold; (try dsimp only)) | (k_end; wrow_close) | ((with_reducible show wpAny _ _ (binaryOp Operator.Add (Value.bytes _ _) (Value.bytes _ _)) _ _ _); with_reducible (k_here; (with_reducible show wpAny _ _ (binaryOp Operator.Add (Value.bytes (List.toArray _) _) (Value.bytes (List.toArray _) _)) _ _ _); first | ((refine add_list (by (try simp only [List.length_append, cutI_length, List.length_cons, List.length_nil]); omega) ?_); intro _ _) | refine hold ?_)) | ((with_reducible show wpAny _ _ (subscriptTail _ _ _ _) _ _ _); with_reducible (k_here; (try dsimp only); (with_reducible show wpAny _ _ (subscriptTail _ _ (Value.ref _) (Value.int _ _)) _ _ _); first | k_dflt (refine' num_item ?zzN ?zzm ?zzz ?zzh0 ?zzhv ?_ ?zzhs ?zzhg; (case zzN => k_asm); (case zzm => k_mem); (case zzz => (simp; done)); (case zzh0 => (first | decide | omega)); (case zzhv => exact rfl); (case zzhs => with_unfolding_all rfl); (case zzhg => (intro _; with_unfolding_all rfl)); k_whole) | refine hold ?_)) | ((with_reducible show wpAny _ _ (eval (Expr.Constant (Const.int _) _ _) _) _ _ _); with_reducible refine const_i ?_) | ((with_reducible show wpAny _ _ (execs (_ :: _) _) _ _ _); with_reducible (k_here; refine hold ?_)) | ((with_reducible show wpAny _ _ (call (Value.ref _) _) _ _ _); with_reducible (k_here; refine hold ?_)) | walk1 | (dsimp only; first | ((with_reducible show wpAny _ _ (binaryOp Operator.Add (Value.bytes _ _) (Value.bytes _ _)) _ _ _); with_reducible (k_here; (with_reducible show wpAny _ _ (binaryOp Operator.Add (Value.bytes (List.toArray _) _) (Value.bytes (List.toArray _) _)) _ _ _); first | ((refine add_list (by (try simp only [List.length_append, cutI_length, List.length_cons, List.length_nil]); omega) ?_); intro _ _) | refine hold ?_)) | ((with_reducible show wpAny _ _ (subscriptTail _ _ _ _) _ _ _); with_reducible (k_here; (try dsimp only); (with_reducible show wpAny _ _ (subscriptTail _ _ (Value.ref _) (Value.int _ _)) _ _ _); first | k_dflt (refine' num_item ?zzN ?zzm ?zzz ?zzh0 ?zzhv ?_ ?zzhs ?zzhg; (case zzN => k_asm); (case zzm => k_mem); (case zzz => (simp; done)); (case zzh0 => (first | decide | omega)); (case zzhv => exact rfl); (case zzhs => with_unfolding_all rfl); (case zzhg => (intro _; with_unfolding_all rfl)); k_whole) | refine hold ?_)) | ((with_reducible show wpAny _ _ (eval (Expr.Constant (Const.int _) _ _) _) _ _ _); with_reducible refine const_i ?_) | ((with_reducible show wpAny _ _ (execs (_ :: _) _) _ _ _); with_reducible (k_here; refine hold ?_)) | ((with_reducible show wpAny _ _ (call (Value.ref _) _) _ _ _); with_reducible (k_here; refine hold ?_)) | walk1) | (leave1; (try dsimp only)) | fail "no step"))
    · exfalso; rename (_ : Int) ≠ _ => q9; exact q9 rfl
    refine unhold ?_
    rename Fr _ _ _ _ => F
    rename News _ _ _ _ => N
    refine' callN' (sp284 (Z ++ [0]) _ (bad_more hZ (by omega))) S F N ?kK ?kA ?pre ?hd ?hu ?_
    case kA => exact rfl
    case kK => exact rfl
    case pre => exact fun _ _ _ => trivial
    case hd => decide
    case hu => decide
    clear F N
    intro r own' h26 tk26 F N D26 hr
    obtain ⟨rfl, rfl⟩ := hr
    clear D26
    rw [List.append_nil] at N
    ((try k_fold); k_steps)
    rename Fr _ _ _ _ => F
    rename News _ _ _ _ => N
    exact Inv7.mk F rfl rfl N
  -- for told in (..)
  intro s' hI7
  obtain ⟨h27, tk27, o27, F, N⟩ := hI7
  refine seam (I := Inv7 s1.heap s1.heap.objs.size s1 R5 sl Z.toArray tz) ?_ ?_
  · ((try k_fold); repeat' (first | (k_unfold; (try dsimp only)) | (k_end; wrow_close) | ((with_reducible show wpAny _ _ (exec (Stmt.For (Expr.Name _ _) (Expr.Tuple _ _ _) _ _ _) _) _ _ _); with_reducible (k_here; refine hold ?_)) | walk1 | (dsimp only; first | ((with_reducible show wpAny _ _ (exec (Stmt.For (Expr.Name _ _) (Expr.Tuple _ _ _) _ _ _) _) _ _ _); with_reducible (k_here; refine hold ?_)) | walk1) | (leave1; (try dsimp only)) | fail "no step"))
    refine unhold ?_
    refine' For_S ?S ?hx ?hp ?_ ?hs ?hE
    case S => exact S
    case hx => exact rfl
    case hp => exact rfl
    case hs => (intro _; with_unfolding_all rfl)
    case hE => first | passes_own | with_unfolding_all passes_own
    ((try k_fold); repeat' (first | (k_unfold; (try dsimp only)) | (k_end; wrow_close) | ((with_reducible show wpAny _ _ (call (Value.ref _) _) _ _ _); with_reducible (k_here; refine hold ?_)) | walk1 | (dsimp only; first | ((with_reducible show wpAny _ _ (call (Value.ref _) _) _ _ _); with_reducible (k_here; refine hold ?_)) | walk1) | (leave1; (try dsimp only)) | fail "no step"))
    refine unhold ?_
    rename Fr _ _ _ _ => F
    rename News _ _ _ _ => N
    refine' call0 (dec_P Z _ (full (.leaf (digs a0))) (by omega) hZf hZl2) S F N ?kK ?kA ?pre ?hd ?hu ?_
    case kA => exact rfl
    case kK => exact rfl
    case pre => exact fun _ _ _ => trivial
    case hd => decide
    case hu => decide
    clear F N
    intro r own' h28 tk28 F N D28 hr
    obtain ⟨st28, rfl, hr9⟩ := hr
    have G28 := hr9.1
    have hel28 := hr9.2
    clear hr9
    rw [full] at hel28
    obtain ⟨tb1, rfl⟩ := leaf_of hel28
    replace N := News.right N
    ((try k_fold); repeat' (first | (k_unfold; (try dsimp only)) | (k_end; wrow_close) | ((with_reducible show wpAny _ _ (call (Value.ref _) _) _ _ _); with_reducible (k_here; refine hold ?_)) | ((with_reducible show wpAny _ _ (newList _) _ _ _); with_reducible (k_here; k_dflt (refine' newList_K ?zzk1 ?zzk2 ?_; (case zzk1 => k_asm); (case zzk2 => k_asm); k_whole); intro l' h' F' N' l1)) | walk1 | (dsimp only; first | ((with_reducible show wpAny _ _ (call (Value.ref _) _) _ _ _); with_reducible (k_here; refine hold ?_)) | ((with_reducible show wpAny _ _ (newList _) _ _ _); with_reducible (k_here; k_dflt (refine' newList_K ?zzk1 ?zzk2 ?_; (case zzk1 => k_asm); (case zzk2 => k_asm); k_whole); intro l' h' F' N' l1)) | walk1) | (leave1; (try dsimp only)) | fail "no step"))
    refine unhold ?_
    rename Fr _ _ _ _ => F
    rename News _ _ _ _ => N
    refine' callN (sp163a Z _ (full (.leaf (digs a0))) (by omega) hZf hZl2 _ [] [] .nil (fun _ h => nomatch h) (by rw [PtOk]; trivial)) S F N ?kK ?kA ?pre ?hd ?hu ?_ ?_
    case kA => exact rfl
    case kK => exact rfl
    case pre => exact fun G _ hR => .inl ⟨_, hR _ (List.mem_cons_self ..), rfl, _, rfl⟩
    case hd => decide
    case hu => decide
    rotate_left
    · intro e cls c9 G own' h14 tk14 hX9 FG hU hr
      obtain ⟨rfl, hnone, rfl⟩ := hr
      rw [ptGet] at hnone
      cases hnone
    clear F N
    intro r own' h29 tk29 F N D29 hr
    obtain ⟨st29, t29, rfl, hr9⟩ := hr
    have G29 := hr9.1
    have hget29 := hr9.2.1
    have hel29 := hr9.2.2
    clear hr9
    rw [ptGet] at hget29
    cases hget29
    rw [full] at hel29
    obtain ⟨tb2, rfl⟩ := leaf_of hel29
    replace N := News.tail1 (News.left N)
    ((try k_fold); repeat' (first | (k_unfold; (try dsimp only)) | (k_end; wrow_close) | ((with_reducible show wpAny _ _ (pyIter (Value.ref _)) _ _ _); with_reducible (k_here; refine hold ?_)) | walk1 | (dsimp only; first | ((with_reducible show wpAny _ _ (pyIter (Value.ref _)) _ _ _); with_reducible (k_here; refine hold ?_)) | walk1) | (leave1; (try dsimp only)) | fail "no step"))
    refine unhold ?_
    rename Fr _ _ _ _ => F
    rename News _ _ _ _ => N
    rename ∀ p ∈ R5, p.1 < _ => l1
    refine' told_L (X := digs a0) ?hh ?hit ?hu F (News.tail1 N) (fun p hp => Nat.ne_of_lt (l1 p hp)) ?_ ?_
    case hh => exact rfl
    case hit => exact ⟨_, (N _ (List.mem_cons_self ..)).1, rfl, _, rfl⟩
    case hu =>
      intro v hv
      simp only [List.mem_cons, List.not_mem_nil, or_false] at hv
      rcases hv with rfl | rfl <;> exact ⟨_, rfl⟩
    rotate_left
    · clear F N l1
      intro h30 tk30 o30 F N
      exact ⟨rfl, Inv7.mk F rfl rfl N⟩
    clear F N l1
    intro t30 o30 h30 tk30 own hd30 F N
    ((try k_fold); repeat' (first | (k_unfold; (try dsimp only)) | (k_end; wrow_close) | ((with_reducible show wpAny _ _ (execs (_ :: _) _) _ _ _); with_reducible (k_here; refine hold ?_)) | walk1 | (dsimp only; first | ((with_reducible show wpAny _ _ (execs (_ :: _) _) _ _ _); with_reducible (k_here; refine hold ?_)) | walk1) | (leave1; (try dsimp only)) | fail "no step"))
    refine unhold ?_
    refine PySem.wpAny_execs_cons ?_
    ((try k_fold); repeat' (first | (k_unfold; (try dsimp only)) | (k_end; wrow_close) | ((with_reducible show wpAny _ _ (compareOp CmpOp.NotEq (Value.bytes _ _) (Value.bytes _ _)) _ _ _); with_reducible (k_here; (with_reducible show wpAny _ _ (compareOp CmpOp.NotEq (Value.bytes (List.toArray _) _) (Value.bytes (List.toArray _) _)) _ _ _); (refine ne_list ?_))) | ((with_reducible show wpAny _ _ (subscriptTail _ _ _ _) _ _ _); with_reducible (k_here; (try dsimp only); (with_reducible show wpAny _ _ (subscriptTail _ _ (Value.ref _) (Value.int _ _)) _ _ _); first | k_dflt (refine' num_item ?zzN ?zzm ?zzz ?zzh0 ?zzhv ?_ ?zzhs ?zzhg; (case zzN => k_asm); (case zzm => k_mem); (case zzz => (simp; done)); (case zzh0 => (first | decide | omega)); (case zzhv => exact rfl); (case zzhs => with_unfolding_all rfl); (case zzhg => (intro _; with_unfolding_all rfl)); k_whole) | refine hold ?_)) | ((with_reducible show wpAny _ _ (eval (Expr.Constant (Const.int _) _ _) _) _ _ _); with_reducible refine const_i ?_) | ((with_reducible show wpAny _ _ (execs (_ :: _) _) _ _ _); with_reducible (k_here; refine hold ?_)) | walk1 | (dsimp only; first | ((with_reducible show wpAny _ _ (compareOp CmpOp.NotEq (Value.bytes _ _) (Value.bytes _ _)) _ _ _); with_reducible (k_here; (with_reducible show wpAny _ _ (compareOp CmpOp.NotEq (Value.bytes (List.toArray _) _) (Value.bytes (List.toArray _) _)) _ _ _); (refine ne_list ?_))) | ((with_reducible show wpAny _ _ (subscriptTail _ _ _ _) _ _ _); with_reducible (k_here; (try dsimp only); (with_reducible show wpAny _ _ (subscriptTail _ _ (Value.ref _) (Value.int _ _)) _ _ _); first | k_dflt (refine' num_item ?zzN ?zzm ?zzz ?zzh0 ?zzhv ?_ ?zzhs ?zzhg; (case zzN => k_asm); (case zzm => k_mem); (case zzz => (simp; done)); (case zzh0 => (first | decide | omega)); (case zzhv => exact rfl); (case zzhs => with_unfolding_all rfl); (case zzhg => (intro _; with_unfolding_all rfl)); k_whole) | refine hold ?_)) | ((with_reducible show wpAny _ _ (eval (Expr.Constant (Const.int _) _ _) _) _ _ _); with_reducible refine const_i ?_) | ((with_reducible show wpAny _ _ (execs (_ :: _) _) _ _ _); with_reducible (k_here; refine hold ?_)) | walk1) | (leave1; (try dsimp only)) | fail "no step"))
    · exfalso; rename (_ != _) = true => q9; simp at q9
    rename Fr _ _ _ _ => F
    rename News _ _ _ _ => N
    exact ⟨_, _, _, R5, rfl, F, N, hd30, fun y hy => (by (iterate 9 (try (first | refine put_off hy (by first | exact .head _ | exact .tail _ (.head _) | exact .tail _ (.tail _ (.head _)) | exact .tail _ (.tail _ (.tail _ (.head _))) | exact .tail _ (.tail _ (.tail _ (.tail _ (.head _)))) | exact .tail _ (.tail _ (.tail _ (.tail _ (.tail _ (.head _)))))) ?_ | refine putO_off hy (by first | exact .head _ | exact .tail _ (.head _) | exact .tail _ (.tail _ (.head _)) | exact .tail _ (.tail _ (.tail _ (.head _))) | exact .tail _ (.tail _ (.tail _ (.tail _ (.head _)))) | exact .tail _ (.tail _ (.tail _ (.tail _ (.tail _ (.head _)))))) ?_))); rfl), rfl⟩
  -- try: peek(alone, 0)
  intro s' hI7
  obtain ⟨h31, tk31, o31, F, N⟩ := hI7
  have hDD : KtsDicts (List.filterMap (·.frame) ([] : List Env)) s1.heap := fun b hb => by simp at hb
  refine PySem.wpAny_execs_cons ?_
  ((try k_fold); repeat' (first | (k_unfold; (try dsimp only)) | (k_end; wrow_close) | ((with_reducible show wpAny _ _ (execs (_ :: _) _) _ _ _); with_reducible (k_here; refine hold ?_)) | walk1 | (dsimp only; first | ((with_reducible show wpAny _ _ (execs (_ :: _) _) _ _ _); with_reducible (k_here; refine hold ?_)) | walk1) | (leave1; (try dsimp only)) | fail "no step"))
  refine unhold ?_
  refine PySem.wpAny_execs_cons ?_
  ((try k_fold); repeat' (first | (k_unfold; (try dsimp only)) | (k_end; wrow_close) | ((with_reducible show wpAny _ _ (eval (Expr.Constant (Const.int _) _ _) _) _ _ _); with_reducible refine const_i ?_) | ((with_reducible show wpAny _ _ (call (Value.ref _) _) _ _ _); with_reducible (k_here; refine hold ?_)) | walk1 | (dsimp only; first | ((with_reducible show wpAny _ _ (eval (Expr.Constant (Const.int _) _ _) _) _ _ _); with_reducible refine const_i ?_) | ((with_reducible show wpAny _ _ (call (Value.ref _) _) _ _ _); with_reducible (k_here; refine hold ?_)) | walk1) | (leave1; (try dsimp only)) | fail "no step"))
  refine unhold ?_
  rename Fr _ _ _ _ => F
  rename News _ _ _ _ => N
  refine' callN (sp163b Z _ (full (.leaf (digs a0))) (by omega) hZf hZl2 0 _ (by decide) (ptOk_full _ _)) S F N ?kK ?kA ?pre ?hd ?hu ?_ ?_
  case kA => exact rfl
  case kK => exact rfl
  case pre => exact fun _ _ _ => trivial
  case hd => decide
  case hu => decide
  · intro r own' h32 tk32 F N D32 hr
    obtain ⟨st32, t32, rfl, hr9⟩ := hr
    have G32 := hr9.1
    have hget32 := hr9.2.1
    have hel32 := hr9.2.2
    clear hr9
    rw [ptGet_full, treeGet] at hget32
    cases hget32
  clear F N
  intro e cls c G own' h33 tk33 hX9 FG hU hr
  obtain ⟨rfl, hnone, rfl⟩ := hr
  refine' caughtX (T' := "IndexError") hX9 FG (Site.below S) hU KX T hDD ?ex PyProof.Rows.Boot.«IndexError» ?hn exc_IndexError notTup_IndexError index_sub ?_ ?hE
  case ex => k_is
  case hn => decide
  case hE => first | passes_own | with_unfolding_all passes_own
  intro h34 g34 oe vs34 T34 F N K34 X34 P34 D34 hc1 hc2 hc3
  replace F := fr_back T34 F
  replace N := news_back T34 N
  clear K34 X34 P34 D34
  ((try k_fold); repeat' (first | (k_unfold; (try dsimp only)) | (k_end; wrow_close) | ((with_reducible show wpAny _ _ (execs (_ :: _) _) _ _ _); with_reducible (k_here; refine hold ?_)) | walk1 | (dsimp only; first | ((with_reducible show wpAny _ _ (execs (_ :: _) _) _ _ _); with_reducible (k_here; refine hold ?_)) | walk1) | (leave1; (try dsimp only)) | fail "no step"))
  refine unhold ?_
  refine PySem.wpAny_execs_cons ?_
  ((try k_fold); k_steps)
  all_goals first | exact hQ _ _ _ (by assumption) | trivial


end T_M41
section T_M42
open PySem PySem.W PyProof.Rows PySem.Spec PySem.Calls
set_option maxRecDepth 100000
set_option maxHeartbeats 1000000




theorem said0 : PySem.Challenge.rw_it0027_01.wellSaid = true := by
  unfold OpenLaw.wellSaid
  repeat' with_reducible refine look_both ?_ ?_
  all_goals try (unfold OpenRow.wellSaid; repeat' with_reducible refine look_both ?_ ?_)
  all_goals try (unfold OpenRow.partSaid; repeat' with_reducible refine look_both ?_ ?_)
  all_goals try (unfold looksOpen; repeat' with_reducible refine look_both ?_ ?_)
  all_goals as_aux_lemma => decide +kernel
set_option maxHeartbeats 40000000 in
theorem lawT : PySem.Challenge.rw_it0027_01.Holds := by
  w_on
  refine holds_law said0 fun said => ?_
  refine holds_open (q := hd.view_39) (loose := loose0) (Xt := fun s => xlAt hd.view_39 [(Str.ofString "SHORT_STRING", WData.int 184)] s && recOk (RowW.records PySem.Challenge.rw_it0027_01.row.toRowW) s) (XP := XL hd.view_39 [(Str.ofString "SHORT_STRING", WData.int 184)]) (Yf := Hook.obs H0) (Ya := Hook.val H0) (YP := Hook.says H0) (N := 4396) hlT (Hook.of H0) (Hook.keeps H0) (fun s e => xl_of s (Bool.and_eq_true_iff.mp e).1) XL.keeps (by rfl) (by rfl) (by rfl) (fun s e => recFacts_of (Bool.and_eq_true_iff.mp e).2) (by rfl) said (by decide +kernel) ⟨rfl, rfl, rfl, rfl, rfl, by decide +kernel⟩ ?hw ?hc
  case hw => w_witness2
  k_go0
  rename Frag.In _ _ => KX
  rename Top _ _ _ _ _ _ => T
  rename ¬ (_ < _) => hc
  rename Heap.IsList _ _ _ => hL
  rename IntsAre _ _ => hI
  rename Below _ _ _ _ => K0
  rename Fr _ _ _ _ => F
  rename News _ _ _ _ => N
  refine wpAny_mono (lawW KX T hL hI hc K0 F N fun h' tk' m F' => ?_) (fun _ _ h => h) fun _ _ h => h.elim
  k_steps


end T_M42
end Mine
set_option maxRecDepth 100000 in
theorem PySem.Challenge.cw_it0027_01_holds : PySem.Challenge.rw_it0027_01.Holds :=
  Mine.lawT
