import PyProof.Rows.All
import Wide.All
import OpenK.AllK
import Wide.FinOn
import Lean
import PySem.Challenge.RW_jd0024_01
open PySem PySem.W PyProof.Rows PySem.Spec
set_option Elab.async false
set_option maxRecDepth 100000
set_option maxHeartbeats 4000000
set_option genSizeOf false
set_option genInjectivity false
set_option genCtorIdx false
set_option linter.all false
set_option compiler.extract_closed false
set_option bootstrap.genMatcherCode false
namespace Mine
noncomputable def de (P:Params) (s:String) (n:Nat) (v:Value):DictEntry:={hash:=PyData.keyHash P (Str.ofString s),key:= .str (Str.ofString s) n,val:=v}
noncomputable def vs (s:String) (n:Nat):Value:= .str (Str.ofString s) n
noncomputable def down:List Nat→List Stmt→Option Stmt
 |[],_=>none
 |[i],l=>l[i]?
 |i::r,l=>match l[i]? with
  |some (.ClassDef _ _ _ b ..)=>down r b
  |some (.FunctionDef _ _ b ..)=>down r b
  |_=>none
noncomputable def fo (p:List Nat) (q:String) (df m:Value) (c:Nat):Obj:=match down p PySem.Challenge.pw_jd0024_01.main.body with
 |some (.FunctionDef n ps b _ _ _ sc ..)=>{cls:= .type "function",data:= .func {name:=n,qualname:=Str.ofString q,params:=ps,body:= .stmts b,scope:=sc,globals:=3,closure:=[],defaults:=df,kwdefaults:= .none,pyModule:=m,code:= .ref c}}
 |_=>{cls:= .none,data:= .seq #[]}
noncomputable def kf:Params→Frag:=fun P=>
 (nat_lit 2,{cls:= .none,data:= .dict #[de P "type.__subclasses__.Exception.0" 423 (.int 195 0),de P "type.__subclasses__.Exception.n" 424 (.int 2 0),de P "type.__subclasses__.Exception.1" 475 (.int 232 0)] 3})::
  (nat_lit 3,{cls:= .type "dict",data:= .dict #[de P "__name__" 165 (vs "law_jd0024_01" 640),de P "__doc__" 166 (.none),de P "__package__" 167 (.none),de P "__loader__" 168 (.builtin "__main__.__loader__#opaque"),de P "__spec__" 169 (.none),de P "__annotations__" 170 (.ref 6),de P "__builtins__" 171 (.ref 4),de P "__file__" 173 (vs "/claim/cut.py" 172),de P "__cached__" 174 (.none),de P "_wall" 193 (.ref 21),de P "_UnknownField" 245 (.ref 52),de P "UnknownFieldRef" 307 (.ref 104),de P "UnknownFieldSet" 404 (.ref 181),de P "Error" 426 (.ref 195),de P "DecodeError" 442 (.ref 208),de P "EncodeError" 458 (.ref 220),de P "StructError" 478 (.ref 232),de P "_calcsize" 485 (.ref 242),de P "_unpack" 495 (.ref 249),de P "TAG_TYPE_BITS" 497 (.int 3 496),de P "TAG_TYPE_MASK" 499 (.int 7 498),de P "WIRETYPE_VARINT" 501 (.int 0 500),de P "WIRETYPE_FIXED64" 503 (.int 1 502),de P "WIRETYPE_LENGTH_DELIMITED" 505 (.int 2 504),de P "WIRETYPE_START_GROUP" 507 (.int 3 506),de P "WIRETYPE_END_GROUP" 509 (.int 4 508),de P "WIRETYPE_FIXED32" 511 (.int 5 510),de P "_WIRETYPE_MAX" 513 (.int 5 512),de P "PackTag" 521 (.ref 256),de P "UnpackTag" 528 (.ref 263),de P "_EncodeVarint" 540 (.ref 271),de P "_VarintBytes" 548 (.ref 278),de P "TagBytes" 556 (.ref 285),de P "_VarintDecoder" 567 (.ref 292),de P "_DecodeVarint" 575 (.ref 299),de P "ReadTag" 585 (.ref 306),de P "_DecodeFixed64" 594 (.ref 313),de P "_DecodeFixed32" 603 (.ref 320),de P "_recursion_limit" 605 (.int 100 604),de P "_DecodeUnknownFieldSet" 623 (.ref 328),de P "_DecodeUnknownField" 639 (.ref 336),de P "_law_varint" 649 (.ref 343),de P "_law_little" 659 (.ref 350),de P "_law_part" 674 (.ref 357),de P "_law_octets" 685 (.ref 364),de P "_law_read_varint" 695 (.ref 371),de P "_law_read_tag" 704 (.ref 378),de P "_law_read_group" 719 (.ref 385),de P "_law_read_field" 725 (.ref 390),de P "_law_read_set" 739 (.ref 397),de P "_law_shown" 749 (.ref 404),de P "_law_written" 760 (.ref 411),de P "_law_told" 772 (.ref 418),de P "_law_again" 780 (.ref 425),de P "law" 801 (.ref 432)] 55})::
  (nat_lit 15,{cls:= .type "tuple",data:= .seq #[]})::
  (nat_lit 17,{cls:= .type "tuple",data:= .seq #[vs "k" 190]})::
  (nat_lit 18,{cls:= .type "tuple",data:= .seq #[]})::
  (nat_lit 20,{cls:= .type "code",data:= .fields #[vs "_wall" 187,vs "_wall" 188,vs "/claim/cut.py" 189,.int 1 0,.int 1 0,.int 0 0,.int 0 0,.int 3 0,.ref 15,.bool true,.int 181 0,.ref 16,.none,.ref 17,.ref 18,.ref 19,.int 191 0,.int 1 0,vs "/claim/cut.py" 192]})::
  (nat_lit 21,fo [0] "_wall" (.none) (vs "__main__" 164) 20)::
  (nat_lit 29,{cls:= .type "tuple",data:= .seq #[]})::
  (nat_lit 31,{cls:= .type "tuple",data:= .seq #[vs "self" 211,vs "field_number" 212,vs "wire_type" 213,vs "data" 214]})::
  (nat_lit 32,{cls:= .type "tuple",data:= .seq #[]})::
  (nat_lit 34,{cls:= .type "code",data:= .fields #[vs "__init__" 208,vs "_UnknownField.__init__" 209,vs "/claim/cut.py" 210,.int 7 0,.int 4 0,.int 0 0,.int 0 0,.int 3 0,.ref 29,.bool true,.int 181 0,.ref 30,.none,.ref 31,.ref 32,.ref 33,.int 215 0,.int 7 0,vs "/claim/cut.py" 216]})::
  (nat_lit 35,fo [2,0] "_UnknownField.__init__" (.none) (vs "google.protobuf.internal.containers" 194) 34)::
  (nat_lit 36,{cls:= .type "tuple",data:= .seq #[]})::
  (nat_lit 38,{cls:= .type "tuple",data:= .seq #[vs "self" 221,vs "other" 222]})::
  (nat_lit 39,{cls:= .type "tuple",data:= .seq #[]})::
  (nat_lit 41,{cls:= .type "code",data:= .fields #[vs "__lt__" 218,vs "_UnknownField.__lt__" 219,vs "/claim/cut.py" 220,.int 13 0,.int 2 0,.int 0 0,.int 0 0,.int 3 0,.ref 36,.bool true,.int 181 0,.ref 37,.none,.ref 38,.ref 39,.ref 40,.int 223 0,.int 13 0,vs "/claim/cut.py" 224]})::
  (nat_lit 42,fo [2,1] "_UnknownField.__lt__" (.none) (vs "google.protobuf.internal.containers" 194) 41)::
  (nat_lit 43,{cls:= .type "tuple",data:= .seq #[]})::
  (nat_lit 45,{cls:= .type "tuple",data:= .seq #[vs "self" 229,vs "other" 230]})::
  (nat_lit 46,{cls:= .type "tuple",data:= .seq #[]})::
  (nat_lit 48,{cls:= .type "code",data:= .fields #[vs "__eq__" 226,vs "_UnknownField.__eq__" 227,vs "/claim/cut.py" 228,.int 16 0,.int 2 0,.int 0 0,.int 0 0,.int 3 0,.ref 43,.bool true,.int 181 0,.ref 44,.none,.ref 45,.ref 46,.ref 47,.int 231 0,.int 16 0,vs "/claim/cut.py" 232]})::
  (nat_lit 49,fo [2,2] "_UnknownField.__eq__" (.none) (vs "google.protobuf.internal.containers" 194) 48)::
  (nat_lit 50,{cls:= .type "tuple",data:= .seq #[vs "_data" 234,vs "_field_number" 235,vs "_wire_type" 236]})::
  (nat_lit 51,{cls:= .type "dict",data:= .dict #[de P "__module__" 203 (vs "google.protobuf.internal.containers" 194),de P "__firstlineno__" 207 (.int 5 206),de P "__init__" 217 (.ref 35),de P "__lt__" 225 (.ref 42),de P "__eq__" 233 (.ref 49),de P "__static_attributes__" 237 (.ref 50),de P "__dict__" 239 (.ref 53),de P "__weakref__" 241 (.ref 54),de P "__doc__" 242 (.none),de P "__hash__" 243 (.none)] 5})::
  (nat_lit 52,{cls:= .type "type",data:= .cls {name:=Str.ofString "_UnknownField",bases:=[.type "object"],mro:=[.ref 52,.type "object"],ns:=51,qualname:=Str.ofString "_UnknownField"},slots:= #[none,none,some (vs "_UnknownField" 196),some (vs "_UnknownField" 204),some (.builtin "object.__new__"),some (.bool true)]})::
  (nat_lit 53,{cls:= .type "getset_descriptor",data:= .fields #[vs "__dict__" 238,.ref 52,.builtin "function.__dict__",.builtin "function.__dict__#set"]})::
  (nat_lit 54,{cls:= .type "getset_descriptor",data:= .fields #[vs "__weakref__" 240,.ref 52,.builtin "ExceptionGroup.__weakref__",.none]})::
  (nat_lit 64,{cls:= .type "tuple",data:= .seq #[]})::
  (nat_lit 66,{cls:= .type "tuple",data:= .seq #[vs "self" 261,vs "parent" 262,vs "index" 263]})::
  (nat_lit 67,{cls:= .type "tuple",data:= .seq #[]})::
  (nat_lit 69,{cls:= .type "code",data:= .fields #[vs "__init__" 258,vs "UnknownFieldRef.__init__" 259,vs "/claim/cut.py" 260,.int 22 0,.int 3 0,.int 0 0,.int 0 0,.int 3 0,.ref 64,.bool true,.int 181 0,.ref 65,.none,.ref 66,.ref 67,.ref 68,.int 264 0,.int 22 0,vs "/claim/cut.py" 265]})::
  (nat_lit 70,fo [3,0] "UnknownFieldRef.__init__" (.none) (vs "google.protobuf.internal.containers" 194) 69)::
  (nat_lit 71,{cls:= .type "tuple",data:= .seq #[]})::
  (nat_lit 73,{cls:= .type "tuple",data:= .seq #[vs "self" 270]})::
  (nat_lit 74,{cls:= .type "tuple",data:= .seq #[]})::
  (nat_lit 76,{cls:= .type "code",data:= .fields #[vs "_check_valid" 267,vs "UnknownFieldRef._check_valid" 268,vs "/claim/cut.py" 269,.int 26 0,.int 1 0,.int 0 0,.int 0 0,.int 3 0,.ref 71,.bool true,.int 181 0,.ref 72,.none,.ref 73,.ref 74,.ref 75,.int 271 0,.int 26 0,vs "/claim/cut.py" 272]})::
  (nat_lit 77,fo [3,1] "UnknownFieldRef._check_valid" (.none) (vs "google.protobuf.internal.containers" 194) 76)::
  (nat_lit 78,{cls:= .type "tuple",data:= .seq #[]})::
  (nat_lit 80,{cls:= .type "tuple",data:= .seq #[vs "self" 277]})::
  (nat_lit 81,{cls:= .type "tuple",data:= .seq #[]})::
  (nat_lit 83,{cls:= .type "code",data:= .fields #[vs "field_number" 274,vs "UnknownFieldRef.field_number" 275,vs "/claim/cut.py" 276,.int 32 0,.int 1 0,.int 0 0,.int 0 0,.int 3 0,.ref 78,.bool true,.int 181 0,.ref 79,.none,.ref 80,.ref 81,.ref 82,.int 278 0,.int 32 0,vs "/claim/cut.py" 279]})::
  (nat_lit 84,fo [3,2] "UnknownFieldRef.field_number" (.none) (vs "google.protobuf.internal.containers" 194) 83)::
  (nat_lit 85,{cls:= .type "property",data:= .fields #[.ref 84,.none,.none,.none,vs "field_number" 281,.bool false]})::
  (nat_lit 86,{cls:= .type "tuple",data:= .seq #[]})::
  (nat_lit 88,{cls:= .type "tuple",data:= .seq #[vs "self" 285]})::
  (nat_lit 89,{cls:= .type "tuple",data:= .seq #[]})::
  (nat_lit 91,{cls:= .type "code",data:= .fields #[vs "wire_type" 282,vs "UnknownFieldRef.wire_type" 283,vs "/claim/cut.py" 284,.int 37 0,.int 1 0,.int 0 0,.int 0 0,.int 3 0,.ref 86,.bool true,.int 181 0,.ref 87,.none,.ref 88,.ref 89,.ref 90,.int 286 0,.int 37 0,vs "/claim/cut.py" 287]})::
  (nat_lit 92,fo [3,3] "UnknownFieldRef.wire_type" (.none) (vs "google.protobuf.internal.containers" 194) 91)::
  (nat_lit 93,{cls:= .type "property",data:= .fields #[.ref 92,.none,.none,.none,vs "wire_type" 289,.bool false]})::
  (nat_lit 94,{cls:= .type "tuple",data:= .seq #[]})::
  (nat_lit 96,{cls:= .type "tuple",data:= .seq #[vs "self" 293]})::
  (nat_lit 97,{cls:= .type "tuple",data:= .seq #[]})::
  (nat_lit 99,{cls:= .type "code",data:= .fields #[vs "data" 290,vs "UnknownFieldRef.data" 291,vs "/claim/cut.py" 292,.int 42 0,.int 1 0,.int 0 0,.int 0 0,.int 3 0,.ref 94,.bool true,.int 181 0,.ref 95,.none,.ref 96,.ref 97,.ref 98,.int 294 0,.int 42 0,vs "/claim/cut.py" 295]})::
  (nat_lit 100,fo [3,4] "UnknownFieldRef.data" (.none) (vs "google.protobuf.internal.containers" 194) 99)::
  (nat_lit 101,{cls:= .type "property",data:= .fields #[.ref 100,.none,.none,.none,vs "data" 297,.bool false]})::
  (nat_lit 102,{cls:= .type "tuple",data:= .seq #[vs "_index" 298,vs "_parent" 299]})::
  (nat_lit 103,{cls:= .type "dict",data:= .dict #[de P "__module__" 253 (vs "google.protobuf.internal.containers" 194),de P "__firstlineno__" 257 (.int 20 256),de P "__init__" 266 (.ref 70),de P "_check_valid" 273 (.ref 77),de P "field_number" 281 (.ref 85),de P "wire_type" 289 (.ref 93),de P "data" 297 (.ref 101),de P "__static_attributes__" 300 (.ref 102),de P "__dict__" 302 (.ref 105),de P "__weakref__" 304 (.ref 106),de P "__doc__" 305 (.none)] 4})::
  (nat_lit 104,{cls:= .type "type",data:= .cls {name:=Str.ofString "UnknownFieldRef",bases:=[.type "object"],mro:=[.ref 104,.type "object"],ns:=103,qualname:=Str.ofString "UnknownFieldRef"},slots:= #[none,none,some (vs "UnknownFieldRef" 246),some (vs "UnknownFieldRef" 254),some (.builtin "object.__new__"),some (.bool true)]})::
  (nat_lit 105,{cls:= .type "getset_descriptor",data:= .fields #[vs "__dict__" 301,.ref 104,.builtin "function.__dict__",.builtin "function.__dict__#set"]})::
  (nat_lit 106,{cls:= .type "getset_descriptor",data:= .fields #[vs "__weakref__" 303,.ref 104,.builtin "ExceptionGroup.__weakref__",.none]})::
  (nat_lit 116,{cls:= .type "tuple",data:= .seq #[]})::
  (nat_lit 118,{cls:= .type "tuple",data:= .seq #[vs "self" 323]})::
  (nat_lit 119,{cls:= .type "tuple",data:= .seq #[]})::
  (nat_lit 121,{cls:= .type "code",data:= .fields #[vs "__init__" 320,vs "UnknownFieldSet.__init__" 321,vs "/claim/cut.py" 322,.int 48 0,.int 1 0,.int 0 0,.int 0 0,.int 3 0,.ref 116,.bool true,.int 181 0,.ref 117,.none,.ref 118,.ref 119,.ref 120,.int 324 0,.int 48 0,vs "/claim/cut.py" 325]})::
  (nat_lit 122,fo [4,0] "UnknownFieldSet.__init__" (.none) (vs "google.protobuf.internal.containers" 194) 121)::
  (nat_lit 123,{cls:= .type "tuple",data:= .seq #[]})::
  (nat_lit 125,{cls:= .type "tuple",data:= .seq #[vs "self" 330,vs "index" 331,vs "size" 332]})::
  (nat_lit 126,{cls:= .type "tuple",data:= .seq #[]})::
  (nat_lit 128,{cls:= .type "code",data:= .fields #[vs "__getitem__" 327,vs "UnknownFieldSet.__getitem__" 328,vs "/claim/cut.py" 329,.int 51 0,.int 2 0,.int 0 0,.int 0 0,.int 3 0,.ref 123,.bool true,.int 181 0,.ref 124,.none,.ref 125,.ref 126,.ref 127,.int 333 0,.int 51 0,vs "/claim/cut.py" 334]})::
  (nat_lit 129,fo [4,1] "UnknownFieldSet.__getitem__" (.none) (vs "google.protobuf.internal.containers" 194) 128)::
  (nat_lit 130,{cls:= .type "tuple",data:= .seq #[]})::
  (nat_lit 132,{cls:= .type "tuple",data:= .seq #[vs "self" 339,vs "index" 340]})::
  (nat_lit 133,{cls:= .type "tuple",data:= .seq #[]})::
  (nat_lit 135,{cls:= .type "code",data:= .fields #[vs "_internal_get" 336,vs "UnknownFieldSet._internal_get" 337,vs "/claim/cut.py" 338,.int 61 0,.int 2 0,.int 0 0,.int 0 0,.int 3 0,.ref 130,.bool true,.int 181 0,.ref 131,.none,.ref 132,.ref 133,.ref 134,.int 341 0,.int 61 0,vs "/claim/cut.py" 342]})::
  (nat_lit 136,fo [4,2] "UnknownFieldSet._internal_get" (.none) (vs "google.protobuf.internal.containers" 194) 135)::
  (nat_lit 137,{cls:= .type "tuple",data:= .seq #[]})::
  (nat_lit 139,{cls:= .type "tuple",data:= .seq #[vs "self" 347]})::
  (nat_lit 140,{cls:= .type "tuple",data:= .seq #[]})::
  (nat_lit 142,{cls:= .type "code",data:= .fields #[vs "__len__" 344,vs "UnknownFieldSet.__len__" 345,vs "/claim/cut.py" 346,.int 64 0,.int 1 0,.int 0 0,.int 0 0,.int 3 0,.ref 137,.bool true,.int 181 0,.ref 138,.none,.ref 139,.ref 140,.ref 141,.int 348 0,.int 64 0,vs "/claim/cut.py" 349]})::
  (nat_lit 143,fo [4,3] "UnknownFieldSet.__len__" (.none) (vs "google.protobuf.internal.containers" 194) 142)::
  (nat_lit 144,{cls:= .type "tuple",data:= .seq #[]})::
  (nat_lit 146,{cls:= .type "tuple",data:= .seq #[vs "self" 354,vs "field_number" 355,vs "wire_type" 356,vs "data" 357,vs "unknown_field" 358]})::
  (nat_lit 147,{cls:= .type "tuple",data:= .seq #[]})::
  (nat_lit 149,{cls:= .type "code",data:= .fields #[vs "_add" 351,vs "UnknownFieldSet._add" 352,vs "/claim/cut.py" 353,.int 69 0,.int 4 0,.int 0 0,.int 0 0,.int 3 0,.ref 144,.bool true,.int 181 0,.ref 145,.none,.ref 146,.ref 147,.ref 148,.int 359 0,.int 69 0,vs "/claim/cut.py" 360]})::
  (nat_lit 150,fo [4,4] "UnknownFieldSet._add" (.none) (vs "google.protobuf.internal.containers" 194) 149)::
  (nat_lit 151,{cls:= .type "tuple",data:= .seq #[]})::
  (nat_lit 153,{cls:= .type "tuple",data:= .seq #[vs "self" 365,vs "i" 366]})::
  (nat_lit 154,{cls:= .type "tuple",data:= .seq #[]})::
  (nat_lit 156,{cls:= .type "code",data:= .fields #[vs "__iter__" 362,vs "UnknownFieldSet.__iter__" 363,vs "/claim/cut.py" 364,.int 74 0,.int 1 0,.int 0 0,.int 0 0,.int 35 0,.ref 151,.bool true,.int 181 0,.ref 152,.none,.ref 153,.ref 154,.ref 155,.int 367 0,.int 74 0,vs "/claim/cut.py" 368]})::
  (nat_lit 157,fo [4,5] "UnknownFieldSet.__iter__" (.none) (vs "google.protobuf.internal.containers" 194) 156)::
  (nat_lit 158,{cls:= .type "tuple",data:= .seq #[]})::
  (nat_lit 160,{cls:= .type "tuple",data:= .seq #[vs "self" 373,vs "other" 374]})::
  (nat_lit 161,{cls:= .type "tuple",data:= .seq #[]})::
  (nat_lit 163,{cls:= .type "code",data:= .fields #[vs "_extend" 370,vs "UnknownFieldSet._extend" 371,vs "/claim/cut.py" 372,.int 78 0,.int 2 0,.int 0 0,.int 0 0,.int 3 0,.ref 158,.bool true,.int 181 0,.ref 159,.none,.ref 160,.ref 161,.ref 162,.int 375 0,.int 78 0,vs "/claim/cut.py" 376]})::
  (nat_lit 164,fo [4,6] "UnknownFieldSet._extend" (.none) (vs "google.protobuf.internal.containers" 194) 163)::
  (nat_lit 165,{cls:= .type "tuple",data:= .seq #[]})::
  (nat_lit 167,{cls:= .type "tuple",data:= .seq #[vs "self" 381,vs "other" 382,vs "values" 383,vs "other_values" 384]})::
  (nat_lit 168,{cls:= .type "tuple",data:= .seq #[]})::
  (nat_lit 170,{cls:= .type "code",data:= .fields #[vs "__eq__" 378,vs "UnknownFieldSet.__eq__" 379,vs "/claim/cut.py" 380,.int 81 0,.int 2 0,.int 0 0,.int 0 0,.int 3 0,.ref 165,.bool true,.int 181 0,.ref 166,.none,.ref 167,.ref 168,.ref 169,.int 385 0,.int 81 0,vs "/claim/cut.py" 386]})::
  (nat_lit 171,fo [4,7] "UnknownFieldSet.__eq__" (.none) (vs "google.protobuf.internal.containers" 194) 170)::
  (nat_lit 172,{cls:= .type "tuple",data:= .seq #[]})::
  (nat_lit 174,{cls:= .type "tuple",data:= .seq #[vs "self" 391]})::
  (nat_lit 175,{cls:= .type "tuple",data:= .seq #[]})::
  (nat_lit 177,{cls:= .type "code",data:= .fields #[vs "_clear" 388,vs "UnknownFieldSet._clear" 389,vs "/claim/cut.py" 390,.int 91 0,.int 1 0,.int 0 0,.int 0 0,.int 3 0,.ref 172,.bool true,.int 181 0,.ref 173,.none,.ref 174,.ref 175,.ref 176,.int 392 0,.int 91 0,vs "/claim/cut.py" 393]})::
  (nat_lit 178,fo [4,8] "UnknownFieldSet._clear" (.none) (vs "google.protobuf.internal.containers" 194) 177)::
  (nat_lit 179,{cls:= .type "tuple",data:= .seq #[vs "_values" 395]})::
  (nat_lit 180,{cls:= .type "dict",data:= .dict #[de P "__module__" 315 (vs "google.protobuf.internal.containers" 194),de P "__firstlineno__" 319 (.int 46 318),de P "__init__" 326 (.ref 122),de P "__getitem__" 335 (.ref 129),de P "_internal_get" 343 (.ref 136),de P "__len__" 350 (.ref 143),de P "_add" 361 (.ref 150),de P "__iter__" 369 (.ref 157),de P "_extend" 377 (.ref 164),de P "__eq__" 387 (.ref 171),de P "_clear" 394 (.ref 178),de P "__static_attributes__" 396 (.ref 179),de P "__dict__" 398 (.ref 182),de P "__weakref__" 400 (.ref 183),de P "__doc__" 401 (.none),de P "__hash__" 402 (.none)] 5})::
  (nat_lit 181,{cls:= .type "type",data:= .cls {name:=Str.ofString "UnknownFieldSet",bases:=[.type "object"],mro:=[.ref 181,.type "object"],ns:=180,qualname:=Str.ofString "UnknownFieldSet"},slots:= #[none,none,some (vs "UnknownFieldSet" 308),some (vs "UnknownFieldSet" 316),some (.builtin "object.__new__"),some (.bool true)]})::
  (nat_lit 182,{cls:= .type "getset_descriptor",data:= .fields #[vs "__dict__" 397,.ref 181,.builtin "function.__dict__",.builtin "function.__dict__#set"]})::
  (nat_lit 183,{cls:= .type "getset_descriptor",data:= .fields #[vs "__weakref__" 399,.ref 181,.builtin "ExceptionGroup.__weakref__",.none]})::
  (nat_lit 186,{cls:= .type "tuple",data:= .seq #[.type "Exception"]})::
  (nat_lit 193,{cls:= .type "tuple",data:= .seq #[]})::
  (nat_lit 194,{cls:= .type "dict",data:= .dict #[de P "__module__" 414 (vs "google.protobuf.internal.wire_format" 405),de P "__firstlineno__" 418 (.int 94 417),de P "__static_attributes__" 419 (.ref 193),de P "__weakref__" 421 (.ref 196),de P "__doc__" 422 (.none)] 3})::
  (nat_lit 195,{cls:= .type "type",data:= .cls {name:=Str.ofString "Error",bases:=[.type "Exception"],mro:=[.ref 195,.type "Exception",.type "BaseException",.type "object"],ns:=194,qualname:=Str.ofString "Error",subclasses:=[.ref 208,.ref 220]},slots:= #[some (.ref 186),none,some (vs "Error" 407),some (vs "Error" 415),some (.builtin "Exception.__new__"),some (.bool true)]})::
  (nat_lit 196,{cls:= .type "getset_descriptor",data:= .fields #[vs "__weakref__" 420,.ref 195,.builtin "ExceptionGroup.__weakref__",.none]})::
  (nat_lit 199,{cls:= .type "tuple",data:= .seq #[.ref 195]})::
  (nat_lit 206,{cls:= .type "tuple",data:= .seq #[]})::
  (nat_lit 207,{cls:= .type "dict",data:= .dict #[de P "__module__" 434 (vs "google.protobuf.internal.wire_format" 405),de P "__firstlineno__" 438 (.int 96 437),de P "__static_attributes__" 439 (.ref 206),de P "__doc__" 440 (.none)] 2})::
  (nat_lit 208,{cls:= .type "type",data:= .cls {name:=Str.ofString "DecodeError",bases:=[.ref 195],mro:=[.ref 208,.ref 195,.type "Exception",.type "BaseException",.type "object"],ns:=207,qualname:=Str.ofString "DecodeError"},slots:= #[some (.ref 199),none,some (vs "DecodeError" 427),some (vs "DecodeError" 435),some (.builtin "Exception.__new__"),some (.bool true)]})::
  (nat_lit 211,{cls:= .type "tuple",data:= .seq #[.ref 195]})::
  (nat_lit 218,{cls:= .type "tuple",data:= .seq #[]})::
  (nat_lit 219,{cls:= .type "dict",data:= .dict #[de P "__module__" 450 (vs "google.protobuf.internal.wire_format" 405),de P "__firstlineno__" 454 (.int 98 453),de P "__static_attributes__" 455 (.ref 218),de P "__doc__" 456 (.none)] 2})::
  (nat_lit 220,{cls:= .type "type",data:= .cls {name:=Str.ofString "EncodeError",bases:=[.ref 195],mro:=[.ref 220,.ref 195,.type "Exception",.type "BaseException",.type "object"],ns:=219,qualname:=Str.ofString "EncodeError"},slots:= #[some (.ref 211),none,some (vs "EncodeError" 443),some (vs "EncodeError" 451),some (.builtin "Exception.__new__"),some (.bool true)]})::
  (nat_lit 223,{cls:= .type "tuple",data:= .seq #[.type "Exception"]})::
  (nat_lit 230,{cls:= .type "tuple",data:= .seq #[]})::
  (nat_lit 231,{cls:= .type "dict",data:= .dict #[de P "__module__" 466 (vs "google.protobuf.internal.wire_format" 405),de P "__firstlineno__" 470 (.int 100 469),de P "__static_attributes__" 471 (.ref 230),de P "__weakref__" 473 (.ref 233),de P "__doc__" 474 (.none)] 3})::
  (nat_lit 232,{cls:= .type "type",data:= .cls {name:=Str.ofString "StructError",bases:=[.type "Exception"],mro:=[.ref 232,.type "Exception",.type "BaseException",.type "object"],ns:=231,qualname:=Str.ofString "StructError"},slots:= #[some (.ref 223),none,some (vs "StructError" 459),some (vs "StructError" 467),some (.builtin "Exception.__new__"),some (.bool true)]})::
  (nat_lit 233,{cls:= .type "getset_descriptor",data:= .fields #[vs "__weakref__" 472,.ref 232,.builtin "ExceptionGroup.__weakref__",.none]})::
  (nat_lit 236,{cls:= .type "tuple",data:= .seq #[]})::
  (nat_lit 238,{cls:= .type "tuple",data:= .seq #[vs "format" 482]})::
  (nat_lit 239,{cls:= .type "tuple",data:= .seq #[]})::
  (nat_lit 241,{cls:= .type "code",data:= .fields #[vs "_calcsize" 479,vs "_calcsize" 480,vs "/claim/cut.py" 481,.int 102 0,.int 1 0,.int 0 0,.int 0 0,.int 3 0,.ref 236,.bool true,.int 181 0,.ref 237,.none,.ref 238,.ref 239,.ref 240,.int 483 0,.int 102 0,vs "/claim/cut.py" 484]})::
  (nat_lit 242,fo [10] "_calcsize" (.none) (vs "google.protobuf.internal.wire_format" 405) 241)::
  (nat_lit 243,{cls:= .type "tuple",data:= .seq #[]})::
  (nat_lit 245,{cls:= .type "tuple",data:= .seq #[vs "format" 489,vs "data" 490,vs "size" 491,vs "value" 492]})::
  (nat_lit 246,{cls:= .type "tuple",data:= .seq #[]})::
  (nat_lit 248,{cls:= .type "code",data:= .fields #[vs "_unpack" 486,vs "_unpack" 487,vs "/claim/cut.py" 488,.int 106 0,.int 2 0,.int 0 0,.int 0 0,.int 3 0,.ref 243,.bool true,.int 181 0,.ref 244,.none,.ref 245,.ref 246,.ref 247,.int 493 0,.int 106 0,vs "/claim/cut.py" 494]})::
  (nat_lit 249,fo [11] "_unpack" (.none) (vs "google.protobuf.internal.wire_format" 405) 248)::
  (nat_lit 250,{cls:= .type "tuple",data:= .seq #[]})::
  (nat_lit 252,{cls:= .type "tuple",data:= .seq #[vs "field_number" 517,vs "wire_type" 518]})::
  (nat_lit 253,{cls:= .type "tuple",data:= .seq #[]})::
  (nat_lit 255,{cls:= .type "code",data:= .fields #[vs "PackTag" 514,vs "PackTag" 515,vs "/claim/cut.py" 516,.int 123 0,.int 2 0,.int 0 0,.int 0 0,.int 3 0,.ref 250,.bool true,.int 181 0,.ref 251,.none,.ref 252,.ref 253,.ref 254,.int 519 0,.int 123 0,vs "/claim/cut.py" 520]})::
  (nat_lit 256,fo [21] "PackTag" (.none) (vs "google.protobuf.internal.wire_format" 405) 255)::
  (nat_lit 257,{cls:= .type "tuple",data:= .seq #[]})::
  (nat_lit 259,{cls:= .type "tuple",data:= .seq #[vs "tag" 525]})::
  (nat_lit 260,{cls:= .type "tuple",data:= .seq #[]})::
  (nat_lit 262,{cls:= .type "code",data:= .fields #[vs "UnpackTag" 522,vs "UnpackTag" 523,vs "/claim/cut.py" 524,.int 127 0,.int 1 0,.int 0 0,.int 0 0,.int 3 0,.ref 257,.bool true,.int 181 0,.ref 258,.none,.ref 259,.ref 260,.ref 261,.int 526 0,.int 127 0,vs "/claim/cut.py" 527]})::
  (nat_lit 263,fo [22] "UnpackTag" (.none) (vs "google.protobuf.internal.wire_format" 405) 262)::
  (nat_lit 264,{cls:= .type "tuple",data:= .seq #[.none]})::
  (nat_lit 265,{cls:= .type "tuple",data:= .seq #[]})::
  (nat_lit 267,{cls:= .type "tuple",data:= .seq #[vs "write" 534,vs "value" 535,vs "unused_deterministic" 536,vs "bits" 537]})::
  (nat_lit 268,{cls:= .type "tuple",data:= .seq #[]})::
  (nat_lit 270,{cls:= .type "code",data:= .fields #[vs "_EncodeVarint" 531,vs "_EncodeVarint" 532,vs "/claim/cut.py" 533,.int 130 0,.int 3 0,.int 0 0,.int 0 0,.int 3 0,.ref 265,.bool true,.int 181 0,.ref 266,.none,.ref 267,.ref 268,.ref 269,.int 538 0,.int 130 0,vs "/claim/cut.py" 539]})::
  (nat_lit 271,fo [24] "_EncodeVarint" (.ref 264) (vs "google.protobuf.internal.encoder" 529) 270)::
  (nat_lit 272,{cls:= .type "tuple",data:= .seq #[]})::
  (nat_lit 274,{cls:= .type "tuple",data:= .seq #[vs "value" 544]})::
  (nat_lit 275,{cls:= .type "tuple",data:= .seq #[vs "pieces" 545]})::
  (nat_lit 277,{cls:= .type "code",data:= .fields #[vs "_VarintBytes" 541,vs "_VarintBytes" 542,vs "/claim/cut.py" 543,.int 138 0,.int 1 0,.int 0 0,.int 0 0,.int 3 0,.ref 272,.bool true,.int 181 0,.ref 273,.none,.ref 274,.ref 275,.ref 276,.int 546 0,.int 138 0,vs "/claim/cut.py" 547]})::
  (nat_lit 278,fo [25] "_VarintBytes" (.none) (vs "google.protobuf.internal.encoder" 529) 277)::
  (nat_lit 279,{cls:= .type "tuple",data:= .seq #[]})::
  (nat_lit 281,{cls:= .type "tuple",data:= .seq #[vs "field_number" 552,vs "wire_type" 553]})::
  (nat_lit 282,{cls:= .type "tuple",data:= .seq #[]})::
  (nat_lit 284,{cls:= .type "code",data:= .fields #[vs "TagBytes" 549,vs "TagBytes" 550,vs "/claim/cut.py" 551,.int 142 0,.int 2 0,.int 0 0,.int 0 0,.int 3 0,.ref 279,.bool true,.int 181 0,.ref 280,.none,.ref 281,.ref 282,.ref 283,.int 554 0,.int 142 0,vs "/claim/cut.py" 555]})::
  (nat_lit 285,fo [26] "TagBytes" (.none) (vs "google.protobuf.internal.encoder" 529) 284)::
  (nat_lit 286,{cls:= .type "tuple",data:= .seq #[]})::
  (nat_lit 288,{cls:= .type "tuple",data:= .seq #[vs "mask" 562,vs "DecodeVarint" 563]})::
  (nat_lit 289,{cls:= .type "tuple",data:= .seq #[vs "mask" 564]})::
  (nat_lit 291,{cls:= .type "code",data:= .fields #[vs "_VarintDecoder" 559,vs "_VarintDecoder" 560,vs "/claim/cut.py" 561,.int 145 0,.int 1 0,.int 0 0,.int 0 0,.int 3 0,.ref 286,.bool true,.int 181 0,.ref 287,.none,.ref 288,.ref 289,.ref 290,.int 565 0,.int 145 0,vs "/claim/cut.py" 566]})::
  (nat_lit 292,fo [28] "_VarintDecoder" (.none) (vs "google.protobuf.internal.decoder" 557) 291)::
  (nat_lit 293,{cls:= .type "tuple",data:= .seq #[]})::
  (nat_lit 295,{cls:= .type "tuple",data:= .seq #[vs "buffer" 571,vs "pos" 572]})::
  (nat_lit 296,{cls:= .type "tuple",data:= .seq #[]})::
  (nat_lit 298,{cls:= .type "code",data:= .fields #[vs "_DecodeVarint" 568,vs "_DecodeVarint" 569,vs "/claim/cut.py" 570,.int 161 0,.int 2 0,.int 0 0,.int 0 0,.int 3 0,.ref 293,.bool true,.int 181 0,.ref 294,.none,.ref 295,.ref 296,.ref 297,.int 573 0,.int 161 0,vs "/claim/cut.py" 574]})::
  (nat_lit 299,fo [29] "_DecodeVarint" (.none) (vs "google.protobuf.internal.decoder" 557) 298)::
  (nat_lit 300,{cls:= .type "tuple",data:= .seq #[]})::
  (nat_lit 302,{cls:= .type "tuple",data:= .seq #[vs "buffer" 579,vs "pos" 580,vs "start" 581,vs "tag_bytes" 582]})::
  (nat_lit 303,{cls:= .type "tuple",data:= .seq #[]})::
  (nat_lit 305,{cls:= .type "code",data:= .fields #[vs "ReadTag" 576,vs "ReadTag" 577,vs "/claim/cut.py" 578,.int 163 0,.int 2 0,.int 0 0,.int 0 0,.int 3 0,.ref 300,.bool true,.int 181 0,.ref 301,.none,.ref 302,.ref 303,.ref 304,.int 583 0,.int 163 0,vs "/claim/cut.py" 584]})::
  (nat_lit 306,fo [30] "ReadTag" (.none) (vs "google.protobuf.internal.decoder" 557) 305)::
  (nat_lit 307,{cls:= .type "tuple",data:= .seq #[]})::
  (nat_lit 309,{cls:= .type "tuple",data:= .seq #[vs "buffer" 589,vs "pos" 590,vs "new_pos" 591]})::
  (nat_lit 310,{cls:= .type "tuple",data:= .seq #[]})::
  (nat_lit 312,{cls:= .type "code",data:= .fields #[vs "_DecodeFixed64" 586,vs "_DecodeFixed64" 587,vs "/claim/cut.py" 588,.int 170 0,.int 2 0,.int 0 0,.int 0 0,.int 3 0,.ref 307,.bool true,.int 181 0,.ref 308,.none,.ref 309,.ref 310,.ref 311,.int 592 0,.int 170 0,vs "/claim/cut.py" 593]})::
  (nat_lit 313,fo [31] "_DecodeFixed64" (.none) (vs "google.protobuf.internal.decoder" 557) 312)::
  (nat_lit 314,{cls:= .type "tuple",data:= .seq #[]})::
  (nat_lit 316,{cls:= .type "tuple",data:= .seq #[vs "buffer" 598,vs "pos" 599,vs "new_pos" 600]})::
  (nat_lit 317,{cls:= .type "tuple",data:= .seq #[]})::
  (nat_lit 319,{cls:= .type "code",data:= .fields #[vs "_DecodeFixed32" 595,vs "_DecodeFixed32" 596,vs "/claim/cut.py" 597,.int 173 0,.int 2 0,.int 0 0,.int 0 0,.int 3 0,.ref 314,.bool true,.int 181 0,.ref 315,.none,.ref 316,.ref 317,.ref 318,.int 601 0,.int 173 0,vs "/claim/cut.py" 602]})::
  (nat_lit 320,fo [32] "_DecodeFixed32" (.none) (vs "google.protobuf.internal.decoder" 557) 319)::
  (nat_lit 321,{cls:= .type "tuple",data:= .seq #[.none,.int 0 606]})::
  (nat_lit 322,{cls:= .type "tuple",data:= .seq #[]})::
  (nat_lit 324,{cls:= .type "tuple",data:= .seq #[vs "buffer" 610,vs "pos" 611,vs "end_pos" 612,vs "current_depth" 613,vs "unknown_field_set" 614,vs "tag_bytes" 615,vs "tag" 616,vs "_" 617,vs "field_number" 618,vs "wire_type" 619,vs "data" 620]})::
  (nat_lit 325,{cls:= .type "tuple",data:= .seq #[]})::
  (nat_lit 327,{cls:= .type "code",data:= .fields #[vs "_DecodeUnknownFieldSet" 607,vs "_DecodeUnknownFieldSet" 608,vs "/claim/cut.py" 609,.int 177 0,.int 4 0,.int 0 0,.int 0 0,.int 3 0,.ref 322,.bool true,.int 181 0,.ref 323,.none,.ref 324,.ref 325,.ref 326,.int 621 0,.int 177 0,vs "/claim/cut.py" 622]})::
  (nat_lit 328,fo [34] "_DecodeUnknownFieldSet" (.ref 321) (vs "google.protobuf.internal.decoder" 557) 327)::
  (nat_lit 329,{cls:= .type "tuple",data:= .seq #[.int 0 624]})::
  (nat_lit 330,{cls:= .type "tuple",data:= .seq #[]})::
  (nat_lit 332,{cls:= .type "tuple",data:= .seq #[vs "buffer" 628,vs "pos" 629,vs "end_pos" 630,vs "field_number" 631,vs "wire_type" 632,vs "current_depth" 633,vs "data" 634,vs "size" 635,vs "end_tag_bytes" 636]})::
  (nat_lit 333,{cls:= .type "tuple",data:= .seq #[]})::
  (nat_lit 335,{cls:= .type "code",data:= .fields #[vs "_DecodeUnknownField" 625,vs "_DecodeUnknownField" 626,vs "/claim/cut.py" 627,.int 188 0,.int 6 0,.int 0 0,.int 0 0,.int 3 0,.ref 330,.bool true,.int 181 0,.ref 331,.none,.ref 332,.ref 333,.ref 334,.int 637 0,.int 188 0,vs "/claim/cut.py" 638]})::
  (nat_lit 336,fo [35] "_DecodeUnknownField" (.ref 329) (vs "google.protobuf.internal.decoder" 557) 335)::
  (nat_lit 337,{cls:= .type "tuple",data:= .seq #[]})::
  (nat_lit 339,{cls:= .type "tuple",data:= .seq #[vs "value" 645,vs "octets" 646]})::
  (nat_lit 340,{cls:= .type "tuple",data:= .seq #[]})::
  (nat_lit 342,{cls:= .type "code",data:= .fields #[vs "_law_varint" 642,vs "_law_varint" 643,vs "/claim/cut.py" 644,.int 216 0,.int 1 0,.int 0 0,.int 0 0,.int 3 0,.ref 337,.bool true,.int 181 0,.ref 338,.none,.ref 339,.ref 340,.ref 341,.int 647 0,.int 216 0,vs "/claim/cut.py" 648]})::
  (nat_lit 343,fo [37] "_law_varint" (.none) (vs "law_jd0024_01" 640) 342)::
  (nat_lit 344,{cls:= .type "tuple",data:= .seq #[]})::
  (nat_lit 346,{cls:= .type "tuple",data:= .seq #[vs "value" 653,vs "size" 654,vs "octets" 655,vs "k" 656]})::
  (nat_lit 347,{cls:= .type "tuple",data:= .seq #[]})::
  (nat_lit 349,{cls:= .type "code",data:= .fields #[vs "_law_little" 650,vs "_law_little" 651,vs "/claim/cut.py" 652,.int 222 0,.int 2 0,.int 0 0,.int 0 0,.int 3 0,.ref 344,.bool true,.int 181 0,.ref 345,.none,.ref 346,.ref 347,.ref 348,.int 657 0,.int 222 0,vs "/claim/cut.py" 658]})::
  (nat_lit 350,fo [38] "_law_little" (.none) (vs "law_jd0024_01" 640) 349)::
  (nat_lit 351,{cls:= .type "tuple",data:= .seq #[]})::
  (nat_lit 353,{cls:= .type "tuple",data:= .seq #[vs "number" 663,vs "waiting" 664,vs "rough" 665,vs "how" 666,vs "left" 667,vs "field" 668,vs "value" 669,vs "size" 670,vs "text" 671]})::
  (nat_lit 354,{cls:= .type "tuple",data:= .seq #[]})::
  (nat_lit 356,{cls:= .type "code",data:= .fields #[vs "_law_part" 660,vs "_law_part" 661,vs "/claim/cut.py" 662,.int 228 0,.int 3 0,.int 0 0,.int 0 0,.int 3 0,.ref 351,.bool true,.int 181 0,.ref 352,.none,.ref 353,.ref 354,.ref 355,.int 672 0,.int 228 0,vs "/claim/cut.py" 673]})::
  (nat_lit 357,fo [39] "_law_part" (.none) (vs "law_jd0024_01" 640) 356)::
  (nat_lit 358,{cls:= .type "tuple",data:= .seq #[]})::
  (nat_lit 360,{cls:= .type "tuple",data:= .seq #[vs "script" 678,vs "waiting" 679,vs "octets" 680,vs "rough" 681,vs "number" 682]})::
  (nat_lit 361,{cls:= .type "tuple",data:= .seq #[]})::
  (nat_lit 363,{cls:= .type "code",data:= .fields #[vs "_law_octets" 675,vs "_law_octets" 676,vs "/claim/cut.py" 677,.int 260 0,.int 1 0,.int 0 0,.int 0 0,.int 3 0,.ref 358,.bool true,.int 181 0,.ref 359,.none,.ref 360,.ref 361,.ref 362,.int 683 0,.int 260 0,vs "/claim/cut.py" 684]})::
  (nat_lit 364,fo [40] "_law_octets" (.none) (vs "law_jd0024_01" 640) 363)::
  (nat_lit 365,{cls:= .type "tuple",data:= .seq #[]})::
  (nat_lit 367,{cls:= .type "tuple",data:= .seq #[vs "octets" 689,vs "at" 690,vs "value" 691,vs "k" 692]})::
  (nat_lit 368,{cls:= .type "tuple",data:= .seq #[]})::
  (nat_lit 370,{cls:= .type "code",data:= .fields #[vs "_law_read_varint" 686,vs "_law_read_varint" 687,vs "/claim/cut.py" 688,.int 270 0,.int 2 0,.int 0 0,.int 0 0,.int 3 0,.ref 365,.bool true,.int 181 0,.ref 366,.none,.ref 367,.ref 368,.ref 369,.int 693 0,.int 270 0,vs "/claim/cut.py" 694]})::
  (nat_lit 371,fo [41] "_law_read_varint" (.none) (vs "law_jd0024_01" 640) 370)::
  (nat_lit 372,{cls:= .type "tuple",data:= .seq #[]})::
  (nat_lit 374,{cls:= .type "tuple",data:= .seq #[vs "octets" 699,vs "at" 700,vs "behind" 701]})::
  (nat_lit 375,{cls:= .type "tuple",data:= .seq #[]})::
  (nat_lit 377,{cls:= .type "code",data:= .fields #[vs "_law_read_tag" 696,vs "_law_read_tag" 697,vs "/claim/cut.py" 698,.int 279 0,.int 2 0,.int 0 0,.int 0 0,.int 3 0,.ref 372,.bool true,.int 181 0,.ref 373,.none,.ref 374,.ref 375,.ref 376,.int 702 0,.int 279 0,vs "/claim/cut.py" 703]})::
  (nat_lit 378,fo [42] "_law_read_tag" (.none) (vs "law_jd0024_01" 640) 377)::
  (nat_lit 379,{cls:= .type "tuple",data:= .seq #[]})::
  (nat_lit 381,{cls:= .type "tuple",data:= .seq #[vs "octets" 708,vs "at" 709,vs "end" 710,vs "number" 711,vs "level" 712,vs "fault" 713,vs "rows" 714,vs "closed" 715,vs "tag" 716]})::
  (nat_lit 382,{cls:= .type "tuple",data:= .seq #[]})::
  (nat_lit 384,{cls:= .type "code",data:= .fields #[vs "_law_read_group" 705,vs "_law_read_group" 706,vs "/claim/cut.py" 707,.int 286 0,.int 5 0,.int 0 0,.int 0 0,.int 3 0,.ref 379,.bool true,.int 181 0,.ref 380,.none,.ref 381,.ref 382,.ref 383,.int 717 0,.int 286 0,vs "/claim/cut.py" 718]})::
  (nat_lit 385,fo [43] "_law_read_group" (.none) (vs "law_jd0024_01" 640) 384)::
  (nat_lit 386,{cls:= .type "tuple",data:= .seq #[]})::
  (nat_lit 389,{cls:= .type "code",data:= .fields #[vs "_law_read_field" 720,vs "_law_read_field" 721,vs "/claim/cut.py" 722,.int 298 0,.int 6 0,.int 0 0,.int 0 0,.int 3 0,.ref 386,.bool true,.int 181 0,.ref 387,.none,.none,.none,.ref 388,.int 723 0,.int 298 0,vs "/claim/cut.py" 724]})::
  (nat_lit 390,fo [44] "_law_read_field" (.none) (vs "law_jd0024_01" 640) 389)::
  (nat_lit 391,{cls:= .type "tuple",data:= .seq #[]})::
  (nat_lit 393,{cls:= .type "tuple",data:= .seq #[vs "octets" 729,vs "at" 730,vs "end" 731,vs "level" 732,vs "rows" 733,vs "fault" 734,vs "tag" 735,vs "value" 736]})::
  (nat_lit 394,{cls:= .type "tuple",data:= .seq #[]})::
  (nat_lit 396,{cls:= .type "code",data:= .fields #[vs "_law_read_set" 726,vs "_law_read_set" 727,vs "/claim/cut.py" 728,.int 317 0,.int 4 0,.int 0 0,.int 0 0,.int 3 0,.ref 391,.bool true,.int 181 0,.ref 392,.none,.ref 393,.ref 394,.ref 395,.int 737 0,.int 317 0,vs "/claim/cut.py" 738]})::
  (nat_lit 397,fo [45] "_law_read_set" (.none) (vs "law_jd0024_01" 640) 396)::
  (nat_lit 398,{cls:= .type "tuple",data:= .seq #[]})::
  (nat_lit 400,{cls:= .type "tuple",data:= .seq #[vs "fields" 743,vs "rows" 744,vs "k" 745,vs "data" 746]})::
  (nat_lit 401,{cls:= .type "tuple",data:= .seq #[]})::
  (nat_lit 403,{cls:= .type "code",data:= .fields #[vs "_law_shown" 740,vs "_law_shown" 741,vs "/claim/cut.py" 742,.int 329 0,.int 1 0,.int 0 0,.int 0 0,.int 3 0,.ref 398,.bool true,.int 181 0,.ref 399,.none,.ref 400,.ref 401,.ref 402,.int 747 0,.int 329 0,vs "/claim/cut.py" 748]})::
  (nat_lit 404,fo [46] "_law_shown" (.none) (vs "law_jd0024_01" 640) 403)::
  (nat_lit 405,{cls:= .type "tuple",data:= .seq #[]})::
  (nat_lit 407,{cls:= .type "tuple",data:= .seq #[vs "rows" 753,vs "octets" 754,vs "number" 755,vs "wire" 756,vs "value" 757]})::
  (nat_lit 408,{cls:= .type "tuple",data:= .seq #[]})::
  (nat_lit 410,{cls:= .type "code",data:= .fields #[vs "_law_written" 750,vs "_law_written" 751,vs "/claim/cut.py" 752,.int 337 0,.int 1 0,.int 0 0,.int 0 0,.int 3 0,.ref 405,.bool true,.int 181 0,.ref 406,.none,.ref 407,.ref 408,.ref 409,.int 758 0,.int 337 0,vs "/claim/cut.py" 759]})::
  (nat_lit 411,fo [47] "_law_written" (.none) (vs "law_jd0024_01" 640) 410)::
  (nat_lit 412,{cls:= .type "tuple",data:= .seq #[]})::
  (nat_lit 414,{cls:= .type "tuple",data:= .seq #[vs "octets" 764,vs "at" 765,vs "end" 766,vs "level" 767,vs "fields" 768,vs "behind" 769]})::
  (nat_lit 415,{cls:= .type "tuple",data:= .seq #[]})::
  (nat_lit 417,{cls:= .type "code",data:= .fields #[vs "_law_told" 761,vs "_law_told" 762,vs "/claim/cut.py" 763,.int 350 0,.int 4 0,.int 0 0,.int 0 0,.int 3 0,.ref 412,.bool true,.int 181 0,.ref 413,.none,.ref 414,.ref 415,.ref 416,.int 770 0,.int 350 0,vs "/claim/cut.py" 771]})::
  (nat_lit 418,fo [48] "_law_told" (.none) (vs "law_jd0024_01" 640) 417)::
  (nat_lit 419,{cls:= .type "tuple",data:= .seq #[]})::
  (nat_lit 421,{cls:= .type "tuple",data:= .seq #[vs "rows" 776,vs "octets" 777]})::
  (nat_lit 422,{cls:= .type "tuple",data:= .seq #[]})::
  (nat_lit 424,{cls:= .type "code",data:= .fields #[vs "_law_again" 773,vs "_law_again" 774,vs "/claim/cut.py" 775,.int 360 0,.int 1 0,.int 0 0,.int 0 0,.int 3 0,.ref 419,.bool true,.int 181 0,.ref 420,.none,.ref 421,.ref 422,.ref 423,.int 778 0,.int 360 0,vs "/claim/cut.py" 779]})::
  (nat_lit 425,fo [49] "_law_again" (.none) (vs "law_jd0024_01" 640) 424)::
  (nat_lit 426,{cls:= .type "tuple",data:= .seq #[]})::
  (nat_lit 428,{cls:= .type "tuple",data:= .seq #[vs "script" 784,vs "octets" 785,vs "first" 786,vs "at" 787,vs "end" 788,vs "level" 789,vs "fault" 790,vs "rows" 791,vs "behind" 792,vs "closed" 793,vs "said" 794,vs "fields" 795,vs "place" 796,vs "other" 797,vs "turned" 798]})::
  (nat_lit 429,{cls:= .type "tuple",data:= .seq #[]})::
  (nat_lit 431,{cls:= .type "code",data:= .fields #[vs "law" 781,vs "law" 782,vs "/claim/cut.py" 783,.int 363 0,.int 1 0,.int 0 0,.int 0 0,.int 3 0,.ref 426,.bool true,.int 181 0,.ref 427,.none,.ref 428,.ref 429,.ref 430,.int 799 0,.int 363 0,vs "/claim/cut.py" 800]})::
  (nat_lit 432,fo [50] "law" (.none) (vs "law_jd0024_01" 640) 431)::[]
noncomputable def pick (ks:List Nat) (l:List Stmt):List Stmt:=ks.filterMap fun i=>l[i]?
noncomputable def pV:Program:={PySem.Challenge.pw_jd0024_01 with main:={PySem.Challenge.pw_jd0024_01.main with body:=pick [0,2,3,4,6,7,8,9,10,11,12,13,14,15,16,17,18,19,20,21,22,25,26,28,29,30,31,32,33,37,38,39,40,41,42,43,44,45,46,47,48,49,50] PySem.Challenge.pw_jd0024_01.main.body}}
theorem fromV {V V':Program} {ns H r d kwd c} {nm:Str} (e:V'=V) (hd:defOf V nm=some (d,kwd)) (walk:∀d kwd,defOf V nm=some (d,kwd)→WalkO V ns (XL V []) H r d kwd c):WalkO V' ns (XL V' []) H r d kwd c:=by subst e;exact walk _ _ hd
theorem hK:∀P,[2,3,15,17,18,20,21,29,31,32,34,35,36,38,39,41,42,43,45,46,48,49,50,51,52,53,54,64,66,67,69,70,71,73,74,76,77,78,80,81,83,84,85,86,88,89,91,92,93,94,96,97,99,100,101,102,103,104,105,106,116,118,119,121,122,123,125,126,128,129,130,132,133,135,136,137,139,140,142,143,144,146,147,149,150,151,153,154,156,157,158,160,161,163,164,165,167,168,170,171,172,174,175,177,178,179,180,181,182,183,186,193,194,195,196,199,206,207,208,211,218,219,220,223,230,231,232,233,236,238,239,241,242,243,245,246,248,249,250,252,253,255,256,257,259,260,262,263,264,265,267,268,270,271,272,274,275,277,278,279,281,282,284,285,286,288,289,291,292,293,295,296,298,299,300,302,303,305,306,307,309,310,312,313,314,316,317,319,320,321,322,324,325,327,328,329,330,332,333,335,336,337,339,340,342,343,344,346,347,349,350,351,353,354,356,357,358,360,361,363,364,365,367,368,370,371,372,374,375,377,378,379,381,382,384,385,386,389,390,391,393,394,396,397,398,400,401,403,404,405,407,408,410,411,412,414,415,417,418,419,421,422,424,425,426,428,429,431,432]=(kf P).map (·.1):=fun _=>by kernel_rfl
noncomputable def pT:Prop:=∀d kwd,defOf pV (Str.ofString "law")=some (d,kwd)→WalkO pV [Str.ofString "UnknownFieldRef",Str.ofString "_EncodeVarint",Str.ofString "_DecodeUnknownFieldSet",Str.ofString "_DecodeUnknownField"] (XL pV [])
  (kmHook kf [2,3,15,17,18,20,21,29,31,32,34,35,36,38,39,41,42,43,45,46,48,49,50,51,52,53,54,64,66,67,69,70,71,73,74,76,77,78,80,81,83,84,85,86,88,89,91,92,93,94,96,97,99,100,101,102,103,104,105,106,116,118,119,121,122,123,125,126,128,129,130,132,133,135,136,137,139,140,142,143,144,146,147,149,150,151,153,154,156,157,158,160,161,163,164,165,167,168,170,171,172,174,175,177,178,179,180,181,182,183,186,193,194,195,196,199,206,207,208,211,218,219,220,223,230,231,232,233,236,238,239,241,242,243,245,246,248,249,250,252,253,255,256,257,259,260,262,263,264,265,267,268,270,271,272,274,275,277,278,279,281,282,284,285,286,288,289,291,292,293,295,296,298,299,300,302,303,305,306,307,309,310,312,313,314,316,317,319,320,321,322,324,325,327,328,329,330,332,333,335,336,337,339,340,342,343,344,346,347,349,350,351,353,354,356,357,358,360,361,363,364,365,367,368,370,371,372,374,375,377,378,379,381,382,384,385,386,389,390,391,393,394,396,397,398,400,401,403,404,405,407,408,410,411,412,414,415,417,418,419,421,422,424,425,426,428,429,431,432] hK [273,287,166,427]).says PySem.Challenge.rw_jd0024_01.row.toRowW d kwd (fun f vs=>call f vs)
theorem warm:(fun (_:OpenLaw) (_:Params→Frag)=>True) PySem.Challenge.rw_jd0024_01 Mine.kf:=by
 k_fill
 trivial
local macro_rules | `(tactic| omega) => `(tactic| first
  | with_reducible assumption
  | with_reducible exact Nat.le_of_ble_eq_true rfl
  | with_reducible exact Int.natCast_nonneg _
  | with_reducible exact Nat.lt_of_lt_of_le (by assumption) (Nat.le_of_ble_eq_true rfl)
  | with_reducible exact Nat.le_trans (by assumption) (Nat.le_of_ble_eq_true rfl)
  | with_reducible exact Nat.le_of_lt (Nat.lt_of_lt_of_le (by assumption) (Nat.le_of_ble_eq_true rfl))
  | with_reducible exact Nat.lt_of_le_of_lt (by assumption) (Nat.le_of_ble_eq_true rfl)
  | with_reducible exact And.left (by assumption)
  | with_reducible exact And.right (by assumption)
  | with_reducible exact Int.lt_of_lt_of_le (by assumption) (by decide)
  | with_reducible exact Int.lt_of_lt_of_le (And.right (by assumption)) (by decide)
  | with_reducible exact Int.lt_of_lt_of_le (by decide) (And.left (by assumption))
  | lia | omega (splitNatSub := true))
section
inductive Ln|u (i:Nat)|v (i:Nat)|c (k:Nat)|a (x y:Ln)|s (x y:Ln)|m (x:Ln) (k:Nat)|r (k:Nat) (x:Ln)|n (x:Ln)|w (x:Ln)
inductive Cn|l (x y:Ln)|t (x y:Ln)|e (x y:Ln)|d (x y:Ln)|L (x y:Ln)|T (x y:Ln)|E (x y:Ln)|D (x y:Ln)|nl (x y:Ln)|nt (x y:Ln)|nL (x y:Ln)|nT (x y:Ln)
inductive Lq|F|G (k:Nat) (g:Cn)|h (k:Nat) (c:Cn) (r:Lq)
structure Pl where
 k:Int
 n:List Int
 i:List Int
end
noncomputable def gN:List Nat→Nat→Nat
 |[],_=>0
 |x::_,0=>x
 |_::l,i+1=>gN l i
noncomputable def gI:List Int→Nat→Int
 |[],_=>0
 |x::_,0=>x
 |_::l,i+1=>gI l i
noncomputable def Ln.dn (ns:List Nat):Ln→Nat
 | .u i=>gN ns i| .c k=>k| .a x y=>x.dn ns+y.dn ns| .m x k=>x.dn ns*k| .r k x=>k*x.dn ns|_=>0
noncomputable def Ln.di (ns:List Nat) (is:List Int):Ln→Int
 | .u i=>(gN ns i:Int)| .v i=>gI is i| .c k=> @OfNat.ofNat Int k _| .a x y=>x.di ns is+y.di ns is| .s x y=>x.di ns is - y.di ns is
 | .m x k=>x.di ns is* @OfNat.ofNat Int k _| .r k x=> @OfNat.ofNat Int k _*x.di ns is| .n x=> - x.di ns is| .w x=>(x.dn ns:Int)
noncomputable def addL:List Int→List Int→List Int
 |[],y=>y
 |a::x,[]=>a::x
 |a::x,b::y=>(a+b)::addL x y
noncomputable def sclL (k:Int):List Int→List Int
 |[]=>[]
 |a::x=>(k*a)::sclL k x
noncomputable def unitL:Nat→List Int
 |0=>[1]
 |i+1=>0::unitL i
noncomputable def Pl.add (p q:Pl):Pl:=⟨p.k+q.k,addL p.n q.n,addL p.i q.i⟩
noncomputable def Pl.scl (k:Int) (p:Pl):Pl:=⟨k*p.k,sclL k p.n,sclL k p.i⟩
noncomputable def Pl.sub (p q:Pl):Pl:=p.add (q.scl (-1))
noncomputable def Ln.pn:Ln→Pl
 | .u i=>⟨0,unitL i,[]⟩| .c k=>⟨(k:Int),[],[]⟩| .a x y=>x.pn.add y.pn| .m x k=>x.pn.scl (k:Int)| .r k x=>x.pn.scl (k:Int)|_=>⟨0,[],[]⟩
noncomputable def Ln.pi:Ln→Pl
 | .u i=>⟨0,unitL i,[]⟩| .v i=>⟨0,[],unitL i⟩| .c k=>⟨(k:Int),[],[]⟩| .a x y=>x.pi.add y.pi| .s x y=>x.pi.sub y.pi
 | .m x k=>x.pi.scl (k:Int)| .r k x=>x.pi.scl (k:Int)| .n x=>x.pi.scl (-1)| .w x=>x.pn
noncomputable def Cn.den (ns:List Nat) (is:List Int):Cn→Prop
 | .l x y=>x.dn ns≤y.dn ns| .t x y=>x.dn ns<y.dn ns| .e x y=>x.dn ns=y.dn ns| .d x y=>x.dn ns=y.dn ns
 | .L x y=>x.di ns is≤y.di ns is| .T x y=>x.di ns is<y.di ns is| .E x y=>x.di ns is=y.di ns is| .D x y=>x.di ns is=y.di ns is
 | .nl x y=>¬ x.dn ns≤y.dn ns| .nt x y=>¬ x.dn ns<y.dn ns| .nL x y=>¬ x.di ns is≤y.di ns is| .nT x y=>¬ x.di ns is<y.di ns is
noncomputable def one1:Pl:=⟨-1,[],[]⟩
noncomputable def Cn.pol:Cn→Pl
 | .l x y=>y.pn.sub x.pn| .t x y=>(y.pn.sub x.pn).add one1| .e x y=>y.pn.sub x.pn| .d x y=>x.pn.sub y.pn
 | .L x y=>y.pi.sub x.pi| .T x y=>(y.pi.sub x.pi).add one1| .E x y=>y.pi.sub x.pi| .D x y=>x.pi.sub y.pi
 | .nl x y=>(x.pn.sub y.pn).add one1| .nt x y=>x.pn.sub y.pn| .nL x y=>(x.pi.sub y.pi).add one1| .nT x y=>x.pi.sub y.pi
noncomputable def Cn.neg:Cn→Pl
 | .l x y=>(x.pn.sub y.pn).add one1| .t x y=>x.pn.sub y.pn| .L x y=>(x.pi.sub y.pi).add one1| .T x y=>x.pi.sub y.pi
 | .nl x y=>y.pn.sub x.pn| .nt x y=>(y.pn.sub x.pn).add one1| .nL x y=>y.pi.sub x.pi| .nT x y=>(y.pi.sub x.pi).add one1
 |_=>⟨0,[],[]⟩
noncomputable def Lq.sum:Lq→Pl
 | .F=>⟨0,[],[]⟩
 | .G k g=>g.neg.scl (k:Int)
 | .h k c r=>(c.pol.scl (k:Int)).add r.sum
noncomputable def Lq.imp (ns:List Nat) (is:List Int):Lq→Prop
 | .F=>False
 | .G _ g=>g.den ns is
 | .h _ c r=>c.den ns is→r.imp ns is
noncomputable def npL:List Int→Bool
 |[]=>true
 | .ofNat (_+1)::_=>false
 |_::l=>npL l
noncomputable def zL:List Int→Bool
 |[]=>true
 | .ofNat 0::l=>zL l
 |_::_=>false
noncomputable def Pl.bad (p:Pl):Bool:=match p.k with
 | .negSucc _=>npL p.n && zL p.i
 |_=>false
section
variable {f g:Nat→Int} {ns:List Nat} {is:List Int}
noncomputable def evL (f:Nat→Int):Nat→List Int→Int
 |_,[]=>0
 |i,a::x=>a*f i+evL f (i+1) x
theorem ev_add:∀(x y:List Int) (i:Nat),evL f i (addL x y)=evL f i x+evL f i y
 |[],y,i=>(Int.zero_add _).symm
 |a::x,[],i=>(Int.add_zero _).symm
 |a::x,b::y,i=>by
  show (a+b)*f i+evL f (i+1) (addL x y)=(a*f i+evL f (i+1) x)+(b*f i+evL f (i+1) y)
  rw[ev_add x y,Int.add_mul,Int.add_assoc,Int.add_assoc,Int.add_left_comm (b*f i)]
theorem ev_scl (k:Int):∀(x:List Int) (i:Nat),evL f i (sclL k x)=k*evL f i x
 |[],i=>(Int.mul_zero _).symm
 |a::x,i=>by
  show k*a*f i+evL f (i+1) (sclL k x)=k*(a*f i+evL f (i+1) x)
  rw[ev_scl k x,Int.mul_add,Int.mul_assoc]
theorem ev_unit:∀(j i:Nat),evL f i (unitL j)=f (i+j)
 |0,i=>by show 1*f i+0=f i;rw[Int.one_mul,Int.add_zero]
 |j+1,i=>by
  show 0*f i+evL f (i+1) (unitL j)=f (i+(j+1))
  rw[ev_unit j,Int.zero_mul,Int.zero_add,Nat.add_assoc,Nat.add_comm 1 j]
noncomputable def Pl.ev (f g:Nat→Int) (p:Pl):Int:=p.k+(evL f 0 p.n+evL g 0 p.i)
theorem Pl.ev_add (p q:Pl):(p.add q).ev f g=p.ev f g+q.ev f g:=by
 show (p.k+q.k)+(evL f 0 (addL p.n q.n)+evL g 0 (addL p.i q.i))=(p.k+(evL f 0 p.n+evL g 0 p.i))+(q.k+(evL f 0 q.n+evL g 0 q.i))
 rw[Mine.ev_add,Mine.ev_add]
 generalize evL f 0 p.n=a;generalize evL f 0 q.n=b;generalize evL g 0 p.i=c;generalize evL g 0 q.i=d
 generalize p.k=x;generalize q.k=y
 rw[Int.add_assoc a b,Int.add_left_comm b c,←Int.add_assoc a c,Int.add_assoc x y,Int.add_left_comm y,←Int.add_assoc x]
theorem Pl.ev_scl (k:Int) (p:Pl):(p.scl k).ev f g=k*p.ev f g:=by
 show k*p.k+(evL f 0 (sclL k p.n)+evL g 0 (sclL k p.i))=k*(p.k+(evL f 0 p.n+evL g 0 p.i))
 rw[Mine.ev_scl,Mine.ev_scl,Int.mul_add,Int.mul_add]
theorem Pl.ev_sub (p q:Pl):(p.sub q).ev f g=p.ev f g - q.ev f g:=by
 rw[Pl.sub,Pl.ev_add,Pl.ev_scl,Int.sub_eq_add_neg,Int.neg_mul,Int.one_mul]
theorem Pl.ev_c {k:Int}:Pl.ev f g ⟨k,[],[]⟩=k:=Int.add_zero k
theorem Pl.ev_u {i:Nat}:Pl.ev f g ⟨0,unitL i,[]⟩=f i:=by
 show 0+(evL f 0 (unitL i)+0)=f i
 rw[ev_unit,Int.zero_add,Int.add_zero,Nat.zero_add]
theorem Pl.ev_v {i:Nat}:Pl.ev f g ⟨0,[],unitL i⟩=g i:=by
 show 0+(0+evL g 0 (unitL i))=g i
 rw[ev_unit,Int.zero_add,Int.zero_add,Nat.zero_add]
noncomputable abbrev En (ns:List Nat) (is:List Int) (p:Pl):Int:=p.ev (fun i=>(gN ns i:Int)) (gI is)
theorem pn_ok (e:Ln):(e.dn ns:Int)=En ns is e.pn:=by
 induction e with
 |u i=>exact (Pl.ev_u (f:=fun i=>(gN ns i:Int))).symm
 |c k=>exact Pl.ev_c.symm
 |a x y hx hy=>exact (Int.natCast_add _ _).trans ((congr (congrArg _ hx) hy).trans (Pl.ev_add _ _).symm)
 |m x k hx=>exact (Int.natCast_mul _ _).trans ((Int.mul_comm _ _).trans ((congrArg _ hx).trans (Pl.ev_scl _ _).symm))
 |r k x hx=>exact (Int.natCast_mul _ _).trans ((congrArg _ hx).trans (Pl.ev_scl _ _).symm)
 |_=>exact Pl.ev_c.symm
theorem pi_ok (e:Ln):e.di ns is=En ns is e.pi:=by
 induction e with
 |u i=>exact (Pl.ev_u (f:=fun i=>(gN ns i:Int))).symm
 |v i=>exact Pl.ev_v.symm
 |c k=>exact Pl.ev_c.symm
 |a x y hx hy=>exact (congr (congrArg _ hx) hy).trans (Pl.ev_add _ _).symm
 |s x y hx hy=>exact (congr (congrArg _ hx) hy).trans (Pl.ev_sub _ _).symm
 |m x k hx=>exact (Int.mul_comm _ _).trans ((congrArg _ hx).trans (Pl.ev_scl _ _).symm)
 |r k x hx=>exact (congrArg _ hx).trans (Pl.ev_scl _ _).symm
 |n x hx=>exact (congrArg _ hx).trans ((Int.neg_eq_neg_one_mul _).trans (Pl.ev_scl _ _).symm)
 |w x=>exact pn_ok x
theorem le_p {p q:Pl} (h:En ns is p≤En ns is q):0≤En ns is (q.sub p):=by rw[En,Pl.ev_sub];exact Int.sub_nonneg_of_le h
theorem lt_p {p q:Pl} (h:En ns is p<En ns is q):0≤En ns is ((q.sub p).add one1):=by
 rw[En,Pl.ev_add,Pl.ev_sub,show Pl.ev _ _ one1= -1 from rfl];exact Int.sub_nonneg_of_le (Int.sub_pos_of_lt h)
theorem nle {a b:Nat} (h:a≤b):(a:Int)≤b:=Int.ofNat_le.mpr h
theorem nlt {a b:Nat} (h:a<b):(a:Int)<b:=Int.ofNat_lt.mpr h
theorem Cn.pos {c:Cn} (h:c.den ns is):0≤En ns is c.pol:=by
 cases c with
 |l x y=>exact le_p (pn_ok (is:=is) x▸pn_ok (is:=is) y▸nle h)
 |t x y=>exact lt_p (pn_ok (is:=is) x▸pn_ok (is:=is) y▸nlt h)
 |e x y=>exact le_p (pn_ok (is:=is) x▸pn_ok (is:=is) y▸nle (Nat.le_of_eq h))
 |d x y=>exact le_p (pn_ok (is:=is) x▸pn_ok (is:=is) y▸nle (Nat.le_of_eq h.symm))
 |L x y=>exact le_p (pi_ok x▸pi_ok y▸h)
 |T x y=>exact lt_p (pi_ok x▸pi_ok y▸h)
 |E x y=>exact le_p (pi_ok x▸pi_ok y▸Int.le_of_eq h)
 |D x y=>exact le_p (pi_ok x▸pi_ok y▸Int.le_of_eq (Eq.symm h))
 |nl x y=>exact lt_p (pn_ok (is:=is) x▸pn_ok (is:=is) y▸nlt (Nat.lt_of_not_le h))
 |nt x y=>exact le_p (pn_ok (is:=is) x▸pn_ok (is:=is) y▸nle (Nat.le_of_not_lt h))
 |nL x y=>exact lt_p (pi_ok x▸pi_ok y▸Int.lt_of_not_ge h)
 |nT x y=>exact le_p (pi_ok x▸pi_ok y▸Int.not_lt.mp h)
theorem Cn.nneg {c:Cn} (h:¬ c.den ns is):0≤En ns is c.neg:=by
 cases c with
 |l x y=>exact Cn.pos (c:= .nl x y) h
 |t x y=>exact Cn.pos (c:= .nt x y) h
 |L x y=>exact Cn.pos (c:= .nL x y) h
 |T x y=>exact Cn.pos (c:= .nT x y) h
 |nl x y=>exact Cn.pos (c:= .l x y) (Classical.not_not.mp h)
 |nt x y=>exact Cn.pos (c:= .t x y) (Classical.not_not.mp h)
 |nL x y=>exact Cn.pos (c:= .L x y) (Classical.not_not.mp h)
 |nT x y=>exact Cn.pos (c:= .T x y) (Classical.not_not.mp h)
 |_=>exact Int.le_refl 0
theorem sum_pos {r:Lq}:∀{P:Int},0≤P→P+En ns is r.sum<0→r.imp ns is:=by
 induction r with
 |F=>exact fun h k=>absurd k (Int.not_lt.mpr (Int.add_nonneg h (Int.le_refl 0)))
 |G k c=>
  intro P h n
  refine Decidable.byContradiction (dec:=Classical.propDecidable _) fun hn=>absurd n (Int.not_lt.mpr (Int.add_nonneg h ?_))
  show 0≤Pl.ev _ _ (Pl.scl _ _)
  rw[Pl.ev_scl]
  exact Int.mul_nonneg (Int.natCast_nonneg k) (Cn.nneg hn)
 |h k c r ih=>
  intro P h n hc
  refine ih (P:=P+En ns is (Pl.scl (k:Int) c.pol)) (Int.add_nonneg h ?_) ?_
  ·rw[En,Pl.ev_scl];exact Int.mul_nonneg (Int.natCast_nonneg k) (Cn.pos hc)
  ·rw[Int.add_assoc,En,En,←Pl.ev_add];exact n
theorem np_ok (hf:∀i,0≤f i):∀{l:List Int},npL l=true→∀i,evL f i l≤0:=by
 intro l
 induction l with
 |nil=>exact fun _ _=>Int.le_refl 0
 |cons a l ih=>
  intro h i
  have hl:npL l=true∧a≤0:=by
   match a,h with
   | .ofNat 0,h=>exact ⟨h,Int.le_refl 0⟩
   | .negSucc n,h=>exact ⟨h,Int.le_of_lt (Int.negSucc_lt_zero n)⟩
  exact Int.add_le_add (Int.mul_nonpos_of_nonpos_of_nonneg hl.2 (hf i)) (ih hl.1 (i+1))
theorem z_ok:∀{l:List Int},zL l=true→∀i,evL f i l=0:=by
 intro l
 induction l with
 |nil=>exact fun _ _=>rfl
 |cons a l ih=>
  intro h i
  match a,h with
  | .ofNat 0,h=>show 0*f i+evL f (i+1) l=0;rw[ih h,Int.zero_mul];rfl
theorem bad_ok {p:Pl} (h:p.bad=true):En ns is p<0:=by
 unfold Pl.bad at h
 split at h
 ·rename_i n e
  obtain ⟨h1,h2⟩:=Bool.and_eq_true_iff.mp h
  show p.k+(_+_)<0
  rw[z_ok h2,Int.add_zero,e]
  exact Int.add_neg_of_neg_of_nonpos (Int.negSucc_lt_zero n) (np_ok (fun i=>Int.natCast_nonneg _) h1 0)
 ·cases h
end
theorem lin (q:Lq) (h:q.sum.bad=true) (ns:List Nat) (is:List Int):q.imp ns is:=sum_pos (Int.le_refl 0) (by rw[Int.zero_add];exact bad_ok h)
theorem sub_up (x y:Nat):x≤x - y+y:=Nat.le_add_of_sub_le (Nat.le_refl _)
noncomputable abbrev Y0:Ln:= .u 0
noncomputable abbrev Y1:Ln:= .u 1
noncomputable abbrev Y2:Ln:= .u 2
noncomputable abbrev Y3:Ln:= .u 3
noncomputable abbrev Y4:Ln:= .u 4
noncomputable abbrev Y5:Ln:= .u 5
noncomputable abbrev Y6:Ln:= .u 6
noncomputable abbrev Y7:Ln:= .u 7
noncomputable abbrev Y8:Ln:= .u 8
noncomputable abbrev Y9:Ln:= .u 9
noncomputable abbrev Z0:Ln:= .v 0
noncomputable abbrev Z1:Ln:= .v 1
noncomputable abbrev Z2:Ln:= .v 2
noncomputable abbrev Z3:Ln:= .v 3
theorem mR {α:Type u} {a:α} {bs:List α} (as:List α) (h:a∈bs):a∈as++bs:=List.mem_append_right as h
theorem mL {α:Type u} {a:α} {as:List α} (bs:List α) (h:a∈as):a∈as++bs:=List.mem_append_left bs h
theorem fC {α:Type u} {p:α→Prop} {a:α} {l:List α} (h:p a∧∀x∈l,p x):∀x∈a::l,p x:=List.forall_mem_cons.mpr h
theorem sC {n m:Nat} (h:m≤n):n - m+m=n:=Nat.sub_add_cancel h
noncomputable abbrev PR:Program:=Challenge.rw_jd0024_01.row.prog
structure WhK (K Q:Flow→Shared→Prop) (End:Shared→Prop):Prop where
 rt:∀v s,Q (.ret v) s→K (.ret v) s
 bk:∀s,Q .next s→K .brk s
 nx:∀s,End s→K .next s
 ct:∀s,End s→K .cont s
section
variable {prog:Program} {w:World} {A:Around} {E:Value→Shared→Prop} {Q:Flow→Shared→Prop} {s:Shared} {env:Env} {h₀:Heap} {L:Addr}
noncomputable def WhEnd {σ:Type} (h₀:Heap) (L:Addr) (s:Shared) (Led:σ→List (Addr×Obj)) (ps:σ→List (Str×Value)) (P:σ→Prop) (s₂:Shared):Prop:=
 ∃(c':σ) (h':Heap) (tk:Nat) (m':Str→Option Value) (news':List (Addr×Obj)),s₂={s with heap:=h',toks:=tk}∧Fr h₀ L h' m'∧News h₀ L h' news'∧(∀p∈Led c',p∈news')∧(∀p∈ps c',m' p.1=some p.2)∧P c'
noncomputable def WhPost {σ:Type} (h₀:Heap) (L:Addr) (s:Shared) (Led:σ→List (Addr×Obj)) (ps:σ→List (Str×Value)) (P:σ→Prop) (Q:Flow→Shared→Prop) (f:Flow) (s₂:Shared):Prop:=
 match f with
 | .ret v=>Q (.ret v) s₂
 | .brk=>Q .next s₂
 |_=>WhEnd h₀ L s Led ps P s₂
theorem wh_end {σ:Type} {s:Shared} {Led:σ→List (Addr×Obj)} {ps:σ→List (Str×Value)} {P:σ→Prop} {h':Heap} {tk:Nat} {m':Str→Option Value} {news':List (Addr×Obj)} (c':σ)
  (F:Fr h₀ L h' m') (N:News h₀ L h' news') (hn:∀p∈Led c',p∈news') (hk:∀p∈ps c',m' p.1=some p.2) (hp:P c'):WhEnd h₀ L s Led ps P {s with heap:=h',toks:=tk}:=
 ⟨c',h',tk,m',news',rfl,F,N,hn,hk,hp⟩
theorem kstB_self {m:Str→Option Value} {ps:List (Str×Value)} (h:∀p∈ps,m p.1=some p.2):kstB m ps=m:=by
 funext y
 exact kstB_eq h fun _=>rfl
theorem wh {σ:Type} {test:Expr} {body:List Stmt} {pos:Pos} {m₀:Str→Option Value} (Led:σ→List (Addr×Obj)) (ps:σ→List (Str×Value)) (P:σ→Prop) (μ:σ→Nat) (c₀:σ)
  (F:Fr h₀ L s.heap m₀) (N:News h₀ L s.heap (Led c₀)) (hk:∀p∈ps c₀,m₀ p.1=some p.2) (hp:P c₀)
  (turn:∀(c:σ) (u:Str→Option Value) h tk (K:Flow→Shared→Prop),WhK K Q (WhEnd h₀ L s Led ps (fun c'=>P c'∧μ c'<μ c))→P c→Fr h₀ L h (kstB u (ps c))→News h₀ L h (Led c)→
   wpAny (model prog w) A (isTrue test env (eval test env)) (fun b s₂=>
    if b=true then wpAny (model prog w) A (execs body env) K E s₂ else Q .next s₂) E {s with heap:=h,toks:=tk})
  (hE:PassesOwn (model prog w) A env E:=by passes_own):
  wpAny (model prog w) A (exec (.While test body [] pos) env) Q E s:=by
 refine While_inv2 (fun n m nx=>∃c:σ,nx=Led c∧μ c=n∧(∀p∈ps c,m p.1=some p.2)∧P c) F N ⟨c₀,rfl,rfl,hk,hp⟩ ?_ hE
 rintro n m₁ nx h tk F₁ N₁ ⟨c,rfl,rfl,h1,hp'⟩
 refine wpAny_mono (turn c m₁ h tk (WhPost h₀ L s Led ps (fun c'=>P c'∧μ c'<μ c) Q) ⟨fun _ _ h=>h,fun _ h=>h,fun _ h=>h,fun _ h=>h⟩ hp' (by rw[kstB_self h1];exact F₁) N₁) (fun b s₂ p=> ?_) fun _ _ x=>x
 cases b with
 |false=>simpa using p
 |true=>
  simp only[if_true] at p ⊢
  refine wpAny_mono p (fun f s₃ q=> ?_) fun _ _ x=>x
  cases f with
  |ret v=>exact q
  |brk=>exact q
  |next=>
   obtain ⟨c',h',tk',m',news',rfl,F',N',hn,hk9,hp9,hm9⟩:=q
   exact ⟨h',tk',m',Led c',μ c',rfl,F',fun p hp=>N' p (hn p hp),hm9,c',rfl,rfl,hk9,hp9⟩
  |cont=>
   obtain ⟨c',h',tk',m',news',rfl,F',N',hn,hk9,hp9,hm9⟩:=q
   exact ⟨h',tk',m',Led c',μ c',rfl,F',fun p hp=>N' p (hn p hp),hm9,c',rfl,rfl,hk9,hp9⟩
end
section
variable {prog:Program} {w:World} {A:Around} {E:Value→Shared→Prop} {Q:Flow→Shared→Prop} {s:Shared} {env:Env} {h₀:Heap}
end
section
variable {prog:Program} {w:World} {A:Around} {E:Value→Shared→Prop} {Q:Flow→Shared→Prop} {s:Shared} {env:Env} {h₀:Heap}
end
theorem isList_led {h₀ h:Heap} {L l:Addr} {news:List (Addr×Obj)} {its:Array Value} {c:Nat} (N:News h₀ L h news) (hm:(l,listOf its c)∈news):h.IsList l its:=⟨_,(N _ hm).1,rfl,c,rfl⟩
section
variable {M:Model} {A:Around}
theorem stW {a b c d v Q E s} (h:wpAny M A (exec (Stmt.While a b c d) v) Q E s):wpAny M A (exec (Stmt.While a b c d) v) Q E s:=h
theorem stL {a b Q E s} (h:wpAny M A (binaryOp Operator.LShift a b) Q E s):wpAny M A (binaryOp Operator.LShift a b) Q E s:=h
theorem stV {a b Q E s} (h:wpAny M A (leaving a b) Q E s):wpAny M A (leaving a b) Q E s:=h
theorem stC {a b Q E s} (h:wpAny M A (PySem.call (Value.ref (OfNat.ofNat a)) b) Q E s):wpAny M A (PySem.call (Value.ref (OfNat.ofNat a)) b) Q E s:=h
theorem stA {a b:Prop} (h:a∧b):a∧b:=h
theorem stK {a b c d e f g} (h:LeaveK a b c d e f g):LeaveK a b c d e f g:=h
theorem stF {a b} (h:FnAt a b):FnAt a b:=h
end
noncomputable def vint (v:Int):List Int:=if h:127<v then (v % 128+128)::vint (v / 128) else [v]
termination_by v.toNat
decreasing_by omega
noncomputable def little:Nat→Int→List Int
 |0,_=>[]
 |k+1,v=>v % 256::little k (v / 256)
theorem vint_len (k : Nat) : ∀ v : Int, v < 128 ^ (k + 1) → (vint v).length ≤ k + 1 := by
  induction k with
  | zero => intro v h; rw [vint]; have : ¬ 127 < v := by exact lin (.h 1 (.T Z0 (.c 128)) (.G 1 (.nT (.c 127) Z0))) rfl [] [_] h
            simp [this]
  | succ k ih =>
    intro v h; rw [vint]
    by_cases c : 127 < v
    · simp only [c, dite_true, List.length_cons]
      have := ih (v / 128) (by rw [Int.pow_succ] at h; (exact lin (.h 1 (.T Z2 (.m Z1 128)) (.h 1 (.E (.a (.r 128 Z0) Z3) Z2) (.h 1 (.L (.c 0) Z3) (.G 128 (.T Z0 Z1))))) rfl [] [_, _, _, _] h (Int.mul_ediv_add_emod _ _) (Int.emod_nonneg _ (by decide))))
      exact lin (.h 1 (.l Y0 (.a Y1 (.c 1))) (.G 1 (.l (.a Y0 (.c 1)) (.a (.a Y1 (.c 1)) (.c 1))))) rfl [_, _] [] this
    · simp [c]
theorem vint_ne (v:Int):1≤(vint v).length:=by
 rw[vint];split<;>simp
theorem vint_state {v:Int} {os:List Int} {x:Int} (h1:os++vint x=vint v) (hx:127<x):(os++[x % 128+128])++vint (x / 128)=vint v:=by
 rw[vint] at h1
 simp only[hx,dite_true] at h1
 rw[List.append_assoc,List.singleton_append];exact h1
theorem vint_last {v:Int} {os:List Int} {x:Int} (h1:os++vint x=vint v) (hx:¬ 127<x):os++[x]=vint v:=by
 rw[vint] at h1
 simp only[hx,dite_false] at h1
 exact h1
theorem little_length:∀k v,(little k v).length=k
 |0,_=>rfl
 |k+1,v=>by simp[little,little_length k]
set_option genCtorIdx true in
inductive Flt where
 |index|decode|struct|unasked
deriving DecidableEq
noncomputable def Flt.name:Flt→Str
 | .index=>Str.ofString "IndexError"
 | .decode=>Str.ofString "DecodeError"
 | .struct=>Str.ofString "StructError"
 | .unasked=>Str.ofString "unasked"
noncomputable def rvarK (bs:List Int) (at_:Nat):Nat→Nat→Int→Except Flt (Int×Nat)
 |0,_,_=> .error .decode
 |f+1,k,acc=>match bs[at_+k]? with
  |none=> .error .index
  |some b=>if b<128 then .ok ((acc+b % 128*128 ^ k) % 18446744073709551616,at_+k+1) else rvarK bs at_ f (k+1) (acc+b % 128*128 ^ k)
noncomputable def rvar (bs:List Int) (at_:Nat):Except Flt (Int×Nat):=rvarK bs at_ 10 0 0
noncomputable def RvOut (at_:Nat):Except Flt (Int×Nat)→Str→Int→Int→Prop
 | .ok (v,p),f,x,q=>f=Str.ofString ""∧x=v∧q=(p:Int)
 | .error e,f,x,q=>f=e.name∧x=0∧q=(at_:Int)
theorem rvarK_none {bs:List Int} {at_ i:Nat} {x:Int} (hi:i<10) (h:(bs.length:Int)≤(at_:Int)+(i:Int)):rvarK bs at_ (10 - i) i x= .error .index:=by
 obtain ⟨k,hk⟩:∃k,10 - i=k+1:=⟨9 - i,by exact Nat.le_antisymm (lin (.h 1 (.e (.a Y0 Y2) (.c 10)) (.h 1 (.d (.a Y1 Y2) (.c 9)) (.G 1 (.l Y0 (.a Y1 (.c 1)))))) rfl [_,_,_] [] (sC (lin (.h 1 (.t Y0 (.c 10)) (.G 1 (.l Y0 (.c 10)))) rfl [_] [] hi)) (sC (lin (.h 1 (.t Y0 (.c 10)) (.G 1 (.l Y0 (.c 9)))) rfl [_] [] hi))) (lin (.h 1 (.e (.a Y0 Y2) (.c 9)) (.h 1 (.d (.a Y1 Y2) (.c 10)) (.G 1 (.l (.a Y0 (.c 1)) Y1)))) rfl [_,_,_] [] (sC (lin (.h 1 (.t Y0 (.c 10)) (.G 1 (.l Y0 (.c 9)))) rfl [_] [] hi)) (sC (lin (.h 1 (.t Y0 (.c 10)) (.G 1 (.l Y0 (.c 10)))) rfl [_] [] hi)))⟩
 rw[hk,rvarK,List.getElem?_eq_none (by exact lin (.h 1 (.L Y0 (.a Y1 Y2)) (.G 1 (.l Y0 (.a Y1 Y2)))) rfl [_,_,_] [] h)]
theorem rvarK_some {bs:List Int} {at_ i:Nat} {x:Int} (hi:i<10) (h:¬ (bs.length:Int)≤(at_:Int)+(i:Int)):
  rvarK bs at_ (10 - i) i x=if bs.getD ((at_:Int)+(i:Int)).toNat 0<128 then .ok ((x+bs.getD ((at_:Int)+(i:Int)).toNat 0 % 128*128 ^ i) % 18446744073709551616,at_+i+1)
   else rvarK bs at_ (10 - (i+1)) (i+1) (x+bs.getD ((at_:Int)+(i:Int)).toNat 0 % 128*128 ^ i):=by
 obtain ⟨k,hk⟩:∃k,10 - i=k+1:=⟨9 - i,by exact Nat.le_antisymm (lin (.h 1 (.e (.a Y0 Y2) (.c 10)) (.h 1 (.d (.a Y1 Y2) (.c 9)) (.G 1 (.l Y0 (.a Y1 (.c 1)))))) rfl [_,_,_] [] (sC (lin (.h 1 (.t Y0 (.c 10)) (.G 1 (.l Y0 (.c 10)))) rfl [_] [] hi)) (sC (lin (.h 1 (.t Y0 (.c 10)) (.G 1 (.l Y0 (.c 9)))) rfl [_] [] hi))) (lin (.h 1 (.e (.a Y0 Y2) (.c 9)) (.h 1 (.d (.a Y1 Y2) (.c 10)) (.G 1 (.l (.a Y0 (.c 1)) Y1)))) rfl [_,_,_] [] (sC (lin (.h 1 (.t Y0 (.c 10)) (.G 1 (.l Y0 (.c 9)))) rfl [_] [] hi)) (sC (lin (.h 1 (.t Y0 (.c 10)) (.G 1 (.l Y0 (.c 10)))) rfl [_] [] hi)))⟩
 have e:((at_:Int)+(i:Int)).toNat=at_+i:=by exact Nat.le_antisymm (lin (.h 1 (.E Y0 (.a Y1 Y2)) (.G 1 (.l Y0 (.a Y1 Y2)))) rfl [_,_,_] [] (Int.toNat_of_nonneg (lin (.G 1 (.L (.c 0) (.a Y0 Y1))) rfl [_,_] []))) (lin (.h 1 (.D Y2 (.a Y0 Y1)) (.G 1 (.l (.a Y0 Y1) Y2))) rfl [_,_,_] [] (Int.toNat_of_nonneg (lin (.G 1 (.L (.c 0) (.a Y0 Y1))) rfl [_,_] [])))
 have hlt:at_+i<bs.length:=by exact lin (.h 1 (.nL Y2 (.a Y0 Y1)) (.G 1 (.t (.a Y0 Y1) Y2))) rfl [_,_,_] [] h
 rw[hk,rvarK,e,List.getD_eq_getElem?_getD,List.getElem?_eq_getElem hlt,show 10 - (i+1)=k by (exact Nat.le_antisymm (lin (.h 1 (.e Y2 (.a Y1 (.c 1))) (.h 1 (.e (.a Y0 (.a Y3 (.c 1))) (.c 10)) (.h 1 (.d (.a Y2 Y3) (.c 10)) (.G 1 (.l Y0 Y1))))) rfl [_,_,_,_] [] hk (sC (lin (.h 1 (.t Y0 (.c 10)) (.G 1 (.l (.a Y0 (.c 1)) (.c 10)))) rfl [_] [] hi)) (sC (lin (.h 1 (.t Y0 (.c 10)) (.G 1 (.l Y0 (.c 10)))) rfl [_] [] hi))) (lin (.h 1 (.d Y2 (.a Y0 (.c 1))) (.h 1 (.d (.a Y1 (.a Y3 (.c 1))) (.c 10)) (.h 1 (.e (.a Y2 Y3) (.c 10)) (.G 1 (.l Y0 Y1))))) rfl [_,_,_,_] [] hk (sC (lin (.h 1 (.t Y0 (.c 10)) (.G 1 (.l (.a Y0 (.c 1)) (.c 10)))) rfl [_] [] hi)) (sC (lin (.h 1 (.t Y0 (.c 10)) (.G 1 (.l Y0 (.c 10)))) rfl [_] [] hi))))];rfl
theorem little_state {v0:Int}:∀{i:Nat} {n:Nat} {os:List Int} {x:Int},os++little (n - i) x=little n v0→i<n→(os++[x % 256])++little (n - (i+1)) (x / 256)=little n v0:=by
 intro i n os x h hi
 obtain ⟨k,hk⟩:∃k,n - i=k+1:=⟨n - i - 1,by exact Nat.le_antisymm (lin (.h 1 (.d (.a Y1 (.c 1)) Y0) (.G 1 (.l Y0 (.a Y1 (.c 1))))) rfl [_,_] [] (sC (lin (.h 1 (.t Y1 Y2) (.h 1 (.d (.a Y0 Y1) Y2) (.G 1 (.l (.c 1) Y0)))) rfl [_,_,_] [] hi (sC (lin (.h 1 (.t Y0 Y1) (.G 1 (.l Y0 Y1))) rfl [_,_] [] hi))))) ((Nat.le_total _ _).elim (fun e30=>lin (.h 1 (.e (.a Y0 (.c 1)) Y1) (.G 1 (.l (.a Y0 (.c 1)) Y1))) rfl [_,_] [] (sC (lin (.h 1 (.l (.c 1) Y0) (.G 1 (.l (.c 1) Y0))) rfl [_] [] e30))) (fun e30=>lin (.h 1 (.t Y2 Y3) (.h 1 (.e Y0 (.c 0)) (.h 1 (.d (.a Y1 Y2) Y3) (.G 1 (.l (.a Y0 (.c 1)) Y1))))) rfl [_,_,_,_] [] hi (Nat.sub_eq_zero_of_le (lin (.h 1 (.l Y0 (.c 1)) (.G 1 (.l Y0 (.c 1)))) rfl [_] [] e30)) (sC (lin (.h 1 (.t Y0 Y1) (.G 1 (.l Y0 Y1))) rfl [_,_] [] hi))))⟩
 rw[hk,little] at h
 rw[show n - (i+1)=k by exact Nat.le_antisymm (lin (.h 1 (.e Y2 (.a Y1 (.c 1))) (.h 1 (.e (.a Y0 (.a Y3 (.c 1))) Y4) (.h 1 (.d (.a Y2 Y3) Y4) (.G 1 (.l Y0 Y1))))) rfl [_,_,_,_,_] [] hk (sC (lin (.h 1 (.t Y0 Y1) (.G 1 (.l (.a Y0 (.c 1)) Y1))) rfl [_,_] [] hi)) (sC (lin (.h 1 (.t Y0 Y1) (.G 1 (.l Y0 Y1))) rfl [_,_] [] hi))) (lin (.h 1 (.d Y2 (.a Y0 (.c 1))) (.h 1 (.d (.a Y1 (.a Y3 (.c 1))) Y4) (.h 1 (.e (.a Y2 Y3) Y4) (.G 1 (.l Y0 Y1))))) rfl [_,_,_,_,_] [] hk (sC (lin (.h 1 (.t Y0 Y1) (.G 1 (.l (.a Y0 (.c 1)) Y1))) rfl [_,_] [] hi)) (sC (lin (.h 1 (.t Y0 Y1) (.G 1 (.l Y0 Y1))) rfl [_,_] [] hi))),List.append_assoc,List.singleton_append];exact h
noncomputable abbrev tupO (vs:List Value):Obj:={cls:= .type "tuple",data:= .seq vs.toArray}
local macro_rules | `(tactic| k_all) => `(tactic| with_reducible assumption)
local macro_rules | `(tactic| k_mem) => `(tactic| first | with_reducible assumption | ((repeat (with_reducible refine List.Mem.tail _ ?_)); with_reducible assumption) | with_reducible_and_instances assumption)
local macro_rules | `(tactic| walk_at "go") => `(tactic| repeat' (first
   | (k_unfold; (try dsimp only))
   | ((fail_if_success (with_reducible first | apply stW | apply stL | apply stV | apply stC)); (fail_if_success k_end); first | walk1 | (dsimp only; walk1))
   | ((with_reducible first | apply stA | apply stK | apply stF); walk1)
   | ((with_reducible first | refine WhK.rt (by assumption) _ _ ?_ | refine WhK.bk (by assumption) _ ?_); (try dsimp only))))
local macro_rules | `(tactic| walk_at "in") => `(tactic| all_goals (first | k_is | exact BindsTo.of_eq rfl | exact binds_K (by k_in) rfl (by k_is) rfl rfl rfl | exact locs rfl | exact rfl | decide | skip))
local macro_rules | `(tactic| k_room) => `(tactic| ((try simp only [depth_mark, depth_under_make, depth_under_kw, depth_in1, depth_deeper]); (try dsimp only [ktrTop]); omega))
theorem triples_snoc {a b:Int} {c:Value}:∀l:List Value,TriplesOk l→TriplesOk (l++[rawInt a,rawInt b,c])
 |[],_=>by simp[TriplesOk,rawInt]
 | .int _ _:: .int _ _::_::rest,h=>triples_snoc rest h
theorem among_other {pos q:Pos} {c:Value} (hq:¬ (q.line=pos.line∧q.col=pos.col)):∀l:List Value,TriplesOk l→codeAmong q (l++[rawInt pos.line,rawInt pos.col,c])=codeAmong q l
 |[],_=>by
  have:¬ ((pos.line:Int)=(q.line:Int)∧(pos.col:Int)=(q.col:Int)):=fun h=>hq ⟨by exact Nat.le_antisymm (lin (.h 1 (.D Y1 Y0) (.G 1 (.l Y0 Y1))) rfl [_,_] [] h.1) (lin (.h 1 (.E Y0 Y1) (.G 1 (.l Y0 Y1))) rfl [_,_] [] h.1),by exact Nat.le_antisymm (lin (.h 1 (.D Y1 Y0) (.G 1 (.l Y0 Y1))) rfl [_,_] [] h.2) (lin (.h 1 (.E Y0 Y1) (.G 1 (.l Y0 Y1))) rfl [_,_] [] h.2)⟩
  simp only[List.nil_append,codeAmong,rawInt]
  rw[if_neg];simpa using this
 | .int a _:: .int b _::c'::rest,h=>by
  simp only[List.cons_append,codeAmong]
  split
  ·rfl
  ·exact among_other hq rest h
noncomputable def CodeAt9 (ps:Array Value) (fz:List (Addr×Obj)) (pos:Pos) (qual:Str):Prop:=
 ∃c' oc vs t,codeAmong pos ps.toList=some (.ref c')∧(c',oc)∈fz∧oc.data= .fields vs∧vs[1]? =some (.str qual t)
structure TabOk (ps:Array Value) (fz:List (Addr×Obj)) (spec:List (Pos×Str)):Prop where
 tri:TriplesOk ps.toList
 ent:∀q∈spec,codeAmong q.1 ps.toList=none∨CodeAt9 ps fz q.1 q.2
theorem CodeAt9.mono {ps:Array Value} {fz fz':List (Addr×Obj)} {pos:Pos} {qual:Str} (h:CodeAt9 ps fz pos qual) (hs:∀p∈fz,p∈fz'):CodeAt9 ps fz' pos qual:=
 Exists.imp (fun _=>Exists.imp fun _=>Exists.imp fun _=>Exists.imp fun _ y=>⟨y.1,hs _ y.2.1,y.2.2⟩) h
theorem TabOk.mono {ps:Array Value} {fz fz':List (Addr×Obj)} {spec:List (Pos×Str)} (h:TabOk ps fz spec) (hs:∀p∈fz,p∈fz'):TabOk ps fz' spec:=
 ⟨h.tri,fun q hq=>(h.ent q hq).imp id fun x=>x.mono hs⟩
theorem TabOk.empty (fz:List (Addr×Obj)) (spec:List (Pos×Str)):TabOk #[] fz spec:=⟨trivial,fun _ _=> .inl rfl⟩
theorem TabOk.grow {ps:Array Value} {fz:List (Addr×Obj)} {spec:List (Pos×Str)} {pos:Pos} {qual:Str} {c':Addr} {oc:Obj} {vs:Array Value} {t:Tok} (h:TabOk ps fz spec) (hn:codeAmong pos ps.toList=none)
  (hu:∀q∈spec,q.1.line=pos.line∧q.1.col=pos.col→q.1=pos∧q.2=qual) (hd:oc.data= .fields vs) (hv:vs[1]? =some (.str qual t)):TabOk (ps++ #[rawInt pos.line,rawInt pos.col,.ref c']) ((c',oc)::fz) spec:=by
 refine ⟨by simpa using triples_snoc _ h.tri,fun q hq=> ?_⟩
 by_cases e:q.1.line=pos.line∧q.1.col=pos.col
 ·obtain ⟨e1,e2⟩:=hu q hq e
  exact .inr ⟨c',oc,vs,t,by rw[e1];simpa using codeAmong_snoc _ h.tri hn,.head _,hd,by rw[e2];exact hv⟩
 ·have e3:codeAmong q.1 (ps++ #[rawInt pos.line,rawInt pos.col,.ref c']).toList=codeAmong q.1 ps.toList:=by simpa using among_other (c:= .ref c') e _ h.tri
  refine (h.ent q hq).imp (fun x=>by rw[e3];exact x) fun x=>Exists.imp (fun _=>Exists.imp fun _=>Exists.imp fun _=>Exists.imp fun _ y=>⟨e3.trans y.1,.tail _ y.2.1,y.2.2⟩) x
theorem updF_self {d:Addr} {o:Obj} {l:List (Addr×Obj)} {g:Obj→List (Addr×Obj)} (U:UpdF d o l g):g o=l:=by
 obtain ⟨pre,post,h1,h2,_,_⟩:=U.split;rw[h2,h1]
section
variable {M:Model} {A:Around} {E:Value→Shared→Prop} {s:Shared} {h₀:Heap} {L a c P:Addr} {m mg mb:Str→Option Value} {cn:Str} {cs:Scope} {ccd:Value} {cl:List (Str×Addr)} {news fz:List (Addr×Obj)} {g:Obj→List (Addr×Obj)}
 {p:Program} {loose:List Str} {mean:ExcName→Option Value} {name qual:Str} {params:Arguments} {scope:Scope} {ps:Array Value} {pos:Pos} {firstLine:Nat} {clos:List (Str×Addr)} {spec:List (Pos×Str)}
theorem tab_def {body:List Stmt} {Q:Value→Shared→Prop} (F:Fr h₀ L s.heap m) (N:News h₀ L s.heap news) (T:Top p loose mean mg mb h₀) (C:CodeHd h₀ c P) (hcd:ccd= .ref c) (U:UpdF P (tabObj ps) news g) (ht:TabOk ps fz spec)
  (hfz:∀p∈fz,p∈news) (q0:Str) (hq0:qual=q0) (hsp:(pos,q0)∈spec) (hu:∀q∈spec,q.1.line=pos.line∧q.1.col=pos.col→q.1=pos∧q.2=q0)
  (hcl:closureFor scope (envX cn cs L a ccd cl)=pure clos)
  (h:∀f c' oc vs t ctv doc h' tk ps' tl,Fr h₀ L h' m→
   News h₀ L h' ((f,fnMade name qual params body scope clos doc ((mg "__name__").getD .none) c' ctv)::(tl++g (tabObj ps')))→TabOk ps' (tl++fz) spec→(c',oc)∈tl++fz→
   oc.data= .fields vs→vs[1]? =some (.str qual t)→(∀q∈news,∀p∈tl,q.1<p.1)→(∀q∈tl,q.1<f)→(∀q∈news,q.1<f)→Q (.ref f) {s with heap:=h',toks:=tk}):
  wpAny M A (makeFunction name qual params (.stmts body) scope (envX cn cs L a ccd cl) [] [] [] pos firstLine) Q E s:=by
 subst hq0
 rcases ht.ent _ hsp with hn|⟨c',oc,vs,t,h1,h2,h3,h4⟩
 ·refine nest_K F N T C hcd U ht.tri hn hcl fun f c' oc vs t ctv doc h' tk F' N' hd hv l1 l2=> ?_
  refine h f c' oc vs t ctv doc h' tk _ [(c',oc)] F' N' (ht.grow hn hu hd hv) (.head _) hd hv ?_ ?_ ?_
  ·intro q hq p hp;rw[List.mem_singleton.mp hp];exact l1 q hq
  ·intro q hq;rw[List.mem_singleton.mp hq];exact l2
  ·intro q hq;exact Nat.lt_trans (l1 q hq) l2
 ·obtain ⟨pre,post,e1,e2,_,_⟩:=U.split
  refine nestHit_K F N T C hcd (by rw[e1];exact mR _ (.head _)) ht.tri h1 hcl fun f ctv doc h' tk F' N' l1=> ?_
  refine h f c' oc vs t ctv doc h' tk ps [] F' ?_ ht h2 h3 h4 ?_ ?_ l1
  ·rw[List.nil_append,updF_self U];exact N'
  ·intro q hq p hp;cases hp
  ·intro q hq;cases hq
theorem tab_lam {body:Expr} {Q:Value→Shared→Prop} (F:Fr h₀ L s.heap m) (N:News h₀ L s.heap news) (T:Top p loose mean mg mb h₀) (C:CodeHd h₀ c P) (hcd:ccd= .ref c) (U:UpdF P (tabObj ps) news g) (ht:TabOk ps fz spec)
  (hfz:∀p∈fz,p∈news) (q0:Str) (hq0:qual=q0) (hsp:(pos,q0)∈spec) (hu:∀q∈spec,q.1.line=pos.line∧q.1.col=pos.col→q.1=pos∧q.2=q0)
  (hcl:closureFor scope (envX cn cs L a ccd cl)=pure clos)
  (h:∀f c' oc vs t ctv h' tk ps' tl,Fr h₀ L h' m→
   News h₀ L h' ((f,kla_obj name qual params body scope clos ((mg "__name__").getD .none) c' ctv)::(tl++g (tabObj ps')))→TabOk ps' (tl++fz) spec→(c',oc)∈tl++fz→
   oc.data= .fields vs→vs[1]? =some (.str qual t)→(∀q∈news,∀p∈tl,q.1<p.1)→(∀q∈tl,q.1<f)→(∀q∈news,q.1<f)→Q (.ref f) {s with heap:=h',toks:=tk}):
  wpAny M A (makeFunction name qual params (.expr body) scope (envX cn cs L a ccd cl) [] [] [] pos firstLine) Q E s:=by
 subst hq0
 rcases ht.ent _ hsp with hn|⟨c',oc,vs,t,h1,h2,h3,h4⟩
 ·refine kla_nest F N T C hcd U ht.tri hn hcl fun f c' oc vs t ctv h' tk F' N' hd hv l1 l2=> ?_
  refine h f c' oc vs t ctv h' tk _ [(c',oc)] F' N' (ht.grow hn hu hd hv) (.head _) hd hv ?_ ?_ ?_
  ·intro q hq p hp;rw[List.mem_singleton.mp hp];exact l1 q hq
  ·intro q hq;rw[List.mem_singleton.mp hq];exact l2
  ·intro q hq;exact Nat.lt_trans (l1 q hq) l2
 ·obtain ⟨pre,post,e1,e2,_,_⟩:=U.split
  refine kla_hit F N T C hcd (by rw[e1];exact mR _ (.head _)) ht.tri h1 hcl fun f ctv h' tk F' N' l1=> ?_
  refine h f c' oc vs t ctv h' tk ps [] F' ?_ ht h2 h3 h4 ?_ ?_ l1
  ·rw[List.nil_append,updF_self U];exact N'
  ·intro q hq p hp;cases hp
  ·intro q hq;cases hq
end
noncomputable def vdSpec:List (Pos×Str):=[(⟨147,4,159,73⟩,Str.ofString "_VarintDecoder.<locals>.DecodeVarint")]
noncomputable def vbSpec:List (Pos×Str):=[(⟨140,18,140,52⟩,Str.ofString "_VarintBytes.<locals>.<lambda>")]
noncomputable def eqSpec:List (Pos×Str):=[(⟨87,36,87,69⟩,Str.ofString "UnknownFieldSet.__eq__.<locals>.<lambda>"),(⟨88,49,88,82⟩,Str.ofString "UnknownFieldSet.__eq__.<locals>.<lambda>")]
section
variable {prog:Program} {w:World} {A:Around} {E:Value→Shared→Prop} {s:Shared} {t u:Tok}
theorem getItem_bytes_out {l:List UInt8} {i:Int} {Q:Value→Shared→Prop} (hA:A.handled=none) (hout:(l.length:Int)≤i) (hhi:i<2 ^ 63)
  (hE:∀h' tk e,Heap.NewExc s.heap h' e "IndexError"→E (.ref e) {s with heap:=h',toks:=tk}):wpAny (model prog w) A (getItem (.bytes l.toArray t) (.int i u)) Q E s:=by
 have hT:s.TypeIs (.bytes l.toArray t) "bytes":=typeIs_bytes s _ t
 unfold getItem
 try with_reducible refine wpAny_holding ?_
 first|refine wpAny_bind (wpAny_sequenceKey hT (by decide) ?_)|refine wpAny_bind (wpAny_pure ?_)|skip
 refine wpAny_bind (wpAny_callSpecial?_slot (name:=Str.ofString "__getitem__") hT FB.slot_bytes_getitem
  (wpAny_call_entry FB.slot_bytes_getitem hT FB.entry_bytes_getitem ?_ (FB.args_bytes_getitem_2 _ _)))
 show wpAny _ _ (Builtin.Bytes.subscript? (.int i u)>>=fun r=>_) _ _ s
 refine wpAny_bind ?_
 unfold Builtin.Bytes.subscript?
 refine wpAny_bind (wpAny_specialOf (typeIs_int s i u) F.slot_int_index.lookup ?_)
 show wpAny _ _ (if (!Builtin.Bytes.fitsIndex i)=true then _ else pure (some i)) _ _ s
 have hf:Builtin.Bytes.fitsIndex i=true:=by simp only[Builtin.Bytes.fitsIndex,Bool.and_eq_true,decide_eq_true_eq];(exact ⟨lin (.h 1 (.L Y0 Z0) (.G 1 (.L (.n (.c 9223372036854775808)) Z0))) rfl [_] [_] hout,lin (.h 1 (.T Z0 (.c 9223372036854775808)) (.G 1 (.T Z0 (.c 9223372036854775808)))) rfl [] [_] hhi⟩)
 rw[hf]
 refine wpAny_pure ?_
 show wpAny _ _ (match (seqIndex? i l.toArray.size).bind (l.toArray[·]?) with|some x=>retInt x.toNat|none=>_) _ _ s
 have hn:(seqIndex? i l.toArray.size).bind (l.toArray[·]?)=none:=by
  have h0:¬ i<0:=by exact lin (.h 1 (.L Y0 Z0) (.G 1 (.nT Z0 (.c 0)))) rfl [_] [_] hout
  have h1:¬ i<(l.length:Int):=by exact lin (.h 1 (.L Y0 Z0) (.G 1 (.nT Z0 Y0))) rfl [_] [_] hout
  simp[seqIndex?,h0,h1]
 rw[hn]
 first
  |exact wpAny_bind (wpAny_rule (by exact_raiseError plainExc_IndexError hA hE))
  |exact wpAny_bind (wpAny_rule (wpAny_bind (by exact_raiseError plainExc_IndexError hA hE)))
  |exact wpAny_bind (wpAny_bind (wpAny_rule (by exact_raiseError plainExc_IndexError hA hE)))
  |exact wpAny_rule (by exact_raiseError plainExc_IndexError hA hE)
theorem item_bytes_out {value slice:PySem.Expr} {l:List UInt8} {i:Int} {Q:Value→Shared→Prop} (hA:A.handled=none) (hout:(l.length:Int)≤i) (hhi:i<2 ^ 63)
  (hE:∀h' tk e,Heap.NewExc s.heap h' e "IndexError"→E (.ref e) {s with heap:=h',toks:=tk})
  (hs:subscripted slice false (.bytes l.toArray t) (.int i u)=operate [.bytes l.toArray t,.int i u] (getItem (.bytes l.toArray t) (.int i u)):=by with_unfolding_all rfl):
  wpAny (model prog w) A (subscriptTail value slice (.bytes l.toArray t) (.int i u)) Q E s:=
 tail_any (typeIs_bytes s _ t) FB.slot_bytes_getitem.lookup (getItem_bytes_out hA hout hhi hE) hs
end
noncomputable abbrev ub (l:List UInt8):List Int:=l.map fun b=>(b.toNat:Int)
theorem ub_length (l:List UInt8):(ub l).length=l.length:=List.length_map ..
theorem ub_getD (l:List UInt8) (i:Nat):((l.getD i 0).toNat:Int)=(ub l).getD i 0:=by
 simp only[List.getD_eq_getElem?_getD,ub,List.getElem?_map]
 cases l[i]? <;>simp
section
theorem inFrames {env:Env} {outer:List Env} {L b:Addr} (hf:env.frame=some L) (hm:b∈(env::outer).filterMap (·.frame)):b=L∨b∈outer.filterMap (·.frame):=by
 obtain ⟨v,hv,hb⟩:=List.mem_filterMap.mp hm
 rcases List.mem_cons.mp hv with rfl|hv
 ·rw[hf] at hb;exact .inl (Option.some.inj hb).symm
 ·exact .inr (List.mem_filterMap.mpr ⟨v,hv,hb⟩)
variable {M:Model} {A:Around} {E:Value→Shared→Prop} {s':Shared} {base g g₂ h:Heap} {outer:List Env} {env:Env} {L e t:Addr} {m:Str→Option Value} {Q:Unit→Shared→Prop} {led:List (Addr×Obj)}
structure Bared (base g h B:Heap) (env:Env) (outer:List Env) (led:List (Addr×Obj)):Prop where
 st:base.StaysIn B
 sg:∀b o,g.get? b=some o→b∉outer.filterMap (·.frame)→B.get? b=some o
 hl:∀q∈led,B.get? q.1=some q.2∧g.get? q.1=none∧base.get? q.1=none
theorem bared (K:Below A base outer g) (F:Fr g L h m) (N:News g L h led) (hf:env.frame=some L) (hk:env.scope.kind= .function):
  Bared base g h (hideAll h ((env::outer).filterMap (·.frame))) env outer led:=by
 have K':=pushX K F hf hk
 refine ⟨fun b o q=>hideAll_get _ (K'.stays b o q) fun hm=> ?_,fun b o q nm=>hideAll_get _ (F.keep b o q) fun hm=> ?_,fun q hq=>⟨hideAll_get _ (N q hq).1 fun hm=> ?_,(N q hq).2.2,fresh_of_stays K.stays (N q hq).2.2⟩⟩
 ·rw[(K'.frames.mem hm).1] at q;cases q
 ·rcases inFrames hf hm with z|z
  ·rw[z,kts_self F] at q;cases q
  ·exact nm z
 ·rcases inFrames hf hm with z|z
  ·exact (N q hq).2.1 z
  ·obtain ⟨o,ho,_⟩:=(K.frames.mem z).2
   rw[(N q hq).2.2] at ho;cases ho
theorem leave_newE {cls:String} (K:Below A base outer g) (hx:Heap.NewExc h s'.heap e cls) (F:Fr g L h m) (N:News g L h led) (hf:env.frame=some L) (hk:env.scope.kind= .function)
  (hQ:∀h',RaisedSN base g outer e (.type cls) led h'→g.UpToSlots h'→Q () {s' with heap:=h'}):wpAny M (A.deeper env) (leaving env (.ref e)) Q E s':=by
 have K':=pushX K F hf hk
 have W:=bared K F N hf hk
 have hin:∀v∈(env::outer),∀b,v.frame=some b→b∈(env::outer).filterMap (·.frame):=fun v he b hb=>List.mem_filterMap.mpr ⟨v,he,hb⟩
 obtain ⟨ob,tp,he,hcls,hd⟩:=hx.there
 have hen:(hideAll h ((env::outer).filterMap (·.frame))).get? e=none:=by
  cases q:(hideAll h ((env::outer).filterMap (·.frame))).get? e with
  |none=>rfl
  |some o=>have:=of_hideAll _ q;rw[hx.new] at this;cases this
 refine wpAny_leaving_firstW (a0:=tp) K'.stack ((funFrames_hide K'.frames hin).of_keeps fun b o hb _=>⟨o,hx.keeps b o hb,rfl⟩) hf he (fun b o hb=>hx.keeps b o (of_hideAll _ hb)) hen hd rfl rfl fun h' hL=> ?_
 obtain ⟨k1,⟨_,_,k2⟩,k3,k4⟩:=hL
 exact hQ h' ⟨_,tp,W.st,W.sg,W.hl,k1,hen,k2,by rw[←hcls];exact k3⟩ (((Heap.UpToSlots.of_keeps F.keep).trans (Heap.UpToSlots.of_keeps hx.keeps)).trans k4)
theorem leave_madeE {cls:Value} {vs:List Value} (K:Below A base outer g) (hx:Heap.MadeExcOf h s'.heap e cls vs) (F:Fr g L h m) (N:News g L h led) (hf:env.frame=some L) (hk:env.scope.kind= .function)
  (hQ:∀h' t,RaisedS base g outer e cls t vs led h'→g.UpToSlots h'→Q () {s' with heap:=h'}):wpAny M (A.deeper env) (leaving env (.ref e)) Q E s':=by
 have K':=pushX K F hf hk
 have W:=bared K F N hf hk
 have hin:∀v∈(env::outer),∀b,v.frame=some b→b∈(env::outer).filterMap (·.frame):=fun v he b hb=>List.mem_filterMap.mpr ⟨v,he,hb⟩
 exact wpAny_leaves_madeW K'.stack hf (fun b o q=>of_hideAll _ q) (funFrames_hide K'.frames hin) hx fun h' t x1 x2 x3 x4=>
  hQ h' t ⟨⟨_,W.st,W.sg,W.hl,x1,x3⟩,x2⟩ (((Heap.UpToSlots.of_keeps F.keep).trans (Heap.UpToSlots.of_keeps hx.keeps)).trans x4)
theorem leave_onNE {cls:Value} (K:Below A base outer g) (F:Fr g L g₂ m) (hf:env.frame=some L) (R:RaisedSN base g₂ (env::outer) e cls led s'.heap) (hsm:g₂.UpToSlots s'.heap)
  (hQ:∀h',RaisedSN base g outer e cls led h'→g.UpToSlots h'→Q () {s' with heap:=h'}):wpAny M (A.deeper env) (leaving env (.ref e)) Q E s':=by
 obtain ⟨B,a0,hB,hBG,hl,hfl⟩:=R
 exact wpAny_leaves_onW (Around.frames_deeper K.stack) hf hfl fun h' x1 x2=>
  hQ h' ⟨B,a0,hB,fun b o q nm=>hBG b o (F.keep b o q) (fun hm=>by
   rcases inFrames hf hm with z|z
   ·rw[z,kts_self F] at q;cases q
   ·exact nm z),fun q hq=>⟨(hl q hq).1,kts_none F.keep (hl q hq).2.1,(hl q hq).2.2⟩,x1⟩ ((Heap.UpToSlots.of_keeps F.keep).trans (hsm.trans x2))
theorem leave_onE {cls:Value} {vs:List Value} (K:Below A base outer g) (F:Fr g L g₂ m) (hf:env.frame=some L) (R:RaisedS base g₂ (env::outer) e cls t vs led s'.heap) (hsm:g₂.UpToSlots s'.heap)
  (hQ:∀h',RaisedS base g outer e cls t vs led h'→g.UpToSlots h'→Q () {s' with heap:=h'}):wpAny M (A.deeper env) (leaving env (.ref e)) Q E s':=by
 obtain ⟨⟨B,hB,hBG,hl,hfl,hnew⟩,htup⟩:=R
 exact wpAny_leaves_onW (Around.frames_deeper K.stack) hf hfl fun h' x1 x2=>
  hQ h' ⟨⟨B,hB,fun b o q nm=>hBG b o (F.keep b o q) (fun hm=>by
   rcases inFrames hf hm with z|z
   ·rw[z,kts_self F] at q;cases q
   ·exact nm z),fun q hq=>⟨(hl q hq).1,kts_none F.keep (hl q hq).2.1,(hl q hq).2.2⟩,x1,hnew⟩,htup.of_slots x2⟩ ((Heap.UpToSlots.of_keeps F.keep).trans (hsm.trans x2))
noncomputable def Thrown (base G:Heap) (l:List Env) (fl:Flt) (e:Addr) (led:List (Addr×Obj)) (h:Heap):Prop:=match fl with
 | .index=>RaisedSN base G l e (.type "IndexError") led h
 | .decode=>∃t vs,RaisedS base G l e (.ref 208) t vs led h
 | .struct=>∃t vs,RaisedS base G l e (.ref 232) t vs led h
 | .unasked=>False
theorem Thrown.sub {base G:Heap} {l:List Env} {fl:Flt} {e:Addr} {led led':List (Addr×Obj)} {h:Heap} (x:Thrown base G l fl e led h) (hs:∀p∈led',p∈led):Thrown base G l fl e led' h:=by
 cases fl with
 |index=>obtain ⟨B,a0,hB,hBG,hl,hfl⟩:=x;exact ⟨B,a0,hB,hBG,fun q hq=>hl q (hs q hq),hfl⟩
 |decode=>obtain ⟨t,vs,⟨B,hB,hBG,hl,hfl,hnew⟩,htup⟩:=x;exact ⟨t,vs,⟨B,hB,hBG,fun q hq=>hl q (hs q hq),hfl,hnew⟩,htup⟩
 |struct=>obtain ⟨t,vs,⟨B,hB,hBG,hl,hfl,hnew⟩,htup⟩:=x;exact ⟨t,vs,⟨B,hB,hBG,fun q hq=>hl q (hs q hq),hfl,hnew⟩,htup⟩
 |unasked=>exact x
theorem leave_thrown {fl:Flt} (K:Below A base outer g) (F:Fr g L g₂ m) (hf:env.frame=some L) (R:Thrown base g₂ (env::outer) fl e led s'.heap) (hsm:g₂.UpToSlots s'.heap)
  (hQ:∀h',Thrown base g outer fl e led h'→g.UpToSlots h'→Q () {s' with heap:=h'}):wpAny M (A.deeper env) (leaving env (.ref e)) Q E s':=by
 cases fl with
 |index=>exact leave_onNE K F hf R hsm hQ
 |decode=>obtain ⟨t,vs,R⟩:=R;exact leave_onE K F hf R hsm fun h' x=>hQ h' ⟨t,vs,x⟩
 |struct=>obtain ⟨t,vs,R⟩:=R;exact leave_onE K F hf R hsm fun h' x=>hQ h' ⟨t,vs,x⟩
 |unasked=>exact R.elim
end
section
variable {M:Model} {A:Around} {E:Value→Shared→Prop} {s:Shared} {h₀:Heap} {L a:Addr} {m:Str→Option Value} {cn:Str} {cs:Scope} {ccd:Value} {cl:List (Str×Addr)} {x:Str} {v:Value} {Q:Value→Shared→Prop}
theorem loadX_L (F:Fr h₀ L s.heap m) (hv:m x=some v) (h:Q v s) (hk:cs.kind= .function:=by rfl) (hx:(envX cn cs L a ccd cl).kindOf x=some .local:=by rfl):wpAny M A (loadName (envX cn cs L a ccd cl) x) Q E s:=
 wpAny_loadName_local hk hx F.ns hv h
end
section
variable {prog:Program} {w:World} {A:Around} {E:Value→Shared→Prop} {s:Shared} {K:Frag} {h₀:Heap} {L a C:Addr} {m mg mb:Str→Option Value} {cn:Str} {cs:Scope} {ccd:Value} {cl:List (Str×Addr)} {p:Program} {loose:List Str}
 {x:Str} {np cpos pos:Pos} {Q:Flow→Shared→Prop}
theorem RaiseX_own {e₀:Expr} {rest:List Expr} (F:Fr h₀ L s.heap m) (X:K.In h₀) (T:TopRead p loose mg mb h₀) (en:nsIn K mainGlobals x=some (some (.ref C))) (ex:excIn K C [.type "Exception",.type "BaseException",.type "object"] "Exception.__new__"=true) (hh:A.handled=none)
  (h:wpAny (model prog w) A (spliced (backTo cpos (starEach (e₀::rest) (envX cn cs L a ccd cl)))) (fun vs s₂=>vs.length≤sizeLine∧(∀b o,h₀.get? b=some o→s₂.heap.get? b=some o)∧
   ∀h' e,Heap.MadeExcOf s₂.heap h' e (.ref C) vs→E (.ref e) {s₂ with heap:=h'}) E s)
  (he:starEach (e₀::rest) (envX cn cs L a ccd cl)=(false,eval e₀ (envX cn cs L a ccd cl))::starEach rest (envX cn cs L a ccd cl):=by rfl)
  (hplain:(backTo cpos (starEach rest (envX cn cs L a ccd cl))).any (·.1)=false:=by rfl)
  (hk:cs.kind= .function:=by rfl) (hx:(envX cn cs L a ccd cl).kindOf x=some .globalImplicit:=by rfl) (hd:(x==("__debug__":Str))=false:=by decide):
  wpAny (model prog w) A (exec (.Raise (some (.Call (.Name x np) (e₀::rest) [] cpos)) none pos) (envX cn cs L a ccd cl)) Q E s:=by
 obtain ⟨tl,N,nm,q,bs,hdct,sn,sub,ab,col,dd,k0,k1,k2,k3,k5,mN,hC,hN,hni,TT⟩:=(own_of_in X T en ex).obj
 refine wpAny_Raise_call_subT (C:=C) (nm:=nm) (q:=q) (N:=N) (bs:=bs) (bm:=tl) (hdct:=hdct) (sn:=sn) (sub:=sub) (ab:=ab) (col:=col) (dd:=dd) (k0:=k0) (k1:=k1) (k2:=k2) (k3:=k3) (k5:=k5)
  PySem.F.excBase_Exception (mN:=mN) (TT.hasType PySem.F.excBase_Exception.hasBase) hh (by rw[he];show (false||(backTo cpos (starEach rest (envX cn cs L a ccd cl))).any (·.1))=false;rw[hplain];rfl) hni (nameX_K F X T en ⟨rfl,?_⟩ hk hx hd)
 rw[he] at h ⊢
 exact Calls.evalArgs_plain (wpAny_mono h (fun vs s₂ h₂=>⟨rfl,h₂.1,h₂.2.1 _ _ hC,hN.keeps h₂.2.1,TT.keeps h₂.2.1,h₂.2.2⟩) fun _ _ y=>y)
end
theorem stR {M:Model} {A:Around} {a b c d e f g h i j k l Q E s} (y:wpAny M A (exec (Stmt.Raise (some (Expr.Call (Expr.Name a b) (c::d) [] e)) none f) (envX g h i j k l)) Q E s):wpAny M A (exec (Stmt.Raise (some (Expr.Call (Expr.Name a b) (c::d) [] e)) none f) (envX g h i j k l)) Q E s:=y
theorem nat_and_high {x z k:Nat} (h:x<2 ^ k):x &&& (z*2 ^ k)=0:=by
 apply Nat.eq_of_testBit_eq
 intro i
 rw[Nat.testBit_and,Nat.testBit_mul_two_pow,Nat.zero_testBit]
 by_cases hi:k≤i
 ·rw[Nat.testBit_lt_two_pow (Nat.lt_of_lt_of_le h (Nat.pow_le_pow_right (by decide) hi))];rfl
 ·simp[hi]
theorem pow128 (k:Nat):(2:Int) ^ (7*(k:Int)).toNat=128 ^ k:=by
 have:(7*(k:Int)).toNat=7*k:=by exact Nat.le_antisymm (lin (.h 1 (.E Y0 (.r 7 Y1)) (.G 1 (.l Y0 (.r 7 Y1)))) rfl [_,_] [] (Int.toNat_of_nonneg (lin (.G 1 (.L (.c 0) (.r 7 Y0))) rfl [_] []))) (lin (.h 1 (.D Y1 (.r 7 Y0)) (.G 1 (.l (.r 7 Y0) Y1))) rfl [_,_] [] (Int.toNat_of_nonneg (lin (.G 1 (.L (.c 0) (.r 7 Y0))) rfl [_] [])))
 rw[this,Int.pow_mul];rfl
theorem or_high {x y:Int} {k:Nat} (h0:0≤x) (h1:x<128 ^ k) (hy:0≤y):Builtin.bitOr x (y*2 ^ (7*(k:Int)).toNat)=x+y*128 ^ k:=by
 rw[bitOr_and,pow128]
 have e:Builtin.bitAnd x (y*128 ^ k)=0:=by
  obtain ⟨a,rfl⟩:=Int.eq_ofNat_of_zero_le h0
  obtain ⟨b,rfl⟩:=Int.eq_ofNat_of_zero_le hy
  have hm:(b:Int)*128 ^ k=((b*2 ^ (7*k):Nat):Int):=by push_cast;rw[Int.pow_mul];rfl
  have hp:(0:Int)≤((b*2 ^ (7*k):Nat):Int):=Int.natCast_nonneg _
  rw[hm]
  unfold Builtin.bitAnd
  simp only[decide_eq_true h0,decide_eq_true hp,Int.toNat_natCast]
  rw[nat_and_high];·rfl
  ·have h2:((a:Nat):Int)<((2 ^ (7*k):Nat):Int):=by push_cast;rw[Int.pow_mul];exact h1
   exact Int.ofNat_lt.mp h2
 rw[e];(exact Int.le_antisymm (lin (.G 1 (.L (.s (.a Z0 Z1) (.c 0)) (.a Z0 Z1))) rfl [] [_,_]) (lin (.G 1 (.L (.a Z0 Z1) (.s (.a Z0 Z1) (.c 0)))) rfl [] [_,_]))
theorem and127 (b:Int):Builtin.bitAnd b 127=b % 128:=bitAnd_m7 b
theorem and128 {b:Int} (h0:0≤b) (h1:b<256):Builtin.bitAnd b 128=0↔b<128:=by
 have:=kbt_bit b 7
 have e:(2:Int) ^ 7=128:=by decide
 rw[e] at this
 rw[this];omega
theorem and64 (x:Int):Builtin.bitAnd x 18446744073709551615=x % 18446744073709551616:=by
 have:=kbt_mask x 64
 have e:(2:Int) ^ 64=18446744073709551616:=by decide
 rw[e] at this;exact this
theorem ub_range (l:List UInt8) (i:Nat):0≤(ub l).getD i 0∧(ub l).getD i 0<256:=by
 rw[←ub_getD]
 have:=UInt8.toNat_lt (l.getD i 0)
 exact ⟨lin (.G 1 (.L (.c 0) Y0)) rfl [_] [],lin (.h 1 (.t Y0 (.c 256)) (.G 1 (.T Y0 (.c 256)))) rfl [_] [] this⟩
local macro_rules | `(tactic| walk_at "loadName") => `(tactic| (k_here; k_dflt (refine' loadX_L (by k_asm) (by rfl) ?_; k_whole)))
local macro_rules | `(tactic| walk_at "exec Raise some none") => `(tactic| (k_here; (with_reducible apply stR); k_dflt (refine' RaiseX_own (by k_asm) (by k_asm) (by k_asm) (by k_is) (by k_exc) (by first | rfl | assumption) ?_; k_whole)))
section
variable {w:World} {p:Program} {loose:List Str} {mean:ExcName→Option Value} {mg mb:Str→Option Value} {dp un:Nat} {gd:Option (List Code)} {cn:Str} {cs:Scope} {a:Addr} {ccd:Value} {cl:List (Str×Addr)} {outer:List Env} {A₀:Around} {base h₀:Heap} {L:Addr} {m:Str→Option Value} {s:Shared} {Q E:Value→Shared→Prop} {news fz:List (Addr×Obj)}
theorem dec_varint {bf:List UInt8} {pos:Nat} {t tb:Tok} {ps:Array Value} (HC:CodeHd base 291 287) (HT:TabOk ps fz vdSpec) (hfz:∀p∈fz,p∈news) (B:Below A₀ base outer h₀) (F:Fr h₀ L s.heap m) (X:(Mine.kf w.params).In h₀) (N:News h₀ L s.heap ((287,tabObj ps)::news)) (h287:∀p∈news,p.1≠287) (T:Top p loose mean mg mb h₀) (hk:cs.kind= .function)
  (hd:dp+3<recursionLimit) (hl:bf.length<2 ^ 20) (hat:pos<2 ^ 20)
  (ret:∀v p r t1 t2 tl ps' h' tk',rvar (ub bf) pos= .ok (v,p)→Fr h₀ L h' m→News h₀ L h' ((r,tupO [.int v t1,.int (p:Int) t2])::(287,tabObj ps')::(tl++news))→TabOk ps' (tl++fz) vdSpec→(∀q∈news,∀p∈tl,q.1<p.1)→(∀p∈tl,287<p.1)→(∀q∈tl++news,q.1<r)→287<r→Q (.ref r) {s with heap:=h',toks:=tk'})
  (exc:∀fl G e tl ps' h' tk',rvar (ub bf) pos= .error fl→Fr h₀ L G m→Thrown base G (envX cn cs L a ccd cl::outer) fl e ((287,tabObj ps')::(tl++news)) h'→TabOk ps' (tl++fz) vdSpec→(∀q∈news,∀p∈tl,q.1<p.1)→(∀p∈tl,287<p.1)→G.UpToSlots h'→E (.ref e) {s with heap:=h',toks:=tk'}):
  wpAny (model PR w) (ktrTop dp un gd cn cs L a ccd cl outer) (call (.ref 299) [.bytes bf.toArray tb,.int (pos:Int) t]) Q E s:=by
 refine wpAny_call ?_
 k_dflt (refine' code_def (binds:=[(Str.ofString "buffer",.bytes bf.toArray tb),(Str.ofString "pos",.int (pos:Int) t)]) B F X N T rfl rfl hk ?k6 ?k7 (by show dp<recursionLimit;(exact lin (.h 1 (.t (.a Y0 (.c 3)) Y1) (.G 1 (.t Y0 Y1))) rfl [_,_] [] hd)) ?k9 ?kB ?_ ?c2 ?c3 ?c4 ?c5)
 walk_at "in"
 intro g' L' h' FG' F' N' B' X' T'
 (try dsimp only);(try k_fold)
 walk_at "go"
 walk1
 walk_at "go"
 refine nestDef_K rfl rfl rfl ?_
 rename_i g1 L1 hh1 tkA FGx Fx Bx Xx Tx l1 o1 d1 N1
 refine tab_def (c:=291) (P:=287) (ps:=ps) (fz:=fz) (spec:=vdSpec) (by assumption) N1 (by assumption) (HC.keeps Bx.stays) rfl (by k_updF) HT (fun p h=> .tail _ (.tail _ (hfz p h))) (Str.ofString "_VarintDecoder.<locals>.DecodeVarint") (show (Str.ofString "_VarintDecoder"++Str.ofString ".<locals>."++Str.ofString "DecodeVarint":Str)=Str.ofString "_VarintDecoder.<locals>.DecodeVarint" from by decide+kernel) (by decide+kernel) (by decide+kernel) rfl ?_
 intro f c' oc vs tq ctv doc h2 tk2 ps' tl F2 N2 HT' hc hdt hvt labove lf1 lf2
 have hc2:(c',oc)∈tl++((L1+1,o1)::(287,tabObj ps')::news):=(List.mem_append.mp hc).elim (fun h=>mL _ h) fun h=>mR _ (.tail _ (.tail _ (hfz _ h)))
 have N3:=kst_newsOf N2 (l':=(f,_)::(c',oc)::(L1+1,o1)::(287,tabObj ps')::(tl++news)) (fC ⟨.head _,fC ⟨.tail _ hc2,fC ⟨.tail _ (mR _ (.head _)),fC ⟨.tail _ (mR _ (.tail _ (.head _))),
  fun p hp=> .tail _ ((List.mem_append.mp hp).elim (fun h=>mL _ h) fun h=>mR _ (.tail _ (.tail _ h)))⟩⟩⟩⟩)
 clear N2 N1
 walk_at "go"
 rename_i L3 FG3 B3 X3 T3 hC hD F4 N4
 refine wh (σ:=Nat×Int×Tok×Tok×Tok) (fun _=>(f,_)::(c',oc)::(L1+1,o1)::(287,tabObj ps')::(tl++news)) (fun c=>[(Str.ofString "buffer",Value.bytes bf.toArray tb),(Str.ofString "pos",.int ((pos:Int)+(c.1:Int)) c.2.2.1),(Str.ofString "result",Value.int c.2.1 c.2.2.2.1),(Str.ofString "shift",Value.int (7*(c.1:Int)) c.2.2.2.2)])
  (fun c=>rvar (ub bf) pos=rvarK (ub bf) pos (10 - c.1) c.1 c.2.1∧0≤c.2.1∧c.2.1<128 ^ c.1∧c.1<10) (fun c=>10 - c.1) (0,0,_,_,_) F4 N4 (by kst_all) ⟨rfl,Int.le_refl _,Int.zero_lt_one,Nat.zero_lt_succ _⟩ ?_
 rintro ⟨k,x,t1,t2,t3⟩ u h1 tk1 KP kk ⟨he,hx0,hx1,hk10⟩ F2 N2
 dsimp only at he hx0 hx1 hk10 F2 N2 ⊢
 simp only[kstB] at F2
 clear F4 N4
 have hul:=ub_length bf
 (try k_fold)
 walk_at "go"
 by_cases hlt:pos+k<bf.length
 ·have hbr:=ub_range bf ((pos:Int)+(k:Int)).toNat
  rw[←ub_getD] at hbr
  have nbig:Builtin.bitAnd (((bf.getD ((pos:Int)+(k:Int)).toNat 0).toNat:Nat):Int) 128≠0→¬ (ub bf).getD ((pos:Int)+(k:Int)).toNat 0<128:=fun hn hh=>by
   rw[←ub_getD] at hh
   exact hn ((and128 hbr.1 hbr.2).mpr hh)
  refine KBy.item_N (by exact lin (.h 1 (.t Y0 (.c 1048576)) (.G 1 (.l Y0 (.c 1099511627776)))) rfl [_] [] hl) (by exact lin (.G 1 (.L (.c 0) (.a Y0 Y1))) rfl [_,_] []) (by exact lin (.h 1 (.t (.a Y0 Y1) Y2) (.G 1 (.T (.a Y0 Y1) Y2))) rfl [_,_,_] [] hlt) ?_
  walk_at "go"
  refine lshift_int_small (by exact lin (.G 1 (.L (.c 0) (.r 7 Y0))) rfl [_] []) (by exact lin (.h 7 (.t Y0 (.c 10)) (.G 1 (.L (.r 7 Y0) (.c 1000000)))) rfl [_] [] hk10) (by rw[and127];omega) ?_
  walk_at "go"
  ·show (1:Nat)≤_;decide
  ·exact Fr.keep (by assumption)
  ·intro h5 e5 hx5
   walk_at "go"
   rename_i F5 N5 hc5
   have hb8:=nbig (show Builtin.bitAnd _ 128≠0 by assumption)
   refine leave_madeE B3 hx5 F5 N5 rfl rfl ?_
   intro h6 t6 R6 U6
   walk_at "go"
   refine leave_thrown (fl:= .decode) B' FG3 rfl ⟨t6,_,R6⟩ U6 ?_
   intro h7 R7 U7
   refine exc .decode g' e5 tl ps' h7 _ ?_ FG' (R7.sub ?_) HT' (fun q hq p hp=>labove q (.tail _ (.tail _ hq)) p hp) (fun p hp=>labove (287,_) (.tail _ (.head _)) p hp) U7
   ·rw[he,rvarK_some hk10 (by exact lin (.h 1 (.d Y0 Y3) (.h 1 (.t (.a Y1 Y2) Y3) (.G 1 (.nL Y0 (.a Y1 Y2))))) rfl [_,_,_,_] [] hul hlt),if_neg hb8,show 10 - (k+1)=0 by (exact Nat.le_antisymm (lin (.h 1 (.L (.c 64) (.a (.r 7 Y1) (.c 7))) (.h 7 (.e (.a Y0 (.a Y1 (.c 1))) (.c 10)) (.G 7 (.l Y0 (.c 0))))) rfl [_,_] [] hc5 (sC (lin (.h 1 (.t Y0 (.c 10)) (.G 1 (.l (.a Y0 (.c 1)) (.c 10)))) rfl [_] [] hk10))) (lin (.G 1 (.l (.c 0) Y0)) rfl [_] []))];rfl
   ·exact fun p hp=> .tail _ (.tail _ (.tail _ hp))
  ·rename_i F5 N5 hc5
   have hb8:=nbig (show Builtin.bitAnd _ 128≠0 by assumption)
   rw[ub_getD,and127,or_high hx0 hx1 (Int.emod_nonneg _ (by decide))] at F5
   refine kk.nx _ ?_
   refine wh_end (k+1,x+(ub bf).getD ((pos:Int)+(k:Int)).toNat 0 % 128*128 ^ k,_,_,_) F5 N5 (fun _ h=>h) (by kst_all) ?hp
   case hp=>
    refine ⟨⟨?_,?_,?_,?_⟩,?_⟩
    ·dsimp only
     rw[he,rvarK_some hk10 (by exact lin (.h 1 (.d Y0 Y3) (.h 1 (.t (.a Y1 Y2) Y3) (.G 1 (.nL Y0 (.a Y1 Y2))))) rfl [_,_,_,_] [] hul hlt),if_neg hb8]
    ·dsimp only
     exact Int.add_nonneg hx0 (Int.mul_nonneg (Int.emod_nonneg _ (by decide)) (Int.pow_nonneg (by decide)))
    ·dsimp only
     have h1:=Int.emod_lt_of_pos ((ub bf).getD ((pos:Int)+(k:Int)).toNat 0) (show (0:Int)<128 by decide)
     have h2:((ub bf).getD ((pos:Int)+(k:Int)).toNat 0 % 128)*128 ^ k≤127*128 ^ k:=Int.mul_le_mul_of_nonneg_right (by exact lin (.h 1 (.T Z0 (.c 128)) (.G 1 (.L Z0 (.c 127)))) rfl [] [_] h1) (Int.pow_nonneg (by decide))
     have h3:(128:Int) ^ (k+1)=128*128 ^ k:=by rw[Int.pow_succ,Int.mul_comm]
     rw[h3];(exact lin (.h 1 (.T Z0 Z2) (.h 1 (.L Z1 (.r 127 Z2)) (.G 1 (.T (.a Z0 Z1) (.r 128 Z2))))) rfl [] [_,_,_] hx1 h2)
    ·dsimp only;(exact lin (.h 1 (.nL (.c 64) (.a (.r 7 Y0) (.c 7))) (.G 7 (.t (.a Y0 (.c 1)) (.c 10)))) rfl [_] [] hc5)
    ·dsimp only;(exact lin (.h 1 (.e (.a Y0 (.a Y2 (.c 1))) (.c 10)) (.h 1 (.d (.a Y1 Y2) (.c 10)) (.G 1 (.t Y0 Y1)))) rfl [_,_,_] [] (sC (lin (.h 1 (.t Y0 (.c 10)) (.G 1 (.l (.a Y0 (.c 1)) (.c 10)))) rfl [_] [] hk10)) (sC (lin (.h 1 (.t Y0 (.c 10)) (.G 1 (.l Y0 (.c 10)))) rfl [_] [] hk10)))
  ·rename_i l1 kF1 kN1 kT1 kX1 kF kN kT kX
   have ev:Builtin.bitAnd (Builtin.bitOr x (Builtin.bitAnd (((bf.getD ((pos:Int)+(k:Int)).toNat 0).toNat:Nat):Int) 127*2 ^ (7*(k:Int)).toNat)) 18446744073709551615=(x+(ub bf).getD ((pos:Int)+(k:Int)).toNat 0 % 128*128 ^ k) % 18446744073709551616:=by
    rw[ub_getD,and127,or_high hx0 hx1 (Int.emod_nonneg _ (by decide)),and64]
   have hb8:(ub bf).getD ((pos:Int)+(k:Int)).toNat 0<128:=by
    rw[←ub_getD];exact (and128 hbr.1 hbr.2).mp (by assumption)
   rw[ev] at kN
   refine ret _ (pos+k+1) _ _ _ tl ps' _ _ ?_ kF (fun q hq=>kN q (List.mem_cons.mpr ((List.mem_cons.mp hq).imp id fun h=> .tail _ (.tail _ (.tail _ h))))) HT' (fun q hq p hp=>labove q (.tail _ (.tail _ hq)) p hp) (fun p hp=>labove (287,_) (.tail _ (.head _)) p hp) (kst_ltOf l1.2.2.2.2) l1.2.2.2.1
   ·rw[he,rvarK_some hk10 (by exact lin (.h 1 (.d Y0 Y3) (.h 1 (.t (.a Y1 Y2) Y3) (.G 1 (.nL Y0 (.a Y1 Y2))))) rfl [_,_,_,_] [] hul hlt),if_pos hb8]
 ·refine item_bytes_out rfl (by exact lin (.h 1 (.nt (.a Y1 Y2) Y0) (.G 1 (.L Y0 (.a Y1 Y2)))) rfl [_,_,_] [] hlt) (by exact lin (.h 1 (.t Y0 (.c 1048576)) (.h 1 (.t Y1 (.c 10)) (.G 1 (.T (.a Y0 Y1) (.c 9223372036854775808))))) rfl [_,_] [] hat hk10) fun h5 tk5 e5 hx5=> ?_
  walk_at "go"
  refine leave_newE B3 hx5 F2 N2 rfl rfl ?_
  intro h6 R6 U6
  walk_at "go"
  refine leave_thrown (fl:= .index) B' FG3 rfl R6 U6 ?_
  intro h7 R7 U7
  refine exc .index g' e5 tl ps' h7 _ ?_ FG' (R7.sub ?_) HT' (fun q hq p hp=>labove q (.tail _ (.tail _ hq)) p hp) (fun p hp=>labove (287,_) (.tail _ (.head _)) p hp) U7
  ·rw[he,rvarK_none hk10 (by exact lin (.h 1 (.e Y0 Y3) (.h 1 (.nt (.a Y1 Y2) Y3) (.G 1 (.L Y0 (.a Y1 Y2))))) rfl [_,_,_,_] [] hul hlt)]
  ·exact fun p hp=> .tail _ (.tail _ (.tail _ hp))
end
noncomputable def tend (bs:List Int) (at_:Nat):Nat:=at_+((bs.drop at_).takeWhile (fun b=>decide (127<b))).length
theorem tend_out {bs:List Int} {at_:Nat} (h:bs.length≤at_):tend bs at_=at_:=by
 unfold tend;rw[List.drop_eq_nil_of_le h];rfl
theorem drop_at {bs:List Int} {at_:Nat} (h:at_<bs.length):bs.drop at_=bs.getD at_ 0::bs.drop (at_+1):=by
 rw[List.drop_eq_getElem_cons h,List.getD_eq_getElem?_getD,List.getElem?_eq_getElem h];rfl
theorem tend_low {bs:List Int} {at_:Nat} (h:at_<bs.length) (hb:¬ 127<bs.getD at_ 0):tend bs at_=at_:=by
 unfold tend;rw[drop_at h,List.takeWhile_cons,decide_eq_false hb];rfl
theorem tend_high {bs:List Int} {at_:Nat} (h:at_<bs.length) (hb:127<bs.getD at_ 0):tend bs at_=tend bs (at_+1):=by
 unfold tend;rw[drop_at h,List.takeWhile_cons,decide_eq_true hb];simp only[if_true,List.length_cons];(exact Nat.le_antisymm (lin (.G 1 (.l (.a Y0 (.a Y1 (.c 1))) (.a (.a Y0 (.c 1)) Y1))) rfl [_,_] []) (lin (.G 1 (.l (.a (.a Y0 (.c 1)) Y1) (.a Y0 (.a Y1 (.c 1))))) rfl [_,_] []))
theorem tend_ge (bs:List Int) (at_:Nat):at_≤tend bs at_:=Nat.le_add_right _ _
noncomputable def rtag (bs:List Int) (at_:Nat):Except Flt (Int×Nat):=if bs.length≤tend bs at_ then .error .index else rvar (bs.take (tend bs at_+1)) at_
set_option genCtorIdx true in
inductive Dat where
 |num (x:Int)
 |byt (b:List UInt8)
 |grp (l:List (Int×Int×Dat))
noncomputable abbrev Rw:=Int×Int×Dat
noncomputable def addRow (r:Rw):Except Flt (List Rw×Nat×Int)→Except Flt (List Rw×Nat×Int)
 | .ok (rows,a,c)=> .ok (r::rows,a,c)
 | .error f=> .error f
noncomputable def addRows (rs:List Rw):Except Flt (List Rw×Nat×Int)→Except Flt (List Rw×Nat×Int)
 | .ok (rows,a,c)=> .ok (rs++rows,a,c)
 | .error f=> .error f
theorem addRows_row (rs:List Rw) (r:Rw) (x):addRows rs (addRow r x)=addRows (rs++[r]) x:=by
 cases x with
 |error=>rfl
 |ok v=>obtain ⟨a,b,c⟩:=v;simp[addRows,addRow]
noncomputable def leNum:List Int→Int
 |[]=>0
 |b::l=>b+256*leNum l
noncomputable def rgrp (rec:Except Flt (List Rw×Nat×Int)) (bs:List Int) (num:Int):Except Flt (Dat×Nat):=
 match rec with
 | .error f=> .error f
 | .ok (rows,a,c)=>if (bs.take a).drop (a - (vint (num*8+4)).length)=vint (num*8+4) then (if c=num then .ok (.grp rows,a) else .error .unasked) else .error .decode
noncomputable def rfld (bs:List Int) (at_:Nat) (wire:Int) (grp:Except Flt (Dat×Nat)):Except Flt (Dat×Nat):=
 if wire=0 then (match rvar bs at_ with| .error f=> .error f| .ok (v,p)=> .ok (.num v,p))
 else if wire=1 then (if at_+8≤bs.length then .ok (.num (leNum ((bs.drop at_).take 8)),at_+8) else .error .struct)
 else if wire=5 then (if at_+4≤bs.length then .ok (.num (leNum ((bs.drop at_).take 4)),at_+4) else .error .struct)
 else if wire=2 then (match rvar bs at_ with| .error f=> .error f| .ok (v,p)=> .ok (.byt (((bs.drop p).take v.toNat).map fun b=>UInt8.ofNat b.toNat),p+v.toNat))
 else if wire=3 then grp
 else .error .decode
noncomputable def rcut (end_:Nat):Except Flt (Dat×Nat)→Except Flt (Dat×Nat)
 | .error f=> .error f
 | .ok (d,p)=>if end_<p then .error .decode else .ok (d,p)
noncomputable def rset (bs:List Int) (end_:Nat):Nat→Nat→Nat→Except Flt (List Rw×Nat×Int)
 |0,_,_=> .error .unasked
 |n+1,at_,lv=>if at_<end_ then
   match rtag bs at_ with
   | .error f=> .error f
   | .ok (tag,p)=>if tag % 8=4 then .ok ([],p,tag / 8) else
    match rcut end_ (rfld bs p (tag % 8) (if 100≤lv+1 then .error .decode else rgrp (rset bs end_ n p (lv+1)) bs (tag / 8))) with
    | .error f=> .error f
    | .ok (d,q)=>addRow (tag / 8,tag % 8,d) (rset bs end_ n q lv)
  else .ok ([],at_,-1)
noncomputable abbrev Led:=List (Addr×Obj)
noncomputable def DatAt (RA:Led→List Rw→Addr→Prop) (news:Led):Dat→Value→Prop
 | .num x,v=>∃t,v= .int x t
 | .byt b,v=>∃t,v= .bytes b.toArray t
 | .grp g,v=>∃l,v= .ref l∧RA news g l
noncomputable def RowAt (RA:Led→List Rw→Addr→Prop) (news:Led) (r:Rw) (v:Value):Prop:=∃a t1 t2 V,v= .ref a∧(a,tupO [.int r.1 t1,.int r.2.1 t2,V])∈news∧DatAt RA news r.2.2 V
inductive Each {α β:Type} (R:α→β→Prop):List α→List β→Prop
 |nil:Each R [] []
 |cons {a b l k}:R a b→Each R l k→Each R (a::l) (b::k)
theorem Each.mono {α β:Type} {R S:α→β→Prop} (h:∀a b,R a b→S a b) {l:List α} {k:List β} (e:Each R l k):Each S l k:=by
 induction e with
 |nil=>exact .nil
 |cons x _ ih=>exact .cons (h _ _ x) ih
theorem Each.mono_mem {α β:Type} {R S:α→β→Prop} {l:List α} {k:List β} (h:∀a∈l,∀b,R a b→S a b) (e:Each R l k):Each S l k:=by
 induction e with
 |nil=>exact .nil
 |cons x _ ih=>exact .cons (h _ (.head _) _ x) (ih fun a ha=>h a (.tail _ ha))
theorem Each.length {α β:Type} {R:α→β→Prop} {l:List α} {k:List β} (e:Each R l k):l.length=k.length:=by
 induction e with
 |nil=>rfl
 |cons _ _ ih=>exact congrArg (·+1) ih
theorem Each.append {α β:Type} {R:α→β→Prop} {l:List α} {k:List β} {l' k'} (e:Each R l k) (z:Each R l' k'):Each R (l++l') (k++k'):=by
 induction e with
 |nil=>exact z
 |cons x _ ih=>exact .cons x ih
noncomputable def RowsAt:Nat→Led→List Rw→Addr→Prop
 |0,_,_,_=>False
 |d+1,news,rows,l=>∃vs c,(l,listOf vs.toArray c)∈news∧Each (RowAt (RowsAt d) news) rows vs
theorem DatAt.imp {RA RA':Led→List Rw→Addr→Prop} {news news':Led} {d:Dat} {v:Value} (hr:∀g l,d= .grp g→RA news g l→RA' news' g l) (x:DatAt RA news d v):DatAt RA' news' d v:=by
 cases d with
 |num=>exact x
 |byt=>exact x
 |grp g=>exact Exists.imp (fun l y=>⟨y.1,hr g l rfl y.2⟩) x
theorem DatAt.mono {RA:Led→List Rw→Addr→Prop} {news news':Led} {d:Dat} {v:Value} (hr:∀g l,RA news g l→RA news' g l) (x:DatAt RA news d v):DatAt RA news' d v:=x.imp fun g l _=>hr g l
theorem RowAt.imp {RA RA':Led→List Rw→Addr→Prop} {news news':Led} {r:Rw} {v:Value} (hs:∀p∈news,p∈news') (hr:∀g l,r.2.2= .grp g→RA news g l→RA' news' g l) (x:RowAt RA news r v):RowAt RA' news' r v:=
 Exists.imp (fun _=>Exists.imp fun _=>Exists.imp fun _=>Exists.imp fun _ y=>⟨y.1,hs _ y.2.1,DatAt.imp hr y.2.2⟩) x
theorem RowAt.mono {RA:Led→List Rw→Addr→Prop} {news news':Led} {r:Rw} {v:Value} (hs:∀p∈news,p∈news') (hr:∀g l,RA news g l→RA news' g l) (x:RowAt RA news r v):RowAt RA news' r v:=x.imp hs fun g l _=>hr g l
theorem RowsAt.mono {news news':Led} (hs:∀p∈news,p∈news') {d:Nat}:∀{rows:List Rw} {l:Addr},RowsAt d news rows l→RowsAt d news' rows l:=by
 induction d with
 |zero=>exact fun h=>h.elim
 |succ d ih=>exact fun h=>Exists.imp (fun _=>Exists.imp fun _ y=>⟨hs _ y.1,y.2.mono fun _ _ x=>x.imp hs fun _ _ _ z=>ih z⟩) h
theorem RowsAt.up {news:Led} {d:Nat}:∀{rows:List Rw} {l:Addr},RowsAt d news rows l→RowsAt (d+1) news rows l:=by
 induction d with
 |zero=>exact fun h=>h.elim
 |succ d ih=>exact fun h=>Exists.imp (fun _=>Exists.imp fun _ y=>⟨y.1,y.2.mono fun _ _ x=>x.imp (fun _ h=>h) fun _ _ _ z=>ih z⟩) h
noncomputable abbrev Kon (w:World) (k:Nat) (f:Addr) (vals:List Value) (need:Led→Prop) (res:Value→Led→Prop):Prop:=
 ∀⦃p:Program⦄ ⦃loose:List Str⦄ ⦃mean:ExcName→Option Value⦄ ⦃mg mb:Str→Option Value⦄ ⦃dp un:Nat⦄ ⦃gd:Option (List Code)⦄ ⦃cn:Str⦄ ⦃cs:Scope⦄ ⦃a:Addr⦄ ⦃ccd:Value⦄ ⦃cl:List (Str×Addr)⦄ ⦃outer:List Env⦄ ⦃A₀:Around⦄ ⦃base h₀:Heap⦄ ⦃L:Addr⦄ ⦃m:Str→Option Value⦄ ⦃s:Shared⦄ ⦃Q E:Value→Shared→Prop⦄ ⦃news:Led⦄,
  Below A₀ base outer h₀→Fr h₀ L s.heap m→(Mine.kf w.params).In h₀→News h₀ L s.heap news→Top p loose mean mg mb h₀→cs.kind= .function→
  dp+k<recursionLimit→un+20*k+200<cLine→need news→
  (∀v led h' tk',Fr h₀ L h' m→News h₀ L h' (led++news)→res v led→(∀q∈news,∀p∈led,q.1<p.1)→Q v {s with heap:=h',toks:=tk'})→
  wpAny (model PR w) (ktrTop dp un gd cn cs L a ccd cl outer) (call (.ref f) vals) Q E s
noncomputable def SetOut (d:Nat) (led:Led) (fs:Str) (l:Addr) (q c:Int):Except Flt (List Rw×Nat×Int)→Prop
 | .ok (rows,p,cl)=>fs=Str.ofString ""∧q=(p:Int)∧c=cl∧RowsAt d led rows l
 | .error e=>fs=e.name
section
open PyProof.Rows.LCg PyProof.Rows.LCp Calls
variable {prog:Program} {w:World} {A:Around} {E:Value→Shared→Prop} {s:Shared} {h₀:Heap} {L:Addr} {m:Str→Option Value} {env:Env}
noncomputable def enMap (f:Nat→Int→Int) (bs:List Int):List Int:=(List.range bs.length).map fun j=>f j (bs.getD j 0)
theorem block_E {elt iter:Expr} {x x₂:Str} {px px₂ tp:Pos} {tk} {scope:Scope} {cl:List (Str×Addr)} {pos:Pos} {s₂:Shared} {e it l:Addr} {vs:List Value} {bs:List Int} {c:Nat} (f:Nat→Int→Int) {news:List (Addr×Obj)}
  {RR:Value→Addr→Result→Shared→Prop}
  (hsz:bs.length≤sizeLine) (hi:IntsAre vs bs) (hm:(l,listOf vs.toArray c)∈news) (hei:e≠it) (hle:l≠e) (hli:l≠it)
  (hcell:∀y∈scope.names,y.2≠.cell) (hkind:scope.kind= .function) (hx:scope.names.lookup x=some .local) (hx₂:scope.names.lookup x₂=some .local) (hxx:x≠x₂) (hh:A.handled=none)
  (hst:(∃old,IsEnum s₂.heap e it 0 old)∧s₂.heap.IsListIter it l 0)
  (F:Fr h₀ L s₂.heap m) (N:News h₀ L s₂.heap news) (hLe:L≠e) (hLi:L≠it) (he₀:h₀.get? e=none) (hi₀:h₀.get? it=none) (off:∀p∈news,p.1≠e∧p.1≠it)
  (helt:∀(i:Nat) (t1 t2:Tok) C oC m₂ h tk (Q' E':Value→Shared→Prop),i<bs.length→NsObj oC m₂→m₂ x=some (.int (i:Int) t1)→m₂ x₂=some (.int (bs.getD i 0) t2)→Fr h₀ L h m→News h₀ L h ((C,oC)::news)→
   (∀t tk',Q' (.int (f i (bs.getD i 0)) t) {s with heap:=h,toks:=tk'})→wpAny (model prog w) A (eval elt (compEnvC scope cl C env)) Q' E' {s with heap:=h,toks:=tk})
  (hs₂:∃h tk,s₂={s with heap:=h,toks:=tk})
  (hRR:∀D C h tk m' ys,Fr h₀ L h m→News h₀ L h ((D,lst ys)::news)→IntsAre ys (enMap f bs)→(∀p∈news,p.1<D)→h.Ns C m'→h₀.get? C=none→C≠L→C≠D→(∀p∈news,p.1≠C)→RR (.ref D) C (.ok .next) {s with heap:=h,toks:=tk}):
  wpAny (model prog w) A (newList []) (fun acc s₃=>wpAny (model prog w) A (newFunctionEnv scope env.globals cl [] env.qual none .none (some env)) (fun cenv s₄=>
   codeAny (model prog w) A (.compStart (.ListComp elt [⟨.Tuple [.Name x px,.Name x₂ px₂] tk tp,iter,[],0⟩] scope pos) 0 (.ref e) acc {cenv with scope:=relabel scope env}) (RR acc cenv.locals) s₄) E s₃) E s₂:=by
 obtain ⟨hp0,tk0,rfl⟩:=hs₂
 dsimp only at hst F N
 have hl:hp0.IsList l vs.toArray:=⟨_,(N _ hm).1,rfl,c,rfl⟩
 have hvl:vs.length=bs.length:=hi.length
 have W:=WalksT.enumerate (prog:=prog) (w:=w) hh e it l hei hle hli vs.toArray
 have hszn:vs.toArray.size=bs.length:=by rw[List.size_toArray,hvl]
 rw[hszn] at W
 refine wpAny_newObj_type (wpAny_newFunctionEnv hcell (by intro y hy;simp at hy) (fun h₁ hns₁ hsb₁=> ?_) hkind)
 dsimp only at hns₁ hsb₁ ⊢
 generalize hH2:hp0.push {cls:= .type "list",dict:=none,data:= .seq ([]:List Value).toArray}=H2 at hns₁ hsb₁ ⊢
 have hC:H2.objs.size=hp0.objs.size+1:=by rw[←hH2,Heap.size_push]
 have hDC:hp0.objs.size≠H2.objs.size:=by rw[hC];exact Nat.ne_of_lt (Nat.lt_succ_self _)
 have below:∀b,b<hp0.objs.size→b≠H2.objs.size∧b≠hp0.objs.size:=fun b hb=>⟨by rw[hC];exact Nat.ne_of_lt (Nat.lt_succ_of_lt hb),Nat.ne_of_lt hb⟩
 have helt0:e<hp0.objs.size:=by obtain ⟨⟨old,q⟩,_⟩:=hst;exact Heap.lt_size q
 have hilt0:it<hp0.objs.size:=by obtain ⟨_,⟨o,q,_⟩⟩:=hst;exact Heap.lt_size q
 have hllt0:l<hp0.objs.size:=Heap.lt_size (N _ hm).1
 have hfp:∀b∈[e,it,l],b<hp0.objs.size:=fun b hb=>by
  rcases List.mem_cons.mp hb with rfl|hb
  ·exact helt0
  ·rcases List.mem_cons.mp hb with rfl|hb
   ·exact hilt0
   ·rw[List.mem_singleton.mp hb];exact hllt0
 have hDf:hp0.objs.size∉[e,it,l]:=fun hm=>Nat.lt_irrefl _ (hfp _ hm)
 have hCf:H2.objs.size∉[e,it,l]:=fun hm=>by have:=hfp _ hm;rw[hC] at this;exact Nat.lt_irrefl _ (Nat.lt_of_succ_lt this)
 have old:∀b o,hp0.get? b=some o→h₁.get? b=some o:=fun b o e=>hsb₁.extBut b o (below b (Heap.lt_size e)).1 (Heap.get?_push_of_some _ (hH2▸Heap.get?_push_of_some _ e))
 have hacc:h₁.get? hp0.objs.size=some (lst []):=hsb₁.extBut _ _ hDC (Heap.get?_push_of_some _ (hH2▸Heap.get?_push_size _ rfl))
 have fresh:∀a,hp0.objs.size≤a→hp0.get? a=none:=fun a ha=>by
  cases e:hp0.get? a with
  |none=>rfl
  |some o'=>exact absurd (Heap.lt_size e) (Nat.not_lt.mpr ha)
 have fresh₀:∀a,hp0.objs.size≤a→h₀.get? a=none:=fun a ha=>by
  cases e:h₀.get? a with
  |none=>rfl
  |some o'=>have:=F.keep a o' e;rw[fresh a ha] at this;cases this
 have hD₀:h₀.get? hp0.objs.size=none:=fresh₀ _ (Nat.le_refl _)
 have hC₀:h₀.get? H2.objs.size=none:=fresh₀ _ (by rw[hC];exact Nat.le_succ _)
 have hLlt:L<hp0.objs.size:=F.ns.lt
 have hDL:hp0.objs.size≠L:=Ne.symm (below L hLlt).2
 have hCL:H2.objs.size≠L:=Ne.symm (below L hLlt).1
 have hCe:H2.objs.size∉[e,it]:=fun h=>hCf (by rcases List.mem_cons.mp h with rfl|h;exact .head _;rw[List.mem_singleton.mp h];exact .tail _ (.head _))
 have hDe:hp0.objs.size∉[e,it]:=fun h=>hDf (by rcases List.mem_cons.mp h with rfl|h;exact .head _;rw[List.mem_singleton.mp h];exact .tail _ (.head _))
 have offN:∀p∈news,p.1∉[e,it]∧p.1≠H2.objs.size∧p.1≠hp0.objs.size:=fun p hp=>⟨fun h=>by
  rcases List.mem_cons.mp h with q|h
  ·exact (off p hp).1 q
  ·exact (off p hp).2 (List.mem_singleton.mp h),below _ (Heap.lt_size (N p hp).1)⟩
 have frb:∀{h h':Heap},Fr h₀ L h m→(∀b o,b∉[e,it]→h.get? b=some o→h'.get? b=some o)→Fr h₀ L h' m:=fun F hk=>⟨F.ns.at' fun o q=>hk _ o (fun hb=>by
   rcases List.mem_cons.mp hb with q|hb
   ·exact hLe q
   ·exact hLi (List.mem_singleton.mp hb)) q,fun b o q=>hk b o (fun hb=>by
   rcases List.mem_cons.mp hb with r|hb
   ·rw[r,he₀] at q;cases q
   ·rw[List.mem_singleton.mp hb,hi₀] at q;cases q) (F.keep b o q),F.above⟩
 have loop:∀s₃:Shared,s₃={s with heap:=h₁,toks:=tk0+([]:List (Str×Value)).length}→
   codeAny (model prog w) A (.compLoop (.ListComp elt [⟨.Tuple [.Name x px,.Name x₂ px₂] tk tp,iter,[],0⟩] scope pos) 0 (.ref e) (.ref hp0.objs.size) (compEnvC scope cl H2.objs.size env))
    (RR (.ref hp0.objs.size) H2.objs.size) s₃:=by
  rintro s₃ rfl
  refine codeAny_compLoop_pair
   (fun k s'=>∃h' tk i ys m',s'={s with heap:=h',toks:=tk}∧i≤bs.length∧k=bs.length+1 - i∧IntsAre ys ((List.range i).map fun j=>f j (bs.getD j 0))∧((∃old,IsEnum h' e it i old)∧h'.IsListIter it l i)∧Fr h₀ L h' m∧h'.Ns H2.objs.size m'∧News h₀ L h' ((hp0.objs.size,lst ys)::news)) ?_ (bs.length+1)
   ⟨h₁,_,0,[],_,rfl,Nat.zero_le _,rfl,.nil,⟨by obtain ⟨o,q⟩:=hst.1;exact ⟨o,old _ _ q⟩,by obtain ⟨o,q,r⟩:=hst.2;exact ⟨o,old _ _ q,r⟩⟩,F.keeps old,hns₁,fun p hp=> ?_⟩
  ·rintro k s' ⟨h',tk,i,ys,m',rfl,hi',rfl,hys,hst',F',hn',N'⟩
   have hl':h'.IsList l vs.toArray:=⟨_,(N' _ (.tail _ hm)).1,rfl,c,rfl⟩
   have hyl:ys.length=i:=by rw[hys.length];simp
   by_cases hlt:i<bs.length
   ·refine W.item i _ _ _ hlt ⟨hst'.1,hst'.2,hl'⟩ fun T vals h₂ tk₂ hP _ hT hMid hk₂=> ?_
    obtain ⟨t1,xv,hxv,rfl⟩:=hP
    obtain ⟨t2,hxv2⟩:∃t2,xv= .int (bs.getD i 0) t2:=by
     rw[List.getElem?_toArray] at hxv
     exact hi.int_at i xv hxv
    subst hxv2
    have hTw:=W.apart i T _ hMid
    refine W.go _ _ _ i T _ _ _ hMid fun h₃ hst₃ hk₃=> ?_
    dsimp only at hk₃
    have hk₂₃:∀b o,b∉[e,it]→h'.get? b=some o→h₃.get? b=some o:=fun b o hb q=>hk₃ b o hb (hk₂ b o hb q)
    have N₃:News h₀ L h₃ ((hp0.objs.size,lst ys)::news):=fun p hp=>⟨hk₂₃ _ _ (by
     rcases List.mem_cons.mp hp with rfl|hp
     ·exact hDe
     ·exact (offN p hp).1) (N' p hp).1,(N' p hp).2⟩
    have ht:IsTup h₃ T #[.int (i:Int) t1,.int (bs.getD i 0) t2]:=by
     obtain ⟨ot,hot,hct,nt,hdt⟩:=hT
     exact ⟨ot,hk₃ _ _ hTw hot,hct,nt,hdt⟩
    refine assign_Tuple_tuple hh ht rfl rfl fun h₅ he=> ?_
    have he':∀b o,h₃.get? b=some o→h₅.get? b=some o:=fun b o e=>he b o (Nat.ne_of_lt (Heap.lt_size e)) e
    refine assignInOrder_cons (wpAny_assign_Name (wpAny_storeName_local (lookup_relabel_local hx) ((hn'.at' fun o e=>hk₂₃ _ o hCe e).at' fun o e=>he' _ o e) (fun h₆ hn₆ hs₆=> ?_) (by simp[compEnvC,relabel,hkind])))
    refine assignInOrder_cons (wpAny_assign_Name (wpAny_storeName_local (lookup_relabel_local hx₂) hn₆ (fun h₇ hn₇ hs₇=> ?_) (by simp[compEnvC,relabel,hkind])))
    refine assignInOrder_nil ?_
    have old7:∀b o,b≠H2.objs.size→h₃.get? b=some o→h₇.get? b=some o:=fun b o hb e=>hs₇.extBut b o hb (hs₆.extBut b o hb (he' b o e))
    obtain ⟨oC,heC,hoC⟩:=ns_obj hn₇
    have F₇:Fr h₀ L h₇ m:=(((frb F' hk₂₃).keeps he').change hs₆ hCL hC₀).change hs₇ hCL hC₀
    have N₇:News h₀ L h₇ ((hp0.objs.size,lst ys)::news):=fun p hp=>⟨old7 _ _ (by
     rcases List.mem_cons.mp hp with rfl|hp
     ·exact hDC
     ·exact (offN p hp).2.1) (N₃ p hp).1,(N₃ p hp).2⟩
    have NC:News h₀ L h₇ ((H2.objs.size,oC)::news):=fun p hp=>by
     rcases List.mem_cons.mp hp with rfl|hp
     ·exact ⟨heC,hCL,hC₀⟩
     ·exact N₇ p (.tail _ hp)
    refine helt i t1 t2 H2.objs.size oC _ h₇ _ _ _ hlt hoC (by simp[hxx]) (by simp) F₇ NC fun ty tk₈=> ?_
    refine append_at (hsz:=by show ys.toArray.size≤sizeLine;rw[List.size_toArray,hyl];exact Nat.le_trans hi' hsz) (N₇ _ (.head _)).1 fun h₉ hs₉ hD₉=> ?_
    have keep₉:∀b o,b≠hp0.objs.size→h₇.get? b=some o→h₉.get? b=some o:=fun b o hb q=>hs₉.extBut b o hb q
    refine ⟨bs.length+1 - (i+1),by exact lin (.h 1 (.e (.a Y0 (.a Y2 (.c 1))) (.a Y3 (.c 1))) (.h 1 (.d (.a Y1 Y2) (.a Y3 (.c 1))) (.G 1 (.t Y0 Y1)))) rfl [_,_,_,_] [] (sC (lin (.h 1 (.t Y0 Y1) (.G 1 (.l (.a Y0 (.c 1)) (.a Y1 (.c 1))))) rfl [_,_] [] hlt)) (sC (lin (.h 1 (.t Y0 Y1) (.G 1 (.l Y0 (.a Y1 (.c 1))))) rfl [_,_] [] hlt)),h₉,tk₈,i+1,ys++[.int (f i (bs.getD i 0)) ty],_,rfl,hlt,rfl,?_,⟨?_,?_⟩,F₇.change hs₉ hDL hD₀,(hoC.ns heC).sameBut hs₉ (Ne.symm hDC),fun p hp=> ?_⟩
    ·rw[List.range_succ,List.map_append]
     exact IntsAre.append hys (IntsAre.cons _ _ IntsAre.nil)
    ·obtain ⟨o,q⟩:=hst₃.1
     exact ⟨o,keep₉ _ _ (fun z=>hDe (z▸.head _)) (old7 _ _ (fun z=>hCe (z▸.head _)) q)⟩
    ·obtain ⟨o,q,r⟩:=hst₃.2.1
     exact ⟨o,keep₉ _ _ (fun z=>hDe (z▸.tail _ (.head _))) (old7 _ _ (fun z=>hCe (z▸.tail _ (.head _))) q),r⟩
    ·rcases List.mem_cons.mp hp with rfl|hp
     ·exact ⟨hD₉.trans (congrArg some (lst_snoc ys _)),hDL,hD₀⟩
     ·exact ⟨keep₉ _ _ (offN p hp).2.2 (N₇ p (.tail _ hp)).1,(N₇ p (.tail _ hp)).2⟩
   ·obtain rfl:i=bs.length:=Nat.le_antisymm hi' (Nat.not_lt.mp hlt)
    refine W.done _ _ _ ⟨hst'.1,hst'.2,hl'⟩ fun h₂ tk₂ hk₂=> ?_
    exact hRR _ _ h₂ tk₂ _ ys (frb F' hk₂) (fun p hp=>⟨hk₂ _ _ (by
     rcases List.mem_cons.mp hp with rfl|hp
     ·exact hDe
     ·exact (offN p hp).1) (N' p hp).1,(N' p hp).2⟩) hys (fun p hp=>Heap.lt_size (N p hp).1) (hn'.at' fun o q=>hk₂ _ o hCe q) hC₀ hCL (Ne.symm hDC) (fun p hp=>(offN p hp).2.1)
  ·rcases List.mem_cons.mp hp with rfl|hp
   ·exact ⟨hacc,hDL,hD₀⟩
   ·exact ⟨old _ _ (N p hp).1,(N p hp).2⟩
 have hst₁:(∃old,IsEnum h₁ e it 0 old)∧h₁.IsListIter it l 0∧h₁.IsList l vs.toArray:=⟨by obtain ⟨o,q⟩:=hst.1;exact ⟨o,old _ _ q⟩,by obtain ⟨o,q,r⟩:=hst.2;exact ⟨o,old _ _ q,r⟩,⟨_,old _ _ (N _ hm).1,rfl,c,rfl⟩⟩
 exact codeAny_compStart_list (loop _ rfl) (W.self 0 _ _ _ hst₁ (loop _ rfl))
inductive EnSrc (prog:Program) (w:World) (A:Around) (h₀:Heap) (L:Addr) (env:Env) (elt:Expr) (x x₂:Str) (scope:Scope) (cl:List (Str×Addr)) (f:Nat→Int→Int) (s:Shared) (Q:Value→Shared→Prop) (xv:Value) (s₁:Shared):Prop
 |mk (m:Str→Option Value) (e it l:Addr) (vs:List Value) (bs:List Int) (c:Nat) (news:List (Addr×Obj)) (h0:xv= .ref e) (h1:e≠it) (h2:l≠e) (h3:l≠it) (h4:A.handled=none) (h5:Fr h₀ L s₁.heap m) (h6:News h₀ L s₁.heap news) (h7:(l,listOf vs.toArray c)∈news) (h8:IntsAre vs bs) (h9:bs.length≤sizeLine) (h10:((∃old,IsEnum s₁.heap e it 0 old)∧s₁.heap.IsListIter it l 0)) (h11:L≠e) (h12:L≠it) (h13:h₀.get? e=none) (h14:h₀.get? it=none) (h15:(∀p∈news,p.1≠e∧p.1≠it)) (h16:(∃h tk,s₁={s with heap:=h,toks:=tk})) (h17:(∀(i:Nat) (t1 t2:Tok) C oC m₂ h tk (Q' E':Value→Shared→Prop),i<bs.length→NsObj oC m₂→m₂ x=some (.int (i:Int) t1)→m₂ x₂=some (.int (bs.getD i 0) t2)→Fr h₀ L h m→News h₀ L h ((C,oC)::news)→(∀t tk',Q' (.int (f i (bs.getD i 0)) t) {s with heap:=h,toks:=tk'})→wpAny (model prog w) A (eval elt (compEnvC scope cl C env)) Q' E' {s with heap:=h,toks:=tk})) (h18:∀D h tk ys,Fr h₀ L h m→News h₀ L h ((D,lst ys)::news)→IntsAre ys (enMap f bs)→(∀p∈news,p.1<D)→Q (.ref D) {s with heap:=h,toks:=tk}):EnSrc prog w A h₀ L env elt x x₂ scope cl f s Q xv s₁
theorem ListComp_E {elt iter:Expr} {x x₂:Str} {px px₂ tp:Pos} {tk} {scope:Scope} {cl:List (Str×Addr)} {pos:Pos} {Q:Value→Shared→Prop} (f:Nat→Int→Int)
  (hclos:closureFor scope env=pure cl) (hcell:∀y∈scope.names,y.2≠.cell) (hkind:scope.kind= .function)
  (hnames:∀y∈scope.names,y.2= .local→scope.names.lookup y.1=some .local) (hx:scope.names.lookup x=some .local) (hx₂:scope.names.lookup x₂=some .local) (hxx:x≠x₂)
  (h:wpAny (model prog w) A (eval iter env) (EnSrc prog w A h₀ L env elt x x₂ scope cl f s Q) E s)
  (hs:∀x,foldedSetIterable iter env x=pure x:=by intro _;rfl):
  wpAny (model prog w) A (eval (.ListComp elt [⟨.Tuple [.Name x px,.Name x₂ px₂] tk tp,iter,[],0⟩] scope pos) env) Q E s:=by
 rw[eval_ListComp]
 refine wpAny_comprehension_free (use:=none) rfl hs hclos hkind hnames (wpAny_mono h (fun xv s₁ h₁=> ?_) fun _ _ e=>e)
 obtain ⟨m,e,it,l,vs,bs,c,news,rfl,hei,hle,hli,hh,F,N,hm,hi,hsz,hst,hLe,hLi,he₀,hi₀,off,hs₂,helt,fin⟩:=h₁
 obtain ⟨⟨old,he⟩,hit⟩:=hst
 refine wpAny_pyIter_enum he ?_
 refine block_E f hsz hi hm hei hle hli hcell hkind hx hx₂ hxx hh ⟨⟨old,he⟩,hit⟩ F N hLe hLi he₀ hi₀ off helt hs₂ ?_
 intro D C h tk m' ys F' N' hys hlt hn hC₀ hCL hCD offC
 refine ⟨m',hn,fun h'' hs''=>fin D h'' tk ys (F'.change hs'' hCL hC₀) (fun p hp=> ?_) hys hlt⟩
 refine ⟨hs''.extBut _ _ ?_ (N' p hp).1,(N' p hp).2⟩
 rcases List.mem_cons.mp hp with rfl|hp
 ·exact Ne.symm hCD
 ·exact offC p hp
theorem enSrc_list {elt:Expr} {x x₂:Str} {scope:Scope} {cl:List (Str×Addr)} {Q:Value→Shared→Prop} {f:Nat→Int→Int} {l:Addr} {vs:List Value} {bs:List Int} {c:Nat} {news:List (Addr×Obj)} {s₁:Shared} (hh:A.handled=none)
  (F:Fr h₀ L s₁.heap m) (N:News h₀ L s₁.heap news) (hm:(l,listOf vs.toArray c)∈news) (hi:IntsAre vs bs) (hsz:bs.length≤sizeLine) (hs₁:∃h tk,s₁={s with heap:=h,toks:=tk})
  (helt:∀(i:Nat) (t1 t2:Tok) C oC m₂ h tk (Q' E':Value→Shared→Prop),i<bs.length→NsObj oC m₂→m₂ x=some (.int (i:Int) t1)→m₂ x₂=some (.int (bs.getD i 0) t2)→Fr h₀ L h m→News h₀ L h ((C,oC)::news)→
   (∀t tk',Q' (.int (f i (bs.getD i 0)) t) {s with heap:=h,toks:=tk'})→wpAny (model prog w) A (eval elt (compEnvC scope cl C env)) Q' E' {s with heap:=h,toks:=tk})
  (fin:∀D h tk ys,Fr h₀ L h m→News h₀ L h ((D,lst ys)::news)→IntsAre ys (enMap f bs)→(∀p∈news,p.1<D)→Q (.ref D) {s with heap:=h,toks:=tk}):
  wpAny (model prog w) A (call (.type "enumerate") [.ref l]) (EnSrc prog w A h₀ L env elt x x₂ scope cl f s Q) E s₁:=by
 have hax:=N _ hm
 have hlt:l<s₁.heap.objs.size:=Heap.lt_size hax.1
 have hLs:L<s₁.heap.objs.size:=F.ns.lt
 refine call_enumerate_list (⟨_,hax.1,rfl,c,rfl⟩:s₁.heap.IsList l vs.toArray) fun h' hE hI hsz' hk=> ?_
 obtain ⟨hp,tkp,rfl⟩:=hs₁
 refine ⟨m,_,_,l,vs,bs,c,news,rfl,Nat.succ_ne_self _,ktu_ne 1 hlt,Nat.ne_of_lt hlt,hh,F.keeps hk,N.grown hk,hm,hi,hsz,⟨⟨_,hE⟩,hI⟩,ktu_ne 1 hLs,Nat.ne_of_lt hLs,ktu_new F (Nat.le_add_right _ _),ktu_new F (Nat.le_refl _),
  fun p hp=>⟨ktu_ne 1 (Heap.lt_size (N p hp).1),Nat.ne_of_lt (Heap.lt_size (N p hp).1)⟩,⟨h',_,rfl⟩,helt,fin⟩
end
theorem getD_bound {bs:List Int} (hb:∀b∈bs,0≤b∧b<256) (i:Nat):0≤bs.getD i 0∧bs.getD i 0<256:=by
 rw[List.getD_eq_getElem?_getD]
 by_cases h:i<bs.length
 ·rw[List.getElem?_eq_getElem h];exact hb _ (List.getElem_mem h)
 ·rw[List.getElem?_eq_none (by exact lin (.h 1 (.nt Y1 Y0) (.G 1 (.l Y0 Y1))) rfl [_,_] [] h)];decide
theorem slice_bound {bs:List Int} (hb:∀b∈bs,0≤b∧b<256) {n k:Nat}:∀b∈(bs.drop k).take n,0≤b∧b<256:=fun b h=>hb b (List.mem_of_mem_drop (List.mem_of_mem_take h))
theorem enMap_cons (f:Nat→Int→Int) (b:Int) (l:List Int):enMap f (b::l)=f 0 b::enMap (fun j c=>f (j+1) c) l:=by
 unfold enMap
 rw[List.length_cons,List.range_succ_eq_map,List.map_cons,List.map_map]
 rfl
theorem enMap_scaled:∀(l:List Int) (q:Int),(enMap (fun j b=>b*(256 ^ j*q)) l).sum=q*leNum l
 |[],q=>by simp[enMap,leNum]
 |b::l,q=>by
  rw[enMap_cons,List.sum_cons]
  have h:(fun (j:Nat) (c:Int)=>c*((256:Int) ^ (j+1)*q))=fun j c=>c*(256 ^ j*(256*q)):=by
   funext j c
   rw[Int.pow_succ,Int.mul_assoc]
  rw[h,enMap_scaled l (256*q),leNum,Int.pow_zero,Int.one_mul,Int.mul_add,Int.mul_comm b q,←Int.mul_assoc,Int.mul_comm 256 q,Int.mul_assoc]
theorem enMap_le (l:List Int):(enMap (fun i b=>b*256 ^ i) l).sum=leNum l:=by
 have:=enMap_scaled l 1
 simpa using this
theorem rfld_0 {bs:List Int} {at_:Nat} {g}:rfld bs at_ 0 g=(match rvar bs at_ with| .error f=> .error f| .ok (v,p)=> .ok (.num v,p)):=rfl
theorem rfld_1 {bs:List Int} {at_:Nat} {g}:rfld bs at_ 1 g=(if at_+8≤bs.length then .ok (.num (leNum ((bs.drop at_).take 8)),at_+8) else .error .struct):=rfl
theorem rfld_5 {bs:List Int} {at_:Nat} {g}:rfld bs at_ 5 g=(if at_+4≤bs.length then .ok (.num (leNum ((bs.drop at_).take 4)),at_+4) else .error .struct):=rfl
theorem rfld_2 {bs:List Int} {at_:Nat} {g}:rfld bs at_ 2 g=(match rvar bs at_ with| .error f=> .error f| .ok (v,p)=> .ok (.byt (((bs.drop p).take v.toNat).map fun b=>UInt8.ofNat b.toNat),p+v.toNat)):=rfl
theorem rfld_3 {bs:List Int} {at_:Nat} {g}:rfld bs at_ 3 g=g:=rfl
theorem rfld_4 {bs:List Int} {at_:Nat} {g}:rfld bs at_ 4 g= .error .decode:=rfl
theorem rfld_6 {bs:List Int} {at_:Nat} {g}:rfld bs at_ 6 g= .error .decode:=rfl
theorem rfld_7 {bs:List Int} {at_:Nat} {g}:rfld bs at_ 7 g= .error .decode:=rfl
theorem name_ne (f:Flt):(f.name==Str.ofString "")=false:=by cases f<;>decide
theorem name_ne' (f:Flt):(f.name !=Str.ofString "")=true:=by cases f<;>decide
theorem rvarK_range {bs:List Int} (hb:∀b∈bs,0≤b∧b<256) {at_:Nat}:∀{n k:Nat} {acc v:Int} {p:Nat},rvarK bs at_ n k acc= .ok (v,p)→0≤v∧v<2 ^ 64∧at_+k<p∧p≤bs.length
 |0,_,_,_,_,h=>by simp[rvarK] at h
 |n+1,k,acc,v,p,h=>by
  rw[rvarK] at h
  cases e:bs[at_+k]? with
  |none=>rw[e] at h;simp at h
  |some b=>
   rw[e] at h
   dsimp only at h
   have hl:at_+k<bs.length:=by
    rcases Nat.lt_or_ge (at_+k) bs.length with h2|h2
    ·exact h2
    ·rw[List.getElem?_eq_none h2] at e;cases e
   by_cases c:b<128
   ·rw[if_pos c] at h
    injection h with h
    injection h with h1 h2
    subst h1;subst h2
    exact ⟨Int.emod_nonneg _ (by decide),Int.emod_lt_of_pos _ (by decide),Nat.lt_succ_self _,hl⟩
   ·rw[if_neg c] at h
    have:=rvarK_range hb h
    exact ⟨lin (.h 1 (.L (.c 0) Z0) (.G 1 (.L (.c 0) Z0))) rfl [] [_] this.1,⟨lin (.h 1 (.T Z0 (.c 18446744073709551616)) (.G 1 (.T Z0 (.c 18446744073709551616)))) rfl [] [_] this.2.1,⟨lin (.h 1 (.t (.a Y0 (.a Y1 (.c 1))) Y2) (.G 1 (.t (.a Y0 Y1) Y2))) rfl [_,_,_] [] this.2.2.1,lin (.h 1 (.l Y0 Y1) (.G 1 (.l Y0 Y1))) rfl [_,_] [] this.2.2.2⟩⟩⟩
theorem rvar_range {bs:List Int} (hb:∀b∈bs,0≤b∧b<256) {at_:Nat} {v:Int} {p:Nat} (h:rvar bs at_= .ok (v,p)):0≤v∧v<2 ^ 64∧at_<p∧p≤bs.length:=rvarK_range hb h
theorem take_min_drop {α:Type} {l:List α} {a n:Nat}:List.take (min (a+n) l.length - a) (l.drop a)=(l.drop a).take n:=by
 by_cases h:a+n≤l.length
 ·rw[Nat.min_eq_left h,Nat.add_sub_cancel_left]
 ·rw[Nat.min_eq_right (by exact lin (.h 1 (.nl (.a Y1 Y2) Y0) (.G 1 (.l Y0 (.a Y1 Y2)))) rfl [_,_,_] [] h),List.take_of_length_le (by rw[List.length_drop];(exact lin (.G 1 (.l Y0 Y0)) rfl [_] [])),List.take_of_length_le (by rw[List.length_drop];(exact (Nat.le_total _ _).elim (fun e30=>lin (.h 1 (.nl (.a Y2 Y1) Y3) (.h 1 (.e (.a Y0 Y2) Y3) (.G 1 (.l Y0 Y1)))) rfl [_,_,_,_] [] h (sC (lin (.h 1 (.l Y0 Y1) (.G 1 (.l Y0 Y1))) rfl [_,_] [] e30))) (fun e30=>lin (.h 1 (.e Y0 (.c 0)) (.G 1 (.l Y0 Y1))) rfl [_,_] [] (Nat.sub_eq_zero_of_le (lin (.h 1 (.l Y0 Y1) (.G 1 (.l Y0 Y1))) rfl [_,_] [] e30)))))]
theorem take_min_drop2 {α:Type} {l:List α} {i j:Nat}:List.take (min j l.length - i) (l.drop i)=(l.take j).drop i:=by
 rw[List.drop_take]
 by_cases h:j≤l.length
 ·rw[Nat.min_eq_left h]
 ·rw[Nat.min_eq_right (by exact lin (.h 1 (.nl Y1 Y0) (.G 1 (.l Y0 Y1))) rfl [_,_] [] h),List.take_of_length_le (by rw[List.length_drop];(exact lin (.G 1 (.l Y0 Y0)) rfl [_] [])),List.take_of_length_le (by rw[List.length_drop];(exact (Nat.le_total _ _).elim (fun e30=>lin (.h 1 (.nl Y2 Y3) (.h 1 (.e (.a Y0 Y4) Y3) (.h 1 (.d (.a Y1 Y4) Y2) (.G 1 (.l Y0 Y1))))) rfl [_,_,_,_,_] [] h (sC (lin (.h 1 (.l Y0 Y1) (.G 1 (.l Y0 Y1))) rfl [_,_] [] e30)) (sC (lin (.h 1 (.nl Y1 Y2) (.h 1 (.l Y0 Y2) (.G 1 (.l Y0 Y1)))) rfl [_,_,_] [] h e30))) (fun e30=>lin (.h 1 (.e Y0 (.c 0)) (.G 1 (.l Y0 Y1))) rfl [_,_] [] (Nat.sub_eq_zero_of_le (lin (.h 1 (.l Y0 Y1) (.G 1 (.l Y0 Y1))) rfl [_,_] [] e30)))))]
theorem rtag_range {bs:List Int} (hb:∀b∈bs,0≤b∧b<256) {at_:Nat} {v:Int} {p:Nat} (h:rtag bs at_= .ok (v,p)):0≤v∧v<2 ^ 64∧at_<p∧p≤bs.length:=by
 unfold rtag at h
 by_cases c:bs.length≤tend bs at_
 ·rw[if_pos c] at h;cases h
 ·rw[if_neg c] at h
  have:=rvar_range (fun b hh=>hb b (List.mem_of_mem_take hh)) h
  rw[List.length_take] at this
  exact ⟨lin (.h 1 (.L (.c 0) Z0) (.G 1 (.L (.c 0) Z0))) rfl [] [_] this.1,⟨lin (.h 1 (.T Z0 (.c 18446744073709551616)) (.G 1 (.T Z0 (.c 18446744073709551616)))) rfl [] [_] this.2.1,⟨lin (.h 1 (.t Y0 Y1) (.G 1 (.t Y0 Y1))) rfl [_,_] [] this.2.2.1,lin (.h 1 (.l Y0 Y2) (.h 1 (.l Y2 Y1) (.G 1 (.l Y0 Y1)))) rfl [_,_,_] [] this.2.2.2 (Nat.min_le_right _ _)⟩⟩⟩
theorem rset_succ (bs:List Int) (end_ n at_ lv:Nat):rset bs end_ (n+1) at_ lv=(if at_<end_ then
   match rtag bs at_ with
   | .error f=> .error f
   | .ok (tag,p)=>if tag % 8=4 then .ok ([],p,tag / 8) else
    match rcut end_ (rfld bs p (tag % 8) (if 100≤lv+1 then .error .decode else rgrp (rset bs end_ n p (lv+1)) bs (tag / 8))) with
    | .error f=> .error f
    | .ok (d,q)=>addRow (tag / 8,tag % 8,d) (rset bs end_ n q lv)
  else .ok ([],at_,-1)):=by rw[rset];try rfl
theorem rcut_ok {end_:Nat} {o:Except Flt (Dat×Nat)} {d:Dat} {q:Nat} (h:rcut end_ o= .ok (d,q)):q≤end_∧o= .ok (d,q):=by
 cases o with
 |error f=>cases h
 |ok v=>
  obtain ⟨x,p⟩:=v
  unfold rcut at h
  dsimp only at h
  by_cases c:end_<p
  ·rw[if_pos c] at h;cases h
  ·rw[if_neg c] at h;cases h;exact ⟨by exact lin (.h 1 (.nt Y1 Y0) (.G 1 (.l Y0 Y1))) rfl [_,_] [] c,rfl⟩
theorem addRow_ok {r:Rw} {o:Except Flt (List Rw×Nat×Int)} {rows:List Rw} {p:Nat} {c:Int} (h:addRow r o= .ok (rows,p,c)):∃rs,o= .ok (rs,p,c)∧rows=r::rs:=by
 cases o with
 |error f=>cases h
 |ok v=>obtain ⟨a,b,c⟩:=v;cases h;exact ⟨a,rfl,rfl⟩
theorem rgrp_ok {rec:Except Flt (List Rw×Nat×Int)} {bs:List Int} {num:Int} {d:Dat} {q:Nat} (h:rgrp rec bs num= .ok (d,q)):∃g,rec= .ok (g,q,num)∧d= .grp g:=by
 cases rec with
 |error f=>cases h
 |ok v=>
  obtain ⟨g,a,c⟩:=v
  unfold rgrp at h
  dsimp only at h
  split at h
  ·split at h
   ·rename_i e;cases h;exact ⟨g,by rw[e],rfl⟩
   ·cases h
  ·cases h
inductive FdR (bs:List Int) (G:List Rw→Nat→Prop) (q:Nat):Int→Dat→Nat→Prop
 |num {v p}:rvar bs q= .ok (v,p)→FdR bs G q 0 (.num v) p
 |f8:q+8≤bs.length→FdR bs G q 1 (.num (leNum ((bs.drop q).take 8))) (q+8)
 |f4:q+4≤bs.length→FdR bs G q 5 (.num (leNum ((bs.drop q).take 4))) (q+4)
 |byt {v p}:rvar bs q= .ok (v,p)→FdR bs G q 2 (.byt (((bs.drop p).take v.toNat).map fun b=>UInt8.ofNat b.toNat)) (p+v.toNat)
 |grp {g p}:G g p→FdR bs G q 3 (.grp g) p
theorem rfld_R {bs:List Int} {G:List Rw→Nat→Prop} {q:Nat} {w:Int} {gr:Except Flt (Dat×Nat)} (hg:∀d p,gr= .ok (d,p)→∃g,d= .grp g∧G g p) {d:Dat} {q2:Nat} (h:rfld bs q w gr= .ok (d,q2)):FdR bs G q w d q2:=by
 unfold rfld at h
 by_cases c0:w=0
 ·subst c0
  rw[if_pos rfl] at h
  cases e:rvar bs q with
  |error f=>rw[e] at h;cases h
  |ok v=>obtain ⟨x,p⟩:=v;rw[e] at h;cases h;exact .num e
 rw[if_neg c0] at h
 by_cases c1:w=1
 ·subst c1
  rw[if_pos rfl] at h
  by_cases c:q+8≤bs.length
  ·rw[if_pos c] at h;cases h;exact .f8 c
  ·rw[if_neg c] at h;cases h
 rw[if_neg c1] at h
 by_cases c5:w=5
 ·subst c5
  rw[if_pos rfl] at h
  by_cases c:q+4≤bs.length
  ·rw[if_pos c] at h;cases h;exact .f4 c
  ·rw[if_neg c] at h;cases h
 rw[if_neg c5] at h
 by_cases c2:w=2
 ·subst c2
  rw[if_pos rfl] at h
  cases e:rvar bs q with
  |error f=>rw[e] at h;cases h
  |ok v=>obtain ⟨x,p⟩:=v;rw[e] at h;cases h;exact .byt e
 rw[if_neg c2] at h
 by_cases c3:w=3
 ·subst c3
  rw[if_pos rfl] at h
  obtain ⟨g,rfl,hG⟩:=hg _ _ h
  exact .grp hG
 rw[if_neg c3] at h
 cases h
theorem FdR.ge {bs:List Int} (hb:∀b∈bs,0≤b∧b<256) {G:List Rw→Nat→Prop} {q:Nat} {w:Int} {d:Dat} {q2:Nat} (hG:∀g p,G g p→q≤p) (h:FdR bs G q w d q2):q≤q2:=by
 cases h with
 |num e=>exact Nat.le_of_lt (rvar_range hb e).2.2.1
 |f8 _=>exact Nat.le_add_right _ _
 |f4 _=>exact Nat.le_add_right _ _
 |byt e=>exact Nat.le_trans (Nat.le_of_lt (rvar_range hb e).2.2.1) (Nat.le_add_right _ _)
 |grp h=>exact hG _ _ h
theorem FdR.or {bs:List Int} {G:List Rw→Nat→Prop} {q:Nat} {w:Int} {d:Dat} {q2:Nat} (h:FdR bs G q w d q2):(∃g,w=3∧d= .grp g∧G g q2)∨FdR bs (fun _ _=>False) q w d q2:=by
 cases h with
 |num e=>exact .inr (.num e)
 |f8 e=>exact .inr (.f8 e)
 |f4 e=>exact .inr (.f4 e)
 |byt e=>exact .inr (.byt e)
 |grp h=>exact .inl ⟨_,rfl,rfl,h⟩
inductive RS (bs:List Int) (en:Nat):Nat→Nat→List Rw→Nat→Int→Prop
 |fin {lv k}:RS bs en lv k [] k (-1)
 |stop {lv k t p}:rtag bs k= .ok (t,p)→t % 8=4→RS bs en lv k [] p (t / 8)
 |row {lv k t q w x q2 rs p c}:rtag bs k= .ok (t,q)→t % 8=w→FdR bs (fun _ _=>False) q w x q2→q2≤en→RS bs en lv q2 rs p c→RS bs en lv k ((t / 8,t % 8,x)::rs) p c
 |grp {lv k t q g q2 rs p c}:rtag bs k= .ok (t,q)→t % 8=3→lv+1<100→q2≤en→RS bs en (lv+1) q g q2 (t / 8)→RS bs en lv q2 rs p c→RS bs en lv k ((t / 8,t % 8,.grp g)::rs) p c
theorem grp_R {P:Prop} [Decidable P] {rec:Except Flt (List Rw×Nat×Int)} {bs:List Int} {num:Int} {d:Dat} {q:Nat} (h:(if P then Except.error Flt.decode else rgrp rec bs num)= .ok (d,q)):∃g,d= .grp g∧¬ P∧rec= .ok (g,q,num):=by
 by_cases c:P
 ·rw[if_pos c] at h;cases h
 ·rw[if_neg c] at h
  obtain ⟨g,e,rfl⟩:=rgrp_ok h
  exact ⟨g,rfl,c,e⟩
theorem rset_R {bs:List Int} {en n:Nat}:∀{k lv:Nat} {rows:List Rw} {p:Nat} {c:Int},rset bs en n k lv= .ok (rows,p,c)→RS bs en lv k rows p c:=by
 induction n with
 |zero=>intro _ _ _ _ _ h;cases h
 |succ n ih=>
  intro k lv rows p c h
  rw[rset_succ] at h
  by_cases hk:k<en
  ·rw[if_pos hk] at h
   cases e:rtag bs k with
   |error f=>rw[e] at h;cases h
   |ok v=>
    obtain ⟨t,q⟩:=v
    rw[e] at h
    dsimp only at h
    by_cases h4:t % 8=4
    ·rw[if_pos h4] at h;cases h;exact .stop e h4
    ·rw[if_neg h4] at h
     generalize e2:rcut en _=o at h
     cases o with
     |error f=>cases h
     |ok v2=>
      obtain ⟨x,q2⟩:=v2
      obtain ⟨rs,h3,rfl⟩:=addRow_ok h
      obtain ⟨hq,hf⟩:=rcut_ok e2
      rcases (rfld_R (G:=fun g p=>lv+1<100∧RS bs en (lv+1) q g p (t / 8)) (fun d p hh=>by
       obtain ⟨g,e1,e2,e3⟩:=grp_R hh
       exact ⟨g,e1,Nat.lt_of_not_le e2,ih e3⟩) hf).or with ⟨g,e3,rfl,hl,hg⟩|hr
      ·exact .grp e e3 hl hq hg (ih h3)
      ·exact .row e rfl hr hq (ih h3)
  ·rw[if_neg hk] at h;cases h;exact .fin
theorem RS.ge {bs:List Int} (hb:∀b∈bs,0≤b∧b<256) {en k lv:Nat} {rows:List Rw} {p:Nat} {c:Int} (h:RS bs en lv k rows p c):k≤p:=by
 induction h with
 |fin=>exact Nat.le_refl _
 |stop e _=>exact Nat.le_of_lt (rtag_range hb e).2.2.1
 |row e _ f _ _ ih=>exact Nat.le_trans (Nat.le_of_lt (rtag_range hb e).2.2.1) (Nat.le_trans (f.ge hb fun _ _ h=>h.elim) ih)
 |grp e _ _ _ _ _ i1 i2=>exact Nat.le_trans (Nat.le_of_lt (rtag_range hb e).2.2.1) (Nat.le_trans i1 i2)
theorem RS.gt {bs:List Int} (hb:∀b∈bs,0≤b∧b<256) {en k lv:Nat} {rows:List Rw} {p:Nat} {c:Int} (h:RS bs en lv k rows p c):0≤c→k<p:=by
 induction h with
 |fin=>exact fun h=>absurd h (by decide)
 |stop e _=>exact fun _=>(rtag_range hb e).2.2.1
 |row e _ f _ h _=>exact fun _=>Nat.lt_of_lt_of_le (rtag_range hb e).2.2.1 (Nat.le_trans (f.ge hb fun _ _ h=>h.elim) (h.ge hb))
 |grp e _ _ _ g h _ _=>exact fun _=>Nat.lt_of_lt_of_le (rtag_range hb e).2.2.1 (Nat.le_trans (g.ge hb) (h.ge hb))
theorem RS.hi {bs:List Int} (hb:∀b∈bs,0≤b∧b<256) {en k lv:Nat} {rows:List Rw} {p:Nat} {c:Int} (h:RS bs en lv k rows p c):p≤max k (max en bs.length):=by
 have w:∀{q2 p k:Nat},q2≤en→p≤max q2 (max en bs.length)→p≤max k (max en bs.length):=fun h1 h2=>Nat.le_trans h2 (Nat.max_le.mpr ⟨Nat.le_trans h1 (Nat.le_trans (Nat.le_max_left _ _) (Nat.le_max_right _ _)),Nat.le_max_right _ _⟩)
 induction h with
 |fin=>exact Nat.le_max_left _ _
 |stop e _=>exact Nat.le_trans (rtag_range hb e).2.2.2 (Nat.le_trans (Nat.le_max_right _ _) (Nat.le_max_right _ _))
 |row _ _ _ hq _ ih=>exact w hq ih
 |grp _ _ _ hq _ _ _ ih=>exact w hq ih
theorem rset_ge {bs:List Int} (hb:∀b∈bs,0≤b∧b<256) {en n k lv:Nat} {rows:List Rw} {p:Nat} {c:Int} (h:rset bs en n k lv= .ok (rows,p,c)):k≤p:=(rset_R h).ge hb
theorem row_ge {bs:List Int} (hb:∀b∈bs,0≤b∧b<256) {en n q lv:Nat} {num w:Int} {d:Dat} {q2:Nat} {P:Prop} [Decidable P] (h:rfld bs q w (if P then Except.error Flt.decode else rgrp (rset bs en n q lv) bs num)= .ok (d,q2)):q≤q2:=
 (rfld_R (G:=fun _ p=>q≤p) (fun _ _ hh=>by
  obtain ⟨g,e1,_,e3⟩:=grp_R hh
  exact ⟨g,e1,rset_ge hb e3⟩) h).ge hb fun _ _ h=>h
theorem clip_nat {n:Nat} {x:Int} (h:0≤x):clipAt n x=min x.toNat n:=by
 obtain ⟨k,rfl⟩:=Int.eq_ofNat_of_zero_le h
 exact clipAt_nat _ _
theorem picked_B {l:List UInt8} {x y:Int} (hx:0≤x) (hy:0≤y):KBy.picked l.toArray (some x) (some y)=((l.take y.toNat).drop x.toNat).toArray:=by
 rw[KBc.picked_eq]
 show ((l.drop (clipAt l.toArray.size x)).take (clipAt l.toArray.size y - clipAt l.toArray.size x)).toArray=_
 rw[clip_nat hx,clip_nat hy,List.size_toArray,kmk_drop_min,show min y.toNat l.length - min x.toNat l.length=min y.toNat l.length - x.toNat by exact Nat.le_antisymm ((Nat.le_total _ _).elim (fun e30=>(Nat.le_total _ _).elim (fun e21=>(Nat.le_total _ _).elim (fun e12=>lin (.h 1 (.e (.a Y0 Y2) Y3) (.h 1 (.d Y2 Y4) (.h 1 (.l Y3 Y4) (.G 1 (.l Y0 Y1))))) rfl [_,_,_,_,_] [] (sC (lin (.h 1 (.l Y0 Y1) (.G 1 (.l Y0 Y1))) rfl [_,_] [] e30)) (Nat.min_eq_right (lin (.h 1 (.l Y0 Y1) (.G 1 (.l Y0 Y1))) rfl [_,_] [] e12)) (Nat.min_le_right _ _)) (fun e12=>lin (.h 1 (.e (.a Y0 Y2) Y3) (.h 1 (.d (.a Y1 Y4) Y3) (.h 1 (.d Y2 Y4) (.G 1 (.l Y0 Y1))))) rfl [_,_,_,_,_] [] (sC (lin (.h 1 (.l Y0 Y1) (.G 1 (.l Y0 Y1))) rfl [_,_] [] e30)) (sC (lin (.h 1 (.l Y0 Y1) (.G 1 (.l Y0 Y1))) rfl [_,_] [] e21)) (Nat.min_eq_left (lin (.h 1 (.l Y0 Y1) (.G 1 (.l Y0 Y1))) rfl [_,_] [] e12)))) (fun e21=>(Nat.le_total _ _).elim (fun e12=>lin (.h 1 (.e (.a Y0 Y2) Y3) (.h 1 (.d Y1 (.c 0)) (.h 1 (.d Y2 Y4) (.h 1 (.l Y3 Y4) (.G 1 (.l Y0 Y1)))))) rfl [_,_,_,_,_] [] (sC (lin (.h 1 (.l Y0 Y1) (.G 1 (.l Y0 Y1))) rfl [_,_] [] e30)) (Nat.sub_eq_zero_of_le (lin (.h 1 (.l Y0 Y1) (.G 1 (.l Y0 Y1))) rfl [_,_] [] e21)) (Nat.min_eq_right (lin (.h 1 (.l Y0 Y1) (.G 1 (.l Y0 Y1))) rfl [_,_] [] e12)) (Nat.min_le_right _ _)) (fun e12=>lin (.h 1 (.e (.a Y0 Y2) Y3) (.h 1 (.l Y3 (.a Y1 Y4)) (.h 1 (.d Y2 Y4) (.G 1 (.l Y0 Y1))))) rfl [_,_,_,_,_] [] (sC (lin (.h 1 (.l Y0 Y1) (.G 1 (.l Y0 Y1))) rfl [_,_] [] e30)) (sub_up _ _) (Nat.min_eq_left (lin (.h 1 (.l Y0 Y1) (.G 1 (.l Y0 Y1))) rfl [_,_] [] e12))))) (fun e30=>lin (.h 1 (.e Y0 (.c 0)) (.G 1 (.l Y0 Y1))) rfl [_,_] [] (Nat.sub_eq_zero_of_le (lin (.h 1 (.l Y0 Y1) (.G 1 (.l Y0 Y1))) rfl [_,_] [] e30)))) ((Nat.le_total _ _).elim (fun e30=>lin (.h 1 (.e (.a Y0 Y2) Y3) (.h 1 (.l Y3 (.a Y1 Y4)) (.h 1 (.e Y4 Y2) (.G 1 (.l Y0 Y1))))) rfl [_,_,_,_,_] [] (sC (lin (.h 1 (.l Y0 Y1) (.G 1 (.l Y0 Y1))) rfl [_,_] [] e30)) (sub_up _ _) (Nat.min_eq_left (lin (.h 1 (.l Y0 Y2) (.h 1 (.l Y2 Y1) (.G 1 (.l Y0 Y1)))) rfl [_,_,_] [] e30 (Nat.min_le_right _ _)))) (fun e30=>lin (.h 1 (.e Y0 (.c 0)) (.G 1 (.l Y0 Y1))) rfl [_,_] [] (Nat.sub_eq_zero_of_le (lin (.h 1 (.l Y0 Y1) (.G 1 (.l Y0 Y1))) rfl [_,_] [] e30)))),take_min_drop2]
section
variable {prog:Program} {w:World} {A:Around} {E:Value→Shared→Prop} {s:Shared} {value slice:PySem.Expr} {t u v:Tok} {h₀:Heap} {L:Addr} {m:PySem.Str→Option Value} {news:List (Addr×Obj)} {Q:Value→Shared→Prop}
theorem slice_B {l:List UInt8} {x y:Int} (F:Fr h₀ L s.heap m) (N:News h₀ L s.heap news) (hx:0≤x) (hy:0≤y) (hz:l.length≤16777216)
  (h:∀h' t' k,Fr h₀ L h' m→News h₀ L h' news→Q (.bytes ((l.take y.toNat).drop x.toNat).toArray t') {s with heap:=h',toks:=k})
  (hs:subscripted slice false (.bytes l.toArray t) (.ref s.heap.objs.size)=operate [.ref s.heap.objs.size,.bytes l.toArray t] (getItem (.bytes l.toArray t) (.ref s.heap.objs.size)):=by with_unfolding_all rfl)
  (ht:∀r,letTemporaryGo value (.bytes l.toArray t) r=pure ():=by intro _;with_unfolding_all rfl):
  wpAny (model prog w) A (subscriptTail value slice (.bytes l.toArray t) (.ref s.heap.objs.size)) Q E {s with heap:=s.heap.push {cls:= .type "slice",data:= .fields #[.int x u,.int y v,.none]}}:=
 KBc.slice_K F N (ks:=ub l) rfl (IsPart.int _ _) (IsPart.int _ _) (by rw[ub_length];exact hz) (fun h' t' k F' N' _=>by rw[picked_B hx hy];exact h h' t' k F' N') hs ht
end
theorem fold_le (l:List Int):List.foldl (fun a k=>a*256+k) 0 l.reverse=leNum l:=by
 rw[List.foldl_reverse]
 induction l with
 |nil=>rfl
 |cons b l ih=>rw[List.foldr_cons,ih,leNum];(exact Int.le_antisymm (lin (.G 1 (.L (.a (.m Z0 256) Z1) (.a Z1 (.r 256 Z0)))) rfl [] [_,_]) (lin (.G 1 (.L (.a Z0 (.r 256 Z1)) (.a (.m Z1 256) Z0))) rfl [] [_,_]))
theorem ub_slice (l:List UInt8) (a n:Nat):ub ((l.drop a).take n)=((ub l).drop a).take n:=by
 unfold ub;rw[List.map_take,List.map_drop]
theorem or_tag {y:Int} (hy:0≤y):Builtin.bitOr (y*2 ^ ((3:Int)).toNat) 4=y*8+4:=by
 rw[bitOr_and]
 have e:Builtin.bitAnd (y*2 ^ ((3:Int)).toNat) 4=0:=by
  obtain ⟨b,rfl⟩:=Int.eq_ofNat_of_zero_le hy
  have hm:(b:Int)*2 ^ ((3:Int)).toNat=((b*2 ^ 3:Nat):Int):=by push_cast;rfl
  have hp:(0:Int)≤((b*2 ^ 3:Nat):Int):=Int.natCast_nonneg _
  rw[hm]
  unfold Builtin.bitAnd
  simp only[decide_eq_true hp,show decide ((0:Int)≤4)=true from rfl,Int.toNat_natCast]
  rw[Nat.and_comm,show ((4:Int)).toNat=4 from rfl,nat_and_high (by decide)];rfl
 rw[e]
 show y*8+4 - 0=_
 exact Int.le_antisymm (lin (.G 1 (.L (.s (.a (.m Z0 8) (.c 4)) (.c 0)) (.a (.m Z0 8) (.c 4)))) rfl [] [_]) (lin (.G 1 (.L (.a (.m Z0 8) (.c 4)) (.s (.a (.m Z0 8) (.c 4)) (.c 0)))) rfl [] [_])
theorem tailNe {h₀ h:Heap} {L x:Addr} {o:Obj} {rest:Led} (_:News h₀ L h ((x,o)::rest)) (k:∀p∈rest,p.1≠x):∀p∈rest,p.1≠x:=k
theorem or128 {b:Int} (h0:0≤b) (h1:b<128):Builtin.bitOr 128 b=b+128:=by
 obtain ⟨k,rfl⟩:=Int.eq_ofNat_of_zero_le h0
 rw[bitOr_and]
 have e:Builtin.bitAnd 128 (k:Int)=0:=by
  unfold Builtin.bitAnd
  simp only[decide_eq_true (Int.natCast_nonneg k),show decide ((0:Int)≤128)=true from rfl,Int.toNat_natCast]
  rw[Nat.and_comm,show ((128:Int)).toNat=1*2 ^ 7 from rfl,nat_and_high (by exact lin (.h 1 (.T Y0 (.c 128)) (.G 1 (.t Y0 (.c 128)))) rfl [_] [] h1)];rfl
 rw[e];(exact Int.le_antisymm (lin (.G 1 (.L (.s (.a (.c 128) Y0) (.c 0)) (.a Y0 (.c 128)))) rfl [_] []) (lin (.G 1 (.L (.a Y0 (.c 128)) (.s (.a (.c 128) Y0) (.c 0)))) rfl [_] []))
theorem Each.map {α β γ:Type} {R:α→β→Prop} {S:γ→β→Prop} (f:α→γ) (h:∀a b,R a b→S (f a) b) {l:List α} {k:List β} (e:Each R l k):Each S (l.map f) k:=by
 induction e with
 |nil=>exact .nil
 |cons x _ ih=>exact .cons (h _ _ x) ih
theorem flatten_single {α β:Type} (g:α→β):∀l:List α,(l.map fun x=>[g x]).flatten=l.map g
 |[]=>rfl
 |a::l=>by rw[List.map_cons,List.flatten_cons,flatten_single g l];rfl
noncomputable def byteL (l:List Int):List UInt8:=l.map fun x=>UInt8.ofNat x.toNat
theorem ub_byteL {l:List Int} (h:∀x∈l,0≤x∧x<256):ub (byteL l)=l:=by
 unfold ub byteL
 rw[List.map_map]
 have e:∀x∈l,((fun c:UInt8=>((c.toNat:Nat):Int)) ∘ fun x:Int=>UInt8.ofNat x.toNat) x=x:=fun x hx=>by
  have:=h x hx
  show (((UInt8.ofNat x.toNat).toNat:Nat):Int)=x
  rw[UInt8.toNat_ofNat'];omega
 exact (List.map_congr_left (g:=_root_.id) e).trans (List.map_id _)
theorem vint_bound:∀(n:Nat) {v:Int},v.toNat≤n→0≤v→∀x∈vint v,0≤x∧x<256
 |n,v,hn,h0,x,hx=>by
  rw[vint] at hx
  by_cases c:127<v
  ·simp only[c,dite_true] at hx
   rcases List.mem_cons.mp hx with rfl|hx
   ·exact ⟨lin (.h 1 (.L (.c 0) Z0) (.G 1 (.L (.c 0) (.a Z0 (.c 128))))) rfl [] [_] (Int.emod_nonneg _ (by decide)),lin (.h 1 (.T Z0 (.c 128)) (.G 1 (.T (.a Z0 (.c 128)) (.c 256)))) rfl [] [_] (Int.emod_lt_of_pos _ (by decide))⟩
   ·cases n with
    |zero=>(exact ⟨False.elim (lin (.h 1 (.T (.c 127) Z0) (.h 1 (.l Y0 (.c 0)) (.h 1 (.D Y0 Z0) .F))) rfl [_] [_] c hn (Int.toNat_of_nonneg (lin (.h 1 (.T (.c 127) Z0) (.G 1 (.L (.c 0) Z0))) rfl [] [_] c))),False.elim (lin (.h 1 (.T (.c 127) Z0) (.h 1 (.l Y0 (.c 0)) (.h 1 (.D Y0 Z0) .F))) rfl [_] [_] c hn (Int.toNat_of_nonneg (lin (.h 1 (.T (.c 127) Z0) (.G 1 (.L (.c 0) Z0))) rfl [] [_] c)))⟩)
    |succ n=>exact vint_bound n (by exact lin (.h 1 (.l Y2 (.a Y1 (.c 1))) (.h 1 (.E (.a (.r 128 Z0) Z1) Z2) (.h 1 (.L (.c 0) Z1) (.h 128 (.E Y0 Z0) (.h 1 (.D Y2 Z2) (.G 128 (.l Y0 Y1))))))) rfl [_,_,_] [_,_,_] hn (Int.mul_ediv_add_emod _ _) (Int.emod_nonneg _ (by decide)) (Int.toNat_of_nonneg (lin (.h 1 (.T (.c 127) Z1) (.h 1 (.D (.a (.r 128 Z0) Z2) Z1) (.h 1 (.T Z2 (.c 128)) (.G 128 (.L (.c 0) Z0))))) rfl [] [_,_,_] c (Int.mul_ediv_add_emod _ _) (Int.emod_lt_of_pos _ (by decide)))) (Int.toNat_of_nonneg (lin (.h 1 (.T (.c 127) Z0) (.G 1 (.L (.c 0) Z0))) rfl [] [_] c))) (by exact lin (.h 1 (.T (.c 127) Z1) (.h 1 (.D (.a (.r 128 Z0) Z2) Z1) (.h 1 (.T Z2 (.c 128)) (.G 128 (.L (.c 0) Z0))))) rfl [] [_,_,_] c (Int.mul_ediv_add_emod _ _) (Int.emod_lt_of_pos _ (by decide))) x hx
  ·simp only[c,dite_false] at hx
   rw[List.mem_singleton.mp hx];(exact ⟨lin (.h 1 (.L (.c 0) Z0) (.G 1 (.L (.c 0) Z0))) rfl [] [_] h0,lin (.h 1 (.nT (.c 127) Z0) (.G 1 (.T Z0 (.c 256)))) rfl [] [_] c⟩)
noncomputable def rtagB (bf:List UInt8) (at_:Nat):Except Flt (List UInt8×Nat):=if bf.length≤tend (ub bf) at_ then .error .index else .ok ((bf.take (tend (ub bf) at_+1)).drop at_,tend (ub bf) at_+1)
theorem rvarK_drop (l:List Int) (a:Nat):∀(n k:Nat) (acc:Int),rvarK (l.drop a) 0 n k acc=match rvarK l a n k acc with| .ok (v,p)=> .ok (v,p - a)| .error f=> .error f
 |0,_,_=>rfl
 |n+1,k,acc=>by
  rw[rvarK,rvarK,Nat.zero_add,List.getElem?_drop]
  cases l[a+k]? with
  |none=>rfl
  |some b=>
   dsimp only
   by_cases c:b<128
   ·rw[if_pos c,if_pos c]
    dsimp only
    rw[show a+k+1 - a=k+1 by (exact Nat.le_antisymm (lin (.h 1 (.e (.a Y0 Y2) (.a (.a Y2 Y1) (.c 1))) (.G 1 (.l Y0 (.a Y1 (.c 1))))) rfl [_,_,_] [] (sC (lin (.G 1 (.l Y0 (.a (.a Y0 Y1) (.c 1)))) rfl [_,_] []))) (lin (.h 1 (.d (.a Y1 Y2) (.a (.a Y2 Y0) (.c 1))) (.G 1 (.l (.a Y0 (.c 1)) Y1))) rfl [_,_,_] [] (sC (lin (.G 1 (.l Y0 (.a (.a Y0 Y1) (.c 1)))) rfl [_,_] []))))]
   ·rw[if_neg c,if_neg c]
    exact rvarK_drop l a n (k+1) _
theorem tend_lt (bs:List Int):∀(d at_ i:Nat),i - at_≤d→at_≤i→i<tend bs at_→127<bs.getD i 0:=by
 intro d
 induction d with
 |zero=>
  intro at_ i hd hle hlt
  have:i=at_:=by exact Nat.le_antisymm (lin (.h 1 (.l Y2 (.c 0)) (.h 1 (.d (.a Y2 Y1) Y0) (.G 1 (.l Y0 Y1)))) rfl [_,_,_] [] hd (sC (lin (.h 1 (.l Y0 Y1) (.G 1 (.l Y0 Y1))) rfl [_,_] [] hle))) (lin (.h 1 (.l Y0 Y1) (.G 1 (.l Y0 Y1))) rfl [_,_] [] hle)
  subst this
  by_cases h:i<bs.length
  ·by_cases c:127<bs.getD i 0
   ·exact c
   ·rw[tend_low h c] at hlt;(exact False.elim (lin (.h 1 (.t Y0 Y0) .F) rfl [_] [] hlt))
  ·rw[tend_out (by exact lin (.h 1 (.nt Y1 Y0) (.G 1 (.l Y0 Y1))) rfl [_,_] [] h)] at hlt;(exact False.elim (lin (.h 1 (.t Y0 Y0) .F) rfl [_] [] hlt))
 |succ d ih=>
  intro at_ i hd hle hlt
  by_cases e:at_=i
  ·subst e
   by_cases h:at_<bs.length
   ·by_cases c:127<bs.getD at_ 0
    ·exact c
    ·rw[tend_low h c] at hlt;(exact False.elim (lin (.h 1 (.t Y0 Y0) .F) rfl [_] [] hlt))
   ·rw[tend_out (by exact lin (.h 1 (.nt Y1 Y0) (.G 1 (.l Y0 Y1))) rfl [_,_] [] h)] at hlt;(exact False.elim (lin (.h 1 (.t Y0 Y0) .F) rfl [_] [] hlt))
  ·by_cases h:at_<bs.length
   ·by_cases c:127<bs.getD at_ 0
    ·rw[tend_high h c] at hlt
     exact ih (at_+1) i (by exact (Nat.lt_or_gt_of_ne e).elim (fun e30=>lin (.h 1 (.l Y2 (.a Y1 (.c 1))) (.h 1 (.e (.a Y0 (.a Y3 (.c 1))) Y4) (.h 1 (.d (.a Y2 Y3) Y4) (.G 1 (.l Y0 Y1))))) rfl [_,_,_,_,_] [] hd (sC (lin (.h 1 (.t Y0 Y1) (.G 1 (.l (.a Y0 (.c 1)) Y1))) rfl [_,_] [] e30)) (sC (lin (.h 1 (.t Y0 Y1) (.G 1 (.l Y0 Y1))) rfl [_,_] [] e30))) (fun e30=>lin (.h 1 (.e Y0 (.c 0)) (.G 1 (.l Y0 Y1))) rfl [_,_] [] (Nat.sub_eq_zero_of_le (lin (.h 1 (.t Y0 Y1) (.G 1 (.l Y0 (.a Y1 (.c 1))))) rfl [_,_] [] e30)))) (by exact (Nat.lt_or_gt_of_ne e).elim (fun e30=>lin (.h 1 (.t Y0 Y1) (.G 1 (.l (.a Y0 (.c 1)) Y1))) rfl [_,_] [] e30) (fun e30=>False.elim (lin (.h 1 (.l Y0 Y1) (.h 1 (.t Y1 Y0) .F)) rfl [_,_] [] hle e30))) hlt
    ·rw[tend_low h c] at hlt;(exact False.elim (lin (.h 1 (.l Y0 Y1) (.h 1 (.t Y1 Y0) .F)) rfl [_,_] [] hle hlt))
   ·rw[tend_out (by exact lin (.h 1 (.nt Y1 Y0) (.G 1 (.l Y0 Y1))) rfl [_,_] [] h)] at hlt;(exact False.elim (lin (.h 1 (.l Y0 Y1) (.h 1 (.t Y1 Y0) .F)) rfl [_,_] [] hle hlt))
theorem rvarK_last {l:List Int} (hb:∀b∈l,0≤b∧b<256) {at_:Nat}:∀{n k:Nat} {acc v:Int} {p:Nat},0≤acc→acc<128 ^ k→rvarK l at_ n k acc= .ok (v,p)→∃j,p=at_+j+1∧k≤j∧l.getD (at_+j) 0<128∧v<128 ^ (j+1)∧at_+j<l.length
 |0,_,_,_,_,_,_,h=>by simp[rvarK] at h
 |n+1,k,acc,v,p,h0,h1,h=>by
  rw[rvarK] at h
  cases e:l[at_+k]? with
  |none=>rw[e] at h;simp at h
  |some b=>
   rw[e] at h
   dsimp only at h
   have hl:at_+k<l.length:=by
    rcases Nat.lt_or_ge (at_+k) l.length with h2|h2
    ·exact h2
    ·rw[List.getElem?_eq_none h2] at e;cases e
   have hg:l.getD (at_+k) 0=b:=by rw[List.getD_eq_getElem?_getD,e];rfl
   have hpos:(0:Int)<128 ^ k:=Int.pow_pos (by decide)
   have hm0:0≤b % 128:=Int.emod_nonneg _ (by decide)
   have hm1:b % 128<128:=Int.emod_lt_of_pos _ (by decide)
   have hmul0:0≤b % 128*128 ^ k:=Int.mul_nonneg hm0 (Int.le_of_lt hpos)
   have hmul1:b % 128*128 ^ k≤127*128 ^ k:=Int.mul_le_mul_of_nonneg_right (by exact lin (.h 1 (.T Z0 (.c 128)) (.G 1 (.L Z0 (.c 127)))) rfl [] [_] (Int.emod_lt_of_pos _ (by decide))) (Int.le_of_lt hpos)
   have hnew:acc+b % 128*128 ^ k<128 ^ (k+1):=by rw[Int.pow_succ];(exact lin (.h 1 (.T Z0 Z2) (.h 1 (.L Z1 (.r 127 Z2)) (.G 1 (.T (.a Z0 Z1) (.m Z2 128))))) rfl [] [_,_,_] h1 hmul1)
   by_cases c:b<128
   ·rw[if_pos c] at h
    injection h with h
    injection h with h1 h2
    refine ⟨k,h2.symm,Nat.le_refl _,by rw[hg];exact c,?_,hl⟩
    subst h1
    exact Int.lt_of_le_of_lt (by omega) hnew
   ·rw[if_neg c] at h
    obtain ⟨j,e1,e2,e3,e4,e5⟩:=rvarK_last hb (by exact lin (.h 1 (.L (.c 0) Z0) (.h 1 (.L (.c 0) Z1) (.G 1 (.L (.c 0) (.a Z0 Z1))))) rfl [] [_,_] h0 hmul0) hnew h
    exact ⟨j,e1,by exact lin (.h 1 (.l (.a Y0 (.c 1)) Y1) (.G 1 (.l Y0 Y1))) rfl [_,_] [] e2,e3,e4,e5⟩
theorem rtag_split {bf:List UInt8} {at_:Nat} (hb:∀b∈ub bf,0≤b∧b<256):
  (∃f,rtagB bf at_= .error f∧rtag (ub bf) at_= .error f)∨
  ∃tb e,rtagB bf at_= .ok (tb,e)∧at_<e∧e≤bf.length∧tb.length≤bf.length∧(∀f,rvar (ub tb) 0= .error f→rtag (ub bf) at_= .error f)∧
   (∀v p,rvar (ub tb) 0= .ok (v,p)→rtag (ub bf) at_= .ok (v,e)∧0≤v∧v<2 ^ 64∧(vint (v / 8*8+4)).length≤e):=by
 have hul:=ub_length bf
 by_cases c:bf.length≤tend (ub bf) at_
 ·exact .inl ⟨.index,by rw[rtagB,if_pos c],by rw[rtag,if_pos (by exact lin (.h 1 (.e Y0 Y2) (.h 1 (.l Y2 Y1) (.G 1 (.l Y0 Y1)))) rfl [_,_,_] [] hul c)]⟩
 ·right
  have hge:=tend_ge (ub bf) at_
  refine ⟨_,_,by rw[rtagB,if_neg c],by exact lin (.h 1 (.l Y0 Y1) (.G 1 (.t Y0 (.a Y1 (.c 1))))) rfl [_,_] [] hge,by exact lin (.h 1 (.nl Y1 Y0) (.G 1 (.l (.a Y0 (.c 1)) Y1))) rfl [_,_] [] c,by rw[List.length_drop,List.length_take];(exact lin (.h 1 (.l Y0 Y2) (.h 1 (.l Y2 Y1) (.G 1 (.l Y0 Y1)))) rfl [_,_,_] [] (Nat.sub_le _ _) (Nat.min_le_right _ _)),?_⟩
  have hu:ub ((bf.take (tend (ub bf) at_+1)).drop at_)=((ub bf).take (tend (ub bf) at_+1)).drop at_:=by
   unfold ub;rw[List.map_drop,List.map_take]
  have hbt:∀b∈(ub bf).take (tend (ub bf) at_+1),0≤b∧b<256:=fun b h=>hb b (List.mem_of_mem_take h)
  rw[hu,rtag,if_neg (by exact lin (.h 1 (.d Y0 Y2) (.h 1 (.nl Y2 Y1) (.G 1 (.nl Y0 Y1)))) rfl [_,_,_] [] hul c)]
  generalize hL:(ub bf).take (tend (ub bf) at_+1)=L at hbt ⊢
  have hd:=rvarK_drop L at_ 10 0 0
  constructor
  ·intro f hf
   rw[rvar,hd] at hf
   rw[rvar]
   cases e:rvarK L at_ 10 0 0 with
   |error f'=>rw[e] at hf;exact hf
   |ok v=>obtain ⟨v,p⟩:=v;rw[e] at hf;cases hf
  ·intro v p hf
   rw[rvar,hd] at hf
   rw[rvar]
   cases e:rvarK L at_ 10 0 0 with
   |error f'=>rw[e] at hf;cases hf
   |ok v'=>
    obtain ⟨v',p'⟩:=v'
    rw[e] at hf
    dsimp only at hf
    injection hf with hf
    injection hf with hf1 hf2
    subst hf1
    have hr:=rvar_range hbt (show rvar L at_=_ from e)
    obtain ⟨j,e1,e2,e3,e4,e5⟩:=rvarK_last hbt (Int.le_refl _) (by decide) e
    have hlen:L.length≤tend (ub bf) at_+1:=by rw[←hL,List.length_take];(exact lin (.h 1 (.l Y0 (.a Y1 (.c 1))) (.G 1 (.l Y0 (.a Y1 (.c 1))))) rfl [_,_] [] (Nat.min_le_left _ _))
    have hj:at_+j=tend (ub bf) at_:=by
     by_cases hlt:at_+j<tend (ub bf) at_
     ·have h127:=tend_lt (ub bf) _ at_ (at_+j) (Nat.le_refl _) (by exact lin (.G 1 (.l Y0 (.a Y0 Y1))) rfl [_,_] []) hlt
      have hg:L.getD (at_+j) 0=(ub bf).getD (at_+j) 0:=by
       rw[←hL,List.getD_eq_getElem?_getD,List.getD_eq_getElem?_getD,List.getElem?_take,if_pos (by exact lin (.h 1 (.t (.a Y0 Y1) Y2) (.G 1 (.t (.a Y0 Y1) (.a Y2 (.c 1))))) rfl [_,_,_] [] hlt)]
      exact Nat.le_antisymm (False.elim (lin (.h 1 (.T Z0 (.c 128)) (.h 1 (.T (.c 127) Z1) (.h 1 (.D Z0 Z1) .F))) rfl [] [_,_] e3 h127 hg)) (False.elim (lin (.h 1 (.T Z0 (.c 128)) (.h 1 (.T (.c 127) Z1) (.h 1 (.D Z0 Z1) .F))) rfl [] [_,_] e3 h127 hg))
     ·exact Nat.le_antisymm (lin (.h 1 (.t (.a Y0 Y1) Y3) (.h 1 (.l Y3 (.a Y2 (.c 1))) (.G 1 (.l (.a Y0 Y1) Y2)))) rfl [_,_,_,_] [] e5 hlen) (lin (.h 1 (.nt (.a Y1 Y2) Y0) (.G 1 (.l Y0 (.a Y1 Y2)))) rfl [_,_,_] [] hlt)
    refine ⟨by rw[e1,hj],hr.1,hr.2.1,?_⟩
    have h8:(128:Int) ^ (j+1)=8*(16*128 ^ j):=by rw[Int.pow_succ];(exact Int.le_antisymm (lin (.G 1 (.L (.m Z0 128) (.r 8 (.r 16 Z0)))) rfl [] [_]) (lin (.G 1 (.L (.r 8 (.r 16 Z0)) (.m Z0 128))) rfl [] [_]))
    refine Nat.le_trans (vint_len j _ ?_) (by exact lin (.h 1 (.e (.a Y2 Y0) Y1) (.G 1 (.l (.a Y0 (.c 1)) (.a Y1 (.c 1))))) rfl [_,_,_] [] hj)
    rw[h8] at e4 ⊢
    omega
theorem ub_bound (l:List UInt8):∀b∈ub l,0≤b∧b<256:=fun b hb=>by
 obtain ⟨x,_,rfl⟩:=List.mem_map.mp hb
 have:=x.toNat_lt
 exact ⟨lin (.G 1 (.L (.c 0) Y0)) rfl [_] [],lin (.h 1 (.t Y0 (.c 256)) (.G 1 (.T Y0 (.c 256)))) rfl [_] [] this⟩
theorem ub_inv (l:List UInt8):((ub l).map fun b=>UInt8.ofNat b.toNat)=l:=by
 unfold ub
 rw[List.map_map]
 refine (List.map_congr_left (g:=_root_.id) fun x _=> ?_).trans (List.map_id _)
 show UInt8.ofNat ((x.toNat:Nat):Int).toNat=x
 rw[Int.toNat_natCast,UInt8.ofNat_toNat]
theorem ub_back (l:List UInt8) (p:Nat) (v:Int):((((ub l).drop p).take v.toNat).map fun b=>UInt8.ofNat b.toNat)=(l.drop p).take v.toNat:=by rw[←ub_slice,ub_inv]
theorem ub_inj {l k:List UInt8} (h:ub l=ub k):l=k:=by rw[←ub_inv l,h,ub_inv]
theorem rset_cont {bs:List Int} {end_ n at_ lv:Nat} {tag:Int} {p:Nat} (h1:at_<end_) (h2:rtag bs at_= .ok (tag,p)) (h3:tag % 8≠4):rset bs end_ (n+1) at_ lv=
  match rcut end_ (rfld bs p (tag % 8) (if 100≤lv+1 then .error .decode else rgrp (rset bs end_ n p (lv+1)) bs (tag / 8))) with
    | .error f=> .error f
    | .ok (d,q)=>addRow (tag / 8,tag % 8,d) (rset bs end_ n q lv):=by
 rw[rset_succ,if_pos h1,h2];dsimp only;rw[if_neg h3];try rfl
theorem rset_end {bs:List Int} {end_ n at_ lv:Nat} {tag:Int} {p:Nat} (h1:at_<end_) (h2:rtag bs at_= .ok (tag,p)) (h3:tag % 8=4):rset bs end_ (n+1) at_ lv= .ok ([],p,tag / 8):=by
 rw[rset_succ,if_pos h1,h2];dsimp only;rw[if_pos h3]
theorem rset_tagE {bs:List Int} {end_ n at_ lv:Nat} {f:Flt} (h1:at_<end_) (h2:rtag bs at_= .error f):rset bs end_ (n+1) at_ lv= .error f:=by
 rw[rset_succ,if_pos h1,h2]
theorem rset_out {bs:List Int} {end_ n at_ lv:Nat} (h1:¬ at_<end_):rset bs end_ (n+1) at_ lv= .ok ([],at_,-1):=by
 rw[rset_succ,if_neg h1]
theorem addRows_nil (rs:List Rw) (p:Nat) (c:Int):addRows rs (.ok ([],p,c))= .ok (rs,p,c):=by rw[addRows,List.append_nil]
section
open Builtin Calls
theorem slot_bytes_join:Slot "bytes" "join" "bytes.join":=
 .of (owner:="bytes") (n:="join") (by rw[typeLookup_type,builtinLookup_eq_fast];kernel_rfl) (by decide+kernel) (by decide+kernel) (by decide+kernel)
  (by first|exact .inl (by decide+kernel)|exact .inr (by decide+kernel)) (by rw[isSubtype_type];kernel_rfl)
theorem type_bytes_join:typeOf (.builtin "bytes.join")=pure (.type "method_descriptor"):=by show builtinType _=_;rw[builtinType_eq_fast];kernel_rfl
theorem entry_bytes_join:entryFor table "bytes.join"=some Builtin.«bytes.join»:=entryFor_of_tree (by kernel_rfl)
theorem args_bytes_join_2 (a b:Value):argsOk "bytes.join" ⟨[a,b],[]⟩:=by
 unfold argsOk;rw[signature?_of (id:="bytes.join") (n:=['n','i','o','j']) (o:=['s','e','t','y','b']) (by kernel_rfl) FB.owner_bytes];kernel_rfl
theorem take_bytes {b:List UInt8} {t:Tok} {id:String}:Bytes.takeBufferQuiet? id (.bytes b.toArray t) 0=pure (some (b.toArray,none)):=by
 have e:Bytes.takeBuffer? id (.bytes b.toArray t) 0=pure (some (b.toArray,none)):=by
  unfold Bytes.takeBuffer?
  rw[KBy.special_eq KBy.look_buffer,KBy.own_buffer]
  simp only[pure_bind]
  rw[if_neg (by decide),show ((0:Int)==Bytes.fullReadOnly)=false by decide,KBy.buffer_eq]
  rfl
 unfold Bytes.takeBufferQuiet?
 rw[e]
 rfl
theorem forIn_list_ {M:Model} {A:Around} {E:Value→Shared→Prop} {α β:Type} (f:α→β→Sem (ForInStep β)) (I:List α→β→Shared→Prop) (Q:β→Shared→Prop)
  (turn:∀x rest b s,I (x::rest) b s→wpAny M A (f x b) (fun r s'=>match r with| .yield b'=>I rest b' s'| .done b'=>Q b' s') E s)
  (fin:∀b s,I [] b s→Q b s):∀(xs:List α) (b:β) (s:Shared),I xs b s→wpAny M A (forIn xs b f) Q E s
 |[],b,s,h=>by rw[List.forIn_nil];exact wpAny_pure (fin b s h)
 |x::xs,b,s,h=>by
  rw[List.forIn_cons]
  refine wpAny_bind (wpAny_mono (turn x xs b s h) (fun r s' h'=> ?_) fun _ _ x=>x)
  cases r with
  |done b'=>exact wpAny_pure h'
  |yield b'=>exact forIn_list_ f I Q turn fin xs b' s' h'
theorem joinM_many.{u} {α:Sort u} (xs:Array Value) (f:Value→α) (g:Array Value→α) (h:∀x,xs≠#[x]):Bytes.joinM.match_1 (fun _=>α) xs f g=g xs:=by
 rcases xs with ⟨_|⟨a,_|⟨b,l⟩⟩⟩
 ·rfl
 ·exact absurd rfl (h a)
 ·rfl
theorem Each.get {α β:Type} {R:α→β→Prop} {l:List α} {k:List β} (e:Each R l k):∀i,i<k.length→∃a b,l[i]? =some a∧k[i]? =some b∧R a b:=by
 induction e with
 |nil=>exact fun i h=>absurd h (Nat.not_lt_zero _)
 | @cons a b l k x _ ih=>
  intro i h
  cases i with
  |zero=>exact ⟨a,b,rfl,rfl,x⟩
  |succ i=>exact ih i (Nat.lt_of_succ_lt_succ h)
theorem wpAny_joinLetGo {M:Model} {A:Around} {E:Value→Shared→Prop} {s:Shared} {Q:Unit→Shared→Prop} {keep:List Value}:∀{tk:List (Value×Option Value)},(∀p∈tk,p.2=none)→Q () s→wpAny M A (Bytes.joinLetGo tk keep) Q E s
 |[],_,h=>wpAny_pure h
 |(x,w)::tk,hn,h=>by
  have hw:w=none:=hn (x,w) (.head _)
  subst hw
  unfold Bytes.joinLetGo
  dsimp only
  exact wpAny_bind (wpAny_letGo (wpAny_joinLetGo (fun p hp=>hn p (.tail _ hp)) h))
theorem fold_sizes:∀(bl:List (List UInt8)) (k:Nat),List.foldl (fun a (p:Array UInt8)=>a+p.size) k (bl.map List.toArray)=k+bl.flatten.length
 |[],k=>by simp
 |b::bl,k=>by
  rw[List.map_cons,List.foldl_cons,fold_sizes bl,List.flatten_cons,List.length_append,List.size_toArray];(exact Nat.le_antisymm (lin (.G 1 (.l (.a (.a Y0 Y1) Y2) (.a Y0 (.a Y1 Y2)))) rfl [_,_,_] []) (lin (.G 1 (.l (.a Y0 (.a Y1 Y2)) (.a (.a Y0 Y1) Y2))) rfl [_,_,_] []))
theorem fold_join:∀(bl:List (List UInt8)) (acc:List UInt8) (j:Nat),List.foldl (fun out (q:Array UInt8×Nat)=>(if q.2>0 then out++ #[] else out)++q.1) acc.toArray ((bl.map List.toArray).zipIdx j)=(acc++bl.flatten).toArray
 |[],acc,j=>by simp
 |b::bl,acc,j=>by
  rw[List.map_cons,List.zipIdx_cons,List.foldl_cons]
  have e:(if j>0 then acc.toArray++ #[] else acc.toArray)++b.toArray=(acc++b).toArray:=by split<;>simp
  rw[e,fold_join bl,List.flatten_cons,List.append_assoc]
noncomputable def joinedB (bl:List (List UInt8)):List UInt8:=bl.flatten
theorem call_bytes_join {prog:Program} {w:World} {A:Around} {E:Value→Shared→Prop} {s:Shared} {l:Addr} {vs:List Value} {bl:List (List UInt8)} {t:Tok} {Q:Value→Shared→Prop}
  (hE:Each (fun (b:List UInt8) v=>∃t,v= .bytes b.toArray t) bl vs) (hl:s.heap.IsList l vs.toArray) (hsz:bl.flatten.length≤16777216)
  (h:∀t' k,Q (.bytes (joinedB bl).toArray t') {s with toks:=k}):wpAny (model prog w) A (call (.builtin "bytes.join") [.bytes #[] t,.ref l]) Q E s:=by
 refine wpAny_call_entry slot_bytes_join (typeIs_bytes _ _ _) entry_bytes_join ?_ (args_bytes_join_2 _ _)
 show wpAny _ _ (Bytes.joinM .bytes ⟨[.bytes #[] t,.ref l],[]⟩) _ _ s
 unfold Bytes.joinM
 obtain ⟨o,ho,hcl,n,hd⟩:=hl
 have hTl:s.TypeIs (.ref l) "list":=⟨o,ho,hcl⟩
 refine wpAny_bind (wpAny_of_eq (show selfAndOne _ ⟨[.bytes #[] t,.ref l],[]⟩=pure (.bytes #[] t,.ref l) from rfl) ?_)
 dsimp only
 rw[if_pos (by decide)]
 refine wpAny_bind ?_
 unfold Bytes.joinItems
 refine wpAny_bind (wpAny_typeOf hTl ?_)
 rw[if_pos (by decide)]
 refine wpAny_pure ?_
 refine wpAny_bind (wpAny_seqItems ho hd ?_)
 dsimp only
 rw[if_pos (by decide)]
 by_cases h1:∃x,vs=[x]
 ·obtain ⟨x,rfl⟩:=h1
  cases hE with
  |cons hb hn=>
   cases hn
   obtain ⟨t',rfl⟩:=hb
   refine wpAny_bind (wpAny_typeOf (typeIs_bytes _ _ _) ?_)
   rw[if_pos (by decide)]
   refine wpAny_bind (wpAny_rule (wpAny_pure ⟨_,rfl,?_⟩))
   have:=h t' s.toks
   rw[joinedB,List.flatten_cons,List.flatten_nil,List.append_nil] at this
   exact this
 ·have hno:∀x,vs.toArray≠#[x]:=fun x hx=>h1 ⟨x,by have:=congrArg Array.toList hx;simpa using this⟩
  rw[joinM_many vs.toArray _ _ hno]
  refine wpAny_bind ?_
  rw[Std.Legacy.Range.forIn_eq_forIn_range']
  refine forIn_list_ _ (fun rest st s'=>s'=s∧∃i,rest=List.range' i (vs.length - i)∧i≤vs.length∧st.1=((bl.take i).map List.toArray).toArray∧(∀p∈st.2,p.1.onHeap=false∧p.2=none)) _ ?turn ?fin _ _ _ ?ini0
  case turn=>
   rintro x rest ⟨parts,taken⟩ s' ⟨rfl,i,hr,hi,hp,ht⟩
   dsimp only at hp ht ⊢
   obtain ⟨m,hm⟩:∃m,vs.length - i=m+1:=by
    cases e:vs.length - i with
    |zero=>rw[e] at hr;cases hr
    |succ m=>exact ⟨m,rfl⟩
   rw[hm,List.range'_succ] at hr
   injection hr with hr1 hr2
   subst hr1
   obtain ⟨b,v,hb1,hv1,t',rfl⟩:=hE.get x (by exact lin (.h 1 (.d Y2 (.a Y3 (.c 1))) (.h 1 (.e (.a Y2 Y0) Y1) (.G 1 (.t Y0 Y1)))) rfl [_,_,_,_] [] hm (sC (lin (.h 1 (.l Y0 Y1) (.G 1 (.l Y0 Y1))) rfl [_,_] [] hi)))
   have hg:vs.toArray.getD x .none= .bytes b.toArray t':=by
    rw[Array.getD_eq_getD_getElem?,List.getElem?_toArray,hv1];rfl
   refine wpAny_bind (wpAny_seqItems ho hd ?_)
   dsimp only
   rw[hg]
   have hc:(taken.any fun x=>x.fst.onHeap)=false:=List.any_eq_false.mpr fun p hp=>by rw[(ht p hp).1];decide
   rw[hc,if_neg (by decide)]
   refine wpAny_bind (wpAny_holding (wpAny_of_eq take_bytes ?_))
   dsimp only
   refine wpAny_bind (wpAny_seqItems ho hd ?_)
   dsimp only
   rw[if_neg (by simp)]
   refine wpAny_pure ⟨rfl,x+1,?_,by exact lin (.h 1 (.d Y2 (.a Y3 (.c 1))) (.h 1 (.e (.a Y2 Y0) Y1) (.G 1 (.l (.a Y0 (.c 1)) Y1)))) rfl [_,_,_,_] [] hm (sC (lin (.h 1 (.l Y0 Y1) (.G 1 (.l Y0 Y1))) rfl [_,_] [] hi)),?_,?_⟩
   ·rw[hr2,show vs.length - (x+1)=m by (exact Nat.le_antisymm ((Nat.le_total _ _).elim (fun e30=>lin (.h 1 (.e Y2 (.a Y1 (.c 1))) (.h 1 (.e (.a Y0 (.a Y3 (.c 1))) Y4) (.h 1 (.d (.a Y2 Y3) Y4) (.G 1 (.l Y0 Y1))))) rfl [_,_,_,_,_] [] hm (sC (lin (.h 1 (.l (.a Y0 (.c 1)) Y1) (.G 1 (.l (.a Y0 (.c 1)) Y1))) rfl [_,_] [] e30)) (sC (lin (.h 1 (.l Y0 Y1) (.G 1 (.l Y0 Y1))) rfl [_,_] [] hi))) (fun e30=>lin (.h 1 (.e Y0 (.c 0)) (.G 1 (.l Y0 Y1))) rfl [_,_] [] (Nat.sub_eq_zero_of_le (lin (.h 1 (.l Y0 (.a Y1 (.c 1))) (.G 1 (.l Y0 (.a Y1 (.c 1))))) rfl [_,_] [] e30)))) (lin (.h 1 (.d Y2 (.a Y0 (.c 1))) (.h 1 (.l Y3 (.a Y1 (.a Y4 (.c 1)))) (.h 1 (.e (.a Y2 Y4) Y3) (.G 1 (.l Y0 Y1))))) rfl [_,_,_,_,_] [] hm (sub_up _ _) (sC (lin (.h 1 (.l Y0 Y1) (.G 1 (.l Y0 Y1))) rfl [_,_] [] hi))))]
   ·dsimp only
    rw[hp,List.take_add_one,hb1];simp
   ·intro p hp'
    rcases List.mem_append.mp hp' with hp'|hp'
    ·exact ht p hp'
    ·rw[List.mem_singleton.mp hp'];exact ⟨rfl,rfl⟩
  case fin=>
   rintro ⟨parts,taken⟩ s' ⟨rfl,i,hr,hi,hp,ht⟩
   dsimp only at hp ht ⊢
   have hin:i=vs.length:=by
    cases e:vs.length - i with
    |zero=>(exact Nat.le_antisymm (lin (.h 1 (.l Y0 Y1) (.G 1 (.l Y0 Y1))) rfl [_,_] [] hi) (lin (.h 1 (.e Y2 (.c 0)) (.h 1 (.d (.a Y2 Y1) Y0) (.G 1 (.l Y0 Y1)))) rfl [_,_,_] [] e (sC (lin (.h 1 (.l Y0 Y1) (.G 1 (.l Y0 Y1))) rfl [_,_] [] hi))))
    |succ m=>rw[e,List.range'_succ] at hr;cases hr
   rw[hin,←hE.length,List.take_length] at hp
   subst hp
   refine wpAny_bind (wpAny_of_eq (show Bytes.payload (.bytes #[] t)=pure #[] from rfl) ?_)
   dsimp only
   have hj:Bytes.joined #[] ((bl.map List.toArray).toArray).toList=bl.flatten.toArray:=by
    have:=fold_join bl [] 0
    simpa [Bytes.joined] using this
   rw[hj,if_neg (by
    rw[KBy.tooLong_not]
    ·decide
    ·rw[←Array.foldl_toList]
     show List.foldl (fun a (p:Array UInt8)=>a+p.size) ((#[]:Array UInt8).size*_) (bl.map List.toArray)≤_
     rw[fold_sizes,show ((#[]:Array UInt8)).size=0 from rfl,Nat.zero_mul,Nat.zero_add]
     exact hsz)]
   refine wpAny_bind (wpAny_mkBytes ?_ (by rw[List.size_toArray,sizeLine_eq];exact hsz))
   refine wpAny_bind (wpAny_holding (wpAny_point ?_))
   refine wpAny_bind (wpAny_joinLetGo (fun p hp=>(ht p hp).2) ?_)
   exact wpAny_pure ⟨_,rfl,h _ _⟩
  case ini0=>
   refine ⟨rfl,0,?_,Nat.zero_le _,by simp,fun p hp=>absurd hp List.not_mem_nil⟩
   simp[Std.Legacy.Range.size]
theorem method_bytes_join {M:Model} {A:Around} {E:Value→Shared→Prop} {s:Shared} {b:Array UInt8} {t:Tok} {pl:Sem Bool} {Q:Value×List Value→Shared→Prop} (h:Q (.builtin "bytes.join",[.bytes b t]) s):wpAny M A (getMethod (.bytes b t) (Str.ofString "join") pl) Q E s:=by
 with_reducible exact KBd.method_of (.bytes b t) (typeIs_bytes _ _ _) slot_bytes_join type_bytes_join KBd.noRef h
theorem look_bytes_bytes:typeLookup (.type "bytes") "__bytes__"=pure (some (.builtin "bytes.__bytes__")):=by rw[typeLookup_type,builtinLookup_eq_fast];kernel_rfl
theorem bb_new {prog:Program} {w:World} {A:Around} {E:Value→Shared→Prop} {s:Shared} {b:List UInt8} {t:Tok} {Q:Value→Shared→Prop} (h:Q (.bytes b.toArray t) s):
  codeAny (model prog w) A (.call (.builtin "bytes.__new__") ⟨[.type "bytes",.bytes b.toArray t],[]⟩) (wants Q E) s:=by
 refine codeAny_of_tree ?_
 show wpAny _ A.in1 (do checkBuiltinCall "bytes.__new__" ⟨[.type "bytes",.bytes b.toArray t],[]⟩;again (.builtin "bytes.__new__" ⟨[.type "bytes",.bytes b.toArray t],[]⟩)) _ _ s
 refine wpAny_bind (wpAny_of_eq (F.bm_newCall _) (wpAny_pure ⟨plainId_quiet F.bm_plain _,codeAny_builtin F.bm_entry ?_⟩))
 rw[Around.under_plainId F.bm_plain _]
 unfold Builtin.«bytes.__new__»
 refine wpAny_bind (wpAny_of_eq (a:=true) rfl ?_)
 refine bm_if_false rfl ?_
 refine wpAny_bind (wpAny_of_eq F.bm_sub ?_)
 refine bm_if_false rfl ?_
 refine wpAny_bind (wpAny_of_eq (F.bm_bind _) ?_)
 refine wpAny_bind (wpAny_of_eq (a:=()) rfl ?_)
 refine wpAny_bind (wpAny_of_eq (a:=()) rfl ?_)
 refine bm_if_false rfl ?_
 refine wpAny_bind (wpAny_of_eq (KBy.special_eq look_bytes_bytes) ?_)
 dsimp only
 refine wpAny_bind (wpAny_rule ?_)
 refine wpAny_bind (wpAny_typeOf (typeIs_bytes _ _ _) ?_)
 refine bm_if_true rfl ?_
 first|exact wpAny_pure h|exact wpAny_pure ⟨_,rfl,h⟩
theorem call_bytes_bytes {prog:Program} {w:World} {A:Around} {E:Value→Shared→Prop} {s:Shared} {b:List UInt8} {t:Tok} {Q:Value→Shared→Prop} (h:Q (.bytes b.toArray t) s):
  wpAny (model prog w) A (call (.type "bytes") [.bytes b.toArray t]) Q E s:=by
 refine callType_codes (Q₁:=fun obj s₁=>s₁.TypeIs obj "bytes"∧Q obj s₁) F.bm_called (F.bm_typeCall _) F.entry_object_init ?_ fun obj s₁ h₁=>
  ⟨h₁.1,F.args_object_init_2 obj _,object_init_meets F.bm_called.init.lookup F.bm_called.made (by decide) prog w A.in1 _ s₁ ⟨h₁.1,rfl,h₁.2⟩⟩
 exact bb_new ⟨typeIs_bytes _ _ _,h⟩
end
structure RowLike (s:List Int) (r j:Nat):Prop where
 lo:∀i,i<j→127<s.getD i 0
 hi:s.getD j 0<128
 jl:j<s.length
 two:j+2≤r
 w1:s.getD 0 0 % 8=1→r=j+9
 w5:s.getD 0 0 % 8=5→r=j+5
 w7:s.getD 0 0 % 8≠7
noncomputable abbrev WL:=List (Int×Nat)
noncomputable def wsum:WL→Nat
 |[]=>0
 |x::l=>x.2+wsum l
theorem wsum_append:∀(a b:WL),wsum (a++b)=wsum a+wsum b
 |[],b=>by simp[wsum]
 |x::a,b=>by simp only[List.cons_append,wsum,wsum_append a b];(exact Nat.le_antisymm (lin (.G 1 (.l (.a Y0 (.a Y1 Y2)) (.a (.a Y0 Y1) Y2))) rfl [_,_,_] []) (lin (.G 1 (.l (.a (.a Y0 Y1) Y2) (.a Y0 (.a Y1 Y2)))) rfl [_,_,_] []))
theorem wsum_take_le:∀(l:WL) (i j:Nat),i≤j→wsum (l.take i)≤wsum (l.take j)
 |[],i,j,_=>by simp
 |x::l,0,j,_=>by simp[wsum]
 |x::l,i+1,0,h=>by exact False.elim (lin (.h 1 (.l (.a Y0 (.c 1)) (.c 0)) .F) rfl [_] [] h)
 |x::l,i+1,j+1,h=>by simp only[List.take_succ_cons,wsum];have:=wsum_take_le l i j (by exact lin (.h 1 (.l (.a Y0 (.c 1)) (.a Y1 (.c 1))) (.G 1 (.l Y0 Y1))) rfl [_,_] [] h);(exact lin (.h 1 (.l Y1 Y2) (.G 1 (.l (.a Y0 Y1) (.a Y0 Y2)))) rfl [_,_,_] [] this)
theorem wsum_pos:∀(l:WL) (i:Nat),i<l.length→1≤(l.getD i (0,0)).2→∀r,i<r→1≤wsum (l.take r)
 |[],i,h,_,_,_=>by simp at h
 |x::l,0,_,hw,r+1,_=>by simp only[List.take_succ_cons,wsum];simp at hw;(exact lin (.h 1 (.l (.c 1) Y0) (.G 1 (.l (.c 1) (.a Y0 Y1)))) rfl [_,_] [] hw)
 |x::l,i+1,h,hw,r+1,hr=>by
  simp only[List.take_succ_cons,wsum]
  have:=wsum_pos l i (by simpa using h) (by simpa using hw) r (by exact lin (.h 1 (.t (.a Y0 (.c 1)) (.a Y1 (.c 1))) (.G 1 (.t Y0 Y1))) rfl [_,_] [] hr)
  exact lin (.h 1 (.l (.c 1) Y1) (.G 1 (.l (.c 1) (.a Y0 Y1)))) rfl [_,_] [] this
noncomputable def octs (l:WL):List Int:=l.map Prod.fst
noncomputable def LocS:WL→Prop
 |[]=>True
 |x::l=>(∀r j,RowLike (octs (x::l)) r j→r≤(x::l).length→1≤wsum ((x::l).take r))∧LocS l
noncomputable def Cover:WL→Prop
 |[]=>True
 |x::l=>(∀r j,RowLike (octs (x::l)) r j→1≤wsum ((x::l).take r))∧Cover l
noncomputable def LastW:WL→Prop
 |[]=>False
 |[x]=>1≤x.2
 |_::l=>LastW l
theorem LastW.pos:∀{l:WL},LastW l→1≤wsum l
 |[x],h=>by simpa [wsum,LastW] using h
 |x::y::l,h=>by have:=LastW.pos (l:=y::l) h;simp only[wsum] at this ⊢;(exact lin (.h 1 (.l (.c 1) (.a Y1 Y2)) (.G 1 (.l (.c 1) (.a Y0 (.a Y1 Y2))))) rfl [_,_,_] [] this)
theorem octs_append (a b:WL):octs (a++b)=octs a++octs b:=List.map_append
theorem getD_left {a b:List Int} {i:Nat} (h:i<a.length):(a++b).getD i 0=a.getD i 0:=by
 rw[List.getD_eq_getElem?_getD,List.getD_eq_getElem?_getD,List.getElem?_append_left h]
theorem octs_length (l:WL):(octs l).length=l.length:=List.length_map ..
theorem RowLike.left {a b:List Int} {r j:Nat} (h:RowLike (a++b) r j) (hr:r≤a.length):RowLike a r j:=by
 have h2:=h.two
 refine ⟨fun i hi=> ?_,?_,by exact lin (.h 1 (.l Y2 Y1) (.h 1 (.l (.a Y0 (.c 2)) Y2) (.G 1 (.t Y0 Y1)))) rfl [_,_,_] [] hr h2,h.two,?_,?_,?_⟩
 ·rw[←getD_left (b:=b) (by exact lin (.h 1 (.l Y2 Y1) (.h 1 (.l (.a Y3 (.c 2)) Y2) (.h 1 (.t Y0 Y3) (.G 1 (.t Y0 Y1))))) rfl [_,_,_,_] [] hr h2 hi)];exact h.lo i hi
 ·rw[←getD_left (b:=b) (by exact lin (.h 1 (.l Y2 Y1) (.h 1 (.l (.a Y0 (.c 2)) Y2) (.G 1 (.t Y0 Y1)))) rfl [_,_,_] [] hr h2)];exact h.hi
 ·rw[←getD_left (b:=b) (by exact lin (.h 1 (.l Y1 Y0) (.h 1 (.l (.a Y2 (.c 2)) Y1) (.G 1 (.t (.c 0) Y0)))) rfl [_,_,_] [] hr h2)];exact h.w1
 ·rw[←getD_left (b:=b) (by exact lin (.h 1 (.l Y1 Y0) (.h 1 (.l (.a Y2 (.c 2)) Y1) (.G 1 (.t (.c 0) Y0)))) rfl [_,_,_] [] hr h2)];exact h.w5
 ·rw[←getD_left (b:=b) (by exact lin (.h 1 (.l Y1 Y0) (.h 1 (.l (.a Y2 (.c 2)) Y1) (.G 1 (.t (.c 0) Y0)))) rfl [_,_,_] [] hr h2)];exact h.w7
theorem cover_append:∀{a b:WL},LocS a→LastW a→Cover b→Cover (a++b)
 |x::l,b,h1,h2,h3=>by
  refine ⟨fun r j hr=> ?_,?_⟩
  ·have hr:RowLike (octs ((x::l)++b)) r j:=hr
   show 1≤wsum (((x::l)++b).take r)
   by_cases c:r≤(x::l).length
   ·rw[List.take_append_of_le_length c]
    refine h1.1 r j ?_ c
    rw[octs_append] at hr
    exact hr.left (by rw[octs_length];exact c)
   ·rw[List.take_append,wsum_append,List.take_of_length_le (by exact lin (.h 1 (.nl Y1 Y0) (.G 1 (.l Y0 Y1))) rfl [_,_] [] c)]
    have:=h2.pos
    exact lin (.h 1 (.l (.c 1) Y0) (.G 1 (.l (.c 1) (.a Y0 Y1)))) rfl [_,_] [] this
  ·cases l with
   |nil=>exact h3
   |cons y l=>exact cover_append h1.2 h2 h3
noncomputable def tw (x:Int):Int×Nat:=(x,if x<128 then 1 else 0)
theorem octs_tw (l:List Int):octs (l.map tw)=l:=by
 unfold octs;rw[List.map_map];exact (List.map_congr_left (g:=_root_.id) fun _ _=>rfl).trans (List.map_id _)
theorem loc_tw_append:∀{a:List Int} {b:WL},(∀k,k+1=a.length→a.getD k 0<128)→LocS b→LocS (a.map tw++b)
 |[],b,_,h=>h
 |x::l,b,hl,h=>by
  refine ⟨fun r j hr hle=> ?_,?_⟩
  ·have hj:j<(x::l).length:=by
    rcases Nat.lt_or_ge j (x::l).length with h2|h2
    ·exact h2
    ·have h3:=hr.lo l.length (by simp at h2;(exact lin (.h 1 (.l (.a Y0 (.c 1)) Y1) (.G 1 (.t Y0 Y1))) rfl [_,_] [] h2))
     rw[show tw x::(List.map tw l).append b=(x::l).map tw++b from rfl,octs_append,octs_tw,getD_left (by simp)] at h3
     have h4:=hl l.length (by simp)
     exact False.elim (lin (.h 1 (.T (.c 127) Z0) (.h 1 (.T Z0 (.c 128)) .F)) rfl [] [_] h3 h4)
   have h2:=hr.two
   refine wsum_pos _ j (by simp at hj ⊢;(exact lin (.h 1 (.t Y0 (.a Y1 (.c 1))) (.G 1 (.t Y0 (.a (.a Y1 Y2) (.c 1))))) rfl [_,_,_] [] hj)) ?_ r (by exact lin (.h 1 (.l (.a Y0 (.c 2)) Y1) (.G 1 (.t Y0 Y1))) rfl [_,_] [] h2)
   have h5:=hr.hi
   rw[show tw x::(List.map tw l).append b=(x::l).map tw++b from rfl,octs_append,octs_tw,getD_left hj] at h5
   rw[show tw x::(List.map tw l).append b=(x::l).map tw++b from rfl,List.getD_eq_getElem?_getD,List.getElem?_append_left (by simpa using hj),List.getElem?_map]
   rw[List.getD_eq_getElem?_getD] at h5
   rw[List.getElem?_eq_getElem hj] at h5 ⊢
   simp only[Option.getD_some,Option.map_some] at h5 ⊢
   show 1≤(if _ then _ else _)
   rw[if_pos h5];exact Nat.le_refl _
  ·exact loc_tw_append (fun k hk=>by have:=hl (k+1) (by simp;omega);simpa using this) h
noncomputable def altw:List Int→WL
 |[]=>[]
 |[x]=>[(x,1)]
 |x::y::l=>(x,0)::(y,1)::altw l
theorem octs_altw:∀l,octs (altw l)=l
 |[]=>rfl
 |[x]=>rfl
 |x::y::l=>by have:=octs_altw l;unfold octs at this;simp[altw,octs,this]
theorem loc_altw:∀l,LocS (altw l)
 |[]=>trivial
 |[x]=>⟨fun r j hr hle=>by have:=hr.two;simp at hle;(exact False.elim (lin (.h 1 (.l (.a Y0 (.c 2)) Y1) (.h 1 (.l Y1 (.c 1)) .F)) rfl [_,_] [] this hle)),trivial⟩
 |x::y::l=>by
  refine ⟨fun r j hr hle=> ?_,fun r j hr hle=> ?_,loc_altw l⟩
  ·have:=hr.two
   exact wsum_pos _ 1 (by simp) (by simp) r (by exact lin (.h 1 (.l (.a Y1 (.c 2)) Y0) (.G 1 (.t (.c 1) Y0))) rfl [_,_] [] this)
  ·have:=hr.two
   exact wsum_pos _ 0 (by simp) (by simp) r (by exact lin (.h 1 (.l (.a Y1 (.c 2)) Y0) (.G 1 (.t (.c 0) Y0))) rfl [_,_] [] this)
theorem last_altw:∀l,l≠[]→LastW (altw l)
 |[x],_=>Nat.le_refl _
 |x::y::[],_=>Nat.le_refl _
 |x::y::z::l,_=>by
  have:=last_altw (z::l) (by simp)
  show LastW ((y,1)::altw (z::l))
  revert this
  cases h:altw (z::l) with
  |nil=>intro h2;exact h2.elim
  |cons a b=>exact fun h2=>h2
theorem wsum_altw:∀l:List Int,wsum (altw l)=(l.length+1) / 2
 |[]=>rfl
 |[x]=>by simp[altw,wsum]
 |x::y::l=>by simp only[altw,wsum,wsum_altw l,List.length_cons];(exact Nat.le_antisymm (lin (.h 1 (.e (.a (.r 2 Y0) Y2) (.a Y3 (.c 1))) (.h 1 (.d (.a (.r 2 Y1) Y4) (.a (.a (.a Y3 (.c 1)) (.c 1)) (.c 1))) (.h 1 (.t Y4 (.c 2)) (.G 2 (.l (.a (.c 0) (.a (.c 1) Y0)) Y1))))) rfl [_,_,_,_,_] [] (Nat.div_add_mod _ _) (Nat.div_add_mod _ _) (Nat.mod_lt _ (by decide))) (lin (.h 1 (.e (.a (.r 2 Y0) Y2) (.a (.a (.a Y3 (.c 1)) (.c 1)) (.c 1))) (.h 1 (.d (.a (.r 2 Y1) Y4) (.a Y3 (.c 1))) (.h 1 (.t Y4 (.c 2)) (.G 2 (.l Y0 (.a (.c 0) (.a (.c 1) Y1))))))) rfl [_,_,_,_,_] [] (Nat.div_add_mod _ _) (Nat.div_add_mod _ _) (Nat.mod_lt _ (by decide))))
theorem LastW.append:∀{a b:WL},LastW b→LastW (a++b)
 |[],b,h=>h
 |x::l,b,h=>by
  have:=LastW.append (a:=l) h
  revert this
  show LastW (l++b)→LastW (x::(l++b))
  cases l++b with
  |nil=>exact fun h=>h.elim
  |cons y l=>exact fun h=>h
noncomputable def cnt (l:List Int):Nat:=wsum (l.map tw)
theorem cnt_append (a b:List Int):cnt (a++b)=cnt a+cnt b:=by unfold cnt;rw[List.map_append,wsum_append]
noncomputable def Wtd (p:List Int) (t:Nat):Prop:=∃l:WL,octs l=p∧LocS l∧LastW l∧wsum l≤t
theorem last_tw:∀{a:List Int},a≠[]→(∀k,k+1=a.length→a.getD k 0<128)→LastW (a.map tw)
 |[x],_,h=>by
  have:=h 0 rfl
  show 1≤(if _ then _ else _)
  rw[if_pos (by simpa using this)];exact Nat.le_refl _
 |x::y::l,_,h=>last_tw (a:=y::l) (by simp) fun k hk=>by have:=h (k+1) (by simp at hk ⊢;omega);simpa using this
theorem wtd_T {p:List Int} (hne:p≠[]) (hl:∀k,k+1=p.length→p.getD k 0<128) {t:Nat} (h:cnt p≤t):Wtd p t:=
 ⟨p.map tw,octs_tw p,by have:=loc_tw_append (b:=[]) hl trivial;rwa [List.append_nil] at this,last_tw hne hl,h⟩
theorem wtd_one (x:Int) {t:Nat} (h:1≤t):Wtd [x] t:=⟨[(x,1)],rfl,⟨fun r j hr hle=>by have:=hr.two;simp at hle;(exact False.elim (lin (.h 1 (.l (.a Y0 (.c 2)) Y1) (.h 1 (.l Y1 (.c 1)) .F)) rfl [_,_] [] this hle)),trivial⟩,Nat.le_refl _,h⟩
theorem wtd_CD {a b:List Int} (hl:∀k,k+1=a.length→a.getD k 0<128) (hb:b≠[]) {t:Nat} (h:cnt a+(b.length+1) / 2≤t):Wtd (a++b) t:=
 ⟨a.map tw++altw b,by rw[octs_append,octs_tw,octs_altw],loc_tw_append hl (loc_altw b),(last_altw b hb).append,by rw[wsum_append,wsum_altw];exact h⟩
theorem loc_zero:∀{a b:List Int},b.length=8→(∀i,i+1<a.length→128≤a.getD i 0)→(∀i,i<a.length→a.getD i 0 % 8=1∨a.getD i 0 % 8=5∨a.getD i 0 % 8=7)→LocS (a.map (fun x=>(x,0))++altw b)
 |[],b,_,_,_=>loc_altw b
 |x::a,b,hb,hhi,h=>by
  refine ⟨fun r j hr hle=> ?_,loc_zero hb (fun i hi=>by have:=hhi (i+1) (by simp;omega);simpa using this) fun i hi=>by have:=h (i+1) (by simp;omega);simpa using this⟩
  have hr:RowLike (octs ((x::a).map (fun x=>(x,0))++altw b)) r j:=hr
  show 1≤wsum (((x::a).map (fun x=>(x,0))++altw b).take r)
  have hlen:(altw b).length=8:=by rw[←octs_length,octs_altw,hb]
  have hoc:octs ((x::a).map (fun x=>(x,0)))=x::a:=by
   unfold octs;rw[List.map_map];exact (List.map_congr_left (g:=_root_.id) fun _ _=>rfl).trans (List.map_id _)
  rw[octs_append,hoc] at hr
  have hj:a.length≤j:=by
   rcases Nat.lt_or_ge j a.length with h2|h2
   ·have h3:=hhi j (by simp;omega)
    have h4:=hr.hi
    rw[getD_left (by simp;(exact lin (.h 1 (.t Y0 Y1) (.G 1 (.t Y0 (.a Y1 (.c 1))))) rfl [_,_] [] h2))] at h4
    exact False.elim (lin (.h 1 (.L (.c 128) Z0) (.h 1 (.T Z0 (.c 128)) .F)) rfl [] [_] h3 h4)
   ·exact h2
  have h0:((x::a)++octs (altw b)).getD 0 0=x:=rfl
  have hx:=h 0 (by simp)
  have h1:=hr.w1
  have h5:=hr.w5
  have h7:=hr.w7
  rw[h0] at h1 h5 h7
  have hx:x % 8=1∨x % 8=5∨x % 8=7:=hx
  have hrr:a.length+5≤r:=by
   rcases hx with e|e|e
   ·have:=h1 e;(exact lin (.h 1 (.l Y0 Y2) (.h 1 (.d Y1 (.a Y2 (.c 9))) (.G 1 (.l (.a Y0 (.c 5)) Y1)))) rfl [_,_,_] [] hj this)
   ·have:=h5 e;(exact lin (.h 1 (.l Y0 Y2) (.h 1 (.d Y1 (.a Y2 (.c 5))) (.G 1 (.l (.a Y0 (.c 5)) Y1)))) rfl [_,_,_] [] hj this)
   ·exact absurd e h7
  refine wsum_pos _ (a.length+2) (by simp[hlen]) ?_ r (by exact lin (.h 1 (.l (.a Y0 (.c 5)) Y1) (.G 1 (.t (.a Y0 (.c 2)) Y1))) rfl [_,_] [] hrr)
  rw[List.getD_eq_getElem?_getD,List.getElem?_append_right (by simp)]
  cases b with
  |nil=>cases hb
  |cons b0 b=>cases b with
   |nil=>cases hb
   |cons b1 b=>simp[altw]
theorem wtd_B {a b:List Int} (hb:b.length=8) (hhi:∀i,i+1<a.length→128≤a.getD i 0) (h:∀i,i<a.length→a.getD i 0 % 8=1∨a.getD i 0 % 8=5∨a.getD i 0 % 8=7) {t:Nat} (ht:4≤t):Wtd (a++b) t:=
 ⟨a.map (fun x=>(x,0))++altw b,by rw[octs_append,octs_altw];unfold octs;rw[List.map_map];exact congrArg (·++b) ((List.map_congr_left (g:=_root_.id) fun _ _=>rfl).trans (List.map_id _)),loc_zero hb hhi h,(last_altw b (by rintro rfl;cases hb)).append,by
  rw[wsum_append,wsum_altw,hb]
  have:∀l:List Int,wsum (l.map fun x=>(x,0))=0:=fun l=>by induction l with
   |nil=>rfl
   |cons x l ih=>simp[wsum,ih]
  rw[this];exact ht⟩
noncomputable def Cov (bs:List Int) (t:Nat):Prop:=∃l:WL,octs l=bs∧Cover l∧wsum l≤t
theorem Cov.nil:Cov [] 0:=⟨[],rfl,trivial,Nat.le_refl _⟩
inductive Parts:List Int→Nat→Prop
 |nil:Parts [] 0
 |snoc {bs p:List Int} {t u:Nat}:Parts bs t→Wtd p u→Parts (bs++p) (t+u)
theorem Parts.cov {bs:List Int} {t:Nat} (P:Parts bs t):∀{rs:List Int} {u:Nat},Cov rs u→Cov (bs++rs) (t+u):=by
 induction P with
 |nil=>exact fun h=>by simpa using h
 | @snoc bs p t v x y ih=>
  intro rs u h
  obtain ⟨l,h1,h2,h3⟩:=h
  obtain ⟨k,k1,k2,k3,k4⟩:=y
  have:=ih (rs:=p++rs) (u:=v+u) ⟨k++l,by rw[octs_append,k1,h1],cover_append k2 k3 h2,by rw[wsum_append];(exact lin (.h 1 (.l Y1 Y3) (.h 1 (.l Y0 Y2) (.G 1 (.l (.a Y0 Y1) (.a Y2 Y3))))) rfl [_,_,_,_] [] h3 k4)⟩
  rwa [←List.append_assoc,←Nat.add_assoc] at this
theorem Parts.cover {bs:List Int} {t:Nat} (h:Parts bs t):Cov bs t:=by have:=h.cov Cov.nil;simpa using this
theorem vint_shape (n:Nat):∀{v:Int},v.toNat≤n→0≤v→vint v≠[]∧(∀k,k+1=(vint v).length→(vint v).getD k 0<128)∧(∀i,i+1<(vint v).length→128≤(vint v).getD i 0)∧cnt (vint v)=1:=by
 induction n using Nat.strongRecOn with
 |ind n ih=>
  intro v hn h0
  rw[vint]
  by_cases c:127<v
  ·simp only[c,dite_true]
   cases n with
   |zero=>omega
   |succ n=>
    obtain ⟨h1,h2,h3,h4⟩:=ih n (Nat.lt_succ_self n) (v:=v / 128) (by exact lin (.h 1 (.l Y2 (.a Y1 (.c 1))) (.h 1 (.E (.a (.r 128 Z0) Z1) Z2) (.h 1 (.L (.c 0) Z1) (.h 128 (.E Y0 Z0) (.h 1 (.D Y2 Z2) (.G 128 (.l Y0 Y1))))))) rfl [_,_,_] [_,_,_] hn (Int.mul_ediv_add_emod _ _) (Int.emod_nonneg _ (by decide)) (Int.toNat_of_nonneg (lin (.h 1 (.T (.c 127) Z1) (.h 1 (.D (.a (.r 128 Z0) Z2) Z1) (.h 1 (.T Z2 (.c 128)) (.G 128 (.L (.c 0) Z0))))) rfl [] [_,_,_] c (Int.mul_ediv_add_emod _ _) (Int.emod_lt_of_pos _ (by decide)))) (Int.toNat_of_nonneg (lin (.h 1 (.T (.c 127) Z0) (.G 1 (.L (.c 0) Z0))) rfl [] [_] c))) (by exact lin (.h 1 (.T (.c 127) Z1) (.h 1 (.D (.a (.r 128 Z0) Z2) Z1) (.h 1 (.T Z2 (.c 128)) (.G 128 (.L (.c 0) Z0))))) rfl [] [_,_,_] c (Int.mul_ediv_add_emod _ _) (Int.emod_lt_of_pos _ (by decide)))
    refine ⟨by simp,fun k hk=> ?_,fun i hi=> ?_,?_⟩
    ·have hp:0<(vint (v / 128)).length:=List.length_pos_iff.mpr h1
     rw[List.length_cons] at hk
     obtain ⟨k',rfl⟩:∃k',k=k'+1:=⟨k - 1,by exact Nat.le_antisymm (lin (.h 1 (.d (.a Y1 (.c 1)) Y0) (.G 1 (.l Y0 (.a Y1 (.c 1))))) rfl [_,_] [] (sC (lin (.h 1 (.d (.a Y0 (.c 1)) (.a Y1 (.c 1))) (.h 1 (.t (.c 0) Y1) (.G 1 (.l (.c 1) Y0)))) rfl [_,_] [] hk hp))) (lin (.h 1 (.e (.a Y0 (.c 1)) Y1) (.G 1 (.l (.a Y0 (.c 1)) Y1))) rfl [_,_] [] (sC (lin (.h 1 (.d (.a Y0 (.c 1)) (.a Y1 (.c 1))) (.h 1 (.t (.c 0) Y1) (.G 1 (.l (.c 1) Y0)))) rfl [_,_] [] hk hp)))⟩
     simpa using h2 k' (by exact Nat.le_antisymm (lin (.h 1 (.e (.a (.a Y0 (.c 1)) (.c 1)) (.a Y1 (.c 1))) (.G 1 (.l (.a Y0 (.c 1)) Y1))) rfl [_,_] [] hk) (lin (.h 1 (.d (.a (.a Y1 (.c 1)) (.c 1)) (.a Y0 (.c 1))) (.G 1 (.l Y0 (.a Y1 (.c 1))))) rfl [_,_] [] hk))
    ·cases i with
     |zero=>simp only[List.getD_cons_zero];(exact lin (.h 1 (.L (.c 0) Z0) (.G 1 (.L (.c 128) (.a Z0 (.c 128))))) rfl [] [_] (Int.emod_nonneg _ (by decide)))
     |succ i=>rw[List.length_cons] at hi;simpa using h3 i (by exact lin (.h 1 (.t (.a (.a Y0 (.c 1)) (.c 1)) (.a Y1 (.c 1))) (.G 1 (.t (.a Y0 (.c 1)) Y1))) rfl [_,_] [] hi)
    ·have:(tw (v % 128+128)).2=0:=if_neg (by exact lin (.h 1 (.L (.c 0) Z0) (.G 1 (.nT (.a Z0 (.c 128)) (.c 128)))) rfl [] [_] (Int.emod_nonneg _ (by decide)))
     unfold cnt at h4 ⊢
     simp only[List.map_cons,wsum,this,h4]
  ·simp only[c,dite_false]
   refine ⟨by simp,fun k hk=> ?_,fun i hi=> ?_,?_⟩
   ·simp at hk;subst hk;simp;(exact lin (.h 1 (.nT (.c 127) Z0) (.G 1 (.T Z0 (.c 128)))) rfl [] [_] c)
   ·simp at hi
   ·have:(tw v).2=1:=if_pos (by exact lin (.h 1 (.nT (.c 127) Z0) (.G 1 (.T Z0 (.c 128)))) rfl [] [_] c)
    unfold cnt;simp only[List.map_cons,List.map_nil,wsum,this]
theorem rvarK_mod {l:List Int} {at_:Nat}:∀{n k:Nat} {acc v:Int} {p:Nat},rvarK l at_ n (k+1) acc= .ok (v,p)→v % 8=acc % 8
 |0,_,_,_,_,h=>by simp[rvarK] at h
 |n+1,k,acc,v,p,h=>by
  rw[rvarK] at h
  cases e:l[at_+(k+1)]? with
  |none=>rw[e] at h;simp at h
  |some b=>
   rw[e] at h
   dsimp only at h
   have hp:b % 128*128 ^ (k+1)=8*(b % 128*16*128 ^ k):=by
    rw[Int.pow_succ,Int.mul_assoc (b % 128) 16,←Int.mul_assoc 8,Int.mul_comm 8 (b % 128),Int.mul_assoc (b % 128) 8,Int.mul_comm (128 ^ k) 128,←Int.mul_assoc 8 16];rfl
   by_cases c:b<128
   ·rw[if_pos c] at h
    injection h with h
    injection h with h1 h2
    rw[←h1,hp];omega
   ·rw[if_neg c] at h
    rw[rvarK_mod h,hp];omega
theorem rtag_row {bs:List Int} (hb:∀b∈bs,0≤b∧b<256) {at_:Nat} {tag:Int} {p:Nat} (h:rtag bs at_= .ok (tag,p)):
  ∃j,p=at_+j+1∧at_+j<bs.length∧(∀i,i<j→127<bs.getD (at_+i) 0)∧bs.getD (at_+j) 0<128∧bs.getD at_ 0 % 8=tag % 8:=by
 unfold rtag at h
 by_cases c:bs.length≤tend bs at_
 ·rw[if_pos c] at h;cases h
 rw[if_neg c] at h
 have hge:=tend_ge bs at_
 have hbt:∀b∈bs.take (tend bs at_+1),0≤b∧b<256:=fun b h=>hb b (List.mem_of_mem_take h)
 obtain ⟨j,e1,e2,e3,e4,e5⟩:=rvarK_last hbt (Int.le_refl _) (by decide) h
 have hg:∀i,i<tend bs at_+1→(bs.take (tend bs at_+1)).getD i 0=bs.getD i 0:=fun i hi=>by
  rw[List.getD_eq_getElem?_getD,List.getD_eq_getElem?_getD,List.getElem?_take,if_pos hi]
 rw[List.length_take] at e5
 have hj:at_+j=tend bs at_:=by
  by_cases hlt:at_+j<tend bs at_
  ·have h127:=tend_lt bs _ at_ (at_+j) (Nat.le_refl _) (by exact lin (.G 1 (.l Y0 (.a Y0 Y1))) rfl [_,_] []) hlt
   rw[hg _ (by exact lin (.h 1 (.t (.a Y0 Y1) Y2) (.G 1 (.t (.a Y0 Y1) (.a Y2 (.c 1))))) rfl [_,_,_] [] hlt)] at e3
   exact Nat.le_antisymm (False.elim (lin (.h 1 (.T Z0 (.c 128)) (.h 1 (.T (.c 127) Z0) .F)) rfl [] [_] e3 h127)) (False.elim (lin (.h 1 (.T Z0 (.c 128)) (.h 1 (.T (.c 127) Z0) .F)) rfl [] [_] e3 h127))
  ·exact Nat.le_antisymm (lin (.h 1 (.t (.a Y0 Y1) Y3) (.h 1 (.e Y3 (.a Y2 (.c 1))) (.G 1 (.l (.a Y0 Y1) Y2)))) rfl [_,_,_,_] [] e5 (Nat.min_eq_left (lin (.h 1 (.nl Y1 Y0) (.G 1 (.l (.a Y0 (.c 1)) Y1))) rfl [_,_] [] c))) (lin (.h 1 (.nt (.a Y1 Y2) Y0) (.G 1 (.l Y0 (.a Y1 Y2)))) rfl [_,_,_] [] hlt)
 refine ⟨j,e1,by exact lin (.h 1 (.nl Y2 Y3) (.h 1 (.e (.a Y0 Y1) Y3) (.G 1 (.t (.a Y0 Y1) Y2)))) rfl [_,_,_,_] [] c hj,fun i hi=>tend_lt bs _ at_ (at_+i) (Nat.le_refl _) (by exact lin (.G 1 (.l Y0 (.a Y0 Y1))) rfl [_,_] []) (by exact lin (.h 1 (.e (.a Y0 Y3) Y2) (.h 1 (.t Y1 Y3) (.G 1 (.t (.a Y0 Y1) Y2)))) rfl [_,_,_,_] [] hj hi),by rw[←hg _ (by exact lin (.h 1 (.e (.a Y0 Y1) Y2) (.G 1 (.t (.a Y0 Y1) (.a Y2 (.c 1))))) rfl [_,_,_] [] hj)];exact e3,?_⟩
 unfold rvar at h
 rw[rvarK] at h
 have hz:(bs.take (tend bs at_+1))[at_+0]? =some (bs.getD at_ 0):=by
  have:=hg at_ (by exact lin (.h 1 (.e (.a Y0 Y2) Y1) (.G 1 (.t Y0 (.a Y1 (.c 1))))) rfl [_,_,_] [] hj)
  rw[List.getD_eq_getElem?_getD] at this
  have hlt:at_<(bs.take (tend bs at_+1)).length:=by rw[List.length_take];(exact lin (.h 1 (.t (.a Y0 Y2) Y1) (.G 1 (.t Y0 Y1))) rfl [_,_,_] [] e5)
  rw[List.getElem?_eq_getElem hlt] at this
  rw[←this];exact List.getElem?_eq_getElem hlt
 rw[hz] at h
 dsimp only at h
 by_cases c2:bs.getD at_ 0<128
 ·rw[if_pos c2] at h
  injection h with h
  injection h with h1 h2
  rw[←h1];omega
 ·rw[if_neg c2] at h
  rw[rvarK_mod h];omega
theorem cover_at:∀{l:WL},Cover l→∀i,i<l.length→∀r j,RowLike (octs (l.drop i)) r j→1≤wsum ((l.drop i).take r)
 |x::l,h,0,_,r,j,hr=>h.1 r j hr
 |x::l,h,i+1,hi,r,j,hr=>by
  rw[List.drop_succ_cons] at hr ⊢
  exact cover_at h.2 i (by simpa using hi) r j hr
theorem wsum_split (l:WL) (i r:Nat):wsum (l.take (i+r))=wsum (l.take i)+wsum ((l.drop i).take r):=by
 rw[List.take_add,wsum_append]
theorem octs_drop (l:WL) (i:Nat):octs (l.drop i)=(octs l).drop i:=List.map_drop
theorem getD_drop' (l:List Int) (i k:Nat):(l.drop i).getD k 0=l.getD (i+k) 0:=by
 rw[List.getD_eq_getElem?_getD,List.getD_eq_getElem?_getD,List.getElem?_drop]
theorem row_weight {l:WL} (hc:Cover l) {bs:List Int} (hbs:octs l=bs) (hb:∀b∈bs,0≤b∧b<256) {at_ p q:Nat} {tag:Int} (ht:rtag bs at_= .ok (tag,p)) (h2:p+1≤q) (h1:tag % 8=1→q=p+8) (h5:tag % 8=5→q=p+4) (h7:tag % 8≠7):
  wsum (l.take at_)+1≤wsum (l.take q):=by
 obtain ⟨j,e1,e2,e3,e4,e5⟩:=rtag_row hb ht
 have hlen:l.length=bs.length:=by rw[←hbs,octs_length]
 have hr:RowLike (octs (l.drop at_)) (q - at_) j:=by
  rw[octs_drop,hbs]
  refine ⟨fun i hi=>by rw[getD_drop'];exact e3 i hi,by rw[getD_drop'];exact e4,by rw[List.length_drop];(exact lin (.h 1 (.t (.a Y2 Y0) Y3) (.h 1 (.d (.a Y1 Y2) Y3) (.G 1 (.t Y0 Y1)))) rfl [_,_,_,_] [] e2 (sC (lin (.h 1 (.t (.a Y0 Y2) Y1) (.G 1 (.l Y0 Y1))) rfl [_,_,_] [] e2))),by exact lin (.h 1 (.l (.a Y2 (.c 1)) Y3) (.h 1 (.d Y2 (.a (.a Y4 Y0) (.c 1))) (.h 1 (.d (.a Y1 Y4) Y3) (.G 1 (.l (.a Y0 (.c 2)) Y1))))) rfl [_,_,_,_,_] [] h2 e1 (sC (lin (.h 1 (.l (.a Y2 (.c 1)) Y1) (.h 1 (.d Y2 (.a (.a Y0 Y3) (.c 1))) (.G 1 (.l Y0 Y1)))) rfl [_,_,_,_] [] h2 e1)),?_,?_,?_⟩
  all_goals rw[getD_drop',Nat.add_zero,e5]
  ·intro e;have:=h1 e;(exact Nat.le_antisymm (lin (.h 1 (.e Y2 (.a (.a Y3 Y1) (.c 1))) (.h 1 (.e Y4 (.a Y2 (.c 8))) (.h 1 (.e (.a Y0 Y3) Y4) (.G 1 (.l Y0 (.a Y1 (.c 9))))))) rfl [_,_,_,_,_] [] e1 this (sC (lin (.h 1 (.d Y2 (.a (.a Y0 Y3) (.c 1))) (.h 1 (.d Y1 (.a Y2 (.c 8))) (.G 1 (.l Y0 Y1)))) rfl [_,_,_,_] [] e1 this))) (lin (.h 1 (.d Y2 (.a (.a Y3 Y0) (.c 1))) (.h 1 (.d Y4 (.a Y2 (.c 8))) (.h 1 (.d (.a Y1 Y3) Y4) (.G 1 (.l (.a Y0 (.c 9)) Y1))))) rfl [_,_,_,_,_] [] e1 this (sC (lin (.h 1 (.d Y2 (.a (.a Y0 Y3) (.c 1))) (.h 1 (.d Y1 (.a Y2 (.c 8))) (.G 1 (.l Y0 Y1)))) rfl [_,_,_,_] [] e1 this))))
  ·intro e;have:=h5 e;(exact Nat.le_antisymm (lin (.h 1 (.e Y2 (.a (.a Y3 Y1) (.c 1))) (.h 1 (.e Y4 (.a Y2 (.c 4))) (.h 1 (.e (.a Y0 Y3) Y4) (.G 1 (.l Y0 (.a Y1 (.c 5))))))) rfl [_,_,_,_,_] [] e1 this (sC (lin (.h 1 (.d Y2 (.a (.a Y0 Y3) (.c 1))) (.h 1 (.d Y1 (.a Y2 (.c 4))) (.G 1 (.l Y0 Y1)))) rfl [_,_,_,_] [] e1 this))) (lin (.h 1 (.d Y2 (.a (.a Y3 Y0) (.c 1))) (.h 1 (.d Y4 (.a Y2 (.c 4))) (.h 1 (.d (.a Y1 Y3) Y4) (.G 1 (.l (.a Y0 (.c 5)) Y1))))) rfl [_,_,_,_,_] [] e1 this (sC (lin (.h 1 (.d Y2 (.a (.a Y0 Y3) (.c 1))) (.h 1 (.d Y1 (.a Y2 (.c 4))) (.G 1 (.l Y0 Y1)))) rfl [_,_,_,_] [] e1 this))))
  ·exact h7
 have:=cover_at hc at_ (by exact lin (.h 1 (.t (.a Y0 Y2) Y3) (.h 1 (.d Y1 Y3) (.G 1 (.t Y0 Y1)))) rfl [_,_,_,_] [] e2 hlen) _ j hr
 have h3:=wsum_split l at_ (q - at_)
 rw[show at_+(q - at_)=q by (exact Nat.le_antisymm (lin (.h 1 (.e (.a Y1 Y0) Y2) (.G 1 (.l (.a Y0 Y1) Y2))) rfl [_,_,_] [] (sC (lin (.h 1 (.l (.a Y2 (.c 1)) Y1) (.h 1 (.d Y2 (.a (.a Y0 Y3) (.c 1))) (.G 1 (.l Y0 Y1)))) rfl [_,_,_,_] [] h2 e1))) (lin (.h 1 (.d (.a Y2 Y1) Y0) (.G 1 (.l Y0 (.a Y1 Y2)))) rfl [_,_,_] [] (sC (lin (.h 1 (.l (.a Y2 (.c 1)) Y1) (.h 1 (.d Y2 (.a (.a Y0 Y3) (.c 1))) (.G 1 (.l Y0 Y1)))) rfl [_,_,_,_] [] h2 e1))))] at h3
 exact lin (.h 1 (.l (.c 1) Y2) (.h 1 (.d Y1 (.a Y0 Y2)) (.G 1 (.l (.a Y0 (.c 1)) Y1)))) rfl [_,_,_] [] this h3
noncomputable def GoodDat (G:List Rw→Prop):Int→Dat→Prop
 |w,.num v=>0≤v∧((w=0∨w=1)∧v<2 ^ 64∨w=5∧v<2 ^ 32)
 |w,.byt b=>w=2∧b.length<2 ^ 16
 |w,.grp g=>w=3∧G g
noncomputable def Good:Nat→List Rw→Prop
 |0,_=>False
 |d+1,rows=>rows.length<64∧∀r∈rows,0≤r.1∧r.1<2 ^ 61∧GoodDat (Good d) r.2.1 r.2.2
theorem leNum_bound:∀{l:List Int},(∀b∈l,0≤b∧b<256)→0≤leNum l∧leNum l<256 ^ l.length
 |[],_=>by simp[leNum]
 |b::l,h=>by
  have h1:=h b (.head _)
  have h2:=leNum_bound (l:=l) fun c hc=>h c (.tail _ hc)
  rw[leNum,List.length_cons,Int.pow_succ]
  exact ⟨lin (.h 1 (.L (.c 0) Z0) (.h 256 (.L (.c 0) Z1) (.G 1 (.L (.c 0) (.a Z0 (.r 256 Z1)))))) rfl [] [_,_] h1.1 h2.1,lin (.h 1 (.T Z0 (.c 256)) (.h 256 (.T Z1 Z2) (.G 1 (.T (.a Z0 (.r 256 Z1)) (.m Z2 256))))) rfl [] [_,_,_] h1.2 h2.2⟩
theorem FdR.good {bs:List Int} (hb:∀b∈bs,0≤b∧b<256) (hl:bs.length<2 ^ 16) {q:Nat} {w:Int} {x:Dat} {q2:Nat} {G:List Rw→Prop} (f:FdR bs (fun _ _=>False) q w x q2):GoodDat G w x∧q+1≤q2∧(w=1→q2=q+8)∧(w=5→q2=q+4)∧w≠7:=by
 cases f with
 |num e=>
  have hv:=rvar_range hb e
  exact ⟨⟨hv.1,.inl ⟨.inl rfl,hv.2.1⟩⟩,hv.2.2.1,fun h=>absurd h (by decide),fun h=>absurd h (by decide),by decide⟩
 |f8 c=>
  have hln:=leNum_bound (slice_bound hb (n:=8) (k:=q))
  have hle:((bs.drop q).take 8).length=8:=by rw[List.length_take,List.length_drop];exact Nat.min_eq_left (Nat.le_sub_of_add_le (Nat.add_comm q 8▸c))
  rw[hle] at hln
  exact ⟨⟨hln.1,.inl ⟨.inr rfl,hln.2⟩⟩,Nat.add_le_add_left (by decide) q,fun _=>rfl,fun h=>absurd h (by decide),by decide⟩
 |f4 c=>
  have hln:=leNum_bound (slice_bound hb (n:=4) (k:=q))
  have hle:((bs.drop q).take 4).length=4:=by rw[List.length_take,List.length_drop];exact Nat.min_eq_left (Nat.le_sub_of_add_le (Nat.add_comm q 4▸c))
  rw[hle] at hln
  exact ⟨⟨hln.1,.inr ⟨rfl,hln.2⟩⟩,Nat.add_le_add_left (by decide) q,fun h=>absurd h (by decide),fun _=>rfl,by decide⟩
 | @byt v p e=>
  have hv:=rvar_range hb e
  refine ⟨⟨rfl,?_⟩,Nat.le_trans hv.2.2.1 (Nat.le_add_right _ _),fun h=>absurd h (by decide),fun h=>absurd h (by decide),by decide⟩
  rw[List.length_map,List.length_take,List.length_drop]
  exact Nat.lt_of_le_of_lt (Nat.le_trans (Nat.min_le_right _ _) (Nat.sub_le _ _)) hl
 |grp h=>exact h.elim
theorem good_row {l:WL} {bs:List Int} (hw:wsum l<64) (hb:∀b∈bs,0≤b∧b<256) {d at_ q q2 p:Nat} {tag:Int} {x:Dat} {rs:List Rw} (e:rtag bs at_= .ok (tag,q)) (hx:GoodDat (Good d) (tag % 8) x) (hwt:wsum (l.take at_)+1≤wsum (l.take q2))
  (g:Good (d+1) rs∧rs.length+wsum (l.take q2)≤wsum (l.take p)):Good (d+1) ((tag / 8,tag % 8,x)::rs)∧((tag / 8,tag % 8,x)::rs:List Rw).length+wsum (l.take at_)≤wsum (l.take p):=by
 obtain ⟨g1,g2⟩:=g
 have hr:=rtag_range hb e
 have hlen:(((tag / 8,tag % 8,x)::rs:List Rw)).length+wsum (l.take at_)≤wsum (l.take p):=by
  rw[List.length_cons];(exact lin (.h 1 (.l (.a Y0 Y3) Y2) (.h 1 (.l (.a Y1 (.c 1)) Y3) (.G 1 (.l (.a (.a Y0 (.c 1)) Y1) Y2)))) rfl [_,_,_,_] [] g2 hwt)
 have htot:wsum (l.take p)≤wsum l:=by
  have:=wsum_take_le l p (max p l.length) (Nat.le_max_left _ _)
  rwa [List.take_of_length_le (i:=max p l.length) (Nat.le_max_right _ _)] at this
 refine ⟨⟨by exact lin (.h 1 (.t Y1 (.c 64)) (.h 1 (.l (.a Y0 Y2) Y3) (.h 1 (.l Y3 Y1) (.G 1 (.t Y0 (.c 64)))))) rfl [_,_,_,_] [] hw hlen htot,fC ⟨⟨?_,?_,hx⟩,g1.2⟩⟩,hlen⟩
 ·show 0≤tag / 8;(exact lin (.h 1 (.L (.c 0) Z1) (.h 1 (.D (.a (.r 8 Z0) Z2) Z1) (.h 1 (.T Z2 (.c 8)) (.G 8 (.L (.c 0) Z0))))) rfl [] [_,_,_] hr.1 (Int.mul_ediv_add_emod _ _) (Int.emod_lt_of_pos _ (by decide)))
 ·show tag / 8<2 ^ 61;(exact lin (.h 1 (.T Z1 (.c 18446744073709551616)) (.h 1 (.E (.a (.r 8 Z0) Z2) Z1) (.h 1 (.L (.c 0) Z2) (.G 8 (.T Z0 (.c 2305843009213693952)))))) rfl [] [_,_,_] hr.2.1 (Int.mul_ediv_add_emod _ _) (Int.emod_nonneg _ (by decide)))
theorem RS.good {l:WL} (hc:Cover l) {bs:List Int} (hbs:octs l=bs) (hb:∀b∈bs,0≤b∧b<256) (hl:bs.length<2 ^ 16) (hw:wsum l<64) {en k lv:Nat} {rows:List Rw} {p:Nat} {c:Int} (h:RS bs en lv k rows p c):
  ∀{d:Nat},lv+d=99→Good (d+1) rows∧rows.length+wsum (l.take k)≤wsum (l.take p):=by
 induction h with
 |fin=>exact fun _=>⟨⟨Nat.zero_lt_succ _,fun r hr=>absurd hr List.not_mem_nil⟩,Nat.le_of_eq (Nat.zero_add _)⟩
 | @stop lv k t p e _=>exact fun _=>⟨⟨Nat.zero_lt_succ _,fun r hr=>absurd hr List.not_mem_nil⟩,Nat.le_trans (Nat.le_of_eq (Nat.zero_add _)) (wsum_take_le l k p (Nat.le_of_lt (rtag_range hb e).2.2.1))⟩
 |row e hww f _ _ ih=>
  intro d hd
  subst hww
  obtain ⟨h1,h2,h3,h4,h5⟩:=f.good hb hl (G:=Good d)
  exact good_row hw hb e h1 (row_weight hc hbs hb e h2 h3 h4 h5) (ih hd)
 |grp e h3 hlv _ hg _ i1 i2=>
  intro d hd
  cases d with
  |zero=>rw[Nat.add_zero] at hd;rw[hd] at hlv;exact absurd hlv (by decide)
  |succ d=>exact good_row hw hb e (by rw[h3];exact ⟨rfl,(i1 (by rw[Nat.succ_add];exact hd)).1⟩) (row_weight hc hbs hb e (hg.gt hb (by have hr:=rtag_range hb e;exact Int.ediv_nonneg hr.1 (by decide))) (fun h=>absurd (h3.symm.trans h) (by decide)) (fun h=>absurd (h3.symm.trans h) (by decide)) (fun h=>absurd (h3.symm.trans h) (by decide))) (i2 hd)
theorem rset_good {l:WL} (hc:Cover l) {bs:List Int} (hbs:octs l=bs) (hb:∀b∈bs,0≤b∧b<256) (hl:bs.length<2 ^ 16) (hw:wsum l<64) {en n k lv:Nat} {rows:List Rw} {p:Nat} {c:Int} (hlv:lv<100) (h:rset bs en n k lv= .ok (rows,p,c)):
  Good (100 - lv) rows∧rows.length+wsum (l.take k)≤wsum (l.take p):=by
 have e:=(rset_R h).good hc hbs hb hl hw (d:=99 - lv) (Nat.add_sub_cancel' (Nat.le_of_lt_succ hlv))
 rwa [←Nat.sub_add_comm (Nat.le_of_lt_succ hlv)] at e
noncomputable def wrow (rec:List Rw→List Int) (r:Rw):List Int:=vint (r.1*8+r.2.1)++match r.2.2 with
 | .num v=>if r.2.1=0 then vint v else little (if r.2.1=1 then 8 else 4) v
 | .byt b=>vint b.length++ub b
 | .grp g=>rec g++vint (r.1*8+4)
noncomputable def wrs:Nat→List Rw→List Int
 |0,_=>[]
 |d+1,rows=>(rows.map (wrow (wrs d))).flatten
theorem takeWhile_vint (n:Nat):∀{v:Int} (post:List Int),v.toNat≤n→0≤v→((vint v++post).takeWhile fun b=>decide (127<b)).length+1=(vint v).length:=by
 induction n using Nat.strongRecOn with
 |ind n ih=>
  intro v post hn h0
  rw[vint]
  by_cases c:127<v
  ·simp only[c,dite_true]
   cases n with
   |zero=>(exact Nat.le_antisymm (False.elim (lin (.h 1 (.T (.c 127) Z0) (.h 1 (.l Y0 (.c 0)) (.h 1 (.D Y0 Z0) .F))) rfl [_] [_] c hn (Int.toNat_of_nonneg (lin (.h 1 (.T (.c 127) Z0) (.G 1 (.L (.c 0) Z0))) rfl [] [_] c)))) (False.elim (lin (.h 1 (.T (.c 127) Z0) (.h 1 (.l Y0 (.c 0)) (.h 1 (.D Y0 Z0) .F))) rfl [_] [_] c hn (Int.toNat_of_nonneg (lin (.h 1 (.T (.c 127) Z0) (.G 1 (.L (.c 0) Z0))) rfl [] [_] c)))))
   |succ n=>
    have h:=ih n (Nat.lt_succ_self n) (v:=v / 128) post (by exact lin (.h 1 (.l Y2 (.a Y1 (.c 1))) (.h 1 (.E (.a (.r 128 Z0) Z1) Z2) (.h 1 (.L (.c 0) Z1) (.h 128 (.E Y0 Z0) (.h 1 (.D Y2 Z2) (.G 128 (.l Y0 Y1))))))) rfl [_,_,_] [_,_,_] hn (Int.mul_ediv_add_emod _ _) (Int.emod_nonneg _ (by decide)) (Int.toNat_of_nonneg (lin (.h 1 (.T (.c 127) Z1) (.h 1 (.D (.a (.r 128 Z0) Z2) Z1) (.h 1 (.T Z2 (.c 128)) (.G 128 (.L (.c 0) Z0))))) rfl [] [_,_,_] c (Int.mul_ediv_add_emod _ _) (Int.emod_lt_of_pos _ (by decide)))) (Int.toNat_of_nonneg (lin (.h 1 (.T (.c 127) Z0) (.G 1 (.L (.c 0) Z0))) rfl [] [_] c))) (by exact lin (.h 1 (.T (.c 127) Z1) (.h 1 (.D (.a (.r 128 Z0) Z2) Z1) (.h 1 (.T Z2 (.c 128)) (.G 128 (.L (.c 0) Z0))))) rfl [] [_,_,_] c (Int.mul_ediv_add_emod _ _) (Int.emod_lt_of_pos _ (by decide)))
    rw[List.cons_append,List.takeWhile_cons,decide_eq_true (by (exact lin (.h 1 (.L (.c 0) Z0) (.G 1 (.T (.c 127) (.a Z0 (.c 128))))) rfl [] [_] (Int.emod_nonneg _ (by decide))):(127:Int)<v % 128+128)]
    simp only[if_true,List.length_cons]
    exact Nat.le_antisymm (lin (.h 1 (.e (.a Y0 (.c 1)) Y1) (.G 1 (.l (.a (.a Y0 (.c 1)) (.c 1)) (.a Y1 (.c 1))))) rfl [_,_] [] h) (lin (.h 1 (.d (.a Y1 (.c 1)) Y0) (.G 1 (.l (.a Y0 (.c 1)) (.a (.a Y1 (.c 1)) (.c 1))))) rfl [_,_] [] h)
  ·simp only[c,dite_false]
   rw[List.cons_append,List.takeWhile_cons,decide_eq_false c];rfl
theorem rvarK_vint (m:Nat):∀{bs post:List Int} {at_ n k:Nat} {acc u:Int},u.toNat≤m→0≤u→bs.drop (at_+k)=vint u++post→(vint u).length≤n→rvarK bs at_ n k acc= .ok ((acc+u*128 ^ k) % 18446744073709551616,at_+k+(vint u).length):=by
 induction m using Nat.strongRecOn with
 |ind m ih=>
  intro bs post at_ n k acc u hm h0 hd hn
  have h1:=vint_ne u
  obtain ⟨n',rfl⟩:∃n',n=n'+1:=⟨n - 1,by exact Nat.le_antisymm (lin (.h 1 (.d (.a Y1 (.c 1)) Y0) (.G 1 (.l Y0 (.a Y1 (.c 1))))) rfl [_,_] [] (sC (lin (.h 1 (.l Y1 Y0) (.h 1 (.l (.c 1) Y1) (.G 1 (.l (.c 1) Y0)))) rfl [_,_] [] hn h1))) (lin (.h 1 (.e (.a Y0 (.c 1)) Y1) (.G 1 (.l (.a Y0 (.c 1)) Y1))) rfl [_,_] [] (sC (lin (.h 1 (.l Y1 Y0) (.h 1 (.l (.c 1) Y1) (.G 1 (.l (.c 1) Y0)))) rfl [_,_] [] hn h1)))⟩
  rw[vint] at hd hn ⊢
  by_cases c:127<u
  ·simp only[c,dite_true] at hd hn ⊢
   cases m with
   |zero=>omega
   |succ m=>
    have hg:bs[at_+k]? =some (u % 128+128):=by
     have:(bs.drop (at_+k))[0]? =some (u % 128+128):=by rw[hd];rfl
     rwa [List.getElem?_drop,Nat.add_zero] at this
    have hd2:bs.drop (at_+(k+1))=vint (u / 128)++post:=by
     rw[←Nat.add_assoc,←List.drop_drop,hd];rfl
    rw[rvarK,hg]
    dsimp only
    rw[if_neg (by exact lin (.h 1 (.L (.c 0) Z0) (.G 1 (.nT (.a Z0 (.c 128)) (.c 128)))) rfl [] [_] (Int.emod_nonneg _ (by decide))),ih m (Nat.lt_succ_self m) (by exact lin (.h 1 (.l Y2 (.a Y1 (.c 1))) (.h 1 (.E (.a (.r 128 Z0) Z1) Z2) (.h 1 (.L (.c 0) Z1) (.h 128 (.E Y0 Z0) (.h 1 (.D Y2 Z2) (.G 128 (.l Y0 Y1))))))) rfl [_,_,_] [_,_,_] hm (Int.mul_ediv_add_emod _ _) (Int.emod_nonneg _ (by decide)) (Int.toNat_of_nonneg (lin (.h 1 (.T (.c 127) Z1) (.h 1 (.D (.a (.r 128 Z0) Z2) Z1) (.h 1 (.T Z2 (.c 128)) (.G 128 (.L (.c 0) Z0))))) rfl [] [_,_,_] c (Int.mul_ediv_add_emod _ _) (Int.emod_lt_of_pos _ (by decide)))) (Int.toNat_of_nonneg (lin (.h 1 (.T (.c 127) Z0) (.G 1 (.L (.c 0) Z0))) rfl [] [_] c))) (by exact lin (.h 1 (.T (.c 127) Z1) (.h 1 (.D (.a (.r 128 Z0) Z2) Z1) (.h 1 (.T Z2 (.c 128)) (.G 128 (.L (.c 0) Z0))))) rfl [] [_,_,_] c (Int.mul_ediv_add_emod _ _) (Int.emod_lt_of_pos _ (by decide))) hd2 (by simpa using hn)]
    rw[show (u % 128+128) % 128=u % 128 by omega,List.length_cons]
    have:acc+u % 128*128 ^ k+u / 128*128 ^ (k+1)=acc+u*128 ^ k:=by
     rw[Int.pow_succ,Int.mul_comm ((128:Int) ^ k) 128,←Int.mul_assoc,Int.add_assoc,←Int.add_mul]
     rw[show u % 128+u / 128*128=u by (exact Int.le_antisymm (lin (.h 1 (.E (.a (.r 128 Z1) Z0) Z2) (.G 1 (.L (.a Z0 (.m Z1 128)) Z2))) rfl [] [_,_,_] (Int.mul_ediv_add_emod _ _)) (lin (.h 1 (.D (.a (.r 128 Z2) Z1) Z0) (.G 1 (.L Z0 (.a Z1 (.m Z2 128))))) rfl [] [_,_,_] (Int.mul_ediv_add_emod _ _)))]
    rw[this,show at_+(k+1)+(vint (u / 128)).length=at_+k+((vint (u / 128)).length+1) by (exact Nat.le_antisymm (lin (.G 1 (.l (.a (.a Y0 (.a Y1 (.c 1))) Y2) (.a (.a Y0 Y1) (.a Y2 (.c 1))))) rfl [_,_,_] []) (lin (.G 1 (.l (.a (.a Y0 Y1) (.a Y2 (.c 1))) (.a (.a Y0 (.a Y1 (.c 1))) Y2))) rfl [_,_,_] []))]
  ·simp only[c,dite_false] at hd hn ⊢
   have hg:bs[at_+k]? =some u:=by
    have:(bs.drop (at_+k))[0]? =some u:=by rw[hd];rfl
    rwa [List.getElem?_drop,Nat.add_zero] at this
   rw[rvarK,hg]
   dsimp only
   rw[if_pos (by exact lin (.h 1 (.nT (.c 127) Z0) (.G 1 (.T Z0 (.c 128)))) rfl [] [_] c),show u % 128=u by omega];rfl
theorem rvar_vint {bs pre post:List Int} {v:Int} (hb:bs=pre++(vint v++post)) (h0:0≤v) (h1:v<2 ^ 64):rvar bs pre.length= .ok (v,pre.length+(vint v).length):=by
 have hd:bs.drop (pre.length+0)=vint v++post:=by rw[hb,Nat.add_zero,List.drop_left]
 rw[rvar,rvarK_vint v.toNat (Nat.le_refl _) h0 hd (vint_len 9 v (Int.lt_trans h1 (by decide)))]
 rw[Int.zero_add,Int.pow_zero,Int.mul_one,Int.emod_eq_of_lt h0 (show v<18446744073709551616 from h1)];rfl
theorem rtag_vint {bs pre post:List Int} {v:Int} (hb:bs=pre++(vint v++post)) (h0:0≤v) (h1:v<2 ^ 64):rtag bs pre.length= .ok (v,pre.length+(vint v).length):=by
 have h2:=vint_ne v
 have ht:tend bs pre.length+1=pre.length+(vint v).length:=by
  have:=takeWhile_vint v.toNat post (Nat.le_refl _) h0
  unfold tend
  rw[hb,List.drop_left]
  exact Nat.le_antisymm (lin (.h 1 (.e (.a Y1 (.c 1)) Y2) (.G 1 (.l (.a (.a Y0 Y1) (.c 1)) (.a Y0 Y2)))) rfl [_,_,_] [] this) (lin (.h 1 (.d (.a Y2 (.c 1)) Y1) (.G 1 (.l (.a Y0 Y1) (.a (.a Y0 Y2) (.c 1))))) rfl [_,_,_] [] this)
 have hlen:bs.length=pre.length+((vint v).length+post.length):=by rw[hb,List.length_append,List.length_append]
 rw[rtag,if_neg (by exact lin (.h 1 (.e (.a Y1 (.c 1)) (.a Y2 Y3)) (.h 1 (.d Y0 (.a Y2 (.a Y3 Y4))) (.G 1 (.nl Y0 Y1)))) rfl [_,_,_,_,_] [] ht hlen),ht]
 have:bs.take (pre.length+(vint v).length)=pre++(vint v++[]):=by
  rw[hb,←List.append_assoc,List.take_left' (by rw[List.length_append]),List.append_nil]
 exact rvar_vint this h0 h1
theorem leNum_little:∀(k:Nat) (v:Int),0≤v→v<256 ^ k→leNum (little k v)=v
 |0,v,h0,h1=>by simp at h1;simp[little,leNum];(exact Int.le_antisymm (lin (.h 1 (.L (.c 0) Z0) (.G 1 (.L (.c 0) Z0))) rfl [] [_] h0) (lin (.h 1 (.T Z0 (.c 1)) (.G 1 (.L Z0 (.c 0)))) rfl [] [_] h1))
 |k+1,v,h0,h1=>by
  rw[Int.pow_succ] at h1
  rw[little,leNum,leNum_little k (v / 256) (by exact lin (.h 1 (.L (.c 0) Z1) (.h 1 (.D (.a (.r 256 Z0) Z2) Z1) (.h 1 (.T Z2 (.c 256)) (.G 256 (.L (.c 0) Z0))))) rfl [] [_,_,_] h0 (Int.mul_ediv_add_emod _ _) (Int.emod_lt_of_pos _ (by decide))) (by exact lin (.h 1 (.T Z2 (.m Z1 256)) (.h 1 (.E (.a (.r 256 Z0) Z3) Z2) (.h 1 (.L (.c 0) Z3) (.G 256 (.T Z0 Z1))))) rfl [] [_,_,_,_] h1 (Int.mul_ediv_add_emod _ _) (Int.emod_nonneg _ (by decide)))];(exact Int.le_antisymm (lin (.h 1 (.E (.a (.r 256 Z1) Z0) Z2) (.G 1 (.L (.a Z0 (.r 256 Z1)) Z2))) rfl [] [_,_,_] (Int.mul_ediv_add_emod _ _)) (lin (.h 1 (.D (.a (.r 256 Z2) Z1) Z0) (.G 1 (.L Z0 (.a Z1 (.r 256 Z2))))) rfl [] [_,_,_] (Int.mul_ediv_add_emod _ _)))
theorem addRow_rows (r:Rw) (rs:List Rw) (x):addRow r (addRows rs x)=addRows (r::rs) x:=by
 cases x with
 |error=>rfl
 |ok v=>obtain ⟨a,b,c⟩:=v;rfl
theorem take_drop_at {α:Type} {pre x post bs:List α} (hb:bs=pre++(x++post)):(bs.drop pre.length).take x.length=x:=by
 rw[hb,List.drop_left,List.take_left]
theorem rset_step {bs:List Int} {end_ n at_ lv:Nat} {r:Rw} {p q:Nat} (h1:at_<end_) (ht:rtag bs at_= .ok (r.1*8+r.2.1,p)) (hw0:0≤r.2.1) (hw8:r.2.1<8) (hw4:r.2.1≠4)
  (hf:rfld bs p r.2.1 (if 100≤lv+1 then .error .decode else rgrp (rset bs end_ n p (lv+1)) bs r.1)= .ok (r.2.2,q)) (hq:q≤end_):rset bs end_ (n+1) at_ lv=addRow r (rset bs end_ n q lv):=by
 have e1:(r.1*8+r.2.1) / 8=r.1:=by exact Int.le_antisymm (lin (.h 1 (.T Z2 (.c 8)) (.h 1 (.E (.a (.r 8 Z0) Z3) (.a (.m Z1 8) Z2)) (.h 1 (.L (.c 0) Z3) (.G 8 (.L Z0 Z1))))) rfl [] [_,_,_,_] hw8 (Int.mul_ediv_add_emod _ _) (Int.emod_nonneg _ (by decide))) (lin (.h 1 (.L (.c 0) Z2) (.h 1 (.D (.a (.r 8 Z1) Z3) (.a (.m Z0 8) Z2)) (.h 1 (.T Z3 (.c 8)) (.G 8 (.L Z0 Z1))))) rfl [] [_,_,_,_] hw0 (Int.mul_ediv_add_emod _ _) (Int.emod_lt_of_pos _ (by decide)))
 have e2:(r.1*8+r.2.1) % 8=r.2.1:=by exact Int.le_antisymm (lin (.h 8 (.D Z2 Z3) (.h 1 (.E (.a (.r 8 Z2) Z0) (.a (.m Z3 8) Z1)) (.G 1 (.L Z0 Z1)))) rfl [] [_,_,_,_] e1 (Int.mul_ediv_add_emod _ _)) (lin (.h 8 (.E Z2 Z3) (.h 1 (.D (.a (.r 8 Z2) Z1) (.a (.m Z3 8) Z0)) (.G 1 (.L Z0 Z1)))) rfl [] [_,_,_,_] e1 (Int.mul_ediv_add_emod _ _))
 rw[rset_cont h1 ht (by exact fun eN=>(Int.lt_or_gt_of_ne hw4).elim (fun e31=>lin (.h 8 (.D Z0 Z1) (.h 1 (.D Z2 (.c 4)) (.h 1 (.T Z3 (.c 4)) (.h 1 (.E (.a (.r 8 Z0) Z2) (.a (.m Z1 8) Z3)) .F)))) rfl [] [_,_,_,_] e1 eN e31 (Int.mul_ediv_add_emod _ _)) (fun e31=>lin (.h 8 (.E Z0 Z1) (.h 1 (.E Z2 (.c 4)) (.h 1 (.T (.c 4) Z3) (.h 1 (.D (.a (.r 8 Z0) Z2) (.a (.m Z1 8) Z3)) .F)))) rfl [] [_,_,_,_] e1 eN e31 (Int.mul_ediv_add_emod _ _))),e1,e2,hf,rcut,if_neg (by exact lin (.h 1 (.l Y1 Y0) (.G 1 (.nt Y0 Y1))) rfl [_,_] [] hq)]
theorem back (d:Nat):∀{rows:List Rw} {bs pre suf:List Int} {lv n:Nat},Good d rows→lv+d≤100→bs=pre++(wrs d rows++suf)→bs.length<n+pre.length→
  rset bs bs.length n pre.length lv=addRows rows (rset bs bs.length (n - rows.length) (pre.length+(wrs d rows).length) lv)∧bs.length<(n - rows.length)+(pre.length+(wrs d rows).length):=by
 induction d with
 |zero=>exact fun h _ _ _=>h.elim
 |succ d ihd=>
  intro rows
  induction rows with
  |nil=>
   intro bs pre suf lv n h hlv hb hn
   refine ⟨?_,by simpa [wrs] using hn⟩
   show rset _ _ _ _ _=addRows [] (rset _ _ _ (pre.length+0) _)
   cases e:rset bs bs.length n pre.length lv with
   |error=>rfl
   |ok v=>obtain ⟨a,b,c⟩:=v;rfl
  |cons r rows ihr=>
   intro bs pre suf lv n h hlv hb hn
   obtain ⟨hr0,hr1,hg⟩:=h.2 r (.head _)
   have hrows:Good (d+1) rows:=⟨by have:=h.1;simp at this;(exact lin (.h 1 (.t (.a Y0 (.c 1)) (.c 64)) (.G 1 (.t Y0 (.c 64)))) rfl [_] [] this),fun x hx=>h.2 x (.tail _ hx)⟩
   have hwr:wrs (d+1) (r::rows)=wrow (wrs d) r++wrs (d+1) rows:=by simp only[wrs,List.map_cons,List.flatten_cons]
   have hw:0≤r.2.1∧r.2.1<8∧r.2.1≠4:=by
    revert hg
    cases r.2.2 with
    |num v=>rintro ⟨_,⟨h|h,_⟩|⟨h,_⟩⟩<;>(first|exact ⟨lin (.h 1 (.D Z0 (.c 0)) (.G 1 (.L (.c 0) Z0))) rfl [] [_] h,⟨lin (.h 1 (.E Z0 (.c 0)) (.G 1 (.T Z0 (.c 8)))) rfl [] [_] h,fun eN=>lin (.h 1 (.E Z0 (.c 0)) (.h 1 (.D Z0 (.c 4)) .F)) rfl [] [_] h eN⟩⟩|exact ⟨lin (.h 1 (.D Z0 (.c 1)) (.G 1 (.L (.c 0) Z0))) rfl [] [_] h,⟨lin (.h 1 (.E Z0 (.c 1)) (.G 1 (.T Z0 (.c 8)))) rfl [] [_] h,fun eN=>lin (.h 1 (.E Z0 (.c 1)) (.h 1 (.D Z0 (.c 4)) .F)) rfl [] [_] h eN⟩⟩|exact ⟨lin (.h 1 (.D Z0 (.c 5)) (.G 1 (.L (.c 0) Z0))) rfl [] [_] h,⟨lin (.h 1 (.E Z0 (.c 5)) (.G 1 (.T Z0 (.c 8)))) rfl [] [_] h,fun eN=>lin (.h 1 (.D Z0 (.c 5)) (.h 1 (.E Z0 (.c 4)) .F)) rfl [] [_] h eN⟩⟩)
    |byt b=>rintro ⟨h,_⟩;(exact ⟨lin (.h 1 (.D Z0 (.c 2)) (.G 1 (.L (.c 0) Z0))) rfl [] [_] h,⟨lin (.h 1 (.E Z0 (.c 2)) (.G 1 (.T Z0 (.c 8)))) rfl [] [_] h,fun eN=>lin (.h 1 (.E Z0 (.c 2)) (.h 1 (.D Z0 (.c 4)) .F)) rfl [] [_] h eN⟩⟩)
    |grp g=>rintro ⟨h,_⟩;(exact ⟨lin (.h 1 (.D Z0 (.c 3)) (.G 1 (.L (.c 0) Z0))) rfl [] [_] h,⟨lin (.h 1 (.E Z0 (.c 3)) (.G 1 (.T Z0 (.c 8)))) rfl [] [_] h,fun eN=>lin (.h 1 (.E Z0 (.c 3)) (.h 1 (.D Z0 (.c 4)) .F)) rfl [] [_] h eN⟩⟩)
   obtain ⟨dat,hdat⟩:∃dat,wrow (wrs d) r=vint (r.1*8+r.2.1)++dat:=⟨_,rfl⟩
   have hv1:=vint_ne (r.1*8+r.2.1)
   rw[hwr] at hb ⊢
   have hb1:bs=pre++(vint (r.1*8+r.2.1)++(dat++(wrs (d+1) rows++suf))):=by rw[hb,hdat];simp only[List.append_assoc]
   have hlen:bs.length=pre.length+((vint (r.1*8+r.2.1)).length+(dat.length+((wrs (d+1) rows).length+suf.length))):=by rw[hb1];simp only[List.length_append]
   obtain ⟨n',rfl⟩:∃n',n=n'+1:=⟨n - 1,by exact Nat.le_antisymm (lin (.h 1 (.d (.a Y1 (.c 1)) Y0) (.G 1 (.l Y0 (.a Y1 (.c 1))))) rfl [_,_] [] (sC (lin (.h 1 (.t Y1 (.a Y0 Y2)) (.h 1 (.l (.c 1) Y3) (.h 1 (.d Y1 (.a Y2 (.a Y3 (.a Y4 (.a Y5 Y6))))) (.G 1 (.l (.c 1) Y0))))) rfl [_,_,_,_,_,_,_] [] hn hv1 hlen))) (lin (.h 1 (.e (.a Y0 (.c 1)) Y1) (.G 1 (.l (.a Y0 (.c 1)) Y1))) rfl [_,_] [] (sC (lin (.h 1 (.t Y1 (.a Y0 Y2)) (.h 1 (.l (.c 1) Y3) (.h 1 (.d Y1 (.a Y2 (.a Y3 (.a Y4 (.a Y5 Y6))))) (.G 1 (.l (.c 1) Y0))))) rfl [_,_,_,_,_,_,_] [] hn hv1 hlen)))⟩
   have ht:=rtag_vint hb1 (by exact lin (.h 8 (.L (.c 0) Z0) (.h 1 (.L (.c 0) Z1) (.G 1 (.L (.c 0) (.a (.m Z0 8) Z1))))) rfl [] [_,_] hr0 hw.1) (by exact lin (.h 8 (.T Z0 (.c 2305843009213693952)) (.h 1 (.T Z1 (.c 8)) (.G 1 (.T (.a (.m Z0 8) Z1) (.c 18446744073709551616))))) rfl [] [_,_] hr1 hw.2.1)
   have hb2:bs=(pre++vint (r.1*8+r.2.1))++(dat++(wrs (d+1) rows++suf)):=by rw[hb1,List.append_assoc]
   have hpl:(pre++vint (r.1*8+r.2.1)).length=pre.length+(vint (r.1*8+r.2.1)).length:=List.length_append
   have hf:rfld bs (pre.length+(vint (r.1*8+r.2.1)).length) r.2.1 (if 100≤lv+1 then .error .decode else rgrp (rset bs bs.length n' (pre.length+(vint (r.1*8+r.2.1)).length) (lv+1)) bs r.1)= .ok (r.2.2,pre.length+(vint (r.1*8+r.2.1)).length+dat.length):=by
    rw[←hpl]
    have hd2:dat=(match r.2.2 with
     | .num v=>if r.2.1=0 then vint v else little (if r.2.1=1 then 8 else 4) v
     | .byt b=>vint b.length++ub b
     | .grp g=>wrs d g++vint (r.1*8+4)):=(List.append_cancel_left (show vint (r.1*8+r.2.1)++_=vint (r.1*8+r.2.1)++dat from hdat)).symm
    have hlen2:bs.length=(pre++vint (r.1*8+r.2.1)).length+(dat.length+((wrs (d+1) rows).length+suf.length)):=by rw[hpl];(exact Nat.le_antisymm (lin (.h 1 (.e Y0 (.a Y1 (.a Y2 (.a Y3 (.a Y4 Y5))))) (.G 1 (.l Y0 (.a (.a Y1 Y2) (.a Y3 (.a Y4 Y5)))))) rfl [_,_,_,_,_,_] [] hlen) (lin (.h 1 (.d Y5 (.a Y0 (.a Y1 (.a Y2 (.a Y3 Y4))))) (.G 1 (.l (.a (.a Y0 Y1) (.a Y2 (.a Y3 Y4))) Y5))) rfl [_,_,_,_,_,_] [] hlen))
    clear hdat ht hwr hb hb1 hlen
    generalize r.2.2=x at hg hd2 ⊢
    have hple:1≤(pre++vint (r.1*8+r.2.1)).length:=by exact lin (.h 1 (.l (.c 1) Y1) (.h 1 (.d Y0 (.a Y2 Y1)) (.G 1 (.l (.c 1) Y0)))) rfl [_,_,_] [] hv1 hpl
    have hnP:bs.length<n'+(pre++vint (r.1*8+r.2.1)).length:=by exact lin (.h 1 (.l (.c 1) Y3) (.h 1 (.t Y0 (.a (.a Y1 (.c 1)) Y4)) (.h 1 (.d Y2 (.a Y4 Y3)) (.G 1 (.t Y0 (.a Y1 Y2)))))) rfl [_,_,_,_,_] [] hv1 hn hpl
    clear hpl hn
    generalize pre++vint (r.1*8+r.2.1)=P at hb2 hlen2 hple hnP ⊢
    cases x with
    |num v=>
     dsimp only at hd2
     obtain ⟨hv0,⟨h01,hvb⟩|⟨h5,hvb⟩⟩:=hg
     ·rcases h01 with h0|h1
      ·rw[if_pos h0] at hd2
       rw[h0,rfld_0,rvar_vint (hd2▸hb2) hv0 hvb,hd2]
      ·rw[if_neg (by exact fun eN=>lin (.h 1 (.D Z0 (.c 1)) (.h 1 (.E Z0 (.c 0)) .F)) rfl [] [_] h1 eN),if_pos h1] at hd2
       have hl8:dat.length=8:=by rw[hd2,little_length]
       have htk:=take_drop_at hb2
       rw[hl8] at htk
       rw[h1,rfld_1,if_pos (by exact lin (.h 1 (.d Y1 (.a Y0 (.a Y2 (.a Y3 Y4)))) (.h 1 (.d Y2 (.c 8)) (.G 1 (.l (.a Y0 (.c 8)) Y1)))) rfl [_,_,_,_,_] [] hlen2 hl8),htk,hd2,leNum_little 8 v hv0 (Int.lt_of_lt_of_le hvb (by decide)),little_length]
     ·rw[if_neg (by exact fun eN=>lin (.h 1 (.D Z0 (.c 5)) (.h 1 (.E Z0 (.c 0)) .F)) rfl [] [_] h5 eN),if_neg (by exact fun eN=>lin (.h 1 (.D Z0 (.c 5)) (.h 1 (.E Z0 (.c 1)) .F)) rfl [] [_] h5 eN)] at hd2
      have hl4:dat.length=4:=by rw[hd2,little_length]
      have htk:=take_drop_at hb2
      rw[hl4] at htk
      rw[h5,rfld_5,if_pos (by exact lin (.h 1 (.d Y1 (.a Y0 (.a Y2 (.a Y3 Y4)))) (.h 1 (.d Y2 (.c 4)) (.G 1 (.l (.a Y0 (.c 4)) Y1)))) rfl [_,_,_,_,_] [] hlen2 hl4),htk,hd2,leNum_little 4 v hv0 (Int.lt_of_lt_of_le hvb (by decide)),little_length]
    |byt b=>
     dsimp only at hd2
     obtain ⟨h2,hbl⟩:=hg
     have hb3:bs=P++(vint b.length++(ub b++(wrs (d+1) rows++suf))):=by rw[hb2,hd2];simp only[List.append_assoc]
     have hb4:bs=(P++vint b.length)++(ub b++(wrs (d+1) rows++suf)):=by rw[hb3];simp only[List.append_assoc]
     have htk:=take_drop_at hb4
     rw[ub_length,List.length_append (bs:=vint b.length)] at htk
     have hub:=ub_inv b
     rw[h2,rfld_2,rvar_vint hb3 (by omega) (by exact lin (.h 1 (.t Y0 (.c 65536)) (.G 1 (.T Y0 (.c 18446744073709551616)))) rfl [_] [] hbl)]
     dsimp only
     rw[Int.toNat_natCast,htk,hub,hd2,List.length_append,ub_length,Nat.add_assoc]
    |grp g=>
     dsimp only at hd2
     obtain ⟨h3,hgg⟩:=hg
     have hd0:0<d:=by
      cases d with
      |zero=>exact hgg.elim
      |succ d=>(exact lin (.G 1 (.t (.c 0) (.a Y0 (.c 1)))) rfl [_] [])
     have hb3:bs=P++(wrs d g++(vint (r.1*8+4)++(wrs (d+1) rows++suf))):=by rw[hb2,hd2];simp only[List.append_assoc]
     have hb4:bs=(P++wrs d g)++(vint (r.1*8+4)++(wrs (d+1) rows++suf)):=by rw[hb3];simp only[List.append_assoc]
     obtain ⟨k1,k2⟩:=ihd (n:=n') (lv:=lv+1) hgg (by exact lin (.h 1 (.l (.a Y0 (.a Y1 (.c 1))) (.c 100)) (.G 1 (.l (.a (.a Y0 (.c 1)) Y1) (.c 100)))) rfl [_,_] [] hlv) hb3 (by omega)
     have hv4:=vint_ne (r.1*8+4)
     have hpl4:(P++wrs d g).length=P.length+(wrs d g).length:=List.length_append
     have hdl:dat.length=(wrs d g).length+(vint (r.1*8+4)).length:=by rw[hd2,List.length_append]
     have ht4:=rtag_vint hb4 (by exact lin (.h 8 (.L (.c 0) Z0) (.G 1 (.L (.c 0) (.a (.m Z0 8) (.c 4))))) rfl [] [_] hr0) (by exact lin (.h 8 (.T Z0 (.c 2305843009213693952)) (.G 1 (.T (.a (.m Z0 8) (.c 4)) (.c 18446744073709551616)))) rfl [] [_] hr1)
     obtain ⟨m,hm⟩:∃m,n' - g.length=m+1:=⟨n' - g.length - 1,by omega⟩
     rw[h3,rfld_3,if_neg (by exact lin (.h 1 (.l (.a Y0 (.a Y1 (.c 1))) (.c 100)) (.h 1 (.t (.c 0) Y1) (.G 1 (.nl (.c 100) (.a Y0 (.c 1)))))) rfl [_,_] [] hlv hd0),k1,hm,←hpl4,rset_end (by exact lin (.h 1 (.d Y1 (.a Y2 (.a Y3 (.a Y4 Y5)))) (.h 1 (.l (.c 1) Y6) (.h 1 (.e Y0 (.a Y2 Y7)) (.h 1 (.d Y3 (.a Y7 Y6)) (.G 1 (.t Y0 Y1)))))) rfl [_,_,_,_,_,_,_,_] [] hlen2 hv4 hpl4 hdl) ht4 (by omega),addRows_nil,rgrp]
     have hsl:((bs.take ((P++wrs d g).length+(vint (r.1*8+4)).length)).drop ((P++wrs d g).length+(vint (r.1*8+4)).length - (vint (r.1*8+4)).length))=vint (r.1*8+4):=by
      rw[Nat.add_sub_cancel,List.drop_take,Nat.add_sub_cancel_left]
      exact take_drop_at hb4
     rw[if_pos hsl,if_pos (by exact Int.le_antisymm (lin (.h 1 (.E (.a (.r 8 Z0) Z2) (.a (.m Z1 8) (.c 4))) (.h 1 (.L (.c 0) Z2) (.G 8 (.L Z0 Z1)))) rfl [] [_,_,_] (Int.mul_ediv_add_emod _ _) (Int.emod_nonneg _ (by decide))) (lin (.h 1 (.D (.a (.r 8 Z1) Z2) (.a (.m Z0 8) (.c 4))) (.h 1 (.T Z2 (.c 8)) (.G 8 (.L Z0 Z1)))) rfl [] [_,_,_] (Int.mul_ediv_add_emod _ _) (Int.emod_lt_of_pos _ (by decide)))),hpl4,hdl,Nat.add_assoc]
   have hst:=rset_step (n:=n') (lv:=lv) (end_:=bs.length) (by exact lin (.h 1 (.l (.c 1) Y2) (.h 1 (.d Y1 (.a Y0 (.a Y2 (.a Y3 (.a Y4 Y5))))) (.G 1 (.t Y0 Y1)))) rfl [_,_,_,_,_,_] [] hv1 hlen) ht hw.1 hw.2.1 hw.2.2 hf (by exact lin (.h 1 (.d Y3 (.a Y0 (.a Y1 (.a Y2 (.a Y4 Y5))))) (.G 1 (.l (.a (.a Y0 Y1) Y2) Y3))) rfl [_,_,_,_,_,_] [] hlen)
   have hb5:bs=(pre++(vint (r.1*8+r.2.1)++dat))++(wrs (d+1) rows++suf):=by rw[hb1];simp only[List.append_assoc]
   have hl5:(pre++(vint (r.1*8+r.2.1)++dat)).length=pre.length+(vint (r.1*8+r.2.1)).length+dat.length:=by simp only[List.length_append,Nat.add_assoc]
   obtain ⟨k1,k2⟩:=ihr (n:=n') (lv:=lv) hrows hlv hb5 (by exact lin (.h 1 (.l (.c 1) Y3) (.h 1 (.t Y0 (.a (.a Y1 (.c 1)) Y4)) (.h 1 (.d Y2 (.a (.a Y4 Y3) Y5)) (.G 1 (.t Y0 (.a Y1 Y2)))))) rfl [_,_,_,_,_,_] [] hv1 hn hl5)
   rw[hl5] at k1 k2
   have hlw:(wrow (wrs d) r++wrs (d+1) rows).length=(vint (r.1*8+r.2.1)).length+dat.length+(wrs (d+1) rows).length:=by rw[List.length_append,hdat,List.length_append]
   have e1:n'+1 - (r::rows).length=n' - rows.length:=by rw[List.length_cons];(exact Nat.le_antisymm ((Nat.le_total _ _).elim (fun e30=>lin (.h 1 (.e (.a Y0 (.a Y2 (.c 1))) (.a Y3 (.c 1))) (.h 1 (.d (.a Y1 Y2) Y3) (.G 1 (.l Y0 Y1)))) rfl [_,_,_,_] [] (sC (lin (.h 1 (.l (.a Y0 (.c 1)) (.a Y1 (.c 1))) (.G 1 (.l (.a Y0 (.c 1)) (.a Y1 (.c 1))))) rfl [_,_] [] e30)) (sC (lin (.h 1 (.l (.a Y0 (.c 1)) (.a Y1 (.c 1))) (.G 1 (.l Y0 Y1))) rfl [_,_] [] e30))) (fun e30=>lin (.h 1 (.e Y0 (.c 0)) (.h 1 (.d Y1 (.c 0)) (.G 1 (.l Y0 Y1)))) rfl [_,_] [] (Nat.sub_eq_zero_of_le (lin (.h 1 (.l (.a Y0 (.c 1)) (.a Y1 (.c 1))) (.G 1 (.l (.a Y0 (.c 1)) (.a Y1 (.c 1))))) rfl [_,_] [] e30)) (Nat.sub_eq_zero_of_le (lin (.h 1 (.l (.a Y0 (.c 1)) (.a Y1 (.c 1))) (.G 1 (.l Y0 Y1))) rfl [_,_] [] e30)))) ((Nat.le_total _ _).elim (fun e30=>lin (.h 1 (.e (.a Y0 Y2) Y3) (.h 1 (.d (.a Y1 (.a Y2 (.c 1))) (.a Y3 (.c 1))) (.G 1 (.l Y0 Y1)))) rfl [_,_,_,_] [] (sC (lin (.h 1 (.l Y0 Y1) (.G 1 (.l Y0 Y1))) rfl [_,_] [] e30)) (sC (lin (.h 1 (.l Y0 Y1) (.G 1 (.l (.a Y0 (.c 1)) (.a Y1 (.c 1))))) rfl [_,_] [] e30))) (fun e30=>lin (.h 1 (.e Y0 (.c 0)) (.G 1 (.l Y0 Y1))) rfl [_,_] [] (Nat.sub_eq_zero_of_le (lin (.h 1 (.l Y0 Y1) (.G 1 (.l Y0 Y1))) rfl [_,_] [] e30)))))
   have e2:pre.length+(wrow (wrs d) r++wrs (d+1) rows).length=pre.length+(vint (r.1*8+r.2.1)).length+dat.length+(wrs (d+1) rows).length:=by exact Nat.le_antisymm (lin (.h 1 (.e Y1 (.a (.a Y2 Y3) Y4)) (.G 1 (.l (.a Y0 Y1) (.a (.a (.a Y0 Y2) Y3) Y4)))) rfl [_,_,_,_,_] [] hlw) (lin (.h 1 (.d Y4 (.a (.a Y1 Y2) Y3)) (.G 1 (.l (.a (.a (.a Y0 Y1) Y2) Y3) (.a Y0 Y4)))) rfl [_,_,_,_,_] [] hlw)
   rw[hst,k1,addRow_rows,e1,e2]
   exact ⟨rfl,k2⟩
theorem read_written {d:Nat} {rows:List Rw} (h:Good d rows) (hd:d≤100):rset (wrs d rows) (wrs d rows).length ((wrs d rows).length+1) 0 0= .ok (rows,(wrs d rows).length,-1):=by
 have hb:wrs d rows=[]++(wrs d rows++[]):=by simp
 obtain ⟨h1,h2⟩:=back d (lv:=0) (n:=(wrs d rows).length+1) h (by exact lin (.h 1 (.l Y0 (.c 100)) (.G 1 (.l (.a (.c 0) Y0) (.c 100)))) rfl [_] [] hd) hb (by simp)
 simp only[List.length_nil,Nat.zero_add] at h1 h2
 obtain ⟨m,hm⟩:∃m,(wrs d rows).length+1 - rows.length=m+1:=⟨(wrs d rows).length+1 - rows.length - 1,by exact Nat.le_antisymm (lin (.h 1 (.d (.a Y1 (.c 1)) Y0) (.G 1 (.l Y0 (.a Y1 (.c 1))))) rfl [_,_] [] (sC (lin (.h 1 (.t Y1 (.a Y0 Y1)) (.G 1 (.l (.c 1) Y0))) rfl [_,_] [] h2))) (lin (.h 1 (.e (.a Y0 (.c 1)) Y1) (.G 1 (.l (.a Y0 (.c 1)) Y1))) rfl [_,_] [] (sC (lin (.h 1 (.t Y1 (.a Y0 Y1)) (.G 1 (.l (.c 1) Y0))) rfl [_,_] [] h2)))⟩
 rw[h1,hm,rset_out (by exact lin (.G 1 (.nt Y0 Y0)) rfl [_] []),addRows_nil]
theorem ff {P:Prop} (h:false=true):P:=Bool.noConfusion h
theorem ns {α:Type} {x:α} {P:Prop} (h:none=some x):P:=Option.noConfusion rfl (heq_of_eq h)
theorem allP {α:Type} {P:α→Prop}:∀p∈([]:List α),P p:=fun _ h=>absurd h List.not_mem_nil
section
noncomputable def pn (n:Nat):Pos:=⟨n / 4194304,n / 16384 % 256,n / 4194304+n / 256 % 64,n % 256⟩
set_option genCtorIdx true in
inductive Bn|len|max|min|range|sum|bytes|list|enumerate
noncomputable def Bn.nm (b:Bn):Str:= @Bn.rec (fun _=>Str) "len" "max" "min" "range" "sum" "bytes" "list" "enumerate" b
noncomputable def Bn.code (b:Bn):Nat:= @Bn.rec (fun _=>Nat) 0 1 2 3 4 5 6 7 b
noncomputable def Bn.is (a b:Bn):Bool:=Nat.beq a.code b.code
inductive Ex
 |nil|cons (a as:Ex)
 |loc (i:Nat) (p:Pos)|gl (x:Str) (p:Pos)
 |num (n:Int) (p:Pos)|txt (x:Str) (p:Pos)|non (p:Pos)|tru (p:Pos)|fls (p:Pos)
 |bin (a:Ex) (op:Operator) (b:Ex) (p:Pos)|cmp (a:Ex) (op:CmpOp) (b:Ex) (p:Pos)|una (op:UnaryOp) (a:Ex) (p:Pos)|bop (op:BoolOp) (as:Ex) (p:Pos)|ite (t a b:Ex) (p:Pos)
 |call (f as:Ex) (p:Pos)|bn (b:Bn) (q:Pos) (as:Ex) (p:Pos)|meth (o:Ex) (x:Str) (q:Pos) (as:Ex) (p:Pos)|att (o:Ex) (x:Str) (p:Pos)
 |sub (a i:Ex) (p:Pos)|slc (lo hi:Ex) (p:Pos)|tup (as:Ex) (p:Pos)|lst (as:Ex) (p:Pos)|lcp (e:PySem.Expr) (gs:List Comprehension) (sc:Scope) (p:Pos)|kc (f:PySem.Expr) (as:List PySem.Expr) (ks:List Keyword) (p:Pos)
inductive Sx
 |nil|cons (a as:Sx)
 |set (i:Nat) (q:Pos) (e:Ex) (p:Pos)|setT (ts:Ex) (q:Pos) (e:Ex) (p:Pos)|aug (i:Nat) (q:Pos) (op:Operator) (e:Ex) (p:Pos)
 |ifs (t:Ex) (a b:Sx) (p:Pos)|ret (e:Ex) (p:Pos)|exp (e:Ex) (p:Pos)|whl (t:Ex) (b:Sx) (p:Pos)|fors (t it:Ex) (b:Sx) (p:Pos)|rse (e:Ex) (p:Pos)|brk (p:Pos)|raw (s:Stmt)
set_option genCtorIdx true in
inductive AV|v (x:Value)|i (n:Int)|s (x:Str)|b (l:List UInt8)
inductive Orc|l (ns:List Int)|z (ns:List Int)
end
theorem Bn.is_eq {a b:Bn} (h:a.is b=true):a=b:=by
 have back:∀b:Bn,([Bn.len,.max,.min,.range,.sum,.bytes,.list,.enumerate]:List Bn)[b.code]? =some b:=fun b=>by cases b<;>rfl
 exact Option.some.inj ((back a).symm.trans ((congrArg _ (Nat.eq_of_beq_eq_true h)).trans (back b)))
noncomputable def Ex.kind (e:Ex):Nat:= @Ex.rec (fun _=>Nat) 0 (fun _ _ _ _=>2) (fun _ _=>1) (fun _ _=>2) (fun _ _=>2) (fun _ _=>2) (fun _=>2) (fun _=>2) (fun _=>2)
 (fun _ _ _ _ _ _=>2) (fun _ _ _ _ _ _=>2) (fun _ _ _ _=>2) (fun _ _ _ _=>2) (fun _ _ _ _ _ _ _=>2) (fun _ _ _ _ _=>2) (fun _ _ _ _ _=>2) (fun _ _ _ _ _ _ _=>2) (fun _ _ _ _=>2)
 (fun _ _ _ _ _=>2) (fun _ _ _ _ _=>2) (fun _ _ _=>2) (fun _ _ _=>2) (fun _ _ _ _=>3) (fun _ _ _ _=>2) e
noncomputable abbrev Ex.plain (e:Ex):Bool:= !Nat.beq e.kind 3
noncomputable abbrev Ex.isNil (e:Ex):Bool:=Nat.beq e.kind 0
noncomputable abbrev Ex.isLoc (e:Ex):Bool:=Nat.beq e.kind 1
theorem isNil_eq {e:Ex} (h:e.isNil=true):e= .nil:=by cases e<;>first|rfl|exact ff h
noncomputable def nth {α:Type}:List α→Nat→Option α
 |[],_=>none
 |x::_,0=>some x
 |_::l,i+1=>nth l i
noncomputable def setN {α:Type}:List (Option α)→Nat→α→List (Option α)
 |[],0,v=>[some v]
 |[],i+1,v=>none::setN [] i v
 |_::l,0,v=>some v::l
 |x::l,i+1,v=>x::setN l i v
theorem nth_nil {α:Type} {j:Nat} {x:α} {P:Prop} (h:nth [] j=some x):P:=by cases j<;>exact ns h
theorem nth_set {α:Type} {v w:α} (i:Nat):∀(l:List (Option α)) (j:Nat),nth (setN l i v) j=some (some w)→(i=j∧v=w)∨(i≠j∧nth l j=some (some w)):=by
 induction i with
 |zero=>
  intro l j h
  cases j with
  |zero=>cases l<;>exact .inl ⟨rfl,Option.some.inj (Option.some.inj h)⟩
  |succ j=>
   cases l with
   |nil=>exact nth_nil (j:=j) h
   |cons x l=>exact .inr ⟨(Nat.succ_ne_zero j).symm,h⟩
 |succ i ih=>
  intro l j h
  have up:∀{x:Option α} {l:List (Option α)},nth (x::setN l i v) j=some (some w)→(x=none∨nth [x] 0=some x)→(i+1=j∧v=w)∨(i+1≠j∧nth (x::l) j=some (some w)):=fun {x l} h _=>by
   cases j with
   |zero=>exact .inr ⟨Nat.succ_ne_zero i,h⟩
   |succ j=>exact (ih l j h).imp (fun ⟨a,b⟩=>⟨congrArg _ a,b⟩) fun ⟨a,b⟩=>⟨fun e=>a (Nat.succ.inj e),b⟩
  cases l with
  |nil=>
   refine (up (l:=[]) h (.inl rfl)).imp id fun ⟨a,b⟩=>⟨a,?_⟩
   cases j with
   |zero=>exact Option.noConfusion rfl (heq_of_eq (Option.some.inj b))
   |succ j=>exact nth_nil (j:=j) b
  |cons x l=>exact up h (.inr rfl)
noncomputable def nm (ns:List Str) (i:Nat):Str:=(nth ns i).getD ""
theorem nm_eq {ns:List Str} {i:Nat} {n:Str} (hi:nth ns i=some n):nm ns i=n:=by unfold nm;rw[hi];rfl
noncomputable def optE (e:Ex) (x:PySem.Expr):Option PySem.Expr:=bif e.isNil then none else some x
noncomputable abbrev EP:=PySem.Expr×List PySem.Expr
noncomputable def ux (ns:List Str) (e:Ex):EP:=
 @Ex.rec (fun _=>EP) (.Constant .none 0 default,[]) (fun _ _ x y=>(.Constant .none 0 default,x.1::y.2))
  (fun i p=>(.Name (nm ns i) p,[])) (fun x p=>(.Name x p,[]))
  (fun n p=>(.Constant (.int n) 0 p,[])) (fun x p=>(.Constant (.str x) 0 p,[])) (fun p=>(.Constant .none 0 p,[])) (fun p=>(.Constant (.bool true) 0 p,[])) (fun p=>(.Constant (.bool false) 0 p,[]))
  (fun _ op _ p a b=>(.BinOp a.1 op b.1 p,[])) (fun _ op _ p a b=>(.Compare a.1 [op] [b.1] p,[])) (fun op _ p a=>(.UnaryOp op a.1 p,[])) (fun op _ p a=>(.BoolOp op a.2 p,[])) (fun _ _ _ p t a b=>(.IfExp t.1 a.1 b.1 p,[]))
  (fun _ _ p f as=>(.Call f.1 as.2 [] p,[])) (fun b q _ p as=>(.Call (.Name b.nm q) as.2 [] p,[])) (fun _ x q _ p o as=>(.Call (.Attribute o.1 x q) as.2 [] p,[])) (fun _ x p o=>(.Attribute o.1 x p,[]))
  (fun _ _ p a i=>(.Subscript a.1 i.1 p,[])) (fun lo hi p a b=>(.Slice (optE lo a.1) (optE hi b.1) none p,[]))
  (fun _ p as=>(.Tuple as.2 0 p,[])) (fun _ p as=>(.List as.2 p,[])) (fun e gs sc p=>(.ListComp e gs sc p,[])) (fun f as ks p=>(.Call f as ks p,[])) e
noncomputable abbrev SP:=Stmt×List Stmt
noncomputable def su (ns:List Str) (s:Sx):SP:=
 @Sx.rec (fun _=>SP) (.Pass default,[]) (fun _ _ x y=>(.Pass default,x.1::y.2))
  (fun i q e p=>(.Assign [.Name (nm ns i) q] (ux ns e).1 p,[])) (fun ts q e p=>(.Assign [.Tuple (ux ns ts).2 0 q] (ux ns e).1 p,[])) (fun i q op e p=>(.AugAssign (.Name (nm ns i) q) op (ux ns e).1 p,[]))
  (fun t _ _ p a b=>(.If (ux ns t).1 a.2 b.2 p,[])) (fun e p=>(.Return (some (ux ns e).1) p,[])) (fun e p=>(.Expr (ux ns e).1 p,[])) (fun t _ p b=>(.While (ux ns t).1 b.2 [] p,[])) (fun t it _ p b=>(.For (ux ns t).1 (ux ns it).1 b.2 [] p,[]))
  (fun e p=>(.Raise (some (ux ns e).1) none p,[])) (fun p=>(.Break p,[])) (fun s=>(s,[])) s
noncomputable def AV.has (a:AV) (w:Value):Prop:= @AV.rec (fun _=>Prop) (fun x=>w=x) (fun n=>∃t,w= .int n t) (fun x=>∃t,w= .str x t) (fun l=>∃t,w= .bytes l.toArray t) a
inductive Hs:List AV→List Value→Prop
 |nil:Hs [] []
 |i {n t a w}:Hs a w→Hs (.i n::a) (.int n t::w)
 |s {x t a w}:Hs a w→Hs (.s x::a) (.str x t::w)
 |v {x a w}:Hs a w→Hs (.v x::a) (x::w)
 |b {l t a w}:Hs a w→Hs (.b l::a) (.bytes l.toArray t::w)
theorem Hs.of {a:AV} {v:Value} {as:List AV} {vs:List Value} (h:a.has v) (k:Hs as vs):Hs (a::as) (v::vs):=by
 cases a with
 |v x=>exact (show v=x from h)▸.v k
 |i n=>exact Exists.elim h fun t e=>e▸.i k
 |s x=>exact Exists.elim h fun t e=>e▸.s k
 |b l=>exact Exists.elim h fun t e=>e▸.b k
theorem Hs.length {as:List AV} {vs:List Value} (h:Hs as vs):as.length=vs.length:=by
 induction h with
 |nil=>rfl
 |_ _ ih=>exact congrArg (·+1) ih
theorem Hs.cons {a:AV} {as:List AV} {vs:List Value} (h:Hs (a::as) vs):∃v r,vs=v::r∧a.has v∧Hs as r:=by
 cases h with
 |i h=>exact ⟨_,_,rfl,⟨_,rfl⟩,h⟩
 |s h=>exact ⟨_,_,rfl,⟨_,rfl⟩,h⟩
 |v h=>exact ⟨_,_,rfl,rfl,h⟩
 |b h=>exact ⟨_,_,rfl,⟨_,rfl⟩,h⟩
theorem Hs.none {vs:List Value} (h:Hs [] vs):vs=[]:=by cases h;rfl
noncomputable abbrev ALed:=List (Addr×(Obj→Prop))
inductive Bs:ALed→Led→Prop
 |nil:Bs [] []
 |cons {a P o l k}:P o→Bs l k→Bs ((a,P)::l) ((a,o)::k)
theorem Bs.mem {l:ALed} {k:Led} (h:Bs l k):∀p∈k,∃P,(p.1,P)∈l∧P p.2:=by
 induction h with
 |nil=>exact allP
 |cons hp _ ih=>exact fC ⟨⟨_,.head _,hp⟩,fun p m=>(ih p m).imp fun _ h=>⟨.tail _ h.1,h.2⟩⟩
theorem Bs.get {l:ALed} {k:Led} (h:Bs l k):∀p∈l,∃o,(p.1,o)∈k∧p.2 o:=by
 induction h with
 |nil=>exact allP
 |cons hp _ ih=>exact fC ⟨⟨_,.head _,hp⟩,fun p m=>(ih p m).imp fun _ h=>⟨.tail _ h.1,h.2⟩⟩
theorem mem3 {α:Type} {x:α} {a b c:List α} (h:x∈a++c):x∈a++(b++c):=(List.mem_append.mp h).elim (fun h=>mL _ h) fun h=>mR _ (mR _ h)
structure St where
 vs:List (Option AV)
 ab:ALed
 ex:Led
noncomputable abbrev St.put (σ:St) (i:Nat) (a:AV):St:=⟨setN σ.vs i a,σ.ab,σ.ex⟩
noncomputable abbrev St.new (σ:St) (r:Addr) (P:Obj→Prop):St:=⟨σ.vs,(r,P)::σ.ab,σ.ex⟩
noncomputable abbrev St.add (σ:St) (led:Led):St:=⟨σ.vs,σ.ab,led++σ.ex⟩
noncomputable def setAll:List (Option AV)→List Nat→List AV→List (Option AV)
 |vs,i::is,a::as=>setAll (setN vs i a) is as
 |vs,_,_=>vs
noncomputable abbrev St.all (σ:St) (is:List Nat) (as:List AV):St:=⟨setAll σ.vs is as,σ.ab,σ.ex⟩
structure Kp where
 it:Led
 ot:Led
noncomputable def Kp.l (k:Kp):Led:=k.it++k.ot
structure Df where
 qual:Str
 sc:Scope
 f:Addr
 cd:Value
 names:List Str
 bs:List Bn
 gs:List (Str×Int)
structure Cx where
 w:World
 p:Program
 loose:List Str
 mean:ExcName→Option Value
 mg:Str→Option Value
 mb:Str→Option Value
 dp:Nat
 un:Nat
 gd:Option (List Code)
 outer:List Env
 L:Addr
 A₀:Around
 base:Heap
 g:Heap
 s:Shared
 E:Value→Shared→Prop
 news:Led
 xs:Addr→Prop
noncomputable abbrev Cx.A (c:Cx) (d:Df):Around:=ktrTop c.dp c.un c.gd d.qual d.sc c.L d.f d.cd [] c.outer
noncomputable abbrev Cx.env (c:Cx) (d:Df):Env:=envX d.qual d.sc c.L d.f d.cd []
noncomputable abbrev Cx.at (c:Cx) (h:Heap) (tk:Nat):Shared:={c.s with heap:=h,toks:=tk}
structure Df.Ok (d:Df):Prop where
 kind:d.sc.kind= .function
 nd:d.names.Nodup
 loc:∀x∈d.names,d.sc.names.lookup x=some .local∧(x==("__debug__":Str))=false
 bn:∀b∈d.bs,d.sc.names.lookup b.nm=some .globalImplicit
 gs:∀p∈d.gs,d.sc.names.lookup p.1=some .globalImplicit∧(p.1==("__debug__":Str))=false∧∀P,∃t,nsIn (Mine.kf P) mainGlobals p.1=some (some (.int p.2 t))
structure Fx (d:Df) (c:Cx):Prop where
 ok:d.Ok
 below:Below c.A₀ c.base c.outer c.g
 inn:(Mine.kf c.w.params).In c.g
 top:Top c.p c.loose c.mean c.mg c.mb c.g
 own:PassesOwn (model PR c.w) (c.A d) (c.env d) c.E
noncomputable def Vs (names:List Str) (vs:List (Option AV)) (m:Str→Option Value):Prop:=∀i x a,nth names i=some x→nth vs i=some (some a)→∃v,m x=some v∧a.has v
noncomputable abbrev Cx.all (c:Cx) (kp:Kp) (σ:St):Led:=σ.ex++(kp.l++c.news)
structure Ok (d:Df) (c:Cx) (kp:Kp) (σ:St) (h:Heap):Prop where
 ex:∃m bs,Fr c.g c.L h m∧Vs d.names σ.vs m∧Bs σ.ab bs∧News c.g c.L h (bs++c.all kp σ)
 nd:(σ.ab.map (·.1)).Pairwise (·≠·)
 ap:∀q∈σ.ab,∀p∈c.all kp σ,p.1≠q.1
 oe:∀p∈σ.ex,∀q∈c.news,q.1<p.1
 ek:∀p∈σ.ex,∀q∈kp.it,p.1≠q.1
 oa:∀p∈σ.ab,c.xs p.1∨∀q∈c.news,q.1<p.1
noncomputable def Post {α:Type} (d:Df) (c:Cx) (kp:Kp) (Q:α→St→Prop) (v:α) (s':Shared):Prop:=∃h σ tk,s'=c.at h tk∧Ok d c kp σ h∧Q v σ
noncomputable def G {α:Type} (d:Df) (c:Cx) (x:Sem α) (Q:α→St→Prop) (σ:St):Prop:=∀kp h tk,Ok d c kp σ h→wpAny (model PR c.w) (c.A d) x (Post d c kp Q) c.E (c.at h tk)
noncomputable def H (d:Df) (c:Cx) (s:Sx) (Q:Flow→St→Prop) (σ:St):Prop:=G d c (execs (su d.names s).2 (c.env d)) Q σ
noncomputable def sq (d:Df) (c:Cx) (s:Sx) (Q:Flow→St→Prop):Flow→St→Prop
 | .next,σ=>H d c s Q σ
 |f,σ=>Q f σ
noncomputable def AQ (Q:AV→St→Prop) (v:Value) (σ:St):Prop:=∃a:AV,a.has v∧Q a σ
noncomputable def GA (d:Df) (c:Cx) (e:Ex) (Q:AV→St→Prop) (σ:St):Prop:=G d c (eval (ux d.names e).1 (c.env d)) (AQ Q) σ
noncomputable def LAQ (Q:List AV→St→Prop) (v:List Value) (σ:St):Prop:=∃a:List AV,Hs a v∧Q a σ
noncomputable def GL (d:Df) (c:Cx) (e:Ex) (Q:List AV→St→Prop) (σ:St):Prop:=∀pos,G d c (spliced (backTo pos (starEach (ux d.names e).2 (c.env d)))) (LAQ Q) σ
section
variable {d:Df} {c:Cx} {kp:Kp} {σ:St}
theorem Ok.open {h:Heap} (K:Ok d c kp σ h) {P:Prop} (f:∀m bs,Fr c.g c.L h m→Vs d.names σ.vs m→Bs σ.ab bs→News c.g c.L h (bs++c.all kp σ)→P):P:=
 Exists.elim K.ex fun m h=>Exists.elim h fun bs h=>f m bs h.1 h.2.1 h.2.2.1 h.2.2.2
theorem Ok.same {h h':Heap} {m:Str→Option Value} {bs:Led} (K:Ok d c kp σ h) (V:Vs d.names σ.vs m) (B:Bs σ.ab bs) (F:Fr c.g c.L h' m) (N:News c.g c.L h' (bs++c.all kp σ)):Ok d c kp σ h':=⟨⟨m,bs,F,V,B,N⟩,K.nd,K.ap,K.oe,K.ek,K.oa⟩
theorem post {α:Type} {Q:α→St→Prop} {v:α} {h:Heap} {tk:Nat} (K:Ok d c kp σ h) (q:Q v σ):Post d c kp Q v (c.at h tk):=⟨h,σ,tk,rfl,K,q⟩
theorem postA {Q:AV→St→Prop} {v:Value} {a:AV} {h:Heap} {tk:Nat} (K:Ok d c kp σ h) (ha:a.has v) (q:Q a σ):Post d c kp (AQ Q) v (c.at h tk):=post K ⟨a,ha,q⟩
theorem postR {Q:AV→St→Prop} {v:Value} {h:Heap} {tk:Nat} (K:Ok d c kp σ h) (q:Q (.v v) σ):Post d c kp (AQ Q) v (c.at h tk):=postA (a:= .v v) K rfl q
theorem postI {Q:AV→St→Prop} {n:Int} {t:Tok} {h:Heap} {tk:Nat} (K:Ok d c kp σ h) (q:Q (.i n) σ):Post d c kp (AQ Q) (.int n t) (c.at h tk):=postA (a:= .i n) K ⟨t,rfl⟩ q
theorem G.run {α:Type} {x:Sem α} {Q:α→St→Prop} {h:Heap} {tk:Nat} {R:α→Shared→Prop} (g:G d c x Q σ) (K:Ok d c kp σ h) (k:∀v h' σ' tk',Ok d c kp σ' h'→Q v σ'→R v (c.at h' tk')):wpAny (model PR c.w) (c.A d) x R c.E (c.at h tk):=
 wpAny_mono (g kp h tk K) (fun v s p=>Exists.elim p fun h' p=>Exists.elim p fun σ' p=>Exists.elim p fun tk' p=>p.1▸k v h' σ' tk' p.2.1 p.2.2) fun _ _ e=>e
theorem GA.run {e:Ex} {Q:AV→St→Prop} {h:Heap} {tk:Nat} {R:Value→Shared→Prop} (g:GA d c e Q σ) (K:Ok d c kp σ h) (k:∀v a h' σ' tk',a.has v→Ok d c kp σ' h'→Q a σ'→R v (c.at h' tk')):wpAny (model PR c.w) (c.A d) (eval (ux d.names e).1 (c.env d)) R c.E (c.at h tk):=
 G.run g K fun v h' σ' tk' K' p=>Exists.elim p fun a p=>k v a h' σ' tk' p.1 K' p.2
theorem GL.run {e:Ex} {Q:List AV→St→Prop} {h:Heap} {tk:Nat} {pos:Pos} {R:List Value→Shared→Prop} (g:GL d c e Q σ) (K:Ok d c kp σ h) (k:∀v a h' σ' tk',Hs a v→Ok d c kp σ' h'→Q a σ'→R v (c.at h' tk')):wpAny (model PR c.w) (c.A d) (spliced (backTo pos (starEach (ux d.names e).2 (c.env d)))) R c.E (c.at h tk):=
 G.run (g pos) K fun v h' σ' tk' K' p=>Exists.elim p fun a p=>k v a h' σ' tk' p.1 K' p.2
theorem G_mono {α:Type} {x:Sem α} {Q Q':α→St→Prop} (h:G d c x Q σ) (k:∀v σ,Q v σ→Q' v σ):G d c x Q' σ:=fun _ _ _ K=>h.run K fun v _ σ' _ K' q=>post K' (k v σ' q)
theorem H_mono {s:Sx} {Q Q':Flow→St→Prop} (h:H d c s Q σ) (k:∀v σ,Q v σ→Q' v σ):H d c s Q' σ:=G_mono h k
theorem GA_mono {e:Ex} {Q Q':AV→St→Prop} (h:GA d c e Q σ) (k:∀a σ,Q a σ→Q' a σ):GA d c e Q' σ:=G_mono h fun _ σ p=>p.imp fun a p=>⟨p.1,k a σ p.2⟩
theorem star_any (e:Ex) (rest:List PySem.Expr) (env:Env):starEach ((ux d.names e).1::rest) env=(false,eval (ux d.names e).1 env)::starEach rest env:=by
 cases e<;>rfl
theorem marks (op:CmpOp) (e:Ex):behindInMarks op (ux d.names e).1=false:=by
 cases e<;>rfl
theorem no_swap {e:Ex} (h:e.plain=true) (t:Option PySem.Expr) (l:Nat) (env:Env):swapsWith (ux d.names e).1 t l env=pure false:=by
 cases e<;>first|rfl|exact ff h
theorem not_set (e:Ex) (env:Env) (x:Value):foldedSetIterable (ux d.names e).1 env x=pure x:=by
 cases e<;>rfl
end
theorem nth_mem {α:Type} {x:α}:∀{l:List α} {i:Nat},nth l i=some x→x∈l:=by
 intro l
 induction l with
 |nil=>exact fun h=>nth_nil h
 |cons a l ih=>
  intro i h
  cases i with
  |zero=>exact Option.some.inj h▸.head _
  |succ i=>exact .tail _ (ih (i:=i) h)
theorem nth_inj {α:Type} {x:α}:∀{l:List α} (_:l.Nodup) {i j:Nat},nth l i=some x→nth l j=some x→i=j:=by
 intro l
 induction l with
 |nil=>exact fun _ _ _ h=>nth_nil h
 |cons a l ih=>
  intro hd i j h1 h2
  obtain ⟨n1,n2⟩:=List.nodup_cons.mp hd
  cases i with
  |zero=>
   cases j with
   |zero=>rfl
   |succ j=>exact absurd (nth_mem (l:=l) (i:=j) h2) (Option.some.inj h1▸n1)
  |succ i=>
   cases j with
   |zero=>exact absurd (nth_mem (l:=l) (i:=i) h1) (Option.some.inj h2▸n1)
   |succ j=>exact congrArg _ (ih n2 (i:=i) (j:=j) h1 h2)
noncomputable abbrev Ro (α:Type):=Option (α×List Orc×List Prop)
noncomputable def All:List Prop→Prop
 |[]=>True
 |[p]=>p
 |p::q::r=>p∧All (q::r)
theorem All.tl {p:Prop} {q:List Prop} (h:All (p::q)):p∧All q:=by
 cases q with
 |nil=>exact ⟨h,trivial⟩
 |cons=>exact h
theorem All.mk {p:Prop} {q:List Prop} (h:p) (k:All q):All (p::q):=by
 cases q with
 |nil=>exact h
 |cons=>exact ⟨h,k⟩
theorem All.app {a b:List Prop}:All (a++b)→All a∧All b:=by
 induction a with
 |nil=>exact fun h=>⟨trivial,h⟩
 |cons p q ih=>exact fun h=>⟨.mk (All.tl h).1 (ih (All.tl h).2).1,(ih (All.tl h).2).2⟩
noncomputable def smallPos (b:Int):Bool:=decide (0<b) && Nat.blt b.natAbs 1000001
noncomputable def isPos (b:Int):Bool:=decide (0<b)
theorem isPos_ne {b:Int} (h:isPos b=true):b≠0:=Int.ne_of_gt (of_decide_eq_true h)
theorem smallPos_ok {b:Int} (h:smallPos b=true):b≠0∧b.natAbs<1073741824:=
 have h:=Bool.and_eq_true_iff.mp h
 ⟨isPos_ne h.1,Nat.lt_of_lt_of_le (Nat.le_of_ble_eq_true h.2) (Nat.le_of_ble_eq_true rfl)⟩
noncomputable def binI (op:Operator) (a b:Int):Option (AV×List Prop):=match op with
 | .Add=>some (.i (a+b),[])
 | .Sub=>some (.i (a - b),[])
 | .Mult=>some (.i (a*b),[IntMulOk a b])
 | .FloorDiv=>bif smallPos b then some (.i (a.fdiv b),[]) else none
 | .Mod=>bif isPos b then some (.i (a.fmod b),[]) else none
 | .Pow=>some (.i (a ^ b.toNat),[0≤b∧b≤1000000∧a.natAbs<2 ^ 64])
 | .BitAnd=>some (.i (Builtin.bitAnd a b),[])
 | .BitOr=>some (.i (Builtin.bitOr a b),[])
 | .RShift=>some (.i (a.fdiv (2 ^ b.toNat)),[0≤b])
 | .LShift=>some (.i (a*2 ^ b.toNat),[0≤b∧b≤1000000∧a.natAbs<2 ^ 64])
 |_=>none
noncomputable def cmpI (op:CmpOp) (a b:Int):Option Bool:=match op with
 | .Eq=>some (a==b)
 | .NotEq=>some (a !=b)
 | .Lt=>some (decide (a<b))
 | .LtE=>some (decide (a≤b))
 | .Gt=>some (decide (b<a))
 | .GtE=>some (decide (b≤a))
 |_=>none
noncomputable def cmpS (op:CmpOp) (a b:Str):Option Bool:=match op with
 | .Eq=>some (a==b)
 | .NotEq=>some (a !=b)
 |_=>none
noncomputable def ob {α β:Type} (x:Option α) (f:α→Option β):Option β:= @Option.rec α (fun _=>Option β) none f x
theorem ob_some {α β:Type} {x:Option α} {f:α→Option β} {r:β} (h:ob x f=some r):∃a,x=some a∧f a=some r:=by
 cases x with
 |none=>exact ns h
 |some a=>exact ⟨a,rfl,h⟩
noncomputable def un2 {α β γ:Type} (p:α×β) (f:α→β→γ):γ:= @Prod.rec α β (fun _=>γ) f p
noncomputable def AV.vo (a:AV):Option Value:= @AV.rec (fun _=>Option Value) some (fun _=>none) (fun _=>none) (fun _=>none) a
noncomputable def AV.io (a:AV):Option Int:= @AV.rec (fun _=>Option Int) (fun _=>none) some (fun _=>none) (fun _=>none) a
noncomputable def AV.bo (a:AV):Option (List UInt8):= @AV.rec (fun _=>Option (List UInt8)) (fun _=>none) (fun _=>none) (fun _=>none) some a
theorem AV.bo_eq {a:AV} {x:List UInt8} (h:a.bo=some x):a= .b x:=by cases a<;>first|exact ns h|exact congrArg _ (Option.some.inj h)
theorem AV.vo_eq {a:AV} {x:Value} (h:a.vo=some x):a= .v x:=by cases a<;>first|exact ns h|exact congrArg _ (Option.some.inj h)
theorem AV.io_eq {a:AV} {x:Int} (h:a.io=some x):a= .i x:=by cases a<;>first|exact ns h|exact congrArg _ (Option.some.inj h)
noncomputable def binA (op:Operator) (a b:AV):Option (AV×List Prop):=ob a.io fun n=>ob b.io fun m=>binI op n m
noncomputable def isNone (v:Value):Bool:=match v with
 | .none=>true
 |_=>false
theorem isNone_eq {v:Value} (h:isNone v=true):v= .none:=by cases v<;>first|rfl|exact ff h
theorem isNone_ne {v:Value} (h:isNone v=false):v≠.none:=fun e=>ff (h.symm.trans (congrArg isNone e))
noncomputable def AV.nn (a:AV):Bool:= @AV.rec (fun _=>Bool) isNone (fun _=>false) (fun _=>false) (fun _=>false) a
theorem AV.nn_eq {a:AV} {v:Value} (h:a.has v):isNone v=a.nn:=by
 cases a with
 |v x=>exact congrArg isNone h
 |i n=>exact Exists.elim h fun t e=>congrArg isNone e
 |s x=>exact Exists.elim h fun t e=>congrArg isNone e
 |b x=>exact Exists.elim h fun t e=>congrArg isNone e
noncomputable def cmpB (op:CmpOp) (a b:List UInt8):Option Bool:=match op with
 | .Eq=>some (a==b)
 | .NotEq=>some (a !=b)
 |_=>none
noncomputable def isC (op:CmpOp) (b:Bool):Option Bool:=match op with
 | .Is=>some b
 | .IsNot=>some (!b)
 |_=>none
noncomputable def cmpN (op:CmpOp) (a b:AV):Option Bool:=ob b.vo fun y=>bif isNone y then isC op a.nn else none
noncomputable def cmpA (op:CmpOp) (a b:AV):Option Bool:= @Option.rec Bool (fun _=>Option Bool)
 (@AV.rec (fun _=>Option Bool) (fun _=>none) (fun n=>ob b.io fun m=>cmpI op n m) (fun x=> @AV.rec (fun _=>Option Bool) (fun _=>none) (fun _=>none) (fun y=>cmpS op x y) (fun _=>none) b) (fun x=>ob b.bo fun y=>cmpB op x y) a) some (cmpN op a b)
noncomputable def boolOf (v:Value):Option Bool:=match v with
 | .bool b=>some b
 |_=>none
noncomputable def refOf (v:Value):Option Addr:=match v with
 | .ref a=>some a
 |_=>none
noncomputable def bytOf (v:Value):Option (Array UInt8):=match v with
 | .bytes b _=>some b
 |_=>none
theorem boolOf_eq {v:Value} {b:Bool} (h:boolOf v=some b):v= .bool b:=by cases v<;>first|exact ns h|exact congrArg _ (Option.some.inj h)
theorem refOf_eq {v:Value} {a:Addr} (h:refOf v=some a):v= .ref a:=by cases v<;>first|exact ns h|exact congrArg _ (Option.some.inj h)
theorem bytOf_eq {v : Value} {b : Array UInt8} (h : bytOf v = some b) : ∃ t, v = .bytes b t := by cases v <;> first | exact ns h | exact ⟨_, congrArg (Value.bytes · _) (Option.some.inj h)⟩
noncomputable def sng (as:List AV):Option AV:=match as with
 |[]=>none
 |a::r=>bif r.isEmpty then some a else none
noncomputable def prI (as:List AV):Option (Int×Int):=match as with
 |[]=>none
 |a::r=>ob a.io fun n=>ob (sng r) fun b=>ob b.io fun m=>some (n,m)
theorem sng_eq {as:List AV} {a:AV} (h:sng as=some a):as=[a]:=by
 cases as with
 |nil=>exact ns h
 |cons x r=>
  cases r with
  |nil=>exact congrArg (fun x=>[x]) (Option.some.inj h)
  |cons=>exact ns h
theorem prI_eq {as:List AV} {p:Int×Int} (h:prI as=some p):as=[.i p.1,.i p.2]:=by
 cases as with
 |nil=>exact ns h
 |cons x r=>
  obtain ⟨n,h1,h⟩:=ob_some h
  obtain ⟨b,h2,h⟩:=ob_some h
  obtain ⟨m,h3,h⟩:=ob_some h
  rw[AV.io_eq h1,sng_eq h2,AV.io_eq h3,←Option.some.inj h]
noncomputable def trA (a:AV):Option Bool:= @AV.rec (fun _=>Option Bool) boolOf (fun n=>some (n !=0)) (fun _=>none) (fun _=>none) a
noncomputable def negA (a:AV):Option AV:= @AV.rec (fun _=>Option AV) (fun _=>none) (fun n=>some (.i (-n))) (fun _=>none) (fun _=>none) a
theorem negA_inv {a z:AV} (h:negA a=some z):∃n,a= .i n∧z= .i (-n):=by
 cases a with
 |i n=>exact ⟨n,rfl,(Option.some.inj h).symm⟩
 |_=>exact ns h
noncomputable def iteA (c:Bool) (a b:AV):Option AV:=
 @AV.rec (fun _=>Option AV) (fun x=> @AV.rec (fun _=>Option AV) (fun y=>some (.v (bif c then x else y))) (fun _=>none) (fun _=>none) (fun _=>none) b)
  (fun x=> @AV.rec (fun _=>Option AV) (fun _=>none) (fun y=>some (.i (bif c then x else y))) (fun _=>none) (fun _=>none) b)
  (fun x=> @AV.rec (fun _=>Option AV) (fun _=>none) (fun _=>none) (fun y=>some (.s (bif c then x else y))) (fun _=>none) b)
  (fun x=>ob b.bo fun y=>some (.b (bif c then x else y))) a
theorem iteA_inv {c:Bool} {a b z:AV} (h:iteA c a b=some z) {v:Value}:(c=true→a.has v→z.has v)∧(c=false→b.has v→z.has v):=by
 have d:∀{x y:AV},(c=true→z=x)→(c=false→z=y)→(c=true→x.has v→z.has v)∧(c=false→y.has v→z.has v):=fun h1 h2=>⟨fun e k=>h1 e▸k,fun e k=>h2 e▸k⟩
 cases a<;>cases b<;>first|exact ns h|exact d (fun e=>by rw[←Option.some.inj h,e];rfl) (fun e=>by rw[←Option.some.inj h,e];rfl)
noncomputable def intsP (ns:List Int) (o:Obj):Prop:=∃vs c,o=listOf vs.toArray c∧IntsAre vs ns
noncomputable def LL (c:Cx) (σ:St) (a:Addr) (ns:List Int):Prop:=(a,intsP ns)∈σ.ab∨∃vs k,(a,listOf vs.toArray k)∈σ.ex++c.news∧IntsAre vs ns
noncomputable def LI (c:Cx) (σ:St) (a:Addr) (ns:List Int):Prop:=(a,intsP ns)∈σ.ab∨(∃vs k,(a,listOf vs.toArray k)∈σ.ex++c.news∧IntsAre vs ns)∨∃vs:List Value,c.g.IsList a vs.toArray∧IntsAre vs ns
noncomputable def orc {α:Type} (os:List Orc) (f g:List Int→List Orc→Ro α):Ro α:=match os with
 |[]=>none
 |o::os=> @Orc.rec (fun _=>Ro α) (fun ns=>f ns os) (fun ns=>g ns os) o
noncomputable def itemR (LI:Addr→List Int→Prop) (l:Addr) (k:Int) (os:List Orc):Ro AV:=
 orc os (fun ns os=>some (.i (ns.getD k.toNat 0),os,[LI l ns∧0≤k∧k<ns.length∧ns.length<2 ^ 40])) (fun ns os=>some (.i (ns.getD (k+ns.length).toNat 0),os,[LI l ns∧k<0∧-(ns.length:Int)≤k∧ns.length<2 ^ 40]))
noncomputable def itemA (LI:Addr→List Int→Prop) (a k:AV) (os:List Orc):Ro AV:=ob k.io fun k=>
 @AV.rec (fun _=>Ro AV) (fun x=>ob (refOf x) fun l=>itemR LI l k os) (fun _=>none) (fun _=>none) (fun b=>some (.i ((ub b).getD k.toNat 0),os,[0≤k∧k<b.length∧b.length<2 ^ 40])) a
noncomputable def lenV (LI:Addr→List Int→Prop) (x:Value) (os:List Orc):Ro AV:= @Option.rec Addr (fun _=>Ro AV) (ob (bytOf x) fun b=>some (.i b.size,os,[b.size<2 ^ 40]))
 (fun a=>orc os (fun ns os=>some (.i ns.length,os,[LI a ns∧ns.length<2 ^ 40])) (fun _ _=>none)) (refOf x)
noncomputable def lenA (LI:Addr→List Int→Prop) (as:List AV) (os:List Orc):Ro AV:=ob (sng as) fun a=> @AV.rec (fun _=>Ro AV) (fun x=>lenV LI x os) (fun _=>none) (fun _=>none) (fun b=>some (.i b.length,os,[b.length<2 ^ 40])) a
noncomputable def mmA (k:Int→Int→Ro AV) (as:List AV):Ro AV:=ob (prI as) fun p=>un2 p k
noncomputable def bnA (LI:Addr→List Int→Prop) (b:Bn) (as:List AV) (os:List Orc):Ro AV:=
 @Bn.rec (fun _=>Ro AV) (lenA LI as os) (mmA (fun a b=>some (.i (if b>a then b else a),os,[])) as) (mmA (fun a b=>some (.i (if b<a then b else a),os,[])) as) none none none none none b
noncomputable def asks (c:Bool) (v:Bool) (ps:List Prop):List Prop:=match ps with|[]=>[]|ps=>[c=v→All ps]
theorem asks_get {c v:Bool} {ps:List Prop} (h:All (asks c v ps)) (e:c=v):All ps:=by
 cases ps with
 |nil=>trivial
 |cons p q=>exact h e
structure Er where
 v:List Orc→Ro AV
 t:List Orc→Ro Bool
 l:List Orc→Ro (List AV)
 a:List Orc→Ro Bool
 o:List Orc→Ro Bool
noncomputable abbrev no {α:Type} (_:List Orc):Ro α:=none
noncomputable abbrev bd {α β:Type} (x:Ro α) (f:α→List Orc→List Prop→Option β):Option β:=ob x fun a=>un2 a fun a r=>un2 r (f a)
noncomputable def two {α β γ:Type} (x:List Orc→Ro α) (y:List Orc→Ro β) (f:α→β→List Orc→Ro γ) (os:List Orc):Ro γ:=
 bd (x os) fun a o p=>bd (y o) fun b o p2=>bd (f a b o) fun z o p3=>some (z,o,p++(p2++p3))
noncomputable def one {α γ:Type} (x:List Orc→Ro α) (f:α→List Orc→Ro γ) (os:List Orc):Ro γ:=bd (x os) fun a o p=>bd (f a o) fun z o p2=>some (z,o,p++p2)
noncomputable def bare {γ:Type} (x:Option γ) (os:List Orc):Ro γ:=ob x fun g=>some (g,os,[])
noncomputable def andF (x y:List Orc→Ro Bool) (os:List Orc):Ro Bool:=bd (x os) fun a o p=>bd (y o) fun b o p2=>some (a && b,o,p++asks a true p2)
noncomputable def orF (x y:List Orc→Ro Bool) (os:List Orc):Ro Bool:=bd (x os) fun a o p=>bd (y o) fun b o p2=>some (a||b,o,p++asks a false p2)
noncomputable def ofV (v:List Orc→Ro AV):Er:=⟨v,one v fun x=>bare (trA x),no,no,no⟩
noncomputable def binF (op:Operator) (x y:AV) (os:List Orc):Ro AV:=ob (binA op x y) fun z=>un2 z fun z p=>some (z,os,p)
noncomputable def boolF (x:Option Bool) (os:List Orc):Ro AV:=ob x fun b=>some (.v (.bool b),os,[])
noncomputable def cmpF (op:CmpOp) (x y:AV):List Orc→Ro AV:=boolF (cmpA op x y)
noncomputable def cmpT (op:CmpOp) (x y:AV):List Orc→Ro Bool:=bare (cmpA op x y)
noncomputable def neg (x:Option Bool):Option Bool:=ob x fun b=>some !b
noncomputable def notF (x:AV):List Orc→Ro AV:=boolF (neg (trA x))
noncomputable def notT (c:Bool):List Orc→Ro Bool:=bare (some !c)
noncomputable def negF (x:AV):List Orc→Ro AV:=bare (negA x)
noncomputable def iteF (t:List Orc→Ro Bool) (a b:List Orc→Ro AV) (os:List Orc):Ro AV:=bd (t os) fun c o p=>bd (a o) fun x o p2=>bd (b o) fun y o p3=>ob (iteA c x y) fun z=>some (z,o,p++(asks c true p2++asks c false p3))
noncomputable def unaE (a:Er) (op:UnaryOp):Er:=match op with
 | .USub=>⟨one a.v negF,no,no,no,no⟩
 | .Not=>⟨one a.v notF,one a.t notT,no,no,no⟩
 |_=>⟨no,no,no,no,no⟩
noncomputable def bopT (a:Er) (op:BoolOp):List Orc→Ro Bool:= @BoolOp.rec (fun _=>List Orc→Ro Bool) a.a a.o op
noncomputable def locA (d:Df) (vs:List (Option AV)) (i:Nat) (os:List Orc):Ro AV:=ob (nth d.names i) fun _=>ob (nth vs i) fun o=>ob o fun a=>some (a,os,[])
noncomputable def er (LI:Addr→List Int→Prop) (d:Df) (vs:List (Option AV)) (e:Ex):Er:=
 @Ex.rec (fun _=>Er) ⟨no,no,fun os=>some ([],os,[]),fun os=>some (true,os,[]),fun os=>some (false,os,[])⟩
  (fun _ b a as=>⟨no,no,two a.v as.l fun x y os=>some (x::y,os,[]),bif b.isNil then a.t else andF a.t as.a,bif b.isNil then a.t else orF a.t as.o⟩)
  (fun i _=>ofV (locA d vs i)) (fun x _=>ofV fun os=>ob (d.gs.lookup x) fun n=>some (.i n,os,[]))
  (fun n _=>ofV fun os=>some (.i n,os,[])) (fun x _=>ofV fun os=>some (.s x,os,[])) (fun _=>ofV fun os=>some (.v .none,os,[])) (fun _=>ofV fun os=>some (.v (.bool true),os,[])) (fun _=>ofV fun os=>some (.v (.bool false),os,[]))
  (fun _ op _ _ a b=>ofV (two a.v b.v (binF op)))
  (fun _ op _ _ a b=>⟨two a.v b.v (cmpF op),two a.v b.v (cmpT op),no,no,no⟩)
  (fun op _ _ a=>unaE a op) (fun op _ _ a=>⟨no,bopT a op,no,no,no⟩) (fun _ _ _ _ t a b=>⟨iteF t.t a.v b.v,no,no,no,no⟩)
  (fun _ _ _ _ _=>ofV no) (fun b _ _ _ as=>ofV (bif d.bs.any b.is then one as.l (bnA LI b) else no)) (fun _ _ _ _ _ _ _=>ofV no) (fun _ _ _ _=>ofV no)
  (fun b _ _ a i=>ofV (bif b.isLoc then two a.v i.v (itemA LI) else no)) (fun _ _ _ _ _=>⟨no,no,no,no,no⟩) (fun _ _ _=>ofV no) (fun _ _ _=>ofV no) (fun _ _ _ _=>ofV no) (fun _ _ _ _=>ofV no) e
section
variable {α β γ:Type}
theorem of1 {x y:α×List Orc×List Prop} (h:some x=some y):y.1=x.1:=(congrArg Prod.fst (Option.some.inj h)).symm
theorem ofA {x y:α×List Orc×List Prop} (h:some x=some y) (ho:All y.2.2):All x.2.2:=Option.some.inj h▸ho
theorem one_some {x:List Orc→Ro α} {f:α→List Orc→Ro γ} {os:List Orc} {r:γ×List Orc×List Prop} (h:one x f os=some r) (ho:All r.2.2) {P:Prop} (k:∀a z,x os=some a→f a.1 a.2.1=some z→All a.2.2→All z.2.2→r.1=z.1→P):P:=by
 obtain ⟨a,h1,h⟩:=ob_some h
 obtain ⟨z,h2,h⟩:=ob_some h
 have h:some (z.1,z.2.1,a.2.2++z.2.2)=some r:=h
 have o:=All.app (ofA h ho)
 exact k a z h1 h2 o.1 o.2 (of1 (x:=(z.1,z.2.1,a.2.2++z.2.2)) h)
theorem two_some {x:List Orc→Ro α} {y:List Orc→Ro β} {f:α→β→List Orc→Ro γ} {os:List Orc} {r:γ×List Orc×List Prop} (h:two x y f os=some r) (ho:All r.2.2) {P:Prop}
  (k:∀a b z,x os=some a→y a.2.1=some b→f a.1 b.1 b.2.1=some z→All a.2.2→All b.2.2→All z.2.2→r.1=z.1→P):P:=by
 obtain ⟨a,h1,h⟩:=ob_some h
 obtain ⟨b,h2,h⟩:=ob_some h
 obtain ⟨z,h3,h⟩:=ob_some h
 have h:some (z.1,z.2.1,a.2.2++(b.2.2++z.2.2))=some r:=h
 have o:=All.app (ofA h ho)
 have o2:=All.app o.2
 exact k a b z h1 h2 h3 o.1 o2.1 o2.2 (of1 (x:=(z.1,z.2.1,a.2.2++(b.2.2++z.2.2))) h)
theorem bare_some {x:Option γ} {os:List Orc} {r:γ×List Orc×List Prop} (h:bare x os=some r):x=some r.1:=by
 obtain ⟨g,h1,h⟩:=ob_some h
 exact h1.trans (congrArg some (of1 h).symm)
theorem boolF_some {x:Option Bool} {os:List Orc} {r:AV×List Orc×List Prop} (h:boolF x os=some r):∃b,x=some b∧r.1= .v (.bool b):=by
 obtain ⟨g,h1,h⟩:=ob_some h
 exact ⟨g,h1,of1 h⟩
theorem andF_some {x y:List Orc→Ro Bool} {os:List Orc} {r:Bool×List Orc×List Prop} (h:andF x y os=some r) (ho:All r.2.2) {P:Prop}
  (k:∀a q,x os=some a→y a.2.1=some q→All a.2.2→(a.1=true→All q.2.2)→r.1=(a.1 && q.1)→P):P:=by
 obtain ⟨a,h1,h⟩:=ob_some h
 obtain ⟨q,h2,h⟩:=ob_some h
 have o:=All.app (ofA h ho)
 exact k a q h1 h2 o.1 (asks_get o.2) (of1 h)
theorem orF_some {x y:List Orc→Ro Bool} {os:List Orc} {r:Bool×List Orc×List Prop} (h:orF x y os=some r) (ho:All r.2.2) {P:Prop}
  (k:∀a q,x os=some a→y a.2.1=some q→All a.2.2→(a.1=false→All q.2.2)→r.1=(a.1||q.1)→P):P:=by
 obtain ⟨a,h1,h⟩:=ob_some h
 obtain ⟨q,h2,h⟩:=ob_some h
 have o:=All.app (ofA h ho)
 exact k a q h1 h2 o.1 (asks_get o.2) (of1 h)
theorem iteF_some {t:List Orc→Ro Bool} {a b:List Orc→Ro AV} {os:List Orc} {x:AV×List Orc×List Prop} (h:iteF t a b os=some x) (ho:All x.2.2) {P:Prop}
  (k:∀r u v,t os=some r→a r.2.1=some u→b u.2.1=some v→iteA r.1 u.1 v.1=some x.1→All r.2.2→(r.1=true→All u.2.2)→(r.1=false→All v.2.2)→P):P:=by
 obtain ⟨r,h1,h⟩:=ob_some h
 obtain ⟨u,h2,h⟩:=ob_some h
 obtain ⟨v,h3,h⟩:=ob_some h
 obtain ⟨z,h4,h⟩:=ob_some h
 have o:=All.app (ofA h ho)
 have o2:=All.app o.2
 exact k r u v h1 h2 h3 (h4.trans (congrArg some (of1 h).symm)) o.1 (asks_get o2.1) (asks_get o2.2)
theorem orc_some {os:List Orc} {f g:List Int→List Orc→Ro α} {r:α×List Orc×List Prop} (h:orc os f g=some r):(∃ns os',f ns os'=some r)∨∃ns os',g ns os'=some r:=by
 cases os with
 |nil=>exact ns h
 |cons o os=>
  cases o with
  |l ns=>exact .inl ⟨ns,os,h⟩
  |z ns=>exact .inr ⟨ns,os,h⟩
theorem hasI {r:AV} {n:Int} {t:Tok} (h:r= .i n):r.has (.int n t):=h▸⟨t,rfl⟩
theorem hasV {r:AV} {v:Value} (h:r= .v v):r.has v:=h▸rfl
theorem ofP {z:AV} {p:List Prop} {r:AV×List Prop} (e:some (z,p)=some r) (ho:All r.2):All p:=(show p=r.2 from congrArg Prod.snd (Option.some.inj e))▸ho
theorem AV.vo_has {a:AV} {x v:Value} (h:a.vo=some x) (hx:a.has v):v=x:=by rw[AV.vo_eq h] at hx;exact hx
theorem AV.io_has {a:AV} {n:Int} {v:Value} (h:a.io=some n) (hx:a.has v):∃t,v= .int n t:=by rw[AV.io_eq h] at hx;exact hx
theorem AV.has_i {n:Int} {v:Value} (h:(AV.i n).has v):∃t,v= .int n t:=h
theorem AV.has_v {x v:Value} (h:(AV.v x).has v):v=x:=h
theorem AV.has_b {l:List UInt8} {v:Value} (h:(AV.b l).has v):∃t,v= .bytes l.toArray t:=h
theorem AV.has_s {x:Str} {v:Value} (h:(AV.s x).has v):∃t,v= .str x t:=h
end
section
variable {d:Df} {c:Cx} {kp:Kp} {σ:St} {A:Around} {E:Value→Shared→Prop} {Q:Value→Shared→Prop} {s:Shared}
theorem bif_some {α:Type} {b:Bool} {x r:α} (h:(bif b then some x else none)=some r):b=true∧x=r:=by
 cases b with
 |false=>exact ns h
 |true=>exact ⟨rfl,Option.some.inj h⟩
theorem bin_int {op:Operator} {n m:Int} {t u:Tok} {r:AV×List Prop} (e:binI op n m=some r) (ho:All r.2) (k:∀v t,r.1.has v→Q v {s with toks:=t}):wpAny (model PR c.w) A (binaryOp op (.int n t) (.int m u)) Q E s:=by
 have h1:∀{z:Int} {p:List Prop} {t},some (AV.i z,p)=some r→Q (.int z t) {s with toks:=s.toks+1}:=fun e=>k _ _ (hasI (congrArg Prod.fst (Option.some.inj e)).symm)
 cases op with
 |Add=>exact add_int (h1 e)
 |Sub=>exact sub_int (h1 e)
 |Mult=>exact mul_int (h1 e) (ofP e ho)
 |FloorDiv=>
  have e:=bif_some e
  exact floordiv_int (smallPos_ok e.1).1 (h1 (congrArg some e.2)) (.inl (PyProof.noPylong_small (smallPos_ok e.1).2))
 |Mod=>
  have e:=bif_some e
  exact mod_int' (isPos_ne e.1) (h1 (congrArg some e.2))
 |Pow=>
  have o:All [0≤m∧m≤1000000∧n.natAbs<2 ^ 64]:=ofP e ho
  exact pow_int_small o.1 o.2.1 o.2.2 (h1 e)
 |BitAnd=>exact and_int (h1 e)
 |BitOr=>exact or_int (h1 e)
 |RShift=>exact rshift_int (show All [0≤m] from ofP e ho) (h1 e)
 |LShift=>
  have o:All [0≤m∧m≤1000000∧n.natAbs<2 ^ 64]:=ofP e ho
  exact lshift_int_small o.1 o.2.1 o.2.2 (h1 e)
 |_=>exact ns e
theorem bin_ok {op:Operator} {a b:AV} {r:AV×List Prop} {x y:Value} (e:binA op a b=some r) (ho:All r.2) (hx:a.has x) (hy:b.has y) (k:∀v t,r.1.has v→Q v {s with toks:=t}):wpAny (model PR c.w) A (binaryOp op x y) Q E s:=by
 obtain ⟨n,h1,e⟩:=ob_some e
 obtain ⟨m,h2,e⟩:=ob_some e
 obtain ⟨t,hx⟩:=AV.io_has h1 hx
 obtain ⟨u,hy⟩:=AV.io_has h2 hy
 rw[hx,hy]
 exact bin_int e ho k
theorem cmp_int {op:CmpOp} {n m:Int} {t u:Tok} {r:Bool} (e:cmpI op n m=some r) (k:Q (.bool r) s):wpAny (model PR c.w) A (compareOp op (.int n t) (.int m u)) Q E s:=by
 have h1:∀{z:Bool},some z=some r→Q (.bool z) s:=fun e=>Option.some.inj e▸k
 cases op with
 |Eq=>exact eq_int (h1 e)
 |NotEq=>exact ne_int (h1 e)
 |Lt=>exact lt_int (h1 e)
 |LtE=>exact le_int (h1 e)
 |Gt=>exact gt_int (h1 e)
 |GtE=>exact ge_int (h1 e)
 |_=>exact ns e
theorem cmp_str {op:CmpOp} {n m:Str} {t u:Tok} {r:Bool} (e:cmpS op n m=some r) (k:Q (.bool r) s):wpAny (model PR c.w) A (compareOp op (.str n t) (.str m u)) Q E s:=by
 have h1:∀{z:Bool},some z=some r→Q (.bool z) s:=fun e=>Option.some.inj e▸k
 cases op with
 |Eq=>exact eq_str (h1 e)
 |NotEq=>exact ne_str (h1 e)
 |_=>exact ns e
theorem cmp_bytes {op:CmpOp} {n m:List UInt8} {t u:Tok} {r:Bool} (e:cmpB op n m=some r) (k:Q (.bool r) s):wpAny (model PR c.w) A (compareOp op (.bytes n.toArray t) (.bytes m.toArray u)) Q E s:=by
 have h1:∀{z:Bool},some z=some r→Q (.bool z) s:=fun e=>Option.some.inj e▸k
 cases op with
 |Eq=>exact eq_bytes (h1 e)
 |NotEq=>exact ne_bytes (h1 e)
 |_=>exact ns e
theorem cmp_none {op:CmpOp} {a b:AV} {r:Bool} {x y:Value} (e:cmpN op a b=some r) (hx:a.has x) (hy:b.has y) (k:Q (.bool r) s):wpAny (model PR c.w) A (compareOp op x y) Q E s:=by
 obtain ⟨z,h1,e⟩:=ob_some e
 have hy:y=z:=by rw[AV.vo_eq h1] at hy;exact hy
 have h2:isNone z=true:=by
  cases h:isNone z with
  |true=>rfl
  |false=>rw[h] at e;exact ns e
 rw[hy,isNone_eq h2]
 rw[h2] at e
 have e:isC op a.nn=some r:=e
 have hb:(x==Value.none)=a.nn:=by
  rw[←AV.nn_eq hx]
  cases h:isNone x with
  |true=>rw[isNone_eq h];rfl
  |false=>exact beq_eq_false_iff_ne.mpr (isNone_ne h)
 cases op with
 |Is=>exact is_none_gen (by rw[hb,Option.some.inj e];exact k)
 |IsNot=>exact isnot_none_gen (by rw[hb,Option.some.inj e];exact k)
 |_=>exact ns e
theorem cmp_ok {op:CmpOp} {a b:AV} {r:Bool} {x y:Value} (e:cmpA op a b=some r) (hx:a.has x) (hy:b.has y) (k:Q (.bool r) s):wpAny (model PR c.w) A (compareOp op x y) Q E s:=by
 unfold cmpA at e
 cases hn:cmpN op a b with
 |some z=>
  rw[hn] at e
  have e:some z=some r:=e
  exact cmp_none (hn.trans e) hx hy k
 |none=>
  rw[hn] at e
  cases a with
  |v=>exact ns e
  |i n=>
   obtain ⟨m,h2,e⟩:=ob_some e
   obtain ⟨t,hx⟩:=AV.has_i hx
   obtain ⟨u,hy⟩:=AV.io_has h2 hy
   rw[hx,hy];exact cmp_int e k
  |s n=>
   cases b with
   |s m=>
    obtain ⟨t,hx⟩:=AV.has_s hx
    obtain ⟨u,hy⟩:=AV.has_s hy
    rw[hx,hy];exact cmp_str e k
   |_=>exact ns e
  |b n=>
   obtain ⟨m,h2,e⟩:=ob_some e
   obtain ⟨t,hx⟩:=AV.has_b hx
   obtain ⟨u,hy⟩:=AV.has_b (AV.bo_eq h2▸hy:(AV.b m).has y)
   rw[hx,hy];exact cmp_bytes e k
theorem tr_ok {a:AV} {r:Bool} {x:Value} {Q:Bool→Shared→Prop} (e:trA a=some r) (hx:a.has x) (k:Q r s):wpAny (model PR c.w) A (truthy x) Q E s:=by
 cases a with
 |v y=>rw[AV.has_v hx,boolOf_eq e];exact wpAny_truthy_bool k
 |i n=>obtain ⟨t,hx⟩:=AV.has_i hx;rw[hx];exact truthy_int (Option.some.inj e▸k)
 |_=>exact ns e
theorem ok_li {h:Heap} {a:Addr} {ns:List Int} (K:Ok d c kp σ h) (hl:LI c σ a ns):∃vs,h.IsList a vs.toArray∧IntsAre vs ns:=by
 refine K.open fun m bs F V B N=> ?_
 rcases hl with hl|⟨vs,k,hm,hi⟩|⟨vs,⟨o,h1,h2⟩,hi⟩
 ·obtain ⟨o,h1,vs,k,rfl,hi⟩:=B.get _ hl
  exact ⟨vs,isList_led N (mL _ h1),hi⟩
 ·exact ⟨vs,isList_led N (mR _ (mem3 hm)),hi⟩
 ·exact ⟨vs,⟨o,F.keep _ _ h1,h2⟩,hi⟩
theorem item_ok {a b:AV} {os:List Orc} {r:AV×List Orc×List Prop} {x y:Value} {ve se:PySem.Expr} {h:Heap} {tk:Nat} (e:itemA (LI c σ) a b os=some r) (ho:All r.2.2) (hx:a.has x) (hy:b.has y) (K:Ok d c kp σ h) (k:∀v tk',r.1.has v→Q v (c.at h tk'))
  (hs:∀v i t,subscripted se false v (.int i t)=operate [v,.int i t] (getItem v (.int i t))) (hv:∀v r,letTemporaryGo ve v r=pure ()):wpAny (model PR c.w) A (subscriptTail ve se x y) Q E (c.at h tk):=by
 obtain ⟨i,h3,e⟩:=ob_some e
 obtain ⟨u,hy⟩:=AV.io_has h3 hy
 rw[hy]
 cases a with
 |v x'=>
  obtain ⟨l,h2,e⟩:=ob_some e
  rw[AV.has_v hx,refOf_eq h2]
  rcases orc_some e with ⟨ns,os',e⟩|⟨ns,os',e⟩
  ·have o:All [LI c σ l ns∧0≤i∧i<ns.length∧ns.length<2 ^ 40]:=ofA e ho
   obtain ⟨vs,hl,hi⟩:=ok_li K o.1
   exact item_list_ints hl hi o.2.1 o.2.2.1 (lin (.h 1 (.T Z0 Y0) (.h 1 (.t Y0 (.c 1099511627776)) (.G 1 (.T Z0 (.c 9223372036854775808))))) rfl [_] [_] o.2.2.1 o.2.2.2) (fun t=>k _ _ (hasI (of1 e))) (hs _ _ _) (hv _)
  ·have o:All [LI c σ l ns∧i<0∧-(ns.length:Int)≤i∧ns.length<2 ^ 40]:=ofA e ho
   obtain ⟨vs,hl,hi⟩:=ok_li K o.1
   exact item_list_ints_neg hl hi o.2.1 o.2.2.1 (lin (.h 1 (.L (.n Y0) Z0) (.h 1 (.t Y0 (.c 1099511627776)) (.G 1 (.L (.n (.c 9223372036854775808)) Z0)))) rfl [_] [_] o.2.2.1 o.2.2.2) (fun t=>k _ _ (hasI (of1 e))) (hs _ _ _) (hv _)
 |b l=>
  obtain ⟨t,hx⟩:=AV.has_b hx
  have o:All [0≤i∧i<l.length∧l.length<2 ^ 40]:=ofA e ho
  rw[hx]
  refine KBy.item_N (Nat.le_of_lt o.2.2) o.1 o.2.1 ?_ (hs _ _ _) (hv _)
  rw[ub_getD]
  exact k _ _ (hasI (of1 e))
 |_=>exact ns e
noncomputable def Bn.id (b:Bn):String:= @Bn.rec (fun _=>String) "len" "max" "min" "" "" "" "" "" b
theorem Hs.one {a:AV} {xs:List Value} (h:Hs [a] xs):∃v,xs=[v]∧a.has v:=by
 obtain ⟨v,r,e,hv,hr⟩:=h.cons
 exact ⟨v,by rw[e,hr.none],hv⟩
theorem mm_ok {f:Int→Int→Int} {as:List AV} {os:List Orc} {r:AV×List Orc×List Prop} {xs:List Value} (e:mmA (fun a b=>some (.i (f a b),os,[])) as=some r) (hx:Hs as xs):∃a b t u,xs=[.int a t,.int b u]∧r.1= .i (f a b):=by
 obtain ⟨p,h1,e⟩:=ob_some e
 obtain ⟨v,xs',hx',⟨t,hv⟩,hr⟩:=Hs.cons (prI_eq h1▸hx)
 obtain ⟨w,hr,⟨u,hw⟩⟩:=hr.one
 exact ⟨p.1,p.2,t,u,by rw[hx',hv,hr,hw],of1 e⟩
theorem len_ok {as:List AV} {os:List Orc} {r:AV×List Orc×List Prop} {xs:List Value} {h:Heap} {tk:Nat} (e:lenA (LI c σ) as os=some r) (ho:All r.2.2) (hx:Hs as xs) (K:Ok d c kp σ h) (k:∀v tk',r.1.has v→Q v (c.at h tk')):wpAny (model PR c.w) A (call (.builtin "len") xs) Q E (c.at h tk):=by
 obtain ⟨a,h1,e⟩:=ob_some e
 obtain ⟨v,hv,hw⟩:=Hs.one (sng_eq h1▸hx)
 cases a with
 |i=>exact ns e
 |s=>exact ns e
 |b l=>
  obtain ⟨t,hw⟩:=AV.has_b hw
  have o:All [l.length<2 ^ 40]:=ofA e ho
  rw[hv,hw]
  exact len_bytes (Nat.le_of_lt o) (k _ _ (hasI (of1 e)))
 |v x=>
 rw[hv,AV.has_v hw]
 have e: @Option.rec Addr (fun _=>Ro AV) (ob (bytOf x) fun b=>some (.i b.size,os,[b.size<2 ^ 40])) (fun a=>orc os (fun ns os=>some (.i ns.length,os,[LI c σ a ns∧ns.length<2 ^ 40])) (fun _ _=>none)) (refOf x)=some r:=e
 cases hr:refOf x with
 |none=>
  rw[hr] at e
  obtain ⟨b,h3,e⟩:=ob_some e
  obtain ⟨t,hb⟩:=bytOf_eq h3
  have o:All [b.size<2 ^ 40]:=ofA e ho
  rw[hb]
  exact len_bytes (Nat.le_of_lt o) (k _ _ (hasI (of1 e)))
 |some l=>
  rw[hr] at e
  rw[refOf_eq hr]
  rcases orc_some e with ⟨ns,os',e⟩|⟨_,_,e⟩
  ·have o:All [LI c σ l ns∧ns.length<2 ^ 40]:=ofA e ho
   obtain ⟨vs,hl,hi⟩:=ok_li K o.1
   exact len_ints_fit hl hi (Nat.lt_of_lt_of_le o.2 (show 2 ^ 40≤2 ^ 62 from Nat.le_of_ble_eq_true rfl)) (k _ _ (hasI (of1 e)))
  ·exact Mine.ns e
theorem bn_ok {b:Bn} {as:List AV} {os:List Orc} {r:AV×List Orc×List Prop} {xs:List Value} {h:Heap} {tk:Nat} (e:bnA (LI c σ) b as os=some r) (ho:All r.2.2) (hx:Hs as xs) (K:Ok d c kp σ h)
  (k:∀v h' tk',r.1.has v→Ok d c kp σ h'→Q v (c.at h' tk')):wpAny (model PR c.w) (c.A d) (call (.builtin b.id) xs) Q E (c.at h tk):=by
 cases b with
 |len=>exact len_ok e ho hx K fun v t hv=>k v h t hv K
 |max=>
  obtain ⟨a,b,t,u,hxs,hr⟩:=mm_ok (f:=fun a b=>if b>a then b else a) (os:=os) e hx
  rw[hxs]
  exact K.open fun m bs F V B N=>max_two_N rfl F N fun h' tk' F' N'=>k _ h' _ (hasI hr) (K.same V B F' N')
 |min=>
  obtain ⟨a,b,t,u,hxs,hr⟩:=mm_ok (f:=fun a b=>if b<a then b else a) (os:=os) e hx
  rw[hxs]
  exact K.open fun m bs F V B N=>min_two_N rfl F N fun h' tk' F' N'=>k _ h' _ (hasI hr) (K.same V B F' N')
 |_=>exact ns e
theorem bn_name {b:Bn} {LI:Addr→List Int→Prop} {as:List AV} {os:List Orc} {r:AV×List Orc×List Prop} (e:bnA LI b as os=some r) {P:Params}:bootBuiltins b.nm=some (.builtin b.id)∧nsIn (Mine.kf P) mainGlobals b.nm=some none∧b.nm≠"__name__"∧(b.nm==("__debug__":Str))=false:=by
 cases b with
 |len=>exact ⟨rfl,rfl,by decide,by decide⟩
 |max=>exact ⟨rfl,rfl,by decide,by decide⟩
 |min=>exact ⟨rfl,rfl,by decide,by decide⟩
 |_=>exact ns e
end
section
variable {d:Df} {c:Cx} {σ:St}
noncomputable def Gp {α:Type} (d:Df) (c:Cx) (σ:St) (x:Sem α) (P:α→Prop):Prop:=∀(kp:Kp) (h:Heap) (tk:Nat) (Q:α→Shared→Prop),Ok d c kp σ h→(∀v h' tk',P v→Ok d c kp σ h'→Q v (c.at h' tk'))→wpAny (model PR c.w) (c.A d) x Q c.E (c.at h tk)
noncomputable abbrev tV (d:Df) (c:Cx) (e:Ex):Sem Value:=eval (ux d.names e).1 (c.env d)
noncomputable abbrev tT (d:Df) (c:Cx) (e:Ex):Sem Bool:=isTrue (ux d.names e).1 (c.env d) (tV d c e)
noncomputable abbrev tL (d:Df) (c:Cx) (pos:Pos) (e:Ex):Sem (List Value):=spliced (backTo pos (starEach (ux d.names e).2 (c.env d)))
noncomputable def SV (d:Df) (c:Cx) (σ:St) (e:Ex) (v:List Orc→Ro AV):Prop:=∀os x,v os=some x→All x.2.2→Gp d c σ (tV d c e) x.1.has
noncomputable def ST (d:Df) (c:Cx) (σ:St) (e:Ex) (t:List Orc→Ro Bool):Prop:=∀os x,t os=some x→All x.2.2→Gp d c σ (tT d c e) fun b=>x.1=b
noncomputable def SL (d:Df) (c:Cx) (σ:St) (e:Ex) (l:List Orc→Ro (List AV)):Prop:=∀os x,l os=some x→(All x.2.2→∀pos,Gp d c σ (tL d c pos e) (Hs x.1))∧∀pos,(backTo pos (starEach (ux d.names e).2 (c.env d))).any (·.1)=false
noncomputable def SB (d:Df) (c:Cx) (σ:St) (op:BoolOp) (e:Ex) (t:List Orc→Ro Bool):Prop:=∀os x,t os=some x→All x.2.2→∀pos whole,Gp d c σ (isTrue (.BoolOp op (ux d.names e).2 pos) (c.env d) whole) fun b=>x.1=b
structure Snd (d:Df) (c:Cx) (σ:St) (e:Ex) (r:Er):Prop where
 v:SV d c σ e r.v
 t:ST d c σ e r.t
 l:SL d c σ e r.l
 a:SB d c σ .And e r.a
 o:SB d c σ .Or e r.o
theorem nV {e:Ex}:SV d c σ e no:=fun _ _ h=>ns h
theorem nT {e:Ex}:ST d c σ e no:=fun _ _ h=>ns h
theorem nL {e:Ex}:SL d c σ e no:=fun _ _ h=>ns h
theorem nB {op:BoolOp} {e:Ex}:SB d c σ op e no:=fun _ _ h=>ns h
theorem snd_no {e:Ex}:Snd d c σ e ⟨no,no,no,no,no⟩:=⟨nV,nT,nL,nB,nB⟩
theorem snd_ofV {e:Ex} {v:List Orc→Ro AV} (hv:SV d c σ e v) (hp:∀whole,isTrue (ux d.names e).1 (c.env d) whole=(do let v ←whole;standAt (ux d.names e).1.pos;holding [v] (truthy v))):Snd d c σ e (ofV v):=
 ⟨hv,fun _ _ hx ho kp h tk Q K k=>one_some (x:=v) (f:=fun x=>bare (trA x)) hx ho fun a _ h1 h2 o1 _ e1=>isTrue_plain (hv _ a h1 o1 kp h tk _ K fun _ h' tk' hw K'=>tr_ok (bare_some h2) hw (k _ h' tk' e1 K')) (hp _),nL,nB,nB⟩
theorem snd_ofno {e:Ex}:Snd d c σ e (ofV no):=⟨nV,fun _ _ h=>ns h,nL,nB,nB⟩
theorem SL.cons {a as:Ex} {x:List Orc→Ro AV} {y:List Orc→Ro (List AV)} (ia:SV d c σ a x) (ib:SL d c σ as y):SL d c σ (.cons a as) (two x y fun x y os=>some (x::y,os,[])):=fun os r hr=>by
 refine ⟨fun ho pos kp h tk Q K k=>two_some hr ho fun p q z h1 h2 h3 o1 o2 _ e1=>args_cons (ia _ _ h1 o1 kp h tk _ K fun v h' tk' hv K'=>(ib _ _ h2).1 o2 pos kp h' tk' _ K' fun vs h2 tk2 hvs K2=>k _ h2 tk2 (e1▸(of1 h3).symm▸Hs.of hv hvs) K2) (star_any a _ _),fun pos=> ?_⟩
 obtain ⟨p,h1,hr⟩:=ob_some hr
 obtain ⟨q,h2,hr⟩:=ob_some hr
 show (backTo pos (starEach ((ux d.names a).1::(ux d.names as).2) (c.env d))).any (·.1)=false
 rw[star_any]
 exact (Bool.false_or _).trans ((ib _ _ h2).2 pos)
theorem SB.and {a as:Ex} {x y:List Orc→Ro Bool} (ia:ST d c σ a x) (ib:SB d c σ .And as y):SB d c σ .And (.cons a as) (bif as.isNil then x else andF x y):=by
 cases hn:as.isNil with
 |true=>
  cases isNil_eq hn
  refine fun os r hr ho pos wh kp h tk Q K k=>isTrue_and (ia _ _ hr ho kp h tk _ K fun b h' tk' e K'=> ?_)
  cases b with
  |true=>exact isTrue_and_nil (k _ h' tk' e K')
  |false=>exact k _ h' tk' e K'
 |false=>
  refine fun os r hr ho pos wh kp h tk Q K k=>andF_some hr ho fun p q h1 h2 o1 o2 e1=>isTrue_and (ia _ _ h1 o1 kp h tk _ K fun b h' tk' e K'=> ?_)
  cases b with
  |true=>exact ib _ _ h2 (o2 e) _ _ kp h' tk' _ K' fun b h2 tk2 e2 K2=>k _ h2 tk2 (by rw[e1,e,e2];rfl) K2
  |false=>exact k _ h' tk' (by rw[e1,e];rfl) K'
theorem SB.or {a as:Ex} {x y:List Orc→Ro Bool} (ia:ST d c σ a x) (ib:SB d c σ .Or as y):SB d c σ .Or (.cons a as) (bif as.isNil then x else orF x y):=by
 cases hn:as.isNil with
 |true=>
  cases isNil_eq hn
  refine fun os r hr ho pos wh kp h tk Q K k=>isTrue_or (ia _ _ hr ho kp h tk _ K fun b h' tk' e K'=> ?_)
  cases b with
  |true=>exact k _ h' tk' e K'
  |false=>exact isTrue_or_nil (k _ h' tk' e K')
 |false=>
  refine fun os r hr ho pos wh kp h tk Q K k=>orF_some hr ho fun p q h1 h2 o1 o2 e1=>isTrue_or (ia _ _ h1 o1 kp h tk _ K fun b h' tk' e K'=> ?_)
  cases b with
  |true=>exact k _ h' tk' (by rw[e1,e];rfl) K'
  |false=>exact ib _ _ h2 (o2 e) _ _ kp h' tk' _ K' fun b h2 tk2 e2 K2=>k _ h2 tk2 (by rw[e1,e,e2];rfl) K2
theorem SV.loc (X:Fx d c) {i:Nat} {p:Pos}:SV d c σ (.loc i p) (locA d σ.vs i):=fun os x hx _ kp h tk Q K k=>by
 obtain ⟨y,h2,hx⟩:=ob_some hx
 obtain ⟨o,h1,hx⟩:=ob_some hx
 obtain ⟨a,h0,hx⟩:=ob_some hx
 have e1:=of1 hx
 refine K.open fun m bs F V B N=> ?_
 obtain ⟨v,hv,hh⟩:=V i y a h2 (h0▸h1)
 have hm:=X.ok.loc y (nth_mem h2)
 show wpAny _ _ (eval (.Name (nm d.names i) p) _) _ _ _
 rw[nm_eq h2]
 exact nameX_L F hv (k v h tk (e1.symm▸hh) K) X.ok.kind hm.1 hm.2
theorem SV.gl (X:Fx d c) {x:Str} {p:Pos}:SV d c σ (.gl x p) fun os=>ob (d.gs.lookup x) fun n=>some (.i n,os,[]):=fun os r hx _ kp h tk Q K k=>by
 obtain ⟨n,h1,hx⟩:=ob_some hx
 have hm:∀{l:List (Str×Int)},l.lookup x=some n→(x,n)∈l:=by
  intro l
  induction l with
  |nil=>exact fun h=>ns h
  |cons q l ih=>
   intro h
   rw[List.lookup_cons] at h
   cases e:x==q.1 with
   |true=>rw[e] at h;rw[eq_of_beq e,←Option.some.inj h];exact .head _
   |false=>rw[e] at h;exact .tail _ (ih h)
 obtain ⟨g1,g2,g3⟩:=X.ok.gs _ (hm h1)
 obtain ⟨t,g3⟩:=g3 c.w.params
 exact K.open fun m bs F V B N=>nameX_K F X.inn (topRead_of X.top) g3 (k _ h tk (hasI (of1 hx)) K) X.ok.kind g1 g2
theorem SV.bin {a b:Ex} {op:Operator} {p:Pos} {x y:List Orc→Ro AV} (ia:SV d c σ a x) (ib:SV d c σ b y):SV d c σ (.bin a op b p) (two x y (binF op)):=fun os r hr ho kp h tk Q K k=>two_some hr ho fun ra rb z h1 h2 h3 o1 o2 o3 e1=>by
 obtain ⟨w,h4,h3⟩:=ob_some h3
 exact wpAny_BinOp (ia _ _ h1 o1 kp h tk _ K fun v h' tk' hv K'=>ib _ _ h2 o2 kp h' tk' _ K' fun u h2 tk2 hw K2=>bin_ok h4 (ofA (x:=(w.1,rb.2.1,w.2)) h3 o3) hv hw fun u t hu=>k _ h2 _ ((e1.trans (of1 (x:=(w.1,rb.2.1,w.2)) h3)).symm▸hu) K2)
theorem SV.cmp {a b:Ex} {op:CmpOp} {p:Pos} {x y:List Orc→Ro AV} (ia:SV d c σ a x) (ib:SV d c σ b y):SV d c σ (.cmp a op b p) (two x y (cmpF op)):=fun os r hr ho kp h tk Q K k=>two_some hr ho fun ra rb z h1 h2 h3 o1 o2 _ e1=>by
 obtain ⟨w,h4,h3⟩:=boolF_some h3
 exact wpAny_Compare1 (ia _ _ h1 o1 kp h tk _ K fun v h' tk' hv K'=>ib _ _ h2 o2 kp h' tk' _ K' fun u h2 tk2 hw K2=>cmp_ok h4 hv hw (k _ h2 tk2 (hasV (e1.trans h3)) K2)) (marks op b)
theorem ST.cmp {a b:Ex} {op:CmpOp} {p:Pos} {x y:List Orc→Ro AV} (ia:SV d c σ a x) (ib:SV d c σ b y):ST d c σ (.cmp a op b p) (two x y (cmpT op)):=fun os r hr ho kp h tk Q K k=>two_some hr ho fun ra rb z h1 h2 h3 o1 o2 _ e1=>
 wpAny_isTrue_Compare1 (ia _ _ h1 o1 kp h tk _ K fun v h' tk' hv K'=>ib _ _ h2 o2 kp h' tk' _ K' fun u h2 tk2 hw K2=>cmp_ok (bare_some h3) hv hw (wpAny_truthy_bool (k _ h2 tk2 e1 K2))) (marks op b)
theorem SV.neg {a:Ex} {p:Pos} {x:List Orc→Ro AV} (ia:SV d c σ a x):SV d c σ (.una .USub a p) (one x negF):=fun os r hr ho kp h tk Q K k=>one_some hr ho fun ra z h1 h2 o1 _ e1=>by
 obtain ⟨n,ha,hz⟩:=negA_inv (bare_some h2)
 refine UnaryOp_ (ia _ _ h1 o1 kp h tk _ K fun v h' tk' hv K'=> ?_)
 obtain ⟨t,hv⟩:=AV.has_i (ha▸hv)
 rw[hv]
 exact neg_int (k _ h' _ (hasI (e1.trans hz)) K')
theorem SV.not {a:Ex} {p:Pos} {x:List Orc→Ro AV} (ia:SV d c σ a x):SV d c σ (.una .Not a p) (one x notF):=fun os r hr ho kp h tk Q K k=>one_some hr ho fun ra z h1 h2 o1 _ e1=>by
 obtain ⟨b,h3,h2⟩:=boolF_some h2
 obtain ⟨b',h4,h3⟩:=ob_some h3
 exact UnaryOp_ (ia _ _ h1 o1 kp h tk _ K fun v h' tk' hv K'=>not_of (tr_ok h4 hv (k _ h' tk' (hasV (e1.trans (h2.trans (congrArg (fun b=>AV.v (.bool b)) (Option.some.inj h3).symm)))) K')))
theorem ST.not {a:Ex} {p:Pos} {x:List Orc→Ro Bool} (ia:ST d c σ a x):ST d c σ (.una .Not a p) (one x notT):=fun os r hr ho kp h tk Q K k=>one_some hr ho fun ra z h1 h2 o1 _ e1=>
 isTrue_not (ia _ _ h1 o1 kp h tk _ K fun b h' tk' e K'=>k _ h' tk' (e1.trans ((Option.some.inj (bare_some h2)).symm.trans (congrArg _ e))) K')
theorem SV.ite {t a b:Ex} {p:Pos} {x:List Orc→Ro Bool} {y z:List Orc→Ro AV} (it:ST d c σ t x) (ia:SV d c σ a y) (ib:SV d c σ b z):SV d c σ (.ite t a b p) (iteF x y z):=fun os r hr ho kp h tk Q K k=>iteF_some hr ho fun r u v h1 h2 h3 h4 o1 o2 o3=>by
 refine IfExp_ (it _ _ h1 o1 kp h tk _ K fun c h' tk' e K'=> ?_)
 cases c with
 |true=>exact ia _ _ h2 (o2 e) kp h' tk' _ K' fun v h2 tk2 hv K2=>k _ h2 tk2 ((iteA_inv h4).1 e hv) K2
 |false=>exact ib _ _ h3 (o3 e) kp h' tk' _ K' fun v h2 tk2 hv K2=>k _ h2 tk2 ((iteA_inv h4).2 e hv) K2
theorem SV.bn (X:Fx d c) {b:Bn} {q p:Pos} {as:Ex} {y:List Orc→Ro (List AV)} (ias:SL d c σ as y) (hy:∀os x,y os=some x→x.1≠[]→∃a r,as= .cons a r):SV d c σ (.bn b q as p) (bif d.bs.any b.is then one y (bnA (LI c σ) b) else no):=fun os r hr ho kp h tk Q K k=>by
 cases hb:d.bs.any b.is with
 |false=>rw[hb] at hr;exact ns hr
 |true=>
  rw[hb] at hr
  refine one_some hr ho fun ra z h1 h2 o1 o2 e1=> ?_
  obtain ⟨n1,n2,n3,n4⟩:=bn_name h2 (P:=c.w.params)
  obtain ⟨b',hm,hb⟩:=List.any_eq_true.mp hb
  have hbe:=Bn.is_eq hb
  subst hbe
  refine K.open fun m bs F V B N=>Call_ (nameX_B F X.inn (topRead_of X.top) n2 n1 n3 ?_ X.ok.kind (X.ok.bn _ hm) n4) rfl
  obtain ⟨a,rest,rfl⟩:=hy _ _ h1 (by
   intro e
   rw[e] at h2
   cases b<;>exact ns h2)
  have gp:=(ias _ _ h1).2 p
  have gp:(backTo p (starEach ((ux d.names a).1::(ux d.names rest).2) (c.env d))).any (·.1)=false:=gp
  rw[star_any] at gp
  exact PyProof.Rows.callWith_builtin1 (e:=(ux d.names a).1) (rest:=(ux d.names rest).2) ((ias _ _ h1).1 o1 p kp h tk (fun vs s=>wpAny (model PR c.w) (c.A d) (call (.builtin b.id) vs) Q c.E s) K fun vs h' tk' hvs K'=>bn_ok h2 o2 hvs K' fun v h2 tk2 hv K2=>k _ h2 tk2 (e1.symm▸hv) K2) (star_any a _ _) gp
theorem SV.sub {a i:Ex} {p:Pos} {x y:List Orc→Ro AV} (ia:SV d c σ a x) (ib:SV d c σ i y) (hs:∀os z,y os=some z→∀v i' t,subscripted (ux d.names i).1 false v (.int i' t)=operate [v,.int i' t] (getItem v (.int i' t))):SV d c σ (.sub a i p) (bif a.isLoc then two x y (itemA (LI c σ)) else no):=fun os r hr ho kp h tk Q K k=>by
 cases hb:a.isLoc with
 |false=>rw[hb] at hr;exact ns hr
 |true=>
  rw[hb] at hr
  refine two_some hr ho fun ra rb z h1 h2 h3 o1 o2 o3 e1=>Subscript_ (ia _ _ h1 o1 kp h tk _ K fun v h' tk' hv K'=>ib _ _ h2 o2 kp h' tk' _ K' fun w h2' tk2 hw K2=>item_ok h3 o3 hv hw K2 (fun u tk3 hu=>k _ h2' tk3 (e1.symm▸hu) K2) (hs _ _ h2) ?_)
  intro l r
  cases a with
  |loc=>rfl
  |_=>exact ff hb
theorem er_ne {LI:Addr→List Int→Prop} {as:Ex} {os:List Orc} {x:List AV×List Orc×List Prop} {vs:List (Option AV)} (h:(er LI d vs as).l os=some x) (hx:x.1≠[]):∃a r,as= .cons a r:=by
 cases as with
 |nil=>exact absurd (of1 h) hx
 |cons a r=>exact ⟨a,r,rfl⟩
 |una op=>cases op<;>exact ns h
 |_=>exact ns h
theorem er_sub {LI:Addr→List Int→Prop} {i:Ex} {os:List Orc} {x:AV×List Orc×List Prop} {vs:List (Option AV)} (h:(er LI d vs i).v os=some x) (l:Value) (i':Int) (t:Tok):subscripted (ux d.names i).1 false l (.int i' t)=operate [l,.int i' t] (getItem l (.int i' t)):=by
 cases i<;>first|rfl|exact ns h
theorem ev_ok (X:Fx d c) (e:Ex):Snd d c σ e (er (LI c σ) d σ.vs e):=by
 induction e with
 |nil=>exact ⟨nV,nT,fun os x hx=>⟨fun _ pos kp h tk Q K k=>args_nil (k _ h tk (of1 hx▸.nil) K),fun _=>rfl⟩,fun os x hx _ pos wh kp h tk Q K k=>isTrue_and_nil (k _ h tk (of1 hx) K),fun os x hx _ pos wh kp h tk Q K k=>isTrue_or_nil (k _ h tk (of1 hx) K)⟩
 |cons a as ia ias=>exact ⟨nV,nT,SL.cons ia.v ias.l,SB.and ia.t ias.a,SB.or ia.t ias.o⟩
 |loc i p=>exact snd_ofV (SV.loc X) fun _=>rfl
 |gl x p=>exact snd_ofV (SV.gl X) fun _=>rfl
 |num n p=>exact snd_ofV (fun os x hx _ kp h tk Q K k=>wpAny_Constant_int (k _ h _ (hasI (of1 hx)) K)) fun _=>rfl
 |txt n p=>exact snd_ofV (fun os x hx _ kp h tk Q K k=>Calls.Constant_str (k _ h _ (of1 hx▸⟨_,rfl⟩) K)) fun _=>rfl
 |non p=>exact snd_ofV (fun os x hx _ kp h tk Q K k=>wpAny_Constant_none (k _ h _ (hasV (of1 hx)) K)) fun _=>rfl
 |tru p=>exact snd_ofV (fun os x hx _ kp h tk Q K k=>Constant_bool (k _ h _ (hasV (of1 hx)) K)) fun _=>rfl
 |fls p=>exact snd_ofV (fun os x hx _ kp h tk Q K k=>Constant_bool (k _ h _ (hasV (of1 hx)) K)) fun _=>rfl
 |bin a op b p ia ib=>exact snd_ofV (SV.bin ia.v ib.v) fun _=>rfl
 |cmp a op b p ia ib=>exact ⟨SV.cmp ia.v ib.v,ST.cmp ia.v ib.v,nL,nB,nB⟩
 |una op a p ia=>
  cases op with
  |USub=>exact ⟨SV.neg ia.v,nT,nL,nB,nB⟩
  |Not=>exact ⟨SV.not ia.v,ST.not ia.t,nL,nB,nB⟩
  |_=>exact snd_no
 |bop op a p ia=>
  cases op with
  |And=>exact ⟨nV,fun os x hx ho=>ia.a os x hx ho _ _,nL,nB,nB⟩
  |Or=>exact ⟨nV,fun os x hx ho=>ia.o os x hx ho _ _,nL,nB,nB⟩
 |ite t a b p it ia ib=>exact ⟨SV.ite it.t ia.v ib.v,nT,nL,nB,nB⟩
 |bn b q as p ias=>exact snd_ofV (SV.bn X ias.l fun _ _=>er_ne) fun _=>rfl
 |sub a i p ia ii=>exact snd_ofV (SV.sub ia.v ii.v fun _ _=>er_sub) fun _=>rfl
 |slc=>exact snd_no
 |_=>exact snd_ofno
end
section
variable {d:Df} {c:Cx} {kp:Kp} {σ:St} {vs:List (Option AV)} {ab:ALed} {ex:Led}
noncomputable abbrev V (d:Df) (c:Cx) (σ:St) (e:Ex) (os:List Orc):Ro AV:=(er (LI c σ) d σ.vs e).v os
noncomputable abbrev T (d:Df) (c:Cx) (σ:St) (e:Ex) (os:List Orc):Ro Bool:=(er (LI c σ) d σ.vs e).t os
noncomputable abbrev Vl (d:Df) (c:Cx) (σ:St) (e:Ex) (os:List Orc):Ro (List AV):=(er (LI c σ) d σ.vs e).l os
theorem GA_p (X:Fx d c) {e:Ex} {os os':List Orc} {a:AV} {ob:List Prop} {Q:AV→St→Prop} (hv:V d c σ e os=some (a,os',ob)) (k:Q a σ) (ho:All ob:=by exact True.intro):GA d c e Q σ:=
 fun kp h tk K=>(ev_ok X e).v _ _ hv ho kp h tk _ K fun _ _ _ hv K'=>postA K' hv k
theorem GL_p (X:Fx d c) {e:Ex} {os os':List Orc} {a:List AV} {ob:List Prop} {Q:List AV→St→Prop} (hv:Vl d c σ e os=some (a,os',ob)) (k:Q a σ) (ho:All ob:=by exact True.intro):GL d c e Q σ:=
 fun pos kp h tk K=>((ev_ok X e).l _ _ hv).1 ho pos kp h tk _ K fun _ _ _ hv K'=>post K' ⟨a,hv,k⟩
theorem GL_nil {Q:List AV→St→Prop} (k:Q [] σ):GL d c .nil Q σ:=fun _ _ _ _ K=>args_nil (post K ⟨[],.nil,k⟩)
theorem GL_cons {a as:Ex} {Q:List AV→St→Prop} (h:GA d c a (fun x σ=>GL d c as (fun xs σ=>Q (x::xs) σ) σ) σ):GL d c (.cons a as) Q σ:=fun _ _ _ _ K=>
 args_cons (h.run K fun _ x _ _ _ hx K' q=>q.run K' fun _ xs _ _ _ hxs K2 q2=>post K2 ⟨x::xs,Hs.of hx hxs,q2⟩) (star_any a _ _)
noncomputable def tupP (as:List AV) (o:Obj):Prop:=∃vs,Hs as vs∧o=tupO vs
noncomputable def lstP (as:List AV) (o:Obj):Prop:=∃vs,Hs as vs∧o=listOf vs.toArray 0
section
variable {h h':Heap} {r:Addr} {o:Obj} {P:Obj→Prop} {m:Str→Option Value} {bs:Led}
theorem nd_cons {l:ALed} (h:(l.map (·.1)).Pairwise (·≠·)) (k:∀q∈l,q.1≠r):(((r,P)::l).map (·.1)).Pairwise (·≠·):=
 List.Pairwise.cons (fun _ ha=>Exists.elim (List.mem_map.mp ha) fun q h=>h.2▸(k q h.1).symm) h
theorem Ok.put (K:Ok d c kp σ h) (V:Vs d.names σ.vs m) (B:Bs σ.ab bs) (F:Fr c.g c.L h' m) (N:News c.g c.L h' ((r,o)::(bs++c.all kp σ))) (l:∀p∈bs++c.all kp σ,p.1<r) (hp:P o):Ok d c kp (σ.new r P) h':=by
 have lb:∀q∈σ.ab,q.1<r:=fun q hq=>Exists.elim (B.get q hq) fun o h=>l (q.1,o) (mL _ h.1)
 exact ⟨⟨m,(r,o)::bs,F,V,.cons hp B,N⟩,nd_cons K.nd fun q hq=>Nat.ne_of_lt (lb q hq),
  fC ⟨fun p hp=>Nat.ne_of_lt (l p (mR _ hp)),K.ap⟩,K.oe,K.ek,
  fC ⟨.inr fun q hq=>l q (mR _ (mR _ (mR _ hq))),K.oa⟩⟩
theorem Vs.set {ns:List Str} {l:List (Option AV)} {i:Nat} {x:Str} {a:AV} {v:Value} (hd:ns.Nodup) (V:Vs ns l m) (hi:nth ns i=some x) (ha:a.has v):Vs ns (setN l i a) (fun y=>if y=x then some v else m y):=by
 intro j y b hj hb
 rcases nth_set _ _ _ hb with ⟨h1,h2⟩|⟨hne,hb⟩
 ·have e:x=y:=Option.some.inj (hi.symm.trans (h1▸hj))
  exact ⟨v,if_pos e.symm,h2▸ha⟩
 ·obtain ⟨w,hw,hh⟩:=V j y b hj hb
  exact ⟨w,(if_neg fun e=>hne (nth_inj hd (e▸hi) hj)).trans hw,hh⟩
theorem Ok.store (K:Ok d c kp σ h) {m':Str→Option Value} {vs':List (Option AV)} (V:Vs d.names vs' m') (B:Bs σ.ab bs) (F:Fr c.g c.L h' m') (N:News c.g c.L h' (bs++c.all kp σ)):Ok d c kp ⟨vs',σ.ab,σ.ex⟩ h':=⟨⟨m',bs,F,V,B,N⟩,K.nd,K.ap,K.oe,K.ek,K.oa⟩
end
theorem store (X:Fx d c) {h:Heap} {tk:Nat} {i:Nat} {x:Str} {a:AV} {v:Value} {Q:Shared→Prop} (K:Ok d c kp σ h) (hi:nth d.names i=some x) (ha:a.has v) (k:∀h' tk',Ok d c kp (σ.put i a) h'→Q (c.at h' tk')):wpAny (model PR c.w) (c.A d) (storeName (c.env d) x v) (fun _=>Q) c.E (c.at h tk):=
 K.open fun _ _ F V B N=>storeX_L F N (fun h2 F2 N2=>k h2 _ (K.store (V.set X.ok.nd hi ha) B F2 N2)) X.ok.kind (X.ok.loc x (nth_mem hi)).1
theorem readL (X:Fx d c) {h:Heap} {tk:Nat} {i:Nat} {x:Str} {q:Pos} {a:AV} {E:Value→Shared→Prop} {Q:Value→Shared→Prop} (K:Ok d c kp σ h) (hi:nth d.names i=some x) (hl:nth σ.vs i=some (some a)) (k:∀v,a.has v→Q v (c.at h tk)):wpAny (model PR c.w) (c.A d) (eval (.Name (nm d.names i) q) (c.env d)) Q E (c.at h tk):=
 K.open fun _ _ F V _ _=>Exists.elim (V i x a hi hl) fun v hv=>(nm_eq hi).symm▸nameX_L F hv.1 (k v hv.2) X.ok.kind (X.ok.loc x (nth_mem hi)).1 (X.ok.loc x (nth_mem hi)).2
theorem GA_tup {as:Ex} {p:Pos} {Q:AV→St→Prop} (h:GL d c as (fun xs σ=>xs.length≤100∧∀r,Q (.v (.ref r)) (σ.new r (tupP xs))) σ):GA d c (.tup as p) Q σ:=fun kp hp tk K=>
 Tuple_ (h.run K fun v xs h' σ' tk' hxs K' q=>K'.open fun m bs F V B N=>kup_newTuple F N (fun r h2 F2 N2 l=>postR (K'.put V B F2 N2 l ⟨v,hxs,rfl⟩) (q.2 r)) (Nat.le_trans (hxs.length▸q.1) (show 100≤sizeLine by decide)))
theorem GA_lst {as:Ex} {p:Pos} {Q:AV→St→Prop} {P:List AV→Obj→Prop} (h:GL d c as (fun xs σ=>xs.length≤100∧(∀vs,Hs xs vs→P xs (listOf vs.toArray 0))∧∀r,Q (.v (.ref r)) (σ.new r (P xs))) σ):GA d c (.lst as p) Q σ:=fun kp hp tk K=>
 List_ (h.run K fun v xs h' σ' tk' hxs K' q=>K'.open fun m bs F V B N=>newList_K F N (fun r h2 F2 N2 l=>postR (K'.put V B F2 N2 l (q.2.1 v hxs)) (q.2.2 r)) (Nat.le_trans (hxs.length▸q.1) (show 100≤sizeLine by decide)))
noncomputable def intsOf (as:List AV):Option (List Int):= @List.rec AV (fun _=>Option (List Int)) (some []) (fun a _ r=>ob a.io fun n=>ob r fun m=>some (n::m)) as
theorem intsOf_ok {as:List AV}:∀{ns:List Int} {vs:List Value},intsOf as=some ns→Hs as vs→IntsAre vs ns∧ns.length=as.length:=by
 induction as with
 |nil=>exact fun e h=>by rw[h.none,←Option.some.inj e];exact ⟨.nil,rfl⟩
 |cons a as ih=>
  intro ns vs e h
  obtain ⟨n,h1,e⟩:=ob_some e
  obtain ⟨m,h2,e⟩:=ob_some e
  obtain ⟨v,r,hv,hw,hr⟩:=h.cons
  obtain ⟨t,hw⟩:=AV.io_has h1 hw
  have ih:=ih h2 hr
  rw[hv,hw,←Option.some.inj e]
  exact ⟨.cons _ _ ih.1,congrArg _ ih.2⟩
theorem GA_ints {as:Ex} {p:Pos} {Q:AV→St→Prop} (h:GL d c as (fun xs σ=>∃ns,intsOf xs=some ns∧xs.length≤100∧∀r,Q (.v (.ref r)) (σ.new r (intsP ns))) σ):GA d c (.lst as p) Q σ:=fun kp hp tk K=>
 List_ (h.run K fun v xs h' σ' tk' hxs K' q=>Exists.elim q fun ns q=>K'.open fun m bs F V B N=>newList_K F N (fun r h2 F2 N2 l=>postR (K'.put V B F2 N2 l ⟨v,0,rfl,(intsOf_ok q.1 hxs).1⟩) (q.2.2 r)) (Nat.le_trans (hxs.length▸q.2.1) (show 100≤sizeLine by decide)))
theorem H_nil {Q:Flow→St→Prop} (k:Q .next σ):H d c .nil Q σ:=fun _ _ _ K=>wpAny_execs_nil (post K k)
theorem H_st {st rest:Sx} {Q:Flow→St→Prop} (h:G d c (exec (su d.names st).1 (c.env d)) (sq d c rest Q) σ):H d c (.cons st rest) Q σ:=fun kp hp tk K=>
 wpAny_execs_cons (h.run K fun f h' σ' tk' K' q=>by
  cases f with
  |next=>exact q kp h' tk' K'
  |ret v=>exact post (v:=Flow.ret v) K' q
  |brk=>exact post (v:=Flow.brk) K' q
  |cont=>exact post (v:=Flow.cont) K' q)
noncomputable abbrev HS (d:Df) (c:Cx) (st:Sx) (Q:Flow→St→Prop) (σ:St):Prop:=G d c (exec (su d.names st).1 (c.env d)) Q σ
theorem HS_ifs (X:Fx d c) {t:Ex} {a b:Sx} {p:Pos} {os os':List Orc} {v:Bool} {ob:List Prop} {Q:Flow→St→Prop} (hv:T d c σ t os=some (v,os',ob)) (k1:v=true→H d c a Q σ) (k2:v=false→H d c b Q σ) (ho:All ob:=by exact True.intro):
  HS d c (.ifs t a b p) Q σ:=fun kp h tk K=>wpAny_If ((ev_ok X t).t _ _ hv ho kp h tk _ K fun b h' tk' e K'=>by
 cases b with
 |true=>exact k1 e kp h' tk' K'
 |false=>exact k2 e kp h' tk' K')
theorem H_ifs (X:Fx d c) {t:Ex} {a b rest:Sx} {p:Pos} {os os':List Orc} {v:Bool} {ob:List Prop} {Q:Flow→St→Prop} (hv:T d c σ t os=some (v,os',ob)) (k1:v=true→H d c a (sq d c rest Q) σ) (k2:v=false→H d c b (sq d c rest Q) σ) (ho:All ob:=by exact True.intro):
  H d c (.cons (.ifs t a b p) rest) Q σ:=H_st (HS_ifs X hv k1 k2 ho)
theorem H_set (X:Fx d c) {i:Nat} {q p:Pos} {e:Ex} {rest:Sx} {Q:Flow→St→Prop} (h:GA d c e (fun a σ=>H d c rest Q (σ.put i a)) σ) {x:Str} (hi:nth d.names i=some x:=by rfl) (hc:e.plain=true:=by rfl):H d c (.cons (.set i q e p) rest) Q σ:=H_st fun kp hp tk K=>by
 show wpAny _ _ (exec (.Assign [.Name (nm d.names i) q] (ux d.names e).1 p) _) _ _ _
 rw[nm_eq hi]
 exact wpAny_Assign_Name (h.run K fun v a h' σ' tk' ha K' g=>store X K' hi ha fun h2 tk2 K2=>post K2 g) (no_swap hc _ _ _)
theorem H_ret {e:Ex} {p:Pos} {rest:Sx} {Q:Flow→St→Prop} (h:GA d c e (fun a σ=>∀v,a.has v→Q (.ret v) σ) σ):H d c (.cons (.ret e p) rest) Q σ:=H_st fun kp hp tk K=>
 wpAny_Return_some (h.run K fun v a h' σ' tk' ha K' q=>post K' (q v ha))
structure Rm (c:Cx) (K:Nat):Prop where
 d:c.dp+K≤recursionLimit
 u:c.un+20*K+197<cLine
theorem Rm.call {k K:Nat} (rm:Rm c K) (hk:k<K):c.dp+k<recursionLimit∧c.un+20*k+200<cLine:=by
 obtain ⟨h1,h2⟩:=rm
 revert h1 h2
 generalize cLine=cl
 generalize recursionLimit=rl
 intro h1 h2
 exact ⟨lin (.h 1 (.t Y1 Y3) (.h 1 (.l (.a Y0 Y3) Y2) (.G 1 (.t (.a Y0 Y1) Y2)))) rfl [c.dp,k,rl,K] [] hk h1,lin (.h 20 (.t Y1 Y3) (.h 1 (.t (.a (.a Y0 (.r 20 Y3)) (.c 197)) Y2) (.G 1 (.t (.a (.a Y0 (.r 20 Y1)) (.c 200)) Y2)))) rfl [c.un,k,cl,K] [] hk h2⟩
noncomputable abbrev KA (w:World) (k:Nat) (f:Addr) (as:List AV) (need:Led→Prop) (res:Value→Led→Prop):Prop:=∀vs,Hs as vs→Kon w k f vs need res
structure Gv (d:Df) (x:Str) (f:Addr):Prop where
 l:d.sc.names.lookup x=some .globalImplicit
 n:∀P,nsIn (Mine.kf P) mainGlobals x=some (some (.ref f))
 k:∀P,keepIn (Mine.kf P) (.ref f)=true
 b:(x==("__debug__":Str))=false
theorem GA_call (X:Fx d c) {x:Str} {q p:Pos} {a as:Ex} {f:Addr} {Q:AV→St→Prop} (hg:Gv d x f) (h:GL d c (.cons a as) (fun xs σ=>∀vs,Hs xs vs→G d c (call (.ref f) vs) (AQ Q) σ) σ)
  (h2:∀p,(backTo p (starEach (ux d.names as).2 (c.env d))).any (·.1)=false:=by exact fun _=>rfl):GA d c (.call (.gl x q) (.cons a as) p) Q σ:=fun kp hp tk K=>
 K.open fun m bs F V B N=>Call_ (nameX_K F X.inn (topRead_of X.top) (hg.n _) (callWith_K (e:=(ux d.names a).1) (rest:=(ux d.names as).2) X.inn (hg.k _)
  (h.run K fun vs xs h' σ' tk' hxs K' q=>K'.open fun m bs F V B N=>⟨X.inn.keeps F.keep,q vs hxs kp h' tk' K'⟩) (star_any a _ _) (h2 _)) X.ok.kind hg.l hg.b) rfl
theorem mem_in {p:Addr×Obj} {a b e f:Led} (h:p∈b++((a++e)++f)):p∈a++(b++(e++f)):=by
 rcases List.mem_append.mp h with h|h
 ·exact mR _ (mL _ h)
 ·rcases List.mem_append.mp h with h|h
  ·exact (List.mem_append.mp h).elim (fun h=>mL _ h) fun h=>mR _ (mR _ (mL _ h))
  ·exact mR _ (mR _ (mR _ h))
theorem mem_app {P:Addr×Obj→Prop} {a b:Led} (h:∀p∈a,P p) (k:∀p∈b,P p):∀p∈a++b,P p:=fun p hp=>(List.mem_append.mp hp).elim (h p) (k p)
theorem Ok.add {h h':Heap} {m:Str→Option Value} {bs led:Led} (K:Ok d c kp σ h) (V:Vs d.names σ.vs m) (B:Bs σ.ab bs) (F:Fr c.g c.L h' m) (N:News c.g c.L h' (led++(bs++c.all kp σ))) (h1:∀q∈σ.ab,∀p∈led,p.1≠q.1) (ho:∀q∈c.all kp σ,∀p∈led,q.1<p.1):Ok d c kp (σ.add led) h':=by
 refine ⟨⟨m,bs,F,V,B,fun p hp=>N p (mem_in hp)⟩,K.nd,fun q hq p hp=> ?_,mem_app (fun p hp q hq=>ho q (mR _ (mR _ hq)) p hp) K.oe,
  mem_app (fun p hp q hq=>Nat.ne_of_gt (ho q (mR _ (mL _ (mL _ hq))) p hp)) K.ek,K.oa⟩
 rw[Cx.all,List.append_assoc] at hp
 exact mem_app (h1 q hq) (K.ap q hq) p hp
theorem G_kon (X:Fx d c) {k K:Nat} {f:Addr} {vals:List Value} {need:Led→Prop} {res:Value→Led→Prop} {Q:Value→St→Prop} (C:Kon c.w k f vals need res) (rm:Rm c K) (hk:k<K) (hn:∀bs (kp:Kp),Bs σ.ab bs→need (bs++c.all kp σ))
  (ret:∀v led,res v led→Q v (σ.add led)):G d c (call (.ref f) vals) Q σ:=fun kp hp tk K=>
 K.open fun m bs F V B N=>C X.below F X.inn N X.top X.ok.kind (rm.call hk).1 (rm.call hk).2 (hn bs kp B) fun v led h' tk' F' N' hr ho=>post (K.add V B F' N' (fun q hq p hp=>Exists.elim (B.get q hq) fun o h=>Nat.ne_of_gt (ho _ (mL _ h.1) p hp)) fun q hq=>ho q (mR _ hq)) (ret v led hr)
theorem GA_kon (X:Fx d c) {x:Str} {q p:Pos} {a as:Ex} {k K:Nat} {f:Addr} {xs:List AV} {os os':List Orc} {ob:List Prop} {need:Led→Prop} {res:Value→Led→Prop} {Q:AV→St→Prop} (hg:Gv d x f) (hv:Vl d c σ (.cons a as) os=some (xs,os',ob)) (C:KA c.w k f xs need res) (rm:Rm c K) (hk:k<K)
  (hn:∀bs (kp:Kp),Bs σ.ab bs→need (bs++c.all kp σ)) (ret:∀v led,res v led→AQ Q v (σ.add led)) (ho:All ob:=by exact True.intro)
  (h2:∀p,(backTo p (starEach (ux d.names as).2 (c.env d))).any (·.1)=false:=by exact fun _=>rfl):GA d c (.call (.gl x q) (.cons a as) p) Q σ:=
 GA_call X hg (GL_p X hv (fun vs hvs=>G_kon X (C vs hvs) rm hk hn ret) ho) h2
noncomputable def locOf (e:Ex):Option Nat:= @Ex.rec (fun _=>Option Nat) none (fun _ _ _ _=>none) (fun i _=>some i) (fun _ _=>none) (fun _ _=>none) (fun _ _=>none) (fun _=>none) (fun _=>none) (fun _=>none)
 (fun _ _ _ _ _ _=>none) (fun _ _ _ _ _ _=>none) (fun _ _ _ _=>none) (fun _ _ _ _=>none) (fun _ _ _ _ _ _ _=>none) (fun _ _ _ _ _=>none) (fun _ _ _ _ _=>none) (fun _ _ _ _ _ _ _=>none) (fun _ _ _ _=>none)
 (fun _ _ _ _ _=>none) (fun _ _ _ _ _=>none) (fun _ _ _=>none) (fun _ _ _=>none) (fun _ _ _ _=>none) (fun _ _ _ _=>none) e
noncomputable def tsOf (ns:List Str) (e:Ex):Option (List Nat):=
 @Ex.rec (fun _=>Option (List Nat)) (some []) (fun a _ _ r=>ob (locOf a) fun i=>ob (nth ns i) fun _=>ob r fun l=>some (i::l))
  (fun _ _=>none) (fun _ _=>none) (fun _ _=>none) (fun _ _=>none) (fun _=>none) (fun _=>none) (fun _=>none)
  (fun _ _ _ _ _ _=>none) (fun _ _ _ _ _ _=>none) (fun _ _ _ _=>none) (fun _ _ _ _=>none) (fun _ _ _ _ _ _ _=>none)
  (fun _ _ _ _ _=>none) (fun _ _ _ _ _=>none) (fun _ _ _ _ _ _ _=>none) (fun _ _ _ _=>none)
  (fun _ _ _ _ _=>none) (fun _ _ _ _ _=>none) (fun _ _ _=>none) (fun _ _ _=>none) (fun _ _ _ _=>none) (fun _ _ _ _=>none) e
theorem locOf_eq {e : Ex} {i : Nat} (h : locOf e = some i) : ∃ p, e = .loc i p := by
  cases e <;> first | exact ns h | exact ⟨_, congrArg (Ex.loc · _) (Option.some.inj h)⟩
theorem ts_rec {nms:List Str} {P:Ex→List Nat→Prop} (h0:P .nil []) (h1:∀i p x as is,nth nms i=some x→tsOf nms as=some is→P as is→P (.cons (.loc i p) as) (i::is)) (ts:Ex):∀is,tsOf nms ts=some is→P ts is:=by
 induction ts with
 |nil=>exact fun is e=>Option.some.inj e▸h0
 |cons a as _ ih=>
  intro is e
  obtain ⟨i,e1,e⟩:=ob_some e
  obtain ⟨x,e2,e⟩:=ob_some e
  obtain ⟨l,e3,e⟩:=ob_some e
  obtain ⟨p,e1⟩:=locOf_eq e1
  exact e1.symm▸Option.some.inj e▸h1 i p x as l e2 e3 (ih l e3)
 |_=>exact fun is e=>ns e
theorem ts_each {nms:List Str} {env:Env} {is:List Nat} {ts:Ex} (h:tsOf nms ts=some is):(assignEach (ux nms ts).2 env).length=is.length∧(assignEach (ux nms ts).2 env).findIdx? (·.1)=none:=by
 refine ts_rec (P:=fun ts is=>(assignEach (ux nms ts).2 env).length=is.length∧(assignEach (ux nms ts).2 env).findIdx? (·.1)=none) ⟨rfl,rfl⟩ (fun i p x as is e1 e2 ih=>⟨congrArg (·+1) ih.1,?_⟩) ts is h
 show List.findIdx? (·.1) ((false,assign (.Name (nm nms i) p) env)::assignEach (ux nms as).2 env)=none
 rw[List.findIdx?_cons,ih.2];rfl
theorem assigns (X:Fx d c) {is:List Nat} {ts:Ex} (h:tsOf d.names ts=some is):∀{items:List Value} {avs:List AV} {vs:List (Option AV)},Hs avs items→is.length=avs.length→
  G d c (assignInOrder ((assignEach (ux d.names ts).2 (c.env d)).map (·.2)) items) (fun _ σ'=>σ'=⟨setAll vs is avs,ab,ex⟩) ⟨vs,ab,ex⟩:=by
 refine ts_rec (P:=fun ts is=>∀{items:List Value} {avs:List AV} {vs:List (Option AV)},Hs avs items→is.length=avs.length→G d c (assignInOrder ((assignEach (ux d.names ts).2 (c.env d)).map (·.2)) items) (fun _ σ'=>σ'=⟨setAll vs is avs,ab,ex⟩) ⟨vs,ab,ex⟩) ?_ ?_ ts is h
 ·exact fun _ _ kp hp tk K=>assignInOrder_nil (post K rfl)
 ·intro i p x as js hx hj ih items avs vs hi hl kp hp tk K
  cases avs with
  |nil=>exact Nat.noConfusion hl
  |cons a avs=>
   obtain ⟨v,r,rfl,ha,hr⟩:=hi.cons
   show wpAny _ _ (assignInOrder (assign (.Name (nm d.names i) p) (c.env d)::_) _) _ _ _
   rw[nm_eq hx]
   exact assignInOrder_cons (PyProof.Rows.assign_Name (store X K hx ha fun h2 tk2 K2=>ih hr (Nat.succ.inj hl) kp h2 tk2 K2))
noncomputable def Tp (c:Cx) (σ:St) (r:Addr) (avs:List AV):Prop:=(∃items,(r,tupO items)∈σ.ex++c.news∧Hs avs items)∨(r,tupP avs)∈σ.ab
theorem tp_at {h:Heap} {r:Addr} {avs:List AV} (K:Ok d c kp σ h) (ht:Tp c σ r avs):∃items,IsTup h r items.toArray∧Hs avs items:=by
 refine K.open fun m bs F V B N=> ?_
 rcases ht with ⟨items,hm,hi⟩|hm
 ·exact ⟨items,⟨_,(N _ (mR _ (mem3 hm))).1,rfl,_,rfl⟩,hi⟩
 ·obtain ⟨o,h1,items,hi,rfl⟩:=B.get _ hm
  exact ⟨items,⟨_,(N _ (mL _ h1)).1,rfl,_,rfl⟩,hi⟩
theorem unpackT (X:Fx d c) {q:Pos} {ts:Ex} {is:List Nat} {r:Addr} {avs:List AV} (ht:tsOf d.names ts=some is) (hT:Tp c σ r avs) (hl:is.length=avs.length) {h:Heap} {tk:Nat} (K:Ok d c kp σ h) {Q:Unit→Shared→Prop} (k:∀h' tk',Ok d c kp (σ.all is avs) h'→Q () (c.at h' tk')):
  wpAny (model PR c.w) (c.A d) (assign (.Tuple (ux d.names ts).2 0 q) (c.env d) (.ref r)) Q c.E (c.at h tk):=by
 obtain ⟨items,hT,hi⟩:=tp_at K hT
 obtain ⟨l1,l2⟩:=ts_each (env:=c.env d) ht
 refine K.open fun m bs F V B N=>unpackN_ F N hT rfl (by rw[l1,hl,hi.length,List.size_toArray]) l2 fun h2 F2 N2=> ?_
 exact G.run (assigns (vs:=σ.vs) (ab:=σ.ab) (ex:=σ.ex) X ht hi hl) (K.same V B F2 N2) fun _ h3 σ3 tk3 K3 e=>k h3 tk3 (by rw[e] at K3;exact K3)
end
section
variable {d:Df} {c:Cx} {kp:Kp} {σ σ':St} {vs:List (Option AV)} {ab:ALed} {ex:Led}
noncomputable def GT (d:Df) (c:Cx) (e:Ex) (Q:Bool→St→Prop) (σ:St):Prop:=G d c (tT d c e) Q σ
theorem H_ifG {t:Ex} {a b rest:Sx} {p:Pos} {Q:Flow→St→Prop} (h:GT d c t (fun v σ=>(v=true→H d c a (sq d c rest Q) σ)∧(v=false→H d c b (sq d c rest Q) σ)) σ):H d c (.cons (.ifs t a b p) rest) Q σ:=H_st fun kp hp tk K=>
 wpAny_If (G.run h K fun v h' σ' tk' K' q=>by
  cases v with
  |true=>exact q.1 rfl kp h' tk' K'
  |false=>exact q.2 rfl kp h' tk' K')
theorem GT_p (X:Fx d c) {t:Ex} {os os':List Orc} {v:Bool} {ob:List Prop} {Q:Bool→St→Prop} (hv:T d c σ t os=some (v,os',ob)) (k:Q v σ) (ho:All ob:=by exact True.intro):GT d c t Q σ:=
 fun kp h tk K=>(ev_ok X t).t _ _ hv ho kp h tk _ K fun _ _ _ e K'=>post K' (e▸k)
inductive NeQ (c:Cx) (Q:Bool→St→Prop):AV→AV→St→Prop
 |mk {l r ns ms σ}:LI c σ l ns→LI c σ r ms→c.un+64<cLine→Q (!decide (ns=ms)) σ→NeQ c Q (.v (.ref l)) (.v (.ref r)) σ
theorem GT_ne {a b:Ex} {p:Pos} {Q:Bool→St→Prop} (h:GA d c a (fun x σ=>GA d c b (NeQ c Q x) σ) σ):GT d c (.cmp a .NotEq b p) Q σ:=fun kp hp tk K=>
 wpAny_isTrue_Compare1 (h.run K fun v x h' σ' tk' hx K' q=>q.run K' fun w y h2 σ2 tk2 hy K2 q2=>by
  cases q2 with
  |mk L1 L2 hu q2=>
   rw[AV.has_v hx,AV.has_v hy]
   obtain ⟨vs,i1,i2⟩:=ok_li K2 L1
   obtain ⟨ws,j1,j2⟩:=ok_li K2 L2
   exact ke_ne_ints i1 j1 i2 j2 hu (wpAny_truthy_bool (post K2 q2))) (marks _ b)
noncomputable def Vp (d:Df) (c:Cx) (σ:St) (e:Ex) (os:List Orc):Ro (Option Int):=bif e.isNil then some (none,os,[]) else one (V d c σ e) (fun a=>bare (ob a.io fun n=>some (some n))) os
noncomputable def sl (ns:List Int) (x y:Option Int):List Int:= @Option.rec Int (fun _=>List Int) (@Option.rec Int (fun _=>List Int) ns (fun y=>ns.take y.toNat) y)
 (fun x=> @Option.rec Int (fun _=>List Int) (ns.drop x.toNat) (fun y=>(ns.drop x.toNat).take (min y.toNat ns.length - x.toNat)) y) x
noncomputable def npart (x y:Option Int):Prop:=(x≠none∨y≠none)∧(∀n,x=some n→0≤n)∧∀n,y=some n→0≤n
theorem np_ne {n:Int} {P:Prop} (h:some n=none):P:=Option.noConfusion rfl (heq_of_eq h)
theorem np2 {x y:Int} (hx:0≤x) (hy:0≤y):npart (some x) (some y):=⟨.inl fun h=>np_ne h,fun _ e=>Option.some.inj e▸hx,fun _ e=>Option.some.inj e▸hy⟩
theorem npr {y:Int} (hy:0≤y):npart none (some y):=⟨.inr fun h=>np_ne h,fun _ e=>ns e,fun _ e=>Option.some.inj e▸hy⟩
theorem sl_bound {ns:List Int} {x y:Option Int} {P:Int→Prop} (h:∀b∈ns,P b):∀b∈sl ns x y,P b:=by
 cases x with
 |none=>
  cases y with
  |none=>exact h
  |some=>exact fun b hb=>h b (List.mem_of_mem_take hb)
 |some=>
  cases y with
  |none=>exact fun b hb=>h b (List.mem_of_mem_drop hb)
  |some=>exact fun b hb=>h b (List.mem_of_mem_drop (List.mem_of_mem_take hb))
theorem sl_len {ns:List Int} {a k:Nat}:(sl ns (some (a:Int)) (some ((a:Int)+(k:Int)))).length≤k:=by
 show (List.take (min ((a:Int)+(k:Int)).toNat ns.length - (a:Int).toNat) _).length≤k
 rw[List.length_take]
 rw[show ((a:Int)+(k:Int)).toNat=a+k from rfl,show ((a:Int)).toNat=a from rfl]
 exact Nat.le_trans (Nat.min_le_left _ _) (Nat.sub_le_of_le_add (Nat.le_trans (Nat.min_le_left _ _) (Nat.le_of_eq (Nat.add_comm a k))))
theorem part_ok (X:Fx d c) {e:Ex} {os:List Orc} {x:Option Int×List Orc×List Prop} (hv:Vp d c σ e os=some x) (ho:All x.2.2) {Q:Value→Shared→Prop} {h:Heap} {tk:Nat} (K:Ok d c kp σ h)
  (k:∀v h' tk',IsPart v x.1→Ok d c kp σ h'→Q v (c.at h' tk')):wpAny (model PR c.w) (c.A d) (evalPart (optE e (ux d.names e).1) (c.env d)) Q c.E (c.at h tk):=by
 unfold Vp at hv
 unfold optE
 cases hn:e.isNil with
 |true=>
  rw[hn] at hv
  exact evalPart_none_step (k _ _ _ (of1 hv▸.none) K)
 |false=>
  rw[hn] at hv
  refine one_some (x:=V d c σ e) (f:=fun a=>bare (ob a.io fun n=>some (some n))) hv ho fun r z h1 h2 o1 o2 e1=>evalPart_some_step ((ev_ok X e).v _ _ h1 o1 kp h tk _ K fun v h' tk' hv K'=>k v h' tk' ?_ K')
  obtain ⟨n,h3,h4⟩:=ob_some (bare_some h2)
  obtain ⟨t,hv⟩:=AV.io_has h3 hv
  rw[e1,hv,←Option.some.inj h4]
  exact .int _ _
theorem pick_ok {vs:List Value} {ns:List Int} {x y:Option Int} (i2:IntsAre vs ns) (h0:npart x y):IntsAre (slicePick vs.toArray x y none).toList (sl ns x y):=by
 cases x with
 |none=>
  cases y with
  |none=>exact h0.1.elim (fun h=>absurd rfl h) fun h=>absurd rfl h
  |some y=>exact kmk_upto i2 (h0.2.2 y rfl)
 |some x=>
  cases y with
  |none=>exact kmk_from i2 (h0.2.1 x rfl)
  |some y=>exact kmk_run i2 (h0.2.1 x rfl) (h0.2.2 y rfl)
theorem GA_slc0 (X:Fx d c) {j:Nat} {lo hi:Ex} {p q r:Pos} {l:Addr} {ns ms:List Int} {x y:Option Int} {os os1 os2:List Orc} {o1 o2:List Prop} {Q:AV→St→Prop} {n:Str} (hj:nth d.names j=some n) (hl:nth σ.vs j=some (some (.v (.ref l)))) (hx:Vp d c σ lo os=some (x,os1,o1)) (hy:Vp d c σ hi os1=some (y,os2,o2))
  (L:LI c σ l ns) (hn:ns.length<2 ^ 20) (hp:∀vs:List Value,IntsAre vs ns→IntsAre (slicePick vs.toArray x y none).toList ms) (k:∀D,Q (.v (.ref D)) (σ.new D (intsP ms))) (ho1:All o1) (ho2:All o2):GA d c (.sub (.loc j p) (.slc lo hi q) r) Q σ:=fun kp h0 tk K=>
 Subscript_ (readL X K hj hl fun v hv=>wpAny_Slice (part_ok X hx ho1 K fun vl h' tk' hvl K'=>part_ok X hy ho2 K' fun vu h2 tk2 hvu K2=>evalPart_none_step (by
  rw[AV.has_v hv]
  obtain ⟨vs,i1,i2⟩:=ok_li K2 L
  exact K2.open fun m bs F V B N=>kmk_slice_ints (s:=c.at h2 tk2) F N i1 hvl hvu i2 (hp vs i2) rfl (fun D ws h3 F3 N3 l hw _ _=>postR (K2.put V B F3 N3 l ⟨ws,0,rfl,hw⟩) (k D)) rfl (fun _=>rfl) (by rw[kmk_size_eq i2];exact Nat.le_trans (Nat.le_of_lt hn) (show 2 ^ 20≤sizeLine by decide)))))
theorem GA_slc (X:Fx d c) {j:Nat} {lo hi:Ex} {p q r:Pos} {l:Addr} {ns:List Int} {x y:Option Int} {os os1 os2:List Orc} {o1 o2:List Prop} {Q:AV→St→Prop} {n:Str} (hj:nth d.names j=some n) (hl:nth σ.vs j=some (some (.v (.ref l)))) (hx:Vp d c σ lo os=some (x,os1,o1)) (hy:Vp d c σ hi os1=some (y,os2,o2))
  (L:LI c σ l ns) (hn:ns.length<2 ^ 20) (h0:npart x y) (k:∀D,Q (.v (.ref D)) (σ.new D (intsP (sl ns x y)))) (ho:All (o1++o2):=by exact True.intro):GA d c (.sub (.loc j p) (.slc lo hi q) r) Q σ:=
 GA_slc0 X hj hl hx hy L hn (fun _ i=>pick_ok i h0) k (All.app ho).1 (All.app ho).2
theorem no_mem {P:Addr×Obj→Prop}:∀p∈([]:Led),P p:=fun _ h=>absurd h List.not_mem_nil
theorem bs_cons {r:Addr} {P:Obj→Prop} {bs:Led} (h:Bs ((r,P)::ab) bs):∃o k,bs=(r,o)::k∧P o∧Bs ab k:=by
 cases h with|cons h k=>exact ⟨_,_,rfl,h,k⟩
noncomputable def flv:Flow→Value
 | .ret v=>v
 |_=> .none
noncomputable def Fin (res:Value→Led→Prop) (f:Flow) (σ:St):Prop:=∀bs,Bs σ.ab bs→∃led,res (flv f) led∧∀p∈led,p∈bs++σ.ex
inductive TupR (as:Led→List AV→Prop):Value→Led→Prop
 |mk {r vs tl avs}:Hs avs vs→as tl avs→TupR as (.ref r) ((r,tupO vs)::tl)
inductive ListR (ns:List Int):Value→Led→Prop
 |mk {l vs k}:IntsAre vs ns→ListR ns (.ref l) [(l,listOf vs.toArray k)]
theorem fin_tup {as:Led→List AV→Prop} {r:Addr} {avs:List AV} {tl:Led} (k:as tl avs) (h:∀p∈tl,p∈σ.ex):Fin (TupR as) (.ret (.ref r)) (σ.new r (tupP avs)):=fun bs B=>by
 obtain ⟨o,k',e,⟨vs,hvs,ho⟩,B⟩:=bs_cons B
 exact ⟨_,.mk hvs k,fC ⟨by rw[e,ho];exact .head _,fun p hp=>mR _ (h p hp)⟩⟩
theorem fin_list {l:Addr} {ns:List Int} (h:(l,intsP ns)∈σ.ab):Fin (ListR ns) (.ret (.ref l)) σ:=fun bs B=>by
 obtain ⟨o,hm,vs,k,e,hi⟩:=B.get _ h
 exact ⟨_,.mk hi,fun p hp=>List.mem_singleton.mp hp▸mL _ (e▸hm)⟩
theorem Ok.sub {led:Led} {h:Heap} (K:Ok d c kp ⟨vs,ab,ex⟩ h) (hs:∀p∈led,p∈ex):Ok d c kp ⟨vs,ab,led⟩ h:=
 have sub:∀p∈led++(kp.l++c.news),p∈ex++(kp.l++c.news):=mem_app (fun p h=>mL _ (hs p h)) fun p h=>mR _ h
 K.open fun m bs F V B N=>⟨⟨m,bs,F,V,B,mem_app (fun p h=>N p (mL _ h)) fun p h=>N p (mR _ (sub p h))⟩,K.nd,fun q hq p hp=>K.ap q hq p (sub p hp),fun p hp=>K.oe p (hs p hp),fun p hp=>K.ek p (hs p hp),K.oa⟩
theorem H_sub {s:Sx} {led:Led} {Q:Flow→St→Prop} (h:H d c s Q ⟨vs,ab,led⟩) (hs:∀p∈led,p∈ex):H d c s Q ⟨vs,ab,ex⟩:=fun kp hp tk K=>h kp hp tk (K.sub hs)
theorem GA_nil {p:Pos} {Q:AV→St→Prop} (k:∀r,Q (.v (.ref r)) (σ.new r (intsP []))):GA d c (.lst .nil p) Q σ:=GA_ints (GL_nil ⟨[],rfl,by decide,k⟩)
theorem H_retN (X:Fx d c) {a as:Ex} {os os1 os2:List Orc} {x:AV} {xs:List AV} {o1 o2:List Prop} {rest:Sx} {p q r:Pos} {Q:Flow→St→Prop} (hx:V d c σ a os=some (x,os1,o1)) (hy:∀l,Vl d c (σ.new l (intsP [])) as os1=some (xs,os2,o2))
  (k:∀l r,Q (.ret (.ref r)) ((σ.new l (intsP [])).new r (tupP (x:: .v (.ref l)::xs)))) (hl:xs.length≤98:=by exact Nat.le_of_ble_eq_true rfl) (ho1:All o1:=by exact True.intro) (ho2:All o2:=by exact True.intro):
  H d c (.cons (.ret (.tup (.cons a (.cons (.lst .nil q) as)) p) r) rest) Q σ:=
 H_ret (GA_tup (GL_cons (GA_p X hx (GL_cons (GA_nil fun l=>GL_p X (hy l) ⟨Nat.add_le_add_right hl 2,fun r v hv=>AV.has_v hv▸k l r⟩ ho2)) ho1)))
theorem H_retT (X:Fx d c) {as:Ex} {os os1:List Orc} {xs:List AV} {o1:List Prop} {rest:Sx} {p r:Pos} {Q:Flow→St→Prop} (hx:Vl d c σ as os=some (xs,os1,o1))
  (k:∀r,Q (.ret (.ref r)) (σ.new r (tupP xs))) (hl:xs.length≤100:=by exact Nat.le_of_ble_eq_true rfl) (ho1:All o1:=by exact True.intro):H d c (.cons (.ret (.tup as p) r) rest) Q σ:=
 H_ret (GA_tup (GL_p X hx ⟨hl,fun r v hv=>AV.has_v hv▸k r⟩ ho1))
theorem H_setT (X:Fx d c) {ts e:Ex} {is:List Nat} {q p:Pos} {rest:Sx} {Q:Flow→St→Prop} (ht:tsOf d.names ts=some is) (h:GA d c e (fun a σ'=>∃r avs,a= .v (.ref r)∧Tp c σ' r avs∧is.length=avs.length∧H d c rest Q (σ'.all is avs)) σ)
  (h1:swapsWithSole [.Tuple (ux d.names ts).2 0 q] (ux d.names e).1 p.line (c.env d)=pure false:=by rfl) (h2:swappedStores [.Tuple (ux d.names ts).2 0 q] (ux d.names e).1 (c.env d)=pure none:=by rfl):H d c (.cons (.setT ts q e p) rest) Q σ:=H_st fun kp hp tk K=>
 Assign_Tuple (h.run K fun v a h' σ' tk' ha K' g=>by
  obtain ⟨r,avs,ea,hT,hl,g⟩:=g
  rw[ea] at ha
  rw[AV.has_v ha]
  exact unpackT X ht hT hl K' fun h2 tk2 K2=>post K2 g) h1 h2
theorem H_setK (X:Fx d c) {ts:Ex} {is:List Nat} {x:Str} {q q2 p p2:Pos} {a as:Ex} {k K:Nat} {f:Addr} {xs:List AV} {os os':List Orc} {ob:List Prop} {need:Led→Prop} {res:Led→List AV→Prop} {rest:Sx} {Q:Flow→St→Prop} (ht:tsOf d.names ts=some is)
  (hg:Gv d x f) (hv:Vl d c σ (.cons a as) os=some (xs,os',ob)) (C:KA c.w k f xs need (TupR res)) (rm:Rm c K) (hk:k<K) (hn:∀bs (kp:Kp),Bs σ.ab bs→need (bs++c.all kp σ))
  (ret:∀tl avs,res tl avs→is.length=avs.length∧H d c rest Q ((σ.add tl).all is avs)) (ho:All ob:=by exact True.intro)
  (h2:∀p,(backTo p (starEach (ux d.names as).2 (c.env d))).any (·.1)=false:=by exact fun _=>rfl):H d c (.cons (.setT ts q2 (.call (.gl x q) (.cons a as) p) p2) rest) Q σ:=
 H_setT X ht (GA_kon X hg hv C rm hk hn (fun v led hr=>by
  cases hr with
  |mk hs hr=>exact ⟨.v (.ref _),rfl,_,_,rfl,.inl ⟨_,.head _,hs⟩,(ret _ _ hr).1,H_sub (ret _ _ hr).2 (mem_app (fun p h=>mL _ (.tail _ h)) fun p h=>mR _ h)⟩) ho h2)
inductive LQ (c:Cx) (k:Nat) (f:Addr) (Q:AV→St→Prop):List AV→St→Prop
 |mk {xs σ} {need:Led→Prop} {ns:List Int}:KA c.w k f xs need (ListR ns)→(∀bs (kp:Kp),Bs σ.ab bs→need (bs++c.all kp σ))→(∀l,Q (.v (.ref l)) (σ.new l (intsP ns)))→LQ c k f Q xs σ
theorem GA_callL (X:Fx d c) {x:Str} {q p:Pos} {a as:Ex} {k K:Nat} {f:Addr} {Q:AV→St→Prop} (hg:Gv d x f) (rm:Rm c K) (hk:k<K) (h:GL d c (.cons a as) (LQ c k f Q) σ)
  (h2:∀p,(backTo p (starEach (ux d.names as).2 (c.env d))).any (·.1)=false:=by exact fun _=>rfl):GA d c (.call (.gl x q) (.cons a as) p) Q σ:=
 GA_call X hg (fun pos=>G_mono (h pos) fun _ σ q=>q.imp fun xs q=>⟨q.1,fun vs hvs kp hp tk K=>by
  cases q.2 with
  |mk C hn ret=>
   refine K.open fun m bs F V B N=>C vs hvs X.below F X.inn N X.top X.ok.kind (rm.call hk).1 (rm.call hk).2 (hn bs kp B) fun v led h' tk' F' N' hr ho=> ?_
   cases hr with
   |mk hi=>exact postR (K.put V B F' N' (fun p hp=>ho p hp _ (.head _)) ⟨_,_,rfl,hi⟩) (ret _)⟩) h2
theorem GA_konL (X:Fx d c) {x:Str} {q p:Pos} {a as:Ex} {k K:Nat} {f:Addr} {xs:List AV} {os os':List Orc} {ob:List Prop} {need:Led→Prop} {ns:List Int} {Q:AV→St→Prop} (hg:Gv d x f) (hv:Vl d c σ (.cons a as) os=some (xs,os',ob)) (C:KA c.w k f xs need (ListR ns)) (rm:Rm c K) (hk:k<K)
  (hn:∀bs (kp:Kp),Bs σ.ab bs→need (bs++c.all kp σ)) (ret:∀l,Q (.v (.ref l)) (σ.new l (intsP ns))) (ho:All ob:=by exact True.intro)
  (h2:∀p,(backTo p (starEach (ux d.names as).2 (c.env d))).any (·.1)=false:=by exact fun _=>rfl):GA d c (.call (.gl x q) (.cons a as) p) Q σ:=
 GA_callL X hg rm hk (GL_p X hv (.mk C hn ret) ho) h2
inductive LeV:List (Option AV)→List (Option AV)→Prop
 |nil {v}:LeV v []
 |keep {a v w}:LeV v w→LeV (some a::v) (some a::w)
 |skip {x v w}:LeV v w→LeV (x::v) (none::w)
 |pad {w}:LeV [] w→LeV [] (none::w)
theorem LeV.get {v w:List (Option AV)} (h:LeV v w):∀{i:Nat} {a:AV},nth w i=some (some a)→nth v i=some (some a):=by
 have nn:∀{P:Prop} {a:AV},some none=some (some a)→P:=fun h=>ns (Option.some.inj h)
 induction h with
 |nil=>exact fun h=>nth_nil h
 |keep _ ih=>
  intro i a h
  cases i with
  |zero=>exact h
  |succ i=>exact ih (i:=i) h
 |skip _ ih=>
  intro i a h
  cases i with
  |zero=>exact nn h
  |succ i=>exact ih (i:=i) h
 |pad _ ih=>
  intro i a h
  cases i with
  |zero=>exact nn h
  |succ i=>exact nth_nil (ih (i:=i) h)
structure Le (c:Cx) (σ σ':St):Prop where
 v:LeV σ.vs σ'.vs
 a:σ'.ab.Sublist σ.ab
 e:∀p∈σ'.ex,p∈σ.ex
theorem Bs.sub {l' l:ALed} (h:l'.Sublist l):∀{k:Led},Bs l k→∃k',Bs l' k'∧∀p∈k',p∈k:=by
 induction h with
 |slnil=>exact fun b=>⟨_,b,fun _ h=>h⟩
 |cons _ _ ih=>
  intro k b
  obtain ⟨o,k',e,_,b⟩:=bs_cons b
  obtain ⟨k2,h1,h2⟩:=ih b
  exact ⟨k2,h1,fun p hp=>e▸.tail _ (h2 p hp)⟩
 |cons_cons _ _ ih=>
  intro k b
  obtain ⟨o,k',e,h,b⟩:=bs_cons b
  obtain ⟨k2,h1,h2⟩:=ih b
  exact ⟨_,.cons h h1,fC ⟨e▸.head _,fun p hp=>e▸.tail _ (h2 p hp)⟩⟩
theorem Ok.le {h:Heap} (K:Ok d c kp σ h) (l:Le c σ σ'):Ok d c kp σ' h:=
 have sub:∀p∈c.all kp σ',p∈c.all kp σ:=mem_app (fun p h=>mL _ (l.e p h)) fun p h=>mR _ h
 K.open fun m _ F V B N=>Exists.elim (B.sub l.a) fun bs' b=>⟨⟨m,bs',F,fun i x a hi ha=>V i x a hi (l.v.get ha),b.1,mem_app (fun p h=>N p (mL _ (b.2 p h))) fun p h=>N p (mR _ (sub p h))⟩,
  K.nd.sublist (l.a.map _),fun q hq p hp=>K.ap q (l.a.subset hq) p (sub p hp),fun p hp=>K.oe p (l.e p hp),fun p hp=>K.ek p (l.e p hp),fun p hp=>K.oa p (l.a.subset hp)⟩
theorem H_le {s:Sx} {Q:Flow→St→Prop} (h:H d c s Q σ') (l:Le c σ σ'):H d c s Q σ:=fun kp hp tk K=>h kp hp tk (K.le l)
end
section
variable {d:Df} {c:Cx} {kp:Kp} {σ σ':St} {vs:List (Option AV)} {ab:ALed} {ex:Led}
structure Sh (c:Cx) (kp:Kp) (σ:St):Prop where
 nd:(σ.ab.map (·.1)).Pairwise (·≠·)
 ap:∀q∈σ.ab,∀p∈c.all kp σ,p.1≠q.1
 oe:∀p∈σ.ex,∀q∈c.news,q.1<p.1
 ek:∀p∈σ.ex,∀q∈kp.it,p.1≠q.1
 oa:∀p∈σ.ab,c.xs p.1∨∀q∈c.news,q.1<p.1
theorem Ok.sh {h:Heap} (K:Ok d c kp σ h):Sh c kp σ:=⟨K.nd,K.ap,K.oe,K.ek,K.oa⟩
theorem Sh.ok {h:Heap} {m:Str→Option Value} {bs:Led} (S:Sh c kp σ) (F:Fr c.g c.L h m) (V:Vs d.names σ.vs m) (B:Bs σ.ab bs) (N:News c.g c.L h (bs++c.all kp σ)):Ok d c kp σ h:=⟨⟨m,bs,F,V,B,N⟩,S.nd,S.ap,S.oe,S.ek,S.oa⟩
structure At (d:Df) (c:Cx) (kp:Kp) (σ:St) (m:Str→Option Value) (news:Led):Prop where
 h:∃bs,news=bs++c.all kp σ∧Vs d.names σ.vs m∧Bs σ.ab bs
 s:Sh c kp σ
theorem Ok.at {h:Heap} (K:Ok d c kp σ h) {P:Prop} (f:∀m news,Fr c.g c.L h m→News c.g c.L h news→At d c kp σ m news→P):P:=
 K.open fun m bs F V B N=>f m _ F N ⟨⟨bs,rfl,V,B⟩,K.sh⟩
theorem At.ok {h:Heap} {m:Str→Option Value} {news:Led} (a:At d c kp σ m news) (F:Fr c.g c.L h m) (N:News c.g c.L h news):Ok d c kp σ h:=
 Exists.elim a.h fun _ x=>a.s.ok F x.2.1 x.2.2 (x.1▸N)
structure Tn {S:Type} (c:Cx) (I:S→St) (P:S→Prop) (μ:S→Nat) (n:Nat) (σ:St):Prop where
 h:∃y,Le c σ (I y)∧P y∧μ y<n
noncomputable def lp {S:Type} (d:Df) (c:Cx) (I:S→St) (P:S→Prop) (μ:S→Nat) (n:Nat) (rest:Sx) (Q:Flow→St→Prop) (f:Flow) (σ:St):Prop:=
 @Flow.rec (fun _=>Prop) (Tn c I P μ n σ) (H d c rest Q σ) (Tn c I P μ n σ) (fun v=>Q (.ret v) σ) f
theorem lp_nx {S:Type} {I:S→St} {P:S→Prop} {μ:S→Nat} {n:Nat} {rest:Sx} {Q:Flow→St→Prop} (y:S) (l:Le c σ (I y)) (hp:P y) (hm:μ y<n):lp d c I P μ n rest Q .next σ:=⟨y,l,hp,hm⟩
theorem H_whl {S:Type} (X:Fx d c) (I:S→St) (P:S→Prop) (μ:S→Nat) (x:S) {t:Ex} {b rest:Sx} {p:Pos} {Q:Flow→St→Prop} (l:Le c σ (I x)) (hp:P x)
  (turn:∀x,P x→GT d c t (fun v σ=>(v=true→H d c b (lp d c I P μ (μ x) rest Q) σ)∧(v=false→H d c rest Q σ)) (I x)):H d c (.cons (.whl t b p) rest) Q σ:=H_st fun kp hp' tk K=>
 (K.le l).at fun m news F N a=>While_inv2 (s:=c.at hp' tk) (fun n m news=>∃y,μ y=n∧P y∧At d c kp (I y) m news) F N ⟨x,rfl,hp,a⟩ (fun n m₁ nx h₁ tk₁ F₁ N₁ j=>Exists.elim j fun y j=>(turn y j.2.1).run (j.2.2.ok F₁ N₁) fun v h' σ' tk' K' q=>by
  cases v with
  |false=>exact post K' (q.2 rfl)
  |true=>
   refine (q.1 rfl).run K' fun f h2 σ2 tk2 K2 q2=> ?_
   have nx:Tn c I P μ (μ y) σ2→∃h' tk m₂ news₂ n',c.at h2 tk2={c.at hp' tk with heap:=h',toks:=tk}∧Fr c.g c.L h' m₂∧News c.g c.L h' news₂∧n'<n∧∃y,μ y=n'∧P y∧At d c kp (I y) m₂ news₂:=fun t=>
    Exists.elim t.h fun z hz=>(K2.le hz.1).at fun m news F N a=>⟨h2,tk2,m,news,μ z,rfl,F,N,j.1▸hz.2.2,z,rfl,hz.2.1,a⟩
   cases f with
   |next=>exact nx q2
   |cont=>exact nx q2
   |brk=>exact post K2 q2
   |ret v=>exact post (Q:=sq d c rest Q) (v:=Flow.ret v) K2 q2) X.own
inductive UpA (l:Addr) (P P':Obj→Prop):ALed→ALed→Prop
 |head {r}:UpA l P P' ((l,P)::r) ((l,P')::r)
 |tail {q r r'}:UpA l P P' r r'→UpA l P P' (q::r) (q::r')
theorem upA {l:Addr} {P P':Obj→Prop} {ab ab':ALed} (u:UpA l P P' ab ab'):∀{bs:Led},Bs ab bs→(ab.map (·.1)).Pairwise (·≠·)→∃o,(l,o)∈bs∧P o∧(ab'.map (·.1)=ab.map (·.1))∧∀o' rest,P' o'→(∀p∈rest,p.1≠l)→∃bs',Bs ab' bs'∧Upd l o o' (bs++rest) (bs'++rest):=by
 induction u with
 |head=>
  intro bs b n
  obtain ⟨o,k,e,h,b⟩:=bs_cons b
  rw[e]
  exact ⟨o,.head _,h,rfl,fun o' rest h' hr=>⟨_,.cons h' b,.head (mem_app (fun p hp e=>Exists.elim (b.mem p hp) fun Q hq=>(List.pairwise_cons.mp n).1 _ (List.mem_map.mpr ⟨_,hq.1,rfl⟩) e.symm) hr)⟩⟩
 |tail u ih=>
  intro bs b n
  obtain ⟨oq,k,e,h,b⟩:=bs_cons b
  obtain ⟨n1,n2⟩:=List.pairwise_cons.mp n
  obtain ⟨o,h1,h2,h3,h4⟩:=ih b n2
  rw[e]
  refine ⟨o,.tail _ h1,h2,congrArg (_::·) h3,fun o' rest h' hr=> ?_⟩
  obtain ⟨bs',hb,hu⟩:=h4 o' rest h' hr
  obtain ⟨Q,hq,_⟩:=b.mem _ h1
  exact ⟨_,.cons h hb,.tail (n1 _ (List.mem_map.mpr ⟨_,hq,rfl⟩)) hu⟩
theorem keys_back {l l':ALed} (e:l'.map (·.1)=l.map (·.1)) {P:Addr→Prop} (h:∀q∈l,P q.1):∀q∈l',P q.1:=fun q hq=>
 Exists.elim (List.mem_map.mp (e▸List.mem_map.mpr ⟨q,hq,rfl⟩:q.1∈l.map (·.1))) fun q' h'=>h'.2▸h q' h'.1
theorem Sh.keys {ab':ALed} (S:Sh c kp σ) (e:ab'.map (·.1)=σ.ab.map (·.1)):Sh c kp ⟨σ.vs,ab',σ.ex⟩:=
 ⟨e▸S.nd,keys_back (P:=fun a=>∀p∈c.all kp σ,p.1≠a) e S.ap,S.oe,S.ek,keys_back (P:=fun a=>c.xs a∨∀q∈c.news,q.1<a) e S.oa⟩
theorem meth_eq {x name:Str} {q r p:Pos} {as:List PySem.Expr} {env:Env} (hs:methodCallForm (as.length+0) (backTo p (starEach as env)) (backToKw p (keywordEach [] env))=true) (hp:(r.endLine==p.line)=true):eval (.Call (.Attribute (.Name x q) name r) as [] p) env=(do
   let ov ←eval (.Name x q) env
   standAt r.atName
   let (f,first) ←holding [ov] (getMethod ov name (do return (←importBound (.Name x q) env).getD true))
   callWith p f first (backTo p (starEach as env)) []):=by
 show (do let ov ←eval (.Name x q) env;standAt r.atName;methodCall (.Name x q) name r p env ov (as.length+0) (backTo p (starEach as env)) (backToKw p (keywordEach [] env)))=_
 unfold methodCall
 rw[hs]
 unfold calleeOf methodCallPos
 rw[hp]
 rfl
theorem not_interactive (X:Fx d c):interactive (c.env d)=false:=by
 unfold interactive
 show (d.sc.kind==_ && _)=false
 rw[X.ok.kind];rfl
noncomputable def Grow (P:Obj→Prop) (a:AV) (P':Obj→Prop):Prop:=∀o,P o→∃its k,o=listOf its k∧its.size≤sizeLine∧∀v,a.has v→P' (listOf (its.push v) (k+1))
inductive AppQ (d:Df) (c:Cx) (l:Addr) (rest:Sx) (Q:Flow→St→Prop):AV→St→Prop
 |mk {a σ} {P P':Obj→Prop} {ab':ALed}:UpA l P P' σ.ab ab'→Grow P a P'→H d c rest Q ⟨σ.vs,ab',σ.ex⟩→AppQ d c l rest Q a σ
theorem H_appA (X:Fx d c) {i:Nat} {n:Str} {l:Addr} {q r p p2:Pos} {e:Ex} {P:Obj→Prop} {rest:Sx} {Q:Flow→St→Prop} (hi:nth d.names i=some n) (hl:nth σ.vs i=some (some (.v (.ref l)))) (hm:(l,P)∈σ.ab) (hP:∀o,P o→∃its k,o=listOf its k) (h:GA d c e (AppQ d c l rest Q) σ)
  (hr:(r.endLine==p.line)=true:=by rfl):H d c (.cons (.exp (.meth (.loc i q) "append" r (.cons e .nil) p) p2) rest) Q σ:=H_st fun kp hp' tk K=>
 K.open fun m bs F V B N=>Exists.elim (B.get _ hm) fun o ho=>Exists.elim (hP o ho.2) fun its hP=>Exists.elim hP fun k0 eo=>by
  have h1:=eo▸ho.1
  refine wpAny_Expr_any (MethodCall_ (readL X K hi hl fun v hv=> ?_) (meth_eq (x:=nm d.names i) (as:=[(ux d.names e).1]) (by rw[star_any];rfl) hr)) (not_interactive X) rfl
  rw[AV.has_v hv]
  refine kl_method (s:=c.at hp' tk) (id:="list.append") N (mL _ h1) slot_list_append rfl ?_
  refine PyProof.Rows.callWith_method1 (args_cons (h.run K fun v a h' σ' tk' ha K' q=>args_nil ?_) (star_any e _ _)) (star_any e _ _) rfl
  cases q with
  |mk hu hG k=>
   refine K'.open fun m bs F V B N=> ?_
   obtain ⟨o,h1,h2,h3,h4⟩:=upA hu B K'.nd
   obtain ⟨its,k0,eo,hsz,hk⟩:=hG o h2
   obtain ⟨R,hR,_⟩:=B.mem _ h1
   obtain ⟨bs',hb,hu'⟩:=h4 _ _ (hk v ha) (K'.ap _ hR)
   rw[eo] at hu'
   exact append_K F N hu' (fun h2 F2 N2=>post (Q:=sq d c rest Q) (v:=Flow.next) ((K'.sh.keys h3).ok F2 V hb N2) k) hsz
theorem H_app (X:Fx d c) {i:Nat} {n:Str} {l:Addr} {q r p p2:Pos} {e:Ex} {a:AV} {P P':Obj→Prop} {ab':ALed} {os os':List Orc} {ob:List Prop} {rest:Sx} {Q:Flow→St→Prop} (hi:nth d.names i=some n) (hl:nth σ.vs i=some (some (.v (.ref l)))) (hv:V d c σ e os=some (a,os',ob))
  (hu:UpA l P P' σ.ab ab') (hP:Grow P a P') (k:H d c rest Q ⟨σ.vs,ab',σ.ex⟩) (ho:All ob:=by exact True.intro) (hr:(r.endLine==p.line)=true:=by rfl):
  H d c (.cons (.exp (.meth (.loc i q) "append" r (.cons e .nil) p) p2) rest) Q σ:=by
 have hm:(l,P)∈σ.ab:=by
  clear k
  generalize σ.ab=ab at hu
  induction hu with
  |head=>exact .head _
  |tail _ ih=>exact .tail _ ih
 exact H_appA X hi hl hm (fun o h=>Exists.elim (hP o h) fun its h=>Exists.elim h fun k h=>⟨its,k,h.1⟩) (GA_p X hv (.mk hu hP k) ho) hr
theorem in4 {p:Addr×Obj} {a b k e:Led} (h:p∈e):p∈a++(b++(k++e)):=mR _ (mR _ (mR _ h))
inductive AddQ (c:Cx) (Q:AV→St→Prop):AV→AV→St→Prop
 |mk {l r ns ms σ}:LI c σ l ns→LI c σ r ms→ns.length+ms.length<2 ^ 20→(∀D,Q (.v (.ref D)) (σ.new D (intsP (ns++ms))))→AddQ c Q (.v (.ref l)) (.v (.ref r)) σ
theorem GA_add {a b:Ex} {p:Pos} {Q:AV→St→Prop} (h:GA d c a (fun x σ=>GA d c b (AddQ c Q x) σ) σ):GA d c (.bin a .Add b p) Q σ:=fun kp hp tk K=>
 wpAny_BinOp (h.run K fun v x h' σ' tk' hx K' q=>q.run K' fun w y h2 σ2 tk2 hy K2 q2=>by
  cases q2 with
  |mk L1 L2 hu q2=>
   rw[AV.has_v hx,AV.has_v hy]
   obtain ⟨vs,i1,i2⟩:=ok_li K2 L1
   obtain ⟨ws,j1,j2⟩:=ok_li K2 L2
   exact K2.open fun m bs F V B N=>kmk_add_ints F N i1 j1 i2 j2 (fun D us h3 F3 N3 l hw=>postR (K2.put V B F3 N3 l ⟨us,0,rfl,hw⟩) (q2 D)) (Nat.le_trans (Nat.le_of_lt hu) (show 2 ^ 20≤sizeLine by decide)))
theorem GA_intsp (X:Fx d c) {as:Ex} {p:Pos} {os os':List Orc} {xs:List AV} {ns:List Int} {ob:List Prop} {Q:AV→St→Prop} (hv:Vl d c σ as os=some (xs,os',ob)) (hn:intsOf xs=some ns) (k:∀r,Q (.v (.ref r)) (σ.new r (intsP ns))) (ho:All ob:=by exact True.intro) (hl:xs.length≤100:=by exact Nat.le_of_ble_eq_true rfl):GA d c (.lst as p) Q σ:=
 GA_ints (GL_p X hv ⟨_,hn,hl,k⟩ ho)
theorem GA_addI (X:Fx d c) {a as:Ex} {p q:Pos} {l:Addr} {os os1 os2:List Orc} {xs:List AV} {ns ms:List Int} {o1 o2:List Prop} {Q:AV→St→Prop} (ha:V d c σ a os=some (.v (.ref l),os1,o1)) (hb:Vl d c σ as os1=some (xs,os2,o2)) (hm:intsOf xs=some ms) (L:LI c σ l ns)
  (hl:ns.length+ms.length<2 ^ 20) (k:∀r D,Q (.v (.ref D)) ((σ.new r (intsP ms)).new D (intsP (ns++ms)))) (ho1:All o1:=by exact True.intro) (ho2:All o2:=by exact True.intro) (hx:xs.length≤100:=by exact Nat.le_of_ble_eq_true rfl):GA d c (.bin a .Add (.lst as q) p) Q σ:=
 GA_add (GA_p X ha (GA_intsp X hb hm (fun r=> .mk (L.elim (fun h=> .inl (.tail _ h)) .inr) (.inl (.head _)) hl (k r)) ho2 hx) ho1)
noncomputable def RtQ (Q:Flow→St→Prop) (a:AV) (σ:St):Prop:= @AV.rec (fun _=>Prop) (fun x=>Q (.ret x) σ) (fun _=>False) (fun _=>False) (fun _=>False) a
theorem sq_rt {rest:Sx} {Q:Flow→St→Prop} {v:Value} (h:Q (.ret v) σ):RtQ (sq d c rest Q) (.v v) σ:=h
theorem H_retA {e:Ex} {p:Pos} {rest:Sx} {Q:Flow→St→Prop} (h:GA d c e (RtQ Q) σ):H d c (.cons (.ret e p) rest) Q σ:=
 H_ret (GA_mono h fun a σ q v hv=>by
  cases a with
  |v x=>exact AV.has_v hv▸q
  |_=>exact q.elim)
noncomputable def lf {S:Type} (d:Df) (c:Cx) (I:S→St) (P:S→Prop) (rest:Sx) (Q:Flow→St→Prop) (f:Flow) (σ:St):Prop:=
 @Flow.rec (fun _=>Prop) (∃y,Le c σ (I y)∧P y) (H d c rest Q σ) (∃y,Le c σ (I y)∧P y) (fun v=>Q (.ret v) σ) f
theorem lf_nx {S:Type} {I:S→St} {P:S→Prop} {rest:Sx} {Q:Flow→St→Prop} (y:S) (l:Le c σ (I y)) (hp:P y):lf d c I P rest Q .next σ:=⟨y,l,hp⟩
end
section
variable {d:Df} {c:Cx} {kp:Kp} {σ σ':St} {vs:List (Option AV)} {ab:ALed} {ex:Led}
theorem split_own {own:Led} {I:Addr} {kp:Kp} {p:Addr×Obj}:p∈(⟨own.filter (fun p=>p.1==I)++kp.it,own.filter (fun p=>p.1 !=I)++kp.ot⟩:Kp).l↔p∈own∨p∈kp.l:=by
 show p∈(own.filter (fun p=>p.1==I)++kp.it)++(own.filter (fun p=>p.1 !=I)++kp.ot)↔p∈own∨p∈kp.it++kp.ot
 constructor
 ·exact mem_app (P:=fun p=>p∈own∨p∈kp.it++kp.ot) (mem_app (fun p h=> .inl (List.mem_filter.mp h).1) fun p h=> .inr (mL _ h)) (mem_app (fun p h=> .inl (List.mem_filter.mp h).1) fun p h=> .inr (mR _ h)) p
 ·rintro (h|h)
  ·cases e:p.1==I with
   |true=>exact mL _ (mL _ (List.mem_filter.mpr ⟨h,e⟩))
   |false=>exact mR _ (mL _ (List.mem_filter.mpr ⟨h,congrArg not e⟩))
  ·exact (List.mem_append.mp h).elim (fun h=>mL _ (mR _ h)) fun h=>mR _ (mR _ h)
theorem own1 {own k k' e n:Led} (h:∀p∈k',p∈own∨p∈k):∀p∈e++(k'++n),p∈own∨p∈e++(k++n):=
 mem_app (fun _ h=> .inr (mL _ h)) (mem_app (fun p hp=>(h p hp).imp id fun h=>mR _ (mL _ h)) fun _ h=> .inr (mR _ (mR _ h)))
theorem own2 {own k k' e n:Led} (h1:∀p∈own,p∈k') (h2:∀p∈k,p∈k'):∀p,p∈own∨p∈e++(k++n)→p∈e++(k'++n):=fun p h=>
 h.elim (fun h=>mR _ (mL _ (h1 p h))) (mem_app (P:=(·∈e++(k'++n))) (fun _ h=>mL _ h) (mem_app (fun p h=>mR _ (mL _ (h2 p h))) fun _ h=>mR _ (mR _ h)) p)
theorem own3 {own b a a':Led} (h:∀p∈a',p∈own∨p∈a):∀p∈b++a',p∈own++(b++a):=
 mem_app (fun _ h=>mR _ (mL _ h)) fun p hp=>(h p hp).elim (fun h=>mL _ h) fun h=>mR _ (mR _ h)
theorem own4 {own b a a':Led} (h:∀p,p∈own∨p∈a→p∈a'):∀p∈own++(b++a),p∈b++a':=
 mem_app (fun p hp=>mR _ (h p (.inl hp))) (mem_app (fun _ h=>mL _ h) fun p hp=>mR _ (h p (.inr hp)))
theorem Sh.into {own:Led} {I:Addr} {fp:List Addr} (S:Sh c kp σ) (hk:∀p∈own,p.1∈fp) (hf:∀p∈σ.ab,p.1∉fp) (hI:∀p∈σ.ex,p.1≠I):Sh c ⟨own.filter (fun p=>p.1==I)++kp.it,own.filter (fun p=>p.1 !=I)++kp.ot⟩ σ where
 nd:=S.nd
 ap:=fun q hq p hp=>(own1 (fun _ h=>split_own.mp h) p hp).elim (fun h e=>hf q hq (e▸hk p h)) (S.ap q hq p)
 oe:=S.oe
 ek:=fun p hp=>mem_app (fun q hq=>(beq_iff_eq.mp (List.mem_filter.mp hq).2).symm▸hI p hp) (S.ek p hp)
 oa:=S.oa
theorem Sh.out {own:Led} {I:Addr} (S:Sh c ⟨own.filter (fun p=>p.1==I)++kp.it,own.filter (fun p=>p.1 !=I)++kp.ot⟩ σ):Sh c kp σ where
 nd:=S.nd
 ap:=fun q hq p hp=>S.ap q hq p (own2 (own:=own) (fun _ h=>split_own.mpr (.inl h)) (fun _ h=>split_own.mpr (.inr h)) p (.inr hp))
 oe:=S.oe
 ek:=fun p hp q hq=>S.ek p hp q (mR _ hq)
 oa:=S.oa
theorem for_coreT {S:Type} (X:Fx d c) {target:PySem.Expr} {body rest:Sx} {I:Addr} {fp:List Addr} {n:Nat} {Pv:Nat→Value→Prop} {Md:Nat→Value→Heap→Prop} {Sv:Nat→Heap→Prop} (W:KTurns PR c.w (c.A d) target I fp [I] n (fun i v _=>Pv i v) Md Sv)
  (Iv:Nat→S→St) (P:Nat→S→Prop) (y₀:S) {Q:Flow→St→Prop} {h:Heap} {tk:Nat} (K:Ok d c kp (Iv 0 y₀) h) (hp:P 0 y₀)
  (hLf:c.L∉fp) (hIf:I∈fp) (hI:c.g.get? I=none) (hnw:∀p∈c.all kp (Iv 0 y₀),p.1≠I) (hst:Sv 0 h) (hsv:∀i h,Sv i h→∀b∈fp,∃o,h.get? b=some o)
  (hfp:∀p∈(Iv 0 y₀).ab,p.1∉fp)
  (turn:∀i v y,i<n→Pv i v→P i y→G d c (assign target (c.env d) v) (fun _ σ=>H d c body (lf d c (Iv (i+1)) (P (i+1)) rest Q) σ) (Iv i y))
  (done:∀y,P n y→H d c rest Q (Iv n y)):TurnsAt PR c.w (c.A d) c.g (c.env d) target (su d.names body).2 (Post d c kp (sq d c rest Q)) c.E (.ref I) (c.at h tk):=by
 let J:Nat→(Str→Option Value)→Led→Prop:=fun i m news=>∃y,P i y∧At d c kp (Iv i y) m news∧∀p∈(Iv i y).ab,p.1∉fp
 refine K.at fun m news F N a=>⟨I,fp,[I],n,_,_,Sv,m,news,J,rfl,W,hLf,?_,?_,hst,F,N,⟨y₀,hp,a,hfp⟩,?_,?_⟩
 ·intro b hb;rw[List.mem_singleton.mp hb];exact hI
 ·obtain ⟨bs,e,_,B⟩:=a.h
  intro p hp hm
  have hm:=List.mem_singleton.mp hm
  rw[e] at hp
  exact mem_app (P:=fun p=>p.1≠I) (fun p hp e=>Exists.elim (B.mem p hp) fun R hR=>hfp _ hR.1 (show p.1∈fp from e▸hIf)) hnw p hp hm
 ·intro i v m₁ nx h₁ tk₁ own hi hv j hnx hown hget hall hsi F₁ N₁
  obtain ⟨y,hy,⟨⟨bs,e,V,B⟩,S₁⟩,k6⟩:=j
  subst e
  have hnx:∀p∈bs++c.all kp (Iv i y),p.1≠I:=fun p hp e=>hnx p hp (List.mem_singleton.mpr e)
  have S':=S₁.into (own:=own) (I:=I) hown k6 fun p hp=>hnx p (mR _ (mL _ hp))
  have K₁:=S'.ok F₁ V B fun p hp=>N₁ p (own3 (own1 fun _ h=>split_own.mp h) p hp)
  obtain ⟨oI,hoI⟩:=hsv (i+1) h₁ hsi I hIf
  have hIk:(I,oI)∈own.filter (fun p=>p.1==I)++kp.it:=mL _ (List.mem_filter.mpr ⟨hall I hIf hI oI hoI,beq_self_eq_true I⟩)
  generalize hkp:(⟨own.filter (fun p=>p.1==I)++kp.it,own.filter (fun p=>p.1 !=I)++kp.ot⟩:Kp)=kp' at K₁
  have hio:∀{σ2:St} {bs2:Led},∀p∈own++(bs2++c.all kp σ2),p∈bs2++c.all kp' σ2:=fun {σ2 bs2}=>own4 (own2 (fun _ h=>hkp▸split_own.mpr (.inl h)) (fun _ h=>hkp▸split_own.mpr (.inr h)))
  have hIk:(I,oI)∈kp'.it:=hkp▸hIk
  have out:∀{σ2},Sh c kp' σ2→Sh c kp σ2:=fun {σ2} S=>Sh.out (own:=own) (I:=I) (by rw[hkp];exact S)
  have post':∀{h2 σ2 tk2} {f:Flow} {q:Flow→St→Prop},Ok d c kp' σ2 h2→q f σ2→Post d c kp q f (c.at h2 tk2):=fun K2 hq=>
   K2.open fun m2 bs2 F2 V2 B2 N2=>post ((out K2.sh).ok F2 V2 B2 fun p hp=>N2 p (hio p (mR _ hp))) hq
  have fin:∀{h2 σ2 tk2},Ok d c kp' σ2 h2→(∃y,Le c σ2 (Iv (i+1) y)∧P (i+1) y)→LoopStepU c.g c.L [I] own (J (i+1)) (c.at h₁ tk₁) .next (c.at h2 tk2):=fun {h2 σ2 tk2} K2 z=>by
   obtain ⟨z,lz,pz⟩:=z
   have K2:=K2.le lz
   refine K2.open fun m2 bs2 F2 V2 B2 N2=> ?_
   have key:∀p∈(Iv (i+1) z).ab,p.1∉fp:=fun p hp hm=>by
    obtain ⟨o,h1,_⟩:=B2.get p hp
    obtain ⟨o',ho'⟩:=hsv (i+1) h₁ hsi _ hm
    exact K2.ap p hp _ (own2 (own:=own) (k:=kp.l) (fun _ h=>hkp▸split_own.mpr (.inl h)) (fun _ h=>hkp▸split_own.mpr (.inr h)) _ (.inl (hall _ hm (N2 _ (mL _ h1)).2.2 _ ho'))) rfl
   refine ⟨rfl,h2,tk2,m2,bs2++c.all kp (Iv (i+1) z),rfl,F2,fun p hp=>N2 p (hio p hp),fun p hp hm=> ?_,z,pz,⟨⟨bs2,rfl,V2,B2⟩,out K2.sh⟩,key⟩
   have hm:=List.mem_singleton.mp hm
   refine mem_app (P:=fun p=>p.1≠I) (fun p hp e=>Exists.elim (B2.mem p hp) fun R hR=>K2.ap _ hR.1 _ (mR _ (mL _ (mL _ hIk))) e.symm)
    (mem_app (fun p hp=>K2.ek p hp _ hIk) fun p hp=>hnx p (mR _ (mR _ hp))) p hp hm
  exact (turn i v y hi hv hy).run K₁ fun _ h2 σ2 tk2 K2 q=>G.run q K2 fun f h2 σ2 tk2 K2 q=>by
   cases f with
   |ret v=>exact .ret (post' (q:=sq d c rest Q) (f:= .ret v) K2 q)
   |brk=>exact .brk (post' (q:=sq d c rest Q) (f:= .next) K2 q)
   |next=>exact .next (fin K2 q)
   |cont=>exact .cont (fin K2 q)
 ·intro h' tk' m' nx F' N' _ j
  obtain ⟨y,hy,a,_⟩:=j
  exact post (Q:=sq d c rest Q) (v:=Flow.next) (a.ok F' N') (done y hy)
theorem G_name (X:Fx d c) {j:Nat} {x:Str} {q:Pos} {v:Value} {a:AV} {Q:Unit→St→Prop} (hj:nth d.names j=some x) (ha:a.has v) (k:Q () (σ.put j a)):G d c (assign (.Name x q) (c.env d) v) Q σ:=fun kp hp tk K=>
 PyProof.Rows.assign_Name (store X K hj ha fun _ _ K2=>post K2 k)
theorem push_news {h₀ h:Heap} {L:Addr} {news:Led} (N:News h₀ L h news) (o:Obj):News h₀ L (h.push o) news:=fun p hp=>⟨Heap.get?_push_of_some _ (N p hp).1,(N p hp).2⟩
theorem Ok.push {h:Heap} (K:Ok d c kp σ h) (o:Obj):Ok d c kp σ (h.push o):=K.open fun _ _ F V B N=>K.same V B (F.push _) (push_news N _)
theorem Ok.lt {h:Heap} (K:Ok d c kp σ h):(∀p∈c.all kp σ,p.1≠h.objs.size)∧(∀p∈σ.ab,p.1<h.objs.size)∧c.L<h.objs.size∧c.g.get? h.objs.size=none:=K.open fun _ _ F V B N=>
 ⟨fun p hp=>Nat.ne_of_lt (Heap.lt_size (N p (mR _ hp)).1),fun p hp=>Exists.elim (B.get p hp) fun _ h=>Heap.lt_size (N _ (mL _ h.1)).1,F.ns.lt,next_is_new F⟩
inductive RngQ {S:Type} (c:Cx) (n:Nat) (Iv:Nat→S→St) (P:Nat→S→Prop) (y₀:S):AV→St→Prop
 |mk {σ:St}:Le c σ (Iv 0 y₀)→P 0 y₀→RngQ c n Iv P y₀ (.i (n:Int)) σ
theorem H_forG {S:Type} (X:Fx d c) (Iv:Nat→S→St) (P:Nat→S→Prop) (y₀:S) {j n:Nat} {x:Str} {e:Ex} {q q2 p p2:Pos} {body rest:Sx} {Q:Flow→St→Prop} (hj:nth d.names j=some x) (h:GA d c e (RngQ c n Iv P y₀) σ) (hn:n<2 ^ 60)
  (turn:∀i y,i<n→P i y→H d c body (lf d c (Iv (i+1)) (P (i+1)) rest Q) ((Iv i y).put j (.i (i:Int)))) (done:∀y,P n y→H d c rest Q (Iv n y)) (hb:d.bs.any Bn.range.is=true:=by rfl):
  H d c (.cons (.fors (.loc j q) (.bn .range q2 (.cons e .nil) p) body p2) rest) Q σ:=H_st fun kp hp' tk K=>by
 show wpAny _ _ (exec (.For (.Name (nm d.names j) q) (.Call (.Name Bn.range.nm q2) [(ux d.names e).1] [] p) (su d.names body).2 [] p2) _) _ _ _
 rw[nm_eq hj]
 obtain ⟨b',hm,hb'⟩:=List.any_eq_true.mp hb
 have hbe:=Bn.is_eq hb'
 subst hbe
 refine K.open fun m bs F V B N=>For_turns F ?_ (fun _=>rfl) X.own
 refine Call_ (nameX_B F X.inn (topRead_of X.top) rfl (v:= .type "range") rfl (by decide) ?_ X.ok.kind (X.ok.bn _ hm) (by decide)) rfl
 refine PyProof.Rows.callWith_type1 (args_cons (h.run K fun v a h' σ' tk' hav K' q=>args_nil ?_) (star_any e _ _)) (star_any e _ _) rfl
 cases q with
 |mk l hp=>
 obtain ⟨t,hav⟩:=AV.has_i hav
 rw[hav]
 refine call_range_1 ?_
 refine K'.open fun m bs F V B N=>wpAny_pyIter_range (IsRange.new ..) (small_one (by decide) (by decide) (by exact lin (.G 1 (.L (.n (.c 4611686018427387904)) Y0)) rfl [_] []) (by exact lin (.h 1 (.t Y0 (.c 1152921504606846976)) (.G 1 (.T Y0 (.c 4611686018427387904)))) rfl [_] [] hn)) ?_
 generalize hr:({cls:= .type "range",data:= .fields #[.int 0 tk',.int (n:Int) t,.int 1 (tk'+1)]}:Obj)=ro
 have K2:=(K'.push ro).le l
 obtain ⟨l1,l2,l3,l4⟩:=K2.lt
 have W:=Walks.range (prog:=PR) (w:=c.w) (A:=c.A d) rfl (h'.push ro).objs.size 0 1 n
 refine for_coreT (tk:=tk'+1+1) X (KTurns.ofWalks (target:= .Name x q) W fun _ _ _ _ _ _ h=>wpAny_pure h) Iv P y₀ (K2.push _) hp (fun hm=>absurd l3 ((List.mem_singleton.mp hm)▸Nat.lt_irrefl _)) (.head _) l4 l1 ?_ (fun i h hs b hb=>by rw[List.mem_singleton.mp hb];exact ⟨_,hs⟩) (fun p hp hm=>absurd (List.mem_singleton.mp hm) (Nat.ne_of_lt (l2 p hp))) (fun i v y hi hv hy=>G_name X hj (Exists.elim hv fun t e=>hasI (t:=t) (rfl:AV.i _=AV.i _)|>fun h=>by rw[e,Int.zero_add,Int.mul_one];exact h) (turn i y hi hy)) done
 have e2:Builtin.Range.rangeSize 0 (n:Int) 1=(n:Int):=by
  rw[rangeSize_one,Int.sub_zero]
  split
  ·rfl
  ·exact Int.le_antisymm (Int.natCast_nonneg n) (Int.not_lt.mp ‹_›)
 show IsRangeIter _ _ _ _ _
 rw[e2]
 exact Heap.get?_push_size (h'.push ro) (o:={cls:= .type "range_iterator",data:= .fields #[rawInt 0,rawInt (n:Int),rawInt 1]}) rfl
theorem H_forR {S:Type} (X:Fx d c) (Iv:Nat→S→St) (P:Nat→S→Prop) (y₀:S) {j n:Nat} {x:Str} {e:Ex} {q q2 p p2:Pos} {a:Int} {os os':List Orc} {ob:List Prop} {body rest:Sx} {Q:Flow→St→Prop} (hj:nth d.names j=some x) (hv:V d c σ e os=some (.i a,os',ob)) (ha:a=(n:Int)) (hn:n<2 ^ 60) (l:Le c σ (Iv 0 y₀)) (hp:P 0 y₀)
  (turn:∀i y,i<n→P i y→H d c body (lf d c (Iv (i+1)) (P (i+1)) rest Q) ((Iv i y).put j (.i (i:Int)))) (done:∀y,P n y→H d c rest Q (Iv n y)) (ho:All ob:=by exact True.intro) (hb:d.bs.any Bn.range.is=true:=by rfl):
  H d c (.cons (.fors (.loc j q) (.bn .range q2 (.cons e .nil) p) body p2) rest) Q σ:=
 H_forG X Iv P y₀ hj (GA_p X hv (by rw[ha];exact .mk l hp) ho) hn turn done hb
theorem Df.Ok.of {d:Df} (h:(decide (d.sc.kind= .function) && decide d.names.Nodup && d.names.all (fun x=>decide (d.sc.names.lookup x=some .local) && !(x==("__debug__":Str))) && d.bs.all (fun b=>decide (d.sc.names.lookup b.nm=some .globalImplicit)))=true)
  (hg:∀p∈d.gs,d.sc.names.lookup p.1=some .globalImplicit∧(p.1==("__debug__":Str))=false∧∀P,∃t,nsIn (Mine.kf P) mainGlobals p.1=some (some (.int p.2 t)):=by exact allP):d.Ok:=by
 simp only[Bool.and_eq_true,List.all_eq_true,decide_eq_true_eq,Bool.not_eq_true'] at h
 exact ⟨h.1.1.1,h.1.1.2,h.1.2,h.2,hg⟩
theorem lenS {n:Nat} {P:List Value→Prop} (h:∀a vs,vs.length=n→P (a::vs)) (vs:List Value) (e:vs.length=n+1):P vs:=by
 cases vs with
 |nil=>exact Nat.noConfusion e
 |cons a vs=>exact h a vs (Nat.succ.inj e)
theorem lenZ {P:List Value→Prop} (h:P []) (vs:List Value) (e:vs.length=0):P vs:=by
 cases vs with
 |nil=>exact h
 |cons a vs=>exact Nat.noConfusion e
theorem ints_grow {os:List Int} {n:Int} (hl:os.length<2 ^ 20):Grow (intsP os) (.i n) (intsP (os++[n])):=by
 intro o h
 obtain ⟨vs,k,rfl,hi⟩:=h
 refine ⟨vs.toArray,k,rfl,?_,fun v h=>⟨vs++[v],k+1,by rw[List.push_toArray],Exists.elim h fun t e=>hi.append (e▸.cons _ _ .nil)⟩⟩
 rw[List.size_toArray,hi.length]
 exact Nat.le_trans (Nat.le_of_lt hl) (show 2 ^ 20≤sizeLine by decide)
end
section
variable {d:Df} {c:Cx} {kp:Kp} {σ σ':St} {vs:List (Option AV)} {ab:ALed} {ex:Led}
noncomputable def IL (a:Addr) (ns:List Int) (news:Led):Prop:=∃vs k,(a,listOf vs.toArray k)∈news∧IntsAre vs ns
theorem LL.li {a:Addr} {ns:List Int} (h:LL c σ a ns):LI c σ a ns:=h.elim .inl fun h=> .inr (.inl h)
theorem LL.of {a:Addr} {ns:List Int} (h:IL a ns c.news):LL c σ a ns:= .inr (Exists.elim h fun vs h=>Exists.elim h fun k h=>⟨vs,k,mR _ h.1,h.2⟩)
theorem LI.of {a:Addr} {ns:List Int} (h:IL a ns c.news):LI c σ a ns:=(LL.of h).li
theorem LL.il {a:Addr} {ns:List Int} (h:LL c σ a ns) (bs:Led) (kp:Kp) (B:Bs σ.ab bs):IL a ns (bs++c.all kp σ):=by
 rcases h with h|⟨vs,k,h1,h2⟩
 ·obtain ⟨o,h1,vs,k,e,h2⟩:=B.get _ h
  exact ⟨vs,k,mL _ (e▸h1),h2⟩
 ·exact ⟨vs,k,mR _ (mem3 h1),h2⟩
theorem fin_pass {res:Value→Led→Prop} {v:Value} {led:Led} (h:res v led) (hm:∀p∈led,p∈σ.ex):Fin res (.ret v) σ:=fun _ _=>⟨led,h,fun p hp=>mR _ (hm p hp)⟩
inductive KaQ (c:Cx) (k:Nat) (f:Addr) (res:Value→Led→Prop):List AV→St→Prop
 |mk {xs σ} (need:Led→Prop):KA c.w k f xs need res→(∀bs (kp:Kp),Bs σ.ab bs→need (bs++c.all kp σ))→KaQ c k f res xs σ
theorem H_retK {res:Value→Led→Prop} {x:Str} {q p p2:Pos} {a as:Ex} {f:Addr} {rest:Sx} {k K:Nat} (X:Fx d c) (hg:Gv d x f) (rm:Rm c K) (hk:k<K) (h:GL d c (.cons a as) (KaQ c k f res) σ)
  (h2:∀p,(backTo p (starEach (ux d.names as).2 (c.env d))).any (·.1)=false:=by exact fun _=>rfl):H d c (.cons (.ret (.call (.gl x q) (.cons a as) p) p2) rest) (Fin res) σ:=
 H_retA (GA_call X hg (fun pos=>G_mono (h pos) fun _ σ q=>q.imp fun xs q=>⟨q.1,fun vs hvs=>by
  cases q.2 with
  |mk need C hn=>exact G_kon X (C vs hvs) rm hk hn fun v led hr=>⟨.v v,rfl,fin_pass hr fun p hp=>mL _ hp⟩⟩) h2)
noncomputable def md {S:Type} (c:Cx) (I:S→St) (P:S→Prop) (Q:Flow→St→Prop) (f:Flow) (σ:St):Prop:=
 @Flow.rec (fun _=>Prop) (∃y,Le c σ (I y)∧P y) (Q .brk σ) (Q .cont σ) (fun v=>Q (.ret v) σ) f
theorem md_nx {S:Type} {I:S→St} {P:S→Prop} {Q:Flow→St→Prop} (y:S) (l:Le c σ (I y)) (hp:P y):md c I P Q .next σ:=⟨y,l,hp⟩
theorem H_join {S:Type} (I:S→St) (P:S→Prop) {st rest:Sx} {Q:Flow→St→Prop} (h:HS d c st (md c I P Q) σ) (k:∀y,P y→H d c rest Q (I y)):H d c (.cons st rest) Q σ:=
 H_st (G_mono h fun f σ q=>by
  cases f with
  |next=>obtain ⟨y,l,hp⟩:=q;exact H_le (k y hp) l
  |ret v=>exact q
  |brk=>exact q
  |cont=>exact q)
theorem H_freeze {s:Sx} {r:Addr} {P:Obj→Prop} {Q:Flow→St→Prop} (hx:¬ c.xs r) (h:∀o,P o→H d c s Q ⟨vs,ab,(r,o)::ex⟩):H d c s Q ⟨vs,(r,P)::ab,ex⟩:=fun kp hp tk K=>K.open fun m bs F V B N=>by
 obtain ⟨o,k,e,hw,B'⟩:=bs_cons B
 obtain ⟨n1,n2⟩:=List.pairwise_cons.mp K.nd
 have hr:∀p∈ex++(kp.l++c.news),p.1≠r:=K.ap _ (.head _)
 refine h o hw kp hp tk ⟨⟨m,k,F,V,B',mem_app (fun p hp=>N p (e▸.tail _ (mL _ hp))) (fC ⟨N (r,o) (e▸.head _),fun p hp=>N p (e▸.tail _ (mR _ hp))⟩)⟩,n2,
  fun q hq=>fC ⟨n1 _ (List.mem_map.mpr ⟨q,hq,rfl⟩),K.ap q (.tail _ hq)⟩,fC ⟨fun q hq=>(K.oa _ (.head _)).elim (fun h=>absurd h hx) fun h=>h q hq,K.oe⟩,
  fC ⟨fun q hq=>(hr q (mR _ (mL _ (mL _ hq)))).symm,K.ek⟩,fun p hp=>K.oa p (.tail _ hp)⟩
theorem call1 (X:Fx d c) {x:Str} {t:String} {q p:Pos} {a:Ex} {Q:AV→St→Prop} (hl:d.sc.names.lookup x=some .globalImplicit) (h1:∀P,nsIn (Mine.kf P) mainGlobals x=some none) (h2:bootBuiltins x=some (.type t)) (h3:x≠"__name__") (h4:(x==("__debug__":Str))=false) (ht:t≠"super")
  (h:GA d c a (fun a σ=>∀v,a.has v→G d c (call (.type t) [v]) (AQ Q) σ) σ):GA d c (.call (.gl x q) (.cons a .nil) p) Q σ:=fun kp hp tk K=>
 K.open fun m bs F V B N=>Call_ (nameX_B F X.inn (topRead_of X.top) (h1 _) (v:= .type t) h2 h3 (PyProof.Rows.callWith_type1 (args_cons (h.run K fun v a h' σ' tk' ha K' q=>args_nil (q v ha kp h' tk' K')) (star_any a _ _)) (star_any a _ _) rfl) X.ok.kind hl h4) rfl
inductive BytQ (c:Cx) (Q:AV→St→Prop):AV→St→Prop
 |mk {l ns σ}:LI c σ l ns→(∀b∈ns,0≤b∧b<256)→ns.length<2 ^ 20→(∀t,Q (.v (.bytes (byteArr ns) t)) σ)→BytQ c Q (.v (.ref l)) σ
theorem GA_bytes (X:Fx d c) {q p:Pos} {a:Ex} {Q:AV→St→Prop} (hl:d.sc.names.lookup ("bytes":Str)=some .globalImplicit) (h:GA d c a (BytQ c Q) σ):GA d c (.call (.gl "bytes" q) (.cons a .nil) p) Q σ:=
 call1 X (t:="bytes") hl (fun _=>rfl) rfl (by decide) (by decide) (by decide) (GA_mono h fun a σ' b v hv kp h' tk' K'=>by
  cases b with
  |mk L hb hn q=>
   rw[AV.has_v hv]
   obtain ⟨vs,i1,i2⟩:=ok_li K' L
   exact K'.open fun m bs F V B N=>KBa.make_K F N rfl i1 i2 hb (Nat.le_trans (Nat.le_of_lt hn) (by decide)) fun h2 t k F2 N2 _=>postR (K'.same V B F2 N2) (q t))
noncomputable def seqP (vs:List Value) (o:Obj):Prop:=∃k,o=listOf vs.toArray k
theorem seq_grow {vs:List Value} {x:Value} (hl:vs.length≤2 ^ 20):Grow (seqP vs) (.v x) (seqP (vs++[x])):=by
 intro o h
 obtain ⟨k,rfl⟩:=h
 refine ⟨_,k,rfl,?_,fun v hv=>⟨k+1,by rw[AV.has_v hv,List.push_toArray]⟩⟩
 rw[List.size_toArray]
 exact Nat.le_trans hl (show 2 ^ 20≤sizeLine by decide)
theorem seq_list {vs:List Value} (o:Obj) (h:seqP vs o):∃its k,o=listOf its k:=h.imp' (fun k=>vs.toArray) fun k e=>⟨k,e⟩
theorem GA_nilS {p:Pos} {Q:AV→St→Prop} (k:∀r,Q (.v (.ref r)) (σ.new r (seqP []))):GA d c (.lst .nil p) Q σ:=fun kp hp tk K=>
 List_ (args_nil (K.open fun m bs F V B N=>newList_K F N (fun r h2 F2 N2 l=>postR (K.put V B F2 N2 l ⟨0,rfl⟩) (k r)) (by decide)))
inductive BinQ (op:Operator) (Q:AV→St→Prop):AV→AV→St→Prop
 |mk {x y σ} {z:AV} {ob:List Prop}:binA op x y=some (z,ob)→All ob→Q z σ→BinQ op Q x y σ
theorem GA_bin {op:Operator} {a b:Ex} {p:Pos} {Q:AV→St→Prop} (h:GA d c a (fun x σ=>GA d c b (BinQ op Q x) σ) σ):GA d c (.bin a op b p) Q σ:=fun kp hp tk K=>
 wpAny_BinOp (h.run K fun v x h' σ' tk' hx K' q=>q.run K' fun w y h2 σ2 tk2 hy K2 q2=>by
  cases q2 with
  |mk e ho q2=>exact bin_ok e ho hx hy fun u t hu=>postA (tk:=t) K2 hu q2)
inductive BpQ (d:Df) (c:Cx) (op:Operator) (b:Ex) (Q:AV→St→Prop):AV→St→Prop
 |mk {x y z:AV} {σ} {os os':List Orc} {ob ob':List Prop}:V d c σ b os=some (y,os',ob)→binA op x y=some (z,ob')→Q z σ→All ob→All ob'→BpQ d c op b Q x σ
theorem GA_binp (X:Fx d c) {op:Operator} {a b:Ex} {p:Pos} {Q:AV→St→Prop} (h:GA d c a (BpQ d c op b Q) σ):GA d c (.bin a op b p) Q σ:=
 GA_bin (GA_mono h fun x σ q=>by cases q with|mk h1 h2 q o1 o2=>exact GA_p X h1 (.mk h2 o2 q) o1)
theorem ints_len {xs:List AV}:∀{ns:List Int},intsOf xs=some ns→ns.length=xs.length:=by
 induction xs with
 |nil=>exact fun h=>Option.some.inj h▸rfl
 |cons a xs ih=>
  intro ns h
  obtain ⟨n,h1,h⟩:=ob_some h
  obtain ⟨m,h2,h⟩:=ob_some h
  rw[←Option.some.inj h]
  exact congrArg _ (ih h2)
theorem GA_itemL (X:Fx d c) {as i:Ex} {p q:Pos} {os os1 os2:List Orc} {o1 o2:List Prop} {xs:List AV} {ns:List Int} {k:Int} {Q:AV→St→Prop} (hv:Vl d c σ as os=some (xs,os1,o1)) (hn:intsOf xs=some ns) (hi:∀r,V d c (σ.new r (intsP ns)) i os1=some (.i k,os2,o2)) (h0:0≤k) (h1:k<ns.length)
  (k2:∀r,Q (.i (ns.getD k.toNat 0)) (σ.new r (intsP ns))) (ho1:All o1:=by exact True.intro) (ho2:All o2:=by exact True.intro) (hl:ns.length≤100:=by exact Nat.le_of_ble_eq_true rfl) (hs:∀l t,subscripted (ux d.names i).1 false (.ref l) (.int k t)=operate [.ref l,.int k t] (getItem (.ref l) (.int k t)):=by intro _ _;rfl):
  GA d c (.sub (.lst as q) i p) Q σ:=fun kp hp tk K=>
 Subscript_ (GA.run (Q:=fun a σ'=>∃r,a=AV.v (.ref r)∧σ'=σ.new r (intsP ns)) (GA_intsp X hv hn (fun r=>⟨r,rfl,rfl⟩) ho1 (ints_len hn▸hl)) K fun v x h' σ' tk' hx K' e=>by
  obtain ⟨r,ex,es⟩:=e
  subst es
  rw[ex] at hx
  rw[AV.has_v hx]
  refine (ev_ok X i).v _ _ (hi r) ho2 kp h' tk' _ K' fun w h2 tk2 hw K2=> ?_
  obtain ⟨t,hw⟩:=AV.has_i hw
  rw[hw]
  obtain ⟨vs,i1,i2⟩:=ok_li K2 (.inl (.head _))
  exact item_anyK i1 i2 h0 h1 (by exact lin (.h 1 (.T Z0 Y0) (.h 1 (.l Y0 (.c 100)) (.G 1 (.T Z0 (.c 9223372036854775808))))) rfl [_] [_] h1 hl) (fun t=>postI K2 (k2 r)) (hs _ _))
theorem ints_dropLast {vs:List Value} {ns:List Int} (h:IntsAre vs ns):IntsAre vs.dropLast ns.dropLast:=by
 induction h with
 |nil=>exact .nil
 |cons n t h ih=>
  cases h with
  |nil=>exact .nil
  |cons m u h=>exact .cons n t ih
theorem pick_last {ns:List Int} {vs:List Value} (hi:IntsAre vs ns) (hn:0<ns.length):IntsAre (slicePick vs.toArray none (some (-1)) none).toList ns.dropLast:=by
 have hl:=hi.length
 have e:sliceBounds none (some (-1)) none vs.toArray.size=(((0:Nat):Int),((vs.length - 1:Nat):Int),1):=by
  rw[List.size_toArray]
  simp only[sliceBounds,Option.getD_none,show (1:Int)>0 by decide,if_true,if_pos (show ((-1:Int)<0) by decide)]
  congr 1
  congr 1
  omega
 rw[kmk_pick_nat _ e]
 show IntsAre ((vs.drop 0).take (vs.length - 1 - 0)) _
 rw[List.drop_zero,Nat.sub_zero,←List.dropLast_eq_take]
 exact ints_dropLast hi
theorem GA_init (X:Fx d c) {j:Nat} {p q r:Pos} {l:Addr} {ns:List Int} {Q:AV→St→Prop} {n:Str} {p1 p2:Pos} (hj:nth d.names j=some n) (hl:nth σ.vs j=some (some (.v (.ref l))))
  (L:LI c σ l ns) (h0:0<ns.length) (hn:ns.length<2 ^ 20) (k:∀D,Q (.v (.ref D)) (σ.new D (intsP ns.dropLast))):GA d c (.sub (.loc j p) (.slc .nil (.una .USub (.num 1 p1) p2) q) r) Q σ:=
 GA_slc0 X (os:=[]) (x:=none) (y:=some (-1)) hj hl rfl rfl L hn (fun _ i=>pick_last i h0) k True.intro True.intro
inductive MulQ (c:Cx) (Q:AV→St→Prop):AV→AV→St→Prop
 |mk {l ns x σ}:LI c σ l ns→0≤x→x<2 ^ 20→ns.length≤1→(∀D,Q (.v (.ref D)) (σ.new D (intsP (List.replicate x.toNat ns).flatten)))→MulQ c Q (.v (.ref l)) (.i x) σ
theorem GA_mul {a b:Ex} {p:Pos} {Q:AV→St→Prop} (h:GA d c a (fun x σ=>GA d c b (MulQ c Q x) σ) σ):GA d c (.bin a .Mult b p) Q σ:=fun kp hp tk K=>
 wpAny_BinOp (h.run K fun v x h' σ' tk' hx K' q=>q.run K' fun w y h2 σ2 tk2 hy K2 q2=>by
  cases q2 with
  | @mk l ns x _ L h0 h1 hl q2=>
   obtain ⟨t,hy⟩:=AV.has_i hy
   rw[AV.has_v hx,hy]
   obtain ⟨vs,i1,i2⟩:=ok_li K2 L
   have hvl:=i2.length
   exact K2.open fun m bs F V B N=>W.KM.mul F N i1 i2 (by exact lin (.h 1 (.L (.c 0) Z0) (.G 1 (.L (.n (.c 9223372036854775808)) Z0))) rfl [] [_] h0) (by exact lin (.h 1 (.T Z0 (.c 1048576)) (.G 1 (.T Z0 (.c 9223372036854775808)))) rfl [] [_] h1) (Nat.le_trans (Nat.mul_le_mul (show vs.length≤1 by exact lin (.h 1 (.l Y1 (.c 1)) (.h 1 (.e Y0 Y1) (.G 1 (.l Y0 (.c 1))))) rfl [_,_] [] hl hvl) (show x.toNat≤2 ^ 20 by exact lin (.h 1 (.T Z0 (.c 1048576)) (.h 1 (.E Y0 Z0) (.G 1 (.l Y0 (.c 1048576))))) rfl [_] [_] h1 (Int.toNat_of_nonneg h0))) (by decide)) fun D h3 F3 N3 l hw _ _ _ _ _=>postR (K2.put V B F3 N3 l ⟨_,0,rfl,hw⟩) (q2 D))
theorem GA_and (X:Fx d c) {a b:Ex} {p:Pos} {os os1 os2:List Orc} {o1 o2:List Prop} {x y:Bool} {Q:AV→St→Prop} (ha:V d c σ a os=some (.v (.bool x),os1,o1)) (hb:V d c σ b os1=some (.v (.bool y),os2,o2)) (k:Q (.v (.bool (x && y))) σ) (ho1:All o1:=by exact True.intro) (ho2:x=true→All o2:=by exact fun _=>True.intro):
  GA d c (.bop .And (.cons a (.cons b .nil)) p) Q σ:=fun kp hp tk K=>by
 refine BoolOp_and ((ev_ok X a).v _ _ ha ho1 kp hp tk _ K fun v h' tk' hv K'=> ?_)
 rw[AV.has_v hv]
 refine wpAny_truthy_bool ?_
 cases x with
 |true=>exact BoolOp_one ((ev_ok X b).v _ _ hb (ho2 rfl) kp h' tk' _ K' fun w h2 tk2 hw K2=>AV.has_v hw▸postR K2 k)
 |false=>exact postR K' k
inductive IntQ (Q:AV→St→Prop):AV→St→Prop
 |mk {b:Bool} {σ}:Q (.i (if b then 1 else 0)) σ→IntQ Q (.v (.bool b)) σ
theorem GA_int (X:Fx d c) {q p:Pos} {a:Ex} {Q:AV→St→Prop} (hl:d.sc.names.lookup ("int":Str)=some .globalImplicit) (h:GA d c a (IntQ Q) σ):GA d c (.call (.gl "int" q) (.cons a .nil) p) Q σ:=
 call1 X (t:="int") hl (fun _=>rfl) rfl (by decide) (by decide) (by decide) (GA_mono h fun a σ' b v hv kp h' tk' K'=>by
  cases b with
  | @mk b _ q=>rw[AV.has_v hv];exact call_int_bool (postI K' q))
end
section
variable {d:Df} {c:Cx} {kp:Kp} {σ σ':St} {vs:List (Option AV)} {ab:ALed} {ex:Led}
theorem look_zip {x:Str} {v:Value} {nms:List Str}:∀{vs:List Value} {i:Nat},nms.Nodup→nth nms i=some x→nth vs i=some v→(nms.zip vs).reverse.lookup x=some v:=by
 have app:∀{a b:List (Str×Value)} {y:Str},(∀p∈a,p.1≠y)→(a++b).lookup y=b.lookup y:=by
  intro a b y
  induction a with
  |nil=>exact fun _=>rfl
  |cons p a ih=>exact fun h=>by rw[List.cons_append,List.lookup_cons,beq_eq_false_iff_ne.mpr (h p (.head _)).symm];exact ih fun p m=>h p (.tail _ m)
 have one:∀{a:List (Str×Value)} {y:Str} {z w:Value},a.lookup y=some w→(a++[(y,z)]).lookup y=some w:=by
  intro a y z w
  induction a with
  |nil=>exact fun h=>ns h
  |cons p a ih=>
   intro h
   rw[List.cons_append,List.lookup_cons] at*
   cases e:y==p.1 with
   |true=>rw[e] at h;exact h
   |false=>rw[e] at h;exact ih h
 have any:∀{a b:List (Str×Value)} {y:Str} {w:Value},a.lookup y=some w→(a++b).lookup y=some w:=by
  intro a b y w
  induction a with
  |nil=>exact fun h=>ns h
  |cons p a ih=>
   intro h
   rw[List.cons_append,List.lookup_cons] at*
   cases e:y==p.1 with
   |true=>rw[e] at h;exact h
   |false=>rw[e] at h;exact ih h
 induction nms with
 |nil=>exact fun _ h=>nth_nil h
 |cons n nms ih=>
  intro vs i hd hx hv
  obtain ⟨n1,n2⟩:=List.nodup_cons.mp hd
  cases vs with
  |nil=>exact nth_nil hv
  |cons w vs=>
   rw[List.zip_cons_cons,List.reverse_cons]
   cases i with
   |zero=>
    have hx:n=x:=Option.some.inj hx
    have hv:w=v:=Option.some.inj hv
    have ne:∀p∈(nms.zip vs).reverse,p.1≠x:=fun p hp e=>n1 (by rw[hx,←e];exact (List.of_mem_zip (List.mem_reverse.mp hp)).1)
    rw[app ne,hx,hv,List.lookup_cons,beq_self_eq_true]
   |succ i=>exact any (ih (vs:=vs) (i:=i) n2 hx hv)
theorem Hs.nth {as:List AV} {vs:List Value} (h:Hs as vs):∀{i:Nat} {a:AV},Mine.nth (as.map some) i=some (some a)→∃v,Mine.nth vs i=some v∧a.has v:=by
 induction as generalizing vs with
 |nil=>exact fun e=>nth_nil e
 |cons b as ih=>
  obtain ⟨v,r,e,hv,hr⟩:=h.cons
  intro i a
  rw[e]
  cases i with
  |zero=>exact fun e=>⟨v,rfl,Option.some.inj (Option.some.inj e)▸hv⟩
  |succ i=>exact fun e=>ih hr (i:=i) e
noncomputable def clsOf (fl:Flt):Option Addr:=match fl with
 | .decode=>some 208
 | .struct=>some 232
 |_=>none
structure Thr (d:Df) (c:Cx) (RE:Flt→St→Prop):Prop where
 on:∀(kp:Kp) (fl:Flt) (e:Addr) (G:Heap) (m:Str→Option Value) (bs:Led) (σ:St) (h':Heap) (tk':Nat),Fr c.g c.L G m→Bs σ.ab bs→Sh c kp σ→Thrown c.base G (c.env d::c.outer) fl e (bs++c.all kp σ) h'→G.UpToSlots h'→RE fl σ→c.E (.ref e) (c.at h' tk')
 made:∀(kp:Kp) (fl:Flt) (C e:Addr) (vs:List Value) (σ:St) (h h':Heap) (tk':Nat),clsOf fl=some C→Ok d c kp σ h→Heap.MadeExcOf h h' e (.ref C) vs→RE fl σ→c.E (.ref e) (c.at h' tk')
 new:∀(kp:Kp) (e:Addr) (σ:St) (h h':Heap) (tk':Nat),Ok d c kp σ h→Heap.NewExc h h' e "IndexError"→RE .index σ→c.E (.ref e) (c.at h' tk')
noncomputable abbrev keys (ab:ALed):List Addr:=ab.map (·.1)
noncomputable abbrev Kz (w:World) (k:Nat) (f:Addr) (vals:List Value) (ab0:ALed) (need:Heap→Led→Prop) (res:Value→Led→ALed→Prop) (err:Flt→Led→ALed→Prop):Prop:=
 ∀⦃p:Program⦄ ⦃loose:List Str⦄ ⦃mean:ExcName→Option Value⦄ ⦃mg mb:Str→Option Value⦄ ⦃dp un:Nat⦄ ⦃gd:Option (List Code)⦄ ⦃cn:Str⦄ ⦃cs:Scope⦄ ⦃a:Addr⦄ ⦃ccd:Value⦄ ⦃cl:List (Str×Addr)⦄ ⦃outer:List Env⦄ ⦃A₀:Around⦄ ⦃base h₀:Heap⦄ ⦃L:Addr⦄ ⦃m:Str→Option Value⦄ ⦃s:Shared⦄ ⦃Q E:Value→Shared→Prop⦄ ⦃news bs0:Led⦄,
  Below A₀ base outer h₀→Fr h₀ L s.heap m→(Mine.kf w.params).In h₀→News h₀ L s.heap (bs0++news)→Bs ab0 bs0→(keys ab0).Pairwise (·≠·)→(∀q∈ab0,∀p∈news,p.1≠q.1)→Top p loose mean mg mb h₀→cs.kind= .function→
  dp+k<recursionLimit→un+20*k+200<cLine→need base news→
  (∀v led ab1 bs1 h' tk',Fr h₀ L h' m→News h₀ L h' (bs1++(led++news))→Bs ab1 bs1→keys ab1=keys ab0→(∀q∈news,∀p∈led,q.1<p.1)→(∀q∈ab0,∀p∈led,p.1≠q.1)→res v led ab1→Q v {s with heap:=h',toks:=tk'})→
  (∀fl e G led ab1 bs1 h' tk',Fr h₀ L G m→Thrown base G (envX cn cs L a ccd cl::outer) fl e (bs1++(led++news)) h'→G.UpToSlots h'→Bs ab1 bs1→keys ab1=keys ab0→(∀q∈news,∀p∈led,q.1<p.1)→(∀q∈ab0,∀p∈led,p.1≠q.1)→err fl led ab1→E (.ref e) {s with heap:=h',toks:=tk'})→
  wpAny (model PR w) (ktrTop dp un gd cn cs L a ccd cl outer) (call (.ref f) vals) Q E s
noncomputable abbrev KZ (w:World) (k:Nat) (f:Addr) (as:List AV) (ab0:ALed) (need:Heap→Led→Prop) (res:Value→Led→ALed→Prop) (err:Flt→Led→ALed→Prop):Prop:=∀vals,Hs as vals→Kz w k f vals ab0 need res err
structure Told (ab0:ALed) (bs:Led) (σ:St) (led:Led) (ab1:ALed) (bs1:Led):Prop where
 b:Bs ab1 bs1
 k:keys ab1=keys ab0
 m:∀p∈bs1,p∈bs
 l:∀p∈led,p∈bs++σ.ex
 n:∀q∈ab0,∀p∈led,p.1≠q.1
noncomputable def FinZ (ab0:ALed) (res:Led→ALed→Prop) (σ:St):Prop:=∀bs,Bs σ.ab bs→(keys σ.ab).Pairwise (·≠·)→(∀q∈σ.ab,∀p∈σ.ex,p.1≠q.1)→∃led ab1 bs1,Told ab0 bs σ led ab1 bs1∧res led ab1
theorem Told.lt {ab0:ALed} {bs led:Led} {ab1:ALed} {bs1:Led} (t:Told ab0 bs σ led ab1 bs1) (B:Bs σ.ab bs) (S:Sh c kp σ) (hx:∀a,c.xs a→a∈keys ab0):∀q∈c.news,∀p∈led,q.1<p.1:=fun q hq p hp=>
 mem_app (P:=fun p=>(∀q∈ab0,p.1≠q.1)→q.1<p.1) (fun p h hn=>Exists.elim (B.mem p h) fun _ hP=>(S.oa _ hP.1).elim (fun x=>Exists.elim (List.mem_map.mp (hx _ x)) fun q h=>absurd h.2.symm (hn q h.1)) fun h=>h q hq) (fun p h _=>S.oe p h q hq) p (t.l p hp) fun q hq=>t.n q hq p hp
theorem Told.sub {ab0:ALed} {bs led news:Led} {ab1:ALed} {bs1:Led} (t:Told ab0 bs σ led ab1 bs1):∀p∈bs1++(led++news),p∈bs++(σ.ex++news):=
 mem_app (fun p h=>mL _ (t.m p h)) (mem_app (fun p h=>(List.mem_append.mp (t.l p h)).elim (fun h=>mL _ h) fun h=>mR _ (mL _ h)) fun _ h=>mR _ (mR _ h))
theorem Hs.app {as bs:List AV} {vs ws:List Value} (h:Hs as vs) (k:Hs bs ws):Hs (as++bs) (vs++ws):=by
 induction h with
 |nil=>exact k
 |i _ ih=>exact .i ih
 |s _ ih=>exact .s ih
 |v _ ih=>exact .v ih
 |b _ ih=>exact .b ih
theorem KZ_enterD {w:World} {k:Nat} {as das:List AV} {dv:List Value} {ab0:ALed} {need:Heap→Led→Prop} {res:Value→Led→ALed→Prop} {err:Flt→Led→ALed→Prop} {body:Sx} {name:Str} {params:Arguments} {dV kV doc pm ct oc:Value} {an od:Option Addr} {osl:Array (Option Value)} (hd:d.Ok)
  (ho:∀P,(Mine.kf P).lookup d.f=some ⟨oc,od,.func (fnOf name d.qual params (su d.names body).2 d.sc dV kV doc pm an d.cd ct),osl⟩)
  (hcd:∀P,codeIn (Mine.kf P) d.cd d.qual=true)
  (hb:∀s vs,(Mine.kf w.params).In s.heap→vs.length=as.length→BindsTo s (fnOf name d.qual params (su d.names body).2 d.sc dV kV doc pm an d.cd ct) ⟨vs,[]⟩ (d.names.zip (vs++dv))) (hdv:Hs das dv)
  (hco:d.sc.isCoroutine=false) (hgen:d.sc.isGenerator=false) (hcell:∀x∈d.sc.names,x.2≠.cell) (hk0:0<k)
  (walk:∀c,Fx d c→c.w=w→c.xs=(·∈keys ab0)→Rm c k→need c.base c.news→Thr d c (fun fl σ=>FinZ ab0 (err fl) σ)→H d c body (fun f σ=>FinZ ab0 (res (flv f)) σ) ⟨(as++das).map some,ab0,[]⟩):KZ w k d.f as ab0 need res err:=by
 intro vals hvs p loose mean mg mb dp un gd cn cs a ccd cl outer A₀ base h₀ L m s Q E news bs0 B F X N B0 nd0 ap0 T hk hdp hun hn ret exc
 have rm1:dp+1+k≤recursionLimit∧un+3+20*k+197<cLine∧dp<recursionLimit:=by
  revert hdp hun
  generalize recursionLimit=rl
  generalize cLine=cl
  exact fun hdp hun=>⟨lin (.h 1 (.t (.a Y0 Y1) Y2) (.G 1 (.l (.a (.a Y0 (.c 1)) Y1) Y2))) rfl [dp,k,rl] [] hdp,lin (.h 1 (.t (.a (.a Y0 (.r 20 Y1)) (.c 200)) Y2) (.G 1 (.t (.a (.a (.a Y0 (.c 3)) (.r 20 Y1)) (.c 197)) Y2))) rfl [un,k,cl] [] hun,lin (.h 1 (.t (.a Y0 Y1) Y2) (.G 1 (.t Y0 Y2))) rfl [dp,k,rl] [] hdp⟩
 refine wpAny_call (code_def (binds:=d.names.zip (vals++dv)) B F X N T rfl rfl hk (ho _) (hcd _) rm1.2.2 (hb _ _ (X.keeps F.keep) hvs.length.symm) (fun y hy=>(hd.loc y.1 (List.of_mem_zip hy).1).1) (fun g L' h₁ FG F' N' B' X' T'=> ?_) hco hgen hd.kind hcell)
 let ek:Value→Shared→Prop:=fun e s'=>wpAny (model PR w) ((ktrTop dp un gd cn cs L a ccd cl outer).deeper (envOf d.qual d.sc L' d.f d.cd)) (leaving (envOf d.qual d.sc L' d.f d.cd) e) (fun _ s''=>E e s'') (fun e' s''=>E e' s'') s'
 let c:Cx:=⟨w,p,loose,mean,mg,mb,dp+1,un+3,gd,envX cn cs L a ccd cl::outer,L',ktrTop dp un gd cn cs L a ccd cl outer,base,g,s,ek,news,(·∈keys ab0)⟩
 have S:Sh c ⟨[],[]⟩ ⟨(as++das).map some,ab0,[]⟩:=⟨nd0,ap0,no_mem,no_mem,fun p hp=> .inl (List.mem_map.mpr ⟨p,hp,rfl⟩)⟩
 have K:Ok d c ⟨[],[]⟩ ⟨(as++das).map some,ab0,[]⟩ h₁:=S.ok F' (fun i x a hi ha=>Exists.elim ((hvs.app hdv).nth ha) fun v hv=>⟨v,look_zip hd.nd hi hv.1,hv.2⟩) B0 N'
 have apx:∀{kp σ},Sh c kp σ→∀q∈σ.ab,∀p∈σ.ex,p.1≠q.1:=fun S q hq p hp=>S.ap q hq p (mL _ hp)
 have up:∀{kp σ fl e bs h' tk'},Bs σ.ab bs→Sh c kp σ→Thrown base g (envX cn cs L a ccd cl::outer) fl e (bs++c.all kp σ) h'→g.UpToSlots h'→FinZ ab0 (err fl) σ→E (.ref e) {s with heap:=h',toks:=tk'}:=fun {kp σ fl e bs h' tk'} B2 S2 R U q=>by
  obtain ⟨led,ab1,bs1,t,hr⟩:=q bs B2 S2.nd (apx S2)
  exact exc fl e g led ab1 bs1 h' tk' FG (R.sub fun p hp=>(List.mem_append.mp (t.sub p hp)).elim (fun h=>mL _ h) fun h=>mR _ (mem3 h)) U t.b t.k (t.lt B2 S2 fun _ h=>h) t.n hr
 have th:Thr d c (fun fl σ=>FinZ ab0 (err fl) σ):={
  on:=fun kp fl e G m' bs σ h' tk' FG' B2 S2 R U q=>leave_thrown B' FG' rfl R U fun h9 R9 U9=>up B2 S2 R9 U9 q
  made:=fun kp fl C e vs σ h h' tk' hC K2 hx q=>K2.open fun m2 bs F2 V2 B2 N2=>leave_madeE B' hx F2 N2 rfl hd.kind fun h9 t R9 U9=>by
   cases fl with
   |decode=>cases hC;exact up (fl:= .decode) B2 K2.sh ⟨t,vs,R9⟩ U9 q
   |struct=>cases hC;exact up (fl:= .struct) B2 K2.sh ⟨t,vs,R9⟩ U9 q
   |_=>exact ns hC
  new:=fun kp e σ h h' tk' K2 hx q=>K2.open fun m2 bs F2 V2 B2 N2=>leave_newE B' hx F2 N2 rfl hd.kind fun h9 R9 U9=>up (fl:= .index) B2 K2.sh R9 U9 q}
 refine G.run (walk c ⟨hd,B',X',T',PassesOwn.leaving⟩ rfl rfl ⟨rm1.1,rm1.2.1⟩ hn th) K fun f h' σ' tk' K' q=>K'.open fun m' bs F2 V2 B2 N2=> ?_
 obtain ⟨led,ab1,bs1,t,hr⟩:=q bs B2 K'.nd (apx K'.sh)
 exact leaveK_ F2 N2 fun kF kN=>ret (flv f) led ab1 bs1 h' tk' kF (fun p hp=>kN p (t.sub p hp)) t.b t.k (t.lt B2 K'.sh fun _ h=>h) t.n hr
theorem KZ_enter {w:World} {k:Nat} {as:List AV} {ab0:ALed} {need:Heap→Led→Prop} {res:Value→Led→ALed→Prop} {err:Flt→Led→ALed→Prop} {body:Sx} {name:Str} {params:Arguments} {dV kV doc pm ct oc:Value} {an od:Option Addr} {osl:Array (Option Value)} (hd:d.Ok)
  (ho:∀P,(Mine.kf P).lookup d.f=some ⟨oc,od,.func (fnOf name d.qual params (su d.names body).2 d.sc dV kV doc pm an d.cd ct),osl⟩)
  (hcd:∀P,codeIn (Mine.kf P) d.cd d.qual=true)
  (hb:∀s vs,vs.length=as.length→BindsTo s (fnOf name d.qual params (su d.names body).2 d.sc dV kV doc pm an d.cd ct) ⟨vs,[]⟩ (d.names.zip vs))
  (hco:d.sc.isCoroutine=false) (hgen:d.sc.isGenerator=false) (hcell:∀x∈d.sc.names,x.2≠.cell) (hk0:0<k)
  (walk:∀c,Fx d c→c.w=w→c.xs=(·∈keys ab0)→Rm c k→need c.base c.news→Thr d c (fun fl σ=>FinZ ab0 (err fl) σ)→H d c body (fun f σ=>FinZ ab0 (res (flv f)) σ) ⟨as.map some,ab0,[]⟩):KZ w k d.f as ab0 need res err:=
 KZ_enterD (dv:=[]) hd ho hcd (fun s vs _ e=>(List.append_nil vs).symm▸hb s vs e) .nil hco hgen hcell hk0 ((List.append_nil as).symm▸walk)
theorem keys_nil {ab:ALed} (h:keys ab=keys []):ab=[]:=List.map_eq_nil_iff.mp h
theorem bs_nil {bs:Led} (h:Bs [] bs):bs=[]:=by cases h;rfl
theorem FinZ.of {res:Value→Led→Prop} {f:Flow} (h:Fin res f σ):FinZ [] (fun led _=>res (flv f) led) σ:=fun bs B _ _=>Exists.elim (h bs B) fun led h=>⟨led,[],[],⟨.nil,rfl,allP,h.2,allP⟩,h.1⟩
theorem KA_enter {w:World} {k:Nat} {as:List AV} {need:Led→Prop} {res:Value→Led→Prop} {body:Sx} {name:Str} {params:Arguments} {dV kV doc pm ct oc:Value} {an od:Option Addr} {osl:Array (Option Value)} (hd:d.Ok)
  (ho:∀P,(Mine.kf P).lookup d.f=some ⟨oc,od,.func (fnOf name d.qual params (su d.names body).2 d.sc dV kV doc pm an d.cd ct),osl⟩)
  (hcd:∀P,codeIn (Mine.kf P) d.cd d.qual=true)
  (hb:∀s vs,vs.length=as.length→BindsTo s (fnOf name d.qual params (su d.names body).2 d.sc dV kV doc pm an d.cd ct) ⟨vs,[]⟩ (d.names.zip vs))
  (hco:d.sc.isCoroutine=false) (hgen:d.sc.isGenerator=false) (hcell:∀x∈d.sc.names,x.2≠.cell) (hk0:0<k)
  (walk:∀c,Fx d c→c.w=w→c.xs=(fun _=>False)→Rm c k→need c.news→H d c body (Fin res) ⟨as.map some,[],[]⟩):KA w k d.f as need res:=by
 intro vals hvs p loose mean mg mb dp un gd cn cs a ccd cl outer A₀ base h₀ L m s Q E news B F X N T hk hdp hun hn ret
 exact KZ_enter (ab0:=[]) (need:=fun _=>need) (res:=fun v led _=>res v led) (err:=fun _ _ _=>False) hd ho hcd hb hco hgen hcell hk0 (fun c fx hw hx rm hn _=>H_mono (walk c fx hw (hx.trans (funext fun _=>propext ⟨fun h=>absurd h List.not_mem_nil,False.elim⟩)) rm hn) fun f σ h=> .of h)
  vals hvs B F X (bs0:=[]) N .nil .nil allP T hk hdp hun hn (fun v led ab1 bs1 h' tk' F' N' b e lt _ hr=>ret v led h' tk' F' (by rw[keys_nil e] at b;rw[bs_nil b] at N';exact N') hr lt) fun _ _ _ _ _ _ _ _ _ _ _ _ _ _ _ h=>h.elim
noncomputable abbrev KX (w:World) (k:Nat) (f:Addr) (as:List AV) (lw:Addr) (ws:List Int) (res:Value→Led→ALed→Prop):Prop:=KZ w k f as [(lw,intsP ws)] (fun _ _=>True) res fun _ _ _=>False
inductive LwR (lw:Addr) (P:List Int→List Int→Prop):Value→Led→ALed→Prop
 |mk {l vs k bs ws'}:IntsAre vs bs→P bs ws'→LwR lw P (.ref l) [(l,listOf vs.toArray k)] [(lw,intsP ws')]
noncomputable abbrev FinX (lw:Addr) (ws:List Int) (res:Value→Led→ALed→Prop) (f:Flow) (σ:St):Prop:=FinZ [(lw,intsP ws)] (res (flv f)) σ
theorem finX_list {lw D:Addr} {ws bs ws':List Int} {P:List Int→List Int→Prop} (hw:(lw,intsP ws')∈σ.ab) (h:P bs ws'):FinX lw ws (LwR lw P) (.ret (.ref D)) (σ.new D (intsP bs)):=fun b B nd _=>by
 obtain ⟨o,k,e,⟨vs,n,eo,hi⟩,B'⟩:=bs_cons B
 obtain ⟨o2,h1,hw2⟩:=B'.get _ hw
 refine ⟨[(D,listOf vs.toArray n)],[(lw,intsP ws')],[(lw,o2)],⟨.cons hw2 .nil,rfl,fun p hp=> ?_,fun p hp=> ?_,fun q hq p hp=> ?_⟩,.mk hi h⟩
 ·rw[List.mem_singleton.mp hp,e];exact .tail _ h1
 ·rw[List.mem_singleton.mp hp,e,eo];exact .head _
 ·rw[List.mem_singleton.mp hq,List.mem_singleton.mp hp]
  exact (List.pairwise_cons.mp nd).1 _ (List.mem_map.mpr ⟨_,hw,rfl⟩)
end
section
variable {d:Df} {c:Cx} {kp:Kp} {σ σ':St} {vs:List (Option AV)} {ab:ALed} {ex:Led}
noncomputable def tk:List Bool→ALed→ALed
 |[],_=>[]
 |_::_,[]=>[]
 |b::ms,q::l=>bif b then q::tk ms l else tk ms l
noncomputable def rs:List Bool→ALed→ALed
 |[],l=>l
 |_::_,[]=>[]
 |b::ms,q::l=>bif b then rs ms l else q::rs ms l
noncomputable def pt:List Bool→ALed→ALed→ALed
 |[],_,l=>l
 |_::_,_,[]=>[]
 |b::ms,n,q::l=>bif b then (match n with|[]=>q::l|x::n=>x::pt ms n l) else q::pt ms n l
theorem lend {l:ALed}:∀(ms:List Bool) {bs:Led},Bs l bs→(keys l).Pairwise (·≠·)→∃bs0 rest,Bs (tk ms l) bs0∧Bs (rs ms l) rest∧(∀p∈bs0++rest,p∈bs)∧(keys (tk ms l)).Pairwise (·≠·)∧(∀q∈tk ms l,q∈l)∧(∀q∈tk ms l,∀p∈rest,p.1≠q.1)∧
  ∀n bs1,keys n=keys (tk ms l)→Bs n bs1→keys (pt ms n l)=keys l∧∃bs',Bs (pt ms n l) bs'∧∀p∈bs',p∈bs1++rest:=by
 induction l with
 |nil=>
  intro ms bs B _
  rw[bs_nil B]
  cases ms<;>exact ⟨[],[],.nil,.nil,allP,.nil,allP,allP,fun n bs1 e b=>⟨rfl,[],.nil,allP⟩⟩
 |cons q l ih=>
  intro ms bs B nd
  obtain ⟨o,k,e,h,B2⟩:=bs_cons (P:=q.2) B
  obtain ⟨n1,n2⟩:=List.pairwise_cons.mp nd
  have nq:∀p∈k,p.1≠q.1:=fun p hp e=>Exists.elim (B2.mem p hp) fun R hR=>n1 _ (List.mem_map.mpr ⟨_,hR.1,rfl⟩) e.symm
  cases ms with
  |nil=>exact ⟨[],bs,.nil,B,fun p h=>h,.nil,allP,allP,fun n bs1 _ _=>⟨rfl,bs,B,fun p h=>mR _ h⟩⟩
  |cons b ms=>
   obtain ⟨bs0,rest,i1,i2,i3,i4,i5,i6,i7⟩:=ih ms B2 n2
   cases b with
   |true=>
    refine ⟨(q.1,o)::bs0,rest,.cons h i1,i2,?_,List.Pairwise.cons (fun a ha=>n1 a ?_) i4,fC ⟨.head _,fun p h=> .tail _ (i5 p h)⟩,fC ⟨fun p hp=>nq p (i3 p (mR _ hp)),i6⟩,fun n bs1 e1 b=> ?_⟩
    ·exact fC ⟨e▸.head _,fun p h=>e▸.tail _ (i3 p h)⟩
    ·exact Exists.elim (List.mem_map.mp ha) fun x hx=>List.mem_map.mpr ⟨x,i5 x hx.1,hx.2⟩
    ·cases n with
     |nil=>exact absurd (congrArg List.length e1) (Nat.succ_ne_zero _).symm
     |cons x n=>
      obtain ⟨ox,kx,ex,hx,bx⟩:=bs_cons (P:=x.2) b
      obtain ⟨e2,e3⟩:=List.cons.inj e1
      obtain ⟨j1,bs',j2,j3⟩:=i7 n kx e3 bx
      exact ⟨show x.1::keys (pt ms n l)=q.1::keys l from congr (congrArg List.cons (show x.1=q.1 from e2)) j1,(x.1,ox)::bs',.cons hx j2,fC ⟨ex▸.head _,fun p hp=>ex▸.tail _ (j3 p hp)⟩⟩
   |false=>
    refine ⟨bs0,(q.1,o)::rest,i1,.cons h i2,mem_app (fun p h=>e▸.tail _ (i3 p (mL _ h))) (fC ⟨e▸.head _,fun p h=>e▸.tail _ (i3 p (mR _ h))⟩),i4,fun p h=> .tail _ (i5 p h),fun r hr=>fC ⟨fun e=>n1 _ (List.mem_map.mpr ⟨r,i5 r hr,rfl⟩) e,i6 r hr⟩,fun n bs1 e1 b=> ?_⟩
    obtain ⟨j1,bs',j2,j3⟩:=i7 n bs1 e1 b
    exact ⟨congrArg (q.1::·) j1,(q.1,o)::bs',.cons h j2,fC ⟨mR _ (.head _),fun p hp=>(List.mem_append.mp (j3 p hp)).elim (fun h=>mL _ h) fun h=>mR _ (.tail _ h)⟩⟩
noncomputable abbrev St.aft (σ:St) (ms:List Bool) (ab1:ALed) (led:Led):St:=⟨σ.vs,pt ms ab1 σ.ab,led++σ.ex⟩
theorem thr0:Thr d c fun _ _=>False:=⟨fun _ _ _ _ _ _ _ _ _ _ _ _ _ _ h=>h.elim,fun _ _ _ _ _ _ _ _ _ _ _ _ h=>h.elim,fun _ _ _ _ _ _ _ _ h=>h.elim⟩
noncomputable abbrev KzW (d:Df) (c:Cx) (W:(Value→Shared→Prop)→(Value→Shared→Prop)→Shared→Prop) (ab0:ALed) (need:Heap→Led→Prop) (res:Value→Led→ALed→Prop) (err:Flt→Led→ALed→Prop):Prop:=
 ∀⦃m:Str→Option Value⦄ ⦃s:Shared⦄ ⦃Q E:Value→Shared→Prop⦄ ⦃news bs0:Led⦄,Fr c.g c.L s.heap m→News c.g c.L s.heap (bs0++news)→Bs ab0 bs0→(keys ab0).Pairwise (·≠·)→(∀q∈ab0,∀p∈news,p.1≠q.1)→need c.base news→
  (∀v led ab1 bs1 h' tk',Fr c.g c.L h' m→News c.g c.L h' (bs1++(led++news))→Bs ab1 bs1→keys ab1=keys ab0→(∀q∈news,∀p∈led,q.1<p.1)→(∀q∈ab0,∀p∈led,p.1≠q.1)→res v led ab1→Q v {s with heap:=h',toks:=tk'})→
  (∀fl e G led ab1 bs1 h' tk',Fr c.g c.L G m→Thrown c.base G (c.env d::c.outer) fl e (bs1++(led++news)) h'→G.UpToSlots h'→Bs ab1 bs1→keys ab1=keys ab0→(∀q∈news,∀p∈led,q.1<p.1)→(∀q∈ab0,∀p∈led,p.1≠q.1)→err fl led ab1→E (.ref e) {s with heap:=h',toks:=tk'})→
  W Q E s
noncomputable abbrev KzF (d:Df) (c:Cx) (x:Sem Value) (ab0:ALed) (need:Heap→Led→Prop) (res:Value→Led→ALed→Prop) (err:Flt→Led→ALed→Prop):Prop:=KzW d c (fun Q E s=>wpAny (model PR c.w) (c.A d) x Q E s) ab0 need res err
theorem Kz.at (X:Fx d c) {k K:Nat} {f:Addr} {vals:List Value} {ab0:ALed} {need:Heap→Led→Prop} {res:Value→Led→ALed→Prop} {err:Flt→Led→ALed→Prop} (C:Kz c.w k f vals ab0 need res err) (rm:Rm c K) (hk:k<K):KzF d c (call (.ref f) vals) ab0 need res err:=
 fun _ _ _ _ _ _ F N B nd ap hn ret exc=>C X.below F X.inn N B nd ap X.top X.ok.kind (rm.call hk).1 (rm.call hk).2 hn ret exc
theorem G_kzW (ms:List Bool) {W:(Value→Shared→Prop)→(Value→Shared→Prop)→Shared→Prop} {need:Heap→Led→Prop} {res:Value→Led→ALed→Prop} {err:Flt→Led→ALed→Prop} {RE:Flt→St→Prop} {Q:Value→St→Prop} (C:KzW d c W (tk ms σ.ab) need res err) (TH:Thr d c RE)
  (hn:∀bs (kp:Kp),Bs (rs ms σ.ab) bs→need c.base (bs++c.all kp σ)) (ret:∀v led ab1,(∀q∈σ.ex,∀p∈led,q.1<p.1)→res v led ab1→Q v (σ.aft ms ab1 led)) (exc:∀fl led ab1,err fl led ab1→RE fl (σ.aft ms ab1 led)) {h:Heap} {t:Nat} (K:Ok d c kp σ h):W (Post d c kp Q) c.E (c.at h t):=
 K.open fun m bs F V B N=>by
  obtain ⟨bs0,rest,i1,i2,i3,i4,i5,i6,i7⟩:=lend ms B K.nd
  have sub:∀p∈bs0++(rest++c.all kp σ),p∈bs++c.all kp σ:=mem_app (fun p h=>mL _ (i3 p (mL _ h))) (mem_app (fun p h=>mL _ (i3 p (mR _ h))) fun p h=>mR _ h)
  have ap:∀q∈tk ms σ.ab,∀p∈rest++c.all kp σ,p.1≠q.1:=fun q hq=>mem_app (i6 q hq) (K.ap q (i5 q hq))
  have ne:∀{led:Led},(∀q∈rest++c.all kp σ,∀p∈led,q.1<p.1)→(∀q∈tk ms σ.ab,∀p∈led,p.1≠q.1)→∀n bs1,keys n=keys (tk ms σ.ab)→Bs n bs1→∀bs',Bs (pt ms n σ.ab) bs'→(∀p∈bs',p∈bs1++rest)→∀q∈pt ms n σ.ab,∀p∈led,p.1≠q.1:=fun {led} lt nl n bs1 e b bs' b' sb q hq p hp=>by
   obtain ⟨o,h1,_⟩:=b'.get q hq
   rcases List.mem_append.mp (sb _ h1) with h|h
   ·obtain ⟨R,hR,_⟩:=b.mem _ h
    exact keys_back (l:=tk ms σ.ab) (P:=fun a=>p.1≠a) e (fun q hq=>nl q hq p hp) (q.1,R) hR
   ·exact Nat.ne_of_gt (lt _ (mL _ h) p hp)
  refine C F (fun p hp=>N p (sub p hp)) i1 i4 ap (hn rest kp i2) (fun v led ab1 bs1 h' tk' F' N' b e lt nl hr=> ?_) fun fl e G led ab1 bs1 h' tk' FG R U b e1 lt nl hr=> ?_
  ·obtain ⟨j1,bs',j2,j3⟩:=i7 ab1 bs1 e b
   have K2:Ok d c kp ⟨σ.vs,pt ms ab1 σ.ab,σ.ex⟩ h':=(K.sh.keys j1).ok F' V j2 (mem_app (fun p h=>N' p ((List.mem_append.mp (j3 p h)).elim (fun h=>mL _ h) fun h=>mR _ (mR _ (mL _ h)))) fun p h=>N' p (mR _ (mR _ (mR _ h))))
   exact post (K2.add V j2 F' (mem_app (fun p h=>N' p (mR _ (mL _ h))) (mem_app (fun p h=>N' p ((List.mem_append.mp (j3 p h)).elim (fun h=>mL _ h) fun h=>mR _ (mR _ (mL _ h)))) fun p h=>N' p (mR _ (mR _ (mR _ h))))) (ne lt nl ab1 bs1 e b bs' j2 j3) fun q hq=>lt q (mR _ hq)) (ret v led ab1 (fun q hq=>lt q (mR _ (mL _ hq))) hr)
  ·obtain ⟨j1,bs',j2,j3⟩:=i7 ab1 bs1 e1 b
   have S1:=K.sh.keys j1
   have S2:Sh c kp (σ.aft ms ab1 led):=⟨S1.nd,fun q hq p hp=>(List.mem_append.mp (show p∈(led++σ.ex)++_ from hp)).elim (fun h=>(List.mem_append.mp h).elim (ne lt nl ab1 bs1 e1 b bs' j2 j3 q hq p) fun h=>S1.ap q hq p (mL _ h)) fun h=>S1.ap q hq p (mR _ h),
    mem_app (fun p hp q hq=>lt q (mR _ (mR _ (mR _ hq))) p hp) K.oe,mem_app (fun p hp q hq=>Nat.ne_of_gt (lt q (mR _ (mR _ (mL _ (mL _ hq)))) p hp)) K.ek,S1.oa⟩
   exact TH.on kp fl e G m bs' (σ.aft ms ab1 led) h' tk' FG j2 S2 (R.sub (mem_app (fun p h=>(List.mem_append.mp (j3 p h)).elim (fun h=>mL _ h) fun h=>mR _ (mR _ (mL _ h))) (mem_app (mem_app (fun p h=>mR _ (mL _ h)) fun p h=>mR _ (mR _ (mR _ (mL _ h)))) fun p h=>mR _ (mR _ (mR _ (mR _ h)))))) U (exc fl led ab1 hr)
theorem G_kzF (ms:List Bool) {x:Sem Value} {need:Heap→Led→Prop} {res:Value→Led→ALed→Prop} {err:Flt→Led→ALed→Prop} {RE:Flt→St→Prop} {Q:Value→St→Prop} (C:KzF d c x (tk ms σ.ab) need res err) (TH:Thr d c RE)
  (hn:∀bs (kp:Kp),Bs (rs ms σ.ab) bs→need c.base (bs++c.all kp σ)) (ret:∀v led ab1,(∀q∈σ.ex,∀p∈led,q.1<p.1)→res v led ab1→Q v (σ.aft ms ab1 led)) (exc:∀fl led ab1,err fl led ab1→RE fl (σ.aft ms ab1 led)):G d c x Q σ:=fun _ _ _ K=>G_kzW ms C TH hn ret exc K
theorem G_kz (X:Fx d c) (ms:List Bool) {k K:Nat} {f:Addr} {vals:List Value} {need:Heap→Led→Prop} {res:Value→Led→ALed→Prop} {err:Flt→Led→ALed→Prop} {RE:Flt→St→Prop} {Q:Value→St→Prop} (C:Kz c.w k f vals (tk ms σ.ab) need res err) (TH:Thr d c RE) (rm:Rm c K) (hk:k<K)
  (hn:∀bs (kp:Kp),Bs (rs ms σ.ab) bs→need c.base (bs++c.all kp σ)) (ret:∀v led ab1,res v led ab1→Q v (σ.aft ms ab1 led)) (exc:∀fl led ab1,err fl led ab1→RE fl (σ.aft ms ab1 led)):G d c (call (.ref f) vals) Q σ:=
 G_kzF ms (C.at X rm hk) TH hn (fun v led ab1 _=>ret v led ab1) exc
theorem GA_kz (X:Fx d c) (ms:List Bool) {x:Str} {q p:Pos} {a as:Ex} {k K:Nat} {f:Addr} {xs:List AV} {os os':List Orc} {ob:List Prop} {need:Heap→Led→Prop} {res:Value→Led→ALed→Prop} {err:Flt→Led→ALed→Prop} {RE:Flt→St→Prop} {Q:AV→St→Prop} (hg:Gv d x f) (hv:Vl d c σ (.cons a as) os=some (xs,os',ob)) (C:KZ c.w k f xs (tk ms σ.ab) need res err) (TH:Thr d c RE) (rm:Rm c K) (hk:k<K)
  (hn:∀bs (kp:Kp),Bs (rs ms σ.ab) bs→need c.base (bs++c.all kp σ)) (ret:∀v led ab1,res v led ab1→Q (.v v) (σ.aft ms ab1 led)) (exc:∀fl led ab1,err fl led ab1→RE fl (σ.aft ms ab1 led)) (ho:All ob:=by exact True.intro)
  (h2:∀p,(backTo p (starEach (ux d.names as).2 (c.env d))).any (·.1)=false:=by exact fun _=>rfl):GA d c (.call (.gl x q) (.cons a as) p) Q σ:=
 GA_call X hg (GL_p X hv (fun vs hvs=>G_kz X ms (C vs hvs) TH rm hk hn (fun v led ab1 hr=>⟨.v v,rfl,ret v led ab1 hr⟩) exc) ho) h2
theorem GA_kx (X:Fx d c) (ms:List Bool) {x:Str} {q p:Pos} {a as:Ex} {k K:Nat} {f lw:Addr} {ws:List Int} {xs:List AV} {os os':List Orc} {ob:List Prop} {P:List Int→List Int→Prop} {Q:AV→St→Prop} (hg:Gv d x f) (hv:Vl d c σ (.cons a as) os=some (xs,os',ob))
  (C:KX c.w k f xs lw ws (LwR lw P)) (rm:Rm c K) (hk:k<K) (hu:tk ms σ.ab=[(lw,intsP ws)]) (ret:∀D vs k bs ws',P bs ws'→IntsAre vs bs→Q (.v (.ref D)) (σ.aft ms [(lw,intsP ws')] [(D,listOf vs.toArray k)])) (ho:All ob:=by exact True.intro)
  (h2:∀p,(backTo p (starEach (ux d.names as).2 (c.env d))).any (·.1)=false:=by exact fun _=>rfl):GA d c (.call (.gl x q) (.cons a as) p) Q σ:=
 GA_kz X ms (res:=LwR lw P) (need:=fun _ _=>True) (err:=fun _ _ _=>False) hg hv (hu▸C) thr0 rm hk (fun _ _ _=>trivial) (fun v led ab1 hr=>by cases hr with|mk hi hP=>exact ret _ _ _ _ _ hP hi) (fun _ _ _ h=>h) ho h2
theorem GA_pop (X:Fx d c) {i:Nat} {n:Str} {l:Addr} {ns:List Int} {q r p:Pos} {ab':ALed} {Q:AV→St→Prop} (hi:nth d.names i=some n) (hl:nth σ.vs i=some (some (.v (.ref l)))) (hu:UpA l (intsP ns) (intsP ns.dropLast) σ.ab ab') (h0:0<ns.length) (hn:ns.length<2 ^ 20) (k:Q (.i (ns.getLastD 0)) ⟨σ.vs,ab',σ.ex⟩)
  (hr:(r.endLine==p.line)=true:=by rfl):GA d c (.meth (.loc i q) "pop" r .nil p) Q σ:=fun kp hp tk K=>K.open fun m bs F V B N=>by
 obtain ⟨o,h1,⟨us,k0,eo,hi'⟩,h3,h4⟩:=upA hu B K.nd
 subst eo
 refine MethodCall_ (readL X K hi hl fun v hv=> ?_) (meth_eq (x:=nm d.names i) (as:=[]) rfl hr)
 rw[AV.has_v hv]
 refine kl_method (s:=c.at hp tk) (id:="list.pop") N (mL _ h1) PySem.F.slot_list_pop PySem.F.type_list_pop (callWith_method0 ?_)
 obtain ⟨R,hR,_⟩:=B.mem _ h1
 obtain ⟨bs',hb,hu'⟩:=h4 (listOf us.dropLast.toArray (k0+1)) _ ⟨_,_,rfl,ints_dropLast hi'⟩ (K.ap _ hR)
 have hlen:=hi'.length
 exact kpa_pop F N hu' hi' (hlen.symm▸h0) (Nat.le_trans (Nat.le_of_lt (show us.length<2 ^ 20 from hlen.symm▸hn)) (show 2 ^ 20≤sizeLine by decide)) fun h2 t F2 N2 _=>postI ((K.sh.keys h3).ok F2 V hb N2) k
end
section
variable {d:Df} {c:Cx} {kp:Kp} {σ σ':St}
theorem for_list {S:Type} (X:Fx d c) (Iv:Nat→S→St) (P:Nat→S→Prop) (y₀:S) {target:PySem.Expr} {l:Addr} {vs:List Value} {n:Nat} {body rest:Sx} {Q:Flow→St→Prop} {h:Heap} {tk:Nat} (ht:(∃x q,target= .Name x q)∨∃es k q,target= .Tuple es k q) (K:Ok d c kp (Iv 0 y₀) h) (hp:P 0 y₀) (hn:vs.length=n) (hl:h.IsList l vs.toArray) (hlL:l≠c.L) (hab:∀p∈(Iv 0 y₀).ab,p.1≠l)
  (turn:∀i v y,i<n→vs[i]? =some v→P i y→G d c (assign target (c.env d) v) (fun _ σ=>H d c body (lf d c (Iv (i+1)) (P (i+1)) rest Q) σ) (Iv i y))
  (done:∀y,P n y→H d c rest Q (Iv n y)):wpAny (model PR c.w) (c.A d) (pyIter (.ref l)) (fun it s₂=>TurnsAt PR c.w (c.A d) c.g (c.env d) target (su d.names body).2 (Post d c kp (sq d c rest Q)) c.E it s₂) c.E (c.at h tk):=by
 obtain ⟨ol,hol,hr⟩:=hl
 refine wpAny_pyIter_list ⟨ol,hol,hr⟩ ?_
 obtain ⟨l1,l2,l3,l4⟩:=K.lt
 have W:=Walks.list (prog:=PR) (w:=c.w) (A:=c.A d) rfl h.objs.size l (Nat.ne_of_lt (Heap.lt_size hol)) vs.toArray
 rw[show vs.toArray.size=n from hn] at W
 have main:∀{Md},KTurns PR c.w (c.A d) target h.objs.size [h.objs.size,l] [h.objs.size] n (fun i v _=>vs.toArray[i]? =some v) Md (fun i h'=>h'.IsListIter h.objs.size l i∧h'.IsList l vs.toArray)→TurnsAt PR c.w (c.A d) c.g (c.env d) target (su d.names body).2 (Post d c kp (sq d c rest Q)) c.E (.ref h.objs.size) (c.at (h.push {cls:= .type "list_iterator",data:= .fields #[.ref l,.int 0 0]}) tk):=fun T=>by
  refine for_coreT (tk:=tk) X T Iv P y₀ (K.push _) hp ?_ (.head _) l4 l1 ⟨⟨_,Heap.get?_push_size _ rfl,rfl,rfl⟩,⟨ol,Heap.get?_push_of_some _ hol,hr⟩⟩ ?_ ?_ (fun i v y hi hv=>turn i v y hi ((List.getElem?_toArray ..).symm.trans hv)) done
  ·intro hm
   rcases List.mem_cons.mp hm with e|hm
   ·exact absurd l3 (e▸Nat.lt_irrefl _)
   ·exact hlL (List.mem_singleton.mp hm).symm
  ·intro i h hs b hb
   rcases List.mem_cons.mp hb with e|hb
   ·rw[e];exact hs.1.imp fun _ h=>h.1
   ·rw[List.mem_singleton.mp hb];exact hs.2.imp fun _ h=>h.1
  ·intro p hp hm
   rcases List.mem_cons.mp hm with e|hm
   ·exact absurd e (Nat.ne_of_lt (l2 p hp))
   ·exact hab p hp (List.mem_singleton.mp hm)
 rcases ht with ⟨x,q,e⟩|⟨es,k,q,e⟩<;>subst e
 ·exact main (KTurns.ofWalks W fun _ _ _ _ _ _ h=>wpAny_pure h)
 ·exact main (KTurns.ofWalks W fun i v s Q E st q=>letGo_listiter st.1 q)
inductive ForQ {S:Type} (c:Cx) (Iv:Nat→S→St) (P:Nat→S→Prop) (y₀:S) (ns:List Int):AV→St→Prop
 |own {l vs rest ex}:Le c ⟨vs,rest,ex⟩ (Iv 0 y₀)→P 0 y₀→ForQ c Iv P y₀ ns (.v (.ref l)) ⟨vs,(l,intsP ns)::rest,ex⟩
 |far {l σ}:((∃vs k,(l,listOf vs.toArray k)∈σ.ex++c.news∧IntsAre vs ns)∨∃vs:List Value,c.g.IsList l vs.toArray∧IntsAre vs ns)→Le c σ (Iv 0 y₀)→P 0 y₀→ForQ c Iv P y₀ ns (.v (.ref l)) σ
theorem ForQ.out {S:Type} {Iv:Nat→S→St} {P:Nat→S→Prop} {y₀:S} {ns:List Int} {a:AV} {h:Heap} (q:ForQ c Iv P y₀ ns a σ) (K:Ok d c kp σ h):∃l,a= .v (.ref l)∧LI c σ l ns∧(∀p∈(Iv 0 y₀).ab,p.1≠l)∧l≠c.L∧Le c σ (Iv 0 y₀)∧P 0 y₀:=by
 cases q with
 | @own l vs rest ex le hp=>
  refine ⟨l,rfl,.inl (.head _),fun p hp e=> ?_,?_,⟨le.v,.cons _ le.a,le.e⟩,hp⟩
  ·exact (List.pairwise_cons.mp K.nd).1 _ (List.mem_map.mpr ⟨p,le.a.subset hp,rfl⟩) e.symm
  ·exact K.open fun m bs F V B N=>Exists.elim (B.get _ (.head _)) fun o h1=>(N _ (mL _ h1.1)).2.1
 | @far l _ L le hp=>
  refine ⟨l,rfl,.inr L,fun p hp e=> ?_,?_,le,hp⟩
  ·have hm:=le.a.subset hp
   rcases L with ⟨vs,k,h,_⟩|⟨vs,⟨o,h,_⟩,_⟩
   ·exact K.ap p hm _ (mem3 h) e.symm
   ·exact K.open fun m bs F V B N=>Exists.elim (B.get p hm) fun o2 h1=>by
     have:=(N _ (mL _ h1.1)).2.2
     rw[show (p.1,o2).1=l from e,h] at this
     exact Option.noConfusion rfl (heq_of_eq this)
  ·refine K.open fun m bs F V B N=> ?_
   rcases L with ⟨vs,k,h,_⟩|⟨vs,⟨o,h,_⟩,_⟩
   ·exact (N _ (mR _ (mem3 h))).2.1
   ·exact Nat.ne_of_lt (Nat.lt_of_lt_of_le (Heap.lt_size h) F.above)
theorem H_forL {S:Type} (X:Fx d c) (Iv:Nat→S→St) (P:Nat→S→Prop) (y₀:S) {j:Nat} {x:Str} {e:Ex} {q0 p2:Pos} {ns:List Int} {body rest:Sx} {Q:Flow→St→Prop} (hj:nth d.names j=some x) (h:GA d c e (ForQ c Iv P y₀ ns) σ)
  (turn:∀i y,i<ns.length→P i y→H d c body (lf d c (Iv (i+1)) (P (i+1)) rest Q) ((Iv i y).put j (.i (ns.getD i 0)))) (done:∀y,P ns.length y→H d c rest Q (Iv ns.length y)):
  H d c (.cons (.fors (.loc j q0) e body p2) rest) Q σ:=H_st fun kp hp' tk K=>by
 show wpAny _ _ (exec (.For (.Name (nm d.names j) q0) (ux d.names e).1 (su d.names body).2 [] p2) _) _ _ _
 rw[nm_eq hj]
 refine K.open fun m bs F V B N=>For_turns F (h.run K fun v a h' σ' tk' ha K' q=> ?_) (not_set e _) X.own
 obtain ⟨l,ea,L,hl,hlL,le,hp⟩:=q.out K'
 rw[ea] at ha
 rw[AV.has_v ha]
 obtain ⟨vs,hol,hi⟩:=ok_li K' L
 refine for_list X Iv P y₀ (.inl ⟨_,_,rfl⟩) (K'.le le) hp hi.length hol hlL hl (fun i v y hin hv hy=>G_name X hj ?_ (turn i y hin hy)) done
 obtain ⟨t,ht⟩:=hi.get i (ns.getD i 0) (by rw[List.getD_eq_getElem?_getD,List.getElem?_eq_getElem hin];rfl)
 exact ⟨t,Option.some.inj (hv.symm.trans ht)⟩
theorem H_forT {S:Type} (X:Fx d c) (Iv:Nat→S→St) (P:Nat→S→Prop) (y₀:S) {ts:Ex} {is:List Nat} {i:Nat} {n:Str} {q0 q1 p2:Pos} {l:Addr} {rv:List Value} {k:Nat} {body rest:Sx} {Q:Flow→St→Prop} (ht:tsOf d.names ts=some is) (hi:nth d.names i=some n) (hl:nth σ.vs i=some (some (.v (.ref l))))
  (hm:(l,listOf rv.toArray k)∈σ.ex++c.news) (le:Le c σ (Iv 0 y₀)) (hp:P 0 y₀)
  (turn:∀i v y,rv[i]? =some v→i<rv.length→P i y→∃r avs,v= .ref r∧Tp c (Iv i y) r avs∧is.length=avs.length∧H d c body (lf d c (Iv (i+1)) (P (i+1)) rest Q) ((Iv i y).all is avs)) (done:∀y,P rv.length y→H d c rest Q (Iv rv.length y)):
  H d c (.cons (.fors (.tup ts q0) (.loc i q1) body p2) rest) Q σ:=H_st fun kp hp' tk K=>by
 refine K.open fun m bs F V B N=>For_turns F (readL X K hi hl fun v hv=> ?_) (fun _=>rfl) X.own
 rw[AV.has_v hv]
 have hN:=N _ (mR _ (mem3 hm))
 refine for_list X Iv P y₀ (.inr ⟨_,_,_,rfl⟩) (K.le le) hp rfl ⟨_,hN.1,rfl,_,rfl⟩ hN.2.1 (fun p hp e=>K.ap p (le.a.subset hp) _ (mem3 hm) e.symm) (fun i v y hin hv hy kp2 h2 tk2 K3=> ?_) done
 obtain ⟨r,avs,e,hT,hlen,go⟩:=turn i v y hv hin hy
 rw[e]
 exact unpackT X ht hT hlen K3 fun h3 tk3 K4=>post K4 go
end
section
variable {d:Df} {c:Cx} {kp:Kp} {σ σ':St} {RE:Flt→St→Prop}
theorem H_brk {p:Pos} {rest:Sx} {Q:Flow→St→Prop} (k:Q .brk σ):H d c (.cons (.brk p) rest) Q σ:=H_st fun _ _ _ K=>wpAny_Break (post (Q:=sq d c rest Q) (v:=Flow.brk) K k)
theorem GT_v {e:Ex} {Q:Bool→St→Prop} (h:GA d c e (fun a σ=>∃r,trA a=some r∧Q r σ) σ) (hp:∀whole,isTrue (ux d.names e).1 (c.env d) whole=(do let v ←whole;standAt (ux d.names e).1.pos;holding [v] (truthy v)):=by intro _;rfl):GT d c e Q σ:=fun kp hp' tk K=>
 isTrue_plain (h.run K fun v a h' σ' tk' ha K' q=>Exists.elim q fun r q=>tr_ok q.1 ha (post K' q.2)) (hp _)
noncomputable def inpI (op:Operator) (a b:Int):Option (AV×List Prop):=match op with
 | .Add=>some (.i (a+b),[])
 | .Sub=>some (.i (a - b),[])
 | .BitAnd=>some (.i (Builtin.bitAnd a b),[])
 | .BitOr=>some (.i (Builtin.bitOr a b),[])
 | .RShift=>some (.i (a.fdiv (2 ^ b.toNat)),[0≤b])
 |_=>none
theorem inp_int {op:Operator} {n m:Int} {t u:Tok} {r:AV×List Prop} {A:Around} {E:Value→Shared→Prop} {Q:Value→Shared→Prop} {s:Shared} (e:inpI op n m=some r) (ho:All r.2) (k:∀v t,r.1.has v→Q v {s with toks:=t}):wpAny (model PR c.w) A (inplaceOp op (.int n t) (.int m u)) Q E s:=by
 have h1:∀{z:Int} {p:List Prop} {t},some (AV.i z,p)=some r→Q (.int z t) {s with toks:=s.toks+1}:=fun e=>k _ _ (hasI (congrArg Prod.fst (Option.some.inj e)).symm)
 cases op with
 |Add=>exact PyProof.Rows.iadd_int (h1 e)
 |Sub=>exact PyProof.Rows.isub_int (h1 e)
 |BitAnd=>exact iand_int (h1 e)
 |BitOr=>exact ior_int (h1 e)
 |RShift=>exact irshift_int (show All [0≤m] from ofP e ho) (h1 e)
 |_=>exact ns e
theorem H_aug (X:Fx d c) {i:Nat} {x:Str} {q p:Pos} {op:Operator} {e:Ex} {n m:Int} {z:AV} {os os':List Orc} {ob ob2:List Prop} {rest:Sx} {Q:Flow→St→Prop} (hl:nth σ.vs i=some (some (.i n))) (hv:V d c σ e os=some (.i m,os',ob)) (hz:inpI op n m=some (z,ob2)) (k:H d c rest Q (σ.put i z))
  (ho:All ob:=by exact True.intro) (ho2:All ob2:=by exact True.intro) (hi:nth d.names i=some x:=by rfl):H d c (.cons (.aug i q op e p) rest) Q σ:=H_st fun kp hp tk K=>by
 have hm:=X.ok.loc x (nth_mem hi)
 show wpAny _ _ (exec (.AugAssign (.Name (nm d.names i) q) op (ux d.names e).1 p) _) _ _ _
 rw[nm_eq hi]
 refine K.open fun m' bs F V B N=>wpAny_AugAssign_Name ?_
 obtain ⟨v,hv1,hh⟩:=V i x _ hi hl
 obtain ⟨t,hh⟩:=AV.has_i hh
 rw[hh] at hv1
 refine loadX_L F hv1 ((ev_ok X e).v _ _ hv ho kp hp tk _ K fun w h' tk' hw K'=> ?_) X.ok.kind hm.1
 obtain ⟨u,hw⟩:=AV.has_i hw
 rw[hw]
 exact inp_int hz ho2 fun v t hv=>store (tk:=t) X K' hi hv fun h2 tk2 K2=>post (Q:=sq d c rest Q) (v:=Flow.next) K2 k
theorem H_rse (X:Fx d c) (TH:Thr d c RE) {fl:Flt} {C:Addr} {x:Str} {q p p2:Pos} {a:Ex} {v:AV} {os os':List Orc} {ob:List Prop} {rest:Sx} {Q:Flow→St→Prop} (hC:clsOf fl=some C) (en:∀P,nsIn (Mine.kf P) mainGlobals x=some (some (.ref C))) (ex:∀P,excIn (Mine.kf P) C [.type "Exception",.type "BaseException",.type "object"] "Exception.__new__"=true)
  (hl:d.sc.names.lookup x=some .globalImplicit) (hd:(x==("__debug__":Str))=false) (hv:V d c σ a os=some (v,os',ob)) (k:RE fl σ) (ho:All ob:=by exact True.intro):H d c (.cons (.rse (.call (.gl x q) (.cons a .nil) p) p2) rest) Q σ:=H_st fun kp hp tk K=>
 K.open fun m bs F V B N=>RaiseX_own F X.inn (topRead_of X.top) (en _) (ex _) rfl (args_cons ((ev_ok X a).v _ _ hv ho kp hp tk _ K fun w h' tk' hw K'=>args_nil ⟨show 1≤sizeLine by decide,K'.open fun m bs F V B N=>F.keep,fun h2 e hx=>TH.made kp fl C e _ σ h' h2 _ hC K' hx k⟩) (star_any a _ _)) (star_any a _ _) rfl X.ok.kind hl hd
theorem GA_subX (X:Fx d c) (TH:Thr d c RE) {a i:Ex} {p:Pos} {l:List UInt8} {n:Int} {os os1 os2:List Orc} {o1 o2:List Prop} {Q:AV→St→Prop} (ha:V d c σ a os=some (.b l,os1,o1)) (hi:V d c σ i os1=some (.i n,os2,o2)) (hout:(l.length:Int)≤n) (hhi:n<2 ^ 63) (k:RE .index σ) (ho1:All o1:=by exact True.intro) (ho2:All o2:=by exact True.intro):GA d c (.sub a i p) Q σ:=fun kp hp tk K=>
 Subscript_ ((ev_ok X a).v _ _ ha ho1 kp hp tk _ K fun v h' tk' hv K'=>(ev_ok X i).v _ _ hi ho2 kp h' tk' _ K' fun w h2 tk2 hw K2=>by
  obtain ⟨t,hv⟩:=AV.has_b hv
  obtain ⟨u,hw⟩:=AV.has_i hw
  rw[hv,hw]
  exact item_bytes_out rfl hout hhi (fun h3 tk3 e hx=>TH.new kp e σ h2 h3 tk3 K2 hx k) (er_sub hi _ _ _))
inductive SlB (c:Cx) (Q:AV→St→Prop) (l:List UInt8) (x y:Int):St→Prop
 |mk {σ₂:St}:0≤x→0≤y→l.length≤16777216→Q (.b ((l.take y.toNat).drop x.toNat)) σ₂→SlB c Q l x y σ₂
theorem GA_slcB (X:Fx d c) {j:Nat} {n:Str} {lo hi:Ex} {p q r:Pos} {l:List UInt8} {x y:Int} {os os1 os2:List Orc} {o1 o2:List Prop} {Q:AV→St→Prop} (hj:nth d.names j=some n) (hl:nth σ.vs j=some (some (.b l))) (hx:Vp d c σ lo os=some (some x,os1,o1)) (hy:Vp d c σ hi os1=some (some y,os2,o2))
  (k:SlB c Q l x y σ) (ho1:All o1:=by exact True.intro) (ho2:All o2:=by exact True.intro):GA d c (.sub (.loc j p) (.slc lo hi q) r) Q σ:=fun kp h0 tk K=>
 Subscript_ (readL X K hj hl fun v hv=>wpAny_Slice (part_ok X hx ho1 K fun vl h' tk' hvl K'=>part_ok X hy ho2 K' fun vu h2 tk2 hvu K2=>evalPart_none_step (by
  cases k with
  |mk hx0 hy0 hz k=>
   obtain ⟨t,hv⟩:=AV.has_b hv
   rw[hv]
   cases hvl with|int _ tx=>
   cases hvu with|int _ ty=>
   exact K2.open fun m bs F V B N=>slice_B (s:=c.at h2 tk2) F N hx0 hy0 hz (fun h3 t' k3 F3 N3=>postA (a:= .b _) (K2.same V B F3 N3) ⟨t',rfl⟩ k) rfl fun _=>rfl)))
inductive TupZ (as:Led→List AV→ALed→Prop):Value→Led→ALed→Prop
 |mk {r vs tl avs ab1}:Hs avs vs→as tl avs ab1→TupZ as (.ref r) ((r,tupO vs)::tl) ab1
theorem FinZ.lent {ab0:ALed} {res:Led→ALed→Prop} (ms:List Bool) {led:Led} (hk:keys (tk ms σ.ab)=keys ab0) (h:res led (tk ms σ.ab)) (hl:∀p∈led,p∈σ.ex):FinZ ab0 res σ:=fun bs B nd ap=>by
 obtain ⟨bs0,rest,i1,i2,i3,i4,i5,i6,i7⟩:=lend ms B nd
 exact ⟨led,tk ms σ.ab,bs0,⟨i1,hk,fun p hp=>i3 p (mL _ hp),fun p hp=>mR _ (hl p hp),fun q hq p hp=>keys_back (l:=tk ms σ.ab) (P:=fun a=>p.1≠a) hk.symm (fun q hq=>ap q (i5 q hq) p (hl p hp)) q hq⟩,h⟩
theorem fin_tupZ {ab0:ALed} {as:Led→List AV→ALed→Prop} (ms:List Bool) {r:Addr} {avs:List AV} {tl:Led} (hk:keys (tk ms σ.ab)=keys ab0) (h:as tl avs (tk ms σ.ab)) (hl:∀p∈tl,p∈σ.ex):FinZ ab0 (TupZ as (.ref r)) (σ.new r (tupP avs)):=fun bs B nd ap=>by
 obtain ⟨o,k',e,⟨vs,hvs,ho⟩,B⟩:=bs_cons B
 obtain ⟨n1,n2⟩:=List.pairwise_cons.mp nd
 obtain ⟨bs0,rest,i1,i2,i3,i4,i5,i6,i7⟩:=lend ms B n2
 refine ⟨(r,tupO vs)::tl,tk ms σ.ab,bs0,⟨i1,hk,fun p hp=>e▸.tail _ (i3 p (mL _ hp)),fC ⟨by rw[e,ho];exact .head _,fun p hp=>mR _ (hl p hp)⟩,fun q hq=>fC ⟨?_,fun p hp=> ?_⟩⟩,.mk hvs h⟩
 ·exact keys_back (l:=tk ms σ.ab) (P:=fun a=>r≠a) hk.symm (fun q hq=>n1 _ (List.mem_map.mpr ⟨q,i5 q hq,rfl⟩)) q hq
 ·exact keys_back (l:=tk ms σ.ab) (P:=fun a=>p.1≠a) hk.symm (fun q hq=>ap q (.tail _ (i5 q hq)) p (hl p hp)) q hq
theorem H_setZ (X:Fx d c) (ms:List Bool) {ts:Ex} {is:List Nat} {x:Str} {q q2 p p2:Pos} {a as:Ex} {k K:Nat} {f:Addr} {xs:List AV} {os os':List Orc} {ob:List Prop} {need:Heap→Led→Prop} {res:Led→List AV→ALed→Prop} {err:Flt→Led→ALed→Prop} {rest:Sx} {Q:Flow→St→Prop} (ht:tsOf d.names ts=some is)
  (hg:Gv d x f) (hv:Vl d c σ (.cons a as) os=some (xs,os',ob)) (C:KZ c.w k f xs (tk ms σ.ab) need (TupZ res) err) (TH:Thr d c RE) (rm:Rm c K) (hk:k<K) (hn:∀bs (kp:Kp),Bs (rs ms σ.ab) bs→need c.base (bs++c.all kp σ))
  (ret:∀tl avs ab1,res tl avs ab1→is.length=avs.length∧H d c rest Q ((σ.aft ms ab1 tl).all is avs)) (exc:∀fl led ab1,err fl led ab1→RE fl (σ.aft ms ab1 led)) (ho:All ob:=by exact True.intro)
  (h2:∀p,(backTo p (starEach (ux d.names as).2 (c.env d))).any (·.1)=false:=by exact fun _=>rfl):H d c (.cons (.setT ts q2 (.call (.gl x q) (.cons a as) p) p2) rest) Q σ:=
 H_setT X ht (GA_kz X ms hg hv C TH rm hk hn (fun v led ab1 hr=>by
  cases hr with
  |mk hs hr=>exact ⟨_,_,rfl,.inl ⟨_,.head _,hs⟩,(ret _ _ _ hr).1,H_sub (ret _ _ _ hr).2 (mem_app (fun p h=>mL _ (.tail _ h)) fun p h=>mR _ h)⟩) exc ho h2)
end
noncomputable def tb (spec:List (Pos×Str)) (L:Led) (o:Obj):Prop:=∃ps,o=tabObj ps∧TabOk ps L spec
noncomputable abbrev TB (L:Led):ALed:=[(287,tb vdSpec L),(273,tb vbSpec L)]
structure HdB (L:Led) (base:Heap) (news:Led):Prop where
 d:CodeHd base 291 287
 b:CodeHd base 277 273
 s:∀p∈L,p∈news
inductive TupT (L:Led) (P:Led→List AV→Prop):Led→List AV→ALed→Prop
 |mk {L' tl avs}:P tl avs→(∀p∈L',p∈tl++L)→TupT L P tl avs (TB L')
inductive ErrT (L:Led) (P:Flt→Prop):Flt→Led→ALed→Prop
 |mk {L' fl led}:P fl→(∀p∈L',p∈led++L)→ErrT L P fl led (TB L')
theorem bs_two {P Q:Obj→Prop} {a b:Addr} {bs:Led} (h:Bs [(a,P),(b,Q)] bs):∃o o2,bs=[(a,o),(b,o2)]∧P o∧Q o2:=by
 obtain ⟨o,k,e,h1,B⟩:=bs_cons h
 obtain ⟨o2,k2,e2,h2,B2⟩:=bs_cons B
 exact ⟨o,o2,by rw[e,e2,bs_nil B2],h1,h2⟩
theorem dec_varintZ {w:World} {bf:List UInt8} {pos:Nat} {L:Led} (hl:bf.length<2 ^ 20) (hat:pos<2 ^ 20):KZ w 3 299 [.b bf,.i pos] (TB L) (HdB L) (TupZ (TupT L fun _ avs=>∃v p,rvar (ub bf) pos= .ok (v,p)∧avs=[.i v,.i (p:Nat)])) (ErrT L fun fl=>rvar (ub bf) pos= .error fl):=by
 intro vals hvs p loose mean mg mb dp un gd cn cs a ccd cl outer A₀ base h₀ L1 m s Q E news bs0 B F X N B0 _ ap T hk hd hun hn ret exc
 obtain ⟨v,_,e,h1,hvs⟩:=hvs.cons
 obtain ⟨v2,_,e2,h2,hvs⟩:=hvs.cons
 obtain ⟨tb1,h1⟩:=AV.has_b h1
 obtain ⟨t,h2⟩:=AV.has_i h2
 cases hvs
 rw[e,e2,h1,h2]
 obtain ⟨o,o2,eb,⟨ps,ho,HT⟩,⟨ps2,ho2,HT2⟩⟩:=bs_two B0
 rw[eb,ho,ho2] at N
 have h1:(287:Addr)∈keys (TB L):= .head _
 refine dec_varint hn.d HT (fun p h=> .tail _ (hn.s p h)) B F X N (fC ⟨show (273:Nat)≠287 by decide,ap _ (.head _)⟩) T hk hd hl hat ?_ ?_
 ·intro v p r t1 t2 tl ps' h' tk' eo F' N' HT' o1 o2 o3 o4
  refine ret _ ((r,tupO [.int v t1,.int (p:Int) t2])::tl) (TB (tl++L)) [(287,tabObj ps'),(273,tabObj ps2)] h' tk' F' (fun q hq=>N' q ?_) (.cons ⟨_,rfl,HT'⟩ (.cons ⟨_,rfl,HT2.mono fun p h=>mR _ h⟩ .nil)) rfl (fun q hq=>fC ⟨o3 q (mR _ (.tail _ hq)),o1 q (.tail _ hq)⟩) ?_ (.mk (.i (.i .nil)) (.mk ⟨_,_,eo,rfl⟩ fun _ h=>h))
  ·rcases List.mem_cons.mp hq with rfl|hq
   ·exact .tail _ (.head _)
   rcases List.mem_cons.mp hq with rfl|hq
   ·exact .tail _ (.tail _ (mR _ (.head _)))
   rcases List.mem_cons.mp hq with rfl|hq
   ·exact .head _
   exact .tail _ (.tail _ ((List.mem_append.mp hq).elim (fun h=>mL _ h) fun h=>mR _ (.tail _ h)))
  ·exact fC ⟨fC ⟨Nat.ne_of_gt o4,fun p h=>Nat.ne_of_gt (o2 p h)⟩,fC ⟨fC ⟨Nat.ne_of_gt (Nat.lt_trans (show (273:Nat)<287 by decide) o4),fun p h=>Nat.ne_of_gt (Nat.lt_trans (show (273:Nat)<287 by decide) (o2 p h))⟩,allP⟩⟩
 ·intro fl G e tl ps' h' tk' eo F' R HT' o1 o2 U
  refine exc fl e G tl (TB (tl++L)) [(287,tabObj ps'),(273,tabObj ps2)] h' tk' F' (R.sub fun q hq=> ?_) U (.cons ⟨_,rfl,HT'⟩ (.cons ⟨_,rfl,HT2.mono fun p h=>mR _ h⟩ .nil)) rfl ?_ ?_ (.mk eo fun _ h=>h)
  ·rcases List.mem_cons.mp hq with rfl|hq
   ·exact .head _
   rcases List.mem_cons.mp hq with rfl|hq
   ·exact .tail _ (mR _ (.head _))
   exact .tail _ ((List.mem_append.mp (show q∈tl++news from hq)).elim (fun h=>mL _ h) fun h=>mR _ (.tail _ h))
  ·exact fun q hq p hp=>o1 q (.tail _ hq) p hp
  ·exact fC ⟨fun p h=>Nat.ne_of_gt (o2 p h),fC ⟨fun p h=>Nat.ne_of_gt (Nat.lt_trans (show (273:Nat)<287 by decide) (o2 p h)),allP⟩⟩
set_option maxHeartbeats 4000000
inductive BytT (fz:Led) (ns:List Int):Value→Led→ALed→Prop
 |mk {b t led L'}:ub b=ns→(∀p∈L',p∈led++fz)→BytT fz ns (.bytes b.toArray t) led (TB L')
theorem dec_tagbytesZ {w:World} {num:Int} {fz:Led} (h0:0≤num) (h1:num<2 ^ 61):KZ w 5 285 [.i num,.i 4] (TB fz) (HdB fz) (BytT fz (vint (num*8+4))) (fun _ _ _=>False):=by
 intro vals hvs p loose mean mg mb dp un gd cn cs a ccd cl outer A₀ base h₀ L m s Q E news bs0 B F X N B0 _ ap T hk hd hu hn ret _
 obtain ⟨v,_,e,hv1,hvs⟩:=hvs.cons
 obtain ⟨v2,_,e2,hv2,hvs⟩:=hvs.cons
 obtain ⟨t,hv1⟩:=AV.has_i hv1
 obtain ⟨u,hv2⟩:=AV.has_i hv2
 cases hvs
 obtain ⟨o,o2,eb,⟨ps1,ho,HTa⟩,⟨ps2,ho2,HTb⟩⟩:=bs_two B0
 rw[e,e2,hv1,hv2]
 rw[eb,ho,ho2] at N
 clear e e2 hv1 hv2 eb ho ho2 B0
 replace N:News h₀ L s.heap ((287,tabObj ps1)::(273,tabObj ps2)::news):=N
 have HC2:=hn.b
 have hfz:=hn.s
 have hne:∀p∈news,p.1≠287∧p.1≠273:=fun p hp=>⟨ap _ (.head _) p hp,ap _ (.tail _ (.head _)) p hp⟩
 clear ap hn
 refine wpAny_call ?_
 k_dflt (refine' code_def (binds:=[(Str.ofString "field_number",.int num t),(Str.ofString "wire_type",.int 4 u)]) B F X N T rfl rfl hk ?k6 ?k7 (by show dp<recursionLimit;(exact lin (.h 1 (.t (.a Y0 (.c 5)) Y1) (.G 1 (.t Y0 Y1))) rfl [_,_] [] hd)) ?k9 ?kB ?_ ?c2 ?c3 ?c4 ?c5)
 walk_at "in"
 intro g' L' h' FG' F' N' B' X' T'
 (try dsimp only);(try k_fold)
 walk_at "go"
 walk1
 walk_at "go"
 refine lshift_int_small (by exact lin (.G 1 (.L (.c 0) (.c 3))) rfl [] []) (by exact lin (.G 1 (.L (.c 3) (.c 1000000))) rfl [] []) (by omega) ?_
 walk_at "go"
 rw[or_tag h0]
 walk1
 rename_i L1 hp1 tkA FGx Fx Bx Xx Tx l1 o1 d1 N1
 have hcell:∀p∈(287,tabObj ps1)::(273,tabObj ps2)::news,p.1≠L1+1:=fun p hp=>by
  rcases List.mem_cons.mp hp with rfl|hp
  ·have:=l1.1;show (287:Nat)≠L1+1;(exact fun eN=>lin (.h 1 (.t (.c 287) Y0) (.h 1 (.d (.c 287) (.a Y0 (.c 1))) .F)) rfl [_] [] l1.1 eN)
  ·rcases List.mem_cons.mp hp with rfl|hp
   ·have:=l1.2.1;show (273:Nat)≠L1+1;(exact fun eN=>lin (.h 1 (.t (.c 287) Y0) (.h 1 (.d (.c 273) (.a Y0 (.c 1))) .F)) rfl [_] [] l1.1 eN)
   ·exact Nat.ne_of_lt (Nat.lt_succ_of_lt (kst_ltOf l1.2.2 p hp))
 walk_at "go"
 k_dflt (refine' kla_eval ?d0 ?_;(case d0=>exact rfl))
 rename_i lp hA lpl oc0 hB F9 N9 dc9
 have h273:∀p∈news,p.1≠273:=fun p hp=>(hne p hp).2
 refine tab_lam (c:=277) (P:=273) (ps:=ps2) (fz:=fz) (spec:=vbSpec) F9 N9 (by assumption) (HC2.keeps Bx.stays) rfl (by k_updF) HTb (fun p h=> .tail _ (.tail _ (.tail _ (.tail _ (hfz p h))))) (Str.ofString "_VarintBytes.<locals>.<lambda>") (show (Str.ofString "_VarintBytes"++Str.ofString ".<locals>."++Str.ofString "<lambda>":Str)=Str.ofString "_VarintBytes.<locals>.<lambda>" from by decide+kernel) (by decide+kernel) (by decide+kernel) rfl ?_
 intro f c' oc vs tq ctv h2 tk2 ps2' tl F2 N2 HT2 hc hdt hvt labove lf1 lf2
 have hc2:(c',oc)∈tl++(lp,listOf #[] 0)::(L1+1,hB)::(287,tabObj ps1)::(273,tabObj ps2')::news:=(List.mem_append.mp hc).elim (fun h=>mL _ h) fun h=>mR _ (.tail _ (.tail _ (.tail _ (.tail _ (hfz _ h)))))
 have N3:=kst_newsOf N2 (l':=(lp,listOf #[] 0)::(f,_)::(c',oc)::(L1+1,hB)::(287,tabObj ps1)::(273,tabObj ps2')::(tl++news)) (fC ⟨.tail _ (mR _ (.head _)),fC ⟨.head _,fC ⟨.tail _ hc2,fC ⟨.tail _ (mR _ (.tail _ (.head _))),fC ⟨.tail _ (mR _ (.tail _ (.tail _ (.head _)))),
  fC ⟨.tail _ (mR _ (.tail _ (.tail _ (.tail _ (.head _))))),fun p hp=> .tail _ ((List.mem_append.mp hp).elim (fun h=>mL _ h) fun h=>mR _ (.tail _ (.tail _ (.tail _ (.tail _ h)))))⟩⟩⟩⟩⟩⟩)
 clear N2 N9
 have hclp:c'≠lp:=by
  rcases List.mem_append.mp hc with h|h
  ·exact Nat.ne_of_gt (labove (lp,_) (.head _) _ h)
  ·exact Nat.ne_of_lt (kst_ltOf lpl.2.2.2 _ (hfz _ h))
 have htlp:∀p∈tl++news,p.1≠lp:=fun p hp=>by
  rcases List.mem_append.mp hp with h|h
  ·exact Nat.ne_of_gt (labove (lp,_) (.head _) _ h)
  ·exact Nat.ne_of_lt (kst_ltOf lpl.2.2.2 _ h)
 have hflp:f≠lp:=Nat.ne_of_gt (lf2 (lp,_) (.head _))
 walk_at "go"
 walk1
 rename_i FG4 F4 N4 B4 X4 T4
 walk_at "go"
 rename_i F5 N5
 have hrest:=tailNe N5 (by
  intro p hp
  simp only[List.mem_cons] at hp
  rcases hp with rfl|rfl|rfl|rfl|rfl|hp
  ·exact hflp
  ·exact hclp
  ·exact Nat.ne_of_lt lpl.1
  ·exact Nat.ne_of_lt lpl.2.1
  ·exact Nat.ne_of_lt lpl.2.2.1
  ·exact htlp p hp)
 have hvl:=vint_len 9 (num*8+4) (by exact lin (.h 8 (.T Z0 (.c 2305843009213693952)) (.G 1 (.T (.a (.m Z0 8) (.c 4)) (.c 1180591620717411303424)))) rfl [] [_] h1)
 refine wh (σ:=List Value×Nat×List Int×Int×Int×Tok×Tok) (fun c=>(lp,listOf c.1.toArray c.2.1)::(f,_)::(c',oc)::(L1+1,hB)::(287,tabObj ps1)::(273,tabObj ps2')::(tl++news))
  (fun c=>[(Str.ofString "write",Value.ref f),(Str.ofString "value",.int c.2.2.2.1 c.2.2.2.2.2.1),(Str.ofString "bits",Value.int c.2.2.2.2.1 c.2.2.2.2.2.2)])
  (fun c=>Each (fun (x:Int) v=>∃t,v= .bytes #[UInt8.ofNat x.toNat] t) c.2.2.1 c.1∧c.2.2.1++vint (c.2.2.2.1*128+c.2.2.2.2.1)=vint (num*8+4)∧0≤c.2.2.2.1∧0≤c.2.2.2.2.1∧c.2.2.2.2.1<128) (fun c=>c.2.2.2.1.toNat) ([],0,[],_,_,_,_) F5 N5 (by kst_all) ?hp ?turn
 case hp=>
  have e1:(num*8+4).fdiv (2 ^ Int.toNat 7)=(num*8+4) / 128:=Int.fdiv_eq_ediv_of_nonneg _ (by decide)
  have e2:Builtin.bitAnd (num*8+4) 127=(num*8+4) % 128:=and127 _
  dsimp only
  rw[e1,e2]
  exact ⟨.nil,by rw[List.nil_append,show (num*8+4) / 128*128+(num*8+4) % 128=num*8+4 by (exact Int.le_antisymm (lin (.h 1 (.E (.a (.r 128 Z0) Z1) (.a (.m Z2 8) (.c 4))) (.G 1 (.L (.a (.m Z0 128) Z1) (.a (.m Z2 8) (.c 4))))) rfl [] [_,_,_] (Int.mul_ediv_add_emod _ _)) (lin (.h 1 (.D (.a (.r 128 Z1) Z2) (.a (.m Z0 8) (.c 4))) (.G 1 (.L (.a (.m Z0 8) (.c 4)) (.a (.m Z1 128) Z2)))) rfl [] [_,_,_] (Int.mul_ediv_add_emod _ _)))],by exact lin (.h 8 (.L (.c 0) Z1) (.h 1 (.D (.a (.r 128 Z0) Z2) (.a (.m Z1 8) (.c 4))) (.h 1 (.T Z2 (.c 128)) (.G 128 (.L (.c 0) Z0))))) rfl [] [_,_,_] h0 (Int.mul_ediv_add_emod _ _) (Int.emod_lt_of_pos _ (by decide)),by exact lin (.h 1 (.L (.c 0) Z0) (.G 1 (.L (.c 0) Z0))) rfl [] [_] (Int.emod_nonneg _ (by decide)),by exact lin (.h 1 (.T Z0 (.c 128)) (.G 1 (.T Z0 (.c 128)))) rfl [] [_] (Int.emod_lt_of_pos _ (by decide))⟩
 case turn=>
  rintro ⟨vs,cnt,pf,v,b,tv,tb⟩ u1 h1 tk1 KP kk ⟨hE,hp,hv0,hb0,hb1⟩ F6 N6
  dsimp only at hE hp hv0 hb0 hb1 F6 N6 ⊢
  simp only[kstB] at F6
  clear F5 N5
  have hvs:vs.toArray.size≤2 ^ 20:=by
   rw[List.size_toArray,←hE.length]
   have:=congrArg List.length hp
   rw[List.length_append] at this
   exact lin (.h 1 (.l Y1 (.a (.c 9) (.c 1))) (.h 1 (.e (.a Y0 Y2) Y1) (.G 1 (.l Y0 (.c 1048576))))) rfl [_,_,_] [] hvl this
  have hor:=or128 hb0 hb1
  (try k_fold)
  walk_at "go"
  ·rename_i F7 N7
   have hvne:v≠0:=by assumption
   have e1:v.fdiv (2 ^ Int.toNat 7)=v / 128:=Int.fdiv_eq_ediv_of_nonneg _ (by decide)
   rw[hor] at N7
   rw[e1,and127] at F7
   simp only[List.push_toArray] at N7
   have hx:(127:Int)<v*128+b:=by exact (Int.lt_or_gt_of_ne hvne).elim (fun e30=>False.elim (lin (.h 1 (.L (.c 0) Z0) (.h 1 (.T Z0 (.c 0)) .F)) rfl [] [_] hv0 e30)) (fun e30=>lin (.h 1 (.L (.c 0) Z1) (.h 128 (.T (.c 0) Z0) (.G 1 (.T (.c 127) (.a (.m Z0 128) Z1))))) rfl [] [_,_] hb0 e30)
   have hst:=vint_state hp hx
   rw[show (v*128+b) % 128+128=b+128 by omega,show (v*128+b) / 128=v by (exact Int.le_antisymm (lin (.h 1 (.T Z2 (.c 128)) (.h 1 (.E (.a (.r 128 Z0) Z3) (.a (.m Z1 128) Z2)) (.h 1 (.L (.c 0) Z3) (.G 128 (.L Z0 Z1))))) rfl [] [_,_,_,_] hb1 (Int.mul_ediv_add_emod _ _) (Int.emod_nonneg _ (by decide))) (lin (.h 1 (.L (.c 0) Z2) (.h 1 (.D (.a (.r 128 Z1) Z3) (.a (.m Z0 128) Z2)) (.h 1 (.T Z3 (.c 128)) (.G 128 (.L Z0 Z1))))) rfl [] [_,_,_,_] hb0 (Int.mul_ediv_add_emod _ _) (Int.emod_lt_of_pos _ (by decide))))] at hst
   refine kk.nx _ ?_
   refine wh_end (vs++[.bytes #[(b+128).toNat.toUInt8] _],cnt+1,pf++[b+128],v / 128,v % 128,_,_) F7 N7 (fun _ h=> .tail _ h) (by kst_all) ⟨⟨?_,?_,?_,?_,?_⟩,?_⟩
   ·exact hE.append (.cons ⟨_,rfl⟩ .nil)
   ·dsimp only
    rw[show v / 128*128+v % 128=v by (exact Int.le_antisymm (lin (.h 1 (.E (.a (.r 128 Z0) Z1) Z2) (.G 1 (.L (.a (.m Z0 128) Z1) Z2))) rfl [] [_,_,_] (Int.mul_ediv_add_emod _ _)) (lin (.h 1 (.D (.a (.r 128 Z1) Z2) Z0) (.G 1 (.L Z0 (.a (.m Z1 128) Z2)))) rfl [] [_,_,_] (Int.mul_ediv_add_emod _ _)))];exact hst
   ·dsimp only;(exact lin (.h 1 (.L (.c 0) Z1) (.h 1 (.D (.a (.r 128 Z0) Z2) Z1) (.h 1 (.T Z2 (.c 128)) (.G 128 (.L (.c 0) Z0))))) rfl [] [_,_,_] hv0 (Int.mul_ediv_add_emod _ _) (Int.emod_lt_of_pos _ (by decide)))
   ·dsimp only;(exact lin (.h 1 (.L (.c 0) Z0) (.G 1 (.L (.c 0) Z0))) rfl [] [_] (Int.emod_nonneg _ (by decide)))
   ·dsimp only;(exact lin (.h 1 (.T Z0 (.c 128)) (.G 1 (.T Z0 (.c 128)))) rfl [] [_] (Int.emod_lt_of_pos _ (by decide)))
   ·dsimp only;(exact lin (.h 127 (.T Z0 (.c 128)) (.h 127 (.T (.c 127) (.a (.m Z1 128) Z0)) (.h 128 (.E (.a (.r 128 Z2) Z3) Z1) (.h 128 (.L (.c 0) Z3) (.h 16384 (.E Y0 Z2) (.h 16384 (.D Y1 Z1) (.G 16384 (.t Y0 Y1)))))))) rfl [_,_] [_,_,_,_] hb1 hx (Int.mul_ediv_add_emod _ _) (Int.emod_nonneg _ (by decide)) (Int.toNat_of_nonneg (lin (.h 1 (.L (.c 0) Z1) (.h 1 (.D (.a (.r 128 Z0) Z2) Z1) (.h 1 (.T Z2 (.c 128)) (.G 128 (.L (.c 0) Z0))))) rfl [] [_,_,_] hv0 (Int.mul_ediv_add_emod _ _) (Int.emod_lt_of_pos _ (by decide)))) (Int.toNat_of_nonneg (lin (.h 1 (.L (.c 0) Z0) (.G 1 (.L (.c 0) Z0))) rfl [] [_] hv0)))
  ·refine method_bytes_join ?_
   walk_at "go"
   rename_i kF kN kT kX
   have hv:v=0:=by assumption
   subst hv
   have hlast:=vint_last hp (show ¬ (127:Int)<0*128+b by exact lin (.h 1 (.T Z0 (.c 128)) (.G 1 (.nT (.c 127) (.a (.r 0 (.c 128)) Z0)))) rfl [] [_] hb1)
   rw[show (0:Int)*128+b=b by (exact Int.le_antisymm (lin (.G 1 (.L (.a (.r 0 (.c 128)) Z0) Z0)) rfl [] [_]) (lin (.G 1 (.L Z0 (.a (.r 0 (.c 128)) Z0))) rfl [] [_]))] at hlast
   simp only[List.push_toArray] at kN
   refine call_bytes_join (bl:=(pf++[b]).map fun x=>[UInt8.ofNat x.toNat]) (Each.map (S:=fun (b:List UInt8) (v:Value)=>∃t,v=Value.bytes b.toArray t) (fun x:Int=>[UInt8.ofNat x.toNat]) (fun _ _ z=>z) (hE.append (.cons ⟨_,rfl⟩ .nil))) (isList_led kN (.tail _ (.head _))) ?sz ?_
   case sz=>
    rw[flatten_single,List.length_map,hlast];(exact lin (.h 1 (.l Y0 (.a (.c 9) (.c 1))) (.G 1 (.l Y0 (.c 16777216)))) rfl [_] [] hvl)
   intro t7 k7
   rw[joinedB,flatten_single,hlast]
   walk_at "go"
   refine call_bytes_bytes ?_
   walk_at "go"
   rename_i kF2 kN2 kT2 kX2
   refine ret _ tl (TB (tl++fz)) [(287,tabObj ps1),(273,tabObj ps2')] _ _ kF2 (fun q hq=>kN2 q ?_) (.cons ⟨_,rfl,HTa.mono fun p h=>mR _ h⟩ (.cons ⟨_,rfl,HT2⟩ .nil)) rfl (fun q hq p hp=>labove q (.tail _ (.tail _ (.tail _ (.tail _ hq)))) p hp) (fC ⟨fun p hp=>Nat.ne_of_gt (labove (287,_) (.tail _ (.tail _ (.head _))) p hp),fC ⟨fun p hp=>Nat.ne_of_gt (labove (273,_) (.tail _ (.tail _ (.tail _ (.head _)))) p hp),allP⟩⟩) (.mk (ub_byteL (vint_bound _ (Nat.le_refl _) (by exact lin (.h 8 (.L (.c 0) Z0) (.G 1 (.L (.c 0) (.a (.m Z0 8) (.c 4))))) rfl [] [_] h0))) fun p h=>h)
   rcases List.mem_cons.mp hq with rfl|hq
   ·exact .tail _ (.tail _ (.tail _ (.tail _ (.tail _ (.head _)))))
   ·rcases List.mem_cons.mp hq with rfl|hq
    ·exact .tail _ (.tail _ (.tail _ (.tail _ (.tail _ (.tail _ (.head _))))))
    ·exact .tail _ (.tail _ (.tail _ (.tail _ (.tail _ (.tail _ (.tail _ hq))))))
noncomputable abbrev dEnt (w:World) (x:Str) (t:Tok) (v:Value):DictEntry:={hash:=PyData.keyHash w.params x,key:= .str x t,val:=v}
inductive FieldAt (w:World) (RA:Led→List Rw→Addr→Prop) (news:Led) (r:Rw) (v:Value):Prop
 |mk (a d:Addr) (t1 t2 t3 k1 k2:Tok) (V:Value) (h0:v= .ref a) (h1:(a,instObj 52 d)∈news)
  (h2:(d,dictOf [dEnt w (Str.ofString "_field_number") t1 (.int r.1 k1),dEnt w (Str.ofString "_wire_type") t2 (.int r.2.1 k2),dEnt w (Str.ofString "_data") t3 V] 3)∈news) (h3:DatAt RA news r.2.2 V):FieldAt w RA news r v
inductive SetB (w:World) (F:Rw→Value→Prop) (news:Led) (rows:List Rw) (a:Addr):Prop
 |mk (d:Addr) (t:Tok) (l:Addr) (vs:List Value) (c:Nat) (h1:(a,instObj 181 d)∈news) (h2:(d,dictOf [dEnt w (Str.ofString "_values") t (.ref l)] 1)∈news) (h3:(l,listOf vs.toArray c)∈news) (h4:Each F rows vs):SetB w F news rows a
noncomputable def SetAt (w:World):Nat→Led→List Rw→Addr→Prop
 |0,_,_,_=>False
 |n+1,news,rows,a=>SetB w (FieldAt w (SetAt w n) news) news rows a
theorem FieldAt.imp {w:World} {RA RA':Led→List Rw→Addr→Prop} {news news':Led} {r:Rw} {v:Value} (hs:∀p∈news,p∈news') (hr:∀g l,r.2.2= .grp g→RA news g l→RA' news' g l) (x:FieldAt w RA news r v):FieldAt w RA' news' r v:=by
 cases x with
 |mk a d t1 t2 t3 k1 k2 V h0 h1 h2 h3=>exact .mk a d t1 t2 t3 k1 k2 V h0 (hs _ h1) (hs _ h2) (h3.imp hr)
theorem FieldAt.mono {w:World} {RA:Led→List Rw→Addr→Prop} {news news':Led} {r:Rw} {v:Value} (hs:∀p∈news,p∈news') (hr:∀g l,RA news g l→RA news' g l) (x:FieldAt w RA news r v):FieldAt w RA news' r v:=x.imp hs fun g l _=>hr g l
theorem SetAt.imp {w:World} {n m:Nat} {news news':Led} {rows:List Rw} {a:Addr} (hs:∀p∈news,p∈news') (hr:∀r∈rows,∀g l,r.2.2= .grp g→SetAt w n news g l→SetAt w m news' g l) (h:SetAt w (n+1) news rows a):SetAt w (m+1) news' rows a:=by
 cases h with
 |mk d t l vs c h1 h2 h3 h4=>exact .mk d t l vs c (hs _ h1) (hs _ h2) (hs _ h3) (h4.mono_mem fun r hm _ x=>x.imp hs (hr r hm))
theorem SetAt.mono {w:World} {news news':Led} (hs:∀p∈news,p∈news') {d:Nat}:∀{rows:List Rw} {a:Addr},SetAt w d news rows a→SetAt w d news' rows a:=by
 induction d with
 |zero=>exact fun h=>h.elim
 |succ d ih=>exact fun h=>h.imp hs fun _ _ _ _ _ z=>ih z
theorem SetAt.up {w:World} {news:Led} {d:Nat}:∀{rows:List Rw} {a:Addr},SetAt w d news rows a→SetAt w (d+1) news rows a:=by
 induction d with
 |zero=>exact fun h=>h.elim
 |succ d ih=>exact fun h=>h.imp (fun _ h=>h) fun _ _ _ _ _ z=>ih z
theorem SetAt.le {w:World} {news:Led} {d d':Nat} {rows:List Rw} {l:Addr} (h:SetAt w d news rows l) (hd:d≤d'):SetAt w d' news rows l:=by
 induction hd with
 |refl=>exact h
 |step _ ih=>exact ih.up
theorem DatAt.leS {w:World} {news:Led} {d d':Nat} {x:Dat} {v:Value} (h:DatAt (SetAt w d) news x v) (hd:d≤d'):DatAt (SetAt w d') news x v:=by
 cases x with
 |num=>exact h
 |byt=>exact h
 |grp g=>obtain ⟨l,h1,h2⟩:=h;exact ⟨l,h1,h2.le hd⟩
theorem allgt {q x:Addr×Obj} {l:Led} (h1:q.1<x.1) (h2:∀p∈l,q.1<p.1):∀p∈x::l,q.1<p.1:=fC ⟨h1,h2⟩
open PySem.SeqAt in
theorem EqAt_bytes {A:Around} {s:Shared} (b:List UInt8) (t u:Tok):EqAt A s (.bytes b.toArray t) (.bytes b.toArray u) true:=fun prog w E Q hq=>by
 have hr:RcAt A s (.bytes b.toArray t) (.bytes b.toArray u) true:=fun prog w E Q h=>eq_bytes (by rw[beq_self_eq_true];exact h)
 unfold eqBool
 refine wpAny_holding ?_
 refine wpAny_ite_split (fun hab=>wpAny_bind (wpAny_rule (wpAny_pure hq))) fun _=> ?_
 exact wpAny_bind (hr prog w E _ (wpAny_truthy_bool hq))
theorem all_true (n:Nat):(List.range n).all (fun _=>true)=true:=by simp
open PySem.SeqAt in
theorem EqAt_int {A:Around} {s:Shared} (x:Int) (t u:Tok):EqAt A s (.int x t) (.int x u) true:=by
 have:=EqAt.int_int (A:=A) (s:=s) x t x u
 rwa [beq_self_eq_true] at this
open PySem.SeqAt in
theorem EqAt_row {A:Around} {s:Shared} {a b:Addr} {x y:Int} {t1 t2 t3 t4:Tok} {V U:Value} (h1:s.heap.get? a=some (tupO [.int x t1,.int y t2,V])) (h2:s.heap.get? b=some (tupO [.int x t3,.int y t4,U])) (hu:A.units<cLine)
  (h:EqAt A.in1 s V U true):EqAt A s (.ref a) (.ref b) true:=by
 by_cases hab:a=b
 ·subst hab;exact EqAt.same _
 refine EqAt.of_refs hab ?_
 have hT:=RcAt.tuples (A:=A) (s:=s) (l:=a) (b:=b) (e:=fun _=>true) ⟨_,h1,rfl,_,rfl⟩ ⟨_,h2,rfl,_,rfl⟩ hu (fun j j1 j2=>by
  cases j with
  |zero=>exact EqAt_int _ _ _
  |succ j=>cases j with
   |zero=>exact EqAt_int _ _ _
   |succ j=>cases j with
    |zero=>exact h
    |succ j=>exact absurd j1 (Nat.not_lt_of_le (Nat.le_add_left 3 j)))
 rw[all_true] at hT
 exact hT
theorem arr_at {vs:List Value} {j:Nat} {v:Value} (h:vs[j]? =some v) (h1:j<vs.toArray.size):vs.toArray[j]=v:=by
 have h2:j<vs.length:=by simpa using h1
 have:=List.getElem?_eq_getElem h2
 rw[h] at this
 simpa using this.symm
open PySem.SeqAt in
theorem rows_rc (d:Nat):∀{A:Around} {s:Shared} {led:Led} {rows:List Rw} {l k:Addr},(∀p∈led,s.heap.get? p.1=some p.2)→RowsAt d led rows l→RowsAt d led rows k→A.units+2*d<cLine→
  ∃xs ys:Array Value,s.heap.IsList l xs∧s.heap.IsList k ys∧xs.size=ys.size∧∀j (h1:j<xs.size) (h2:j<ys.size),EqAt A.in1 s xs[j] ys[j] true:=by
 induction d with
 |zero=>intro _ _ _ _ _ _ _ h;exact h.elim
 |succ d ih=>
  intro A s led rows l k hl hA hB hu
  obtain ⟨vs,c,h1,h2⟩:=hA
  obtain ⟨us,c',h3,h4⟩:=hB
  refine ⟨vs.toArray,us.toArray,⟨_,hl _ h1,rfl,_,rfl⟩,⟨_,hl _ h3,rfl,_,rfl⟩,by rw[List.size_toArray,List.size_toArray,←h2.length,h4.length],fun j j1 j2=> ?_⟩
  obtain ⟨r,v,e1,e2,R1⟩:=h2.get j (by simpa using j1)
  obtain ⟨r',u,e3,e4,R2⟩:=h4.get j (by simpa using j2)
  rw[e1] at e3;cases e3
  rw[arr_at e2,arr_at e4]
  obtain ⟨a,t1,t2,V,rfl,m1,D1⟩:=R1
  obtain ⟨b,t3,t4,U,rfl,m2,D2⟩:=R2
  refine EqAt_row (hl _ m1) (hl _ m2) (by show A.units+1<cLine;(exact lin (.h 1 (.t (.a Y0 (.r 2 (.a Y2 (.c 1)))) Y1) (.G 1 (.t (.a Y0 (.c 1)) Y1))) rfl [_,_,_] [] hu)) ?_
  revert D1 D2
  generalize r.2.2=x
  intro D1 D2
  cases x with
  |num y=>
   obtain ⟨t5,rfl⟩:=D1
   obtain ⟨t6,rfl⟩:=D2
   exact EqAt_int _ _ _
  |byt b=>
   obtain ⟨t5,rfl⟩:=D1
   obtain ⟨t6,rfl⟩:=D2
   exact EqAt_bytes _ _ _
  |grp g=>
   obtain ⟨l2,rfl,G1⟩:=D1
   obtain ⟨k2,rfl,G2⟩:=D2
   by_cases hlk:l2=k2
   ·subst hlk;exact EqAt.same _
   obtain ⟨xs,ys,q1,q2,q3,q4⟩:=ih (A:=A.in1.in1) hl G1 G2 (by show A.units+1+1+2*d<cLine;(exact lin (.h 1 (.t (.a Y0 (.r 2 (.a Y1 (.c 1)))) Y2) (.G 1 (.t (.a (.a (.a Y0 (.c 1)) (.c 1)) (.r 2 Y1)) Y2))) rfl [_,_,_] [] hu))
   have:=RcAt.lists (e:=fun _=>true) q1 q2 q3 (by show A.units+1+1<cLine;(exact lin (.h 1 (.t (.a Y0 (.r 2 (.a Y2 (.c 1)))) Y1) (.G 1 (.t (.a (.a Y0 (.c 1)) (.c 1)) Y1))) rfl [_,_,_] [] hu)) q4
   rw[all_true] at this
   exact EqAt.of_refs hlk this
open PySem.SeqAt in
theorem rows_ne {prog:Program} {w:World} {A:Around} {E:Value→Shared→Prop} {Q:Value→Shared→Prop} {s:Shared} {led:Led} {rows:List Rw} {l k:Addr} {d:Nat} (hl:∀p∈led,s.heap.get? p.1=some p.2) (h1:RowsAt d led rows l) (h2:RowsAt d led rows k) (hu:A.units+2*d<cLine)
  (h:Q (.bool false) s):wpAny (model prog w) A (compareOp .NotEq (.ref l) (.ref k)) Q E s:=by
 obtain ⟨xs,ys,q1,q2,q3,q4⟩:=rows_rc d hl h1 h2 hu
 have:=RcNeAt.lists (e:=fun _=>true) q1 q2 q3 (by exact lin (.h 1 (.t (.a Y0 (.r 2 Y2)) Y1) (.G 1 (.t Y0 Y1))) rfl [_,_,_] [] hu) q4
 rw[all_true] at this
 exact this prog w E Q h
structure StableOf {α:Type} (key:α→Int) (l s:List α):Prop where
 up:s.Pairwise fun a b=>key a≤key b
 fil:∀k,s.filter (fun a=>key a==k)=l.filter (fun a=>key a==k)
theorem filt_cons {α:Type} {key:α→Int} {x:α} {l:List α} (k:Int):(x::l).filter (fun a=>key a==k)=if key x=k then x::l.filter (fun a=>key a==k) else l.filter (fun a=>key a==k):=by
 rw[List.filter_cons]
 by_cases h:key x=k
 ·simp[h]
 ·simp[h]
theorem stable_unique {α:Type} {key:α→Int}:∀{s t:List α},s.Pairwise (fun a b=>key a≤key b)→t.Pairwise (fun a b=>key a≤key b)→(∀k,s.filter (fun a=>key a==k)=t.filter (fun a=>key a==k))→s=t
 |[],[],_,_,_=>rfl
 |[],y::u,_,_,h=>by have:=h (key y);rw[filt_cons,if_pos rfl] at this;simp at this
 |x::s,[],_,_,h=>by have:=h (key x);rw[filt_cons,if_pos rfl] at this;simp at this
 |x::s,y::u,h1,h2,h=>by
  have hx:x∈y::u:=by
   have:x∈(y::u).filter (fun a=>key a==key x):=by rw[←h (key x),filt_cons,if_pos rfl];exact .head _
   exact (List.mem_filter.mp this).1
  have hy:y∈x::s:=by
   have:y∈(x::s).filter (fun a=>key a==key y):=by rw[h (key y),filt_cons,if_pos rfl];exact .head _
   exact (List.mem_filter.mp this).1
  obtain ⟨p1,p2⟩:=List.pairwise_cons.mp h1
  obtain ⟨q1,q2⟩:=List.pairwise_cons.mp h2
  have e1:key y≤key x:=by
   rcases List.mem_cons.mp hx with rfl|hx
   ·exact Int.le_refl _
   ·exact q1 x hx
  have e2:key x≤key y:=by
   rcases List.mem_cons.mp hy with rfl|hy
   ·exact Int.le_refl _
   ·exact p1 y hy
  have e:key x=key y:=Int.le_antisymm e2 e1
  have hh:=h (key x)
  rw[filt_cons,filt_cons,if_pos rfl,if_pos e.symm] at hh
  injection hh with hxy ht
  subst hxy
  rw[stable_unique p2 q2 fun k=> ?_]
  have hk:=h k
  rw[filt_cons,filt_cons] at hk
  by_cases c:key x=k
  ·rw[if_pos c,if_pos c] at hk
   injection hk
  ·rw[if_neg c,if_neg c] at hk
   exact hk
theorem StableOf.eq {α:Type} {key:α→Int} {l m s t:List α} (h1:StableOf key l s) (h2:StableOf key m t) (h:∀k,l.filter (fun a=>key a==k)=m.filter (fun a=>key a==k)):s=t:=
 stable_unique h1.up h2.up fun k=>by rw[h1.fil,h2.fil,h]
theorem StableOf.mem {α:Type} {key:α→Int} {l s:List α} (h:StableOf key l s) (x:α):x∈s↔x∈l:=by
 have e:∀m:List α,x∈m↔x∈m.filter (fun a=>key a==key x):=fun m=>by simp
 rw[e s,h.fil,←e l]
theorem filter_len_sum {α:Type} {key:α→Int}:∀{s l:List α},(∀k,s.filter (fun a=>key a==k)=l.filter (fun a=>key a==k))→s.Perm l
 |[],[],_=> .refl _
 |[],y::u,h=>by have:=h (key y);rw[filt_cons,if_pos rfl] at this;simp at this
 |x::s,l,h=>by
  have hx:x∈l:=by
   have:x∈l.filter (fun a=>key a==key x):=by rw[←h (key x),filt_cons,if_pos rfl];exact .head _
   exact (List.mem_filter.mp this).1
  obtain ⟨a,b,rfl,hna⟩:∃a b,l=a++x::b∧∀y∈a,key y≠key x:=by
   have hf:=h (key x)
   rw[filt_cons,if_pos rfl] at hf
   clear h hx
   revert hf
   induction l with
   |nil=>intro hf;simp at hf
   |cons z l ih=>
    intro hf
    rw[filt_cons] at hf
    by_cases c:key z=key x
    ·rw[if_pos c] at hf
     injection hf with hz _
     exact ⟨[],l,by rw[hz];rfl,fun y hy=>absurd hy List.not_mem_nil⟩
    ·rw[if_neg c] at hf
     obtain ⟨a,b,e,hn⟩:=ih hf
     exact ⟨z::a,b,by rw[e];rfl,fC ⟨c,hn⟩⟩
  have hp:s.Perm (a++b):=filter_len_sum fun k=>by
   have hk:=h k
   rw[filt_cons,List.filter_append,filt_cons] at hk
   rw[List.filter_append]
   by_cases c:key x=k
   ·rw[if_pos c,if_pos c] at hk
    have ha:a.filter (fun a=>key a==k)=[]:=List.filter_eq_nil_iff.mpr fun y hy=>by
     have:=hna y hy
     simp;rw[←c];exact this
    rw[ha] at hk ⊢
    injection hk
   ·rw[if_neg c,if_neg c] at hk
    exact hk
  exact (hp.cons x).trans List.perm_middle.symm
theorem StableOf.perm {α:Type} {key:α→Int} {l s:List α} (h:StableOf key l s):s.Perm l:=filter_len_sum h.fil
noncomputable def insR {α:Type} (key:α→Int) (x:α) (l:List α):List α:=l.filter (fun a=>decide (key a≤key x))++x::l.filter (fun a=>decide (key x<key a))
theorem insR_stable {α:Type} {key:α→Int} {x:α} {l s:List α} (h:StableOf key l s):StableOf key (l++[x]) (insR key x s) where
 up:=by
  unfold insR
  rw[List.pairwise_append]
  refine ⟨h.up.filter _,List.pairwise_cons.mpr ⟨fun a ha=> ?_,h.up.filter _⟩,fun a ha b hb=> ?_⟩
  ·have:=(List.mem_filter.mp ha).2;simp at this;(exact lin (.h 1 (.T Z0 Z1) (.G 1 (.L Z0 Z1))) rfl [] [_,_] this)
  ·have h1:=(List.mem_filter.mp ha).2
   simp at h1
   rcases List.mem_cons.mp hb with rfl|hb
   ·exact h1
   ·have h2:=(List.mem_filter.mp hb).2;simp at h2;(exact lin (.h 1 (.L Z0 Z2) (.h 1 (.T Z2 Z1) (.G 1 (.L Z0 Z1)))) rfl [] [_,_,_] h1 h2)
 fil:=fun k=>by
  unfold insR
  rw[List.filter_append,filt_cons,List.filter_append,filt_cons,List.filter_filter,List.filter_filter]
  have e:∀(p:α→Bool),(∀a,key a=k→p a=true)→s.filter (fun a=>(key a==k) && p a)=l.filter (fun a=>key a==k):=fun p hp=>by
   rw[←h.fil]
   refine List.filter_congr fun a _=> ?_
   by_cases c:key a=k
   ·simp[c,hp a c]
   ·simp[c]
  have e0:∀(p:α→Bool),(∀a,key a=k→p a=false)→s.filter (fun a=>(key a==k) && p a)=[]:=fun p hp=>List.filter_eq_nil_iff.mpr fun a _=>by
   by_cases c:key a=k
   ·simp[c,hp a c]
   ·simp[c]
  by_cases c:k≤key x
  ·rw[e _ fun a ha=>by simp[ha,c],e0 _ fun a ha=>by simp[ha];omega]
   simp
  ·rw[e0 _ fun a ha=>by simp[ha];(exact lin (.h 1 (.nL Z1 Z0) (.G 1 (.T Z0 Z1))) rfl [] [_,_] c),e _ fun a ha=>by simp[ha];(exact lin (.h 1 (.nL Z1 Z0) (.G 1 (.T Z0 Z1))) rfl [] [_,_] c),if_neg (by exact fun eN=>lin (.h 1 (.nL Z0 Z1) (.h 1 (.D Z1 Z0) .F)) rfl [] [_,_] c eN)]
   simp;intro h;(exact lin (.h 1 (.nL Z0 Z1) (.h 1 (.D Z1 Z0) .F)) rfl [] [_,_] c h)
noncomputable def sortK {α:Type} (key:α→Int) (l:List α):List α:=l.foldl (fun s x=>insR key x s) []
theorem sortK_snoc {α:Type} (key:α→Int) (l:List α) (x:α):sortK key (l++[x])=insR key x (sortK key l):=by unfold sortK;rw[List.foldl_append];rfl
theorem sortK_stable {α:Type} (key:α→Int) (l:List α):StableOf key l (sortK key l):=by
 have h:∀(r:List α),StableOf key r.reverse (sortK key r.reverse):=fun r=>by
  induction r with
  |nil=>exact ⟨.nil,fun k=>rfl⟩
  |cons x r ih=>rw[List.reverse_cons,sortK_snoc];exact insR_stable ih
 have:=h l.reverse
 rwa [List.reverse_reverse] at this
theorem wrs_cons (d:Nat) (r:Rw) (rows:List Rw):wrs (d+1) (r::rows)=wrow (wrs d) r++wrs (d+1) rows:=by simp only[wrs,List.map_cons,List.flatten_cons]
theorem vint10 {v:Int} (h:v<2 ^ 64):(vint v).length≤10:=vint_len 9 v (Int.lt_trans h (by decide))
theorem FdR.wlen {bs:List Int} (hb:∀b∈bs,0≤b∧b<256) (hl:bs.length<2 ^ 16) {q:Nat} {w:Int} {x:Dat} {q2:Nat} {G:List Rw→List Int} {at_:Nat} {n:Int} (hat:at_<q) (htl:(vint (n*8+w)).length≤10) (f:FdR bs (fun _ _=>False) q w x q2):(wrow G (n,w,x)).length+30*at_≤30*q2:=by
 unfold wrow
 dsimp only
 rw[List.length_append]
 cases f with
 |num e=>
  have hv:=rvar_range hb e
  have:=vint10 hv.2.1
  dsimp only
  rw[if_pos rfl];(exact lin (.h 30 (.t Y2 Y4) (.h 1 (.l Y0 (.c 10)) (.h 30 (.t Y4 Y3) (.h 1 (.l Y1 (.c 10)) (.G 1 (.l (.a (.a Y0 Y1) (.r 30 Y2)) (.r 30 Y3))))))) rfl [_,_,_,_,_] [] hat htl hv.2.2.1 this)
 |f8 c=>
  dsimp only
  rw[if_neg (by decide),if_pos rfl,little_length];(exact lin (.h 30 (.t Y1 Y2) (.h 1 (.l Y0 (.c 10)) (.G 1 (.l (.a (.a Y0 (.c 8)) (.r 30 Y1)) (.r 30 (.a Y2 (.c 8))))))) rfl [_,_,_] [] hat htl)
 |f4 c=>
  dsimp only
  rw[if_neg (by decide),if_neg (by decide),little_length];(exact lin (.h 30 (.t Y1 Y2) (.h 1 (.l Y0 (.c 10)) (.G 1 (.l (.a (.a Y0 (.c 4)) (.r 30 Y1)) (.r 30 (.a Y2 (.c 4))))))) rfl [_,_,_] [] hat htl)
 | @byt v3 p3 e=>
  have hv:=rvar_range hb e
  dsimp only
  have hbl:(((bs.drop p3).take v3.toNat).map fun b=>UInt8.ofNat b.toNat).length≤v3.toNat∧(((bs.drop p3).take v3.toNat).map fun b=>UInt8.ofNat b.toNat).length≤bs.length:=by
   rw[List.length_map,List.length_take,List.length_drop]
   exact ⟨Nat.min_le_left _ _,Nat.le_trans (Nat.min_le_right _ _) (Nat.sub_le _ _)⟩
  generalize ((bs.drop p3).take v3.toNat).map (fun b=>UInt8.ofNat b.toNat)=B at hbl ⊢
  have:=vint_len 2 (B.length:Int) (by exact lin (.h 1 (.t Y1 (.c 65536)) (.h 1 (.l Y0 Y1) (.G 1 (.T Y0 (.c 2097152))))) rfl [_,_] [] hl hbl.2)
  rw[List.length_append,ub_length];(exact lin (.h 30 (.t Y3 Y6) (.h 1 (.l Y0 (.c 10)) (.h 30 (.t Y6 Y4) (.h 1 (.l Y2 Y5) (.h 1 (.l Y1 (.a (.c 2) (.c 1))) (.G 1 (.l (.a (.a Y0 (.a Y1 Y2)) (.r 30 Y3)) (.r 30 (.a Y4 Y5))))))))) rfl [_,_,_,_,_,_,_] [] hat htl hv.2.2.1 hbl.1 this)
 |grp h=>exact h.elim
theorem wlen_row {d k q2 p:Nat} {r:Rw} {rs:List Rw} {c:Int} (hrow:(wrow (wrs d) r).length+30*k≤30*q2) (g:(wrs (d+1) rs).length+30*q2≤30*p∧(0≤c→(wrs (d+1) rs).length+30+30*q2≤30*p)):(wrs (d+1) (r::rs)).length+30*k≤30*p∧(0≤c→(wrs (d+1) (r::rs)).length+30+30*k≤30*p):=by
 rw[wrs_cons,List.length_append]
 exact ⟨by exact lin (.h 1 (.l (.a Y0 (.r 30 Y2)) (.r 30 Y4)) (.h 1 (.l (.a Y1 (.r 30 Y4)) (.r 30 Y3)) (.G 1 (.l (.a (.a Y0 Y1) (.r 30 Y2)) (.r 30 Y3))))) rfl [_,_,_,_,_] [] hrow g.1,fun h0=>by have:=g.2 h0;(exact lin (.h 1 (.l (.a Y0 (.r 30 Y2)) (.r 30 Y4)) (.h 1 (.l (.a (.a Y1 (.c 30)) (.r 30 Y4)) (.r 30 Y3)) (.G 1 (.l (.a (.a (.a Y0 Y1) (.c 30)) (.r 30 Y2)) (.r 30 Y3))))) rfl [_,_,_,_,_] [] hrow this)⟩
theorem tag_len {bs:List Int} (hb:∀b∈bs,0≤b∧b<256) {k q:Nat} {tag:Int} (e:rtag bs k= .ok (tag,q)):(vint (tag / 8*8+tag % 8)).length≤10:=by
 have hr:=rtag_range hb e
 have htl:=vint10 (v:=tag / 8*8+tag % 8) (by exact lin (.h 1 (.T Z2 (.c 18446744073709551616)) (.h 1 (.E (.a (.r 8 Z0) Z1) Z2) (.G 1 (.T (.a (.m Z0 8) Z1) (.c 18446744073709551616))))) rfl [] [_,_,_] hr.2.1 (Int.mul_ediv_add_emod _ _))
 exact htl
theorem RS.wlen {bs:List Int} (hb:∀b∈bs,0≤b∧b<256) (hl:bs.length<2 ^ 16) {en k lv:Nat} {rows:List Rw} {p:Nat} {c:Int} (h:RS bs en lv k rows p c):
  ∀{d:Nat},lv+d=99→(wrs (d+1) rows).length+30*k≤30*p∧(0≤c→(wrs (d+1) rows).length+30+30*k≤30*p):=by
 induction h with
 |fin=>exact fun _=>⟨Nat.le_of_eq (Nat.zero_add _),fun h=>absurd h (by decide)⟩
 | @stop lv k t p e _=>
  intro d _
  have h1:=(rtag_range hb e).2.2.1
  have h2:(wrs (d+1) []).length=0:=rfl
  rw[h2]
  exact ⟨by exact lin (.h 30 (.t Y0 Y1) (.G 1 (.l (.a (.c 0) (.r 30 Y0)) (.r 30 Y1)))) rfl [_,_] [] h1,fun _=>by exact lin (.h 30 (.t Y0 Y1) (.G 1 (.l (.a (.a (.c 0) (.c 30)) (.r 30 Y0)) (.r 30 Y1)))) rfl [_,_] [] h1⟩
 |row e hww f _ _ ih=>
  intro d hd
  subst hww
  exact wlen_row (f.wlen hb hl (rtag_range hb e).2.2.1 (tag_len hb e)) (ih hd)
 | @grp lv k t q g q2 rs p c e h3 hlv _ hg _ i1 i2=>
  intro d hd
  cases d with
  |zero=>rw[Nat.add_zero] at hd;rw[hd] at hlv;exact absurd hlv (by decide)
  |succ d=>
   have hr:=rtag_range hb e
   have g5:=(i1 (d:=d) (by rw[Nat.succ_add];exact hd)).2 (Int.ediv_nonneg hr.1 (by decide))
   have htl:=tag_len hb e
   have:=vint10 (v:=t / 8*8+4) (by omega)
   refine wlen_row ?_ (i2 hd)
   unfold wrow
   dsimp only
   rw[List.length_append,List.length_append];(exact lin (.h 30 (.t Y3 Y5) (.h 1 (.l Y0 (.c 10)) (.h 1 (.l (.a (.a Y1 (.c 30)) (.r 30 Y5)) (.r 30 Y4)) (.h 1 (.l Y2 (.c 10)) (.G 1 (.l (.a (.a Y0 (.a Y1 Y2)) (.r 30 Y3)) (.r 30 Y4))))))) rfl [_,_,_,_,_,_] [] hr.2.2.1 htl g5 this)
theorem rset_wlen {bs:List Int} (hb:∀b∈bs,0≤b∧b<256) (hl:bs.length<2 ^ 16) {en n k lv:Nat} {rows:List Rw} {p:Nat} {c:Int} (hlv:lv<100) (h:rset bs en n k lv= .ok (rows,p,c)):
  (wrs (100 - lv) rows).length+30*k≤30*p∧(0≤c→(wrs (100 - lv) rows).length+30+30*k≤30*p):=by
 have e:=(rset_R h).wlen hb hl (d:=99 - lv) (Nat.add_sub_cancel' (Nat.le_of_lt_succ hlv))
 rwa [←Nat.sub_add_comm (Nat.le_of_lt_succ hlv)] at e
theorem wrs_sum (d:Nat):∀rows:List Rw,(wrs (d+1) rows).length=(rows.map fun r=>(wrow (wrs d) r).length).sum
 |[]=>rfl
 |r::rows=>by rw[wrs_cons,List.length_append,wrs_sum d rows,List.map_cons,List.sum_cons]
theorem wrs_perm {d:Nat} {rows rows':List Rw} (h:rows.Perm rows'):(wrs (d+1) rows).length=(wrs (d+1) rows').length:=by
 rw[wrs_sum,wrs_sum];exact (h.map _).sum_nat
section
open KBw
variable {prog:Program} {w:World} {A:Around} {E:Value→Shared→Prop} {s:Shared}
noncomputable abbrev OctAt (b:Array UInt8) (i:Nat) (v:Value):Prop:=∃c u,b[i]? =some c∧v= .int (c.toNat:Int) u
theorem extend_bytes {R:Result→Shared→Prop} (hh:A.handled=none) (b:Array UInt8) (t:Tok) (S:Addr) (c₀:Nat) (hS:s.heap.get? S=some {cls:= .type "list",data:= .seq #[] c₀}) (hn:b.size≤sizeLine)
  (hR:∀h' tk acc' c',(∀a o,a≠S→s.heap.get? a=some o→h'.get? a=some o)→h'.get? S=some {cls:= .type "list",dict:=none,data:= .seq acc' c',slots:= #[]}→
   ItemsOf (OctAt b) acc' b.size→R (.ok (.ret .none)) {s with heap:=h',toks:=tk}):
  wpAny (model prog w) A.in1 (Builtin.List.listExtendWith (.ref S) (.bytes b t) .none)
   (fun fin s'=>match fin with| .done f=>R (.ok f) s'| .again c'=>c'.quiet=true∧codeAny (model prog w) A c' R s') (fun e s'=>R (.error e) s') s:=by
 have hSI:S≠s.heap.objs.size:=Nat.ne_of_lt (Heap.lt_size hS)
 have hSf:S∉[s.heap.objs.size]:=fun hm=>hSI (List.mem_singleton.mp hm)
 unfold Builtin.List.listExtendWith
 refine wpAny_bind (wpAny_typeOf (T:="bytes") (v:= .bytes b t) rfl ?_)
 have h1:Builtin.List.listSameRef (.ref S) (.bytes b t)=false:=rfl
 have h2:(Value.type "bytes"==Value.type "list")=false:=by decide
 have h3:(Value.type "bytes"==Value.type "tuple")=false:=by decide
 simp only[h1,h2,h3,Bool.or_false,Bool.false_eq_true,if_false]
 refine wpAny_bind (pyIter_bytes ?_)
 refine wpAny_bind (wpAny_holding ?_)
 unfold Builtin.List.listLengthHint
 refine wpAny_bind (wpAny_specialOf (T:="bytes") (v:= .bytes b t) rfl FB.slot_bytes_len.lookup ?_)
 wp_delta
 refine wpAny_bind (wpAny_isInstance (T:="bytes") (v:= .bytes b t) (b:=true) rfl (by rw[isSubtype_type];kernel_rfl) ?_)
 show wpAny _ _ (typeOf (Value.bytes b t)>>=_) _ _ _
 refine wpAny_bind (wpAny_typeOf (T:="bytes") (v:= .bytes b t) rfl ?_)
 refine wpAny_pure ?_
 rw[if_neg (by decide)]
 refine wpAny_pure ⟨plainId_quiet F.plain_extend_loop _,codeAny_extend_loopS (walks (A:=A.in1) hh s.heap.objs.size b t).toS hn _ hSf _ b.size 0 _ _ _ rfl (Nat.zero_le _) ⟨_,Heap.get?_push_size _ rfl,rfl,rfl⟩ (Heap.get?_push_of_some _ hS) (ItemsOf.nil _) fun s' acc' c' hm hS' hacc=> ?_⟩
 rw[Moved.eq_with hm]
 refine hR s'.heap s'.toks acc' c' (fun a ob ha e=>hm.heap a ob (fun hmem=> ?_) (Heap.get?_push_of_some _ e)) hS' hacc
 rcases List.mem_cons.mp hmem with e'|hmem
 ·exact ha e'
 ·exact absurd (Heap.lt_size e) (by rw[List.mem_singleton.mp hmem];exact Nat.lt_irrefl _)
theorem call_list_bytes {Q:Value→Shared→Prop} (hh:A.handled=none) (b:Array UInt8) (t:Tok) (hn:b.size≤sizeLine)
  (hQ:∀h' tk acc' c',(∀a o,s.heap.get? a=some o→h'.get? a=some o)→
   h'.get? s.heap.objs.size=some {cls:= .type "list",dict:=none,data:= .seq acc' c',slots:= #[]}→ItemsOf (OctAt b) acc' b.size→Q (.ref s.heap.objs.size) {s with heap:=h',toks:=tk}):
  wpAny (model prog w) A (call (.type "list") [.bytes b t]) Q E s:=by
 refine callType_codes (Q₁:=fun obj s₁=>obj= .ref s.heap.objs.size∧s₁={s with heap:=s.heap.push {cls:= .type "list",data:= .seq #[]}}) F.called_list (F.typeCall_list_1 _) F.entry_list_init
  (code_list_new _ ⟨rfl,rfl⟩) fun obj s₁ h₁=> ?_
 obtain ⟨rfl,rfl⟩:=h₁
 have hS:(s.heap.push {cls:= .type "list",data:= .seq #[]}).get? s.heap.objs.size=some {cls:= .type "list",data:= .seq #[]}:=Heap.get?_push_size _ rfl
 refine ⟨⟨_,hS,rfl⟩,F.args_list_init_2 _ _,?_⟩
 show wpAny _ _ (do let old ←Builtin.List.listItems (.ref s.heap.objs.size);Builtin.List.listUpdate (.ref s.heap.objs.size) (fun _=> #[]);letGo old.toList.reverse;Builtin.List.listExtendWith (.ref s.heap.objs.size) (.bytes b t) .none) _ _ _
 refine wpAny_bind ?_
 unfold Builtin.List.listItems
 refine wpAny_bind (wpAny_seqItems hS rfl (wpAny_pure ?_))
 show wpAny _ _ (updateSeq s.heap.objs.size (fun _=> #[])>>=fun _=>letGo (#[]:Array Value).toList.reverse>>=fun _=>Builtin.List.listExtendWith (.ref s.heap.objs.size) (.bytes b t) .none) _ _ _
 refine wpAny_bind (wpAny_updateSeq hS rfl ?_)
 have hS₂:=Heap.get?_update_self (Obj.mapSeq (fun _=>(#[]:Array Value))) hS rfl
 refine wpAny_bind (wpAny_letGo ?_)
 refine extend_bytes (A:=A.in1) (s:={s with heap:=(s.heap.push {cls:= .type "list",data:= .seq #[]}).update s.heap.objs.size (Obj.mapSeq (fun _=>(#[]:Array Value)))}) hh b t s.heap.objs.size _ hS₂ hn fun h' tk acc' c' hk hS' hacc=> ?_
 refine ⟨rfl,hQ h' tk acc' c' (fun a o e=>hk a o (Nat.ne_of_lt (Heap.lt_size e)) ?_) hS' hacc⟩
 exact (Heap.get?_update_other _ _ (Ne.symm (Nat.ne_of_lt (Heap.lt_size e)))).trans (Heap.get?_push_of_some _ e)
theorem list_bytes {h₀:Heap} {L:Addr} {m:Str→Option Value} {news:List (Addr×Obj)} {b:List UInt8} {t:Tok} {Q:Value→Shared→Prop} (hh:A.handled=none) (F:Fr h₀ L s.heap m) (N:News h₀ L s.heap news) (hn:b.length≤16777216)
  (h:∀D us c h' tk,Fr h₀ L h' m→News h₀ L h' ((D,listOf (List.toArray us) c)::news)→(∀p∈news,p.1<D)→IntsAre us (ub b)→Q (.ref D) {s with heap:=h',toks:=tk}):
  wpAny (model prog w) A (call (.type "list") [.bytes b.toArray t]) Q E s:=by
 refine call_list_bytes hh _ t (by rw[List.size_toArray,sizeLine_eq];exact hn) fun h' tk acc c hk hD hI=> ?_
 have hD':h'.get? s.heap.objs.size=some (listOf (List.toArray acc.toList) c):=by
  rw[Array.toArray_toList]
  exact hD
 refine h _ acc.toList c h' tk (F.keeps hk) (news_pushed F N hk hD' rfl) (fun p hp=>Heap.lt_size (N p hp).1) ?_
 have hlen:acc.toList.length=b.length:=by rw[Array.length_toList,hI.1,List.size_toArray]
 have hit:∀i v,acc.toList[i]? =some v→OctAt b.toArray i v:=fun i v hv=>hI.2 i v (by rw[←hv,Array.getElem?_toList])
 revert hlen hit
 generalize acc.toList=l
 clear hI hD' hD
 intro hlen hit
 have key:∀(l:List Value) (b:List UInt8),l.length=b.length→(∀i v,l[i]? =some v→OctAt b.toArray i v)→IntsAre l (ub b):=by
  intro l
  induction l with
  |nil=>intro b hb _;cases b with|nil=>exact .nil|cons=>cases hb
  |cons x l ih=>
   intro b hb hx
   cases b with
   |nil=>cases hb
   |cons c b=>
    obtain ⟨c',u,e,rfl⟩:=hx 0 x rfl
    obtain rfl:c=c':=by simpa using e
    refine .cons _ _ (ih b (by simpa using hb) fun i v hv=> ?_)
    obtain ⟨c2,u2,e2,rfl⟩:=hx (i+1) v (by simpa using hv)
    exact ⟨c2,u2,by simpa using e2,rfl⟩
 exact key l b hlen hit
end
noncomputable abbrev kz (p:Keyed):Int:=numOf p.1
noncomputable abbrev fz (v:Int) (l:List Keyed):List Keyed:=l.filter (fun p=>kz p==v)
noncomputable abbrev Upz (l:List Keyed):Prop:=l.Pairwise fun a b=>kz a≤kz b
theorem K_list {xs:Array Keyed} {i:Nat}:PyProof.Rows.K xs i=match xs.toList[i]? with|some p=>kz p|none=>0:=by
 unfold PyProof.Rows.K
 rw[Array.getElem?_toList]
 cases xs[i]? <;>rfl
theorem fz_app {v:Int} {a b:List Keyed}:fz v (a++b)=fz v a++fz v b:=List.filter_append ..
theorem fz_rev {v:Int} {a:List Keyed}:fz v a.reverse=(fz v a).reverse:=List.filter_reverse ..
theorem pw_all {α:Type} {R:α→α→Prop}:∀{l:List α},(∀a∈l,∀b∈l,R a b)→l.Pairwise R
 |[],_=> .nil
 |x::_,h=> .cons (fun b hb=>h x (.head _) b (.tail _ hb)) (pw_all fun a ha b hb=>h a (.tail _ ha) b (.tail _ hb))
theorem sorted_up {xs:Array Keyed} {k:Nat} (hk:k≤xs.size):SortedTo xs k↔Upz (xs.toList.take k):=by
 have hl:xs.toList.length=xs.size:=Array.length_toList
 constructor
 ·intro h
  refine List.pairwise_iff_getElem.mpr ?_
  intro i j hi hj hij
  rw[List.length_take] at hi hj
  have:=h i j (Nat.le_of_lt hij) (by exact lin (.h 1 (.t Y0 Y2) (.h 1 (.e Y2 Y1) (.G 1 (.t Y0 Y1)))) rfl [_,_,_] [] hj (Nat.min_eq_left (lin (.h 1 (.l Y0 Y2) (.h 1 (.d Y1 Y2) (.G 1 (.l Y0 Y1)))) rfl [_,_,_] [] hk hl)))
  rw[K_list,K_list,List.getElem?_eq_getElem (by exact lin (.h 1 (.t Y0 Y2) (.h 1 (.l Y2 Y1) (.G 1 (.t Y0 Y1)))) rfl [_,_,_] [] hi (Nat.min_le_right _ _)),List.getElem?_eq_getElem (by exact lin (.h 1 (.t Y0 Y2) (.h 1 (.l Y2 Y1) (.G 1 (.t Y0 Y1)))) rfl [_,_,_] [] hj (Nat.min_le_right _ _))] at this
  rw[List.getElem_take,List.getElem_take];exact this
 ·intro h i j hij hj
  rcases Nat.lt_or_eq_of_le hij with hlt|rfl
  ·have:=(List.pairwise_iff_getElem.mp h) i j (by rw[List.length_take];(exact lin (.h 1 (.t Y2 Y3) (.h 1 (.t Y0 Y2) (.h 1 (.d Y1 Y3) (.G 1 (.t Y0 Y1))))) rfl [_,_,_,_] [] hj hlt (Nat.min_eq_left (lin (.h 1 (.l Y0 Y2) (.h 1 (.d Y1 Y2) (.G 1 (.l Y0 Y1)))) rfl [_,_,_] [] hk hl)))) (by rw[List.length_take];(exact lin (.h 1 (.t Y0 Y2) (.h 1 (.d Y1 Y2) (.G 1 (.t Y0 Y1)))) rfl [_,_,_] [] hj (Nat.min_eq_left (lin (.h 1 (.l Y0 Y2) (.h 1 (.d Y1 Y2) (.G 1 (.l Y0 Y1)))) rfl [_,_,_] [] hk hl)))) hlt
   rw[List.getElem_take,List.getElem_take] at this
   rw[K_list,K_list,List.getElem?_eq_getElem (by exact lin (.h 1 (.l Y2 Y3) (.h 1 (.d Y1 Y3) (.h 1 (.t Y4 Y2) (.h 1 (.t Y0 Y4) (.G 1 (.t Y0 Y1)))))) rfl [_,_,_,_,_] [] hk hl hj hlt),List.getElem?_eq_getElem (by exact lin (.h 1 (.l Y2 Y3) (.h 1 (.d Y1 Y3) (.h 1 (.t Y0 Y2) (.G 1 (.t Y0 Y1))))) rfl [_,_,_,_] [] hk hl hj)];exact this
  ·exact Int.le_refl _
theorem fz_none {v:Int} {l:List Keyed} (h:∀p∈l,kz p≠v):fz v l=[]:=List.filter_eq_nil_iff.mpr fun p hp=>by simpa using h p hp
theorem fz_comm {v:Int} {a b:List Keyed} (h:∀p∈a,∀q∈b,kz p≠kz q):fz v (a++b)=fz v (b++a):=by
 rw[fz_app,fz_app]
 by_cases c:∃p∈a,kz p=v
 ·obtain ⟨p,hp,rfl⟩:=c
  rw[fz_none (l:=b) fun q hq e=>h p hp q hq e.symm,List.append_nil,List.nil_append]
 ·rw[fz_none (l:=a) fun q hq e=>c ⟨q,hq,e⟩,List.append_nil,List.nil_append]
theorem mirror_list {xs:Array Keyed} {i j:Nat} (hij:i≤j) (hj:j≤xs.size):(mirror xs i j ((j - i) / 2)).toList=xs.toList.take i++(((xs.toList.drop i).take (j - i)).reverse++xs.toList.drop j):=by
 have hl:xs.toList.length=xs.size:=Array.length_toList
 apply List.ext_getElem?
 intro k
 rw[Array.getElem?_toList,getElem?_mirror_all hj]
 have h1:(xs.toList.take i).length=i:=by rw[List.length_take];(exact Nat.le_antisymm (lin (.h 1 (.e Y0 Y1) (.G 1 (.l Y0 Y1))) rfl [_,_] [] (Nat.min_eq_left (lin (.h 1 (.l Y0 Y2) (.h 1 (.l Y2 Y3) (.h 1 (.d Y1 Y3) (.G 1 (.l Y0 Y1))))) rfl [_,_,_,_] [] hij hj hl))) (lin (.h 1 (.d Y1 Y0) (.G 1 (.l Y0 Y1))) rfl [_,_] [] (Nat.min_eq_left (lin (.h 1 (.l Y0 Y2) (.h 1 (.l Y2 Y3) (.h 1 (.d Y1 Y3) (.G 1 (.l Y0 Y1))))) rfl [_,_,_,_] [] hij hj hl))))
 have h2:((xs.toList.drop i).take (j - i)).reverse.length=j - i:=by rw[List.length_reverse,List.length_take,List.length_drop];(exact Nat.le_antisymm (lin (.h 1 (.l Y0 Y1) (.G 1 (.l Y0 Y1))) rfl [_,_] [] (Nat.min_le_left _ _)) ((Nat.le_total _ _).elim (fun e30=>(Nat.le_total _ _).elim (fun e21=>lin (.h 1 (.l Y2 Y3) (.h 1 (.d Y4 Y3) (.h 1 (.e (.a Y0 Y5) Y2) (.h 1 (.d Y1 Y6) (.h 1 (.d (.a Y6 Y5) Y4) (.G 1 (.l Y0 Y1))))))) rfl [_,_,_,_,_,_,_] [] hj hl (sC (lin (.h 1 (.l Y0 Y1) (.G 1 (.l Y0 Y1))) rfl [_,_] [] hij)) (Nat.min_eq_right (lin (.h 1 (.l Y0 Y1) (.G 1 (.l Y0 Y1))) rfl [_,_] [] e21)) (sC (lin (.h 1 (.l Y0 Y2) (.h 1 (.l Y2 Y3) (.h 1 (.d Y1 Y3) (.G 1 (.l Y0 Y1))))) rfl [_,_,_,_] [] hij hj hl))) (fun e21=>lin (.h 1 (.d Y1 Y0) (.G 1 (.l Y0 Y1))) rfl [_,_] [] (Nat.min_eq_left (lin (.h 1 (.l Y0 Y1) (.G 1 (.l Y0 Y1))) rfl [_,_] [] e21)))) (fun e30=>lin (.h 1 (.d Y1 Y0) (.G 1 (.l Y0 Y1))) rfl [_,_] [] (Nat.min_eq_left (lin (.h 1 (.l Y2 Y3) (.h 1 (.e (.a Y0 Y3) Y2) (.G 1 (.l Y0 Y1)))) rfl [_,_,_,_] [] e30 (sC (lin (.h 1 (.l Y0 Y1) (.G 1 (.l Y0 Y1))) rfl [_,_] [] hij)))))))
 by_cases a:k<i
 ·rw[if_neg (by omega),List.getElem?_append_left (by exact lin (.h 1 (.d Y1 Y2) (.h 1 (.t Y0 Y2) (.G 1 (.t Y0 Y1)))) rfl [_,_,_] [] h1 a),List.getElem?_take_of_lt a,Array.getElem?_toList]
 ·rw[List.getElem?_append_right (by exact lin (.h 1 (.e Y0 Y2) (.h 1 (.nt Y1 Y2) (.G 1 (.l Y0 Y1)))) rfl [_,_,_] [] h1 a),h1]
  by_cases b:k<j
  ·rw[if_pos (by exact ⟨lin (.h 1 (.nt Y1 Y0) (.G 1 (.l Y0 Y1))) rfl [_,_] [] a,lin (.h 1 (.t Y0 Y1) (.G 1 (.t Y0 Y1))) rfl [_,_] [] b⟩),List.getElem?_append_left (by exact lin (.h 1 (.d Y1 Y2) (.h 1 (.t Y3 Y4) (.h 1 (.e (.a Y0 Y5) Y3) (.h 1 (.d (.a Y2 Y5) Y4) (.G 1 (.t Y0 Y1)))))) rfl [_,_,_,_,_,_] [] h2 b (sC (lin (.h 1 (.nt Y1 Y0) (.G 1 (.l Y0 Y1))) rfl [_,_] [] a)) (sC (lin (.h 1 (.l Y0 Y1) (.G 1 (.l Y0 Y1))) rfl [_,_] [] hij))),List.getElem?_reverse (by rw[List.length_reverse] at h2;(exact lin (.h 1 (.d Y1 Y2) (.h 1 (.t Y3 Y4) (.h 1 (.e (.a Y0 Y5) Y3) (.h 1 (.d (.a Y2 Y5) Y4) (.G 1 (.t Y0 Y1)))))) rfl [_,_,_,_,_,_] [] h2 b (sC (lin (.h 1 (.nt Y1 Y0) (.G 1 (.l Y0 Y1))) rfl [_,_] [] a)) (sC (lin (.h 1 (.l Y0 Y1) (.G 1 (.l Y0 Y1))) rfl [_,_] [] hij)))),List.getElem?_take_of_lt (by rw[List.length_reverse] at h2;(exact lin (.h 1 (.e Y2 Y1) (.h 1 (.l Y0 Y3) (.h 1 (.e (.a Y3 (.c 1)) Y2) (.G 1 (.t Y0 Y1))))) rfl [_,_,_,_] [] h2 (Nat.sub_le _ _) (sC (lin (.h 1 (.d Y0 Y1) (.h 1 (.nt Y2 Y3) (.h 1 (.t Y2 Y4) (.h 1 (.d (.a Y1 Y3) Y4) (.G 1 (.l (.c 1) Y0)))))) rfl [_,_,_,_,_] [] h2 a b (sC (lin (.h 1 (.l Y0 Y1) (.G 1 (.l Y0 Y1))) rfl [_,_] [] hij)))))),List.getElem?_drop,Array.getElem?_toList]
   rw[List.length_reverse] at h2
   congr 1;omega
  ·rw[if_neg (by omega),List.getElem?_append_right (by exact lin (.h 1 (.e Y0 Y2) (.h 1 (.nt Y3 Y4) (.h 1 (.d (.a Y1 Y5) Y3) (.h 1 (.e (.a Y2 Y5) Y4) (.G 1 (.l Y0 Y1)))))) rfl [_,_,_,_,_,_] [] h2 b (sC (lin (.h 1 (.nt Y1 Y0) (.G 1 (.l Y0 Y1))) rfl [_,_] [] a)) (sC (lin (.h 1 (.l Y0 Y1) (.G 1 (.l Y0 Y1))) rfl [_,_] [] hij))),h2,List.getElem?_drop,Array.getElem?_toList]
   congr 1;(exact Nat.le_antisymm (lin (.h 1 (.l Y3 (.a Y2 Y4)) (.h 1 (.d (.a Y3 Y5) Y0) (.h 1 (.e (.a Y4 Y5) Y1) (.G 1 (.l Y0 (.a Y1 Y2)))))) rfl [_,_,_,_,_,_] [] (sub_up _ _) (sC (lin (.h 1 (.l Y0 Y2) (.h 1 (.nt Y1 Y2) (.G 1 (.l Y0 Y1)))) rfl [_,_,_] [] hij b)) (sC (lin (.h 1 (.l Y0 Y1) (.G 1 (.l Y0 Y1))) rfl [_,_] [] hij))) ((Nat.le_total _ _).elim (fun e30=>lin (.h 1 (.e (.a Y1 Y3) Y4) (.h 1 (.d (.a Y3 Y5) Y0) (.h 1 (.e (.a Y4 Y5) Y2) (.G 1 (.l (.a Y0 Y1) Y2))))) rfl [_,_,_,_,_,_] [] (sC (lin (.h 1 (.l Y0 Y1) (.G 1 (.l Y0 Y1))) rfl [_,_] [] e30)) (sC (lin (.h 1 (.l Y0 Y1) (.G 1 (.l Y0 Y1))) rfl [_,_] [] hij)) (sC (lin (.h 1 (.l Y0 Y2) (.h 1 (.nt Y1 Y2) (.G 1 (.l Y0 Y1)))) rfl [_,_,_] [] hij b))) (fun e30=>lin (.h 1 (.nt Y2 Y0) (.h 1 (.e Y1 (.c 0)) (.G 1 (.l (.a Y0 Y1) Y2)))) rfl [_,_,_] [] b (Nat.sub_eq_zero_of_le (lin (.h 1 (.l Y0 Y1) (.G 1 (.l Y0 Y1))) rfl [_,_] [] e30)))))
theorem bubble_list {xs:Array Keyed} {l k:Nat} (hlk:l≤k) (hk:k<xs.size) {x:Keyed} (hx:xs.toList[k]? =some x):(bubble xs k (k - l)).toList=xs.toList.take l++(x::((xs.toList.drop l).take (k - l)++xs.toList.drop (k+1))):=by
 have hl:xs.toList.length=xs.size:=Array.length_toList
 apply List.ext_getElem?
 intro z
 rw[Array.getElem?_toList,getElem?_bubble hk _ (by exact lin (.h 1 (.e (.a Y0 Y2) Y1) (.G 1 (.l Y0 Y1))) rfl [_,_,_] [] (sC (lin (.h 1 (.l Y0 Y1) (.G 1 (.l Y0 Y1))) rfl [_,_] [] hlk))),show k - (k - l)=l by (exact Nat.le_antisymm ((Nat.le_total _ _).elim (fun e30=>lin (.h 1 (.e (.a Y0 Y2) Y3) (.h 1 (.d (.a Y2 Y1) Y3) (.G 1 (.l Y0 Y1)))) rfl [_,_,_,_] [] (sC (lin (.h 1 (.l Y0 Y1) (.G 1 (.l Y0 Y1))) rfl [_,_] [] e30)) (sC (lin (.h 1 (.l Y0 Y1) (.G 1 (.l Y0 Y1))) rfl [_,_] [] hlk))) (fun e30=>lin (.h 1 (.e Y0 (.c 0)) (.G 1 (.l Y0 Y1))) rfl [_,_] [] (Nat.sub_eq_zero_of_le (lin (.h 1 (.l Y0 Y1) (.G 1 (.l Y0 Y1))) rfl [_,_] [] e30)))) (lin (.h 1 (.l Y2 (.a Y1 Y3)) (.h 1 (.e (.a Y3 Y0) Y2) (.G 1 (.l Y0 Y1)))) rfl [_,_,_,_] [] (sub_up _ _) (sC (lin (.h 1 (.l Y0 Y1) (.G 1 (.l Y0 Y1))) rfl [_,_] [] hlk))))]
 have h1:(xs.toList.take l).length=l:=by rw[List.length_take];(exact Nat.le_antisymm (lin (.h 1 (.e Y0 Y1) (.G 1 (.l Y0 Y1))) rfl [_,_] [] (Nat.min_eq_left (lin (.h 1 (.l Y0 Y2) (.h 1 (.t Y2 Y3) (.h 1 (.d Y1 Y3) (.G 1 (.l Y0 Y1))))) rfl [_,_,_,_] [] hlk hk hl))) (lin (.h 1 (.d Y1 Y0) (.G 1 (.l Y0 Y1))) rfl [_,_] [] (Nat.min_eq_left (lin (.h 1 (.l Y0 Y2) (.h 1 (.t Y2 Y3) (.h 1 (.d Y1 Y3) (.G 1 (.l Y0 Y1))))) rfl [_,_,_,_] [] hlk hk hl))))
 have h2:((xs.toList.drop l).take (k - l)).length=k - l:=by rw[List.length_take,List.length_drop];(exact Nat.le_antisymm (lin (.h 1 (.l Y0 Y1) (.G 1 (.l Y0 Y1))) rfl [_,_] [] (Nat.min_le_left _ _)) ((Nat.le_total _ _).elim (fun e30=>(Nat.le_total _ _).elim (fun e21=>False.elim (lin (.h 1 (.t Y0 Y1) (.h 1 (.d Y2 Y1) (.h 1 (.l Y3 Y4) (.h 1 (.e (.a Y4 Y5) Y0) (.h 1 (.d (.a Y3 Y5) Y2) .F))))) rfl [_,_,_,_,_,_] [] hk hl e21 (sC (lin (.h 1 (.l Y0 Y1) (.G 1 (.l Y0 Y1))) rfl [_,_] [] hlk)) (sC (lin (.h 1 (.l Y0 Y2) (.h 1 (.t Y2 Y3) (.h 1 (.d Y1 Y3) (.G 1 (.l Y0 Y1))))) rfl [_,_,_,_] [] hlk hk hl)))) (fun e21=>lin (.h 1 (.d Y1 Y0) (.G 1 (.l Y0 Y1))) rfl [_,_] [] (Nat.min_eq_left (lin (.h 1 (.l Y0 Y1) (.G 1 (.l Y0 Y1))) rfl [_,_] [] e21)))) (fun e30=>lin (.h 1 (.d Y1 Y0) (.G 1 (.l Y0 Y1))) rfl [_,_] [] (Nat.min_eq_left (lin (.h 1 (.l Y2 Y3) (.h 1 (.e (.a Y0 Y3) Y2) (.G 1 (.l Y0 Y1)))) rfl [_,_,_,_] [] e30 (sC (lin (.h 1 (.l Y0 Y1) (.G 1 (.l Y0 Y1))) rfl [_,_] [] hlk)))))))
 by_cases a:z<l
 ·rw[if_neg (by exact fun eN=>lin (.h 1 (.t Y0 Y1) (.h 1 (.d Y0 Y1) .F)) rfl [_,_] [] a eN),if_neg (by omega),List.getElem?_append_left (by exact lin (.h 1 (.d Y1 Y2) (.h 1 (.t Y0 Y2) (.G 1 (.t Y0 Y1)))) rfl [_,_,_] [] h1 a),List.getElem?_take_of_lt a,Array.getElem?_toList]
 ·rw[List.getElem?_append_right (by exact lin (.h 1 (.e Y0 Y2) (.h 1 (.nt Y1 Y2) (.G 1 (.l Y0 Y1)))) rfl [_,_,_] [] h1 a),h1]
  by_cases e:z=l
  ·rw[if_pos e,e,Nat.sub_self,List.getElem?_cons_zero,←Array.getElem?_toList,hx]
  ·obtain ⟨y,hy⟩:∃y,z - l=y+1:=⟨z - l - 1,by exact Nat.le_antisymm (lin (.h 1 (.l Y0 (.a Y1 (.c 1))) (.G 1 (.l Y0 (.a Y1 (.c 1))))) rfl [_,_] [] (sub_up _ _)) ((Nat.lt_or_gt_of_ne e).elim (fun e30=>lin (.h 1 (.e (.a Y0 (.c 1)) Y1) (.G 1 (.l (.a Y0 (.c 1)) Y1))) rfl [_,_] [] (sC (False.elim (lin (.h 1 (.nt Y0 Y1) (.h 1 (.t Y0 Y1) .F)) rfl [_,_] [] a e30)))) (fun e30=>(Nat.le_total _ _).elim (fun e21=>lin (.h 1 (.e (.a Y0 (.c 1)) Y1) (.G 1 (.l (.a Y0 (.c 1)) Y1))) rfl [_,_] [] (sC (lin (.h 1 (.l (.c 1) Y0) (.G 1 (.l (.c 1) Y0))) rfl [_] [] e21))) (fun e21=>lin (.h 1 (.t Y2 Y3) (.h 1 (.e Y0 (.c 0)) (.h 1 (.d (.a Y1 Y2) Y3) (.G 1 (.l (.a Y0 (.c 1)) Y1))))) rfl [_,_,_,_] [] e30 (Nat.sub_eq_zero_of_le (lin (.h 1 (.l Y0 (.c 1)) (.G 1 (.l Y0 (.c 1)))) rfl [_] [] e21)) (sC (lin (.h 1 (.nt Y1 Y0) (.G 1 (.l Y0 Y1))) rfl [_,_] [] a)))))⟩
   rw[if_neg e,hy,List.getElem?_cons_succ]
   by_cases b:z≤k
   ·rw[if_pos (by exact ⟨lin (.h 1 (.d Y2 (.a Y3 (.c 1))) (.h 1 (.e (.a Y2 Y0) Y1) (.G 1 (.t Y0 Y1)))) rfl [_,_,_,_] [] hy (sC (lin (.h 1 (.nt Y1 Y0) (.G 1 (.l Y0 Y1))) rfl [_,_] [] a)),lin (.h 1 (.l Y0 Y1) (.G 1 (.l Y0 Y1))) rfl [_,_] [] b⟩),List.getElem?_append_left (by exact lin (.h 1 (.d Y1 Y2) (.h 1 (.d Y3 (.a Y0 (.c 1))) (.h 1 (.l Y4 Y5) (.h 1 (.d (.a Y2 Y6) Y5) (.h 1 (.e (.a Y3 Y6) Y4) (.G 1 (.t Y0 Y1))))))) rfl [_,_,_,_,_,_,_] [] h2 hy b (sC (lin (.h 1 (.l Y0 Y1) (.G 1 (.l Y0 Y1))) rfl [_,_] [] hlk)) (sC (lin (.h 1 (.nt Y1 Y0) (.G 1 (.l Y0 Y1))) rfl [_,_] [] a))),List.getElem?_take_of_lt (by exact lin (.h 1 (.d Y2 (.a Y0 (.c 1))) (.h 1 (.l Y3 Y4) (.h 1 (.d (.a Y1 Y5) Y4) (.h 1 (.e (.a Y2 Y5) Y3) (.G 1 (.t Y0 Y1)))))) rfl [_,_,_,_,_,_] [] hy b (sC (lin (.h 1 (.l Y0 Y1) (.G 1 (.l Y0 Y1))) rfl [_,_] [] hlk)) (sC (lin (.h 1 (.nt Y1 Y0) (.G 1 (.l Y0 Y1))) rfl [_,_] [] a))),List.getElem?_drop,Array.getElem?_toList]
    congr 1;(exact Nat.le_antisymm ((Nat.le_total _ _).elim (fun e30=>lin (.h 1 (.e Y3 (.a Y2 (.c 1))) (.h 1 (.e (.a Y0 (.c 1)) Y4) (.h 1 (.d (.a Y3 Y1) Y4) (.G 1 (.l Y0 (.a Y1 Y2)))))) rfl [_,_,_,_,_] [] hy (sC (lin (.h 1 (.l (.c 1) Y0) (.G 1 (.l (.c 1) Y0))) rfl [_] [] e30)) (sC (lin (.h 1 (.nt Y1 Y0) (.G 1 (.l Y0 Y1))) rfl [_,_] [] a))) (fun e30=>lin (.h 1 (.e Y0 (.c 0)) (.G 1 (.l Y0 (.a Y1 Y2)))) rfl [_,_,_] [] (Nat.sub_eq_zero_of_le (lin (.h 1 (.l Y0 (.c 1)) (.G 1 (.l Y0 (.c 1)))) rfl [_] [] e30)))) (lin (.h 1 (.d Y3 (.a Y1 (.c 1))) (.h 1 (.l Y4 (.a Y2 (.c 1))) (.h 1 (.e (.a Y3 Y0) Y4) (.G 1 (.l (.a Y0 Y1) Y2))))) rfl [_,_,_,_,_] [] hy (sub_up _ _) (sC (lin (.h 1 (.nt Y1 Y0) (.G 1 (.l Y0 Y1))) rfl [_,_] [] a))))
   ·rw[if_neg (by omega),List.getElem?_append_right (by exact lin (.h 1 (.e Y0 Y2) (.h 1 (.e Y3 (.a Y1 (.c 1))) (.h 1 (.nl Y4 Y5) (.h 1 (.e (.a Y2 Y6) Y5) (.h 1 (.d (.a Y3 Y6) Y4) (.G 1 (.l Y0 Y1))))))) rfl [_,_,_,_,_,_,_] [] h2 hy b (sC (lin (.h 1 (.l Y0 Y1) (.G 1 (.l Y0 Y1))) rfl [_,_] [] hlk)) (sC (lin (.h 1 (.nt Y1 Y0) (.G 1 (.l Y0 Y1))) rfl [_,_] [] a))),h2,List.getElem?_drop,Array.getElem?_toList]
    congr 1;(exact Nat.le_antisymm (lin (.h 1 (.e Y3 (.a Y4 (.c 1))) (.h 1 (.l Y4 (.a Y2 Y5)) (.h 1 (.d (.a Y3 Y6) Y0) (.h 1 (.e (.a Y5 Y6) Y1) (.G 1 (.l Y0 (.a (.a Y1 (.c 1)) Y2))))))) rfl [_,_,_,_,_,_,_] [] hy (sub_up _ _) (sC (lin (.h 1 (.nt Y1 Y0) (.G 1 (.l Y0 Y1))) rfl [_,_] [] a)) (sC (lin (.h 1 (.l Y0 Y1) (.G 1 (.l Y0 Y1))) rfl [_,_] [] hlk))) ((Nat.lt_or_gt_of_ne e).elim (fun e30=>False.elim (lin (.h 1 (.nt Y0 Y1) (.h 1 (.t Y0 Y1) .F)) rfl [_,_] [] a e30)) (fun e30=>(Nat.le_total _ _).elim (fun e21=>lin (.h 1 (.d Y3 (.a Y4 (.c 1))) (.h 1 (.e (.a Y1 Y5) Y4) (.h 1 (.e (.a Y3 Y6) Y2) (.h 1 (.d (.a Y5 Y6) Y0) (.G 1 (.l (.a (.a Y0 (.c 1)) Y1) Y2)))))) rfl [_,_,_,_,_,_,_] [] hy (sC (lin (.h 1 (.l Y0 Y1) (.G 1 (.l Y0 Y1))) rfl [_,_] [] e21)) (sC (lin (.h 1 (.nt Y1 Y0) (.G 1 (.l Y0 Y1))) rfl [_,_] [] a)) (sC (lin (.h 1 (.l Y0 Y1) (.G 1 (.l Y0 Y1))) rfl [_,_] [] hlk))) (fun e21=>lin (.h 1 (.nl Y2 Y0) (.h 1 (.e Y1 (.c 0)) (.G 1 (.l (.a (.a Y0 (.c 1)) Y1) Y2)))) rfl [_,_,_] [] b (Nat.sub_eq_zero_of_le (lin (.h 1 (.l Y0 Y1) (.G 1 (.l Y0 Y1))) rfl [_,_] [] e21))))))
theorem take_drop3 {α:Type} (xs:List α) {l k:Nat} (hlk:l≤k) {x:α} (hx:xs[k]? =some x):xs=xs.take l++((xs.drop l).take (k - l)++(x::xs.drop (k+1))):=by
 have hk:=(List.getElem?_eq_some_iff.mp hx)
 conv=>lhs;rw[←List.take_append_drop l xs,←List.take_append_drop (k - l) (xs.drop l)]
 rw[List.drop_drop,show l+(k - l)=k by (exact Nat.le_antisymm (lin (.h 1 (.e (.a Y1 Y0) Y2) (.G 1 (.l (.a Y0 Y1) Y2))) rfl [_,_,_] [] (sC (lin (.h 1 (.l Y0 Y1) (.G 1 (.l Y0 Y1))) rfl [_,_] [] hlk))) (lin (.h 1 (.d (.a Y2 Y1) Y0) (.G 1 (.l Y0 (.a Y1 Y2)))) rfl [_,_,_] [] (sC (lin (.h 1 (.l Y0 Y1) (.G 1 (.l Y0 Y1))) rfl [_,_] [] hlk))))]
 obtain ⟨h1,h2⟩:=hk
 rw[List.drop_eq_getElem_cons h1,h2]
structure Stb (a₀:Array Keyed) (st:SortSt):Prop where
 b:SBase a₀ st
 f:∀v,fz v (arrOf st).toList=fz v a₀.toList
structure Dsc (O A:List Keyed) (P P' T:List Keyed) (c:Int) (x q:Nat):Prop where
 a:A=P++(T++O.drop x)
 o:O=P'++(T++O.drop x)
 l:P.length+T.length=x
 l':P'.length=P.length
 t:T.length=q+1
 kt:∀p∈T,kz p=c
 kp:∀p∈P,c<kz p
 dn:P.Pairwise fun a b=>kz b≤kz a
 f:∀v,fz v P'=(fz v P).reverse
theorem Dsc.last {O A P P' T:List Keyed} {c:Int} {x q:Nat} (h:Dsc O A P P' T c x q):∃p,A[x - 1]? =some p∧kz p=c:=by
 have h1:=h.l
 have h2:=h.t
 have hl:q<T.length:=by exact lin (.h 1 (.d Y1 (.a Y0 (.c 1))) (.G 1 (.t Y0 Y1))) rfl [_,_] [] h2
 refine ⟨T[q],?_,h.kt _ (List.getElem_mem hl)⟩
 rw[h.a,List.getElem?_append_right (by exact lin (.h 1 (.e (.a Y0 Y2) Y3) (.h 1 (.d Y2 (.a Y4 (.c 1))) (.h 1 (.d (.a Y1 (.c 1)) Y3) (.G 1 (.l Y0 Y1))))) rfl [_,_,_,_,_] [] h1 h2 (sC (lin (.h 1 (.e (.a Y1 Y2) Y0) (.h 1 (.d Y2 (.a Y3 (.c 1))) (.G 1 (.l (.c 1) Y0)))) rfl [_,_,_,_] [] h1 h2))),show x - 1 - P.length=q by exact Nat.le_antisymm ((Nat.le_total _ _).elim (fun e30=>lin (.h 1 (.d (.a Y2 Y3) Y4) (.h 1 (.e Y3 (.a Y1 (.c 1))) (.h 1 (.e (.a Y0 Y2) Y5) (.h 1 (.e (.a Y5 (.c 1)) Y4) (.G 1 (.l Y0 Y1)))))) rfl [_,_,_,_,_,_] [] h1 h2 (sC (lin (.h 1 (.l Y0 Y1) (.G 1 (.l Y0 Y1))) rfl [_,_] [] e30)) (sC (lin (.h 1 (.e (.a Y1 Y2) Y0) (.h 1 (.d Y2 (.a Y3 (.c 1))) (.G 1 (.l (.c 1) Y0)))) rfl [_,_,_,_] [] h1 h2))) (fun e30=>lin (.h 1 (.e Y0 (.c 0)) (.G 1 (.l Y0 Y1))) rfl [_,_] [] (Nat.sub_eq_zero_of_le (lin (.h 1 (.l Y0 Y1) (.G 1 (.l Y0 Y1))) rfl [_,_] [] e30)))) (lin (.h 1 (.e (.a Y2 Y3) Y4) (.h 1 (.d Y3 (.a Y0 (.c 1))) (.h 1 (.l Y5 (.a Y1 Y2)) (.h 1 (.d (.a Y5 (.c 1)) Y4) (.G 1 (.l Y0 Y1)))))) rfl [_,_,_,_,_,_] [] h1 h2 (sub_up _ _) (sC (lin (.h 1 (.e (.a Y1 Y2) Y0) (.h 1 (.d Y2 (.a Y3 (.c 1))) (.G 1 (.l (.c 1) Y0)))) rfl [_,_,_,_] [] h1 h2))),List.getElem?_append_left hl,List.getElem?_eq_getElem hl]
theorem Dsc.turned {O A P P' T:List Keyed} {c:Int} {x q:Nat} (h:Dsc O A P P' T c x q):((P++T.reverse).Pairwise fun a b=>kz b≤kz a)∧∀v,fz v (P'++T)=(fz v (P++T.reverse)).reverse:=by
 constructor
 ·rw[List.pairwise_append]
  refine ⟨h.dn,pw_all fun a ha b hb=> ?_,fun a ha b hb=> ?_⟩
  ·rw[h.kt a (List.mem_reverse.mp ha),h.kt b (List.mem_reverse.mp hb)];exact Int.le_refl _
  ·rw[h.kt b (List.mem_reverse.mp hb)];exact Int.le_of_lt (h.kp a ha)
 ·intro v
  rw[fz_app,fz_app,List.reverse_append,fz_rev,List.reverse_reverse,h.f]
  by_cases e:v=c
  ·rw[fz_none (l:=P) fun p hp z=>absurd (h.kp p hp) (by rw[z,e];exact Int.lt_irrefl _)];simp
  ·rw[fz_none (l:=T) fun p hp z=>e (by rw[←z,h.kt p hp])];simp
theorem Dsc.next {O A P P' T:List Keyed} {c:Int} {x q:Nat} (h:Dsc O A P P' T c x q) (hx:x<O.length):∃y,A[x]? =some y∧O.drop x=y::O.drop (x+1):=by
 have h1:=h.l
 refine ⟨O[x],?_,List.drop_eq_getElem_cons hx⟩
 rw[h.a,List.getElem?_append_right (by exact lin (.h 1 (.e (.a Y0 Y2) Y1) (.G 1 (.l Y0 Y1))) rfl [_,_,_] [] h1),List.getElem?_append_right (by exact lin (.h 1 (.e (.a Y2 Y0) Y3) (.h 1 (.d (.a Y1 Y2) Y3) (.G 1 (.l Y0 Y1)))) rfl [_,_,_,_] [] h1 (sC (lin (.h 1 (.e (.a Y0 Y2) Y1) (.G 1 (.l Y0 Y1))) rfl [_,_,_] [] h1))),List.getElem?_drop,show x+(x - P.length - T.length)=x by exact Nat.le_antisymm ((Nat.le_total _ _).elim (fun e30=>lin (.h 1 (.d (.a Y2 Y3) Y0) (.h 1 (.e (.a Y1 Y3) Y4) (.h 1 (.e (.a Y4 Y2) Y0) (.G 1 (.l (.a Y0 Y1) Y0))))) rfl [_,_,_,_,_] [] h1 (sC (lin (.h 1 (.l Y0 Y1) (.G 1 (.l Y0 Y1))) rfl [_,_] [] e30)) (sC (lin (.h 1 (.e (.a Y0 Y2) Y1) (.G 1 (.l Y0 Y1))) rfl [_,_,_] [] h1))) (fun e30=>lin (.h 1 (.e Y1 (.c 0)) (.G 1 (.l (.a Y0 Y1) Y0))) rfl [_,_] [] (Nat.sub_eq_zero_of_le (lin (.h 1 (.l Y0 Y1) (.G 1 (.l Y0 Y1))) rfl [_,_] [] e30)))) (lin (.G 1 (.l Y0 (.a Y0 Y1))) rfl [_,_] []),List.getElem?_eq_getElem hx]
theorem Dsc.less {O A A' P P' T : List Keyed} {c : Int} {x q : Nat} (h : Dsc O A P P' T c x q) {y : Keyed} (hy : O.drop x = y :: O.drop (x + 1)) (hlt : kz y < c) (hA : A' = P ++ (T.reverse ++ O.drop x)) :
    Dsc O A' (P ++ T.reverse) (P' ++ T) [y] (kz y) (x + 1) 0 where
  a := by rw [hA, hy, List.append_assoc]; rfl
  o := by conv => lhs; rw [h.o, hy]
          rw [List.append_assoc]; rfl
  l := by have := h.l; rw [List.length_append, List.length_reverse]; exact congrArg (· + 1) this
  l' := by rw [List.length_append, List.length_append, List.length_reverse, h.l']
  t := rfl
  kt := fun p hp => by rw [List.mem_singleton.mp hp]
  kp := fun p hp => by
    rcases List.mem_append.mp hp with hp | hp
    · exact Int.lt_trans hlt (h.kp p hp)
    · rw [h.kt p (List.mem_reverse.mp hp)]; exact hlt
  dn := h.turned.1
  f := h.turned.2
theorem Dsc.same {O A P P' T : List Keyed} {c : Int} {x q : Nat} (h : Dsc O A P P' T c x q) {y : Keyed} (hy : O.drop x = y :: O.drop (x + 1)) (he : kz y = c) : Dsc O A P P' (T ++ [y]) c (x + 1) (q + 1) where
  a := by rw [h.a, hy]; simp
  o := by conv => lhs; rw [h.o, hy]
          simp
  l := by have := h.l; rw [List.length_append, List.length_singleton]; (exact Nat.le_antisymm (lin (.h 1 (.e (.a Y0 Y1) Y2) (.G 1 (.l (.a Y0 (.a Y1 (.c 1))) (.a Y2 (.c 1))))) rfl [_, _, _] [] this) (lin (.h 1 (.d (.a Y1 Y2) Y0) (.G 1 (.l (.a Y0 (.c 1)) (.a Y1 (.a Y2 (.c 1)))))) rfl [_, _, _] [] this))
  l' := h.l'
  t := by rw [List.length_append, List.length_singleton, h.t]
  kt := fun p hp => by
    rcases List.mem_append.mp hp with hp | hp
    · exact h.kt p hp
    · rw [List.mem_singleton.mp hp, he]
  kp := h.kp
  dn := h.dn
  f := h.f
theorem Dsc.flip {O A P P' T:List Keyed} {c:Int} {x q:Nat} (h:Dsc O A P P' T c x q) {xs:Array Keyed} (hA:xs.toList=A):(mirror xs (x - (q+1)) x ((x - (x - (q+1))) / 2)).toList=P++(T.reverse++O.drop x):=by
 have h1:=h.l
 have h2:=h.t
 have hs:xs.size=P.length+(T.length+(O.drop x).length):=by rw[←Array.length_toList,hA,h.a,List.length_append,List.length_append]
 rw[mirror_list (by exact lin (.h 1 (.e (.a Y0 (.a Y2 (.c 1))) Y1) (.G 1 (.l Y0 Y1))) rfl [_,_,_] [] (sC (lin (.h 1 (.e (.a Y2 Y3) Y1) (.h 1 (.d Y3 (.a Y0 (.c 1))) (.G 1 (.l (.a Y0 (.c 1)) Y1)))) rfl [_,_,_,_] [] h1 h2))) (by exact lin (.h 1 (.d (.a Y2 Y3) Y0) (.h 1 (.d Y1 (.a Y2 (.a Y3 Y4))) (.G 1 (.l Y0 Y1)))) rfl [_,_,_,_,_] [] h1 hs),hA,h.a,show x - (q+1)=P.length by exact Nat.le_antisymm (lin (.h 1 (.d (.a Y1 Y2) Y3) (.h 1 (.e Y2 (.a Y4 (.c 1))) (.h 1 (.e (.a Y0 (.a Y4 (.c 1))) Y3) (.G 1 (.l Y0 Y1))))) rfl [_,_,_,_,_] [] h1 h2 (sC (lin (.h 1 (.e (.a Y2 Y3) Y1) (.h 1 (.d Y3 (.a Y0 (.c 1))) (.G 1 (.l (.a Y0 (.c 1)) Y1)))) rfl [_,_,_,_] [] h1 h2))) (lin (.h 1 (.e (.a Y0 Y2) Y3) (.h 1 (.d Y2 (.a Y4 (.c 1))) (.h 1 (.d (.a Y1 (.a Y4 (.c 1))) Y3) (.G 1 (.l Y0 Y1))))) rfl [_,_,_,_,_] [] h1 h2 (sC (lin (.h 1 (.e (.a Y2 Y3) Y1) (.h 1 (.d Y3 (.a Y0 (.c 1))) (.G 1 (.l (.a Y0 (.c 1)) Y1)))) rfl [_,_,_,_] [] h1 h2))),List.take_left,List.drop_left,show x - P.length=T.length by exact Nat.le_antisymm (lin (.h 1 (.d (.a Y2 Y1) Y3) (.h 1 (.e (.a Y0 Y2) Y3) (.G 1 (.l Y0 Y1)))) rfl [_,_,_,_] [] h1 (sC (lin (.h 1 (.e (.a Y0 Y2) Y1) (.G 1 (.l Y0 Y1))) rfl [_,_,_] [] h1))) (lin (.h 1 (.e (.a Y2 Y0) Y3) (.h 1 (.d (.a Y1 Y2) Y3) (.G 1 (.l Y0 Y1)))) rfl [_,_,_,_] [] h1 (sC (lin (.h 1 (.e (.a Y0 Y2) Y1) (.G 1 (.l Y0 Y1))) rfl [_,_,_] [] h1))),List.take_left]
 congr 2
 rw[←h1,←List.append_assoc,←List.length_append,List.drop_left]
section
variable {prog:Program} {w:World} {A:Around} {E:Value→Shared→Prop} {s:Shared} {a₀:Array Keyed}
theorem st_less {O:List Keyed} {st:SortSt} {P P' T:List Keyed} {c:Int} {x q:Nat} (hD:Dsc O (arrOf st).toList P P' T c x q) (hx:x<O.length):
  ∃y,O.drop x=y::O.drop (x+1)∧PyProof.Rows.K (arrOf st) x=kz y∧PyProof.Rows.K (arrOf st) (x - 1)=c:=by
 obtain ⟨y,h1,h2⟩:=hD.next hx
 obtain ⟨p,h3,h4⟩:=hD.last
 exact ⟨y,h2,by rw[K_list,h1],by rw[K_list,h3];exact h4⟩
theorem st_desc {O:List Keyed} {st:SortSt} {n nrem:Nat} {Q:DescSt→SortSt→Prop} {P P' T:List Keyed} {c:Int} (h0:IntKeys a₀) (hO:O.length=a₀.size) (hn:nrem≤a₀.size) (h1:1≤n) (hnn:n≤nrem) (hB:SBase a₀ st) (hD:Dsc O (arrOf st).toList P P' T c n 0)
  (h:∀m q P P' T c st',SBase a₀ st'→n≤m→m≤nrem→Dsc O (arrOf st').toList P P' T c m q→Q (none,m,q) st'):wpS (model prog w) A E s (descLoop n nrem) Q st:=by
 unfold descLoop
 refine wpS_forRange (I:=fun x r st'=>∃q P P' T c,r=(none,x,q)∧SBase a₀ st'∧Dsc O (arrOf st').toList P P' T c x q) ?step ?fin ⟨0,P,P',T,c,rfl,hB,hD⟩
 case fin=>
  rintro r st' ⟨q,P,P',T,c,rfl,hB',hD'⟩
  rw[show max n nrem=nrem by (exact Nat.le_antisymm (lin (.h 1 (.e Y0 Y1) (.G 1 (.l Y0 Y1))) rfl [_,_] [] (Nat.max_eq_right (lin (.h 1 (.l Y0 Y1) (.G 1 (.l Y0 Y1))) rfl [_,_] [] hnn))) (lin (.h 1 (.d Y1 Y0) (.G 1 (.l Y0 Y1))) rfl [_,_] [] (Nat.max_eq_right (lin (.h 1 (.l Y0 Y1) (.G 1 (.l Y0 Y1))) rfl [_,_] [] hnn))))] at hD' ⊢
  exact h nrem q P P' T c st' hB' hnn (Nat.le_refl _) hD'
 case step=>
  rintro x r st' hax hxn ⟨q,P,P',T,c,rfl,hB',hD'⟩
  dsimp only
  obtain ⟨y,hy,e1,e2⟩:=st_less hD' (by exact lin (.h 1 (.d Y1 Y2) (.h 1 (.l Y3 Y2) (.h 1 (.t Y0 Y3) (.G 1 (.t Y0 Y1))))) rfl [_,_,_,_] [] hO hn hxn)
  refine wpS_bind (wpS_ltK hB' h0 (by exact lin (.h 1 (.l Y2 Y1) (.h 1 (.t Y0 Y2) (.G 1 (.t Y0 Y1)))) rfl [_,_,_] [] hn hxn) (by exact lin (.h 1 (.l Y2 Y1) (.h 1 (.t Y3 Y2) (.h 1 (.e (.a Y0 (.c 1)) Y3) (.G 1 (.t Y0 Y1))))) rfl [_,_,_,_] [] hn hxn (sC (lin (.h 1 (.l (.c 1) Y1) (.h 1 (.l Y1 Y0) (.G 1 (.l (.c 1) Y0)))) rfl [_,_] [] h1 hax))) ?_)
  rw[e1,e2]
  by_cases hlt:kz y<c
  ·simp only[hlt,decide_true,if_true]
   by_cases hq:q>0
   ·rw[if_pos hq]
    exact wpS_bind (wpS_reverse (wpS_pure ⟨0,_,_,_,_,rfl,hB'.setArr (mirror_perm _ _ _ _),hD'.less hy hlt (hD'.flip rfl)⟩))
   ·rw[if_neg hq]
    refine wpS_pure ⟨0,_,_,_,_,rfl,hB',hD'.less hy hlt ?_⟩
    have h2:=hD'.t
    obtain ⟨z,rfl⟩:∃z,T=[z]:=List.length_eq_one_iff.mp (by exact Nat.le_antisymm (lin (.h 1 (.nt (.c 0) Y1) (.h 1 (.e Y0 (.a Y1 (.c 1))) (.G 1 (.l Y0 (.c 1))))) rfl [_,_] [] hq h2) (lin (.h 1 (.d Y0 (.a Y1 (.c 1))) (.G 1 (.l (.c 1) Y0))) rfl [_,_] [] h2))
    exact hD'.a
  ·simp only[hlt,decide_false,Bool.false_eq_true,if_false]
   refine wpS_bind (wpS_ltK hB' h0 (by exact lin (.h 1 (.l Y2 Y1) (.h 1 (.t Y3 Y2) (.h 1 (.e (.a Y0 (.c 1)) Y3) (.G 1 (.t Y0 Y1))))) rfl [_,_,_,_] [] hn hxn (sC (lin (.h 1 (.l (.c 1) Y1) (.h 1 (.l Y1 Y0) (.G 1 (.l (.c 1) Y0)))) rfl [_,_] [] h1 hax))) (by exact lin (.h 1 (.l Y2 Y1) (.h 1 (.t Y0 Y2) (.G 1 (.t Y0 Y1)))) rfl [_,_,_] [] hn hxn) ?_)
   rw[e1,e2]
   by_cases hgt:c<kz y
   ·simp only[hgt,decide_true,if_true]
    exact wpS_pure (h x q P P' T c st' hB' hax (by exact lin (.h 1 (.t Y0 Y1) (.G 1 (.l Y0 Y1))) rfl [_,_] [] hxn) hD')
   ·simp only[hgt,decide_false,Bool.false_eq_true,if_false]
    exact wpS_pure ⟨q+1,_,_,_,_,rfl,hB',hD'.same hy (by exact Int.le_antisymm (lin (.h 1 (.nT Z1 Z0) (.G 1 (.L Z0 Z1))) rfl [] [_,_] hgt) (lin (.h 1 (.nT Z1 Z0) (.G 1 (.L Z0 Z1))) rfl [] [_,_] hlt))⟩
theorem st_tail {O:List Keyed} {st:SortSt} {n nrem:Nat} {Q:Option Nat→SortSt→Prop} {P P' T:List Keyed} {c:Int} {q:Nat} {A₁:List Keyed} (h0:IntKeys a₀) (hO:∀v,fz v O=fz v a₀.toList) (hn:nrem≤a₀.size) (h1:1≤n) (hnn:n≤nrem) (hB:SBase a₀ st)
  (hD:Dsc O A₁ P P' T c n q) (hA:(arrOf st).toList=P++(T.reverse++O.drop n)) (h:∀m st',Stb a₀ st'→1≤m→m≤nrem→SortedTo (arrOf st') m→Q (some m) st'):
  wpS (model prog w) A E s (tail3 n nrem) Q st:=by
 unfold tail3
 have hsz:n≤(arrOf st).size:=by rw[hB.size];(exact lin (.h 1 (.l Y2 Y1) (.h 1 (.l Y0 Y2) (.G 1 (.l Y0 Y1)))) rfl [_,_,_] [] hn hnn)
 refine wpS_bind (wpS_reverse ?_)
 have hl:=hD.l
 have hlen:(P++T.reverse).length=n:=by rw[List.length_append,List.length_reverse];exact hl
 have hm:(mirror (arrOf st) 0 n ((n - 0) / 2)).toList=(P++T.reverse).reverse++O.drop n:=by
  rw[mirror_list (Nat.zero_le _) hsz,hA,List.take_zero,List.nil_append,List.drop_zero,Nat.sub_zero,←List.append_assoc,List.take_append_of_le_length (by exact lin (.h 1 (.d Y1 Y0) (.G 1 (.l Y0 Y1))) rfl [_,_] [] hlen),List.drop_append_of_le_length (by exact lin (.h 1 (.d Y1 Y0) (.G 1 (.l Y0 Y1))) rfl [_,_] [] hlen),List.take_of_length_le (by exact lin (.h 1 (.e Y0 Y1) (.G 1 (.l Y0 Y1))) rfl [_,_] [] hlen),List.drop_of_length_le (by exact lin (.h 1 (.e Y0 Y1) (.G 1 (.l Y0 Y1))) rfl [_,_] [] hlen),List.nil_append]
 have hS:Stb a₀ (setArr st (mirror (arrOf st) 0 n ((n - 0) / 2))):=⟨hB.setArr (mirror_perm _ _ _ _),fun v=>by
  show fz v (mirror (arrOf st) 0 n ((n - 0) / 2)).toList=_
  rw[hm,←hO,fz_app,fz_rev,←hD.turned.2 v,←fz_app,List.append_assoc,←hD.o]⟩
 refine wpS_bind (wpS_ascLoop h0 hn h1 hnn hS.b ?_ fun m hm1 hm2 hsm _=>wpS_pure (h m _ hS (by exact lin (.h 1 (.l (.c 1) Y1) (.h 1 (.l Y1 Y0) (.G 1 (.l (.c 1) Y0)))) rfl [_,_] [] h1 hm1) hm2 hsm))
 refine (sorted_up (by show n≤(mirror _ _ _ _).size;rw[mirror_size];exact hsz)).mpr ?_
 show Upz ((mirror (arrOf st) 0 n ((n - 0) / 2)).toList.take n)
 rw[hm]
 conv=>rhs;rw[←hlen,←List.length_reverse,List.take_left]
 exact List.pairwise_reverse.mpr hD.turned.1
theorem st_part {O:List Keyed} {st:SortSt} {n nrem:Nat} {Q:Option Nat→SortSt→Prop} {P P' T:List Keyed} {c:Int} (h0:IntKeys a₀) (hl:O.length=a₀.size) (hO:∀v,fz v O=fz v a₀.toList) (hn:nrem≤a₀.size) (hnn:n+1≤nrem) (hB:SBase a₀ st)
  (hD:Dsc O (arrOf st).toList P P' T c (n+1) 0) (h:∀m st',Stb a₀ st'→1≤m→m≤nrem→SortedTo (arrOf st') m→Q (some m) st'):
  wpS (model prog w) A E s (descPart n nrem) Q st:=by
 unfold descPart
 refine wpS_bind (wpS_lift (wpAny_rule ⟨rfl,?_⟩))
 refine wpS_bind (st_desc h0 hl hn (by omega) hnn hB hD fun m q P P' T c st' hB' hm1 hm2 hD'=> ?_)
 dsimp only
 by_cases hq:q>0
 ·rw[if_pos hq]
  exact wpS_bind (wpS_reverse (st_tail h0 hO hn (by exact lin (.h 1 (.l (.a Y1 (.c 1)) Y0) (.G 1 (.l (.c 1) Y0))) rfl [_,_] [] hm1) hm2 (hB'.setArr (mirror_perm _ _ _ _)) hD' (hD'.flip rfl) h))
 ·rw[if_neg hq]
  refine st_tail h0 hO hn (by exact lin (.h 1 (.l (.a Y1 (.c 1)) Y0) (.G 1 (.l (.c 1) Y0))) rfl [_,_] [] hm1) hm2 hB' hD' ?_ h
  have h2:=hD'.t
  obtain ⟨z,rfl⟩:∃z,T=[z]:=List.length_eq_one_iff.mp (by exact Nat.le_antisymm (lin (.h 1 (.nt (.c 0) Y1) (.h 1 (.e Y0 (.a Y1 (.c 1))) (.G 1 (.l Y0 (.c 1))))) rfl [_,_] [] hq h2) (lin (.h 1 (.d Y0 (.a Y1 (.c 1))) (.G 1 (.l (.c 1) Y0))) rfl [_,_] [] h2))
  exact hD'.a
theorem st_count {st : SortSt} {nrem : Nat} {Q : Option Nat → SortSt → Prop} (h0 : IntKeys a₀) (hn : nrem ≤ a₀.size) (h1 : 1 ≤ nrem) (hS : Stb a₀ st)
    (h : ∀ m st', Stb a₀ st' → 1 ≤ m → m ≤ nrem → SortedTo (arrOf st') m → Q (some m) st') : wpS (model prog w) A E s (countRun' 0 nrem) Q st := by
  rw [countRun0_eq]
  have hsz := hS.b.size
  have hll : (arrOf st).toList.length = a₀.size := by rw [Array.length_toList, hsz]
  refine wpS_bind (wpS_ascLoop h0 hn (Nat.le_refl 1) h1 hS.b (fun i j hij hj => by rw [show i = j by (exact Nat.le_antisymm (lin (.h 1 (.l Y0 Y1) (.G 1 (.l Y0 Y1))) rfl [_, _] [] hij) (lin (.h 1 (.t Y0 (.c 1)) (.G 1 (.l Y0 Y1))) rfl [_, _] [] hj))]; exact Int.le_refl _) fun n hn1 hn2 hsn hor => ?_)
  dsimp only
  by_cases hnn : n = nrem
  · rw [if_pos (by simpa using hnn)]
    exact wpS_pure (h n st hS hn1 hn2 hsn)
  · rw [if_neg (by simpa using hnn)]
    have hlt := hor.resolve_left hnn
    obtain ⟨y, hy⟩ : ∃ y, (arrOf st).toList[n]? = some y := ⟨_, List.getElem?_eq_getElem (by exact (Nat.lt_or_gt_of_ne hnn).elim (fun e30 => lin (.h 1 (.l Y2 Y3) (.h 1 (.d Y1 Y3) (.h 1 (.t Y0 Y2) (.G 1 (.t Y0 Y1))))) rfl [_, _, _, _] [] hn hll e30) (fun e30 => False.elim (lin (.h 1 (.l Y0 Y1) (.h 1 (.t Y1 Y0) .F)) rfl [_, _] [] hn2 e30)))⟩
    have hdr : (arrOf st).toList.drop n = y :: (arrOf st).toList.drop (n + 1) := by
      obtain ⟨q1, q2⟩ := List.getElem?_eq_some_iff.mp hy
      rw [List.drop_eq_getElem_cons q1, q2]
    have start : (∀ i, i < n → PyProof.Rows.K (arrOf st) i = PyProof.Rows.K (arrOf st) (n - 1)) → ∀ st' : SortSt, (arrOf st').toList = ((arrOf st).toList.take n).reverse ++ (arrOf st).toList.drop n →
        Dsc (arrOf st).toList (arrOf st').toList ((arrOf st).toList.take n).reverse ((arrOf st).toList.take n) [y] (kz y) (n + 1) 0 := fun hall st' ha => by
      have hk : ∀ p ∈ (arrOf st).toList.take n, kz p = PyProof.Rows.K (arrOf st) (n - 1) := fun p hp => by
        obtain ⟨i, hi, rfl⟩ := List.getElem_of_mem hp
        rw [List.length_take] at hi
        rw [← hall i (by exact lin (.h 1 (.t Y0 Y2) (.h 1 (.e Y2 Y1) (.G 1 (.t Y0 Y1)))) rfl [_, _, _] [] hi (Nat.min_eq_left (lin (.h 1 (.l Y2 Y3) (.h 1 (.d Y1 Y3) (.h 1 (.l Y0 Y2) (.G 1 (.l Y0 Y1))))) rfl [_, _, _, _] [] hn hll hn2))), K_list, List.getElem?_eq_getElem (by exact lin (.h 1 (.t Y0 Y2) (.h 1 (.l Y2 Y1) (.G 1 (.t Y0 Y1)))) rfl [_, _, _] [] hi (Nat.min_le_right _ _)), List.getElem_take]; rfl
      have hc : kz y < PyProof.Rows.K (arrOf st) (n - 1) := by
        have e : PyProof.Rows.K (arrOf st) n = kz y := by rw [K_list, hy]
        rw [← e]; exact hlt
      refine ⟨by rw [ha, hdr]; rfl, by conv => lhs; rw [← List.take_append_drop n (arrOf st).toList, hdr]
                                       rfl, ?_, by rw [List.length_reverse], rfl, fun p hp => by rw [List.mem_singleton.mp hp], fun p hp => by rw [hk p (List.mem_reverse.mp hp)]; exact hc, ?_, fun v => by rw [fz_rev, List.reverse_reverse]⟩
      · rw [List.length_reverse, List.length_take, List.length_singleton]; (exact Nat.le_antisymm (lin (.h 1 (.e Y0 Y1) (.G 1 (.l (.a Y0 (.c 1)) (.a Y1 (.c 1))))) rfl [_, _] [] (Nat.min_eq_left (lin (.h 1 (.l Y2 Y3) (.h 1 (.d Y1 Y3) (.h 1 (.l Y0 Y2) (.G 1 (.l Y0 Y1))))) rfl [_, _, _, _] [] hn hll hn2))) (lin (.h 1 (.d Y1 Y0) (.G 1 (.l (.a Y0 (.c 1)) (.a Y1 (.c 1))))) rfl [_, _] [] (Nat.min_eq_left (lin (.h 1 (.l Y2 Y3) (.h 1 (.d Y1 Y3) (.h 1 (.l Y0 Y2) (.G 1 (.l Y0 Y1))))) rfl [_, _, _, _] [] hn hll hn2))))
      · refine pw_all fun a ha b hb => ?_
        rw [hk a (List.mem_reverse.mp ha), hk b (List.mem_reverse.mp hb)]; exact Int.le_refl _
    by_cases hgt : n > 1
    · rw [if_pos hgt]
      refine wpS_bind (wpS_ltK hS.b h0 (by exact lin (.h 1 (.l Y1 Y0) (.h 1 (.l (.c 1) Y1) (.G 1 (.t (.c 0) Y0)))) rfl [_, _] [] hn h1) (by exact lin (.h 1 (.l Y2 Y1) (.h 1 (.l Y3 Y2) (.h 1 (.e (.a Y0 (.c 1)) Y3) (.G 1 (.t Y0 Y1))))) rfl [_, _, _, _] [] hn hn2 (sC (lin (.h 1 (.t (.c 1) Y0) (.G 1 (.l (.c 1) Y0))) rfl [_] [] hgt))) ?_)
      by_cases hrose : PyProof.Rows.K (arrOf st) 0 < PyProof.Rows.K (arrOf st) (n - 1)
      · simp only [hrose, decide_true, if_true]
        exact wpS_pure (h n st hS hn1 hn2 hsn)
      · simp only [hrose, decide_false, Bool.false_eq_true, if_false]
        refine wpS_bind (wpS_reverse (st_part h0 hll hS.f hn (by exact (Nat.lt_or_gt_of_ne hnn).elim (fun e30 => lin (.h 1 (.t Y0 Y1) (.G 1 (.l (.a Y0 (.c 1)) Y1))) rfl [_, _] [] e30) (fun e30 => False.elim (lin (.h 1 (.l Y0 Y1) (.h 1 (.t Y1 Y0) .F)) rfl [_, _] [] hn2 e30))) (hS.b.setArr (mirror_perm _ _ _ _)) (start (fun i hi => ?_) _ ?_) h))
        · have a1 := hsn 0 i (by omega) hi
          have a2 := hsn i (n - 1) (by exact lin (.h 1 (.t Y0 Y2) (.h 1 (.d (.a Y1 (.c 1)) Y2) (.G 1 (.l Y0 Y1)))) rfl [_, _, _] [] hi (sC (lin (.h 1 (.t (.c 1) Y0) (.G 1 (.l (.c 1) Y0))) rfl [_] [] hgt))) (by exact lin (.h 1 (.e (.a Y0 (.c 1)) Y1) (.G 1 (.t Y0 Y1))) rfl [_, _] [] (sC (lin (.h 1 (.t (.c 1) Y0) (.G 1 (.l (.c 1) Y0))) rfl [_] [] hgt)))
          exact Int.le_antisymm (lin (.h 1 (.L Z0 Z1) (.G 1 (.L Z0 Z1))) rfl [] [_, _] a2) (lin (.h 1 (.nT Z2 Z0) (.h 1 (.L Z2 Z1) (.G 1 (.L Z0 Z1)))) rfl [] [_, _, _] hrose a1)
        · show (mirror (arrOf st) 0 n _).toList = _
          rw [mirror_list (Nat.zero_le _) (by exact lin (.h 1 (.l Y2 Y3) (.h 1 (.d Y1 Y3) (.h 1 (.l Y0 Y2) (.G 1 (.l Y0 Y1))))) rfl [_, _, _, _] [] hn hsz hn2)]; simp
    · rw [if_neg hgt]
      have hn1' : n = 1 := by exact Nat.le_antisymm (lin (.h 1 (.nt (.c 1) Y0) (.G 1 (.l Y0 (.c 1)))) rfl [_] [] hgt) (lin (.h 1 (.l (.c 1) Y0) (.G 1 (.l (.c 1) Y0))) rfl [_] [] hn1)
      subst hn1'
      refine st_part h0 hll hS.f hn (by exact (Nat.lt_or_gt_of_ne hnn).elim (fun e30 => lin (.h 1 (.t (.c 1) Y0) (.G 1 (.l (.a (.c 1) (.c 1)) Y0))) rfl [_] [] e30) (fun e30 => False.elim (lin (.h 1 (.l (.c 1) Y0) (.h 1 (.t Y0 (.c 1)) .F)) rfl [_] [] h1 e30))) hS.b (start (fun i hi => by rw [show i = 1 - 1 by (exact Nat.le_antisymm (lin (.h 1 (.t Y0 (.c 1)) (.h 1 (.d (.a Y1 (.c 1)) (.c 1)) (.G 1 (.l Y0 Y1)))) rfl [_, _] [] hi (sC (lin (.G 1 (.l (.c 1) (.c 1))) rfl [] []))) (lin (.h 1 (.e (.a Y0 (.c 1)) (.c 1)) (.G 1 (.l Y0 Y1))) rfl [_, _] [] (sC (lin (.G 1 (.l (.c 1) (.c 1))) rfl [] []))))]) st ?_) h
      have hlen1 : ((arrOf st).toList.take 1).length = 1 := by rw [List.length_take]; (exact Nat.le_antisymm (lin (.h 1 (.e Y0 (.c 1)) (.G 1 (.l Y0 (.c 1)))) rfl [_] [] (Nat.min_eq_left (lin (.h 1 (.l Y1 Y2) (.h 1 (.l (.c 1) Y1) (.h 1 (.d Y0 Y2) (.G 1 (.l (.c 1) Y0))))) rfl [_, _, _] [] hn h1 hll))) (lin (.h 1 (.d Y0 (.c 1)) (.G 1 (.l (.c 1) Y0))) rfl [_] [] (Nat.min_eq_left (lin (.h 1 (.l Y1 Y2) (.h 1 (.l (.c 1) Y1) (.h 1 (.d Y0 Y2) (.G 1 (.l (.c 1) Y0))))) rfl [_, _, _] [] hn h1 hll))))
      obtain ⟨z, hz⟩ := List.length_eq_one_iff.mp hlen1
      conv => lhs; rw [← List.take_append_drop 1 (arrOf st).toList]
      rw [hz]; rfl
theorem st_binary {st:SortSt} {n ok:Nat} {Q:Bool→SortSt→Prop} (h0:IntKeys a₀) (hn:n≤a₀.size) (hok:ok≤n) (hS:Stb a₀ st) (hs:SortedTo (arrOf st) ok)
  (h:∀st',Stb a₀ st'→SortedTo (arrOf st') n→Q true st'):wpS (model prog w) A E s (binarySort' 0 n ok) Q st:=by
 rw[binarySort'_eq]
 simp only[Nat.zero_add]
 refine wpS_bind (wpS_mono (wpS_forRange (I:=fun k c st'=>c=(none,())∧Stb a₀ st'∧SortedTo (arrOf st') (min k n))
  (Q:=fun c st'=>c=(none,())∧Stb a₀ st'∧SortedTo (arrOf st') n) ?step ?fin ?init) ?post)
 case post=>
  rintro c st' ⟨rfl,hB',hs'⟩
  exact wpS_pure (h st' hB' hs')
 case init=>
  refine ⟨rfl,hS,fun i j hij hj=> ?_⟩
  by_cases h1:ok=0
  ·rw[show i=j by (exact Nat.le_antisymm (lin (.h 1 (.l Y0 Y1) (.G 1 (.l Y0 Y1))) rfl [_,_] [] hij) (lin (.h 1 (.t Y0 Y2) (.h 1 (.l Y2 Y3) (.h 1 (.e Y3 (.c 1)) (.G 1 (.l Y0 Y1))))) rfl [_,_,_,_] [] hj (Nat.min_le_left _ _) (Nat.max_eq_right (lin (.h 1 (.e Y0 (.c 0)) (.G 1 (.l Y0 (.c 1)))) rfl [_] [] h1))))];exact Int.le_refl _
  ·exact hs i j hij (by exact (Nat.lt_or_gt_of_ne h1).elim (fun e30=>False.elim (lin (.h 1 (.t Y0 (.c 0)) .F) rfl [_] [] e30)) (fun e30=>lin (.h 1 (.t Y0 Y2) (.h 1 (.l Y2 Y3) (.h 1 (.e Y3 Y1) (.G 1 (.t Y0 Y1))))) rfl [_,_,_,_] [] hj (Nat.min_le_left _ _) (Nat.max_eq_left (lin (.h 1 (.t (.c 0) Y0) (.G 1 (.l (.c 1) Y0))) rfl [_] [] e30))))
 case fin=>
  rintro c st' ⟨hc,hB',hs'⟩
  refine ⟨hc,hB',?_⟩
  rwa [show min (max (max ok 1) n) n=n by (exact Nat.le_antisymm (lin (.h 1 (.l Y0 Y1) (.G 1 (.l Y0 Y1))) rfl [_,_] [] (Nat.min_le_right _ _)) ((Nat.le_total _ _).elim (fun e30=>lin (.h 1 (.d Y1 Y0) (.G 1 (.l Y0 Y1))) rfl [_,_] [] (Nat.min_eq_right (lin (.h 1 (.l Y0 Y1) (.G 1 (.l Y0 Y1))) rfl [_,_] [] e30))) (fun e30=>lin (.h 1 (.d Y1 Y2) (.h 1 (.l Y0 Y2) (.G 1 (.l Y0 Y1)))) rfl [_,_,_] [] (Nat.min_eq_left (lin (.h 1 (.l Y0 Y1) (.G 1 (.l Y0 Y1))) rfl [_,_] [] e30)) (Nat.le_max_right _ _))))] at hs'
 case step=>
  rintro k c st' hak hkn ⟨rfl,hS',hs'⟩
  rw[show min k n=k by (exact Nat.le_antisymm (lin (.h 1 (.e Y0 Y1) (.G 1 (.l Y0 Y1))) rfl [_,_] [] (Nat.min_eq_left (lin (.h 1 (.t Y0 Y1) (.G 1 (.l Y0 Y1))) rfl [_,_] [] hkn))) (lin (.h 1 (.d Y1 Y0) (.G 1 (.l Y0 Y1))) rfl [_,_] [] (Nat.min_eq_left (lin (.h 1 (.t Y0 Y1) (.G 1 (.l Y0 Y1))) rfl [_,_] [] hkn))))] at hs'
  have hk:k<a₀.size:=by exact lin (.h 1 (.l Y2 Y1) (.h 1 (.t Y0 Y2) (.G 1 (.t Y0 Y1)))) rfl [_,_,_] [] hn hkn
  refine wpS_bind (wpS_mono (wpS_forRange (I:=fun x c st''=>st''=st'∧∃l r,c=(none,l,r)∧l≤r∧r≤k∧r - l≤k - x∧
    (∀i,i<l→PyProof.Rows.K (arrOf st') i≤PyProof.Rows.K (arrOf st') k)∧(∀i,r≤i→i<k→PyProof.Rows.K (arrOf st') k<PyProof.Rows.K (arrOf st') i))
   (Q:=fun c st''=>st''=st'∧∃l r,c=(none,l,r)∧l≤k∧
    (∀i,i<l→PyProof.Rows.K (arrOf st') i≤PyProof.Rows.K (arrOf st') k)∧(∀i,l≤i→i<k→PyProof.Rows.K (arrOf st') k<PyProof.Rows.K (arrOf st') i)) ?istep ?ifin ?iinit) ?ipost)
  case iinit=>exact ⟨rfl,0,k,rfl,by omega,by exact lin (.G 1 (.l Y0 Y0)) rfl [_] [],by exact lin (.G 1 (.l Y0 Y0)) rfl [_] [],fun i hi=>by exact False.elim (lin (.h 1 (.t Y0 (.c 0)) .F) rfl [_] [] hi),fun i h1 h2=>by exact False.elim (lin (.h 1 (.l Y0 Y1) (.h 1 (.t Y1 Y0) .F)) rfl [_,_] [] h1 h2)⟩
  case ifin=>
   rintro c st'' ⟨rfl,l,r,rfl,hlr,hrk,hm,hlo,hhi⟩
   obtain rfl:l=r:=by exact Nat.le_antisymm (lin (.h 1 (.l Y0 Y1) (.G 1 (.l Y0 Y1))) rfl [_,_] [] hlr) ((Nat.le_total _ _).elim (fun e30=>(Nat.le_total _ _).elim (fun e21=>lin (.h 1 (.l Y2 Y3) (.h 1 (.d (.a Y2 Y1) Y0) (.h 1 (.e (.a Y3 Y4) Y5) (.h 1 (.d Y4 Y5) (.G 1 (.l Y0 Y1)))))) rfl [_,_,_,_,_,_] [] hm (sC (lin (.h 1 (.l Y0 Y1) (.G 1 (.l Y0 Y1))) rfl [_,_] [] hlr)) (sC (lin (.h 1 (.l Y0 Y1) (.G 1 (.l Y0 Y1))) rfl [_,_] [] e21)) (Nat.max_eq_right (lin (.G 1 (.l (.c 0) Y0)) rfl [_] []))) (fun e21=>lin (.h 1 (.l Y2 Y3) (.h 1 (.d (.a Y2 Y1) Y0) (.h 1 (.e Y3 (.c 0)) (.G 1 (.l Y0 Y1))))) rfl [_,_,_,_] [] hm (sC (lin (.h 1 (.l Y0 Y1) (.G 1 (.l Y0 Y1))) rfl [_,_] [] hlr)) (Nat.sub_eq_zero_of_le (lin (.h 1 (.l Y0 Y1) (.G 1 (.l Y0 Y1))) rfl [_,_] [] e21)))) (fun e30=>lin (.h 1 (.l Y0 Y1) (.G 1 (.l Y0 Y1))) rfl [_,_] [] e30))
   exact ⟨rfl,l,l,rfl,hrk,hlo,hhi⟩
  case istep=>
   rintro x c st'' _ hxk ⟨rfl,l,r,rfl,hlr,hrk,hm,hlo,hhi⟩
   dsimp only
   by_cases hge:l≥r
   ·rw[if_pos hge]
    obtain rfl:l=r:=by exact Nat.le_antisymm (lin (.h 1 (.l Y0 Y1) (.G 1 (.l Y0 Y1))) rfl [_,_] [] hlr) (lin (.h 1 (.l Y0 Y1) (.G 1 (.l Y0 Y1))) rfl [_,_] [] hge)
    exact wpS_pure ⟨rfl,l,l,rfl,hrk,hlo,hhi⟩
   ·rw[if_neg hge]
    refine wpS_bind (wpS_ltK hS'.b h0 hk (by exact lin (.h 2 (.t Y2 Y1) (.h 2 (.l Y3 Y2) (.h 1 (.nl Y3 Y4) (.h 1 (.e (.a (.r 2 Y0) Y5) (.a Y4 Y3)) (.G 2 (.t Y0 Y1)))))) rfl [_,_,_,_,_,_] [] hk hrk hge (Nat.div_add_mod _ _)) ?_)
    by_cases hless:PyProof.Rows.K (arrOf st'') k<PyProof.Rows.K (arrOf st'') ((l+r) / 2)
    ·simp only[hless,decide_true,if_true]
     exact wpS_pure ⟨rfl,l,(l+r) / 2,rfl,by exact lin (.h 1 (.nl Y2 Y0) (.h 1 (.d (.a (.r 2 Y1) Y3) (.a Y0 Y2)) (.h 1 (.t Y3 (.c 2)) (.G 2 (.l Y0 Y1))))) rfl [_,_,_,_] [] hge (Nat.div_add_mod _ _) (Nat.mod_lt _ (by decide)),by exact lin (.h 2 (.l Y2 Y1) (.h 1 (.nl Y2 Y3) (.h 1 (.e (.a (.r 2 Y0) Y4) (.a Y3 Y2)) (.G 2 (.l Y0 Y1))))) rfl [_,_,_,_,_] [] hrk hge (Nat.div_add_mod _ _),by exact (Nat.le_total _ _).elim (fun e30=>lin (.h 1 (.l Y2 Y3) (.h 2 (.e (.a Y0 Y4) Y5) (.h 1 (.d (.a Y1 (.a Y6 (.c 1))) Y7) (.h 1 (.d (.a Y2 Y4) Y8) (.h 1 (.e (.a Y3 Y6) Y7) (.h 1 (.e (.a (.r 2 Y5) Y9) (.a Y4 Y8)) (.G 2 (.l Y0 Y1)))))))) rfl [_,_,_,_,_,_,_,_,_,_] [] hm (sC (lin (.h 1 (.l Y0 Y1) (.G 1 (.l Y0 Y1))) rfl [_,_] [] e30)) (sC (lin (.h 1 (.t Y0 Y1) (.G 1 (.l (.a Y0 (.c 1)) Y1))) rfl [_,_] [] hxk)) (sC (lin (.h 1 (.nl Y1 Y0) (.G 1 (.l Y0 Y1))) rfl [_,_] [] hge)) (sC (lin (.h 1 (.t Y0 Y1) (.G 1 (.l Y0 Y1))) rfl [_,_] [] hxk)) (Nat.div_add_mod _ _)) (fun e30=>lin (.h 1 (.e Y0 (.c 0)) (.G 1 (.l Y0 Y1))) rfl [_,_] [] (Nat.sub_eq_zero_of_le (lin (.h 1 (.l Y0 Y1) (.G 1 (.l Y0 Y1))) rfl [_,_] [] e30))),hlo,fun i h1 h2=>Int.lt_of_lt_of_le hless (hs' _ _ h1 h2)⟩
    ·simp only[hless,decide_false,Bool.false_eq_true,if_false]
     exact wpS_pure ⟨rfl,(l+r) / 2+1,r,rfl,by exact lin (.h 1 (.nl Y1 Y2) (.h 1 (.e (.a (.r 2 Y0) Y3) (.a Y2 Y1)) (.G 2 (.l (.a Y0 (.c 1)) Y1)))) rfl [_,_,_,_] [] hge (Nat.div_add_mod _ _),by omega,by exact (Nat.le_total _ _).elim (fun e30=>lin (.h 2 (.l Y2 Y3) (.h 1 (.nl Y4 Y5) (.h 2 (.e (.a Y0 (.a Y6 (.c 1))) Y4) (.h 2 (.d (.a Y1 (.a Y7 (.c 1))) Y8) (.h 2 (.d (.a Y2 Y5) Y4) (.h 2 (.e (.a Y3 Y7) Y8) (.h 1 (.d (.a (.r 2 Y6) Y9) (.a Y5 Y4)) (.h 1 (.t Y9 (.c 2)) (.G 2 (.l Y0 Y1)))))))))) rfl [_,_,_,_,_,_,_,_,_,_] [] hm hge (sC (lin (.h 1 (.l (.a Y0 (.c 1)) Y1) (.G 1 (.l (.a Y0 (.c 1)) Y1))) rfl [_,_] [] e30)) (sC (lin (.h 1 (.t Y0 Y1) (.G 1 (.l (.a Y0 (.c 1)) Y1))) rfl [_,_] [] hxk)) (sC (lin (.h 1 (.nl Y1 Y0) (.G 1 (.l Y0 Y1))) rfl [_,_] [] hge)) (sC (lin (.h 1 (.t Y0 Y1) (.G 1 (.l Y0 Y1))) rfl [_,_] [] hxk)) (Nat.div_add_mod _ _) (Nat.mod_lt _ (by decide))) (fun e30=>lin (.h 1 (.e Y0 (.c 0)) (.G 1 (.l Y0 Y1))) rfl [_,_] [] (Nat.sub_eq_zero_of_le (lin (.h 1 (.l Y0 (.a Y1 (.c 1))) (.G 1 (.l Y0 (.a Y1 (.c 1))))) rfl [_,_] [] e30))),fun i h1=>Int.le_trans (hs' i ((l+r) / 2) (by exact lin (.h 1 (.t Y0 (.a Y1 (.c 1))) (.G 1 (.l Y0 Y1))) rfl [_,_] [] h1) (by exact lin (.h 2 (.l Y2 Y1) (.h 1 (.nl Y2 Y3) (.h 1 (.e (.a (.r 2 Y0) Y4) (.a Y3 Y2)) (.G 2 (.t Y0 Y1))))) rfl [_,_,_,_,_] [] hrk hge (Nat.div_add_mod _ _))) (Int.not_lt.mp hless),hhi⟩
  case ipost=>
   rintro c st'' ⟨rfl,l,r,rfl,hlk,hlo,hhi⟩
   show wpS _ _ _ _ (do moveDown' k l;pure (ForInStep.yield (none,()))) _ _
   rw[moveDown'_eq]
   have hks:k<(arrOf st'').size:=by rw[hS'.b.size];exact hk
   have hkl:k<(arrOf st'').toList.length:=by rw[Array.length_toList];exact hks
   obtain ⟨y,hy⟩:∃y,(arrOf st'').toList[k]? =some y:=⟨_,List.getElem?_eq_getElem hkl⟩
   have eK:∀i (hi:i<k),PyProof.Rows.K (arrOf st'') i=kz (arrOf st'').toList[i]:=fun i hi=>by rw[K_list,List.getElem?_eq_getElem (by exact lin (.h 1 (.t Y2 Y1) (.h 1 (.t Y0 Y2) (.G 1 (.t Y0 Y1)))) rfl [_,_,_] [] hkl hi)];rfl
   have ek:PyProof.Rows.K (arrOf st'') k=kz y:=by rw[K_list,hy]
   have h3:=take_drop3 (arrOf st'').toList hlk hy
   have hb:=bubble_list hlk hks hy
   have hup:=(sorted_up (by exact lin (.h 1 (.t Y0 Y1) (.G 1 (.l Y0 Y1))) rfl [_,_] [] hks)).mp hs'
   have hL:∀p∈(arrOf st'').toList.take l,kz p≤kz y:=fun p hp=>by
    obtain ⟨i,hi,rfl⟩:=List.getElem_of_mem hp
    rw[List.length_take] at hi
    have:=hlo i (by exact lin (.h 1 (.t Y0 Y2) (.h 1 (.e Y2 Y1) (.G 1 (.t Y0 Y1)))) rfl [_,_,_] [] hi (Nat.min_eq_left (lin (.h 1 (.l Y0 Y2) (.h 1 (.t Y2 Y1) (.G 1 (.l Y0 Y1)))) rfl [_,_,_] [] hlk hkl)))
    rw[eK i (by exact lin (.h 1 (.l Y2 Y1) (.h 1 (.t Y0 Y3) (.h 1 (.e Y3 Y2) (.G 1 (.t Y0 Y1))))) rfl [_,_,_,_] [] hlk hi (Nat.min_eq_left (lin (.h 1 (.l Y0 Y2) (.h 1 (.t Y2 Y1) (.G 1 (.l Y0 Y1)))) rfl [_,_,_] [] hlk hkl))),ek] at this
    rw[List.getElem_take];exact this
   have hH:∀p∈((arrOf st'').toList.drop l).take (k - l),kz y<kz p:=fun p hp=>by
    obtain ⟨i,hi,rfl⟩:=List.getElem_of_mem hp
    rw[List.length_take] at hi
    have:=hhi (l+i) (by exact lin (.G 1 (.l Y0 (.a Y0 Y1))) rfl [_,_] []) (by exact lin (.h 1 (.t Y1 Y3) (.h 1 (.l Y3 Y4) (.h 1 (.e (.a Y4 Y0) Y2) (.G 1 (.t (.a Y0 Y1) Y2))))) rfl [_,_,_,_,_] [] hi (Nat.min_le_left _ _) (sC (lin (.h 1 (.l Y0 Y1) (.G 1 (.l Y0 Y1))) rfl [_,_] [] hlk)))
    rw[eK (l+i) (by exact lin (.h 1 (.t Y1 Y3) (.h 1 (.l Y3 Y4) (.h 1 (.e (.a Y4 Y0) Y2) (.G 1 (.t (.a Y0 Y1) Y2))))) rfl [_,_,_,_,_] [] hi (Nat.min_le_left _ _) (sC (lin (.h 1 (.l Y0 Y1) (.G 1 (.l Y0 Y1))) rfl [_,_] [] hlk))),ek] at this
    rw[List.getElem_take,List.getElem_drop];exact this
   have htk:(arrOf st'').toList.take k=(arrOf st'').toList.take l++((arrOf st'').toList.drop l).take (k - l):=by
    conv=>lhs;rw[show k=l+(k - l) by exact Nat.le_antisymm (lin (.h 1 (.d (.a Y2 Y1) Y0) (.G 1 (.l Y0 (.a Y1 Y2)))) rfl [_,_,_] [] (sC (lin (.h 1 (.l Y0 Y1) (.G 1 (.l Y0 Y1))) rfl [_,_] [] hlk))) (lin (.h 1 (.e (.a Y1 Y0) Y2) (.G 1 (.l (.a Y0 Y1) Y2))) rfl [_,_,_] [] (sC (lin (.h 1 (.l Y0 Y1) (.G 1 (.l Y0 Y1))) rfl [_,_] [] hlk))),List.take_add]
   rw[htk] at hup
   obtain ⟨u1,u2,u3⟩:=List.pairwise_append.mp hup
   refine wpS_bind (wpS_modify (wpS_pure ⟨rfl,⟨hS'.b.setArr (bubble_perm _ _ _),fun v=> ?_⟩,?_⟩))
   ·rw[←hS'.f v]
    conv=>rhs;rw[h3]
    show fz v (bubble (arrOf st'') k (k - l)).toList=_
    rw[hb,fz_app,fz_app]
    congr 1
    have:=fz_comm (v:=v) (a:=[y]) (b:=((arrOf st'').toList.drop l).take (k - l)) fun p hp q hq e=>by
     rw[List.mem_singleton.mp hp] at e
     exact absurd (hH q hq) (by rw[e];exact Int.lt_irrefl _)
    rw[←List.cons_append,←List.singleton_append,fz_app,this,←fz_app,List.append_assoc];rfl
   ·rw[show min (k+1) n=k+1 by (exact Nat.le_antisymm (lin (.h 1 (.e Y0 (.a Y1 (.c 1))) (.G 1 (.l Y0 (.a Y1 (.c 1))))) rfl [_,_] [] (Nat.min_eq_left (lin (.h 1 (.t Y0 Y1) (.G 1 (.l (.a Y0 (.c 1)) Y1))) rfl [_,_] [] hkn))) (lin (.h 1 (.d Y1 (.a Y0 (.c 1))) (.G 1 (.l (.a Y0 (.c 1)) Y1))) rfl [_,_] [] (Nat.min_eq_left (lin (.h 1 (.t Y0 Y1) (.G 1 (.l (.a Y0 (.c 1)) Y1))) rfl [_,_] [] hkn))))]
    refine (sorted_up (by show k+1≤(bubble _ _ _).size;rw[bubble_size];exact hks)).mpr ?_
    show Upz ((bubble (arrOf st'') k (k - l)).toList.take (k+1))
    have hlen:((arrOf st'').toList.take l++(y::((arrOf st'').toList.drop l).take (k - l))).length=k+1:=by
     rw[List.length_append,List.length_cons,List.length_take,List.length_take,List.length_drop];(exact Nat.le_antisymm (lin (.h 1 (.e Y0 Y3) (.h 1 (.l Y1 Y4) (.h 1 (.e (.a Y4 Y3) Y2) (.G 1 (.l (.a Y0 (.a Y1 (.c 1))) (.a Y2 (.c 1))))))) rfl [_,_,_,_,_] [] (Nat.min_eq_left (lin (.h 1 (.l Y0 Y2) (.h 1 (.t Y2 Y1) (.G 1 (.l Y0 Y1)))) rfl [_,_,_] [] hlk hkl)) (Nat.min_le_left _ _) (sC (lin (.h 1 (.l Y0 Y1) (.G 1 (.l Y0 Y1))) rfl [_,_] [] hlk))) ((Nat.le_total _ _).elim (fun e30=>lin (.h 1 (.d Y1 Y3) (.h 1 (.d Y2 Y4) (.h 1 (.d (.a Y4 Y3) Y0) (.G 1 (.l (.a Y0 (.c 1)) (.a Y1 (.a Y2 (.c 1)))))))) rfl [_,_,_,_,_] [] (Nat.min_eq_left (False.elim (lin (.h 1 (.l Y0 Y1) (.h 1 (.t Y1 Y2) (.h 1 (.l Y2 Y0) .F))) rfl [_,_,_] [] hlk hkl e30))) (Nat.min_eq_left (False.elim (lin (.h 1 (.l Y0 Y1) (.h 1 (.t Y1 Y2) (.h 1 (.l Y2 Y0) .F))) rfl [_,_,_] [] hlk hkl e30))) (sC (lin (.h 1 (.l Y0 Y1) (.G 1 (.l Y0 Y1))) rfl [_,_] [] hlk))) (fun e30=>(Nat.le_total _ _).elim (fun e21=>lin (.h 1 (.t Y0 Y3) (.h 1 (.d Y1 Y4) (.h 1 (.d Y2 Y5) (.h 1 (.d (.a Y5 Y4) Y3) (.G 1 (.l (.a Y0 (.c 1)) (.a Y1 (.a Y2 (.c 1))))))))) rfl [_,_,_,_,_,_] [] hkl (Nat.min_eq_left (lin (.h 1 (.l Y0 Y1) (.G 1 (.l Y0 Y1))) rfl [_,_] [] e30)) (Nat.min_eq_right (lin (.h 1 (.l Y0 Y1) (.G 1 (.l Y0 Y1))) rfl [_,_] [] e21)) (sC (lin (.h 1 (.l Y0 Y1) (.G 1 (.l Y0 Y1))) rfl [_,_] [] e30))) (fun e21=>lin (.h 1 (.d Y1 Y3) (.h 1 (.d Y2 Y4) (.h 1 (.d (.a Y4 Y3) Y0) (.G 1 (.l (.a Y0 (.c 1)) (.a Y1 (.a Y2 (.c 1)))))))) rfl [_,_,_,_,_] [] (Nat.min_eq_left (lin (.h 1 (.l Y0 Y1) (.G 1 (.l Y0 Y1))) rfl [_,_] [] e30)) (Nat.min_eq_left (lin (.h 1 (.l Y0 Y1) (.G 1 (.l Y0 Y1))) rfl [_,_] [] e21)) (sC (lin (.h 1 (.l Y0 Y1) (.G 1 (.l Y0 Y1))) rfl [_,_] [] hlk))))))
    rw[hb,←List.cons_append,←List.append_assoc,←hlen,List.take_left]
    refine List.pairwise_append.mpr ⟨u1,List.pairwise_cons.mpr ⟨fun p hp=>Int.le_of_lt (hH p hp),u2⟩,fun a ha b hb=> ?_⟩
    rcases List.mem_cons.mp hb with rfl|hb
    ·exact hL a ha
    ·exact u3 a ha b hb
theorem st_done {st:SortSt} (hS:Stb a₀ st) (hs:SortedTo (arrOf st) a₀.size):Stb a₀ st∧SortedTo (arrOf st) a₀.size:=⟨hS,hs⟩
noncomputable def StDone (a₀:Array Keyed) (st:SortSt):Prop:=SDone a₀ st∧∀v,fz v (arrOf st).toList=fz v a₀.toList
theorem st_runs {st:SortSt} {Q:Unit→SortSt→Prop} (h0:IntKeys a₀) (hB:Stb a₀ st) (h2:2≤a₀.size) (h64:a₀.size<64)
  (h:∀st',failedOf st'=none→SortedTo (arrOf st') a₀.size→(arrOf st').size=a₀.size→(∀v,fz v (arrOf st').toList=fz v a₀.toList)→Q () st'):wpS (model prog w) A E s sortRuns' Q st:=by
 rw[sortRuns'_eq]
 refine wpS_bind (wpS_get ?_)
 dsimp only
 have hmr:minRun' a₀.size a₀.size 0=a₀.size:=by
  obtain ⟨f,hf⟩:∃f,a₀.size=f+1:=⟨a₀.size - 1,by exact Nat.le_antisymm (lin (.h 1 (.d (.a Y1 (.c 1)) Y0) (.G 1 (.l Y0 (.a Y1 (.c 1))))) rfl [_,_] [] (sC (lin (.h 1 (.l (.c 2) Y0) (.G 1 (.l (.c 1) Y0))) rfl [_] [] h2))) (lin (.h 1 (.e (.a Y0 (.c 1)) Y1) (.G 1 (.l (.a Y0 (.c 1)) Y1))) rfl [_,_] [] (sC (lin (.h 1 (.l (.c 2) Y0) (.G 1 (.l (.c 1) Y0))) rfl [_] [] h2)))⟩
  have:minRun' (f+1) a₀.size 0=a₀.size:=by rw[minRun'_succ,if_pos h64];rfl
  rwa [←hf] at this
 simp only[hB.b.size,hmr]
 refine wpS_bind (wpS_mono (wpS_forRange
  (I:=fun x c st'=>(x=0∧c=(none,0)∧Stb a₀ st')∨(1≤x∧c=(none,a₀.size)∧StDone a₀ st'))
  (Q:=fun c st'=>c=(none,a₀.size)∧StDone a₀ st') ?step ?fin (.inl ⟨rfl,rfl,hB⟩)) ?post)
 case fin=>
  rintro c st' (⟨hx,_,_⟩|⟨_,hc,hD⟩)
  ·omega
  ·exact ⟨hc,hD⟩
 case step=>
  rintro x c st' _ hx (⟨rfl,rfl,hB'⟩|⟨hx1,rfl,hD⟩)
  ·dsimp only
   rw[if_neg (by exact lin (.h 1 (.l (.c 2) Y0) (.G 1 (.nl Y0 (.c 0)))) rfl [_] [] h2)]
   simp only[Nat.sub_zero,Nat.min_self,Nat.zero_add]
   refine wpS_bind (st_count h0 (Nat.le_refl _) (by exact lin (.h 1 (.l (.c 2) Y0) (.G 1 (.l (.c 1) Y0))) rfl [_] [] h2) hB' fun m st2 hB2 hm1 hm2 hs2=> ?_)
   dsimp only
   by_cases hlt:m<a₀.size
   ·rw[if_pos hlt]
    refine wpS_bind (wpS_lift (wpAny_rule ⟨rfl,?_⟩))
    refine wpS_bind (st_binary h0 (Nat.le_refl _) hm2 hB2 hs2 fun st3 hB3 hs3=> ?_)
    simp only[Bool.not_true,Bool.false_eq_true,if_false]
    refine wpS_bind (wpS_get ?_)
    rw[show (pendingOf st3).back? =none by rw[hB3.b.pend];rfl]
    dsimp only
    exact wpS_bind (wpS_modify (wpS_pure (.inr ⟨by omega,rfl,hB3.b.done hs3,hB3.f⟩)))
   ·rw[if_neg hlt]
    obtain rfl:m=a₀.size:=by exact Nat.le_antisymm (lin (.h 1 (.l Y0 Y1) (.G 1 (.l Y0 Y1))) rfl [_,_] [] hm2) (lin (.h 1 (.nt Y1 Y0) (.G 1 (.l Y0 Y1))) rfl [_,_] [] hlt)
    refine wpS_bind (wpS_get ?_)
    rw[show (pendingOf st2).back? =none by rw[hB2.b.pend];rfl]
    dsimp only
    exact wpS_bind (wpS_modify (wpS_pure (.inr ⟨by omega,rfl,hB2.b.done hs2,hB2.f⟩)))
  ·dsimp only
   rw[if_pos (Nat.le_refl _)]
   exact wpS_pure ⟨rfl,hD⟩
 case post=>
  rintro c st' ⟨rfl,hD⟩
  dsimp only
  refine wpS_bind (wpS_mono (wpS_forRange (I:=fun _ c st''=>st''=st'∧c=(none,())) (Q:=fun c st''=>st''=st'∧c=(none,())) ?_ (fun _ _ hh=>hh) ⟨rfl,rfl⟩) ?_)
  ·rintro x c st'' _ _ ⟨rfl,rfl⟩
   refine wpS_bind (wpS_get ?_)
   rw[if_pos (by rw[hD.1.2.2.1];exact Nat.le_refl 1)]
   exact wpS_pure ⟨rfl,rfl⟩
  ·rintro c st'' ⟨rfl,rfl⟩
   exact wpS_pure (h _ hD.1.2.1 hD.1.2.2.2 hD.1.1.size_eq hD.2)
end
section
variable {prog:Program} {w:World} {A:Around} {E:Value→Shared→Prop} {s:Shared} {h₀:Heap} {L:Addr} {m:Str→Option Value} {news:Led} {a kS:Addr} {vs:List Value} {ks:List Int} {keys:Array Value} {e e1:Nat} {P:PySem.Fin→Shared→Prop}
noncomputable abbrev byKey (ks:List Int) (vs:List Value):List Value:=(sortK Prod.fst (ks.zip vs)).map Prod.snd
theorem out_key {xs:Array Keyed} (hk:IntsAre keys.toList ks) (hs:SortedTo xs xs.size) (hf:∀v,fz v xs.toList=fz v (keys.zip vs.toArray).toList):(xs.map (·.2)).toList=byKey ks vs:=by
 have e0:ks.zip vs=(keys.zip vs.toArray).toList.map fun p:Keyed=>(kz p,p.2):=by
  rw[ksk_zip,←hk.nums,List.zip_map_left]
  exact List.map_congr_left fun ⟨x,y⟩ _=>rfl
 have hst:StableOf Prod.fst (ks.zip vs) (xs.toList.map fun p:Keyed=>(kz p,p.2)):=by
  refine ⟨?_,fun k=> ?_⟩
  ·have:=(sorted_up (Nat.le_refl _)).mp hs
   rw[List.take_of_length_le (by rw[Array.length_toList];exact Nat.le_refl _)] at this
   exact List.pairwise_map.mpr this
  ·rw[e0,List.filter_map,List.filter_map]
   exact congrArg _ (hf k)
 rw[Array.toList_map,byKey,←hst.eq (sortK_stable _ _) fun _=>rfl,List.map_map];rfl
theorem st_kept {st:SortSt} (F:Fr h₀ L s.heap m) (N:News h₀ L s.heap (news++[(kS,seqObj "list" keys e),(a,seqObj "list" #[] e1)])) (hka:kS≠a) (hnk:∀p∈news,p.1≠kS) (hna:∀p∈news,p.1≠a)
  (hk:IntsAre keys.toList ks) (hz:keys.size=vs.length) (h64:vs.length<64) (hsz:(arrOf st).size=vs.length) (hs:SortedTo (arrOf st) (arrOf st).size) (hf:∀v,fz v (arrOf st).toList=fz v (keys.zip vs.toArray).toList) (hfl:failedOf st=none)
  (h:∀h' tk out c,Fr h₀ L h' m→News h₀ L h' ((a,seqObj "list" out c)::news)→out.toList=byKey ks vs→P (.done (.ret .none)) {s with heap:=h',toks:=tk}):
  wpAny (model prog w) A (ksk_tail a false e1 (.ref kS) st) P E s:=by
 have nk:=N (kS,seqObj "list" keys e) (mR _ (.head _))
 have na:=N (a,seqObj "list" #[] e1) (mR _ (.tail _ (.head _)))
 have s1:=Heap.SameBut.update s.heap kS (Obj.mapSeq fun _=>(#[]:Array Value))
 have na1:=(s1.2 a hka.symm).trans na.1
 have s2:=Heap.SameBut.update (s.heap.update kS (Obj.mapSeq fun _=>(#[]:Array Value))) a (Obj.mapSeq fun _=>(arrOf st).map (·.2))
 have hout:((arrOf st).map (·.2)).size≤sizeLine+1:=by rw[Array.size_map,hsz,sizeLine_eq];(exact lin (.h 1 (.t Y0 (.c 64)) (.G 1 (.l Y0 (.a (.c 16777216) (.c 1))))) rfl [_] [] h64)
 have hc2:=get?_update_seq na1 fun _=>(arrOf st).map (·.2)
 have N2:=ksk_news (ksk_news (fun p hp=>N p (mL _ hp)) s1 hnk) s2 hna
 unfold ksk_tail
 dsimp only
 refine wpAny_bind (listUpdate_at nk.1 rfl ?_ (by rw[hz,sizeLine_eq];(exact lin (.h 1 (.t Y0 (.c 64)) (.G 1 (.l Y0 (.c 16777216)))) rfl [_] [] h64)) (Nat.zero_le _))
 refine wpAny_bind (wpAny_letGo ?_)
 refine wpAny_bind (seqEpoch_at na1 rfl ?_)
 refine wpAny_bind (listUpdate_at na1 rfl ?_ (Nat.zero_le _) hout)
 rw[hfl]
 simp only[bne_self_eq_false,Bool.false_eq_true,if_false]
 refine wpAny_pure (h _ _ _ _ (ksk_fr (ksk_fr F s1 nk.2.1 nk.2.2) s2 na.2.1 na.2.2) (fC ⟨⟨hc2,na.2⟩,N2⟩) (out_key hk hs hf))
theorem st_end (F:Fr h₀ L s.heap m) (N:News h₀ L s.heap (news++[(kS,seqObj "list" keys e),(a,seqObj "list" #[] e1)])) (hka:kS≠a) (hnk:∀p∈news,p.1≠kS) (hna:∀p∈news,p.1≠a)
  (hk:IntsAre keys.toList ks) (hlen:ks.length=vs.length) (h64:vs.length<64)
  (h:∀h' tk out c,Fr h₀ L h' m→News h₀ L h' ((a,seqObj "list" out c)::news)→out.toList=byKey ks vs→P (.done (.ret .none)) {s with heap:=h',toks:=tk}):
  wpAny (model prog w) A (ksk_end a false vs.toArray e1 (.ref kS) keys) P E s:=by
 have hsz:keys.size=vs.length:=by rw[←Array.length_toList,hk.length,hlen]
 have hzs:(keys.zip vs.toArray).size=vs.length:=by rw[Array.size_zip,hsz,List.size_toArray,Nat.min_self]
 unfold ksk_end
 dsimp only
 rw[if_neg (by decide)]
 by_cases h2:vs.toArray.size<2
 ·rw[if_pos h2,if_pos h2]
  refine wpAny_bind (wpAny_pure ?_)
  rw[StateT.run_pure]
  refine wpAny_bind (wpAny_pure ?_)
  refine st_kept (st:=SortSt.mk' general' (if false=true then (keys.zip vs.toArray).reverse else keys.zip vs.toArray) #[] 7 none) F N hka hnk hna hk hsz h64 hzs (fun i j hij hj=> ?_) (fun _=>rfl) rfl h
  have hj2:j<(keys.zip vs.toArray).size:=hj
  rw[List.size_toArray] at h2
  rw[show i=j by (exact Nat.le_antisymm (lin (.h 1 (.l Y0 Y1) (.G 1 (.l Y0 Y1))) rfl [_,_] [] hij) (lin (.h 1 (.e Y2 Y3) (.h 1 (.t Y3 (.c 2)) (.h 1 (.t Y0 Y2) (.G 1 (.l Y0 Y1))))) rfl [_,_,_,_] [] hzs h2 hj2))];exact Int.le_refl _
 ·rw[if_neg h2,if_neg h2]
  rw[List.size_toArray] at h2
  rw[ksk_kind hk (by exact lin (.h 1 (.d Y0 Y1) (.h 1 (.nt Y1 (.c 2)) (.G 1 (.l (.c 2) Y0)))) rfl [_,_] [] hsz h2)]
  refine wpAny_bind (wpAny_pure ?_)
  refine wpAny_bind (wpAny_mono (st_runs (a₀:=keys.zip vs.toArray) (st:=SortSt.mk' oneType' (if false=true then (keys.zip vs.toArray).reverse else keys.zip vs.toArray) #[] 7 none)
   (Q:=fun _ st'=>failedOf st'=none∧SortedTo (arrOf st') (keys.zip vs.toArray).size∧(arrOf st').size=(keys.zip vs.toArray).size∧∀v,fz v (arrOf st').toList=fz v (keys.zip vs.toArray).toList)
   (ksk_intKeys hk) ⟨⟨Array.Perm.refl _,rfl,rfl,rfl⟩,fun _=>rfl⟩ (by omega) (by omega) fun st' a1 a2 a3 a4=>⟨a1,a2,a3,a4⟩) ?_ fun _ _ e=>e)
  rintro ⟨⟨⟩,st'⟩ s' ⟨rfl,hfl,hs,hz,hf⟩
  exact st_kept F N hka hnk hna hk hsz h64 (hz.trans hzs) (by rw[hz];exact hs) hf hfl h
theorem st_rest {f:Value} (F:Fr h₀ L s.heap m) (N:News h₀ L s.heap (news++[(kS,seqObj "list" #[] 0),(a,seqObj "list" #[] e1)])) (hka:kS≠a) (hnk:∀p∈news,p.1≠kS) (hna:∀p∈news,p.1≠a)
  (hlen:ks.length=vs.length) (h64:vs.length<64)
  (turn:∀(i:Nat) (v:Value) (k:Int),vs[i]? =some v→ks[i]? =some k→∀(h:Heap) (tk:Nat) (own:Led),Fr h₀ L h m→News h₀ L h (news++own)→
   wpAny (model prog w) A (call f [v]) (KskEnd h₀ L m (news++own) k {s with heap:=h,toks:=tk}) (fun _ _=>False) {s with heap:=h,toks:=tk})
  (h:∀h' tk out c,Fr h₀ L h' m→News h₀ L h' ((a,seqObj "list" out c)::news)→out.toList=byKey ks vs→P (.done (.ret .none)) {s with heap:=h',toks:=tk}):
  wpAny (model prog w) A (ksk_rest a f false vs.toArray e1 (.ref kS)) P E s:=by
 unfold ksk_rest
 refine wpAny_bind (wpAny_rule ?_)
 rw[List.forIn_toArray]
 refine wpAny_bind (ksk_fold (fun i s'=>∃h' tk kA e,s'={s with heap:=h',toks:=tk}∧Fr h₀ L h' m∧News h₀ L h' (news++[(kS,seqObj "list" kA e),(a,seqObj "list" #[] e1)])∧IntsAre kA.toList (ks.take i)) vs 0 s
  ⟨s.heap,s.toks,#[],0,rfl,F,N,.nil⟩ ?step ?done)
 case step=>
  rintro j x s' hx ⟨h',tk,kA,e,rfl,F',N',hk⟩
  rw[Nat.zero_add] at hk ⊢
  have hj:=(List.getElem?_eq_some_iff.mp hx).1
  have hkj:=List.getElem?_eq_getElem (l:=ks) (i:=j) (by exact lin (.h 1 (.d Y1 Y2) (.h 1 (.t Y0 Y2) (.G 1 (.t Y0 Y1)))) rfl [_,_,_] [] hlen hj)
  have hz:kA.size≤63:=by
   have h1:=hk.length
   rw[Array.length_toList,List.length_take] at h1
   exact lin (.h 1 (.e Y1 Y2) (.h 1 (.t Y2 (.c 64)) (.h 1 (.e Y0 Y3) (.h 1 (.l Y3 Y1) (.G 1 (.l Y0 (.c 63))))))) rfl [_,_,_,_] [] hlen h64 h1 (Nat.min_le_right _ _)
  refine wpAny_bind (wpAny_attempt (wpAny_mono (turn j x _ hx hkj h' tk _ F' N') (fun v s'' he=> ?_) fun _ _ hF=>hF.elim))
  obtain ⟨g,tk2,t2,rfl,rfl,F2,N2⟩:=he
  dsimp only
  have nk:=N2 (kS,seqObj "list" kA e) (mR _ (.head _))
  have na:=N2 (a,seqObj "list" #[] e1) (mR _ (.tail _ (.head _)))
  have s1:=Heap.SameBut.update g kS (Obj.mapSeq (·.push (.int (ks[j]'(by exact lin (.h 1 (.d Y1 Y2) (.h 1 (.t Y0 Y2) (.G 1 (.t Y0 Y1)))) rfl [_,_,_] [] hlen hj)) t2)))
  obtain ⟨c2,hc2⟩:∃c2,(g.update kS (Obj.mapSeq (·.push (.int (ks[j]'(by exact lin (.h 1 (.d Y1 Y2) (.h 1 (.t Y0 Y2) (.G 1 (.t Y0 Y1)))) rfl [_,_,_] [] hlen hj)) t2)))).get? kS=some (seqObj "list" (kA.push (.int (ks[j]'(by exact lin (.h 1 (.d Y1 Y2) (.h 1 (.t Y0 Y2) (.G 1 (.t Y0 Y1)))) rfl [_,_,_] [] hlen hj)) t2)) c2):=⟨_,get?_update_seq nk.1 (·.push (.int (ks[j]'(by exact lin (.h 1 (.d Y1 Y2) (.h 1 (.t Y0 Y2) (.G 1 (.t Y0 Y1)))) rfl [_,_,_] [] hlen hj)) t2))⟩
  refine wpAny_bind (listUpdate_at nk.1 rfl ?_ (by rw[sizeLine_eq];(exact lin (.h 1 (.l Y0 (.c 63)) (.G 1 (.l Y0 (.c 16777216)))) rfl [_] [] hz)) (by rw[Array.size_push,sizeLine_eq];(exact lin (.h 1 (.l Y0 (.c 63)) (.G 1 (.l (.a Y0 (.c 1)) (.a (.c 16777216) (.c 1))))) rfl [_] [] hz)))
  refine wpAny_pure ⟨rfl,_,_,kA.push (.int (ks[j]'(by exact lin (.h 1 (.d Y1 Y2) (.h 1 (.t Y0 Y2) (.G 1 (.t Y0 Y1)))) rfl [_,_,_] [] hlen hj)) t2),c2,rfl,ksk_fr F2 s1 nk.2.1 nk.2.2,fun p hp=> ?_,?_⟩
  ·rcases List.mem_append.mp hp with hp|hp
   ·exact ksk_news (fun q hq=>N2 q (mL _ hq)) s1 hnk p hp
   ·rcases List.mem_cons.mp hp with rfl|hp
    ·exact ⟨hc2,nk.2⟩
    ·rw[List.mem_singleton.mp hp]
     exact ⟨(s1.2 a hka.symm).trans na.1,na.2⟩
  ·rw[Array.toList_push,List.take_add_one,hkj];exact ksk_snoc hk
 case done=>
  rintro s' ⟨h',tk,kA,e,rfl,F',N',hk⟩
  rw[List.take_of_length_le (by exact lin (.h 1 (.e Y0 Y1) (.G 1 (.l Y0 (.a (.c 0) Y1)))) rfl [_,_] [] hlen)] at hk
  refine wpAny_bind (listItems_at (N' (kS,seqObj "list" kA e) (mR _ (.head _))).1 rfl ?_)
  exact st_end F' N' hka hnk hna hk hlen h64 fun h3 tk3 out c F3 N3 k3=>h h3 tk3 out c F3 N3 k3
end
section
variable {prog:Program} {w:World} {A:Around} {E:Value→Shared→Prop} {s:Shared} {h₀:Heap} {L l:Addr} {m:Str→Option Value} {news:Led} {vs:List Value} {Q:Value→Shared→Prop}
theorem sorted_key {ks:List Int} {q:Addr} (F:Fr h₀ L s.heap m) (N:News h₀ L s.heap news) (hl:s.heap.IsList l vs.toArray) (hlen:ks.length=vs.length) (h64:vs.length<64)
  (turn:∀(i:Nat) (v:Value) (k:Int),vs[i]? =some v→ks[i]? =some k→∀(h:Heap) (tk:Nat) (own:Led),Fr h₀ L h m→News h₀ L h (news++own)→
   wpAny (model prog w) A.in1.in1 (call (.ref q) [v]) (KskEnd h₀ L m (news++own) k {s with heap:=h,toks:=tk}) (fun _ _=>False) {s with heap:=h,toks:=tk})
  (h:∀D h' tk c,Fr h₀ L h' m→News h₀ L h' ((D,listOf (byKey ks vs).toArray c)::news)→(∀q∈news,q.1<D)→Q (.ref D) {s with heap:=h',toks:=tk}):
  wpAny (model prog w) A (call (.builtin "sorted") [.ref l] [(Str.ofString "key",.ref q)]) Q E s:=by
 refine call_function_entry_kw kind_sorted plain_sorted entry_sorted (ksk_s1 _ _) ?_
 unfold Builtin.«sorted»
 refine wpAny_bind (m:=checkCount "sorted" 1 1 _) (wpAny_pure ?_)
 refine wpAny_bind (collect_list hl ?_ (by rw[sizeLine_eq];(exact lin (.h 1 (.t Y0 (.c 64)) (.G 1 (.l Y0 (.c 16777216)))) rfl [_] [] h64)))
 refine wpAny_bind (wpAny_newList ?_ (by rw[sizeLine_eq];(exact lin (.h 1 (.t Y0 (.c 64)) (.G 1 (.l Y0 (.c 16777216)))) rfl [_] [] h64)))
 have hL:L<s.heap.objs.size:=F.ns.lt
 obtain ⟨H,hH⟩:∃H,H=(s.heap.push (seqObj "list" #[] 0)).update s.heap.objs.size (Obj.mapSeq (·++vs.toArray)):=⟨_,rfl⟩
 have hsz:H.objs.size=s.heap.objs.size+1:=by rw[hH,Heap.size_update,size_push']
 have keep:∀b o,s.heap.get? b=some o→(H.push (seqObj "list" vs.toArray 0)).get? b=some o:=fun b o q=>by
  have hlt:=Heap.lt_size q
  rw[Heap.get?_push_ne _ _ _ (by rw[hsz];exact Nat.ne_of_lt (Nat.lt_succ_of_lt hlt)),hH,Heap.get?_update_ne _ _ _ _ (Nat.ne_of_lt hlt),Heap.get?_push_ne _ _ _ (Nat.ne_of_lt hlt)]
  exact q
 have hoL:(H.push (seqObj "list" vs.toArray 0)).get? H.objs.size=some (seqObj "list" vs.toArray 0):=Heap.get?_push_size _ rfl
 show wpAny _ _ _ _ _ {s with heap:=((s.heap.push (seqObj "list" #[] 0)).update s.heap.objs.size (Obj.mapSeq (·++vs.toArray))).push (seqObj "list" vs.toArray 0)}
 rw[←hH] at*
 refine wpAny_bind (wpAny_holding (wpAny_call_entry_kw slot_list_sort ⟨_,hoL,rfl⟩ entry_list_sort ?body (ksk_l1 _ _)))
 case body=>
  show wpAny (model prog w) A.in1.in1 (Builtin.«list.sort» ⟨[.ref H.objs.size],[(Str.ofString "key",.ref q)]⟩) _ _ _
  rw[ksk_t1]
  have F1:=F.kept keep
  have N1:News h₀ L (H.push (seqObj "list" vs.toArray 0)) news:=N.grown keep
  generalize H.push (seqObj "list" vs.toArray 0)=G at*
  have ha:H.objs.size<G.objs.size:=Heap.lt_size hoL
  have haL:H.objs.size≠L:=Nat.ne_of_gt (by rw[hsz];exact Nat.lt_succ_of_lt hL)
  have ha0:h₀.get? H.objs.size=none:=Heap.get?_none_of_le (Nat.le_trans F.above (by rw[hsz];exact Nat.le_succ_of_le (Nat.le_of_lt hL)))
  have hna:∀p∈news,p.1<H.objs.size:=fun p hp=>by rw[hsz];exact Nat.lt_succ_of_lt (Heap.lt_size (N p hp).1)
  generalize H.objs.size=D at*
  have s1:=Heap.SameBut.update G D (Obj.mapSeq fun _=>(#[]:Array Value))
  obtain ⟨e1,ho1⟩:∃e1,(G.update D (Obj.mapSeq fun _=>(#[]:Array Value))).get? D=some (seqObj "list" #[] e1):=⟨_,get?_update_seq hoL fun _=> #[]⟩
  have F2:=ksk_fr F1 s1 haL ha0
  have N2:=ksk_news N1 s1 fun p hp=>Nat.ne_of_lt (hna p hp)
  unfold ksk_tree
  refine wpAny_bind (listItems_at hoL rfl ?_)
  refine wpAny_bind (listUpdate_at hoL rfl ?_ (by rw[List.size_toArray,sizeLine_eq];(exact lin (.h 1 (.t Y0 (.c 64)) (.G 1 (.l Y0 (.c 16777216)))) rfl [_] [] h64)) (Nat.zero_le _))
  refine wpAny_bind (seqEpoch_at ho1 rfl ?_)
  refine wpAny_bind (wpAny_newTuple ?_ (by show vs.length≤_;rw[sizeLine_eq];(exact lin (.h 1 (.t Y0 (.c 64)) (.G 1 (.l Y0 (.c 16777216)))) rfl [_] [] h64)))
  refine wpAny_bind (wpAny_newList ?_ (Nat.zero_le _))
  refine wpAny_holding ?_
  have hz:(G.update D (Obj.mapSeq fun _=>(#[]:Array Value))).objs.size=G.objs.size:=Heap.size_update ..
  refine st_rest (kS:=((G.update D (Obj.mapSeq fun _=>(#[]:Array Value))).push (seqObj "tuple" vs.toArray 0)).objs.size) ((F2.push _).push _) (fun p hp=> ?_) (by rw[size_push',hz];exact Nat.ne_of_gt (Nat.lt_succ_of_lt ha)) (fun p hp=>by rw[size_push',hz];exact Nat.ne_of_lt (Nat.lt_succ_of_lt (Heap.lt_size (N1 p hp).1))) (fun p hp=>Nat.ne_of_lt (hna p hp)) hlen h64 turn ?_
  ·have hLk:L<((G.update D (Obj.mapSeq fun _=>(#[]:Array Value))).push (seqObj "tuple" vs.toArray 0)).objs.size:=(F2.push _).ns.lt
   rcases List.mem_append.mp hp with hp|hp
   ·exact ⟨Heap.get?_push_of_some _ (Heap.get?_push_of_some _ (N2 p hp).1),(N2 p hp).2⟩
   ·rcases List.mem_cons.mp hp with rfl|hp
    ·exact ⟨Heap.get?_push_size _ rfl,Nat.ne_of_gt hLk,Heap.get?_none_of_le (Nat.le_trans F.above (Nat.le_of_lt hLk))⟩
    ·rw[List.mem_singleton.mp hp]
     exact ⟨Heap.get?_push_of_some _ (Heap.get?_push_of_some _ ho1),haL,ha0⟩
  ·intro h' tk out c F' N' k'
   refine ⟨_,rfl,wpAny_pure ⟨_,rfl,h _ h' tk c F' ?_ hna⟩⟩
   have e:out=(byKey ks vs).toArray:=Array.toList_inj.mp (by rw[k'])
   rw[e] at N'
   exact N'
end
open AutoSeq1 (wpAny_loadPart') in
open MeetsSeq MeetsSeq2 MeetsSeq3 SeqRoads2 in
theorem loop_eq {prog:Program} {w:World} {A:Around} {R:Result→Shared→Prop} (l b:Addr) (xs ys:Array Value) (p:Nat) (hsz:xs.size=ys.size) (hp:p≤xs.size) (I:Shared→Prop)
  (hI:∀s,I s→s.heap.IsList l xs∧s.heap.IsList b ys)
  (step:∀i s,i≤p→∀(h1:i<xs.size) (h2:i<ys.size),I s→wpAny (model prog w) A.in1 (eqBool xs[i] ys[i]) (fun c s'=>c=decide (i<p)∧I s') (fun e s'=>R (.error e) s') s)
  (fin:∀s,I s→R (.ok (.ret (.bool (decide (p=xs.size))))) s):
  ∀(k i:Nat) (s:Shared),xs.size - i=k→i≤p→I s→wpAny (model prog w) A.in1 (Builtin.«list.__eq__.loop» ⟨[.ref l,.ref b,rawInt i,rawInt 2],[]⟩)
   (fun fin s'=>match fin with| .done f=>R (.ok f) s'| .again c'=>c'.quiet=true∧codeAny (model prog w) A c' R s') (fun e s'=>R (.error e) s') s:=by
 intro k
 induction k with
 |zero=>
  intro i s hk hip hs
  obtain ⟨⟨⟨c1,d1,dt1,sl1⟩,ho1,hc1,n1,hd1⟩,⟨c2,d2,dt2,sl2⟩,ho2,hc2,n2,hd2⟩:=hI s hs
  have hf:=fin s hs
  have hpn:p=xs.size:=by exact Nat.le_antisymm (lin (.h 1 (.l Y0 Y1) (.G 1 (.l Y0 Y1))) rfl [_,_] [] hp) (lin (.h 1 (.e Y2 (.c 0)) (.h 1 (.l Y3 Y1) (.h 1 (.d (.a Y2 Y3) Y0) (.G 1 (.l Y0 Y1))))) rfl [_,_,_,_] [] hk hip (sC (lin (.h 1 (.l Y2 Y1) (.h 1 (.l Y0 Y2) (.G 1 (.l Y0 Y1)))) rfl [_,_,_] [] hp hip)))
  simp only at hc1 hd1 hc2 hd2
  subst hc1 hd1 hc2 hd2
  obtain ⟨H,g,d,tk,os⟩:=s
  wp_walk using wpAny_loadPart' ho1,wpAny_loadPart' ho2
  have hi1:xs[((i:Nat):Int).toNat]? =none:=by simp;(exact lin (.h 1 (.e Y2 (.c 0)) (.h 1 (.l Y0 (.a Y2 Y1)) (.G 1 (.l Y0 Y1)))) rfl [_,_,_] [] hk (sub_up _ _))
  have hi2:ys[((i:Nat):Int).toNat]? =none:=by simp;(exact lin (.h 1 (.d Y2 Y0) (.h 1 (.e Y3 (.c 0)) (.h 1 (.l Y2 (.a Y3 Y1)) (.G 1 (.l Y0 Y1))))) rfl [_,_,_,_] [] hsz hk (sub_up _ _))
  rw[hi1,hi2]
  wp_walk using wpAny_loadPart' ho1,wpAny_loadPart' ho2
  show R (.ok (.ret (.bool (xs.size==ys.size)))) _
  rw[hsz,beq_self_eq_true]
  rw[hpn,decide_eq_true rfl] at hf
  exact hf
 |succ k ih=>
  intro i s hk hip hs
  have hlt:i<xs.size:=by exact (Nat.le_total _ _).elim (fun e30=>lin (.h 1 (.d Y2 (.a Y3 (.c 1))) (.h 1 (.e (.a Y2 Y0) Y1) (.G 1 (.t Y0 Y1)))) rfl [_,_,_,_] [] hk (sC (lin (.h 1 (.l Y0 Y1) (.G 1 (.l Y0 Y1))) rfl [_,_] [] e30))) (fun e30=>False.elim (lin (.h 1 (.d Y0 (.a Y1 (.c 1))) (.h 1 (.e Y0 (.c 0)) .F)) rfl [_,_] [] hk (Nat.sub_eq_zero_of_le (lin (.h 1 (.l Y0 Y1) (.G 1 (.l Y0 Y1))) rfl [_,_] [] e30))))
  have hlt2:i<ys.size:=by exact lin (.h 1 (.e Y2 Y1) (.h 1 (.t Y0 Y2) (.G 1 (.t Y0 Y1)))) rfl [_,_,_] [] hsz hlt
  have hst:=step i s hip hlt hlt2 hs
  obtain ⟨⟨⟨c1,d1,dt1,sl1⟩,ho1,hc1,n1,hd1⟩,⟨c2,d2,dt2,sl2⟩,ho2,hc2,n2,hd2⟩:=hI s hs
  simp only at hc1 hd1 hc2 hd2
  subst hc1 hd1 hc2 hd2
  obtain ⟨H,g,d,tk,os⟩:=s
  wp_walk using wpAny_loadPart' ho1,wpAny_loadPart' ho2
  have hi1:xs[((i:Nat):Int).toNat]? =some xs[i]:=by simp[hlt]
  have hi2:ys[((i:Nat):Int).toNat]? =some ys[i]:=by simp[hlt2]
  have hc:((i:Int)+1)=((i+1:Nat):Int):=by push_cast;rfl
  rw[hi1,hi2]
  refine wpAny_bind (wpAny_mono hst (fun c s' h'=> ?_) fun _ _ e=>e)
  obtain ⟨rfl,hs'⟩:=h'
  by_cases hip':i<p
  ·rw[decide_eq_true hip']
   wp_walk
   rw[hc]
   exact ⟨plainId_quiet plain_eq_loop _,codeAny_builtin entry_eq_loop (by
    rw[Around.under_plainId plain_eq_loop _]
    exact ih (i+1) s' (by exact Nat.le_antisymm (lin (.h 1 (.e Y2 (.a Y1 (.c 1))) (.h 1 (.e (.a Y0 (.a Y3 (.c 1))) Y4) (.h 1 (.d (.a Y2 Y3) Y4) (.G 1 (.l Y0 Y1))))) rfl [_,_,_,_,_] [] hk (sC (lin (.h 1 (.t Y0 Y1) (.G 1 (.l (.a Y0 (.c 1)) Y1))) rfl [_,_] [] hlt)) (sC (lin (.h 1 (.t Y0 Y1) (.G 1 (.l Y0 Y1))) rfl [_,_] [] hlt))) (lin (.h 1 (.d Y2 (.a Y0 (.c 1))) (.h 1 (.d (.a Y1 (.a Y3 (.c 1))) Y4) (.h 1 (.e (.a Y2 Y3) Y4) (.G 1 (.l Y0 Y1))))) rfl [_,_,_,_,_] [] hk (sC (lin (.h 1 (.t Y0 Y1) (.G 1 (.l (.a Y0 (.c 1)) Y1))) rfl [_,_] [] hlt)) (sC (lin (.h 1 (.t Y0 Y1) (.G 1 (.l Y0 Y1))) rfl [_,_] [] hlt)))) hip' hs')⟩
  ·rw[decide_eq_false hip']
   have hf:=fin s' hs'
   rw[decide_eq_false (by exact fun eN=>lin (.h 1 (.t Y0 Y1) (.h 1 (.nt Y0 Y2) (.h 1 (.d Y2 Y1) .F))) rfl [_,_,_] [] hlt hip' eN)] at hf
   obtain ⟨⟨⟨c1,d1,dt1,sl1⟩,ho1',hc1,n1',hd1⟩,⟨c2,d2,dt2,sl2⟩,ho2',hc2,n2',hd2⟩:=hI s' hs'
   simp only at hc1 hd1 hc2 hd2
   subst hc1 hd1 hc2 hd2
   obtain ⟨H',g',d',tk',os'⟩:=s'
   wp_walk using wpAny_loadPart' ho1',wpAny_loadPart' ho2'
   rw[hi1,hi2]
   wp_walk
   exact hf
open AutoSeq1 (wpAny_loadPart') in
open MeetsSeq MeetsSeq2 MeetsSeq3 SeqRoads2 in
theorem lists_eq {prog:Program} {w:World} {A:Around} {E:Value→Shared→Prop} {Q:Value→Shared→Prop} {s:Shared} {l b:Addr} {xs ys:Array Value} {p:Nat} (hsz:xs.size=ys.size) (hp:p≤xs.size) (I:Shared→Prop) (hu:A.units<cLine)
  (hI:∀s,I s→s.heap.IsList l xs∧s.heap.IsList b ys)
  (step:∀i s,i≤p→∀(h1:i<xs.size) (h2:i<ys.size),I s→wpAny (model prog w) A.in1 (eqBool xs[i] ys[i]) (fun c s'=>c=decide (i<p)∧I s') E s)
  (hs:I s) (fin:∀s,I s→Q (.bool (decide (p=xs.size))) s):wpAny (model prog w) A (compareOp .Eq (.ref l) (.ref b)) Q E s:=by
 have hI0:=hI s hs
 obtain ⟨⟨⟨c1,d1,dt1,sl1⟩,ho1,hc1,n1,hd1⟩,⟨c2,d2,dt2,sl2⟩,ho2,hc2,n2,hd2⟩:=id hI0
 simp only at hc1 hd1 hc2 hd2
 subst hc1 hd1 hc2 hd2
 have hT1:s.TypeIs (.ref l) "list":=⟨_,ho1,rfl⟩
 have hT2:s.TypeIs (.ref b) "list":=⟨_,ho2,rfl⟩
 show wpAny _ _ (richCompare .Eq (.ref l) (.ref b)) Q E s
 refine wpAny_richCompare_same_room (op:= .Eq) hT1 hT2 F.slot_list_eq (wpAny_call (codeAny_call_builtin F.slot_list_eq.plain F.entry_list_eq (F.slot_list_eq.check _ _ _ _ _ _ _ _ hT1 (F.args_list_eq_2 _ _) ?_))) hu
 have key:=loop_eq (prog:=prog) (w:=w) (A:=A) (R:=wants (fun v s'=>v≠.notImplemented∧Q v s') E) l b xs ys p hsz hp I hI step (fun s hs=>show Value.bool _≠Value.notImplemented∧Q _ s from ⟨(fun x=>nomatch x),fin s hs⟩) _ 0 s rfl (Nat.zero_le _) hs
 obtain ⟨H,g,d,tk,os⟩:=s
 have f3:=AutoSeq1.sub_list_list
 have hne:¬ (xs.size !=ys.size)=true:=by simp[hsz]
 wp_walk using wpAny_loadPart' ho1,wpAny_loadPart' ho2
 exact ⟨plainId_quiet plain_eq_loop _,codeAny_builtin entry_eq_loop (by
  rw[Around.under_plainId plain_eq_loop _]
  exact key)⟩
theorem sortK_map {α β:Type} {key:β→Int} (f:α→β) (l:List α):sortK key (l.map f)=(sortK (fun a=>key (f a)) l).map f:=by
 refine (StableOf.eq (m:=l.map f) (sortK_stable key (l.map f)) ⟨?_,fun k=> ?_⟩ fun _=>rfl)
 ·exact List.pairwise_map.mpr (sortK_stable (fun a=>key (f a)) l).up
 ·rw[List.filter_map,List.filter_map]
  exact congrArg _ ((sortK_stable (fun a=>key (f a)) l).fil k)
theorem Each.zip {α β:Type} {R:α→β→Prop} {l:List α} {k:List β} (h:Each R l k):(l.zip k).map Prod.fst=l∧(l.zip k).map Prod.snd=k∧∀p∈l.zip k,R p.1 p.2:=by
 induction h with
 |nil=>exact ⟨rfl,rfl,fun _ h=>absurd h List.not_mem_nil⟩
 |cons h _ ih=>
  obtain ⟨h1,h2,h3⟩:=ih
  exact ⟨by rw[List.zip_cons_cons,List.map_cons,h1],by rw[List.zip_cons_cons,List.map_cons,h2],fC ⟨h,h3⟩⟩
theorem each_pairs {α β:Type} {R:α→β→Prop}:∀{z:List (α×β)},(∀p∈z,R p.1 p.2)→Each R (z.map Prod.fst) (z.map Prod.snd)
 |[],_=> .nil
 |p::_,h=> .cons (h p (.head _)) (each_pairs fun q hq=>h q (.tail _ hq))
theorem each_sorted {α:Type} {R:α→Value→Prop} {key:α→Int} {l:List α} {vs:List Value} (h:Each R l vs):Each R (sortK key l) (byKey (l.map key) vs):=by
 obtain ⟨h1,h2,h3⟩:=h.zip
 have e1:sortK key l=(sortK (fun p:α×Value=>key p.1) (l.zip vs)).map Prod.fst:=by
  rw[←sortK_map (key:=key) Prod.fst,h1]
 have e2:byKey (l.map key) vs=(sortK (fun p:α×Value=>key p.1) (l.zip vs)).map Prod.snd:=by
  have e3:(l.map key).zip vs=(l.zip vs).map fun p=>(key p.1,p.2):=by rw[List.zip_map_left];rfl
  unfold byKey
  rw[e3,sortK_map (key:=Prod.fst) (fun p:α×Value=>(key p.1,p.2)),List.map_map];rfl
 rw[e1,e2]
 exact each_pairs fun p hp=>h3 p (((sortK_stable _ _).mem p).mp hp)
section
variable {d:Df} {c:Cx} {kp:Kp} {σ σ':St} {RE:Flt→St→Prop}
theorem Hs.at {as:List AV} {vs:List Value} (h:Hs as vs):∀{i:Nat} {a:AV},Mine.nth as i=some a→i<as.length∧∃v,vs[i]? =some v∧a.has v:=by
 induction as generalizing vs with
 |nil=>exact fun e=>nth_nil e
 |cons b as ih=>
  obtain ⟨v,r,e,hv,hr⟩:=h.cons
  intro i a
  rw[e]
  cases i with
  |zero=>exact fun e=>⟨Nat.succ_pos _,v,rfl,Option.some.inj e▸hv⟩
  |succ i=>exact fun e=>(ih hr (i:=i) e).imp Nat.succ_lt_succ id
theorem seqIdx {n m:Nat} (h:n<m):seqIndex? (n:Int) m=some n:=by
 unfold seqIndex?
 simp only[if_neg (Int.not_lt.mpr (Int.natCast_nonneg n)),decide_eq_true (Int.natCast_nonneg n),decide_eq_true (Int.ofNat_lt.mpr h),Bool.and_self,if_true,Int.toNat_natCast]
inductive ItT (c:Cx) (n:Nat) (Q:AV→St→Prop):AV→St→Prop
 |mk {r avs v σ}:Tp c σ r avs→nth avs n=some v→Q v σ→ItT c n Q (.v (.ref r)) σ
theorem GA_itemT (X:Fx d c) {a:Ex} {p q:Pos} {n:Nat} {Q:AV→St→Prop} (h:GA d c a (ItT c n Q) σ) (hn:n<1000) (hs:∀r t,subscripted (.Constant (.int n) 0 q) false (.ref r) (.int n t)=operate [.ref r,.int n t] (getItem (.ref r) (.int n t)):=by intro _ _;rfl):GA d c (.sub a (.num n q) p) Q σ:=fun kp hp tk K=>
 Subscript_ (h.run K fun v x h' σ' tk' hx K' e=>by
  cases e with
  |mk ht hv k=>
   rw[AV.has_v hx]
   refine (ev_ok X (.num n q)).v [] _ rfl trivial kp h' tk' _ K' fun w h2 tk2 hw K2=> ?_
   obtain ⟨t,hw⟩:=AV.has_i hw
   rw[hw]
   obtain ⟨items,hT,hi⟩:=tp_at K2 ht
   obtain ⟨hl,y,hy,hya⟩:=hi.at hv
   exact tail_any hT.typeIs slot_tuple_getitem.lookup (getItem_tuple hT (Int.le_trans (by decide) (Int.natCast_nonneg n)) (by exact lin (.h 1 (.t Y0 (.c 1000)) (.G 1 (.T Y0 (.c 9223372036854775808)))) rfl [_] [] hn) (j:=n) (by rw[List.size_toArray];exact seqIdx (hi.length▸hl)) (by rw[List.getElem?_toArray];exact hy) (postA K2 hya k)) (hs _ _))
theorem V_loc {j:Nat} {n:Str} {a:AV} {p:Pos} {os:List Orc} (hj:nth d.names j=some n) (hl:nth σ.vs j=some (some a)):V d c σ (.loc j p) os=some (a,os,[]):=by
 show ob (nth d.names j) (fun _=>ob (nth σ.vs j) fun o=>ob o fun a=>some (a,os,[]))=_
 rw[hj,hl];rfl
theorem GA_frb (X:Fx d c) {q r p p1 p2:Pos} {j:Nat} {n:Str} {l:List UInt8} {Q:AV→St→Prop} (hj:nth d.names j=some n) (hl:nth σ.vs j=some (some (.b l))) (h8:l.length≤8) (hsc:d.sc.names.lookup ("int":Str)=some .globalImplicit) (k:Q (.i (leNum (ub l))) σ)
  (hr:(r.endLine==p.line)=true:=by rfl):GA d c (.meth (.gl "int" q) "from_bytes" r (.cons (.loc j p1) (.cons (.txt "little" p2) .nil)) p) Q σ:=fun kp hp tk K=>K.open fun m bs F V B N=>
 MethodCall_ (nameX_B F X.inn (topRead_of X.top) (rfl:nsIn (Mine.kf _) mainGlobals "int"=some none) (v:= .type "int") rfl (by decide) (KFB.getm F N X.inn rfl fun x h' F' N' l1=>by
  have K2:Ok d c kp (σ.add [(x,KFB.bound)]) h':=K.add V B F' N' (fun q hq p hp=>List.mem_singleton.mp hp▸Exists.elim (B.get q hq) fun o h=>Nat.ne_of_gt (l1 _ (mL _ h.1))) fun q hq p hp=>List.mem_singleton.mp hp▸l1 q (mR _ hq)
  have g:GL d c (.cons (.loc j p1) (.cons (.txt "little" p2) .nil)) (fun xs σ'=>xs=[.b l,.s "little"]∧σ'=σ.add [(x,KFB.bound)]) (σ.add [(x,KFB.bound)]):=GL_cons (GA_p X (V_loc (os:=[]) hj hl) (GL_cons (GA_p X (os:=[]) rfl (GL_nil ⟨rfl,rfl⟩))))
  refine KFB.callWith_bound (e:=(ux d.names (.loc j p1)).1) (rest:=(ux d.names (.cons (.txt "little" p2) .nil)).2) N' (.head _) (g.run K2 fun vs xs h2 σ2 tk2 hv K3 e=> ?_) (star_any (.loc j p1) _ _)
  ·obtain ⟨e1,e2⟩:=e
   subst e1;subst e2
   obtain ⟨v1,_,e1,⟨hv1,hv⟩⟩:=hv.cons
   obtain ⟨v2,_,e2,⟨hv2,hv⟩⟩:=hv.cons
   obtain ⟨t1,hv1⟩:=AV.has_b hv1
   obtain ⟨t2,hv2⟩:=AV.has_s hv2
   cases hv
   rw[e1,e2,hv1,hv2]
   refine K3.open fun m bs F V B N=>⟨KFB.at_of N (mR _ (.head _)),KFB.call_little N (mR _ (.head _)) rfl ?_ fun t' k'=> ?_⟩
   ·rw[KBw.ints_length,List.size_toArray];exact h8
   ·show Post d c kp (AQ Q) (.int (List.foldl (fun a k=>a*256+k) 0 (ub l).reverse) t') _
    rw[fold_le]
    exact postI (K3.sub fun p hp=> .tail _ hp) k) X.ok.kind hsc (by decide)) (meth_eq (x:="int") rfl hr)
end
section
variable {d:Df} {c:Cx} {kp:Kp} {σ σ':St} {RE:Flt→St→Prop}
inductive NeB (Q:Bool→St→Prop):AV→AV→St→Prop
 |mk {l m σ}:Q (l !=m) σ→NeB Q (.b l) (.b m) σ
theorem GT_neB {a b:Ex} {p:Pos} {Q:Bool→St→Prop} (h:GA d c a (fun x σ=>GA d c b (NeB Q x) σ) σ):GT d c (.cmp a .NotEq b p) Q σ:=fun kp hp tk K=>
 wpAny_isTrue_Compare1 (h.run K fun v x h' σ' tk' hx K' q=>q.run K' fun w y h2 σ2 tk2 hy K2 q2=>by
  cases q2 with
  |mk q2=>
   obtain ⟨t,hx⟩:=AV.has_b hx
   obtain ⟨u,hy⟩:=AV.has_b hy
   rw[hx,hy]
   exact ne_bytes (wpAny_truthy_bool (post K2 q2))) (marks _ b)
theorem H_exp (X:Fx d c) {e:Ex} {p:Pos} {rest:Sx} {Q:Flow→St→Prop} (h:GA d c e (fun _ σ=>H d c rest Q σ) σ) (hs:swapsWith (ux d.names e).1 none p.line (c.env d)=pure false:=by rfl):H d c (.cons (.exp e p) rest) Q σ:=H_st fun kp hp tk K=>
 wpAny_Expr_any (h.run K fun v a h' σ' tk' ha K' q=>post (Q:=sq d c rest Q) (v:=Flow.next) K' q) (not_interactive X) hs
theorem GA_kza (X:Fx d c) (ms:List Bool) {x:Str} {q p:Pos} {a as:Ex} {k K:Nat} {f:Addr} {xs:List AV} {os os':List Orc} {ob:List Prop} {need:Heap→Led→Prop} {res:Value→Led→ALed→Prop} {err:Flt→Led→ALed→Prop} {Q:AV→St→Prop} (hg:Gv d x f) (hv:Vl d c σ (.cons a as) os=some (xs,os',ob)) (C:KZ c.w k f xs (tk ms σ.ab) need res err) (TH:Thr d c RE) (rm:Rm c K) (hk:k<K)
  (hn:∀bs (kp:Kp),Bs (rs ms σ.ab) bs→need c.base (bs++c.all kp σ)) (ret:∀v led ab1,res v led ab1→AQ Q v (σ.aft ms ab1 led)) (exc:∀fl led ab1,err fl led ab1→RE fl (σ.aft ms ab1 led)) (ho:All ob:=by exact True.intro)
  (h2:∀p,(backTo p (starEach (ux d.names as).2 (c.env d))).any (·.1)=false:=by exact fun _=>rfl):GA d c (.call (.gl x q) (.cons a as) p) Q σ:=
 GA_call X hg (GL_p X hv (fun vs hvs=>G_kz X ms (C vs hvs) TH rm hk hn ret exc) ho) h2
inductive OwnQ (σ:St) (Q:AV→St→Prop):Value→Led→Prop
 |mk {l o tl v} {P:Obj→Prop}:P o→(∀p∈tl,p.1<l)→Q (.v v) ⟨σ.vs,(l,P)::σ.ab,tl++σ.ex⟩→OwnQ σ Q v ((l,o)::tl)
theorem GA_new (X:Fx d c) {x:Str} {q p:Pos} {k K:Nat} {f:Addr} {res:Value→Led→Prop} {Q:AV→St→Prop} (hg:Gv d x f) (C:KA c.w k f [] (fun _=>True) res) (rm:Rm c K) (hk:k<K) (ret:∀v led,res v led→OwnQ σ Q v led):GA d c (.call (.gl x q) .nil p) Q σ:=fun kp hp tk K=>
 K.open fun m bs F V B N=>Call_ (nameX_K F X.inn (topRead_of X.top) (hg.n _) (callWith_K0 (X.inn.keeps F.keep) (hg.k _) (C [] .nil X.below F X.inn N X.top X.ok.kind (rm.call hk).1 (rm.call hk).2 trivial fun v led h' tk' F' N' hr ho=>by
  cases ret v led hr with
  | @mk l o tl _ P hP hl k=>
   have K2:Ok d c kp (σ.add tl) h':=K.add V B F' (fun p hp=>N' p (.tail _ hp)) (fun q hq p hp=>Exists.elim (B.get q hq) fun o h=>Nat.ne_of_gt (ho _ (mL _ h.1) p (.tail _ hp))) fun q hq p hp=>ho q (mR _ hq) p (.tail _ hp)
   refine postR (K2.put V B F' (fun p hp=>N' p ?_) (fun p hp=> ?_) hP) k
   ·exact (List.mem_cons.mp hp).elim (fun h=>h▸.head _) fun h=> .tail _ (mem_in h)
   ·exact (List.mem_append.mp (mem_in hp)).elim (hl p) fun h=>ho p h _ (.head _))) X.ok.kind hg.l hg.b) rfl
theorem GA_meth (X:Fx d c) (ms:List Bool) {i:Nat} {n name:Str} {o C dx f:Addr} {es:List DictEntry} {nn:Nat} {q r p:Pos} {a as:Ex} {k K:Nat} {xs:List AV} {os os':List Orc} {ob:List Prop} {need:Heap→Led→Prop} {res:Value→Led→ALed→Prop} {err:Flt→Led→ALed→Prop} {Q:AV→St→Prop} (hi:nth d.names i=some n) (hl:nth σ.vs i=some (some (.v (.ref o))))
  (m1:(o,instObj C dx)∈σ.ex) (m2:(dx,dictOf es nn)∈σ.ex) (hg:∀P,plainGet (Mine.kf P) C name=true) (hf:∀P,findIn (Mine.kf P) (.ref C) name=some (some (.ref f))) (ht:∀P,isFn (Mine.kf P) (.ref f)=true) (hs:getL name es=some none) (hkp:∀P,keepIn (Mine.kf P) (.ref f)=true)
  (hv:Vl d c σ (.cons a as) os=some (xs,os',ob)) (C':KZ c.w k f (.v (.ref o)::xs) (tk ms σ.ab) need res err) (TH:Thr d c RE) (rm:Rm c K) (hk:k<K) (hn:∀bs (kp:Kp),Bs (rs ms σ.ab) bs→need c.base (bs++c.all kp σ)) (ret:∀v led ab1,res v led ab1→Q (.v v) (σ.aft ms ab1 led)) (exc:∀fl led ab1,err fl led ab1→RE fl (σ.aft ms ab1 led)) (ho:All ob:=by exact True.intro)
  (h2:∀p,(backTo p (starEach (ux d.names as).2 (c.env d))).any (·.1)=false:=by exact fun _=>rfl) (hm:methodCallForm ((ux d.names (.cons a as)).2.length+0) (backTo p (starEach (ux d.names (.cons a as)).2 (c.env d))) (backToKw p (keywordEach [] (c.env d)))=true:=by rfl) (hr:(r.endLine==p.line)=true:=by rfl):GA d c (.meth (.loc i q) name r (.cons a as) p) Q σ:=fun kp hp tk K=>
 MethodCall_ (readL X K hi hl fun v hv'=>by
  rw[AV.has_v hv']
  exact K.open fun m bs F V B N=>method_inst F X.inn (InstAt.of_news N (mR _ (mL _ m1)) (mR _ (mL _ m2))) (hg _) (hf _) (ht _) hs (callWith_K (e:=(ux d.names a).1) (rest:=(ux d.names as).2) X.inn (hkp _)
   ((GL_p X hv (Q:=fun xs' σ'=>xs'=xs∧σ'=σ) ⟨rfl,rfl⟩ ho).run K fun vs xs' h' σ' tk' hxs K' e=>by
    obtain ⟨e1,e2⟩:=e
    subst e1;subst e2
    exact K'.open fun m bs F V B N=>⟨X.inn.keeps F.keep,(G_kz (Q:=AQ Q) X ms (C' _ (.v hxs)) TH rm hk hn (fun v led ab1 hr=>⟨.v v,rfl,ret v led ab1 hr⟩) exc).run K' fun v h2 σ2 tk2 K2 q=>post K2 q⟩) (star_any a _ _) (h2 _))) (meth_eq (x:=nm d.names i) hm hr)
end
section
variable {d:Df} {c:Cx} {kp:Kp} {σ σ':St} {RE:Flt→St→Prop}
theorem GA_cmpG {op:CmpOp} {a b:Ex} {p:Pos} {Q:AV→St→Prop} (h:GA d c a (fun x σ=>GA d c b (fun y σ=>∀v w,x.has v→y.has w→G d c (compareOp op v w) (AQ Q) σ) σ) σ):GA d c (.cmp a op b p) Q σ:=fun kp hp tk K=>
 wpAny_Compare1 (h.run K fun v x h' σ' tk' hx K' q=>q.run K' fun w y h2 σ2 tk2 hy K2 q2=>q2 v w hx hy kp h2 tk2 K2) (marks op b)
inductive TrQ (Q:Bool→St→Prop):Value→St→Prop
 |mk {k σ}:Q k σ→TrQ Q (.bool k) σ
theorem GT_cmpG {op:CmpOp} {a b:Ex} {p:Pos} {Q:Bool→St→Prop} (h:GA d c a (fun x σ=>GA d c b (fun y σ=>∀v w,x.has v→y.has w→G d c (compareOp op v w) (TrQ Q) σ) σ) σ):GT d c (.cmp a op b p) Q σ:=fun kp hp tk K=>
 wpAny_isTrue_Compare1 (h.run K fun v x h' σ' tk' hx K' q=>q.run K' fun w y h2 σ2 tk2 hy K2 q2=>G.run (q2 v w hx hy) K2 fun r h3 σ3 tk3 K3 e=>by
  cases e with
  |mk q=>exact wpAny_truthy_bool (post K3 q)) (marks op b)
theorem G_is {b k:Bool} {Q:Value→St→Prop} (q:Q (.bool (b==k)) σ):G d c (compareOp .Is (.bool b) (.bool k)) Q σ:=fun kp h tk K=>wpAny_is_plain rfl (post K (by cases b<;>cases k<;>exact q))
theorem G_isnot {b k:Bool} {Q:Value→St→Prop} (q:Q (.bool (!(b==k))) σ):G d c (compareOp .IsNot (.bool b) (.bool k)) Q σ:=fun kp h tk K=>wpAny_isNot_plain rfl (post K (by cases b<;>cases k<;>exact q))
theorem GT_or (X:Fx d c) {a b:Ex} {p:Pos} {os os':List Orc} {x:Bool} {ob:List Prop} {Q:Bool→St→Prop} (ha:T d c σ a os=some (x,os',ob)) (h1:x=true→Q true σ) (h2:x=false→GT d c b Q σ) (ho:All ob:=by exact True.intro):GT d c (.bop .Or (.cons a (.cons b .nil)) p) Q σ:=fun kp hp tk K=>
 isTrue_or ((ev_ok X a).t _ _ ha ho kp hp tk _ K fun v h' tk' e K'=>by
  cases v with
  |true=>exact post K' (h1 e)
  |false=>exact isTrue_or (G.run (h2 e) K' fun v h2 σ2 tk2 K2 q=>by
    cases v with
    |true=>exact post K2 q
    |false=>exact isTrue_or_nil (post K2 q)))
inductive AndQ (d:Df) (c:Cx) (b:Ex) (Q:AV→St→Prop):AV→St→Prop
 |mk {k σ}:(k=false→Q (.v (.bool false)) σ)→(k=true→GA d c b Q σ)→AndQ d c b Q (.v (.bool k)) σ
theorem GA_andC {a b as:Ex} {p:Pos} {Q:AV→St→Prop} (h:GA d c a (AndQ d c (.bop .And (.cons b as) p) Q) σ):GA d c (.bop .And (.cons a (.cons b as)) p) Q σ:=fun kp hp tk K=>BoolOp_and (h.run K fun v x h' σ' tk' hx K' q=>by
 cases q with
 | @mk k _ q1 q2=>
  rw[AV.has_v hx]
  refine wpAny_truthy_bool ?_
  cases k with
  |true=>exact (q2 rfl) kp h' tk' K'
  |false=>exact postR K' (q1 rfl))
theorem GA_and1 {a:Ex} {p:Pos} {Q:AV→St→Prop} (h:GA d c a Q σ):GA d c (.bop .And (.cons a .nil) p) Q σ:=fun kp hp tk K=>BoolOp_one (h kp hp tk K)
theorem GA_ite {t a b:Ex} {p:Pos} {Q:AV→St→Prop} (h:GT d c t (fun k σ=>(k=true→GA d c a Q σ)∧(k=false→GA d c b Q σ)) σ):GA d c (.ite t a b p) Q σ:=fun kp hp tk K=>IfExp_ (G.run h K fun k h' σ' tk' K' q=>by
 cases k with
 |true=>exact q.1 rfl kp h' tk' K'
 |false=>exact q.2 rfl kp h' tk' K')
noncomputable def LV (c:Cx) (σ:St) (a:Addr) (vs:List Value):Prop:=(a,seqP vs)∈σ.ab∨∃k,(a,listOf vs.toArray k)∈σ.ex++c.news
theorem lv_at {h:Heap} {a:Addr} {vs:List Value} (K:Ok d c kp σ h) (hl:LV c σ a vs):h.IsList a vs.toArray:=K.open fun m bs F V B N=>by
 rcases hl with hl|⟨k,hm⟩
 ·obtain ⟨o,h1,k,rfl⟩:=B.get _ hl
  exact isList_led N (mL _ h1)
 ·exact isList_led N (mR _ (mem3 hm))
theorem two20 {n:Nat} (h:n<2 ^ 20):n≤sizeLine:=Nat.le_trans (Nat.le_of_lt h) (show 2 ^ 20≤sizeLine by decide)
theorem GA_lenV (X:Fx d c) {a:Ex} {q p:Pos} {os os':List Orc} {ob:List Prop} {l:Addr} {vs:List Value} {Q:AV→St→Prop} (hv:V d c σ a os=some (.v (.ref l),os',ob)) (L:LV c σ l vs) (hn:vs.length<2 ^ 20) (k:Q (.i vs.length) σ) (ho:All ob:=by exact True.intro) (hb:d.bs.any Bn.len.is=true:=by rfl):GA d c (.bn .len q (.cons a .nil) p) Q σ:=fun kp hp tk K=>by
 obtain ⟨b',hm,hb'⟩:=List.any_eq_true.mp hb
 have hbe:=Bn.is_eq hb'
 subst hbe
 refine K.open fun m bs F V B N=>Call_ (nameX_B F X.inn (topRead_of X.top) rfl (v:= .builtin "len") rfl (by decide) ?_ X.ok.kind (X.ok.bn _ hm) (by decide)) rfl
 exact PyProof.Rows.callWith_builtin1 (args_cons ((ev_ok X a).v _ _ hv ho kp hp tk _ K fun v h' tk' hw K'=>args_nil (by
  rw[AV.has_v hw]
  refine Calls.call_len_list (lv_at K' L) (by rw[List.size_toArray];exact lin (.h 1 (.t Y0 (.c 1048576)) (.G 1 (.T Y0 (.c 9223372036854775808)))) rfl [_] [] hn) ?_
  rw[List.size_toArray]
  exact postI K' k)) (star_any a _ _)) (star_any a _ _) rfl
inductive LastQ (c:Cx) (Q:AV→St→Prop):AV→St→Prop
 |mk {l us v σ}:LV c σ l (us++[v])→us.length<64→Q (.v v) σ→LastQ c Q (.v (.ref l)) σ
theorem GA_last (X:Fx d c) {a:Ex} {p p1 p2:Pos} {Q:AV→St→Prop} (h:GA d c a (LastQ c Q) σ):GA d c (.sub a (.una .USub (.num 1 p1) p2) p) Q σ:=fun kp hp tk K=>
 Subscript_ (h.run K fun v x h' σ' tk' hx K' e=>by
  cases e with
  | @mk l us y _ L hz k=>
   rw[AV.has_v hx]
   refine (ev_ok X (.una .USub (.num 1 p1) p2)).v [] _ rfl trivial kp h' tk' _ K' fun w h2 tk2 hw K2=> ?_
   obtain ⟨t,hw⟩:=AV.has_i (n:= -1) hw
   rw[hw]
   have hl:=lv_at K2 L
   have hsz:(us++[y]).toArray.size=us.length+1:=by rw[List.size_toArray,List.length_append];rfl
   refine tail_any hl.typeIs slot_list_getitem.lookup (wpAny_getItem_list_neg hl (by decide) (by rw[hsz];omega) (by decide) ?_ (postR K2 k)) (by rfl)
   rw[hsz,show ((-1:Int)+((us.length+1:Nat):Int)).toNat=us.length by omega]
   simp)
theorem GA_slcV (X:Fx d c) {j:Nat} {lo hi:Ex} {p q r:Pos} {l:Addr} {vs zs:List Value} {x y:Option Int} {os os1 os2:List Orc} {o1 o2:List Prop} {Q:AV→St→Prop} {n:Str} (hj:nth d.names j=some n) (hl:nth σ.vs j=some (some (.v (.ref l)))) (hx:Vp d c σ lo os=some (x,os1,o1)) (hy:Vp d c σ hi os1=some (y,os2,o2))
  (L:LV c σ l vs) (hn:vs.length<2 ^ 20) (hp:(slicePick vs.toArray x y none).toList=zs) (k:∀D,Q (.v (.ref D)) (σ.new D (seqP zs))) (ho1:All o1:=by exact True.intro) (ho2:All o2:=by exact True.intro):GA d c (.sub (.loc j p) (.slc lo hi q) r) Q σ:=fun kp h0 tk K=>
 Subscript_ (readL X K hj hl fun v hv=>wpAny_Slice (part_ok X hx ho1 K fun vl h' tk' hvl K'=>part_ok X hy ho2 K' fun vu h2 tk2 hvu K2=>evalPart_none_step (by
  rw[AV.has_v hv]
  have i1:=lv_at K2 L
  exact K2.open fun m bs F V B N=>kmk_slice_lit (s:=c.at h2 tk2) F N i1 hvl hvu hp (fun D h3 F3 N3 l=>postR (K2.put V B F3 N3 l ⟨0,rfl⟩) (k D)) rfl (fun _=>rfl) (by rw[List.size_toArray];exact two20 hn))))
inductive AddV (c:Cx) (Q:AV→St→Prop):AV→AV→St→Prop
 |mk {l r vs ws σ}:LV c σ l vs→LV c σ r ws→vs.length+ws.length<2 ^ 20→(∀D,Q (.v (.ref D)) (σ.new D (seqP (vs++ws))))→AddV c Q (.v (.ref l)) (.v (.ref r)) σ
theorem GA_addV {a b:Ex} {p:Pos} {Q:AV→St→Prop} (h:GA d c a (fun x σ=>GA d c b (AddV c Q x) σ) σ):GA d c (.bin a .Add b p) Q σ:=fun kp hp tk K=>
 wpAny_BinOp (h.run K fun v x h' σ' tk' hx K' q=>q.run K' fun w y h2 σ2 tk2 hy K2 q2=>by
  cases q2 with
  |mk L1 L2 hu q2=>
   rw[AV.has_v hx,AV.has_v hy]
   have i1:=lv_at K2 L1
   have j1:=lv_at K2 L2
   exact K2.open fun m bs F V B N=>kmk_add_lit (s:=c.at h2 tk2) F N i1 j1 rfl (fun D h3 F3 N3 l=>postR (K2.put V B F3 N3 l ⟨0,rfl⟩) (q2 D)) (two20 hu))
theorem GA_lstV (X:Fx d c) {as:Ex} {p:Pos} {os os':List Orc} {x:Value} {ob:List Prop} {Q:AV→St→Prop} (hv:Vl d c σ as os=some ([.v x],os',ob)) (k:∀r,Q (.v (.ref r)) (σ.new r (seqP [x]))) (ho:All ob:=by exact True.intro):GA d c (.lst as p) Q σ:=
 GA_lst (P:=fun _=>seqP [x]) (GL_p X hv ⟨Nat.le_of_ble_eq_true rfl,fun vs h=>by obtain ⟨w,hw,ha⟩:=Hs.one h;exact ⟨0,by rw[hw,AV.has_v ha]⟩,k⟩ ho)
end
noncomputable def dVi:Df:=⟨"_law_varint",{kind:= .function,names:=[("value",.local),("octets",.local)],isGenerator:=false,isCoroutine:=false},343,.ref 342,["value","octets"],[],[]⟩
noncomputable def bVi:Sx:=(.cons (.set 1 (pn (nat_lit 910229514)) (.lst .nil (pn (nat_lit 910376975))) (pn (nat_lit 910229519)))
 (.cons (.whl (.cmp (.loc 0 (pn (nat_lit 914522127))) .Gt (.num 127 (pn (nat_lit 914653205))) (pn (nat_lit 914522133))) (.cons (.exp (.meth (.loc 1 (pn (nat_lit 918683662))) "append" (pn (nat_lit 918683669)) (.cons (.bin (.bin (.loc 0 (pn (nat_lit 918913051))) .Mod (.num 128 (pn (nat_lit 919044129))) (pn (nat_lit 918913057))) .Add (.num 128 (pn (nat_lit 919142439))) (pn (nat_lit 918913063))) .nil) (pn (nat_lit 918683688))) (pn (nat_lit 918683688)))
 (.cons (.set 0 (pn (nat_lit 922877965)) (.bin (.loc 0 (pn (nat_lit 923009045))) .FloorDiv (.num 128 (pn (nat_lit 923156508))) (pn (nat_lit 923009052))) (pn (nat_lit 922877980)))
 .nil)) (pn (nat_lit 914424348)))
 (.cons (.ret (.bin (.loc 1 (pn (nat_lit 927121425))) .Add (.lst (.cons (.loc 0 (pn (nat_lit 927285274))) .nil) (pn (nat_lit 927268891))) (pn (nat_lit 927121435))) (pn (nat_lit 927006747)))
 .nil)))
noncomputable def dLi:Df:=⟨"_law_little",{kind:= .function,names:=[("value",.local),("size",.local),("octets",.local),("k",.local),("range",.globalImplicit)],isGenerator:=false,isCoroutine:=false},350,.ref 349,["value","size","octets","k"],[.range],[]⟩
noncomputable def bLi:Sx:=(.cons (.set 2 (pn (nat_lit 935395338)) (.lst .nil (pn (nat_lit 935542799))) (pn (nat_lit 935395343)))
 (.cons (.fors (.loc 3 (pn (nat_lit 939655177))) (.bn .range (pn (nat_lit 939737106)) (.cons (.loc 1 (pn (nat_lit 939835415))) .nil) (pn (nat_lit 939737112))) (.cons (.exp (.meth (.loc 2 (pn (nat_lit 943849486))) "append" (pn (nat_lit 943849493)) (.cons (.bin (.loc 0 (pn (nat_lit 944078875))) .Mod (.num 256 (pn (nat_lit 944209953))) (pn (nat_lit 944078881))) .nil) (pn (nat_lit 943849506))) (pn (nat_lit 943849506)))
 (.cons (.set 0 (pn (nat_lit 948043789)) (.bin (.loc 0 (pn (nat_lit 948174869))) .FloorDiv (.num 256 (pn (nat_lit 948322332))) (pn (nat_lit 948174876))) (pn (nat_lit 948043804)))
 .nil)) (pn (nat_lit 939590172)))
 (.cons (.ret (.loc 2 (pn (nat_lit 952287249))) (pn (nat_lit 952172561)))
 .nil)))
noncomputable def dPa:Df:=⟨"_law_part",{kind:= .function,names:=[("number",.local),("waiting",.local),("rough",.local),("how",.local),("left",.local),("field",.local),("value",.local),("size",.local),("text",.local),("_law_varint",.globalImplicit),("len",.globalImplicit),("max",.globalImplicit),("min",.globalImplicit),("_law_little",.globalImplicit),("int",.globalImplicit)],isGenerator:=false,isCoroutine:=false},357,.ref 356,["number","waiting","rough","how","left","field","value","size","text"],[.len,.max,.min],[]⟩
noncomputable def bPa:Sx:=(.cons (.set 3 (pn (nat_lit 960561159)) (.bin (.loc 0 (pn (nat_lit 960659472))) .Mod (.num 12 (pn (nat_lit 960806933))) (pn (nat_lit 960659477))) (pn (nat_lit 960561173)))
 (.cons (.ifs (.bop .And (.cons (.una .Not (.loc 2 (pn (nat_lit 964870160))) (pn (nat_lit 964804624))) (.cons (.cmp (.loc 3 (pn (nat_lit 965034008))) .Gt (.num 8 (pn (nat_lit 965132316))) (pn (nat_lit 965034012))) .nil)) (pn (nat_lit 964804636))) (.cons (.set 3 (pn (nat_lit 969015307)) (.sub (.lst (.cons (.num 8 (pn (nat_lit 969130000))) (.cons (.num 4 (pn (nat_lit 969179155))) (.cons (.num 1 (pn (nat_lit 969228310))) .nil))) (pn (nat_lit 969113623))) (.bin (.loc 3 (pn (nat_lit 969277467))) .Sub (.num 9 (pn (nat_lit 969375775))) (pn (nat_lit 969277471))) (pn (nat_lit 969113632))) (pn (nat_lit 969015328)))
 .nil) .nil (pn (nat_lit 964755744)))
 (.cons (.set 4 (pn (nat_lit 973144072)) (.bin (.loc 0 (pn (nat_lit 973258769))) .FloorDiv (.num 12 (pn (nat_lit 973422615))) (pn (nat_lit 973258775))) (pn (nat_lit 973144087)))
 (.cons (.set 5 (pn (nat_lit 977338377)) (.sub (.lst (.cons (.num 1 (pn (nat_lit 977485838))) (.cons (.num 2 (pn (nat_lit 977534993))) (.cons (.num 3 (pn (nat_lit 977584148))) (.cons (.num 15 (pn (nat_lit 977633304))) (.cons (.num 16 (pn (nat_lit 977698844))) (.cons (.num 2000 (pn (nat_lit 977764386))) (.cons (.num 0 (pn (nat_lit 977862693))) (.cons (.num 536870911 (pn (nat_lit 977911856))) .nil)))))))) (pn (nat_lit 977469489))) (.bin (.loc 4 (pn (nat_lit 978092086))) .Mod (.num 8 (pn (nat_lit 978206778))) (pn (nat_lit 978092090))) (pn (nat_lit 977469499))) (pn (nat_lit 977338427)))
 (.cons (.set 4 (pn (nat_lit 981532680)) (.bin (.loc 4 (pn (nat_lit 981647375))) .FloorDiv (.num 8 (pn (nat_lit 981778452))) (pn (nat_lit 981647380))) (pn (nat_lit 981532692)))
 (.cons (.ifs (.cmp (.loc 3 (pn (nat_lit 985776138))) .Lt (.num 2 (pn (nat_lit 985874446))) (pn (nat_lit 985776142))) (.cons (.set 6 (pn (nat_lit 989986829)) (.call (.gl "_law_varint" (pn (nat_lit 990117915))) (.cons (.bin (.loc 4 (pn (nat_lit 990314528))) .Mod (.num 18446744073709551616 (pn (nat_lit 990429239))) (pn (nat_lit 990314551))) .nil) (pn (nat_lit 990117944))) (pn (nat_lit 989986872)))
 (.cons (.ifs (.bop .And (.cons (.cmp (.loc 3 (pn (nat_lit 994230286))) .Eq (.num 1 (pn (nat_lit 994344979))) (pn (nat_lit 994230291))) (.cons (.cmp (.bin (.loc 4 (pn (nat_lit 994443292))) .Mod (.num 3 (pn (nat_lit 994557984))) (pn (nat_lit 994443296))) .Lt (.num 2 (pn (nat_lit 994623524))) (pn (nat_lit 994443300))) (.cons (.bop .Or (.cons (.loc 2 (pn (nat_lit 994738223))) (.cons (.cmp (.bn .len (pn (nat_lit 994885686)) (.cons (.loc 6 (pn (nat_lit 994951228))) .nil) (pn (nat_lit 994885693))) .Lt (.num 9 (pn (nat_lit 995098689))) (pn (nat_lit 994885697))) .nil)) (pn (nat_lit 994738241))) .nil))) (pn (nat_lit 994230338))) (.cons (.set 7 (pn (nat_lit 998440976)) (.ite (.loc 2 (pn (nat_lit 998752292))) (.bin (.loc 4 (pn (nat_lit 998555671))) .Mod (.num 5 (pn (nat_lit 998670363))) (pn (nat_lit 998555675))) (.bn .max (pn (nat_lit 998932525)) (.cons (.num 0 (pn (nat_lit 998998063))) (.cons (.bn .min (pn (nat_lit 999047220)) (.cons (.bin (.loc 4 (pn (nat_lit 999112761))) .Mod (.num 5 (pn (nat_lit 999227453))) (pn (nat_lit 999112765))) (.cons (.bin (.num 8 (pn (nat_lit 999276608))) .Sub (.bn .len (pn (nat_lit 999342150)) (.cons (.loc 6 (pn (nat_lit 999407692))) .nil) (pn (nat_lit 999342157))) (pn (nat_lit 999276621))) .nil)) (pn (nat_lit 999047246))) .nil)) (pn (nat_lit 998932559))) (pn (nat_lit 998555727))) (pn (nat_lit 998441039)))
 (.cons (.set 6 (pn (nat_lit 1002635281)) (.bin (.bin (.bin (.sub (.loc 6 (pn (nat_lit 1002766361))) (.slc .nil (.una .USub (.num 1 (pn (nat_lit 1002897437))) (pn (nat_lit 1002881053))) (pn (nat_lit 1002864669))) (pn (nat_lit 1002766366))) .Add (.lst (.cons (.bin (.sub (.loc 6 (pn (nat_lit 1002995751))) (.una .USub (.num 1 (pn (nat_lit 1003110442))) (pn (nat_lit 1003094058))) (pn (nat_lit 1002995755))) .Add (.num 128 (pn (nat_lit 1003192369))) (pn (nat_lit 1002995761))) .nil) (pn (nat_lit 1002979378))) (pn (nat_lit 1002766386))) .Add (.bin (.lst (.cons (.num 128 (pn (nat_lit 1003323449))) .nil) (pn (nat_lit 1003307066))) .Mult (.loc 7 (pn (nat_lit 1003438145))) (pn (nat_lit 1003307073))) (pn (nat_lit 1002766401))) .Add (.lst (.cons (.num 0 (pn (nat_lit 1003569222))) .nil) (pn (nat_lit 1003552839))) (pn (nat_lit 1002766407))) (pn (nat_lit 1002635335)))
 .nil)) .nil (pn (nat_lit 994181703)))
 (.cons (.ret (.bin (.call (.gl "_law_varint" (pn (nat_lit 1006878746))) (.cons (.bin (.loc 5 (pn (nat_lit 1007075360))) .Mult (.num 8 (pn (nat_lit 1007206436))) (pn (nat_lit 1007075364))) .nil) (pn (nat_lit 1006878757))) .Add (.loc 6 (pn (nat_lit 1007288365))) (pn (nat_lit 1006878765))) (pn (nat_lit 1006764077)))
 .nil))) .nil (pn (nat_lit 985728301)))
 (.cons (.ifs (.cmp (.loc 3 (pn (nat_lit 1010941962))) .Eq (.num 2 (pn (nat_lit 1011056655))) (pn (nat_lit 1010941967))) (.cons (.ret (.bin (.call (.gl "_law_varint" (pn (nat_lit 1015267354))) (.cons (.bin (.bin (.loc 5 (pn (nat_lit 1015463968))) .Mult (.num 8 (pn (nat_lit 1015595044))) (pn (nat_lit 1015463972))) .Add (.num 1 (pn (nat_lit 1015660584))) (pn (nat_lit 1015463976))) .nil) (pn (nat_lit 1015267369))) .Add (.call (.gl "_law_little" (pn (nat_lit 1015742519))) (.cons (.loc 4 (pn (nat_lit 1015939132))) (.cons (.num 8 (pn (nat_lit 1016037439))) .nil)) (pn (nat_lit 1015742528))) (pn (nat_lit 1015267392))) (pn (nat_lit 1015152704)))
 .nil) .nil (pn (nat_lit 1010893120)))
 (.cons (.ifs (.cmp (.loc 3 (pn (nat_lit 1019330570))) .Eq (.num 3 (pn (nat_lit 1019445263))) (pn (nat_lit 1019330575))) (.cons (.ret (.bin (.call (.gl "_law_varint" (pn (nat_lit 1023655962))) (.cons (.bin (.bin (.loc 5 (pn (nat_lit 1023852576))) .Mult (.num 8 (pn (nat_lit 1023983652))) (pn (nat_lit 1023852580))) .Add (.num 5 (pn (nat_lit 1024049192))) (pn (nat_lit 1023852584))) .nil) (pn (nat_lit 1023655977))) .Add (.call (.gl "_law_little" (pn (nat_lit 1024131127))) (.cons (.loc 4 (pn (nat_lit 1024327740))) (.cons (.num 4 (pn (nat_lit 1024426047))) .nil)) (pn (nat_lit 1024131136))) (pn (nat_lit 1023656000))) (pn (nat_lit 1023541312)))
 .nil) .nil (pn (nat_lit 1019281728)))
 (.cons (.ifs (.cmp (.loc 3 (pn (nat_lit 1027719178))) .Lt (.num 6 (pn (nat_lit 1027817486))) (pn (nat_lit 1027719182))) (.cons (.set 8 (pn (nat_lit 1031929868)) (.call (.gl "_law_little" (pn (nat_lit 1032044570))) (.cons (.bin (.loc 4 (pn (nat_lit 1032241183))) .FloorDiv (.num 5 (pn (nat_lit 1032372260))) (pn (nat_lit 1032241188))) (.cons (.bin (.loc 4 (pn (nat_lit 1032421418))) .Mod (.num 5 (pn (nat_lit 1032536110))) (pn (nat_lit 1032421422))) .nil)) (pn (nat_lit 1032044591))) (pn (nat_lit 1031929903)))
 (.cons (.ret (.bin (.bin (.call (.gl "_law_varint" (pn (nat_lit 1036238874))) (.cons (.bin (.bin (.loc 5 (pn (nat_lit 1036435488))) .Mult (.num 8 (pn (nat_lit 1036566564))) (pn (nat_lit 1036435492))) .Add (.num 2 (pn (nat_lit 1036632104))) (pn (nat_lit 1036435496))) .nil) (pn (nat_lit 1036238889))) .Add (.call (.gl "_law_varint" (pn (nat_lit 1036714039))) (.cons (.bin (.bn .len (pn (nat_lit 1036910651)) (.cons (.loc 8 (pn (nat_lit 1036976192))) .nil) (pn (nat_lit 1036910657))) .Add (.call (.gl "int" (pn (nat_lit 1037107271))) (.cons (.bop .And (.cons (.loc 2 (pn (nat_lit 1037172813))) (.cons (.cmp (.bin (.loc 4 (pn (nat_lit 1037336662))) .Mod (.num 7 (pn (nat_lit 1037451354))) (pn (nat_lit 1037336666))) .Eq (.num 5 (pn (nat_lit 1037533279))) (pn (nat_lit 1037336671))) .nil)) (pn (nat_lit 1037172831))) .nil) (pn (nat_lit 1037107296))) (pn (nat_lit 1036910688))) .nil) (pn (nat_lit 1036714081))) (pn (nat_lit 1036238945))) .Add (.loc 8 (pn (nat_lit 1037631592))) (pn (nat_lit 1036238952))) (pn (nat_lit 1036124264)))
 .nil)) .nil (pn (nat_lit 1027670632)))
 (.cons (.ifs (.cmp (.loc 3 (pn (nat_lit 1040302090))) .Lt (.num 8 (pn (nat_lit 1040400398))) (pn (nat_lit 1040302094))) (.cons (.exp (.meth (.loc 1 (pn (nat_lit 1044512783))) "append" (pn (nat_lit 1044512790)) (.cons (.loc 5 (pn (nat_lit 1044758556))) .nil) (pn (nat_lit 1044512797))) (pn (nat_lit 1044512797)))
 (.cons (.ret (.call (.gl "_law_varint" (pn (nat_lit 1048821786))) (.cons (.bin (.bin (.loc 5 (pn (nat_lit 1049018400))) .Mult (.num 8 (pn (nat_lit 1049149476))) (pn (nat_lit 1049018404))) .Add (.num 3 (pn (nat_lit 1049215016))) (pn (nat_lit 1049018408))) .nil) (pn (nat_lit 1048821801))) (pn (nat_lit 1048707113)))
 .nil)) .nil (pn (nat_lit 1040253481)))
 (.cons (.ifs (.bop .And (.cons (.cmp (.loc 3 (pn (nat_lit 1052885002))) .Eq (.num 8 (pn (nat_lit 1052999695))) (pn (nat_lit 1052885007))) (.cons (.cmp (.bn .len (pn (nat_lit 1053098007)) (.cons (.loc 1 (pn (nat_lit 1053163551))) .nil) (pn (nat_lit 1053098016))) .Gt (.num 0 (pn (nat_lit 1053343780))) (pn (nat_lit 1053098020))) .nil)) (pn (nat_lit 1052885028))) (.cons (.ret (.call (.gl "_law_varint" (pn (nat_lit 1057210394))) (.cons (.bin (.bin (.meth (.loc 1 (pn (nat_lit 1057407010))) "pop" (pn (nat_lit 1057407014)) .nil (pn (nat_lit 1057407016))) .Mult (.num 8 (pn (nat_lit 1057669164))) (pn (nat_lit 1057407020))) .Add (.num 4 (pn (nat_lit 1057734704))) (pn (nat_lit 1057407024))) .nil) (pn (nat_lit 1057210417))) (pn (nat_lit 1057095729)))
 .nil) .nil (pn (nat_lit 1052836145)))
 (.cons (.ifs (.cmp (.loc 3 (pn (nat_lit 1061273610))) .Eq (.num 8 (pn (nat_lit 1061388303))) (pn (nat_lit 1061273615))) (.cons (.ret (.bin (.call (.gl "_law_varint" (pn (nat_lit 1065599002))) (.cons (.bin (.loc 5 (pn (nat_lit 1065795616))) .Mult (.num 8 (pn (nat_lit 1065926692))) (pn (nat_lit 1065795620))) .nil) (pn (nat_lit 1065599013))) .Add (.lst (.cons (.bin (.loc 4 (pn (nat_lit 1066025005))) .Mod (.num 128 (pn (nat_lit 1066139699))) (pn (nat_lit 1066025011))) .nil) (pn (nat_lit 1066008628))) (pn (nat_lit 1065599028))) (pn (nat_lit 1065484340)))
 .nil) .nil (pn (nat_lit 1061224756)))
 (.cons (.ifs (.cmp (.loc 3 (pn (nat_lit 1069662218))) .Eq (.num 9 (pn (nat_lit 1069776911))) (pn (nat_lit 1069662223))) (.cons (.ret (.call (.gl "_law_varint" (pn (nat_lit 1073987610))) (.cons (.bin (.bin (.loc 5 (pn (nat_lit 1074184224))) .Mult (.num 8 (pn (nat_lit 1074315300))) (pn (nat_lit 1074184228))) .Add (.num 4 (pn (nat_lit 1074380840))) (pn (nat_lit 1074184232))) .nil) (pn (nat_lit 1073987625))) (pn (nat_lit 1073872937)))
 .nil) .nil (pn (nat_lit 1069613353)))
 (.cons (.ifs (.cmp (.loc 3 (pn (nat_lit 1078050826))) .Eq (.num 10 (pn (nat_lit 1078165520))) (pn (nat_lit 1078050832))) (.cons (.ret (.lst (.cons (.bin (.loc 4 (pn (nat_lit 1082392596))) .Mod (.num 256 (pn (nat_lit 1082507290))) (pn (nat_lit 1082392602))) .nil) (pn (nat_lit 1082376219))) (pn (nat_lit 1082261531)))
 .nil) .nil (pn (nat_lit 1078001947)))
 (.cons (.ret (.bin (.call (.gl "_law_varint" (pn (nat_lit 1086504982))) (.cons (.bin (.bin (.bin (.loc 5 (pn (nat_lit 1086701596))) .Mult (.num 8 (pn (nat_lit 1086832672))) (pn (nat_lit 1086701600))) .Add (.num 6 (pn (nat_lit 1086898212))) (pn (nat_lit 1086701604))) .Add (.bin (.loc 4 (pn (nat_lit 1086963755))) .Mod (.num 2 (pn (nat_lit 1087078447))) (pn (nat_lit 1086963759))) (pn (nat_lit 1086701615))) .nil) (pn (nat_lit 1086505008))) .Add (.lst (.cons (.num 0 (pn (nat_lit 1087176757))) .nil) (pn (nat_lit 1087160374))) (pn (nat_lit 1086505014))) (pn (nat_lit 1086390326)))
 .nil)))))))))))))))
noncomputable def dOc:Df:=⟨"_law_octets",{kind:= .function,names:=[("script",.local),("waiting",.local),("octets",.local),("rough",.local),("number",.local),("len",.globalImplicit),("_law_part",.globalImplicit),("_law_varint",.globalImplicit)],isGenerator:=false,isCoroutine:=false},364,.ref 363,["script","waiting","octets","rough","number"],[.len],[]⟩
noncomputable def bOc:Sx:=(.cons (.set 1 (pn (nat_lit 1094778891)) (.lst .nil (pn (nat_lit 1094942736))) (pn (nat_lit 1094778896)))
 (.cons (.set 2 (pn (nat_lit 1098973194)) (.lst .nil (pn (nat_lit 1099120655))) (pn (nat_lit 1098973199)))
 (.cons (.set 3 (pn (nat_lit 1103167497)) (.bop .And (.cons (.cmp (.bn .len (pn (nat_lit 1103298575)) (.cons (.loc 0 (pn (nat_lit 1103364118))) .nil) (pn (nat_lit 1103298583))) .Gt (.num 0 (pn (nat_lit 1103527963))) (pn (nat_lit 1103298587))) (.cons (.cmp (.bin (.bin (.sub (.loc 0 (pn (nat_lit 1103626278))) (.num 0 (pn (nat_lit 1103740968))) (pn (nat_lit 1103626281))) .FloorDiv (.num 8192 (pn (nat_lit 1103839281))) (pn (nat_lit 1103626289))) .Mod (.num 4 (pn (nat_lit 1103953973))) (pn (nat_lit 1103626293))) .Eq (.num 1 (pn (nat_lit 1104035898))) (pn (nat_lit 1103626298))) .nil)) (pn (nat_lit 1103298618))) (pn (nat_lit 1103167546)))
 (.cons (.fors (.loc 4 (pn (nat_lit 1107427342))) (.sub (.loc 0 (pn (nat_lit 1107591192))) (.slc (.num 1 (pn (nat_lit 1107705882))) (.num 16 (pn (nat_lit 1107738653))) (pn (nat_lit 1107705885))) (pn (nat_lit 1107591198))) (.cons (.set 2 (pn (nat_lit 1111621646)) (.bin (.loc 2 (pn (nat_lit 1111769111))) .Add (.call (.gl "_law_part" (pn (nat_lit 1111916579))) (.cons (.loc 4 (pn (nat_lit 1112080426))) (.cons (.loc 1 (pn (nat_lit 1112211507))) (.cons (.loc 3 (pn (nat_lit 1112358970))) .nil))) (pn (nat_lit 1111916603))) (pn (nat_lit 1111769147))) (pn (nat_lit 1111621691)))
 .nil) (pn (nat_lit 1107362107)))
 (.cons (.ifs (.bop .And (.cons (.cmp (.bn .len (pn (nat_lit 1115799562)) (.cons (.loc 0 (pn (nat_lit 1115865105))) .nil) (pn (nat_lit 1115799570))) .Gt (.num 0 (pn (nat_lit 1116028950))) (pn (nat_lit 1115799574))) (.cons (.cmp (.bin (.sub (.loc 0 (pn (nat_lit 1116127265))) (.num 0 (pn (nat_lit 1116241955))) (pn (nat_lit 1116127268))) .Mod (.num 4 (pn (nat_lit 1116323880))) (pn (nat_lit 1116127272))) .Lt (.num 3 (pn (nat_lit 1116389420))) (pn (nat_lit 1116127276))) .nil)) (pn (nat_lit 1115799596))) (.cons (.whl (.cmp (.bn .len (pn (nat_lit 1120108561)) (.cons (.loc 1 (pn (nat_lit 1120174105))) .nil) (pn (nat_lit 1120108570))) .Gt (.num 0 (pn (nat_lit 1120354334))) (pn (nat_lit 1120108574))) (.cons (.set 2 (pn (nat_lit 1124270098)) (.bin (.loc 2 (pn (nat_lit 1124417563))) .Add (.call (.gl "_law_varint" (pn (nat_lit 1124565033))) (.cons (.bin (.bin (.meth (.loc 1 (pn (nat_lit 1124761649))) "pop" (pn (nat_lit 1124761653)) .nil (pn (nat_lit 1124761655))) .Mult (.num 8 (pn (nat_lit 1125023803))) (pn (nat_lit 1124761659))) .Add (.num 4 (pn (nat_lit 1125089343))) (pn (nat_lit 1124761663))) .nil) (pn (nat_lit 1124565056))) (pn (nat_lit 1124417600))) (pn (nat_lit 1124270144)))
 .nil) (pn (nat_lit 1120010560)))
 .nil) .nil (pn (nat_lit 1115750976)))
 (.cons (.ret (.loc 2 (pn (nat_lit 1128448017))) (pn (nat_lit 1128333329)))
 .nil))))))
noncomputable def dRv:Df:=⟨"_law_read_varint",{kind:= .function,names:=[("octets",.local),("at",.local),("value",.local),("k",.local),("range",.globalImplicit),("len",.globalImplicit)],isGenerator:=false,isCoroutine:=false},371,.ref 370,["octets","at","value","k"],[.range,.len],[]⟩
noncomputable def bRv:Sx:=(.cons (.set 2 (pn (nat_lit 1136721929)) (.num 0 (pn (nat_lit 1136853005))) (pn (nat_lit 1136721933)))
 (.cons (.fors (.loc 3 (pn (nat_lit 1140981769))) (.bn .range (pn (nat_lit 1141063698)) (.cons (.num 10 (pn (nat_lit 1141162005))) .nil) (pn (nat_lit 1141063702))) (.cons (.ifs (.cmp (.bin (.loc 1 (pn (nat_lit 1145225229))) .Add (.loc 3 (pn (nat_lit 1145307153))) (pn (nat_lit 1145225233))) .GtE (.bn .len (pn (nat_lit 1145389080)) (.cons (.loc 0 (pn (nat_lit 1145454623))) .nil) (pn (nat_lit 1145389088))) (pn (nat_lit 1145225248))) (.cons (.ret (.tup (.cons (.txt "IndexError" (pn (nat_lit 1149567008))) (.cons (.num 0 (pn (nat_lit 1149796387))) (.cons (.loc 1 (pn (nat_lit 1149845543))) .nil))) (pn (nat_lit 1149550632))) (pn (nat_lit 1149435944)))
 .nil) .nil (pn (nat_lit 1145176360)))
 (.cons (.set 2 (pn (nat_lit 1153564685)) (.bin (.loc 2 (pn (nat_lit 1153695765))) .Add (.bin (.bin (.sub (.loc 0 (pn (nat_lit 1153826846))) (.bin (.loc 1 (pn (nat_lit 1153941537))) .Add (.loc 3 (pn (nat_lit 1154023461))) (pn (nat_lit 1153941541))) (pn (nat_lit 1153826854))) .Mod (.num 128 (pn (nat_lit 1154105388))) (pn (nat_lit 1153826860))) .Mult (.bin (.num 128 (pn (nat_lit 1154203698))) .Pow (.loc 3 (pn (nat_lit 1154318391))) (pn (nat_lit 1154203703))) (pn (nat_lit 1153826871))) (pn (nat_lit 1153695799))) (pn (nat_lit 1153564727)))
 (.cons (.ifs (.cmp (.sub (.loc 0 (pn (nat_lit 1157808145))) (.bin (.loc 1 (pn (nat_lit 1157922836))) .Add (.loc 3 (pn (nat_lit 1158004760))) (pn (nat_lit 1157922840))) (pn (nat_lit 1157808153))) .Lt (.num 128 (pn (nat_lit 1158086687))) (pn (nat_lit 1157808159))) (.cons (.ret (.tup (.cons (.txt "" (pn (nat_lit 1162149910))) (.cons (.bin (.loc 2 (pn (nat_lit 1162215453))) .Mod (.num 18446744073709551616 (pn (nat_lit 1162346548))) (pn (nat_lit 1162215476))) (.cons (.bin (.bin (.loc 1 (pn (nat_lit 1162707000))) .Add (.loc 3 (pn (nat_lit 1162788924))) (pn (nat_lit 1162707004))) .Add (.num 1 (pn (nat_lit 1162854464))) (pn (nat_lit 1162707008))) .nil))) (pn (nat_lit 1162133569))) (pn (nat_lit 1162018881)))
 .nil) .nil (pn (nat_lit 1157759297)))
 .nil))) (pn (nat_lit 1140917569)))
 (.cons (.ret (.tup (.cons (.txt "DecodeError" (pn (nat_lit 1166213145))) (.cons (.num 0 (pn (nat_lit 1166458908))) (.cons (.loc 1 (pn (nat_lit 1166508064))) .nil))) (pn (nat_lit 1166196769))) (pn (nat_lit 1166082081)))
 .nil)))
noncomputable def dRt:Df:=⟨"_law_read_tag",{kind:= .function,names:=[("octets",.local),("at",.local),("behind",.local),("len",.globalImplicit),("_law_read_varint",.globalImplicit)],isGenerator:=false,isCoroutine:=false},378,.ref 377,["octets","at","behind"],[.len],[]⟩
noncomputable def bRt:Sx:=(.cons (.set 2 (pn (nat_lit 1174470666)) (.loc 1 (pn (nat_lit 1174618127))) (pn (nat_lit 1174470671)))
 (.cons (.whl (.bop .And (.cons (.cmp (.loc 2 (pn (nat_lit 1178763280))) .Lt (.bn .len (pn (nat_lit 1178910742)) (.cons (.loc 0 (pn (nat_lit 1178976285))) .nil) (pn (nat_lit 1178910750))) (pn (nat_lit 1178763294))) (.cons (.cmp (.sub (.loc 0 (pn (nat_lit 1179172905))) (.loc 2 (pn (nat_lit 1179287600))) (pn (nat_lit 1179172913))) .Gt (.num 127 (pn (nat_lit 1179451447))) (pn (nat_lit 1179172919))) .nil)) (pn (nat_lit 1178763319))) (.cons (.set 2 (pn (nat_lit 1182924814)) (.bin (.loc 2 (pn (nat_lit 1183072279))) .Add (.num 1 (pn (nat_lit 1183219739))) (pn (nat_lit 1183072283))) (pn (nat_lit 1182924827)))
 .nil) (pn (nat_lit 1178665243)))
 (.cons (.ifs (.cmp (.loc 2 (pn (nat_lit 1187102733))) .GtE (.bn .len (pn (nat_lit 1187266580)) (.cons (.loc 0 (pn (nat_lit 1187332123))) .nil) (pn (nat_lit 1187266588))) (pn (nat_lit 1187102748))) (.cons (.ret (.tup (.cons (.txt "IndexError" (pn (nat_lit 1191444508))) (.cons (.num 0 (pn (nat_lit 1191673887))) (.cons (.loc 1 (pn (nat_lit 1191723043))) .nil))) (pn (nat_lit 1191428132))) (pn (nat_lit 1191313444)))
 .nil) .nil (pn (nat_lit 1187053860)))
 (.cons (.ret (.call (.gl "_law_read_varint" (pn (nat_lit 1195556891))) (.cons (.sub (.loc 0 (pn (nat_lit 1195835426))) (.slc .nil (.bin (.loc 2 (pn (nat_lit 1195966506))) .Add (.num 1 (pn (nat_lit 1196113966))) (pn (nat_lit 1195966510))) (pn (nat_lit 1195950126))) (pn (nat_lit 1195835439))) (.cons (.loc 1 (pn (nat_lit 1196179507))) .nil)) (pn (nat_lit 1195556916))) (pn (nat_lit 1195442228)))
 .nil))))
noncomputable def dGr:Df:=⟨"_law_read_group",{kind:= .function,names:=[("octets",.local),("at",.local),("end",.local),("number",.local),("level",.local),("fault",.local),("rows",.local),("closed",.local),("tag",.local),("_law_read_set",.globalImplicit),("_law_varint",.globalImplicit),("max",.globalImplicit),("len",.globalImplicit)],isGenerator:=false,isCoroutine:=false},385,.ref 384,["octets","at","end","number","level","fault","rows","closed","tag"],[.max,.len],[]⟩
noncomputable def bGr:Sx:=(.cons (.ifs (.cmp (.bin (.loc 4 (pn (nat_lit 1203879948))) .Add (.num 1 (pn (nat_lit 1204011024))) (pn (nat_lit 1203879952))) .GtE (.num 100 (pn (nat_lit 1204092951))) (pn (nat_lit 1203879959))) (.cons (.ret (.tup (.cons (.txt "DecodeError" (pn (nat_lit 1208221725))) (.cons (.lst .nil (pn (nat_lit 1208467489))) (.cons (.loc 1 (pn (nat_lit 1208533029))) .nil))) (pn (nat_lit 1208205350))) (pn (nat_lit 1208090662)))
 .nil) .nil (pn (nat_lit 1203831078)))
 (.cons (.setT (.cons (.loc 5 (pn (nat_lit 1212219401))) (.cons (.loc 6 (pn (nat_lit 1212334095))) (.cons (.loc 1 (pn (nat_lit 1212432403))) (.cons (.loc 7 (pn (nat_lit 1212497947))) .nil)))) (pn (nat_lit 1212219419)) (.call (.gl "_law_read_set" (pn (nat_lit 1212645419))) (.cons (.loc 0 (pn (nat_lit 1212874802))) (.cons (.loc 1 (pn (nat_lit 1213005878))) (.cons (.loc 2 (pn (nat_lit 1213071419))) (.cons (.bin (.loc 4 (pn (nat_lit 1213153346))) .Add (.num 1 (pn (nat_lit 1213284422))) (pn (nat_lit 1213153350))) .nil)))) (pn (nat_lit 1212645447))) (pn (nat_lit 1212219463)))
 (.cons (.ifs (.cmp (.loc 5 (pn (nat_lit 1216462860))) .NotEq (.txt "" (pn (nat_lit 1216610322))) (pn (nat_lit 1216462866))) (.cons (.ret (.tup (.cons (.loc 5 (pn (nat_lit 1220804629))) (.cons (.lst .nil (pn (nat_lit 1220919321))) (.cons (.loc 1 (pn (nat_lit 1220984861))) .nil))) (pn (nat_lit 1220788254))) (pn (nat_lit 1220673566)))
 .nil) .nil (pn (nat_lit 1216413982)))
 (.cons (.set 8 (pn (nat_lit 1224802311)) (.call (.gl "_law_varint" (pn (nat_lit 1224900629))) (.cons (.bin (.bin (.loc 3 (pn (nat_lit 1225097244))) .Mult (.num 8 (pn (nat_lit 1225244704))) (pn (nat_lit 1225097248))) .Add (.num 4 (pn (nat_lit 1225310244))) (pn (nat_lit 1225097252))) .nil) (pn (nat_lit 1224900645))) (pn (nat_lit 1224802341)))
 (.cons (.ifs (.cmp (.sub (.loc 0 (pn (nat_lit 1229045773))) (.slc (.bn .max (pn (nat_lit 1229160465)) (.cons (.num 0 (pn (nat_lit 1229226003))) (.cons (.bin (.loc 1 (pn (nat_lit 1229275159))) .Sub (.bn .len (pn (nat_lit 1229357085)) (.cons (.loc 8 (pn (nat_lit 1229422625))) .nil) (pn (nat_lit 1229357090))) (pn (nat_lit 1229275170))) .nil)) (pn (nat_lit 1229160483))) (.loc 1 (pn (nat_lit 1229520934))) (pn (nat_lit 1229160486))) (pn (nat_lit 1229045799))) .NotEq (.loc 8 (pn (nat_lit 1229635630))) (pn (nat_lit 1229045806))) (.cons (.ret (.tup (.cons (.txt "DecodeError" (pn (nat_lit 1233387549))) (.cons (.lst .nil (pn (nat_lit 1233633313))) (.cons (.loc 1 (pn (nat_lit 1233698853))) .nil))) (pn (nat_lit 1233371174))) (pn (nat_lit 1233256486)))
 .nil) .nil (pn (nat_lit 1228996902)))
 (.cons (.ifs (.cmp (.loc 7 (pn (nat_lit 1237434381))) .NotEq (.loc 3 (pn (nat_lit 1237598231))) (pn (nat_lit 1237434391))) (.cons (.ret (.tup (.cons (.txt "unasked" (pn (nat_lit 1241776153))) (.cons (.lst .nil (pn (nat_lit 1241956381))) (.cons (.loc 1 (pn (nat_lit 1242021921))) .nil))) (pn (nat_lit 1241759778))) (pn (nat_lit 1241645090)))
 .nil) .nil (pn (nat_lit 1237385506)))
 (.cons (.ret (.tup (.cons (.txt "" (pn (nat_lit 1245904910))) (.cons (.loc 6 (pn (nat_lit 1245970452))) (.cons (.loc 1 (pn (nat_lit 1246068760))) .nil))) (pn (nat_lit 1245888537))) (pn (nat_lit 1245773849)))
 .nil)))))))
noncomputable def dFi:Df:=⟨"_law_read_field",{kind:= .function,names:=[("octets",.local),("at",.local),("end",.local),("number",.local),("wire",.local),("level",.local),("fault",.local),("value",.local),("size",.local),("_law_read_varint",.globalImplicit),("len",.globalImplicit),("sum",.globalImplicit),("enumerate",.globalImplicit),("bytes",.globalImplicit),("_law_read_group",.globalImplicit)],isGenerator:=false,isCoroutine:=false,more:=[("fast",.str "octets"),("fast",.str "at"),("fast",.str "end"),("fast",.str "number"),("fast",.str "wire"),("fast",.str "level"),("fast",.str "fault"),("fast",.str "value"),("fast",.str "size"),("fast",.str "k"),("fast",.str "octet")]},390,.ref 389,["octets","at","end","number","wire","level","fault","value","size"],[.len,.sum,.enumerate],[]⟩
noncomputable def bFi:Sx:=(.cons (.ifs (.cmp (.loc 4 (pn (nat_lit 1254211595))) .Eq (.num 0 (pn (nat_lit 1254342672))) (pn (nat_lit 1254211600))) (.cons (.setT (.cons (.loc 6 (pn (nat_lit 1258422285))) (.cons (.loc 7 (pn (nat_lit 1258536980))) (.cons (.loc 1 (pn (nat_lit 1258651672))) .nil))) (pn (nat_lit 1258422296)) (.call (.gl "_law_read_varint" (pn (nat_lit 1258733611))) (.cons (.loc 0 (pn (nat_lit 1259012146))) (.cons (.loc 1 (pn (nat_lit 1259143222))) .nil)) (pn (nat_lit 1258733623))) (pn (nat_lit 1258422327)))
 .nil) (.cons (.ifs (.bop .Or (.cons (.cmp (.loc 4 (pn (nat_lit 1262632973))) .Eq (.num 1 (pn (nat_lit 1262764050))) (pn (nat_lit 1262632978))) (.cons (.cmp (.loc 4 (pn (nat_lit 1262845978))) .Eq (.num 5 (pn (nat_lit 1262977055))) (pn (nat_lit 1262845983))) .nil)) (pn (nat_lit 1262632991))) (.cons (.set 8 (pn (nat_lit 1266810892)) (.ite (.cmp (.loc 4 (pn (nat_lit 1267007512))) .Eq (.num 1 (pn (nat_lit 1267138589))) (pn (nat_lit 1267007517))) (.num 8 (pn (nat_lit 1266925584))) (.num 4 (pn (nat_lit 1267253284))) (pn (nat_lit 1266925604))) (pn (nat_lit 1266810916)))
 (.cons (.set 6 (pn (nat_lit 1271005197)) (.ite (.cmp (.bin (.loc 1 (pn (nat_lit 1271234584))) .Add (.loc 8 (pn (nat_lit 1271316511))) (pn (nat_lit 1271234591))) .LtE (.bn .len (pn (nat_lit 1271447590)) (.cons (.loc 0 (pn (nat_lit 1271513133))) .nil) (pn (nat_lit 1271447598))) (pn (nat_lit 1271234606))) (.txt "" (pn (nat_lit 1271136274))) (.txt "StructError" (pn (nat_lit 1271726145))) (pn (nat_lit 1271136321))) (pn (nat_lit 1271005249)))
 (.cons (.set 7 (pn (nat_lit 1275199501)) (.bn .sum (pn (nat_lit 1275330579)) (.cons (.lcp (.BinOp (.Name "octet" (pn (nat_lit 1275412506))) .Mult (.BinOp (.Constant (.int 256) 0 (pn (nat_lit 1275543584))) .Pow (.Name "k" (pn (nat_lit 1275658277))) (pn (nat_lit 1275543589))) (pn (nat_lit 1275412517))) [⟨(.Tuple [(.Name "k" (pn (nat_lit 1275756587))),(.Name "octet" (pn (nat_lit 1275805746)))] 0 (pn (nat_lit 1275756594))),(.Call (.Name "enumerate" (pn (nat_lit 1275953215))) [(.Subscript (.Name "octets" (pn (nat_lit 1276117062))) (.Slice (some (.Name "at" (pn (nat_lit 1276231753)))) (some (.BinOp (.Name "at" (pn (nat_lit 1276280908))) .Add (.Name "size" (pn (nat_lit 1276362835))) (pn (nat_lit 1276280915)))) none (pn (nat_lit 1276231763))) (pn (nat_lit 1276117076)))] [] (pn (nat_lit 1275953237))),[],0⟩] {kind:= .function,names:=[(".0",.local),("k",.local),("octet",.local)],isGenerator:=false,isCoroutine:=false} (pn (nat_lit 1275396182))) .nil) (pn (nat_lit 1275330647))) (pn (nat_lit 1275199575)))
 (.cons (.set 1 (pn (nat_lit 1279393802)) (.bin (.loc 1 (pn (nat_lit 1279475727))) .Add (.loc 8 (pn (nat_lit 1279557654))) (pn (nat_lit 1279475734))) (pn (nat_lit 1279393814)))
 .nil)))) (.cons (.ifs (.cmp (.loc 4 (pn (nat_lit 1283604493))) .Eq (.num 2 (pn (nat_lit 1283735570))) (pn (nat_lit 1283604498))) (.cons (.setT (.cons (.loc 6 (pn (nat_lit 1287782413))) (.cons (.loc 8 (pn (nat_lit 1287897107))) (.cons (.loc 1 (pn (nat_lit 1287995415))) .nil))) (pn (nat_lit 1287782423)) (.call (.gl "_law_read_varint" (pn (nat_lit 1288077354))) (.cons (.loc 0 (pn (nat_lit 1288355889))) (.cons (.loc 1 (pn (nat_lit 1288486965))) .nil)) (pn (nat_lit 1288077366))) (pn (nat_lit 1287782454)))
 (.cons (.set 7 (pn (nat_lit 1291976717)) (.call (.gl "bytes" (pn (nat_lit 1292107797))) (.cons (.sub (.loc 0 (pn (nat_lit 1292206108))) (.slc (.loc 1 (pn (nat_lit 1292320799))) (.bin (.loc 1 (pn (nat_lit 1292369954))) .Add (.loc 8 (pn (nat_lit 1292451881))) (pn (nat_lit 1292369961))) (pn (nat_lit 1292320809))) (pn (nat_lit 1292206122))) .nil) (pn (nat_lit 1292107819))) (pn (nat_lit 1291976747)))
 (.cons (.set 1 (pn (nat_lit 1296171018)) (.bin (.loc 1 (pn (nat_lit 1296252943))) .Add (.loc 8 (pn (nat_lit 1296334870))) (pn (nat_lit 1296252950))) (pn (nat_lit 1296171030)))
 .nil))) (.cons (.ifs (.cmp (.loc 4 (pn (nat_lit 1300381709))) .Eq (.num 3 (pn (nat_lit 1300512786))) (pn (nat_lit 1300381714))) (.cons (.setT (.cons (.loc 6 (pn (nat_lit 1304559629))) (.cons (.loc 7 (pn (nat_lit 1304674324))) (.cons (.loc 1 (pn (nat_lit 1304789016))) .nil))) (pn (nat_lit 1304559640)) (.call (.gl "_law_read_group" (pn (nat_lit 1304870954))) (.cons (.loc 0 (pn (nat_lit 1305133105))) (.cons (.loc 1 (pn (nat_lit 1305264181))) (.cons (.loc 2 (pn (nat_lit 1305329722))) (.cons (.loc 3 (pn (nat_lit 1305411650))) (.cons (.loc 5 (pn (nat_lit 1305542729))) .nil))))) (pn (nat_lit 1304870986))) (pn (nat_lit 1304559690)))
 .nil) (.cons (.setT (.cons (.loc 6 (pn (nat_lit 1312948237))) (.cons (.loc 7 (pn (nat_lit 1313062932))) .nil)) (pn (nat_lit 1312948244)) (.tup (.cons (.txt "DecodeError" (pn (nat_lit 1313210405))) (.cons (.num 0 (pn (nat_lit 1313456168))) .nil)) (pn (nat_lit 1313194025))) (pn (nat_lit 1312948265)))
 .nil) (pn (nat_lit 1300300585)))
 .nil) (pn (nat_lit 1283524393)))
 .nil) (pn (nat_lit 1262554153)))
 .nil) (pn (nat_lit 1254166057)))
 (.cons (.ifs (.bop .And (.cons (.cmp (.loc 6 (pn (nat_lit 1317126156))) .Eq (.txt "" (pn (nat_lit 1317273618))) (pn (nat_lit 1317126162))) (.cons (.cmp (.loc 1 (pn (nat_lit 1317388313))) .Gt (.loc 2 (pn (nat_lit 1317470239))) (pn (nat_lit 1317388319))) .nil)) (pn (nat_lit 1317126175))) (.cons (.set 6 (pn (nat_lit 1321336845)) (.txt "DecodeError" (pn (nat_lit 1321467933))) (pn (nat_lit 1321336861)))
 .nil) .nil (pn (nat_lit 1317077277)))
 (.cons (.ret (.tup (.cons (.loc 6 (pn (nat_lit 1325596689))) (.cons (.loc 7 (pn (nat_lit 1325711384))) (.cons (.loc 1 (pn (nat_lit 1325826076))) .nil))) (pn (nat_lit 1325580317))) (pn (nat_lit 1325465629)))
 .nil)))
noncomputable def dSe:Df:=⟨"_law_read_set",{kind:= .function,names:=[("octets",.local),("at",.local),("end",.local),("level",.local),("rows",.local),("fault",.local),("tag",.local),("value",.local),("_law_read_tag",.globalImplicit),("_law_read_field",.globalImplicit)],isGenerator:=false,isCoroutine:=false},397,.ref 396,["octets","at","end","level","rows","fault","tag","value"],[],[]⟩
noncomputable def bSe:Sx:=(.cons (.set 4 (pn (nat_lit 1333854216)) (.lst .nil (pn (nat_lit 1333968909))) (pn (nat_lit 1333854221)))
 (.cons (.whl (.cmp (.loc 1 (pn (nat_lit 1338146828))) .Lt (.loc 2 (pn (nat_lit 1338228754))) (pn (nat_lit 1338146834))) (.cons (.setT (.cons (.loc 5 (pn (nat_lit 1342308365))) (.cons (.loc 6 (pn (nat_lit 1342423058))) (.cons (.loc 1 (pn (nat_lit 1342504982))) .nil))) (pn (nat_lit 1342308374)) (.call (.gl "_law_read_tag" (pn (nat_lit 1342586918))) (.cons (.loc 0 (pn (nat_lit 1342816301))) (.cons (.loc 1 (pn (nat_lit 1342947377))) .nil)) (pn (nat_lit 1342586930))) (pn (nat_lit 1342308402)))
 (.cons (.ifs (.bop .And (.cons (.cmp (.loc 5 (pn (nat_lit 1346551824))) .Eq (.txt "" (pn (nat_lit 1346699286))) (pn (nat_lit 1346551830))) (.cons (.cmp (.bin (.loc 6 (pn (nat_lit 1346813982))) .Mod (.num 8 (pn (nat_lit 1346912290))) (pn (nat_lit 1346813986))) .Eq (.num 4 (pn (nat_lit 1346994215))) (pn (nat_lit 1346813991))) .nil)) (pn (nat_lit 1346551847))) (.cons (.ret (.tup (.cons (.txt "" (pn (nat_lit 1350893590))) (.cons (.loc 4 (pn (nat_lit 1350959132))) (.cons (.loc 1 (pn (nat_lit 1351057440))) (.cons (.bin (.loc 6 (pn (nat_lit 1351122981))) .FloorDiv (.num 8 (pn (nat_lit 1351237674))) (pn (nat_lit 1351122986))) .nil)))) (pn (nat_lit 1350877227))) (pn (nat_lit 1350762539)))
 .nil) .nil (pn (nat_lit 1346502955)))
 (.cons (.ifs (.cmp (.loc 5 (pn (nat_lit 1354940432))) .Eq (.txt "" (pn (nat_lit 1355087894))) (pn (nat_lit 1354940438))) (.cons (.setT (.cons (.loc 5 (pn (nat_lit 1359151121))) (.cons (.loc 7 (pn (nat_lit 1359265816))) (.cons (.loc 1 (pn (nat_lit 1359380508))) .nil))) (pn (nat_lit 1359151132)) (.call (.gl "_law_read_field" (pn (nat_lit 1359462446))) (.cons (.loc 0 (pn (nat_lit 1359724597))) (.cons (.loc 1 (pn (nat_lit 1359855673))) (.cons (.loc 2 (pn (nat_lit 1359921214))) (.cons (.bin (.loc 6 (pn (nat_lit 1360003139))) .FloorDiv (.num 8 (pn (nat_lit 1360117832))) (pn (nat_lit 1360003144))) (.cons (.bin (.loc 6 (pn (nat_lit 1360166989))) .Mod (.num 8 (pn (nat_lit 1360265297))) (pn (nat_lit 1360166993))) (.cons (.loc 3 (pn (nat_lit 1360314456))) .nil)))))) (pn (nat_lit 1359462489))) (pn (nat_lit 1359151193)))
 .nil) .nil (pn (nat_lit 1354891609)))
 (.cons (.ifs (.cmp (.loc 5 (pn (nat_lit 1363329040))) .NotEq (.txt "" (pn (nat_lit 1363476502))) (pn (nat_lit 1363329046))) (.cons (.ret (.tup (.cons (.loc 5 (pn (nat_lit 1367670809))) (.cons (.lst .nil (pn (nat_lit 1367785501))) (.cons (.loc 1 (pn (nat_lit 1367851041))) (.cons (.una .USub (.num 1 (pn (nat_lit 1367932965))) (pn (nat_lit 1367916581))) .nil)))) (pn (nat_lit 1367654438))) (pn (nat_lit 1367539750)))
 .nil) .nil (pn (nat_lit 1363280166)))
 (.cons (.exp (.meth (.loc 4 (pn (nat_lit 1371668492))) "append" (pn (nat_lit 1371668499)) (.cons (.tup (.cons (.bin (.loc 6 (pn (nat_lit 1371881496))) .FloorDiv (.num 8 (pn (nat_lit 1371996189))) (pn (nat_lit 1371881501))) (.cons (.bin (.loc 6 (pn (nat_lit 1372045346))) .Mod (.num 8 (pn (nat_lit 1372143654))) (pn (nat_lit 1372045350))) (.cons (.loc 7 (pn (nat_lit 1372192813))) .nil))) (pn (nat_lit 1371865134))) .nil) (pn (nat_lit 1371668527))) (pn (nat_lit 1371668527)))
 .nil))))) (pn (nat_lit 1338050607)))
 (.cons (.ret (.tup (.cons (.txt "" (pn (nat_lit 1375928334))) (.cons (.loc 4 (pn (nat_lit 1375993876))) (.cons (.loc 1 (pn (nat_lit 1376092184))) (.cons (.una .USub (.num 1 (pn (nat_lit 1376174108))) (pn (nat_lit 1376157724))) .nil)))) (pn (nat_lit 1375911965))) (pn (nat_lit 1375797277)))
 .nil)))
noncomputable def dSh:Df:=⟨"_law_shown",{kind:= .function,names:=[("fields",.local),("rows",.local),("k",.local),("data",.local),("range",.globalImplicit),("len",.globalImplicit),("isinstance",.globalImplicit),("UnknownFieldSet",.globalImplicit),("_law_shown",.globalImplicit)],isGenerator:=false,isCoroutine:=false},404,.ref 403,["fields","rows","k","data"],[.range,.len],[]⟩
noncomputable def bSh:Sx:=(.cons (.set 1 (pn (nat_lit 1384185864)) (.lst .nil (pn (nat_lit 1384300557))) (pn (nat_lit 1384185869)))
 (.cons (.fors (.loc 2 (pn (nat_lit 1388445705))) (.bn .range (pn (nat_lit 1388527634)) (.cons (.bn .len (pn (nat_lit 1388625942)) (.cons (.loc 0 (pn (nat_lit 1388691485))) .nil) (pn (nat_lit 1388625950))) .nil) (pn (nat_lit 1388527647))) (.cons (.set 3 (pn (nat_lit 1392640012)) (.att (.sub (.loc 0 (pn (nat_lit 1392754709))) (.loc 2 (pn (nat_lit 1392869399))) (pn (nat_lit 1392754712))) "data" (pn (nat_lit 1392754717))) (pn (nat_lit 1392640029)))
 (.cons (.ifs (.call (.gl "isinstance" (pn (nat_lit 1396883477))) (.cons (.loc 3 (pn (nat_lit 1397063706))) (.cons (.gl "UnknownFieldSet" (pn (nat_lit 1397162027))) .nil)) (pn (nat_lit 1396883500))) (.cons (.set 3 (pn (nat_lit 1401094160)) (.call (.gl "_law_shown" (pn (nat_lit 1401208861))) (.cons (.loc 3 (pn (nat_lit 1401389090))) .nil) (pn (nat_lit 1401208867))) (pn (nat_lit 1401094179)))
 .nil) .nil (pn (nat_lit 1396834595)))
 (.cons (.exp (.meth (.loc 1 (pn (nat_lit 1405222924))) "append" (pn (nat_lit 1405222931)) (.cons (.tup (.cons (.att (.sub (.loc 0 (pn (nat_lit 1405435931))) (.loc 2 (pn (nat_lit 1405550621))) (pn (nat_lit 1405435934))) "field_number" (pn (nat_lit 1405435947))) (.cons (.att (.sub (.loc 0 (pn (nat_lit 1405829171))) (.loc 2 (pn (nat_lit 1405943861))) (pn (nat_lit 1405829174))) "wire_type" (pn (nat_lit 1405829184))) (.cons (.loc 3 (pn (nat_lit 1406173254))) .nil))) (pn (nat_lit 1405419591))) .nil) (pn (nat_lit 1405222984))) (pn (nat_lit 1405222984)))
 .nil))) (pn (nat_lit 1388381256)))
 (.cons (.ret (.loc 1 (pn (nat_lit 1409466383))) (pn (nat_lit 1409351695)))
 .nil)))
noncomputable def dWr:Df:=⟨"_law_written",{kind:= .function,names:=[("rows",.local),("octets",.local),("number",.local),("wire",.local),("value",.local),("_law_varint",.globalImplicit),("len",.globalImplicit),("list",.globalImplicit),("_law_written",.globalImplicit),("_law_little",.globalImplicit)],isGenerator:=false,isCoroutine:=false},411,.ref 410,["rows","octets","number","wire","value"],[.len,.list],[]⟩
noncomputable def bWr:Sx:=(.cons (.set 1 (pn (nat_lit 1417740298)) (.lst .nil (pn (nat_lit 1417887759))) (pn (nat_lit 1417740303)))
 (.cons (.fors (.tup (.cons (.loc 2 (pn (nat_lit 1422000142))) (.cons (.loc 3 (pn (nat_lit 1422131220))) (.cons (.loc 4 (pn (nat_lit 1422229531))) .nil))) (pn (nat_lit 1422000155))) (.loc 0 (pn (nat_lit 1422376995))) (.cons (.set 1 (pn (nat_lit 1426194446)) (.bin (.loc 1 (pn (nat_lit 1426341911))) .Add (.call (.gl "_law_varint" (pn (nat_lit 1426489381))) (.cons (.bin (.bin (.loc 2 (pn (nat_lit 1426685996))) .Mult (.num 8 (pn (nat_lit 1426833456))) (pn (nat_lit 1426686000))) .Add (.loc 3 (pn (nat_lit 1426898999))) (pn (nat_lit 1426686007))) .nil) (pn (nat_lit 1426489400))) (pn (nat_lit 1426341944))) (pn (nat_lit 1426194488)))
 (.cons (.ifs (.cmp (.loc 3 (pn (nat_lit 1430437903))) .Eq (.num 0 (pn (nat_lit 1430568980))) (pn (nat_lit 1430437908))) (.cons (.set 1 (pn (nat_lit 1434648594)) (.bin (.loc 1 (pn (nat_lit 1434796059))) .Add (.call (.gl "_law_varint" (pn (nat_lit 1434943529))) (.cons (.loc 4 (pn (nat_lit 1435140143))) .nil) (pn (nat_lit 1434943536))) (pn (nat_lit 1434796080))) (pn (nat_lit 1434648624)))
 .nil) (.cons (.ifs (.cmp (.loc 3 (pn (nat_lit 1438859281))) .Eq (.num 2 (pn (nat_lit 1438990358))) (pn (nat_lit 1438859286))) (.cons (.set 1 (pn (nat_lit 1443037202)) (.bin (.bin (.loc 1 (pn (nat_lit 1443184667))) .Add (.call (.gl "_law_varint" (pn (nat_lit 1443332137))) (.cons (.bn .len (pn (nat_lit 1443528749)) (.cons (.loc 4 (pn (nat_lit 1443594291))) .nil) (pn (nat_lit 1443528756))) .nil) (pn (nat_lit 1443332149))) (pn (nat_lit 1443184693))) .Add (.bn .list (pn (nat_lit 1443758140)) (.cons (.loc 4 (pn (nat_lit 1443840066))) .nil) (pn (nat_lit 1443758147))) (pn (nat_lit 1443184707))) (pn (nat_lit 1443037251)))
 .nil) (.cons (.ifs (.cmp (.loc 3 (pn (nat_lit 1447247889))) .Eq (.num 3 (pn (nat_lit 1447378966))) (pn (nat_lit 1447247894))) (.cons (.set 1 (pn (nat_lit 1451425810)) (.bin (.bin (.loc 1 (pn (nat_lit 1451573275))) .Add (.call (.gl "_law_written" (pn (nat_lit 1451720746))) (.cons (.loc 4 (pn (nat_lit 1451933744))) .nil) (pn (nat_lit 1451720753))) (pn (nat_lit 1451573297))) .Add (.call (.gl "_law_varint" (pn (nat_lit 1452081215))) (.cons (.bin (.bin (.loc 2 (pn (nat_lit 1452277830))) .Mult (.num 8 (pn (nat_lit 1452425290))) (pn (nat_lit 1452277834))) .Add (.num 4 (pn (nat_lit 1452490830))) (pn (nat_lit 1452277838))) .nil) (pn (nat_lit 1452081231))) (pn (nat_lit 1451573327))) (pn (nat_lit 1451425871)))
 .nil) (.cons (.set 1 (pn (nat_lit 1459814418)) (.bin (.loc 1 (pn (nat_lit 1459961883))) .Add (.call (.gl "_law_little" (pn (nat_lit 1460109353))) (.cons (.loc 4 (pn (nat_lit 1460305967))) (.cons (.ite (.cmp (.loc 3 (pn (nat_lit 1460502586))) .Eq (.num 1 (pn (nat_lit 1460633663))) (pn (nat_lit 1460502591))) (.num 8 (pn (nat_lit 1460420658))) (.num 4 (pn (nat_lit 1460748358))) (pn (nat_lit 1460420678))) .nil)) (pn (nat_lit 1460109383))) (pn (nat_lit 1459961927))) (pn (nat_lit 1459814471)))
 .nil) (pn (nat_lit 1447166791)))
 .nil) (pn (nat_lit 1438778695)))
 .nil) (pn (nat_lit 1430390599)))
 .nil)) (pn (nat_lit 1421936967)))
 (.cons (.ret (.loc 1 (pn (nat_lit 1463992337))) (pn (nat_lit 1463877649)))
 .nil)))
noncomputable def dAg:Df:=⟨"_law_again",{kind:= .function,names:=[("rows",.local),("octets",.local),("_law_written",.globalImplicit),("_DecodeUnknownFieldSet",.globalImplicit),("bytes",.globalImplicit),("len",.globalImplicit)],isGenerator:=false,isCoroutine:=false},425,.ref 424,["rows","octets"],[.len],[]⟩
noncomputable def bAg:Sx:=(.cons (.set 1 (pn (nat_lit 1514209290)) (.call (.gl "_law_written" (pn (nat_lit 1514356761))) (.cons (.loc 0 (pn (nat_lit 1514569758))) .nil) (pn (nat_lit 1514356767))) (pn (nat_lit 1514209311)))
 (.cons (.ret (.sub (.call (.gl "_DecodeUnknownFieldSet" (pn (nat_lit 1518518305))) (.cons (.call (.gl "bytes" (pn (nat_lit 1518895143))) (.cons (.loc 1 (pn (nat_lit 1518993454))) .nil) (pn (nat_lit 1518895151))) (.cons (.num 0 (pn (nat_lit 1519140914))) (.cons (.bn .len (pn (nat_lit 1519190071)) (.cons (.loc 1 (pn (nat_lit 1519255614))) .nil) (pn (nat_lit 1519190079))) .nil))) (pn (nat_lit 1518518336))) (.num 0 (pn (nat_lit 1519403074))) (pn (nat_lit 1518518339))) (pn (nat_lit 1518403651)))
 .nil))
theorem dVi_ok:dVi.Ok:=Df.Ok.of (by decide+kernel)
theorem dLi_ok:dLi.Ok:=Df.Ok.of (by decide+kernel)
theorem dPa_ok:dPa.Ok:=Df.Ok.of (by decide+kernel)
theorem dOc_ok:dOc.Ok:=Df.Ok.of (by decide+kernel)
theorem dRv_ok:dRv.Ok:=Df.Ok.of (by decide+kernel)
theorem dRt_ok:dRt.Ok:=Df.Ok.of (by decide+kernel)
theorem dGr_ok:dGr.Ok:=Df.Ok.of (by decide+kernel)
theorem dFi_ok:dFi.Ok:=Df.Ok.of (by decide+kernel)
theorem dSe_ok:dSe.Ok:=Df.Ok.of (by decide+kernel)
theorem dSh_ok:dSh.Ok:=Df.Ok.of (by decide+kernel)
theorem dWr_ok:dWr.Ok:=Df.Ok.of (by decide+kernel)
theorem dAg_ok:dAg.Ok:=Df.Ok.of (by decide+kernel)
theorem law_varintA {w:World} {v:Int} (hv:0≤v) (hv2:v<128 ^ 10):KA w 1 343 [.i v] (fun _=>True) (ListR (vint v)):=by
 refine KA_enter (d:=dVi) (body:=bVi) dVi_ok (fun _=>rfl) (fun _=>rfl) (fun s=>lenS fun a=>lenZ (BindsTo.of_eq rfl)) rfl rfl (by decide) (by decide) ?_
 intro c X hw hx rm _
 unfold bVi
 refine H_set X (GA_nil fun l=> ?_)
 refine H_whl X (fun (x:List Int×Int)=>⟨[some (.i x.2),some (.v (.ref l))],[(l,intsP x.1)],[]⟩) (fun x=>x.1++vint x.2=vint v∧0≤x.2) (fun x=>x.2.toNat) ([],v) ⟨.keep (.keep .nil),.refl _,no_mem⟩ ⟨rfl,hv⟩ ?_
 rintro ⟨os,x⟩ ⟨he,hx⟩
 have hlen:os.length+(vint x).length≤10:=by rw[←List.length_append,he];exact vint_len 9 v hv2
 refine GT_p X (os:=[]) rfl ⟨fun h=> ?_,fun h=> ?_⟩
 ·have h:=of_decide_eq_true h
  refine H_app X rfl rfl (os:=[]) rfl .head (ints_grow (by exact lin (.h 1 (.l (.a Y0 Y1) (.c 10)) (.G 1 (.t Y0 (.c 1048576)))) rfl [_,_] [] hlen)) ?_
  refine H_set X (GA_p X (os:=[]) rfl (H_nil (lp_nx (os++[Int.fmod x 128+128],Int.fdiv x 128) ⟨.keep (.keep .nil),.refl _,no_mem⟩ ⟨?_,?_⟩ ?_)))
  ·dsimp only;rw[Int.fdiv_eq_ediv_of_nonneg _ (by decide),Int.fmod_eq_emod_of_nonneg _ (by decide)];exact vint_state he h
  ·dsimp only;rw[Int.fdiv_eq_ediv_of_nonneg _ (by decide)];(exact lin (.h 1 (.T (.c 127) Z1) (.h 1 (.D (.a (.r 128 Z0) Z2) Z1) (.h 1 (.T Z2 (.c 128)) (.G 128 (.L (.c 0) Z0))))) rfl [] [_,_,_] h (Int.mul_ediv_add_emod _ _) (Int.emod_lt_of_pos _ (by decide)))
  ·dsimp only;rw[Int.fdiv_eq_ediv_of_nonneg _ (by decide)];omega
 ·have h:=of_decide_eq_false h
  exact H_retA (GA_addI X (os:=[]) rfl rfl rfl (.inl (.head _)) (show os.length+1<2 ^ 20 by exact lin (.h 1 (.l (.a Y0 Y1) (.c 10)) (.G 1 (.t (.a Y0 (.c 1)) (.c 1048576)))) rfl [_,_] [] hlen) fun r D=>fin_list (by rw[vint_last he h];exact .head _))
theorem law_littleA {w:World} {v:Int} {n:Nat} (hn:n≤8):KA w 1 350 [.i v,.i (n:Int)] (fun _=>True) (ListR (little n v)):=by
 refine KA_enter (d:=dLi) (body:=bLi) dLi_ok (fun _=>rfl) (fun _=>rfl) (fun s=>lenS fun a=>lenS fun b=>lenZ (BindsTo.of_eq rfl)) rfl rfl (by decide) (by decide) ?_
 intro c X hw hx rm _
 unfold bLi
 refine H_set X (GA_nil fun l=> ?_)
 refine H_forR X (S:=List Int×Int) (fun _ x=>⟨[some (.i x.2),some (.i (n:Int)),some (.v (.ref l))],[(l,intsP x.1)],[]⟩) (fun i x=>x.1.length=i∧x.1++little (n - i) x.2=little n v) ([],v) rfl (os:=[]) rfl rfl (by exact lin (.h 1 (.l Y0 (.c 8)) (.G 1 (.t Y0 (.c 1152921504606846976)))) rfl [_] [] hn) ⟨.keep (.keep (.keep .nil)),.refl _,no_mem⟩ ⟨rfl,rfl⟩ ?_ ?_
 ·rintro i ⟨os,x⟩ hi ⟨hlen,he⟩
  refine H_app X rfl rfl (os:=[]) rfl .head (ints_grow (by exact lin (.h 1 (.l Y1 (.c 8)) (.h 1 (.t Y2 Y1) (.h 1 (.e Y0 Y2) (.G 1 (.t Y0 (.c 1048576)))))) rfl [_,_,_] [] hn hi hlen)) ?_
  refine H_set X (GA_p X (os:=[]) rfl (H_nil (lf_nx (os++[Int.fmod x 256],Int.fdiv x 256) ⟨.keep (.keep (.keep .nil)),.refl _,no_mem⟩ ⟨?_,?_⟩)))
  ·show (os++[_]).length=i+1;rw[List.length_append,hlen];rfl
  ·dsimp only at hlen he ⊢;rw[Int.fdiv_eq_ediv_of_nonneg _ (by decide),Int.fmod_eq_emod_of_nonneg _ (by decide)];exact little_state he hi
 ·rintro ⟨os,x⟩ ⟨hlen,he⟩
  rw[Nat.sub_self] at he
  exact H_retA (GA_p X (os:=[]) rfl (fin_list (by rw[←he];simp only[little,List.append_nil];exact .head _)))
inductive RvR (at_:Nat) (o:Except Flt (Int×Nat)):Led→List AV→Prop
 |mk {fs x q}:RvOut at_ o fs x q→RvR at_ o [] [.s fs,.i x,.i q]
theorem law_read_varintA {w:World} {lo:Addr} {bs:List Int} {at_:Nat} (hl:bs.length<2 ^ 20) (hat:at_<2 ^ 20):KA w 1 371 [.v (.ref lo),.i (at_:Int)] (IL lo bs) (TupR (RvR at_ (rvar bs at_))):=by
 refine KA_enter (d:=dRv) (body:=bRv) dRv_ok (fun _=>rfl) (fun _=>rfl) (fun s=>lenS fun a=>lenS fun b=>lenZ (BindsTo.of_eq rfl)) rfl rfl (by decide) (by decide) ?_
 intro cx X hw hx rm hn
 have L:∀σ:St,LI cx σ lo bs:=fun σ=> .of hn
 unfold bRv
 refine H_set X (GA_p X (os:=[]) rfl ?_)
 refine H_forR X (S:=Int) (fun _ x=>⟨[some (.v (.ref lo)),some (.i (at_:Int)),some (.i x)],[],[]⟩) (fun i x=>rvar bs at_=rvarK bs at_ (10 - i) i x∧0≤x∧x<128 ^ i) 0 (n:=10) rfl (os:=[]) rfl rfl (by decide) ⟨.keep (.keep (.keep .nil)),.refl _,no_mem⟩ ⟨rfl,Int.le_refl _,Int.zero_lt_one⟩ ?_ ?_
 ·rintro i x hi10 ⟨he,hx0,hx1⟩
  refine H_ifs X (os:=[.l bs]) rfl (fun h=> ?_) (fun h=>H_nil ?_) (by exact ⟨L _,by exact lin (.h 1 (.t Y0 (.c 1048576)) (.G 1 (.t Y0 (.c 1099511627776)))) rfl [_] [] hl⟩)
  ·have h:=of_decide_eq_true h
   exact H_retT X (os:=[]) rfl fun r=>fin_tup (.mk (by rw[he,rvarK_none hi10 h];exact ⟨rfl,rfl,rfl⟩)) no_mem
  ·have h:=of_decide_eq_false h
   have hf:0≤(bs.getD ((at_:Int)+(i:Int)).toNat 0).fmod 128∧(bs.getD ((at_:Int)+(i:Int)).toNat 0).fmod 128<128:=by rw[Int.fmod_eq_emod_of_nonneg _ (by decide)];exact ⟨Int.emod_nonneg _ (by decide),Int.emod_lt_of_pos _ (by decide)⟩
   refine H_set X (GA_p X (os:=[.l bs]) rfl ?_ (by exact ⟨⟨L _,by exact lin (.G 1 (.L (.c 0) (.a Y0 Y1))) rfl [_,_] [],by exact lin (.h 1 (.nL Y2 (.a Y0 Y1)) (.G 1 (.T (.a Y0 Y1) Y2))) rfl [_,_,_] [] h,by exact lin (.h 1 (.t Y0 (.c 1048576)) (.G 1 (.t Y0 (.c 1099511627776)))) rfl [_] [] hl⟩,⟨by omega,by exact lin (.h 1 (.t Y0 (.c 10)) (.G 1 (.L Y0 (.c 1000000)))) rfl [_] [] hi10,by decide⟩,IntMulOk.of_left (intBits_le_64 (Int.lt_of_lt_of_le (by decide) hf.1) (Int.lt_trans hf.2 (by decide)))⟩))
   ·refine H_ifs X (os:=[.l bs]) rfl (fun h2=> ?_) (fun h2=>H_nil (H_nil (lf_nx (x+(bs.getD ((at_:Int)+(i:Int)).toNat 0).fmod 128*128 ^ ((i:Int)).toNat) ⟨.keep (.keep (.keep .nil)),.refl _,no_mem⟩ ⟨?_,?_,?_⟩))) (by exact ⟨L _,by exact lin (.G 1 (.L (.c 0) (.a Y0 Y1))) rfl [_,_] [],by exact lin (.h 1 (.nL Y2 (.a Y0 Y1)) (.G 1 (.T (.a Y0 Y1) Y2))) rfl [_,_,_] [] h,by exact lin (.h 1 (.t Y0 (.c 1048576)) (.G 1 (.t Y0 (.c 1099511627776)))) rfl [_] [] hl⟩)
    ·refine H_retT X (os:=[]) rfl (fun r=>fin_tup (.mk ?_) no_mem)
     rw[he,rvarK_some hi10 h,if_pos (of_decide_eq_true h2)]
     refine ⟨rfl,?_,by push_cast;rfl⟩
     rw[Int.fmod_eq_emod_of_nonneg _ (by decide),Int.fmod_eq_emod_of_nonneg _ (by decide)];rfl
    ·rw[he,rvarK_some hi10 h,if_neg (of_decide_eq_false h2),Int.fmod_eq_emod_of_nonneg _ (by decide)];rfl
    ·rw[Int.fmod_eq_emod_of_nonneg _ (by decide)]
     exact Int.add_nonneg hx0 (Int.mul_nonneg (Int.emod_nonneg _ (by decide)) (Int.pow_nonneg (by decide)))
    ·rw[Int.fmod_eq_emod_of_nonneg _ (by decide)]
     have h1:=Int.emod_lt_of_pos (bs.getD ((at_:Int)+(i:Int)).toNat 0) (show (0:Int)<128 by decide)
     have h2:(bs.getD ((at_:Int)+(i:Int)).toNat 0 % 128)*128 ^ i≤127*128 ^ i:=Int.mul_le_mul_of_nonneg_right (by exact lin (.h 1 (.T Z0 (.c 128)) (.G 1 (.L Z0 (.c 127)))) rfl [] [_] h1) (Int.pow_nonneg (by decide))
     have h3:(128:Int) ^ (i+1)=128*128 ^ i:=by rw[Int.pow_succ,Int.mul_comm]
     show x+bs.getD ((at_:Int)+(i:Int)).toNat 0 % 128*128 ^ ((i:Int)).toNat<128 ^ (i+1)
     rw[Int.toNat_natCast,h3];(exact lin (.h 1 (.T Z0 Z2) (.h 1 (.L Z1 (.r 127 Z2)) (.G 1 (.T (.a Z0 Z1) (.r 128 Z2))))) rfl [] [_,_,_] hx1 h2)
 ·rintro x ⟨he,hx0,hx1⟩
  exact H_retT X (os:=[]) rfl fun r=>fin_tup (.mk (by rw[he];exact ⟨rfl,rfl,rfl⟩)) no_mem
section
variable {c:Cx} {kp:Kp} {σ:St}
inductive SumQ (c:Cx) (Q:AV→St→Prop):AV→St→Prop
 |mk {l ns σ}:LL c σ l ns→(∀b∈ns,0≤b∧b<256)→ns.length≤8→Q (.i (leNum ns)) σ→SumQ c Q (.v (.ref l)) σ
theorem sum_fi (X:Fx dFi c) {q p px px₂ tp p1 p2 p3 p4 p5 p6 p7 pos:Pos} {it:Ex} {Q:AV→St→Prop} (h:GA dFi c it (SumQ c Q) σ):
  GA dFi c (.bn .sum q (.cons (.lcp (.BinOp (.Name "octet" p1) .Mult (.BinOp (.Constant (.int 256) 0 p2) .Pow (.Name "k" p3) p4) p5) [⟨.Tuple [.Name "k" px,.Name "octet" px₂] 0 tp,.Call (.Name "enumerate" p6) [(ux dFi.names it).1] [] p7,[],0⟩]
   {kind:= .function,names:=[(".0",.local),("k",.local),("octet",.local)],isGenerator:=false,isCoroutine:=false} pos) .nil) p) Q σ:=fun kp hp tk K=>by
 refine K.open fun m bs F V B N=>Call_ (nameX_B F X.inn (topRead_of X.top) rfl (v:= .builtin "sum") rfl (by decide) ?_ X.ok.kind rfl (by decide)) rfl
 refine PyProof.Rows.callWith_builtin1 (args_cons ?_ rfl) rfl rfl
 refine ListComp_E (h₀:=c.g) (L:=c.L) (fun i b=>b*256 ^ i) (by with_unfolding_all rfl) (by decide) rfl (by decide) rfl rfl (by decide) ?_
 refine Call_ (nameX_B F X.inn (topRead_of X.top) rfl (v:= .type "enumerate") rfl (by decide) ?_ X.ok.kind rfl (by decide)) rfl
 refine PyProof.Rows.callWith_type1 (args_cons (h.run K fun v a h' σ' tk' ha K' q=> ?_) (star_any it _ _)) (star_any it _ _) rfl
 cases q with| @mk l ns _ L hb hl q=>
 rw[AV.has_v ha]
 refine args_nil (K'.open fun m bs F V B N=> ?_)
 obtain ⟨vs,k,hm,hi⟩:=LL.il L bs kp B
 refine enSrc_list (s:=c.at hp tk) rfl F N hm hi (Nat.le_trans hl (by decide)) ⟨_,_,rfl⟩ ?_ ?_
 ·intro i t1 t2 C oC m₂ h tk Q' E' hi' hoC hx1 hx2 F6 N6 hQ'
  have hgb:=getD_bound hb i
  have hp:(0:Int)≤(i:Int):=Int.natCast_nonneg _
  refine wpAny_BinOp (LCgL.ld_own N6 (.head _) hoC hx2 (wpAny_BinOp (wpAny_Constant_int (LCgL.ld_own (s:={c.at h tk with toks:=_}) N6 (.head _) hoC hx1 (pow_int_small hp (by exact lin (.h 1 (.l Y1 (.c 8)) (.h 1 (.t Y0 Y1) (.G 1 (.L Y0 (.c 1000000))))) rfl [_,_] [] hl hi') (by decide) (mul_int ?_ (IntMulOk.of_left (intBits_le_64 (by exact lin (.h 1 (.L (.c 0) Z0) (.G 1 (.T (.n (.c 18446744073709551616)) Z0))) rfl [] [_] hgb.1) (by exact lin (.h 1 (.T Z0 (.c 256)) (.G 1 (.T Z0 (.c 18446744073709551616)))) rfl [] [_] hgb.2)))))))))
  rw[Int.toNat_natCast]
  exact hQ' _ _
 ·intro D h tk ys F6 N6 hI6 hlt6
  refine args_nil (sumK rfl F6 N6 (show h.IsList D ys.toArray from ⟨_,(N6 _ (.head _)).1,rfl,_,rfl⟩) hI6 fun h3 tk3 t3 F3 N3=>postA (a:= .i (leNum ns)) (K'.same V B F3 fun p hp=>N3 p (.tail _ hp)) ⟨t3,by rw[enMap_le]⟩ q)
end
noncomputable def DatA (n:Nat) (tl:Led):Dat→AV→Prop
 | .num x,a=>a= .i x
 | .byt b,a=>∃t,a= .v (.bytes b.toArray t)
 | .grp g,a=>∃l,a= .v (.ref l)∧RowsAt n tl g l
noncomputable def FldO (n:Nat) (tl:Led) (fs:Str) (a:AV) (q:Int):Except Flt (Dat×Nat)→Prop
 | .ok (x,p)=>fs=Str.ofString ""∧q=(p:Int)∧DatA n tl x a
 | .error e=>fs=e.name
inductive FldR (n:Nat) (o:Except Flt (Dat×Nat)):Led→List AV→Prop
 |mk {tl fs a q}:FldO n tl fs a q o→FldR n o tl [.s fs,a,.i q]
inductive SetR (n:Nat) (o:Except Flt (List Rw×Nat×Int)):Led→List AV→Prop
 |mk {tl fs l q cl}:SetOut n tl fs l q cl o→SetR n o tl [.s fs,.v (.ref l),.i q,.i cl]
noncomputable abbrev SetA (w:World) (bs:List Int) (lo:Addr) (n end_:Nat):Prop:=∀(at_ lv:Nat),end_ - at_<n→at_<2 ^ 20→lv<100→
 KA w (3*(100 - lv)+3) 397 [.v (.ref lo),.i (at_:Int),.i (end_:Int),.i (lv:Int)] (IL lo bs) (TupR (SetR n (rset bs end_ n at_ lv)))
theorem rcut_1 {n end_:Nat} {tl:Led} {fs:Str} {a:AV} {q:Int} {o:Except Flt (Dat×Nat)} (h:FldO n tl fs a q o) (e:(fs==Str.ofString "" && decide ((end_:Int)<q))=true):FldO n tl (Str.ofString "DecodeError") a q (rcut end_ o):=by
 obtain ⟨e1,e2⟩:=Bool.and_eq_true_iff.mp e
 cases o with
 |ok v=>obtain ⟨v,p⟩:=v;obtain ⟨h1,rfl,h3⟩:=h;rw[rcut,if_pos (by have:=of_decide_eq_true e2;(exact lin (.h 1 (.T Y0 Y1) (.G 1 (.t Y0 Y1))) rfl [_,_] [] this))];rfl
 |error f=>rw[show fs=f.name from h,name_ne] at e1;cases e1
theorem rcut_2 {n end_:Nat} {tl:Led} {fs:Str} {a:AV} {q:Int} {o:Except Flt (Dat×Nat)} (h:FldO n tl fs a q o) (e:(fs==Str.ofString "" && decide ((end_:Int)<q))=false):FldO n tl fs a q (rcut end_ o):=by
 cases o with
 |ok v=>
  obtain ⟨v,p⟩:=v;obtain ⟨rfl,rfl,h3⟩:=h
  have e:decide ((end_:Int)<(p:Int))=false:=e
  rw[rcut,if_neg (by have:=of_decide_eq_false e;(exact lin (.h 1 (.nT Y0 Y1) (.G 1 (.nt Y0 Y1))) rfl [_,_] [] this))];exact ⟨rfl,rfl,h3⟩
 |error f=>exact h
theorem fld_rv {n at_:Nat} {bs:List Int} {g:Except Flt (Dat×Nat)} {fs:Str} {x q:Int} (h:RvOut at_ (rvar bs at_) fs x q):FldO n [] fs (.i x) q (rfld bs at_ 0 g):=by
 rw[rfld_0]
 cases ho:rvar bs at_ with
 |ok v=>rw[ho] at h;obtain ⟨h1,h2,h3⟩:=h;exact ⟨h1,h3,by rw[h2];rfl⟩
 |error f=>rw[ho] at h;exact h.1
theorem fld_fx {n at_ k:Nat} {bs:List Int} {wire:Int} {g:Except Flt (Dat×Nat)} (h:wire=1∧k=8∨wire=5∧k=4):
  FldO n [] (bif decide ((at_:Int)+(k:Int)≤(bs.length:Int)) then Str.ofString "" else Str.ofString "StructError") (.i (leNum (sl bs (some (at_:Int)) (some ((at_:Int)+(k:Int)))))) ((at_:Int)+(k:Int)) (rfld bs at_ wire g):=by
 have e:rfld bs at_ wire g=if at_+k≤bs.length then .ok (.num (leNum ((bs.drop at_).take k)),at_+k) else .error .struct:=by
  rcases h with ⟨rfl,rfl⟩|⟨rfl,rfl⟩<;>rfl
 have hs:sl bs (some (at_:Int)) (some ((at_:Int)+(k:Int)))=(bs.drop at_).take k:=take_min_drop
 rw[e,hs]
 by_cases hk:at_+k≤bs.length
 ·rw[if_pos hk,decide_eq_true (by exact lin (.h 1 (.l (.a Y0 Y1) Y2) (.G 1 (.L (.a Y0 Y1) Y2))) rfl [_,_,_] [] hk)];exact ⟨rfl,rfl,rfl⟩
 ·rw[if_neg hk,decide_eq_false (by exact lin (.h 1 (.nl (.a Y0 Y1) Y2) (.G 1 (.nL (.a Y0 Y1) Y2))) rfl [_,_,_] [] hk)];rfl
theorem fld_by {n at_:Nat} {bs:List Int} (hb:∀b∈bs,0≤b∧b<256) {g:Except Flt (Dat×Nat)} {fs:Str} {x q:Int} {t:Tok} (h:RvOut at_ (rvar bs at_) fs x q):FldO n [] fs (.v (.bytes (byteArr (sl bs (some q) (some (q+x)))) t)) (q+x) (rfld bs at_ 2 g):=by
 rw[rfld_2]
 cases ho:rvar bs at_ with
 |ok v=>
  obtain ⟨v,p⟩:=v
  rw[ho] at h;obtain ⟨h1,rfl,rfl⟩:=h
  have hr:=rvar_range hb ho
  have hs:sl bs (some (p:Int)) (some ((p:Int)+x))=(bs.drop p).take x.toNat:=by
   show List.take (min ((p:Int)+x).toNat bs.length - (p:Int).toNat) (List.drop (p:Int).toNat bs)=_
   rw[Int.toNat_natCast,show ((p:Int)+x).toNat=p+x.toNat by (exact Nat.le_antisymm (lin (.h 1 (.E Y0 (.a Y1 Z0)) (.h 1 (.D Y2 Z0) (.G 1 (.l Y0 (.a Y1 Y2))))) rfl [_,_,_] [_] (Int.toNat_of_nonneg (lin (.h 1 (.L (.c 0) Z0) (.G 1 (.L (.c 0) (.a Y0 Z0)))) rfl [_] [_] hr.1)) (Int.toNat_of_nonneg (lin (.h 1 (.L (.c 0) Z0) (.G 1 (.L (.c 0) Z0))) rfl [] [_] hr.1))) (lin (.h 1 (.E Y1 Z0) (.h 1 (.D Y2 (.a Y0 Z0)) (.G 1 (.l (.a Y0 Y1) Y2)))) rfl [_,_,_] [_] (Int.toNat_of_nonneg (lin (.h 1 (.L (.c 0) Z0) (.G 1 (.L (.c 0) Z0))) rfl [] [_] hr.1)) (Int.toNat_of_nonneg (lin (.h 1 (.L (.c 0) Z0) (.G 1 (.L (.c 0) (.a Y0 Z0)))) rfl [_] [_] hr.1))))]
   exact take_min_drop
  exact ⟨h1,by push_cast;(exact Int.le_antisymm (lin (.h 1 (.D Y1 Z0) (.G 1 (.L (.a Y0 Z0) (.a Y0 Y1)))) rfl [_,_] [_] (Int.toNat_of_nonneg (lin (.h 1 (.L (.c 0) Z0) (.G 1 (.L (.c 0) Z0))) rfl [] [_] hr.1))) (lin (.h 1 (.E Y1 Z0) (.G 1 (.L (.a Y0 Y1) (.a Y0 Z0)))) rfl [_,_] [_] (Int.toNat_of_nonneg (lin (.h 1 (.L (.c 0) Z0) (.G 1 (.L (.c 0) Z0))) rfl [] [_] hr.1)))),_,by rw[hs];rfl⟩
 |error f=>rw[ho] at h;exact h.1
theorem rv_pos {at_:Nat} {bs:List Int} (hb:∀b∈bs,0≤b∧b<256) {fs:Str} {x q:Int} (h:RvOut at_ (rvar bs at_) fs x q):0≤q∧0≤q+x:=by
 cases ho:rvar bs at_ with
 |ok v=>obtain ⟨v,p⟩:=v;rw[ho] at h;obtain ⟨_,rfl,rfl⟩:=h;have:=rvar_range hb ho;(exact ⟨lin (.G 1 (.L (.c 0) Y0)) rfl [_] [],lin (.h 1 (.L (.c 0) Z0) (.G 1 (.L (.c 0) (.a Y0 Z0)))) rfl [_] [_] this.1⟩)
 |error f=>rw[ho] at h;obtain ⟨_,rfl,rfl⟩:=h;(exact ⟨lin (.G 1 (.L (.c 0) Y0)) rfl [_] [],lin (.G 1 (.L (.c 0) (.a Y0 (.c 0)))) rfl [_] []⟩)
theorem fld_no {n at_:Nat} {bs:List Int} {wire:Int} {g:Except Flt (Dat×Nat)} {a:AV} {q:Int} (h0:wire≠0) (h15:wire≠1∧wire≠5) (h2:wire≠2) (h3:wire≠3):FldO n [] (Str.ofString "DecodeError") a q (rfld bs at_ wire g):=by
 unfold rfld
 rw[if_neg h0,if_neg h15.1,if_neg h15.2,if_neg h2,if_neg h3];rfl
theorem sl_short {ns:List Int} {x y:Option Int} {k:Nat} (h:ns.length<k):(sl ns x y).length<k:=by
 have tk:∀{l:List Int} {n:Nat},l.length<k→(l.take n).length<k:=fun h=>Nat.lt_of_le_of_lt (List.length_take▸Nat.min_le_right _ _) h
 have dr:∀{l:List Int} {n:Nat},l.length<k→(l.drop n).length<k:=fun h=>Nat.lt_of_le_of_lt (List.length_drop▸Nat.sub_le _ _) h
 cases x<;>cases y
 ·exact h
 ·exact tk h
 ·exact dr h
 ·exact tk (dr h)
theorem law_read_fieldA {w:World} {bs:List Int} {lo:Addr} {n end_ at_ lv:Nat} {num wire:Int} {grp:Except Flt (Dat×Nat)} (hb:∀b∈bs,0≤b∧b<256) (hl:bs.length<2 ^ 16) (hat:at_<2 ^ 20) (hw:0≤wire) (hw8:wire<8)
  (hg:KA w (3*(100 - lv)+1) 385 [.v (.ref lo),.i (at_:Int),.i (end_:Int),.i num,.i (lv:Int)] (IL lo bs) (TupR (FldR n grp))):
  KA w (3*(100 - lv)+2) 390 [.v (.ref lo),.i (at_:Int),.i (end_:Int),.i num,.i wire,.i (lv:Int)] (IL lo bs) (TupR (FldR n (rcut end_ (rfld bs at_ wire grp)))):=by
 refine KA_enter (d:=dFi) (body:=bFi) dFi_ok (fun _=>rfl) (fun _=>rfl) (fun s=>lenS fun a=>lenS fun b=>lenS fun c=>lenS fun d=>lenS fun e=>lenS fun f=>lenZ (BindsTo.of_eq rfl)) rfl rfl (by decide) (Nat.succ_pos _) ?_
 intro cx X hw hx rm hn1
 subst hw
 have L:∀σ:St,LI cx σ lo bs:=fun σ=> .of hn1
 unfold bFi
 refine H_join (fun (y:Led×Str×AV×Int)=>⟨[some (.v (.ref lo)),some (.i y.2.2.2),some (.i (end_:Int)),some (.i num),some (.i wire),some (.i (lv:Int)),some (.s y.2.1),some y.2.2.1],[],y.1⟩) (fun y=>FldO n y.1 y.2.1 y.2.2.1 y.2.2.2 (rfld bs at_ wire grp)) ?_ ?_
 ·refine HS_ifs X (os:=[]) rfl (fun h=> ?_) (fun h=> ?_)
  ·have h:wire=0:=by simpa using h
   subst h
   refine H_setK X rfl (f:=371) ⟨rfl,fun _=>rfl,fun _=>rfl,by decide⟩ (os:=[]) rfl (law_read_varintA (by exact lin (.h 1 (.t Y0 (.c 65536)) (.G 1 (.t Y0 (.c 1048576)))) rfl [_] [] hl) hat) rm (by exact lin (.G 1 (.t (.c 1) (.a (.r 3 Y0) (.c 2)))) rfl [_] []) (LL.of hn1).il ?_
   rintro tl _ ⟨hR⟩
   exact ⟨rfl,H_nil (md_nx ([],_,.i _,_) ⟨.keep (.keep (.keep (.keep (.keep (.keep (.keep (.keep .nil))))))),.refl _,no_mem⟩ (fld_rv hR))⟩
  ·have h0:wire≠0:=by simpa using h
   refine H_ifs X (os:=[]) rfl (fun h=> ?_) (fun h=> ?_)
   ·obtain ⟨k,hk8,hk⟩:∃k:Nat,(bif (wire==1) then (8:Int) else 4)=(k:Int)∧(wire=1∧k=8∨wire=5∧k=4):=by
     rcases Bool.or_eq_true_iff.mp h with h|h
     ·have h:wire=1:=by simpa using h
      exact ⟨8,by rw[h];rfl,.inl ⟨h,rfl⟩⟩
     ·have h:wire=5:=by simpa using h
      exact ⟨4,by rw[h];rfl,.inr ⟨h,rfl⟩⟩
    have hk2:k≤8:=by exact (hk).elim (fun e30=>lin (.h 1 (.e Y0 (.c 8)) (.G 1 (.l Y0 (.c 8)))) rfl [_] [] e30.2) (fun e30=>lin (.h 1 (.e Y0 (.c 4)) (.G 1 (.l Y0 (.c 8)))) rfl [_] [] e30.2)
    refine H_set X (GA_p X (os:=[]) rfl ?_)
    rw[hk8]
    refine H_set X (GA_p X (os:=[.l bs]) rfl ?_ (by exact ⟨L _,by exact lin (.h 1 (.t Y0 (.c 65536)) (.G 1 (.t Y0 (.c 1099511627776)))) rfl [_] [] hl⟩))
    refine H_set X (sum_fi X (it:= .sub (.loc 0 _) (.slc (.loc 1 _) (.bin (.loc 1 _) .Add (.loc 8 _) _) _) _) (GA_slc X (os:=[]) (l:=lo) (ns:=bs) rfl rfl rfl rfl (L _) (by exact lin (.h 1 (.t Y0 (.c 65536)) (.G 1 (.t Y0 (.c 1048576)))) rfl [_] [] hl) (np2 (Int.natCast_nonneg _) (by exact lin (.G 1 (.L (.c 0) (.a Y0 Y1))) rfl [_,_] [])) (fun D=> .mk (.inl (.head _)) (sl_bound hb) (Nat.le_trans sl_len hk2) ?_)))
    exact H_set X (GA_p X (os:=[]) rfl (H_nil (H_nil (md_nx ([],_,.i _,_) ⟨.keep (.keep (.keep (.keep (.keep (.keep (.keep (.keep .nil))))))),List.nil_sublist _,no_mem⟩ (fld_fx hk)))))
   ·have h15:wire≠1∧wire≠5:=by simpa using h
    refine H_ifs X (os:=[]) rfl (fun h=> ?_) (fun h=> ?_)
    ·have h:wire=2:=by simpa using h
     subst h
     refine H_setK X rfl (f:=371) ⟨rfl,fun _=>rfl,fun _=>rfl,by decide⟩ (os:=[]) rfl (law_read_varintA (by exact lin (.h 1 (.t Y0 (.c 65536)) (.G 1 (.t Y0 (.c 1048576)))) rfl [_] [] hl) hat) rm (by exact lin (.G 1 (.t (.c 1) (.a (.r 3 Y0) (.c 2)))) rfl [_] []) (LL.of hn1).il ?_
     rintro tl _ ⟨hR⟩
     refine ⟨rfl,H_set X (GA_bytes X rfl (GA_slc X (os:=[]) (l:=lo) (ns:=bs) rfl rfl rfl rfl (L _) (by exact lin (.h 1 (.t Y0 (.c 65536)) (.G 1 (.t Y0 (.c 1048576)))) rfl [_] [] hl) (np2 (rv_pos hb hR).1 (rv_pos hb hR).2) (fun D=> .mk (.inl (.head _)) (sl_bound hb) (sl_short (by exact lin (.h 1 (.t Y0 (.c 65536)) (.G 1 (.t Y0 (.c 1048576)))) rfl [_] [] hl)) fun t=> ?_)))⟩
     exact H_set X (GA_p X (os:=[]) rfl (H_nil (H_nil (H_nil (md_nx ([],_,.v _,_) ⟨.keep (.keep (.keep (.keep (.keep (.keep (.keep (.keep .nil))))))),List.nil_sublist _,no_mem⟩ (fld_by hb hR))))))
    ·have h2:wire≠2:=by simpa using h
     refine H_ifs X (os:=[]) rfl (fun h=> ?_) (fun h=> ?_)
     ·have h:wire=3:=by simpa using h
      subst h
      refine H_setK X rfl (f:=385) ⟨rfl,fun _=>rfl,fun _=>rfl,by decide⟩ (os:=[]) rfl hg rm (by exact lin (.G 1 (.t (.a (.r 3 Y0) (.c 1)) (.a (.r 3 Y0) (.c 2)))) rfl [_] []) (LL.of hn1).il ?_
      rintro tl _ ⟨hR⟩
      exact ⟨rfl,H_nil (H_nil (H_nil (H_nil (md_nx (tl,_,_,_) ⟨.keep (.keep (.keep (.keep (.keep (.keep (.keep (.keep .nil))))))),.refl _,fun p hp=>mL _ hp⟩ hR))))⟩
     ·have h3:wire≠3:=by simpa using h
      refine H_setT X rfl (GA_tup (GL_p X (os:=[]) rfl ⟨by decide,fun r=>⟨r,_,rfl,.inr (.head _),rfl,?_⟩⟩))
      exact H_nil (H_nil (H_nil (H_nil (md_nx ([],_,.i _,(at_:Int)) ⟨.keep (.keep (.keep (.keep (.keep (.keep (.keep (.keep .nil))))))),List.nil_sublist _,no_mem⟩ (fld_no h0 h15 h2 h3)))))
 ·rintro ⟨tl,fs,a,q⟩ hF
  refine H_ifs X (os:=[]) rfl (fun h=> ?_) (fun h=>H_nil ?_)
  ·exact H_set X (GA_p X (os:=[]) rfl (H_nil (H_retT X (os:=[]) rfl fun r=>fin_tup (.mk (rcut_1 hF h)) fun p hp=>hp)))
  ·exact H_retT X (os:=[]) rfl fun r=>fin_tup (.mk (rcut_2 hF h)) fun p hp=>hp
theorem law_read_tagA {w:World} {lo:Addr} {bs:List Int} {at_:Nat} (hl:bs.length<2 ^ 20) (hat:at_<2 ^ 20):KA w 2 378 [.v (.ref lo),.i (at_:Int)] (IL lo bs) (TupR (RvR at_ (rtag bs at_))):=by
 refine KA_enter (d:=dRt) (body:=bRt) dRt_ok (fun _=>rfl) (fun _=>rfl) (fun s=>lenS fun a=>lenS fun b=>lenZ (BindsTo.of_eq rfl)) rfl rfl (by decide) (Nat.succ_pos _) ?_
 intro cx X hw hx rm hn
 subst hw
 have L:∀σ:St,LI cx σ lo bs:=fun σ=> .of hn
 unfold bRt
 refine H_set X (GA_p X (os:=[]) rfl ?_)
 refine H_whl X (fun (b:Nat)=>⟨[some (.v (.ref lo)),some (.i (at_:Int)),some (.i (b:Int))],[],[]⟩) (fun b=>tend bs at_=tend bs b∧b≤max bs.length at_) (fun b=>bs.length - b) at_ ⟨.keep (.keep (.keep .nil)),.refl _,no_mem⟩ ⟨rfl,Nat.le_max_right _ _⟩ ?_
 rintro b ⟨he,hb⟩
 refine GT_p X (os:=[.l bs,.l bs]) rfl ⟨fun h=> ?_,fun h=> ?_⟩ (by exact ⟨⟨L _,by exact lin (.h 1 (.t Y0 (.c 1048576)) (.G 1 (.t Y0 (.c 1099511627776)))) rfl [_] [] hl⟩,fun h=>⟨L _,by omega,by have:=of_decide_eq_true h;omega,by exact lin (.h 1 (.t Y0 (.c 1048576)) (.G 1 (.t Y0 (.c 1099511627776)))) rfl [_] [] hl⟩⟩)
 ·obtain ⟨h1,h2⟩:=Bool.and_eq_true_iff.mp h
  have h1:=of_decide_eq_true h1
  have h2:=of_decide_eq_true h2
  refine H_set X (GA_p X (os:=[]) rfl (H_nil (lp_nx (b+1) ⟨.keep (.keep (.keep .nil)),.refl _,no_mem⟩ ⟨?_,?_⟩ ?_)))
  ·rw[he];exact tend_high (by exact lin (.h 1 (.T Y0 Y1) (.G 1 (.t Y0 Y1))) rfl [_,_] [] h1) h2
  ·exact lin (.h 1 (.T Y0 Y2) (.h 1 (.l Y2 Y1) (.G 1 (.l (.a Y0 (.c 1)) Y1)))) rfl [_,_,_] [] h1 (Nat.le_max_left _ _)
  ·exact lin (.h 1 (.e (.a Y0 (.a Y2 (.c 1))) Y3) (.h 1 (.d (.a Y1 Y2) Y3) (.G 1 (.t Y0 Y1)))) rfl [_,_,_,_] [] (sC (lin (.h 1 (.T Y0 Y1) (.G 1 (.l (.a Y0 (.c 1)) Y1))) rfl [_,_] [] h1)) (sC (lin (.h 1 (.T Y0 Y1) (.G 1 (.l Y0 Y1))) rfl [_,_] [] h1))
 ·have hlow:b<bs.length→tend bs at_=b:=fun hb=>by
   rw[he]
   rcases Bool.and_eq_false_iff.mp h with h|h
   ·have:=of_decide_eq_false h;(exact Nat.le_antisymm (False.elim (lin (.h 1 (.t Y0 Y1) (.h 1 (.nT Y0 Y1) .F)) rfl [_,_] [] hb this)) (False.elim (lin (.h 1 (.t Y0 Y1) (.h 1 (.nT Y0 Y1) .F)) rfl [_,_] [] hb this)))
   ·exact tend_low hb (of_decide_eq_false h)
  refine H_ifs X (os:=[.l bs]) rfl (fun h2=> ?_) (fun h2=>H_nil ?_) (by exact ⟨L _,by exact lin (.h 1 (.t Y0 (.c 1048576)) (.G 1 (.t Y0 (.c 1099511627776)))) rfl [_] [] hl⟩)
  ·have h2:=of_decide_eq_true h2
   refine H_retT X (os:=[]) rfl fun r=>fin_tup (.mk ?_) no_mem
   have:tend bs at_=b:=by rw[he,tend_out (by exact lin (.h 1 (.L Y0 Y1) (.G 1 (.l Y0 Y1))) rfl [_,_] [] h2)]
   unfold rtag
   rw[this,if_pos (by exact lin (.h 1 (.L Y0 Y1) (.G 1 (.l Y0 Y1))) rfl [_,_] [] h2)];exact ⟨rfl,rfl,rfl⟩
  ·have h2:=of_decide_eq_false h2
   have e:rtag bs at_=rvar (sl bs none (some ((b:Int)+1))) at_:=by
    unfold rtag
    rw[hlow (by exact lin (.h 1 (.nL Y1 Y0) (.G 1 (.t Y0 Y1))) rfl [_,_] [] h2),if_neg (by exact lin (.h 1 (.nL Y0 Y1) (.G 1 (.nl Y0 Y1))) rfl [_,_] [] h2)];rfl
   rw[e]
   refine H_retK X (f:=371) (k:=1) ⟨rfl,fun _=>rfl,fun _=>rfl,by decide⟩ rm (by decide) (GL_cons (GA_slc X (os:=[]) (l:=lo) (ns:=bs) rfl rfl rfl rfl (L _) hl (npr (by show (0:Int)≤(b:Int)+1;(exact lin (.G 1 (.L (.c 0) (.a Y0 (.c 1)))) rfl [_] []))) fun D=>GL_p X (os:=[]) rfl (.mk (IL D (sl bs none (some ((b:Int)+1)))) (law_read_varintA (sl_short hl) hat) (LL.il (.inl (.head _))))))
theorem law_read_groupA {w:World} {bs:List Int} {lo:Addr} {n end_ at_ lv:Nat} {num:Int} (hl:bs.length<2 ^ 16) (hat:at_<2 ^ 20) (hn:end_ - at_<n) (hnum:0≤num) (hnum2:num<2 ^ 61) (hs:SetA w bs lo n end_):
  KA w (3*(100 - lv)+1) 385 [.v (.ref lo),.i (at_:Int),.i (end_:Int),.i num,.i (lv:Int)] (IL lo bs) (TupR (FldR n (if 100≤lv+1 then .error .decode else rgrp (rset bs end_ n at_ (lv+1)) bs num))):=by
 refine KA_enter (d:=dGr) (body:=bGr) dGr_ok (fun _=>rfl) (fun _=>rfl) (fun s=>lenS fun a=>lenS fun b=>lenS fun c=>lenS fun d=>lenS fun e=>lenZ (BindsTo.of_eq rfl)) rfl rfl (by decide) (Nat.succ_pos _) ?_
 intro cx X hw hx rm hn1
 subst hw
 unfold bGr
 refine H_ifs X (os:=[]) rfl (fun h=> ?_) (fun h=>H_nil ?_)
 ·exact H_retN X (os:=[]) rfl (fun _=>rfl) fun l r=>fin_tup (.mk (tl:=[]) (by rw[if_pos (by have:=of_decide_eq_true h;(exact lin (.h 1 (.L (.c 100) (.a Y0 (.c 1))) (.G 1 (.l (.c 100) (.a Y0 (.c 1))))) rfl [_] [] this))];rfl)) no_mem
 ·have hlv:¬ 100≤lv+1:=by have:=of_decide_eq_false h;(exact lin (.h 1 (.nL (.c 100) (.a Y0 (.c 1))) (.G 1 (.nl (.c 100) (.a Y0 (.c 1))))) rfl [_] [] this)
  rw[if_neg hlv]
  have C:=hs at_ (lv+1) hn hat (by exact lin (.h 1 (.nl (.c 100) (.a Y0 (.c 1))) (.G 1 (.t (.a Y0 (.c 1)) (.c 100)))) rfl [_] [] hlv)
  rw[show ((lv+1:Nat):Int)=(lv:Int)+1 from rfl] at C
  refine H_setK X rfl (f:=397) ⟨rfl,fun _=>rfl,fun _=>rfl,by decide⟩ (os:=[]) rfl C rm (by exact lin (.h 3 (.e (.a Y0 (.a Y2 (.c 1))) (.c 100)) (.h 3 (.d (.a Y1 Y2) (.c 100)) (.G 1 (.t (.a (.r 3 Y0) (.c 3)) (.a (.r 3 Y1) (.c 1)))))) rfl [_,_,_] [] (sC (lin (.h 1 (.nl (.c 100) (.a Y0 (.c 1))) (.G 1 (.l (.a Y0 (.c 1)) (.c 100)))) rfl [_] [] hlv)) (sC (lin (.h 1 (.nl (.c 100) (.a Y0 (.c 1))) (.G 1 (.l Y0 (.c 100)))) rfl [_] [] hlv))) (LL.of hn1).il ?_
  rintro tl _ ⟨hR⟩
  rename_i fs l q cl
  cases ho:rset bs end_ n at_ (lv+1) with
  |error f=>
   rw[ho] at hR
   refine ⟨rfl,H_ifs X (os:=[]) rfl (fun h=> ?_) (fun h=> ?_)⟩
   ·exact H_retN X (os:=[]) rfl (fun _=>rfl) fun l r=>fin_tup (.mk (tl:=[]) hR) no_mem
   ·exact absurd (show (fs !=Str.ofString "")=true by rw[show fs=f.name from hR];exact name_ne' f) (by rw[h];nofun)
  |ok v=>
   obtain ⟨rows,pp,c2⟩:=v
   rw[ho] at hR
   obtain ⟨rfl,rfl,rfl,hRA⟩:=hR
   refine ⟨rfl,H_ifs X (os:=[]) rfl (fun h=>absurd h nofun) (fun h=>H_nil ?_)⟩
   have hb1:=vint_len 9 (num*8+4) (by exact lin (.h 8 (.T Z0 (.c 2305843009213693952)) (.G 1 (.T (.a (.m Z0 8) (.c 4)) (.c 1180591620717411303424)))) rfl [] [_] hnum2)
   have hp0:(0:Int)≤(pp:Int):=Int.natCast_nonneg _
   obtain ⟨mx,hmx⟩:∃mx,mx=(if (pp:Int) - ((vint (num*8+4)).length:Int)>0 then (pp:Int) - ((vint (num*8+4)).length:Int) else 0):=⟨_,rfl⟩
   have hm1:0≤mx∧mx.toNat=pp - (vint (num*8+4)).length:=by rw[hmx];split<;>(first|exact ⟨lin (.h 1 (.T (.c 0) (.s Y0 Y1)) (.G 1 (.L (.c 0) (.s Y0 Y1)))) rfl [_,_] [] ‹_›,Nat.le_antisymm (lin (.h 1 (.E Y0 (.s Y2 Y3)) (.h 1 (.d (.a Y1 Y3) Y2) (.G 1 (.l Y0 Y1)))) rfl [_,_,_,_] [] (Int.toNat_of_nonneg (lin (.h 1 (.T (.c 0) (.s Y0 Y1)) (.G 1 (.L (.c 0) (.s Y0 Y1)))) rfl [_,_] [] ‹_›)) (sC (lin (.h 1 (.T (.c 0) (.s Y1 Y0)) (.G 1 (.l Y0 Y1))) rfl [_,_] [] ‹_›))) (lin (.h 1 (.e (.a Y0 Y2) Y3) (.h 1 (.D Y1 (.s Y3 Y2)) (.G 1 (.l Y0 Y1)))) rfl [_,_,_,_] [] (sC (lin (.h 1 (.T (.c 0) (.s Y1 Y0)) (.G 1 (.l Y0 Y1))) rfl [_,_] [] ‹_›)) (Int.toNat_of_nonneg (lin (.h 1 (.T (.c 0) (.s Y0 Y1)) (.G 1 (.L (.c 0) (.s Y0 Y1)))) rfl [_,_] [] ‹_›)))⟩|exact ⟨lin (.G 1 (.L (.c 0) (.c 0))) rfl [] [],Nat.le_antisymm (lin (.h 1 (.E Y0 (.c 0)) (.h 1 (.d Y1 (.c 0)) (.G 1 (.l Y0 Y1)))) rfl [_,_] [] (Int.toNat_of_nonneg (lin (.G 1 (.L (.c 0) (.c 0))) rfl [] [])) (Nat.sub_eq_zero_of_le (lin (.h 1 (.nT (.c 0) (.s Y0 Y1)) (.G 1 (.l Y0 Y1))) rfl [_,_] [] ‹_›))) (lin (.h 1 (.e Y0 (.c 0)) (.h 1 (.D Y1 (.c 0)) (.G 1 (.l Y0 Y1)))) rfl [_,_] [] (Nat.sub_eq_zero_of_le (lin (.h 1 (.nT (.c 0) (.s Y0 Y1)) (.G 1 (.l Y0 Y1))) rfl [_,_] [] ‹_›)) (Int.toNat_of_nonneg (lin (.G 1 (.L (.c 0) (.c 0))) rfl [] [])))⟩)
   have hsl:sl bs (some mx) (some (pp:Int))=(bs.take pp).drop (pp - (vint (num*8+4)).length):=by rw[←hm1.2];exact take_min_drop2
   refine H_set X (GA_konL X ⟨rfl,fun _=>rfl,fun _=>rfl,by decide⟩ (os:=[]) rfl (law_varintA (v:=num*8+4) (by exact lin (.h 8 (.L (.c 0) Z0) (.G 1 (.L (.c 0) (.a (.m Z0 8) (.c 4))))) rfl [] [_] hnum) (by exact lin (.h 8 (.T Z0 (.c 2305843009213693952)) (.G 1 (.T (.a (.m Z0 8) (.c 4)) (.c 1180591620717411303424)))) rfl [] [_] hnum2)) rm (by exact lin (.h 3 (.nl (.c 100) (.a Y1 (.c 1))) (.h 3 (.d (.a Y0 Y1) (.c 100)) (.G 1 (.t (.c 1) (.a (.r 3 Y0) (.c 1)))))) rfl [_,_] [] hlv (sC (lin (.h 1 (.nl (.c 100) (.a Y0 (.c 1))) (.G 1 (.l Y0 (.c 100)))) rfl [_] [] hlv))) (fun _ _ _=>trivial) (fun lt=> ?_) (by exact IntMulOk.of_left (intBits_le_64 (by exact lin (.h 1 (.L (.c 0) Z0) (.G 1 (.T (.n (.c 18446744073709551616)) Z0))) rfl [] [_] hnum) (by exact lin (.h 1 (.T Z0 (.c 2305843009213693952)) (.G 1 (.T Z0 (.c 18446744073709551616)))) rfl [] [_] hnum2))))
   refine H_ifG (GT_ne (GA_slc X (os:=[.l (vint (num*8+4))]) (l:=lo) (ns:=bs) rfl rfl rfl rfl (.of hn1) (by exact lin (.h 1 (.t Y0 (.c 65536)) (.G 1 (.t Y0 (.c 1048576)))) rfl [_] [] hl) (by rw[←hmx];exact np2 hm1.1 hp0) (fun D=> ?_) ⟨.inl (.head _),by exact lin (.h 1 (.l Y0 (.a (.c 9) (.c 1))) (.G 1 (.t Y0 (.c 1099511627776)))) rfl [_] [] hb1⟩))
   rw[←hmx]
   refine GA_p X (os:=[]) rfl (.mk (.inl (.head _)) (.inl (.tail _ (.head _))) (by have:=rm.u;(exact lin (.h 1 (.t (.a (.a Y0 (.r 20 (.a (.r 3 Y2) (.c 1)))) (.c 197)) Y1) (.G 1 (.t (.a Y0 (.c 64)) Y1))) rfl [_,_,_] [] this)) ⟨fun h=> ?_,fun h=>H_nil ?_⟩)
   ·exact H_retN X (os:=[]) rfl (fun _=>rfl) fun l r=>fin_tup (.mk (tl:=[]) (by rw[rgrp,if_neg (fun e=>by rw[hsl] at h;simp[e] at h)];rfl)) no_mem
   ·have e:(bs.take pp).drop (pp - (vint (num*8+4)).length)=vint (num*8+4):=by rw[←hsl];simpa using h
    refine H_ifs X (os:=[]) rfl (fun h=> ?_) (fun h=>H_nil ?_)
    ·exact H_retN X (os:=[]) rfl (fun _=>rfl) fun l r=>fin_tup (.mk (tl:=[]) (by rw[rgrp,if_pos e,if_neg (by simpa using h)];rfl)) no_mem
    ·exact H_retT X (os:=[]) rfl fun r=>fin_tup (.mk (by rw[rgrp,if_pos e,if_pos (by simpa using h)];exact ⟨rfl,rfl,_,rfl,hRA⟩)) fun p hp=>mL _ hp
theorem RowsAt.le {news:Led} {d d':Nat} {rows:List Rw} {l:Addr} (h:RowsAt d news rows l) (hd:d≤d'):RowsAt d' news rows l:=by
 induction hd with
 |refl=>exact h
 |step _ ih=>exact ih.up
theorem DatAt.le {news:Led} {d d':Nat} {x:Dat} {v:Value} (h:DatAt (RowsAt d) news x v) (hd:d≤d'):DatAt (RowsAt d') news x v:=by
 cases x with
 |num=>exact h
 |byt=>exact h
 |grp g=>obtain ⟨l,h1,h2⟩:=h;exact ⟨l,h1,h2.le hd⟩
theorem row_of {n r:Nat} {tl:Led} {x y:Int} {dd:Dat} {a:AV} {o:Obj} (h:tupP [.i x,.i y,a] o) (hd:DatA n tl dd a):∃t1 t2 V,o=tupO [.int x t1,.int y t2,V]∧DatAt (RowsAt n) tl dd V:=by
 obtain ⟨ws,hw,rfl⟩:=h
 cases hw;rename_i hw;cases hw;rename_i hw
 cases dd with
 |num v=>cases hd;cases hw;rename_i hw;cases hw;exact ⟨_,_,_,rfl,_,rfl⟩
 |byt b=>obtain ⟨t,rfl⟩:=hd;cases hw;rename_i hw;cases hw;exact ⟨_,_,_,rfl,t,rfl⟩
 |grp g=>obtain ⟨l,rfl,hg⟩:=hd;cases hw;rename_i hw;cases hw;exact ⟨_,_,_,rfl,l,rfl,hg⟩
structure SetI (bs:List Int) (end_ at_ lv n0:Nat) (y:Nat×Nat×List Rw×List Value×Led):Prop where
 set:rset bs end_ (n0+1) at_ lv=addRows y.2.2.1 (rset bs end_ y.1 y.2.1 lv)
 lt:end_ - y.2.1<y.1
 len:y.1+y.2.2.2.1.length≤n0+1
 at_:y.2.1<2 ^ 20
 rows:Each (RowAt (RowsAt n0) y.2.2.2.2) y.2.2.1 y.2.2.2.1
theorem law_read_setA {w:World} {bs:List Int} {lo:Addr} {end_:Nat} (hb:∀b∈bs,0≤b∧b<256) (hl:bs.length<2 ^ 16) (he:end_<2 ^ 17):∀n,n<2 ^ 18→SetA w bs lo n end_:=by
 intro n
 induction n using Nat.strongRecOn with
 |ind n ih=>
 intro hn2 at_ lv hn hat hlv
 refine KA_enter (d:=dSe) (body:=bSe) dSe_ok (fun _=>rfl) (fun _=>rfl) (fun s=>lenS fun a=>lenS fun b=>lenS fun c=>lenS fun d=>lenZ (BindsTo.of_eq rfl)) rfl rfl (by decide) (Nat.succ_pos _) ?_
 intro cx X hw hx rm hn1
 subst hw
 have L:∀σ:St,LI cx σ lo bs:=fun σ=> .of hn1
 have nx:∀r,¬ cx.xs r:=fun r h=>by rw[hx] at h;exact h
 obtain ⟨n0,rfl⟩:∃n0,n=n0+1:=⟨n - 1,by exact Nat.le_antisymm (lin (.h 1 (.d (.a Y1 (.c 1)) Y0) (.G 1 (.l Y0 (.a Y1 (.c 1))))) rfl [_,_] [] (sC (lin (.h 1 (.t Y1 Y0) (.G 1 (.l (.c 1) Y0))) rfl [_,_] [] hn))) (lin (.h 1 (.e (.a Y0 (.c 1)) Y1) (.G 1 (.l (.a Y0 (.c 1)) Y1))) rfl [_,_] [] (sC (lin (.h 1 (.t Y1 Y0) (.G 1 (.l (.c 1) Y0))) rfl [_,_] [] hn)))⟩
 unfold bSe
 refine H_set X (GA_nilS fun lr=> ?_)
 refine H_whl X (fun (y:Nat×Nat×List Rw×List Value×Led)=>⟨[some (.v (.ref lo)),some (.i (y.2.1:Int)),some (.i (end_:Int)),some (.i (lv:Int)),some (.v (.ref lr))],[(lr,seqP y.2.2.2.1)],y.2.2.2.2⟩) (SetI bs end_ at_ lv n0) (fun y=>y.1) (n0+1,at_,[],[],[]) ⟨.keep (.keep (.keep (.keep (.keep .nil)))),.refl _,no_mem⟩
  ⟨by cases e:rset bs end_ (n0+1) at_ lv with|error=>rfl|ok v=>obtain ⟨a,b,c⟩:=v;rfl,hn,Nat.le_refl _,hat,.nil⟩ ?_
 rintro ⟨n',at',acc,vs,tl⟩ ⟨hset,hn',hlen,hat',hacc⟩
 dsimp only at hset hn' hlen hat' hacc ⊢
 obtain ⟨n1,rfl⟩:∃n1,n'=n1+1:=⟨n' - 1,by exact Nat.le_antisymm (lin (.h 1 (.d (.a Y1 (.c 1)) Y0) (.G 1 (.l Y0 (.a Y1 (.c 1))))) rfl [_,_] [] (sC (lin (.h 1 (.t Y1 Y0) (.G 1 (.l (.c 1) Y0))) rfl [_,_] [] hn'))) (lin (.h 1 (.e (.a Y0 (.c 1)) Y1) (.G 1 (.l (.a Y0 (.c 1)) Y1))) rfl [_,_] [] (sC (lin (.h 1 (.t Y1 Y0) (.G 1 (.l (.c 1) Y0))) rfl [_,_] [] hn')))⟩
 have hrs:=rset_succ bs end_ n1 at' lv
 refine GT_p X (os:=[]) rfl ⟨fun h=> ?_,fun h=> ?_⟩
 ·have hcont:at'<end_:=by have:=of_decide_eq_true h;(exact lin (.h 1 (.T Y0 Y1) (.G 1 (.t Y0 Y1))) rfl [_,_] [] this)
  rw[if_pos hcont] at hrs
  refine H_setK X rfl (f:=378) ⟨rfl,fun _=>rfl,fun _=>rfl,by decide⟩ (os:=[]) rfl (law_read_tagA (by exact lin (.h 1 (.t Y0 (.c 65536)) (.G 1 (.t Y0 (.c 1048576)))) rfl [_] [] hl) hat') rm (by exact lin (.G 1 (.t (.c 2) (.a (.r 3 Y0) (.c 3)))) rfl [_] []) (LL.of hn1).il ?_
  rintro _ _ ⟨hR⟩
  rename_i fs x q
  refine ⟨rfl,?_⟩
  cases e:rtag bs at' with
  |error f=>
   rw[e] at hR hrs
   obtain ⟨rfl,rfl,rfl⟩:=hR
   refine H_ifs X (os:=[]) rfl (fun h=>absurd h (by rw[name_ne];nofun)) (fun h=>H_nil (H_ifs X (os:=[]) rfl (fun h=>absurd h (by rw[name_ne];nofun)) (fun h=>H_nil (H_ifs X (os:=[]) rfl (fun h=> ?_) (fun h=>absurd h (by rw[name_ne'];nofun))))))
   exact H_retN X (os:=[]) rfl (fun _=>rfl) fun l r=>fin_tup (.mk (tl:=[]) (by rw[hset,hrs];rfl)) no_mem
  |ok vp=>
   obtain ⟨tag,pp⟩:=vp
   rw[e] at hR hrs
   obtain ⟨rfl,rfl,rfl⟩:=hR
   have htr:=rtag_range hb e
   dsimp only at hrs
   have em:x.fmod 8=x % 8:=Int.fmod_eq_emod_of_nonneg _ (by decide)
   have ed:x.fdiv 8=x / 8:=Int.fdiv_eq_ediv_of_nonneg _ (by decide)
   refine H_ifs X (os:=[]) rfl (fun h=> ?_) (fun h=>H_nil ?_)
   ·have h:x % 8=4:=by rw[←em];simpa using h
    rw[if_pos h] at hrs
    refine H_freeze (nx _) fun o ⟨k,ho⟩=> ?_
    subst ho
    refine H_retT X (os:=[]) rfl fun r=>fin_tup (.mk (tl:=(lr,listOf vs.toArray k)::tl) ?_) fun p hp=>hp
    rw[hset,hrs]
    refine ⟨rfl,rfl,ed,vs,k,.head _,?_⟩
    rw[List.append_nil]
    exact hacc.mono fun _ _ z=>z.mono (fun p h=> .tail _ h) fun _ _ y=>y.mono fun p h=> .tail _ h
   ·have h:x % 8≠4:=by rw[←em];simpa using h
    rw[if_neg h] at hrs
    have C:=law_read_fieldA (w:=cx.w) (lo:=lo) (n:=n1) (end_:=end_) (at_:=pp) (lv:=lv) (num:=x / 8) (wire:=x % 8) hb hl (by exact lin (.h 1 (.t Y1 (.c 65536)) (.h 1 (.l Y0 Y1) (.G 1 (.t Y0 (.c 1048576))))) rfl [_,_] [] hl htr.2.2.2) (by exact lin (.h 1 (.L (.c 0) Z0) (.G 1 (.L (.c 0) Z0))) rfl [] [_] (Int.emod_nonneg _ (by decide))) (by exact lin (.h 1 (.T Z0 (.c 8)) (.G 1 (.T Z0 (.c 8)))) rfl [] [_] (Int.emod_lt_of_pos _ (by decide))) (law_read_groupA hl (by exact lin (.h 1 (.t Y1 (.c 65536)) (.h 1 (.l Y0 Y1) (.G 1 (.t Y0 (.c 1048576))))) rfl [_,_] [] hl htr.2.2.2) (by exact (Int.lt_or_gt_of_ne h).elim (fun e30=>(Nat.le_total _ _).elim (fun e21=>lin (.h 1 (.t Y2 (.a Y1 (.c 1))) (.h 1 (.t Y3 Y4) (.h 1 (.e (.a Y0 Y4) Y5) (.h 1 (.d (.a Y2 Y3) Y5) (.G 1 (.t Y0 Y1)))))) rfl [_,_,_,_,_,_] [] hn' htr.2.2.1 (sC (lin (.h 1 (.l Y0 Y1) (.G 1 (.l Y0 Y1))) rfl [_,_] [] e21)) (sC (lin (.h 1 (.t Y0 Y1) (.G 1 (.l Y0 Y1))) rfl [_,_] [] hcont))) (fun e21=>lin (.h 1 (.t Y2 (.a Y1 (.c 1))) (.h 1 (.t Y3 Y4) (.h 1 (.e Y0 (.c 0)) (.h 1 (.d (.a Y2 Y3) Y4) (.G 1 (.t Y0 Y1)))))) rfl [_,_,_,_,_] [] hn' hcont (Nat.sub_eq_zero_of_le (lin (.h 1 (.l Y0 Y1) (.G 1 (.l Y0 Y1))) rfl [_,_] [] e21)) (sC (lin (.h 1 (.t Y0 Y1) (.G 1 (.l Y0 Y1))) rfl [_,_] [] hcont)))) (fun e30=>(Nat.le_total _ _).elim (fun e21=>lin (.h 1 (.t Y2 (.a Y1 (.c 1))) (.h 1 (.t Y3 Y4) (.h 1 (.e (.a Y0 Y4) Y5) (.h 1 (.d (.a Y2 Y3) Y5) (.G 1 (.t Y0 Y1)))))) rfl [_,_,_,_,_,_] [] hn' htr.2.2.1 (sC (lin (.h 1 (.l Y0 Y1) (.G 1 (.l Y0 Y1))) rfl [_,_] [] e21)) (sC (lin (.h 1 (.t Y0 Y1) (.G 1 (.l Y0 Y1))) rfl [_,_] [] hcont))) (fun e21=>lin (.h 1 (.t Y2 (.a Y1 (.c 1))) (.h 1 (.t Y3 Y4) (.h 1 (.e Y0 (.c 0)) (.h 1 (.d (.a Y2 Y3) Y4) (.G 1 (.t Y0 Y1)))))) rfl [_,_,_,_,_] [] hn' hcont (Nat.sub_eq_zero_of_le (lin (.h 1 (.l Y0 Y1) (.G 1 (.l Y0 Y1))) rfl [_,_] [] e21)) (sC (lin (.h 1 (.t Y0 Y1) (.G 1 (.l Y0 Y1))) rfl [_,_] [] hcont))))) (by exact lin (.h 1 (.L (.c 0) Z1) (.h 1 (.D (.a (.r 8 Z0) Z2) Z1) (.h 1 (.T Z2 (.c 8)) (.G 8 (.L (.c 0) Z0))))) rfl [] [_,_,_] htr.1 (Int.mul_ediv_add_emod _ _) (Int.emod_lt_of_pos _ (by decide))) (by exact lin (.h 1 (.T Z1 (.c 18446744073709551616)) (.h 1 (.E (.a (.r 8 Z0) Z2) Z1) (.h 1 (.L (.c 0) Z2) (.G 8 (.T Z0 (.c 2305843009213693952)))))) rfl [] [_,_,_] htr.2.1 (Int.mul_ediv_add_emod _ _) (Int.emod_nonneg _ (by decide))) (ih n1 (by exact lin (.h 1 (.l (.a (.a Y0 (.c 1)) Y2) (.a Y1 (.c 1))) (.G 1 (.t Y0 (.a Y1 (.c 1))))) rfl [_,_,_] [] hlen) (by exact lin (.h 1 (.t (.a Y1 (.c 1)) (.c 262144)) (.h 1 (.l (.a (.a Y0 (.c 1)) Y2) (.a Y1 (.c 1))) (.G 1 (.t Y0 (.c 262144))))) rfl [_,_,_] [] hn2 hlen)))
    rw[←em,←ed] at C
    refine H_ifs X (os:=[]) rfl (fun _=> ?_) (fun h=>absurd h nofun)
    refine H_setK X rfl (f:=390) ⟨rfl,fun _=>rfl,fun _=>rfl,by decide⟩ (os:=[]) rfl C rm (by exact lin (.G 1 (.t (.a (.r 3 Y0) (.c 2)) (.a (.r 3 Y0) (.c 3)))) rfl [_] []) (LL.of hn1).il ?_
    rintro tl2 _ ⟨hF⟩
    rename_i fs2 a q2
    rw[em,ed] at hF
    refine ⟨rfl,H_nil ?_⟩
    cases eo:rcut end_ (rfld bs pp (x % 8) (if 100≤lv+1 then Except.error Flt.decode else rgrp (rset bs end_ n1 pp (lv+1)) bs (x / 8))) with
    |error f=>
     rw[eo] at hF hrs
     have hF':fs2=f.name:=hF
     subst hF'
     refine H_ifs X (os:=[]) rfl (fun h=> ?_) (fun h=>absurd h (by rw[name_ne'];nofun))
     exact H_retN X (os:=[]) rfl (fun _=>rfl) fun l r=>fin_tup (.mk (tl:=[]) (by rw[hset,hrs];rfl)) no_mem
    |ok vp2=>
     obtain ⟨dd,qq⟩:=vp2
     rw[eo] at hF hrs
     obtain ⟨rfl,rfl,hD⟩:=hF
     dsimp only at hrs
     have hq3:=(rcut_ok eo).1
     have hge:=row_ge hb (rcut_ok eo).2
     refine H_ifs X (os:=[]) rfl (fun h=>absurd h nofun) (fun h=>H_nil ?_)
     refine H_appA X rfl rfl (.head _) seq_list (GA_tup (GL_p X (os:=[]) rfl ⟨Nat.le_of_ble_eq_true rfl,fun r=> .mk (.tail .head) (seq_grow (by exact lin (.h 1 (.t (.a Y1 (.c 1)) (.c 262144)) (.h 1 (.l (.a (.a Y2 (.c 1)) Y0) (.a Y1 (.c 1))) (.G 1 (.l Y0 (.c 1048576))))) rfl [_,_,_] [] hn2 hlen)) ?_⟩))
     refine H_freeze (nx _) fun o ho=> ?_
     obtain ⟨u1,u2,V,rfl,hV⟩:=row_of (r:=r) ho hD
     rw[em,ed]
     refine H_nil (lp_nx (n1,qq,acc++[(x / 8,x % 8,dd)],vs++[.ref r],(r,tupO [.int (x / 8) u1,.int (x % 8) u2,V])::(tl2++tl)) ⟨.keep (.keep (.keep (.keep (.keep .nil)))),.refl _,fun p hp=>hp⟩ ⟨?_,?_,?_,?_,?_⟩ (Nat.lt_succ_self _))
     ·rw[hset,hrs,addRows_row]
     ·dsimp only;(exact lin (.h 1 (.t Y2 (.a Y1 (.c 1))) (.h 1 (.t Y3 Y4) (.h 1 (.l Y4 Y5) (.h 1 (.e (.a Y0 Y5) Y6) (.h 1 (.d (.a Y2 Y3) Y6) (.G 1 (.t Y0 Y1))))))) rfl [_,_,_,_,_,_,_] [] hn' htr.2.2.1 hge (sC (lin (.h 1 (.l Y0 Y1) (.G 1 (.l Y0 Y1))) rfl [_,_] [] hq3)) (sC (lin (.h 1 (.t Y0 Y1) (.G 1 (.l Y0 Y1))) rfl [_,_] [] hcont)))
     ·simp only[List.length_append,List.length_singleton];(exact lin (.h 1 (.l (.a (.a Y0 (.c 1)) Y1) (.a Y2 (.c 1))) (.G 1 (.l (.a Y0 (.a Y1 (.c 1))) (.a Y2 (.c 1))))) rfl [_,_,_] [] hlen)
     ·dsimp only;(exact lin (.h 1 (.t Y1 (.c 131072)) (.h 1 (.l Y0 Y1) (.G 1 (.t Y0 (.c 1048576))))) rfl [_,_] [] he hq3)
     ·exact (hacc.mono fun _ _ z=>z.mono (fun p h=> .tail _ (mR _ h)) fun _ _ y=>y.mono fun p h=> .tail _ (mR _ h)).append (.cons ⟨_,_,_,V,rfl,.head _,(hV.le (by exact lin (.h 1 (.l (.a (.a Y0 (.c 1)) Y2) (.a Y1 (.c 1))) (.G 1 (.l Y0 Y1))) rfl [_,_,_] [] hlen)).mono fun _ _ y=>y.mono fun p h=> .tail _ (mL _ h)⟩ .nil)
 ·have hstop:¬ at'<end_:=by have:=of_decide_eq_false h;(exact lin (.h 1 (.nT Y0 Y1) (.G 1 (.nt Y0 Y1))) rfl [_,_] [] this)
  rw[if_neg hstop] at hrs
  refine H_freeze (nx _) fun o ⟨k,ho⟩=> ?_
  subst ho
  refine H_retT X (os:=[]) rfl fun r=>fin_tup (.mk (tl:=(lr,listOf vs.toArray k)::tl) ?_) fun p hp=>hp
  rw[hset,hrs]
  refine ⟨rfl,rfl,rfl,vs,k,.head _,?_⟩
  rw[List.append_nil]
  exact hacc.mono fun _ _ z=>z.mono (fun p h=> .tail _ h) fun _ _ y=>y.mono fun p h=> .tail _ h
noncomputable def PartOk (ws bs ws':List Int):Prop:=(∀b∈bs,0≤b∧b<256)∧bs.length≤40∧(∀x∈ws',0≤x∧x≤536870911)∧ws'.length≤ws.length+1∧∃W,Wtd bs W∧W+3*ws'.length≤4+3*ws.length
theorem vint_len64 {v:Int} (h:v<2 ^ 64):(vint v).length≤10:=vint_len 9 v (Int.lt_trans h (by decide))
structure Oct (p:List Int) (c n:Nat):Prop where
 ne:p≠[]
 last:∀k,k+1=p.length→p.getD k 0<128
 rng:∀b∈p,0≤b∧b<256
 cn:cnt p=c
 len:p.length≤n
theorem Oct.vint {v:Int} (h0:0≤v) (h:v<2 ^ 64):Oct (vint v) 1 10:=by
 obtain ⟨h1,h2,_,h4⟩:=vint_shape _ (Nat.le_refl _) h0
 exact ⟨h1,h2,vint_bound _ (Nat.le_refl _) h0,h4,vint_len64 h⟩
theorem Oct.append {p q:List Int} {c d n k:Nat} (x:Oct p c n) (y:Oct q d k):Oct (p++q) (c+d) (n+k):=by
 have hq:0<q.length:=List.length_pos_iff.mpr y.ne
 have l1:=x.len
 have l2:=y.len
 refine ⟨by simp[x.ne],fun i hi=> ?_,fun b hb=>(List.mem_append.mp hb).elim (x.rng b) (y.rng b),by rw[cnt_append,x.cn,y.cn],by rw[List.length_append];(exact lin (.h 1 (.l Y0 Y2) (.h 1 (.l Y1 Y3) (.G 1 (.l (.a Y0 Y1) (.a Y2 Y3))))) rfl [_,_,_,_] [] l1 l2)⟩
 rw[List.length_append] at hi
 rw[List.getD_eq_getElem?_getD,List.getElem?_append_right (by exact lin (.h 1 (.t (.c 0) Y2) (.h 1 (.d (.a Y1 (.c 1)) (.a Y0 Y2)) (.G 1 (.l Y0 Y1)))) rfl [_,_,_] [] hq hi),←List.getD_eq_getElem?_getD]
 exact y.last _ (by exact Nat.le_antisymm (lin (.h 1 (.e (.a Y2 (.c 1)) (.a Y3 Y1)) (.h 1 (.e (.a Y0 Y3) Y2) (.G 1 (.l (.a Y0 (.c 1)) Y1)))) rfl [_,_,_,_] [] hi (sC (lin (.h 1 (.t (.c 0) Y2) (.h 1 (.d (.a Y1 (.c 1)) (.a Y0 Y2)) (.G 1 (.l Y0 Y1)))) rfl [_,_,_] [] hq hi))) (lin (.h 1 (.d (.a Y2 (.c 1)) (.a Y3 Y0)) (.h 1 (.d (.a Y1 Y3) Y2) (.G 1 (.l Y0 (.a Y1 (.c 1)))))) rfl [_,_,_,_] [] hi (sC (lin (.h 1 (.t (.c 0) Y2) (.h 1 (.d (.a Y1 (.c 1)) (.a Y0 Y2)) (.G 1 (.l Y0 Y1)))) rfl [_,_,_] [] hq hi))))
theorem Oct.one {x:Int} (h0:0≤x) (h1:x<128):Oct [x] 1 1:=by
 refine ⟨by simp,fun k hk=> ?_,fun b hb=> ?_,?_,by simp⟩
 ·simp at hk;subst hk;exact h1
 ·rw[List.mem_singleton.mp hb];(exact ⟨lin (.h 1 (.L (.c 0) Z0) (.G 1 (.L (.c 0) Z0))) rfl [] [_] h0,lin (.h 1 (.T Z0 (.c 128)) (.G 1 (.T Z0 (.c 256)))) rfl [] [_] h1⟩)
 ·show (if x<128 then 1 else 0)+0=1
  rw[if_pos h1]
theorem part_T {ws bs ws':List Int} {c n:Nat} (x:Oct bs c n) (hn:n≤40) (h1:∀x∈ws',0≤x∧x≤536870911) (h2:ws'.length≤ws.length+1) (h3:c+3*ws'.length≤4+3*ws.length):PartOk ws bs ws':=
 ⟨x.rng,Nat.le_trans x.len hn,h1,h2,c,wtd_T x.ne x.last (Nat.le_of_eq x.cn),h3⟩
theorem cnt_hi:∀{l:List Int},(∀x∈l,128≤x)→cnt l=0
 |[],_=>rfl
 |x::l,h=>by
  have h1:=h x (.head _)
  have h2:=cnt_hi (l:=l) fun y hy=>h y (.tail _ hy)
  unfold cnt at h2 ⊢
  show (if x<128 then 1 else 0)+wsum (l.map tw)=0
  rw[if_neg (by exact lin (.h 1 (.L (.c 128) Z0) (.G 1 (.nT Z0 (.c 128)))) rfl [] [_] h1),h2]
theorem pad_oct {val:List Int} {k1 k2 n:Nat} (hO:Oct val 1 10) (hs:∀i,i+1<val.length→128≤val.getD i 0) (h1:k1=val.length - 1) (h2:k2=val.length - 1) (hn:n≤4):
  Oct (val.take k1++[val.getD k2 0+128]++(List.replicate n [(128:Int)]).flatten++[0]) 1 16:=by
 subst h1;subst h2
 have h0:0<val.length:=List.length_pos_iff.mpr hO.ne
 have hl:=hO.len
 have hlast:=hO.last (val.length - 1) (by exact Nat.le_antisymm (lin (.h 1 (.e (.a Y0 (.c 1)) Y1) (.G 1 (.l (.a Y0 (.c 1)) Y1))) rfl [_,_] [] (sC (lin (.h 1 (.t (.c 0) Y0) (.G 1 (.l (.c 1) Y0))) rfl [_] [] h0))) (lin (.h 1 (.d (.a Y1 (.c 1)) Y0) (.G 1 (.l Y0 (.a Y1 (.c 1))))) rfl [_,_] [] (sC (lin (.h 1 (.t (.c 0) Y0) (.G 1 (.l (.c 1) Y0))) rfl [_] [] h0))))
 have hmem:val.getD (val.length - 1) 0∈val:=by
  rw[List.getD_eq_getElem?_getD,List.getElem?_eq_getElem (by exact lin (.h 1 (.e (.a Y0 (.c 1)) Y1) (.G 1 (.t Y0 Y1))) rfl [_,_] [] (sC (lin (.h 1 (.t (.c 0) Y0) (.G 1 (.l (.c 1) Y0))) rfl [_] [] h0)))];exact List.getElem_mem _
 have hr:=hO.rng _ hmem
 have hfl:∀k:Nat,(List.replicate k [(128:Int)]).flatten=List.replicate k 128:=fun k=>by induction k<;>simp_all [List.replicate_succ]
 have ht:∀x∈val.take (val.length - 1),128≤x∧x<256:=fun x hx=>by
  obtain ⟨i,hi,rfl⟩:=List.getElem_of_mem hx
  rw[List.length_take] at hi
  have:=hs i (by exact lin (.h 1 (.t Y0 Y2) (.h 1 (.l Y2 Y3) (.h 1 (.e (.a Y3 (.c 1)) Y1) (.G 1 (.t (.a Y0 (.c 1)) Y1))))) rfl [_,_,_,_] [] hi (Nat.min_le_left _ _) (sC (lin (.h 1 (.t (.c 0) Y0) (.G 1 (.l (.c 1) Y0))) rfl [_] [] h0)))
  rw[List.getD_eq_getElem?_getD,List.getElem?_eq_getElem (by exact lin (.h 1 (.t Y0 Y2) (.h 1 (.l Y2 Y1) (.G 1 (.t Y0 Y1)))) rfl [_,_,_] [] hi (Nat.min_le_right _ _))] at this
  rw[List.getElem_take]
  exact ⟨this,(hO.rng _ (List.getElem_mem _)).2⟩
 rw[hfl]
 have hhi:∀x∈val.take (val.length - 1)++[val.getD (val.length - 1) 0+128]++List.replicate n 128,128≤x∧x<256:=fun x hx=>by
  rcases List.mem_append.mp hx with hx|hx
  ·rcases List.mem_append.mp hx with hx|hx
   ·exact ht x hx
   ·rw[List.mem_singleton.mp hx];(exact ⟨lin (.h 1 (.L (.c 0) Z0) (.G 1 (.L (.c 128) (.a Z0 (.c 128))))) rfl [] [_] hr.1,lin (.h 1 (.T Z0 (.c 128)) (.G 1 (.T (.a Z0 (.c 128)) (.c 256)))) rfl [] [_] hlast⟩)
  ·rw[List.eq_of_mem_replicate hx];(exact ⟨lin (.G 1 (.L (.c 128) (.c 128))) rfl [] [],lin (.G 1 (.T (.c 128) (.c 256))) rfl [] []⟩)
 refine ⟨by simp,fun k hk=> ?_,fun b hb=> ?_,?_,?_⟩
 ·rw[List.length_append,List.length_singleton] at hk
  rw[List.getD_eq_getElem?_getD,List.getElem?_append_right (by exact lin (.h 1 (.d (.a Y1 (.c 1)) (.a Y0 (.c 1))) (.G 1 (.l Y0 Y1))) rfl [_,_] [] hk)]
  have h3:∀j:Nat,j=0→([0]:List Int)[j]?.getD 0<128:=by rintro _ rfl;decide
  exact h3 _ (by exact Nat.le_antisymm (lin (.h 1 (.e (.a Y1 (.c 1)) (.a Y2 (.c 1))) (.h 1 (.e (.a Y0 Y2) Y1) (.G 1 (.l Y0 (.c 0))))) rfl [_,_,_] [] hk (sC (lin (.h 1 (.d (.a Y1 (.c 1)) (.a Y0 (.c 1))) (.G 1 (.l Y0 Y1))) rfl [_,_] [] hk))) (lin (.G 1 (.l (.c 0) Y0)) rfl [_] []))
 ·rcases List.mem_append.mp hb with hb|hb
  ·have:=hhi b hb;(exact ⟨lin (.h 1 (.L (.c 128) Z0) (.G 1 (.L (.c 0) Z0))) rfl [] [_] this.1,lin (.h 1 (.T Z0 (.c 256)) (.G 1 (.T Z0 (.c 256)))) rfl [] [_] this.2⟩)
  ·rw[List.mem_singleton.mp hb];(exact ⟨lin (.G 1 (.L (.c 0) (.c 0))) rfl [] [],lin (.G 1 (.T (.c 0) (.c 256))) rfl [] []⟩)
 ·rw[cnt_append,cnt_hi fun x hx=>(hhi x hx).1];rfl
 ·simp only[List.length_append,List.length_take,List.length_replicate,List.length_singleton];(exact lin (.h 1 (.l Y1 (.c 4)) (.h 1 (.l Y2 (.c 10)) (.h 1 (.l Y0 Y2) (.G 1 (.l (.a (.a (.a Y0 (.c 1)) Y1) (.c 1)) (.c 16)))))) rfl [_,_,_] [] hn hl (Nat.min_le_right _ _))
theorem little_bound:∀(n:Nat) (v:Int),∀b∈little n v,0≤b∧b<256
 |0,_,b,h=>by cases h
 |n+1,v,b,h=>by
  rcases List.mem_cons.mp h with rfl|h
  ·exact ⟨lin (.h 1 (.L (.c 0) Z0) (.G 1 (.L (.c 0) Z0))) rfl [] [_] (Int.emod_nonneg _ (by decide)),lin (.h 1 (.T Z0 (.c 256)) (.G 1 (.T Z0 (.c 256)))) rfl [] [_] (Int.emod_lt_of_pos _ (by decide))⟩
  ·exact little_bound n _ b h
noncomputable abbrev Flds:List Int:=[1,2,3,15,16,2000,0,536870911]
theorem fld_range {x:Int} (h:x∈Flds):0≤x∧x≤536870911:=by
 simp only[Flds,List.mem_cons,List.not_mem_nil,or_false] at h
 exact ⟨(h).elim (fun e30=>lin (.h 1 (.D Z0 (.c 1)) (.G 1 (.L (.c 0) Z0))) rfl [] [_] e30) (fun e30=>(e30).elim (fun e31=>lin (.h 1 (.D Z0 (.c 2)) (.G 1 (.L (.c 0) Z0))) rfl [] [_] e31) (fun e31=>(e31).elim (fun e32=>lin (.h 1 (.D Z0 (.c 3)) (.G 1 (.L (.c 0) Z0))) rfl [] [_] e32) (fun e32=>(e32).elim (fun e33=>lin (.h 1 (.D Z0 (.c 15)) (.G 1 (.L (.c 0) Z0))) rfl [] [_] e33) (fun e33=>(e33).elim (fun e34=>lin (.h 1 (.D Z0 (.c 16)) (.G 1 (.L (.c 0) Z0))) rfl [] [_] e34) (fun e34=>(e34).elim (fun e35=>lin (.h 1 (.D Z0 (.c 2000)) (.G 1 (.L (.c 0) Z0))) rfl [] [_] e35) (fun e35=>(e35).elim (fun e36=>lin (.h 1 (.D Z0 (.c 0)) (.G 1 (.L (.c 0) Z0))) rfl [] [_] e36) (fun e36=>lin (.h 1 (.D Z0 (.c 536870911)) (.G 1 (.L (.c 0) Z0))) rfl [] [_] e36))))))),(h).elim (fun e30=>lin (.h 1 (.E Z0 (.c 1)) (.G 1 (.L Z0 (.c 536870911)))) rfl [] [_] e30) (fun e30=>(e30).elim (fun e31=>lin (.h 1 (.E Z0 (.c 2)) (.G 1 (.L Z0 (.c 536870911)))) rfl [] [_] e31) (fun e31=>(e31).elim (fun e32=>lin (.h 1 (.E Z0 (.c 3)) (.G 1 (.L Z0 (.c 536870911)))) rfl [] [_] e32) (fun e32=>(e32).elim (fun e33=>lin (.h 1 (.E Z0 (.c 15)) (.G 1 (.L Z0 (.c 536870911)))) rfl [] [_] e33) (fun e33=>(e33).elim (fun e34=>lin (.h 1 (.E Z0 (.c 16)) (.G 1 (.L Z0 (.c 536870911)))) rfl [] [_] e34) (fun e34=>(e34).elim (fun e35=>lin (.h 1 (.E Z0 (.c 2000)) (.G 1 (.L Z0 (.c 536870911)))) rfl [] [_] e35) (fun e35=>(e35).elim (fun e36=>lin (.h 1 (.E Z0 (.c 0)) (.G 1 (.L Z0 (.c 536870911)))) rfl [] [_] e36) (fun e36=>lin (.h 1 (.E Z0 (.c 536870911)) (.G 1 (.L Z0 (.c 536870911)))) rfl [] [_] e36)))))))⟩
theorem fld_tag {x:Int} (h:x∈Flds):∀i,i<(vint (x*8+1)).length→(vint (x*8+1)).getD i 0 % 8=1∨(vint (x*8+1)).getD i 0 % 8=5∨(vint (x*8+1)).getD i 0 % 8=7:=by
 have e:∀v:Int,vint v=if 127<v then (v % 128+128)::vint (v / 128) else [v]:=fun v=>by
  rw[vint];split<;>rfl
 simp only[Flds,List.mem_cons,List.not_mem_nil,or_false] at h
 rcases h with rfl|rfl|rfl|rfl|rfl|rfl|rfl|rfl
 all_goals
  rw[e]
  try (rw[if_pos (by decide),e])
  try (rw[if_pos (by decide),e])
  try (rw[if_pos (by decide),e])
  try (rw[if_pos (by decide),e])
  rw[if_neg (by decide)]
  intro i hi
  simp only[List.length_cons,List.length_nil] at hi
  match i,hi with
  |0,_=>decide
  |1,_=>first|decide|(exfalso;(exact lin (.h 1 (.t (.c 1) (.a (.c 0) (.c 1))) .F) rfl [] [] ‹_›))
  |2,_=>first|decide|(exfalso;(first|exact lin (.h 1 (.t (.c 2) (.a (.c 0) (.c 1))) .F) rfl [] [] ‹_›|exact lin (.h 1 (.t (.c 2) (.a (.a (.c 0) (.c 1)) (.c 1))) .F) rfl [] [] ‹_›))
  |3,_=>first|decide|(exfalso;(first|exact lin (.h 1 (.t (.c 3) (.a (.c 0) (.c 1))) .F) rfl [] [] ‹_›|exact lin (.h 1 (.t (.c 3) (.a (.a (.c 0) (.c 1)) (.c 1))) .F) rfl [] [] ‹_›))
  |4,_=>first|decide|(exfalso;(first|exact lin (.h 1 (.t (.c 4) (.a (.c 0) (.c 1))) .F) rfl [] [] ‹_›|exact lin (.h 1 (.t (.c 4) (.a (.a (.c 0) (.c 1)) (.c 1))) .F) rfl [] [] ‹_›))
  |i+5,h=>exfalso;(first|exact lin (.h 1 (.t (.a Y0 (.c 5)) (.a (.c 0) (.c 1))) .F) rfl [_] [] h|exact lin (.h 1 (.t (.a Y0 (.c 5)) (.a (.a (.c 0) (.c 1)) (.c 1))) .F) rfl [_] [] h|exact lin (.h 1 (.t (.a Y0 (.c 5)) (.a (.a (.a (.a (.a (.c 0) (.c 1)) (.c 1)) (.c 1)) (.c 1)) (.c 1))) .F) rfl [_] [] h)
theorem part_B {ws:List Int} {x left:Int} (h:x∈Flds) (h1:∀x∈ws,0≤x∧x≤536870911):PartOk ws (vint (x*8+1)++little 8 left) ws:=by
 have hr:=fld_range h
 obtain ⟨_,_,h3,_⟩:=vint_shape _ (Nat.le_refl _) (show 0≤x*8+1 by exact lin (.h 8 (.L (.c 0) Z0) (.G 1 (.L (.c 0) (.a (.m Z0 8) (.c 1))))) rfl [] [_] hr.1)
 have hv:=Oct.vint (v:=x*8+1) (by exact lin (.h 8 (.L (.c 0) Z0) (.G 1 (.L (.c 0) (.a (.m Z0 8) (.c 1))))) rfl [] [_] hr.1) (by exact lin (.h 8 (.L Z0 (.c 536870911)) (.G 1 (.T (.a (.m Z0 8) (.c 1)) (.c 18446744073709551616)))) rfl [] [_] hr.2)
 have hl:=hv.len
 refine ⟨fun b hb=>(List.mem_append.mp hb).elim (hv.rng b) (little_bound _ _ b),by rw[List.length_append,little_length];(exact lin (.h 1 (.l Y0 (.c 10)) (.G 1 (.l (.a Y0 (.c 8)) (.c 40)))) rfl [_] [] hl),h1,by exact lin (.G 1 (.l Y0 (.a Y0 (.c 1)))) rfl [_] [],4,wtd_B (little_length _ _) h3 (fld_tag h) (Nat.le_refl _),by exact lin (.G 1 (.l (.a (.c 4) (.r 3 Y0)) (.a (.c 4) (.r 3 Y0)))) rfl [_] []⟩
theorem part_CD {ws a b:List Int} {n:Nat} (x:Oct a 1 n) (hn:n≤30) (hb0:b≠[]) (hb:b.length≤5) (hbr:∀y∈b,0≤y∧y<256) (h1:∀x∈ws,0≤x∧x≤536870911):PartOk ws (a++b) ws:=by
 have hl:=x.len
 refine ⟨fun y hy=>(List.mem_append.mp hy).elim (x.rng y) (hbr y),by rw[List.length_append];(exact lin (.h 1 (.l Y2 (.c 30)) (.h 1 (.l Y1 (.c 5)) (.h 1 (.l Y0 Y2) (.G 1 (.l (.a Y0 Y1) (.c 40)))))) rfl [_,_,_] [] hn hb hl),h1,by exact lin (.G 1 (.l Y0 (.a Y0 (.c 1)))) rfl [_] [],4,wtd_CD x.last hb0 (by rw[x.cn];(exact lin (.h 1 (.l Y1 (.c 5)) (.h 1 (.e (.a (.r 2 Y0) Y2) (.a Y1 (.c 1))) (.G 2 (.l (.a (.c 1) Y0) (.c 4))))) rfl [_,_,_] [] hb (Nat.div_add_mod _ _))),by exact lin (.G 1 (.l (.a (.c 4) (.r 3 Y0)) (.a (.c 4) (.r 3 Y0)))) rfl [_] []⟩
theorem part_one {ws:List Int} {x:Int} (h0:0≤x) (h2:x<256) (h1:∀x∈ws,0≤x∧x≤536870911):PartOk ws [x] ws:=
 ⟨fun b hb=>by rw[List.mem_singleton.mp hb];exact ⟨h0,h2⟩,by simp,h1,by exact lin (.G 1 (.l Y0 (.a Y0 (.c 1)))) rfl [_] [],4,wtd_one x (by decide),by exact lin (.G 1 (.l (.a (.c 4) (.r 3 Y0)) (.a (.c 4) (.r 3 Y0)))) rfl [_] []⟩
theorem vint_small {v:Int} (h:v≤127):vint v=[v]:=by
 rw[vint];exact dif_neg (by exact lin (.h 1 (.L Z0 (.c 127)) (.G 1 (.nT (.c 127) Z0))) rfl [] [_] h)
theorem lastD_mem:∀{l:List Int},0<l.length→l.getLastD 0∈l
 |[_],_=> .head _
 |_::y::l,_=> .tail _ (lastD_mem (l:=y::l) (Nat.succ_pos _))
theorem fld_ok (k:Nat):([1,2,3,15,16,2000,0,536870911]:List Int).getD k 0∈([1,2,3,15,16,2000,0,536870911]:List Int):=by
 match k with
 |0=>decide
 |1=>decide
 |2=>decide
 |3=>decide
 |4=>decide
 |5=>decide
 |6=>decide
 |7=>decide
 |k+8=>simp
theorem mod_bd {x:Int} {k:Int} (h:0<k):0≤x.fmod k∧x.fmod k<k:=⟨Int.fmod_nonneg_of_pos _ h,Int.fmod_lt_of_pos _ h⟩
theorem rep_len {n:Nat} {x:Int}:(List.replicate n [x]).flatten.length=n:=by
 induction n with
 |zero=>rfl
 |succ n ih=>rw[List.replicate_succ,List.flatten_cons,List.length_append,ih];show 1+n=n+1;(exact Nat.le_antisymm (lin (.G 1 (.l (.a (.c 1) Y0) (.a Y0 (.c 1)))) rfl [_] []) (lin (.G 1 (.l (.a Y0 (.c 1)) (.a (.c 1) Y0))) rfl [_] []))
theorem size_bd {a l:Int} {rough:Bool} (h:0≤a∧a<5):0≤(bif rough then a else if (if l<a then l else a)>0 then (if l<a then l else a) else 0)∧(bif rough then a else if (if l<a then l else a)>0 then (if l<a then l else a) else 0)≤4:=by
 cases rough
 ·simp only[cond_false]
  split
  ·split at* <;>(first|exact ⟨lin (.h 1 (.T (.c 0) Z0) (.G 1 (.L (.c 0) Z0))) rfl [] [_] ‹_›,lin (.h 1 (.T Z1 (.c 5)) (.h 1 (.T Z0 Z1) (.G 1 (.L Z0 (.c 4))))) rfl [] [_,_] h.2 ‹_›⟩|exact ⟨lin (.G 1 (.L (.c 0) (.c 0))) rfl [] [],lin (.G 1 (.L (.c 0) (.c 4))) rfl [] []⟩)
  ·omega
 ·simp only[cond_true];(exact ⟨lin (.h 1 (.L (.c 0) Z0) (.G 1 (.L (.c 0) Z0))) rfl [] [_] h.1,lin (.h 1 (.T Z0 (.c 5)) (.G 1 (.L Z0 (.c 4)))) rfl [] [_] h.2⟩)
theorem law_partA {w:World} {num:Int} {ws:List Int} {lw:Addr} {rough:Bool} (hws:∀x∈ws,0≤x∧x≤536870911) (hwl:ws.length<64):KX w 2 357 [.i num,.v (.ref lw),.v (.bool rough)] lw ws (LwR lw (PartOk ws)):=by
 refine KZ_enter (d:=dPa) (body:=bPa) dPa_ok (fun _=>rfl) (fun _=>rfl) (fun s=>lenS fun a=>lenS fun b=>lenS fun c=>lenZ (BindsTo.of_eq rfl)) rfl rfl (by decide) (Nat.succ_pos _) ?_
 intro cx X hw hx rm _ _
 subst hw
 have gv:Gv dPa "_law_varint" 343:=⟨rfl,fun _=>rfl,fun _=>rfl,by decide⟩
 have gl:Gv dPa "_law_little" 350:=⟨rfl,fun _=>rfl,fun _=>rfl,by decide⟩
 have tr:∀{σ:St} (bs:Led) (kp:Kp),Bs σ.ab bs→True:=fun _ _ _=>trivial
 unfold bPa
 refine H_set X (GA_p X (os:=[]) rfl ?_)
 have h12:=mod_bd (x:=num) (show (0:Int)<12 by decide)
 refine H_join (fun (how:Int)=>⟨[some (.i num),some (.v (.ref lw)),some (.v (.bool rough)),some (.i how)],[(lw,intsP ws)],[]⟩) (fun how=>0≤how∧how<12∧(rough=false→how<9)) ?_ ?_
 ·refine HS_ifs X (os:=[]) rfl (fun h=> ?_) (fun h=> ?_)
  ·obtain ⟨h1,h2⟩:=Bool.and_eq_true_iff.mp h
   have h2:=of_decide_eq_true h2
   have hg:∀k:Nat,0≤[(8:Int),4,1].getD k 0∧[(8:Int),4,1].getD k 0<9:=fun k=>by
    match k with
    |0=>decide
    |1=>decide
    |2=>decide
    |k+3=>simp
   exact H_set X (GA_itemL X (os:=[]) rfl rfl (fun _=>rfl) (by exact lin (.h 1 (.T (.c 8) Z0) (.G 1 (.L (.c 0) (.s Z0 (.c 9))))) rfl [] [_] h2) (by show num.fmod 12 - 9<3;(exact lin (.h 1 (.T Z0 (.c 12)) (.G 1 (.T (.s Z0 (.c 9)) (.c 3)))) rfl [] [_] h12.2)) fun r=>H_nil (md_nx _ ⟨.keep (.keep (.keep (.keep .nil))),.cons _ (.refl _),no_mem⟩ ⟨(hg _).1,Int.lt_trans (hg _).2 (by decide),fun _=>(hg _).2⟩))
  ·refine H_nil (md_nx (num.fmod 12) ⟨.keep (.keep (.keep (.keep .nil))),.refl _,no_mem⟩ ⟨h12.1,h12.2,fun e=> ?_⟩)
   rcases Bool.and_eq_false_iff.mp h with h|h
   ·rw[e] at h;cases h
   ·have:=of_decide_eq_false h;(exact lin (.h 1 (.nT (.c 8) Z0) (.G 1 (.T Z0 (.c 9)))) rfl [] [_] this)
 ·rintro how ⟨hh0,hh1,hh2⟩
  refine H_set X (GA_p X (os:=[]) rfl ?_)
  have h8:=mod_bd (x:=num.fdiv 12) (show (0:Int)<8 by decide)
  refine H_set X (GA_itemL X (os:=[]) rfl rfl (fun _=>rfl) h8.1 (by show (num.fdiv 12).fmod 8<8;omega) fun r=> ?_)
  refine H_set X (GA_p X (os:=[]) rfl ?_)
  have hf:=fld_ok ((num.fdiv 12).fmod 8).toNat
  obtain ⟨fld,hfe⟩:∃fld,([1,2,3,15,16,2000,0,536870911]:List Int).getD ((num.fdiv 12).fmod 8).toNat 0=fld:=⟨_,rfl⟩
  rw[hfe] at hf ⊢
  have hfr:=fld_range hf
  have hmo:∀k:Int,IntMulOk fld k:=fun k=>IntMulOk.of_left (intBits_le_64 (by exact lin (.h 1 (.L (.c 0) Z0) (.G 1 (.T (.n (.c 18446744073709551616)) Z0))) rfl [] [_] hfr.1) (by exact lin (.h 1 (.L Z0 (.c 536870911)) (.G 1 (.T Z0 (.c 18446744073709551616)))) rfl [] [_] hfr.2))
  generalize (num.fdiv 12).fdiv 8=left
  refine H_le (σ':=⟨[some (.i num),some (.v (.ref lw)),some (.v (.bool rough)),some (.i how),some (.i left),some (.i fld)],[(lw,intsP ws)],[]⟩) ?_ ⟨.keep (.keep (.keep (.keep (.keep (.keep .nil))))),.cons _ (.refl _),no_mem⟩
  refine H_ifs X (os:=[]) rfl (fun h=> ?_) (fun h=>H_nil ?_)
  ·refine H_set X (GA_konL X gv (os:=[]) rfl (law_varintA (v:=left.fmod 18446744073709551616) (mod_bd (by decide)).1 (Int.lt_trans (mod_bd (by decide)).2 (by decide))) rm (by decide) tr fun l1=> ?_)
   have h64:=mod_bd (x:=left) (show (0:Int)<18446744073709551616 by decide)
   have hO:=Oct.vint (v:=left.fmod 18446744073709551616) h64.1 h64.2
   have hsh:=(vint_shape _ (Nat.le_refl _) h64.1).2.2.1
   generalize vint (left.fmod 18446744073709551616)=val at hO hsh
   have hlen:=hO.len
   have hlen0:0<val.length:=List.length_pos_iff.mpr hO.ne
   refine H_join (fun (y:Addr×List Int)=>⟨[some (.i num),some (.v (.ref lw)),some (.v (.bool rough)),some (.i how),some (.i left),some (.i fld),some (.v (.ref y.1))],[(y.1,intsP y.2),(lw,intsP ws)],[]⟩) (fun y=>Oct y.2 1 16) ?_ ?_
   ·refine HS_ifs X (os:=[.l val]) rfl (fun h=> ?_) (fun h=> ?_) (by exact fun _ _ _=>⟨.inl (.head _),by exact lin (.h 1 (.l Y0 (.c 10)) (.G 1 (.t Y0 (.c 1099511627776)))) rfl [_] [] hlen⟩)
    ·have hm5:=mod_bd (x:=left) (show (0:Int)<5 by decide)
     refine H_set X (GA_p X (os:=[.l val]) rfl ?_ (by exact fun _=>⟨.inl (.head _),by exact lin (.h 1 (.l Y0 (.c 10)) (.G 1 (.t Y0 (.c 1099511627776)))) rfl [_] [] hlen⟩))
     obtain ⟨sz,hsz⟩:∃sz,sz=(bif rough then left.fmod 5 else if (if 8 - (val.length:Int)<left.fmod 5 then 8 - (val.length:Int) else left.fmod 5)>0 then (if 8 - (val.length:Int)<left.fmod 5 then 8 - (val.length:Int) else left.fmod 5) else 0):=⟨_,rfl⟩
     have hs2:0≤sz∧sz≤4:=hsz▸size_bd hm5
     rw[←hsz]
     have hne:=hO.ne
     refine H_set X (GA_add (GA_add (GA_add (GA_init X rfl rfl (.inl (.head _)) hlen0 (by exact lin (.h 1 (.l Y0 (.c 10)) (.G 1 (.t Y0 (.c 1048576)))) rfl [_] [] hlen) fun I1=>GA_intsp X (os:=[.z val]) rfl rfl (fun r1=> .mk (.inl (.tail _ (.head _))) (.inl (.head _)) (by rw[List.length_dropLast];show _+1<_;(exact lin (.h 1 (.l Y1 (.c 10)) (.h 1 (.e (.a Y0 (.c 1)) Y1) (.G 1 (.t (.a Y0 (.c 1)) (.c 1048576))))) rfl [_,_] [] hlen (sC (lin (.h 1 (.t (.c 0) Y0) (.G 1 (.l (.c 1) Y0))) rfl [_] [] hlen0)))) fun D1=>GA_mul (GA_intsp X (os:=[]) rfl rfl fun r2=>GA_p X (os:=[]) rfl (.mk (.inl (.head _)) hs2.1 (by exact lin (.h 1 (.L Z0 (.c 4)) (.G 1 (.T Z0 (.c 1048576)))) rfl [] [_] hs2.2) (Nat.le_refl 1) fun D2=> .mk (.inl (.tail _ (.tail _ (.head _)))) (.inl (.head _)) ?_ fun D3=>GA_intsp X (os:=[]) rfl rfl fun r3=> .mk (.inl (.tail _ (.head _))) (.inl (.head _)) ?_ fun D=> ?_))) (by exact ⟨.inl (.tail _ (.head _)),by decide,by exact lin (.h 1 (.t (.c 0) Y0) (.G 1 (.L (.n Y0) (.n (.c 1))))) rfl [_] [] hlen0,by exact lin (.h 1 (.l Y0 (.c 10)) (.G 1 (.t Y0 (.c 1099511627776)))) rfl [_] [] hlen⟩)))))
     ·rw[List.length_append,List.length_dropLast,rep_len];show _+1+_<_;(exact lin (.h 1 (.l Y2 (.c 10)) (.h 1 (.L Z0 (.c 4)) (.h 1 (.e (.a Y0 (.c 1)) Y2) (.h 1 (.E Y1 Z0) (.G 1 (.t (.a (.a Y0 (.c 1)) Y1) (.c 1048576))))))) rfl [_,_,_] [_] hlen hs2.2 (sC (lin (.h 1 (.t (.c 0) Y0) (.G 1 (.l (.c 1) Y0))) rfl [_] [] hlen0)) (Int.toNat_of_nonneg (lin (.h 1 (.L (.c 0) Z0) (.G 1 (.L (.c 0) Z0))) rfl [] [_] hs2.1)))
     ·rw[List.length_append,List.length_append,List.length_dropLast,rep_len];show _+1+_+1<_;(exact lin (.h 1 (.l Y2 (.c 10)) (.h 1 (.L Z0 (.c 4)) (.h 1 (.e (.a Y0 (.c 1)) Y2) (.h 1 (.E Y1 Z0) (.G 1 (.t (.a (.a (.a Y0 (.c 1)) Y1) (.c 1)) (.c 1048576))))))) rfl [_,_,_] [_] hlen hs2.2 (sC (lin (.h 1 (.t (.c 0) Y0) (.G 1 (.l (.c 1) Y0))) rfl [_] [] hlen0)) (Int.toNat_of_nonneg (lin (.h 1 (.L (.c 0) Z0) (.G 1 (.L (.c 0) Z0))) rfl [] [_] hs2.1)))
     ·refine H_nil (md_nx (D,_) ⟨.keep (.keep (.keep (.keep (.keep (.keep (.keep .nil)))))),.cons_cons _ (.cons _ (.cons _ (.cons _ (.cons _ (.cons _ (.cons _ (.cons _ (.cons _ (.refl _))))))))),no_mem⟩ ?_)
      have:=pad_oct hO hsh (k1:=val.length - 1) (k2:=(-1+(val.length:Int)).toNat) (n:=sz.toNat) rfl (by exact Nat.le_antisymm (lin (.h 1 (.E Y0 (.a (.n (.c 1)) Y2)) (.h 1 (.d (.a Y1 (.c 1)) Y2) (.G 1 (.l Y0 Y1)))) rfl [_,_,_] [] (Int.toNat_of_nonneg (lin (.h 1 (.t (.c 0) Y0) (.G 1 (.L (.c 0) (.a (.n (.c 1)) Y0)))) rfl [_] [] hlen0)) (sC (lin (.h 1 (.t (.c 0) Y0) (.G 1 (.l (.c 1) Y0))) rfl [_] [] hlen0))) (lin (.h 1 (.e (.a Y0 (.c 1)) Y2) (.h 1 (.D Y1 (.a (.n (.c 1)) Y2)) (.G 1 (.l Y0 Y1)))) rfl [_,_,_] [] (sC (lin (.h 1 (.t (.c 0) Y0) (.G 1 (.l (.c 1) Y0))) rfl [_] [] hlen0)) (Int.toNat_of_nonneg (lin (.h 1 (.t (.c 0) Y0) (.G 1 (.L (.c 0) (.a (.n (.c 1)) Y0)))) rfl [_] [] hlen0)))) (by exact lin (.h 1 (.L Z0 (.c 4)) (.h 1 (.E Y0 Z0) (.G 1 (.l Y0 (.c 4))))) rfl [_] [_] hs2.2 (Int.toNat_of_nonneg (lin (.h 1 (.L (.c 0) Z0) (.G 1 (.L (.c 0) Z0))) rfl [] [_] hs2.1)))
      rw[←List.dropLast_eq_take] at this
      exact this
    ·exact H_nil (md_nx (l1,val) ⟨.keep (.keep (.keep (.keep (.keep (.keep (.keep .nil)))))),.refl _,no_mem⟩ ⟨hO.ne,hO.last,hO.rng,hO.cn,by exact lin (.h 1 (.l Y0 (.c 10)) (.G 1 (.l Y0 (.c 16)))) rfl [_] [] hlen⟩)
   ·rintro ⟨lv,val'⟩ hO9
    have hln9:=hO9.len
    have hO5:=Oct.vint (v:=fld*8) (by exact lin (.h 8 (.L (.c 0) Z0) (.G 1 (.L (.c 0) (.m Z0 8)))) rfl [] [_] hfr.1) (by exact lin (.h 8 (.L Z0 (.c 536870911)) (.G 1 (.T (.m Z0 8) (.c 18446744073709551616)))) rfl [] [_] hfr.2)
    have hl5:=hO5.len
    exact H_retA (GA_add (GA_konL X gv (os:=[]) rfl (law_varintA (v:=fld*8) (by exact lin (.h 8 (.L (.c 0) Z0) (.G 1 (.L (.c 0) (.m Z0 8)))) rfl [] [_] hfr.1) (by exact lin (.h 8 (.L Z0 (.c 536870911)) (.G 1 (.T (.m Z0 8) (.c 1180591620717411303424)))) rfl [] [_] hfr.2)) rm (by decide) tr (fun l=>GA_p X (os:=[]) rfl (.mk (.inl (.head _)) (.inl (.tail _ (.head _))) (by exact lin (.h 1 (.l Y1 (.c 16)) (.h 1 (.l Y0 (.c 10)) (.G 1 (.t (.a Y0 Y1) (.c 1048576))))) rfl [_,_] [] hln9 hl5) fun D=>sq_rt (finX_list (.tail _ (.tail _ (.head _))) (part_T (hO5.append hO9) (by decide) hws (by exact lin (.G 1 (.l Y0 (.a Y0 (.c 1)))) rfl [_] []) (by exact lin (.G 1 (.l (.a (.a (.c 1) (.c 1)) (.r 3 Y0)) (.a (.c 4) (.r 3 Y0)))) rfl [_] []))))) (by exact hmo _)))
  have hA:=of_decide_eq_false h
  refine H_ifs X (os:=[]) rfl (fun h=> ?_) (fun h=>H_nil ?_)
  ·have hO:=Oct.vint (v:=fld*8+1) (by exact lin (.h 8 (.L (.c 0) Z0) (.G 1 (.L (.c 0) (.a (.m Z0 8) (.c 1))))) rfl [] [_] hfr.1) (by exact lin (.h 8 (.L Z0 (.c 536870911)) (.G 1 (.T (.a (.m Z0 8) (.c 1)) (.c 18446744073709551616)))) rfl [] [_] hfr.2)
   have hl:=hO.len
   exact H_retA (GA_add (GA_konL X gv (os:=[]) rfl (law_varintA (v:=fld*8+1) (by exact lin (.h 8 (.L (.c 0) Z0) (.G 1 (.L (.c 0) (.a (.m Z0 8) (.c 1))))) rfl [] [_] hfr.1) (by exact lin (.h 8 (.L Z0 (.c 536870911)) (.G 1 (.T (.a (.m Z0 8) (.c 1)) (.c 1180591620717411303424)))) rfl [] [_] hfr.2)) rm (by decide) tr (fun l=>GA_konL X gl (os:=[]) rfl (law_littleA (n:=8) (by decide)) rm (by decide) tr (fun l2=> .mk (.inl (.tail _ (.head _))) (.inl (.head _)) (by rw[little_length];(exact lin (.h 1 (.l Y0 (.c 10)) (.G 1 (.t (.a Y0 (.c 8)) (.c 1048576)))) rfl [_] [] hl)) fun D=>sq_rt (finX_list (.tail _ (.tail _ (.head _))) (part_B hf hws)))) (by exact hmo _)))
  refine H_ifs X (os:=[]) rfl (fun h=> ?_) (fun h=>H_nil ?_)
  ·have hO:=Oct.vint (v:=fld*8+5) (by exact lin (.h 8 (.L (.c 0) Z0) (.G 1 (.L (.c 0) (.a (.m Z0 8) (.c 5))))) rfl [] [_] hfr.1) (by exact lin (.h 8 (.L Z0 (.c 536870911)) (.G 1 (.T (.a (.m Z0 8) (.c 5)) (.c 18446744073709551616)))) rfl [] [_] hfr.2)
   have hl:=hO.len
   have h4:=little_length 4 left
   exact H_retA (GA_add (GA_konL X gv (os:=[]) rfl (law_varintA (v:=fld*8+5) (by exact lin (.h 8 (.L (.c 0) Z0) (.G 1 (.L (.c 0) (.a (.m Z0 8) (.c 5))))) rfl [] [_] hfr.1) (by exact lin (.h 8 (.L Z0 (.c 536870911)) (.G 1 (.T (.a (.m Z0 8) (.c 5)) (.c 1180591620717411303424)))) rfl [] [_] hfr.2)) rm (by decide) tr (fun l=>GA_konL X gl (os:=[]) rfl (law_littleA (n:=4) (by decide)) rm (by decide) tr (fun l2=> .mk (.inl (.tail _ (.head _))) (.inl (.head _)) (by exact lin (.h 1 (.l Y0 (.c 10)) (.h 1 (.e Y1 (.c 4)) (.G 1 (.t (.a Y0 Y1) (.c 1048576))))) rfl [_,_] [] hl h4) fun D=>sq_rt (finX_list (.tail _ (.tail _ (.head _))) (part_CD hO (by decide) (by intro e;rw[e] at h4;cases h4) (by omega) (little_bound _ _) hws)))) (by exact hmo _)))
  refine H_ifs X (os:=[]) rfl (fun h=> ?_) (fun h=>H_nil ?_)
  ·have hm5:=mod_bd (x:=left) (show (0:Int)<5 by decide)
   obtain ⟨k5,hk5⟩:=Int.eq_ofNat_of_zero_le hm5.1
   have h5:=little_length k5 (left.fdiv 5)
   have C:=law_littleA (w:=cx.w) (v:=left.fdiv 5) (n:=k5) (by exact lin (.h 1 (.T Z0 (.c 5)) (.h 1 (.D Z0 Y0) (.G 1 (.l Y0 (.c 8))))) rfl [_] [_] hm5.2 hk5)
   rw[show (k5:Int)=left.fmod 5 from hk5.symm] at C
   have hO:=Oct.vint (v:=fld*8+2) (by exact lin (.h 8 (.L (.c 0) Z0) (.G 1 (.L (.c 0) (.a (.m Z0 8) (.c 2))))) rfl [] [_] hfr.1) (by exact lin (.h 8 (.L Z0 (.c 536870911)) (.G 1 (.T (.a (.m Z0 8) (.c 2)) (.c 18446744073709551616)))) rfl [] [_] hfr.2)
   have hl:=hO.len
   refine H_set X (GA_konL X gl (os:=[]) rfl C rm (by decide) tr fun l3=> ?_)
   obtain ⟨q,hqe⟩:∃q,q=(if (rough && left.fmod 7==5)=true then (1:Int) else 0):=⟨_,rfl⟩
   have hq:0≤q∧q≤1:=by rw[hqe];split<;>(first|exact ⟨lin (.G 1 (.L (.c 0) (.c 1))) rfl [] [],lin (.G 1 (.L (.c 1) (.c 1))) rfl [] []⟩|exact ⟨lin (.G 1 (.L (.c 0) (.c 0))) rfl [] [],lin (.G 1 (.L (.c 0) (.c 1))) rfl [] []⟩)
   have hO4:=Oct.vint (v:=((little k5 (left.fdiv 5)).length:Int)+q) (by exact lin (.h 1 (.L (.c 0) Z0) (.G 1 (.L (.c 0) (.a Y0 Z0)))) rfl [_] [_] hq.1) (by exact lin (.h 1 (.T Z1 (.c 5)) (.h 1 (.D Z1 Y1) (.h 1 (.e Y0 Y1) (.h 1 (.L Z0 (.c 1)) (.G 1 (.T (.a Y0 Z0) (.c 18446744073709551616))))))) rfl [_,_] [_,_] hm5.2 hk5 h5 hq.2)
   have hone:=vint_small (v:=((little k5 (left.fdiv 5)).length:Int)+q) (by exact lin (.h 1 (.T Z1 (.c 5)) (.h 1 (.D Z1 Y1) (.h 1 (.e Y0 Y1) (.h 1 (.L Z0 (.c 1)) (.G 1 (.L (.a Y0 Z0) (.c 127))))))) rfl [_,_] [_,_] hm5.2 hk5 h5 hq.2)
   refine H_retA (GA_add (GA_add (GA_konL X gv (os:=[]) rfl (law_varintA (v:=fld*8+2) (by exact lin (.h 8 (.L (.c 0) Z0) (.G 1 (.L (.c 0) (.a (.m Z0 8) (.c 2))))) rfl [] [_] hfr.1) (by exact lin (.h 8 (.L Z0 (.c 536870911)) (.G 1 (.T (.a (.m Z0 8) (.c 2)) (.c 1180591620717411303424)))) rfl [] [_] hfr.2)) rm (by decide) tr (fun l=> ?_) (by exact hmo _))))
   refine GA_callL (k:=1) X gv rm (by decide) (GL_cons (GA_bin (GA_p X (os:=[.l (little k5 (left.fdiv 5))]) rfl (GA_int X rfl (GA_and X (os:=[]) rfl rfl (.mk ?_))) (by exact ⟨.inl (.tail _ (.head _)),by exact lin (.h 1 (.T Z0 (.c 5)) (.h 1 (.D Z0 Y1) (.h 1 (.e Y0 Y1) (.G 1 (.t Y0 (.c 1099511627776)))))) rfl [_,_] [_] hm5.2 hk5 h5⟩))))
   refine .mk (z:= .i (((little k5 (left.fdiv 5)).length:Int)+if (rough && left.fmod 7==5)=true then (1:Int) else 0)) (ob:=[]) rfl trivial ?_
   rw[←hqe]
   refine GL_nil (.mk (need:=fun _=>True) (law_varintA (v:=((little k5 (left.fdiv 5)).length:Int)+q) (by exact lin (.h 1 (.L (.c 0) Z0) (.G 1 (.L (.c 0) (.a Y0 Z0)))) rfl [_] [_] hq.1) (by exact lin (.h 1 (.T Z1 (.c 5)) (.h 1 (.D Z1 Y1) (.h 1 (.e Y0 Y1) (.h 1 (.L Z0 (.c 1)) (.G 1 (.T (.a Y0 Z0) (.c 1180591620717411303424))))))) rfl [_,_] [_,_] hm5.2 hk5 h5 hq.2)) tr fun l4=> ?_)
   refine .mk (.inl (.tail _ (.head _))) (.inl (.head _)) (by rw[hone];show _+1<_;(exact lin (.h 1 (.l Y0 (.c 10)) (.G 1 (.t (.a Y0 (.c 1)) (.c 1048576)))) rfl [_] [] hl)) fun D1=> ?_
   refine GA_p X (os:=[]) rfl (.mk (.inl (.head _)) (.inl (.tail _ (.tail _ (.tail _ (.head _))))) (by rw[hone,List.length_append];show _+1+_<_;(exact lin (.h 1 (.T Z0 (.c 5)) (.h 1 (.D Z0 Y2) (.h 1 (.e Y1 Y2) (.h 1 (.l Y0 (.c 10)) (.G 1 (.t (.a (.a Y0 (.c 1)) Y1) (.c 1048576))))))) rfl [_,_,_] [_] hm5.2 hk5 h5 hl)) fun D=>sq_rt (finX_list (.tail _ (.tail _ (.tail _ (.tail _ (.head _))))) ?_))
   rw[List.append_assoc]
   exact part_CD hO (by decide) (by rw[hone];simp) (by rw[hone,List.length_append];simp;(exact lin (.h 1 (.T Z0 (.c 5)) (.h 1 (.D Z0 Y1) (.h 1 (.e Y0 Y1) (.G 1 (.l (.a (.c 1) Y0) (.c 5)))))) rfl [_,_] [_] hm5.2 hk5 h5)) (fun y hy=>(List.mem_append.mp hy).elim (hO4.rng y) (little_bound _ _ y)) hws
  refine H_ifs X (os:=[]) rfl (fun h=> ?_) (fun h=>H_nil ?_)
  ·have hO:=Oct.vint (v:=fld*8+3) (by exact lin (.h 8 (.L (.c 0) Z0) (.G 1 (.L (.c 0) (.a (.m Z0 8) (.c 3))))) rfl [] [_] hfr.1) (by exact lin (.h 8 (.L Z0 (.c 536870911)) (.G 1 (.T (.a (.m Z0 8) (.c 3)) (.c 18446744073709551616)))) rfl [] [_] hfr.2)
   refine H_app X rfl rfl (os:=[]) rfl .head (ints_grow (by exact lin (.h 1 (.t Y0 (.c 64)) (.G 1 (.t Y0 (.c 1048576)))) rfl [_] [] hwl)) ?_
   exact H_retA (GA_konL X gv (os:=[]) rfl (law_varintA (v:=fld*8+3) (by exact lin (.h 8 (.L (.c 0) Z0) (.G 1 (.L (.c 0) (.a (.m Z0 8) (.c 3))))) rfl [] [_] hfr.1) (by exact lin (.h 8 (.L Z0 (.c 536870911)) (.G 1 (.T (.a (.m Z0 8) (.c 3)) (.c 1180591620717411303424)))) rfl [] [_] hfr.2)) rm (by decide) tr (fun l=>sq_rt (finX_list (.head _) (part_T hO (by decide) (fun x hx=>(List.mem_append.mp hx).elim (hws x) fun h=>by rw[List.mem_singleton.mp h];exact hfr) (by simp) (by simp;(exact lin (.G 1 (.l (.a (.c 1) (.r 3 (.a Y0 (.c 1)))) (.a (.c 4) (.r 3 Y0)))) rfl [_] []))))) (by exact hmo _))
  refine H_ifs X (os:=[.l ws]) rfl (fun h=> ?_) (fun h=>H_nil ?_) (by exact fun _=>⟨.inl (.head _),by exact lin (.h 1 (.t Y0 (.c 64)) (.G 1 (.t Y0 (.c 1099511627776)))) rfl [_] [] hwl⟩)
  ·obtain ⟨h1,h2⟩:=Bool.and_eq_true_iff.mp h
   have hpos:0<ws.length:=by have:=of_decide_eq_true h2;(exact lin (.h 1 (.T (.c 0) Y0) (.G 1 (.t (.c 0) Y0))) rfl [_] [] this)
   have hwz:=hws _ (lastD_mem hpos)
   have hO:=Oct.vint (v:=ws.getLastD 0*8+4) (by exact lin (.h 8 (.L (.c 0) Z0) (.G 1 (.L (.c 0) (.a (.m Z0 8) (.c 4))))) rfl [] [_] hwz.1) (by exact lin (.h 8 (.L Z0 (.c 536870911)) (.G 1 (.T (.a (.m Z0 8) (.c 4)) (.c 18446744073709551616)))) rfl [] [_] hwz.2)
   refine H_retA (GA_callL (k:=1) X gv rm (by decide) (GL_cons (GA_binp X (GA_binp X (GA_pop X rfl rfl .head hpos (by exact lin (.h 1 (.t Y0 (.c 64)) (.G 1 (.t Y0 (.c 1048576)))) rfl [_] [] hwl) ?_)))))
   refine .mk (os:=[]) rfl rfl (.mk (os:=[]) rfl rfl ?_ trivial trivial) trivial (by exact IntMulOk.of_left (intBits_le_64 (by exact lin (.h 1 (.L (.c 0) Z0) (.G 1 (.T (.n (.c 18446744073709551616)) Z0))) rfl [] [_] hwz.1) (by exact lin (.h 1 (.L Z0 (.c 536870911)) (.G 1 (.T Z0 (.c 18446744073709551616)))) rfl [] [_] hwz.2)))
   refine GL_nil (.mk (need:=fun _=>True) (law_varintA (v:=ws.getLastD 0*8+4) (by exact lin (.h 8 (.L (.c 0) Z0) (.G 1 (.L (.c 0) (.a (.m Z0 8) (.c 4))))) rfl [] [_] hwz.1) (by exact lin (.h 8 (.L Z0 (.c 536870911)) (.G 1 (.T (.a (.m Z0 8) (.c 4)) (.c 1180591620717411303424)))) rfl [] [_] hwz.2)) tr fun l=>sq_rt (finX_list (.head _) (part_T hO (by decide) (fun x hx=>hws x (List.dropLast_subset _ hx)) (by rw[List.length_dropLast];(exact lin (.h 1 (.e (.a Y0 (.c 1)) Y1) (.G 1 (.l Y0 (.a Y1 (.c 1))))) rfl [_,_] [] (sC (lin (.h 1 (.t (.c 0) Y0) (.G 1 (.l (.c 1) Y0))) rfl [_] [] hpos)))) (by rw[List.length_dropLast];(exact lin (.h 3 (.e (.a Y0 (.c 1)) Y1) (.G 1 (.l (.a (.c 1) (.r 3 Y0)) (.a (.c 4) (.r 3 Y1))))) rfl [_,_] [] (sC (lin (.h 1 (.t (.c 0) Y0) (.G 1 (.l (.c 1) Y0))) rfl [_] [] hpos)))))))
  refine H_ifs X (os:=[]) rfl (fun h=> ?_) (fun h=>H_nil ?_)
  ·have hO:=Oct.vint (v:=fld*8) (by exact lin (.h 8 (.L (.c 0) Z0) (.G 1 (.L (.c 0) (.m Z0 8)))) rfl [] [_] hfr.1) (by exact lin (.h 8 (.L Z0 (.c 536870911)) (.G 1 (.T (.m Z0 8) (.c 18446744073709551616)))) rfl [] [_] hfr.2)
   have hl:=hO.len
   have hm:=mod_bd (x:=left) (show (0:Int)<128 by decide)
   exact H_retA (GA_add (GA_konL X gv (os:=[]) rfl (law_varintA (v:=fld*8) (by exact lin (.h 8 (.L (.c 0) Z0) (.G 1 (.L (.c 0) (.m Z0 8)))) rfl [] [_] hfr.1) (by exact lin (.h 8 (.L Z0 (.c 536870911)) (.G 1 (.T (.m Z0 8) (.c 1180591620717411303424)))) rfl [] [_] hfr.2)) rm (by decide) tr (fun l=>GA_intsp X (os:=[]) rfl rfl fun r=> .mk (.inl (.tail _ (.head _))) (.inl (.head _)) (by show _+1<_;(exact lin (.h 1 (.l Y0 (.c 10)) (.G 1 (.t (.a Y0 (.c 1)) (.c 1048576)))) rfl [_] [] hl)) fun D=>sq_rt (finX_list (.tail _ (.tail _ (.head _))) (part_T (hO.append (Oct.one hm.1 hm.2)) (by decide) hws (by exact lin (.G 1 (.l Y0 (.a Y0 (.c 1)))) rfl [_] []) (by exact lin (.G 1 (.l (.a (.a (.c 1) (.c 1)) (.r 3 Y0)) (.a (.c 4) (.r 3 Y0)))) rfl [_] [])))) (by exact hmo _)))
  refine H_ifs X (os:=[]) rfl (fun h=> ?_) (fun h=>H_nil ?_)
  ·have hO:=Oct.vint (v:=fld*8+4) (by exact lin (.h 8 (.L (.c 0) Z0) (.G 1 (.L (.c 0) (.a (.m Z0 8) (.c 4))))) rfl [] [_] hfr.1) (by exact lin (.h 8 (.L Z0 (.c 536870911)) (.G 1 (.T (.a (.m Z0 8) (.c 4)) (.c 18446744073709551616)))) rfl [] [_] hfr.2)
   exact H_retA (GA_konL X gv (os:=[]) rfl (law_varintA (v:=fld*8+4) (by exact lin (.h 8 (.L (.c 0) Z0) (.G 1 (.L (.c 0) (.a (.m Z0 8) (.c 4))))) rfl [] [_] hfr.1) (by exact lin (.h 8 (.L Z0 (.c 536870911)) (.G 1 (.T (.a (.m Z0 8) (.c 4)) (.c 1180591620717411303424)))) rfl [] [_] hfr.2)) rm (by decide) tr (fun l=>sq_rt (finX_list (.head _) (part_T hO (by decide) hws (by exact lin (.G 1 (.l Y0 (.a Y0 (.c 1)))) rfl [_] []) (by exact lin (.G 1 (.l (.a (.c 1) (.r 3 Y0)) (.a (.c 4) (.r 3 Y0)))) rfl [_] [])))) (by exact hmo _))
  refine H_ifs X (os:=[]) rfl (fun h=> ?_) (fun h=>H_nil ?_)
  ·have hm:=mod_bd (x:=left) (show (0:Int)<256 by decide)
   exact H_retA (GA_intsp X (os:=[]) rfl rfl fun r=>sq_rt (finX_list (.head _) (part_one hm.1 hm.2 hws)))
  have hm:=mod_bd (x:=left) (show (0:Int)<2 by decide)
  have hO:=Oct.vint (v:=fld*8+6+left.fmod 2) (by exact lin (.h 8 (.L (.c 0) Z0) (.h 1 (.L (.c 0) Z1) (.G 1 (.L (.c 0) (.a (.a (.m Z0 8) (.c 6)) Z1))))) rfl [] [_,_] hfr.1 hm.1) (by exact lin (.h 8 (.L Z0 (.c 536870911)) (.h 1 (.T Z1 (.c 2)) (.G 1 (.T (.a (.a (.m Z0 8) (.c 6)) Z1) (.c 18446744073709551616))))) rfl [] [_,_] hfr.2 hm.2)
  have hl:=hO.len
  exact H_retA (GA_add (GA_konL X gv (os:=[]) rfl (law_varintA (v:=fld*8+6+left.fmod 2) (by exact lin (.h 8 (.L (.c 0) Z0) (.h 1 (.L (.c 0) Z1) (.G 1 (.L (.c 0) (.a (.a (.m Z0 8) (.c 6)) Z1))))) rfl [] [_,_] hfr.1 hm.1) (by exact lin (.h 8 (.L Z0 (.c 536870911)) (.h 1 (.T Z1 (.c 2)) (.G 1 (.T (.a (.a (.m Z0 8) (.c 6)) Z1) (.c 1180591620717411303424))))) rfl [] [_,_] hfr.2 hm.2)) rm (by decide) tr (fun l=>GA_intsp X (os:=[]) rfl rfl fun r=> .mk (.inl (.tail _ (.head _))) (.inl (.head _)) (by show _+1<_;(exact lin (.h 1 (.l Y0 (.c 10)) (.G 1 (.t (.a Y0 (.c 1)) (.c 1048576)))) rfl [_] [] hl)) fun D=>finX_list (.tail _ (.tail _ (.head _))) (part_T (hO.append (Oct.one (by decide) (by decide))) (by decide) hws (by exact lin (.G 1 (.l Y0 (.a Y0 (.c 1)))) rfl [_] []) (by exact lin (.G 1 (.l (.a (.a (.c 1) (.c 1)) (.r 3 Y0)) (.a (.c 4) (.r 3 Y0)))) rfl [_] []))) (by exact hmo _)))
noncomputable def OctOk (bs:List Int):Prop:=(∀b∈bs,0≤b∧b<256)∧bs.length≤1000∧∃t,t<64∧Cov bs t
inductive OctR:Value→Led→Prop
 |mk {l vs k bs}:IntsAre vs bs→OctOk bs→OctR (.ref l) [(l,listOf vs.toArray k)]
theorem fin_oct {σ:St} {l:Addr} {bs:List Int} (h:(l,intsP bs)∈σ.ab) (ho:OctOk bs):Fin OctR (.ret (.ref l)) σ:=fun b B=>by
 obtain ⟨o,hm,vs,k,rfl,hi⟩:=B.get _ h
 exact ⟨_,.mk hi ho,fun p hp=>List.mem_singleton.mp hp▸mL _ hm⟩
structure OctI (n:Nat) (y:Addr×List Int×List Int×Nat):Prop where
 len:y.2.1.length≤40*n
 w:∀x∈y.2.2.1,0≤x∧x≤536870911
 wl:y.2.2.1.length≤n
 parts:Parts y.2.1 y.2.2.2
 t:y.2.2.2+3*y.2.2.1.length≤4*n
 rng:∀b∈y.2.1,0≤b∧b<256
structure OctJ (y:Addr×List Int×List Int×Nat):Prop where
 len:y.2.1.length+10*y.2.2.1.length≤750
 w:∀x∈y.2.2.1,0≤x∧x≤536870911
 parts:Parts y.2.1 y.2.2.2
 t:y.2.2.2+y.2.2.1.length≤60
 rng:∀b∈y.2.1,0≤b∧b<256
theorem octJ_ok {y:Addr×List Int×List Int×Nat} (h:OctJ y):OctOk y.2.1:=⟨h.rng,by have:=h.len;(exact lin (.h 1 (.l (.a Y0 (.r 10 Y1)) (.c 750)) (.G 1 (.l Y0 (.c 1000)))) rfl [_,_] [] this),y.2.2.2,by have:=h.t;(exact lin (.h 1 (.l (.a Y0 Y1) (.c 60)) (.G 1 (.t Y0 (.c 64)))) rfl [_,_] [] this),h.parts.cover⟩
theorem oct_walk {c:Cx} {sa:Addr} {ns:List Int} (X:Fx dOc c) (rm:Rm c 3) (hS:∃vs:List Value,c.g.IsList sa vs.toArray∧IntsAre vs ns) (hnl:ns.length≤63):H dOc c bOc (Fin OctR) ⟨[some (.v (.ref sa))],[],[]⟩:=by
 have L:∀σ:St,LI c σ sa ns:=fun σ=> .inr (.inr hS)
 have tr:∀{σ:St} (bs:Led) (kp:Kp),Bs σ.ab bs→True:=fun _ _ _=>trivial
 unfold bOc
 refine H_set X (GA_nil fun lw=>H_set X (GA_nil fun lo=> ?_))
 refine H_set X (GA_and X (os:=[.l ns,.l ns]) rfl rfl ?_ (by exact ⟨L _,by exact lin (.h 1 (.l Y0 (.c 63)) (.G 1 (.t Y0 (.c 1099511627776)))) rfl [_] [] hnl⟩) (fun h=>⟨L _,by decide,by have:=of_decide_eq_true h;omega,by exact lin (.h 1 (.l Y0 (.c 63)) (.G 1 (.t Y0 (.c 1099511627776)))) rfl [_] [] hnl⟩))
 generalize (decide (0<(ns.length:Int)) && (((ns.getD (Int.toNat 0) 0).fdiv 8192).fmod 4==1))=rough
 have hsl:(sl ns (some 1) (some 16)).length≤15:=by
  show (List.take (min 16 ns.length - 1) _).length≤15
  rw[List.length_take];(exact (Nat.le_total _ _).elim (fun e30=>(Nat.le_total _ _).elim (fun e21=>lin (.h 1 (.l Y0 Y1) (.h 1 (.e (.a Y1 (.c 1)) Y2) (.h 1 (.l Y2 (.c 16)) (.G 1 (.l Y0 (.c 15)))))) rfl [_,_,_] [] (Nat.min_le_left _ _) (sC (lin (.h 1 (.l (.c 1) Y0) (.G 1 (.l (.c 1) Y0))) rfl [_] [] e21)) (Nat.min_le_left _ _)) (fun e21=>lin (.h 1 (.l Y0 Y1) (.h 1 (.e Y1 (.c 0)) (.G 1 (.l Y0 (.c 15))))) rfl [_,_] [] (Nat.min_le_left _ _) (Nat.sub_eq_zero_of_le (lin (.h 1 (.l Y0 (.c 1)) (.G 1 (.l Y0 (.c 1)))) rfl [_] [] e21)))) (fun e30=>(Nat.le_total _ _).elim (fun e21=>lin (.h 1 (.e Y0 Y1) (.h 1 (.e (.a Y1 (.c 1)) Y2) (.h 1 (.l Y2 (.c 16)) (.G 1 (.l Y0 (.c 15)))))) rfl [_,_,_] [] (Nat.min_eq_left (lin (.h 1 (.l Y0 Y1) (.G 1 (.l Y0 Y1))) rfl [_,_] [] e30)) (sC (lin (.h 1 (.l (.c 1) Y0) (.G 1 (.l (.c 1) Y0))) rfl [_] [] e21)) (Nat.min_le_left _ _)) (fun e21=>lin (.h 1 (.e Y0 Y1) (.h 1 (.e Y1 (.c 0)) (.G 1 (.l Y0 (.c 15))))) rfl [_,_] [] (Nat.min_eq_left (lin (.h 1 (.l Y0 Y1) (.G 1 (.l Y0 Y1))) rfl [_,_] [] e30)) (Nat.sub_eq_zero_of_le (lin (.h 1 (.l Y0 (.c 1)) (.G 1 (.l Y0 (.c 1)))) rfl [_] [] e21)))))
 refine H_forL X (fun _ (y:Addr×List Int×List Int×Nat)=>⟨[some (.v (.ref sa)),some (.v (.ref lw)),some (.v (.ref y.1)),some (.v (.bool rough))],[(y.1,intsP y.2.1),(lw,intsP y.2.2.1)],[]⟩) (fun i y=>OctI i y) (lo,[],[],0) rfl
  (GA_slc X (os:=[]) (l:=sa) (ns:=ns) rfl rfl rfl rfl (L _) (by exact lin (.h 1 (.l Y0 (.c 63)) (.G 1 (.t Y0 (.c 1048576)))) rfl [_] [] hnl) (np2 (by decide) (by decide)) fun D=> .own ⟨.keep (.keep (.keep (.keep .nil))),.refl _,no_mem⟩ ⟨Nat.zero_le _,by simp,Nat.zero_le _,.nil,Nat.zero_le _,by simp⟩) ?_ ?_
 ·rintro i ⟨lo',bs,ws,t⟩ hi ⟨hbl,hwr,hwl,hP,ht,hbr⟩
  dsimp only at hbl hwr hwl hP ht hbr
  refine H_set X (GA_add (GA_p X (os:=[]) rfl (GA_kx X [false,true] ⟨rfl,fun _=>rfl,fun _=>rfl,by decide⟩ (os:=[]) rfl (law_partA hwr (by exact lin (.h 4 (.l Y1 (.c 15)) (.h 4 (.t Y2 Y1) (.h 1 (.l (.a Y3 (.r 3 Y0)) (.r 4 Y2)) (.G 3 (.t Y0 (.c 64)))))) rfl [_,_,_,_] [] hsl hi ht)) rm (by decide) rfl fun D dv dk bs2 ws2 hPO hdi=> ?_)))
  obtain ⟨hr2,hb2,hwr2,hwl2,W,hWt,hWs⟩:=hPO
  refine .mk (.inl (.head _)) (.inr (.inl ⟨dv,dk,mL _ (.head _),hdi⟩)) (by exact lin (.h 40 (.l Y2 (.c 15)) (.h 40 (.t Y3 Y2) (.h 1 (.l Y0 (.r 40 Y3)) (.h 1 (.l Y1 (.c 40)) (.G 1 (.t (.a Y0 Y1) (.c 1048576))))))) rfl [_,_,_,_] [] hsl hi hbl hb2) fun D2=> ?_
  exact H_nil (lf_nx (D2,bs++bs2,ws2,t+W) ⟨.keep (.keep (.keep (.keep .nil))),.cons_cons _ (.cons _ (.refl _)),no_mem⟩
   ⟨by rw[List.length_append];(exact lin (.h 1 (.l Y0 (.r 40 Y2)) (.h 1 (.l Y1 (.c 40)) (.G 1 (.l (.a Y0 Y1) (.r 40 (.a Y2 (.c 1))))))) rfl [_,_,_] [] hbl hb2),hwr2,by dsimp only;(exact lin (.h 1 (.l Y2 Y1) (.h 1 (.l Y0 (.a Y2 (.c 1))) (.G 1 (.l Y0 (.a Y1 (.c 1)))))) rfl [_,_,_] [] hwl hwl2),.snoc hP hWt,by dsimp only;(exact lin (.h 1 (.l (.a Y0 (.r 3 Y4)) (.r 4 Y3)) (.h 1 (.l (.a Y1 (.r 3 Y2)) (.a (.c 4) (.r 3 Y4))) (.G 1 (.l (.a (.a Y0 Y1) (.r 3 Y2)) (.r 4 (.a Y3 (.c 1))))))) rfl [_,_,_,_,_] [] ht hWs),fun b hb=>(List.mem_append.mp hb).elim (hbr b) (hr2 b)⟩)
 ·rintro ⟨lo',bs,ws,t⟩ ⟨hbl,hwr,hwl,hP,ht,hbr⟩
  dsimp only at hbl hwr hwl hP ht hbr
  have hJ:OctJ (lo',bs,ws,t):=⟨by dsimp only;(exact lin (.h 50 (.l Y2 (.c 15)) (.h 1 (.l Y0 (.r 40 Y2)) (.h 10 (.l Y1 Y2) (.G 1 (.l (.a Y0 (.r 10 Y1)) (.c 750)))))) rfl [_,_,_] [] hsl hbl hwl),hwr,hP,by dsimp only;(exact lin (.h 4 (.l Y2 (.c 15)) (.h 1 (.l (.a Y0 (.r 3 Y1)) (.r 4 Y2)) (.G 1 (.l (.a Y0 Y1) (.c 60))))) rfl [_,_,_] [] hsl ht),hbr⟩
  refine H_ifs X (os:=[.l ns,.l ns]) rfl (fun h=> ?_) (fun h=>H_nil ?_) (by exact ⟨⟨L _,by exact lin (.h 1 (.l Y0 (.c 63)) (.G 1 (.t Y0 (.c 1099511627776)))) rfl [_] [] hnl⟩,fun h=>⟨L _,by decide,by have:=of_decide_eq_true h;omega,by exact lin (.h 1 (.l Y0 (.c 63)) (.G 1 (.t Y0 (.c 1099511627776)))) rfl [_] [] hnl⟩⟩)
  ·refine H_whl X (fun (y:Addr×List Int×List Int×Nat)=>⟨[some (.v (.ref sa)),some (.v (.ref lw)),some (.v (.ref y.1))],[(y.1,intsP y.2.1),(lw,intsP y.2.2.1)],[]⟩) OctJ (fun y=>y.2.2.1.length) (lo',bs,ws,t) ⟨.keep (.keep (.keep .nil)),.refl _,no_mem⟩ hJ ?_
   rintro ⟨lo2,bs2,ws2,t2⟩ hJ
   obtain ⟨hb2,hwr2,hP2,ht2,hbr2⟩:=id hJ
   dsimp only at hb2 hwr2 hP2 ht2 hbr2
   refine GT_p X (os:=[.l ws2]) rfl ⟨fun h=> ?_,fun h=>H_nil ?_⟩ (by exact ⟨.inl (.tail _ (.head _)),by exact lin (.h 1 (.l (.a Y1 (.r 10 Y0)) (.c 750)) (.G 10 (.t Y0 (.c 1099511627776)))) rfl [_,_] [] hb2⟩)
   ·have hpos:0<ws2.length:=by have:=of_decide_eq_true h;(exact lin (.h 1 (.T (.c 0) Y0) (.G 1 (.t (.c 0) Y0))) rfl [_] [] this)
    have hwz:=hwr2 _ (lastD_mem hpos)
    have hO:=Oct.vint (v:=ws2.getLastD 0*8+4) (by exact lin (.h 8 (.L (.c 0) Z0) (.G 1 (.L (.c 0) (.a (.m Z0 8) (.c 4))))) rfl [] [_] hwz.1) (by exact lin (.h 8 (.L Z0 (.c 536870911)) (.G 1 (.T (.a (.m Z0 8) (.c 4)) (.c 18446744073709551616)))) rfl [] [_] hwz.2)
    have hOl:=hO.len
    refine H_set X (GA_add (GA_p X (os:=[]) rfl (GA_callL (k:=1) X ⟨rfl,fun _=>rfl,fun _=>rfl,by decide⟩ rm (by decide) (GL_cons (GA_binp X (GA_binp X (GA_pop X rfl rfl (.tail .head) hpos (by exact lin (.h 1 (.l (.a Y1 (.r 10 Y0)) (.c 750)) (.G 10 (.t Y0 (.c 1048576)))) rfl [_,_] [] hb2) ?_)))))))
    refine .mk (os:=[]) rfl rfl (.mk (os:=[]) rfl rfl ?_ trivial trivial) trivial (by exact IntMulOk.of_left (intBits_le_64 (by exact lin (.h 1 (.L (.c 0) Z0) (.G 1 (.T (.n (.c 18446744073709551616)) Z0))) rfl [] [_] hwz.1) (by exact lin (.h 1 (.L Z0 (.c 536870911)) (.G 1 (.T Z0 (.c 18446744073709551616)))) rfl [] [_] hwz.2)))
    refine GL_nil (.mk (need:=fun _=>True) (law_varintA (v:=ws2.getLastD 0*8+4) (by exact lin (.h 8 (.L (.c 0) Z0) (.G 1 (.L (.c 0) (.a (.m Z0 8) (.c 4))))) rfl [] [_] hwz.1) (by exact lin (.h 8 (.L Z0 (.c 536870911)) (.G 1 (.T (.a (.m Z0 8) (.c 4)) (.c 1180591620717411303424)))) rfl [] [_] hwz.2)) tr fun l=> .mk (.inl (.tail _ (.head _))) (.inl (.head _)) (by exact lin (.h 1 (.l (.a Y0 (.r 10 Y2)) (.c 750)) (.h 1 (.l Y1 (.c 10)) (.G 1 (.t (.a Y0 Y1) (.c 1048576))))) rfl [_,_,_] [] hb2 hOl) fun D=> ?_)
    exact H_nil (lp_nx (D,bs2++vint (ws2.getLastD 0*8+4),ws2.dropLast,t2+1) ⟨.keep (.keep (.keep .nil)),.cons_cons _ (.cons _ (.cons _ (.refl _))),no_mem⟩
     ⟨by dsimp only;rw[List.length_append,List.length_dropLast];(exact lin (.h 1 (.l (.a Y0 (.r 10 Y3)) (.c 750)) (.h 1 (.l Y1 (.c 10)) (.h 10 (.e (.a Y2 (.c 1)) Y3) (.G 1 (.l (.a (.a Y0 Y1) (.r 10 Y2)) (.c 750)))))) rfl [_,_,_,_] [] hb2 hOl (sC (lin (.h 1 (.t (.c 0) Y0) (.G 1 (.l (.c 1) Y0))) rfl [_] [] hpos))),fun x hx=>hwr2 x (List.dropLast_subset _ hx),.snoc hP2 (wtd_T hO.ne hO.last (Nat.le_of_eq hO.cn)),by dsimp only;rw[List.length_dropLast];(exact lin (.h 1 (.l (.a Y0 Y2) (.c 60)) (.h 1 (.e (.a Y1 (.c 1)) Y2) (.G 1 (.l (.a (.a Y0 (.c 1)) Y1) (.c 60))))) rfl [_,_,_] [] ht2 (sC (lin (.h 1 (.t (.c 0) Y0) (.G 1 (.l (.c 1) Y0))) rfl [_] [] hpos))),fun b hb=>(List.mem_append.mp hb).elim (hbr2 b) (hO.rng b)⟩ (by dsimp only;rw[List.length_dropLast];(exact lin (.h 1 (.e (.a Y0 (.c 1)) Y1) (.G 1 (.t Y0 Y1))) rfl [_,_] [] (sC (lin (.h 1 (.t (.c 0) Y0) (.G 1 (.l (.c 1) Y0))) rfl [_] [] hpos)))))
   ·exact H_retA (GA_p X (os:=[]) rfl (fin_oct (.head _) (octJ_ok hJ)))
  ·exact H_retA (GA_p X (os:=[]) rfl (fin_oct (.head _) (octJ_ok hJ)))
theorem GA_listB {d:Df} {c:Cx} {σ:St} (X:Fx d c) {q p:Pos} {a:Ex} {os os':List Orc} {ob:List Prop} {b:List UInt8} {t:Tok} {Q:AV→St→Prop} (hv:V d c σ a os=some (.v (.bytes b.toArray t),os',ob)) (hn:b.length<2 ^ 20) (k:∀D,Q (.v (.ref D)) (σ.new D (intsP (ub b)))) (ho:All ob:=by exact True.intro)
  (hb:d.bs.any Bn.list.is=true:=by rfl):GA d c (.bn .list q (.cons a .nil) p) Q σ:=fun kp hp tk K=>by
 obtain ⟨b',hm,hb'⟩:=List.any_eq_true.mp hb
 have hbe:=Bn.is_eq hb'
 subst hbe
 refine K.open fun m bs F V B N=>Call_ (nameX_B F X.inn (topRead_of X.top) rfl (v:= .type "list") rfl (by decide) ?_ X.ok.kind (X.ok.bn _ hm) (by decide)) rfl
 refine PyProof.Rows.callWith_type1 (args_cons ((ev_ok X a).v _ _ hv ho kp hp tk _ K fun v h' tk' hav K'=>args_nil ?_) (star_any a _ _)) (star_any a _ _) rfl
 rw[AV.has_v hav]
 exact K'.open fun m bs F V B N=>list_bytes rfl F N (Nat.le_trans (Nat.le_of_lt hn) (by decide)) fun D us cc h2 tk2 F2 N2 l hi=>postR (K'.put V B F2 N2 l ⟨us,cc,rfl,hi⟩) (k D)
noncomputable abbrev WrA (w:World) (d:Nat):Prop:=∀(e:Nat) (rows:List Rw) (l:Addr),Good d rows→(wrs d rows).length<2 ^ 16→KA w (d+5) 411 [.v (.ref l)] (fun news=>RowsAt e news rows l) (ListR (wrs d rows))
theorem Each.at {α β:Type} {R:α→β→Prop} {l:List α} {k:List β} {b:β} (e:Each R l k):∀{i:Nat},k[i]? =some b→∃a,l[i]? =some a∧R a b:=by
 induction e with
 |nil=>exact fun h=>nomatch h
 |cons x _ ih=>
  intro i h
  cases i with
  |zero=>exact ⟨_,rfl,(Option.some.inj h)▸x⟩
  |succ i=>exact ih h
noncomputable def aOf:Dat→Value→AV
 | .num x,_=> .i x
 |_,v=> .v v
theorem wrs_split {d i:Nat} {rows:List Rw} {r:Rw} (hi:i<rows.length) (e1:rows[i]? =some r):wrs (d+1) rows=wrs (d+1) (rows.take i)++(wrow (wrs d) r++wrs (d+1) (rows.drop (i+1)))∧wrs (d+1) (rows.take (i+1))=wrs (d+1) (rows.take i)++wrow (wrs d) r:=by
 have h4:=List.getElem?_eq_getElem hi
 rw[e1] at h4
 have h5:rows.drop i=r::rows.drop (i+1):=by rw[List.drop_eq_getElem_cons hi];injection h4 with h4;rw[h4]
 constructor
 ·have h3:rows=rows.take i++(r::rows.drop (i+1)):=by rw[←h5,List.take_append_drop]
  conv=>lhs;rw[h3]
  simp only[wrs,List.map_append,List.flatten_append,List.map_cons,List.flatten_cons]
 ·have h3:rows.take (i+1)=rows.take i++[r]:=by rw[List.take_add_one,e1];rfl
  rw[h3]
  simp only[wrs,List.map_append,List.flatten_append,List.map_cons,List.flatten_cons,List.map_nil,List.flatten_nil,List.append_nil]
theorem law_writtenA {w:World}:∀d,d≤100→WrA w d:=by
 intro d
 induction d with
 |zero=>intro _ _ _ _ h;exact h.elim
 |succ d ih=>
 intro hd100 e rows l hgood hlen
 refine KA_enter (d:=dWr) (body:=bWr) dWr_ok (fun _=>rfl) (fun _=>rfl) (fun s=>lenS fun a=>lenZ (BindsTo.of_eq rfl)) rfl rfl (by decide) (Nat.succ_pos _) ?_
 intro cx X hw hx rm hn1
 subst hw
 cases e with
 |zero=>exact hn1.elim
 |succ e=>
 obtain ⟨rv,cr,m1,hE⟩:=hn1
 have hfl:=hE.length
 have gv:Gv dWr "_law_varint" 343:=⟨rfl,fun _=>rfl,fun _=>rfl,by decide⟩
 have gl:Gv dWr "_law_little" 350:=⟨rfl,fun _=>rfl,fun _=>rfl,by decide⟩
 have gw:Gv dWr "_law_written" 411:=⟨rfl,fun _=>rfl,fun _=>rfl,by decide⟩
 have tr:∀{σ:St} (bs:Led) (kp:Kp),Bs σ.ab bs→True:=fun _ _ _=>trivial
 unfold bWr
 refine H_set X (GA_nil fun lo=> ?_)
 refine H_forT X (fun i (a:Addr)=>⟨[some (.v (.ref l)),some (.v (.ref a))],[(a,intsP (wrs (d+1) (rows.take i)))],[]⟩) (fun _ _=>True) lo rfl rfl rfl (mR _ m1) ⟨.keep (.keep .nil),.refl _,no_mem⟩ trivial ?_ ?_
 ·rintro i v lo' hv hi -
  obtain ⟨r,e1,R⟩:=hE.at hv
  obtain ⟨a,t1,t2,V,rfl,mt,hD⟩:=R
  have hgr:=hgood.2 r (List.mem_of_getElem? e1)
  have hw:0≤r.2.1∧r.2.1<8:=by
   have h:=hgr.2.2
   revert h
   cases r.2.2 with
   |num v=>rintro ⟨_,⟨h|h,_⟩|⟨h,_⟩⟩<;>(first|exact ⟨lin (.h 1 (.D Z0 (.c 0)) (.G 1 (.L (.c 0) Z0))) rfl [] [_] h,lin (.h 1 (.E Z0 (.c 0)) (.G 1 (.T Z0 (.c 8)))) rfl [] [_] h⟩|exact ⟨lin (.h 1 (.D Z0 (.c 1)) (.G 1 (.L (.c 0) Z0))) rfl [] [_] h,lin (.h 1 (.E Z0 (.c 1)) (.G 1 (.T Z0 (.c 8)))) rfl [] [_] h⟩|exact ⟨lin (.h 1 (.D Z0 (.c 5)) (.G 1 (.L (.c 0) Z0))) rfl [] [_] h,lin (.h 1 (.E Z0 (.c 5)) (.G 1 (.T Z0 (.c 8)))) rfl [] [_] h⟩)
   |byt b=>rintro ⟨h,_⟩;(exact ⟨lin (.h 1 (.D Z0 (.c 2)) (.G 1 (.L (.c 0) Z0))) rfl [] [_] h,lin (.h 1 (.E Z0 (.c 2)) (.G 1 (.T Z0 (.c 8)))) rfl [] [_] h⟩)
   |grp g=>rintro ⟨h,_⟩;(exact ⟨lin (.h 1 (.D Z0 (.c 3)) (.G 1 (.L (.c 0) Z0))) rfl [] [_] h,lin (.h 1 (.E Z0 (.c 3)) (.G 1 (.T Z0 (.c 8)))) rfl [] [_] h⟩)
  obtain ⟨hsplit,htk⟩:=wrs_split (d:=d) (by exact lin (.h 1 (.d Y1 Y2) (.h 1 (.t Y0 Y2) (.G 1 (.t Y0 Y1)))) rfl [_,_,_] [] hfl hi) e1
  have hlens:=congrArg List.length hsplit
  simp only[List.length_append] at hlens
  rw[htk]
  generalize wrs (d+1) (rows.take i)=B0 at hlens
  have hl2:=vint10 (v:=r.1*8+r.2.1) (by exact lin (.h 8 (.T Z0 (.c 2305843009213693952)) (.h 1 (.T Z1 (.c 8)) (.G 1 (.T (.a (.m Z0 8) Z1) (.c 18446744073709551616))))) rfl [] [_,_] hgr.2.1 hw.2)
  obtain ⟨r1,r2,rd⟩:=r
  dsimp only at hgr hw hD mt hlens hl2
  refine ⟨a,[.i r1,.i r2,aOf rd V],rfl,.inl ⟨_,mR _ mt,?_⟩,rfl,?_⟩
  ·cases rd with
   |num y=>obtain ⟨t,rfl⟩:=hD;exact .i (.i (.i .nil))
   |byt b=>exact .i (.i (.v .nil))
   |grp g=>exact .i (.i (.v .nil))
  refine H_set X (GA_add (GA_p X (os:=[]) rfl (GA_konL X gv (os:=[]) rfl (law_varintA (v:=r1*8+r2) (by exact lin (.h 8 (.L (.c 0) Z0) (.h 1 (.L (.c 0) Z1) (.G 1 (.L (.c 0) (.a (.m Z0 8) Z1))))) rfl [] [_,_] hgr.1 hw.1) (by exact lin (.h 8 (.T Z0 (.c 2305843009213693952)) (.h 1 (.T Z1 (.c 8)) (.G 1 (.T (.a (.m Z0 8) Z1) (.c 1180591620717411303424))))) rfl [] [_,_] hgr.2.1 hw.2)) rm (by exact lin (.G 1 (.t (.c 1) (.a (.a Y0 (.c 1)) (.c 5)))) rfl [_] []) tr (fun l2=> .mk (.inl (.tail _ (.head _))) (.inl (.head _)) (by exact lin (.h 1 (.t Y2 (.c 65536)) (.h 1 (.d Y2 (.a Y0 (.a Y3 Y4))) (.h 1 (.l Y1 (.c 10)) (.G 1 (.t (.a Y0 Y1) (.c 1048576)))))) rfl [_,_,_,_,_] [] hlen hlens hl2) fun D=> ?_) (by exact IntMulOk.of_left (intBits_le_64 (by exact lin (.h 1 (.L (.c 0) Z0) (.G 1 (.T (.n (.c 18446744073709551616)) Z0))) rfl [] [_] hgr.1) (by exact lin (.h 1 (.T Z0 (.c 2305843009213693952)) (.G 1 (.T Z0 (.c 18446744073709551616)))) rfl [] [_] hgr.2.1))))))
  have nx:∀(σ:St) (D2:Addr) (zs:List Int) (rest:ALed),zs=B0++wrow (wrs d) (r1,r2,rd)→σ.ab=(D2,intsP zs)::rest→nth σ.vs 0=some (some (.v (.ref l)))→nth σ.vs 1=some (some (.v (.ref D2)))→∃y,Le cx σ ⟨[some (.v (.ref l)),some (.v (.ref y))],[(y,intsP (B0++wrow (wrs d) (r1,r2,rd)))],[]⟩∧True:=fun σ D2 zs rest e1 e2 e3 e4=>by
   refine ⟨D2,⟨?_,?_,no_mem⟩,trivial⟩
   ·revert e3 e4
    rcases σ.vs with _|⟨a,_|⟨b,v⟩⟩
    ·intro h;cases h
    ·intro _ h;cases h
    ·intro h1 h2;cases h1;cases h2;exact .keep (.keep .nil)
   ·rw[e2,e1];exact .cons_cons _ (List.nil_sublist _)
  cases rd with
  |num y=>
   obtain ⟨ty,rfl⟩:=hD
   obtain ⟨hy0,⟨h|h,hy1⟩|⟨h,hy1⟩⟩:=hgr.2.2
   ·subst h
    have hl3:=vint10 (v:=y) (by omega)
    refine H_ifs X (os:=[]) rfl (fun _=> ?_) (fun h=>absurd h nofun)
    exact H_set X (GA_add (GA_p X (os:=[]) rfl (GA_konL X gv (os:=[]) rfl (law_varintA (v:=y) (by omega) (by exact lin (.h 1 (.T Z0 (.c 18446744073709551616)) (.G 1 (.T Z0 (.c 1180591620717411303424)))) rfl [] [_] hy1)) rm (by exact lin (.G 1 (.t (.c 1) (.a (.a Y0 (.c 1)) (.c 5)))) rfl [_] []) tr (fun l3=> .mk (.inl (.tail _ (.head _))) (.inl (.head _)) (by rw[List.length_append];(exact lin (.h 1 (.t Y3 (.c 65536)) (.h 1 (.l Y1 (.c 10)) (.h 1 (.d Y3 (.a Y0 (.a Y4 Y5))) (.h 1 (.l Y2 (.c 10)) (.G 1 (.t (.a (.a Y0 Y1) Y2) (.c 1048576))))))) rfl [_,_,_,_,_,_] [] hlen hl2 hlens hl3)) fun D2=>H_nil (H_nil (nx _ D2 _ _ (by rw[List.append_assoc];rfl) rfl rfl rfl))))))
   ·subst h
    have hl3:=little_length 8 y
    refine H_ifs X (os:=[]) rfl (fun h=>absurd h nofun) (fun _=>H_ifs X (os:=[]) rfl (fun h=>absurd h nofun) (fun _=>H_ifs X (os:=[]) rfl (fun h=>absurd h nofun) (fun _=> ?_)))
    exact H_set X (GA_add (GA_p X (os:=[]) rfl (GA_konL X gl (os:=[]) rfl (law_littleA (v:=y) (n:=8) (by omega)) rm (by exact lin (.G 1 (.t (.c 1) (.a (.a Y0 (.c 1)) (.c 5)))) rfl [_] []) tr (fun l3=> .mk (.inl (.tail _ (.head _))) (.inl (.head _)) (by rw[List.length_append];(exact lin (.h 1 (.t Y3 (.c 65536)) (.h 1 (.l Y1 (.c 10)) (.h 1 (.d Y3 (.a Y0 (.a Y4 Y5))) (.h 1 (.e Y2 (.c 8)) (.G 1 (.t (.a (.a Y0 Y1) Y2) (.c 1048576))))))) rfl [_,_,_,_,_,_] [] hlen hl2 hlens hl3)) fun D2=>H_nil (H_nil (H_nil (H_nil (nx _ D2 _ _ (by rw[List.append_assoc];rfl) rfl rfl rfl))))))))
   ·subst h
    have hl3:=little_length 4 y
    refine H_ifs X (os:=[]) rfl (fun h=>absurd h nofun) (fun _=>H_ifs X (os:=[]) rfl (fun h=>absurd h nofun) (fun _=>H_ifs X (os:=[]) rfl (fun h=>absurd h nofun) (fun _=> ?_)))
    exact H_set X (GA_add (GA_p X (os:=[]) rfl (GA_konL X gl (os:=[]) rfl (law_littleA (v:=y) (n:=4) (by omega)) rm (by exact lin (.G 1 (.t (.c 1) (.a (.a Y0 (.c 1)) (.c 5)))) rfl [_] []) tr (fun l3=> .mk (.inl (.tail _ (.head _))) (.inl (.head _)) (by rw[List.length_append];(exact lin (.h 1 (.t Y3 (.c 65536)) (.h 1 (.l Y1 (.c 10)) (.h 1 (.d Y3 (.a Y0 (.a Y4 Y5))) (.h 1 (.e Y2 (.c 4)) (.G 1 (.t (.a (.a Y0 Y1) Y2) (.c 1048576))))))) rfl [_,_,_,_,_,_] [] hlen hl2 hlens hl3)) fun D2=>H_nil (H_nil (H_nil (H_nil (nx _ D2 _ _ (by rw[List.append_assoc];rfl) rfl rfl rfl))))))))
  |byt b=>
   obtain ⟨ty,rfl⟩:=hD
   obtain ⟨h,hbl⟩:=hgr.2.2
   subst h
   have hl3:=vint10 (v:=(b.length:Int)) (by exact lin (.h 1 (.t Y0 (.c 65536)) (.G 1 (.T Y0 (.c 18446744073709551616)))) rfl [_] [] hbl)
   have hub:=ub_length b
   refine H_ifs X (os:=[]) rfl (fun h=>absurd h nofun) (fun _=>H_ifs X (os:=[]) rfl (fun _=> ?_) (fun h=>absurd h nofun))
   have C:=law_varintA (w:=cx.w) (v:=(b.length:Int)) (by omega) (by exact lin (.h 1 (.t Y0 (.c 65536)) (.G 1 (.T Y0 (.c 1180591620717411303424)))) rfl [_] [] hbl)
   rw[show (b.length:Int)=((b.toArray.size:Nat):Int) by rw[List.size_toArray]] at C
   refine H_set X (GA_add (GA_add (GA_p X (os:=[]) rfl (GA_konL X gv (os:=[]) rfl C rm (by exact lin (.G 1 (.t (.c 1) (.a (.a Y0 (.c 1)) (.c 5)))) rfl [_] []) tr (fun l3=> .mk (.inl (.tail _ (.head _))) (.inl (.head _)) ?_ fun D2=>GA_listB X (os:=[]) rfl (by exact lin (.h 1 (.t Y0 (.c 65536)) (.G 1 (.t Y0 (.c 1048576)))) rfl [_] [] hbl) fun D3=> .mk (.inl (.tail _ (.head _))) (.inl (.head _)) ?_ fun D4=>H_nil (H_nil (H_nil (nx _ D4 _ _ ?_ rfl rfl rfl)))) (by exact (by rw[List.size_toArray];(exact lin (.h 1 (.t Y0 (.c 65536)) (.G 1 (.t Y0 (.c 1099511627776)))) rfl [_] [] hbl):b.toArray.size<2 ^ 40))))))
   ·rw[List.size_toArray,List.length_append];(exact lin (.h 1 (.t Y3 (.c 65536)) (.h 1 (.l Y1 (.c 10)) (.h 1 (.d Y3 (.a Y0 (.a Y4 Y5))) (.h 1 (.l Y2 (.c 10)) (.G 1 (.t (.a (.a Y0 Y1) Y2) (.c 1048576))))))) rfl [_,_,_,_,_,_] [] hlen hl2 hlens hl3)
   ·rw[List.size_toArray,List.length_append,List.length_append];(exact lin (.h 1 (.t Y4 (.c 65536)) (.h 1 (.t Y5 (.c 65536)) (.h 1 (.l Y1 (.c 10)) (.h 1 (.d Y4 (.a Y0 (.a Y6 Y7))) (.h 1 (.l Y2 (.c 10)) (.h 1 (.e Y3 Y5) (.G 1 (.t (.a (.a (.a Y0 Y1) Y2) Y3) (.c 1048576))))))))) rfl [_,_,_,_,_,_,_,_] [] hlen hbl hl2 hlens hl3 hub)
   ·rw[List.size_toArray];show _=B0++(vint (r1*8+2)++(vint (b.length:Int)++ub b));simp only[List.append_assoc]
  |grp g=>
   obtain ⟨l4,rfl,hR⟩:=hD
   obtain ⟨h,hgg⟩:=hgr.2.2
   subst h
   have hlw:(wrow (wrs d) (r1,3,.grp g)).length=(vint (r1*8+3)).length+((wrs d g).length+(vint (r1*8+4)).length):=by
    show (vint (r1*8+3)++(wrs d g++vint (r1*8+4))).length=_
    rw[List.length_append,List.length_append]
   have hl3:=vint10 (v:=r1*8+4) (by exact lin (.h 8 (.T Z0 (.c 2305843009213693952)) (.G 1 (.T (.a (.m Z0 8) (.c 4)) (.c 18446744073709551616)))) rfl [] [_] hgr.2.1)
   refine H_ifs X (os:=[]) rfl (fun h=>absurd h nofun) (fun _=>H_ifs X (os:=[]) rfl (fun h=>absurd h nofun) (fun _=>H_ifs X (os:=[]) rfl (fun _=> ?_) (fun h=>absurd h nofun)))
   refine H_set X (GA_add (GA_add (GA_p X (os:=[]) rfl (GA_konL X gw (os:=[]) rfl (ih (by exact lin (.h 1 (.l (.a Y0 (.c 1)) (.c 100)) (.G 1 (.l Y0 (.c 100)))) rfl [_] [] hd100) e g l4 hgg (by exact lin (.h 1 (.t Y1 (.c 65536)) (.h 1 (.d Y1 (.a Y2 (.a Y3 Y4))) (.h 1 (.d Y3 (.a Y5 (.a Y0 Y6))) (.G 1 (.t Y0 (.c 65536)))))) rfl [_,_,_,_,_,_,_] [] hlen hlens hlw)) rm (by exact lin (.G 1 (.t (.a Y0 (.c 5)) (.a (.a Y0 (.c 1)) (.c 5)))) rfl [_] []) (fun bs kp _=>hR.mono fun p hp=>in4 hp) (fun l3=> .mk (.inl (.tail _ (.head _))) (.inl (.head _)) ?_ fun D2=>GA_konL X gv (os:=[]) rfl (law_varintA (v:=r1*8+4) (by exact lin (.h 8 (.L (.c 0) Z0) (.G 1 (.L (.c 0) (.a (.m Z0 8) (.c 4))))) rfl [] [_] hgr.1) (by exact lin (.h 8 (.T Z0 (.c 2305843009213693952)) (.G 1 (.T (.a (.m Z0 8) (.c 4)) (.c 1180591620717411303424)))) rfl [] [_] hgr.2.1)) rm (by exact lin (.G 1 (.t (.c 1) (.a (.a Y0 (.c 1)) (.c 5)))) rfl [_] []) tr (fun l5=> .mk (.inl (.tail _ (.head _))) (.inl (.head _)) ?_ fun D4=>H_nil (H_nil (H_nil (H_nil (nx _ D4 _ _ ?_ rfl rfl rfl))))) (by exact IntMulOk.of_left (intBits_le_64 (by exact lin (.h 1 (.L (.c 0) Z0) (.G 1 (.T (.n (.c 18446744073709551616)) Z0))) rfl [] [_] hgr.1) (by exact lin (.h 1 (.T Z0 (.c 2305843009213693952)) (.G 1 (.T Z0 (.c 18446744073709551616)))) rfl [] [_] hgr.2.1))))))))
   ·rw[List.length_append];(exact lin (.h 1 (.t Y3 (.c 65536)) (.h 1 (.d Y3 (.a Y0 (.a Y4 Y5))) (.h 1 (.d Y4 (.a Y1 (.a Y2 Y6))) (.G 1 (.t (.a (.a Y0 Y1) Y2) (.c 1048576)))))) rfl [_,_,_,_,_,_,_] [] hlen hlens hlw)
   ·rw[List.length_append,List.length_append];(exact lin (.h 1 (.t Y4 (.c 65536)) (.h 1 (.d Y4 (.a Y0 (.a Y5 Y6))) (.h 1 (.d Y5 (.a Y1 (.a Y2 Y3))) (.G 1 (.t (.a (.a (.a Y0 Y1) Y2) Y3) (.c 1048576)))))) rfl [_,_,_,_,_,_,_] [] hlen hlens hlw)
   ·show _=B0++(vint (r1*8+3)++(wrs d g++vint (r1*8+4)));simp only[List.append_assoc]
 ·rintro lo' -
  rw[←hfl,List.take_length]
  exact H_retA (GA_p X (os:=[]) rfl (fin_list (.head _)))
noncomputable def dTg:Df:=⟨"ReadTag",{kind:= .function,names:=[("buffer",.local),("pos",.local),("start",.local),("tag_bytes",.local)],isGenerator:=false,isCoroutine:=false},306,.ref 305,["buffer","pos","start","tag_bytes"],[],[]⟩
noncomputable def bTg:Sx:=(.cons (.set 2 (pn (nat_lit 687931401)) (.loc 1 (pn (nat_lit 688062479))) (pn (nat_lit 687931407)))
 (.cons (.whl (.bin (.sub (.loc 0 (pn (nat_lit 692224016))) (.loc 1 (pn (nat_lit 692338708))) (pn (nat_lit 692224021))) .BitAnd (.num 128 (pn (nat_lit 692453403))) (pn (nat_lit 692224027))) (.cons (.aug 1 (pn (nat_lit 696385547)) .Add (.num 1 (pn (nat_lit 696500240))) (pn (nat_lit 696385552)))
 .nil) (pn (nat_lit 692125968)))
 (.cons (.aug 1 (pn (nat_lit 700514311)) .Add (.num 1 (pn (nat_lit 700629004))) (pn (nat_lit 700514316)))
 (.cons (.set 3 (pn (nat_lit 704708621)) (.sub (.loc 0 (pn (nat_lit 704905238))) (.slc (.loc 2 (pn (nat_lit 705019932))) (.loc 1 (pn (nat_lit 705118240))) (pn (nat_lit 705019936))) (pn (nat_lit 704905249))) (pn (nat_lit 704708641)))
 (.cons (.ret (.tup (.cons (.loc 3 (pn (nat_lit 709034005))) (.cons (.loc 1 (pn (nat_lit 709214234))) .nil)) (pn (nat_lit 709017627))) (pn (nat_lit 708902939)))
 .nil)))))
noncomputable def dF8:Df:=⟨"_DecodeFixed64",{kind:= .function,names:=[("buffer",.local),("pos",.local),("new_pos",.local),("_unpack",.globalImplicit)],isGenerator:=false,isCoroutine:=false},313,.ref 312,["buffer","pos","new_pos"],[],[]⟩
noncomputable def bF8:Sx:=(.cons (.set 2 (pn (nat_lit 717291531)) (.bin (.loc 1 (pn (nat_lit 717455377))) .Add (.num 8 (pn (nat_lit 717553685))) (pn (nat_lit 717455381))) (pn (nat_lit 717291541)))
 (.cons (.ret (.tup (.cons (.sub (.call (.gl "_unpack" (pn (nat_lit 721616915))) (.cons (.txt "<Q" (pn (nat_lit 721747992))) (.cons (.sub (.loc 0 (pn (nat_lit 721846304))) (.slc (.loc 1 (pn (nat_lit 721960996))) (.loc 2 (pn (nat_lit 722026540))) (pn (nat_lit 721961004))) (pn (nat_lit 721846317))) .nil)) (pn (nat_lit 721616942))) (.num 0 (pn (nat_lit 722190384))) (pn (nat_lit 721616945))) (.cons (.loc 2 (pn (nat_lit 722255930))) .nil)) (pn (nat_lit 721600571))) (pn (nat_lit 721485883)))
 .nil))
noncomputable def dF4:Df:=⟨"_DecodeFixed32",{kind:= .function,names:=[("buffer",.local),("pos",.local),("new_pos",.local),("_unpack",.globalImplicit)],isGenerator:=false,isCoroutine:=false},320,.ref 319,["buffer","pos","new_pos"],[],[]⟩
noncomputable def bF4:Sx:=(.cons (.set 2 (pn (nat_lit 729874443)) (.bin (.loc 1 (pn (nat_lit 730038289))) .Add (.num 4 (pn (nat_lit 730136597))) (pn (nat_lit 730038293))) (pn (nat_lit 729874453)))
 (.cons (.ret (.tup (.cons (.sub (.call (.gl "_unpack" (pn (nat_lit 734199827))) (.cons (.txt "<I" (pn (nat_lit 734330904))) (.cons (.sub (.loc 0 (pn (nat_lit 734429216))) (.slc (.loc 1 (pn (nat_lit 734543908))) (.loc 2 (pn (nat_lit 734609452))) (pn (nat_lit 734543916))) (pn (nat_lit 734429229))) .nil)) (pn (nat_lit 734199854))) (.num 0 (pn (nat_lit 734773296))) (pn (nat_lit 734199857))) (.cons (.loc 2 (pn (nat_lit 734838842))) .nil)) (pn (nat_lit 734183483))) (pn (nat_lit 734068795)))
 .nil))
noncomputable def dUt:Df:=⟨"UnpackTag",{kind:= .function,names:=[("tag",.local),("TAG_TYPE_BITS",.globalImplicit),("TAG_TYPE_MASK",.globalImplicit)],isGenerator:=false,isCoroutine:=false},263,.ref 262,["tag"],[],[("TAG_TYPE_BITS",3),("TAG_TYPE_MASK",7)]⟩
noncomputable def bUt:Sx:=(.cons (.ret (.tup (.cons (.bin (.loc 0 (pn (nat_lit 537067535))) .RShift (.gl "TAG_TYPE_BITS" (pn (nat_lit 537182240))) (pn (nat_lit 537067552))) (.cons (.bin (.loc 0 (pn (nat_lit 537428005))) .BitAnd (.gl "TAG_TYPE_MASK" (pn (nat_lit 537526325))) (pn (nat_lit 537428021))) .nil)) (pn (nat_lit 537051190))) (pn (nat_lit 536936502)))
 .nil)
noncomputable def dUp:Df:=⟨"_unpack",{kind:= .function,names:=[("format",.local),("data",.local),("size",.local),("value",.local),("_calcsize",.globalImplicit),("len",.globalImplicit),("StructError",.globalImplicit),("int",.globalImplicit)],isGenerator:=false,isCoroutine:=false},249,.ref 248,["format","data","size","value"],[.len],[]⟩
noncomputable def bUp:Sx:=(.cons (.set 2 (pn (nat_lit 448856072)) (.call (.gl "_calcsize" (pn (nat_lit 448970772))) (.cons (.loc 0 (pn (nat_lit 449134619))) .nil) (pn (nat_lit 448970780))) (pn (nat_lit 448856092)))
 (.cons (.ifs (.cmp (.bn .len (pn (nat_lit 453099530)) (.cons (.loc 1 (pn (nat_lit 453165071))) .nil) (pn (nat_lit 453099536))) .NotEq (.loc 2 (pn (nat_lit 453312536))) (pn (nat_lit 453099544))) (.cons (.rse (.call (.gl "StructError" (pn (nat_lit 457408537))) (.cons (.txt "unpack requires a buffer of another size" (pn (nat_lit 457605188))) .nil) (pn (nat_lit 457408581))) (pn (nat_lit 457310277)))
 .nil) .nil (pn (nat_lit 453050693)))
 (.cons (.set 3 (pn (nat_lit 461438985)) (.meth (.gl "int" (pn (nat_lit 461570063))) "from_bytes" (pn (nat_lit 461570074)) (.cons (.loc 1 (pn (nat_lit 461815839))) (.cons (.txt "little" (pn (nat_lit 461914153))) .nil)) (pn (nat_lit 461570090))) (pn (nat_lit 461439018)))
 (.cons (.ifs (.bop .And (.cons (.bop .Or (.cons (.cmp (.loc 0 (pn (nat_lit 465698830))) .Eq (.txt "<i" (pn (nat_lit 465862678))) (pn (nat_lit 465698838))) (.cons (.cmp (.loc 0 (pn (nat_lit 465993760))) .Eq (.txt "<q" (pn (nat_lit 466157608))) (pn (nat_lit 465993768))) .nil)) (pn (nat_lit 465698856))) (.cons (.cmp (.loc 3 (pn (nat_lit 466321459))) .GtE (.bin (.num 1 (pn (nat_lit 466468920))) .LShift (.bin (.bin (.num 8 (pn (nat_lit 466550845))) .Mult (.loc 2 (pn (nat_lit 466616388))) (pn (nat_lit 466550852))) .Sub (.num 1 (pn (nat_lit 466731080))) (pn (nat_lit 466550856))) (pn (nat_lit 466468936))) (pn (nat_lit 466321480))) .nil)) (pn (nat_lit 465682504))) (.cons (.aug 3 (pn (nat_lit 469893133)) .Sub (.bin (.num 1 (pn (nat_lit 470040594))) .LShift (.bin (.num 8 (pn (nat_lit 470122519))) .Mult (.loc 2 (pn (nat_lit 470188062))) (pn (nat_lit 470122526))) (pn (nat_lit 470040606))) (pn (nat_lit 469893150)))
 .nil) .nil (pn (nat_lit 465633566)))
 (.cons (.ret (.tup (.cons (.loc 3 (pn (nat_lit 474152977))) .nil) (pn (nat_lit 474136595))) (pn (nat_lit 474021907)))
 .nil)))))
noncomputable def dCs:Df:=⟨"_calcsize",{kind:= .function,names:=[("format",.local)],isGenerator:=false,isCoroutine:=false},242,.ref 241,["format"],[],[]⟩
noncomputable def bCs:Sx:=(.cons (.ifs (.bop .Or (.cons (.cmp (.loc 0 (pn (nat_lit 432128013))) .Eq (.txt "<I" (pn (nat_lit 432291861))) (pn (nat_lit 432128021))) (.cons (.cmp (.loc 0 (pn (nat_lit 432422943))) .Eq (.txt "<i" (pn (nat_lit 432586791))) (pn (nat_lit 432422951))) .nil)) (pn (nat_lit 432128039))) (.cons (.ret (.num 4 (pn (nat_lit 436453392))) (pn (nat_lit 436338704)))
 .nil) .nil (pn (nat_lit 432079120)))
 (.cons (.ret (.num 8 (pn (nat_lit 440582156))) (pn (nat_lit 440467468)))
 .nil))
noncomputable def dDf:Df:=⟨"_DecodeUnknownField",{kind:= .function,names:=[("buffer",.local),("pos",.local),("end_pos",.local),("field_number",.local),("wire_type",.local),("current_depth",.local),("data",.local),("size",.local),("end_tag_bytes",.local),("WIRETYPE_VARINT",.globalImplicit),("_DecodeVarint",.globalImplicit),("WIRETYPE_FIXED64",.globalImplicit),("_DecodeFixed64",.globalImplicit),("WIRETYPE_FIXED32",.globalImplicit),("_DecodeFixed32",.globalImplicit),("WIRETYPE_LENGTH_DELIMITED",.globalImplicit),("WIRETYPE_START_GROUP",.globalImplicit),("TagBytes",.globalImplicit),("WIRETYPE_END_GROUP",.globalImplicit),("_recursion_limit",.globalImplicit),("DecodeError",.globalImplicit),("_DecodeUnknownFieldSet",.globalImplicit),("len",.globalImplicit)],isGenerator:=false,isCoroutine:=false},336,.ref 335,["buffer","pos","end_pos","field_number","wire_type","current_depth","data","size","end_tag_bytes"],[.len],[("WIRETYPE_VARINT",0),("WIRETYPE_FIXED64",1),("WIRETYPE_FIXED32",5),("WIRETYPE_LENGTH_DELIMITED",2),("WIRETYPE_START_GROUP",3),("WIRETYPE_END_GROUP",4),("_recursion_limit",100)]⟩
noncomputable def bDf:Sx:=(.cons (.ifs (.cmp (.loc 4 (pn (nat_lit 792838160))) .Eq (.gl "WIRETYPE_VARINT" (pn (nat_lit 793051171))) (pn (nat_lit 792838179))) (.cons (.setT (.cons (.loc 6 (pn (nat_lit 797048844))) (.cons (.loc 1 (pn (nat_lit 797147153))) .nil)) (pn (nat_lit 797048849)) (.call (.gl "_DecodeVarint" (pn (nat_lit 797245473))) (.cons (.loc 0 (pn (nat_lit 797474856))) (.cons (.loc 1 (pn (nat_lit 797605933))) .nil)) (pn (nat_lit 797245486))) (pn (nat_lit 797048878)))
 .nil) (.cons (.ifs (.cmp (.loc 4 (pn (nat_lit 801259538))) .Eq (.gl "WIRETYPE_FIXED64" (pn (nat_lit 801472550))) (pn (nat_lit 801259558))) (.cons (.setT (.cons (.loc 6 (pn (nat_lit 805437452))) (.cons (.loc 1 (pn (nat_lit 805535761))) .nil)) (pn (nat_lit 805437457)) (.call (.gl "_DecodeFixed64" (pn (nat_lit 805634082))) (.cons (.loc 0 (pn (nat_lit 805879849))) (.cons (.loc 1 (pn (nat_lit 806010926))) .nil)) (pn (nat_lit 805634095))) (pn (nat_lit 805437487)))
 .nil) (.cons (.ifs (.cmp (.loc 4 (pn (nat_lit 809648146))) .Eq (.gl "WIRETYPE_FIXED32" (pn (nat_lit 809861158))) (pn (nat_lit 809648166))) (.cons (.setT (.cons (.loc 6 (pn (nat_lit 813826060))) (.cons (.loc 1 (pn (nat_lit 813924369))) .nil)) (pn (nat_lit 813826065)) (.call (.gl "_DecodeFixed32" (pn (nat_lit 814022690))) (.cons (.loc 0 (pn (nat_lit 814268457))) (.cons (.loc 1 (pn (nat_lit 814399534))) .nil)) (pn (nat_lit 814022703))) (pn (nat_lit 813826095)))
 .nil) (.cons (.ifs (.cmp (.loc 4 (pn (nat_lit 818036754))) .Eq (.gl "WIRETYPE_LENGTH_DELIMITED" (pn (nat_lit 818249775))) (pn (nat_lit 818036783))) (.cons (.setT (.cons (.loc 7 (pn (nat_lit 822214668))) (.cons (.loc 1 (pn (nat_lit 822312977))) .nil)) (pn (nat_lit 822214673)) (.call (.gl "_DecodeVarint" (pn (nat_lit 822411297))) (.cons (.loc 0 (pn (nat_lit 822640680))) (.cons (.loc 1 (pn (nat_lit 822771757))) .nil)) (pn (nat_lit 822411310))) (pn (nat_lit 822214702)))
 (.cons (.set 6 (pn (nat_lit 826408972)) (.sub (.loc 0 (pn (nat_lit 826523669))) (.slc (.loc 1 (pn (nat_lit 826638361))) (.bin (.loc 1 (pn (nat_lit 826703901))) .Add (.loc 7 (pn (nat_lit 826802212))) (pn (nat_lit 826703908))) (pn (nat_lit 826638372))) (pn (nat_lit 826523685))) (pn (nat_lit 826408997)))
 (.cons (.aug 1 (pn (nat_lit 830603275)) .Add (.loc 7 (pn (nat_lit 830717971))) (pn (nat_lit 830603283)))
 .nil))) (.cons (.ifs (.cmp (.loc 4 (pn (nat_lit 834813970))) .Eq (.gl "WIRETYPE_START_GROUP" (pn (nat_lit 835026986))) (pn (nat_lit 834813994))) (.cons (.set 8 (pn (nat_lit 838991893)) (.call (.gl "TagBytes" (pn (nat_lit 839254048))) (.cons (.loc 3 (pn (nat_lit 839401517))) (.cons (.gl "WIRETYPE_END_GROUP" (pn (nat_lit 839630913))) .nil)) (pn (nat_lit 839254082))) (pn (nat_lit 838991938)))
 (.cons (.aug 5 (pn (nat_lit 843186197)) .Add (.num 1 (pn (nat_lit 843464730))) (pn (nat_lit 843186202)))
 (.cons (.ifs (.cmp (.loc 5 (pn (nat_lit 847429656))) .GtE (.gl "_recursion_limit" (pn (nat_lit 847708204))) (pn (nat_lit 847429676))) (.cons (.rse (.call (.gl "DecodeError" (pn (nat_lit 851738653))) (.cons (.txt "Error parsing message: too many levels of nesting." (pn (nat_lit 851935314))) .nil) (pn (nat_lit 851738707))) (pn (nat_lit 851640403)))
 .nil) .nil (pn (nat_lit 847380819)))
 (.cons (.setT (.cons (.loc 6 (pn (nat_lit 855769100))) (.cons (.loc 1 (pn (nat_lit 855867409))) .nil)) (pn (nat_lit 855769105)) (.call (.gl "_DecodeUnknownFieldSet" (pn (nat_lit 855965738))) (.cons (.loc 0 (pn (nat_lit 856342577))) (.cons (.loc 1 (pn (nat_lit 856473654))) (.cons (.loc 2 (pn (nat_lit 856555583))) (.cons (.loc 5 (pn (nat_lit 856703054))) .nil)))) (pn (nat_lit 855965775))) (pn (nat_lit 855769167)))
 (.cons (.aug 5 (pn (nat_lit 859963413)) .Sub (.num 1 (pn (nat_lit 860241946))) (pn (nat_lit 859963418)))
 (.cons (.ifs (.cmp (.sub (.loc 0 (pn (nat_lit 864206865))) (.slc (.bin (.loc 1 (pn (nat_lit 864321557))) .Sub (.bn .len (pn (nat_lit 864419867)) (.cons (.loc 8 (pn (nat_lit 864485417))) .nil) (pn (nat_lit 864419882))) (pn (nat_lit 864321578))) (.loc 1 (pn (nat_lit 864731182))) (pn (nat_lit 864321582))) (pn (nat_lit 864206895))) .NotEq (.loc 8 (pn (nat_lit 864862272))) (pn (nat_lit 864206912))) (.cons (.rse (.call (.gl "DecodeError" (pn (nat_lit 868515869))) (.cons (.txt "Missing group end tag." (pn (nat_lit 868712502))) .nil) (pn (nat_lit 868515895))) (pn (nat_lit 868417591)))
 .nil) .nil (pn (nat_lit 864158007)))
 .nil)))))) (.cons (.ifs (.cmp (.loc 4 (pn (nat_lit 872562706))) .Eq (.gl "WIRETYPE_END_GROUP" (pn (nat_lit 872775720))) (pn (nat_lit 872562728))) (.cons (.ret (.tup (.cons (.num 0 (pn (nat_lit 876871697))) (.cons (.una .USub (.num 1 (pn (nat_lit 876937237))) (pn (nat_lit 876920853))) .nil)) (pn (nat_lit 876855318))) (pn (nat_lit 876740630)))
 .nil) (.cons (.rse (.call (.gl "DecodeError" (pn (nat_lit 885227545))) (.cons (.txt "Wrong wire type in tag." (pn (nat_lit 885424179))) .nil) (pn (nat_lit 885227572))) (pn (nat_lit 885129268)))
 .nil) (pn (nat_lit 872481588)))
 .nil) (pn (nat_lit 834735156)))
 .nil) (pn (nat_lit 817958964)))
 .nil) (pn (nat_lit 809570868)))
 .nil) (pn (nat_lit 801182772)))
 .nil) (pn (nat_lit 792794676)))
 (.cons (.ifs (.cmp (.loc 1 (pn (nat_lit 889307146))) .Gt (.loc 2 (pn (nat_lit 889405460))) (pn (nat_lit 889307156))) (.cons (.rse (.call (.gl "DecodeError" (pn (nat_lit 893616153))) (.cons (.txt "Truncated message." (pn (nat_lit 893812782))) .nil) (pn (nat_lit 893616175))) (pn (nat_lit 893517871)))
 .nil) .nil (pn (nat_lit 889258287)))
 (.cons (.ret (.tup (.cons (.loc 6 (pn (nat_lit 897777680))) (.cons (.loc 1 (pn (nat_lit 897875989))) .nil)) (pn (nat_lit 897761302))) (pn (nat_lit 897646614)))
 .nil)))
noncomputable def dDs:Df:=⟨"_DecodeUnknownFieldSet",{kind:= .function,names:=[("buffer",.local),("pos",.local),("end_pos",.local),("current_depth",.local),("unknown_field_set",.local),("tag_bytes",.local),("tag",.local),("_",.local),("field_number",.local),("wire_type",.local),("data",.local),("UnknownFieldSet",.globalImplicit),("ReadTag",.globalImplicit),("_DecodeVarint",.globalImplicit),("UnpackTag",.globalImplicit),("WIRETYPE_END_GROUP",.globalImplicit),("_DecodeUnknownField",.globalImplicit)],isGenerator:=false,isCoroutine:=false},328,.ref 327,["buffer","pos","end_pos","current_depth","unknown_field_set","tag_bytes","tag","_","field_number","wire_type","data"],[],[("WIRETYPE_END_GROUP",4)]⟩
noncomputable def bDs:Sx:=(.cons (.set 4 (pn (nat_lit 746651669)) (.call (.gl "UnknownFieldSet" (pn (nat_lit 746979367))) .nil (pn (nat_lit 746979369))) (pn (nat_lit 746651689)))
 (.cons (.whl (.bop .Or (.cons (.cmp (.loc 2 (pn (nat_lit 750944273))) .Is (.non (pn (nat_lit 751124505))) (pn (nat_lit 750944281))) (.cons (.cmp (.loc 1 (pn (nat_lit 751255584))) .Lt (.loc 2 (pn (nat_lit 751353898))) (pn (nat_lit 751255594))) .nil)) (pn (nat_lit 750944298))) (.cons (.setT (.cons (.loc 5 (pn (nat_lit 755105809))) (.cons (.loc 1 (pn (nat_lit 755286038))) .nil)) (pn (nat_lit 755105814)) (.call (.gl "ReadTag" (pn (nat_lit 755384352))) (.cons (.loc 0 (pn (nat_lit 755515431))) (.cons (.loc 1 (pn (nat_lit 755646508))) .nil)) (pn (nat_lit 755384365))) (pn (nat_lit 755105837)))
 (.cons (.setT (.cons (.loc 6 (pn (nat_lit 759300107))) (.cons (.loc 7 (pn (nat_lit 759382030))) .nil)) (pn (nat_lit 759300110)) (.call (.gl "_DecodeVarint" (pn (nat_lit 759447582))) (.cons (.loc 5 (pn (nat_lit 759676968))) (.cons (.num 0 (pn (nat_lit 759857195))) .nil)) (pn (nat_lit 759447596))) (pn (nat_lit 759300140)))
 (.cons (.setT (.cons (.loc 8 (pn (nat_lit 763494420))) (.cons (.loc 9 (pn (nat_lit 763723807))) .nil)) (pn (nat_lit 763494431)) (.call (.gl "UnpackTag" (pn (nat_lit 763920427))) (.cons (.loc 6 (pn (nat_lit 764084271))) .nil) (pn (nat_lit 763920432))) (pn (nat_lit 763494448)))
 (.cons (.ifs (.cmp (.loc 9 (pn (nat_lit 767737876))) .Eq (.gl "WIRETYPE_END_GROUP" (pn (nat_lit 767950890))) (pn (nat_lit 767737898))) (.cons (.brk (pn (nat_lit 771948561)))
 .nil) .nil (pn (nat_lit 767688977)))
 (.cons (.setT (.cons (.loc 10 (pn (nat_lit 776077324))) (.cons (.loc 1 (pn (nat_lit 776175633))) .nil)) (pn (nat_lit 776077329)) (.call (.gl "_DecodeUnknownField" (pn (nat_lit 776273959))) (.cons (.loc 0 (pn (nat_lit 776601646))) (.cons (.loc 1 (pn (nat_lit 776732723))) (.cons (.loc 2 (pn (nat_lit 776814652))) (.cons (.loc 8 (pn (nat_lit 776962122))) (.cons (.loc 9 (pn (nat_lit 777191509))) (.cons (.loc 3 (pn (nat_lit 777371748))) .nil)))))) (pn (nat_lit 776274021))) (pn (nat_lit 776077413)))
 (.cons (.exp (.meth (.loc 4 (pn (nat_lit 780271641))) "_add" (pn (nat_lit 780271646)) (.cons (.loc 8 (pn (nat_lit 780648491))) (.cons (.loc 9 (pn (nat_lit 780877878))) (.cons (.loc 10 (pn (nat_lit 781058108))) .nil))) (pn (nat_lit 780271677))) (pn (nat_lit 780271677)))
 .nil)))))) (pn (nat_lit 750847805)))
 (.cons (.ret (.tup (.cons (.loc 4 (pn (nat_lit 784531485))) (.cons (.loc 1 (pn (nat_lit 784842786))) .nil)) (pn (nat_lit 784515107))) (pn (nat_lit 784400419)))
 .nil)))
theorem dTg_ok:dTg.Ok:=Df.Ok.of (by decide+kernel)
theorem dF8_ok:dF8.Ok:=Df.Ok.of (by decide+kernel)
theorem dF4_ok:dF4.Ok:=Df.Ok.of (by decide+kernel)
theorem dUt_ok:dUt.Ok:=Df.Ok.of (by decide+kernel) (by exact fC ⟨⟨rfl,by decide,fun _=>⟨_,rfl⟩⟩,fC ⟨⟨rfl,by decide,fun _=>⟨_,rfl⟩⟩,allP⟩⟩)
theorem dUp_ok:dUp.Ok:=Df.Ok.of (by decide+kernel)
theorem dCs_ok:dCs.Ok:=Df.Ok.of (by decide+kernel)
theorem dDf_ok:dDf.Ok:=Df.Ok.of (by decide+kernel) (by exact fC ⟨⟨rfl,by decide,fun _=>⟨_,rfl⟩⟩,fC ⟨⟨rfl,by decide,fun _=>⟨_,rfl⟩⟩,fC ⟨⟨rfl,by decide,fun _=>⟨_,rfl⟩⟩,fC ⟨⟨rfl,by decide,fun _=>⟨_,rfl⟩⟩,fC ⟨⟨rfl,by decide,fun _=>⟨_,rfl⟩⟩,fC ⟨⟨rfl,by decide,fun _=>⟨_,rfl⟩⟩,fC ⟨⟨rfl,by decide,fun _=>⟨_,rfl⟩⟩,allP⟩⟩⟩⟩⟩⟩⟩)
theorem dDs_ok:dDs.Ok:=Df.Ok.of (by decide+kernel) (by exact fC ⟨⟨rfl,by decide,fun _=>⟨_,rfl⟩⟩,allP⟩)
noncomputable abbrev lmPs:Arguments:=⟨[],[⟨"row",none,⟨379,36,379,39⟩⟩],none,[],[],none,[]⟩
noncomputable abbrev lmB:PySem.Expr:= .UnaryOp .USub (.Subscript (.Name "row" ⟨379,42,379,45⟩) (.Constant (.int 0) 0 ⟨379,46,379,47⟩) ⟨379,42,379,48⟩) ⟨379,41,379,48⟩
noncomputable abbrev lmSc:Scope:={kind:= .function,names:=[("row",.local)],isGenerator:=false,isCoroutine:=false}
noncomputable abbrev lKc:Ex:= .kc (.Name "sorted" ⟨379,12,379,18⟩) [.Name "rows" ⟨379,19,379,23⟩] [⟨some "key",.Lambda lmPs lmB lmSc ⟨379,29,379,48⟩,⟨379,25,379,48⟩⟩] ⟨379,12,379,49⟩
noncomputable def dLw:Df:=⟨"law",{kind:= .function,names:=[("script",.local),("octets",.local),("first",.local),("at",.local),("end",.local),("level",.local),("fault",.local),("rows",.local),("behind",.local),("closed",.local),("said",.local),("fields",.local),("place",.local),("other",.local),("turned",.local),("_law_octets",.globalImplicit),("len",.globalImplicit),("max",.globalImplicit),("_law_read_set",.globalImplicit),("_law_told",.globalImplicit),("_law_shown",.globalImplicit),("sorted",.globalImplicit),("_law_again",.globalImplicit)],isGenerator:=false,isCoroutine:=false},432,.ref 431,["script","octets","first","at","end","level","fault","rows","behind","closed","said","fields","place","other","turned"],[.len,.max],[]⟩
noncomputable def bLwT:Sx:=(.cons (.set 13 (pn (nat_lit 1589706761)) lKc (pn (nat_lit 1589706801)))
 (.cons (.ifs (.cmp (.cmp (.loc 11 (pn (nat_lit 1593966606))) .Eq (.call (.gl "_law_again" (pn (nat_lit 1594130460))) (.cons (.loc 13 (pn (nat_lit 1594310690))) .nil) (pn (nat_lit 1594130467))) (pn (nat_lit 1593966627))) .IsNot (.tru (pn (nat_lit 1594556464))) (pn (nat_lit 1593950256))) (.cons (.ret (.fls (pn (nat_lit 1598275604))) (pn (nat_lit 1598160916)))
 .nil) .nil (pn (nat_lit 1593901332)))
 (.cons (.ifs (.cmp (.bn .len (pn (nat_lit 1602338826)) (.cons (.loc 7 (pn (nat_lit 1602404367))) .nil) (pn (nat_lit 1602338832))) .Eq (.num 0 (pn (nat_lit 1602551829))) (pn (nat_lit 1602338837))) (.cons (.ret (.tru (pn (nat_lit 1606664211))) (pn (nat_lit 1606549523)))
 .nil) .nil (pn (nat_lit 1602289939)))
 (.cons (.set 14 (pn (nat_lit 1610678282)) (.ite (.cmp (.sub (.loc 7 (pn (nat_lit 1611202600))) (.una .USub (.num 1 (pn (nat_lit 1611300907))) (pn (nat_lit 1611284523))) (pn (nat_lit 1611202604))) .NotEq (.tup (.cons (.sub (.sub (.loc 7 (pn (nat_lit 1611415605))) (.una .USub (.num 1 (pn (nat_lit 1611513912))) (pn (nat_lit 1611497528))) (pn (nat_lit 1611415609))) (.num 0 (pn (nat_lit 1611563067))) (pn (nat_lit 1611415612))) (.cons (.num 0 (pn (nat_lit 1611628607))) (.cons (.num 1 (pn (nat_lit 1611677762))) .nil))) (pn (nat_lit 1611399235))) (pn (nat_lit 1611202627))) (.tup (.cons (.sub (.sub (.loc 7 (pn (nat_lit 1610842130))) (.una .USub (.num 1 (pn (nat_lit 1610940437))) (pn (nat_lit 1610924053))) (pn (nat_lit 1610842134))) (.num 0 (pn (nat_lit 1610989592))) (pn (nat_lit 1610842137))) (.cons (.num 0 (pn (nat_lit 1611055132))) (.cons (.num 1 (pn (nat_lit 1611104287))) .nil))) (pn (nat_lit 1610825760))) (.tup (.cons (.sub (.sub (.loc 7 (pn (nat_lit 1611825230))) (.una .USub (.num 1 (pn (nat_lit 1611923537))) (pn (nat_lit 1611907153))) (pn (nat_lit 1611825234))) (.num 0 (pn (nat_lit 1611972692))) (pn (nat_lit 1611825237))) (.cons (.num 0 (pn (nat_lit 1612038232))) (.cons (.num 2 (pn (nat_lit 1612087387))) .nil))) (pn (nat_lit 1611808860))) (pn (nat_lit 1610825820))) (pn (nat_lit 1610678364)))
 (.cons (.ret (.bop .And (.cons (.cmp (.cmp (.loc 11 (pn (nat_lit 1615003666))) .Eq (.call (.gl "_law_again" (pn (nat_lit 1615167520))) (.cons (.sub (.loc 13 (pn (nat_lit 1615347750))) (.slc (.num 1 (pn (nat_lit 1615446056))) .nil (pn (nat_lit 1615446057))) (pn (nat_lit 1615347754))) .nil) (pn (nat_lit 1615167531))) (pn (nat_lit 1615003691))) .Is (.fls (pn (nat_lit 1615593525))) (pn (nat_lit 1614987317))) (.cons (.cmp (.cmp (.loc 11 (pn (nat_lit 1615773761))) .Eq (.call (.gl "_law_again" (pn (nat_lit 1615937615))) (.cons (.bin (.sub (.loc 7 (pn (nat_lit 1616117844))) (.slc .nil (.una .USub (.num 1 (pn (nat_lit 1616232536))) (pn (nat_lit 1616216152))) (pn (nat_lit 1616199768))) (pn (nat_lit 1616117849))) .Add (.lst (.cons (.loc 14 (pn (nat_lit 1616330851))) .nil) (pn (nat_lit 1616314468))) (pn (nat_lit 1616117860))) .nil) (pn (nat_lit 1615937637))) (pn (nat_lit 1615773797))) .Is (.fls (pn (nat_lit 1616543855))) (pn (nat_lit 1615757423))) .nil)) (pn (nat_lit 1614987375))) (pn (nat_lit 1614872687)))
 .nil)))))
noncomputable def bLw:Sx:=(.cons (.set 1 (pn (nat_lit 1526792202)) (.call (.gl "_law_octets" (pn (nat_lit 1526939672))) (.cons (.loc 0 (pn (nat_lit 1527136287))) .nil) (pn (nat_lit 1526939680))) (pn (nat_lit 1526792224)))
 (.cons (.set 2 (pn (nat_lit 1530986505)) (.ite (.cmp (.bn .len (pn (nat_lit 1531330588)) (.cons (.loc 0 (pn (nat_lit 1531396131))) .nil) (pn (nat_lit 1531330596))) .Gt (.num 0 (pn (nat_lit 1531559976))) (pn (nat_lit 1531330600))) (.sub (.loc 0 (pn (nat_lit 1531117586))) (.num 0 (pn (nat_lit 1531232276))) (pn (nat_lit 1531117589))) (.num 0 (pn (nat_lit 1531674671))) (pn (nat_lit 1531117615))) (pn (nat_lit 1530986543)))
 (.cons (.set 3 (pn (nat_lit 1535180806)) (.sub (.lst (.cons (.num 0 (pn (nat_lit 1535279115))) (.cons (.num 0 (pn (nat_lit 1535328270))) (.cons (.num 0 (pn (nat_lit 1535377425))) (.cons (.bin (.bin (.loc 2 (pn (nat_lit 1535426584))) .FloorDiv (.num 16 (pn (nat_lit 1535574046))) (pn (nat_lit 1535426590))) .Mod (.num 3 (pn (nat_lit 1535655970))) (pn (nat_lit 1535426594))) .nil)))) (pn (nat_lit 1535262755))) (.bin (.bin (.loc 2 (pn (nat_lit 1535705129))) .FloorDiv (.num 4 (pn (nat_lit 1535852590))) (pn (nat_lit 1535705134))) .Mod (.num 4 (pn (nat_lit 1535918130))) (pn (nat_lit 1535705138))) (pn (nat_lit 1535262771))) (pn (nat_lit 1535180851)))
 (.cons (.set 4 (pn (nat_lit 1539375111)) (.sub (.lst (.cons (.bn .len (pn (nat_lit 1539489806)) (.cons (.loc 1 (pn (nat_lit 1539555349))) .nil) (pn (nat_lit 1539489814))) (.cons (.bn .len (pn (nat_lit 1539702811)) (.cons (.loc 1 (pn (nat_lit 1539768354))) .nil) (pn (nat_lit 1539702819))) (.cons (.bn .len (pn (nat_lit 1539915816)) (.cons (.loc 1 (pn (nat_lit 1539981359))) .nil) (pn (nat_lit 1539915824))) (.cons (.bn .max (pn (nat_lit 1540128821)) (.cons (.loc 3 (pn (nat_lit 1540194360))) (.cons (.bin (.bn .len (pn (nat_lit 1540259901)) (.cons (.loc 1 (pn (nat_lit 1540325444))) .nil) (pn (nat_lit 1540259909))) .Sub (.bin (.bin (.loc 2 (pn (nat_lit 1540489293))) .FloorDiv (.num 64 (pn (nat_lit 1540636755))) (pn (nat_lit 1540489299))) .Mod (.num 4 (pn (nat_lit 1540718679))) (pn (nat_lit 1540489303))) (pn (nat_lit 1540259927))) .nil)) (pn (nat_lit 1540128856))) (.cons (.bin (.bn .len (pn (nat_lit 1540784221)) (.cons (.loc 1 (pn (nat_lit 1540849764))) .nil) (pn (nat_lit 1540784229))) .Add (.num 1 (pn (nat_lit 1541013609))) (pn (nat_lit 1540784233))) .nil))))) (pn (nat_lit 1539473514))) (.bin (.bin (.loc 2 (pn (nat_lit 1541062768))) .FloorDiv (.num 48 (pn (nat_lit 1541210230))) (pn (nat_lit 1541062774))) .Mod (.num 5 (pn (nat_lit 1541292154))) (pn (nat_lit 1541062778))) (pn (nat_lit 1539473531))) (pn (nat_lit 1539375227)))
 (.cons (.set 5 (pn (nat_lit 1543569417)) (.sub (.lst (.cons (.num 0 (pn (nat_lit 1543716878))) (.cons (.num 0 (pn (nat_lit 1543766033))) (.cons (.num 0 (pn (nat_lit 1543815188))) (.cons (.bin (.num 92 (pn (nat_lit 1543864344))) .Add (.bin (.bin (.loc 2 (pn (nat_lit 1543946272))) .FloorDiv (.num 1024 (pn (nat_lit 1544093736))) (pn (nat_lit 1543946280))) .Mod (.num 8 (pn (nat_lit 1544208428))) (pn (nat_lit 1543946284))) (pn (nat_lit 1543864364))) .nil)))) (pn (nat_lit 1543700525))) (.bin (.bin (.loc 2 (pn (nat_lit 1544257587))) .FloorDiv (.num 256 (pn (nat_lit 1544405050))) (pn (nat_lit 1544257594))) .Mod (.num 4 (pn (nat_lit 1544503358))) (pn (nat_lit 1544257598))) (pn (nat_lit 1543700543))) (pn (nat_lit 1543569471)))
 (.cons (.setT (.cons (.loc 6 (pn (nat_lit 1547763721))) (.cons (.loc 7 (pn (nat_lit 1547878415))) (.cons (.loc 8 (pn (nat_lit 1547976727))) (.cons (.loc 9 (pn (nat_lit 1548107807))) .nil)))) (pn (nat_lit 1547763743)) (.call (.gl "_law_read_set" (pn (nat_lit 1548255279))) (.cons (.loc 1 (pn (nat_lit 1548484662))) (.cons (.loc 3 (pn (nat_lit 1548615738))) (.cons (.loc 4 (pn (nat_lit 1548681279))) (.cons (.loc 5 (pn (nat_lit 1548763206))) .nil)))) (pn (nat_lit 1548255303))) (pn (nat_lit 1547763783)))
 (.cons (.ifs (.cmp (.loc 6 (pn (nat_lit 1552007180))) .Eq (.txt "unasked" (pn (nat_lit 1552154649))) (pn (nat_lit 1552007193))) (.cons (.ret (.tru (pn (nat_lit 1556332563))) (pn (nat_lit 1556217875)))
 .nil) .nil (pn (nat_lit 1551958291)))
 (.cons (.setT (.cons (.loc 10 (pn (nat_lit 1560346632))) (.cons (.loc 11 (pn (nat_lit 1560444944))) (.cons (.loc 12 (pn (nat_lit 1560576023))) .nil))) (pn (nat_lit 1560346647)) (.call (.gl "_law_told" (pn (nat_lit 1560707107))) (.cons (.loc 1 (pn (nat_lit 1560870954))) (.cons (.loc 3 (pn (nat_lit 1561002030))) (.cons (.loc 4 (pn (nat_lit 1561067571))) (.cons (.loc 5 (pn (nat_lit 1561149498))) .nil)))) (pn (nat_lit 1560707131))) (pn (nat_lit 1560346683)))
 (.cons (.ifs (.cmp (.loc 10 (pn (nat_lit 1564590091))) .NotEq (.loc 6 (pn (nat_lit 1564721172))) (pn (nat_lit 1564590100))) (.cons (.ret (.fls (pn (nat_lit 1568915476))) (pn (nat_lit 1568800788)))
 .nil) .nil (pn (nat_lit 1564541204)))
 (.cons (.ifs (.cmp (.loc 6 (pn (nat_lit 1572978700))) .NotEq (.txt "" (pn (nat_lit 1573126162))) (pn (nat_lit 1572978706))) (.cons (.ret (.tru (pn (nat_lit 1577304083))) (pn (nat_lit 1577189395)))
 .nil) .nil (pn (nat_lit 1572929811)))
 (.cons (.ifs (.bop .Or (.cons (.cmp (.loc 12 (pn (nat_lit 1581367308))) .NotEq (.loc 8 (pn (nat_lit 1581514774))) (pn (nat_lit 1581367318))) (.cons (.cmp (.call (.gl "_law_shown" (pn (nat_lit 1581678628))) (.cons (.loc 11 (pn (nat_lit 1581858859))) .nil) (pn (nat_lit 1581678636))) .NotEq (.loc 7 (pn (nat_lit 1582039092))) (pn (nat_lit 1581678644))) .nil)) (pn (nat_lit 1581367348))) (.cons (.ret (.fls (pn (nat_lit 1585692692))) (pn (nat_lit 1585578004)))
 .nil) .nil (pn (nat_lit 1581318420)))
 bLwT)))))))))))
theorem dLw_ok:dLw.Ok:=Df.Ok.of (by decide+kernel)
noncomputable def lPs:Arguments:=match down [50] PySem.Challenge.pw_jd0024_01.main.body with|some (.FunctionDef _ ps ..)=>ps|_=>default
noncomputable def lPos:Pos:=match down [50] PySem.Challenge.pw_jd0024_01.main.body with|some (.FunctionDef _ _ _ _ _ _ _ _ _ p)=>p|_=>default
theorem law_def:defOf pV (Str.ofString "law")=some (⟨Str.ofString "law",lPs,(su dLw.names bLw).2,dLw.sc,lPos⟩,[]):=by kernel_rfl
section
variable {d:Df} {c:Cx} {kp:Kp} {σ σ':St}
noncomputable abbrev lkey (ps:Arguments) (b:PySem.Expr) (sc:Scope) (lp kq:Pos):List Keyword:=[⟨some "key",.Lambda ps b sc lp,kq⟩]
noncomputable abbrev Wsort (d:Df) (c:Cx) (cp:Pos) (kws:List Keyword) (l:Addr) (Q E:Value→Shared→Prop) (s:Shared):Prop:=
 wpAny (model PR c.w) (c.A d) (evalAll ((backToKw cp (keywordEach kws (c.env d))).map (·.2))) (fun kvs s₂=>wpAny (model PR c.w) (c.A d) (call (.builtin "sorted") [.ref l] (((backToKw cp (keywordEach kws (c.env d))).filterMap (·.1)).zip kvs)) Q E s₂) E s
noncomputable abbrev LamT (d:Df) (c:Cx) (q0:Str) (ps:Arguments) (b:PySem.Expr) (sc:Scope) (news:Led) (v:Value) (k:Int):Prop:=
 ∀⦃f c':Addr⦄ ⦃pm ctv:Value⦄ ⦃oc:Obj⦄ ⦃vsO:Array Value⦄ ⦃t:Tok⦄ ⦃m:Str→Option Value⦄ ⦃s:Shared⦄ ⦃W:Led⦄,(f,kla_obj "<lambda>" q0 ps b sc [] pm c' ctv)∈W→(c',oc)∈W→oc.data= .fields vsO→vsO[1]? =some (.str q0 t)→(∀p∈news,p∈W)→
  Fr c.g c.L s.heap m→News c.g c.L s.heap W→wpAny (model PR c.w) (c.A d).in1.in1 (call (.ref f) [v]) (KskEnd c.g c.L m W k s) (fun _ _=>False) s
inductive SortR (P:Addr) (spec:List (Pos×Str)) (L:Led) (ks:List Int) (vs:List Value):Value→Led→ALed→Prop
 |mk {D k tl L'}:(∀p∈L',p∈tl++L)→SortR P spec L ks vs (.ref D) ((D,listOf (byKey ks vs).toArray k)::tl) [(P,tb spec L')]
theorem sortW (X:Fx d c) {P cA l:Addr} {spec:List (Pos×Str)} {L:Led} {cp lp kq:Pos} {ps:Arguments} {b:PySem.Expr} {sc:Scope} {ks:List Int} {vs:List Value} (q0:Str) (hcd:d.cd= .ref cA) (hq0:(c.env d).qual++"<lambda>"=q0) (hdf:defaultsOf ps (c.env d)=([],[])) (hsp:(lp,q0)∈spec) (hu:∀q∈spec,q.1.line=lp.line∧q.1.col=lp.col→q.1=lp∧q.2=q0)
  (hcl:closureFor sc (c.env d)=pure []) (hlen:ks.length=vs.length) (h64:vs.length<64):
  KzW d c (Wsort d c cp (lkey ps b sc lp kq) l) [(P,tb spec L)] (fun base news=>CodeHd base cA P∧(∀p∈L,p∈news)∧(∃k,(l,listOf vs.toArray k)∈news)∧∀(i:Nat) (v:Value) (k:Int),vs[i]? =some v→ks[i]? =some k→LamT d c q0 ps b sc news v k) (SortR P spec L ks vs) (fun _ _ _=>False):=by
 intro m s Q E news bs0 F N B0 nd ap hn ret exc
 subst hq0
 obtain ⟨HC,hL,⟨kl,hl⟩,hT⟩:=hn
 obtain ⟨o,k,eb,⟨tps,ho,HT⟩,B1⟩:=bs_cons B0
 rw[eb,ho,bs_nil B1] at N
 replace N:News c.g c.L s.heap ((P,tabObj tps)::news):=N
 refine evalAll_cons (show wpAny _ _ (do let v ←eval (.Lambda ps b sc lp) (c.env d);standAt cp;pure v) _ _ _ from ?_)
 refine wpAny_bind (kla_eval hdf (tab_lam (c:=cA) (P:=P) (ps:=tps) (fz:=L) (spec:=spec) F N X.top (HC.keeps X.below.stays) hcd (.head (ap _ (.head _))) HT (fun p h=> .tail _ (hL p h)) _ rfl hsp hu hcl ?_))
 intro f c' oc vsO t ctv h' tk ps' tl F2 N2 HT2 hc' hd hv labove lf1 lf2
 have sub:∀p∈(P,tabObj ps')::(tl++news),p∈tl++((P,tabObj ps')::news):=fC ⟨mR _ (.head _),mem_app (fun p h=>mL _ h) fun p h=>mR _ (.tail _ h)⟩
 refine wpAny_bind (wpAny_standAt (wpAny_pure (evalAll_nil ?_)))
 refine (sorted_key (ks:=ks) F2 N2 (isList_led N2 (.tail _ (sub _ (.tail _ (mR _ hl))))) hlen h64 (fun i v k hv' hk' h5 tk5 own F5 N5=> ?_) fun D h6 tk6 c6 F6 N6 o6=> ?_)
 ·have in1:∀p∈tl++L,p∈tl++((P,tabObj ps')::news):=mem_app (fun p h=>mL _ h) fun p h=>mR _ (.tail _ (hL p h))
  refine hT i v k hv' hk' (?_:(f,kla_obj _ _ ps b sc [] ((c.mg "__name__").getD .none) c' ctv)∈_) (?_:(c',oc)∈_) hd hv ?_ F5 N5
  ·exact .head _
  ·exact .tail _ (mL _ (in1 _ hc'))
  ·exact fun p h=> .tail _ (mL _ (sub _ (.tail _ (mR _ h))))
 ·refine ret (.ref D) ((D,_)::tl) [(P,tb spec (tl++L))] [(P,tabObj ps')] h6 tk6 F6 (fC ⟨N6 _ (.tail _ (.tail _ (sub _ (.head _)))),fC ⟨N6 _ (.head _),fun p h=>N6 p (.tail _ (.tail _ (sub _ (.tail _ h))))⟩⟩) (.cons ⟨_,rfl,HT2⟩ .nil) rfl
   (fun q hq=>fC ⟨o6 q (.tail _ (sub _ (.tail _ (mR _ hq)))),labove q (.tail _ hq)⟩) (fC ⟨fC ⟨Nat.ne_of_gt (o6 _ (.tail _ (sub _ (.head _)))),fun p h=>Nat.ne_of_gt (labove _ (.head _) p h)⟩,allP⟩) (.mk fun p h=>h)
inductive SrtQ (d:Df) (c:Cx) (cp:Pos) (kws:List Keyword) (Q:AV→St→Prop):AV→St→Prop
 |mk {l σ}:(∀kp hp tk,Ok d c kp σ hp→Wsort d c cp kws l (Post d c kp (AQ Q)) c.E (c.at hp tk))→SrtQ d c cp kws Q (.v (.ref l)) σ
theorem GA_sortK (X:Fx d c) {a:Ex} {q1 cp lp kq:Pos} {ps:Arguments} {b:PySem.Expr} {sc:Scope} {Q:AV→St→Prop} (hlk:d.sc.names.lookup ("sorted":Str)=some .globalImplicit) (h:GA d c a (SrtQ d c cp (lkey ps b sc lp kq) Q) σ)
  (he:backTo cp (starEach [(ux d.names a).1] (c.env d))=(false,eval (ux d.names a).1 (c.env d))::backTo cp (starEach [] (c.env d)):=by rfl) (hp:(backTo cp (starEach [(ux d.names a).1] (c.env d))).any (·.1)=false:=by rfl):
  GA d c (.kc (.Name "sorted" q1) [(ux d.names a).1] (lkey ps b sc lp kq) cp) Q σ:=fun kp hp' tk K=>by
 refine K.open fun m bs F V B N=>wpAny_Call_Name_kw (nameX_B F X.inn (topRead_of X.top) rfl (v:= .builtin "sorted") rfl (by decide) ?_ X.ok.kind hlk (by decide))
 refine callWith_kw (e:=(ux d.names a).1) (rest:=[]) ?_ he hp rfl rfl
 refine args_cons (h.run K fun v x h' σ' tk' hx K' q=>args_nil ?_) (star_any a _ _)
 cases q with
 |mk q=>rw[AV.has_v hx];exact q kp h' tk' K'
theorem GA_neg {a:Ex} {p:Pos} {Q:AV→St→Prop} (h:GA d c a (fun x σ=>∃n,x= .i n∧Q (.i (-n)) σ) σ):GA d c (.una .USub a p) Q σ:=fun kp hp tk K=>UnaryOp_ (h.run K fun v x h' σ' tk' hx K' q=>by
 obtain ⟨n,e,q⟩:=q
 rw[e] at hx
 obtain ⟨t,hx⟩:=AV.has_i hx
 rw[hx]
 exact neg_int (postI K' q))
theorem ok1 {q0 x:Str} {sc:Scope} {f:Addr} {cd:Value} (h1:sc.kind= .function) (h2:sc.names.lookup x=some .local) (h3:(x==("__debug__":Str))=false):(⟨q0,sc,f,cd,[x],[],[]⟩:Df).Ok:=
 ⟨h1,List.pairwise_singleton _ _,fC ⟨⟨h2,h3⟩,fun _ h=>absurd h List.not_mem_nil⟩,fun _ h=>absurd h List.not_mem_nil,fun _ h=>absurd h List.not_mem_nil⟩
theorem lamT_of (X:Fx d c) {q0 x:Str} {ps:Arguments} {sc:Scope} {e:Ex} {news:Led} {v:Value} {k:Int} (hok:∀f cd,(⟨q0,sc,f,cd,[x],[],[]⟩:Df).Ok) (hb:∀s pm c' ctv,BindsTo s (kdv_fn "<lambda>" q0 ps (.expr (ux [x] e).1) sc [] .none .none pm (.ref c') ctv) ⟨[v],[]⟩ [(x,v)])
  (hco:sc.isCoroutine=false) (hgen:sc.isGenerator=false) (hcell:∀x∈sc.names,x.2≠.cell) (hd:c.dp<recursionLimit)
  (walk:∀(f c':Addr) (cx:Cx),Fx ⟨q0,sc,f,.ref c',[x],[],[]⟩ cx→cx.w=c.w→(∀p∈news,p∈cx.news)→GA ⟨q0,sc,f,.ref c',[x],[],[]⟩ cx e (fun a _=>a= .i k) ⟨[some (.v v)],[],[]⟩):LamT d c q0 ps (ux [x] e).1 sc news v k:=by
 intro f c' pm ctv oc vsO t m s W hf hc' hdat hv hs F N
 refine wpAny_call (kdv_codeE (dV:= .none) (doc:= .none) X.below F X.inn N X.top rfl rfl X.ok.kind hf (codeRec_news N hc' hdat hv) hd (hb _ _ _ _) (fC ⟨((hok f .none).loc x (.head _)).1,fun _ h=>absurd h List.not_mem_nil⟩) (fun g L' h₁ FG F' N' B' X' T'=> ?_) hco hgen (hok f .none).kind hcell)
 let dl:Df:=⟨q0,sc,f,.ref c',[x],[],[]⟩
 let ek:Value→Shared→Prop:=fun e' s'=>wpAny (model PR c.w) ((c.A d).in1.in1.deeper (envX q0 sc L' f (.ref c') [])) (leaving (envX q0 sc L' f (.ref c') []) e') (fun _ s''=>(fun _ _=>False:Value→Shared→Prop) e' s'') (fun e' s''=>(fun _ _=>False:Value→Shared→Prop) e' s'') s'
 let cx:Cx:=⟨c.w,c.p,c.loose,c.mean,c.mg,c.mb,c.dp+1,c.un+1+1+3,c.gd,c.env d::c.outer,L',(c.A d).in1.in1,c.base,g,s,ek,W,fun _=>False⟩
 have K:Ok dl cx ⟨[],[]⟩ ⟨[some (.v v)],[],[]⟩ h₁:=Sh.ok ⟨.nil,allP,no_mem,no_mem,allP⟩ F' (fun i y a hi ha=>by
  cases i with
  |zero=>
   cases hi
   cases ha
   exact ⟨v,by show List.lookup x [(x,v)]=_;rw[List.lookup_cons,beq_self_eq_true],rfl⟩
  |succ i=>exact nth_nil (j:=i) hi) .nil N'
 refine GA.run (d:=dl) (c:=cx) (walk f c' cx ⟨hok f (.ref c'),B',X',T',PassesOwn.leaving⟩ rfl hs) K fun w a h2 σ2 tk2 ha K2 e=>K2.open fun m2 bs F2 V2 B2 N2=> ?_
 rw[e] at ha
 obtain ⟨t,ha⟩:=AV.has_i ha
 rw[ha]
 exact leaveK_ F2 N2 fun kF kN=>⟨_,_,_,rfl,rfl,kF,fun p h=>kN p (mR _ (mR _ h))⟩
end
section
variable {d:Df} {c:Cx} {kp:Kp} {σ:St}
theorem G_cmpP {op:CmpOp} {x y:AV} {r:Bool} {v w:Value} {Q:Value→St→Prop} (hv:x.has v) (hw:y.has w) (e:cmpA op x y=some r) (q:Q (.bool r) σ):G d c (compareOp op v w) Q σ:=fun kp h tk K=>cmp_ok e hv hw (post K q)
noncomputable abbrev AttC (C:Addr) (x:Str):Prop:=∀P,plainGet (Mine.kf P) C x=true∧hasDictIn (Mine.kf P) C=true∧∃attr,findIn (Mine.kf P) (.ref C) x=some attr∧noGet (Mine.kf P) attr=true
inductive AttQ (c:Cx) (x:Str) (Q:AV→St→Prop):AV→St→Prop
 |mk {a C dx:Addr} {es:List DictEntry} {n:Nat} {v:Value} {A:AV} {σ}:(a,instObj C dx)∈σ.ex++c.news→(dx,dictOf es n)∈σ.ex++c.news→AttC C x→getL x es=some (some v)→handedIn v=true→A.has v→Q A σ→AttQ c x Q (.v (.ref a)) σ
theorem GA_att (X:Fx d c) {i:Nat} {y x:Str} {p q:Pos} {Q:AV→St→Prop} {a:AV} (hi:nth d.names i=some y) (hl:nth σ.vs i=some (some a)) (h:AttQ c x Q a σ):GA d c (.att (.loc i q) x p) Q σ:=fun kp hp tk K=>by
 cases h with
 | @mk a C dx es n v A _ m1 m2 hC hg hv ha k=>
 obtain ⟨c1,c2,attr,c3,c4⟩:=hC c.w.params
 refine Attribute_name (n:=nm d.names i) (readL X K hi hl fun w hw=> ?_)
 rw[AV.has_v hw]
 exact K.open fun m bs F V B N=>get_own F X.inn (InstAt.of_news N (mR _ (mem3 m1)) (mR _ (mem3 m2))) c1 c2 c3 c4 hg hv (postA K ha k)
theorem Rm.call1 {k K:Nat} (rm:Rm c K) (hk:k<K):c.dp+k<recursionLimit∧c.un+1+20*k+200<cLine:=by
 obtain ⟨h1,h2⟩:=rm
 revert h1 h2
 generalize cLine=cl
 generalize recursionLimit=rl
 exact fun h1 h2=>⟨by omega,by omega⟩
inductive LenQ (c:Cx) (K:Nat) (Q:AV→St→Prop):AV→St→Prop
 |lst {l vs σ}:LV c σ l vs→vs.length<2 ^ 20→Q (.i vs.length) σ→LenQ c K Q (.v (.ref l)) σ
 |ins {a C dx f:Addr} {k n:Nat} {od:Obj} {need:Led→Prop} {σ}:(a,instObj C dx)∈σ.ex++c.news→(dx,od)∈σ.ex++c.news→(∀P,findIn (Mine.kf P) (.ref C) "__len__"=some (some (.ref f))∧isFn (Mine.kf P) (.ref f)=true)→KA c.w k f [.v (.ref a)] need (fun v led=>(∃t,v= .int n t)∧led=[])→k<K→
   (∀bs (kp:Kp),Bs σ.ab bs→need (bs++c.all kp σ))→n<2 ^ 20→Q (.i n) σ→LenQ c K Q (.v (.ref a)) σ
theorem small63 {n:Nat} (h:n<2 ^ 20):(n:Int)<2 ^ 63:=lin (.h 1 (.t Y0 (.c 1048576)) (.G 1 (.T Y0 (.c 9223372036854775808)))) rfl [_] [] h
theorem GA_len (X:Fx d c) {a:Ex} {q p:Pos} {K:Nat} {Q:AV→St→Prop} (rm:Rm c K) (h:GA d c a (LenQ c K Q) σ) (hb:d.bs.any Bn.len.is=true:=by rfl):GA d c (.bn .len q (.cons a .nil) p) Q σ:=fun kp hp tk K=>by
 obtain ⟨b',hm,hb'⟩:=List.any_eq_true.mp hb
 have hbe:=Bn.is_eq hb'
 subst hbe
 refine K.open fun m bs F V B N=>Call_ (nameX_B F X.inn (topRead_of X.top) rfl (v:= .builtin "len") rfl (by decide) ?_ X.ok.kind (X.ok.bn _ hm) (by decide)) rfl
 refine PyProof.Rows.callWith_builtin1 (args_cons (h.run K fun v x h' σ' tk' hx K' e=>args_nil ?_) (star_any a _ _)) (star_any a _ _) rfl
 cases e with
 | @lst l vs _ L hn k=>
  rw[AV.has_v hx]
  refine Calls.call_len_list (lv_at K' L) (by rw[List.size_toArray];exact small63 hn) ?_
  rw[List.size_toArray]
  exact postI K' k
 | @ins a C dx f k n od need _ m1 m2 hf C' hk hn hn2 k=>
  rw[AV.has_v hx]
  refine K'.open fun m bs F V B N=>len_K F X.inn (InstAt.of_news N (mR _ (mem3 m1)) (mR _ (mem3 m2))) (hf _).1 (hf _).2 (C' _ (.v .nil) X.below F X.inn N X.top X.ok.kind (rm.call1 hk).1 (rm.call1 hk).2 (hn bs kp B) fun v led h2 tk2 F2 N2 hr _=> ?_)
  obtain ⟨⟨t,rfl⟩,rfl⟩:=hr
  exact ⟨⟨Int.natCast_nonneg _,small63 hn2⟩,postI (K'.same V B F2 N2) k⟩
inductive SubI (c:Cx) (K:Nat) (x:AV) (y:AV) (Q:AV→St→Prop) (σ:St):Prop
 |mk {a C dx f:Addr} {k:Nat} {od:Obj} {need:Led→Prop} {res:Value→Led→Prop}:x= .v (.ref a)→(a,instObj C dx)∈σ.ex++c.news→(dx,od)∈σ.ex++c.news→(∀P,findIn (Mine.kf P) (.ref C) "__getitem__"=some (some (.ref f))∧fnIn (Mine.kf P) f=true∧isFn (Mine.kf P) (.ref f)=true)→KA c.w k f [x,y] need res→k<K→
   (∀bs (kp:Kp),Bs σ.ab bs→need (bs++c.all kp σ))→(∀v led,res v led→AQ Q v (σ.add led))→SubI c K x y Q σ
theorem G_konA (X:Fx d c) {k K:Nat} {f:Addr} {vals:List Value} {need:Led→Prop} {res:Value→Led→Prop} {Q:Value→St→Prop} (C:Kon c.w k f vals need res) (rm:Rm c K) (hk:k<K) (hn:∀bs (kp:Kp),Bs σ.ab bs→need (bs++c.all kp σ)) (ret:∀v led,res v led→Q v (σ.add led)) {h:Heap} {tk:Nat} (K':Ok d c kp σ h):
  wpAny (model PR c.w) (c.A d).in1 (call (.ref f) vals) (Post d c kp Q) c.E (c.at h tk):=
 K'.open fun m bs F V B N=>C X.below F X.inn N X.top X.ok.kind (rm.call1 hk).1 (rm.call1 hk).2 (hn bs kp B) fun v led h' tk' F' N' hr ho=>post (K'.add V B F' N' (fun q hq p hp=>Exists.elim (B.get q hq) fun o h=>Nat.ne_of_gt (ho _ (mL _ h.1) p hp)) fun q hq=>ho q (mR _ hq)) (ret v led hr)
theorem GA_subI (X:Fx d c) {i j:Nat} {y z:Str} {p q r:Pos} {K:Nat} {a:AV} {n:Int} {Q:AV→St→Prop} (rm:Rm c K) (hi:nth d.names i=some y) (hl:nth σ.vs i=some (some a)) (hj:nth d.names j=some z) (hz:nth σ.vs j=some (some (.i n))) (h:SubI c K a (.i n) Q σ):GA d c (.sub (.loc i q) (.loc j r) p) Q σ:=fun kp hp tk K=>by
 cases h with
 | @mk a C dx f k od need res ea m1 m2 hf C' hk hn ret=>
 subst ea
 refine Subscript_ (readL X K hi hl fun w hw=>readL X K hj hz fun u hu=> ?_)
 have hs:Hs [.v (.ref a),.i n] [w,u]:=Hs.of hw (Hs.of hu .nil)
 rw[AV.has_v hw] at hs ⊢
 exact K.open fun m bs F V B N=>sub_K F X.inn (InstAt.of_news N (mR _ (mem3 m1)) (mR _ (mem3 m2))) (hf _).1 (hf _).2.1 (hf _).2.2 (G_konA X (C' _ hs) rm hk hn ret K) (show subscripted (.Name (nm d.names j) r) true _ _=_ from by rw[nm_eq hj];rfl)
theorem GA_glR (X:Fx d c) {x:Str} {C:Addr} {q:Pos} {Q:AV→St→Prop} (hl:d.sc.names.lookup x=some .globalImplicit) (hn:∀P,nsIn (Mine.kf P) mainGlobals x=some (some (.ref C))) (hd:(x==("__debug__":Str))=false) (k:Q (.v (.ref C)) σ):GA d c (.gl x q) Q σ:=fun kp hp tk K=>
 K.open fun m bs F V B N=>nameX_K F X.inn (topRead_of X.top) (hn _) (postR K k) X.ok.kind hl hd
theorem GA_bnG (X:Fx d c) {x:Str} {id:String} {q p:Pos} {a as:Ex} {Q:AV→St→Prop} (hl:d.sc.names.lookup x=some .globalImplicit) (h1:∀P,nsIn (Mine.kf P) mainGlobals x=some none) (h2:bootBuiltins x=some (.builtin id)) (h3:x≠"__name__") (h4:(x==("__debug__":Str))=false)
  (h:GL d c (.cons a as) (fun xs σ=>∀vs,Hs xs vs→G d c (call (.builtin id) vs) (AQ Q) σ) σ) (h5:∀p,(backTo p (starEach (ux d.names as).2 (c.env d))).any (·.1)=false:=by exact fun _=>rfl):GA d c (.call (.gl x q) (.cons a as) p) Q σ:=fun kp hp tk K=>
 K.open fun m bs F V B N=>Call_ (nameX_B F X.inn (topRead_of X.top) (h1 _) (v:= .builtin id) h2 h3 (PyProof.Rows.callWith_builtin1 (e:=(ux d.names a).1) (rest:=(ux d.names as).2) (h.run K fun vs xs h' σ' tk' hxs K' q=>q vs hxs kp h' tk' K') (star_any a _ _) (h5 _)) X.ok.kind hl h4) rfl
end
noncomputable def dLn:Df:=⟨"UnknownFieldSet.__len__",{kind:= .function,names:=[("self",.local),("ValueError",.globalImplicit),("len",.globalImplicit)],isGenerator:=false,isCoroutine:=false},143,.ref 142,["self"],[.len],[]⟩
noncomputable def bLn:Sx:=(.cons (.ifs (.cmp (.att (.loc 0 (pn (nat_lit 272809999))) "_values" (pn (nat_lit 272810007))) .Is (.non (pn (nat_lit 273072159))) (pn (nat_lit 272810015))) (.cons (.rse (.call (.gl "ValueError" (pn (nat_lit 277119004))) (.cons (.txt "UnknownFields does not exist. The parent message might be cleared." (pn (nat_lit 277299297))) .nil) (pn (nat_lit 277119074))) (pn (nat_lit 277020770)))
 .nil) .nil (pn (nat_lit 272761186)))
 (.cons (.ret (.bn .len (pn (nat_lit 281264146)) (.cons (.att (.loc 0 (pn (nat_lit 281329687))) "_values" (pn (nat_lit 281329695))) .nil) (pn (nat_lit 281264160))) (pn (nat_lit 281149472)))
 .nil))
noncomputable def dCv:Df:=⟨"UnknownFieldRef._check_valid",{kind:= .function,names:=[("self",.local),("len",.globalImplicit),("ValueError",.globalImplicit)],isGenerator:=false,isCoroutine:=false},77,.ref 76,["self"],[.len],[]⟩
noncomputable def bCv:Sx:=(.cons (.ifs (.cmp (.bn .len (pn (nat_lit 113426446)) (.cons (.att (.loc 0 (pn (nat_lit 113491987))) "_parent" (pn (nat_lit 113491995))) .nil) (pn (nat_lit 113426460))) .Eq (.num 0 (pn (nat_lit 113770529))) (pn (nat_lit 113426465))) (.cons (.rse (.call (.gl "ValueError" (pn (nat_lit 117735452))) (.cons (.txt "UnknownField does not exist. The parent message might be cleared." (pn (nat_lit 117915744))) .nil) (pn (nat_lit 117735521))) (pn (nat_lit 117637217)))
 .nil) .nil (pn (nat_lit 113377633)))
 (.cons (.ifs (.cmp (.att (.loc 0 (pn (nat_lit 121815055))) "_index" (pn (nat_lit 121815062))) .GtE (.bn .len (pn (nat_lit 122060829)) (.cons (.att (.loc 0 (pn (nat_lit 122126370))) "_parent" (pn (nat_lit 122126378))) .nil) (pn (nat_lit 122060843))) (pn (nat_lit 121815083))) (.cons (.rse (.call (.gl "ValueError" (pn (nat_lit 126124060))) (.cons (.txt "UnknownField does not exist. The parent message might be cleared." (pn (nat_lit 126304352))) .nil) (pn (nat_lit 126124129))) (pn (nat_lit 126025825)))
 .nil) .nil (pn (nat_lit 121766241)))
 .nil))
noncomputable def dGi:Df:=⟨"UnknownFieldSet.__getitem__",{kind:= .function,names:=[("self",.local),("index",.local),("size",.local),("ValueError",.globalImplicit),("len",.globalImplicit),("IndexError",.globalImplicit),("UnknownFieldRef",.globalImplicit)],isGenerator:=false,isCoroutine:=false},129,.ref 128,["self","index","size"],[.len],[]⟩
noncomputable def bGi:Sx:=(.cons (.ifs (.cmp (.att (.loc 0 (pn (nat_lit 218284047))) "_values" (pn (nat_lit 218284055))) .Is (.non (pn (nat_lit 218546207))) (pn (nat_lit 218284063))) (.cons (.rse (.call (.gl "ValueError" (pn (nat_lit 222593052))) (.cons (.txt "UnknownFields does not exist. The parent message might be cleared." (pn (nat_lit 222773345))) .nil) (pn (nat_lit 222593122))) (pn (nat_lit 222494818)))
 .nil) .nil (pn (nat_lit 218235234)))
 (.cons (.set 2 (pn (nat_lit 226623500)) (.bn .len (pn (nat_lit 226738194)) (.cons (.att (.loc 0 (pn (nat_lit 226803735))) "_values" (pn (nat_lit 226803743))) .nil) (pn (nat_lit 226738208))) (pn (nat_lit 226623520)))
 (.cons (.ifs (.cmp (.loc 1 (pn (nat_lit 230866960))) .Lt (.num 0 (pn (nat_lit 230998036))) (pn (nat_lit 230866964))) (.cons (.aug 1 (pn (nat_lit 235077649)) .Add (.loc 2 (pn (nat_lit 235225113))) (pn (nat_lit 235077657)))
 .nil) .nil (pn (nat_lit 230818073)))
 (.cons (.ifs (.bop .Or (.cons (.cmp (.loc 1 (pn (nat_lit 239255568))) .Lt (.num 0 (pn (nat_lit 239386644))) (pn (nat_lit 239255572))) (.cons (.cmp (.loc 1 (pn (nat_lit 239468573))) .GtE (.loc 2 (pn (nat_lit 239616037))) (pn (nat_lit 239468581))) .nil)) (pn (nat_lit 239255589))) (.cons (.rse (.call (.gl "IndexError" (pn (nat_lit 243564572))) (.cons (.txt "index out of range" (pn (nat_lit 243744817))) .nil) (pn (nat_lit 243564594))) (pn (nat_lit 243466290)))
 .nil) .nil (pn (nat_lit 239206706)))
 (.cons (.ret (.call (.gl "UnknownFieldRef" (pn (nat_lit 247709726))) (.cons (.loc 0 (pn (nat_lit 247971875))) (.cons (.loc 1 (pn (nat_lit 248070186))) .nil)) (pn (nat_lit 247709739))) (pn (nat_lit 247595051)))
 .nil)))))
noncomputable def dFe:Df:=⟨"_UnknownField.__eq__",{kind:= .function,names:=[("self",.local),("other",.local)],isGenerator:=false,isCoroutine:=false},49,.ref 48,["self","other"],[],[]⟩
noncomputable def bFe:Sx:=(.cons (.ifs (.cmp (.loc 0 (pn (nat_lit 71483407))) .Is (.loc 1 (pn (nat_lit 71614488))) (pn (nat_lit 71483416))) (.cons (.ret (.tru (pn (nat_lit 75808791))) (pn (nat_lit 75694103)))
 .nil) .nil (pn (nat_lit 71434519)))
 (.cons (.ret (.bop .And (.cons (.cmp (.att (.loc 0 (pn (nat_lit 79937555))) "_field_number" (pn (nat_lit 79937569))) .Eq (.att (.loc 1 (pn (nat_lit 80298026))) "_field_number" (pn (nat_lit 80298040))) (pn (nat_lit 79937592))) (.cons (.cmp (.att (.loc 0 (pn (nat_lit 80691265))) "_wire_type" (pn (nat_lit 80691276))) .Eq (.att (.loc 1 (pn (nat_lit 81002581))) "_wire_type" (pn (nat_lit 81002592))) (pn (nat_lit 80691296))) (.cons (.cmp (.att (.loc 0 (pn (nat_lit 81363050))) "_data" (pn (nat_lit 81363056))) .Eq (.att (.loc 1 (pn (nat_lit 81592441))) "_data" (pn (nat_lit 81592447))) (pn (nat_lit 81363071))) .nil))) (pn (nat_lit 79937664))) (pn (nat_lit 79822976)))
 .nil))
noncomputable def dSq:Df:=⟨"UnknownFieldSet.__eq__",{kind:= .function,names:=[("self",.local),("other",.local),("values",.local),("other_values",.local),("list",.globalImplicit),("sorted",.globalImplicit)],isGenerator:=false,isCoroutine:=false},171,.ref 170,["self","other","values","other_values"],[.list],[]⟩
noncomputable def bSq:Sx:=(.cons (.ifs (.cmp (.loc 0 (pn (nat_lit 344113167))) .Is (.loc 1 (pn (nat_lit 344244248))) (pn (nat_lit 344113176))) (.cons (.ret (.tru (pn (nat_lit 348438551))) (pn (nat_lit 348323863)))
 .nil) .nil (pn (nat_lit 344064279)))
 (.cons (.set 2 (pn (nat_lit 352452622)) (.bn .list (pn (nat_lit 352600085)) (.cons (.att (.loc 0 (pn (nat_lit 352682010))) "_values" (pn (nat_lit 352682018))) .nil) (pn (nat_lit 352600099))) (pn (nat_lit 352452643)))
 (.cons (.ifs (.cmp (.loc 1 (pn (nat_lit 356696080))) .Is (.non (pn (nat_lit 356843544))) (pn (nat_lit 356696088))) (.cons (.ret (.una .Not (.loc 2 (pn (nat_lit 361087005))) (pn (nat_lit 361021469))) (pn (nat_lit 360906781)))
 .nil) .nil (pn (nat_lit 356647197)))
 (.cons (.set 2 (pn (nat_lit 365035534)) (.kc (.Name "sorted" (pn (nat_lit 365182999))) [(.Name "values" (pn (nat_lit 365297694)))] [⟨some "key",(.Lambda ⟨[],[⟨"field",none,(pn (nat_lit 365609008))⟩],none,[],[],none,[]⟩ (.Attribute (.Name "field" (pn (nat_lit 365723703))) "_field_number" (pn (nat_lit 365723717))) {kind:= .function,names:=[("field",.local)],isGenerator:=false,isCoroutine:=false} (pn (nat_lit 365494341))),(pn (nat_lit 365428805))⟩] (pn (nat_lit 365183046))) (pn (nat_lit 365035590)))
 (.cons (.set 3 (pn (nat_lit 369229844)) (.kc (.Name "sorted" (pn (nat_lit 369475613))) [(.Attribute (.Name "other" (pn (nat_lit 369590307))) "_values" (pn (nat_lit 369590315)))] [⟨some "key",(.Lambda ⟨[],[⟨"field",none,(pn (nat_lit 370016317))⟩],none,[],[],none,[]⟩ (.Attribute (.Name "field" (pn (nat_lit 370131012))) "_field_number" (pn (nat_lit 370131026))) {kind:= .function,names:=[("field",.local)],isGenerator:=false,isCoroutine:=false} (pn (nat_lit 369901650))),(pn (nat_lit 369836114))⟩] (pn (nat_lit 369475667))) (pn (nat_lit 369229907)))
 (.cons (.ret (.cmp (.loc 2 (pn (nat_lit 373538837))) .Eq (.loc 3 (pn (nat_lit 373702693))) (pn (nat_lit 373538853))) (pn (nat_lit 373424165)))
 .nil))))))
theorem dLn_ok:dLn.Ok:=Df.Ok.of (by decide+kernel)
theorem dCv_ok:dCv.Ok:=Df.Ok.of (by decide+kernel)
theorem dGi_ok:dGi.Ok:=Df.Ok.of (by decide+kernel)
theorem dFe_ok:dFe.Ok:=Df.Ok.of (by decide+kernel)
theorem dSq_ok:dSq.Ok:=Df.Ok.of (by decide+kernel)
structure SetFacts (w:World) (news:Led) (a dd lf:Addr) (tv:Tok) (fs:List Value) (cf:Nat):Prop where
 m1:(a,instObj 181 dd)∈news
 m2:(dd,dictOf [dEnt w (Str.ofString "_values") tv (.ref lf)] 1)∈news
 m3:(lf,listOf fs.toArray cf)∈news
theorem SetFacts.mono {w:World} {news news':Led} {a dd lf:Addr} {tv:Tok} {fs:List Value} {cf:Nat} (h:SetFacts w news a dd lf tv fs cf) (hs:∀p∈news,p∈news'):SetFacts w news' a dd lf tv fs cf:=⟨hs _ h.m1,hs _ h.m2,hs _ h.m3⟩
theorem set_lenA {w:World} {a dd lf:Addr} {tv:Tok} {fs:List Value} {cf n:Nat} (hn:fs.length=n) (hn64:n<64):KA w 1 143 [.v (.ref a)] (fun news=>SetFacts w news a dd lf tv fs cf) (fun v led=>(∃t,v= .int n t)∧led=[]):=by
 refine KA_enter (d:=dLn) (body:=bLn) dLn_ok (fun _=>rfl) (fun _=>rfl) (fun s=>lenS fun a=>lenZ (BindsTo.of_eq rfl)) rfl rfl (by decide) (by decide) ?_
 intro c X hw hx rm hm
 subst hw
 unfold bLn
 refine H_ifG (GT_cmpG (GA_att X rfl rfl (.mk (A:= .v (.ref lf)) (mR _ hm.m1) (mR _ hm.m2) (fun _=>⟨rfl,rfl,_,rfl,rfl⟩) rfl rfl rfl (GA_p X (os:=[]) rfl fun v w hv hw=>G_cmpP hv hw rfl (.mk ⟨fun h=>Bool.noConfusion h,fun _=>H_nil ?_⟩)))))
 refine H_ret (GA_len X rm (GA_att X rfl rfl (.mk (A:= .v (.ref lf)) (mR _ hm.m1) (mR _ hm.m2) (fun _=>⟨rfl,rfl,_,rfl,rfl⟩) rfl rfl rfl (.lst (.inr ⟨cf,mR _ hm.m3⟩) (by exact lin (.h 1 (.e Y0 Y1) (.h 1 (.t Y1 (.c 64)) (.G 1 (.t Y0 (.c 1048576))))) rfl [_,_] [] hn hn64) fun v hv=> ?_))))
 obtain ⟨t,rfl⟩:=AV.has_i hv
 exact fin_pass ⟨⟨t,by rw[hn]⟩,rfl⟩ no_mem
theorem ref_validA {w:World} {x xd a dd lf:Addr} {tv t1 t2 t3:Tok} {fs:List Value} {cf i n:Nat} (hn:fs.length=n) (hn64:n<64) (hi:i<n):KA w 3 77 [.v (.ref x)] (fun news=>SetFacts w news a dd lf tv fs cf∧(x,instObj 104 xd)∈news∧(xd,dictOf [dEnt w (Str.ofString "_parent") t1 (.ref a),dEnt w (Str.ofString "_index") t2 (.int (i:Int) t3)] 2)∈news)
  fun u led=>u= .none∧led=[]:=by
 refine KA_enter (d:=dCv) (body:=bCv) dCv_ok (fun _=>rfl) (fun _=>rfl) (fun s=>lenS fun a=>lenZ (BindsTo.of_eq rfl)) rfl rfl (by decide) (by decide) ?_
 intro c X hw hx rm hm
 obtain ⟨hs,m4,m5⟩:=hm
 subst hw
 unfold bCv
 have LEN:∀{vs Q},Q (.i n) ⟨vs,[],[]⟩→LenQ c 3 Q (.v (.ref a)) ⟨vs,[],[]⟩:=fun k=> .ins (mR _ hs.m1) (mR _ hs.m2) (fun _=>⟨rfl,rfl⟩) (set_lenA (dd:=dd) (lf:=lf) (tv:=tv) (cf:=cf) hn hn64) (by decide) (fun bs kp _=>hs.mono fun p h=>in4 h) (by exact lin (.h 1 (.t Y0 (.c 64)) (.G 1 (.t Y0 (.c 1048576)))) rfl [_] [] hn64) k
 refine H_ifG (GT_cmpG (GA_len X rm (GA_att X rfl rfl (.mk (A:= .v (.ref a)) (mR _ m4) (mR _ m5) (fun _=>⟨rfl,rfl,_,rfl,rfl⟩) rfl rfl rfl (LEN (GA_p X (os:=[]) rfl fun v w hv hw=>G_cmpP hv hw rfl (.mk ⟨fun h=>absurd (eq_of_beq h) (by exact fun eN=>lin (.h 1 (.t Y0 Y1) (.h 1 (.E Y1 (.c 0)) .F)) rfl [_,_] [] hi eN),fun _=>H_nil ?_⟩)))))))
 refine H_ifG (GT_cmpG (GA_att X rfl rfl (.mk (A:= .i i) (mR _ m4) (mR _ m5) (fun _=>⟨rfl,rfl,_,rfl,rfl⟩) rfl rfl ⟨t3,rfl⟩ (GA_len X rm (GA_att X rfl rfl (.mk (A:= .v (.ref a)) (mR _ m4) (mR _ m5) (fun _=>⟨rfl,rfl,_,rfl,rfl⟩) rfl rfl rfl (LEN fun v w hv hw=>G_cmpP hv hw rfl (.mk ⟨fun h=>absurd (of_decide_eq_true h) (by exact lin (.h 1 (.t Y1 Y0) (.G 1 (.nL Y0 Y1))) rfl [_,_] [] hi),fun _=>H_nil (H_nil ?_)⟩))))))))
 exact fun _ _=>⟨[],⟨rfl,rfl⟩,no_mem⟩
theorem ref_valid {w:World} {x xd a dd lf:Addr} {tv t1 t2 t3:Tok} {fs:List Value} {cf i n:Nat} (hn:fs.length=n) (hn64:n<64) (hi:i<n):Kon w 3 77 [.ref x] (fun news=>SetFacts w news a dd lf tv fs cf∧(x,instObj 104 xd)∈news∧(xd,dictOf [dEnt w (Str.ofString "_parent") t1 (.ref a),dEnt w (Str.ofString "_index") t2 (.int (i:Int) t3)] 2)∈news)
  fun u led=>u= .none∧led=[]:=ref_validA hn hn64 hi _ (.v .nil)
section
variable {prog:Program} {w:World} {A:Around} {E:Value→Shared→Prop} {s:Shared} {h₀:Heap} {L l:Addr}
theorem item_led {value slice:PySem.Expr} {news:Led} {us:List Value} {n i:Nat} {u:Tok} {v:Value} {Q:Value→Shared→Prop} (N:News h₀ L s.heap news) (hm:(l,listOf us.toArray n)∈news) (he:us.toArray[i]? =some v)
  (hfit:i<2 ^ 60) (h:Q v s) (hs:subscripted slice false (.ref l) (.int (i:Int) u)=operate [.ref l,.int (i:Int) u] (getItem (.ref l) (.int (i:Int) u)):=by with_unfolding_all rfl):
  wpAny (model prog w) A (subscriptTail value slice (.ref l) (.int (i:Int) u)) Q E s:=by
 have hl:s.heap.IsList l us.toArray:=⟨_,(N _ hm).1,rfl,n,rfl⟩
 exact tail_any hl.typeIs slot_list_getitem.lookup (wpAny_getItem_list hl (by omega) (by exact lin (.h 1 (.t Y0 (.c 1152921504606846976)) (.G 1 (.T Y0 (.c 9223372036854775808)))) rfl [_] [] hfit) (by simpa using he) h) hs
end
theorem stS {M:Model} {A:Around} {a b c t Q E s} {n:Nat} (h:wpAny M A (subscriptTail a b (Value.ref c) (Value.int (Nat.cast n) t)) Q E s):wpAny M A (subscriptTail a b (Value.ref c) (Value.int (Nat.cast n) t)) Q E s:=h
local macro_rules | `(tactic| walk_at "subscriptTail Attribute") => `(tactic| walk_at "subscriptTail")
local macro_rules | `(tactic| walk_at "subscriptTail") => `(tactic| (k_here; (with_reducible apply stS); k_dflt (refine' item_led (by k_asm) (by k_mem) (by with_reducible assumption) (by omega) ?_)))
set_option maxHeartbeats 4000000
inductive RefR (w:World) (a:Addr) (n:Int):Value→Led→Prop
 |mk {x xd t1 t2 t3}:RefR w a n (.ref x) [(x,instObj 104 xd),(xd,dictOf [dEnt w (Str.ofString "_parent") t1 (.ref a),dEnt w (Str.ofString "_index") t2 (.int n t3)] 2)]
theorem newRef {w:World} {a:Addr} {n:Int}:KA w 3 104 [.v (.ref a),.i n] (fun _=>True) (RefR w a n):=by
 intro vals hvs p loose mean mg mb dp un gd cn cs a2 ccd cl outer A₀ base h₀ L m s Q E news B F X N T hk hd hu _ ret
 obtain ⟨v1,_,e1,hv1,hvs⟩:=hvs.cons
 obtain ⟨v2,_,e2,hv2,hvs⟩:=hvs.cons
 obtain ⟨t,hv2⟩:=AV.has_i hv2
 rw[e1,e2,hvs.none,AV.has_v hv1,hv2]
 refine call_cls F X N (by k_is) (by k_is) (by k_is) ?_
 intro x dx h1 F1 N1 l1 l2
 k_dflt (refine' code_def (binds:=[(Str.ofString "self",.ref x),(Str.ofString "parent",.ref a),(Str.ofString "index",.int n t)]) B F1 X N1 T rfl rfl hk ?k6 ?k7 (by show dp+1<recursionLimit;(exact lin (.h 1 (.t (.a Y0 (.c 3)) Y1) (.G 1 (.t (.a Y0 (.c 1)) Y1))) rfl [_,_] [] hd)) ?k9 ?kB ?_ ?c2 ?c3 ?c4 ?c5)
 walk_at "in"
 intro g' L' h' FG' F' N' B' X' T'
 (try dsimp only);(try k_fold)
 walk_at "go"
 rename_i kF kN kT kX
 exact ret _ _ _ _ kF kN .mk fun q hq=>fC ⟨Nat.lt_trans (l1 q hq) l2,fC ⟨l1 q hq,allP⟩⟩
theorem set_get {w:World} {a dd lf:Addr} {tv t:Tok} {fs:List Value} {cf i:Nat} {v:Value} (he:fs.toArray[i]? =some v) (hi:i<64):Kon w 1 136 [.ref a,.int (i:Int) t] (fun news=>SetFacts w news a dd lf tv fs cf)
  fun u led=>u=v∧led=[]:=by
 intro p loose mean mg mb dp un gd cn cs a2 ccd cl outer A₀ base h₀ L m s Q E news B F X N T hk hd hu hm ret
 obtain ⟨m1,m2,m3⟩:=hm
 refine wpAny_call ?_
 k_dflt (refine' code_def (binds:=[(Str.ofString "self",.ref a),(Str.ofString "index",.int (i:Int) t)]) B F X N T rfl rfl hk ?k6 ?k7 (by show dp<recursionLimit;(exact lin (.h 1 (.t (.a Y0 (.c 1)) Y1) (.G 1 (.t Y0 Y1))) rfl [_,_] [] hd)) ?k9 ?kB ?_ ?c2 ?c3 ?c4 ?c5)
 walk_at "in"
 intro g' L' h' FG' F' N' B' X' T'
 (try dsimp only);(try k_fold)
 walk_at "go"
 rename_i kF kN kT kX
 exact ret v [] _ _ kF kN ⟨rfl,rfl⟩ (fun _ _ _ h=>absurd h List.not_mem_nil)
local macro_rules | `(tactic| walk_at "getAttr ref") => `(tactic| (k_here; k_dflt (refine' get_prop (by k_asm) (by k_asm) (by k_inst) (by k_is) (by k_is) (by k_is) (by k_is) (by k_is) (by k_is) ?_; k_whole)))
noncomputable abbrev Kod (w:World) (k:Nat) (f:Addr) (vals:List Value) (need:Led→Prop) (v:Value):Prop:=
 ∀⦃p:Program⦄ ⦃loose:List Str⦄ ⦃mean:ExcName→Option Value⦄ ⦃mg mb:Str→Option Value⦄ ⦃dp un:Nat⦄ ⦃gd:Option (List Code)⦄ ⦃cn:Str⦄ ⦃cs:Scope⦄ ⦃a:Addr⦄ ⦃ccd:Value⦄ ⦃cl:List (Str×Addr)⦄ ⦃outer:List Env⦄ ⦃A₀:Around⦄ ⦃base h₀:Heap⦄ ⦃L:Addr⦄ ⦃m:Str→Option Value⦄ ⦃s:Shared⦄ ⦃R:Result→Shared→Prop⦄ ⦃news:Led⦄,
  Below A₀ base outer h₀→Fr h₀ L s.heap m→(Mine.kf w.params).In h₀→News h₀ L s.heap news→Top p loose mean mg mb h₀→cs.kind= .function→
  dp+k<recursionLimit→un+20*k+200<cLine→need news→
  (∀h' tk',Fr h₀ L h' m→News h₀ L h' news→R (.ok (.ret v)) {s with heap:=h',toks:=tk'})→
  codeAny (model PR w) (ktrTop dp un gd cn cs L a ccd cl outer) (.call (.ref f) ⟨vals,[]⟩) R s
theorem ref_data {w:World} {x xd a dd lf fa fd:Addr} {tv t1 t2 t3 u1 u2 u3 k1 k2:Tok} {fs:List Value} {cf i n:Nat} {r1 r2:Int} {V:Value} (hn:fs.length=n) (hn64:n<64) (hi:i<n) (he:fs.toArray[i]? =some (.ref fa)) (hV:handedIn V=true):
  Kod w 5 100 [.ref x] (fun news=>SetFacts w news a dd lf tv fs cf∧(x,instObj 104 xd)∈news∧(xd,dictOf [dEnt w (Str.ofString "_parent") t1 (.ref a),dEnt w (Str.ofString "_index") t2 (.int (i:Int) t3)] 2)∈news∧(fa,instObj 52 fd)∈news∧
   (fd,dictOf [dEnt w (Str.ofString "_field_number") u1 (.int r1 k1),dEnt w (Str.ofString "_wire_type") u2 (.int r2 k2),dEnt w (Str.ofString "_data") u3 V] 3)∈news)
  V:=by
 intro p loose mean mg mb dp un gd cn cs a2 ccd cl outer A₀ base h₀ L m s R news B F X N T hk hd hu hm ret
 obtain ⟨hs,m4,m5,m6,m7⟩:=hm
 obtain ⟨n1,n2,n3⟩:=id hs
 k_dflt (refine' code_def (binds:=[(Str.ofString "self",.ref x)]) B F X N T rfl rfl hk ?k6 ?k7 (by show dp<recursionLimit;(exact lin (.h 1 (.t (.a Y0 (.c 5)) Y1) (.G 1 (.t Y0 Y1))) rfl [_,_] [] hd)) ?k9 ?kB ?_ ?c2 ?c3 ?c4 ?c5)
 walk_at "in"
 intro g' L' h' FG' F' N' B' X' T'
 (try dsimp only);(try k_fold)
 walk_at "go"
 (try dsimp only)
 refine ref_valid hn hn64 hi B' (by assumption) X' (by assumption) T' rfl ?hd ?hu ⟨hs,m4,m5⟩ ?ret
 case hd=>show dp+1+3<recursionLimit;(exact lin (.h 1 (.t (.a Y0 (.c 5)) Y1) (.G 1 (.t (.a (.a Y0 (.c 1)) (.c 3)) Y1))) rfl [_,_] [] hd)
 case hu=>show un+3+20*3+200<cLine;(exact lin (.h 1 (.t (.a (.a Y0 (.r 20 (.c 5))) (.c 200)) Y1) (.G 1 (.t (.a (.a (.a Y0 (.c 3)) (.r 20 (.c 3))) (.c 200)) Y1))) rfl [_,_] [] hu)
 case ret=>
  rintro _ _ h2 tk2 F2 N2 ⟨rfl,rfl⟩ _
  rw[List.nil_append] at N2
  walk_at "go"
  refine set_get he (by exact lin (.h 1 (.t Y1 (.c 64)) (.h 1 (.t Y0 Y1) (.G 1 (.t Y0 (.c 64))))) rfl [_,_] [] hn64 hi) B' (by assumption) X' (by assumption) T' rfl ?hd ?hu hs ?ret
  case hd=>show dp+1+1<recursionLimit;(exact lin (.h 1 (.t (.a Y0 (.c 5)) Y1) (.G 1 (.t (.a (.a Y0 (.c 1)) (.c 1)) Y1))) rfl [_,_] [] hd)
  case hu=>show un+3+20*1+200<cLine;(exact lin (.h 1 (.t (.a (.a Y0 (.r 20 (.c 5))) (.c 200)) Y1) (.G 1 (.t (.a (.a (.a Y0 (.c 3)) (.r 20 (.c 1))) (.c 200)) Y1))) rfl [_,_] [] hu)
  case ret=>
   rintro _ _ h3 tk3 F3 N3 ⟨rfl,rfl⟩ _
   rw[List.nil_append] at N3
   walk_at "go"
   k_dflt (refine' get_own ?a1 ?a2 ?a3 ?a4 ?a5 ?a6 ?a7 ?a8 hV ?_;(case a1=>k_asm);(case a2=>k_asm);(case a3=>k_inst);(case a4=>k_is);(case a5=>k_is);(case a6=>k_is);(case a7=>k_is);(case a8=>k_get);k_whole)
   walk_at "go"
   rename_i kF kN kT kX
   exact ret _ _ kF kN
theorem ref_wire {w:World} {x xd a dd lf fa fd:Addr} {tv t1 t2 t3 u1 u2 u3 k1 k2:Tok} {fs:List Value} {cf i n:Nat} {r1 r2:Int} {V:Value} (hn:fs.length=n) (hn64:n<64) (hi:i<n) (he:fs.toArray[i]? =some (.ref fa)):
  Kod w 5 92 [.ref x] (fun news=>SetFacts w news a dd lf tv fs cf∧(x,instObj 104 xd)∈news∧(xd,dictOf [dEnt w (Str.ofString "_parent") t1 (.ref a),dEnt w (Str.ofString "_index") t2 (.int (i:Int) t3)] 2)∈news∧(fa,instObj 52 fd)∈news∧
   (fd,dictOf [dEnt w (Str.ofString "_field_number") u1 (.int r1 k1),dEnt w (Str.ofString "_wire_type") u2 (.int r2 k2),dEnt w (Str.ofString "_data") u3 V] 3)∈news)
  (.int r2 k2):=by
 intro p loose mean mg mb dp un gd cn cs a2 ccd cl outer A₀ base h₀ L m s R news B F X N T hk hd hu hm ret
 obtain ⟨hs,m4,m5,m6,m7⟩:=hm
 obtain ⟨n1,n2,n3⟩:=id hs
 k_dflt (refine' code_def (binds:=[(Str.ofString "self",.ref x)]) B F X N T rfl rfl hk ?k6 ?k7 (by show dp<recursionLimit;(exact lin (.h 1 (.t (.a Y0 (.c 5)) Y1) (.G 1 (.t Y0 Y1))) rfl [_,_] [] hd)) ?k9 ?kB ?_ ?c2 ?c3 ?c4 ?c5)
 walk_at "in"
 intro g' L' h' FG' F' N' B' X' T'
 (try dsimp only);(try k_fold)
 walk_at "go"
 (try dsimp only)
 refine ref_valid hn hn64 hi B' (by assumption) X' (by assumption) T' rfl ?hd ?hu ⟨hs,m4,m5⟩ ?ret
 case hd=>show dp+1+3<recursionLimit;(exact lin (.h 1 (.t (.a Y0 (.c 5)) Y1) (.G 1 (.t (.a (.a Y0 (.c 1)) (.c 3)) Y1))) rfl [_,_] [] hd)
 case hu=>show un+3+20*3+200<cLine;(exact lin (.h 1 (.t (.a (.a Y0 (.r 20 (.c 5))) (.c 200)) Y1) (.G 1 (.t (.a (.a (.a Y0 (.c 3)) (.r 20 (.c 3))) (.c 200)) Y1))) rfl [_,_] [] hu)
 case ret=>
  rintro _ _ h2 tk2 F2 N2 ⟨rfl,rfl⟩ _
  rw[List.nil_append] at N2
  walk_at "go"
  refine set_get he (by exact lin (.h 1 (.t Y1 (.c 64)) (.h 1 (.t Y0 Y1) (.G 1 (.t Y0 (.c 64))))) rfl [_,_] [] hn64 hi) B' (by assumption) X' (by assumption) T' rfl ?hd ?hu hs ?ret
  case hd=>show dp+1+1<recursionLimit;(exact lin (.h 1 (.t (.a Y0 (.c 5)) Y1) (.G 1 (.t (.a (.a Y0 (.c 1)) (.c 1)) Y1))) rfl [_,_] [] hd)
  case hu=>show un+3+20*1+200<cLine;(exact lin (.h 1 (.t (.a (.a Y0 (.r 20 (.c 5))) (.c 200)) Y1) (.G 1 (.t (.a (.a (.a Y0 (.c 3)) (.r 20 (.c 1))) (.c 200)) Y1))) rfl [_,_] [] hu)
  case ret=>
   rintro _ _ h3 tk3 F3 N3 ⟨rfl,rfl⟩ _
   rw[List.nil_append] at N3
   walk_at "go"
   rename_i kF kN kT kX
   exact ret _ _ kF kN
theorem ref_num {w:World} {x xd a dd lf fa fd:Addr} {tv t1 t2 t3 u1 u2 u3 k1 k2:Tok} {fs:List Value} {cf i n:Nat} {r1 r2:Int} {V:Value} (hn:fs.length=n) (hn64:n<64) (hi:i<n) (he:fs.toArray[i]? =some (.ref fa)):
  Kod w 5 84 [.ref x] (fun news=>SetFacts w news a dd lf tv fs cf∧(x,instObj 104 xd)∈news∧(xd,dictOf [dEnt w (Str.ofString "_parent") t1 (.ref a),dEnt w (Str.ofString "_index") t2 (.int (i:Int) t3)] 2)∈news∧(fa,instObj 52 fd)∈news∧
   (fd,dictOf [dEnt w (Str.ofString "_field_number") u1 (.int r1 k1),dEnt w (Str.ofString "_wire_type") u2 (.int r2 k2),dEnt w (Str.ofString "_data") u3 V] 3)∈news)
  (.int r1 k1):=by
 intro p loose mean mg mb dp un gd cn cs a2 ccd cl outer A₀ base h₀ L m s R news B F X N T hk hd hu hm ret
 obtain ⟨hs,m4,m5,m6,m7⟩:=hm
 obtain ⟨n1,n2,n3⟩:=id hs
 k_dflt (refine' code_def (binds:=[(Str.ofString "self",.ref x)]) B F X N T rfl rfl hk ?k6 ?k7 (by show dp<recursionLimit;(exact lin (.h 1 (.t (.a Y0 (.c 5)) Y1) (.G 1 (.t Y0 Y1))) rfl [_,_] [] hd)) ?k9 ?kB ?_ ?c2 ?c3 ?c4 ?c5)
 walk_at "in"
 intro g' L' h' FG' F' N' B' X' T'
 (try dsimp only);(try k_fold)
 walk_at "go"
 (try dsimp only)
 refine ref_valid hn hn64 hi B' (by assumption) X' (by assumption) T' rfl ?hd ?hu ⟨hs,m4,m5⟩ ?ret
 case hd=>show dp+1+3<recursionLimit;(exact lin (.h 1 (.t (.a Y0 (.c 5)) Y1) (.G 1 (.t (.a (.a Y0 (.c 1)) (.c 3)) Y1))) rfl [_,_] [] hd)
 case hu=>show un+3+20*3+200<cLine;(exact lin (.h 1 (.t (.a (.a Y0 (.r 20 (.c 5))) (.c 200)) Y1) (.G 1 (.t (.a (.a (.a Y0 (.c 3)) (.r 20 (.c 3))) (.c 200)) Y1))) rfl [_,_] [] hu)
 case ret=>
  rintro _ _ h2 tk2 F2 N2 ⟨rfl,rfl⟩ _
  rw[List.nil_append] at N2
  walk_at "go"
  refine set_get he (by exact lin (.h 1 (.t Y1 (.c 64)) (.h 1 (.t Y0 Y1) (.G 1 (.t Y0 (.c 64))))) rfl [_,_] [] hn64 hi) B' (by assumption) X' (by assumption) T' rfl ?hd ?hu hs ?ret
  case hd=>show dp+1+1<recursionLimit;(exact lin (.h 1 (.t (.a Y0 (.c 5)) Y1) (.G 1 (.t (.a (.a Y0 (.c 1)) (.c 1)) Y1))) rfl [_,_] [] hd)
  case hu=>show un+3+20*1+200<cLine;(exact lin (.h 1 (.t (.a (.a Y0 (.r 20 (.c 5))) (.c 200)) Y1) (.G 1 (.t (.a (.a (.a Y0 (.c 3)) (.r 20 (.c 1))) (.c 200)) Y1))) rfl [_,_] [] hu)
  case ret=>
   rintro _ _ h3 tk3 F3 N3 ⟨rfl,rfl⟩ _
   rw[List.nil_append] at N3
   walk_at "go"
   rename_i kF kN kT kX
   exact ret _ _ kF kN
theorem isinst_i {w:World} {A:Around} {E:Value→Shared→Prop} {s:Shared} {h₀:Heap} {L:Addr} {m:Str→Option Value} {n:Int} {t:Tok} {Q:Value→Shared→Prop} (F:Fr h₀ L s.heap m) (X:(Mine.kf w.params).In h₀) (h:∀tk,Q (.bool false) {s with toks:=tk}):wpAny (model PR w) A (call (.builtin "isinstance") [.int n t,.ref 181]) Q E s:=by
 walk1
 exact h _
theorem isinst_b {w:World} {A:Around} {E:Value→Shared→Prop} {s:Shared} {h₀:Heap} {L:Addr} {m:Str→Option Value} {b:Array UInt8} {t:Tok} {Q:Value→Shared→Prop} (F:Fr h₀ L s.heap m) (X:(Mine.kf w.params).In h₀) (h:∀tk,Q (.bool false) {s with toks:=tk}):wpAny (model PR w) A (call (.builtin "isinstance") [.bytes b t,.ref 181]) Q E s:=by
 walk1
 exact h _
theorem isinst_s {w:World} {A:Around} {E:Value→Shared→Prop} {s:Shared} {h₀:Heap} {L a dx:Addr} {od:Obj} {m:Str→Option Value} {Q:Value→Shared→Prop} (F:Fr h₀ L s.heap m) (X:(Mine.kf w.params).In h₀) {news:Led} (N:News h₀ L s.heap news) (m1:(a,instObj 181 dx)∈news) (m2:(dx,od)∈news) (h:∀tk,Q (.bool true) {s with toks:=tk}):wpAny (model PR w) A (call (.builtin "isinstance") [.ref a,.ref 181]) Q E s:=by
 walk1
 exact h _
section
variable {d:Df} {c:Cx} {kp:Kp} {σ:St}
noncomputable abbrev PrpC (C:Addr) (x:Str) (fg:Addr):Prop:=∀P,plainGet (Mine.kf P) C x=true∧hasDictIn (Mine.kf P) C=true∧∃pf rest,findIn (Mine.kf P) (.ref C) x=some (some (.ref pf))∧specialIn (Mine.kf P) (.ref pf) "__get__"=some (some (.builtin "property.__get__"))∧takesIn (Mine.kf P) (.ref pf)=some true∧recIn (Mine.kf P) pf "property"=some (.ref fg::rest)
inductive PrpQ (c:Cx) (K:Nat) (x:Str) (Q:AV→St→Prop):AV→St→Prop
 |mk {a C dx fg:Addr} {od:Obj} {k:Nat} {v:Value} {A:AV} {need:Led→Prop} {σ:St}:(a,instObj C dx)∈σ.ex++c.news→(dx,od)∈σ.ex++c.news→PrpC C x fg→Kod c.w k fg [.ref a] need v→k<K→(∀bs (kp:Kp),Bs σ.ab bs→need (bs++c.all kp σ))→handedIn v=true→A.has v→Q A σ→PrpQ c K x Q (.v (.ref a)) σ
theorem GA_prp (X:Fx d c) {e:Ex} {x:Str} {p:Pos} {K:Nat} {Q:AV→St→Prop} (rm:Rm c K) (h:GA d c e (PrpQ c K x Q) σ) (he:eval (.Attribute (ux d.names e).1 x p) (c.env d)=(do
   let o ←eval (ux d.names e).1 (c.env d)
   standAt p.atName
   let r ←holding [o] (getAttr o x true)
   letTemporaryGo (ux d.names e).1 o r
   pure r):=by with_unfolding_all rfl):GA d c (.att e x p) Q σ:=fun kp hp tk K=>Attribute_any_ (h.run K fun v y h' σ' tk' hy K' q=>by
 cases q with
 |mk m1 m2 hC C' hk hn hv ha k=>
  obtain ⟨c1,c2,pf,rest,c3,c4,c5,c6⟩:=hC c.w.params
  rw[AV.has_v hy]
  exact K'.open fun m bs F V B N=>get_prop F X.inn (InstAt.of_news N (mR _ (mem3 m1)) (mR _ (mem3 m2))) c1 c2 c3 c4 c5 c6 (C' X.below F X.inn N X.top X.ok.kind (rm.call1 hk).1 (rm.call1 hk).2 (hn bs kp B) fun h2 tk2 F2 N2=>handed_on hv (postA (K'.same V B F2 N2) ha k))) he
theorem HS_ifG {t:Ex} {a b:Sx} {p:Pos} {Q:Flow→St→Prop} (h:GT d c t (fun v σ=>(v=true→H d c a Q σ)∧(v=false→H d c b Q σ)) σ):HS d c (.ifs t a b p) Q σ:=fun kp hp tk K=>
 wpAny_If (G.run h K fun v h' σ' tk' K' q=>by
  cases v with
  |true=>exact q.1 rfl kp h' tk' K'
  |false=>exact q.2 rfl kp h' tk' K')
end
theorem set_itemA {w:World} {a dd lf:Addr} {tv:Tok} {fs:List Value} {cf i n:Nat} (hn:fs.length=n) (hn64:n<64) (hi:i<n):KA w 4 129 [.v (.ref a),.i (i:Int)] (fun news=>SetFacts w news a dd lf tv fs cf) (RefR w a i):=by
 refine KA_enter (d:=dGi) (body:=bGi) dGi_ok (fun _=>rfl) (fun _=>rfl) (fun s=>lenS fun a=>lenS fun b=>lenZ (BindsTo.of_eq rfl)) rfl rfl (by decide) (by decide) ?_
 intro c X hw hx rm hm
 subst hw
 unfold bGi
 refine H_ifG (GT_cmpG (GA_att X rfl rfl (.mk (A:= .v (.ref lf)) (mR _ hm.m1) (mR _ hm.m2) (fun _=>⟨rfl,rfl,_,rfl,rfl⟩) rfl rfl rfl (GA_p X (os:=[]) rfl fun v w hv hw=>G_cmpP hv hw rfl (.mk ⟨fun h=>Bool.noConfusion h,fun _=>H_nil ?_⟩)))))
 refine H_set X (GA_len X rm (GA_att X rfl rfl (.mk (A:= .v (.ref lf)) (mR _ hm.m1) (mR _ hm.m2) (fun _=>⟨rfl,rfl,_,rfl,rfl⟩) rfl rfl rfl (.lst (.inr ⟨cf,mR _ hm.m3⟩) (by exact lin (.h 1 (.e Y0 Y1) (.h 1 (.t Y1 (.c 64)) (.G 1 (.t Y0 (.c 1048576))))) rfl [_,_] [] hn hn64) ?_))))
 refine H_ifs X (os:=[]) rfl (fun h=>absurd (of_decide_eq_true h) (by exact lin (.G 1 (.nT Y0 (.c 0))) rfl [_] [])) fun _=>H_nil (H_ifs X (os:=[]) rfl (fun h=> ?_) fun _=>H_nil ?_)
 ·rcases Bool.or_eq_true_iff.mp h with h|h
  ·exact absurd (of_decide_eq_true h) (by exact lin (.G 1 (.nT Y0 (.c 0))) rfl [_] [])
  ·exact absurd (of_decide_eq_true h) (by exact lin (.h 1 (.d Y0 Y2) (.h 1 (.t Y1 Y2) (.G 1 (.nL Y0 Y1)))) rfl [_,_,_] [] hn hi)
 ·exact H_retK X (f:=104) ⟨rfl,fun _=>rfl,fun _=>rfl,by decide⟩ rm (by decide) (GL_p X (os:=[]) rfl (.mk (fun _=>True) newRef fun _ _ _=>trivial))
noncomputable abbrev ShK (w:World) (d:Nat):Prop:=∀(e:Nat) (rows:List Rw) (a:Addr),Good d rows→KA w (d+6) 404 [.v (.ref a)] (fun news=>SetAt w e news rows a) fun v led=>∃l,v= .ref l∧RowsAt d led rows l
noncomputable def dAv (D:Dat) (V:Value):AV:=match D with
 | .num x=> .i x
 |_=> .v V
theorem law_shown {w:World}:∀d,d≤100→ShK w d:=by
 intro d
 induction d with
 |zero=>intro _ _ _ _ h;exact h.elim
 |succ d ih=>
 intro hd100 e rows a hgood
 refine KA_enter (d:=dSh) (body:=bSh) dSh_ok (fun _=>rfl) (fun _=>rfl) (fun s=>lenS fun a=>lenZ (BindsTo.of_eq rfl)) rfl rfl (by decide) (Nat.succ_pos _) ?_
 intro c X hw hx rm hm
 subst hw
 cases e with
 |zero=>exact hm.elim
 |succ e=>
 have hlen:=hgood.1
 obtain ⟨dd,tv,lf,fs,cf,m1,m2,m3,hE⟩:=hm
 have hfl:=hE.length.symm
 have SF:SetFacts c.w c.news a dd lf tv fs cf:=⟨m1,m2,m3⟩
 have nx:∀r,¬ c.xs r:=fun r h=>by rw[hx] at h;exact h
 unfold bSh
 refine H_set X (GA_nilS fun lr=> ?_)
 refine H_forG X (fun i (y:List Value×Led)=>⟨[some (.v (.ref a)),some (.v (.ref lr))],[(lr,seqP y.1)],y.2⟩) (fun i y=>Each (RowAt (RowsAt d) y.2) (rows.take i) y.1) ([],[]) (n:=rows.length) rfl (GA_len X rm (GA_p X (os:=[]) rfl (.ins (mR _ m1) (mR _ m2) (fun _=>⟨rfl,rfl⟩) (set_lenA (dd:=dd) (lf:=lf) (tv:=tv) (cf:=cf) hfl hlen) (by exact lin (.G 1 (.t (.c 1) (.a (.a Y0 (.c 1)) (.c 6)))) rfl [_] []) (fun bs kp _=>SF.mono fun p h=>in4 h) (by exact lin (.h 1 (.t Y0 (.c 64)) (.G 1 (.t Y0 (.c 1048576)))) rfl [_] [] hlen) (.mk ⟨.keep (.keep .nil),.refl _,no_mem⟩ .nil)))) (by exact lin (.h 1 (.t Y0 (.c 64)) (.G 1 (.t Y0 (.c 1152921504606846976)))) rfl [_] [] hlen) ?_ ?_
 ·rintro i ⟨vs,TL⟩ hi hEt
  obtain ⟨r,v,e1,e2,hF⟩:=hE.get i (by exact lin (.h 1 (.d Y1 Y2) (.h 1 (.t Y0 Y2) (.G 1 (.t Y0 Y1)))) rfl [_,_,_] [] hfl hi)
  obtain ⟨fa,fd,t1,t2,t3,k1,k2,V,rfl,f1,f2,hD⟩:=hF
  have e3:fs.toArray[i]? =some (.ref fa):=by simpa using e2
  have hV:handedIn V=true∧(dAv r.2.2 V).has V:=by
   revert hD
   generalize r.2.2=x
   cases x with
   |num x=>rintro ⟨t,rfl⟩;exact ⟨rfl,t,rfl⟩
   |byt b=>rintro ⟨_,rfl⟩;exact ⟨rfl,rfl⟩
   |grp g=>rintro ⟨_,rfl,_⟩;exact ⟨rfl,rfl⟩
  have hgr:=hgood.2 r (List.mem_of_getElem? e1)
  have ITEM:∀{q1 q2 q3 vs' ab' ex'} {Q:AV→St→Prop},nth vs' 0=some (some (.v (.ref a)))→nth vs' 2=some (some (.i (i:Int)))→(∀x xd t1 t2 t3,Q (.v (.ref x)) ⟨vs',ab',[(x,instObj 104 xd),(xd,dictOf [dEnt c.w (Str.ofString "_parent") t1 (.ref a),dEnt c.w (Str.ofString "_index") t2 (.int (i:Int) t3)] 2)]++ex'⟩)→GA dSh c (.sub (.loc 0 q1) (.loc 2 q2) q3) Q ⟨vs',ab',ex'⟩:=fun {q1 q2 q3 vs' ab' ex' Q} h0 h2 k=>
   GA_subI X rm rfl h0 rfl h2 (.mk rfl (mR _ m1) (mR _ m2) (fun _=>⟨rfl,rfl,rfl⟩) (set_itemA (dd:=dd) (lf:=lf) (tv:=tv) (cf:=cf) hfl hlen hi) (by exact lin (.G 1 (.t (.c 4) (.a (.a Y0 (.c 1)) (.c 6)))) rfl [_] []) (fun bs kp _=>SF.mono fun p h=>in4 h) fun v led hr=>by
    cases hr with
    |mk=>exact ⟨.v (.ref _),rfl,k _ _ _ _ _⟩)
  have NEED:∀{x xd t1' t2' t3' vs' ab' ex'} bs (kp:Kp),SetFacts c.w (bs++c.all kp ⟨vs',ab',[(x,instObj 104 xd),(xd,dictOf [dEnt c.w (Str.ofString "_parent") t1' (.ref a),dEnt c.w (Str.ofString "_index") t2' (.int (i:Int) t3')] 2)]++ex'⟩) a dd lf tv fs cf∧(x,instObj 104 xd)∈bs++c.all kp ⟨vs',ab',[(x,instObj 104 xd),(xd,dictOf [dEnt c.w (Str.ofString "_parent") t1' (.ref a),dEnt c.w (Str.ofString "_index") t2' (.int (i:Int) t3')] 2)]++ex'⟩∧
    (xd,dictOf [dEnt c.w (Str.ofString "_parent") t1' (.ref a),dEnt c.w (Str.ofString "_index") t2' (.int (i:Int) t3')] 2)∈bs++c.all kp ⟨vs',ab',[(x,instObj 104 xd),(xd,dictOf [dEnt c.w (Str.ofString "_parent") t1' (.ref a),dEnt c.w (Str.ofString "_index") t2' (.int (i:Int) t3')] 2)]++ex'⟩∧(fa,instObj 52 fd)∈bs++c.all kp ⟨vs',ab',[(x,instObj 104 xd),(xd,dictOf [dEnt c.w (Str.ofString "_parent") t1' (.ref a),dEnt c.w (Str.ofString "_index") t2' (.int (i:Int) t3')] 2)]++ex'⟩∧
    (fd,dictOf [dEnt c.w (Str.ofString "_field_number") t1 (.int r.1 k1),dEnt c.w (Str.ofString "_wire_type") t2 (.int r.2.1 k2),dEnt c.w (Str.ofString "_data") t3 V] 3)∈bs++c.all kp ⟨vs',ab',[(x,instObj 104 xd),(xd,dictOf [dEnt c.w (Str.ofString "_parent") t1' (.ref a),dEnt c.w (Str.ofString "_index") t2' (.int (i:Int) t3')] 2)]++ex'⟩:=
   fun bs kp=>⟨SF.mono fun p h=>in4 h,mR _ (.head _),mR _ (.tail _ (.head _)),in4 f1,in4 f2⟩
  refine H_set X (GA_prp X rm (ITEM rfl rfl fun x xd u1 u2 u3=> .mk (.head _) (.tail _ (.head _)) (fun _=>⟨rfl,rfl,_,_,rfl,rfl,rfl,rfl⟩) (ref_data hfl hlen hi e3 hV.1) (by exact lin (.G 1 (.t (.c 5) (.a (.a Y0 (.c 1)) (.c 6)))) rfl [_] []) (fun bs kp _=>NEED bs kp) hV.1 hV.2 ?_))
  refine H_join (S:=AV×Led) (fun y=>⟨[some (.v (.ref a)),some (.v (.ref lr)),some (.i (i:Int)),some y.1],[(lr,seqP vs)],y.2⟩) (fun y=>DatA d y.2 r.2.2 y.1∧∀p∈TL,p∈y.2) (HS_ifG (GT_v (GA_bnG X rfl (fun _=>rfl) PyProof.Rows.boot_isinstance (by decide) (by decide) (GL_cons (GA_p X (os:=[]) rfl (GL_cons (GA_glR X rfl (fun _=>rfl) (by decide) (GL_nil fun ws hws=> ?_)))))))) ?_
  ·obtain ⟨v1,_,ew,hv1,hws⟩:=hws.cons
   obtain ⟨v2,_,ew2,hv2,hws⟩:=hws.cons
   rw[ew,ew2,hws.none,AV.has_v hv2]
   have le:∀{y:AV} {ex:Led},Le c ⟨[some (.v (.ref a)),some (.v (.ref lr)),some (.i (i:Int)),some y],[(lr,seqP vs)],ex⟩ ⟨[some (.v (.ref a)),some (.v (.ref lr)),some (.i (i:Int)),some y],[(lr,seqP vs)],ex⟩:=fun {y ex}=>⟨.keep (.keep (.keep (.keep .nil))),.refl _,fun p h=>h⟩
   revert hD hgr hv1
   generalize r.2.2=D
   intro hD hgr hv1 kp h tk K
   cases D with
   |num z=>
    obtain ⟨tz,hv1⟩:=AV.has_i (n:=z) hv1
    rw[hv1]
    exact K.open fun m bs F V' B N=>isinst_i F X.inn (fun _=>postR K ⟨false,rfl,fun h=>Bool.noConfusion h,fun _=>H_nil (md_nx (.i z,_) le ⟨rfl,fun p h=> .tail _ (.tail _ h)⟩)⟩)
   |byt b=>
    obtain ⟨tz,rfl⟩:=hD
    rw[AV.has_v (x:= .bytes b.toArray tz) hv1]
    exact K.open fun m bs F V' B N=>isinst_b F X.inn (fun _=>postR K ⟨false,rfl,fun h=>Bool.noConfusion h,fun _=>H_nil (md_nx (.v (.bytes b.toArray tz),_) le ⟨⟨tz,rfl⟩,fun p h=> .tail _ (.tail _ h)⟩)⟩)
   |grp g=>
    obtain ⟨sa,rfl,hS⟩:=hD
    rw[AV.has_v (x:= .ref sa) hv1]
    cases e with
    |zero=>exact hS.elim
    |succ e=>
    obtain ⟨dd2,tv2,lf2,fs2,cf2,s1,s2,_⟩:=id hS
    refine K.open fun m bs F V' B N=>isinst_s F X.inn N (in4 s1) (in4 s2) (fun _=>postR K ⟨true,rfl,fun _=> ?_,fun h=>Bool.noConfusion h⟩)
    refine H_set X (GA_kon X ⟨rfl,fun _=>rfl,fun _=>rfl,by decide⟩ (os:=[]) rfl (ih (by exact lin (.h 1 (.l (.a Y0 (.c 1)) (.c 100)) (.G 1 (.l Y0 (.c 100)))) rfl [_] [] hd100) (e+1) g sa hgr.2.2.2) rm (by exact lin (.G 1 (.t (.a Y0 (.c 6)) (.a (.a Y0 (.c 1)) (.c 6)))) rfl [_] []) (fun bs kp _=>hS.mono fun p h=>in4 h) fun v led hr=> ?_)
    obtain ⟨l4,rfl,hR⟩:=hr
    exact ⟨.v (.ref l4),rfl,H_nil (md_nx (.v (.ref l4),_) le ⟨⟨l4,rfl,hR.mono fun p h=>mL _ h⟩,fun p h=>mR _ (.tail _ (.tail _ h))⟩)⟩
  ·rintro ⟨A,ex⟩ ⟨hA,hTL⟩
   refine H_appA X rfl rfl (.head _) seq_list (GA_tup (GL_cons (GA_prp X rm (ITEM rfl rfl fun x xd u1 u2 u3=> .mk (A:= .i r.1) (.head _) (.tail _ (.head _)) (fun _=>⟨rfl,rfl,_,_,rfl,rfl,rfl,rfl⟩) (ref_num hfl hlen hi e3) (by exact lin (.G 1 (.t (.c 5) (.a (.a Y0 (.c 1)) (.c 6)))) rfl [_] []) (fun bs kp _=>NEED bs kp) rfl ⟨k1,rfl⟩
    (GL_cons (GA_prp X rm (ITEM rfl rfl fun x' xd' u1' u2' u3'=> .mk (A:= .i r.2.1) (.head _) (.tail _ (.head _)) (fun _=>⟨rfl,rfl,_,_,rfl,rfl,rfl,rfl⟩) (ref_wire hfl hlen hi e3) (by exact lin (.G 1 (.t (.c 5) (.a (.a Y0 (.c 1)) (.c 6)))) rfl [_] []) (fun bs kp _=>NEED bs kp) rfl ⟨k2,rfl⟩
     (GL_p X (os:=[]) rfl ⟨Nat.le_of_ble_eq_true rfl,fun rr=> .mk (.tail .head) (seq_grow ?_) ?_⟩))))))))
   ·have:=hEt.length
    rw[List.length_take] at this
    exact lin (.h 1 (.t Y1 (.c 64)) (.h 1 (.d Y2 Y0) (.h 1 (.l Y2 Y1) (.G 1 (.l Y0 (.c 1048576)))))) rfl [_,_,_] [] hlen this (Nat.min_le_right _ _)
   refine H_freeze (nx _) fun o ho=> ?_
   obtain ⟨w1,w2,V',rfl,hV'⟩:=row_of (r:=rr) ho hA
   refine H_nil (lf_nx (vs++[.ref rr],_) ⟨.keep (.keep .nil),.refl _,fun p hp=>hp⟩ ?_)
   have htk:rows.take (i+1)=rows.take i++[r]:=by rw[List.take_add_one,e1];rfl
   have up:∀{p x1 x2 x3 x4 x5:Addr×Obj},p∈ex→p∈x1::([x2,x3]++([x4,x5]++ex)):=fun h=> .tail _ (.tail _ (.tail _ (.tail _ (.tail _ h))))
   rw[htk]
   exact (hEt.mono fun _ _ z=>z.mono (fun p h=>up (hTL p h)) fun _ _ y=>y.mono fun p h=>up (hTL p h)).append (.cons ⟨_,_,_,V',rfl,.head _,hV'.mono fun _ _ y=>y.mono fun p h=>up h⟩ .nil)
 ·rintro ⟨vs,TL⟩ hEt
  rw[List.take_length] at hEt
  refine H_retA (GA_p X (os:=[]) rfl ?_)
  intro bs B
  obtain ⟨o,h1,k,rfl⟩:=B.get _ (.head _)
  exact ⟨(lr,listOf vs.toArray k)::TL,⟨lr,rfl,vs,k,.head _,hEt.mono fun _ _ z=>z.mono (fun p h=> .tail _ h) fun _ _ y=>y.mono fun p h=> .tail _ h⟩,fC ⟨mL _ h1,fun p h=>mR _ h⟩⟩
noncomputable def RowNe (r r':Rw):Prop:=r.1=r'.1∧(r.2.1≠r'.2.1∨(r.2.1=r'.2.1∧∃x y,r.2.2= .num x∧r'.2.2= .num y∧x≠y))
theorem inst_inj {c d d':Addr} (h:some (instObj c d)=some (instObj c d')):d=d':=by
 injection h with h
 injection h with _ h
 injection h
theorem dict3_inj {w:World} {a b c:Str} {t1 t2 t3 u1 u2 u3 k1 k2 j1 j2:Tok} {x y x' y':Int} {V V':Value}
  (h:some (dictOf [dEnt w a t1 (.int x k1),dEnt w b t2 (.int y k2),dEnt w c t3 V] 3)=some (dictOf [dEnt w a u1 (.int x' j1),dEnt w b u2 (.int y' j2),dEnt w c u3 V'] 3)):y=y'∧V=V':=by
 injection h with h
 simp[dictOf,dEnt] at h
 exact ⟨h.2.1.2.1,h.2.2.2⟩
theorem fld_ne {w:World} {n:Nat} {h₀ h:Heap} {L x:Addr} {news:Led} {r r':Rw} (N:News h₀ L h news) (h1:FieldAt w (SetAt w n) news r (.ref x)) (h2:FieldAt w (SetAt w n) news r' (.ref x)):¬ RowNe r r':=by
 obtain ⟨_,d,t1,t2,t3,k1,k2,V,e0,m1,m2,hD⟩:=h1
 obtain ⟨_,d',u1,u2,u3,j1,j2,V',e1,m3,m4,hD'⟩:=h2
 cases e0;cases e1
 obtain rfl:=inst_inj ((N _ m1).1.symm.trans (N _ m3).1)
 obtain ⟨e2,e3⟩:=dict3_inj ((N _ m2).1.symm.trans (N _ m4).1)
 rintro ⟨_,h3|⟨_,z,z',h4,h5,h6⟩⟩
 ·exact h3 e2
 ·rw[h4] at hD
  rw[h5] at hD'
  obtain ⟨_,rfl⟩:=hD
  obtain ⟨_,rfl⟩:=hD'
  cases e3
  exact h6 rfl
noncomputable abbrev rnum (r:Rw):Int:=r.1
noncomputable def SEq (rows rows':List Rw) (c:Bool):Prop:=(c=true∧sortK rnum rows=sortK rnum rows')∨
 (c=false∧(rows.length≠rows'.length∨(rows.length=rows'.length∧∃p r r',(sortK rnum rows)[p]? =some r∧(sortK rnum rows')[p]? =some r'∧RowNe r r'∧(sortK rnum rows).take p=(sortK rnum rows').take p)))
theorem SEq.at {rows rows':List Rw} {c:Bool} (h:SEq rows rows' c):(c=false∧rows.length≠rows'.length)∨∃p,rows.length=rows'.length∧p≤rows.length∧c=decide (p=rows.length)∧
  ∀i r r',i≤p→(sortK rnum rows)[i]? =some r→(sortK rnum rows')[i]? =some r'→(decide (i<p)=true∧r=r')∨(decide (i<p)=false∧RowNe r r'):=by
 have hl:=(sortK_stable rnum rows).perm.length_eq
 have hl':=(sortK_stable rnum rows').perm.length_eq
 rcases h with ⟨rfl,h⟩|⟨rfl,h|⟨h1,p,r,r',h2,h3,h4,h5⟩⟩
 ·refine .inr ⟨rows.length,by rw[←hl,h,hl'],Nat.le_refl _,(decide_eq_true rfl).symm,fun i r r' hi e1 e2=> ?_⟩
  have:=(List.getElem?_eq_some_iff.mp e1).1
  rw[h] at e1
  exact .inl ⟨decide_eq_true (by exact lin (.h 1 (.e Y2 Y1) (.h 1 (.t Y0 Y2) (.G 1 (.t Y0 Y1)))) rfl [_,_,_] [] hl this),Option.some.inj (e1.symm.trans e2)⟩
 ·exact .inl ⟨rfl,h⟩
 ·have hp:=(List.getElem?_eq_some_iff.mp h2).1
  refine .inr ⟨p,h1,by exact lin (.h 1 (.e Y2 Y1) (.h 1 (.t Y0 Y2) (.G 1 (.l Y0 Y1)))) rfl [_,_,_] [] hl hp,(decide_eq_false (by exact fun eN=>lin (.h 1 (.e Y0 Y1) (.h 1 (.t Y2 Y0) (.h 1 (.d Y2 Y1) .F))) rfl [_,_,_] [] hl hp eN)).symm,fun i r1 r2 hi e1 e2=> ?_⟩
  rcases Nat.lt_or_eq_of_le hi with hlt|rfl
  ·have e:=congrArg (·[i]?) h5
   simp only[List.getElem?_take_of_lt hlt,e1,e2] at e
   exact .inl ⟨decide_eq_true hlt,Option.some.inj e⟩
  ·rw[h2] at e1
   rw[h3] at e2
   cases e1;cases e2
   exact .inr ⟨decide_eq_false (Nat.lt_irrefl _),h4⟩
inductive EqR (b:Bool) (L:Led):Value→Led→ALed→Prop
 |mk {led L'}:(∀p∈L',p∈led++L)→EqR b L (.bool b) led [(166,tb eqSpec L')]
structure HdE (L:Led) (base:Heap) (news:Led):Prop where
 c:CodeHd base 170 166
 s:∀p∈L,p∈news
noncomputable abbrev SqZ (w:World) (n:Nat) (rows rows':List Rw) (a b:Addr) (c:Bool):Prop:=∀L:Led,KZ w (3*n) 171 [.v (.ref a),.v (.ref b)] [(166,tb eqSpec L)] (fun base news=>HdE L base news∧SetAt w n news rows a∧SetAt w n news rows' b) (EqR c L) (fun _ _ _=>False)
section
variable {d:Df} {c:Cx} {kp:Kp} {σ:St}
theorem G_isR {x y:Addr} {ox oy:Obj} {Q:Value→St→Prop} (m1:(x,ox)∈σ.ex++c.news) (m2:(y,oy)∈σ.ex++c.news) (hb:ox.cls≠.type "tuple") (q:Q (.bool (decide (x=y))) σ):G d c (compareOp .Is (.ref x) (.ref y)) Q σ:=fun kp h tk K=>by
 by_cases e:x=y
 ·subst e
  rw[decide_eq_true rfl] at q
  exact wpAny_is_ref_self (post K q)
 ·rw[decide_eq_false e] at q
  exact K.open fun m bs F V B N=>kto_is (N _ (mR _ (mem3 m1))).1 (N _ (mR _ (mem3 m2))).1 e hb (post K q)
theorem H_news {s:Sx} {Q:Flow→St→Prop} (k:∀h,News c.g c.L h c.news→H d c s Q σ):H d c s Q σ:=fun kp h tk K=>
 K.open fun m bs F V B N=>k h (fun p hp=>N p (mR _ (mR _ (mR _ hp)))) kp h tk K
theorem set_eqG (X:Fx d c) {n K:Nat} {rows rows':List Rw} {x y:Addr} {b:Bool} {L:Led} (C:SqZ c.w n rows rows' x y b) (rm:Rm c K) (hk:3*n<K):
  KzF d c (compareOp .Eq (.ref x) (.ref y)) [(166,tb eqSpec L)] (fun base news=>HdE L base news∧SetAt c.w n news rows x∧SetAt c.w n news rows' y) (EqR b L) (fun _ _ _=>False):=by
 intro m s Q E news bs0 F N B0 nd ap hn' ret exc
 obtain ⟨hh,h1,h2⟩:=hn'
 have inst:∀{rows z},SetAt c.w n news rows z→∃od:Addr×Obj,InstAt s.heap z (instObj 181 od.1) 181 (some od.2):=fun {rows z} hz=>by
  cases n with
  |zero=>exact hz.elim
  |succ n=>
   obtain ⟨du,tv,lf,_,_,a1,a2,_⟩:=hz
   exact ⟨(du,_),InstAt.of_news N (mR _ a1) (mR _ a2)⟩
 obtain ⟨od,i1⟩:=inst h1
 obtain ⟨od',i2⟩:=inst h2
 have hr:=rm.call hk
 refine cmp_ofEq (cmp_K (C:=181) (tb:= .ref 181) (f:=171) (show c.un<cLine from Nat.lt_of_le_of_lt (by rw[Nat.add_assoc];exact Nat.le_add_right _ _) hr.2) F X.inn i1 (InstAt.type i2) rfl rfl rfl ?_)
 exact C L _ (.v (.v .nil)) X.below F X.inn N B0 nd ap X.top X.ok.kind hr.1 hr.2 ⟨hh,h1,h2⟩ (fun v led ab1 bs1 h' tk' F' N' b1 e lt nl hr=>by
  cases hr with
  |mk hs=>exact ret _ led _ bs1 h' tk' F' N' b1 e lt nl (.mk hs)) fun _ _ _ _ _ _ _ _ _ _ _ _ _ _ _ h=>h.elim
noncomputable def dZ (D:Dat) (V:Value):AV:=match D with
 | .num x=> .i x
 | .byt l=> .b l
 | .grp _=> .v V
theorem dZ_ok {RA:Led→List Rw→Addr→Prop} {news:Led} {D:Dat} {V:Value} (h:DatAt RA news D V):handedIn V=true∧(dZ D V).has V:=by
 cases D with
 |num x=>obtain ⟨t,rfl⟩:=h;exact ⟨rfl,t,rfl⟩
 |byt b=>obtain ⟨t,rfl⟩:=h;exact ⟨rfl,t,rfl⟩
 |grp g=>obtain ⟨_,rfl,_⟩:=h;exact ⟨rfl,rfl⟩
end
theorem fld_eq {w:World} {n:Nat} {x y:Addr} {r r':Rw} {b:Bool} {L:Led} (hc:(b=true∧r=r')∨(b=false∧RowNe r r')) (hs:∀g u v,r.2.2= .grp g→SqZ w n g g u v true):
  KZ w (3*n+1) 49 [.v (.ref x),.v (.ref y)] [(166,tb eqSpec L)] (fun base news=>HdE L base news∧FieldAt w (SetAt w n) news r (.ref x)∧FieldAt w (SetAt w n) news r' (.ref y)) (EqR b L) (fun _ _ _=>False):=by
 refine KZ_enter (d:=dFe) (body:=bFe) dFe_ok (fun _=>rfl) (fun _=>rfl) (fun s=>lenS fun a=>lenS fun b=>lenZ (BindsTo.of_eq rfl)) rfl rfl (by decide) (Nat.succ_pos _) ?_
 intro c X hw hx rm hn _
 obtain ⟨hh,h1,h2⟩:=hn
 subst hw
 refine H_news fun hp N=> ?_
 have hsame:x=y→b=true:=fun e=>by
  subst e
  rcases hc with ⟨rfl,_⟩|⟨_,h⟩
  ·rfl
  ·exact absurd h (fld_ne N h1 h2)
 obtain ⟨_,d,t1,t2,t3,k1,k2,V,e0,m1,m2,hD⟩:=h1
 obtain ⟨_,d',u1,u2,u3,j1,j2,V',e1,m3,m4,hD'⟩:=h2
 cases e0;cases e1
 have fin:∀{k vs},b=k→FinZ [(166,tb eqSpec L)] (EqR b L (.bool k)) ⟨vs,[(166,tb eqSpec L)],[]⟩:=fun {k vs} e=>FinZ.lent [true] rfl (e▸.mk fun p h=>h) no_mem
 unfold bFe
 refine H_ifG (GT_cmpG (GA_p X (os:=[]) rfl (GA_p X (os:=[]) rfl fun v w hv hw=> ?_)))
 rw[AV.has_v hv,AV.has_v hw]
 refine G_isR (mR _ m1) (mR _ m3) (fun h=>Value.noConfusion h) (.mk ⟨fun h=>H_retA (GA_p X (os:=[]) rfl (sq_rt (fin (hsame (of_decide_eq_true h))))),fun _=>H_nil ?_⟩)
 have hnum:r.1=r'.1:=by
  rcases hc with ⟨_,h⟩|⟨_,h,_⟩
  ·rw[h]
  ·exact h
 refine H_retA (GA_andC (GA_cmpG (GA_att X rfl rfl (.mk (A:= .i r.1) (mR _ m1) (mR _ m2) (fun _=>⟨rfl,rfl,_,rfl,rfl⟩) rfl rfl ⟨k1,rfl⟩ (GA_att X rfl rfl (.mk (A:= .i r'.1) (mR _ m3) (mR _ m4) (fun _=>⟨rfl,rfl,_,rfl,rfl⟩) rfl rfl ⟨j1,rfl⟩ fun v w hv hw=>G_cmpP hv hw rfl ⟨.v (.bool _),rfl,.mk (fun h=>absurd hnum (ne_of_beq_false h)) fun _=> ?_⟩))))))
 refine GA_andC (GA_cmpG (GA_att X rfl rfl (.mk (A:= .i r.2.1) (mR _ m1) (mR _ m2) (fun _=>⟨rfl,rfl,_,rfl,rfl⟩) rfl rfl ⟨k2,rfl⟩ (GA_att X rfl rfl (.mk (A:= .i r'.2.1) (mR _ m3) (mR _ m4) (fun _=>⟨rfl,rfl,_,rfl,rfl⟩) rfl rfl ⟨j2,rfl⟩ fun v w hv hw=>G_cmpP hv hw rfl ⟨.v (.bool _),rfl,.mk (fun h=> ?_) fun h=> ?_⟩)))))
 ·rcases hc with ⟨_,e⟩|⟨e,_⟩
  ·exact absurd (by rw[e]) (ne_of_beq_false h)
  ·exact fin e
 have e2:=eq_of_beq h
 have hD2:(b=true∧r.2.2=r'.2.2)∨(b=false∧∃z z',r.2.2= .num z∧r'.2.2= .num z'∧z≠z'):=by
  rcases hc with ⟨h1,h2⟩|⟨h1,_,h2|⟨_,h2⟩⟩
  ·exact .inl ⟨h1,by rw[h2]⟩
  ·exact absurd e2 h2
  ·exact .inr ⟨h1,h2⟩
 refine GA_and1 (GA_cmpG (GA_att X rfl rfl (.mk (A:=dZ r.2.2 V) (mR _ m1) (mR _ m2) (fun _=>⟨rfl,rfl,_,rfl,rfl⟩) rfl (dZ_ok hD).1 (dZ_ok hD).2 (GA_att X rfl rfl (.mk (A:=dZ r'.2.2 V') (mR _ m3) (mR _ m4) (fun _=>⟨rfl,rfl,_,rfl,rfl⟩) rfl (dZ_ok hD').1 (dZ_ok hD').2 fun v w hv hw=> ?_)))))
 revert hD hD' hD2 hs hv hw
 generalize r.2.2=D
 generalize r'.2.2=D'
 intro hs hD hD' hD2 hv hw
 cases D with
 |num z=>
  obtain ⟨z',rfl,hzc⟩:∃z',D'= .num z'∧b=(z==z'):=by
   rcases hD2 with ⟨h1,h⟩|⟨h1,z1,z',h2,h3,h4⟩
   ·exact ⟨z,h.symm,by rw[h1];exact (beq_self_eq_true z).symm⟩
   ·cases h2;exact ⟨z',h3,by rw[h1];exact (beq_false_of_ne h4).symm⟩
  exact G_cmpP (x:= .i z) (y:= .i z') hv hw rfl ⟨.v (.bool _),rfl,fin hzc⟩
 |byt l=>
  obtain ⟨h1,rfl⟩:b=true∧D'= .byt l:=by
   rcases hD2 with ⟨h1,h⟩|⟨_,_,z',h,_⟩
   ·exact ⟨h1,h.symm⟩
   ·cases h
  exact G_cmpP (x:= .b l) (y:= .b l) hv hw rfl ⟨.v (.bool _),rfl,fin (by rw[h1];exact (beq_self_eq_true l).symm)⟩
 |grp g=>
  obtain ⟨h1,rfl⟩:b=true∧D'= .grp g:=by
   rcases hD2 with ⟨h1,h⟩|⟨_,_,z',h,_⟩
   ·exact ⟨h1,h.symm⟩
   ·cases h
  obtain ⟨uu,rfl,hS⟩:=hD
  obtain ⟨vv,rfl,hS'⟩:=hD'
  rw[AV.has_v (x:= .ref uu) hv,AV.has_v (x:= .ref vv) hw]
  refine G_kzF [true] (set_eqG X (hs g uu vv rfl) rm (Nat.lt_succ_self _)) thr0 (fun bs kp _=>⟨⟨hh.c,fun p h=>in4 (hh.s p h)⟩,hS.mono fun p h=>in4 h,hS'.mono fun p h=>in4 h⟩) (fun v led ab1 _ hr=> ?_) fun _ _ _ h=>h
  cases hr with
  |mk hs2=>exact ⟨.v (.bool true),rfl,FinZ.lent [true] rfl (by rw[h1];exact .mk fun p hp=>(List.mem_append.mp (hs2 p hp)).elim (fun h=>mL _ (mL _ h)) fun h=>mR _ h) fun p h=>h⟩
section
variable {d:Df} {c:Cx} {kp:Kp} {σ:St}
noncomputable def LsQ {S:Type} (c:Cx) (I:S→St) (P:S→Prop) (k:Bool) (b:Bool) (σ:St):Prop:=b=k∧∃z,Le c σ (I z)∧P z
theorem G_lists {S:Type} (I:S→St) (P:S→Prop) (y0:S) {l b:Addr} {xs ys:List Value} {p:Nat} {Q:Value→St→Prop} (h0:P y0) (hsz:xs.length=ys.length) (hp:p≤xs.length) (hu:c.un<cLine) (hl:∀y,P y→LV c (I y) l xs∧LV c (I y) b ys)
  (step:∀(i:Nat) (v w:Value) y,i≤p→xs[i]? =some v→ys[i]? =some w→P y→∀kp h tk,Ok d c kp (I y) h→wpAny (model PR c.w) (c.A d).in1 (eqBool v w) (Post d c kp (LsQ c I P (decide (i<p)))) c.E (c.at h tk))
  (fin:∀y,P y→Q (.bool (decide (p=xs.length))) (I y)):G d c (compareOp .Eq (.ref l) (.ref b)) Q (I y0):=fun kp h tk K=>by
 refine lists_eq (xs:=xs.toArray) (ys:=ys.toArray) (p:=p) (by rw[List.size_toArray,List.size_toArray];exact hsz) (by rw[List.size_toArray];exact hp) (fun s'=>∃h' tk' y,s'=c.at h' tk'∧P y∧Ok d c kp (I y) h') hu ?_ ?_ ⟨h,tk,y0,rfl,h0,K⟩ ?_
 ·rintro _ ⟨h',tk',y,rfl,hy,K'⟩
  exact ⟨lv_at K' (hl y hy).1,lv_at K' (hl y hy).2⟩
 ·rintro i _ hip h1 h2 ⟨h',tk',y,rfl,hy,K'⟩
  refine wpAny_mono (step i _ _ y hip (by rw[List.getElem_toArray];exact List.getElem?_eq_getElem h1) (by rw[List.getElem_toArray];exact List.getElem?_eq_getElem h2) hy kp h' tk' K') (fun b s2 q=> ?_) fun _ _ e=>e
  obtain ⟨h2,σ2,tk2,e,K2,e2,z,le,hz⟩:=q
  exact ⟨e2,h2,tk2,z,e,hz,K2.le le⟩
 ·rintro _ ⟨h',tk',y,rfl,hy,K'⟩
  rw[List.size_toArray]
  exact post K' (fin y hy)
inductive LstQ (c:Cx) (Q:AV→St→Prop):AV→St→Prop
 |mk {l vs σ}:LV c σ l vs→vs.length<2 ^ 20→(∀D,Q (.v (.ref D)) (σ.new D (seqP vs)))→LstQ c Q (.v (.ref l)) σ
theorem GA_listV (X:Fx d c) {a:Ex} {q p:Pos} {Q:AV→St→Prop} (h:GA d c a (LstQ c Q) σ) (hb:d.bs.any Bn.list.is=true:=by rfl):GA d c (.bn .list q (.cons a .nil) p) Q σ:=fun kp hp tk K=>by
 obtain ⟨b',hm,hb'⟩:=List.any_eq_true.mp hb
 have hbe:=Bn.is_eq hb'
 subst hbe
 refine K.open fun m bs F V B N=>Call_ (nameX_B F X.inn (topRead_of X.top) rfl (v:= .type "list") rfl (by decide) ?_ X.ok.kind (X.ok.bn _ hm) (by decide)) rfl
 refine PyProof.Rows.callWith_type1 (args_cons (h.run K fun v x h' σ' tk' hx K' e=>args_nil ?_) (star_any a _ _)) (star_any a _ _) rfl
 cases e with
 | @mk l vs _ L hn k=>
  rw[AV.has_v hx]
  exact K'.open fun m bs F V B N=>list_copyK F N (lv_at K' L) (fun D k' h2 F2 N2 l2=>postR (K'.put V B F2 N2 l2 ⟨k',rfl⟩) (k D)) (by rw[List.size_toArray];exact two20 hn)
end
noncomputable abbrev eLq (p q:Pos):Ex:= .att (.loc 0 q) "_field_number" p
theorem lam_eq {c:Cx} (X:Fx dSq c) {w:World} (hw:c.w=w) {n:Nat} {r:Rw} {v:Value} {news:Led} {xp p q:Pos} (h:FieldAt w (SetAt w n) news r v) (hd:c.dp<recursionLimit):
  LamT dSq c "UnknownFieldSet.__eq__.<locals>.<lambda>" ⟨[],[⟨"field",none,xp⟩],none,[],[],none,[]⟩ (.Attribute (.Name "field" q) "_field_number" p) {kind:= .function,names:=[("field",.local)],isGenerator:=false,isCoroutine:=false} news v r.1:=by
 obtain ⟨x,dx,t1,t2,t3,k1,k2,V,rfl,m1,m2,_⟩:=h
 exact lamT_of (x:="field") (e:=eLq p q) X (fun _ _=>ok1 rfl rfl (by decide)) (fun _ _ _ _=>BindsTo.of_eq rfl) rfl rfl (by decide) hd fun f c' cx X' _ hs=>GA_att X' rfl rfl (.mk (A:= .i r.1) (hs _ m1) (hs _ m2) (fun _=>⟨rfl,rfl,_,rfl,rfl⟩) rfl rfl ⟨k1,rfl⟩ rfl)
noncomputable abbrev lamQ:Str:="UnknownFieldSet.__eq__.<locals>.<lambda>"
theorem lamQ_eq:("UnknownFieldSet.__eq__"++".<locals>."++"<lambda>":Str)=lamQ:=by decide+kernel
theorem set_eqZ {w:World}:∀(n e e':Nat) (rows rows':List Rw) (a b:Addr) (k:Bool),Good e rows→Good e' rows'→SEq rows rows' k→(k=false→a≠b)→SqZ w n rows rows' a b k:=by
 intro n
 induction n with
 |zero=>intro e e' rows rows' a b k _ _ _ _ L vals _ p loose mean mg mb dp un gd cn cs a2 ccd cl outer A₀ base h₀ L1 m s Q E news bs0 B F X N B0 nd ap T hk hd hu hm;exact hm.2.1.elim
 |succ n ih=>
 intro e e' rows rows' a b k hg hg' hSE hab L
 refine KZ_enter (d:=dSq) (body:=bSq) dSq_ok (fun _=>rfl) (fun _=>rfl) (fun s=>lenS fun a=>lenS fun b=>lenZ (BindsTo.of_eq rfl)) rfl rfl (by decide) (Nat.succ_pos _) ?_
 intro c X hw hx rm hn _
 obtain ⟨hh,⟨da,ta,la,va,ca,m1,m2,m3,hA⟩,db,tb',lb,vb,cb,m4,m5,m6,hB⟩:=hn
 subst hw
 have fin:∀{q vs L' ab ex},k=q→(∀p∈L',p∈ex++L)→FinZ [(166,tb eqSpec L)] (EqR k L (.bool q)) ⟨vs,(166,tb eqSpec L')::ab,ex⟩:=fun {q vs L' ab ex} e hs=>FinZ.lent [true] rfl (by cases e;exact .mk hs) fun p h=>h
 have g64:∀{e rows},Good e rows→rows.length<64:=fun {e rows} hg=>by
  cases e with
  |zero=>exact hg.elim
  |succ d=>exact hg.1
 have hvl:=hA.length
 have hvl2:=hB.length
 have h64:=g64 hg
 have h64':=g64 hg'
 have hr1:=rm.call1 (k:=3*n+1) (by exact lin (.G 1 (.t (.a (.r 3 Y0) (.c 1)) (.r 3 (.a Y0 (.c 1))))) rfl [_] [])
 have hcd:c.dp<recursionLimit:=Nat.lt_of_le_of_lt (Nat.le_add_right _ _) hr1.1
 have hcu:c.un+1<cLine:=Nat.lt_of_le_of_lt (by rw[Nat.add_assoc];exact Nat.le_add_right _ _) hr1.2
 unfold bSq
 refine H_ifG (GT_cmpG (GA_p X (os:=[]) rfl (GA_p X (os:=[]) rfl fun v w hv hw=> ?_)))
 rw[AV.has_v hv,AV.has_v hw]
 refine G_isR (mR _ m1) (mR _ m4) (fun h=>Value.noConfusion h) (.mk ⟨fun h=>H_retA (GA_p X (os:=[]) rfl (sq_rt (fin ?_ fun p h=>h))),fun _=>H_nil ?_⟩)
 ·cases k with
  |true=>rfl
  |false=>exact absurd (of_decide_eq_true h) (hab rfl)
 refine H_set X (GA_listV X (GA_att X rfl rfl (.mk (A:= .v (.ref la)) (mR _ m1) (mR _ m2) (fun _=>⟨rfl,rfl,_,rfl,rfl⟩) rfl rfl rfl (.mk (.inr ⟨ca,mR _ m3⟩) (by exact lin (.h 1 (.d Y1 Y0) (.h 1 (.t Y1 (.c 64)) (.G 1 (.t Y0 (.c 1048576))))) rfl [_,_] [] hvl h64) fun D1=> ?_))))
 refine H_ifs X (os:=[]) rfl (fun h=>Bool.noConfusion h) fun _=>H_nil ?_
 refine H_set X (GA_sortK X (a:= .loc 2 _) rfl (GA_p X (os:=[]) rfl (.mk fun kp hp tk K=>G_kzW [false,true] (sortW X (P:=166) (cA:=170) (spec:=eqSpec) (L:=L) (ks:=rows.map rnum) (vs:=va) lamQ rfl lamQ_eq rfl (by decide+kernel) (by decide+kernel) rfl (by rw[List.length_map,hvl]) (by exact lin (.h 1 (.d Y1 Y0) (.h 1 (.t Y1 (.c 64)) (.G 1 (.t Y0 (.c 64))))) rfl [_,_] [] hvl h64)) thr0
  (fun bs kp B=>⟨hh.c,fun p h=>in4 (hh.s p h),?own,fun i v k hv hk=> ?lam⟩) (fun v led ab1 _ hr=> ?ret) (fun _ _ _ h=>h) K)))
 case own=>
  obtain ⟨_,h1,k,rfl⟩:=B.get _ (.head _)
  exact ⟨k,mL _ h1⟩
 case lam=>
  obtain ⟨r,v',z1,z2,R⟩:=hA.get i (List.getElem?_eq_some_iff.mp hv).1
  rw[hv] at z2;cases z2
  rw[List.getElem?_map,z1] at hk;cases hk
  exact lam_eq X rfl (R.mono (fun p h=>in4 h) fun _ _ u=>u.mono fun p h=>in4 h) hcd
 case ret=>
 cases hr with
 | @mk D2 k2 tl2 L2 hs2=>
 refine ⟨.v (.ref D2),rfl,?_⟩
 refine H_le (σ':=⟨[some (.v (.ref a)),some (.v (.ref b)),some (.v (.ref D2))],[(166,tb eqSpec L2)],((D2,listOf (byKey (rows.map rnum) va).toArray k2)::tl2)++[]⟩) ?_ ⟨.keep (.keep (.keep .nil)),.cons _ (.refl _),fun p h=>h⟩
 have hL2:∀p∈L2,p∈(((D2,listOf (byKey (rows.map rnum) va).toArray k2)::tl2)++[])++L:=fun p h=>(List.mem_append.mp (hs2 p h)).elim (fun h=>mL _ (mL _ (.tail _ h))) fun h=>mR _ h
 have hD2:(D2,listOf (byKey (rows.map rnum) va).toArray k2)∈((D2,listOf (byKey (rows.map rnum) va).toArray k2)::tl2)++[]:= .head _
 generalize ((D2,listOf (byKey (rows.map rnum) va).toArray k2)::tl2)++[]=ex2 at hL2 hD2
 refine H_set X (GA_sortK X (a:= .att (.loc 1 _) "_values" _) rfl (GA_att X rfl rfl (.mk (A:= .v (.ref lb)) (mR _ m4) (mR _ m5) (fun _=>⟨rfl,rfl,_,rfl,rfl⟩) rfl rfl rfl (.mk fun kp hp tk K=>G_kzW [true] (sortW X (P:=166) (cA:=170) (spec:=eqSpec) (L:=L2) (ks:=rows'.map rnum) (vs:=vb) lamQ rfl lamQ_eq rfl (by decide+kernel) (by decide+kernel) rfl (by rw[List.length_map,hvl2]) (by exact lin (.h 1 (.d Y1 Y0) (.h 1 (.t Y1 (.c 64)) (.G 1 (.t Y0 (.c 64))))) rfl [_,_] [] hvl2 h64')) thr0
  (fun bs kp B=>⟨hh.c,fun p h=>mR _ ((List.mem_append.mp (hL2 p h)).elim (fun h=>mL _ h) fun h=>mR _ (mR _ (hh.s p h))),⟨cb,in4 m6⟩,fun i v k hv hk=> ?lam2⟩) (fun v led ab1 _ hr=> ?ret2) (fun _ _ _ h=>h) K))))
 case lam2=>
  obtain ⟨r,v',z1,z2,R⟩:=hB.get i (List.getElem?_eq_some_iff.mp hv).1
  rw[hv] at z2;cases z2
  rw[List.getElem?_map,z1] at hk;cases hk
  exact lam_eq X rfl (R.mono (fun p h=>in4 h) fun _ _ u=>u.mono fun p h=>in4 h) hcd
 case ret2=>
 cases hr with
 | @mk D3 k3 tl3 L3 hs3=>
 refine ⟨.v (.ref D3),rfl,?_⟩
 have eX:=each_sorted (key:=rnum) hA
 have eY:=each_sorted (key:=rnum) hB
 have hlX:=(sortK_stable rnum rows).perm.length_eq
 have hlY:=(sortK_stable rnum rows').perm.length_eq
 have hlX2:=eX.length
 have hlY2:=eY.length
 have hgX:∀r∈sortK rnum rows,∀g,r.2.2= .grp g→∃d,Good d g:=fun r hr g hgr=>by
  cases e with
  |zero=>exact hg.elim
  |succ d=>
   have h:=(hg.2 r (((sortK_stable rnum rows).mem r).mp hr)).2.2
   rw[hgr] at h
   exact ⟨d,h.2⟩
 refine H_le (σ':=⟨[some (.v (.ref a)),some (.v (.ref b)),some (.v (.ref D2)),some (.v (.ref D3))],[(166,tb eqSpec L3)],((D3,listOf (byKey (rows'.map rnum) vb).toArray k3)::tl3)++ex2⟩) ?_ ⟨.keep (.keep (.keep (.keep .nil))),.refl _,fun p h=>h⟩
 have hL3:∀p∈L3,p∈(((D3,listOf (byKey (rows'.map rnum) vb).toArray k3)::tl3)++ex2)++L:=fun p h=>(List.mem_append.mp (hs3 p h)).elim (fun h=>mL _ (mL _ (.tail _ h))) fun h=>(List.mem_append.mp (hL2 p h)).elim (fun h=>mL _ (mR _ h)) fun h=>mR _ h
 have hD3:(D3,listOf (byKey (rows'.map rnum) vb).toArray k3)∈((D3,listOf (byKey (rows'.map rnum) vb).toArray k3)::tl3)++ex2:= .head _
 replace hD2:(D2,listOf (byKey (rows.map rnum) va).toArray k2)∈((D3,listOf (byKey (rows'.map rnum) vb).toArray k3)::tl3)++ex2:=mR _ hD2
 clear hL2 hs3 hs2
 generalize ((D3,listOf (byKey (rows'.map rnum) vb).toArray k3)::tl3)++ex2=ex at hL3 hD2 hD3
 generalize byKey (rows.map rnum) va=xs at eX hlX2 hD2
 generalize byKey (rows'.map rnum) vb=ys at eY hlY2 hD3
 refine H_retA (GA_cmpG (GA_p X (os:=[]) rfl (GA_p X (os:=[]) rfl fun v w hv hw=> ?_)))
 rw[AV.has_v hv,AV.has_v hw]
 rcases hSE.at with ⟨rfl,hne2⟩|⟨p,hll,hpl,rfl,hrow⟩
 ·intro kp h tk K
  exact SeqAt.eq_list_lengthsAt (lv_at K (.inr ⟨k2,mL _ hD2⟩)) (lv_at K (.inr ⟨k3,mL _ hD3⟩)) (by rw[List.size_toArray,List.size_toArray];simp;(exact fun eN=>(Nat.lt_or_gt_of_ne hne2).elim (fun e31=>lin (.h 1 (.e Y0 Y1) (.h 1 (.d Y2 Y3) (.h 1 (.d Y0 Y4) (.h 1 (.e Y2 Y5) (.h 1 (.d Y4 Y5) (.h 1 (.t Y1 Y3) .F)))))) rfl [_,_,_,_,_,_] [] hlX hlY hlX2 hlY2 eN e31) (fun e31=>lin (.h 1 (.d Y0 Y1) (.h 1 (.e Y2 Y3) (.h 1 (.e Y0 Y4) (.h 1 (.d Y2 Y5) (.h 1 (.e Y4 Y5) (.h 1 (.t Y3 Y1) .F)))))) rfl [_,_,_,_,_,_] [] hlX hlY hlX2 hlY2 eN e31))) (Nat.lt_of_le_of_lt (Nat.le_add_right _ 1) hcu) (post K ⟨.v (.bool false),rfl,fin rfl hL3⟩)
 refine G_lists (S:=Led×Led) (fun z=>⟨[some (.v (.ref a)),some (.v (.ref b)),some (.v (.ref D2)),some (.v (.ref D3))],[(166,tb eqSpec z.1)],z.2⟩) (fun z=>(∀p∈ex,p∈z.2)∧∀p∈z.1,p∈z.2++L) (L3,ex) (p:=p) ⟨fun p h=>h,hL3⟩ (by exact Nat.le_antisymm (lin (.h 1 (.e Y2 Y3) (.h 1 (.d Y4 Y5) (.h 1 (.d Y2 Y0) (.h 1 (.e Y4 Y1) (.h 1 (.e Y3 Y5) (.G 1 (.l Y0 Y1))))))) rfl [_,_,_,_,_,_] [] hlX hlY hlX2 hlY2 hll) (lin (.h 1 (.d Y2 Y3) (.h 1 (.e Y4 Y5) (.h 1 (.e Y2 Y1) (.h 1 (.d Y4 Y0) (.h 1 (.d Y3 Y5) (.G 1 (.l Y0 Y1))))))) rfl [_,_,_,_,_,_] [] hlX hlY hlX2 hlY2 hll)) (by exact lin (.h 1 (.d Y2 Y3) (.h 1 (.e Y2 Y1) (.h 1 (.l Y0 Y3) (.G 1 (.l Y0 Y1))))) rfl [_,_,_,_] [] hlX hlX2 hpl) (Nat.lt_of_le_of_lt (Nat.le_add_right _ 1) hcu) (fun z hz=>⟨.inr ⟨k2,mL _ (hz.1 _ hD2)⟩,.inr ⟨k3,mL _ (hz.1 _ hD3)⟩⟩) ?_ fun z hz=>⟨.v (.bool _),rfl,fin (by rw[←hlX2,hlX]) hz.2⟩
 rintro i v w z hip e1 e2 hz kp h tk K
 obtain ⟨r,v',z1,z2,R1⟩:=eX.get i (List.getElem?_eq_some_iff.mp e1).1
 rw[e1] at z2;cases z2
 obtain ⟨r',w',z3,z4,R2⟩:=eY.get i (List.getElem?_eq_some_iff.mp e2).1
 rw[e2] at z4;cases z4
 have hr:=hrow i r r' hip z1 z3
 have hs:∀g u v,r.2.2= .grp g→SqZ c.w n g g u v true:=fun g u v hgr=>by
  obtain ⟨dg,hdg⟩:=hgX r (List.mem_of_getElem? z1) g hgr
  exact ih dg dg g g u v true hdg hdg (.inl ⟨rfl,rfl⟩) fun h=>Bool.noConfusion h
 generalize decide (i<p)=q at hr ⊢
 obtain ⟨x,d1,t1,t2,t3,k1,k2',V,rfl,n1,n2,hD⟩:=id R1
 obtain ⟨y,d2,u1,u2,u3,j1,j2,V2,rfl,n3,n4,hD'⟩:=id R2
 have Kn:∀{P:Prop},(∀h,News c.g c.L h c.news→P)→P:=fun {P} f=>K.open fun m bs F V B N=>f h fun p hp=>N p (mR _ (in4 (a:=[]) hp))
 unfold eqBool
 refine wpAny_holding ?_
 refine wpAny_ite_split (fun hab=> ?_) fun hab=> ?_
 ·have hxy2:x=y:=by have:=eq_of_beq hab;injection this
  subst hxy2
  refine wpAny_bind (wpAny_rule (wpAny_pure (post K ⟨?_,z,⟨.keep (.keep (.keep (.keep .nil))),.refl _,fun p h=>h⟩,hz⟩)))
  rcases hr with ⟨h,_⟩|⟨_,h⟩
  ·exact h.symm
  ·exact Kn fun h' N=>absurd h (fld_ne N R1 R2)
 ·refine K.open fun m bs F V' B N=>wpAny_bind (cmp_K (C:=52) (tb:= .ref 52) (f:=49) hcu F X.inn (InstAt.of_news N (in4 n1) (in4 n2)) (InstAt.type (InstAt.of_news N (in4 n3) (in4 n4))) rfl rfl rfl ?_)
  refine wpAny_mono (G_kzW (d:=dSq) (c:=c) (σ:=⟨[some (.v (.ref a)),some (.v (.ref b)),some (.v (.ref D2)),some (.v (.ref D3))],[(166,tb eqSpec z.1)],z.2⟩) (need:=fun base news=>HdE z.1 base news∧FieldAt c.w (SetAt c.w n) news r (.ref x)∧FieldAt c.w (SetAt c.w n) news r' (.ref y)) (res:=EqR q z.1) (err:=fun _ _ _=>False) [true] (W:=fun Q E s=>wpAny (model PR c.w) (c.A dSq).in1 (call (.ref 49) [.ref x,.ref y]) Q E s) (Q:=fun v σ'=>v= .bool q∧∃z':Led×Led,Le c σ' ⟨[some (.v (.ref a)),some (.v (.ref b)),some (.v (.ref D2)),some (.v (.ref D3))],[(166,tb eqSpec z'.1)],z'.2⟩∧(∀p∈ex,p∈z'.2)∧∀p∈z'.1,p∈z'.2++L)
   (fun _ _ _ _ _ _ F N B nd ap hn ret exc=>fld_eq (L:=z.1) hr hs _ (.v (.v .nil)) X.below F X.inn N B nd ap X.top X.ok.kind hr1.1 hr1.2 hn ret exc) thr0
   (fun bs kp B=>⟨⟨hh.c,fun p h=>mR _ ((List.mem_append.mp (hz.2 p h)).elim (fun h=>mL _ h) fun h=>mR _ (mR _ (hh.s p h)))⟩,R1.mono (fun p h=>in4 h) fun _ _ u=>u.mono fun p h=>in4 h,R2.mono (fun p h=>in4 h) fun _ _ u=>u.mono fun p h=>in4 h⟩)
   (fun v led ab1 _ hr=> ?_) (fun _ _ _ h=>h) K) (fun v s2 q2=> ?_) fun _ _ e=>e
  ·cases hr with
   | @mk _ L4 hs4=>
    exact ⟨rfl,(L4,led++z.2),⟨.keep (.keep (.keep (.keep .nil))),.refl _,fun p h=>h⟩,fun p h=>mR _ (hz.1 p h),fun p h=>(List.mem_append.mp (hs4 p h)).elim (fun h=>mL _ (mL _ h)) fun h=>(List.mem_append.mp (hz.2 p h)).elim (fun h=>mL _ (mR _ h)) fun h=>mR _ h⟩
  ·obtain ⟨h2,σ2,tk2,e,K2,rfl,z',le,hz'⟩:=q2
   exact wpAny_truthy_bool ⟨h2,σ2,tk2,e,K2,rfl,z',le,hz'⟩
inductive TwoZ {α:Type} (o:Except Flt (α×Nat)) (f:α→AV):Led→List AV→ALed→Prop
 |mk {t q}:o= .ok (t,q)→TwoZ o f [] [f t,.i (q:Nat)] []
noncomputable def ErrZ {α:Type} (o:Except Flt α) (fl:Flt) (_:Led) (ab1:ALed):Prop:=o= .error fl∧ab1=[]
theorem dec_tagZ {w:World} {bf:List UInt8} {pos:Nat} (hl:bf.length<2 ^ 20) (hat:pos<2 ^ 20):KZ w 1 306 [.b bf,.i pos] [] (fun _ _=>True) (TupZ (TwoZ (rtagB bf pos) .b)) (ErrZ (rtagB bf pos)):=by
 refine KZ_enter (d:=dTg) (body:=bTg) dTg_ok (fun _=>rfl) (fun _=>rfl) (fun s=>lenS fun a=>lenS fun b=>lenZ (BindsTo.of_eq rfl)) rfl rfl (by decide) (by decide) ?_
 intro c X hw hx rm _ TH
 unfold bTg
 have hul:=ub_length bf
 refine H_set X (GA_p X (os:=[]) rfl ?_)
 refine H_whl X (fun (b:Nat)=>⟨[some (.b bf),some (.i (b:Int)),some (.i (pos:Int))],[],[]⟩) (fun b=>tend (ub bf) pos=tend (ub bf) b∧b≤max bf.length pos) (fun b=>bf.length - b) pos ⟨.keep (.keep (.keep .nil)),.refl _,no_mem⟩ ⟨rfl,Nat.le_max_right _ _⟩ ?_
 rintro b ⟨he,hb⟩
 by_cases hlt:b<bf.length
 ·have hg:(ub bf).getD ((b:Int)).toNat 0=(ub bf).getD b 0:=rfl
  have hr:=ub_range bf b
  refine GT_p X (os:=[]) rfl ⟨fun h=> ?_,fun h=> ?_⟩ (by exact ⟨by omega,by exact lin (.h 1 (.t Y0 Y1) (.G 1 (.T Y0 Y1))) rfl [_,_] [] hlt,by exact lin (.h 1 (.t Y0 (.c 1048576)) (.G 1 (.t Y0 (.c 1099511627776)))) rfl [_] [] hl⟩)
  ·have h128:¬ (ub bf).getD b 0<128:=fun k=>bne_iff_ne.mp h ((and128 hr.1 hr.2).mpr k)
   refine H_aug X (os:=[]) rfl rfl rfl (H_nil (lp_nx (b+1) ⟨.keep (.keep (.keep .nil)),.refl _,no_mem⟩ ⟨?_,?_⟩ ?_))
   ·rw[he,tend_high (by exact lin (.h 1 (.d Y1 Y2) (.h 1 (.t Y0 Y2) (.G 1 (.t Y0 Y1)))) rfl [_,_,_] [] hul hlt) (by exact lin (.h 1 (.nT Z0 (.c 128)) (.G 1 (.T (.c 127) Z0))) rfl [] [_] h128)]
   ·exact lin (.h 1 (.t Y0 Y2) (.h 1 (.l Y2 Y1) (.G 1 (.l (.a Y0 (.c 1)) Y1)))) rfl [_,_,_] [] hlt (Nat.le_max_left _ _)
   ·exact lin (.h 1 (.e (.a Y0 (.a Y2 (.c 1))) Y3) (.h 1 (.d (.a Y1 Y2) Y3) (.G 1 (.t Y0 Y1)))) rfl [_,_,_,_] [] (sC (lin (.h 1 (.t Y0 Y1) (.G 1 (.l (.a Y0 (.c 1)) Y1))) rfl [_,_] [] hlt)) (sC (lin (.h 1 (.t Y0 Y1) (.G 1 (.l Y0 Y1))) rfl [_,_] [] hlt))
  ·have h128:(ub bf).getD b 0<128:=(and128 hr.1 hr.2).mp (bne_eq_false_iff_eq.mp h)
   have het:tend (ub bf) pos=b:=by rw[he,tend_low (by exact lin (.h 1 (.d Y1 Y2) (.h 1 (.t Y0 Y2) (.G 1 (.t Y0 Y1)))) rfl [_,_,_] [] hul hlt) (by exact lin (.h 1 (.T Z0 (.c 128)) (.G 1 (.nT (.c 127) Z0))) rfl [] [_] h128)]
   refine H_aug X (os:=[]) rfl rfl rfl (H_set X (GA_slcB X rfl rfl (os:=[]) rfl rfl (.mk (by omega) (by exact lin (.G 1 (.L (.c 0) (.a Y0 (.c 1)))) rfl [_] []) (by exact lin (.h 1 (.t Y0 (.c 1048576)) (.G 1 (.l Y0 (.c 16777216)))) rfl [_] [] hl) ?_)))
   refine H_retT X (os:=[]) rfl fun r=>fin_tupZ [] rfl (.mk ?_) no_mem
   rw[rtagB,if_neg (by exact lin (.h 1 (.t Y2 Y0) (.h 1 (.e Y1 Y2) (.G 1 (.nl Y0 Y1)))) rfl [_,_,_] [] hlt het),het];rfl
 ·refine GT_v (GA_binp X (GA_subX X TH (os:=[]) rfl rfl (by exact lin (.h 1 (.nt Y1 Y0) (.G 1 (.L Y0 Y1))) rfl [_,_] [] hlt) (by exact (Nat.le_total _ _).elim (fun e30=>lin (.h 1 (.t Y1 (.c 1048576)) (.h 1 (.l Y0 Y2) (.h 1 (.e Y2 Y1) (.G 1 (.T Y0 (.c 9223372036854775808)))))) rfl [_,_,_] [] hl hb (Nat.max_eq_left (lin (.h 1 (.l Y0 Y1) (.G 1 (.l Y0 Y1))) rfl [_,_] [] e30))) (fun e30=>lin (.h 1 (.t Y1 (.c 1048576)) (.h 1 (.l Y0 Y2) (.h 1 (.e Y2 Y1) (.G 1 (.T Y0 (.c 9223372036854775808)))))) rfl [_,_,_] [] hat hb (Nat.max_eq_right (lin (.h 1 (.l Y0 Y1) (.G 1 (.l Y0 Y1))) rfl [_,_] [] e30)))) ?_))
  refine FinZ.lent [] rfl ⟨?_,rfl⟩ no_mem
  rw[rtagB,if_pos (by rw[he,tend_out (by exact lin (.h 1 (.e Y0 Y2) (.h 1 (.nt Y1 Y2) (.G 1 (.l Y0 Y1)))) rfl [_,_,_] [] hul hlt)];(exact lin (.h 1 (.nt Y1 Y0) (.G 1 (.l Y0 Y1))) rfl [_,_] [] hlt))]
theorem calcsizeA {w:World} {x:Str} {n:Nat} (hn:(if (x==("<I":Str)||x==("<i":Str))=true then (4:Nat) else 8)=n):KA w 1 242 [.s x] (fun _=>True) (fun v led=>(∃t,v= .int n t)∧led=[]):=by
 refine KA_enter (d:=dCs) (body:=bCs) dCs_ok (fun _=>rfl) (fun _=>rfl) (fun s=>lenS fun a=>lenZ (BindsTo.of_eq rfl)) rfl rfl (by decide) (by decide) ?_
 intro c X hw hx rm _
 unfold bCs
 have e:∀{z:Nat} {v:Value} {σ:St},(AV.i z).has v→z=n→Fin (fun v led=>(∃t,v= .int n t)∧led=[]) (.ret v) σ:=fun hv h bs B=>⟨[],⟨h▸AV.has_i hv,rfl⟩,allP⟩
 refine H_ifs X (os:=[]) rfl (fun h=> ?_) (fun h=>H_nil ?_)
 ·exact H_ret (GA_p X (os:=[]) rfl fun v hv=>e hv (by rw[←hn,if_pos h]))
 ·exact H_ret (GA_p X (os:=[]) rfl fun v hv=>e hv (by rw[←hn,if_neg (Bool.eq_false_iff.mp h)]))
inductive UnR (n:Nat) (l:List UInt8):Led→List AV→ALed→Prop
 |mk:l.length=n→UnR n l [] [.i (leNum (ub l))] []
theorem unpackZ {w:World} {x:Str} {l:List UInt8} {n:Nat} (hn:(if (x==("<I":Str)||x==("<i":Str))=true then (4:Nat) else 8)=n) (hs:(x==("<i":Str)||x==("<q":Str))=false) (hl:l.length<2 ^ 20) (h8:n≤8):
  KZ w 2 249 [.s x,.b l] [] (fun _ _=>True) (TupZ (UnR n l)) (fun fl _ ab1=>fl= .struct∧l.length≠n∧ab1=[]):=by
 refine KZ_enter (d:=dUp) (body:=bUp) dUp_ok (fun _=>rfl) (fun _=>rfl) (fun s=>lenS fun a=>lenS fun b=>lenZ (BindsTo.of_eq rfl)) rfl rfl (by decide) (by decide) ?_
 intro c X hw hx rm _ TH
 unfold bUp
 refine H_set X (GA_kon X (k:=1) (os:=[]) ⟨rfl,fun _=>rfl,fun _=>rfl,by decide⟩ rfl (calcsizeA hn) rm (by decide) (fun _ _ _=>trivial) fun v led hr=>⟨.i n,hr.1,?_⟩)
 rw[hr.2]
 refine H_ifs X (os:=[]) rfl (fun h=> ?_) (fun h=>H_nil ?_) (by exact (show l.length<2 ^ 40 by exact lin (.h 1 (.t Y0 (.c 1048576)) (.G 1 (.t Y0 (.c 1099511627776)))) rfl [_] [] hl))
 ·exact H_rse X TH (fl:= .struct) rfl (fun _=>rfl) (fun _=>by kernel_rfl) rfl (by decide) (os:=[]) rfl (FinZ.lent [] rfl ⟨rfl,fun e=>bne_iff_ne.mp h (congrArg _ e),rfl⟩ no_mem)
 ·have h9:l.length=n:=Int.ofNat.inj (bne_eq_false_iff_eq.mp h)
  refine H_set X (GA_frb X rfl rfl (by exact lin (.h 1 (.l Y1 (.c 8)) (.h 1 (.e Y0 Y1) (.G 1 (.l Y0 (.c 8))))) rfl [_,_] [] h8 h9) rfl ?_)
  refine H_ifs X (os:=[]) rfl (fun h=> ?_) (fun h=>H_nil ?_) (by exact fun e=>absurd (hs.symm.trans e) Bool.false_ne_true)
  ·exact absurd h (by rw[hs];exact Bool.false_ne_true)
  ·exact H_retT X (os:=[]) rfl fun r=>fin_tupZ [] rfl (.mk h9) no_mem
noncomputable def fixB (n:Nat) (bf:List UInt8) (pos:Nat):Except Flt (Int×Nat):=if pos+n≤(ub bf).length then .ok (leNum (((ub bf).drop pos).take n),pos+n) else .error .struct
noncomputable abbrev dFx (ql:Str) (sc:Scope) (f:Addr) (cd:Value):Df:=⟨ql,sc,f,cd,["buffer","pos","new_pos"],[],[]⟩
theorem fix_ret {ql:Str} {sc:Scope} {f:Addr} {cd:Value} {c:Cx} {bf:List UInt8} {pos n k:Nat} {x:Str} {p1 p2 p3 p4 p5 p6 p7 p8 p9 p10 p11 p12 p13:Pos} {σ:St} (X:Fx (dFx ql sc f cd) c) (TH:Thr (dFx ql sc f cd) c fun fl σ=>FinZ [] (ErrZ (fixB n bf pos) fl) σ) (rm:Rm c k) (hk:2<k) (gv:Gv (dFx ql sc f cd) "_unpack" 249)
  (hn:(if (x==("<I":Str)||x==("<i":Str))=true then (4:Nat) else 8)=n) (hs:(x==("<i":Str)||x==("<q":Str))=false) (h8:n≤8) (hl:bf.length<2 ^ 20)
  (hσ:σ=⟨[some (.b bf),some (.i (pos:Int)),some (.i ((pos:Int)+n))],[],[]⟩):
  H (dFx ql sc f cd) c (.cons (.ret (.tup (.cons (.sub (.call (.gl "_unpack" p1) (.cons (.txt x p2) (.cons (.sub (.loc 0 p3) (.slc (.loc 1 p4) (.loc 2 p5) p6) p7) .nil)) p8) (.num (0:Nat) p9) p10) (.cons (.loc 2 p11) .nil)) p12) p13) .nil) (fun f σ=>FinZ [] (TupZ (TwoZ (fixB n bf pos) .i) (flv f)) σ) σ:=by
 subst hσ
 have hul:=ub_length bf
 have hsl:List.drop ((pos:Int)).toNat (List.take ((pos:Int)+n).toNat bf)=(bf.drop pos).take n:=by
  rw[Int.toNat_natCast,show ((pos:Int)+n).toNat=pos+n from rfl,List.drop_take,Nat.add_sub_cancel_left]
 have hll:((bf.drop pos).take n).length=min n (bf.length - pos):=by rw[List.length_take,List.length_drop]
 refine H_ret (GA_tup (GL_cons (GA_itemT X (GA_call X gv (GL_cons (GA_p X (os:=[]) rfl (GL_cons (GA_slcB X rfl rfl (os:=[]) rfl rfl (.mk (Int.natCast_nonneg _) (Int.add_nonneg (Int.natCast_nonneg _) (Int.natCast_nonneg _)) (by omega) (GL_nil fun vs hvs=> ?_))))))) (by decide))))
 rw[hsl] at hvs
 refine G_kz X [] (unpackZ hn hs (by omega) h8 vs hvs) TH rm hk (fun _ _ _=>trivial) (fun v led ab1 hr=> ?_) fun fl led ab1 he=> ?_
 ·cases hr with
  |mk hv hr=>
   cases hr with
   |mk he=>
    refine ⟨.v _,rfl,.mk (.inl ⟨_,.head _,hv⟩) rfl (GL_p X (os:=[]) rfl ⟨Nat.le_of_ble_eq_true rfl,fun r v hv=>AV.has_v hv▸fin_tupZ [] rfl (.mk (q:=pos+n) ?_) no_mem⟩)⟩
    rw[fixB,if_pos (by omega),ub_slice]
 ·obtain ⟨e1,e2,e3⟩:=he
  subst e3;refine FinZ.lent [] rfl ⟨?_,rfl⟩ no_mem
  rw[e1,fixB,if_neg (by omega)]
theorem dec_fixed64Z {w:World} {bf:List UInt8} {pos:Nat} (hl:bf.length<2 ^ 20):KZ w 3 313 [.b bf,.i pos] [] (fun _ _=>True) (TupZ (TwoZ (fixB 8 bf pos) .i)) (ErrZ (fixB 8 bf pos)):=by
 refine KZ_enter (d:=dF8) (body:=bF8) dF8_ok (fun _=>rfl) (fun _=>rfl) (fun s=>lenS fun a=>lenS fun b=>lenZ (BindsTo.of_eq rfl)) rfl rfl (by decide) (by decide) ?_
 intro c X hw hx rm _ TH
 unfold bF8
 exact H_set X (GA_p X (os:=[]) rfl (fix_ret (ql:=dF8.qual) (sc:=dF8.sc) (f:=313) (cd:=dF8.cd) (n:=8) (x:="<Q") X TH rm (by decide) ⟨rfl,fun _=>rfl,fun _=>rfl,by decide⟩ (by decide+kernel) (by decide+kernel) (by decide) hl rfl))
theorem dec_fixed32Z {w:World} {bf:List UInt8} {pos:Nat} (hl:bf.length<2 ^ 20):KZ w 3 320 [.b bf,.i pos] [] (fun _ _=>True) (TupZ (TwoZ (fixB 4 bf pos) .i)) (ErrZ (fixB 4 bf pos)):=by
 refine KZ_enter (d:=dF4) (body:=bF4) dF4_ok (fun _=>rfl) (fun _=>rfl) (fun s=>lenS fun a=>lenS fun b=>lenZ (BindsTo.of_eq rfl)) rfl rfl (by decide) (by decide) ?_
 intro c X hw hx rm _ TH
 unfold bF4
 exact H_set X (GA_p X (os:=[]) rfl (fix_ret (ql:=dF4.qual) (sc:=dF4.sc) (f:=320) (cd:=dF4.cd) (n:=4) (x:="<I") X TH rm (by decide) ⟨rfl,fun _=>rfl,fun _=>rfl,by decide⟩ (by decide+kernel) (by decide+kernel) (by decide) hl rfl))
inductive NewR (w:World):Value→Led→Prop
 |mk {a d l t}:d<l→a<l→NewR w (.ref a) [(l,listOf #[] 0),(a,instObj 181 d),(d,dictOf [dEnt w (Str.ofString "_values") t (.ref l)] 1)]
theorem newSet {w:World}:KA w 3 181 [] (fun _=>True) (NewR w):=by
 intro vals hvs p loose mean mg mb dp un gd cn cs a ccd cl outer A₀ base h₀ L m s Q E news B F X N T hk hd hu _ ret
 cases hvs
 refine call_cls F X N (by k_is) (by k_is) (by k_is) ?_
 intro x dx h1 F1 N1 l1 l2
 k_dflt (refine' code_def (binds:=[(Str.ofString "self",.ref x)]) B F1 X N1 T rfl rfl hk ?k6 ?k7 (by show dp+1<recursionLimit;omega) ?k9 ?kB ?_ ?c2 ?c3 ?c4 ?c5)
 walk_at "in"
 intro g' L' h' FG' F' N' B' X' T'
 (try dsimp only);(try k_fold)
 walk_at "go"
 rename_i tk9 lr l3 h9 F9 N9 kF kN kT kX
 exact ret _ _ _ _ kF kN (.mk l3.2.1 l3.1) fun q hq=>fC ⟨Nat.lt_trans (l1 q hq) l3.2.1,fC ⟨Nat.lt_trans (l1 q hq) l2,fC ⟨l1 q hq,allP⟩⟩⟩
inductive AddR (w:World) (lr:Addr) (vs:List Value) (fn wt:Int) (A:AV):Value→Led→ALed→Prop
 |mk {x d t1 t2 t3 k1 k2 V}:A.has V→AddR w lr vs fn wt A (.ref x) [(x,instObj 52 d),(d,dictOf [dEnt w (Str.ofString "_field_number") t1 (.int fn k1),dEnt w (Str.ofString "_wire_type") t2 (.int wt k2),dEnt w (Str.ofString "_data") t3 V] 3)] [(lr,seqP (vs++[.ref x]))]
theorem addZ {w:World} {a d lr:Addr} {t:Tok} {vs:List Value} {fn wt:Int} {A:AV} (hv:vs.length<2 ^ 20):KZ w 3 150 [.v (.ref a),.i fn,.i wt,A] [(lr,seqP vs)] (fun _ news=>(a,instObj 181 d)∈news∧(d,dictOf [dEnt w (Str.ofString "_values") t (.ref lr)] 1)∈news) (AddR w lr vs fn wt A) (fun _ _ _=>False):=by
 intro vals hvs p loose mean mg mb dp un gd cn cs a9 ccd cl outer A₀ base h₀ L m s Q E news bs0 B F X N B0 _ ap T hk hd hu hn ret _
 obtain ⟨v1,_,e1,hv1,hvs⟩:=hvs.cons
 obtain ⟨v2,_,e2,hv2,hvs⟩:=hvs.cons
 obtain ⟨v3,_,e3,hv3,hvs⟩:=hvs.cons
 obtain ⟨v4,_,e4,hv4,hvs⟩:=hvs.cons
 obtain ⟨t2,hv2⟩:=AV.has_i hv2
 obtain ⟨t3,hv3⟩:=AV.has_i hv3
 cases hvs
 obtain ⟨o,k,eb,⟨cnt,ho⟩,B1⟩:=bs_cons B0
 rw[e1,e2,e3,e4,AV.has_v hv1,hv2,hv3]
 rw[eb,ho,bs_nil B1] at N
 obtain ⟨m1,m2⟩:=hn
 replace N:News h₀ L s.heap ((lr,listOf vs.toArray cnt)::news):=N
 have hrest:∀p∈news,p.1≠lr:=ap _ (.head _)
 clear e1 e2 e3 e4 hv1 hv2 hv3 eb ho B1 B0 ap
 refine wpAny_call ?_
 k_dflt (refine' code_def (binds:=[(Str.ofString "self",.ref a),(Str.ofString "field_number",.int fn t2),(Str.ofString "wire_type",.int wt t3),(Str.ofString "data",v4)]) B F X N T rfl rfl hk ?k6 ?k7 (by show dp<recursionLimit;omega) ?k9 ?kB ?_ ?c2 ?c3 ?c4 ?c5)
 walk_at "in"
 intro g' L' h' FG' F' N' B' X' T'
 (try dsimp only);(try k_fold)
 walk_at "go"
 walk1
 walk_at "go"
 rename_i xn dn z1 l1 l2 z2 z3 z4 z5 z6 z7 z8 z9 z10 z11 z12 z13 z14 z15 z16 z17 z18 z19 z20 kF kN kT kX
 simp only[List.push_toArray] at kN
 obtain ⟨a1,a2,a3,kM⟩:∃a1 a2 a3,News h₀ L z18 ((xn,instObj 52 dn)::(dn,dictOf [dEnt w (Str.ofString "_field_number") a1 (.int fn t2),dEnt w (Str.ofString "_wire_type") a2 (.int wt t3),dEnt w (Str.ofString "_data") a3 v4] 3)::(lr,listOf (vs++[Value.ref xn]).toArray (cnt+1))::news):=⟨_,_,_,kN⟩
 refine ret _ [(xn,instObj 52 dn),(dn,dictOf [dEnt w (Str.ofString "_field_number") a1 (.int fn t2),dEnt w (Str.ofString "_wire_type") a2 (.int wt t3),dEnt w (Str.ofString "_data") a3 v4] 3)] [(lr,seqP (vs++[Value.ref xn]))] [(lr,listOf (vs++[Value.ref xn]).toArray (cnt+1))] _ _ kF (fun q hq=>kM q ?_) (.cons ⟨_,rfl⟩ .nil) rfl (fun q hq=>fC ⟨Nat.lt_trans (kst_ltOf l1.2 q hq) l2,fC ⟨kst_ltOf l1.2 q hq,allP⟩⟩) (fC ⟨fC ⟨Nat.ne_of_gt (Nat.lt_trans l1.1 l2),fC ⟨Nat.ne_of_gt l1.1,allP⟩⟩,allP⟩) (.mk hv4)
 rcases List.mem_cons.mp hq with rfl|hq
 ·exact .tail _ (.tail _ (.head _))
 rcases List.mem_cons.mp hq with rfl|hq
 ·exact .head _
 rcases List.mem_cons.mp hq with rfl|hq
 ·exact .tail _ (.head _)
 exact .tail _ (.tail _ (.tail _ hq))
noncomputable def DatZ (RA:Led→List Rw→Addr→Prop) (tl:Led) (d:Dat) (A:AV):Prop:=match d with
 | .num v=>A= .i v
 | .byt b=>A= .b b
 | .grp g=>∃s,A= .v (.ref s)∧RA tl g s
inductive SetP (w:World) (n:Nat) (o:Except Flt (List Rw×Nat×Int)) (tl:Led):List AV→Prop
 |mk {rows q cl a}:o= .ok (rows,q,cl)→SetAt w n tl rows a→SetP w n o tl [.v (.ref a),.i (q:Nat)]
inductive FldP (w:World) (n:Nat) (o:Except Flt (Dat×Nat)) (tl:Led):List AV→Prop
 |mk {dt q A}:o= .ok (dt,q)→DatZ (SetAt w n) tl dt A→FldP w n o tl [A,.i (q:Nat)]
noncomputable abbrev DSetZ (w:World) (bf:List UInt8) (n end_:Nat):Prop:=∀(at_ lv:Nat) (L:Led),end_ - at_<n→at_<2 ^ 20→lv<100→rset (ub bf) end_ n at_ lv≠.error .unasked→
 KZ w (2*(100 - lv)+8) 328 [.b bf,.i at_,.i end_,.i lv] (TB L) (HdB L) (TupZ (TupT L (SetP w n (rset (ub bf) end_ n at_ lv)))) (ErrT L fun fl=>rset (ub bf) end_ n at_ lv= .error fl)
theorem HdB.at {L L':Led} {c:Cx} {kp:Kp} {σ:St} {bs:Led} (h:HdB L c.base c.news) (hs:∀p∈L',p∈σ.ex++L):HdB L' c.base (bs++c.all kp σ):=
 ⟨h.d,h.b,fun p hp=>mR _ ((List.mem_append.mp (hs p hp)).elim (fun h=>mL _ h) fun h2=>mR _ (mR _ (h.s p h2)))⟩
theorem finE {L L':Led} {P:Flt→Prop} {vs:List (Option AV)} {ex:Led} {fl:Flt} (h:P fl) (hs:∀p∈L',p∈ex++L):FinZ (TB L) (ErrT L P fl) ⟨vs,TB L',ex⟩:=FinZ.lent [true,true] rfl (.mk h hs) fun _ h=>h
theorem finT {L L':Led} {P:Led→List AV→Prop} {vs:List (Option AV)} {ex:Led} {r:Addr} {avs:List AV} (h:P ex avs) (hs:∀p∈L',p∈ex++L):FinZ (TB L) (TupZ (TupT L P) (.ref r)) (St.new ⟨vs,TB L',ex⟩ r (tupP avs)):=fin_tupZ [true,true] rfl (.mk h hs) fun _ h=>h
theorem fix_map {n:Nat} {bf:List UInt8} {at_:Nat}:(if at_+n≤(ub bf).length then Except.ok (Dat.num (leNum (((ub bf).drop at_).take n)),at_+n) else .error .struct)=(match fixB n bf at_ with| .ok (t,q)=>Except.ok (Dat.num t,q)| .error f=> .error f):=by unfold fixB;split<;>rfl
theorem nil_app {L L' tl:Led} (h:∀p∈L',p∈tl++L):∀p∈L',p∈(tl++[])++L:=(List.append_nil tl).symm▸h
theorem chain {L L' L2 tl ex:Led} (h2:∀p∈L2,p∈tl++L') (h:∀p∈L',p∈ex++L):∀p∈L2,p∈(tl++ex)++L:=fun p hp=>(List.mem_append.mp (h2 p hp)).elim (fun h=>mL _ (mL _ h)) fun h'=>(List.mem_append.mp (h p h')).elim (fun h=>mL _ (mR _ h)) fun h=>mR _ h
theorem take_dropB {bf:List UInt8} {p k:Nat}:(bf.take (p+k)).drop p=(bf.drop p).take k:=by rw[List.drop_take,Nat.add_sub_cancel_left]
theorem dec_fieldZ {w:World} {bf:List UInt8} {n end_ at_ lv:Nat} {num wire:Int} {L:Led} (hl:bf.length<2 ^ 16) (hat:at_<2 ^ 20) (hw:0≤wire) (hw8:wire<8) (hw4:wire≠4) (hn:end_ - at_<n) (hnum:0≤num) (hnum2:num<2 ^ 61) (hstart:(vint (num*8+4)).length≤at_)
  (hg:DSetZ w bf n end_) (hun:rcut end_ (rfld (ub bf) at_ wire (if 100≤lv+1 then .error .decode else rgrp (rset (ub bf) end_ n at_ (lv+1)) (ub bf) num))≠.error .unasked):
  KZ w (2*(100 - lv)+7) 336 [.b bf,.i at_,.i end_,.i num,.i wire,.i lv] (TB L) (HdB L) (TupZ (TupT L (FldP w n (rcut end_ (rfld (ub bf) at_ wire (if 100≤lv+1 then .error .decode else rgrp (rset (ub bf) end_ n at_ (lv+1)) (ub bf) num))))))
   (ErrT L fun fl=>rcut end_ (rfld (ub bf) at_ wire (if 100≤lv+1 then .error .decode else rgrp (rset (ub bf) end_ n at_ (lv+1)) (ub bf) num))= .error fl):=by
 refine KZ_enterD (dv:=[]) (d:=dDf) (body:=bDf) dDf_ok (fun _=>rfl) (fun _=>rfl) (fun s vs X e=>by revert vs;exact lenS fun a=>lenS fun b=>lenS fun _=>lenS fun _=>lenS fun _=>lenS fun _=>lenZ (binds_K (T:=329) X rfl rfl rfl rfl rfl)) .nil rfl rfl (by decide) (Nat.succ_pos _) ?_
 intro c X hwv hx rm hh TH
 subst hwv
 unfold bDf
 have hul:=ub_length bf
 have cut:∀{fl:Flt},rfld (ub bf) at_ wire (if 100≤lv+1 then .error .decode else rgrp (rset (ub bf) end_ n at_ (lv+1)) (ub bf) num)= .error fl→rcut end_ (rfld (ub bf) at_ wire (if 100≤lv+1 then .error .decode else rgrp (rset (ub bf) end_ n at_ (lv+1)) (ub bf) num))= .error fl:=fun e=>by rw[e];rfl
 refine H_join (S:=AV×Nat×Led×Led) (fun y=>⟨[some (.b bf),some (.i (y.2.1:Nat)),some (.i (end_:Int)),some (.i num),some (.i wire),none,some y.1],TB y.2.2.1,y.2.2.2⟩)
  (fun y=>∃dt,rfld (ub bf) at_ wire (if 100≤lv+1 then .error .decode else rgrp (rset (ub bf) end_ n at_ (lv+1)) (ub bf) num)= .ok (dt,y.2.1)∧DatZ (SetAt c.w n) y.2.2.2 dt y.1∧∀p∈y.2.2.1,p∈y.2.2.2++L) ?_ ?_
 ·refine HS_ifs X (os:=[]) rfl (fun h=> ?_) (fun h0=> ?_)
  ·obtain rfl:wire=0:=eq_of_beq h
   refine H_setZ X [true,true] (is:=[6,1]) rfl ⟨rfl,fun _=>rfl,fun _=>rfl,by decide⟩ (os:=[]) rfl (dec_varintZ (L:=L) (by exact lin (.h 1 (.t Y0 (.c 65536)) (.G 1 (.t Y0 (.c 1048576)))) rfl [_] [] hl) hat) TH rm (by exact lin (.G 1 (.t (.c 3) (.a (.r 2 Y0) (.c 7)))) rfl [_] []) (fun bs kp _=>hh.at fun p h=>h) (fun tl avs ab1 hr=> ?_) fun fl led ab1 he=> ?_
   ·cases hr with
    |mk hP hs=>
     obtain ⟨v,p,e,rfl⟩:=hP
     exact ⟨rfl,H_nil (md_nx (.i v,p,_,tl++[]) ⟨.keep (.keep (.keep (.keep (.keep (.skip (.keep .nil)))))),.refl _,fun _ h=>h⟩ ⟨.num v,by rw[rfld_0,e],rfl,nil_app hs⟩)⟩
   ·cases he with
    |mk e hs=>exact finE (cut (by rw[rfld_0,e])) (nil_app hs)
  ·refine H_ifs X (os:=[]) rfl (fun h=> ?_) (fun h1=> ?_)
   ·obtain rfl:wire=1:=eq_of_beq h
    refine H_setZ X [] (is:=[6,1]) rfl ⟨rfl,fun _=>rfl,fun _=>rfl,by decide⟩ (os:=[]) rfl (dec_fixed64Z (by exact lin (.h 1 (.t Y0 (.c 65536)) (.G 1 (.t Y0 (.c 1048576)))) rfl [_] [] hl)) TH rm (by exact lin (.G 1 (.t (.c 3) (.a (.r 2 Y0) (.c 7)))) rfl [_] []) (fun _ _ _=>trivial) (fun tl avs ab1 hr=> ?_) fun fl led ab1 he=> ?_
    ·cases hr with
     |mk e=>exact ⟨rfl,H_nil (H_nil (md_nx (.i _,_,L,[]) ⟨.keep (.keep (.keep (.keep (.keep (.skip (.keep .nil)))))),.refl _,fun _ h=>h⟩ ⟨.num _,by rw[rfld_1,fix_map,e],rfl,fun p h=>h⟩))⟩
    ·obtain ⟨e,rfl⟩:=he
     exact finE (cut (by rw[rfld_1,fix_map,e])) fun p h=>mR _ h
   refine H_ifs X (os:=[]) rfl (fun h=> ?_) (fun h5=> ?_)
   ·obtain rfl:wire=5:=eq_of_beq h
    refine H_setZ X [] (is:=[6,1]) rfl ⟨rfl,fun _=>rfl,fun _=>rfl,by decide⟩ (os:=[]) rfl (dec_fixed32Z (by exact lin (.h 1 (.t Y0 (.c 65536)) (.G 1 (.t Y0 (.c 1048576)))) rfl [_] [] hl)) TH rm (by exact lin (.G 1 (.t (.c 3) (.a (.r 2 Y0) (.c 7)))) rfl [_] []) (fun _ _ _=>trivial) (fun tl avs ab1 hr=> ?_) fun fl led ab1 he=> ?_
    ·cases hr with
     |mk e=>exact ⟨rfl,H_nil (H_nil (H_nil (md_nx (.i _,_,L,[]) ⟨.keep (.keep (.keep (.keep (.keep (.skip (.keep .nil)))))),.refl _,fun _ h=>h⟩ ⟨.num _,by rw[rfld_5,fix_map,e],rfl,fun p h=>h⟩)))⟩
    ·obtain ⟨e,rfl⟩:=he
     exact finE (cut (by rw[rfld_5,fix_map,e])) fun p h=>mR _ h
   refine H_ifs X (os:=[]) rfl (fun h=> ?_) (fun h2=> ?_)
   ·obtain rfl:wire=2:=eq_of_beq h
    refine H_setZ X [true,true] (is:=[7,1]) rfl ⟨rfl,fun _=>rfl,fun _=>rfl,by decide⟩ (os:=[]) rfl (dec_varintZ (L:=L) (by exact lin (.h 1 (.t Y0 (.c 65536)) (.G 1 (.t Y0 (.c 1048576)))) rfl [_] [] hl) hat) TH rm (by exact lin (.G 1 (.t (.c 3) (.a (.r 2 Y0) (.c 7)))) rfl [_] []) (fun bs kp _=>hh.at fun p h=>h) (fun tl avs ab1 hr=> ?_) fun fl led ab1 he=> ?_
    ·cases hr with
     |mk hP hs=>
      obtain ⟨v,p,e,rfl⟩:=hP
      have hr:=rvar_range (ub_bound bf) e
      obtain ⟨k9,rfl⟩:=Int.eq_ofNat_of_zero_le hr.1
      refine ⟨rfl,H_set X (GA_slcB X rfl rfl (os:=[]) rfl rfl (.mk (Int.natCast_nonneg _) (Int.add_nonneg (Int.natCast_nonneg _) (Int.natCast_nonneg _)) (by exact lin (.h 1 (.t Y0 (.c 65536)) (.G 1 (.l Y0 (.c 16777216)))) rfl [_] [] hl) (H_aug X (os:=[]) rfl rfl rfl (H_nil (H_nil (H_nil (H_nil (md_nx (.b _,p+k9,_,tl++[]) ⟨.keep (.keep (.keep (.keep (.keep (.skip (.keep .nil)))))),.refl _,fun _ h=>h⟩ ⟨.byt ((bf.drop p).take k9),?_,congrArg AV.b take_dropB,nil_app hs⟩))))))))⟩
      rw[rfld_2,e];dsimp only;rw[ub_back];rfl
    ·cases he with
     |mk e hs=>exact finE (cut (by rw[rfld_2,e])) (nil_app hs)
   refine H_ifs X (os:=[]) rfl (fun h=> ?_) (fun h3=> ?_)
   ·obtain rfl:wire=3:=eq_of_beq h
    refine H_set X (GA_kza X [true,true] ⟨rfl,fun _=>rfl,fun _=>rfl,by decide⟩ (os:=[]) rfl (dec_tagbytesZ (fz:=L) hnum hnum2) TH rm (by exact lin (.G 1 (.t (.c 5) (.a (.r 2 Y0) (.c 7)))) rfl [_] []) (fun bs kp _=>hh.at fun p h=>h) (fun v led ab1 hr=> ?_) fun _ _ _ h=>h.elim)
    cases hr with
    | @mk b t _ L' hub hs=>
     have hbl:=ub_length b
     rw[hub] at hbl
     refine ⟨.b b,⟨t,rfl⟩,H_aug X (os:=[]) rfl rfl rfl (H_ifs X (os:=[]) rfl (fun h=> ?_) (fun h=>H_nil ?_))⟩
     ·exact H_rse X TH (fl:= .decode) rfl (fun _=>rfl) (fun _=>by kernel_rfl) rfl (by decide) (os:=[]) rfl (finE (cut (by rw[rfld_3,if_pos (by have:=of_decide_eq_true h;(exact lin (.h 1 (.L (.c 100) (.a Y0 (.c 1))) (.G 1 (.l (.c 100) (.a Y0 (.c 1))))) rfl [_] [] this))])) (nil_app hs))
     ·have hlv:¬ 100≤lv+1:=by have:=of_decide_eq_false h;(exact lin (.h 1 (.nL (.c 100) (.a Y0 (.c 1))) (.G 1 (.nl (.c 100) (.a Y0 (.c 1))))) rfl [_] [] this)
      rw[rfld_3,if_neg hlv] at hun
      have hset:rset (ub bf) end_ n at_ (lv+1)≠.error .unasked:=fun e=>hun (by rw[e];rfl)
      refine H_setZ X [true,true] (is:=[6,1]) rfl ⟨rfl,fun _=>rfl,fun _=>rfl,by decide⟩ (os:=[]) rfl (hg at_ (lv+1) L' hn hat (by exact lin (.h 1 (.nl (.c 100) (.a Y0 (.c 1))) (.G 1 (.t (.a Y0 (.c 1)) (.c 100)))) rfl [_] [] hlv) hset) TH rm (by exact lin (.h 2 (.e (.a Y0 (.a Y2 (.c 1))) (.c 100)) (.h 2 (.d (.a Y1 Y2) (.c 100)) (.G 1 (.t (.a (.r 2 Y0) (.c 8)) (.a (.r 2 Y1) (.c 7)))))) rfl [_,_,_] [] (sC (lin (.h 1 (.nl (.c 100) (.a Y0 (.c 1))) (.G 1 (.l (.a Y0 (.c 1)) (.c 100)))) rfl [_] [] hlv)) (sC (lin (.h 1 (.nl (.c 100) (.a Y0 (.c 1))) (.G 1 (.l Y0 (.c 100)))) rfl [_] [] hlv))) (fun bs kp _=>hh.at (nil_app hs)) (fun tl avs ab1 hr=> ?_) fun fl led2 ab1 he=> ?_
      ·cases hr with
       |mk hP hs2=>
        cases hP with
        | @mk rows q cl a e hS=>
         have hge:=rset_ge (ub_bound bf) e
         rw[e] at hun
         have hcmp:((ub bf).take q).drop (q - (vint (num*8+4)).length)=ub ((bf.take q).drop (q - b.length)):=by rw[hbl];unfold ub;rw[List.map_drop,List.map_take]
         have hx:((q:Int) - (b.length:Int)).toNat=q - b.length:=by exact Nat.le_antisymm (lin (.h 1 (.E Y0 (.s Y2 Y3)) (.h 1 (.d (.a Y1 Y3) Y2) (.G 1 (.l Y0 Y1)))) rfl [_,_,_,_] [] (Int.toNat_of_nonneg (lin (.h 1 (.l Y2 Y3) (.h 1 (.d Y2 Y1) (.h 1 (.l Y3 Y0) (.G 1 (.L (.c 0) (.s Y0 Y1)))))) rfl [_,_,_,_] [] hstart hbl hge)) (sC (lin (.h 1 (.E Y2 (.s Y1 Y0)) (.G 1 (.l Y0 Y1))) rfl [_,_,_] [] (Int.toNat_of_nonneg (lin (.h 1 (.l Y2 Y3) (.h 1 (.d Y2 Y1) (.h 1 (.l Y3 Y0) (.G 1 (.L (.c 0) (.s Y0 Y1)))))) rfl [_,_,_,_] [] hstart hbl hge))))) (lin (.h 1 (.e (.a Y0 Y2) Y3) (.h 1 (.D Y1 (.s Y3 Y2)) (.G 1 (.l Y0 Y1)))) rfl [_,_,_,_] [] (sC (lin (.h 1 (.l Y2 Y3) (.h 1 (.d Y2 Y0) (.h 1 (.l Y3 Y1) (.G 1 (.l Y0 Y1))))) rfl [_,_,_,_] [] hstart hbl hge)) (Int.toNat_of_nonneg (lin (.h 1 (.e (.a Y2 Y1) Y0) (.G 1 (.L (.c 0) (.s Y0 Y1)))) rfl [_,_,_] [] (sC (lin (.h 1 (.l Y2 Y3) (.h 1 (.d Y2 Y0) (.h 1 (.l Y3 Y1) (.G 1 (.l Y0 Y1))))) rfl [_,_,_,_] [] hstart hbl hge)))))
         refine ⟨rfl,H_aug X (os:=[]) rfl rfl rfl (H_ifG (GT_neB (GA_slcB X rfl rfl (os:=[]) rfl rfl (.mk (by exact lin (.h 1 (.l Y2 Y3) (.h 1 (.d Y2 Y1) (.h 1 (.l Y3 Y0) (.G 1 (.L (.c 0) (.s Y0 Y1)))))) rfl [_,_,_,_] [] hstart hbl hge) (Int.natCast_nonneg _) (by exact lin (.h 1 (.t Y0 (.c 65536)) (.G 1 (.l Y0 (.c 16777216)))) rfl [_] [] hl) (GA_p X (os:=[]) rfl (.mk ⟨fun h=> ?_,fun h=>H_nil (H_nil (H_nil (H_nil (H_nil (H_nil ?_)))))⟩))) (ho1:=by exact (show b.length<2 ^ 40 by exact lin (.h 1 (.t Y1 (.c 1048576)) (.h 1 (.l Y2 Y1) (.h 1 (.d Y2 Y0) (.G 1 (.t Y0 (.c 1099511627776)))))) rfl [_,_,_] [] hat hstart hbl)))))⟩
         ·refine H_rse X TH (fl:= .decode) rfl (fun _=>rfl) (fun _=>by kernel_rfl) rfl (by decide) (os:=[]) rfl (finE (cut ?_) (chain hs2 (nil_app hs)))
          rw[rfld_3,if_neg hlv,e]
          refine if_neg fun hq=>bne_iff_ne.mp h ?_
          rw[hx];exact ub_inj (by rw[Int.toNat_natCast,←hcmp,hub];exact hq)
         ·have hq:((ub bf).take q).drop (q - (vint (num*8+4)).length)=vint (num*8+4):=by
           rw[hcmp,←hub];exact congrArg ub (by have:=bne_eq_false_iff_eq.mp h;rw[hx] at this;exact this)
          rw[rgrp,if_pos hq] at hun
          have hcl:cl=num:=Decidable.byContradiction fun hc=>hun (by rw[if_neg hc];rfl)
          refine md_nx (.v (.ref a),q,_,tl++(led++[])) ⟨.keep (.keep (.keep (.keep (.keep (.skip (.keep .nil)))))),.refl _,fun _ h=>h⟩ ⟨.grp rows,?_,⟨a,rfl,hS.mono fun p h=>mL _ h⟩,chain hs2 (nil_app hs)⟩
          rw[rfld_3,if_neg hlv,e,rgrp,if_pos hq,if_pos hcl]
      ·cases he with
       |mk e hs2=>exact finE (cut (by rw[rfld_3,if_neg hlv,e];rfl)) (chain hs2 (nil_app hs))
   refine H_ifs X (os:=[]) rfl (fun h=>absurd (eq_of_beq h) hw4) (fun h4=> ?_)
   refine H_rse X TH (fl:= .decode) rfl (fun _=>rfl) (fun _=>by kernel_rfl) rfl (by decide) (os:=[]) rfl (finE (cut ?_) fun p h=>h)
   have hw6:wire=6∨wire=7:=by
    have e0:=ne_of_beq_false h0
    have e1:=ne_of_beq_false h1
    have e2:=ne_of_beq_false h2
    have e3:=ne_of_beq_false h3
    have e5:=ne_of_beq_false h5
    omega
   rcases hw6 with rfl|rfl
   ·rfl
   ·rfl
 ·rintro ⟨A,q,L',ex⟩ ⟨dt,ho,hD,hs⟩
  refine H_ifs X (os:=[]) rfl (fun h=> ?_) (fun h=>H_nil (H_retT X (os:=[]) rfl fun r=>finT (.mk (dt:=dt) ?_ hD) hs))
  ·refine H_rse X TH (fl:= .decode) rfl (fun _=>rfl) (fun _=>by kernel_rfl) rfl (by decide) (os:=[]) rfl (finE ?_ hs)
   rw[ho];exact if_pos (by have:=of_decide_eq_true h;(exact lin (.h 1 (.T Y0 Y1) (.G 1 (.t Y0 Y1))) rfl [_,_] [] this))
  ·rw[ho];exact if_neg (by have:=of_decide_eq_false h;(exact lin (.h 1 (.nT Y0 Y1) (.G 1 (.nt Y0 Y1))) rfl [_,_] [] this))
inductive UtR (v:Int):Led→List AV→Prop
 |mk:UtR v [] [.i (v / 8),.i (v % 8)]
theorem unpackTagA {w:World} {v:Int}:KA w 1 263 [.i v] (fun _=>True) (TupR (UtR v)):=by
 refine KA_enter (d:=dUt) (body:=bUt) dUt_ok (fun _=>rfl) (fun _=>rfl) (fun s=>lenS fun a=>lenZ (BindsTo.of_eq rfl)) rfl rfl (by decide) (by decide) ?_
 intro c X hw hx rm _
 unfold bUt
 refine H_retT X (os:=[]) rfl (fun r=> ?_) (ho1:=by exact (show (0:Int)≤3 by decide))
 have e:v.fdiv (2 ^ Int.toNat 3)=v / 8:=Int.fdiv_eq_ediv_of_nonneg _ (by decide)
 rw[e,bitAnd_m3]
 exact fin_tup .mk no_mem
theorem H_freezeX {d:Df} {c:Cx} {vs:List (Option AV)} {ab:ALed} {ex:Led} {s:Sx} {r:Addr} {P:Obj→Prop} {Q:Flow→St→Prop} (hx:∀a,c.xs a→a∈keys ab) (h:∀o,P o→H d c s Q ⟨vs,ab,(r,o)::ex⟩):H d c s Q ⟨vs,(r,P)::ab,ex⟩:=fun kp hp tk K=>
 H_freeze (fun h'=>(List.pairwise_cons.mp K.nd).1 r (hx r h') rfl) h kp hp tk K
theorem DatZ.at {RA:Led→List Rw→Addr→Prop} {tl:Led} {d:Dat} {A:AV} {V:Value} (h:DatZ RA tl d A) (hv:A.has V):DatAt RA tl d V:=by
 cases d with
 |num v=>rw[show A= .i v from h] at hv;exact AV.has_i hv
 |byt b=>rw[show A= .b b from h] at hv;exact AV.has_b hv
 |grp g=>obtain ⟨s,e,h⟩:=h;rw[e] at hv;exact ⟨s,AV.has_v hv,h⟩
theorem wide {L L' led ex:Led} (h:∀p∈L',p∈ex++L):∀p∈L',p∈(led++ex)++L:=fun p hp=>(List.mem_append.mp (h p hp)).elim (fun h=>mL _ (mR _ h)) fun h=>mR _ h
structure SetJ (w:World) (bf:List UInt8) (end_ at_ lv n0:Nat) (a d l:Addr) (t:Tok) (L:Led) (y:Nat×Nat×List Rw×List Value×Led×Led):Prop where
 je:rset (ub bf) end_ (n0+1) at_ lv=addRows y.2.2.1 (rset (ub bf) end_ y.1 y.2.1 lv)
 jn:end_ - y.2.1<y.1
 jl:y.1+y.2.2.2.1.length≤n0+1
 ja:y.2.1<2 ^ 20
 jf:Each (FieldAt w (SetAt w n0) y.2.2.2.2.2) y.2.2.1 y.2.2.2.1
 jt:∀p∈y.2.2.2.2.1,p∈y.2.2.2.2.2++L
 m1:(a,instObj 181 d)∈y.2.2.2.2.2
 m2:(d,dictOf [dEnt w (Str.ofString "_values") t (.ref l)] 1)∈y.2.2.2.2.2
theorem set_walk {c:Cx} {bf:List UInt8} {end_ at_ lv n0:Nat} {L:Led} (hl:bf.length<2 ^ 16) (he:end_<2 ^ 17) (hn2:n0+1<2 ^ 18) (hn:end_ - at_<n0+1) (hat:at_<2 ^ 20) (hlv:lv<100) (hun:rset (ub bf) end_ (n0+1) at_ lv≠.error .unasked) (ih:∀m,m<n0+1→m<2 ^ 18→DSetZ c.w bf m end_)
  (X:Fx dDs c) (hx:c.xs=(·∈keys (TB L))) (rm:Rm c (2*(100 - lv)+8)) (hh:HdB L c.base c.news) (TH:Thr dDs c fun fl σ=>FinZ (TB L) (ErrT L (fun fl=>rset (ub bf) end_ (n0+1) at_ lv= .error fl) fl) σ):
  H dDs c bDs (fun f σ=>FinZ (TB L) (TupZ (TupT L (SetP c.w (n0+1) (rset (ub bf) end_ (n0+1) at_ lv))) (flv f)) σ) ⟨[some (.b bf),some (.i (at_:Int)),some (.i (end_:Int)),some (.i (lv:Int))],TB L,[]⟩:=by
 unfold bDs
 refine H_set X (GA_new X ⟨rfl,fun _=>rfl,fun _=>rfl,by decide⟩ newSet rm (by exact lin (.G 1 (.t (.c 3) (.a (.r 2 Y0) (.c 8)))) rfl [_] []) fun v led hr=> ?_)
 cases hr with
 | @mk a d l t h1 h2=>
 refine .mk (P:=seqP []) ⟨0,rfl⟩ (fC ⟨h2,fC ⟨h1,allP⟩⟩) ?_
 have keyx:∀{L':Led} x,c.xs x→x∈keys (TB L'):=fun {L'} x h=>by rw[hx] at h;exact h
 have out:∀{acc:List Rw} {vs:List Value} {L' ex:Led} {q:Nat} {cl:Int},Each (FieldAt c.w (SetAt c.w n0) ex) acc vs→(∀p∈L',p∈ex++L)→(a,instObj 181 d)∈ex→(d,dictOf [dEnt c.w (Str.ofString "_values") t (.ref l)] 1)∈ex→rset (ub bf) end_ (n0+1) at_ lv= .ok (acc,q,cl)→H dDs c (.cons (.ret (.tup (.cons (.loc 4 (pn (nat_lit 784531485))) (.cons (.loc 1 (pn (nat_lit 784842786))) .nil)) (pn (nat_lit 784515107))) (pn (nat_lit 784400419))) .nil)
   (fun f σ=>FinZ (TB L) (TupZ (TupT L (SetP c.w (n0+1) (rset (ub bf) end_ (n0+1) at_ lv))) (flv f)) σ) ⟨[some (.b bf),some (.i (q:Nat)),some (.i (end_:Int)),some (.i (lv:Int)),some (.v (.ref a))],(l,seqP vs)::TB L',ex⟩:=fun {acc vs L' ex q cl} jf jt m1 m2 e=>
  H_freezeX keyx fun o ho=>H_retT X (os:=[]) rfl fun r=>by
   obtain ⟨k,rfl⟩:=ho
   exact finT (.mk e ⟨d,t,l,vs,k,.tail _ m1,.tail _ m2,.head _,jf.mono fun _ _ z=>z.mono (fun p h=> .tail _ h) fun _ _ u=>u.mono fun p h=> .tail _ h⟩) fun p h=> .tail _ (jt p h)
 refine H_whl X (fun (y:Nat×Nat×List Rw×List Value×Led×Led)=>⟨[some (.b bf),some (.i (y.2.1:Nat)),some (.i (end_:Int)),some (.i (lv:Int)),some (.v (.ref a))],(l,seqP y.2.2.2.1)::TB y.2.2.2.2.1,y.2.2.2.2.2⟩)
  (SetJ c.w bf end_ at_ lv n0 a d l t L) (fun y=>y.1) (n0+1,at_,[],[],L,[(a,instObj 181 d),(d,_)]) ⟨.keep (.keep (.keep (.keep (.keep .nil)))),.refl _,fun p h=>h⟩ ⟨?_,hn,Nat.le_refl _,hat,.nil,fun p h=>mR _ h,.head _,.tail _ (.head _)⟩ ?_
 ·cases e:rset (ub bf) end_ (n0+1) at_ lv with
  |error=>rfl
  |ok v=>obtain ⟨a,b,c⟩:=v;rfl
 rintro ⟨n',at',acc,vs,L',ex⟩ J
 have hset:=J.je
 have hn':=J.jn
 have hlen:=J.jl
 have hat':=J.ja
 dsimp only at hset hn' hlen hat'
 obtain ⟨n1,rfl⟩:∃n1,n'=n1+1:=⟨n' - 1,by exact Nat.le_antisymm (lin (.h 1 (.d (.a Y1 (.c 1)) Y0) (.G 1 (.l Y0 (.a Y1 (.c 1))))) rfl [_,_] [] (sC (lin (.h 1 (.t Y1 Y0) (.G 1 (.l (.c 1) Y0))) rfl [_,_] [] hn'))) (lin (.h 1 (.e (.a Y0 (.c 1)) Y1) (.G 1 (.l (.a Y0 (.c 1)) Y1))) rfl [_,_] [] (sC (lin (.h 1 (.t Y1 Y0) (.G 1 (.l (.c 1) Y0))) rfl [_,_] [] hn')))⟩
 refine GT_p X (os:=[]) rfl ⟨fun h=> ?_,fun h=> ?_⟩
 ·have hlt:at'<end_:=by have:=of_decide_eq_true (show decide ((at':Int)<(end_:Int))=true from h);(exact lin (.h 1 (.T Y0 Y1) (.G 1 (.t Y0 Y1))) rfl [_,_] [] this)
  have errF:∀{fl:Flt} {L2 led:Led} {vs':List (Option AV)} {P':Obj→Prop},rset (ub bf) end_ (n0+1) at_ lv= .error fl→(∀p∈L2,p∈led++L)→FinZ (TB L) (ErrT L (fun fl=>rset (ub bf) end_ (n0+1) at_ lv= .error fl) fl) ⟨vs',(l,P')::TB L2,led⟩:=fun e hs=>FinZ.lent [false,true,true] rfl (.mk e hs) fun _ h=>h
  have hsp:=rtag_split (bf:=bf) (at_:=at') (ub_bound bf)
  refine H_setZ X [] (is:=[5,1]) rfl ⟨rfl,fun _=>rfl,fun _=>rfl,by decide⟩ (os:=[]) rfl (dec_tagZ (by exact lin (.h 1 (.t Y0 (.c 65536)) (.G 1 (.t Y0 (.c 1048576)))) rfl [_] [] hl) hat') TH rm (by exact lin (.G 1 (.t (.c 1) (.a (.r 2 Y0) (.c 8)))) rfl [_] []) (fun _ _ _=>trivial) (fun tl avs ab1 hr=> ?_) fun fl led ab1 he=> ?_
  ·cases hr with
   | @mk tg pe e=>
   rcases hsp with ⟨f,e1,e2⟩|⟨tg',pe',e1,hp1,hp2,htl,hE,hK⟩
   ·rw[e1] at e;cases e
   rw[e1] at e;cases e
   refine ⟨rfl,H_setZ X [false,true,true] (is:=[6,7]) rfl ⟨rfl,fun _=>rfl,fun _=>rfl,by decide⟩ (os:=[]) rfl (dec_varintZ (bf:=tg) (pos:=0) (L:=L') (by exact lin (.h 1 (.t Y1 (.c 65536)) (.h 1 (.l Y0 Y1) (.G 1 (.t Y0 (.c 1048576))))) rfl [_,_] [] hl htl) (by decide)) TH rm (by exact lin (.G 1 (.t (.c 3) (.a (.r 2 Y0) (.c 8)))) rfl [_] []) (fun bs kp _=>hh.at J.jt) (fun tl avs ab1 hr=> ?_) fun fl led ab1 he=> ?_⟩
   ·cases hr with
    | @mk L2 _ _ hP hs=>
    obtain ⟨v9,p9,eo,rfl⟩:=hP
    obtain ⟨ht,hv0,hv1,hvl⟩:=hK v9 p9 eo
    refine ⟨rfl,H_setK X (is:=[8,9]) rfl ⟨rfl,fun _=>rfl,fun _=>rfl,by decide⟩ (os:=[]) rfl unpackTagA rm (by exact lin (.G 1 (.t (.c 1) (.a (.r 2 Y0) (.c 8)))) rfl [_] []) (fun _ _ _=>trivial) (fun tl2 avs hr=> ?_)⟩
    cases hr with
    |mk=>
    have up:∀p∈ex,p∈[]++(tl++([]++ex)):=fun p h=>mR tl h
    have jfM:Each (FieldAt c.w (SetAt c.w n0) ([]++(tl++([]++ex)))) acc vs:=J.jf.mono fun _ _ z=>z.mono up fun _ _ u=>u.mono up
    have hs2:∀p∈L2,p∈(tl++([]++ex))++L:=chain hs J.jt
    refine ⟨rfl,H_ifs X (os:=[]) rfl (fun h4=> ?_) (fun h4=>H_nil ?_)⟩
    ·have k4:v9 % 8=4:=eq_of_beq h4
     exact H_brk (H_le (out jfM hs2 (up _ J.m1) (up _ J.m2) (cl:=v9 / 8) (q:=pe) (by rw[hset,rset_end hlt ht k4,addRows_nil])) ⟨.keep (.keep (.keep (.keep (.keep .nil)))),.refl _,fun p h=>h⟩)
    ·have kne:v9 % 8≠4:=ne_of_beq_false h4
     have hcont:=rset_cont (n:=n1) (lv:=lv) hlt ht kne
     have hunF:rcut end_ (rfld (ub bf) pe (v9 % 8) (if 100≤lv+1 then .error .decode else rgrp (rset (ub bf) end_ n1 pe (lv+1)) (ub bf) (v9 / 8)))≠.error .unasked:=fun hh=>hun (by rw[hset,hcont,hh];rfl)
     refine H_setZ X [false,true,true] (is:=[10,1]) rfl ⟨rfl,fun _=>rfl,fun _=>rfl,by decide⟩ (os:=[]) rfl (dec_fieldZ (n:=n1) (L:=L2) hl (by exact lin (.h 1 (.t Y1 (.c 65536)) (.h 1 (.l Y0 Y1) (.G 1 (.t Y0 (.c 1048576))))) rfl [_,_] [] hl hp2) (Int.emod_nonneg _ (by decide)) (Int.emod_lt_of_pos _ (by decide)) kne (by exact (Int.lt_or_gt_of_ne kne).elim (fun e30=>(Nat.le_total _ _).elim (fun e21=>lin (.h 1 (.t Y2 (.a Y1 (.c 1))) (.h 1 (.t Y3 Y4) (.h 1 (.e (.a Y0 Y4) Y5) (.h 1 (.d (.a Y2 Y3) Y5) (.G 1 (.t Y0 Y1)))))) rfl [_,_,_,_,_,_] [] hn' hp1 (sC (lin (.h 1 (.l Y0 Y1) (.G 1 (.l Y0 Y1))) rfl [_,_] [] e21)) (sC (lin (.h 1 (.t Y0 Y1) (.G 1 (.l Y0 Y1))) rfl [_,_] [] hlt))) (fun e21=>lin (.h 1 (.t Y2 (.a Y1 (.c 1))) (.h 1 (.t Y3 Y4) (.h 1 (.e Y0 (.c 0)) (.h 1 (.d (.a Y2 Y3) Y4) (.G 1 (.t Y0 Y1)))))) rfl [_,_,_,_,_] [] hn' hlt (Nat.sub_eq_zero_of_le (lin (.h 1 (.l Y0 Y1) (.G 1 (.l Y0 Y1))) rfl [_,_] [] e21)) (sC (lin (.h 1 (.t Y0 Y1) (.G 1 (.l Y0 Y1))) rfl [_,_] [] hlt)))) (fun e30=>(Nat.le_total _ _).elim (fun e21=>lin (.h 1 (.t Y2 (.a Y1 (.c 1))) (.h 1 (.t Y3 Y4) (.h 1 (.e (.a Y0 Y4) Y5) (.h 1 (.d (.a Y2 Y3) Y5) (.G 1 (.t Y0 Y1)))))) rfl [_,_,_,_,_,_] [] hn' hp1 (sC (lin (.h 1 (.l Y0 Y1) (.G 1 (.l Y0 Y1))) rfl [_,_] [] e21)) (sC (lin (.h 1 (.t Y0 Y1) (.G 1 (.l Y0 Y1))) rfl [_,_] [] hlt))) (fun e21=>lin (.h 1 (.t Y2 (.a Y1 (.c 1))) (.h 1 (.t Y3 Y4) (.h 1 (.e Y0 (.c 0)) (.h 1 (.d (.a Y2 Y3) Y4) (.G 1 (.t Y0 Y1)))))) rfl [_,_,_,_,_] [] hn' hlt (Nat.sub_eq_zero_of_le (lin (.h 1 (.l Y0 Y1) (.G 1 (.l Y0 Y1))) rfl [_,_] [] e21)) (sC (lin (.h 1 (.t Y0 Y1) (.G 1 (.l Y0 Y1))) rfl [_,_] [] hlt))))) (by exact lin (.h 1 (.L (.c 0) Z1) (.h 1 (.D (.a (.r 8 Z0) Z2) Z1) (.h 1 (.T Z2 (.c 8)) (.G 8 (.L (.c 0) Z0))))) rfl [] [_,_,_] hv0 (Int.mul_ediv_add_emod _ _) (Int.emod_lt_of_pos _ (by decide))) (by exact lin (.h 1 (.T Z1 (.c 18446744073709551616)) (.h 1 (.E (.a (.r 8 Z0) Z2) Z1) (.h 1 (.L (.c 0) Z2) (.G 8 (.T Z0 (.c 2305843009213693952)))))) rfl [] [_,_,_] hv1 (Int.mul_ediv_add_emod _ _) (Int.emod_nonneg _ (by decide))) hvl (ih n1 (by exact lin (.h 1 (.l (.a (.a Y0 (.c 1)) Y2) (.a Y1 (.c 1))) (.G 1 (.t Y0 (.a Y1 (.c 1))))) rfl [_,_,_] [] hlen) (by exact lin (.h 1 (.t (.a Y1 (.c 1)) (.c 262144)) (.h 1 (.l (.a (.a Y0 (.c 1)) Y2) (.a Y1 (.c 1))) (.G 1 (.t Y0 (.c 262144))))) rfl [_,_,_] [] hn2 hlen)) hunF) TH rm (by exact lin (.G 1 (.t (.a (.r 2 Y0) (.c 7)) (.a (.r 2 Y0) (.c 8)))) rfl [_] []) (fun bs kp _=>hh.at hs2) (fun tl3 avs ab1 hr=> ?_) fun fl led ab1 he=> ?_
     ·cases hr with
      | @mk L3 _ _ hP hs3=>
      cases hP with
      | @mk dt q9 A eo4 hD=>
      have hq3:=(rcut_ok eo4).1
      have hqge:=row_ge (ub_bound bf) (rcut_ok eo4).2
      have up3:∀p∈ex,p∈tl3++([]++(tl++([]++ex))):=fun p h=>mR _ (up p h)
      refine ⟨rfl,H_exp X (GA_meth X [true] (i:=4) rfl rfl (up3 _ J.m1) (up3 _ J.m2) (fun _=>rfl) (fun _=>rfl) (fun _=>rfl) rfl (fun _=>rfl) (os:=[]) rfl (addZ (d:=d) (t:=t) (by exact lin (.h 1 (.t (.a Y1 (.c 1)) (.c 262144)) (.h 1 (.l (.a (.a Y2 (.c 1)) Y0) (.a Y1 (.c 1))) (.G 1 (.t Y0 (.c 1048576))))) rfl [_,_,_] [] hn2 hlen)) TH rm (by exact lin (.G 1 (.t (.c 3) (.a (.r 2 Y0) (.c 8)))) rfl [_] []) (fun bs kp _=>⟨mR _ (mL _ (up3 _ J.m1)),mR _ (mL _ (up3 _ J.m2))⟩) (fun v led ab1 hr=> ?_) fun _ _ _ h=>h.elim)⟩
      cases hr with
      | @mk xn dn a1 a2 a3 k1 k2 V hV=>
      refine H_nil (lp_nx (n1,q9,acc++[(v9 / 8,v9 % 8,dt)],vs++[.ref xn],L3,_) ⟨.keep (.keep (.keep (.keep (.keep .nil)))),.refl _,fun p h=>h⟩ ⟨?_,?_,?_,?_,?_,wide (chain hs3 hs2),mR _ (up3 _ J.m1),mR _ (up3 _ J.m2)⟩ (Nat.lt_succ_self _))
      ·rw[hset,hcont,eo4,addRows_row]
      ·dsimp only;(exact lin (.h 1 (.t Y2 (.a Y1 (.c 1))) (.h 1 (.t Y3 Y4) (.h 1 (.l Y4 Y5) (.h 1 (.e (.a Y0 Y5) Y6) (.h 1 (.d (.a Y2 Y3) Y6) (.G 1 (.t Y0 Y1))))))) rfl [_,_,_,_,_,_,_] [] hn' hp1 hqge (sC (lin (.h 1 (.l Y0 Y1) (.G 1 (.l Y0 Y1))) rfl [_,_] [] hq3)) (sC (lin (.h 1 (.t Y0 Y1) (.G 1 (.l Y0 Y1))) rfl [_,_] [] hlt)))
      ·simp only[List.length_append,List.length_singleton];(exact lin (.h 1 (.l (.a (.a Y0 (.c 1)) Y1) (.a Y2 (.c 1))) (.G 1 (.l (.a Y0 (.a Y1 (.c 1))) (.a Y2 (.c 1))))) rfl [_,_,_] [] hlen)
      ·dsimp only;(exact lin (.h 1 (.t Y1 (.c 131072)) (.h 1 (.l Y0 Y1) (.G 1 (.t Y0 (.c 1048576))))) rfl [_,_] [] he hq3)
      ·refine (J.jf.mono fun _ _ z=>z.mono (fun p h=>mR _ (up3 p h)) fun _ _ u=>u.mono fun p h=>mR _ (up3 p h)).append (.cons ⟨xn,dn,a1,a2,a3,k1,k2,V,rfl,mL _ (.head _),mL _ (.tail _ (.head _)),((hD.at hV).leS (by exact lin (.h 1 (.l (.a (.a Y0 (.c 1)) Y2) (.a Y1 (.c 1))) (.G 1 (.l Y0 Y1))) rfl [_,_,_] [] hlen)).mono fun _ _ u=>u.mono fun p h=>mR _ (mL _ h)⟩ .nil)
     ·cases he with
      |mk eo hs=>exact errF (by rw[hset,hcont,eo];rfl) (chain hs hs2)
   ·cases he with
    |mk eo hs=>exact errF (by rw[hset,rset_tagE hlt (hE fl eo)];rfl) (chain hs J.jt)
  ·obtain ⟨eo,rfl⟩:=he
   refine errF ?_ (wide J.jt)
   rcases hsp with ⟨f,e1,e2⟩|⟨tb,e,e1,_⟩
   ·rw[e1] at eo;cases eo
    rw[hset,rset_tagE hlt e2];rfl
   ·rw[e1] at eo;cases eo
 ·have hge:¬ at'<end_:=by have:=of_decide_eq_false (show decide ((at':Int)<(end_:Int))=false from h);(exact lin (.h 1 (.nT Y0 Y1) (.G 1 (.nt Y0 Y1))) rfl [_,_] [] this)
  exact out J.jf J.jt J.m1 J.m2 (cl:= -1) (by rw[hset,rset_out hge,addRows_nil])
theorem dec_setZ {w:World} {bf:List UInt8} {end_:Nat} (hl:bf.length<2 ^ 16) (he:end_<2 ^ 17):∀n,n<2 ^ 18→DSetZ w bf n end_:=by
 intro n
 induction n using Nat.strongRecOn with
 |ind n ih=>
 intro hn2 at_ lv L hn hat hlv hun
 cases n with
 |zero=>exact absurd hn (Nat.not_lt_zero _)
 |succ n0=>
 refine KZ_enterD (dv:=[]) (d:=dDs) (body:=bDs) dDs_ok (fun _=>rfl) (fun _=>rfl) (fun s vs X e=>by revert vs;exact lenS fun a=>lenS fun b=>lenS fun _=>lenS fun _=>lenZ (binds_K (T:=321) X rfl rfl rfl rfl rfl)) .nil rfl rfl (by decide) (Nat.succ_pos _) ?_
 intro c X hwv hx rm hh TH
 subst hwv
 exact set_walk hl he hn2 hn hat hlv hun ih X hx rm hh TH
theorem dec_set3 {w:World} {bf:List UInt8} {end_ at_ n0:Nat} {L:Led} (hl:bf.length<2 ^ 16) (he:end_<2 ^ 17) (hn2:n0+1<2 ^ 18) (hn:end_ - at_<n0+1) (hat:at_<2 ^ 20) (hun:rset (ub bf) end_ (n0+1) at_ 0≠.error .unasked):
  KZ w 208 328 [.b bf,.i at_,.i end_] (TB L) (HdB L) (TupZ (TupT L (SetP w (n0+1) (rset (ub bf) end_ (n0+1) at_ 0)))) (ErrT L fun fl=>rset (ub bf) end_ (n0+1) at_ 0= .error fl):=by
 refine KZ_enterD (dv:=[.int 0 606]) (das:=[.i 0]) (d:=dDs) (body:=bDs) dDs_ok (fun _=>rfl) (fun _=>rfl) (fun s vs X e=>by revert vs;exact lenS fun a=>lenS fun b=>lenS fun _=>lenZ (binds_K (T:=321) X rfl rfl rfl rfl rfl)) (.i .nil) rfl rfl (by decide) (Nat.succ_pos _) ?_
 intro c X hwv hx rm hh TH
 subst hwv
 exact set_walk (lv:=0) hl he hn2 hn hat (by decide) hun (fun m _ h=>dec_setZ hl he m h) X hx rm hh TH
inductive TldP (w:World) (n:Nat) (o:Except Flt (List Rw×Nat×Int)):Led→List AV→Prop
 |ok {rows q cl a tl}:o= .ok (rows,q,cl)→SetAt w n tl rows a→TldP w n o tl [.s "",.v (.ref a),.i (q:Nat)]
 |err {f tl}:o= .error f→TldP w n o tl [.s f.name,.v .none,.i 0]
theorem perm3 {x y z:Addr×Obj} {l:Led}:∀p∈[y,z]++(x::l),p∈x::y::z::l:=fC ⟨.tail _ (.head _),fC ⟨.tail _ (.tail _ (.head _)),fC ⟨.head _,fun p h=> .tail _ (.tail _ (.tail _ h))⟩⟩⟩
theorem ne_two {L l:Led} {x:Addr×Obj} (h1:287<x.1) (h2:273<x.1) (h:∀q∈TB L,∀p∈l,p.1≠q.1):∀q∈TB L,∀p∈x::l,p.1≠q.1:=
 fC ⟨fC ⟨Nat.ne_of_gt h1,h _ (.head _)⟩,fC ⟨fC ⟨Nat.ne_of_gt h2,h _ (.tail _ (.head _))⟩,allP⟩⟩
set_option maxHeartbeats 4000000
theorem law_told {w:World} {bs:List Int} {os:List Value} {lo end_ n at_ lv co:Nat} {t u v:Tok} {L:Led} (hi:IntsAre os bs) (hb:∀b∈bs,0≤b∧b<256) (hl:bs.length<2 ^ 16) (he:end_<2 ^ 17) (hat:at_<2 ^ 17) (hlv:lv<100) (hn:end_ - at_<n) (hn2:n<2 ^ 18)
 ⦃p:Program⦄ ⦃loose:List Str⦄ ⦃mean:ExcName→Option Value⦄ ⦃mg mb:Str→Option Value⦄ ⦃dp un:Nat⦄ ⦃gd:Option (List Code)⦄ ⦃cn:Str⦄ ⦃cs:Scope⦄ ⦃a:Addr⦄ ⦃ccd:Value⦄ ⦃A₀:Around⦄ ⦃base h₀:Heap⦄ ⦃L1:Addr⦄ ⦃m:Str→Option Value⦄ ⦃s:Shared⦄ ⦃Q E:Value→Shared→Prop⦄ ⦃news:Led⦄ ⦃ps1 ps2:Array Value⦄
 (hun:rset bs end_ n at_ lv≠.error .unasked) (XB:(Mine.kf w.params).In base) (TT:Top p loose mean mg mb base) (hh:HdB L base news) (HT:TabOk ps1 L vdSpec) (HT2:TabOk ps2 L vbSpec) (hne:∀q∈TB L,∀p∈news,p.1≠q.1)
 (B:Below A₀ base [] h₀) (F:Fr h₀ L1 s.heap m) (X:(Mine.kf w.params).In h₀) (N:News h₀ L1 s.heap ((287,tabObj ps1)::(273,tabObj ps2)::news)) (T:Top p loose mean mg mb h₀) (hk:cs.kind= .function)
 (hd:dp+210<recursionLimit) (hu:un+5000<cLine) (hm:(lo,listOf os.toArray co)∈news)
 (ret:∀v led ab1 bs1 h' tk',Fr h₀ L1 h' m→News h₀ L1 h' (bs1++(led++news))→Bs ab1 bs1→keys ab1=keys (TB L)→(∀q∈news,∀p∈led,q.1<p.1)→(∀q∈TB L,∀p∈led,p.1≠q.1)→TupZ (TupT L (TldP w n (rset bs end_ n at_ lv))) v led ab1→Q v {s with heap:=h',toks:=tk'}):
  wpAny (model PR w) (ktrTop dp un gd cn cs L1 a ccd [] []) (call (.ref 418) [.ref lo,.int (at_:Int) t,.int (end_:Int) u,.int (lv:Int) v]) Q E s:=by
 refine wpAny_call ?_
 k_dflt (refine' code_defS0 (binds:=[(Str.ofString "octets",.ref lo),(Str.ofString "at",.int (at_:Int) t),(Str.ofString "end",.int (end_:Int) u),(Str.ofString "level",.int (lv:Int) v)]) B F X N T rfl ?k6 ?k7 (by show dp<recursionLimit;(exact lin (.h 1 (.t (.a Y0 (.c 210)) Y1) (.G 1 (.t Y0 Y1))) rfl [_,_] [] hd)) ?k9 ?kB ?_ hk ?c2 ?c3 ?c4 ?c5)
 walk_at "in"
 intro g' L' h' FG' F' N' B' X' T' D'
 (try dsimp only);(try k_fold)
 walk_at "go"
 rename_i kI kS
 have hub:=ub_byteL hb
 have hbl:(byteL bs).length=bs.length:=List.length_map ..
 rw[show byteArr bs=(byteL bs).toArray from rfl]
 refine dec_setZ (bf:=byteL bs) (end_:=end_) (by exact lin (.h 1 (.t Y1 (.c 65536)) (.h 1 (.e Y0 Y1) (.G 1 (.t Y0 (.c 65536))))) rfl [_,_] [] hl hbl) he n hn2 at_ lv L hn (by exact lin (.h 1 (.t Y0 (.c 131072)) (.G 1 (.t Y0 (.c 1048576)))) rfl [_] [] hat) hlv (by rw[hub];exact hun) _ (.b (.i (.i (.i .nil)))) B' (by assumption) X' (bs0:=[(287,tabObj ps1),(273,tabObj ps2)]) (news:=news) (by assumption) (.cons ⟨_,rfl,HT⟩ (.cons ⟨_,rfl,HT2⟩ .nil)) (show ([287,273]:List Nat).Pairwise (·≠·) by decide) hne T' rfl ?hd ?hu hh ?ret ?exc
 case hd=>show dp+1+(2*(100 - lv)+8)<recursionLimit;(exact lin (.h 1 (.t (.a Y0 (.c 210)) Y2) (.h 2 (.e (.a Y1 Y3) (.c 100)) (.G 1 (.t (.a (.a Y0 (.c 1)) (.a (.r 2 Y1) (.c 8))) Y2)))) rfl [_,_,_,_] [] hd (sC (lin (.h 1 (.t Y0 (.c 100)) (.G 1 (.l Y0 (.c 100)))) rfl [_] [] hlv)))
 case hu=>show un+3+20*(2*(100 - lv)+8)+200<cLine;(exact lin (.h 1 (.t (.a Y0 (.c 5000)) Y2) (.h 40 (.e (.a Y1 Y3) (.c 100)) (.G 1 (.t (.a (.a (.a Y0 (.c 3)) (.r 20 (.a (.r 2 Y1) (.c 8)))) (.c 200)) Y2)))) rfl [_,_,_,_] [] hu (sC (lin (.h 1 (.t Y0 (.c 100)) (.G 1 (.l Y0 (.c 100)))) rfl [_] [] hlv)))
 case ret=>
  intro vv led ab1 bs1 h2 tk2 F2 N2 b e lt nl hr
  cases hr with
  |mk hs hT=>
  cases hT with
  |mk hP hs2=>
  cases hP with
  | @mk rows q cl sa eo hS=>
  rw[hub] at eo
  obtain ⟨x1,_,e1,hx1,hs⟩:=hs.cons
  obtain ⟨x2,_,e2,hx2,hs⟩:=hs.cons
  obtain ⟨t1,hx2⟩:=AV.has_i hx2
  rw[e1,e2,hs.none,AV.has_v hx1,hx2] at N2 lt nl
  obtain ⟨o,o2,eb,⟨qs1,ho,HQ⟩,⟨qs2,ho2,HQ2⟩⟩:=bs_two b
  rw[eb,ho,ho2] at N2
  simp only[List.cons_append,List.nil_append] at N2
  clear b eb ho ho2 e1 e2 hx1 hx2 hs
  walk_at "go"
  rename_i l1
  refine leaveS0_ (by assumption) (by assumption) KtsTurn.refl ?_
  intro kF kN
  exact ret _ (_::(_,tupO [.ref sa,.int (q:Int) t1])::_) (TB _) [(287,tabObj qs1),(273,tabObj qs2)] _ _ kF (fun z hz=>kN z (perm3 z hz)) (.cons ⟨_,rfl,HQ⟩ (.cons ⟨_,rfl,HQ2⟩ .nil)) rfl (fun z hz=>allgt (kst_ltOf l1.2.2.2 z (mR _ hz)) (lt z hz)) (ne_two l1.1 l1.2.1 nl) (.mk (.s (.v (.i .nil))) (.mk (.ok eo (hS.mono fun p h=> .tail _ h)) fun p h=> .tail _ (hs2 p h)))
 case exc=>
  intro fl e G led ab1 bs1 h2 tk2 FG R U b e1 lt nl he
  cases he with
  |mk eo hs2=>
  rw[hub] at eo
  obtain ⟨o,o2,eb,⟨qs1,ho,HQ⟩,⟨qs2,ho2,HQ2⟩⟩:=bs_two b
  rw[eb,ho,ho2] at R
  replace R:Thrown base G _ fl e ((287,tabObj qs1)::(273,tabObj qs2)::(led++news)) h2:=R
  clear b eb ho ho2
  cases fl with
  |unasked=>exact R.elim
  |index=>
   have R2:RaisedSN base G _ e (.type "IndexError") _ _:=R
   walk_at "go"
   rename_i l1
   refine leaveS0_ (by assumption) (by assumption) (by assumption) ?_
   intro kF kN
   exact ret _ (_::led) (TB _) [(287,tabObj qs1),(273,tabObj qs2)] _ _ kF (fun z hz=>kN z (perm3 z hz)) (.cons ⟨_,rfl,HQ⟩ (.cons ⟨_,rfl,HQ2⟩ .nil)) rfl (fun z hz=>allgt (kst_ltOf l1.2.2 z (mR _ hz)) (lt z hz)) (ne_two l1.1 l1.2.1 nl) (.mk (.s (.v (.i .nil))) (.mk (.err eo) hs2))
  |_=>
   obtain ⟨et,evs,R2⟩:=R
   walk_at "go"
   rename_i l1
   refine leaveS0_ (by assumption) (by assumption) (by assumption) ?_
   intro kF kN
   exact ret _ (_::led) (TB _) [(287,tabObj qs1),(273,tabObj qs2)] _ _ kF (fun z hz=>kN z (perm3 z hz)) (.cons ⟨_,rfl,HQ⟩ (.cons ⟨_,rfl,HQ2⟩ .nil)) rfl (fun z hz=>allgt (kst_ltOf l1.2.2 z (mR _ hz)) (lt z hz)) (ne_two l1.1 l1.2.1 nl) (.mk (.s (.v (.i .nil))) (.mk (.err eo) hs2))
theorem told_at {d:Df} {c:Cx} {bs:List Int} {lo end_ n at_ lv:Nat} {L:Led} (X:Fx d c) (ho:c.outer=[]) (XB:(Mine.kf c.w.params).In c.base) (TT:Top c.p c.loose c.mean c.mg c.mb c.base) (hd:c.dp+210<recursionLimit) (hu:c.un+5000<cLine)
 (hb:∀b∈bs,0≤b∧b<256) (hl:bs.length<2 ^ 16) (he:end_<2 ^ 17) (hat:at_<2 ^ 17) (hlv:lv<100) (hn:end_ - at_<n) (hn2:n<2 ^ 18) (hun:rset bs end_ n at_ lv≠.error .unasked) {vals:List Value} (hv:Hs [.v (.ref lo),.i at_,.i end_,.i lv] vals):
 KzF d c (call (.ref 418) vals) (TB L) (fun base news=>HdB L base news∧IL lo bs news) (TupZ (TupT L (TldP c.w n (rset bs end_ n at_ lv)))) (fun _ _ _=>False):=by
 intro m s Q E news bs0 F N B0 nd0 ap hn' ret exc
 obtain ⟨hh,os,co,hm,hi⟩:=hn'
 obtain ⟨v1,_,e1,h1,hv⟩:=hv.cons
 obtain ⟨v2,_,e2,h2,hv⟩:=hv.cons
 obtain ⟨v3,_,e3,h3,hv⟩:=hv.cons
 obtain ⟨v4,_,e4,h4,hv⟩:=hv.cons
 obtain ⟨t2,h2⟩:=AV.has_i h2
 obtain ⟨t3,h3⟩:=AV.has_i h3
 obtain ⟨t4,h4⟩:=AV.has_i h4
 rw[e1,e2,e3,e4,hv.none,AV.has_v h1,h2,h3,h4]
 obtain ⟨o,o2,eb,⟨ps,ho1,HT⟩,⟨ps2,ho2,HT2⟩⟩:=bs_two B0
 rw[eb,ho1,ho2] at N
 have B:=X.below
 rw[ho] at B
 show wpAny _ (ktrTop c.dp c.un c.gd d.qual d.sc c.L d.f d.cd [] c.outer) _ _ _ _
 rw[ho]
 exact law_told hi hb hl he hat hlv hn hn2 hun XB TT hh HT HT2 ap B F X.inn N X.top X.ok.kind hd hu hm ret
theorem SetAt.good {w:World} {news:Led} {d:Nat}:∀{n:Nat} {rows:List Rw} {a:Addr},Good d rows→SetAt w n news rows a→SetAt w d news rows a:=by
 induction d with
 |zero=>exact fun h _=>h.elim
 |succ d ih=>
  intro n rows a hg h
  cases n with
  |zero=>exact h.elim
  |succ n=>exact h.imp (fun _ h=>h) fun r hr g _ e z=>ih (by have:=(hg.2 r hr).2.2;rw[e] at this;exact this.2) z
theorem wrs_in:∀{d:Nat} {rows:List Rw},Good d rows→∀b∈wrs d rows,0≤b∧b<256
 |0,_,h=>h.elim
 |d+1,rows,h=>fun b hb=>by
  obtain ⟨l,hl,hb⟩:=List.mem_flatten.mp hb
  obtain ⟨r,hr,rfl⟩:=List.mem_map.mp hl
  obtain ⟨h0,_,hg⟩:=h.2 r hr
  have hw:0≤r.2.1:=by
   revert hg
   cases r.2.2 with
   |num v=>rintro ⟨_,⟨h|h,_⟩|⟨h,_⟩⟩<;>(first|exact lin (.h 1 (.D Z0 (.c 0)) (.G 1 (.L (.c 0) Z0))) rfl [] [_] h|exact lin (.h 1 (.D Z0 (.c 1)) (.G 1 (.L (.c 0) Z0))) rfl [] [_] h|exact lin (.h 1 (.D Z0 (.c 5)) (.G 1 (.L (.c 0) Z0))) rfl [] [_] h)
   |byt b=>rintro ⟨h,_⟩;(exact lin (.h 1 (.D Z0 (.c 2)) (.G 1 (.L (.c 0) Z0))) rfl [] [_] h)
   |grp g=>rintro ⟨h,_⟩;(exact lin (.h 1 (.D Z0 (.c 3)) (.G 1 (.L (.c 0) Z0))) rfl [] [_] h)
  rcases List.mem_append.mp hb with hb|hb
  ·exact vint_bound _ (Nat.le_refl _) (by exact lin (.h 8 (.L (.c 0) Z0) (.h 1 (.L (.c 0) Z1) (.G 1 (.L (.c 0) (.a (.m Z0 8) Z1))))) rfl [] [_,_] h0 hw) b hb
  ·revert hb hg
   cases r.2.2 with
   |num v=>
    intro hg hb
    dsimp only at hb
    split at hb
    ·exact vint_bound _ (Nat.le_refl _) hg.1 b hb
    ·exact little_bound _ _ b hb
   |byt y=>
    intro hg hb
    rcases List.mem_append.mp hb with hb|hb
    ·exact vint_bound _ (Nat.le_refl _) (Int.natCast_nonneg _) b hb
    ·exact ub_bound y b hb
   |grp g=>
    intro hg hb
    rcases List.mem_append.mp hb with hb|hb
    ·exact wrs_in hg.2 b hb
    ·exact vint_bound _ (Nat.le_refl _) (by exact lin (.h 8 (.L (.c 0) Z0) (.G 1 (.L (.c 0) (.a (.m Z0 8) (.c 4))))) rfl [] [_] h0) b hb
theorem Hs.vb {l:List UInt8} {t:Tok} {as:List AV} {vs:List Value} (h:Hs (.v (.bytes l.toArray t)::as) vs):Hs (.b l::as) vs:=by cases h with|v h=>exact .b h
inductive AgR (w:World) (d:Nat) (rows:List Rw) (L:Led):Value→Led→ALed→Prop
 |mk {a led L'}:SetAt w d led rows a→(∀p∈L',p∈led++L)→AgR w d rows L (.ref a) led (TB L')
theorem law_againZ {w:World} {d e:Nat} {rows:List Rw} {l:Addr} {L:Led} (hd100:d≤100) (hg:Good d rows) (hlen:(wrs d rows).length<2 ^ 16):
  KZ w 220 425 [.v (.ref l)] (TB L) (fun base news=>HdB L base news∧RowsAt e news rows l) (AgR w d rows L) (fun _ _ _=>False):=by
 refine KZ_enter (d:=dAg) (body:=bAg) dAg_ok (fun _=>rfl) (fun _=>rfl) (fun s=>lenS fun a=>lenZ (BindsTo.of_eq rfl)) rfl rfl (by decide) (by decide) ?_
 intro c X hwv hx rm hm _
 obtain ⟨hh,hm⟩:=hm
 subst hwv
 unfold bAg
 have hb:=wrs_in hg
 have hub:=ub_byteL hb
 have hrw:=read_written hg hd100
 have hbl:(byteL (wrs d rows)).length=(wrs d rows).length:=List.length_map ..
 refine H_set X (GA_konL X ⟨rfl,fun _=>rfl,fun _=>rfl,by decide⟩ (os:=[]) rfl (law_writtenA d hd100 e rows l hg hlen) rm (by exact lin (.h 1 (.l Y0 (.c 100)) (.G 1 (.t (.a Y0 (.c 5)) (.c 220)))) rfl [_] [] hd100) (fun bs kp _=>hm.mono fun p h=>in4 h) (fun lo=> ?_))
 refine H_retA (GA_itemT X (GA_call X (f:=328) ⟨rfl,fun _=>rfl,fun _=>rfl,by decide⟩ (GL_cons (GA_bytes X rfl (GA_p X (os:=[]) rfl (.mk (.inl (.head _)) hb (by exact lin (.h 1 (.t Y0 (.c 65536)) (.G 1 (.t Y0 (.c 1048576)))) rfl [_] [] hlen) (fun t=>GL_p X (os:=[.l (wrs d rows)]) rfl (fun vs hvs=> ?_) (by exact ⟨.inl (.head _),by exact lin (.h 1 (.t Y0 (.c 65536)) (.G 1 (.t Y0 (.c 1099511627776)))) rfl [_] [] hlen⟩))))))) (by decide))
 refine G_kz X [false,true,true] (dec_set3 (bf:=byteL (wrs d rows)) (end_:=(wrs d rows).length) (at_:=0) (n0:=(wrs d rows).length) (L:=L) (by exact lin (.h 1 (.t Y1 (.c 65536)) (.h 1 (.e Y0 Y1) (.G 1 (.t Y0 (.c 65536))))) rfl [_,_] [] hlen hbl) (by exact lin (.h 1 (.t Y0 (.c 65536)) (.G 1 (.t Y0 (.c 131072)))) rfl [_] [] hlen) (by exact lin (.h 1 (.t Y0 (.c 65536)) (.G 1 (.t (.a Y0 (.c 1)) (.c 262144)))) rfl [_] [] hlen) (by exact lin (.h 1 (.e (.a Y0 (.c 0)) Y1) (.G 1 (.t Y0 (.a Y1 (.c 1))))) rfl [_,_] [] (sC (lin (.G 1 (.l (.c 0) Y0)) rfl [_] []))) (by decide) (by rw[hub,hrw];exact fun h=>nomatch h) vs hvs.vb) thr0 rm (by exact lin (.G 1 (.t (.c 208) (.c 220))) rfl [] []) (fun bs kp _=>hh.at fun p h=>h) (fun v led ab1 hr=> ?_) (fun fl led ab1 he=> ?_)
 ·cases hr with
  |mk hs hT=>
  cases hT with
  |mk hP hs2=>
  cases hP with
  |mk eo hS=>
  rw[hub,hrw] at eo
  cases eo
  exact ⟨.v (.ref _),rfl,.mk (.inl ⟨_,.head _,hs⟩) rfl (FinZ.lent [false,true,true] rfl (.mk ((hS.mono fun p h=> .tail _ (mL _ h)).good hg) fun p h=>(List.mem_append.mp (hs2 p h)).elim (fun h=> .tail _ (mL _ (mL _ h))) fun h=>mR _ h) fun p h=>h)⟩
 ·cases he with
  |mk eo _=>rw[hub,hrw] at eo;cases eo
theorem rset_hi {bs:List Int} (hb:∀b∈bs,0≤b∧b<256) {en n k lv:Nat} {rows:List Rw} {p:Nat} {c:Int} (h:rset bs en n k lv= .ok (rows,p,c)):p≤max k (max en bs.length):=(rset_R h).hi hb
theorem RowsAt.good {news:Led} {d:Nat}:∀{n:Nat} {rows:List Rw} {l:Addr},Good d rows→RowsAt n news rows l→RowsAt d news rows l:=by
 induction d with
 |zero=>exact fun h _=>h.elim
 |succ d ih=>
  intro n rows l hg h
  cases n with
  |zero=>exact h.elim
  |succ n=>exact Exists.imp (fun _=>Exists.imp fun _ y=>⟨y.1,y.2.mono_mem fun r hr _ x=>x.imp (fun _ h=>h) fun g _ e z=>ih (by have:=(hg.2 r hr).2.2;rw[e] at this;exact this.2) z⟩) h
theorem gives_bytes_int (b:Array UInt8) (t:Tok) (n:Int) (u:Tok):Gives (Builtin.«bytes.__eq__» ⟨[.bytes b t,.int n u],[]⟩) (.val .notImplemented):=by
 refine .of_wp fun M A E s Q hq=> ?_
 show wpAny M A (isInstance (.int n u) (.type "bytes")>>=fun r=>_) _ E s
 refine wpAny_bind ?_
 refine wpAny_isInstance (typeIs_int s n u) F.sub_int_bytes ?_
 refine wpAny_bind (wpAny_isInstance (typeIs_int s n u) F.sub_int_bytes ?_)
 exact wpAny_bind (wpAny_rule (wpAny_pure ⟨_,rfl,hq⟩))
theorem gives_int_bytes (b:Array UInt8) (t:Tok) (n:Int) (u:Tok):Gives (Builtin.«int.__eq__» ⟨[.int n u,.bytes b t],[]⟩) (.val .notImplemented):=
 .of_wp fun M A E s Q h=>by obtain ⟨hp,g,d,tk,os⟩:=s;wp_walk;exact ⟨_,rfl,h⟩
open PySem.SeqAt in
theorem RcAt.bytes_int {A:Around} {s:Shared} (b:Array UInt8) (t:Tok) (n:Int) (u:Tok):RcAt A s (.bytes b t) (.int n u) false:=fun prog w E Q h=>
 rc_eq_decline_or (k:=false) (typeIs_bytes s b t) (typeIs_int s n u) (by decide) F.sub_int_bytes FB.slot_bytes_eq F.slot_int_eq_refl
  (fun _ hq=>call_gives FB.slot_bytes_eq (typeIs_bytes s b t) FB.entry_bytes_eq (FB.args_bytes_eq_2 _ _) (gives_bytes_int b t n u) hq)
  (fun _ hq=>call_gives F.slot_int_eq_refl (typeIs_int s n u) F.entry_int_eq (F.args_int_eq_2 _ _) (gives_int_bytes b t n u) hq)
  (fun _ hq=>wpAny_of_eq (rfl:isSame (.bytes b t) (.int n u)=pure false) hq) (.inl rfl) h
open PySem.SeqAt in
theorem EqAt.bytes_int {A:Around} {s:Shared} (b:Array UInt8) (t:Tok) (n:Int) (u:Tok):EqAt A s (.bytes b t) (.int n u) false:=fun prog w E Q h=>by
 unfold eqBool
 refine wpAny_holding ?_
 refine wpAny_ite_split (fun hab=>absurd (eq_of_beq hab) nofun) (fun _=> ?_)
 exact wpAny_bind (RcAt.bytes_int b t n u prog w E _ (wpAny_truthy_bool h))
open PySem.SeqAt in
theorem row_turn {A:Around} {s:Shared} {news:Led} {d:Nat} {r:Rw} {x y:Addr} {t1 t2 t3 t4 t5:Tok} {V:Value} (H:∀p∈news,s.heap.get? p.1=some p.2) (hx:(x,tupO [.int r.1 t1,.int r.2.1 t2,V])∈news) (hy:(y,tupO [.int r.1 t3,.int 0 t4,.int 1 t5])∈news)
  (hD:DatAt (RowsAt d) news r.2.2 V) (hg:GoodDat (Good d) r.2.1 r.2.2) (hu:A.units+2<cLine):∃b,RcNeAt A s (.ref x) (.ref y) b∧((b=true∧RowNe r (r.1,0,.num 1))∨(b=false∧RowNe r (r.1,0,.num 2))):=by
 have hl:s.heap.IsTuple x #[.int r.1 t1,.int r.2.1 t2,V]:=⟨_,H _ hx,rfl,_,rfl⟩
 have hb:s.heap.IsTuple y #[.int r.1 t3,.int 0 t4,.int 1 t5]:=⟨_,H _ hy,rfl,_,rfl⟩
 have key:∀e3:Bool,EqAt A.in1 s V (.int 1 t5) e3→RcNeAt A s (.ref x) (.ref y) (!((r.2.1==0) && e3)):=fun e3 h3=>by
  have:=RcNeAt.tuples (A:=A) (e:=fun j=>match j with|0=>true|1=>r.2.1==0|_=>e3) hl hb (Nat.lt_of_le_of_lt (Nat.le_add_right _ 2) hu) (fun j h1 h2=>by
   cases j with
   |zero=>exact EqAt_int _ _ _
   |succ j=>cases j with
    |zero=>exact EqAt.int_int _ _ _ _
    |succ j=>cases j with
     |zero=>exact h3
     |succ j=>exact absurd h1 (Nat.not_lt_of_le (Nat.le_add_left 3 j)))
  simpa [List.range_succ] using this
 obtain ⟨n,w,D⟩:=r
 dsimp only at*
 cases D with
 |num v=>
  obtain ⟨t,rfl⟩:=hD
  have:=key _ (EqAt.int_int v t 1 t5)
  refine ⟨_,this,?_⟩
  by_cases h0:w=0
  ·by_cases h1:v=1
   ·right;subst h0 h1;exact ⟨rfl,rfl,.inr ⟨rfl,1,2,rfl,rfl,by decide⟩⟩
   ·left;subst h0;exact ⟨by simp[h1],rfl,.inr ⟨rfl,v,1,rfl,rfl,h1⟩⟩
  ·left;exact ⟨by simp[h0],rfl,.inl h0⟩
 |byt b=>
  obtain ⟨t,rfl⟩:=hD
  obtain rfl:w=2:=hg.1
  exact ⟨_,key _ (EqAt.bytes_int _ _ _ _),.inl ⟨rfl,rfl,.inl (by decide:(2:Int)≠0)⟩⟩
 |grp g=>
  obtain ⟨l2,rfl,G⟩:=hD
  obtain rfl:w=3:=hg.1
  obtain ⟨vs,c,hm⟩:∃vs c,(l2,listOf vs c)∈news:=by
   cases d with
   |zero=>exact G.elim
   |succ d=>obtain ⟨vs,c,hm,_⟩:=G;exact ⟨_,c,hm⟩
  exact ⟨_,key _ (EqAt.list_int 1 t5 ⟨_,H _ hm,rfl,_,rfl⟩ (by show A.units+1<cLine;(exact lin (.h 1 (.t (.a Y0 (.c 2)) Y1) (.G 1 (.t (.a Y0 (.c 1)) Y1))) rfl [_,_] [] hu))),.inl ⟨rfl,rfl,.inl (by decide:(3:Int)≠0)⟩⟩
theorem row_turn_wp {prog:Program} {w:World} {A:Around} {E:Value→Shared→Prop} {Q:Value→Shared→Prop} {s:Shared} {news:Led} {d:Nat} {r:Rw} {x y:Addr} {t1 t2 t3 t4 t5:Tok} {V:Value} (H:∀p∈news,s.heap.get? p.1=some p.2) (hx:(x,tupO [.int r.1 t1,.int r.2.1 t2,V])∈news) (hy:(y,tupO [.int r.1 t3,.int 0 t4,.int 1 t5])∈news)
  (hD:DatAt (RowsAt d) news r.2.2 V) (hg:GoodDat (Good d) r.2.1 r.2.2) (hu:A.units+2<cLine) (h:∀b,((b=true∧RowNe r (r.1,0,.num 1))∨(b=false∧RowNe r (r.1,0,.num 2)))→Q (.bool b) s):wpAny (model prog w) A (compareOp .NotEq (.ref x) (.ref y)) Q E s:=
 let ⟨_,h1,h2⟩:=row_turn H hx hy hD hg hu
 h1 _ _ _ _ (h _ h2)
theorem Good.perm {d:Nat} {rows rows':List Rw} (h:Good d rows) (hp:rows'.Perm rows):Good d rows':=by
 cases d with
 |zero=>exact h.elim
 |succ d=>exact ⟨by rw[hp.length_eq];exact h.1,fun r hr=>h.2 r (hp.mem_iff.mp hr)⟩
theorem pick_from1 (vs:List Value):(slicePick vs.toArray (some 1) none none).toList=vs.drop 1:=by
 have e:sliceBounds (some 1) none none vs.toArray.size=(((min 1 vs.toArray.size:Nat):Int),((vs.toArray.size:Nat):Int),1):=by
  simp only[sliceBounds,Option.getD_none,show (1:Int)>0 by decide,if_true,if_neg (show ¬ ((1:Int)<0) by decide)]
  congr 1
  first|exact (Int.natCast_min 1 _).symm|omega
 rw[kmk_pick_nat _ e]
 show (vs.drop (min 1 vs.toArray.size)).take (vs.toArray.size - min 1 vs.toArray.size)=_
 rw[List.size_toArray,kmk_drop_min,List.take_of_length_le (by rw[List.length_drop];first|exact Nat.sub_le_sub_left (Nat.min_le_left _ _) _|omega)]
theorem pick_init (vs:List Value) (v:Value):(slicePick (vs++[v]).toArray none (some (-1)) none).toList=vs:=by
 have e:sliceBounds none (some (-1)) none (vs++[v]).toArray.size=(((0:Nat):Int),((vs.length:Nat):Int),1):=by
  rw[show (vs++[v]).toArray.size=vs.length+1 by rw[List.size_toArray,List.length_append];rfl]
  simp only[sliceBounds,Option.getD_none,show (1:Int)>0 by decide,if_true,if_pos (show ((-1:Int)<0) by decide)]
  congr 1
  congr 1
  omega
 rw[kmk_pick_nat _ e]
 show ((vs++[v]).drop 0).take (vs.length - 0)=_
 rw[List.drop_zero,Nat.sub_zero,List.take_left]
theorem Each.drop1 {α β:Type} {R:α→β→Prop} {l:List α} {k:List β} (e:Each R l k):Each R (l.drop 1) (k.drop 1):=by
 cases e with
 |nil=>exact .nil
 |cons _ t=>exact t
theorem Good.drop1 {d:Nat} {rows:List Rw} (h:Good d rows):Good d (rows.drop 1):=by
 cases d with
 |zero=>exact h.elim
 |succ d=>exact ⟨Nat.lt_of_le_of_lt (by rw[List.length_drop];(exact lin (.h 1 (.l Y0 Y1) (.G 1 (.l Y0 Y1))) rfl [_,_] [] (Nat.sub_le _ _))) h.1,fun r hr=>h.2 r (List.mem_of_mem_drop hr)⟩
theorem wrs_drop1 (d:Nat) (rows:List Rw):(wrs (d+1) (rows.drop 1)).length≤(wrs (d+1) rows).length:=by
 cases rows with
 |nil=>exact Nat.le_refl _
 |cons r rows=>rw[wrs_cons,List.length_append];exact Nat.le_add_left _ _
theorem seq_drop {rows s:List Rw} (hs:s.length=rows.length) (h:rows≠[]):SEq rows (s.drop 1) false:=by
 refine .inr ⟨rfl,.inl ?_⟩
 have:=List.length_pos_iff.mpr h
 rw[List.length_drop]
 exact fun eN=>lin (.h 1 (.e Y0 Y1) (.h 1 (.e Y1 Y2) (.h 1 (.e (.a Y2 (.c 1)) Y0) .F))) rfl [_,_,_] [] hs eN (sC (lin (.h 1 (.d Y0 Y1) (.h 1 (.t (.c 0) Y1) (.G 1 (.l (.c 1) Y0)))) rfl [_,_] [] hs this))
theorem seq_turn {init:List Rw} {r t:Rw} (h:RowNe r t):SEq (init++[r]) (init++[t]) false:=by
 refine .inr ⟨rfl,.inr ⟨by rw[List.length_append,List.length_append];rfl,((sortK rnum init).filter fun a=>decide (rnum a≤rnum r)).length,r,t,?_,?_,h,?_⟩⟩
 ·rw[sortK_snoc];unfold insR;simp
 ·rw[sortK_snoc,show rnum r=rnum t from h.1];unfold insR;simp
 ·rw[sortK_snoc,sortK_snoc];unfold insR
  rw[List.take_left,show rnum r=rnum t from h.1,List.take_left]
theorem good_turn {d:Nat} {init:List Rw} {r:Rw} {z:Int} (h:Good d (init++[r])) (hz:z=1∨z=2):Good d (init++[(r.1,0,.num z)]):=by
 cases d with
 |zero=>exact h.elim
 |succ d=>
  refine ⟨?_,fun x hx=> ?_⟩
  ·have:=h.1
   rw[List.length_append] at this ⊢
   exact this
  ·rcases List.mem_append.mp hx with hx|hx
   ·exact h.2 x (mL _ hx)
   ·obtain rfl:=List.mem_singleton.mp hx
    have:=h.2 r (mR _ (.head _))
    exact ⟨this.1,this.2.1,by rcases hz with rfl|rfl<;>decide,.inl ⟨.inl rfl,by rcases hz with rfl|rfl<;>decide⟩⟩
theorem wrs_turn {d:Nat} {init:List Rw} {r:Rw} {z:Int} (h:Good (d+1) (init++[r])) (hz:z=1∨z=2):(wrs (d+1) (init++[(r.1,0,.num z)])).length≤(wrs (d+1) (init++[r])).length+20:=by
 have h1:=(h.2 r (mR _ (.head _))).2.1
 have e1:(vint (r.1*8+0)).length≤10:=vint10 (by exact lin (.h 8 (.T Z0 (.c 2305843009213693952)) (.G 1 (.T (.a (.m Z0 8) (.c 0)) (.c 18446744073709551616)))) rfl [] [_] h1)
 have e2:(vint z).length≤10:=vint10 (by rcases hz with rfl|rfl<;>decide)
 have e:(wrow (wrs d) (r.1,0,.num z)).length≤20:=by
  show (vint (r.1*8+0)++if (0:Int)=0 then vint z else _).length≤20
  rw[if_pos rfl,List.length_append]
  exact lin (.h 1 (.l Y0 (.c 10)) (.h 1 (.l Y1 (.c 10)) (.G 1 (.l (.a Y0 Y1) (.c 20))))) rfl [_,_] [] e1 e2
 rw[wrs_sum,wrs_sum,List.map_append,List.map_append,List.sum_append,List.sum_append]
 simp only[List.map_cons,List.map_nil,List.sum_cons,List.sum_nil]
 exact lin (.h 1 (.l Y1 (.c 20)) (.G 1 (.l (.a Y0 (.a Y1 (.c 0))) (.a (.a Y0 (.a Y2 (.c 0))) (.c 20))))) rfl [_,_,_] [] e
noncomputable abbrev nkey (r:Rw):Int:= -r.1
theorem sort_two (rows:List Rw):sortK rnum rows=sortK rnum (sortK nkey rows):=
 (sortK_stable rnum rows).eq (sortK_stable rnum (sortK nkey rows)) fun k=>by
  have e:∀l:List Rw,l.filter (fun a=>rnum a==k)=l.filter (fun a=>nkey a== -k):=fun l=>List.filter_congr fun a _=>by
   rw[Bool.eq_iff_iff,beq_iff_eq,beq_iff_eq]
   show a.1=k↔-a.1= -k
   omega
  rw[e,e,(sortK_stable nkey rows).fil]
theorem Each.snoc {α β:Type} {R:α→β→Prop} {r:α} {l:List α}:∀{k:List β},Each R (l++[r]) k→∃k' v,k=k'++[v]∧Each R l k'∧R r v:=by
 induction l with
 |nil=>
  intro k e
  cases e with
  |cons h t=>
   cases t
   exact ⟨[],_,rfl,.nil,h⟩
 |cons a l ih=>
  intro k e
  cases e with
  |cons h t=>
   obtain ⟨k',v,rfl,h1,h2⟩:=ih t
   exact ⟨_::k',v,rfl,.cons h h1,h2⟩
noncomputable def lwSpec:List (Pos×Str):=[(⟨379,29,379,48⟩,Str.ofString "law.<locals>.<lambda>")]
noncomputable abbrev dLf (fa:Addr):Df:=⟨dLw.qual,dLw.sc,fa,dLw.cd,dLw.names,dLw.bs,dLw.gs⟩
theorem dLf_ok (fa:Addr):(dLf fa).Ok:=⟨dLw_ok.kind,dLw_ok.nd,dLw_ok.loc,dLw_ok.bn,dLw_ok.gs⟩
noncomputable abbrev eLm:Ex:= .una .USub (.sub (.loc 0 ⟨379,42,379,45⟩) (.num 0 ⟨379,46,379,47⟩) ⟨379,42,379,48⟩) ⟨379,41,379,48⟩
theorem lam_law {fa:Addr} {c:Cx} (X:Fx (dLf fa) c) {x:Addr} {a:Int} {t1:Tok} {v2 v3:Value} {news:Led} (hm:(x,tupO [.int a t1,v2,v3])∈news) (hd:c.dp<recursionLimit):
  LamT (dLf fa) c "law.<locals>.<lambda>" lmPs lmB lmSc news (.ref x) (-a):=
 lamT_of (x:="row") (e:=eLm) X (fun _ _=>ok1 rfl rfl (by decide)) (fun _ _ _ _=>BindsTo.of_eq rfl) rfl rfl (by decide) hd fun f c' cx X' hw hs=>
  GA_neg (GA_itemT (n:=0) X' (GA_p X' (os:=[]) rfl (.mk (avs:=[.i a,.v v2,.v v3]) (.inl ⟨_,hs _ hm,.i (.v (.v .nil))⟩) rfl ⟨a,rfl,rfl⟩)) (by decide))
noncomputable abbrev T4 (L1 L2 L3:Led):ALed:=[(287,tb vdSpec L1),(273,tb vbSpec L1),(166,tb eqSpec L2),(427,tb lwSpec L3)]
inductive LwE:Flow→St→Prop
 |mk {σ L1 L2 L3}:(∀q∈T4 L1 L2 L3,q∈σ.ab)→LwE (.ret (.bool true)) σ
structure LwC (c:Cx):Prop where
 outer:c.outer=[]
 inn:(Mine.kf c.w.params).In c.base
 top:Top c.p c.loose c.mean c.mg c.mb c.base
 d:c.dp+400<recursionLimit
 u:c.un+9000<cLine
 c1:CodeHd c.base 291 287
 c2:CodeHd c.base 277 273
 c3:CodeHd c.base 170 166
 c4:CodeHd c.base 431 427
 xs:∀a,¬ c.xs a
theorem LwC.rm {c:Cx} (C:LwC c):Rm c 320:=⟨Nat.le_of_lt (Nat.lt_of_le_of_lt (Nat.add_le_add_left (by decide) _) C.d),Nat.lt_of_le_of_lt (Nat.add_le_add_left (show 20*320+197≤9000 by decide) _) C.u|>fun h=>by rw[Nat.add_assoc];exact h⟩
theorem rmul {k:Nat} (h:k<320):k<320:=h
section
variable {d:Df} {c:Cx} {σ:St} {fa:Addr}
theorem HS_set (X:Fx d c) {i:Nat} {q p:Pos} {e:Ex} {Q:Flow→St→Prop} (h:GA d c e (fun a σ=>Q .next (σ.put i a)) σ) {x:Str} (hi:nth d.names i=some x:=by rfl) (hc:e.plain=true:=by rfl):HS d c (.set i q e p) Q σ:=fun kp hp tk K=>by
 show wpAny _ _ (exec (.Assign [.Name (nm d.names i) q] (ux d.names e).1 p) _) _ _ _
 rw[nm_eq hi]
 exact wpAny_Assign_Name (h.run K fun v a h' σ' tk' ha K' g=>store X K' hi ha fun h2 tk2 K2=>post (v:=Flow.next) K2 g) (no_swap hc _ _ _)
inductive EaQ (c:Cx) (D:Nat) (rows:List Rw) (x:Addr) (Q:AV→St→Prop):AV→St→Prop
 |mk {y vs ab ex L1 L2 rows2 b} (ms1 ms2:List Bool) (ab2:Led→ALed) (ab3:Led→Led→ALed):tk ms1 ab=TB L1→(∀L',pt ms1 (TB L') ab=ab2 L')→(∀L',tk ms2 (ab2 L')=[(166,tb eqSpec L2)])→(∀L' L'',pt ms2 [(166,tb eqSpec L'')] (ab2 L')=ab3 L' L'')→
   (∀p∈L1,p∈ex)→(∀p∈L2,p∈ex)→SetAt c.w D ex rows x→Good D rows2→(wrs D rows2).length<2 ^ 16→SEq rows rows2 b→(∀bs (kp:Kp),Bs (rs ms1 ab) bs→RowsAt D (bs++c.all kp ⟨vs,ab,ex⟩) rows2 y)→
   (∀L' L'' ex',(∀p∈L',p∈ex')→(∀p∈L'',p∈ex')→(∀p∈ex,p∈ex')→Q (.v (.bool b)) ⟨vs,ab3 L' L'',ex'⟩)→EaQ c D rows x Q (.v (.ref y)) ⟨vs,ab,ex⟩
theorem GA_eqA (X:Fx (dLf fa) c) (C:LwC c) {e:Ex} {p1 p2 p3 p4:Pos} {D:Nat} {rows:List Rw} {x:Addr} {Q:AV→St→Prop} (hD:D≤100) (hg:Good D rows) (hx:nth σ.vs 11=some (some (.v (.ref x)))) (h:GA (dLf fa) c e (EaQ c D rows x Q) σ):GA (dLf fa) c (.cmp (.loc 11 p1) .Eq (.call (.gl "_law_again" p2) (.cons e .nil) p3) p4) Q σ:=by
 refine GA_cmpG (GA_p X (os:=[]) (V_loc rfl hx) (GA_call X (f:=425) ⟨rfl,fun _=>rfl,fun _=>rfl,by decide⟩ (GL_cons (GA_mono h fun a σ1 q=> ?_))))
 cases q with
 | @mk y vs ab ex L1 L2 rows2 b ms1 ms2 ab2 ab3 h1 h2 h3 h4 s1 s2 hS hg2 hl2 hE hR k=>
 refine GL_nil fun vals hvals=>G_kzF (need:=fun base news=>HdB L1 base news∧RowsAt D news rows2 y) (res:=AgR c.w D rows2 L1) (err:=fun _ _ _=>False) ms1 (by rw[h1];exact (law_againZ (e:=D) (L:=L1) hD hg2 hl2 vals hvals).at X C.rm (by decide)) thr0 (fun bs kp B=>⟨⟨C.c1,C.c2,fun p h=>mR _ (mL _ (s1 p h))⟩,hR bs kp B⟩) (fun v led ab1 ho hr=> ?_) fun _ _ _ h=>h
 cases hr with
 | @mk z _ L' hZ hs=>
 refine ⟨.v (.ref z),rfl,fun v w hv hw=> ?_⟩
 rw[AV.has_v hv,AV.has_v hw]
 have hs':∀p∈L',p∈led++ex:=fun p hp=>(List.mem_append.mp (hs p hp)).elim (fun h=>mL _ h) fun h=>mR _ (s1 p h)
 have hne:x≠z:=by
  cases D with
  |zero=>exact hg.elim
  |succ D=>
   obtain ⟨_,_,_,_,_,m1,_⟩:=hS
   obtain ⟨_,_,_,_,_,m2,_⟩:=hZ
   exact Nat.ne_of_lt (ho _ m1 _ m2)
 show G _ _ _ _ ⟨vs,pt ms1 (TB L') ab,led++ex⟩
 rw[h2]
 refine G_kzF (σ:=⟨vs,ab2 L',led++ex⟩) (need:=fun base news=>HdE L2 base news∧SetAt c.w D news rows x∧SetAt c.w D news rows2 z) (res:=EqR b L2) (err:=fun _ _ _=>False) ms2 (by rw[h3];exact set_eqG X (set_eqZ D D D rows rows2 x z b hg hg2 hE fun _=>hne) C.rm (by omega)) thr0
  (fun bs kp B=>⟨⟨C.c3,fun p h=>mR _ (mL _ (mR _ (s2 p h)))⟩,hS.mono fun p h=>mR _ (mL _ (mR _ h)),hZ.mono fun p h=>mR _ (mL _ (mL _ h))⟩) (fun v led2 ab1 _ hr=> ?_) fun _ _ _ h=>h
 cases hr with
 | @mk _ L'' hs2=>
 refine ⟨.v (.bool b),rfl,?_⟩
 show Q _ ⟨vs,pt ms2 [(166,tb eqSpec L'')] (ab2 L'),led2++(led++ex)⟩
 rw[h4]
 exact k L' L'' _ (fun p h=>mR _ (hs' p h)) (fun p h=>(List.mem_append.mp (hs2 p h)).elim (fun h=>mL _ h) fun h=>mR _ (mR _ (s2 p h))) fun p h=>mR _ (mR _ h)
end
section
variable {d:Df} {c:Cx} {σ:St} {fa:Addr}
theorem G_rowturn {d1:Nat} {r:Rw} {x y:Addr} {t1 t2:Tok} {V:Value} {Q:Value→St→Prop} (hx:(x,tupO [.int r.1 t1,.int r.2.1 t2,V])∈σ.ex) (hy:(y,tupP [.i r.1,.i 0,.i 1])∈σ.ab) (hD:DatAt (RowsAt d1) σ.ex r.2.2 V) (hg:GoodDat (Good d1) r.2.1 r.2.2) (hu:c.un+2<cLine)
  (q:∀b,((b=true∧RowNe r (r.1,0,.num 1))∨(b=false∧RowNe r (r.1,0,.num 2)))→Q (.bool b) σ):G d c (compareOp .NotEq (.ref x) (.ref y)) Q σ:=fun kp h tk K=>K.open fun m bs F V' B N=>by
 obtain ⟨o,h1,ws,hw,e⟩:=B.get _ hy
 obtain ⟨_,_,e1,⟨t3,h3⟩,hw⟩:=hw.cons
 obtain ⟨_,_,e2,⟨t4,h4⟩,hw⟩:=hw.cons
 obtain ⟨_,_,e3,⟨t5,h5⟩,hw⟩:=hw.cons
 rw[e,e1,e2,e3,hw.none,h3,h4,h5] at h1
 have up:∀p∈σ.ex,p∈(y,tupO [.int r.1 t3,.int 0 t4,.int 1 t5])::σ.ex:=fun p h=> .tail _ h
 exact row_turn_wp (news:=(y,tupO [.int r.1 t3,.int 0 t4,.int 1 t5])::σ.ex) (fC ⟨(N _ (mL _ h1)).1,fun p hp=>(N p (mR _ (mL _ hp))).1⟩) (.tail _ hx) (.head _) (hD.mono fun _ _ z=>z.mono up) hg hu fun b hb=>post K (q b hb)
theorem GA_row0 (X:Fx (dLf fa) c) {l x:Addr} {us:List Value} {a z:Int} {t1:Tok} {v2 v3:Value} {q1 q2 q3 q4 q5 q6 q7 q8 q9:Pos} {Q:AV→St→Prop} (hl:nth σ.vs 7=some (some (.v (.ref l)))) (L:LV c σ l (us++[.ref x])) (hz:us.length<64) (hx:(x,tupO [.int a t1,v2,v3])∈σ.ex)
  (k:∀D,Q (.v (.ref D)) (σ.new D (tupP [.i a,.i 0,.i z]))):GA (dLf fa) c (.tup (.cons (.sub (.sub (.loc 7 q1) (.una .USub (.num 1 q2) q3) q4) (.num ((0:Nat):Int) q5) q6) (.cons (.num 0 q7) (.cons (.num z q8) .nil))) q9) Q σ:=
 GA_tup (GL_cons (GA_itemT X (GA_last X (GA_p X (os:=[]) (V_loc rfl hl) (.mk L hz (.mk (avs:=[.i a,.v v2,.v v3]) (.inl ⟨_,mL _ hx,.i (.v (.v .nil))⟩) rfl (GL_p X (os:=[]) rfl ⟨Nat.le_of_ble_eq_true rfl,k⟩))))) (by decide)))
structure TlF (c:Cx) (d1:Nat) (rows:List Rw) (x l o:Addr) (rv ov:List Value) (rc oc:Nat) (L1 L2 ex:Led):Prop where
 s:SetAt c.w (d1+1) ex rows x
 l:(l,listOf rv.toArray rc)∈ex
 o:(o,listOf ov.toArray oc)∈ex
 e:Each (RowAt (RowsAt d1) ex) rows rv
 f:Each (RowAt (RowsAt d1) ex) (sortK nkey rows) ov
 s1:∀p∈L1,p∈ex
 s2:∀p∈L2,p∈ex
theorem TlF.mono {d1:Nat} {rows:List Rw} {x l o:Addr} {rv ov:List Value} {rc oc:Nat} {L1 L2 L1' L2' ex ex':Led} (T:TlF c d1 rows x l o rv ov rc oc L1 L2 ex) (s1:∀p∈L1',p∈ex') (s2:∀p∈L2',p∈ex') (h:∀p∈ex,p∈ex'):TlF c d1 rows x l o rv ov rc oc L1' L2' ex':=
 ⟨T.s.mono h,h _ T.l,h _ T.o,T.e.mono fun _ _ z=>z.mono h fun _ _ y=>y.mono h,T.f.mono fun _ _ z=>z.mono h fun _ _ y=>y.mono h,s1,s2⟩
theorem exR {ex bs n:Led} {kp:Kp}:∀p∈ex,p∈bs++(ex++(kp.l++n)):=fun _ h=>mR _ (mL _ h)
theorem Each.exR {d1:Nat} {ex bs n:Led} {kp:Kp} {rows:List Rw} {vs:List Value} (h:Each (RowAt (RowsAt d1) ex) rows vs):Each (RowAt (RowsAt d1) (bs++(ex++(kp.l++n)))) rows vs:=h.mono fun _ _ z=>z.mono Mine.exR fun _ _ y=>y.mono Mine.exR
end
noncomputable abbrev lvs (l x o:Addr):List (Option AV):=[none,none,none,none,none,none,none,some (.v (.ref l)),none,none,none,some (.v (.ref x)),none,some (.v (.ref o))]
theorem law_last {fa:Addr} {c:Cx} (X:Fx (dLf fa) c) (C:LwC c) {d1:Nat} {init:List Rw} {r:Rw} {x l o tt:Addr} {iv ov:List Value} {v:Value} {rc oc:Nat} {L1 L2 L3 ex:Led} {z:Int} (hD:d1+1≤100) (hg:Good (d1+1) (init++[r])) (hlen:(wrs (d1+1) (init++[r])).length<2 ^ 15)
  (T:TlF c d1 (init++[r]) x l o (iv++[v]) ov rc oc L1 L2 ex) (hiv:Each (RowAt (RowsAt d1) ex) init iv) (hil:iv.length<64) (hol:ov.length<64) (hne:RowNe r (r.1,0,.num z)) (hz:z=1∨z=2) {p1 p2 p3 p4 p5 p6 p7 p8 p9 q1 q2 q3 q4 q5 q6 q7 q8 q9 q10 q11 q12 q13 q14 q15 q16 q17:Pos}:
  H (dLf fa) c (.cons (.ret (.bop .And (.cons (.cmp (.cmp (.loc 11 p1) .Eq (.call (.gl "_law_again" p2) (.cons (.sub (.loc 13 p3) (.slc (.num 1 p4) .nil p5) p6) .nil) p7) p8) .Is (.fls p9) q1) (.cons (.cmp (.cmp (.loc 11 q2) .Eq (.call (.gl "_law_again" q3) (.cons (.bin (.sub (.loc 7 q4) (.slc .nil (.una .USub (.num 1 q5) q6) q7) q8) .Add (.lst (.cons (.loc 14 q9) .nil) q10) q11) .nil) q12) q13) .Is (.fls q14) q15) .nil)) q16) q17) .nil) LwE
   ⟨lvs l x o++[some (.v (.ref tt))],(tt,tupP [.i r.1,.i 0,.i z])::T4 L1 L2 L3,ex⟩:=by
 have hol2:(sortK nkey (init++[r])).length=(init++[r]).length:=(sortK_stable nkey _).perm.length_eq
 have hperm:=(sortK_stable nkey (init++[r])).perm
 have hw5:(wrs (d1+1) (sortK nkey (init++[r]))).length<2 ^ 16:=by rw[wrs_perm hperm];(exact lin (.h 1 (.t Y0 (.c 32768)) (.G 1 (.t Y0 (.c 65536)))) rfl [_] [] hlen)
 refine H_retA (GA_andC (GA_cmpG (GA_eqA X C hD hg rfl (GA_slcV X (vs:=ov) rfl rfl (os:=[]) rfl rfl (.inr ⟨oc,mL _ T.o⟩) (by exact lin (.h 1 (.t Y0 (.c 64)) (.G 1 (.t Y0 (.c 1048576)))) rfl [_] [] hol) (pick_from1 ov) fun Ds=> ?_))))
 refine .mk (rows2:=(sortK nkey (init++[r])).drop 1) [false,false,true,true] [false,false,false,false,true] (fun L'=>(Ds,seqP (ov.drop 1))::(tt,tupP [.i r.1,.i 0,.i z])::T4 L' L2 L3) (fun L' L''=>(Ds,seqP (ov.drop 1))::(tt,tupP [.i r.1,.i 0,.i z])::T4 L' L'' L3) rfl (fun _=>rfl) (fun _=>rfl) (fun _ _=>rfl) T.s1 T.s2 T.s (hg.perm hperm).drop1 (Nat.lt_of_le_of_lt (wrs_drop1 _ _) hw5) (seq_drop hol2 (by simp)) (fun bs kp B=> ?_) (fun L' L'' ex' i1 i2 i3=> ?_)
 ·obtain ⟨_,h1,k,e⟩:=B.get _ (.head _)
  exact ⟨_,k,mL _ (e▸h1),T.f.exR.drop1⟩
 replace T:=T.mono i1 i2 i3
 replace hiv:=hiv.mono fun _ _ z=>z.mono i3 fun _ _ y=>y.mono i3
 clear i1 i2 i3
 refine GA_p X (os:=[]) rfl fun v' w hv hw=> ?_
 rw[AV.has_v hv,AV.has_v hw]
 refine G_is ⟨.v (.bool true),rfl,.mk (fun h=>absurd h (by decide)) fun _=>GA_and1 ?_⟩
 refine GA_cmpG (GA_eqA X C hD hg rfl (GA_addV (GA_slcV X (vs:=iv++[v]) rfl rfl (os:=[]) rfl rfl (.inr ⟨rc,mL _ T.l⟩) (by rw[List.length_append];show iv.length+1<_;(exact lin (.h 1 (.t Y0 (.c 64)) (.G 1 (.t (.a Y0 (.c 1)) (.c 1048576)))) rfl [_] [] hil)) (pick_init iv v) fun D8=>GA_lstV X (os:=[]) rfl fun DL=> .mk (.inl (.tail _ (.head _))) (.inl (.head _)) (by show iv.length+1<_;(exact lin (.h 1 (.t Y0 (.c 64)) (.G 1 (.t (.a Y0 (.c 1)) (.c 1048576)))) rfl [_] [] hil)) fun D9=> ?_)))
 refine .mk (rows2:=init++[(r.1,0,.num z)]) [false,false,false,false,false,true,true] [false,false,false,false,false,false,false,true] (fun L'=>(D9,seqP (iv++[.ref tt]))::(DL,seqP [.ref tt])::(D8,seqP iv)::(Ds,seqP (ov.drop 1))::(tt,tupP [.i r.1,.i 0,.i z])::T4 L' L'' L3) (fun L' L''=>(D9,seqP (iv++[.ref tt]))::(DL,seqP [.ref tt])::(D8,seqP iv)::(Ds,seqP (ov.drop 1))::(tt,tupP [.i r.1,.i 0,.i z])::T4 L' L'' L3)
  rfl (fun _=>rfl) (fun _=>rfl) (fun _ _=>rfl) T.s1 T.s2 T.s (good_turn hg hz) (Nat.lt_of_le_of_lt (wrs_turn hg hz) (by exact lin (.h 1 (.t Y0 (.c 32768)) (.G 1 (.t (.a Y0 (.c 20)) (.c 65536)))) rfl [_] [] hlen)) (seq_turn hne) (fun bs kp B=> ?_) (fun L' L'' ex' i1 i2 i3=> ?_)
 ·obtain ⟨_,h1,k,e⟩:=B.get _ (.head _)
  obtain ⟨_,h2,ws,hw,e2⟩:=B.get _ (.tail _ (.tail _ (.tail _ (.tail _ (.head _)))))
  obtain ⟨_,_,e1,⟨t3,h3⟩,hw⟩:=hw.cons
  obtain ⟨_,_,e4,⟨t4,h4⟩,hw⟩:=hw.cons
  obtain ⟨_,_,e5,⟨t5,h5⟩,hw⟩:=hw.cons
  rw[e2,e1,e4,e5,hw.none,h3,h4,h5] at h2
  exact ⟨_,k,mL _ (e▸h1),hiv.exR.append (.cons ⟨tt,t3,t4,.int z t5,rfl,mL _ h2,t5,rfl⟩ .nil)⟩
 refine GA_p X (os:=[]) rfl fun v' w hv hw=> ?_
 rw[AV.has_v hv,AV.has_v hw]
 exact G_is ⟨.v (.bool true),rfl,.mk fun q h=> .tail _ (.tail _ (.tail _ (.tail _ (.tail _ h))))⟩
theorem law_tailZ {fa:Addr} {c:Cx} (X:Fx (dLf fa) c) (C:LwC c) {D:Nat} {rows:List Rw} {x l:Addr} {L1 L2 L3 ex:Led} (hD:D≤100) (hg:Good D rows) (hlen:(wrs D rows).length<2 ^ 15) (s:SetAt c.w D ex rows x) (hR:RowsAt D ex rows l) (s1:∀p∈L1,p∈ex) (s2:∀p∈L2,p∈ex) (s3:∀p∈L3,p∈ex):
  H (dLf fa) c bLwT LwE ⟨[none,none,none,none,none,none,none,some (.v (.ref l)),none,none,none,some (.v (.ref x))],T4 L1 L2 L3,ex⟩:=by
 obtain ⟨d1,rfl⟩:∃d1,D=d1+1:=by
  cases D with
  |zero=>exact hg.elim
  |succ d=>exact ⟨d,rfl⟩
 obtain ⟨rv,rc,hml,hE⟩:=id hR
 have hrl:=hE.length
 have h64:=hg.1
 have hperm:=(sortK_stable nkey rows).perm
 have hcd:c.dp<recursionLimit:=Nat.lt_of_le_of_lt (Nat.le_add_right _ _) C.d
 have hcu:c.un+2<cLine:=Nat.lt_of_le_of_lt (Nat.add_le_add_left (by decide) _) C.u
 unfold bLwT
 refine H_set X (GA_sortK X (a:= .loc 7 ⟨379,19,379,23⟩) rfl (GA_p X (os:=[]) rfl (.mk fun kp hp tk K=>G_kzW [false,false,false,true] (sortW X (P:=427) (cA:=431) (spec:=lwSpec) (L:=L3) (ks:=rows.map nkey) (vs:=rv) "law.<locals>.<lambda>" rfl (show ("law"++".<locals>."++"<lambda>":Str)="law.<locals>.<lambda>" from by decide+kernel) rfl (by decide+kernel) (by decide+kernel) rfl (by rw[List.length_map,hrl]) (by exact lin (.h 1 (.d Y1 Y0) (.h 1 (.t Y1 (.c 64)) (.G 1 (.t Y0 (.c 64))))) rfl [_,_] [] hrl h64)) thr0
  (fun bs kp B=>⟨C.c4,fun p h=>exR p (s3 p h),⟨rc,exR _ hml⟩,fun i v k hv hk=> ?lam⟩) (fun v led ab1 _ hr=> ?ret) (fun _ _ _ h=>h) K)))
 case lam=>
  obtain ⟨r,hr,R⟩:=hE.at hv
  obtain ⟨xv,t1,t2,V,rfl,hx,_⟩:=R
  rw[List.getElem?_map,hr] at hk
  cases hk
  exact lam_law X (exR _ hx) hcd
 cases hr with
 | @mk o k tl L' hs=>
 refine ⟨.v (.ref o),rfl,?_⟩
 have up:∀p∈ex,p∈((o,listOf (byKey (rows.map nkey) rv).toArray k)::tl)++ex:=fun p h=>mR _ h
 have T:TlF c d1 rows x l o rv (byKey (rows.map nkey) rv) rc k L1 L2 (((o,listOf (byKey (rows.map nkey) rv).toArray k)::tl)++ex):=
  ⟨s.mono up,up _ hml,.head _,hE.mono fun _ _ z=>z.mono up fun _ _ y=>y.mono up,each_sorted (hE.mono fun _ _ z=>z.mono up fun _ _ y=>y.mono up),fun p h=>up p (s1 p h),fun p h=>up p (s2 p h)⟩
 refine H_le (σ':=⟨lvs l x o,T4 L1 L2 L',((o,listOf (byKey (rows.map nkey) rv).toArray k)::tl)++ex⟩) ?_ ⟨.skip (.skip (.skip (.skip (.skip (.skip (.skip (.keep (.skip (.skip (.skip (.keep (.skip (.keep .nil))))))))))))),.refl _,fun p h=>h⟩
 have hov:=T.f.length
 have hol:=hperm.length_eq
 clear hE s hR hml s1 s2 s3 hs up
 generalize ((o,listOf (byKey (rows.map nkey) rv).toArray k)::tl)++ex=ex at T
 generalize byKey (rows.map nkey) rv=ov at T hov
 have hw5:(wrs (d1+1) (sortK nkey rows)).length<2 ^ 16:=by rw[wrs_perm hperm];(exact lin (.h 1 (.t Y0 (.c 32768)) (.G 1 (.t Y0 (.c 65536)))) rfl [_] [] hlen)
 have hse:SEq rows (sortK nkey rows) true:= .inl ⟨rfl,sort_two rows⟩
 refine H_ifG (GT_cmpG (GA_eqA X C hD hg rfl (GA_p X (os:=[]) rfl (.mk [true,true] [false,false,true] (fun La=>T4 La L2 L') (fun La Lb=>T4 La Lb L') rfl (fun _=>rfl) (fun _=>rfl) (fun _ _=>rfl) T.s1 T.s2 T.s (hg.perm hperm) hw5 hse (fun bs kp B=>⟨_,k,exR _ T.o,T.f.exR⟩) (fun La Lb ex' i1 i2 i3=> ?_)))))
 replace T:=T.mono i1 i2 i3
 clear i1 i2 i3
 refine GA_p X (os:=[]) rfl fun v' w hv hw=> ?_
 rw[AV.has_v hv,AV.has_v hw]
 refine G_isnot (.mk ⟨fun h=>absurd h (by decide),fun _=>H_nil ?_⟩)
 refine H_ifG (GT_cmpG (GA_lenV X (os:=[]) rfl (.inr ⟨rc,mL _ T.l⟩) (by exact lin (.h 1 (.d Y1 Y0) (.h 1 (.t Y1 (.c 64)) (.G 1 (.t Y0 (.c 1048576))))) rfl [_,_] [] hrl h64) (GA_p X (os:=[]) rfl fun v' w hv hw=>G_cmpP hv hw rfl (.mk ⟨fun h=>H_retA (GA_p X (os:=[]) rfl (sq_rt (.mk fun q h=>h))),fun h=>H_nil ?_⟩))))
 rcases List.eq_nil_or_concat rows with rfl|⟨init,r,e⟩
 ·rw[←hrl] at h;cases h
 rw[List.concat_eq_append] at e
 subst e
 obtain ⟨iv,v,rfl,hE1,hrow⟩:=T.e.snoc
 have hil:iv.length<64:=by rw[←hE1.length];rw[List.length_append] at h64;simp at h64;(exact lin (.h 1 (.t (.a Y0 (.c 1)) (.c 64)) (.G 1 (.t Y0 (.c 64)))) rfl [_] [] h64)
 obtain ⟨xv,t1,t2,V,rfl,hxv,hD'⟩:=id hrow
 have hgr:=(hg.2 r (mR _ (.head _))).2.2
 have LV1:∀{vs ab},LV c ⟨vs,ab,ex'⟩ l (iv++[.ref xv]):=fun {vs ab}=> .inr ⟨rc,mL _ T.l⟩
 refine H_join (S:=Addr×Int) (fun y=>⟨lvs l x o++[some (.v (.ref y.1))],(y.1,tupP [.i r.1,.i 0,.i y.2])::T4 La Lb L',ex'⟩) (fun y=>RowNe r (r.1,0,.num y.2)∧(y.2=1∨y.2=2)) (HS_set X (GA_ite (GT_cmpG (GA_last X (GA_p X (os:=[]) rfl (.mk LV1 hil (GA_row0 X rfl LV1 hil hxv fun D1 v' w hv hw=> ?_))))))) ?_
 ·rw[AV.has_v hv,AV.has_v hw]
  have le:∀{D2:Addr} {z:Int},Le c ⟨setN (lvs l x o) 14 (.v (.ref D2)),(D2,tupP [.i r.1,.i 0,.i z])::(D1,tupP [.i r.1,.i 0,.i 1])::T4 La Lb L',ex'⟩ ⟨lvs l x o++[some (.v (.ref D2))],(D2,tupP [.i r.1,.i 0,.i z])::T4 La Lb L',ex'⟩:=fun {D2 z}=>⟨.skip (.skip (.skip (.skip (.skip (.skip (.skip (.keep (.skip (.skip (.skip (.keep (.skip (.keep (.keep .nil)))))))))))))),.cons_cons _ (.cons _ (.refl _)),fun p h=>h⟩
  refine G_rowturn hxv (.head _) hD' hgr hcu fun b hb=> .mk ⟨fun h=> ?_,fun h=> ?_⟩
  ·rcases hb with ⟨_,hn⟩|⟨e,_⟩
   ·exact GA_row0 X rfl LV1 hil hxv fun D2=>md_nx (D2,1) le ⟨hn,.inl rfl⟩
   ·rw[e] at h;cases h
  ·rcases hb with ⟨e,_⟩|⟨_,hn⟩
   ·rw[e] at h;cases h
   ·exact GA_row0 X rfl LV1 hil hxv fun D2=>md_nx (D2,2) le ⟨hn,.inr rfl⟩
 ·rintro ⟨tt,z⟩ ⟨hne,hz⟩
  exact law_last X C hD hg hlen T hE1 hil (by exact lin (.h 1 (.t Y1 (.c 64)) (.h 1 (.e Y2 Y1) (.h 1 (.d Y2 Y0) (.G 1 (.t Y0 (.c 64)))))) rfl [_,_,_] [] h64 hol hov) hne hz
theorem law_octetsZ {w:World} {sa:Addr} {ns:List Int} (hnl:ns.length≤63):KZ w 3 364 [.v (.ref sa)] [] (fun base _=>∃vs:List Value,base.IsList sa vs.toArray∧IntsAre vs ns) (fun v led _=>OctR v led) (fun _ _ _=>False):=by
 refine KZ_enter (d:=dOc) (body:=bOc) dOc_ok (fun _=>rfl) (fun _=>rfl) (fun s=>lenS fun a=>lenZ (BindsTo.of_eq rfl)) rfl rfl (by decide) (by decide) ?_
 intro c X hw hx rm hS _
 obtain ⟨vs,⟨o,h1,h2⟩,hi⟩:=hS
 exact H_mono (oct_walk X rm ⟨vs,⟨o,X.below.stays _ _ h1,h2⟩,hi⟩ hnl) fun f σ h=>FinZ.of h
theorem getD_all {P:Int→Prop} {l:List Int} {n:Nat} (h0:P 0) (h:∀x∈l,P x):P (l.getD n 0):=by
 rw[List.getD_eq_getElem?_getD]
 cases e:l[n]? with
 |none=>exact h0
 |some x=>exact h x (List.mem_of_getElem? e)
theorem fm_hi (a:Int) {b:Int} (h:0<b):a.fmod b<b:=Int.fmod_lt_of_pos a h
theorem fm_lo (a:Int) {b:Int} (h:0<b):0≤a.fmod b:=Int.fmod_nonneg_of_pos a h
theorem G_rowsne {d:Df} {c:Cx} {σ:St} {D:Nat} {rows:List Rw} {l k:Addr} {Q:Value→St→Prop} (h1:RowsAt D σ.ex rows l) (h2:RowsAt D σ.ex rows k) (hu:c.un+2*D<cLine) (q:Q (.bool false) σ):G d c (compareOp .NotEq (.ref l) (.ref k)) Q σ:=fun kp h tk K=>K.open fun m bs F V B N=>
 rows_ne (led:=σ.ex) (fun p hp=>(N p (mR _ (mL _ hp))).1) h1 h2 hu (post K q)
noncomputable abbrev wvs (sa lo:Addr) (first at_ end_ lv:Int):List (Option AV):=[some (.v (.ref sa)),some (.v (.ref lo)),some (.i first),some (.i at_),some (.i end_),some (.i lv)]
theorem law_mid {fa sa lo:Addr} {c:Cx} {bs:List Int} {os:List Value} {co at_ end_ lv:Nat} {first:Int} (X:Fx (dLf fa) c) (C:LwC c) (hI:IntsAre os bs) (hO:OctOk bs) (ha:at_≤2) (he:end_≤1002) (hlv:lv≤99) {p1 p2 p3 p4 p5 p6 p7 p8 p9 q1 q2 q3 q4 q5 q6 q7 q8 q9 r1 r2 r3 r4 r5 r6 r7 r8 r9 s1 s2 s3 s4 s5 s6 s7 s8 s9 t1 t2 t3 t4 t5 t6 t7 t8 t9 u1 u2 u3 u4 u5 u6 u7 u8:Pos}:
  H (dLf fa) c (.cons (.setT (.cons (.loc 6 p1) (.cons (.loc 7 p2) (.cons (.loc 8 p3) (.cons (.loc 9 p4) .nil)))) p5 (.call (.gl "_law_read_set" p6) (.cons (.loc 1 p7) (.cons (.loc 3 p8) (.cons (.loc 4 p9) (.cons (.loc 5 q1) .nil)))) q2) q3)
   (.cons (.ifs (.cmp (.loc 6 q4) .Eq (.txt "unasked" q5) q6) (.cons (.ret (.tru q7) q8) .nil) .nil q9)
   (.cons (.setT (.cons (.loc 10 r1) (.cons (.loc 11 r2) (.cons (.loc 12 r3) .nil))) r4 (.call (.gl "_law_told" r5) (.cons (.loc 1 r6) (.cons (.loc 3 r7) (.cons (.loc 4 r8) (.cons (.loc 5 r9) .nil)))) s1) s2)
   (.cons (.ifs (.cmp (.loc 10 s3) .NotEq (.loc 6 s4) s5) (.cons (.ret (.fls s6) s7) .nil) .nil s8)
   (.cons (.ifs (.cmp (.loc 6 s9) .NotEq (.txt "" t1) t2) (.cons (.ret (.tru t3) t4) .nil) .nil t5)
   (.cons (.ifs (.bop .Or (.cons (.cmp (.loc 12 t6) .NotEq (.loc 8 t7) t8) (.cons (.cmp (.call (.gl "_law_shown" t9) (.cons (.loc 11 u1) .nil) u2) .NotEq (.loc 7 u3) u4) .nil)) u5) (.cons (.ret (.fls u6) u7) .nil) .nil u8)
   bLwT)))))) LwE ⟨wvs sa lo first at_ end_ lv,T4 [] [] [],[(lo,listOf os.toArray co)]⟩:=by
 obtain ⟨hb,hbl,t0,ht0,hcov⟩:=hO
 have hol:=hI.length
 have hcd:c.dp+210<recursionLimit:=Nat.lt_of_le_of_lt (Nat.add_le_add_left (by decide) _) C.d
 have hcu:c.un+5000<cLine:=Nat.lt_of_le_of_lt (Nat.add_le_add_left (by decide) _) C.u
 refine H_setK X (is:=[6,7,8,9]) rfl ⟨rfl,fun _=>rfl,fun _=>rfl,by decide⟩ (os:=[]) rfl (law_read_setA hb (by exact lin (.h 1 (.l Y0 (.c 1000)) (.G 1 (.t Y0 (.c 65536)))) rfl [_] [] hbl) (by exact lin (.h 1 (.l Y0 (.c 1002)) (.G 1 (.t Y0 (.c 131072)))) rfl [_] [] he) (end_+1) (by exact lin (.h 1 (.l Y0 (.c 1002)) (.G 1 (.t (.a Y0 (.c 1)) (.c 262144)))) rfl [_] [] he) at_ lv (by exact lin (.h 1 (.l Y0 Y1) (.G 1 (.t Y0 (.a Y1 (.c 1))))) rfl [_,_] [] (Nat.sub_le _ _)) (by exact lin (.h 1 (.l Y0 (.c 2)) (.G 1 (.t Y0 (.c 1048576)))) rfl [_] [] ha) (by exact lin (.h 1 (.l Y0 (.c 99)) (.G 1 (.t Y0 (.c 100)))) rfl [_] [] hlv)) C.rm (by exact lin (.h 3 (.e (.a Y0 Y1) (.c 100)) (.G 1 (.t (.a (.r 3 Y0) (.c 3)) (.c 320)))) rfl [_,_] [] (sC (lin (.h 1 (.l Y0 (.c 99)) (.G 1 (.l Y0 (.c 100)))) rfl [_] [] hlv))) (fun bs kp _=>⟨os,co,exR _ (.head _),hI⟩) (fun tl avs hr=> ?_)
 cases hr with
 | @mk fs l q cl hR=>
 refine ⟨rfl,H_ifs X (os:=[]) rfl (fun h=>H_retA (GA_p X (os:=[]) rfl (sq_rt (.mk fun q h=>h)))) (fun hf=>H_nil ?_)⟩
 have hun:rset bs end_ (end_+1) at_ lv≠.error .unasked:=fun e=>by
  rw[e] at hR
  rw[show fs=Flt.unasked.name from hR] at hf
  exact absurd hf (by decide)
 refine H_setT X (is:=[10,11,12]) rfl (GA_call X (f:=418) ⟨rfl,fun _=>rfl,fun _=>rfl,by decide⟩ (GL_p X (os:=[]) rfl (fun vs hvs=>G_kzF [true,true] (told_at (L:=[]) X C.outer C.inn C.top hcd hcu hb (by exact lin (.h 1 (.l Y0 (.c 1000)) (.G 1 (.t Y0 (.c 65536)))) rfl [_] [] hbl) (by exact lin (.h 1 (.l Y0 (.c 1002)) (.G 1 (.t Y0 (.c 131072)))) rfl [_] [] he) (by exact lin (.h 1 (.l Y0 (.c 2)) (.G 1 (.t Y0 (.c 131072)))) rfl [_] [] ha) (by exact lin (.h 1 (.l Y0 (.c 99)) (.G 1 (.t Y0 (.c 100)))) rfl [_] [] hlv) (by exact lin (.h 1 (.l Y0 Y1) (.G 1 (.t Y0 (.a Y1 (.c 1))))) rfl [_,_] [] (Nat.sub_le _ _)) (by exact lin (.h 1 (.l Y0 (.c 1002)) (.G 1 (.t (.a Y0 (.c 1)) (.c 262144)))) rfl [_] [] he) hun hvs) thr0 (fun bs kp _=>⟨⟨C.c1,C.c2,fun _ h=>absurd h List.not_mem_nil⟩,os,co,exR _ (mR _ (.head _)),hI⟩) (fun v led ab1 _ hr=> ?_) fun _ _ _ h=>h)))
 cases hr with
 | @mk _ _ tl2 _ _ hs hT=>
 cases hT with
 | @mk L' _ _ hP hs2=>
 cases hP with
 | @err f _ eo=>
  rw[eo] at hR
  rw[show fs=f.name from hR]
  refine ⟨.v (.ref _),rfl,_,_,rfl,.inl ⟨_,.head _,hs⟩,rfl,H_ifs X (os:=[]) rfl (fun h=>absurd h (by simp)) fun _=>H_nil ?_⟩
  refine H_ifs X (os:=[]) rfl (fun h=>H_retA (GA_p X (os:=[]) rfl (sq_rt (.mk fun q h=>h)))) fun h=>absurd h (by cases f<;>decide)
 | @ok rows q2 cl2 a tl2 eo hS=>
  rw[eo] at hR
  obtain ⟨e1,e2,e3,hRA⟩:=hR
  obtain ⟨wl,ew1,ew2,ew3⟩:=hcov
  have hg:=(rset_good ew2 ew1 hb (by exact lin (.h 1 (.l Y0 (.c 1000)) (.G 1 (.t Y0 (.c 65536)))) rfl [_] [] hbl) (by exact lin (.h 1 (.t Y1 (.c 64)) (.h 1 (.l Y0 Y1) (.G 1 (.t Y0 (.c 64))))) rfl [_,_] [] ht0 ew3) (by exact lin (.h 1 (.l Y0 (.c 99)) (.G 1 (.t Y0 (.c 100)))) rfl [_] [] hlv) eo).1
  have hwl:=(rset_wlen hb (by exact lin (.h 1 (.l Y0 (.c 1000)) (.G 1 (.t Y0 (.c 65536)))) rfl [_] [] hbl) (by exact lin (.h 1 (.l Y0 (.c 99)) (.G 1 (.t Y0 (.c 100)))) rfl [_] [] hlv) eo).1
  have hge:=rset_ge hb eo
  have hhi:=rset_hi hb eo
  have hD:100 - lv≤100:=Nat.sub_le _ _
  rw[e1,e2]
  generalize 100 - lv=D at hg hwl hD
  refine ⟨.v (.ref _),rfl,_,_,rfl,.inl ⟨_,.head _,hs⟩,rfl,H_ifs X (os:=[]) rfl (fun h=>absurd h (by decide)) fun _=>H_nil ?_⟩
  refine H_ifs X (os:=[]) rfl (fun h=>absurd h (by decide)) fun _=>H_nil ?_
  have hS2:=hS.good hg
  have hRA2:=hRA.good hg
  have hsh:=law_shown (w:=c.w) D hD D rows a hg
  refine H_ifG (GT_or X (os:=[]) rfl (fun h=>absurd h (by simp)) fun _=>GT_cmpG (GA_kon X ⟨rfl,fun _=>rfl,fun _=>rfl,by decide⟩ (os:=[]) rfl hsh C.rm (by exact lin (.h 1 (.l Y0 (.c 100)) (.G 1 (.t (.a Y0 (.c 6)) (.c 320)))) rfl [_] [] hD) (fun bs kp _=>hS2.mono fun p h=>exR p (mL _ (.tail _ h))) fun v led hr=> ?_))
  obtain ⟨l4,rfl,hR4⟩:=hr
  refine ⟨.v (.ref l4),rfl,GA_p X (os:=[]) rfl fun v w hv hw=> ?_⟩
  rw[AV.has_v hv,AV.has_v hw]
  refine G_rowsne (D:=D) (rows:=rows) (hR4.mono fun p h=>mL _ h) (hRA2.mono fun p h=>mR _ (mR _ (mL _ h))) (by exact lin (.h 1 (.t (.a Y0 (.c 5000)) Y2) (.h 2 (.l Y1 (.c 100)) (.G 1 (.t (.a Y0 (.r 2 Y1)) Y2)))) rfl [_,_,_] [] hcu hD) (.mk ⟨fun h=>absurd h (by decide),fun _=>H_nil ?_⟩)
  exact H_le (law_tailZ X C hD hg (by exact (Nat.le_total _ _).elim (fun e30=>lin (.h 30 (.l Y1 Y2) (.h 1 (.l (.a Y0 (.r 30 Y3)) (.r 30 Y1)) (.h 30 (.e Y2 Y3) (.G 1 (.t Y0 (.c 32768)))))) rfl [_,_,_,_] [] hhi hwl (Nat.max_eq_left (lin (.h 1 (.l Y0 Y1) (.G 1 (.l Y0 Y1))) rfl [_,_] [] e30))) (fun e30=>(Nat.le_total _ _).elim (fun e21=>lin (.h 30 (.l Y1 (.c 1002)) (.h 30 (.l Y2 Y3) (.h 1 (.l (.a Y0 (.r 30 Y4)) (.r 30 Y2)) (.h 30 (.e Y3 Y5) (.h 30 (.e Y5 Y1) (.G 1 (.t Y0 (.c 32768)))))))) rfl [_,_,_,_,_,_] [] he hhi hwl (Nat.max_eq_right (lin (.h 1 (.l Y0 Y1) (.G 1 (.l Y0 Y1))) rfl [_,_] [] e30)) (Nat.max_eq_left (lin (.h 1 (.l Y0 Y1) (.G 1 (.l Y0 Y1))) rfl [_,_] [] e21))) (fun e21=>lin (.h 30 (.l Y1 (.c 1000)) (.h 30 (.l Y2 Y3) (.h 1 (.l (.a Y0 (.r 30 Y4)) (.r 30 Y2)) (.h 30 (.e Y3 Y5) (.h 30 (.e Y5 Y1) (.G 1 (.t Y0 (.c 32768)))))))) rfl [_,_,_,_,_,_] [] hbl hhi hwl (Nat.max_eq_right (lin (.h 1 (.l Y0 Y1) (.G 1 (.l Y0 Y1))) rfl [_,_] [] e30)) (Nat.max_eq_right (lin (.h 1 (.l Y0 Y1) (.G 1 (.l Y0 Y1))) rfl [_,_] [] e21))))) (hS2.mono fun p h=>mR _ (mL _ (.tail _ h))) (hRA2.mono fun p h=>mR _ (mR _ (mL _ h))) (L1:=L') (L2:=[]) (L3:=[]) (fun p h=>mR _ (mL _ (.tail _ ((List.append_nil tl2)▸hs2 p h)))) (fun _ h=>absurd h List.not_mem_nil) (fun _ h=>absurd h List.not_mem_nil)) ⟨.skip (.skip (.skip (.skip (.skip (.skip (.skip (.keep (.skip (.skip (.skip (.keep .nil))))))))))),.refl _,fun p h=>h⟩
theorem law_walk {fa sa:Addr} {c:Cx} {ns:List Int} (X:Fx (dLf fa) c) (C:LwC c) (hS:∃vs:List Value,c.g.IsList sa vs.toArray∧IntsAre vs ns) (hSb:∃vs:List Value,c.base.IsList sa vs.toArray∧IntsAre vs ns) (hnl:ns.length≤63):H (dLf fa) c bLw LwE ⟨[some (.v (.ref sa))],T4 [] [] [],[]⟩:=by
 have LS:∀σ,LI c σ sa ns:=fun σ=> .inr (.inr hS)
 have h40:ns.length<2 ^ 40:=Nat.lt_of_le_of_lt hnl (by decide)
 unfold bLw
 refine H_set X (GA_kz X [] (f:=364) ⟨rfl,fun _=>rfl,fun _=>rfl,by decide⟩ (os:=[]) rfl (law_octetsZ hnl) thr0 C.rm (by decide) (fun bs kp _=>hSb) (fun v led ab1 hr=> ?_) fun _ _ _ h=>h)
 cases hr with
 | @mk lo os co bs hI hO=>
 have hbl:=hO.2.1
 have LO:∀{vs ab},LI c ⟨vs,ab,[(lo,listOf os.toArray co)]⟩ lo bs∧bs.length<2 ^ 40:=fun {vs ab}=>⟨.inr (.inl ⟨os,co,.head _,hI⟩),Nat.lt_of_le_of_lt hbl (by decide)⟩
 refine H_join (S:=Int) (fun y=>⟨[some (.v (.ref sa)),some (.v (.ref lo)),some (.i y)],T4 [] [] [],[(lo,listOf os.toArray co)]⟩) (fun _=>True) (HS_set X (GA_p X (os:=[.l ns,.l ns]) rfl (md_nx _ ⟨.keep (.keep (.keep .nil)),.refl _,fun p h=>h⟩ trivial) (by exact ⟨⟨LS _,h40⟩,fun h=>⟨LS _,by decide,by have:=of_decide_eq_true h;exact this,h40⟩⟩))) ?_
 rintro first -
 refine H_join (S:=Int) (fun y=>⟨[some (.v (.ref sa)),some (.v (.ref lo)),some (.i first),some (.i y)],T4 [] [] [],[(lo,listOf os.toArray co)]⟩) (fun y=>0≤y∧y≤2) (HS_set X (GA_itemL X (os:=[]) rfl rfl (fun _=>rfl) (fm_lo _ (by decide)) (fm_hi _ (by decide)) (fun r=>md_nx _ ⟨.keep (.keep (.keep (.keep .nil))),.cons _ (.refl _),fun p h=>h⟩ ?_) (by exact True.intro))) ?_
 ·have h1:=fm_lo (first.fdiv 16) (show (0:Int)<3 by decide)
  have h2:=fm_hi (first.fdiv 16) (show (0:Int)<3 by decide)
  exact getD_all (P:=fun y=>0≤y∧y≤2) (by decide) (fC ⟨by decide,fC ⟨by decide,fC ⟨by decide,fC ⟨⟨h1,by exact lin (.h 1 (.T Z0 (.c 3)) (.G 1 (.L Z0 (.c 2)))) rfl [] [_] h2⟩,fun _ h=>absurd h List.not_mem_nil⟩⟩⟩⟩)
 rintro a1 ⟨ha0,ha1⟩
 refine H_join (S:=Int) (fun y=>⟨[some (.v (.ref sa)),some (.v (.ref lo)),some (.i first),some (.i a1),some (.i y)],T4 [] [] [],[(lo,listOf os.toArray co)]⟩) (fun y=>0≤y∧y≤1002) (HS_set X (GA_itemL X (os:=[.l bs,.l bs,.l bs,.l bs,.l bs]) rfl rfl (fun _=>rfl) (fm_lo _ (by decide)) (fm_hi _ (by decide)) (fun r=>md_nx _ ⟨.keep (.keep (.keep (.keep (.keep .nil)))),.cons _ (.refl _),fun p h=>h⟩ ?_) (by exact ⟨LO,LO,LO,LO,LO⟩))) ?_
 ·have h1:=fm_lo (first.fdiv 64) (show (0:Int)<4 by decide)
  have h2:=fm_hi (first.fdiv 64) (show (0:Int)<4 by decide)
  refine getD_all (P:=fun y=>0≤y∧y≤1002) (by decide) (fC ⟨⟨by omega,by exact lin (.h 1 (.l Y0 (.c 1000)) (.G 1 (.L Y0 (.c 1002)))) rfl [_] [] hbl⟩,fC ⟨⟨by omega,by exact lin (.h 1 (.l Y0 (.c 1000)) (.G 1 (.L Y0 (.c 1002)))) rfl [_] [] hbl⟩,fC ⟨⟨by omega,by exact lin (.h 1 (.l Y0 (.c 1000)) (.G 1 (.L Y0 (.c 1002)))) rfl [_] [] hbl⟩,fC ⟨?_,fC ⟨⟨by exact lin (.G 1 (.L (.c 0) (.a Y0 (.c 1)))) rfl [_] [],by exact lin (.h 1 (.l Y0 (.c 1000)) (.G 1 (.L (.a Y0 (.c 1)) (.c 1002)))) rfl [_] [] hbl⟩,fun _ h=>absurd h List.not_mem_nil⟩⟩⟩⟩⟩)
  split
  ·exact ⟨by exact lin (.h 1 (.L (.c 0) Z1) (.h 1 (.T Z1 (.s Y0 Z0)) (.G 1 (.L (.c 0) (.s Y0 Z0))))) rfl [_] [_,_] ha0 ‹_›,by exact lin (.h 1 (.l Y0 (.c 1000)) (.h 1 (.L (.c 0) Z0) (.G 1 (.L (.s Y0 Z0) (.c 1002))))) rfl [_] [_] hbl h1⟩
  ·exact ⟨by omega,by exact lin (.h 1 (.L Z0 (.c 2)) (.G 1 (.L Z0 (.c 1002)))) rfl [] [_] ha1⟩
 rintro e1 ⟨he0,he1⟩
 refine H_join (S:=Int) (fun y=>⟨wvs sa lo first a1 e1 y,T4 [] [] [],[(lo,listOf os.toArray co)]⟩) (fun y=>0≤y∧y≤99) (HS_set X (GA_itemL X (os:=[]) rfl rfl (fun _=>rfl) (fm_lo _ (by decide)) (fm_hi _ (by decide)) fun r=>md_nx _ ⟨.keep (.keep (.keep (.keep (.keep (.keep .nil))))),.cons _ (.refl _),fun p h=>h⟩ ?_)) ?_
 ·have h1:=fm_lo (first.fdiv 1024) (show (0:Int)<8 by decide)
  have h2:=fm_hi (first.fdiv 1024) (show (0:Int)<8 by decide)
  exact getD_all (P:=fun y=>0≤y∧y≤99) (by decide) (fC ⟨by decide,fC ⟨by decide,fC ⟨by decide,fC ⟨⟨by exact lin (.h 1 (.L (.c 0) Z0) (.G 1 (.L (.c 0) (.a (.c 92) Z0)))) rfl [] [_] h1,by exact lin (.h 1 (.T Z0 (.c 8)) (.G 1 (.L (.a (.c 92) Z0) (.c 99)))) rfl [] [_] h2⟩,fun _ h=>absurd h List.not_mem_nil⟩⟩⟩⟩)
 rintro v1 ⟨hv0,hv1⟩
 obtain ⟨at_,rfl⟩:=Int.eq_ofNat_of_zero_le ha0
 obtain ⟨end_,rfl⟩:=Int.eq_ofNat_of_zero_le he0
 obtain ⟨lv,rfl⟩:=Int.eq_ofNat_of_zero_le hv0
 exact law_mid X C hI hO (by exact lin (.h 1 (.L Y0 (.c 2)) (.G 1 (.l Y0 (.c 2)))) rfl [_] [] ha1) (by exact lin (.h 1 (.L Y0 (.c 1002)) (.G 1 (.l Y0 (.c 1002)))) rfl [_] [] he1) (by exact lin (.h 1 (.L Y0 (.c 99)) (.G 1 (.l Y0 (.c 99)))) rfl [_] [] hv1)
theorem law_run {w:World} {p:Program} {loose:List Str} {mean:ExcName→Option Value} {mg mb:Str→Option Value} {g:Heap} {L fa sa:Addr} {m:Str→Option Value} {ns:List Int} {vs:List Value} {s:Shared} {Q:Flow→Shared→Prop} {R:Value→Shared→Prop}
  (K0:Below callerA g [] g) (F0:Fr g L s.heap m) (hm:m (Str.ofString "script")=some (.ref sa)) (X0:(Mine.kf w.params).In g) (T0:Top p loose mean mg mb g) (N0:News g L s.heap [(273,tabObj #[]),(287,tabObj #[]),(166,tabObj #[]),(427,tabObj #[])]) (hI:IntsAre vs ns) (hl:g.IsList sa vs.toArray) (hn:ns.length≤63)
  (c1:CodeHd g 291 287) (c2:CodeHd g 277 273) (c3:CodeHd g 170 166) (c4:CodeHd g 431 427)
  (fin:∀h' tk m' p1 p2 p3 p4,Fr g L h' m'→News g L h' [(273,tabObj p2),(287,tabObj p1),(166,tabObj p3),(427,tabObj p4)]→Q (.ret (.bool true)) {s with heap:=h',toks:=tk}):
  wpAny (model PR w) (callerA.deeper (envOf (Str.ofString "law") dLw.sc L fa (.ref 431))) (execs (su dLw.names bLw).2 (envOf (Str.ofString "law") dLw.sc L fa (.ref 431))) Q
   (fun e s'=>wpAny (model PR w) (callerA.deeper (envOf (Str.ofString "law") dLw.sc L fa (.ref 431))) (leaving (envOf (Str.ofString "law") dLw.sc L fa (.ref 431)) e) (fun _ s''=>R e s'') (fun e' s''=>R e' s'') s') s:=by
 let ek:Value→Shared→Prop:=fun e s'=>wpAny (model PR w) (callerA.deeper (envOf (Str.ofString "law") dLw.sc L fa (.ref 431))) (leaving (envOf (Str.ofString "law") dLw.sc L fa (.ref 431)) e) (fun _ s''=>R e s'') (fun e' s''=>R e' s'') s'
 let c:Cx:=⟨w,p,loose,mean,mg,mb,callerA.depth+1,callerA.units+3,callerA.guards,[],L,callerA,g,g,s,ek,[],fun _=>False⟩
 have X:Fx (dLf fa) c:=⟨dLf_ok fa,K0,X0,T0,PassesOwn.leaving⟩
 have C:LwC c:=⟨rfl,X0,T0,show callerA.depth+1+400<recursionLimit by decide,show callerA.units+3+9000<cLine by decide,c1,c2,c3,c4,fun _ h=>h⟩
 have K:Ok (dLf fa) c ⟨[],[]⟩ ⟨[some (.v (.ref sa))],T4 [] [] [],[]⟩ s.heap:=Sh.ok ⟨show ([287,273,166,427]:List Nat).Pairwise (·≠·) by decide,fun _ _=>no_mem,no_mem,no_mem,fun _ _=> .inr no_mem⟩ F0 (fun i y a hi ha=>by
  cases i with
  |zero=>cases hi;cases ha;exact ⟨_,hm,rfl⟩
  |succ i=>exact nth_nil (j:=i) ha) (.cons ⟨#[],rfl,TabOk.empty _ _⟩ (.cons ⟨#[],rfl,TabOk.empty _ _⟩ (.cons ⟨#[],rfl,TabOk.empty _ _⟩ (.cons ⟨#[],rfl,TabOk.empty _ _⟩ .nil))))
  (fC ⟨N0 _ (.tail _ (.head _)),fC ⟨N0 _ (.head _),fun p h=>N0 p (.tail _ (.tail _ h))⟩⟩)
 refine G.run (d:=dLf fa) (c:=c) (law_walk X C ⟨vs,hl,hI⟩ ⟨vs,hl,hI⟩ hn) K fun f h' σ' tk' K' q=>K'.open fun m2 bs F2 V2 B2 N2=> ?_
 cases q with
 | @mk _ L1 L2 L3 q=>
 obtain ⟨_,a1,q1,rfl,_⟩:=B2.get _ (q _ (.head _))
 obtain ⟨_,a2,q2,rfl,_⟩:=B2.get _ (q _ (.tail _ (.head _)))
 obtain ⟨_,a3,q3,rfl,_⟩:=B2.get _ (q _ (.tail _ (.tail _ (.head _))))
 obtain ⟨_,a4,q4,rfl,_⟩:=B2.get _ (q _ (.tail _ (.tail _ (.tail _ (.head _)))))
 exact fin h' tk' m2 q1 q2 q3 q4 F2 (fC ⟨N2 _ (mL _ a2),fC ⟨N2 _ (mL _ a1),fC ⟨N2 _ (mL _ a3),fC ⟨N2 _ (mL _ a4),no_mem⟩⟩⟩⟩)
theorem walk:pT:=by
 intro d kwd e
 obtain ⟨rfl,rfl⟩:=Prod.mk.inj (Option.some.inj (e.symm.trans law_def))
 clear e
 k_fill
 intro w s₀ s₁ mg mb G Y fa o pm cd doc dV kV ho hd hcd hD hmg hg args vals as hpre hlay hrd hwl hlo
 dsimp only at hd hcd hD hmg
 have KX:=km_in_of Y
 km_tabs Y
 have X:=(Ground.X G).1
 have V:=(Ground.X G).2
 refine Ground.open G ?_
 intro T B D TE TW
 try (refine guard_noD D (by decide+kernel) ?_;clear D)
 clear Y
 km_lay T hmg ho hd cd
 clear hmg
 wrow_args hpre hlay hrd hwl hlo
 all_goals (
  first|refine callC_kw (enter_call ?_)|refine enter_call ?_
  w_top on
  kn_posts
  w_call any ho hd hcd hD T F
  clear hd
  kn_ghosts F T
  k_drop
  skip)
 rename IntsAre _ _=>hI
 rename News _ _ _ _=>N0
 rename Fr _ _ _ _=>F0
 rename Below _ _ _ _=>K0
 rename Frag.In _ _=>X0
 rename Top _ _ _ _ _ _=>T0
 rename ¬ _=>hlen
 rename_i ch1 ch2 ch3 _
 refine law_run K0 F0 (by with_unfolding_all rfl) X0 T0 N0 hI lifted (by omega) ch2 ch1 ch3 codeHd ?_
 intro h' tk m' p1 p2 p3 p4 F N
 (try dsimp only)
 refine ⟨?_,?_⟩
 ·wrow_close
 ·walk_at "GrownAll"
noncomputable def fin.te12740692763255036000:Nat:=0
noncomputable def fin.te18105285910621931680:Nat:=0
noncomputable def fin.te6435670951450185984:Nat:=0
noncomputable def fin.te4209717502836232480:Nat:=0
noncomputable def fin.te10599938827571368224:Nat:=0
noncomputable def fin.te1544503264643628384:Nat:=0
noncomputable def fin.te828056024939588000:Nat:=0
noncomputable def fin.te3506512066687448480:Nat:=0
noncomputable def fin.te17801579834951734752:Nat:=0
noncomputable def fin.te14109310954907245088:Nat:=0
noncomputable def fin.te799341379326975648:Nat:=0
noncomputable def fin.te6515953530934532768:Nat:=0
noncomputable def fin.te8656503046869711584:Nat:=0
noncomputable def fin.te11298980531735778240:Nat:=0
noncomputable def fin.te11192643925408225281:Nat:=0
noncomputable def fin.te7522001649326652513:Nat:=0
noncomputable def fin.te11293339424137598113:Nat:=0
noncomputable def fin.te11575174756993882273:Nat:=0
noncomputable def fin.te7249652514872940865:Nat:=0
noncomputable def fin.te15566928917628492161:Nat:=0
noncomputable def fin.te4443050520305737185:Nat:=0
noncomputable def fin.te14838103818555229697:Nat:=0
noncomputable def fin.te452842511749404161:Nat:=0
noncomputable def fin.te15205425988870721313:Nat:=0
noncomputable def fin.te8408514402456403777:Nat:=0
noncomputable def fin.te18105942590061964161:Nat:=0
noncomputable def fin.te5678346346211369953:Nat:=0
noncomputable def fin.te5486226609284752418:Nat:=0
noncomputable def fin.te17717364068325071970:Nat:=0
noncomputable def fin.te9357874355931990178:Nat:=0
noncomputable def fin.te12448240930570709186:Nat:=0
noncomputable def fin.te13337293482115323266:Nat:=0
noncomputable def fin.te10829458402184033698:Nat:=0
noncomputable def fin.te12180539936304867106:Nat:=0
noncomputable def fin.te18255404467826089762:Nat:=0
noncomputable def fin.te4769821431679368130:Nat:=0
noncomputable def fin.te18082680734076937219:Nat:=0
noncomputable def fin.te4424551920762525699:Nat:=0
noncomputable def fin.te670465573061467203:Nat:=0
noncomputable def fin.te8590288500278120515:Nat:=0
noncomputable def fin.te7930893340574950883:Nat:=0
noncomputable def fin.te13066358836101814915:Nat:=0
noncomputable def fin.te16115155874713506467:Nat:=0
noncomputable def fin.te5402249366112354979:Nat:=0
noncomputable def fin.te11454252539852477091:Nat:=0
noncomputable def fin.te3762306804915933987:Nat:=0
noncomputable def fin.te12135189313929291683:Nat:=0
noncomputable def fin.te14345562132136545540:Nat:=0
noncomputable def fin.te6388184931127306564:Nat:=0
noncomputable def fin.te17662344363894024548:Nat:=0
noncomputable def fin.te2775396313129547428:Nat:=0
noncomputable def fin.te17963964198891936676:Nat:=0
noncomputable def fin.te1560641971993327685:Nat:=0
noncomputable def fin.te7716820226725407877:Nat:=0
noncomputable def fin.te2367325634123391141:Nat:=0
noncomputable def fin.te7929640520542984453:Nat:=0
noncomputable def fin.te10818889477481085253:Nat:=0
noncomputable def fin.te8269367382603917829:Nat:=0
noncomputable def fin.te612862322836996645:Nat:=0
noncomputable def fin.te6956187926921108005:Nat:=0
noncomputable def fin.te14578271805448956485:Nat:=0
noncomputable def fin.te6474043946942992101:Nat:=0
noncomputable def fin.te10007411396671696613:Nat:=0
noncomputable def fin.te2305881189932309285:Nat:=0
noncomputable def fin.te7613857476909055813:Nat:=0
noncomputable def fin.te7613945582906998725:Nat:=0
noncomputable def fin.te13925877587632400325:Nat:=0
noncomputable def fin.te13814004702073501669:Nat:=0
noncomputable def fin.te11273041486466551846:Nat:=0
noncomputable def fin.te10895054467252067526:Nat:=0
noncomputable def fin.te16275787546110486726:Nat:=0
noncomputable def fin.te12669758225909598566:Nat:=0
noncomputable def fin.te1951045429614898598:Nat:=0
noncomputable def fin.te17637551073024348614:Nat:=0
noncomputable def fin.te17130245016438642246:Nat:=0
noncomputable def fin.te10807920368746810246:Nat:=0
noncomputable def fin.te15459455144867644326:Nat:=0
noncomputable def fin.te4171678462856256454:Nat:=0
noncomputable def fin.te8577089030196625639:Nat:=0
noncomputable def fin.te12696600883282566439:Nat:=0
noncomputable def fin.te12118000046449163591:Nat:=0
noncomputable def fin.te9218923581257491847:Nat:=0
noncomputable def fin.te17123178472405020103:Nat:=0
noncomputable def fin.te12409915417874342407:Nat:=0
noncomputable def fin.te10383673109516279431:Nat:=0
noncomputable def fin.te13360279666012451719:Nat:=0
noncomputable def fin.te14856888987745899463:Nat:=0
noncomputable def fin.te1976505206021243879:Nat:=0
noncomputable def fin.te14279960228734115912:Nat:=0
noncomputable def fin.te7380833856163905736:Nat:=0
noncomputable def fin.te14679806638718605512:Nat:=0
noncomputable def fin.te12494888245299231016:Nat:=0
noncomputable def fin.te2976117146107443816:Nat:=0
noncomputable def fin.te14431720936831517352:Nat:=0
noncomputable def fin.te1625080806587739848:Nat:=0
noncomputable def fin.te11897717083992391400:Nat:=0
noncomputable def fin.te15149952090015108872:Nat:=0
noncomputable def fin.te8919302590299486024:Nat:=0
noncomputable def fin.te3974152918291533672:Nat:=0
noncomputable def fin.te428092273266315144:Nat:=0
noncomputable def fin.te3125960719983571848:Nat:=0
noncomputable def fin.te999798209818781672:Nat:=0
noncomputable def fin.te1422313219903470601:Nat:=0
noncomputable def fin.te12946824338688289833:Nat:=0
noncomputable def fin.te3343445320678177929:Nat:=0
noncomputable def fin.te15533503492667675913:Nat:=0
noncomputable def fin.te10671828304227620169:Nat:=0
noncomputable def fin.te1921391257341544841:Nat:=0
noncomputable def fin.te16656299143469825513:Nat:=0
noncomputable def fin.te4684940682943077961:Nat:=0
noncomputable def fin.te3004984022683251337:Nat:=0
noncomputable def fin.te10098057777631523497:Nat:=0
noncomputable def fin.te17570709534508481193:Nat:=0
noncomputable def fin.te8352470293576582857:Nat:=0
noncomputable def fin.te7830629276484211593:Nat:=0
noncomputable def fin.te16269368082590959529:Nat:=0
noncomputable def fin.te11953781441336167498:Nat:=0
noncomputable def fin.te10852849658779182186:Nat:=0
noncomputable def fin.te16906536467411238026:Nat:=0
noncomputable def fin.te757079261281740938:Nat:=0
noncomputable def fin.te884059145510264010:Nat:=0
noncomputable def fin.te16570786720924097770:Nat:=0
noncomputable def fin.te6081921254191324426:Nat:=0
noncomputable def fin.te8559517257967667466:Nat:=0
noncomputable def fin.te12149302876761508202:Nat:=0
noncomputable def fin.te4868334931027891882:Nat:=0
noncomputable def fin.te4613182775407389354:Nat:=0
noncomputable def fin.te2866121171748074186:Nat:=0
noncomputable def fin.te12711679700452659978:Nat:=0
noncomputable def fin.te14568449535678555946:Nat:=0
noncomputable def fin.te17186005699333237546:Nat:=0
noncomputable def fin.te14139026862911339306:Nat:=0
noncomputable def fin.te4588413851689716618:Nat:=0
noncomputable def fin.te10874316729293906858:Nat:=0
noncomputable def fin.te14560573928864763818:Nat:=0
noncomputable def fin.te12284014389350100970:Nat:=0
noncomputable def fin.te10242451874928486539:Nat:=0
noncomputable def fin.te857469055436470443:Nat:=0
noncomputable def fin.te17821466097196317003:Nat:=0
noncomputable def fin.te14210890002308233579:Nat:=0
noncomputable def fin.te2067723777617599883:Nat:=0
noncomputable def fin.te7661832156752021035:Nat:=0
noncomputable def fin.te16285329926789087883:Nat:=0
noncomputable def fin.te15741700470354863883:Nat:=0
noncomputable def fin.te5962627729488381771:Nat:=0
noncomputable def fin.te17416127249078093707:Nat:=0
noncomputable def fin.te6449190631224713292:Nat:=0
noncomputable def fin.te8569027658895312972:Nat:=0
noncomputable def fin.te1963134401048803436:Nat:=0
noncomputable def fin.te17347454772498655404:Nat:=0
noncomputable def fin.te16496857829328116044:Nat:=0
noncomputable def fin.te6207176494656529804:Nat:=0
noncomputable def fin.te5734618986648460908:Nat:=0
noncomputable def fin.te15144710454662140524:Nat:=0
noncomputable def fin.te803859442106103436:Nat:=0
noncomputable def fin.te6634307039904815820:Nat:=0
noncomputable def fin.te10196768644732416780:Nat:=0
noncomputable def fin.te12356021495744459628:Nat:=0
noncomputable def fin.te12876116671307685997:Nat:=0
noncomputable def fin.te8289400949097046189:Nat:=0
noncomputable def fin.te16109372258727991565:Nat:=0
noncomputable def fin.te16530489862217454893:Nat:=0
noncomputable def fin.te13093503161671486093:Nat:=0
noncomputable def fin.te2617349483901765261:Nat:=0
noncomputable def fin.te5011121235533021005:Nat:=0
noncomputable def fin.te17698704350827878285:Nat:=0
noncomputable def fin.te6531376189190222733:Nat:=0
noncomputable def fin.te9001875181463519149:Nat:=0
noncomputable def fin.te3029852977388229646:Nat:=0
noncomputable def fin.te4950403968356008110:Nat:=0
noncomputable def fin.te12557769604369416430:Nat:=0
noncomputable def fin.te2304379251839397102:Nat:=0
noncomputable def fin.te9913140749668108558:Nat:=0
noncomputable def fin.te6381419901266130222:Nat:=0
noncomputable def fin.te17656766251404061198:Nat:=0
noncomputable def fin.te1982079694162106894:Nat:=0
noncomputable def fin.te6566618420281934:Nat:=0
noncomputable def fin.te10939691994893167182:Nat:=0
noncomputable def fin.te14166196953294261902:Nat:=0
noncomputable def fin.te17743408960866722510:Nat:=0
noncomputable def fin.te7675655780812522254:Nat:=0
noncomputable def fin.te5897612983314593646:Nat:=0
noncomputable def fin.te2512408688544751470:Nat:=0
noncomputable def fin.te17197158672614542318:Nat:=0
noncomputable def fin.te14728723275428758510:Nat:=0
noncomputable def fin.te11154830654865731599:Nat:=0
noncomputable def fin.te13929302177132474383:Nat:=0
noncomputable def fin.te10391319463526535247:Nat:=0
noncomputable def fin.te11277574374343807151:Nat:=0
noncomputable def fin.te2415902012162501839:Nat:=0
noncomputable def fin.te15942684835789789487:Nat:=0
noncomputable def fin.te3268265519342814607:Nat:=0
noncomputable def fin.te6323506392446703087:Nat:=0
noncomputable def fin.te2671655128345628175:Nat:=0
noncomputable def fin.te13021059552284102479:Nat:=0
noncomputable def fin.te7844069586390513008:Nat:=0
noncomputable def fin.te13790858721211988464:Nat:=0
noncomputable def fin.te12996517811204074000:Nat:=0
noncomputable def fin.te9221430085559818832:Nat:=0
noncomputable def fin.te982560976839675504:Nat:=0
noncomputable def fin.te13815853411582834384:Nat:=0
noncomputable def fin.te2321816554428607280:Nat:=0
noncomputable def fin.te1635022588487117616:Nat:=0
noncomputable def fin.te500868675978126160:Nat:=0
noncomputable def fin.te13383306551100868464:Nat:=0
noncomputable def fin.te13162651487661262736:Nat:=0
noncomputable def fin.te11336253725339858928:Nat:=0
noncomputable def fin.te1252854909445205041:Nat:=0
noncomputable def fin.te3173534031939492945:Nat:=0
noncomputable def fin.te4312942655851389009:Nat:=0
noncomputable def fin.te2462912638960843985:Nat:=0
noncomputable def fin.te5098551885099359569:Nat:=0
noncomputable def fin.te18387650150990424433:Nat:=0
noncomputable def fin.te480829909506669009:Nat:=0
noncomputable def fin.te11414674201277728305:Nat:=0
noncomputable def fin.te3404873503106905745:Nat:=0
noncomputable def fin.te5266742908149448401:Nat:=0
noncomputable def fin.te14075178694198228753:Nat:=0
noncomputable def fin.te5320702786494000081:Nat:=0
noncomputable def fin.te2656788454239962097:Nat:=0
noncomputable def fin.te11587955951900863698:Nat:=0
noncomputable def fin.te9722632081671974098:Nat:=0
noncomputable def fin.te1887099378405440850:Nat:=0
noncomputable def fin.te5073790198343104882:Nat:=0
noncomputable def fin.te11607805686811502034:Nat:=0
noncomputable def fin.te8643116662766533202:Nat:=0
noncomputable def fin.te3837020019201816242:Nat:=0
noncomputable def fin.te12847644182280273618:Nat:=0
noncomputable def fin.te9363291351745731410:Nat:=0
noncomputable def fin.te17971676594858020690:Nat:=0
noncomputable def fin.te6766580051018981234:Nat:=0
noncomputable def fin.te13700621096757390547:Nat:=0
noncomputable def fin.te6766378078585498003:Nat:=0
noncomputable def fin.te891787732878383699:Nat:=0
noncomputable def fin.te4768634762848416435:Nat:=0
noncomputable def fin.te16540275574145912595:Nat:=0
noncomputable def fin.te17974384156558142227:Nat:=0
noncomputable def fin.te17933470926392208243:Nat:=0
noncomputable def fin.te14574801432027512755:Nat:=0
noncomputable def fin.te3599858809825778643:Nat:=0
noncomputable def fin.te1080700006314346644:Nat:=0
noncomputable def fin.te15344004072050561172:Nat:=0
noncomputable def fin.te744865244796547220:Nat:=0
noncomputable def fin.te18373065035072037172:Nat:=0
noncomputable def fin.te12212933522069011988:Nat:=0
noncomputable def fin.te6567050819087999508:Nat:=0
noncomputable def fin.te14814673180317915700:Nat:=0
noncomputable def fin.te888132650186811988:Nat:=0
noncomputable def fin.te11079828417688620724:Nat:=0
noncomputable def fin.te10936777179133785780:Nat:=0
noncomputable def fin.te9247658263007524724:Nat:=0
noncomputable def fin.te3998398428148030388:Nat:=0
noncomputable def fin.te7321584467024264148:Nat:=0
noncomputable def fin.te6718411051458867188:Nat:=0
noncomputable def fin.te17719728818120068181:Nat:=0
noncomputable def fin.te216489041496292469:Nat:=0
noncomputable def fin.te11040825799340251285:Nat:=0
noncomputable def fin.te8025084765662995669:Nat:=0
noncomputable def fin.te380778119907437045:Nat:=0
noncomputable def fin.te12347537446847802165:Nat:=0
noncomputable def fin.te2537931557510868981:Nat:=0
noncomputable def fin.te6878024787957991413:Nat:=0
noncomputable def fin.te4759752924163587094:Nat:=0
noncomputable def fin.te6712194924023145494:Nat:=0
noncomputable def fin.te4598667867955821814:Nat:=0
noncomputable def fin.te9806666330580929782:Nat:=0
noncomputable def fin.te17449020081951674710:Nat:=0
noncomputable def fin.te7439575562449295702:Nat:=0
noncomputable def fin.te4162185377826839926:Nat:=0
noncomputable def fin.te333583748066197110:Nat:=0
noncomputable def fin.te6127190174262240918:Nat:=0
noncomputable def fin.te17512474026176034454:Nat:=0
noncomputable def fin.te15399907426655090358:Nat:=0
noncomputable def fin.te3263211703599914710:Nat:=0
noncomputable def fin.te10147658903529517814:Nat:=0
noncomputable def fin.te2910385600587045654:Nat:=0
noncomputable def fin.te9544026089342320630:Nat:=0
noncomputable def fin.te1397303283331804279:Nat:=0
noncomputable def fin.te2316539691658765527:Nat:=0
noncomputable def fin.te8383268338085895543:Nat:=0
noncomputable def fin.te8668149382578428375:Nat:=0
noncomputable def fin.te12977279227502587607:Nat:=0
noncomputable def fin.te10751089155417173751:Nat:=0
noncomputable def fin.te4218790737952374519:Nat:=0
noncomputable def fin.te4898026214463823928:Nat:=0
noncomputable def fin.te17067295170570645592:Nat:=0
noncomputable def fin.te13516622038369049944:Nat:=0
noncomputable def fin.te13177410634674063896:Nat:=0
noncomputable def fin.te4788878847521262168:Nat:=0
noncomputable def fin.te15621619335703214680:Nat:=0
noncomputable def fin.te5776136370200156792:Nat:=0
noncomputable def fin.te876206183137641144:Nat:=0
noncomputable def fin.te9746214513668125432:Nat:=0
noncomputable def fin.te4878226113927451544:Nat:=0
noncomputable def fin.te17204297501091165112:Nat:=0
noncomputable def fin.te12932903420030652473:Nat:=0
noncomputable def fin.te16252508478716706905:Nat:=0
noncomputable def fin.te8272817396058243321:Nat:=0
noncomputable def fin.te17041991840579044601:Nat:=0
noncomputable def fin.te5805905742469029177:Nat:=0
noncomputable def fin.te18230178534529381785:Nat:=0
noncomputable def fin.te17896612028031085017:Nat:=0
noncomputable def fin.te12550770813317053977:Nat:=0
noncomputable def fin.te3975253019698251321:Nat:=0
noncomputable def fin.te5293390819737331289:Nat:=0
noncomputable def fin.te4879674094562380441:Nat:=0
noncomputable def fin.te6455845175183424153:Nat:=0
noncomputable def fin.te8416529770105884409:Nat:=0
noncomputable def fin.te14347400895652799225:Nat:=0
noncomputable def fin.te16205109500356779066:Nat:=0
noncomputable def fin.te7803649310394182010:Nat:=0
noncomputable def fin.te12869217540446652890:Nat:=0
noncomputable def fin.te12567809125941998234:Nat:=0
noncomputable def fin.te16401934584784274106:Nat:=0
noncomputable def fin.te9725021084223525626:Nat:=0
noncomputable def fin.te6058378993454661626:Nat:=0
noncomputable def fin.te16103849850496634939:Nat:=0
noncomputable def fin.te12141802397888321627:Nat:=0
noncomputable def fin.te5796354222422608987:Nat:=0
noncomputable def fin.te1666694428299288667:Nat:=0
noncomputable def fin.te10511823565363050587:Nat:=0
noncomputable def fin.te4570111826955561243:Nat:=0
noncomputable def fin.te807531904560671035:Nat:=0
noncomputable def fin.te13724452099449386491:Nat:=0
noncomputable def fin.te11039862389202566683:Nat:=0
noncomputable def fin.te17164383140453370395:Nat:=0
noncomputable def fin.te15564276425815640635:Nat:=0
noncomputable def fin.te15201286185872193147:Nat:=0
noncomputable def fin.te7055459427971326715:Nat:=0
noncomputable def fin.te9445451236469955387:Nat:=0
noncomputable def fin.te9997704412844104603:Nat:=0
noncomputable def fin.te111200028466390044:Nat:=0
noncomputable def fin.te13423622936843584764:Nat:=0
noncomputable def fin.te3812028171767442716:Nat:=0
noncomputable def fin.te15309079848183770524:Nat:=0
noncomputable def fin.te3955986520655104412:Nat:=0
noncomputable def fin.te7779959011674639804:Nat:=0
noncomputable def fin.te17861066769153400444:Nat:=0
noncomputable def fin.te16237762584071213788:Nat:=0
noncomputable def fin.te9746901515087519452:Nat:=0
noncomputable def fin.te6232080684201472732:Nat:=0
noncomputable def fin.te16256441300576474876:Nat:=0
noncomputable def fin.te5901363791540438844:Nat:=0
noncomputable def fin.te251868834278440796:Nat:=0
noncomputable def fin.te12291753297600562012:Nat:=0
noncomputable def fin.te6650461044873433052:Nat:=0
noncomputable def fin.te14333544728242365436:Nat:=0
noncomputable def fin.te11615019562542576733:Nat:=0
noncomputable def fin.te14793013804824869981:Nat:=0
noncomputable def fin.te544173102793226557:Nat:=0
noncomputable def fin.te1012361349325877821:Nat:=0
noncomputable def fin.te11061592194353771069:Nat:=0
noncomputable def fin.te5115476493328737885:Nat:=0
noncomputable def fin.te895571856199123645:Nat:=0
noncomputable def fin.te12649782002744950493:Nat:=0
noncomputable def fin.te17260493314774615805:Nat:=0
noncomputable def fin.te6068950659093879613:Nat:=0
noncomputable def fin.te16307707646766795581:Nat:=0
noncomputable def fin.te7995362448368537469:Nat:=0
noncomputable def fin.te4719063310657182621:Nat:=0
noncomputable def fin.te7451905468542833597:Nat:=0
noncomputable def fin.te3105451386036433885:Nat:=0
noncomputable def fin.te15688172546075569117:Nat:=0
noncomputable def fin.te1613116972386908190:Nat:=0
noncomputable def fin.te9610726530385051774:Nat:=0
noncomputable def fin.te1819255440876223710:Nat:=0
noncomputable def fin.te12221555665107904926:Nat:=0
noncomputable def fin.te6968583824967984638:Nat:=0
noncomputable def fin.te4326780796455107134:Nat:=0
noncomputable def fin.te2051409578822353534:Nat:=0
noncomputable def fin.te3857263333814641470:Nat:=0
noncomputable def fin.te846297522682114974:Nat:=0
noncomputable def fin.te12237877928780879103:Nat:=0
noncomputable def fin.te17628183408451194143:Nat:=0
noncomputable def fin.te6707113841082798463:Nat:=0
noncomputable def fin.te4754365596532378047:Nat:=0
noncomputable def fin.te17784850919643140607:Nat:=0
noncomputable def fin.te16175276709679454751:Nat:=0
noncomputable def fin.te12829507556594621215:Nat:=0
noncomputable def fin.te3459265974087741279:Nat:=0
noncomputable def fin.te14497727239971306367:Nat:=0
noncomputable def fin.te16510490156224867327:Nat:=0
noncomputable def fin.tw9760957380697549666:PySem.Program:=PySem.Challenge.pw_jd0024_01
theorem fin.te9760957380697549666:PySem.Challenge.pw_jd0024_01=fin.tw9760957380697549666:=rfl
noncomputable def fin.tw3775652316193032991:Params→Frag:=kf
theorem fin.te3775652316193032991:kf=fin.tw3775652316193032991:=rfl
def cst (i:Nat):Stmt:=match PySem.Challenge.pw_jd0024_01.main.body[i]? with|some s=>s|none=> .Pass default
def pM:Program:={PySem.Challenge.pw_jd0024_01 with main:={PySem.Challenge.pw_jd0024_01.main with body:=[cst 0,cst 1,cst 2,cst 3,cst 4,cst 5,cst 6,cst 7,cst 8,cst 9,cst 10,cst 11,cst 12,cst 13,cst 14,cst 15,cst 16,cst 17,cst 18,cst 19,cst 20,cst 21,cst 22,cst 23,cst 24,cst 25,cst 26,cst 27,cst 28,cst 29,cst 30,cst 31,cst 32,cst 33,cst 34,cst 35,cst 36,cst 37,cst 38,cst 39,cst 40,cst 41,cst 42,cst 43,cst 44,cst 45,cst 46,cst 47,cst 48,cst 49,cst 50]}}
def rM:OpenLaw:={PySem.Challenge.rw_jd0024_01 with prog:=pM}
set_option maxHeartbeats 8000000 in
set_option Elab.async true in
theorem fin:rM.Holds:=by
 w_on;o_law
 o_head (kmHook kf [2,3,15,17,18,20,21,29,31,32,34,35,36,38,39,41,42,43,45,46,48,49,50,51,52,53,54,64,66,67,69,70,71,73,74,76,77,78,80,81,83,84,85,86,88,89,91,92,93,94,96,97,99,100,101,102,103,104,105,106,116,118,119,121,122,123,125,126,128,129,130,132,133,135,136,137,139,140,142,143,144,146,147,149,150,151,153,154,156,157,158,160,161,163,164,165,167,168,170,171,172,174,175,177,178,179,180,181,182,183,186,193,194,195,196,199,206,207,208,211,218,219,220,223,230,231,232,233,236,238,239,241,242,243,245,246,248,249,250,252,253,255,256,257,259,260,262,263,264,265,267,268,270,271,272,274,275,277,278,279,281,282,284,285,286,288,289,291,292,293,295,296,298,299,300,302,303,305,306,307,309,310,312,313,314,316,317,319,320,321,322,324,325,327,328,329,330,332,333,335,336,337,339,340,342,343,344,346,347,349,350,351,353,354,356,357,358,360,361,363,364,365,367,368,370,371,372,374,375,377,378,379,381,382,384,385,386,389,390,391,393,394,396,397,398,400,401,403,404,405,407,408,410,411,412,414,415,417,418,419,421,422,424,425,426,428,429,431,432] hK [273,287,166,427])
 (case hw=>w_witness2)
 refine fromV (V:=pV) (nm:=Str.ofString "law") ?e ?h walk
 (case e=>kernel_rfl)
 (case h=>kernel_rfl)
theorem fin0:PySem.Challenge.rw_jd0024_01.Holds:=fin
end Mine
theorem PySem.Challenge.cw_jd0024_01_holds : PySem.Challenge.rw_jd0024_01.Holds :=
  Mine.fin0
