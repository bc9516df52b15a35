import PyProof.Rows.All
import Wide.All
import OpenK.AllK
import Wide.FinOn
import KE.KxPercentT
import PyProof.ExcBaseAll.Exception
import OpenK.KTop
import Lean
import PySem.Challenge.RW_fc0053_01
set_option Elab.async false
section
set_option Elab.async false
set_option maxRecDepth 100000
set_option maxHeartbeats 8000000
set_option linter.unusedVariables false
namespace Mine
open PySem PySem.W PyProof.Rows
def nth {α : Type} : List α → Nat → Option α
  | [], _ => none
  | x :: _, 0 => some x
  | _ :: r, n + 1 => nth r n
def fnD : Option Stmt → Option (Arguments × List Stmt × Scope)
  | some (.FunctionDef _ a b _ _ _ s _ _ _) => some (a, b, s)
  | _ => none
def clsB : Option Stmt → List Stmt
  | some (.ClassDef _ _ _ b _ _ _ _ _ _ _) => b
  | _ => []
abbrev pb : List Stmt := PySem.Challenge.pw_fc0053_01.main.body
def T (_ : Option (Arguments × List Stmt × Scope)) : Type := Data
/-- a def's object: its parameters, body and scope stand in the row -/
abbrev mkT {p : Arguments} {b : List Stmt} {s : Scope} (name qual : Str) (g : Addr) (cl : List (Str × Addr)) (dV kV doc pm : Value) (an : Option Addr) (cd ct : Value) (bi : Addr) : T (some (p, b, s)) :=
  (Data.func ⟨name, qual, p, .stmts b, s, g, cl, dV, kV, doc, pm, an, cd, ct, bi⟩ : Data)
abbrev vN : Value := .none
noncomputable def o2 : Params → Obj := fun P => (PySem.Obj.mk vN none (.dict #[(PySem.DictEntry.mk (PySem.PyData.keyHash P "type.__subclasses__.OSError.0") (.str "type.__subclasses__.OSError.0" 720) (.int 238 0)),(PySem.DictEntry.mk (PySem.PyData.keyHash P "type.__subclasses__.OSError.n") (.str "type.__subclasses__.OSError.n" 721) (.int 1 0)),(PySem.DictEntry.mk (PySem.PyData.keyHash P "type.__subclasses__.Exception.0") (.str "type.__subclasses__.Exception.0" 1359) (.int 774 0)),(PySem.DictEntry.mk (PySem.PyData.keyHash P "type.__subclasses__.Exception.n") (.str "type.__subclasses__.Exception.n" 1360) (.int 1 0))] 4) #[])
noncomputable def o3 : Params → Obj := fun P => (PySem.Obj.mk (.type "dict") none (.dict #[(PySem.DictEntry.mk (PySem.PyData.keyHash P "__name__") (.str "__name__" 165) (.str "law_fc0053_01" 1658)),(PySem.DictEntry.mk (PySem.PyData.keyHash P "__doc__") (.str "__doc__" 166) vN),(PySem.DictEntry.mk (PySem.PyData.keyHash P "__package__") (.str "__package__" 167) vN),(PySem.DictEntry.mk (PySem.PyData.keyHash P "__loader__") (.str "__loader__" 168) (.builtin "__main__.__loader__#opaque")),(PySem.DictEntry.mk (PySem.PyData.keyHash P "__spec__") (.str "__spec__" 169) vN),(PySem.DictEntry.mk (PySem.PyData.keyHash P "__annotations__") (.str "__annotations__" 170) (.ref 6)),(PySem.DictEntry.mk (PySem.PyData.keyHash P "__builtins__") (.str "__builtins__" 171) (.ref 4)),(PySem.DictEntry.mk (PySem.PyData.keyHash P "__file__") (.str "__file__" 173) (.str "/claim/cut.py" 172)),(PySem.DictEntry.mk (PySem.PyData.keyHash P "__cached__") (.str "__cached__" 174) vN),(PySem.DictEntry.mk (PySem.PyData.keyHash P "_wall") (.str "_wall" 193) (.ref 21)),(PySem.DictEntry.mk (PySem.PyData.keyHash P "NETWORKS") (.str "NETWORKS" 382) (.ref 22)),(PySem.DictEntry.mk (PySem.PyData.keyHash P "hexlify") (.str "hexlify" 390) (.ref 31)),(PySem.DictEntry.mk (PySem.PyData.keyHash P "Sha256") (.str "Sha256" 436) (.ref 63)),(PySem.DictEntry.mk (PySem.PyData.keyHash P "hashlib") (.str "hashlib" 499) (.ref 98)),(PySem.DictEntry.mk (PySem.PyData.keyHash P "double_sha256") (.str "double_sha256" 508) (.ref 109)),(PySem.DictEntry.mk (PySem.PyData.keyHash P "B58_DIGITS") (.str "B58_DIGITS" 512) (.str "123456789ABCDEFGHJKLMNPQRSTUVWXYZabcdefghijkmnopqrstuvwxyz" 511)),(PySem.DictEntry.mk (PySem.PyData.keyHash P "encode") (.str "encode" 525) (.ref 207)),(PySem.DictEntry.mk (PySem.PyData.keyHash P "encode_base58") (.str "encode_base58" 526) (.ref 116)),(PySem.DictEntry.mk (PySem.PyData.keyHash P "decode") (.str "decode" 538) (.ref 200)),(PySem.DictEntry.mk (PySem.PyData.keyHash P "decode_base58") (.str "decode_base58" 539) (.ref 123)),(PySem.DictEntry.mk (PySem.PyData.keyHash P "encode_check") (.str "encode_check" 546) (.ref 130)),(PySem.DictEntry.mk (PySem.PyData.keyHash P "decode_check") (.str "decode_check" 555) (.ref 137)),(PySem.DictEntry.mk (PySem.PyData.keyHash P "CHARSET") (.str "CHARSET" 559) (.str "qpzry9x8gf2tvdw0s3jn54khce6mua7l" 558)),(PySem.DictEntry.mk (PySem.PyData.keyHash P "BECH32_CONST") (.str "BECH32_CONST" 561) (.int 1 560)),(PySem.DictEntry.mk (PySem.PyData.keyHash P "BECH32M_CONST") (.str "BECH32M_CONST" 563) (.int 734539939 562)),(PySem.DictEntry.mk (PySem.PyData.keyHash P "Encoding") (.str "Encoding" 587) (.ref 147)),(PySem.DictEntry.mk (PySem.PyData.keyHash P "bech32_polymod") (.str "bech32_polymod" 599) (.ref 158)),(PySem.DictEntry.mk (PySem.PyData.keyHash P "bech32_hrp_expand") (.str "bech32_hrp_expand" 605) (.ref 163)),(PySem.DictEntry.mk (PySem.PyData.keyHash P "bech32_verify_checksum") (.str "bech32_verify_checksum" 614) (.ref 170)),(PySem.DictEntry.mk (PySem.PyData.keyHash P "bech32_create_checksum") (.str "bech32_create_checksum" 620) (.ref 175)),(PySem.DictEntry.mk (PySem.PyData.keyHash P "bech32_encode") (.str "bech32_encode" 626) (.ref 180)),(PySem.DictEntry.mk (PySem.PyData.keyHash P "bech32_decode") (.str "bech32_decode" 632) (.ref 185)),(PySem.DictEntry.mk (PySem.PyData.keyHash P "convertbits") (.str "convertbits" 648) (.ref 193)),(PySem.DictEntry.mk (PySem.PyData.keyHash P "decode_bech32") (.str "decode_bech32" 661) (.ref 200)),(PySem.DictEntry.mk (PySem.PyData.keyHash P "encode_bech32") (.str "encode_bech32" 673) (.ref 207)),(PySem.DictEntry.mk (PySem.PyData.keyHash P "to_bytes") (.str "to_bytes" 683) (.ref 214)),(PySem.DictEntry.mk (PySem.PyData.keyHash P "_whence") (.str "_whence" 693) (.ref 221)),(PySem.DictEntry.mk (PySem.PyData.keyHash P "_index") (.str "_index" 701) (.ref 228)),(PySem.DictEntry.mk (PySem.PyData.keyHash P "UnsupportedOperation") (.str "UnsupportedOperation" 723) (.ref 238)),(PySem.DictEntry.mk (PySem.PyData.keyHash P "IOBase") (.str "IOBase" 755) (.ref 258)),(PySem.DictEntry.mk (PySem.PyData.keyHash P "BufferedIOBase") (.str "BufferedIOBase" 773) (.ref 273)),(PySem.DictEntry.mk (PySem.PyData.keyHash P "TextIOBase") (.str "TextIOBase" 791) (.ref 285)),(PySem.DictEntry.mk (PySem.PyData.keyHash P "BytesIO") (.str "BytesIO" 1053) (.ref 515)),(PySem.DictEntry.mk (PySem.PyData.keyHash P "StringIO") (.str "StringIO" 1340) (.ref 762)),(PySem.DictEntry.mk (PySem.PyData.keyHash P "EmbitError") (.str "EmbitError" 1362) (.ref 774)),(PySem.DictEntry.mk (PySem.PyData.keyHash P "EmbitBase") (.str "EmbitBase" 1508) (.ref 866)),(PySem.DictEntry.mk (PySem.PyData.keyHash P "Script") (.str "Script" 1645) (.ref 965)),(PySem.DictEntry.mk (PySem.PyData.keyHash P "address_to_scriptpubkey") (.str "address_to_scriptpubkey" 1657) (.ref 974)),(PySem.DictEntry.mk (PySem.PyData.keyHash P "_law_kind") (.str "_law_kind" 1666) (.ref 981)),(PySem.DictEntry.mk (PySem.PyData.keyHash P "_law_address") (.str "_law_address" 1675) (.ref 988)),(PySem.DictEntry.mk (PySem.PyData.keyHash P "_law_read") (.str "_law_read" 1685) (.ref 995)),(PySem.DictEntry.mk (PySem.PyData.keyHash P "_law_told") (.str "_law_told" 1693) (.ref 1002)),(PySem.DictEntry.mk (PySem.PyData.keyHash P "_law_asked") (.str "_law_asked" 1701) (.ref 1009)),(PySem.DictEntry.mk (PySem.PyData.keyHash P "_law_checked") (.str "_law_checked" 1708) (.ref 1016)),(PySem.DictEntry.mk (PySem.PyData.keyHash P "law") (.str "law" 1714) (.ref 1021))] 55) #[])
noncomputable def o15 : Params → Obj := fun P => (PySem.Obj.mk (.type "tuple") none (.seq #[] 0) #[])
noncomputable def o17 : Params → Obj := fun P => (PySem.Obj.mk (.type "tuple") none (.seq #[(.str "k" 190)] 0) #[])
noncomputable def o18 : Params → Obj := fun P => (PySem.Obj.mk (.type "tuple") none (.seq #[] 0) #[])
noncomputable def o20 : Params → Obj := fun P => (PySem.Obj.mk (.type "code") none (.fields #[(.str "_wall" 187),(.str "_wall" 188),(.str "/claim/cut.py" 189),(.int 1 0),(.int 1 0),(.int 0 0),(.int 0 0),(.int 3 0),(.ref 15),(.bool @Bool.true),(.int 181 0),(.ref 16),vN,(.ref 17),(.ref 18),(.ref 19),(.int 191 0),(.int 1 0),(.str "/claim/cut.py" 192)]) #[])
noncomputable def o21 : Params → Obj := fun P => (PySem.Obj.mk (.type "function") none (mkT "_wall" "_wall" 3 [] vN vN vN (.str "__main__" 164) none (.ref 20) vN 0 : T (fnD (nth pb 0))) #[])
noncomputable def o22 : Params → Obj := fun P => (PySem.Obj.mk (.type "dict") none (.dict #[(PySem.DictEntry.mk (PySem.PyData.keyHash P "main") (.str "main" 194) (.ref 23)),(PySem.DictEntry.mk (PySem.PyData.keyHash P "test") (.str "test" 240) (.ref 24)),(PySem.DictEntry.mk (PySem.PyData.keyHash P "regtest") (.str "regtest" 286) (.ref 25)),(PySem.DictEntry.mk (PySem.PyData.keyHash P "signet") (.str "signet" 332) (.ref 26))] 4) #[])
noncomputable def o23 : Params → Obj := fun P => (PySem.Obj.mk (.type "dict") none (.dict #[(PySem.DictEntry.mk (PySem.PyData.keyHash P "name") (.str "name" 195) (.str "Mainnet" 196)),(PySem.DictEntry.mk (PySem.PyData.keyHash P "wif") (.str "wif" 197) (.bytes #[128] 198)),(PySem.DictEntry.mk (PySem.PyData.keyHash P "p2pkh") (.str "p2pkh" 199) (.bytes #[0] 200)),(PySem.DictEntry.mk (PySem.PyData.keyHash P "p2sh") (.str "p2sh" 201) (.bytes #[5] 202)),(PySem.DictEntry.mk (PySem.PyData.keyHash P "bech32") (.str "bech32" 203) (.str "bc" 204)),(PySem.DictEntry.mk (PySem.PyData.keyHash P "xprv") (.str "xprv" 205) (.bytes #[4,136,173,228] 206)),(PySem.DictEntry.mk (PySem.PyData.keyHash P "xpub") (.str "xpub" 207) (.bytes #[4,136,178,30] 208)),(PySem.DictEntry.mk (PySem.PyData.keyHash P "yprv") (.str "yprv" 209) (.bytes #[4,157,120,120] 210)),(PySem.DictEntry.mk (PySem.PyData.keyHash P "zprv") (.str "zprv" 211) (.bytes #[4,178,67,12] 212)),(PySem.DictEntry.mk (PySem.PyData.keyHash P "Yprv") (.str "Yprv" 213) (.bytes #[2,149,176,5] 214)),(PySem.DictEntry.mk (PySem.PyData.keyHash P "Zprv") (.str "Zprv" 215) (.bytes #[2,170,122,153] 216)),(PySem.DictEntry.mk (PySem.PyData.keyHash P "ypub") (.str "ypub" 217) (.bytes #[4,157,124,178] 218)),(PySem.DictEntry.mk (PySem.PyData.keyHash P "zpub") (.str "zpub" 219) (.bytes #[4,178,71,70] 220)),(PySem.DictEntry.mk (PySem.PyData.keyHash P "Ypub") (.str "Ypub" 221) (.bytes #[2,149,180,63] 222)),(PySem.DictEntry.mk (PySem.PyData.keyHash P "Zpub") (.str "Zpub" 223) (.bytes #[2,170,126,211] 224))] 15) #[])
noncomputable def o24 : Params → Obj := fun P => (PySem.Obj.mk (.type "dict") none (.dict #[(PySem.DictEntry.mk (PySem.PyData.keyHash P "name") (.str "name" 241) (.str "Testnet" 242)),(PySem.DictEntry.mk (PySem.PyData.keyHash P "wif") (.str "wif" 243) (.bytes #[239] 244)),(PySem.DictEntry.mk (PySem.PyData.keyHash P "p2pkh") (.str "p2pkh" 245) (.bytes #[111] 246)),(PySem.DictEntry.mk (PySem.PyData.keyHash P "p2sh") (.str "p2sh" 247) (.bytes #[196] 248)),(PySem.DictEntry.mk (PySem.PyData.keyHash P "bech32") (.str "bech32" 249) (.str "tb" 250)),(PySem.DictEntry.mk (PySem.PyData.keyHash P "xprv") (.str "xprv" 251) (.bytes #[4,53,131,148] 252)),(PySem.DictEntry.mk (PySem.PyData.keyHash P "xpub") (.str "xpub" 253) (.bytes #[4,53,135,207] 254)),(PySem.DictEntry.mk (PySem.PyData.keyHash P "yprv") (.str "yprv" 255) (.bytes #[4,74,78,40] 256)),(PySem.DictEntry.mk (PySem.PyData.keyHash P "zprv") (.str "zprv" 257) (.bytes #[4,95,24,188] 258)),(PySem.DictEntry.mk (PySem.PyData.keyHash P "Yprv") (.str "Yprv" 259) (.bytes #[2,66,133,181] 260)),(PySem.DictEntry.mk (PySem.PyData.keyHash P "Zprv") (.str "Zprv" 261) (.bytes #[2,87,80,72] 262)),(PySem.DictEntry.mk (PySem.PyData.keyHash P "ypub") (.str "ypub" 263) (.bytes #[4,74,82,98] 264)),(PySem.DictEntry.mk (PySem.PyData.keyHash P "zpub") (.str "zpub" 265) (.bytes #[4,95,28,246] 266)),(PySem.DictEntry.mk (PySem.PyData.keyHash P "Ypub") (.str "Ypub" 267) (.bytes #[2,66,137,239] 268)),(PySem.DictEntry.mk (PySem.PyData.keyHash P "Zpub") (.str "Zpub" 269) (.bytes #[2,87,84,131] 270))] 15) #[])
noncomputable def o25 : Params → Obj := fun P => (PySem.Obj.mk (.type "dict") none (.dict #[(PySem.DictEntry.mk (PySem.PyData.keyHash P "name") (.str "name" 287) (.str "Regtest" 288)),(PySem.DictEntry.mk (PySem.PyData.keyHash P "wif") (.str "wif" 289) (.bytes #[239] 290)),(PySem.DictEntry.mk (PySem.PyData.keyHash P "p2pkh") (.str "p2pkh" 291) (.bytes #[111] 292)),(PySem.DictEntry.mk (PySem.PyData.keyHash P "p2sh") (.str "p2sh" 293) (.bytes #[196] 294)),(PySem.DictEntry.mk (PySem.PyData.keyHash P "bech32") (.str "bech32" 295) (.str "bcrt" 296)),(PySem.DictEntry.mk (PySem.PyData.keyHash P "xprv") (.str "xprv" 297) (.bytes #[4,53,131,148] 298)),(PySem.DictEntry.mk (PySem.PyData.keyHash P "xpub") (.str "xpub" 299) (.bytes #[4,53,135,207] 300)),(PySem.DictEntry.mk (PySem.PyData.keyHash P "yprv") (.str "yprv" 301) (.bytes #[4,74,78,40] 302)),(PySem.DictEntry.mk (PySem.PyData.keyHash P "zprv") (.str "zprv" 303) (.bytes #[4,95,24,188] 304)),(PySem.DictEntry.mk (PySem.PyData.keyHash P "Yprv") (.str "Yprv" 305) (.bytes #[2,66,133,181] 306)),(PySem.DictEntry.mk (PySem.PyData.keyHash P "Zprv") (.str "Zprv" 307) (.bytes #[2,87,80,72] 308)),(PySem.DictEntry.mk (PySem.PyData.keyHash P "ypub") (.str "ypub" 309) (.bytes #[4,74,82,98] 310)),(PySem.DictEntry.mk (PySem.PyData.keyHash P "zpub") (.str "zpub" 311) (.bytes #[4,95,28,246] 312)),(PySem.DictEntry.mk (PySem.PyData.keyHash P "Ypub") (.str "Ypub" 313) (.bytes #[2,66,137,239] 314)),(PySem.DictEntry.mk (PySem.PyData.keyHash P "Zpub") (.str "Zpub" 315) (.bytes #[2,87,84,131] 316))] 15) #[])
noncomputable def o26 : Params → Obj := fun P => (PySem.Obj.mk (.type "dict") none (.dict #[(PySem.DictEntry.mk (PySem.PyData.keyHash P "name") (.str "name" 333) (.str "Signet" 334)),(PySem.DictEntry.mk (PySem.PyData.keyHash P "wif") (.str "wif" 335) (.bytes #[239] 336)),(PySem.DictEntry.mk (PySem.PyData.keyHash P "p2pkh") (.str "p2pkh" 337) (.bytes #[111] 338)),(PySem.DictEntry.mk (PySem.PyData.keyHash P "p2sh") (.str "p2sh" 339) (.bytes #[196] 340)),(PySem.DictEntry.mk (PySem.PyData.keyHash P "bech32") (.str "bech32" 341) (.str "tb" 342)),(PySem.DictEntry.mk (PySem.PyData.keyHash P "xprv") (.str "xprv" 343) (.bytes #[4,53,131,148] 344)),(PySem.DictEntry.mk (PySem.PyData.keyHash P "xpub") (.str "xpub" 345) (.bytes #[4,53,135,207] 346)),(PySem.DictEntry.mk (PySem.PyData.keyHash P "yprv") (.str "yprv" 347) (.bytes #[4,74,78,40] 348)),(PySem.DictEntry.mk (PySem.PyData.keyHash P "zprv") (.str "zprv" 349) (.bytes #[4,95,24,188] 350)),(PySem.DictEntry.mk (PySem.PyData.keyHash P "Yprv") (.str "Yprv" 351) (.bytes #[2,66,133,181] 352)),(PySem.DictEntry.mk (PySem.PyData.keyHash P "Zprv") (.str "Zprv" 353) (.bytes #[2,87,80,72] 354)),(PySem.DictEntry.mk (PySem.PyData.keyHash P "ypub") (.str "ypub" 355) (.bytes #[4,74,82,98] 356)),(PySem.DictEntry.mk (PySem.PyData.keyHash P "zpub") (.str "zpub" 357) (.bytes #[4,95,28,246] 358)),(PySem.DictEntry.mk (PySem.PyData.keyHash P "Ypub") (.str "Ypub" 359) (.bytes #[2,66,137,239] 360)),(PySem.DictEntry.mk (PySem.PyData.keyHash P "Zpub") (.str "Zpub" 361) (.bytes #[2,87,84,131] 362))] 15) #[])
noncomputable def o27 : Params → Obj := fun P => (PySem.Obj.mk (.type "tuple") none (.seq #[] 0) #[])
noncomputable def o30 : Params → Obj := fun P => (PySem.Obj.mk (.type "code") none (.fields #[(.str "hexlify" 385),(.str "hexlify" 386),(.str "/claim/cut.py" 387),(.int 6 0),(.int 1 0),(.int 0 0),(.int 0 0),(.int 3 0),(.ref 27),(.bool @Bool.true),(.int 181 0),(.ref 28),vN,vN,vN,(.ref 29),(.int 388 0),(.int 6 0),(.str "/claim/cut.py" 389)]) #[])
noncomputable def o31 : Params → Obj := fun P => (PySem.Obj.mk (.type "function") none (mkT "hexlify" "hexlify" 3 [] vN vN vN (.str "embit.misc" 383) none (.ref 30) vN 0 : T (fnD (nth pb 3))) #[])
noncomputable def o39 : Params → Obj := fun P => (PySem.Obj.mk (.type "tuple") none (.seq #[(.bytes #[] 403)] 0) #[])
noncomputable def o40 : Params → Obj := fun P => (PySem.Obj.mk (.type "tuple") none (.seq #[] 0) #[])
noncomputable def o42 : Params → Obj := fun P => (PySem.Obj.mk (.type "tuple") none (.seq #[(.str "self" 407),(.str "data" 408)] 0) #[])
noncomputable def o43 : Params → Obj := fun P => (PySem.Obj.mk (.type "tuple") none (.seq #[] 0) #[])
noncomputable def o45 : Params → Obj := fun P => (PySem.Obj.mk (.type "code") none (.fields #[(.str "__init__" 404),(.str "Sha256.__init__" 405),(.str "/claim/cut.py" 406),(.int 11 0),(.int 2 0),(.int 0 0),(.int 0 0),(.int 3 0),(.ref 40),(.bool @Bool.true),(.int 181 0),(.ref 41),vN,(.ref 42),(.ref 43),(.ref 44),(.int 409 0),(.int 11 0),(.str "/claim/cut.py" 410)]) #[])
noncomputable def o46 : Params → Obj := fun P => (PySem.Obj.mk (.type "function") none (mkT "__init__" "Sha256.__init__" 3 [] (.ref 39) vN vN (.str "embit.misc" 383) none (.ref 45) vN 0 : T (fnD (nth (clsB (nth pb 4)) 0))) #[])
noncomputable def o47 : Params → Obj := fun P => (PySem.Obj.mk (.type "tuple") none (.seq #[] 0) #[])
noncomputable def o49 : Params → Obj := fun P => (PySem.Obj.mk (.type "tuple") none (.seq #[(.str "self" 415),(.str "data" 416)] 0) #[])
noncomputable def o50 : Params → Obj := fun P => (PySem.Obj.mk (.type "tuple") none (.seq #[] 0) #[])
noncomputable def o52 : Params → Obj := fun P => (PySem.Obj.mk (.type "code") none (.fields #[(.str "update" 412),(.str "Sha256.update" 413),(.str "/claim/cut.py" 414),(.int 14 0),(.int 2 0),(.int 0 0),(.int 0 0),(.int 3 0),(.ref 47),(.bool @Bool.true),(.int 181 0),(.ref 48),vN,(.ref 49),(.ref 50),(.ref 51),(.int 417 0),(.int 14 0),(.str "/claim/cut.py" 418)]) #[])
noncomputable def o53 : Params → Obj := fun P => (PySem.Obj.mk (.type "function") none (mkT "update" "Sha256.update" 3 [] vN vN vN (.str "embit.misc" 383) none (.ref 52) vN 0 : T (fnD (nth (clsB (nth pb 4)) 1))) #[])
noncomputable def o54 : Params → Obj := fun P => (PySem.Obj.mk (.type "tuple") none (.seq #[] 0) #[])
noncomputable def o56 : Params → Obj := fun P => (PySem.Obj.mk (.type "tuple") none (.seq #[(.str "self" 423),(.str "number" 424)] 0) #[])
noncomputable def o57 : Params → Obj := fun P => (PySem.Obj.mk (.type "tuple") none (.seq #[] 0) #[])
noncomputable def o59 : Params → Obj := fun P => (PySem.Obj.mk (.type "code") none (.fields #[(.str "digest" 420),(.str "Sha256.digest" 421),(.str "/claim/cut.py" 422),(.int 17 0),(.int 1 0),(.int 0 0),(.int 0 0),(.int 3 0),(.ref 54),(.bool @Bool.true),(.int 181 0),(.ref 55),vN,(.ref 56),(.ref 57),(.ref 58),(.int 425 0),(.int 17 0),(.str "/claim/cut.py" 426)]) #[])
noncomputable def o60 : Params → Obj := fun P => (PySem.Obj.mk (.type "function") none (mkT "digest" "Sha256.digest" 3 [] vN vN vN (.str "embit.misc" 383) none (.ref 59) vN 0 : T (fnD (nth (clsB (nth pb 4)) 2))) #[])
noncomputable def o61 : Params → Obj := fun P => (PySem.Obj.mk (.type "tuple") none (.seq #[(.str "data" 428)] 0) #[])
noncomputable def o62 : Params → Obj := fun P => (PySem.Obj.mk (.type "dict") none (.dict #[(PySem.DictEntry.mk (PySem.PyData.keyHash P "__module__") (.str "__module__" 398) (.str "embit.misc" 383)),(PySem.DictEntry.mk (PySem.PyData.keyHash P "__firstlineno__") (.str "__firstlineno__" 402) (.int 9 401)),(PySem.DictEntry.mk (PySem.PyData.keyHash P "__init__") (.str "__init__" 411) (.ref 46)),(PySem.DictEntry.mk (PySem.PyData.keyHash P "update") (.str "update" 419) (.ref 53)),(PySem.DictEntry.mk (PySem.PyData.keyHash P "digest") (.str "digest" 427) (.ref 60)),(PySem.DictEntry.mk (PySem.PyData.keyHash P "__static_attributes__") (.str "__static_attributes__" 429) (.ref 61)),(PySem.DictEntry.mk (PySem.PyData.keyHash P "__dict__") (.str "__dict__" 431) (.ref 64)),(PySem.DictEntry.mk (PySem.PyData.keyHash P "__weakref__") (.str "__weakref__" 433) (.ref 65)),(PySem.DictEntry.mk (PySem.PyData.keyHash P "__doc__") (.str "__doc__" 434) vN)] 4) #[])
noncomputable def o63 : Params → Obj := fun P => (PySem.Obj.mk (.type "type") none (.cls (PySem.ClassData.mk "Sha256" [(.type "object")] [(.ref 63),(.type "object")] 62 "Sha256" @Bool.true [] [] @Bool.false none @Bool.false)) #[none,none,(Option.some (.str "Sha256" 391)),(Option.some (.str "Sha256" 399)),(Option.some (.builtin "object.__new__")),(Option.some (.bool @Bool.true))])
noncomputable def o64 : Params → Obj := fun P => (PySem.Obj.mk (.type "getset_descriptor") none (.fields #[(.str "__dict__" 430),(.ref 63),(.builtin "function.__dict__"),(.builtin "function.__dict__#set")]) #[])
noncomputable def o65 : Params → Obj := fun P => (PySem.Obj.mk (.type "getset_descriptor") none (.fields #[(.str "__weakref__" 432),(.ref 63),(.builtin "ExceptionGroup.__weakref__"),vN]) #[])
noncomputable def o75 : Params → Obj := fun P => (PySem.Obj.mk (.type "tuple") none (.seq #[(.bytes #[] 449)] 0) #[])
noncomputable def o76 : Params → Obj := fun P => (PySem.Obj.mk (.type "tuple") none (.seq #[] 0) #[])
noncomputable def o78 : Params → Obj := fun P => (PySem.Obj.mk (.type "tuple") none (.seq #[(.str "data" 453)] 0) #[])
noncomputable def o79 : Params → Obj := fun P => (PySem.Obj.mk (.type "tuple") none (.seq #[] 0) #[])
noncomputable def o81 : Params → Obj := fun P => (PySem.Obj.mk (.type "code") none (.fields #[(.str "sha256" 450),(.str "hashlib.sha256" 451),(.str "/claim/cut.py" 452),(.int 22 0),(.int 1 0),(.int 0 0),(.int 0 0),(.int 3 0),(.ref 76),(.bool @Bool.true),(.int 181 0),(.ref 77),vN,(.ref 78),(.ref 79),(.ref 80),(.int 454 0),(.int 22 0),(.str "/claim/cut.py" 455)]) #[])
noncomputable def o82 : Params → Obj := fun P => (PySem.Obj.mk (.type "function") none (mkT "sha256" "hashlib.sha256" 3 [] (.ref 75) vN vN (.str "embit.misc" 383) (Option.some 85) (.ref 81) vN 0 : T (fnD (nth (clsB (nth pb 5)) 0))) #[])
noncomputable def o83 : Params → Obj := fun P => (PySem.Obj.mk (.type "dict") none (.dict #[(PySem.DictEntry.mk (PySem.PyData.keyHash P "__module__") (.str "__module__" 457) (.str "embit.misc" 383)),(PySem.DictEntry.mk (PySem.PyData.keyHash P "__name__") (.str "__name__" 460) (.str "sha256" 459)),(PySem.DictEntry.mk (PySem.PyData.keyHash P "__qualname__") (.str "__qualname__" 463) (.str "hashlib.sha256" 462)),(PySem.DictEntry.mk (PySem.PyData.keyHash P "__doc__") (.str "__doc__" 465) vN),(PySem.DictEntry.mk (PySem.PyData.keyHash P "__annotations__") (.str "__annotations__" 467) (.ref 85))] 5) #[])
noncomputable def o84 : Params → Obj := fun P => (PySem.Obj.mk (.type "staticmethod") (Option.some 83) (.fields #[(.ref 82),(.bool @Bool.false)]) #[])
noncomputable def o85 : Params → Obj := fun P => (PySem.Obj.mk (.type "dict") none (.dict #[] 0) #[])
noncomputable def o86 : Params → Obj := fun P => (PySem.Obj.mk (.type "tuple") none (.seq #[] 0) #[])
noncomputable def o88 : Params → Obj := fun P => (PySem.Obj.mk (.type "tuple") none (.seq #[(.str "name" 472),(.str "password" 473),(.str "salt" 474),(.str "rounds" 475),(.str "length" 476)] 0) #[])
noncomputable def o89 : Params → Obj := fun P => (PySem.Obj.mk (.type "tuple") none (.seq #[] 0) #[])
noncomputable def o91 : Params → Obj := fun P => (PySem.Obj.mk (.type "code") none (.fields #[(.str "pbkdf2_hmac" 469),(.str "hashlib.pbkdf2_hmac" 470),(.str "/claim/cut.py" 471),(.int 26 0),(.int 5 0),(.int 0 0),(.int 0 0),(.int 3 0),(.ref 86),(.bool @Bool.true),(.int 181 0),(.ref 87),vN,(.ref 88),(.ref 89),(.ref 90),(.int 477 0),(.int 26 0),(.str "/claim/cut.py" 478)]) #[])
noncomputable def o92 : Params → Obj := fun P => (PySem.Obj.mk (.type "function") none (mkT "pbkdf2_hmac" "hashlib.pbkdf2_hmac" 3 [] vN vN vN (.str "embit.misc" 383) (Option.some 95) (.ref 91) vN 0 : T (fnD (nth (clsB (nth pb 5)) 1))) #[])
noncomputable def o93 : Params → Obj := fun P => (PySem.Obj.mk (.type "dict") none (.dict #[(PySem.DictEntry.mk (PySem.PyData.keyHash P "__module__") (.str "__module__" 480) (.str "embit.misc" 383)),(PySem.DictEntry.mk (PySem.PyData.keyHash P "__name__") (.str "__name__" 483) (.str "pbkdf2_hmac" 482)),(PySem.DictEntry.mk (PySem.PyData.keyHash P "__qualname__") (.str "__qualname__" 486) (.str "hashlib.pbkdf2_hmac" 485)),(PySem.DictEntry.mk (PySem.PyData.keyHash P "__doc__") (.str "__doc__" 488) vN),(PySem.DictEntry.mk (PySem.PyData.keyHash P "__annotations__") (.str "__annotations__" 490) (.ref 95))] 5) #[])
noncomputable def o94 : Params → Obj := fun P => (PySem.Obj.mk (.type "staticmethod") (Option.some 93) (.fields #[(.ref 92),(.bool @Bool.false)]) #[])
noncomputable def o95 : Params → Obj := fun P => (PySem.Obj.mk (.type "dict") none (.dict #[] 0) #[])
noncomputable def o96 : Params → Obj := fun P => (PySem.Obj.mk (.type "tuple") none (.seq #[] 0) #[])
noncomputable def o97 : Params → Obj := fun P => (PySem.Obj.mk (.type "dict") none (.dict #[(PySem.DictEntry.mk (PySem.PyData.keyHash P "__module__") (.str "__module__" 444) (.str "embit.misc" 383)),(PySem.DictEntry.mk (PySem.PyData.keyHash P "__firstlineno__") (.str "__firstlineno__" 448) (.int 20 447)),(PySem.DictEntry.mk (PySem.PyData.keyHash P "sha256") (.str "sha256" 468) (.ref 84)),(PySem.DictEntry.mk (PySem.PyData.keyHash P "pbkdf2_hmac") (.str "pbkdf2_hmac" 491) (.ref 94)),(PySem.DictEntry.mk (PySem.PyData.keyHash P "__static_attributes__") (.str "__static_attributes__" 492) (.ref 96)),(PySem.DictEntry.mk (PySem.PyData.keyHash P "__dict__") (.str "__dict__" 494) (.ref 99)),(PySem.DictEntry.mk (PySem.PyData.keyHash P "__weakref__") (.str "__weakref__" 496) (.ref 100)),(PySem.DictEntry.mk (PySem.PyData.keyHash P "__doc__") (.str "__doc__" 497) vN)] 4) #[])
noncomputable def o98 : Params → Obj := fun P => (PySem.Obj.mk (.type "type") none (.cls (PySem.ClassData.mk "hashlib" [(.type "object")] [(.ref 98),(.type "object")] 97 "hashlib" @Bool.true [] [] @Bool.false none @Bool.false)) #[none,none,(Option.some (.str "hashlib" 437)),(Option.some (.str "hashlib" 445)),(Option.some (.builtin "object.__new__")),(Option.some (.bool @Bool.true))])
noncomputable def o99 : Params → Obj := fun P => (PySem.Obj.mk (.type "getset_descriptor") none (.fields #[(.str "__dict__" 493),(.ref 98),(.builtin "function.__dict__"),(.builtin "function.__dict__#set")]) #[])
noncomputable def o100 : Params → Obj := fun P => (PySem.Obj.mk (.type "getset_descriptor") none (.fields #[(.str "__weakref__" 495),(.ref 98),(.builtin "ExceptionGroup.__weakref__"),vN]) #[])
noncomputable def o103 : Params → Obj := fun P => (PySem.Obj.mk (.type "tuple") none (.seq #[] 0) #[])
noncomputable def o105 : Params → Obj := fun P => (PySem.Obj.mk (.type "tuple") none (.seq #[(.str "msg" 505)] 0) #[])
noncomputable def o106 : Params → Obj := fun P => (PySem.Obj.mk (.type "tuple") none (.seq #[] 0) #[])
noncomputable def o108 : Params → Obj := fun P => (PySem.Obj.mk (.type "code") none (.fields #[(.str "double_sha256" 502),(.str "double_sha256" 503),(.str "/claim/cut.py" 504),(.int 30 0),(.int 1 0),(.int 0 0),(.int 0 0),(.int 3 0),(.ref 103),(.bool @Bool.true),(.int 181 0),(.ref 104),vN,(.ref 105),(.ref 106),(.ref 107),(.int 506 0),(.int 30 0),(.str "/claim/cut.py" 507)]) #[])
noncomputable def o109 : Params → Obj := fun P => (PySem.Obj.mk (.type "function") none (mkT "double_sha256" "double_sha256" 3 [] vN vN vN (.str "embit.hashes" 500) none (.ref 108) vN 0 : T (fnD (nth pb 7))) #[])
noncomputable def o110 : Params → Obj := fun P => (PySem.Obj.mk (.type "tuple") none (.seq #[] 0) #[])
noncomputable def o112 : Params → Obj := fun P => (PySem.Obj.mk (.type "tuple") none (.seq #[(.str "b" 516),(.str "n" 517),(.str "chars" 518),(.str "r" 519),(.str "result" 520),(.str "pad" 521),(.str "c" 522)] 0) #[])
noncomputable def o113 : Params → Obj := fun P => (PySem.Obj.mk (.type "tuple") none (.seq #[] 0) #[])
noncomputable def o115 : Params → Obj := fun P => (PySem.Obj.mk (.type "code") none (.fields #[(.str "encode" 513),(.str "encode" 514),(.str "/claim/cut.py" 515),(.int 34 0),(.int 1 0),(.int 0 0),(.int 0 0),(.int 3 0),(.ref 110),(.bool @Bool.true),(.int 181 0),(.ref 111),vN,(.ref 112),(.ref 113),(.ref 114),(.int 523 0),(.int 34 0),(.str "/claim/cut.py" 524)]) #[])
noncomputable def o116 : Params → Obj := fun P => (PySem.Obj.mk (.type "function") none (mkT "encode" "encode" 3 [] vN vN vN (.str "embit.base58" 509) none (.ref 115) vN 0 : T (fnD (nth pb 10))) #[])
noncomputable def o117 : Params → Obj := fun P => (PySem.Obj.mk (.type "tuple") none (.seq #[] 0) #[])
noncomputable def o119 : Params → Obj := fun P => (PySem.Obj.mk (.type "tuple") none (.seq #[(.str "s" 530),(.str "n" 531),(.str "c" 532),(.str "digit" 533),(.str "res" 534),(.str "pad" 535)] 0) #[])
noncomputable def o120 : Params → Obj := fun P => (PySem.Obj.mk (.type "tuple") none (.seq #[] 0) #[])
noncomputable def o122 : Params → Obj := fun P => (PySem.Obj.mk (.type "code") none (.fields #[(.str "decode" 527),(.str "decode" 528),(.str "/claim/cut.py" 529),(.int 49 0),(.int 1 0),(.int 0 0),(.int 0 0),(.int 3 0),(.ref 117),(.bool @Bool.true),(.int 181 0),(.ref 118),vN,(.ref 119),(.ref 120),(.ref 121),(.int 536 0),(.int 49 0),(.str "/claim/cut.py" 537)]) #[])
noncomputable def o123 : Params → Obj := fun P => (PySem.Obj.mk (.type "function") none (mkT "decode" "decode" 3 [] vN vN vN (.str "embit.base58" 509) none (.ref 122) vN 0 : T (fnD (nth pb 12))) #[])
noncomputable def o124 : Params → Obj := fun P => (PySem.Obj.mk (.type "tuple") none (.seq #[] 0) #[])
noncomputable def o126 : Params → Obj := fun P => (PySem.Obj.mk (.type "tuple") none (.seq #[(.str "b" 543)] 0) #[])
noncomputable def o127 : Params → Obj := fun P => (PySem.Obj.mk (.type "tuple") none (.seq #[] 0) #[])
noncomputable def o129 : Params → Obj := fun P => (PySem.Obj.mk (.type "code") none (.fields #[(.str "encode_check" 540),(.str "encode_check" 541),(.str "/claim/cut.py" 542),(.int 68 0),(.int 1 0),(.int 0 0),(.int 0 0),(.int 3 0),(.ref 124),(.bool @Bool.true),(.int 181 0),(.ref 125),vN,(.ref 126),(.ref 127),(.ref 128),(.int 544 0),(.int 68 0),(.str "/claim/cut.py" 545)]) #[])
noncomputable def o130 : Params → Obj := fun P => (PySem.Obj.mk (.type "function") none (mkT "encode_check" "encode_check" 3 [] vN vN vN (.str "embit.base58" 509) none (.ref 129) vN 0 : T (fnD (nth pb 14))) #[])
noncomputable def o131 : Params → Obj := fun P => (PySem.Obj.mk (.type "tuple") none (.seq #[] 0) #[])
noncomputable def o133 : Params → Obj := fun P => (PySem.Obj.mk (.type "tuple") none (.seq #[(.str "s" 550),(.str "b" 551),(.str "checksum" 552)] 0) #[])
noncomputable def o134 : Params → Obj := fun P => (PySem.Obj.mk (.type "tuple") none (.seq #[] 0) #[])
noncomputable def o136 : Params → Obj := fun P => (PySem.Obj.mk (.type "code") none (.fields #[(.str "decode_check" 547),(.str "decode_check" 548),(.str "/claim/cut.py" 549),(.int 70 0),(.int 1 0),(.int 0 0),(.int 0 0),(.int 3 0),(.ref 131),(.bool @Bool.true),(.int 181 0),(.ref 132),vN,(.ref 133),(.ref 134),(.ref 135),(.int 553 0),(.int 70 0),(.str "/claim/cut.py" 554)]) #[])
noncomputable def o137 : Params → Obj := fun P => (PySem.Obj.mk (.type "function") none (mkT "decode_check" "decode_check" 3 [] vN vN vN (.str "embit.base58" 509) none (.ref 136) vN 0 : T (fnD (nth pb 15))) #[])
noncomputable def o145 : Params → Obj := fun P => (PySem.Obj.mk (.type "tuple") none (.seq #[] 0) #[])
noncomputable def o146 : Params → Obj := fun P => (PySem.Obj.mk (.type "dict") none (.dict #[(PySem.DictEntry.mk (PySem.PyData.keyHash P "__module__") (.str "__module__" 571) (.str "embit.bech32" 556)),(PySem.DictEntry.mk (PySem.PyData.keyHash P "__firstlineno__") (.str "__firstlineno__" 575) (.int 80 574)),(PySem.DictEntry.mk (PySem.PyData.keyHash P "BECH32") (.str "BECH32" 577) (.int 1 576)),(PySem.DictEntry.mk (PySem.PyData.keyHash P "BECH32M") (.str "BECH32M" 579) (.int 2 578)),(PySem.DictEntry.mk (PySem.PyData.keyHash P "__static_attributes__") (.str "__static_attributes__" 580) (.ref 145)),(PySem.DictEntry.mk (PySem.PyData.keyHash P "__dict__") (.str "__dict__" 582) (.ref 148)),(PySem.DictEntry.mk (PySem.PyData.keyHash P "__weakref__") (.str "__weakref__" 584) (.ref 149)),(PySem.DictEntry.mk (PySem.PyData.keyHash P "__doc__") (.str "__doc__" 585) vN)] 4) #[])
noncomputable def o147 : Params → Obj := fun P => (PySem.Obj.mk (.type "type") none (.cls (PySem.ClassData.mk "Encoding" [(.type "object")] [(.ref 147),(.type "object")] 146 "Encoding" @Bool.true [] [] @Bool.false none @Bool.false)) #[none,none,(Option.some (.str "Encoding" 564)),(Option.some (.str "Encoding" 572)),(Option.some (.builtin "object.__new__")),(Option.some (.bool @Bool.true))])
noncomputable def o148 : Params → Obj := fun P => (PySem.Obj.mk (.type "getset_descriptor") none (.fields #[(.str "__dict__" 581),(.ref 147),(.builtin "function.__dict__"),(.builtin "function.__dict__#set")]) #[])
noncomputable def o149 : Params → Obj := fun P => (PySem.Obj.mk (.type "getset_descriptor") none (.fields #[(.str "__weakref__" 583),(.ref 147),(.builtin "ExceptionGroup.__weakref__"),vN]) #[])
noncomputable def o152 : Params → Obj := fun P => (PySem.Obj.mk (.type "tuple") none (.seq #[] 0) #[])
noncomputable def o154 : Params → Obj := fun P => (PySem.Obj.mk (.type "tuple") none (.seq #[(.str "values" 591),(.str "generator" 592),(.str "chk" 593),(.str "value" 594),(.str "top" 595),(.str "i" 596)] 0) #[])
noncomputable def o155 : Params → Obj := fun P => (PySem.Obj.mk (.type "tuple") none (.seq #[] 0) #[])
noncomputable def o157 : Params → Obj := fun P => (PySem.Obj.mk (.type "code") none (.fields #[(.str "bech32_polymod" 588),(.str "bech32_polymod" 589),(.str "/claim/cut.py" 590),(.int 83 0),(.int 1 0),(.int 0 0),(.int 0 0),(.int 3 0),(.ref 152),(.bool @Bool.true),(.int 181 0),(.ref 153),vN,(.ref 154),(.ref 155),(.ref 156),(.int 597 0),(.int 83 0),(.str "/claim/cut.py" 598)]) #[])
noncomputable def o158 : Params → Obj := fun P => (PySem.Obj.mk (.type "function") none (mkT "bech32_polymod" "bech32_polymod" 3 [] vN vN vN (.str "embit.bech32" 556) none (.ref 157) vN 0 : T (fnD (nth pb 21))) #[])
noncomputable def o159 : Params → Obj := fun P => (PySem.Obj.mk (.type "tuple") none (.seq #[] 0) #[])
noncomputable def o162 : Params → Obj := fun P => (PySem.Obj.mk (.type "code") none (.fields #[(.str "bech32_hrp_expand" 600),(.str "bech32_hrp_expand" 601),(.str "/claim/cut.py" 602),(.int 92 0),(.int 1 0),(.int 0 0),(.int 0 0),(.int 3 0),(.ref 159),(.bool @Bool.true),(.int 181 0),(.ref 160),vN,vN,vN,(.ref 161),(.int 603 0),(.int 92 0),(.str "/claim/cut.py" 604)]) #[])
noncomputable def o163 : Params → Obj := fun P => (PySem.Obj.mk (.type "function") none (mkT "bech32_hrp_expand" "bech32_hrp_expand" 3 [] vN vN vN (.str "embit.bech32" 556) none (.ref 162) vN 0 : T (fnD (nth pb 22))) #[])
noncomputable def o164 : Params → Obj := fun P => (PySem.Obj.mk (.type "tuple") none (.seq #[] 0) #[])
noncomputable def o166 : Params → Obj := fun P => (PySem.Obj.mk (.type "tuple") none (.seq #[(.str "hrp" 609),(.str "data" 610),(.str "check" 611)] 0) #[])
noncomputable def o167 : Params → Obj := fun P => (PySem.Obj.mk (.type "tuple") none (.seq #[] 0) #[])
noncomputable def o169 : Params → Obj := fun P => (PySem.Obj.mk (.type "code") none (.fields #[(.str "bech32_verify_checksum" 606),(.str "bech32_verify_checksum" 607),(.str "/claim/cut.py" 608),(.int 94 0),(.int 2 0),(.int 0 0),(.int 0 0),(.int 3 0),(.ref 164),(.bool @Bool.true),(.int 181 0),(.ref 165),vN,(.ref 166),(.ref 167),(.ref 168),(.int 612 0),(.int 94 0),(.str "/claim/cut.py" 613)]) #[])
noncomputable def o170 : Params → Obj := fun P => (PySem.Obj.mk (.type "function") none (mkT "bech32_verify_checksum" "bech32_verify_checksum" 3 [] vN vN vN (.str "embit.bech32" 556) none (.ref 169) vN 0 : T (fnD (nth pb 23))) #[])
noncomputable def o171 : Params → Obj := fun P => (PySem.Obj.mk (.type "tuple") none (.seq #[] 0) #[])
noncomputable def o174 : Params → Obj := fun P => (PySem.Obj.mk (.type "code") none (.fields #[(.str "bech32_create_checksum" 615),(.str "bech32_create_checksum" 616),(.str "/claim/cut.py" 617),(.int 102 0),(.int 3 0),(.int 0 0),(.int 0 0),(.int 3 0),(.ref 171),(.bool @Bool.true),(.int 181 0),(.ref 172),vN,vN,vN,(.ref 173),(.int 618 0),(.int 102 0),(.str "/claim/cut.py" 619)]) #[])
noncomputable def o175 : Params → Obj := fun P => (PySem.Obj.mk (.type "function") none (mkT "bech32_create_checksum" "bech32_create_checksum" 3 [] vN vN vN (.str "embit.bech32" 556) none (.ref 174) vN 0 : T (fnD (nth pb 24))) #[])
noncomputable def o176 : Params → Obj := fun P => (PySem.Obj.mk (.type "tuple") none (.seq #[] 0) #[])
noncomputable def o179 : Params → Obj := fun P => (PySem.Obj.mk (.type "code") none (.fields #[(.str "bech32_encode" 621),(.str "bech32_encode" 622),(.str "/claim/cut.py" 623),(.int 107 0),(.int 3 0),(.int 0 0),(.int 0 0),(.int 3 0),(.ref 176),(.bool @Bool.true),(.int 181 0),(.ref 177),vN,vN,vN,(.ref 178),(.int 624 0),(.int 107 0),(.str "/claim/cut.py" 625)]) #[])
noncomputable def o180 : Params → Obj := fun P => (PySem.Obj.mk (.type "function") none (mkT "bech32_encode" "bech32_encode" 3 [] vN vN vN (.str "embit.bech32" 556) none (.ref 179) vN 0 : T (fnD (nth pb 25))) #[])
noncomputable def o181 : Params → Obj := fun P => (PySem.Obj.mk (.type "tuple") none (.seq #[] 0) #[])
noncomputable def o184 : Params → Obj := fun P => (PySem.Obj.mk (.type "code") none (.fields #[(.str "bech32_decode" 627),(.str "bech32_decode" 628),(.str "/claim/cut.py" 629),(.int 110 0),(.int 1 0),(.int 0 0),(.int 0 0),(.int 3 0),(.ref 181),(.bool @Bool.true),(.int 181 0),(.ref 182),vN,vN,vN,(.ref 183),(.int 630 0),(.int 110 0),(.str "/claim/cut.py" 631)]) #[])
noncomputable def o185 : Params → Obj := fun P => (PySem.Obj.mk (.type "function") none (mkT "bech32_decode" "bech32_decode" 3 [] vN vN vN (.str "embit.bech32" 556) none (.ref 184) vN 0 : T (fnD (nth pb 26))) #[])
noncomputable def o186 : Params → Obj := fun P => (PySem.Obj.mk (.type "tuple") none (.seq #[(.bool @Bool.true)] 0) #[])
noncomputable def o187 : Params → Obj := fun P => (PySem.Obj.mk (.type "tuple") none (.seq #[] 0) #[])
noncomputable def o189 : Params → Obj := fun P => (PySem.Obj.mk (.type "tuple") none (.seq #[(.str "data" 636),(.str "frombits" 637),(.str "tobits" 638),(.str "pad" 639),(.str "acc" 640),(.str "bits" 641),(.str "ret" 642),(.str "maxv" 643),(.str "max_acc" 644),(.str "value" 645)] 0) #[])
noncomputable def o190 : Params → Obj := fun P => (PySem.Obj.mk (.type "tuple") none (.seq #[] 0) #[])
noncomputable def o192 : Params → Obj := fun P => (PySem.Obj.mk (.type "code") none (.fields #[(.str "convertbits" 633),(.str "convertbits" 634),(.str "/claim/cut.py" 635),(.int 125 0),(.int 4 0),(.int 0 0),(.int 0 0),(.int 3 0),(.ref 187),(.bool @Bool.true),(.int 181 0),(.ref 188),vN,(.ref 189),(.ref 190),(.ref 191),(.int 646 0),(.int 125 0),(.str "/claim/cut.py" 647)]) #[])
noncomputable def o193 : Params → Obj := fun P => (PySem.Obj.mk (.type "function") none (mkT "convertbits" "convertbits" 3 [] (.ref 186) vN vN (.str "embit.bech32" 556) none (.ref 192) vN 0 : T (fnD (nth pb 27))) #[])
noncomputable def o194 : Params → Obj := fun P => (PySem.Obj.mk (.type "tuple") none (.seq #[] 0) #[])
noncomputable def o196 : Params → Obj := fun P => (PySem.Obj.mk (.type "tuple") none (.seq #[(.str "hrp" 652),(.str "addr" 653),(.str "encoding" 654),(.str "hrpgot" 655),(.str "data" 656),(.str "decoded" 657)] 0) #[])
noncomputable def o197 : Params → Obj := fun P => (PySem.Obj.mk (.type "tuple") none (.seq #[] 0) #[])
noncomputable def o199 : Params → Obj := fun P => (PySem.Obj.mk (.type "code") none (.fields #[(.str "decode" 649),(.str "decode" 650),(.str "/claim/cut.py" 651),(.int 145 0),(.int 2 0),(.int 0 0),(.int 0 0),(.int 3 0),(.ref 194),(.bool @Bool.true),(.int 181 0),(.ref 195),vN,(.ref 196),(.ref 197),(.ref 198),(.int 658 0),(.int 145 0),(.str "/claim/cut.py" 659)]) #[])
noncomputable def o200 : Params → Obj := fun P => (PySem.Obj.mk (.type "function") none (mkT "decode" "decode" 3 [] vN vN vN (.str "embit.bech32" 556) none (.ref 199) vN 0 : T (fnD (nth pb 28))) #[])
noncomputable def o201 : Params → Obj := fun P => (PySem.Obj.mk (.type "tuple") none (.seq #[] 0) #[])
noncomputable def o203 : Params → Obj := fun P => (PySem.Obj.mk (.type "tuple") none (.seq #[(.str "hrp" 665),(.str "witver" 666),(.str "witprog" 667),(.str "encoding" 668),(.str "ret" 669)] 0) #[])
noncomputable def o204 : Params → Obj := fun P => (PySem.Obj.mk (.type "tuple") none (.seq #[] 0) #[])
noncomputable def o206 : Params → Obj := fun P => (PySem.Obj.mk (.type "code") none (.fields #[(.str "encode" 662),(.str "encode" 663),(.str "/claim/cut.py" 664),(.int 160 0),(.int 3 0),(.int 0 0),(.int 0 0),(.int 3 0),(.ref 201),(.bool @Bool.true),(.int 181 0),(.ref 202),vN,(.ref 203),(.ref 204),(.ref 205),(.int 670 0),(.int 160 0),(.str "/claim/cut.py" 671)]) #[])
noncomputable def o207 : Params → Obj := fun P => (PySem.Obj.mk (.type "function") none (mkT "encode" "encode" 3 [] vN vN vN (.str "embit.bech32" 556) none (.ref 206) vN 0 : T (fnD (nth pb 30))) #[])
noncomputable def o208 : Params → Obj := fun P => (PySem.Obj.mk (.type "tuple") none (.seq #[] 0) #[])
noncomputable def o210 : Params → Obj := fun P => (PySem.Obj.mk (.type "tuple") none (.seq #[(.str "i" 679),(.str "order" 680)] 0) #[])
noncomputable def o211 : Params → Obj := fun P => (PySem.Obj.mk (.type "tuple") none (.seq #[] 0) #[])
noncomputable def o213 : Params → Obj := fun P => (PySem.Obj.mk (.type "code") none (.fields #[(.str "to_bytes" 676),(.str "to_bytes" 677),(.str "/claim/cut.py" 678),(.int 168 0),(.int 1 0),(.int 0 0),(.int 0 0),(.int 3 0),(.ref 208),(.bool @Bool.true),(.int 181 0),(.ref 209),vN,(.ref 210),(.ref 211),(.ref 212),(.int 681 0),(.int 168 0),(.str "/claim/cut.py" 682)]) #[])
noncomputable def o214 : Params → Obj := fun P => (PySem.Obj.mk (.type "function") none (mkT "to_bytes" "to_bytes" 3 [] vN vN vN (.str "embit.compact" 674) none (.ref 213) vN 0 : T (fnD (nth pb 33))) #[])
noncomputable def o215 : Params → Obj := fun P => (PySem.Obj.mk (.type "tuple") none (.seq #[] 0) #[])
noncomputable def o217 : Params → Obj := fun P => (PySem.Obj.mk (.type "tuple") none (.seq #[(.str "n" 689),(.str "what" 690)] 0) #[])
noncomputable def o218 : Params → Obj := fun P => (PySem.Obj.mk (.type "tuple") none (.seq #[] 0) #[])
noncomputable def o220 : Params → Obj := fun P => (PySem.Obj.mk (.type "code") none (.fields #[(.str "_whence" 686),(.str "_whence" 687),(.str "/claim/cut.py" 688),(.int 182 0),(.int 2 0),(.int 0 0),(.int 0 0),(.int 3 0),(.ref 215),(.bool @Bool.true),(.int 181 0),(.ref 216),vN,(.ref 217),(.ref 218),(.ref 219),(.int 691 0),(.int 182 0),(.str "/claim/cut.py" 692)]) #[])
noncomputable def o221 : Params → Obj := fun P => (PySem.Obj.mk (.type "function") none (mkT "_whence" "_whence" 3 [] vN vN vN (.str "io" 684) none (.ref 220) vN 0 : T (fnD (nth pb 35))) #[])
noncomputable def o222 : Params → Obj := fun P => (PySem.Obj.mk (.type "tuple") none (.seq #[] 0) #[])
noncomputable def o224 : Params → Obj := fun P => (PySem.Obj.mk (.type "tuple") none (.seq #[(.str "n" 697),(.str "what" 698)] 0) #[])
noncomputable def o225 : Params → Obj := fun P => (PySem.Obj.mk (.type "tuple") none (.seq #[] 0) #[])
noncomputable def o227 : Params → Obj := fun P => (PySem.Obj.mk (.type "code") none (.fields #[(.str "_index" 694),(.str "_index" 695),(.str "/claim/cut.py" 696),(.int 187 0),(.int 2 0),(.int 0 0),(.int 0 0),(.int 3 0),(.ref 222),(.bool @Bool.true),(.int 181 0),(.ref 223),vN,(.ref 224),(.ref 225),(.ref 226),(.int 699 0),(.int 187 0),(.str "/claim/cut.py" 700)]) #[])
noncomputable def o228 : Params → Obj := fun P => (PySem.Obj.mk (.type "function") none (mkT "_index" "_index" 3 [] vN vN vN (.str "io" 684) none (.ref 227) vN 0 : T (fnD (nth pb 36))) #[])
noncomputable def o229 : Params → Obj := fun P => (PySem.Obj.mk (.type "tuple") none (.seq #[(.type "OSError"),(.type "ValueError")] 0) #[])
noncomputable def o236 : Params → Obj := fun P => (PySem.Obj.mk (.type "tuple") none (.seq #[] 0) #[])
noncomputable def o237 : Params → Obj := fun P => (PySem.Obj.mk (.type "dict") none (.dict #[(PySem.DictEntry.mk (PySem.PyData.keyHash P "__module__") (.str "__module__" 709) (.str "io" 714)),(PySem.DictEntry.mk (PySem.PyData.keyHash P "__firstlineno__") (.str "__firstlineno__" 713) (.int 194 712)),(PySem.DictEntry.mk (PySem.PyData.keyHash P "__static_attributes__") (.str "__static_attributes__" 716) (.ref 236)),(PySem.DictEntry.mk (PySem.PyData.keyHash P "__weakref__") (.str "__weakref__" 718) (.ref 239)),(PySem.DictEntry.mk (PySem.PyData.keyHash P "__doc__") (.str "__doc__" 719) vN)] 3) #[])
noncomputable def o238 : Params → Obj := fun P => (PySem.Obj.mk (.type "type") none (.cls (PySem.ClassData.mk "UnsupportedOperation" [(.type "OSError"),(.type "ValueError")] [(.ref 238),(.type "OSError"),(.type "ValueError"),(.type "Exception"),(.type "BaseException"),(.type "object")] 237 "UnsupportedOperation" @Bool.true [] [] @Bool.false none @Bool.false)) #[(Option.some (.ref 229)),none,(Option.some (.str "UnsupportedOperation" 702)),(Option.some (.str "UnsupportedOperation" 710)),(Option.some (.builtin "OSError.__new__")),(Option.some (.bool @Bool.true))])
noncomputable def o239 : Params → Obj := fun P => (PySem.Obj.mk (.type "getset_descriptor") none (.fields #[(.str "__weakref__" 717),(.ref 238),(.builtin "ExceptionGroup.__weakref__"),vN]) #[])
noncomputable def o249 : Params → Obj := fun P => (PySem.Obj.mk (.type "tuple") none (.seq #[] 0) #[])
noncomputable def o251 : Params → Obj := fun P => (PySem.Obj.mk (.type "tuple") none (.seq #[(.str "cls" 741),(.str "args" 742),(.str "kwargs" 743)] 0) #[])
noncomputable def o252 : Params → Obj := fun P => (PySem.Obj.mk (.type "tuple") none (.seq #[] 0) #[])
noncomputable def o254 : Params → Obj := fun P => (PySem.Obj.mk (.type "code") none (.fields #[(.str "__new__" 738),(.str "IOBase.__new__" 739),(.str "/claim/cut.py" 740),(.int 199 0),(.int 1 0),(.int 1 0),(.int 0 0),(.int 15 0),(.ref 249),(.bool @Bool.true),(.int 181 0),(.ref 250),vN,(.ref 251),(.ref 252),(.ref 253),(.int 744 0),(.int 199 0),(.str "/claim/cut.py" 745)]) #[])
noncomputable def o255 : Params → Obj := fun P => (PySem.Obj.mk (.type "function") none (mkT "__new__" "IOBase.__new__" 3 [] vN vN vN (.str "io" 684) none (.ref 254) vN 0 : T (fnD (nth (clsB (nth pb 38)) 1))) #[])
noncomputable def o256 : Params → Obj := fun P => (PySem.Obj.mk (.type "tuple") none (.seq #[] 0) #[])
noncomputable def o257 : Params → Obj := fun P => (PySem.Obj.mk (.type "dict") none (.dict #[(PySem.DictEntry.mk (PySem.PyData.keyHash P "__module__") (.str "__module__" 731) (.str "io" 736)),(PySem.DictEntry.mk (PySem.PyData.keyHash P "__firstlineno__") (.str "__firstlineno__" 735) (.int 196 734)),(PySem.DictEntry.mk (PySem.PyData.keyHash P "__new__") (.str "__new__" 746) (.ref 259)),(PySem.DictEntry.mk (PySem.PyData.keyHash P "__static_attributes__") (.str "__static_attributes__" 747) (.ref 256)),(PySem.DictEntry.mk (PySem.PyData.keyHash P "__dict__") (.str "__dict__" 750) (.ref 260)),(PySem.DictEntry.mk (PySem.PyData.keyHash P "__weakref__") (.str "__weakref__" 752) (.ref 261)),(PySem.DictEntry.mk (PySem.PyData.keyHash P "__doc__") (.str "__doc__" 753) vN)] 4) #[])
noncomputable def o258 : Params → Obj := fun P => (PySem.Obj.mk (.type "type") none (.cls (PySem.ClassData.mk "IOBase" [(.type "object")] [(.ref 258),(.type "object")] 257 "IOBase" @Bool.true [] [(.ref 273),(.ref 285)] @Bool.false none @Bool.false)) #[none,none,(Option.some (.str "IOBase" 724)),(Option.some (.str "IOBase" 732)),(Option.some vN),(Option.some (.bool @Bool.true))])
noncomputable def o259 : Params → Obj := fun P => (PySem.Obj.mk (.type "staticmethod") none (.fields #[(.ref 255)]) #[])
noncomputable def o260 : Params → Obj := fun P => (PySem.Obj.mk (.type "getset_descriptor") none (.fields #[(.str "__dict__" 749),(.ref 258),(.builtin "function.__dict__"),(.builtin "function.__dict__#set")]) #[])
noncomputable def o261 : Params → Obj := fun P => (PySem.Obj.mk (.type "getset_descriptor") none (.fields #[(.str "__weakref__" 751),(.ref 258),(.builtin "ExceptionGroup.__weakref__"),vN]) #[])
noncomputable def o264 : Params → Obj := fun P => (PySem.Obj.mk (.type "tuple") none (.seq #[(.ref 258)] 0) #[])
noncomputable def o271 : Params → Obj := fun P => (PySem.Obj.mk (.type "tuple") none (.seq #[] 0) #[])
noncomputable def o272 : Params → Obj := fun P => (PySem.Obj.mk (.type "dict") none (.dict #[(PySem.DictEntry.mk (PySem.PyData.keyHash P "__module__") (.str "__module__" 763) (.str "io" 768)),(PySem.DictEntry.mk (PySem.PyData.keyHash P "__firstlineno__") (.str "__firstlineno__" 767) (.int 203 766)),(PySem.DictEntry.mk (PySem.PyData.keyHash P "__static_attributes__") (.str "__static_attributes__" 770) (.ref 271)),(PySem.DictEntry.mk (PySem.PyData.keyHash P "__doc__") (.str "__doc__" 771) vN)] 2) #[])
noncomputable def o273 : Params → Obj := fun P => (PySem.Obj.mk (.type "type") none (.cls (PySem.ClassData.mk "BufferedIOBase" [(.ref 258)] [(.ref 273),(.ref 258),(.type "object")] 272 "BufferedIOBase" @Bool.true [] [(.ref 515)] @Bool.false none @Bool.false)) #[(Option.some (.ref 264)),none,(Option.some (.str "BufferedIOBase" 756)),(Option.some (.str "BufferedIOBase" 764)),(Option.some vN),(Option.some (.bool @Bool.true))])
noncomputable def o276 : Params → Obj := fun P => (PySem.Obj.mk (.type "tuple") none (.seq #[(.ref 258)] 0) #[])
noncomputable def o283 : Params → Obj := fun P => (PySem.Obj.mk (.type "tuple") none (.seq #[] 0) #[])
noncomputable def o284 : Params → Obj := fun P => (PySem.Obj.mk (.type "dict") none (.dict #[(PySem.DictEntry.mk (PySem.PyData.keyHash P "__module__") (.str "__module__" 781) (.str "io" 786)),(PySem.DictEntry.mk (PySem.PyData.keyHash P "__firstlineno__") (.str "__firstlineno__" 785) (.int 205 784)),(PySem.DictEntry.mk (PySem.PyData.keyHash P "__static_attributes__") (.str "__static_attributes__" 788) (.ref 283)),(PySem.DictEntry.mk (PySem.PyData.keyHash P "__doc__") (.str "__doc__" 789) vN)] 2) #[])
noncomputable def o285 : Params → Obj := fun P => (PySem.Obj.mk (.type "type") none (.cls (PySem.ClassData.mk "TextIOBase" [(.ref 258)] [(.ref 285),(.ref 258),(.type "object")] 284 "TextIOBase" @Bool.true [] [(.ref 762)] @Bool.false none @Bool.false)) #[(Option.some (.ref 276)),none,(Option.some (.str "TextIOBase" 774)),(Option.some (.str "TextIOBase" 782)),(Option.some vN),(Option.some (.bool @Bool.true))])
noncomputable def o288 : Params → Obj := fun P => (PySem.Obj.mk (.type "tuple") none (.seq #[(.ref 273)] 0) #[])
noncomputable def o295 : Params → Obj := fun P => (PySem.Obj.mk (.type "tuple") none (.seq #[vN] 0) #[])
noncomputable def o296 : Params → Obj := fun P => (PySem.Obj.mk (.type "tuple") none (.seq #[] 0) #[])
noncomputable def o298 : Params → Obj := fun P => (PySem.Obj.mk (.type "tuple") none (.seq #[(.str "self" 809),(.str "initial_bytes" 810)] 0) #[])
noncomputable def o299 : Params → Obj := fun P => (PySem.Obj.mk (.type "tuple") none (.seq #[] 0) #[])
noncomputable def o301 : Params → Obj := fun P => (PySem.Obj.mk (.type "code") none (.fields #[(.str "__init__" 806),(.str "BytesIO.__init__" 807),(.str "/claim/cut.py" 808),(.int 210 0),(.int 2 0),(.int 0 0),(.int 0 0),(.int 3 0),(.ref 296),(.bool @Bool.true),(.int 181 0),(.ref 297),vN,(.ref 298),(.ref 299),(.ref 300),(.int 811 0),(.int 210 0),(.str "/claim/cut.py" 812)]) #[])
noncomputable def o302 : Params → Obj := fun P => (PySem.Obj.mk (.type "function") none (mkT "__init__" "BytesIO.__init__" 3 [] (.ref 295) vN vN (.str "io" 684) none (.ref 301) vN 0 : T (fnD (nth (clsB (nth pb 41)) 1))) #[])
noncomputable def o303 : Params → Obj := fun P => (PySem.Obj.mk (.type "tuple") none (.seq #[] 0) #[])
noncomputable def o305 : Params → Obj := fun P => (PySem.Obj.mk (.type "tuple") none (.seq #[(.str "self" 817)] 0) #[])
noncomputable def o306 : Params → Obj := fun P => (PySem.Obj.mk (.type "tuple") none (.seq #[] 0) #[])
noncomputable def o308 : Params → Obj := fun P => (PySem.Obj.mk (.type "code") none (.fields #[(.str "__check" 814),(.str "BytesIO.__check" 815),(.str "/claim/cut.py" 816),(.int 216 0),(.int 1 0),(.int 0 0),(.int 0 0),(.int 3 0),(.ref 303),(.bool @Bool.true),(.int 181 0),(.ref 304),vN,(.ref 305),(.ref 306),(.ref 307),(.int 818 0),(.int 216 0),(.str "/claim/cut.py" 819)]) #[])
noncomputable def o309 : Params → Obj := fun P => (PySem.Obj.mk (.type "function") none (mkT "__check" "BytesIO.__check" 3 [] vN vN vN (.str "io" 684) none (.ref 308) vN 0 : T (fnD (nth (clsB (nth pb 41)) 2))) #[])
noncomputable def o310 : Params → Obj := fun P => (PySem.Obj.mk (.type "tuple") none (.seq #[] 0) #[])
noncomputable def o312 : Params → Obj := fun P => (PySem.Obj.mk (.type "tuple") none (.seq #[(.str "self" 824),(.str "limit" 825),(.str "start" 826),(.str "stop" 827),(.str "i" 828)] 0) #[])
noncomputable def o313 : Params → Obj := fun P => (PySem.Obj.mk (.type "tuple") none (.seq #[] 0) #[])
noncomputable def o315 : Params → Obj := fun P => (PySem.Obj.mk (.type "code") none (.fields #[(.str "__line" 821),(.str "BytesIO.__line" 822),(.str "/claim/cut.py" 823),(.int 220 0),(.int 2 0),(.int 0 0),(.int 0 0),(.int 3 0),(.ref 310),(.bool @Bool.true),(.int 181 0),(.ref 311),vN,(.ref 312),(.ref 313),(.ref 314),(.int 829 0),(.int 220 0),(.str "/claim/cut.py" 830)]) #[])
noncomputable def o316 : Params → Obj := fun P => (PySem.Obj.mk (.type "function") none (mkT "__line" "BytesIO.__line" 3 [] vN vN vN (.str "io" 684) none (.ref 315) vN 0 : T (fnD (nth (clsB (nth pb 41)) 3))) #[])
noncomputable def o317 : Params → Obj := fun P => (PySem.Obj.mk (.type "tuple") none (.seq #[] 0) #[])
noncomputable def o319 : Params → Obj := fun P => (PySem.Obj.mk (.type "tuple") none (.seq #[(.str "self" 835)] 0) #[])
noncomputable def o320 : Params → Obj := fun P => (PySem.Obj.mk (.type "tuple") none (.seq #[] 0) #[])
noncomputable def o322 : Params → Obj := fun P => (PySem.Obj.mk (.type "code") none (.fields #[(.str "closed" 832),(.str "BytesIO.closed" 833),(.str "/claim/cut.py" 834),(.int 233 0),(.int 1 0),(.int 0 0),(.int 0 0),(.int 3 0),(.ref 317),(.bool @Bool.true),(.int 181 0),(.ref 318),vN,(.ref 319),(.ref 320),(.ref 321),(.int 836 0),(.int 233 0),(.str "/claim/cut.py" 837)]) #[])
noncomputable def o323 : Params → Obj := fun P => (PySem.Obj.mk (.type "function") none (mkT "closed" "BytesIO.closed" 3 [] vN vN vN (.str "io" 684) none (.ref 322) vN 0 : T (fnD (nth (clsB (nth pb 41)) 4))) #[])
noncomputable def o324 : Params → Obj := fun P => (PySem.Obj.mk (.type "property") none (.fields #[(.ref 323),vN,vN,vN,(.str "closed" 839),(.bool @Bool.false)]) #[])
noncomputable def o325 : Params → Obj := fun P => (PySem.Obj.mk (.type "tuple") none (.seq #[] 0) #[])
noncomputable def o327 : Params → Obj := fun P => (PySem.Obj.mk (.type "tuple") none (.seq #[(.str "self" 843)] 0) #[])
noncomputable def o328 : Params → Obj := fun P => (PySem.Obj.mk (.type "tuple") none (.seq #[] 0) #[])
noncomputable def o330 : Params → Obj := fun P => (PySem.Obj.mk (.type "code") none (.fields #[(.str "close" 840),(.str "BytesIO.close" 841),(.str "/claim/cut.py" 842),(.int 237 0),(.int 1 0),(.int 0 0),(.int 0 0),(.int 3 0),(.ref 325),(.bool @Bool.true),(.int 181 0),(.ref 326),vN,(.ref 327),(.ref 328),(.ref 329),(.int 844 0),(.int 237 0),(.str "/claim/cut.py" 845)]) #[])
noncomputable def o331 : Params → Obj := fun P => (PySem.Obj.mk (.type "function") none (mkT "close" "BytesIO.close" 3 [] vN vN vN (.str "io" 684) none (.ref 330) vN 0 : T (fnD (nth (clsB (nth pb 41)) 5))) #[])
noncomputable def o332 : Params → Obj := fun P => (PySem.Obj.mk (.type "tuple") none (.seq #[] 0) #[])
noncomputable def o334 : Params → Obj := fun P => (PySem.Obj.mk (.type "tuple") none (.seq #[(.str "self" 850)] 0) #[])
noncomputable def o335 : Params → Obj := fun P => (PySem.Obj.mk (.type "tuple") none (.seq #[] 0) #[])
noncomputable def o337 : Params → Obj := fun P => (PySem.Obj.mk (.type "code") none (.fields #[(.str "__enter__" 847),(.str "BytesIO.__enter__" 848),(.str "/claim/cut.py" 849),(.int 240 0),(.int 1 0),(.int 0 0),(.int 0 0),(.int 3 0),(.ref 332),(.bool @Bool.true),(.int 181 0),(.ref 333),vN,(.ref 334),(.ref 335),(.ref 336),(.int 851 0),(.int 240 0),(.str "/claim/cut.py" 852)]) #[])
noncomputable def o338 : Params → Obj := fun P => (PySem.Obj.mk (.type "function") none (mkT "__enter__" "BytesIO.__enter__" 3 [] vN vN vN (.str "io" 684) none (.ref 337) vN 0 : T (fnD (nth (clsB (nth pb 41)) 6))) #[])
noncomputable def o339 : Params → Obj := fun P => (PySem.Obj.mk (.type "tuple") none (.seq #[] 0) #[])
noncomputable def o341 : Params → Obj := fun P => (PySem.Obj.mk (.type "tuple") none (.seq #[(.str "self" 857),(.str "args" 858)] 0) #[])
noncomputable def o342 : Params → Obj := fun P => (PySem.Obj.mk (.type "tuple") none (.seq #[] 0) #[])
noncomputable def o344 : Params → Obj := fun P => (PySem.Obj.mk (.type "code") none (.fields #[(.str "__exit__" 854),(.str "BytesIO.__exit__" 855),(.str "/claim/cut.py" 856),(.int 244 0),(.int 1 0),(.int 0 0),(.int 0 0),(.int 7 0),(.ref 339),(.bool @Bool.true),(.int 181 0),(.ref 340),vN,(.ref 341),(.ref 342),(.ref 343),(.int 859 0),(.int 244 0),(.str "/claim/cut.py" 860)]) #[])
noncomputable def o345 : Params → Obj := fun P => (PySem.Obj.mk (.type "function") none (mkT "__exit__" "BytesIO.__exit__" 3 [] vN vN vN (.str "io" 684) none (.ref 344) vN 0 : T (fnD (nth (clsB (nth pb 41)) 7))) #[])
noncomputable def o346 : Params → Obj := fun P => (PySem.Obj.mk (.type "tuple") none (.seq #[] 0) #[])
noncomputable def o348 : Params → Obj := fun P => (PySem.Obj.mk (.type "tuple") none (.seq #[(.str "self" 865)] 0) #[])
noncomputable def o349 : Params → Obj := fun P => (PySem.Obj.mk (.type "tuple") none (.seq #[] 0) #[])
noncomputable def o351 : Params → Obj := fun P => (PySem.Obj.mk (.type "code") none (.fields #[(.str "readable" 862),(.str "BytesIO.readable" 863),(.str "/claim/cut.py" 864),(.int 247 0),(.int 1 0),(.int 0 0),(.int 0 0),(.int 3 0),(.ref 346),(.bool @Bool.true),(.int 181 0),(.ref 347),vN,(.ref 348),(.ref 349),(.ref 350),(.int 866 0),(.int 247 0),(.str "/claim/cut.py" 867)]) #[])
noncomputable def o352 : Params → Obj := fun P => (PySem.Obj.mk (.type "function") none (mkT "readable" "BytesIO.readable" 3 [] vN vN vN (.str "io" 684) none (.ref 351) vN 0 : T (fnD (nth (clsB (nth pb 41)) 8))) #[])
noncomputable def o353 : Params → Obj := fun P => (PySem.Obj.mk (.type "tuple") none (.seq #[] 0) #[])
noncomputable def o355 : Params → Obj := fun P => (PySem.Obj.mk (.type "tuple") none (.seq #[(.str "self" 872)] 0) #[])
noncomputable def o356 : Params → Obj := fun P => (PySem.Obj.mk (.type "tuple") none (.seq #[] 0) #[])
noncomputable def o358 : Params → Obj := fun P => (PySem.Obj.mk (.type "code") none (.fields #[(.str "writable" 869),(.str "BytesIO.writable" 870),(.str "/claim/cut.py" 871),(.int 251 0),(.int 1 0),(.int 0 0),(.int 0 0),(.int 3 0),(.ref 353),(.bool @Bool.true),(.int 181 0),(.ref 354),vN,(.ref 355),(.ref 356),(.ref 357),(.int 873 0),(.int 251 0),(.str "/claim/cut.py" 874)]) #[])
noncomputable def o359 : Params → Obj := fun P => (PySem.Obj.mk (.type "function") none (mkT "writable" "BytesIO.writable" 3 [] vN vN vN (.str "io" 684) none (.ref 358) vN 0 : T (fnD (nth (clsB (nth pb 41)) 9))) #[])
noncomputable def o360 : Params → Obj := fun P => (PySem.Obj.mk (.type "tuple") none (.seq #[] 0) #[])
noncomputable def o362 : Params → Obj := fun P => (PySem.Obj.mk (.type "tuple") none (.seq #[(.str "self" 879)] 0) #[])
noncomputable def o363 : Params → Obj := fun P => (PySem.Obj.mk (.type "tuple") none (.seq #[] 0) #[])
noncomputable def o365 : Params → Obj := fun P => (PySem.Obj.mk (.type "code") none (.fields #[(.str "seekable" 876),(.str "BytesIO.seekable" 877),(.str "/claim/cut.py" 878),(.int 255 0),(.int 1 0),(.int 0 0),(.int 0 0),(.int 3 0),(.ref 360),(.bool @Bool.true),(.int 181 0),(.ref 361),vN,(.ref 362),(.ref 363),(.ref 364),(.int 880 0),(.int 255 0),(.str "/claim/cut.py" 881)]) #[])
noncomputable def o366 : Params → Obj := fun P => (PySem.Obj.mk (.type "function") none (mkT "seekable" "BytesIO.seekable" 3 [] vN vN vN (.str "io" 684) none (.ref 365) vN 0 : T (fnD (nth (clsB (nth pb 41)) 10))) #[])
noncomputable def o367 : Params → Obj := fun P => (PySem.Obj.mk (.type "tuple") none (.seq #[] 0) #[])
noncomputable def o369 : Params → Obj := fun P => (PySem.Obj.mk (.type "tuple") none (.seq #[(.str "self" 886)] 0) #[])
noncomputable def o370 : Params → Obj := fun P => (PySem.Obj.mk (.type "tuple") none (.seq #[] 0) #[])
noncomputable def o372 : Params → Obj := fun P => (PySem.Obj.mk (.type "code") none (.fields #[(.str "isatty" 883),(.str "BytesIO.isatty" 884),(.str "/claim/cut.py" 885),(.int 259 0),(.int 1 0),(.int 0 0),(.int 0 0),(.int 3 0),(.ref 367),(.bool @Bool.true),(.int 181 0),(.ref 368),vN,(.ref 369),(.ref 370),(.ref 371),(.int 887 0),(.int 259 0),(.str "/claim/cut.py" 888)]) #[])
noncomputable def o373 : Params → Obj := fun P => (PySem.Obj.mk (.type "function") none (mkT "isatty" "BytesIO.isatty" 3 [] vN vN vN (.str "io" 684) none (.ref 372) vN 0 : T (fnD (nth (clsB (nth pb 41)) 11))) #[])
noncomputable def o374 : Params → Obj := fun P => (PySem.Obj.mk (.type "tuple") none (.seq #[] 0) #[])
noncomputable def o376 : Params → Obj := fun P => (PySem.Obj.mk (.type "tuple") none (.seq #[(.str "self" 893)] 0) #[])
noncomputable def o377 : Params → Obj := fun P => (PySem.Obj.mk (.type "tuple") none (.seq #[] 0) #[])
noncomputable def o379 : Params → Obj := fun P => (PySem.Obj.mk (.type "code") none (.fields #[(.str "flush" 890),(.str "BytesIO.flush" 891),(.str "/claim/cut.py" 892),(.int 263 0),(.int 1 0),(.int 0 0),(.int 0 0),(.int 3 0),(.ref 374),(.bool @Bool.true),(.int 181 0),(.ref 375),vN,(.ref 376),(.ref 377),(.ref 378),(.int 894 0),(.int 263 0),(.str "/claim/cut.py" 895)]) #[])
noncomputable def o380 : Params → Obj := fun P => (PySem.Obj.mk (.type "function") none (mkT "flush" "BytesIO.flush" 3 [] vN vN vN (.str "io" 684) none (.ref 379) vN 0 : T (fnD (nth (clsB (nth pb 41)) 12))) #[])
noncomputable def o381 : Params → Obj := fun P => (PySem.Obj.mk (.type "tuple") none (.seq #[] 0) #[])
noncomputable def o383 : Params → Obj := fun P => (PySem.Obj.mk (.type "tuple") none (.seq #[(.str "self" 900)] 0) #[])
noncomputable def o384 : Params → Obj := fun P => (PySem.Obj.mk (.type "tuple") none (.seq #[] 0) #[])
noncomputable def o386 : Params → Obj := fun P => (PySem.Obj.mk (.type "code") none (.fields #[(.str "fileno" 897),(.str "BytesIO.fileno" 898),(.str "/claim/cut.py" 899),(.int 266 0),(.int 1 0),(.int 0 0),(.int 0 0),(.int 3 0),(.ref 381),(.bool @Bool.true),(.int 181 0),(.ref 382),vN,(.ref 383),(.ref 384),(.ref 385),(.int 901 0),(.int 266 0),(.str "/claim/cut.py" 902)]) #[])
noncomputable def o387 : Params → Obj := fun P => (PySem.Obj.mk (.type "function") none (mkT "fileno" "BytesIO.fileno" 3 [] vN vN vN (.str "io" 684) none (.ref 386) vN 0 : T (fnD (nth (clsB (nth pb 41)) 13))) #[])
noncomputable def o388 : Params → Obj := fun P => (PySem.Obj.mk (.type "tuple") none (.seq #[] 0) #[])
noncomputable def o390 : Params → Obj := fun P => (PySem.Obj.mk (.type "tuple") none (.seq #[(.str "self" 907)] 0) #[])
noncomputable def o391 : Params → Obj := fun P => (PySem.Obj.mk (.type "tuple") none (.seq #[] 0) #[])
noncomputable def o393 : Params → Obj := fun P => (PySem.Obj.mk (.type "code") none (.fields #[(.str "detach" 904),(.str "BytesIO.detach" 905),(.str "/claim/cut.py" 906),(.int 269 0),(.int 1 0),(.int 0 0),(.int 0 0),(.int 3 0),(.ref 388),(.bool @Bool.true),(.int 181 0),(.ref 389),vN,(.ref 390),(.ref 391),(.ref 392),(.int 908 0),(.int 269 0),(.str "/claim/cut.py" 909)]) #[])
noncomputable def o394 : Params → Obj := fun P => (PySem.Obj.mk (.type "function") none (mkT "detach" "BytesIO.detach" 3 [] vN vN vN (.str "io" 684) none (.ref 393) vN 0 : T (fnD (nth (clsB (nth pb 41)) 14))) #[])
noncomputable def o395 : Params → Obj := fun P => (PySem.Obj.mk (.type "tuple") none (.seq #[] 0) #[])
noncomputable def o397 : Params → Obj := fun P => (PySem.Obj.mk (.type "tuple") none (.seq #[(.str "self" 914)] 0) #[])
noncomputable def o398 : Params → Obj := fun P => (PySem.Obj.mk (.type "tuple") none (.seq #[] 0) #[])
noncomputable def o400 : Params → Obj := fun P => (PySem.Obj.mk (.type "code") none (.fields #[(.str "getvalue" 911),(.str "BytesIO.getvalue" 912),(.str "/claim/cut.py" 913),(.int 272 0),(.int 1 0),(.int 0 0),(.int 0 0),(.int 3 0),(.ref 395),(.bool @Bool.true),(.int 181 0),(.ref 396),vN,(.ref 397),(.ref 398),(.ref 399),(.int 915 0),(.int 272 0),(.str "/claim/cut.py" 916)]) #[])
noncomputable def o401 : Params → Obj := fun P => (PySem.Obj.mk (.type "function") none (mkT "getvalue" "BytesIO.getvalue" 3 [] vN vN vN (.str "io" 684) none (.ref 400) vN 0 : T (fnD (nth (clsB (nth pb 41)) 15))) #[])
noncomputable def o402 : Params → Obj := fun P => (PySem.Obj.mk (.type "tuple") none (.seq #[] 0) #[])
noncomputable def o404 : Params → Obj := fun P => (PySem.Obj.mk (.type "tuple") none (.seq #[(.str "self" 921)] 0) #[])
noncomputable def o405 : Params → Obj := fun P => (PySem.Obj.mk (.type "tuple") none (.seq #[] 0) #[])
noncomputable def o407 : Params → Obj := fun P => (PySem.Obj.mk (.type "code") none (.fields #[(.str "getbuffer" 918),(.str "BytesIO.getbuffer" 919),(.str "/claim/cut.py" 920),(.int 276 0),(.int 1 0),(.int 0 0),(.int 0 0),(.int 3 0),(.ref 402),(.bool @Bool.true),(.int 181 0),(.ref 403),vN,(.ref 404),(.ref 405),(.ref 406),(.int 922 0),(.int 276 0),(.str "/claim/cut.py" 923)]) #[])
noncomputable def o408 : Params → Obj := fun P => (PySem.Obj.mk (.type "function") none (mkT "getbuffer" "BytesIO.getbuffer" 3 [] vN vN vN (.str "io" 684) none (.ref 407) vN 0 : T (fnD (nth (clsB (nth pb 41)) 16))) #[])
noncomputable def o409 : Params → Obj := fun P => (PySem.Obj.mk (.type "tuple") none (.seq #[] 0) #[])
noncomputable def o411 : Params → Obj := fun P => (PySem.Obj.mk (.type "tuple") none (.seq #[(.str "self" 928)] 0) #[])
noncomputable def o412 : Params → Obj := fun P => (PySem.Obj.mk (.type "tuple") none (.seq #[] 0) #[])
noncomputable def o414 : Params → Obj := fun P => (PySem.Obj.mk (.type "code") none (.fields #[(.str "tell" 925),(.str "BytesIO.tell" 926),(.str "/claim/cut.py" 927),(.int 279 0),(.int 1 0),(.int 0 0),(.int 0 0),(.int 3 0),(.ref 409),(.bool @Bool.true),(.int 181 0),(.ref 410),vN,(.ref 411),(.ref 412),(.ref 413),(.int 929 0),(.int 279 0),(.str "/claim/cut.py" 930)]) #[])
noncomputable def o415 : Params → Obj := fun P => (PySem.Obj.mk (.type "function") none (mkT "tell" "BytesIO.tell" 3 [] vN vN vN (.str "io" 684) none (.ref 414) vN 0 : T (fnD (nth (clsB (nth pb 41)) 17))) #[])
noncomputable def o416 : Params → Obj := fun P => (PySem.Obj.mk (.type "tuple") none (.seq #[(.int 0 932)] 0) #[])
noncomputable def o417 : Params → Obj := fun P => (PySem.Obj.mk (.type "tuple") none (.seq #[] 0) #[])
noncomputable def o419 : Params → Obj := fun P => (PySem.Obj.mk (.type "tuple") none (.seq #[(.str "self" 936),(.str "pos" 937),(.str "whence" 938)] 0) #[])
noncomputable def o420 : Params → Obj := fun P => (PySem.Obj.mk (.type "tuple") none (.seq #[] 0) #[])
noncomputable def o422 : Params → Obj := fun P => (PySem.Obj.mk (.type "code") none (.fields #[(.str "seek" 933),(.str "BytesIO.seek" 934),(.str "/claim/cut.py" 935),(.int 283 0),(.int 3 0),(.int 3 0),(.int 0 0),(.int 3 0),(.ref 417),(.bool @Bool.true),(.int 181 0),(.ref 418),vN,(.ref 419),(.ref 420),(.ref 421),(.int 939 0),(.int 283 0),(.str "/claim/cut.py" 940)]) #[])
noncomputable def o423 : Params → Obj := fun P => (PySem.Obj.mk (.type "function") none (mkT "seek" "BytesIO.seek" 3 [] (.ref 416) vN vN (.str "io" 684) none (.ref 422) vN 0 : T (fnD (nth (clsB (nth pb 41)) 18))) #[])
noncomputable def o424 : Params → Obj := fun P => (PySem.Obj.mk (.type "tuple") none (.seq #[vN] 0) #[])
noncomputable def o425 : Params → Obj := fun P => (PySem.Obj.mk (.type "tuple") none (.seq #[] 0) #[])
noncomputable def o427 : Params → Obj := fun P => (PySem.Obj.mk (.type "tuple") none (.seq #[(.str "self" 945),(.str "size" 946)] 0) #[])
noncomputable def o428 : Params → Obj := fun P => (PySem.Obj.mk (.type "tuple") none (.seq #[] 0) #[])
noncomputable def o430 : Params → Obj := fun P => (PySem.Obj.mk (.type "code") none (.fields #[(.str "truncate" 942),(.str "BytesIO.truncate" 943),(.str "/claim/cut.py" 944),(.int 300 0),(.int 2 0),(.int 2 0),(.int 0 0),(.int 3 0),(.ref 425),(.bool @Bool.true),(.int 181 0),(.ref 426),vN,(.ref 427),(.ref 428),(.ref 429),(.int 947 0),(.int 300 0),(.str "/claim/cut.py" 948)]) #[])
noncomputable def o431 : Params → Obj := fun P => (PySem.Obj.mk (.type "function") none (mkT "truncate" "BytesIO.truncate" 3 [] (.ref 424) vN vN (.str "io" 684) none (.ref 430) vN 0 : T (fnD (nth (clsB (nth pb 41)) 19))) #[])
noncomputable def o432 : Params → Obj := fun P => (PySem.Obj.mk (.type "tuple") none (.seq #[(.int (Neg.neg 1) 951)] 0) #[])
noncomputable def o433 : Params → Obj := fun P => (PySem.Obj.mk (.type "tuple") none (.seq #[] 0) #[])
noncomputable def o435 : Params → Obj := fun P => (PySem.Obj.mk (.type "tuple") none (.seq #[(.str "self" 955),(.str "size" 956),(.str "start" 957),(.str "stop" 958)] 0) #[])
noncomputable def o436 : Params → Obj := fun P => (PySem.Obj.mk (.type "tuple") none (.seq #[] 0) #[])
noncomputable def o438 : Params → Obj := fun P => (PySem.Obj.mk (.type "code") none (.fields #[(.str "read" 952),(.str "BytesIO.read" 953),(.str "/claim/cut.py" 954),(.int 303 0),(.int 2 0),(.int 2 0),(.int 0 0),(.int 3 0),(.ref 433),(.bool @Bool.true),(.int 181 0),(.ref 434),vN,(.ref 435),(.ref 436),(.ref 437),(.int 959 0),(.int 303 0),(.str "/claim/cut.py" 960)]) #[])
noncomputable def o439 : Params → Obj := fun P => (PySem.Obj.mk (.type "function") none (mkT "read" "BytesIO.read" 3 [] (.ref 432) vN vN (.str "io" 684) none (.ref 438) vN 0 : T (fnD (nth (clsB (nth pb 41)) 20))) #[])
noncomputable def o440 : Params → Obj := fun P => (PySem.Obj.mk (.type "tuple") none (.seq #[(.int (Neg.neg 1) 963)] 0) #[])
noncomputable def o441 : Params → Obj := fun P => (PySem.Obj.mk (.type "tuple") none (.seq #[] 0) #[])
noncomputable def o443 : Params → Obj := fun P => (PySem.Obj.mk (.type "tuple") none (.seq #[(.str "self" 967),(.str "size" 968)] 0) #[])
noncomputable def o444 : Params → Obj := fun P => (PySem.Obj.mk (.type "tuple") none (.seq #[] 0) #[])
noncomputable def o446 : Params → Obj := fun P => (PySem.Obj.mk (.type "code") none (.fields #[(.str "read1" 964),(.str "BytesIO.read1" 965),(.str "/claim/cut.py" 966),(.int 317 0),(.int 2 0),(.int 2 0),(.int 0 0),(.int 3 0),(.ref 441),(.bool @Bool.true),(.int 181 0),(.ref 442),vN,(.ref 443),(.ref 444),(.ref 445),(.int 969 0),(.int 317 0),(.str "/claim/cut.py" 970)]) #[])
noncomputable def o447 : Params → Obj := fun P => (PySem.Obj.mk (.type "function") none (mkT "read1" "BytesIO.read1" 3 [] (.ref 440) vN vN (.str "io" 684) none (.ref 446) vN 0 : T (fnD (nth (clsB (nth pb 41)) 21))) #[])
noncomputable def o448 : Params → Obj := fun P => (PySem.Obj.mk (.type "tuple") none (.seq #[] 0) #[])
noncomputable def o450 : Params → Obj := fun P => (PySem.Obj.mk (.type "tuple") none (.seq #[(.str "self" 975),(.str "buffer" 976),(.str "start" 977),(.str "n" 978)] 0) #[])
noncomputable def o451 : Params → Obj := fun P => (PySem.Obj.mk (.type "tuple") none (.seq #[] 0) #[])
noncomputable def o453 : Params → Obj := fun P => (PySem.Obj.mk (.type "code") none (.fields #[(.str "readinto" 972),(.str "BytesIO.readinto" 973),(.str "/claim/cut.py" 974),(.int 320 0),(.int 2 0),(.int 2 0),(.int 0 0),(.int 3 0),(.ref 448),(.bool @Bool.true),(.int 181 0),(.ref 449),vN,(.ref 450),(.ref 451),(.ref 452),(.int 979 0),(.int 320 0),(.str "/claim/cut.py" 980)]) #[])
noncomputable def o454 : Params → Obj := fun P => (PySem.Obj.mk (.type "function") none (mkT "readinto" "BytesIO.readinto" 3 [] vN vN vN (.str "io" 684) none (.ref 453) vN 0 : T (fnD (nth (clsB (nth pb 41)) 22))) #[])
noncomputable def o455 : Params → Obj := fun P => (PySem.Obj.mk (.type "tuple") none (.seq #[] 0) #[])
noncomputable def o457 : Params → Obj := fun P => (PySem.Obj.mk (.type "tuple") none (.seq #[(.str "self" 985),(.str "buffer" 986)] 0) #[])
noncomputable def o458 : Params → Obj := fun P => (PySem.Obj.mk (.type "tuple") none (.seq #[] 0) #[])
noncomputable def o460 : Params → Obj := fun P => (PySem.Obj.mk (.type "code") none (.fields #[(.str "readinto1" 982),(.str "BytesIO.readinto1" 983),(.str "/claim/cut.py" 984),(.int 334 0),(.int 2 0),(.int 2 0),(.int 0 0),(.int 3 0),(.ref 455),(.bool @Bool.true),(.int 181 0),(.ref 456),vN,(.ref 457),(.ref 458),(.ref 459),(.int 987 0),(.int 334 0),(.str "/claim/cut.py" 988)]) #[])
noncomputable def o461 : Params → Obj := fun P => (PySem.Obj.mk (.type "function") none (mkT "readinto1" "BytesIO.readinto1" 3 [] vN vN vN (.str "io" 684) none (.ref 460) vN 0 : T (fnD (nth (clsB (nth pb 41)) 23))) #[])
noncomputable def o462 : Params → Obj := fun P => (PySem.Obj.mk (.type "tuple") none (.seq #[(.int (Neg.neg 1) 991)] 0) #[])
noncomputable def o463 : Params → Obj := fun P => (PySem.Obj.mk (.type "tuple") none (.seq #[] 0) #[])
noncomputable def o465 : Params → Obj := fun P => (PySem.Obj.mk (.type "tuple") none (.seq #[(.str "self" 995),(.str "size" 996)] 0) #[])
noncomputable def o466 : Params → Obj := fun P => (PySem.Obj.mk (.type "tuple") none (.seq #[] 0) #[])
noncomputable def o468 : Params → Obj := fun P => (PySem.Obj.mk (.type "code") none (.fields #[(.str "readline" 992),(.str "BytesIO.readline" 993),(.str "/claim/cut.py" 994),(.int 337 0),(.int 2 0),(.int 2 0),(.int 0 0),(.int 3 0),(.ref 463),(.bool @Bool.true),(.int 181 0),(.ref 464),vN,(.ref 465),(.ref 466),(.ref 467),(.int 997 0),(.int 337 0),(.str "/claim/cut.py" 998)]) #[])
noncomputable def o469 : Params → Obj := fun P => (PySem.Obj.mk (.type "function") none (mkT "readline" "BytesIO.readline" 3 [] (.ref 462) vN vN (.str "io" 684) none (.ref 468) vN 0 : T (fnD (nth (clsB (nth pb 41)) 24))) #[])
noncomputable def o470 : Params → Obj := fun P => (PySem.Obj.mk (.type "tuple") none (.seq #[vN] 0) #[])
noncomputable def o471 : Params → Obj := fun P => (PySem.Obj.mk (.type "tuple") none (.seq #[] 0) #[])
noncomputable def o473 : Params → Obj := fun P => (PySem.Obj.mk (.type "tuple") none (.seq #[(.str "self" 1003),(.str "size" 1004)] 0) #[])
noncomputable def o474 : Params → Obj := fun P => (PySem.Obj.mk (.type "tuple") none (.seq #[] 0) #[])
noncomputable def o476 : Params → Obj := fun P => (PySem.Obj.mk (.type "code") none (.fields #[(.str "readlines" 1000),(.str "BytesIO.readlines" 1001),(.str "/claim/cut.py" 1002),(.int 344 0),(.int 2 0),(.int 2 0),(.int 0 0),(.int 3 0),(.ref 471),(.bool @Bool.true),(.int 181 0),(.ref 472),vN,(.ref 473),(.ref 474),(.ref 475),(.int 1005 0),(.int 344 0),(.str "/claim/cut.py" 1006)]) #[])
noncomputable def o477 : Params → Obj := fun P => (PySem.Obj.mk (.type "function") none (mkT "readlines" "BytesIO.readlines" 3 [] (.ref 470) vN vN (.str "io" 684) none (.ref 476) vN 0 : T (fnD (nth (clsB (nth pb 41)) 25))) #[])
noncomputable def o478 : Params → Obj := fun P => (PySem.Obj.mk (.type "tuple") none (.seq #[] 0) #[])
noncomputable def o480 : Params → Obj := fun P => (PySem.Obj.mk (.type "tuple") none (.seq #[(.str "self" 1011)] 0) #[])
noncomputable def o481 : Params → Obj := fun P => (PySem.Obj.mk (.type "tuple") none (.seq #[] 0) #[])
noncomputable def o483 : Params → Obj := fun P => (PySem.Obj.mk (.type "code") none (.fields #[(.str "__iter__" 1008),(.str "BytesIO.__iter__" 1009),(.str "/claim/cut.py" 1010),(.int 347 0),(.int 1 0),(.int 0 0),(.int 0 0),(.int 3 0),(.ref 478),(.bool @Bool.true),(.int 181 0),(.ref 479),vN,(.ref 480),(.ref 481),(.ref 482),(.int 1012 0),(.int 347 0),(.str "/claim/cut.py" 1013)]) #[])
noncomputable def o484 : Params → Obj := fun P => (PySem.Obj.mk (.type "function") none (mkT "__iter__" "BytesIO.__iter__" 3 [] vN vN vN (.str "io" 684) none (.ref 483) vN 0 : T (fnD (nth (clsB (nth pb 41)) 26))) #[])
noncomputable def o485 : Params → Obj := fun P => (PySem.Obj.mk (.type "tuple") none (.seq #[] 0) #[])
noncomputable def o487 : Params → Obj := fun P => (PySem.Obj.mk (.type "tuple") none (.seq #[(.str "self" 1018),(.str "line" 1019)] 0) #[])
noncomputable def o488 : Params → Obj := fun P => (PySem.Obj.mk (.type "tuple") none (.seq #[] 0) #[])
noncomputable def o490 : Params → Obj := fun P => (PySem.Obj.mk (.type "code") none (.fields #[(.str "__next__" 1015),(.str "BytesIO.__next__" 1016),(.str "/claim/cut.py" 1017),(.int 350 0),(.int 1 0),(.int 0 0),(.int 0 0),(.int 3 0),(.ref 485),(.bool @Bool.true),(.int 181 0),(.ref 486),vN,(.ref 487),(.ref 488),(.ref 489),(.int 1020 0),(.int 350 0),(.str "/claim/cut.py" 1021)]) #[])
noncomputable def o491 : Params → Obj := fun P => (PySem.Obj.mk (.type "function") none (mkT "__next__" "BytesIO.__next__" 3 [] vN vN vN (.str "io" 684) none (.ref 490) vN 0 : T (fnD (nth (clsB (nth pb 41)) 27))) #[])
noncomputable def o492 : Params → Obj := fun P => (PySem.Obj.mk (.type "tuple") none (.seq #[] 0) #[])
noncomputable def o494 : Params → Obj := fun P => (PySem.Obj.mk (.type "tuple") none (.seq #[(.str "self" 1026),(.str "b" 1027),(.str "n" 1028),(.str "start" 1029)] 0) #[])
noncomputable def o495 : Params → Obj := fun P => (PySem.Obj.mk (.type "tuple") none (.seq #[] 0) #[])
noncomputable def o497 : Params → Obj := fun P => (PySem.Obj.mk (.type "code") none (.fields #[(.str "write" 1023),(.str "BytesIO.write" 1024),(.str "/claim/cut.py" 1025),(.int 357 0),(.int 2 0),(.int 2 0),(.int 0 0),(.int 3 0),(.ref 492),(.bool @Bool.true),(.int 181 0),(.ref 493),vN,(.ref 494),(.ref 495),(.ref 496),(.int 1030 0),(.int 357 0),(.str "/claim/cut.py" 1031)]) #[])
noncomputable def o498 : Params → Obj := fun P => (PySem.Obj.mk (.type "function") none (mkT "write" "BytesIO.write" 3 [] vN vN vN (.str "io" 684) none (.ref 497) vN 0 : T (fnD (nth (clsB (nth pb 41)) 28))) #[])
noncomputable def o499 : Params → Obj := fun P => (PySem.Obj.mk (.type "tuple") none (.seq #[] 0) #[])
noncomputable def o501 : Params → Obj := fun P => (PySem.Obj.mk (.type "tuple") none (.seq #[(.str "self" 1036),(.str "lines" 1037)] 0) #[])
noncomputable def o502 : Params → Obj := fun P => (PySem.Obj.mk (.type "tuple") none (.seq #[] 0) #[])
noncomputable def o504 : Params → Obj := fun P => (PySem.Obj.mk (.type "code") none (.fields #[(.str "writelines" 1033),(.str "BytesIO.writelines" 1034),(.str "/claim/cut.py" 1035),(.int 373 0),(.int 2 0),(.int 2 0),(.int 0 0),(.int 3 0),(.ref 499),(.bool @Bool.true),(.int 181 0),(.ref 500),vN,(.ref 501),(.ref 502),(.ref 503),(.int 1038 0),(.int 373 0),(.str "/claim/cut.py" 1039)]) #[])
noncomputable def o505 : Params → Obj := fun P => (PySem.Obj.mk (.type "function") none (mkT "writelines" "BytesIO.writelines" 3 [] vN vN vN (.str "io" 684) none (.ref 504) vN 0 : T (fnD (nth (clsB (nth pb 41)) 29))) #[])
noncomputable def o506 : Params → Obj := fun P => (PySem.Obj.mk (.type "tuple") none (.seq #[] 0) #[])
noncomputable def o508 : Params → Obj := fun P => (PySem.Obj.mk (.type "tuple") none (.seq #[(.str "self" 1044)] 0) #[])
noncomputable def o509 : Params → Obj := fun P => (PySem.Obj.mk (.type "tuple") none (.seq #[] 0) #[])
noncomputable def o511 : Params → Obj := fun P => (PySem.Obj.mk (.type "code") none (.fields #[(.str "__repr__" 1041),(.str "BytesIO.__repr__" 1042),(.str "/claim/cut.py" 1043),(.int 376 0),(.int 1 0),(.int 0 0),(.int 0 0),(.int 3 0),(.ref 506),(.bool @Bool.true),(.int 181 0),(.ref 507),vN,(.ref 508),(.ref 509),(.ref 510),(.int 1045 0),(.int 376 0),(.str "/claim/cut.py" 1046)]) #[])
noncomputable def o512 : Params → Obj := fun P => (PySem.Obj.mk (.type "function") none (mkT "__repr__" "BytesIO.__repr__" 3 [] vN vN vN (.str "io" 684) none (.ref 511) vN 0 : T (fnD (nth (clsB (nth pb 41)) 30))) #[])
noncomputable def o513 : Params → Obj := fun P => (PySem.Obj.mk (.type "tuple") none (.seq #[(.str "__buf" 1048),(.str "__pos" 1049)] 0) #[])
noncomputable def o514 : Params → Obj := fun P => (PySem.Obj.mk (.type "dict") none (.dict #[(PySem.DictEntry.mk (PySem.PyData.keyHash P "__module__") (.str "__module__" 799) (.str "_io" 804)),(PySem.DictEntry.mk (PySem.PyData.keyHash P "__firstlineno__") (.str "__firstlineno__" 803) (.int 207 802)),(PySem.DictEntry.mk (PySem.PyData.keyHash P "__init__") (.str "__init__" 813) (.ref 302)),(PySem.DictEntry.mk (PySem.PyData.keyHash P "_BytesIO__check") (.str "_BytesIO__check" 820) (.ref 309)),(PySem.DictEntry.mk (PySem.PyData.keyHash P "_BytesIO__line") (.str "_BytesIO__line" 831) (.ref 316)),(PySem.DictEntry.mk (PySem.PyData.keyHash P "closed") (.str "closed" 839) (.ref 324)),(PySem.DictEntry.mk (PySem.PyData.keyHash P "close") (.str "close" 846) (.ref 331)),(PySem.DictEntry.mk (PySem.PyData.keyHash P "__enter__") (.str "__enter__" 853) (.ref 338)),(PySem.DictEntry.mk (PySem.PyData.keyHash P "__exit__") (.str "__exit__" 861) (.ref 345)),(PySem.DictEntry.mk (PySem.PyData.keyHash P "readable") (.str "readable" 868) (.ref 352)),(PySem.DictEntry.mk (PySem.PyData.keyHash P "writable") (.str "writable" 875) (.ref 359)),(PySem.DictEntry.mk (PySem.PyData.keyHash P "seekable") (.str "seekable" 882) (.ref 366)),(PySem.DictEntry.mk (PySem.PyData.keyHash P "isatty") (.str "isatty" 889) (.ref 373)),(PySem.DictEntry.mk (PySem.PyData.keyHash P "flush") (.str "flush" 896) (.ref 380)),(PySem.DictEntry.mk (PySem.PyData.keyHash P "fileno") (.str "fileno" 903) (.ref 387)),(PySem.DictEntry.mk (PySem.PyData.keyHash P "detach") (.str "detach" 910) (.ref 394)),(PySem.DictEntry.mk (PySem.PyData.keyHash P "getvalue") (.str "getvalue" 917) (.ref 401)),(PySem.DictEntry.mk (PySem.PyData.keyHash P "getbuffer") (.str "getbuffer" 924) (.ref 408)),(PySem.DictEntry.mk (PySem.PyData.keyHash P "tell") (.str "tell" 931) (.ref 415)),(PySem.DictEntry.mk (PySem.PyData.keyHash P "seek") (.str "seek" 941) (.ref 423)),(PySem.DictEntry.mk (PySem.PyData.keyHash P "truncate") (.str "truncate" 949) (.ref 431)),(PySem.DictEntry.mk (PySem.PyData.keyHash P "read") (.str "read" 961) (.ref 439)),(PySem.DictEntry.mk (PySem.PyData.keyHash P "read1") (.str "read1" 971) (.ref 447)),(PySem.DictEntry.mk (PySem.PyData.keyHash P "readinto") (.str "readinto" 981) (.ref 454)),(PySem.DictEntry.mk (PySem.PyData.keyHash P "readinto1") (.str "readinto1" 989) (.ref 461)),(PySem.DictEntry.mk (PySem.PyData.keyHash P "readline") (.str "readline" 999) (.ref 469)),(PySem.DictEntry.mk (PySem.PyData.keyHash P "readlines") (.str "readlines" 1007) (.ref 477)),(PySem.DictEntry.mk (PySem.PyData.keyHash P "__iter__") (.str "__iter__" 1014) (.ref 484)),(PySem.DictEntry.mk (PySem.PyData.keyHash P "__next__") (.str "__next__" 1022) (.ref 491)),(PySem.DictEntry.mk (PySem.PyData.keyHash P "write") (.str "write" 1032) (.ref 498)),(PySem.DictEntry.mk (PySem.PyData.keyHash P "writelines") (.str "writelines" 1040) (.ref 505)),(PySem.DictEntry.mk (PySem.PyData.keyHash P "__repr__") (.str "__repr__" 1047) (.ref 512)),(PySem.DictEntry.mk (PySem.PyData.keyHash P "__static_attributes__") (.str "__static_attributes__" 1050) (.ref 513)),(PySem.DictEntry.mk (PySem.PyData.keyHash P "__doc__") (.str "__doc__" 1051) vN)] 2) #[])
noncomputable def o515 : Params → Obj := fun P => (PySem.Obj.mk (.type "type") none (.cls (PySem.ClassData.mk "BytesIO" [(.ref 273)] [(.ref 515),(.ref 273),(.ref 258),(.type "object")] 514 "BytesIO" @Bool.true [] [] @Bool.false none @Bool.false)) #[(Option.some (.ref 288)),none,(Option.some (.str "BytesIO" 792)),(Option.some (.str "BytesIO" 800)),(Option.some vN),(Option.some (.bool @Bool.true))])
noncomputable def o518 : Params → Obj := fun P => (PySem.Obj.mk (.type "tuple") none (.seq #[(.ref 285)] 0) #[])
noncomputable def o525 : Params → Obj := fun P => (PySem.Obj.mk (.type "tuple") none (.seq #[(.str "" 1068),(.str "\n" 1069)] 0) #[])
noncomputable def o526 : Params → Obj := fun P => (PySem.Obj.mk (.type "tuple") none (.seq #[] 0) #[])
noncomputable def o528 : Params → Obj := fun P => (PySem.Obj.mk (.type "tuple") none (.seq #[(.str "self" 1073),(.str "initial_value" 1074),(.str "newline" 1075)] 0) #[])
noncomputable def o529 : Params → Obj := fun P => (PySem.Obj.mk (.type "tuple") none (.seq #[] 0) #[])
noncomputable def o531 : Params → Obj := fun P => (PySem.Obj.mk (.type "code") none (.fields #[(.str "__init__" 1070),(.str "StringIO.__init__" 1071),(.str "/claim/cut.py" 1072),(.int 381 0),(.int 3 0),(.int 0 0),(.int 0 0),(.int 3 0),(.ref 526),(.bool @Bool.true),(.int 181 0),(.ref 527),vN,(.ref 528),(.ref 529),(.ref 530),(.int 1076 0),(.int 381 0),(.str "/claim/cut.py" 1077)]) #[])
noncomputable def o532 : Params → Obj := fun P => (PySem.Obj.mk (.type "function") none (mkT "__init__" "StringIO.__init__" 3 [] (.ref 525) vN vN (.str "io" 684) none (.ref 531) vN 0 : T (fnD (nth (clsB (nth pb 42)) 1))) #[])
noncomputable def o533 : Params → Obj := fun P => (PySem.Obj.mk (.type "tuple") none (.seq #[] 0) #[])
noncomputable def o535 : Params → Obj := fun P => (PySem.Obj.mk (.type "tuple") none (.seq #[(.str "self" 1082),(.str "s" 1083),(.str "newline" 1084)] 0) #[])
noncomputable def o536 : Params → Obj := fun P => (PySem.Obj.mk (.type "tuple") none (.seq #[] 0) #[])
noncomputable def o538 : Params → Obj := fun P => (PySem.Obj.mk (.type "code") none (.fields #[(.str "__translated" 1079),(.str "StringIO.__translated" 1080),(.str "/claim/cut.py" 1081),(.int 394 0),(.int 2 0),(.int 0 0),(.int 0 0),(.int 3 0),(.ref 533),(.bool @Bool.true),(.int 181 0),(.ref 534),vN,(.ref 535),(.ref 536),(.ref 537),(.int 1085 0),(.int 394 0),(.str "/claim/cut.py" 1086)]) #[])
noncomputable def o539 : Params → Obj := fun P => (PySem.Obj.mk (.type "function") none (mkT "__translated" "StringIO.__translated" 3 [] vN vN vN (.str "io" 684) none (.ref 538) vN 0 : T (fnD (nth (clsB (nth pb 42)) 2))) #[])
noncomputable def o540 : Params → Obj := fun P => (PySem.Obj.mk (.type "tuple") none (.seq #[] 0) #[])
noncomputable def o542 : Params → Obj := fun P => (PySem.Obj.mk (.type "tuple") none (.seq #[(.str "self" 1091)] 0) #[])
noncomputable def o543 : Params → Obj := fun P => (PySem.Obj.mk (.type "tuple") none (.seq #[] 0) #[])
noncomputable def o545 : Params → Obj := fun P => (PySem.Obj.mk (.type "code") none (.fields #[(.str "__check" 1088),(.str "StringIO.__check" 1089),(.str "/claim/cut.py" 1090),(.int 402 0),(.int 1 0),(.int 0 0),(.int 0 0),(.int 3 0),(.ref 540),(.bool @Bool.true),(.int 181 0),(.ref 541),vN,(.ref 542),(.ref 543),(.ref 544),(.int 1092 0),(.int 402 0),(.str "/claim/cut.py" 1093)]) #[])
noncomputable def o546 : Params → Obj := fun P => (PySem.Obj.mk (.type "function") none (mkT "__check" "StringIO.__check" 3 [] vN vN vN (.str "io" 684) none (.ref 545) vN 0 : T (fnD (nth (clsB (nth pb 42)) 3))) #[])
noncomputable def o547 : Params → Obj := fun P => (PySem.Obj.mk (.type "tuple") none (.seq #[] 0) #[])
noncomputable def o549 : Params → Obj := fun P => (PySem.Obj.mk (.type "tuple") none (.seq #[(.str "self" 1098)] 0) #[])
noncomputable def o550 : Params → Obj := fun P => (PySem.Obj.mk (.type "tuple") none (.seq #[] 0) #[])
noncomputable def o552 : Params → Obj := fun P => (PySem.Obj.mk (.type "code") none (.fields #[(.str "__check_dot" 1095),(.str "StringIO.__check_dot" 1096),(.str "/claim/cut.py" 1097),(.int 406 0),(.int 1 0),(.int 0 0),(.int 0 0),(.int 3 0),(.ref 547),(.bool @Bool.true),(.int 181 0),(.ref 548),vN,(.ref 549),(.ref 550),(.ref 551),(.int 1099 0),(.int 406 0),(.str "/claim/cut.py" 1100)]) #[])
noncomputable def o553 : Params → Obj := fun P => (PySem.Obj.mk (.type "function") none (mkT "__check_dot" "StringIO.__check_dot" 3 [] vN vN vN (.str "io" 684) none (.ref 552) vN 0 : T (fnD (nth (clsB (nth pb 42)) 4))) #[])
noncomputable def o554 : Params → Obj := fun P => (PySem.Obj.mk (.type "tuple") none (.seq #[] 0) #[])
noncomputable def o556 : Params → Obj := fun P => (PySem.Obj.mk (.type "tuple") none (.seq #[(.str "self" 1105),(.str "limit" 1106),(.str "start" 1107),(.str "stop" 1108),(.str "cut" 1109),(.str "newline" 1110),(.str "i" 1111),(.str "j" 1112),(.str "end" 1113)] 0) #[])
noncomputable def o557 : Params → Obj := fun P => (PySem.Obj.mk (.type "tuple") none (.seq #[] 0) #[])
noncomputable def o559 : Params → Obj := fun P => (PySem.Obj.mk (.type "code") none (.fields #[(.str "__line" 1102),(.str "StringIO.__line" 1103),(.str "/claim/cut.py" 1104),(.int 410 0),(.int 2 0),(.int 0 0),(.int 0 0),(.int 3 0),(.ref 554),(.bool @Bool.true),(.int 181 0),(.ref 555),vN,(.ref 556),(.ref 557),(.ref 558),(.int 1114 0),(.int 410 0),(.str "/claim/cut.py" 1115)]) #[])
noncomputable def o560 : Params → Obj := fun P => (PySem.Obj.mk (.type "function") none (mkT "__line" "StringIO.__line" 3 [] vN vN vN (.str "io" 684) none (.ref 559) vN 0 : T (fnD (nth (clsB (nth pb 42)) 5))) #[])
noncomputable def o561 : Params → Obj := fun P => (PySem.Obj.mk (.type "tuple") none (.seq #[] 0) #[])
noncomputable def o563 : Params → Obj := fun P => (PySem.Obj.mk (.type "tuple") none (.seq #[(.str "self" 1120)] 0) #[])
noncomputable def o564 : Params → Obj := fun P => (PySem.Obj.mk (.type "tuple") none (.seq #[] 0) #[])
noncomputable def o566 : Params → Obj := fun P => (PySem.Obj.mk (.type "code") none (.fields #[(.str "closed" 1117),(.str "StringIO.closed" 1118),(.str "/claim/cut.py" 1119),(.int 442 0),(.int 1 0),(.int 0 0),(.int 0 0),(.int 3 0),(.ref 561),(.bool @Bool.true),(.int 181 0),(.ref 562),vN,(.ref 563),(.ref 564),(.ref 565),(.int 1121 0),(.int 442 0),(.str "/claim/cut.py" 1122)]) #[])
noncomputable def o567 : Params → Obj := fun P => (PySem.Obj.mk (.type "function") none (mkT "closed" "StringIO.closed" 3 [] vN vN vN (.str "io" 684) none (.ref 566) vN 0 : T (fnD (nth (clsB (nth pb 42)) 6))) #[])
noncomputable def o568 : Params → Obj := fun P => (PySem.Obj.mk (.type "property") none (.fields #[(.ref 567),vN,vN,vN,(.str "closed" 1124),(.bool @Bool.false)]) #[])
noncomputable def o569 : Params → Obj := fun P => (PySem.Obj.mk (.type "tuple") none (.seq #[] 0) #[])
noncomputable def o571 : Params → Obj := fun P => (PySem.Obj.mk (.type "tuple") none (.seq #[(.str "self" 1128)] 0) #[])
noncomputable def o572 : Params → Obj := fun P => (PySem.Obj.mk (.type "tuple") none (.seq #[] 0) #[])
noncomputable def o574 : Params → Obj := fun P => (PySem.Obj.mk (.type "code") none (.fields #[(.str "line_buffering" 1125),(.str "StringIO.line_buffering" 1126),(.str "/claim/cut.py" 1127),(.int 446 0),(.int 1 0),(.int 0 0),(.int 0 0),(.int 3 0),(.ref 569),(.bool @Bool.true),(.int 181 0),(.ref 570),vN,(.ref 571),(.ref 572),(.ref 573),(.int 1129 0),(.int 446 0),(.str "/claim/cut.py" 1130)]) #[])
noncomputable def o575 : Params → Obj := fun P => (PySem.Obj.mk (.type "function") none (mkT "line_buffering" "StringIO.line_buffering" 3 [] vN vN vN (.str "io" 684) none (.ref 574) vN 0 : T (fnD (nth (clsB (nth pb 42)) 7))) #[])
noncomputable def o576 : Params → Obj := fun P => (PySem.Obj.mk (.type "property") none (.fields #[(.ref 575),vN,vN,vN,(.str "line_buffering" 1132),(.bool @Bool.false)]) #[])
noncomputable def o577 : Params → Obj := fun P => (PySem.Obj.mk (.type "tuple") none (.seq #[] 0) #[])
noncomputable def o579 : Params → Obj := fun P => (PySem.Obj.mk (.type "tuple") none (.seq #[(.str "self" 1136)] 0) #[])
noncomputable def o580 : Params → Obj := fun P => (PySem.Obj.mk (.type "tuple") none (.seq #[] 0) #[])
noncomputable def o582 : Params → Obj := fun P => (PySem.Obj.mk (.type "code") none (.fields #[(.str "newlines" 1133),(.str "StringIO.newlines" 1134),(.str "/claim/cut.py" 1135),(.int 450 0),(.int 1 0),(.int 0 0),(.int 0 0),(.int 3 0),(.ref 577),(.bool @Bool.true),(.int 181 0),(.ref 578),vN,(.ref 579),(.ref 580),(.ref 581),(.int 1137 0),(.int 450 0),(.str "/claim/cut.py" 1138)]) #[])
noncomputable def o583 : Params → Obj := fun P => (PySem.Obj.mk (.type "function") none (mkT "newlines" "StringIO.newlines" 3 [] vN vN vN (.str "io" 684) none (.ref 582) vN 0 : T (fnD (nth (clsB (nth pb 42)) 8))) #[])
noncomputable def o584 : Params → Obj := fun P => (PySem.Obj.mk (.type "property") none (.fields #[(.ref 583),vN,vN,vN,(.str "newlines" 1140),(.bool @Bool.false)]) #[])
noncomputable def o585 : Params → Obj := fun P => (PySem.Obj.mk (.type "tuple") none (.seq #[] 0) #[])
noncomputable def o587 : Params → Obj := fun P => (PySem.Obj.mk (.type "tuple") none (.seq #[(.str "self" 1144)] 0) #[])
noncomputable def o588 : Params → Obj := fun P => (PySem.Obj.mk (.type "tuple") none (.seq #[] 0) #[])
noncomputable def o590 : Params → Obj := fun P => (PySem.Obj.mk (.type "code") none (.fields #[(.str "encoding" 1141),(.str "StringIO.encoding" 1142),(.str "/claim/cut.py" 1143),(.int 454 0),(.int 1 0),(.int 0 0),(.int 0 0),(.int 3 0),(.ref 585),(.bool @Bool.true),(.int 181 0),(.ref 586),vN,(.ref 587),(.ref 588),(.ref 589),(.int 1145 0),(.int 454 0),(.str "/claim/cut.py" 1146)]) #[])
noncomputable def o591 : Params → Obj := fun P => (PySem.Obj.mk (.type "function") none (mkT "encoding" "StringIO.encoding" 3 [] vN vN vN (.str "io" 684) none (.ref 590) vN 0 : T (fnD (nth (clsB (nth pb 42)) 9))) #[])
noncomputable def o592 : Params → Obj := fun P => (PySem.Obj.mk (.type "property") none (.fields #[(.ref 591),vN,vN,vN,(.str "encoding" 1148),(.bool @Bool.false)]) #[])
noncomputable def o593 : Params → Obj := fun P => (PySem.Obj.mk (.type "tuple") none (.seq #[] 0) #[])
noncomputable def o595 : Params → Obj := fun P => (PySem.Obj.mk (.type "tuple") none (.seq #[(.str "self" 1152)] 0) #[])
noncomputable def o596 : Params → Obj := fun P => (PySem.Obj.mk (.type "tuple") none (.seq #[] 0) #[])
noncomputable def o598 : Params → Obj := fun P => (PySem.Obj.mk (.type "code") none (.fields #[(.str "errors" 1149),(.str "StringIO.errors" 1150),(.str "/claim/cut.py" 1151),(.int 458 0),(.int 1 0),(.int 0 0),(.int 0 0),(.int 3 0),(.ref 593),(.bool @Bool.true),(.int 181 0),(.ref 594),vN,(.ref 595),(.ref 596),(.ref 597),(.int 1153 0),(.int 458 0),(.str "/claim/cut.py" 1154)]) #[])
noncomputable def o599 : Params → Obj := fun P => (PySem.Obj.mk (.type "function") none (mkT "errors" "StringIO.errors" 3 [] vN vN vN (.str "io" 684) none (.ref 598) vN 0 : T (fnD (nth (clsB (nth pb 42)) 10))) #[])
noncomputable def o600 : Params → Obj := fun P => (PySem.Obj.mk (.type "property") none (.fields #[(.ref 599),vN,vN,vN,(.str "errors" 1156),(.bool @Bool.false)]) #[])
noncomputable def o601 : Params → Obj := fun P => (PySem.Obj.mk (.type "tuple") none (.seq #[] 0) #[])
noncomputable def o603 : Params → Obj := fun P => (PySem.Obj.mk (.type "tuple") none (.seq #[(.str "self" 1160)] 0) #[])
noncomputable def o604 : Params → Obj := fun P => (PySem.Obj.mk (.type "tuple") none (.seq #[] 0) #[])
noncomputable def o606 : Params → Obj := fun P => (PySem.Obj.mk (.type "code") none (.fields #[(.str "close" 1157),(.str "StringIO.close" 1158),(.str "/claim/cut.py" 1159),(.int 462 0),(.int 1 0),(.int 0 0),(.int 0 0),(.int 3 0),(.ref 601),(.bool @Bool.true),(.int 181 0),(.ref 602),vN,(.ref 603),(.ref 604),(.ref 605),(.int 1161 0),(.int 462 0),(.str "/claim/cut.py" 1162)]) #[])
noncomputable def o607 : Params → Obj := fun P => (PySem.Obj.mk (.type "function") none (mkT "close" "StringIO.close" 3 [] vN vN vN (.str "io" 684) none (.ref 606) vN 0 : T (fnD (nth (clsB (nth pb 42)) 11))) #[])
noncomputable def o608 : Params → Obj := fun P => (PySem.Obj.mk (.type "tuple") none (.seq #[] 0) #[])
noncomputable def o610 : Params → Obj := fun P => (PySem.Obj.mk (.type "tuple") none (.seq #[(.str "self" 1167)] 0) #[])
noncomputable def o611 : Params → Obj := fun P => (PySem.Obj.mk (.type "tuple") none (.seq #[] 0) #[])
noncomputable def o613 : Params → Obj := fun P => (PySem.Obj.mk (.type "code") none (.fields #[(.str "__enter__" 1164),(.str "StringIO.__enter__" 1165),(.str "/claim/cut.py" 1166),(.int 465 0),(.int 1 0),(.int 0 0),(.int 0 0),(.int 3 0),(.ref 608),(.bool @Bool.true),(.int 181 0),(.ref 609),vN,(.ref 610),(.ref 611),(.ref 612),(.int 1168 0),(.int 465 0),(.str "/claim/cut.py" 1169)]) #[])
noncomputable def o614 : Params → Obj := fun P => (PySem.Obj.mk (.type "function") none (mkT "__enter__" "StringIO.__enter__" 3 [] vN vN vN (.str "io" 684) none (.ref 613) vN 0 : T (fnD (nth (clsB (nth pb 42)) 12))) #[])
noncomputable def o615 : Params → Obj := fun P => (PySem.Obj.mk (.type "tuple") none (.seq #[] 0) #[])
noncomputable def o617 : Params → Obj := fun P => (PySem.Obj.mk (.type "tuple") none (.seq #[(.str "self" 1174),(.str "args" 1175)] 0) #[])
noncomputable def o618 : Params → Obj := fun P => (PySem.Obj.mk (.type "tuple") none (.seq #[] 0) #[])
noncomputable def o620 : Params → Obj := fun P => (PySem.Obj.mk (.type "code") none (.fields #[(.str "__exit__" 1171),(.str "StringIO.__exit__" 1172),(.str "/claim/cut.py" 1173),(.int 469 0),(.int 1 0),(.int 0 0),(.int 0 0),(.int 7 0),(.ref 615),(.bool @Bool.true),(.int 181 0),(.ref 616),vN,(.ref 617),(.ref 618),(.ref 619),(.int 1176 0),(.int 469 0),(.str "/claim/cut.py" 1177)]) #[])
noncomputable def o621 : Params → Obj := fun P => (PySem.Obj.mk (.type "function") none (mkT "__exit__" "StringIO.__exit__" 3 [] vN vN vN (.str "io" 684) none (.ref 620) vN 0 : T (fnD (nth (clsB (nth pb 42)) 13))) #[])
noncomputable def o622 : Params → Obj := fun P => (PySem.Obj.mk (.type "tuple") none (.seq #[] 0) #[])
noncomputable def o624 : Params → Obj := fun P => (PySem.Obj.mk (.type "tuple") none (.seq #[(.str "self" 1182)] 0) #[])
noncomputable def o625 : Params → Obj := fun P => (PySem.Obj.mk (.type "tuple") none (.seq #[] 0) #[])
noncomputable def o627 : Params → Obj := fun P => (PySem.Obj.mk (.type "code") none (.fields #[(.str "readable" 1179),(.str "StringIO.readable" 1180),(.str "/claim/cut.py" 1181),(.int 472 0),(.int 1 0),(.int 0 0),(.int 0 0),(.int 3 0),(.ref 622),(.bool @Bool.true),(.int 181 0),(.ref 623),vN,(.ref 624),(.ref 625),(.ref 626),(.int 1183 0),(.int 472 0),(.str "/claim/cut.py" 1184)]) #[])
noncomputable def o628 : Params → Obj := fun P => (PySem.Obj.mk (.type "function") none (mkT "readable" "StringIO.readable" 3 [] vN vN vN (.str "io" 684) none (.ref 627) vN 0 : T (fnD (nth (clsB (nth pb 42)) 14))) #[])
noncomputable def o629 : Params → Obj := fun P => (PySem.Obj.mk (.type "tuple") none (.seq #[] 0) #[])
noncomputable def o631 : Params → Obj := fun P => (PySem.Obj.mk (.type "tuple") none (.seq #[(.str "self" 1189)] 0) #[])
noncomputable def o632 : Params → Obj := fun P => (PySem.Obj.mk (.type "tuple") none (.seq #[] 0) #[])
noncomputable def o634 : Params → Obj := fun P => (PySem.Obj.mk (.type "code") none (.fields #[(.str "writable" 1186),(.str "StringIO.writable" 1187),(.str "/claim/cut.py" 1188),(.int 476 0),(.int 1 0),(.int 0 0),(.int 0 0),(.int 3 0),(.ref 629),(.bool @Bool.true),(.int 181 0),(.ref 630),vN,(.ref 631),(.ref 632),(.ref 633),(.int 1190 0),(.int 476 0),(.str "/claim/cut.py" 1191)]) #[])
noncomputable def o635 : Params → Obj := fun P => (PySem.Obj.mk (.type "function") none (mkT "writable" "StringIO.writable" 3 [] vN vN vN (.str "io" 684) none (.ref 634) vN 0 : T (fnD (nth (clsB (nth pb 42)) 15))) #[])
noncomputable def o636 : Params → Obj := fun P => (PySem.Obj.mk (.type "tuple") none (.seq #[] 0) #[])
noncomputable def o638 : Params → Obj := fun P => (PySem.Obj.mk (.type "tuple") none (.seq #[(.str "self" 1196)] 0) #[])
noncomputable def o639 : Params → Obj := fun P => (PySem.Obj.mk (.type "tuple") none (.seq #[] 0) #[])
noncomputable def o641 : Params → Obj := fun P => (PySem.Obj.mk (.type "code") none (.fields #[(.str "seekable" 1193),(.str "StringIO.seekable" 1194),(.str "/claim/cut.py" 1195),(.int 480 0),(.int 1 0),(.int 0 0),(.int 0 0),(.int 3 0),(.ref 636),(.bool @Bool.true),(.int 181 0),(.ref 637),vN,(.ref 638),(.ref 639),(.ref 640),(.int 1197 0),(.int 480 0),(.str "/claim/cut.py" 1198)]) #[])
noncomputable def o642 : Params → Obj := fun P => (PySem.Obj.mk (.type "function") none (mkT "seekable" "StringIO.seekable" 3 [] vN vN vN (.str "io" 684) none (.ref 641) vN 0 : T (fnD (nth (clsB (nth pb 42)) 16))) #[])
noncomputable def o643 : Params → Obj := fun P => (PySem.Obj.mk (.type "tuple") none (.seq #[] 0) #[])
noncomputable def o645 : Params → Obj := fun P => (PySem.Obj.mk (.type "tuple") none (.seq #[(.str "self" 1203)] 0) #[])
noncomputable def o646 : Params → Obj := fun P => (PySem.Obj.mk (.type "tuple") none (.seq #[] 0) #[])
noncomputable def o648 : Params → Obj := fun P => (PySem.Obj.mk (.type "code") none (.fields #[(.str "isatty" 1200),(.str "StringIO.isatty" 1201),(.str "/claim/cut.py" 1202),(.int 484 0),(.int 1 0),(.int 0 0),(.int 0 0),(.int 3 0),(.ref 643),(.bool @Bool.true),(.int 181 0),(.ref 644),vN,(.ref 645),(.ref 646),(.ref 647),(.int 1204 0),(.int 484 0),(.str "/claim/cut.py" 1205)]) #[])
noncomputable def o649 : Params → Obj := fun P => (PySem.Obj.mk (.type "function") none (mkT "isatty" "StringIO.isatty" 3 [] vN vN vN (.str "io" 684) none (.ref 648) vN 0 : T (fnD (nth (clsB (nth pb 42)) 17))) #[])
noncomputable def o650 : Params → Obj := fun P => (PySem.Obj.mk (.type "tuple") none (.seq #[] 0) #[])
noncomputable def o652 : Params → Obj := fun P => (PySem.Obj.mk (.type "tuple") none (.seq #[(.str "self" 1210)] 0) #[])
noncomputable def o653 : Params → Obj := fun P => (PySem.Obj.mk (.type "tuple") none (.seq #[] 0) #[])
noncomputable def o655 : Params → Obj := fun P => (PySem.Obj.mk (.type "code") none (.fields #[(.str "flush" 1207),(.str "StringIO.flush" 1208),(.str "/claim/cut.py" 1209),(.int 488 0),(.int 1 0),(.int 0 0),(.int 0 0),(.int 3 0),(.ref 650),(.bool @Bool.true),(.int 181 0),(.ref 651),vN,(.ref 652),(.ref 653),(.ref 654),(.int 1211 0),(.int 488 0),(.str "/claim/cut.py" 1212)]) #[])
noncomputable def o656 : Params → Obj := fun P => (PySem.Obj.mk (.type "function") none (mkT "flush" "StringIO.flush" 3 [] vN vN vN (.str "io" 684) none (.ref 655) vN 0 : T (fnD (nth (clsB (nth pb 42)) 18))) #[])
noncomputable def o657 : Params → Obj := fun P => (PySem.Obj.mk (.type "tuple") none (.seq #[] 0) #[])
noncomputable def o659 : Params → Obj := fun P => (PySem.Obj.mk (.type "tuple") none (.seq #[(.str "self" 1217)] 0) #[])
noncomputable def o660 : Params → Obj := fun P => (PySem.Obj.mk (.type "tuple") none (.seq #[] 0) #[])
noncomputable def o662 : Params → Obj := fun P => (PySem.Obj.mk (.type "code") none (.fields #[(.str "fileno" 1214),(.str "StringIO.fileno" 1215),(.str "/claim/cut.py" 1216),(.int 491 0),(.int 1 0),(.int 0 0),(.int 0 0),(.int 3 0),(.ref 657),(.bool @Bool.true),(.int 181 0),(.ref 658),vN,(.ref 659),(.ref 660),(.ref 661),(.int 1218 0),(.int 491 0),(.str "/claim/cut.py" 1219)]) #[])
noncomputable def o663 : Params → Obj := fun P => (PySem.Obj.mk (.type "function") none (mkT "fileno" "StringIO.fileno" 3 [] vN vN vN (.str "io" 684) none (.ref 662) vN 0 : T (fnD (nth (clsB (nth pb 42)) 19))) #[])
noncomputable def o664 : Params → Obj := fun P => (PySem.Obj.mk (.type "tuple") none (.seq #[] 0) #[])
noncomputable def o666 : Params → Obj := fun P => (PySem.Obj.mk (.type "tuple") none (.seq #[(.str "self" 1224)] 0) #[])
noncomputable def o667 : Params → Obj := fun P => (PySem.Obj.mk (.type "tuple") none (.seq #[] 0) #[])
noncomputable def o669 : Params → Obj := fun P => (PySem.Obj.mk (.type "code") none (.fields #[(.str "detach" 1221),(.str "StringIO.detach" 1222),(.str "/claim/cut.py" 1223),(.int 494 0),(.int 1 0),(.int 0 0),(.int 0 0),(.int 3 0),(.ref 664),(.bool @Bool.true),(.int 181 0),(.ref 665),vN,(.ref 666),(.ref 667),(.ref 668),(.int 1225 0),(.int 494 0),(.str "/claim/cut.py" 1226)]) #[])
noncomputable def o670 : Params → Obj := fun P => (PySem.Obj.mk (.type "function") none (mkT "detach" "StringIO.detach" 3 [] vN vN vN (.str "io" 684) none (.ref 669) vN 0 : T (fnD (nth (clsB (nth pb 42)) 20))) #[])
noncomputable def o671 : Params → Obj := fun P => (PySem.Obj.mk (.type "tuple") none (.seq #[] 0) #[])
noncomputable def o673 : Params → Obj := fun P => (PySem.Obj.mk (.type "tuple") none (.seq #[(.str "self" 1231)] 0) #[])
noncomputable def o674 : Params → Obj := fun P => (PySem.Obj.mk (.type "tuple") none (.seq #[] 0) #[])
noncomputable def o676 : Params → Obj := fun P => (PySem.Obj.mk (.type "code") none (.fields #[(.str "getvalue" 1228),(.str "StringIO.getvalue" 1229),(.str "/claim/cut.py" 1230),(.int 497 0),(.int 1 0),(.int 0 0),(.int 0 0),(.int 3 0),(.ref 671),(.bool @Bool.true),(.int 181 0),(.ref 672),vN,(.ref 673),(.ref 674),(.ref 675),(.int 1232 0),(.int 497 0),(.str "/claim/cut.py" 1233)]) #[])
noncomputable def o677 : Params → Obj := fun P => (PySem.Obj.mk (.type "function") none (mkT "getvalue" "StringIO.getvalue" 3 [] vN vN vN (.str "io" 684) none (.ref 676) vN 0 : T (fnD (nth (clsB (nth pb 42)) 21))) #[])
noncomputable def o678 : Params → Obj := fun P => (PySem.Obj.mk (.type "tuple") none (.seq #[] 0) #[])
noncomputable def o680 : Params → Obj := fun P => (PySem.Obj.mk (.type "tuple") none (.seq #[(.str "self" 1238)] 0) #[])
noncomputable def o681 : Params → Obj := fun P => (PySem.Obj.mk (.type "tuple") none (.seq #[] 0) #[])
noncomputable def o683 : Params → Obj := fun P => (PySem.Obj.mk (.type "code") none (.fields #[(.str "tell" 1235),(.str "StringIO.tell" 1236),(.str "/claim/cut.py" 1237),(.int 501 0),(.int 1 0),(.int 0 0),(.int 0 0),(.int 3 0),(.ref 678),(.bool @Bool.true),(.int 181 0),(.ref 679),vN,(.ref 680),(.ref 681),(.ref 682),(.int 1239 0),(.int 501 0),(.str "/claim/cut.py" 1240)]) #[])
noncomputable def o684 : Params → Obj := fun P => (PySem.Obj.mk (.type "function") none (mkT "tell" "StringIO.tell" 3 [] vN vN vN (.str "io" 684) none (.ref 683) vN 0 : T (fnD (nth (clsB (nth pb 42)) 22))) #[])
noncomputable def o685 : Params → Obj := fun P => (PySem.Obj.mk (.type "tuple") none (.seq #[(.int 0 1242)] 0) #[])
noncomputable def o686 : Params → Obj := fun P => (PySem.Obj.mk (.type "tuple") none (.seq #[] 0) #[])
noncomputable def o688 : Params → Obj := fun P => (PySem.Obj.mk (.type "tuple") none (.seq #[(.str "self" 1246),(.str "pos" 1247),(.str "whence" 1248)] 0) #[])
noncomputable def o689 : Params → Obj := fun P => (PySem.Obj.mk (.type "tuple") none (.seq #[] 0) #[])
noncomputable def o691 : Params → Obj := fun P => (PySem.Obj.mk (.type "code") none (.fields #[(.str "seek" 1243),(.str "StringIO.seek" 1244),(.str "/claim/cut.py" 1245),(.int 505 0),(.int 3 0),(.int 3 0),(.int 0 0),(.int 3 0),(.ref 686),(.bool @Bool.true),(.int 181 0),(.ref 687),vN,(.ref 688),(.ref 689),(.ref 690),(.int 1249 0),(.int 505 0),(.str "/claim/cut.py" 1250)]) #[])
noncomputable def o692 : Params → Obj := fun P => (PySem.Obj.mk (.type "function") none (mkT "seek" "StringIO.seek" 3 [] (.ref 685) vN vN (.str "io" 684) none (.ref 691) vN 0 : T (fnD (nth (clsB (nth pb 42)) 23))) #[])
noncomputable def o693 : Params → Obj := fun P => (PySem.Obj.mk (.type "tuple") none (.seq #[vN] 0) #[])
noncomputable def o694 : Params → Obj := fun P => (PySem.Obj.mk (.type "tuple") none (.seq #[] 0) #[])
noncomputable def o696 : Params → Obj := fun P => (PySem.Obj.mk (.type "tuple") none (.seq #[(.str "self" 1255),(.str "pos" 1256)] 0) #[])
noncomputable def o697 : Params → Obj := fun P => (PySem.Obj.mk (.type "tuple") none (.seq #[] 0) #[])
noncomputable def o699 : Params → Obj := fun P => (PySem.Obj.mk (.type "code") none (.fields #[(.str "truncate" 1252),(.str "StringIO.truncate" 1253),(.str "/claim/cut.py" 1254),(.int 522 0),(.int 2 0),(.int 2 0),(.int 0 0),(.int 3 0),(.ref 694),(.bool @Bool.true),(.int 181 0),(.ref 695),vN,(.ref 696),(.ref 697),(.ref 698),(.int 1257 0),(.int 522 0),(.str "/claim/cut.py" 1258)]) #[])
noncomputable def o700 : Params → Obj := fun P => (PySem.Obj.mk (.type "function") none (mkT "truncate" "StringIO.truncate" 3 [] (.ref 693) vN vN (.str "io" 684) none (.ref 699) vN 0 : T (fnD (nth (clsB (nth pb 42)) 24))) #[])
noncomputable def o701 : Params → Obj := fun P => (PySem.Obj.mk (.type "tuple") none (.seq #[(.int (Neg.neg 1) 1261)] 0) #[])
noncomputable def o702 : Params → Obj := fun P => (PySem.Obj.mk (.type "tuple") none (.seq #[] 0) #[])
noncomputable def o704 : Params → Obj := fun P => (PySem.Obj.mk (.type "tuple") none (.seq #[(.str "self" 1265),(.str "size" 1266),(.str "start" 1267),(.str "stop" 1268)] 0) #[])
noncomputable def o705 : Params → Obj := fun P => (PySem.Obj.mk (.type "tuple") none (.seq #[] 0) #[])
noncomputable def o707 : Params → Obj := fun P => (PySem.Obj.mk (.type "code") none (.fields #[(.str "read" 1262),(.str "StringIO.read" 1263),(.str "/claim/cut.py" 1264),(.int 525 0),(.int 2 0),(.int 2 0),(.int 0 0),(.int 3 0),(.ref 702),(.bool @Bool.true),(.int 181 0),(.ref 703),vN,(.ref 704),(.ref 705),(.ref 706),(.int 1269 0),(.int 525 0),(.str "/claim/cut.py" 1270)]) #[])
noncomputable def o708 : Params → Obj := fun P => (PySem.Obj.mk (.type "function") none (mkT "read" "StringIO.read" 3 [] (.ref 701) vN vN (.str "io" 684) none (.ref 707) vN 0 : T (fnD (nth (clsB (nth pb 42)) 25))) #[])
noncomputable def o709 : Params → Obj := fun P => (PySem.Obj.mk (.type "tuple") none (.seq #[(.int (Neg.neg 1) 1273)] 0) #[])
noncomputable def o710 : Params → Obj := fun P => (PySem.Obj.mk (.type "tuple") none (.seq #[] 0) #[])
noncomputable def o712 : Params → Obj := fun P => (PySem.Obj.mk (.type "tuple") none (.seq #[(.str "self" 1277),(.str "size" 1278)] 0) #[])
noncomputable def o713 : Params → Obj := fun P => (PySem.Obj.mk (.type "tuple") none (.seq #[] 0) #[])
noncomputable def o715 : Params → Obj := fun P => (PySem.Obj.mk (.type "code") none (.fields #[(.str "readline" 1274),(.str "StringIO.readline" 1275),(.str "/claim/cut.py" 1276),(.int 539 0),(.int 2 0),(.int 2 0),(.int 0 0),(.int 3 0),(.ref 710),(.bool @Bool.true),(.int 181 0),(.ref 711),vN,(.ref 712),(.ref 713),(.ref 714),(.int 1279 0),(.int 539 0),(.str "/claim/cut.py" 1280)]) #[])
noncomputable def o716 : Params → Obj := fun P => (PySem.Obj.mk (.type "function") none (mkT "readline" "StringIO.readline" 3 [] (.ref 709) vN vN (.str "io" 684) none (.ref 715) vN 0 : T (fnD (nth (clsB (nth pb 42)) 26))) #[])
noncomputable def o717 : Params → Obj := fun P => (PySem.Obj.mk (.type "tuple") none (.seq #[(.int (Neg.neg 1) 1283)] 0) #[])
noncomputable def o718 : Params → Obj := fun P => (PySem.Obj.mk (.type "tuple") none (.seq #[] 0) #[])
noncomputable def o720 : Params → Obj := fun P => (PySem.Obj.mk (.type "tuple") none (.seq #[(.str "self" 1287),(.str "hint" 1288)] 0) #[])
noncomputable def o721 : Params → Obj := fun P => (PySem.Obj.mk (.type "tuple") none (.seq #[] 0) #[])
noncomputable def o723 : Params → Obj := fun P => (PySem.Obj.mk (.type "code") none (.fields #[(.str "readlines" 1284),(.str "StringIO.readlines" 1285),(.str "/claim/cut.py" 1286),(.int 546 0),(.int 2 0),(.int 2 0),(.int 0 0),(.int 3 0),(.ref 718),(.bool @Bool.true),(.int 181 0),(.ref 719),vN,(.ref 720),(.ref 721),(.ref 722),(.int 1289 0),(.int 546 0),(.str "/claim/cut.py" 1290)]) #[])
noncomputable def o724 : Params → Obj := fun P => (PySem.Obj.mk (.type "function") none (mkT "readlines" "StringIO.readlines" 3 [] (.ref 717) vN vN (.str "io" 684) none (.ref 723) vN 0 : T (fnD (nth (clsB (nth pb 42)) 27))) #[])
noncomputable def o725 : Params → Obj := fun P => (PySem.Obj.mk (.type "tuple") none (.seq #[] 0) #[])
noncomputable def o727 : Params → Obj := fun P => (PySem.Obj.mk (.type "tuple") none (.seq #[(.str "self" 1295)] 0) #[])
noncomputable def o728 : Params → Obj := fun P => (PySem.Obj.mk (.type "tuple") none (.seq #[] 0) #[])
noncomputable def o730 : Params → Obj := fun P => (PySem.Obj.mk (.type "code") none (.fields #[(.str "__iter__" 1292),(.str "StringIO.__iter__" 1293),(.str "/claim/cut.py" 1294),(.int 549 0),(.int 1 0),(.int 0 0),(.int 0 0),(.int 3 0),(.ref 725),(.bool @Bool.true),(.int 181 0),(.ref 726),vN,(.ref 727),(.ref 728),(.ref 729),(.int 1296 0),(.int 549 0),(.str "/claim/cut.py" 1297)]) #[])
noncomputable def o731 : Params → Obj := fun P => (PySem.Obj.mk (.type "function") none (mkT "__iter__" "StringIO.__iter__" 3 [] vN vN vN (.str "io" 684) none (.ref 730) vN 0 : T (fnD (nth (clsB (nth pb 42)) 28))) #[])
noncomputable def o732 : Params → Obj := fun P => (PySem.Obj.mk (.type "tuple") none (.seq #[] 0) #[])
noncomputable def o734 : Params → Obj := fun P => (PySem.Obj.mk (.type "tuple") none (.seq #[(.str "self" 1302),(.str "line" 1303)] 0) #[])
noncomputable def o735 : Params → Obj := fun P => (PySem.Obj.mk (.type "tuple") none (.seq #[] 0) #[])
noncomputable def o737 : Params → Obj := fun P => (PySem.Obj.mk (.type "code") none (.fields #[(.str "__next__" 1299),(.str "StringIO.__next__" 1300),(.str "/claim/cut.py" 1301),(.int 553 0),(.int 1 0),(.int 0 0),(.int 0 0),(.int 3 0),(.ref 732),(.bool @Bool.true),(.int 181 0),(.ref 733),vN,(.ref 734),(.ref 735),(.ref 736),(.int 1304 0),(.int 553 0),(.str "/claim/cut.py" 1305)]) #[])
noncomputable def o738 : Params → Obj := fun P => (PySem.Obj.mk (.type "function") none (mkT "__next__" "StringIO.__next__" 3 [] vN vN vN (.str "io" 684) none (.ref 737) vN 0 : T (fnD (nth (clsB (nth pb 42)) 29))) #[])
noncomputable def o739 : Params → Obj := fun P => (PySem.Obj.mk (.type "tuple") none (.seq #[] 0) #[])
noncomputable def o741 : Params → Obj := fun P => (PySem.Obj.mk (.type "tuple") none (.seq #[(.str "self" 1310),(.str "s" 1311),(.str "n" 1312),(.str "m" 1313),(.str "start" 1314),(.str "buf" 1315)] 0) #[])
noncomputable def o742 : Params → Obj := fun P => (PySem.Obj.mk (.type "tuple") none (.seq #[] 0) #[])
noncomputable def o744 : Params → Obj := fun P => (PySem.Obj.mk (.type "code") none (.fields #[(.str "write" 1307),(.str "StringIO.write" 1308),(.str "/claim/cut.py" 1309),(.int 560 0),(.int 2 0),(.int 2 0),(.int 0 0),(.int 3 0),(.ref 739),(.bool @Bool.true),(.int 181 0),(.ref 740),vN,(.ref 741),(.ref 742),(.ref 743),(.int 1316 0),(.int 560 0),(.str "/claim/cut.py" 1317)]) #[])
noncomputable def o745 : Params → Obj := fun P => (PySem.Obj.mk (.type "function") none (mkT "write" "StringIO.write" 3 [] vN vN vN (.str "io" 684) none (.ref 744) vN 0 : T (fnD (nth (clsB (nth pb 42)) 30))) #[])
noncomputable def o746 : Params → Obj := fun P => (PySem.Obj.mk (.type "tuple") none (.seq #[] 0) #[])
noncomputable def o748 : Params → Obj := fun P => (PySem.Obj.mk (.type "tuple") none (.seq #[(.str "self" 1322),(.str "lines" 1323)] 0) #[])
noncomputable def o749 : Params → Obj := fun P => (PySem.Obj.mk (.type "tuple") none (.seq #[] 0) #[])
noncomputable def o751 : Params → Obj := fun P => (PySem.Obj.mk (.type "code") none (.fields #[(.str "writelines" 1319),(.str "StringIO.writelines" 1320),(.str "/claim/cut.py" 1321),(.int 579 0),(.int 2 0),(.int 2 0),(.int 0 0),(.int 3 0),(.ref 746),(.bool @Bool.true),(.int 181 0),(.ref 747),vN,(.ref 748),(.ref 749),(.ref 750),(.int 1324 0),(.int 579 0),(.str "/claim/cut.py" 1325)]) #[])
noncomputable def o752 : Params → Obj := fun P => (PySem.Obj.mk (.type "function") none (mkT "writelines" "StringIO.writelines" 3 [] vN vN vN (.str "io" 684) none (.ref 751) vN 0 : T (fnD (nth (clsB (nth pb 42)) 31))) #[])
noncomputable def o753 : Params → Obj := fun P => (PySem.Obj.mk (.type "tuple") none (.seq #[] 0) #[])
noncomputable def o755 : Params → Obj := fun P => (PySem.Obj.mk (.type "tuple") none (.seq #[(.str "self" 1330)] 0) #[])
noncomputable def o756 : Params → Obj := fun P => (PySem.Obj.mk (.type "tuple") none (.seq #[] 0) #[])
noncomputable def o758 : Params → Obj := fun P => (PySem.Obj.mk (.type "code") none (.fields #[(.str "__repr__" 1327),(.str "StringIO.__repr__" 1328),(.str "/claim/cut.py" 1329),(.int 582 0),(.int 1 0),(.int 0 0),(.int 0 0),(.int 3 0),(.ref 753),(.bool @Bool.true),(.int 181 0),(.ref 754),vN,(.ref 755),(.ref 756),(.ref 757),(.int 1331 0),(.int 582 0),(.str "/claim/cut.py" 1332)]) #[])
noncomputable def o759 : Params → Obj := fun P => (PySem.Obj.mk (.type "function") none (mkT "__repr__" "StringIO.__repr__" 3 [] vN vN vN (.str "io" 684) none (.ref 758) vN 0 : T (fnD (nth (clsB (nth pb 42)) 32))) #[])
noncomputable def o760 : Params → Obj := fun P => (PySem.Obj.mk (.type "tuple") none (.seq #[(.str "__buf" 1334),(.str "__newline" 1335),(.str "__pos" 1336)] 0) #[])
noncomputable def o761 : Params → Obj := fun P => (PySem.Obj.mk (.type "dict") none (.dict #[(PySem.DictEntry.mk (PySem.PyData.keyHash P "__module__") (.str "__module__" 1061) (.str "_io" 1066)),(PySem.DictEntry.mk (PySem.PyData.keyHash P "__firstlineno__") (.str "__firstlineno__" 1065) (.int 378 1064)),(PySem.DictEntry.mk (PySem.PyData.keyHash P "__init__") (.str "__init__" 1078) (.ref 532)),(PySem.DictEntry.mk (PySem.PyData.keyHash P "_StringIO__translated") (.str "_StringIO__translated" 1087) (.ref 539)),(PySem.DictEntry.mk (PySem.PyData.keyHash P "_StringIO__check") (.str "_StringIO__check" 1094) (.ref 546)),(PySem.DictEntry.mk (PySem.PyData.keyHash P "_StringIO__check_dot") (.str "_StringIO__check_dot" 1101) (.ref 553)),(PySem.DictEntry.mk (PySem.PyData.keyHash P "_StringIO__line") (.str "_StringIO__line" 1116) (.ref 560)),(PySem.DictEntry.mk (PySem.PyData.keyHash P "closed") (.str "closed" 1124) (.ref 568)),(PySem.DictEntry.mk (PySem.PyData.keyHash P "line_buffering") (.str "line_buffering" 1132) (.ref 576)),(PySem.DictEntry.mk (PySem.PyData.keyHash P "newlines") (.str "newlines" 1140) (.ref 584)),(PySem.DictEntry.mk (PySem.PyData.keyHash P "encoding") (.str "encoding" 1148) (.ref 592)),(PySem.DictEntry.mk (PySem.PyData.keyHash P "errors") (.str "errors" 1156) (.ref 600)),(PySem.DictEntry.mk (PySem.PyData.keyHash P "close") (.str "close" 1163) (.ref 607)),(PySem.DictEntry.mk (PySem.PyData.keyHash P "__enter__") (.str "__enter__" 1170) (.ref 614)),(PySem.DictEntry.mk (PySem.PyData.keyHash P "__exit__") (.str "__exit__" 1178) (.ref 621)),(PySem.DictEntry.mk (PySem.PyData.keyHash P "readable") (.str "readable" 1185) (.ref 628)),(PySem.DictEntry.mk (PySem.PyData.keyHash P "writable") (.str "writable" 1192) (.ref 635)),(PySem.DictEntry.mk (PySem.PyData.keyHash P "seekable") (.str "seekable" 1199) (.ref 642)),(PySem.DictEntry.mk (PySem.PyData.keyHash P "isatty") (.str "isatty" 1206) (.ref 649)),(PySem.DictEntry.mk (PySem.PyData.keyHash P "flush") (.str "flush" 1213) (.ref 656)),(PySem.DictEntry.mk (PySem.PyData.keyHash P "fileno") (.str "fileno" 1220) (.ref 663)),(PySem.DictEntry.mk (PySem.PyData.keyHash P "detach") (.str "detach" 1227) (.ref 670)),(PySem.DictEntry.mk (PySem.PyData.keyHash P "getvalue") (.str "getvalue" 1234) (.ref 677)),(PySem.DictEntry.mk (PySem.PyData.keyHash P "tell") (.str "tell" 1241) (.ref 684)),(PySem.DictEntry.mk (PySem.PyData.keyHash P "seek") (.str "seek" 1251) (.ref 692)),(PySem.DictEntry.mk (PySem.PyData.keyHash P "truncate") (.str "truncate" 1259) (.ref 700)),(PySem.DictEntry.mk (PySem.PyData.keyHash P "read") (.str "read" 1271) (.ref 708)),(PySem.DictEntry.mk (PySem.PyData.keyHash P "readline") (.str "readline" 1281) (.ref 716)),(PySem.DictEntry.mk (PySem.PyData.keyHash P "readlines") (.str "readlines" 1291) (.ref 724)),(PySem.DictEntry.mk (PySem.PyData.keyHash P "__iter__") (.str "__iter__" 1298) (.ref 731)),(PySem.DictEntry.mk (PySem.PyData.keyHash P "__next__") (.str "__next__" 1306) (.ref 738)),(PySem.DictEntry.mk (PySem.PyData.keyHash P "write") (.str "write" 1318) (.ref 745)),(PySem.DictEntry.mk (PySem.PyData.keyHash P "writelines") (.str "writelines" 1326) (.ref 752)),(PySem.DictEntry.mk (PySem.PyData.keyHash P "__repr__") (.str "__repr__" 1333) (.ref 759)),(PySem.DictEntry.mk (PySem.PyData.keyHash P "__static_attributes__") (.str "__static_attributes__" 1337) (.ref 760)),(PySem.DictEntry.mk (PySem.PyData.keyHash P "__doc__") (.str "__doc__" 1338) vN)] 2) #[])
noncomputable def o762 : Params → Obj := fun P => (PySem.Obj.mk (.type "type") none (.cls (PySem.ClassData.mk "StringIO" [(.ref 285)] [(.ref 762),(.ref 285),(.ref 258),(.type "object")] 761 "StringIO" @Bool.true [] [] @Bool.false none @Bool.false)) #[(Option.some (.ref 518)),none,(Option.some (.str "StringIO" 1054)),(Option.some (.str "StringIO" 1062)),(Option.some vN),(Option.some (.bool @Bool.true))])
noncomputable def o765 : Params → Obj := fun P => (PySem.Obj.mk (.type "tuple") none (.seq #[(.type "Exception")] 0) #[])
noncomputable def o772 : Params → Obj := fun P => (PySem.Obj.mk (.type "tuple") none (.seq #[] 0) #[])
noncomputable def o773 : Params → Obj := fun P => (PySem.Obj.mk (.type "dict") none (.dict #[(PySem.DictEntry.mk (PySem.PyData.keyHash P "__module__") (.str "__module__" 1350) (.str "embit.base" 1341)),(PySem.DictEntry.mk (PySem.PyData.keyHash P "__firstlineno__") (.str "__firstlineno__" 1354) (.int 585 1353)),(PySem.DictEntry.mk (PySem.PyData.keyHash P "__static_attributes__") (.str "__static_attributes__" 1355) (.ref 772)),(PySem.DictEntry.mk (PySem.PyData.keyHash P "__weakref__") (.str "__weakref__" 1357) (.ref 775)),(PySem.DictEntry.mk (PySem.PyData.keyHash P "__doc__") (.str "__doc__" 1358) vN)] 3) #[])
noncomputable def o774 : Params → Obj := fun P => (PySem.Obj.mk (.type "type") none (.cls (PySem.ClassData.mk "EmbitError" [(.type "Exception")] [(.ref 774),(.type "Exception"),(.type "BaseException"),(.type "object")] 773 "EmbitError" @Bool.true [] [] @Bool.false none @Bool.false)) #[(Option.some (.ref 765)),none,(Option.some (.str "EmbitError" 1343)),(Option.some (.str "EmbitError" 1351)),(Option.some (.builtin "Exception.__new__")),(Option.some (.bool @Bool.true))])
noncomputable def o775 : Params → Obj := fun P => (PySem.Obj.mk (.type "getset_descriptor") none (.fields #[(.str "__weakref__" 1356),(.ref 774),(.builtin "ExceptionGroup.__weakref__"),vN]) #[])
noncomputable def o785 : Params → Obj := fun P => (PySem.Obj.mk (.type "tuple") none (.seq #[] 0) #[])
noncomputable def o787 : Params → Obj := fun P => (PySem.Obj.mk (.type "tuple") none (.seq #[(.str "cls" 1378),(.str "stream" 1379),(.str "args" 1380),(.str "kwargs" 1381)] 0) #[])
noncomputable def o788 : Params → Obj := fun P => (PySem.Obj.mk (.type "tuple") none (.seq #[] 0) #[])
noncomputable def o790 : Params → Obj := fun P => (PySem.Obj.mk (.type "code") none (.fields #[(.str "read_from" 1375),(.str "EmbitBase.read_from" 1376),(.str "/claim/cut.py" 1377),(.int 589 0),(.int 2 0),(.int 0 0),(.int 0 0),(.int 15 0),(.ref 785),(.bool @Bool.true),(.int 181 0),(.ref 786),vN,(.ref 787),(.ref 788),(.ref 789),(.int 1382 0),(.int 589 0),(.str "/claim/cut.py" 1383)]) #[])
noncomputable def o791 : Params → Obj := fun P => (PySem.Obj.mk (.type "function") none (mkT "read_from" "EmbitBase.read_from" 3 [] vN vN vN (.str "embit.base" 1341) (Option.some 794) (.ref 790) vN 0 : T (fnD (nth (clsB (nth pb 45)) 0))) #[])
noncomputable def o792 : Params → Obj := fun P => (PySem.Obj.mk (.type "dict") none (.dict #[(PySem.DictEntry.mk (PySem.PyData.keyHash P "__module__") (.str "__module__" 1385) (.str "embit.base" 1341)),(PySem.DictEntry.mk (PySem.PyData.keyHash P "__name__") (.str "__name__" 1388) (.str "read_from" 1387)),(PySem.DictEntry.mk (PySem.PyData.keyHash P "__qualname__") (.str "__qualname__" 1391) (.str "EmbitBase.read_from" 1390)),(PySem.DictEntry.mk (PySem.PyData.keyHash P "__doc__") (.str "__doc__" 1393) vN),(PySem.DictEntry.mk (PySem.PyData.keyHash P "__annotations__") (.str "__annotations__" 1395) (.ref 794))] 5) #[])
noncomputable def o793 : Params → Obj := fun P => (PySem.Obj.mk (.type "classmethod") (Option.some 792) (.fields #[(.ref 791),(.bool @Bool.false)]) #[])
noncomputable def o794 : Params → Obj := fun P => (PySem.Obj.mk (.type "dict") none (.dict #[] 0) #[])
noncomputable def o795 : Params → Obj := fun P => (PySem.Obj.mk (.type "tuple") none (.seq #[] 0) #[])
noncomputable def o797 : Params → Obj := fun P => (PySem.Obj.mk (.type "tuple") none (.seq #[(.str "cls" 1400),(.str "s" 1401),(.str "args" 1402),(.str "kwargs" 1403)] 0) #[])
noncomputable def o798 : Params → Obj := fun P => (PySem.Obj.mk (.type "tuple") none (.seq #[] 0) #[])
noncomputable def o800 : Params → Obj := fun P => (PySem.Obj.mk (.type "code") none (.fields #[(.str "parse" 1397),(.str "EmbitBase.parse" 1398),(.str "/claim/cut.py" 1399),(.int 593 0),(.int 2 0),(.int 0 0),(.int 0 0),(.int 15 0),(.ref 795),(.bool @Bool.true),(.int 181 0),(.ref 796),vN,(.ref 797),(.ref 798),(.ref 799),(.int 1404 0),(.int 593 0),(.str "/claim/cut.py" 1405)]) #[])
noncomputable def o801 : Params → Obj := fun P => (PySem.Obj.mk (.type "function") none (mkT "parse" "EmbitBase.parse" 3 [] vN vN vN (.str "embit.base" 1341) (Option.some 804) (.ref 800) vN 0 : T (fnD (nth (clsB (nth pb 45)) 1))) #[])
noncomputable def o802 : Params → Obj := fun P => (PySem.Obj.mk (.type "dict") none (.dict #[(PySem.DictEntry.mk (PySem.PyData.keyHash P "__module__") (.str "__module__" 1407) (.str "embit.base" 1341)),(PySem.DictEntry.mk (PySem.PyData.keyHash P "__name__") (.str "__name__" 1410) (.str "parse" 1409)),(PySem.DictEntry.mk (PySem.PyData.keyHash P "__qualname__") (.str "__qualname__" 1413) (.str "EmbitBase.parse" 1412)),(PySem.DictEntry.mk (PySem.PyData.keyHash P "__doc__") (.str "__doc__" 1415) vN),(PySem.DictEntry.mk (PySem.PyData.keyHash P "__annotations__") (.str "__annotations__" 1417) (.ref 804))] 5) #[])
noncomputable def o803 : Params → Obj := fun P => (PySem.Obj.mk (.type "classmethod") (Option.some 802) (.fields #[(.ref 801),(.bool @Bool.false)]) #[])
noncomputable def o804 : Params → Obj := fun P => (PySem.Obj.mk (.type "dict") none (.dict #[] 0) #[])
noncomputable def o805 : Params → Obj := fun P => (PySem.Obj.mk (.type "tuple") none (.seq #[] 0) #[])
noncomputable def o807 : Params → Obj := fun P => (PySem.Obj.mk (.type "tuple") none (.seq #[(.str "self" 1422),(.str "stream" 1423),(.str "args" 1424),(.str "kwargs" 1425)] 0) #[])
noncomputable def o808 : Params → Obj := fun P => (PySem.Obj.mk (.type "tuple") none (.seq #[] 0) #[])
noncomputable def o810 : Params → Obj := fun P => (PySem.Obj.mk (.type "code") none (.fields #[(.str "write_to" 1419),(.str "EmbitBase.write_to" 1420),(.str "/claim/cut.py" 1421),(.int 597 0),(.int 2 0),(.int 0 0),(.int 0 0),(.int 15 0),(.ref 805),(.bool @Bool.true),(.int 181 0),(.ref 806),vN,(.ref 807),(.ref 808),(.ref 809),(.int 1426 0),(.int 597 0),(.str "/claim/cut.py" 1427)]) #[])
noncomputable def o811 : Params → Obj := fun P => (PySem.Obj.mk (.type "function") none (mkT "write_to" "EmbitBase.write_to" 3 [] vN vN vN (.str "embit.base" 1341) none (.ref 810) vN 0 : T (fnD (nth (clsB (nth pb 45)) 2))) #[])
noncomputable def o812 : Params → Obj := fun P => (PySem.Obj.mk (.type "tuple") none (.seq #[] 0) #[])
noncomputable def o814 : Params → Obj := fun P => (PySem.Obj.mk (.type "tuple") none (.seq #[(.str "self" 1432),(.str "args" 1433),(.str "kwargs" 1434),(.str "stream" 1435)] 0) #[])
noncomputable def o815 : Params → Obj := fun P => (PySem.Obj.mk (.type "tuple") none (.seq #[] 0) #[])
noncomputable def o817 : Params → Obj := fun P => (PySem.Obj.mk (.type "code") none (.fields #[(.str "serialize" 1429),(.str "EmbitBase.serialize" 1430),(.str "/claim/cut.py" 1431),(.int 600 0),(.int 1 0),(.int 0 0),(.int 0 0),(.int 15 0),(.ref 812),(.bool @Bool.true),(.int 181 0),(.ref 813),vN,(.ref 814),(.ref 815),(.ref 816),(.int 1436 0),(.int 600 0),(.str "/claim/cut.py" 1437)]) #[])
noncomputable def o818 : Params → Obj := fun P => (PySem.Obj.mk (.type "function") none (mkT "serialize" "EmbitBase.serialize" 3 [] vN vN vN (.str "embit.base" 1341) none (.ref 817) vN 0 : T (fnD (nth (clsB (nth pb 45)) 3))) #[])
noncomputable def o819 : Params → Obj := fun P => (PySem.Obj.mk (.type "tuple") none (.seq #[] 0) #[])
noncomputable def o821 : Params → Obj := fun P => (PySem.Obj.mk (.type "tuple") none (.seq #[(.str "self" 1442),(.str "args" 1443),(.str "kwargs" 1444),(.str "res" 1445)] 0) #[])
noncomputable def o822 : Params → Obj := fun P => (PySem.Obj.mk (.type "tuple") none (.seq #[] 0) #[])
noncomputable def o824 : Params → Obj := fun P => (PySem.Obj.mk (.type "code") none (.fields #[(.str "to_string" 1439),(.str "EmbitBase.to_string" 1440),(.str "/claim/cut.py" 1441),(.int 605 0),(.int 1 0),(.int 0 0),(.int 0 0),(.int 15 0),(.ref 819),(.bool @Bool.true),(.int 181 0),(.ref 820),vN,(.ref 821),(.ref 822),(.ref 823),(.int 1446 0),(.int 605 0),(.str "/claim/cut.py" 1447)]) #[])
noncomputable def o825 : Params → Obj := fun P => (PySem.Obj.mk (.type "function") none (mkT "to_string" "EmbitBase.to_string" 3 [] vN vN vN (.str "embit.base" 1341) none (.ref 824) vN 0 : T (fnD (nth (clsB (nth pb 45)) 4))) #[])
noncomputable def o826 : Params → Obj := fun P => (PySem.Obj.mk (.type "tuple") none (.seq #[] 0) #[])
noncomputable def o828 : Params → Obj := fun P => (PySem.Obj.mk (.type "tuple") none (.seq #[(.str "cls" 1452),(.str "s" 1453),(.str "args" 1454),(.str "kwargs" 1455)] 0) #[])
noncomputable def o829 : Params → Obj := fun P => (PySem.Obj.mk (.type "tuple") none (.seq #[] 0) #[])
noncomputable def o831 : Params → Obj := fun P => (PySem.Obj.mk (.type "code") none (.fields #[(.str "from_string" 1449),(.str "EmbitBase.from_string" 1450),(.str "/claim/cut.py" 1451),(.int 613 0),(.int 2 0),(.int 0 0),(.int 0 0),(.int 15 0),(.ref 826),(.bool @Bool.true),(.int 181 0),(.ref 827),vN,(.ref 828),(.ref 829),(.ref 830),(.int 1456 0),(.int 613 0),(.str "/claim/cut.py" 1457)]) #[])
noncomputable def o832 : Params → Obj := fun P => (PySem.Obj.mk (.type "function") none (mkT "from_string" "EmbitBase.from_string" 3 [] vN vN vN (.str "embit.base" 1341) (Option.some 835) (.ref 831) vN 0 : T (fnD (nth (clsB (nth pb 45)) 5))) #[])
noncomputable def o833 : Params → Obj := fun P => (PySem.Obj.mk (.type "dict") none (.dict #[(PySem.DictEntry.mk (PySem.PyData.keyHash P "__module__") (.str "__module__" 1459) (.str "embit.base" 1341)),(PySem.DictEntry.mk (PySem.PyData.keyHash P "__name__") (.str "__name__" 1462) (.str "from_string" 1461)),(PySem.DictEntry.mk (PySem.PyData.keyHash P "__qualname__") (.str "__qualname__" 1465) (.str "EmbitBase.from_string" 1464)),(PySem.DictEntry.mk (PySem.PyData.keyHash P "__doc__") (.str "__doc__" 1467) vN),(PySem.DictEntry.mk (PySem.PyData.keyHash P "__annotations__") (.str "__annotations__" 1469) (.ref 835))] 5) #[])
noncomputable def o834 : Params → Obj := fun P => (PySem.Obj.mk (.type "classmethod") (Option.some 833) (.fields #[(.ref 832),(.bool @Bool.false)]) #[])
noncomputable def o835 : Params → Obj := fun P => (PySem.Obj.mk (.type "dict") none (.dict #[] 0) #[])
noncomputable def o836 : Params → Obj := fun P => (PySem.Obj.mk (.type "tuple") none (.seq #[] 0) #[])
noncomputable def o838 : Params → Obj := fun P => (PySem.Obj.mk (.type "tuple") none (.seq #[(.str "self" 1474)] 0) #[])
noncomputable def o839 : Params → Obj := fun P => (PySem.Obj.mk (.type "tuple") none (.seq #[] 0) #[])
noncomputable def o841 : Params → Obj := fun P => (PySem.Obj.mk (.type "code") none (.fields #[(.str "__str__" 1471),(.str "EmbitBase.__str__" 1472),(.str "/claim/cut.py" 1473),(.int 617 0),(.int 1 0),(.int 0 0),(.int 0 0),(.int 3 0),(.ref 836),(.bool @Bool.true),(.int 181 0),(.ref 837),vN,(.ref 838),(.ref 839),(.ref 840),(.int 1475 0),(.int 617 0),(.str "/claim/cut.py" 1476)]) #[])
noncomputable def o842 : Params → Obj := fun P => (PySem.Obj.mk (.type "function") none (mkT "__str__" "EmbitBase.__str__" 3 [] vN vN vN (.str "embit.base" 1341) none (.ref 841) vN 0 : T (fnD (nth (clsB (nth pb 45)) 6))) #[])
noncomputable def o843 : Params → Obj := fun P => (PySem.Obj.mk (.type "tuple") none (.seq #[] 0) #[])
noncomputable def o845 : Params → Obj := fun P => (PySem.Obj.mk (.type "tuple") none (.seq #[(.str "self" 1481),(.str "other" 1482)] 0) #[])
noncomputable def o846 : Params → Obj := fun P => (PySem.Obj.mk (.type "tuple") none (.seq #[] 0) #[])
noncomputable def o848 : Params → Obj := fun P => (PySem.Obj.mk (.type "code") none (.fields #[(.str "__eq__" 1478),(.str "EmbitBase.__eq__" 1479),(.str "/claim/cut.py" 1480),(.int 620 0),(.int 2 0),(.int 0 0),(.int 0 0),(.int 3 0),(.ref 843),(.bool @Bool.true),(.int 181 0),(.ref 844),vN,(.ref 845),(.ref 846),(.ref 847),(.int 1483 0),(.int 620 0),(.str "/claim/cut.py" 1484)]) #[])
noncomputable def o849 : Params → Obj := fun P => (PySem.Obj.mk (.type "function") none (mkT "__eq__" "EmbitBase.__eq__" 3 [] vN vN vN (.str "embit.base" 1341) none (.ref 848) vN 0 : T (fnD (nth (clsB (nth pb 45)) 7))) #[])
noncomputable def o850 : Params → Obj := fun P => (PySem.Obj.mk (.type "tuple") none (.seq #[] 0) #[])
noncomputable def o852 : Params → Obj := fun P => (PySem.Obj.mk (.type "tuple") none (.seq #[(.str "self" 1489),(.str "other" 1490)] 0) #[])
noncomputable def o853 : Params → Obj := fun P => (PySem.Obj.mk (.type "tuple") none (.seq #[] 0) #[])
noncomputable def o855 : Params → Obj := fun P => (PySem.Obj.mk (.type "code") none (.fields #[(.str "__ne__" 1486),(.str "EmbitBase.__ne__" 1487),(.str "/claim/cut.py" 1488),(.int 625 0),(.int 2 0),(.int 0 0),(.int 0 0),(.int 3 0),(.ref 850),(.bool @Bool.true),(.int 181 0),(.ref 851),vN,(.ref 852),(.ref 853),(.ref 854),(.int 1491 0),(.int 625 0),(.str "/claim/cut.py" 1492)]) #[])
noncomputable def o856 : Params → Obj := fun P => (PySem.Obj.mk (.type "function") none (mkT "__ne__" "EmbitBase.__ne__" 3 [] vN vN vN (.str "embit.base" 1341) none (.ref 855) vN 0 : T (fnD (nth (clsB (nth pb 45)) 8))) #[])
noncomputable def o857 : Params → Obj := fun P => (PySem.Obj.mk (.type "tuple") none (.seq #[] 0) #[])
noncomputable def o859 : Params → Obj := fun P => (PySem.Obj.mk (.type "tuple") none (.seq #[(.str "self" 1497)] 0) #[])
noncomputable def o860 : Params → Obj := fun P => (PySem.Obj.mk (.type "tuple") none (.seq #[] 0) #[])
noncomputable def o862 : Params → Obj := fun P => (PySem.Obj.mk (.type "code") none (.fields #[(.str "__hash__" 1494),(.str "EmbitBase.__hash__" 1495),(.str "/claim/cut.py" 1496),(.int 628 0),(.int 1 0),(.int 0 0),(.int 0 0),(.int 3 0),(.ref 857),(.bool @Bool.true),(.int 181 0),(.ref 858),vN,(.ref 859),(.ref 860),(.ref 861),(.int 1498 0),(.int 628 0),(.str "/claim/cut.py" 1499)]) #[])
noncomputable def o863 : Params → Obj := fun P => (PySem.Obj.mk (.type "function") none (mkT "__hash__" "EmbitBase.__hash__" 3 [] vN vN vN (.str "embit.base" 1341) none (.ref 862) vN 0 : T (fnD (nth (clsB (nth pb 45)) 9))) #[])
noncomputable def o864 : Params → Obj := fun P => (PySem.Obj.mk (.type "tuple") none (.seq #[] 0) #[])
noncomputable def o865 : Params → Obj := fun P => (PySem.Obj.mk (.type "dict") none (.dict #[(PySem.DictEntry.mk (PySem.PyData.keyHash P "__module__") (.str "__module__" 1370) (.str "embit.base" 1341)),(PySem.DictEntry.mk (PySem.PyData.keyHash P "__firstlineno__") (.str "__firstlineno__" 1374) (.int 587 1373)),(PySem.DictEntry.mk (PySem.PyData.keyHash P "read_from") (.str "read_from" 1396) (.ref 793)),(PySem.DictEntry.mk (PySem.PyData.keyHash P "parse") (.str "parse" 1418) (.ref 803)),(PySem.DictEntry.mk (PySem.PyData.keyHash P "write_to") (.str "write_to" 1428) (.ref 811)),(PySem.DictEntry.mk (PySem.PyData.keyHash P "serialize") (.str "serialize" 1438) (.ref 818)),(PySem.DictEntry.mk (PySem.PyData.keyHash P "to_string") (.str "to_string" 1448) (.ref 825)),(PySem.DictEntry.mk (PySem.PyData.keyHash P "from_string") (.str "from_string" 1470) (.ref 834)),(PySem.DictEntry.mk (PySem.PyData.keyHash P "__str__") (.str "__str__" 1477) (.ref 842)),(PySem.DictEntry.mk (PySem.PyData.keyHash P "__eq__") (.str "__eq__" 1485) (.ref 849)),(PySem.DictEntry.mk (PySem.PyData.keyHash P "__ne__") (.str "__ne__" 1493) (.ref 856)),(PySem.DictEntry.mk (PySem.PyData.keyHash P "__hash__") (.str "__hash__" 1500) (.ref 863)),(PySem.DictEntry.mk (PySem.PyData.keyHash P "__static_attributes__") (.str "__static_attributes__" 1501) (.ref 864)),(PySem.DictEntry.mk (PySem.PyData.keyHash P "__dict__") (.str "__dict__" 1503) (.ref 867)),(PySem.DictEntry.mk (PySem.PyData.keyHash P "__weakref__") (.str "__weakref__" 1505) (.ref 868)),(PySem.DictEntry.mk (PySem.PyData.keyHash P "__doc__") (.str "__doc__" 1506) vN)] 4) #[])
noncomputable def o866 : Params → Obj := fun P => (PySem.Obj.mk (.type "type") none (.cls (PySem.ClassData.mk "EmbitBase" [(.type "object")] [(.ref 866),(.type "object")] 865 "EmbitBase" @Bool.true [] [(.ref 965)] @Bool.false none @Bool.false)) #[none,none,(Option.some (.str "EmbitBase" 1363)),(Option.some (.str "EmbitBase" 1371)),(Option.some (.builtin "object.__new__")),(Option.some (.bool @Bool.true))])
noncomputable def o867 : Params → Obj := fun P => (PySem.Obj.mk (.type "getset_descriptor") none (.fields #[(.str "__dict__" 1502),(.ref 866),(.builtin "function.__dict__"),(.builtin "function.__dict__#set")]) #[])
noncomputable def o868 : Params → Obj := fun P => (PySem.Obj.mk (.type "getset_descriptor") none (.fields #[(.str "__weakref__" 1504),(.ref 866),(.builtin "ExceptionGroup.__weakref__"),vN]) #[])
noncomputable def o871 : Params → Obj := fun P => (PySem.Obj.mk (.type "tuple") none (.seq #[(.ref 866)] 0) #[])
noncomputable def o878 : Params → Obj := fun P => (PySem.Obj.mk (.type "tuple") none (.seq #[(.bytes #[] 1523)] 0) #[])
noncomputable def o879 : Params → Obj := fun P => (PySem.Obj.mk (.type "tuple") none (.seq #[] 0) #[])
noncomputable def o881 : Params → Obj := fun P => (PySem.Obj.mk (.type "tuple") none (.seq #[(.str "self" 1527),(.str "data" 1528)] 0) #[])
noncomputable def o882 : Params → Obj := fun P => (PySem.Obj.mk (.type "tuple") none (.seq #[] 0) #[])
noncomputable def o884 : Params → Obj := fun P => (PySem.Obj.mk (.type "code") none (.fields #[(.str "__init__" 1524),(.str "Script.__init__" 1525),(.str "/claim/cut.py" 1526),(.int 633 0),(.int 2 0),(.int 0 0),(.int 0 0),(.int 3 0),(.ref 879),(.bool @Bool.true),(.int 181 0),(.ref 880),vN,(.ref 881),(.ref 882),(.ref 883),(.int 1529 0),(.int 633 0),(.str "/claim/cut.py" 1530)]) #[])
noncomputable def o885 : Params → Obj := fun P => (PySem.Obj.mk (.type "function") none (mkT "__init__" "Script.__init__" 3 [] (.ref 878) vN vN (.str "embit.script" 1509) none (.ref 884) vN 0 : T (fnD (nth (clsB (nth pb 47)) 0))) #[])
noncomputable def o886 : Params → Obj := fun P => (PySem.Obj.mk (.type "tuple") none (.seq #[(.ref 23)] 0) #[])
noncomputable def o887 : Params → Obj := fun P => (PySem.Obj.mk (.type "tuple") none (.seq #[] 0) #[])
noncomputable def o889 : Params → Obj := fun P => (PySem.Obj.mk (.type "tuple") none (.seq #[(.str "self" 1537),(.str "network" 1538),(.str "script_type" 1539),(.str "data" 1540),(.str "d" 1541),(.str "ver" 1542)] 0) #[])
noncomputable def o890 : Params → Obj := fun P => (PySem.Obj.mk (.type "tuple") none (.seq #[] 0) #[])
noncomputable def o892 : Params → Obj := fun P => (PySem.Obj.mk (.type "code") none (.fields #[(.str "address" 1534),(.str "Script.address" 1535),(.str "/claim/cut.py" 1536),(.int 636 0),(.int 2 0),(.int 0 0),(.int 0 0),(.int 3 0),(.ref 887),(.bool @Bool.true),(.int 181 0),(.ref 888),vN,(.ref 889),(.ref 890),(.ref 891),(.int 1543 0),(.int 636 0),(.str "/claim/cut.py" 1544)]) #[])
noncomputable def o893 : Params → Obj := fun P => (PySem.Obj.mk (.type "function") none (mkT "address" "Script.address" 3 [] (.ref 886) vN vN (.str "embit.script" 1509) none (.ref 892) vN 0 : T (fnD (nth (clsB (nth pb 47)) 1))) #[])
noncomputable def o894 : Params → Obj := fun P => (PySem.Obj.mk (.type "tuple") none (.seq #[] 0) #[])
noncomputable def o896 : Params → Obj := fun P => (PySem.Obj.mk (.type "tuple") none (.seq #[(.str "self" 1549),(.str "data" 1550)] 0) #[])
noncomputable def o897 : Params → Obj := fun P => (PySem.Obj.mk (.type "tuple") none (.seq #[] 0) #[])
noncomputable def o899 : Params → Obj := fun P => (PySem.Obj.mk (.type "code") none (.fields #[(.str "push" 1546),(.str "Script.push" 1547),(.str "/claim/cut.py" 1548),(.int 654 0),(.int 2 0),(.int 0 0),(.int 0 0),(.int 3 0),(.ref 894),(.bool @Bool.true),(.int 181 0),(.ref 895),vN,(.ref 896),(.ref 897),(.ref 898),(.int 1551 0),(.int 654 0),(.str "/claim/cut.py" 1552)]) #[])
noncomputable def o900 : Params → Obj := fun P => (PySem.Obj.mk (.type "function") none (mkT "push" "Script.push" 3 [] vN vN vN (.str "embit.script" 1509) none (.ref 899) vN 0 : T (fnD (nth (clsB (nth pb 47)) 2))) #[])
noncomputable def o901 : Params → Obj := fun P => (PySem.Obj.mk (.type "tuple") none (.seq #[] 0) #[])
noncomputable def o903 : Params → Obj := fun P => (PySem.Obj.mk (.type "tuple") none (.seq #[(.str "self" 1557),(.str "data" 1558)] 0) #[])
noncomputable def o904 : Params → Obj := fun P => (PySem.Obj.mk (.type "tuple") none (.seq #[] 0) #[])
noncomputable def o906 : Params → Obj := fun P => (PySem.Obj.mk (.type "code") none (.fields #[(.str "script_type" 1554),(.str "Script.script_type" 1555),(.str "/claim/cut.py" 1556),(.int 657 0),(.int 1 0),(.int 0 0),(.int 0 0),(.int 3 0),(.ref 901),(.bool @Bool.true),(.int 181 0),(.ref 902),vN,(.ref 903),(.ref 904),(.ref 905),(.int 1559 0),(.int 657 0),(.str "/claim/cut.py" 1560)]) #[])
noncomputable def o907 : Params → Obj := fun P => (PySem.Obj.mk (.type "function") none (mkT "script_type" "Script.script_type" 3 [] vN vN vN (.str "embit.script" 1509) none (.ref 906) vN 0 : T (fnD (nth (clsB (nth pb 47)) 3))) #[])
noncomputable def o908 : Params → Obj := fun P => (PySem.Obj.mk (.type "tuple") none (.seq #[] 0) #[])
noncomputable def o910 : Params → Obj := fun P => (PySem.Obj.mk (.type "tuple") none (.seq #[(.str "self" 1565),(.str "stream" 1566),(.str "res" 1567)] 0) #[])
noncomputable def o911 : Params → Obj := fun P => (PySem.Obj.mk (.type "tuple") none (.seq #[] 0) #[])
noncomputable def o913 : Params → Obj := fun P => (PySem.Obj.mk (.type "code") none (.fields #[(.str "write_to" 1562),(.str "Script.write_to" 1563),(.str "/claim/cut.py" 1564),(.int 671 0),(.int 2 0),(.int 0 0),(.int 0 0),(.int 3 0),(.ref 908),(.bool @Bool.true),(.int 181 0),(.ref 909),vN,(.ref 910),(.ref 911),(.ref 912),(.int 1568 0),(.int 671 0),(.str "/claim/cut.py" 1569)]) #[])
noncomputable def o914 : Params → Obj := fun P => (PySem.Obj.mk (.type "function") none (mkT "write_to" "Script.write_to" 3 [] vN vN vN (.str "embit.script" 1509) none (.ref 913) vN 0 : T (fnD (nth (clsB (nth pb 47)) 4))) #[])
noncomputable def o915 : Params → Obj := fun P => (PySem.Obj.mk (.type "tuple") none (.seq #[] 0) #[])
noncomputable def o917 : Params → Obj := fun P => (PySem.Obj.mk (.type "tuple") none (.seq #[(.str "cls" 1574),(.str "stream" 1575)] 0) #[])
noncomputable def o918 : Params → Obj := fun P => (PySem.Obj.mk (.type "tuple") none (.seq #[] 0) #[])
noncomputable def o920 : Params → Obj := fun P => (PySem.Obj.mk (.type "code") none (.fields #[(.str "read_from" 1571),(.str "Script.read_from" 1572),(.str "/claim/cut.py" 1573),(.int 676 0),(.int 2 0),(.int 0 0),(.int 0 0),(.int 3 0),(.ref 915),(.bool @Bool.true),(.int 181 0),(.ref 916),vN,(.ref 917),(.ref 918),(.ref 919),(.int 1576 0),(.int 676 0),(.str "/claim/cut.py" 1577)]) #[])
noncomputable def o921 : Params → Obj := fun P => (PySem.Obj.mk (.type "function") none (mkT "read_from" "Script.read_from" 3 [] vN vN vN (.str "embit.script" 1509) (Option.some 924) (.ref 920) vN 0 : T (fnD (nth (clsB (nth pb 47)) 5))) #[])
noncomputable def o922 : Params → Obj := fun P => (PySem.Obj.mk (.type "dict") none (.dict #[(PySem.DictEntry.mk (PySem.PyData.keyHash P "__module__") (.str "__module__" 1579) (.str "embit.script" 1509)),(PySem.DictEntry.mk (PySem.PyData.keyHash P "__name__") (.str "__name__" 1582) (.str "read_from" 1581)),(PySem.DictEntry.mk (PySem.PyData.keyHash P "__qualname__") (.str "__qualname__" 1585) (.str "Script.read_from" 1584)),(PySem.DictEntry.mk (PySem.PyData.keyHash P "__doc__") (.str "__doc__" 1587) vN),(PySem.DictEntry.mk (PySem.PyData.keyHash P "__annotations__") (.str "__annotations__" 1589) (.ref 924))] 5) #[])
noncomputable def o923 : Params → Obj := fun P => (PySem.Obj.mk (.type "classmethod") (Option.some 922) (.fields #[(.ref 921),(.bool @Bool.false)]) #[])
noncomputable def o924 : Params → Obj := fun P => (PySem.Obj.mk (.type "dict") none (.dict #[] 0) #[])
noncomputable def o925 : Params → Obj := fun P => (PySem.Obj.mk (.type "tuple") none (.seq #[] 0) #[])
noncomputable def o927 : Params → Obj := fun P => (PySem.Obj.mk (.type "tuple") none (.seq #[(.str "cls" 1594),(.str "addr" 1595)] 0) #[])
noncomputable def o928 : Params → Obj := fun P => (PySem.Obj.mk (.type "tuple") none (.seq #[] 0) #[])
noncomputable def o930 : Params → Obj := fun P => (PySem.Obj.mk (.type "code") none (.fields #[(.str "from_address" 1591),(.str "Script.from_address" 1592),(.str "/claim/cut.py" 1593),(.int 680 0),(.int 2 0),(.int 0 0),(.int 0 0),(.int 3 0),(.ref 925),(.bool @Bool.true),(.int 181 0),(.ref 926),vN,(.ref 927),(.ref 928),(.ref 929),(.int 1596 0),(.int 680 0),(.str "/claim/cut.py" 1597)]) #[])
noncomputable def o931 : Params → Obj := fun P => (PySem.Obj.mk (.type "function") none (mkT "from_address" "Script.from_address" 3 [] vN vN vN (.str "embit.script" 1509) (Option.some 934) (.ref 930) vN 0 : T (fnD (nth (clsB (nth pb 47)) 6))) #[])
noncomputable def o932 : Params → Obj := fun P => (PySem.Obj.mk (.type "dict") none (.dict #[(PySem.DictEntry.mk (PySem.PyData.keyHash P "__module__") (.str "__module__" 1599) (.str "embit.script" 1509)),(PySem.DictEntry.mk (PySem.PyData.keyHash P "__name__") (.str "__name__" 1602) (.str "from_address" 1601)),(PySem.DictEntry.mk (PySem.PyData.keyHash P "__qualname__") (.str "__qualname__" 1605) (.str "Script.from_address" 1604)),(PySem.DictEntry.mk (PySem.PyData.keyHash P "__doc__") (.str "__doc__" 1607) vN),(PySem.DictEntry.mk (PySem.PyData.keyHash P "__annotations__") (.str "__annotations__" 1609) (.ref 934))] 5) #[])
noncomputable def o933 : Params → Obj := fun P => (PySem.Obj.mk (.type "classmethod") (Option.some 932) (.fields #[(.ref 931),(.bool @Bool.false)]) #[])
noncomputable def o934 : Params → Obj := fun P => (PySem.Obj.mk (.type "dict") none (.dict #[] 0) #[])
noncomputable def o935 : Params → Obj := fun P => (PySem.Obj.mk (.type "tuple") none (.seq #[] 0) #[])
noncomputable def o937 : Params → Obj := fun P => (PySem.Obj.mk (.type "tuple") none (.seq #[(.str "self" 1614),(.str "other" 1615)] 0) #[])
noncomputable def o938 : Params → Obj := fun P => (PySem.Obj.mk (.type "tuple") none (.seq #[] 0) #[])
noncomputable def o940 : Params → Obj := fun P => (PySem.Obj.mk (.type "code") none (.fields #[(.str "__eq__" 1611),(.str "Script.__eq__" 1612),(.str "/claim/cut.py" 1613),(.int 684 0),(.int 2 0),(.int 0 0),(.int 0 0),(.int 3 0),(.ref 935),(.bool @Bool.true),(.int 181 0),(.ref 936),vN,(.ref 937),(.ref 938),(.ref 939),(.int 1616 0),(.int 684 0),(.str "/claim/cut.py" 1617)]) #[])
noncomputable def o941 : Params → Obj := fun P => (PySem.Obj.mk (.type "function") none (mkT "__eq__" "Script.__eq__" 3 [] vN vN vN (.str "embit.script" 1509) none (.ref 940) vN 0 : T (fnD (nth (clsB (nth pb 47)) 7))) #[])
noncomputable def o942 : Params → Obj := fun P => (PySem.Obj.mk (.type "tuple") none (.seq #[] 0) #[])
noncomputable def o944 : Params → Obj := fun P => (PySem.Obj.mk (.type "tuple") none (.seq #[(.str "self" 1622),(.str "other" 1623)] 0) #[])
noncomputable def o945 : Params → Obj := fun P => (PySem.Obj.mk (.type "tuple") none (.seq #[] 0) #[])
noncomputable def o947 : Params → Obj := fun P => (PySem.Obj.mk (.type "code") none (.fields #[(.str "__ne__" 1619),(.str "Script.__ne__" 1620),(.str "/claim/cut.py" 1621),(.int 687 0),(.int 2 0),(.int 0 0),(.int 0 0),(.int 3 0),(.ref 942),(.bool @Bool.true),(.int 181 0),(.ref 943),vN,(.ref 944),(.ref 945),(.ref 946),(.int 1624 0),(.int 687 0),(.str "/claim/cut.py" 1625)]) #[])
noncomputable def o948 : Params → Obj := fun P => (PySem.Obj.mk (.type "function") none (mkT "__ne__" "Script.__ne__" 3 [] vN vN vN (.str "embit.script" 1509) none (.ref 947) vN 0 : T (fnD (nth (clsB (nth pb 47)) 8))) #[])
noncomputable def o949 : Params → Obj := fun P => (PySem.Obj.mk (.type "tuple") none (.seq #[] 0) #[])
noncomputable def o951 : Params → Obj := fun P => (PySem.Obj.mk (.type "tuple") none (.seq #[(.str "self" 1630)] 0) #[])
noncomputable def o952 : Params → Obj := fun P => (PySem.Obj.mk (.type "tuple") none (.seq #[] 0) #[])
noncomputable def o954 : Params → Obj := fun P => (PySem.Obj.mk (.type "code") none (.fields #[(.str "__hash__" 1627),(.str "Script.__hash__" 1628),(.str "/claim/cut.py" 1629),(.int 690 0),(.int 1 0),(.int 0 0),(.int 0 0),(.int 3 0),(.ref 949),(.bool @Bool.true),(.int 181 0),(.ref 950),vN,(.ref 951),(.ref 952),(.ref 953),(.int 1631 0),(.int 690 0),(.str "/claim/cut.py" 1632)]) #[])
noncomputable def o955 : Params → Obj := fun P => (PySem.Obj.mk (.type "function") none (mkT "__hash__" "Script.__hash__" 3 [] vN vN vN (.str "embit.script" 1509) none (.ref 954) vN 0 : T (fnD (nth (clsB (nth pb 47)) 9))) #[])
noncomputable def o956 : Params → Obj := fun P => (PySem.Obj.mk (.type "tuple") none (.seq #[] 0) #[])
noncomputable def o958 : Params → Obj := fun P => (PySem.Obj.mk (.type "tuple") none (.seq #[(.str "self" 1637)] 0) #[])
noncomputable def o959 : Params → Obj := fun P => (PySem.Obj.mk (.type "tuple") none (.seq #[] 0) #[])
noncomputable def o961 : Params → Obj := fun P => (PySem.Obj.mk (.type "code") none (.fields #[(.str "__len__" 1634),(.str "Script.__len__" 1635),(.str "/claim/cut.py" 1636),(.int 693 0),(.int 1 0),(.int 0 0),(.int 0 0),(.int 3 0),(.ref 956),(.bool @Bool.true),(.int 181 0),(.ref 957),vN,(.ref 958),(.ref 959),(.ref 960),(.int 1638 0),(.int 693 0),(.str "/claim/cut.py" 1639)]) #[])
noncomputable def o962 : Params → Obj := fun P => (PySem.Obj.mk (.type "function") none (mkT "__len__" "Script.__len__" 3 [] vN vN vN (.str "embit.script" 1509) none (.ref 961) vN 0 : T (fnD (nth (clsB (nth pb 47)) 10))) #[])
noncomputable def o963 : Params → Obj := fun P => (PySem.Obj.mk (.type "tuple") none (.seq #[(.str "data" 1641)] 0) #[])
noncomputable def o964 : Params → Obj := fun P => (PySem.Obj.mk (.type "dict") none (.dict #[(PySem.DictEntry.mk (PySem.PyData.keyHash P "__module__") (.str "__module__" 1518) (.str "embit.script" 1509)),(PySem.DictEntry.mk (PySem.PyData.keyHash P "__firstlineno__") (.str "__firstlineno__" 1522) (.int 631 1521)),(PySem.DictEntry.mk (PySem.PyData.keyHash P "__init__") (.str "__init__" 1531) (.ref 885)),(PySem.DictEntry.mk (PySem.PyData.keyHash P "address") (.str "address" 1545) (.ref 893)),(PySem.DictEntry.mk (PySem.PyData.keyHash P "push") (.str "push" 1553) (.ref 900)),(PySem.DictEntry.mk (PySem.PyData.keyHash P "script_type") (.str "script_type" 1561) (.ref 907)),(PySem.DictEntry.mk (PySem.PyData.keyHash P "write_to") (.str "write_to" 1570) (.ref 914)),(PySem.DictEntry.mk (PySem.PyData.keyHash P "read_from") (.str "read_from" 1590) (.ref 923)),(PySem.DictEntry.mk (PySem.PyData.keyHash P "from_address") (.str "from_address" 1610) (.ref 933)),(PySem.DictEntry.mk (PySem.PyData.keyHash P "__eq__") (.str "__eq__" 1618) (.ref 941)),(PySem.DictEntry.mk (PySem.PyData.keyHash P "__ne__") (.str "__ne__" 1626) (.ref 948)),(PySem.DictEntry.mk (PySem.PyData.keyHash P "__hash__") (.str "__hash__" 1633) (.ref 955)),(PySem.DictEntry.mk (PySem.PyData.keyHash P "__len__") (.str "__len__" 1640) (.ref 962)),(PySem.DictEntry.mk (PySem.PyData.keyHash P "__static_attributes__") (.str "__static_attributes__" 1642) (.ref 963)),(PySem.DictEntry.mk (PySem.PyData.keyHash P "__doc__") (.str "__doc__" 1643) vN)] 2) #[])
noncomputable def o965 : Params → Obj := fun P => (PySem.Obj.mk (.type "type") none (.cls (PySem.ClassData.mk "Script" [(.ref 866)] [(.ref 965),(.ref 866),(.type "object")] 964 "Script" @Bool.true [] [] @Bool.false none @Bool.false)) #[(Option.some (.ref 871)),none,(Option.some (.str "Script" 1511)),(Option.some (.str "Script" 1519)),(Option.some (.builtin "object.__new__")),(Option.some (.bool @Bool.true))])
noncomputable def o968 : Params → Obj := fun P => (PySem.Obj.mk (.type "tuple") none (.seq #[] 0) #[])
noncomputable def o970 : Params → Obj := fun P => (PySem.Obj.mk (.type "tuple") none (.seq #[(.str "addr" 1649),(.str "data" 1650),(.str "prefix" 1651),(.str "net" 1652),(.str "hrp" 1653),(.str "ver" 1654)] 0) #[])
noncomputable def o971 : Params → Obj := fun P => (PySem.Obj.mk (.type "tuple") none (.seq #[] 0) #[])
noncomputable def o973 : Params → Obj := fun P => (PySem.Obj.mk (.type "code") none (.fields #[(.str "address_to_scriptpubkey" 1646),(.str "address_to_scriptpubkey" 1647),(.str "/claim/cut.py" 1648),(.int 695 0),(.int 1 0),(.int 0 0),(.int 0 0),(.int 3 0),(.ref 968),(.bool @Bool.true),(.int 181 0),(.ref 969),vN,(.ref 970),(.ref 971),(.ref 972),(.int 1655 0),(.int 695 0),(.str "/claim/cut.py" 1656)]) #[])
noncomputable def o974 : Params → Obj := fun P => (PySem.Obj.mk (.type "function") none (mkT "address_to_scriptpubkey" "address_to_scriptpubkey" 3 [] vN vN vN (.str "embit.script" 1509) none (.ref 973) vN 0 : T (fnD (nth pb 48))) #[])
noncomputable def o975 : Params → Obj := fun P => (PySem.Obj.mk (.type "tuple") none (.seq #[] 0) #[])
noncomputable def o977 : Params → Obj := fun P => (PySem.Obj.mk (.type "tuple") none (.seq #[(.str "octets" 1663)] 0) #[])
noncomputable def o978 : Params → Obj := fun P => (PySem.Obj.mk (.type "tuple") none (.seq #[] 0) #[])
noncomputable def o980 : Params → Obj := fun P => (PySem.Obj.mk (.type "code") none (.fields #[(.str "_law_kind" 1660),(.str "_law_kind" 1661),(.str "/claim/cut.py" 1662),(.int 715 0),(.int 1 0),(.int 0 0),(.int 0 0),(.int 3 0),(.ref 975),(.bool @Bool.true),(.int 181 0),(.ref 976),vN,(.ref 977),(.ref 978),(.ref 979),(.int 1664 0),(.int 715 0),(.str "/claim/cut.py" 1665)]) #[])
noncomputable def o981 : Params → Obj := fun P => (PySem.Obj.mk (.type "function") none (mkT "_law_kind" "_law_kind" 3 [] vN vN vN (.str "law_fc0053_01" 1658) none (.ref 980) vN 0 : T (fnD (nth pb 50))) #[])
noncomputable def o982 : Params → Obj := fun P => (PySem.Obj.mk (.type "tuple") none (.seq #[] 0) #[])
noncomputable def o984 : Params → Obj := fun P => (PySem.Obj.mk (.type "tuple") none (.seq #[(.str "octets" 1670),(.str "network" 1671),(.str "kind" 1672)] 0) #[])
noncomputable def o985 : Params → Obj := fun P => (PySem.Obj.mk (.type "tuple") none (.seq #[] 0) #[])
noncomputable def o987 : Params → Obj := fun P => (PySem.Obj.mk (.type "code") none (.fields #[(.str "_law_address" 1667),(.str "_law_address" 1668),(.str "/claim/cut.py" 1669),(.int 723 0),(.int 2 0),(.int 0 0),(.int 0 0),(.int 3 0),(.ref 982),(.bool @Bool.true),(.int 181 0),(.ref 983),vN,(.ref 984),(.ref 985),(.ref 986),(.int 1673 0),(.int 723 0),(.str "/claim/cut.py" 1674)]) #[])
noncomputable def o988 : Params → Obj := fun P => (PySem.Obj.mk (.type "function") none (mkT "_law_address" "_law_address" 3 [] vN vN vN (.str "law_fc0053_01" 1658) none (.ref 987) vN 0 : T (fnD (nth pb 51))) #[])
noncomputable def o989 : Params → Obj := fun P => (PySem.Obj.mk (.type "tuple") none (.seq #[] 0) #[])
noncomputable def o991 : Params → Obj := fun P => (PySem.Obj.mk (.type "tuple") none (.seq #[(.str "text" 1679),(.str "octets" 1680),(.str "version" 1681),(.str "program" 1682)] 0) #[])
noncomputable def o992 : Params → Obj := fun P => (PySem.Obj.mk (.type "tuple") none (.seq #[] 0) #[])
noncomputable def o994 : Params → Obj := fun P => (PySem.Obj.mk (.type "code") none (.fields #[(.str "_law_read" 1676),(.str "_law_read" 1677),(.str "/claim/cut.py" 1678),(.int 730 0),(.int 1 0),(.int 0 0),(.int 0 0),(.int 3 0),(.ref 989),(.bool @Bool.true),(.int 181 0),(.ref 990),vN,(.ref 991),(.ref 992),(.ref 993),(.int 1683 0),(.int 730 0),(.str "/claim/cut.py" 1684)]) #[])
noncomputable def o995 : Params → Obj := fun P => (PySem.Obj.mk (.type "function") none (mkT "_law_read" "_law_read" 3 [] vN vN vN (.str "law_fc0053_01" 1658) none (.ref 994) vN 0 : T (fnD (nth pb 52))) #[])
noncomputable def o996 : Params → Obj := fun P => (PySem.Obj.mk (.type "tuple") none (.seq #[] 0) #[])
noncomputable def o998 : Params → Obj := fun P => (PySem.Obj.mk (.type "tuple") none (.seq #[(.str "text" 1689),(.str "found" 1690)] 0) #[])
noncomputable def o999 : Params → Obj := fun P => (PySem.Obj.mk (.type "tuple") none (.seq #[] 0) #[])
noncomputable def o1001 : Params → Obj := fun P => (PySem.Obj.mk (.type "code") none (.fields #[(.str "_law_told" 1686),(.str "_law_told" 1687),(.str "/claim/cut.py" 1688),(.int 747 0),(.int 1 0),(.int 0 0),(.int 0 0),(.int 3 0),(.ref 996),(.bool @Bool.true),(.int 181 0),(.ref 997),vN,(.ref 998),(.ref 999),(.ref 1000),(.int 1691 0),(.int 747 0),(.str "/claim/cut.py" 1692)]) #[])
noncomputable def o1002 : Params → Obj := fun P => (PySem.Obj.mk (.type "function") none (mkT "_law_told" "_law_told" 3 [] vN vN vN (.str "law_fc0053_01" 1658) none (.ref 1001) vN 0 : T (fnD (nth pb 53))) #[])
noncomputable def o1003 : Params → Obj := fun P => (PySem.Obj.mk (.type "tuple") none (.seq #[] 0) #[])
noncomputable def o1005 : Params → Obj := fun P => (PySem.Obj.mk (.type "tuple") none (.seq #[(.str "octets" 1697),(.str "network" 1698)] 0) #[])
noncomputable def o1006 : Params → Obj := fun P => (PySem.Obj.mk (.type "tuple") none (.seq #[] 0) #[])
noncomputable def o1008 : Params → Obj := fun P => (PySem.Obj.mk (.type "code") none (.fields #[(.str "_law_asked" 1694),(.str "_law_asked" 1695),(.str "/claim/cut.py" 1696),(.int 753 0),(.int 2 0),(.int 0 0),(.int 0 0),(.int 3 0),(.ref 1003),(.bool @Bool.true),(.int 181 0),(.ref 1004),vN,(.ref 1005),(.ref 1006),(.ref 1007),(.int 1699 0),(.int 753 0),(.str "/claim/cut.py" 1700)]) #[])
noncomputable def o1009 : Params → Obj := fun P => (PySem.Obj.mk (.type "function") none (mkT "_law_asked" "_law_asked" 3 [] vN vN vN (.str "law_fc0053_01" 1658) none (.ref 1008) vN 0 : T (fnD (nth pb 54))) #[])
noncomputable def o1010 : Params → Obj := fun P => (PySem.Obj.mk (.type "tuple") none (.seq #[] 0) #[])
noncomputable def o1012 : Params → Obj := fun P => (PySem.Obj.mk (.type "tuple") none (.seq #[(.str "text" 1705)] 0) #[])
noncomputable def o1013 : Params → Obj := fun P => (PySem.Obj.mk (.type "tuple") none (.seq #[] 0) #[])
noncomputable def o1015 : Params → Obj := fun P => (PySem.Obj.mk (.type "code") none (.fields #[(.str "_law_checked" 1702),(.str "_law_checked" 1703),(.str "/claim/cut.py" 1704),(.int 758 0),(.int 1 0),(.int 0 0),(.int 0 0),(.int 3 0),(.ref 1010),(.bool @Bool.true),(.int 181 0),(.ref 1011),vN,(.ref 1012),(.ref 1013),(.ref 1014),(.int 1706 0),(.int 758 0),(.str "/claim/cut.py" 1707)]) #[])
noncomputable def o1016 : Params → Obj := fun P => (PySem.Obj.mk (.type "function") none (mkT "_law_checked" "_law_checked" 3 [] vN vN vN (.str "law_fc0053_01" 1658) none (.ref 1015) vN 0 : T (fnD (nth pb 55))) #[])
noncomputable def o1017 : Params → Obj := fun P => (PySem.Obj.mk (.type "tuple") none (.seq #[] 0) #[])
noncomputable def o1020 : Params → Obj := fun P => (PySem.Obj.mk (.type "code") none (.fields #[(.str "law" 1709),(.str "law" 1710),(.str "/claim/cut.py" 1711),(.int 764 0),(.int 1 0),(.int 0 0),(.int 0 0),(.int 3 0),(.ref 1017),(.bool @Bool.true),(.int 181 0),(.ref 1018),vN,vN,vN,(.ref 1019),(.int 1712 0),(.int 764 0),(.str "/claim/cut.py" 1713)]) #[])
noncomputable def o1021 : Params → Obj := fun P => (PySem.Obj.mk (.type "function") none (mkT "law" "law" 3 [] vN vN vN (.str "law_fc0053_01" 1658) none (.ref 1020) vN 0 : T (fnD (nth pb 56))) #[])
noncomputable def heapK : Params → Frag := fun P => [(2, o2 P), (3, o3 P), (15, o15 P), (17, o17 P), (18, o18 P), (20, o20 P), (21, o21 P), (22, o22 P), (23, o23 P), (24, o24 P), (25, o25 P), (26, o26 P), (27, o27 P), (30, o30 P), (31, o31 P), (39, o39 P), (40, o40 P), (42, o42 P), (43, o43 P), (45, o45 P), (46, o46 P), (47, o47 P), (49, o49 P), (50, o50 P), (52, o52 P), (53, o53 P), (54, o54 P), (56, o56 P), (57, o57 P), (59, o59 P), (60, o60 P), (61, o61 P), (62, o62 P), (63, o63 P), (64, o64 P), (65, o65 P), (75, o75 P), (76, o76 P), (78, o78 P), (79, o79 P), (81, o81 P), (82, o82 P), (83, o83 P), (84, o84 P), (85, o85 P), (86, o86 P), (88, o88 P), (89, o89 P), (91, o91 P), (92, o92 P), (93, o93 P), (94, o94 P), (95, o95 P), (96, o96 P), (97, o97 P), (98, o98 P), (99, o99 P), (100, o100 P), (103, o103 P), (105, o105 P), (106, o106 P), (108, o108 P), (109, o109 P), (110, o110 P), (112, o112 P), (113, o113 P), (115, o115 P), (116, o116 P), (117, o117 P), (119, o119 P), (120, o120 P), (122, o122 P), (123, o123 P), (124, o124 P), (126, o126 P), (127, o127 P), (129, o129 P), (130, o130 P), (131, o131 P), (133, o133 P), (134, o134 P), (136, o136 P), (137, o137 P), (145, o145 P), (146, o146 P), (147, o147 P), (148, o148 P), (149, o149 P), (152, o152 P), (154, o154 P), (155, o155 P), (157, o157 P), (158, o158 P), (159, o159 P), (162, o162 P), (163, o163 P), (164, o164 P), (166, o166 P), (167, o167 P), (169, o169 P), (170, o170 P), (171, o171 P), (174, o174 P), (175, o175 P), (176, o176 P), (179, o179 P), (180, o180 P), (181, o181 P), (184, o184 P), (185, o185 P), (186, o186 P), (187, o187 P), (189, o189 P), (190, o190 P), (192, o192 P), (193, o193 P), (194, o194 P), (196, o196 P), (197, o197 P), (199, o199 P), (200, o200 P), (201, o201 P), (203, o203 P), (204, o204 P), (206, o206 P), (207, o207 P), (208, o208 P), (210, o210 P), (211, o211 P), (213, o213 P), (214, o214 P), (215, o215 P), (217, o217 P), (218, o218 P), (220, o220 P), (221, o221 P), (222, o222 P), (224, o224 P), (225, o225 P), (227, o227 P), (228, o228 P), (229, o229 P), (236, o236 P), (237, o237 P), (238, o238 P), (239, o239 P), (249, o249 P), (251, o251 P), (252, o252 P), (254, o254 P), (255, o255 P), (256, o256 P), (257, o257 P), (258, o258 P), (259, o259 P), (260, o260 P), (261, o261 P), (264, o264 P), (271, o271 P), (272, o272 P), (273, o273 P), (276, o276 P), (283, o283 P), (284, o284 P), (285, o285 P), (288, o288 P), (295, o295 P), (296, o296 P), (298, o298 P), (299, o299 P), (301, o301 P), (302, o302 P), (303, o303 P), (305, o305 P), (306, o306 P), (308, o308 P), (309, o309 P), (310, o310 P), (312, o312 P), (313, o313 P), (315, o315 P), (316, o316 P), (317, o317 P), (319, o319 P), (320, o320 P), (322, o322 P), (323, o323 P), (324, o324 P), (325, o325 P), (327, o327 P), (328, o328 P), (330, o330 P), (331, o331 P), (332, o332 P), (334, o334 P), (335, o335 P), (337, o337 P), (338, o338 P), (339, o339 P), (341, o341 P), (342, o342 P), (344, o344 P), (345, o345 P), (346, o346 P), (348, o348 P), (349, o349 P), (351, o351 P), (352, o352 P), (353, o353 P), (355, o355 P), (356, o356 P), (358, o358 P), (359, o359 P), (360, o360 P), (362, o362 P), (363, o363 P), (365, o365 P), (366, o366 P), (367, o367 P), (369, o369 P), (370, o370 P), (372, o372 P), (373, o373 P), (374, o374 P), (376, o376 P), (377, o377 P), (379, o379 P), (380, o380 P), (381, o381 P), (383, o383 P), (384, o384 P), (386, o386 P), (387, o387 P), (388, o388 P), (390, o390 P), (391, o391 P), (393, o393 P), (394, o394 P), (395, o395 P), (397, o397 P), (398, o398 P), (400, o400 P), (401, o401 P), (402, o402 P), (404, o404 P), (405, o405 P), (407, o407 P), (408, o408 P), (409, o409 P), (411, o411 P), (412, o412 P), (414, o414 P), (415, o415 P), (416, o416 P), (417, o417 P), (419, o419 P), (420, o420 P), (422, o422 P), (423, o423 P), (424, o424 P), (425, o425 P), (427, o427 P), (428, o428 P), (430, o430 P), (431, o431 P), (432, o432 P), (433, o433 P), (435, o435 P), (436, o436 P), (438, o438 P), (439, o439 P), (440, o440 P), (441, o441 P), (443, o443 P), (444, o444 P), (446, o446 P), (447, o447 P), (448, o448 P), (450, o450 P), (451, o451 P), (453, o453 P), (454, o454 P), (455, o455 P), (457, o457 P), (458, o458 P), (460, o460 P), (461, o461 P), (462, o462 P), (463, o463 P), (465, o465 P), (466, o466 P), (468, o468 P), (469, o469 P), (470, o470 P), (471, o471 P), (473, o473 P), (474, o474 P), (476, o476 P), (477, o477 P), (478, o478 P), (480, o480 P), (481, o481 P), (483, o483 P), (484, o484 P), (485, o485 P), (487, o487 P), (488, o488 P), (490, o490 P), (491, o491 P), (492, o492 P), (494, o494 P), (495, o495 P), (497, o497 P), (498, o498 P), (499, o499 P), (501, o501 P), (502, o502 P), (504, o504 P), (505, o505 P), (506, o506 P), (508, o508 P), (509, o509 P), (511, o511 P), (512, o512 P), (513, o513 P), (514, o514 P), (515, o515 P), (518, o518 P), (525, o525 P), (526, o526 P), (528, o528 P), (529, o529 P), (531, o531 P), (532, o532 P), (533, o533 P), (535, o535 P), (536, o536 P), (538, o538 P), (539, o539 P), (540, o540 P), (542, o542 P), (543, o543 P), (545, o545 P), (546, o546 P), (547, o547 P), (549, o549 P), (550, o550 P), (552, o552 P), (553, o553 P), (554, o554 P), (556, o556 P), (557, o557 P), (559, o559 P), (560, o560 P), (561, o561 P), (563, o563 P), (564, o564 P), (566, o566 P), (567, o567 P), (568, o568 P), (569, o569 P), (571, o571 P), (572, o572 P), (574, o574 P), (575, o575 P), (576, o576 P), (577, o577 P), (579, o579 P), (580, o580 P), (582, o582 P), (583, o583 P), (584, o584 P), (585, o585 P), (587, o587 P), (588, o588 P), (590, o590 P), (591, o591 P), (592, o592 P), (593, o593 P), (595, o595 P), (596, o596 P), (598, o598 P), (599, o599 P), (600, o600 P), (601, o601 P), (603, o603 P), (604, o604 P), (606, o606 P), (607, o607 P), (608, o608 P), (610, o610 P), (611, o611 P), (613, o613 P), (614, o614 P), (615, o615 P), (617, o617 P), (618, o618 P), (620, o620 P), (621, o621 P), (622, o622 P), (624, o624 P), (625, o625 P), (627, o627 P), (628, o628 P), (629, o629 P), (631, o631 P), (632, o632 P), (634, o634 P), (635, o635 P), (636, o636 P), (638, o638 P), (639, o639 P), (641, o641 P), (642, o642 P), (643, o643 P), (645, o645 P), (646, o646 P), (648, o648 P), (649, o649 P), (650, o650 P), (652, o652 P), (653, o653 P), (655, o655 P), (656, o656 P), (657, o657 P), (659, o659 P), (660, o660 P), (662, o662 P), (663, o663 P), (664, o664 P), (666, o666 P), (667, o667 P), (669, o669 P), (670, o670 P), (671, o671 P), (673, o673 P), (674, o674 P), (676, o676 P), (677, o677 P), (678, o678 P), (680, o680 P), (681, o681 P), (683, o683 P), (684, o684 P), (685, o685 P), (686, o686 P), (688, o688 P), (689, o689 P), (691, o691 P), (692, o692 P), (693, o693 P), (694, o694 P), (696, o696 P), (697, o697 P), (699, o699 P), (700, o700 P), (701, o701 P), (702, o702 P), (704, o704 P), (705, o705 P), (707, o707 P), (708, o708 P), (709, o709 P), (710, o710 P), (712, o712 P), (713, o713 P), (715, o715 P), (716, o716 P), (717, o717 P), (718, o718 P), (720, o720 P), (721, o721 P), (723, o723 P), (724, o724 P), (725, o725 P), (727, o727 P), (728, o728 P), (730, o730 P), (731, o731 P), (732, o732 P), (734, o734 P), (735, o735 P), (737, o737 P), (738, o738 P), (739, o739 P), (741, o741 P), (742, o742 P), (744, o744 P), (745, o745 P), (746, o746 P), (748, o748 P), (749, o749 P), (751, o751 P), (752, o752 P), (753, o753 P), (755, o755 P), (756, o756 P), (758, o758 P), (759, o759 P), (760, o760 P), (761, o761 P), (762, o762 P), (765, o765 P), (772, o772 P), (773, o773 P), (774, o774 P), (775, o775 P), (785, o785 P), (787, o787 P), (788, o788 P), (790, o790 P), (791, o791 P), (792, o792 P), (793, o793 P), (794, o794 P), (795, o795 P), (797, o797 P), (798, o798 P), (800, o800 P), (801, o801 P), (802, o802 P), (803, o803 P), (804, o804 P), (805, o805 P), (807, o807 P), (808, o808 P), (810, o810 P), (811, o811 P), (812, o812 P), (814, o814 P), (815, o815 P), (817, o817 P), (818, o818 P), (819, o819 P), (821, o821 P), (822, o822 P), (824, o824 P), (825, o825 P), (826, o826 P), (828, o828 P), (829, o829 P), (831, o831 P), (832, o832 P), (833, o833 P), (834, o834 P), (835, o835 P), (836, o836 P), (838, o838 P), (839, o839 P), (841, o841 P), (842, o842 P), (843, o843 P), (845, o845 P), (846, o846 P), (848, o848 P), (849, o849 P), (850, o850 P), (852, o852 P), (853, o853 P), (855, o855 P), (856, o856 P), (857, o857 P), (859, o859 P), (860, o860 P), (862, o862 P), (863, o863 P), (864, o864 P), (865, o865 P), (866, o866 P), (867, o867 P), (868, o868 P), (871, o871 P), (878, o878 P), (879, o879 P), (881, o881 P), (882, o882 P), (884, o884 P), (885, o885 P), (886, o886 P), (887, o887 P), (889, o889 P), (890, o890 P), (892, o892 P), (893, o893 P), (894, o894 P), (896, o896 P), (897, o897 P), (899, o899 P), (900, o900 P), (901, o901 P), (903, o903 P), (904, o904 P), (906, o906 P), (907, o907 P), (908, o908 P), (910, o910 P), (911, o911 P), (913, o913 P), (914, o914 P), (915, o915 P), (917, o917 P), (918, o918 P), (920, o920 P), (921, o921 P), (922, o922 P), (923, o923 P), (924, o924 P), (925, o925 P), (927, o927 P), (928, o928 P), (930, o930 P), (931, o931 P), (932, o932 P), (933, o933 P), (934, o934 P), (935, o935 P), (937, o937 P), (938, o938 P), (940, o940 P), (941, o941 P), (942, o942 P), (944, o944 P), (945, o945 P), (947, o947 P), (948, o948 P), (949, o949 P), (951, o951 P), (952, o952 P), (954, o954 P), (955, o955 P), (956, o956 P), (958, o958 P), (959, o959 P), (961, o961 P), (962, o962 P), (963, o963 P), (964, o964 P), (965, o965 P), (968, o968 P), (970, o970 P), (971, o971 P), (973, o973 P), (974, o974 P), (975, o975 P), (977, o977 P), (978, o978 P), (980, o980 P), (981, o981 P), (982, o982 P), (984, o984 P), (985, o985 P), (987, o987 P), (988, o988 P), (989, o989 P), (991, o991 P), (992, o992 P), (994, o994 P), (995, o995 P), (996, o996 P), (998, o998 P), (999, o999 P), (1001, o1001 P), (1002, o1002 P), (1003, o1003 P), (1005, o1005 P), (1006, o1006 P), (1008, o1008 P), (1009, o1009 P), (1010, o1010 P), (1012, o1012 P), (1013, o1013 P), (1015, o1015 P), (1016, o1016 P), (1017, o1017 P), (1020, o1020 P), (1021, o1021 P)]
end Mine
end
section
set_option maxRecDepth 100000
set_option linter.unusedVariables false
namespace Mine
open PySem PySem.W PyProof.Rows PySem.Calls PySem.Spec

abbrev pw : Program := PySem.Challenge.pw_fc0053_01
noncomputable abbrev Kf (w : World) : Frag := Mine.heapK w.params
abbrev Mw (w : World) : Model := model pw w
/-- the address of bech32_decode's table of generator codes -/
abbrev gP : Addr := 182

/-- plain data that a value stands for -/
inductive Dat where
  | none | bool (b : Bool) | int (i : Int) | str (s : Str) | bytes (b : Array UInt8)
  | list (xs : List Dat) | tup (xs : List Dat) | inst (c : Addr) (b : Array UInt8) | cst (v : Value) | own (a : Addr) (p : Bool) (xs : List Dat)

/-- objects are kept, but frames (F), whose slots alone may change, and the table gP -/
structure Gr (F : List Addr) (h h' : Heap) : Prop where
  kc : ∀ b o, h.get? b = some o → b ≠ gP → b ∉ F → h'.get? b = some o
  kf : ∀ b m, h.Ns b m → b ∈ F → h'.Ns b m

theorem Gr.refl (F : List Addr) (h : Heap) : Gr F h h := ⟨fun _ _ e _ _ => e, fun _ _ e _ => e⟩
theorem Gr.trans {F : List Addr} {h₁ h₂ h₃ : Heap} (x : Gr F h₁ h₂) (y : Gr F h₂ h₃) : Gr F h₁ h₃ :=
  ⟨fun b o e p q => y.kc b o (x.kc b o e p q) p q, fun b n e m => y.kf b n (x.kf b n e m) m⟩
theorem Gr.of_keep {F : List Addr} {h h' : Heap} (k : ∀ b o, h.get? b = some o → h'.get? b = some o) : Gr F h h' :=
  ⟨fun b o e _ _ => k b o e, fun b m e _ => e.keeps k⟩
theorem Gr.push {F : List Addr} {h h' : Heap} (x : Gr F h h') (o : Obj) : Gr F h (h'.push o) :=
  x.trans (.of_keep fun _ _ e => Heap.get?_push_of_some _ e)
/-- a change at an address that h does not hold -/
theorem Gr.but {F : List Addr} {h h₁ h₂ : Heap} {a : Addr} (x : Gr F h h₁) (ha : h.get? a = none) (k : ∀ b o, b ≠ a → h₁.get? b = some o → h₂.get? b = some o) : Gr F h h₂ := by
  have ne : ∀ b o, h.get? b = some o → b ≠ a := fun b o e q => by rw [q, ha] at e; cases e
  refine ⟨fun b o e p q => k b o (ne b o e) (x.kc b o e p q), fun b n e m => ?_⟩
  obtain ⟨o, es, ep, ho, r⟩ := x.kf b n e m
  obtain ⟨o0, _, _, h0, _⟩ := e
  exact ⟨o, es, ep, k b o (ne b o0 h0) ho, r⟩
theorem Gr.less {F F' : List Addr} {h h' : Heap} (x : Gr F h h') (hs : ∀ b ∈ F', b ∈ F) (hn : ∀ b ∈ F, b ∉ F' → h.get? b = none) : Gr F' h h' :=
  ⟨fun b o e p q => x.kc b o e p fun m => (by rw [hn b m q] at e; cases e), fun b o e m => x.kf b o e (hs b m)⟩
theorem Gr.ns {F : List Addr} {h h' : Heap} (x : Gr F h h') {a : Addr} {m : Str → Option Value} (hn : h.Ns a m) (p : a ≠ gP) : h'.Ns a m := by
  rcases Classical.em (a ∈ F) with q | q
  · exact x.kf a m hn q
  · obtain ⟨o, es, ep, ho, r⟩ := hn
    exact ⟨o, es, ep, x.kc a o ho p q, r⟩

mutual
/-- the value stands for the data; its objects are no frames -/
inductive Rep (F : List Addr) (h : Heap) : Value → Dat → Prop
  | none : Rep F h .none .none
  | bool (b) : Rep F h (.bool b) (.bool b)
  | int (i t) : Rep F h (.int i t) (.int i)
  | str (x t) : Rep F h (.str x t) (.str x)
  | bytes (b t) : Rep F h (.bytes b t) (.bytes b)
  | list {a vs ds} : h.IsList a vs.toArray → a ∉ F → a ≠ gP → Reps F h vs ds → Rep F h (.ref a) (.list ds)
  | tup {a vs ds} : h.IsTuple a vs.toArray → a ∉ F → a ≠ gP → Reps F h vs ds → Rep F h (.ref a) (.tup ds)
  | inst {a dx c b t hh tk} : h.get? a = some (instObj c dx) → h.get? dx = some { cls := .type "dict", data := .dict #[⟨hh, .str "data" tk, .bytes b t⟩] 1 } →
      a ∉ F → a ≠ gP → dx ∉ F → dx ≠ gP → Rep F h (.ref a) (.inst c b)
  | cst (v) : Rep F h v (.cst v)
  | own {a p vs ds} : h.IsList a vs.toArray → (p = true → PlainL h a vs.toArray) → a ∉ F → a ≠ gP → Reps F h vs ds → Rep F h (.ref a) (.own a p ds)
inductive Reps (F : List Addr) (h : Heap) : List Value → List Dat → Prop
  | nil : Reps F h [] []
  | cons {v d vs ds} : Rep F h v d → Reps F h vs ds → Reps F h (v :: vs) (d :: ds)
end

theorem IsList.gr {F : List Addr} {h h' : Heap} (x : Gr F h h') {a : Addr} {vs : Array Value} (hl : h.IsList a vs) (q : a ∉ F) (p : a ≠ gP) : h'.IsList a vs := by
  obtain ⟨o, ho, r⟩ := hl
  exact ⟨o, x.kc a o ho p q, r⟩
theorem PlainL.gr {F : List Addr} {h h' : Heap} (x : Gr F h h') {a : Addr} {vs : Array Value} (hl : PlainL h a vs) (q : a ∉ F) (p : a ≠ gP) : PlainL h' a vs := by
  obtain ⟨o, n, ho, r⟩ := hl
  exact ⟨o, n, x.kc a o ho p q, r⟩
theorem IsTuple.gr {F : List Addr} {h h' : Heap} (x : Gr F h h') {a : Addr} {vs : Array Value} (hl : h.IsTuple a vs) (q : a ∉ F) (p : a ≠ gP) : h'.IsTuple a vs := by
  obtain ⟨o, ho, r⟩ := hl
  exact ⟨o, x.kc a o ho p q, r⟩

mutual
theorem Rep.gr {F : List Addr} {h h' : Heap} (x : Gr F h h') : ∀ {v : Value} {d : Dat}, Rep F h v d → Rep F h' v d
  | _, _, .none => .none
  | _, _, .bool b => .bool b
  | _, _, .int i t => .int i t
  | _, _, .str y t => .str y t
  | _, _, .bytes b t => .bytes b t
  | _, _, .list hl m p r => .list (IsList.gr x hl m p) m p (Reps.gr x r)
  | _, _, .tup hl m p r => .tup (IsTuple.gr x hl m p) m p (Reps.gr x r)
  | _, _, .inst h1 h2 m p m' p' => .inst (x.kc _ _ h1 p m) (x.kc _ _ h2 p' m') m p m' p'
  | _, _, .cst v => .cst v
  | _, _, .own hl q m p r => .own (IsList.gr x hl m p) (fun e => PlainL.gr x (q e) m p) m p (Reps.gr x r)
theorem Reps.gr {F : List Addr} {h h' : Heap} (x : Gr F h h') : ∀ {vs : List Value} {ds : List Dat}, Reps F h vs ds → Reps F h' vs ds
  | _, _, .nil => .nil
  | _, _, .cons a b => .cons (Rep.gr x a) (Reps.gr x b)
end

theorem IsList.lt {h : Heap} {a : Addr} {vs : Array Value} (hl : h.IsList a vs) : a < h.objs.size := let ⟨_, ho, _⟩ := hl; Heap.lt_size ho
theorem IsTuple.lt {h : Heap} {a : Addr} {vs : Array Value} (hl : h.IsTuple a vs) : a < h.objs.size := let ⟨_, ho, _⟩ := hl; Heap.lt_size ho

mutual
/-- fewer frames -/
theorem Rep.less {F F' : List Addr} {h : Heap} (s : ∀ b ∈ F', b ∈ F) : ∀ {v : Value} {d : Dat}, Rep F h v d → Rep F' h v d
  | _, _, .none => .none
  | _, _, .bool b => .bool b
  | _, _, .int i t => .int i t
  | _, _, .str y t => .str y t
  | _, _, .bytes b t => .bytes b t
  | _, _, .list hl m p r => .list hl (fun q => m (s _ q)) p (Reps.less s r)
  | _, _, .tup hl m p r => .tup hl (fun q => m (s _ q)) p (Reps.less s r)
  | _, _, .inst h1 h2 m p m' p' => .inst h1 h2 (fun q => m (s _ q)) p (fun q => m' (s _ q)) p'
  | _, _, .cst v => .cst v
  | _, _, .own hl z m p r => .own hl z (fun q => m (s _ q)) p (Reps.less s r)
theorem Reps.less {F F' : List Addr} {h : Heap} (s : ∀ b ∈ F', b ∈ F) : ∀ {vs : List Value} {ds : List Dat}, Reps F h vs ds → Reps F' h vs ds
  | _, _, .nil => .nil
  | _, _, .cons a b => .cons (Rep.less s a) (Reps.less s b)
end
theorem not_mem_cons' {L a : Addr} {F : List Addr} {h : Heap} (hL : h.objs.size ≤ L) (hlt : a < h.objs.size) (m : a ∉ F) : a ∉ L :: F := fun q => by
  rcases List.mem_cons.mp q with q | q
  · subst q; exact absurd hlt (Nat.not_lt.mpr hL)
  · exact m q
mutual
/-- a new frame -/
theorem Rep.more {F : List Addr} {h : Heap} {L : Addr} (hL : h.objs.size ≤ L) : ∀ {v : Value} {d : Dat}, Rep F h v d → Rep (L :: F) h v d
  | _, _, .none => .none
  | _, _, .bool b => .bool b
  | _, _, .int i t => .int i t
  | _, _, .str y t => .str y t
  | _, _, .bytes b t => .bytes b t
  | _, _, .list hl m p r => .list hl (not_mem_cons' hL (IsList.lt hl) m) p (Reps.more hL r)
  | _, _, .tup hl m p r => .tup hl (not_mem_cons' hL (IsTuple.lt hl) m) p (Reps.more hL r)
  | _, _, .inst h1 h2 m p m' p' => .inst h1 h2 (not_mem_cons' hL (Heap.lt_size h1) m) p (not_mem_cons' hL (Heap.lt_size h2) m') p'
  | _, _, .cst v => .cst v
  | _, _, .own hl z m p r => .own hl z (not_mem_cons' hL (IsList.lt hl) m) p (Reps.more hL r)
theorem Reps.more {F : List Addr} {h : Heap} {L : Addr} (hL : h.objs.size ≤ L) : ∀ {vs : List Value} {ds : List Dat}, Reps F h vs ds → Reps (L :: F) h vs ds
  | _, _, .nil => .nil
  | _, _, .cons a b => .cons (Rep.more hL a) (Reps.more hL b)
end

theorem Reps.length {F : List Addr} {h : Heap} : ∀ {vs : List Value} {ds : List Dat}, Reps F h vs ds → vs.length = ds.length
  | _, _, .nil => rfl
  | _, _, .cons _ r => by simp [Reps.length r]
theorem Reps.get {F : List Addr} {h : Heap} : ∀ {vs : List Value} {ds : List Dat}, Reps F h vs ds → ∀ {i : Nat} {d : Dat}, ds[i]? = some d → ∃ v, vs[i]? = some v ∧ Rep F h v d
  | _, _, .nil, i, d, e => by simp at e
  | _, _, .cons a r, 0, d, e => by
    simp only [List.getElem?_cons_zero, Option.some.injEq] at e
    subst e
    exact ⟨_, rfl, a⟩
  | _, _, .cons a r, i + 1, d, e => by
    simp only [List.getElem?_cons_succ] at e ⊢
    exact Reps.get r e
theorem Reps.append {F : List Addr} {h : Heap} : ∀ {vs ws : List Value} {ds es : List Dat}, Reps F h vs ds → Reps F h ws es → Reps F h (vs ++ ws) (ds ++ es)
  | _, _, _, _, .nil, r => r
  | _, _, _, _, .cons a b, r => .cons a (Reps.append b r)
theorem Reps.drop {F : List Addr} {h : Heap} : ∀ {vs : List Value} {ds : List Dat} (_ : Reps F h vs ds) (n : Nat), Reps F h (vs.drop n) (ds.drop n)
  | _, _, r, 0 => by simpa using r
  | _, _, .nil, n + 1 => by simpa using .nil
  | _, _, .cons _ r, n + 1 => by simpa using Reps.drop r n
theorem Reps.take {F : List Addr} {h : Heap} : ∀ {vs : List Value} {ds : List Dat} (_ : Reps F h vs ds) (n : Nat), Reps F h (vs.take n) (ds.take n)
  | _, _, r, 0 => by simpa using .nil
  | _, _, .nil, n + 1 => by simpa using .nil
  | _, _, .cons a r, n + 1 => by simpa using .cons a (Reps.take r n)
theorem Reps.reverse {F : List Addr} {h : Heap} : ∀ {vs : List Value} {ds : List Dat}, Reps F h vs ds → Reps F h vs.reverse ds.reverse
  | _, _, .nil => .nil
  | _, _, .cons a r => by
    simp only [List.reverse_cons]
    exact Reps.append (Reps.reverse r) (.cons a .nil)

/-- the table of generator codes: triples -/
def GI (h : Heap) : Prop := ∃ ps : Array Value, h.get? gP = some { cls := .none, data := .fields ps } ∧ TriplesOk ps.toList

/-- what is known of the ground -/
structure Wd (w : World) (G : Heap) : Prop where
  kin : (Kf w).In G
  nog : G.get? gP = none
  bn : ∃ mb, G.Ns builtinsNs mb ∧ ∀ x : Str, x ≠ "__name__" → mb x = bootBuiltins x
  nolimit : G.NoLimit
  mg : ∃ mg, G.Ns mainGlobals mg
  seer : G.NoSeer
  bmod : ∃ mg bm ob, BMod G mainGlobals mg bm ob

structure Base (w : World) (G : Heap) (os : OsState) (s : Shared) : Prop where
  wd : Wd w G
  stay : G.StaysIn s.heap
  gi : GI s.heap
  bare : AllBare s.gens
  os : s.os = os
end Mine
end
section
set_option maxRecDepth 100000
set_option linter.unusedVariables false
namespace Mine
open PySem PySem.W PyProof.Rows PySem.Calls PySem.Spec

/-- where a body runs -/
structure Cx where
  w : World
  G : Heap
  os : OsState
  A : Around
  env : Env
  frs : List Env
  h₀ : Heap
  Fo : List Addr
  n : Nat
  cs : List (Str × Addr)
  kept : List Addr
abbrev Cx.F (C : Cx) : List Addr := C.frs.filterMap (·.frame)
abbrev Cx.M (C : Cx) : Model := Mw C.w

/-- the exception being handled, if any, has no context -/
def HOk (A : Around) (F : List Addr) (h : Heap) : Prop :=
  A.handled = none ∨ ∃ x o vs, A.handled = some (.ref x) ∧ h.get? x = some o ∧ o.data = .fields vs ∧ vs[2]? = some .none ∧ x ∉ F ∧ x ≠ gP
theorem HOk.gr {A : Around} {F : List Addr} {h h' : Heap} (x : Gr F h h') (k : HOk A F h) : HOk A F h' := by
  rcases k with k | ⟨x', o, vs, h1, h2, h3, h4, h5, h6⟩
  · exact .inl k
  · exact .inr ⟨x', o, vs, h1, x.kc _ _ h2 h6 h5, h3, h4, h5, h6⟩

def Look (F : List Addr) (env : Env) (h : Heap) (x : Str) (v : Value) : Prop :=
  (env.kindOf x = some .local ∧ ∃ m, h.Ns env.locals m ∧ m x = some v) ∨
  ((env.kindOf x = some .cell ∨ env.kindOf x = some .free) ∧ ∃ c, env.cells.lookup x = some c ∧ h.IsCell c (some v) ∧ c ≠ gP ∧ c ∉ F)
theorem IsCell.gr {F : List Addr} {h h' : Heap} (x : Gr F h h') {c : Addr} {v : Option Value} (hl : h.IsCell c v) (p : c ≠ gP) (q : c ∉ F) : h'.IsCell c v := by
  obtain ⟨o, ho, hd⟩ := hl
  exact ⟨o, x.kc c o ho p q, hd⟩
theorem Look.gr {F : List Addr} {env : Env} {h h' : Heap} (x : Gr F h h') (p : env.locals ≠ gP) {y : Str} {v : Value} (k : Look F env h y v) : Look F env h' y v := by
  rcases k with ⟨h1, m, h2, h3⟩ | ⟨h1, c, h2, h3, h4, h5⟩
  · exact .inl ⟨h1, m, x.ns h2 p, h3⟩
  · exact .inr ⟨h1, c, h2, IsCell.gr x h3 h4 h5, h4, h5⟩

/-- the frames in use stand in the heap -/
def Frs (G h : Heap) (l : List Env) : Prop := ∀ env ∈ l, env.scope.kind ≠ .module ∧ ∃ L, env.frame = some L ∧ G.get? L = none ∧ ∃ m, h.Ns L m
theorem Frs.fun {G h : Heap} {l : List Env} (k : Frs G h l) : h.FunFrames G l := by
  induction l with
  | nil => trivial
  | cons env rest ih =>
    obtain ⟨h1, L, h2, h3, m, o, es, ep, ho, hd, _⟩ := k env (.head _)
    exact ⟨h1, ⟨L, o, h2, h3, ho, fun vs q => by rw [hd] at q; cases q⟩, ih fun e he => k e (.tail _ he)⟩
theorem Frs.gr {F : List Addr} {G h h' : Heap} {l : List Env} (x : Gr F h h') (k : Frs G h l) (hF : ∀ b ∈ l.filterMap (·.frame), b ≠ gP) : Frs G h' l := fun env he => by
  obtain ⟨h1, L, h2, h3, m, hm⟩ := k env he
  exact ⟨h1, L, h2, h3, m, x.ns hm (hF L (List.mem_filterMap.mpr ⟨env, he, h2⟩))⟩

/-- what stands fast while the body runs -/
structure CxOk (C : Cx) : Prop where
  fr : C.A.frames = some C.frs
  depth : C.A.depth + C.n < recursionLimit
  units : C.A.units + 8 * C.n < cLine
  kind : C.env.scope.kind = .function
  glob : C.env.globals = mainGlobals
  bi : C.env.builtins = builtinsNs
  loc : C.env.locals ≠ gP
  own : ∀ b ∈ C.F, b ∉ C.Fo → C.h₀.get? b = none
  sub : ∀ b ∈ C.Fo, b ∈ C.F
  gpf : gP ∉ C.F
  low : ∀ b o, C.G.get? b = some o → ∀ L ∈ C.F, b < L
  frame : ∃ e r, C.frs = e :: r ∧ C.env.frame = e.frame
  gst : C.G.StaysIn C.h₀
  gpi : ∃ o, C.h₀.get? gP = some o
  own2 : ∀ p ∈ C.cs, C.h₀.get? p.2 = none ∧ p.2 ≠ gP ∧ p.2 ∉ C.F
  kpt : ∀ b ∈ C.kept, b ∉ C.F ∧ b ≠ gP ∧ ∀ p ∈ C.cs, p.2 ≠ b

structure Ok (C : Cx) (ρ : List (Str × Dat)) (s : Shared) : Prop where
  cx : CxOk C
  base : Base C.w C.G C.os s
  gr : Gr C.Fo C.h₀ s.heap
  ff : Frs C.G s.heap C.frs
  hok : HOk C.A C.F s.heap
  ns : ∃ m, s.heap.Ns C.env.locals m
  cel : ∀ p ∈ C.cs, ∃ v, s.heap.IsCell p.2 v
  loc : ∀ p ∈ ρ, ∃ v, Look C.F C.env s.heap p.1 v ∧ Rep C.F s.heap v p.2

/-- a step of the body -/
structure St (C : Cx) (s s' : Shared) : Prop where
  gr : Gr C.F s.heap s'.heap
  base : Base C.w C.G C.os s'

theorem St.refl {C : Cx} {ρ : List (Str × Dat)} {s : Shared} (k : Ok C ρ s) : St C s s := ⟨.refl _ _, k.base⟩
theorem St.trans {C : Cx} {s₁ s₂ s₃ : Shared} (x : St C s₁ s₂) (y : St C s₂ s₃) : St C s₁ s₃ := ⟨x.gr.trans y.gr, y.base⟩

theorem Gr.out {Fo F : List Addr} {h₀ h h' : Heap} (x : Gr Fo h₀ h) (y : Gr F h h') (sub : ∀ b ∈ Fo, b ∈ F) (own : ∀ b ∈ F, b ∉ Fo → h₀.get? b = none) : Gr Fo h₀ h' :=
  ⟨fun b o e p q => y.kc b o (x.kc b o e p q) p fun m => (by rw [own b m q] at e; cases e), fun b n e m => y.kf b n (x.kf b n e m) (sub b m)⟩

theorem Ok.step {C : Cx} {ρ : List (Str × Dat)} {s s' : Shared} (k : Ok C ρ s) (x : St C s s') : Ok C ρ s' where
  cx := k.cx
  base := x.base
  gr := k.gr.out x.gr k.cx.sub k.cx.own
  ff := Frs.gr x.gr k.ff fun b hb q => k.cx.gpf (q ▸ hb)
  hok := k.hok.gr x.gr
  ns := let ⟨m, hm⟩ := k.ns; ⟨m, x.gr.ns hm k.cx.loc⟩
  cel := fun p hp => let ⟨v, hv⟩ := k.cel p hp; ⟨v, IsCell.gr x.gr hv (k.cx.own2 p hp).2.1 (k.cx.own2 p hp).2.2⟩
  loc := fun p hp => let ⟨v, h1, h2⟩ := k.loc p hp; ⟨v, h1.gr x.gr k.cx.loc, h2.gr x.gr⟩
theorem Ok.weak {C : Cx} {ρ ρ' : List (Str × Dat)} {s : Shared} (k : Ok C ρ s) (hs : ∀ p ∈ ρ', p ∈ ρ) : Ok C ρ' s := { k with loc := fun p hp => k.loc p (hs p hp) }
theorem Ok.nil {C : Cx} {ρ : List (Str × Dat)} {s : Shared} (k : Ok C ρ s) : Ok C [] s := k.weak fun _ h => nomatch h

theorem Base.toks {w : World} {G : Heap} {os : OsState} {s : Shared} (b : Base w G os s) (t : Nat) : Base w G os { s with toks := t } := ⟨b.wd, b.stay, b.gi, b.bare, b.os⟩
theorem St.toks {C : Cx} {s : Shared} (b : Base C.w C.G C.os s) (t : Nat) : St C s { s with toks := t } := ⟨.refl _ _, b.toks t⟩
/-- objects are added, nothing else -/
theorem GI.keeps {h h' : Heap} (g : GI h) (k : ∀ b o, h.get? b = some o → h'.get? b = some o) : GI h' := let ⟨ps, a, b⟩ := g; ⟨ps, k _ _ a, b⟩
theorem Base.keeps {w : World} {G : Heap} {os : OsState} {s : Shared} {h' : Heap} {t : Nat} (b : Base w G os s) (k : ∀ a o, s.heap.get? a = some o → h'.get? a = some o) : Base w G os { s with heap := h', toks := t } :=
  ⟨b.wd, fun a o e => k a o (b.stay a o e), b.gi.keeps k, b.bare, b.os⟩
theorem St.keeps {C : Cx} {s : Shared} {h' : Heap} {t : Nat} (b : Base C.w C.G C.os s) (k : ∀ a o, s.heap.get? a = some o → h'.get? a = some o) : St C s { s with heap := h', toks := t } := ⟨.of_keep k, b.keeps k⟩
theorem St.push {C : Cx} {s : Shared} (b : Base C.w C.G C.os s) (o : Obj) {t : Nat} : St C s { s with heap := s.heap.push o, toks := t } := St.keeps b fun _ _ e => Heap.get?_push_of_some _ e
theorem St.push' {C : Cx} {s : Shared} (b : Base C.w C.G C.os s) (o : Obj) : St C s { s with heap := s.heap.push o } := ⟨.of_keep fun _ _ e => Heap.get?_push_of_some _ e, ⟨b.wd, fun a o e => Heap.get?_push_of_some _ (b.stay a o e), b.gi.keeps fun _ _ e => Heap.get?_push_of_some _ e, b.bare, b.os⟩⟩

/-- the expression's value stands for d -/
def Ev (C : Cx) (ρ : List (Str × Dat)) (e : Expr) (d : Dat) : Prop :=
  ∀ s, Ok C ρ s → wpAny C.M C.A (eval e C.env) (fun v s' => St C s s' ∧ Rep C.F s'.heap v d) (fun _ _ => False) s
/-- the test comes out so -/
def Ts (C : Cx) (ρ : List (Str × Dat)) (e : Expr) (b : Bool) : Prop :=
  ∀ s, Ok C ρ s → wpAny C.M C.A (isTrue e C.env (eval e C.env)) (fun b' s' => St C s s' ∧ b' = b) (fun _ _ => False) s

/-- the heap below an address -/
def trunc (h : Heap) (L : Nat) : Heap := { h with objs := h.objs.extract 0 L }
theorem trunc_get (h : Heap) (L b : Nat) : (trunc h L).get? b = if b < L then h.get? b else none := by
  unfold trunc Heap.get?
  simp only [Array.getElem?_extract, Nat.zero_add, Nat.sub_zero]
  by_cases q : b < L
  · rw [if_pos q]
    by_cases q2 : b < h.objs.size
    · rw [if_pos (by omega)]
    · rw [if_neg (by omega), Array.getElem?_eq_none (by omega)]
  · rw [if_neg q, if_neg (by omega)]
theorem trunc_size (h : Heap) (L : Nat) : (trunc h L).objs.size ≤ L := by
  unfold trunc
  simp only [Array.size_extract]
  omega
def above (h : Heap) (L : Nat) : List (Addr × Obj) := (List.range h.objs.size).filterMap fun a => if L < a then (h.get? a).map fun o => (a, o) else none
theorem mem_above {h : Heap} {L : Nat} {p : Addr × Obj} : p ∈ above h L ↔ L < p.1 ∧ h.get? p.1 = some p.2 := by
  obtain ⟨a, o⟩ := p
  simp only [above, List.mem_filterMap, List.mem_range]
  constructor
  · rintro ⟨b, hb, e⟩
    by_cases q : L < b
    · rw [if_pos q] at e
      obtain ⟨o', h1, h2⟩ := Option.map_eq_some_iff.mp e
      cases h2
      exact ⟨q, h1⟩
    · rw [if_neg q] at e; cases e
  · rintro ⟨h1, h2⟩
    exact ⟨a, Heap.lt_size h2, by rw [if_pos h1, h2]; rfl⟩

theorem ns_unique {h : Heap} {a : Addr} {m n : Str → Option Value} (x : h.Ns a m) (y : h.Ns a n) : m = n := by
  obtain ⟨o, es, ep, h1, h2, _, h3⟩ := x
  obtain ⟨o', es', ep', g1, g2, _, g3⟩ := y
  rw [h1] at g1
  cases g1
  rw [h2] at g2
  cases g2
  funext z
  rw [← h3, g3]
/-- the library's frame and ledger, of all that stands -/
theorem Ok.lib {C : Cx} {ρ : List (Str × Dat)} {s : Shared} (k : Ok C ρ s) : ∃ h₀ L m news, Fr h₀ L s.heap m ∧ News h₀ L s.heap news ∧ C.G.StaysIn h₀ ∧
    ∀ h' t, Fr h₀ L h' m → (∀ p ∈ news, h'.get? p.1 = some p.2) → St C s { s with heap := h', toks := t } := by
  obtain ⟨e, r, hr, hf⟩ := k.cx.frame
  have he : e ∈ C.frs := hr ▸ .head _
  obtain ⟨_, L, h2, hG, m, hm⟩ := k.ff e he
  have hL : L ∈ C.F := List.mem_filterMap.mpr ⟨e, he, h2⟩
  refine ⟨trunc s.heap L, L, m, above s.heap L, ⟨hm, fun b o q => ?_, trunc_size _ _⟩, fun p hp => ?_, fun b o q => ?_, fun h' t F N => ?_⟩
  · rw [trunc_get] at q
    split at q
    · exact q
    · cases q
  · obtain ⟨h1, h3⟩ := mem_above.mp hp
    refine ⟨h3, Nat.ne_of_gt h1, ?_⟩
    rw [trunc_get, if_neg (by omega)]
  · rw [trunc_get, if_pos (k.cx.low b o q L hL)]
    exact k.base.stay b o q
  have key : ∀ b o, s.heap.get? b = some o → b ≠ L → h'.get? b = some o := fun b o q r => by
    rcases Nat.lt_trichotomy b L with c | c | c
    · exact F.keep b o (by rw [trunc_get, if_pos c]; exact q)
    · exact absurd c r
    · exact N (b, o) (mem_above.mpr ⟨c, q⟩)
  refine ⟨⟨fun b o q p r => key b o q fun c => r (c ▸ hL), fun b n q r => ?_⟩, k.base.wd, fun b o q => key b o (k.base.stay b o q) (Nat.ne_of_lt (k.cx.low b o q L hL)), ?_, k.base.bare, k.base.os⟩
  · rcases Nat.lt_trichotomy b L with c | c | c
    · obtain ⟨o, es, ep, ho, x⟩ := q
      exact ⟨o, es, ep, F.keep b o (by rw [trunc_get, if_pos c]; exact ho), x⟩
    · subst c
      have : n = m := ns_unique q hm
      rw [this]
      exact F.ns
    · obtain ⟨o, es, ep, ho, x⟩ := q
      exact ⟨o, es, ep, N (b, o) (mem_above.mpr ⟨c, ho⟩), x⟩
  · obtain ⟨ps, a, b⟩ := k.base.gi
    exact ⟨ps, key _ _ a fun c => k.cx.gpf (c ▸ hL), b⟩
/-- an address beyond the heap is no frame -/
theorem Ok.fresh {C : Cx} {ρ : List (Str × Dat)} {s : Shared} (k : Ok C ρ s) {a : Addr} (ha : s.heap.objs.size ≤ a) : a ∉ C.F ∧ a ≠ gP := by
  refine ⟨fun hm => ?_, fun e => ?_⟩
  · obtain ⟨env, he, hf⟩ := List.mem_filterMap.mp hm
    obtain ⟨_, L', h2', _, m', hm'⟩ := k.ff env he
    rw [hf] at h2'
    cases h2'
    exact absurd hm'.lt (Nat.not_lt.mpr ha)
  · obtain ⟨ps, q, _⟩ := k.base.gi
    exact absurd (Heap.lt_size q) (Nat.not_lt.mpr (e ▸ ha))
section
variable {C : Cx} {ρ : List (Str × Dat)}

theorem Ev.to {e : Expr} {d : Dat} {s₀ s : Shared} {Q : Value → Shared → Prop} {E : Value → Shared → Prop} (x : Ev C ρ e d) (k : Ok C ρ s) (z : St C s₀ s)
    (h : ∀ v s', Ok C ρ s' → St C s₀ s' → St C s s' → Rep C.F s'.heap v d → Q v s') : wpAny C.M C.A (eval e C.env) Q E s :=
  wpAny_mono (x s k) (fun v s' ⟨y, r⟩ => h v s' (k.step y) (z.trans y) y r) fun _ _ f => f.elim
theorem Ts.to {e : Expr} {b : Bool} {s₀ s : Shared} {Q : Bool → Shared → Prop} {E : Value → Shared → Prop} (x : Ts C ρ e b) (k : Ok C ρ s) (z : St C s₀ s)
    (h : ∀ s', Ok C ρ s' → St C s₀ s' → St C s s' → Q b s') : wpAny C.M C.A (isTrue e C.env (eval e C.env)) Q E s :=
  wpAny_mono (x s k) (fun v s' ⟨y, r⟩ => r ▸ h s' (k.step y) (z.trans y) y) fun _ _ f => f.elim

theorem ev_int (i : Int) (k : Nat) (pos : Pos) : Ev C ρ (.Constant (.int i) k pos) (.int i) := fun s o => wpAny_Constant_int ⟨.toks o.base _, .int _ _⟩
theorem ev_str (x : Str) (k : Nat) (pos : Pos) : Ev C ρ (.Constant (.str x) k pos) (.str x) := fun s o => Constant_str ⟨.toks o.base _, .str _ _⟩
theorem ev_bytes (x : List UInt8) (k : Nat) (pos : Pos) : Ev C ρ (.Constant (.bytes x) k pos) (.bytes x.toArray) := fun s o => by
  show wpAny _ _ (mkTextBytes x.toArray) _ _ s
  exact wpAny_mkTextBytes ⟨.toks o.base _, .bytes _ _⟩
theorem ev_none (k : Nat) (pos : Pos) : Ev C ρ (.Constant .none k pos) .none := fun s o => wpAny_Constant_none ⟨.refl o, .none⟩
theorem ev_bool (b : Bool) (k : Nat) (pos : Pos) : Ev C ρ (.Constant (.bool b) k pos) (.bool b) := fun s o => wpAny_Constant_bool ⟨.refl o, .bool b⟩

theorem load_look {env : Env} {s : Shared} {x : Str} {v : Value} {M : Model} {A : Around} {E : Value → Shared → Prop} {Q : Value → Shared → Prop} (hk : env.scope.kind = .function) {F : List Addr} (l : Look F env s.heap x v) (h : Q v s) (hn : (x == ("__classdict__" : Str)) = false) :
    wpAny M A (loadName env x) Q E s := by
  rcases l with ⟨h1, m, h2, h3⟩ | ⟨h1 | h1, c, h2, h3, _⟩
  · exact wpAny_loadName_local hk h1 h2 h3 h
  · exact wpAny_loadName_cell hk h1 h2 h3 h
  · exact wpAny_loadName_free hk h1 h2 h3 h hn

theorem ev_name {x : Str} {d : Dat} {pos : Pos} (hm : (x, d) ∈ ρ) (hn : (x == ("__classdict__" : Str)) = false := by decide) (hd : (x == ("__debug__" : Str)) = false := by decide) : Ev C ρ (.Name x pos) d := fun s o => by
  obtain ⟨v, h1, h2⟩ := o.loc _ hm
  exact wpAny_Name (load_look o.cx.kind h1 ⟨.refl o, h2⟩ hn) hd

theorem ev_global {x : Str} {v : Value} {pos : Pos} (hg : ∀ w, nsIn (Kf w) mainGlobals x = some (some v)) (hk : C.env.kindOf x = some .globalImplicit) (hd : (x == ("__debug__" : Str)) = false := by decide) : Ev C ρ (.Name x pos) (.cst v) := fun s o => by
  obtain ⟨mg, hmg⟩ := o.base.wd.mg
  refine Name_function_global o.cx.kind hk (loadGlobal_global (mg := mg) ?_ (mg_of o.base.wd.kin hmg (hg C.w)) ⟨.refl o, .cst v⟩) hd
  rw [o.cx.glob]
  exact hmg.keeps o.base.stay
theorem ev_builtin {x : Str} {v : Value} {pos : Pos} (hg : ∀ w, nsIn (Kf w) mainGlobals x = some none) (hv : bootBuiltins x = some v) (hne : x ≠ "__name__") (hk : C.env.kindOf x = some .globalImplicit) (hd : (x == ("__debug__" : Str)) = false := by decide) : Ev C ρ (.Name x pos) (.cst v) := fun s o => by
  obtain ⟨mg, hmg⟩ := o.base.wd.mg
  obtain ⟨mb, hmb, hb⟩ := o.base.wd.bn
  refine Name_function_global o.cx.kind hk (loadGlobal_builtin (mg := mg) (mb := mb) ?_ (mg_none_of o.base.wd.kin hmg (hg C.w)) ?_ ((hb x hne).trans hv) ⟨.refl o, .cst v⟩) hd
  · rw [o.cx.glob]; exact hmg.keeps o.base.stay
  · rw [o.cx.bi]; exact hmb.keeps o.base.stay
end

theorem g_encode_check : ∀ w, nsIn (Kf w) mainGlobals "encode_check" = some (some (.ref 130)) := fun w => by kernel_rfl
end Mine
end
section
set_option maxRecDepth 100000
set_option linter.unusedVariables false
namespace Mine
open PySem PySem.W PyProof.Rows PySem.Calls PySem.Spec

def Op2 (C : Cx) (op : Operator) (d1 d2 d : Dat) : Prop := ∀ s v1 v2, Ok C [] s → Rep C.F s.heap v1 d1 → Rep C.F s.heap v2 d2 →
  wpAny C.M C.A (binaryOp op v1 v2) (fun v s' => St C s s' ∧ Rep C.F s'.heap v d) (fun _ _ => False) s
def Iop2 (C : Cx) (op : Operator) (d1 d2 d : Dat) : Prop := ∀ s v1 v2, Ok C [] s → Rep C.F s.heap v1 d1 → Rep C.F s.heap v2 d2 →
  wpAny C.M C.A (inplaceOp op v1 v2) (fun v s' => St C s s' ∧ Rep C.F s'.heap v d) (fun _ _ => False) s
def Cmp (C : Cx) (op : CmpOp) (d1 d2 : Dat) (b : Bool) : Prop := ∀ s v1 v2, Ok C [] s → Rep C.F s.heap v1 d1 → Rep C.F s.heap v2 d2 →
  wpAny C.M C.A (compareOp op v1 v2) (fun v s' => St C s s' ∧ v = .bool b) (fun _ _ => False) s

section
variable {C : Cx} {ρ : List (Str × Dat)}

theorem ev_bin {op : Operator} {l r : Expr} {pos : Pos} {d1 d2 d : Dat} (h1 : Ev C ρ l d1) (h2 : Ev C ρ r d2) (h : Op2 C op d1 d2 d) : Ev C ρ (.BinOp l op r pos) d := fun s o => by
  refine wpAny_BinOp (h1.to o (.refl o) fun v1 s1 o1 z1 _ r1 => h2.to o1 z1 fun v2 s2 o2 z2 y2 r2 => ?_)
  exact wpAny_mono (h s2 v1 v2 o2.nil (r1.gr y2.gr) r2) (fun v s' ⟨a, b⟩ => ⟨z2.trans a, b⟩) fun _ _ f => f
theorem ev_cmp {op : CmpOp} {l r : Expr} {pos : Pos} {d1 d2 : Dat} {b : Bool} (h1 : Ev C ρ l d1) (h2 : Ev C ρ r d2) (h : Cmp C op d1 d2 b) (hm : behindInMarks op r = false := by with_unfolding_all rfl) : Ev C ρ (.Compare l [op] [r] pos) (.bool b) := fun s o => by
  refine wpAny_Compare1 (h1.to o (.refl o) fun v1 s1 o1 z1 _ r1 => h2.to o1 z1 fun v2 s2 o2 z2 y2 r2 => ?_) hm
  exact wpAny_mono (h s2 v1 v2 o2.nil (r1.gr y2.gr) r2) (fun v s' ⟨a, e⟩ => ⟨z2.trans a, e ▸ .bool b⟩) fun _ _ f => f
theorem ts_cmp {op : CmpOp} {l r : Expr} {pos : Pos} {d1 d2 : Dat} {b : Bool} (h1 : Ev C ρ l d1) (h2 : Ev C ρ r d2) (h : Cmp C op d1 d2 b) (hm : behindInMarks op r = false := by with_unfolding_all rfl) : Ts C ρ (.Compare l [op] [r] pos) b := fun s o => by
  refine wpAny_isTrue_Compare1 (h1.to o (.refl o) fun v1 s1 o1 z1 _ r1 => h2.to o1 z1 fun v2 s2 o2 z2 y2 r2 => ?_) hm
  exact wpAny_mono (h s2 v1 v2 o2.nil (r1.gr y2.gr) r2) (fun v s' ⟨a, e⟩ => e ▸ wpAny_truthy_bool ⟨z2.trans a, rfl⟩) fun _ _ f => f

-- ints
theorem op_add (a b : Int) : Op2 C .Add (.int a) (.int b) (.int (a + b)) := fun s v1 v2 o r1 r2 => by
  cases r1; cases r2; exact PySem.P.add_int ⟨.toks o.base _, .int _ _⟩
theorem op_sub (a b : Int) : Op2 C .Sub (.int a) (.int b) (.int (a - b)) := fun s v1 v2 o r1 r2 => by
  cases r1; cases r2; exact PySem.P.sub_int ⟨.toks o.base _, .int _ _⟩
theorem op_mul {a b : Int} (h : IntMulOk a b) : Op2 C .Mult (.int a) (.int b) (.int (a * b)) := fun s v1 v2 o r1 r2 => by
  cases r1; cases r2; exact PySem.P.mul_int ⟨.toks o.base _, .int _ _⟩ h
theorem op_mod (a : Int) {b : Int} (h : b ≠ 0) : Op2 C .Mod (.int a) (.int b) (.int (a.fmod b)) := fun s v1 v2 o r1 r2 => by
  cases r1; cases r2; exact mod_int' h ⟨.toks o.base _, .int _ _⟩
theorem op_div (a : Int) {b : Int} (h : b ≠ 0) (hs : b.natAbs < 1073741824) : Op2 C .FloorDiv (.int a) (.int b) (.int (a.fdiv b)) := fun s v1 v2 o r1 r2 => by
  cases r1; cases r2; exact floordiv_int h ⟨.toks o.base _, .int _ _⟩ (.inl (PyProof.noPylong_small hs))
theorem op_pow {a n : Int} (h : 0 ≤ n) (hs : (Builtin.Int.intBits a : Int) * n ≤ 2 ^ 27) : Op2 C .Pow (.int a) (.int n) (.int (a ^ n.toNat)) := fun s v1 v2 o r1 r2 => by
  cases r1; cases r2; exact pow_int h hs ⟨.toks o.base _, .int _ _⟩
theorem op_shl {a n : Int} (h : 0 ≤ n) (hs : (Builtin.Int.intBits a : Int) + n ≤ 2 ^ 27) : Op2 C .LShift (.int a) (.int n) (.int (a * 2 ^ n.toNat)) := fun s v1 v2 o r1 r2 => by
  cases r1; cases r2; exact lshift_int h hs ⟨.toks o.base _, .int _ _⟩
theorem op_shr (a : Int) {n : Int} (h : 0 ≤ n) : Op2 C .RShift (.int a) (.int n) (.int (a.fdiv (2 ^ n.toNat))) := fun s v1 v2 o r1 r2 => by
  cases r1; cases r2; exact rshift_int h ⟨.toks o.base _, .int _ _⟩
theorem op_and (a b : Int) : Op2 C .BitAnd (.int a) (.int b) (.int (Builtin.bitAnd a b)) := fun s v1 v2 o r1 r2 => by
  cases r1; cases r2; exact and_int ⟨.toks o.base _, .int _ _⟩
theorem op_xor (a b : Int) : Op2 C .BitXor (.int a) (.int b) (.int (Builtin.bitXor a b)) := fun s v1 v2 o r1 r2 => by
  cases r1; cases r2; exact xor_int ⟨.toks o.base _, .int _ _⟩
theorem op_or (a b : Int) : Op2 C .BitOr (.int a) (.int b) (.int (Builtin.bitOr a b)) := fun s v1 v2 o r1 r2 => by
  cases r1; cases r2; exact or_int ⟨.toks o.base _, .int _ _⟩
theorem iop_add (a b : Int) : Iop2 C .Add (.int a) (.int b) (.int (a + b)) := fun s v1 v2 o r1 r2 => by
  cases r1; cases r2; exact PySem.P.iadd_int ⟨.toks o.base _, .int _ _⟩
theorem iop_sub (a b : Int) : Iop2 C .Sub (.int a) (.int b) (.int (a - b)) := fun s v1 v2 o r1 r2 => by
  cases r1; cases r2; exact PySem.P.isub_int ⟨.toks o.base _, .int _ _⟩
theorem iop_mul {a b : Int} (h : IntMulOk a b) : Iop2 C .Mult (.int a) (.int b) (.int (a * b)) := fun s v1 v2 o r1 r2 => by
  cases r1; cases r2; exact PySem.P.imul_int ⟨.toks o.base _, .int _ _⟩ h
theorem iop_xor (a b : Int) : Iop2 C .BitXor (.int a) (.int b) (.int (Builtin.bitXor a b)) := fun s v1 v2 o r1 r2 => by
  cases r1; cases r2; exact ixor_int ⟨.toks o.base _, .int _ _⟩
-- texts, bytes
theorem op_addS {x y : Str} (h : x.length + y.length ≤ sizeLine) : Op2 C .Add (.str x) (.str y) (.str (x ++ y)) := fun s v1 v2 o r1 r2 => by
  cases r1; cases r2; exact PySem.SB.add (fun t' k => ⟨.toks o.base _, .str _ _⟩) h
theorem op_addB {x y : Array UInt8} (h : x.size + y.size ≤ 16777216) : Op2 C .Add (.bytes x) (.bytes y) (.bytes (x ++ y)) := fun s v1 v2 o r1 r2 => by
  cases r1; cases r2; exact KBy.add_bytes h fun t' k => ⟨.toks o.base _, .bytes _ _⟩
theorem op_mulS {x : Str} {n : Int} (h : MulOk x n) : Op2 C .Mult (.str x) (.int n) (.str (Txt.mul x n)) := fun s v1 v2 o r1 r2 => by
  cases r1; cases r2; exact PySem.SB.mul h fun t' k => ⟨.toks o.base _, .str _ _⟩
theorem op_mulB {x : List UInt8} {n : Int} (hb : x ≠ []) (hlo : -1048576 ≤ n) (hn : n ≤ 1048576) (hs : x.length ≤ 16) : Op2 C .Mult (.bytes x.toArray) (.int n) (.bytes ((List.replicate n.toNat x).flatten).toArray) := fun s v1 v2 o r1 r2 => by
  cases r1; cases r2; exact bytes_mul_any hb hlo hn hs fun t' k => ⟨.toks o.base _, .bytes _ _⟩
/-- two lists -/
theorem op_addL {xs ys : List Dat} (h : xs.length + ys.length ≤ sizeLine) : Op2 C .Add (.list xs) (.list ys) (.list (xs ++ ys)) := fun s v1 v2 o r1 r2 => by
  cases r1 with
  | list h1 n1 p1 q1 =>
  cases r2 with
  | list h2 n2 p2 q2 =>
  obtain ⟨h₀, L, m, news, F, N, _, fin⟩ := o.lib
  refine add_arrays F N h1 h2 (fun h' F' N' => ?_) (by rw [List.size_toArray, List.size_toArray, q1.length, q2.length]; exact h)
  have z := fin h' s.toks F' fun p hp => (N' p (.tail _ hp)).1
  obtain ⟨a1, a2⟩ := o.fresh (Nat.le_refl _)
  have e := (N' _ (.head _)).1
  exact ⟨z, .list (vs := _ ++ _) ⟨_, e, rfl, _, rfl⟩ a1 a2 ((q1.append q2).gr z.gr)⟩
end
end Mine
end
section
set_option maxRecDepth 100000
set_option linter.unusedVariables false
namespace Mine
open PySem PySem.W PyProof.Rows PySem.Calls PySem.Spec PySem.MeetsSeq PySem.SeqAt

def valEq : Value → Value → Bool
  | .int i _, .int j _ => i == j
  | .str x _, .str y _ => x == y
  | .bytes b _, .bytes c _ => b == c
  | .none, .none => true
  | _, _ => false
/-- the two are equal: so -/
inductive EqP : Dat → Dat → Bool → Prop
  | int (a b) : EqP (.int a) (.int b) (a == b)
  | str (a b) : EqP (.str a) (.str b) (a == b)
  | bytes (a b) : EqP (.bytes a) (.bytes b) (a == b)
  | none : EqP .none .none true
  | int_none (a) : EqP (.int a) .none false
  | none_int (a) : EqP .none (.int a) false
  | none_str (a) : EqP .none (.str a) false
  | str_none (a) : EqP (.str a) .none false
  | list_none (a) : EqP (.list a) .none false
theorem EqP.val {F : List Addr} {h : Heap} {d1 d2 : Dat} {b : Bool} {v1 v2 : Value} (e : EqP d1 d2 b) (r1 : Rep F h v1 d1) (r2 : Rep F h v2 d2) : valEq v1 v2 = b := by
  cases e <;> cases r1 <;> cases r2 <;> rfl
theorem arr_eq (a b : Array UInt8) : (a.toList == b.toList) = (a == b) := by
  rw [Bool.eq_iff_iff, beq_iff_eq, beq_iff_eq]
  exact ⟨fun h => Array.toList_inj.mp h, fun h => by rw [h]⟩
theorem str_eq (a b : Str) : (a.cps.toList == b.cps.toList) = (a == b) := by
  rw [Bool.eq_iff_iff, beq_iff_eq, beq_iff_eq]
  exact ⟨fun h => by cases a; cases b; simp only [Str.mk.injEq]; exact Array.toList_inj.mp h, fun h => by rw [h]⟩
theorem eqAt_bytes {A : Around} {s : Shared} (a b : Array UInt8) (t u : Tok) : EqAt A s (.bytes a t) (.bytes b u) (a == b) := fun prog w E Q h => by
  unfold eqBool
  refine wpAny_holding ?_
  by_cases q : (Value.bytes a t == Value.bytes b u) = true
  · rw [if_pos q]
    have e : (a == b) = true := by
      have := beq_iff_eq.mp q
      cases this
      exact beq_self_eq_true a
    rw [e] at h
    exact wpAny_bind (wpAny_rule (wpAny_pure h))
  · rw [if_neg q]
    show wpAny _ _ (richCompare .Eq _ _ >>= _) _ _ s
    have := eq_bytes (prog := prog) (w := w) (A := A) (E := E) (s := s) (b := a) (c := b) (t := t) (u := u) (Q := fun v s' => wpAny (model prog w) A (truthOfDropped v) Q E s')
    refine wpAny_bind (this ?_)
    rw [arr_eq]
    exact wpAny_pure h
theorem EqP.at {C : Cx} {s : Shared} {A : Around} {d1 d2 : Dat} {b : Bool} {v1 v2 : Value} (e : EqP d1 d2 b) (r1 : Rep C.F s.heap v1 d1) (r2 : Rep C.F s.heap v2 d2) (hu : A.units < cLine) : EqAt A s v1 v2 b := by
  cases e with
  | int a b => cases r1; cases r2; exact EqAt.int_int _ _ _ _
  | str a b => cases r1; cases r2; exact EqAt.str_str _ _ _ _
  | bytes a b => cases r1; cases r2; exact eqAt_bytes _ _ _ _
  | none => cases r1; cases r2; exact EqAt.same _
  | int_none a => cases r1; cases r2; exact EqAt.int_none _ _
  | none_int a => cases r1; cases r2; exact EqAt.none_int _ _
  | none_str a => cases r1; cases r2; exact EqAt.none_str _ _
  | str_none a => cases r1; cases r2; exact EqAt.str_none _ _
  | list_none a => cases r2; cases r1 with | list h1 _ _ _ => exact EqAt.list_none h1 hu

section
variable {C : Cx} {ρ : List (Str × Dat)}
theorem St.tok {s : Shared} (o : Ok C ρ s) (t : Nat) : St C s { s with toks := t } := .toks o.base t

theorem cmp_lt (a b : Int) : Cmp C .Lt (.int a) (.int b) (decide (a < b)) := fun s v1 v2 o r1 r2 => by cases r1; cases r2; exact PySem.P.lt_int ⟨.refl o, rfl⟩
theorem cmp_le (a b : Int) : Cmp C .LtE (.int a) (.int b) (decide (a ≤ b)) := fun s v1 v2 o r1 r2 => by cases r1; cases r2; exact PySem.P.le_int ⟨.refl o, rfl⟩
theorem cmp_gt (a b : Int) : Cmp C .Gt (.int a) (.int b) (decide (a > b)) := fun s v1 v2 o r1 r2 => by cases r1; cases r2; exact PySem.P.gt_int ⟨.refl o, rfl⟩
theorem cmp_ge (a b : Int) : Cmp C .GtE (.int a) (.int b) (decide (a ≥ b)) := fun s v1 v2 o r1 r2 => by cases r1; cases r2; exact PySem.P.ge_int ⟨.refl o, rfl⟩
theorem cmp_eq (a b : Int) : Cmp C .Eq (.int a) (.int b) (a == b) := fun s v1 v2 o r1 r2 => by cases r1; cases r2; exact PySem.P.eq_int ⟨.refl o, rfl⟩
theorem cmp_ne (a b : Int) : Cmp C .NotEq (.int a) (.int b) (a != b) := fun s v1 v2 o r1 r2 => by cases r1; cases r2; exact PySem.P.ne_int ⟨.refl o, rfl⟩
theorem cmp_eqS (a b : Str) : Cmp C .Eq (.str a) (.str b) (a == b) := fun s v1 v2 o r1 r2 => by cases r1; cases r2; exact PySem.P.eq_str ⟨.refl o, by rw [str_eq]⟩
theorem cmp_neS (a b : Str) : Cmp C .NotEq (.str a) (.str b) (!(a == b)) := fun s v1 v2 o r1 r2 => by cases r1; cases r2; exact PySem.P.ne_str ⟨.refl o, by rw [bne, str_eq]⟩
theorem cmp_eqB (a b : Array UInt8) : Cmp C .Eq (.bytes a) (.bytes b) (a == b) := fun s v1 v2 o r1 r2 => by cases r1; cases r2; exact eq_bytes ⟨.refl o, by rw [arr_eq]⟩
theorem cmp_neB (a b : Array UInt8) : Cmp C .NotEq (.bytes a) (.bytes b) (!(a == b)) := fun s v1 v2 o r1 r2 => by cases r1; cases r2; exact ne_bytes ⟨.refl o, by rw [bne, arr_eq]⟩
theorem cmp_neNN : Cmp C .NotEq .none .none false := fun s v1 v2 o r1 r2 => by cases r1; cases r2; exact EqNone.ne_none_none ⟨.refl o, rfl⟩
theorem cmp_neNS (a : Str) : Cmp C .NotEq .none (.str a) true := fun s v1 v2 o r1 r2 => by cases r1; cases r2; exact EqNone.ne_none_str ⟨.refl o, rfl⟩
theorem cmp_neSN (a : Str) : Cmp C .NotEq (.str a) .none true := fun s v1 v2 o r1 r2 => by cases r1; cases r2; exact EqNone.ne_str_none ⟨.refl o, rfl⟩
theorem cmp_eqIN (a : Int) : Cmp C .Eq (.int a) .none false := fun s v1 v2 o r1 r2 => by cases r1; cases r2; exact EqNone.eq_int_none ⟨.refl o, rfl⟩
theorem cmp_eqNI (a : Int) : Cmp C .Eq .none (.int a) false := fun s v1 v2 o r1 r2 => by cases r1; cases r2; exact EqNone.eq_none_int ⟨.refl o, rfl⟩
theorem cmp_neIN (a : Int) : Cmp C .NotEq (.int a) .none true := fun s v1 v2 o r1 r2 => by cases r1; cases r2; exact EqNone.ne_int_none ⟨.refl o, rfl⟩
theorem cmp_neNI (a : Int) : Cmp C .NotEq .none (.int a) true := fun s v1 v2 o r1 r2 => by cases r1; cases r2; exact EqNone.ne_none_int ⟨.refl o, rfl⟩

def Dat.isNone : Dat → Bool
  | .none => true
  | _ => false
def Dat.noCst : Dat → Bool
  | .cst _ => false
  | _ => true
theorem rep_none {F : List Addr} {h : Heap} {v : Value} {d : Dat} (hd : d.noCst = true) (r : Rep F h v d) : (v == .none) = d.isNone := by
  cases r <;> first | rfl | (simp [Dat.noCst] at hd)
theorem cmp_isN {d : Dat} (hd : d.noCst = true := by rfl) : Cmp C .Is d .none d.isNone := fun s v1 v2 o r1 r2 => by cases r2; exact is_none_gen ⟨.refl o, by rw [rep_none hd r1]⟩
theorem cmp_isNotN {d : Dat} (hd : d.noCst = true := by rfl) : Cmp C .IsNot d .none (!d.isNone) := fun s v1 v2 o r1 r2 => by cases r2; exact isnot_none_gen ⟨.refl o, by rw [rep_none hd r1]⟩

theorem reps_any {F : List Addr} {h : Heap} {v : Value} {d : Dat} {f : Dat → Bool} (r : Rep F h v d) : ∀ {vs : List Value} {ds : List Dat}, Reps F h vs ds → (∀ y ∈ ds, EqP y d (f y)) → vs.any (fun y => valEq y v) = ds.any f
  | _, _, .nil, _ => rfl
  | _, _, .cons a b, k => by rw [List.any_cons, List.any_cons, (k _ (.head _)).val a r, reps_any r b fun y hy => k y (.tail _ hy)]
theorem reps_eqAt {A : Around} {s : Shared} {v : Value} {d : Dat} {f : Dat → Bool} (hu : A.units < cLine) (r : Rep C.F s.heap v d) : ∀ {vs : List Value} {ds : List Dat}, Reps C.F s.heap vs ds → (∀ y ∈ ds, EqP y d (f y)) → ∀ y ∈ vs, EqAt A s y v (valEq y v)
  | _, _, .nil, _, _, hm => nomatch hm
  | _, _, .cons a b, k, y, hm => by
    rcases List.mem_cons.mp hm with rfl | hm
    · have e := k _ (.head _)
      rw [e.val a r]
      exact e.at a r hu
    · exact reps_eqAt hu r b (fun y hy => k y (.tail _ hy)) y hm
theorem Ok.u1 {s : Shared} (o : Ok C ρ s) (hn : 1 ≤ C.n) : C.A.in1.units < cLine := by have := o.cx.units; rw [Around.in1_units]; omega
theorem cmp_inL {d : Dat} {ds : List Dat} (f : Dat → Bool) (k : ∀ y ∈ ds, EqP y d (f y)) (hn : 1 ≤ C.n) : Cmp C .In d (.list ds) (ds.any f) := fun s v1 v2 o r1 r2 => by
  cases r2 with | list h1 a b q => exact in_listAt _ h1 (fun y hy => reps_eqAt (o.u1 hn) r1 q k y (by simpa using hy)) ⟨.refl o, by rw [← reps_any r1 q k, List.any_toArray]⟩
theorem cmp_notInL {d : Dat} {ds : List Dat} (f : Dat → Bool) (k : ∀ y ∈ ds, EqP y d (f y)) (hn : 1 ≤ C.n) : Cmp C .NotIn d (.list ds) (!ds.any f) := fun s v1 v2 o r1 r2 => by
  cases r2 with | list h1 a b q => exact notIn_listAt _ h1 (fun y hy => reps_eqAt (o.u1 hn) r1 q k y (by simpa using hy)) ⟨.refl o, by rw [← reps_any r1 q k, List.any_toArray]⟩
theorem cmp_inT {d : Dat} {ds : List Dat} (f : Dat → Bool) (k : ∀ y ∈ ds, EqP y d (f y)) (hn : 1 ≤ C.n) : Cmp C .In d (.tup ds) (ds.any f) := fun s v1 v2 o r1 r2 => by
  cases r2 with | tup h1 a b q => exact in_tupleAt _ h1 (fun y hy => reps_eqAt (o.u1 hn) r1 q k y (by simpa using hy)) ⟨.refl o, by rw [← reps_any r1 q k, List.any_toArray]⟩
/-- a text in a text -/
theorem cmp_inS (x y : Str) : Cmp C .In (.str y) (.str x) (Txt.contains x y) := fun s v1 v2 o r1 r2 => by cases r1; cases r2; exact PySem.SB.contains ⟨.refl o, rfl⟩
theorem cmp_notInS (x y : Str) : Cmp C .NotIn (.str y) (.str x) (!Txt.contains x y) := fun s v1 v2 o r1 r2 => by cases r1; cases r2; exact PySem.P.notIn_str ⟨.refl o, rfl⟩
/-- two tuples of two -/
theorem cmp_eqT2 {a b c d : Dat} {p q : Bool} (h1 : EqP a c p) (h2 : EqP b d q) (hn : 1 ≤ C.n) : Cmp C .Eq (.tup [a, b]) (.tup [c, d]) (p && q) := fun s v1 v2 o r1 r2 => by
  cases r1 with
  | tup ht1 _ _ q1 =>
  cases r2 with
  | tup ht2 _ _ q2 =>
  cases q1 with | cons qa q1 =>
  cases q1 with | cons qb q1 =>
  cases q1
  cases q2 with | cons qc q2 =>
  cases q2 with | cons qd q2 =>
  cases q2
  refine eq_tupleAt (e := fun i => if i = 0 then p else q) ht1 ht2 (by have := o.u1 hn; rw [Around.in1_units] at this; omega) (fun j h3 h4 => ?_) ⟨.refl o, ?_⟩
  · match j with
    | 0 => exact h1.at qa qc (o.u1 hn)
    | 1 => exact h2.at qb qd (o.u1 hn)
    | j + 2 => exact absurd h3 (by simp)
  · simp [List.range_succ]
end

/-- the value of the data, as a truth -/
def Dat.truth : Dat → Bool
  | .none => false
  | .bool b => b
  | .int i => i != 0
  | .str x => x.length != 0
  | .list xs => !xs.isEmpty
  | _ => true
def Tr (C : Cx) (d : Dat) (b : Bool) : Prop := ∀ s v, Ok C [] s → Rep C.F s.heap v d → wpAny C.M C.A (truthy v) (fun b' s' => St C s s' ∧ b' = b) (fun _ _ => False) s
section
variable {C : Cx} {ρ : List (Str × Dat)}
theorem tr_int (i : Int) : Tr C (.int i) (i != 0) := fun s v o r => by cases r; exact PySem.P.truthy_int ⟨.refl o, rfl⟩
theorem tr_bool (b : Bool) : Tr C (.bool b) b := fun s v o r => by cases r; exact wpAny_truthy_bool ⟨.refl o, rfl⟩
theorem tr_str {x : Str} (h : x.length ≤ sizeLine) : Tr C (.str x) ((x.length : Int) != 0) := fun s v o r => by
  cases r; exact PySem.P.truthy_str (by have : sizeLine = 16777216 := sizeLine_eq; omega) ⟨.tok o _, rfl⟩
theorem tr_list {xs : List Dat} (h : xs.length ≤ sizeLine) : Tr C (.list xs) (!xs.isEmpty) := fun s v o r => by
  cases r with
  | list h1 a b q =>
  have hl := q.length
  refine wpAny_truthy_list h1 (by have : sizeLine = 16777216 := sizeLine_eq; rw [List.size_toArray]; omega) ⟨.tok o _, ?_⟩
  cases q <;> rfl
theorem ts_val {e : Expr} {d : Dat} {b : Bool} (h : Ev C ρ e d) (t : Tr C d b) (he : isTrue e C.env (eval e C.env) = (do let v ← eval e C.env; standAt e.pos; holding [v] (truthy v)) := by rfl) : Ts C ρ e b := fun s o =>
  wpAny_isTrue_value (h.to o (.refl o) fun v s1 o1 z1 _ r1 => wpAny_mono (t s1 v o1.nil r1) (fun b' s' ⟨a, e⟩ => ⟨z1.trans a, e⟩) fun _ _ f => f) he
theorem ts_not {e : Expr} {pos : Pos} {b : Bool} (h : Ts C ρ e b) : Ts C ρ (.UnaryOp .Not e pos) (!b) := fun s o =>
  wpAny_isTrue_Not (h.to o (.refl o) fun s1 o1 z1 _ => ⟨z1, rfl⟩)
/-- and, or: as lists -/
def Alls (C : Cx) (ρ : List (Str × Dat)) (op : BoolOp) (es : List Expr) (b : Bool) : Prop := ∀ s, Ok C ρ s → wpAny C.M C.A (allTrue op es C.env) (fun b' s' => St C s s' ∧ b' = b) (fun _ _ => False) s
theorem ts_bool {op : BoolOp} {es : List Expr} {pos : Pos} {b : Bool} (h : Alls C ρ op es b) : Ts C ρ (.BoolOp op es pos) b := fun s o => wpAny_isTrue_BoolOp (h s o)
theorem and_nil : Alls C ρ .And [] true := fun s o => wpAny_allTrue_And_nil ⟨.refl o, rfl⟩
theorem or_nil : Alls C ρ .Or [] false := fun s o => wpAny_allTrue_Or_nil ⟨.refl o, rfl⟩
theorem and_t {e : Expr} {es : List Expr} {b : Bool} (h : Ts C ρ e true) (r : Alls C ρ .And es b) : Alls C ρ .And (e :: es) b := fun s o =>
  wpAny_allTrue_And_cons (h.to o (.refl o) fun s1 o1 z1 _ => wpAny_mono (r s1 o1) (fun b' s' ⟨a, e⟩ => ⟨z1.trans a, e⟩) fun _ _ f => f)
theorem and_f {e : Expr} {es : List Expr} (h : Ts C ρ e false) : Alls C ρ .And (e :: es) false := fun s o =>
  wpAny_allTrue_And_cons (h.to o (.refl o) fun s1 o1 z1 _ => ⟨z1, rfl⟩)
theorem or_t {e : Expr} {es : List Expr} (h : Ts C ρ e true) : Alls C ρ .Or (e :: es) true := fun s o =>
  wpAny_allTrue_Or_cons (h.to o (.refl o) fun s1 o1 z1 _ => ⟨z1, rfl⟩)
theorem or_f {e : Expr} {es : List Expr} {b : Bool} (h : Ts C ρ e false) (r : Alls C ρ .Or es b) : Alls C ρ .Or (e :: es) b := fun s o =>
  wpAny_allTrue_Or_cons (h.to o (.refl o) fun s1 o1 z1 _ => wpAny_mono (r s1 o1) (fun b' s' ⟨a, e⟩ => ⟨z1.trans a, e⟩) fun _ _ f => f)
/-- both sides looked at as they come -/
theorem and_cons {e : Expr} {es : List Expr} {p q : Bool} (h : Ts C ρ e p) (r : p = true → Alls C ρ .And es q) : Alls C ρ .And (e :: es) (p && q) := by
  cases p with
  | false => exact and_f h
  | true => exact and_t h (r rfl)
theorem or_cons {e : Expr} {es : List Expr} {p q : Bool} (h : Ts C ρ e p) (r : p = false → Alls C ρ .Or es q) : Alls C ρ .Or (e :: es) (p || q) := by
  cases p with
  | true => exact or_t h
  | false => exact or_f h (r rfl)
theorem Ts.cast {e : Expr} {p q : Bool} (h : Ts C ρ e p) (k : p = q) : Ts C ρ e q := k ▸ h
theorem Ev.cast {e : Expr} {p q : Dat} (h : Ev C ρ e p) (k : p = q) : Ev C ρ e q := k ▸ h
theorem ev_if {t b o' : Expr} {pos : Pos} {d : Dat} {c : Bool} (h : Ts C ρ t c) (h1 : c = true → Ev C ρ b d) (h2 : c = false → Ev C ρ o' d) : Ev C ρ (.IfExp t b o' pos) d := fun s o => by
  refine wpAny_IfExp (h.to o (.refl o) fun s1 o1 z1 _ => ?_)
  cases c with
  | true =>
    rw [if_pos rfl]
    exact (h1 rfl).to o1 z1 fun v s' _ z _ r => ⟨z, r⟩
  | false =>
    rw [if_neg Bool.false_ne_true]
    exact (h2 rfl).to o1 z1 fun v s' _ z _ r => ⟨z, r⟩
/-- a or b, as values, the first a number -/
theorem ev_or2 {x y : Expr} {pos : Pos} {d1 d : Dat} {c : Bool} (h : Ev C ρ x d1) (t : Tr C d1 c) (h1 : c = true → d1 = d) (h2 : c = false → Ev C ρ y d) : Ev C ρ (.BoolOp .Or [x, y] pos) d := fun s o => by
  refine wpAny_Or2 (h.to o (.refl o) fun v s1 o1 z1 _ r1 => wpAny_mono (t s1 v o1.nil r1) (fun b' s' ⟨a, e⟩ => ?_) fun _ _ f => f.elim)
  subst e
  cases b' with
  | true =>
    rw [if_pos rfl]
    exact ⟨z1.trans a, h1 rfl ▸ r1.gr a.gr⟩
  | false =>
    rw [if_neg Bool.false_ne_true]
    exact (h2 rfl).to (o1.step a) (z1.trans a) fun v s' _ z _ r => ⟨z, r⟩
end
end Mine
end
section
set_option maxRecDepth 100000
set_option linter.unusedVariables false
namespace Mine
open PySem PySem.W PyProof.Rows PySem.Calls PySem.Spec

theorem sub_tail {prog : Program} {w : World} {A : Around} {E : Value → Shared → Prop} {s : Shared} {value slice : Expr} {o i : Value} {Q : Value → Shared → Prop} (h : ItemOn (model prog w) A E o i Q s) :
    wpAny (model prog w) A (subscriptTail value slice o i) Q E s := by
  obtain ⟨T, id, hl, hT, hg⟩ := h
  have hs : ∃ ops, subscripted slice false o i = operate ops (getItem o i) := by
    unfold subscripted
    split
    · exact ⟨_, rfl⟩
    · rename_i q; exact absurd q Bool.false_ne_true
    · exact ⟨_, rfl⟩
  obtain ⟨ops, hs⟩ := hs
  unfold subscriptTail
  refine wpAny_bind ?_
  rw [getitemInPython_of_ne hT.not_modules]
  refine wpAny_bind (wpAny_specialOf hT hl ?_)
  have fin : wpAny (model prog w) A (subscripted slice false o i) (fun r s₃ => wpAny (model prog w) A (letTemporaryGo value o r >>= fun _ => pure r) Q E s₃) E s := by
    rw [hs]
    exact wpAny_operating (wpAny_mono hg (fun r s₃ h₃ => wpAny_bind (wpAny_letTemporaryGo (wpAny_pure h₃))) fun _ _ x => x)
  first
    | exact wpAny_pure (wpAny_bind fin)
    | exact wpAny_bind (wpAny_pure (wpAny_bind fin))
    | exact wpAny_bind fin

/-- an item by a key -/
def ItOn (C : Cx) (d1 d2 d : Dat) : Prop := ∀ s o i, Ok C [] s → Rep C.F s.heap o d1 → Rep C.F s.heap i d2 → ItemOn C.M C.A (fun _ _ => False) o i (fun v s' => St C s s' ∧ Rep C.F s'.heap v d) s
/-- a cut -/
def SlOn (C : Cx) (d1 : Dat) (lo hi st : Option Int) (d : Dat) : Prop := ∀ s o a l u k, Ok C [] s → Rep C.F s.heap o d1 → s.heap.IsSliceOf a l u k → IsPart l lo → IsPart u hi → IsPart k st →
  ItemOn C.M C.A (fun _ _ => False) o (.ref a) (fun v s' => St C s s' ∧ Rep C.F s'.heap v d) s
inductive Prt (C : Cx) (ρ : List (Str × Dat)) : Option Expr → Option Int → Prop
  | none : Prt C ρ Option.none Option.none
  | some {e i} : Ev C ρ e (.int i) → Prt C ρ (Option.some e) (Option.some i)

section
variable {C : Cx} {ρ : List (Str × Dat)}
theorem ev_item {value slice : Expr} {pos : Pos} {d1 d2 d : Dat} (h1 : Ev C ρ value d1) (h2 : Ev C ρ slice d2) (h : ItOn C d1 d2 d) : Ev C ρ (.Subscript value slice pos) d := fun s o => by
  refine Subscript_ (h1.to o (.refl o) fun v1 s1 o1 z1 _ r1 => h2.to o1 z1 fun v2 s2 o2 z2 y2 r2 => sub_tail ?_)
  obtain ⟨T, id, a, b, c⟩ := h s2 v1 v2 o2.nil (r1.gr y2.gr) r2
  exact ⟨T, id, a, b, wpAny_mono c (fun v s' ⟨a, b⟩ => ⟨z2.trans a, b⟩) fun _ _ f => f⟩
theorem Prt.to {x : Option Expr} {i : Option Int} {s₀ s : Shared} {Q : Value → Shared → Prop} (p : Prt C ρ x i) (k : Ok C ρ s) (z : St C s₀ s)
    (h : ∀ v s', Ok C ρ s' → St C s₀ s' → St C s s' → IsPart v i → Q v s') : wpAny C.M C.A (evalPart x C.env) Q (fun _ _ => False) s := by
  cases p with
  | none => exact evalPart_none_step (h _ _ k z (.refl k) .none)
  | some e => exact evalPart_some_step (e.to k z fun v s' a b c r => h v s' a b c (by cases r; exact .int _ _))
theorem ev_slice {value : Expr} {lo hi st : Option Expr} {p pos : Pos} {d1 d : Dat} {i j k : Option Int} (h1 : Ev C ρ value d1) (a : Prt C ρ lo i) (b : Prt C ρ hi j) (c : Prt C ρ st k) (h : SlOn C d1 i j k d) :
    Ev C ρ (.Subscript value (.Slice lo hi st p) pos) d := fun s o => by
  refine Subscript_ (h1.to o (.refl o) fun v1 s1 o1 z1 _ r1 => wpAny_Slice (a.to o1 (.refl o1) fun l s2 o2 z2 _ pl => b.to o2 z2 fun u s3 o3 z3 _ pu => c.to o3 z3 fun t s4 o4 z4 _ pt => sub_tail ?_))
  have y : St C s4 { s4 with heap := s4.heap.push { cls := .type "slice", data := .fields #[l, u, t] } } := .push' o4.base _
  obtain ⟨T, id, a, b, c⟩ := h _ v1 s4.heap.objs.size l u t (o4.step y).nil ((r1.gr z4.gr).gr y.gr) (Heap.IsSliceOf.new _ _ _ _) pl pu pt
  exact ⟨T, id, a, b, wpAny_mono c (fun v s' ⟨a, b⟩ => ⟨((z1.trans z4).trans y).trans a, b⟩) fun _ _ f => f⟩

theorem it_str {x : Str} {i : Int} (h0 : 0 ≤ i) (h1 : i < x.length) (h2 : x.length ≤ 16777216) : ItOn C (.str x) (.int i) (.str (Txt.item x i)) := fun s o v k r1 r2 => by
  cases r1; cases r2
  exact SB.item (fitsSsize_of (N := 9223372036854775808) (by omega) (by omega) (Int.le_refl _)) (charAt_isSome (by omega) h1) ⟨.tok k _, .str _ _⟩
theorem it_list {ds : List Dat} {i : Int} {d : Dat} (h0 : 0 ≤ i) (h2 : ds.length ≤ 16777216) (hd : ds[i.toNat]? = some d) : ItOn C (.list ds) (.int i) d := fun s o v k r1 r2 => by
  cases r2
  cases r1 with
  | list hl a b q =>
  obtain ⟨v, hv, rv⟩ := q.get hd
  have hlt : i.toNat < ds.length := by
    rcases Nat.lt_or_ge i.toNat ds.length with z | z
    · exact z
    · rw [List.getElem?_eq_none z] at hd; cases hd
  exact ⟨"list", _, slot_list_getitem.lookup, hl.typeIs, wpAny_getItem_list hl h0 (by omega) (by simpa using hv) ⟨.refl k, rv⟩⟩
/-- an item of bytes -/
theorem it_bytes {b : Array UInt8} {i : Int} {j : Nat} {c : UInt8} (hs : b.size ≤ 16777216) (e : seqIndex? i b.size = some j) (hc : b[j]? = some c) (h1 : -16777216 ≤ i) (h2 : i ≤ 16777216) : ItOn C (.bytes b) (.int i) (.int (c.toNat : Int)) := fun s o v k r1 r2 => by
  cases r1; cases r2
  refine ⟨"bytes", _, FB.slot_bytes_getitem.lookup, typeIs_bytes _ _ _, getItem_gives (typeIs_bytes s _ _) (by decide) FB.slot_bytes_getitem FB.entry_bytes_getitem (FB.args_bytes_getitem_2 _ _) (gives_bytes_getitem _ i _ _ c ?_ ?_) ⟨.tok k _, .int _ _⟩⟩
  · simp only [Builtin.Bytes.fitsIndex, Bool.and_eq_true, decide_eq_true_eq]; omega
  · rw [e]; simpa using hc
theorem sl_str {x : Str} {lo hi : Option Int} (h : x.length ≤ sizeLine) : SlOn C (.str x) lo hi none (.str (Txt.slice x lo hi)) := fun s o a l u k ok r hS pl pu pk => by
  cases r
  rename_i t₀
  have key : ∀ (p q : Option (Int × Tok)), s.heap.IsSlice a p q none → ItemOn C.M C.A (fun _ _ => False) (.str x t₀) (.ref a) (fun v s' => St C s s' ∧ Rep C.F s'.heap v (.str (Txt.slice x (p.map (·.1)) (q.map (·.1))))) s := fun p q hS =>
    ⟨"str", _, F.slot_str_getitem.lookup, typeIs_str _ _ _, wpAny_getItem_str_slice hS rfl (post_val_or_str ⟨Nat.le_trans (Txt.slice_le x _ _) h, fun t' k => ⟨.tok ok _, .str _ _⟩⟩)⟩
  cases pk
  cases pl with
  | none => cases pu with
    | none => exact key none none hS
    | int j t => exact key none (some (j, t)) hS
  | int i t => cases pu with
    | none => exact key (some (i, t)) none hS
    | int j t' => exact key (some (i, t)) (some (j, t')) hS
theorem sl_bytes {b : Array UInt8} {lo hi : Option Int} (h : b.size ≤ sizeLine) : SlOn C (.bytes b) lo hi none (.bytes (KBy.picked b lo hi)) := fun s o a l u k ok r hS pl pu pk => by
  cases r
  cases pk
  exact ⟨"bytes", _, FB.slot_bytes_getitem.lookup, typeIs_bytes _ _ _, getItem_meets (typeIs_bytes _ _ _) (by decide) FB.slot_bytes_getitem FB.entry_bytes_getitem (FB.args_bytes_getitem_2 _ _) (KBc.meets_slice2 b _ _ pl pu)
    ⟨hS, Nat.le_trans (KBc.size_picked_le b lo hi) h, fun t' k => ⟨.tok ok _, .bytes _ _⟩⟩⟩
theorem sl_list {ds : List Dat} {es : List Dat} {lo hi st : Option Int} (h : ds.length ≤ sizeLine) (h0 : st ≠ some 0) (hp : ∀ F h vs, Reps F h vs ds → Reps F h (slicePick vs.toArray lo hi st).toList es) : SlOn C (.list ds) lo hi st (.list es) := fun s o a l u k ok r hS pl pu pk => by
  cases r with
  | @list _ vs _ hl m p q =>
  refine ⟨"list", _, slot_list_getitem.lookup, hl.typeIs, wpAny_getItem_list_slice hl hS pl pu pk h0 ?_ (by rw [List.size_toArray, q.length]; exact h)⟩
  obtain ⟨f1, f2⟩ := ok.fresh (Nat.le_refl _)
  have z : St C s { s with heap := s.heap.push { cls := .type "list", data := .seq (slicePick vs.toArray lo hi st) } } := .push' ok.base _
  exact ⟨z, .list (vs := (slicePick vs.toArray lo hi st).toList) ⟨_, Heap.get?_push_size _ rfl, rfl, _, by rw [Array.toArray_toList]⟩ f1 f2 ((hp _ _ _ q).gr z.gr)⟩
theorem sl_from {ds : List Dat} {k : Nat} (h : ds.length ≤ sizeLine) : SlOn C (.list ds) (some k) none none (.list (ds.drop k)) :=
  sl_list h (by simp) fun F h vs q => by rw [slicePick_from']; exact q.drop k
theorem sl_upto {ds : List Dat} {k : Nat} (h : ds.length ≤ sizeLine) : SlOn C (.list ds) none (some k) none (.list (ds.take k)) :=
  sl_list h (by simp) fun F h vs q => by rw [slicePick_upto']; exact q.take k
theorem sl_butLast {ds : List Dat} {k : Nat} (hk : 1 ≤ k) (h : ds.length ≤ sizeLine) : SlOn C (.list ds) none (some (-(k : Int))) none (.list (ds.take (ds.length - k))) :=
  sl_list h (by simp) fun F h vs q => by
    rw [slicePick_butLast _ _ hk]
    have := q.length
    simp only [List.size_toArray, this]
    exact q.take _
theorem sl_rev {ds : List Dat} (h : ds.length ≤ sizeLine) : SlOn C (.list ds) none none (some (-1)) (.list ds.reverse) :=
  sl_list h (by simp) fun F h vs q => by
    rw [krv_pick]
    exact q.reverse
theorem ev_neg {e : Expr} {pos : Pos} {i : Int} (h : Ev C ρ e (.int i)) : Ev C ρ (.UnaryOp .USub e pos) (.int (-i)) := fun s o =>
  wpAny_UnaryOp (h.to o (.refl o) fun v s1 o1 z1 _ r => by cases r; exact PySem.P.neg_int ⟨z1.trans (.tok o1 _), .int _ _⟩)
end
end Mine
end
section
set_option maxRecDepth 100000
set_option linter.unusedVariables false
namespace Mine
open PySem PySem.W PyProof.Rows PySem.Calls PySem.Spec

def notStar : Expr → Bool
  | .Starred .. => false
  | _ => true
theorem starEach_cons {e : Expr} {r : List Expr} (h : notStar e = true) (env : Env) : starEach (e :: r) env = (false, eval e env) :: starEach r env := by
  cases e <;> first | rfl | (simp [notStar] at h)
theorem star_any {pos : Pos} {env : Env} : ∀ {es : List Expr}, es.all notStar = true → (backTo pos (starEach es env)).any (·.1) = false
  | [], _ => rfl
  | e :: r, h => by
    rw [List.all_cons, Bool.and_eq_true] at h
    rw [starEach_cons h.1]
    show (false || (backTo pos (starEach r env)).any (·.1)) = false
    rw [star_any h.2]; rfl
theorem star_all {pos : Pos} {env : Env} : ∀ {es : List Expr}, es.all notStar = true → (backTo pos (starEach es env)).all (fun x => !x.1) = true
  | [], _ => rfl
  | e :: r, h => by
    rw [List.all_cons, Bool.and_eq_true] at h
    rw [starEach_cons h.1]
    show (!false && (backTo pos (starEach r env)).all (fun x => !x.1)) = true
    rw [star_all h.2]; rfl

/-- several, from left to right -/
inductive Evs (C : Cx) (ρ : List (Str × Dat)) : List Expr → List Dat → Prop
  | nil : Evs C ρ [] []
  | cons {e es d ds} : Ev C ρ e d → notStar e = true → Evs C ρ es ds → Evs C ρ (e :: es) (d :: ds)
section
variable {C : Cx} {ρ : List (Str × Dat)}
theorem Evs.plain : ∀ {es : List Expr} {ds : List Dat}, Evs C ρ es ds → es.all notStar = true
  | _, _, .nil => rfl
  | _, _, .cons _ h r => by rw [List.all_cons, h, r.plain]; rfl
theorem Evs.len : ∀ {es : List Expr} {ds : List Dat}, Evs C ρ es ds → es.length = ds.length
  | _, _, .nil => rfl
  | _, _, .cons _ h r => by simp [r.len]
theorem Evs.go (pos : Pos) : ∀ {es : List Expr} {ds : List Dat}, Evs C ρ es ds → ∀ s, Ok C ρ s → wpAny C.M C.A (spliced (backTo pos (starEach es C.env))) (fun vs s' => St C s s' ∧ Reps C.F s'.heap vs ds) (fun _ _ => False) s
  | _, _, .nil, s, o => Calls.spliced_nil ⟨.refl o, .nil⟩
  | _, _, .cons h hn r, s, o => by
    rw [starEach_cons hn]
    exact Calls.spliced_cons (h.to o (.refl o) fun v s1 o1 z1 _ r1 => wpAny_mono (r.go pos s1 o1) (fun vs s2 ⟨z2, r2⟩ => ⟨z1.trans z2, .cons (r1.gr z2.gr) r2⟩) fun _ _ f => f)
theorem evs_nil : Evs C ρ [] [] := .nil
theorem evs_cons {e : Expr} {es : List Expr} {d : Dat} {ds : List Dat} (h : Ev C ρ e d) (r : Evs C ρ es ds) (hn : notStar e = true := by rfl) : Evs C ρ (e :: es) (d :: ds) := .cons h hn r
theorem evs1 {e : Expr} {d : Dat} (h : Ev C ρ e d) (hn : notStar e = true := by rfl) : Evs C ρ [e] [d] := evs_cons h evs_nil hn
theorem evs2 {e f : Expr} {d d' : Dat} (h : Ev C ρ e d) (h' : Ev C ρ f d') (hn : notStar e = true := by rfl) (hn' : notStar f = true := by rfl) : Evs C ρ [e, f] [d, d'] := evs_cons h (evs1 h' hn') hn
theorem evs3 {e f g : Expr} {d d' d'' : Dat} (h : Ev C ρ e d) (h' : Ev C ρ f d') (h'' : Ev C ρ g d'') (hn : notStar e = true := by rfl) (hn' : notStar f = true := by rfl) (hn'' : notStar g = true := by rfl) : Evs C ρ [e, f, g] [d, d', d''] := evs_cons h (evs2 h' h'' hn' hn'') hn

theorem ev_listD {es : List Expr} {ds : List Dat} {pos : Pos} (h : Evs C ρ es ds) (hz : ds.length ≤ 1000) : Ev C ρ (.List es pos) (.list ds) := fun s o => by
  refine List_ (wpAny_mono (h.go pos s o) (fun vs s1 ⟨z1, r1⟩ => ?_) fun _ _ f => f.elim)
  have o1 := o.step z1
  obtain ⟨f1, f2⟩ := o1.fresh (Nat.le_refl _)
  have z : St C s1 { s1 with heap := s1.heap.push { cls := .type "list", data := .seq vs.toArray } } := .push' o1.base _
  exact wpAny_newObj_type ⟨z1.trans z, .list ⟨_, Heap.get?_push_size _ rfl, rfl, _, rfl⟩ f1 f2 (r1.gr z.gr)⟩ (by show vs.toArray.size ≤ sizeLine; rw [List.size_toArray, r1.length, sizeLine_eq]; omega)
theorem ev_tupD {es : List Expr} {ds : List Dat} {k : Nat} {pos : Pos} (h : Evs C ρ es ds) (hz : ds.length ≤ 1000) : Ev C ρ (.Tuple es k pos) (.tup ds) := fun s o => by
  refine Tuple_ (wpAny_mono (h.go pos s o) (fun vs s1 ⟨z1, r1⟩ => ?_) fun _ _ f => f.elim)
  have o1 := o.step z1
  obtain ⟨f1, f2⟩ := o1.fresh (Nat.le_refl _)
  have z : St C s1 { s1 with heap := s1.heap.push { cls := .type "tuple", data := .seq vs.toArray } } := .push' o1.base _
  exact wpAny_newObj_type ⟨z1.trans z, .tup ⟨_, Heap.get?_push_size _ rfl, rfl, _, rfl⟩ f1 f2 (r1.gr z.gr)⟩ (by show vs.toArray.size ≤ sizeLine; rw [List.size_toArray, r1.length, sizeLine_eq]; omega)

/-- who keeps the callee -/
def Kp (C : Cx) (f : Value) : Prop := ∀ h, (Kf C.w).In h → ∃ k, (k = Keeper.frame ∨ k = Keeper.machine ∨ k = Keeper.boundFrame) ∧ Looks C.M h (keeperOf f) k
theorem kp_builtin (id : String) : Kp C (.builtin id) := fun h _ => ⟨.machine, .inr (.inl rfl), Looks.of_pure rfl⟩
theorem kp_type (id : String) : Kp C (.type id) := fun h _ => ⟨.machine, .inr (.inl rfl), Looks.of_pure rfl⟩
theorem kp_K {f : Value} (hk : ∀ w, keepIn (Kf w) f = true) : Kp C f := keeps_K (hk C.w)

/-- a call -/
def Cal (C : Cx) (f : Value) (ds : List Dat) (d : Dat) : Prop := ∀ s vs, Ok C [] s → Reps C.F s.heap vs ds → wpAny C.M C.A (call f vs) (fun v s' => St C s s' ∧ Rep C.F s'.heap v d) (fun _ _ => False) s

theorem callWith_ev {pos : Pos} {f : Value} {first : List Value} {args : List Expr} {ds : List Dat} {s : Shared} {Q : Value → Shared → Prop} {E : Value → Shared → Prop} (ha : Evs C ρ args ds) (o : Ok C ρ s) (hk : Kp C f)
    (h : ∀ vs s', Ok C ρ s' → St C s s' → Reps C.F s'.heap vs ds → wpAny C.M C.A (call f (first ++ vs)) Q E s') :
    wpAny C.M C.A (callWith pos f first (backTo pos (starEach args C.env)) (backToKw pos (keywordEach [] C.env))) Q E s := by
  refine callWith_of (keywords := []) (by rw [star_any ha.plain]; rfl) hk ?_
  cases ha with
  | nil => exact evalArgs_nil3 ⟨o.base.wd.kin.keeps o.base.stay, h [] s o (.refl o) .nil⟩
  | cons a hn r =>
    have q := (Evs.cons a hn r).go pos s o
    rw [starEach_cons hn] at q ⊢
    exact evalArgs_plain (wpAny_mono q (fun vs s1 ⟨z1, r1⟩ => ⟨(o.step z1).base.wd.kin.keeps (o.step z1).base.stay, h vs s1 (o.step z1) z1 r1⟩) fun _ _ f => f.elim)

theorem ev_call {f : Expr} {args : List Expr} {pos : Pos} {fv : Value} {ds : List Dat} {d : Dat} (hf : Ev C ρ f (.cst fv)) (ha : Evs C ρ args ds) (hk : Kp C fv) (hc : Cal C fv ds d)
    (hform : eval (.Call f args [] pos) C.env = (do callWith pos (← eval f C.env) [] (backTo pos (starEach args C.env)) (backToKw pos (keywordEach [] C.env))) := by rfl) : Ev C ρ (.Call f args [] pos) d := fun s o => by
  rw [hform]
  refine wpAny_bind (hf.to o (.refl o) fun v s1 o1 z1 _ r1 => ?_)
  have hv : v = fv := by cases r1; rfl
  subst hv
  exact callWith_ev ha o1 hk fun vs s2 o2 z2 r2 => wpAny_mono (hc s2 vs o2.nil r2) (fun v s3 ⟨z3, r3⟩ => ⟨(z1.trans z2).trans z3, r3⟩) fun _ _ f => f

/-- a method of a built-in type's -/
theorem ev_meth {o' : Expr} {name : Str} {apos pos : Pos} {args : List Expr} {d1 : Dat} {ds : List Dat} {d : Dat} {T id : String} (ho : Ev C ρ o' d1) (ha : Evs C ρ args ds)
    (hT : ∀ (s : Shared) v, Rep C.F s.heap v d1 → s.TypeIs v T ∧ ∀ a, v = .ref a → ∃ ob, s.heap.get? a = some ob ∧ ob.dict = none) (pa : PlainAttrs T) (slot : Slot T name id) (ty : typeOf (.builtin id) = pure (.type "method_descriptor"))
    (hc : Cal C (.builtin id) (d1 :: ds) d) (hline : (apos.endLine == pos.line) = true := by rfl) (hbase : attributeBase o' name C.env (eval o' C.env) = eval o' C.env := by rfl) (hlen : args.length < 25 := by decide) :
    Ev C ρ (.Call (.Attribute o' name apos) args [] pos) d := fun s o => by
  refine wpAny_Call_method_lateS hbase ?_ hline (ho.to o (.refl o) fun v s1 o1 z1 _ r1 => ?_)
  · rw [star_all ha.plain]
    simp only [keywordEach, backToKw, List.map_nil, List.all_nil, List.length_nil, List.isEmpty_nil, if_true, Bool.and_self, Bool.true_and, decide_eq_true_eq]
    omega
  · obtain ⟨h1, h2⟩ := hT s1 v r1
    exact ⟨T, id, pa, slot, ty, h1, h2, callWith_ev ha o1 (kp_builtin id) fun vs s2 o2 z2 r2 => wpAny_mono (hc s2 (v :: vs) o2.nil (.cons (r1.gr z2.gr) r2)) (fun v s3 ⟨z3, r3⟩ => ⟨(z1.trans z2).trans z3, r3⟩) fun _ _ f => f⟩
theorem typeS {s : Shared} {x : Str} (v : Value) (r : Rep C.F s.heap v (.str x)) : s.TypeIs v "str" ∧ ∀ a, v = .ref a → ∃ ob, s.heap.get? a = some ob ∧ ob.dict = none := by
  cases r; exact ⟨typeIs_str _ _ _, fun _ e => nomatch e⟩
theorem typeI {s : Shared} {x : Int} (v : Value) (r : Rep C.F s.heap v (.int x)) : s.TypeIs v "int" ∧ ∀ a, v = .ref a → ∃ ob, s.heap.get? a = some ob ∧ ob.dict = none := by
  cases r; exact ⟨typeIs_int _ _ _, fun _ e => nomatch e⟩
end
end Mine
end
section
set_option maxRecDepth 100000
set_option linter.unusedVariables false
namespace Mine
open PySem PySem.W PyProof.Rows PySem.Calls PySem.Spec

theorem entry_unchain : entryFor table "proto.unchain" = some Builtin.«proto.unchain» := entryFor_of_tree (by kernel_rfl)

section
variable {prog : Program} {w : World} {A : Around} {E : Value → Shared → Prop} {s : Shared}
/-- a new exception is raised: with a handled one beside it, it gets a context -/
theorem raise_ok {α : Type} {F : List Addr} {cls : String} {args : List Value} {Q : α → Shared → Prop} (k : HOk A F s.heap) (hz : args.length ≤ 100) (hm : ownMembersOf (.type cls) args = #[]) (hf : ∃ v, firstArgMember (.type cls) args = pure v)
    (h : ∀ h' e o vs, (∀ b o, s.heap.get? b = some o → h'.get? b = some o) → h'.get? e = some o → o.cls = .type cls → o.data = .fields vs → vs.size = 6 → vs[1]? = some .none → (A.handled = none → vs[2]? = some .none) → s.heap.objs.size ≤ e → E (.ref e) { s with heap := h' }) :
    wpAny (model prog w) A (newExc (.type cls) args >>= fun e => (raiseNew e : Sem α)) Q E s := by
  obtain ⟨v, hv⟩ := hf
  refine wpAny_bind ?_
  simp only [newExc, newTuple]
  refine wpAny_bind (wpAny_newObj_type ?_ (by show args.toArray.size ≤ sizeLine; rw [List.size_toArray, sizeLine_eq]; omega))
  refine wpAny_bind (m := firstArgMember _ _) (wpAny_of_eq (a := v) hv ?_)
  rw [hm]
  refine wpAny_newObj_type ?_ (show (#[Value.ref s.heap.objs.size, .none, .none, .none, .bool false, v] ++ #[]).size ≤ _ from by rw [sizeLine_eq]; exact Nat.le_of_ble_eq_true rfl)
  simp only [raiseNew]
  refine wpAny_bind (wpAny_handled ?_)
  have keep : ∀ b o, s.heap.get? b = some o → ((s.heap.push { cls := .type "tuple", dict := none, data := .seq args.toArray }).push { cls := .type cls, dict := none, data := .fields (#[.ref s.heap.objs.size, .none, .none, .none, .bool false, v] ++ #[]) }).get? b = some o := fun b o e => Heap.get?_push_of_some _ (Heap.get?_push_of_some _ e)
  have hlt : s.heap.objs.size ≤ (s.heap.push { cls := .type "tuple", dict := none, data := .seq args.toArray }).objs.size := by rw [Heap.size_push]; exact Nat.le_succ _
  have hnew := Heap.get?_push_size (s.heap.push { cls := .type "tuple", dict := none, data := .seq args.toArray }) (o := { cls := .type cls, dict := none, data := .fields (#[.ref s.heap.objs.size, .none, .none, .none, .bool false, v] ++ #[]) }) rfl
  rcases k with k | ⟨x, ox, vs, k1, k2, k3, k4, _⟩
  · rw [k]
    exact wpAny_bind (wpAny_pure (wpAny_throw (h _ _ _ _ keep hnew rfl rfl rfl rfl (fun _ => rfl) hlt)))
  · rw [k1]
    have hx : x < s.heap.objs.size := Heap.lt_size k2
    have hx2 := Nat.lt_of_lt_of_le hx hlt
    have hne : (Value.ref x != Value.ref (s.heap.push { cls := .type "tuple", dict := none, data := .seq args.toArray }).objs.size) = true := by
      simp only [bne_iff_ne, ne_eq, Value.ref.injEq]; exact Nat.ne_of_lt hx2
    simp only [hne, if_true]
    refine wpAny_bind (wpAny_holding (wpAny_runValue (codeAny_builtin entry_unchain ?_)))
    unfold Builtin.«proto.unchain»
    show wpAny _ _ (field (.ref x) 2 >>= _) _ _ _
    refine wpAny_bind (wpAny_field (keep _ _ k2) k3 k4 ?_)
    show wpAny _ _ (ret .none) _ _ _
    refine wpAny_pure ?_
    dsimp only
    refine wpAny_bind (wpAny_setField hnew rfl (by simp) ?_)
    refine wpAny_throw (h _ _ _ _ (fun b o e => ?_) (Heap.get?_update_self _ hnew rfl) rfl rfl rfl rfl (fun q => by rw [k1] at q; cases q) hlt)
    rw [Heap.get?_update_other _ _ (Nat.ne_of_gt (Nat.lt_of_lt_of_le (Heap.lt_size e) hlt))]
    exact keep b o e
/-- the end of a walk -/
theorem stop_raise {α : Type} {F : List Addr} {Q : α → Shared → Prop} (k : HOk A F s.heap) (h : ∀ h' e, (∀ b o, s.heap.get? b = some o → h'.get? b = some o) → (∃ o, h'.get? e = some o ∧ o.cls = .type "StopIteration") → E (.ref e) { s with heap := h' }) :
    wpAny (model prog w) A (newExc (.type "StopIteration") [] >>= fun e => (raiseNew e : Sem α)) Q E s :=
  raise_ok k (by decide) rfl ⟨.none, by first | rfl | (simp only [firstArgMember]; rfl)⟩ fun h' e o vs keep he hc _ _ _ _ _ => h h' e keep ⟨o, he, hc⟩
theorem stop_then {e : Value} {h' : Heap} {Q : Option Value → Shared → Prop} (hx : ∃ a o, e = .ref a ∧ h'.get? a = some o ∧ o.cls = .type "StopIteration") (h : Q none { s with heap := h' }) :
    wpAny (model prog w) A (do if ← isInstance e (.type "StopIteration") then pure none else throw e) Q E { s with heap := h' } := by
  obtain ⟨a, o, rfl, h1, h2⟩ := hx
  exact wpAny_bind (wpAny_isInstance (T := "StopIteration") (b := true) ⟨o, h1, h2⟩ isSubtype_stop (wpAny_pure h))

theorem list_end {F : List Addr} {it l : Addr} {i : Nat} {items : Array Value} {Q : Option Value → Shared → Prop} (k : HOk A F s.heap) (hi : ∀ x, A.handled = some (.ref x) → x ≠ it) (hit : s.heap.IsListIter it l i) (hl : s.heap.IsList l items) (hx : items[i]? = none)
    (hQ : ∀ h', (∀ b o, b ≠ it → s.heap.get? b = some o → h'.get? b = some o) → Q none { s with heap := h' }) : wpAny (model prog w) A (pyNext (.ref it)) Q E s := by
  obtain ⟨o, ho, hc, hd⟩ := id hit
  obtain ⟨ol, hol, _, nl, hdl⟩ := hl
  unfold pyNext
  refine wpAny_bind (wpAny_attempt (wpAny_callSpecial?_slot (name := Str.ofString "__next__") hit.typeIs slot_listiter_next (wpAny_call_entry slot_listiter_next hit.typeIs entry_listiter_next ?_ (args_listiter_next _))))
  show wpAny _ _ (field (.ref it) 0 >>= _) _ _ s
  refine wpAny_bind (wpAny_field ho hd (x := .ref l) rfl ?_)
  show wpAny _ _ (if (Value.ref l == Value.none) = true then _ else _) _ _ s
  rw [if_neg (show ¬ ((Value.ref l == Value.none) = true) from Bool.false_ne_true)]
  show wpAny _ _ (field (.ref it) 1 >>= _) _ _ s
  refine wpAny_bind (wpAny_field ho hd (x := .int i 0) rfl ?_)
  show wpAny _ _ (seqItems? (.ref l) >>= _) _ _ s
  refine wpAny_bind (wpAny_seqItems hol hdl ?_)
  simp only [Int.toNat_natCast, hx]
  refine wpAny_bind (wpAny_rule (wpAny_bind (wpAny_setField ho hd (by simp) ?_)))
  have k' : HOk A.in1 F (s.heap.update it (Obj.mapFields (·.setIfInBounds 0 Value.none))) := by
    rcases k with k | ⟨x, ox, vs, k1, k2, k3, k4, k5⟩
    · exact .inl k
    · exact .inr ⟨x, ox, vs, k1, (Heap.get?_update_other _ _ (Ne.symm (hi x k1))).trans k2, k3, k4, k5⟩
  refine stop_raise (s := { s with heap := s.heap.update it (Obj.mapFields (·.setIfInBounds 0 Value.none)) }) k' fun h' e keep ⟨oe, he, hce⟩ => ?_
  exact wpAny_bind (wpAny_isInstance (T := "StopIteration") (b := true) ⟨oe, he, hce⟩ isSubtype_stop (wpAny_pure (hQ h' fun b o hb e => keep b o ((Heap.get?_update_other _ _ (Ne.symm hb)).trans e))))

theorem ascii_end {F : List Addr} {it : Addr} {x : Str} {t : Tok} {i : Nat} {Q : Option Value → Shared → Prop} (k : HOk A F s.heap) (hi : ∀ x, A.handled = some (.ref x) → x ≠ it)
    (hit : s.heap.IsStrIter it "str_ascii_iterator" x t i) (hx : x.cps[i]? = none)
    (hQ : ∀ h', (∀ b o, b ≠ it → s.heap.get? b = some o → h'.get? b = some o) → Q none { s with heap := h' }) : wpAny (model prog w) A (pyNext (.ref it)) Q E s := by
  obtain ⟨o, ho, hc, hd⟩ := id hit
  unfold pyNext
  refine wpAny_bind (wpAny_attempt (wpAny_callSpecial?_slot (name := Str.ofString "__next__") hit.typeIs PySem.F.slot_str_ascii_iterator_next
    (wpAny_call_entry PySem.F.slot_str_ascii_iterator_next hit.typeIs PySem.F.entry_str_ascii_iterator_next ?_ (PySem.F.args_str_ascii_iterator_next_1 _))))
  show wpAny _ _ (field (.ref it) 0 >>= _) _ _ s
  refine wpAny_bind (wpAny_field ho hd (x := .str x t) rfl ?_)
  show wpAny _ _ (field (.ref it) 1 >>= _) _ _ s
  refine wpAny_bind (wpAny_field ho hd (x := .int i 0) rfl ?_)
  simp only [Int.toNat_natCast, hx]
  refine wpAny_bind (wpAny_rule (wpAny_bind (wpAny_setField ho hd (by simp) (wpAny_bind (wpAny_letGo ?_)))))
  have k' : ∀ f, HOk A.in1 F (s.heap.update it f) := fun f => by
    rcases k with k | ⟨x, ox, vs, k1, k2, k3, k4, k5⟩
    · exact .inl k
    · exact .inr ⟨x, ox, vs, k1, (Heap.get?_update_other _ _ (Ne.symm (hi x k1))).trans k2, k3, k4, k5⟩
  refine stop_raise (k' _) fun h' e keep ⟨oe, he, hce⟩ => ?_
  exact wpAny_bind (wpAny_isInstance (T := "StopIteration") (b := true) ⟨oe, he, hce⟩ isSubtype_stop (wpAny_pure (hQ h' fun b o hb e => keep b o ((Heap.get?_update_other _ _ (Ne.symm hb)).trans e))))

theorem range_end {F : List Addr} {it : Addr} {x left step : Int} {Q : Option Value → Shared → Prop} (k : HOk A F s.heap) (hit : IsRangeIter s.heap it x left step) (hleft : left ≤ 0)
    (hQ : ∀ h', (∀ b o, b ≠ it → s.heap.get? b = some o → h'.get? b = some o) → Q none { s with heap := h' }) : wpAny (model prog w) A (pyNext (.ref it)) Q E s := by
  have hT : s.TypeIs (.ref it) "range_iterator" := ⟨_, hit, rfl⟩
  unfold pyNext
  refine wpAny_bind (wpAny_attempt (wpAny_callSpecial?_slot (name := Str.ofString "__next__") hT PySem.F.slot_range_iterator_next
    (wpAny_call_entry PySem.F.slot_range_iterator_next hT PySem.F.entry_range_iterator_next ?_ (PySem.F.args_range_iterator_next_1 _))))
  show wpAny _ _ (field (.ref it) 0 >>= _) _ _ s
  refine wpAny_bind (wpAny_field hit rfl (x := rawInt x) rfl ?_)
  show wpAny _ _ (field (.ref it) 1 >>= _) _ _ s
  refine wpAny_bind (wpAny_field hit rfl (x := rawInt left) rfl ?_)
  show wpAny _ _ (field (.ref it) 2 >>= _) _ _ s
  refine wpAny_bind (wpAny_field hit rfl (x := rawInt step) rfl ?_)
  show wpAny _ _ (if left ≤ 0 then _ else _) _ _ s
  rw [if_pos hleft]
  refine wpAny_bind (wpAny_rule ?_)
  refine wpAny_bind ?_
  refine stop_raise (A := A.in1) k fun h' e keep ⟨oe, he, hce⟩ => ?_
  exact wpAny_bind (wpAny_isInstance (T := "StopIteration") (b := true) ⟨oe, he, hce⟩ isSubtype_stop (wpAny_pure (hQ h' fun b o hb e => keep b o e)))
end

/-- no list, tuple, mapping, object, cell -/
structure Odd (o : Obj) : Prop where
  seq : ∀ its n, o.data ≠ .seq its n
  dict : ∀ es n, o.data ≠ .dict es n
  cls : ∃ T, o.cls = .type T
  cell : ∀ v, o.data ≠ .cell v
theorem Odd.fields {o : Obj} {vs : Array Value} {T : String} (h : o.data = .fields vs) (hc : o.cls = .type T) : Odd o := ⟨(fun _ _ q => by rw [h] at q; cases q), (fun _ _ q => by rw [h] at q; cases q), ⟨T, hc⟩, (fun _ q => by rw [h] at q; cases q)⟩
theorem no_cell_seq {h : Heap} {a : Addr} {o : Obj} {its : Array Value} {n : Nat} (ho : h.get? a = some o) (hd : o.data = .seq its n) (v : Option Value) : ¬ h.IsCell a v := fun ⟨oc, q, r⟩ => by
  rw [q] at ho; cases ho; rw [hd] at r; cases r
theorem no_cell_odd {h : Heap} {a : Addr} {o : Obj} (ho : h.get? a = some o) (hd : Odd o) (v : Option Value) : ¬ h.IsCell a v := fun ⟨oc, q, r⟩ => by
  rw [q] at ho; cases ho; exact hd.cell _ r
/-- an iterator I that gives ds, at place i where S i holds -/
structure Wk (w : World) (A : Around) (F : List Addr) (I : Addr) (fp : List Addr) (ds : List Dat) (S : Nat → Heap → Prop) : Prop where
  off : ∀ b ∈ fp, b ∉ F ∧ b ≠ gP
  keep : ∀ i h h', S i h → (∀ b ∈ fp, ∀ o, h.get? b = some o → h'.get? b = some o) → S i h'
  item : ∀ i d (s : Shared) (Q : Option Value → Shared → Prop) (E : Value → Shared → Prop), S i s.heap → ds[i]? = some d →
    (∀ v h' tk, Rep F h' v d → S (i + 1) h' → (∀ b o, b ≠ I → s.heap.get? b = some o → h'.get? b = some o) → Q (some v) { s with heap := h', toks := tk }) → wpAny (Mw w) A (pyNext (.ref I)) Q E s
  done : ∀ (s : Shared) (Q : Option Value → Shared → Prop) (E : Value → Shared → Prop), S ds.length s.heap → HOk A F s.heap →
    (∀ h' tk, (∀ b o, b ≠ I → s.heap.get? b = some o → h'.get? b = some o) → Q none { s with heap := h', toks := tk }) → wpAny (Mw w) A (pyNext (.ref I)) Q E s
  self : ∀ i (s : Shared) (Q : Value → Shared → Prop) (E : Value → Shared → Prop), S i s.heap → Q (.ref I) s → wpAny (Mw w) A (pyIter (.ref I)) Q E s
  kind : ∀ i h, S i h → (∃ o, h.get? I = some o ∧ Odd o) ∧ ∀ b ∈ fp, ∀ v, ¬ h.IsCell b v

def Dat.flat : Dat → Bool
  | .list _ | .tup _ | .inst _ _ | .cst _ | .own _ _ _ => false
  | _ => true
theorem Rep.flat {F F' : List Addr} {h h' : Heap} {v : Value} {d : Dat} (hd : d.flat = true) (r : Rep F h v d) : Rep F' h' v d := by
  cases r <;> first | (simp [Dat.flat] at hd; done) | constructor
theorem Reps.flat {F F' : List Addr} {h h' : Heap} : ∀ {vs : List Value} {ds : List Dat}, (∀ d ∈ ds, d.flat = true) → Reps F h vs ds → Reps F' h' vs ds
  | _, _, _, .nil => .nil
  | _, _, k, .cons a r => .cons (a.flat (k _ (.head _))) (Reps.flat (fun d hd => k d (.tail _ hd)) r)

section
variable {w : World} {A : Around} {F : List Addr}

theorem wk_list {I l : Addr} {vs : List Value} {ds : List Dat} (hf : ∀ d ∈ ds, d.flat = true) (hne : l ≠ I) (hI : I ∉ F) (hIg : I ≠ gP) (hl : l ∉ F) (hlg : l ≠ gP) (hx : ∀ x, A.handled = some (.ref x) → x ≠ I) :
    Wk w A F I [I, l] ds (fun i h => h.IsListIter I l i ∧ h.IsList l vs.toArray ∧ Reps F h vs ds) where
  off := fun b hb => by
    simp only [List.mem_cons, List.not_mem_nil, or_false] at hb
    rcases hb with rfl | rfl
    · exact ⟨hI, hIg⟩
    · exact ⟨hl, hlg⟩
  keep := fun i h h' ⟨⟨o, a, b⟩, ⟨p, c, q⟩, d⟩ g => ⟨⟨o, g _ (.head _) _ a, b⟩, ⟨p, g _ (.tail _ (.head _)) _ c, q⟩, d.flat hf⟩
  item := fun i d s Q E ⟨h1, h2, h3⟩ hd hQ => by
    obtain ⟨v, hv, rv⟩ := h3.get hd
    exact wpAny_pyNext_list_item h1 h2 (x := v) (by simpa using hv) fun h' a b => hQ v h' s.toks (rv.flat (hf d (List.mem_of_getElem? hd))) ⟨a, h2.extBut b.extBut hne, h3.flat hf⟩ b.extBut
  done := fun s Q E ⟨h1, h2, h3⟩ k hQ => list_end k hx h1 h2 (by simp [h3.length]) fun h' a => hQ h' s.toks a
  self := fun i s Q E ⟨h1, _, _⟩ hQ => wpAny_pyIter_listiter h1 hQ
  kind := fun i h ⟨⟨o, h1, h2, h3⟩, ⟨p, g1, _, n, g2⟩, _⟩ => ⟨⟨o, h1, .fields h3 h2⟩, fun b hb => by
    simp only [List.mem_cons, List.not_mem_nil, or_false] at hb
    rcases hb with rfl | rfl
    · exact no_cell_odd h1 (.fields h3 h2)
    · exact no_cell_seq g1 g2⟩
theorem wk_tup {I l : Addr} {vs : List Value} {ds : List Dat} (hh : A.handled = none) (hf : ∀ d ∈ ds, d.flat = true) (hne : l ≠ I) (hI : I ∉ F) (hIg : I ≠ gP) (hl : l ∉ F) (hlg : l ≠ gP) :
    Wk w A F I [I, l] ds (fun i h => h.IsTupleIter I l i ∧ h.IsTuple l vs.toArray ∧ Reps F h vs ds) where
  off := fun b hb => by
    simp only [List.mem_cons, List.not_mem_nil, or_false] at hb
    rcases hb with rfl | rfl
    · exact ⟨hI, hIg⟩
    · exact ⟨hl, hlg⟩
  keep := fun i h h' ⟨⟨o, a, b⟩, ⟨p, c, q⟩, d⟩ g => ⟨⟨o, g _ (.head _) _ a, b⟩, ⟨p, g _ (.tail _ (.head _)) _ c, q⟩, d.flat hf⟩
  item := fun i d s Q E ⟨h1, h2, h3⟩ hd hQ => by
    obtain ⟨v, hv, rv⟩ := h3.get hd
    exact wpAny_pyNext_tuple_item h1 h2 (x := v) (by simpa using hv) fun h' a b => hQ v h' s.toks (rv.flat (hf d (List.mem_of_getElem? hd))) ⟨a, h2.extBut b.extBut hne, h3.flat hf⟩ b.extBut
  done := fun s Q E ⟨h1, h2, h3⟩ k hQ => wpAny_pyNext_tuple_end hh h1 h2 (by simp [h3.length]) fun h' a => hQ h' s.toks a
  self := fun i s Q E ⟨h1, _, _⟩ hQ => wpAny_pyIter_tupleiter h1 hQ
  kind := fun i h ⟨⟨o, h1, h2, h3⟩, ⟨p, g1, _, n, g2⟩, _⟩ => ⟨⟨o, h1, .fields h3 h2⟩, fun b hb => by
    simp only [List.mem_cons, List.not_mem_nil, or_false] at hb
    rcases hb with rfl | rfl
    · exact no_cell_odd h1 (.fields h3 h2)
    · exact no_cell_seq g1 g2⟩
def chars (x : Str) : List Dat := x.cps.toList.map fun c => .str ⟨#[c]⟩
theorem wk_str {I : Addr} {x : Str} {t : Tok} (hI : I ∉ F) (hIg : I ≠ gP) (hx : ∀ x, A.handled = some (.ref x) → x ≠ I) :
    Wk w A F I [I] (chars x) (fun i h => h.IsStrIter I "str_ascii_iterator" x t i) where
  off := fun b hb => by rw [List.mem_singleton.mp hb]; exact ⟨hI, hIg⟩
  keep := fun i h h' ⟨o, a, b⟩ g => ⟨o, g _ (.head _) _ a, b⟩
  item := fun i d s Q E h1 hd hQ => by
    simp only [chars, List.getElem?_map, Option.map_eq_some_iff, Array.getElem?_toList] at hd
    obtain ⟨c, hc, rfl⟩ := hd
    exact wpAny_pyNext_ascii_item h1 hc fun h' a b => hQ _ h' _ (.str _ _) a b.extBut
  done := fun s Q E h1 k hQ => ascii_end k hx h1 (by simp [chars]) fun h' a => hQ h' s.toks a
  self := fun i s Q E h1 hQ => wpAny_pyIter_striter_ascii h1 hQ
  kind := fun i h ⟨o, h1, h2, h3⟩ => ⟨⟨o, h1, .fields h3 h2⟩, fun b hb => by rw [List.mem_singleton.mp hb]; exact no_cell_odd h1 (.fields h3 h2)⟩
def byteInts (b : Array UInt8) : List Dat := b.toList.map fun c => .int (c.toNat : Int)
theorem wk_bytes {I : Addr} {b : Array UInt8} {t : Tok} (hh : A.handled = none) (hI : I ∉ F) (hIg : I ≠ gP) :
    Wk w A F I [I] (byteInts b) (fun i h => KBw.IsBytesIter h I b t i) where
  off := fun b hb => by rw [List.mem_singleton.mp hb]; exact ⟨hI, hIg⟩
  keep := fun i h h' ⟨o, a, b⟩ g => ⟨o, g _ (.head _) _ a, b⟩
  item := fun i d s Q E h1 hd hQ => by
    simp only [byteInts, List.getElem?_map, Option.map_eq_some_iff, Array.getElem?_toList] at hd
    obtain ⟨c, hc, rfl⟩ := hd
    exact KBw.next_item h1 hc fun h' a b => hQ _ h' _ (.int _ _) a b.extBut
  done := fun s Q E h1 k hQ => KBw.next_end hh h1 (by simp [byteInts]) fun h' a => hQ h' s.toks a
  self := fun i s Q E h1 hQ => KBw.pyIter_self h1 hQ
  kind := fun i h ⟨o, h1, h2, h3⟩ => ⟨⟨o, h1, .fields h3 h2⟩, fun b hb => by rw [List.mem_singleton.mp hb]; exact no_cell_odd h1 (.fields h3 h2)⟩
def upTo (n : Nat) : List Dat := (List.range n).map fun (k : Nat) => Dat.int (k : Int)
theorem wk_range {I : Addr} {n : Nat} (hI : I ∉ F) (hIg : I ≠ gP) :
    Wk w A F I [I] (upTo n) (fun i h => IsRangeIter h I (i : Int) ((n : Int) - i) 1) where
  off := fun b hb => by rw [List.mem_singleton.mp hb]; exact ⟨hI, hIg⟩
  keep := fun i h h' a g => g _ (.head _) _ a
  item := fun i d s Q E h1 hd hQ => by
    simp only [upTo, List.getElem?_map, Option.map_eq_some_iff] at hd
    obtain ⟨c, hc, rfl⟩ := hd
    have hlt : i < n := by
      rcases Nat.lt_or_ge i n with z | z
      · exact z
      · rw [List.getElem?_eq_none (by simpa using z)] at hc; cases hc
    rw [List.getElem?_range hlt] at hc
    cases hc
    exact wpAny_pyNext_range_item h1 (by omega) fun h' a b => hQ _ h' _ (.int _ _) (by
      have e : (n : Int) - ((i : Int) + 1) = (n : Int) - i - 1 := by omega
      show IsRangeIter h' I ((i + 1 : Nat) : Int) ((n : Int) - ((i + 1 : Nat) : Int)) 1
      rw [Int.natCast_add]
      show IsRangeIter h' I ((i : Int) + 1) ((n : Int) - ((i : Int) + 1)) 1
      rw [e]; exact a) b.extBut
  done := fun s Q E h1 k hQ => range_end k h1 (by simp [upTo]) fun h' a => hQ h' s.toks a
  self := fun i s Q E h1 hQ => wpAny_pyIter_rangeiter h1 hQ
  kind := fun i h h1 => ⟨⟨_, h1, .fields rfl rfl⟩, fun b hb => by rw [List.mem_singleton.mp hb]; exact no_cell_odd h1 (.fields rfl rfl)⟩
end
end Mine
end
section
set_option maxRecDepth 100000
set_option linter.unusedVariables false
namespace Mine
open PySem PySem.W PyProof.Rows PySem.Calls PySem.Spec

/-- an iterator has been made -/
def ItP (C : Cx) (ds : List Dat) (it : Value) (s s' : Shared) : Prop :=
  ∃ I fp S, it = .ref I ∧ (∀ A, A.handled = C.A.handled → Wk C.w A C.F I fp ds S) ∧ S 0 s'.heap ∧ St C s s' ∧ s.heap.get? I = none ∧ I < s'.heap.objs.size ∧ I ∈ fp ∧ ∀ b ∈ fp, b < s'.heap.objs.size
def Itr (C : Cx) (d : Dat) (ds : List Dat) : Prop := ∀ s v, Ok C [] s → Rep C.F s.heap v d → wpAny C.M C.A (pyIter v) (fun it s' => ItP C ds it s s') (fun _ _ => False) s
/-- the expression is walked over -/
def EvIt (C : Cx) (ρ : List (Str × Dat)) (e : Expr) (ds : List Dat) : Prop :=
  ∀ s, Ok C ρ s → wpAny C.M C.A (eval e C.env) (fun x s₁ => wpAny C.M C.A (pyIter x) (fun it s' => ItP C ds it s s') (fun _ _ => False) s₁) (fun _ _ => False) s

section
variable {C : Cx} {ρ : List (Str × Dat)}
theorem none_size {h : Heap} {a : Addr} (ha : h.objs.size ≤ a) : h.get? a = none := by
  cases e : h.get? a with
  | none => rfl
  | some o => exact absurd (Heap.lt_size e) (Nat.not_lt.mpr ha)
theorem ItP.from {ds : List Dat} {it : Value} {s₀ s s' : Shared} (z : St C s₀ s) (p : ItP C ds it s s') (hs : s₀.heap.objs.size ≤ s.heap.objs.size) (hI : ∀ I, it = .ref I → s₀.heap.get? I = none) : ItP C ds it s₀ s' := by
  obtain ⟨I, fp, S, h1, h2, h3, h4, h5, h6⟩ := p
  exact ⟨I, fp, S, h1, h2, h3, z.trans h4, hI I h1, h6⟩
theorem get_none_of_gr {F : List Addr} {h h' : Heap} {a : Addr} (x : Gr F h h') (hn : h'.get? a = none) (hF : a ∉ F) (hg : a ≠ gP) : h.get? a = none := by
  cases e : h.get? a with
  | none => rfl
  | some o => rw [x.kc a o e hg hF] at hn; cases hn
theorem evIt {e : Expr} {d : Dat} {ds : List Dat} (h : Ev C ρ e d) (i : Itr C d ds) : EvIt C ρ e ds := fun s o =>
  h.to o (.refl o) fun v s1 o1 z1 _ r1 => wpAny_mono (i s1 v o1.nil r1) (fun it s2 p => by
    obtain ⟨I, fp, S, h1, h2, h3, h4, h5, h6, h7, h8⟩ := p
    have q := (h2 C.A rfl).off I h7
    exact ⟨I, fp, S, h1, h2, h3, z1.trans h4, get_none_of_gr z1.gr h5 q.1 q.2, h6, h7, h8⟩) fun _ _ f => f

theorem held_old {s : Shared} (o : Ok C ρ s) {I : Addr} (hI : s.heap.objs.size ≤ I) : ∀ x, C.A.handled = some (.ref x) → x ≠ I := fun x e q => by
  rcases o.hok with k | ⟨x', ox, vs, k1, k2, _⟩
  · rw [k] at e; cases e
  · rw [k1] at e
    cases e
    exact absurd (Heap.lt_size k2) (Nat.not_lt.mpr (q ▸ hI))
theorem itr_list {ds : List Dat} (hf : ∀ d ∈ ds, d.flat = true) : Itr C (.list ds) ds := fun s v o r => by
  cases r with
  | @list l vs _ hl m p q =>
  obtain ⟨f1, f2⟩ := o.fresh (Nat.le_refl _)
  have hlt := IsList.lt hl
  refine wpAny_pyIter_list hl ⟨s.heap.objs.size, [s.heap.objs.size, l], _, rfl, fun A hA => wk_list (vs := vs) hf (Nat.ne_of_lt hlt) f1 f2 m p (fun x e => held_old o (Nat.le_refl _) x (hA ▸ e)), ⟨⟨_, Heap.get?_push_size _ rfl, rfl, rfl⟩, hl.push _, q.flat hf⟩, .push' o.base _, none_size (Nat.le_refl _), ?_, .head _, ?_⟩
  · show _ < (Heap.push _ _).objs.size; rw [Heap.size_push]; exact Nat.lt_succ_self _
  · intro b hb
    show _ < (Heap.push _ _).objs.size
    rw [Heap.size_push]
    simp only [List.mem_cons, List.not_mem_nil, or_false] at hb
    rcases hb with rfl | rfl
    · exact Nat.lt_succ_self _
    · exact Nat.lt_succ_of_lt hlt
theorem itr_tup {ds : List Dat} (hh : C.A.handled = none) (hf : ∀ d ∈ ds, d.flat = true) : Itr C (.tup ds) ds := fun s v o r => by
  cases r with
  | @tup l vs _ hl m p q =>
  obtain ⟨f1, f2⟩ := o.fresh (Nat.le_refl _)
  have hlt := IsTuple.lt hl
  refine wpAny_pyIter_tuple hl ⟨s.heap.objs.size, [s.heap.objs.size, l], _, rfl, fun A hA => wk_tup (vs := vs) (hA.trans hh) hf (Nat.ne_of_lt hlt) f1 f2 m p, ⟨⟨_, Heap.get?_push_size _ rfl, rfl, rfl⟩, hl.push _, q.flat hf⟩, .push' o.base _, none_size (Nat.le_refl _), ?_, .head _, ?_⟩
  · show _ < (Heap.push _ _).objs.size; rw [Heap.size_push]; exact Nat.lt_succ_self _
  · intro b hb
    show _ < (Heap.push _ _).objs.size
    rw [Heap.size_push]
    simp only [List.mem_cons, List.not_mem_nil, or_false] at hb
    rcases hb with rfl | rfl
    · exact Nat.lt_succ_self _
    · exact Nat.lt_succ_of_lt hlt
theorem one_fp {h : Heap} {o : Obj} : h.objs.size < (h.push o).objs.size ∧ ∀ b ∈ [h.objs.size], b < (h.push o).objs.size := by
  refine ⟨by rw [Heap.size_push]; exact Nat.lt_succ_self _, fun b hb => ?_⟩
  rw [List.mem_singleton.mp hb, Heap.size_push]; exact Nat.lt_succ_self _
theorem itr_str {x : Str} (ha : x.cps.all (· < 128) = true) : Itr C (.str x) (chars x) := fun s v o r => by
  cases r
  obtain ⟨f1, f2⟩ := o.fresh (Nat.le_refl _)
  exact wpAny_pyIter_ascii ha ⟨s.heap.objs.size, [s.heap.objs.size], _, rfl, fun A hA => wk_str f1 f2 (fun x e => held_old o (Nat.le_refl _) x (hA ▸ e)), ⟨_, Heap.get?_push_size _ rfl, rfl, rfl⟩, .push' o.base _, none_size (Nat.le_refl _), one_fp.1, .head _, one_fp.2⟩
theorem itr_bytes {b : Array UInt8} (hh : C.A.handled = none) : Itr C (.bytes b) (byteInts b) := fun s v o r => by
  cases r
  obtain ⟨f1, f2⟩ := o.fresh (Nat.le_refl _)
  exact KBw.pyIter_bytes ⟨s.heap.objs.size, [s.heap.objs.size], _, rfl, fun A hA => wk_bytes (hA.trans hh) f1 f2, ⟨_, Heap.get?_push_size _ rfl, rfl, rfl⟩, .push' o.base _, none_size (Nat.le_refl _), one_fp.1, .head _, one_fp.2⟩
end

/-- the frame of a comprehension -/
def Cx.comp (C : Cx) (scope : Scope) (cl : List (Str × Addr)) (N : Addr) : Cx := { C with env := compEnvC scope cl N C.env }

theorem St.but {C : Cx} {ρ : List (Str × Dat)} {s s1 : Shared} {a : Addr} {h' : Heap} {t : Nat} (o : Ok C ρ s) (x : St C s s1) (ha : s.heap.get? a = none) (k : ∀ b o, b ≠ a → s1.heap.get? b = some o → h'.get? b = some o) : St C s { s1 with heap := h', toks := t } := by
  refine ⟨x.gr.but ha k, x.base.wd, fun b ob e => k b ob (fun q => ?_) (x.base.stay b ob e), ?_, x.base.bare, x.base.os⟩
  · have := o.base.stay b ob e
    rw [q, ha] at this; cases this
  · obtain ⟨ps, p, q⟩ := x.base.gi
    obtain ⟨ps0, p0, _⟩ := o.base.gi
    exact ⟨ps, k _ _ (fun e => by rw [e, ha] at p0; cases p0) p, q⟩

theorem lookup_relabel {env : Env} : ∀ {names : List (Str × NameKind)} {x : Str}, names.lookup x = some .free → env.scope.kind = .function → env.kindOf x = some .cell →
    (names.map fun (n, k) => if (k == NameKind.free && env.scope.kind == .function && env.kindOf n == some .cell) then (n, NameKind.cell) else (n, k)).lookup x = some .cell
  | [], _, h, _, _ => by simp at h
  | (n, k) :: r, x, h, hk, hc => by
    have ih := @lookup_relabel env r x
    show List.lookup x ((if (k == NameKind.free && env.scope.kind == .function && env.kindOf n == some .cell) = true then (n, NameKind.cell) else (n, k)) :: _) = _
    cases hx : x == n with
    | true =>
      simp only [List.lookup_cons, hx] at h
      cases h
      have e : x = n := beq_iff_eq.mp hx
      subst e
      rw [hk, hc]
      simp [List.lookup_cons]
    | false =>
      simp only [List.lookup_cons, hx] at h
      by_cases q : (k == NameKind.free && env.scope.kind == .function && env.kindOf n == some .cell) = true
      · rw [if_pos q]; simp only [List.lookup_cons, hx]; exact ih h hk hc
      · rw [if_neg q]; simp only [List.lookup_cons, hx]; exact ih h hk hc

/-- what a comprehension reads of the body's own -/
def FreeOk (C : Cx) (scope : Scope) (cl : List (Str × Addr)) (ρ ρc : List (Str × Dat)) : Prop :=
  ∀ p ∈ ρc, p ∈ ρ ∧ C.env.kindOf p.1 = some .cell ∧ scope.names.lookup p.1 = some .free ∧ cl.lookup p.1 = C.env.cells.lookup p.1

section
variable {C : Cx} {ρ ρc : List (Str × Dat)} {scope : Scope} {cl : List (Str × Addr)}
theorem Ok.comp {s : Shared} {N : Addr} {x : Str} {v : Value} {d : Dat} {m : Str → Option Value} (o : Ok C ρ s) (hkind : scope.kind = .function) (hx : scope.names.lookup x = some .local) (hN : N ≠ gP) (hf : FreeOk C scope cl ρ ρc)
    (hn : s.heap.Ns N m) (hv : m x = some v) (r : Rep C.F s.heap v d) : Ok (C.comp scope cl N) ((x, d) :: ρc) s where
  cx := { o.cx with kind := hkind, loc := hN }
  base := o.base
  gr := o.gr
  ff := o.ff
  hok := o.hok
  ns := ⟨m, hn⟩
  cel := o.cel
  loc := fun p hp => by
    rcases List.mem_cons.mp hp with rfl | hp
    · exact ⟨v, .inl ⟨lookup_relabel_local hx, m, hn, hv⟩, r⟩
    · obtain ⟨h1, h2, h3, h4⟩ := hf p hp
      obtain ⟨u, hl, ru⟩ := o.loc p h1
      rcases hl with ⟨q, _⟩ | ⟨_, c, q1, q2, q3⟩
      · rw [h2] at q; cases q
      · exact ⟨u, .inr ⟨.inl (lookup_relabel h3 o.cx.kind h2), c, (by show cl.lookup p.1 = _; rw [h4]; exact q1), q2, q3⟩, ru⟩

theorem comp_core {elt iter : Expr} {x : Str} {px pos pos' : Pos} {f : Dat → Dat} {ds : List Dat} {use : Option (Value → Sem Unit)} {Q E : Value → Shared → Prop} {s : Shared} (o : Ok C ρ s) (hi : EvIt C ρ iter ds)
    (hff : ∀ d ∈ ds, d.flat = true) (hfo : ∀ d ∈ ds, (f d).flat = true) (hz : ds.length ≤ sizeLine)
    (hclos : closureFor scope C.env = pure cl) (hcell : ∀ y ∈ scope.names, y.2 ≠ .cell) (hkind : scope.kind = .function) (hnames : ∀ y ∈ scope.names, y.2 = .local → scope.names.lookup y.1 = some .local) (hx : scope.names.lookup x = some .local)
    (hf : FreeOk C scope cl ρ ρc) (helt : ∀ N, ∀ d ∈ ds, Ev (C.comp scope cl N) ((x, d) :: ρc) elt (f d)) (hs : ∀ y, foldedSetIterable iter C.env y = pure y)
    (h : ∀ v N s' m, St C s s' → Rep C.F s'.heap v (.list (ds.map f)) → s'.heap.Ns N m → s.heap.get? N = none → (∀ a vs, v = .ref a → s'.heap.IsList a vs → a ≠ N) → compPost C.M C.A E use Q v N (.ok .next) s') :
    wpAny C.M C.A (comprehension (.ListComp elt [⟨.Name x px, iter, [], 0⟩] scope pos) scope C.env pos' (newList []) false (eval iter C.env) use) Q E s := by
  refine wpAny_comprehension_free (g := ⟨.Name x px, iter, [], 0⟩) (gs := []) rfl hs hclos hkind hnames ?_
  refine wpAny_mono (hi s o) (fun xv s1 h1 => wpAny_mono h1 (fun it s2 p => ?_) fun _ _ f => f.elim) fun _ _ f => f.elim
  obtain ⟨I, fp, S, rfl, hW, hS, z2, hIn, hIs, hIf, hfp⟩ := p
  have W := hW C.A rfl
  have o2 := o.step z2
  refine wpAny_newObj_type (wpAny_newFunctionEnv hcell (by intro y hy; simp at hy) (fun h₁ hns₁ hsb₁ => ?_) hkind)
  dsimp only at hns₁ hsb₁ ⊢
  obtain ⟨H2, hH2⟩ : ∃ H2, s2.heap.push { cls := .type "list", dict := none, data := .seq ([] : List Value).toArray } = H2 := ⟨_, rfl⟩
  rw [hH2] at hns₁ hsb₁ ⊢
  obtain ⟨N, hN⟩ : ∃ N, H2.objs.size = N := ⟨_, rfl⟩
  rw [hN] at hns₁ hsb₁ ⊢
  obtain ⟨D, hD⟩ : ∃ D, s2.heap.objs.size = D := ⟨_, rfl⟩
  rw [hD]
  have hNs : N = D + 1 := by rw [← hN, ← hH2, Heap.size_push, hD]
  have hDN : D ≠ N := by rw [hNs]; exact Nat.ne_of_lt (Nat.lt_succ_self _)
  have leD : s2.heap.objs.size ≤ D := Nat.le_of_eq hD
  have leN : s2.heap.objs.size ≤ N := by rw [hNs, hD]; exact Nat.le_succ _
  obtain ⟨fD1, fD2⟩ := o2.fresh leD
  obtain ⟨fN1, fN2⟩ := o2.fresh leN
  have nD : s.heap.get? D = none := get_none_of_gr z2.gr (none_size leD) fD1 fD2
  have nN : s.heap.get? N = none := get_none_of_gr z2.gr (none_size leN) fN1 fN2
  have hDfp : D ∉ fp := fun q => absurd (hfp D q) (Nat.not_lt.mpr leD)
  have hNfp : N ∉ fp := fun q => absurd (hfp N q) (Nat.not_lt.mpr leN)
  have hIN : I ≠ N := fun q => hNfp (q ▸ hIf)
  have hID : I ≠ D := fun q => hDfp (q ▸ hIf)
  have old : ∀ b ob, s2.heap.get? b = some ob → h₁.get? b = some ob := fun b ob e => hsb₁.extBut b ob (Nat.ne_of_lt (Nat.lt_of_lt_of_le (Heap.lt_size e) leN)) (Heap.get?_push_of_some _ (hH2 ▸ Heap.get?_push_of_some _ e))
  have hacc : h₁.PlainList D #[] := ⟨_, hsb₁.extBut _ _ hDN (Heap.get?_push_of_some _ (hH2 ▸ hD ▸ Heap.get?_push_size _ rfl))⟩
  have z3 : ∀ t, St C s { s2 with heap := h₁, toks := t } := fun t => z2.trans (.keeps o2.base old)
  have hS3 : S 0 h₁ := W.keep _ _ _ hS fun b _ ob e => old b ob e
  have loop : ∀ s3 : Shared, s3 = { s2 with heap := h₁, toks := s2.toks + ([] : List (Str × Value)).length } → codeAny C.M C.A (.compLoop (.ListComp elt [⟨.Name x px, iter, [], 0⟩] scope pos) 0 (.ref I) (.ref D) (compEnvC scope cl N C.env)) (compPost C.M C.A E use Q (.ref D) N) s3 := by
    rintro s3 rfl
    refine codeAny_compLoop_tests (fun n s' => ∃ m' ys k, S k s'.heap ∧ s'.heap.PlainList D ys ∧ s'.heap.Ns N m' ∧ Reps C.F s'.heap ys.toList ((ds.take k).map f) ∧ k ≤ ds.length ∧ n = ds.length + 1 - k ∧ St C s s') ?_ (ds.length + 1)
      ⟨_, #[], 0, hS3, hacc, hns₁, .nil, Nat.zero_le _, rfl, z3 _⟩
    rintro n s' ⟨m', ys, k, hSk, hys, hns, hreps, hk, rfl, z⟩
    by_cases hlt : k < ds.length
    · refine W.item k ds[k] _ _ _ hSk (List.getElem?_eq_getElem hlt) fun v h1 tk1 rv hS1 k1 => ?_
      have z4 : St C s { s' with heap := h1, toks := tk1 } := St.but o z hIn k1
      have hns1 : h1.Ns N m' := by
        obtain ⟨on, es, ep, a, b⟩ := hns
        exact ⟨on, es, ep, k1 _ _ (Ne.symm hIN) a, b⟩
      refine wpAny_assign_Name (wpAny_storeName_local (lookup_relabel_local hx) hns1 (fun h2 hn2 hs2 => ?_) (by simp [compEnvC, relabel, hkind]))
      have z5 : St C s { s' with heap := h2, toks := tk1 + 1 } := St.but (s1 := { s' with heap := h1, toks := tk1 }) o z4 nN hs2.extBut
      have hmem : ds[k] ∈ ds := List.getElem_mem hlt
      show wpAny _ _ (forIn [] true _) _ _ _
      rw [List.forIn_nil]
      refine wpAny_pure ?_
      rw [if_pos rfl]
      have oc := Ok.comp (o.step z5) hkind hx fN2 hf hn2 (if_pos rfl) (rv.flat (hff _ hmem))
      refine (helt N ds[k] hmem).to oc (.refl oc) fun y s3 o3 z6 _ r3 => ?_
      have z7 : St C s s3 := z5.trans ⟨z6.gr, z6.base⟩
      have up : ∀ b ob, b ≠ I → b ≠ N → b ∉ C.F → b ≠ gP → s'.heap.get? b = some ob → s3.heap.get? b = some ob := fun b ob p q r t e => z6.gr.kc _ _ (hs2.extBut b ob q (k1 b ob p e)) t r
      obtain ⟨nn, hys'⟩ := hys
      have hys3 := up D _ (Ne.symm hID) hDN fD1 fD2 hys'
      have hlen : ys.size = k := by
        have := hreps.length
        rw [Array.length_toList, List.length_map, List.length_take] at this
        omega
      refine wpAny_list_append_plain (hsz := by omega) ⟨nn, hys3⟩ fun h4 hl4 hs4 => ?_
      have z8 : St C s { s3 with heap := h4 } := St.but (s1 := s3) o z7 nD hs4.extBut
      refine ⟨ds.length + 1 - (k + 1), by omega, (fun y => if y = x then some v else m' y), ys.push y, k + 1, ?_, hl4, ?_, ?_, hlt, rfl, z8⟩
      · refine W.keep _ _ _ hS1 fun b hb ob e => ?_
        have hoff := W.off b hb
        exact hs4.extBut b ob (fun q => hDfp (q ▸ hb)) (z6.gr.kc _ _ (hs2.extBut b ob (fun q => hNfp (Eq.subst (motive := fun z => z ∈ fp) q hb)) e) hoff.2 hoff.1)
      · exact (z6.gr.ns hn2 fN2).sameBut hs4 (Ne.symm hDN)
      · rw [Array.toList_push, List.take_add_one, List.getElem?_eq_getElem hlt, Option.toList_some, List.map_append, List.map_cons, List.map_nil]
        refine Reps.append (hreps.flat fun d hd => ?_) (.cons (r3.flat (hfo _ hmem)) .nil)
        obtain ⟨d', hd', rfl⟩ := List.mem_map.mp hd
        exact hfo d' (List.mem_of_mem_take hd')
    · have hin : k = ds.length := by omega
      subst hin
      refine W.done _ _ _ hSk (o.step z).hok fun h1 tk1 k1 => ?_
      have z4 : St C s { s' with heap := h1, toks := tk1 } := St.but o z hIn k1
      obtain ⟨nn, hys'⟩ := hys
      have hl : h1.IsList D ys.toList.toArray := by
        rw [Array.toArray_toList]
        exact ⟨_, k1 _ _ (Ne.symm hID) hys', rfl, _, rfl⟩
      rw [List.take_length] at hreps
      have hns1 : h1.Ns N m' := by
        obtain ⟨on, es, ep, a, b⟩ := hns
        exact ⟨on, es, ep, k1 _ _ (Ne.symm hIN) a, b⟩
      refine h _ N _ m' z4 (.list hl fD1 fD2 (hreps.flat fun d hd => ?_)) hns1 nN fun a vs e _ => ?_
      · obtain ⟨d', hd', rfl⟩ := List.mem_map.mp hd
        exact hfo d' hd'
      · cases e; exact hDN
  exact codeAny_compStart_list (loop _ rfl) (W.self 0 _ _ _ hS3 (loop _ rfl))

theorem ev_comp {elt iter : Expr} {x : Str} {px pos : Pos} {cl : List (Str × Addr)} {scope : Scope} {ρc : List (Str × Dat)} {f : Dat → Dat} {ds : List Dat} (hi : EvIt C ρ iter ds)
    (hff : ∀ d ∈ ds, d.flat = true) (hfo : ∀ d ∈ ds, (f d).flat = true) (hz : ds.length ≤ sizeLine)
    (helt : ∀ N, ∀ d ∈ ds, Ev (C.comp scope cl N) ((x, d) :: ρc) elt (f d)) (hf : FreeOk C scope cl ρ ρc) (hclos : closureFor scope C.env = pure cl)
    (hcell : ∀ y ∈ scope.names, y.2 ≠ .cell := by decide) (hkind : scope.kind = .function := by rfl) (hnames : ∀ y ∈ scope.names, y.2 = .local → scope.names.lookup y.1 = some .local := by decide) (hx : scope.names.lookup x = some .local := by rfl)
    (hs : ∀ y, foldedSetIterable iter C.env y = pure y := by intro _; rfl) :
    Ev C ρ (.ListComp elt [⟨.Name x px, iter, [], 0⟩] scope pos) (.list (ds.map f)) := fun s o => by
  rw [eval_ListComp]
  refine comp_core (use := none) o hi hff hfo hz hclos hcell hkind hnames hx hf helt hs fun v N s' m z r hn hN hne => ⟨m, hn, fun h' sb => ?_⟩
  have z2 : St C s { s' with heap := h' } := St.but (s1 := s') (t := s'.toks) o z hN sb.extBut
  refine ⟨z2, ?_⟩
  cases r with
  | list hl f1 f2 q =>
    have hq : ∀ d ∈ ds.map f, d.flat = true := fun d hd => by
      obtain ⟨d', hd', rfl⟩ := List.mem_map.mp hd
      exact hfo d' hd'
    obtain ⟨ol, hol, hr⟩ := id hl
    exact .list ⟨ol, sb.extBut _ _ (hne _ _ rfl hl) hol, hr⟩ f1 f2 (q.flat hq)
end
end Mine
end
section
set_option maxRecDepth 100000
set_option linter.unusedVariables false
namespace Mine
open PySem PySem.W PyProof.Rows PySem.Calls PySem.Spec

/-- an exception on its way: P speaks of its first entry's mark -/
structure Flx (h₀ : Heap) (F : List Addr) (h : Heap) (e : Addr) (cls : Value) (c : Bool) (P : Option Value → Prop) : Prop where
  ex : ∃ oe vs, h.get? e = some oe ∧ oe.cls = cls ∧ oe.data = .fields vs ∧ (c = true → vs[2]? = some .none) ∧
     ((vs[1]? = some .none ∧ P none) ∨ ∃ T oT ts x, vs[1]? = some (.ref T) ∧ T ≠ e ∧ h₀.get? T = none ∧ T ∉ F ∧ T ≠ gP ∧ h.get? T = some oT ∧ oT.data = .fields ts ∧ ts[3]? = some x ∧ P (some x))
  new : h₀.get? e = none
  nF : e ∉ F
  nG : e ≠ gP
theorem Flx.mono {h₀ h : Heap} {F : List Addr} {e : Addr} {cls : Value} {c : Bool} {P P' : Option Value → Prop} (x : Flx h₀ F h e cls c P) (k : ∀ p, P p → P' p) : Flx h₀ F h e cls c P' := by
  obtain ⟨⟨oe, vs, a, b, d, g, i⟩, q, r, t⟩ := x
  refine ⟨⟨oe, vs, a, b, d, g, ?_⟩, q, r, t⟩
  rcases i with ⟨i, j⟩ | ⟨T, oT, ts, x, i1, i2, i3, i4, i5, i6, i7, i8, i9⟩
  · exact .inl ⟨i, k _ j⟩
  · exact .inr ⟨T, oT, ts, x, i1, i2, i3, i4, i5, i6, i7, i8, k _ i9⟩
/-- what noting keeps -/
structure Kx (h₀ : Heap) (F : List Addr) (h h' : Heap) : Prop where
  kc : ∀ b o, b ∉ F → h.get? b = some o → ((∀ vs, o.data ≠ .fields vs) ∨ ∃ o', h₀.get? b = some o') → h'.get? b = some o
  kn : ∀ b m, h.Ns b m → h'.Ns b m
  sz : h.objs.size ≤ h'.objs.size
theorem Kx.refl (h₀ : Heap) (F : List Addr) (h : Heap) : Kx h₀ F h h := ⟨fun _ _ _ e _ => e, fun _ _ e => e, Nat.le_refl _⟩
theorem Kx.trans {h₀ h₁ h₂ h₃ : Heap} {F : List Addr} (x : Kx h₀ F h₁ h₂) (y : Kx h₀ F h₂ h₃) : Kx h₀ F h₁ h₃ :=
  ⟨fun b o p e k => y.kc b o p (x.kc b o p e k) k, fun b m e => y.kn b m (x.kn b m e), Nat.le_trans x.sz y.sz⟩
theorem Kx.upd {h₀ h : Heap} {F : List Addr} {a : Addr} {o : Obj} {vs : Array Value} {f : Obj → Obj} (ho : h.get? a = some o) (hd : o.data = .fields vs) (hn : h₀.get? a = none) : Kx h₀ F h (h.update a f) := by
  refine ⟨fun b ob p e k => (Heap.get?_update_other _ _ fun q => ?_).trans e, fun b m ⟨on, es, ep, e, q, r⟩ => ⟨on, es, ep, (Heap.get?_update_other _ _ fun q' => ?_).trans e, q, r⟩, Nat.le_of_eq (Heap.size_after_update ..).symm⟩
  · subst q
    rw [ho] at e; cases e
    rcases k with k | ⟨o', k⟩
    · exact k _ hd
    · rw [hn] at k; cases k
  · subst q'
    rw [ho] at e; cases e
    rw [hd] at q; cases q

section
variable {M : Model} {A : Around} {E : Value → Shared → Prop} {s : Shared} {h₀ base : Heap} {env : Env} {outer : List Env} {L e : Addr} {cls : Value} {c : Bool}
abbrev frsOf (l : List Env) : List Addr := l.filterMap (·.frame)

theorem entry_tail {oe : Obj} {vs : Array Value} {head : Value} {hadNext : Bool} {Q : Unit → Shared → Prop} (hfr : A.frames = some (env :: outer)) (hl : s.heap.FunFrames base (env :: outer)) (hf : env.frame = some L)
    (hnew : ∀ T, s.heap.objs.size ≤ T → h₀.get? T = none ∧ T ∉ frsOf (env :: outer) ∧ T ≠ gP)
    (he : s.heap.get? e = some oe) (hc : oe.cls = cls) (hd : oe.data = .fields vs) (hsz : 1 < vs.size) (h2 : c = true → vs[2]? = some .none) (hn : h₀.get? e = none) (heF : e ∉ frsOf (env :: outer)) (heG : e ≠ gP)
    (h : ∀ h', Kx h₀ (frsOf (env :: outer)) s.heap h' → Flx h₀ (frsOf (env :: outer)) h' e cls c (· = some (rawInt L)) → Q () { s with heap := h' }) :
    wpAny M A (do let a ← frameOf env; let pl ← entryPlaceOf L hadNext; let b ← EntryCells.newEntry head a .none (rawInt L) .none pl; setField (.ref e) 1 b) Q E s := by
  refine wpAny_bind (wpAny_frameOf_fun hfr hl hf fun h₁ hs₁ => ?_)
  refine wpAny_bind (wpAny_entryPlaceOf fun pl hpl => ?_)
  unfold EntryCells.newEntry newFields
  refine wpAny_bind (wpAny_newObj_type ?_ (hpl.sizeOk5 _ _ _ _ _))
  have hsize : h₁.objs.size = s.heap.objs.size := hs₁.1
  obtain ⟨fs, hfs⟩ : ∃ fs, ([head, .ref L, .none, rawInt L, .none] ++ (if pl.isEmpty then List.replicate 6 Value.none else pl)).toArray = fs := ⟨_, rfl⟩
  have hf3 : fs[3]? = some (rawInt L) := by rw [← hfs]; simp
  rw [hfs]
  have he₁ : h₁.get? e = some oe := (hs₁.2.1 e heF).trans he
  have he₂ := Heap.get?_push_of_some (h := h₁) { cls := .type "traceback", dict := none, data := .fields fs } he₁
  refine wpAny_setField he₂ hd hsz (h _ ?_ ?_)
  · have k1 : Kx h₀ (frsOf (env :: outer)) s.heap h₁ := by
      refine ⟨fun b o p e _ => (hs₁.2.1 b p).trans e, fun b m ⟨on, es, ep, e, q⟩ => ?_, Nat.le_of_eq hsize.symm⟩
      obtain ⟨sl, r⟩ := hs₁.2.2 b on e
      exact ⟨_, es, ep, r, q⟩
    have k2 : Kx h₀ (frsOf (env :: outer)) h₁ (h₁.push { cls := .type "traceback", dict := none, data := .fields fs }) :=
      ⟨fun b o _ e _ => Heap.get?_push_of_some _ e, fun b m e => e.keeps fun _ _ q => Heap.get?_push_of_some _ q, by rw [Heap.size_push]; exact Nat.le_succ _⟩
    exact (k1.trans k2).trans (Kx.upd he₂ hd hn)
  · have hTe : h₁.objs.size ≠ e := Nat.ne_of_gt (Heap.lt_size he₁)
    have hd₃ := Obj.data_mapFields hd (·.setIfInBounds 1 (Value.ref h₁.objs.size))
    obtain ⟨n1, n2, n3⟩ := hnew h₁.objs.size (Nat.le_of_eq hsize.symm)
    refine ⟨⟨_, _, Heap.get?_update_self _ he₂ (Obj.isFreed_of_fields hd₃), (Obj.cls_mapFields _ _).trans hc, hd₃, fun q => ?_, .inr ⟨h₁.objs.size, { cls := .type "traceback", dict := none, data := .fields fs }, fs, rawInt L, by simp [hsz], hTe, n1, n2, n3, ?_, rfl, hf3, rfl⟩⟩, hn, heF, heG⟩
    · rw [Array.getElem?_setIfInBounds_ne (by decide)]; exact h2 q
    · rw [Heap.get?_update_other _ _ (Ne.symm hTe)]
      exact Heap.get?_push_size h₁ rfl

/-- any mark that may be seen in the body -/
def pAny (L : Addr) (p : Option Value) : Prop := p = none ∨ p = some .none ∨ p = some (rawInt L)
theorem note_ok {Q : Unit → Shared → Prop} (hfr : A.frames = some (env :: outer)) (hl : s.heap.FunFrames base (env :: outer)) (hf : env.frame = some L)
    (hnew : ∀ T, s.heap.objs.size ≤ T → h₀.get? T = none ∧ T ∉ frsOf (env :: outer) ∧ T ≠ gP) (x : Flx h₀ (frsOf (env :: outer)) s.heap e cls c (pAny L))
    (h : ∀ h', Kx h₀ (frsOf (env :: outer)) s.heap h' → Flx h₀ (frsOf (env :: outer)) h' e cls c (· = some (rawInt L)) → Q () { s with heap := h' }) : wpAny M A (noteFrame (.ref e) env) Q E s := by
  obtain ⟨⟨oe, vs, he, hc, hd, h2, hx⟩, hn, heF, heG⟩ := id x
  unfold noteFrame
  simp only [hf]
  rcases hx with ⟨h1, _⟩ | ⟨T, oT, ts, y, h1, hTe, hTn, hTF, hTG, hT, hdT, h3, hp⟩
  · refine wpAny_bind (wpAny_field he hd h1 ?_)
    rw [if_neg (by decide)]
    exact entry_tail hfr hl hf hnew he hc hd (Array.getElem?_eq_some_iff.mp h1).1 h2 hn heF heG h
  · refine wpAny_bind (wpAny_field he hd h1 ?_)
    rw [if_pos (show (Value.ref T != Value.none) = true from by simp)]
    refine wpAny_bind (wpAny_field hT hdT h3 ?_)
    have hp' : y = .none ∨ y = rawInt L := by
      rcases hp with hp | hp | hp
      · cases hp
      · exact .inl (Option.some.inj hp)
      · exact .inr (Option.some.inj hp)
    rcases hp' with rfl | rfl
    · rw [if_neg (show ¬ ((Value.none == rawInt L) = true) from by simp [rawInt])]
      have hsz3 := (Array.getElem?_eq_some_iff.mp h3).1
      refine wpAny_bind (wpAny_setField hT hdT hsz3 ?_)
      have kx : Kx h₀ (frsOf (env :: outer)) s.heap (s.heap.update T (Obj.mapFields (·.setIfInBounds 3 Value.none))) := Kx.upd hT hdT hTn
      refine entry_tail (base := base) hfr (hl.of_keeps fun b o e k => ⟨o, ?_, rfl⟩) hf (fun T' hT' => hnew T' (by rw [Heap.size_after_update] at hT'; exact hT')) ((Heap.get?_update_other _ _ hTe).trans he) hc hd (Array.getElem?_eq_some_iff.mp h1).1 h2 hn heF heG (fun h' k f => h h' (kx.trans k) f)
      exact (Heap.get?_update_other _ _ (fun q => by subst q; rw [hT] at e; cases e; exact k _ hdT)).trans e
    · rw [if_pos (show (rawInt L == rawInt L) = true from beq_self_eq_true _)]
      exact wpAny_pure (h _ (.refl ..) ⟨⟨oe, vs, he, hc, hd, h2, .inr ⟨T, oT, ts, _, h1, hTe, hTn, hTF, hTG, hT, hdT, h3, rfl⟩⟩, hn, heF, heG⟩)
theorem flight_ok {F : List Addr} {Q : Unit → Shared → Prop} (f : Option Addr) (x : Flx h₀ F s.heap e cls c (fun p => p ≠ none))
    (h : ∀ h', Kx h₀ F s.heap h' → Flx h₀ F h' e cls c (· = some (f.elim .none fun f => rawInt f)) → Q () { s with heap := h' }) : wpAny M A (setFlight (.ref e) f) Q E s := by
  obtain ⟨⟨oe, vs, he, hc, hd, h2, hx⟩, hn, heF, heG⟩ := id x
  rcases hx with ⟨_, h1⟩ | ⟨T, oT, ts, y, h1, hTe, hTn, hTF, hTG, hT, hdT, h3, hp⟩
  · exact absurd rfl h1
  · unfold setFlight
    have hsz3 := (Array.getElem?_eq_some_iff.mp h3).1
    refine wpAny_bind (wpAny_field he hd h1 ?_)
    rw [if_pos (show (Value.ref T != Value.none) = true from by simp)]
    refine wpAny_setField hT hdT hsz3 (h _ (Kx.upd hT hdT hTn) ?_)
    have hd₃ := Obj.data_mapFields hdT (·.setIfInBounds 3 (f.elim Value.none fun f => rawInt f))
    exact ⟨⟨oe, vs, (Heap.get?_update_other _ _ hTe).trans he, hc, hd, h2, .inr ⟨T, _, _, _, h1, hTe, hTn, hTF, hTG, Heap.get?_update_self _ hT (Obj.isFreed_of_fields hd₃), hd₃, by simp [hsz3], rfl⟩⟩, hn, heF, heG⟩
theorem leave_ok {Q : Unit → Shared → Prop} (hfr : A.frames = some (env :: outer)) (hl : s.heap.FunFrames base (env :: outer)) (hf : env.frame = some L)
    (hnew : ∀ T, s.heap.objs.size ≤ T → h₀.get? T = none ∧ T ∉ frsOf (env :: outer) ∧ T ≠ gP) (x : Flx h₀ (frsOf (env :: outer)) s.heap e cls c (pAny L))
    (h : ∀ h', Kx h₀ (frsOf (env :: outer)) s.heap h' → Flx h₀ (frsOf (env :: outer)) h' e cls c (· = some .none) → Q () { s with heap := h' }) : wpAny M A (leaving env (.ref e)) Q E s := by
  unfold leaving
  exact wpAny_bind (note_ok hfr hl hf hnew x fun h1 k1 f1 => flight_ok (s := { s with heap := h1 }) none (f1.mono fun p q => by rw [q]; simp) fun h2 k2 f2 => h h2 (k1.trans k2) f2)
end
end Mine
end
section
set_option maxRecDepth 100000
set_option linter.unusedVariables false
namespace Mine
open PySem PySem.W PyProof.Rows PySem.Calls PySem.Spec

structure Body (C : Cx) : Prop where
  top : ∃ r, C.frs = C.env :: r
  frm : C.env.frame = some C.env.locals
  new : C.env.locals ∉ C.Fo

def upd (ρ : List (Str × Dat)) (x : Str) (d : Dat) : List (Str × Dat) := (x, d) :: ρ.filter fun p => !(p.1 == x)
theorem mem_self {ρ : List (Str × Dat)} {x : Str} {d : Dat} : (x, d) ∈ upd ρ x d := .head _
theorem mem_other {ρ : List (Str × Dat)} {x y : Str} {d d' : Dat} (h : (y == x) = false) (hm : (y, d') ∈ ρ) : (y, d') ∈ upd ρ x d :=
  .tail _ (List.mem_filter.mpr ⟨hm, by simp [h]⟩)

def Aside (F : List Addr) (h : Heap) (x : Addr) : Prop := x ∈ F ∨ (∃ v, h.IsCell x v) ∨ ∃ o, h.get? x = some o ∧ Odd o
theorem Aside.seq {F : List Addr} {h : Heap} {x a : Addr} {o : Obj} {its : Array Value} {n : Nat} (hx : Aside F h x) (ho : h.get? a = some o) (hd : o.data = .seq its n) (m : a ∉ F) : a ≠ x := fun q => by
  subst q
  rcases hx with hx | ⟨v, oc, hoc, hv⟩ | ⟨oc, hoc, hv⟩
  · exact m hx
  · rw [hoc] at ho; cases ho; rw [hd] at hv; cases hv
  · rw [hoc] at ho; cases ho; exact hv.seq _ _ hd
theorem Aside.dict {F : List Addr} {h : Heap} {x a : Addr} {o : Obj} {es : Array DictEntry} {n : Nat} (hx : Aside F h x) (ho : h.get? a = some o) (hd : o.data = .dict es n) (m : a ∉ F) : a ≠ x := fun q => by
  subst q
  rcases hx with hx | ⟨v, oc, hoc, hv⟩ | ⟨oc, hoc, hv⟩
  · exact m hx
  · rw [hoc] at ho; cases ho; rw [hd] at hv; cases hv
  · rw [hoc] at ho; cases ho; exact hv.dict _ _ hd
theorem Aside.inst {F : List Addr} {h : Heap} {x a c dx : Addr} (hx : Aside F h x) (ho : h.get? a = some (instObj c dx)) (m : a ∉ F) : a ≠ x := fun q => by
  subst q
  rcases hx with hx | ⟨v, oc, hoc, hv⟩ | ⟨oc, hoc, hv⟩
  · exact m hx
  · rw [hoc] at ho; cases ho; cases hv
  · rw [hoc] at ho; cases ho; obtain ⟨T, hT⟩ := hv.cls; cases hT
mutual
theorem Rep.but {F : List Addr} {h h' : Heap} {x : Addr} (hx : Aside F h x) (k : ∀ b o, b ≠ x → h.get? b = some o → h'.get? b = some o) : ∀ {v : Value} {d : Dat}, Rep F h v d → Rep F h' v d
  | _, _, .none => .none
  | _, _, .bool b => .bool b
  | _, _, .int i t => .int i t
  | _, _, .str y t => .str y t
  | _, _, .bytes b t => .bytes b t
  | _, _, .list (a := a) hl m p r => .list (by
      obtain ⟨o, ho, hc, n, hd⟩ := hl
      exact ⟨o, k _ _ (hx.seq ho hd m) ho, hc, n, hd⟩) m p (Reps.but hx k r)
  | _, _, .tup (a := a) hl m p r => .tup (by
      obtain ⟨o, ho, hc, n, hd⟩ := hl
      exact ⟨o, k _ _ (hx.seq ho hd m) ho, hc, n, hd⟩) m p (Reps.but hx k r)
  | _, _, .inst (a := a) (dx := dx) h1 h2 m p m' p' => .inst (k _ _ (hx.inst h1 m) h1) (k _ _ (hx.dict h2 rfl m') h2) m p m' p'
  | _, _, .cst v => .cst v
  | _, _, .own (a := a) hl z m p r => .own (by
      obtain ⟨o, ho, hc, n, hd⟩ := hl
      exact ⟨o, k _ _ (hx.seq ho hd m) ho, hc, n, hd⟩) (fun e => by
      obtain ⟨o, n, ho, hc, hdn, hd⟩ := z e
      exact ⟨o, n, k _ _ (hx.seq ho hd m) ho, hc, hdn, hd⟩) m p (Reps.but hx k r)
theorem Reps.but {F : List Addr} {h h' : Heap} {x : Addr} (hx : Aside F h x) (k : ∀ b o, b ≠ x → h.get? b = some o → h'.get? b = some o) : ∀ {vs : List Value} {ds : List Dat}, Reps F h vs ds → Reps F h' vs ds
  | _, _, .nil => .nil
  | _, _, .cons a b => .cons (Rep.but hx k a) (Reps.but hx k b)
end

def Kpt (C : Cx) (s s' : Shared) : Prop := ∀ b ∈ C.kept, ∀ o, s.heap.get? b = some o → s'.heap.get? b = some o
theorem Kpt.refl (C : Cx) (s : Shared) : Kpt C s s := fun _ _ _ e => e
theorem Kpt.trans {C : Cx} {s₁ s₂ s₃ : Shared} (x : Kpt C s₁ s₂) (y : Kpt C s₂ s₃) : Kpt C s₁ s₃ := fun b m o e => y b m o (x b m o e)
theorem St.kpt {C : Cx} {ρ : List (Str × Dat)} {s s' : Shared} (o : Ok C ρ s) (x : St C s s') : Kpt C s s' := fun b m ob e => x.gr.kc b ob e (o.cx.kpt b m).2.1 (o.cx.kpt b m).1

section
variable {C : Cx} {ρ : List (Str × Dat)}
theorem Body.mem (b : Body C) : C.env.locals ∈ C.F := by
  obtain ⟨r, hr⟩ := b.top
  exact List.mem_filterMap.mpr ⟨C.env, hr ▸ .head _, b.frm⟩
theorem Frs.sameBut {G h h' : Heap} {a : Addr} {l : List Env} {m : Str → Option Value} (k : Frs G h l) (x : ∀ b o, b ≠ a → h.get? b = some o → h'.get? b = some o) (hn : (∃ m, h'.Ns a m) ∨ ∀ m, ¬ h.Ns a m) : Frs G h' l := fun env he => by
  obtain ⟨h1, L, h2, h3, m, hm⟩ := k env he
  refine ⟨h1, L, h2, h3, ?_⟩
  by_cases q : L = a
  · subst q
    rcases hn with hn | hn
    · exact hn
    · exact absurd hm (hn m)
  · obtain ⟨o, es, ep, ho, r⟩ := hm
    exact ⟨m, o, es, ep, x _ _ q ho, r⟩

/-- a name of the body's own takes a value -/
theorem Ok.store {s : Shared} {x : Str} {v : Value} {d : Dat} {m : Str → Option Value} {h' : Heap} {t : Nat} (bd : Body C) (o : Ok C ρ s) (hk : C.env.kindOf x = some .local) (hm : s.heap.Ns C.env.locals m) (r : Rep C.F s.heap v d)
    (hn : h'.Ns C.env.locals (fun y => if y = x then some v else m y)) (k : ∀ b o, b ≠ C.env.locals → s.heap.get? b = some o → h'.get? b = some o) : Ok C (upd ρ x d) { s with heap := h', toks := t } ∧ Kpt C s { s with heap := h', toks := t } := by
  have hL := bd.mem
  have hcell : ∀ c v, s.heap.IsCell c v → h'.IsCell c v := fun c v ⟨oc, hoc, hv⟩ => ⟨oc, k _ _ (fun q => by
    subst q
    obtain ⟨on, es, ep, e, q, _⟩ := hm
    rw [e] at hoc; cases hoc; rw [q] at hv; cases hv) hoc, hv⟩
  refine ⟨⟨o.cx, ⟨o.base.wd, fun b ob e => k b ob (Nat.ne_of_lt (o.cx.low b ob e _ hL)) (o.base.stay b ob e), ?_, o.base.bare, o.base.os⟩, ?_, ?_, ?_, ⟨_, hn⟩, ?_, ?_⟩, ?_⟩
  · obtain ⟨ps, p, q⟩ := o.base.gi
    exact ⟨ps, k _ _ (Ne.symm o.cx.loc) p, q⟩
  · refine ⟨fun b ob e p q => k b ob (fun z => ?_) (o.gr.kc b ob e p q), fun b n e m => ?_⟩
    · subst z
      rw [o.cx.own _ hL q] at e; cases e
    · obtain ⟨on, es, ep, e1, e2⟩ := o.gr.kf b n e m
      exact ⟨on, es, ep, k _ _ (fun z => bd.new (z ▸ m)) e1, e2⟩
  · exact Frs.sameBut (m := m) o.ff k (.inl ⟨_, hn⟩)
  · rcases o.hok with q | ⟨x', ox, vs, h1, h2, h3, h4, h5, h6⟩
    · exact .inl q
    · exact .inr ⟨x', ox, vs, h1, k _ _ (fun z => h5 (z ▸ hL)) h2, h3, h4, h5, h6⟩
  · intro p hp
    obtain ⟨v, hv⟩ := o.cel p hp
    exact ⟨v, hcell _ _ hv⟩
  · intro p hp
    rcases List.mem_cons.mp hp with rfl | hp
    · exact ⟨v, .inl ⟨hk, _, hn, if_pos rfl⟩, r.but (.inl hL) k⟩
    · obtain ⟨hp, hne⟩ := List.mem_filter.mp hp
      obtain ⟨u, hu, ru⟩ := o.loc p hp
      have hne' : p.1 ≠ x := by simpa using hne
      refine ⟨u, ?_, ru.but (.inl hL) k⟩
      rcases hu with ⟨h1, n, h2, h3⟩ | ⟨h1, c, h2, h3, h4⟩
      · have : n = m := ns_unique h2 hm
        exact .inl ⟨h1, _, hn, by rw [if_neg hne', ← this]; exact h3⟩
      · exact .inr ⟨h1, c, h2, hcell _ _ h3, h4⟩
  · intro b hb ob e
    exact k b ob (fun z => (o.cx.kpt b hb).1 (z ▸ hL)) e
end
end Mine
end
section
set_option maxRecDepth 100000
set_option linter.unusedVariables false
namespace Mine
open PySem PySem.W PyProof.Rows PySem.Calls PySem.Spec

inductive Out where
  | next (ρ : List (Str × Dat)) | ret (d : Dat) | brk (ρ : List (Str × Dat)) | cont (ρ : List (Str × Dat)) | exc (ρ : List (Str × Dat)) (cls : Value) (c : Bool)

structure Xok (C : Cx) (ρ : List (Str × Dat)) (s : Shared) : Prop where
  base : Base C.w C.G C.os s
  gr : Gr C.Fo C.h₀ s.heap
  ff : Frs C.G s.heap C.frs
  ns : ∃ m, s.heap.Ns C.env.locals m
  cel : ∀ p ∈ C.cs, ∃ v, s.heap.IsCell p.2 v
  loc : ∀ p ∈ ρ, p.2.flat = true ∧ ∃ v, Look C.F C.env s.heap p.1 v ∧ Rep C.F s.heap v p.2

def Post (C : Cx) (O : Out) (f : Flow) (s' : Shared) : Prop := match O with
  | .next ρ => f = .next ∧ Ok C ρ s'
  | .ret d => ∃ v, f = .ret v ∧ Ok C [] s' ∧ Rep C.F s'.heap v d
  | .brk ρ => f = .brk ∧ Ok C ρ s'
  | .cont ρ => f = .cont ∧ Ok C ρ s'
  | .exc _ _ _ => False
def PostE (C : Cx) (O : Out) (e : Value) (s' : Shared) : Prop := match O with
  | .exc ρ cls c => ∃ a, e = .ref a ∧ Xok C ρ s' ∧ Flx C.h₀ C.F s'.heap a cls c (pAny C.env.locals)
  | _ => False
/-- the statements end so -/
def Xs (C : Cx) (ρ : List (Str × Dat)) (ss : List Stmt) (O : Out) : Prop := ∀ s, Body C → Ok C ρ s → wpAny C.M C.A (execs ss C.env) (fun f s' => Post C O f s' ∧ Kpt C s s') (PostE C O) s
def Xt (C : Cx) (ρ : List (Str × Dat)) (st : Stmt) (O : Out) : Prop := ∀ s, Body C → Ok C ρ s → wpAny C.M C.A (exec st C.env) (fun f s' => Post C O f s' ∧ Kpt C s s') (PostE C O) s
def Out.stops : Out → Bool
  | .next _ => false
  | _ => true

section
variable {C : Cx} {ρ ρ' : List (Str × Dat)} {O : Out} {st : Stmt} {rest : List Stmt}
theorem xs_nil : Xs C ρ [] (.next ρ) := fun s b o => wpAny_execs_nil ⟨⟨rfl, o⟩, .refl _ _⟩
theorem xs_cons (h : Xt C ρ st (.next ρ')) (r : Xs C ρ' rest O) : Xs C ρ (st :: rest) O := fun s b o =>
  wpAny_execs_cons (wpAny_mono (h s b o) (fun f s' ⟨⟨e, o'⟩, k⟩ => by subst e; exact wpAny_mono (r s' b o') (fun _ _ ⟨p, q⟩ => ⟨p, k.trans q⟩) fun _ _ x => x) fun _ _ f => f.elim)
theorem xs_stop (h : Xt C ρ st O) (hs : O.stops = true := by rfl) : Xs C ρ (st :: rest) O := fun s b o =>
  wpAny_execs_cons (wpAny_mono (h s b o) (fun f s' p => by
    cases O with
    | next _ => cases hs
    | ret d => obtain ⟨⟨v, rfl, q⟩, k⟩ := p; exact ⟨⟨v, rfl, q⟩, k⟩
    | brk _ => obtain ⟨⟨rfl, q⟩, k⟩ := p; exact ⟨⟨rfl, q⟩, k⟩
    | cont _ => obtain ⟨⟨rfl, q⟩, k⟩ := p; exact ⟨⟨rfl, q⟩, k⟩
    | exc _ _ _ => exact p.1.elim) fun _ _ x => x)
/-- fewer facts before, as many as wanted after -/
theorem Ok.sub {s : Shared} (o : Ok C ρ s) (h : ∀ p ∈ ρ', p ∈ ρ) : Ok C ρ' s := o.weak h
theorem xs_pre (h : ∀ p ∈ ρ', p ∈ ρ) (x : Xs C ρ' rest O) : Xs C ρ rest O := fun s b o => x s b (o.sub h)
theorem xs_next {ρ₂ : List (Str × Dat)} (h : ∀ p ∈ ρ₂, p ∈ ρ') (x : Xs C ρ rest (.next ρ')) : Xs C ρ rest (.next ρ₂) := fun s b o => wpAny_mono (x s b o) (fun _ _ ⟨⟨e, p⟩, k⟩ => ⟨⟨e, p.sub h⟩, k⟩) fun _ _ f => f
theorem xs_end (h : ∀ p ∈ ρ', p ∈ ρ) : Xs C ρ [] (.next ρ') := xs_next h xs_nil

theorem xt_assign {x : Str} {e : Expr} {d : Dat} {px pos : Pos} (h : Ev C ρ e d) (hk : C.env.kindOf x = some .local := by rfl) (hs : swapsWith e (some (.Name x px)) pos.line C.env = pure false := by rfl) : Xt C ρ (.Assign [.Name x px] e pos) (.next (upd ρ x d)) := fun s b o =>
  wpAny_Assign_Name (h.to o (.refl o) fun v s1 o1 z1 y1 r1 => by
    obtain ⟨m, hm⟩ := o1.ns
    refine wpAny_storeName_local hk hm (fun h' hn sb => ?_) (by rw [o.cx.kind]; rfl)
    obtain ⟨a, k⟩ := Ok.store b o1 hk hm r1 hn sb.extBut
    exact ⟨⟨rfl, a⟩, (y1.kpt o).trans k⟩) hs
theorem xt_ret {e : Expr} {d : Dat} {pos : Pos} (h : Ev C ρ e d) : Xt C ρ (.Return (some e) pos) (.ret d) := fun s b o =>
  wpAny_Return_some (h.to o (.refl o) fun v s1 o1 z1 y1 r1 => ⟨⟨v, rfl, o1.nil, r1⟩, y1.kpt o⟩)
theorem xt_break {pos : Pos} : Xt C ρ (.Break pos) (.brk ρ) := fun s b o => wpAny_Break ⟨⟨rfl, o⟩, .refl _ _⟩
theorem xt_pass {pos : Pos} : Xt C ρ (.Pass pos) (.next ρ) := fun s b o => wpAny_Pass ⟨⟨rfl, o⟩, .refl _ _⟩
theorem xt_aug {x : Str} {e : Expr} {op : Operator} {d1 d2 d : Dat} {px pos : Pos} (hm : (x, d1) ∈ ρ) (h : Ev C ρ e d2) (hop : Iop2 C op d1 d2 d) (hk : C.env.kindOf x = some .local := by rfl) (hn : (x == ("__classdict__" : Str)) = false := by decide) : Xt C ρ (.AugAssign (.Name x px) op e pos) (.next (upd ρ x d)) := fun s b o => by
  obtain ⟨v0, l0, r0⟩ := o.loc _ hm
  refine wpAny_AugAssign_Name (load_look o.cx.kind l0 ?_ hn)
  refine h.to o (.refl o) fun v s1 o1 z1 y1 r1 => wpAny_mono (hop s1 v0 v o1.nil (r0.gr y1.gr) r1) (fun u s2 ⟨y2, r2⟩ => ?_) fun _ _ f => f.elim
  have o2 := o1.step y2
  obtain ⟨m, hm⟩ := o2.ns
  refine wpAny_storeName_local hk hm (fun h' hn sb => ?_) (by rw [o.cx.kind]; rfl)
  obtain ⟨a, k⟩ := Ok.store b o2 hk hm r2 hn sb.extBut
  exact ⟨⟨rfl, a⟩, ((z1.trans y2).kpt o).trans k⟩
theorem xt_if {t : Expr} {b : Bool} {body orelse : List Stmt} {pos : Pos} (h : Ts C ρ t b) (h1 : b = true → Xs C ρ body O) (h2 : b = false → Xs C ρ orelse O) : Xt C ρ (.If t body orelse pos) O := fun s bd o =>
  wpAny_If (h.to o (.refl o) fun s1 o1 z1 y1 => by
    cases b with
    | true => rw [if_pos rfl]; exact wpAny_mono (h1 rfl s1 bd o1) (fun _ _ ⟨p, q⟩ => ⟨p, (y1.kpt o).trans q⟩) fun _ _ x => x
    | false => rw [if_neg Bool.false_ne_true]; exact wpAny_mono (h2 rfl s1 bd o1) (fun _ _ ⟨p, q⟩ => ⟨p, (y1.kpt o).trans q⟩) fun _ _ x => x)
/-- an expression that raises -/
def XSt (C : Cx) (s : Shared) (cls : Value) (c : Bool) (e : Value) (s' : Shared) : Prop := ∃ a, e = .ref a ∧ St C s s' ∧ Flx s.heap C.F s'.heap a cls c (fun p => p = none ∨ p = some .none)
def EvX (C : Cx) (ρ : List (Str × Dat)) (e : Expr) (cls : Value) (c : Bool) : Prop := ∀ s, Ok C ρ s → wpAny C.M C.A (eval e C.env) (fun _ _ => False) (XSt C s cls c) s
theorem old_none {s : Shared} (o : Ok C ρ s) {a : Addr} (hn : s.heap.get? a = none) (hF : a ∉ C.F) (hG : a ≠ gP) : C.h₀.get? a = none :=
  get_none_of_gr o.gr hn (fun q => hF (o.cx.sub _ q)) hG
theorem Flx.old {s : Shared} (o : Ok C ρ s) {h : Heap} {e : Addr} {cls : Value} {c : Bool} {P : Option Value → Prop} (x : Flx s.heap C.F h e cls c P) : Flx C.h₀ C.F h e cls c P := by
  obtain ⟨⟨oe, vs, a, b, d, g, i⟩, q, r, t⟩ := x
  refine ⟨⟨oe, vs, a, b, d, g, ?_⟩, old_none o q r t, r, t⟩
  rcases i with i | ⟨T, oT, ts, x, i1, i2, i3, i4, i5, i6, i7, i8, i9⟩
  · exact .inl i
  · exact .inr ⟨T, oT, ts, x, i1, i2, old_none o i3 i4 i5, i4, i5, i6, i7, i8, i9⟩
theorem XSt.post {s s' : Shared} {cls : Value} {c : Bool} {e : Value} (o : Ok C ρ s) (x : XSt C s cls c e s') (hf : ∀ p ∈ ρ', p ∈ ρ ∧ p.2.flat = true) : PostE C (.exc ρ' cls c) e s' := by
  obtain ⟨a, rfl, z, f⟩ := x
  have o' := o.step z
  exact ⟨a, rfl, ⟨o'.base, o'.gr, o'.ff, o'.ns, o'.cel, fun p hp => ⟨(hf p hp).2, o'.loc p (hf p hp).1⟩⟩, (f.old o).mono fun p q => q.elim .inl fun q => .inr (.inl q)⟩
theorem xt_assignX {x : Str} {e : Expr} {cls : Value} {c : Bool} {px pos : Pos} (h : EvX C ρ e cls c) (hf : ∀ p ∈ ρ', p ∈ ρ ∧ p.2.flat = true) (hs : swapsWith e (some (.Name x px)) pos.line C.env = pure false := by rfl) : Xt C ρ (.Assign [.Name x px] e pos) (.exc ρ' cls c) := fun s b o =>
  wpAny_Assign_Name (wpAny_mono (h s o) (fun _ _ f => f.elim) fun e s' x => x.post o hf) hs
theorem xt_retX {e : Expr} {cls : Value} {c : Bool} {pos : Pos} (h : EvX C ρ e cls c) (hf : ∀ p ∈ ρ', p ∈ ρ ∧ p.2.flat = true) : Xt C ρ (.Return (some e) pos) (.exc ρ' cls c) := fun s b o =>
  wpAny_Return_some (wpAny_mono (h s o) (fun _ _ f => f.elim) fun e s' x => x.post o hf)
theorem xt_exprX {e : Expr} {cls : Value} {c : Bool} {pos : Pos} (h : EvX C ρ e cls c) (hf : ∀ p ∈ ρ', p ∈ ρ ∧ p.2.flat = true) (hi : interactive C.env = false := by rfl) (hs : swapsWith e none pos.line C.env = pure false := by rfl) : Xt C ρ (.Expr e pos) (.exc ρ' cls c) := fun s b o => by
  rw [exec_Expr C.env e pos hi hs]
  exact wpAny_bind (wpAny_standAt (wpAny_bind (wpAny_mono (h s o) (fun _ _ f => f.elim) fun e s' x => x.post o hf)))
/-- an expression for itself; its value is no object -/
theorem xt_expr {e : Expr} {d : Dat} {pos : Pos} (h : Ev C ρ e d) (hf : d.flat = true := by rfl) (hi : interactive C.env = false := by rfl) (hs : swapsWith e none pos.line C.env = pure false := by rfl) : Xt C ρ (.Expr e pos) (.next ρ) := fun s b o =>
  wpAny_Expr (h.to o (.refl o) fun v s1 o1 z1 y1 r1 => by
    cases r1 <;> first | exact ⟨⟨rfl, o1⟩, y1.kpt o⟩ | (simp [Dat.flat] at hf)) hi hs

/-- what noting needs -/
theorem Xok.new {s : Shared} (o : Xok C ρ s) (cx : CxOk C) {T : Addr} (hT : s.heap.objs.size ≤ T) : C.h₀.get? T = none ∧ T ∉ C.F ∧ T ≠ gP := by
  have hF : T ∉ C.F := fun hm => by
    obtain ⟨env, he, hf⟩ := List.mem_filterMap.mp hm
    obtain ⟨_, L', h2', _, m', hm'⟩ := o.ff env he
    rw [hf] at h2'
    cases h2'
    exact absurd hm'.lt (Nat.not_lt.mpr hT)
  have hG : T ≠ gP := fun e => by
    obtain ⟨ps, q, _⟩ := o.base.gi
    exact absurd (Heap.lt_size q) (Nat.not_lt.mpr (e ▸ hT))
  exact ⟨get_none_of_gr o.gr (none_size hT) (fun q => hF (cx.sub _ q)) hG, hF, hG⟩
theorem Xok.kx {s : Shared} {h' : Heap} (o : Xok C ρ s) (cx : CxOk C) (k : Kx C.h₀ C.F s.heap h') : Xok C ρ { s with heap := h' } := by
  refine ⟨⟨o.base.wd, fun b ob e => k.kc b ob (fun hm => ?_) (o.base.stay b ob e) (.inr ⟨ob, cx.gst b ob e⟩), ?_, o.base.bare, o.base.os⟩, ⟨fun b ob e p q => k.kc b ob (fun m => ?_) (o.gr.kc b ob e p q) (.inr ⟨ob, e⟩), fun b m e hm => k.kn b m (o.gr.kf b m e hm)⟩, ?_, ?_, ?_, ?_⟩
  · exact absurd (cx.low b ob e b hm) (Nat.lt_irrefl _)
  · obtain ⟨ps, p, q⟩ := o.base.gi
    obtain ⟨o', g⟩ := cx.gpi
    exact ⟨ps, k.kc _ _ cx.gpf p (.inr ⟨o', g⟩), q⟩
  · rw [cx.own b m q] at e; cases e
  · intro env he
    obtain ⟨h1, L, h2, h3, m, hm⟩ := o.ff env he
    exact ⟨h1, L, h2, h3, m, k.kn L m hm⟩
  · obtain ⟨m, hm⟩ := o.ns
    exact ⟨m, k.kn _ m hm⟩
  · intro p hp
    obtain ⟨v, oc, ho, hv⟩ := o.cel p hp
    exact ⟨v, oc, k.kc _ _ (cx.own2 p hp).2.2 ho (.inl fun vs q => by rw [q] at hv; cases hv), hv⟩
  · intro p hp
    obtain ⟨hf, v, hl, r⟩ := o.loc p hp
    refine ⟨hf, v, ?_, r.flat hf⟩
    rcases hl with ⟨h1, m, h2, h3⟩ | ⟨h1, c, h2, ⟨oc, ho, hv⟩, h4, h5⟩
    · exact .inl ⟨h1, m, k.kn _ m h2, h3⟩
    · exact .inr ⟨h1, c, h2, ⟨oc, k.kc _ _ h5 ho (.inl fun vs q => by rw [q] at hv; cases hv), hv⟩, h4, h5⟩
theorem noted_back {A' : Around} {E : Value → Shared → Prop} {cls : Value} {c : Bool} {e : Value} {s : Shared} (bd : Body C) (cx : CxOk C) (hA : A'.frames = C.A.frames) (p : PostE C (.exc ρ cls c) e s) (h : ∀ e s', PostE C (.exc ρ cls c) e s' → E e s') :
    notedBy C.M A' C.env (cameBackBy C.M C.A C.env E) e s := by
  obtain ⟨a, rfl, o, f⟩ := p
  obtain ⟨r, hr⟩ := bd.top
  have hF : C.F = frsOf (C.env :: r) := by show List.filterMap _ C.frs = _; rw [hr]
  unfold notedBy
  refine note_ok (h₀ := C.h₀) (base := C.G) (outer := r) (L := C.env.locals) (cls := cls) (c := c) (by rw [hA, cx.fr, hr]) ((hr ▸ o.ff).fun) bd.frm (fun T hT => hF ▸ o.new cx hT) (hF ▸ f) fun h1 k1 f1 => ?_
  rw [← hF] at k1 f1
  have o1 := o.kx cx k1
  unfold cameBackBy
  obtain ⟨⟨oe, vs, g1, g2, g3, g4, g5⟩, g6, g7, g8⟩ := id f1
  rcases g5 with ⟨_, q⟩ | ⟨T, oT, ts, x, g5, _⟩
  · cases q
  refine wpAny_bind (wpAny_field g1 g3 g5 ?_)
  rw [if_neg (by simp)]
  refine flight_ok (s := { s with heap := h1 }) C.env.frame (f1.mono fun p q => by rw [q]; simp) fun h2 k2 f2 => h _ _ ⟨a, rfl, o1.kx cx k2, ?_⟩
  exact f2.mono fun p q => .inr (.inr (by rw [q, bd.frm]; rfl))
end
end Mine
end
section
set_option maxRecDepth 100000
set_option linter.unusedVariables false
namespace Mine
open PySem PySem.W PyProof.Rows PySem.Calls PySem.Spec

/-- these too are to be kept -/
def Cx.keep (C : Cx) (fp : List Addr) : Cx := { C with kept := fp ++ C.kept }
section
variable {C : Cx} {ρ ρ' : List (Str × Dat)} {O : Out} {st : Stmt} {rest : List Stmt}

theorem Ok.keepIn {s : Shared} {fp : List Addr} (o : Ok C ρ s) (h : ∀ b ∈ fp, b ∉ C.F ∧ b ≠ gP ∧ ∀ p ∈ C.cs, p.2 ≠ b) : Ok (C.keep fp) ρ s :=
  ⟨{ o.cx with kpt := fun b hb => (List.mem_append.mp hb).elim (h b) (o.cx.kpt b) }, o.base, o.gr, o.ff, o.hok, o.ns, o.cel, o.loc⟩
theorem Ok.keepOut {s : Shared} {fp : List Addr} (cx : CxOk C) (o : Ok (C.keep fp) ρ s) : Ok C ρ s := ⟨cx, o.base, o.gr, o.ff, o.hok, o.ns, o.cel, o.loc⟩
theorem Body.keepIn {fp : List Addr} (b : Body C) : Body (C.keep fp) := ⟨b.top, b.frm, b.new⟩
theorem Post.keepOut {s : Shared} {f : Flow} {fp : List Addr} (cx : CxOk C) (p : Post (C.keep fp) O f s) : Post C O f s := by
  cases O with
  | next _ => exact ⟨p.1, p.2.keepOut cx⟩
  | ret d => obtain ⟨v, h1, h2, h3⟩ := p; exact ⟨v, h1, h2.keepOut cx, h3⟩
  | brk _ => exact ⟨p.1, p.2.keepOut cx⟩
  | cont _ => exact ⟨p.1, p.2.keepOut cx⟩
  | exc _ _ _ => exact p
theorem PostE.keepOut {s : Shared} {e : Value} {fp : List Addr} (p : PostE (C.keep fp) O e s) : PostE C O e s := by
  cases O with
  | exc ρ cls c =>
    obtain ⟨a, h1, h2, h3⟩ := p
    exact ⟨a, h1, ⟨h2.base, h2.gr, h2.ff, h2.ns, h2.cel, h2.loc⟩, h3⟩
  | next _ => exact p
  | ret _ => exact p
  | brk _ => exact p
  | cont _ => exact p

/-- the iterator has moved -/
theorem Ok.moved {s : Shared} {I : Addr} {oI : Obj} {h' : Heap} {t : Nat} (o : Ok C ρ s) (hI : s.heap.get? I = some oI) (hodd : Odd oI) (hF : I ∉ C.F) (hG : I ≠ gP) (hn : C.h₀.get? I = none) (hh : ∀ x, C.A.handled = some (.ref x) → x ≠ I)
    (k : ∀ b o, b ≠ I → s.heap.get? b = some o → h'.get? b = some o) : Ok C ρ { s with heap := h', toks := t } := by
  have hcell : ∀ c v, s.heap.IsCell c v → h'.IsCell c v := fun c v x => by
    obtain ⟨oc, ho, hv⟩ := id x
    exact ⟨oc, k _ _ (fun q => no_cell_odd hI hodd v (q ▸ x)) ho, hv⟩
  have hns : ∀ a m, s.heap.Ns a m → h'.Ns a m := fun a m ⟨on, es, ep, e1, e2, e3⟩ => ⟨on, es, ep, k _ _ (fun q => by
    subst q
    rw [hI] at e1; cases e1
    exact hodd.dict _ _ e2) e1, e2, e3⟩
  refine ⟨o.cx, ⟨o.base.wd, fun b ob e => k b ob (fun q => ?_) (o.base.stay b ob e), ?_, o.base.bare, o.base.os⟩, ⟨fun b ob e p q => k b ob (fun z => ?_) (o.gr.kc b ob e p q), fun b m e hm => hns _ _ (o.gr.kf b m e hm)⟩, ?_, ?_, ?_, ?_, ?_⟩
  · have := o.cx.gst b ob e
    rw [q, hn] at this; cases this
  · obtain ⟨ps, p, q⟩ := o.base.gi
    exact ⟨ps, k _ _ (Ne.symm hG) p, q⟩
  · rw [z, hn] at e; cases e
  · intro env he
    obtain ⟨h1, L, h2, h3, m, hm⟩ := o.ff env he
    exact ⟨h1, L, h2, h3, m, hns _ _ hm⟩
  · rcases o.hok with q | ⟨x', ox, vs, h1, h2, h3⟩
    · exact .inl q
    · exact .inr ⟨x', ox, vs, h1, k _ _ (hh x' h1) h2, h3⟩
  · obtain ⟨m, hm⟩ := o.ns
    exact ⟨m, hns _ _ hm⟩
  · intro p hp
    obtain ⟨v, hv⟩ := o.cel p hp
    exact ⟨v, hcell _ _ hv⟩
  · intro p hp
    obtain ⟨v, hl, r⟩ := o.loc p hp
    refine ⟨v, ?_, r.but (.inr (.inr ⟨oI, hI, hodd⟩)) k⟩
    rcases hl with ⟨h1, m, h2, h3⟩ | ⟨h1, c, h2, h3, h4⟩
    · exact .inl ⟨h1, m, hns _ _ h2, h3⟩
    · exact .inr ⟨h1, c, h2, hcell _ _ h3, h4⟩

/-- walked over, and what the iterator stands on -/
def EvItX (C : Cx) (ρ : List (Str × Dat)) (e : Expr) (ds : List Dat) (X : Addr → Prop) : Prop :=
  ∀ s, Ok C ρ s → wpAny C.M C.A (eval e C.env) (fun x s₁ => wpAny C.M C.A (pyIter x) (fun it s' => ∃ I fp S, it = .ref I ∧ (∀ A, A.handled = C.A.handled → Wk C.w A C.F I fp ds S) ∧ S 0 s'.heap ∧ St C s s' ∧ s.heap.get? I = none ∧ I < s'.heap.objs.size ∧ I ∈ fp ∧ (∀ b ∈ fp, b < s'.heap.objs.size) ∧
    ∀ b ∈ fp, X b ∨ s.heap.get? b = none) (fun _ _ => False) s₁) (fun _ _ => False) s
theorem EvIt.x {e : Expr} {ds : List Dat} (h : EvIt C ρ e ds) : EvItX C ρ e ds fun _ => True := fun s o =>
  wpAny_mono (h s o) (fun _ _ h1 => wpAny_mono h1 (fun _ _ ⟨I, fp, S, a, b, c, d, e, f, g, i⟩ => ⟨I, fp, S, a, b, c, d, e, f, g, i, fun _ _ => .inl trivial⟩) fun _ _ f => f) fun _ _ f => f
/-- no list of the body's own, but X -/
def NoOwn (ρ : List (Str × Dat)) (X : Addr → Prop) (fp : List Addr) : Prop := ∀ b ∈ fp, X b ∨ ∀ y l p es, (y, Dat.own l p es) ∈ ρ → b ≠ l
theorem noOwn_of {s : Shared} {X : Addr → Prop} {fp : List Addr} (o : Ok C ρ s) (h : ∀ b ∈ fp, X b ∨ s.heap.get? b = none) : NoOwn ρ X fp := fun b hb => (h b hb).imp id fun e y l p es hm q => by
  obtain ⟨v, _, r⟩ := o.loc _ hm
  cases r with
  | own hl _ _ _ _ =>
    obtain ⟨ol, hol, _⟩ := hl
    rw [← q, e] at hol; cases hol
/-- a loop over ds: k turns to their ends, then the end or a turn that ends it -/
theorem for_core {x : Str} {iter : Expr} {body : List Stmt} {px pos : Pos} {ds : List Dat} {Iv : Nat → List (Str × Dat)} {k : Nat} {Q : Flow → Shared → Prop} {E : Value → Shared → Prop} {s : Shared} (bd : Body C) (o : Ok C ρ s)
    {X : Addr → Prop} (hi : EvItX C ρ iter ds X) (h0 : ∀ p ∈ Iv 0, p ∈ ρ) (hk : k ≤ ds.length) (hx : C.env.kindOf x = some .local) (hfold : ∀ y, foldedSetIterable iter C.env y = pure y)
    (step : ∀ fp i d, NoOwn ρ X fp → i < k → ds[i]? = some d → Xs (C.keep fp) (upd (Iv i) x d) body (.next (Iv (i + 1))))
    (hend : k = ds.length → ∀ s', Ok C (Iv k) s' → Kpt C s s' → Q .next s')
    (hstop : ∀ d, ds[k]? = some d → ∃ O₁, (∀ fp, Xs (C.keep fp) (upd (Iv k) x d) body O₁) ∧ O₁.stops = true ∧ (∀ ρ, O₁ ≠ .cont ρ) ∧ (∀ f s', Post C O₁ f s' → Kpt C s s' → Q (match f with | .brk => .next | f => f) s') ∧ (∀ e s', PostE C O₁ e s' → E e s')) :
    wpAny C.M C.A (exec (.For (.Name x px) iter body [] pos) C.env) Q E s := by
  refine wpAny_For (wpAny_mono (hi s o) (fun v s1 h1 => wpAny_mono h1 (fun it s2 p => ?_) fun _ _ f => f.elim) fun _ _ f => f.elim) hfold
  obtain ⟨I, fp, S, rfl, hW, hS, z, hI, hIs, hIf, hfp, hno⟩ := p
  have hno := noOwn_of o hno
  have W := hW C.A rfl
  have o2 := o.step z
  have hF := W.off I hIf
  have hn0 : C.h₀.get? I = none := old_none o hI hF.1 hF.2
  have hh : ∀ y, C.A.handled = some (.ref y) → y ≠ I := fun y e q => by
    rcases o.hok with c | ⟨x', ox, vs, c1, c2, _⟩
    · rw [c] at e; cases e
    · rw [c1] at e; cases e; rw [q, hI] at c2; cases c2
  have hkeep : ∀ b ∈ fp, b ∉ C.F ∧ b ≠ gP ∧ ∀ p ∈ C.cs, p.2 ≠ b := fun b hb => ⟨(W.off b hb).1, (W.off b hb).2, fun p hp q => by
    obtain ⟨v, hv⟩ := o2.cel p hp
    exact (W.kind 0 _ hS).2 b hb v (q ▸ hv)⟩
  have hexi : ∀ b ∈ fp, ∃ ob, s2.heap.get? b = some ob ∨ s2.heap.get? b = none := fun b _ => by
    cases e : s2.heap.get? b with
    | none => exact ⟨default, .inr rfl⟩
    | some ob => exact ⟨ob, .inl rfl⟩
  obtain ⟨r, hr⟩ := bd.top
  refine codeAny_forLoop (fun n s' => ∃ i, i ≤ k ∧ n = ds.length - i ∧ Ok C (Iv i) s' ∧ S i s'.heap ∧ Kpt C s s') ?_ ds.length ⟨0, Nat.zero_le _, rfl, o2.sub h0, hS, z.kpt o⟩
  rintro n s' ⟨i, hik, rfl, oi, hSi, hKi⟩
  obtain ⟨oI, hoI, hodd⟩ := (W.kind i _ hSi).1
  rcases Nat.lt_or_ge i ds.length with hlt | hge
  · refine W.item i ds[i] _ _ _ hSi (List.getElem?_eq_getElem hlt) fun v h' tk rv hS' kk => ?_
    have oi' : Ok C (Iv i) { s' with heap := h', toks := tk } := oi.moved hoI hodd hF.1 hF.2 hn0 hh kk
    obtain ⟨m, hm⟩ := oi'.ns
    have hK1 : Kpt C s { s' with heap := h', toks := tk } := fun b hb ob e => kk b ob (fun q => by rw [q, hI] at e; cases e) (hKi b hb ob e)
    refine wpAny_assign_Name (wpAny_storeName_local hx hm (fun h2 hn2 sb => ?_) (by rw [o.cx.kind]; rfl))
    obtain ⟨oj, hK2⟩ := Ok.store (t := tk + 1) bd oi' hx hm rv hn2 sb.extBut
    have hS2 : S (i + 1) h2 := W.keep _ _ _ hS' fun b hb ob e => sb.extBut b ob (fun q => (W.off b hb).1 (q ▸ bd.mem)) e
    have oj' := oj.keepIn hkeep
    rcases Nat.lt_or_ge i k with hlk | hgk
    · refine wpAny_mono (step fp i ds[i] hno hlk (List.getElem?_eq_getElem hlt) _ bd.keepIn oj') (fun f s3 ⟨⟨e, o3⟩, hK3⟩ => ?_) fun _ _ f => f.elim
      subst e
      refine ⟨ds.length - (i + 1), by omega, i + 1, hlk, rfl, o3.keepOut o.cx, W.keep _ _ _ hS2 fun b hb ob e => hK3 b (List.mem_append_left _ hb) ob e, (hK1.trans hK2).trans fun b hb ob e => hK3 b (List.mem_append_right _ hb) ob e⟩
    · have hik' : i = k := Nat.le_antisymm hik hgk
      subst hik'
      obtain ⟨O₁, hx1, hx2, hx3, hx4, hx5⟩ := hstop _ (List.getElem?_eq_getElem hlt)
      refine wpAny_mono (hx1 fp _ bd.keepIn oj') (fun f s3 ⟨p, hK3⟩ => ?_) fun e s3 p => ?_
      · have q := hx4 f s3 (p.keepOut o.cx) ((hK1.trans hK2).trans fun b hb ob e => hK3 b (List.mem_append_right _ hb) ob e)
        cases O₁ with
        | next _ => cases hx2
        | ret d => obtain ⟨u, rfl, _⟩ := p; exact q
        | brk _ => obtain ⟨rfl, _⟩ := p; exact q
        | cont ρ => exact absurd rfl (hx3 ρ)
        | exc _ _ _ => exact p.elim
      · cases O₁ with
        | exc ρ1 cls c => exact noted_back bd o.cx rfl p.keepOut hx5
        | next _ => exact p.elim
        | ret d => exact p.elim
        | brk _ => exact p.elim
        | cont ρ => exact p.elim
  · have hil : i = ds.length := by omega
    subst hil
    have hkl : k = ds.length := Nat.le_antisymm hk hik
    refine W.done _ _ _ hSi oi.hok fun h' tk kk => wpAny_execs_nil ?_
    refine hend hkl _ (hkl ▸ oi.moved hoI hodd hF.1 hF.2 hn0 hh kk) fun b hb ob e => kk b ob (fun q => by rw [q, hI] at e; cases e) (hKi b hb ob e)

theorem xt_for {x : Str} {iter : Expr} {body : List Stmt} {px pos : Pos} {ds : List Dat} (Iv : Nat → List (Str × Dat)) (hi : EvIt C ρ iter ds) (h0 : ∀ p ∈ Iv 0, p ∈ ρ)
    (step : ∀ fp i d, ds[i]? = some d → Xs (C.keep fp) (upd (Iv i) x d) body (.next (Iv (i + 1)))) (hx : C.env.kindOf x = some .local := by rfl) (hfold : ∀ y, foldedSetIterable iter C.env y = pure y := by intro _; rfl) :
    Xt C ρ (.For (.Name x px) iter body [] pos) (.next (Iv ds.length)) := fun s b o =>
  for_core b o hi.x h0 (Nat.le_refl _) hx hfold (fun fp i d _ _ h => step fp i d h) (fun _ s' o' k => ⟨⟨rfl, o'⟩, k⟩) fun d h => by simp at h
theorem xt_forX {x : Str} {iter : Expr} {body : List Stmt} {px pos : Pos} {ds : List Dat} {X : Addr → Prop} (Iv : Nat → List (Str × Dat)) (hi : EvItX C ρ iter ds X) (h0 : ∀ p ∈ Iv 0, p ∈ ρ)
    (step : ∀ fp i d, NoOwn ρ X fp → ds[i]? = some d → Xs (C.keep fp) (upd (Iv i) x d) body (.next (Iv (i + 1)))) (hx : C.env.kindOf x = some .local := by rfl) (hfold : ∀ y, foldedSetIterable iter C.env y = pure y := by intro _; rfl) :
    Xt C ρ (.For (.Name x px) iter body [] pos) (.next (Iv ds.length)) := fun s b o =>
  for_core b o hi h0 (Nat.le_refl _) hx hfold (fun fp i d hno _ h => step fp i d hno h) (fun _ s' o' k => ⟨⟨rfl, o'⟩, k⟩) fun d h => by simp at h
/-- it ends by a return or an exception at turn k -/
theorem xt_for_out {x : Str} {iter : Expr} {body : List Stmt} {px pos : Pos} {ds : List Dat} (Iv : Nat → List (Str × Dat)) (k : Nat) (d : Dat) (hd : ds[k]? = some d) (hi : EvIt C ρ iter ds) (h0 : ∀ p ∈ Iv 0, p ∈ ρ)
    (step : ∀ fp i d, i < k → ds[i]? = some d → Xs (C.keep fp) (upd (Iv i) x d) body (.next (Iv (i + 1)))) (stop : ∀ fp, Xs (C.keep fp) (upd (Iv k) x d) body O)
    (hO : (∃ d, O = .ret d) ∨ ∃ ρ cls c, O = .exc ρ cls c) (hx : C.env.kindOf x = some .local := by rfl) (hfold : ∀ y, foldedSetIterable iter C.env y = pure y := by intro _; rfl) :
    Xt C ρ (.For (.Name x px) iter body [] pos) O := fun s b o => by
  have hlt : k < ds.length := by
    rcases Nat.lt_or_ge k ds.length with z | z
    · exact z
    · rw [List.getElem?_eq_none z] at hd; cases hd
  refine for_core b o hi.x h0 (Nat.le_of_lt hlt) hx hfold (fun fp i d _ => step fp i d) (fun e => absurd e (Nat.ne_of_lt hlt)) fun d' hd' => ?_
  rw [hd] at hd'
  cases hd'
  refine ⟨O, stop, ?_, ?_, ?_, fun _ _ p => p⟩
  · rcases hO with ⟨d, rfl⟩ | ⟨ρ, cls, c, rfl⟩ <;> rfl
  · rcases hO with ⟨d, rfl⟩ | ⟨ρ, cls, c, rfl⟩ <;> intro _ q <;> cases q
  · intro f s' p kp
    rcases hO with ⟨d, rfl⟩ | ⟨ρ, cls, c, rfl⟩
    · obtain ⟨v, rfl, q⟩ := p; exact ⟨⟨v, rfl, q⟩, kp⟩
    · exact p.elim
/-- it breaks at turn k -/
theorem xt_for_brk {x : Str} {iter : Expr} {body : List Stmt} {px pos : Pos} {ds : List Dat} (Iv : Nat → List (Str × Dat)) (k : Nat) (d : Dat) (hd : ds[k]? = some d) (hi : EvIt C ρ iter ds) (h0 : ∀ p ∈ Iv 0, p ∈ ρ)
    (step : ∀ fp i d, i < k → ds[i]? = some d → Xs (C.keep fp) (upd (Iv i) x d) body (.next (Iv (i + 1)))) (stop : ∀ fp, Xs (C.keep fp) (upd (Iv k) x d) body (.brk ρ'))
    (hx : C.env.kindOf x = some .local := by rfl) (hfold : ∀ y, foldedSetIterable iter C.env y = pure y := by intro _; rfl) :
    Xt C ρ (.For (.Name x px) iter body [] pos) (.next ρ') := fun s b o => by
  have hlt : k < ds.length := by
    rcases Nat.lt_or_ge k ds.length with z | z
    · exact z
    · rw [List.getElem?_eq_none z] at hd; cases hd
  refine for_core b o hi.x h0 (Nat.le_of_lt hlt) hx hfold (fun fp i d _ => step fp i d) (fun e => absurd e (Nat.ne_of_lt hlt)) fun d' hd' => ?_
  rw [hd] at hd'
  cases hd'
  exact ⟨_, stop, rfl, (fun _ q => by cases q), (fun f s' p kp => by obtain ⟨rfl, q⟩ := p; exact ⟨⟨rfl, q⟩, kp⟩), fun _ _ p => p⟩

theorem xt_while {t : Expr} {body : List Stmt} {pos : Pos} (Iv : Nat → List (Str × Dat)) (k : Nat) (h0 : ∀ p ∈ Iv 0, p ∈ ρ) (ht : ∀ i, i < k → Ts C (Iv i) t true) (step : ∀ i, i < k → Xs C (Iv i) body (.next (Iv (i + 1)))) (hf : Ts C (Iv k) t false) :
    Xt C ρ (.While t body [] pos) (.next (Iv k)) := fun s b o => by
  refine wpAny_While (codeAny_whileLoop (fun n s' => ∃ i, i ≤ k ∧ n = k - i ∧ Ok C (Iv i) s' ∧ Kpt C s s') ?_ k ⟨0, Nat.zero_le _, rfl, o.sub h0, .refl _ _⟩)
  rintro n s' ⟨i, hik, rfl, oi, hK⟩
  rcases Nat.lt_or_ge i k with hlt | hge
  · refine (ht i hlt).to oi (.refl oi) fun s1 o1 z1 y1 => ?_
    rw [if_pos rfl]
    refine wpAny_mono (step i hlt s1 b o1) (fun f s2 ⟨⟨e, o2⟩, k2⟩ => ?_) fun _ _ f => f.elim
    subst e
    exact ⟨k - (i + 1), by omega, i + 1, hlt, rfl, o2, (hK.trans (y1.kpt oi)).trans k2⟩
  · have e : i = k := Nat.le_antisymm hik hge
    subst e
    refine hf.to oi (.refl oi) fun s1 o1 z1 y1 => ?_
    rw [if_neg Bool.false_ne_true]
    exact wpAny_execs_nil ⟨⟨rfl, o1⟩, hK.trans (y1.kpt oi)⟩
end
end Mine
end
section
set_option maxRecDepth 100000
set_option linter.unusedVariables false
namespace Mine
open PySem PySem.W PyProof.Rows PySem.Calls PySem.Spec

/-- the context of a called function's body -/
def Cx.fn (C : Cx) (h₀ : Heap) (env : Env) (cs : List (Str × Addr)) : Cx := { w := C.w, G := C.G, os := C.os, A := C.A.deeper env, env := env, frs := env :: C.frs, h₀ := h₀, Fo := C.F, n := C.n - 1, cs := cs, kept := [] }

def CalX (C : Cx) (f : Value) (ds : List Dat) (cls : Value) (c : Bool) : Prop := ∀ s vs, Ok C [] s → Reps C.F s.heap vs ds → wpAny C.M C.A (call f vs) (fun _ _ => False) (XSt C s cls c) s

theorem lookup_mem {α : Type} : ∀ {l : List (Str × α)} {x : Str} {v : α}, (l.map (·.1)).Nodup → (x, v) ∈ l → l.lookup x = some v
  | (y, u) :: r, x, v, hn, hm => by
    rw [List.map_cons, List.nodup_cons] at hn
    rcases List.mem_cons.mp hm with e | hm'
    · cases e; simp
    · have hne : (x == y) = false := by
        rw [beq_eq_false_iff_ne]
        rintro rfl
        exact hn.1 (List.mem_map.mpr ⟨_, hm', rfl⟩)
      rw [List.lookup_cons, hne]
      exact lookup_mem hn.2 hm'
theorem zip_mem {F : List Addr} {h : Heap} : ∀ {names : List Str} {vs : List Value} {ds : List Dat}, Reps F h vs ds → ∀ p ∈ names.zip ds, ∃ v, (p.1, v) ∈ names.zip vs ∧ Rep F h v p.2
  | [], _, _, _, p, hp => by simp at hp
  | x :: r, _, _, .nil, p, hp => by simp at hp
  | x :: r, v :: vs, d :: ds, .cons a b, p, hp => by
    rw [List.zip_cons_cons] at hp
    rcases List.mem_cons.mp hp with rfl | hp
    · exact ⟨v, .head _, a⟩
    · obtain ⟨u, h1, h2⟩ := zip_mem b p hp
      exact ⟨u, .tail _ h1, h2⟩
theorem zip_look {F : List Addr} {h : Heap} {names : List Str} {vs : List Value} {ds : List Dat} (hn : names.Nodup) (r : Reps F h vs ds) : ∀ p ∈ names.zip ds, ∃ v, (names.zip vs).reverse.lookup p.1 = some v ∧ Rep F h v p.2 := fun p hp => by
  obtain ⟨v, h1, h2⟩ := zip_mem r p hp
  refine ⟨v, lookup_mem ?_ (List.mem_reverse.mpr h1), h2⟩
  rw [List.map_reverse]
  refine (List.reverse_perm _).nodup_iff.mpr ?_
  have : ∀ (a : List Str) (b : List Value), a.Nodup → ((a.zip b).map (·.1)).Nodup := by
    intro a
    induction a with
    | nil => intro b _; simp
    | cons x a ih =>
      intro b hb
      cases b with
      | nil => simp
      | cons y b =>
        rw [List.nodup_cons] at hb
        rw [List.zip_cons_cons, List.map_cons, List.nodup_cons]
        refine ⟨fun q => hb.1 ?_, ih b hb.2⟩
        obtain ⟨z, hz, e⟩ := List.mem_map.mp q
        have e : z.1 = x := e
        exact e ▸ (List.of_mem_zip hz).1
  exact this _ _ hn

section
variable {C : Cx} {O : Out}
theorem mem_fn {h₀ : Heap} {env : Env} {cs : List (Str × Addr)} {L b : Addr} (hf : env.frame = some L) : b ∈ (C.fn h₀ env cs).F ↔ b = L ∨ b ∈ C.F := by
  show b ∈ List.filterMap (·.frame) (env :: C.frs) ↔ _
  rw [List.filterMap_cons, hf]
  exact List.mem_cons
theorem F_fn {h₀ : Heap} {env : Env} {cs : List (Str × Addr)} {L : Addr} (hf : env.frame = some L) : (C.fn h₀ env cs).F = L :: C.F := by
  show List.filterMap (·.frame) (env :: C.frs) = _
  rw [List.filterMap_cons, hf]

/-- the body is entered -/
theorem enter {s : Shared} {ρ : List (Str × Dat)} {env : Env} {cs : List (Str × Addr)} {m : Str → Option Value} {h1 : Heap} {t : Nat} (o : Ok C [] s) (hn : 1 ≤ C.n) (hk : env.scope.kind = .function) (hg : env.globals = mainGlobals) (hb : env.builtins = builtinsNs)
    (hf : env.frame = some env.locals) (hL : s.heap.objs.size ≤ env.locals) (hns : h1.Ns env.locals m) (keep : ∀ b o, s.heap.get? b = some o → h1.get? b = some o)
    (hcs : ∀ p ∈ cs, env.locals < p.2 ∧ ∃ v, h1.IsCell p.2 v) (hm : ∀ p ∈ ρ, env.kindOf p.1 = some .local ∧ ∃ v, m p.1 = some v ∧ Rep C.F s.heap v p.2) :
    Body (C.fn s.heap env cs) ∧ Ok (C.fn s.heap env cs) ρ { s with heap := h1, toks := t } := by
  obtain ⟨f1, f2⟩ := o.fresh hL
  have hG : C.G.get? env.locals = none := by
    cases e : C.G.get? env.locals with
    | none => rfl
    | some ob => exact absurd (Heap.lt_size (o.base.stay _ _ e)) (Nat.not_lt.mpr hL)
  refine ⟨⟨⟨C.frs, rfl⟩, hf, f1⟩, ⟨⟨?_, ?_, ?_, hk, hg, hb, f2, ?_, ?_, ?_, ?_, ⟨env, C.frs, rfl, rfl⟩, o.base.stay, ?_, ?_, ?_⟩, o.base.keeps keep, .of_keep keep, ?_, ?_, ⟨m, hns⟩, ?_, ?_⟩⟩
  · exact Around.frames_deeper o.cx.fr
  · have := o.cx.depth
    show C.A.depth + 1 + (C.n - 1) < _
    omega
  · have := o.cx.units
    show C.A.units + 3 + 8 * (C.n - 1) < _
    omega
  · intro b hb hn'
    rcases (mem_fn hf).mp hb with rfl | hb
    · exact none_size hL
    · exact absurd hb hn'
  · exact fun b hb => (mem_fn hf).mpr (.inr hb)
  · intro q
    rcases (mem_fn hf).mp q with q | q
    · exact f2 q.symm
    · exact o.cx.gpf q
  · intro b ob e L hL'
    rcases (mem_fn hf).mp hL' with rfl | hL'
    · exact Nat.lt_of_lt_of_le (Heap.lt_size (o.base.stay _ _ e)) hL
    · exact o.cx.low b ob e L hL'
  · obtain ⟨ps, p, _⟩ := o.base.gi
    exact ⟨_, p⟩
  · intro p hp
    obtain ⟨h2, _⟩ := hcs p hp
    have hle : s.heap.objs.size ≤ p.2 := Nat.le_of_lt (Nat.lt_of_le_of_lt hL h2)
    obtain ⟨g1, g2⟩ := o.fresh hle
    refine ⟨none_size hle, g2, fun q => ?_⟩
    rcases (mem_fn hf).mp q with q | q
    · exact absurd (q ▸ h2) (Nat.lt_irrefl _)
    · exact g1 q
  · intro b hb; cases hb
  · intro e he
    rcases List.mem_cons.mp he with rfl | he
    · exact ⟨by rw [hk]; decide, _, hf, hG, m, hns⟩
    · obtain ⟨g1, L', g2, g3, m', g4⟩ := o.ff e he
      exact ⟨g1, L', g2, g3, m', g4.keeps keep⟩
  · rcases o.hok with q | ⟨x, ox, vs, h1, h2, h3, h4, h5, h6⟩
    · exact .inl q
    · refine .inr ⟨x, ox, vs, h1, keep _ _ h2, h3, h4, fun q => ?_, h6⟩
      rcases (mem_fn hf).mp q with q | q
      · exact absurd (Heap.lt_size h2) (Nat.not_lt.mpr (q ▸ hL))
      · exact h5 q
  · exact fun p hp => (hcs p hp).2
  · intro p hp
    obtain ⟨h2, v, h3, h4⟩ := hm p hp
    refine ⟨v, .inl ⟨h2, m, hns, h3⟩, ?_⟩
    rw [F_fn hf]
    exact (h4.more hL).gr (.of_keep keep)

/-- and left -/
theorem leave_val {s s' : Shared} {env : Env} {cs : List (Str × Addr)} {v : Value} {d : Dat} {ρ : List (Str × Dat)} (hf : env.frame = some env.locals) (o' : Ok (C.fn s.heap env cs) ρ s') (r : Rep (C.fn s.heap env cs).F s'.heap v d) : St C s s' ∧ Rep C.F s'.heap v d :=
  ⟨⟨o'.gr, o'.base⟩, r.less fun b hb => (mem_fn hf).mpr (.inr hb)⟩
theorem leave_exc {s s' : Shared} {env : Env} {cs : List (Str × Addr)} {cls : Value} {c : Bool} {e : Value} {ρ : List (Str × Dat)} (hf : env.frame = some env.locals) (cx : CxOk (C.fn s.heap env cs)) (p : PostE (C.fn s.heap env cs) (.exc ρ cls c) e s') :
    wpAny C.M (C.A.deeper env) (leaving env e) (fun _ s'' => XSt C s cls c e s'') (fun _ _ => False) s' := by
  obtain ⟨a, rfl, o', f⟩ := p
  refine leave_ok (h₀ := s.heap) (base := C.G) (outer := C.frs) (L := env.locals) cx.fr o'.ff.fun hf (fun T hT => o'.new cx hT) f fun h' k f' => ?_
  have o2 := o'.kx cx k
  refine ⟨a, rfl, ⟨o2.gr, o2.base⟩, ?_⟩
  obtain ⟨⟨oe, vs, a1, b1, d1, g1, i1⟩, q, r, t⟩ := f'
  refine ⟨⟨oe, vs, a1, b1, d1, g1, ?_⟩, q, fun m => r ((mem_fn (C := C) (h₀ := s.heap) (cs := cs) hf).mpr (.inr m)), t⟩
  rcases i1 with ⟨_, i⟩ | ⟨T, oT, ts, x, i1, i2, i3, i4, i5, i6, i7, i8, i9⟩
  · cases i
  · exact .inr ⟨T, oT, ts, x, i1, i2, i3, fun m => i4 ((mem_fn (C := C) (h₀ := s.heap) (cs := cs) hf).mpr (.inr m)), i5, i6, i7, i8, .inr i9⟩

section
variable {name qual : Str} {params : Arguments} {body : List Stmt} {scope : Scope} {dV kV doc pm cdv ct oc : Value} {an od : Option Addr} {osl : Array (Option Value)} {f : Addr} {ds es : List Dat} {xs : List Value}
theorem fn_core {s : Shared} {vs : List Value} {R : Result → Shared → Prop} (o : Ok C [] s) (hn : 1 ≤ C.n) (r : Reps C.F s.heap vs ds)
    (ho : (Kf C.w).lookup f = some ⟨oc, od, .func (fnOf name qual params body scope dV kV doc pm an cdv ct), osl⟩) (hcd : codeIn (Kf C.w) cdv qual = true) (names : List Str) (hx : ∀ F h, Reps F h xs es)
    (hb : ∀ (s : Shared) (vs : List Value), (Kf C.w).In s.heap → vs.length = ds.length → BindsTo s (fnOf name qual params body scope dV kV doc pm an cdv ct) ⟨vs, []⟩ (names.zip (vs ++ xs)))
    (hnames : names.Nodup) (hloc : ∀ y ∈ names, scope.names.lookup y = some .local)
    (hbody : ∀ h₀ L, Xs (C.fn h₀ (envOf qual scope L f cdv) []) (names.zip (ds ++ es)) body O)
    (hR : ∀ d, (∃ ρ, O = .next ρ ∧ d = .none) ∨ O = .ret d → ∀ v s', St C s s' → Rep C.F s'.heap v d → R (.ok (.ret v)) s')
    (hE : ∀ ρ cls c, O = .exc ρ cls c → ∀ e s', XSt C s cls c e s' → R (.error e) s') (hO : (∀ ρ, O ≠ .brk ρ) ∧ ∀ ρ, O ≠ .cont ρ)
    (hck : scope.kind = .function := by rfl) (hco : scope.isCoroutine = false := by rfl) (hgen : scope.isGenerator = false := by rfl)
    (hcell : ∀ x ∈ scope.names, x.2 ≠ .cell := by decide) : codeAny C.M C.A (.call (.ref f) ⟨vs, []⟩) R s := by
  have KX : (Kf C.w).In s.heap := o.base.wd.kin.keeps o.base.stay
  have hlim : s.heap.NoLimit := o.base.wd.nolimit.keeps o.base.stay
  refine codeAny_call_def (fd := fnOf name qual params body scope dV kV doc pm an cdv ct) (body := body) (by have := o.cx.depth; omega) (KX _ _ ho) rfl hlim (codeRec_of KX hcd) rfl (hb s vs KX r.length) hcell (fun p hp => hloc _ (List.of_mem_zip hp).1) (fun h1 hns keep => ?_) hco hgen hck
  have hce : callEnv (fnOf name qual params body scope dV kV doc pm an cdv ct) s.heap.objs.size f = envOf qual scope s.heap.objs.size f cdv := rfl
  rw [hce]
  obtain ⟨bd, ok⟩ := enter (ρ := names.zip (ds ++ es)) (env := envOf qual scope s.heap.objs.size f cdv) (cs := []) (t := s.toks + (names.zip (vs ++ xs)).length) o hn hck rfl rfl rfl (Nat.le_refl _) hns keep (fun p hp => nomatch hp) fun p hp =>
    ⟨hloc _ (List.of_mem_zip hp).1, zip_look hnames (Reps.append r (hx _ _)) p hp⟩
  refine wpAny_mono (hbody s.heap s.heap.objs.size _ bd ok) (fun fl s' ⟨p, _⟩ => ?_) fun e s' p => ?_
  · cases O with
    | next ρ =>
      obtain ⟨rfl, o'⟩ := p
      obtain ⟨z, q⟩ := leave_val (v := .none) (d := .none) rfl o' .none
      exact hR .none (.inl ⟨ρ, rfl, rfl⟩) _ _ z q
    | ret d =>
      obtain ⟨v, rfl, o', q⟩ := p
      obtain ⟨z, q⟩ := leave_val rfl o' q
      exact hR d (.inr rfl) _ _ z q
    | brk ρ => exact absurd rfl (hO.1 ρ)
    | cont ρ => exact absurd rfl (hO.2 ρ)
    | exc _ _ _ => exact p.elim
  · cases O with
    | exc ρ cls c => exact wpAny_mono (leave_exc rfl ok.cx p) (fun _ s'' x => hE ρ cls c rfl e s'' x) fun _ _ f => f.elim
    | next _ => exact p.elim
    | ret _ => exact p.elim
    | brk _ => exact p.elim
    | cont _ => exact p.elim

theorem cal_fn {d : Dat} (hn : 1 ≤ C.n) (ho : (Kf C.w).lookup f = some ⟨oc, od, .func (fnOf name qual params body scope dV kV doc pm an cdv ct), osl⟩) (hcd : codeIn (Kf C.w) cdv qual = true) (names : List Str) (hx : ∀ F h, Reps F h xs es)
    (hb : ∀ (s : Shared) (vs : List Value), (Kf C.w).In s.heap → vs.length = ds.length → BindsTo s (fnOf name qual params body scope dV kV doc pm an cdv ct) ⟨vs, []⟩ (names.zip (vs ++ xs)))
    (hnames : names.Nodup) (hloc : ∀ y ∈ names, scope.names.lookup y = some .local)
    (hbody : ∀ h₀ L, Xs (C.fn h₀ (envOf qual scope L f cdv) []) (names.zip (ds ++ es)) body (.ret d))
    (hck : scope.kind = .function := by rfl) (hco : scope.isCoroutine = false := by rfl) (hgen : scope.isGenerator = false := by rfl)
    (hcell : ∀ x ∈ scope.names, x.2 ≠ .cell := by decide) : Cal C (.ref f) ds d := fun s vs o r =>
  wpAny_call (fn_core o hn r ho hcd names hx hb hnames hloc hbody (fun d' q v s' z rr => by
    rcases q with ⟨_, q, _⟩ | q
    · cases q
    · cases q; exact ⟨z, rr⟩) (fun _ _ _ q => by cases q) ⟨(fun _ q => by cases q), (fun _ q => by cases q)⟩ hck hco hgen hcell)
theorem calX_fn {ρ : List (Str × Dat)} {cls : Value} {c : Bool} (hn : 1 ≤ C.n) (ho : (Kf C.w).lookup f = some ⟨oc, od, .func (fnOf name qual params body scope dV kV doc pm an cdv ct), osl⟩) (hcd : codeIn (Kf C.w) cdv qual = true) (names : List Str) (hx : ∀ F h, Reps F h xs es)
    (hb : ∀ (s : Shared) (vs : List Value), (Kf C.w).In s.heap → vs.length = ds.length → BindsTo s (fnOf name qual params body scope dV kV doc pm an cdv ct) ⟨vs, []⟩ (names.zip (vs ++ xs)))
    (hnames : names.Nodup) (hloc : ∀ y ∈ names, scope.names.lookup y = some .local)
    (hbody : ∀ h₀ L, Xs (C.fn h₀ (envOf qual scope L f cdv) []) (names.zip (ds ++ es)) body (.exc ρ cls c))
    (hck : scope.kind = .function := by rfl) (hco : scope.isCoroutine = false := by rfl) (hgen : scope.isGenerator = false := by rfl)
    (hcell : ∀ x ∈ scope.names, x.2 ≠ .cell := by decide) : CalX C (.ref f) ds cls c := fun s vs o r =>
  wpAny_call (fn_core o hn r ho hcd names hx hb hnames hloc hbody (fun d' q v s' z rr => by
    rcases q with ⟨_, q, _⟩ | q
    · cases q
    · cases q) (fun _ _ _ q e s' x => by cases q; exact x) ⟨(fun _ q => by cases q), (fun _ q => by cases q)⟩ hck hco hgen hcell)
end
end
end Mine
end
section
set_option maxRecDepth 100000
set_option linter.unusedVariables false
namespace Mine
open PySem PySem.W PyProof.Rows PySem.Calls PySem.Spec

abbrev dn (n : Nat) : Dat := .int (n : Int)
theorem nat_xor_add (a b : Nat) : (a ^^^ b) + (a &&& b) = a ||| b := by
  induction a using Nat.strongRecOn generalizing b with
  | ind a ih =>
    by_cases h0 : a = 0
    · subst h0; simp
    · have h := ih (a / 2) (by omega) (b / 2)
      have e1 : (a ^^^ b) / 2 = (a / 2) ^^^ (b / 2) := Nat.xor_div_two
      have e2 : (a &&& b) / 2 = (a / 2) &&& (b / 2) := Nat.and_div_two
      have e3 : (a ||| b) / 2 = (a / 2) ||| (b / 2) := Nat.or_div_two
      have m1 : (a ^^^ b) % 2 = (a % 2 + b % 2) % 2 := by
        have := Nat.xor_mod_two_pow (a := a) (b := b) (n := 1)
        rw [Nat.pow_one] at this
        rw [this]
        rcases Nat.mod_two_eq_zero_or_one a with p | p <;> rcases Nat.mod_two_eq_zero_or_one b with q | q <;> rw [p, q] <;> rfl
      have m2 : (a &&& b) % 2 = (a % 2) * (b % 2) := by
        have := Nat.and_mod_two_pow (a := a) (b := b) (n := 1)
        rw [Nat.pow_one] at this
        rw [this]
        rcases Nat.mod_two_eq_zero_or_one a with p | p <;> rcases Nat.mod_two_eq_zero_or_one b with q | q <;> rw [p, q] <;> rfl
      have m3 : (a ||| b) % 2 = a % 2 + b % 2 - (a % 2) * (b % 2) := by
        have := Nat.or_mod_two_pow (a := a) (b := b) (n := 1)
        rw [Nat.pow_one] at this
        rw [this]
        rcases Nat.mod_two_eq_zero_or_one a with p | p <;> rcases Nat.mod_two_eq_zero_or_one b with q | q <;> rw [p, q] <;> rfl
      rcases Nat.mod_two_eq_zero_or_one a with p | p <;> rcases Nat.mod_two_eq_zero_or_one b with q | q <;> rw [p, q] at m1 m2 m3 <;> omega
theorem bitAnd_nat (a b : Nat) : Builtin.bitAnd (a : Int) (b : Int) = ((a &&& b : Nat) : Int) := by
  unfold Builtin.bitAnd
  simp
theorem bitOr_nat (a b : Nat) : Builtin.bitOr (a : Int) (b : Int) = ((a ||| b : Nat) : Int) := by
  unfold Builtin.bitOr Builtin.bitAnd Builtin.bitNot
  rw [decide_eq_false (by omega), decide_eq_false (by omega)]
  show -(-((((-(-(a : Int) - 1) - 1).toNat ||| (-(-(b : Int) - 1) - 1).toNat : Nat) : Int)) - 1) - 1 = _
  rw [show -(-(a : Int) - 1) - 1 = (a : Int) by omega, show -(-(b : Int) - 1) - 1 = (b : Int) by omega]
  simp only [Int.toNat_natCast]
  omega
theorem bitXor_nat (a b : Nat) : Builtin.bitXor (a : Int) (b : Int) = ((a ^^^ b : Nat) : Int) := by
  unfold Builtin.bitXor
  rw [bitOr_nat, bitAnd_nat]
  have := nat_xor_add a b
  omega
section
variable {C : Cx} {ρ : List (Str × Dat)}
theorem ev_nat {i : Int} {n : Nat} {k : Nat} {pos : Pos} (h : i = (n : Int) := by rfl) : Ev C ρ (.Constant (.int i) k pos) (dn n) := by subst h; exact ev_int _ k pos
theorem Op2.cast {op : Operator} {d1 d2 d d' : Dat} (h : Op2 C op d1 d2 d) (e : d = d') : Op2 C op d1 d2 d' := e ▸ h
theorem Iop2.cast {op : Operator} {d1 d2 d d' : Dat} (h : Iop2 C op d1 d2 d) (e : d = d') : Iop2 C op d1 d2 d' := e ▸ h
theorem op_addN (a b : Nat) : Op2 C .Add (dn a) (dn b) (dn (a + b)) := (op_add _ _).cast (by simp)
theorem op_mulN {a b : Nat} (h : IntMulOk (a : Int) (b : Int)) : Op2 C .Mult (dn a) (dn b) (dn (a * b)) := (op_mul h).cast (by simp)
theorem op_modN (a : Nat) {b : Nat} (h : 0 < b) : Op2 C .Mod (dn a) (dn b) (dn (a % b)) := (op_mod _ (by omega)).cast (by rw [Int.fmod_eq_emod_of_nonneg _ (by omega)]; rfl)
theorem op_divN (a : Nat) {b : Nat} (h : 0 < b) (hs : b < 1073741824) : Op2 C .FloorDiv (dn a) (dn b) (dn (a / b)) := (op_div _ (by omega) (by omega)).cast (by rw [Int.fdiv_eq_ediv_of_nonneg _ (by omega)]; rfl)
theorem op_andN (a b : Nat) : Op2 C .BitAnd (dn a) (dn b) (dn (a &&& b)) := (op_and _ _).cast (by rw [bitAnd_nat])
theorem op_orN (a b : Nat) : Op2 C .BitOr (dn a) (dn b) (dn (a ||| b)) := (op_or _ _).cast (by rw [bitOr_nat])
theorem op_xorN (a b : Nat) : Op2 C .BitXor (dn a) (dn b) (dn (a ^^^ b)) := (op_xor _ _).cast (by rw [bitXor_nat])
theorem iop_xorN (a b : Nat) : Iop2 C .BitXor (dn a) (dn b) (dn (a ^^^ b)) := (iop_xor _ _).cast (by rw [bitXor_nat])
theorem iop_addN (a b : Nat) : Iop2 C .Add (dn a) (dn b) (dn (a + b)) := (iop_add _ _).cast (by simp)
theorem iop_subN {a b : Nat} (h : b ≤ a) : Iop2 C .Sub (dn a) (dn b) (dn (a - b)) := (iop_sub _ _).cast (by congr 1; omega)
theorem op_subN {a b : Nat} (h : b ≤ a) : Op2 C .Sub (dn a) (dn b) (dn (a - b)) := (op_sub _ _).cast (by congr 1; omega)
theorem op_shrN (a n : Nat) : Op2 C .RShift (dn a) (dn n) (dn (a >>> n)) := (op_shr _ (by omega)).cast (by
  rw [Int.fdiv_eq_ediv_of_nonneg _ (Int.le_of_lt (Int.pow_pos (by decide))), Nat.shiftRight_eq_div_pow]
  simp [dn])
theorem op_shlN {a n : Nat} (h : (Builtin.Int.intBits a : Int) + n ≤ 2 ^ 27) : Op2 C .LShift (dn a) (dn n) (dn (a <<< n)) := (op_shl (by omega) h).cast (by
  rw [Nat.shiftLeft_eq]
  simp [dn])
theorem cmp_ltN (a b : Nat) : Cmp C .Lt (dn a) (dn b) (decide (a < b)) := by have := cmp_lt (C := C) a b; simpa using this
theorem cmp_leN (a b : Nat) : Cmp C .LtE (dn a) (dn b) (decide (a ≤ b)) := by have := cmp_le (C := C) a b; simpa using this
theorem cmp_gtN (a b : Nat) : Cmp C .Gt (dn a) (dn b) (decide (a > b)) := by have := cmp_gt (C := C) a b; simpa using this
theorem cmp_geN (a b : Nat) : Cmp C .GtE (dn a) (dn b) (decide (a ≥ b)) := by have := cmp_ge (C := C) a b; simpa using this
theorem Cmp.cast {op : CmpOp} {d1 d2 : Dat} {b b' : Bool} (h : Cmp C op d1 d2 b) (e : b = b') : Cmp C op d1 d2 b' := e ▸ h
theorem cmp_eqN (a b : Nat) : Cmp C .Eq (dn a) (dn b) (a == b) := (cmp_eq _ _).cast (by rw [Bool.eq_iff_iff, beq_iff_eq, beq_iff_eq]; omega)
theorem cmp_neN (a b : Nat) : Cmp C .NotEq (dn a) (dn b) (a != b) := (cmp_ne _ _).cast (by rw [Bool.eq_iff_iff, bne_iff_ne, bne_iff_ne]; omega)
theorem tr_nat (n : Nat) : Tr C (dn n) (n != 0) := by
  have := tr_int (C := C) n
  have e : ((n : Int) != 0) = (n != 0) := by rw [Bool.eq_iff_iff, bne_iff_ne, bne_iff_ne]; omega
  rwa [e] at this
theorem it_listN {ds : List Dat} {i : Nat} {d : Dat} (h2 : ds.length ≤ 16777216) (hd : ds[i]? = some d) : ItOn C (.list ds) (dn i) d := it_list (by omega) h2 (by simpa using hd)

theorem evIt_range {f a : Expr} {pos : Pos} {n : Nat} (hf : Ev C ρ f (.cst (.type "range"))) (ha : Ev C ρ a (dn n)) (hsmall : Builtin.Range.small 0 (n : Int) 1 = true) (hst : notStar a = true := by rfl)
    (hform : eval (.Call f [a] [] pos) C.env = (do callWith pos (← eval f C.env) [] (backTo pos (starEach [a] C.env)) (backToKw pos (keywordEach [] C.env))) := by rfl) : EvIt C ρ (.Call f [a] [] pos) (upTo n) := fun s o => by
  rw [hform]
  refine wpAny_bind (hf.to o (.refl o) fun v s1 o1 z1 _ r1 => ?_)
  have hv : v = .type "range" := by cases r1; rfl
  subst hv
  refine callWith_ev (evs1 ha hst) o1 (kp_type "range") fun vs s2 o2 z2 r2 => ?_
  cases r2 with
  | cons q r2 =>
  cases r2
  cases q with
  | int i t =>
  show wpAny _ _ (call (.type "range") [.int n t]) _ _ _
  refine call_range_1 ?_
  refine wpAny_pyIter_range (a := 0) (b := (n : Int)) (c := 1) (Heap.get?_push_size _ rfl) hsmall ?_
  have e : Builtin.Range.rangeSize 0 (n : Int) 1 = (n : Int) := by rw [rangeSize_one]; split <;> omega
  rw [e]
  have z3 := (z1.trans z2).trans (St.push (t := s2.toks + 1 + 1) o2.base { cls := .type "range", data := .fields #[.int 0 s2.toks, .int n t, .int 1 (s2.toks + 1)] })
  have o3 := o.step z3
  obtain ⟨f1, f2⟩ := o3.fresh (Nat.le_refl _)
  refine ⟨_, [_], _, rfl, fun A hA => wk_range f1 f2, ?_, z3.trans (.push' o3.base _), get_none_of_gr z3.gr (none_size (Nat.le_refl _)) f1 f2, one_fp.1, .head _, one_fp.2⟩
  have e2 : (n : Int) - ((0 : Nat) : Int) = n := by omega
  show IsRangeIter _ _ ((0 : Nat) : Int) ((n : Int) - ((0 : Nat) : Int)) 1
  rw [e2]
  exact Heap.get?_push_size _ rfl
end

end Mine
end
section
set_option maxRecDepth 100000
set_option linter.unusedVariables false
namespace Mine
open PySem PySem.W PyProof.Rows PySem.Calls PySem.Spec

theorem shl_ok {a n : Nat} (m : Nat) (h : a < 2 ^ m) (h2 : m + n ≤ 134217728) : (Builtin.Int.intBits (a : Int) : Int) + (n : Int) ≤ 2 ^ 27 := by
  have := (intBits_le_iff (m := m) (x := (a : Int))).mpr (by simpa using h)
  have e : (2 : Int) ^ 27 = 134217728 := by decide
  rw [e]
  omega
def Gl (x : Str) (v : Value) : Prop := ∀ w, nsIn (Kf w) mainGlobals x = some (some v)
def Bi (x : Str) (v : Value) : Prop := (∀ w, nsIn (Kf w) mainGlobals x = some none) ∧ bootBuiltins x = some v ∧ x ≠ "__name__"
section
variable {C : Cx} {ρ : List (Str × Dat)}
theorem ev_gl {x : Str} {v : Value} {pos : Pos} (h : Gl x v) (hk : C.env.kindOf x = some .globalImplicit) (hd : (x == ("__debug__" : Str)) = false := by decide) : Ev C ρ (.Name x pos) (.cst v) := ev_global h hk hd
theorem ev_bi {x : Str} {v : Value} {pos : Pos} (h : Bi x v) (hk : C.env.kindOf x = some .globalImplicit) (hd : (x == ("__debug__" : Str)) = false := by decide) : Ev C ρ (.Name x pos) (.cst v) := ev_builtin h.1 h.2.1 h.2.2 hk hd
theorem Ev.rep {e : Expr} {v : Value} {d : Dat} (h : Ev C ρ e (.cst v)) (r : ∀ F h, Rep F h v d) : Ev C ρ e d := fun s o => wpAny_mono (h s o) (fun u s' ⟨a, q⟩ => by cases q; exact ⟨a, r _ _⟩) fun _ _ f => f
end
theorem bi_range : Bi "range" (.type "range") := ⟨fun w => by kernel_rfl, by kernel_rfl, by decide⟩
theorem bi_len : Bi "len" (.builtin "len") := ⟨fun w => by kernel_rfl, by kernel_rfl, by decide⟩
theorem bi_ord : Bi "ord" (.builtin "ord") := ⟨fun w => by kernel_rfl, by kernel_rfl, by decide⟩
theorem bi_abs : Bi "abs" (.builtin "abs") := ⟨fun w => by kernel_rfl, by kernel_rfl, by decide⟩
theorem bi_int : Bi "int" (.type "int") := ⟨fun w => by kernel_rfl, by kernel_rfl, by decide⟩
theorem bi_bytes : Bi "bytes" (.type "bytes") := ⟨fun w => by kernel_rfl, by kernel_rfl, by decide⟩
theorem bi_list : Bi "list" (.type "list") := ⟨fun w => by kernel_rfl, by kernel_rfl, by decide⟩
theorem bi_divmod : Bi "divmod" (.builtin "divmod") := ⟨fun w => by kernel_rfl, by kernel_rfl, by decide⟩
theorem bi_any : Bi "any" (.builtin "any") := ⟨fun w => by kernel_rfl, by kernel_rfl, by decide⟩
theorem bi_all : Bi "all" (.builtin "all") := ⟨fun w => by kernel_rfl, by kernel_rfl, by decide⟩
theorem bi_ValueError : Bi "ValueError" (.type "ValueError") := ⟨fun w => by kernel_rfl, by kernel_rfl, by decide⟩
theorem bi_Exception : Bi "Exception" (.type "Exception") := ⟨fun w => by kernel_rfl, by kernel_rfl, by decide⟩
theorem gl_NETWORKS : Gl "NETWORKS" (.ref 22) := fun w => by kernel_rfl
theorem gl_Sha256 : Gl "Sha256" (.ref 63) := fun w => by kernel_rfl
theorem gl_hashlib : Gl "hashlib" (.ref 98) := fun w => by kernel_rfl
theorem gl_double_sha256 : Gl "double_sha256" (.ref 109) := fun w => by kernel_rfl
theorem gl_encode_base58 : Gl "encode_base58" (.ref 116) := fun w => by kernel_rfl
theorem gl_decode_base58 : Gl "decode_base58" (.ref 123) := fun w => by kernel_rfl
theorem gl_encode_check : Gl "encode_check" (.ref 130) := fun w => by kernel_rfl
theorem gl_decode_check : Gl "decode_check" (.ref 137) := fun w => by kernel_rfl
theorem gl_Encoding : Gl "Encoding" (.ref 147) := fun w => by kernel_rfl
theorem gl_bech32_polymod : Gl "bech32_polymod" (.ref 158) := fun w => by kernel_rfl
theorem gl_bech32_hrp_expand : Gl "bech32_hrp_expand" (.ref 163) := fun w => by kernel_rfl
theorem gl_bech32_verify_checksum : Gl "bech32_verify_checksum" (.ref 170) := fun w => by kernel_rfl
theorem gl_bech32_create_checksum : Gl "bech32_create_checksum" (.ref 175) := fun w => by kernel_rfl
theorem gl_bech32_encode : Gl "bech32_encode" (.ref 180) := fun w => by kernel_rfl
theorem gl_bech32_decode : Gl "bech32_decode" (.ref 185) := fun w => by kernel_rfl
theorem gl_convertbits : Gl "convertbits" (.ref 193) := fun w => by kernel_rfl
theorem gl_decode_bech32 : Gl "decode_bech32" (.ref 200) := fun w => by kernel_rfl
theorem gl_encode_bech32 : Gl "encode_bech32" (.ref 207) := fun w => by kernel_rfl
theorem gl_EmbitError : Gl "EmbitError" (.ref 774) := fun w => by kernel_rfl
theorem gl_Script : Gl "Script" (.ref 965) := fun w => by kernel_rfl
theorem gl_address_to_scriptpubkey : Gl "address_to_scriptpubkey" (.ref 974) := fun w => by kernel_rfl
theorem gl_law_kind : Gl "_law_kind" (.ref 981) := fun w => by kernel_rfl
theorem gl_law_address : Gl "_law_address" (.ref 988) := fun w => by kernel_rfl
theorem gl_law_read : Gl "_law_read" (.ref 995) := fun w => by kernel_rfl
theorem gl_law_told : Gl "_law_told" (.ref 1002) := fun w => by kernel_rfl
theorem gl_law_asked : Gl "_law_asked" (.ref 1009) := fun w => by kernel_rfl
theorem gl_law_checked : Gl "_law_checked" (.ref 1016) := fun w => by kernel_rfl
theorem gl_B58 : Gl "B58_DIGITS" (.str "123456789ABCDEFGHJKLMNPQRSTUVWXYZabcdefghijkmnopqrstuvwxyz" 511) := fun w => by kernel_rfl
theorem gl_CHARSET : Gl "CHARSET" (.str "qpzry9x8gf2tvdw0s3jn54khce6mua7l" 558) := fun w => by kernel_rfl
theorem gl_BC : Gl "BECH32_CONST" (.int 1 560) := fun w => by kernel_rfl
theorem gl_BM : Gl "BECH32M_CONST" (.int 734539939 562) := fun w => by kernel_rfl
end Mine
end
section
set_option maxRecDepth 100000
set_option linter.unusedVariables false
namespace Mine
open PySem PySem.W PyProof.Rows PySem.Calls PySem.Spec
open Builtin.Str (occurrences tooLong partsBetween strKind)
section
variable {C : Cx} {ρ : List (Str × Dat)}
theorem reps1 {F : List Addr} {h : Heap} {vs : List Value} {d : Dat} (r : Reps F h vs [d]) : ∃ v, vs = [v] ∧ Rep F h v d := by
  cases r with | cons a r => cases r; exact ⟨_, rfl, a⟩
theorem reps2 {F : List Addr} {h : Heap} {vs : List Value} {d d' : Dat} (r : Reps F h vs [d, d']) : ∃ v v', vs = [v, v'] ∧ Rep F h v d ∧ Rep F h v' d' := by
  cases r with | cons a r => cases r with | cons b r => cases r; exact ⟨_, _, rfl, a, b⟩
theorem Cal.cast {f : Value} {ds : List Dat} {d d' : Dat} (h : Cal C f ds d) (e : d = d') : Cal C f ds d' := e ▸ h
theorem cal_ord (c : Nat) : Cal C (.builtin "ord") [.str ⟨#[c]⟩] (dn c) := fun s vs o r => by
  obtain ⟨a, rfl, a⟩ := reps1 r
  cases a
  exact PySem.P.ord_of_char ⟨.toks o.base _, .int _ _⟩
theorem cal_lenS {x : Str} (h : x.length ≤ 16777216) : Cal C (.builtin "len") [.str x] (dn x.length) := fun s vs o r => by
  obtain ⟨a, rfl, a⟩ := reps1 r
  cases a
  exact PySem.P.len_str (by omega) ⟨.toks o.base _, .int _ _⟩
theorem cal_lenB {b : Array UInt8} (h : b.size ≤ 16777216) : Cal C (.builtin "len") [.bytes b] (dn b.size) := fun s vs o r => by
  obtain ⟨a, rfl, a⟩ := reps1 r
  cases a
  exact len_bytes (by omega) ⟨.toks o.base _, .int _ _⟩
theorem cal_lenL {ds : List Dat} (h : ds.length ≤ 16777216) : Cal C (.builtin "len") [.list ds] (dn ds.length) := fun s vs o r => by
  obtain ⟨a, rfl, a⟩ := reps1 r
  cases a with | @list l vs _ hl m p q =>
  have e : vs.toArray.size = ds.length := by rw [List.size_toArray, q.length]
  exact call_len_list hl (by rw [e]; omega) ⟨.toks o.base _, e ▸ .int _ _⟩
theorem cal_abs (i : Int) : Cal C (.builtin "abs") [.int i] (dn i.natAbs) := fun s vs o r => by
  obtain ⟨a, rfl, a⟩ := reps1 r
  cases a
  exact call_abs_int fun u tk => ⟨.toks o.base _, by
    have e : (if i < 0 then -i else i) = (i.natAbs : Int) := by split <;> omega
    rw [e]; exact .int _ _⟩
theorem cal_int (i : Int) : Cal C (.type "int") [.int i] (.int i) := fun s vs o r => by
  obtain ⟨a, rfl, a⟩ := reps1 r
  cases a
  exact call_int_int ⟨.refl o, .int _ _⟩
theorem cal_divmod {a b : Nat} (hb : 0 < b) (hs : b < 1073741824) : Cal C (.builtin "divmod") [dn a, dn b] (.tup [dn (a / b), dn (a % b)]) := fun s vs o r => by
  obtain ⟨u, v, rfl, u, v⟩ := reps2 r
  cases u; cases v
  refine divmod_int (by omega) ?_ (.inl (PyProof.noPylong_small (by omega)))
  obtain ⟨f1, f2⟩ := o.fresh (Nat.le_refl _)
  refine ⟨St.push o.base _, .tup (vs := [_, _]) ⟨_, Heap.get?_push_size _ rfl, rfl, _, rfl⟩ f1 f2 (.cons ?_ (.cons ?_ .nil))⟩
  · rw [Int.fdiv_eq_ediv_of_nonneg _ (by omega)]; exact .int _ _
  · rw [Int.fmod_eq_emod_of_nonneg _ (by omega)]; exact .int _ _
theorem cal_bitlen (n : Nat) : Cal C (.builtin "int.bit_length") [dn n] (dn (Builtin.Int.intBits n)) := fun s vs o r => by
  obtain ⟨u, rfl, u⟩ := reps1 r
  cases u
  exact call_gives PySem.F.slot_int_bit_length (typeIs_int _ _ _) PySem.F.entry_int_bit_length (PySem.F.args_int_bit_length_1 _) (PySem.AutoIntG2.int_bit_length_int_0 _ _) ⟨.toks o.base _, .int _ _⟩
theorem cal_find (x y : Str) : Cal C (.builtin "str.find") [.str x, .str y] (.int (Txt.find x y)) := fun s vs o r => by
  obtain ⟨u, v, rfl, u, v⟩ := reps2 r
  cases u; cases v
  exact call_gives F.slot_str_find (typeIs_str _ _ _) F.entry_str_find (F.args_str_find_2 _ _) (gives_str_find _ _ _ _) ⟨.toks o.base _, .int _ _⟩
theorem cal_rfind (x y : Str) : Cal C (.builtin "str.rfind") [.str x, .str y] (.int (Txt.rfind x y)) := fun s vs o r => by
  obtain ⟨u, v, rfl, u, v⟩ := reps2 r
  cases u; cases v
  exact call_gives F.slot_str_rfind (typeIs_str _ _ _) F.entry_str_rfind (F.args_str_rfind_2 _ _) (gives_str_rfind _ _ _ _) ⟨.toks o.base _, .int _ _⟩
theorem cal_index {x y : Str} {i : Nat} {rest : List Nat} (h : occurrences x y 0 x.length 1 = i :: rest) : Cal C (.builtin "str.index") [.str x, .str y] (dn i) := fun s vs o r => by
  obtain ⟨u, v, rfl, u, v⟩ := reps2 r
  cases u; cases v
  exact call_gives F.slot_str_index (typeIs_str _ _ _) F.entry_str_index (F.args_str_index_2 _ _) (gives_str_index _ _ _ _ i rest h) ⟨.toks o.base _, .int _ _⟩
theorem cal_lower {x : Str} (h : tooLong (Txt.lower x).length = false) : Cal C (.builtin "str.lower") [.str x] (.str (Txt.lower x)) := fun s vs o r => by
  obtain ⟨u, rfl, u⟩ := reps1 r
  cases u
  exact call_gives F.slot_str_lower (typeIs_str _ _ _) F.entry_str_lower (F.args_str_lower_1 _) (gives_str_lower _ _ h) ⟨fit_le h, .toks o.base _, .str _ _⟩
theorem cal_upper {x : Str} (h : tooLong (Txt.upper x).length = false) : Cal C (.builtin "str.upper") [.str x] (.str (Txt.upper x)) := fun s vs o r => by
  obtain ⟨u, rfl, u⟩ := reps1 r
  cases u
  exact call_gives F.slot_str_upper (typeIs_str _ _ _) F.entry_str_upper (F.args_str_upper_1 _) (gives_str_upper _ _ h) ⟨fit_le h, .toks o.base _, .str _ _⟩
theorem reps_strs {F : List Addr} {h : Heap} : ∀ {vs : List Value} {xs : List Str}, Reps F h vs (xs.map .str) → ∃ l, vs = strValues l ∧ l.map (·.1) = xs
  | [], [], .nil => ⟨[], rfl, rfl⟩
  | v :: vs, x :: xs, .cons a b => by
    cases a with
    | str _ t =>
    obtain ⟨l, rfl, e⟩ := reps_strs b
    exact ⟨(x, t) :: l, rfl, by rw [List.map_cons, e]⟩
theorem cal_join {sep : Str} {xs : List Str} (h : JoinOk sep xs = true) : Cal C (.builtin "str.join") [.str sep, .list (xs.map .str)] (.str (Txt.join sep xs)) := fun s vs o r => by
  obtain ⟨u, v, rfl, u, v⟩ := reps2 r
  cases u; cases v with | list hl m p q =>
  obtain ⟨l, rfl, rfl⟩ := reps_strs q
  have h' := h
  unfold JoinOk at h'
  rw [Bool.not_eq_true'] at h'
  exact call_meets F.slot_str_join (typeIs_str _ _ _) F.entry_str_join (F.args_str_join_2 _ _) (meets_str_join_list _ _ _ l h') ⟨hl, post_join l ⟨joinFit_length h', fun t' k => ⟨.toks o.base _, .str _ _⟩⟩⟩
theorem strs_reps {F : List Addr} {h : Heap} : ∀ (l : List (Str × Tok)), Reps F h (strValues l) ((l.map (·.1)).map .str)
  | [] => .nil
  | (x, t) :: l => .cons (.str x t) (strs_reps l)
theorem cal_split {x y : Str} (hy : (y.length == 0) = false) (hx : x.length ≤ sizeLine) (hn : (partsBetween x (occurrences x y 0 x.length (x.length + 1)) y.length).length ≤ sizeLine) : Cal C (.builtin "str.split") [.str x, .str y] (.list ((Txt.split x y).map .str)) := fun s vs o r => by
  obtain ⟨u, v, rfl, u, v⟩ := reps2 r
  cases u; cases v
  rename_i t u
  obtain ⟨f1, f2⟩ := o.fresh (Nat.le_refl _)
  cases h1 : (decide (x.length < y.length) || decide (strKind x < strKind y))
  · cases hf : (occurrences x y 0 x.length (x.length + 1)).isEmpty
    · refine call_meets F.slot_str_split (typeIs_str _ _ _) F.entry_str_split (F.args_str_split_2 _ _) (meets_str_split_sep x y t u h1 hy hf hx hn) ?_
      show wants _ _ _ { s with toks := _, heap := s.heap.push { cls := .type "list", data := .seq (strsFrom s.toks (partsBetween x (occurrences x y 0 x.length (x.length + 1)) y.length)).toArray } }
      rw [strsFrom_eq]
      have e : (numbered s.toks (partsBetween x (occurrences x y 0 x.length (x.length + 1)) y.length)).map (·.1) = Txt.split x y := (numbered_texts _ _).trans ((if_neg (ne_true_of_eq_false h1)).trans (if_neg (ne_true_of_eq_false hf))).symm
      exact ⟨St.push o.base _, .list ⟨_, Heap.get?_push_size _ rfl, rfl, _, rfl⟩ f1 f2 (e ▸ strs_reps _)⟩
    · refine call_meets F.slot_str_split (typeIs_str _ _ _) F.entry_str_split (F.args_str_split_2 _ _) (meets_str_split_not_found x y t u h1 hy hf) ?_
      have e : [((x, t) : Str × Tok)].map (·.1) = Txt.split x y := ((if_neg (ne_true_of_eq_false h1)).trans (if_pos hf)).symm
      exact ⟨St.push o.base _, .list ⟨_, Heap.get?_push_size _ rfl, rfl, _, rfl⟩ f1 f2 (e ▸ strs_reps [(x, t)])⟩
  · refine call_meets F.slot_str_split (typeIs_str _ _ _) F.entry_str_split (F.args_str_split_2 _ _) (meets_str_split_cannot_occur x y t u h1) ?_
    have e : [((x, t) : Str × Tok)].map (·.1) = Txt.split x y := (if_pos h1).symm
    exact ⟨St.push o.base _, .list ⟨_, Heap.get?_push_size _ rfl, rfl, _, rfl⟩ f1 f2 (e ▸ strs_reps [(x, t)])⟩
end
end Mine
end
section
set_option maxRecDepth 100000
set_option linter.unusedVariables false
namespace Mine
open PySem PySem.W PyProof.Rows PySem.Calls PySem.Spec
section
variable {C : Cx} {ρ ρc : List (Str × Dat)}
theorem ev_compM {α : Type} {elt iter : Expr} {x : Str} {px pos : Pos} {cl : List (Str × Addr)} {scope : Scope} (xs : List α) (g h : α → Dat) (hinj : ∀ a b, g a = g b → a = b) (hi : EvIt C ρ iter (xs.map g))
    (hff : ∀ a, (g a).flat = true) (hfo : ∀ a, (h a).flat = true) (hz : xs.length ≤ sizeLine)
    (helt : ∀ N, ∀ a ∈ xs, Ev (C.comp scope cl N) ((x, g a) :: ρc) elt (h a)) (hf : FreeOk C scope cl ρ ρc) (hclos : closureFor scope C.env = pure cl)
    (hcell : ∀ y ∈ scope.names, y.2 ≠ .cell := by decide) (hkind : scope.kind = .function := by rfl) (hnames : ∀ y ∈ scope.names, y.2 = .local → scope.names.lookup y.1 = some .local := by decide) (hx : scope.names.lookup x = some .local := by rfl)
    (hs : ∀ y, foldedSetIterable iter C.env y = pure y := by intro _; rfl) :
    Ev C ρ (.ListComp elt [⟨.Name x px, iter, [], 0⟩] scope pos) (.list (xs.map h)) := by
  have key : ∀ d, ∃ e : Dat, e.flat = true ∧ ∀ a, g a = d → e = h a := fun d => by
    by_cases q : ∃ a, g a = d
    · obtain ⟨a, rfl⟩ := q
      exact ⟨h a, hfo a, fun b e => by rw [hinj _ _ e]⟩
    · exact ⟨.none, rfl, fun a e => absurd ⟨a, e⟩ q⟩
  have hf' : ∀ d, (Classical.choose (key d)).flat = true := fun d => (Classical.choose_spec (key d)).1
  have hg : ∀ a, Classical.choose (key (g a)) = h a := fun a => (Classical.choose_spec (key (g a))).2 a rfl
  have := ev_comp (pos := pos) (px := px) (cl := cl) (scope := scope) (ρc := ρc) (elt := elt) (x := x) (f := fun d => Classical.choose (key d)) hi (fun d hd => by obtain ⟨a, _, rfl⟩ := List.mem_map.mp hd; exact hff a) (fun d hd => hf' d)
    (by rw [List.length_map]; exact hz) (fun N d hd => by
      obtain ⟨a, ha, rfl⟩ := List.mem_map.mp hd
      show Ev _ _ _ (Classical.choose (key (g a)))
      rw [hg a]
      exact helt N a ha) hf hclos hcell hkind hnames hx hs
  rw [List.map_map] at this
  have e : List.map ((fun d => Classical.choose (key d)) ∘ g) xs = List.map h xs := List.map_congr_left fun a _ => hg a
  rw [e] at this
  exact this
theorem dn_inj (a b : Nat) (h : dn a = dn b) : a = b := by
  have : (a : Int) = b := by simpa using h
  omega
theorem ch_inj (a b : Nat) (h : Dat.str ⟨#[a]⟩ = .str ⟨#[b]⟩) : a = b := by simpa using h
theorem free_nil {scope : Scope} {cl : List (Str × Addr)} : FreeOk C scope cl ρ [] := fun _ h => nomatch h
theorem op_addLm {α : Type} {xs ys : List α} {g : α → Dat} (h : xs.length + ys.length ≤ sizeLine) : Op2 C .Add (.list (xs.map g)) (.list (ys.map g)) (.list ((xs ++ ys).map g)) := by
  rw [List.map_append]; exact op_addL (by simpa using h)
def codes (x : Str) : List Nat := x.cps.toList
abbrev ch (c : Nat) : Dat := .str ⟨#[c]⟩
theorem chars_eq (x : Str) : chars x = (codes x).map ch := rfl
abbrev nl (l : List Nat) : Dat := .list (l.map dn)
end
end Mine
end
section
set_option maxRecDepth 100000
set_option linter.unusedVariables false
namespace Mine
open PySem PySem.W PyProof.Rows PySem.Calls PySem.Spec
section
variable {C : Cx} {ρ ρc : List (Str × Dat)}
theorem Ok.kin {s : Shared} (o : Ok C ρ s) : (Kf C.w).In s.heap := o.base.wd.kin.keeps o.base.stay
/-- a value that stands in a class -/
theorem ev_clsAttr {e : Expr} {name : Str} {pos : Pos} {c : Addr} {mc v : Value} (h : Ev C ρ e (.cst (.ref c))) (hr : readsIn (Kf C.w) c mc = true) (hf : findCls (Kf C.w) (.ref c) mc name = some (.val v)) (hh : handedIn v = true)
    (he : eval (.Attribute e name pos) C.env = (do
      let o ← eval e C.env
      standAt pos.atName
      let r ← holding [o] (getAttr o name true)
      letTemporaryGo e o r
      pure r) := by with_unfolding_all rfl) : Ev C ρ (.Attribute e name pos) (.cst v) := fun s o =>
  Attribute_any_ (h.to o (.refl o) fun u s1 o1 z1 _ r1 => by
    have hv : u = .ref c := by cases r1; rfl
    subst hv
    exact cls_value o1.kin hr hf hh ⟨z1.trans (.toks o1.base _), .cst _⟩) he

/-- the method is found; the call -/
theorem ev_methG {o' : Expr} {name : Str} {apos pos : Pos} {args : List Expr} {d1 : Dat} {ds : List Dat} {d : Dat} {fv : Value} {first : Value → List Value} (ho : Ev C ρ o' d1) (ha : Evs C ρ args ds)
    (hm : ∀ (s : Shared) v pl (Q : Value × List Value → Shared → Prop) (E : Value → Shared → Prop), Ok C [] s → Rep C.F s.heap v d1 → (∀ s', St C s s' → Q (fv, first v) s') → wpAny C.M C.A (getMethod v name pl) Q E s) (hk : Kp C fv)
    (hc : ∀ s v vs, Ok C [] s → Rep C.F s.heap v d1 → Reps C.F s.heap vs ds → wpAny C.M C.A (call fv (first v ++ vs)) (fun v s' => St C s s' ∧ Rep C.F s'.heap v d) (fun _ _ => False) s)
    (hline : (apos.endLine == pos.line) = true := by rfl) (hbase : attributeBase o' name C.env (eval o' C.env) = eval o' C.env := by rfl) (hlen : args.length < 25 := by decide) :
    Ev C ρ (.Call (.Attribute o' name apos) args [] pos) d := fun s o => by
  rw [arm_eval_Call, hbase]
  refine wpAny_bind (ho.to o (.refl o) fun v s1 o1 z1 _ r1 => wpAny_bind (wpAny_standAt ?_))
  have hform : methodCallForm (args.length + ([] : List Keyword).length) (backTo pos (starEach args C.env)) (backToKw pos (keywordEach [] C.env)) = true := by
    unfold methodCallForm
    rw [star_all ha.plain]
    simp only [keywordEach, backToKw, List.map_nil, List.all_nil, List.length_nil, List.isEmpty_nil, if_true, Bool.and_self, Bool.true_and, decide_eq_true_eq]
    omega
  have hpos : methodCallPos true o' C.env apos pos = pure pos := by unfold methodCallPos; simp [hline]
  unfold methodCall
  rw [hform]
  refine wpAny_bind (wpAny_holding (hm s1 v _ _ _ o1.nil r1 fun s2 z2 => ?_))
  have o2 := o1.step z2
  refine wpAny_bind (wpAny_of_eq hpos ?_)
  exact callWith_ev ha o2 hk fun vs s3 o3 z3 r3 => wpAny_mono (hc s3 v vs o3.nil ((r1.gr z2.gr).gr z3.gr) r3) (fun u s4 ⟨z4, r4⟩ => ⟨((z1.trans z2).trans z3).trans z4, r4⟩) fun _ _ f => f

/-- a static method, by its class -/
theorem ev_static {o' : Expr} {name : Str} {apos pos : Pos} {args : List Expr} {c f p : Addr} {mc obj tp : Value} {rest : List Value} {ds : List Dat} {d : Dat} {K : Frag} (ho : Ev C ρ o' (.cst (.ref c))) (ha : Evs C ρ args ds)
    (hg : specialIn (Kf C.w) (.ref c) "__getattribute__" = some (some (.builtin "type.__getattribute__"))) (hr : readsIn (Kf C.w) c mc = true) (hf : findCls (Kf C.w) (.ref c) mc name = some (.get (.builtin "staticmethod.__get__") (.ref p) obj (.ref c)))
    (hp : recIn (Kf C.w) p "staticmethod" = some (.ref f :: rest)) (hh : handedIn (.ref f) = true) (hk : keepIn (Kf C.w) (.ref f) = true) (hc : Cal C (.ref f) ds d)
    (hline : (apos.endLine == pos.line) = true := by rfl) (hbase : attributeBase o' name C.env (eval o' C.env) = eval o' C.env := by rfl) (hlen : args.length < 25 := by decide) :
    Ev C ρ (.Call (.Attribute o' name apos) args [] pos) d :=
  ev_methG (fv := .ref f) (first := fun _ => []) ho ha (fun s v pl Q E o r k => by
    have hv : v = .ref c := by cases r; rfl
    subst hv
    refine method_cls o.kin hg (cls_bind o.kin hr hf ?_)
    refine wpAny_call (sm_get (s := { s with toks := s.toks + 1 }) o.kin hp ?_)
    exact handed_on hh (k _ (.toks o.base _))) (keeps_K hk) (fun s v vs o _ r => hc s vs o r) hline hbase hlen
end
set_option profiler true
theorem enc_reads (w : World) : readsIn (Kf w) 147 (.type "type") = true := by kernel_rfl
theorem enc_1 (w : World) : ∃ t, findCls (Kf w) (.ref 147) (.type "type") "BECH32" = some (.val (.int 1 t)) := ⟨_, rfl⟩
end Mine
end
section
set_option maxRecDepth 100000
set_option linter.unusedVariables false
namespace Mine
open PySem PySem.W PyProof.Rows PySem.Calls PySem.Spec
section
variable {C : Cx} {ρ ρ' : List (Str × Dat)} {O : Out}
theorem bindL_other {k : Str → Option NameKind} {x : Str} : ∀ {binds : List (Str × Value)} {m : Str → Option Value}, x ∉ binds.map (·.1) → bindL k binds m x = m x
  | [], _, _ => rfl
  | (n, v) :: r, m, h => by
    rw [List.map_cons, List.mem_cons, not_or] at h
    show bindL k r _ x = m x
    rw [bindL_other h.2]
    split
    · exact if_neg h.1
    · rfl
theorem bindL_mem {k : Str → Option NameKind} {x : Str} {v : Value} : ∀ {binds : List (Str × Value)} {m : Str → Option Value}, (∀ p ∈ binds, k p.1 = some .local) → (binds.map (·.1)).Nodup → (x, v) ∈ binds → bindL k binds m x = some v
  | (n, u) :: r, m, hk, hn, hm => by
    rw [List.map_cons, List.nodup_cons] at hn
    show bindL k r _ x = some v
    rcases List.mem_cons.mp hm with e | hm
    · cases e
      rw [bindL_other hn.1, if_pos (hk (x, v) (.head _))]
      exact if_pos rfl
    · exact bindL_mem (fun p hp => hk p (.tail _ hp)) hn.2 hm
theorem zip_nodup : ∀ (a : List Str) (b : List Value), a.Nodup → ((a.zip b).map (·.1)).Nodup
  | [], b, _ => by simp
  | x :: a, [], _ => by simp
  | x :: a, y :: b, hb => by
    rw [List.nodup_cons] at hb
    rw [List.zip_cons_cons, List.map_cons, List.nodup_cons]
    refine ⟨fun q => hb.1 ?_, zip_nodup a b hb.2⟩
    obtain ⟨z, hz, e⟩ := List.mem_map.mp q
    have e : z.1 = x := e
    exact e ▸ (List.of_mem_zip hz).1
variable {name qual : Str} {params : Arguments} {body : List Stmt} {scope : Scope} {dV kV doc pm cdv ct oc : Value} {an od : Option Addr} {osl : Array (Option Value)} {f : Addr} {ds : List Dat}
/-- a function whose body has cells; its parameters are no cells -/
theorem cal_fnC {d : Dat} (hn : 1 ≤ C.n) (ho : (Kf C.w).lookup f = some ⟨oc, od, .func (fnOf name qual params body scope dV kV doc pm an cdv ct), osl⟩) (hcd : codeIn (Kf C.w) cdv qual = true) (names : List Str)
    (hb : ∀ (vs : List Value), vs.length = ds.length → bindArgs (fnOf name qual params body scope dV kV doc pm an cdv ct) ⟨vs, []⟩ = pure (names.zip vs))
    (hnames : names.Nodup) (hloc : ∀ y ∈ names, scope.names.lookup y = some .local) (hcl : ∀ L, ∀ p ∈ cellsFrom (L + 1) scope.names [], (cellsFrom (L + 1) scope.names []).lookup p.1 = some p.2)
    (hbody : ∀ h₀ L, Xs (C.fn h₀ (envOfC qual scope L f cdv) (cellsFrom (L + 1) scope.names [])) (names.zip ds) body (.ret d))
    (hck : scope.kind = .function := by rfl) (hco : scope.isCoroutine = false := by rfl) (hgen : scope.isGenerator = false := by rfl) : Cal C (.ref f) ds d := fun s vs o r => by
  have KX : (Kf C.w).In s.heap := o.kin
  have hlim : s.heap.NoLimit := o.base.wd.nolimit.keeps o.base.stay
  refine wpAny_call (codeAny_call_cells (fd := fnOf name qual params body scope dV kV doc pm an cdv ct) (body := body) (by have := o.cx.depth; omega) (KX _ _ ho) rfl hlim (codeRec_of KX hcd) rfl (hb vs r.length) rfl (fun p hp => .inl (hloc _ (List.of_mem_zip hp).1)) (fun s₁ hs => ?_) hco hgen hck)
  have hce : callEnvC (fnOf name qual params body scope dV kV doc pm an cdv ct) s.heap.objs.size f = envOfC qual scope s.heap.objs.size f cdv := rfl
  rw [hce] at hs ⊢
  obtain ⟨⟨⟨h1, tk, rfl⟩, hns, hkeep, hfresh⟩, hcell, _, habove⟩ := hs
  obtain ⟨bd, ok⟩ := enter (ρ := names.zip ds) (env := envOfC qual scope s.heap.objs.size f cdv) (cs := cellsFrom (s.heap.objs.size + 1) scope.names []) (t := tk) o hn hck rfl rfl rfl (Nat.le_refl _) hns hkeep (fun p hp => ⟨habove p.1 p.2 hp, _, hcell p.1 p.2 (hcl _ p hp)⟩) fun p hp => by
    refine ⟨hloc _ (List.of_mem_zip hp).1, ?_⟩
    obtain ⟨v, h2, h3⟩ := zip_mem r p hp
    exact ⟨v, bindL_mem (fun q hq => hloc _ (List.of_mem_zip hq).1) (zip_nodup _ _ hnames) h2, h3⟩
  refine wpAny_mono (hbody s.heap s.heap.objs.size _ bd ok) (fun fl s' ⟨p, _⟩ => ?_) fun e s' p => p.elim
  obtain ⟨v, rfl, o', q⟩ := p
  exact leave_val rfl o' q

theorem Ok.storeC {s : Shared} {x : Str} {c : Addr} {v : Value} {d : Dat} {h' : Heap} {t : Nat} (o : Ok C ρ s) (hk : C.env.kindOf x = some .cell) (hc : C.env.cells.lookup x = some c) (hm : ∃ y, (y, c) ∈ C.cs) (hoth : ∀ y, y ≠ x → C.env.cells.lookup y ≠ some c)
    (r : Rep C.F s.heap v d) (hn : h'.IsCell c (some v)) (k : ∀ b o, b ≠ c → s.heap.get? b = some o → h'.get? b = some o) : Ok C (upd ρ x d) { s with heap := h', toks := t } ∧ Kpt C s { s with heap := h', toks := t } := by
  obtain ⟨y, hy⟩ := hm
  obtain ⟨c1, c2, c3⟩ := o.cx.own2 _ hy
  obtain ⟨v0, hv0⟩ := o.cel _ hy
  have hcell : ∀ c' v, c' ≠ c → s.heap.IsCell c' v → h'.IsCell c' v := fun c' v q ⟨oc, hoc, hv⟩ => ⟨oc, k _ _ q hoc, hv⟩
  have hns : ∀ a m, s.heap.Ns a m → h'.Ns a m := fun a m ⟨on, es, ep, e1, e2, e3⟩ => ⟨on, es, ep, k _ _ (fun q => by
    subst q
    obtain ⟨oc, hoc, hv⟩ := hv0
    rw [e1] at hoc; cases hoc
    rw [e2] at hv; cases hv) e1, e2, e3⟩
  refine ⟨⟨o.cx, ⟨o.base.wd, fun b ob e => k b ob (fun q => ?_) (o.base.stay b ob e), ?_, o.base.bare, o.base.os⟩, ⟨fun b ob e p q => k b ob (fun z => ?_) (o.gr.kc b ob e p q), fun b m e hm => hns _ _ (o.gr.kf b m e hm)⟩, ?_, ?_, ?_, ?_, ?_⟩, ?_⟩
  · have := o.cx.gst b ob e
    rw [q, c1] at this; cases this
  · obtain ⟨ps, p, q⟩ := o.base.gi
    exact ⟨ps, k _ _ (Ne.symm c2) p, q⟩
  · rw [z, c1] at e; cases e
  · intro env he
    obtain ⟨h1, L, h2, h3, m, hm⟩ := o.ff env he
    exact ⟨h1, L, h2, h3, m, hns _ _ hm⟩
  · rcases o.hok with q | ⟨x', ox, vs, h1, h2, h3, h4⟩
    · exact .inl q
    · exact .inr ⟨x', ox, vs, h1, k _ _ (fun z => by
        obtain ⟨oc, hoc, hv⟩ := hv0
        rw [z] at h2
        rw [h2] at hoc; cases hoc
        rw [h3] at hv; cases hv) h2, h3, h4⟩
  · obtain ⟨m, hm⟩ := o.ns
    exact ⟨m, hns _ _ hm⟩
  · intro p hp
    obtain ⟨v', hv'⟩ := o.cel p hp
    by_cases q : p.2 = c
    · rw [q]; exact ⟨_, hn⟩
    · exact ⟨v', hcell _ _ q hv'⟩
  · intro p hp
    rcases List.mem_cons.mp hp with rfl | hp
    · exact ⟨v, .inr ⟨.inl hk, c, hc, hn, c2, c3⟩, r.but (.inr (.inl ⟨_, hv0⟩)) k⟩
    · obtain ⟨hp, hne⟩ := List.mem_filter.mp hp
      obtain ⟨u, hu, ru⟩ := o.loc p hp
      have hne' : p.1 ≠ x := by simpa using hne
      refine ⟨u, ?_, ru.but (.inr (.inl ⟨_, hv0⟩)) k⟩
      rcases hu with ⟨h1, n, h2, h3⟩ | ⟨h1, c', h2, h3, h4⟩
      · exact .inl ⟨h1, n, hns _ _ h2, h3⟩
      · exact .inr ⟨h1, c', h2, hcell _ _ (fun q => hoth _ hne' (q ▸ h2)) h3, h4⟩
  · intro b hb ob e
    exact k b ob (fun z => (o.cx.kpt b hb).2.2 _ hy z.symm) e
theorem xt_assignC {x : Str} {c : Addr} {e : Expr} {d : Dat} {px pos : Pos} (h : Ev C ρ e d) (hk : C.env.kindOf x = some .cell) (hc : C.env.cells.lookup x = some c) (hm : ∃ y, (y, c) ∈ C.cs) (hoth : ∀ y, y ≠ x → C.env.cells.lookup y ≠ some c)
    (hs : swapsWith e (some (.Name x px)) pos.line C.env = pure false := by rfl) : Xt C ρ (.Assign [.Name x px] e pos) (.next (upd ρ x d)) := fun s b o =>
  wpAny_Assign_Name (h.to o (.refl o) fun v s1 o1 z1 y1 r1 => by
    obtain ⟨y, hy⟩ := id hm
    obtain ⟨v0, hv0⟩ := o1.cel _ hy
    refine wpAny_storeName_cell o.cx.kind hk hc hv0 fun h' hn sb => ?_
    obtain ⟨a, k⟩ := Ok.storeC (t := s1.toks) o1 hk hc hm hoth r1 hn sb.extBut
    exact ⟨⟨rfl, a⟩, (y1.kpt o).trans k⟩) hs
end
end Mine
end
section
set_option maxRecDepth 100000
set_option linter.unusedVariables false
namespace Mine
open PySem PySem.W PyProof.Rows PySem.Calls PySem.Spec
open Builtin.Str (occurrences tooLong partsBetween strKind glued strSub subAt lastOccurrence)

def mk (l : List Nat) : Str := ⟨l.toArray⟩
theorem codes_mk (l : List Nat) : codes (mk l) = l := rfl
theorem mk_codes (x : Str) : mk (codes x) = x := by cases x; rfl
theorem mk_len (l : List Nat) : (mk l).length = l.length := by simp [mk, Str.length]
theorem mk_app (a b : List Nat) : mk a ++ mk b = mk (a ++ b) := Str.ext' (by simp [mk, Str.cps_append])
theorem mk_inj {a b : List Nat} : mk a = mk b ↔ a = b := ⟨fun h => by have := congrArg codes h; simpa [codes_mk] using this, fun h => by rw [h]⟩
theorem mk_ascii {l : List Nat} (h : ∀ c ∈ l, c < 128) : (mk l).cps.all (· < 128) = true := by
  simp only [mk, Array.all_eq_true]
  intro i hi
  have : l.toArray[i] ∈ l := by simp
  simpa using h _ this
theorem ch_eq (c : Nat) : ch c = .str (mk [c]) := rfl
theorem mk_chars (l : List Nat) : chars (mk l) = l.map ch := rfl
theorem mk_item {l : List Nat} {i : Nat} (h : i < l.length) : Txt.item (mk l) (i : Int) = mk [l.getD i 0] := by
  unfold Txt.item Txt.charAt
  rw [StrLaws.seqIndex_nonneg (by omega) (by rw [mk_len]; omega)]
  simp [mk, h]
theorem mk_join (l : List Nat) : Txt.join (mk []) (l.map fun c => mk [c]) = mk l := by
  show glued _ _ = _
  rw [StrLaws.glued_eq_join]
  have : ∀ l : List Nat, Str.join (mk []) (l.map fun c => mk [c]) = mk l := by
    intro l
    induction l with
    | nil => rfl
    | cons c r ih =>
      cases r with
      | nil => rfl
      | cons d r =>
        show mk [c] ++ mk [] ++ Str.join (mk []) ((d :: r).map fun c => mk [c]) = _
        rw [ih, mk_app, mk_app]; rfl
  exact this l
theorem join_ok {sep : Str} {texts : List Str} (hB : ∀ y ∈ texts, y.length ≤ 1) (hs : sep.length = 0) (h : texts.length ≤ 16777216) : JoinOk sep texts = true := by
  unfold JoinOk
  rw [Bool.not_eq_true', StrLaws.joinTotal]
  have := StrLaws.sumLen_le texts hB
  unfold tooLong
  rw [decide_eq_false_iff_not, sizeLine_eq, hs]
  omega
end Mine
end
section
set_option maxRecDepth 100000
set_option linter.unusedVariables false
namespace Mine
open PySem PySem.W PyProof.Rows PySem.Calls PySem.Spec

theorem code_184 (w : World) : ∃ d vs sl file tf flags tg inF text tt, (Kf w).lookup 184 = some ⟨.type "code", d, .fields vs, sl⟩ ∧ vs[11]? = some (.ref gP) ∧ vs.getD 11 .none = .ref gP ∧ vs.getD 18 .none = .str file tf ∧ vs.getD 7 .none = .int flags tg ∧ vs.getD 9 .none = .bool inF ∧ vs.getD 10 .none = .int text tt :=
  ⟨_, _, _, _, _, _, _, _, _, _, rfl, rfl, rfl, rfl, rfl, rfl, rfl⟩
theorem isCode_of {w : World} {h : Heap} (X : (Kf w).In h) (g : GI h) : ∃ ps, h.IsCode 184 gP ps ∧ h.TableAt 184 gP ps := by
  obtain ⟨ps, hp, ht⟩ := g
  obtain ⟨d, vs, sl, file, tf, flags, tg, inF, text, tt, h1, h2, h3, h4, h5, h6, h7⟩ := code_184 w
  have hc := X _ _ h1
  exact ⟨ps, ⟨_, vs, file, tf, flags, tg, inF, text, tt, _, hc, rfl, h3, h4, h5, h6, h7, hp, rfl, ht, by decide⟩, ⟨_, vs, hc, rfl, rfl, h2⟩, hp⟩
section
variable {C : Cx} {ρ : List (Str × Dat)}
theorem gen_code {A : Around} {env : Env} {s : Shared} {pos : Pos} {qn : Str} {scope : Scope} {Q : Value → Shared → Prop} {E : Value → Shared → Prop} (o : Ok C ρ s) (hc : env.code = .ref 184)
    (h : ∀ code s', St C s s' → s.heap.objs.size ≤ s'.heap.objs.size → Q code s') : wpAny C.M A (genexprCode env pos qn scope) Q E s := by
  obtain ⟨ps, h1, h2⟩ := isCode_of o.kin o.base.gi
  cases hf : codeAmong pos ps.toList with
  | some c' => exact wpAny_genexprCode_hit hc h1 hf (h _ _ (.refl o) (Nat.le_refl _))
  | none =>
    refine wpAny_genexprCodeX hc h1 h2 hf fun c' h' tk hx hge hlt hcode hrec htab _ => ?_
    refine h _ _ ⟨⟨fun b ob e p q => hx b ob p e, fun b m ⟨on, es, ep, e1, e2, e3⟩ hb => ⟨on, es, ep, hx b on (fun q => o.cx.gpf (q ▸ hb)) e1, e2, e3⟩⟩, ⟨o.base.wd, fun b ob e => hx b ob (fun q => ?_) (o.base.stay b ob e), ?_, o.base.bare, o.base.os⟩⟩ (Nat.le_trans hge (Nat.le_of_lt hlt))
    · rw [q, o.base.wd.nog] at e; cases e
    · obtain ⟨_, _, _, _, _, _, _, _, _, op, _, _, _, _, _, _, _, h10, h11, h12, _⟩ := hcode
      have e := htab.2
      rw [h10] at e
      cases e
      exact ⟨_, htab.2, h12⟩
end

abbrev pz : Nat → Bool := fun _ => true
theorem pass_len (n i : Nat) : (passing pz n i).length = n - i := by
  rw [passing, List.filter_eq_self.mpr (fun _ _ => rfl)]
  simp
section
variable {w : World} {A : Around} {F : List Addr} {elt iter : Expr} {x : Str} {px pos : Pos} {scope : Scope} {I : Addr} {fpI : List Addr} {ds : List Dat} {S : Nat → Heap → Prop} {cenv : Env} {sz : Nat} {href : Heap} {q : Nat → Bool}

abbrev loopC (elt iter : Expr) (x : Str) (px pos : Pos) (scope : Scope) (I : Addr) (cenv : Env) : Code := .compLoop (.GeneratorExp elt [⟨.Name x px, iter, [], 0⟩] scope pos) 0 (.ref I) .none cenv
abbrev startC (elt iter : Expr) (x : Str) (px pos : Pos) (scope : Scope) (I : Addr) (cenv : Env) : Code := .compStart (.GeneratorExp elt [⟨.Name x px, iter, [], 0⟩] scope pos) 0 (.ref I) .none cenv
abbrev RR (N I : Addr) : GenEnd := fun n s₀ r s₁ => r = .ok .next ∧ (n = 0 ∧ GenSince N [I] s₀ s₁)
abbrev YY (N I : Addr) (sz n : Nat) (q : Nat → Bool) : Protocol := genProto N (List.range sz) [I] pz n (fun i v => v = .bool (q i))
/-- what was there is there, but the iterator -/
def Kp' (sz : Nat) (I : Addr) (href h : Heap) : Prop := ∀ b ∈ List.range sz, b ≠ I → ∀ o, href.get? b = some o → h.get? b = some o

theorem gen_loop (W : ∀ A', A'.handled = A.handled → Wk w A' F I fpI ds S) (hx : cenv.kindOf x = some .local) (hkind : cenv.scope.kind = .function) (hco : cenv.scope.isCoroutine = false) (hN : cenv.locals ∉ List.range sz) (hIf : I ∈ fpI) (hfp : ∀ b ∈ fpI, b ∈ List.range sz)
    (hfl : ∀ d ∈ ds, d.flat = true) (hok : ∀ h, Kp' sz I href h → ∀ A', A'.handled = A.handled → HOk A' F h)
    (helt : ∀ (A' : Around) E' i d v (s₂ : Shared) m₂, ds[i]? = some d → Rep F s₂.heap v d → s₂.heap.Ns cenv.locals m₂ → m₂ x = some v → Kp' sz I href s₂.heap → wpAny (Mw w) A' (eval elt cenv) (fun y s₃ => y = .bool (q i) ∧ ∃ tk, s₃ = { s₂ with toks := tk }) E' s₂) :
    ∀ (k i : Nat) (s₀ s : Shared) (m : Str → Option Value), ds.length - i = k → i ≤ ds.length → S i s.heap → s.heap.Ns cenv.locals m → GenSince cenv.locals [I] s₀ s → Kp' sz I href s.heap →
      Seg (Mw w) A (RR cenv.locals I) (YY cenv.locals I sz ds.length q) (passing pz ds.length i).length s₀ (loopC elt iter x px pos scope I cenv) ((Mw w).den (loopC elt iter x px pos scope I cenv)) [] s := by
  have hNI : cenv.locals ≠ I := fun e => hN (e ▸ hfp I hIf)
  intro k
  induction k with
  | zero =>
    intro i s₀ s m hk hi hS hn hsince hkp
    have hin : i = ds.length := by omega
    subst hin
    show Seg _ A _ _ _ s₀ _ ((compTurn (.GeneratorExp elt [⟨.Name x px, iter, [], 0⟩] scope pos) 0 (.ref I) .none cenv).onRaise (leaving cenv)) [] s
    rw [compTurn_gen, Sem.onRaise_eq_wrap]
    refine seg_bind_wrap (wpAny_standAt ?_)
    refine seg_bind_wrap ((W (A.over (loopC elt iter x px pos scope I cenv) []) rfl).done s _ _ hS (hok _ hkp _ rfl) fun h' tk hk' => ?_)
    exact seg_end (.ok .next) ⟨rfl, by rw [passing_end]; rfl, hsince.step fun b o _ hw e => hk' b o (fun z => hw (by rw [z]; exact .head _)) e⟩
  | succ k ih =>
    intro i s₀ s m hk hi hS hn hsince hkp
    have hlt : i < ds.length := by omega
    show Seg _ A _ _ _ s₀ _ ((compTurn (.GeneratorExp elt [⟨.Name x px, iter, [], 0⟩] scope pos) 0 (.ref I) .none cenv).onRaise (leaving cenv)) [] s
    rw [compTurn_gen, Sem.onRaise_eq_wrap]
    refine seg_bind_wrap (wpAny_standAt ?_)
    refine seg_bind_wrap ((W (A.over (loopC elt iter x px pos scope I cenv) []) rfl).item i _ s _ _ hS (List.getElem?_eq_getElem hlt) fun v h₁ tk₁ rv hS₁ hk₁ => ?_)
    refine seg_bind_wrap (wpAny_of_eq (rfl : letOwnedTupleGo (.Name x px) (.ref I) v = pure ()) ?_)
    refine seg_bind_wrap (wpAny_assign_Name (wpAny_storeName_local hx (hn.at' fun o e => hk₁ _ o hNI e) (fun h₂ hn₂ hs₂ => ?_) (by rw [hkind]; rfl)))
    have up : ∀ b o, b ≠ cenv.locals → b ≠ I → s.heap.get? b = some o → h₂.get? b = some o := fun b o p r e => hs₂.extBut b o p (hk₁ b o r e)
    have hS₂ : S (i + 1) h₂ := (W A rfl).keep _ _ _ hS₁ fun b hb o e => hs₂.extBut b o (fun z => hN (z ▸ hfp b hb)) e
    have hkp₂ : Kp' sz I href h₂ := fun b hb p o e => up b o (fun z => hN (z ▸ hb)) p (hkp b hb p o e)
    rw [passing_true hlt rfl, List.length_cons]
    refine seg_bind_wrap ?_
    rw [List.forIn_nil]
    refine wpAny_pure ?_
    simp only [if_true]
    have hy : ∀ v, yieldOut cenv v = yieldValue v := fun v => by simp only [yieldOut, hco, Bool.false_eq_true, if_false]
    simp only [hy]
    rw [Sem.bind_eq_wrap', Sem.bind_eq_wrap', Sem.wrap_wrap, Sem.wrap_wrap]
    have hrv : Rep F h₂ v ds[i] := rv.flat (hfl _ (List.getElem_mem hlt))
    refine seg_wrap (wpAny_mono (helt _ _ i _ v _ _ (List.getElem?_eq_getElem hlt) hrv hn₂ (if_pos rfl) hkp₂) (fun y s₄ h₄ => ?_) fun _ _ e => e)
    obtain ⟨rfl, tk₄, rfl⟩ := h₄
    refine seg_at (seg_yield rfl rfl rfl ⟨⟨i, passing_here hlt rfl, rfl⟩, hsince.step fun b o p r e => up b o p (fun z => r (by rw [z]; exact .head _)) e, fun s'' hal => ?_⟩)
    refine seg_again rfl (ih (i + 1) s'' s'' _ (by omega) hlt ((W A rfl).keep _ _ _ hS₂ fun b hb o e => hal b (List.mem_cons_of_mem _ (hfp b hb)) o e)
      (hn₂.at' fun o e => hal _ (List.mem_cons_self ..) o e) (GenSince.refl _ _ _) fun b hb p o e => hal b (List.mem_cons_of_mem _ hb) o (hkp₂ b hb p o e))

theorem gen_start (W : ∀ A', A'.handled = A.handled → Wk w A' F I fpI ds S) (hx : cenv.kindOf x = some .local) (hkind : cenv.scope.kind = .function) (hco : cenv.scope.isCoroutine = false) (hN : cenv.locals ∉ List.range sz) (hIf : I ∈ fpI) (hfp : ∀ b ∈ fpI, b ∈ List.range sz)
    (hfl : ∀ d ∈ ds, d.flat = true) (hok : ∀ h, Kp' sz I href h → ∀ A', A'.handled = A.handled → HOk A' F h)
    (helt : ∀ (A' : Around) E' i d v (s₂ : Shared) m₂, ds[i]? = some d → Rep F s₂.heap v d → s₂.heap.Ns cenv.locals m₂ → m₂ x = some v → Kp' sz I href s₂.heap → wpAny (Mw w) A' (eval elt cenv) (fun y s₃ => y = .bool (q i) ∧ ∃ tk, s₃ = { s₂ with toks := tk }) E' s₂)
    (s₀ s : Shared) (m : Str → Option Value) (hS : S 0 s.heap) (hn : s.heap.Ns cenv.locals m) (hsince : GenSince cenv.locals [I] s₀ s) (hkp : Kp' sz I href s.heap) :
    Seg (Mw w) A (RR cenv.locals I) (YY cenv.locals I sz ds.length q) (passing pz ds.length 0).length s₀ (startC elt iter x px pos scope I cenv) ((Mw w).den (startC elt iter x px pos scope I cenv)) [] s := by
  have loop := gen_loop (elt := elt) (iter := iter) (px := px) (pos := pos) (scope := scope) W hx hkind hco hN hIf hfp hfl hok helt ds.length 0 s₀ s m (Nat.sub_zero _) (Nat.zero_le _) hS hn hsince hkp
  show Seg _ A _ _ _ s₀ _ ((compStart (.GeneratorExp elt [⟨.Name x px, iter, [], 0⟩] scope pos) 0 (.ref I) .none cenv).onRaise (leaving cenv)) [] s
  unfold compStart
  rw [Sem.onRaise_eq_wrap]
  show Seg _ A _ _ _ s₀ _ ((ask >>= _).wrap _ _ _ _) [] s
  refine seg_bind_wrap (wpAny_askSetting ?_)
  split
  · exact seg_again rfl loop
  · refine seg_bind_wrap (wpAny_rule ?_)
    show Seg _ A _ _ _ s₀ _ ((standAt iter.pos >>= _).wrap _ _ _ _) [] s
    exact seg_bind_wrap (wpAny_standAt (seg_bind_wrap ((W (A.over (startC elt iter x px pos scope I cenv) []) rfl).self 0 s _ _ hS (seg_again rfl loop))))

theorem gen_next {a g n : Nat} {gs : GenState} {P : Nat → Shared → Shared → Prop} {Y : Protocol} {s : Shared} {Q : Option Value → Shared → Prop} {E : Value → Shared → Prop} (hhok : ∀ s₁, P n (s.setGen g .running) s₁ → HOk A F s₁.heap)
    (hl : s.heap.NoLimit) (hroom : A.depth < recursionLimit) (hg : s.heap.IsGen a g) (hgs : s.gens[g]? = some gs)
    (hgo : gs.Goes (Mw w) A.in1 (fun n s₀ r s₁ => r = .ok .next ∧ P n s₀ s₁) Y n (.send .none) (s.setGen g .running))
    (hY : ∀ v s₁ gs', gs'.bare = true → Y (n - 1) (s.setGen g .running) v s₁ (fun r' s'' => match n with
        | 0 => False
        | m + 1 => gs'.Goes (Mw w) A.in1 (fun n s₀ r s₁ => r = .ok .next ∧ P n s₀ s₁) Y m r' s'') → Q (some v) (s₁.setGen g gs'))
    (hP : ∀ s₁, P n (s.setGen g .running) s₁ → ∀ h', (∀ b o, s₁.heap.get? b = some o → h'.get? b = some o) → Q none { s₁.setGen g .finished with heap := h' }) :
    wpAny (Mw w) A (pyNext (.ref a)) Q E s := by
  unfold pyNext
  refine wpAny_bind (wpAny_attempt (wpAny_callSpecial?_slot (name := Str.ofString "__next__") hg.typeIs slot_gen_next
    (wpAny_call_entry slot_gen_next hg.typeIs entry_gen_next ?_ (args_gen_next _))))
  show wpAny _ A.in1 (Builtin.Generator.genWake (.ref a) (.send .none)) _ _ s
  unfold Builtin.Generator.genWake
  refine wpAny_bind (wpAny_holding (wpAny_genNumber hg (wpAny_bind (wpAny_genState hgs ?_))))
  cases gs with
  | running => exact hgo.elim
  | finished => exact hgo.elim
  | _ =>
    refine wpAny_bind (wpAny_roomToWake hl hroom ?_)
    show wpAny _ A.in1 (.resume g (.send .none) [] _) _ _ s
    refine wpAny_resumeQ hgs hgo (fun x s₁ hx => ?_) fun v s₁ gs' hb hv => wpAny_pure ⟨v, rfl, wpAny_pure (hY v s₁ gs' hb hv)⟩
    obtain ⟨rfl, hp⟩ := hx
    show wpAny _ A.in1 (newExc (.type "StopIteration") [] >>= fun e => raiseNew e >>= _) _ _ _
    rw [← bind_assoc]
    refine wpAny_bind ?_
    have k : HOk A.in1 F (s₁.setGen g .finished).heap := hhok s₁ hp
    refine stop_raise (s := s₁.setGen g .finished) k fun h' e keep ⟨oe, he, hce⟩ => ?_
    exact wpAny_bind (wpAny_isInstance (T := "StopIteration") (b := true) ⟨oe, he, hce⟩ isSubtype_stop (wpAny_pure (hP s₁ hp h' keep)))
end
end Mine
end
section
set_option maxRecDepth 100000
set_option linter.unusedVariables false
namespace Mine
open PySem PySem.W PyProof.Rows PySem.Calls PySem.Spec

def Hx (A : Around) (sz : Nat) (I : Addr) : Prop := ∀ x, A.handled = some (.ref x) → x ∈ List.range sz ∧ x ≠ I
theorem hok_kp {A A' : Around} {F : List Addr} {sz : Nat} {I : Addr} {h h' : Heap} (k : HOk A F h) (hx : Hx A sz I) (kp : Kp' sz I h h') (e : A'.handled = A.handled) : HOk A' F h' := by
  rcases k with k | ⟨x, ox, vs, k1, k2, k3⟩
  · exact .inl (e.trans k)
  · obtain ⟨h1, h2⟩ := hx x k1
    exact .inr ⟨x, ox, vs, e.trans k1, kp x h1 h2 _ k2, k3⟩
def GS (w : World) (A : Around) (F : List Addr) (N I : Addr) (sz n : Nat) (q : Nat → Bool) (a : Addr) (g : Nat) (j : Nat) (s : Shared) : Prop :=
  s.heap.IsGen a g ∧ s.heap.NoLimit ∧ HOk A F s.heap ∧ ∃ gs, s.gens[g]? = some gs ∧ ∀ s'' : Shared, (∀ b ∈ N :: List.range sz, ∀ o, s.heap.get? b = some o → s''.heap.get? b = some o) →
    gs.Goes (Mw w) A.in1 (RR N I) (YY N I sz n q) (n - j) (.send .none) s''
section
variable {w : World} {A : Around} {F : List Addr} {N I a : Addr} {sz n g : Nat} {q : Nat → Bool}
theorem range_at {n j i : Nat} (h : (passing pz n 0)[j]? = some i) : i = j := by
  rw [passing, List.drop_zero, List.filter_eq_self.mpr (fun _ _ => rfl)] at h
  obtain ⟨hlt, e⟩ := List.getElem?_eq_some_iff.mp h
  simpa using e.symm
theorem gen_walks (haN : a ≠ N) (haf : a ∉ List.range sz) (hI : I ∈ List.range sz) (hN : N ∉ List.range sz) (hroom : A.depth < recursionLimit) (hcs : cStatics ∈ List.range sz) (hcI : cStatics ≠ I) (hx : Hx A sz I) :
    WalksS pw w A a (a :: N :: List.range sz) [N, I] (GenOnlyQ g) n (fun j y => y = .bool (q j)) (GS w A F N I sz n q a g) where
  sub := fun b hb => by
    simp only [List.mem_cons, List.not_mem_nil, or_false] at hb
    rcases hb with rfl | rfl
    · exact .tail _ (.head _)
    · exact .tail _ (.tail _ hI)
  grefl := fun _ => .inl rfl
  gtrans := fun _ _ _ x y => x.trans y
  frame := fun j s h' tk ⟨⟨o, nm, qn, ho, r⟩, ⟨mc, hns, hnn⟩, hk, gs, hgs, hgo⟩ _ hkeep =>
    ⟨⟨o, nm, qn, hkeep a (.head _) o ho, r⟩, ⟨mc, hns.at' fun o e => hkeep cStatics (.tail _ (.tail _ hcs)) o e, hnn⟩, hok_kp hk hx (fun b hb _ o e => hkeep b (.tail _ (.tail _ hb)) o e) rfl,
      gs, hgs, fun s'' hal => hgo s'' fun b hb o e => hal b hb o (hkeep b (.tail _ hb) o e)⟩
  item := fun j s Q E hj ⟨hg, hl, hk, gs, hgs, hgo⟩ hQ => by
    obtain ⟨m, hm⟩ : ∃ m, n - j = m + 1 := ⟨n - j - 1, by omega⟩
    rw [hm] at hgo
    refine wpAny_with_toks (Nat.le_refl s.toks) ?_
    refine gen_next (F := F) (P := fun n s₀ s₁ => n = 0 ∧ GenSince N [I] s₀ s₁) (n := m + 1) (fun s₁ hp => absurd hp.1 (Nat.succ_ne_zero m)) hl hroom hg hgs (hgo _ fun _ _ _ e => e) (fun v s₁ gs' hb hv => ?_) (fun s₁ hp h' hk => absurd hp.1 (Nat.succ_ne_zero m))
    obtain ⟨⟨i, hi, hF⟩, ⟨h₁, tk₁, rfl, hk₁⟩, hkap⟩ := hv
    have hidx : (passing pz n 0).length - 1 - (m + 1 - 1) = j := by rw [pass_len]; omega
    rw [hidx] at hi
    have hij := range_at hi
    subst hij
    intro htk
    have haI : a ≠ I := fun e => haf (e ▸ hI)
    have hcN : cStatics ≠ N := fun e => hN (e ▸ hcs)
    obtain ⟨o, nm, qn, ho, r⟩ := hg
    obtain ⟨mc, hns, hnn⟩ := hl
    refine hQ v _ hF ⟨⟨o, nm, qn, hk₁ a o haN (by simpa using haI) ho, r⟩, ⟨mc, hns.at' fun o e => hk₁ cStatics o hcN (by simpa using hcI) e, hnn⟩,
      hok_kp hk hx (fun b hb p o e => hk₁ b o (fun z => hN (z ▸ hb)) (by simpa using p) e) rfl, gs', setGen_self (gs := .running) (setGen_self hgs), fun s'' hal => ?_⟩
      ⟨fun b o hb e => hk₁ b o (fun h => hb (h ▸ .head _)) (fun h => hb (.tail _ h)) e, GenOnlyQ.of ((GenOnly.setGen s g .running).trans (GenOnly.setGen _ g gs')) (setGen_self (gs := .running) (setGen_self hgs)) hb, rfl, rfl, htk⟩
    have e : n - (i + 1) = m := by omega
    rw [e]
    exact hkap s'' hal
  done := fun s Q E ⟨hg, hl, hk, gs, hgs, hgo⟩ hQ => by
    rw [Nat.sub_self] at hgo
    refine wpAny_with_toks (Nat.le_refl s.toks) ?_
    refine gen_next (F := F) (P := fun n s₀ s₁ => n = 0 ∧ GenSince N [I] s₀ s₁) (n := 0) (fun s₁ hp => ?_) hl hroom hg hgs (hgo _ fun _ _ _ e => e) (fun v s₁ gs' hb hv => ?_) (fun s₁ hp h' hk' => ?_)
    · obtain ⟨_, h₁, tk₁, rfl, hk₁⟩ := hp
      exact hok_kp hk hx (fun b hb p o e => hk₁ b o (fun z => hN (z ▸ hb)) (by simpa using p) e) rfl
    · obtain ⟨_, _, hkap⟩ := hv
      exact False.elim (hkap s₁ fun _ _ _ e => e)
    · obtain ⟨_, h₁, tk₁, rfl, hk₁⟩ := hp
      intro htk
      exact hQ _ ⟨fun b o hb e => hk' b o (hk₁ b o (fun h => hb (h ▸ .head _)) (fun h => hb (.tail _ h)) e), GenOnlyQ.of ((GenOnly.setGen s g .running).trans (GenOnly.setGen _ g .finished)) (setGen_self (gs := .running) (setGen_self hgs)) rfl, rfl, rfl, htk⟩
  self := fun _ _ _ _ st hQ => wpAny_pyIter_gen st.1 hQ
end

section
variable {C : Cx} {ρ : List (Str × Dat)} {elt iter : Expr} {x : Str} {px pos : Pos} {scope : Scope} {cl : List (Str × Addr)} {ds : List Dat} {q : Nat → Bool}
/-- what the element shows, in the generator's frame -/
def EltOk (C : Cx) (elt : Expr) (x : Str) (scope : Scope) (cl : List (Str × Addr)) (ds : List Dat) (q : Nat → Bool) : Prop :=
  ∀ (A' : Around) E' (N : Addr) (code : Value) i d v (s₂ : Shared) m₂, ds[i]? = some d → Rep C.F s₂.heap v d → s₂.heap.Ns N m₂ → m₂ x = some v → Wd C.w C.G → C.G.StaysIn s₂.heap →
    wpAny C.M A' (eval elt (genEnv scope cl N code builtinsNs C.env)) (fun y s₃ => y = .bool (q i) ∧ ∃ tk, s₃ = { s₂ with toks := tk }) E' s₂

theorem gen_make {s : Shared} {Q : Value → Shared → Prop} {E : Value → Shared → Prop} (o : Ok C ρ s) (hn : 1 ≤ C.n) (hi : EvIt C ρ iter ds) (hfl : ∀ d ∈ ds, d.flat = true) (hcode : C.env.code = .ref 184)
    (hclos : closureFor scope C.env = pure cl) (helt : EltOk C elt x scope cl ds q)
    (h : ∀ a N I sz g s', St C s s' → s.heap.get? N = none → s.heap.get? I = none → a ≠ N → a ∉ List.range sz → I ∈ List.range sz → N ∉ List.range sz → cStatics ∈ List.range sz → cStatics ≠ I → Hx C.A sz I → GS C.w C.A.in1 C.F N I sz ds.length q a g 0 s' → Q (.ref a) s')
    (hE : ∀ e s', E e s' → E e s') (hcell : ∀ y ∈ scope.names, y.2 ≠ .cell := by decide) (h0 : scope.names.lookup (".0" : Str) = some NameKind.local := by rfl) (hx : scope.names.lookup x = some .local := by rfl) (hkind : scope.kind = .function := by rfl) (hco : scope.isCoroutine = false := by rfl)
    (hs : ∀ x, genFold iter C.env x = pure x := by intro _; rfl) :
    wpAny C.M C.A (eval (.GeneratorExp elt [⟨.Name x px, iter, [], 0⟩] scope pos) C.env) Q E s := by
  refine wpAny_GeneratorExp_make hco hclos hcell h0 hkind (by have := o.cx.depth; omega) (wpAny_mono (hi s o) (fun xv s1 h1 => wpAny_mono h1 (fun it s2 p => ?_) fun _ _ f => f.elim) fun _ _ f => f.elim) hs
  obtain ⟨I, fp, S, rfl, hW, hS, z2, hIn, hIs, hIf, hfp⟩ := p
  have W := hW C.A rfl
  have o2 := o.step z2
  refine ⟨o2.base.wd.nolimit.keeps o2.base.stay, gen_code o2 hcode fun code s4 z4 hsz => ?_⟩
  have o4 := o2.step z4
  obtain ⟨mg, bm, ob, B⟩ := o4.base.wd.bmod
  have B' := B.keeps o4.base.stay
  have hgl : C.env.globals = mainGlobals := o.cx.glob
  rw [hgl]
  refine wpAny_builtinsFor B'.ns B'.name B'.ne B'.obj B'.cls B'.dict B'.data ?_
  intro h' hn' hs'
  have hsize : h'.objs.size = s4.heap.objs.size + 1 := by rw [hs'.1, Heap.size_push]
  have keep' : ∀ b o, s4.heap.get? b = some o → h'.get? b = some o := fun b o e => hs'.extBut b o (Nat.ne_of_lt (Heap.lt_size e)) (Heap.get?_push_of_some _ e)
  obtain ⟨G, hG⟩ : ∃ G : Obj, G = { cls := .type "generator", data := .fields #[.int s4.gens.size 0, .str "<genexpr>" (s4.toks + 1), .str (C.env.qual ++ "<genexpr>") (s4.toks + 1 + 1)] } := ⟨_, rfl⟩
  rw [← hG]
  have keep5 : ∀ b o, s4.heap.get? b = some o → (h'.push G).get? b = some o := fun b o e => Heap.get?_push_of_some _ (keep' b o e)
  have hF := W.off I hIf
  have z24 := z2.trans z4
  have hfp4 : ∀ b ∈ fp, b ∈ List.range s4.heap.objs.size := fun b hb => List.mem_range.mpr (Nat.lt_of_lt_of_le (hfp b hb) hsz)
  have hS4 : S 0 s4.heap := W.keep _ _ _ hS fun b hb ob e => z4.gr.kc b ob e (W.off b hb).2 (W.off b hb).1
  have hhx : Hx C.A s4.heap.objs.size I := fun y hy => by
    rcases o.hok with c | ⟨x', ox, vs, c1, c2, _, _, c5, c6⟩
    · rw [c] at hy; cases hy
    · rw [c1] at hy; cases hy
      refine ⟨List.mem_range.mpr (Heap.lt_size (z24.gr.kc _ _ c2 c6 c5)), fun e => ?_⟩
      rw [e, hIn] at c2; cases c2
  have hcst : ∃ oc, C.G.get? cStatics = some oc := by
    obtain ⟨mc, ⟨oc, es, ep, e, _⟩, _⟩ := o.base.wd.nolimit
    exact ⟨oc, e⟩
  obtain ⟨oc, hoc⟩ := hcst
  have hcI : cStatics ≠ I := fun e => by
    have := o.base.stay _ _ hoc
    rw [e, hIn] at this; cases this
  have hNn : s.heap.get? s4.heap.objs.size = none := by
    obtain ⟨f1, f2⟩ := o4.fresh (Nat.le_refl _)
    exact get_none_of_gr z24.gr (none_size (Nat.le_refl _)) f1 f2
  have hgen : (h'.push G).IsGen h'.objs.size s4.gens.size := by subst hG; exact ⟨_, _, _, Heap.get?_push_size _ rfl, rfl, rfl, rfl⟩
  refine h h'.objs.size s4.heap.objs.size I s4.heap.objs.size s4.gens.size _ ⟨z24.gr.trans (.of_keep keep5), ⟨o4.base.wd, fun b ob e => keep5 b ob (o4.base.stay b ob e), o4.base.gi.keeps keep5, o4.base.bare.push rfl, o4.base.os⟩⟩ hNn hIn (by rw [hsize]; exact Nat.succ_ne_self _) (fun q => by have := List.mem_range.mp q; rw [hsize] at this; exact absurd this (Nat.not_lt.mpr (Nat.le_succ _))) (hfp4 I hIf) (fun q => Nat.lt_irrefl _ (List.mem_range.mp q))
    (List.mem_range.mpr (Heap.lt_size (o4.base.stay _ _ hoc))) hcI hhx ⟨hgen, o4.base.wd.nolimit.keeps fun b ob e => keep5 b ob (o4.base.stay b ob e), (o4.step (St.keeps (t := s4.toks) o4.base keep5)).hok, _, Array.getElem?_push_size .., fun s'' hal => ⟨rfl, ?_⟩⟩
  have hdl : (passing pz ds.length 0).length = ds.length - 0 := pass_len _ _
  rw [← hdl]
  have hhk : HOk C.A C.F s4.heap := o4.hok
  exact gen_start (F := C.F) (href := s4.heap) (q := q) (A := C.A.in1.in1) (cenv := genEnv scope cl s4.heap.objs.size code builtinsNs C.env) (fun A' hA => hW A' hA) hx hkind hco (fun q => Nat.lt_irrefl _ (List.mem_range.mp q)) hIf hfp4 hfl
    (fun h kp A' hA => hok_kp hhk hhx kp hA) (fun A' E' i d v s₂ m₂ hd rv hns hv hkp => helt A' E' _ code i d v s₂ m₂ hd rv hns hv o.base.wd fun b ob e => hkp b (List.mem_range.mpr (Heap.lt_size (o4.base.stay b ob e))) (fun q => by
      have := o.base.stay b ob e
      rw [q, hIn] at this; cases this) ob (o4.base.stay b ob e))
    s'' s'' _ (W.keep _ _ _ hS4 fun b hb ob e => hal b (.tail _ (hfp4 b hb)) ob (keep5 b ob e)) ((hn'.push G).at' fun ob e => hal _ (.head _) ob e) (GenSince.refl _ _ _) fun b hb p ob e => hal b (.tail _ hb) ob (keep5 b ob e)
end
end Mine
end
section
set_option maxRecDepth 100000
set_option linter.unusedVariables false
namespace Mine
open PySem PySem.W PyProof.Rows PySem.Calls PySem.Spec
section
variable {C : Cx} {ρ : List (Str × Dat)} {elt iter f : Expr} {x : Str} {px pos gpos : Pos} {scope : Scope} {cl : List (Str × Addr)} {ds : List Dat} {q : Nat → Bool}
theorem moved_st {s s' s'' : Shared} {N I : Addr} {g : Nat} (o : Ok C ρ s) (z : St C s s') (hN : s.heap.get? N = none) (hI : s.heap.get? I = none) (m : Moved [N, I] (GenOnlyQ g) s' s'') : St C s s'' := by
  have ne : ∀ b ob, s.heap.get? b = some ob → b ∉ [N, I] := fun b ob e q => by
    simp only [List.mem_cons, List.not_mem_nil, or_false] at q
    rcases q with rfl | rfl
    · rw [hN] at e; cases e
    · rw [hI] at e; cases e
  refine ⟨⟨fun b ob e p q => m.heap b ob (ne b ob e) (z.gr.kc b ob e p q), fun b n e hb => ?_⟩, ⟨z.base.wd, fun b ob e => m.heap b ob (ne b ob (o.base.stay b ob e)) (z.base.stay b ob e), ?_, m.gens.bare z.base.bare, m.os.trans z.base.os⟩⟩
  · obtain ⟨on, es, ep, e1, e2⟩ := z.gr.kf b n e hb
    obtain ⟨o0, _, _, e0, _⟩ := e
    exact ⟨on, es, ep, m.heap b on (ne b o0 e0) e1, e2⟩
  · obtain ⟨ps, p, t⟩ := z.base.gi
    obtain ⟨ps0, p0, _⟩ := o.base.gi
    exact ⟨ps, m.heap _ _ (ne _ _ p0) p, t⟩
theorem any_core {s : Shared} {v : Value} {id : String} (o : Ok C ρ s) (hn : 1 ≤ C.n) (hi : EvIt C ρ iter ds) (hfl : ∀ d ∈ ds, d.flat = true) (hcode : C.env.code = .ref 184)
    (hclos : closureFor scope C.env = pure cl) (helt : EltOk C elt x scope cl ds q) (r : Bool)
    (hcall : ∀ a N I sz g (s' : Shared), WalksS pw C.w C.A.in1 a (a :: N :: List.range sz) [N, I] (GenOnlyQ g) ds.length (fun j y => y = .bool (q j)) (GS C.w C.A.in1 C.F N I sz ds.length q a g) → GS C.w C.A.in1 C.F N I sz ds.length q a g 0 s' →
      ∀ (Q : Value → Shared → Prop) E, (∀ s'', Moved [N, I] (GenOnlyQ g) s' s'' → Q (.bool r) s'') → wpAny C.M C.A (call (.builtin id) [.ref a]) Q E s')
    (hcell : ∀ y ∈ scope.names, y.2 ≠ .cell := by decide) (h0 : scope.names.lookup (".0" : Str) = some NameKind.local := by rfl) (hx : scope.names.lookup x = some .local := by rfl) (hkind : scope.kind = .function := by rfl) (hco : scope.isCoroutine = false := by rfl)
    (hs : ∀ x, genFold iter C.env x = pure x := by intro _; rfl) :
    wpAny C.M C.A (callWith pos (.builtin id) [] (backTo pos (starEach [.GeneratorExp elt [⟨.Name x px, iter, [], 0⟩] scope gpos] C.env)) (backToKw pos (keywordEach [] C.env))) (fun v s' => St C s s' ∧ Rep C.F s'.heap v (.bool r)) (fun _ _ => False) s := by
  refine callWith_of (keywords := []) rfl (kp_builtin id) ?_
  rw [starEach_cons rfl]
  refine evalArgs_plain (Calls.spliced_cons (gen_make (q := q) o hn hi hfl hcode hclos helt (fun a N I sz g s' z hN hI haN haf hIr hNr hcs hcI hx st => Calls.spliced_nil ?_) (fun _ _ e => e) hcell h0 hx hkind hco hs))
  refine ⟨(o.step z).kin, ?_⟩
  exact hcall a N I sz g s' (gen_walks haN haf hIr hNr (by have := o.cx.depth; show C.A.depth < _; omega) hcs hcI hx) st _ _ fun s'' m => ⟨moved_st o z hN hI m, .bool r⟩
theorem ev_anyG (hf : Ev C ρ f (.cst (.builtin "any"))) (hn : 1 ≤ C.n) (hi : EvIt C ρ iter ds) (hfl : ∀ d ∈ ds, d.flat = true) (hcode : C.env.code = .ref 184)
    (hclos : closureFor scope C.env = pure cl) (helt : EltOk C elt x scope cl ds q)
    (hform : eval (.Call f [.GeneratorExp elt [⟨.Name x px, iter, [], 0⟩] scope gpos] [] pos) C.env = (do callWith pos (← eval f C.env) [] (backTo pos (starEach [.GeneratorExp elt [⟨.Name x px, iter, [], 0⟩] scope gpos] C.env)) (backToKw pos (keywordEach [] C.env))) := by rfl)
    (hcell : ∀ y ∈ scope.names, y.2 ≠ .cell := by decide) (h0 : scope.names.lookup (".0" : Str) = some NameKind.local := by rfl) (hx : scope.names.lookup x = some .local := by rfl) (hkind : scope.kind = .function := by rfl) (hco : scope.isCoroutine = false := by rfl)
    (hs : ∀ x, genFold iter C.env x = pure x := by intro _; rfl) :
    Ev C ρ (.Call f [.GeneratorExp elt [⟨.Name x px, iter, [], 0⟩] scope gpos] [] pos) (.bool ((List.range ds.length).any q)) := fun s o => by
  rw [hform]
  refine wpAny_bind (hf.to o (.refl o) fun v s1 o1 z1 _ r1 => ?_)
  have hv : v = .builtin "any" := by cases r1; rfl
  subst hv
  refine wpAny_mono (any_core (v := .none) o1 hn hi hfl hcode hclos helt _ (fun a N I sz g s' W st Q E k => ?_) hcell h0 hx hkind hco hs) (fun v s2 ⟨z2, r2⟩ => ⟨z1.trans z2, r2⟩) fun _ _ f => f
  exact call_any_walkS (W.self 0 _ _ _ st ⟨a, _, _, _, _, _, _, q, rfl, W, st, (fun i v s Q E hv hQ => by subst hv; exact wpAny_truthy_bool hQ), k⟩)
theorem ev_allG (hf : Ev C ρ f (.cst (.builtin "all"))) (hn : 1 ≤ C.n) (hi : EvIt C ρ iter ds) (hfl : ∀ d ∈ ds, d.flat = true) (hcode : C.env.code = .ref 184)
    (hclos : closureFor scope C.env = pure cl) (helt : EltOk C elt x scope cl ds q)
    (hform : eval (.Call f [.GeneratorExp elt [⟨.Name x px, iter, [], 0⟩] scope gpos] [] pos) C.env = (do callWith pos (← eval f C.env) [] (backTo pos (starEach [.GeneratorExp elt [⟨.Name x px, iter, [], 0⟩] scope gpos] C.env)) (backToKw pos (keywordEach [] C.env))) := by rfl)
    (hcell : ∀ y ∈ scope.names, y.2 ≠ .cell := by decide) (h0 : scope.names.lookup (".0" : Str) = some NameKind.local := by rfl) (hx : scope.names.lookup x = some .local := by rfl) (hkind : scope.kind = .function := by rfl) (hco : scope.isCoroutine = false := by rfl)
    (hs : ∀ x, genFold iter C.env x = pure x := by intro _; rfl) :
    Ev C ρ (.Call f [.GeneratorExp elt [⟨.Name x px, iter, [], 0⟩] scope gpos] [] pos) (.bool ((List.range ds.length).all q)) := fun s o => by
  rw [hform]
  refine wpAny_bind (hf.to o (.refl o) fun v s1 o1 z1 _ r1 => ?_)
  have hv : v = .builtin "all" := by cases r1; rfl
  subst hv
  refine wpAny_mono (any_core (v := .none) o1 hn hi hfl hcode hclos helt _ (fun a N I sz g s' W st Q E k => ?_) hcell h0 hx hkind hco hs) (fun v s2 ⟨z2, r2⟩ => ⟨z1.trans z2, r2⟩) fun _ _ f => f
  exact call_all_walkS (W.self 0 _ _ _ st ⟨a, _, _, _, _, _, _, q, rfl, W, st, (fun i v s Q E hv hQ => by subst hv; exact wpAny_truthy_bool hQ), k⟩)
/-- through the items -/
theorem any_idx {α : Type} (l : List α) (d : α) (p : α → Bool) : (List.range l.length).any (fun i => p (l.getD i d)) = l.any p := by
  rw [Bool.eq_iff_iff]
  simp only [List.any_eq_true, List.mem_range]
  constructor
  · rintro ⟨i, hi, h⟩
    refine ⟨l[i], List.getElem_mem hi, ?_⟩
    simpa [hi] using h
  · rintro ⟨y, hy, h⟩
    obtain ⟨i, hi, rfl⟩ := List.getElem_of_mem hy
    exact ⟨i, hi, by simpa [hi] using h⟩
theorem all_idx {α : Type} (l : List α) (d : α) (p : α → Bool) : (List.range l.length).all (fun i => p (l.getD i d)) = l.all p := by
  rw [Bool.eq_iff_iff]
  simp only [List.all_eq_true, List.mem_range]
  constructor
  · intro h y hy
    obtain ⟨i, hi, rfl⟩ := List.getElem_of_mem hy
    simpa [hi] using h i hi
  · intro h i hi
    simpa [hi] using h l[i] (List.getElem_mem hi)
end
end Mine
end
section
set_option maxRecDepth 100000
set_option linter.unusedVariables false
namespace Mine
open PySem PySem.W PyProof.Rows PySem.Calls PySem.Spec
section
variable {C : Cx} {ρ : List (Str × Dat)} {O : Out} {rest : List Stmt}
/-- a test that may end it -/
theorem xs_ifr {t : Expr} {b : Bool} {body : List Stmt} {pos : Pos} (h : Ts C ρ t b) (h1 : b = true → Xs C ρ body O) (h2 : b = false → Xs C ρ rest O) (hO : O.stops = true := by rfl) : Xs C ρ (.If t body [] pos :: rest) O := by
  cases b with
  | true => exact xs_stop (xt_if h h1 fun q => by cases q) hO
  | false => exact xs_cons (xt_if h (fun q => by cases q) fun _ => xs_nil) (h2 rfl)

-- the element of a generator, seen plainly
variable {w : World} {G : Heap} {env : Env} {A : Around} {E : Value → Shared → Prop} {s : Shared}
theorem raw_bi {x : Str} {v : Value} {pos : Pos} {Q : Value → Shared → Prop} (h : Bi x v) (W : Wd w G) (st : G.StaysIn s.heap) (hk : env.scope.kind = .function) (hg : env.globals = mainGlobals) (hb : env.builtins = builtinsNs) (hx : env.kindOf x = some .globalImplicit)
    (hQ : Q v s) (hd : (x == ("__debug__" : Str)) = false := by decide) : wpAny (Mw w) A (eval (.Name x pos) env) Q E s := by
  obtain ⟨mg, hmg⟩ := W.mg
  obtain ⟨mb, hmb, hb'⟩ := W.bn
  refine Name_function_global hk hx (loadGlobal_builtin (mg := mg) (mb := mb) ?_ (mg_none_of W.kin hmg (h.1 w)) ?_ ((hb' x h.2.2).trans h.2.1) hQ) hd
  · rw [hg]; exact hmg.keeps st
  · rw [hb]; exact hmb.keeps st
theorem raw_gl {x : Str} {v : Value} {pos : Pos} {Q : Value → Shared → Prop} (h : Gl x v) (W : Wd w G) (st : G.StaysIn s.heap) (hk : env.scope.kind = .function) (hg : env.globals = mainGlobals) (hx : env.kindOf x = some .globalImplicit)
    (hQ : Q v s) (hd : (x == ("__debug__" : Str)) = false := by decide) : wpAny (Mw w) A (eval (.Name x pos) env) Q E s := by
  obtain ⟨mg, hmg⟩ := W.mg
  refine Name_function_global hk hx (loadGlobal_global (mg := mg) ?_ (mg_of W.kin hmg (h w)) hQ) hd
  rw [hg]; exact hmg.keeps st
theorem raw_loc {x : Str} {v : Value} {m : Str → Option Value} {pos : Pos} {Q : Value → Shared → Prop} (hk : env.scope.kind = .function) (hx : env.kindOf x = some .local) (hn : s.heap.Ns env.locals m) (hv : m x = some v)
    (hQ : Q v s) (hd : (x == ("__debug__" : Str)) = false := by decide) : wpAny (Mw w) A (eval (.Name x pos) env) Q E s := wpAny_Name (wpAny_loadName_local hk hx hn hv hQ) hd
theorem raw_ord {x : Str} {c : Nat} {t : Tok} {m : Str → Option Value} {p q pos : Pos} {Q : Value → Shared → Prop} (W : Wd w G) (st : G.StaysIn s.heap) (hk : env.scope.kind = .function) (hg : env.globals = mainGlobals) (hb : env.builtins = builtinsNs) (ho : env.kindOf "ord" = some .globalImplicit)
    (hx : env.kindOf x = some .local) (hn : s.heap.Ns env.locals m) (hv : m x = some (.str ⟨#[c]⟩ t)) (hQ : Q (.int c s.toks) { s with toks := s.toks + 1 })
    (hd : (x == ("__debug__" : Str)) = false := by decide) : wpAny (Mw w) A (eval (.Call (.Name "ord" p) [.Name x q] [] pos) env) Q E s := by
  show wpAny _ _ (do callWith pos (← eval (.Name "ord" p) env) [] (backTo pos (starEach [.Name x q] env)) (backToKw pos (keywordEach [] env))) _ _ _
  refine wpAny_bind (raw_bi bi_ord W st hk hg hb ho ?_)
  refine Calls.callWith_builtin rfl (Calls.evalArgs_plain (Calls.spliced_cons (raw_loc hk hx hn hv (Calls.spliced_nil ?_) hd)))
  exact PySem.P.ord_of_char hQ
end
end Mine
end
section
set_option maxRecDepth 100000
set_option linter.unusedVariables false
namespace Mine
open PySem PySem.W PyProof.Rows PySem.Calls PySem.Spec
section
variable {C : Cx} {ρ ρc : List (Str × Dat)} {O : Out} {rest : List Stmt}
/-- name = [comprehension], the name taking it before the frame goes -/
theorem xt_assignComp {α : Type} {elt iter : Expr} {x y : Str} {px py pos spos : Pos} {cl : List (Str × Addr)} {scope : Scope} (xs : List α) (g h : α → Dat) (hinj : ∀ a b, g a = g b → a = b) (hi : EvIt C ρ iter (xs.map g))
    (hff : ∀ a, (g a).flat = true) (hfo : ∀ a, (h a).flat = true) (hz : xs.length ≤ sizeLine)
    (helt : ∀ N, ∀ a ∈ xs, Ev (C.comp scope cl N) ((x, g a) :: ρc) elt (h a)) (hf : FreeOk C scope cl ρ ρc) (hclos : closureFor scope C.env = pure cl)
    (hsw : swapsWith (.ListComp elt [⟨.Name x px, iter, [], 0⟩] scope pos) (some (.Name y py)) spos.line C.env = pure true := by rfl) (hy : C.env.kindOf y = some .local := by rfl)
    (hcell : ∀ y ∈ scope.names, y.2 ≠ .cell := by decide) (hkind : scope.kind = .function := by rfl) (hnames : ∀ y ∈ scope.names, y.2 = .local → scope.names.lookup y.1 = some .local := by decide) (hx : scope.names.lookup x = some .local := by rfl)
    (hs : ∀ y, foldedSetIterable iter C.env y = pure y := by intro _; rfl) :
    Xt C ρ (.Assign [.Name y py] (.ListComp elt [⟨.Name x px, iter, [], 0⟩] scope pos) spos) (.next (upd ρ y (.list (xs.map h)))) := fun s b o => by
  have key : ∀ d, ∃ e : Dat, e.flat = true ∧ ∀ a, g a = d → e = h a := fun d => by
    by_cases q : ∃ a, g a = d
    · obtain ⟨a, rfl⟩ := q
      exact ⟨h a, hfo a, fun b e => by rw [hinj _ _ e]⟩
    · exact ⟨.none, rfl, fun a e => absurd ⟨a, e⟩ q⟩
  have hf' : ∀ d, (Classical.choose (key d)).flat = true := fun d => (Classical.choose_spec (key d)).1
  have hg : ∀ a, Classical.choose (key (g a)) = h a := fun a => (Classical.choose_spec (key (g a))).2 a rfl
  have eqm : List.map (fun d => Classical.choose (key d)) (xs.map g) = xs.map h := by
    rw [List.map_map]; exact List.map_congr_left fun a _ => hg a
  rw [exec_Assign_Name_used _ _ _ _ hsw]
  refine wpAny_bind (wpAny_standAt (wpAny_bind ?_))
  show wpAny _ _ (do let _ ← comprehension (.ListComp elt [⟨.Name x px, iter, [], 0⟩] scope pos) scope C.env _ (newList []) false (eval iter C.env) (some (assign (.Name y py) C.env))) _ _ s
  refine wpAny_bind (wpAny_mono (comp_core (x := x) (px := px) (cl := cl) (ρc := ρc) (f := fun d => Classical.choose (key d)) (use := some (assign (.Name y py) C.env)) (Q := fun _ s' => Post C (.next (upd ρ y (.list (xs.map h)))) .next s' ∧ Kpt C s s') (E := PostE C (.next (upd ρ y (.list (xs.map h))))) o hi (fun d hd => by obtain ⟨a, _, rfl⟩ := List.mem_map.mp hd; exact hff a) (fun d hd => hf' d)
    (by rw [List.length_map]; exact hz) hclos hcell hkind hnames hx hf (fun N d hd => by
      obtain ⟨a, ha, rfl⟩ := List.mem_map.mp hd
      show Ev _ _ _ (Classical.choose (key (g a)))
      rw [hg a]
      exact helt N a ha) hs fun v N s' m z r hn hN hne => ?_) (fun _ s' hq => wpAny_pure (wpAny_pure hq)) fun _ _ f => f)
  rw [eqm] at r
  show wpAny _ _ (assign (.Name y py) C.env v) _ _ _
  have o' := o.step z
  obtain ⟨mL, hmL⟩ := o'.ns
  have hLs : ∃ ob, s.heap.get? C.env.locals = some ob := by
    obtain ⟨_, ⟨ob, _, _, e, _⟩⟩ := o.ns
    exact ⟨ob, e⟩
  have hLN : C.env.locals ≠ N := fun q => by
    obtain ⟨ob, e⟩ := hLs
    rw [q, hN] at e; cases e
  refine wpAny_assign_Name (wpAny_storeName_local hy hmL (fun h2 hn2 sb => ?_) (by rw [o.cx.kind]; rfl))
  refine ⟨m, hn.sameBut sb (Ne.symm hLN), fun h3 sb3 => ?_⟩
  have zh : St C s { s' with heap := s'.heap.hide N } := St.but (s1 := s') (t := s'.toks) o z hN fun b ob p e => (Heap.hide_ne s'.heap p).trans e
  have oh := o.step zh
  have keep : ∀ b ob, b ≠ C.env.locals → (s'.heap.hide N).get? b = some ob → h3.get? b = some ob := fun b ob p e => by
    have hb : b ≠ N := fun q => by rw [q, Heap.hide_self] at e; cases e
    exact sb3.extBut b ob hb (sb.extBut b ob p ((Heap.hide_ne s'.heap hb).symm.trans e))
  have rh : Rep C.F (s'.heap.hide N) v (.list (xs.map h)) := by
    cases r with
    | list hl f1 f2 q =>
      obtain ⟨ol, hol, hr⟩ := id hl
      refine .list ⟨ol, (Heap.hide_ne s'.heap (hne _ _ rfl hl)).trans hol, hr⟩ f1 f2 (q.flat fun d hd => ?_)
      obtain ⟨a, _, rfl⟩ := List.mem_map.mp hd
      exact hfo a
  obtain ⟨mh, hmh⟩ := oh.ns
  have emh : mh = mL := by
    obtain ⟨on, es, ep, e1, e2⟩ := hmh
    exact ns_unique (h := s'.heap) (a := C.env.locals) ⟨on, es, ep, (Heap.hide_ne s'.heap hLN).symm.trans e1, e2⟩ hmL
  subst emh
  obtain ⟨ok, kp⟩ := Ok.store (t := s'.toks + 1) b oh hy hmh rh (hn2.sameBut sb3 hLN) keep
  exact ⟨⟨rfl, ok⟩, (zh.kpt o).trans kp⟩
end
end Mine
end
section
set_option maxRecDepth 100000
set_option linter.unusedVariables false
namespace Mine
open PySem PySem.W PyProof.Rows PySem.Calls PySem.Spec
section
variable {C : Cx} {ρ : List (Str × Dat)} {O : Out} {rest : List Stmt}
theorem xs_name {x : Str} {ds : List Dat} (hm : (x, .list ds) ∈ ρ) (h : ∀ l, Xs C (upd ρ x (.own l false ds)) rest O) : Xs C ρ rest O := fun s b o => by
  obtain ⟨v, hl, r⟩ := o.loc _ hm
  cases r with
  | @list l vs _ h1 h2 h3 h4 =>
    refine h l s b { o with loc := fun p hp => ?_ }
    rcases List.mem_cons.mp hp with rfl | hp
    · exact ⟨_, hl, .own h1 (fun q => by cases q) h2 h3 h4⟩
    · exact o.loc p (List.mem_filter.mp hp).1
theorem xs_newlist {x : Str} {px lp pos : Pos} (h : ∀ a, (∀ y l p es, (y, Dat.own l p es) ∈ ρ → a ≠ l) → C.h₀.get? a = none → Xs C (upd ρ x (.own a true [])) rest O) (hk : C.env.kindOf x = some .local := by rfl)
    (hs : swapsWith (.List [] lp) (some (.Name x px)) pos.line C.env = pure false := by rfl) : Xs C ρ (.Assign [.Name x px] (.List [] lp) pos :: rest) O := fun s b o => by
  refine wpAny_execs_cons (wpAny_Assign_Name (List_ (Calls.spliced_nil (wpAny_newObj_type ?_ (by show ([] : List Value).toArray.size ≤ sizeLine; exact Nat.zero_le _)))) hs)
  obtain ⟨f1, f2⟩ := o.fresh (Nat.le_refl _)
  have z : St C s { s with heap := s.heap.push { cls := .type "list", data := .seq ([] : List Value).toArray } } := .push' o.base _
  have o1 := o.step z
  have hget := Heap.get?_push_size s.heap (o := { cls := .type "list", data := .seq ([] : List Value).toArray }) rfl
  have r : Rep C.F (s.heap.push { cls := .type "list", data := .seq ([] : List Value).toArray }) (.ref s.heap.objs.size) (.own s.heap.objs.size true []) :=
    .own ⟨_, hget, rfl, _, rfl⟩ (fun _ => ⟨_, _, hget, rfl, rfl, rfl⟩) f1 f2 .nil
  obtain ⟨m, hm⟩ := o1.ns
  refine wpAny_storeName_local hk hm (fun h' hn sb => ?_) (by rw [o.cx.kind]; rfl)
  obtain ⟨ok, kp⟩ := Ok.store (t := s.toks + 1) b o1 hk hm r hn sb.extBut
  refine wpAny_mono (h s.heap.objs.size (fun y l p es hm q => ?_) (old_none o (none_size (Nat.le_refl _)) f1 f2) _ b ok) (fun _ _ ⟨p, q⟩ => ⟨p, ((z.kpt o).trans kp).trans q⟩) fun _ _ x => x
  · obtain ⟨v, _, r⟩ := o.loc _ hm
    cases r with
    | own hl _ _ _ _ => exact absurd (IsList.lt hl) (Nat.not_lt.mpr (Nat.le_of_eq q))
/-- one list of the body's own grows -/
theorem Ok.grow {s : Shared} {x : Str} {a : Addr} {ds : List Dat} {d : Dat} {v : Value} {vs : List Value} {h' : Heap} {t : Nat} (o : Ok C ρ s) (hm : (x, .own a true ds) ∈ ρ) (hk : C.env.kindOf x = some .local) (hl : PlainL s.heap a vs.toArray) (haF : a ∉ C.F) (haG : a ≠ gP) (hr : Reps C.F s.heap vs ds) (hv : Rep C.F s.heap v d) (hd : d.flat = true) (hfl : ∀ d ∈ ds, d.flat = true)
    (ha : a ∉ C.kept) (hnew : C.h₀.get? a = none) (hoth : ∀ p ∈ ρ, p.1 ≠ x → p.2.flat = true ∨ ∃ l q es, p.2 = .own l q es ∧ l ≠ a ∧ ∀ d ∈ es, d.flat = true) (hlook : ∃ m, s.heap.Ns C.env.locals m ∧ m x = some (.ref a))
    (hl' : PlainL h' a (vs ++ [v]).toArray) (k : ∀ b o, b ≠ a → s.heap.get? b = some o → h'.get? b = some o) : Ok C (upd ρ x (.own a true (ds ++ [d]))) { s with heap := h', toks := t } ∧ Kpt C s { s with heap := h', toks := t } := by
  obtain ⟨oa, na, e1, e2, e3, e4⟩ := id hl
  have hns : ∀ b m, s.heap.Ns b m → h'.Ns b m := fun b m ⟨on, es, ep, q1, q2, q3⟩ => ⟨on, es, ep, k _ _ (fun q => by subst q; rw [e1] at q1; cases q1; rw [e4] at q2; cases q2) q1, q2, q3⟩
  have hcell : ∀ c v, s.heap.IsCell c v → h'.IsCell c v := fun c v ⟨oc, q1, q2⟩ => ⟨oc, k _ _ (fun q => by subst q; rw [e1] at q1; cases q1; rw [e4] at q2; cases q2) q1, q2⟩
  refine ⟨⟨o.cx, ⟨o.base.wd, fun b ob e => k b ob (fun q => ?_) (o.base.stay b ob e), ?_, o.base.bare, o.base.os⟩, ⟨fun b ob e p q => k b ob (fun z => ?_) (o.gr.kc b ob e p q), fun b m e hm => hns _ _ (o.gr.kf b m e hm)⟩, ?_, ?_, ?_, ?_, ?_⟩, ?_⟩
  · have := o.cx.gst b ob e
    rw [q, hnew] at this; cases this
  · obtain ⟨ps, p, q⟩ := o.base.gi
    exact ⟨ps, k _ _ (Ne.symm haG) p, q⟩
  · rw [z, hnew] at e; cases e
  · intro env he
    obtain ⟨h1, L, h2, h3, m, hm⟩ := o.ff env he
    exact ⟨h1, L, h2, h3, m, hns _ _ hm⟩
  · rcases o.hok with q | ⟨x', ox, ws, h1, h2, h3, h4⟩
    · exact .inl q
    · exact .inr ⟨x', ox, ws, h1, k _ _ (fun z => by rw [z, e1] at h2; cases h2; rw [e4] at h3; cases h3) h2, h3, h4⟩
  · obtain ⟨m, hm⟩ := o.ns
    exact ⟨m, hns _ _ hm⟩
  · intro p hp
    obtain ⟨v, hv⟩ := o.cel p hp
    exact ⟨v, hcell _ _ hv⟩
  · intro p hp
    rcases List.mem_cons.mp hp with rfl | hp
    · obtain ⟨m, hm1, hm2⟩ := hlook
      refine ⟨.ref a, .inl ⟨hk, m, hns _ _ hm1, hm2⟩, .own hl'.isList (fun _ => hl') haF haG ((hr.flat hfl).append (.cons (hv.flat hd) .nil))⟩
    · obtain ⟨hp, hne⟩ := List.mem_filter.mp hp
      obtain ⟨u, hu, ru⟩ := o.loc p hp
      have hne' : p.1 ≠ x := by simpa using hne
      refine ⟨u, ?_, ?_⟩
      · rcases hu with ⟨h1, m, h2, h3⟩ | ⟨h1, c, h2, h3, h4⟩
        · exact .inl ⟨h1, m, hns _ _ h2, h3⟩
        · exact .inr ⟨h1, c, h2, hcell _ _ h3, h4⟩
      · rcases hoth p hp hne' with hf | ⟨l, q, es, e, hla, hes⟩
        · exact ru.flat hf
        · rw [e] at ru ⊢
          cases ru with
          | own g1 g2 g3 g4 g5 =>
            obtain ⟨ol, hol, hr⟩ := g1
            refine .own ⟨ol, k _ _ hla hol, hr⟩ (fun z => ?_) g3 g4 (g5.flat hes)
            obtain ⟨o', n', q1, q2⟩ := g2 z
            exact ⟨o', n', k _ _ hla q1, q2⟩
  · intro b hb ob e
    exact k b ob (fun z => ha (z ▸ hb)) e
theorem xt_append {x : Str} {a : Addr} {ds : List Dat} {d : Dat} {e : Expr} {np apos cpos pos : Pos} (hm : (x, .own a true ds) ∈ ρ) (h : Ev C ρ e d) (hd : d.flat = true) (hfl : ∀ d ∈ ds, d.flat = true) (ha : a ∉ C.kept) (hnew : C.h₀.get? a = none)
    (hoth : ∀ p ∈ ρ, p.1 ≠ x → p.2.flat = true ∨ ∃ l q es, p.2 = .own l q es ∧ l ≠ a ∧ ∀ d ∈ es, d.flat = true) (hsz : ds.length ≤ 1000000) (hk : C.env.kindOf x = some .local := by rfl) (hst : notStar e = true := by rfl)
    (hline : (apos.endLine == cpos.line) = true := by rfl) (hbase : attributeBase (.Name x np) "append" C.env (eval (.Name x np) C.env) = eval (.Name x np) C.env := by rfl)
    (hi : interactive C.env = false := by rfl) (hs : swapsWith (.Call (.Attribute (.Name x np) "append" apos) [e] [] cpos) none pos.line C.env = pure false := by rfl) (hn : (x == ("__debug__" : Str)) = false := by decide) :
    Xt C ρ (.Expr (.Call (.Attribute (.Name x np) "append" apos) [e] [] cpos) pos) (.next (upd ρ x (.own a true (ds ++ [d])))) := fun s b o => by
  obtain ⟨v, hl, r⟩ := o.loc _ hm
  rcases hl with ⟨_, m, hm1, hm2⟩ | ⟨hc, _⟩
  · cases r with
    | @own _ _ vs _ g1 g2 g3 g4 g5 =>
      refine wpAny_Expr (wpAny_Call_append hbase ?_ hline (by rw [starEach_cons hst]; rfl) (wpAny_Name (wpAny_loadName_local o.cx.kind hk hm1 hm2 ?_) hn)) hi hs
      · rw [starEach_cons hst]; rfl
      · refine ⟨a, vs.toArray, rfl, g2 rfl, h.to o (.refl o) fun y s1 o1 z1 y1 r1 => ?_⟩
        have gl := PlainL.gr y1.gr (g2 rfl) g3 g4
        refine list_append_plainL gl (fun h' hl' sb => ?_) (by rw [List.size_toArray, g5.length, sizeLine_eq]; omega)
        have e : vs.toArray.push y = (vs ++ [y]).toArray := by simp
        rw [e] at hl'
        obtain ⟨ok, kp⟩ := Ok.grow (t := s1.toks) o1 hm hk gl g3 g4 (g5.gr y1.gr) r1 hd hfl ha hnew hoth ⟨m, y1.gr.ns hm1 o.cx.loc, hm2⟩ hl' sb.extBut
        exact ⟨⟨rfl, ok⟩, (y1.kpt o).trans kp⟩
  · rw [hk] at hc; rcases hc with hc | hc <;> cases hc
end
end Mine
end
section
set_option maxRecDepth 100000
set_option linter.unusedVariables false
namespace Mine
open PySem PySem.W PyProof.Rows PySem.Calls PySem.Spec
section
variable {C : Cx} {ρ : List (Str × Dat)}
theorem evItX_own {x : Str} {l : Addr} {p : Bool} {ds : List Dat} {pos : Pos} (hm : (x, .own l p ds) ∈ ρ) (hf : ∀ d ∈ ds, d.flat = true) (hd : (x == ("__debug__" : Str)) = false ∧ (x == ("__classdict__" : Str)) = false := by decide) : EvItX C ρ (.Name x pos) ds (· = l) := fun s o => by
  obtain ⟨v, h1, r⟩ := o.loc _ hm
  cases r with
  | @own _ _ vs _ hl _ m p q =>
  refine wpAny_Name (load_look o.cx.kind h1 ?_ hd.2) hd.1
  obtain ⟨f1, f2⟩ := o.fresh (Nat.le_refl _)
  have hlt := IsList.lt hl
  refine wpAny_pyIter_list hl ⟨s.heap.objs.size, [s.heap.objs.size, l], _, rfl, fun A hA => wk_list (vs := vs) hf (Nat.ne_of_lt hlt) f1 f2 m p (fun x e => held_old o (Nat.le_refl _) x (hA ▸ e)), ⟨⟨_, Heap.get?_push_size _ rfl, rfl, rfl⟩, hl.push _, q.flat hf⟩, .push' o.base _, none_size (Nat.le_refl _), ?_, .head _, ?_, ?_⟩
  · show _ < (Heap.push _ _).objs.size; rw [Heap.size_push]; exact Nat.lt_succ_self _
  · intro b hb
    show _ < (Heap.push _ _).objs.size
    rw [Heap.size_push]
    simp only [List.mem_cons, List.not_mem_nil, or_false] at hb
    rcases hb with rfl | rfl
    · exact Nat.lt_succ_self _
    · exact Nat.lt_succ_of_lt hlt
  · intro b hb
    simp only [List.mem_cons, List.not_mem_nil, or_false] at hb
    rcases hb with rfl | rfl
    · exact .inr (none_size (Nat.le_refl _))
    · exact .inl rfl
theorem evItX_bytes {e : Expr} {b : Array UInt8} (h : Ev C ρ e (.bytes b)) (hh : C.A.handled = none) : EvItX C ρ e (byteInts b) (fun _ => False) := fun s o =>
  h.to o (.refl o) fun v s1 o1 z1 _ r1 => by
    cases r1
    obtain ⟨f1, f2⟩ := o1.fresh (Nat.le_refl _)
    have hn := get_none_of_gr z1.gr (none_size (Nat.le_refl _)) f1 f2
    refine KBw.pyIter_bytes ⟨s1.heap.objs.size, [s1.heap.objs.size], _, rfl, fun A hA => wk_bytes (hA.trans hh) f1 f2, ⟨_, Heap.get?_push_size _ rfl, rfl, rfl⟩, z1.trans (.push' o1.base _), hn, one_fp.1, .head _, one_fp.2, fun b hb => .inr ?_⟩
    rw [List.mem_singleton.mp hb]; exact hn
end
end Mine
end
section
set_option maxRecDepth 100000
set_option linter.unusedVariables false
namespace Mine
open PySem PySem.W PyProof.Rows PySem.Calls PySem.Spec
section
variable {prog : Program} {w : World} {A : Around} {E : Value → Shared → Prop} {s : Shared}
theorem tuple_end {F : List Addr} {it l : Addr} {i : Nat} {items : Array Value} {Q : Option Value → Shared → Prop} (k : HOk A F s.heap) (hi : ∀ x, A.handled = some (.ref x) → x ≠ it) (hit : s.heap.IsTupleIter it l i) (hl : s.heap.IsTuple l items) (hx : items[i]? = none)
    (hQ : ∀ h', (∀ b o, b ≠ it → s.heap.get? b = some o → h'.get? b = some o) → Q none { s with heap := h' }) : wpAny (model prog w) A (pyNext (.ref it)) Q E s := by
  obtain ⟨o, ho, hc, hd⟩ := id hit
  obtain ⟨ol, hol, _, nl, hdl⟩ := hl
  unfold pyNext
  refine wpAny_bind (wpAny_attempt (wpAny_callSpecial?_slot (name := Str.ofString "__next__") hit.typeIs PySem.F.slot_tuple_iterator_next
    (wpAny_call_entry PySem.F.slot_tuple_iterator_next hit.typeIs PySem.F.entry_tuple_iterator_next ?_ (PySem.F.args_tuple_iterator_next_1 _))))
  show wpAny _ _ (field (.ref it) 0 >>= _) _ _ s
  refine wpAny_bind (wpAny_field ho hd (x := .ref l) rfl ?_)
  show wpAny _ _ (if (Value.ref l == Value.none) = true then _ else _) _ _ s
  rw [if_neg (show ¬ ((Value.ref l == Value.none) = true) from Bool.false_ne_true)]
  show wpAny _ _ (field (.ref it) 1 >>= _) _ _ s
  refine wpAny_bind (wpAny_field ho hd (x := .int i 0) rfl ?_)
  show wpAny _ _ (seqItems? (.ref l) >>= _) _ _ s
  refine wpAny_bind (wpAny_seqItems hol hdl ?_)
  simp only [Int.toNat_natCast, hx]
  refine wpAny_bind (wpAny_rule (wpAny_bind (wpAny_setField ho hd (by simp) ?_)))
  have k' : HOk A.in1 F (s.heap.update it (Obj.mapFields (·.setIfInBounds 0 Value.none))) := by
    rcases k with k | ⟨x, ox, vs, k1, k2, k3, k4, k5⟩
    · exact .inl k
    · exact .inr ⟨x, ox, vs, k1, (Heap.get?_update_other _ _ (Ne.symm (hi x k1))).trans k2, k3, k4, k5⟩
  refine stop_raise (s := { s with heap := s.heap.update it (Obj.mapFields (·.setIfInBounds 0 Value.none)) }) k' fun h' e keep ⟨oe, he, hce⟩ => ?_
  exact wpAny_bind (wpAny_isInstance (T := "StopIteration") (b := true) ⟨oe, he, hce⟩ isSubtype_stop (wpAny_pure (hQ h' fun b o hb e => keep b o ((Heap.get?_update_other _ _ (Ne.symm hb)).trans e))))
end
section
variable {C : Cx} {ρ : List (Str × Dat)}
theorem items_tup {s : Shared} {t : Addr} {vs : List Value} {Q : List Value → Shared → Prop} {E : Value → Shared → Prop} (o : Ok C ρ s) (ht : s.heap.IsTuple t vs.toArray) (hQ : ∀ h', (∀ b ob, s.heap.get? b = some ob → h'.get? b = some ob) → Q vs { s with heap := h' }) :
    wpAny C.M C.A (unpackItems (.ref t) vs.length none) Q E s := by
  have hlt : t ≠ s.heap.objs.size := by obtain ⟨ob, ho, _⟩ := ht; exact Nat.ne_of_lt (Heap.lt_size ho)
  have hsz : vs.length = vs.toArray.size := by simp
  unfold unpackItems
  refine wpAny_bind ?_
  unfold notIterableAtAll
  refine wpAny_bind (wpAny_specialOf ht.typeIs F.slot_tuple_iter.lookup ?_)
  refine wpAny_pure ?_
  simp only [Bool.false_eq_true, if_false]
  refine wpAny_bind (wpAny_holding (wpAny_pyIter_tuple ht ?_))
  rw [hsz]
  refine wpAny_bind (wpAny_holding (wpAny_draw_tuple hlt vs.toArray.size 0 _ _ ⟨_, Heap.get?_push_size _ rfl, rfl, rfl⟩ (ht.push _) (by omega) fun h₁ hit₁ hs₁ => ?_))
  have hall : List.take vs.toArray.size (List.drop 0 vs.toArray.toList) = vs := by
    rw [List.drop_zero]; simp
  rw [hall, if_neg (by simp)]
  have ht₁ : h₁.IsTuple t vs.toArray := (ht.push _).extBut hs₁.extBut hlt
  have old : ∀ b ob, s.heap.get? b = some ob → h₁.get? b = some ob := fun b ob e => hs₁.extBut b ob (Nat.ne_of_lt (Heap.lt_size e)) (Heap.get?_push_of_some _ e)
  have k : HOk C.A C.F h₁ := (o.step (St.keeps (t := s.toks) o.base old)).hok
  refine wpAny_bind (wpAny_holding (tuple_end (s := { s with heap := h₁ }) k (fun x e => held_old o (Nat.le_refl _) x e) hit₁ ht₁ (by simp) fun h₂ he₂ => ?_))
  simp only [Option.isSome_none, Bool.false_eq_true, if_false]
  exact wpAny_pure (hQ h₂ fun b ob e => he₂ b ob (Nat.ne_of_lt (Heap.lt_size e)) (old b ob e))

/-- several names take several values -/
def upds : List (Str × Dat) → List Str → List Dat → List (Str × Dat)
  | ρ, x :: xs, d :: ds => upds (upd ρ x d) xs ds
  | ρ, _, _ => ρ
theorem stores {xs : List (Str × Pos)} : ∀ {ρ : List (Str × Dat)} {vs : List Value} {ds : List Dat} {s : Shared} {Q : Unit → Shared → Prop} {E : Value → Shared → Prop}, Body C → Ok C ρ s → (∀ x ∈ xs, C.env.kindOf x.1 = some .local) → (∀ d ∈ ds, d.flat = true ∨ ∃ es, d = .list es) → Reps C.F s.heap vs ds → xs.length = vs.length →
    (∀ s', Ok C (upds ρ (xs.map (·.1)) ds) s' → Kpt C s s' → Q () s') → wpAny C.M C.A (assignInOrder (xs.map fun x v => assign (.Name x.1 x.2) C.env v) vs) Q E s := by
  induction xs with
  | nil =>
    intro ρ vs ds s Q E b o hk hf r hl hQ
    cases r with
    | nil => exact wpAny_pure (hQ s o (.refl _ _))
    | cons _ _ => cases hl
  | cons x xs ih =>
    intro ρ vs ds s Q E b o hk hf r hl hQ
    cases r with
    | nil => cases hl
    | @cons v d vs ds a r =>
      show wpAny _ _ (holding vs (assign (.Name x.1 x.2) C.env v) >>= fun _ => assignInOrder _ vs) _ _ _
      obtain ⟨m, hm⟩ := o.ns
      refine wpAny_bind (wpAny_holding (wpAny_assign_Name (wpAny_storeName_local (hk x (.head _)) hm (fun h' hn sb => ?_) (by rw [o.cx.kind]; rfl))))
      obtain ⟨o', kp⟩ := Ok.store (t := s.toks + 1) b o (hk x (.head _)) hm a hn sb.extBut
      have r' : Reps C.F h' vs ds := r.but (.inl b.mem) sb.extBut
      exact ih b o' (fun y hy => hk y (.tail _ hy)) (fun y hy => hf y (.tail _ hy)) r' (by simpa using hl) fun s' o2 kp2 => hQ s' o2 (kp.trans kp2)
theorem xt_unpack {xs : List (Str × Pos)} {e : Expr} {ds : List Dat} {k : Nat} {tp pos : Pos} (h : Ev C ρ e (.tup ds)) (hl : xs.length = ds.length) (hf : ∀ d ∈ ds, d.flat = true ∨ ∃ es, d = .list es) (hk : ∀ x ∈ xs, C.env.kindOf x.1 = some .local)
    (hs : swapsWithSole [.Tuple (xs.map fun x => .Name x.1 x.2) k tp] e pos.line C.env = pure false) (hw : swappedStores [.Tuple (xs.map fun x => .Name x.1 x.2) k tp] e C.env = pure none) :
    Xt C ρ (.Assign [.Tuple (xs.map fun x => .Name x.1 x.2) k tp] e pos) (.next (upds ρ (xs.map (·.1)) ds)) := fun s b o => by
  refine Assign_Tuple (h.to o (.refl o) fun v s1 o1 z1 y1 r1 => ?_) hs hw
  cases r1 with
  | @tup t vs _ ht f1 f2 q =>
    rw [arm_assign_Tuple]
    refine wpAny_bind (wpAny_standAt ?_)
    have e1 : assignEach (xs.map fun x => Expr.Name x.1 x.2) C.env = xs.map fun x => (false, assign (.Name x.1 x.2) C.env) := by
      clear hl hf hk hs hw
      induction xs with
      | nil => rfl
      | cons x xs ih => show (false, _) :: assignEach _ _ = _; rw [ih]; rfl
    have e2 : (xs.map fun x => (false, assign (.Name x.1 x.2) C.env)).findIdx? (·.1) = none := by
      rw [List.findIdx?_eq_none_iff]
      intro p hp
      obtain ⟨x, _, rfl⟩ := List.mem_map.mp hp
      rfl
    unfold unpack
    rw [e1, e2, List.length_map, hl, ← q.length]
    refine wpAny_bind (wpAny_holding (items_tup o1 ht fun h' keep => ?_))
    have z2 : St C s1 { s1 with heap := h' } := St.keeps (t := s1.toks) o1.base keep
    rw [List.map_map]
    refine stores b (o1.step z2) hk hf (q.gr z2.gr) (by rw [hl, q.length]) fun s' o' kp => ⟨⟨rfl, o'⟩, ((z1.trans z2).kpt o).trans kp⟩
end
end Mine
end
section
set_option maxRecDepth 100000
set_option linter.unusedVariables false
namespace Mine
open PySem PySem.W PyProof.Rows PySem.Calls PySem.Spec
section
variable {C : Cx} {ρ : List (Str × Dat)}
theorem above_nodup (h : Heap) (L : Nat) : ((above h L).map (·.1)).Nodup := by
  unfold above
  have : ∀ l : List Nat, l.Nodup → ((l.filterMap fun a => if L < a then (h.get? a).map fun o => (a, o) else none).map (·.1)).Nodup := by
    intro l
    induction l with
    | nil => intro _; simp
    | cons x r ih =>
      intro hn
      rw [List.nodup_cons] at hn
      rw [List.filterMap_cons]
      split
      · exact ih hn.2
      · rename_i y hy
        rw [List.map_cons, List.nodup_cons]
        refine ⟨fun q => ?_, ih hn.2⟩
        have hx : y.1 = x := by
          split at hy
          · obtain ⟨o, _, rfl⟩ := Option.map_eq_some_iff.mp hy; rfl
          · cases hy
        obtain ⟨z, hz, e⟩ := List.mem_map.mp q
        obtain ⟨w, hw, e2⟩ := List.mem_filterMap.mp hz
        have hw' : z.1 = w := by
          split at e2
          · obtain ⟨o, _, rfl⟩ := Option.map_eq_some_iff.mp e2; rfl
          · cases e2
        have e : z.1 = y.1 := e
        exact hn.1 (by rw [← hx, ← e, hw']; exact hw)
  exact this _ List.nodup_range
abbrev dataDict (hh : Int) (tk : Tok) (b : Array UInt8) (t : Tok) : Obj := { cls := .type "dict", data := .dict #[⟨hh, .str "data" tk, .bytes b t⟩] 1 }

/-- an attribute is stored in an object made just now -/
theorem set_data {C : Cx} {A : Around} {s : Shared} {x D c : Addr} {b : Array UInt8} {t : Tok} {Q : Unit → Shared → Prop} {E : Value → Shared → Prop} (o : Ok C ρ s) (hx : s.heap.get? x = some (instObj c D)) (hD : s.heap.get? D = some emptyDict) (hxF : ∀ L ∈ C.F, L < D) (hxD : D < x)
    (hset : findIn (Kf C.w) (.ref c) "__setattr__" = some (some (.builtin "object.__setattr__"))) (hp : plainOver (Kf C.w) c = true) (ht : takerIn (Kf C.w) c "data" = some none) (hh : (clsIn (Kf C.w) c).any (·.hasDict) = true)
    (hQ : ∀ h' tk hash tk', (∀ b ob, b ≠ D → b ∉ C.F → s.heap.get? b = some ob → h'.get? b = some ob) → (∀ b m, b ∈ C.F → s.heap.Ns b m → h'.Ns b m) → h'.get? D = some (dataDict hash tk' b t) → Q () { s with heap := h', toks := tk }) :
    wpAny C.M A (setAttr (.ref x) "data" (.bytes b t)) Q E s := by
  obtain ⟨e, r, hr, hf⟩ := o.cx.frame
  have he : e ∈ C.frs := hr ▸ .head _
  obtain ⟨_, L, h2, hG, m, hm⟩ := o.ff e he
  have hL : L ∈ C.F := List.mem_filterMap.mpr ⟨e, he, h2⟩
  have hLD := hxF L hL
  obtain ⟨pre, post, hsplit⟩ := List.append_of_mem (mem_above.mpr ⟨hLD, hD⟩ : (D, emptyDict) ∈ above s.heap L)
  have hnd := above_nodup s.heap L
  rw [hsplit, List.map_append, List.map_cons] at hnd
  have F : Fr (trunc s.heap L) L s.heap m := by
    refine ⟨hm, fun b ob q => ?_, trunc_size _ _⟩
    rw [trunc_get] at q
    split at q
    · exact q
    · cases q
  have N : News (trunc s.heap L) L s.heap (pre ++ (D, emptyDict) :: post) := fun p hp => by
    rw [← hsplit] at hp
    obtain ⟨h1, h3⟩ := mem_above.mp hp
    refine ⟨h3, Nat.ne_of_gt h1, ?_⟩
    rw [trunc_get, if_neg (by omega)]
  have I : W.InstAt s.heap x (instObj c D) c (some emptyDict) := ⟨hx, rfl, rfl, hD⟩
  refine set_plain o.kin I hset ?_
  refine osa_dict (s := { s with toks := s.toks + 1 }) (od' := dataDict _ (s.toks + 1) b t) F N o.kin I rfl hp ht hh rfl (fun p hp q => ?_) (fun p hp q => ?_) rfl rfl (by show 1 ≤ 1000; decide) fun h' F' N' => ?_
  · exact (List.nodup_append.mp hnd).2.2 _ (List.mem_map_of_mem hp) _ (.head _) q
  · have := (List.nodup_cons.mp (List.nodup_append.mp hnd).2.1).1
    have hmem : p.1 ∈ post.map (·.1) := List.mem_map_of_mem hp
    rw [q] at hmem
    exact this hmem
  have key : ∀ b ob, b ≠ D → b ≠ L → s.heap.get? b = some ob → h'.get? b = some ob := fun b ob p q e => by
    rcases Nat.lt_trichotomy b L with z | z | z
    · exact F'.keep b ob (by rw [trunc_get, if_pos z]; exact e)
    · exact absurd z q
    · have hb : (b, ob) ∈ pre ++ (D, emptyDict) :: post := hsplit ▸ mem_above.mpr ⟨z, e⟩
      rcases List.mem_append.mp hb with hb | hb
      · exact (N' _ (List.mem_append_left _ hb)).1
      · rcases List.mem_cons.mp hb with hb | hb
        · cases hb; exact absurd rfl p
        · exact (N' _ (List.mem_append_right _ (.tail _ hb))).1
  refine hQ h' _ _ _ (fun b ob p q e => key b ob p (fun z => q (z ▸ hL)) e) (fun b n hb e => ?_) (N' (D, _) (List.mem_append_right _ (.head _))).1
  by_cases z : b = L
  · subst z
    rw [ns_unique e hm]; exact F'.ns
  · obtain ⟨on, es, ep, e1, e2⟩ := e
    exact ⟨on, es, ep, key b on (fun q => Nat.lt_irrefl D (q ▸ hxF b hb)) z e1, e2⟩
end
end Mine
end
section
set_option maxRecDepth 100000
set_option linter.unusedVariables false
namespace Mine
open PySem PySem.W PyProof.Rows PySem.Calls PySem.Spec
theorem weight_tc (a : Args) : (Code.builtin "type.__call__" a).weight ≤ 3 := by
  have h1 : (Code.builtin "type.__call__" a).frames = 0 := by unfold Code.frames; rfl
  have h2 : (Code.builtin "type.__call__" a).isCaller = false := by unfold Code.isCaller; rfl
  unfold Code.weight
  rw [h1, h2]
  simp only [Bool.false_eq_true, if_false]
  split <;> split <;> decide
section
variable {C : Cx} {ρ : List (Str × Dat)}
theorem cal_make {c fI : Addr} {b : Array UInt8} {name qual : Str} {params : Arguments} {scope : Scope} {dV kV doc pm cdv ct oc : Value} {an od : Option Addr} {osl : Array (Option Value)} {p1 p2 p3 p4 : Pos} (hn : 5 ≤ C.n)
    (hm : makesIn (Kf C.w) c = true) (hi : findIn (Kf C.w) (.ref c) "__init__" = some (some (.ref fI))) (hf : typeIn (Kf C.w) (.ref fI) = some (.type "function"))
    (hset : findIn (Kf C.w) (.ref c) "__setattr__" = some (some (.builtin "object.__setattr__"))) (hp : plainOver (Kf C.w) c = true) (ht : takerIn (Kf C.w) c "data" = some none) (hh : (clsIn (Kf C.w) c).any (·.hasDict) = true)
    (ho : (Kf C.w).lookup fI = some ⟨oc, od, .func (fnOf name qual params [.Assign [.Attribute (.Name "self" p1) "data" p2] (.Name "data" p3) p4] scope dV kV doc pm an cdv ct), osl⟩) (hcd : codeIn (Kf C.w) cdv qual = true)
    (hb : ∀ (s : Shared) (a b : Value), (Kf C.w).In s.heap → BindsTo s (fnOf name qual params [.Assign [.Attribute (.Name "self" p1) "data" p2] (.Name "data" p3) p4] scope dV kV doc pm an cdv ct) ⟨[a, b], []⟩ [("self", a), ("data", b)])
    (hs1 : scope.names.lookup ("self" : Str) = some .local) (hs2 : scope.names.lookup ("data" : Str) = some .local)
    (hck : scope.kind = .function := by rfl) (hco : scope.isCoroutine = false := by rfl) (hgen : scope.isGenerator = false := by rfl) (hcell : ∀ x ∈ scope.names, x.2 ≠ .cell := by decide) : Cal C (.ref c) [.bytes b] (.inst c b) := fun s vs o r => by
  obtain ⟨v, rfl, rv⟩ := reps1 r
  cases rv with | bytes _ t => ?_
  have X := o.kin
  have hlim : s.heap.NoLimit := o.base.wd.nolimit.keeps o.base.stay
  have hdep := o.cx.depth
  obtain ⟨D, hD⟩ : ∃ D, s.heap.objs.size = D := ⟨_, rfl⟩
  obtain ⟨h2, hh2⟩ : ∃ h2, (s.heap.push emptyDict).push (instObj c s.heap.objs.size) = h2 := ⟨_, rfl⟩
  have gD : h2.get? D = some emptyDict := by rw [← hh2, ← hD]; exact Heap.get?_push_of_some _ (Heap.get?_push_size _ rfl)
  have gx : h2.get? (D + 1) = some (instObj c D) := by
    rw [← hh2, ← hD]
    have := Heap.get?_push_size (s.heap.push emptyDict) (o := instObj c s.heap.objs.size) rfl
    rwa [Heap.size_push] at this
  have k2 : ∀ b o, s.heap.get? b = some o → h2.get? b = some o := fun b o e => hh2 ▸ Heap.get?_push_of_some _ (Heap.get?_push_of_some _ e)
  have s2 : h2.objs.size = D + 2 := by rw [← hh2, Heap.size_push, Heap.size_push, hD]
  have z2 : ∀ tk, St C s { s with heap := h2, toks := tk } := fun tk => St.keeps o.base k2
  refine wpAny_call ?_
  obtain ⟨hp0, g, d, t0, os⟩ := s
  dsimp only at hD hh2 X hlim
  refine make_core (makes_of X hm) (looks_findIn X hi) (fun self => bind_fn X self hf) (.inl rfl) ?_
  rw [hh2, hD]
  have o2 : Ok C [] { (⟨hp0, g, d, t0, os⟩ : Shared) with heap := h2, toks := t0 } := o.step (z2 t0)
  have hdep' : (C.A.under (.builtin "type.__call__" ⟨.ref c :: [Value.bytes b t], []⟩)).depth < recursionLimit := by
    have := weight_tc ⟨.ref c :: [Value.bytes b t], []⟩
    show C.A.depth + _ < _
    omega
  refine codeAny_call_def (fd := fnOf name qual params [.Assign [.Attribute (.Name "self" p1) "data" p2] (.Name "data" p3) p4] scope dV kV doc pm an cdv ct) (binds := [("self", .ref (D + 1)), ("data", .bytes b t)]) hdep' (o2.kin _ _ ho) rfl (o2.base.wd.nolimit.keeps o2.base.stay) (codeRec_of o2.kin hcd) rfl (hb _ _ _ o2.kin) hcell
    (fun y hy => by
      simp only [List.mem_cons, List.not_mem_nil, or_false] at hy
      rcases hy with rfl | rfl
      · exact hs1
      · exact hs2) (fun h3 hns k3 => ?_) hco hgen hck
  have hce : callEnv (fnOf name qual params [.Assign [.Attribute (.Name "self" p1) "data" p2] (.Name "data" p3) p4] scope dV kV doc pm an cdv ct) h2.objs.size fI = envOf qual scope h2.objs.size fI cdv := rfl
  rw [hce]
  have o3 : Ok C [] { (⟨hp0, g, d, t0, os⟩ : Shared) with heap := h3, toks := t0 + 2 } := o2.step (St.keeps o2.base k3)
  have look : ∀ (x : Str) (v : Value), (x = "self" ∧ v = .ref (D + 1)) ∨ (x = "data" ∧ v = .bytes b t) → (List.lookup x [(("self" : Str), Value.ref (D + 1)), (("data" : Str), Value.bytes b t)].reverse) = some v := fun x v q => by
    rcases q with ⟨rfl, rfl⟩ | ⟨rfl, rfl⟩ <;> rfl
  refine wpAny_execs_cons (plainObj_wpAny_Assign_Attribute (wpAny_Name (wpAny_loadName_local hck hs2 hns (look _ _ (.inr ⟨rfl, rfl⟩)) (wpAny_Name (wpAny_loadName_local hck hs1 hns (look _ _ (.inl ⟨rfl, rfl⟩)) ?_)))))
  have hFD : ∀ L ∈ C.F, L < D := fun L hL => by
    obtain ⟨env, he, hf'⟩ := List.mem_filterMap.mp hL
    obtain ⟨_, L', h2', _, m', hm'⟩ := o.ff env he
    rw [hf'] at h2'
    cases h2'
    exact hD ▸ hm'.lt
  refine set_data (s := { (⟨hp0, g, d, t0, os⟩ : Shared) with heap := h3, toks := t0 + 2 }) o3 (k3 _ _ gx) (k3 _ _ gD) hFD (Nat.lt_succ_self D) hset hp ht hh fun h4 tk hash tk' k4 n4 g4 => ?_
  refine wpAny_execs_nil ⟨rfl, ?_⟩
  have fD := o.fresh (a := D) (Nat.le_of_eq hD)
  have fx := o.fresh (a := D + 1) (by show hp0.objs.size ≤ _; rw [hD]; exact Nat.le_succ _)
  have nD : ∀ b ob, hp0.get? b = some ob → b ≠ D := fun b ob e => Nat.ne_of_lt (hD ▸ Heap.lt_size e)
  refine ⟨⟨⟨fun b ob e p q => k4 b ob (nD b ob e) q (k3 b ob (k2 b ob e)), fun b m e hb => n4 b m hb ((e.keeps k2).keeps k3)⟩, ⟨o.base.wd, fun b ob e => k4 b ob (nD b ob (o.base.stay b ob e)) (fun q => Nat.lt_irrefl b (o.cx.low b ob e b q)) (k3 b ob (k2 b ob (o.base.stay b ob e))), ?_, o.base.bare, o.base.os⟩⟩, .inst (k4 _ _ (Nat.succ_ne_self D) fx.1 (k3 _ _ gx)) g4 fx.1 fx.2 fD.1 fD.2⟩
  obtain ⟨ps, q1, q2⟩ := o.base.gi
  exact ⟨ps, k4 _ _ (nD _ _ q1) o.cx.gpf (k3 _ _ (k2 _ _ q1)), q2⟩
end
end Mine
end
section
set_option maxRecDepth 100000
set_option linter.unusedVariables false
namespace Mine
open PySem PySem.W PyProof.Rows PySem.Calls PySem.Spec
def fob (b : Array UInt8) : Nat := b.toList.foldl (fun (acc : Nat) (c : UInt8) => acc * 256 + c.toNat) 0
def tob (k x : Nat) : Array UInt8 := (KTBy.low x k).reverse.toArray
theorem fob_lt (b : Array UInt8) : fob b < 256 ^ b.size := by
  have h1 := KFB.fold_lt b.toList 0
  rw [Nat.zero_add, Nat.one_mul, Array.length_toList] at h1
  exact h1
section
variable {prog : Program} {w : World} {M : Model} {A : Around} {E : Value → Shared → Prop} {s : Shared}
theorem grown' {n : Nat} {Q : Value → Shared → Prop} (hn : n < 2 ^ 100000000) (h : Q (.int (n : Int) s.toks) { s with toks := s.toks + 1 }) : wpAny M A (mkIntGrown (n : Int)) Q E s := by
  unfold mkIntGrown
  have hl : ¬ ((n : Int).natAbs.log2 ≥ bitsLine) := by
    rw [Int.natAbs_natCast]
    have hb : bitsLine = 134217728 := by first | rfl | decide
    by_cases hz : n = 0
    · subst hz
      rw [hb]
      decide
    · have h1 := (Nat.log2_lt hz).mpr hn
      omega
  rw [if_neg hl]
  exact wpAny_mkInt h
theorem fb_tree {b : Array UInt8} {t u : Tok} {P : Fin → Shared → Prop} (hl : b.size ≤ 1000000) (h : P (.done (.ret (.int (fob b : Int) s.toks))) { s with toks := s.toks + 1 }) :
    wpAny M A (Builtin.«int.from_bytes» ⟨[.type "int", .bytes b t, .str (PySem.Str.ofString "big") u], []⟩) P E s := by
  have hn : fob b < 2 ^ 100000000 := by
    refine Nat.lt_of_lt_of_le (fob_lt b) ?_
    rw [show (256 : Nat) = 2 ^ 8 from rfl, ← Nat.pow_mul]
    exact Nat.pow_le_pow_right (by decide) (by omega)
  unfold Builtin.«int.from_bytes»
  refine wpAny_bind (wpAny_of_eq (a := true) KFB.type_int ?_)
  refine KFB.if_not rfl ?_
  refine wpAny_bind (wpAny_of_eq (a := true) F.conv_sub_int ?_)
  refine KFB.if_not rfl ?_
  refine wpAny_bind (wpAny_of_eq (a := [some (.bytes b t), some (.str (PySem.Str.ofString "big") u), none]) (by kernel_rfl) ?_)
  refine wpAny_bind (wpAny_of_eq (a := PySem.Str.ofString "big") (by kernel_rfl) ?_)
  refine wpAny_bind (wpAny_of_eq (a := false) rfl ?_)
  refine wpAny_bind (wpAny_of_eq (a := false) (by kernel_rfl) ?_)
  refine wpAny_bind (wpAny_of_eq (a := b) rfl ?_)
  show wpAny _ _ (mkIntGrown (b.toList.foldl (fun (acc : Int) (b : UInt8) => acc * 256 + (b.toNat : Int)) ((0 : Nat) : Int)) >>= fun v => _) _ _ _
  rw [KFB.foldI_eq]
  refine wpAny_bind (grown' (n := fob b) hn ?_)
  refine KFB.if_so (by decide +kernel) ?_
  exact wpAny_bind (wpAny_pure (wpAny_pure h))
end
section
variable {C : Cx} {ρ : List (Str × Dat)}
theorem fb_find (w : World) : findCls (Kf w) (.type "int") (.type "type") (PySem.Str.ofString "from_bytes") = some (.get (.builtin "classmethod_descriptor.__get__") (.builtin "int.from_bytes") .none (.type "int")) := by kernel_rfl
theorem ev_fb {e : Expr} {b : Array UInt8} {k : Nat} {p apos cp pos : Pos} (h : Ev C ρ e (.bytes b)) (hl : b.size ≤ 1000000) (hst : notStar e = true := by rfl) (hk : C.env.kindOf "int" = some .globalImplicit := by rfl) (hline : (apos.endLine == pos.line) = true := by rfl)
    (hbase : attributeBase (.Name "int" p) "from_bytes" C.env (eval (.Name "int" p) C.env) = eval (.Name "int" p) C.env := by rfl) :
    Ev C ρ (.Call (.Attribute (.Name "int" p) "from_bytes" apos) [e, .Constant (.str "big") k cp] [] pos) (dn (fob b)) := fun s o => by
  rw [arm_eval_Call, hbase]
  refine wpAny_bind ((ev_bi bi_int hk).to o (.refl o) fun v s1 o1 z1 _ r1 => wpAny_bind (wpAny_standAt ?_))
  have hv : v = .type "int" := by cases r1; rfl
  subst hv
  have hform : methodCallForm ([e, Expr.Constant (.str "big") k cp].length + ([] : List Keyword).length) (backTo pos (starEach [e, .Constant (.str "big") k cp] C.env)) (backToKw pos (keywordEach [] C.env)) = true := by
    rw [starEach_cons hst, starEach_cons rfl]; rfl
  have hpos : methodCallPos true (.Name "int" p) C.env apos pos = pure pos := by unfold methodCallPos; simp [hline]
  unfold methodCall
  rw [hform]
  obtain ⟨h₀, L, m, news, F, N, st, fin⟩ := o1.lib
  have hKF : (Kf C.w).In h₀ := o1.base.wd.kin.keeps st
  refine wpAny_bind (wpAny_holding (KFB.getm F N hKF (fb_find C.w) fun u h' F' N' _ => ?_))
  have z2 : St C s1 { s1 with heap := h', toks := s1.toks + 1 } := fin h' _ F' fun p hp => (N' p (.tail _ hp)).1
  have o2 := o1.step z2
  have hu : h'.get? u = some KFB.bound := (N' _ (.head _)).1
  have uF : u ∉ C.F := fun q => by
    obtain ⟨env, he, hf⟩ := List.mem_filterMap.mp q
    obtain ⟨_, L', h2, _, m', on, es, ep, e1, e2, _⟩ := o2.ff env he
    rw [hf] at h2; cases h2
    have e1' : h'.get? u = some on := e1
    rw [hu] at e1'; cases e1'; cases e2
  have uG : u ≠ gP := fun q => by
    obtain ⟨ps, e1, _⟩ := o2.base.gi
    have e1' : h'.get? gP = some _ := e1
    rw [← q, hu] at e1'; cases e1'
  refine wpAny_bind (wpAny_of_eq hpos ?_)
  refine KFB.callWith_bound N' (.head _) ?_ (starEach_cons hst _) (by rw [starEach_cons rfl]; rfl)
  refine wpAny_mono ((evs2 h (ev_str "big" k cp) hst rfl).go pos _ o2) (fun vs s3 ⟨z3, r3⟩ => ?_) fun _ _ f => f.elim
  refine ⟨z3.gr.kc _ _ hu uG uF, ?_⟩
  obtain ⟨a, c, rfl, ra, rc⟩ := reps2 r3
  cases ra; cases rc
  exact KFB.call_of (z3.gr.kc _ _ hu uG uF) (fun hP => fb_tree hl hP) ⟨((z1.trans z2).trans z3).trans (.toks z3.base _), .int _ _⟩
theorem cal_tb {x k : Nat} (hk : k ≤ 100000) (hx : x < 256 ^ k) : Cal C (.builtin "int.to_bytes") [dn x, dn k, .str "big"] (.bytes (tob k x)) := fun s vs o r => by
  cases r with | cons u r =>
  obtain ⟨v, w, rfl, v', w'⟩ := reps2 r
  cases u; cases v'; cases w'
  rename_i t u v
  refine wpAny_call_entry KTBy.slot (typeIs_int _ _ _) KTBy.entry ?_ (KTBy.args _ _ _)
  have hb : Builtin.Int.intBits (x : Int) ≤ 8 * k := by
    refine intBits_le_iff.mpr ?_
    rw [Int.natAbs_natCast, Nat.pow_mul]
    exact hx
  show wpAny _ _ (Builtin.Int.intOfSelf (.int x t) >>= fun y => _) _ _ s
  refine wpAny_bind (wpAny_of_eq (a := (x : Int)) rfl ?_)
  show wpAny _ _ (Builtin.Int.intBindNamed "to_bytes" ["length", "byteorder", "signed"] 0 2 [.int (k : Int) u, .str (PySem.Str.ofString "big") v] [] >>= fun l => _) _ _ s
  refine wpAny_bind (wpAny_of_eq (a := [some (.int (k : Int) u), some (.str (PySem.Str.ofString "big") v), none]) (by kernel_rfl) ?_)
  show wpAny _ _ (Builtin.Int.intIndex "int.to_bytes" (.int (k : Int) u) >>= fun n => _) _ _ s
  refine wpAny_bind (wpAny_of_eq (a := (k : Int)) rfl ?_)
  refine KTBy.if_not (by show (decide ((k : Int) < -(2 ^ 63 : Int)) || decide ((k : Int) ≥ 2 ^ 63)) = false; rw [decide_eq_false (show ¬ ((k : Int) < -(2 ^ 63 : Int)) by omega), decide_eq_false (show ¬ ((k : Int) ≥ 2 ^ 63) by omega)]; rfl) ?_
  refine wpAny_bind (wpAny_of_eq (a := PySem.Str.ofString "big") (by kernel_rfl) ?_)
  refine wpAny_bind (wpAny_of_eq (a := false) rfl ?_)
  refine wpAny_bind (wpAny_of_eq (a := false) (by kernel_rfl) ?_)
  refine wpAny_ite_false (decide_eq_false (show ¬ ((k : Int) < 0) by omega)) ?_
  refine wpAny_ite_false (decide_eq_false (show ¬ ((k : Int) > 2 ^ 63 - 1 - 33) by omega)) ?_
  refine wpAny_ite_false (decide_eq_false (show ¬ ((k : Int) > (sizeLine : Int)) by rw [sizeLine_eq]; omega)) ?_
  refine KTBy.if_not (by show (decide ((x : Int) < 0) && !false) = false; rw [decide_eq_false (show ¬ (x : Int) < 0 by omega)]; rfl) ?_
  refine KTBy.if_not (by show (_ && decide ((Builtin.Int.intBits (x : Int) : Int) > 8 * (k : Int))) = false; rw [decide_eq_false (show ¬ ((Builtin.Int.intBits (x : Int) : Int) > 8 * (k : Int)) by omega), Bool.and_false]) ?_
  refine wpAny_bind (wpAny_mkBytes (wpAny_pure ⟨_, rfl, .toks o.base _, ?_⟩) (by show (List.reverse (KTBy.low x (Int.toNat (k : Int)))).length ≤ sizeLine; rw [List.length_reverse, KTBy.low_length, Int.toNat_natCast, sizeLine_eq]; omega))
  exact .bytes _ _
end
end Mine
end
section
set_option maxRecDepth 100000
set_option maxHeartbeats 4000000
set_option linter.unusedVariables false
namespace Mine
open PySem PySem.W PyProof.Rows PySem.Calls PySem.Spec
section
variable {prog : Program} {w : World} {A : Around} {E : Value → Shared → Prop} {s : Shared}
theorem under_plain {n : Nat} {v : Value} {T id : String} {Q : Value → Shared → Prop} (hv : [v].any Value.onHeap = false) (hT : s.TypeIs v T) (h : Slot T "__repr__" id) (hu : reprUnder? (.builtin id) = none)
    (hc : wpAny (model prog w) A (call (.builtin id) [v]) (fun r s' => (∃ x u, r = .str x u) ∧ Q r s') E s) : wpAny (model prog w) A (pyReprObjUnder n v) Q E s := by
  unfold pyReprObjUnder pyReprObjBy
  simp only [cRoomFor, hv, Bool.false_eq_true, if_false, pure_bind]
  refine wpAny_bind (wpAny_specialOf (name := Str.ofString "__repr__") hT h.lookup ?_)
  refine wpAny_bind (wpAny_callSpecialIfBoundBy?_slotG (name := Str.ofString "__repr__") hT h.toG ?_)
  simp only [hu]
  refine wpAny_mono hc (fun v s' hv => ?_) fun _ _ x => x
  obtain ⟨⟨x, u, rfl⟩, hq⟩ := hv
  exact wpAny_bind (wpAny_isInstance (T := "str") (b := true) rfl isSubtype_str_str (wpAny_pure hq))
theorem under_str {n : Nat} {x : Str} {t : Tok} {Q : Value → Shared → Prop} (hsz : (reprText x).length ≤ sizeLine) (h : Q (.str (reprText x) s.toks) { s with toks := s.toks + 1 }) : wpAny (model prog w) A (pyReprObjUnder n (.str x t)) Q E s :=
  under_plain rfl (typeIs_str s x t) PySem.F.slot_str_repr rfl (call_gives PySem.F.slot_str_repr (typeIs_str s x t) PySem.F.entry_str_repr (PySem.F.args_str_repr_1 _) (gives_str_repr x t) ⟨hsz, ⟨_, _, rfl⟩, h⟩)
theorem slot_brepr : Slot "bytes" "__repr__" "bytes.__repr__" :=
  .of (owner := "bytes") (n := "__repr__") (by rw [typeLookup_type, builtinLookup_eq_fast]; kernel_rfl) (by decide +kernel) (by decide +kernel) (by decide +kernel)
    (by first | exact .inl (by decide +kernel) | exact .inr (by decide +kernel)) (by rw [isSubtype_type]; kernel_rfl)
theorem entry_brepr : entryFor table "bytes.__repr__" = some Builtin.«bytes.__repr__» := entryFor_of_tree (by kernel_rfl)
theorem args_brepr (a : Value) : argsOk "bytes.__repr__" ⟨[a], []⟩ := by unfold argsOk; kernel_rfl
theorem under_bytes {n : Nat} {b : Array UInt8} {t : Tok} {Q : Value → Shared → Prop} (hb : b.size ≤ 1000) (hsz : (Builtin.Bytes.literal b false).length ≤ sizeLine) (h : Q (.str (Builtin.Bytes.literal b false) s.toks) { s with toks := s.toks + 1 }) : wpAny (model prog w) A (pyReprObjUnder n (.bytes b t)) Q E s := by
  refine under_plain rfl (typeIs_bytes s b t) slot_brepr rfl (wpAny_call_entry slot_brepr (typeIs_bytes s b t) entry_brepr ?_ (args_brepr _))
  unfold Builtin.«bytes.__repr__»
  refine wpAny_bind (wpAny_of_eq (a := (.bytes b t, [])) (by kernel_rfl) ?_)
  refine wpAny_bind (wpAny_of_eq (a := b) rfl ?_)
  unfold Builtin.Bytes.literalAsked
  have h1 : Builtin.Bytes.tooLong (4 * b.size + 3 + 0) = false := by unfold Builtin.Bytes.tooLong; rw [sizeLine_eq, decide_eq_false_iff_not]; omega
  rw [h1, Bool.false_and, if_neg Bool.false_ne_true]
  refine wpAny_bind (wpAny_bind (wpAny_pure (wpAny_pure ?_)))
  exact wpAny_bind (wpAny_mkStr (wpAny_pure ⟨_, rfl, ⟨_, _, rfl⟩, h⟩) hsz)
end
end Mine
end
section
set_option maxRecDepth 100000
set_option maxHeartbeats 4000000
set_option linter.unusedVariables false
namespace Mine
open PySem PySem.W PyProof.Rows PySem.Calls PySem.Spec
open Builtin Builtin.Str
local macro_rules | `(tactic| kpc_conv) => `(tactic| (refine wpAny_bind ?_; (repeat kpc_if); refine under_str (Nat.le_trans (by with_reducible assumption) (by decide +kernel)) ?_; refine wpAny_bind (wpAny_of_eq (a := some _) rfl ?_)))
theorem meets_chr (z : PySem.Str) (t u : Tok) (hz : (reprText z).length ≤ 1000) : Meets («str.__mod__» ⟨[.str "Character %r is not a valid base58 character" t, .str z u], []⟩)
    (fun _ R s => ∀ t' k, R (.ok (.ret (.str ((("Character " : PySem.Str) ++ reprText z) ++ (" is not a valid base58 character" : PySem.Str)) t'))) { s with toks := k }) := by
  intros
  apply KPc.meets_of
  intro _ _ _ _ _ _ _
  rw [KPc.entry_is_s]
  unfold Builtin.Str.percentFormat
  refine wpAny_bind (wpAny_isInstance (typeIs_str _ _ _) F.sub_str_tuple ?_)
  refine wpAny_bind (wpAny_of_eq (a := some _) rfl ?_)
  refine wpAny_bind (KPc.wp_fills_str ?_)
  intro _
  kpc_if
  refine wpAny_bind (wpAny_pure ?_)
  refine wpAny_bind ?_
  rw [KPc.range_list]
  refine KPc.start ?_
  intro _ _
  refine KPc.turn ?_; kpc_check; (repeat kpc_if)
  refine wpAny_pure ?_
  refine KPc.after_add0 (y := "Character ") (by kpc_g) (by kernel_rfl) (KPc.obj_none (by kernel_rfl)) ?_
  intro _ _
  refine KPc.turn ?_; kpc_check; (repeat kpc_if)
  (refine wpAny_bind ?_; refine wpAny_holding ?_; (repeat kpc_if)) 
  refine wpAny_bind ?_
  (repeat kpc_if)

  refine under_str (Nat.le_trans (by with_reducible assumption) (by decide +kernel)) ?_; refine wpAny_bind (wpAny_of_eq (a := some _) rfl ?_)
  refine wpAny_pure ?_; refine wpAny_pure ?_; 
  refine KPc.after_str (by kpc_g) hz (KPc.obj_none (by kernel_rfl)) ?_
  intro _ _
  refine KPc.turn ?_; kpc_check; (repeat kpc_if)
  refine wpAny_pure ?_
  refine KPc.after_add (y := " is not a valid base58 character") (by kpc_g) (by kernel_rfl) (KPc.obj_none (by kernel_rfl)) ?_
  intro _ _
  refine KPc.turn ?_; kpc_check; (repeat kpc_if)
  kpc_close

theorem meets_two (b1 b2 : Array UInt8) (t t1 t2 : Tok) (a : Addr) (h1 : b1.size ≤ 100) (h2 : b2.size ≤ 100) (hz1 : (Builtin.Bytes.literal b1 false).length ≤ 1000) (hz2 : (Builtin.Bytes.literal b2 false).length ≤ 1000) : Meets («str.__mod__» ⟨[.str "Checksum mismatch: expected %r, calculated %r" t, .ref a], []⟩)
    (fun _ R s => IsTup s.heap a #[.bytes b1 t1, .bytes b2 t2] ∧ ∀ t' k, R (.ok (.ret (.str (((("Checksum mismatch: expected " : PySem.Str) ++ Builtin.Bytes.literal b1 false) ++ (", calculated " : PySem.Str)) ++ Builtin.Bytes.literal b2 false) t'))) { s with toks := k }) := by
  apply KPt.meets_tup
  intro _ _ _ _ _ _ kptH _
  obtain ⟨kptO, kptG, kptC, kptN, kptD⟩ := kptH
  rw [KPt.entry_is_r]
  unfold Builtin.Str.percentFormat
  refine wpAny_bind (wpAny_isInstance (T := "tuple") ⟨kptO, kptG, kptC⟩ KPt.sub_tt ?_)
  refine wpAny_bind (KPt.asStr_ref kptG kptD ?_)
  refine wpAny_bind (KPt.fills_ref ⟨kptO, kptG, kptC⟩ ?_)
  intro _
  kpc_if
  refine wpAny_bind (wpAny_seqItems kptG kptD ?_)
  refine wpAny_bind (wpAny_pure ?_)
  refine wpAny_bind ?_
  rw [KPc.range_list]
  refine KPc.start ?_
  intro _ _
  refine KPc.turn ?_; kpc_check; (repeat kpc_if)
  refine wpAny_pure ?_
  refine KPc.after_add0 (y := "Checksum mismatch: expected ") (by kpc_g) (by kernel_rfl) (KPc.obj_none (by kernel_rfl)) ?_
  intro _ _
  refine KPc.turn ?_; kpc_check; (repeat kpc_if)
  (refine wpAny_bind ?_; refine wpAny_holding ?_; (repeat kpc_if)) 
  refine wpAny_bind ?_
  (repeat kpc_if)
  refine under_bytes (Nat.le_trans h1 (by decide)) (Nat.le_trans hz1 (by decide +kernel)) ?_; refine wpAny_bind (wpAny_of_eq (a := some _) rfl ?_)
  refine wpAny_pure ?_; refine wpAny_pure ?_; 
  refine KPc.after_str (by kpc_g) hz1 (KPc.obj_none (by kernel_rfl)) ?_
  intro _ _
  refine KPc.turn ?_; kpc_check; (repeat kpc_if)
  refine wpAny_pure ?_
  refine KPc.after_add (y := ", calculated ") (by kpc_g) (by kernel_rfl) (KPc.obj_none (by kernel_rfl)) ?_
  intro _ _
  refine KPc.turn ?_; kpc_check; (repeat kpc_if)
  (refine wpAny_bind ?_; refine wpAny_holding ?_; (repeat kpc_if)) 
  refine wpAny_bind ?_
  (repeat kpc_if)
  refine under_bytes (Nat.le_trans h2 (by decide)) (Nat.le_trans hz2 (by decide +kernel)) ?_; refine wpAny_bind (wpAny_of_eq (a := some _) rfl ?_)
  refine wpAny_pure ?_; refine wpAny_pure ?_; 
  refine KPc.after_str (by kpc_g) hz2 (fun v hv => ?_) ?_
  · split at hv
    · cases hv; exact ⟨_, rfl⟩
    · cases hv
  intro _ _
  refine KPc.turn ?_; kpc_check; (repeat kpc_if)
  kpc_close
end Mine
end
section
set_option maxRecDepth 100000
set_option maxHeartbeats 4000000
set_option linter.unusedVariables false
namespace Mine
open PySem PySem.W PyProof.Rows PySem.Calls PySem.Spec
section
variable {C : Cx} {ρ : List (Str × Dat)}
abbrev chrMsg (z : Str) : Str := (("Character " : PySem.Str) ++ reprText z) ++ (" is not a valid base58 character" : PySem.Str)
theorem op_modC {z : Str} (hz : (reprText z).length ≤ 1000) (hl : z.length ≤ 1000) : Op2 C .Mod (.str ("Character %r is not a valid base58 character" : Str)) (.str z) (.str (chrMsg z)) := fun s v1 v2 o r1 r2 => by
  cases r1 with
  | str _ t =>
  cases r2 with
  | str _ u =>
  exact binaryOp_meets (T := "str") (op := .Mod) (typeIs_str s _ t) (typeIs_str s z u) PySem.F.fills_str_mod PySem.F.slot_str_mod PySem.F.entry_str_mod (PySem.F.args_str_mod_2 _ _) (meets_chr z t u hz) (fun t' k => ⟨(fun e => nomatch e), ⟨.toks o.base _, .str _ _⟩⟩)
abbrev twoMsg (b1 b2 : Array UInt8) : Str := ((("Checksum mismatch: expected " : PySem.Str) ++ Builtin.Bytes.literal b1 false) ++ (", calculated " : PySem.Str)) ++ Builtin.Bytes.literal b2 false
theorem op_modT {b1 b2 : Array UInt8} (h1 : b1.size ≤ 100) (h2 : b2.size ≤ 100) (hz1 : (Builtin.Bytes.literal b1 false).length ≤ 1000) (hz2 : (Builtin.Bytes.literal b2 false).length ≤ 1000) :
    Op2 C .Mod (.str ("Checksum mismatch: expected %r, calculated %r" : Str)) (.tup [.bytes b1, .bytes b2]) (.str (twoMsg b1 b2)) := fun s v1 v2 o r1 r2 => by
  cases r1 with
  | str _ t =>
  cases r2 with
  | tup hT hF hP hR =>
  cases hR with
  | cons ra hR =>
  cases hR with
  | cons rb hR =>
  cases hR with
  | nil =>
  cases ra with
  | bytes _ t1 =>
  cases rb with
  | bytes _ t2 =>
  have hT' := hT
  obtain ⟨o1, ho1, hc1, _⟩ := hT'
  exact KPt.bin_left (T := "str") (U := "tuple") (op := .Mod) (by decide) (typeIs_str s _ t) ⟨o1, ho1, hc1⟩ PySem.F.fills_str_mod KPt.fills_tuple PySem.F.slot_str_mod
    (call_meets PySem.F.slot_str_mod (typeIs_str s _ t) PySem.F.entry_str_mod (PySem.F.args_str_mod_2 _ _) (meets_two b1 b2 t t1 t2 _ h1 h2 hz1 hz2) ⟨hT, fun t' k => ⟨(fun e => nomatch e), ⟨.toks o.base _, .str _ _⟩⟩⟩)
theorem reprText_one (c : Nat) (hc : c < 128) : (reprText (mk [c])).length ≤ 1000 := by
  refine Nat.le_trans (PySem.StrLaws.reprText_len (mk [c]) fun x hx => ?_) ?_
  · have : x = c := by simpa [mk] using hx
    subst this; omega
  · have : (mk [c]).length = 1 := by simp [mk, PySem.Str.length]
    omega
theorem literal_len (b : Array UInt8) (hb : b.size ≤ 100) : (Builtin.Bytes.literal b false).length ≤ 1000 := by
  unfold Builtin.Bytes.literal
  simp only [PySem.Str.length, Array.size_push]
  suffices h : ∀ (l : List UInt8) (a : Array Nat) (f : Array Nat → UInt8 → Array Nat), (∀ a c, (f a c).size ≤ a.size + 4) → (l.foldl f a).size ≤ a.size + 4 * l.length by
    rw [← Array.foldl_toList]
    refine Nat.le_trans (Nat.add_le_add_right (h b.toList _ _ fun a c => ?_) 1) ?_
    · rw [Array.size_append]
      refine Nat.add_le_add_left ?_ _
      repeat' split
      all_goals simp
    · simp
      omega
  intro l
  induction l with
  | nil => intro a f hf; simp
  | cons x l ih =>
    intro a f hf
    refine Nat.le_trans (ih (f a x) f hf) ?_
    have := hf a x
    simp only [List.length_cons]
    omega
end
end Mine
end
section
set_option maxRecDepth 100000
set_option maxHeartbeats 4000000
set_option linter.unusedVariables false
namespace Mine
open PySem PySem.W PyProof.Rows PySem.Calls PySem.Spec
section
variable {C : Cx} {ρ ρ' : List (Str × Dat)}
theorem raised {s1 : Shared} {h' : Heap} {e : Addr} {args : List Value} {cls : String} (o : Ok C ρ s1) (hm : Heap.MadeExc s1.heap h' e cls args) (hf : ∀ p ∈ ρ', p ∈ ρ ∧ p.2.flat = true) : PostE C (.exc ρ' (.type cls) true) (.ref e) { s1 with heap := h' } := by
  obtain ⟨t, ht, _, _⟩ := hm.there
  have z : St C s1 { s1 with heap := h' } := St.keeps o.base hm.keeps
  have o' := o.step z
  have hF : e ∉ C.F := fun q => by
    obtain ⟨env, he, hfr⟩ := List.mem_filterMap.mp q
    obtain ⟨_, L', h2', _, m', hm'⟩ := o.ff env he
    rw [hfr] at h2'
    cases h2'
    obtain ⟨on, _, _, hg, _⟩ := hm'
    rw [hm.new] at hg; cases hg
  have hG : e ≠ gP := fun q => by
    obtain ⟨ps, g, _⟩ := o.base.gi
    rw [← q, hm.new] at g; cases g
  refine ⟨e, rfl, ⟨o'.base, o'.gr, o'.ff, o'.ns, o'.cel, fun p hp => ⟨(hf p hp).2, o'.loc p (hf p hp).1⟩⟩, ⟨⟨_, _, ht, rfl, rfl, fun _ => rfl, .inl ⟨rfl, .inl rfl⟩⟩, old_none o hm.new hF hG, hF, hG⟩⟩
theorem xt_raise {x : Str} {np cpos pos : Pos} {a : Expr} {d : Dat} (hh : C.A.handled = none) (hn : Ev C ρ (.Name x np) (.cst (.type "ValueError"))) (ha : Ev C ρ a d) (hf : ∀ p ∈ ρ', p ∈ ρ ∧ p.2.flat = true) (hs : notStar a = true := by rfl) :
    Xt C ρ (.Raise (some (.Call (.Name x np) [a] [] cpos)) none pos) (.exc ρ' (.type "ValueError") true) := fun s b o => by
  refine wpAny_Raise_call PySem.F.excCall_ValueError PySem.F.excRaise_ValueError hh (star_any (by simp [hs])) ?_
  refine hn.to o (.refl o) fun v s1 o1 z1 y1 r1 => ?_
  cases r1
  refine ⟨rfl, ?_⟩
  have q := (Evs.cons ha hs .nil).go cpos s1 o1
  rw [starEach_cons hs] at q ⊢
  refine evalArgs_plain (wpAny_mono q (fun vs s2 ⟨z2, r2⟩ => ⟨rfl, ?_, fun h' e hm => raised (o1.step z2) hm hf⟩) fun _ _ f => f.elim)
  rw [r2.length, sizeLine_eq]; show (1:Nat) ≤ 16777216; omega
end
end Mine
end
section
set_option maxRecDepth 100000
set_option maxHeartbeats 4000000
set_option linter.unusedVariables false
namespace Mine
open PySem PySem.W PyProof.Rows PySem.Calls PySem.Spec
/-- the context in a handler's suite -/
abbrev Cx.in (C : Cx) (e : Addr) : Cx := { C with A := C.A.mark (some (.ref e)) }
section
variable {C : Cx} {ρ ρ1 ρ' : List (Str × Dat)} {O : Out}
theorem body_in {e : Addr} (b : Body C) : Body (C.in e) := ⟨b.top, b.frm, b.new⟩
theorem cx_in {e : Addr} (c : CxOk C) : CxOk (C.in e) := ⟨c.fr, c.depth, c.units, c.kind, c.glob, c.bi, c.loc, c.own, c.sub, c.gpf, c.low, c.frame, c.gst, c.gpi, c.own2, c.kpt⟩
theorem xok_out {e : Addr} {s : Shared} (o : Xok (C.in e) ρ s) : Xok C ρ s := ⟨o.base, o.gr, o.ff, o.ns, o.cel, o.loc⟩
theorem xok_in {e : Addr} {s : Shared} (o : Xok C ρ s) : Xok (C.in e) ρ s := ⟨o.base, o.gr, o.ff, o.ns, o.cel, o.loc⟩
theorem ok_of_xok {s : Shared} (cx : CxOk C) (o : Xok C ρ s) (hk : HOk C.A C.F s.heap) : Ok C ρ s := ⟨cx, o.base, o.gr, o.ff, hk, o.ns, o.cel, fun p hp => (o.loc p hp).2⟩
theorem xok_of_ok {s : Shared} (o : Ok C ρ s) (hf : ∀ p ∈ ρ, p.2.flat = true) : Xok C ρ s := ⟨o.base, o.gr, o.ff, o.ns, o.cel, fun p hp => ⟨hf p hp, o.loc p hp⟩⟩
theorem ok_out {e : Addr} {s : Shared} (cx : CxOk C) (hh : C.A.handled = none) (o : Ok (C.in e) ρ s) : Ok C ρ s := ⟨cx, o.base, o.gr, o.ff, .inl hh, o.ns, o.cel, o.loc⟩
theorem flx_gr {h₀ h h' : Heap} {F : List Addr} {e : Addr} {cls : Value} {c : Bool} {P : Option Value → Prop} (x : Flx h₀ F h e cls c P) (k : Gr F h h') : Flx h₀ F h' e cls c P := by
  obtain ⟨⟨oe, vs, a, b, d, g, i⟩, q, r, t⟩ := x
  refine ⟨⟨oe, vs, k.kc _ _ a t r, b, d, g, ?_⟩, q, r, t⟩
  rcases i with i | ⟨T, oT, ts, x, i1, i2, i3, i4, i5, i6, i7, i8, i9⟩
  · exact .inl i
  · exact .inr ⟨T, oT, ts, x, i1, i2, i3, i4, i5, k.kc _ _ i6 i5 i4, i7, i8, i9⟩
theorem hok_of {F : List Addr} {h₀ h : Heap} {e : Addr} {cls : Value} {P : Option Value → Prop} (A : Around) (x : Flx h₀ F h e cls true P) : HOk (A.mark (some (.ref e))) F h := by
  obtain ⟨⟨oe, vs, a, b, d, g, i⟩, q, r, t⟩ := x
  exact .inr ⟨e, oe, vs, rfl, a, d, g rfl, r, t⟩
/-- the body ends without an exception -/
theorem xt_try {body : List Stmt} {h1 : ExceptHandler} {hs : List ExceptHandler} {pos : Pos} (h : Xs C ρ body O) (hO : ∀ ρ c, O ≠ .exc ρ c true ∧ O ≠ .exc ρ c false) : Xt C ρ (.Try body (h1 :: hs) [] [] pos) O := fun s b o => by
  refine wpAny_Try_except (wpAny_mono (h s b o) (fun f s1 p => ?_) fun e s1 p => ?_)
  · cases f <;> first | exact p | exact wpAny_execs_nil p
  · cases O with
    | exc ρ c k => cases k <;> first | exact absurd rfl (hO ρ c).1 | exact absurd rfl (hO ρ c).2
    | _ => exact p.elim
/-- it raises, and the first handler takes it -/
theorem xt_catch {body : List Stmt} {t : Expr} {b₀ : Stmt} {suite : List Stmt} {hs : List ExceptHandler} {pos hpos : Pos} {X T : String} (hh : C.A.handled = none) (hkept : C.kept = []) (h : Xs C ρ body (.exc ρ1 (.type X) true))
    (hexc : isSubtype (.type T) (.type "BaseException") = pure true) (hnt : isSubtype (.type ((Manifest.find? T).elim "type" fun x => x.metatype)) (.type "tuple") = pure false) (hsub : isSubtype (.type X) (.type T) = pure true)
    (ht : ∀ e, Ev (C.in e) ρ1 t (.cst (.type T))) (hsu : ∀ e, Xs (C.in e) ρ1 (b₀ :: suite) O) : Xt C ρ (.Try body (.ExceptHandler (some t) none (b₀ :: suite) hpos :: hs) [] [] pos) O := fun s b o => by
  have cx := o.cx
  refine wpAny_Try_except (wpAny_mono (h s b o) (fun f s1 p => p.1.elim) fun e s1 p => ?_)
  obtain ⟨a, rfl, xo, fx⟩ := p
  obtain ⟨r, hr⟩ := b.top
  have hF : C.F = frsOf (C.env :: r) := by show List.filterMap _ C.frs = _; rw [hr]
  refine note_ok (h₀ := C.h₀) (base := C.G) (outer := r) (L := C.env.locals) (cls := .type X) (c := true) (by rw [cx.fr, hr]) ((hr ▸ xo.ff).fun) b.frm (fun T hT => hF ▸ xo.new cx hT) (hF ▸ fx) fun h2 k2 f2 => ?_
  rw [← hF] at k2 f2
  have o2 := xo.kx cx k2
  refine flight_ok (s := { s1 with heap := h2 }) none (f2.mono fun p q => by rw [q]; simp) fun h3 k3 f3 => ?_
  have o3 := o2.kx cx k3
  have ok3 : Ok (C.in a) ρ1 { s1 with heap := h3 } := ok_of_xok (cx_in cx) (xok_in o3) (hok_of _ f3)
  refine wpAny_handleBy_builtin (b := true) hexc hnt hsub ?_
  refine (ht a).to ok3 (.refl ok3) fun v s4 ok4 z4 y4 r4 => ?_
  have f4 := flx_gr f3 z4.gr
  have x4 : Xok (C.in a) ρ1 s4 := xok_of_ok ok4 fun p hp => (o3.loc p hp).1
  refine ⟨by cases r4; rfl, ?_, ?_⟩
  · obtain ⟨⟨oe, vs, g1, g2, _⟩, _⟩ := f4
    exact ⟨oe, g1, g2⟩
  show wpAny _ _ _ _ _ _
  refine flight_ok none (f4.mono fun p q => by rw [q]; simp) fun h5 k5 f5 => ?_
  have o5 := x4.kx (cx_in cx) k5
  have ok5 : Ok (C.in a) ρ1 { s4 with heap := h5 } := ok_of_xok (cx_in cx) o5 (hok_of _ f5)
  refine wpAny_mono (hsu a _ (body_in b) ok5) (fun f s6 ⟨p, _⟩ => ⟨?_, fun b m => by rw [hkept] at m; cases m⟩) fun e s6 p => ?_
  · cases O with
    | next ρ => exact ⟨p.1, ok_out cx hh p.2⟩
    | ret d => obtain ⟨v, e, q, r⟩ := p; exact ⟨v, e, ok_out cx hh q, r⟩
    | brk ρ => exact ⟨p.1, ok_out cx hh p.2⟩
    | cont ρ => exact ⟨p.1, ok_out cx hh p.2⟩
    | exc _ _ _ => exact p
  · cases O with
    | exc ρ2 c2 k2 =>
      obtain ⟨a2, e2, x2, y2⟩ := p
      exact noted_back b cx rfl ⟨a2, e2, xok_out x2, y2⟩ fun _ _ p => p
    | _ => exact p.elim
end
end Mine
end
section
set_option maxRecDepth 100000
set_option maxHeartbeats 4000000
set_option linter.unusedVariables false
namespace Mine
open PySem PySem.W PyProof.Rows PySem.Calls PySem.Spec
theorem lit774 (w : World) : ∃ nm q N bs hdct sn sub ab col dd k0 k1 k2 k3 k5, (Kf w).lookup 774 = some (excClassObj nm q 774 N bs [.type "Exception", .type "BaseException", .type "object"] hdct sn sub ab col dd k0 k1 k2 k3 k5 "Exception.__new__") ∧
    nsOkIn (Kf w) N = true ∧ nsIn (Kf w) N "__init__" = some none := by
  refine ⟨_, _, _, _, _, _, _, _, _, _, _, _, _, _, _, rfl, by kernel_rfl, by kernel_rfl⟩
theorem exc774 {w : World} {h : Heap} (X : (Kf w).In h) : ∃ nm q N bs hdct sn sub ab col dd k0 k1 k2 k3 k5 mN, h.get? 774 = some (excClassObj nm q 774 N bs [.type "Exception", .type "BaseException", .type "object"] hdct sn sub ab col dd k0 k1 k2 k3 k5 "Exception.__new__") ∧ h.Ns N mN ∧ mN "__init__" = none := by
  obtain ⟨nm, q, N, bs, hdct, sn, sub, ab, col, dd, k0, k1, k2, k3, k5, e, e1, e2⟩ := lit774 w
  exact ⟨nm, q, N, bs, hdct, sn, sub, ab, col, dd, k0, k1, k2, k3, k5, _, X _ _ e, .of_isNs (isNs_of_in X e1), nsMap_none_of_in X e1 e2⟩
end Mine
end
section
set_option maxRecDepth 100000
set_option maxHeartbeats 4000000
set_option linter.unusedVariables false
namespace Mine
open PySem PySem.W PyProof.Rows PySem.Calls PySem.Spec
section
variable {prog : Program} {w : World} {A : Around} {E : Value → Shared → Prop} {s : Shared} {env : Env}
theorem raiseNew_ok {α : Type} {F : List Addr} {e t : Addr} {c : Value} {Q : α → Shared → Prop} (k : HOk A F s.heap) (hne : ∀ x, A.handled = some (.ref x) → x ≠ e) (he : s.heap.get? e = some { cls := c, data := .fields #[.ref t, .none, .none, .none, .bool false, .none] })
    (h : ∀ h' o vs, (∀ b o, b ≠ e → s.heap.get? b = some o → h'.get? b = some o) → h'.get? e = some o → o.cls = c → o.data = .fields vs → vs[1]? = some .none → E (.ref e) { s with heap := h' }) : wpAny (model prog w) A (raiseNew (.ref e) : Sem α) Q E s := by
  simp only [raiseNew]
  refine wpAny_bind (wpAny_handled ?_)
  rcases k with k | ⟨x, ox, vs, k1, k2, k3, k4, _⟩
  · rw [k]
    exact wpAny_bind (wpAny_pure (wpAny_throw (h s.heap _ _ (fun _ _ _ q => q) he rfl rfl rfl)))
  · rw [k1]
    have hx := hne x k1
    have hn : (Value.ref x != Value.ref e) = true := by simp only [bne_iff_ne, ne_eq, Value.ref.injEq]; exact hx
    simp only [hn, if_true]
    refine wpAny_bind (wpAny_holding (wpAny_runValue (codeAny_builtin entry_unchain ?_)))
    unfold Builtin.«proto.unchain»
    show wpAny _ _ (field (.ref x) 2 >>= _) _ _ _
    refine wpAny_bind (wpAny_field k2 k3 k4 ?_)
    show wpAny _ _ (ret .none) _ _ _
    refine wpAny_pure ?_
    dsimp only
    refine wpAny_bind (wpAny_setField he rfl (by simp) ?_)
    refine wpAny_throw (h _ _ _ (fun b o q e => ?_) (Heap.get?_update_self _ he rfl) rfl rfl rfl)
    rw [Heap.get?_update_other _ _ (Ne.symm q)]
    exact e
theorem raiseStmt_own {F : List Addr} {nm q : Str} {C N : Addr} {bs bm : List Value} {hdct : Bool} {sn : List Str} {sub : List Value} {ab : Bool} {col : Option Bool} {dd : Option Addr} {k0 k1 k2 k3 k5 : Option Value} {newId : String}
    {x : Sem Value} {Q : Flow → Shared → Prop} (hbase : bm.contains (.type "BaseException") = true)
    (h : wpAny (model prog w) A x (fun v s₁ => ∃ e t, v = .ref e ∧ HOk A F s₁.heap ∧ (∀ x, A.handled = some (.ref x) → x ≠ e) ∧ s₁.heap.get? C = some (excClassObj nm q C N bs bm hdct sn sub ab col dd k0 k1 k2 k3 k5 newId) ∧
      s₁.heap.get? e = some { cls := .ref C, data := .fields #[.ref t, .none, .none, .none, .bool false, .none] } ∧
      (∀ h' o vs, (∀ b o, b ≠ e → s₁.heap.get? b = some o → h'.get? b = some o) → h'.get? e = some o → o.cls = .ref C → o.data = .fields vs → vs[1]? = some .none → E (.ref e) { s₁ with heap := h' })) E s) :
    wpAny (model prog w) A (raiseStmt env (some x) none) Q E s := by
  have hcB : (Value.ref C :: bm).contains (.type "BaseException") = true := by rw [List.contains_cons, hbase, Bool.or_true]
  unfold raiseStmt
  refine wpAny_bind (wpAny_mono h (fun v s₁ h₁ => ?_) fun _ _ x => x)
  obtain ⟨e, t, rfl, hk, hne, hC, he, hE⟩ := h₁
  obtain ⟨hp, g, d, tk, os⟩ := s₁
  repeat (first | with_reducible refine wpAny_loadPart_at he ?_ | with_reducible refine wpAny_loadPart_at hC ?_ | (with_reducible refine wpAny_isSubtype_exc hC ?_; rw [hcB]) | wp_step)
  exact raiseNew_ok hk hne he hE
end
section
variable {C : Cx} {ρ ρ' : List (Str × Dat)}
theorem kp_774 : Kp C (.ref 774) := kp_K fun w => by kernel_rfl
theorem xt_raiseO {x : Str} {np cpos pos : Pos} {a : Expr} {d : Dat} (hn : Ev C ρ (.Name x np) (.cst (.ref 774))) (ha : Ev C ρ a d) (hf : ∀ p ∈ ρ', p ∈ ρ ∧ p.2.flat = true) (hs : notStar a = true := by rfl) :
    Xt C ρ (.Raise (some (.Call (.Name x np) [a] [] cpos)) none pos) (.exc ρ' (.ref 774) false) := fun s b o => by
  rw [arm_exec_Raise]
  obtain ⟨nm, q, N, bs, hdct, sn, sub, ab, col, dd, k0, k1, k2, k3, k5, _, hC0, _, _⟩ := exc774 (o.base.wd.kin)
  have key : wpAny C.M C.A (eval (.Call (.Name x np) [a] [] cpos) C.env) (fun v s₁ => ∃ e t, v = .ref e ∧ HOk C.A C.F s₁.heap ∧ (∀ x, C.A.handled = some (.ref x) → x ≠ e) ∧ s₁.heap.get? 774 = some (excClassObj nm q 774 N bs [.type "Exception", .type "BaseException", .type "object"] hdct sn sub ab col dd k0 k1 k2 k3 k5 "Exception.__new__") ∧
      s₁.heap.get? e = some { cls := .ref 774, data := .fields #[.ref t, .none, .none, .none, .bool false, .none] } ∧
      (∀ h' o vs, (∀ b o, b ≠ e → s₁.heap.get? b = some o → h'.get? b = some o) → h'.get? e = some o → o.cls = .ref 774 → o.data = .fields vs → vs[1]? = some .none → PostE C (.exc ρ' (.ref 774) false) (.ref e) { s₁ with heap := h' })) (fun _ _ => False) s := by
    refine wpAny_Call_ofName ?_
    refine hn.to o (.refl o) fun v s1 o1 z1 y1 r1 => ?_
    cases r1
    refine callWith_ev (.cons ha hs .nil) o1 kp_774 fun vs s2 o2 z2 r2 => ?_
    obtain ⟨nm', q', N', bs', hdct', sn', sub', ab', col', dd', k0', k1', k2', k3', k5', mN, hC, hN, hni⟩ := exc774 o2.kin
    have hC2 := o2.base.stay _ _ hC0
    obtain ⟨hp, g, dr, tk, os⟩ := s2
    refine wpAny_call_exc_sub PySem.F.excBase_Exception hC hN hni (fun h' e hm => ?_) (by rw [List.nil_append, r2.length, sizeLine_eq]; show (1:Nat) ≤ 16777216; omega)
    obtain ⟨t, ht, _, _⟩ := hm.there
    have z : St C ⟨hp, g, dr, tk, os⟩ ⟨h', g, dr, tk, os⟩ := St.keeps (s := ⟨hp, g, dr, tk, os⟩) (t := tk) o2.base hm.keeps
    have hF : e ∉ C.F := fun q => by
      obtain ⟨env, he, hfr⟩ := List.mem_filterMap.mp q
      obtain ⟨_, L', h2', _, m', hm'⟩ := o2.ff env he
      rw [hfr] at h2'
      cases h2'
      obtain ⟨on, _, _, hg, _⟩ := hm'
      have := hm.new
      rw [this] at hg; cases hg
    have hG : e ≠ gP := fun q => by
      obtain ⟨ps, g, _⟩ := o2.base.gi
      have := hm.new
      rw [← q, this] at g; cases g
    refine ⟨e, t, rfl, (o2.step z).hok, fun x hx q => ?_, hm.keeps _ _ hC2, ht, fun h2 oe vs' kk he hc hd h1 => ?_⟩
    · rcases o2.hok with k | ⟨x', ox, vs, k1, k2, _⟩
      · rw [k] at hx; cases hx
      · rw [k1] at hx
        cases hx
        rw [q] at k2
        have := hm.new
        rw [this] at k2; cases k2
    · have z2 : St C ⟨hp, g, dr, tk, os⟩ ⟨h2, g, dr, tk, os⟩ := St.keeps (s := ⟨hp, g, dr, tk, os⟩) (t := tk) o2.base fun b ob eb => kk b ob (fun q => by rw [q, hm.new] at eb; cases eb) (hm.keeps b ob eb)
      have o' := o2.step z2
      exact ⟨e, rfl, ⟨o'.base, o'.gr, o'.ff, o'.ns, o'.cel, fun p hp => ⟨(hf p hp).2, o'.loc p (hf p hp).1⟩⟩, ⟨⟨_, _, he, hc, hd, (fun q => by cases q), .inl ⟨h1, .inl rfl⟩⟩, old_none o2 hm.new hF hG, hF, hG⟩⟩
  have key2 : wpAny C.M C.A (eval (.Call (.Name x np) [a] [] cpos) C.env) _ (PostE C (.exc ρ' (.ref 774) false)) s := wpAny_mono key (fun _ _ p => p) fun _ _ f => f.elim
  first
    | exact wpAny_bind (wpAny_standAt (raiseStmt_own (F := C.F) (by rfl) (wpAny_bind (wpAny_mono key2 (fun v s₁ h₁ => wpAny_bind (wpAny_standAt (wpAny_pure h₁))) fun _ _ x => x))))
    | (simp only [evalOpt, Option.map]; exact wpAny_bind (wpAny_standAt (raiseStmt_own (F := C.F) (by rfl) (wpAny_bind (wpAny_mono key2 (fun v s₁ h₁ => wpAny_bind (wpAny_standAt (wpAny_pure h₁))) fun _ _ x => x)))))
end
end Mine
end
section
set_option maxRecDepth 100000
set_option maxHeartbeats 4000000
set_option linter.unusedVariables false
namespace Mine
open PySem PySem.W PyProof.Rows PySem.Calls PySem.Spec
section
variable {C : Cx} {ρ ρ1 ρ' : List (Str × Dat)} {O : Out}
theorem xt_catchO {body : List Stmt} {x y : Str} {np p1 p2 : Pos} {k : Nat} {hs : List ExceptHandler} {pos hpos : Pos} {c : Bool} (hh : C.A.handled = none) (hkept : C.kept = []) (h : Xs C ρ body (.exc ρ1 (.ref 774) c))
    (hg : Gl x (.ref 774)) (hk : C.env.kindOf x = some .globalImplicit) (hd : (x == ("__debug__" : Str)) = false := by decide) :
    Xt C ρ (.Try body (.ExceptHandler (some (.Name x np)) none [.Return (some (.Constant (.str y) k p1)) p2] hpos :: hs) [] [] pos) (.ret (.str y)) := fun s b o => by
  have cx := o.cx
  refine wpAny_Try_except (wpAny_mono (h s b o) (fun f s1 p => p.1.elim) fun e s1 p => ?_)
  obtain ⟨a, rfl, xo, fx⟩ := p
  obtain ⟨r, hr⟩ := b.top
  have hF : C.F = frsOf (C.env :: r) := by show List.filterMap _ C.frs = _; rw [hr]
  refine note_ok (h₀ := C.h₀) (base := C.G) (outer := r) (L := C.env.locals) (cls := .ref 774) (c := c) (by rw [cx.fr, hr]) ((hr ▸ xo.ff).fun) b.frm (fun T hT => hF ▸ xo.new cx hT) (hF ▸ fx) fun h2 k2 f2 => ?_
  rw [← hF] at k2 f2
  have o2 := xo.kx cx k2
  refine flight_ok (s := { s1 with heap := h2 }) none (f2.mono fun p q => by rw [q]; simp) fun h3 k3 f3 => ?_
  have o3 := o2.kx cx k3
  have X3 : (Kf C.w).In h3 := o3.base.wd.kin.keeps o3.base.stay
  obtain ⟨nm, q, N, bs, hdct, sn, sub, ab, col, dd, k0, k1, k2, k3', k5, _, hC, _, _⟩ := exc774 X3
  refine wpAny_handleBy_cons (codeAny_handlers_test ?_) (by intro q; cases q)
  obtain ⟨mg, hmg⟩ := o3.base.wd.mg
  refine Name_function_global cx.kind hk (loadGlobal_global (mg := mg) ?_ (mg_of o3.base.wd.kin hmg (hg C.w)) ?_) hd
  · rw [cx.glob]
    exact hmg.keeps o3.base.stay
  obtain ⟨hp, g, dr, tk, os⟩ := s1
  obtain ⟨⟨oe, vs, g1, g2, _⟩, _⟩ := id f3
  refine wpAny_excMatches_sub_self hC g1 g2 (by rfl) (codeAny_handlers_suite ?_)
  refine flight_ok none (f3.mono fun p q => by rw [q]; simp) fun h5 k5 f5 => ?_
  have o5 := o3.kx cx k5
  refine wpAny_execs_cons (wpAny_Return_some (Constant_str ?_))
  exact ⟨⟨_, rfl, ⟨cx, ⟨o5.base.wd, o5.base.stay, o5.base.gi, o5.base.bare, o5.base.os⟩, o5.gr, o5.ff, .inl hh, o5.ns, o5.cel, fun _ m => by cases m⟩, .str _ _⟩, fun b m => by rw [hkept] at m; cases m⟩
end
end Mine
end
section
set_option maxRecDepth 100000
set_option maxHeartbeats 4000000
set_option linter.unusedVariables false
namespace Mine
open PySem PySem.W PyProof.Rows PySem.Calls PySem.Spec
section
variable {prog : Program} {w : World} {A : Around} {E : Value → Shared → Prop} {s : Shared}
theorem repr_bytes {b : Array UInt8} {t : Tok} {Q : Value → Shared → Prop} (hb : b.size ≤ 1000) (hsz : (Builtin.Bytes.literal b false).length ≤ sizeLine) (h : Q (.str (Builtin.Bytes.literal b false) s.toks) { s with toks := s.toks + 1 }) : wpAny (model prog w) A (pyReprObj (.bytes b t)) Q E s := by
  unfold pyReprObj
  simp only [cRoomFor, show [Value.bytes b t].any Value.onHeap = false from rfl, Bool.false_eq_true, if_false, pure_bind]
  refine wpAny_bind (wpAny_specialOf (name := Str.ofString "__repr__") (typeIs_bytes s b t) slot_brepr.lookup ?_)
  refine wpAny_bind (m := callSpecialIfBound? (.bytes b t) (Str.ofString "__repr__")) (wpAny_callSpecialIfBound?_slot (name := Str.ofString "__repr__") (typeIs_bytes s b t) slot_brepr (wpAny_call_entry slot_brepr (typeIs_bytes s b t) entry_brepr ?_ (args_brepr _)))
  unfold Builtin.«bytes.__repr__»
  refine wpAny_bind (wpAny_of_eq (a := (.bytes b t, [])) (by kernel_rfl) ?_)
  refine wpAny_bind (wpAny_of_eq (a := b) rfl ?_)
  unfold Builtin.Bytes.literalAsked
  have h1 : Builtin.Bytes.tooLong (4 * b.size + 3 + 0) = false := by unfold Builtin.Bytes.tooLong; rw [sizeLine_eq, decide_eq_false_iff_not]; omega
  rw [h1, Bool.false_and, if_neg Bool.false_ne_true]
  refine wpAny_bind (wpAny_bind (wpAny_pure (wpAny_pure ?_)))
  exact wpAny_bind (wpAny_mkStr (wpAny_pure ⟨_, rfl, wpAny_bind (wpAny_isInstance (T := "str") (b := true) rfl isSubtype_str_str (wpAny_pure h))⟩) hsz)
end
section
variable {C : Cx} {ρ : List (Str × Dat)}
theorem ev_fr {e : Expr} {b : Array UInt8} {pos : Pos} (h : Ev C ρ e (.bytes b)) (hb : b.size ≤ 1000) (hsz : (Builtin.Bytes.literal b false).length ≤ 1000) : Ev C ρ (.FormattedValue e 114 none pos) (.str (Builtin.Bytes.literal b false)) := fun s o => by
  have hz : (Builtin.Bytes.literal b false).length ≤ sizeLine := by rw [sizeLine_eq]; omega
  refine wpAny_FormattedValue_repr (h.to o (.refl o) fun v s1 o1 z1 _ r1 => ?_)
  cases r1
  refine repr_bytes hb hz (wpAny_formatField_str ?_ ?_ hz)
  · exact ⟨z1.trans (.toks o1.base _), .str _ _⟩
  · exact ⟨z1.trans (.toks o1.base _), .str _ _⟩
theorem ev_joined4 {e1 e2 e3 e4 : Expr} {y1 y2 y3 y4 : Str} {pos : Pos} (h1 : Ev C ρ e1 (.str y1)) (h2 : Ev C ρ e2 (.str y2)) (h3 : Ev C ρ e3 (.str y3)) (h4 : Ev C ρ e4 (.str y4)) (l1 : y1.length ≤ 1000) (l2 : y2.length ≤ 1000) (l3 : y3.length ≤ 1000) (l4 : y4.length ≤ 1000) :
    Ev C ρ (.JoinedStr [e1, e2, e3, e4] pos) (.str ((((Str.empty ++ y1) ++ y2) ++ y3) ++ y4)) := fun s o => by
  have l0 : Str.empty.length = 0 := rfl
  refine wpAny_JoinedStr ?_
  refine h1.to o (.refl o) fun v s1 o1 z1 _ r1 => ?_
  cases r1
  refine ⟨_, _, rfl, by rw [PySem.Str.length_append, sizeLine_eq]; omega, ?_⟩
  refine h2.to o1 z1 fun v s2 o2 z2 _ r2 => ?_
  cases r2
  refine ⟨_, _, rfl, by rw [PySem.Str.length_append, PySem.Str.length_append, sizeLine_eq]; omega, ?_⟩
  refine h3.to o2 z2 fun v s3 o3 z3 _ r3 => ?_
  cases r3
  refine ⟨_, _, rfl, by rw [PySem.Str.length_append, PySem.Str.length_append, PySem.Str.length_append, sizeLine_eq]; omega, ?_⟩
  refine h4.to o3 z3 fun v s4 o4 z4 _ r4 => ?_
  cases r4
  have hl : ((((Str.empty ++ y1) ++ y2) ++ y3) ++ y4).length ≤ sizeLine := by rw [PySem.Str.length_append, PySem.Str.length_append, PySem.Str.length_append, PySem.Str.length_append, sizeLine_eq]; omega
  exact ⟨_, _, rfl, hl, hl, z4.trans (.toks o4.base _), .str _ _⟩
end
end Mine
end
section
set_option maxRecDepth 100000
set_option linter.unusedVariables false
namespace Mine
open PySem PySem.W PyProof.Rows PySem.Calls PySem.Spec PySem.StrLaws
open Builtin.Str (occurrences tooLong partsBetween strKind glued strSub subAt lastOccurrence strSliceIndices)

theorem slice_eq (x : Str) (l u : Option Int) : Txt.slice x l u = sliceText x l u := rfl
theorem slice_from {l : List Nat} {k : Nat} (h : k ≤ l.length) : Txt.slice (mk l) (some (k : Int)) none = mk (l.drop k) := by
  rw [slice_eq, sliceText_from ⟨by omega, by simp [mk]; omega⟩]
  apply Str.ext'
  simp only [mk]
  congr 1
  rw [Int.toNat_natCast]
  apply List.take_of_length_le
  simp
theorem slice_to {l : List Nat} {k : Nat} (h : k ≤ l.length) : Txt.slice (mk l) none (some (k : Int)) = mk (l.take k) := by
  rw [slice_eq, sliceText_to ⟨by omega, by simp [mk]; omega⟩]
  apply Str.ext'
  simp [mk]
theorem slice_last {l : List Nat} (h : 1 ≤ l.length) : Txt.slice (mk l) none (some (-1)) = mk l.dropLast := by
  have e : strSliceIndices none (some (-1)) 1 (mk l).length = strSliceIndices none (some ((l.length - 1 : Nat) : Int)) 1 (mk l).length := by
    unfold strSliceIndices
    rw [mk_len]
    have h1 : (if (-1 : Int) < 0 then -1 + (l.length : Int) else -1) = ((l.length - 1 : Nat) : Int) := by rw [if_pos (by decide)]; omega
    have h2 : (if ((l.length - 1 : Nat) : Int) < 0 then ((l.length - 1 : Nat) : Int) + (l.length : Int) else ((l.length - 1 : Nat) : Int)) = ((l.length - 1 : Nat) : Int) := if_neg (by omega)
    simp only [h1, h2]
  have e2 : Txt.slice (mk l) none (some (-1)) = Txt.slice (mk l) none (some ((l.length - 1 : Nat) : Int)) := by
    unfold Txt.slice; rw [e]
  rw [e2, slice_to (by omega), List.dropLast_eq_take]
theorem slice_last0 : Txt.slice (mk []) none (some (-1)) = mk [] := by decide +kernel

theorem at_one {l : List Nat} {c i : Nat} : At (mk l) (mk [c]) (mk l).length i ↔ l[i]? = some c := subAt_one (mk l) c i
theorem contains_one {l : List Nat} {c : Nat} : Txt.contains (mk l) (mk [c]) = decide (c ∈ l) := found_one (mk l) c
theorem find_one {l : List Nat} {c : Nat} (h : c ∈ l) : occurrences (mk l) (mk [c]) 0 (mk l).length 1 = (occurrences (mk l) (mk [c]) 0 (mk l).length 1).headD 0 :: (occurrences (mk l) (mk [c]) 0 (mk l).length 1).tail ∧ (occurrences (mk l) (mk [c]) 0 (mk l).length 1).headD 0 = l.idxOf c := by
  rcases occ_head (mk l) (mk [c]) 1 (Nat.le_refl _) with ⟨_, hn⟩ | ⟨i, r, e, ha, hn⟩
  · obtain ⟨i, hi, rfl⟩ := List.getElem_of_mem h
    exact absurd (at_one.mpr (List.getElem?_eq_getElem hi)) (hn i)
  · rw [e]
    refine ⟨rfl, ?_⟩
    show i = _
    have h1 := at_one.mp ha
    obtain ⟨hi, h2⟩ := List.getElem?_eq_some_iff.mp h1
    have h3 : l.idxOf c < l.length := List.idxOf_lt_length_iff.mpr h
    have h4 : l[l.idxOf c]? = some c := by rw [List.getElem?_eq_getElem h3, List.getElem_idxOf]
    rcases Nat.lt_trichotomy i (l.idxOf c) with q | q | q
    · have := List.not_of_lt_findIdx (p := (· == c)) (xs := l) (i := i) q
      simp [h2] at this
    · exact q
    · exact absurd (at_one.mpr h4) (hn _ q)
theorem txt_find {l : List Nat} {c : Nat} (h : c ∈ l) : Txt.find (mk l) (mk [c]) = (l.idxOf c : Int) := by
  obtain ⟨h1, h2⟩ := find_one h
  unfold Txt.find
  rw [h1, h2]
/-- the last place of c -/
def lastAt (c : Nat) : List Nat → Option Nat
  | [] => none
  | x :: r => match lastAt c r with
    | some i => some (i + 1)
    | none => if x = c then some 0 else none
theorem lastAt_spec (c : Nat) : ∀ l : List Nat, (∀ i : Nat, lastAt c l = some i → l[i]? = some c ∧ ∀ k : Nat, i < k → l[k]? ≠ some c) ∧ (lastAt c l = none → ∀ k : Nat, l[k]? ≠ some c)
  | [] => ⟨fun i h => (by cases h), fun _ k h => by simp at h⟩
  | x :: r => by
    obtain ⟨h1, h2⟩ := lastAt_spec c r
    unfold lastAt
    cases e : lastAt c r with
    | some j =>
      refine ⟨fun i h => ?_, fun h => by cases h⟩
      cases h
      obtain ⟨a, b⟩ := h1 j e
      refine ⟨by simpa using a, fun k hk => ?_⟩
      cases k with
      | zero => omega
      | succ k => simpa using b k (by omega)
    | none =>
      have hn := h2 e
      by_cases q : x = c
      · simp only [q, if_true]
        refine ⟨fun i h => ?_, fun h => by cases h⟩
        cases h
        refine ⟨rfl, fun k hk => ?_⟩
        cases k with
        | zero => omega
        | succ k => simpa using hn k
      · simp only [q, if_false]
        refine ⟨fun i h => (by cases h), fun _ k => ?_⟩
        cases k with
        | zero => simpa using q
        | succ k => simpa using hn k
theorem txt_rfind (l : List Nat) (c : Nat) : Txt.rfind (mk l) (mk [c]) = match lastAt c l with | some i => (i : Int) | none => -1 := by
  obtain ⟨h1, h2⟩ := lastAt_spec c l
  unfold Txt.rfind
  rcases last_spec (mk l) (mk [c]) with ⟨e, hn⟩ | ⟨i, e, ha, hn⟩
  · rw [e]
    cases q : lastAt c l with
    | none => rfl
    | some j => exact absurd (at_one.mpr (h1 j q).1) (hn j)
  · rw [e]
    have hi := at_one.mp ha
    cases q : lastAt c l with
    | none => exact absurd hi (h2 q i)
    | some j =>
      obtain ⟨a, b⟩ := h1 j q
      rcases Nat.lt_trichotomy i j with z | z | z
      · exact absurd (at_one.mpr a) (hn j z)
      · rw [z]
      · exact absurd hi (b i z)
def lowc (c : Nat) : Nat := if 65 ≤ c ∧ c ≤ 90 then c + 32 else c
def uppc (c : Nat) : Nat := if 97 ≤ c ∧ c ≤ 122 then c - 32 else c
theorem lowerOf_ascii : ∀ c, c < 128 → Unicode.lowerOf c = [lowc c] := by decide +kernel
theorem upperOf_ascii : ∀ c, c < 128 → Unicode.upperOf c = [uppc c] := by decide +kernel
theorem flat_one (f : Nat → Nat → List Nat) (g : Nat → Nat) (l : List Nat) (h : ∀ i c, l[i]? = some c → f i c = [g c]) : placed (mk l) f = (l.map g).toArray := by
  unfold placed
  apply Array.toList_inj.mp
  simp only [mk, Array.toList_flatten, Array.toList_mapIdx]
  have : ∀ (l : List Nat) (k : Nat) , (∀ i c, l[i]? = some c → f (i + k) c = [g c]) → (List.mapIdx (fun i c => f (i + k) c) l).flatten = l.map g := by
    intro l
    induction l with
    | nil => intro k _; simp
    | cons x r ih =>
      intro k h
      rw [List.mapIdx_cons, List.flatten_cons, List.map_cons, h 0 x rfl]
      have := ih (k + 1) (fun i c e => by have := h (i + 1) c (by simpa using e); rw [show i + (k + 1) = i + 1 + k by omega]; exact this)
      simp only [List.cons_append, List.nil_append, List.cons.injEq, true_and]
      rw [← this]
      congr 1
      apply congrArg (fun z => List.mapIdx z r)
      funext i c
      rw [show i + 1 + k = i + (k + 1) by omega]
  have := this l 0 (by simpa using h)
  have e : List.map Array.toList (List.mapIdx (fun i c => (f i c).toArray) l) = List.mapIdx (fun i c => f i c) l := by
    apply List.ext_getElem?
    intro i
    simp [Function.comp_def]
  rw [e]
  simpa using this
theorem txt_lower {l : List Nat} (h : ∀ c ∈ l, c < 128) : Txt.lower (mk l) = mk (l.map lowc) := by
  unfold Txt.lower
  rw [flat_one _ lowc l fun i c e => ?_]
  · rfl
  · unfold Unicode.lowerAt
    have e' : (mk l).cps[i]? = some c := by simpa [mk] using e
    rw [e']
    have hc := h c (List.mem_of_getElem? e)
    show (if (c == 0x3A3 && _) = true then _ else _) = _
    rw [show (c == 0x3A3) = false from by rw [beq_eq_false_iff_ne]; omega, Bool.false_and, if_neg Bool.false_ne_true]
    exact lowerOf_ascii c hc
theorem txt_upper {l : List Nat} (h : ∀ c ∈ l, c < 128) : Txt.upper (mk l) = mk (l.map uppc) := by
  unfold Txt.upper
  rw [flat_one _ uppc l fun i c e => upperOf_ascii c (h c (List.mem_of_getElem? e))]
  rfl
theorem takeWhile_all {p : Nat → Bool} : ∀ {l : List Nat}, (∀ x ∈ l, p x = true) → l.takeWhile p = l
  | [], _ => rfl
  | x :: r, h => by rw [List.takeWhile_cons_of_pos (h x (.head _)), takeWhile_all fun y hy => h y (.tail _ hy)]
theorem txt_split {l : List Nat} {c : Nat} (hc : c < 256) : ∃ r, Txt.split (mk l) (mk [c]) = mk (l.takeWhile (· != c)) :: r := by
  have hk : decide (Builtin.Str.strKind (mk l) < Builtin.Str.strKind (mk [c])) = false := by
    have : Builtin.Str.strKind (mk [c]) = 1 := by
      unfold Builtin.Str.strKind
      have : ((mk [c]).cps.all (· < 256)) = true := by simp [mk, hc]
      rw [if_pos this]
    rw [this, decide_eq_false_iff_not]
    unfold Builtin.Str.strKind
    split
    · decide
    · split <;> decide
  unfold Txt.split
  rw [hk, Bool.or_false]
  have whole : (∀ i : Nat, l[i]? ≠ some c) → l.takeWhile (· != c) = l := fun h => by
    refine takeWhile_all fun x hx => ?_
    obtain ⟨i, hi, rfl⟩ := List.getElem_of_mem hx
    have := h i
    rw [List.getElem?_eq_getElem hi] at this
    simpa using this
  by_cases h0 : (mk l).length < (mk [c]).length
  · rw [decide_eq_true h0, if_pos rfl]
    have : l = [] := by
      rw [mk_len, mk_len] at h0
      exact List.length_eq_zero_iff.mp (by simpa using h0)
    subst this
    exact ⟨[], rfl⟩
  · rw [decide_eq_false h0, if_neg Bool.false_ne_true]
    rcases occ_head (mk l) (mk [c]) ((mk l).length + 1) (by omega) with ⟨e, hn⟩ | ⟨i, r, e, ha, hn⟩
    · rw [e, List.isEmpty_nil, if_pos rfl]
      exact ⟨[], by rw [whole fun i q => hn i (at_one.mpr q)]⟩
    · rw [e, List.isEmpty_cons, if_neg Bool.false_ne_true, partsBetween_eq]
      refine ⟨partsFrom (mk l) (mk [c]).length (i + (mk [c]).length) r, ?_⟩
      show strSub (mk l) 0 i :: _ = _
      congr 1
      have hi := at_one.mp ha
      have hlt : i < l.length := (List.getElem?_eq_some_iff.mp hi).1
      have ht : l.takeWhile (· != c) = l.take i := by
        have key : ∀ (l : List Nat) (i : Nat), l[i]? = some c → (∀ k, k < i → l[k]? ≠ some c) → l.takeWhile (· != c) = l.take i := by
          intro l
          induction l with
          | nil => intro i h; simp at h
          | cons x r ih =>
            intro i h hk
            cases i with
            | zero =>
              simp at h
              subst h
              simp
            | succ i =>
              have hx : x ≠ c := by have := hk 0 (by omega); simpa using this
              rw [List.takeWhile_cons_of_pos (by simpa using hx), List.take_succ_cons, ih i (by simpa using h) fun k hk' => by have := hk (k + 1) (by omega); simpa using this]
        exact key l i hi fun k hk q => hn k hk (at_one.mpr q)
      rw [ht]
      apply Str.ext'
      apply Array.toList_inj.mp
      rw [strSub_toList]
      simp [mk]
end Mine
end
section
set_option maxRecDepth 100000
set_option linter.unusedVariables false
namespace Mine
open PySem PySem.W PyProof.Rows PySem.Calls PySem.Spec
-- MAC
local macro_rules | `(tactic| k_mem) => `(tactic| first | (with_reducible exact mem_self) | (with_reducible exact List.Mem.head _) | ((with_reducible refine mem_other ?_ ?_); (focus decide); k_mem) | ((with_reducible refine List.Mem.tail _ ?_); k_mem))
local macro_rules | `(tactic| k_inst) => `(tactic| first
  | ((with_reducible refine ev_name ?_ ?_ ?_); (focus k_mem); (focus decide); decide)
  | ((with_reducible refine ev_nat ?_); rfl)
  | (with_reducible refine ev_bin (op := .BitXor) ?_ ?_ (op_xorN _ _)) | (with_reducible refine ev_bin (op := .BitAnd) ?_ ?_ (op_andN _ _)) | (with_reducible refine ev_bin (op := .RShift) ?_ ?_ (op_shrN _ _))
  | (with_reducible refine ev_bin (op := .LShift) ?_ ?_ (op_shlN ?_)) | (with_reducible refine ev_bin (op := .Add) ?_ ?_ (op_addN _ _)) | (with_reducible refine ev_bin (op := .Mod) ?_ ?_ (op_modN _ ?_))
  | ((with_reducible refine evs_cons ?_ ?_ ?h3); (case h3 => rfl)) | (with_reducible exact evs_nil))
-- CAM
def gens : List Nat := [996825010, 642813549, 513874426, 1027748829, 705979059]
def inner (top c0 : Nat) : Nat → Nat
  | 0 => c0
  | i + 1 => inner top c0 i ^^^ (if ((top >>> i) &&& 1 != 0) = true then gens.getD i 0 else 0)
def pmStep (c v : Nat) : Nat := inner (c >>> 25) (((c &&& 33554431) <<< 5) ^^^ v) 5
def polymod (vs : List Nat) : Nat := vs.foldl pmStep 1

set_option profiler true
theorem polymod_snoc (l : List Nat) (v : Nat) : polymod (l ++ [v]) = pmStep (polymod l) v := by rw [polymod, List.foldl_append]; rfl
theorem polymod_cal {C : Cx} (hn : 1 ≤ C.n) {vs : List Nat} : Cal C (.ref 158) [.list (vs.map dn)] (dn (polymod vs)) := by
  refine cal_fn (xs := []) (es := []) hn rfl rfl ["values"] (fun _ _ => .nil) ?_ ?_ ?_ ?_
  · intro s vs _ h
    match vs, h with
    | [v], _ => exact .of_eq rfl
  · decide
  · decide
  · intro h₀ L
    refine xs_cons (xt_assign (d := .list (gens.map dn)) ?_) (xs_cons (xt_assign (d := dn 1) (by k_inst)) (xs_cons (xt_for (ds := vs.map dn)
      (fun i => [("generator", .list (gens.map dn)), ("chk", dn (polymod (vs.take i)))]) ?_ ?_ ?_) (xs_stop (xt_ret ?_))))
    · show Ev _ _ _ (.list [dn 996825010, dn 642813549, dn 513874426, dn 1027748829, dn 705979059])
      exact ev_listD (by repeat' k_inst) (by decide)
    · exact evIt (by k_inst) (itr_list (by simp [Dat.flat]))
    · intro p hp
      simp only [List.mem_cons, List.not_mem_nil, or_false] at hp
      rcases hp with rfl | rfl <;> k_mem
    · intro fp i d hd
      obtain ⟨v, hv, rfl⟩ : ∃ v, vs[i]? = some v ∧ d = dn v := by
        rw [List.getElem?_map, Option.map_eq_some_iff] at hd
        obtain ⟨v, h1, h2⟩ := hd; exact ⟨v, h1, h2.symm⟩
      refine xs_cons (xt_assign (d := dn (polymod (vs.take i) >>> 25)) (by repeat' k_inst)) (xs_cons (xt_assign (d := dn (((polymod (vs.take i) &&& 33554431) <<< 5) ^^^ v)) ?_)
        (xs_cons (xt_for (ds := upTo 5) (fun j => [("generator", .list (gens.map dn)), ("top", dn (polymod (vs.take i) >>> 25)), ("chk", dn (inner (polymod (vs.take i) >>> 25) (((polymod (vs.take i) &&& 33554431) <<< 5) ^^^ v) j))]) ?_ ?_ ?_) (xs_end ?_)))
      · repeat' k_inst
        exact shl_ok 25 (Nat.lt_of_le_of_lt Nat.and_le_right (by decide)) (by decide)
      · exact evIt_range (ev_bi bi_range rfl) (by k_inst) (by decide)
      · intro p hp
        simp only [List.mem_cons, List.not_mem_nil, or_false] at hp
        rcases hp with rfl | rfl | rfl <;> k_mem
      · intro fq j d hd
        have hj : j < 5 := by
          rcases Nat.lt_or_ge j 5 with z | z
          · exact z
          · rw [List.getElem?_eq_none (by simpa [upTo] using z)] at hd; cases hd
        have e : d = dn j := by
          rw [upTo, List.getElem?_map, List.getElem?_range hj] at hd
          cases hd; rfl
        subst e
        refine xs_cons (xt_aug (d1 := dn (inner (polymod (vs.take i) >>> 25) (((polymod (vs.take i) &&& 33554431) <<< 5) ^^^ v) j)) (by k_mem)
          (ev_if (d := dn (if (((polymod (vs.take i) >>> 25) >>> j) &&& 1 != 0) = true then gens.getD j 0 else 0)) (ts_val (d := dn (((polymod (vs.take i) >>> 25) >>> j) &&& 1)) (by repeat' k_inst) (tr_nat _)) (fun h => ?_) fun h => ?_) (iop_xorN _ _)) (xs_end ?_)
        · rw [if_pos h]
          refine ev_item (by k_inst) (by k_inst) (it_listN (by decide) ?_)
          have : gens[j]? = some (gens.getD j 0) := by
            rw [List.getD_eq_getElem?_getD, List.getElem?_eq_getElem (show j < gens.length from hj)]; rfl
          rw [List.getElem?_map, this]; rfl
        · rw [h, if_neg Bool.false_ne_true]
          k_inst
        · intro p hp
          simp only [List.mem_cons, List.not_mem_nil, or_false] at hp
          rcases hp with rfl | rfl | rfl <;> k_mem
      · intro p hp
        simp only [List.mem_cons, List.not_mem_nil, or_false] at hp
        rcases hp with rfl | rfl
        · k_mem
        · rw [List.take_add_one, hv]
          show (_, dn (polymod (vs.take i ++ [v]))) ∈ _
          rw [polymod_snoc]
          exact .tail _ (.tail _ (.head _))
    · have e : polymod (List.take (vs.map dn).length vs) = polymod vs := by rw [List.length_map, List.take_length]
      rw [e]
      k_inst
end Mine
end
section
set_option maxRecDepth 100000
set_option linter.unusedVariables false
namespace Mine
open PySem PySem.W PyProof.Rows PySem.Calls PySem.Spec
-- MAC
local macro_rules | `(tactic| k_mem) => `(tactic| first | (with_reducible exact mem_self) | (with_reducible exact List.Mem.head _) | ((with_reducible refine mem_other ?_ ?_); (focus decide); k_mem) | ((with_reducible refine List.Mem.tail _ ?_); k_mem))
local macro_rules | `(tactic| k_inst) => `(tactic| first
  | ((with_reducible refine ev_name ?_ ?_ ?_); (focus k_mem); (focus decide); decide)
  | ((with_reducible refine ev_nat ?_); rfl)
  | (with_reducible refine ev_bin (op := .BitXor) ?_ ?_ (op_xorN _ _)) | (with_reducible refine ev_bin (op := .BitAnd) ?_ ?_ (op_andN _ _)) | (with_reducible refine ev_bin (op := .RShift) ?_ ?_ (op_shrN _ _))
  | (with_reducible refine ev_bin (op := .LShift) ?_ ?_ (op_shlN ?_)) | (with_reducible refine ev_bin (op := .Add) ?_ ?_ (op_addN _ _)) | (with_reducible refine ev_bin (op := .Mod) ?_ ?_ (op_modN _ ?_))
  | ((with_reducible refine evs_cons ?_ ?_ ?h3); (case h3 => rfl)) | (with_reducible exact evs_nil))
-- CAM
def hexp (l : List Nat) : List Nat := l.map (· >>> 5) ++ [0] ++ l.map (· &&& 31)
theorem hexp_cal {C : Cx} (hn : 1 ≤ C.n) {x : Str} (ha : x.cps.all (· < 128) = true) (hl : x.length ≤ 1000) : Cal C (.ref 163) [.str x] (nl (hexp (codes x))) := by
  refine cal_fn (xs := []) (es := []) hn rfl rfl ["hrp"] (fun _ _ => .nil) ?_ ?_ ?_ ?_
  · intro s vs _ h
    match vs, h with
    | [v], _ => exact .of_eq rfl
  · decide
  · decide
  · intro h₀ L
    have hlc : (codes x).length ≤ 1000 := hl
    refine xs_stop (xt_ret ?_)
    refine ev_bin (ev_bin (d1 := nl ((codes x).map (· >>> 5))) (d2 := nl [0]) ?_ ?_ (op_addLm ?_)) (d2 := nl ((codes x).map (· &&& 31))) ?_ (op_addLm ?_)
    · show Ev _ _ _ (.list (((codes x).map (· >>> 5)).map dn))
      rw [List.map_map]
      refine ev_compM (codes x) ch _ ch_inj (evIt (by k_inst) (itr_str ha)) (fun _ => rfl) (fun _ => rfl) (by rw [sizeLine_eq]; omega) (fun N a _ => ?_) free_nil rfl
      refine ev_bin (ev_call (ev_bi bi_ord rfl) (evs1 (by k_inst)) (kp_builtin _) (cal_ord a)) (by k_inst) (op_shrN _ _)
    · show Ev _ _ _ (.list [dn 0])
      exact ev_listD (by repeat' k_inst) (by decide)
    · simp [sizeLine_eq]; omega
    · show Ev _ _ _ (.list (((codes x).map (· &&& 31)).map dn))
      rw [List.map_map]
      refine ev_compM (codes x) ch _ ch_inj (evIt (by k_inst) (itr_str ha)) (fun _ => rfl) (fun _ => rfl) (by rw [sizeLine_eq]; omega) (fun N a _ => ?_) free_nil rfl
      refine ev_bin (ev_call (ev_bi bi_ord rfl) (evs1 (by k_inst)) (kp_builtin _) (cal_ord a)) (by k_inst) (op_andN _ _)
    · simp [sizeLine_eq]; omega
end Mine
end
section
set_option maxRecDepth 100000
set_option linter.unusedVariables false
namespace Mine
open PySem PySem.W PyProof.Rows PySem.Calls PySem.Spec
-- MAC
local macro_rules | `(tactic| k_mem) => `(tactic| first | (with_reducible exact mem_self) | (with_reducible exact List.Mem.head _) | ((with_reducible refine mem_other ?_ ?_); (focus decide); k_mem) | ((with_reducible refine List.Mem.tail _ ?_); k_mem))
local macro_rules | `(tactic| k_inst) => `(tactic| first
  | ((with_reducible refine ev_name ?_ ?_ ?_); (focus k_mem); (focus decide); decide)
  | ((with_reducible refine ev_nat ?_); rfl)
  | (with_reducible refine ev_bin (op := .BitXor) ?_ ?_ (op_xorN _ _)) | (with_reducible refine ev_bin (op := .BitAnd) ?_ ?_ (op_andN _ _)) | (with_reducible refine ev_bin (op := .RShift) ?_ ?_ (op_shrN _ _))
  | (with_reducible refine ev_bin (op := .LShift) ?_ ?_ (op_shlN ?_)) | (with_reducible refine ev_bin (op := .Add) ?_ ?_ (op_addN _ _)) | (with_reducible refine ev_bin (op := .Mod) ?_ ?_ (op_modN _ ?_))
  | ((with_reducible refine evs_cons ?_ ?_ ?h3); (case h3 => rfl)) | (with_reducible exact evs_nil))
-- CAM
theorem enc_2 (w : World) : ∃ t, findCls (Kf w) (.ref 147) (.type "type") "BECH32M" = some (.val (.int 2 t)) := ⟨_, rfl⟩
theorem ev_bech32 {C : Cx} {ρ : List (Str × Dat)} {p q : Pos} (hk : C.env.kindOf "Encoding" = some .globalImplicit := by rfl) : Ev C ρ (.Attribute (.Name "Encoding" p) "BECH32" q) (dn 1) := by
  obtain ⟨t, h⟩ := enc_1 C.w
  exact (ev_clsAttr (ev_gl gl_Encoding hk) (enc_reads C.w) h rfl).rep fun _ _ => .int _ _
theorem ev_bech32m {C : Cx} {ρ : List (Str × Dat)} {p q : Pos} (hk : C.env.kindOf "Encoding" = some .globalImplicit := by rfl) : Ev C ρ (.Attribute (.Name "Encoding" p) "BECH32M" q) (dn 2) := by
  obtain ⟨t, h⟩ := enc_2 C.w
  exact (ev_clsAttr (ev_gl gl_Encoding hk) (enc_reads C.w) h rfl).rep fun _ _ => .int _ _
theorem ev_BC {C : Cx} {ρ : List (Str × Dat)} {p : Pos} (hk : C.env.kindOf "BECH32_CONST" = some .globalImplicit := by rfl) : Ev C ρ (.Name "BECH32_CONST" p) (dn 1) := (ev_gl gl_BC hk).rep fun _ _ => .int _ _
theorem ev_BM {C : Cx} {ρ : List (Str × Dat)} {p : Pos} (hk : C.env.kindOf "BECH32M_CONST" = some .globalImplicit := by rfl) : Ev C ρ (.Name "BECH32M_CONST" p) (dn 734539939) := (ev_gl gl_BM hk).rep fun _ _ => .int _ _
theorem kp_158 {C : Cx} : Kp C (.ref 158) := kp_K fun w => by kernel_rfl
theorem kp_163 {C : Cx} : Kp C (.ref 163) := kp_K fun w => by kernel_rfl

def encOf (c : Nat) : Option Nat := if (c == 1) = true then some 1 else if (c == 734539939) = true then some 2 else none
def encDat : Option Nat → Dat
  | some n => dn n
  | none => .none
theorem hexp_len (l : List Nat) : (hexp l).length = 2 * l.length + 1 := by simp [hexp]; omega
theorem verify_cal {C : Cx} (hn : 2 ≤ C.n) {x : Str} {data : List Nat} (ha : x.cps.all (· < 128) = true) (hl : x.length ≤ 1000) (hd : data.length ≤ 100000) : Cal C (.ref 170) [.str x, nl data] (encDat (encOf (polymod (hexp (codes x) ++ data)))) := by
  refine cal_fn (xs := []) (es := []) (by omega) rfl rfl ["hrp", "data"] (fun _ _ => .nil) ?_ (by decide) (by decide) ?_
  · intro s vs _ h
    match vs, h with
    | [v, u], _ => exact .of_eq rfl
  · intro h₀ L
    have hlc : (codes x).length ≤ 1000 := hl
    have hn' : 1 ≤ C.n - 1 := by omega
    refine xs_cons (xt_assign (d := dn (polymod (hexp (codes x) ++ data))) ?_) (xs_stop (xt_if (b := polymod (hexp (codes x) ++ data) == 1) ?_ (fun h => xs_stop (xt_ret ?_)) fun h => xs_stop (xt_if (b := polymod (hexp (codes x) ++ data) == 734539939) ?_ (fun h' => xs_stop (xt_ret ?_)) fun h' => xs_stop (xt_ret ?_) ?_)) ?_)
    · refine ev_call (ev_gl gl_bech32_polymod rfl) (evs1 (d := nl (hexp (codes x) ++ data)) ?_) kp_158 (polymod_cal hn')
      refine ev_bin (d1 := nl (hexp (codes x))) (d2 := nl data) ?_ (by k_inst) (op_addLm (by rw [hexp_len, sizeLine_eq]; omega))
      exact ev_call (ev_gl gl_bech32_hrp_expand rfl) (evs1 (by k_inst)) kp_163 (hexp_cal hn' ha hl)
    · exact ts_cmp (by k_inst) ev_BC (cmp_eqN _ _)
    · rw [encOf, if_pos h]; exact ev_bech32
    · exact ts_cmp (by k_inst) ev_BM (cmp_eqN _ _)
    · rw [encOf, h, if_neg Bool.false_ne_true, if_pos h']; exact ev_bech32m
    · rw [encOf, h, if_neg Bool.false_ne_true, h', if_neg Bool.false_ne_true]; exact ev_none _ _
    · unfold encOf; split <;> rfl
    · rfl
end Mine
end
section
set_option maxRecDepth 100000
set_option linter.unusedVariables false
namespace Mine
open PySem PySem.W PyProof.Rows PySem.Calls PySem.Spec
-- MAC
local macro_rules | `(tactic| k_mem) => `(tactic| first | (with_reducible exact mem_self) | (with_reducible exact List.Mem.head _) | ((with_reducible refine mem_other ?_ ?_); (focus decide); k_mem) | ((with_reducible refine List.Mem.tail _ ?_); k_mem))
local macro_rules | `(tactic| k_inst) => `(tactic| first
  | ((with_reducible refine ev_name ?_ ?_ ?_); (focus k_mem); (focus decide); decide)
  | ((with_reducible refine ev_nat ?_); rfl)
  | (with_reducible refine ev_bin (op := .BitXor) ?_ ?_ (op_xorN _ _)) | (with_reducible refine ev_bin (op := .BitAnd) ?_ ?_ (op_andN _ _)) | (with_reducible refine ev_bin (op := .RShift) ?_ ?_ (op_shrN _ _))
  | (with_reducible refine ev_bin (op := .LShift) ?_ ?_ (op_shlN ?_)) | (with_reducible refine ev_bin (op := .Add) ?_ ?_ (op_addN _ _)) | (with_reducible refine ev_bin (op := .Mod) ?_ ?_ (op_modN _ ?_))
  | ((with_reducible refine evs_cons ?_ ?_ ?h3); (case h3 => rfl)) | (with_reducible exact evs_nil))
-- CAM
theorem mul_ok {a b : Nat} (m n : Nat) (h : a < 2 ^ m) (h' : b < 2 ^ n) (h2 : m + n ≤ 134217728) : IntMulOk (a : Int) (b : Int) :=
  .of_le (intBits_le_iff.mpr (by simpa using h)) (intBits_le_iff.mpr (by simpa using h')) h2
theorem len1 {α : Type} {vs : List α} (h : vs.length = 1) : ∃ a, vs = [a] := by
  match vs, h with
  | [a], _ => exact ⟨a, rfl⟩
theorem len2 {α : Type} {vs : List α} (h : vs.length = 2) : ∃ a b, vs = [a, b] := by
  match vs, h with
  | [a, b], _ => exact ⟨a, b, rfl⟩
theorem len3 {α : Type} {vs : List α} (h : vs.length = 3) : ∃ a b c, vs = [a, b, c] := by
  match vs, h with
  | [a, b, c], _ => exact ⟨a, b, c, rfl⟩
theorem cells_one {l : List (Str × Addr)} {y : Str} {c : Addr} (e : l = [(y, c)]) : ∀ p ∈ l, l.lookup p.1 = some p.2 := by
  subst e
  intro p hp
  cases List.mem_singleton.mp hp
  simp
def cstOf (e : Nat) : Nat := if (e == 2) = true then 734539939 else 1
def pmOf (e : Nat) (h data : List Nat) : Nat := polymod (hexp h ++ data ++ [0, 0, 0, 0, 0, 0]) ^^^ cstOf e
def checksum (e : Nat) (h data : List Nat) : List Nat := (List.range 6).map fun i => (pmOf e h data >>> (5 * (5 - i))) &&& 31
theorem checksum_cal {C : Cx} (hn : 2 ≤ C.n) {e : Nat} {x : Str} {data : List Nat} (ha : x.cps.all (· < 128) = true) (hl : x.length ≤ 1000) (hd : data.length ≤ 100000) : Cal C (.ref 175) [dn e, .str x, nl data] (nl (checksum e (codes x) data)) := by
  refine cal_fnC (by omega) rfl rfl ["encoding", "hrp", "data"] ?_ (by decide) (by decide) ?_ ?_
  · intro vs h
    obtain ⟨a, b, c, rfl⟩ := len3 h
    rfl
  · exact fun L => cells_one (y := "polymod") (c := L + 1) rfl
  · intro h₀ L
    have hlc : (codes x).length ≤ 1000 := hl
    have hn' : 1 ≤ C.n - 1 := by omega
    refine xs_cons (xt_assign (d := nl (hexp (codes x) ++ data)) ?_) (xs_cons (xt_assign (d := dn (cstOf e)) ?_) (xs_cons (xt_assignC (c := L + 1) (d := dn (pmOf e (codes x) data)) ?_ rfl rfl ⟨"polymod", .head _⟩ ?_) (xs_stop (xt_ret ?_))))
    · refine ev_bin (d1 := nl (hexp (codes x))) (d2 := nl data) ?_ (by k_inst) (op_addLm (by rw [hexp_len, sizeLine_eq]; omega))
      exact ev_call (ev_gl gl_bech32_hrp_expand rfl) (evs1 (by k_inst)) kp_163 (hexp_cal hn' ha hl)
    · refine ev_if (c := e == 2) (ts_cmp (by k_inst) ev_bech32m (cmp_eqN _ _)) (fun h => ?_) fun h => ?_
      · rw [cstOf, if_pos h]; exact ev_BM
      · rw [cstOf, h, if_neg Bool.false_ne_true]; exact ev_BC
    · refine ev_bin (ev_call (ev_gl gl_bech32_polymod rfl) (evs1 (d := nl (hexp (codes x) ++ data ++ [0, 0, 0, 0, 0, 0])) ?_) kp_158 (polymod_cal hn')) (by k_inst) (op_xorN _ _)
      refine ev_bin (d1 := nl (hexp (codes x) ++ data)) (d2 := nl [0, 0, 0, 0, 0, 0]) (by k_inst) ?_ (op_addLm (by rw [List.length_append, hexp_len, sizeLine_eq]; show _ + 6 ≤ _; omega))
      show Ev _ _ _ (.list [dn 0, dn 0, dn 0, dn 0, dn 0, dn 0])
      exact ev_listD (by repeat' k_inst) (by decide)
    · intro y hy q
      have : List.lookup y [((("polymod" : Str), L + 1) : Str × Addr)] = some (L + 1) := q
      rw [List.lookup_cons, show (y == "polymod") = false from by simpa using hy] at this
      cases this
    · show Ev _ _ _ (.list (((List.range 6).map fun i => (pmOf e (codes x) data >>> (5 * (5 - i))) &&& 31).map dn))
      rw [List.map_map]
      refine ev_compM (ρc := [("polymod", dn (pmOf e (codes x) data))]) (List.range 6) dn _ dn_inj (evIt_range (n := 6) (ev_bi bi_range rfl) (by k_inst) (by decide)) (fun _ => rfl) (fun _ => rfl) (by decide) (fun N a ha => ?_) ?_ rfl
      · have h6 : a < 6 := List.mem_range.mp ha
        refine ev_bin (ev_bin (by k_inst) (ev_bin (by k_inst) (ev_bin (by k_inst) (by k_inst) (op_subN (by omega))) (op_mulN (mul_ok 3 3 (by decide) (by omega) (by decide)))) (op_shrN _ _)) (by k_inst) (op_andN _ _)
      · intro p hp
        cases List.mem_singleton.mp hp
        exact ⟨by k_mem, rfl, rfl, rfl⟩
end Mine
end
section
set_option maxRecDepth 100000
set_option linter.unusedVariables false
namespace Mine
open PySem PySem.W PyProof.Rows PySem.Calls PySem.Spec
-- MAC
local macro_rules | `(tactic| k_mem) => `(tactic| first | (with_reducible exact mem_self) | (with_reducible exact List.Mem.head _) | ((with_reducible refine mem_other ?_ ?_); (focus decide); k_mem) | ((with_reducible refine List.Mem.tail _ ?_); k_mem))
local macro_rules | `(tactic| k_inst) => `(tactic| first
  | ((with_reducible refine ev_name ?_ ?_ ?_); (focus k_mem); (focus decide); decide)
  | ((with_reducible refine ev_nat ?_); rfl)
  | (with_reducible refine ev_bin (op := .BitXor) ?_ ?_ (op_xorN _ _)) | (with_reducible refine ev_bin (op := .BitAnd) ?_ ?_ (op_andN _ _)) | (with_reducible refine ev_bin (op := .RShift) ?_ ?_ (op_shrN _ _))
  | (with_reducible refine ev_bin (op := .LShift) ?_ ?_ (op_shlN ?_)) | (with_reducible refine ev_bin (op := .Add) ?_ ?_ (op_addN _ _)) | (with_reducible refine ev_bin (op := .Mod) ?_ ?_ (op_modN _ ?_))
  | ((with_reducible refine evs_cons ?_ ?_ ?h3); (case h3 => rfl)) | (with_reducible exact evs_nil))
-- CAM
theorem flat_nl {l : List Nat} : ∀ d ∈ l.map dn, d.flat = true := fun d hd => by
  obtain ⟨a, _, rfl⟩ := List.mem_map.mp hd
  rfl
def CH : List Nat := codes "qpzry9x8gf2tvdw0s3jn54khce6mua7l"
theorem CH_len : CH.length = 32 := by decide +kernel
theorem CH_mk : ("qpzry9x8gf2tvdw0s3jn54khce6mua7l" : Str) = mk CH := by decide +kernel
theorem kp_175 {C : Cx} : Kp C (.ref 175) := kp_K fun w => by kernel_rfl
theorem ev_CH {C : Cx} {ρ : List (Str × Dat)} {p : Pos} (hk : C.env.kindOf "CHARSET" = some .globalImplicit := by rfl) : Ev C ρ (.Name "CHARSET" p) (.str (mk CH)) := by
  rw [← CH_mk]
  exact (ev_gl gl_CHARSET hk).rep fun _ _ => .str _ _
def benc (e : Nat) (h data : List Nat) : List Nat := h ++ [49] ++ (data ++ checksum e h data).map fun d => CH.getD d 0
theorem checksum_lt {e : Nat} {h data : List Nat} : ∀ d ∈ checksum e h data, d < 32 := fun d hd => by
  obtain ⟨i, _, rfl⟩ := List.mem_map.mp hd
  exact Nat.lt_of_le_of_lt Nat.and_le_right (by decide)
theorem checksum_len {e : Nat} {h data : List Nat} : (checksum e h data).length = 6 := by simp [checksum]
theorem one_mk : ("1" : Str) = mk [49] := by
  rw [show ([49] : List Nat) = codes "1" by decide +kernel]
  exact (mk_codes _).symm
theorem nil_mk : ("" : Str) = mk [] := by
  rw [show ([] : List Nat) = codes "" by decide +kernel]
  exact (mk_codes _).symm
theorem ev_s1 {C : Cx} {ρ : List (Str × Dat)} {k : Nat} {p : Pos} : Ev C ρ (.Constant (.str "1") k p) (.str (mk [49])) := by
  rw [← one_mk]
  exact ev_str _ _ _
theorem ev_s0 {C : Cx} {ρ : List (Str × Dat)} {k : Nat} {p : Pos} : Ev C ρ (.Constant (.str "") k p) (.str (mk [])) := by
  rw [← nil_mk]
  exact ev_str _ _ _
theorem benc_cal {C : Cx} (hn : 3 ≤ C.n) {e : Nat} {h data : List Nat} (ha : ∀ c ∈ h, c < 128) (hl : h.length ≤ 1000) (hd : data.length ≤ 100000) (hb : ∀ d ∈ data, d < 32) : Cal C (.ref 180) [dn e, .str (mk h), nl data] (.str (mk (benc e h data))) := by
  refine cal_fn (xs := []) (es := []) (by omega) rfl rfl ["encoding", "hrp", "data"] (fun _ _ => .nil) ?_ (by decide) (by decide) ?_
  · intro s vs _ h
    obtain ⟨a, b, c, rfl⟩ := len3 h
    exact .of_eq rfl
  · intro h₀ L
    have hsum : (data ++ checksum e h data).length ≤ 100006 := by rw [List.length_append, checksum_len]; omega
    have hlt : ∀ d ∈ data ++ checksum e h data, d < 32 := fun d hd => (List.mem_append.mp hd).elim (hb d) (checksum_lt d)
    refine xs_cons (xt_assign (d := nl (data ++ checksum e h data)) ?_) (xs_stop (xt_ret ?_))
    · refine ev_bin (d1 := nl data) (d2 := nl (checksum e h data)) (by k_inst) ?_ (op_addLm (by rw [checksum_len, sizeLine_eq]; omega))
      exact ev_call (ev_gl gl_bech32_create_checksum rfl) (by repeat' k_inst) kp_175 (checksum_cal (x := mk h) (show 2 ≤ C.n - 1 by omega) (mk_ascii ha) (by rw [mk_len]; exact hl) hd)
    · have e1 : mk (benc e h data) = (mk h ++ mk [49]) ++ mk ((data ++ checksum e h data).map fun d => CH.getD d 0) := by rw [mk_app, mk_app]; rfl
      rw [e1]
      refine ev_bin (ev_bin (by k_inst) ev_s1 (op_addS (y := mk [49]) (by rw [mk_len, sizeLine_eq]; show _ + 1 ≤ _; omega))) ?_ (op_addS (by rw [mk_app, mk_len, mk_len, List.length_map, List.length_append, sizeLine_eq]; show _ + 1 + _ ≤ _; omega))
      have hxs : (data ++ checksum e h data).map (fun d => Dat.str (mk [CH.getD d 0])) = (((data ++ checksum e h data).map fun d => CH.getD d 0).map fun c => mk [c]).map .str := by rw [List.map_map, List.map_map]; rfl
      refine ev_meth (d1 := .str (mk [])) (ds := [.list ((((data ++ checksum e h data).map fun d => CH.getD d 0).map fun c => mk [c]).map .str)]) ev_s0 (evs1 ?_) (fun s v r => typeS v r) F.plainAttrs_str F.slot_str_join F.type_str_join ((cal_join ?_).cast ?_)
      · rw [← hxs]
        refine ev_compM (data ++ checksum e h data) dn _ dn_inj (evIt (by k_inst) (itr_list flat_nl)) (fun _ => rfl) (fun _ => rfl) (by rw [sizeLine_eq]; omega) (fun N a ha => ?_) free_nil rfl
        have h32 := hlt a ha
        refine ev_item (d2 := dn a) ev_CH (by k_inst) ?_
        rw [← mk_item (by rw [CH_len]; exact h32)]
        exact it_str (by omega) (by rw [mk_len, CH_len]; omega) (by rw [mk_len, CH_len]; omega)
      · refine join_ok (fun y hy => ?_) rfl (by simp only [List.length_map]; omega)
        obtain ⟨c, _, rfl⟩ := List.mem_map.mp hy
        exact Nat.le_refl 1
      · rw [mk_join]
end Mine
end
section
set_option maxRecDepth 100000
set_option linter.unusedVariables false
namespace Mine
open PySem PySem.W PyProof.Rows PySem.Calls PySem.Spec
-- MAC
local macro_rules | `(tactic| k_mem) => `(tactic| first | (with_reducible exact mem_self) | (with_reducible exact List.Mem.head _) | ((with_reducible refine mem_other ?_ ?_); (focus decide); k_mem) | ((with_reducible refine List.Mem.tail _ ?_); k_mem))
local macro_rules | `(tactic| k_inst) => `(tactic| first
  | ((with_reducible refine ev_name ?_ ?_ ?_); (focus k_mem); (focus decide); decide)
  | ((with_reducible refine ev_nat ?_); rfl)
  | (with_reducible refine ev_bin (op := .BitXor) ?_ ?_ (op_xorN _ _)) | (with_reducible refine ev_bin (op := .BitAnd) ?_ ?_ (op_andN _ _)) | (with_reducible refine ev_bin (op := .RShift) ?_ ?_ (op_shrN _ _))
  | (with_reducible refine ev_bin (op := .LShift) ?_ ?_ (op_shlN ?_)) | (with_reducible refine ev_bin (op := .Add) ?_ ?_ (op_addN _ _)) | (with_reducible refine ev_bin (op := .Mod) ?_ ?_ (op_modN _ ?_))
  | ((with_reducible refine evs_cons ?_ ?_ ?h3); (case h3 => rfl)) | (with_reducible exact evs_nil))
-- CAM
def badc (c : Nat) : Bool := decide (c < 33) || decide (c > 126)
def odd1 (l : List Nat) : Bool := l.any badc || (!(l.map lowc == l) && !(l.map uppc == l))
def bdec (l : List Nat) : Option (Nat × List Nat × List Nat) :=
  if odd1 l = true then none else
    match lastAt 49 (l.map lowc) with
    | none => none
    | some pos =>
      if (decide (pos < 1) || (decide (pos + 7 > l.length) || decide (l.length > 90))) = true then none else
      if (((l.map lowc).drop (pos + 1)).all fun c => decide (c ∈ CH)) = true then
        (encOf (polymod (hexp ((l.map lowc).take pos) ++ ((l.map lowc).drop (pos + 1)).map CH.idxOf))).map fun e =>
          (e, (l.map lowc).take pos, (((l.map lowc).drop (pos + 1)).map CH.idxOf).take (((l.map lowc).drop (pos + 1)).length - 6))
      else none
def bdecDat : Option (Nat × List Nat × List Nat) → Dat
  | none => .tup [.none, .none, .none]
  | some (e, h, d) => .tup [dn e, .str (mk h), nl d]
theorem kp_170 {C : Cx} : Kp C (.ref 170) := kp_K fun w => by kernel_rfl
theorem flat_ch {l : List Nat} : ∀ d ∈ l.map ch, d.flat = true := fun d hd => by
  obtain ⟨a, _, rfl⟩ := List.mem_map.mp hd
  rfl
theorem lowc_lt {c : Nat} (h : c < 128) : lowc c < 128 := by unfold lowc; split <;> omega
theorem ch_at {l : List Nat} {i : Nat} {d : Dat} (h : (l.map ch)[i]? = some d) : d = ch (l.getD i 0) ∧ i < l.length := by
  rw [List.getElem?_map, Option.map_eq_some_iff] at h
  obtain ⟨c, h1, rfl⟩ := h
  obtain ⟨hi, h2⟩ := List.getElem?_eq_some_iff.mp h1
  exact ⟨by rw [List.getD_eq_getElem?_getD, h1]; rfl, hi⟩
theorem fit_mk {l : List Nat} (h : l.length ≤ 1000) : Builtin.Str.tooLong (mk l).length = false := by
  unfold Builtin.Str.tooLong; rw [mk_len, sizeLine_eq, decide_eq_false_iff_not]; omega

theorem ev_from {C : Cx} {ρ : List (Str × Dat)} {v e : Expr} {p pos : Pos} {l : List Nat} {k : Nat} (h : Ev C ρ v (.str (mk l))) (he : Ev C ρ e (dn k)) (hk : k ≤ l.length) (hl : l.length ≤ 1000) : Ev C ρ (.Subscript v (.Slice (some e) none none p) pos) (.str (mk (l.drop k))) :=
  (ev_slice h (.some he) .none .none (sl_str (by rw [mk_len, sizeLine_eq]; omega))).cast (by rw [slice_from hk])
theorem ev_to {C : Cx} {ρ : List (Str × Dat)} {v e : Expr} {p pos : Pos} {l : List Nat} {k : Nat} (h : Ev C ρ v (.str (mk l))) (he : Ev C ρ e (dn k)) (hk : k ≤ l.length) (hl : l.length ≤ 1000) : Ev C ρ (.Subscript v (.Slice none (some e) none p) pos) (.str (mk (l.take k))) :=
  (ev_slice h .none (.some he) .none (sl_str (by rw [mk_len, sizeLine_eq]; omega))).cast (by rw [slice_to hk])
theorem ev_lenS {C : Cx} {ρ : List (Str × Dat)} {e : Expr} {p pos : Pos} {l : List Nat} (h : Ev C ρ e (.str (mk l))) (hl : l.length ≤ 1000) (hk : C.env.kindOf "len" = some .globalImplicit := by rfl) (hn : notStar e = true := by rfl)
    (hform : eval (.Call (.Name "len" p) [e] [] pos) C.env = (do callWith pos (← eval (.Name "len" p) C.env) [] (backTo pos (starEach [e] C.env)) (backToKw pos (keywordEach [] C.env))) := by rfl) : Ev C ρ (.Call (.Name "len" p) [e] [] pos) (dn l.length) :=
  (ev_call (ev_bi bi_len hk) (evs1 h hn) (kp_builtin _) (cal_lenS (by rw [mk_len]; omega)) hform).cast (by rw [mk_len])
theorem bdec_cal {C : Cx} (hn : 4 ≤ C.n) {l : List Nat} (ha : ∀ c ∈ l, c < 128) (hl : l.length ≤ 1000) : Cal C (.ref 185) [.str (mk l)] (bdecDat (bdec l)) := by
  refine cal_fn (xs := []) (es := []) (by omega) rfl rfl ["bech"] (fun _ _ => .nil) ?_ (by decide) (by decide) ?_
  · intro s vs _ h
    obtain ⟨a, rfl⟩ := len1 h
    exact .of_eq rfl
  · intro h₀ L
    have hlow : ∀ c ∈ l.map lowc, c < 128 := fun c hc => by
      obtain ⟨d, hd, rfl⟩ := List.mem_map.mp hc
      exact lowc_lt (ha d hd)
    refine xs_ifr (b := odd1 l) ?_ (fun h => ?_) fun hodd => ?_
    · refine (ts_bool (or_cons (ts_val (d := .bool ((List.range (l.map ch).length).any fun i => badc (l.getD i 0))) (ev_anyG (ev_bi bi_any rfl) (show 1 ≤ C.n - 1 by omega) (evIt (by k_inst) (itr_str (mk_ascii ha))) flat_ch rfl rfl ?_) (tr_bool _)) fun _ => or_cons (ts_bool (and_cons (ts_cmp (d1 := .str (mk (l.map lowc))) ?_ (by k_inst) (cmp_neS _ _)) fun _ => and_cons (ts_cmp (d1 := .str (mk (l.map uppc))) ?_ (by k_inst) (cmp_neS _ _)) fun _ => and_nil)) fun _ => or_nil)).cast ?_
      · intro A' E' N code i d v s₂ m₂ hd rv hns hv W st
        obtain ⟨rfl, hi⟩ := ch_at hd
        cases rv with | str _ t => ?_
        refine wpAny_Or2 (wpAny_Compare1 (raw_ord W st rfl rfl rfl rfl rfl hns hv (wpAny_Constant_int (PySem.P.lt_int (wpAny_truthy_bool ?_)))))
        by_cases h33 : l.getD i 0 < 33
        · rw [if_pos (by rw [decide_eq_true_iff]; omega)]
          refine ⟨?_, _, rfl⟩
          show Value.bool _ = Value.bool (badc (l.getD i 0))
          unfold badc
          rw [decide_eq_true h33, Bool.true_or, decide_eq_true (by omega)]
        · rw [if_neg (by rw [decide_eq_true_iff]; omega)]
          refine wpAny_Compare1 (raw_ord W st rfl rfl rfl rfl rfl hns hv (wpAny_Constant_int (PySem.P.gt_int ⟨?_, _, rfl⟩)))
          show Value.bool _ = Value.bool (badc (l.getD i 0))
          unfold badc
          rw [decide_eq_false h33, Bool.false_or]
          congr 1
          rw [Bool.eq_iff_iff, decide_eq_true_iff, decide_eq_true_iff]
          omega
      · rw [← txt_lower ha]
        exact ev_meth (ds := []) (by k_inst) evs_nil (fun s v r => typeS v r) F.plainAttrs_str F.slot_str_lower F.type_str_lower (cal_lower (by rw [txt_lower ha]; exact fit_mk (by rw [List.length_map]; exact hl)))
      · rw [← txt_upper ha]
        exact ev_meth (ds := []) (by k_inst) evs_nil (fun s v r => typeS v r) F.plainAttrs_str F.slot_str_upper F.type_str_upper (cal_upper (by rw [txt_upper ha]; exact fit_mk (by rw [List.length_map]; exact hl)))
      · rw [List.length_map, any_idx, odd1]
        simp only [Bool.and_true, Bool.or_false]
        congr 2
        · rw [Bool.eq_iff_iff]; simp [mk_inj]
        · rw [Bool.eq_iff_iff]; simp [mk_inj]
    · rw [bdec, if_pos h]
      exact xs_stop (xt_ret (ev_tupD (evs3 (ev_none _ _) (ev_none _ _) (ev_none _ _)) (by decide)))
    · rw [bdec, hodd, if_neg Bool.false_ne_true]
      have hlm : (l.map lowc).length = l.length := List.length_map ..
      refine xs_cons (xt_assign (d := .str (mk (l.map lowc))) ?_) (xs_cons (xt_assign (d := .int (Txt.rfind (mk (l.map lowc)) (mk [49]))) ?_) ?_)
      · rw [← txt_lower ha]
        exact ev_meth (ds := []) (by k_inst) evs_nil (fun s v r => typeS v r) F.plainAttrs_str F.slot_str_lower F.type_str_lower (cal_lower (by rw [txt_lower ha]; exact fit_mk (by rw [List.length_map]; exact hl)))
      · exact ev_meth (ds := [.str (mk [49])]) (by k_inst) (evs1 ev_s1) (fun s v r => typeS v r) F.plainAttrs_str F.slot_str_rfind F.type_str_rfind (cal_rfind _ _)
      · rw [txt_rfind]
        cases hp : lastAt 49 (l.map lowc) with
        | none =>
          simp only
          refine xs_stop (xt_if (b := true) ?_ (fun _ => xs_stop (xt_ret (ev_tupD (evs3 (ev_none _ _) (ev_none _ _) (ev_none _ _)) (by decide)))) fun q => by cases q)
          exact (ts_bool (or_t ((ts_cmp (by k_inst) (ev_int _ _ _) (cmp_lt _ _)).cast rfl)))
        | some pos =>
          simp only
          have hb : (l.map lowc).length ≤ 1000 := by rw [hlm]; exact hl
          refine xs_ifr (b := decide (pos < 1) || (decide (pos + 7 > l.length) || decide (l.length > 90))) ?_ (fun h => ?_) fun h2 => ?_
          · refine (ts_bool (or_cons (ts_cmp (d1 := dn pos) (by k_inst) (by k_inst) (cmp_ltN _ 1)) fun _ => or_cons (ts_cmp (d1 := dn (pos + 7)) (ev_bin (d1 := dn pos) (by k_inst) (by k_inst) (op_addN _ _)) (ev_lenS (l := l.map lowc) (by k_inst) hb) (cmp_gtN _ _)) fun _ => or_cons (ts_cmp (ev_lenS (l := l.map lowc) (by k_inst) hb) (by k_inst) (cmp_gtN _ 90)) fun _ => or_nil)).cast ?_
            rw [hlm, Bool.or_false]
          · rw [if_pos h]
            exact xs_stop (xt_ret (ev_tupD (evs3 (ev_none _ _) (ev_none _ _) (ev_none _ _)) (by decide)))
          · rw [h2, if_neg Bool.false_ne_true]
            have hle : pos + 7 ≤ l.length := by
              rw [Bool.or_eq_false_iff, Bool.or_eq_false_iff] at h2
              have := of_decide_eq_false h2.2.1
              omega
            have hdrop : ∀ c ∈ (l.map lowc).drop (pos + 1), c < 128 := fun c hc => hlow c (List.mem_of_mem_drop hc)
            refine xs_ifr (b := !((l.map lowc).drop (pos + 1)).all fun c => decide (c ∈ CH)) (ts_not ((ts_val (d := .bool ((List.range (((l.map lowc).drop (pos + 1)).map ch).length).all fun i => decide (((l.map lowc).drop (pos + 1)).getD i 0 ∈ CH))) (ev_allG (ev_bi bi_all rfl) (show 1 ≤ C.n - 1 by omega) (evIt (ev_from (l := l.map lowc) (k := pos + 1) (by k_inst) (ev_bin (d1 := dn pos) (by k_inst) (by k_inst) (op_addN _ _)) (by rw [hlm]; omega) hb) (itr_str (mk_ascii hdrop))) flat_ch rfl rfl ?_) (tr_bool _)).cast ?_)) (fun h => ?_) fun h3 => ?_
            · intro A' E' N code i d v s₂ m₂ hd rv hns hv W st
              obtain ⟨rfl, hi⟩ := ch_at hd
              cases rv with | str _ t => ?_
              refine wpAny_Compare1 (raw_loc rfl rfl hns hv (raw_gl gl_CHARSET W st rfl rfl rfl (PySem.SB.contains ⟨?_, _, rfl⟩)))
              rw [CH_mk]
              exact congrArg Value.bool contains_one
            · rw [List.length_map]
              exact all_idx _ 0 (fun c => decide (c ∈ CH))
            · rw [if_neg (by rw [Bool.not_eq_true']  at h; rw [h]; exact Bool.false_ne_true)]
              exact xs_stop (xt_ret (ev_tupD (evs3 (ev_none _ _) (ev_none _ _) (ev_none _ _)) (by decide)))
            · have h3' : (((l.map lowc).drop (pos + 1)).all fun c => decide (c ∈ CH)) = true := by simpa using h3
              rw [if_pos h3']
              have hin : ∀ c ∈ (l.map lowc).drop (pos + 1), c ∈ CH := fun c hc => of_decide_eq_true (List.all_eq_true.mp h3' c hc)
              have hdl : ((l.map lowc).drop (pos + 1)).length ≤ 1000 := by rw [List.length_drop, hlm]; omega
              refine xs_cons (xt_assign (d := .str (mk ((l.map lowc).take pos))) (ev_to (l := l.map lowc) (k := pos) (by k_inst) (by k_inst) (by rw [hlm]; omega) hb)) (xs_cons (xt_assignComp (cl := []) (ρc := []) ((l.map lowc).drop (pos + 1)) ch (fun c => dn (CH.idxOf c)) ch_inj ?_ (fun _ => rfl) (fun _ => rfl) (by rw [sizeLine_eq]; omega) (fun N a ha' => ?_) free_nil rfl) (xs_cons (xt_assign (d := encDat (encOf (polymod (hexp ((l.map lowc).take pos) ++ ((l.map lowc).drop (pos + 1)).map CH.idxOf)))) ?_) ?_))
              · exact evIt (ev_from (l := l.map lowc) (k := pos + 1) (by k_inst) (ev_bin (d1 := dn pos) (by k_inst) (by k_inst) (op_addN _ _)) (by rw [hlm]; omega) hb) (itr_str (mk_ascii hdrop))
              · exact ev_meth (ds := [.str (mk [a])]) ev_CH (evs1 (by k_inst)) (fun s v r => typeS v r) F.plainAttrs_str F.slot_str_find F.type_str_find ((cal_find _ _).cast (by rw [txt_find (hin a ha')]))
              · refine ev_call (ev_gl gl_bech32_verify_checksum rfl) (evs2 (d := .str (mk ((l.map lowc).take pos))) (d' := nl (((l.map lowc).drop (pos + 1)).map CH.idxOf)) (by k_inst) ?_) kp_170 (verify_cal (show 2 ≤ C.n - 1 by omega) (mk_ascii fun c hc => hlow c (List.mem_of_mem_take hc)) ?_ ?_)
                · show Ev _ _ _ (.list ((((l.map lowc).drop (pos + 1)).map CH.idxOf).map dn))
                  rw [List.map_map]
                  k_inst
                · rw [mk_len, List.length_take]; omega
                · rw [List.length_map]; omega
              · cases he : encOf (polymod (hexp ((l.map lowc).take pos) ++ ((l.map lowc).drop (pos + 1)).map CH.idxOf)) with
                | none =>
                  exact xs_stop (xt_if (b := true) (ts_cmp (d1 := .none) (by k_inst) (ev_none _ _) (cmp_isN rfl)) (fun _ => xs_stop (xt_ret (ev_tupD (evs3 (ev_none _ _) (ev_none _ _) (ev_none _ _)) (by decide)))) fun q => by cases q)
                | some e =>
                  refine xs_cons (xt_if (b := false) (ts_cmp (d1 := dn e) (by k_inst) (ev_none _ _) (cmp_isN rfl)) (fun q => by cases q) fun _ => xs_nil) (xs_stop (xt_ret (ev_tupD (evs3 (d := dn e) (d' := .str (mk ((l.map lowc).take pos))) (by k_inst) (by k_inst) ?_) (by show 3 ≤ 1000; decide))))
                  show Ev _ _ _ (.list ((List.take (((l.map lowc).drop (pos + 1)).length - 6) (((l.map lowc).drop (pos + 1)).map CH.idxOf)).map dn))
                  rw [List.map_take, List.map_map]
                  have : List.take (((l.map lowc).drop (pos + 1)).length - 6) (((l.map lowc).drop (pos + 1)).map (dn ∘ CH.idxOf)) = List.take ((((l.map lowc).drop (pos + 1)).map fun c => dn (CH.idxOf c)).length - 6) (((l.map lowc).drop (pos + 1)).map fun c => dn (CH.idxOf c)) := by rw [List.length_map]; rfl
                  rw [this]
                  exact ev_slice (by k_inst) .none (.some (ev_neg (ev_int 6 _ _))) .none (sl_butLast (k := 6) (by decide) (by rw [List.length_map, sizeLine_eq]; omega))
end Mine
end
section
set_option maxRecDepth 100000
set_option linter.unusedVariables false
namespace Mine
open PySem PySem.W PyProof.Rows PySem.Calls PySem.Spec
-- MAC
local macro_rules | `(tactic| k_mem) => `(tactic| first | (with_reducible exact mem_self) | (with_reducible exact List.Mem.head _) | ((with_reducible refine mem_other ?_ ?_); (focus decide); k_mem) | ((with_reducible refine List.Mem.tail _ ?_); k_mem))
local macro_rules | `(tactic| k_inst) => `(tactic| first
  | ((with_reducible refine ev_name ?_ ?_ ?_); (focus k_mem); (focus decide); decide)
  | ((with_reducible refine ev_nat ?_); rfl)
  | (with_reducible refine ev_bin (op := .BitXor) ?_ ?_ (op_xorN _ _)) | (with_reducible refine ev_bin (op := .BitAnd) ?_ ?_ (op_andN _ _)) | (with_reducible refine ev_bin (op := .RShift) ?_ ?_ (op_shrN _ _))
  | (with_reducible refine ev_bin (op := .LShift) ?_ ?_ (op_shlN ?_)) | (with_reducible refine ev_bin (op := .Add) ?_ ?_ (op_addN _ _)) | (with_reducible refine ev_bin (op := .Mod) ?_ ?_ (op_modN _ ?_))
  | ((with_reducible refine evs_cons ?_ ?_ ?h3); (case h3 => rfl)) | (with_reducible exact evs_nil))
-- CAM
def emit (acc bits t j : Nat) : List Nat := (List.range j).map fun i => (acc >>> (bits - (i + 1) * t)) &&& (1 <<< t - 1)
def cvStep (f t : Nat) (st : Nat × Nat × List Nat) (v : Nat) : Nat × Nat × List Nat :=
  let acc := ((st.1 <<< f) ||| v) &&& (1 <<< (f + t - 1) - 1)
  (acc, (st.2.1 + f) % t, st.2.2 ++ emit acc (st.2.1 + f) t ((st.2.1 + f) / t))
def cvAll (f t : Nat) (l : List Nat) : Nat × Nat × List Nat := l.foldl (cvStep f t) (0, 0, [])
def cvEnd (f t : Nat) (pad : Bool) (st : Nat × Nat × List Nat) : Option (List Nat) :=
  if pad = true then (if (st.2.1 != 0) = true then some (st.2.2 ++ [(st.1 <<< (t - st.2.1)) &&& (1 <<< t - 1)]) else some st.2.2)
  else if (decide (st.2.1 ≥ f) || ((st.1 <<< (t - st.2.1)) &&& (1 <<< t - 1) != 0)) = true then none else some st.2.2
def cv (f t : Nat) (pad : Bool) (l : List Nat) : Option (List Nat) := cvEnd f t pad (cvAll f t l)
def optNl : Option (List Nat) → Dat
  | some l => nl l
  | none => .none
theorem cv_snoc (f t : Nat) (l : List Nat) (v : Nat) : cvAll f t (l ++ [v]) = cvStep f t (cvAll f t l) v := by rw [cvAll, List.foldl_append]; rfl
theorem cv_acc (f t : Nat) (l : List Nat) : (cvAll f t l).1 ≤ 1 <<< (f + t - 1) - 1 := by
  rcases List.eq_nil_or_concat l with rfl | ⟨r, v, rfl⟩
  · exact Nat.zero_le _
  · rw [List.concat_eq_append, cv_snoc]; exact Nat.and_le_right
theorem cv_bits (f t : Nat) (ht : 0 < t) (l : List Nat) : (cvAll f t l).2.1 < t := by
  rcases List.eq_nil_or_concat l with rfl | ⟨r, v, rfl⟩
  · exact ht
  · rw [List.concat_eq_append, cv_snoc]; exact Nat.mod_lt _ ht
theorem emit_len (acc bits t j : Nat) : (emit acc bits t j).length = j := by simp [emit]
theorem emit_succ (acc bits t j : Nat) : emit acc bits t (j + 1) = emit acc bits t j ++ [(acc >>> (bits - (j + 1) * t)) &&& (1 <<< t - 1)] := by
  rw [emit, List.range_succ, List.map_append]; rfl
theorem cv_len (f t : Nat) (hf : f ≤ 8) (ht : 0 < t) : ∀ (n : Nat) (l : List Nat), l.length = n → (cvAll f t l).2.2.length ≤ 16 * l.length := by
  intro n
  induction n with
  | zero => intro l h; rw [List.length_eq_zero_iff.mp h]; exact Nat.zero_le _
  | succ n ih =>
    intro l h
    rcases List.eq_nil_or_concat l with rfl | ⟨r, v, rfl⟩
    · exact Nat.zero_le _
    rw [List.concat_eq_append] at h ⊢
    have ih := ih r (by simpa using h)
    rw [cv_snoc]
    show ((cvAll f t r).2.2 ++ emit _ _ _ _).length ≤ _
    rw [List.length_append, emit_len, List.length_append]
    have h1 := cv_bits f t ht r
    have h2 : ((cvAll f t r).2.1 + f) / t ≤ 16 := by
      rw [Nat.div_le_iff_le_mul ht]
      omega
    simp only [List.length_cons, List.length_nil]
    omega
theorem Ev.toList {C : Cx} {ρ : List (Str × Dat)} {e : Expr} {a : Addr} {p : Bool} {ds : List Dat} (h : Ev C ρ e (.own a p ds)) : Ev C ρ e (.list ds) := fun s o =>
  wpAny_mono (h s o) (fun v s' ⟨z, r⟩ => ⟨z, by cases r with | own h1 _ h3 h4 h5 => exact .list h1 h3 h4 h5⟩) fun _ _ f => f

def FlatBut (x : Str) (ρ : List (Str × Dat)) : Prop := ∀ p ∈ ρ, p.1 ≠ x → p.2.flat = true
theorem FlatBut.upd {x y : Str} {ρ : List (Str × Dat)} {d : Dat} (h : FlatBut x ρ) (hd : y = x ∨ d.flat = true) : FlatBut x (upd ρ y d) := fun p hp hne => by
  rcases List.mem_cons.mp hp with rfl | hp
  · rcases hd with hd | hd
    · exact absurd hd hne
    · exact hd
  · exact h p (List.mem_filter.mp hp).1 hne
theorem FlatBut.nil {x : Str} : FlatBut x [] := fun _ h => nomatch h
theorem FlatBut.cons {x y : Str} {ρ : List (Str × Dat)} {d : Dat} (hd : y = x ∨ d.flat = true) (h : FlatBut x ρ) : FlatBut x ((y, d) :: ρ) := fun p hp hne => by
  rcases List.mem_cons.mp hp with rfl | hp
  · rcases hd with hd | hd
    · exact absurd hd hne
    · exact hd
  · exact h p hp hne
theorem xs_iff {C : Cx} {ρ : List (Str × Dat)} {O : Out} {rest : List Stmt} {t : Expr} {body : List Stmt} {pos : Pos} (h : Ts C ρ t false) (r : Xs C ρ rest O) : Xs C ρ (.If t body [] pos :: rest) O := xs_cons (xt_if h (fun q => by cases q) fun _ => xs_nil) r
theorem cv_body {C : Cx} {f t : Nat} {pad : Bool} {l : List Nat} {D : Dat} {X : Addr → Prop} (h₀ : Heap) (L : Addr) (hf : f ≤ 8) (ht : 1 ≤ t) (ht8 : t ≤ 8) (hf1 : 1 ≤ f) (hl : l.length ≤ 1000) (hv : ∀ v ∈ l, v < 2 ^ f)
    (hiter : ∀ (C' : Cx), C'.A.handled = C.A.handled → ∀ ρ pos, ((("data" : Str), D) : Str × Dat) ∈ ρ → EvItX C' ρ (.Name "data" pos) (l.map dn) X) (hX : ∀ b, X b → ∃ p ds, D = .own b p ds) (hD : D.flat = true ∨ ∃ b p ds, D = .own b p ds ∧ ∀ d ∈ ds, d.flat = true) : ∃ q sc cd bd oc od osl nm pr dV kV doc pm an ct, (Kf C.w).lookup 193 = some ⟨oc, od, .func (fnOf nm q pr bd sc dV kV doc pm an cd ct), osl⟩ ∧
      Xs (C.fn h₀ (envOf q sc L 193 cd) []) [("data", D), ("frombits", dn f), ("tobits", dn t), ("pad", .bool pad)] bd (.ret (optNl (cv f t pad l))) := by
  refine ⟨_, _, _, _, _, _, _, _, _, _, _, _, _, _, _, rfl, ?_⟩
  refine xs_cons (xt_assign (d := dn 0) (by k_inst)) (xs_cons (xt_assign (d := dn 0) (by k_inst)) (xs_newlist fun a hown hnew => ?_))
  have one : ∀ k, 1 ≤ 1 <<< k := fun k => by rw [Nat.one_shiftLeft]; exact Nat.one_le_two_pow
  refine xs_cons (xt_assign (d := dn (1 <<< t - 1)) (ev_bin (d1 := dn (1 <<< t)) (ev_bin (by k_inst) (by k_inst) (op_shlN (shl_ok 1 (by decide) (by omega)))) (by k_inst) (op_subN (one _)))) ?_
  refine xs_cons (xt_assign (d := dn (1 <<< (f + t - 1) - 1)) (ev_bin (d1 := dn (1 <<< (f + t - 1))) (ev_bin (by k_inst) (ev_bin (d1 := dn (f + t)) (by repeat' k_inst) (by k_inst) (op_subN (by omega))) (op_shlN (shl_ok 1 (by decide) (by omega)))) (by k_inst) (op_subN (one _)))) ?_
  refine xs_cons (xt_forX (ds := l.map dn) (X := X) (fun i => [("acc", dn (cvAll f t (l.take i)).1), ("bits", dn (cvAll f t (l.take i)).2.1), ("ret", .own a true ((cvAll f t (l.take i)).2.2.map dn)), ("frombits", dn f), ("tobits", dn t), ("maxv", dn (1 <<< t - 1)), ("max_acc", dn (1 <<< (f + t - 1) - 1)), ("pad", .bool pad)]) ?_ ?_ ?_) ?_
  · exact hiter _ (by rfl) _ _ (by k_mem)
  · intro p hp
    simp only [List.mem_cons, List.not_mem_nil, or_false] at hp
    rcases hp with rfl | rfl | rfl | rfl | rfl | rfl | rfl | rfl <;> k_mem
  · intro fp i d hno hd
    obtain ⟨v, hv', rfl⟩ : ∃ v, l[i]? = some v ∧ d = dn v := by
      rw [List.getElem?_map, Option.map_eq_some_iff] at hd
      obtain ⟨v, h1, h2⟩ := hd; exact ⟨v, h1, h2.symm⟩
    have hvf : v < 2 ^ f := hv v (List.mem_of_getElem? hv')
    obtain ⟨st, hst⟩ : ∃ st, cvAll f t (l.take i) = st := ⟨_, rfl⟩
    have hacc : st.1 < 2 ^ 16 := by
      have := cv_acc f t (l.take i)
      rw [hst, Nat.one_shiftLeft] at this
      have h2 : 2 ^ (f + t - 1) ≤ 2 ^ 16 := Nat.pow_le_pow_right (by decide) (by omega)
      omega
    have hi : i < l.length := (List.getElem?_eq_some_iff.mp hv').1
    have hlen : st.2.2.length ≤ 16000 := by
      have := cv_len f t hf ht _ (l.take i) rfl
      rw [hst, List.length_take] at this
      omega
    have hbt : st.2.1 < t := by have := cv_bits f t ht (l.take i); rwa [hst] at this
    have hnext : cvAll f t (l.take (i + 1)) = cvStep f t st v := by rw [List.take_add_one, hv', Option.toList_some, cv_snoc, hst]
    rw [hst, hnext]
    obtain ⟨acc, hac⟩ : ∃ acc, ((st.1 <<< f) ||| v) &&& (1 <<< (f + t - 1) - 1) = acc := ⟨_, rfl⟩
    have hstep : cvStep f t st v = (acc, (st.2.1 + f) % t, st.2.2 ++ emit acc (st.2.1 + f) t ((st.2.1 + f) / t)) := by rw [cvStep, hac]
    rw [hstep]
    refine xs_iff ((ts_bool (or_f ((ts_cmp (d1 := dn v) (by k_inst) (by k_inst) (cmp_ltN _ 0)).cast (decide_eq_false (Nat.not_lt_zero v))) (or_f ((ts_val (d := dn (v >>> f)) (by repeat' k_inst) (tr_nat _)).cast ?_) or_nil)))) ?_
    · rw [Nat.shiftRight_eq_div_pow, Nat.div_eq_of_lt hvf]; rfl
    refine xs_cons (xt_assign (d := dn acc) ?_) (xs_cons (xt_aug (d1 := dn st.2.1) (d2 := dn f) (by k_mem) (by k_inst) (iop_addN _ _)) ?_)
    · rw [← hac]
      refine ev_bin (ev_bin (ev_bin (by k_inst) (by k_inst) (op_shlN (shl_ok 16 hacc (by omega)))) (by k_inst) (op_orN _ _)) (by k_inst) (op_andN _ _)
    obtain ⟨b, hb⟩ : ∃ b, st.2.1 + f = b := ⟨_, rfl⟩
    rw [hb]
    refine xs_cons (xt_while (fun j => [("acc", dn acc), ("bits", dn (b - j * t)), ("ret", .own a true ((st.2.2 ++ emit acc b t j).map dn)), ("frombits", dn f), ("tobits", dn t), ("maxv", dn (1 <<< t - 1)), ("max_acc", dn (1 <<< (f + t - 1) - 1)), ("pad", .bool pad)]) (b / t) ?_ ?_ ?_ ?_) (xs_end ?_)
    · intro p hp
      simp only [Nat.zero_mul, Nat.sub_zero, show emit acc b t 0 = [] from rfl, List.append_nil, List.mem_cons, List.not_mem_nil, or_false] at hp
      rcases hp with rfl | rfl | rfl | rfl | rfl | rfl | rfl | rfl <;> k_mem
    · intro j hj
      have hjt : (j + 1) * t ≤ b := (Nat.le_div_iff_mul_le (by omega)).mp hj
      rw [Nat.succ_mul] at hjt
      exact (ts_cmp (d1 := dn (b - j * t)) (by k_inst) (by k_inst) (cmp_geN _ t)).cast (decide_eq_true (by show t ≤ _; omega))
    · intro j hj
      have hjt : (j + 1) * t ≤ b := (Nat.le_div_iff_mul_le (by omega)).mp hj
      have hsub : b - j * t - t = b - (j + 1) * t := by rw [Nat.succ_mul, Nat.sub_sub]
      rw [Nat.succ_mul] at hjt
      have hbe : b / t ≤ 16 := by
        rw [Nat.div_le_iff_le_mul (by omega)]
        omega
      refine xs_cons (xt_aug (d1 := dn (b - j * t)) (d2 := dn t) (by k_mem) (by k_inst) (iop_subN (by omega))) (xs_cons (xt_append (a := a) (ds := (st.2.2 ++ emit acc b t j).map dn) (d := dn ((acc >>> (b - j * t - t)) &&& (1 <<< t - 1))) (by k_mem) (by repeat' k_inst) rfl flat_nl ?_ hnew ?_ ?_) (xs_end ?_))
      · show a ∉ fp ++ []
        rw [List.append_nil]
        intro q
        rcases hno a q with hx | hx
        · obtain ⟨p, ds, rfl⟩ := hX a hx
          exact hown "data" a p ds (mem_other (by decide) (mem_other (by decide) (.head _))) rfl
        · exact hx "ret" a true [] (mem_other (by decide) (mem_other (by decide) mem_self)) rfl
      · intro p hp hne
        exact .inl ((FlatBut.upd (.cons (.inr rfl) (.cons (.inr rfl) (.cons (.inl rfl) (.cons (.inr rfl) (.cons (.inr rfl) (.cons (.inr rfl) (.cons (.inr rfl) (.cons (.inr rfl) .nil)))))))) (.inr rfl)) p hp hne)
      · rw [List.length_map, List.length_append, emit_len]
        omega
      · intro p hp
        simp only [List.mem_cons, List.not_mem_nil, or_false] at hp
        rw [emit_succ, ← List.append_assoc, ← hsub, List.map_append] at hp
        rcases hp with rfl | rfl | rfl | rfl | rfl | rfl | rfl | rfl <;> k_mem
    · have hm : b - b / t * t < t := by
        have := Nat.div_add_mod b t
        have h2 := Nat.mod_lt b (show t > 0 by omega)
        rw [Nat.mul_comm] at this
        omega
      exact (ts_cmp (d1 := dn (b - b / t * t)) (by k_inst) (by k_inst) (cmp_geN _ t)).cast (decide_eq_false (by show ¬ t ≤ _; omega))
    · intro p hp
      have hm : b % t = b - b / t * t := by
        have := Nat.div_add_mod b t
        rw [Nat.mul_comm] at this
        omega
      simp only [List.mem_cons, List.not_mem_nil, or_false] at hp
      rw [hm] at hp
      rcases hp with rfl | rfl | rfl | rfl | rfl | rfl | rfl | rfl <;> k_mem
  · have htk : l.take (l.map dn).length = l := by rw [List.length_map, List.take_length]
    simp only [htk]
    obtain ⟨st, hst⟩ : ∃ st, cvAll f t l = st := ⟨_, rfl⟩
    have hacc : st.1 < 2 ^ 16 := by
      have := cv_acc f t l
      rw [hst, Nat.one_shiftLeft] at this
      have h2 : 2 ^ (f + t - 1) ≤ 2 ^ 16 := Nat.pow_le_pow_right (by decide) (by omega)
      omega
    have hlen : st.2.2.length ≤ 16000 := by
      have := cv_len f t hf ht _ l rfl
      rw [hst] at this
      omega
    have hbt : st.2.1 < t := by have := cv_bits f t ht l; rwa [hst] at this
    rw [cv, hst]
    cases pad with
    | true =>
      cases hb : (st.2.1 != 0) with
      | true =>
        rw [cvEnd, if_pos rfl, if_pos hb]
        refine xs_cons (xt_if (b := true) (ts_val (d := .bool true) (by k_inst) (tr_bool _)) (fun _ => xs_cons (xt_if (b := true) ((ts_val (d := dn st.2.1) (by k_inst) (tr_nat _)).cast hb) (fun _ => xs_cons (xt_append (a := a) (ds := st.2.2.map dn) (d := dn ((st.1 <<< (t - st.2.1)) &&& (1 <<< t - 1))) (by k_mem) ?_ rfl flat_nl (by show a ∉ []; exact fun q => nomatch q) hnew ?_ ?_) xs_nil) fun q => by cases q) xs_nil) fun q => by cases q) (xs_stop (xt_ret ?_))
        · exact ev_bin (ev_bin (d1 := dn st.1) (by k_inst) (ev_bin (d1 := dn t) (by k_inst) (by k_inst) (op_subN (by omega))) (op_shlN (shl_ok 16 hacc (by omega)))) (by k_inst) (op_andN _ _)
        · intro p hp hne
          exact .inl ((FlatBut.cons (.inr rfl) (.cons (.inr rfl) (.cons (.inl rfl) (.cons (.inr rfl) (.cons (.inr rfl) (.cons (.inr rfl) (.cons (.inr rfl) (.cons (.inr rfl) .nil)))))))) p hp hne)
        · rw [List.length_map]; omega
        · refine Ev.toList (a := a) (p := true) ?_
          rw [List.map_append]
          k_inst
      | false =>
        rw [cvEnd, if_pos rfl, hb, if_neg Bool.false_ne_true]
        refine xs_cons (xt_if (b := true) (ts_val (d := .bool true) (by k_inst) (tr_bool _)) (fun _ => xs_cons (xt_if (b := false) ((ts_val (d := dn st.2.1) (by k_inst) (tr_nat _)).cast hb) (fun q => by cases q) fun _ => xs_nil) xs_nil) fun q => by cases q) (xs_stop (xt_ret ?_))
        exact Ev.toList (a := a) (p := true) (by k_inst)
    | false =>
      have htest : ∀ {C' : Cx} {ρ' : List (Str × Dat)} {p q r : Expr} {p1 p2 : Pos}, Ev C' ρ' p (dn st.2.1) → Ev C' ρ' q (dn f) → Ev C' ρ' r (dn ((st.1 <<< (t - st.2.1)) &&& (1 <<< t - 1))) →
          (isTrue r C'.env (eval r C'.env) = (do let v ← eval r C'.env; standAt r.pos; holding [v] (truthy v))) → behindInMarks .GtE q = false → Ts C' ρ' (.BoolOp .Or [.Compare p [.GtE] [q] p1, r] p2) (decide (st.2.1 ≥ f) || ((st.1 <<< (t - st.2.1)) &&& (1 <<< t - 1) != 0)) := fun h1 h2 h3 h4 h5 =>
        (ts_bool (or_cons (ts_cmp h1 h2 (cmp_geN _ _) h5) fun _ => or_cons (ts_val h3 (tr_nat _) h4) fun _ => or_nil)).cast (by rw [Bool.or_false])
      rw [cvEnd, if_neg Bool.false_ne_true]
      cases hb : (decide (st.2.1 ≥ f) || ((st.1 <<< (t - st.2.1)) &&& (1 <<< t - 1) != 0)) with
      | true =>
        rw [if_pos rfl]
        refine xs_stop (xt_if (b := false) (ts_val (d := .bool false) (by k_inst) (tr_bool _)) (fun q => by cases q) fun _ => xs_stop (xt_if (b := true) ((htest (by k_inst) (by k_inst) ?_ rfl rfl).cast hb) (fun _ => xs_stop (xt_ret (ev_none _ _))) fun q => by cases q))
        exact ev_bin (ev_bin (d1 := dn st.1) (by k_inst) (ev_bin (d1 := dn t) (by k_inst) (by k_inst) (op_subN (by omega))) (op_shlN (shl_ok 16 hacc (by omega)))) (by k_inst) (op_andN _ _)
      | false =>
        rw [if_neg Bool.false_ne_true]
        refine xs_cons (xt_if (b := false) (ts_val (d := .bool false) (by k_inst) (tr_bool _)) (fun q => by cases q) fun _ => xs_cons (xt_if (b := false) ((htest (by k_inst) (by k_inst) ?_ rfl rfl).cast hb) (fun q => by cases q) fun _ => xs_nil) xs_nil) (xs_stop (xt_ret ?_))
        · exact ev_bin (ev_bin (d1 := dn st.1) (by k_inst) (ev_bin (d1 := dn t) (by k_inst) (by k_inst) (op_subN (by omega))) (op_shlN (shl_ok 16 hacc (by omega)))) (by k_inst) (op_andN _ _)
        · exact Ev.toList (a := a) (p := true) (by k_inst)
theorem kp_193 {C : Cx} : Kp C (.ref 193) := kp_K fun w => by kernel_rfl
theorem cv_list {C : Cx} (hn : 1 ≤ C.n) {f t : Nat} {l : List Nat} (hf : f ≤ 8) (ht : 1 ≤ t) (ht8 : t ≤ 8) (hf1 : 1 ≤ f) (hl : l.length ≤ 1000) (hv : ∀ v ∈ l, v < 2 ^ f) : Cal C (.ref 193) [nl l, dn f, dn t] (optNl (cv f t true l)) := by
  refine cal_fn (xs := [.bool true]) (es := [.bool true]) hn rfl rfl ["data", "frombits", "tobits", "pad"] (fun _ _ => .cons (.bool true) .nil) ?_ (by decide) (by decide) ?_
  · intro s vs X h
    obtain ⟨a, b, c, rfl⟩ := len3 h
    exact .of_defaults rfl (X 186 _ rfl) rfl rfl rfl
  · intro h₀ L
    refine xs_name (x := "data") (.head _) fun a => ?_
    obtain ⟨q, sc, cd, bd, oc, od, osl, nm, pr, dV, kV, doc, pm, an, ct, hlook, hx⟩ := cv_body (C := C) (f := f) (t := t) (pad := true) (l := l) (D := .own a false (l.map dn)) (X := (· = a)) h₀ L hf ht ht8 hf1 hl hv (fun C' _ ρ pos hm => evItX_own hm flat_nl) (fun b hb => by subst hb; exact ⟨_, _, rfl⟩) (.inr ⟨a, false, _, rfl, flat_nl⟩)
    cases hlook
    exact hx
theorem len4 {α : Type} {vs : List α} (h : vs.length = 4) : ∃ a b c d, vs = [a, b, c, d] := by
  match vs, h with
  | [a, b, c, d], _ => exact ⟨a, b, c, d, rfl⟩
theorem cv_listF {C : Cx} (hn : 1 ≤ C.n) {f t : Nat} {l : List Nat} (hf : f ≤ 8) (ht : 1 ≤ t) (ht8 : t ≤ 8) (hf1 : 1 ≤ f) (hl : l.length ≤ 1000) (hv : ∀ v ∈ l, v < 2 ^ f) : Cal C (.ref 193) [nl l, dn f, dn t, .bool false] (optNl (cv f t false l)) := by
  refine cal_fn (xs := []) (es := []) hn rfl rfl ["data", "frombits", "tobits", "pad"] (fun _ _ => .nil) ?_ (by decide) (by decide) ?_
  · intro s vs X h
    obtain ⟨a, b, c, d, rfl⟩ := len4 h
    exact .of_defaults rfl (X 186 _ rfl) rfl rfl rfl
  · intro h₀ L
    refine xs_name (x := "data") (.head _) fun a => ?_
    obtain ⟨q, sc, cd, bd, oc, od, osl, nm, pr, dV, kV, doc, pm, an, ct, hlook, hx⟩ := cv_body (C := C) (f := f) (t := t) (pad := false) (l := l) (D := .own a false (l.map dn)) (X := (· = a)) h₀ L hf ht ht8 hf1 hl hv (fun C' _ ρ pos hm => evItX_own hm flat_nl) (fun b hb => by subst hb; exact ⟨_, _, rfl⟩) (.inr ⟨a, false, _, rfl, flat_nl⟩)
    cases hlook
    exact hx
def bnat (b : Array UInt8) : List Nat := b.toList.map UInt8.toNat
theorem byteInts_eq (b : Array UInt8) : byteInts b = (bnat b).map dn := by rw [bnat, List.map_map]; rfl
theorem bnat_lt (b : Array UInt8) : ∀ v ∈ bnat b, v < 2 ^ 8 := fun v hv => by
  obtain ⟨c, _, rfl⟩ := List.mem_map.mp hv
  exact c.toNat_lt
theorem bnat_len (b : Array UInt8) : (bnat b).length = b.size := by simp [bnat]
theorem cv_bytes {C : Cx} (hn : 1 ≤ C.n) (hh : C.A.handled = none) {t : Nat} {b : Array UInt8} (ht : 1 ≤ t) (ht8 : t ≤ 8) (hl : b.size ≤ 1000) : Cal C (.ref 193) [.bytes b, dn 8, dn t] (optNl (cv 8 t true (bnat b))) := by
  refine cal_fn (xs := [.bool true]) (es := [.bool true]) hn rfl rfl ["data", "frombits", "tobits", "pad"] (fun _ _ => .cons (.bool true) .nil) ?_ (by decide) (by decide) ?_
  · intro s vs X h
    obtain ⟨a, b, c, rfl⟩ := len3 h
    exact .of_defaults rfl (X 186 _ rfl) rfl rfl rfl
  · intro h₀ L
    obtain ⟨q, sc, cd, bd, oc, od, osl, nm, pr, dV, kV, doc, pm, an, ct, hlook, hx⟩ := cv_body (C := C) (f := 8) (t := t) (pad := true) (l := bnat b) (D := .bytes b) (X := fun _ => False) h₀ L (by decide) ht ht8 (by decide) (by rw [bnat_len]; exact hl) (bnat_lt b)
      (fun C' e ρ pos hm => by rw [← byteInts_eq]; exact evItX_bytes (ev_name hm) (e.trans hh)) (fun b hb => hb.elim) (.inl rfl)
    cases hlook
    exact hx
end Mine
end
section
set_option maxRecDepth 100000
set_option linter.unusedVariables false
namespace Mine
open PySem PySem.W PyProof.Rows PySem.Calls PySem.Spec
-- MAC
local macro_rules | `(tactic| k_mem) => `(tactic| first | (with_reducible exact mem_self) | (with_reducible exact List.Mem.head _) | ((with_reducible refine mem_other ?_ ?_); (focus decide); k_mem) | ((with_reducible refine List.Mem.tail _ ?_); k_mem))
local macro_rules | `(tactic| k_inst) => `(tactic| first
  | ((with_reducible refine ev_name ?_ ?_ ?_); (focus k_mem); (focus decide); decide)
  | ((with_reducible refine ev_nat ?_); rfl)
  | (with_reducible refine ev_bin (op := .BitXor) ?_ ?_ (op_xorN _ _)) | (with_reducible refine ev_bin (op := .BitAnd) ?_ ?_ (op_andN _ _)) | (with_reducible refine ev_bin (op := .RShift) ?_ ?_ (op_shrN _ _))
  | (with_reducible refine ev_bin (op := .LShift) ?_ ?_ (op_shlN ?_)) | (with_reducible refine ev_bin (op := .Add) ?_ ?_ (op_addN _ _)) | (with_reducible refine ev_bin (op := .Mod) ?_ ?_ (op_modN _ ?_))
  | ((with_reducible refine evs_cons ?_ ?_ ?h3); (case h3 => rfl)) | (with_reducible exact evs_nil))
-- CAM
def bdCheck (e : Nat) (d dec : List Nat) : Bool :=
  (decide (dec.length < 2) || decide (dec.length > 40)) || (decide (d.getD 0 0 > 16) || (((d.getD 0 0 == 0) && ((dec.length != 20) && (dec.length != 32))) || (((d.getD 0 0 == 0) && (e != 1)) || ((d.getD 0 0 != 0) && (e != 2)))))
def bd (h l : List Nat) : Option (Nat × List Nat) :=
  match bdec l with
  | none => none
  | some (e, h', d) => if (h' == h) = true then
      (match cv 5 8 false (d.drop 1) with
        | none => none
        | some dec => if bdCheck e d dec = true then none else some (d.getD 0 0, dec))
      else none
def bdDat : Option (Nat × List Nat) → Dat
  | none => .tup [.none, .none]
  | some (v, p) => .tup [dn v, nl p]
theorem kp_185 {C : Cx} : Kp C (.ref 185) := kp_K fun w => by kernel_rfl
theorem bdec_facts {l : List Nat} {e : Nat} {h d : List Nat} (hb : bdec l = some (e, h, d)) : (∀ v ∈ d, v < 32) ∧ d.length ≤ l.length := by
  unfold bdec at hb
  split at hb
  · cases hb
  · split at hb
    · cases hb
    · split at hb
      · cases hb
      · split at hb
        · rename_i h3
          obtain ⟨e', he, hh⟩ := Option.map_eq_some_iff.mp hb
          cases hh
          have hin := List.all_eq_true.mp h3
          refine ⟨fun v hv => ?_, ?_⟩
          · obtain ⟨c, hc, rfl⟩ := List.mem_map.mp (List.mem_of_mem_take hv)
            have := List.idxOf_lt_length_iff.mpr (of_decide_eq_true (hin c hc))
            rwa [CH_len] at this
          · rw [List.length_take, List.length_map, List.length_drop, List.length_map]; omega
        · cases hb
theorem ev_lenL {C : Cx} {ρ : List (Str × Dat)} {e : Expr} {p pos : Pos} {l : List Nat} (h : Ev C ρ e (nl l)) (hl : l.length ≤ 100000) (hk : C.env.kindOf "len" = some .globalImplicit := by rfl) (hn : notStar e = true := by rfl)
    (hform : eval (.Call (.Name "len" p) [e] [] pos) C.env = (do callWith pos (← eval (.Name "len" p) C.env) [] (backTo pos (starEach [e] C.env)) (backToKw pos (keywordEach [] C.env))) := by rfl) : Ev C ρ (.Call (.Name "len" p) [e] [] pos) (dn l.length) :=
  (ev_call (ev_bi bi_len hk) (evs1 h hn) (kp_builtin _) (cal_lenL (by rw [List.length_map]; omega)) hform).cast (by rw [List.length_map])
theorem ev_at0 {C : Cx} {ρ : List (Str × Dat)} {e : Expr} {k : Nat} {p pos : Pos} {l : List Nat} (h : Ev C ρ e (nl l)) (h0 : 1 ≤ l.length) (hl : l.length ≤ 100000) : Ev C ρ (.Subscript e (.Constant (.int 0) k p) pos) (dn (l.getD 0 0)) := by
  refine ev_item h (ev_nat (n := 0)) (it_listN (by rw [List.length_map]; omega) ?_)
  cases l with
  | nil => simp at h0
  | cons a r => rfl
theorem none2 {C : Cx} {ρ : List (Str × Dat)} {p q r : Pos} {a b k : Nat} : Ev C ρ (.Tuple [.Constant .none a p, .Constant .none b q] k r) (bdDat none) := ev_tupD (evs2 (ev_none _ _) (ev_none _ _)) (by decide)
theorem bd_cal {C : Cx} (hn : 5 ≤ C.n) {h l : List Nat} (ha : ∀ c ∈ l, c < 128) (hl : l.length ≤ 1000) : Cal C (.ref 200) [.str (mk h), .str (mk l)] (bdDat (bd h l)) := by
  refine cal_fn (xs := []) (es := []) (by omega) rfl rfl ["hrp", "addr"] (fun _ _ => .nil) ?_ (by decide) (by decide) ?_
  · intro s vs _ h
    obtain ⟨a, b, rfl⟩ := len2 h
    exact .of_eq rfl
  · intro h₀ L
    refine xs_cons (xt_unpack (xs := [("encoding", _), ("hrpgot", _), ("data", _)]) (ds := match bdec l with | none => [.none, .none, .none] | some (e, h, d) => [dn e, .str (mk h), nl d]) ?_ ?_ ?_ (by intro x hx; simp only [List.mem_cons, List.not_mem_nil, or_false] at hx; rcases hx with rfl | rfl | rfl <;> rfl) rfl rfl) ?_
    · have : Dat.tup (match bdec l with | none => [.none, .none, .none] | some (e, h, d) => [dn e, .str (mk h), nl d]) = bdecDat (bdec l) := by cases bdec l <;> rfl
      rw [this]
      exact ev_call (ev_gl gl_bech32_decode rfl) (evs1 (by k_inst)) kp_185 (bdec_cal (show 4 ≤ C.n - 1 by omega) ha hl)
    · cases bdec l <;> rfl
    · intro d hd
      cases hb : bdec l with
      | none => rw [hb] at hd; simp only [List.mem_cons, List.not_mem_nil, or_false, or_self] at hd; subst hd; exact .inl rfl
      | some x =>
        rw [hb] at hd
        simp only [List.mem_cons, List.not_mem_nil, or_false] at hd
        rcases hd with rfl | rfl | rfl
        · exact .inl rfl
        · exact .inl rfl
        · exact .inr ⟨_, rfl⟩
    cases hb : bdec l with
    | none =>
      rw [bd, hb]
      simp only [List.map_cons, List.map_nil, upds]
      exact xs_stop (xt_if (b := true) (ts_cmp (d1 := .none) (d2 := .str (mk h)) (by k_inst) (by k_inst) (cmp_neNS _)) (fun _ => xs_stop (xt_ret none2)) fun q => by cases q)
    | some x =>
      obtain ⟨e, h', d⟩ := x
      obtain ⟨hd32, hdl⟩ := bdec_facts hb
      rw [bd, hb]
      simp only [List.map_cons, List.map_nil, upds]
      refine xs_ifr (b := !(h' == h)) ((ts_cmp (d1 := .str (mk h')) (d2 := .str (mk h)) (by k_inst) (by k_inst) (cmp_neS _ _)).cast (by rw [Bool.eq_iff_iff]; simp [mk_inj])) (fun hh => ?_) fun hh => ?_
      · rw [if_neg (by rw [Bool.not_eq_true'] at hh; rw [hh]; exact Bool.false_ne_true)]
        exact xs_stop (xt_ret none2)
      · have hh' : (h' == h) = true := by simpa using hh
        rw [if_pos hh']
        have hdd : (d.drop 1).length ≤ 1000 := by rw [List.length_drop]; omega
        refine xs_cons (xt_assign (d := optNl (cv 5 8 false (d.drop 1))) ?_) ?_
        · refine ev_call (ev_gl gl_convertbits rfl) (evs_cons (d := nl (d.drop 1)) ?_ (evs3 (d := dn 5) (d' := dn 8) (by k_inst) (by k_inst) (ev_bool false _ _))) kp_193 (cv_listF (show 1 ≤ C.n - 1 by omega) (by decide) (by decide) (by decide) (by decide) hdd fun v hv => hd32 v (List.mem_of_mem_drop hv))
          show Ev _ _ _ (.list ((d.drop 1).map dn))
          rw [List.map_drop]
          exact ev_slice (d1 := nl d) (by k_inst) (.some (ev_int 1 _ _)) .none .none (sl_from (k := 1) (by rw [List.length_map, sizeLine_eq]; omega))
        · cases hc : cv 5 8 false (d.drop 1) with
          | none =>
            simp only
            exact xs_stop (xt_if (b := true) (ts_bool (or_t (ts_cmp (d1 := .none) (by k_inst) (ev_none _ _) (cmp_isN rfl)))) (fun _ => xs_stop (xt_ret none2)) fun q => by cases q)
          | some dec =>
            simp only
            have hdec : dec.length ≤ 20000 := by
              have := cv_len 5 8 (by decide) (by decide) _ (d.drop 1) rfl
              simp only [cv, cvEnd, Bool.false_eq_true, if_false] at hc
              split at hc
              · cases hc
              · cases hc; omega
            cases h1 : (decide (dec.length < 2) || decide (dec.length > 40)) with
            | true =>
              rw [if_pos (by rw [bdCheck, h1]; rfl)]
              refine xs_stop (xt_if (b := true) ((ts_bool (or_f (ts_cmp (d1 := nl dec) (by k_inst) (ev_none _ _) (cmp_isN rfl)) (or_cons (ts_cmp (ev_lenL (l := dec) (by k_inst) (by omega)) (by k_inst) (cmp_ltN _ 2)) fun _ => or_cons (ts_cmp (ev_lenL (l := dec) (by k_inst) (by omega)) (by k_inst) (cmp_gtN _ 40)) fun _ => or_nil))).cast ?_) (fun _ => xs_stop (xt_ret none2)) fun q => by cases q)
              rw [Bool.or_false, h1]
            | false =>
              refine xs_iff ((ts_bool (or_f (ts_cmp (d1 := nl dec) (by k_inst) (ev_none _ _) (cmp_isN rfl)) (or_cons (ts_cmp (ev_lenL (l := dec) (by k_inst) (by omega)) (by k_inst) (cmp_ltN _ 2)) fun _ => or_cons (ts_cmp (ev_lenL (l := dec) (by k_inst) (by omega)) (by k_inst) (cmp_gtN _ 40)) fun _ => or_nil))).cast ?_) ?_
              · rw [Bool.or_false, h1]
              have hd1 : 1 ≤ d.length := by
                rcases Nat.eq_zero_or_pos d.length with z | z
                · rw [List.length_eq_zero_iff.mp z] at hc
                  have : dec = [] := by
                    have e : cv 5 8 false (List.drop 1 []) = some [] := by decide
                    rw [e] at hc; cases hc; rfl
                  rw [this] at h1
                  cases h1
                · exact z
              have hdl' : d.length ≤ 100000 := by omega
              have e0 : ∀ {C' : Cx} {ρ : List (Str × Dat)} {e' : Expr} {k : Nat} {p pos : Pos}, Ev C' ρ e' (nl d) → Ev C' ρ (.Subscript e' (.Constant (.int 0) k p) pos) (dn (d.getD 0 0)) := fun h => ev_at0 h hd1 hdl'
              refine xs_ifr (b := decide (d.getD 0 0 > 16)) (ts_cmp (e0 (by k_inst)) (by k_inst) (cmp_gtN _ 16)) (fun h2 => ?_) fun h2 => ?_
              · rw [if_pos (by rw [bdCheck, h1, h2]; rfl)]
                exact xs_stop (xt_ret none2)
              refine xs_ifr (b := (d.getD 0 0 == 0) && ((dec.length != 20) && (dec.length != 32))) ((ts_bool (and_cons (ts_cmp (e0 (by k_inst)) (by k_inst) (cmp_eqN _ 0)) fun _ => and_cons (ts_cmp (ev_lenL (l := dec) (by k_inst) (by omega)) (by k_inst) (cmp_neN _ 20)) fun _ => and_cons (ts_cmp (ev_lenL (l := dec) (by k_inst) (by omega)) (by k_inst) (cmp_neN _ 32)) fun _ => and_nil)).cast (by rw [Bool.and_true])) (fun h3 => ?_) fun h3 => ?_
              · rw [if_pos (by rw [bdCheck, h1, h2, h3]; rfl)]
                exact xs_stop (xt_ret none2)
              refine xs_ifr (b := ((d.getD 0 0 == 0) && (e != 1)) || ((d.getD 0 0 != 0) && (e != 2))) ((ts_bool (or_cons (ts_bool (and_cons (ts_cmp (e0 (by k_inst)) (by k_inst) (cmp_eqN _ 0)) fun _ => and_cons (ts_cmp (d1 := dn e) (by k_inst) ev_bech32 (cmp_neN _ 1)) fun _ => and_nil)) fun _ => or_cons (ts_bool (and_cons (ts_cmp (e0 (by k_inst)) (by k_inst) (cmp_neN _ 0)) fun _ => and_cons (ts_cmp (d1 := dn e) (by k_inst) ev_bech32m (cmp_neN _ 2)) fun _ => and_nil)) fun _ => or_nil)).cast (by rw [Bool.and_true, Bool.and_true, Bool.or_false])) (fun h4 => ?_) fun h4 => ?_
              · rw [if_pos (by rw [bdCheck, h1, h2, h3, h4]; rfl)]
                exact xs_stop (xt_ret none2)
              · rw [if_neg (by rw [bdCheck, h1, h2, h3, h4]; decide)]
                exact xs_stop (xt_ret (ev_tupD (evs2 (d := dn (d.getD 0 0)) (d' := nl dec) (e0 (by k_inst)) (by k_inst)) (by show 2 ≤ 1000; decide)))
end Mine
end
section
set_option maxRecDepth 100000
set_option linter.unusedVariables false
namespace Mine
open PySem PySem.W PyProof.Rows PySem.Calls PySem.Spec
-- MAC
local macro_rules | `(tactic| k_mem) => `(tactic| first | (with_reducible exact mem_self) | (with_reducible exact List.Mem.head _) | ((with_reducible refine mem_other ?_ ?_); (focus decide); k_mem) | ((with_reducible refine List.Mem.tail _ ?_); k_mem))
local macro_rules | `(tactic| k_inst) => `(tactic| first
  | ((with_reducible refine ev_name ?_ ?_ ?_); (focus k_mem); (focus decide); decide)
  | ((with_reducible refine ev_nat ?_); rfl)
  | (with_reducible refine ev_bin (op := .BitXor) ?_ ?_ (op_xorN _ _)) | (with_reducible refine ev_bin (op := .BitAnd) ?_ ?_ (op_andN _ _)) | (with_reducible refine ev_bin (op := .RShift) ?_ ?_ (op_shrN _ _))
  | (with_reducible refine ev_bin (op := .LShift) ?_ ?_ (op_shlN ?_)) | (with_reducible refine ev_bin (op := .Add) ?_ ?_ (op_addN _ _)) | (with_reducible refine ev_bin (op := .Mod) ?_ ?_ (op_modN _ ?_))
  | ((with_reducible refine evs_cons ?_ ?_ ?h3); (case h3 => rfl)) | (with_reducible exact evs_nil))
-- CAM
def cv85 (p : List Nat) : List Nat := let st := cvAll 8 5 p; if (st.2.1 != 0) = true then st.2.2 ++ [(st.1 <<< (5 - st.2.1)) &&& (1 <<< 5 - 1)] else st.2.2
theorem cv85_eq (p : List Nat) : cv 8 5 true p = some (cv85 p) := by
  unfold cv cvEnd cv85
  rw [if_pos rfl]
  split <;> simp_all
theorem emit_lt {acc b t j : Nat} : ∀ v ∈ emit acc b t j, v ≤ 1 <<< t - 1 := fun v hv => by
  obtain ⟨i, _, rfl⟩ := List.mem_map.mp hv
  exact Nat.and_le_right
theorem cvAll_lt (f t : Nat) : ∀ (n : Nat) (l : List Nat), l.length = n → ∀ v ∈ (cvAll f t l).2.2, v ≤ 1 <<< t - 1 := by
  intro n
  induction n with
  | zero => intro l h; rw [List.length_eq_zero_iff.mp h]; intro v hv; cases hv
  | succ n ih =>
    intro l h
    rcases List.eq_nil_or_concat l with rfl | ⟨r, x, rfl⟩
    · cases h
    rw [List.concat_eq_append] at h ⊢
    rw [cv_snoc]
    intro v hv
    rcases List.mem_append.mp hv with hv | hv
    · exact ih r (by simpa using h) v hv
    · exact emit_lt v hv
theorem cv85_lt (p : List Nat) : ∀ v ∈ cv85 p, v < 32 := fun v hv => by
  have h31 : (1 <<< 5 - 1 : Nat) = 31 := by decide
  have key : v ≤ 1 <<< 5 - 1 := by
    unfold cv85 at hv
    simp only at hv
    split at hv
    · rcases List.mem_append.mp hv with hv | hv
      · exact cvAll_lt 8 5 _ p rfl v hv
      · rw [List.mem_singleton.mp hv]; exact Nat.and_le_right
    · exact cvAll_lt 8 5 _ p rfl v hv
  omega
theorem cv85_len (p : List Nat) : (cv85 p).length ≤ 16 * p.length + 1 := by
  have := cv_len 8 5 (by decide) (by decide) _ p rfl
  unfold cv85
  simp only
  split
  · rw [List.length_append]; simp only [List.length_cons, List.length_nil]; omega
  · omega
def encNo (v : Nat) : Nat := if (v == 0) = true then 1 else 2
def bet (h : List Nat) (v : Nat) (p : List Nat) : List Nat := benc (encNo v) h (v :: cv85 p)
def be (h : List Nat) (v : Nat) (p : List Nat) : Option (List Nat) := match bd h (bet h v p) with
  | none => none
  | some _ => some (bet h v p)
def optStr : Option (List Nat) → Dat
  | none => .none
  | some r => .str (mk r)
theorem CH_ascii : ∀ c ∈ CH, c < 128 := by decide +kernel
theorem CH_getD {d : Nat} (h : d < 32) : CH.getD d 0 ∈ CH := by
  have : d < CH.length := by rw [CH_len]; exact h
  rw [List.getD_eq_getElem?_getD, List.getElem?_eq_getElem this]
  exact List.getElem_mem this
theorem benc_ascii {e : Nat} {h data : List Nat} (ha : ∀ c ∈ h, c < 128) (hd : ∀ d ∈ data, d < 32) : ∀ c ∈ benc e h data, c < 128 := fun c hc => by
  rcases List.mem_append.mp hc with hc | hc
  · rcases List.mem_append.mp hc with hc | hc
    · exact ha c hc
    · rw [List.mem_singleton.mp hc]; decide
  · obtain ⟨d, hd', rfl⟩ := List.mem_map.mp hc
    exact CH_ascii _ (CH_getD ((List.mem_append.mp hd').elim (hd d) (checksum_lt d)))
theorem benc_len {e : Nat} {h data : List Nat} : (benc e h data).length = h.length + data.length + 7 := by
  simp only [benc, List.length_append, List.length_map, checksum_len, List.length_cons, List.length_nil]; omega
theorem kp_180 {C : Cx} : Kp C (.ref 180) := kp_K fun w => by kernel_rfl
theorem kp_200 {C : Cx} : Kp C (.ref 200) := kp_K fun w => by kernel_rfl
theorem be_cal {C : Cx} (hn : 6 ≤ C.n) {h p : List Nat} {v : Nat} {D : Dat} (ha : ∀ c ∈ h, c < 128) (hl : h.length ≤ 100) (hv : v < 32) (hp : p.length ≤ 40) (hD : ∀ C' : Cx, C'.A.handled = C.A.handled → 1 ≤ C'.n → Cal C' (.ref 193) [D, dn 8, dn 5] (optNl (cv 8 5 true p))) :
    Cal C (.ref 207) [.str (mk h), dn v, D] (optStr (be h v p)) := by
  refine cal_fn (xs := []) (es := []) (by omega) rfl rfl ["hrp", "witver", "witprog"] (fun _ _ => .nil) ?_ (by decide) (by decide) ?_
  · intro s vs _ h
    obtain ⟨a, b, c, rfl⟩ := len3 h
    exact .of_eq rfl
  · intro h₀ L
    have hlen := cv85_len p
    have hlt : ∀ d ∈ v :: cv85 p, d < 32 := fun d hd => by
      rcases List.mem_cons.mp hd with rfl | hd
      · exact hv
      · exact cv85_lt p d hd
    refine xs_cons (xt_assign (d := dn (encNo v)) ?_) (xs_cons (xt_assign (d := .str (mk (bet h v p))) ?_) ?_)
    · refine ev_if (c := v == 0) (ts_cmp (by k_inst) (by k_inst) (cmp_eqN _ 0)) (fun h => ?_) fun h => ?_
      · rw [encNo, if_pos h]; exact ev_bech32
      · rw [encNo, h, if_neg Bool.false_ne_true]; exact ev_bech32m
    · refine ev_call (ev_gl gl_bech32_encode rfl) (evs3 (d := dn (encNo v)) (d' := .str (mk h)) (d'' := nl (v :: cv85 p)) (by k_inst) (by k_inst) ?_) kp_180 (benc_cal (show 3 ≤ C.n - 1 by omega) ha (by omega) (by rw [List.length_cons]; omega) hlt)
      refine ev_bin (d1 := nl [v]) (d2 := nl (cv85 p)) ?_ ?_ (op_addLm (xs := [v]) (ys := cv85 p) (g := dn) (by simp only [List.length_cons, List.length_nil, sizeLine_eq]; omega))
      · show Ev _ _ _ (.list [dn v])
        exact ev_listD (by repeat' k_inst) (by show 1 ≤ 1000; decide)
      · refine ev_call (ev_gl gl_convertbits rfl) (evs3 (d := D) (d' := dn 8) (d'' := dn 5) (by k_inst) (by k_inst) (by k_inst)) kp_193 ?_
        rw [show nl (cv85 p) = optNl (cv 8 5 true p) by rw [cv85_eq]; rfl]
        exact hD _ rfl (show 1 ≤ C.n - 1 by omega)
    · have hra : ∀ c ∈ bet h v p, c < 128 := benc_ascii ha hlt
      have hrl : (bet h v p).length ≤ 1000 := by rw [bet, benc_len, List.length_cons]; omega
      have hn1 : 1 ≤ C.n - 1 := by omega
      cases hb : bd h (bet h v p) with
      | none =>
        rw [be, hb]
        refine xs_stop (xt_if (b := true) (ts_cmp (d1 := bdDat none) (d2 := bdDat none) ?_ none2 (cmp_eqT2 .none .none hn1)) (fun _ => xs_stop (xt_ret (ev_none _ _))) fun q => by cases q)
        rw [← hb]
        exact ev_call (ev_gl gl_decode_bech32 rfl) (evs2 (d := .str (mk h)) (d' := .str (mk (bet h v p))) (by k_inst) (by k_inst)) kp_200 (bd_cal (show 5 ≤ C.n - 1 by omega) hra hrl)
      | some x =>
        obtain ⟨v', p'⟩ := x
        rw [be, hb]
        refine xs_iff ((ts_cmp (d1 := bdDat (some (v', p'))) (d2 := bdDat none) ?_ none2 (cmp_eqT2 (.int_none _) (.list_none _) hn1)).cast rfl) (xs_stop (xt_ret ?_))
        · rw [← hb]
          exact ev_call (ev_gl gl_decode_bech32 rfl) (evs2 (d := .str (mk h)) (d' := .str (mk (bet h v p))) (by k_inst) (by k_inst)) kp_200 (bd_cal (show 5 ≤ C.n - 1 by omega) hra hrl)
        · show Ev _ _ _ (.str (mk (bet h v p)))
          k_inst
theorem be_list {C : Cx} (hn : 6 ≤ C.n) {h p : List Nat} {v : Nat} (ha : ∀ c ∈ h, c < 128) (hl : h.length ≤ 100) (hv : v < 32) (hp : p.length ≤ 40) (hpb : ∀ c ∈ p, c < 256) : Cal C (.ref 207) [.str (mk h), dn v, nl p] (optStr (be h v p)) :=
  be_cal hn ha hl hv hp fun C' _ hn' => cv_list hn' (by decide) (by decide) (by decide) (by decide) (by omega) hpb
theorem be_bytes {C : Cx} (hn : 6 ≤ C.n) (hh : C.A.handled = none) {h : List Nat} {b : Array UInt8} {v : Nat} (ha : ∀ c ∈ h, c < 128) (hl : h.length ≤ 100) (hv : v < 32) (hp : b.size ≤ 40) : Cal C (.ref 207) [.str (mk h), dn v, .bytes b] (optStr (be h v (bnat b))) :=
  be_cal hn ha hl hv (by rw [bnat_len]; exact hp) fun C' e hn' => cv_bytes hn' (e.trans hh) (by decide) (by decide) (by omega)
end Mine
end
section
set_option maxRecDepth 100000
set_option linter.unusedVariables false
namespace Mine
open PySem PySem.W PyProof.Rows PySem.Calls PySem.Spec
-- MAC
local macro_rules | `(tactic| k_mem) => `(tactic| first | (with_reducible exact mem_self) | (with_reducible exact List.Mem.head _) | ((with_reducible refine mem_other ?_ ?_); (focus decide); k_mem) | ((with_reducible refine List.Mem.tail _ ?_); k_mem))
local macro_rules | `(tactic| k_inst) => `(tactic| first
  | ((with_reducible refine ev_name ?_ ?_ ?_); (focus k_mem); (focus decide); decide)
  | ((with_reducible refine ev_nat ?_); rfl)
  | (with_reducible refine ev_bin (op := .BitXor) ?_ ?_ (op_xorN _ _)) | (with_reducible refine ev_bin (op := .BitAnd) ?_ ?_ (op_andN _ _)) | (with_reducible refine ev_bin (op := .RShift) ?_ ?_ (op_shrN _ _))
  | (with_reducible refine ev_bin (op := .LShift) ?_ ?_ (op_shlN ?_)) | (with_reducible refine ev_bin (op := .Add) ?_ ?_ (op_addN _ _)) | (with_reducible refine ev_bin (op := .Mod) ?_ ?_ (op_modN _ ?_))
  | ((with_reducible refine evs_cons ?_ ?_ ?h3); (case h3 => rfl)) | (with_reducible exact evs_nil))
-- CAM
theorem kp_63 {C : Cx} : Kp C (.ref 63) := kp_K fun w => by kernel_rfl
theorem kp_109 {C : Cx} : Kp C (.ref 109) := kp_K fun w => by kernel_rfl
theorem mk63 (w : World) : makesIn (Kf w) 63 = true := by kernel_rfl
theorem in63 (w : World) : findIn (Kf w) (.ref 63) "__init__" = some (some (.ref 46)) := by kernel_rfl
theorem ty46 (w : World) : typeIn (Kf w) (.ref 46) = some (.type "function") := by kernel_rfl
theorem se63 (w : World) : findIn (Kf w) (.ref 63) "__setattr__" = some (some (.builtin "object.__setattr__")) := by kernel_rfl
theorem po63 (w : World) : plainOver (Kf w) 63 = true := by kernel_rfl
theorem ta63 (w : World) : takerIn (Kf w) 63 "data" = some none := by kernel_rfl
theorem hd63 (w : World) : (clsIn (Kf w) 63).any (·.hasDict) = true := by kernel_rfl
theorem ga63 (w : World) : findIn (Kf w) (.ref 63) "__getattribute__" = some (some (.builtin "object.__getattribute__")) := by kernel_rfl
theorem gt63 (w : World) : findIn (Kf w) (.ref 63) "__getattr__" = some none := by kernel_rfl
theorem di63 (w : World) : findIn (Kf w) (.ref 63) "digest" = some (some (.ref 60)) := by kernel_rfl
theorem ty60 (w : World) : typeIn (Kf w) (.ref 60) = some (.type "function") := by kernel_rfl
theorem kp_60 {C : Cx} : Kp C (.ref 60) := kp_K fun w => by kernel_rfl
theorem sha_make {C : Cx} (hn : 5 ≤ C.n) (b : Array UInt8) : Cal C (.ref 63) [.bytes b] (.inst 63 b) :=
  cal_make hn (mk63 _) (in63 _) (ty46 _) (se63 _) (po63 _) (ta63 _) (hd63 _) rfl rfl (fun s a b X => by first | exact .of_eq rfl | exact .of_defaults rfl (X 39 _ rfl) rfl rfl rfl) rfl rfl
/-- the bytes that an object holds -/
theorem ev_data {C : Cx} {ρ : List (Str × Dat)} {e : Expr} {c : Addr} {b : Array UInt8} {pos : Pos} (h : Ev C ρ e (.inst c b)) (hga : findIn (Kf C.w) (.ref c) "__getattribute__" = some (some (.builtin "object.__getattribute__")))
    (hf : ∀ hh tk t, findObj (Kf C.w) c (some (dataDict hh tk b t)) "data" = some (.value (.bytes b t)))
    (he : eval (.Attribute e "data" pos) C.env = (do
      let o ← eval e C.env
      standAt pos.atName
      let r ← holding [o] (getAttr o "data" true)
      letTemporaryGo e o r
      pure r) := by with_unfolding_all rfl) : Ev C ρ (.Attribute e "data" pos) (.bytes b) := fun s o =>
  Attribute_any_ (h.to o (.refl o) fun u s1 o1 z1 _ r1 => by
    cases r1 with
    | inst h1 h2 f1 f2 f3 f4 => exact get_value o1.kin (od := some (dataDict _ _ b _)) ⟨h1, rfl, rfl, h2⟩ hga (hf _ _ _) rfl ⟨z1.trans (.toks o1.base _), .bytes _ _⟩) he
/-- a method of an object of ours -/
theorem ev_instM {C : Cx} {ρ : List (Str × Dat)} {o' : Expr} {name : Str} {apos pos : Pos} {args : List Expr} {c f : Addr} {b : Array UInt8} {ds : List Dat} {d : Dat} (ho : Ev C ρ o' (.inst c b)) (ha : Evs C ρ args ds)
    (hga : findIn (Kf C.w) (.ref c) "__getattribute__" = some (some (.builtin "object.__getattribute__"))) (hgt : findIn (Kf C.w) (.ref c) "__getattr__" = some none) (hf : findIn (Kf C.w) (.ref c) name = some (some (.ref f))) (ht : typeIn (Kf C.w) (.ref f) = some (.type "function"))
    (hs : ∀ hh tk t, shadowIn (some (dataDict hh tk b t)) name = some false) (hk : Kp C (.ref f)) (hc : Cal C (.ref f) (.inst c b :: ds) d)
    (hline : (apos.endLine == pos.line) = true := by rfl) (hbase : attributeBase o' name C.env (eval o' C.env) = eval o' C.env := by rfl) (hlen : args.length < 25 := by decide) : Ev C ρ (.Call (.Attribute o' name apos) args [] pos) d :=
  ev_methG (fv := .ref f) (first := fun v => [v]) ho ha (fun s v pl Q E o r k => by
    cases r with
    | inst h1 h2 f1 f2 f3 f4 => exact method_fn o.kin (od := some (dataDict _ _ b _)) ⟨h1, rfl, rfl, h2⟩ hga hgt hf ht (hs _ _ _) (k s (.refl o))) hk (fun s v vs o r rs => hc s (v :: vs) o (.cons r rs)) hline hbase hlen
def SK : Nat := 48181483302151357469556550866566148933
def SP : Nat := 2 ^ 255 - 19
def sha (b : Array UInt8) : Array UInt8 := tob 32 (fob (#[1] ++ b) * fob (#[1] ++ b) * SK % SP)
theorem SP_lt : SP < 256 ^ 32 := by decide +kernel
theorem SP_pos : 0 < SP := by decide +kernel
theorem digest_cal {C : Cx} (hn : 1 ≤ C.n) {b : Array UInt8} (hb : b.size ≤ 100000) : Cal C (.ref 60) [.inst 63 b] (.bytes (sha b)) := by
  refine cal_fn (xs := []) (es := []) hn rfl rfl ["self"] (fun _ _ => .nil) ?_ (by decide) (by decide) ?_
  · intro s vs _ h
    obtain ⟨a, rfl⟩ := len1 h
    exact .of_eq rfl
  · intro h₀ L
    have hsz : (#[1] ++ b).size ≤ 100001 := by simp; omega
    have hfl : fob (#[1] ++ b) < 2 ^ 1000000 := by
      refine Nat.lt_of_lt_of_le (fob_lt _) ?_
      rw [show (256 : Nat) = 2 ^ 8 from rfl, ← Nat.pow_mul]
      exact Nat.pow_le_pow_right (by decide) (by omega)
    refine xs_cons (xt_assign (d := dn (fob (#[1] ++ b))) (ev_fb (ev_bin (d1 := .bytes #[1]) (d2 := .bytes b) (ev_bytes [1] _ _) (ev_data (by k_inst) (ga63 _) fun hh tk t => ?_) (op_addB ?_)) (by omega))) (xs_stop (xt_ret ?_))
    · rfl
    · show 1 + b.size ≤ _; omega
    · have hsq : fob (#[1] ++ b) * fob (#[1] ++ b) < 2 ^ 2000000 := by
        have := Nat.mul_lt_mul'' hfl hfl
        rw [← Nat.pow_add] at this
        exact this
      refine ev_meth (d1 := dn (fob (#[1] ++ b) * fob (#[1] ++ b) * SK % SP)) (ds := [dn 32, .str "big"]) (ev_bin (d1 := dn (fob (#[1] ++ b) * fob (#[1] ++ b) * SK)) (d2 := dn SP) (ev_bin (d1 := dn (fob (#[1] ++ b) * fob (#[1] ++ b))) (d2 := dn SK) (ev_bin (by k_inst) (by k_inst) (op_mulN (mul_ok 1000000 1000000 hfl hfl (by decide)))) (ev_nat (n := SK)) (op_mulN (mul_ok 2000000 200 hsq (by decide +kernel) (by decide)))) ?_ (op_modN _ SP_pos)) (evs2 (by k_inst) (ev_str "big" _ _)) (fun s v r => typeI v r) F.plainAttrs_int KTBy.slot KTBy.type_eq (cal_tb (by decide) (Nat.lt_trans (Nat.mod_lt _ SP_pos) SP_lt))
      refine (ev_bin (ev_bin (ev_int 2 _ _) (ev_int 255 _ _) (op_pow (by decide) (by decide +kernel))) (ev_int 19 _ _) (op_sub _ _)).cast ?_
      show Dat.int _ = Dat.int _
      congr 1
end Mine
end
section
set_option maxRecDepth 100000
set_option linter.unusedVariables false
namespace Mine
open PySem PySem.W PyProof.Rows PySem.Calls PySem.Spec
-- MAC
local macro_rules | `(tactic| k_mem) => `(tactic| first | (with_reducible exact mem_self) | (with_reducible exact List.Mem.head _) | ((with_reducible refine mem_other ?_ ?_); (focus decide); k_mem) | ((with_reducible refine List.Mem.tail _ ?_); k_mem))
local macro_rules | `(tactic| k_inst) => `(tactic| first
  | ((with_reducible refine ev_name ?_ ?_ ?_); (focus k_mem); (focus decide); decide)
  | ((with_reducible refine ev_nat ?_); rfl)
  | (with_reducible refine ev_bin (op := .BitXor) ?_ ?_ (op_xorN _ _)) | (with_reducible refine ev_bin (op := .BitAnd) ?_ ?_ (op_andN _ _)) | (with_reducible refine ev_bin (op := .RShift) ?_ ?_ (op_shrN _ _))
  | (with_reducible refine ev_bin (op := .LShift) ?_ ?_ (op_shlN ?_)) | (with_reducible refine ev_bin (op := .Add) ?_ ?_ (op_addN _ _)) | (with_reducible refine ev_bin (op := .Mod) ?_ ?_ (op_modN _ ?_))
  | ((with_reducible refine evs_cons ?_ ?_ ?h3); (case h3 => rfl)) | (with_reducible exact evs_nil))
-- CAM
theorem sha_fn {C : Cx} (hn : 6 ≤ C.n) (b : Array UInt8) : Cal C (.ref 82) [.bytes b] (.inst 63 b) := by
  refine cal_fn (xs := []) (es := []) (by omega) rfl rfl ["data"] (fun _ _ => .nil) ?_ (by decide) (by decide) ?_
  · intro s vs X h
    obtain ⟨a, rfl⟩ := len1 h
    first | exact .of_eq rfl | exact .of_defaults rfl (X 75 _ rfl) rfl rfl rfl
  · intro h₀ L
    exact xs_stop (xt_ret (ev_call (ev_gl gl_Sha256 rfl) (evs1 (by k_inst)) kp_63 (sha_make (show 5 ≤ C.n - 1 by omega) b)))
theorem rd98 (w : World) : readsIn (Kf w) 98 (.type "type") = true := by kernel_rfl
theorem sp98 (w : World) : specialIn (Kf w) (.ref 98) "__getattribute__" = some (some (.builtin "type.__getattribute__")) := by kernel_rfl
theorem fc98 (w : World) : ∃ p obj rest, findCls (Kf w) (.ref 98) (.type "type") "sha256" = some (.get (.builtin "staticmethod.__get__") (.ref p) obj (.ref 98)) ∧ recIn (Kf w) p "staticmethod" = some (.ref 82 :: rest) := ⟨_, _, _, rfl, rfl⟩
theorem kp82 (w : World) : keepIn (Kf w) (.ref 82) = true := by kernel_rfl
theorem ev_sha {C : Cx} {ρ : List (Str × Dat)} {e : Expr} {b : Array UInt8} {p apos pos : Pos} (hn : 6 ≤ C.n) (h : Ev C ρ e (.bytes b)) (hk : C.env.kindOf "hashlib" = some .globalImplicit) (hst : notStar e = true := by rfl)
    (hline : (apos.endLine == pos.line) = true := by rfl) (hbase : attributeBase (.Name "hashlib" p) "sha256" C.env (eval (.Name "hashlib" p) C.env) = eval (.Name "hashlib" p) C.env := by rfl) : Ev C ρ (.Call (.Attribute (.Name "hashlib" p) "sha256" apos) [e] [] pos) (.inst 63 b) := by
  obtain ⟨q, obj, rest, h1, h2⟩ := fc98 C.w
  exact ev_static (K := []) (tp := .none) (ev_gl gl_hashlib hk) (evs1 h hst) (sp98 _) (rd98 _) h1 h2 rfl (kp82 _) (sha_fn hn b) hline hbase (by show 1 < 25; decide)
theorem ev_digest {C : Cx} {ρ : List (Str × Dat)} {e : Expr} {b : Array UInt8} {apos pos : Pos} (hn : 1 ≤ C.n) (hb : b.size ≤ 100000) (h : Ev C ρ e (.inst 63 b)) (hline : (apos.endLine == pos.line) = true := by rfl) (hbase : attributeBase e "digest" C.env (eval e C.env) = eval e C.env := by rfl) : Ev C ρ (.Call (.Attribute e "digest" apos) [] [] pos) (.bytes (sha b)) :=
  ev_instM h evs_nil (ga63 _) (gt63 _) (di63 _) (ty60 _) (fun _ _ _ => rfl) kp_60 (digest_cal hn hb) hline hbase
theorem tob_size (k x : Nat) : (tob k x).size = k := by simp [tob, KTBy.low_length]
theorem sha_size (b : Array UInt8) : (sha b).size = 32 := tob_size _ _
def dsha (b : Array UInt8) : Array UInt8 := sha (sha b)
theorem dsha_cal {C : Cx} (hn : 7 ≤ C.n) {b : Array UInt8} (hb : b.size ≤ 100000) : Cal C (.ref 109) [.bytes b] (.bytes (dsha b)) := by
  refine cal_fn (xs := []) (es := []) (by omega) rfl rfl ["msg"] (fun _ _ => .nil) ?_ (by decide) (by decide) ?_
  · intro s vs X h
    obtain ⟨a, rfl⟩ := len1 h
    exact .of_eq rfl
  · intro h₀ L
    have hn' : 6 ≤ C.n - 1 := by omega
    exact xs_stop (xt_ret (ev_digest (show 1 ≤ C.n - 1 by omega) (by rw [sha_size]; decide) (ev_sha hn' (ev_digest (show 1 ≤ C.n - 1 by omega) hb (ev_sha hn' (by k_inst) rfl)) rfl)))
end Mine
end
section
set_option maxRecDepth 100000
set_option maxHeartbeats 4000000
set_option linter.unusedVariables false
namespace Mine
open PySem PySem.W PyProof.Rows PySem.Calls PySem.Spec
-- MAC
local macro_rules | `(tactic| k_mem) => `(tactic| first | (with_reducible exact mem_self) | (with_reducible exact List.Mem.head _) | ((with_reducible refine mem_other ?_ ?_); (focus decide); k_mem) | ((with_reducible refine List.Mem.tail _ ?_); k_mem))
local macro_rules | `(tactic| k_inst) => `(tactic| first
  | ((with_reducible refine ev_name ?_ ?_ ?_); (focus k_mem); (focus decide); decide)
  | ((with_reducible refine ev_nat ?_); rfl)
  | (with_reducible refine ev_bin (op := .BitXor) ?_ ?_ (op_xorN _ _)) | (with_reducible refine ev_bin (op := .BitAnd) ?_ ?_ (op_andN _ _)) | (with_reducible refine ev_bin (op := .RShift) ?_ ?_ (op_shrN _ _))
  | (with_reducible refine ev_bin (op := .LShift) ?_ ?_ (op_shlN ?_)) | (with_reducible refine ev_bin (op := .Add) ?_ ?_ (op_addN _ _)) | (with_reducible refine ev_bin (op := .Mod) ?_ ?_ (op_modN _ ?_))
  | ((with_reducible refine evs_cons ?_ ?_ ?h3); (case h3 => rfl)) | (with_reducible exact evs_nil))
-- CAM
def DG : List Nat := codes "123456789ABCDEFGHJKLMNPQRSTUVWXYZabcdefghijkmnopqrstuvwxyz"
theorem DG_len : DG.length = 58 := by decide +kernel
theorem DG_mk : ("123456789ABCDEFGHJKLMNPQRSTUVWXYZabcdefghijkmnopqrstuvwxyz" : Str) = mk DG := by decide +kernel
theorem ev_DG {C : Cx} {ρ : List (Str × Dat)} {p : Pos} (hk : C.env.kindOf "B58_DIGITS" = some .globalImplicit := by rfl) : Ev C ρ (.Name "B58_DIGITS" p) (.str (mk DG)) := by
  rw [← DG_mk]
  exact (ev_gl gl_B58 hk).rep fun _ _ => .str _ _
def nd (n : Nat) : Nat := if n = 0 then 0 else nd (n / 58) + 1
termination_by n
decreasing_by omega
theorem nd_spec : ∀ n j : Nat, j < nd n ↔ 0 < n / 58 ^ j := by
  intro n
  induction n using Nat.strongRecOn with
  | ind n ih =>
    intro j
    rw [nd]
    by_cases h : n = 0
    · subst h; simp
    · rw [if_neg h]
      cases j with
      | zero => simp; omega
      | succ j =>
        rw [Nat.pow_succ, Nat.mul_comm, ← Nat.div_div_eq_div_mul, ← ih (n / 58) (by omega) j]
        omega
def dAt (n i : Nat) : Nat := DG.getD (n / 58 ^ i % 58) 0
def digs (n j : Nat) : List Nat := (List.range j).map (dAt n)
theorem digs_succ (n j : Nat) : digs n (j + 1) = digs n j ++ [dAt n j] := by rw [digs, List.range_succ, List.map_append]; rfl
theorem digs_len (n j : Nat) : (digs n j).length = j := by simp [digs]
def lead : List Nat → Nat
  | [] => 0
  | x :: r => if x = 0 then lead r + 1 else 0
def b58 (b : Array UInt8) : List Nat := List.replicate (lead (bnat b)) 49 ++ (digs (fob b) (nd (fob b))).reverse
theorem nd_le {b : Array UInt8} (h : b.size ≤ 200) : nd (fob b) ≤ 400 := by
  rcases Nat.lt_or_ge 400 (nd (fob b)) with z | z
  · have h1 := (nd_spec (fob b) 400).mp z
    have h2 := fob_lt b
    have h3 : (256 : Nat) ^ b.size ≤ 256 ^ 200 := Nat.pow_le_pow_right (by decide) h
    have h4 : (256 : Nat) ^ 200 ≤ 58 ^ 400 := by decide +kernel
    rw [Nat.div_eq_of_lt (by omega)] at h1
    omega
  · exact z
theorem lead_at : ∀ {l : List Nat} {i : Nat}, i < lead l → l[i]? = some 0
  | [], i, h => by cases h
  | x :: r, i, h => by
    unfold lead at h
    split at h
    · rename_i q
      cases i with
      | zero => rw [q]; rfl
      | succ i => simpa using lead_at (l := r) (by omega)
    · cases h
theorem lead_end : ∀ {l : List Nat} {d : Nat}, l[lead l]? = some d → d ≠ 0
  | [], d, h => by simp at h
  | x :: r, d, h => by
    unfold lead at h
    split at h
    · exact lead_end (l := r) (by simpa using h)
    · rename_i q
      simp at h
      exact h ▸ q
theorem lead_le : ∀ l : List Nat, lead l ≤ l.length
  | [] => Nat.le_refl _
  | x :: r => by
    unfold lead
    have := lead_le r
    split <;> simp <;> omega
theorem mulS {x : List Nat} {n : Nat} (hx : x.length = 1) (hn : n ≤ 100000) : MulOk (mk x) (n : Int) := by
  refine ⟨?_, fun h1 h2 => ?_, fun h1 h2 => ?_⟩
  · rw [decide_eq_false (by omega), decide_eq_false (by omega)]; rfl
  · rw [mk_len, hx]
    have : (1 : Int) ≤ (2 ^ 63 - 1) / (n : Int) := by
      rw [Int.le_ediv_iff_mul_le (by omega)]
      omega
    omega
  · rw [mk_len, hx]
    unfold Builtin.Str.tooLong
    rw [decide_eq_false_iff_not, sizeLine_eq, Int.toNat_natCast]
    omega
theorem mul_mk (c n : Nat) : Txt.mul (mk [c]) (n : Int) = mk (List.replicate n c) := by
  unfold Txt.mul
  by_cases h0 : n = 0
  · subst h0; rfl
  · rw [if_neg (by omega)]
    by_cases h1 : n = 1
    · subst h1; rfl
    · rw [if_neg (by
        rw [Bool.or_eq_true, not_or]
        refine ⟨by rw [beq_iff_eq]; omega, by rw [mk_len]; simp⟩)]
      apply Str.ext'
      apply Array.toList_inj.mp
      rw [Int.toNat_natCast]
      have : ∀ (k : Nat) (acc : Array Nat), ((List.replicate k (mk [c]).cps).foldl (· ++ ·) acc).toList = acc.toList ++ List.replicate k c := by
        intro k
        induction k with
        | zero => intro acc; simp
        | succ k ih =>
          intro acc
          rw [List.replicate_succ, List.foldl_cons, ih, List.replicate_succ]
          simp [mk]
      show ((List.replicate n (mk [c]).cps).foldl (· ++ ·) #[]).toList = _
      rw [this]
      simp [mk]
theorem b58_cal {C : Cx} (hn : 1 ≤ C.n) (hh : C.A.handled = none) {b : Array UInt8} (hb : b.size ≤ 200) : Cal C (.ref 116) [.bytes b] (.str (mk (b58 b))) := by
  refine cal_fn (xs := []) (es := []) hn rfl rfl ["b"] (fun _ _ => .nil) ?_ (by decide) (by decide) ?_
  · intro s vs _ h
    obtain ⟨a, rfl⟩ := len1 h
    exact .of_eq rfl
  · intro h₀ L
    obtain ⟨n, hnn⟩ : ∃ n, fob b = n := ⟨_, rfl⟩
    have hk : nd n ≤ 400 := hnn ▸ nd_le hb
    have hD : 1 < DG.length := by rw [DG_len]; decide
    refine xs_cons (xt_assign (d := dn n) (by rw [← hnn]; exact ev_fb (by k_inst) (by omega))) (xs_newlist fun a hown hnew => ?_)
    refine xs_cons (xt_while (fun j => [("b", .bytes b), ("n", dn (n / 58 ^ j)), ("chars", .own a true ((digs n j).map ch))]) (nd n) ?_ ?_ ?_ ?_) ?_
    · intro p hp
      simp only [Nat.pow_zero, Nat.div_one, List.mem_cons, List.not_mem_nil, or_false] at hp
      rcases hp with rfl | rfl | rfl <;> k_mem
    · intro j hj
      exact (ts_cmp (d1 := dn (n / 58 ^ j)) (by k_inst) (by k_inst) (cmp_gtN _ 0)).cast (decide_eq_true ((nd_spec n j).mp hj))
    · intro j hj
      refine xs_cons (xt_unpack (xs := [("n", _), ("r", _)]) (ds := [dn (n / 58 ^ j / 58), dn (n / 58 ^ j % 58)]) (ev_call (ev_bi bi_divmod rfl) (evs2 (d := dn (n / 58 ^ j)) (d' := dn 58) (by k_inst) (by k_inst)) (kp_builtin _) (cal_divmod (by decide) (by decide))) rfl ?_ (by intro x hx; simp only [List.mem_cons, List.not_mem_nil, or_false] at hx; rcases hx with rfl | rfl <;> rfl) rfl rfl) ?_
      · intro d hd
        simp only [List.mem_cons, List.not_mem_nil, or_false] at hd
        rcases hd with rfl | rfl <;> exact .inl rfl
      simp only [List.map_cons, List.map_nil, upds]
      refine xs_cons (xt_append (a := a) (ds := (digs n j).map ch) (d := ch (dAt n j)) (by k_mem) ?_ rfl flat_ch (by show a ∉ []; exact fun q => nomatch q) hnew ?_ ?_) (xs_end ?_)
      · refine ev_item (d2 := dn (n / 58 ^ j % 58)) ev_DG (by k_inst) ?_
        have hlt : n / 58 ^ j % 58 < DG.length := by rw [DG_len]; exact Nat.mod_lt _ (by decide)
        show ItOn _ _ _ (.str (mk [DG.getD (n / 58 ^ j % 58) 0]))
        rw [← mk_item hlt]
        exact it_str (by omega) (by rw [mk_len]; omega) (by rw [mk_len, DG_len]; decide)
      · intro p hp hne
        exact .inl ((FlatBut.upd (.upd (.cons (.inr rfl) (.cons (.inr rfl) (.cons (.inl rfl) .nil))) (.inr rfl)) (.inr rfl)) p hp hne)
      · rw [List.length_map, digs_len]; omega
      · intro p hp
        simp only [List.mem_cons, List.not_mem_nil, or_false] at hp
        rw [digs_succ, List.map_append, Nat.pow_succ, ← Nat.div_div_eq_div_mul] at hp
        rcases hp with rfl | rfl | rfl <;> k_mem
    · have : ¬ 0 < n / 58 ^ nd n := fun h => Nat.lt_irrefl _ ((nd_spec n (nd n)).mpr h)
      exact (ts_cmp (d1 := dn (n / 58 ^ nd n)) (by k_inst) (by k_inst) (cmp_gtN _ 0)).cast (decide_eq_false this)
    · have hrl : ((digs n (nd n)).reverse).length = nd n := by rw [List.length_reverse, digs_len]
      have hll := lead_le (bnat b)
      rw [bnat_len] at hll
      refine xs_cons (xt_assign (d := .str (mk (digs n (nd n)).reverse)) ?_) (xs_cons (xt_assign (d := dn 0) (by k_inst)) (xs_cons (ρ' := [("result", .str (mk (digs n (nd n)).reverse)), ("pad", dn (lead (bnat b)))]) ?_ (xs_stop (xt_ret ?_))))
      · have hxs : ((digs n (nd n)).map ch).reverse = ((digs n (nd n)).reverse.map fun c => mk [c]).map .str := by rw [List.map_map, ← List.map_reverse]; rfl
        refine ev_meth (d1 := .str (mk [])) (ds := [.list (((digs n (nd n)).reverse.map fun c => mk [c]).map .str)]) ev_s0 (evs1 ?_) (fun s v r => typeS v r) F.plainAttrs_str F.slot_str_join F.type_str_join ((cal_join ?_).cast ?_)
        · rw [← hxs]
          exact ev_slice (Ev.toList (a := a) (p := true) (by k_inst)) .none .none (.some (ev_neg (ev_int 1 _ _))) (sl_rev (by rw [List.length_map, digs_len, sizeLine_eq]; omega))
        · refine join_ok (fun y hy => ?_) rfl (by rw [List.length_map, hrl]; omega)
          obtain ⟨c, _, rfl⟩ := List.mem_map.mp hy
          exact Nat.le_refl 1
        · rw [mk_join]
      · rcases Nat.lt_or_ge (lead (bnat b)) (bnat b).length with hlt | hge
        · obtain ⟨v, hv⟩ : ∃ v, (bnat b)[lead (bnat b)]? = some v := ⟨_, List.getElem?_eq_getElem hlt⟩
          have hv0 := lead_end hv
          refine xt_for_brk (ds := (bnat b).map dn) (fun i => [("result", .str (mk (digs n (nd n)).reverse)), ("pad", dn i)]) (lead (bnat b)) (dn v) (by rw [List.getElem?_map, hv]; rfl) ?_ ?_ (fun fp i d hi hd => ?_) (fun fp => ?_)
          · rw [← byteInts_eq]; exact evIt (d := .bytes b) (by k_inst) (itr_bytes hh)
          · intro p hp
            simp only [List.mem_cons, List.not_mem_nil, or_false] at hp
            rcases hp with rfl | rfl <;> k_mem
          · have e : d = dn 0 := by rw [List.getElem?_map, lead_at hi] at hd; cases hd; rfl
            subst e
            refine xs_cons (xt_if (b := true) ((ts_cmp (d1 := dn 0) (by k_inst) (by k_inst) (cmp_eqN _ 0)).cast rfl) (fun _ => xs_cons (xt_aug (d1 := dn i) (d2 := dn 1) (by k_mem) (by k_inst) (iop_addN _ _)) (xs_end (ρ' := [("result", .str (mk (digs n (nd n)).reverse)), ("pad", dn (i + 1))]) ?_)) fun q => by cases q) xs_nil
            intro p hp
            simp only [List.mem_cons, List.not_mem_nil, or_false] at hp
            rcases hp with rfl | rfl <;> k_mem
          · refine xs_stop (xt_if (b := false) ((ts_cmp (d1 := dn v) (by k_inst) (by k_inst) (cmp_eqN _ 0)).cast (beq_eq_false_iff_ne.mpr hv0)) (fun q => by cases q) fun _ => xs_pre ?_ (xs_stop xt_break))
            intro p hp
            simp only [List.mem_cons, List.not_mem_nil, or_false] at hp
            rcases hp with rfl | rfl <;> k_mem
        · have hle := lead_le (bnat b)
          have hlen : lead (bnat b) = ((bnat b).map dn).length := by rw [List.length_map]; omega
          rw [hlen]
          refine xt_for (ds := (bnat b).map dn) (fun i => [("result", .str (mk (digs n (nd n)).reverse)), ("pad", dn i)]) ?_ ?_ (fun fp i d hd => ?_)
          · rw [← byteInts_eq]; exact evIt (d := .bytes b) (by k_inst) (itr_bytes hh)
          · intro p hp
            simp only [List.mem_cons, List.not_mem_nil, or_false] at hp
            rcases hp with rfl | rfl <;> k_mem
          · have hi : i < lead (bnat b) := by
              obtain ⟨h1, _⟩ := List.getElem?_eq_some_iff.mp hd
              omega
            have e : d = dn 0 := by rw [List.getElem?_map, lead_at hi] at hd; cases hd; rfl
            subst e
            refine xs_cons (xt_if (b := true) ((ts_cmp (d1 := dn 0) (by k_inst) (by k_inst) (cmp_eqN _ 0)).cast rfl) (fun _ => xs_cons (xt_aug (d1 := dn i) (d2 := dn 1) (by k_mem) (by k_inst) (iop_addN _ _)) (xs_end (ρ' := [("result", .str (mk (digs n (nd n)).reverse)), ("pad", dn (i + 1))]) ?_)) fun q => by cases q) xs_nil
            intro p hp
            simp only [List.mem_cons, List.not_mem_nil, or_false] at hp
            rcases hp with rfl | rfl <;> k_mem
      · rw [b58, hnn, ← mk_app, ← mul_mk]
        refine ev_bin (ev_bin (d1 := .str (mk [49])) (d2 := dn (lead (bnat b))) ?_ (by k_inst) (op_mulS (mulS rfl (by omega)))) (by k_inst) (op_addS ?_)
        · refine (ev_item ev_DG (ev_nat (n := 0)) (it_str (by omega) (by rw [mk_len, DG_len]; decide) (by rw [mk_len, DG_len]; decide))).cast ?_
          rw [mk_item (by rw [DG_len]; decide)]
          rfl
        · rw [mul_mk, mk_len, mk_len, hrl, List.length_replicate, sizeLine_eq]; omega
end Mine
end
section
set_option maxRecDepth 100000
set_option maxHeartbeats 4000000
set_option linter.unusedVariables false
namespace Mine
open PySem PySem.W PyProof.Rows PySem.Calls PySem.Spec
-- MAC
local macro_rules | `(tactic| k_mem) => `(tactic| first | (with_reducible exact mem_self) | (with_reducible exact List.Mem.head _) | ((with_reducible refine mem_other ?_ ?_); (focus decide); k_mem) | ((with_reducible refine List.Mem.tail _ ?_); k_mem))
local macro_rules | `(tactic| k_inst) => `(tactic| first
  | ((with_reducible refine ev_name ?_ ?_ ?_); (focus k_mem); (focus decide); decide)
  | ((with_reducible refine ev_nat ?_); rfl)
  | (with_reducible refine ev_bin (op := .BitXor) ?_ ?_ (op_xorN _ _)) | (with_reducible refine ev_bin (op := .BitAnd) ?_ ?_ (op_andN _ _)) | (with_reducible refine ev_bin (op := .RShift) ?_ ?_ (op_shrN _ _))
  | (with_reducible refine ev_bin (op := .LShift) ?_ ?_ (op_shlN ?_)) | (with_reducible refine ev_bin (op := .Add) ?_ ?_ (op_addN _ _)) | (with_reducible refine ev_bin (op := .Mod) ?_ ?_ (op_modN _ ?_))
  | ((with_reducible refine evs_cons ?_ ?_ ?h3); (case h3 => rfl)) | (with_reducible exact evs_nil))
-- CAM
def b58n (l : List Nat) : Nat := l.foldl (fun a c => a * 58 + DG.idxOf c) 0
def bl (n : Nat) : Nat := if (Builtin.Int.intBits (n : Int) + 7) / 8 = 0 then 1 else (Builtin.Int.intBits (n : Int) + 7) / 8
def ldc (c : Nat) : List Nat → Nat
  | [] => 0
  | x :: r => if x = c then ldc c r + 1 else 0
def b58d (l : List Nat) : Option (Array UInt8) := if l = [] then some #[] else if l.all (fun c => decide (c ∈ DG)) = true then some ((List.replicate (ldc 49 l.dropLast) (0 : UInt8)).toArray ++ tob (bl (b58n l)) (b58n l)) else none
theorem ldc_at {c : Nat} : ∀ {l : List Nat} {i : Nat}, i < ldc c l → l[i]? = some c
  | [], i, h => by cases h
  | x :: r, i, h => by
    unfold ldc at h
    split at h
    · rename_i q
      cases i with
      | zero => rw [q]; rfl
      | succ i => simpa using ldc_at (l := r) (by omega)
    · cases h
theorem ldc_end {c : Nat} : ∀ {l : List Nat} {d : Nat}, l[ldc c l]? = some d → d ≠ c
  | [], d, h => by simp at h
  | x :: r, d, h => by
    unfold ldc at h
    split at h
    · exact ldc_end (l := r) (by simpa using h)
    · rename_i q
      simp at h
      exact h ▸ q
theorem ldc_le (c : Nat) : ∀ l : List Nat, ldc c l ≤ l.length
  | [] => Nat.le_refl _
  | x :: r => by
    unfold ldc
    have := ldc_le c r
    split <;> simp <;> omega
theorem bl_lt (n : Nat) : n < 256 ^ bl n := by
  have h1 : n < 2 ^ Builtin.Int.intBits (n : Int) := by
    have := (intBits_le_iff (m := Builtin.Int.intBits (n : Int)) (x := (n : Int))).mp (Nat.le_refl _)
    simpa using this
  have h2 : Builtin.Int.intBits (n : Int) ≤ 8 * bl n := by unfold bl; split <;> omega
  have h3 : (2 : Nat) ^ Builtin.Int.intBits (n : Int) ≤ 2 ^ (8 * bl n) := Nat.pow_le_pow_right (by decide) h2
  rw [Nat.pow_mul] at h3
  exact Nat.lt_of_lt_of_le h1 h3
theorem b58n_go : ∀ (l : List Nat) (a m : Nat), (∀ c ∈ l, c ∈ DG) → a < 58 ^ m → l.foldl (fun a c => a * 58 + DG.idxOf c) a < 58 ^ (m + l.length)
  | [], a, m, _, h => by simpa using h
  | c :: r, a, m, hg, h => by
    have hc : DG.idxOf c < 58 := DG_len ▸ List.idxOf_lt_length_iff.mpr (hg c (.head _))
    have := b58n_go r (a * 58 + DG.idxOf c) (m + 1) (fun x hx => hg x (.tail _ hx)) (by rw [Nat.pow_succ]; omega)
    rw [List.foldl_cons, List.length_cons]
    have e : m + (r.length + 1) = m + 1 + r.length := by omega
    rw [e]
    exact this
theorem b58n_lt {l : List Nat} (h : ∀ c ∈ l, c ∈ DG) : b58n l < 58 ^ l.length := by
  have := b58n_go l 0 0 h (by decide)
  simpa [b58n] using this
theorem bl_le {n m : Nat} (hm : 1 ≤ m) (h : n < 256 ^ m) : bl n ≤ m := by
  have h2 : Builtin.Int.intBits (n : Int) ≤ 8 * m := (intBits_le_iff (m := 8 * m) (x := (n : Int))).mpr (by rw [Nat.pow_mul]; simpa using h)
  unfold bl
  split <;> omega
theorem b58n_bl {l : List Nat} (h : ∀ c ∈ l, c ∈ DG) (h0 : l ≠ []) : bl (b58n l) ≤ l.length :=
  bl_le (List.length_pos_iff.mpr h0) (Nat.lt_of_lt_of_le (b58n_lt h) (Nat.pow_le_pow_left (by decide) _))
theorem b58n_take (l : List Nat) {i c : Nat} (h : l[i]? = some c) : b58n (l.take (i + 1)) = b58n (l.take i) * 58 + DG.idxOf c := by
  rw [List.take_add_one, h]
  simp [b58n]
theorem iop_mulN {C : Cx} {a b : Nat} (h : IntMulOk (a : Int) (b : Int)) : Iop2 C .Mult (dn a) (dn b) (dn (a * b)) := (iop_mul h).cast (by simp)
theorem m58 (a : Nat) : IntMulOk (a : Int) ((58 : Nat) : Int) := PySem.IntMulOk.of_right (by decide)
theorem mk_beq1 (a b : Nat) : (mk [a] == mk [b]) = (a == b) := by
  by_cases h : a = b
  · subst h; simp
  · have h1 : mk [a] ≠ mk [b] := fun q => h (by have := congrArg PySem.Str.cps q; simpa [mk] using this)
    rw [beq_eq_false_iff_ne.mpr h, beq_eq_false_iff_ne.mpr h1]
theorem ev_one {C : Cx} {ρ : List (Str × Dat)} {p1 p2 p3 : Pos} {k1 : Nat} (hk : C.env.kindOf "B58_DIGITS" = some .globalImplicit := by rfl) : Ev C ρ (.Subscript (.Name "B58_DIGITS" p1) (.Constant (.int 0) k1 p2) p3) (.str (mk [49])) := by
  refine (ev_item (ev_DG hk) (ev_nat (n := 0) rfl) (it_str (by omega) (by rw [mk_len, DG_len]; decide) (by rw [mk_len, DG_len]; decide))).cast ?_
  rw [mk_item (by rw [DG_len]; decide)]
  rfl
theorem xs_ifr' {C : Cx} {ρ : List (Str × Dat)} {O : Out} {rest : List Stmt} {t : Expr} {b : Bool} {body : List Stmt} {pos : Pos} (h : Ts C ρ t b) (h1 : b = true → Xs C ρ body (.next ρ)) (h2 : b = false → Xs C ρ rest O) (hb : b = false := by rfl) : Xs C ρ (.If t body [] pos :: rest) O := by
  subst hb
  exact xs_iff h (h2 rfl)
theorem d123 {C : Cx} (hn : 1 ≤ C.n) (hh : C.A.handled = none) {l : List Nat} (hl : l.length ≤ 300) (ha : ∀ c ∈ l, c < 128) {b : Array UInt8} (hb : b58d l = some b) : Cal C (.ref 123) [.str (mk l)] (.bytes b) := by
  refine cal_fn (xs := []) (es := []) hn rfl rfl ["s"] (fun _ _ => .nil) ?_ (by decide) (by decide) ?_
  · intro s vs _ h
    obtain ⟨a, rfl⟩ := len1 h
    exact .of_eq rfl
  · intro h₀ L
    have hasc : (mk l).cps.all (· < 128) = true := by rw [Array.all_eq_true_iff_forall_mem]; intro x hx; exact decide_eq_true (ha x (by simpa [mk] using hx))
    have hsz : (mk l).length ≤ sizeLine := by rw [mk_len, sizeLine_eq]; omega
    refine xs_ifr (ts_not (ts_val (d := .str (mk l)) (by k_inst) (tr_str hsz))) (fun q => ?_) fun q => ?_
    · have : l = [] := by
        rw [mk_len] at q
        cases l with
        | nil => rfl
        | cons x r => simp at q; omega
      subst this
      have : b = #[] := by simpa [b58d] using hb.symm
      subst this
      exact xs_stop (xt_ret (ev_bytes [] _ _))
    · have hne : l ≠ [] := by
        rintro rfl
        simp [mk_len] at q
      rw [b58d, if_neg hne] at hb
      split at hb
      · rename_i hall
        have hg : ∀ c ∈ l, c ∈ DG := fun c hc => by simpa using List.all_eq_true.mp hall c hc
        have hb' := Option.some.inj hb
        have hbl := b58n_bl hg hne
        refine xs_cons (xt_assign (d := dn 0) (by k_inst)) (xs_cons (xt_for (ds := l.map ch) (fun i => [("s", .str (mk l)), ("n", dn (b58n (l.take i)))]) (by rw [← mk_chars]; exact evIt (d := .str (mk l)) (by k_inst) (itr_str hasc)) ?_ (fun fp i d hd => ?_)) ?_)
        · intro p hp
          simp only [List.mem_cons, List.not_mem_nil, or_false] at hp
          rcases hp with rfl | rfl <;> k_mem
        · rw [List.getElem?_map] at hd
          obtain ⟨c, hc, rfl⟩ := Option.map_eq_some_iff.mp hd
          have hcD := hg c (List.mem_of_getElem? hc)
          have hf := find_one hcD
          refine xs_cons (xt_aug (d1 := dn (b58n (l.take i))) (d2 := dn 58) (by k_mem) (by k_inst) (iop_mulN (m58 _))) (xs_ifr' (b := false) ((ts_cmp (d1 := .str (mk [c])) (by k_inst) ev_DG (cmp_notInS _ _)).cast (by rw [contains_one, decide_eq_true hcD]; rfl)) (fun q => by cases q) fun _ => ?_)
          refine xs_cons (xt_assign (d := dn (DG.idxOf c)) ?_) (xs_cons (xt_aug (d1 := dn (b58n (l.take i) * 58)) (d2 := dn (DG.idxOf c)) (by k_mem) (by k_inst) (iop_addN _ _)) (xs_end ?_))
          · rw [← hf.2]
            exact ev_meth (ds := [.str (mk [c])]) ev_DG (evs1 (d := .str (mk [c])) (by k_inst)) (fun s v r => typeS v r) F.plainAttrs_str F.slot_str_index F.type_str_index (cal_index hf.1)
          · intro p hp
            simp only [List.mem_cons, List.not_mem_nil, or_false] at hp
            rw [b58n_take l hc] at hp
            rcases hp with rfl | rfl <;> k_mem
        · have hN : b58n (l.take (l.map ch).length) = b58n l := by rw [List.length_map, List.take_length]
          rw [hN]
          obtain ⟨N, hNN⟩ : ∃ N, b58n l = N := ⟨_, rfl⟩
          rw [hNN] at hb' hbl ⊢
          refine xs_cons (xt_assign (d := .bytes (tob (bl N) N)) ?_) (xs_cons (xt_assign (d := dn 0) (by k_inst)) (xs_cons (ρ' := [("res", .bytes (tob (bl N) N)), ("pad", dn (ldc 49 l.dropLast))]) ?_ (xs_stop (xt_ret ?_))))
          · refine ev_meth (d1 := dn N) (ds := [dn (bl N), .str "big"]) (by k_inst) (evs2 ?_ (ev_str "big" _ _)) (fun s v r => typeI v r) F.plainAttrs_int F.slot_int_to_bytes F.type_int_to_bytes (cal_tb (by omega) (bl_lt N))
            refine ev_or2 (d1 := dn ((Builtin.Int.intBits (N : Int) + 7) / 8)) (c := ((((Builtin.Int.intBits (N : Int) + 7) / 8 : Nat) : Int) != 0)) (ev_bin (d1 := dn (Builtin.Int.intBits (N : Int) + 7)) (d2 := dn 8) (ev_bin (d1 := dn (Builtin.Int.intBits (N : Int))) (d2 := dn 7) (ev_meth (d1 := dn N) (ds := []) (by k_inst) .nil (fun s v r => typeI v r) F.plainAttrs_int F.slot_int_bit_length F.type_int_bit_length (cal_bitlen N)) (by k_inst) (op_addN _ _)) (by k_inst) (op_divN _ (by decide) (by decide))) (tr_int _) (fun q => ?_) fun q => ?_
            · rw [bl, if_neg]
              intro z
              rw [z] at q
              cases q
            · rw [bl, if_pos]
              · exact ev_nat rfl
              · have : ((((Builtin.Int.intBits (N : Int) + 7) / 8 : Nat) : Int)) = 0 := by simpa using q
                omega
          · have hdl : (mk l.dropLast).cps.all (· < 128) = true := by rw [Array.all_eq_true_iff_forall_mem]; intro x hx; exact decide_eq_true (ha x ((List.dropLast_sublist l).subset (by simpa [mk] using hx)))
            have hle := ldc_le 49 l.dropLast
            have h1l : 1 ≤ l.length := List.length_pos_iff.mpr hne
            rcases Nat.lt_or_ge (ldc 49 l.dropLast) l.dropLast.length with hlt | hge
            · obtain ⟨v, hv⟩ : ∃ v, l.dropLast[ldc 49 l.dropLast]? = some v := ⟨_, List.getElem?_eq_getElem hlt⟩
              have hv0 := ldc_end hv
              refine xt_for_brk (ds := l.dropLast.map ch) (fun i => [("res", .bytes (tob (bl N) N)), ("pad", dn i)]) (ldc 49 l.dropLast) (ch v) (by rw [List.getElem?_map, hv]; rfl) ?_ ?_ (fun fp i d hi hd => ?_) (fun fp => ?_)
              · rw [← mk_chars]
                refine evIt (d := .str (mk l.dropLast)) ?_ (itr_str hdl)
                rw [← slice_last h1l]
                exact ev_slice (d1 := .str (mk l)) (by k_inst) .none (.some (ev_neg (ev_int 1 _ _))) .none (sl_str hsz)
              · intro p hp
                simp only [List.mem_cons, List.not_mem_nil, or_false] at hp
                rcases hp with rfl | rfl <;> k_mem
              · have e : d = ch 49 := by rw [List.getElem?_map, ldc_at hi] at hd; cases hd; rfl
                subst e
                refine xs_cons (xt_if (b := true) ((ts_cmp (d1 := .str (mk [49])) (by k_inst) ev_one (cmp_eqS _ _)).cast (by decide +kernel)) (fun _ => xs_cons (xt_aug (d1 := dn i) (d2 := dn 1) (by k_mem) (by k_inst) (iop_addN _ _)) (xs_end (ρ' := [("res", .bytes (tob (bl N) N)), ("pad", dn (i + 1))]) ?_)) fun q => by cases q) xs_nil
                intro p hp
                simp only [List.mem_cons, List.not_mem_nil, or_false] at hp
                rcases hp with rfl | rfl <;> k_mem
              · refine xs_stop (xt_if (b := false) ((ts_cmp (d1 := .str (mk [v])) (by k_inst) ev_one (cmp_eqS _ _)).cast (by rw [mk_beq1]; exact beq_eq_false_iff_ne.mpr hv0)) (fun q => by cases q) fun _ => xs_pre ?_ (xs_stop xt_break))
                intro p hp
                simp only [List.mem_cons, List.not_mem_nil, or_false] at hp
                rcases hp with rfl | rfl <;> k_mem
            · have hlen : ldc 49 l.dropLast = (l.dropLast.map ch).length := by rw [List.length_map]; omega
              rw [hlen]
              refine xt_for (ds := l.dropLast.map ch) (fun i => [("res", .bytes (tob (bl N) N)), ("pad", dn i)]) ?_ ?_ (fun fp i d hd => ?_)
              · rw [← mk_chars]
                refine evIt (d := .str (mk l.dropLast)) ?_ (itr_str hdl)
                rw [← slice_last h1l]
                exact ev_slice (d1 := .str (mk l)) (by k_inst) .none (.some (ev_neg (ev_int 1 _ _))) .none (sl_str hsz)
              · intro p hp
                simp only [List.mem_cons, List.not_mem_nil, or_false] at hp
                rcases hp with rfl | rfl <;> k_mem
              · have hi : i < ldc 49 l.dropLast := by
                  obtain ⟨h1, _⟩ := List.getElem?_eq_some_iff.mp hd
                  omega
                have e : d = ch 49 := by rw [List.getElem?_map, ldc_at hi] at hd; cases hd; rfl
                subst e
                refine xs_cons (xt_if (b := true) ((ts_cmp (d1 := .str (mk [49])) (by k_inst) ev_one (cmp_eqS _ _)).cast (by decide +kernel)) (fun _ => xs_cons (xt_aug (d1 := dn i) (d2 := dn 1) (by k_mem) (by k_inst) (iop_addN _ _)) (xs_end (ρ' := [("res", .bytes (tob (bl N) N)), ("pad", dn (i + 1))]) ?_)) fun q => by cases q) xs_nil
                intro p hp
                simp only [List.mem_cons, List.not_mem_nil, or_false] at hp
                rcases hp with rfl | rfl <;> k_mem
          · have hle := ldc_le 49 l.dropLast
            have hdl2 : l.dropLast.length ≤ 300 := Nat.le_trans (by simp) hl
            rw [← hb']
            refine ev_bin (d1 := .bytes ((List.replicate (ldc 49 l.dropLast) (0 : UInt8)).toArray)) (ev_bin (d1 := .bytes [(0 : UInt8)].toArray) (d2 := dn (ldc 49 l.dropLast)) (ev_bytes _ _ _) (by k_inst) ((op_mulB (by decide) (by omega) (by omega) (by decide)).cast ?_)) (by k_inst) (op_addB ?_)
            · have hrep : ∀ k : Nat, (List.replicate k [(0 : UInt8)]).flatten = List.replicate k 0 := fun k => by
                induction k with
                | zero => rfl
                | succ k ih => rw [List.replicate_succ, List.flatten_cons, ih, List.replicate_succ]; rfl
              rw [Int.toNat_natCast, hrep]
            · rw [tob_size, List.size_toArray, List.length_replicate]; omega
      · cases hb
theorem first_bad : ∀ {l : List Nat}, ¬ (l.all (fun c => decide (c ∈ DG)) = true) → ∃ k c, l[k]? = some c ∧ c ∉ DG ∧ ∀ i : Nat, i < k → ∀ x, l[i]? = some x → x ∈ DG
  | [], h => absurd rfl h
  | x :: r, h => by
    by_cases hx : x ∈ DG
    · have hr : ¬ (r.all (fun c => decide (c ∈ DG)) = true) := fun q => h (by rw [List.all_cons, q, decide_eq_true hx]; rfl)
      obtain ⟨k, c, h1, h2, h3⟩ := first_bad hr
      refine ⟨k + 1, c, by simpa using h1, h2, fun i hi y hy => ?_⟩
      cases i with
      | zero => simp at hy; exact hy ▸ hx
      | succ i => exact h3 i (by omega) y (by simpa using hy)
    · exact ⟨0, x, rfl, hx, fun i hi => absurd hi (Nat.not_lt_zero _)⟩
theorem d123X {C : Cx} (hn : 1 ≤ C.n) (hh : C.A.handled = none) {l : List Nat} (ha : ∀ c ∈ l, c < 128) (hl : l.length ≤ 300) (hb : b58d l = none) : CalX C (.ref 123) [.str (mk l)] (.type "ValueError") true := by
  refine calX_fn (ρ := []) (xs := []) (es := []) hn rfl rfl ["s"] (fun _ _ => .nil) ?_ (by decide) (by decide) ?_
  · intro s vs _ h
    obtain ⟨a, rfl⟩ := len1 h
    exact .of_eq rfl
  · intro h₀ L
    have hasc : (mk l).cps.all (· < 128) = true := by rw [Array.all_eq_true_iff_forall_mem]; intro x hx; exact decide_eq_true (ha x (by simpa [mk] using hx))
    have hsz : (mk l).length ≤ sizeLine := by rw [mk_len, sizeLine_eq]; omega
    have hne : l ≠ [] := by
      rintro rfl
      simp [b58d] at hb
    rw [b58d, if_neg hne] at hb
    split at hb
    · cases hb
    · rename_i hall
      obtain ⟨k, c, hk, hcD, hbef⟩ := first_bad hall
      refine xs_ifr' (b := false) ((ts_not (ts_val (d := .str (mk l)) (by k_inst) (tr_str hsz))).cast ?_) (fun q => by cases q) fun _ => ?_
      · have : 1 ≤ l.length := List.length_pos_iff.mpr hne
        rw [mk_len]
        have h2 : ((l.length : Int) != 0) = true := by simpa using hne
        rw [h2]; rfl
      refine xs_cons (xt_assign (d := dn 0) (by k_inst)) (xs_stop (xt_for_out (ds := l.map ch) (fun i => [("s", .str (mk l)), ("n", dn (b58n (l.take i)))]) k (ch c) (by rw [List.getElem?_map, hk]; rfl) (by rw [← mk_chars]; exact evIt (d := .str (mk l)) (by k_inst) (itr_str hasc)) ?_ (fun fp i d hi hd => ?_) (fun fp => ?_) (.inr ⟨_, _, _, rfl⟩)))
      · intro p hp
        simp only [List.mem_cons, List.not_mem_nil, or_false] at hp
        rcases hp with rfl | rfl <;> k_mem
      · rw [List.getElem?_map] at hd
        obtain ⟨c, hc, rfl⟩ := Option.map_eq_some_iff.mp hd
        have hcD := hbef i hi c hc
        have hf := find_one hcD
        refine xs_cons (xt_aug (d1 := dn (b58n (l.take i))) (d2 := dn 58) (by k_mem) (by k_inst) (iop_mulN (m58 _))) (xs_ifr' (b := false) ((ts_cmp (d1 := .str (mk [c])) (by k_inst) ev_DG (cmp_notInS _ _)).cast (by rw [contains_one, decide_eq_true hcD]; rfl)) (fun q => by cases q) fun _ => ?_)
        refine xs_cons (xt_assign (d := dn (DG.idxOf c)) ?_) (xs_cons (xt_aug (d1 := dn (b58n (l.take i) * 58)) (d2 := dn (DG.idxOf c)) (by k_mem) (by k_inst) (iop_addN _ _)) (xs_end ?_))
        · rw [← hf.2]
          exact ev_meth (ds := [.str (mk [c])]) ev_DG (evs1 (d := .str (mk [c])) (by k_inst)) (fun s v r => typeS v r) F.plainAttrs_str F.slot_str_index F.type_str_index (cal_index hf.1)
        · intro p hp
          simp only [List.mem_cons, List.not_mem_nil, or_false] at hp
          rw [b58n_take l hc] at hp
          rcases hp with rfl | rfl <;> k_mem
      · have hc128 := ha c (List.mem_of_getElem? hk)
        refine xs_cons (xt_aug (d1 := dn (b58n (l.take k))) (d2 := dn 58) (by k_mem) (by k_inst) (iop_mulN (m58 _))) (xs_stop (xt_if (b := true) ((ts_cmp (d1 := .str (mk [c])) (by k_inst) ev_DG (cmp_notInS _ _)).cast (by rw [contains_one, decide_eq_false hcD]; rfl)) (fun _ => ?_) fun q => by cases q))
        exact xs_stop (xt_raise (d := .str (chrMsg (mk [c]))) hh (ev_bi bi_ValueError rfl) (ev_bin (d2 := .str (mk [c])) (ev_str _ _ _) (by k_inst) (op_modC (reprText_one c hc128) (by rw [mk_len]; simp))) (fun p hp => by cases hp))
end Mine
end
section
set_option maxRecDepth 100000
set_option maxHeartbeats 4000000
set_option linter.unusedVariables false
namespace Mine
open PySem PySem.W PyProof.Rows PySem.Calls PySem.Spec
-- MAC
local macro_rules | `(tactic| k_mem) => `(tactic| first | (with_reducible exact mem_self) | (with_reducible exact List.Mem.head _) | ((with_reducible refine mem_other ?_ ?_); (focus decide); k_mem) | ((with_reducible refine List.Mem.tail _ ?_); k_mem))
local macro_rules | `(tactic| k_inst) => `(tactic| first
  | ((with_reducible refine ev_name ?_ ?_ ?_); (focus k_mem); (focus decide); decide)
  | ((with_reducible refine ev_nat ?_); rfl)
  | (with_reducible refine ev_bin (op := .BitXor) ?_ ?_ (op_xorN _ _)) | (with_reducible refine ev_bin (op := .BitAnd) ?_ ?_ (op_andN _ _)) | (with_reducible refine ev_bin (op := .RShift) ?_ ?_ (op_shrN _ _))
  | (with_reducible refine ev_bin (op := .LShift) ?_ ?_ (op_shlN ?_)) | (with_reducible refine ev_bin (op := .Add) ?_ ?_ (op_addN _ _)) | (with_reducible refine ev_bin (op := .Mod) ?_ ?_ (op_modN _ ?_))
  | ((with_reducible refine evs_cons ?_ ?_ ?h3); (case h3 => rfl)) | (with_reducible exact evs_nil))
-- CAM
abbrev pk (b : Array UInt8) (lo hi : Option Int) : Array UInt8 := KBy.picked b lo hi
theorem pk_le (b : Array UInt8) (lo hi : Option Int) : (pk b lo hi).size ≤ b.size := KBc.size_picked_le b lo hi
theorem kp_116 {C : Cx} : Kp C (.ref 116) := kp_K fun w => by kernel_rfl
theorem kp_123 {C : Cx} : Kp C (.ref 123) := kp_K fun w => by kernel_rfl
theorem kp_130 {C : Cx} : Kp C (.ref 130) := kp_K fun w => by kernel_rfl
theorem kp_137 {C : Cx} : Kp C (.ref 137) := kp_K fun w => by kernel_rfl
def ec (b : Array UInt8) : List Nat := b58 (b ++ pk (dsha b) (some 0) (some 4))
def dcs (b : Array UInt8) : Array UInt8 := pk (dsha (pk b none (some (-4)))) none (some 4)
def dc (l : List Nat) : Option (Array UInt8) := match b58d l with
  | none => none
  | some b => if pk b (some (-4)) none == dcs b then some (pk b none (some (-4))) else none
theorem dsha_size (b : Array UInt8) : (dsha b).size = 32 := sha_size _
theorem ec_cal {C : Cx} (hn : 8 ≤ C.n) (hh : C.A.handled = none) {b : Array UInt8} (hb : b.size ≤ 100) : Cal C (.ref 130) [.bytes b] (.str (mk (ec b))) := by
  refine cal_fn (xs := []) (es := []) (by omega) rfl rfl ["b"] (fun _ _ => .nil) ?_ (by decide) (by decide) ?_
  · intro s vs _ h
    obtain ⟨a, rfl⟩ := len1 h
    exact .of_eq rfl
  · intro h₀ L
    have h4 := pk_le (dsha b) (some 0) (some 4)
    rw [dsha_size] at h4
    have h4' : (KBy.picked (dsha b) (some 0) (some 4)).size ≤ 32 := h4
    refine xs_stop (xt_ret (ev_call (ev_gl gl_encode_base58 rfl) (evs1 (d := .bytes (b ++ pk (dsha b) (some 0) (some 4))) ?_) kp_116 (by unfold ec; exact b58_cal (by show 1 ≤ C.n - 1; omega) (by exact hh) (by rw [Array.size_append]; omega))))
    refine ev_bin (d1 := .bytes b) (by k_inst) (ev_slice (d1 := .bytes (dsha b)) ?_ (.some (ev_int 0 _ _)) (.some (ev_int 4 _ _)) .none (sl_bytes (by rw [dsha_size, sizeLine_eq]; decide))) (op_addB (by show b.size + (KBy.picked (dsha b) (some 0) (some 4)).size ≤ _; omega))
    exact ev_call (ev_gl gl_double_sha256 rfl) (evs1 (d := .bytes b) (by k_inst)) kp_109 (by exact dsha_cal (by show 7 ≤ C.n - 1; omega) (by omega))
theorem tob_le (n m : Nat) : (tob n m).size = n := tob_size n m
theorem b58d_size {l : List Nat} {b : Array UInt8} (h : b58d l = some b) : b.size ≤ 2 * l.length := by
  unfold b58d at h
  split at h
  · cases h; simp
  · rename_i hne
    split at h
    · rename_i hall
      have hg : ∀ c ∈ l, c ∈ DG := fun c hc => by simpa using List.all_eq_true.mp hall c hc
      cases h
      have h1 := b58n_bl hg hne
      have h2 := ldc_le 49 l.dropLast
      rw [List.length_dropLast] at h2
      rw [Array.size_append, tob_size, List.size_toArray, List.length_replicate]
      omega
    · cases h
theorem dc_cal {C : Cx} (hn : 9 ≤ C.n) (hh : C.A.handled = none) {l : List Nat} (ha : ∀ c ∈ l, c < 128) (hl : l.length ≤ 300) {r : Array UInt8} (hr : dc l = some r) : Cal C (.ref 137) [.str (mk l)] (.bytes r) := by
  refine cal_fn (xs := []) (es := []) (by omega) rfl rfl ["s"] (fun _ _ => .nil) ?_ (by decide) (by decide) ?_
  · intro s vs _ h
    obtain ⟨a, rfl⟩ := len1 h
    exact .of_eq rfl
  · intro h₀ L
    unfold dc at hr
    split at hr
    · cases hr
    · rename_i b hb
      have hsz := b58d_size hb
      split at hr
      · rename_i heq
        cases hr
        have hp := pk_le b none (some (-4))
        have hbz : b.size ≤ sizeLine := by rw [sizeLine_eq]; omega
        refine xs_cons (xt_assign (d := .bytes b) (ev_call (ev_gl gl_decode_base58 rfl) (evs1 (d := .str (mk l)) (by k_inst)) kp_123 (by exact d123 (by show 1 ≤ C.n - 1; omega) (by exact hh) hl ha hb))) ?_
        refine xs_cons (xt_assign (d := .bytes (dcs b)) ?_) (xs_ifr' (b := false) ((ts_cmp (d1 := .bytes (pk b (some (-4)) none)) (d2 := .bytes (dcs b)) (ev_slice (d1 := .bytes b) (by k_inst) (.some (ev_neg (ev_int 4 _ _))) .none .none (sl_bytes hbz)) (by k_inst) (cmp_neB _ _)).cast (by rw [heq]; rfl)) (fun q => by cases q) fun _ => xs_stop (xt_ret (ev_slice (d1 := .bytes b) (by k_inst) .none (.some (ev_neg (ev_int 4 _ _))) .none (sl_bytes hbz))))
        refine ev_slice (d1 := .bytes (dsha (pk b none (some (-4))))) ?_ .none (.some (ev_int 4 _ _)) .none (sl_bytes (by rw [dsha_size, sizeLine_eq]; decide))
        exact ev_call (ev_gl gl_double_sha256 rfl) (evs1 (d := .bytes (pk b none (some (-4)))) (ev_slice (d1 := .bytes b) (by k_inst) .none (.some (ev_neg (ev_int 4 _ _))) .none (sl_bytes hbz))) kp_109 (by exact dsha_cal (by show 7 ≤ C.n - 1; omega) (by omega))
      · cases hr
theorem Flx.pre {C : Cx} {s s2 : Shared} (z : St C s s2) {h : Heap} {e : Addr} {cls : Value} {c : Bool} {P : Option Value → Prop} (x : Flx s2.heap C.F h e cls c P) : Flx s.heap C.F h e cls c P := by
  obtain ⟨⟨oe, vs, a, b, d, g, i⟩, q, r, t⟩ := x
  refine ⟨⟨oe, vs, a, b, d, g, ?_⟩, get_none_of_gr z.gr q r t, r, t⟩
  rcases i with i | ⟨T, oT, ts, x, i1, i2, i3, i4, i5, i6, i7, i8, i9⟩
  · exact .inl i
  · exact .inr ⟨T, oT, ts, x, i1, i2, get_none_of_gr z.gr i3 i4 i5, i4, i5, i6, i7, i8, i9⟩
theorem XSt.pre {C : Cx} {s s2 s3 : Shared} {cls : Value} {c : Bool} {e : Value} (z : St C s s2) (x : XSt C s2 cls c e s3) : XSt C s cls c e s3 := by
  obtain ⟨a, rfl, z', f⟩ := x
  exact ⟨a, rfl, z.trans z', f.pre z⟩
theorem ev_callX {C : Cx} {ρ : List (Str × Dat)} {f : Expr} {args : List Expr} {pos : Pos} {fv : Value} {ds : List Dat} {cls : Value} {c : Bool} (hf : Ev C ρ f (.cst fv)) (ha : Evs C ρ args ds) (hk : Kp C fv) (hc : CalX C fv ds cls c)
    (hform : eval (.Call f args [] pos) C.env = (do callWith pos (← eval f C.env) [] (backTo pos (starEach args C.env)) (backToKw pos (keywordEach [] C.env))) := by rfl) : EvX C ρ (.Call f args [] pos) cls c := fun s o => by
  rw [hform]
  refine wpAny_bind (hf.to o (.refl o) fun v s1 o1 z1 _ r1 => ?_)
  have hv : v = fv := by cases r1; rfl
  subst hv
  exact callWith_ev ha o1 hk fun vs s2 o2 z2 r2 => wpAny_mono (hc s2 vs o2.nil r2) (fun _ _ f => f.elim) fun e s3 x => XSt.pre (z1.trans z2) x
theorem dcX {C : Cx} (hn : 9 ≤ C.n) (hh : C.A.handled = none) {l : List Nat} (ha : ∀ c ∈ l, c < 128) (hl : l.length ≤ 300) (hr : dc l = none) : CalX C (.ref 137) [.str (mk l)] (.type "ValueError") true := by
  refine calX_fn (ρ := []) (xs := []) (es := []) (by omega) rfl rfl ["s"] (fun _ _ => .nil) ?_ (by decide) (by decide) ?_
  · intro s vs _ h
    obtain ⟨a, rfl⟩ := len1 h
    exact .of_eq rfl
  · intro h₀ L
    unfold dc at hr
    split at hr
    · rename_i hb
      exact xs_stop (xt_assignX (ev_callX (ev_gl gl_decode_base58 rfl) (evs1 (d := .str (mk l)) (by k_inst)) kp_123 (by exact d123X (by show 1 ≤ C.n - 1; omega) (by exact hh) ha hl hb)) (fun p hp => by cases hp))
    · rename_i b hb
      have hsz := b58d_size hb
      split at hr
      · cases hr
      · rename_i heq
        have hp := pk_le b none (some (-4))
        have hbz : b.size ≤ sizeLine := by rw [sizeLine_eq]; omega
        have hz1 : (pk b (some (-4)) none).size ≤ 100 := by
          unfold pk
          rw [KBc.picked_eq, List.size_toArray, List.length_take, List.length_drop, Array.length_toList]
          show min (b.size - clipAt b.size (-4)) (b.size - clipAt b.size (-4)) ≤ 100
          unfold clipAt
          omega
        have hz2 : (dcs b).size ≤ 100 := Nat.le_trans (pk_le _ _ _) (by rw [dsha_size]; decide)
        refine xs_cons (xt_assign (d := .bytes b) (ev_call (ev_gl gl_decode_base58 rfl) (evs1 (d := .str (mk l)) (by k_inst)) kp_123 (by exact d123 (by show 1 ≤ C.n - 1; omega) (by exact hh) hl ha hb))) ?_
        refine xs_cons (xt_assign (d := .bytes (dcs b)) ?_) (xs_stop (xt_if (b := true) ((ts_cmp (d1 := .bytes (pk b (some (-4)) none)) (d2 := .bytes (dcs b)) (ev_slice (d1 := .bytes b) (by k_inst) (.some (ev_neg (ev_int 4 _ _))) .none .none (sl_bytes hbz)) (by k_inst) (cmp_neB _ _)).cast (by simpa using heq)) (fun _ => ?_) fun q => by cases q))
        · refine ev_slice (d1 := .bytes (dsha (pk b none (some (-4))))) ?_ .none (.some (ev_int 4 _ _)) .none (sl_bytes (by rw [dsha_size, sizeLine_eq]; decide))
          exact ev_call (ev_gl gl_double_sha256 rfl) (evs1 (d := .bytes (pk b none (some (-4)))) (ev_slice (d1 := .bytes b) (by k_inst) .none (.some (ev_neg (ev_int 4 _ _))) .none (sl_bytes hbz))) kp_109 (by exact dsha_cal (by show 7 ≤ C.n - 1; omega) (by omega))
        · refine xs_stop (xt_raise (by exact hh) (ev_bi bi_ValueError rfl) (ev_joined4 (ev_str "Checksum mismatch: expected " _ _) (ev_fr (b := pk b (some (-4)) none) ?_ (by omega) (literal_len _ hz1)) (ev_str ", calculated " _ _) (ev_fr (b := dcs b) ?_ (by omega) (literal_len _ hz2)) (by decide) (literal_len _ hz1) (by decide) (literal_len _ hz2)) (fun p hp => by cases hp))
          · exact ev_slice (d1 := .bytes b) (by k_inst) (.some (ev_neg (ev_int 4 _ _))) .none .none (sl_bytes hbz)
          · k_inst
end Mine
end
section
set_option maxRecDepth 100000
set_option maxHeartbeats 4000000
set_option linter.unusedVariables false
namespace Mine
open PySem PySem.W PyProof.Rows PySem.Calls PySem.Spec
-- MAC
local macro_rules | `(tactic| k_mem) => `(tactic| first | (with_reducible exact mem_self) | (with_reducible exact List.Mem.head _) | ((with_reducible refine mem_other ?_ ?_); (focus decide); k_mem) | ((with_reducible refine List.Mem.tail _ ?_); k_mem))
local macro_rules | `(tactic| k_inst) => `(tactic| first
  | ((with_reducible refine ev_name ?_ ?_ ?_); (focus k_mem); (focus decide); decide)
  | ((with_reducible refine ev_nat ?_); rfl)
  | (with_reducible refine ev_bin (op := .BitXor) ?_ ?_ (op_xorN _ _)) | (with_reducible refine ev_bin (op := .BitAnd) ?_ ?_ (op_andN _ _)) | (with_reducible refine ev_bin (op := .RShift) ?_ ?_ (op_shrN _ _))
  | (with_reducible refine ev_bin (op := .LShift) ?_ ?_ (op_shlN ?_)) | (with_reducible refine ev_bin (op := .Add) ?_ ?_ (op_addN _ _)) | (with_reducible refine ev_bin (op := .Mod) ?_ ?_ (op_modN _ ?_))
  | ((with_reducible refine evs_cons ?_ ?_ ?h3); (case h3 => rfl)) | (with_reducible exact evs_nil))
-- CAM
theorem ga965 (w : World) : findIn (Kf w) (.ref 965) "__getattribute__" = some (some (.builtin "object.__getattribute__")) := by kernel_rfl
theorem gt965 (w : World) : findIn (Kf w) (.ref 965) "__getattr__" = some none := by kernel_rfl
theorem st965 (w : World) : findIn (Kf w) (.ref 965) "script_type" = some (some (.ref 907)) := by kernel_rfl
theorem ad965 (w : World) : findIn (Kf w) (.ref 965) "address" = some (some (.ref 893)) := by kernel_rfl
theorem ty907 (w : World) : typeIn (Kf w) (.ref 907) = some (.type "function") := by kernel_rfl
theorem ty893 (w : World) : typeIn (Kf w) (.ref 893) = some (.type "function") := by kernel_rfl
theorem kp_907 {C : Cx} : Kp C (.ref 907) := kp_K fun w => by kernel_rfl
theorem kp_893 {C : Cx} : Kp C (.ref 893) := kp_K fun w => by kernel_rfl
theorem kp_965 {C : Cx} : Kp C (.ref 965) := kp_K fun w => by kernel_rfl
def T1 (b : Array UInt8) : Bool := (b.size == 25) && ((pk b none (some 3) == #[118, 169, 20]) && ((pk b (some (-2)) none == #[136, 172]) && true))
def T2 (b : Array UInt8) : Bool := (b.size == 23) && ((pk b none (some 2) == #[169, 20]) && ((b.getD 22 0 == 135) && true))
def T3 (b : Array UInt8) : Bool := (b.size == 22) && ((pk b none (some 2) == #[0, 20]) && true)
def T4 (b : Array UInt8) : Bool := (b.size == 34) && ((pk b none (some 2) == #[0, 32]) && true)
def T5 (b : Array UInt8) : Bool := (b.size == 34) && ((pk b none (some 2) == #[81, 32]) && true)
def kind (b : Array UInt8) : Option Str := if T1 b then some "p2pkh" else if T2 b then some "p2sh" else if T3 b then some "p2wpkh" else if T4 b then some "p2wsh" else if T5 b then some "p2tr" else none
def optS : Option Str → Dat
  | none => .none
  | some x => .str x
theorem st_cal {C : Cx} (hn : 1 ≤ C.n) {b : Array UInt8} (hb : b.size ≤ 1000) : Cal C (.ref 907) [.inst 965 b] (optS (kind b)) := by
  refine cal_fn (xs := []) (es := []) hn rfl rfl ["self"] (fun _ _ => .nil) ?_ (by decide) (by decide) ?_
  · intro s vs _ h
    obtain ⟨a, rfl⟩ := len1 h
    exact .of_eq rfl
  · intro h₀ L
    have hz : b.size ≤ 16777216 := by omega
    have hz2 : b.size ≤ sizeLine := by rw [sizeLine_eq]; omega
    refine xs_cons (xt_assign (d := .bytes b) (ev_data (c := 965) (b := b) (by k_inst) (ga965 _) fun hh tk t => rfl)) ?_
    refine xs_ifr (b := T1 b) (ts_bool (and_cons (ts_cmp (d1 := dn b.size) (d2 := dn 25) (ev_call (ev_bi bi_len rfl) (evs1 (d := .bytes b) (by k_inst)) (kp_builtin _) (cal_lenB hz)) (by k_inst) (cmp_eqN _ _)) fun _ => and_cons (ts_cmp (d1 := .bytes (pk b none (some 3))) (ev_slice (d1 := .bytes b) (by k_inst) .none (.some (ev_int 3 _ _)) .none (sl_bytes hz2)) (ev_bytes _ _ _) (cmp_eqB _ _)) fun _ => and_cons (ts_cmp (d1 := .bytes (pk b (some (-2)) none)) (ev_slice (d1 := .bytes b) (by k_inst) (.some (ev_neg (ev_int 2 _ _))) .none .none (sl_bytes hz2)) (ev_bytes _ _ _) (cmp_eqB _ _)) fun _ => and_nil)) (fun h => ?_) (fun h1 => ?_) rfl
    · rw [kind, if_pos h]; exact xs_stop (xt_ret (ev_str _ _ _))
    refine xs_ifr (b := T2 b) (ts_bool (and_cons (ts_cmp (d1 := dn b.size) (d2 := dn 23) (ev_call (ev_bi bi_len rfl) (evs1 (d := .bytes b) (by k_inst)) (kp_builtin _) (cal_lenB hz)) (by k_inst) (cmp_eqN _ _)) fun q => and_cons (ts_cmp (d1 := .bytes (pk b none (some 2))) (ev_slice (d1 := .bytes b) (by k_inst) .none (.some (ev_int 2 _ _)) .none (sl_bytes hz2)) (ev_bytes _ _ _) (cmp_eqB _ _)) fun _ => and_cons (ts_cmp (d1 := .int ((b.getD 22 0).toNat : Int)) (ev_item (d2 := .int (-1)) (by k_inst) (ev_neg (ev_int 1 _ _)) ?_) (ev_int 135 _ _) ((cmp_eq _ _).cast ?_)) fun _ => and_nil)) (fun h => ?_) (fun h2 => ?_) rfl
    · have hs : b.size = 23 := by simpa using q
      exact it_bytes (j := 22) (c := b.getD 22 0) hz (by rw [hs]; decide) (by rw [Array.getD_eq_getD_getElem?]; rw [Array.getElem?_eq_getElem (by omega)]; rfl) (by decide) (by decide)
    · rw [Bool.eq_iff_iff, beq_iff_eq, beq_iff_eq, ← UInt8.toNat_inj]
      show ((b.getD 22 0).toNat : Int) = 135 ↔ (b.getD 22 0).toNat = 135
      omega
    · rw [kind, if_neg (by simp [h1]), if_pos h]; exact xs_stop (xt_ret (ev_str _ _ _))
    refine xs_ifr (b := T3 b) (ts_bool (and_cons (ts_cmp (d1 := dn b.size) (d2 := dn 22) (ev_call (ev_bi bi_len rfl) (evs1 (d := .bytes b) (by k_inst)) (kp_builtin _) (cal_lenB hz)) (by k_inst) (cmp_eqN _ _)) fun _ => and_cons (ts_cmp (d1 := .bytes (pk b none (some 2))) (ev_slice (d1 := .bytes b) (by k_inst) .none (.some (ev_int 2 _ _)) .none (sl_bytes hz2)) (ev_bytes _ _ _) (cmp_eqB _ _)) fun _ => and_nil)) (fun h => ?_) (fun h3 => ?_) rfl
    · rw [kind, if_neg (by simp [h1]), if_neg (by simp [h2]), if_pos h]; exact xs_stop (xt_ret (ev_str _ _ _))
    refine xs_ifr (b := T4 b) (ts_bool (and_cons (ts_cmp (d1 := dn b.size) (d2 := dn 34) (ev_call (ev_bi bi_len rfl) (evs1 (d := .bytes b) (by k_inst)) (kp_builtin _) (cal_lenB hz)) (by k_inst) (cmp_eqN _ _)) fun _ => and_cons (ts_cmp (d1 := .bytes (pk b none (some 2))) (ev_slice (d1 := .bytes b) (by k_inst) .none (.some (ev_int 2 _ _)) .none (sl_bytes hz2)) (ev_bytes _ _ _) (cmp_eqB _ _)) fun _ => and_nil)) (fun h => ?_) (fun h4 => ?_) rfl
    · rw [kind, if_neg (by simp [h1]), if_neg (by simp [h2]), if_neg (by simp [h3]), if_pos h]; exact xs_stop (xt_ret (ev_str _ _ _))
    refine xs_ifr (b := T5 b) (ts_bool (and_cons (ts_cmp (d1 := dn b.size) (d2 := dn 34) (ev_call (ev_bi bi_len rfl) (evs1 (d := .bytes b) (by k_inst)) (kp_builtin _) (cal_lenB hz)) (by k_inst) (cmp_eqN _ _)) fun _ => and_cons (ts_cmp (d1 := .bytes (pk b none (some 2))) (ev_slice (d1 := .bytes b) (by k_inst) .none (.some (ev_int 2 _ _)) .none (sl_bytes hz2)) (ev_bytes _ _ _) (cmp_eqB _ _)) fun _ => and_nil)) (fun h => ?_) (fun h5 => ?_) rfl
    · rw [kind, if_neg (by simp [h1]), if_neg (by simp [h2]), if_neg (by simp [h3]), if_neg (by simp [h4]), if_pos h]; exact xs_stop (xt_ret (ev_str _ _ _))
    rw [kind, if_neg (by simp [h1]), if_neg (by simp [h2]), if_neg (by simp [h3]), if_neg (by simp [h4]), if_neg (by simp [h5])]
    exact xs_stop (xt_ret (ev_none _ _))
end Mine
end
section
set_option maxRecDepth 100000
set_option maxHeartbeats 4000000
set_option linter.unusedVariables false
namespace Mine
open PySem PySem.W PyProof.Rows PySem.Calls PySem.Spec
def at' (b : Array UInt8) (i : Nat) : Nat := (b.getD i 0).toNat
theorem pk2 {b : Array UInt8} (h : 2 ≤ b.size) (x y : UInt8) : (pk b none (some 2) == #[x, y]) = (decide (at' b 0 = x.toNat) && decide (at' b 1 = y.toNat)) := by
  obtain ⟨l⟩ := b
  match l, h with
  | c0 :: c1 :: r, _ =>
    unfold pk
    rw [KBc.picked_eq]
    have e : clipAt (c0 :: c1 :: r).toArray.size 2 = 2 := by rw [KBc.clip_lit]; simp
    simp only [Option.elim, e]
    rw [Bool.eq_iff_iff, beq_iff_eq, Bool.and_eq_true, decide_eq_true_eq, decide_eq_true_eq, ← Array.toList_inj]
    show _ ↔ c0.toNat = x.toNat ∧ c1.toNat = y.toNat
    rw [UInt8.toNat_inj, UInt8.toNat_inj]
    simp
def U1 (b : Array UInt8) : Bool := (b.size == 25) && ((pk b none (some 3) == #[118, 169, 20]) && ((pk b (some 23) none == #[136, 172]) && true))
def U2 (b : Array UInt8) : Bool := (b.size == 23) && ((pk b none (some 2) == #[169, 20]) && ((pk b (some 22) none == #[135]) && true))
def U3 (b : Array UInt8) : Bool := decide (2 < b.size) && ((at' b 1 == b.size - 2) && ((at' b 0 == 0) && ((at' b 1 == 20 || at' b 1 == 32) && true)))
def kind' (b : Array UInt8) : Option Str := if U1 b then some "p2pkh" else if U2 b then some "p2sh" else if U3 b then (if at' b 1 == 20 then some "p2wpkh" else some "p2wsh") else if T5 b then some "p2tr" else none
theorem U1_eq (b : Array UInt8) : U1 b = T1 b := by
  unfold U1 T1
  by_cases h : b.size = 25
  · have e : pk b (some 23) none = pk b (some (-2)) none := by
      unfold pk
      rw [KBc.picked_eq, KBc.picked_eq]
      have : clipAt b.size 23 = clipAt b.size (-2) := by rw [h]; decide
      simp only [Option.elim, this]
    rw [e]
  · rw [beq_eq_false_iff_ne.mpr h]; rfl
theorem U2_eq (b : Array UInt8) : U2 b = T2 b := by
  unfold U2 T2
  by_cases h : b.size = 23
  · have e : (pk b (some 22) none == #[135]) = (b.getD 22 0 == 135) := by
      unfold pk
      rw [KBc.picked_eq]
      have e1 : clipAt b.size 22 = 22 := by rw [h]; decide
      simp only [Option.elim, e1]
      rw [h, Bool.eq_iff_iff, beq_iff_eq, beq_iff_eq, ← Array.toList_inj]
      have e2 : b.toList.drop 22 = [b.getD 22 0] := by
        rw [List.drop_eq_getElem_cons (by simp [h]), List.drop_of_length_le (by simp [h])]
        simp [Array.getD_eq_getD_getElem?, Array.getElem?_eq_getElem (show 22 < b.size by omega)]
      rw [e2]
      simp
    rw [e]
  · rw [beq_eq_false_iff_ne.mpr h]; rfl
theorem T3_iff (b : Array UInt8) : T3 b = true ↔ b.size = 22 ∧ at' b 0 = 0 ∧ at' b 1 = 20 := by
  unfold T3
  by_cases h : b.size = 22
  · rw [pk2 (by omega)]; simp [h]
  · simp [h]
theorem T4_iff (b : Array UInt8) : T4 b = true ↔ b.size = 34 ∧ at' b 0 = 0 ∧ at' b 1 = 32 := by
  unfold T4
  by_cases h : b.size = 34
  · rw [pk2 (by omega)]; simp [h]
  · simp [h]
theorem U3_iff (b : Array UInt8) : U3 b = true ↔ 2 < b.size ∧ at' b 1 = b.size - 2 ∧ at' b 0 = 0 ∧ (at' b 1 = 20 ∨ at' b 1 = 32) := by
  unfold U3
  simp
theorem kind_eq (b : Array UInt8) : kind' b = kind b := by
  unfold kind' kind
  rw [U1_eq, U2_eq]
  by_cases h1 : T1 b = true
  · rw [if_pos h1, if_pos h1]
  rw [if_neg h1, if_neg h1]
  by_cases h2 : T2 b = true
  · rw [if_pos h2, if_pos h2]
  rw [if_neg h2, if_neg h2]
  by_cases h3 : T3 b = true
  · obtain ⟨a1, a2, a3⟩ := (T3_iff b).mp h3
    rw [if_pos ((U3_iff b).mpr ⟨by omega, by omega, a2, .inl a3⟩), if_pos h3, if_pos (by simp [a3])]
  rw [if_neg h3]
  by_cases h4 : T4 b = true
  · obtain ⟨a1, a2, a3⟩ := (T4_iff b).mp h4
    rw [if_pos ((U3_iff b).mpr ⟨by omega, by omega, a2, .inr a3⟩), if_pos h4, if_neg (by simp [a3])]
  rw [if_neg h4, if_neg]
  intro q
  obtain ⟨a1, a2, a3, a4⟩ := (U3_iff b).mp q
  rcases a4 with a4 | a4
  · exact h3 ((T3_iff b).mpr ⟨by omega, a3, a4⟩)
  · exact h4 ((T4_iff b).mpr ⟨by omega, a3, a4⟩)
end Mine
end
section
set_option maxRecDepth 100000
set_option maxHeartbeats 4000000
set_option linter.unusedVariables false
namespace Mine
open PySem PySem.W PyProof.Rows PySem.Calls PySem.Spec
-- MAC
local macro_rules | `(tactic| k_mem) => `(tactic| first | (with_reducible exact mem_self) | (with_reducible exact List.Mem.head _) | ((with_reducible refine mem_other ?_ ?_); (focus decide); k_mem) | ((with_reducible refine List.Mem.tail _ ?_); k_mem))
local macro_rules | `(tactic| k_inst) => `(tactic| first
  | ((with_reducible refine ev_name ?_ ?_ ?_); (focus k_mem); (focus decide); decide)
  | ((with_reducible refine ev_nat ?_); rfl)
  | (with_reducible refine ev_bin (op := .BitXor) ?_ ?_ (op_xorN _ _)) | (with_reducible refine ev_bin (op := .BitAnd) ?_ ?_ (op_andN _ _)) | (with_reducible refine ev_bin (op := .RShift) ?_ ?_ (op_shrN _ _))
  | (with_reducible refine ev_bin (op := .LShift) ?_ ?_ (op_shlN ?_)) | (with_reducible refine ev_bin (op := .Add) ?_ ?_ (op_addN _ _)) | (with_reducible refine ev_bin (op := .Mod) ?_ ?_ (op_modN _ ?_))
  | ((with_reducible refine evs_cons ?_ ?_ ?h3); (case h3 => rfl)) | (with_reducible exact evs_nil))
-- CAM
theorem kp_981 {C : Cx} : Kp C (.ref 981) := kp_K fun w => by kernel_rfl
theorem it_byteN {C : Cx} {b : Array UInt8} {i : Nat} (hs : b.size ≤ 16777216) (h : i < b.size) : ItOn C (.bytes b) (dn i) (dn (at' b i)) :=
  it_bytes (j := i) (c := b.getD i 0) hs (by unfold seqIndex?; simp; omega) (by rw [Array.getD_eq_getD_getElem?, Array.getElem?_eq_getElem h]; rfl) (by omega) (by omega)
def Dat.isN (n : Nat) : Dat → Bool
  | .int i => i == (n : Int)
  | _ => false
theorem lk_cal {C : Cx} (hn : 2 ≤ C.n) {b : Array UInt8} (hb : b.size ≤ 1000) : Cal C (.ref 981) [.bytes b] (optS (kind b)) := by
  refine cal_fn (xs := []) (es := []) (by omega) rfl rfl ["octets"] (fun _ _ => .nil) ?_ (by decide) (by decide) ?_
  · intro s vs _ h
    obtain ⟨a, rfl⟩ := len1 h
    exact .of_eq rfl
  · intro h₀ L
    rw [← kind_eq]
    have hz : b.size ≤ 16777216 := by omega
    have hz2 : b.size ≤ sizeLine := by rw [sizeLine_eq]; omega
    refine xs_ifr (b := U1 b) (ts_bool (and_cons (ts_cmp (d1 := dn b.size) (d2 := dn 25) (ev_call (ev_bi bi_len rfl) (evs1 (d := .bytes b) (by k_inst)) (kp_builtin _) (cal_lenB hz)) (by k_inst) (cmp_eqN _ _)) fun _ => and_cons (ts_cmp (d1 := .bytes (pk b none (some 3))) (ev_slice (d1 := .bytes b) (by k_inst) .none (.some (ev_int 3 _ _)) .none (sl_bytes hz2)) (ev_bytes _ _ _) (cmp_eqB _ _)) fun _ => and_cons (ts_cmp (d1 := .bytes (pk b (some 23) none)) (ev_slice (d1 := .bytes b) (by k_inst) (.some (ev_int 23 _ _)) .none .none (sl_bytes hz2)) (ev_bytes _ _ _) (cmp_eqB _ _)) fun _ => and_nil)) (fun h => ?_) (fun h1 => ?_) rfl
    · rw [kind', if_pos h]; exact xs_stop (xt_ret (ev_str _ _ _))
    refine xs_ifr (b := U2 b) (ts_bool (and_cons (ts_cmp (d1 := dn b.size) (d2 := dn 23) (ev_call (ev_bi bi_len rfl) (evs1 (d := .bytes b) (by k_inst)) (kp_builtin _) (cal_lenB hz)) (by k_inst) (cmp_eqN _ _)) fun _ => and_cons (ts_cmp (d1 := .bytes (pk b none (some 2))) (ev_slice (d1 := .bytes b) (by k_inst) .none (.some (ev_int 2 _ _)) .none (sl_bytes hz2)) (ev_bytes _ _ _) (cmp_eqB _ _)) fun _ => and_cons (ts_cmp (d1 := .bytes (pk b (some 22) none)) (ev_slice (d1 := .bytes b) (by k_inst) (.some (ev_int 22 _ _)) .none .none (sl_bytes hz2)) (ev_bytes _ _ _) (cmp_eqB _ _)) fun _ => and_nil)) (fun h => ?_) (fun h2 => ?_) rfl
    · rw [kind', if_neg (by simp [h1]), if_pos h]; exact xs_stop (xt_ret (ev_str _ _ _))
    refine xs_ifr (b := U3 b) (ts_bool (and_cons ((ts_cmp (d1 := dn b.size) (d2 := dn 2) (ev_call (ev_bi bi_len rfl) (evs1 (d := .bytes b) (by k_inst)) (kp_builtin _) (cal_lenB hz)) (by k_inst) (cmp_gtN _ _)).cast ?_) fun q => and_cons (ts_cmp (d1 := dn (at' b 1)) (d2 := dn (b.size - 2)) (ev_item (d2 := dn 1) (by k_inst) (by k_inst) (it_byteN hz (by simp at q; omega))) (ev_bin (d1 := dn b.size) (d2 := dn 2) (ev_call (ev_bi bi_len rfl) (evs1 (d := .bytes b) (by k_inst)) (kp_builtin _) (cal_lenB hz)) (by k_inst) (op_subN (by simp at q; omega))) (cmp_eqN _ _)) fun _ => and_cons (ts_cmp (d1 := dn (at' b 0)) (d2 := dn 0) (ev_item (d2 := dn 0) (by k_inst) (by k_inst) (it_byteN hz (by simp at q; omega))) (by k_inst) (cmp_eqN _ _)) fun _ => and_cons ((ts_cmp (d1 := dn (at' b 1)) (d2 := .tup [dn 20, dn 32]) (ev_item (d2 := dn 1) (by k_inst) (by k_inst) (it_byteN hz (by simp at q; omega))) (ev_tupD (evs2 (by k_inst) (by k_inst)) (by simp)) (cmp_inT (Dat.isN (at' b 1)) ?_ ?_)).cast ?_) fun _ => and_nil)) (fun h => ?_) (fun h3 => ?_) rfl
    · rfl
    · intro y hy
      simp only [List.mem_cons, List.not_mem_nil, or_false] at hy
      rcases hy with rfl | rfl <;> exact .int _ _
    · show 1 ≤ C.n - 1
      omega
    · rw [Bool.eq_iff_iff]
      simp [Dat.isN, dn]
      omega
    · rw [kind', if_neg (by simp [h1]), if_neg (by simp [h2]), if_pos h]
      refine xs_stop (xt_ret (ev_if (c := at' b 1 == 20) (ts_cmp (d1 := dn (at' b 1)) (d2 := dn 20) (ev_item (d2 := dn 1) (by k_inst) (by k_inst) (it_byteN hz (by have := (U3_iff b).mp h; omega))) (by k_inst) (cmp_eqN _ _)) (fun q => ?_) fun q => ?_))
      · rw [if_pos q]; exact ev_str _ _ _
      · rw [if_neg (by simp [q])]; exact ev_str _ _ _
    rw [kind', if_neg (by simp [h1]), if_neg (by simp [h2]), if_neg (by simp [h3])]
    refine xs_stop (xt_ret (ev_if (c := T5 b) (ts_bool (and_cons (ts_cmp (d1 := dn b.size) (d2 := dn 34) (ev_call (ev_bi bi_len rfl) (evs1 (d := .bytes b) (by k_inst)) (kp_builtin _) (cal_lenB hz)) (by k_inst) (cmp_eqN _ _)) fun _ => and_cons (ts_cmp (d1 := .bytes (pk b none (some 2))) (ev_slice (d1 := .bytes b) (by k_inst) .none (.some (ev_int 2 _ _)) .none (sl_bytes hz2)) (ev_bytes _ _ _) (cmp_eqB _ _)) fun _ => and_nil)) (fun q => ?_) fun q => ?_))
    · rw [if_pos q]; exact ev_str _ _ _
    · rw [if_neg (by simp [q])]; exact ev_none _ _
end Mine
end
section
set_option maxRecDepth 100000
set_option maxHeartbeats 4000000
set_option linter.unusedVariables false
namespace Mine
open PySem PySem.W PyProof.Rows PySem.Calls PySem.Spec
section
variable {C : Cx} {ρ : List (Str × Dat)}
theorem it_K {a : Addr} {es : Array DictEntry} {n : Nat} {x : Str} {v : Value} {d : Dat} (hl : (Kf C.w).lookup a = some ⟨.type "dict", none, .dict es n, #[]⟩) (hk : KeysLit C.w.params es.toList) (e : nsIn (Kf C.w) a x = some (some v)) (r : ∀ F h, Rep F h v d) :
    ItOn C (.cst (.ref a)) (.str x) d := fun s u k o r1 r2 => by
  cases r1; cases r2
  have hm := mapOf_K (prog := pw) o.kin hl hk
  exact ⟨"dict", _, slot_dict_getitem.lookup, hm.typeIs, wpAny_getItem_of (strKind_is pw C.w x _) hm (find_K hl e) ⟨.toks o.base _, r _ _⟩⟩
structure Net (C : Cx) (a : Addr) (x y : UInt8) (hrp : List Nat) : Prop where
  pkh : ItOn C (.cst (.ref a)) (.str "p2pkh") (.bytes #[x])
  sh : ItOn C (.cst (.ref a)) (.str "p2sh") (.bytes #[y])
  br : ItOn C (.cst (.ref a)) (.str "bech32") (.str (mk hrp))
theorem lit23 (w : World) : ∃ es n, (Kf w).lookup 23 = some ⟨.type "dict", none, .dict es n, #[]⟩ ∧ KeysLit w.params es.toList := ⟨_, _, rfl, ⟨⟨_, _, rfl, rfl⟩, ⟨⟨_, _, rfl, rfl⟩, ⟨⟨_, _, rfl, rfl⟩, ⟨⟨_, _, rfl, rfl⟩, ⟨⟨_, _, rfl, rfl⟩, ⟨⟨_, _, rfl, rfl⟩, ⟨⟨_, _, rfl, rfl⟩, ⟨⟨_, _, rfl, rfl⟩, ⟨⟨_, _, rfl, rfl⟩, ⟨⟨_, _, rfl, rfl⟩, ⟨⟨_, _, rfl, rfl⟩, ⟨⟨_, _, rfl, rfl⟩, ⟨⟨_, _, rfl, rfl⟩, ⟨⟨_, _, rfl, rfl⟩, ⟨⟨_, _, rfl, rfl⟩, trivial⟩⟩⟩⟩⟩⟩⟩⟩⟩⟩⟩⟩⟩⟩⟩⟩
theorem pkh23 (w : World) : ∃ t, nsIn (Kf w) 23 "p2pkh" = some (some (.bytes #[0] t)) := ⟨_, rfl⟩
theorem psh23 (w : World) : ∃ t, nsIn (Kf w) 23 "p2sh" = some (some (.bytes #[5] t)) := ⟨_, rfl⟩
theorem pbr23 (w : World) : ∃ t, nsIn (Kf w) 23 "bech32" = some (some (.str "bc" t)) := ⟨_, rfl⟩
theorem net23 : Net C 23 0 5 (codes "bc") := by
  obtain ⟨es, n, hl, hk⟩ := lit23 C.w
  obtain ⟨t1, e1⟩ := pkh23 C.w
  obtain ⟨t2, e2⟩ := psh23 C.w
  obtain ⟨t3, e3⟩ := pbr23 C.w
  exact ⟨it_K hl hk e1 fun _ _ => .bytes _ _, it_K hl hk e2 fun _ _ => .bytes _ _, it_K hl hk e3 fun _ _ => .str _ _⟩
theorem lit24 (w : World) : ∃ es n, (Kf w).lookup 24 = some ⟨.type "dict", none, .dict es n, #[]⟩ ∧ KeysLit w.params es.toList := ⟨_, _, rfl, ⟨⟨_, _, rfl, rfl⟩, ⟨⟨_, _, rfl, rfl⟩, ⟨⟨_, _, rfl, rfl⟩, ⟨⟨_, _, rfl, rfl⟩, ⟨⟨_, _, rfl, rfl⟩, ⟨⟨_, _, rfl, rfl⟩, ⟨⟨_, _, rfl, rfl⟩, ⟨⟨_, _, rfl, rfl⟩, ⟨⟨_, _, rfl, rfl⟩, ⟨⟨_, _, rfl, rfl⟩, ⟨⟨_, _, rfl, rfl⟩, ⟨⟨_, _, rfl, rfl⟩, ⟨⟨_, _, rfl, rfl⟩, ⟨⟨_, _, rfl, rfl⟩, ⟨⟨_, _, rfl, rfl⟩, trivial⟩⟩⟩⟩⟩⟩⟩⟩⟩⟩⟩⟩⟩⟩⟩⟩
theorem pkh24 (w : World) : ∃ t, nsIn (Kf w) 24 "p2pkh" = some (some (.bytes #[111] t)) := ⟨_, rfl⟩
theorem psh24 (w : World) : ∃ t, nsIn (Kf w) 24 "p2sh" = some (some (.bytes #[196] t)) := ⟨_, rfl⟩
theorem pbr24 (w : World) : ∃ t, nsIn (Kf w) 24 "bech32" = some (some (.str "tb" t)) := ⟨_, rfl⟩
theorem net24 : Net C 24 111 196 (codes "tb") := by
  obtain ⟨es, n, hl, hk⟩ := lit24 C.w
  obtain ⟨t1, e1⟩ := pkh24 C.w
  obtain ⟨t2, e2⟩ := psh24 C.w
  obtain ⟨t3, e3⟩ := pbr24 C.w
  exact ⟨it_K hl hk e1 fun _ _ => .bytes _ _, it_K hl hk e2 fun _ _ => .bytes _ _, it_K hl hk e3 fun _ _ => .str _ _⟩
theorem lit25 (w : World) : ∃ es n, (Kf w).lookup 25 = some ⟨.type "dict", none, .dict es n, #[]⟩ ∧ KeysLit w.params es.toList := ⟨_, _, rfl, ⟨⟨_, _, rfl, rfl⟩, ⟨⟨_, _, rfl, rfl⟩, ⟨⟨_, _, rfl, rfl⟩, ⟨⟨_, _, rfl, rfl⟩, ⟨⟨_, _, rfl, rfl⟩, ⟨⟨_, _, rfl, rfl⟩, ⟨⟨_, _, rfl, rfl⟩, ⟨⟨_, _, rfl, rfl⟩, ⟨⟨_, _, rfl, rfl⟩, ⟨⟨_, _, rfl, rfl⟩, ⟨⟨_, _, rfl, rfl⟩, ⟨⟨_, _, rfl, rfl⟩, ⟨⟨_, _, rfl, rfl⟩, ⟨⟨_, _, rfl, rfl⟩, ⟨⟨_, _, rfl, rfl⟩, trivial⟩⟩⟩⟩⟩⟩⟩⟩⟩⟩⟩⟩⟩⟩⟩⟩
theorem pkh25 (w : World) : ∃ t, nsIn (Kf w) 25 "p2pkh" = some (some (.bytes #[111] t)) := ⟨_, rfl⟩
theorem psh25 (w : World) : ∃ t, nsIn (Kf w) 25 "p2sh" = some (some (.bytes #[196] t)) := ⟨_, rfl⟩
theorem pbr25 (w : World) : ∃ t, nsIn (Kf w) 25 "bech32" = some (some (.str "bcrt" t)) := ⟨_, rfl⟩
theorem net25 : Net C 25 111 196 (codes "bcrt") := by
  obtain ⟨es, n, hl, hk⟩ := lit25 C.w
  obtain ⟨t1, e1⟩ := pkh25 C.w
  obtain ⟨t2, e2⟩ := psh25 C.w
  obtain ⟨t3, e3⟩ := pbr25 C.w
  exact ⟨it_K hl hk e1 fun _ _ => .bytes _ _, it_K hl hk e2 fun _ _ => .bytes _ _, it_K hl hk e3 fun _ _ => .str _ _⟩
theorem lit26 (w : World) : ∃ es n, (Kf w).lookup 26 = some ⟨.type "dict", none, .dict es n, #[]⟩ ∧ KeysLit w.params es.toList := ⟨_, _, rfl, ⟨⟨_, _, rfl, rfl⟩, ⟨⟨_, _, rfl, rfl⟩, ⟨⟨_, _, rfl, rfl⟩, ⟨⟨_, _, rfl, rfl⟩, ⟨⟨_, _, rfl, rfl⟩, ⟨⟨_, _, rfl, rfl⟩, ⟨⟨_, _, rfl, rfl⟩, ⟨⟨_, _, rfl, rfl⟩, ⟨⟨_, _, rfl, rfl⟩, ⟨⟨_, _, rfl, rfl⟩, ⟨⟨_, _, rfl, rfl⟩, ⟨⟨_, _, rfl, rfl⟩, ⟨⟨_, _, rfl, rfl⟩, ⟨⟨_, _, rfl, rfl⟩, ⟨⟨_, _, rfl, rfl⟩, trivial⟩⟩⟩⟩⟩⟩⟩⟩⟩⟩⟩⟩⟩⟩⟩⟩
theorem pkh26 (w : World) : ∃ t, nsIn (Kf w) 26 "p2pkh" = some (some (.bytes #[111] t)) := ⟨_, rfl⟩
theorem psh26 (w : World) : ∃ t, nsIn (Kf w) 26 "p2sh" = some (some (.bytes #[196] t)) := ⟨_, rfl⟩
theorem pbr26 (w : World) : ∃ t, nsIn (Kf w) 26 "bech32" = some (some (.str "tb" t)) := ⟨_, rfl⟩
theorem net26 : Net C 26 111 196 (codes "tb") := by
  obtain ⟨es, n, hl, hk⟩ := lit26 C.w
  obtain ⟨t1, e1⟩ := pkh26 C.w
  obtain ⟨t2, e2⟩ := psh26 C.w
  obtain ⟨t3, e3⟩ := pbr26 C.w
  exact ⟨it_K hl hk e1 fun _ _ => .bytes _ _, it_K hl hk e2 fun _ _ => .bytes _ _, it_K hl hk e3 fun _ _ => .str _ _⟩
end
end Mine
end
section
set_option maxRecDepth 100000
set_option maxHeartbeats 4000000
set_option linter.unusedVariables false
namespace Mine
open PySem PySem.W PyProof.Rows PySem.Calls PySem.Spec
section
variable {prog : Program} {w : World} {A : Around} {E : Value → Shared → Prop} {s : Shared}
/-- list(bytes): the loop that takes the numbers over -/
theorem extend_bytes {R : Result → Shared → Prop} (hh : A.handled = none) (b : Array UInt8) (t : Tok) (S : Addr) (res : Value) (c₀ : Nat) (hS : s.heap.get? S = some { cls := .type "list", data := .seq #[] c₀ })
    (hR : ∀ h' tk acc' c', (∀ b o, b ≠ S → s.heap.get? b = some o → h'.get? b = some o) → h'.get? S = some { cls := .type "list", dict := none, data := .seq acc' c', slots := #[] } →
      ItemsOf (fun i v => ∃ c u, b[i]? = some c ∧ v = .int (c.toNat : Int) u) acc' b.size → R (.ok (.ret res)) { s with heap := h', toks := tk }) (hn : b.size ≤ sizeLine) :
    wpAny (model prog w) A.in1 (Builtin.List.listExtendWith (.ref S) (.bytes b t) res)
      (fun fin s' => match fin with | .done f => R (.ok f) s' | .again c' => c'.quiet = true ∧ codeAny (model prog w) A c' R s') (fun e s' => R (.error e) s') s := by
  have hlt : S < s.heap.objs.size := Heap.lt_size hS
  have hSf : S ∉ [s.heap.objs.size] := fun hm => absurd hlt (by rw [List.mem_singleton.mp hm]; exact Nat.lt_irrefl _)
  unfold Builtin.List.listExtendWith
  refine wpAny_bind (wpAny_typeOf (T := "bytes") (v := .bytes b t) rfl ?_)
  have h1 : Builtin.List.listSameRef (.ref S) (.bytes b t) = false := rfl
  have h2 : (Value.type "bytes" == Value.type "list") = false := by decide
  have h3 : (Value.type "bytes" == Value.type "tuple") = false := by decide
  simp only [h1, h2, h3, Bool.or_false, Bool.false_eq_true, if_false]
  refine wpAny_bind (KBw.pyIter_bytes ?_)
  refine wpAny_bind (wpAny_holding ?_)
  unfold Builtin.List.listLengthHint
  refine wpAny_bind (wpAny_specialOf (T := "bytes") (v := .bytes b t) rfl FB.slot_bytes_len.lookup ?_)
  wp_delta
  refine wpAny_bind (wpAny_isInstance (T := "bytes") (v := .bytes b t) (b := true) rfl (by rw [isSubtype_type]; kernel_rfl) ?_)
  show wpAny _ _ (typeOf (Value.bytes b t) >>= _) _ _ _
  refine wpAny_bind (wpAny_typeOf (T := "bytes") (v := .bytes b t) rfl ?_)
  refine wpAny_pure ?_
  rw [if_neg (by decide)]
  refine wpAny_pure ⟨plainId_quiet F.plain_extend_loop _, codeAny_extend_loopS (KBw.walks (A := A.in1) hh s.heap.objs.size b t).toS hn _ hSf _ b.size 0 _ _ _ rfl (Nat.zero_le _) ⟨_, Heap.get?_push_size _ rfl, rfl, rfl⟩ (Heap.get?_push_of_some _ hS) (ItemsOf.nil _) fun s' acc' c' hm hS' hacc => ?_⟩
  rw [Moved.eq_with hm]
  refine hR s'.heap s'.toks acc' c' (fun b ob hb e => hm.heap b ob (fun hmem => ?_) (Heap.get?_push_of_some _ e)) hS' hacc
  rcases List.mem_cons.mp hmem with e' | hmem
  · exact hb e'
  · exact absurd (Heap.lt_size e) (by rw [List.mem_singleton.mp hmem]; exact Nat.lt_irrefl _)
theorem list_bytes {Q : Value → Shared → Prop} (hh : A.handled = none) (b : Array UInt8) (t : Tok) (hn : b.size ≤ sizeLine)
    (hQ : ∀ h' tk acc' c', (∀ b o, s.heap.get? b = some o → h'.get? b = some o) →
      h'.get? s.heap.objs.size = some { cls := .type "list", dict := none, data := .seq acc' c', slots := #[] } → ItemsOf (fun i v => ∃ c u, b[i]? = some c ∧ v = .int (c.toNat : Int) u) acc' b.size → Q (.ref s.heap.objs.size) { s with heap := h', toks := tk }) :
    wpAny (model prog w) A (call (.type "list") [.bytes b t]) Q E s := by
  refine callType_codes (Q₁ := fun obj s₁ => obj = .ref s.heap.objs.size ∧ s₁ = { s with heap := s.heap.push { cls := .type "list", data := .seq #[] } }) F.called_list (F.typeCall_list_1 _) F.entry_list_init
    (code_list_new _ ⟨rfl, rfl⟩) fun obj s₁ h₁ => ?_
  obtain ⟨rfl, rfl⟩ := h₁
  have hS : (s.heap.push { cls := .type "list", data := .seq #[] }).get? s.heap.objs.size = some { cls := .type "list", data := .seq #[] } := Heap.get?_push_size _ rfl
  refine ⟨⟨_, hS, rfl⟩, F.args_list_init_2 _ _, ?_⟩
  show wpAny _ _ (do let old ← Builtin.List.listItems (.ref s.heap.objs.size); Builtin.List.listUpdate (.ref s.heap.objs.size) (fun _ => #[]); letGo old.toList.reverse; Builtin.List.listExtendWith (.ref s.heap.objs.size) (.bytes b t) .none) _ _ _
  refine wpAny_bind ?_
  unfold Builtin.List.listItems
  refine wpAny_bind (wpAny_seqItems hS rfl (wpAny_pure ?_))
  show wpAny _ _ (updateSeq s.heap.objs.size (fun _ => #[]) >>= fun _ => letGo (#[] : Array Value).toList.reverse >>= fun _ => Builtin.List.listExtendWith (.ref s.heap.objs.size) (.bytes b t) .none) _ _ _
  refine wpAny_bind (wpAny_updateSeq hS rfl ?_)
  have hS₂ := Heap.get?_update_self (Obj.mapSeq (fun _ => (#[] : Array Value))) hS rfl
  refine wpAny_bind (wpAny_letGo ?_)
  refine extend_bytes (A := A.in1) (hn := hn) hh b t _ .none _ hS₂ fun h' tk acc' c' hk hS' hacc => ⟨rfl, hQ h' tk acc' c' (fun a o e => ?_) hS' hacc⟩
  have hne : a ≠ s.heap.objs.size := Nat.ne_of_lt (Heap.lt_size e)
  exact hk a o hne ((Heap.get?_update_other _ _ (Ne.symm hne)).trans (Heap.get?_push_of_some _ e))
end
variable {C : Cx} {ρ : List (Str × Dat)}
theorem items_reps {b : Array UInt8} {F : List Addr} {h : Heap} {acc : Array Value} (hi : ItemsOf (fun i v => ∃ c u, b[i]? = some c ∧ v = .int (c.toNat : Int) u) acc b.size) : Reps F h acc.toList (byteInts b) := by
  have key : ∀ (l : List Value) (k : Nat), l = acc.toList.drop k → Reps F h l ((b.toList.drop k).map fun c => .int (c.toNat : Int)) := by
    intro l
    induction l with
    | nil =>
      intro k e
      have : acc.toList.length ≤ k := List.drop_eq_nil_iff.mp e.symm
      rw [List.drop_eq_nil_of_le (by rw [Array.length_toList, ← hi.1, ← Array.length_toList]; exact this)]
      exact .nil
    | cons v r ih =>
      intro k e
      have hk : k < acc.toList.length := by
        rcases Nat.lt_or_ge k acc.toList.length with q | q
        · exact q
        · rw [List.drop_eq_nil_of_le q] at e; cases e
      have hv : acc[k]? = some v := by
        have := congrArg (fun l => l[0]?) e
        simp only [List.getElem?_cons_zero, List.getElem?_drop, Nat.add_zero, Array.getElem?_toList] at this
        exact this.symm
      obtain ⟨c, u, hc, rfl⟩ := hi.2 k v hv
      have hkb : k < b.toList.length := by rw [Array.length_toList, ← hi.1, ← Array.length_toList]; exact hk
      rw [List.drop_eq_getElem_cons hkb, List.map_cons]
      have hc' : b.toList[k] = c := by
        rw [← Array.getElem?_toList, List.getElem?_eq_getElem hkb] at hc
        exact Option.some.inj hc
      rw [hc']
      refine .cons (.int _ _) (ih (k + 1) ?_)
      rw [List.drop_eq_getElem_cons hk] at e
      exact (List.cons.inj e).2
  exact key acc.toList 0 rfl
theorem cal_listB (hh : C.A.handled = none) {b : Array UInt8} (hb : b.size ≤ 100000) : Cal C (.type "list") [.bytes b] (nl (bnat b)) := fun s vs o r => by
  obtain ⟨a, rfl, a⟩ := reps1 r
  cases a with
  | bytes _ t =>
  refine list_bytes hh b t (by rw [sizeLine_eq]; omega) fun h' tk acc' c' hk hS hi => ?_
  have z : St C s { s with heap := h', toks := tk } := St.keeps o.base hk
  obtain ⟨f1, f2⟩ := o.fresh (Nat.le_refl _)
  refine ⟨z, ?_⟩
  show Rep _ _ _ (.list ((bnat b).map dn))
  rw [← byteInts_eq]
  exact .list (vs := acc'.toList) ⟨_, hS, rfl, _, by rw [Array.toArray_toList]⟩ f1 f2 (items_reps hi)
end Mine
end
section
set_option maxRecDepth 100000
set_option maxHeartbeats 4000000
set_option linter.unusedVariables false
namespace Mine
open PySem PySem.W PyProof.Rows PySem.Calls PySem.Spec
section
variable {prog : Program} {w : World} {A : Around} {E : Value → Shared → Prop} {s : Shared} {Fv : List Addr}
theorem HOk.but {h h' : Heap} {I S : Addr} (k : HOk A Fv h) (hI : ∀ x, A.handled = some (.ref x) → x ≠ I) (hS : ∀ x, A.handled = some (.ref x) → x ≠ S) (e : ∀ b o, b ≠ I → b ≠ S → h.get? b = some o → h'.get? b = some o) : HOk A Fv h' := by
  rcases k with k | ⟨x, o, vs, h1, h2, h3⟩
  · exact .inl k
  · exact .inr ⟨x, o, vs, h1, e x o (hI x h1) (hS x h1) h2, h3⟩
/-- bytes(list) also while an exception is handled: one turn after the other -/
theorem bytes_turns {R : Result → Shared → Prop} {l I S : Addr} {vs : List Value} {ns : List Int} (hI : ∀ x, A.handled = some (.ref x) → x ≠ I) (hSx : ∀ x, A.handled = some (.ref x) → x ≠ S) (hi : IntsAre vs ns) (hr : ∀ n ∈ ns, 0 ≤ n ∧ n < 256) (hz : ns.length ≤ sizeLine)
    (hIS : I ≠ S) (hlI : l ≠ I) (hlS : l ≠ S) (k : Nat) : ∀ (i : Nat) (s : Shared), HOk A Fv s.heap → i + k = ns.length → s.heap.IsList l vs.toArray → s.heap.IsListIter I l i → s.heap.get? S = some { cls := .type "bytearray", data := .bytearray (byteArr (ns.take i)) } →
      (∀ h' t k', (∀ b o, b ≠ I → b ≠ S → s.heap.get? b = some o → h'.get? b = some o) → R (.ok (.ret (.bytes (byteArr ns) t))) { s with heap := h', toks := k' }) →
      codeAny (model prog w) A (.builtin "bytes.__new__.loop" ⟨[.type "bytes", .ref I, .ref S], []⟩) R s := by
  have hlen : vs.length = ns.length := hi.length
  induction k with
  | zero =>
    intro i s hk hle hl hit hS hR
    obtain rfl : i = ns.length := by omega
    refine codeAny_builtin F.bm_entry_loop ?_
    rw [Around.under_plainId F.bm_plain_loop _]
    show wpAny _ A.in1 (pyNext (.ref I) >>= _) _ _ s
    refine wpAny_bind (list_end (A := A.in1) (F := Fv) hk hI hit hl (by simp [hlen]) fun h' he => ?_)
    have hS' := he S _ (Ne.symm hIS) hS
    refine wpAny_bind ?_
    unfold Builtin.Bytes.payload Builtin.Bytes.payload?
    refine wpAny_bind (wpAny_bind (wpAny_load hS' (wpAny_pure (wpAny_pure ?_))))
    rw [List.take_length]
    refine wpAny_bind (wpAny_mkBytes ?_ (by rw [byteArr_size]; exact hz))
    refine bm_if_true (by decide) ?_
    first
      | exact wpAny_pure (hR h' _ _ fun b o hb _ e => he b o hb e)
      | exact wpAny_bind (wpAny_pure (wpAny_pure (hR h' _ _ fun b o hb _ e => he b o hb e)))
  | succ k ih =>
    intro i s hk hle hl hit hS hR
    have hlt : i < vs.length := by omega
    obtain ⟨n, t, hx, hn⟩ := IntsAre.at hi i _ (List.getElem?_eq_getElem hlt)
    have hv : vs[i]? = some (.int n t) := (List.getElem?_eq_getElem hlt).trans (congrArg some hx)
    obtain ⟨h0, h1⟩ := hr n (List.mem_of_getElem? hn)
    refine codeAny_builtin F.bm_entry_loop ?_
    rw [Around.under_plainId F.bm_plain_loop _]
    show wpAny _ A.in1 (pyNext (.ref I) >>= _) _ _ s
    refine wpAny_bind (wpAny_pyNext_list_item (x := .int n t) hit hl (by simpa using hv) fun h' hit' hs => ?_)
    have hS' : h'.get? S = _ := (hs.2 S (Ne.symm hIS)).trans hS
    refine wpAny_bind (wpAny_holding (wpAny_of_eq (rfl : asIndex (.int n t) = pure n) ?_))
    refine wpAny_bind (wpAny_letGo ?_)
    refine bm_if_false (by simp only [Bool.or_eq_false_iff, decide_eq_false_iff_not]; omega) ?_
    refine wpAny_bind ?_
    show wpAny _ _ (updateBytearray S (·.push n.toNat.toUInt8)) _ _ _
    unfold updateBytearray
    refine wpAny_bind (wpAny_load hS' ?_)
    show wpAny _ _ (update S (Obj.mapBytearray (·.push n.toNat.toUInt8)) >>= fun _ => lookBehind S) _ _ _
    refine wpAny_bind (wpAny_update hS' ?_)
    have hS₂ : (h'.update S (Obj.mapBytearray (·.push n.toNat.toUInt8))).get? S = some { cls := .type "bytearray", data := .bytearray (byteArr (ns.take (i + 1))) } := by
      rw [byteArr_take hn]
      exact Heap.get?_update_self (Obj.mapBytearray (·.push n.toNat.toUInt8)) hS' rfl
    have old : ∀ b o, b ≠ I → b ≠ S → s.heap.get? b = some o → (h'.update S (Obj.mapBytearray (·.push n.toNat.toUInt8))).get? b = some o := fun b o hbI hbS e => (Heap.get?_update_other _ _ (Ne.symm hbS)).trans (hs.extBut b o hbI e)
    refine wpAny_lookBehind hS₂ ?_ (wpAny_pure ⟨plainId_quiet F.bm_plain_loop _, ih (i + 1) { s with heap := h'.update S (Obj.mapBytearray (·.push n.toNat.toUInt8)) } (hk.but hI hSx old) (by omega) ((hl.extBut hs.extBut hlI).extBut (Heap.SameBut.update ..).extBut hlS) (hit'.extBut (Heap.SameBut.update ..).extBut hIS) hS₂ fun h3 t' k' hk3 => hR h3 t' k' fun b o hbI hbS e => hk3 b o hbI hbS (old b o hbI hbS e)⟩)
    show (if (byteArr (ns.take (i + 1))).size > sizeLine then some "bytearray:memory" else none) = none
    rw [if_neg]
    rw [byteArr_size, List.length_take]
    omega
theorem bytes_made {l : Addr} {vs : List Value} {ns : List Int} {Q : Value → Shared → Prop} (k : HOk A Fv s.heap) (hl : s.heap.IsList l vs.toArray) (hi : IntsAre vs ns) (hr : ∀ n ∈ ns, 0 ≤ n ∧ n < 256) (hz : ns.length ≤ sizeLine)
    (hQ : ∀ h' t k, (∀ b o, s.heap.get? b = some o → h'.get? b = some o) → Q (.bytes (byteArr ns) t) { s with heap := h', toks := k }) :
    codeAny (model prog w) A (.call (.builtin "bytes.__new__") ⟨[.type "bytes", .ref l], []⟩) (wants Q E) s := by
  have hh : ∀ x, A.handled = some (.ref x) → x < s.heap.objs.size := fun x hx => by
    rcases k with k | ⟨y, o, vs, h1, h2, h3⟩
    · rw [k] at hx; cases hx
    · rw [hx] at h1; cases h1; exact Heap.lt_size h2
  refine codeAny_of_tree ?_
  show wpAny _ A.in1 (do checkBuiltinCall "bytes.__new__" ⟨[.type "bytes", .ref l], []⟩; again (.builtin "bytes.__new__" ⟨[.type "bytes", .ref l], []⟩)) _ _ s
  refine wpAny_bind (wpAny_of_eq (F.bm_newCall _) (wpAny_pure ⟨plainId_quiet F.bm_plain _, codeAny_builtin F.bm_entry ?_⟩))
  rw [Around.under_plainId F.bm_plain _]
  have hT : s.TypeIs (.ref l) "list" := hl.typeIs
  obtain ⟨ol, hol, hoc, nl, hod⟩ := id hl
  unfold Builtin.«bytes.__new__»
  refine wpAny_bind (wpAny_of_eq (a := true) rfl (bm_if_false rfl ?_))
  refine wpAny_bind (wpAny_of_eq F.bm_sub (bm_if_false rfl ?_))
  refine wpAny_bind (wpAny_of_eq (F.bm_bind _) (wpAny_bind (wpAny_of_eq (a := ()) rfl (wpAny_bind (wpAny_of_eq (a := ()) rfl (bm_if_false rfl ?_))))))
  refine wpAny_bind (wpAny_specialOf hT F.bm_no_bytes (wpAny_bind (wpAny_bind ?_)))
  show wpAny _ _ (load l >>= _) _ _ _
  refine wpAny_bind (wpAny_load hol ?_)
  rw [hod]
  refine wpAny_pure (wpAny_pure (bm_if_false rfl (wpAny_bind (wpAny_specialOf hT F.bm_no_index (bm_if_true rfl ?_)))))
  first
    | show wpAny _ _ (Builtin.Bytes.buffer? "bytes.__new__" (.ref l) true >>= _) _ _ _
    | (refine wpAny_bind ?_; show wpAny _ _ (Builtin.Bytes.buffer? "bytes.__new__" (.ref l) true >>= _) _ _ _)
  refine wpAny_bind ?_
  unfold Builtin.Bytes.buffer?
  refine wpAny_bind (wpAny_specialOf hT F.bm_no_buffer (wpAny_bind (wpAny_specialOf hT F.bm_no_buffer (wpAny_pure ?_))))
  refine wpAny_bind (wpAny_tryCatch (wpAny_pyIter_list hl ?_))
  have hl₁ : (s.heap.push { cls := .type "list_iterator", data := .fields #[.ref l, .int 0 0] }).IsList l vs.toArray := hl.push _
  have hT₁ : ({ s with heap := s.heap.push { cls := .type "list_iterator", data := .fields #[.ref l, .int 0 0] } } : Shared).TypeIs (.ref l) "list" := Heap.IsList.typeIs (s := { s with heap := s.heap.push { cls := .type "list_iterator", data := .fields #[.ref l, .int 0 0] } }) hl₁
  refine wpAny_bind (wpAny_holding ?_)
  unfold Builtin.Bytes.lengthHint
  refine wpAny_bind (wpAny_specialOf hT₁ slot_list_len.lookup ?_)
  dsimp only
  rw [F.bm_split]
  dsimp only
  refine wpAny_bind (wpAny_isInstance hT₁ F.bm_sub_list (bm_if_false rfl (bm_if_true (by decide +kernel) (wpAny_pure (wpAny_bind ?_)))))
  unfold Builtin.Bytes.newBytearray
  refine wpAny_newObj_type ?_ (Nat.zero_le _)
  have hlt : l < s.heap.objs.size := Heap.lt_size hol
  have hsz : (s.heap.push { cls := .type "list_iterator", data := .fields #[.ref l, .int 0 0] }).objs.size = s.heap.objs.size + 1 := Heap.size_push _ _
  have up : ∀ b o, s.heap.get? b = some o → ((s.heap.push { cls := .type "list_iterator", data := .fields #[.ref l, .int 0 0] }).push { cls := .type "bytearray", data := .bytearray #[] }).get? b = some o := fun b o e => Heap.get?_push_of_some _ (Heap.get?_push_of_some _ e)
  have main := bytes_turns (prog := prog) (w := w) (A := A) (Fv := Fv) (R := wants Q E) (l := l) (I := s.heap.objs.size) (S := (s.heap.push { cls := .type "list_iterator", data := .fields #[.ref l, .int 0 0] }).objs.size)
    (fun x hx => Nat.ne_of_lt (hh x hx)) (fun x hx => by rw [hsz]; exact Nat.ne_of_lt (Nat.lt_succ_of_lt (hh x hx))) hi hr hz (by rw [hsz]; exact Nat.ne_of_lt (Nat.lt_succ_self _)) (Nat.ne_of_lt hlt) (by rw [hsz]; exact Nat.ne_of_lt (Nat.lt_succ_of_lt hlt))
    ns.length 0 { s with heap := (s.heap.push { cls := .type "list_iterator", data := .fields #[.ref l, .int 0 0] }).push { cls := .type "bytearray", data := .bytearray #[] } } (k.but (fun x hx => Nat.ne_of_lt (hh x hx)) (fun x hx => Nat.ne_of_lt (hh x hx)) fun b o _ _ e => up b o e) (Nat.zero_add _) (hl₁.push _) ⟨_, Heap.get?_push_of_some _ (Heap.get?_push_size _ rfl), rfl, rfl⟩ (Heap.get?_push_size _ rfl)
    fun h' t k hk => hQ h' t k fun b o e => hk b o (Nat.ne_of_lt (Heap.lt_size e)) (by rw [hsz]; exact Nat.ne_of_lt (Nat.lt_succ_of_lt (Heap.lt_size e))) (up b o e)
  first
    | exact wpAny_pure ⟨plainId_quiet F.bm_plain_loop _, main⟩
    | exact wpAny_pure (wpAny_pure ⟨plainId_quiet F.bm_plain_loop _, main⟩)
theorem call_bytesU {l : Addr} {vs : List Value} {ns : List Int} {Q : Value → Shared → Prop} (k : HOk A Fv s.heap) (hl : s.heap.IsList l vs.toArray) (hi : IntsAre vs ns) (hr : ∀ n ∈ ns, 0 ≤ n ∧ n < 256) (hz : vs.length ≤ sizeLine)
    (hQ : ∀ h' t k, (∀ b o, s.heap.get? b = some o → h'.get? b = some o) → Q (.bytes (byteArr ns) t) { s with heap := h', toks := k }) : wpAny (model prog w) A (call (.type "bytes") [.ref l]) Q E s := by
  refine callType_codes (Q₁ := fun obj s₁ => s₁.TypeIs obj "bytes" ∧ Q obj s₁) F.bm_called (F.bm_typeCall _) F.entry_object_init
    (bytes_made (Fv := Fv) k hl hi hr (by rw [← hi.length]; exact hz) fun h' t k hk => ⟨PySem.W.typeIs_bytes _ _ _, hQ h' t k hk⟩) fun obj s₁ h₁ => ?_
  exact ⟨h₁.1, F.args_object_init_2 obj _, object_init_meets F.bm_called.init.lookup F.bm_called.made (by decide) prog w A.in1 _ s₁ ⟨h₁.1, rfl, h₁.2⟩⟩
end
variable {C : Cx} {ρ : List (Str × Dat)}
def bts (l : List Nat) : Array UInt8 := (l.map fun n => n.toUInt8).toArray
theorem ints_are {Fv : List Addr} {h : Heap} : ∀ {vs : List Value} {l : List Nat}, Reps Fv h vs (l.map dn) → IntsAre vs (l.map fun (n : Nat) => (n : Int))
  | [], [], .nil => .nil
  | _ :: _, _ :: _, .cons a r => by
    cases a
    exact .cons _ _ (ints_are r)
theorem byteArr_nat (l : List Nat) : byteArr (l.map fun (n : Nat) => (n : Int)) = bts l := by
  unfold byteArr bts
  rw [List.map_map]
  rfl
theorem cal_bytesL {l : List Nat} (hb : ∀ n ∈ l, n < 256) (hz : l.length ≤ 100000) : Cal C (.type "bytes") [nl l] (.bytes (bts l)) := fun s vs o r => by
  obtain ⟨a, rfl, a⟩ := reps1 r
  cases a with
  | @list a vs _ hl m p q =>
  have hlen := q.length
  rw [List.length_map] at hlen
  refine call_bytesU (Fv := C.F) o.hok hl (ints_are q) (fun n hn => ?_) (by rw [sizeLine_eq]; omega) fun h' t k hk => ?_
  · obtain ⟨x, hx, rfl⟩ := List.mem_map.mp hn
    have := hb x hx
    omega
  · rw [byteArr_nat]
    exact ⟨St.keeps o.base hk, .bytes _ _⟩
end Mine
end
section
set_option maxRecDepth 100000
set_option maxHeartbeats 4000000
set_option linter.unusedVariables false
namespace Mine
open PySem PySem.W PyProof.Rows PySem.Calls PySem.Spec
theorem no_cell_dict {h : Heap} {a : Addr} {o : Obj} {es : Array DictEntry} {n : Nat} (ho : h.get? a = some o) (hd : o.data = .dict es n) (v : Option Value) : ¬ h.IsCell a v := by
  rintro ⟨o', h1, h2⟩
  rw [ho] at h1
  cases h1
  rw [hd] at h2
  simp at h2
theorem wk_vals {w : World} {A : Around} {F : List Addr} {I d : Addr} {kvs : List (Str × Value)} {ep : Nat} (hh : A.handled = none) (hI : I ∉ F) (hIg : I ≠ gP) (hd : d ∉ F) (hdg : d ≠ gP) (hne : d ≠ I) :
    Wk w A F I [I, d] (kvs.map fun p => .cst p.2) (fun i h => h.IsValIter I d i kvs.length ep ∧ h.DictAt (strKind pw w) d kvs ep) where
  off := fun b hb => by
    simp only [List.mem_cons, List.not_mem_nil, or_false] at hb
    rcases hb with rfl | rfl
    · exact ⟨hI, hIg⟩
    · exact ⟨hd, hdg⟩
  keep := fun i h h' st g => ⟨st.1.at fun o e => g I (by simp) o e, st.2.at' fun o e => g d (by simp) o e⟩
  item := fun i x s Q E st hx hQ => by
    rw [List.getElem?_map, Option.map_eq_some_iff] at hx
    obtain ⟨⟨k, v⟩, hk, rfl⟩ := hx
    exact wpAny_pyNext_values_item st.1 st.2 hk fun h' hit' hs' => hQ v h' s.toks (.cst v) ⟨hit', st.2.extBut hs'.extBut hne⟩ fun b o hb e => hs'.extBut b o hb e
  done := fun s Q E st k hQ => by
    rw [List.length_map] at st
    exact wpAny_pyNext_values_end hh st.1 st.2 (by simp) fun h' he' => hQ h' s.toks fun b o hb e => he' b o hb e
  self := fun i s Q E st hQ => wpAny_pyIter_valiter st.1 hQ
  kind := fun i h st => by
    obtain ⟨⟨o, h1, h2, h3⟩, o', es, h4, h5, h6, _⟩ := st
    refine ⟨⟨o, h1, .fields h3 h2⟩, fun b hb => ?_⟩
    simp only [List.mem_cons, List.not_mem_nil, or_false] at hb
    rcases hb with rfl | rfl
    · exact no_cell_odd h1 (.fields h3 h2)
    · exact no_cell_dict h4 h6
variable {C : Cx} {ρ : List (Str × Dat)}
abbrev nets : List (Str × Value) := [("main", .ref 23), ("test", .ref 24), ("regtest", .ref 25), ("signet", .ref 26)]
theorem lit22 (w : World) : ∃ es n, (Kf w).lookup 22 = some ⟨.type "dict", none, .dict es n, #[]⟩ ∧ KeysLit w.params es.toList ∧ Pairs (strKind pw w) es.toList nets :=
  ⟨_, _, rfl, ⟨⟨_, _, rfl, rfl⟩, ⟨⟨_, _, rfl, rfl⟩, ⟨⟨_, _, rfl, rfl⟩, ⟨⟨_, _, rfl, rfl⟩, trivial⟩⟩⟩⟩, .cons (strKind_is pw w _ _) rfl (.cons (strKind_is pw w _ _) rfl (.cons (strKind_is pw w _ _) rfl (.cons (strKind_is pw w _ _) rfl .nil)))⟩
theorem nets_at {w : World} {h : Heap} (X : (Kf w).In h) : ∃ ep, h.DictAt (strKind pw w) 22 nets ep := by
  obtain ⟨es, n, hl, hk, hp⟩ := lit22 w
  refine ⟨n, _, es, X _ _ hl, ⟨rfl, rfl, rfl⟩, rfl, fun e he => ?_, hp, by decide⟩
  obtain ⟨x, t, e1, e2⟩ := hk.all e (Array.mem_toList_iff.mpr he)
  exact ⟨x, by rw [e1]; exact strKind_is pw w x t, e2⟩
theorem off22 {s : Shared} (o : Ok C ρ s) : 22 ∉ C.F := fun hm => by
  obtain ⟨es, n, hl, _⟩ := lit22 C.w
  exact Nat.lt_irrefl _ (o.cx.low 22 _ (o.base.wd.kin _ _ hl) 22 hm)
theorem evIt_nets {p apos pos : Pos} (hh : C.A.handled = none) (hk : C.env.kindOf "NETWORKS" = some .globalImplicit := by rfl) (hline : (apos.endLine == pos.line) = true := by rfl)
    (hbase : attributeBase (.Name "NETWORKS" p) "values" C.env (eval (.Name "NETWORKS" p) C.env) = eval (.Name "NETWORKS" p) C.env := by rfl) :
    EvIt C ρ (.Call (.Attribute (.Name "NETWORKS" p) "values" apos) [] [] pos) (nets.map fun p => .cst p.2) := fun s o => by
  refine wpAny_Call_method_lateS hbase ?_ hline ((ev_gl gl_NETWORKS hk).to o (.refl o) fun v s1 o1 z1 _ r1 => ?_)
  · rfl
  cases r1
  obtain ⟨ep, D⟩ := nets_at (o1.base.wd.kin.keeps o1.base.stay)
  have D0 : s1.heap.DictOf (strKind pw C.w) 22 nets := let ⟨a, b, c⟩ := D; ⟨a, b, ep, c⟩
  refine ⟨"dict", "dict.values", F.plainAttrs_dict, F.slot_dict_values, F.type_dict_values, D0.typeIs, fun a e => ?_, ?_⟩
  · cases e
    obtain ⟨ob, es, h1, h2, _⟩ := D
    exact ⟨ob, h1, h2.2.1⟩
  refine callWith_ev .nil o1 (kp_builtin _) fun vs s2 o2 z2 r2 => ?_
  cases r2
  have D2 : s2.heap.DictAt (strKind pw C.w) 22 nets ep := by
    obtain ⟨ob, es, h1, r⟩ := D
    exact ⟨ob, es, z2.gr.kc _ _ h1 (by decide) (off22 o2), r⟩
  have D2' : s2.heap.DictOf (strKind pw C.w) 22 nets := let ⟨a, b, c⟩ := D2; ⟨a, b, ep, c⟩
  refine call_meetsIn F.slot_dict_values D2'.typeIs F.entry_dict_values (F.args_dict_values_1 _) (meets_dict_values (strKind pw C.w) 22 (by decide)) ⟨⟨_, D2'⟩, ?_⟩
  have z3 : St C s2 { s2 with heap := s2.heap.push { cls := .type "dict_values", data := .fields #[.ref 22] } } := .push' o2.base _
  have o3 := o2.step z3
  have D3 : (s2.heap.push { cls := .type "dict_values", data := .fields #[.ref 22] }).DictAt (strKind pw C.w) 22 nets ep := by
    obtain ⟨ob, es, h1, r⟩ := D2
    exact ⟨ob, es, Heap.get?_push_of_some _ h1, r⟩
  refine wpAny_pyIter_values (s := { s2 with heap := s2.heap.push { cls := .type "dict_values", data := .fields #[.ref 22] } }) (knd := strKind pw C.w) ⟨_, Heap.get?_push_size _ rfl, rfl, rfl⟩ D3 ?_
  obtain ⟨f1, f2⟩ := o3.fresh (Nat.le_refl _)
  have h22 : (22 : Addr) < (s2.heap.push { cls := .type "dict_values", data := .fields #[.ref 22] }).objs.size := let ⟨ob, es, h1, r⟩ := D3; Heap.lt_size h1
  have hn := get_none_of_gr ((z1.trans z2).trans z3).gr (none_size (Nat.le_refl _)) f1 f2
  refine ⟨_, [_, 22], _, rfl, fun A hA => wk_vals (ep := ep) (hA.trans hh) f1 f2 (off22 o3) (by decide) (Nat.ne_of_lt h22), ⟨⟨_, Heap.get?_push_size _ rfl, rfl, rfl⟩, ?_⟩, ((z1.trans z2).trans z3).trans (.push' o3.base _), hn, ?_, .head _, fun b hb => ?_⟩
  · obtain ⟨ob, es, h1, r⟩ := D3
    exact ⟨ob, es, Heap.get?_push_of_some _ h1, r⟩
  · exact one_fp.1
  · simp only [List.mem_cons, List.not_mem_nil, or_false] at hb
    rcases hb with rfl | rfl
    · exact one_fp.1
    · exact Nat.lt_trans h22 one_fp.1
end Mine
end
section
set_option maxRecDepth 100000
set_option maxHeartbeats 4000000
set_option linter.unusedVariables false
namespace Mine
open PySem PySem.W PyProof.Rows PySem.Calls PySem.Spec
section
variable {C : Cx} {ρ : List (Str × Dat)}
def CalC (C : Cx) (f : Value) (ds : List Dat) (d : Dat) : Prop := ∀ s vs, Ok C [] s → Reps C.F s.heap vs ds → codeAny C.M C.A (.call f ⟨vs, []⟩) (fun r s' => ∃ v, r = .ok (.ret v) ∧ St C s s' ∧ Rep C.F s'.heap v d) s
/-- a class's method, by the class -/
theorem ev_cm {o' : Expr} {name : Str} {apos pos : Pos} {args : List Expr} {c f p : Addr} {mc : Value} {rest : List Value} {ds : List Dat} {d : Dat} (ho : Ev C ρ o' (.cst (.ref c))) (ha : Evs C ρ args ds)
    (hg : specialIn (Kf C.w) (.ref c) "__getattribute__" = some (some (.builtin "type.__getattribute__"))) (hr : readsIn (Kf C.w) c mc = true)
    (hf : findCls (Kf C.w) (.ref c) mc name = some (.get (.builtin "classmethod.__get__") (.ref p) .none (.ref c))) (hp : recIn (Kf C.w) p "classmethod" = some (.ref f :: rest)) (hfn : fnIn (Kf C.w) f = true) (hc : CalC C (.ref f) (.cst (.ref c) :: ds) d)
    (hline : (apos.endLine == pos.line) = true := by rfl) (hbase : attributeBase o' name C.env (eval o' C.env) = eval o' C.env := by rfl) (hlen : args.length < 25 := by decide) :
    Ev C ρ (.Call (.Attribute o' name apos) args [] pos) d := fun s o => by
  rw [arm_eval_Call, hbase]
  refine wpAny_bind (ho.to o (.refl o) fun v s1 o1 z1 _ r1 => wpAny_bind (wpAny_standAt ?_))
  have hv : v = .ref c := by cases r1; rfl
  subst hv
  have hform : methodCallForm (args.length + ([] : List Keyword).length) (backTo pos (starEach args C.env)) (backToKw pos (keywordEach [] C.env)) = true := by
    unfold methodCallForm
    rw [star_all ha.plain]
    simp only [keywordEach, backToKw, List.map_nil, List.all_nil, List.length_nil, List.isEmpty_nil, if_true, Bool.and_self, Bool.true_and, decide_eq_true_eq]
    omega
  have hpos : methodCallPos true o' C.env apos pos = pure pos := by unfold methodCallPos; simp [hline]
  unfold methodCall
  rw [hform]
  have X1 := o1.base.wd.kin.keeps o1.base.stay
  refine wpAny_bind (wpAny_holding (method_cls X1 hg (cls_bind X1 hr hf (wpAny_call (cm_get (s := { s1 with toks := s1.toks + 1 }) X1 hp (handed_on rfl ?_))))))
  have z2 : St C s1 { s1 with heap := s1.heap.push (methodObj (.ref f) (.ref c)), toks := s1.toks + 1 } := .push o1.base _
  have o2 := o1.step z2
  have hq : (s1.heap.push (methodObj (.ref f) (.ref c))).get? s1.heap.objs.size = some (methodObj (.ref f) (.ref c)) := Heap.get?_push_size _ rfl
  obtain ⟨f1, f2⟩ := o1.fresh (Nat.le_refl _)
  refine wpAny_bind (wpAny_of_eq hpos ?_)
  have fin : ∀ vs s3, Ok C ρ s3 → St C { s1 with heap := s1.heap.push (methodObj (.ref f) (.ref c)), toks := s1.toks + 1 } s3 → Reps C.F s3.heap vs ds → MethP (Kf C.w) s1.heap.objs.size f (.ref c) s3.heap ∧ wpAny C.M C.A (call (.ref s1.heap.objs.size) ([] ++ vs)) (fun v s' => St C s s' ∧ Rep C.F s'.heap v d) (fun _ _ => False) s3 := fun vs s3 o3 z3 r3 => by
    have hq3 := z3.gr.kc _ _ hq f2 f1
    refine ⟨⟨hq3, o3.base.wd.kin.keeps o3.base.stay⟩, wpAny_call (method_call hq3 (codeAny_mono (hc s3 (.ref c :: vs) o3.nil (.cons (.cst _) r3)) fun r s' ⟨v, e, z, rr⟩ => ?_))⟩
    subst e
    exact ⟨((z1.trans z2).trans z3).trans z, rr⟩
  refine callWith_of (keywords := []) (by rw [star_any ha.plain]; rfl) (P := MethP (Kf C.w) s1.heap.objs.size f (.ref c)) (fun h => keeps_M hfn h) ?_
  cases ha with
  | nil => exact evalArgs_nil3 (fin [] _ o2 (.refl o2) .nil)
  | cons a hn r =>
    have q := (Evs.cons a hn r).go pos _ o2
    rw [starEach_cons hn] at q ⊢
    exact evalArgs_plain (wpAny_mono q (fun vs s3 ⟨z3, r3⟩ => fin vs s3 (o2.step z3) z3 r3) fun _ _ f => f.elim)
/-- a method of an object of ours that raises -/
theorem ev_instMX {o' : Expr} {name : Str} {apos pos : Pos} {args : List Expr} {c f : Addr} {b : Array UInt8} {ds : List Dat} {cls : Value} {k : Bool} (ho : Ev C ρ o' (.inst c b)) (ha : Evs C ρ args ds)
    (hga : findIn (Kf C.w) (.ref c) "__getattribute__" = some (some (.builtin "object.__getattribute__"))) (hgt : findIn (Kf C.w) (.ref c) "__getattr__" = some none) (hf : findIn (Kf C.w) (.ref c) name = some (some (.ref f))) (ht : typeIn (Kf C.w) (.ref f) = some (.type "function"))
    (hs : ∀ hh tk t, shadowIn (some (dataDict hh tk b t)) name = some false) (hk : Kp C (.ref f)) (hc : CalX C (.ref f) (.inst c b :: ds) cls k)
    (hline : (apos.endLine == pos.line) = true := by rfl) (hbase : attributeBase o' name C.env (eval o' C.env) = eval o' C.env := by rfl) (hlen : args.length < 25 := by decide) : EvX C ρ (.Call (.Attribute o' name apos) args [] pos) cls k := fun s o => by
  rw [arm_eval_Call, hbase]
  refine wpAny_bind (ho.to o (.refl o) fun v s1 o1 z1 _ r1 => wpAny_bind (wpAny_standAt ?_))
  have hform : methodCallForm (args.length + ([] : List Keyword).length) (backTo pos (starEach args C.env)) (backToKw pos (keywordEach [] C.env)) = true := by
    unfold methodCallForm
    rw [star_all ha.plain]
    simp only [keywordEach, backToKw, List.map_nil, List.all_nil, List.length_nil, List.isEmpty_nil, if_true, Bool.and_self, Bool.true_and, decide_eq_true_eq]
    omega
  have hpos : methodCallPos true o' C.env apos pos = pure pos := by unfold methodCallPos; simp [hline]
  unfold methodCall
  rw [hform]
  cases id r1 with
  | inst h1 h2 f1 f2 f3 f4 =>
  refine wpAny_bind (wpAny_holding (method_fn o1.kin (od := some (dataDict _ _ b _)) ⟨h1, rfl, rfl, h2⟩ hga hgt hf ht (hs _ _ _) (wpAny_bind (wpAny_of_eq hpos ?_))))
  exact callWith_ev ha o1 hk fun vs s3 o3 z3 r3 => wpAny_mono (hc s3 (_ :: vs) o3.nil (.cons (r1.gr z3.gr) r3)) (fun _ _ f => f.elim) fun e s4 x => XSt.pre (z1.trans z3) x
end
section
variable {C : Cx} {name qual : Str} {params : Arguments} {body : List Stmt} {scope : Scope} {dV kV doc pm cdv ct oc : Value} {an od : Option Addr} {osl : Array (Option Value)} {f : Addr} {ds es : List Dat} {xs : List Value}
theorem calC_fn {d : Dat} (hn : 1 ≤ C.n) (ho : (Kf C.w).lookup f = some ⟨oc, od, .func (fnOf name qual params body scope dV kV doc pm an cdv ct), osl⟩) (hcd : codeIn (Kf C.w) cdv qual = true) (names : List Str) (hx : ∀ F h, Reps F h xs es)
    (hb : ∀ (s : Shared) (vs : List Value), (Kf C.w).In s.heap → vs.length = ds.length → BindsTo s (fnOf name qual params body scope dV kV doc pm an cdv ct) ⟨vs, []⟩ (names.zip (vs ++ xs)))
    (hnames : names.Nodup) (hloc : ∀ y ∈ names, scope.names.lookup y = some .local)
    (hbody : ∀ h₀ L, Xs (C.fn h₀ (envOf qual scope L f cdv) []) (names.zip (ds ++ es)) body (.ret d))
    (hck : scope.kind = .function := by rfl) (hco : scope.isCoroutine = false := by rfl) (hgen : scope.isGenerator = false := by rfl)
    (hcell : ∀ x ∈ scope.names, x.2 ≠ .cell := by decide) : CalC C (.ref f) ds d := fun s vs o r =>
  fn_core o hn r ho hcd names hx hb hnames hloc hbody (fun d' q v s' z rr => by
    rcases q with ⟨_, q, _⟩ | q
    · cases q
    · cases q; exact ⟨v, rfl, z, rr⟩) (fun _ _ _ q => by cases q) ⟨(fun _ q => by cases q), (fun _ q => by cases q)⟩ hck hco hgen hcell
/-- a body that runs off its end gives None -/
theorem cal_fnN {ρ : List (Str × Dat)} (hn : 1 ≤ C.n) (ho : (Kf C.w).lookup f = some ⟨oc, od, .func (fnOf name qual params body scope dV kV doc pm an cdv ct), osl⟩) (hcd : codeIn (Kf C.w) cdv qual = true) (names : List Str) (hx : ∀ F h, Reps F h xs es)
    (hb : ∀ (s : Shared) (vs : List Value), (Kf C.w).In s.heap → vs.length = ds.length → BindsTo s (fnOf name qual params body scope dV kV doc pm an cdv ct) ⟨vs, []⟩ (names.zip (vs ++ xs)))
    (hnames : names.Nodup) (hloc : ∀ y ∈ names, scope.names.lookup y = some .local)
    (hbody : ∀ h₀ L, Xs (C.fn h₀ (envOf qual scope L f cdv) []) (names.zip (ds ++ es)) body (.next ρ))
    (hck : scope.kind = .function := by rfl) (hco : scope.isCoroutine = false := by rfl) (hgen : scope.isGenerator = false := by rfl)
    (hcell : ∀ x ∈ scope.names, x.2 ≠ .cell := by decide) : Cal C (.ref f) ds .none := fun s vs o r =>
  wpAny_call (fn_core o hn r ho hcd names hx hb hnames hloc hbody (fun d' q v s' z rr => by
    rcases q with ⟨_, _, rfl⟩ | q
    · exact ⟨z, rr⟩
    · cases q) (fun _ _ _ q => by cases q) ⟨(fun _ q => by cases q), (fun _ q => by cases q)⟩ hck hco hgen hcell)
end
end Mine
end
section
set_option maxRecDepth 100000
set_option maxHeartbeats 4000000
set_option linter.unusedVariables false
namespace Mine
open PySem PySem.W PyProof.Rows PySem.Calls PySem.Spec
-- MAC
local macro_rules | `(tactic| k_mem) => `(tactic| first | (with_reducible exact mem_self) | (with_reducible exact List.Mem.head _) | ((with_reducible refine mem_other ?_ ?_); (focus decide); k_mem) | ((with_reducible refine List.Mem.tail _ ?_); k_mem))
local macro_rules | `(tactic| k_inst) => `(tactic| first
  | ((with_reducible refine ev_name ?_ ?_ ?_); (focus k_mem); (focus decide); decide)
  | ((with_reducible refine ev_nat ?_); rfl)
  | (with_reducible refine ev_bin (op := .BitXor) ?_ ?_ (op_xorN _ _)) | (with_reducible refine ev_bin (op := .BitAnd) ?_ ?_ (op_andN _ _)) | (with_reducible refine ev_bin (op := .RShift) ?_ ?_ (op_shrN _ _))
  | (with_reducible refine ev_bin (op := .LShift) ?_ ?_ (op_shlN ?_)) | (with_reducible refine ev_bin (op := .Add) ?_ ?_ (op_addN _ _)) | (with_reducible refine ev_bin (op := .Mod) ?_ ?_ (op_modN _ ?_))
  | ((with_reducible refine evs_cons ?_ ?_ ?h3); (case h3 => rfl)) | (with_reducible exact evs_nil))
-- CAM
theorem mk965 (w : World) : makesIn (Kf w) 965 = true := by kernel_rfl
theorem in965 (w : World) : findIn (Kf w) (.ref 965) "__init__" = some (some (.ref 885)) := by kernel_rfl
theorem ty885 (w : World) : typeIn (Kf w) (.ref 885) = some (.type "function") := by kernel_rfl
theorem se965 (w : World) : findIn (Kf w) (.ref 965) "__setattr__" = some (some (.builtin "object.__setattr__")) := by kernel_rfl
theorem po965 (w : World) : plainOver (Kf w) 965 = true := by kernel_rfl
theorem ta965 (w : World) : takerIn (Kf w) 965 "data" = some none := by kernel_rfl
theorem hd965 (w : World) : (clsIn (Kf w) 965).any (·.hasDict) = true := by kernel_rfl
theorem script_make {C : Cx} (hn : 5 ≤ C.n) (b : Array UInt8) : Cal C (.ref 965) [.bytes b] (.inst 965 b) :=
  cal_make hn (mk965 _) (in965 _) (ty885 _) (se965 _) (po965 _) (ta965 _) (hd965 _) rfl rfl (fun s a b X => by first | exact .of_eq rfl | exact .of_defaults rfl (X 878 _ rfl) rfl rfl rfl) rfl rfl
abbrev NetA (a : Addr) (x y : UInt8) (hrp : List Nat) : Prop := ∀ C : Cx, Net C a x y hrp
def la (x y : UInt8) (h : List Nat) (b : Array UInt8) : Option (List Nat) :=
  if T1 b then some (ec (#[x] ++ pk b (some 3) (some 23))) else if T2 b then some (ec (#[y] ++ pk b (some 2) (some 22))) else
  if T3 b then be h 0 (bnat (pk b (some 2) none)) else if T4 b then be h 0 (bnat (pk b (some 2) none)) else if T5 b then be h 1 (bnat (pk b (some 2) none)) else none
theorem T5_iff (b : Array UInt8) : T5 b = true ↔ b.size = 34 ∧ at' b 0 = 81 ∧ at' b 1 = 32 := by
  unfold T5
  by_cases h : b.size = 34
  · rw [pk2 (by omega)]; simp [h]
  · simp [h]
theorem pk_size (b : Array UInt8) (k : Nat) (hk : k ≤ b.size) : (pk b (some (k : Int)) none).size = b.size - k := by
  unfold pk
  rw [KBc.picked_eq]
  simp only [Option.elim]
  have : clipAt b.size (k : Int) = k := by unfold clipAt; omega
  rw [this, List.size_toArray, List.length_take, List.length_drop, Array.length_toList]
  omega
def Dat.isS (k : Str) : Dat → Bool
  | .str x => x == k
  | _ => false
theorem upd_same {ρ : List (Str × Dat)} {x : Str} {d : Dat} (h : (x, d) ∈ ρ) : ∀ p ∈ upd ρ x d, p ∈ ρ := fun p hp => by
  rcases List.mem_cons.mp hp with rfl | hp
  · exact h
  · exact (List.mem_filter.mp hp).1
theorem xs_ifup {C : Cx} {ρ : List (Str × Dat)} {O : Out} {rest body : List Stmt} {t : Expr} {b : Bool} {pos : Pos} {x : Str} {d : Dat} (h : Ts C ρ t b) (h1 : b = true → Xs C ρ body (.next (upd ρ x d))) (h2 : b = false → (x, d) ∈ ρ) (r : Xs C (upd ρ x d) rest O) : Xs C ρ (.If t body [] pos :: rest) O :=
  xs_cons (xt_if h h1 fun q => xs_end (upd_same (h2 q))) r
theorem kp_207 {C : Cx} : Kp C (.ref 207) := kp_K fun w => by kernel_rfl
theorem ad_body {C : Cx} (hn : 9 ≤ C.n) (hh : C.A.handled = none) {a : Addr} {x y : UInt8} {h : List Nat} (N : NetA a x y h) (ha : ∀ c ∈ h, c < 128) (hl : h.length ≤ 100) {b : Array UInt8} (hb : b.size ≤ 70) {k : Str} (hk : kind b = some k) (h₀ : Heap) (L : Addr) :
    ∃ q sc cd bd oc od osl nm pr dV kV doc pm an ct, (Kf C.w).lookup 893 = some ⟨oc, od, .func (fnOf nm q pr bd sc dV kV doc pm an cd ct), osl⟩ ∧
      Xs (C.fn h₀ (envOf q sc L 893 cd) []) [("self", .inst 965 b), ("network", .cst (.ref a))] bd (.ret (optStr (la x y h b))) := by
  refine ⟨_, _, _, _, _, _, _, _, _, _, _, _, _, _, _, rfl, ?_⟩
  have hz2 : b.size ≤ sizeLine := by rw [sizeLine_eq]; omega
  refine xs_cons (xt_assign (d := .str k) ?_) (xs_cons (xt_assign (d := .bytes b) (ev_data (c := 965) (b := b) (by k_inst) (ga965 _) fun hh tk t => rfl)) ?_)
  · rw [show Dat.str k = optS (kind b) by rw [hk]; rfl]
    exact ev_instM (c := 965) (b := b) (by k_inst) .nil (ga965 _) (gt965 _) (st965 _) (ty907 _) (fun hh tk t => rfl) kp_907 (by exact st_cal (by show 1 ≤ C.n - 1; omega) (by omega))
  refine xs_iff ((ts_cmp (d1 := .str k) (by k_inst) (ev_none _ _) (cmp_isN rfl)).cast rfl) ?_
  unfold kind at hk
  unfold la
  by_cases h1 : T1 b = true
  · rw [if_pos h1] at hk ⊢
    cases hk
    refine xs_stop (xt_if (b := true) ((ts_cmp (d1 := .str "p2pkh") (d2 := .str "p2pkh") (by k_inst) (ev_str _ _ _) (cmp_eqS _ _)).cast (by decide)) (fun _ => ?_) fun q => by cases q)
    have h4 := pk_le b (some 3) (some 23)
    have h4' : (KBy.picked b (some 3) (some 23)).size ≤ 70 := Nat.le_trans h4 hb
    exact xs_cons (xt_assign (d := .bytes (#[x] ++ pk b (some 3) (some 23))) (ev_bin (d1 := .bytes #[x]) (d2 := .bytes (pk b (some 3) (some 23))) (ev_item (d1 := .cst (.ref a)) (d2 := .str "p2pkh") (by k_inst) (ev_str _ _ _) (N _).pkh) (ev_slice (d1 := .bytes b) (by k_inst) (.some (ev_int 3 _ _)) (.some (ev_int 23 _ _)) .none (sl_bytes hz2)) (op_addB (by show 1 + (KBy.picked b (some 3) (some 23)).size ≤ _; omega))))
      (xs_stop (xt_ret (ev_call (ev_gl gl_encode_check rfl) (evs1 (d := .bytes (#[x] ++ pk b (some 3) (some 23))) (by k_inst)) kp_130 (by exact ec_cal (by show 8 ≤ C.n - 1; omega) (by exact hh) (by rw [Array.size_append]; show 1 + (KBy.picked b (some 3) (some 23)).size ≤ _; omega)))))
  rw [if_neg h1] at hk ⊢
  by_cases h2 : T2 b = true
  · rw [if_pos h2] at hk ⊢
    cases hk
    refine xs_iff ((ts_cmp (d1 := .str "p2sh") (d2 := .str "p2pkh") (by k_inst) (ev_str _ _ _) (cmp_eqS _ _)).cast (by decide)) ?_
    refine xs_stop (xt_if (b := true) ((ts_cmp (d1 := .str "p2sh") (d2 := .str "p2sh") (by k_inst) (ev_str _ _ _) (cmp_eqS _ _)).cast (by decide)) (fun _ => ?_) fun q => by cases q)
    have h4 := pk_le b (some 2) (some 22)
    have h4' : (KBy.picked b (some 2) (some 22)).size ≤ 70 := Nat.le_trans h4 hb
    exact xs_cons (xt_assign (d := .bytes (#[y] ++ pk b (some 2) (some 22))) (ev_bin (d1 := .bytes #[y]) (d2 := .bytes (pk b (some 2) (some 22))) (ev_item (d1 := .cst (.ref a)) (d2 := .str "p2sh") (by k_inst) (ev_str _ _ _) (N _).sh) (ev_slice (d1 := .bytes b) (by k_inst) (.some (ev_int 2 _ _)) (.some (ev_int 22 _ _)) .none (sl_bytes hz2)) (op_addB (by show 1 + (KBy.picked b (some 2) (some 22)).size ≤ _; omega))))
      (xs_stop (xt_ret (ev_call (ev_gl gl_encode_check rfl) (evs1 (d := .bytes (#[y] ++ pk b (some 2) (some 22))) (by k_inst)) kp_130 (by exact ec_cal (by show 8 ≤ C.n - 1; omega) (by exact hh) (by rw [Array.size_append]; show 1 + (KBy.picked b (some 2) (some 22)).size ≤ _; omega)))))
  rw [if_neg h2] at hk ⊢
  have key : ∃ v0 v : Nat, at' b 0 = v0 ∧ 2 ≤ b.size ∧ b.size ≤ 40 ∧ (v0 = 0 ∧ v = 0 ∨ v0 = 81 ∧ v = 1) ∧ (k == "p2pkh") = false ∧ (k == "p2sh") = false ∧ ((("p2wpkh" : Str) == k) || ((("p2wsh" : Str) == k) || (("p2tr" : Str) == k))) = true ∧
      (if T3 b then be h 0 (bnat (pk b (some 2) none)) else if T4 b then be h 0 (bnat (pk b (some 2) none)) else if T5 b then be h 1 (bnat (pk b (some 2) none)) else none) = be h v (bnat (pk b (some 2) none)) := by
    by_cases h3 : T3 b = true
    · rw [if_pos h3] at hk ⊢
      cases hk
      obtain ⟨a1, a2, a3⟩ := (T3_iff b).mp h3
      exact ⟨0, 0, a2, by omega, by omega, .inl ⟨rfl, rfl⟩, by decide, by decide, by decide, rfl⟩
    rw [if_neg h3] at hk ⊢
    by_cases h4 : T4 b = true
    · rw [if_pos h4] at hk ⊢
      cases hk
      obtain ⟨a1, a2, a3⟩ := (T4_iff b).mp h4
      exact ⟨0, 0, a2, by omega, by omega, .inl ⟨rfl, rfl⟩, by decide, by decide, by decide, rfl⟩
    rw [if_neg h4] at hk ⊢
    by_cases h5 : T5 b = true
    · rw [if_pos h5] at hk ⊢
      cases hk
      obtain ⟨a1, a2, a3⟩ := (T5_iff b).mp h5
      exact ⟨81, 1, a2, by omega, by omega, .inr ⟨rfl, rfl⟩, by decide, by decide, by decide, rfl⟩
    rw [if_neg h5] at hk
    cases hk
  obtain ⟨v0, v, hv0, hs2, hs40, hv, e1, e2, e3, e4⟩ := key
  rw [e4]
  have hp4 := pk_le b (some 2) none
  refine xs_iff ((ts_cmp (d1 := .str k) (d2 := .str "p2pkh") (by k_inst) (ev_str _ _ _) (cmp_eqS _ _)).cast e1) ?_
  refine xs_iff ((ts_cmp (d1 := .str k) (d2 := .str "p2sh") (by k_inst) (ev_str _ _ _) (cmp_eqS _ _)).cast e2) ?_
  refine xs_stop (xt_if (b := true) ((ts_cmp (d1 := .str k) (d2 := .list [.str "p2wpkh", .str "p2wsh", .str "p2tr"]) (by k_inst) (ev_listD (evs3 (ev_str _ _ _) (ev_str _ _ _) (ev_str _ _ _)) (by simp)) (cmp_inL (Dat.isS k) ?_ ?_)).cast ?_) (fun _ => ?_) fun q => by cases q)
  · intro z hz
    simp only [List.mem_cons, List.not_mem_nil, or_false] at hz
    rcases hz with rfl | rfl | rfl <;> exact .str _ _
  · show 1 ≤ C.n - 1
    omega
  · simpa [Dat.isS] using e3
  refine xs_cons (xt_assign (d := dn v0) (hv0 ▸ ev_item (d1 := .bytes b) (d2 := dn 0) (by k_inst) (by k_inst) (it_byteN (by omega) (by omega)))) ?_
  refine xs_ifup (b := decide (v0 > 0)) (x := "ver") (d := dn v) (ts_cmp (d1 := dn v0) (d2 := dn 0) (by k_inst) (by k_inst) (cmp_gtN _ _)) (fun q => ?_) (fun q => ?_) ?_
  · rcases hv with ⟨rfl, rfl⟩ | ⟨rfl, rfl⟩
    · cases q
    · exact xs_cons (xt_assign (d := dn 1) (ev_bin (d1 := dn 81) (d2 := dn 80) (by k_inst) (by k_inst) (op_modN _ (by decide)))) xs_nil
  · rcases hv with ⟨rfl, rfl⟩ | ⟨rfl, rfl⟩
    · k_mem
    · cases q
  exact xs_stop (xt_ret (ev_call (ev_gl gl_encode_bech32 rfl) (evs3 (d := .str (mk h)) (d' := dn v) (d'' := .bytes (pk b (some 2) none)) (ev_item (d1 := .cst (.ref a)) (d2 := .str "bech32") (by k_inst) (ev_str _ _ _) (N _).br) (by k_inst) (ev_slice (d1 := .bytes b) (by k_inst) (.some (ev_int 2 _ _)) .none .none (sl_bytes hz2))) kp_207 (by exact be_bytes (by show 6 ≤ C.n - 1; omega) (by exact hh) ha hl (by omega) (by omega))))
theorem ad_cal {C : Cx} (hn : 9 ≤ C.n) (hh : C.A.handled = none) {a : Addr} {x y : UInt8} {h : List Nat} (N : NetA a x y h) (ha : ∀ c ∈ h, c < 128) (hl : h.length ≤ 100) {b : Array UInt8} (hb : b.size ≤ 70) {k : Str} (hk : kind b = some k) :
    Cal C (.ref 893) [.inst 965 b, .cst (.ref a)] (optStr (la x y h b)) := by
  refine cal_fn (xs := []) (es := []) (by omega) rfl rfl ["self", "network"] (fun _ _ => .nil) ?_ (by decide) (by decide) ?_
  · intro s vs X h
    obtain ⟨a, b, rfl⟩ := len2 h
    exact .of_defaults rfl (X 886 _ rfl) rfl rfl rfl
  · intro h₀ L
    obtain ⟨q, sc, cd, bd, oc, od, osl, nm, pr, dV, kV, doc, pm, an, ct, hlook, hx⟩ := ad_body hn hh N ha hl hb hk h₀ L
    cases hlook
    exact hx
theorem ad_cal0 {C : Cx} (hn : 9 ≤ C.n) (hh : C.A.handled = none) {b : Array UInt8} (hb : b.size ≤ 70) {k : Str} (hk : kind b = some k) :
    Cal C (.ref 893) [.inst 965 b] (optStr (la 0 5 (codes "bc") b)) := by
  refine cal_fn (xs := [.ref 23]) (es := [.cst (.ref 23)]) (by omega) rfl rfl ["self", "network"] (fun _ _ => .cons (.cst _) .nil) ?_ (by decide) (by decide) ?_
  · intro s vs X h
    obtain ⟨a, rfl⟩ := len1 h
    exact .of_defaults rfl (X 886 _ rfl) rfl rfl rfl
  · intro h₀ L
    obtain ⟨q, sc, cd, bd, oc, od, osl, nm, pr, dV, kV, doc, pm, an, ct, hlook, hx⟩ := ad_body hn hh (a := 23) (fun C => net23) (by decide) (by decide) hb hk h₀ L
    cases hlook
    exact hx
theorem adX {C : Cx} (hn : 9 ≤ C.n) (hh : C.A.handled = none) {a : Addr} {b : Array UInt8} (hb : b.size ≤ 70) (hk : kind b = none) :
    CalX C (.ref 893) [.inst 965 b, .cst (.ref a)] (.type "ValueError") true := by
  refine calX_fn (ρ := []) (xs := []) (es := []) (by omega) rfl rfl ["self", "network"] (fun _ _ => .nil) ?_ (by decide) (by decide) ?_
  · intro s vs X h
    obtain ⟨a, b, rfl⟩ := len2 h
    exact .of_defaults rfl (X 886 _ rfl) rfl rfl rfl
  · intro h₀ L
    refine xs_cons (xt_assign (d := .none) ?_) (xs_cons (xt_assign (d := .bytes b) (ev_data (c := 965) (b := b) (by k_inst) (ga965 _) fun hh tk t => rfl)) ?_)
    · rw [show Dat.none = optS (kind b) by rw [hk]; rfl]
      exact ev_instM (c := 965) (b := b) (by k_inst) .nil (ga965 _) (gt965 _) (st965 _) (ty907 _) (fun hh tk t => rfl) kp_907 (by exact st_cal (by show 1 ≤ C.n - 1; omega) (by omega))
    exact xs_stop (xt_if (b := true) ((ts_cmp (d1 := .none) (by k_inst) (ev_none _ _) (cmp_isN rfl)).cast rfl) (fun _ => xs_stop (xt_raise (by exact hh) (ev_bi bi_ValueError rfl) (ev_str _ _ _) (fun p hp => by cases hp))) fun q => by cases q)
end Mine
end
section
set_option maxRecDepth 100000
set_option maxHeartbeats 4000000
set_option linter.unusedVariables false
namespace Mine
open PySem PySem.W PyProof.Rows PySem.Calls PySem.Spec
-- MAC
local macro_rules | `(tactic| k_mem) => `(tactic| first | (with_reducible exact mem_self) | (with_reducible exact List.Mem.head _) | ((with_reducible refine mem_other ?_ ?_); (focus decide); k_mem) | ((with_reducible refine List.Mem.tail _ ?_); k_mem))
local macro_rules | `(tactic| k_inst) => `(tactic| first
  | ((with_reducible refine ev_name ?_ ?_ ?_); (focus k_mem); (focus decide); decide)
  | ((with_reducible refine ev_nat ?_); rfl)
  | (with_reducible refine ev_bin (op := .BitXor) ?_ ?_ (op_xorN _ _)) | (with_reducible refine ev_bin (op := .BitAnd) ?_ ?_ (op_andN _ _)) | (with_reducible refine ev_bin (op := .RShift) ?_ ?_ (op_shrN _ _))
  | (with_reducible refine ev_bin (op := .LShift) ?_ ?_ (op_shlN ?_)) | (with_reducible refine ev_bin (op := .Add) ?_ ?_ (op_addN _ _)) | (with_reducible refine ev_bin (op := .Mod) ?_ ?_ (op_modN _ ?_))
  | ((with_reducible refine evs_cons ?_ ?_ ?h3); (case h3 => rfl)) | (with_reducible exact evs_nil))
-- CAM
theorem T1_size {b : Array UInt8} (h : T1 b = true) : b.size = 25 := by
  unfold T1 at h
  rw [Bool.and_eq_true] at h
  simpa using h.1
theorem T2_size {b : Array UInt8} (h : T2 b = true) : b.size = 23 := by
  unfold T2 at h
  rw [Bool.and_eq_true] at h
  simpa using h.1
theorem lad_cal {C : Cx} (hn : 9 ≤ C.n) (hh : C.A.handled = none) {a : Addr} {x y : UInt8} {h : List Nat} (N : NetA a x y h) (ha : ∀ c ∈ h, c < 128) (hl : h.length ≤ 100) {b : Array UInt8} (hb : b.size ≤ 70) :
    Cal C (.ref 988) [.bytes b, .cst (.ref a)] (optStr (la x y h b)) := by
  refine cal_fn (xs := []) (es := []) (by omega) rfl rfl ["octets", "network"] (fun _ _ => .nil) ?_ (by decide) (by decide) ?_
  · intro s vs X h
    obtain ⟨a, b, rfl⟩ := len2 h
    exact .of_eq rfl
  · intro h₀ L
    have hz : b.size ≤ 16777216 := by omega
    have hz2 : b.size ≤ sizeLine := by rw [sizeLine_eq]; omega
    refine xs_cons (xt_assign (d := optS (kind b)) (ev_call (ev_gl gl_law_kind rfl) (evs1 (d := .bytes b) (by k_inst)) kp_981 (by exact lk_cal (by show 2 ≤ C.n - 1; omega) (by omega)))) ?_
    cases hk : kind b with
    | none =>
      have e : la x y h b = none := by
        unfold kind at hk
        unfold la
        by_cases h1 : T1 b = true
        · rw [if_pos h1] at hk; cases hk
        rw [if_neg h1] at hk ⊢
        by_cases h2 : T2 b = true
        · rw [if_pos h2] at hk; cases hk
        rw [if_neg h2] at hk ⊢
        by_cases h3 : T3 b = true
        · rw [if_pos h3] at hk; cases hk
        rw [if_neg h3] at hk ⊢
        by_cases h4 : T4 b = true
        · rw [if_pos h4] at hk; cases hk
        rw [if_neg h4] at hk ⊢
        by_cases h5 : T5 b = true
        · rw [if_pos h5] at hk; cases hk
        rw [if_neg h5]
      rw [e]
      exact xs_stop (xt_if (b := true) ((ts_cmp (d1 := .none) (by k_inst) (ev_none _ _) (cmp_isN rfl)).cast rfl) (fun _ => xs_stop (xt_ret (ev_none _ _))) fun q => by cases q)
    | some k =>
    show Xs _ (upd _ "kind" (.str k)) _ _
    refine xs_iff ((ts_cmp (d1 := .str k) (by k_inst) (ev_none _ _) (cmp_isN rfl)).cast rfl) ?_
    have hlen : ∀ {C' : Cx} {ρ : List (Str × Dat)} {p1 p2 p3 : Pos}, (("octets", .bytes b) : Str × Dat) ∈ ρ → C'.env.kindOf "len" = some .globalImplicit → (eval (.Call (.Name "len" p1) [.Name "octets" p2] [] p3) C'.env = (do callWith p3 (← eval (.Name "len" p1) C'.env) [] (backTo p3 (starEach [.Name "octets" p2] C'.env)) (backToKw p3 (keywordEach [] C'.env)))) → Ev C' ρ (.Call (.Name "len" p1) [.Name "octets" p2] [] p3) (dn b.size) := fun hm hk hf =>
      ev_call (ev_bi bi_len hk) (evs1 (d := .bytes b) (ev_name hm)) (kp_builtin _) (cal_lenB hz) hf
    have inT : ∀ {C' : Cx}, 1 ≤ C'.n → Cmp C' .In (.str k) (.tup [.str "p2pkh", .str "p2sh"]) ((("p2pkh" : Str) == k) || (("p2sh" : Str) == k)) := fun hn' => (cmp_inT (Dat.isS k) (fun z hz => by
      simp only [List.mem_cons, List.not_mem_nil, or_false] at hz
      rcases hz with rfl | rfl <;> exact .str _ _) hn').cast (by simp [Dat.isS])
    unfold kind at hk
    unfold la
    by_cases h1 : T1 b = true
    · rw [if_pos h1] at hk ⊢
      cases hk
      have hs := T1_size h1
      have h4' : (KBy.picked b (some 3) (some 23)).size ≤ 70 := Nat.le_trans (pk_le b (some 3) (some 23)) hb
      refine xs_stop (xt_if (b := true) ((ts_cmp (d1 := .str "p2pkh") (d2 := .tup [.str "p2pkh", .str "p2sh"]) (by k_inst) (ev_tupD (evs2 (ev_str _ _ _) (ev_str _ _ _)) (by simp)) (inT (by show 1 ≤ C.n - 1; omega))).cast (by decide)) (fun _ => ?_) fun q => by cases q)
      refine xs_stop (xt_ret (ev_call (ev_gl gl_encode_check rfl) (evs1 (d := .bytes (#[x] ++ pk b (some 3) (some 23))) (ev_bin (d1 := .bytes #[x]) (d2 := .bytes (pk b (some 3) (some 23))) (ev_item (d1 := .cst (.ref a)) (d2 := .str "p2pkh") (by k_inst) (by k_inst) (N _).pkh) (ev_slice (d1 := .bytes b) (i := some ((3 : Nat) : Int)) (j := some ((23 : Nat) : Int)) (by k_inst) (.some ?_) (.some ?_) .none (sl_bytes hz2)) (op_addB (by show 1 + (KBy.picked b (some 3) (some 23)).size ≤ _; omega)))) kp_130 (by exact ec_cal (by show 8 ≤ C.n - 1; omega) (by exact hh) (by rw [Array.size_append]; show 1 + (KBy.picked b (some 3) (some 23)).size ≤ _; omega))))
      · refine ev_if (c := true) ((ts_cmp (d1 := .str "p2pkh") (d2 := .str "p2pkh") (by k_inst) (ev_str _ _ _) (cmp_eqS _ _)).cast (by decide)) (fun _ => ?_) fun q => by cases q
        exact (ev_bin (d1 := dn b.size) (d2 := dn 22) (hlen (by k_mem) rfl rfl) (by k_inst) (op_subN (by omega))).cast (by rw [hs])
      · refine (ev_bin (d1 := dn b.size) (d2 := dn 2) (hlen (by k_mem) rfl rfl) ?_ (op_subN (by omega))).cast (by rw [hs])
        exact ev_if (c := true) ((ts_cmp (d1 := .str "p2pkh") (d2 := .str "p2pkh") (by k_inst) (ev_str _ _ _) (cmp_eqS _ _)).cast (by decide)) (fun _ => by k_inst) fun q => by cases q
    rw [if_neg h1] at hk ⊢
    by_cases h2 : T2 b = true
    · rw [if_pos h2] at hk ⊢
      cases hk
      have hs := T2_size h2
      have h4' : (KBy.picked b (some 2) (some 22)).size ≤ 70 := Nat.le_trans (pk_le b (some 2) (some 22)) hb
      refine xs_stop (xt_if (b := true) ((ts_cmp (d1 := .str "p2sh") (d2 := .tup [.str "p2pkh", .str "p2sh"]) (by k_inst) (ev_tupD (evs2 (ev_str _ _ _) (ev_str _ _ _)) (by simp)) (inT (by show 1 ≤ C.n - 1; omega))).cast (by decide)) (fun _ => ?_) fun q => by cases q)
      refine xs_stop (xt_ret (ev_call (ev_gl gl_encode_check rfl) (evs1 (d := .bytes (#[y] ++ pk b (some 2) (some 22))) (ev_bin (d1 := .bytes #[y]) (d2 := .bytes (pk b (some 2) (some 22))) (ev_item (d1 := .cst (.ref a)) (d2 := .str "p2sh") (by k_inst) (by k_inst) (N _).sh) (ev_slice (d1 := .bytes b) (i := some ((2 : Nat) : Int)) (j := some ((22 : Nat) : Int)) (by k_inst) (.some ?_) (.some ?_) .none (sl_bytes hz2)) (op_addB (by show 1 + (KBy.picked b (some 2) (some 22)).size ≤ _; omega)))) kp_130 (by exact ec_cal (by show 8 ≤ C.n - 1; omega) (by exact hh) (by rw [Array.size_append]; show 1 + (KBy.picked b (some 2) (some 22)).size ≤ _; omega))))
      · exact ev_if (c := false) ((ts_cmp (d1 := .str "p2sh") (d2 := .str "p2pkh") (by k_inst) (ev_str _ _ _) (cmp_eqS _ _)).cast (by decide)) (fun q => by cases q) fun _ => by k_inst
      · refine (ev_bin (d1 := dn b.size) (d2 := dn 1) (hlen (by k_mem) rfl rfl) ?_ (op_subN (by omega))).cast (by rw [hs])
        exact ev_if (c := false) ((ts_cmp (d1 := .str "p2sh") (d2 := .str "p2pkh") (by k_inst) (ev_str _ _ _) (cmp_eqS _ _)).cast (by decide)) (fun q => by cases q) fun _ => by k_inst
    rw [if_neg h2] at hk ⊢
    have key : ∃ v : Nat, v ≤ 1 ∧ b.size ≤ 40 ∧ ((("p2pkh" : Str) == k) || (("p2sh" : Str) == k)) = false ∧ (k == "p2tr") = (v == 1) ∧
        (if T3 b then be h 0 (bnat (pk b (some 2) none)) else if T4 b then be h 0 (bnat (pk b (some 2) none)) else if T5 b then be h 1 (bnat (pk b (some 2) none)) else none) = be h v (bnat (pk b (some 2) none)) := by
      by_cases h3 : T3 b = true
      · rw [if_pos h3] at hk ⊢
        cases hk
        obtain ⟨a1, a2, a3⟩ := (T3_iff b).mp h3
        exact ⟨0, by decide, by omega, by decide, by decide, rfl⟩
      rw [if_neg h3] at hk ⊢
      by_cases h4 : T4 b = true
      · rw [if_pos h4] at hk ⊢
        cases hk
        obtain ⟨a1, a2, a3⟩ := (T4_iff b).mp h4
        exact ⟨0, by decide, by omega, by decide, by decide, rfl⟩
      rw [if_neg h4] at hk ⊢
      by_cases h5 : T5 b = true
      · rw [if_pos h5] at hk ⊢
        cases hk
        obtain ⟨a1, a2, a3⟩ := (T5_iff b).mp h5
        exact ⟨1, by decide, by omega, by decide, by decide, rfl⟩
      rw [if_neg h5] at hk
      cases hk
    obtain ⟨v, hv, hs40, e1, e2, e4⟩ := key
    rw [e4]
    have hp4 := pk_le b (some 2) none
    refine xs_iff ((ts_cmp (d1 := .str k) (d2 := .tup [.str "p2pkh", .str "p2sh"]) (by k_inst) (ev_tupD (evs2 (ev_str _ _ _) (ev_str _ _ _)) (by simp)) (inT (by show 1 ≤ C.n - 1; omega))).cast e1) ?_
    refine xs_stop (xt_ret (ev_call (ev_gl gl_encode_bech32 rfl) (evs3 (d := .str (mk h)) (d' := dn v) (d'' := nl (bnat (pk b (some 2) none))) (ev_item (d1 := .cst (.ref a)) (d2 := .str "bech32") (by k_inst) (ev_str _ _ _) (N _).br) ?_ (ev_call (ev_bi bi_list rfl) (evs1 (d := .bytes (pk b (some 2) none)) (ev_slice (d1 := .bytes b) (by k_inst) (.some (ev_int 2 _ _)) .none .none (sl_bytes hz2))) (kp_type _) (cal_listB (by exact hh) (by omega)))) kp_207 (by exact be_list (by show 6 ≤ C.n - 1; omega) ha hl (by omega) (by rw [bnat_len]; omega) (fun c hc => bnat_lt _ c hc))))
    refine ev_if (c := v == 1) ((ts_cmp (d1 := .str k) (d2 := .str "p2tr") (by k_inst) (ev_str _ _ _) (cmp_eqS _ _)).cast e2) (fun q => ?_) fun q => ?_
    · have : v = 1 := by simpa using q
      subst this; k_inst
    · have : v = 0 := by have : v ≠ 1 := by simpa using q
                         omega
      subst this; k_inst
end Mine
end
section
set_option maxRecDepth 100000
set_option maxHeartbeats 4000000
set_option linter.unusedVariables false
namespace Mine
open PySem PySem.W PyProof.Rows PySem.Calls PySem.Spec
-- MAC
local macro_rules | `(tactic| k_mem) => `(tactic| first | (with_reducible exact mem_self) | (with_reducible exact List.Mem.head _) | ((with_reducible refine mem_other ?_ ?_); (focus decide); k_mem) | ((with_reducible refine List.Mem.tail _ ?_); k_mem))
local macro_rules | `(tactic| k_inst) => `(tactic| first
  | ((with_reducible refine ev_name ?_ ?_ ?_); (focus k_mem); (focus decide); decide)
  | ((with_reducible refine ev_nat ?_); rfl)
  | (with_reducible refine ev_bin (op := .BitXor) ?_ ?_ (op_xorN _ _)) | (with_reducible refine ev_bin (op := .BitAnd) ?_ ?_ (op_andN _ _)) | (with_reducible refine ev_bin (op := .RShift) ?_ ?_ (op_shrN _ _))
  | (with_reducible refine ev_bin (op := .LShift) ?_ ?_ (op_shlN ?_)) | (with_reducible refine ev_bin (op := .Add) ?_ ?_ (op_addN _ _)) | (with_reducible refine ev_bin (op := .Mod) ?_ ?_ (op_modN _ ?_))
  | ((with_reducible refine evs_cons ?_ ?_ ?h3); (case h3 => rfl)) | (with_reducible exact evs_nil))
-- CAM
def hrpOf (l : List Nat) : List Nat := l.takeWhile (· != 49)
theorem hrpOf_len (l : List Nat) : (hrpOf l).length ≤ l.length := (List.takeWhile_sublist _).length_le
theorem hrpOf_ascii {l : List Nat} (h : ∀ c ∈ l, c < 128) : ∀ c ∈ hrpOf l, c < 128 := fun c hc => h c ((List.takeWhile_sublist _).subset hc)
theorem ev_hrp {C : Cx} {ρ : List (Str × Dat)} {e : Expr} {p2 p3 p4 p5 apos : Pos} {k1 k2 : Nat} {l : List Nat} (h : Ev C ρ e (.str (mk l))) (hl : l.length ≤ 1000)
    (hline : (apos.endLine == p3.line) = true := by rfl) (hbase : attributeBase e "split" C.env (eval e C.env) = eval e C.env := by rfl) :
    Ev C ρ (.Subscript (.Call (.Attribute e "split" apos) [.Constant (.str "1") k1 p2] [] p3) (.Constant (.int 0) k2 p4) p5) (.str (mk (hrpOf l))) := by
  obtain ⟨r, hr⟩ := txt_split (l := l) (c := 49) (by decide)
  have hx : (mk l).length ≤ 1000 := by rw [mk_len]; exact hl
  have hn : (Builtin.Str.partsBetween (mk l) (Builtin.Str.occurrences (mk l) (mk [49]) 0 (mk l).length ((mk l).length + 1)) (mk [49]).length).length ≤ 1002 := by
    rw [len_partsBetween]
    have := PySem.StrLaws.occ_length_le (mk l) (mk [49]) 0 (mk l).length ((mk l).length + 1)
    omega
  refine ev_item (d1 := .list ((Txt.split (mk l) (mk [49])).map .str)) (d2 := .int 0) (ev_meth (d1 := .str (mk l)) (ds := [.str (mk [49])]) h (evs1 ev_s1) (fun s v r => typeS v r) F.plainAttrs_str F.slot_str_split F.type_str_split (cal_split (by rfl) (by rw [sizeLine_eq]; omega) (by rw [sizeLine_eq]; omega)) hline hbase (by show (1:Nat) < 25; decide)) (ev_int 0 _ _) (it_list (by decide) ?_ ?_)
  · rw [List.length_map]
    have e : (Txt.split (mk l) (mk [49])).length ≤ 1002 := by
      unfold Txt.split
      split
      · simp
      · split
        · simp
        · exact hn
    omega
  · rw [hr]; rfl
def Dat.isB (b : Array UInt8) : Dat → Bool
  | .bytes x => x == b
  | _ => false
theorem inB {C : Cx} (hn : 1 ≤ C.n) (b x y : Array UInt8) : Cmp C .In (.bytes b) (.tup [.bytes x, .bytes y]) ((x == b) || (y == b)) := (cmp_inT (Dat.isB b) (fun z hz => by
  simp only [List.mem_cons, List.not_mem_nil, or_false] at hz
  rcases hz with rfl | rfl <;> exact .bytes _ _) hn).cast (by simp [Dat.isB])
def P0 (o : Array UInt8) : Bool := (#[0] == pk o none (some 1)) || (#[111] == pk o none (some 1))
def P5 (o : Array UInt8) : Bool := (#[5] == pk o none (some 1)) || (#[196] == pk o none (some 1))
/-- what is read: refused, nothing, or a script -/
def asB (l : List Nat) : Option (Option (Array UInt8)) := match dc l with
  | some o => if P0 o then some (some (#[118, 169, 20] ++ pk o (some 1) none ++ #[136, 172])) else if P5 o then some (some (#[169, 20] ++ pk o (some 1) none ++ #[135])) else some none
  | none => match bd (hrpOf l) l with
    | none => none
    | some (v, p) => if ((v == 0) && (p.length == 20 || p.length == 32)) then some (some (bts (0 :: p.length :: p))) else if ((v == 1) && (p.length == 32)) then some (some (bts (81 :: 32 :: p))) else none
def rdOf : Option (Option (Array UInt8)) → Dat
  | none => .str "refused"
  | some none => .none
  | some (some b) => .bytes b
theorem bd_bytes {h l : List Nat} {v : Nat} {p : List Nat} (e : bd h l = some (v, p)) : (∀ c ∈ p, c < 256) ∧ p.length ≤ 40 := by
  unfold bd at e
  split at e
  · cases e
  · rename_i e' h' d hb
    split at e
    · split at e
      · cases e
      · rename_i dec hc
        split at e
        · cases e
        · rename_i hck
          cases e
          refine ⟨fun c hm => ?_, ?_⟩
          · unfold cv cvEnd at hc
            rw [if_neg Bool.false_ne_true] at hc
            split at hc
            · cases hc
            · cases hc
              have := cvAll_lt 5 8 _ (d.drop 1) rfl c hm
              have h255 : (1 <<< 8 - 1 : Nat) = 255 := by decide
              omega
          · have : ¬ (decide (p.length > 40)) = true := fun q => hck (by
              unfold bdCheck
              rw [q]
              simp)
            simpa using this
    · cases e
def asO (o : Array UInt8) : Option (Option (Array UInt8)) := if P0 o then some (some (#[118, 169, 20] ++ pk o (some 1) none ++ #[136, 172])) else if P5 o then some (some (#[169, 20] ++ pk o (some 1) none ++ #[135])) else some none
def asP (v : Nat) (p : List Nat) : Option (Option (Array UInt8)) := if ((v == 0) && (p.length == 20 || p.length == 32)) then some (some (bts (0 :: p.length :: p))) else if ((v == 1) && (p.length == 32)) then some (some (bts (81 :: 32 :: p))) else none
theorem asB_eq (l : List Nat) : asB l = match dc l with | some o => asO o | none => match bd (hrpOf l) l with | none => none | some (v, p) => asP v p := rfl
theorem exc_VE : isSubtype (.type "ValueError") (.type "BaseException") = pure true := by rw [isSubtype_type]; kernel_rfl
theorem exc_VV : isSubtype (.type "ValueError") (.type "ValueError") = pure true := by rw [isSubtype_type]; kernel_rfl
theorem exc_EB : isSubtype (.type "Exception") (.type "BaseException") = pure true := by rw [isSubtype_type]; kernel_rfl
theorem exc_VX : isSubtype (.type "ValueError") (.type "Exception") = pure true := by rw [isSubtype_type]; kernel_rfl
theorem exc_nt1 : isSubtype (.type ((Manifest.find? "ValueError").elim "type" fun x => x.metatype)) (.type "tuple") = pure false := by rw [find?_eq_fast, isSubtype_type]; kernel_rfl
theorem exc_nt2 : isSubtype (.type ((Manifest.find? "Exception").elim "type" fun x => x.metatype)) (.type "tuple") = pure false := by rw [find?_eq_fast, isSubtype_type]; kernel_rfl
theorem rd_cal {C : Cx} (hn : 10 ≤ C.n) (hh : C.A.handled = none) {l : List Nat} (ha : ∀ c ∈ l, c < 128) (hl : l.length ≤ 300) : Cal C (.ref 995) [.str (mk l)] (rdOf (asB l)) := by
  refine cal_fn (xs := []) (es := []) (by omega) rfl rfl ["text"] (fun _ _ => .nil) ?_ (by decide) (by decide) ?_
  · intro s vs X h
    obtain ⟨a, rfl⟩ := len1 h
    exact .of_eq rfl
  · intro h₀ L
    rw [asB_eq]
    cases hd : dc l with
    | some o =>
      show Xs _ _ _ (.ret (rdOf (asO o)))
      unfold asO
      have ho : o.size ≤ 600 := by
        unfold dc at hd
        split at hd
        · cases hd
        · rename_i b hb
          have := b58d_size hb
          split at hd
          · cases hd
            have := pk_le b none (some (-4))
            omega
          · cases hd
      have hp1 : (KBy.picked o (some 1) none).size ≤ 600 := Nat.le_trans (pk_le o (some 1) none) ho
      have hz2 : o.size ≤ sizeLine := by rw [sizeLine_eq]; omega
      refine xs_cons (xt_try (O := .next (upd [("text", .str (mk l))] "octets" (.bytes o))) (xs_cons (xt_assign (d := .bytes o) (ev_call (ev_gl gl_decode_check rfl) (evs1 (d := .str (mk l)) (by k_inst)) kp_137 (by exact dc_cal (by show 9 ≤ C.n - 1; omega) (by exact hh) ha hl hd))) xs_nil) (fun _ _ => ⟨by simp, by simp⟩)) ?_
      refine xs_stop (xt_if (b := true) ((ts_cmp (d1 := .bytes o) (by k_inst) (ev_none _ _) (cmp_isNotN rfl)).cast rfl) (fun _ => ?_) fun q => by cases q)
      refine xs_ifr (b := P0 o) (ts_cmp (d1 := .bytes (pk o none (some 1))) (ev_slice (d1 := .bytes o) (by k_inst) .none (.some (ev_int 1 _ _)) .none (sl_bytes hz2)) (ev_tupD (evs2 (ev_bytes _ _ _) (ev_bytes _ _ _)) (by simp)) (inB (by show 1 ≤ C.n - 1; omega) _ _ _)) (fun q => ?_) fun q => ?_
      · rw [if_pos q]
        refine xs_stop (xt_ret (ev_bin (d1 := .bytes (#[118, 169, 20] ++ pk o (some 1) none)) (d2 := .bytes #[136, 172]) (ev_bin (d1 := .bytes #[118, 169, 20]) (d2 := .bytes (pk o (some 1) none)) (ev_bytes _ _ _) (ev_slice (d1 := .bytes o) (by k_inst) (.some (ev_int 1 _ _)) .none .none (sl_bytes hz2)) (op_addB ?_)) (ev_bytes _ _ _) (op_addB ?_)))
        · show 3 + (KBy.picked o (some 1) none).size ≤ _; omega
        · rw [Array.size_append]; show 3 + (KBy.picked o (some 1) none).size + 2 ≤ _; omega
      rw [if_neg (by rw [q]; exact Bool.false_ne_true)]
      refine xs_ifr (b := P5 o) (ts_cmp (d1 := .bytes (pk o none (some 1))) (ev_slice (d1 := .bytes o) (by k_inst) .none (.some (ev_int 1 _ _)) .none (sl_bytes hz2)) (ev_tupD (evs2 (ev_bytes _ _ _) (ev_bytes _ _ _)) (by simp)) (inB (by show 1 ≤ C.n - 1; omega) _ _ _)) (fun q => ?_) fun q => ?_
      · rw [if_pos q]
        refine xs_stop (xt_ret (ev_bin (d1 := .bytes (#[169, 20] ++ pk o (some 1) none)) (d2 := .bytes #[135]) (ev_bin (d1 := .bytes #[169, 20]) (d2 := .bytes (pk o (some 1) none)) (ev_bytes _ _ _) (ev_slice (d1 := .bytes o) (by k_inst) (.some (ev_int 1 _ _)) .none .none (sl_bytes hz2)) (op_addB ?_)) (ev_bytes _ _ _) (op_addB ?_)))
        · show 2 + (KBy.picked o (some 1) none).size ≤ _; omega
        · rw [Array.size_append]; show 2 + (KBy.picked o (some 1) none).size + 1 ≤ _; omega
      rw [if_neg (by rw [q]; exact Bool.false_ne_true)]
      exact xs_stop (xt_ret (ev_none _ _))
    | none =>
      show Xs _ _ _ (.ret (rdOf (match bd (hrpOf l) l with | none => none | some (v, p) => asP v p)))
      refine xs_cons (xt_catch (X := "ValueError") (T := "ValueError") (ρ1 := [("text", .str (mk l))]) (O := .next (upd [("text", .str (mk l))] "octets" .none)) (by exact hh) (by rfl) (xs_stop (xt_assignX (ev_callX (ev_gl gl_decode_check rfl) (evs1 (d := .str (mk l)) (by k_inst)) kp_137 (by exact dcX (by show 9 ≤ C.n - 1; omega) (by exact hh) ha hl hd)) (fun p hp => ⟨hp, by rw [List.mem_singleton.mp hp]; rfl⟩))) exc_VE exc_nt1 exc_VV (fun e => ev_bi bi_ValueError rfl) fun e => xs_cons (xt_assign (d := .none) (ev_none _ _)) xs_nil) ?_
      refine xs_iff ((ts_cmp (d1 := .none) (by k_inst) (ev_none _ _) (cmp_isNotN rfl)).cast rfl) ?_
      refine xs_cons (xt_unpack (xs := [("version", _), ("program", _)]) (ds := match bd (hrpOf l) l with | none => [.none, .none] | some (v, p) => [dn v, nl p]) ?_ ?_ ?_ (by intro x hx; simp only [List.mem_cons, List.not_mem_nil, or_false] at hx; rcases hx with rfl | rfl <;> rfl) rfl rfl) ?_
      · have : Dat.tup (match bd (hrpOf l) l with | none => [.none, .none] | some (v, p) => [dn v, nl p]) = bdDat (bd (hrpOf l) l) := by cases bd (hrpOf l) l <;> rfl
        rw [this]
        exact ev_call (ev_gl gl_decode_bech32 rfl) (evs2 (d := .str (mk (hrpOf l))) (d' := .str (mk l)) (ev_hrp (by k_inst) (by omega)) (by k_inst)) kp_200 (by exact bd_cal (show 5 ≤ C.n - 1 by omega) ha (by omega))
      · cases bd (hrpOf l) l <;> rfl
      · intro d hd
        cases hb : bd (hrpOf l) l with
        | none => rw [hb] at hd; simp only [List.mem_cons, List.not_mem_nil, or_false, or_self] at hd; subst hd; exact .inl rfl
        | some x =>
          rw [hb] at hd
          simp only [List.mem_cons, List.not_mem_nil, or_false] at hd
          rcases hd with rfl | rfl
          · exact .inl rfl
          · exact .inr ⟨_, rfl⟩
      cases hb : bd (hrpOf l) l with
      | none =>
        simp only [List.map_cons, List.map_nil, upds]
        refine xs_iff ((ts_bool (and_f ((ts_cmp (d1 := .none) (d2 := dn 0) (by k_inst) (by k_inst) (cmp_eqNI _)).cast rfl)))) ?_
        refine xs_iff ((ts_bool (and_f ((ts_cmp (d1 := .none) (d2 := dn 1) (by k_inst) (by k_inst) (cmp_eqNI _)).cast rfl)))) ?_
        exact xs_stop (xt_ret (ev_str _ _ _))
      | some x =>
        obtain ⟨v, p⟩ := x
        obtain ⟨hp, hpl⟩ := bd_bytes hb
        show Xs _ _ _ (.ret (rdOf (asP v p)))
        unfold asP
        simp only [List.map_cons, List.map_nil, upds]
        refine xs_ifr (b := (v == 0) && (p.length == 20 || p.length == 32)) ((ts_bool (and_cons (ts_cmp (d1 := dn v) (by k_inst) (by k_inst) (cmp_eqN _ 0)) fun _ => and_cons ((ts_cmp (d1 := dn p.length) (d2 := .tup [dn 20, dn 32]) (ev_lenL (l := p) (by k_inst) (by omega)) (ev_tupD (evs2 (by k_inst) (by k_inst)) (by simp)) (cmp_inT (Dat.isN p.length) ?_ ?_)).cast ?_) fun _ => and_nil)).cast (by rw [Bool.and_true])) (fun q => ?_) fun q => ?_
        · intro y hy
          simp only [List.mem_cons, List.not_mem_nil, or_false] at hy
          rcases hy with rfl | rfl <;> exact .int _ _
        · show 1 ≤ C.n - 1
          omega
        · rw [Bool.eq_iff_iff]
          simp [Dat.isN, dn]
          omega
        · rw [if_pos q]
          have q' : v = 0 ∧ (p.length = 20 ∨ p.length = 32) := by simpa using q
          refine xs_stop (xt_ret (ev_call (ev_bi bi_bytes rfl) (evs1 (d := nl (0 :: p.length :: p)) ?_) (kp_type _) (cal_bytesL (fun n hn => ?_) (by simp; omega))))
          · refine ev_bin (d1 := nl [0, p.length]) (d2 := nl p) (ev_listD (ds := [dn 0, dn p.length]) (evs2 (by k_inst) (ev_lenL (l := p) (by k_inst) (by omega))) (by simp)) (by k_inst) (op_addLm (xs := [0, p.length]) (ys := p) (g := dn) (by simp only [List.length_cons, List.length_nil, sizeLine_eq]; omega))
          · rcases List.mem_cons.mp hn with rfl | hn
            · decide
            rcases List.mem_cons.mp hn with rfl | hn
            · omega
            · exact hp n hn
        rw [if_neg (by rw [q]; exact Bool.false_ne_true)]
        refine xs_ifr (b := (v == 1) && (p.length == 32)) ((ts_bool (and_cons (ts_cmp (d1 := dn v) (by k_inst) (by k_inst) (cmp_eqN _ 1)) fun _ => and_cons (ts_cmp (d1 := dn p.length) (ev_lenL (l := p) (by k_inst) (by omega)) (by k_inst) (cmp_eqN _ 32)) fun _ => and_nil)).cast (by rw [Bool.and_true])) (fun q => ?_) fun q => ?_
        · rw [if_pos q]
          refine xs_stop (xt_ret (ev_call (ev_bi bi_bytes rfl) (evs1 (d := nl (81 :: 32 :: p)) ?_) (kp_type _) (cal_bytesL (fun n hn => ?_) (by simp; omega))))
          · refine ev_bin (d1 := nl [81, 32]) (d2 := nl p) (ev_listD (ds := [dn 81, dn 32]) (evs2 (by k_inst) (by k_inst)) (by simp)) (by k_inst) (op_addLm (xs := [81, 32]) (ys := p) (g := dn) (by simp only [List.length_cons, List.length_nil, sizeLine_eq]; omega))
          · rcases List.mem_cons.mp hn with rfl | hn
            · decide
            rcases List.mem_cons.mp hn with rfl | hn
            · decide
            · exact hp n hn
        rw [if_neg (by rw [q]; exact Bool.false_ne_true)]
        exact xs_stop (xt_ret (ev_str _ _ _))
end Mine
end
section
set_option maxRecDepth 100000
set_option maxHeartbeats 4000000
set_option linter.unusedVariables false
namespace Mine
open PySem PySem.W PyProof.Rows PySem.Calls PySem.Spec
-- MAC
local macro_rules | `(tactic| k_mem) => `(tactic| first | (with_reducible exact mem_self) | (with_reducible exact List.Mem.head _) | ((with_reducible refine mem_other ?_ ?_); (focus decide); k_mem) | ((with_reducible refine List.Mem.tail _ ?_); k_mem))
local macro_rules | `(tactic| k_inst) => `(tactic| first
  | ((with_reducible refine ev_name ?_ ?_ ?_); (focus k_mem); (focus decide); decide)
  | ((with_reducible refine ev_nat ?_); rfl)
  | (with_reducible refine ev_bin (op := .BitXor) ?_ ?_ (op_xorN _ _)) | (with_reducible refine ev_bin (op := .BitAnd) ?_ ?_ (op_andN _ _)) | (with_reducible refine ev_bin (op := .RShift) ?_ ?_ (op_shrN _ _))
  | (with_reducible refine ev_bin (op := .LShift) ?_ ?_ (op_shlN ?_)) | (with_reducible refine ev_bin (op := .Add) ?_ ?_ (op_addN _ _)) | (with_reducible refine ev_bin (op := .Mod) ?_ ?_ (op_modN _ ?_))
  | ((with_reducible refine evs_cons ?_ ?_ ?h3); (case h3 => rfl)) | (with_reducible exact evs_nil))
-- CAM
theorem kp_974 {C : Cx} : Kp C (.ref 974) := kp_K fun w => by kernel_rfl
theorem nets_get {i : Nat} {d : Dat} (h : (nets.map fun p => Dat.cst p.2)[i]? = some d) : ∃ a x y hrp, d = .cst (.ref a) ∧ NetA a x y hrp ∧ (i = 0 → x = 0 ∧ y = 5) ∧ (x = 0 ∧ y = 5 ∨ x = 111 ∧ y = 196) := by
  match i, h with
  | 0, h => cases h; exact ⟨23, 0, 5, _, rfl, fun C => net23, fun _ => ⟨rfl, rfl⟩, .inl ⟨rfl, rfl⟩⟩
  | 1, h => cases h; exact ⟨24, 111, 196, _, rfl, fun C => net24, fun q => (by cases q), .inr ⟨rfl, rfl⟩⟩
  | 2, h => cases h; exact ⟨25, 111, 196, _, rfl, fun C => net25, fun q => (by cases q), .inr ⟨rfl, rfl⟩⟩
  | 3, h => cases h; exact ⟨26, 111, 196, _, rfl, fun C => net26, fun q => (by cases q), .inr ⟨rfl, rfl⟩⟩
  | n + 4, h => cases h
theorem upd_sub {ρ : List (Str × Dat)} {x : Str} {d : Dat} (h : ∀ p ∈ ρ, (p.1 == x) = false) : ∀ p ∈ ρ, p ∈ upd ρ x d := fun p hp => List.mem_cons_of_mem _ (List.mem_filter.mpr ⟨hp, by rw [h p hp]; rfl⟩)
theorem dc_size {l : List Nat} {o : Array UInt8} (hd : dc l = some o) : o.size ≤ 2 * l.length := by
  unfold dc at hd
  split at hd
  · cases hd
  · rename_i b hb
    have := b58d_size hb
    split at hd
    · cases hd
      have := pk_le b none (some (-4))
      omega
    · cases hd
theorem a2s_ret {C : Cx} (hn : 10 ≤ C.n) (hh : C.A.handled = none) {l : List Nat} (ha : ∀ c ∈ l, c < 128) (hl : l.length ≤ 300) {b : Array UInt8} (hb : asB l = some (some b)) : Cal C (.ref 974) [.str (mk l)] (.inst 965 b) := by
  refine cal_fn (xs := []) (es := []) (by omega) rfl rfl ["addr"] (fun _ _ => .nil) ?_ (by decide) (by decide) ?_
  · intro s vs X h
    obtain ⟨a, rfl⟩ := len1 h
    exact .of_eq rfl
  · intro h₀ L
    rw [asB_eq] at hb
    cases hd : dc l with
    | some o =>
      rw [hd] at hb
      have hb : asO o = some (some b) := hb
      unfold asO at hb
      have ho : o.size ≤ 600 := by have := dc_size hd; omega
      have hp1 : (KBy.picked o (some 1) none).size ≤ 600 := Nat.le_trans (pk_le o (some 1) none) ho
      have hz2 : o.size ≤ sizeLine := by rw [sizeLine_eq]; omega
      refine xs_stop (xt_try (xs_cons (xt_assign (d := .bytes o) (ev_call (ev_gl gl_decode_check rfl) (evs1 (d := .str (mk l)) (by k_inst)) kp_137 (by exact dc_cal (by show 9 ≤ C.n - 1; omega) (by exact hh) ha hl hd))) (xs_cons (xt_assign (d := .bytes (pk o none (some 1))) (ev_slice (d1 := .bytes o) (by k_inst) .none (.some (ev_int 1 _ _)) .none (sl_bytes hz2))) ?_)) (fun _ _ => ⟨by simp, by simp⟩))
      have h0 : ∀ p ∈ [(("data", .bytes o) : Str × Dat), ("prefix", .bytes (pk o none (some 1)))], p ∈ upd (upd [(("addr", .str (mk l)) : Str × Dat)] "data" (.bytes o)) "prefix" (.bytes (pk o none (some 1))) := fun p hp => by
        simp only [List.mem_cons, List.not_mem_nil, or_false] at hp
        rcases hp with rfl | rfl <;> k_mem
      have hsub : ∀ d : Dat, ∀ p ∈ [(("data", .bytes o) : Str × Dat), ("prefix", .bytes (pk o none (some 1)))], p ∈ upd [(("data", .bytes o) : Str × Dat), ("prefix", .bytes (pk o none (some 1)))] "net" d := fun d => upd_sub fun p hp => by
        simp only [List.mem_cons, List.not_mem_nil, or_false] at hp
        rcases hp with rfl | rfl <;> rfl
      by_cases q0 : P0 o = true
      · rw [if_pos q0] at hb
        cases hb
        have hz3 : 3 + (KBy.picked o (some 1) none).size ≤ 16777216 := by omega
        have hz4 : (#[118, 169, 20] ++ KBy.picked o (some 1) none).size + 2 ≤ 16777216 := by rw [Array.size_append]; show 3 + (KBy.picked o (some 1) none).size + 2 ≤ _; omega
        have q0' : pk o none (some 1) = #[0] ∨ pk o none (some 1) = #[111] := by
          unfold P0 at q0
          rw [Bool.or_eq_true, beq_iff_eq, beq_iff_eq] at q0
          exact q0.elim (fun q => .inl q.symm) fun q => .inr q.symm
        rcases q0' with e | e
        · refine xs_stop (xt_for_out (fun _ => [(("data", .bytes o) : Str × Dat), ("prefix", .bytes (pk o none (some 1)))]) 0 (.cst (.ref 23)) rfl (evIt_nets (by exact hh)) h0 (fun fp i d hi => absurd hi (Nat.not_lt_zero i)) (fun fp => ?_) (.inl ⟨_, rfl⟩))
          refine xs_stop (xt_if (b := true) ((ts_cmp (d1 := .bytes (pk o none (some 1))) (d2 := .bytes #[0]) (by k_inst) (ev_item (d1 := .cst (.ref 23)) (d2 := .str "p2pkh") (by k_inst) (ev_str _ _ _) net23.pkh) (cmp_eqB _ _)).cast (by rw [e]; decide)) (fun _ => xs_stop (xt_ret (ev_call (ev_gl gl_Script rfl) (evs1 (d := .bytes (#[118, 169, 20] ++ pk o (some 1) none ++ #[136, 172])) (ev_bin (d1 := .bytes (#[118, 169, 20] ++ pk o (some 1) none)) (d2 := .bytes #[136, 172]) (ev_bin (d1 := .bytes #[118, 169, 20]) (d2 := .bytes (pk o (some 1) none)) (ev_bytes _ _ _) (ev_slice (d1 := .bytes o) (by k_inst) (.some (ev_int 1 _ _)) .none .none (sl_bytes hz2)) (op_addB hz3)) (ev_bytes _ _ _) (op_addB hz4))) kp_965 (by exact script_make (by show 5 ≤ C.n - 1; omega) _)))) fun q => by cases q)
        · refine xs_stop (xt_for_out (fun _ => [(("data", .bytes o) : Str × Dat), ("prefix", .bytes (pk o none (some 1)))]) 1 (.cst (.ref 24)) rfl (evIt_nets (by exact hh)) h0 (fun fp i d hi hd => ?_) (fun fp => ?_) (.inl ⟨_, rfl⟩))
          · obtain rfl : i = 0 := by omega
            cases hd
            exact xs_cons (xt_if (b := false) ((ts_cmp (d1 := .bytes (pk o none (some 1))) (d2 := .bytes #[0]) (by k_inst) (ev_item (d1 := .cst (.ref 23)) (d2 := .str "p2pkh") (by k_inst) (ev_str _ _ _) net23.pkh) (cmp_eqB _ _)).cast (by rw [e]; decide)) (fun q => by cases q) fun _ => xs_cons (xt_if (b := false) ((ts_cmp (d1 := .bytes (pk o none (some 1))) (d2 := .bytes #[5]) (by k_inst) (ev_item (d1 := .cst (.ref 23)) (d2 := .str "p2sh") (by k_inst) (ev_str _ _ _) net23.sh) (cmp_eqB _ _)).cast (by rw [e]; decide)) (fun q => by cases q) fun _ => xs_end (hsub _)) xs_nil) xs_nil
          refine xs_stop (xt_if (b := true) ((ts_cmp (d1 := .bytes (pk o none (some 1))) (d2 := .bytes #[111]) (by k_inst) (ev_item (d1 := .cst (.ref 24)) (d2 := .str "p2pkh") (by k_inst) (ev_str _ _ _) net24.pkh) (cmp_eqB _ _)).cast (by rw [e]; decide)) (fun _ => xs_stop (xt_ret (ev_call (ev_gl gl_Script rfl) (evs1 (d := .bytes (#[118, 169, 20] ++ pk o (some 1) none ++ #[136, 172])) (ev_bin (d1 := .bytes (#[118, 169, 20] ++ pk o (some 1) none)) (d2 := .bytes #[136, 172]) (ev_bin (d1 := .bytes #[118, 169, 20]) (d2 := .bytes (pk o (some 1) none)) (ev_bytes _ _ _) (ev_slice (d1 := .bytes o) (by k_inst) (.some (ev_int 1 _ _)) .none .none (sl_bytes hz2)) (op_addB hz3)) (ev_bytes _ _ _) (op_addB hz4))) kp_965 (by exact script_make (by show 5 ≤ C.n - 1; omega) _)))) fun q => by cases q)
      rw [if_neg q0] at hb
      by_cases q5 : P5 o = true
      · rw [if_pos q5] at hb
        cases hb
        have hz3 : 2 + (KBy.picked o (some 1) none).size ≤ 16777216 := by omega
        have hz4 : (#[169, 20] ++ KBy.picked o (some 1) none).size + 1 ≤ 16777216 := by rw [Array.size_append]; show 2 + (KBy.picked o (some 1) none).size + 1 ≤ _; omega
        have q5' : pk o none (some 1) = #[5] ∨ pk o none (some 1) = #[196] := by
          unfold P5 at q5
          rw [Bool.or_eq_true, beq_iff_eq, beq_iff_eq] at q5
          exact q5.elim (fun q => .inl q.symm) fun q => .inr q.symm
        rcases q5' with e | e
        · refine xs_stop (xt_for_out (fun _ => [(("data", .bytes o) : Str × Dat), ("prefix", .bytes (pk o none (some 1)))]) 0 (.cst (.ref 23)) rfl (evIt_nets (by exact hh)) h0 (fun fp i d hi => absurd hi (Nat.not_lt_zero i)) (fun fp => ?_) (.inl ⟨_, rfl⟩))
          refine xs_stop (xt_if (b := false) ((ts_cmp (d1 := .bytes (pk o none (some 1))) (d2 := .bytes #[0]) (by k_inst) (ev_item (d1 := .cst (.ref 23)) (d2 := .str "p2pkh") (by k_inst) (ev_str _ _ _) net23.pkh) (cmp_eqB _ _)).cast (by rw [e]; decide)) (fun q => by cases q) fun _ => ?_)
          refine xs_stop (xt_if (b := true) ((ts_cmp (d1 := .bytes (pk o none (some 1))) (d2 := .bytes #[5]) (by k_inst) (ev_item (d1 := .cst (.ref 23)) (d2 := .str "p2sh") (by k_inst) (ev_str _ _ _) net23.sh) (cmp_eqB _ _)).cast (by rw [e]; decide)) (fun _ => xs_stop (xt_ret (ev_call (ev_gl gl_Script rfl) (evs1 (d := .bytes (#[169, 20] ++ pk o (some 1) none ++ #[135])) (ev_bin (d1 := .bytes (#[169, 20] ++ pk o (some 1) none)) (d2 := .bytes #[135]) (ev_bin (d1 := .bytes #[169, 20]) (d2 := .bytes (pk o (some 1) none)) (ev_bytes _ _ _) (ev_slice (d1 := .bytes o) (by k_inst) (.some (ev_int 1 _ _)) .none .none (sl_bytes hz2)) (op_addB hz3)) (ev_bytes _ _ _) (op_addB hz4))) kp_965 (by exact script_make (by show 5 ≤ C.n - 1; omega) _)))) fun q => by cases q)
        · refine xs_stop (xt_for_out (fun _ => [(("data", .bytes o) : Str × Dat), ("prefix", .bytes (pk o none (some 1)))]) 1 (.cst (.ref 24)) rfl (evIt_nets (by exact hh)) h0 (fun fp i d hi hd => ?_) (fun fp => ?_) (.inl ⟨_, rfl⟩))
          · obtain rfl : i = 0 := by omega
            cases hd
            exact xs_cons (xt_if (b := false) ((ts_cmp (d1 := .bytes (pk o none (some 1))) (d2 := .bytes #[0]) (by k_inst) (ev_item (d1 := .cst (.ref 23)) (d2 := .str "p2pkh") (by k_inst) (ev_str _ _ _) net23.pkh) (cmp_eqB _ _)).cast (by rw [e]; decide)) (fun q => by cases q) fun _ => xs_cons (xt_if (b := false) ((ts_cmp (d1 := .bytes (pk o none (some 1))) (d2 := .bytes #[5]) (by k_inst) (ev_item (d1 := .cst (.ref 23)) (d2 := .str "p2sh") (by k_inst) (ev_str _ _ _) net23.sh) (cmp_eqB _ _)).cast (by rw [e]; decide)) (fun q => by cases q) fun _ => xs_end (hsub _)) xs_nil) xs_nil
          refine xs_stop (xt_if (b := false) ((ts_cmp (d1 := .bytes (pk o none (some 1))) (d2 := .bytes #[111]) (by k_inst) (ev_item (d1 := .cst (.ref 24)) (d2 := .str "p2pkh") (by k_inst) (ev_str _ _ _) net24.pkh) (cmp_eqB _ _)).cast (by rw [e]; decide)) (fun q => by cases q) fun _ => ?_)
          refine xs_stop (xt_if (b := true) ((ts_cmp (d1 := .bytes (pk o none (some 1))) (d2 := .bytes #[196]) (by k_inst) (ev_item (d1 := .cst (.ref 24)) (d2 := .str "p2sh") (by k_inst) (ev_str _ _ _) net24.sh) (cmp_eqB _ _)).cast (by rw [e]; decide)) (fun _ => xs_stop (xt_ret (ev_call (ev_gl gl_Script rfl) (evs1 (d := .bytes (#[169, 20] ++ pk o (some 1) none ++ #[135])) (ev_bin (d1 := .bytes (#[169, 20] ++ pk o (some 1) none)) (d2 := .bytes #[135]) (ev_bin (d1 := .bytes #[169, 20]) (d2 := .bytes (pk o (some 1) none)) (ev_bytes _ _ _) (ev_slice (d1 := .bytes o) (by k_inst) (.some (ev_int 1 _ _)) .none .none (sl_bytes hz2)) (op_addB hz3)) (ev_bytes _ _ _) (op_addB hz4))) kp_965 (by exact script_make (by show 5 ≤ C.n - 1; omega) _)))) fun q => by cases q)
      rw [if_neg q5] at hb
      cases hb
    | none =>
      rw [hd] at hb
      refine xs_stop (xt_catch (X := "ValueError") (T := "Exception") (ρ1 := [("addr", .str (mk l))]) (O := .ret (.inst 965 b)) (by exact hh) (by rfl) (xs_stop (xt_assignX (ev_callX (ev_gl gl_decode_check rfl) (evs1 (d := .str (mk l)) (by k_inst)) kp_137 (by exact dcX (by show 9 ≤ C.n - 1; omega) (by exact hh) ha hl hd)) (fun p hp => ⟨hp, by rw [List.mem_singleton.mp hp]; rfl⟩))) exc_EB exc_nt2 exc_VX (fun e => ev_bi bi_Exception rfl) fun e => ?_)
      cases hbd : bd (hrpOf l) l with
      | none => rw [hbd] at hb; cases hb
      | some x =>
      obtain ⟨v, p⟩ := x
      rw [hbd] at hb
      have hb : asP v p = some (some b) := hb
      obtain ⟨hp, hpl⟩ := bd_bytes hbd
      refine xs_cons (xt_assign (d := .str (mk (hrpOf l))) (ev_hrp (by k_inst) (by omega))) ?_
      refine xs_cons (xt_unpack (xs := [("ver", _), ("data", _)]) (ds := [dn v, nl p]) ?_ rfl ?_ (by intro x hx; simp only [List.mem_cons, List.not_mem_nil, or_false] at hx; rcases hx with rfl | rfl <;> rfl) rfl rfl) ?_
      · show Ev _ _ _ (bdDat (some (v, p)))
        rw [← hbd]
        exact ev_call (ev_gl gl_decode_bech32 rfl) (evs2 (d := .str (mk (hrpOf l))) (d' := .str (mk l)) (by k_inst) (by k_inst)) kp_200 (by exact bd_cal (show 5 ≤ C.n - 1 by omega) ha (by omega))
      · intro d hd
        simp only [List.mem_cons, List.not_mem_nil, or_false] at hd
        rcases hd with rfl | rfl
        · exact .inl rfl
        · exact .inr ⟨_, rfl⟩
      simp only [List.map_cons, List.map_nil, upds]
      have key : (v = 0 ∧ (p.length = 20 ∨ p.length = 32) ∧ b = bts (0 :: p.length :: p)) ∨ (v = 1 ∧ p.length = 32 ∧ b = bts (81 :: p.length :: p)) := by
        unfold asP at hb
        split at hb
        · rename_i q
          cases hb
          rw [Bool.and_eq_true, Bool.or_eq_true, beq_iff_eq, beq_iff_eq, beq_iff_eq] at q
          exact .inl ⟨q.1, q.2, rfl⟩
        · split at hb
          · rename_i q
            cases hb
            rw [Bool.and_eq_true, beq_iff_eq, beq_iff_eq] at q
            exact .inr ⟨q.1, q.2, by rw [q.2]⟩
          · cases hb
      have hn1 : 1 ≤ C.n - 1 := by omega
      refine xs_iff ((ts_bool (or_cons (p := false) ((ts_cmp (d1 := dn v) (d2 := .list [dn 0, dn 1]) (by k_inst) (ev_listD (evs2 (by k_inst) (by k_inst)) (by simp)) (cmp_notInL (Dat.isN v) ?_ hn1)).cast ?_) fun _ => or_cons (p := false) ((ts_cmp (d1 := dn p.length) (d2 := .list [dn 20, dn 32]) (ev_lenL (l := p) (by k_inst) (by omega)) (ev_listD (evs2 (by k_inst) (by k_inst)) (by simp)) (cmp_notInL (Dat.isN p.length) ?_ hn1)).cast ?_) fun _ => or_nil)).cast (by rfl)) ?_
      · intro y hy
        simp only [List.mem_cons, List.not_mem_nil, or_false] at hy
        rcases hy with rfl | rfl <;> exact .int _ _
      · rcases key with ⟨rfl, _⟩ | ⟨rfl, _⟩ <;> rfl
      · intro y hy
        simp only [List.mem_cons, List.not_mem_nil, or_false] at hy
        rcases hy with rfl | rfl <;> exact .int _ _
      · rcases key with ⟨_, q | q, _⟩ | ⟨_, q, _⟩ <;> rw [q] <;> rfl
      refine xs_iff ((ts_bool (and_cons (ts_cmp (d1 := dn v) (by k_inst) (by k_inst) (cmp_eqN _ 1)) fun _ => and_cons (ts_cmp (d1 := dn p.length) (ev_lenL (l := p) (by k_inst) (by omega)) (by k_inst) (cmp_neN _ 32)) fun _ => and_nil)).cast ?_) ?_
      · rcases key with ⟨rfl, _⟩ | ⟨rfl, q, _⟩
        · rfl
        · rw [q]; rfl
      refine xs_ifup (b := decide (v > 0)) (x := "ver") (d := dn (if v = 0 then 0 else 81)) (ts_cmp (d1 := dn v) (d2 := dn 0) (by k_inst) (by k_inst) (cmp_gtN _ _)) (fun q => ?_) (fun q => ?_) ?_
      · rcases key with ⟨rfl, _⟩ | ⟨rfl, _⟩
        · cases q
        · exact xs_cons (xt_aug (d1 := dn 1) (d2 := dn 80) (d := dn 81) (by k_mem) (by k_inst) (iop_addN 1 80)) xs_nil
      · rcases key with ⟨rfl, _⟩ | ⟨rfl, _⟩
        · k_mem
        · cases q
      have hbv : b = bts ((if v = 0 then 0 else 81) :: p.length :: p) := by
        rcases key with ⟨rfl, _, e⟩ | ⟨rfl, _, e⟩
        · exact e
        · exact e
      rw [hbv]
      refine xs_stop (xt_ret (ev_call (ev_gl gl_Script rfl) (evs1 (d := .bytes (bts ((if v = 0 then 0 else 81) :: p.length :: p))) (ev_call (ev_bi bi_bytes rfl) (evs1 (d := nl ((if v = 0 then 0 else 81) :: p.length :: p)) ?_) (kp_type _) (cal_bytesL (fun n hn => ?_) (by simp; omega)))) kp_965 (by exact script_make (by show 5 ≤ C.n - 1; omega) _)))
      · exact ev_bin (d1 := nl [if v = 0 then 0 else 81, p.length]) (d2 := nl p) (ev_listD (ds := [dn (if v = 0 then 0 else 81), dn p.length]) (evs2 (by k_inst) (ev_lenL (l := p) (by k_inst) (by omega))) (by simp)) (by k_inst) (op_addLm (xs := [if v = 0 then 0 else 81, p.length]) (ys := p) (g := dn) (by simp only [List.length_cons, List.length_nil, sizeLine_eq]; omega))
      · rcases List.mem_cons.mp hn with rfl | hn
        · split <;> decide
        rcases List.mem_cons.mp hn with rfl | hn
        · omega
        · exact hp n hn
theorem a2s_none {C : Cx} (hn : 10 ≤ C.n) (hh : C.A.handled = none) {l : List Nat} (ha : ∀ c ∈ l, c < 128) (hl : l.length ≤ 300) (hb : asB l = some none) : Cal C (.ref 974) [.str (mk l)] .none := by
  rw [asB_eq] at hb
  cases hd : dc l with
  | none =>
    rw [hd] at hb
    cases hbd : bd (hrpOf l) l with
    | none => rw [hbd] at hb; cases hb
    | some x =>
      obtain ⟨v, p⟩ := x
      rw [hbd] at hb
      have hb : asP v p = some none := hb
      unfold asP at hb
      split at hb
      · cases hb
      · split at hb <;> cases hb
  | some o =>
  rw [hd] at hb
  have hb : asO o = some none := hb
  unfold asO at hb
  have q0 : ¬ P0 o = true := fun q => by rw [if_pos q] at hb; cases hb
  rw [if_neg q0] at hb
  have q5 : ¬ P5 o = true := fun q => by rw [if_pos q] at hb; cases hb
  have ho : o.size ≤ 600 := by have := dc_size hd; omega
  have hz2 : o.size ≤ sizeLine := by rw [sizeLine_eq]; omega
  refine cal_fnN (xs := []) (es := []) (ρ := [(("data", .bytes o) : Str × Dat), ("prefix", .bytes (pk o none (some 1)))]) (by omega) rfl rfl ["addr"] (fun _ _ => .nil) ?_ (by decide) (by decide) ?_
  · intro s vs X h
    obtain ⟨a, rfl⟩ := len1 h
    exact .of_eq rfl
  · intro h₀ L
    refine xs_cons (xt_try (xs_cons (xt_assign (d := .bytes o) (ev_call (ev_gl gl_decode_check rfl) (evs1 (d := .str (mk l)) (by k_inst)) kp_137 (by exact dc_cal (by show 9 ≤ C.n - 1; omega) (by exact hh) ha hl hd))) (xs_cons (xt_assign (d := .bytes (pk o none (some 1))) (ev_slice (d1 := .bytes o) (by k_inst) .none (.some (ev_int 1 _ _)) .none (sl_bytes hz2))) ?_)) (fun _ _ => ⟨by simp, by simp⟩)) xs_nil
    have h0 : ∀ p ∈ [(("data", .bytes o) : Str × Dat), ("prefix", .bytes (pk o none (some 1)))], p ∈ upd (upd [(("addr", .str (mk l)) : Str × Dat)] "data" (.bytes o)) "prefix" (.bytes (pk o none (some 1))) := fun p hp => by
      simp only [List.mem_cons, List.not_mem_nil, or_false] at hp
      rcases hp with rfl | rfl <;> k_mem
    have hsub : ∀ d : Dat, ∀ p ∈ [(("data", .bytes o) : Str × Dat), ("prefix", .bytes (pk o none (some 1)))], p ∈ upd [(("data", .bytes o) : Str × Dat), ("prefix", .bytes (pk o none (some 1)))] "net" d := fun d => upd_sub fun p hp => by
      simp only [List.mem_cons, List.not_mem_nil, or_false] at hp
      rcases hp with rfl | rfl <;> rfl
    refine xs_cons (xt_for (fun _ => [(("data", .bytes o) : Str × Dat), ("prefix", .bytes (pk o none (some 1)))]) (evIt_nets (by exact hh)) h0 fun fp i d hi => ?_) xs_nil
    obtain ⟨a, x, y, hrp, rfl, N, _, hxy⟩ := nets_get hi
    have e1 : (pk o none (some 1) == #[x]) = false ∧ (pk o none (some 1) == #[y]) = false := by
      unfold P0 at q0
      unfold P5 at q5
      rw [Bool.or_eq_true, beq_iff_eq, beq_iff_eq, not_or] at q0 q5
      rw [beq_eq_false_iff_ne, beq_eq_false_iff_ne]
      rcases hxy with ⟨rfl, rfl⟩ | ⟨rfl, rfl⟩
      · exact ⟨fun q => q0.1 q.symm, fun q => q5.1 q.symm⟩
      · exact ⟨fun q => q0.2 q.symm, fun q => q5.2 q.symm⟩
    exact xs_cons (xt_if (b := false) ((ts_cmp (d1 := .bytes (pk o none (some 1))) (d2 := .bytes #[x]) (by k_inst) (ev_item (d1 := .cst (.ref a)) (d2 := .str "p2pkh") (by k_inst) (ev_str _ _ _) (N _).pkh) (cmp_eqB _ _)).cast e1.1) (fun q => by cases q) fun _ => xs_cons (xt_if (b := false) ((ts_cmp (d1 := .bytes (pk o none (some 1))) (d2 := .bytes #[y]) (by k_inst) (ev_item (d1 := .cst (.ref a)) (d2 := .str "p2sh") (by k_inst) (ev_str _ _ _) (N _).sh) (cmp_eqB _ _)).cast e1.2) (fun q => by cases q) fun _ => xs_end (hsub _)) xs_nil) xs_nil
theorem a2sX {C : Cx} (hn : 10 ≤ C.n) (hh : C.A.handled = none) {l : List Nat} (ha : ∀ c ∈ l, c < 128) (hl : l.length ≤ 300) (hb : asB l = none) : CalX C (.ref 974) [.str (mk l)] (.ref 774) false := by
  rw [asB_eq] at hb
  cases hd : dc l with
  | some o =>
    rw [hd] at hb
    have hb : asO o = none := hb
    unfold asO at hb
    split at hb
    · cases hb
    · split at hb <;> cases hb
  | none =>
  rw [hd] at hb
  refine calX_fn (ρ := []) (xs := []) (es := []) (by omega) rfl rfl ["addr"] (fun _ _ => .nil) ?_ (by decide) (by decide) ?_
  · intro s vs X h
    obtain ⟨a, rfl⟩ := len1 h
    exact .of_eq rfl
  · intro h₀ L
    refine xs_stop (xt_catch (X := "ValueError") (T := "Exception") (ρ1 := [("addr", .str (mk l))]) (O := .exc [] (.ref 774) false) (by exact hh) (by rfl) (xs_stop (xt_assignX (ev_callX (ev_gl gl_decode_check rfl) (evs1 (d := .str (mk l)) (by k_inst)) kp_137 (by exact dcX (by show 9 ≤ C.n - 1; omega) (by exact hh) ha hl hd)) (fun p hp => ⟨hp, by rw [List.mem_singleton.mp hp]; rfl⟩))) exc_EB exc_nt2 exc_VX (fun e => ev_bi bi_Exception rfl) fun e => ?_)
    refine xs_cons (xt_assign (d := .str (mk (hrpOf l))) (ev_hrp (by k_inst) (by omega))) ?_
    have hn1 : 1 ≤ C.n - 1 := by omega
    refine xs_cons (xt_unpack (xs := [("ver", _), ("data", _)]) (ds := match bd (hrpOf l) l with | none => [.none, .none] | some (v, p) => [dn v, nl p]) ?_ ?_ ?_ (by intro x hx; simp only [List.mem_cons, List.not_mem_nil, or_false] at hx; rcases hx with rfl | rfl <;> rfl) rfl rfl) ?_
    · have : Dat.tup (match bd (hrpOf l) l with | none => [.none, .none] | some (v, p) => [dn v, nl p]) = bdDat (bd (hrpOf l) l) := by cases bd (hrpOf l) l <;> rfl
      rw [this]
      exact ev_call (ev_gl gl_decode_bech32 rfl) (evs2 (d := .str (mk (hrpOf l))) (d' := .str (mk l)) (by k_inst) (by k_inst)) kp_200 (by exact bd_cal (show 5 ≤ C.n - 1 by omega) ha (by omega))
    · cases bd (hrpOf l) l <;> rfl
    · intro d hd
      cases hb : bd (hrpOf l) l with
      | none => rw [hb] at hd; simp only [List.mem_cons, List.not_mem_nil, or_false, or_self] at hd; subst hd; exact .inl rfl
      | some x =>
        rw [hb] at hd
        simp only [List.mem_cons, List.not_mem_nil, or_false] at hd
        rcases hd with rfl | rfl
        · exact .inl rfl
        · exact .inr ⟨_, rfl⟩
    cases hbd : bd (hrpOf l) l with
    | none =>
      simp only [List.map_cons, List.map_nil, upds]
      refine xs_stop (xt_if (b := true) (ts_bool (or_t ((ts_cmp (d1 := .none) (d2 := .list [dn 0, dn 1]) (by k_inst) (ev_listD (evs2 (by k_inst) (by k_inst)) (by simp)) (cmp_notInL (fun _ => false) ?_ hn1)).cast rfl))) (fun _ => xs_stop (xt_raiseO (ev_gl gl_EmbitError rfl) (ev_str _ _ _) (fun p hp => by cases hp))) fun q => by cases q)
      intro y hy
      simp only [List.mem_cons, List.not_mem_nil, or_false] at hy
      rcases hy with rfl | rfl <;> exact .int_none _
    | some x =>
      obtain ⟨v, p⟩ := x
      rw [hbd] at hb
      have hb : asP v p = none := hb
      obtain ⟨hp, hpl⟩ := bd_bytes hbd
      simp only [List.map_cons, List.map_nil, upds]
      have t1 : ∀ {ρ : List (Str × Dat)}, True := fun {_} => trivial
      refine xs_ifr (b := (!(v == 0 || v == 1)) || (!(p.length == 20 || p.length == 32))) ((ts_bool (or_cons ((ts_cmp (d1 := dn v) (d2 := .list [dn 0, dn 1]) (by k_inst) (ev_listD (evs2 (by k_inst) (by k_inst)) (by simp)) (cmp_notInL (Dat.isN v) ?_ hn1)).cast (q := !(v == 0 || v == 1)) ?_) fun _ => or_cons ((ts_cmp (d1 := dn p.length) (d2 := .list [dn 20, dn 32]) (ev_lenL (l := p) (by k_inst) (by omega)) (ev_listD (evs2 (by k_inst) (by k_inst)) (by simp)) (cmp_notInL (Dat.isN p.length) ?_ hn1)).cast (q := !(p.length == 20 || p.length == 32)) ?_) fun _ => or_nil)).cast (by rw [Bool.or_false])) (fun q => xs_stop (xt_raiseO (ev_gl gl_EmbitError rfl) (ev_str _ _ _) (fun p hp => by cases hp))) fun q => ?_
      · intro y hy
        simp only [List.mem_cons, List.not_mem_nil, or_false] at hy
        rcases hy with rfl | rfl <;> exact .int _ _
      · rw [Bool.eq_iff_iff]; simp [Dat.isN, dn]; omega
      · intro y hy
        simp only [List.mem_cons, List.not_mem_nil, or_false] at hy
        rcases hy with rfl | rfl <;> exact .int _ _
      · rw [Bool.eq_iff_iff]; simp [Dat.isN, dn]; omega
      rw [Bool.or_eq_false_iff, Bool.not_eq_false', Bool.not_eq_false', Bool.or_eq_true, Bool.or_eq_true, beq_iff_eq, beq_iff_eq, beq_iff_eq, beq_iff_eq] at q
      refine xs_stop (xt_if (b := true) ((ts_bool (and_cons (ts_cmp (d1 := dn v) (by k_inst) (by k_inst) (cmp_eqN _ 1)) fun _ => and_cons (ts_cmp (d1 := dn p.length) (ev_lenL (l := p) (by k_inst) (by omega)) (by k_inst) (cmp_neN _ 32)) fun _ => and_nil)).cast ?_) (fun _ => xs_stop (xt_raiseO (ev_gl gl_EmbitError rfl) (ev_str _ _ _) (fun p hp => by cases hp))) fun q => by cases q)
      unfold asP at hb
      obtain ⟨q1, q2⟩ := q
      rcases q1 with rfl | rfl
      · rw [if_pos (by rcases q2 with q2 | q2 <;> rw [q2] <;> rfl)] at hb; cases hb
      · rw [if_neg (by rw [show ((1 : Nat) == 0) = false from rfl, Bool.false_and]; exact Bool.false_ne_true)] at hb
        rcases q2 with q2 | q2
        · rw [q2]; rfl
        · rw [if_pos (by rw [q2]; rfl)] at hb; cases hb
end Mine
end
section
set_option maxRecDepth 100000
set_option maxHeartbeats 4000000
set_option linter.unusedVariables false
namespace Mine
open PySem PySem.W PyProof.Rows PySem.Calls PySem.Spec
-- MAC
local macro_rules | `(tactic| k_mem) => `(tactic| first | (with_reducible exact mem_self) | (with_reducible exact List.Mem.head _) | ((with_reducible refine mem_other ?_ ?_); (focus decide); k_mem) | ((with_reducible refine List.Mem.tail _ ?_); k_mem))
local macro_rules | `(tactic| k_inst) => `(tactic| first
  | ((with_reducible refine ev_name ?_ ?_ ?_); (focus k_mem); (focus decide); decide)
  | ((with_reducible refine ev_nat ?_); rfl)
  | (with_reducible refine ev_bin (op := .BitXor) ?_ ?_ (op_xorN _ _)) | (with_reducible refine ev_bin (op := .BitAnd) ?_ ?_ (op_andN _ _)) | (with_reducible refine ev_bin (op := .RShift) ?_ ?_ (op_shrN _ _))
  | (with_reducible refine ev_bin (op := .LShift) ?_ ?_ (op_shlN ?_)) | (with_reducible refine ev_bin (op := .Add) ?_ ?_ (op_addN _ _)) | (with_reducible refine ev_bin (op := .Mod) ?_ ?_ (op_modN _ ?_))
  | ((with_reducible refine evs_cons ?_ ?_ ?h3); (case h3 => rfl)) | (with_reducible exact evs_nil))
-- CAM
/-- what address_to_scriptpubkey gives when it gives something -/
def asD : Option (Array UInt8) → Dat
  | none => .none
  | some b => .inst 965 b
theorem a2s_cal {C : Cx} (hn : 10 ≤ C.n) (hh : C.A.handled = none) {l : List Nat} (ha : ∀ c ∈ l, c < 128) (hl : l.length ≤ 300) {r : Option (Array UInt8)} (hb : asB l = some r) : Cal C (.ref 974) [.str (mk l)] (asD r) := by
  cases r with
  | none => exact a2s_none hn hh ha hl hb
  | some b => exact a2s_ret hn hh ha hl hb
theorem told_cal {C : Cx} (hn : 11 ≤ C.n) (hh : C.A.handled = none) {l : List Nat} (ha : ∀ c ∈ l, c < 128) (hl : l.length ≤ 300) : Cal C (.ref 1002) [.str (mk l)] (rdOf (asB l)) := by
  refine cal_fn (xs := []) (es := []) (by omega) rfl rfl ["text"] (fun _ _ => .nil) ?_ (by decide) (by decide) ?_
  · intro s vs X h
    obtain ⟨a, rfl⟩ := len1 h
    exact .of_eq rfl
  · intro h₀ L
    cases hb : asB l with
    | none =>
      exact xs_stop (xt_catchO (c := false) (ρ1 := []) (by exact hh) (by rfl) (xs_stop (xt_assignX (ev_callX (ev_gl gl_address_to_scriptpubkey rfl) (evs1 (d := .str (mk l)) (by k_inst)) kp_974 (by exact a2sX (by show 10 ≤ C.n - 1; omega) (by exact hh) ha hl hb)) (fun p hp => by cases hp))) gl_EmbitError rfl)
    | some r =>
      refine xs_stop (xt_try (xs_cons (xt_assign (d := asD r) (ev_call (ev_gl gl_address_to_scriptpubkey rfl) (evs1 (d := .str (mk l)) (by k_inst)) kp_974 (by exact a2s_cal (by show 10 ≤ C.n - 1; omega) (by exact hh) ha hl hb))) (xs_stop (xt_ret ?_))) (fun _ _ => ⟨by simp, by simp⟩))
      cases r with
      | none => exact ev_if (c := true) ((ts_cmp (d1 := .none) (by k_inst) (ev_none _ _) (cmp_isN rfl)).cast rfl) (fun _ => by k_inst) fun q => by cases q
      | some b => exact ev_if (c := false) ((ts_cmp (d1 := .inst 965 b) (by k_inst) (ev_none _ _) (cmp_isN rfl)).cast rfl) (fun q => by cases q) fun _ => ev_data (c := 965) (b := b) (by k_inst) (ga965 _) fun hh tk t => rfl
theorem la_none {x y : UInt8} {h : List Nat} {b : Array UInt8} (hk : kind b = none) : la x y h b = none := by
  unfold kind at hk
  unfold la
  by_cases h1 : T1 b = true
  · rw [if_pos h1] at hk; cases hk
  rw [if_neg h1] at hk ⊢
  by_cases h2 : T2 b = true
  · rw [if_pos h2] at hk; cases hk
  rw [if_neg h2] at hk ⊢
  by_cases h3 : T3 b = true
  · rw [if_pos h3] at hk; cases hk
  rw [if_neg h3] at hk ⊢
  by_cases h4 : T4 b = true
  · rw [if_pos h4] at hk; cases hk
  rw [if_neg h4] at hk ⊢
  by_cases h5 : T5 b = true
  · rw [if_pos h5] at hk; cases hk
  rw [if_neg h5]
theorem asked_cal {C : Cx} (hn : 11 ≤ C.n) (hh : C.A.handled = none) {a : Addr} {x y : UInt8} {h : List Nat} (N : NetA a x y h) (ha : ∀ c ∈ h, c < 128) (hl : h.length ≤ 100) {b : Array UInt8} (hb : b.size ≤ 70) : Cal C (.ref 1009) [.bytes b, .cst (.ref a)] (optStr (la x y h b)) := by
  refine cal_fn (xs := []) (es := []) (by omega) rfl rfl ["octets", "network"] (fun _ _ => .nil) ?_ (by decide) (by decide) ?_
  · intro s vs X h
    obtain ⟨a, b, rfl⟩ := len2 h
    exact .of_eq rfl
  · intro h₀ L
    cases hk : kind b with
    | none =>
      rw [la_none hk]
      exact xs_stop (xt_catch (X := "ValueError") (T := "ValueError") (ρ1 := []) (O := .ret .none) (by exact hh) (by rfl) (xs_stop (xt_retX (ev_instMX (c := 965) (b := b) (ds := [.cst (.ref a)]) (ev_call (ev_gl gl_Script rfl) (evs1 (d := .bytes b) (by k_inst)) kp_965 (by exact script_make (by show 5 ≤ C.n - 1; omega) _)) (evs1 (by k_inst)) (ga965 _) (gt965 _) (ad965 _) (ty893 _) (fun hh tk t => rfl) kp_893 (by exact adX (by show 9 ≤ C.n - 1; omega) (by exact hh) hb hk)) (fun p hp => by cases hp))) exc_VE exc_nt1 exc_VV (fun e => ev_bi bi_ValueError rfl) fun e => xs_stop (xt_ret (ev_none _ _)))
    | some k =>
      exact xs_stop (xt_try (xs_stop (xt_ret (ev_instM (c := 965) (b := b) (ds := [.cst (.ref a)]) (ev_call (ev_gl gl_Script rfl) (evs1 (d := .bytes b) (by k_inst)) kp_965 (by exact script_make (by show 5 ≤ C.n - 1; omega) _)) (evs1 (by k_inst)) (ga965 _) (gt965 _) (ad965 _) (ty893 _) (fun hh tk t => rfl) kp_893 (by exact ad_cal (by show 9 ≤ C.n - 1; omega) (by exact hh) N ha hl hb hk)))) (fun _ _ => ⟨by simp, by simp⟩))
theorem checked_cal {C : Cx} (hn : 11 ≤ C.n) (hh : C.A.handled = none) {l : List Nat} (ha : ∀ c ∈ l, c < 128) (hl : l.length ≤ 300) : Cal C (.ref 1016) [.str (mk l)] (.bool (dc l).isSome) := by
  refine cal_fn (xs := []) (es := []) (by omega) rfl rfl ["text"] (fun _ _ => .nil) ?_ (by decide) (by decide) ?_
  · intro s vs X h
    obtain ⟨a, rfl⟩ := len1 h
    exact .of_eq rfl
  · intro h₀ L
    cases hd : dc l with
    | none =>
      exact xs_stop (xt_catch (X := "ValueError") (T := "ValueError") (ρ1 := []) (O := .ret (.bool false)) (by exact hh) (by rfl) (xs_stop (xt_exprX (ev_callX (ev_gl gl_decode_check rfl) (evs1 (d := .str (mk l)) (by k_inst)) kp_137 (by exact dcX (by show 9 ≤ C.n - 1; omega) (by exact hh) ha hl hd)) (fun p hp => by cases hp))) exc_VE exc_nt1 exc_VV (fun e => ev_bi bi_ValueError rfl) fun e => xs_stop (xt_ret (ev_bool _ _ _)))
    | some r =>
      exact xs_stop (xt_try (xs_cons (xt_expr (d := .bytes r) (ev_call (ev_gl gl_decode_check rfl) (evs1 (d := .str (mk l)) (by k_inst)) kp_137 (by exact dc_cal (by show 9 ≤ C.n - 1; omega) (by exact hh) ha hl hd))) (xs_stop (xt_ret (ev_bool _ _ _)))) (fun _ _ => ⟨by simp, by simp⟩))
theorem fa_rd (w : World) : readsIn (Kf w) 965 (.type "type") = true := by kernel_rfl
theorem fa_sp (w : World) : specialIn (Kf w) (.ref 965) "__getattribute__" = some (some (.builtin "type.__getattribute__")) := by kernel_rfl
theorem fa_fc (w : World) : ∃ p rest, findCls (Kf w) (.ref 965) (.type "type") "from_address" = some (.get (.builtin "classmethod.__get__") (.ref p) .none (.ref 965)) ∧ recIn (Kf w) p "classmethod" = some (.ref 931 :: rest) := ⟨_, _, rfl, rfl⟩
theorem fa_fn (w : World) : fnIn (Kf w) 931 = true := by kernel_rfl
theorem fa_cal {C : Cx} (hn : 11 ≤ C.n) (hh : C.A.handled = none) {l : List Nat} (ha : ∀ c ∈ l, c < 128) (hl : l.length ≤ 300) {r : Option (Array UInt8)} (hb : asB l = some r) : CalC C (.ref 931) [.cst (.ref 965), .str (mk l)] (asD r) := by
  refine calC_fn (xs := []) (es := []) (by omega) rfl rfl ["cls", "addr"] (fun _ _ => .nil) ?_ (by decide) (by decide) ?_
  · intro s vs X h
    obtain ⟨a, b, rfl⟩ := len2 h
    exact .of_eq rfl
  · intro h₀ L
    exact xs_stop (xt_ret (ev_call (ev_gl gl_address_to_scriptpubkey rfl) (evs1 (d := .str (mk l)) (by k_inst)) kp_974 (by exact a2s_cal (by show 10 ≤ C.n - 1; omega) (by exact hh) ha hl hb)))
theorem ev_fromA {C : Cx} {ρ : List (Str × Dat)} {e : Expr} {p apos pos : Pos} {l : List Nat} {r : Option (Array UInt8)} (hn : 11 ≤ C.n) (hh : C.A.handled = none) (he : Ev C ρ e (.str (mk l))) (ha : ∀ c ∈ l, c < 128) (hl : l.length ≤ 300) (hb : asB l = some r) (hk : C.env.kindOf "Script" = some .globalImplicit := by rfl) (hst : notStar e = true := by rfl)
    (hline : (apos.endLine == pos.line) = true := by rfl) (hbase : attributeBase (.Name "Script" p) "from_address" C.env (eval (.Name "Script" p) C.env) = eval (.Name "Script" p) C.env := by rfl) :
    Ev C ρ (.Call (.Attribute (.Name "Script" p) "from_address" apos) [e] [] pos) (asD r) := by
  obtain ⟨q, rest, h1, h2⟩ := fa_fc C.w
  exact ev_cm (ev_gl gl_Script hk) (evs1 he hst) (fa_sp _) (fa_rd _) h1 h2 (fa_fn _) (fa_cal hn hh ha hl hb) hline hbase (by show (1 : Nat) < 25; decide)
end Mine
end
section
set_option maxRecDepth 100000
set_option maxHeartbeats 4000000
set_option linter.unusedVariables false
namespace Mine
open PySem PySem.W PyProof.Rows PySem.Calls PySem.Spec
theorem inner_xor (top a b : Nat) : ∀ n, inner top (a ^^^ b) n = inner top a n ^^^ b
  | 0 => rfl
  | n + 1 => by
    show inner top (a ^^^ b) n ^^^ _ = (inner top a n ^^^ _) ^^^ b
    rw [inner_xor top a b n, Nat.xor_assoc, Nat.xor_assoc, Nat.xor_comm b]
theorem gens_lt (i : Nat) : gens.getD i 0 < 2 ^ 30 := by
  match i with
  | 0 => decide
  | 1 => decide
  | 2 => decide
  | 3 => decide
  | 4 => decide
  | n + 5 => show (0 : Nat) < 2 ^ 30; decide
theorem inner_lt {top a : Nat} (h : a < 2 ^ 30) : ∀ n, inner top a n < 2 ^ 30
  | 0 => h
  | n + 1 => by
    show inner top a n ^^^ (if ((top >>> n) &&& 1 != 0) = true then gens.getD n 0 else 0) < 2 ^ 30
    refine Nat.xor_lt_two_pow (inner_lt h n) ?_
    split
    · exact gens_lt n
    · decide
theorem pmStep_lt {c v : Nat} (h : v < 32) : pmStep c v < 2 ^ 30 := by
  unfold pmStep
  refine inner_lt (Nat.xor_lt_two_pow ?_ (by omega)) 5
  have : c &&& 33554431 ≤ 33554431 := Nat.and_le_right
  rw [Nat.shiftLeft_eq]
  omega
theorem and_lt_mask (q : Nat) (h : q < 2 ^ 25) : q &&& 33554431 = q := by
  rw [show (33554431 : Nat) = 2 ^ 25 - 1 by decide, Nat.and_two_pow_sub_one_eq_mod, Nat.mod_eq_of_lt h]
theorem pmStep_xor {s q c : Nat} (h : q < 2 ^ 25) : pmStep (s ^^^ q) c = pmStep s 0 ^^^ ((q <<< 5) ^^^ c) := by
  unfold pmStep
  have h1 : (s ^^^ q) >>> 25 = s >>> 25 := by
    rw [Nat.shiftRight_xor_distrib, Nat.shiftRight_eq_div_pow q, Nat.div_eq_of_lt h, Nat.xor_zero]
  have h2 : (((s ^^^ q) &&& 33554431) <<< 5) ^^^ c = (((s &&& 33554431) <<< 5) ^^^ 0) ^^^ ((q <<< 5) ^^^ c) := by
    rw [Nat.and_xor_distrib_right, and_lt_mask q h, Nat.shiftLeft_xor_distrib, Nat.xor_zero, Nat.xor_assoc]
  rw [h1, h2, inner_xor]
theorem five (y : Nat) : ((y >>> 5) <<< 5) ^^^ (y &&& 31) = y := by
  have e : y &&& 31 = y % 2 ^ 5 := by rw [show (31 : Nat) = 2 ^ 5 - 1 by decide, Nat.and_two_pow_sub_one_eq_mod]
  refine Nat.eq_of_testBit_eq fun i => ?_
  rw [e, Nat.testBit_xor, Nat.testBit_shiftLeft, Nat.testBit_shiftRight, Nat.testBit_mod_two_pow]
  by_cases hi : 5 ≤ i
  · have h2 : ¬ i < 5 := by omega
    have h3 : 5 + (i - 5) = i := by omega
    simp [hi, h2, h3]
  · have h2 : i < 5 := by omega
    simp [hi, h2]
theorem step_pack {s P : Nat} (i : Nat) (hP : P < 2 ^ 30) (hi : i < 6) : pmStep (s ^^^ (P >>> (5 * (6 - i)))) ((P >>> (5 * (5 - i))) &&& 31) = pmStep s 0 ^^^ (P >>> (5 * (5 - i))) := by
  have hlt : P >>> (5 * (6 - i)) < 2 ^ 25 := by
    rw [Nat.shiftRight_eq_div_pow]
    refine Nat.div_lt_of_lt_mul (Nat.lt_of_lt_of_le hP ?_)
    rw [← Nat.pow_add]
    exact Nat.pow_le_pow_right (by decide) (by omega)
  rw [pmStep_xor hlt]
  have e : P >>> (5 * (6 - i)) = (P >>> (5 * (5 - i))) >>> 5 := by
    rw [← Nat.shiftRight_add]; congr 1; omega
  rw [e, five]
theorem polymod_app (a b : List Nat) : polymod (a ++ b) = b.foldl pmStep (polymod a) := by
  unfold polymod; rw [List.foldl_append]
theorem polymod_sum {X : List Nat} {P : Nat} (hP : P < 2 ^ 30) : polymod (X ++ (List.range 6).map fun i => (P >>> (5 * (5 - i))) &&& 31) = polymod (X ++ [0, 0, 0, 0, 0, 0]) ^^^ P := by
  rw [polymod_app, polymod_app]
  show List.foldl pmStep (polymod X) [(P >>> (5 * (5 - 0))) &&& 31, (P >>> (5 * (5 - 1))) &&& 31, (P >>> (5 * (5 - 2))) &&& 31, (P >>> (5 * (5 - 3))) &&& 31, (P >>> (5 * (5 - 4))) &&& 31, (P >>> (5 * (5 - 5))) &&& 31] = _
  simp only [List.foldl_cons, List.foldl_nil]
  generalize polymod X = s
  have h0 : s = s ^^^ (P >>> (5 * (6 - 0))) := by
    rw [Nat.shiftRight_eq_div_pow, Nat.div_eq_of_lt hP, Nat.xor_zero]
  rw [show pmStep s ((P >>> (5 * (5 - 0))) &&& 31) = pmStep s 0 ^^^ (P >>> (5 * (5 - 0))) by
    conv => lhs; rw [h0]
    exact step_pack 0 hP (by decide)]
  rw [step_pack 1 hP (by decide), step_pack 2 hP (by decide), step_pack 3 hP (by decide), step_pack 4 hP (by decide), step_pack 5 hP (by decide)]
  rfl
theorem polymod_lt (X : List Nat) : polymod (X ++ [0, 0, 0, 0, 0, 0]) < 2 ^ 30 := by
  rw [show X ++ [0, 0, 0, 0, 0, 0] = (X ++ [0, 0, 0, 0, 0]) ++ [0] by simp, polymod_snoc]
  exact pmStep_lt (by decide)
theorem checksum_ok (e : Nat) (h data : List Nat) : polymod (hexp h ++ (data ++ checksum e h data)) = cstOf e := by
  rw [← List.append_assoc]
  unfold checksum
  have hc : cstOf e < 2 ^ 30 := by unfold cstOf; split <;> decide
  have hP : pmOf e h data < 2 ^ 30 := Nat.xor_lt_two_pow (polymod_lt _) hc
  rw [polymod_sum hP]
  unfold pmOf
  rw [← Nat.xor_assoc, Nat.xor_self, Nat.zero_xor]
end Mine
end
section
set_option maxRecDepth 100000
set_option maxHeartbeats 4000000
set_option linter.unusedVariables false
namespace Mine
open PySem PySem.W PyProof.Rows PySem.Calls PySem.Spec
theorem snoc_ind {α : Type} {P : List α → Prop} (l : List α) (nil : P []) (snoc : ∀ r x, P r → P (r ++ [x])) : P l := by
  have key : ∀ n (l : List α), l.length = n → P l := by
    intro n
    induction n with
    | zero => intro l h; rw [List.length_eq_zero_iff.mp h]; exact nil
    | succ n ih =>
      intro l h
      rcases List.eq_nil_or_concat l with rfl | ⟨r, x, rfl⟩
      · cases h
      · rw [List.concat_eq_append] at h ⊢
        exact snoc r x (ih r (by simpa using h))
  exact key _ l rfl
/-- a list's number to the base B -/
def val (B : Nat) (l : List Nat) : Nat := l.foldl (fun a v => a * B + v) 0
theorem val_snoc (B : Nat) (l : List Nat) (v : Nat) : val B (l ++ [v]) = val B l * B + v := by unfold val; rw [List.foldl_append]; rfl
theorem val_app (B : Nat) (a b : List Nat) : val B (a ++ b) = val B a * B ^ b.length + val B b := by
  induction b using snoc_ind with
  | nil => simp [val]
  | snoc r x ih =>
    rw [← List.append_assoc, val_snoc, ih, val_snoc, List.length_append, List.length_singleton, Nat.pow_succ, Nat.add_mul, Nat.mul_assoc, Nat.add_assoc]
theorem val_lt {B : Nat} (l : List Nat) (h : ∀ v ∈ l, v < B) : val B l < B ^ l.length := by
  induction l using snoc_ind with
  | nil => simp [val]
  | snoc r x ih =>
    rw [val_snoc, List.length_append, List.length_singleton, Nat.pow_succ]
    have h1 := ih fun v hv => h v (List.mem_append_left _ hv)
    have h2 := h x (by simp)
    calc val B r * B + x < val B r * B + B := by omega
      _ = (val B r + 1) * B := by rw [Nat.add_mul, Nat.one_mul]
      _ ≤ B ^ r.length * B := Nat.mul_le_mul_right _ h1
theorem val_inj {B : Nat} : ∀ (n : Nat) (a b : List Nat), a.length = n → b.length = n → (∀ v ∈ a, v < B) → (∀ v ∈ b, v < B) → val B a = val B b → a = b := by
  intro n
  induction n with
  | zero => intro a b ha hb _ _ _; rw [List.length_eq_zero_iff.mp ha, List.length_eq_zero_iff.mp hb]
  | succ n ih =>
    intro a b ha hb h1 h2 e
    rcases List.eq_nil_or_concat a with rfl | ⟨r, x, rfl⟩
    · cases ha
    rcases List.eq_nil_or_concat b with rfl | ⟨s, y, rfl⟩
    · cases hb
    rw [List.concat_eq_append] at *
    rw [List.concat_eq_append] at *
    rw [val_snoc, val_snoc] at e
    have hx := h1 x (by simp)
    have hy := h2 y (by simp)
    have e1 : x = y := by
      have := congrArg (· % B) e
      simp only [Nat.mul_add_mod_self_right, Nat.mod_eq_of_lt hx, Nat.mod_eq_of_lt hy] at this
      exact this
    subst e1
    have hB : 0 < B := by omega
    have e2 : val B r = val B s := Nat.eq_of_mul_eq_mul_right hB (by omega)
    rw [ih r s (by simpa using ha) (by simpa using hb) (fun v hv => h1 v (List.mem_append_left _ hv)) (fun v hv => h2 v (List.mem_append_left _ hv)) e2]
theorem emit_one (N bits t i m : Nat) (hm : bits ≤ m) (hi : (i + 1) * t ≤ bits) : ((N % 2 ^ m) >>> (bits - (i + 1) * t)) &&& (1 <<< t - 1) = (N / 2 ^ (bits - (i + 1) * t)) % 2 ^ t := by
  rw [Nat.one_shiftLeft, Nat.and_two_pow_sub_one_eq_mod, Nat.shiftRight_eq_div_pow]
  have e : m = (bits - (i + 1) * t) + (m - (bits - (i + 1) * t)) := by omega
  have hle : t ≤ m - (bits - (i + 1) * t) := by
    have : t ≤ (i + 1) * t := by rw [Nat.add_mul]; omega
    omega
  conv => lhs; rw [e, Nat.pow_add]
  rw [Nat.mod_mul_right_div_self, Nat.mod_mod_of_dvd _ (Nat.pow_dvd_pow 2 hle)]
theorem emit_val (N bits t m : Nat) (hm : bits ≤ m) : ∀ j, j * t ≤ bits → val (2 ^ t) (emit (N % 2 ^ m) bits t j) = (N / 2 ^ (bits - j * t)) % 2 ^ (j * t)
  | 0, _ => by simp [emit, val, Nat.mod_one]
  | j + 1, h => by
    have hj : j * t ≤ bits := by rw [Nat.add_mul] at h; omega
    rw [emit_succ, val_snoc, emit_val N bits t m hm j hj, emit_one N bits t j m hm h]
    have hs : bits - j * t = (bits - (j + 1) * t) + t := by rw [Nat.add_mul] at h ⊢; omega
    rw [hs, Nat.pow_add, ← Nat.div_div_eq_div_mul]
    generalize N / 2 ^ (bits - (j + 1) * t) = y
    have e : (j + 1) * t = t + j * t := by rw [Nat.add_mul]; omega
    rw [e, Nat.pow_add, Nat.mod_mul]
    rw [Nat.mul_comm, Nat.add_comm]
theorem emit_lt2 {acc bits t j : Nat} : ∀ v ∈ emit acc bits t j, v < 2 ^ t := fun v hv => by
  have := emit_lt v hv
  rw [Nat.one_shiftLeft] at this
  have := Nat.two_pow_pos t
  omega
/-- what convertbits holds after each number -/
theorem cv_inv (f t : Nat) (ht : 0 < t) (l : List Nat) (hl : ∀ v ∈ l, v < 2 ^ f) :
    (cvAll f t l).2.1 = (f * l.length) % t ∧ (cvAll f t l).2.2.length = (f * l.length) / t ∧ (∀ v ∈ (cvAll f t l).2.2, v < 2 ^ t) ∧
    val (2 ^ t) (cvAll f t l).2.2 = val (2 ^ f) l / 2 ^ ((f * l.length) % t) ∧ (cvAll f t l).1 = val (2 ^ f) l % 2 ^ (f + t - 1) := by
  induction l using snoc_ind with
  | nil => simp [cvAll, val]
  | snoc r x ih =>
    obtain ⟨h1, h2, h3, h4, h5⟩ := ih fun v hv => hl v (List.mem_append_left _ hv)
    have hx : x < 2 ^ f := hl x (by simp)
    have hlen : f * (r ++ [x]).length = f * r.length + f := by rw [List.length_append, List.length_singleton, Nat.mul_add, Nat.mul_one]
    have hN : val (2 ^ f) (r ++ [x]) = val (2 ^ f) r * 2 ^ f + x := val_snoc _ _ _
    have hacc : ((((cvAll f t r).1 <<< f) ||| x) &&& (1 <<< (f + t - 1) - 1)) = (val (2 ^ f) r * 2 ^ f + x) % 2 ^ (f + t - 1) := by
      rw [Nat.one_shiftLeft, Nat.and_two_pow_sub_one_eq_mod, Nat.shiftLeft_eq, ← Nat.shiftLeft_eq, ← Nat.shiftLeft_add_eq_or_of_lt hx, Nat.shiftLeft_eq, h5]
      rw [Nat.add_mod, Nat.mul_mod, Nat.mod_mod, ← Nat.mul_mod, ← Nat.add_mod]
    have hbits : (f * r.length) % t + f ≤ f + t - 1 := by have := Nat.mod_lt (f * r.length) ht; omega
    rw [cv_snoc]
    unfold cvStep
    simp only
    rw [hacc, h1, hlen, ← hN]
    have hq : ((f * r.length) % t + f) / t * t ≤ (f * r.length) % t + f := Nat.div_mul_le_self _ _
    have hmod : (f * r.length + f) % t = ((f * r.length) % t + f) % t := by rw [Nat.mod_add_mod]
    have hdm := Nat.div_add_mod (f * r.length) t
    have hdiv : (f * r.length + f) / t = (f * r.length) / t + ((f * r.length) % t + f) / t := by
      conv => lhs; rw [← hdm, Nat.add_assoc, Nat.mul_add_div ht]
    have hsub : (f * r.length) % t + f - ((f * r.length) % t + f) / t * t = ((f * r.length) % t + f) % t := by
      have := Nat.div_add_mod ((f * r.length) % t + f) t
      rw [Nat.mul_comm] at this
      omega
    refine ⟨hmod.symm, ?_, ?_, ?_, rfl⟩
    · rw [List.length_append, emit_len, h2, hdiv]
    · intro v hv
      rcases List.mem_append.mp hv with hv | hv
      · exact h3 v hv
      · exact emit_lt2 v hv
    · rw [val_app, emit_len, emit_val _ _ _ _ hbits _ hq, hsub, h4, hmod]
      have e0 : val (2 ^ f) r / 2 ^ ((f * r.length) % t) = val (2 ^ f) (r ++ [x]) / 2 ^ ((f * r.length) % t + f) := by
        rw [hN, Nat.pow_add, Nat.mul_comm (2 ^ _) (2 ^ f), ← Nat.div_div_eq_div_mul]
        congr 1
        rw [Nat.mul_comm, Nat.mul_add_div (Nat.two_pow_pos f), Nat.div_eq_of_lt hx, Nat.add_zero]
      rw [e0]
      generalize hM : val (2 ^ f) (r ++ [x]) = M
      have e1 : (f * r.length) % t + f = ((f * r.length) % t + f) % t + ((f * r.length) % t + f) / t * t := by omega
      generalize ((f * r.length) % t + f) / t = j at e1 ⊢
      generalize hb : ((f * r.length) % t + f) % t = b at e1 ⊢
      rw [e1, Nat.pow_add, ← Nat.div_div_eq_div_mul, ← Nat.pow_mul, Nat.mul_comm t j]
      exact Nat.div_add_mod' _ _
end Mine
end
section
set_option maxRecDepth 100000
set_option maxHeartbeats 4000000
set_option linter.unusedVariables false
namespace Mine
open PySem PySem.W PyProof.Rows PySem.Calls PySem.Spec
theorem cv85_val (p : List Nat) (hp : ∀ v ∈ p, v < 2 ^ 8) : ∃ z, z < 5 ∧ 5 * (cv85 p).length = 8 * p.length + z ∧ val (2 ^ 5) (cv85 p) = val (2 ^ 8) p * 2 ^ z := by
  obtain ⟨h1, h2, h3, h4, h5⟩ := cv_inv 8 5 (by decide) p hp
  unfold cv85
  simp only
  have hm := Nat.mod_lt (8 * p.length) (show 0 < 5 by decide)
  have hdm := Nat.div_add_mod (8 * p.length) 5
  generalize hb : (8 * p.length) % 5 = b at *
  by_cases q : (cvAll 8 5 p).2.1 = 0
  · rw [if_neg (by simp [q])]
    refine ⟨0, by decide, by rw [h2]; omega, ?_⟩
    have hb0 : b = 0 := by rw [← h1]; exact q
    rw [h4, hb0]
    simp
  · rw [if_pos (by simp [q])]
    have hb0 : b ≠ 0 := by rw [← h1]; exact q
    refine ⟨5 - b, by omega, by rw [List.length_append, List.length_singleton, h2]; omega, ?_⟩
    rw [val_snoc, h4, h5, h1]
    generalize val (2 ^ 8) p = N
    have e : (N % 2 ^ (8 + 5 - 1)) <<< (5 - b) &&& (1 <<< 5 - 1) = (N % 2 ^ b) * 2 ^ (5 - b) := by
      rw [Nat.one_shiftLeft, Nat.and_two_pow_sub_one_eq_mod, Nat.shiftLeft_eq]
      have e5 : (2 : Nat) ^ 5 = 2 ^ b * 2 ^ (5 - b) := by rw [← Nat.pow_add]; congr 1; omega
      rw [e5, Nat.mul_mod_mul_right, Nat.mod_mod_of_dvd _ (Nat.pow_dvd_pow 2 (by omega))]
    rw [e]
    have e5 : (2 : Nat) ^ 5 = 2 ^ b * 2 ^ (5 - b) := by rw [← Nat.pow_add]; congr 1; omega
    rw [e5, ← Nat.mul_assoc, ← Nat.add_mul, Nat.div_add_mod']
theorem cv_back (p : List Nat) (hp : ∀ v ∈ p, v < 256) : cv 5 8 false (cv85 p) = some p := by
  have hp' : ∀ v ∈ p, v < 2 ^ 8 := hp
  obtain ⟨z, hz, hl, hv⟩ := cv85_val p hp'
  obtain ⟨h1, h2, h3, h4, h5⟩ := cv_inv 5 8 (by decide) (cv85 p) (fun v hv => cv85_lt p v hv)
  have hmod : (5 * (cv85 p).length) % 8 = z := by omega
  have hdiv : (5 * (cv85 p).length) / 8 = p.length := by omega
  rw [hmod] at h1 h4
  rw [hdiv] at h2
  have hret : (cvAll 5 8 (cv85 p)).2.2 = p := by
    refine val_inj p.length _ _ h2 rfl h3 hp' ?_
    rw [h4, hv, Nat.mul_div_cancel _ (Nat.two_pow_pos z)]
  unfold cv cvEnd
  rw [if_neg Bool.false_ne_true, if_neg, hret]
  rw [h1, h5, hv]
  have e : (val (2 ^ 8) p * 2 ^ z % 2 ^ (5 + 8 - 1)) <<< (8 - z) &&& (1 <<< 8 - 1) = 0 := by
    rw [Nat.one_shiftLeft, Nat.and_two_pow_sub_one_eq_mod, Nat.shiftLeft_eq]
    have e8 : (2 : Nat) ^ 8 = 2 ^ z * 2 ^ (8 - z) := by rw [← Nat.pow_add]; congr 1; omega
    rw [e8, Nat.mul_mod_mul_right, Nat.mod_mod_of_dvd _ (Nat.pow_dvd_pow 2 (by omega)), Nat.mul_mod_left, Nat.zero_mul]
  rw [e]
  have : ¬ z ≥ 5 := by omega
  simp [this]
theorem CH_ok : ∀ d, d < 32 → CH.idxOf (CH.getD d 0) = d ∧ CH.getD d 0 ≠ 49 ∧ 33 ≤ CH.getD d 0 ∧ CH.getD d 0 ≤ 126 ∧ lowc (CH.getD d 0) = CH.getD d 0 := by decide +kernel
theorem lastAt_mid {h x : List Nat} {c : Nat} (hx : ∀ y ∈ x, y ≠ c) : lastAt c (h ++ [c] ++ x) = some h.length := by
  have hnone : lastAt c x = none := by
    cases e : lastAt c x with
    | none => rfl
    | some i =>
      have := ((lastAt_spec c x).1 i e).1
      exact absurd rfl (hx c (List.mem_of_getElem? this))
  induction h with
  | nil =>
    show lastAt c (c :: x) = some 0
    unfold lastAt
    rw [hnone]
    simp
  | cons a r ih =>
    show lastAt c (a :: (r ++ [c] ++ x)) = some (r.length + 1)
    unfold lastAt
    rw [ih]
/-- a head that bech32 takes as it is -/
def HrpOk (h : List Nat) : Prop := h ≠ [] ∧ h.length ≤ 4 ∧ ∀ c ∈ h, 33 ≤ c ∧ c ≤ 126 ∧ c ≠ 49 ∧ lowc c = c
theorem encOf_cst {e : Nat} (he : e = 1 ∨ e = 2) : encOf (cstOf e) = some e := by rcases he with rfl | rfl <;> decide
theorem bdec_benc {e : Nat} {h data : List Nat} (he : e = 1 ∨ e = 2) (hh : HrpOk h) (hd : ∀ d ∈ data, d < 32) (hl : data.length ≤ 60) : bdec (benc e h data) = some (e, h, data) := by
  have hx : ∀ d ∈ data ++ checksum e h data, d < 32 := fun d hm => (List.mem_append.mp hm).elim (hd d) (checksum_lt d)
  have hlen : (data ++ checksum e h data).length = data.length + 6 := by rw [List.length_append, checksum_len]
  have hck := checksum_ok e h data
  unfold benc
  generalize hxe : data ++ checksum e h data = x at *
  have hlow : (h ++ [49] ++ x.map fun d => CH.getD d 0).map lowc = h ++ [49] ++ x.map fun d => CH.getD d 0 := by
    rw [List.map_append, List.map_append]
    congr 1
    · congr 1
      conv => rhs; rw [← List.map_id h]
      exact List.map_congr_left fun c hc => (hh.2.2 c hc).2.2.2
    · rw [List.map_map]
      exact List.map_congr_left fun d hm => (CH_ok d (hx d hm)).2.2.2.2
  have hodd : odd1 (h ++ [49] ++ x.map fun d => CH.getD d 0) = false := by
    unfold odd1
    rw [hlow, beq_self_eq_true, Bool.not_true, Bool.false_and, Bool.or_false, List.any_eq_false]
    intro c hc
    have : 33 ≤ c ∧ c ≤ 126 := by
      rcases List.mem_append.mp hc with hc | hc
      · rcases List.mem_append.mp hc with hc | hc
        · exact ⟨(hh.2.2 c hc).1, (hh.2.2 c hc).2.1⟩
        · rw [List.mem_singleton.mp hc]; decide
      · obtain ⟨d, hm, rfl⟩ := List.mem_map.mp hc
        exact ⟨(CH_ok d (hx d hm)).2.2.1, (CH_ok d (hx d hm)).2.2.2.1⟩
    unfold badc
    simp; omega
  have hlast : lastAt 49 (h ++ [49] ++ x.map fun d => CH.getD d 0) = some h.length := lastAt_mid fun y hy => by
    obtain ⟨d, hm, rfl⟩ := List.mem_map.mp hy
    exact (CH_ok d (hx d hm)).2.1
  have hdrop : (h ++ [49] ++ x.map fun d => CH.getD d 0).drop (h.length + 1) = x.map fun d => CH.getD d 0 := by
    rw [List.drop_append_of_le_length (by simp)]
    rw [List.drop_eq_nil_of_le (by simp), List.nil_append]
  have htake : (h ++ [49] ++ x.map fun d => CH.getD d 0).take h.length = h := by
    rw [List.append_assoc, List.take_left']
    rfl
  have hidx : (x.map fun d => CH.getD d 0).map CH.idxOf = x := by
    rw [List.map_map]
    conv => rhs; rw [← List.map_id x]
    exact List.map_congr_left fun d hm => (CH_ok d (hx d hm)).1
  have hall : ((x.map fun d => CH.getD d 0).all fun c => decide (c ∈ CH)) = true := by
    rw [List.all_eq_true]
    intro c hc
    obtain ⟨d, hm, rfl⟩ := List.mem_map.mp hc
    exact decide_eq_true (CH_getD (hx d hm))
  have hpos : 1 ≤ h.length := List.length_pos_iff.mpr hh.1
  have hh4 := hh.2.1
  unfold bdec
  rw [if_neg (by rw [hodd]; exact Bool.false_ne_true), hlow, hlast]
  simp only
  rw [if_neg, hdrop, if_pos hall, htake, hidx, hck, encOf_cst he, List.length_map, hlen]
  · show some (e, h, x.take (data.length + 6 - 6)) = _
    rw [← hxe, Nat.add_sub_cancel, List.take_left']
    rfl
  · simp only [List.length_append, List.length_map, List.length_singleton, hlen, Bool.or_eq_true, decide_eq_true_eq]
    omega
theorem bd_bet {h p : List Nat} {v : Nat} (hh : HrpOk h) (hp : ∀ c ∈ p, c < 256) (hv : v = 0 ∧ (p.length = 20 ∨ p.length = 32) ∨ v = 1 ∧ p.length = 32) : bd h (bet h v p) = some (v, p) := by
  have hl := (cv85_val p hp)
  obtain ⟨z, hz, hl, _⟩ := hl
  have he : encNo v = 1 ∨ encNo v = 2 := by unfold encNo; split <;> simp
  have hb : bdec (bet h v p) = some (encNo v, h, v :: cv85 p) := bdec_benc he hh (fun d hd => by
    rcases List.mem_cons.mp hd with rfl | hd
    · omega
    · exact cv85_lt p d hd) (by rw [List.length_cons]; omega)
  unfold bd
  rw [hb]
  simp only
  rw [if_pos (by simp), List.drop_one, List.tail_cons, cv_back p hp]
  simp only
  rw [if_neg]
  · rfl
  · unfold bdCheck
    rw [List.getD_cons_zero]
    rcases hv with ⟨rfl, q | q⟩ | ⟨rfl, q⟩ <;> rw [q] <;> decide
theorem be_some {h p : List Nat} {v : Nat} (hh : HrpOk h) (hp : ∀ c ∈ p, c < 256) (hv : v = 0 ∧ (p.length = 20 ∨ p.length = 32) ∨ v = 1 ∧ p.length = 32) : be h v p = some (bet h v p) := by
  unfold be
  rw [bd_bet hh hp hv]
theorem hrp_bet {h p : List Nat} {v : Nat} (hh : HrpOk h) : hrpOf (bet h v p) = h := by
  unfold hrpOf bet benc
  rw [List.append_assoc, List.takeWhile_append_of_pos (fun c hc => by simpa using (hh.2.2 c hc).2.2.1)]
  rw [List.singleton_append, List.takeWhile_cons_of_neg (by simp), List.append_nil]
theorem bc_ok : HrpOk (codes "bc") := ⟨by decide, by decide, by decide⟩
theorem tb_ok : HrpOk (codes "tb") := ⟨by decide, by decide, by decide⟩
theorem bcrt_ok : HrpOk (codes "bcrt") := ⟨by decide, by decide, by decide⟩
end Mine
end
section
set_option maxRecDepth 100000
set_option maxHeartbeats 4000000
set_option linter.unusedVariables false
namespace Mine
open PySem PySem.W PyProof.Rows PySem.Calls PySem.Spec
theorem DG_ok : ∀ k, k < 58 → DG.idxOf (DG.getD k 0) = k ∧ DG.getD k 0 ∈ DG ∧ (k ≠ 0 → DG.getD k 0 ≠ 49) := by decide +kernel
theorem DG_one : DG.idxOf 49 = 0 ∧ 49 ∈ DG := by decide +kernel
def b58f (a c : Nat) : Nat := a * 58 + DG.idxOf c
theorem ones_fold (j : Nat) : (List.replicate j 49).foldl b58f 0 = 0 := by
  induction j with
  | zero => rfl
  | succ j ih =>
    rw [List.replicate_succ, List.foldl_cons]
    have : b58f 0 49 = 0 := by unfold b58f; rw [DG_one.1]
    rw [this]
    exact ih
theorem digs_fold (n : Nat) : ∀ j a, (digs n j).reverse.foldl b58f a = a * 58 ^ j + n % 58 ^ j
  | 0, a => by simp [digs, Nat.mod_one]
  | j + 1, a => by
    rw [digs_succ, List.reverse_append, List.reverse_singleton, List.singleton_append, List.foldl_cons, digs_fold n j]
    have e : b58f a (dAt n j) = a * 58 + n / 58 ^ j % 58 := by
      unfold b58f dAt
      rw [(DG_ok _ (Nat.mod_lt _ (by decide))).1]
    rw [e, Nat.add_mul, Nat.pow_succ, Nat.mod_mul, Nat.mul_assoc, Nat.mul_comm 58, Nat.add_assoc]
    congr 1
    rw [Nat.add_comm, Nat.mul_comm]
theorem nd_lt (n : Nat) : n < 58 ^ nd n := by
  have h := nd_spec n (nd n)
  have : ¬ 0 < n / 58 ^ nd n := fun q => Nat.lt_irrefl _ (h.mpr q)
  have e : n / 58 ^ nd n = 0 := Nat.eq_zero_of_not_pos this
  exact (Nat.div_eq_zero_iff_lt (Nat.pow_pos (by decide))).mp e
theorem b58n_b58 (b : Array UInt8) : b58n (b58 b) = fob b := by
  unfold b58n b58
  show List.foldl b58f 0 _ = _
  rw [List.foldl_append, ones_fold, digs_fold, Nat.zero_mul, Nat.zero_add, Nat.mod_eq_of_lt (nd_lt _)]
theorem digs_mem (n j : Nat) : ∀ c ∈ digs n j, c ∈ DG := fun c hc => by
  unfold digs at hc
  obtain ⟨i, _, rfl⟩ := List.mem_map.mp hc
  exact (DG_ok _ (Nat.mod_lt _ (by decide))).2.1
theorem b58_mem (b : Array UInt8) : ∀ c ∈ b58 b, c ∈ DG := fun c hc => by
  unfold b58 at hc
  rcases List.mem_append.mp hc with hc | hc
  · rw [List.eq_of_mem_replicate hc]; exact DG_one.2
  · exact digs_mem _ _ c (List.mem_reverse.mp hc)
theorem ldc_rep (j : Nat) (x : List Nat) : ldc 49 (List.replicate j 49 ++ x) = j + ldc 49 x := by
  induction j with
  | zero => simp
  | succ j ih =>
    rw [List.replicate_succ, List.cons_append]
    show (if (49 : Nat) = 49 then ldc 49 (List.replicate j 49 ++ x) + 1 else 0) = _
    rw [if_pos rfl, ih]; omega
theorem fob_val (b : Array UInt8) : fob b = val 256 (bnat b) := by
  unfold fob val bnat
  rw [List.foldl_map]
theorem bnat_inj {a b : Array UInt8} (h : bnat a = bnat b) : a = b := by
  unfold bnat at h
  rw [← Array.toList_inj]
  exact List.map_inj_right (fun x y e => UInt8.toNat_inj.mp e) |>.mp h
theorem digits_val (X : Nat) : ∀ n, val 256 (((List.range n).map fun i => X / 256 ^ i % 256).reverse) = X % 256 ^ n
  | 0 => by simp [val, Nat.mod_one]
  | n + 1 => by
    rw [List.range_succ, List.map_append, List.reverse_append]
    show val 256 ([X / 256 ^ n % 256] ++ _) = _
    rw [val_app, digits_val X n, List.length_reverse, List.length_map, List.length_range, Nat.pow_succ, Nat.mod_mul]
    have : val 256 [X / 256 ^ n % 256] = X / 256 ^ n % 256 := by simp [val]
    rw [this, Nat.mul_comm, Nat.add_comm]
theorem tob_bnat {n X : Nat} (h : X < 256 ^ n) : bnat (tob n X) = ((List.range n).map fun i => X / 256 ^ i % 256).reverse := by
  unfold bnat tob
  have e := KTBy.low_ints (x := (X : Int)) (n := n) (by omega) (by rw [KTBy.p256]; exact Int.ofNat_lt.mpr h)
  have e2 : (KTBy.low (X : Int) n).map UInt8.toNat = (List.range n).map fun i => X / 256 ^ i % 256 := by
    have e3 := congrArg (List.map Int.toNat) e
    rw [List.map_map, List.map_map] at e3
    have h1 : (Int.toNat ∘ fun c : UInt8 => ((c.toNat : Nat) : Int)) = UInt8.toNat := by funext c; simp
    have h2 : (Int.toNat ∘ fun i : Nat => (X : Int) / 256 ^ i % 256) = fun i => X / 256 ^ i % 256 := by
      funext i
      show (((X : Int) / 256 ^ i % 256)).toNat = _
      rw [KTBy.p256]
      have : ((X : Int) / ((256 ^ i : Nat) : Int) % 256) = ((X / 256 ^ i % 256 : Nat) : Int) := by
        rw [← Int.natCast_ediv]; rfl
      rw [this, Int.toNat_natCast]
    rw [h1, h2] at e3
    exact e3
  rw [← e2, ← List.map_reverse]
theorem tob_fob {n : Nat} (b : Array UInt8) (h : b.size = n) : tob n (fob b) = b := by
  subst h
  have hlt := fob_lt b
  refine bnat_inj (val_inj b.size _ _ ?_ (bnat_len b) (fun v hv => bnat_lt _ v hv) (fun v hv => bnat_lt _ v hv) ?_)
  · rw [tob_bnat hlt]; simp
  · rw [tob_bnat hlt, digits_val, Nat.mod_eq_of_lt hlt, fob_val]
theorem lead_split : ∀ l : List UInt8, ∃ r, l = List.replicate (lead (l.map UInt8.toNat)) 0 ++ r ∧ (r = [] ∨ ∃ c s, r = c :: s ∧ c.toNat ≠ 0)
  | [] => ⟨[], rfl, .inl rfl⟩
  | c :: s => by
    by_cases q : c.toNat = 0
    · obtain ⟨r, h1, h2⟩ := lead_split s
      refine ⟨r, ?_, h2⟩
      have e : lead ((c :: s).map UInt8.toNat) = lead (s.map UInt8.toNat) + 1 := by
        show (if c.toNat = 0 then lead (s.map UInt8.toNat) + 1 else 0) = _
        rw [if_pos q]
      have hc : c = 0 := UInt8.toNat_inj.mp q
      rw [e, List.replicate_succ, List.cons_append, ← h1, hc]
    · refine ⟨c :: s, ?_, .inr ⟨c, s, rfl, q⟩⟩
      have e : lead ((c :: s).map UInt8.toNat) = 0 := by
        show (if c.toNat = 0 then lead (s.map UInt8.toNat) + 1 else 0) = _
        rw [if_neg q]
      rw [e]; rfl
theorem zeros_val (j : Nat) : val 256 (List.replicate j 0) = 0 := by
  unfold val
  induction j with
  | zero => rfl
  | succ j ih => rw [List.replicate_succ, List.foldl_cons]; exact ih
theorem nd_zero : nd 0 = 0 := by unfold nd; rfl
theorem b58_back {b : Array UInt8} (hb : 1 ≤ b.size) : b58d (b58 b) = some b := by
  obtain ⟨r, h1, h2⟩ := lead_split b.toList
  have hlead : lead (b.toList.map UInt8.toNat) = lead (bnat b) := rfl
  rw [hlead] at h1
  generalize hj : lead (bnat b) = j at h1
  have hn : fob b = val 256 (r.map UInt8.toNat) := by
    rw [fob_val]
    unfold bnat
    rw [h1, List.map_append, val_app, List.map_replicate]
    show val 256 (List.replicate j 0) * _ + _ = _
    rw [zeros_val, Nat.zero_mul, Nat.zero_add]
  have hfr : fob r.toArray = fob b := by rw [hn, fob_val]; rfl
  have hb' : b = (List.replicate j (0 : UInt8)).toArray ++ r.toArray := by
    rw [← Array.toList_inj, h1]; simp
  have hne : b58 b ≠ [] := by
    unfold b58
    rw [hj]
    rcases h2 with rfl | ⟨c, s, rfl, hc⟩
    · rw [List.append_nil] at h1
      have : b.toList.length = j := by rw [h1, List.length_replicate]
      rw [Array.length_toList] at this
      cases j with
      | zero => omega
      | succ j => rw [List.replicate_succ]; simp
    · intro e
      have e2 := (List.append_eq_nil_iff.mp e).2
      rw [List.reverse_eq_nil_iff] at e2
      have e3 : nd (fob b) = 0 := by rw [← digs_len (fob b) (nd (fob b)), e2]; rfl
      have := nd_lt (fob b)
      rw [e3, hn] at this
      have e4 : val 256 ((c :: s).map UInt8.toNat) = c.toNat * 256 ^ s.length + val 256 (s.map UInt8.toNat) := by
        show val 256 ([c.toNat] ++ s.map UInt8.toNat) = _
        rw [val_app, List.length_map]; simp [val]
      rw [e4] at this
      have h5 : 0 < c.toNat * 256 ^ s.length := Nat.mul_pos (Nat.pos_of_ne_zero hc) (Nat.pow_pos (by decide))
      omega
  unfold b58d
  rw [if_neg hne, if_pos (by rw [List.all_eq_true]; exact fun c hc => decide_eq_true (b58_mem b c hc)), b58n_b58]
  congr 1
  rcases h2 with rfl | ⟨c, s, rfl, hc⟩
  · have h0 : fob b = 0 := by rw [hn]; rfl
    have hl : b.size = j := by rw [← Array.length_toList, h1]; simp
    have e : b58 b = List.replicate j 49 := by
      unfold b58
      rw [hj, h0, nd_zero]
      simp [digs]
    rw [e, h0]
    obtain ⟨k, rfl⟩ : ∃ k, j = k + 1 := ⟨j - 1, by omega⟩
    have e2 : (List.replicate (k + 1) 49).dropLast = List.replicate k 49 := by simp
    have e3 : ldc 49 (List.replicate k 49) = k := by
      have := ldc_rep k []
      rw [List.append_nil] at this
      rw [this]; rfl
    have e4 : bl 0 = 1 := by decide
    have e5 : tob 1 0 = #[0] := tob_fob (n := 1) #[0] rfl
    rw [e2, e3, e4, e5, hb', ← Array.toList_inj]
    simp [List.replicate_succ']
  · have hval : val 256 ((c :: s).map UInt8.toNat) = c.toNat * 256 ^ s.length + val 256 (s.map UInt8.toNat) := by
      show val 256 ([c.toNat] ++ s.map UInt8.toNat) = _
      rw [val_app, List.length_map]; simp [val]
    have hge : 256 ^ s.length ≤ fob b := by
      rw [hn, hval]
      exact Nat.le_trans (Nat.le_mul_of_pos_left _ (Nat.pos_of_ne_zero hc)) (Nat.le_add_right _ _)
    have hlt : fob b < 256 ^ (s.length + 1) := by
      rw [← hfr]
      exact fob_lt _
    have hbl : bl (fob b) = s.length + 1 := by
      have h3 := bl_le (m := s.length + 1) (by omega) hlt
      have h4 := bl_lt (fob b)
      rcases Nat.lt_or_ge s.length (bl (fob b)) with q | q
      · omega
      · exact absurd (Nat.lt_of_lt_of_le h4 (Nat.pow_le_pow_right (by decide) q)) (Nat.not_lt.mpr hge)
    have hpos : 0 < fob b := Nat.lt_of_lt_of_le (Nat.pow_pos (by decide)) hge
    obtain ⟨m, hm⟩ : ∃ m, nd (fob b) = m + 1 := by
      cases e : nd (fob b) with
      | zero =>
        have := nd_lt (fob b)
        rw [e] at this
        omega
      | succ m => exact ⟨m, rfl⟩
    have hd : (digs (fob b) (m + 1)).reverse = dAt (fob b) m :: (digs (fob b) m).reverse := by
      rw [digs_succ, List.reverse_append]; rfl
    have hd49 : dAt (fob b) m ≠ 49 := by
      unfold dAt
      refine (DG_ok _ (Nat.mod_lt _ (by decide))).2.2 ?_
      have h3 := (nd_spec (fob b) m).mp (by omega)
      have h4 := nd_lt (fob b)
      rw [hm, Nat.pow_succ] at h4
      have h5 : fob b / 58 ^ m < 58 := Nat.div_lt_of_lt_mul h4
      rw [Nat.mod_eq_of_lt h5]
      omega
    have hldc : ldc 49 (b58 b).dropLast = j := by
      unfold b58
      rw [hj, hm, hd, List.dropLast_append_of_ne_nil (by simp), ldc_rep]
      cases e : (digs (fob b) m).reverse with
      | nil => rfl
      | cons x y =>
        show j + ldc 49 (dAt (fob b) m :: (x :: y).dropLast) = j
        have : ldc 49 (dAt (fob b) m :: (x :: y).dropLast) = 0 := by
          show (if dAt (fob b) m = 49 then _ else 0) = 0
          rw [if_neg hd49]
        rw [this]
        rfl
    rw [hldc, hbl]
    have := tob_fob (n := s.length + 1) (c :: s).toArray (by simp)
    rw [hfr] at this
    rw [this]
    exact hb'.symm
theorem pk_cut {a c : Array UInt8} (hc : c.size = 4) : pk (a ++ c) none (some (-4)) = a ∧ pk (a ++ c) (some (-4)) none = c := by
  have hs : clipAt (a ++ c).size (-4) = a.size := by
    rw [Array.size_append, hc]; unfold clipAt; omega
  constructor
  · unfold pk
    rw [KBc.picked_eq]
    simp only [Option.elim, hs]
    rw [← Array.toList_inj]
    simp
  · unfold pk
    rw [KBc.picked_eq]
    simp only [Option.elim, hs]
    rw [← Array.toList_inj, Array.size_append, hc]
    simp
    exact List.take_of_length_le (by simp [hc])
theorem pk_four (d : Array UInt8) (hd : d.size = 32) : pk d (some 0) (some 4) = pk d none (some 4) ∧ (pk d (some 0) (some 4)).size = 4 := by
  have h0 : clipAt d.size 0 = 0 := by rw [hd]; decide
  have h4 : clipAt d.size 4 = 4 := by rw [hd]; decide
  constructor
  · unfold pk
    rw [KBc.picked_eq, KBc.picked_eq]
    simp only [Option.elim, h0]
  · unfold pk
    rw [KBc.picked_eq]
    simp only [Option.elim, h0, h4]
    simp [hd]
theorem dc_of {l : List Nat} {b' r : Array UInt8} (h : b58d l = some b') (hp : pk b' (some (-4)) none = dcs b') (hr : pk b' none (some (-4)) = r) : dc l = some r := by
  unfold dc
  rw [h]
  show (if (pk b' (some (-4)) none == dcs b') = true then some (pk b' none (some (-4))) else none) = some r
  rw [hp, if_pos (beq_self_eq_true _), hr]
theorem dcs_eq {b' b : Array UInt8} (h : pk b' none (some (-4)) = b) : dcs b' = pk (dsha b) none (some 4) := by unfold dcs; rw [h]
theorem dc_ec (b : Array UInt8) : dc (ec b) = some b := by
  obtain ⟨h1, h2⟩ := pk_four (dsha b) (dsha_size b)
  have e : ec b = b58 (b ++ pk (dsha b) (some 0) (some 4)) := rfl
  rw [e]
  generalize hc : pk (dsha b) (some 0) (some 4) = c at *
  obtain ⟨h3, h4⟩ := pk_cut (a := b) h2
  exact dc_of (b58_back (by rw [Array.size_append, h2]; omega)) (by rw [h4, dcs_eq h3]; exact h1) h3
end Mine
end
section
set_option maxRecDepth 100000
set_option maxHeartbeats 4000000
set_option linter.unusedVariables false
namespace Mine
open PySem PySem.W PyProof.Rows PySem.Calls PySem.Spec
theorem clip_le {n k : Nat} (h : k ≤ n) : clipAt n (k : Int) = k := by unfold clipAt; omega
theorem pk_to {b : Array UInt8} {j : Nat} (h : j ≤ b.size) : (pk b none (some (j : Int))).toList = b.toList.take j := by
  unfold pk
  rw [KBc.picked_eq]
  simp only [Option.elim, clip_le h]
  simp
theorem pk_from {b : Array UInt8} {i : Nat} (h : i ≤ b.size) : (pk b (some (i : Int)) none).toList = b.toList.drop i := by
  unfold pk
  rw [KBc.picked_eq]
  simp only [Option.elim, clip_le h]
  exact List.take_of_length_le (by simp)
theorem pk_mid {b : Array UInt8} {i j : Nat} (hi : i ≤ b.size) (hj : j ≤ b.size) : (pk b (some (i : Int)) (some (j : Int))).toList = (b.toList.drop i).take (j - i) := by
  unfold pk
  rw [KBc.picked_eq]
  simp only [Option.elim, clip_le hi, clip_le hj]
structure NetOk (x y : UInt8) (h : List Nat) : Prop where
  xy : x = 0 ∧ y = 5 ∨ x = 111 ∧ y = 196
  hrp : HrpOk h
theorem pre_one (x : UInt8) (m : Array UInt8) : pk (#[x] ++ m) none (some 1) = #[x] ∧ pk (#[x] ++ m) (some 1) none = m := by
  have h1 : 1 ≤ (#[x] ++ m).size := by rw [Array.size_append]; show 1 ≤ 1 + m.size; omega
  constructor
  · rw [← Array.toList_inj]
    have := pk_to (b := #[x] ++ m) (j := 1) h1
    rw [show ((1 : Nat) : Int) = 1 from rfl] at this
    rw [this]; simp
  · rw [← Array.toList_inj]
    have := pk_from (b := #[x] ++ m) (i := 1) h1
    rw [show ((1 : Nat) : Int) = 1 from rfl] at this
    rw [this]; simp
theorem as_ec (o : Array UInt8) : asB (ec o) = asO o := by rw [asB_eq, dc_ec]
theorem asO_pkh {x : UInt8} (hx : x = 0 ∨ x = 111) (m : Array UInt8) : asO (#[x] ++ m) = some (some (#[118, 169, 20] ++ m ++ #[136, 172])) := by
  obtain ⟨h1, h2⟩ := pre_one x m
  unfold asO
  rw [if_pos, h2]
  unfold P0
  rw [h1]
  rcases hx with rfl | rfl <;> decide
theorem asO_sh {y : UInt8} (hy : y = 5 ∨ y = 196) (m : Array UInt8) : asO (#[y] ++ m) = some (some (#[169, 20] ++ m ++ #[135])) := by
  obtain ⟨h1, h2⟩ := pre_one y m
  unfold asO
  rw [if_neg, if_pos, h2]
  · unfold P5
    rw [h1]
    rcases hy with rfl | rfl <;> decide
  · unfold P0
    rw [h1]
    rcases hy with rfl | rfl <;> decide
theorem T1_all {b : Array UInt8} (h : T1 b = true) : #[118, 169, 20] ++ pk b (some 3) (some 23) ++ #[136, 172] = b := by
  have hs := T1_size h
  unfold T1 at h
  rw [Bool.and_eq_true, Bool.and_eq_true, Bool.and_eq_true, beq_iff_eq, beq_iff_eq, beq_iff_eq] at h
  obtain ⟨_, h1, h2, _⟩ := h
  have e1 : (pk b none (some ((3 : Nat) : Int))).toList = b.toList.take 3 := pk_to (by omega)
  have e2 : (pk b (some (-2)) none).toList = b.toList.drop 23 := by
    have e : pk b (some (-2)) none = pk b (some ((23 : Nat) : Int)) none := by
      unfold pk
      rw [KBc.picked_eq, KBc.picked_eq]
      have : clipAt b.size (-2) = clipAt b.size ((23 : Nat) : Int) := by rw [hs]; decide
      simp only [Option.elim, this]
    rw [e]; exact pk_from (by omega)
  have e3 : (pk b (some ((3 : Nat) : Int)) (some ((23 : Nat) : Int))).toList = (b.toList.drop 3).take 20 := pk_mid (by omega) (by omega)
  rw [← Array.toList_inj, Array.toList_append, Array.toList_append]
  have e3' : (pk b (some 3) (some 23)).toList = (b.toList.drop 3).take 20 := e3
  have e1' : (pk b none (some 3)).toList = b.toList.take 3 := e1
  rw [e3', ← h1, ← h2, e1', e2]
  have hl : b.toList.length = 25 := by rw [Array.length_toList, hs]
  have a1 : b.toList.drop 23 = (b.toList.drop 3).drop 20 := by rw [List.drop_drop]
  rw [a1, List.append_assoc, List.take_append_drop, List.take_append_drop]
theorem T2_all {b : Array UInt8} (h : T2 b = true) : #[169, 20] ++ pk b (some 2) (some 22) ++ #[135] = b := by
  have hs := T2_size h
  unfold T2 at h
  rw [Bool.and_eq_true, Bool.and_eq_true, Bool.and_eq_true, beq_iff_eq, beq_iff_eq, beq_iff_eq] at h
  obtain ⟨_, h1, h2, _⟩ := h
  have e1' : (pk b none (some 2)).toList = b.toList.take 2 := pk_to (j := 2) (by omega)
  have e3' : (pk b (some 2) (some 22)).toList = (b.toList.drop 2).take 20 := pk_mid (i := 2) (j := 22) (by omega) (by omega)
  have e2 : b.toList.drop 22 = [b.getD 22 0] := by
    rw [List.drop_eq_getElem_cons (by simp [hs]), List.drop_of_length_le (by simp [hs])]
    simp [Array.getD_eq_getD_getElem?, Array.getElem?_eq_getElem (show 22 < b.size by omega)]
  rw [← Array.toList_inj, Array.toList_append, Array.toList_append, e3', ← h1, e1']
  have e4 : (#[135] : Array UInt8).toList = b.toList.drop 22 := by rw [e2, h2]
  have a1 : b.toList.drop 22 = (b.toList.drop 2).drop 20 := by rw [List.drop_drop]
  rw [e4, a1, List.append_assoc, List.take_append_drop, List.take_append_drop]
theorem bts_bnat (b : Array UInt8) : bts (bnat b) = b := by
  unfold bts bnat
  rw [List.map_map, ← Array.toList_inj]
  have : ((fun n => n.toUInt8) ∘ UInt8.toNat) = (id : UInt8 → UInt8) := by funext c; simp
  rw [this]
  simp
theorem bnat_cut {b : Array UInt8} (h : 2 ≤ b.size) : bnat b = at' b 0 :: at' b 1 :: bnat (pk b (some 2) none) := by
  have e : (pk b (some 2) none).toList = b.toList.drop 2 := pk_from (i := 2) h
  unfold bnat
  rw [e]
  obtain ⟨l⟩ := b
  match l, h with
  | c0 :: c1 :: r, _ => rfl
theorem prog_len {b : Array UInt8} (h : 2 ≤ b.size) : (bnat (pk b (some 2) none)).length = b.size - 2 := by
  have := congrArg List.length (bnat_cut h)
  rw [bnat_len, List.length_cons, List.length_cons] at this
  omega
theorem DG_ascii : ∀ c ∈ DG, c < 128 := by decide +kernel
theorem nd_bound {n m : Nat} (h : n < 58 ^ m) : nd n ≤ m := by
  rcases Nat.lt_or_ge m (nd n) with q | q
  · have := (nd_spec n m).mp q
    rw [Nat.div_eq_of_lt h] at this
    exact absurd this (Nat.lt_irrefl 0)
  · exact q
theorem b58_len (b : Array UInt8) : (b58 b).length ≤ 3 * b.size := by
  unfold b58
  rw [List.length_append, List.length_replicate, List.length_reverse, digs_len]
  have h1 := lead_le (bnat b)
  rw [bnat_len] at h1
  have h2 : nd (fob b) ≤ 2 * b.size := nd_bound (Nat.lt_of_lt_of_le (fob_lt b) (by
    rw [Nat.pow_mul]
    exact Nat.pow_le_pow_left (by decide) _))
  omega
theorem ec_ascii (b : Array UInt8) : ∀ c ∈ ec b, c < 128 := fun c hc => DG_ascii c (b58_mem _ c hc)
theorem ec_len (b : Array UInt8) : (ec b).length ≤ 3 * b.size + 12 := by
  have h := b58_len (b ++ pk (dsha b) (some 0) (some 4))
  have h2 := (pk_four (dsha b) (dsha_size b)).2
  rw [Array.size_append, h2] at h
  exact Nat.le_trans h (by omega)
theorem ec_pos (b : Array UInt8) : 1 ≤ (ec b).length := by
  have h := dc_ec b
  rcases Nat.eq_zero_or_pos (ec b).length with q | q
  · rw [List.length_eq_zero_iff.mp q] at h
    exfalso
    have e : dc [] = some #[] ∨ dc [] = none := by
      unfold dc
      show (if _ then _ else _) = _ ∨ (if _ then _ else _) = _
      split
      · left; decide
      · right; rfl
    have hb : b = #[] := by
      rcases e with e | e
      · rw [e] at h; exact (Option.some.inj h).symm
      · rw [e] at h; cases h
    have h1 : b58d (ec b) = some (b ++ pk (dsha b) (some 0) (some 4)) := b58_back (by rw [Array.size_append, (pk_four (dsha b) (dsha_size b)).2]; omega)
    rw [List.length_eq_zero_iff.mp q] at h1
    have h2 : b58d [] = some #[] := rfl
    rw [h2] at h1
    have h3 := congrArg Array.size (Option.some.inj h1)
    rw [Array.size_append, (pk_four (dsha b) (dsha_size b)).2] at h3
    simp at h3
  · exact q
theorem bet_len {h p : List Nat} {v : Nat} (hp : ∀ c ∈ p, c < 256) (hl : p.length ≤ 40) (hh : h.length ≤ 4) : (bet h v p).length ≤ 80 := by
  obtain ⟨z, hz, hl', _⟩ := cv85_val p hp
  unfold bet
  rw [benc_len, List.length_cons]
  omega
theorem bet_ascii {h p : List Nat} {v : Nat} (ha : ∀ c ∈ h, c < 128) (hv : v < 32) : ∀ c ∈ bet h v p, c < 128 := benc_ascii ha fun d hd => by
  rcases List.mem_cons.mp hd with rfl | hd
  · exact hv
  · exact cv85_lt p d hd
theorem HrpOk.ascii {h : List Nat} (k : HrpOk h) : ∀ c ∈ h, c < 128 := fun c hc => by have := (k.2.2 c hc).2.1; omega
/-- a text that the law makes or asks about -/
structure TextOk (t : List Nat) : Prop where
  ascii : ∀ c ∈ t, c < 128
  len : t.length ≤ 200
theorem asB_some {t : List Nat} {b : Array UInt8} (h : dc t = none → asB t = some (some b)) : ∃ r, asB t = some r ∧ (r = some b ∨ (dc t).isSome = true) := by
  cases hd : dc t with
  | none => exact ⟨_, h hd, .inl rfl⟩
  | some o =>
    rw [asB_eq, hd]
    show ∃ r, asO o = some r ∧ _
    unfold asO
    split
    · exact ⟨_, rfl, .inr rfl⟩
    · split <;> exact ⟨_, rfl, .inr rfl⟩
/-- the address of a script of one of the five kinds -/
theorem la_facts {x y : UInt8} {h : List Nat} (N : NetOk x y h) {b : Array UInt8} (hb : kind b ≠ none) : ∃ t, la x y h b = some t ∧ TextOk t ∧ 1 ≤ t.length ∧ ∃ r, asB t = some r ∧ (r = some b ∨ (T1 b = false ∧ T2 b = false ∧ (dc t).isSome = true)) := by
  unfold la
  by_cases h1 : T1 b = true
  · rw [if_pos h1]
    have hs := T1_size h1
    have hp : (pk b (some 3) (some 23)).size ≤ 25 := by have := pk_le b (some 3) (some 23); omega
    refine ⟨_, rfl, ⟨ec_ascii _, Nat.le_trans (ec_len _) (by rw [Array.size_append]; show 3 * (1 + (pk b (some 3) (some 23)).size) + 12 ≤ 200; omega)⟩, ec_pos _, some b, ?_, .inl rfl⟩
    rw [as_ec, asO_pkh (N.xy.elim (fun q => .inl q.1) fun q => .inr q.1), T1_all h1]
  rw [if_neg h1]
  by_cases h2 : T2 b = true
  · rw [if_pos h2]
    have hs := T2_size h2
    have hp : (pk b (some 2) (some 22)).size ≤ 25 := by have := pk_le b (some 2) (some 22); omega
    refine ⟨_, rfl, ⟨ec_ascii _, Nat.le_trans (ec_len _) (by rw [Array.size_append]; show 3 * (1 + (pk b (some 2) (some 22)).size) + 12 ≤ 200; omega)⟩, ec_pos _, some b, ?_, .inl rfl⟩
    rw [as_ec, asO_sh (N.xy.elim (fun q => .inl q.2) fun q => .inr q.2), T2_all h2]
  rw [if_neg h2]
  have key : ∃ v : Nat, (v = 0 ∧ (b.size = 22 ∨ b.size = 34) ∧ at' b 0 = 0 ∧ at' b 1 = b.size - 2 ∨ v = 1 ∧ b.size = 34 ∧ at' b 0 = 81 ∧ at' b 1 = 32) ∧
      (if T3 b then be h 0 (bnat (pk b (some 2) none)) else if T4 b then be h 0 (bnat (pk b (some 2) none)) else if T5 b then be h 1 (bnat (pk b (some 2) none)) else none) = be h v (bnat (pk b (some 2) none)) := by
    unfold kind at hb
    rw [if_neg h1, if_neg h2] at hb
    by_cases h3 : T3 b = true
    · rw [if_pos h3]
      obtain ⟨a1, a2, a3⟩ := (T3_iff b).mp h3
      exact ⟨0, .inl ⟨rfl, .inl a1, a2, by omega⟩, rfl⟩
    rw [if_neg h3] at hb ⊢
    by_cases h4 : T4 b = true
    · rw [if_pos h4]
      obtain ⟨a1, a2, a3⟩ := (T4_iff b).mp h4
      exact ⟨0, .inl ⟨rfl, .inr a1, a2, by omega⟩, rfl⟩
    rw [if_neg h4] at hb ⊢
    by_cases h5 : T5 b = true
    · rw [if_pos h5]
      obtain ⟨a1, a2, a3⟩ := (T5_iff b).mp h5
      exact ⟨1, .inr ⟨rfl, a1, a2, a3⟩, rfl⟩
    rw [if_neg h5] at hb
    exact absurd rfl hb
  obtain ⟨v, hv, e⟩ := key
  rw [e]
  have h2s : 2 ≤ b.size := by omega
  have hcut := bnat_cut h2s
  have hpl := prog_len h2s
  have hpb : ∀ c ∈ bnat (pk b (some 2) none), c < 256 := fun c hc => bnat_lt _ c hc
  generalize hp : bnat (pk b (some 2) none) = p at *
  have hv' : v = 0 ∧ (p.length = 20 ∨ p.length = 32) ∨ v = 1 ∧ p.length = 32 := by omega
  have hbts : asP v p = some (some b) := by
    unfold asP
    rcases hv with ⟨rfl, q1, q2, q3⟩ | ⟨rfl, q1, q2, q3⟩
    · rw [if_pos]
      · have : p.length = at' b 1 := by omega
        rw [this, ← q2, ← hcut, bts_bnat]
      · rw [Bool.and_eq_true, Bool.or_eq_true, beq_iff_eq, beq_iff_eq, beq_iff_eq]
        omega
    · rw [if_neg, if_pos]
      · rw [← q2, ← q3, ← hcut, bts_bnat]
      · rw [Bool.and_eq_true, beq_iff_eq, beq_iff_eq]
        omega
      · simp
  refine ⟨_, be_some N.hrp hpb hv', ⟨bet_ascii N.hrp.ascii (by omega), Nat.le_trans (bet_len hpb (by omega) N.hrp.2.1) (by decide)⟩, by unfold bet; rw [benc_len]; omega, ?_⟩
  obtain ⟨r, hr, hor⟩ := asB_some (t := bet h v p) (b := b) (fun hd => by
    rw [asB_eq, hd]
    show (match bd (hrpOf (bet h v p)) (bet h v p) with | none => none | some (v, p) => asP v p) = _
    rw [hrp_bet N.hrp, bd_bet N.hrp hpb hv']
    exact hbts)
  exact ⟨r, hr, hor.imp id fun q => ⟨by simpa using h1, by simpa using h2, q⟩⟩
end Mine
end
section
set_option maxRecDepth 100000
set_option maxHeartbeats 4000000
set_option linter.unusedVariables false
namespace Mine
open PySem PySem.W PyProof.Rows PySem.Calls PySem.Spec
def ks (row : Array UInt8) : List (Array UInt8) := [#[118, 169, 20] ++ pk row none (some 20) ++ #[136, 172], #[169, 20] ++ pk row none (some 20) ++ #[135], #[0, 20] ++ pk row none (some 20), #[0, 32] ++ row, #[81, 32] ++ row]
theorem T1_mk {m : Array UInt8} (hm : m.size = 20) : T1 (#[118, 169, 20] ++ m ++ #[136, 172]) = true := by
  have hs : (#[118, 169, 20] ++ m ++ #[136, 172]).size = 25 := by simp [hm]
  have e1 : pk (#[118, 169, 20] ++ m ++ #[136, 172]) none (some 3) = #[118, 169, 20] := by
    rw [← Array.toList_inj]
    refine (pk_to (j := 3) (by omega)).trans ?_
    simp
  have e2 : pk (#[118, 169, 20] ++ m ++ #[136, 172]) (some 23) none = #[136, 172] := by
    rw [← Array.toList_inj]
    refine (pk_from (i := 23) (by omega)).trans ?_
    rw [Array.toList_append]
    exact List.drop_left' (by simp [hm])
  rw [← U1_eq]
  unfold U1
  rw [hs, e1, e2]
  decide
theorem T2_mk {m : Array UInt8} (hm : m.size = 20) : T2 (#[169, 20] ++ m ++ #[135]) = true := by
  have hs : (#[169, 20] ++ m ++ #[135]).size = 23 := by simp [hm]
  have e1 : pk (#[169, 20] ++ m ++ #[135]) none (some 2) = #[169, 20] := by
    rw [← Array.toList_inj]
    refine (pk_to (j := 2) (by omega)).trans ?_
    simp
  have e2 : pk (#[169, 20] ++ m ++ #[135]) (some 22) none = #[135] := by
    rw [← Array.toList_inj]
    refine (pk_from (i := 22) (by omega)).trans ?_
    rw [Array.toList_append]
    exact List.drop_left' (by simp [hm])
  rw [← U2_eq]
  unfold U2
  rw [hs, e1, e2]
  decide
theorem at_two (c0 c1 : UInt8) (m : Array UInt8) : at' (#[c0, c1] ++ m) 0 = c0.toNat ∧ at' (#[c0, c1] ++ m) 1 = c1.toNat ∧ (#[c0, c1] ++ m).size = m.size + 2 := by
  have e : #[c0, c1] ++ m = (c0 :: c1 :: m.toList).toArray := by rw [← Array.toList_inj]; simp
  rw [e]
  exact ⟨rfl, rfl, by simp⟩
theorem kind_some {b : Array UInt8} (h : T1 b = true ∨ T2 b = true ∨ T3 b = true ∨ T4 b = true ∨ T5 b = true) : kind b ≠ none := by
  unfold kind
  split
  · simp
  split
  · simp
  split
  · simp
  split
  · simp
  split
  · simp
  simp_all
theorem ks_kind {row : Array UInt8} (hrs : row.size = 32) {i : Nat} {b : Array UInt8} (h : (ks row)[i]? = some b) : kind b ≠ none ∧ b.size ≤ 40 ∧ 22 ≤ b.size ∧ (i = 0 → T1 b = true) ∧ (i = 1 → T2 b = true) := by
  have hm : (pk row none (some 20)).size = 20 := by
    have := congrArg List.length (pk_to (b := row) (j := 20) (by omega))
    rw [List.length_take, Array.length_toList, Array.length_toList] at this
    exact this.trans (by omega)
  have h20 : (20 : UInt8).toNat = 20 := by decide
  have h32 : (32 : UInt8).toNat = 32 := by decide
  have h81 : (81 : UInt8).toNat = 81 := by decide
  have h0 : (0 : UInt8).toNat = 0 := by decide
  match i, h with
  | 0, h =>
    cases h
    have q := T1_mk hm
    have hs : (#[118, 169, 20] ++ pk row none (some 20) ++ #[136, 172]).size = 25 := T1_size q
    exact ⟨kind_some (.inl q), by omega, by omega, fun _ => q, fun e => by cases e⟩
  | 1, h =>
    cases h
    have q := T2_mk hm
    have hs : (#[169, 20] ++ pk row none (some 20) ++ #[135]).size = 23 := T2_size q
    exact ⟨kind_some (.inr (.inl q)), by omega, by omega, fun e => (by cases e), fun _ => q⟩
  | 2, h =>
    cases h
    obtain ⟨a1, a2, a3⟩ := at_two 0 20 (pk row none (some 20))
    exact ⟨kind_some (.inr (.inr (.inl ((T3_iff _).mpr ⟨by omega, by omega, by omega⟩)))), by omega, by omega, fun e => (by cases e), fun e => by cases e⟩
  | 3, h =>
    cases h
    obtain ⟨a1, a2, a3⟩ := at_two 0 32 row
    exact ⟨kind_some (.inr (.inr (.inr (.inl ((T4_iff _).mpr ⟨by omega, by omega, by omega⟩))))), by omega, by omega, fun e => (by cases e), fun e => by cases e⟩
  | 4, h =>
    cases h
    obtain ⟨a1, a2, a3⟩ := at_two 81 32 row
    exact ⟨kind_some (.inr (.inr (.inr (.inr ((T5_iff _).mpr ⟨by omega, by omega, by omega⟩))))), by omega, by omega, fun e => (by cases e), fun e => by cases e⟩
  | n + 5, h => cases h
end Mine
end
section
set_option maxRecDepth 100000
set_option maxHeartbeats 4000000
set_option linter.unusedVariables false
namespace Mine
open PySem PySem.W PyProof.Rows PySem.Calls PySem.Spec
/-- the place from which the law is called -/
def Ctop (w : World) (G : Heap) (os : OsState) (env : Env) (h₀ : Heap) : Cx := { w := w, G := G, os := os, A := callerA, env := env, frs := [], h₀ := h₀, Fo := [], n := 61, cs := [], kept := [] }
theorem enter_top {w : World} {G : Heap} {env0 : Env} {s : Shared} {ρ : List (Str × Dat)} {env : Env} {cs : List (Str × Addr)} {m : Str → Option Value} {h1 : Heap} {t : Nat} (b : Base w G s.os s) (hk : env.scope.kind = .function) (hg : env.globals = mainGlobals) (hb : env.builtins = builtinsNs)
    (hf : env.frame = some env.locals) (hL : s.heap.objs.size ≤ env.locals) (hns : h1.Ns env.locals m) (keep : ∀ b o, s.heap.get? b = some o → h1.get? b = some o)
    (hcs : ∀ p ∈ cs, env.locals < p.2 ∧ ∃ v, h1.IsCell p.2 v) (hm : ∀ p ∈ ρ, env.kindOf p.1 = some .local ∧ ∃ v, m p.1 = some v ∧ Rep [] s.heap v p.2) :
    Body ((Ctop w G s.os env0 s.heap).fn s.heap env cs) ∧ Ok ((Ctop w G s.os env0 s.heap).fn s.heap env cs) ρ { s with heap := h1, toks := t } := by
  have hF : ((Ctop w G s.os env0 s.heap).fn s.heap env cs).F = [env.locals] := by
    show List.filterMap _ [env] = _
    simp [hf]
  have hgp : gP < s.heap.objs.size := by
    obtain ⟨ps, p, _⟩ := b.gi
    exact Heap.lt_size p
  have ne : ∀ {a : Addr}, s.heap.objs.size ≤ a → a ≠ gP := fun h q => by subst q; exact absurd hgp (Nat.not_lt.mpr h)
  have hG : G.get? env.locals = none := by
    cases e : G.get? env.locals with
    | none => rfl
    | some ob => exact absurd (Heap.lt_size (b.stay _ _ e)) (Nat.not_lt.mpr hL)
  refine ⟨⟨⟨[], rfl⟩, hf, fun q => by cases q⟩, ⟨⟨Around.frames_deeper rfl, ?_, ?_, hk, hg, hb, ne hL, ?_, ?_, ?_, ?_, ⟨env, [], rfl, rfl⟩, b.stay, ?_, ?_, ?_⟩, b.keeps keep, .of_keep keep, ?_, .inl rfl, ⟨m, hns⟩, ?_, ?_⟩⟩
  · show callerA.depth + 1 + (61 - 1) < recursionLimit
    decide
  · show callerA.units + 3 + 8 * (61 - 1) < cLine
    decide
  · intro b' hb' _
    rw [hF] at hb'
    rw [List.mem_singleton.mp hb']
    exact none_size hL
  · intro b' hb'; cases hb'
  · rw [hF]; intro q; exact ne hL (List.mem_singleton.mp q).symm
  · intro b' ob e L hL'
    rw [hF] at hL'
    rw [List.mem_singleton.mp hL']
    exact Nat.lt_of_lt_of_le (Heap.lt_size (b.stay _ _ e)) hL
  · obtain ⟨ps, p, _⟩ := b.gi
    exact ⟨_, p⟩
  · intro p hp
    obtain ⟨h2, _⟩ := hcs p hp
    have hle : s.heap.objs.size ≤ p.2 := Nat.le_of_lt (Nat.lt_of_le_of_lt hL h2)
    refine ⟨none_size hle, ne hle, fun q => ?_⟩
    rw [hF] at q
    rw [List.mem_singleton.mp q] at h2
    exact Nat.lt_irrefl _ h2
  · intro b' hb'; cases hb'
  · intro e he
    rw [List.mem_singleton.mp he]
    exact ⟨by rw [hk]; decide, _, hf, hG, m, hns⟩
  · exact fun p hp => (hcs p hp).2
  · intro p hp
    obtain ⟨h2, v, h3, h4⟩ := hm p hp
    refine ⟨v, .inl ⟨h2, m, hns, h3⟩, ?_⟩
    rw [hF]
    exact (h4.more hL).gr (.of_keep keep)
theorem top_call {w : World} {G : Heap} {s : Shared} {name qual : Str} {params : Arguments} {body : List Stmt} {scope : Scope} {dV kV doc pm cdv ct oc : Value} {an od : Option Addr} {osl : Array (Option Value)} {f : Addr} {vs : List Value} {ds : List Dat} {d : Dat}
    (b : Base w G s.os s) (r : Reps [] s.heap vs ds) (ho : (Kf w).lookup f = some ⟨oc, od, .func (fnOf name qual params body scope dV kV doc pm an cdv ct), osl⟩) (hcd : codeIn (Kf w) cdv qual = true) (names : List Str)
    (hb : ∀ (vs : List Value), vs.length = ds.length → bindArgs (fnOf name qual params body scope dV kV doc pm an cdv ct) ⟨vs, []⟩ = pure (names.zip vs))
    (hnames : names.Nodup) (hloc : ∀ y ∈ names, scope.names.lookup y = some .local) (hcl : ∀ L, ∀ p ∈ cellsFrom (L + 1) scope.names [], (cellsFrom (L + 1) scope.names []).lookup p.1 = some p.2)
    (hbody : ∀ C : Cx, 60 ≤ C.n → C.A.handled = none → C.w = w → ∀ h₀ L, Xs (C.fn h₀ (envOfC qual scope L f cdv) (cellsFrom (L + 1) scope.names [])) (names.zip ds) body (.ret d))
    (hck : scope.kind = .function) (hco : scope.isCoroutine = false) (hgen : scope.isGenerator = false) :
    wpAny (Mw w) callerA (call (.ref f) vs) (fun v s' => Base w G s.os s' ∧ Gr [] s.heap s'.heap ∧ Rep [] s'.heap v d) (fun _ _ => False) s := by
  have KX : (Kf w).In s.heap := b.wd.kin.keeps b.stay
  have hlim : s.heap.NoLimit := b.wd.nolimit.keeps b.stay
  refine wpAny_call (codeAny_call_cells (fd := fnOf name qual params body scope dV kV doc pm an cdv ct) (body := body) (by decide) (KX _ _ ho) rfl hlim (codeRec_of KX hcd) rfl (hb vs r.length) rfl (fun p hp => .inl (hloc _ (List.of_mem_zip hp).1)) (fun s₁ hs => ?_) hco hgen hck)
  have hce : callEnvC (fnOf name qual params body scope dV kV doc pm an cdv ct) s.heap.objs.size f = envOfC qual scope s.heap.objs.size f cdv := rfl
  rw [hce] at hs ⊢
  obtain ⟨⟨⟨h1, tk, rfl⟩, hns, hkeep, hfresh⟩, hcell, _, habove⟩ := hs
  obtain ⟨bd, ok⟩ := enter_top (env0 := envOfC qual scope s.heap.objs.size f cdv) (ρ := names.zip ds) (env := envOfC qual scope s.heap.objs.size f cdv) (cs := cellsFrom (s.heap.objs.size + 1) scope.names []) (t := tk) b hck rfl rfl rfl (Nat.le_refl _) hns hkeep (fun p hp => ⟨habove p.1 p.2 hp, _, hcell p.1 p.2 (hcl _ p hp)⟩) fun p hp => by
    refine ⟨hloc _ (List.of_mem_zip hp).1, ?_⟩
    obtain ⟨v, h2, h3⟩ := zip_mem r p hp
    exact ⟨v, bindL_mem (fun q hq => hloc _ (List.of_mem_zip hq).1) (zip_nodup _ _ hnames) h2, h3⟩
  refine wpAny_mono (hbody (Ctop w G s.os _ s.heap) (by show 60 ≤ 61; decide) rfl rfl s.heap s.heap.objs.size _ bd ok) (fun fl s' ⟨p, _⟩ => ?_) fun e s' p => p.elim
  obtain ⟨v, rfl, o', q⟩ := p
  exact ⟨o'.base, o'.gr, q.less fun b hb => by cases hb⟩
end Mine
end
section
set_option maxRecDepth 100000
set_option maxHeartbeats 4000000
set_option linter.unusedVariables false
namespace Mine
open PySem PySem.W PyProof.Rows PySem.Calls PySem.Spec
theorem slot_bne_refl : Slot "bytes" (cmpInfo .NotEq).2.2 "bytes.__ne__" := FB.slot_bytes_ne
theorem sub_bytes_none : isSubtype (.type "bytes") (.type "NoneType") = pure false := by rw [isSubtype_type]; kernel_rfl
theorem gives_nb (a : Array UInt8) (t : Tok) : Gives (Builtin.«NoneType.__ne__» ⟨[.none, .bytes a t], []⟩) (.val (Value.notImplemented)) :=
  .of_wp fun M A E s Q h => by obtain ⟨hp, g, d, tk, os⟩ := s; wp_walk; exact ⟨_, rfl, h⟩
theorem sub_none_bytes : isSubtype (.type "NoneType") (.type "bytes") = pure false := by rw [isSubtype_type]; kernel_rfl
theorem gives_bn (a : Array UInt8) (t : Tok) : Gives (Builtin.«bytes.__ne__» ⟨[.bytes a t, .none], []⟩) (.val (Value.notImplemented)) :=
  .of_wp fun M A E s Q h => by
    obtain ⟨hp, g, d, tk, os⟩ := s
    wp_walk
    refine wpAny_of_eq sub_none_bytes ?_
    rw [if_pos (by decide)]
    exact wpAny_bind (wpAny_rule (wpAny_pure ⟨_, rfl, h⟩))
theorem cmp_neNB {C : Cx} (a : Array UInt8) : Cmp C .NotEq .none (.bytes a) true := fun s v1 v2 o r1 r2 => by
  cases r1
  cases r2 with
  | bytes _ t =>
  show wpAny _ _ (richCompare .NotEq _ _) _ _ _
  exact EqNone.wpAny_richCompare_ne_decline (k := false) (fun _ => rfl) (fun s' => typeIs_bytes s' a t) (by decide) sub_bytes_none F.slot_NoneType_ne slot_bne_refl rfl
    (call_gives F.slot_NoneType_ne rfl F.entry_NoneType_ne (F.args_NoneType_ne_2 _ _) (gives_nb a t)
      ⟨rfl, call_gives slot_bne_refl (typeIs_bytes s a t) FB.entry_bytes_ne (FB.args_bytes_ne_2 _ _) (gives_bn a t) ⟨rfl, .refl o, rfl⟩⟩)
end Mine
end
section
set_option maxRecDepth 100000
set_option maxHeartbeats 4000000
set_option linter.unusedVariables false
namespace Mine
open PySem PySem.W PyProof.Rows PySem.Calls PySem.Spec
-- MAC
local macro_rules | `(tactic| k_mem) => `(tactic| first | (with_reducible exact mem_self) | (with_reducible exact List.Mem.head _) | ((with_reducible refine mem_other ?_ ?_); (focus decide); k_mem) | ((with_reducible refine List.Mem.tail _ ?_); k_mem))
local macro_rules | `(tactic| k_inst) => `(tactic| first
  | ((with_reducible refine ev_name ?_ ?_ ?_); (focus k_mem); (focus decide); decide)
  | ((with_reducible refine ev_nat ?_); rfl)
  | (with_reducible refine ev_bin (op := .BitXor) ?_ ?_ (op_xorN _ _)) | (with_reducible refine ev_bin (op := .BitAnd) ?_ ?_ (op_andN _ _)) | (with_reducible refine ev_bin (op := .RShift) ?_ ?_ (op_shrN _ _))
  | (with_reducible refine ev_bin (op := .LShift) ?_ ?_ (op_shlN ?_)) | (with_reducible refine ev_bin (op := .Add) ?_ ?_ (op_addN _ _)) | (with_reducible refine ev_bin (op := .Mod) ?_ ?_ (op_modN _ ?_))
  | ((with_reducible refine evs_cons ?_ ?_ ?h3); (case h3 => rfl)) | (with_reducible exact evs_nil))
-- CAM
theorem cmp_neO {C : Cx} (o : Option Str) : Cmp C .NotEq (optS o) (optS o) false := by
  cases o with
  | none => exact cmp_neNN
  | some x => exact (cmp_neS x x).cast (by simp)
theorem cmp_neT {C : Cx} (o : Option (List Nat)) : Cmp C .NotEq (optStr o) (optStr o) false := by
  cases o with
  | none => exact cmp_neNN
  | some x => exact (cmp_neS (mk x) (mk x)).cast (by simp)
def nums (xs : List Int) : List Nat := (xs.take 8).map Int.natAbs
def headOf (xs : List Int) : Nat := (nums xs).headD 0
def seedOf (xs : List Int) : List Nat := if (nums xs).length > 1 then (nums xs).drop 1 else [headOf xs]
def rowOf (sd : List Nat) : Array UInt8 := bts ((List.range 32).map fun k => (sd.getD (k % sd.length) 0 + 41 * k) % 256)
theorem seed_pos (xs : List Int) : 1 ≤ (seedOf xs).length := by
  unfold seedOf
  split
  · rw [List.length_drop]; omega
  · simp
theorem seed_len (xs : List Int) : (seedOf xs).length ≤ 8 := by
  unfold seedOf
  split
  · rw [List.length_drop]; unfold nums; rw [List.length_map, List.length_take]; omega
  · simp
theorem bts_size (l : List Nat) : (bts l).size = l.length := by unfold bts; simp
theorem row_size (sd : List Nat) : (rowOf sd).size = 32 := by unfold rowOf; rw [bts_size]; simp
theorem net_pick {i : Nat} (hi : i < 4) : ∃ nm a x y h, ([Dat.str "main", .str "test", .str "regtest", .str "signet"])[i]? = some (.str nm) ∧ (∀ C : Cx, ItOn C (.cst (.ref 22)) (.str nm) (.cst (.ref a))) ∧ NetA a x y h ∧ NetOk x y h ∧ (i = 0 → a = 23 ∧ x = 0 ∧ y = 5 ∧ h = codes "bc") := by
  have k : ∀ (w : World), nsIn (Kf w) 22 "main" = some (some (.ref 23)) ∧ nsIn (Kf w) 22 "test" = some (some (.ref 24)) ∧ nsIn (Kf w) 22 "regtest" = some (some (.ref 25)) ∧ nsIn (Kf w) 22 "signet" = some (some (.ref 26)) := fun w => ⟨rfl, rfl, rfl, rfl⟩
  have g : ∀ (C : Cx) (x : Str) (a : Addr), nsIn (Kf C.w) 22 x = some (some (.ref a)) → ItOn C (.cst (.ref 22)) (.str x) (.cst (.ref a)) := fun C x a e => by
    obtain ⟨es, n, hl, hk, _⟩ := lit22 C.w
    exact it_K hl hk e fun _ _ => .cst _
  match i, hi with
  | 0, _ => exact ⟨"main", 23, 0, 5, _, rfl, fun C => g C _ _ (k C.w).1, fun C => net23, ⟨.inl ⟨rfl, rfl⟩, bc_ok⟩, fun _ => ⟨rfl, rfl, rfl, rfl⟩⟩
  | 1, _ => exact ⟨"test", 24, 111, 196, _, rfl, fun C => g C _ _ (k C.w).2.1, fun C => net24, ⟨.inr ⟨rfl, rfl⟩, tb_ok⟩, fun q => by cases q⟩
  | 2, _ => exact ⟨"regtest", 25, 111, 196, _, rfl, fun C => g C _ _ (k C.w).2.2.1, fun C => net25, ⟨.inr ⟨rfl, rfl⟩, bcrt_ok⟩, fun q => by cases q⟩
  | 3, _ => exact ⟨"signet", 26, 111, 196, _, rfl, fun C => g C _ _ (k C.w).2.2.2, fun C => net26, ⟨.inr ⟨rfl, rfl⟩, tb_ok⟩, fun q => by cases q⟩
theorem cmp_neR {C : Cx} (o : Option (Option (Array UInt8))) : Cmp C .NotEq (rdOf o) (rdOf o) false := by
  match o with
  | none => exact (cmp_neS _ _).cast (by simp)
  | some none => exact cmp_neNN
  | some (some b) => exact (cmp_neB _ _).cast (by simp)
theorem rd_flat (o : Option (Option (Array UInt8))) : (rdOf o).flat = true ∧ (rdOf o).noCst = true := by
  match o with
  | none => exact ⟨rfl, rfl⟩
  | some none => exact ⟨rfl, rfl⟩
  | some (some b) => exact ⟨rfl, rfl⟩
def SG : List Nat := codes "qpzry9x8gf2tvdw0s3jn54khce6mua7l1BCDEFGHJKLMNPQRSTUVWXYZ0O"
theorem SG_len : SG.length = 58 := by decide
theorem SG_mk : ("qpzry9x8gf2tvdw0s3jn54khce6mua7l1BCDEFGHJKLMNPQRSTUVWXYZ0O" : Str) = mk SG := (mk_codes _).symm
theorem SG_ascii : ∀ i, i < 58 → SG.getD i 0 < 128 := by decide +kernel
theorem kp_988 {C : Cx} : Kp C (.ref 988) := kp_K fun w => by kernel_rfl
theorem kp_995 {C : Cx} : Kp C (.ref 995) := kp_K fun w => by kernel_rfl
theorem kp_1002 {C : Cx} : Kp C (.ref 1002) := kp_K fun w => by kernel_rfl
theorem kp_1009 {C : Cx} : Kp C (.ref 1009) := kp_K fun w => by kernel_rfl
theorem kp_1016 {C : Cx} : Kp C (.ref 1016) := kp_K fun w => by kernel_rfl
theorem kp_965' {C : Cx} : Kp C (.ref 965) := kp_965
theorem ev_script {C : Cx} {ρ : List (Str × Dat)} {e : Expr} {p pos : Pos} {b : Array UInt8} (hn : 5 ≤ C.n) (h : Ev C ρ e (.bytes b)) (hk : C.env.kindOf "Script" = some .globalImplicit := by rfl) (hst : notStar e = true := by rfl)
    (hform : eval (.Call (.Name "Script" p) [e] [] pos) C.env = (do callWith pos (← eval (.Name "Script" p) C.env) [] (backTo pos (starEach [e] C.env)) (backToKw pos (keywordEach [] C.env))) := by rfl) : Ev C ρ (.Call (.Name "Script" p) [e] [] pos) (.inst 965 b) :=
  ev_call (ev_gl gl_Script hk) (evs1 h hst) kp_965 (script_make hn b) hform
theorem ev_stype {C : Cx} {ρ : List (Str × Dat)} {e : Expr} {apos pos : Pos} {b : Array UInt8} (hn : 1 ≤ C.n) (hb : b.size ≤ 1000) (h : Ev C ρ e (.inst 965 b)) (hline : (apos.endLine == pos.line) = true := by rfl) (hbase : attributeBase e "script_type" C.env (eval e C.env) = eval e C.env := by rfl) :
    Ev C ρ (.Call (.Attribute e "script_type" apos) [] [] pos) (optS (kind b)) :=
  ev_instM (c := 965) (b := b) h .nil (ga965 _) (gt965 _) (st965 _) (ty907 _) (fun hh tk t => rfl) kp_907 (st_cal hn hb) hline hbase
theorem ev_kind {C : Cx} {ρ : List (Str × Dat)} {e : Expr} {p pos : Pos} {b : Array UInt8} (hn : 2 ≤ C.n) (hb : b.size ≤ 1000) (h : Ev C ρ e (.bytes b)) (hk : C.env.kindOf "_law_kind" = some .globalImplicit := by rfl) (hst : notStar e = true := by rfl)
    (hform : eval (.Call (.Name "_law_kind" p) [e] [] pos) C.env = (do callWith pos (← eval (.Name "_law_kind" p) C.env) [] (backTo pos (starEach [e] C.env)) (backToKw pos (keywordEach [] C.env))) := by rfl) : Ev C ρ (.Call (.Name "_law_kind" p) [e] [] pos) (optS (kind b)) :=
  ev_call (ev_gl gl_law_kind hk) (evs1 h hst) kp_981 (lk_cal hn hb) hform
theorem optS_isNone (o : Option Str) : (optS o).noCst = true ∧ (optS o).isNone = o.isNone := by cases o <;> exact ⟨rfl, rfl⟩
theorem op_addM {C : Cx} {a b : List Nat} (h : a.length + b.length ≤ 1000) : Op2 C .Add (.str (mk a)) (.str (mk b)) (.str (mk (a ++ b))) := by
  rw [← mk_app]
  exact op_addS (by rw [mk_len, mk_len, sizeLine_eq]; omega)
abbrev sM (u : List Nat) : Dat := .str (mk u)
def OkT (u : List Nat) : Prop := (∀ c ∈ u, c < 128) ∧ u.length ≤ 300
theorem bytes_inj (a b : Array UInt8) (h : Dat.bytes a = .bytes b) : a = b := by cases h; rfl
theorem uppc_lt {c : Nat} (h : c < 128) : uppc c < 128 := by unfold uppc; split <;> omega
theorem optStr_isNone (o : Option (List Nat)) : (optStr o).noCst = true ∧ (optStr o).isNone = o.isNone := by cases o <;> exact ⟨rfl, rfl⟩
theorem be_ok {h p : List Nat} {v : Nat} (ha : ∀ c ∈ h, c < 128) (hl : h.length ≤ 4) (hv : v < 32) (hp : ∀ c ∈ p, c < 256) (hpl : p.length ≤ 40) {u : List Nat} (e : be h v p = some u) : OkT u := by
  unfold be at e
  split at e
  · cases e
  · cases e
    exact ⟨bet_ascii ha hv, Nat.le_trans (bet_len hp hpl hl) (by decide)⟩
theorem int_inj (a b : Int) (h : Dat.int a = .int b) : a = b := by cases h; rfl
theorem cells_seed {y : Str} {L : Addr} (hy : y ≠ "seed") : List.lookup y [((("row" : Str), L + 2) : Str × Addr), ("seed", L + 1)] ≠ some (L + 1) := fun q => by
  rw [List.lookup_cons] at q
  split at q
  · have : L + 2 = L + 1 := Option.some.inj q
    exact Nat.succ_ne_self (L + 1) this
  · rw [List.lookup_cons, show (y == "seed") = false from by simpa using hy] at q
    cases q
theorem cells_row {y : Str} {L : Addr} (hy : y ≠ "row") : List.lookup y [((("row" : Str), L + 2) : Str × Addr), ("seed", L + 1)] ≠ some (L + 2) := fun q => by
  rw [List.lookup_cons, show (y == "row") = false from by simpa using hy, List.lookup_cons] at q
  simp only at q
  split at q
  · have : L + 1 = L + 2 := Option.some.inj q
    exact Nat.succ_ne_self (L + 1) this.symm
  · cases q
theorem law_body {C : Cx} (hn : 30 ≤ C.n) (hh : C.A.handled = none) (xs : List Int) (hxs : xs.length ≤ 63) (h₀ : Heap) (L : Addr) : ∃ q sc cd bd oc od osl nm pr dV kV doc pm an ct, (Kf C.w).lookup 1021 = some ⟨oc, od, .func (fnOf nm q pr bd sc dV kV doc pm an cd ct), osl⟩ ∧
    Xs (C.fn h₀ (envOfC q sc L 1021 cd) (cellsFrom (L + 1) sc.names [])) [("script", .list (xs.map .int))] bd (.ret (.bool true)) := by
  refine ⟨_, _, _, _, _, _, _, _, _, _, _, _, _, _, _, rfl, ?_⟩
  refine xs_cons (xt_assignComp (ρc := []) (xs.take 8) .int (fun i => dn i.natAbs) int_inj ?_ (fun _ => rfl) (fun _ => rfl) (by rw [sizeLine_eq, List.length_take]; omega) (fun N a _ => ?_) free_nil rfl) ?_
  · refine evIt (ev_slice (d1 := .list (xs.map .int)) (d := .list ((xs.take 8).map .int)) (by k_inst) .none (.some (ev_int 8 _ _)) .none ?_) (itr_list fun d hd => ?_)
    · rw [List.map_take]
      exact sl_upto (k := 8) (by rw [List.length_map, sizeLine_eq]; omega)
    · obtain ⟨i, _, rfl⟩ := List.mem_map.mp hd; rfl
  · exact ev_call (ev_bi bi_abs rfl) (evs1 (d := .int a) (ev_call (ev_bi bi_int rfl) (evs1 (d := .int a) (by k_inst)) (kp_type _) (cal_int _))) (kp_builtin _) (cal_abs _)
  have e1 : Dat.list ((xs.take 8).map fun i => dn i.natAbs) = nl (nums xs) := by unfold nums; show _ = Dat.list (List.map dn (List.map Int.natAbs (xs.take 8))); rw [List.map_map]; rfl
  rw [e1]
  have hnl : (nums xs).length ≤ 8 := by unfold nums; rw [List.length_map, List.length_take]; omega
  have tnum : ∀ {C' : Cx}, Tr C' (nl (nums xs)) (!(nums xs).isEmpty) := fun {C'} => by
    have := tr_list (C := C') (xs := (nums xs).map dn) (by rw [List.length_map, sizeLine_eq]; omega)
    rw [List.isEmpty_map] at this
    exact this
  refine xs_cons (xt_assign (d := dn (headOf xs)) (ev_if (c := !(nums xs).isEmpty) (ts_val (d := nl (nums xs)) (by k_inst) tnum) (fun q => ?_) fun q => ?_)) ?_
  · refine ev_item (d1 := nl (nums xs)) (d2 := dn 0) (by k_inst) (by k_inst) (it_listN (by rw [List.length_map]; omega) ?_)
    unfold headOf
    cases e : nums xs with
    | nil => rw [e] at q; cases q
    | cons a r => rfl
  · have : nums xs = [] := by simpa using q
    unfold headOf
    rw [this]
    exact ev_nat rfl
  refine xs_cons (xt_assignC (c := L + 1) (d := nl (seedOf xs)) (ev_if (c := decide ((nums xs).length > 1)) (ts_cmp (ev_lenL (l := nums xs) (by k_inst) (by omega)) (by k_inst) (cmp_gtN _ 1)) (fun q => ?_) fun q => ?_) rfl rfl ?_ ?_) ?_
  · unfold seedOf
    rw [if_pos (by simpa using q)]
    show Ev _ _ _ (.list (((nums xs).drop 1).map dn))
    rw [List.map_drop]
    exact ev_slice (d1 := nl (nums xs)) (by k_inst) (.some (ev_int 1 _ _)) .none .none (sl_from (k := 1) (by rw [List.length_map, sizeLine_eq]; omega))
  · unfold seedOf
    rw [if_neg (by simpa using q)]
    exact ev_listD (ds := [dn (headOf xs)]) (evs1 (by k_inst)) (by simp)
  · exact ⟨"seed", .tail _ (.head _)⟩
  · exact fun y hy q => cells_seed hy q
  have hsl := seed_len xs
  have hsp := seed_pos xs
  generalize hsd : seedOf xs = sd at hsl hsp ⊢
  generalize hhd : headOf xs = hd0
  refine xs_cons (xt_assignC (c := L + 2) (d := .bytes (rowOf sd)) (ev_call (ev_bi bi_bytes rfl) (evs1 (d := nl ((List.range 32).map fun k => (sd.getD (k % sd.length) 0 + 41 * k) % 256)) ?_) (kp_type _) (cal_bytesL (fun n hn => ?_) (by simp))) rfl rfl ⟨"row", .head _⟩ fun y hy q => cells_row hy q) ?_
  · show Ev _ _ _ (.list (((List.range 32).map fun k => (sd.getD (k % sd.length) 0 + 41 * k) % 256).map dn))
    rw [List.map_map]
    refine ev_compM (ρc := [("seed", nl sd)]) (List.range 32) dn _ dn_inj (evIt_range (n := 32) (ev_bi bi_range rfl) (by k_inst) (by decide)) (fun _ => rfl) (fun _ => rfl) (by decide) (fun N a ha => ?_) ?_ rfl
    · have h32 : a < 32 := List.mem_range.mp ha
      have hlt : a % sd.length < sd.length := Nat.mod_lt _ (by omega)
      refine ev_bin (d1 := dn (sd.getD (a % sd.length) 0 + 41 * a)) (d2 := dn 256) (ev_bin (d1 := dn (sd.getD (a % sd.length) 0)) (d2 := dn (41 * a)) (ev_item (d1 := nl sd) (d2 := dn (a % sd.length)) (by k_inst) (ev_bin (d1 := dn a) (d2 := dn sd.length) (by k_inst) (ev_lenL (l := sd) (by k_inst) (by omega)) (op_modN _ (by omega))) (it_listN (by rw [List.length_map]; omega) ?_)) (ev_bin (d1 := dn 41) (d2 := dn a) (by k_inst) (by k_inst) (op_mulN (mul_ok 10 10 (by decide) (by omega) (by decide)))) (op_addN _ _)) (by k_inst) (op_modN _ (by decide))
      rw [List.getElem?_map, List.getD_eq_getElem?_getD, List.getElem?_eq_getElem hlt]
      rfl
    · intro p hp
      cases List.mem_singleton.mp hp
      exact ⟨by k_mem, rfl, rfl, rfl⟩
  · obtain ⟨k, _, rfl⟩ := List.mem_map.mp hn
    exact Nat.mod_lt _ (by decide)
  have hrs := row_size sd
  generalize hrow : rowOf sd = row at hrs ⊢
  have hrz : row.size ≤ sizeLine := by rw [hrs, sizeLine_eq]; decide
  have h20 : (KBy.picked row none (some 20)).size ≤ 32 := hrs ▸ pk_le row none (some 20)
  have e20 : ∀ {C' : Cx} {ρ : List (Str × Dat)} {p1 p2 p3 p4 : Pos} {k1 : Nat}, (("row", .bytes row) : Str × Dat) ∈ ρ → Ev C' ρ (.Subscript (.Name "row" p1) (.Slice none (some (.Constant (.int 20) k1 p2)) none p3) p4) (.bytes (pk row none (some 20))) := fun hm =>
    ev_slice (d1 := .bytes row) (ev_name hm) .none (.some (ev_int 20 _ _)) .none (sl_bytes hrz)
  refine xs_cons (xt_assign (d := .list ((ks row).map .bytes)) (ev_listD (ds := (ks row).map .bytes) (.cons ?_ rfl (.cons ?_ rfl (.cons ?_ rfl (.cons ?_ rfl (.cons ?_ rfl .nil))))) (by simp [ks]))) ?_
  · refine ev_bin (d1 := .bytes (#[118, 169, 20] ++ pk row none (some 20))) (d2 := .bytes #[136, 172]) (ev_bin (d1 := .bytes #[118, 169, 20]) (ev_bytes _ _ _) (e20 (by k_mem)) (op_addB ?_)) (ev_bytes _ _ _) (op_addB ?_)
    · show 3 + (KBy.picked row none (some 20)).size ≤ _; omega
    · rw [Array.size_append]; show 3 + (KBy.picked row none (some 20)).size + 2 ≤ _; omega
  · refine ev_bin (d1 := .bytes (#[169, 20] ++ pk row none (some 20))) (d2 := .bytes #[135]) (ev_bin (d1 := .bytes #[169, 20]) (ev_bytes _ _ _) (e20 (by k_mem)) (op_addB ?_)) (ev_bytes _ _ _) (op_addB ?_)
    · show 2 + (KBy.picked row none (some 20)).size ≤ _; omega
    · rw [Array.size_append]; show 2 + (KBy.picked row none (some 20)).size + 1 ≤ _; omega
  · refine ev_bin (d1 := .bytes #[0, 20]) (ev_bytes _ _ _) (e20 (by k_mem)) (op_addB ?_)
    show 2 + (KBy.picked row none (some 20)).size ≤ _; omega
  · refine ev_bin (d1 := .bytes #[0, 32]) (d2 := .bytes row) (ev_bytes _ _ _) (by k_inst) (op_addB ?_)
    show 2 + row.size ≤ _; omega
  · refine ev_bin (d1 := .bytes #[81, 32]) (d2 := .bytes row) (ev_bytes _ _ _) (by k_inst) (op_addB ?_)
    show 2 + row.size ≤ _; omega
  have h5 : hd0 % 5 < 5 := Nat.mod_lt _ (by decide)
  obtain ⟨b, hb⟩ : ∃ b, (ks row)[hd0 % 5]? = some b := ⟨(ks row)[hd0 % 5]'h5, List.getElem?_eq_getElem h5⟩
  refine xs_cons (xt_assign (d := .bytes b) (ev_item (d1 := .list ((ks row).map .bytes)) (d2 := dn (hd0 % 5)) (by k_inst) (ev_bin (d1 := dn hd0) (d2 := dn 5) (by k_inst) (by k_inst) (op_modN _ (by decide))) (it_listN (by simp [ks]) (by rw [List.getElem?_map, hb]; rfl)))) ?_
  obtain ⟨nm, a, x, y, h, hnm, hit, N, NO, hz⟩ := net_pick (i := hd0 / 5 % 4) (Nat.mod_lt _ (by decide))
  refine xs_cons (xt_assign (d := .cst (.ref a)) (ev_item (d1 := .cst (.ref 22)) (d2 := .str nm) (ev_gl gl_NETWORKS rfl) (ev_item (d1 := .list [.str "main", .str "test", .str "regtest", .str "signet"]) (d2 := dn (hd0 / 5 % 4)) (ev_listD (.cons (ev_str _ _ _) rfl (.cons (ev_str _ _ _) rfl (.cons (ev_str _ _ _) rfl (.cons (ev_str _ _ _) rfl .nil)))) (by simp)) (ev_bin (d1 := dn (hd0 / 5)) (d2 := dn 4) (ev_bin (d1 := dn hd0) (d2 := dn 5) (by k_inst) (by k_inst) (op_divN _ (by decide) (by decide))) (by k_inst) (op_modN _ (by decide))) (it_listN (by simp) hnm)) (hit _))) ?_
  have hn1 : 1 ≤ C.n - 1 := by omega
  have hn2 : 2 ≤ C.n - 1 := by omega
  have hn5 : 5 ≤ C.n - 1 := by omega
  have hn9 : 9 ≤ C.n - 1 := by omega
  have hn11 : 11 ≤ C.n - 1 := by omega
  obtain ⟨hk, hbs, hb22, hT1, hT2⟩ := ks_kind hrs hb
  obtain ⟨t, hla, ht, htp, r, hr, hor⟩ := la_facts NO hk
  obtain ⟨k, hkk⟩ : ∃ k, kind b = some k := Option.ne_none_iff_exists'.mp hk
  have hla' : Dat.str (mk t) = optStr (la x y h b) := by rw [hla]; rfl
  have hha := NO.hrp.ascii
  have hhl : h.length ≤ 100 := Nat.le_trans NO.hrp.2.1 (by decide)
  have htl := ht.len
  have hta := ht.ascii
  refine xs_cons (xt_assign (d := .str (mk t)) (by rw [hla']; exact ev_call (ev_gl gl_law_address rfl) (evs2 (d := .bytes b) (d' := .cst (.ref a)) (by k_inst) (by k_inst)) kp_988 (by exact lad_cal hn9 (by exact hh) N hha hhl (by omega)))) ?_
  generalize hone : (if hd0 % 5 < 2 then 3 else hd0 / 5 % 3 : Nat) = one
  refine xs_pre (ρ' := [("seed", nl sd), ("row", .bytes row), ("head", dn hd0), ("octets", .bytes b), ("network", .cst (.ref a)), ("text", .str (mk t))]) (fun p hp => ?_) ?_
  · simp only [List.mem_cons, List.not_mem_nil, or_false] at hp
    rcases hp with rfl | rfl | rfl | rfl | rfl | rfl <;> k_mem
  refine xs_iff ((ts_bool (or_cons (p := false) (ts_cmp (d1 := optS (kind b)) (d2 := optS (kind b)) (ev_stype hn1 (by omega) (ev_script hn5 (by k_inst))) (ev_kind hn2 (by omega) (by k_inst)) (cmp_neO _)) fun _ => or_cons (p := false) ((ts_cmp (d1 := .str (mk t)) (by k_inst) (ev_none _ _) (cmp_isN rfl)).cast rfl) fun _ => or_nil)).cast rfl) ?_
  have hmod5 : ∀ {C' : Cx} {ρ : List (Str × Dat)} {p1 p2 p3 : Pos} {k1 : Nat}, (("head", dn hd0) : Str × Dat) ∈ ρ → Ev C' ρ (.BinOp (.Name "head" p1) .Mod (.Constant (.int 5) k1 p2) p3) (dn (hd0 % 5)) := fun hm => ev_bin (d1 := dn hd0) (d2 := dn 5) (ev_name hm) ev_nat (op_modN _ (by decide))
  have hdiv5 : ∀ {C' : Cx} {ρ : List (Str × Dat)} {p1 p2 p3 : Pos} {k1 : Nat}, (("head", dn hd0) : Str × Dat) ∈ ρ → Ev C' ρ (.BinOp (.Name "head" p1) .FloorDiv (.Constant (.int 5) k1 p2) p3) (dn (hd0 / 5)) := fun hm => ev_bin (d1 := dn hd0) (d2 := dn 5) (ev_name hm) ev_nat (op_divN _ (by decide) (by decide))
  refine xs_cons (xt_assign (d := dn one) (ev_if (c := decide (hd0 % 5 < 2)) (ts_cmp (hmod5 (by k_mem)) (by k_inst) (cmp_ltN _ 2)) (fun q => ?_) fun q => ?_)) ?_
  · rw [← hone, if_pos (by simpa using q)]; exact ev_nat rfl
  · rw [← hone, if_neg (by simpa using q)]
    exact ev_bin (d1 := dn (hd0 / 5)) (d2 := dn 3) (hdiv5 (by k_mem)) (by k_inst) (op_modN _ (by decide))
  refine xs_pre (ρ' := [("one", dn one), ("seed", nl sd), ("row", .bytes row), ("head", dn hd0), ("octets", .bytes b), ("network", .cst (.ref a)), ("text", .str (mk t))]) (fun p hp => ?_) ?_
  · simp only [List.mem_cons, List.not_mem_nil, or_false] at hp
    rcases hp with rfl | rfl | rfl | rfl | rfl | rfl | rfl <;> k_mem
  have onT : ∀ {C' : Cx} (u v : Nat), 1 ≤ C'.n → Cmp C' .In (dn one) (.tup [dn u, dn v]) ([dn u, dn v].any (Dat.isN one)) := fun u v h1 => cmp_inT (Dat.isN one) (fun z hz => by
    simp only [List.mem_cons, List.not_mem_nil, or_false] at hz
    rcases hz with rfl | rfl <;> exact .int _ _) h1
  refine xs_iff ((ts_bool (and_cons (ts_cmp (d1 := dn one) (d2 := .tup [dn 0, dn 3]) (by k_inst) (ev_tupD (evs2 (by k_inst) (by k_inst)) (by simp)) (onT 0 3 hn1)) fun _ => and_cons (p := false) (ts_cmp (d1 := .str (mk t)) (d2 := .str (mk t)) (ev_if (c := decide (hd0 / 5 % 4 > 0)) (ts_cmp (d1 := dn (hd0 / 5 % 4)) (d2 := dn 0) (ev_bin (d1 := dn (hd0 / 5)) (d2 := dn 4) (hdiv5 (by k_mem)) (by k_inst) (op_modN _ (by decide))) (by k_inst) (cmp_gtN _ _)) (fun q => ?_) fun q => ?_) (by k_inst) ((cmp_neS _ _).cast (by simp))) fun _ => and_nil)).cast (by simp)) ?_
  · rw [hla']
    exact ev_instM (c := 965) (b := b) (ds := [.cst (.ref a)]) (ev_script hn5 (by k_inst)) (evs1 (by k_inst)) (ga965 _) (gt965 _) (ad965 _) (ty893 _) (fun hh tk t => rfl) kp_893 (by exact ad_cal hn9 (by exact hh) N hha hhl (by omega) hkk)
  · obtain ⟨q1, q2, q3, q4⟩ := hz (by have : ¬ hd0 / 5 % 4 > 0 := by simpa using q
                                      omega)
    rw [hla', q2, q3, q4]
    exact ev_instM (c := 965) (b := b) (ds := []) (ev_script hn5 (by k_inst)) .nil (ga965 _) (gt965 _) (ad965 _) (ty893 _) (fun hh tk t => rfl) kp_893 (by exact ad_cal0 hn9 (by exact hh) (by omega) hkk)
  refine xs_cons (xt_if (b := [dn 1, dn 3].any (Dat.isN one)) (O := .next [("one", dn one), ("seed", nl sd), ("row", .bytes row), ("head", dn hd0), ("octets", .bytes b), ("network", .cst (.ref a)), ("text", .str (mk t))]) (ts_cmp (d1 := dn one) (d2 := .tup [dn 1, dn 3]) (by k_inst) (ev_tupD (evs2 (by k_inst) (by k_inst)) (by simp)) (onT 1 3 hn1)) (fun _ => ?_) fun _ => xs_nil) ?_
  · refine xs_cons (xt_assign (d := rdOf (asB t)) (ev_call (ev_gl gl_law_read rfl) (evs1 (d := .str (mk t)) (by k_inst)) kp_995 (by exact rd_cal (by show 10 ≤ C.n - 1; omega) (by exact hh) hta (by omega)))) ?_
    refine xs_cons (xt_assign (d := asD r) (ev_fromA hn11 (by exact hh) (by k_inst) hta (by omega) hr)) ?_
    rw [hr]
    have t1 : ∀ {C' : Cx} {ρ : List (Str × Dat)} {p1 p2 p3 p4 p5 p6 p7 : Pos} {k1 k2 : Nat}, (("found", asD r) : Str × Dat) ∈ ρ → C'.env.scope.kind = .function → Ev C' ρ (.Name "found" p1) (asD r) := fun hm _ => ev_name hm
    refine xs_iff ((ts_bool (or_cons (p := false) (ts_cmp (d1 := rdOf (some r)) (d2 := rdOf (some r)) ?_ (by k_inst) (cmp_neR _)) fun _ => or_cons (p := false) ((ts_bool (and_cons (p := !decide (r = some b)) (ts_cmp (d1 := rdOf (some r)) (d2 := .bytes b) (by k_inst) (by k_inst) ?_) fun q => and_cons (p := false) ((ts_bool (or_cons (ts_cmp (hmod5 (by k_mem)) (by k_inst) (cmp_ltN _ 2)) fun _ => or_cons (ts_not (b := (dc t).isSome) (ts_val (d := .bool (dc t).isSome) (ev_call (ev_gl gl_law_checked rfl) (evs1 (d := .str (mk t)) (by k_inst)) kp_1016 (by exact checked_cal hn11 (by exact hh) hta (by omega))) (tr_bool _))) fun _ => or_nil)).cast ?_) fun _ => and_nil)).cast (by simp)) fun _ => or_nil)).cast rfl) ?_
    · cases r with
      | none => exact ev_if (c := true) ((ts_cmp (d1 := .none) (by k_inst) (ev_none _ _) (cmp_isN rfl)).cast rfl) (fun _ => ev_none _ _) fun q => by cases q
      | some b' => exact ev_if (c := false) ((ts_cmp (d1 := .inst 965 b') (by k_inst) (ev_none _ _) (cmp_isN rfl)).cast rfl) (fun q => by cases q) fun _ => ev_data (c := 965) (b := b') (by k_inst) (ga965 _) fun hh tk t => rfl
    · cases r with
      | none => exact (cmp_neNB _).cast (by simp)
      | some b' => exact (cmp_neB _ _).cast (by by_cases e : b' = b <;> simp [e])
    · have q' : r ≠ some b := by simpa using q
      obtain ⟨c1, c2, c3⟩ := hor.resolve_left q'
      have hge : ¬ hd0 % 5 < 2 := fun z => by
        have z2 : hd0 % 5 = 0 ∨ hd0 % 5 = 1 := by omega
        rcases z2 with z2 | z2
        · rw [hT1 z2] at c1; cases c1
        · rw [hT2 z2] at c2; cases c2
      rw [c3]
      simp [hge]
    · refine xs_end fun p hp => ?_
      simp only [List.mem_cons, List.not_mem_nil, or_false] at hp
      rcases hp with rfl | rfl | rfl | rfl | rfl | rfl | rfl <;> k_mem
  have hbz : b.size ≤ sizeLine := by rw [sizeLine_eq]; omega
  have hlenB : ∀ {C' : Cx} {ρ : List (Str × Dat)} {p1 p2 p3 : Pos}, (("octets", .bytes b) : Str × Dat) ∈ ρ → C'.env.kindOf "len" = some .globalImplicit → (eval (.Call (.Name "len" p1) [.Name "octets" p2] [] p3) C'.env = (do callWith p3 (← eval (.Name "len" p1) C'.env) [] (backTo p3 (starEach [.Name "octets" p2] C'.env)) (backToKw p3 (keywordEach [] C'.env)))) → Ev C' ρ (.Call (.Name "len" p1) [.Name "octets" p2] [] p3) (dn b.size) := fun hm hk hf =>
    ev_call (ev_bi bi_len hk) (evs1 (d := .bytes b) (ev_name hm)) (kp_builtin _) (cal_lenB (by omega)) hf
  generalize hat : hd0 / 20 % b.size = at0
  have hatl : at0 < b.size := by rw [← hat]; exact Nat.mod_lt _ (by omega)
  refine xs_cons (xt_assign (d := dn at0) (hat ▸ ev_bin (d1 := dn (hd0 / 20)) (d2 := dn b.size) (ev_bin (d1 := dn hd0) (d2 := dn 20) (by k_inst) (by k_inst) (op_divN _ (by decide) (by decide))) (hlenB (by k_mem) rfl rfl) (op_modN _ (by omega)))) ?_
  refine xs_pre (ρ' := [("at", dn at0), ("one", dn one), ("seed", nl sd), ("row", .bytes row), ("head", dn hd0), ("octets", .bytes b), ("network", .cst (.ref a)), ("text", .str (mk t))]) (fun p hp => ?_) ?_
  · simp only [List.mem_cons, List.not_mem_nil, or_false] at hp
    rcases hp with rfl | rfl | rfl | rfl | rfl | rfl | rfl | rfl <;> k_mem
  generalize hv : (at' b at0 + 1 + hd0 / 700 % 255) % 256 = v0
  have hv0 : v0 < 256 := by rw [← hv]; exact Nat.mod_lt _ (by decide)
  generalize hne : [pk b none (some (at0 : Int)) ++ bts [v0] ++ pk b (some ((at0 + 1 : Nat) : Int)) none, pk b none (some (-1)), b ++ #[0], pk b (some 1) none, #[]] = nears
  have hnears : ∀ n ∈ nears, n.size ≤ 70 := by
    rw [← hne]
    intro n hn'
    have g1 := pk_le b none (some (at0 : Int))
    have g2 := pk_le b (some ((at0 + 1 : Nat) : Int)) none
    have g3 := pk_le b none (some (-1))
    have g4 := pk_le b (some 1) none
    have s1 : (pk b none (some (at0 : Int))).size = at0 := by
      have := congrArg List.length (pk_to (b := b) (j := at0) (by omega))
      rw [List.length_take, Array.length_toList, Array.length_toList] at this
      exact this.trans (by omega)
    have s2 : (pk b (some ((at0 + 1 : Nat) : Int)) none).size = b.size - (at0 + 1) := pk_size b (at0 + 1) (by omega)
    simp only [List.mem_cons, List.not_mem_nil, or_false] at hn'
    rcases hn' with rfl | rfl | rfl | rfl | rfl
    · rw [Array.size_append, Array.size_append, bts_size, s1, s2, List.length_singleton]; omega
    · omega
    · rw [Array.size_append]; show b.size + 1 ≤ 70; omega
    · omega
    · decide
  refine xs_cons (xt_for (ds := nears.map .bytes) (fun _ => [("at", dn at0), ("one", dn one), ("seed", nl sd), ("row", .bytes row), ("head", dn hd0), ("octets", .bytes b), ("network", .cst (.ref a)), ("text", .str (mk t))]) (evIt (d := .tup (nears.map .bytes)) ?_ (itr_tup (by exact hh) fun d hd => ?_)) (fun p hp => hp) fun fp i d hi => ?_) ?_
  · rw [← hne]
    refine ev_tupD (ds := [.bytes (pk b none (some (at0 : Int)) ++ bts [v0] ++ pk b (some ((at0 + 1 : Nat) : Int)) none), .bytes (pk b none (some (-1))), .bytes (b ++ #[0]), .bytes (pk b (some 1) none), .bytes #[]]) (.cons ?_ rfl (.cons ?_ rfl (.cons ?_ rfl (.cons ?_ rfl (.cons (ev_bytes [] _ _) rfl .nil))))) (by simp)
    · have g1 := pk_le b none (some (at0 : Int))
      have g2 := pk_le b (some ((at0 + 1 : Nat) : Int)) none
      refine ev_bin (d1 := .bytes (pk b none (some (at0 : Int)) ++ bts [v0])) (d2 := .bytes (pk b (some ((at0 + 1 : Nat) : Int)) none)) (ev_bin (d1 := .bytes (pk b none (some (at0 : Int)))) (d2 := .bytes (bts [v0])) (ev_slice (d1 := .bytes b) (by k_inst) .none (.some (i := (at0 : Int)) (by k_inst)) .none (sl_bytes hbz)) (ev_call (ev_bi bi_bytes rfl) (evs1 (d := nl [v0]) ?_) (kp_type _) (cal_bytesL (fun n hn' => by rw [List.mem_singleton.mp hn']; exact hv0) (by simp))) (op_addB ?_)) (ev_slice (d1 := .bytes b) (by k_inst) (.some (i := ((at0 + 1 : Nat) : Int)) (ev_bin (d1 := dn at0) (d2 := dn 1) (by k_inst) (by k_inst) (op_addN _ _))) .none .none (sl_bytes hbz)) (op_addB ?_)
      · rw [← hv]
        exact ev_listD (ds := [dn ((at' b at0 + 1 + hd0 / 700 % 255) % 256)]) (evs1 (ev_bin (d1 := dn (at' b at0 + 1 + hd0 / 700 % 255)) (d2 := dn 256) (ev_bin (d1 := dn (at' b at0 + 1)) (d2 := dn (hd0 / 700 % 255)) (ev_bin (d1 := dn (at' b at0)) (d2 := dn 1) (ev_item (d1 := .bytes b) (d2 := dn at0) (by k_inst) (by k_inst) (it_byteN (by omega) hatl)) (by k_inst) (op_addN _ _)) (ev_bin (d1 := dn (hd0 / 700)) (d2 := dn 255) (ev_bin (d1 := dn hd0) (d2 := dn 700) (by k_inst) (by k_inst) (op_divN _ (by decide) (by decide))) (by k_inst) (op_modN _ (by decide))) (op_addN _ _)) (by k_inst) (op_modN _ (by decide)))) (by simp)
      · rw [bts_size]; show (pk b none (some (at0 : Int))).size + 1 ≤ _; omega
      · rw [Array.size_append, bts_size]; show (pk b none (some (at0 : Int))).size + 1 + (pk b (some ((at0 + 1 : Nat) : Int)) none).size ≤ _; omega
    · exact ev_slice (d1 := .bytes b) (by k_inst) .none (.some (ev_neg (ev_int 1 _ _))) .none (sl_bytes hbz)
    · exact ev_bin (d1 := .bytes b) (d2 := .bytes #[0]) (by k_inst) (ev_bytes _ _ _) (op_addB (by show b.size + 1 ≤ _; omega))
    · exact ev_slice (d1 := .bytes b) (by k_inst) (.some (ev_int 1 _ _)) .none .none (sl_bytes hbz)
  · obtain ⟨n, _, rfl⟩ := List.mem_map.mp hd; rfl
  · rw [List.getElem?_map, Option.map_eq_some_iff] at hi
    obtain ⟨n, hn', rfl⟩ := hi
    have hns : n.size ≤ 70 := hnears n (List.mem_of_getElem? hn')
    refine xs_cons (xt_assign (d := optS (kind n)) (ev_kind hn2 (by omega) (by k_inst))) ?_
    refine xs_iff (ts_cmp (d1 := optS (kind n)) (d2 := optS (kind n)) (ev_stype hn1 (by omega) (ev_script hn5 (by k_inst))) (by k_inst) (cmp_neO _)) ?_
    have hnn : ∀ {C' : Cx} {ρ : List (Str × Dat)} {p1 p2 : Pos} {k1 : Nat}, (("own", optS (kind n)) : Str × Dat) ∈ ρ → Ts C' ρ (.Compare (.Name "own" p1) [.Is] [.Constant .none k1 p2] p2) (kind n).isNone → True := fun _ _ => trivial
    have hisn : ∀ {C' : Cx}, Cmp C' .Is (optS (kind n)) .none (kind n).isNone := fun {C'} => (cmp_isN (optS_isNone _).1).cast (optS_isNone _).2
    refine xs_iff ((ts_bool (and_cons (ts_bool (or_cons (ts_cmp (d1 := optS (kind n)) (by k_inst) (ev_none _ _) hisn) fun _ => or_cons (ts_cmp (hmod5 (by k_mem)) (by k_inst) (cmp_ltN _ 2)) fun _ => or_nil)) fun _ => and_cons (p := false) (ts_cmp (d1 := optStr (la x y h n)) (d2 := optStr (la x y h n)) (ev_call (ev_gl gl_law_asked rfl) (evs2 (d := .bytes n) (d' := .cst (.ref a)) (by k_inst) (by k_inst)) kp_1009 (by exact asked_cal hn11 (by exact hh) N hha hhl hns)) (ev_if (c := (kind n).isNone) (ts_cmp (d1 := optS (kind n)) (by k_inst) (ev_none _ _) hisn) (fun q => ?_) fun q => (ev_call (ev_gl gl_law_address rfl) (evs2 (d := .bytes n) (d' := .cst (.ref a)) (by k_inst) (by k_inst)) kp_988 (by exact lad_cal hn9 (by exact hh) N hha hhl hns))) (cmp_neT _)) fun _ => and_nil)).cast (by simp)) ?_
    · rw [la_none (Option.isNone_iff_eq_none.mp q)]; exact ev_none _ _
    · refine xs_end fun p hp => ?_
      simp only [List.mem_cons, List.not_mem_nil, or_false] at hp
      rcases hp with rfl | rfl | rfl | rfl | rfl | rfl | rfl | rfl <;> k_mem
  generalize hpl : hd0 / 3 % t.length = pl
  have hpll : pl < t.length := by rw [← hpl]; exact Nat.mod_lt _ (by omega)
  refine xs_cons (xt_assign (d := dn pl) (hpl ▸ ev_bin (d1 := dn (hd0 / 3)) (d2 := dn t.length) (ev_bin (d1 := dn hd0) (d2 := dn 3) (by k_inst) (by k_inst) (op_divN _ (by decide) (by decide))) (ev_lenS (l := t) (by k_inst) (by omega)) (op_modN _ (by omega)))) ?_
  have hsi : hd0 / 64 % 58 < 58 := Nat.mod_lt _ (by decide)
  have hsg := SG_ascii _ hsi
  have hitS : ∀ C' : Cx, ItOn C' (.str (mk SG)) (dn (hd0 / 64 % 58)) (.str (mk [SG.getD (hd0 / 64 % 58) 0])) := fun C' => by
    rw [← mk_item (by rw [SG_len]; exact hsi)]
    exact it_str (by omega) (by rw [mk_len, SG_len]; omega) (by rw [mk_len, SG_len]; decide)
  generalize hsgv : SG.getD (hd0 / 64 % 58) 0 = sg at hsg hitS
  refine xs_cons (xt_assign (d := .str (mk [sg])) (ev_item (d1 := .str (mk SG)) (d2 := dn (hd0 / 64 % 58)) (by rw [← SG_mk]; exact ev_str _ _ _) (ev_bin (d1 := dn (hd0 / 64)) (d2 := dn 58) (ev_bin (d1 := dn hd0) (d2 := dn 64) (by k_inst) (by k_inst) (op_divN _ (by decide) (by decide))) (by k_inst) (op_modN _ (by decide))) (hitS _))) ?_
  refine xs_pre (ρ' := [("sign", .str (mk [sg])), ("place", dn pl), ("one", dn one), ("seed", nl sd), ("row", .bytes row), ("head", dn hd0), ("text", .str (mk t))]) (fun p hp => ?_) ?_
  · simp only [List.mem_cons, List.not_mem_nil, or_false] at hp
    rcases hp with rfl | rfl | rfl | rfl | rfl | rfl | rfl <;> k_mem
  have hlt1 : (t.take pl).length = pl := by rw [List.length_take]; omega
  have hld1 : (t.drop (pl + 1)).length = t.length - (pl + 1) := List.length_drop
  have h3 : hd0 / 7 % 3 < 3 := Nat.mod_lt _ (by decide)
  generalize htri : [t.take pl ++ [sg] ++ t.drop (pl + 1), t.take pl ++ t.drop (pl + 1), t.map uppc] = tri
  have htl3 : tri.length = 3 := by rw [← htri]; rfl
  have htriok : ∀ u ∈ tri, OkT u := by
    rw [← htri]
    intro u hu
    simp only [List.mem_cons, List.not_mem_nil, or_false] at hu
    rcases hu with rfl | rfl | rfl
    · refine ⟨fun c hc => ?_, by rw [List.length_append, List.length_append, hlt1, hld1, List.length_singleton]; omega⟩
      rcases List.mem_append.mp hc with hc | hc
      · rcases List.mem_append.mp hc with hc | hc
        · exact hta c (List.mem_of_mem_take hc)
        · rw [List.mem_singleton.mp hc]; exact hsg
      · exact hta c (List.mem_of_mem_drop hc)
    · refine ⟨fun c hc => ?_, by rw [List.length_append, hlt1, hld1]; omega⟩
      rcases List.mem_append.mp hc with hc | hc
      · exact hta c (List.mem_of_mem_take hc)
      · exact hta c (List.mem_of_mem_drop hc)
    · refine ⟨fun c hc => ?_, by rw [List.length_map]; omega⟩
      obtain ⟨d, hd, rfl⟩ := List.mem_map.mp hc
      exact uppc_lt (hta d hd)
  obtain ⟨us, hus, husok, husl⟩ : ∃ us : List (List Nat), us = (if one > 1 then [tri.getD (hd0 / 7 % 3) []] else []) ∧ (∀ u ∈ us, OkT u) ∧ us.length ≤ 1 := by
    refine ⟨_, rfl, fun u hu => ?_, by split <;> simp⟩
    split at hu
    · rw [List.mem_singleton.mp hu, List.getD_eq_getElem?_getD, List.getElem?_eq_getElem (by omega)]
      exact htriok _ (List.getElem_mem _)
    · cases hu
  refine xs_cons (xt_assign (d := .list (us.map sM)) (ev_if (c := decide (one > 1)) (ts_cmp (d1 := dn one) (d2 := dn 1) (by k_inst) (by k_inst) (cmp_gtN _ _)) (fun q => ?_) fun q => ?_)) ?_
  · rw [hus, if_pos (by simpa using q)]
    refine ev_listD (ds := [sM (tri.getD (hd0 / 7 % 3) [])]) (evs1 (ev_item (d1 := .list (tri.map sM)) (d2 := dn (hd0 / 7 % 3)) ?_ (ev_bin (d1 := dn (hd0 / 7)) (d2 := dn 3) (ev_bin (d1 := dn hd0) (d2 := dn 7) (by k_inst) (by k_inst) (op_divN _ (by decide) (by decide))) (by k_inst) (op_modN _ (by decide))) (it_listN (by rw [List.length_map]; omega) ?_))) (by simp)
    · rw [← htri]
      refine ev_listD (ds := [sM (t.take pl ++ [sg] ++ t.drop (pl + 1)), sM (t.take pl ++ t.drop (pl + 1)), sM (t.map uppc)]) (.cons ?_ rfl (.cons ?_ rfl (.cons ?_ rfl .nil))) (by simp)
      · exact ev_bin (d1 := .str (mk (t.take pl ++ [sg]))) (d2 := .str (mk (t.drop (pl + 1)))) (ev_bin (d1 := .str (mk (t.take pl))) (d2 := .str (mk [sg])) (ev_to (k := pl) (by k_inst) (by k_inst) (by omega) (by omega)) (by k_inst) (op_addM (by rw [hlt1, List.length_singleton]; omega))) (ev_from (k := pl + 1) (by k_inst) (ev_bin (d1 := dn pl) (d2 := dn 1) (by k_inst) (by k_inst) (op_addN _ _)) (by omega) (by omega)) (op_addM (by rw [List.length_append, hlt1, hld1, List.length_singleton]; omega))
      · exact ev_bin (d1 := .str (mk (t.take pl))) (d2 := .str (mk (t.drop (pl + 1)))) (ev_to (k := pl) (by k_inst) (by k_inst) (by omega) (by omega)) (ev_from (k := pl + 1) (by k_inst) (ev_bin (d1 := dn pl) (d2 := dn 1) (by k_inst) (by k_inst) (op_addN _ _)) (by omega) (by omega)) (op_addM (by rw [hlt1, hld1]; omega))
      · show Ev _ _ _ (.str (mk (t.map uppc)))
        rw [← txt_upper hta]
        exact ev_meth (d1 := .str (mk t)) (ds := []) (by k_inst) evs_nil (fun s v r => typeS v r) F.plainAttrs_str F.slot_str_upper F.type_str_upper (cal_upper (by rw [txt_upper hta]; exact fit_mk (by rw [List.length_map]; omega)))
    · rw [List.getElem?_map, List.getD_eq_getElem?_getD, List.getElem?_eq_getElem (by omega)]; rfl
  · rw [hus, if_neg (by simpa using q)]
    exact ev_listD .nil (by simp)
  have hseed0 : ∀ {C' : Cx} {ρ : List (Str × Dat)} {p1 p2 p3 : Pos} {k1 : Nat}, (("seed", nl sd) : Str × Dat) ∈ ρ → Ev C' ρ (.Subscript (.Name "seed" p1) (.Constant (.int 0) k1 p2) p3) (dn (sd.getD 0 0)) := fun hm => ev_at0 (ev_name hm) hsp (by omega)
  generalize sd.getD 0 0 = s0 at hseed0
  generalize hms : [#[], bts [s0 % 256], ([#[0], #[5], #[111], #[196]] : List (Array UInt8)).getD (s0 % 4) #[]] = ms
  have hmsok : ∀ m ∈ ms, m.size ≤ 1 := by
    rw [← hms]
    intro m hm
    simp only [List.mem_cons, List.not_mem_nil, or_false] at hm
    rcases hm with rfl | rfl | rfl
    · decide
    · rw [bts_size]; simp
    · have h4 : s0 % 4 < 4 := Nat.mod_lt _ (by decide)
      generalize s0 % 4 = i at h4
      match i, h4 with
      | 0, _ => decide
      | 1, _ => decide
      | 2, _ => decide
      | 3, _ => decide
  have hmsl : ms.length = 3 := by rw [← hms]; rfl
  generalize hnl' : ([20, 2 + s0 / 68 % 19, 32] : List Nat).getD (s0 / 7 % 3) 0 = nn
  have hnn : nn ≤ 40 := by
    rw [← hnl']
    have h4 : s0 / 7 % 3 < 3 := Nat.mod_lt _ (by decide)
    have h19 : s0 / 68 % 19 < 19 := Nat.mod_lt _ (by decide)
    generalize s0 / 7 % 3 = i at h4
    match i, h4 with
    | 0, _ => show 20 ≤ 40; decide
    | 1, _ => show 2 + s0 / 68 % 19 ≤ 40; omega
    | 2, _ => show 32 ≤ 40; decide
  generalize hhx : ([codes "bc", codes "tb", codes "x", codes "abc"] : List (List Nat)).getD (s0 % 4) [] = hx
  have hhxok : (∀ c ∈ hx, c < 128) ∧ hx.length ≤ 4 := by
    rw [← hhx]
    have h4 : s0 % 4 < 4 := Nat.mod_lt _ (by decide)
    generalize s0 % 4 = i at h4
    match i, h4 with
    | 0, _ => exact ⟨by decide, by decide⟩
    | 1, _ => exact ⟨by decide, by decide⟩
    | 2, _ => exact ⟨by decide, by decide⟩
    | 3, _ => exact ⟨by decide, by decide⟩
  have hrr : (row ++ row).size = 64 := by rw [Array.size_append]; omega
  have hps : (pk (row ++ row) none (some (nn : Int))).size = nn := by
    have := congrArg List.length (pk_to (b := row ++ row) (j := nn) (by omega))
    rw [List.length_take, Array.length_toList, Array.length_toList] at this
    exact this.trans (by omega)
  generalize hpp : bnat (pk (row ++ row) none (some (nn : Int))) = pp
  have hppl : pp.length = nn := by rw [← hpp, bnat_len, hps]
  have hppb : ∀ c ∈ pp, c < 256 := by rw [← hpp]; exact fun c hc => bnat_lt _ c hc
  obtain ⟨lo, hlo, hlook⟩ : ∃ lo : Option (List Nat), lo = (if (hd0 / 5 % 2 == 0) = true then be hx (s0 / 4 % 17) pp else none) ∧ ∀ u, lo = some u → OkT u := by
    refine ⟨_, rfl, fun u hu => ?_⟩
    split at hu
    · exact be_ok hhxok.1 hhxok.2 (by omega) hppb (by omega) hu
    · cases hu
  generalize hkk2 : s0 / 5 % 24 = kk
  have hkkl : kk < 24 := by rw [← hkk2]; exact Nat.mod_lt _ (by decide)
  have hpkk : (pk row none (some (kk : Int))).size = kk := by
    have := congrArg List.length (pk_to (b := row) (j := kk) (by omega))
    rw [List.length_take, Array.length_toList, Array.length_toList] at this
    exact this.trans (by omega)
  generalize hpkg : pk row none (some (kk : Int)) = rk at hpkk
  obtain ⟨us2, hus2, hus2ok, hus2l⟩ : ∃ us2 : List (List Nat), us2 = (if hd0 % 5 < 2 then us ++ [[], [49]] ++ ms.map (fun m => ec (m ++ rk)) ++ lo.toList else us) ∧ (∀ u ∈ us2, OkT u) ∧ us2.length ≤ 100 := by
    refine ⟨_, rfl, fun u hu => ?_, ?_⟩
    · split at hu
      · rcases List.mem_append.mp hu with hu | hu
        · rcases List.mem_append.mp hu with hu | hu
          · rcases List.mem_append.mp hu with hu | hu
            · exact husok u hu
            · simp only [List.mem_cons, List.not_mem_nil, or_false] at hu
              rcases hu with rfl | rfl
              · exact ⟨(fun c hc => by cases hc), by simp⟩
              · exact ⟨(fun c hc => by rw [List.mem_singleton.mp hc]; decide), by simp⟩
          · obtain ⟨m, hm, rfl⟩ := List.mem_map.mp hu
            have := hmsok m hm
            exact ⟨ec_ascii _, Nat.le_trans (ec_len _) (by rw [Array.size_append, hpkk]; omega)⟩
        · exact hlook u (Option.mem_toList.mp hu)
      · exact husok u hu
    · split
      · rw [List.length_append, List.length_append, List.length_append, List.length_map, hmsl]
        have : lo.toList.length ≤ 1 := by cases lo <;> simp
        show us.length + 2 + 3 + lo.toList.length ≤ 100
        omega
      · omega
  have hdiv5' : ∀ {C' : Cx} {ρ : List (Str × Dat)} {p1 p2 p3 : Pos} {k1 : Nat}, (("head", dn hd0) : Str × Dat) ∈ ρ → Ev C' ρ (.BinOp (.Name "head" p1) .FloorDiv (.Constant (.int 5) k1 p2) p3) (dn (hd0 / 5)) := hdiv5
  refine xs_cons (xt_if (b := decide (hd0 % 5 < 2)) (O := .next [("others", .list (us2.map sM))]) (ts_cmp (hmod5 (by k_mem)) (by k_inst) (cmp_ltN _ 2)) (fun q => ?_) fun q => ?_) ?_
  · have q' : hd0 % 5 < 2 := by simpa using q
    refine xs_cons (xt_assign (d := .list (ms.map .bytes)) ?_) ?_
    · rw [← hms]
      have h4 : s0 % 4 < 4 := Nat.mod_lt _ (by decide)
      refine ev_listD (ds := [.bytes #[], .bytes (bts [s0 % 256]), .bytes (([#[0], #[5], #[111], #[196]] : List (Array UInt8)).getD (s0 % 4) #[])]) (.cons (ev_bytes [] _ _) rfl (.cons ?_ rfl (.cons ?_ rfl .nil))) (by simp)
      · exact ev_call (ev_bi bi_bytes rfl) (evs1 (d := nl [s0 % 256]) (ev_listD (ds := [dn (s0 % 256)]) (evs1 (ev_bin (d1 := dn s0) (d2 := dn 256) (hseed0 (by k_mem)) (by k_inst) (op_modN _ (by decide)))) (by simp))) (kp_type _) (cal_bytesL (fun n hn' => by rw [List.mem_singleton.mp hn']; exact Nat.mod_lt _ (by decide)) (by simp))
      · refine ev_item (d1 := .list (([#[0], #[5], #[111], #[196]] : List (Array UInt8)).map .bytes)) (d2 := dn (s0 % 4)) (ev_listD (ds := [.bytes #[0], .bytes #[5], .bytes #[111], .bytes #[196]]) (.cons (ev_bytes _ _ _) rfl (.cons (ev_bytes _ _ _) rfl (.cons (ev_bytes _ _ _) rfl (.cons (ev_bytes _ _ _) rfl .nil)))) (by simp)) (ev_bin (d1 := dn s0) (d2 := dn 4) (hseed0 (by k_mem)) (by k_inst) (op_modN _ (by decide))) (it_listN (by simp) ?_)
        rw [List.getElem?_map, List.getD_eq_getElem?_getD, List.getElem?_eq_getElem (by simpa using h4)]; rfl
    refine xs_cons (xt_assign (d := optStr lo) (ev_if (c := hd0 / 5 % 2 == 0) (ts_cmp (d1 := dn (hd0 / 5 % 2)) (d2 := dn 0) (ev_bin (d1 := dn (hd0 / 5)) (d2 := dn 2) (hdiv5 (by k_mem)) (by k_inst) (op_modN _ (by decide))) (by k_inst) (cmp_eqN _ _)) (fun q2 => ?_) fun q2 => ?_)) ?_
    · rw [hlo, if_pos q2]
      have h4 : s0 % 4 < 4 := Nat.mod_lt _ (by decide)
      have h3' : s0 / 7 % 3 < 3 := Nat.mod_lt _ (by decide)
      refine ev_call (ev_gl gl_encode_bech32 rfl) (evs3 (d := sM hx) (d' := dn (s0 / 4 % 17)) (d'' := nl pp) ?_ ?_ ?_) kp_207 (by exact be_list (by show 6 ≤ C.n - 1; omega) hhxok.1 (by omega) (by omega) (by omega) hppb)
      · rw [← hhx]
        refine ev_item (d1 := .list (([codes "bc", codes "tb", codes "x", codes "abc"] : List (List Nat)).map sM)) (d2 := dn (s0 % 4)) (ev_listD (ds := [sM (codes "bc"), sM (codes "tb"), sM (codes "x"), sM (codes "abc")]) (.cons ?_ rfl (.cons ?_ rfl (.cons ?_ rfl (.cons ?_ rfl .nil)))) (by simp)) (ev_bin (d1 := dn s0) (d2 := dn 4) (hseed0 (by k_mem)) (by k_inst) (op_modN _ (by decide))) (it_listN (by simp) ?_)
        · show Ev _ _ _ (.str (mk (codes "bc"))); rw [mk_codes]; exact ev_str _ _ _
        · show Ev _ _ _ (.str (mk (codes "tb"))); rw [mk_codes]; exact ev_str _ _ _
        · show Ev _ _ _ (.str (mk (codes "x"))); rw [mk_codes]; exact ev_str _ _ _
        · show Ev _ _ _ (.str (mk (codes "abc"))); rw [mk_codes]; exact ev_str _ _ _
        · rw [List.getElem?_map, List.getD_eq_getElem?_getD, List.getElem?_eq_getElem (by simpa using h4)]; rfl
      · exact ev_bin (d1 := dn (s0 / 4)) (d2 := dn 17) (ev_bin (d1 := dn s0) (d2 := dn 4) (hseed0 (by k_mem)) (by k_inst) (op_divN _ (by decide) (by decide))) (by k_inst) (op_modN _ (by decide))
      · rw [← hpp]
        refine ev_call (ev_bi bi_list rfl) (evs1 (d := .bytes (pk (row ++ row) none (some (nn : Int)))) (ev_slice (d1 := .bytes (row ++ row)) (ev_bin (d1 := .bytes row) (d2 := .bytes row) (by k_inst) (by k_inst) (op_addB (by omega))) .none (.some (i := (nn : Int)) ?_) .none (sl_bytes (by rw [hrr, sizeLine_eq]; decide)))) (kp_type _) (cal_listB (by exact hh) (by omega))
        show Ev _ _ _ (dn nn)
        rw [← hnl']
        refine ev_item (d1 := nl [20, 2 + s0 / 68 % 19, 32]) (d2 := dn (s0 / 7 % 3)) (ev_listD (ds := [dn 20, dn (2 + s0 / 68 % 19), dn 32]) (.cons (by k_inst) rfl (.cons ?_ rfl (.cons (by k_inst) rfl .nil))) (by simp)) (ev_bin (d1 := dn (s0 / 7)) (d2 := dn 3) (ev_bin (d1 := dn s0) (d2 := dn 7) (hseed0 (by k_mem)) (by k_inst) (op_divN _ (by decide) (by decide))) (by k_inst) (op_modN _ (by decide))) (it_listN (by simp) ?_)
        · exact ev_bin (d1 := dn 2) (d2 := dn (s0 / 68 % 19)) (by k_inst) (ev_bin (d1 := dn (s0 / 68)) (d2 := dn 19) (ev_bin (d1 := dn s0) (d2 := dn 68) (hseed0 (by k_mem)) (by k_inst) (op_divN _ (by decide) (by decide))) (by k_inst) (op_modN _ (by decide))) (op_addN _ _)
        · rw [List.getElem?_map, List.getD_eq_getElem?_getD, List.getElem?_eq_getElem (by simpa using h3')]; rfl
    · rw [hlo, if_neg (by rw [q2]; exact Bool.false_ne_true)]
      exact ev_none _ _
    refine xs_next (ρ' := upd _ "others" (.list (us2.map sM))) (fun p hp => by rw [List.mem_singleton.mp hp]; exact mem_self) (xs_cons (xt_assign (d := .list (us2.map sM)) ?_) xs_nil)
    rw [hus2, if_pos q']
    refine ev_bin (d1 := .list ((us ++ [[], [49]] ++ ms.map (fun m => ec (m ++ rk))).map sM)) (d2 := .list (lo.toList.map sM)) (ev_bin (d1 := .list ((us ++ [[], [49]]).map sM)) (d2 := .list ((ms.map (fun m => ec (m ++ rk))).map sM)) (ev_bin (d1 := .list (us.map sM)) (d2 := .list (([[], [49]] : List (List Nat)).map sM)) (by k_inst) (ev_listD (ds := [sM [], sM [49]]) (evs2 ev_s0 ev_s1) (by simp)) (op_addLm ?_)) ?_ (op_addLm ?_)) (ev_if (c := lo.isNone) (ts_cmp (d1 := optStr lo) (by k_inst) (ev_none _ _) ((cmp_isN (optStr_isNone _).1).cast (optStr_isNone _).2)) (fun q2 => ?_) fun q2 => ?_) (op_addLm ?_)
    · rw [sizeLine_eq]; show us.length + 2 ≤ _; omega
    · rw [List.map_map]
      refine ev_compM (ρc := [("row", .bytes row), ("seed", nl sd)]) ms .bytes _ bytes_inj (evIt (by k_inst) (itr_list fun d hd => ?_)) (fun _ => rfl) (fun _ => rfl) (by rw [hmsl, sizeLine_eq]; decide) (fun N a ha => ?_) ?_ rfl
      · obtain ⟨m, _, rfl⟩ := List.mem_map.mp hd; rfl
      · have hal := hmsok a ha
        refine ev_call (ev_gl gl_encode_check rfl) (evs1 (d := .bytes (a ++ rk)) (ev_bin (d1 := .bytes a) (d2 := .bytes rk) (by k_inst) ?_ (op_addB (by omega)))) kp_130 (by exact ec_cal (by show 8 ≤ C.n - 1; omega) (by exact hh) (by rw [Array.size_append]; omega))
        rw [← hpkg]
        refine ev_slice (d1 := .bytes row) (by k_inst) .none (.some (i := (kk : Int)) ?_) .none (sl_bytes hrz)
        show Ev _ _ _ (dn kk)
        rw [← hkk2]
        exact ev_bin (d1 := dn (s0 / 5)) (d2 := dn 24) (ev_bin (d1 := dn s0) (d2 := dn 5) (hseed0 (by k_mem)) (by k_inst) (op_divN _ (by decide) (by decide))) (by k_inst) (op_modN _ (by decide))
      · intro p hp
        simp only [List.mem_cons, List.not_mem_nil, or_false] at hp
        rcases hp with rfl | rfl
        · exact ⟨by k_mem, rfl, rfl, rfl⟩
        · exact ⟨by k_mem, rfl, rfl, rfl⟩
    · rw [sizeLine_eq, List.length_append, List.length_map, hmsl]; show us.length + 2 + 3 ≤ _; omega
    · rw [Option.isNone_iff_eq_none.mp q2]
      exact ev_listD .nil (by simp)
    · cases hlo2 : lo with
      | none => rw [hlo2] at q2; cases q2
      | some u =>
        rw [hlo2] at *
        exact ev_listD (ds := [sM u]) (evs1 (by show Ev _ _ _ (optStr (some u)); k_inst)) (by simp)
    · have : lo.toList.length ≤ 1 := by cases lo <;> simp
      rw [sizeLine_eq, List.length_append, List.length_append, List.length_map, hmsl]
      show us.length + 2 + 3 + lo.toList.length ≤ _
      omega
  · have q' : ¬ hd0 % 5 < 2 := by simpa using q
    rw [hus2, if_neg q']
    exact xs_end fun p hp => by rw [List.mem_singleton.mp hp]; exact mem_self
  refine xs_cons (xt_for (ds := us2.map sM) (fun _ => []) (evIt (d := .list (us2.map sM)) (by k_inst) (itr_list fun d hd => ?_)) (fun p hp => by cases hp) fun fp i d hi => ?_) (xs_stop (xt_ret (ev_bool true _ _)))
  · obtain ⟨u, _, rfl⟩ := List.mem_map.mp hd; rfl
  · rw [List.getElem?_map, Option.map_eq_some_iff] at hi
    obtain ⟨u, hu, rfl⟩ := hi
    obtain ⟨hua, hul⟩ := hus2ok u (List.mem_of_getElem? hu)
    exact xs_iff (ts_cmp (d1 := rdOf (asB u)) (d2 := rdOf (asB u)) (ev_call (ev_gl gl_law_told rfl) (evs1 (d := .str (mk u)) (by k_inst)) kp_1002 (by exact told_cal hn11 (by exact hh) hua hul)) (ev_call (ev_gl gl_law_read rfl) (evs1 (d := .str (mk u)) (by k_inst)) kp_995 (by exact rd_cal (by show 10 ≤ C.n - 1; omega) (by exact hh) hua hul)) (cmp_neR _)) (xs_end fun p hp => by cases hp)
end Mine
end
section
set_option maxRecDepth 100000
set_option maxHeartbeats 4000000
set_option linter.unusedVariables false
namespace Mine
open PySem PySem.W PyProof.Rows PySem.Calls PySem.Spec
theorem no182 (w : World) : (Kf w).lookup 182 = none := by kernel_rfl
theorem fn185 (w : World) : ∃ oc od fd osl, (Kf w).lookup 185 = some ⟨oc, od, .func fd, osl⟩ ∧ fd.code = .ref 184 := ⟨_, _, _, _, rfl, rfl⟩
theorem gl_law : Gl "law" (.ref 1021) := fun w => by kernel_rfl
theorem reps_ints {F : List Addr} {h : Heap} : ∀ {vs : List Value} {ns : List Int}, IntsAre vs ns → Reps F h vs (ns.map .int)
  | _, _, .nil => .nil
  | _, _, .cons _ _ r => .cons (.int _ _) (reps_ints r)
theorem ns_hide {h : Heap} (hT : h.get? 182 = some { cls := .none, data := .fields #[] }) {a : Addr} {m : Str → Option Value} (n : h.Ns a m) : (hideAll h [182]).Ns a m := n.at' fun o e => hideAll_get _ e fun q => by
  rw [List.mem_singleton] at q
  subst q
  obtain ⟨o', es, ep, h1, h2, _⟩ := n
  rw [hT] at h1
  cases h1
  cases h2
theorem noSeer_top {h : Heap} (hT : h.get? 182 = some { cls := .none, data := .fields #[] }) (x : h.NoSeer) : (hideAll h [182]).NoSeer where
  statics := let ⟨mc, a, b⟩ := x.statics; ⟨mc, ns_hide hT a, b⟩
  mods := let ⟨mc, a, b⟩ := x.mods; ⟨mc, ns_hide hT a, b⟩
  imp := let ⟨mc, a, b⟩ := x.imp; ⟨mc, ns_hide hT a, b⟩
  main := let ⟨mg, bm, ob, a, b, c, d, e⟩ := x.main; ⟨mg, bm, ob, ns_hide hT a, b, hideAll_get _ c (fun q => by
    rw [List.mem_singleton] at q
    subst q
    rw [hT] at c
    cases c
    cases d), d, e⟩
theorem cells_law {L : Addr} : ∀ p ∈ [((("row" : Str), L + 2) : Str × Addr), ("seed", L + 1)], List.lookup p.1 [((("row" : Str), L + 2) : Str × Addr), ("seed", L + 1)] = some p.2 := fun p hp => by
  simp only [List.mem_cons, List.not_mem_nil, or_false] at hp
  rcases hp with rfl | rfl <;> rfl
theorem law_top {w : World} {G : Heap} {s : Shared} {l : Addr} {vs : List Value} {xs : List Int} (b : Base w G s.os s) (hL : s.heap.IsList l vs.toArray) (hI : IntsAre vs xs) (hx : xs.length ≤ 63) :
    wpAny (Mw w) callerA (call (.ref 1021) [.ref l]) (fun v s' => Base w G s.os s' ∧ Gr [] s.heap s'.heap ∧ Rep [] s'.heap v (.bool true)) (fun _ _ => False) s := by
  have hl : l ≠ gP := fun q => by
    subst q
    obtain ⟨o, h1, h2, _⟩ := hL
    obtain ⟨ps, h3, _⟩ := b.gi
    rw [h1] at h3
    cases h3
    cases h2
  refine top_call (d := .bool true) (ds := [.list (xs.map .int)]) b (.cons (.list hL (by simp) hl (reps_ints hI)) .nil) rfl rfl ["script"] (fun vs h => ?_) (by decide) (by decide) (fun L => cells_law) (fun C hn hh hw h₀ L => ?_) rfl rfl rfl
  · obtain ⟨a, rfl⟩ := len1 h
    rfl
  · subst hw
    obtain ⟨q, sc, cd, bd, oc, od, osl, nm, pr, dV, kV, doc, pm, an, ct, hlook, hb⟩ := law_body (C := C) (by omega) hh xs hx h₀ L
    cases hlook
    exact hb
theorem base_top {w : World} {p : Program} {loose : List Str} {mean : ExcName → Option Value} {mg mb : Str → Option Value} {s : Shared} (KX : (Kf w).In s.heap) (T : Top p loose mean mg mb s.heap) (hg : s.gens = #[])
    (tab : ∀ a, mg "bech32_decode" = some (.ref a) → ∃ o fd c P, s.heap.get? a = some o ∧ o.data = .func fd ∧ fd.code = .ref c ∧ s.heap.IsCode c P #[] ∧ s.heap.TableAt c P #[]) (hs : s.heap.NoSeer) : Base w (hideAll s.heap [182]) s.os s ∧ isCodeTable s.heap 182 ∧ s.heap.get? 182 = some { cls := .none, data := .fields #[] } := by
  have h185 : mg "bech32_decode" = some (.ref 185) := mg_of KX T.g (gl_bech32_decode w)
  obtain ⟨o, fd, c, P, e1, e2, e3, e4, e5⟩ := tab 185 h185
  obtain ⟨oc, od, fd', osl, l1, l2⟩ := fn185 w
  rw [KX _ _ l1] at e1
  cases e1
  cases e2
  rw [l2] at e3
  cases e3
  obtain ⟨d, vs, sl, file, tf, flags, tg, inF, text, tt, c1, c2, c3, _⟩ := code_184 w
  have hP : P = 182 := by
    obtain ⟨⟨o, vs', a, b, c', e⟩, _⟩ := e5
    rw [KX _ _ c1] at a
    cases a
    cases c'
    rw [c2] at e
    cases e
    rfl
  subst hP
  have keep : ∀ {a : Addr} {o : Obj}, a ≠ 182 → s.heap.get? a = some o → (hideAll s.heap [182]).get? a = some o := fun h e => hideAll_get _ e (by simpa using h)
  have n1 : ∀ {a : Addr} {m : Str → Option Value}, a ≠ 182 → s.heap.Ns a m → (hideAll s.heap [182]).Ns a m := fun h n => n.at' fun o e => keep h e
  obtain ⟨bm, ob, b1, b2, b3, b4, b5, b6⟩ := T.bmain
  refine ⟨⟨⟨fun a o e => keep (fun q => by rw [q, no182] at e; cases e) (KX a o e), hideAll_none _ (by simp), ⟨mb, n1 (by decide) T.b, T.builtins⟩, ?_, ⟨mg, n1 (by decide) T.g⟩, ?_, ⟨mg, bm, ob, n1 (by decide) T.g, b1, b2, keep ?_ b3, b4, b5, b6⟩⟩, fun a o e => of_hideAll _ e, ⟨#[], e5.2, trivial⟩, .of_eq hg, rfl⟩, e5.isCodeTable, e5.2⟩
  · obtain ⟨mc, q1, q2⟩ := T.nolimit
    exact ⟨mc, n1 (by decide) q1, q2⟩
  · exact noSeer_top e5.2 hs
  · intro q
    subst q
    rw [e5.2] at b3
    cases b3
    cases b4
-- TWINS
def law_holds.tw3664405165922398054 : Unit := ()
def law_holds.tw8328929384466249927 : Unit := ()
def law_holds.tw16257229351972016128 : Unit := ()
def law_holds.tw4572037976767099448 : Unit := ()
def law_holds.tw13278591279280680027 : Unit := ()
def law_holds.tw13930286571792669329 : Unit := ()
def law_holds.tw17063273821564578210 : Unit := ()
def law_holds.tw8220292867715281707 : Unit := ()
def law_holds.tw10388246331503910361 : Unit := ()
def law_holds.tw10761995924702921994 : Unit := ()
def law_holds.tw14550504054219487678 : Unit := ()
def law_holds.tw9841717368348413368 : Unit := ()
def law_holds.tw13181541993991996546 : Unit := ()
def law_holds.tw987058126098012917 : Unit := ()
def law_holds.tw8072851885877304629 : Unit := ()
def law_holds.tw16748530446032259785 : Unit := ()
def law_holds.tw7270174664926038860 : Unit := ()
def law_holds.tw11692766598139813090 : Unit := ()
def law_holds.tw10621807850059034335 : Unit := ()
def law_holds.tw14612746518395292812 : Unit := ()
-- ENDTWINS
set_option Elab.async true in
theorem law_holds : PySem.Challenge.rw_fc0053_01.Holds := by
  w_on
  o_law
  o_head (kHook Mine.heapK [2, 3, 15, 17, 18, 20, 21, 22, 23, 24, 25, 26, 27, 30, 31, 39, 40, 42, 43, 45, 46, 47, 49, 50, 52, 53, 54, 56, 57, 59, 60, 61, 62, 63, 64, 65, 75, 76, 78, 79, 81, 82, 83, 84, 85, 86, 88, 89, 91, 92, 93, 94, 95, 96, 97, 98, 99, 100, 103, 105, 106, 108, 109, 110, 112, 113, 115, 116, 117, 119, 120, 122, 123, 124, 126, 127, 129, 130, 131, 133, 134, 136, 137, 145, 146, 147, 148, 149, 152, 154, 155, 157, 158, 159, 162, 163, 164, 166, 167, 169, 170, 171, 174, 175, 176, 179, 180, 181, 184, 185, 186, 187, 189, 190, 192, 193, 194, 196, 197, 199, 200, 201, 203, 204, 206, 207, 208, 210, 211, 213, 214, 215, 217, 218, 220, 221, 222, 224, 225, 227, 228, 229, 236, 237, 238, 239, 249, 251, 252, 254, 255, 256, 257, 258, 259, 260, 261, 264, 271, 272, 273, 276, 283, 284, 285, 288, 295, 296, 298, 299, 301, 302, 303, 305, 306, 308, 309, 310, 312, 313, 315, 316, 317, 319, 320, 322, 323, 324, 325, 327, 328, 330, 331, 332, 334, 335, 337, 338, 339, 341, 342, 344, 345, 346, 348, 349, 351, 352, 353, 355, 356, 358, 359, 360, 362, 363, 365, 366, 367, 369, 370, 372, 373, 374, 376, 377, 379, 380, 381, 383, 384, 386, 387, 388, 390, 391, 393, 394, 395, 397, 398, 400, 401, 402, 404, 405, 407, 408, 409, 411, 412, 414, 415, 416, 417, 419, 420, 422, 423, 424, 425, 427, 428, 430, 431, 432, 433, 435, 436, 438, 439, 440, 441, 443, 444, 446, 447, 448, 450, 451, 453, 454, 455, 457, 458, 460, 461, 462, 463, 465, 466, 468, 469, 470, 471, 473, 474, 476, 477, 478, 480, 481, 483, 484, 485, 487, 488, 490, 491, 492, 494, 495, 497, 498, 499, 501, 502, 504, 505, 506, 508, 509, 511, 512, 513, 514, 515, 518, 525, 526, 528, 529, 531, 532, 533, 535, 536, 538, 539, 540, 542, 543, 545, 546, 547, 549, 550, 552, 553, 554, 556, 557, 559, 560, 561, 563, 564, 566, 567, 568, 569, 571, 572, 574, 575, 576, 577, 579, 580, 582, 583, 584, 585, 587, 588, 590, 591, 592, 593, 595, 596, 598, 599, 600, 601, 603, 604, 606, 607, 608, 610, 611, 613, 614, 615, 617, 618, 620, 621, 622, 624, 625, 627, 628, 629, 631, 632, 634, 635, 636, 638, 639, 641, 642, 643, 645, 646, 648, 649, 650, 652, 653, 655, 656, 657, 659, 660, 662, 663, 664, 666, 667, 669, 670, 671, 673, 674, 676, 677, 678, 680, 681, 683, 684, 685, 686, 688, 689, 691, 692, 693, 694, 696, 697, 699, 700, 701, 702, 704, 705, 707, 708, 709, 710, 712, 713, 715, 716, 717, 718, 720, 721, 723, 724, 725, 727, 728, 730, 731, 732, 734, 735, 737, 738, 739, 741, 742, 744, 745, 746, 748, 749, 751, 752, 753, 755, 756, 758, 759, 760, 761, 762, 765, 772, 773, 774, 775, 785, 787, 788, 790, 791, 792, 793, 794, 795, 797, 798, 800, 801, 802, 803, 804, 805, 807, 808, 810, 811, 812, 814, 815, 817, 818, 819, 821, 822, 824, 825, 826, 828, 829, 831, 832, 833, 834, 835, 836, 838, 839, 841, 842, 843, 845, 846, 848, 849, 850, 852, 853, 855, 856, 857, 859, 860, 862, 863, 864, 865, 866, 867, 868, 871, 878, 879, 881, 882, 884, 885, 886, 887, 889, 890, 892, 893, 894, 896, 897, 899, 900, 901, 903, 904, 906, 907, 908, 910, 911, 913, 914, 915, 917, 918, 920, 921, 922, 923, 924, 925, 927, 928, 930, 931, 932, 933, 934, 935, 937, 938, 940, 941, 942, 944, 945, 947, 948, 949, 951, 952, 954, 955, 956, 958, 959, 961, 962, 963, 964, 965, 968, 970, 971, 973, 974, 975, 977, 978, 980, 981, 982, 984, 985, 987, 988, 989, 991, 992, 994, 995, 996, 998, 999, 1001, 1002, 1003, 1005, 1006, 1008, 1009, 1010, 1012, 1013, 1015, 1016, 1017, 1020, 1021] (fun _ => by kernel_rfl))
  case hw => w_witness2
  intro w s₀ s₁ mg mb G Y fa o pm cd doc dV kV ho hd hcd hD hmg hg args vals as hpre hlay hrd hwl hlo
  have KX := kIn_of Y
  refine Ground.open G ?_
  intro T B D TE TW
  have hfa : fa = 1021 := by
    have h1 : mg "law" = some (.ref 1021) := mg_of KX T.g (gl_law w)
    have h2 : mg "law" = some (.ref fa) := hmg
    rw [h1] at h2
    cases h2
    rfl
  clear hd hcd hD hmg B D TE TW ho
  subst hfa
  wrow_args hpre hlay hrd hwl hlo
  rename_i xs _ _ _ _ _ _ _ l vs _ hL _ _ _ hI _ hlen _
  obtain ⟨hB, hC, hT⟩ := base_top KX T hg (fun a ha => by
    obtain ⟨a', o, fd, c, P, h1, h2⟩ := T.tab _ (List.mem_of_find?_eq_some (p := fun e : DefRec => e.name == "bech32_decode") rfl)
    have h1' : mg "bech32_decode" = some (.ref a') := h1
    rw [ha] at h1'
    cases h1'
    exact ⟨o, fd, c, P, h2⟩) (T.seer rfl)
  have main : wpAny (Mw w) callerA (call (.ref 1021) [.ref l]) (fun v s' => Base w (hideAll s₁.heap [182]) s₁.os s' ∧ Gr [] s₁.heap s'.heap ∧ Rep [] s'.heap v (.bool true)) (fun _ _ => False) s₁ := law_top hB hL hI (by omega)
  refine wpAny_mono main (fun v s' ⟨b, g, r⟩ => ?_) fun _ _ f => f.elim
  cases r
  refine ⟨.inl ⟨_, .bool true, [], rfl, raisesW_false (by wrow_none_raised), ReadsW.bool true, (by wrow_post), fun _ => ⟨List.nodup_nil, fun a ha => by cases ha⟩⟩, ⟨fun b' o e => ?_, fun b' o e => ?_⟩, b.os, b.bare⟩
  · obtain ⟨ps, p1, p2⟩ := b.gi
    by_cases q : b' = 182
    · subst q
      rw [hT] at e
      cases e
      exact .inr (.inl ⟨hC, rfl, #[], ps, rfl, by simpa using p1⟩)
    · exact .inl (g.kc _ _ e q (by simp))
  · obtain ⟨ps, p1, p2⟩ := b.gi
    by_cases q : b' = 182
    · subst q
      exact ⟨_, p1⟩
    · exact ⟨o, g.kc _ _ e q (by simp)⟩
end Mine
end
theorem PySem.Challenge.cw_fc0053_01_holds : PySem.Challenge.rw_fc0053_01.Holds :=
  Mine.law_holds
